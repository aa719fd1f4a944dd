import PyProof.Rows.All
import Wide.All
import OpenK.AllK
import Wide.FinOn
import PyProof.ZipIter
import PyProof.Rows.DictMethods
import PyProof.Rows.ListMul
import KE.KCallOwn
import KE.KDictIter
import KE.KIntText
import KE.KLcPair
import KE.KNestM
import KE.KPar
import KE.KStar
import KE.KSuper
import Lean
import PySem.Challenge.RW_ny0227_01
set_option Elab.async false
set_option maxRecDepth 100000
set_option compiler.extract_closed false
set_option linter.all false

section
namespace Mine
/- eliminations and introductions: some variables, some statements, at once -/
theorem I1 {α0 : Type} {q : α0 → Prop} (x0 : α0) (h : q x0) : ∃ x0, q x0 := ⟨x0, h⟩
theorem I2 {α0 α1 : Type} {q : α0 → α1 → Prop} (x0 : α0) (x1 : α1) (h : q x0 x1) : ∃ x0 x1, q x0 x1 := ⟨x0, x1, h⟩
theorem I3 {α0 α1 α2 : Type} {q : α0 → α1 → α2 → Prop} (x0 : α0) (x1 : α1) (x2 : α2) (h : q x0 x1 x2) : ∃ x0 x1 x2, q x0 x1 x2 := ⟨x0, x1, x2, h⟩
theorem I4 {α0 α1 α2 α3 : Type} {q : α0 → α1 → α2 → α3 → Prop} (x0 : α0) (x1 : α1) (x2 : α2) (x3 : α3) (h : q x0 x1 x2 x3) : ∃ x0 x1 x2 x3, q x0 x1 x2 x3 := ⟨x0, x1, x2, x3, h⟩
theorem I5 {α0 α1 α2 α3 α4 : Type} {q : α0 → α1 → α2 → α3 → α4 → Prop} (x0 : α0) (x1 : α1) (x2 : α2) (x3 : α3) (x4 : α4) (h : q x0 x1 x2 x3 x4) : ∃ x0 x1 x2 x3 x4, q x0 x1 x2 x3 x4 := ⟨x0, x1, x2, x3, x4, h⟩
theorem I6 {α0 α1 α2 α3 α4 α5 : Type} {q : α0 → α1 → α2 → α3 → α4 → α5 → Prop} (x0 : α0) (x1 : α1) (x2 : α2) (x3 : α3) (x4 : α4) (x5 : α5) (h : q x0 x1 x2 x3 x4 x5) : ∃ x0 x1 x2 x3 x4 x5, q x0 x1 x2 x3 x4 x5 := ⟨x0, x1, x2, x3, x4, x5, h⟩
theorem I7 {α0 α1 α2 α3 α4 α5 α6 : Type} {q : α0 → α1 → α2 → α3 → α4 → α5 → α6 → Prop} (x0 : α0) (x1 : α1) (x2 : α2) (x3 : α3) (x4 : α4) (x5 : α5) (x6 : α6) (h : q x0 x1 x2 x3 x4 x5 x6) : ∃ x0 x1 x2 x3 x4 x5 x6, q x0 x1 x2 x3 x4 x5 x6 := ⟨x0, x1, x2, x3, x4, x5, x6, h⟩
theorem I8 {α0 α1 α2 α3 α4 α5 α6 α7 : Type} {q : α0 → α1 → α2 → α3 → α4 → α5 → α6 → α7 → Prop} (x0 : α0) (x1 : α1) (x2 : α2) (x3 : α3) (x4 : α4) (x5 : α5) (x6 : α6) (x7 : α7) (h : q x0 x1 x2 x3 x4 x5 x6 x7) : ∃ x0 x1 x2 x3 x4 x5 x6 x7, q x0 x1 x2 x3 x4 x5 x6 x7 := ⟨x0, x1, x2, x3, x4, x5, x6, x7, h⟩
theorem I9 {α0 α1 α2 α3 α4 α5 α6 α7 α8 : Type} {q : α0 → α1 → α2 → α3 → α4 → α5 → α6 → α7 → α8 → Prop} (x0 : α0) (x1 : α1) (x2 : α2) (x3 : α3) (x4 : α4) (x5 : α5) (x6 : α6) (x7 : α7) (x8 : α8) (h : q x0 x1 x2 x3 x4 x5 x6 x7 x8) : ∃ x0 x1 x2 x3 x4 x5 x6 x7 x8, q x0 x1 x2 x3 x4 x5 x6 x7 x8 := ⟨x0, x1, x2, x3, x4, x5, x6, x7, x8, h⟩
theorem I10 {α0 α1 α2 α3 α4 α5 α6 α7 α8 α9 : Type} {q : α0 → α1 → α2 → α3 → α4 → α5 → α6 → α7 → α8 → α9 → Prop} (x0 : α0) (x1 : α1) (x2 : α2) (x3 : α3) (x4 : α4) (x5 : α5) (x6 : α6) (x7 : α7) (x8 : α8) (x9 : α9) (h : q x0 x1 x2 x3 x4 x5 x6 x7 x8 x9) : ∃ x0 x1 x2 x3 x4 x5 x6 x7 x8 x9, q x0 x1 x2 x3 x4 x5 x6 x7 x8 x9 := ⟨x0, x1, x2, x3, x4, x5, x6, x7, x8, x9, h⟩
theorem E1 {α0 : Type} {q : α0 → Prop} {C : Prop} (h : ∃ x0, q x0) (k : ∀ x0, q x0 → C) : C := h.elim fun x0 h => k x0 h
theorem E2 {α0 α1 : Type} {q : α0 → α1 → Prop} {C : Prop} (h : ∃ x0 x1, q x0 x1) (k : ∀ x0 x1, q x0 x1 → C) : C := h.elim fun x0 h => h.elim fun x1 h => k x0 x1 h
theorem E3 {α0 α1 α2 : Type} {q : α0 → α1 → α2 → Prop} {C : Prop} (h : ∃ x0 x1 x2, q x0 x1 x2) (k : ∀ x0 x1 x2, q x0 x1 x2 → C) : C := h.elim fun x0 h => h.elim fun x1 h => h.elim fun x2 h => k x0 x1 x2 h
theorem E4 {α0 α1 α2 α3 : Type} {q : α0 → α1 → α2 → α3 → Prop} {C : Prop} (h : ∃ x0 x1 x2 x3, q x0 x1 x2 x3) (k : ∀ x0 x1 x2 x3, q x0 x1 x2 x3 → C) : C := h.elim fun x0 h => h.elim fun x1 h => h.elim fun x2 h => h.elim fun x3 h => k x0 x1 x2 x3 h
theorem E5 {α0 α1 α2 α3 α4 : Type} {q : α0 → α1 → α2 → α3 → α4 → Prop} {C : Prop} (h : ∃ x0 x1 x2 x3 x4, q x0 x1 x2 x3 x4) (k : ∀ x0 x1 x2 x3 x4, q x0 x1 x2 x3 x4 → C) : C := h.elim fun x0 h => h.elim fun x1 h => h.elim fun x2 h => h.elim fun x3 h => h.elim fun x4 h => k x0 x1 x2 x3 x4 h
theorem E7 {α0 α1 α2 α3 α4 α5 α6 : Type} {q : α0 → α1 → α2 → α3 → α4 → α5 → α6 → Prop} {C : Prop} (h : ∃ x0 x1 x2 x3 x4 x5 x6, q x0 x1 x2 x3 x4 x5 x6) (k : ∀ x0 x1 x2 x3 x4 x5 x6, q x0 x1 x2 x3 x4 x5 x6 → C) : C := h.elim fun x0 h => h.elim fun x1 h => h.elim fun x2 h => h.elim fun x3 h => h.elim fun x4 h => h.elim fun x5 h => h.elim fun x6 h => k x0 x1 x2 x3 x4 x5 x6 h
theorem E8 {α0 α1 α2 α3 α4 α5 α6 α7 : Type} {q : α0 → α1 → α2 → α3 → α4 → α5 → α6 → α7 → Prop} {C : Prop} (h : ∃ x0 x1 x2 x3 x4 x5 x6 x7, q x0 x1 x2 x3 x4 x5 x6 x7) (k : ∀ x0 x1 x2 x3 x4 x5 x6 x7, q x0 x1 x2 x3 x4 x5 x6 x7 → C) : C := h.elim fun x0 h => h.elim fun x1 h => h.elim fun x2 h => h.elim fun x3 h => h.elim fun x4 h => h.elim fun x5 h => h.elim fun x6 h => h.elim fun x7 h => k x0 x1 x2 x3 x4 x5 x6 x7 h
theorem E9 {α0 α1 α2 α3 α4 α5 α6 α7 α8 : Type} {q : α0 → α1 → α2 → α3 → α4 → α5 → α6 → α7 → α8 → Prop} {C : Prop} (h : ∃ x0 x1 x2 x3 x4 x5 x6 x7 x8, q x0 x1 x2 x3 x4 x5 x6 x7 x8) (k : ∀ x0 x1 x2 x3 x4 x5 x6 x7 x8, q x0 x1 x2 x3 x4 x5 x6 x7 x8 → C) : C := h.elim fun x0 h => h.elim fun x1 h => h.elim fun x2 h => h.elim fun x3 h => h.elim fun x4 h => h.elim fun x5 h => h.elim fun x6 h => h.elim fun x7 h => h.elim fun x8 h => k x0 x1 x2 x3 x4 x5 x6 x7 x8 h
theorem E10 {α0 α1 α2 α3 α4 α5 α6 α7 α8 α9 : Type} {q : α0 → α1 → α2 → α3 → α4 → α5 → α6 → α7 → α8 → α9 → Prop} {C : Prop} (h : ∃ x0 x1 x2 x3 x4 x5 x6 x7 x8 x9, q x0 x1 x2 x3 x4 x5 x6 x7 x8 x9) (k : ∀ x0 x1 x2 x3 x4 x5 x6 x7 x8 x9, q x0 x1 x2 x3 x4 x5 x6 x7 x8 x9 → C) : C := h.elim fun x0 h => h.elim fun x1 h => h.elim fun x2 h => h.elim fun x3 h => h.elim fun x4 h => h.elim fun x5 h => h.elim fun x6 h => h.elim fun x7 h => h.elim fun x8 h => h.elim fun x9 h => k x0 x1 x2 x3 x4 x5 x6 x7 x8 x9 h
theorem a2 {p0 p1 : Prop} (h0 : p0) (h1 : p1) : p0 ∧ p1 := ⟨h0, h1⟩
theorem a3 {p0 p1 p2 : Prop} (h0 : p0) (h1 : p1) (h2 : p2) : p0 ∧ p1 ∧ p2 := ⟨h0, h1, h2⟩
theorem a4 {p0 p1 p2 p3 : Prop} (h0 : p0) (h1 : p1) (h2 : p2) (h3 : p3) : p0 ∧ p1 ∧ p2 ∧ p3 := ⟨h0, h1, h2, h3⟩
theorem a5 {p0 p1 p2 p3 p4 : Prop} (h0 : p0) (h1 : p1) (h2 : p2) (h3 : p3) (h4 : p4) : p0 ∧ p1 ∧ p2 ∧ p3 ∧ p4 := ⟨h0, h1, h2, h3, h4⟩
theorem a6 {p0 p1 p2 p3 p4 p5 : Prop} (h0 : p0) (h1 : p1) (h2 : p2) (h3 : p3) (h4 : p4) (h5 : p5) : p0 ∧ p1 ∧ p2 ∧ p3 ∧ p4 ∧ p5 := ⟨h0, h1, h2, h3, h4, h5⟩
theorem a7 {p0 p1 p2 p3 p4 p5 p6 : Prop} (h0 : p0) (h1 : p1) (h2 : p2) (h3 : p3) (h4 : p4) (h5 : p5) (h6 : p6) : p0 ∧ p1 ∧ p2 ∧ p3 ∧ p4 ∧ p5 ∧ p6 := ⟨h0, h1, h2, h3, h4, h5, h6⟩
theorem a8 {p0 p1 p2 p3 p4 p5 p6 p7 : Prop} (h0 : p0) (h1 : p1) (h2 : p2) (h3 : p3) (h4 : p4) (h5 : p5) (h6 : p6) (h7 : p7) : p0 ∧ p1 ∧ p2 ∧ p3 ∧ p4 ∧ p5 ∧ p6 ∧ p7 := ⟨h0, h1, h2, h3, h4, h5, h6, h7⟩
theorem a9 {p0 p1 p2 p3 p4 p5 p6 p7 p8 : Prop} (h0 : p0) (h1 : p1) (h2 : p2) (h3 : p3) (h4 : p4) (h5 : p5) (h6 : p6) (h7 : p7) (h8 : p8) : p0 ∧ p1 ∧ p2 ∧ p3 ∧ p4 ∧ p5 ∧ p6 ∧ p7 ∧ p8 := ⟨h0, h1, h2, h3, h4, h5, h6, h7, h8⟩
theorem a10 {p0 p1 p2 p3 p4 p5 p6 p7 p8 p9 : Prop} (h0 : p0) (h1 : p1) (h2 : p2) (h3 : p3) (h4 : p4) (h5 : p5) (h6 : p6) (h7 : p7) (h8 : p8) (h9 : p9) : p0 ∧ p1 ∧ p2 ∧ p3 ∧ p4 ∧ p5 ∧ p6 ∧ p7 ∧ p8 ∧ p9 := ⟨h0, h1, h2, h3, h4, h5, h6, h7, h8, h9⟩
theorem a11 {p0 p1 p2 p3 p4 p5 p6 p7 p8 p9 p10 : Prop} (h0 : p0) (h1 : p1) (h2 : p2) (h3 : p3) (h4 : p4) (h5 : p5) (h6 : p6) (h7 : p7) (h8 : p8) (h9 : p9) (h10 : p10) : p0 ∧ p1 ∧ p2 ∧ p3 ∧ p4 ∧ p5 ∧ p6 ∧ p7 ∧ p8 ∧ p9 ∧ p10 := ⟨h0, h1, h2, h3, h4, h5, h6, h7, h8, h9, h10⟩
theorem a12 {p0 p1 p2 p3 p4 p5 p6 p7 p8 p9 p10 p11 : Prop} (h0 : p0) (h1 : p1) (h2 : p2) (h3 : p3) (h4 : p4) (h5 : p5) (h6 : p6) (h7 : p7) (h8 : p8) (h9 : p9) (h10 : p10) (h11 : p11) : p0 ∧ p1 ∧ p2 ∧ p3 ∧ p4 ∧ p5 ∧ p6 ∧ p7 ∧ p8 ∧ p9 ∧ p10 ∧ p11 := ⟨h0, h1, h2, h3, h4, h5, h6, h7, h8, h9, h10, h11⟩
theorem a13 {p0 p1 p2 p3 p4 p5 p6 p7 p8 p9 p10 p11 p12 : Prop} (h0 : p0) (h1 : p1) (h2 : p2) (h3 : p3) (h4 : p4) (h5 : p5) (h6 : p6) (h7 : p7) (h8 : p8) (h9 : p9) (h10 : p10) (h11 : p11) (h12 : p12) : p0 ∧ p1 ∧ p2 ∧ p3 ∧ p4 ∧ p5 ∧ p6 ∧ p7 ∧ p8 ∧ p9 ∧ p10 ∧ p11 ∧ p12 := ⟨h0, h1, h2, h3, h4, h5, h6, h7, h8, h9, h10, h11, h12⟩
theorem a14 {p0 p1 p2 p3 p4 p5 p6 p7 p8 p9 p10 p11 p12 p13 : Prop} (h0 : p0) (h1 : p1) (h2 : p2) (h3 : p3) (h4 : p4) (h5 : p5) (h6 : p6) (h7 : p7) (h8 : p8) (h9 : p9) (h10 : p10) (h11 : p11) (h12 : p12) (h13 : p13) : p0 ∧ p1 ∧ p2 ∧ p3 ∧ p4 ∧ p5 ∧ p6 ∧ p7 ∧ p8 ∧ p9 ∧ p10 ∧ p11 ∧ p12 ∧ p13 := ⟨h0, h1, h2, h3, h4, h5, h6, h7, h8, h9, h10, h11, h12, h13⟩
theorem e0_2 {p0 p1 : Prop} {C : Prop} (h : p0 ∧ p1) (k : p0 → p1 → C) : C := k h.1 h.2
theorem e0_3 {p0 p1 p2 : Prop} {C : Prop} (h : p0 ∧ p1 ∧ p2) (k : p0 → p1 → p2 → C) : C := k h.1 h.2.1 h.2.2
theorem e0_4 {p0 p1 p2 p3 : Prop} {C : Prop} (h : p0 ∧ p1 ∧ p2 ∧ p3) (k : p0 → p1 → p2 → p3 → C) : C := k h.1 h.2.1 h.2.2.1 h.2.2.2
theorem e0_5 {p0 p1 p2 p3 p4 : Prop} {C : Prop} (h : p0 ∧ p1 ∧ p2 ∧ p3 ∧ p4) (k : p0 → p1 → p2 → p3 → p4 → C) : C := k h.1 h.2.1 h.2.2.1 h.2.2.2.1 h.2.2.2.2
theorem e0_6 {p0 p1 p2 p3 p4 p5 : Prop} {C : Prop} (h : p0 ∧ p1 ∧ p2 ∧ p3 ∧ p4 ∧ p5) (k : p0 → p1 → p2 → p3 → p4 → p5 → C) : C := k h.1 h.2.1 h.2.2.1 h.2.2.2.1 h.2.2.2.2.1 h.2.2.2.2.2
theorem e0_7 {p0 p1 p2 p3 p4 p5 p6 : Prop} {C : Prop} (h : p0 ∧ p1 ∧ p2 ∧ p3 ∧ p4 ∧ p5 ∧ p6) (k : p0 → p1 → p2 → p3 → p4 → p5 → p6 → C) : C := k h.1 h.2.1 h.2.2.1 h.2.2.2.1 h.2.2.2.2.1 h.2.2.2.2.2.1 h.2.2.2.2.2.2
theorem e0_8 {p0 p1 p2 p3 p4 p5 p6 p7 : Prop} {C : Prop} (h : p0 ∧ p1 ∧ p2 ∧ p3 ∧ p4 ∧ p5 ∧ p6 ∧ p7) (k : p0 → p1 → p2 → p3 → p4 → p5 → p6 → p7 → C) : C := k h.1 h.2.1 h.2.2.1 h.2.2.2.1 h.2.2.2.2.1 h.2.2.2.2.2.1 h.2.2.2.2.2.2.1 h.2.2.2.2.2.2.2
theorem e0_9 {p0 p1 p2 p3 p4 p5 p6 p7 p8 : Prop} {C : Prop} (h : p0 ∧ p1 ∧ p2 ∧ p3 ∧ p4 ∧ p5 ∧ p6 ∧ p7 ∧ p8) (k : p0 → p1 → p2 → p3 → p4 → p5 → p6 → p7 → p8 → C) : C := k h.1 h.2.1 h.2.2.1 h.2.2.2.1 h.2.2.2.2.1 h.2.2.2.2.2.1 h.2.2.2.2.2.2.1 h.2.2.2.2.2.2.2.1 h.2.2.2.2.2.2.2.2
theorem e0_10 {p0 p1 p2 p3 p4 p5 p6 p7 p8 p9 : Prop} {C : Prop} (h : p0 ∧ p1 ∧ p2 ∧ p3 ∧ p4 ∧ p5 ∧ p6 ∧ p7 ∧ p8 ∧ p9) (k : p0 → p1 → p2 → p3 → p4 → p5 → p6 → p7 → p8 → p9 → C) : C := k h.1 h.2.1 h.2.2.1 h.2.2.2.1 h.2.2.2.2.1 h.2.2.2.2.2.1 h.2.2.2.2.2.2.1 h.2.2.2.2.2.2.2.1 h.2.2.2.2.2.2.2.2.1 h.2.2.2.2.2.2.2.2.2
theorem e0_11 {p0 p1 p2 p3 p4 p5 p6 p7 p8 p9 p10 : Prop} {C : Prop} (h : p0 ∧ p1 ∧ p2 ∧ p3 ∧ p4 ∧ p5 ∧ p6 ∧ p7 ∧ p8 ∧ p9 ∧ p10) (k : p0 → p1 → p2 → p3 → p4 → p5 → p6 → p7 → p8 → p9 → p10 → C) : C := k h.1 h.2.1 h.2.2.1 h.2.2.2.1 h.2.2.2.2.1 h.2.2.2.2.2.1 h.2.2.2.2.2.2.1 h.2.2.2.2.2.2.2.1 h.2.2.2.2.2.2.2.2.1 h.2.2.2.2.2.2.2.2.2.1 h.2.2.2.2.2.2.2.2.2.2
theorem e0_12 {p0 p1 p2 p3 p4 p5 p6 p7 p8 p9 p10 p11 : Prop} {C : Prop} (h : p0 ∧ p1 ∧ p2 ∧ p3 ∧ p4 ∧ p5 ∧ p6 ∧ p7 ∧ p8 ∧ p9 ∧ p10 ∧ p11) (k : p0 → p1 → p2 → p3 → p4 → p5 → p6 → p7 → p8 → p9 → p10 → p11 → C) : C := k h.1 h.2.1 h.2.2.1 h.2.2.2.1 h.2.2.2.2.1 h.2.2.2.2.2.1 h.2.2.2.2.2.2.1 h.2.2.2.2.2.2.2.1 h.2.2.2.2.2.2.2.2.1 h.2.2.2.2.2.2.2.2.2.1 h.2.2.2.2.2.2.2.2.2.2.1 h.2.2.2.2.2.2.2.2.2.2.2
theorem e0_13 {p0 p1 p2 p3 p4 p5 p6 p7 p8 p9 p10 p11 p12 : Prop} {C : Prop} (h : p0 ∧ p1 ∧ p2 ∧ p3 ∧ p4 ∧ p5 ∧ p6 ∧ p7 ∧ p8 ∧ p9 ∧ p10 ∧ p11 ∧ p12) (k : p0 → p1 → p2 → p3 → p4 → p5 → p6 → p7 → p8 → p9 → p10 → p11 → p12 → C) : C := k h.1 h.2.1 h.2.2.1 h.2.2.2.1 h.2.2.2.2.1 h.2.2.2.2.2.1 h.2.2.2.2.2.2.1 h.2.2.2.2.2.2.2.1 h.2.2.2.2.2.2.2.2.1 h.2.2.2.2.2.2.2.2.2.1 h.2.2.2.2.2.2.2.2.2.2.1 h.2.2.2.2.2.2.2.2.2.2.2.1 h.2.2.2.2.2.2.2.2.2.2.2.2
theorem e0_14 {p0 p1 p2 p3 p4 p5 p6 p7 p8 p9 p10 p11 p12 p13 : Prop} {C : Prop} (h : p0 ∧ p1 ∧ p2 ∧ p3 ∧ p4 ∧ p5 ∧ p6 ∧ p7 ∧ p8 ∧ p9 ∧ p10 ∧ p11 ∧ p12 ∧ p13) (k : p0 → p1 → p2 → p3 → p4 → p5 → p6 → p7 → p8 → p9 → p10 → p11 → p12 → p13 → C) : C := k h.1 h.2.1 h.2.2.1 h.2.2.2.1 h.2.2.2.2.1 h.2.2.2.2.2.1 h.2.2.2.2.2.2.1 h.2.2.2.2.2.2.2.1 h.2.2.2.2.2.2.2.2.1 h.2.2.2.2.2.2.2.2.2.1 h.2.2.2.2.2.2.2.2.2.2.1 h.2.2.2.2.2.2.2.2.2.2.2.1 h.2.2.2.2.2.2.2.2.2.2.2.2.1 h.2.2.2.2.2.2.2.2.2.2.2.2.2
theorem e1_2 {α0 : Type} {p0 p1 : α0 → Prop} {C : Prop} (h : ∃ x0, p0 x0 ∧ p1 x0) (k : ∀ x0, p0 x0 → p1 x0 → C) : C := E1 h fun x0 h => k x0 h.1 h.2
theorem e1_3 {α0 : Type} {p0 p1 p2 : α0 → Prop} {C : Prop} (h : ∃ x0, p0 x0 ∧ p1 x0 ∧ p2 x0) (k : ∀ x0, p0 x0 → p1 x0 → p2 x0 → C) : C := E1 h fun x0 h => k x0 h.1 h.2.1 h.2.2
theorem e1_4 {α0 : Type} {p0 p1 p2 p3 : α0 → Prop} {C : Prop} (h : ∃ x0, p0 x0 ∧ p1 x0 ∧ p2 x0 ∧ p3 x0) (k : ∀ x0, p0 x0 → p1 x0 → p2 x0 → p3 x0 → C) : C := E1 h fun x0 h => k x0 h.1 h.2.1 h.2.2.1 h.2.2.2
theorem e2_1 {α0 α1 : Type} {p0 : α0 → α1 → Prop} {C : Prop} (h : ∃ x0 x1, p0 x0 x1) (k : ∀ x0 x1, p0 x0 x1 → C) : C := E2 h fun x0 x1 h => k x0 x1 h
theorem e2_2 {α0 α1 : Type} {p0 p1 : α0 → α1 → Prop} {C : Prop} (h : ∃ x0 x1, p0 x0 x1 ∧ p1 x0 x1) (k : ∀ x0 x1, p0 x0 x1 → p1 x0 x1 → C) : C := E2 h fun x0 x1 h => k x0 x1 h.1 h.2
theorem e2_3 {α0 α1 : Type} {p0 p1 p2 : α0 → α1 → Prop} {C : Prop} (h : ∃ x0 x1, p0 x0 x1 ∧ p1 x0 x1 ∧ p2 x0 x1) (k : ∀ x0 x1, p0 x0 x1 → p1 x0 x1 → p2 x0 x1 → C) : C := E2 h fun x0 x1 h => k x0 x1 h.1 h.2.1 h.2.2
theorem e3_2 {α0 α1 α2 : Type} {p0 p1 : α0 → α1 → α2 → Prop} {C : Prop} (h : ∃ x0 x1 x2, p0 x0 x1 x2 ∧ p1 x0 x1 x2) (k : ∀ x0 x1 x2, p0 x0 x1 x2 → p1 x0 x1 x2 → C) : C := E3 h fun x0 x1 x2 h => k x0 x1 x2 h.1 h.2
theorem e3_3 {α0 α1 α2 : Type} {p0 p1 p2 : α0 → α1 → α2 → Prop} {C : Prop} (h : ∃ x0 x1 x2, p0 x0 x1 x2 ∧ p1 x0 x1 x2 ∧ p2 x0 x1 x2) (k : ∀ x0 x1 x2, p0 x0 x1 x2 → p1 x0 x1 x2 → p2 x0 x1 x2 → C) : C := E3 h fun x0 x1 x2 h => k x0 x1 x2 h.1 h.2.1 h.2.2
theorem e3_4 {α0 α1 α2 : Type} {p0 p1 p2 p3 : α0 → α1 → α2 → Prop} {C : Prop} (h : ∃ x0 x1 x2, p0 x0 x1 x2 ∧ p1 x0 x1 x2 ∧ p2 x0 x1 x2 ∧ p3 x0 x1 x2) (k : ∀ x0 x1 x2, p0 x0 x1 x2 → p1 x0 x1 x2 → p2 x0 x1 x2 → p3 x0 x1 x2 → C) : C := E3 h fun x0 x1 x2 h => k x0 x1 x2 h.1 h.2.1 h.2.2.1 h.2.2.2
theorem e4_6 {α0 α1 α2 α3 : Type} {p0 p1 p2 p3 p4 p5 : α0 → α1 → α2 → α3 → Prop} {C : Prop} (h : ∃ x0 x1 x2 x3, p0 x0 x1 x2 x3 ∧ p1 x0 x1 x2 x3 ∧ p2 x0 x1 x2 x3 ∧ p3 x0 x1 x2 x3 ∧ p4 x0 x1 x2 x3 ∧ p5 x0 x1 x2 x3) (k : ∀ x0 x1 x2 x3, p0 x0 x1 x2 x3 → p1 x0 x1 x2 x3 → p2 x0 x1 x2 x3 → p3 x0 x1 x2 x3 → p4 x0 x1 x2 x3 → p5 x0 x1 x2 x3 → C) : C := E4 h fun x0 x1 x2 x3 h => k x0 x1 x2 x3 h.1 h.2.1 h.2.2.1 h.2.2.2.1 h.2.2.2.2.1 h.2.2.2.2.2
theorem i0_4 {p0 p1 p2 p3 : Prop} (h0 : p0) (h1 : p1) (h2 : p2) (h3 : p3) : p0 ∧ p1 ∧ p2 ∧ p3 := ⟨h0, h1, h2, h3⟩
theorem i0_5 {p0 p1 p2 p3 p4 : Prop} (h0 : p0) (h1 : p1) (h2 : p2) (h3 : p3) (h4 : p4) : p0 ∧ p1 ∧ p2 ∧ p3 ∧ p4 := ⟨h0, h1, h2, h3, h4⟩
theorem i0_6 {p0 p1 p2 p3 p4 p5 : Prop} (h0 : p0) (h1 : p1) (h2 : p2) (h3 : p3) (h4 : p4) (h5 : p5) : p0 ∧ p1 ∧ p2 ∧ p3 ∧ p4 ∧ p5 := ⟨h0, h1, h2, h3, h4, h5⟩
theorem i1_2 {α0 : Type} {p0 p1 : α0 → Prop} (x0 : α0) (h0 : p0 x0) (h1 : p1 x0) : ∃ x0, p0 x0 ∧ p1 x0 := I1 x0 ⟨h0, h1⟩
theorem i1_3 {α0 : Type} {p0 p1 p2 : α0 → Prop} (x0 : α0) (h0 : p0 x0) (h1 : p1 x0) (h2 : p2 x0) : ∃ x0, p0 x0 ∧ p1 x0 ∧ p2 x0 := I1 x0 ⟨h0, h1, h2⟩
theorem i1_7 {α0 : Type} {p0 p1 p2 p3 p4 p5 p6 : α0 → Prop} (x0 : α0) (h0 : p0 x0) (h1 : p1 x0) (h2 : p2 x0) (h3 : p3 x0) (h4 : p4 x0) (h5 : p5 x0) (h6 : p6 x0) : ∃ x0, p0 x0 ∧ p1 x0 ∧ p2 x0 ∧ p3 x0 ∧ p4 x0 ∧ p5 x0 ∧ p6 x0 := I1 x0 ⟨h0, h1, h2, h3, h4, h5, h6⟩
theorem i2_2 {α0 α1 : Type} {p0 p1 : α0 → α1 → Prop} (x0 : α0) (x1 : α1) (h0 : p0 x0 x1) (h1 : p1 x0 x1) : ∃ x0 x1, p0 x0 x1 ∧ p1 x0 x1 := I2 x0 x1 ⟨h0, h1⟩
theorem i2_3 {α0 α1 : Type} {p0 p1 p2 : α0 → α1 → Prop} (x0 : α0) (x1 : α1) (h0 : p0 x0 x1) (h1 : p1 x0 x1) (h2 : p2 x0 x1) : ∃ x0 x1, p0 x0 x1 ∧ p1 x0 x1 ∧ p2 x0 x1 := I2 x0 x1 ⟨h0, h1, h2⟩
end Mine
end

section
open PySem PySem.W PySem.W.X PyProof.Rows PySem.Calls
open Sem (wp)
set_option maxRecDepth 100000
namespace Mine
/- ## the logic for what runs above the claim's caller: a refusal is not marked there -/
def InC (Γ : Ctx) : Prop := (Γ.code.isCaller || Γ.below.any fun x => x.1.isCaller) = true
def BelowC (Γ : Ctx) : Prop := (Γ.below.any fun x => x.1.isCaller) = true
def wpC {α : Type} (M : Model) (A : Around) (t : Sem α) (Q : α → Shared → Prop) (E : Value → Shared → Prop) (s : Shared) : Prop :=
  ∀ Γ p, Γ.In A → InC Γ → wp M Γ t (fun a _ s' => Q a s') (fun e _ s' => E e s') p s
def codeC (M : Model) (A : Around) (c : Code) (R : Result → Shared → Prop) (s : Shared) : Prop :=
  ∀ Γ p, Γ.code = c → Γ.Below A → BelowC Γ → wpCode M Γ R p s
theorem BelowC.inC {Γ : Ctx} (h : BelowC Γ) : InC Γ := by unfold InC; unfold BelowC at h; rw [h, Bool.or_true]
theorem InC.enter {Γ : Ctx} (h : InC Γ) (c : Code) (hd : Option Value) (p : Pos) : BelowC (Γ.enter c hd p) := h
theorem BelowC.goto {Γ : Ctx} (h : BelowC Γ) (c : Code) : BelowC (Γ.goto c) := h
section
variable {α β : Type} {M : Model} {A : Around} {E : Value → Shared → Prop} {s : Shared}
theorem wpC_of {t : Sem α} {Q : α → Shared → Prop} (h : wpAny M A t Q E s) : wpC M A t Q E s := fun Γ p hΓ _ => h Γ p hΓ
theorem codeC_of {c : Code} {R : Result → Shared → Prop} (h : codeAny M A c R s) : codeC M A c R s := fun Γ p hc hΓ _ => h Γ p hc hΓ
theorem wpC_mono {t : Sem α} {Q Q' : α → Shared → Prop} {E' : Value → Shared → Prop} (h : wpC M A t Q E s) (hQ : ∀ a s, Q a s → Q' a s) (hE : ∀ e s, E e s → E' e s) : wpC M A t Q' E' s :=
  fun Γ p hΓ hC => Sem.wp_mono M Γ t (fun a _ s => hQ a s) (fun e _ s => hE e s) p s (h Γ p hΓ hC)
theorem codeC_mono {c : Code} {R R' : Result → Shared → Prop} (h : codeC M A c R s) (hR : ∀ r s, R r s → R' r s) : codeC M A c R' s :=
  fun Γ p hc hΓ hC => wpCode_mono hR (h Γ p hc hΓ hC)
theorem wpC_bind {m : Sem α} {f : α → Sem β} {Q : β → Shared → Prop} (h : wpC M A m (fun a s' => wpC M A (f a) Q E s') E s) : wpC M A (m >>= f) Q E s := fun Γ p hΓ hC => by
  rw [Sem.wp_bind']
  exact Sem.wp_mono M Γ m (fun a p' s' h' => h' Γ p' hΓ hC) (fun _ _ _ h' => h') p s (h Γ p hΓ hC)
theorem wpC_bindA {m : Sem α} {f : α → Sem β} {Q : β → Shared → Prop} (h : wpAny M A m (fun a s' => wpC M A (f a) Q E s') E s) : wpC M A (m >>= f) Q E s := wpC_bind (wpC_of h)
theorem wpC_onRaise {m : Sem α} {k : Value → Sem Unit} {Q : α → Shared → Prop} (h : wpC M A m Q (fun e s' => wpC M A (k e) (fun _ s'' => E e s'') E s') s) : wpC M A (m.onRaise k) Q E s := fun Γ p hΓ hC => by
  rw [Sem.wp_onRaise]
  exact Sem.wp_mono M Γ m (fun _ _ _ h' => h') (fun e p' s' h' => h' Γ p' hΓ hC) p s (h Γ p hΓ hC)
theorem wpC_quiet {m : Sem α} {k : Value → Sem Unit} {Q : α → Shared → Prop} (h : wpC M A m Q (fun _ _ => False) s) : wpC M A (m.onRaise k) Q E s := wpC_onRaise (wpC_mono h (fun _ _ q => q) fun _ _ f => f.elim)
theorem wpC_attempt {m : Sem α} {Q : Except Value α → Shared → Prop} (h : wpC M A m (fun a => Q (.ok a)) (fun e => Q (.error e)) s) : wpC M A m.attempt Q E s := fun Γ p hΓ hC => by rw [Sem.wp_attempt]; exact h Γ p hΓ hC
theorem wpC_holding {vs : List Value} {m : Sem α} {Q : α → Shared → Prop} (h : wpC M A m Q E s) : wpC M A (holding vs m) Q E s := fun Γ p hΓ hC => by rw [Sem.wp_holding]; exact h Γ p hΓ hC
theorem wpC_run {c : Code} {h : Option Value} {Q : Flow → Shared → Prop} (hc : codeC M (A.mark h) c (fun r s' => match r with | .ok f => Q f s' | .error e => E e s') s) (hnb : h ≠ some byPass := by intro x; cases x) : wpC M A (run c h) Q E s :=
  fun Γ p hΓ hC => by rw [Sem.wp_run]; exact hc _ p rfl (hΓ.enter c h p hnb) (hC.enter c h p)
theorem wpC_runOwn {c : Code} {env : Env} {h : Option Value} {Q : Flow → Shared → Prop} (hc : codeC M (A.mark h) c (fun r s' => match r with | .ok f => Q f s' | .error _ => False) s) (hnb : h ≠ some byPass := by intro x; cases x) : wpC M A (runOwn c env h) Q E s := by
  unfold runOwn
  exact wpC_quiet (wpC_run (codeC_mono hc fun r s' q => by cases r <;> exact q) hnb)
theorem wpC_call {f : Value} {pos : List Value} {kw : List (Str × Value)} {Q : Value → Shared → Prop} (hc : codeC M A (.call f ⟨pos, kw⟩) (fun r s' => match r with | .ok (.ret v) => Q v s' | .ok _ => False | .error e => E e s') s) : wpC M A (call f pos kw) Q E s := fun Γ p hΓ hC => by
  unfold call
  rw [Sem.wp_runValue]; exact hc _ p rfl (hΓ.enter _ none p (by intro x; cases x)) (hC.enter _ none p)
theorem wpC_keep {vs : List Value} {m : Sem α} {Q : α → Shared → Prop} (h : wpC M A m Q E s) : wpC M A (m.keep vs) Q E s := fun Γ p hΓ hC => by
  rw [Sem.wp_keep]; exact h Γ p hΓ hC
theorem codeC_of_tree {c : Code} {R : Result → Shared → Prop} (h : wpC M (A.under c) (M.den c) (fun fin s' => match fin with | .done f => R (.ok f) s' | .again c' => c'.quiet = true ∧ codeC M A c' R s') (fun e s' => R (.error e) s') s) : codeC M A c R s := fun Γ p hc hΓ hC => by
  rw [wpCode_iff_wp, hc]
  refine Sem.wp_mono M Γ _ (fun fin p' s' h' => ?_) (fun _ _ _ h' => h') p s (h Γ p (hc ▸ hΓ.in) hC.inC)
  cases fin with
  | done f => exact h'
  | again c' => exact ⟨h'.1, h'.2 (Γ.goto c') p' rfl (hΓ.goto c') (hC.goto c')⟩
theorem codeC_loop {c : Code} {R : Result → Shared → Prop} (hq : c.quiet = true) (I : Nat → Shared → Prop)
    (turn : ∀ n s, I n s → wpC M (A.under c) (M.den c) (fun fin s' => match fin with
        | .done f => R (.ok f) s'
        | .again c' => (c' = c ∧ ∃ m, m < n ∧ I m s') ∨ (c'.quiet = true ∧ codeC M A c' R s')) (fun e s' => R (.error e) s') s)
    (n : Nat) (h : I n s) : codeC M A c R s := by
  induction n using Nat.strongRecOn generalizing s with
  | ind n ih =>
    refine codeC_of_tree (wpC_mono (turn n s h) (fun fin s' hf => ?_) fun _ _ h' => h')
    cases fin with
    | done f => exact hf
    | again c' =>
      rcases hf with ⟨rfl, m, hm, hI⟩ | hf
      · exact ⟨hq, ih m hm hI⟩
      · exact hf
theorem wpC_stack {Q : List (Code × Pos) → Shared → Prop} (h : ∀ st : List (Code × Pos), (st.any fun x => x.1.isCaller) = true → Q st s) : wpC M A stack Q E s := fun Γ p _ hC => by
  show Q ((Γ.code, p) :: Γ.below) s
  exact h _ hC
theorem caller_made (own : List String) {st : List (Code × Pos)} (h : (st.any fun x => x.1.isCaller) = true) : pythonCodeMadeTheCall own (st.map (·.1)) = false := by
  have e : (st.map (·.1)).any Code.isCaller = true := by
    rw [List.any_map]; exact h
  unfold pythonCodeMadeTheCall
  show ((!((st.map (·.1)).any Code.isCaller)) && _ && _) = false
  rw [e]; rfl
theorem wpC_mark {own : List String} {e : Value} {Q : Unit → Shared → Prop} (h : Q () s) : wpC M A (markTheRefusal own e) Q E s := by
  unfold markTheRefusal
  refine wpC_bind (wpC_stack fun st hst => ?_)
  rw [caller_made own hst]
  exact wpC_of (wpAny_pure h)
end
section
variable {prog : Program} {w : World} {A : Around} {E : Value → Shared → Prop} {s : Shared} {env : Env} {rest : List Stmt}
theorem cExecs {st : Stmt} {Q : Flow → Shared → Prop} (h : wpC (model prog w) A (exec st env) (fun f s' => match f with | .next => wpC (model prog w) A (execs rest env) Q E s' | f => Q f s') E s) : wpC (model prog w) A (execs (st :: rest) env) Q E s := by
  rw [execs_cons]
  refine wpC_bind (wpC_mono h (fun f s' h' => ?_) fun _ _ e => e)
  cases f <;> first | exact h' | exact wpC_of (wpAny_pure h')
/- a state told between two statements -/
theorem cCut {st : Stmt} {Q : Flow → Shared → Prop} (I : Shared → Prop) (h : wpAny (model prog w) A (execs [st] env) (fun f s' => f = .next ∧ I s') E s) (k : ∀ s', I s' → wpC (model prog w) A (execs rest env) Q E s') : wpC (model prog w) A (execs (st :: rest) env) Q E s := by
  have e : execs (st :: rest) env = (do match ← execs [st] env with | .next => execs rest env | f => pure f) := by
    rw [execs_cons, execs_cons, bind_assoc]
    congr 1
    funext f
    cases f <;> rfl
  rw [e]
  refine wpC_bindA (wpAny_mono h (fun f s' q => ?_) fun _ _ e => e)
  obtain ⟨rfl, q⟩ := q
  exact k s' q
theorem cCutH {st : Stmt} {Q : Flow → Shared → Prop} (I : Shared → Prop) (h : ∀ R : Shared → Prop, (∀ s', I s' → R s') → wpAny (model prog w) A (execs [st] env) (fun f s' => f = .next ∧ R s') E s) (k : ∀ s', I s' → wpC (model prog w) A (execs rest env) Q E s') : wpC (model prog w) A (execs (st :: rest) env) Q E s := cCut I (h I fun _ q => q) k
theorem cIf {test : Expr} {body orelse : List Stmt} {p : Pos} {Q : Flow → Shared → Prop} (h : wpC (model prog w) A (isTrue test env (eval test env)) (fun b s₂ => if b then wpC (model prog w) A (execs body env) Q E s₂ else wpC (model prog w) A (execs orelse env) Q E s₂) E s) : wpC (model prog w) A (exec (.If test body orelse p) env) Q E s := by
  rw [exec_If]
  refine wpC_bindA (wpAny_standAt (wpC_bind (wpC_mono h (fun b s₂ h₂ => ?_) fun _ _ e => e)))
  cases b <;> exact h₂
theorem cOr {x : Expr} {es : List Expr} {pos : Pos} {whole : Sem Value} {Q : Bool → Shared → Prop} (h : wpC (model prog w) A (isTrue x env (eval x env)) (fun c s' => if c then Q true s' else wpC (model prog w) A (isTrue (.BoolOp .Or es pos) env whole) Q E s') E s) : wpC (model prog w) A (isTrue (.BoolOp .Or (x :: es) pos) env whole) Q E s := by
  show wpC _ A (do
    match BoolOp.Or, ← isTrue x env (eval x env) with
    | .And, false => pure false
    | .Or, true => pure true
    | _, _ => allTrue .Or es env) Q E s
  refine wpC_bind (wpC_mono h (fun c s' h' => ?_) fun _ _ x => x)
  cases c with
  | false => exact h'
  | true => exact wpC_of (wpAny_pure h')
theorem cCompare {l r : Expr} {op : CmpOp} {pos : Pos} {whole : Sem Value} {Q : Bool → Shared → Prop} (h : wpC (model prog w) A (eval l env) (fun a s₁ => wpAny (model prog w) A (eval r env) (fun b s₂ => wpAny (model prog w) A (compareOp op a b) (fun c s₃ => wpAny (model prog w) A (truthy c) Q E s₃) E s₂) E s₁) E s)
    (hm : behindInMarks op r = false) : wpC (model prog w) A (isTrue (.Compare l [op] [r] pos) env whole) Q E s := fun Γ p hΓ hC => by
  simp only [isTrue_Compare1, markedBehindIn_of_false hm, Sem.wp_bind', Sem.wp_holding, Sem.wp_cmd_standAt, Sem.wp_operate]
  exact Sem.wp_mono _ Γ _ (fun a p₁ s₁ h₁ => Sem.wp_mono _ Γ _ (fun b _ s₂ h₂ => Sem.wp_mono _ Γ _ (fun c p₃ s₃ h₃ => h₃ Γ p₃ hΓ)
    (fun _ _ _ h' => h') _ _ (h₂ Γ _ hΓ)) (fun _ _ _ h' => h') _ _ (h₁ Γ p₁ hΓ)) (fun _ _ _ h' => h') _ _ (h Γ p hΓ hC)
theorem cAssign {x : Str} {p' : Pos} {value : Expr} {p : Pos} {Q : Flow → Shared → Prop} (h : wpC (model prog w) A (eval value env) (fun v s₁ => wpAny (model prog w) A (storeName env x v) (fun _ s₂ => wpC (model prog w) A (execs rest env) Q E s₂) E s₁) E s)
    (hs : swapsWith value (some (.Name x p')) p.line env = pure false) : wpC (model prog w) A (execs (.Assign [.Name x p'] value p :: rest) env) Q E s := by
  refine cExecs fun Γ p hΓ hC => ?_
  simp only [exec_Assign_Name env x p' value _ hs, Sem.wp_bind', Sem.wp_cmd_standAt, Sem.wp_bindName, Sem.wp_pure']
  exact Sem.wp_mono _ Γ _ (fun v _ s₁ h₁ => h₁ Γ _ hΓ) (fun _ _ _ h' => h') _ _ (h Γ _ hΓ hC)
theorem cTry {body suite : List Stmt} {b₀ : Stmt} {t : Option Expr} {n : Option Str} {hp p : Pos} {Q : Flow → Shared → Prop} (h : wpC (model prog w) A (execs body env) Q
      (fun e s₁ => wpAny (model prog w) A (noteFrame e env) (fun _ s₂ => wpAny (model prog w) A (setFlight e none) (fun _ s₃ => wpAny (model prog w) A (handleBy e env [.ExceptHandler t n (b₀ :: suite) hp]) Q E s₃) E s₂) E s₁) s) :
    wpC (model prog w) A (exec (.Try body [.ExceptHandler t n (b₀ :: suite) hp] [] [] p) env) Q E s := by
  rw [arm_exec_Try]
  refine wpC_bindA (wpAny_standAt ?_)
  unfold tryStmt
  rw [if_pos (show (([] : List Stmt).isEmpty = true) from rfl)]
  dsimp only [List.isEmpty_cons, Bool.false_and]
  try rw [if_neg Bool.false_ne_true]
  refine wpC_bind (wpC_attempt (wpC_mono h (fun f s₁ h₁ => ?_) fun e s₁ h₁ => ?_))
  · cases f <;> first | exact wpC_of (wpAny_execs_nil h₁) | exact wpC_of (wpAny_pure h₁)
  · exact wpC_bindA (wpAny_mono h₁ (fun _ _ h₂ => wpC_bindA (wpAny_mono h₂ (fun _ _ h₃ => wpC_of h₃) fun _ _ x => x)) fun _ _ x => x)
theorem cFor {target iter : Expr} {body orelse : List Stmt} {pos : Pos} {Q : Flow → Shared → Prop} (h : wpAny (model prog w) A (eval iter env) (fun x s₁ => wpAny (model prog w) A (pyIter x) (fun it s₂ => codeC (model prog w) A (.forLoop target it body orelse env) (fun r s' => match r with | .ok f => Q f s' | .error _ => False) s₂) E s₁) E s)
    (hs : ∀ x, foldedSetIterable iter env x = pure x) : wpC (model prog w) A (exec (.For target iter body orelse pos) env) Q E s := by
  rw [exec_For]
  refine wpC_bindA (wpAny_standAt (wpC_bindA (wpAny_mono h (fun x s₁ h₁ => wpC_bindA (wpAny_of_eq (hs x) (wpC_bindA (wpAny_standAt (wpC_bindA (wpAny_holding (wpAny_mono h₁ (fun it s₂ h₂ => wpC_runOwn h₂) fun _ _ h' => h'))))))) fun _ _ h' => h')))
theorem cForLoop {K : Flow → Shared → Prop} {target : Expr} {it : Value} {body orelse : List Stmt} (I : Nat → Shared → Prop)
    (turn : ∀ n s, I n s → wpAny (model prog w) A (pyNext it) (fun r s₁ => match r with
      | none => wpAny (model prog w) A (execs orelse env) K (fun _ _ => False) s₁
      | some v => wpAny (model prog w) A (letOwnedTupleGo target it v) (fun _ s₁' => wpAny (model prog w) A (assign target env v) (fun _ s₂ => wpC (model prog w) A (execs body env) (fun f s₃ => match f with
            | .next | .cont => ∃ m, m < n ∧ I m s₃
            | .brk => K .next s₃
            | .ret v => K (.ret v) s₃) (fun _ _ => False) s₂) (fun _ _ => False) s₁') (fun _ _ => False) s₁) (fun _ _ => False) s)
    (n : Nat) (h : I n s) : codeC (model prog w) A (.forLoop target it body orelse env) (fun r s' => match r with | .ok f => K f s' | .error _ => False) s := by
  refine codeC_loop rfl I (fun n s hI => ?_) n h
  show wpC _ A ((forTurn target it body orelse env).onRaise (fun x => do noteFrame x env; theTreesLotGoes x)) _ _ s
  refine wpC_quiet ?_
  unfold forTurn
  refine wpC_bindA (wpAny_standAt (wpC_bind (wpC_quiet (wpC_of (wpAny_mono (turn n s hI) (fun r s₁ h₁ => ?_) fun _ _ h' => h')))))
  cases r with
  | none => exact wpC_of (wpAny_pure (.inr ⟨rfl, codeC_of (codeAny_block (wpAny_mono h₁ (fun _ _ q => q) fun _ _ q => q.elim))⟩))
  | some v =>
    refine wpC_bindA (wpAny_mono h₁ (fun _ s₁' h₁' => ?_) fun _ _ h' => h')
    refine wpC_bindA (wpAny_mono h₁' (fun _ s₂ h₂ => wpC_bind (wpC_mono h₂ (fun f s₃ h₃ => ?_) fun _ _ h' => h')) fun _ _ h' => h')
    cases f with
    | next => exact wpC_of (wpAny_pure (.inl ⟨rfl, h₃⟩))
    | cont => exact wpC_of (wpAny_pure (.inl ⟨rfl, h₃⟩))
    | brk => exact wpC_of (wpAny_pure h₃)
    | ret v => exact wpC_of (wpAny_pure h₃)
/- calls -/
theorem cCallWith {P : Heap → Prop} {pos : Pos} {f : Value} {first : List Value} {args : List (Bool × Sem Value)} {Q : Value → Shared → Prop} (hplain : args.any (·.1) = false)
    (hk : ∀ h, P h → ∃ k, (k = Keeper.frame ∨ k = Keeper.machine ∨ k = Keeper.boundFrame) ∧ Looks (model prog w) h (keeperOf f) k)
    (h : wpAny (model prog w) A (evalArgs f true args []) (fun a s₁ => P s₁.heap ∧ wpC (model prog w) A (call f (first ++ a.pos) a.kw) Q E s₁) E s) : wpC (model prog w) A (callWith pos f first args []) Q E s := by
  unfold callWith
  refine wpC_bindA (wpAny_holding (wpAny_mono h (fun a s₁ h₁ => wpC_bindA (wpAny_standAt ?_)) fun _ _ x => x))
  refine Mine.e1_2 (hk _ h₁.1) ?_
  intro k hk' L
  simp only [hplain, List.any_nil, Bool.or_false]
  refine wpC_bindA (L.here ?_)
  have tail : ∀ {t : Sem Value}, wpC (model prog w) A t Q E s₁ → wpC (model prog w) A (t >>= fun r => holding [r] point >>= fun _ => pure r) Q E s₁ :=
    fun ht => wpC_bind (wpC_mono ht (fun r s₂ hr => wpC_of (wpAny_bind (wpAny_holding (wpAny_point (wpAny_pure hr))))) fun _ _ x => x)
  have marked (mk : Value) : wpC (model prog w) A (callMarked mk f (first ++ a.pos) a.kw) Q E s₁ := by unfold callMarked; exact wpC_keep h₁.2
  rcases hk' with rfl | rfl | rfl <;> (try dsimp only) <;> first | exact tail h₁.2 | (split <;> first | exact tail h₁.2 | exact tail (marked _))
theorem cCallType {pos : Pos} {T : String} {args : List (Bool × Sem Value)} {Q : Value → Shared → Prop} (hplain : args.any (·.1) = false)
    (h : wpAny (model prog w) A (evalArgs (.type T) true args []) (fun a s₁ => wpC (model prog w) A (call (.type T) ([] ++ a.pos) a.kw) Q E s₁) E s) : wpC (model prog w) A (callWith pos (.type T) [] args []) Q E s := by
  unfold callWith
  refine wpC_bindA (wpAny_holding (wpAny_mono h (fun a s₁ h₁ => wpC_bindA (wpAny_standAt ?_)) fun _ _ x => x))
  rw [hplain]
  dsimp only [List.any_nil, Bool.or_false]
  refine wpC_bindA (wpAny_pure ?_)
  exact wpC_bind (wpC_mono h₁ (fun r s₂ hr => wpC_of (wpAny_bind (wpAny_holding (wpAny_point (wpAny_pure hr))))) fun _ _ x => x)
theorem cCallE {f : Expr} {args : List Expr} {pos : Pos} {Q : Value → Shared → Prop} (h : wpAny (model prog w) A (eval f env) (fun fv s₁ => wpC (model prog w) A (callWith pos fv [] (backTo pos (starEach args env)) []) Q E s₁) E s)
    (he : eval (.Call f args [] pos) env = (do callWith pos (← eval f env) [] (backTo pos (starEach args env)) [])) : wpC (model prog w) A (eval (.Call f args [] pos) env) Q E s := by
  rw [he]
  exact wpC_bindA h
theorem cFunc {body : List Stmt} {R : Result → Shared → Prop} (h : wpC (model prog w) (A.deeper env) (execs body env) (fun f s' => R (.ok (.ret (match f with | .ret v => v | _ => .none))) s') (fun _ _ => False) s) : codeC (model prog w) A (.func body env) R s := by
  refine codeC_of_tree ?_
  show wpC _ (A.deeper env) (do point; match ← (execs body env).onRaise (leaving env) with | .ret v => ret v | _ => ret .none) _ _ s
  refine wpC_bindA (wpAny_point (wpC_bind (wpC_quiet (wpC_mono h (fun f s' h' => ?_) fun _ _ h' => h'))))
  cases f <;> exact wpC_of (wpAny_pure h')
theorem cCallDef {R : Result → Shared → Prop} {a : Addr} {o : Obj} {fd : FuncData} {body : List Stmt} {args : Args} {binds : List (Str × Value)}
    (hroom : A.depth < recursionLimit) (ho : s.heap.get? a = some o) (hdata : o.data = .func fd) (hlim : s.heap.NoLimit) (hcd : s.heap.CodeRec fd.code fd.qualname)
    (hbody : fd.body = .stmts body) (hbind : BindsTo s fd args binds) (hcell : ∀ x ∈ fd.scope.names, x.2 ≠ .cell) (hloc : ∀ x ∈ binds, fd.scope.names.lookup x.1 = some .local)
    (h : ∀ h₀, h₀.Ns s.heap.objs.size (fun x => binds.reverse.lookup x) → (∀ b o, s.heap.get? b = some o → h₀.get? b = some o) →
      wpC (model prog w) (A.deeper (callEnv fd s.heap.objs.size a)) (execs body (callEnv fd s.heap.objs.size a)) (fun f s' => R (.ok (.ret (match f with | .ret v => v | _ => .none))) s') (fun _ _ => False) { s with heap := h₀, toks := s.toks + binds.length })
    (hco : fd.scope.isCoroutine = false) (hgen : fd.scope.isGenerator = false) (hk : fd.scope.kind = .function) : codeC (model prog w) A (.call (.ref a) args) R s := by
  refine codeC_of_tree ?_
  show wpC _ A.in1 (callAny (.ref a) args) _ _ s
  unfold callAny
  dsimp only
  refine wpC_bindA (wpAny_load ho ?_)
  refine Mine.E4 hcd ?_
  try clear hcd
  intro c oc vs tq zk18
  refine Mine.e0_4 zk18 ?_
  clear zk18
  intro hc hoc hdc hq
  rw [hdata]
  dsimp only
  unfold callFunction
  rw [hco, hgen, hbody, hc]
  dsimp only
  refine wpC_bindA (m := field (.ref c) 1) (wpAny_field hoc hdc hq (wpC_bindA (wpAny_pure ?_)))
  refine wpC_bindA (hbind _ _ _ _ ?_)
  refine wpC_bindA (wpAny_newFunctionEnv hcell hloc (fun h₀ hns₀ hsb₀ => ?_) hk)
  refine wpC_bindA (wpAny_enterFrame (hlim.fresh _ hsb₀) hroom ?_)
  refine wpC_of (wpAny_pure (And.intro rfl (cFunc ?_)))
  have := h h₀ hns₀ fun b o e => hsb₀.extBut b o (Nat.ne_of_lt (Heap.lt_size e)) (Heap.get?_push_of_some _ e)
  unfold callEnv at this
  rw [hc] at this
  exact this
theorem cCallBuiltin {id : String} {args : Args} {b : Builtin} {R : Result → Shared → Prop} (hq : plainId id = true) (hb : entryFor table id = some b) (hck : checkBuiltinCall id args = pure ())
    (h : wpC (model prog w) A.in1 (b args) (fun fin s' => match fin with | .done f => R (.ok f) s' | .again c' => c'.quiet = true ∧ codeC (model prog w) A c' R s') (fun e s' => R (.error e) s') s) : codeC (model prog w) A (.call (.builtin id) args) R s := by
  refine codeC_of_tree ?_
  show wpC _ A.in1 (do checkBuiltinCall id args; again (.builtin id args)) _ _ s
  refine wpC_bindA (wpAny_of_eq hck (wpC_of (wpAny_pure (And.intro (plainId_quiet hq args) (codeC_of_tree ?_)))))
  show wpC _ _ (match entryFor table id with | some b => b args | none => unsupported ((withoutEnding? id "#data").getD id)) _ _ s
  rw [hb, Around.under_plainId hq args]; exact h
end
end Mine
end

section
open PySem PySem.W PySem.W.X PyProof.Rows PySem.Calls
open Sem (wp)
set_option maxRecDepth 100000
namespace Mine
/- ## the head in the logic above the caller -/
theorem callerC : InC (⟨.builtin "claim.caller" {}, none, none, [], none⟩ : Ctx) := rfl
theorem threadC {prog : Program} {w : World} {t : Sem Fin} {s : Shared} {R : Result → Shared → Prop} (hreg : s.asleep)
    (h : wpC (model prog w) callerA t (fun fin s' => ∃ f, fin = .done f ∧ (R (.ok f) s' ∧ leftWithCleanup s'.gens = false)) (fun e s' => R (.error e) s' ∧ leftWithCleanup s'.gens = false) s) :
    ∃ n r s' s'', runN (denote table) prog w n s ⟨t, .builtin "claim.caller" {}, default, []⟩ = .halted (outcomeOf r) s' ∧
      schedN (denote table) prog w n (.single s ⟨t, .builtin "claim.caller" {}, default, []⟩) = .halted (outcomeOf r) s' ∧ s'.forget = s''.forget ∧ R r s'' := by
  obtain ⟨n, r, s₁, s₂, hs, hn, hfo, hR⟩ := wp_halts_full (M := model prog w) (R := R) hreg
    (Sem.wp_mono (model prog w) _ t (fun fin p' s' h' => by obtain ⟨f, rfl, hf⟩ := h'; exact hf) (fun _ _ _ h' => h') default s (h _ default caller_in callerC))
  exact Mine.I4 n r s₂ s₁ (Mine.a4 hn hs hfo hR)
theorem callFromC {c : ClaimW} {tree : List Value → Sem Fin} {w : World} {s : Shared} {free : Addr → Prop} {gens : Prop} {kept : Heap → Prop} (hz : s.asleep) (hgens : s.gens = #[])
    (hspec : ∀ args, c.pre args = true → WData.layableAll args = true → ∀ ord : List DictEntry → List DictEntry, (∀ l, (ord l).Perm l) →
      ∃ vs s₁, layAllW c.records (classAt s.heap) w.params ord args s = some (vs, s₁) ∧
        wpC (model c.prog w) callerA (tree vs) (fun fin s' => ∃ f, fin = .done f ∧ (c.Ends s args vs s₁ (.ok f) s' ∧ s'.os = s.os ∧ AllBare s'.gens ∧ kept s'.heap))
          (fun e s' => c.Ends s args vs s₁ (.error e) s' ∧ s'.os = s.os ∧ AllBare s'.gens ∧ kept s'.heap) s₁) :
    c.CallFrom (fun vs => ⟨tree vs, .builtin "claim.caller" {}, default, []⟩) w free gens kept s := by
  intro args hpre hlay ord hord
  refine Mine.e2_2 (hspec args hpre hlay ord hord) ?_
  intro vs s₁ hlaid hcode
  have hal := layAllW_rest _ _ _ hlaid
  obtain ⟨k, r, s', s'', hrun, hsched, hfo, hcase, hos, hkp⟩ := threadC (prog := c.prog) (w := w) (t := tree vs) (s := s₁)
    (R := fun r s' => c.Ends s args vs s₁ r s' ∧ s'.os = s.os ∧ kept s'.heap) (Shared.asleep_of_life hal.2.2.2 hz)
    (wpC_mono hcode (by
      intro fin s' zh1
      refine Mine.E1 zh1 ?_
      try clear zh1
      intro f zk2
      refine Mine.e0_5 zk2 ?_
      clear zk2
      intro e h1 h2 h3 h4
      exact ⟨f, e, ⟨h1, h2, h4⟩, leftWithCleanup_false_of_bare h3⟩) (by
      intro e s' zh2
      refine Mine.e0_4 zh2 ?_
      try clear zh2
      intro h1 h2 h3 h4
      exact ⟨⟨h1, h2, h4⟩, leftWithCleanup_false_of_bare h3⟩))
  refine Mine.e0_5 (Shared.forget_eq hfo) ?_
  intro eh zu3 zu4 eo zu5
  have hcase := hcase.congr eh
  have hkp : kept s'.heap := by rw [eh]; exact hkp
  rw [← eo] at hos
  have hlife : s'.heap.life = s.heap.life := (runN_life _ _ _ hrun).trans hal.2.2.2
  refine ⟨vs, s₁, hlaid, (Mine.I3 k _ s' (Mine.a6 hsched ?_ (fun _ i x hx => by rw [hgens] at hx; simp at hx) hkp (by rw [hlife]) (Shared.rest_eq hos)))⟩
  rcases hcase with ⟨v, rfl, d1, d2, d3, d4, d5⟩ | ⟨e, ob, cls, rfl, d1, d2, d3, d4, d5⟩
  · exact .inl ⟨v, rfl, d1, d2, d3, fun b o y _ => d4 b o y, d5⟩
  · exact .inr ⟨e, ob, cls, rfl, d1, d2, d3, d4, fun b o y _ => d5 b o y⟩
/- what the walk must show, told above the caller -/
abbrev WalkC (q : Program) (loose : List Str) (XP : (Str → Option Value) → Heap → Prop) (YP : World → Heap → Prop) (r : RowW) (d : DefRec) (kwd : List (Str × Expr)) (run : Value → List Value → Sem Value) : Prop :=
  ∀ (w : World) (s₀ s₁ : Shared) (mg mb : Str → Option Value), Ground q loose r.records XP w s₀ mg mb s₁.heap → YP w s₁.heap → ∀ (a : Addr) (o : Obj) (pm cd doc dV kV : Value), s₁.heap.get? a = some o →
    o.data = .func { docDef d.name d.params d.body d.scope pm cd doc with defaults := dV, kwdefaults := kV } → s₁.heap.CodeRec cd d.name → Dflts mg s₁.heap d.params kwd dV kV → mg d.name = some (.ref a) → s₁.gens = #[] →
    ∀ (args : List WData) (vals : List Value) (as : List Addr), r.claim.pre args = true → WData.layableAll args = true → ReadsAllW r.records (classAt s₀.heap) s₁.heap vals args as → WellAll w.params s₁.heap vals args → (∀ a ∈ as, (a == sysModules) = false) →
      wpC (model r.prog w) callerA (run (.ref a) vals) (fun v s' => GoodWG r.claim (classAt s₀.heap) (ExcName.means s₀.heap) args s₁ (.ok (.ret v)) s')
        (fun e s' => GoodWG r.claim (classAt s₀.heap) (ExcName.means s₀.heap) args s₁ (.error e) s') s₁
theorem PySem.W.holds_open {r : OpenRow} {q : Program} {loose : List Str} {Xt : Shared → Bool} {XP : (Str → Option Value) → Heap → Prop} {α : Type} {Yf : Shared → α} {Ya : World → α} {YP : World → Heap → Prop} {d : DefRec} {kwd : List (Str × Expr)} {N : Nat}
    (left : LeftO r.prog q loose Xt Yf Ya N) (hY : ∀ w s, Yf s = Ya w → YP w s.heap) (hYk : ∀ w h h', YP w h → (∀ b o, h.get? b = some o → h'.get? b = some o) → YP w h')
    (hX : ∀ s, Xt s = true → XP (s.heap.nsMap mainGlobals) s.heap) (hXk : ∀ mg h h', XP mg h → (∀ b o, h.get? b = some o → h'.get? b = some o) → XP mg h')
    (hdef : defOf q r.name = some (d, kwd)) (hp : r.prog.theDef r.name = some (d.params, d.body, d.scope)) (hk : kwWritten? d.params.kwonlyargs d.params.kw_defaults = some kwd) (hRf : ∀ s, Xt s = true → RecFacts r.records s.heap) (hwr : (!r.writes || r.records.isEmpty) = true)
    (k1 : r.wellSaid = true) (ok : (chainsOk q && opensWell r.prog && (frees r.toRowW && r.within.isEmpty)) = true) (hb : r.prog.bare) (hw : r.toRowW.promised)
    (call : WalkC q loose XP YP r.toRowW d kwd fun f vs => PySem.call f vs) : r.Holds := by
  refine ⟨k1, hw, ?_⟩
  obtain ⟨ok, k5⟩ := Bool.and_eq_true_iff.mp ok
  obtain ⟨hch, o1⟩ := Bool.and_eq_true_iff.mp ok
  obtain ⟨k5, k6⟩ := Bool.and_eq_true_iff.mp k5
  refine Mine.e0_5 (frees_parts k5) ?_
  intro hsame hu ha hap hm
  refine ⟨⟨hb, o1, by show r.toRowW.makers.map _ = []; rw [hm]; rfl⟩, hw.witness, fun w => ⟨(left.behind hX hch w).1, fun s' hs' => ?_⟩⟩
  obtain ⟨s₀, hf, hg0, s, hT, hz, hgens, hg, G00, y⟩ := (left.behind (XP := fun mg h => XP mg h ∧ RecFacts r.records h) (fun s hs => ⟨hX s hs, hRf s hs⟩) hch w).2 s' hs'
  have G0 : Ground q loose [] XP w s (s.heap.nsMap mainGlobals) (s.heap.nsMap builtinsNs) s.heap := ⟨G00.T, G00.B, G00.D, G00.TE, G00.TD, G00.W, G00.X.1, G00.cls, G00.has, G00.apart, G00.once, G00.K⟩
  have RF := G00.X.2
  have hT' := hT
  refine ⟨s₀, hf, hg0, (Mine.I1 s (Mine.a5 hT (fun n hn => ?_) RF.1 RF.2.1 ?_))⟩
  · obtain rfl : n = r.name := by split at hn <;> simp_all
    exact pinned_of_view hg G0 hdef hp hk
  have hgens : s.gens = #[] := Array.eq_empty_of_size_eq_zero (beq_iff_eq.mp hgens)
  have G : Ground q loose r.records XP w s _ _ s.heap := RF.ground G0
  refine callFromC (c := r.toRowW.claim) hz hgens fun args hpre hlay ord hord => ?_
  obtain ⟨⟨vs, s₁⟩, hlaid⟩ := Option.isSome_iff_exists.mp (layAllW_isSome (P := w.params) (ord := ord) G.has args r.toRowW.args s (pre_splitW hpre).1)
  have keeps := layAllW_keeps _ _ _ hlaid
  have hal := layAllW_rest _ _ _ hlaid
  refine Mine.e1_3 (reads_layAllW hord _ _ _ hlaid hlay s₁.heap (fun _ _ e => e)) ?_
  intro as hrd hin hold
  have L : Laid r.records w s s₁ args vs as := ⟨⟨ord, hord, hlaid⟩, hrd, hin, hold, keeps, hal.1.trans hgens, hal.2.2.1⟩
  have G₁ := G.keeps hXk keeps
  refine Mine.E7 (G₁.fn hdef) ?_
  intro a o pm cd doc dV kV zk3
  refine Mine.e0_5 zk3 ?_
  clear zk3
  intro h1 h2 h3 h4 h5
  have h := call w s s₁ _ _ G₁ (hYk _ _ _ (hY w s y) keeps) a o pm cd doc dV kV h2 h3 h4 h5 (defOf_name hdef ▸ h1) L.gens args vs as hpre hlay L.reads L.well (L.low G.low)
  have hi := ident_freeW hu ha hap
  have hwi : r.toRowW.claim.within = [] := List.isEmpty_iff.mp k6
  refine Mine.i2_2 vs s₁ hlaid ?_
  refine wpC_bindA (wpAny_nsGet G₁.T.g ?_)
  rw [h1]
  refine wpC_bind (wpC_mono h (fun v s' g => wpC_of (wpAny_pure ⟨_, rfl, ?_⟩)) fun e s' g => ?_)
  · have z := g.laid (c := r.toRowW.claim) hsame hwi hi L
    exact Mine.i0_4 z.1 z.2.1 z.2.2 (fun q => ⟨namesKept_of hT' hg _ keeps g.2.1.old, noTable hwr q⟩)
  · have z := g.laid (c := r.toRowW.claim) hsame hwi hi L
    exact Mine.i0_4 z.1 z.2.1 z.2.2 (fun q => ⟨namesKept_of hT' hg _ keeps g.2.1.old, noTable hwr q⟩)
end Mine
end

section
open PySem PySem.W PyProof.Rows
set_option maxRecDepth 100000
set_option maxHeartbeats 8000000
namespace Mine
abbrev hR : OpenRow := PySem.Challenge.rw_ny0227_01.row
/- the text's view: what the claim reads of the top -/
noncomputable def hvw : Program := view PySem.Challenge.pw_ny0227_01 [0, 1, 3, 4, 5, 6, 8, 9, 10, 11, 12, 14, 15, 16, 17, 18, 19]
def hls : List Str := [Str.ofString "twin_re_1_platform", Str.ofString "_ver_stages", Str.ofString "twin_re_1_header", Str.ofString "_Accumulator"]
def hts : List Addr := [53, 182, 189]
noncomputable def hXt (s : Shared) : Bool := xlAt hvw [] s && recOk (RowW.records hR.toRowW) s
theorem hd_head {K : Params → Frag} {as : List Addr} {e : ∀ P, as = (K P).map (·.1)} {d : DefRec} {kwd : List (Str × Expr)}
    (hdef : defOf hvw hR.name = some (d, kwd)) (hp : hR.prog.theDef hR.name = some (d.params, d.body, d.scope)) (hk : kwWritten? d.params.kwonlyargs d.params.kw_defaults = some kwd)
    (said : hR.wellSaid = true) (hw : hR.toRowW.promised)
    (hc : LeftO hR.prog hvw hls hXt (Hook.obs (kmHook K as e hts)) (Hook.val (kmHook K as e hts)) 3428 ∧
      WalkC hvw hls (XL hvw []) (Hook.says (kmHook K as e hts)) hR.toRowW d kwd fun f vs => PySem.call f vs) : hR.Holds :=
  PySem.W.holds_open (q := hvw) (loose := hls) (Xt := hXt) (XP := XL hvw []) (Yf := Hook.obs (kmHook K as e hts)) (Ya := Hook.val (kmHook K as e hts)) (YP := Hook.says (kmHook K as e hts)) (N := 3428) hc.1
    (Hook.of (kmHook K as e hts)) (Hook.keeps (kmHook K as e hts)) (fun s e => xl_of s (Bool.and_eq_true_iff.mp e).1) XL.keeps hdef hp hk (fun s e => recFacts_of (Bool.and_eq_true_iff.mp e).2) (by rfl) said (by decide +kernel)
    ⟨rfl, rfl, rfl, rfl, rfl, by decide +kernel⟩ hw hc.2
theorem hd_said : PySem.Challenge.rw_ny0227_01.wellSaid = true := by rewrite [PySem.W.Fast.te9446332074065402090]; kernel_rfl
local macro_rules | `(tactic| o_law) => `(tactic| refine holds_law Mine.hd_said fun said => ?_)
local macro_rules | `(tactic| o_head ($_f $K $as $e)) => `(tactic| refine hd_head (K := $K) (as := $as) (e := $e) (by rfl) (by rfl) (by rfl) (by assumption) ?hw ?hc)
open_top hd for PySem.Challenge.rw_ny0227_01
/- the addresses that the heap of the claim writes out -/
def hAs : List Addr := [2, 3, 32, 34, 35, 37, 38, 42, 43, 44, 45, 47, 48, 50, 51, 52, 54, 55, 57, 58, 62, 63, 71, 73, 74, 76, 77, 78, 80, 81, 83, 84, 85, 87, 88, 90, 91, 92, 94, 95, 97, 98, 99, 101, 102, 104, 105, 106, 108, 109, 111, 112, 113, 115, 116, 118, 119, 120, 122, 123, 125, 126, 127, 129, 130, 132, 133, 134, 135, 136, 137, 138, 141, 144, 149, 150, 151, 153, 154, 156, 157, 158, 160, 161, 163, 164, 165, 166, 168, 169, 171, 172, 173, 174, 176, 177, 179, 180, 181, 183, 184, 186, 187, 188, 190, 191, 193, 194, 195, 196, 198, 199, 201, 202, 203, 205, 206, 208, 209, 210, 211, 213, 214, 216, 217, 218, 219, 220, 221, 222, 225, 227, 228, 230, 231, 232, 234, 235, 237, 238, 239, 241, 242, 244, 245, 246, 248, 249, 251, 252, 253, 256, 257, 258, 261, 262]
theorem hAs_eq (P : Params) : hAs = (hd.heap_1 P).map (·.1) := by kernel_rfl
noncomputable abbrev hK : Hook := kmHook hd.heap_1 hAs hAs_eq hts
def hSide (w : World) : Prop :=
  (openEnds treeTable hR.prog w 3428).map (fun s => (openSeen hvw hls (importedModules hR.prog.main.body) hXt true s, Hook.obs hK s)) = some (openGood hvw hls, Hook.val hK w)
theorem hd_left_f (w : World) : hSide (w.withFollow "special-get-raises" false) := by
  unfold hSide openEnds fencedOpening topFrom
  rewrite [PySem.W.Fast.te4187177175401517315, PySem.W.Fast.te5923862056798008813, PySem.W.Fast.te10274390034422433532, PySem.W.Fast.te14364793385576792824, PySem.W.Fast.te1435165496053646825, PySem.W.Fast.te14289696077712309145, PySem.W.Fast.te14082659384304107361, PySem.W.Fast.te8920871248978507458]
  kernel_rfl
theorem hd_left_t (w : World) : hSide (w.withFollow "special-get-raises" true) := by
  unfold hSide openEnds fencedOpening topFrom
  rewrite [PySem.W.Fast.te4187177175401517315, PySem.W.Fast.te5923862056798008813, PySem.W.Fast.te10274390034422433532, PySem.W.Fast.te14364793385576792824, PySem.W.Fast.te1435165496053646825, PySem.W.Fast.te14289696077712309145, PySem.W.Fast.te14082659384304107361, PySem.W.Fast.te8920871248978507458]
  kernel_rfl
theorem hd_left : LeftO hR.prog hvw hls hXt (Hook.obs hK) (Hook.val hK) 3428 := fun w => byRow2 "special-get-raises" (P := hSide) hd_left_f hd_left_t w
end Mine
end

section
open PySem PySem.W PySem.W.X PyProof.Rows PySem.Calls
set_option maxRecDepth 100000
namespace Mine

/- the written part of the heap behind the top -/

noncomputable abbrev PR : Program := PySem.Challenge.rw_ny0227_01.row.prog

/- the written part without the statics -/
noncomputable def Kx (P : Params) : Frag := (hd.heap_1 P).filter fun p => p.1 != cStatics
theorem look_filter {a b : Addr} (h : (a == b) = false) : ∀ K : Frag, (K.filter fun p => p.1 != b).lookup a = K.lookup a
  | [] => rfl
  | (c, o) :: r => by
    have ih := look_filter h r
    rw [List.filter_cons]
    by_cases hc : c = b
    · subst hc
      simp [List.lookup_cons, h, ih]
    · have : (c != b) = true := by simpa using hc
      simp only [this, if_true, List.lookup_cons, ih]
theorem kx_look {P : Params} {a : Addr} (h : (a == cStatics) = false) : (Kx P).lookup a = (hd.heap_1 P).lookup a := look_filter h _
theorem look2 (P : Params) : ((hd.heap_1 P).lookup cStatics).any (fun o => match o.data with | .func _ => true | .fields _ => true | _ => false) = false := by kernel_rfl
theorem kx_func {P : Params} {f : Addr} {oc : Value} {od : Option Addr} {fd : FuncData} {sl : Array (Option Value)} (h : (hd.heap_1 P).lookup f = some ⟨oc, od, .func fd, sl⟩) : (Kx P).lookup f = some ⟨oc, od, .func fd, sl⟩ := by
  rw [kx_look, h]
  rw [beq_eq_false_iff_ne]
  intro q
  have := look2 P
  rw [← q, h] at this
  cases this
theorem kx_code {P : Params} {cd : Value} {q : Str} (h : codeIn (hd.heap_1 P) cd q = true) : codeIn (Kx P) cd q = true := by
  cases cd with
  | ref c =>
    have hc : (c == cStatics) = false := by
      rw [beq_eq_false_iff_ne]
      intro e
      subst e
      have := look2 P
      unfold codeIn at h
      dsimp only at h
      cases e2 : (hd.heap_1 P).lookup cStatics with
      | none => rw [e2] at h; cases h
      | some o =>
        obtain ⟨o1, o2, d, o4⟩ := o
        cases d with
        | fields vs => rw [e2] at this; cases this
        | _ => rw [e2] at h; cases h
    unfold codeIn at h ⊢
    dsimp only at h ⊢
    rw [kx_look hc]
    exact h
  | _ => exact absurd (show false = true from h) Bool.false_ne_true
theorem kx_ns {P : Params} {x : Str} {r : Option (Option Value)} (h : nsIn (hd.heap_1 P) mainGlobals x = r) : nsIn (Kx P) mainGlobals x = r := by
  unfold nsIn at h ⊢
  rw [kx_look (by decide)]
  exact h
/- what a base heap is known to hold -/
structure Gd (w : World) (h₀ : Heap) : Prop where
  X : (Kx w.params).In h₀
  sz : 100 ≤ h₀.objs.size
  gl : ∃ mg, h₀.Ns mainGlobals mg
  bn : ∃ mb, h₀.Ns builtinsNs mb ∧ ∀ x : Str, x ≠ "__name__" → mb x = bootBuiltins x
  bm : ∃ mg b ob, BMod h₀ mainGlobals mg b ob
theorem Gd.keeps {w : World} {h h' : Heap} (B : Gd w h) (k : ∀ b o, h.get? b = some o → h'.get? b = some o) (hz : 100 ≤ h'.objs.size) : Gd w h' :=
  ⟨B.X.keeps k, hz, let ⟨mg, e⟩ := B.gl; ⟨mg, e.keeps k⟩, let ⟨mb, e, f⟩ := B.bn; ⟨mb, e.keeps k, f⟩, let ⟨mg, b, ob, e⟩ := B.bm; ⟨mg, b, ob, e.keeps k⟩⟩

noncomputable def upd (m : Str → Option Value) (x : Str) (v : Value) : Str → Option Value := fun y => if y = x then some v else m y
theorem upd_self {m : Str → Option Value} {x : Str} {v : Value} : upd m x v x = some v := if_pos rfl
theorem upd_ne {m : Str → Option Value} {x y : Str} {v : Value} {r : Option Value} (h : (y == x) = false) (e : m y = r) : upd m x v y = r := by
  unfold upd
  rw [if_neg (fun q => by rw [q] at h; simp at h)]
  exact e
/- the frame's map as the arguments lay it -/
noncomputable def bm : List (Str × Value) → (Str → Option Value) → Str → Option Value
  | [], m => m
  | p :: r, m => bm r (upd m p.1 p.2)
theorem bm_look (l : List (Str × Value)) (m : Str → Option Value) (x : Str) : bm l m x = (l.reverse.lookup x).or (m x) := by
  induction l generalizing m with
  | nil => rfl
  | cons p r ih =>
    rw [bm, ih]
    simp only [List.reverse_cons, List.lookup_append, upd]
    obtain ⟨y, v⟩ := p
    by_cases h : x = y
    · subst h; simp [List.lookup]
    · have : (x == y) = false := by simp [h]
      simp [List.lookup, this, h]

/- an entry of the ledger: an address and what its object is -/
noncomputable abbrev Ent := Addr × (Obj → Prop)
structure Ldg (h₀ : Heap) (L : Addr) (m : Str → Option Value) (h : Heap) (news : List Ent) : Prop where
  fr : Fr h₀ L h m
  nw : ∀ p ∈ news, (∃ o, h.get? p.1 = some o ∧ p.2 o) ∧ p.1 ≠ L ∧ h₀.get? p.1 = none
  ord : (news.map (·.1)).Pairwise (· ≠ ·)
/- one entry turned -/
inductive Rep (a : Addr) (P P' : Obj → Prop) : List Ent → List Ent → Prop
  | head {r : List Ent} : Rep a P P' ((a, P) :: r) ((a, P') :: r)
  | tail {p : Ent} {r r' : List Ent} : Rep a P P' r r' → Rep a P P' (p :: r) (p :: r')
theorem Rep.mem {a : Addr} {P P' : Obj → Prop} {l l' : List Ent} (h : Rep a P P' l l') : (a, P) ∈ l := by
  induction h with
  | head => exact .head _
  | tail _ ih => exact .tail _ ih
theorem Rep.map {a : Addr} {P P' : Obj → Prop} {l l' : List Ent} (h : Rep a P P' l l') : l'.map (·.1) = l.map (·.1) := by
  induction h with
  | head => rfl
  | tail _ ih => rw [List.map_cons, List.map_cons, ih]
theorem Rep.out {a : Addr} {P P' : Obj → Prop} {l l' : List Ent} (u : Rep a P P' l l') : (l.map (·.1)).Pairwise (· ≠ ·) → ∀ q ∈ l', (q = (a, P')) ∨ (q ∈ l ∧ q.1 ≠ a) := by
  induction u with
  | head =>
    intro o q hq
    rcases List.mem_cons.mp hq with h | h
    · exact .inl h
    · exact .inr ⟨.tail _ h, Ne.symm ((List.pairwise_cons.mp o).1 q.1 (List.mem_map_of_mem h))⟩
  | tail u ih =>
    intro o q hq
    rcases List.mem_cons.mp hq with h | h
    · subst h; exact .inr ⟨.head _, ((List.pairwise_cons.mp o).1 a (List.mem_map_of_mem u.mem))⟩
    · rcases ih (List.pairwise_cons.mp o).2 q h with e | ⟨e1, e2⟩
      · exact .inl e
      · exact .inr ⟨.tail _ e1, e2⟩

section
variable {h₀ h h' : Heap} {L : Addr} {m m' : Str → Option Value} {news news' : List Ent}
theorem Ldg.sub (D : Ldg h₀ L m h news) (hs : news'.Sublist news) : Ldg h₀ L m h news' :=
  ⟨D.fr, fun p hp => D.nw p (hs.subset hp), D.ord.sublist (hs.map _)⟩
theorem Ldg.keeps (D : Ldg h₀ L m h news) (k : ∀ b o, h.get? b = some o → h'.get? b = some o) : Ldg h₀ L m h' news :=
  ⟨⟨D.fr.ns.keeps k, fun b o e => k b o (D.fr.keep b o e), D.fr.above⟩, fun p hp => ⟨let ⟨o, e, q⟩ := (D.nw p hp).1; ⟨o, k _ _ e, q⟩, (D.nw p hp).2⟩, D.ord⟩
theorem Ldg.fresh (D : Ldg h₀ L m h news) {b : Addr} {o : Obj} (e : h₀.get? b = some o) : b < h.objs.size := Heap.lt_size (D.fr.keep b o e)
theorem Ldg.cons (D : Ldg h₀ L m h news) (k : ∀ b o, h.get? b = some o → h'.get? b = some o) {a : Addr} {o : Obj} {P : Obj → Prop} (ha : h.objs.size ≤ a) (ho : h'.get? a = some o) (hp : P o) : Ldg h₀ L m h' ((a, P) :: news) := by
  have D' := D.keeps k
  refine ⟨D'.fr, fun p hq => ?_, ?_⟩
  · rcases List.mem_cons.mp hq with rfl | hq
    · refine ⟨⟨o, ho, hp⟩, fun e => ?_, ?_⟩
      · exact absurd D.fr.ns.lt (by rw [← (show a = L from e)]; exact Nat.not_lt.mpr ha)
      · cases q : h₀.get? a with
        | none => rfl
        | some o' => exact absurd (D.fresh q) (Nat.not_lt.mpr ha)
    · exact D'.nw p hq
  · refine List.Pairwise.cons (fun b hb => ?_) D.ord
    refine Mine.e1_2 (List.mem_map.mp hb) ?_
    intro p hq zq1
    subst zq1
    refine Mine.e1_2 ((D.nw p hq).1) ?_
    intro o' e zu2
    exact Nat.ne_of_gt (Nat.lt_of_lt_of_le (Heap.lt_size e) ha)
theorem Ldg.consF (D : Ldg h₀ L m h news) (k : ∀ b o, h.get? b = some o → h'.get? b = some o) {a : Addr} {o : Obj} {P : Obj → Prop} (ha : h.get? a = none) (ho : h'.get? a = some o) (hp : P o) : Ldg h₀ L m h' ((a, P) :: news) := by
  have D' := D.keeps k
  refine ⟨D'.fr, fun p hq => ?_, ?_⟩
  · rcases List.mem_cons.mp hq with rfl | hq
    · refine ⟨⟨o, ho, hp⟩, fun e => ?_, ?_⟩
      · refine Mine.e3_2 (D.fr.ns) ?_
        intro oL es ep eL r
        have e' : a = L := e
        rw [e', eL] at ha; cases ha
      · cases q : h₀.get? a with
        | none => rfl
        | some o' => have := D.fr.keep a o' q; rw [ha] at this; cases this
    · exact D'.nw p hq
  · refine List.Pairwise.cons (fun b hb => ?_) D.ord
    refine Mine.e1_2 (List.mem_map.mp hb) ?_
    intro p hq zq3
    subst zq3
    refine Mine.e1_2 ((D.nw p hq).1) ?_
    intro o' e zu4
    intro q; subst q; rw [ha] at e; cases e
theorem Ldg.push (D : Ldg h₀ L m h news) {o : Obj} {P : Obj → Prop} (hf : o.isFreed = false) (hp : P o) : Ldg h₀ L m (h.push o) ((h.objs.size, P) :: news) :=
  D.cons (fun _ _ e => Heap.get?_push_of_some _ e) (Nat.le_refl _) (Heap.get?_push_size _ hf) hp
theorem Ldg.same (D : Ldg h₀ L m h news) (hn : h'.Ns L m') (hs : Heap.SameBut L h h') : Ldg h₀ L m' h' news :=
  ⟨D.fr.set hn hs, fun p hp => ⟨let ⟨o, e, q⟩ := (D.nw p hp).1; ⟨o, (hs.2 p.1 (D.nw p hp).2.1).trans e, q⟩, (D.nw p hp).2⟩, D.ord⟩
/- an entry of the ledger changed, things added -/
theorem Ldg.turn {a : Addr} {P P' : Obj → Prop} (D : Ldg h₀ L m h news) (U : Rep a P P' news news') (hs : ∀ b o, b ≠ a → h.get? b = some o → h'.get? b = some o) (ho : ∃ o, h'.get? a = some o ∧ P' o) : Ldg h₀ L m h' news' := by
  have za := D.nw _ U.mem
  have nb : ∀ b o, h₀.get? b = some o → b ≠ a := fun b o e q => by subst q; rw [za.2.2] at e; cases e
  refine Mine.e3_2 (D.fr.ns) ?_
  intro oL es ep hL r
  refine ⟨⟨⟨oL, es, ep, hs _ _ (Ne.symm za.2.1) hL, r⟩, fun b o e => hs b o (nb b o e) (D.fr.keep b o e), D.fr.above⟩, fun p hp => ?_, by rw [U.map]; exact D.ord⟩
  rcases U.out D.ord p hp with e | ⟨e1, e2⟩
  · subst e; exact ⟨ho, za.2⟩
  · obtain ⟨⟨o, e, q⟩, y⟩ := D.nw p e1
    exact ⟨⟨o, hs _ _ e2 e, q⟩, y⟩
end

/- all that the walk knows of a state: the frame's map, the ledger, and that the rest is as it was -/
structure St (z : Shared) (h₀ : Heap) (L : Addr) (m : Str → Option Value) (news : List Ent) (s : Shared) : Prop where
  led : Ldg h₀ L m s.heap news
  dr : s.drawn = z.drawn
  os : s.os = z.os
  gb : AllBare s.gens
  tk : 0 < s.toks

/- the statics: no recursion limit of the program's own -/
noncomputable def isStat (z : Shared) : Obj → Prop := fun o => z.heap.get? cStatics = some o ∧ ∃ (es : Array DictEntry) (ep : Nat) (mc : Str → Option Value), o.data = .dict es ep ∧ StrKeys es ∧ (∀ x, nsFind es x = mc x) ∧ mc ("sys.recursionlimit" : Str) = none ∧ mc ("thirdparty.any" : Str) = none
/- the frame's environment, as far as the rules ask -/
structure EnvIs (env : Env) (L : Addr) (names : List (Str × NameKind)) : Prop where
  kind : env.scope.kind = .function
  loc : env.locals = L
  gl : env.globals = mainGlobals
  bn : env.builtins = builtinsNs
  nm : env.scope.names = names

section
variable {z : Shared} {h₀ : Heap} {L : Addr} {m m' : Str → Option Value} {news news' : List Ent} {s : Shared}
theorem St.sub (D : St z h₀ L m news s) (hs : news'.Sublist news) : St z h₀ L m news' s := ⟨D.led.sub hs, D.dr, D.os, D.gb, D.tk⟩
theorem St.on (D : St z h₀ L m news s) {h' : Heap} (t' : Nat) (d : Ldg h₀ L m' h' news') (ht : 0 < t' := by first | exact Nat.succ_pos _ | exact Mine.St.tk (by assumption)) : St z h₀ L m' news' { s with heap := h', toks := t' } := ⟨d, D.dr, D.os, D.gb, ht⟩
theorem St.tok (D : St z h₀ L m news s) (t' : Nat) (ht : 0 < t' := by first | exact Nat.succ_pos _ | exact Mine.St.tk (by assumption)) : St z h₀ L m news { s with toks := t' } := ⟨D.led, D.dr, D.os, D.gb, ht⟩
theorem St.get (D : St z h₀ L m news s) {a : Addr} {P : Obj → Prop} (hm : (a, P) ∈ news) : ∃ o, s.heap.get? a = some o ∧ P o := (D.led.nw _ hm).1
theorem St.keeps (D : St z h₀ L m news s) {h' : Heap} (t' : Nat) (k : ∀ b o, s.heap.get? b = some o → h'.get? b = some o) (ht : 0 < t' := by first | exact Nat.succ_pos _ | exact Mine.St.tk (by assumption)) : St z h₀ L m news { s with heap := h', toks := t' } := D.on t' (D.led.keeps k) ht
theorem St.keep (D : St z h₀ L m news s) {a : Addr} {o : Obj} (e : h₀.get? a = some o) : s.heap.get? a = some o := D.led.fr.keep a o e
theorem St.nl (D : St z h₀ L m news s) (hm : (cStatics, isStat z) ∈ news) : s.heap.NoLimit := by
  obtain ⟨o, e, _, es, ep, mc, a1, a2, a3, a4, a5⟩ := D.get hm
  exact ⟨mc, ⟨o, es, ep, e, a1, a2, a3⟩, a4⟩
theorem St.any (D : St z h₀ L m news s) (hm : (cStatics, isStat z) ∈ news) : ∃ mc, s.heap.Ns cStatics mc ∧ mc ("thirdparty.any" : Str) = none := by
  obtain ⟨o, e, _, es, ep, mc, a1, a2, a3, a4, a5⟩ := D.get hm
  exact ⟨mc, ⟨o, es, ep, e, a1, a2, a3⟩, a5⟩
theorem St.X {w : World} (D : St z h₀ L m news s) (B : Gd w h₀) : (Kx w.params).In s.heap := B.X.keeps D.led.fr.keep
end

section
variable {w : World} {z : Shared} {prog : Program} {A : Around} {E : Value → Shared → Prop} {h₀ : Heap} {s : Shared} {L : Addr} {m : Str → Option Value} {news : List Ent}

/- a def of the text is entered; `back` leads the ledger home -/
theorem enter {f : Addr} {name qual : Str} {params : Arguments} {body : List Stmt} {scope : Scope} {cl : List (Str × Addr)} {dV kV doc pm cdv ct oc : Value} {an od : Option Addr} {osl : Array (Option Value)} {args : List Value} {binds : List (Str × Value)} {Q : Value → Shared → Prop}
    (D : St z h₀ L m news s) (B : Gd w h₀) (hst : (cStatics, isStat z) ∈ news) (ho : (hd.heap_1 w.params).lookup f = some ⟨oc, od, .func (fnX name qual params body scope cl dV kV doc pm an cdv ct), osl⟩) (hcd : codeIn (hd.heap_1 w.params) cdv qual = true)
    (hroom : A.depth < recursionLimit) (hbind : BindsTo s (fnX name qual params body scope cl dV kV doc pm an cdv ct) ⟨args, []⟩ binds) (hcell : (scope.names.all fun x => x.2 != .cell) = true) (hloc : (binds.all fun x => scope.names.lookup x.1 == some .local) = true)
    (hco : scope.isCoroutine = false) (hgen : scope.isGenerator = false) (hk : scope.kind = .function)
    (k : ∀ g₁ L' s₁ env, St z g₁ L' (bm binds fun _ => none) news s₁ → Gd w g₁ → EnvIs env L' scope.names → env = callEnv (fnX name qual params body scope cl dV kV doc pm an cdv ct) L' f → (∀ m₂ news₂ s₂, St z g₁ L' m₂ news₂ s₂ → St z h₀ L m news₂ s₂) →
      wpAny (model prog w) (A.deeper env) (execs body env) (fun fl s' => Q (match fl with | .ret v => v | _ => .none) s') (fun _ _ => False) s₁) :
    wpAny (model prog w) A (call (.ref f) args) Q E s := by
  have F := D.led.fr
  have N := D.led.nw
  have nm : ∀ b o, h₀.get? b = some o → b ∉ news.map (·.1) := fun b o e q => by
    refine Mine.e1_2 (List.mem_map.mp q) ?_
    intro p hp zq5
    subst zq5
    rw [(N p hp).2.2] at e; cases e
  have st : ∀ b o, h₀.get? b = some o → (hideAll s.heap (news.map (·.1))).get? b = some o := fun b o e => hideAll_get _ (F.keep b o e) (nm b o e)
  refine Mine.e3_4 (F.ns) ?_
  intro oL es ep hL hLd hLk hLf
  have nL : L ∉ news.map (·.1) := fun q => by
    refine Mine.e1_2 (List.mem_map.mp q) ?_
    intro p hp e
    exact (N p hp).2.1 e
  have hLg := hideAll_get (news.map (·.1)) hL nL
  have X := D.X B
  refine wpAny_call (codeAny_call_def (body := body) (binds := binds) hroom (X _ _ (kx_func ho)) rfl (D.nl hst) (codeRec_of X (kx_code hcd)) rfl hbind (fun x hx => by have := List.all_eq_true.mp hcell x hx; simpa using this) (fun x hx => by have := List.all_eq_true.mp hloc x hx; simpa using this) (fun h₁ hns hk₁ => ?_) hco hgen hk)
  have hns' : h₁.Ns s.heap.objs.size (bm binds fun _ => none) := by
    have e : (bm binds fun _ => none) = fun x => binds.reverse.lookup x := by
      funext x; rw [bm_look]; cases binds.reverse.lookup x <;> rfl
    rw [e]; exact hns
  refine wpAny_mono (k (hideAll s.heap (news.map (·.1))) s.heap.objs.size _ _ ⟨⟨⟨hns', fun b o e => hk₁ b o (of_hideAll _ e), Nat.le_of_eq (hideAll_size _ _)⟩, fun p hp => ⟨let ⟨o, e, q⟩ := (N p hp).1; ⟨o, hk₁ _ _ e, q⟩, let ⟨_, e, _⟩ := (N p hp).1; Nat.ne_of_lt (Heap.lt_size e), hideAll_none _ (List.mem_map_of_mem hp)⟩, D.led.ord⟩, D.dr, D.os, D.gb, Nat.lt_of_lt_of_le D.tk (Nat.le_add_right _ _)⟩ (B.keeps st (by rw [hideAll_size]; exact Nat.le_trans B.sz (Nat.le_trans F.above (Nat.le_of_lt F.ns.lt)))) ⟨hk, rfl, rfl, rfl, rfl⟩ rfl fun m₂ news₂ s₂ D₂ => ?_) (fun fl s' q => q) fun _ _ q => q.elim
  have F₂ := D₂.led.fr
  have N₂ := D₂.led.nw
  refine ⟨⟨⟨⟨oL, es, ep, F₂.keep L oL hLg, hLd, hLk, hLf⟩, fun b o e => F₂.keep b o (st b o e), F.above⟩, fun p hp => ⟨(N₂ p hp).1, fun q => ?_, ?_⟩, D₂.led.ord⟩, D₂.dr, D₂.os, D₂.gb, D₂.tk⟩
  · have := (N₂ p hp).2.2; rw [q, hLg] at this; cases this
  · cases q : h₀.get? p.1 with
    | none => rfl
    | some o => have := (N₂ p hp).2.2; rw [st _ _ q] at this; cases this
end

/- what an object is -/
noncomputable def isLst (vs : List Value) : Obj → Prop := fun o => ∃ n, o = { cls := .type "list", data := .seq vs.toArray n }
noncomputable def isTpl (vs : List Value) : Obj → Prop := fun o => ∃ n, o = { cls := .type "tuple", data := .seq vs.toArray n }

/- ## leaf rules -/
section
variable {w : World} {z : Shared} {prog : Program} {A : Around} {E : Value → Shared → Prop} {h₀ : Heap} {s : Shared} {L : Addr} {m : Str → Option Value} {news : List Ent} {env : Env} {names : List (Str × NameKind)} {Q : Value → Shared → Prop}

theorem rNmL {x : Str} {pos : Pos} {v : Value} (D : St z h₀ L m news s) (hE : EnvIs env L names) (hl : names.lookup x = some .local) (hv : m x = some v) (h : Q v s)
    (hd : (x == ("__debug__" : Str)) = false) : wpAny (model prog w) A (eval (.Name x pos) env) Q E s :=
  wpAny_Name (wpAny_loadName_local hE.kind (by rw [Env.kindOf, hE.nm]; exact hl) (by rw [hE.loc]; exact D.led.fr.ns) hv h) hd
theorem rNmG {x : Str} {pos : Pos} {v : Value} (D : St z h₀ L m news s) (B : Gd w h₀) (hE : EnvIs env L names) (hl : names.lookup x = some .globalImplicit) (e : nsIn (hd.heap_1 w.params) mainGlobals x = some (some v)) (h : Q v s)
    (hd : (x == ("__debug__" : Str)) = false) : wpAny (model prog w) A (eval (.Name x pos) env) Q E s := by
  obtain ⟨mg, hg⟩ := B.gl
  exact Calls.Name_function_global hE.kind (by rw [Env.kindOf, hE.nm]; exact hl) (Calls.loadGlobal_global (env := env) (by rw [hE.gl]; exact hg.keeps D.led.fr.keep) (mg_of B.X hg (kx_ns e)) h) hd
theorem rNmB {x : Str} {pos : Pos} {v : Value} (D : St z h₀ L m news s) (B : Gd w h₀) (hE : EnvIs env L names) (hl : names.lookup x = some .globalImplicit) (e : nsIn (hd.heap_1 w.params) mainGlobals x = some none) (hb : bootBuiltins x = some v) (hn : (x == ("__name__" : Str)) = false) (h : Q v s)
    (hd : (x == ("__debug__" : Str)) = false) : wpAny (model prog w) A (eval (.Name x pos) env) Q E s := by
  obtain ⟨mg, hg⟩ := B.gl
  refine Mine.e1_2 (B.bn) ?_
  intro mb hmb hf
  exact Calls.Name_function_global hE.kind (by rw [Env.kindOf, hE.nm]; exact hl) (Calls.loadGlobal_builtin (env := env) (by rw [hE.gl]; exact hg.keeps D.led.fr.keep) (mg_none_of B.X hg (kx_ns e)) (by rw [hE.bn]; exact hmb.keeps D.led.fr.keep) ((hf x (fun q => by rw [q] at hn; simp at hn)).trans hb) h) hd
theorem bbLen : bootBuiltins (Str.ofString "len") = some (.builtin "len") := by kernel_rfl
theorem bbSum : bootBuiltins (Str.ofString "sum") = some (.builtin "sum") := by kernel_rfl
theorem bbIter : bootBuiltins (Str.ofString "iter") = some (.builtin "iter") := by kernel_rfl
theorem bbZip : bootBuiltins (Str.ofString "zip") = some (.type "zip") := by kernel_rfl
theorem bbRange : bootBuiltins (Str.ofString "range") = some (.type "range") := by kernel_rfl
theorem bbInt : bootBuiltins (Str.ofString "int") = some (.type "int") := by kernel_rfl
theorem bbFilter : bootBuiltins (Str.ofString "filter") = some (.type "filter") := by kernel_rfl
theorem bbStr : bootBuiltins (Str.ofString "str") = some (.type "str") := by kernel_rfl
theorem bbSuper : bootBuiltins (Str.ofString "super") = some (.type "super") := by kernel_rfl
theorem rStr {x : Str} {k : Nat} {pos : Pos} (D : St z h₀ L m news s) (h : ∀ t s', St z h₀ L m news s' → Q (.str x t) s') : wpAny (model prog w) A (eval (.Constant (.str x) k pos) env) Q E s :=
  Calls.Constant_str (h _ _ (D.tok _))
theorem rInt {i : Int} {k : Nat} {pos : Pos} (D : St z h₀ L m news s) (h : ∀ t s', St z h₀ L m news s' → Q (.int i t) s') : wpAny (model prog w) A (eval (.Constant (.int i) k pos) env) Q E s :=
  wpAny_Constant_int (h _ _ (D.tok _))
theorem rBool {b : Bool} {k : Nat} {pos : Pos} (h : Q (.bool b) s) : wpAny (model prog w) A (eval (.Constant (.bool b) k pos) env) Q E s := fun _ _ _ => h
theorem rNone {k : Nat} {pos : Pos} (h : Q .none s) : wpAny (model prog w) A (eval (.Constant .none k pos) env) Q E s := fun _ _ _ => h
theorem rSto {x : Str} {v : Value} {Q : Unit → Shared → Prop} (D : St z h₀ L m news s) (hE : EnvIs env L names) (hl : names.lookup x = some .local) (h : ∀ s', St z h₀ L (upd m x v) news s' → Q () s') : wpAny (model prog w) A (storeName env x v) Q E s :=
  wpAny_storeName_local (by rw [Env.kindOf, hE.nm]; exact hl) (by rw [hE.loc]; exact D.led.fr.ns) (fun h' hn hs => h _ (D.on _ (D.led.same (by rw [← hE.loc]; exact hn) (by rw [← hE.loc]; exact hs))))
    (by rw [hE.kind]; rfl)
theorem rNewList {vs : List Value} (D : St z h₀ L m news s) (hsz : vs.length ≤ sizeLine) (h : ∀ a s', St z h₀ L m ((a, isLst vs) :: news) s' → Q (.ref a) s') : wpAny (model prog w) A (newList vs) Q E s :=
  wpAny_newObj_type (h _ _ (D.on (s := s) s.toks (D.led.push rfl ⟨_, rfl⟩))) (by show vs.toArray.size ≤ sizeLine; rw [List.size_toArray]; exact hsz)
theorem rNewTuple {vs : List Value} (D : St z h₀ L m news s) (hsz : vs.length ≤ sizeLine) (h : ∀ a s', St z h₀ L m ((a, isTpl vs) :: news) s' → Q (.ref a) s') : wpAny (model prog w) A (newTuple vs) Q E s :=
  wpAny_newObj_type (h _ _ (D.on (s := s) s.toks (D.led.push rfl ⟨_, rfl⟩))) (by show vs.toArray.size ≤ sizeLine; rw [List.size_toArray]; exact hsz)
end

/- ## statement rules -/
section
variable {w : World} {prog : Program} {A : Around} {E : Value → Shared → Prop} {s : Shared} {env : Env} {L : Addr} {names : List (Str × NameKind)} {Q : Flow → Shared → Prop} {rest : List Stmt}
theorem xAssign {x : Str} {p' : Pos} {value : Expr} {p : Pos} (h : wpAny (model prog w) A (eval value env) (fun v s₁ => wpAny (model prog w) A (storeName env x v) (fun _ s₂ => wpAny (model prog w) A (execs rest env) Q E s₂) E s₁) E s)
    (hs : swapsWith value (some (.Name x p')) p.line env = pure false) : wpAny (model prog w) A (execs (.Assign [.Name x p'] value p :: rest) env) Q E s :=
  wpAny_execs_cons (wpAny_Assign_Name h hs)
theorem xExpr {e : Expr} {p : Pos} (hE : EnvIs env L names) (h : wpAny (model prog w) A (eval e env) (fun _ s₂ => wpAny (model prog w) A (execs rest env) Q E s₂) E s)
    (hs : swapsWith e none p.line env = pure false) : wpAny (model prog w) A (execs (.Expr e p :: rest) env) Q E s :=
  wpAny_execs_cons (wpAny_Expr_any h (by unfold interactive; rw [hE.kind]; rfl) hs)
theorem xReturn {e : Expr} {p : Pos} (h : wpAny (model prog w) A (eval e env) (fun v s' => Q (.ret v) s') E s) : wpAny (model prog w) A (execs (.Return (some e) p :: rest) env) Q E s :=
  wpAny_execs_cons (wpAny_Return_some h)
end
end Mine
end

section
open PySem PySem.W PySem.W.X PyProof.Rows PySem.Calls
set_option maxRecDepth 100000
namespace Mine

noncomputable def isIt (l : Addr) (i : Nat) : Obj → Prop := fun o => o.cls = .type "list_iterator" ∧ o.data = .fields #[.ref l, .int i 0]

/- the loop's code, its ends told -/
noncomputable def ForAt (prog : Program) (w : World) (A : Around) (env : Env) (target : Expr) (body orelse : List Stmt) (K : Flow → Shared → Prop) (it : Value) (s : Shared) : Prop :=
  codeAny (model prog w) A (.forLoop target it body orelse env) (fun r s' => match r with | .ok f => K f s' | .error _ => False) s
/- what a turn's end must show -/
noncomputable def TurnQ (K : Flow → Shared → Prop) (J : Shared → Prop) (f : Flow) (s : Shared) : Prop := match f with
  | .next | .cont => J s
  | .brk => K .next s
  | .ret v => K (.ret v) s
/- what follows a statement -/
noncomputable def AndThen (prog : Program) (w : World) (A : Around) (env : Env) (rest : List Stmt) (Q : Flow → Shared → Prop) (E : Value → Shared → Prop) (f : Flow) (s : Shared) : Prop := match f with
  | .next => wpAny (model prog w) A (execs rest env) Q E s
  | f => Q f s

noncomputable def envT (names : List (Str × NameKind)) : Env := { scope := { kind := .function, names := names, isGenerator := false, isCoroutine := false, more := [] }, locals := 0, globals := 0, cells := [] }
theorem swapEq {env : Env} {L : Addr} {names : List (Str × NameKind)} (hE : EnvIs env L names) (ts : List Expr) (v : Expr) : swappedStores ts v env = swappedStores ts v (envT names) := by
  unfold swappedStores Env.blockKind Env.kindOf
  rw [hE.kind, hE.nm]
  rfl

section
variable {w : World} {prog : Program} {A : Around} {E : Value → Shared → Prop} {s : Shared} {env : Env} {L : Addr} {names : List (Str × NameKind)} {Q : Flow → Shared → Prop} {rest : List Stmt}
theorem xSwap {elts : List Expr} {k : Nat} {tp : Pos} {value : Expr} {p : Pos} {nms : List Str} (hE : EnvIs env L names)
    (h : wpAny (model prog w) A (eval value env) (fun v s₁ => wpAny (model prog w) A (unpackItems v nms.length none) (fun items s₂ => wpAny (model prog w) A (assignInOrder (nms.reverse.map fun n => bindName env n) items.reverse) (fun _ s₃ => wpAny (model prog w) A (execs rest env) Q E s₃) E s₂) E s₁) E s)
    (hs : swapsWithSole [.Tuple elts k tp] value p.line env = pure false) (hw : swappedStores [.Tuple elts k tp] value (envT names) = pure (some nms)) : wpAny (model prog w) A (execs (.Assign [.Tuple elts k tp] value p :: rest) env) Q E s :=
  wpAny_execs_cons (Assign_Tuple_swapped h hs ((swapEq hE _ _).trans hw))
theorem xTup {elts : List Expr} {k : Nat} {tp : Pos} {value : Expr} {p : Pos} (hE : EnvIs env L names) (h : wpAny (model prog w) A (eval value env) (fun v s₁ => wpAny (model prog w) A (assign (.Tuple elts k tp) env v) (fun _ s₂ => wpAny (model prog w) A (execs rest env) Q E s₂) E s₁) E s)
    (hs : swapsWithSole [.Tuple elts k tp] value p.line env = pure false) (hw : swappedStores [.Tuple elts k tp] value (envT names) = pure none) : wpAny (model prog w) A (execs (.Assign [.Tuple elts k tp] value p :: rest) env) Q E s :=
  wpAny_execs_cons (Assign_Tuple h hs ((swapEq hE _ _).trans hw))
theorem xNil (h : Q .next s) : wpAny (model prog w) A (execs [] env) Q E s := wpAny_execs_nil h
theorem xIf' {test : Expr} {body orelse : List Stmt} {p : Pos} (h : wpAny (model prog w) A (isTrue test env (eval test env)) (fun b s₂ => if b then wpAny (model prog w) A (execs body env) (AndThen prog w A env rest Q E) E s₂
      else wpAny (model prog w) A (execs orelse env) (AndThen prog w A env rest Q E) E s₂) E s) :
    wpAny (model prog w) A (execs (.If test body orelse p :: rest) env) Q E s := by
  refine wpAny_execs_cons (wpAny_If (wpAny_mono h (fun b s₂ q => ?_) fun _ _ e => e))
  cases b
  · exact wpAny_mono q (fun f s' q' => by cases f <;> exact q') fun _ _ e => e
  · exact wpAny_mono q (fun f s' q' => by cases f <;> exact q') fun _ _ e => e
theorem xFor {target iter : Expr} {body orelse : List Stmt} {p : Pos} (h : wpAny (model prog w) A (eval iter env) (fun x s₁ => wpAny (model prog w) A (pyIter x) (ForAt prog w A env target body orelse (AndThen prog w A env rest Q E)) E s₁) E s)
    (hs : ∀ x, foldedSetIterable iter env x = pure x) : wpAny (model prog w) A (execs (.For target iter body orelse p :: rest) env) Q E s := by
  refine wpAny_execs_cons (wpAny_For (wpAny_mono h (fun x s₁ q => wpAny_mono q (fun it s₂ q2 => codeAny_mono q2 fun r s' q3 => ?_) fun _ _ e => e) fun _ _ e => e) hs)
  cases r with
  | ok f => cases f <;> exact q3
  | error e => exact q3.elim
theorem xAsgSub {o i value : Expr} {p' p : Pos} (h : wpAny (model prog w) A (eval value env) (fun v s₁ => wpAny (model prog w) A (eval o env) (fun ov s₂ => wpAny (model prog w) A (eval i env) (fun iv s₃ =>
      wpAny (model prog w) A (setItem ov iv v) (fun _ s₄ => wpAny (model prog w) A (execs rest env) Q E s₄) E s₃) E s₂) E s₁) E s)
    (hs : swapsWith value (some (.Subscript o i p')) p.line env = pure false) : wpAny (model prog w) A (execs (.Assign [.Subscript o i p'] value p :: rest) env) Q E s :=
  wpAny_execs_cons (wpAny_Assign_Subscript h hs)
theorem aioNil {vs : List Value} {Q : Unit → Shared → Prop} (h : Q () s) : wpAny (model prog w) A (assignInOrder [] vs) Q E s := by
  show wpAny _ _ (pure ()) _ _ _; exact wpAny_pure h
theorem aioCons {t : Value → Sem Unit} {ts : List (Value → Sem Unit)} {v : Value} {vs : List Value} {Q : Unit → Shared → Prop} (h : wpAny (model prog w) A (t v) (fun _ s₁ => wpAny (model prog w) A (assignInOrder ts vs) Q E s₁) E s) : wpAny (model prog w) A (assignInOrder (t :: ts) (v :: vs)) Q E s :=
  wpAny_bind (wpAny_holding h)
end

section
variable {w : World} {z : Shared} {prog : Program} {A : Around} {E : Value → Shared → Prop} {h₀ : Heap} {s : Shared} {L : Addr} {m : Str → Option Value} {news news' : List Ent} {env : Env} {names : List (Str × NameKind)} {Q : Value → Shared → Prop}

theorem St.turn (D : St z h₀ L m news s) {a : Addr} {P P' : Obj → Prop} {h' : Heap} (t' : Nat) (U : Rep a P P' news news') (hs : ∀ b o, b ≠ a → s.heap.get? b = some o → h'.get? b = some o) (ho : ∃ o, h'.get? a = some o ∧ P' o) (ht : 0 < t' := by first | exact Nat.succ_pos _ | exact Mine.St.tk (by assumption)) : St z h₀ L m news' { s with heap := h', toks := t' } :=
  D.on t' (D.led.turn U hs ho) ht
theorem St.ext (D : St z h₀ L m news s) {h' : Heap} (t' : Nat) (k : Heap.ExtBut s.heap.objs.size s.heap h') (ht : 0 < t' := by first | exact Nat.succ_pos _ | exact Mine.St.tk (by assumption)) : St z h₀ L m news { s with heap := h', toks := t' } :=
  D.keeps t' (fun b o e => k b o (Nat.ne_of_lt (Heap.lt_size e)) e) ht
theorem St.lst (D : St z h₀ L m news s) {a : Addr} {vs : List Value} (hm : (a, isLst vs) ∈ news) : s.heap.PlainList a vs.toArray := let ⟨_, e, n, q⟩ := D.get hm; ⟨n, q ▸ e⟩
theorem St.tpl (D : St z h₀ L m news s) {a : Addr} {vs : List Value} (hm : (a, isTpl vs) ∈ news) : IsTup s.heap a vs.toArray := let ⟨_, e, n, q⟩ := D.get hm; ⟨_, q ▸ e, rfl, n, rfl⟩

theorem rUnpack {a : Addr} {vs : List Value} {n : Nat} {Q : List Value → Shared → Prop} (D : St z h₀ L m news s) (hh : A.handled = none) (hm : (a, isTpl vs) ∈ news) (hn : vs.length = n) (h : ∀ s', St z h₀ L m news s' → Q vs s') : wpAny (model prog w) A (unpackItems (.ref a) n none) Q E s := by
  have e : n = vs.toArray.size := by rw [List.size_toArray]; exact hn.symm
  rw [e]
  exact unpackItems_tuple hh (D.tpl hm) fun h' he => h _ (D.ext s.toks he)
theorem rBind {x : Str} {v : Value} {Q : Unit → Shared → Prop} (h : wpAny (model prog w) A (storeName env x v) Q E s) : wpAny (model prog w) A (bindName env x v) Q E s := wpAny_bindName h

/- a loop over a list that stays -/
theorem iterList {x : Str} {px : Pos} {l : Addr} {vs : List Value} {body orelse : List Stmt} {K : Flow → Shared → Prop} (J : Nat → (Str → Option Value) → List Ent → Prop)
    (D : St z h₀ L m news s) (hh : A.handled = none) (hl₀ : s.heap.IsList l vs.toArray) (hj : J 0 m news)
    (hl : ∀ i m' news' e s', J i m' news' → St z h₀ L m' (e :: news') s' → s'.heap.IsList l vs.toArray)
    (turn : ∀ i v m' news' it s', vs[i]? = some v → J i m' news' → St z h₀ L m' ((it, isIt l (i + 1)) :: news') s' →
      wpAny (model prog w) A (storeName env x v) (fun _ s₂ => wpAny (model prog w) A (execs body env) (TurnQ K fun s₃ => ∃ m₂ news₂, J (i + 1) m₂ news₂ ∧ St z h₀ L m₂ ((it, isIt l (i + 1)) :: news₂) s₃) (fun _ _ => False) s₂) (fun _ _ => False) s')
    (done : ∀ m' news' s', J vs.length m' news' → St z h₀ L m' news' s' → wpAny (model prog w) A (execs orelse env) K (fun _ _ => False) s') :
    wpAny (model prog w) A (pyIter (.ref l)) (ForAt prog w A env (.Name x px) body orelse K) E s := by
  refine wpAny_pyIter_list hl₀ ?_
  have D₀ := D.on (s := s) s.toks (D.led.push (P := isIt l 0) (o := { cls := .type "list_iterator", data := .fields #[.ref l, .int 0 0] }) rfl ⟨rfl, rfl⟩)
  generalize hit : s.heap.objs.size = it at D₀ ⊢
  refine codeAny_forLoop_any (fun n s' => ∃ i m' news', i + n = vs.length ∧ J i m' news' ∧ St z h₀ L m' ((it, isIt l i) :: news') s') (fun n s' hI => ?_) vs.length ⟨0, m, news, by lia, hj, D₀⟩
  refine Mine.e3_3 hI ?_
  try clear hI
  intro i m' news' hin hJ D'
  have hL := hl i m' news' _ s' hJ D'
  have hI : s'.heap.IsListIter it l i := D'.get (.head _)
  cases n with
  | zero =>
    refine wpAny_pyNext_list_end hh hI hL (by simp; lia) fun h' he => ?_
    have D'' : St z h₀ L m' news' { s' with heap := h' } := by
      have ne : ∀ p ∈ news', p.1 ≠ it := fun p hp => Ne.symm ((List.pairwise_cons.mp D'.led.ord).1 p.1 (List.mem_map_of_mem hp))
      have nb : ∀ b o, h₀.get? b = some o → b ≠ it := fun b o e q => by subst q; rw [(D'.led.nw _ (.head _)).2.2] at e; cases e
      refine Mine.e3_2 (D'.led.fr.ns) ?_
      intro oL es ep eL r
      refine ⟨⟨⟨⟨oL, es, ep, he _ _ (Ne.symm (D'.led.nw _ (.head _)).2.1) eL, r⟩, fun b o e => he b o (nb b o e) (D'.keep e), D'.led.fr.above⟩, fun p hp => ?_, (List.pairwise_cons.mp D'.led.ord).2⟩, D'.dr, D'.os, D'.gb, D'.tk⟩
      obtain ⟨⟨o, e, q⟩, y⟩ := D'.led.nw p (.tail _ hp)
      exact ⟨⟨o, he _ _ (ne p hp) e, q⟩, y⟩
    have hi : i = vs.length := by lia
    subst hi
    exact wpAny_mono (done m' news' _ hJ D'') (fun f s₃ q => q) fun _ _ q => q.elim
  | succ n =>
    have hlt : i < vs.length := by lia
    refine wpAny_pyNext_list_item hI hL (x := vs[i]) (by simp [hlt]) fun h' hit' hs => ?_
    have D'' : St z h₀ L m' ((it, isIt l (i + 1)) :: news') { s' with heap := h' } := D'.turn s'.toks .head (fun b o hb e => (hs.2 b hb).trans e) hit'
    show wpAny (model prog w) A (pure ()) _ _ _
    refine wpAny_pure ?_
    show wpAny (model prog w) A (do standAt px; bindName env x vs[i]) _ _ _
    refine wpAny_bind (wpAny_standAt (wpAny_bindName ?_))
    refine wpAny_mono (turn i vs[i] m' news' it _ (by simp [hlt]) hJ D'') (fun _ s₂ q => wpAny_mono q (fun f s₃ q3 => ?_) fun _ _ q => q.elim) fun _ _ q => q.elim
    cases f with
    | next => obtain ⟨m₂, news₂, j, d⟩ := q3; exact ⟨n, by lia, i + 1, m₂, news₂, by lia, j, d⟩
    | cont => obtain ⟨m₂, news₂, j, d⟩ := q3; exact ⟨n, by lia, i + 1, m₂, news₂, by lia, j, d⟩
    | brk => exact q3
    | ret v => exact q3
end
end Mine
end

section
open PySem PySem.W PySem.W.X PyProof.Rows PySem.Calls
set_option maxRecDepth 100000
namespace Mine
section
variable {w : World} {z : Shared} {prog : Program} {A : Around} {E : Value → Shared → Prop} {h₀ : Heap} {s : Shared} {L : Addr} {m : Str → Option Value} {news news' : List Ent} {env : Env} {names : List (Str × NameKind)} {Q : Value → Shared → Prop} {a b : Int} {t u : Tok}
/- ints -/
theorem rAdd (D : St z h₀ L m news s) (h : ∀ t' s', St z h₀ L m news s' → Q (.int (a + b) t') s') : wpAny (model prog w) A (binaryOp .Add (.int a t) (.int b u)) Q E s := P.add_int (h _ _ (D.tok _))
theorem rSub (D : St z h₀ L m news s) (h : ∀ t' s', St z h₀ L m news s' → Q (.int (a - b) t') s') : wpAny (model prog w) A (binaryOp .Sub (.int a t) (.int b u)) Q E s := P.sub_int (h _ _ (D.tok _))
theorem rMul (D : St z h₀ L m news s) (hm : IntMulOk a b) (h : ∀ t' s', St z h₀ L m news s' → Q (.int (a * b) t') s') : wpAny (model prog w) A (binaryOp .Mult (.int a t) (.int b u)) Q E s := P.mul_int (h _ _ (D.tok _)) hm
theorem rMod (D : St z h₀ L m news s) (hb : b ≠ 0) (h : ∀ t' s', St z h₀ L m news s' → Q (.int (a.fmod b) t') s') : wpAny (model prog w) A (binaryOp .Mod (.int a t) (.int b u)) Q E s := mod_int' hb (h _ _ (D.tok _))
theorem rDiv (D : St z h₀ L m news s) (hb : b ≠ 0) (hp : Builtin.divisionGoesByPylong a b = false) (h : ∀ t' s', St z h₀ L m news s' → Q (.int (a.fdiv b) t') s') : wpAny (model prog w) A (binaryOp .FloorDiv (.int a t) (.int b u)) Q E s := floordiv_int hb (h _ _ (D.tok _)) (.inl hp)
theorem rNeg (D : St z h₀ L m news s) (h : ∀ t' s', St z h₀ L m news s' → Q (.int (-a) t') s') : wpAny (model prog w) A (unaryOp .USub (.int a t)) Q E s := P.neg_int (h _ _ (D.tok _))
theorem rTruB {c : Bool} {Q : Bool → Shared → Prop} (h : Q c s) : wpAny (model prog w) A (truthy (.bool c)) Q E s := wpAny_truthy_bool h
/- strs -/
theorem rCat {x y : Str} (D : St z h₀ L m news s) (hsz : x.length + y.length ≤ sizeLine) (h : ∀ t' s', St z h₀ L m news s' → Q (.str (x ++ y) t') s') : wpAny (model prog w) A (binaryOp .Add (.str x t) (.str y u)) Q E s := by
  have hz : ∀ q : Str, (q.length == 0) = true → q.cps = #[] := fun q e => Array.eq_empty_of_size_eq_zero (beq_iff_eq.mp e)
  refine P.add_str ?_
  by_cases h1 : (x.length == 0) = true
  · rw [if_pos h1]
    have e : x ++ y = y := Str.ext' (by rw [Str.cps_append, hz x h1]; simp)
    exact e ▸ h u s D
  · rw [if_neg h1]
    by_cases h2 : (y.length == 0) = true
    · rw [if_pos h2]
      have e : x ++ y = x := Str.ext' (by rw [Str.cps_append, hz y h2]; simp)
      exact e ▸ h t s D
    · rw [if_neg h2]
      exact ⟨by rw [Str.length_append]; exact hsz, h _ _ (D.tok _)⟩
theorem rTruS {x : Str} {Q : Bool → Shared → Prop} (D : St z h₀ L m news s) (hsz : x.length ≤ sizeLine) (h : ∀ s', St z h₀ L m news s' → Q (x.length != 0) s') : wpAny (model prog w) A (truthy (.str x t)) Q E s := by
  refine P.truthy_str (by rw [sizeLine_eq] at hsz; lia) ?_
  have e : (((x.length : Int)) != 0) = (x.length != 0) := by
    by_cases q : x.length = 0
    · simp [q]
    · have q' : (x.length : Int) ≠ 0 := by lia
      simp [bne, beq_eq_false_iff_ne.mpr q, beq_eq_false_iff_ne.mpr q']
  rw [e]
  exact h _ (D.tok _)
/- lists -/
theorem rAppend {l : Addr} {vs : List Value} {x : Value} (D : St z h₀ L m news s) (U : Rep l (isLst vs) (isLst (vs ++ [x])) news news') (hsz : vs.length ≤ sizeLine) (h : ∀ s', St z h₀ L m news' s' → Q .none s') : wpAny (model prog w) A (call (.builtin "list.append") [.ref l, x]) Q E s := by
  refine wpAny_list_append_plain (D.lst U.mem) (fun h' hp hs => h _ (D.turn s.toks U (fun b o hb e => (hs.2 b hb).trans e) ?_)) (by simpa using hsz)
  obtain ⟨n, e⟩ := hp
  exact ⟨_, e, n, by simp⟩
theorem rLstMeth {l : Addr} {vs : List Value} {name : Str} {id : String} {pl : Sem Bool} {Q : Value × List Value → Shared → Prop} (D : St z h₀ L m news s) (hm : (l, isLst vs) ∈ news) (slot : Slot "list" name id) (hty : typeOf (.builtin id) = pure (.type "method_descriptor")) (h : Q (.builtin id, [.ref l]) s) : wpAny (model prog w) A (getMethod (.ref l) name pl) Q E s := by
  obtain ⟨n, e⟩ := D.lst hm
  exact getMethod_builtin ⟨_, e, rfl⟩ PySem.F.plainAttrs_list slot hty (fun a q => by cases q; exact ⟨_, e, rfl⟩) h
theorem rItem {value slice : Expr} {l : Addr} {vs : List Value} {k : Int} {x : Value} (D : St z h₀ L m news s) (hm : (l, isLst vs) ∈ news) (h0 : 0 ≤ k) (hfit : k < 2 ^ 63) (hx : vs[k.toNat]? = some x) (h : Q x s)
    (hs : subscripted slice false (.ref l) (.int k u) = operate [.ref l, .int k u] (getItem (.ref l) (.int k u))) : wpAny (model prog w) A (subscriptTail value slice (.ref l) (.int k u)) Q E s :=
  tail_any (D.lst hm).isList.typeIs slot_list_getitem.lookup (wpAny_getItem_list (D.lst hm).isList h0 hfit (by simpa using hx) h) hs
theorem rItemN {value slice : Expr} {l : Addr} {vs : List Value} {k : Int} {x : Value} (D : St z h₀ L m news s) (hm : (l, isLst vs) ∈ news) (h0 : k < 0) (h1 : -(vs.length : Int) ≤ k) (hfit : -(2 ^ 63) ≤ k) (hx : vs[(k + vs.length).toNat]? = some x) (h : Q x s)
    (hs : subscripted slice false (.ref l) (.int k u) = operate [.ref l, .int k u] (getItem (.ref l) (.int k u))) : wpAny (model prog w) A (subscriptTail value slice (.ref l) (.int k u)) Q E s :=
  tail_any (D.lst hm).isList.typeIs slot_list_getitem.lookup (wpAny_getItem_list_neg (D.lst hm).isList h0 (by simpa using h1) hfit (by simpa using hx) h) hs
theorem rTplItem {value slice : Expr} {l : Addr} {vs : List Value} {k : Int} {x : Value} (D : St z h₀ L m news s) (hm : (l, isTpl vs) ∈ news) (h0 : 0 ≤ k) (hfit : k < 2 ^ 63) (hx : vs[k.toNat]? = some x) (h : Q x s)
    (hs : subscripted slice false (.ref l) (.int k u) = operate [.ref l, .int k u] (getItem (.ref l) (.int k u))) : wpAny (model prog w) A (subscriptTail value slice (.ref l) (.int k u)) Q E s := by
  have hlt : k.toNat < vs.length := (List.getElem?_eq_some_iff.mp hx).1
  exact tail_any (D.tpl hm).typeIs slot_tuple_getitem.lookup (getItem_tuple (D.tpl hm) (by lia) hfit (j := k.toNat) (by rw [List.size_toArray]; exact seqIndex_of h0 (by lia)) (by simpa using hx) h) hs
/- the last item of a list stored anew -/
theorem rSetLast {l : Addr} {vs : List Value} {x y : Value} {Q : Unit → Shared → Prop} (D : St z h₀ L m news s) (U : Rep l (isLst (vs ++ [x])) (isLst (vs ++ [y])) news news') (h : ∀ s', St z h₀ L m news' s' → Q () s') : wpAny (model prog w) A (setItem (.ref l) (.int (-1) t) y) Q E s := by
  obtain ⟨n, ho⟩ := D.lst U.mem
  have hl : s.heap.IsList l (vs ++ [x]).toArray := ⟨_, ho, rfl, n, rfl⟩
  unfold setItem
  try with_reducible refine wpAny_holding ?_
  first | refine wpAny_bind (wpAny_pure ?_) | skip
  refine wpAny_bind (wpAny_sequenceKey hl.typeIs (by decide) ?_)
  refine wpAny_bind (wpAny_callSpecial?_slot (name := Str.ofString "__setitem__") hl.typeIs PySem.slot_list_setitem
    (wpAny_call_entry PySem.slot_list_setitem hl.typeIs PySem.entry_list_setitem ?_ (PySem.args_list_setitem _ _ _)))
  show wpAny _ _ (Builtin.List.listSubscript? (.int (-1) t) >>= _) _ _ s
  refine wpAny_bind (wpAny_listSubscript_int (fitsIndex_neg (by decide) (by decide)) ?_)
  show wpAny _ _ ((Builtin.List.listItems (.ref l) >>= fun xs => pure ((seqIndex? (-1) xs.size).bind fun i => xs[i]?.map (i, ·))) >>= _) _ _ s
  refine wpAny_bind (wpAny_bind ?_)
  show wpAny _ _ (seqItems? (.ref l) >>= _) _ _ s
  refine wpAny_bind (wpAny_seqItems ho rfl (wpAny_pure (wpAny_pure ?_)))
  have hidx : seqIndex? (-1) (vs ++ [x]).toArray.size = some vs.length := by
    unfold seqIndex?; simp; lia
  rw [hidx]
  have hx' : (vs ++ [x]).toArray[vs.length]? = some x := by simp
  simp only [Option.bind_some, hx', Option.map_some]
  refine wpAny_bind (wpAny_setSeqItemAt ho rfl ?_)
  have hfin : (s.heap.update l (Obj.mapSeq (·.setIfInBounds vs.length y))).get? l = some { cls := .type "list", data := .seq (vs ++ [y]).toArray n } := by
    have e : Obj.mapSeq (·.setIfInBounds vs.length y) { cls := .type "list", data := .seq (vs ++ [x]).toArray n } = { cls := .type "list", data := .seq (vs ++ [y]).toArray n } := by
      simp [Obj.mapSeq]
    rw [Heap.get?_update_self _ ho (by rw [e]; rfl), e]
  have fin := h _ (D.turn s.toks U (fun b o hb e => ((Heap.SameBut.update .. : Heap.SameBut l s.heap _).2 b hb).trans e) ⟨_, hfin, n, rfl⟩)
  first
    | exact wpAny_bind (wpAny_pure (wpAny_pure ⟨.none, rfl, wpAny_pure fin⟩))
    | exact wpAny_pure ⟨.none, rfl, wpAny_pure fin⟩
end
end Mine
end

section
open PySem PySem.W PySem.W.X PyProof.Rows PySem.Calls
set_option maxRecDepth 100000
namespace Mine
noncomputable def isSlc (a b c : Value) : Obj → Prop := fun o => o = { cls := .type "slice", data := .fields #[a, b, c] }
section
variable {w : World} {z : Shared} {prog : Program} {A : Around} {E : Value → Shared → Prop} {h₀ : Heap} {s : Shared} {L : Addr} {m : Str → Option Value} {news news' : List Ent} {env : Env} {names : List (Str × NameKind)} {Q : Value → Shared → Prop} {a b : Int} {t u : Tok}
theorem xSlice {lower upper step : Option Expr} {p : Pos} (h : wpAny (model prog w) A (evalPart lower env) (fun l s₁ => wpAny (model prog w) A (evalPart upper env) (fun u s₂ => wpAny (model prog w) A (evalPart step env) (fun st s₃ =>
      wpAny (model prog w) A (newFields "slice" [l, u, st]) Q E s₃) E s₂) E s₁) E s) : wpAny (model prog w) A (eval (.Slice lower upper step p) env) Q E s := by
  rw [arm_eval_Slice]
  refine wpAny_bind (wpAny_mono h (fun l s₁ h₁ => wpAny_bind (wpAny_holding (wpAny_mono h₁ (fun u s₂ h₂ => wpAny_bind (wpAny_holding (wpAny_mono h₂ (fun st s₃ h₃ => h₃) fun _ _ x => x))) fun _ _ x => x))) fun _ _ x => x)
theorem rPartN (h : Q .none s) : wpAny (model prog w) A (evalPart none env) Q E s := wpAny_pure h
theorem rPartS {e : Expr} (h : wpAny (model prog w) A (eval e env) Q E s) : wpAny (model prog w) A (evalPart (some e) env) Q E s := h
theorem rSlcNew {x y q : Value} (D : St z h₀ L m news s) (h : ∀ a s', St z h₀ L m ((a, isSlc x y q) :: news) s' → Q (.ref a) s') : wpAny (model prog w) A (newFields "slice" [x, y, q]) Q E s :=
  wpAny_newObj_type (h _ _ (D.on (s := s) s.toks (D.led.push rfl rfl)))
theorem rGetSlice {value slice : Expr} {l sl : Addr} {vs : List Value} {vl vu vk : Value} {lo hi st : Option Int} (D : St z h₀ L m news s) (hl : s.heap.IsList l vs.toArray) (hm : (sl, isSlc vl vu vk) ∈ news) (pl : IsPart vl lo) (pu : IsPart vu hi) (pk : IsPart vk st) (h0 : st ≠ some 0)
    (hsz : vs.length ≤ sizeLine) (h : ∀ a s', St z h₀ L m ((a, isLst (slicePick vs.toArray lo hi st).toList) :: news) s' → Q (.ref a) s')
    (hs : subscripted slice false (.ref l) (.ref sl) = operate [.ref sl, .ref l] (getItem (.ref l) (.ref sl))) : wpAny (model prog w) A (subscriptTail value slice (.ref l) (.ref sl)) Q E s := by
  refine Mine.e1_2 (D.get hm) ?_
  intro o e q
  refine tail_any hl.typeIs slot_list_getitem.lookup (wpAny_getItem_list_slice hl (show s.heap.IsSliceOf sl vl vu vk from ⟨o, e, by rw [q], by rw [q]⟩) pl pu pk h0 (h _ _ (D.on (s := s) s.toks (D.led.push rfl ⟨0, by simp⟩))) (by simpa using hsz)) hs
theorem splN {pos : Pos} {Q : List Value → Shared → Prop} (h : Q [] s) : wpAny (model prog w) A (spliced (backTo pos (starEach [] env))) Q E s := PySem.Calls.spliced_nil h
theorem splC {e : Expr} {rest : List Expr} {pos : Pos} {Q : List Value → Shared → Prop} (h : wpAny (model prog w) A (eval e env) (fun v s₁ => wpAny (model prog w) A (spliced (backTo pos (starEach rest env))) (fun vs s₂ => Q (v :: vs) s₂) E s₁) E s)
    (he : starEach (e :: rest) env = (false, eval e env) :: starEach rest env) : wpAny (model prog w) A (spliced (backTo pos (starEach (e :: rest) env))) Q E s := by
  rw [he]
  exact PySem.Calls.spliced_cons h
/- two stores by a tuple display, the second first -/
noncomputable def Sw2 (prog : Program) (w : World) (A : Around) (E : Value → Shared → Prop) (env : Env) (x y : Str) (v₁ v₂ : Value) (K : Shared → Prop) (s : Shared) : Prop :=
  wpAny (model prog w) A (newTuple [v₁, v₂]) (fun T s₁ => wpAny (model prog w) A (unpackItems T 2 none) (fun items s₂ => wpAny (model prog w) A (assignInOrder [bindName env y, bindName env x] items.reverse) (fun _ s₃ => K s₃) E s₂) E s₁) E s
noncomputable def Sw3 (prog : Program) (w : World) (A : Around) (E : Value → Shared → Prop) (env : Env) (x y q : Str) (v₁ v₂ v₃ : Value) (K : Shared → Prop) (s : Shared) : Prop :=
  wpAny (model prog w) A (newTuple [v₁, v₂, v₃]) (fun T s₁ => wpAny (model prog w) A (unpackItems T 3 none) (fun items s₂ => wpAny (model prog w) A (assignInOrder [bindName env q, bindName env y, bindName env x] items.reverse) (fun _ s₃ => K s₃) E s₂) E s₁) E s
theorem rSw2 {x y : Str} {v₁ v₂ : Value} {K : Shared → Prop} (D : St z h₀ L m news s) (hh : A.handled = none) (hE : EnvIs env L names) (h1 : names.lookup x = some .local) (h2 : names.lookup y = some .local)
    (h : ∀ s', St z h₀ L (upd (upd m y v₂) x v₁) news s' → K s') : Sw2 prog w A E env x y v₁ v₂ K s := by
  refine rNewTuple D (Nat.le_of_ble_eq_true rfl) fun a s₁ D₁ => rUnpack D₁ hh (.head _) rfl fun s₂ D₂ => ?_
  show wpAny _ _ (assignInOrder [bindName env y, bindName env x] [v₂, v₁]) _ _ _
  exact aioCons (rBind (rSto D₂ hE h2 fun s₃ D₃ => aioCons (rBind (rSto D₃ hE h1 fun s₄ D₄ => aioNil (h _ (D₄.sub (List.sublist_cons_self _ _)))))))
theorem rSw3 {x y q : Str} {v₁ v₂ v₃ : Value} {K : Shared → Prop} (D : St z h₀ L m news s) (hh : A.handled = none) (hE : EnvIs env L names) (h1 : names.lookup x = some .local) (h2 : names.lookup y = some .local) (h3 : names.lookup q = some .local)
    (h : ∀ s', St z h₀ L (upd (upd (upd m q v₃) y v₂) x v₁) news s' → K s') : Sw3 prog w A E env x y q v₁ v₂ v₃ K s := by
  refine rNewTuple D (Nat.le_of_ble_eq_true rfl) fun a s₁ D₁ => rUnpack D₁ hh (.head _) rfl fun s₂ D₂ => ?_
  show wpAny _ _ (assignInOrder [bindName env q, bindName env y, bindName env x] [v₃, v₂, v₁]) _ _ _
  exact aioCons (rBind (rSto D₂ hE h3 fun s₃ D₃ => aioCons (rBind (rSto D₃ hE h2 fun s₄ D₄ => aioCons (rBind (rSto D₄ hE h1 fun s₅ D₅ => aioNil (h _ (D₅.sub (List.sublist_cons_self _ _)))))))))
theorem xSwap2 {x y : Str} {px py tp vp p : Pos} {k k2 : Nat} {e₁ e₂ : Expr} {rest : List Stmt} {Q : Flow → Shared → Prop} (hE : EnvIs env L names)
    (h : wpAny (model prog w) A (eval e₁ env) (fun v₁ s₁ => wpAny (model prog w) A (eval e₂ env) (fun v₂ s₂ => Sw2 prog w A E env x y v₁ v₂ (fun s₃ => wpAny (model prog w) A (execs rest env) Q E s₃) s₂) E s₁) E s)
    (h1 : starEach [e₁, e₂] env = [(false, eval e₁ env), (false, eval e₂ env)])
    (hs : swapsWithSole [.Tuple [.Name x px, .Name y py] k tp] (.Tuple [e₁, e₂] k2 vp) p.line env = pure false) (hw : swappedStores [.Tuple [.Name x px, .Name y py] k tp] (.Tuple [e₁, e₂] k2 vp) (envT names) = pure (some [x, y])) :
    wpAny (model prog w) A (execs (.Assign [.Tuple [.Name x px, .Name y py] k tp] (.Tuple [e₁, e₂] k2 vp) p :: rest) env) Q E s := by
  refine xSwap hE (PyProof.Rows.Tuple_ ?_) hs hw
  rw [h1]
  exact PySem.Calls.spliced_cons (wpAny_mono h (fun v₁ s₁ q₁ => PySem.Calls.spliced_cons (wpAny_mono q₁ (fun v₂ s₂ q₂ => PySem.Calls.spliced_nil q₂) fun _ _ e => e)) fun _ _ e => e)
theorem xSwap3 {x y q : Str} {px py pq tp vp p : Pos} {k k2 : Nat} {e₁ e₂ e₃ : Expr} {rest : List Stmt} {Q : Flow → Shared → Prop} (hE : EnvIs env L names)
    (h : wpAny (model prog w) A (eval e₁ env) (fun v₁ s₁ => wpAny (model prog w) A (eval e₂ env) (fun v₂ s₂ => wpAny (model prog w) A (eval e₃ env) (fun v₃ s₃ => Sw3 prog w A E env x y q v₁ v₂ v₃ (fun s₃ => wpAny (model prog w) A (execs rest env) Q E s₃) s₃) E s₂) E s₁) E s)
    (h1 : starEach [e₁, e₂, e₃] env = [(false, eval e₁ env), (false, eval e₂ env), (false, eval e₃ env)])
    (hs : swapsWithSole [.Tuple [.Name x px, .Name y py, .Name q pq] k tp] (.Tuple [e₁, e₂, e₃] k2 vp) p.line env = pure false) (hw : swappedStores [.Tuple [.Name x px, .Name y py, .Name q pq] k tp] (.Tuple [e₁, e₂, e₃] k2 vp) (envT names) = pure (some [x, y, q])) :
    wpAny (model prog w) A (execs (.Assign [.Tuple [.Name x px, .Name y py, .Name q pq] k tp] (.Tuple [e₁, e₂, e₃] k2 vp) p :: rest) env) Q E s := by
  refine xSwap hE (PyProof.Rows.Tuple_ ?_) hs hw
  rw [h1]
  exact PySem.Calls.spliced_cons (wpAny_mono h (fun v₁ s₁ q₁ => PySem.Calls.spliced_cons (wpAny_mono q₁ (fun v₂ s₂ q₂ => PySem.Calls.spliced_cons (wpAny_mono q₂ (fun v₃ s₃ q₃ => PySem.Calls.spliced_nil q₃) fun _ _ e => e)) fun _ _ e => e)) fun _ _ e => e)
end
end Mine
end

section
open PySem PySem.W PySem.W.X PyProof.Rows PySem.Calls
set_option maxRecDepth 100000
namespace Mine
section
variable {w : World} {z : Shared} {prog : Program} {A : Around} {E : Value → Shared → Prop} {h₀ : Heap} {s : Shared} {L : Addr} {m : Str → Option Value} {news news' : List Ent} {env : Env} {names : List (Str × NameKind)} {Q : Value → Shared → Prop} {a b : Int} {t u : Tok}
/- a method's call: the receiver, the method, the call -/
theorem xMeth {o : Expr} {name : Str} {apos pos : Pos} {args : List Expr}
    (h : wpAny (model prog w) A (eval o env) (fun ov s₁ => wpAny (model prog w) A (getMethod ov name (do return (← importBound o env).getD true)) (fun fx s₂ => wpAny (model prog w) A (callWith pos fx.1 fx.2 (backTo pos (starEach args env)) []) Q E s₂) E s₁) E s)
    (hb : attributeBase o name env (eval o env) = eval o env) (hf : methodCallForm (args.length + ([] : List Keyword).length) (backTo pos (starEach args env)) (backToKw pos (keywordEach [] env)) = true) (hl : (apos.endLine == pos.line) = true) :
    wpAny (model prog w) A (eval (.Call (.Attribute o name apos) args [] pos) env) Q E s := by
  rw [arm_eval_Call, hb]
  refine wpAny_bind (wpAny_mono h (fun ov s₁ h₁ => wpAny_bind (wpAny_standAt ?_)) fun _ _ x => x)
  unfold methodCall calleeOf methodCallPos
  rw [hf, if_pos rfl]
  refine wpAny_bind (wpAny_holding (wpAny_mono h₁ (fun fx s₂ h₂ => ?_) fun _ _ x => x))
  have : (!true || apos.endLine == pos.line) = true := by rw [hl]; rfl
  rw [if_pos this]
  exact wpAny_bind (wpAny_pure h₂)
theorem cwB0 {pos : Pos} {id : String} {x : Value} (h : wpAny (model prog w) A (call (.builtin id) [x]) Q E s) : wpAny (model prog w) A (callWith pos (.builtin id) [x] (backTo pos (starEach [] env)) []) Q E s :=
  callWith_method0 h
theorem cwB1 {pos : Pos} {id : String} {x : Value} {e : Expr} (h : wpAny (model prog w) A (eval e env) (fun v s₁ => wpAny (model prog w) A (call (.builtin id) [x, v]) Q E s₁) E s) (he : starEach [e] env = (false, eval e env) :: starEach [] env) :
    wpAny (model prog w) A (callWith pos (.builtin id) [x] (backTo pos (starEach [e] env)) []) Q E s :=
  callWith_method1 (splC (wpAny_mono h (fun v s₁ q => splN q) fun _ _ e => e) he) he rfl
theorem cwB2 {pos : Pos} {id : String} {x : Value} {e f : Expr} (h : wpAny (model prog w) A (eval e env) (fun v s₁ => wpAny (model prog w) A (eval f env) (fun v₂ s₂ => wpAny (model prog w) A (call (.builtin id) [x, v, v₂]) Q E s₂) E s₁) E s)
    (he : starEach [e, f] env = (false, eval e env) :: starEach [f] env) (he2 : starEach [f] env = (false, eval f env) :: starEach [] env) :
    wpAny (model prog w) A (callWith pos (.builtin id) [x] (backTo pos (starEach [e, f] env)) []) Q E s :=
  callWith_method1 (splC (wpAny_mono h (fun v s₁ q => splC (wpAny_mono q (fun v₂ s₂ q₂ => splN q₂) fun _ _ e => e) he2) fun _ _ e => e) he) he (by rw [he2]; rfl)
/- a built-in function's call -/
theorem cfB1 {pos : Pos} {id : String} {e : Expr} (h : wpAny (model prog w) A (eval e env) (fun v s₁ => wpAny (model prog w) A (call (.builtin id) [v]) Q E s₁) E s) (he : starEach [e] env = (false, eval e env) :: starEach [] env) :
    wpAny (model prog w) A (callWith pos (.builtin id) [] (backTo pos (starEach [e] env)) []) Q E s :=
  callWith_method1 (splC (wpAny_mono h (fun v s₁ q => splN q) fun _ _ e => e) he) he rfl
theorem cfB2 {pos : Pos} {id : String} {e f : Expr} (h : wpAny (model prog w) A (eval e env) (fun v s₁ => wpAny (model prog w) A (eval f env) (fun v₂ s₂ => wpAny (model prog w) A (call (.builtin id) [v, v₂]) Q E s₂) E s₁) E s)
    (he : starEach [e, f] env = (false, eval e env) :: starEach [f] env) (he2 : starEach [f] env = (false, eval f env) :: starEach [] env) :
    wpAny (model prog w) A (callWith pos (.builtin id) [] (backTo pos (starEach [e, f] env)) []) Q E s :=
  callWith_method1 (splC (wpAny_mono h (fun v s₁ q => splC (wpAny_mono q (fun v₂ s₂ q₂ => splN q₂) fun _ _ e => e) he2) fun _ _ e => e) he) he (by rw [he2]; rfl)
/- a call by a name -/
theorem xCall {f : Expr} {args : List Expr} {pos : Pos} (h : wpAny (model prog w) A (eval f env) (fun fv s₁ => wpAny (model prog w) A (callWith pos fv [] (backTo pos (starEach args env)) []) Q E s₁) E s)
    (he : eval (.Call f args [] pos) env = (do callWith pos (← eval f env) [] (backTo pos (starEach args env)) [])) : wpAny (model prog w) A (eval (.Call f args [] pos) env) Q E s := by
  rw [he]
  exact wpAny_bind h
theorem ifT {c : Prop} [Decidable c] {P R : Prop} (h : c) (p : P) : if decide c = true then P else R := by rw [if_pos (decide_eq_true h)]; exact p
theorem ifF {c : Prop} [Decidable c] {P R : Prop} (h : ¬ c) (p : R) : if decide c = true then P else R := by rw [if_neg (by simpa using h)]; exact p
theorem andThen_next {rest : List Stmt} {Q : Flow → Shared → Prop} (h : wpAny (model prog w) A (execs rest env) Q E s) : AndThen prog w A env rest Q E .next s := h
theorem andThen_ret {rest : List Stmt} {Q : Flow → Shared → Prop} {v : Value} (h : Q (.ret v) s) : AndThen prog w A env rest Q E (.ret v) s := h
theorem turn_next {K : Flow → Shared → Prop} {J : Shared → Prop} (h : J s) : TurnQ K J .next s := h
theorem turn_ret {K : Flow → Shared → Prop} {J : Shared → Prop} {v : Value} (h : K (.ret v) s) : TurnQ K J (.ret v) s := h
theorem turn_brk {K : Flow → Shared → Prop} {J : Shared → Prop} (h : K .next s) : TurnQ K J .brk s := h
theorem turn_cont {K : Flow → Shared → Prop} {J : Shared → Prop} (h : J s) : TurnQ K J .cont s := h
theorem andThen_brk {rest : List Stmt} {Q : Flow → Shared → Prop} (h : Q .brk s) : AndThen prog w A env rest Q E .brk s := h
theorem andThen_cont {rest : List Stmt} {Q : Flow → Shared → Prop} (h : Q .cont s) : AndThen prog w A env rest Q E .cont s := h
end
end Mine
end

section
open PySem PySem.W PySem.W.X PyProof.Rows PySem.Calls
set_option maxRecDepth 100000
namespace Mine
open PySem.Sre (M)
open PySem.Builtin.Re

/- ## the machine of _sre, step by step -/
noncomputable def itr : Nat → M → M
  | 0, m => m
  | n + 1, m => itr n m.step
theorem step_out {m : M} (h : m.outcome.isSome = true) : m.step = m := by unfold M.step; rw [if_pos h]
theorem itr_out {m : M} (h : m.outcome.isSome = true) : ∀ n, itr n m = m
  | 0 => rfl
  | n + 1 => by rw [itr, step_out h]; exact itr_out h n
theorem runFor_itr : ∀ (n : Nat) (m : M), M.runFor n m = itr n m
  | 0, _ => rfl
  | n + 1, m => by
    rw [M.runFor, itr]
    by_cases h : m.outcome.isSome = true
    · rw [if_pos h, step_out h, itr_out h]
    · rw [if_neg h]; exact runFor_itr n _
theorem itr_add : ∀ (a b : Nat) (m : M), itr (a + b) m = itr b (itr a m)
  | 0, b, m => by rw [Nat.zero_add]; rfl
  | a + 1, b, m => by rw [Nat.add_right_comm, itr, itr]; exact itr_add a b _

section
variable {w : World} {prog : Program} {A : Around} {E : Value → Shared → Prop} {s : Shared}

theorem rDrive {Q : M → Shared → Prop} : ∀ (turns k : Nat) (m : M), k ≤ 4 * turns → 0 < turns → (itr k m).outcome.isSome = true → Q (itr k m) s → wpAny (model prog w) A (reDrive turns m) Q E s
  | 0, _, _, _, h0, _, _ => absurd h0 (Nat.lt_irrefl _)
  | t + 1, k, m, hk, _, ho, hQ => by
    unfold reDrive
    show wpAny _ _ (if (M.runFor 4 m).outcome.isSome = true then pure (M.runFor 4 m) else do rule "sre.turn"; reDrive t (M.runFor 4 m)) Q E s
    rw [runFor_itr]
    by_cases h4 : (itr 4 m).outcome.isSome = true
    · rw [if_pos h4]
      refine wpAny_pure ?_
      have : itr k m = itr 4 m := by
        rcases Nat.le_total k 4 with h | h
        · have e := itr_add k (4 - k) m
          rw [itr_out ho, Nat.add_sub_cancel' h] at e
          exact e.symm
        · have e := itr_add 4 (k - 4) m
          rw [itr_out h4, Nat.add_sub_cancel' h] at e
          exact e
      rw [← this]; exact hQ
    · rw [if_neg h4]
      refine wpAny_bind (wpAny_rule ?_)
      have h : 4 < k := by
        rcases Nat.lt_or_ge 4 k with h | h
        · exact h
        · exact absurd (by
            have e := itr_add k (4 - k) m
            rw [itr_out ho, Nat.add_sub_cancel' h] at e
            rw [e]; exact ho) h4
      have e := itr_add 4 (k - 4) m
      rw [Nat.add_sub_cancel' (Nat.le_of_lt h)] at e
      exact rDrive t (k - 4) _ (by lia) (by lia) (by rw [← e]; exact ho) (by rw [← e]; exact hQ)

theorem rToEnd {Q : Option M → Shared → Prop} {k : Nat} {m : M} (hk : k ≤ 4 * 2 ^ 64) {b : Bool} (ho : (itr k m).outcome = some (if b then .matched else .failed)) (hQ : Q (if b then some (itr k m) else none) s) : wpAny (model prog w) A (reRunToEnd m) Q E s := by
  unfold reRunToEnd
  refine wpAny_bind (rDrive (2 ^ 64) k m hk (Nat.two_pow_pos 64) (by rw [ho]; cases b <;> rfl) ?_)
  refine wpAny_bind (wpAny_forIn_list _ (fun _ _ s' => s' = s) _ ?_ ?_ _ _ rfl)
  · rintro x rest b' s' rfl
    skip
    split
    · exact wpAny_bind (wpAny_rule (wpAny_pure rfl))
    · exact wpAny_pure rfl
  · rintro _ _ rfl
    rw [ho]
    cases b
    · exact wpAny_pure hQ
    · exact wpAny_pure hQ
end

/- ## one start of a search -/
structure Pat where
  code : Array Nat
  tx : Array Nat
/- the machine at the start of a try at p -/
noncomputable def Pat.at_ (c : Pat) (p : Nat) (o : Bool) (mr : Array (Option Nat)) (sn : Sre.Seen) : M :=
  { code := c.code, text := c.tx, lim := c.tx.size, start := p, lastStart := c.tx.size, mustAdvance := false, pc := 5, pos := p, handed := p, outermost := o, marks := mr, lastmark := -1, lastindex := -1,
    frames := [{ wait := .nextStart, pc := 5, pos := p, outermost := o }], weight := 1, seen := sn }
/- what each try does, by the length of the match there -/
structure PatOk (c : Pat) (tk : Nat → Nat) : Prop where
  no : ∀ p o mr sn, mr.size = 2 → p < c.tx.size → tk p = 0 → ∃ k mr' sn', k ≤ 20 ∧ mr'.size = 2 ∧ itr k (c.at_ p o mr sn) = c.at_ (p + 1) false mr' sn'
  stop : ∀ o mr sn, ∃ k, k ≤ 20 ∧ (itr k (c.at_ c.tx.size o mr sn)).outcome = some .failed
  yes : ∀ p o mr sn, mr.size = 2 → p < c.tx.size → tk p ≠ 0 → ∃ k, k ≤ 20 ∧ (itr k (c.at_ p o mr sn)).outcome = some .matched ∧ (itr k (c.at_ p o mr sn)).start = p ∧ (itr k (c.at_ p o mr sn)).handed = p + tk p ∧
    (itr k (c.at_ p o mr sn)).lastmark = 1 ∧ (itr k (c.at_ p o mr sn)).marks.getD 0 none = some p ∧ (itr k (c.at_ p o mr sn)).marks.getD 1 none = some (p + tk p)
  fit : ∀ p, p < c.tx.size → p + tk p ≤ c.tx.size

/- the next place of a match -/
noncomputable def nextTk (tk : Nat → Nat) : (fuel p : Nat) → Option Nat
  | 0, _ => none
  | f + 1, p => if tk p = 0 then nextTk tk f (p + 1) else some p

structure Hit (m : M) (q n : Nat) : Prop where
  out : m.outcome = some .matched
  st : m.start = q
  ha : m.handed = q + n
  lm : m.lastmark = 1
  m0 : m.marks.getD 0 none = some q
  m1 : m.marks.getD 1 none = some (q + n)

theorem PatOk.go {c : Pat} {tk : Nat → Nat} (H : PatOk c tk) : ∀ (f p : Nat) (o : Bool) (mr : Array (Option Nat)) (sn : Sre.Seen), mr.size = 2 → p + f = c.tx.size →
    ∃ k, k ≤ 20 * (f + 1) ∧ match nextTk tk f p with
      | some q => Hit (itr k (c.at_ p o mr sn)) q (tk q)
      | none => (itr k (c.at_ p o mr sn)).outcome = some .failed
  | 0, p, o, mr, sn, hm, e => by
    refine Mine.e1_2 (H.stop o mr sn) ?_
    intro k hk h
    have : p = c.tx.size := by lia
    subst this
    exact ⟨k, by lia, h⟩
  | f + 1, p, o, mr, sn, hm, e => by
    rw [nextTk]
    by_cases ht : tk p = 0
    · have zh1 := H.no p o mr sn hm (by lia) ht
      refine Mine.e3_3 zh1 ?_
      try clear zh1
      intro k mr' sn' hk hm' he
      have zh2 := H.go f (p + 1) false mr' sn' hm' (by lia)
      refine Mine.e1_2 zh2 ?_
      try clear zh2
      intro k' hk' h
      refine ⟨k + k', by lia, ?_⟩
      rw [itr_add, he, if_pos ht]
      exact h
    · have zh3 := H.yes p o mr sn hm (by lia) ht
      refine Mine.E1 zh3 ?_
      try clear zh3
      intro k zk19
      refine Mine.e0_7 zk19 ?_
      clear zk19
      intro hk h1 h2 h3 h4 h5 h6
      rw [if_neg ht]
      exact ⟨k, by lia, h1, h2, h3, h4, h5, h6⟩
end Mine
end

section
open PySem PySem.W PySem.W.X PyProof.Rows PySem.Calls
set_option maxRecDepth 100000
namespace Mine
open PySem.Sre (M)
open PySem.Builtin.Re

/- how many signs from p on, at most n, are such -/
noncomputable def lead (f : Nat → Bool) (tx : Array Nat) : (n p : Nat) → Nat
  | 0, _ => 0
  | n + 1, p => if f (tx.getD p 0) then lead f tx n (p + 1) + 1 else 0
theorem lead_le (f : Nat → Bool) (tx : Array Nat) : ∀ n p, lead f tx n p ≤ n
  | 0, _ => Nat.le_refl _
  | n + 1, p => by rw [lead]; split; exact Nat.succ_le_succ (lead_le f tx n _); lia
theorem run_ok {code tx : Array Nat} {i : Nat} {f : Nat → Bool} (acc : ∀ c sn, ∃ s', Sre.accepts code i c sn = .ok (f c, s')) : ∀ n p found sn, ∃ s', Sre.run code tx i n p found sn = .ok (found + lead f tx n p, s')
  | 0, p, found, sn => ⟨sn, rfl⟩
  | n + 1, p, found, sn => by
    obtain ⟨s1, e1⟩ := acc (tx.getD p 0) sn
    obtain ⟨s2, e2⟩ := run_ok acc n (p + 1) (found + 1) s1
    rw [Sre.run, e1, lead]
    cases hf : f (tx.getD p 0)
    · exact ⟨s1, rfl⟩
    · refine ⟨s2, ?_⟩
      show Sre.run code tx i n (p + 1) (found + 1) s1 = _
      rw [e2, if_pos rfl]
      congr 2; lia

noncomputable def codeB : Array Nat := #[14, 4, 0, 1, 4294967295, 17, 0, 24, 11, 1, 4294967295, 13, 6, 16, 32, 16, 9, 0, 1, 17, 1, 1]
noncomputable def isBl (c : Nat) : Bool := c == 32 || c == 9
theorem acc_B (c : Nat) (sn : Sre.Seen) : ∃ s', Sre.accepts codeB 11 c sn = .ok (isBl c, s') := by
  show ∃ s', Sre.inSet codeB c 22 13 true sn = _
  unfold isBl
  show ∃ s', (if (c == 32) = true then Except.ok (true, sn.add 16) else Sre.inSet codeB c 21 15 true (sn.add 16)) = _
  cases h : (c == 32)
  · rw [if_neg (by simp)]
    show ∃ s', (if (c == 9) = true then Except.ok (true, (sn.add 16).add 16) else Sre.inSet codeB c 20 17 true ((sn.add 16).add 16)) = _
    cases h : (c == 9)
    · exact ⟨_, rfl⟩
    · exact ⟨_, rfl⟩
  · exact ⟨_, rfl⟩

noncomputable def tkB (tx : Array Nat) (p : Nat) : Nat := lead isBl tx (tx.size - p) p

theorem step_exec {m : M} (h1 : m.outcome = none) (h2 : m.answer = none) (h3 : m.pc < m.code.size) : m.step = m.exec := by
  unfold M.step
  rw [h1, h2, if_pos h3]
  rfl
theorem exec_rep {m : M} {n : Nat} {s' : Sre.Seen} (hop : Sre.ops[m.word 0]? = some .REPEAT_ONE) (h2 : m.word 2 = 1) (h3 : m.word 3 = 4294967295) (hroom : m.pos < m.lim) (hlim : m.lim < 4294967295)
    (hrun : Sre.run m.code m.text (m.pc + 4) (m.lim - m.pos) m.pos 0 ((m.seen.add (m.word 0)).add (m.word 4)) = .ok (n, s')) :
    m.exec = if n < 1 then { m with seen := s' }.say false else { m with seen := s', pos := m.pos + n }.afterRun .giveBack n ({ m with seen := s', pos := m.pos + n }.keep m.inner.isSome) := by
  have hr : ((m.lim : Int) - m.pos).toNat = m.lim - m.pos := by lia
  have hmin : min 4294967295 (m.lim - m.pos) = m.lim - m.pos := by lia
  have hng : ¬ (((1 : Nat) : Int) > (m.lim : Int) - m.pos) := by lia
  unfold M.exec
  rw [hop]
  show (if (((m.word 2 : Nat)) : Int) > (m.lim : Int) - m.pos then _ else
    (match Sre.run m.code m.text (m.pc + 4) (min (m.word 3) ((m.lim : Int) - m.pos).toNat) m.pos 0 ((m.seen.add (m.word 0)).add (m.word 4)) with
      | .error why => _
      | .ok (n, seen) => _)) = _
  rw [h2, if_neg hng, h3, hr, hmin, hrun]
  show (if n < m.word 2 then _ else _) = _
  rw [h2]
  rfl
theorem exec_rep_end {m : M} (hop : Sre.ops[m.word 0]? = some .REPEAT_ONE) (h2 : m.word 2 = 1) (hroom : m.lim ≤ m.pos) : m.exec = { m with seen := m.seen.add (m.word 0) }.say false := by
  unfold M.exec
  rw [hop]
  show (if (((m.word 2 : Nat)) : Int) > (m.lim : Int) - m.pos then _ else _) = _
  rw [h2, if_pos (by lia)]

/- the machine, all its changing parts told -/
noncomputable def mM (c : Pat) (p pc pos h : Nat) (o : Bool) (mr : Array (Option Nat)) (lm li : Int) (fr : List Sre.Frame) (wt : Nat) (ans : Option Bool) (sn : Sre.Seen) (out : Option Sre.Outcome) : M :=
  { code := c.code, text := c.tx, lim := c.tx.size, start := p, lastStart := c.tx.size, wholeText := false, mustAdvance := false, pc := pc, pos := pos, handed := h, outermost := o, marks := mr, lastmark := lm, lastindex := li,
    loops := #[], inner := none, frames := fr, weight := wt, answer := ans, seen := sn, outcome := out }
noncomputable def f0 (p : Nat) (o : Bool) : Sre.Frame := { wait := .nextStart, pc := 5, pos := p, outermost := o }
theorem at_eq (c : Pat) (p : Nat) (o : Bool) (mr : Array (Option Nat)) (sn : Sre.Seen) : c.at_ p o mr sn = mM c p 5 p p o mr (-1) (-1) [f0 p o] 1 none sn none := rfl

section
variable {c : Pat} {p pc pos h : Nat} {o o' : Bool} {mr : Array (Option Nat)} {lm li : Int} {wt : Nat} {sn : Sre.Seen}
theorem m_no (hp : p < c.tx.size) (hc : (c.code.getD 2 0 == 4) = false) : (mM c p pc pos h o mr lm li [f0 p o'] 1 (some false) sn none).step = c.at_ (p + 1) false mr sn := by
  show M.resume (mM c p 5 p h o' mr lm li [] 0 none sn none) (f0 p o') false = _
  unfold M.resume
  show (if p < c.tx.size then M.attemptFrom (mM c p 5 p h o' mr lm li [] 0 none sn none) (p + 1) false else _) = _
  rw [if_pos hp]
  unfold M.attemptFrom
  have : M.hasFirstSet (mM c p 5 p h o' mr lm li [] 0 none sn none) = false := by
    unfold M.hasFirstSet
    show (_ && (c.code.getD 2 0 == 4)) = false
    rw [hc, Bool.and_false]
  rw [this]
  rfl
theorem m_none : (mM c c.tx.size pc pos h o mr lm li [f0 c.tx.size o'] 1 (some false) sn none).step = mM c c.tx.size 5 c.tx.size h o' mr lm li [] 0 (some false) sn none := by
  show M.resume (mM c c.tx.size 5 c.tx.size h o' mr lm li [] 0 none sn none) (f0 c.tx.size o') false = _
  unfold M.resume
  show (if c.tx.size < c.tx.size then _ else _) = _
  rw [if_neg (Nat.lt_irrefl _)]
  rfl
theorem m_yes : (mM c p pc pos h o mr lm li [f0 p o'] 1 (some true) sn none).step = mM c p 5 p h o' mr lm li [] 0 (some true) sn none := rfl
theorem m_end {b : Bool} : (mM c p pc pos h o mr lm li [] wt (some b) sn none).step = mM c p pc pos h o mr lm li [] wt (some b) sn (some (if b then .matched else .failed)) := rfl
end
theorem two_marks {mr : Array (Option Nat)} (hm : mr.size = 2) (x y : Option Nat) : (mr.setIfInBounds 0 x).setIfInBounds 1 y = #[x, y] := by
  obtain ⟨l⟩ := mr
  match l, hm with
  | [a, b], _ => rfl

section
variable {tx : Array Nat} {p pos h : Nat} {o : Bool} {mr : Array (Option Nat)} {lm li : Int} {fr : List Sre.Frame} {wt : Nat} {sn : Sre.Seen}
theorem B_mark0 : (mM ⟨codeB, tx⟩ p 5 pos h o mr (-1) (-1) fr wt none sn none).step = mM ⟨codeB, tx⟩ p 7 pos h o (mr.setIfInBounds 0 (some pos)) 0 (-1) fr wt none (sn.add 17) none := rfl
theorem B_mark1 : (mM ⟨codeB, tx⟩ p 19 pos h o mr 0 (-1) fr wt none sn none).step = mM ⟨codeB, tx⟩ p 21 pos h o (mr.setIfInBounds 1 (some pos)) 1 1 fr wt none (sn.add 17) none := by kernel_rfl
theorem B_succ : (mM ⟨codeB, tx⟩ p 21 pos h o mr lm li fr wt none sn none).step = mM ⟨codeB, tx⟩ p 21 pos pos o mr lm li fr wt (some true) (sn.add 1) none := by cases o <;> rfl
theorem B_back {f : Sre.Frame} (hf : f.wait = .giveBack) (hk : f.kept.marks.size = 0) : (mM ⟨codeB, tx⟩ p 21 pos h o mr lm li (f :: fr) (wt + 1) (some true) sn none).step = mM ⟨codeB, tx⟩ p f.pc f.pos h f.outermost mr lm li fr wt (some true) sn none := by
  show M.resume { mM ⟨codeB, tx⟩ p f.pc f.pos h f.outermost mr lm li fr 0 none sn none with weight := wt + 1 - (1 + f.kept.marks.size) } f true = _
  unfold M.resume
  rw [hf, hk]
  rfl
theorem B_rep (hp : pos < tx.size) (hsz : tx.size < 4294967295) (hw : wt ≤ 1000) : ∃ s', (mM ⟨codeB, tx⟩ p 7 pos h o mr lm li fr wt none sn none).step =
    if tkB tx pos < 1 then mM ⟨codeB, tx⟩ p 7 pos h o mr lm li fr wt (some false) s' none
    else mM ⟨codeB, tx⟩ p 19 (pos + tkB tx pos) (pos + tkB tx pos) o mr lm li ({ wait := .giveBack, pc := 7, pos := pos + tkB tx pos, outermost := o, count := tkB tx pos, kept := { lastmark := lm, lastindex := li } } :: fr) (wt + 1) none s' none := by
  obtain ⟨s', e⟩ := run_ok (tx := tx) acc_B (tx.size - pos) pos 0 ((sn.add 24).add 13)
  refine ⟨s', ?_⟩
  have e2 := exec_rep (m := mM ⟨codeB, tx⟩ p 7 pos h o mr lm li fr wt none sn none) rfl rfl rfl hp hsz e
  rw [Nat.zero_add] at e2
  rw [step_exec rfl rfl (by show 7 < codeB.size; decide), e2]
  show (if tkB tx pos < 1 then _ else _) = _
  split
  · rfl
  · unfold M.afterRun M.attempt
    rw [if_neg (by show ¬ (wt + 1 + 0 > 16777216); lia)]
    rfl
theorem B_rep_end (hp : tx.size ≤ pos) : (mM ⟨codeB, tx⟩ p 7 pos h o mr lm li fr wt none sn none).step = mM ⟨codeB, tx⟩ p 7 pos h o mr lm li fr wt (some false) (sn.add 24) none := by
  rw [step_exec rfl rfl (by show 7 < codeB.size; decide), exec_rep_end rfl rfl hp]
  rfl
end

theorem B_ok (tx : Array Nat) (hsz : tx.size < 4294967295) : PatOk ⟨codeB, tx⟩ (tkB tx) where
  no := fun p o mr sn hm hp ht => by
    obtain ⟨s', e⟩ := B_rep (p := p) (h := p) (o := o) (mr := mr.setIfInBounds 0 (some p)) (lm := 0) (li := -1) (fr := [f0 p o]) (wt := 1) (sn := sn.add 17) hp hsz (by decide)
    rw [if_pos (show tkB tx p < 1 by lia)] at e
    refine Mine.I3 3 (mr.setIfInBounds 0 (some p)) s' (Mine.a3 (by decide) (by simpa using hm) ?_)
    rw [at_eq, itr, B_mark0, itr, e, itr, m_no hp rfl]
    rfl
  stop := fun o mr sn => by
    refine ⟨4, by decide, ?_⟩
    rw [at_eq, itr, B_mark0, itr, B_rep_end (Nat.le_refl _), itr, m_none (c := ⟨codeB, tx⟩), itr, m_end]
    rfl
  yes := fun p o mr sn hm hp ht => by
    obtain ⟨s', e⟩ := B_rep (p := p) (h := p) (o := o) (mr := mr.setIfInBounds 0 (some p)) (lm := 0) (li := -1) (fr := [f0 p o]) (wt := 1) (sn := sn.add 17) hp hsz (by decide)
    rw [if_neg (show ¬ tkB tx p < 1 by lia)] at e
    refine ⟨7, by decide, ?_⟩
    have e3 : itr 7 (Pat.at_ ⟨codeB, tx⟩ p o mr sn) = mM ⟨codeB, tx⟩ p 5 p (p + tkB tx p) o #[some p, some (p + tkB tx p)] 1 1 [] 0 (some true) ((s'.add 17).add 1) (some .matched) := by
      rw [at_eq, itr, B_mark0, itr, e, itr, B_mark1, itr, B_succ, itr, B_back rfl rfl, itr, m_yes, itr, m_end, two_marks hm]
      rfl
    rw [e3]
    exact Mine.i0_6 rfl rfl rfl rfl rfl rfl
  fit := fun p hp => by
    have := lead_le isBl tx (tx.size - p) p
    unfold tkB
    show p + _ ≤ tx.size
    have : p < tx.size := hp
    lia
end Mine
end

section
open PySem PySem.W PySem.W.X PyProof.Rows PySem.Calls
set_option maxRecDepth 100000
namespace Mine
open PySem.Sre (M)
open PySem.Builtin.Re

noncomputable def codeV : Array Nat := #[14, 4, 0, 1, 4294967295, 17, 0, 7, 14, 24, 10, 1, 4294967295, 13, 5, 22, 48, 57, 0, 1, 15, 17, 15, 13, 11, 9, 0, 26624, 2147483648, 0, 0, 0, 0, 0, 0, 15, 2, 0, 17, 1, 1]
noncomputable def isDg (c : Nat) : Bool := 48 ≤ c && c ≤ 57
noncomputable def isSep (c : Nat) : Bool := c == 43 || c == 45 || c == 46 || c == 95
theorem acc_D (c : Nat) (sn : Sre.Seen) : ∃ s', Sre.accepts codeV 13 c sn = .ok (isDg c, s') := by
  show ∃ s', Sre.inSet codeV c 41 15 true sn = _
  unfold isDg
  show ∃ s', (if (decide (48 ≤ c) && decide (c ≤ 57)) = true then Except.ok (true, sn.add 22) else Sre.inSet codeV c 40 18 true (sn.add 22)) = _
  cases h : (decide (48 ≤ c) && decide (c ≤ 57))
  · exact ⟨_, rfl⟩
  · exact ⟨_, rfl⟩
theorem sep_small : ∀ c, c < 256 → (codeV.getD (25 + (1 + c / 32)) 0).testBit (c % 32) = isSep c := by decide +kernel
theorem acc_S (c : Nat) (sn : Sre.Seen) : ∃ s', Sre.accepts codeV 23 c sn = .ok (isSep c, s') := by
  show ∃ s', Sre.inSet codeV c 41 25 true sn = _
  show ∃ s', (if (decide (c < 256) && (codeV.getD (25 + (1 + c / 32)) 0).testBit (c % 32)) = true then Except.ok (true, sn.add 9) else Sre.inSet codeV c 40 34 true (sn.add 9)) = _
  by_cases hc : c < 256
  · rw [sep_small c hc, decide_eq_true hc, Bool.true_and]
    cases h : isSep c
    · exact ⟨_, rfl⟩
    · exact ⟨_, rfl⟩
  · rw [decide_eq_false hc, Bool.false_and, if_neg (by decide)]
    have : isSep c = false := by unfold isSep; simp; lia
    rw [this]
    exact ⟨_, rfl⟩

noncomputable def dgs (tx : Array Nat) (p : Nat) : Nat := lead isDg tx (tx.size - p) p
noncomputable def tkV (tx : Array Nat) (p : Nat) : Nat := if dgs tx p = 0 then (if isSep (tx.getD p 0) then 1 else 0) else dgs tx p

noncomputable def fB (pc : Nat) (pos : Nat) (o : Bool) (lm li : Int) : Sre.Frame := { wait := .nextBranch, pc := pc, pos := pos, outermost := o, kept := { lastmark := lm, lastindex := li } }

section
variable {tx : Array Nat} {p pc pos h : Nat} {o o' : Bool} {mr : Array (Option Nat)} {lm li : Int} {fr : List Sre.Frame} {wt : Nat} {sn : Sre.Seen}
theorem V_mark0 : (mM ⟨codeV, tx⟩ p 5 pos h o mr (-1) (-1) fr wt none sn none).step = mM ⟨codeV, tx⟩ p 7 pos h o (mr.setIfInBounds 0 (some pos)) 0 (-1) fr wt none (sn.add 17) none := by kernel_rfl
theorem V_mark1 : (mM ⟨codeV, tx⟩ p 38 pos h o mr 0 (-1) fr wt none sn none).step = mM ⟨codeV, tx⟩ p 40 pos h o (mr.setIfInBounds 1 (some pos)) 1 1 fr wt none (sn.add 17) none := by kernel_rfl
theorem V_jump1 : (mM ⟨codeV, tx⟩ p 20 pos h o mr lm li fr wt none sn none).step = mM ⟨codeV, tx⟩ p 38 pos h o mr lm li fr wt none (sn.add 15) none := by kernel_rfl
theorem V_jump2 : (mM ⟨codeV, tx⟩ p 35 pos h o mr lm li fr wt none sn none).step = mM ⟨codeV, tx⟩ p 38 pos h o mr lm li fr wt none (sn.add 15) none := by kernel_rfl
theorem V_succ : (mM ⟨codeV, tx⟩ p 40 pos h o mr lm li fr wt none sn none).step = mM ⟨codeV, tx⟩ p 40 pos pos o mr lm li fr wt (some true) (sn.add 1) none := by cases o <;> kernel_rfl
theorem V_branch (hw : wt ≤ 1000) : (mM ⟨codeV, tx⟩ p 7 pos h o mr lm li fr wt none sn none).step = mM ⟨codeV, tx⟩ p 9 pos pos o mr lm li (fB 8 pos o lm li :: fr) (wt + 1) none (sn.add 7) none := by
  rw [step_exec rfl rfl (by show 7 < codeV.size; decide)]
  show M.attempt (mM ⟨codeV, tx⟩ p 7 pos h o mr lm li fr wt none (sn.add 7) none) (fB 8 pos o lm li) 9 pos o = _
  unfold M.attempt
  rw [if_neg (by show ¬ (wt + 1 + 0 > 16777216); lia)]
  rfl
theorem V_back {f : Sre.Frame} (hf : f.wait = .giveBack) (hk : f.kept.marks.size = 0) : (mM ⟨codeV, tx⟩ p pc pos h o mr lm li (f :: fr) (wt + 1) (some true) sn none).step = mM ⟨codeV, tx⟩ p f.pc f.pos h f.outermost mr lm li fr wt (some true) sn none := by
  show M.resume { mM ⟨codeV, tx⟩ p f.pc f.pos h f.outermost mr lm li fr 0 none sn none with weight := wt + 1 - (1 + f.kept.marks.size) } f true = _
  unfold M.resume
  rw [hf, hk]
  rfl
theorem V_brY' {k q : Nat} {lm' li' : Int} : (mM ⟨codeV, tx⟩ p pc pos h o mr lm li (fB k q o' lm' li' :: fr) (wt + 1) (some true) sn none).step = mM ⟨codeV, tx⟩ p k q h o' mr lm li fr wt (some true) sn none := rfl
theorem V_brN1 {q : Nat} {lm' li' : Int} (hw : wt ≤ 1000) : (mM ⟨codeV, tx⟩ p pc pos h o mr lm li (fB 8 q o' lm' li' :: fr) (wt + 1) (some false) sn none).step = mM ⟨codeV, tx⟩ p 23 q q o' mr lm' li' (fB 22 q o' lm' li' :: fr) (wt + 1) none sn none := by
  show M.attempt (mM ⟨codeV, tx⟩ p 8 q h o' mr lm' li' fr wt none sn none) (fB 22 q o' lm' li') 23 q o' = _
  unfold M.attempt
  rw [if_neg (by show ¬ (wt + 1 + 0 > 16777216); lia)]
  rfl
theorem V_brN2 {q : Nat} {lm' li' : Int} : (mM ⟨codeV, tx⟩ p pc pos h o mr lm li (fB 22 q o' lm' li' :: fr) (wt + 1) (some false) sn none).step = mM ⟨codeV, tx⟩ p 22 q h o' mr lm' li' fr wt (some false) sn none := by kernel_rfl
theorem V_rep (hp : pos < tx.size) (hsz : tx.size < 4294967295) (hw : wt ≤ 1000) : ∃ s', (mM ⟨codeV, tx⟩ p 9 pos h o mr lm li fr wt none sn none).step =
    if dgs tx pos < 1 then mM ⟨codeV, tx⟩ p 9 pos h o mr lm li fr wt (some false) s' none
    else mM ⟨codeV, tx⟩ p 20 (pos + dgs tx pos) (pos + dgs tx pos) o mr lm li ({ wait := .giveBack, pc := 9, pos := pos + dgs tx pos, outermost := o, count := dgs tx pos, kept := { lastmark := lm, lastindex := li } } :: fr) (wt + 1) none s' none := by
  obtain ⟨s', e⟩ := run_ok (tx := tx) acc_D (tx.size - pos) pos 0 ((sn.add 24).add 13)
  refine ⟨s', ?_⟩
  have e2 := exec_rep (m := mM ⟨codeV, tx⟩ p 9 pos h o mr lm li fr wt none sn none) rfl rfl rfl hp hsz e
  rw [Nat.zero_add] at e2
  rw [step_exec rfl rfl (by show 9 < codeV.size; decide), e2]
  show (if dgs tx pos < 1 then _ else _) = _
  split
  · rfl
  · unfold M.afterRun M.attempt
    rw [if_neg (by show ¬ (wt + 1 + 0 > 16777216); lia)]
    rfl
theorem V_rep_end (hp : tx.size ≤ pos) : (mM ⟨codeV, tx⟩ p 9 pos h o mr lm li fr wt none sn none).step = mM ⟨codeV, tx⟩ p 9 pos h o mr lm li fr wt (some false) (sn.add 24) none := by
  rw [step_exec rfl rfl (by show 9 < codeV.size; decide), exec_rep_end rfl rfl hp]
  rfl
theorem exec_in {m : M} {b : Bool} {s' : Sre.Seen} (hop : Sre.ops[m.word 0]? = some .IN) (hroom : m.pos < m.lim) (ha : Sre.accepts m.code m.pc (m.text.getD m.pos 0) (m.seen.add (m.word 0)) = .ok (b, s')) :
    m.exec = if b then { m with seen := s', pc := m.pc + Sre.itemWidth m.code m.pc, pos := m.pos + 1 } else { m with seen := s' }.say false := by
  unfold M.exec
  rw [hop]
  show (if m.pos ≥ m.lim then _ else (match Sre.accepts m.code m.pc (m.text.getD m.pos 0) (m.seen.add (m.word 0)) with
      | .error why => _
      | .ok (false, seen) => _
      | .ok (true, seen) => _)) = _
  rw [if_neg (Nat.not_le.mpr hroom), ha]
  cases b <;> rfl
theorem exec_in_end {m : M} (hop : Sre.ops[m.word 0]? = some .IN) (hroom : m.lim ≤ m.pos) : m.exec = { m with seen := m.seen.add (m.word 0) }.say false := by
  unfold M.exec
  rw [hop]
  show (if m.pos ≥ m.lim then _ else _) = _
  rw [if_pos hroom]
theorem V_in (hp : pos < tx.size) : ∃ s', (mM ⟨codeV, tx⟩ p 23 pos h o mr lm li fr wt none sn none).step =
    if isSep (tx.getD pos 0) then mM ⟨codeV, tx⟩ p 35 (pos + 1) h o mr lm li fr wt none s' none else mM ⟨codeV, tx⟩ p 23 pos h o mr lm li fr wt (some false) s' none := by
  obtain ⟨s', e⟩ := acc_S (tx.getD pos 0) (sn.add 13)
  refine ⟨s', ?_⟩
  have e2 := exec_in (m := mM ⟨codeV, tx⟩ p 23 pos h o mr lm li fr wt none sn none) rfl hp e
  rw [step_exec rfl rfl (by show 23 < codeV.size; decide), e2]
  rfl
theorem V_in_end (hp : tx.size ≤ pos) : (mM ⟨codeV, tx⟩ p 23 pos h o mr lm li fr wt none sn none).step = mM ⟨codeV, tx⟩ p 23 pos h o mr lm li fr wt (some false) (sn.add 13) none := by
  rw [step_exec rfl rfl (by show 23 < codeV.size; decide), exec_in_end rfl hp]
  rfl
end

theorem V_ok (tx : Array Nat) (hsz : tx.size < 4294967295) : PatOk ⟨codeV, tx⟩ (tkV tx) where
  no := fun p o mr sn hm hp ht => by
    have hd : dgs tx p = 0 := by unfold tkV at ht; split at ht <;> lia
    have hs : isSep (tx.getD p 0) = false := by unfold tkV at ht; rw [if_pos hd] at ht; cases h : isSep (tx.getD p 0); rfl; rw [h] at ht; cases ht
    obtain ⟨s1, e1⟩ := V_rep (p := p) (h := p) (o := o) (mr := mr.setIfInBounds 0 (some p)) (lm := 0) (li := -1) (fr := [fB 8 p o 0 (-1), f0 p o]) (wt := 2) (sn := (sn.add 17).add 7) hp hsz (by decide)
    rw [if_pos (show dgs tx p < 1 by lia)] at e1
    obtain ⟨s2, e2⟩ := V_in (p := p) (h := p) (o := o) (mr := mr.setIfInBounds 0 (some p)) (lm := 0) (li := -1) (fr := [fB 22 p o 0 (-1), f0 p o]) (wt := 2) (sn := s1) hp
    rw [hs, if_neg (by decide)] at e2
    refine Mine.I3 7 (mr.setIfInBounds 0 (some p)) s2 (Mine.a3 (by decide) (by simpa using hm) ?_)
    rw [at_eq, itr, V_mark0, itr, V_branch (by decide), itr, e1, itr, V_brN1 (by decide), itr, e2, itr, V_brN2, itr, m_no hp rfl]
    rfl
  stop := fun o mr sn => by
    refine ⟨8, by decide, ?_⟩
    rw [at_eq, itr, V_mark0, itr, V_branch (by decide), itr, V_rep_end (Nat.le_refl _), itr, V_brN1 (by decide), itr, V_in_end (Nat.le_refl _), itr, V_brN2, itr, m_none (c := ⟨codeV, tx⟩), itr, m_end]
    rfl
  yes := fun p o mr sn hm hp ht => by
    obtain ⟨s1, e1⟩ := V_rep (p := p) (h := p) (o := o) (mr := mr.setIfInBounds 0 (some p)) (lm := 0) (li := -1) (fr := [fB 8 p o 0 (-1), f0 p o]) (wt := 2) (sn := (sn.add 17).add 7) hp hsz (by decide)
    by_cases hd : dgs tx p = 0
    · have hs : isSep (tx.getD p 0) = true := by unfold tkV at ht; rw [if_pos hd] at ht; cases h : isSep (tx.getD p 0); rw [h] at ht; exact absurd rfl ht; rfl
      have ht1 : tkV tx p = 1 := by unfold tkV; rw [if_pos hd, hs]; rfl
      rw [if_pos (show dgs tx p < 1 by lia)] at e1
      obtain ⟨s2, e2⟩ := V_in (p := p) (h := p) (o := o) (mr := mr.setIfInBounds 0 (some p)) (lm := 0) (li := -1) (fr := [fB 22 p o 0 (-1), f0 p o]) (wt := 2) (sn := s1) hp
      rw [hs, if_pos rfl] at e2
      refine ⟨11, by decide, ?_⟩
      rw [ht1]
      have e3 : itr 11 (Pat.at_ ⟨codeV, tx⟩ p o mr sn) = mM ⟨codeV, tx⟩ p 5 p (p + 1) o #[some p, some (p + 1)] 1 1 [] 0 (some true) (((s2.add 15).add 17).add 1) (some .matched) := by
        rw [at_eq, itr, V_mark0, itr, V_branch (by decide), itr, e1, itr, V_brN1 (by decide), itr, e2, itr, V_jump2, itr, V_mark1, itr, V_succ, itr, V_brY', itr, m_yes, itr, m_end, two_marks hm]
        rfl
      rw [e3]
      exact Mine.i0_6 rfl rfl rfl rfl rfl rfl
    · have ht1 : tkV tx p = dgs tx p := by unfold tkV; rw [if_neg hd]
      rw [if_neg (show ¬ dgs tx p < 1 by lia)] at e1
      refine ⟨10, by decide, ?_⟩
      rw [ht1]
      have e3 : itr 10 (Pat.at_ ⟨codeV, tx⟩ p o mr sn) = mM ⟨codeV, tx⟩ p 5 p (p + dgs tx p) o #[some p, some (p + dgs tx p)] 1 1 [] 0 (some true) (((s1.add 15).add 17).add 1) (some .matched) := by
        rw [at_eq, itr, V_mark0, itr, V_branch (by decide), itr, e1, itr, V_jump1, itr, V_mark1, itr, V_succ, itr, V_back rfl rfl, itr, V_brY', itr, m_yes, itr, m_end, two_marks hm]
        rfl
      rw [e3]
      exact Mine.i0_6 rfl rfl rfl rfl rfl rfl
  fit := fun p hp => by
    have := lead_le isDg tx (tx.size - p) p
    have hp' : p < tx.size := hp
    show p + _ ≤ tx.size
    unfold tkV dgs
    split
    · split <;> lia
    · lia
end Mine
end

section
open PySem PySem.W PySem.W.X PyProof.Rows PySem.Calls
set_option maxRecDepth 100000
namespace Mine
open PySem.Sre (M)
open PySem.Builtin.Re

/- ## facts on re.Pattern.split -/
theorem slot_split : Slot "re.Pattern" "split" "re.Pattern.split" :=
  .of (owner := "re.Pattern") (n := "split") (by rw [typeLookup_type, builtinLookup_eq_fast]; kernel_rfl) (by decide +kernel) (by decide +kernel) (by decide +kernel)
    (by first | exact .inl (by decide +kernel) | exact .inr (by decide +kernel)) (by rw [isSubtype_type]; kernel_rfl)
theorem entry_split : entryFor table "re.Pattern.split" = some Builtin.«re.Pattern.split» := entryFor_of_tree (by kernel_rfl)
theorem args_split (a b : Value) : argsOk "re.Pattern.split" ⟨[a, b], []⟩ := by
  unfold argsOk; kernel_rfl

/- what a split gives -/
noncomputable def cut (tk : Nat → Nat) (tx : Array Nat) : (fuel last : Nat) → List Str
  | 0, last => [⟨tx.extract last tx.size⟩]
  | f + 1, last => match nextTk tk (tx.size - last) last with
    | none => [⟨tx.extract last tx.size⟩]
    | some q => ⟨tx.extract last q⟩ :: ⟨tx.extract q (q + tk q)⟩ :: cut tk tx f (q + tk q)

section
variable {w : World} {z : Shared} {prog : Program} {A : Around} {E : Value → Shared → Prop} {h₀ : Heap} {s : Shared} {L : Addr} {m : Str → Option Value} {news news' : List Ent} {Q : Value → Shared → Prop} {t : Tok}

theorem named_split (x : Value) : reNamed "re.Pattern.split" "split" ["string", "maxsplit"] 1 [x] [] = pure [some x, none] := by rfl
theorem rTarget {a b : Addr} {n : Nat} {d d2 : Option Addr} {sl sl2 : Array (Option Value)} {v0 v1 v3 v4 : Value} {cs : Array Value} {x : Str} {Q : ReTarget → Shared → Prop}
    (ho : s.heap.get? a = some ⟨.type "re.Pattern", d, .fields #[v0, v1, rawInt 1, v3, v4, .ref b, rawInt 0], sl⟩) (hb : s.heap.get? b = some ⟨.type "tuple", d2, .seq cs n, sl2⟩)
    (h : Q { pattern := .ref a, string := .str x t, code := (cs.map reRawOf).map (·.toNat), text := x.cps, kind := 0, groups := 1, pos := 0, lim := x.cps.size } s) : wpAny (model prog w) A (reWholeTarget (.ref a) (.str x t)) Q E s := by
  unfold reWholeTarget
  refine wpAny_bind (wpAny_fieldsOf ho rfl ?_)
  have e : reTextOf (.str x t) = pure (x.cps, 0) := by rfl
  rw [e]
  refine wpAny_bind (wpAny_pure ?_)
  show wpAny _ _ (reNoCollectionInside (.str x t) 0 >>= fun _ => (do let y ← reRawItems (.ref b); pure _)) Q E s
  have e2 : reNoCollectionInside (.str x t) 0 = pure () := by rfl
  rw [e2]
  refine wpAny_bind (wpAny_pure ?_)
  unfold reRawItems
  refine wpAny_bind (wpAny_bind (wpAny_seqItems hb rfl (wpAny_pure (wpAny_pure ?_))))
  exact h
theorem search_at {code tx : Array Nat} (hhd : Sre.header code = (1, 5)) (h4 : (code.getD 2 0 == 4) = false) {p : Nat} (hp : p < tx.size) :
    ∃ sn, Sre.forSearch code tx 1 p tx.size false = Pat.at_ ⟨code, tx⟩ p true (Array.replicate 2 none) sn := by
  refine ⟨({} : Sre.Seen).add 14, ?_⟩
  unfold Sre.forSearch
  rw [hhd]
  show (if (decide (p > tx.size) || decide (tx.size - p < 1)) = true then _ else _) = _
  rw [if_neg (by simp; lia)]
  show M.attemptFrom { code := code, text := tx, lim := tx.size, start := p, lastStart := tx.size, pc := (Sre.header code).2, pos := p, handed := p, marks := Array.replicate (2 * 1) none, mustAdvance := false, seen := if (Sre.header code).2 == 0 then {} else ({} : Sre.Seen).add 14 } p true = _
  rw [hhd]
  unfold M.attemptFrom
  have : M.hasFirstSet { code := code, text := tx, lim := tx.size, start := p, lastStart := tx.size, pc := ((1, 5) : Nat × Nat).2, pos := p, handed := p, marks := Array.replicate (2 * 1) none, mustAdvance := false, seen := if ((1, 5) : Nat × Nat).2 == 0 then {} else ({} : Sre.Seen).add 14 } = false := by
    unfold M.hasFirstSet
    show (_ && (code.getD 2 0 == 4)) = false
    rw [h4, Bool.and_false]
  rw [this]
  rfl
theorem search_past {code tx : Array Nat} (hhd : Sre.header code = (1, 5)) : (itr 1 (Sre.forSearch code tx 1 tx.size tx.size false)).outcome = some .failed := by
  unfold Sre.forSearch
  rw [hhd]
  show M.outcome (itr 1 (if (decide (tx.size > tx.size) || decide (tx.size - tx.size < 1)) = true then _ else _)) = _
  rw [if_pos (by simp)]
  rfl
theorem rFound {code tx : Array Nat} {tk : Nat → Nat} (P : PatOk ⟨code, tx⟩ tk) (hhd : Sre.header code = (1, 5)) (h4 : (code.getD 2 0 == 4) = false) (hsz : tx.size ≤ 1000) {p : Nat} (hp : p ≤ tx.size) {Q : Option M → Shared → Prop}
    (h : match nextTk tk (tx.size - p) p with | some q => ∀ m, Hit m q (tk q) → Q (some m) s | none => Q none s) : wpAny (model prog w) A (reRunToEnd (Sre.forSearch code tx 1 p tx.size false)) Q E s := by
  rcases Nat.lt_or_ge p tx.size with hlt | hge
  · obtain ⟨sn, e⟩ := search_at hhd h4 hlt
    rw [e]
    obtain ⟨k, hk, hm⟩ := P.go (tx.size - p) p true (Array.replicate 2 none) sn rfl (by show p + (tx.size - p) = tx.size; lia)
    have hk' : k ≤ 4 * 2 ^ 64 := Nat.le_trans hk (Nat.le_trans (Nat.mul_le_mul_left 20 (Nat.succ_le_succ (Nat.le_trans (Nat.sub_le _ _) hsz))) (by decide))
    cases hn : nextTk tk (tx.size - p) p with
    | some q => rw [hn] at hm h; exact rToEnd (b := true) hk' hm.out (h _ hm)
    | none => rw [hn] at hm h; exact rToEnd (b := false) hk' hm h
  · have : p = tx.size := by lia
    subst this
    rw [Nat.sub_self] at h
    exact rToEnd (b := false) (k := 1) (by decide) (search_past hhd) h
theorem nextTk_ge {tk : Nat → Nat} : ∀ {f p q}, nextTk tk f p = some q → p ≤ q ∧ q < p + f ∧ tk q ≠ 0
  | 0, p, q, h => by cases h
  | f + 1, p, q, h => by
    rw [nextTk] at h
    split at h
    · have := nextTk_ge h; lia
    · cases h; rename_i h'; exact ⟨Nat.le_refl _, by lia, h'⟩
theorem rSlice {tx : Array Nat} {b e : Nat} (D : St z h₀ L m news s) (hsz : tx.size ≤ 1000) (h : ∀ t' s', St z h₀ L m news s' → Q (.str ⟨tx.extract b e⟩ t') s') : wpAny (model prog w) A (reSlice tx 0 b e) Q E s := by
  show wpAny _ _ (mkStr ⟨tx.extract b e⟩) Q E s
  refine wpAny_mkStr (h _ _ (D.tok _)) ?_
  show (tx.extract b e).size ≤ sizeLine
  rw [Array.size_extract, sizeLine_eq]; lia
theorem strs_snoc {vs : List Value} {ys : List Str} (h : StrsAre vs ys) (y : Str) (t' : Tok) : StrsAre (vs ++ [.str y t']) (ys ++ [y]) := h.append' (.cons _ _ .nil)

theorem cutlt {n s q k r : Nat} (h : n - s < r + 1) (h1 : s ≤ q) (h2 : q < s + (n - s)) (h3 : k ≠ 0) : n - (q + k) < r := by lia
@[reducible] noncomputable def SpI (z : Shared) (h₀ : Heap) (L : Addr) (m : Str → Option Value) (news : List Ent) (x : Str) (tk : Nat → Nat) (rest : List Nat) (b : Array Value × Nat × Nat × Bool × Int × Bool) (s' : Shared) : Prop :=
  St z h₀ L m news s' ∧ ∃ ys, StrsAre b.1.toList ys ∧ b.1.size ≤ 2 * b.2.2.1 ∧ b.2.2.1 ≤ x.cps.size ∧ b.2.1 = b.2.2.1 ∧ b.2.2.2.1 = false ∧ (b.2.2.2.2.2 = true → ys ++ [⟨x.cps.extract b.2.2.1 x.cps.size⟩] = cut tk x.cps (2 * x.cps.size + 3) 0) ∧ (b.2.2.2.2.2 = false → x.cps.size - b.2.2.1 < rest.length ∧ ys ++ cut tk x.cps rest.length b.2.2.1 = cut tk x.cps (2 * x.cps.size + 3) 0)
theorem rSplit {a b : Addr} {n : Nat} {d d2 : Option Addr} {sl sl2 : Array (Option Value)} {v0 v1 v3 v4 : Value} {cs : Array Value} {code : Array Nat} {x : Str} {tk : Nat → Nat} (D : St z h₀ L m news s)
    (ho : h₀.get? a = some ⟨.type "re.Pattern", d, .fields #[v0, v1, rawInt 1, v3, v4, .ref b, rawInt 0], sl⟩) (hb : h₀.get? b = some ⟨.type "tuple", d2, .seq cs n, sl2⟩) (hc : (cs.map reRawOf).map (·.toNat) = code)
    (P : PatOk ⟨code, x.cps⟩ tk) (hhd : Sre.header code = (1, 5)) (h4 : (code.getD 2 0 == 4) = false) (hx : x.cps.size ≤ 1000)
    (k : ∀ l vs s', StrsAre vs (cut tk x.cps (2 * x.cps.size + 3) 0) → St z h₀ L m ((l, isLst vs) :: news) s' → Q (.ref l) s') :
    wpAny (model prog w) A (call (.builtin "re.Pattern.split") [.ref a, .str x t]) Q E s := by
  have ho' := D.keep ho
  have hb' := D.keep hb
  refine wpAny_call_entry slot_split ⟨_, ho', rfl⟩ entry_split ?_ (args_split _ _)
  unfold Builtin.«re.Pattern.split»
  show wpAny _ _ (reNamed "re.Pattern.split" "split" ["string", "maxsplit"] 1 [.str x t] [] >>= _) _ _ _
  rw [named_split]
  refine wpAny_bind (wpAny_pure ?_)
  refine wpAny_bind (wpAny_pure ?_)
  refine wpAny_bind (rTarget ho' hb' ?_)
  rw [hc]
  dsimp only
  refine wpAny_bind (wpAny_forIn_list _ (SpI z h₀ L m news x tk) _ ?_ ?_ _ _ ⟨D, [], .nil, Nat.zero_le _, Nat.zero_le _, rfl, rfl, (fun e => by cases e), fun _ => ?_⟩)
  · rintro _ rest ⟨out, start, last, must, n, over⟩ s' ⟨D', ys, hys, hsz, hle, e1, e2, hov, hnov⟩
    dsimp only at hys hsz hle e1 e2 hov hnov ⊢
    subst e1 e2
    cases over
    · obtain ⟨hlt, hcut⟩ := hnov rfl
      rw [if_pos (by decide), if_neg (by simp)]
      refine wpAny_bind ?_
      show wpAny _ _ (reRunToEnd (Sre.forSearch code x.cps 1 start x.cps.size false)) _ _ _
      refine rFound P hhd h4 hx hle ?_
      rw [List.length_cons, cut] at hcut
      cases hn : nextTk tk (x.cps.size - start) start with
      | none =>
        rw [hn] at hcut
        exact wpAny_pure ⟨D', (Mine.i1_7 ys hys hsz hle rfl rfl (fun _ => hcut) (fun e => by cases e))⟩
      | some q =>
        rw [hn] at hcut
        intro mm H
        refine Mine.e0_3 (nextTk_ge hn) ?_
        intro g1 g2 g3
        have g4 := P.fit q (by show q < x.cps.size; lia)
        have g4' : q + tk q ≤ x.cps.size := g4
        dsimp only
        refine wpAny_bind (rSlice D' hx fun t1 s1 D1 => ?_)
        rw [H.st]
        show wpAny _ _ (forIn [0] _ _ >>= _) _ _ _
        rw [List.forIn_cons]
        refine wpAny_bind (wpAny_bind (wpAny_bind ?_))
        unfold reMachineGroup
        show wpAny _ _ (if ((0 : Nat) : Int) ≥ mm.lastmark then _ else match mm.marks.getD 0 none, mm.marks.getD 1 none with
          | some b, some e => if e < b then reWrongSpan else reSlice x.cps 0 b e
          | _, _ => pure Value.none) _ _ _
        rw [H.lm, if_neg (by decide), H.m0, H.m1]
        show wpAny _ _ (if q + tk q < q then reWrongSpan else reSlice x.cps 0 q (q + tk q)) _ _ _
        rw [if_neg (by lia)]
        refine rSlice D1 hx fun t2 s2 D2 => wpAny_pure (wpAny_pure (wpAny_pure ?_))
        refine ⟨D2, (Mine.i1_7 (ys ++ [⟨x.cps.extract start q⟩] ++ [⟨x.cps.extract q (q + tk q)⟩]) ?_ ?_ ?_ rfl ?_ (fun e => by cases e) (fun _ => ⟨?_, ?_⟩))⟩
        · show StrsAre ((out.push _).push _).toList _
          rw [Array.toList_push, Array.toList_push]
          exact strs_snoc (strs_snoc hys _ _) _ _
        · show ((out.push _).push _).size ≤ 2 * mm.handed
          rw [Array.size_push, Array.size_push, H.ha]; lia
        · show mm.handed ≤ _
          rw [H.ha]; exact g4'
        · show (mm.handed == q) = false
          rw [H.ha]; simp; exact g3
        · show x.cps.size - mm.handed < rest.length
          rw [H.ha]
          exact cutlt hlt g1 g2 (by simpa using g3)
        · show _ ++ cut tk x.cps rest.length mm.handed = _
          rw [H.ha, ← hcut]; simp
    · exact wpAny_pure ⟨D', (Mine.i1_7 ys hys hsz hle rfl rfl hov (fun e => by cases e))⟩
  · rintro ⟨out, start, last, must, n, over⟩ s' ⟨D', ys, hys, hsz, hle, e1, e2, hov, hnov⟩
    dsimp only at hys hsz hle e1 e2 hov hnov ⊢
    subst e1 e2
    cases over
    · exact absurd (hnov rfl).1 (Nat.not_lt_zero _)
    · rw [if_neg (by decide)]
      refine wpAny_bind (rSlice D' hx fun t1 s1 D1 => ?_)
      refine wpAny_bind (rNewList D1 ?_ fun l s2 D2 => ?_)
      · rw [sizeLine_eq]; simp; lia
      · refine wpAny_pure ⟨_, rfl, k l _ _ ?_ D2⟩
        rw [← hov rfl, Array.toList_push]
        exact strs_snoc hys _ _
  · rw [List.length_range]
    show x.cps.size - 0 < 2 * x.cps.size + 3 ∧ _
    exact ⟨by lia, rfl⟩
end
end Mine
end

section
open PySem PySem.W PySem.W.X PyProof.Rows PySem.Calls
set_option maxRecDepth 100000
namespace Mine
open Builtin Builtin.Str

section
variable {w : World} {z : Shared} {prog : Program} {A : Around} {E : Value → Shared → Prop} {h₀ : Heap} {s : Shared} {L : Addr} {m : Str → Option Value} {news news' : List Ent} {env : Env} {Q : Value → Shared → Prop} {x y x2 : Str} {t u v : Tok}
theorem posTok {α : Type} {c : Sem α} {Q : α → Shared → Prop} (D : St z h₀ L m news s) (h : wpAny (model prog w) A c (fun a s' => 0 < s'.toks → Q a s') E s) : wpAny (model prog w) A c Q E s :=
  wpAny_mono (wpAny_toks_of D.tk h) (fun _ _ q => q.2 q.1) fun _ _ q => q.2

theorem rStrMeth {name : Str} {id : String} {pl : Sem Bool} {Q : Value × List Value → Shared → Prop} (slot : Slot "str" name id) (ty : typeOf (.builtin id) = pure (.type "method_descriptor")) (h : Q (.builtin id, [.str x t]) s) : wpAny (model prog w) A (getMethod (.str x t) name pl) Q E s :=
  GM.of _ (typeIs_str _ _ _) slot ty GM.noRef h

theorem rJoin {l : Addr} {vs : List Value} {ys : List Str} (D : St z h₀ L m news s) (hm : (l, isLst vs) ∈ news) (hy : StrsAre vs ys) (hok : JoinOk x ys = true) (h : ∀ t' s', St z h₀ L m news s' → Q (.str (Txt.join x ys) t') s') :
    wpAny (model prog w) A (call (.builtin "str.join") [.str x t, .ref l]) Q E s := by
  refine Mine.e1_2 (strsAre_values hy) ?_
  intro l' zq1 e
  subst zq1
  exact posTok D (SC.join (D.lst hm).isList e hok fun t' k hk => h _ _ (D.tok k hk))
theorem rSplitS (D : St z h₀ L m news s) (hy : (y.length == 0) = false) (hsz : x.length ≤ 1000000) (h : ∀ l vs s', StrsAre vs (Txt.split x y) → St z h₀ L m ((l, isLst vs) :: news) s' → Q (.ref l) s') :
    wpAny (model prog w) A (call (.builtin "str.split") [.str x t, .str y u]) Q E s := by
  have hsz' : x.length ≤ sizeLine := by rw [sizeLine_eq]; lia
  have hsz2 : (partsBetween x (occurrences x y 0 x.length (x.length + 1)) y.length).length ≤ sizeLine := by
    rw [length_partsBetween, sizeLine_eq]
    have := StrLaws.occ_length_le x y 0 x.length (x.length + 1)
    lia
  have one : StrsAre [.str x t] (([(x, t)] : List (Str × Tok)).map (·.1)) := .cons _ _ .nil
  cases h1 : (decide (x.length < y.length) || decide (strKind x < strKind y))
  · cases hf : (occurrences x y 0 x.length (x.length + 1)).isEmpty
    · refine posTok D (call_meets F.slot_str_split (typeIs_str _ _ _) F.entry_str_split (F.args_str_split_2 _ _) (meets_str_split_sep x y t u h1 hy hf hsz' hsz2) ?_)
      show wants (fun a s' => 0 < s'.toks → Q a s') E _ { s with toks := _, heap := s.heap.push { cls := .type "list", data := .seq (strsFrom s.toks (partsBetween x (occurrences x y 0 x.length (x.length + 1)) y.length)).toArray } }
      rw [strsFrom_eq]
      intro hk
      refine h _ _ _ ?_ (D.on (s := s) _ (D.led.push rfl ⟨_, rfl⟩) hk)
      have e : (numbered s.toks (partsBetween x (occurrences x y 0 x.length (x.length + 1)) y.length)).map (·.1) = Txt.split x y := (numbered_texts _ _).trans ((if_neg (ne_true_of_eq_false h1)).trans (if_neg (ne_true_of_eq_false hf))).symm
      rw [← e]
      exact strsAre_of_values _
    · refine posTok D (call_meets F.slot_str_split (typeIs_str _ _ _) F.entry_str_split (F.args_str_split_2 _ _) (meets_str_split_not_found x y t u h1 hy hf) ?_)
      intro hk
      have e : [x] = Txt.split x y := ((if_neg (ne_true_of_eq_false h1)).trans (if_pos hf)).symm
      exact h _ _ _ (e ▸ one) (D.on (s := s) _ (D.led.push rfl ⟨_, rfl⟩) hk)
  · refine posTok D (call_meets F.slot_str_split (typeIs_str _ _ _) F.entry_str_split (F.args_str_split_2 _ _) (meets_str_split_cannot_occur x y t u h1) ?_)
    intro hk
    have e : [x] = Txt.split x y := (if_pos h1).symm
    exact h _ _ _ (e ▸ one) (D.on (s := s) _ (D.led.push rfl ⟨_, rfl⟩) hk)
theorem rStripC (D : St z h₀ L m news s) (hsz : x.length ≤ sizeLine) (h : ∀ t' s', St z h₀ L m news s' → Q (.str (Txt.stripChars x y) t') s') : wpAny (model prog w) A (call (.builtin "str.strip") [.str x t, .str y u]) Q E s :=
  posTok D (SC.stripChars (fun t' k hk => h _ _ (D.tok k hk)) hsz)
theorem rIndex {i : Nat} {rest : List Nat} (D : St z h₀ L m news s) (ho : occurrences x y 0 x.length 1 = i :: rest) (h : ∀ t' s', St z h₀ L m news s' → Q (.int i t') s') : wpAny (model prog w) A (call (.builtin "str.index") [.str x t, .str y u]) Q E s :=
  SC.index ho (h _ _ (D.tok _))
theorem rLenS (D : St z h₀ L m news s) (hsz : x.length ≤ sizeLine) (h : ∀ t' s', St z h₀ L m news s' → Q (.int x.length t') s') : wpAny (model prog w) A (call (.builtin "len") [.str x t]) Q E s :=
  P.len_str (by rw [sizeLine_eq] at hsz; lia) (h _ _ (D.tok _))
/- replace, its two texts fresh constants -/
theorem rRepl (D : St z h₀ L m news s) (hyz : (y == x2) = false) (hb : x.length + (x.length + 1) * x2.length ≤ 16777216) (h : ∀ t' s', St z h₀ L m news s' → Q (.str (Txt.replace x y x2) t') s') {k1 k2 : Nat} {p1 p2 : Pos} :
    wpAny (model prog w) A (eval (.Constant (.str y) k1 p1) env) (fun v1 s₁ => wpAny (model prog w) A (eval (.Constant (.str x2) k2 p2) env) (fun v2 s₂ => wpAny (model prog w) A (call (.builtin "str.replace") [.str x t, v1, v2]) Q E s₂) E s₁) E s := by
  refine Calls.Constant_str (Calls.Constant_str ?_)
  have D₁ := D.tok (s.toks + 1)
  have D₂ := D₁.tok (s.toks + 1 + 1)
  have := D.tk
  exact posTok D₂ (SC.replace (by show s.toks ≠ 0; lia) (by show s.toks + 1 ≠ 0; lia) (by show s.toks ≠ s.toks + 1; lia) hyz hb (fun t' k hk => h _ _ (D₂.tok k hk)))
end
end Mine
end

section
open PySem PySem.W PySem.W.X PyProof.Rows PySem.Calls
set_option maxRecDepth 100000
namespace Mine
noncomputable def isSI (x : Str) (t : Tok) (i : Nat) : Obj → Prop := fun o => o.cls = .type "str_ascii_iterator" ∧ o.data = .fields #[.str x t, .int i 0]
section
variable {w : World} {z : Shared} {prog : Program} {A : Around} {E : Value → Shared → Prop} {h₀ : Heap} {s : Shared} {L : Addr} {m : Str → Option Value} {news news' : List Ent} {env : Env} {t : Tok}
/- the newest entry goes -/
theorem St.drop {it : Addr} {P : Obj → Prop} {h' : Heap} (D' : St z h₀ L m ((it, P) :: news) s) (he : Heap.ExtBut it s.heap h') : St z h₀ L m news { s with heap := h' } := by
  have ne : ∀ p ∈ news, p.1 ≠ it := fun p hp => Ne.symm ((List.pairwise_cons.mp D'.led.ord).1 p.1 (List.mem_map_of_mem hp))
  have nb : ∀ b o, h₀.get? b = some o → b ≠ it := fun b o e q => by subst q; rw [(D'.led.nw _ (.head _)).2.2] at e; cases e
  refine Mine.e3_2 (D'.led.fr.ns) ?_
  intro oL es ep eL r
  refine ⟨⟨⟨⟨oL, es, ep, he _ _ (Ne.symm (D'.led.nw _ (.head _)).2.1) eL, r⟩, fun b o e => he b o (nb b o e) (D'.keep e), D'.led.fr.above⟩, fun p hp => ?_, (List.pairwise_cons.mp D'.led.ord).2⟩, D'.dr, D'.os, D'.gb, D'.tk⟩
  obtain ⟨⟨o, e, q⟩, y⟩ := D'.led.nw p (.tail _ hp)
  exact ⟨⟨o, he _ _ (ne p hp) e, q⟩, y⟩
/- a loop over the signs of a text -/
theorem iterStr {x : Str} {px : Pos} {tx : Str} {body orelse : List Stmt} {K : Flow → Shared → Prop} (J : Nat → (Str → Option Value) → List Ent → Prop)
    (D : St z h₀ L m news s) (hh : A.handled = none) (ha : tx.cps.all (· < 128) = true) (hj : J 0 m news)
    (turn : ∀ i c u m' news' it s', tx.cps[i]? = some c → J i m' news' → St z h₀ L m' ((it, isSI tx t (i + 1)) :: news') s' →
      wpAny (model prog w) A (storeName env x (.str ⟨#[c]⟩ u)) (fun _ s₂ => wpAny (model prog w) A (execs body env) (TurnQ K fun s₃ => ∃ m₂ news₂, J (i + 1) m₂ news₂ ∧ St z h₀ L m₂ ((it, isSI tx t (i + 1)) :: news₂) s₃) (fun _ _ => False) s₂) (fun _ _ => False) s')
    (done : ∀ m' news' s', J tx.cps.size m' news' → St z h₀ L m' news' s' → wpAny (model prog w) A (execs orelse env) K (fun _ _ => False) s') :
    wpAny (model prog w) A (pyIter (.str tx t)) (ForAt prog w A env (.Name x px) body orelse K) E s := by
  refine wpAny_pyIter_ascii ha ?_
  have D₀ := D.on (s := s) s.toks (D.led.push (P := isSI tx t 0) (o := { cls := .type "str_ascii_iterator", data := .fields #[.str tx t, .int 0 0] }) rfl ⟨rfl, rfl⟩)
  generalize hit : s.heap.objs.size = it at D₀ ⊢
  refine codeAny_forLoop_any (fun n s' => ∃ i m' news', i + n = tx.cps.size ∧ J i m' news' ∧ St z h₀ L m' ((it, isSI tx t i) :: news') s') (fun n s' hI => ?_) tx.cps.size ⟨0, m, news, by lia, hj, D₀⟩
  refine Mine.e3_3 hI ?_
  try clear hI
  intro i m' news' hin hJ D'
  have hI : s'.heap.IsStrIter it "str_ascii_iterator" tx t i := D'.get (.head _)
  cases n with
  | zero =>
    refine wpAny_pyNext_ascii_end hh hI (by simp; lia) fun h' he => ?_
    have hi : i = tx.cps.size := by lia
    subst hi
    exact wpAny_mono (done m' news' _ hJ (D'.drop he)) (fun f s₃ q => q) fun _ _ q => q.elim
  | succ n =>
    have hlt : i < tx.cps.size := by lia
    refine wpAny_pyNext_ascii_item hI (c := tx.cps[i]) (by simp [hlt]) fun h' hit' hs => ?_
    have D'' : St z h₀ L m' ((it, isSI tx t (i + 1)) :: news') { s' with heap := h', toks := s'.toks + 1 } := D'.turn (s'.toks + 1) .head (fun b o hb e => (hs.2 b hb).trans e) hit'
    show wpAny (model prog w) A (pure ()) _ _ _
    refine wpAny_pure ?_
    show wpAny (model prog w) A (do standAt px; bindName env x (.str ⟨#[tx.cps[i]]⟩ s'.toks)) _ _ _
    refine wpAny_bind (wpAny_standAt (wpAny_bindName ?_))
    refine wpAny_mono (turn i tx.cps[i] _ m' news' it _ (by simp [hlt]) hJ D'') (fun _ s₂ q => wpAny_mono q (fun f s₃ q3 => ?_) fun _ _ q => q.elim) fun _ _ q => q.elim
    cases f with
    | next => obtain ⟨m₂, news₂, j, d⟩ := q3; exact ⟨n, by lia, i + 1, m₂, news₂, by lia, j, d⟩
    | cont => obtain ⟨m₂, news₂, j, d⟩ := q3; exact ⟨n, by lia, i + 1, m₂, news₂, by lia, j, d⟩
    | brk => exact q3
    | ret v => exact q3
end
end Mine
end

section
open PySem PySem.W PySem.W.X PyProof.Rows PySem.Calls
set_option maxRecDepth 100000
namespace Mine
section
variable {w : World} {z : Shared} {prog : Program} {A : Around} {E : Value → Shared → Prop} {h₀ : Heap} {s : Shared} {L : Addr} {m : Str → Option Value} {news news' : List Ent} {env : Env} {t : Tok} {rest : List Stmt} {Q : Flow → Shared → Prop}
/- a while loop: I n is kept with n falling -/
theorem xWhile {test : Expr} {body orelse : List Stmt} {p : Pos} (I : Nat → Shared → Prop) (n : Nat) (h : I n s)
    (turn : ∀ n s, I n s → wpAny (model prog w) A (isTrue test env (eval test env)) (fun b s₂ =>
      if b then wpAny (model prog w) A (execs body env) (TurnQ (AndThen prog w A env rest Q E) fun s₃ => ∃ m, m < n ∧ I m s₃) (fun _ _ => False) s₂
      else wpAny (model prog w) A (execs orelse env) (AndThen prog w A env rest Q E) (fun _ _ => False) s₂) (fun _ _ => False) s) :
    wpAny (model prog w) A (execs (.While test body orelse p :: rest) env) Q E s := by
  refine wpAny_execs_cons (wpAny_While (codeAny_mono (codeAny_whileLoop (R := fun r s' => match r with | .ok f => AndThen prog w A env rest Q E f s' | .error _ => False) I (fun n s hI => ?_) n h) fun r s' q => ?_))
  · refine wpAny_mono (turn n s hI) (fun b s₂ q => ?_) fun _ _ q => q.elim
    cases b
    · exact wpAny_mono q (fun f s₃ q3 => q3) fun _ _ q => q.elim
    · exact wpAny_mono q (fun f s₃ q3 => by cases f <;> exact q3) fun _ _ q => q.elim
  · cases r with
    | ok f => cases f <;> exact q
    | error e => exact q.elim
end
end Mine
end

section
open PySem PySem.W PySem.W.X PyProof.Rows PySem.Calls
set_option maxRecDepth 100000
namespace Mine
open Builtin Builtin.Str
section
variable {w : World} {z : Shared} {prog : Program} {A : Around} {E : Value → Shared → Prop} {h₀ : Heap} {s : Shared} {L : Addr} {m : Str → Option Value} {news news' : List Ent} {env : Env} {t u : Tok} {x y : Str} {Q : Value → Shared → Prop}
theorem rExtL {l b : Addr} {vs ws : List Value} (D : St z h₀ L m news s) (U : Rep l (isLst vs) (isLst (vs ++ ws)) news news') (hb : (b, isLst ws) ∈ news) (hsz : vs.length + ws.length ≤ sizeLine) (h : ∀ s', St z h₀ L m news' s' → Q .none s') :
    wpAny (model prog w) A (call (.builtin "list.extend") [.ref l, .ref b]) Q E s := by
  obtain ⟨n, ho⟩ := D.lst U.mem
  obtain ⟨n2, ho2⟩ := D.lst hb
  have hsz' : vs.toArray.size + ws.toArray.size ≤ sizeLine := by simpa using hsz
  refine call_meets PySem.F.slot_list_extend ⟨_, ho, rfl⟩ PySem.F.entry_list_extend (PySem.F.args_list_extend_2 _ _) (AutoSeq1.list_extend_list_list_0 l vs.toArray n b ws.toArray n2 (extend_door hsz') (Nat.le_trans (Nat.le_add_right _ _) hsz')) ⟨ho, ho2, ?_⟩
  have e : vs.toArray ++ ws.toArray = (vs ++ ws).toArray := by simp
  refine h _ (D.turn s.toks U (fun b o hb e => ((Heap.SameBut.update .. : Heap.SameBut l s.heap _).2 b hb).trans e) ⟨_, Heap.get?_update_self _ ho (by rw [mapSeq_app]; rfl), if (vs.toArray ++ ws.toArray).size == vs.toArray.size then n else n + 1, by rw [mapSeq_app, e]⟩)
theorem rExtT {l b : Addr} {vs ws : List Value} (D : St z h₀ L m news s) (U : Rep l (isLst vs) (isLst (vs ++ ws)) news news') (hb : (b, isTpl ws) ∈ news) (hsz : vs.length + ws.length ≤ sizeLine) (h : ∀ s', St z h₀ L m news' s' → Q .none s') :
    wpAny (model prog w) A (call (.builtin "list.extend") [.ref l, .ref b]) Q E s := by
  obtain ⟨n, ho⟩ := D.lst U.mem
  obtain ⟨o2, ho2, n2, rfl⟩ := D.get hb
  have hsz' : vs.toArray.size + ws.toArray.size ≤ sizeLine := by simpa using hsz
  refine call_meets PySem.F.slot_list_extend ⟨_, ho, rfl⟩ PySem.F.entry_list_extend (PySem.F.args_list_extend_2 _ _) (AutoSeq1.list_extend_list_tuple_0 l vs.toArray n b ws.toArray n2 (extend_door hsz') (Nat.le_trans (Nat.le_add_right _ _) hsz')) ⟨ho, ho2, ?_⟩
  have e : vs.toArray ++ ws.toArray = (vs ++ ws).toArray := by simp
  refine h _ (D.turn s.toks U (fun b o hb e => ((Heap.SameBut.update .. : Heap.SameBut l s.heap _).2 b hb).trans e) ⟨_, Heap.get?_update_self _ ho (by rw [mapSeq_app]; rfl), if (vs.toArray ++ ws.toArray).size == vs.toArray.size then n else n + 1, by rw [mapSeq_app, e]⟩)
/- ## comparing texts -/
theorem rLe (h : Q (.bool (!(y.cps.toList < x.cps.toList))) s) : wpAny (model prog w) A (compareOp .LtE (.str x t) (.str y u)) Q E s :=
  compareOp_gives (op := .LtE) (typeIs_str s x t) (typeIs_str s y u) F.slot_str_le F.entry_str_le (F.args_str_le_2 _ _) (gives_str_le x y t u) (fun e => nomatch e) h
theorem rGe (h : Q (.bool (!(x.cps.toList < y.cps.toList))) s) : wpAny (model prog w) A (compareOp .GtE (.str x t) (.str y u)) Q E s :=
  compareOp_gives (op := .GtE) (typeIs_str s x t) (typeIs_str s y u) F.slot_str_ge F.entry_str_ge (F.args_str_ge_2 _ _) (gives_str_ge x y t u) (fun e => nomatch e) h
end
end Mine
end

section
open PySem PySem.W PySem.W.X PyProof.Rows PySem.Calls PySem.Spec
set_option maxRecDepth 100000
namespace Mine
section
variable {w : World} {z : Shared} {prog : Program} {A : Around} {E : Value → Shared → Prop} {h₀ : Heap} {s : Shared} {L : Addr} {m : Str → Option Value} {news news' : List Ent} {env : Env} {t u : Tok} {x y : Str} {Q : Value → Shared → Prop}
theorem rDict {keys : List (Option Expr)} {values : List Expr} {pos : Pos} {T : List (PyData × PyData)} (D : St z h₀ L m news s) (hD : litPairs keys values = some T) (hs : strKeyed T = true) (hn : (strKeysOf T).Nodup)
    (hall : keys.all (·.isSome) = true) (hl : keys.length = values.length) (nl : 100 ≤ h₀.objs.size) (h0 : keys.isEmpty = false) (hlen : Nat.ble keys.length 15 = true)
    (h : ∀ a s', 2 ≤ a → St z h₀ L m ((a, TabObj (strKind prog w) PyData.str T) :: news) s' → Q (.ref a) s') : wpAny (model prog w) A (eval (.Dict keys values pos) env) Q E s :=
  posTok D (Dict_lits_str hD hs hn hall hl (fun e => by rw [e] at h0; cases h0) (Nat.le_of_ble_eq_true hlen) fun a o h₁ tk ha ho hT hk htk => h a _ (by
    have h1 : 2 < h₀.objs.size := Nat.lt_of_lt_of_le (by decide) nl
    have h2 : h₀.objs.size ≤ L := D.led.fr.above
    have h3 : L < s.heap.objs.size := D.led.fr.ns.lt
    exact Nat.le_trans (Nat.le_of_lt (Nat.lt_of_lt_of_le h1 (Nat.le_trans h2 (Nat.le_of_lt h3)))) ha) (D.on (s := s) tk (D.led.cons hk ha ho hT) htk))
theorem rDicGet {d : Addr} {T : List (PyData × PyData)} {i : Int} {sk : Spec.Shape} (D : St z h₀ L m news s) (hm : (d, TabObj (strKind prog w) PyData.str T) ∈ news) (hd : 2 ≤ d) (hs : Shaped sk .int T) (h : ∀ t' s', St z h₀ L m news s' → Q (.int (intAt (.str x) i T) t') s') :
    wpAny (model prog w) A (call (.builtin "dict.get") [.ref d, .str x t, .int i u]) Q E s := by
  obtain ⟨o, ho, kvs, hk, hf⟩ := D.get hm
  refine call_get2_tab_int (knd := strKind prog w) (enc := PyData.str) (fun a b => PyProof.Rows.same_str' a b) (strKind_is prog w x t) (TabAt.ofObj (by rw [beq_eq_false_iff_ne]; intro e; rw [e] at hd; exact absurd hd (by decide)) ho hk hf) hs fun t' => h _ _ (D.tok _)
end
end Mine
end

section
open PySem PySem.W PySem.W.X PyProof.Rows PySem.Calls
set_option maxRecDepth 100000
namespace Mine
open Builtin Builtin.Str
theorem foldl_len (sep : Str) : ∀ (l : List Str) (n : Nat), l.foldl (fun a p => a + p.length + sep.length) n = n + (l.map (·.length)).sum + l.length * sep.length
  | [], n => by simp
  | p :: l, n => by
    rw [List.foldl_cons, foldl_len sep l]
    simp only [List.map_cons, List.sum_cons, List.length_cons, Nat.succ_mul]
    lia
theorem joinOk_of {sep : Str} {l : List Str} {n : Nat} (h : (l.map (·.length)).sum + l.length * sep.length ≤ n) (hn : n ≤ 1000000) : JoinOk sep l = true := by
  unfold JoinOk tooLong
  have e : l.toArray.foldl (fun a p => a + p.length + sep.length) 0 = 0 + (l.map (·.length)).sum + l.length * sep.length := by
    rw [← foldl_len]; simp
  rw [e, Nat.zero_add, sizeLine_eq]
  simp
  lia
theorem split_sum (x y : Str) : ((Txt.split x y).map (·.length)).sum ≤ x.length := by
  unfold Txt.split
  split
  · simp
  · split
    · simp
    · have h := congrArg Str.length (StrLaws.glued_between_self x y (x.length + 1))
      rw [_root_.PySem.size_glued] at h
      lia
end Mine
end

section
open PySem PySem.W PySem.W.X PyProof.Rows PySem.Calls
set_option maxRecDepth 100000
namespace Mine
section
variable {w : World} {prog : Program} {A : Around} {E : Value → Shared → Prop} {s : Shared} {env : Env} {Q : Flow → Shared → Prop} {rest : List Stmt}
/- a state told between two statements -/
theorem xCut {st : Stmt} (I : Shared → Prop) (h : wpAny (model prog w) A (execs [st] env) (fun f s' => f = .next ∧ I s') E s) (k : ∀ s', I s' → wpAny (model prog w) A (execs rest env) Q E s') : wpAny (model prog w) A (execs (st :: rest) env) Q E s := by
  have e : execs (st :: rest) env = (do match ← execs [st] env with | .next => execs rest env | f => pure f) := by
    rw [execs_cons, execs_cons, bind_assoc]
    congr 1
    funext f
    cases f <;> rfl
  rw [e]
  refine wpAny_bind (wpAny_mono h (fun f s' q => ?_) fun _ _ e => e)
  obtain ⟨rfl, q⟩ := q
  exact k s' q
/- the same, the state's telling hidden behind a variable -/
theorem xCutH {st : Stmt} (I : Shared → Prop) (h : ∀ R : Shared → Prop, (∀ s', I s' → R s') → wpAny (model prog w) A (execs [st] env) (fun f s' => f = .next ∧ R s') E s) (k : ∀ s', I s' → wpAny (model prog w) A (execs rest env) Q E s') : wpAny (model prog w) A (execs (st :: rest) env) Q E s := xCut I (h I fun _ q => q) k
/- an if whose test's answer is told first -/
theorem xIfB {test : Expr} {body orelse : List Stmt} {p : Pos} (b : Bool) (I : Shared → Prop) (ht : wpAny (model prog w) A (isTrue test env (eval test env)) (fun b' s₂ => b' = b ∧ I s₂) E s)
    (hT : b = true → ∀ s₂, I s₂ → wpAny (model prog w) A (execs body env) (AndThen prog w A env rest Q E) E s₂) (hF : b = false → ∀ s₂, I s₂ → wpAny (model prog w) A (execs orelse env) (AndThen prog w A env rest Q E) E s₂) :
    wpAny (model prog w) A (execs (.If test body orelse p :: rest) env) Q E s := by
  refine xIf' (wpAny_mono ht (fun b' s₂ q => ?_) fun _ _ e => e)
  obtain ⟨rfl, q⟩ := q
  cases b'
  · exact hF rfl s₂ q
  · exact hT rfl s₂ q
end
theorem iteT {P R : Prop} (p : P) : if true = true then P else R := p
theorem iteF {P R : Prop} (p : R) : if false = true then P else R := p
end Mine
end

section
open PySem PySem.W PySem.W.X PyProof.Rows PySem.Calls
set_option maxRecDepth 100000
namespace Mine
/- a test's answer, the state as it was -/
noncomputable def TB (z : Shared) (h₀ : Heap) (L : Addr) (m : Str → Option Value) (news : List Ent) (b : Bool) : Bool → Shared → Prop := fun b' s₂ => b' = b ∧ St z h₀ L m news s₂
/- what follows a test -/
noncomputable def Nxt (b v : Bool) (z : Shared) (h₀ : Heap) (L : Addr) (m : Str → Option Value) (news : List Ent) (P : Shared → Prop) : Prop := b = v → ∀ s', St z h₀ L m news s' → P s'
theorem nxt {b v : Bool} {z : Shared} {h₀ : Heap} {L : Addr} {m : Str → Option Value} {news : List Ent} {P : Shared → Prop} (h : b = v → ∀ s', St z h₀ L m news s' → P s') : Nxt b v z h₀ L m news P := h
section
variable {w : World} {prog : Program} {A : Around} {E : Value → Shared → Prop} {s : Shared} {env : Env} {Q : Flow → Shared → Prop} {rest : List Stmt} {z : Shared} {h₀ : Heap} {L : Addr} {m : Str → Option Value} {news : List Ent} {b b₁ b₂ : Bool}
theorem xIfT {test : Expr} {body orelse : List Stmt} {p : Pos} (_D : St z h₀ L m news s) (ht : wpAny (model prog w) A (isTrue test env (eval test env)) (TB z h₀ L m news b) E s)
    (hT : b = true → ∀ s₂, St z h₀ L m news s₂ → wpAny (model prog w) A (execs body env) (AndThen prog w A env rest Q E) E s₂) (hF : b = false → ∀ s₂, St z h₀ L m news s₂ → wpAny (model prog w) A (execs orelse env) (AndThen prog w A env rest Q E) E s₂) :
    wpAny (model prog w) A (execs (.If test body orelse p :: rest) env) Q E s := xIfB b _ ht hT hF
theorem tAnd {x : Expr} {es : List Expr} {pos : Pos} {whole : Sem Value} (h1 : wpAny (model prog w) A (isTrue x env (eval x env)) (TB z h₀ L m news b₁) E s)
    (h2 : Nxt b₁ true z h₀ L m news fun s' => wpAny (model prog w) A (isTrue (.BoolOp .And es pos) env whole) (TB z h₀ L m news b₂) E s') :
    wpAny (model prog w) A (isTrue (.BoolOp .And (x :: es) pos) env whole) (TB z h₀ L m news (b₁ && b₂)) E s := by
  refine PyProof.Rows.isTrue_and (wpAny_mono h1 (fun c s' q => ?_) fun _ _ e => e)
  obtain ⟨rfl, q⟩ := q
  cases c
  · exact ⟨rfl, q⟩
  · exact h2 rfl s' q
theorem tOr {x : Expr} {es : List Expr} {pos : Pos} {whole : Sem Value} (h1 : wpAny (model prog w) A (isTrue x env (eval x env)) (TB z h₀ L m news b₁) E s)
    (h2 : Nxt b₁ false z h₀ L m news fun s' => wpAny (model prog w) A (isTrue (.BoolOp .Or es pos) env whole) (TB z h₀ L m news b₂) E s') :
    wpAny (model prog w) A (isTrue (.BoolOp .Or (x :: es) pos) env whole) (TB z h₀ L m news (b₁ || b₂)) E s := by
  refine PyProof.Rows.isTrue_or (wpAny_mono h1 (fun c s' q => ?_) fun _ _ e => e)
  obtain ⟨rfl, q⟩ := q
  cases c
  · exact h2 rfl s' q
  · exact ⟨rfl, q⟩
theorem tNot {x : Expr} {pos : Pos} {whole : Sem Value} (h1 : wpAny (model prog w) A (isTrue x env (eval x env)) (TB z h₀ L m news b₁) E s) :
    wpAny (model prog w) A (isTrue (.UnaryOp .Not x pos) env whole) (TB z h₀ L m news (!b₁)) E s :=
  PyProof.Rows.isTrue_not (wpAny_mono h1 (fun c s' q => by obtain ⟨rfl, q⟩ := q; exact ⟨rfl, q⟩) fun _ _ e => e)
/- a chain of two comparisons -/
noncomputable def Ch2 (prog : Program) (w : World) (A : Around) (E : Value → Shared → Prop) (z : Shared) (h₀ : Heap) (L : Addr) (m : Str → Option Value) (news : List Ent) (op₁ op₂ : CmpOp) (r₂ : Sem Value) (b₁ b₂ : Bool) (a b : Value) (s : Shared) : Prop :=
  wpAny (model prog w) A (compareOp op₁ a b) (fun c s₃ => wpAny (model prog w) A (truthy c) (TB z h₀ L m news b₁) E s₃) E s ∧
  (b₁ = true → ∀ s', St z h₀ L m news s' → wpAny (model prog w) A r₂ (fun d s₄ => wpAny (model prog w) A (compareOp op₂ b d) (fun c s₅ => wpAny (model prog w) A (truthy c) (TB z h₀ L m news b₂) E s₅) E s₄) E s')
theorem tChain {l r₁ r₂ : Expr} {op₁ op₂ : CmpOp} {pos : Pos} {whole : Sem Value} (h : wpAny (model prog w) A (eval l env) (fun a s₁ => wpAny (model prog w) A (eval r₁ env) (fun b s₂ => Ch2 prog w A E z h₀ L m news op₁ op₂ (eval r₂ env) b₁ b₂ a b s₂) E s₁) E s)
    (hm : lastMarks [op₁, op₂] [r₁, r₂] = false) : wpAny (model prog w) A (isTrue (.Compare l [op₁, op₂] [r₁, r₂] pos) env whole) (TB z h₀ L m news (b₁ && b₂)) E s := by
  refine isTrue_chain (wpAny_mono h (fun a s₁ q₁ => ?_) fun _ _ e => e) hm
  refine test_link (wpAny_mono q₁ (fun b s₂ q₂ => wpAny_mono q₂.1 (fun c s₃ q₃ => wpAny_mono q₃ (fun t s₄ q₄ => ?_) fun _ _ e => e) fun _ _ e => e) fun _ _ e => e)
  obtain ⟨rfl, q₄⟩ := q₄
  cases t
  · exact ⟨rfl, q₄⟩
  · exact test_last (q₂.2 rfl _ q₄)
theorem ch2 {op₁ op₂ : CmpOp} {r₂ : Sem Value} {a c : Value} (h1 : wpAny (model prog w) A (compareOp op₁ a c) (fun c s₃ => wpAny (model prog w) A (truthy c) (TB z h₀ L m news b₁) E s₃) E s)
    (h2 : Nxt b₁ true z h₀ L m news fun s' => wpAny (model prog w) A r₂ (fun d s₄ => wpAny (model prog w) A (compareOp op₂ c d) (fun c s₅ => wpAny (model prog w) A (truthy c) (TB z h₀ L m news b₂) E s₅) E s₄) E s') :
    Ch2 prog w A E z h₀ L m news op₁ op₂ r₂ b₁ b₂ a c s := ⟨h1, h2⟩
theorem tEnd (D : St z h₀ L m news s) : TB z h₀ L m news b b s := ⟨rfl, D⟩
end
end Mine
end

section
open PySem PySem.W PySem.W.X PyProof.Rows PySem.Calls
set_option maxRecDepth 100000
namespace Mine
/- so many blanks -/
noncomputable def blk (n : Nat) : Str := ⟨(List.replicate n 32).toArray⟩
theorem blk_len (n : Nat) : (blk n).length = n := by simp [blk, Str.length]
theorem foldl_rep (c : Nat) : ∀ (n : Nat) (a : Array Nat), (List.replicate n #[c]).foldl (· ++ ·) a = a ++ (List.replicate n c).toArray
  | 0, a => by simp
  | n + 1, a => by
    rw [List.replicate_succ, List.foldl_cons, foldl_rep c n, List.replicate_succ, Array.append_assoc]
    congr 1; apply Array.ext'; simp
section
variable {w : World} {z : Shared} {prog : Program} {A : Around} {E : Value → Shared → Prop} {h₀ : Heap} {s : Shared} {L : Addr} {m : Str → Option Value} {news news' : List Ent} {env : Env} {t u : Tok} {x y : Str} {Q : Value → Shared → Prop}
theorem rDicMeth {d : Addr} {T : List (PyData × PyData)} {pl : Sem Bool} {Q : Value × List Value → Shared → Prop} (D : St z h₀ L m news s) (hm : (d, TabObj (strKind prog w) PyData.str T) ∈ news) (hd : 2 ≤ d) (h : Q (.builtin "dict.get", [.ref d]) s) :
    wpAny (model prog w) A (getMethod (.ref d) (Str.ofString "get") pl) Q E s := by
  obtain ⟨o, ho, kvs, hk, hf⟩ := D.get hm
  exact getMethod_strTab_get (TabAt.ofObj (by rw [beq_eq_false_iff_ne]; intro e; rw [e] at hd; exact absurd hd (by decide)) ho hk hf) h
theorem rBlanks {n : Int} (D : St z h₀ L m news s) (h0 : 0 ≤ n) (hn : n ≤ 1000) (h : ∀ t' s', St z h₀ L m news s' → Q (.str (blk n.toNat) t') s') : wpAny (model prog w) A (binaryOp .Mult (.str (Str.ofString " ") t) (.int n u)) Q E s := by
  have hl1 : (Str.ofString " ").length = 1 := rfl
  refine P.mul_str (by simp; lia) (fun h1 _ => by rw [hl1]; intro q; have : (2 ^ 63 - 1) / n ≥ 1 := by { apply (Int.le_ediv_iff_mul_le (by lia)).mpr; lia }; lia) (fun _ _ => ?_) ?_
  · unfold Builtin.Str.tooLong; rw [hl1, sizeLine_eq]; simp; lia
  · by_cases h1 : n < 1
    · rw [if_pos h1]
      have e : n.toNat = 0 := by lia
      have := h (s.toks) { s with toks := s.toks + 1 } (D.tok _)
      rw [e] at this
      exact ⟨by decide, this⟩
    · rw [if_neg h1]
      by_cases h2 : (n == 1 || (Str.ofString " ").length == 0) = true
      · rw [if_pos h2]
        have e : n = 1 := by simpa [hl1] using h2
        subst e
        exact h t s D
      · rw [if_neg h2]
        have e : (⟨(List.replicate n.toNat (Str.ofString " ").cps).foldl (· ++ ·) #[]⟩ : Str) = blk n.toNat := by
          rw [show (Str.ofString " ").cps = #[32] from rfl, foldl_rep]; simp [blk]
        rw [e]
        exact ⟨by rw [blk_len, sizeLine_eq]; lia, h _ _ (D.tok _)⟩
theorem rAddL {l b : Addr} {vs ws : List Value} (D : St z h₀ L m news s) (hl : (l, isLst vs) ∈ news) (hb : (b, isLst ws) ∈ news) (hsz : vs.length + ws.length ≤ sizeLine) (h : ∀ a s', St z h₀ L m ((a, isLst (vs ++ ws)) :: news) s' → Q (.ref a) s') :
    wpAny (model prog w) A (binaryOp .Add (.ref l) (.ref b)) Q E s := by
  obtain ⟨n, ho⟩ := D.lst hl
  obtain ⟨n2, ho2⟩ := D.lst hb
  exact P.add_list ho ho2 (h _ _ (D.on (s := s) s.toks (D.led.push rfl ⟨0, by simp⟩))) (by simpa using hsz)
theorem rLenL {l : Addr} {vs : List Value} (D : St z h₀ L m news s) (hl : (l, isLst vs) ∈ news) (hsz : vs.length ≤ sizeLine) (h : ∀ t' s', St z h₀ L m news s' → Q (.int vs.length t') s') :
    wpAny (model prog w) A (call (.builtin "len") [.ref l]) Q E s := by
  refine Calls.call_len_list (D.lst hl).isList (by rw [sizeLine_eq] at hsz; simp; lia) ?_
  have := h (s.toks + 1) { s with toks := s.toks + 1 + 1 } (D.tok _)
  simpa using this
/- shapes of goals -/
end
end Mine
end

section
open PySem PySem.W PySem.W.X PyProof.Rows PySem.Calls
set_option maxRecDepth 100000
namespace Mine
section
variable {w : World} {z : Shared} {prog : Program} {A : Around} {E : Value → Shared → Prop} {h₀ : Heap} {s : Shared} {L : Addr} {m : Str → Option Value} {news news' : List Ent} {env : Env} {t u : Tok} {x y : Str} {Q : Value → Shared → Prop} {b : Bool}
theorem tCont {test : Expr} {v : Sem Value} {P R : Shared → Prop} (_D : St z h₀ L m news s) (ht : wpAny (model prog w) A (isTrue test env v) (TB z h₀ L m news b) E s) (hT : b = true → ∀ s₂, St z h₀ L m news s₂ → P s₂) (hF : b = false → ∀ s₂, St z h₀ L m news s₂ → R s₂) :
    wpAny (model prog w) A (isTrue test env v) (fun b s₂ => if b = true then P s₂ else R s₂) E s := by
  refine wpAny_mono ht (fun b' s₂ q => ?_) fun _ _ e => e
  obtain ⟨rfl, q⟩ := q
  cases b'
  · exact hF rfl s₂ q
  · exact hT rfl s₂ q
/- a tuple taken apart by names, left to right -/
theorem rAsgT {elts : List Expr} {k : Nat} {pos : Pos} {T : Addr} {vs : List Value} {Q : Unit → Shared → Prop} (D : St z h₀ L m news s) (hh : A.handled = none) (hm : (T, isTpl vs) ∈ news) (hn : (assignEach elts env).length = vs.length) (hs : (assignEach elts env).findIdx? (·.1) = none)
    (h : ∀ s', St z h₀ L m news s' → wpAny (model prog w) A (assignInOrder ((assignEach elts env).map (·.2)) vs) Q E s') : wpAny (model prog w) A (assign (.Tuple elts k pos) env (.ref T)) Q E s := by
  refine assign_Tuple_tuple hh (D.tpl hm) (by simpa using hn) hs fun h' he => ?_
  have := h _ (D.ext s.toks he)
  simpa using this
theorem memU {α : Type} {a : α} {u l : List α} (h : a ∈ l) : a ∈ u ++ l := List.mem_append_right _ h
theorem Rep.app {a : Addr} {P P' : Obj → Prop} : ∀ {u l l' : List Ent}, Rep a P P' l l' → Rep a P P' (u ++ l) (u ++ l')
  | [], _, _, h => h
  | _ :: _, _, _, h => .tail (Rep.app h)
theorem subU {α : Type} {u l l' : List α} (h : l.Sublist l') : (u ++ l).Sublist (u ++ l') := List.Sublist.append_left h u
end
end Mine
end

section
open PySem PySem.W PySem.W.X PyProof.Rows PySem.Calls
set_option maxRecDepth 100000
namespace Mine
/- a state that only grew since s₂, with the frame C -/
structure KS (s₂ : Shared) (C : Addr) (m : Str → Option Value) (s : Shared) : Prop where
  kp : Keeps s₂ s
  ns : s.heap.Ns C m
  tk : 0 < s.toks
section
variable {s₂ s : Shared} {C : Addr} {m : Str → Option Value}
theorem KS.keep (K : KS s₂ C m s) {b : Addr} {o : Obj} (e : s₂.heap.get? b = some o) : s.heap.get? b = some o := by
  obtain ⟨h', tk, rfl, k⟩ := K.kp; exact k b o e
theorem KS.on (K : KS s₂ C m s) {h' : Heap} {t' : Nat} (k : ∀ b o, s.heap.get? b = some o → h'.get? b = some o) (ht : 0 < t') : KS s₂ C m { s with heap := h', toks := t' } := by
  refine ⟨?_, K.ns.keeps k, ht⟩
  refine Mine.e2_2 (K.kp) ?_
  intro h₁ tk zq1 k₁
  subst zq1
  exact Mine.i2_2 h' t' rfl (fun b o e => k b o (k₁ b o e))
theorem KS.tok (K : KS s₂ C m s) (t' : Nat) (ht : 0 < t') : KS s₂ C m { s with toks := t' } := K.on (fun _ _ e => e) ht
end
section
variable {w : World} {prog : Program} {A : Around} {E : Value → Shared → Prop} {s₂ s : Shared} {C : Addr} {m : Str → Option Value} {env : Env} {names : List (Str × NameKind)} {Q : Value → Shared → Prop} {t u : Tok} {x y : Str} {a b : Int}
theorem kNmL {pos : Pos} {v : Value} (K : KS s₂ C m s) (hE : EnvIs env C names) (hl : names.lookup x = some .local) (hv : m x = some v) (h : Q v s) (hd : (x == ("__debug__" : Str)) = false) : wpAny (model prog w) A (eval (.Name x pos) env) Q E s :=
  wpAny_Name (wpAny_loadName_local hE.kind (by rw [Env.kindOf, hE.nm]; exact hl) (by rw [hE.loc]; exact K.ns) hv h) hd
theorem kStr {k : Nat} {pos : Pos} (K : KS s₂ C m s) (h : ∀ t s', KS s₂ C m s' → Q (.str x t) s') : wpAny (model prog w) A (eval (.Constant (.str x) k pos) env) Q E s :=
  Calls.Constant_str (h _ _ (K.tok _ (Nat.succ_pos _)))
theorem kCat (K : KS s₂ C m s) (hsz : x.length + y.length ≤ sizeLine) (h : ∀ t' s', KS s₂ C m s' → Q (.str (x ++ y) t') s') : wpAny (model prog w) A (binaryOp .Add (.str x t) (.str y u)) Q E s := by
  have hz : ∀ q : Str, (q.length == 0) = true → q.cps = #[] := fun q e => Array.eq_empty_of_size_eq_zero (beq_iff_eq.mp e)
  refine P.add_str ?_
  by_cases h1 : (x.length == 0) = true
  · rw [if_pos h1]
    have e : x ++ y = y := Str.ext' (by rw [Str.cps_append, hz x h1]; simp)
    exact e ▸ h u s K
  · rw [if_neg h1]
    by_cases h2 : (y.length == 0) = true
    · rw [if_pos h2]
      have e : x ++ y = x := Str.ext' (by rw [Str.cps_append, hz y h2]; simp)
      exact e ▸ h t s K
    · rw [if_neg h2]
      exact ⟨by rw [Str.length_append]; exact hsz, h _ _ (K.tok _ (Nat.succ_pos _))⟩
theorem kBlanks {n : Int} (K : KS s₂ C m s) (h0 : 0 ≤ n) (hn : n ≤ 1000) (h : ∀ t' s', KS s₂ C m s' → Q (.str (blk n.toNat) t') s') : wpAny (model prog w) A (binaryOp .Mult (.str (Str.ofString " ") t) (.int n u)) Q E s := by
  have hl1 : (Str.ofString " ").length = 1 := rfl
  refine P.mul_str (by simp; lia) (fun h1 _ => by rw [hl1]; intro q; have : (2 ^ 63 - 1) / n ≥ 1 := by { apply (Int.le_ediv_iff_mul_le (by lia)).mpr; lia }; lia) (fun _ _ => ?_) ?_
  · unfold Builtin.Str.tooLong; rw [hl1, sizeLine_eq]; simp; lia
  · by_cases h1 : n < 1
    · rw [if_pos h1]
      have e : n.toNat = 0 := by lia
      have := h (s.toks) { s with toks := s.toks + 1 } (K.tok _ (Nat.succ_pos _))
      rw [e] at this
      exact ⟨by decide, this⟩
    · rw [if_neg h1]
      by_cases h2 : (n == 1 || (Str.ofString " ").length == 0) = true
      · rw [if_pos h2]
        have e : n = 1 := by simpa [hl1] using h2
        subst e
        exact h t s K
      · rw [if_neg h2]
        have e : (⟨(List.replicate n.toNat (Str.ofString " ").cps).foldl (· ++ ·) #[]⟩ : Str) = blk n.toNat := by
          rw [show (Str.ofString " ").cps = #[32] from rfl, foldl_rep]; simp [blk]
        rw [e]
        exact ⟨by rw [blk_len, sizeLine_eq]; lia, h _ _ (K.tok _ (Nat.succ_pos _))⟩
/- an if-expression whose test's answer is told -/
theorem kIfE {test body orelse : Expr} {p : Pos} {b : Bool} {I : Shared → Prop} (ht : wpAny (model prog w) A (isTrue test env (eval test env)) (fun b' s' => b' = b ∧ I s') E s) (hT : b = true → ∀ s', I s' → wpAny (model prog w) A (eval body env) Q E s') (hF : b = false → ∀ s', I s' → wpAny (model prog w) A (eval orelse env) Q E s') :
    wpAny (model prog w) A (eval (.IfExp test body orelse p) env) Q E s := by
  refine PyProof.Rows.IfExp_ (wpAny_mono ht (fun b' s' q => ?_) fun _ _ e => e)
  obtain ⟨rfl, q⟩ := q
  cases b'
  · exact hF rfl s' q
  · exact hT rfl s' q
end
theorem relabel_id {scope : Scope} {env : Env} (h : (scope.names.all fun x => x.2 != .free) = true) : relabel scope env = scope := by
  unfold relabel
  have : (scope.names.map fun (n, k) => if (k == NameKind.free && env.scope.kind == .function && env.kindOf n == some .cell) = true then (n, NameKind.cell) else (n, k)) = scope.names := by
    refine (List.map_congr_left fun p hp => ?_).trans (List.map_id _)
    obtain ⟨n, k⟩ := p
    have hk : (k == NameKind.free) = false := by simpa using List.all_eq_true.mp h _ hp
    simp [hk]
  rw [this]
theorem envC {scope : Scope} {env : Env} {L C : Addr} {names : List (Str × NameKind)} (hE : EnvIs env L names) (hf : (scope.names.all fun x => x.2 != .free) = true) (hk : scope.kind = .function) : EnvIs (compEnvC scope [] C env) C scope.names :=
  ⟨by show (relabel scope env).kind = _; rw [relabel_id hf]; exact hk, rfl, hE.gl, hE.bn, by show (relabel scope env).names = _; rw [relabel_id hf]⟩
end Mine
namespace Mine
section
variable {w : World} {z : Shared} {prog : Program} {A : Around} {E : Value → Shared → Prop} {h₀ : Heap} {s : Shared} {L : Addr} {m : Str → Option Value} {news : List Ent} {env : Env} {names : List (Str × NameKind)}
/- the list that a comprehension over a text has made -/
theorem paired_signs {tx : Str} {f : Nat → Str} : ∀ {vs : List Value} {ys : List Value} {k : Nat}, (∀ j v, vs[j]? = some v → SignAt tx (k + j) v) → vs.length + k = tx.cps.size → Paired (fun v y => ∃ c u, v = .str ⟨#[c]⟩ u ∧ ∃ t, y = Value.str (f c) t) vs ys → StrsAre ys ((tx.cps.toList.drop k).map f)
  | [], ys, k, _, hl, hp => by
    cases hp
    rw [List.drop_of_length_le (by simp at hl ⊢; lia)]; exact .nil
  | v :: vs, _, k, hv, hl, hp => by
    cases hp with
    | cons h hp =>
      obtain ⟨c, u, rfl, t, rfl⟩ := h
      refine Mine.e2_2 (hv 0 _ rfl) ?_
      intro c' u' hc e
      cases e
      have hk : tx.cps.toList[k]? = some c := by simpa using hc
      obtain ⟨hk1, hk2⟩ := List.getElem?_eq_some_iff.mp hk
      rw [List.drop_eq_getElem_cons hk1, hk2, List.map_cons]
      refine .cons _ _ (paired_signs (k := k + 1) (fun j v' h => ?_) (by simp at hl ⊢; lia) hp)
      have := hv (j + 1) v' (by simpa using h)
      rwa [show k + (j + 1) = k + 1 + j by lia] at this
theorem St.comp {I D : Addr} {ys : Array Value} {h' : Heap} {tk : Nat} {m' : Str → Option Value} (Dd : St z h₀ L m news s) (hI : s.heap.objs.size ≤ I) (hD : s.heap.get? D = none) (hl : h'.PlainList D ys) (hn : h'.Ns L m') (hk : ∀ b o, b ≠ L → b ∉ [I] → s.heap.get? b = some o → h'.get? b = some o) (htk : 0 < tk) :
    St z h₀ L m' ((D, isLst ys.toList) :: news) { s with heap := h', toks := tk } := by
  have lt : ∀ b o, s.heap.get? b = some o → b ∉ [I] := fun b o e q => by
    have := Heap.lt_size e
    rw [List.mem_singleton.mp q] at this
    exact absurd (Nat.lt_of_lt_of_le this hI) (Nat.lt_irrefl _)
  refine Mine.e3_2 (Dd.led.fr.ns) ?_
  intro oL es ep eL r
  have nL : ∀ b o, h₀.get? b = some o → b ≠ L := fun b o e q => by
    subst q
    exact absurd (Heap.lt_size e) (Nat.not_lt.mpr Dd.led.fr.above)
  refine ⟨⟨⟨hn, fun b o e => hk b o (nL b o e) (lt b o (Dd.keep e)) (Dd.keep e), Dd.led.fr.above⟩, fun p hp => ?_, ?_⟩, Dd.dr, Dd.os, Dd.gb, htk⟩
  · rcases List.mem_cons.mp hp with rfl | hp
    · obtain ⟨n, e⟩ := hl
      refine ⟨⟨_, e, n, by simp⟩, fun q => ?_, ?_⟩
      · have q' : D = L := q
        rw [q', eL] at hD; cases hD
      · cases q : h₀.get? D with
        | none => rfl
        | some o' => have := Dd.keep q; rw [hD] at this; cases this
    · obtain ⟨⟨o', e, q⟩, y⟩ := Dd.led.nw p hp
      exact ⟨⟨o', hk _ _ y.1 (lt _ _ e) e, q⟩, y⟩
  · refine List.Pairwise.cons (fun b hb => ?_) Dd.led.ord
    refine Mine.e1_2 (List.mem_map.mp hb) ?_
    intro p hq zq2
    subst zq2
    refine Mine.e1_2 ((Dd.led.nw p hq).1) ?_
    intro o' e zu3
    intro q
    have q' : D = p.1 := q
    rw [q', e] at hD; cases hD
theorem swapsEq (hE : EnvIs env L names) (v : Expr) (t : Str) (p : Pos) (l : Nat) : swapsWith v (some (.Name t p)) l env = swapsWith v (some (.Name t p)) l (envT names) := by
  unfold swapsWith Env.blockKind Env.kindOf
  rw [hE.kind, hE.nm]
  rfl
theorem xAsgCompS {elt iter : Expr} {x y : Str} {px py : Pos} {scope : Scope} {pos spos : Pos} {rest : List Stmt} {Q : Flow → Shared → Prop} (f : Nat → Str) (D₀ : St z h₀ L m news s) (hh : A.handled = none) (hE : EnvIs env L names)
    (hsw : swapsWith (.ListComp elt [⟨.Name x px, iter, [], 0⟩] scope pos) (some (.Name y py)) spos.line (envT names) = pure true)
    (hfree : (scope.names.all fun x => x.2 != .free) = true) (hcell : (scope.names.all fun x => x.2 != .cell) = true) (hkind : scope.kind = .function) (hnm : (scope.names.all fun y => y.2 != .local || scope.names.lookup y.1 == some .local) = true) (hx : scope.names.lookup x = some .local) (hy : names.lookup y = some .local)
    (h : wpAny (model prog w) A (eval iter env) (fun xv s₁ => ∃ tx t, xv = .str tx t ∧ tx.length ≤ 1000 ∧ St z h₀ L m news s₁ ∧
      (∀ C cenv c u s₃ m₃ E', EnvIs cenv C scope.names → c ∈ tx.cps.toList → KS s₃ C m₃ s₃ → m₃ x = some (.str ⟨#[c]⟩ u) → wpAny (model prog w) A (eval elt cenv) (fun r s₄ => (∃ t, r = .str (f c) t) ∧ KS s₃ C m₃ s₄) E' s₃) ∧
      (∀ D ys s', StrsAre ys (tx.cps.toList.map f) → St z h₀ L (upd m y (.ref D)) ((D, isLst ys) :: news) s' → wpAny (model prog w) A (execs rest env) Q E s')) E s)
    (hs : ∀ x, foldedSetIterable iter env x = pure x) :
    wpAny (model prog w) A (execs (.Assign [.Name y py] (.ListComp elt [⟨.Name x px, iter, [], 0⟩] scope pos) spos :: rest) env) Q E s := by
  have hfree' : ∀ y ∈ scope.names, y.2 ≠ .free := fun y hy => by simpa using List.all_eq_true.mp hfree y hy
  refine wpAny_execs_cons (posTok D₀ (wpAny_Assign_ListComp_free (cl := []) (fun _ => true) (fun v r => ∃ c u, v = .str ⟨#[c]⟩ u ∧ ∃ t, r = Value.str (f c) t) ((swapsEq hE _ _ _ _).trans hsw) (closureFor_none hfree') (fun y hy => by simpa using List.all_eq_true.mp hcell y hy) hkind
    (fun y hy hl => by have := List.all_eq_true.mp hnm y hy; simpa [hl] using this) hx (by rw [Env.kindOf, hE.nm]; exact hy) (by rw [hE.kind]; rfl) (wpAny_mono h (fun xv s₁ h₁ => ?_) fun _ _ e => e) hs))
  refine Mine.E2 h₁ ?_
  try clear h₁
  intro tx t zk15
  refine Mine.e0_5 zk15 ?_
  clear zk15
  intro zq4 hsz D₁ helt hQ
  subst zq4
  have htk : 0 < s₁.toks := D₁.tk
  refine wpAny_pyIter_str fun o Sw W hst => ?_
  refine Mine.I7 s₁.heap.objs.size [s₁.heap.objs.size] [s₁.heap.objs.size] tx.cps.size (SignAt tx) Sw m (Mine.a9 rfl (W A hh) (by rw [sizeLine_eq]; have : tx.length = tx.cps.size := rfl; lia) hst ?_ ?_ ?_ ⟨?_, ?_⟩ ?_)
  · intro b hb
    show b < (s₁.heap.push o).objs.size
    rw [Heap.size_push, List.mem_singleton.mp hb]
    exact Nat.lt_succ_self _
  · rw [hE.loc]
    intro hb
    have := D₁.led.fr.ns.lt
    rw [List.mem_singleton.mp hb] at this
    exact Nat.lt_irrefl _ this
  · rw [hE.loc]
    exact D₁.led.fr.ns.keeps fun b o e => Heap.get?_push_of_some _ e
  · intro C i v s₃ m₃ E' _ _ _ _ _ _
    exact wpAny_pure ⟨rfl, (Mine.i2_2 s₃.heap s₃.toks rfl (fun _ _ e => e))⟩
  · intro C i v s₃ m₃ E' _ hP _ hn hm _ htk3
    refine Mine.e2_2 hP ?_
    try clear hP
    intro c u hc zq5
    subst zq5
    have hmem : c ∈ tx.cps.toList := List.mem_of_getElem? (i := i) (by simpa using hc)
    refine wpAny_mono (helt C _ c u s₃ m₃ E' (envC hE hfree hkind) hmem ⟨⟨s₃.heap, s₃.toks, rfl, fun _ _ e => e⟩, hn, Nat.lt_of_lt_of_le htk htk3⟩ hm) (fun r s₄ q => ⟨⟨c, u, rfl, q.1⟩, q.2.kp⟩) fun _ _ e => e
  · intro D h' tk ys vs hD hl hpl hlen hPv hF hns hk hpos
    have up : ∀ b o', s₁.heap.get? b = some o' → (s₁.heap.push o).get? b = some o' := fun b o' e => Heap.get?_push_of_some _ e
    have hns' : h'.Ns L (upd m y (.ref D)) := by rw [hE.loc] at hns; exact hns
    refine hQ D ys.toList _ ?_ (D₁.comp (Nat.le_refl _) ?_ hpl hns' (fun b o' hb hbw e => hk b o' (by rw [hE.loc]; exact hb) hbw (up b o' e)) hpos)
    · rw [List.filter_eq_self.mpr (fun _ _ => rfl)] at hF
      have := paired_signs (k := 0) (f := f) (by simpa using hPv) (by simpa using hlen) hF
      rwa [List.drop_zero] at this
    · cases q : s₁.heap.get? D with
      | none => rfl
      | some o' => have := up D o' q; rw [hD] at this; cases this
theorem paired_filt {xs : List Str} : ∀ {vs : List Value} {ys : List Value} {k : Nat}, (∀ j v, vs[j]? = some v → ∃ x t, xs[k + j]? = some x ∧ v = .str x t) → vs.length + k = xs.length → Paired (fun v y => y = v) (vs.filter fun v => match v with | .str x _ => x.length != 0 | _ => false) ys → StrsAre ys ((xs.drop k).filter fun x => x.length != 0)
  | [], ys, k, _, hl, hp => by
    cases hp
    rw [List.drop_of_length_le (by simp at hl ⊢; lia)]; exact .nil
  | v :: vs, ys, k, hv, hl, hp => by
    refine Mine.e2_2 (hv 0 _ rfl) ?_
    intro x t hx zq8
    subst zq8
    obtain ⟨hk1, hk2⟩ := List.getElem?_eq_some_iff.mp hx
    have ih : ∀ {ys' : List Value}, Paired (fun v y => y = v) (vs.filter fun v => match v with | .str x _ => x.length != 0 | _ => false) ys' → StrsAre ys' ((xs.drop (k + 1)).filter fun x => x.length != 0) := fun hp' =>
      paired_filt (k := k + 1) (fun j v' h => by
        have := hv (j + 1) v' (by simpa using h)
        rwa [show k + (j + 1) = k + 1 + j by lia] at this) (by simp at hl ⊢; lia) hp'
    simp only [Nat.add_zero] at hk1 hk2
    rw [List.drop_eq_getElem_cons hk1, hk2, List.filter_cons]
    rw [List.filter_cons] at hp
    cases q : (x.length != 0) with
    | true =>
      simp only [q] at hp ⊢
      cases hp with
      | cons h hp => subst h; exact .cons _ _ (ih hp)
    | false =>
      simp only [q] at hp ⊢
      exact ih hp
/- the texts of a list that are not empty -/
theorem rCompF {iter : Expr} {x : Str} {px px' px2 : Pos} {scope : Scope} {pos : Pos} {Q : Value → Shared → Prop} {m₀ : Str → Option Value} {news₀ : List Ent} (D₀ : St z h₀ L m₀ news₀ s) (hh : A.handled = none) (hE : EnvIs env L names)
    (hfree : (scope.names.all fun x => x.2 != .free) = true) (hcell : (scope.names.all fun x => x.2 != .cell) = true) (hkind : scope.kind = .function) (hnm : (scope.names.all fun y => y.2 != .local || scope.names.lookup y.1 == some .local) = true) (hx : scope.names.lookup x = some .local) (hdb : (x == ("__debug__" : Str)) = false)
    (h : wpAny (model prog w) A (eval iter env) (fun xv s₁ => ∃ l vs xs m news, xv = .ref l ∧ vs.length ≤ 20000 ∧ (∀ y ∈ xs, y.length ≤ 20000) ∧ StrsAre vs xs ∧ (l, isLst vs) ∈ news ∧ St z h₀ L m news s₁ ∧
      (∀ D ys s', StrsAre ys (xs.filter fun x => x.length != 0) → St z h₀ L m ((D, isLst ys) :: news) s' → Q (.ref D) s')) E s)
    (hs : ∀ x, foldedSetIterable iter env x = pure x) :
    wpAny (model prog w) A (eval (.ListComp (.Name x px') [⟨.Name x px, iter, [.Name x px2], 0⟩] scope pos) env) Q E s := by
  have hfree' : ∀ y ∈ scope.names, y.2 ≠ .free := fun y hy => by simpa using List.all_eq_true.mp hfree y hy
  refine posTok D₀ (wpAny_ListComp_free (cl := []) (fun v => match v with | .str x _ => x.length != 0 | _ => false) (fun v y => y = v) (closureFor_none hfree') (fun y hy => by simpa using List.all_eq_true.mp hcell y hy) hkind
    (fun y hy hl => by have := List.all_eq_true.mp hnm y hy; simpa [hl] using this) hx (wpAny_mono h (fun xv s₁ h₁ => ?_) fun _ _ e => e) hs)
  refine Mine.E5 h₁ ?_
  try clear h₁
  intro l vs xs m news zk17
  refine Mine.e0_7 zk17 ?_
  clear zk17
  intro zq9 hsz hxl hS hm D₁ hQ
  subst zq9
  have htk : 0 < s₁.toks := D₁.tk
  have hl := (D₁.lst hm).isList
  have hll : l < s₁.heap.objs.size := let ⟨_, e, _⟩ := hl; Heap.lt_size e
  refine wpAny_pyIter_list hl ?_
  have hnew : (s₁.heap.push { cls := .type "list_iterator", data := .fields #[.ref l, .int 0 0] }).IsListIter s₁.heap.objs.size l 0 := ⟨_, Heap.get?_push_size _ rfl, rfl, rfl⟩
  refine Mine.I6 s₁.heap.objs.size [s₁.heap.objs.size, l] [s₁.heap.objs.size] vs.toArray.size (fun i v => vs.toArray[i]? = some v) _ (Mine.a7 rfl (Walks.list hh s₁.heap.objs.size l (Nat.ne_of_lt hll) vs.toArray) ?_ ⟨hnew, let ⟨o, e, r⟩ := hl; ⟨o, Heap.get?_push_of_some _ e, r⟩⟩ ?_ ⟨?_, ?_⟩ ?_)
  · rw [sizeLine_eq]; simp; lia
  · intro b hb
    show b < (s₁.heap.push _).objs.size
    rw [Heap.size_push]
    rcases List.mem_cons.mp hb with h | h
    · rw [h]; exact Nat.lt_succ_self _
    · rw [List.mem_singleton.mp h]; exact Nat.lt_succ_of_lt hll
  · intro C i v s₃ m₃ E' _ hP hn hm _ htk3
    have zh10 := hS.item i v (by simpa using hP)
    refine Mine.e2_2 zh10 ?_
    try clear zh10
    intro y t zq11 hy
    subst zq11
    have hyl := hxl y (List.mem_of_getElem? hy)
    have hE' := envC (C := C) hE hfree hkind
    refine wpAny_bind (wpAny_bind (wpAny_mono (Q := fun ok s₄ => ok = (y.length != 0) ∧ Keeps s₃ s₄) ?_ (fun ok s₄ q => wpAny_pure (wpAny_pure q)) fun _ _ e => e))
    refine PyProof.Rows.isTrue_plain (kNmL ⟨⟨s₃.heap, s₃.toks, rfl, fun _ _ e => e⟩, hn, Nat.lt_of_lt_of_le htk htk3⟩ hE' hx hm ?_ hdb) (by rfl)
    refine P.truthy_str (by lia) ?_
    refine ⟨?_, (Mine.i2_2 _ _ rfl (fun _ _ e => e))⟩
    by_cases q : y.length = 0
    · simp [q]
    · have q' : (y.length : Int) ≠ 0 := by lia
      simp [bne, beq_eq_false_iff_ne.mpr q, beq_eq_false_iff_ne.mpr q']
  · intro C i v s₃ m₃ E' _ hP _ hn hm _ htk3
    have hE' := envC (C := C) hE hfree hkind
    exact kNmL ⟨⟨s₃.heap, s₃.toks, rfl, fun _ _ e => e⟩, hn, Nat.lt_of_lt_of_le htk htk3⟩ hE' hx hm ⟨rfl, s₃.heap, s₃.toks, rfl, fun _ _ e => e⟩ hdb
  · intro D h' tk ys ws hD hl hpl hlen hPv hF hk hpos
    have up : ∀ b o', s₁.heap.get? b = some o' → (s₁.heap.push { cls := .type "list_iterator", data := .fields #[.ref l, .int 0 0] }).get? b = some o' := fun b o' e => Heap.get?_push_of_some _ e
    have nI : ∀ b o', s₁.heap.get? b = some o' → b ∉ [s₁.heap.objs.size] := fun b o' e q => by
      have := Heap.lt_size e
      rw [List.mem_singleton.mp q] at this
      exact Nat.lt_irrefl _ this
    have hns' : h'.Ns L m := D₁.led.fr.ns.at' fun o' e => hk L o' (nI _ _ e) (up _ _ e)
    refine hQ D ys.toList _ ?_ (D₁.comp (Nat.le_refl _) ?_ hpl hns' (fun b o' hb hbw e => hk b o' hbw (up b o' e)) hpos)
    · have hwl : ws.length = vs.length := by simpa using hlen
      have := paired_filt (k := 0) (xs := xs) (fun j v h => by
        have h2 := hPv j v h
        have zh12 := hS.item j v (by simpa using h2)
        refine Mine.e2_2 zh12 ?_
        try clear zh12
        intro y t zq13 hy
        subst zq13
        exact ⟨y, t, by simpa using hy, rfl⟩) (by rw [hwl, Nat.add_zero, hS.length]) hF
      rwa [List.drop_zero] at this
    · cases q : s₁.heap.get? D with
      | none => rfl
      | some o' => have := up D o' q; rw [hD] at this; cases this
end
end Mine
end

section
open PySem PySem.W PySem.W.X PyProof.Rows PySem.Calls
set_option maxRecDepth 100000
namespace Mine
theorem Rep.self {a : Addr} {P : Obj → Prop} : ∀ {l : List Ent}, (a, P) ∈ l → Rep a P P l l := by
  intro l
  induction l with
  | nil => intro h; cases h
  | cons p r ih =>
    intro h
    rcases List.mem_cons.mp h with e | h
    · subst e; exact .head
    · exact .tail (ih h)
end Mine
end

section
open PySem PySem.W PySem.W.X PyProof.Rows PySem.Calls
set_option maxRecDepth 100000
namespace Mine
open PySem.NumText in
set_option maxHeartbeats 4000000 in
theorem gives10 {x : PySem.Str} {u v : Tok} {n : Int} (hl : x.length ≤ 640) (hn : PySem.intText? x = some n) : Gives (Builtin.«int.__new__» ⟨[.type "int", .str x u, .int 10 v], []⟩) (.int n) :=
  .of_wp fun M A E s Q h => by
    obtain ⟨hp, g, d, tk, os⟩ := s
    have f1 := F.conv_sub_int
    have f2 := F.madeHere_int
    have f6 : typeOf (.str x u) = pure (.type "str") := rfl
    have hs : (numSeenOf x).length ≤ 640 := Nat.le_trans (seen_length x) hl
    have hr : (int_private% "readNumeral") 0 10 (numSeenOf x) = (int_private% "Numeral.value") n ∧ ((numSeenOf x).length == (numTextOf x).length) = true := by
      rcases read0 x hs with ⟨m, h1, h2, h3⟩ | ⟨h1, _⟩
      · rw [hn] at h1
        injection h1 with h1
        subst h1
        exact ⟨h3, h2⟩
      · rw [hn] at h1
        cases h1
    have hk := PySem.W.KIN.Hid.mk (And.intro hs hr)
    clear hs hr hl hn
    repeat (any_goals (first
      | assumption
      | ((with_reducible show wpAny _ _ ((int_private% "intFromText") _ _ _) _ _ _); refine PySem.W.KIN.wp_text hk.out.1 hk.out.2.1 hk.out.2.2 ?_)
      | wp_step))
    all_goals first | exact ⟨_, rfl, h⟩ | skip
end Mine
end

section
open PySem PySem.W PySem.W.X PyProof.Rows PySem.Calls
set_option maxRecDepth 100000
namespace Mine
noncomputable def isVE : Obj → Prop := fun o => o.cls = .type "ValueError" ∧ ∃ t, o.data = .fields #[t, .none, .none, .none, .bool false, .none]
section
variable {w : World} {z : Shared} {prog : Program} {A : Around} {E : Value → Shared → Prop} {h₀ : Heap} {s : Shared} {L : Addr} {m : Str → Option Value} {news : List Ent} {x : Str} {t u : Tok} {Q : Value → Shared → Prop}
end
end Mine
namespace Mine
section
variable {w : World} {z : Shared} {prog : Program} {A : Around} {E : Value → Shared → Prop} {h₀ : Heap} {s : Shared} {L : Addr} {m : Str → Option Value} {news : List Ent} {x : Str} {t u : Tok} {Q : Value → Shared → Prop}
theorem rIntOk {n : Int} (D : St z h₀ L m news s) (hn : PySem.intText? x = some n) (hl : x.length ≤ 640) (h : ∀ t' s', St z h₀ L m news s' → Q (.int n t') s') :
    wpAny (model prog w) A (call (.type "int") [.str x t, .int 10 u]) Q E s :=
  callType_new F.called_int F.newNe_int (by kernel_rfl) (by kernel_rfl) (fun obj => PySem.F.args_object_init_3 _ _ _) F.entry_int_new (gives10 hl hn).meets (show (Made.int n).post _ s from ⟨rfl, h _ _ (D.tok _)⟩)
end
end Mine
end

section
open PySem PyProof.Rows
namespace Mine
open Builtin Builtin.Str
/- ## texts as lists: split, join, replace -/
noncomputable def consHd (c : Nat) : List (List Nat) → List (List Nat)
  | [] => [[c]]
  | p :: ps => (c :: p) :: ps
noncomputable def preHd (l : List Nat) : List (List Nat) → List (List Nat)
  | [] => [l]
  | p :: ps => (l ++ p) :: ps
noncomputable def spl (y : List Nat) : Nat → List Nat → List (List Nat)
  | _, [] => [[]]
  | k + 1, _ :: r => spl y k r
  | 0, c :: r => if (c :: r).take y.length = y then [] :: spl y (y.length - 1) r else consHd c (spl y 0 r)
theorem spl_ne (y : List Nat) : ∀ (xs : List Nat) (k : Nat), spl y k xs ≠ []
  | [], _ => by simp [spl]
  | c :: r, k + 1 => by rw [spl]; exact spl_ne y r k
  | c :: r, 0 => by
    rw [spl]; split
    · simp
    · cases h : spl y 0 r with
      | nil => exact absurd h (spl_ne y r 0)
      | cons p ps => simp [consHd]
theorem spl_skip (y : List Nat) : ∀ (k : Nat) (xs : List Nat), spl y k xs = spl y 0 (xs.drop k)
  | 0, xs => by simp
  | k + 1, [] => by simp [spl]
  | k + 1, c :: r => by rw [spl, spl_skip y k r]; simp
theorem spl_hit {y xs : List Nat} (hy : y ≠ []) (h : xs.take y.length = y) : spl y 0 xs = [] :: spl y 0 (xs.drop y.length) := by
  cases xs with
  | nil => simp at h; exact absurd h.symm (by simpa using hy)
  | cons c r =>
    rw [spl, if_pos h, spl_skip]
    have : 0 < y.length := List.length_pos_iff.mpr hy
    obtain ⟨n, e⟩ : ∃ n, y.length = n + 1 := ⟨y.length - 1, by lia⟩
    rw [e]; simp
theorem spl_miss (y : List Nat) : ∀ (n : Nat) (xs : List Nat), n ≤ xs.length → (∀ k, k < n → (xs.drop k).take y.length ≠ y) → spl y 0 xs = preHd (xs.take n) (spl y 0 (xs.drop n))
  | 0, xs, _, _ => by
    cases h : spl y 0 xs with
    | nil => exact absurd h (spl_ne y xs 0)
    | cons p ps => simp [preHd, h]
  | n + 1, [], hn, _ => by simp at hn
  | n + 1, c :: r, hn, hk => by
    rw [spl, if_neg (by simpa using hk 0 (by lia)), spl_miss y n r (by simpa using hn) (fun k h => by simpa using hk (k + 1) (by lia))]
    simp only [List.drop_succ_cons, List.take_succ_cons]
    cases h : spl y 0 (r.drop n) with
    | nil => exact absurd h (spl_ne y _ 0)
    | cons p ps => simp [preHd, consHd]
open StrLaws
theorem at_iff (x y : Str) (k : Nat) (hy : 1 ≤ y.length) : At x y x.length k ↔ (x.cps.toList.drop k).take y.length = y.cps.toList := by
  unfold At
  rw [subAt_eq, beq_iff_eq]
  constructor
  · exact fun h => h.2
  · intro h
    refine ⟨?_, h⟩
    have := congrArg List.length h
    simp only [List.length_take, List.length_drop, Array.length_toList] at this
    have e : x.length = x.cps.size := rfl
    have e2 : y.length = y.cps.size := rfl
    lia
theorem parts_spl (x y : Str) (hy : 1 ≤ y.length) : ∀ (cuts : List Nat) (a f : Nat), ChainG x y x.length a cuts f → (∀ k, f ≤ k → ¬ At x y x.length k) → a ≤ x.length →
    (((a :: cuts.map (· + y.length)).zip (cuts ++ [x.length])).map fun p => (strSub x p.1 p.2).cps.toList) = spl y.cps.toList 0 (x.cps.toList.drop a)
  | [], a, f, h, hn, ha => by
    have e : f = a := h
    subst e
    simp only [List.map_nil, List.nil_append, List.zip_cons_cons, List.zip_nil_left, List.map_cons, List.map_nil]
    have hm := spl_miss y.cps.toList (x.cps.toList.drop f).length (x.cps.toList.drop f) (Nat.le_refl _) (fun k hk => by
      rw [List.drop_drop]
      intro q
      refine hn (f + k) (by lia) ((at_iff x y (f + k) hy).mpr ?_)
      simpa [Str.length] using q)
    rw [hm, List.take_length, List.drop_length]
    simp only [spl, preHd, List.append_nil]
    rw [strSub_toList]
    congr 1
    rw [List.take_of_length_le]
    simp [Str.length]
  | c :: r, a, f, h, hn, ha => by
    refine Mine.e0_4 h ?_
    try clear h
    intro h1 h2 h3 h4
    have hc : c + y.length ≤ x.length := h2.1
    have ih := parts_spl x y hy r (c + y.length) f h4 hn hc
    have hat := (at_iff x y c hy).mp h2
    have yne : y.cps.toList ≠ [] := fun e => by
      have : y.length = 0 := by rw [show y.length = y.cps.toList.length from by simp [Str.length], e]; rfl
      lia
    have ylen : y.cps.toList.length = y.length := by simp [Str.length]
    have hm := spl_miss y.cps.toList (c - a) (x.cps.toList.drop a) (by simp only [List.length_drop, Array.length_toList]; have : x.length = x.cps.size := rfl; lia) (fun k hk => by
      rw [List.drop_drop, ylen]
      exact fun q => h3 (a + k) (by lia) (by lia) ((at_iff x y (a + k) hy).mpr q))
    rw [List.drop_drop, show a + (c - a) = c by lia] at hm
    have hh := spl_hit (xs := x.cps.toList.drop c) yne (by rw [ylen]; exact hat)
    rw [ylen, List.drop_drop] at hh
    rw [hm, hh, ← ih]
    simp only [List.map_cons, List.cons_append, List.zip_cons_cons, preHd, List.append_nil, strSub_toList]
theorem split_spl (x y : Str) (hy : 1 ≤ y.length) (hk : strKind y = 1) : (Txt.split x y).map (·.cps.toList) = spl y.cps.toList 0 x.cps.toList := by
  refine Mine.e1_2 (occ_tight x y hy) ?_
  intro f hc hf
  have key := parts_spl x y hy _ 0 f hc hf (Nat.zero_le _)
  rw [List.drop_zero] at key
  have no : occurrences x y 0 x.length (x.length + 1) = [] → [x.cps.toList] = spl y.cps.toList 0 x.cps.toList := fun e => by
    rw [← key, e]
    simp only [List.map_nil, List.nil_append, List.zip_cons_cons, List.zip_nil_left, List.map_cons, strSub_toList, List.drop_zero, Nat.sub_zero]
    rw [List.take_of_length_le (by simp [Str.length])]
  unfold Txt.split
  split
  · rename_i hq
    simp only [List.map_cons, List.map_nil]
    refine no ?_
    have hlt : x.length < y.length := by
      rw [hk] at hq
      simp only [Bool.or_eq_true, decide_eq_true_eq] at hq
      rcases hq with h | h
      · exact h
      · exfalso
        unfold Builtin.Str.strKind at h
        split at h
        · lia
        · split at h <;> lia
    cases q : occurrences x y 0 x.length (x.length + 1) with
    | nil => rfl
    | cons c r =>
      rw [q] at hc
      have := hc.2.1.1
      lia
  · split
    · rename_i hq
      simp only [List.map_cons, List.map_nil]
      exact no (List.isEmpty_iff.mp hq)
    · rw [← key, partsBetween]
      simp
end Mine
end

section
open PySem PyProof.Rows
namespace Mine
open Builtin Builtin.Str StrLaws
noncomputable def jn (s : List Nat) : List (List Nat) → List Nat
  | [] => []
  | [x] => x
  | x :: y :: r => x ++ s ++ jn s (y :: r)
theorem jn_cons {s x : List Nat} {r : List (List Nat)} (h : r ≠ []) : jn s (x :: r) = x ++ s ++ jn s r := by
  cases r with
  | nil => exact absurd rfl h
  | cons y r => rfl
theorem join_jn (sep : Str) (parts : List Str) : (Txt.join sep parts).cps.toList = jn sep.cps.toList (parts.map (·.cps.toList)) := by
  show (glued sep parts).cps.toList = _
  rw [glued_eq_join]
  induction parts with
  | nil => rfl
  | cons x r ih =>
    cases r with
    | nil => rfl
    | cons y r =>
      rw [List.map_cons, jn_cons (by simp), ← ih]
      show (x ++ sep ++ Str.join sep (y :: r)).cps.toList = _
      simp [Str.cps_append]
theorem jn_nil (l : List (List Nat)) : jn [] l = l.flatten := by
  induction l with
  | nil => rfl
  | cons x r ih =>
    cases r with
    | nil => simp [jn]
    | cons y r => rw [jn_cons (by simp), ih]; simp
theorem replace_jn (x y z : Str) (hy : 1 ≤ y.length) : (Txt.replace x y z).cps.toList = jn z.cps.toList (spl y.cps.toList 0 x.cps.toList) := by
  refine Mine.e1_2 (occ_tight x y hy) ?_
  intro f hc hf
  have key := parts_spl x y hy _ 0 f hc hf (Nat.zero_le _)
  rw [List.drop_zero] at key
  have y0 : (y.length == 0) = false := by simp; lia
  unfold Txt.replace
  rw [y0, Bool.false_and, Bool.or_false]
  split
  · rename_i hq
    rw [List.isEmpty_iff] at hq
    rw [← key, hq]
    simp only [List.map_nil, List.nil_append, List.zip_cons_cons, List.zip_nil_left, List.map_cons, strSub_toList, List.drop_zero, Nat.sub_zero, jn]
    rw [List.take_of_length_le (by simp [Str.length])]
  · have := join_jn z (partsBetween x (occurrences x y 0 x.length (x.length + 1)) y.length)
    refine this.trans ?_
    rw [← key, partsBetween]
    simp only [List.map_map]
    rfl
/- one sign: map, cut -/
theorem spl_one_eq (d c : Nat) (r : List Nat) : spl [d] 0 (c :: r) = if c = d then [] :: spl [d] 0 r else consHd c (spl [d] 0 r) := by
  rw [spl]
  by_cases h : c = d
  · subst h; simp
  · rw [if_neg (by simpa using h), if_neg h]
theorem jn_consHd {s : List Nat} {c : Nat} : ∀ {l : List (List Nat)}, l ≠ [] → jn s (consHd c l) = c :: jn s l
  | [], h => absurd rfl h
  | [p], _ => rfl
  | p :: q :: r, _ => rfl
/- replace of one sign by one sign -/
theorem repl1 (d e : Nat) : ∀ xs : List Nat, jn [e] (spl [d] 0 xs) = xs.map fun c => if c = d then e else c
  | [] => rfl
  | c :: r => by
    rw [spl_one_eq, List.map_cons, ← repl1 d e r]
    by_cases h : c = d
    · rw [if_pos h, if_pos h, jn_cons (spl_ne _ _ _)]; rfl
    · rw [if_neg h, if_neg h, jn_consHd (spl_ne _ _ _)]
/- the word that is passed over -/
noncomputable def unk : List Nat := [117, 110, 107, 110, 111, 119, 110]
noncomputable def rm (xs : List Nat) : List Nat := (spl unk 0 xs).flatten
theorem rm_nil : rm [] = [] := rfl
theorem flat_consHd {c : Nat} : ∀ {l : List (List Nat)}, l ≠ [] → (consHd c l).flatten = c :: l.flatten
  | [], h => absurd rfl h
  | p :: ps, _ => by simp [consHd]
theorem rm_cons (c : Nat) (r : List Nat) : rm (c :: r) = if (c :: r).take 7 = unk then rm (r.drop 6) else c :: rm r := by
  unfold rm
  rw [spl]
  have e : unk.length = 7 := rfl
  rw [e]
  split
  · rw [spl_skip]; simp
  · rw [flat_consHd (spl_ne _ _ _)]
/- a sign that is not of the word parts the text -/
theorem rm_sep {d : Nat} (hd : d ∉ unk) : ∀ (n : Nat) (xs ys : List Nat), xs.length = n → rm (xs ++ d :: ys) = rm xs ++ d :: rm ys := by
  intro n
  induction n using Nat.strongRecOn with
  | ind n ih =>
    intro xs ys hn
    cases xs with
    | nil =>
      rw [List.nil_append, rm_cons, if_neg, rm_nil, List.nil_append]
      intro h
      have : d ∈ (d :: ys).take 7 := by simp
      rw [h] at this
      exact hd this
    | cons c r =>
      simp only [List.length_cons] at hn
      rw [List.cons_append, rm_cons, rm_cons]
      by_cases h : (c :: r).take 7 = unk
      · have hl : 7 ≤ (c :: r).length := by
          have := congrArg List.length h
          simp only [List.length_take] at this
          have e : unk.length = 7 := rfl
          lia
        simp only [List.length_cons] at hl
        have h2 : (c :: (r ++ d :: ys)).take 7 = unk := by
          rw [← List.cons_append, List.take_append_of_le_length (by simpa using hl)]; exact h
        rw [if_pos h, if_pos h2, List.drop_append_of_le_length (by lia)]
        exact ih (r.drop 6).length (by simp; lia) _ _ rfl
      · have h2 : (c :: (r ++ d :: ys)).take 7 ≠ unk := by
          intro q
          by_cases hl : 7 ≤ (c :: r).length
          · rw [← List.cons_append, List.take_append_of_le_length (by simpa using hl)] at q
            exact h q
          · have hm : d ∈ (c :: (r ++ d :: ys)).take 7 := by
              rw [← List.cons_append, List.take_append, List.mem_append]
              refine .inr ?_
              obtain ⟨k, hk⟩ : ∃ k, 7 - (c :: r).length = k + 1 := ⟨7 - (c :: r).length - 1, by lia⟩
              rw [hk]; simp
            rw [q] at hm
            exact hd hm
        rw [if_neg h, if_neg h2, ih r.length (by lia) r ys rfl]; rfl
theorem mem_spl (y : List Nat) : ∀ (xs : List Nat) (k : Nat), ∀ p ∈ spl y k xs, ∀ c ∈ p, c ∈ xs
  | [], k => by intro p hp c hc; simp [spl] at hp; subst hp; exact absurd hc (by simp)
  | a :: r, k + 1 => by intro p hp c hc; rw [spl] at hp; exact .tail _ (mem_spl y r k p hp c hc)
  | a :: r, 0 => by
    intro p hp c hc
    rw [spl] at hp
    split at hp
    · rcases List.mem_cons.mp hp with h | h
      · subst h; exact absurd hc (by simp)
      · exact .tail _ (mem_spl y r _ p h c hc)
    · cases hs : spl y 0 r with
      | nil => exact absurd hs (spl_ne _ _ _)
      | cons q qs =>
        rw [hs] at hp
        simp only [consHd] at hp
        rcases List.mem_cons.mp hp with h | h
        · subst h
          rcases List.mem_cons.mp hc with h | h
          · subst h; exact .head _
          · exact .tail _ (mem_spl y r 0 q (by rw [hs]; exact .head _) c h)
        · exact .tail _ (mem_spl y r 0 p (by rw [hs]; exact .tail _ h) c hc)
theorem mem_rm {xs : List Nat} {c : Nat} (h : c ∈ rm xs) : c ∈ xs := by
  refine Mine.e1_2 (List.mem_flatten.mp h) ?_
  intro p hp hc
  exact mem_spl _ _ _ p hp c hc
theorem len_rm : ∀ (n : Nat) (xs : List Nat), xs.length = n → (rm xs).length ≤ xs.length := by
  intro n
  induction n using Nat.strongRecOn with
  | ind n ih =>
    intro xs hn
    cases xs with
    | nil => simp [rm_nil]
    | cons c r =>
      simp only [List.length_cons] at hn
      rw [rm_cons]
      split
      · have := ih (r.drop 6).length (by simp; lia) _ rfl
        simp at this ⊢; lia
      · have := ih r.length (by lia) r rfl
        simp; exact this
theorem joinsplit_rm (x : Str) : (Txt.join (Str.ofString "") (Txt.split x (Str.ofString "unknown"))).cps.toList = rm x.cps.toList := by
  rw [join_jn, split_spl x _ (by decide +kernel) (by decide +kernel)]
  show jn [] (spl unk 0 x.cps.toList) = _
  rw [jn_nil]; rfl
theorem replace_rm (x : Str) : (Txt.replace x (Str.ofString "unknown") (Str.ofString "")).cps.toList = rm x.cps.toList := by
  rw [replace_jn x _ _ (by decide +kernel)]
  show jn [] (spl unk 0 x.cps.toList) = _
  rw [jn_nil]; rfl
end Mine
end

section
open PySem PyProof.Rows
namespace Mine
open Builtin Builtin.Str StrLaws
noncomputable def stripL (p : Nat → Bool) (xs : List Nat) : List Nat := ((xs.dropWhile p).reverse.dropWhile p).reverse
theorem drop_takeWhile (p : Nat → Bool) : ∀ xs : List Nat, xs.drop (xs.takeWhile p).length = xs.dropWhile p
  | [] => rfl
  | c :: r => by
    by_cases h : p c = true
    · simp [List.takeWhile_cons, List.dropWhile_cons, h, drop_takeWhile p r]
    · simp [List.takeWhile_cons, List.dropWhile_cons, h]
theorem stripBy_L (p : Nat → Bool) (x : Str) : (Txt.stripBy p true true x).cps.toList = stripL p x.cps.toList := by
  rw [stripBy_eq, strSub_toList]
  have e1 : stripLo p true x = (x.cps.toList.takeWhile p).length := by simp only [stripLo, if_true]
  have e2 : stripHi p true x (stripLo p true x) = x.length - ((x.cps.toList.drop (stripLo p true x)).reverse.takeWhile p).length := by simp only [stripHi, if_true]
  rw [e2, e1, drop_takeWhile]
  unfold stripL
  generalize hz : x.cps.toList.dropWhile p = ys
  have hy : ys.length = x.length - (x.cps.toList.takeWhile p).length := by rw [← hz, ← drop_takeWhile]; simp [Str.length]
  rw [← drop_takeWhile p ys.reverse, List.reverse_drop, List.reverse_reverse, List.length_reverse]
  congr 1
  have := takeWhile_len_le p x.cps.toList
  have := takeWhile_len_le p ys.reverse
  simp only [List.length_reverse, Array.length_toList] at *
  have e : x.length = x.cps.size := rfl
  lia
theorem mem_dropWhile {p : Nat → Bool} {c : Nat} {xs : List Nat} (h : c ∈ xs.dropWhile p) : c ∈ xs := (List.dropWhile_sublist p).subset h
theorem mem_stripL {p : Nat → Bool} {c : Nat} {xs : List Nat} (h : c ∈ stripL p xs) : c ∈ xs := by
  unfold stripL at h
  exact mem_dropWhile (List.mem_reverse.mp (mem_dropWhile (List.mem_reverse.mp h)))
theorem len_stripL (p : Nat → Bool) (xs : List Nat) : (stripL p xs).length ≤ xs.length := by
  unfold stripL
  have h1 := (List.dropWhile_sublist p (l := xs)).length_le
  have h2 := (List.dropWhile_sublist p (l := (xs.dropWhile p).reverse)).length_le
  simp only [List.length_reverse] at *
  lia
theorem stripC_L (x : Str) : (Txt.stripChars x (Str.ofString " ")).cps.toList = stripL (· == 32) x.cps.toList := by
  unfold Txt.stripChars
  rw [stripBy_L]
  congr 1
  funext c
  show (#[32] : Array Nat).contains c = _
  simp
  rfl
theorem stripC_len (x : Str) : (Txt.stripChars x (Str.ofString " ")).length ≤ x.length := by
  have h := congrArg List.length (stripC_L x)
  have h2 := len_stripL (· == 32) x.cps.toList
  simp only [Array.length_toList] at h h2
  have e : (Txt.stripChars x (Str.ofString " ")).length = (Txt.stripChars x (Str.ofString " ")).cps.size := rfl
  have e2 : x.length = x.cps.size := rfl
  lia
end Mine
end

section
open PySem PyProof.Rows
namespace Mine
open Builtin Builtin.Str StrLaws
noncomputable def mapc (c : Nat) : Str := if c = 32 then Str.ofString "_" else if c ∈ [47, 92, 58, 59, 34, 40, 41] then Str.ofString "-" else ⟨#[c]⟩
noncomputable def mapn (c : Nat) : Nat := if c = 32 then 95 else if c ∈ [47, 92, 58, 59, 34, 40, 41] then 45 else c
theorem mapc_n (c : Nat) : (mapc c).cps.toList = [mapn c] := by
  unfold mapc mapn
  split
  · rfl
  · split <;> rfl
noncomputable def bodyS (r : Str) : Str := Txt.join (Str.ofString "") (Txt.split (Txt.join (Str.ofString "") ((Txt.stripChars r (Str.ofString " ")).cps.toList.map mapc)) (Str.ofString "unknown"))
noncomputable def bodiesS (rows : List Str) : List Str := (rows.filter fun r => r.length != 0).map bodyS
noncomputable def nameS (rows : List Str) : Str :=
  let pieces := Txt.split (Txt.join (Str.ofString "-") (bodiesS rows)) (Str.ofString "-")
  Txt.join (Str.ofString "-") (pieces.take 1 ++ (pieces.drop 1).filter fun x => x.length != 0)
theorem join_mapc (l : List Nat) : (Txt.join (Str.ofString "") (l.map mapc)).cps.toList = l.map mapn := by
  rw [join_jn]
  show jn [] _ = _
  rw [jn_nil, List.map_map]
  induction l with
  | nil => rfl
  | cons c r ih => rw [List.map_cons, List.flatten_cons, ih, List.map_cons]; simp [mapc_n]
theorem bodyS_L (r : Str) : (bodyS r).cps.toList = rm ((stripL (· == 32) r.cps.toList).map mapn) := by
  unfold bodyS
  rw [joinsplit_rm, join_mapc, stripC_L]
theorem len_toList (x : Str) : x.length = x.cps.toList.length := by simp [Str.length]
theorem join_mapc_len (l : List Nat) : (Txt.join (Str.ofString "") (l.map mapc)).length = l.length := by
  rw [len_toList, join_mapc, List.length_map]
theorem bodyS_len (r : Str) : (bodyS r).length ≤ r.length := by
  rw [len_toList, bodyS_L, len_toList]
  have h1 := len_rm _ ((stripL (· == 32) r.cps.toList).map mapn) rfl
  have h2 := len_stripL (· == 32) r.cps.toList
  rw [List.length_map] at h1
  lia
theorem sum_le {l : List Str} {n : Nat} (h : ∀ x ∈ l, x.length ≤ n) : (l.map (·.length)).sum ≤ l.length * n := by
  induction l with
  | nil => simp
  | cons x r ih =>
    have h1 := h x (.head _)
    have h2 := ih fun y hy => h y (.tail _ hy)
    simp only [List.map_cons, List.sum_cons, List.length_cons, Nat.succ_mul]
    lia
theorem mem_sum {l : List Str} {x : Str} (h : x ∈ l) : x.length ≤ (l.map (·.length)).sum := by
  induction l with
  | nil => cases h
  | cons y r ih =>
    simp only [List.map_cons, List.sum_cons]
    rcases List.mem_cons.mp h with q | q
    · subst q; lia
    · have := ih q; lia
theorem sum_sub {l l' : List Str} (h : l.Sublist l') : (l.map (·.length)).sum ≤ (l'.map (·.length)).sum := by
  induction h with
  | slnil => simp
  | cons a _ ih => simp only [List.map_cons, List.sum_cons]; lia
  | cons_cons a _ ih => simp only [List.map_cons, List.sum_cons]; lia
theorem join_len (sep : Str) (l : List Str) : (Txt.join sep l).length ≤ (l.map (·.length)).sum + l.length * sep.length := by
  have := size_glued sep l
  show (glued sep l).length ≤ _
  rw [this]
  have : (l.length - 1) * sep.length ≤ l.length * sep.length := Nat.mul_le_mul_right _ (by lia)
  lia
theorem spl_sum_len (y : List Nat) : ∀ (xs : List Nat) (k : Nat), ((spl y k xs).map (·.length)).sum + (spl y k xs).length ≤ xs.length + 1
  | [], k => by simp [spl]
  | c :: r, k + 1 => by rw [spl]; have := spl_sum_len y r k; simp; lia
  | c :: r, 0 => by
    rw [spl]
    split
    · have := spl_sum_len y r (y.length - 1); simp; lia
    · have := spl_sum_len y r 0
      cases h : spl y 0 r with
      | nil => exact absurd h (spl_ne _ _ _)
      | cons p ps => rw [h] at this; simp [consHd] at this ⊢; lia
theorem split_sum_len (x : Str) : ((Txt.split x (Str.ofString "-")).map (·.length)).sum + (Txt.split x (Str.ofString "-")).length ≤ x.length + 1 := by
  have h := split_spl x (Str.ofString "-") (by decide +kernel) (by decide +kernel)
  have h2 := spl_sum_len (Str.ofString "-").cps.toList x.cps.toList 0
  rw [← h, List.length_map, List.map_map, ← len_toList] at h2
  have e : (List.length ∘ fun x : Str => x.cps.toList) = fun x : Str => x.length := by funext x; simp [Str.length]
  rw [e] at h2
  exact h2
end Mine
end

section
open PySem PyProof.Rows
namespace Mine
open Builtin Builtin.Str StrLaws
/- two hyphens to one, once through -/
noncomputable def dd (xs : List Nat) : List Nat := jn [45] (spl [45, 45] 0 xs)
/- of hyphens in a row one -/
noncomputable def sq : List Nat → List Nat
  | [] => []
  | c :: r => if c = 45 ∧ r.head? = some 45 then sq r else c :: sq r
/- no hyphen at the end -/
noncomputable def rs (xs : List Nat) : List Nat := (xs.reverse.dropWhile (· == 45)).reverse
theorem dd_nil : dd [] = [] := rfl
theorem dd_two (r : List Nat) : dd (45 :: 45 :: r) = 45 :: dd r := by
  unfold dd
  rw [spl_hit (by simp) (by simp)]
  rw [jn_cons (spl_ne _ _ _)]
  simp
theorem dd_one {c : Nat} {r : List Nat} (h : ¬ (c = 45 ∧ r.head? = some 45)) : dd (c :: r) = c :: dd r := by
  unfold dd
  rw [spl, if_neg, jn_consHd (spl_ne _ _ _)]
  intro q
  apply h
  cases r with
  | nil => simp at q
  | cons d r => simp at q; exact ⟨q.1, by simp [q.2]⟩
theorem dd_len : ∀ (n : Nat) (xs : List Nat), xs.length = n → (dd xs).length ≤ n := by
  intro n
  induction n using Nat.strongRecOn with
  | ind n ih =>
    intro xs hn
    match xs with
    | [] => simp [dd_nil]
    | c :: r =>
      by_cases h : c = 45 ∧ r.head? = some 45
      · obtain ⟨rfl, h2⟩ := h
        cases r with
        | nil => simp at h2
        | cons d r =>
          simp at h2; subst h2
          rw [dd_two]
          have := ih r.length (by simp at hn; lia) r rfl
          simp at hn ⊢; lia
      · rw [dd_one h]
        have := ih r.length (by simp at hn; lia) r rfl
        simp at hn ⊢; lia
theorem dd_fix : ∀ (n : Nat) (xs : List Nat), xs.length = n → dd xs = xs ∨ (dd xs).length < n := by
  intro n
  induction n using Nat.strongRecOn with
  | ind n ih =>
    intro xs hn
    match xs with
    | [] => exact .inl rfl
    | c :: r =>
      by_cases h : c = 45 ∧ r.head? = some 45
      · obtain ⟨rfl, h2⟩ := h
        cases r with
        | nil => simp at h2
        | cons d r =>
          simp at h2; subst h2
          rw [dd_two]
          have := dd_len r.length r rfl
          simp at hn ⊢; lia
      · rw [dd_one h]
        rcases ih r.length (by simp at hn; lia) r rfl with q | q
        · left; rw [q]
        · right; simp at hn ⊢; lia
theorem sq_two (r : List Nat) : sq (45 :: 45 :: r) = sq (45 :: r) := by rw [sq]; simp
theorem sq_one {c : Nat} {r : List Nat} (h : ¬ (c = 45 ∧ r.head? = some 45)) : sq (c :: r) = c :: sq r := by rw [sq, if_neg h]
theorem dd_head (xs : List Nat) : (dd xs).head? = xs.head? := by
  cases xs with
  | nil => rfl
  | cons c r =>
    by_cases h : c = 45 ∧ r.head? = some 45
    · obtain ⟨rfl, h2⟩ := h
      cases r with
      | nil => simp at h2
      | cons d r => simp at h2; subst h2; rw [dd_two]; rfl
    · rw [dd_one h]; rfl
/- one hyphen ahead -/
theorem sq_hy (r : List Nat) : sq (45 :: r) = 45 :: sq (r.dropWhile (· == 45)) := by
  induction r with
  | nil => simp [sq]
  | cons c r ih =>
    by_cases h : c = 45
    · subst h
      rw [sq_two, ih]; simp
    · rw [sq_one (by simp [h])]; simp [h]
theorem sq_dd : ∀ (n : Nat) (xs : List Nat), xs.length = n → sq (dd xs) = sq xs := by
  intro n
  induction n using Nat.strongRecOn with
  | ind n ih =>
    intro xs hn
    match xs with
    | [] => rfl
    | c :: r =>
      by_cases h : c = 45 ∧ r.head? = some 45
      · obtain ⟨rfl, h2⟩ := h
        cases r with
        | nil => simp at h2
        | cons d r =>
          simp at h2; subst h2
          rw [dd_two, sq_two]
          -- a hyphen, then what is left of r
          have hlen : r.length < n := by simp at hn; lia
          by_cases hr : r.head? = some 45
          · cases r with
            | nil => simp at hr
            | cons e r =>
              simp at hr; subst hr
              have h1 : (dd (45 :: r)).head? = some 45 := by rw [dd_head]; rfl
              have e1 : sq (45 :: dd (45 :: r)) = sq (dd (45 :: r)) := by
                rw [sq, if_pos ⟨rfl, h1⟩]
              rw [e1, ih (45 :: r).length hlen (45 :: r) rfl, sq_two]
          · have h1 : ¬ (45 = 45 ∧ (dd r).head? = some 45) := by rw [dd_head]; simp [hr]
            rw [sq_one h1, sq_one (by simp [hr]), ih r.length hlen r rfl]
      · rw [dd_one h, sq_one h]
        have h1 : ¬ (c = 45 ∧ (dd r).head? = some 45) := by rw [dd_head]; exact h
        rw [sq_one h1, ih r.length (by simp at hn; lia) r rfl]
theorem sq_fix : ∀ (n : Nat) (xs : List Nat), xs.length = n → dd xs = xs → sq xs = xs := by
  intro n
  induction n using Nat.strongRecOn with
  | ind n ih =>
    intro xs hn he
    match xs with
    | [] => rfl
    | c :: r =>
      by_cases h : c = 45 ∧ r.head? = some 45
      · obtain ⟨rfl, h2⟩ := h
        cases r with
        | nil => simp at h2
        | cons d r =>
          simp at h2; subst h2
          rw [dd_two] at he
          have := dd_len r.length r rfl
          have h3 := congrArg List.length he
          simp at h3; lia
      · rw [dd_one h] at he
        rw [sq_one h, ih r.length (by simp at hn; lia) r rfl (List.cons.inj he).2]
theorem rs_hy (xs : List Nat) : rs (xs ++ [45]) = rs xs := by simp [rs]
theorem rs_end {c : Nat} (xs : List Nat) (h : c ≠ 45) : rs (xs ++ [c]) = xs ++ [c] := by simp [rs, h]
/- the law's way: cut at hyphens -/
theorem spl1_hy (r : List Nat) : spl [45] 0 (45 :: r) = [] :: spl [45] 0 r := by rw [spl_one_eq, if_pos rfl]
theorem spl1_ne {c : Nat} (r : List Nat) (h : c ≠ 45) : spl [45] 0 (c :: r) = consHd c (spl [45] 0 r) := by rw [spl_one_eq, if_neg h]
noncomputable def keepL (l : List (List Nat)) : List (List Nat) := l.take 1 ++ (l.drop 1).filter fun x => x.length != 0
noncomputable def nmL (xs : List Nat) : List Nat := jn [45] (keepL (spl [45] 0 xs))
/- all pieces that hold something, each with a hyphen ahead -/
noncomputable def tailL (l : List (List Nat)) : List Nat := (l.filter fun x => x.length != 0).flatMap fun x => 45 :: x
theorem jn_tail (x : List Nat) (l : List (List Nat)) : jn [45] (x :: l) = x ++ l.flatMap fun y => 45 :: y := by
  induction l generalizing x with
  | nil => simp [jn]
  | cons y l ih => rw [jn_cons (by simp), ih]; simp
theorem nmL_eq (xs : List Nat) : nmL xs = (spl [45] 0 xs).headD [] ++ tailL ((spl [45] 0 xs).drop 1) := by
  unfold nmL keepL tailL
  cases h : spl [45] 0 xs with
  | nil => exact absurd h (spl_ne _ _ _)
  | cons p l => simp [jn_tail]
theorem rs_cons {c : Nat} (h : c ≠ 45) (xs : List Nat) : rs (c :: xs) = c :: rs xs := by
  unfold rs
  rw [List.reverse_cons, List.dropWhile_append]
  split
  · rename_i q
    have : List.dropWhile (fun x => x == 45) xs.reverse = [] := by simpa using q
    simp [this, h]
  · simp
theorem rs_hyc (xs : List Nat) : rs (45 :: xs) = if rs xs = [] then [] else 45 :: rs xs := by
  unfold rs
  rw [List.reverse_cons, List.dropWhile_append]
  split
  · rename_i q
    have : List.dropWhile (fun x => x == 45) xs.reverse = [] := by simpa using q
    simp [this]
  · rename_i q
    have : List.dropWhile (fun x => x == 45) xs.reverse ≠ [] := by simpa using q
    simp [this]
/- behind a hyphen -/
theorem tail_spl : ∀ (n : Nat) (xs : List Nat), xs.length = n → tailL (spl [45] 0 xs) = rs (45 :: sq (xs.dropWhile (· == 45))) := by
  intro n
  induction n using Nat.strongRecOn with
  | ind n ih =>
    intro xs hn
    -- what stands behind the first piece, for any list
    have fst : ∀ m < n, ∀ ys : List Nat, ys.length = m → (spl [45] 0 ys).headD [] ++ tailL ((spl [45] 0 ys).drop 1) = rs (sq ys) := by
      intro m
      induction m with
      | zero =>
        intro _ ys h0
        have : ys = [] := List.eq_nil_of_length_eq_zero h0
        subst this; rfl
      | succ m ihm =>
        intro hm ys h0
        match ys with
        | [] => simp at h0
        | c :: r =>
          have hr : r.length = m := by simpa using h0
          by_cases h : c = 45
          · subst h
            rw [spl1_hy, sq_hy]
            simp only [List.headD_cons, List.nil_append, List.drop_succ_cons, List.drop_zero]
            exact ih r.length (by lia) r rfl
          · rw [spl1_ne r h, sq_one (by simp [h]), rs_cons h, ← ihm (by lia) r hr]
            cases hs : spl [45] 0 r with
            | nil => exact absurd hs (spl_ne _ _ _)
            | cons p l => simp [consHd]
    match xs with
    | [] => simp [spl, tailL, sq, rs]
    | c :: r =>
      by_cases h : c = 45
      · subst h
        rw [spl1_hy]
        have e : tailL ([] :: spl [45] 0 r) = tailL (spl [45] 0 r) := by simp [tailL]
        rw [e, ih r.length (by simp at hn; lia) r rfl]
        simp
      · have hd : (c :: r).dropWhile (· == 45) = c :: r := by simp [h]
        rw [hd, sq_one (by simp [h]), rs_hyc, rs_cons h, if_neg (by simp), ← fst r.length (by simp at hn; lia) r rfl, spl1_ne r h]
        cases hs : spl [45] 0 r with
        | nil => exact absurd hs (spl_ne _ _ _)
        | cons p l => simp [consHd, tailL]
theorem nm_sq : ∀ (xs : List Nat), nmL xs = rs (sq xs) := by
  intro xs
  rw [nmL_eq]
  induction xs with
  | nil => rfl
  | cons c r ih =>
    by_cases h : c = 45
    · subst h
      rw [spl1_hy, sq_hy]
      simp only [List.headD_cons, List.nil_append, List.drop_succ_cons, List.drop_zero]
      exact tail_spl r.length r rfl
    · rw [spl1_ne r h, sq_one (by simp [h]), rs_cons h, ← ih]
      cases hs : spl [45] 0 r with
      | nil => exact absurd hs (spl_ne _ _ _)
      | cons p l => simp [consHd]
end Mine
end

section
open PySem PyProof.Rows
namespace Mine
open Builtin Builtin.Str StrLaws
theorem keepS_L (l : List Str) : (l.take 1 ++ (l.drop 1).filter fun x => x.length != 0).map (·.cps.toList) = keepL (l.map (·.cps.toList)) := by
  unfold keepL
  rw [List.map_append, List.map_take, ← List.map_drop, List.filter_map]
  congr 2
theorem nameS_L (rows : List Str) : (nameS rows).cps.toList = nmL (jn [45] ((bodiesS rows).map (·.cps.toList))) := by
  unfold nameS
  rw [join_jn, keepS_L, split_spl _ _ (by decide +kernel) (by decide +kernel), join_jn]
  rfl
noncomputable def platL (rows : List Str) : List Nat := rs (sq (rm ((jn [45] ((rows.filter fun r => r.length != 0).map fun r => stripL Unicode.isSpace r.cps.toList)).map mapn)))
theorem map_jn (f : Nat → Nat) (s : List Nat) : ∀ l : List (List Nat), (jn s l).map f = jn (s.map f) (l.map (·.map f))
  | [] => rfl
  | [x] => rfl
  | x :: y :: r => by
    have ih := map_jn f s (y :: r)
    rw [jn, List.map_append, List.map_append, ih]; rfl
theorem rm_jn : ∀ l : List (List Nat), rm (jn [45] l) = jn [45] (l.map rm)
  | [] => rfl
  | [x] => rfl
  | x :: y :: r => by
    have ih := rm_jn (y :: r)
    rw [jn, List.append_assoc]
    show rm (x ++ 45 :: jn [45] (y :: r)) = _
    rw [rm_sep (by decide) x.length x _ rfl, ih]
    simp [jn]
theorem stripL_congr {p q : Nat → Bool} {xs : List Nat} (h : ∀ c ∈ xs, p c = q c) : stripL p xs = stripL q xs := by
  have dw : ∀ ys : List Nat, (∀ c ∈ ys, p c = q c) → ys.dropWhile p = ys.dropWhile q := fun ys => by
    induction ys with
    | nil => intro _; rfl
    | cons c r ih =>
      intro hh
      rw [List.dropWhile_cons, List.dropWhile_cons, hh c (.head _)]
      split
      · exact ih fun d hd => hh d (.tail _ hd)
      · rfl
  unfold stripL
  rw [dw xs h]
  congr 1
  exact dw _ fun c hc => h c (mem_dropWhile (List.mem_reverse.mp hc))
theorem plat_name {rows : List Str} (h : ∀ r ∈ rows, ∀ c ∈ r.cps.toList, Unicode.isSpace c = (c == 32)) : platL rows = (nameS rows).cps.toList := by
  rw [nameS_L, nm_sq]
  unfold platL
  congr 2
  rw [map_jn, show ([45] : List Nat).map mapn = [45] from rfl, rm_jn]
  congr 1
  unfold bodiesS
  simp only [List.map_map]
  refine List.map_congr_left fun r hr => ?_
  show rm ((stripL Unicode.isSpace r.cps.toList).map mapn) = (bodyS r).cps.toList
  rw [bodyS_L, stripL_congr (h r (List.mem_filter.mp hr).1)]
/- one replacement after the other -/
noncomputable def rp (d e : Nat) (c : Nat) : Nat := if c = d then e else c
theorem rp_ne {d e c : Nat} (h : c ≠ d) : rp d e c = c := if_neg h
theorem rp_all (xs : List Nat) : ((((((((xs.map (rp 32 95)).map (rp 47 45)).map (rp 92 45)).map (rp 58 45)).map (rp 59 45)).map (rp 34 45)).map (rp 40 45)).map (rp 41 45)) = xs.map mapn := by
  simp only [List.map_map]
  refine List.map_congr_left fun c _ => ?_
  simp only [Function.comp]
  by_cases h1 : c = 32
  · subst h1; rfl
  · by_cases h : c ∈ [47, 92, 58, 59, 34, 40, 41]
    · simp only [List.mem_cons, List.not_mem_nil, or_false] at h
      rcases h with rfl | rfl | rfl | rfl | rfl | rfl | rfl <;> rfl
    · have hm : mapn c = c := by unfold mapn; rw [if_neg h1, if_neg h]
      simp only [List.mem_cons, List.not_mem_nil, or_false, not_or] at h
      refine Mine.e0_7 h ?_
      try clear h
      intro a b c1 d e f g
      rw [hm, rp_ne h1, rp_ne a, rp_ne b, rp_ne c1, rp_ne d, rp_ne e, rp_ne f, rp_ne g]
theorem repl_c (x : Str) (d e : Nat) : (Txt.replace x ⟨#[d]⟩ ⟨#[e]⟩).cps.toList = x.cps.toList.map (rp d e) := by
  rw [replace_jn _ _ _ (by simp [Str.length])]
  exact repl1 d e x.cps.toList
theorem repl_dd (x : Str) : (Txt.replace x (Str.ofString "--") (Str.ofString "-")).cps.toList = dd x.cps.toList := by
  rw [replace_jn _ _ _ (by decide +kernel)]
  rfl
end Mine
end

section
open PySem PySem.W PySem.W.X PyProof.Rows PySem.Calls
namespace Mine
open PySem.NumText
noncomputable def numL (cs : List Nat) : Int := cs.foldl (fun (n : Int) (c : Nat) => n * 10 + ((c : Int) - 48)) 0
theorem core_of {t : List Nat} (h : ∀ c ∈ t, 33 ≤ c ∧ c ≠ 45 ∧ c ≠ 43) : core t = t ∧ sign (t.dropWhile blank) = (false, t) := by
  have e1 : ∀ l : List Nat, (∀ c ∈ l, 33 ≤ c) → l.dropWhile blank = l := by
    intro l hl
    cases l with
    | nil => rfl
    | cons c cs => exact dropWhile_of (hl c (.head _))
  have e2 : sign t = (false, t) := by
    cases t with
    | nil => rfl
    | cons c cs => exact sign_of (h c (.head _)).2.1 (h c (.head _)).2.2
  have e3 := e1 t fun c hc => (h c hc).1
  refine ⟨?_, by rw [e3, e2]⟩
  unfold core
  rw [e3, e2, e1 t.reverse fun c hc => (h c (List.mem_reverse.mp hc)).1, List.reverse_reverse]
theorem seen_of {x : Str} (h : ∀ c ∈ x.cps.toList, 33 ≤ c ∧ c < 128) : numTextOf x = x.cps.toList ∧ numSeenOf x = x.cps.toList := by
  have e1 : numTextOf x = x.cps.toList := by
    refine if_pos ?_
    rw [← Array.all_toList, List.all_eq_true]
    intro c hc
    exact decide_eq_true (h c hc).2
  refine ⟨e1, ?_⟩
  show (numTextOf x).takeWhile _ = _
  rw [e1]
  refine NumText.takeWhile_all fun c hc => ?_
  have := h c hc
  exact bne_iff_ne.mpr (by lia)
theorem numL_val : ∀ (cs : List Nat) (n : Nat), (∀ c ∈ cs, 48 ≤ c) → cs.foldl (fun (n : Int) (c : Nat) => n * 10 + ((c : Int) - 48)) (n : Int) = ((cs.foldl (fun acc c => acc * 10 + (c - 48)) n : Nat) : Int)
  | [], n, _ => rfl
  | c :: cs, n, h => by
    rw [List.foldl_cons, List.foldl_cons, ← numL_val cs _ fun d hd => h d (.tail _ hd)]
    congr 1
    have := h c (.head _)
    lia
theorem intText_dg {x : Str} (hne : x.cps.toList ≠ []) (h : ∀ c ∈ x.cps.toList, 48 ≤ c ∧ c ≤ 57) (hl : x.length ≤ 640) : PySem.intText? x = some (numL x.cps.toList) := by
  rw [intText_of fun c hc => .inr (h c hc)]
  obtain ⟨e1, e2⟩ := core_of (t := x.cps.toList) fun c hc => by have := h c hc; lia
  rw [e1, e2, digits_of h hne]
  dsimp only
  have hz : (x.cps.toList.foldl (fun acc c => acc.push (c - 48)) #[]).size ≤ 4300 := by
    rw [push_size]
    simp
    have : x.length = x.cps.size := rfl
    lia
  rw [if_pos hz]
  congr 1
  unfold worth
  rw [if_neg Bool.false_ne_true, push_foldl]
  exact (numL_val _ 0 fun c hc => (h c hc).1).symm
theorem digits_let {x : Str} (hne : x.cps.toList ≠ []) (h : ∀ c ∈ x.cps.toList, 65 ≤ c ∧ c < 128) : digits? 10 (core (numSeenOf x)) = none := by
  rw [(seen_of fun c hc => by have := h c hc; lia).2, (core_of fun c hc => by have := h c hc; lia).1]
  cases hx : x.cps.toList with
  | nil => exact absurd hx hne
  | cons c cs =>
    have hc := h c (by rw [hx]; exact .head _)
    have hs : NumText.step 10 ((#[] : Array Nat), false) c = none := by
      unfold NumText.step digit?
      by_cases h95 : c = 95
      · subst h95; rfl
      · have q : (c == 95) = false := by simpa using h95
        rw [q, if_neg Bool.false_ne_true]
        have q1 : (decide (48 ≤ c) && decide (c ≤ 57)) = false := by simp; lia
        rw [q1, if_neg Bool.false_ne_true]
        by_cases q2 : (decide (97 ≤ c) && decide (c ≤ 122)) = true
        · rw [if_pos q2]
          simp only [Bool.and_eq_true, decide_eq_true_eq] at q2
          show (if c - 87 < 10 then _ else _) = _
          rw [if_neg (by lia)]
        · rw [if_neg q2]
          by_cases q3 : (decide (65 ≤ c) && decide (c ≤ 90)) = true
          · rw [if_pos q3]
            simp only [Bool.and_eq_true, decide_eq_true_eq] at q3
            show (if c - 55 < 10 then _ else _) = _
            rw [if_neg (by lia)]
          · rw [if_neg q3]
    unfold digits?
    rw [List.foldlM_cons, hs]
    rfl
end Mine
end

section
open PySem PySem.W PySem.W.X PyProof.Rows PySem.Calls
set_option maxRecDepth 100000
namespace Mine
/- a namespace, whatever its slots -/
noncomputable def isNs (m : Str → Option Value) : Obj → Prop := fun o => ∃ es ep, o.data = .dict es ep ∧ StrKeys es ∧ ∀ x, nsFind es x = m x
theorem St.perm {z : Shared} {h₀ : Heap} {L : Addr} {m : Str → Option Value} {news news' : List Ent} {s : Shared} (D : St z h₀ L m news s) (p : news.Perm news') : St z h₀ L m news' s :=
  ⟨⟨D.led.fr, fun q hq => D.led.nw q (p.mem_iff.mpr hq), (List.Perm.pairwise_iff (fun h => Ne.symm h) (p.map _)).mp D.led.ord⟩, D.dr, D.os, D.gb, D.tk⟩
section
variable {w : World} {z : Shared} {prog : Program} {A : Around} {E : Value → Shared → Prop} {h₀ : Heap} {s : Shared} {L : Addr} {m : Str → Option Value} {news : List Ent}
end
end Mine
end

section
open PySem PySem.W PySem.W.X PyProof.Rows PySem.Calls
set_option maxRecDepth 100000
namespace Mine
theorem uniq_of {a : Addr} {P P' : Obj → Prop} : ∀ {l : List Ent}, (l.map (·.1)).Pairwise (· ≠ ·) → (a, P) ∈ l → (a, P') ∈ l → P' = P
  | p :: l, ho, h1, h2 => by
    have hp := (List.pairwise_cons.mp ho).1
    have hin : ∀ {R : Obj → Prop}, (a, R) ∈ l → a ∈ l.map (·.1) := fun {R} q => List.mem_map_of_mem (f := fun x : Ent => x.1) q
    rcases List.mem_cons.mp h1 with e1 | k1
    · rcases List.mem_cons.mp h2 with e2 | k2
      · rw [← e1] at e2; cases e2; rfl
      · exact absurd (by rw [← e1]) (hp a (hin k2))
    · rcases List.mem_cons.mp h2 with e2 | k2
      · exact absurd (by rw [← e2]) (hp a (hin k1))
      · exact uniq_of (List.pairwise_cons.mp ho).2 k1 k2
section
variable {w : World} {z : Shared} {prog : Program} {A : Around} {E : Value → Shared → Prop} {g : Heap} {s : Shared} {L L₀ e : Addr} {m m₀ : Str → Option Value} {news : List Ent} {env envL : Env}
/- all but the two frames and the exception -/
noncomputable abbrev restOf (h : Heap) (L L₀ e : Addr) : Heap := hideAll h [L, L₀, e]
theorem St.noted {P : Obj → Prop} (D : St z g L m ((e, P) :: news) s) (h0 : (L₀, isNs m₀) ∈ news) {h' : Heap} (hb : (restOf s.heap L L₀ e).StaysIn h') (hu : ∀ b o, s.heap.get? b = some o → (∀ vs, o.data ≠ .fields vs) → ∃ sl, h'.get? b = some { o with slots := sl }) :
    St z g L m news { s with heap := h' } := by
  have ho := D.led.ord
  have ne : ∀ p ∈ news, p.1 ≠ e := fun p hp => Ne.symm ((List.pairwise_cons.mp ho).1 p.1 (List.mem_map_of_mem hp))
  have he := D.led.nw _ (.head _)
  have hL₀ := D.led.nw _ (.tail _ h0)
  have inB : ∀ b o, b ≠ L → b ≠ L₀ → b ≠ e → s.heap.get? b = some o → h'.get? b = some o := fun b o h1 h2 h3 q => hb b o (hideAll_get _ q (by simp [h1, h2, h3]))
  have hu' : s.heap.UpToSlots h' := hu
  refine ⟨⟨⟨hu'.ns D.led.fr.ns, fun b o q => inB b o ?_ ?_ ?_ (D.keep q), D.led.fr.above⟩, fun p hp => ⟨?_, (D.led.nw p (.tail _ hp)).2⟩, (List.pairwise_cons.mp ho).2⟩, D.dr, D.os, D.gb, D.tk⟩
  · intro q'; subst q'; exact absurd (Heap.lt_size q) (Nat.not_lt.mpr D.led.fr.above)
  · intro q'; subst q'; rw [hL₀.2.2] at q; cases q
  · intro q'; subst q'; rw [he.2.2] at q; cases q
  · refine Mine.e0_3 (D.led.nw p (.tail _ hp)) ?_
    intro zn1 hne zu2
    refine Mine.e1_2 zn1 ?_
    try clear zn1
    intro o eo po
    by_cases hp0 : p.1 = L₀
    · obtain ⟨pa, pP⟩ := p
      have hpa : pa = L₀ := hp0
      subst hpa
      have hP : pP = isNs m₀ := uniq_of (List.pairwise_cons.mp ho).2 h0 hp
      subst hP
      refine Mine.e2_3 po ?_
      try clear po
      intro es ep d1 d2 d3
      obtain ⟨sl, hs⟩ := hu _ o eo (fun vs q => by rw [d1] at q; cases q)
      exact ⟨_, hs, (Mine.i2_3 es ep d1 d2 d3)⟩
    · exact ⟨o, inB p.1 o hne hp0 (ne p hp) eo, po⟩
theorem rCaught {x : Str} {np pos : Pos} {b₀ : Stmt} {suite : List Stmt} {rest : List ExceptHandler} {names : List (Str × NameKind)} {Q : Flow → Shared → Prop} (hfr : A.frames = some [env, envL]) (hE : EnvIs env L names) (hf : env.frame = some L) (hfL : envL.frame = some L₀) (hkL : envL.scope.kind ≠ .module)
    (D : St z g L m ((e, isVE) :: news) s) (h0 : (L₀, isNs m₀) ∈ news)
    (hname : ∀ s', St z g L m news s' → wpAny (model prog w) (A.mark (some (.ref e))) (eval (.Name x np) env) (fun c s₁ => c = .type "ValueError" ∧ s₁ = s') (fun _ _ => False) s')
    (k : ∀ s', St z g L m news s' → wpAny (model prog w) (A.mark (some (.ref e))) (execs (b₀ :: suite) env) Q (fun _ _ => False) s') :
    wpAny (model prog w) A (noteFrame (.ref e) env) (fun _ s₂ => wpAny (model prog w) A (setFlight (.ref e) none) (fun _ s₃ =>
      wpAny (model prog w) A (handleBy (.ref e) env (.ExceptHandler (some (.Name x np)) none (b₀ :: suite) pos :: rest)) Q E s₃) E s₂) E s := by
  refine Mine.e0_3 (D.led.nw _ (.head _)) ?_
  intro zn3 hneL hge
  obtain ⟨oe, he, hcls, te, hde⟩ := zn3
  refine Mine.e0_3 (D.led.nw _ (.tail _ h0)) ?_
  intro zn4 hne₀ hg₀
  obtain ⟨oL₀, hL₀, es₀, ep₀, d₀, _⟩ := zn4
  refine Mine.e3_3 (D.led.fr.ns) ?_
  intro oL es ep hL hLd zu5
  have hb : (restOf s.heap L L₀ e).StaysIn s.heap := fun b o q => of_hideAll _ q
  have hben : (restOf s.heap L L₀ e).get? e = none := hideAll_none _ (by simp)
  have hFF : s.heap.FunFrames (restOf s.heap L L₀ e) [env, envL] :=
    ⟨(by rw [hE.kind]; intro q; cases q), ⟨L, oL, hf, hideAll_none _ (by simp), hL, fun vs q => by rw [hLd] at q; cases q⟩, hkL, ⟨L₀, oL₀, hfL, hideAll_none _ (by simp), hL₀, fun vs q => by rw [d₀] at q; cases q⟩, trivial⟩
  unfold noteFrame
  simp only [hf]
  refine wpAny_bind (wpAny_field he hde rfl ?_)
  rw [if_neg (by simp)]
  refine wpAny_entryW (base := restOf s.heap L L₀ e) (vs := #[te, .none, .none, .none, .bool false, .none]) (a0 := te) hfr hFF hf he hb hben hde (by simp) rfl fun h₁ hN₁ => ?_
  refine Mine.e0_4 hN₁ ?_
  try clear hN₁
  intro n1 n2 n3 n4
  refine wpAny_setFlight_noneW (base := restOf s.heap L L₀ e) n1 n2 n3 fun h₂ m1 m2 m3 m4 => ?_
  have hu₂ : ∀ b o, s.heap.get? b = some o → (∀ vs, o.data ≠ .fields vs) → ∃ sl, h₂.get? b = some { o with slots := sl } := fun b o q hn => by
    obtain ⟨sl, hs⟩ := n4 b o q hn
    exact ⟨sl, m4 b _ hs hn⟩
  have D₂ := D.noted h0 m1 hu₂
  refine wpAny_handleBy_builtin (X := "ValueError") (T := "ValueError") (b := true) (by rw [isSubtype_type]; kernel_rfl) (by rw [isSubtype_type]; kernel_rfl) (by rw [isSubtype_type]; kernel_rfl) (wpAny_mono (hname _ D₂) (fun c s₁ q => ?_) fun _ _ q => q.elim)
  obtain ⟨rfl, rfl⟩ := q
  refine Mine.E5 (id m3) ?_
  intro oe₂ vs₂ T₂ oT₂ ts₂ zk1
  refine Mine.e0_3 zk1 ?_
  clear zk1
  intro he₂ zn6 r₂
  obtain ⟨hc₂, _⟩ := zn6
  refine ⟨rfl, ⟨oe₂, he₂, hc₂.trans hcls⟩, ?_⟩
  rw [if_pos rfl]
  refine wpAny_setFlight_noneW (base := restOf s.heap L L₀ e) m1 m2 m3.at fun h₃ k1 k2 k3 k4 => ?_
  refine wpAny_mono (k _ (D.noted h0 k1 fun b o q hn => ?_)) (fun _ _ q => q) fun _ _ q => q.elim
  obtain ⟨sl, hs⟩ := hu₂ b o q hn
  exact ⟨sl, k4 b _ hs hn⟩
end
end Mine
end

section
open PySem PySem.W PySem.W.X PyProof.Rows PySem.Calls
set_option maxRecDepth 100000
namespace Mine
theorem plainAttrs_pat : PlainAttrs "re.Pattern" :=
  ⟨⟨"object.__getattribute__", by rw [typeLookup_type, builtinLookup_eq_fast]; kernel_rfl, by decide +kernel⟩, by rw [typeLookup_type, builtinLookup_eq_fast]; kernel_rfl⟩
theorem type_pat_split : typeOf (.builtin "re.Pattern.split") = pure (.type "method_descriptor") := by show builtinType _ = _; rw [builtinType_eq_fast]; kernel_rfl
section
variable {w : World} {z : Shared} {prog : Program} {A : Around} {E : Value → Shared → Prop} {h₀ : Heap} {s : Shared} {L : Addr} {m : Str → Option Value} {news : List Ent} {env : Env}
theorem xTry {body suite : List Stmt} {b₀ : Stmt} {t : Option Expr} {n : Option Str} {hp p : Pos} {rest : List Stmt} {Q : Flow → Shared → Prop} (hb : wpAny (model prog w) A (execs body env) (fun f s₁ => match f with | .next => wpAny (model prog w) A (execs rest env) Q E s₁ | f => Q f s₁)
      (fun e s₁ => wpAny (model prog w) A (noteFrame e env) (fun _ s₂ => wpAny (model prog w) A (setFlight e none) (fun _ s₃ => wpAny (model prog w) A (handleBy e env [.ExceptHandler t n (b₀ :: suite) hp]) (AndThen prog w A env rest Q E) E s₃) E s₂) E s₁) s) :
    wpAny (model prog w) A (execs (.Try body [.ExceptHandler t n (b₀ :: suite) hp] [] [] p :: rest) env) Q E s := by
  refine wpAny_execs_cons (wpAny_Try_except (wpAny_mono hb (fun f s₁ q => ?_) fun e s₁ q => wpAny_mono q (fun _ s₂ q => wpAny_mono q (fun _ s₃ q => wpAny_mono q (fun f s₄ q => by cases f <;> exact q) fun _ _ e => e) fun _ _ e => e) fun _ _ e => e))
  cases f with
  | next => exact wpAny_execs_nil q
  | _ => exact q
theorem rPatMeth {a : Addr} {o : Obj} {pl : Sem Bool} {Q : Value × List Value → Shared → Prop} (D : St z h₀ L m news s) (ho : h₀.get? a = some o) (hc : o.cls = .type "re.Pattern") (hdn : o.dict = none) (h : Q (.builtin "re.Pattern.split", [.ref a]) s) : wpAny (model prog w) A (getMethod (.ref a) (Str.ofString "split") pl) Q E s := by
  exact getMethod_builtin ⟨o, D.keep ho, hc⟩ plainAttrs_pat slot_split type_pat_split (fun b q => by cases q; exact ⟨o, D.keep ho, hdn⟩) h
end
end Mine
end

section
open PySem PySem.W PySem.W.X PyProof.Rows PySem.Calls Mine
local macro_rules | `(tactic| wtm_at "g_ev") => `(tactic| with_reducible first
  | refine rNmL (by assumption) (by assumption) (by kernel_rfl) (by wtm_at "mget") ?_ (by kernel_rfl)
  | (refine rStr (by assumption) ?_; intro _ _ _)
  | (refine rInt (by assumption) ?_; intro _ _ _)
  | refine rNmG (by assumption) (by assumption) (by assumption) (by kernel_rfl) (by k_is) ?_ (by kernel_rfl)
  | refine rNmB (by assumption) (by assumption) (by assumption) (by kernel_rfl) (by k_is) (by wtm_at "bb") (by kernel_rfl) ?_ (by kernel_rfl)
  | refine rBool ?_
  | refine rNone ?_
  | refine xMeth ?_ (by kernel_rfl) (by kernel_rfl) (by kernel_rfl)
  | refine xCall ?_ (by kernel_rfl)
  | refine PySem.wpAny_BinOp ?_
  | refine PyProof.Rows.UnaryOp_ ?_
  | refine PyProof.Rows.Subscript_ ?_
  | refine xSlice ?_
  | refine PyProof.Rows.IfExp_ ?_
  | refine PyProof.Rows.Tuple_ ?_
  | refine PyProof.Rows.List_ ?_)
local macro_rules | `(tactic| wtm_at "g_ex") => `(tactic| with_reducible first
  | refine xNil ?_
  | refine xAssign ?_ (by kernel_rfl)
  | refine xSwap2 (by assumption) ?_ (by kernel_rfl) (by kernel_rfl) (by kernel_rfl)
  | refine xSwap3 (by assumption) ?_ (by kernel_rfl) (by kernel_rfl) (by kernel_rfl)
  | refine xTup (by assumption) ?_ (by kernel_rfl) (by kernel_rfl)
  | refine xReturn ?_
  | refine xExpr (by assumption) ?_ (by kernel_rfl)
  | refine xAsgSub ?_ (by kernel_rfl)
  | refine xFor ?_ (fun _ => by kernel_rfl))
local macro_rules | `(tactic| wtm_at "g_ca") => `(tactic| with_reducible first
  | (refine rLenS (by assumption) (by wtm_at "size") ?_; intro _ _ _)
  | (refine rLenL (by assumption) (by wtm_at "mem") (by wtm_at "size") ?_; intro _ _ _)
  | (refine rAppend (by assumption) (by wtm_at "rpe") (by wtm_at "size") ?_; intro _ _)
  | (refine rExtL (by assumption) (by wtm_at "rpe") (by wtm_at "mem") (by wtm_at "size") ?_; intro _ _)
  | (refine rExtT (by assumption) (by wtm_at "rpe") (by wtm_at "mem") (by wtm_at "size") ?_; intro _ _))
local macro_rules | `(tactic| wtm_at "g_cw") => `(tactic| with_reducible first
  | refine cfT1 ?_ (by kernel_rfl)
  | refine cfT2 ?_ (by kernel_rfl) (by kernel_rfl)
  | refine cwB0 ?_
  | refine cwB1 ?_ (by kernel_rfl)
  | refine cwB2 ?_ (by kernel_rfl) (by kernel_rfl)
  | refine cfB1 ?_ (by kernel_rfl)
  | refine cfB2 ?_ (by kernel_rfl) (by kernel_rfl))
local macro_rules | `(tactic| wtm_at "g_gm") => `(tactic| with_reducible first
  | refine Mine.rStrMeth PySem.F.slot_str_join PySem.F.type_str_join ?_
  | refine Mine.rStrMeth PySem.F.slot_str_split PySem.F.type_str_split ?_
  | refine Mine.rStrMeth PySem.F.slot_str_index PySem.F.type_str_index ?_
  | refine Mine.rStrMeth PySem.F.slot_str_strip PySem.F.type_str_strip ?_
  | refine Mine.rStrMeth PySem.F.slot_str_replace PySem.F.type_str_replace ?_
  | refine Mine.rStrMeth PySem.F.slot_str_isspace PySem.F.type_str_isspace ?_
  | refine rLstMeth (by assumption) (by wtm_at "mem") PySem.F.slot_list_append PySem.F.type_list_append ?_
  | refine rLstMeth (by assumption) (by wtm_at "mem") PySem.F.slot_list_extend PySem.F.type_list_extend ?_)
local macro_rules | `(tactic| wtm_at "g_bo") => `(tactic| with_reducible first
  | (refine rCat (by assumption) (by wtm_at "size") ?_; intro _ _ _)
  | (refine rAdd (by assumption) ?_; intro _ _ _)
  | (refine rSub (by assumption) ?_; intro _ _ _)
  | (refine rMod (by assumption) (by decide) ?_; intro _ _ _)
  | (refine rDiv (by assumption) (by decide) (PyProof.noPylong_of_log2 (by decide +kernel)) ?_; intro _ _ _))
local macro_rules | `(tactic| wtm_at "g_co") => `(tactic| with_reducible first
  | refine PySem.P.gt_int ?_
  | refine PySem.P.lt_int ?_
  | refine PySem.P.le_int ?_
  | refine PySem.P.eq_int ?_
  | refine PySem.P.eq_str ?_
  | refine PySem.P.ne_str ?_
  | refine PySem.P.lt_str ?_
  | refine Mine.rLe ?_
  | refine Mine.rGe ?_
  | refine PySem.P.in_str ?_
  | refine PySem.P.notIn_str ?_)
local macro_rules | `(tactic| wtm_at "g_it") => `(tactic| with_reducible first
  | refine PySem.wpAny_isTrue_Compare1 ?_ (by kernel_rfl)
  | (refine' Mine.tAnd ?h1 ?h2; (case' h2 => skip); (case' h1 => skip))
  | (refine' Mine.tOr ?h1 ?h2; (case' h2 => skip); (case' h1 => skip))
  | (refine' Mine.tNot ?h1; (case' h1 => skip))
  | (refine' Mine.tChain ?h1 (by kernel_rfl); (case' h1 => skip))
  | refine PyProof.Rows.isTrue_and ?_
  | refine PyProof.Rows.isTrue_or ?_
  | refine PyProof.Rows.isTrue_and_nil ?_
  | refine PyProof.Rows.isTrue_or_nil ?_
  | refine PyProof.Rows.isTrue_not ?_
  | refine PyProof.Rows.isTrue_chain ?_ (by kernel_rfl)
  | refine PyProof.Rows.isTrue_plain ?_ (by kernel_rfl))
local macro_rules | `(tactic| wtm_at "g_oth") => `(tactic| with_reducible first
  | (show wpAny _ _ (truthy _) _ _ _; first | refine rTruB ?_ | (refine rTruS (by assumption) (by wtm_at "size") ?_; intro _ _))
  | refine andThen_next ?_
  | refine andThen_ret ?_
  | refine andThen_brk ?_
  | refine andThen_cont ?_
  | refine turn_ret ?_
  | refine turn_brk ?_
  | (refine rSto (by assumption) (by assumption) (by kernel_rfl) ?_; intro _ _)
  | refine rBind ?_
  | refine PyProof.Rows.assign_Name ?_
  | refine aioNil ?_
  | refine aioCons ?_
  | refine rPartN ?_
  | refine rPartS ?_
  | (refine rSlcNew (by assumption) ?_; intro _ _ _)
  | (refine rNeg (by assumption) ?_; intro _ _ _)
  | (refine' Mine.nxt ?h1; (case' h1 => intro _ _ _))
  | (refine' Mine.ch2 ?h1 ?h2; (case' h2 => skip); (case' h1 => skip))
  | exact Mine.tEnd (by assumption)
  | refine Mine.iteT ?_
  | refine Mine.iteF ?_
  | (refine rSw2 (by assumption) (by assumption) (by assumption) (by kernel_rfl) (by kernel_rfl) ?_; intro _ _)
  | (refine rSw3 (by assumption) (by assumption) (by assumption) (by kernel_rfl) (by kernel_rfl) (by kernel_rfl) ?_; intro _ _)
  | refine splN ?_
  | refine splC ?_ (by kernel_rfl)
  | (refine rNewList (by assumption) (Nat.le_of_ble_eq_true (by kernel_rfl)) ?_; intro _ _ _)
  | (refine rNewTuple (by assumption) (Nat.le_of_ble_eq_true (by kernel_rfl)) ?_; intro _ _ _))
local macro_rules | `(tactic| wtm_at "s1") => `(tactic| first
  | (with_reducible show wpAny _ _ (eval _ _) _ _ _; wtm_at "g_ev")
  | (with_reducible show wpAny _ _ (execs _ _) _ _ _; wtm_at "g_ex")
  | (with_reducible show wpAny _ _ (call _ _) _ _ _; wtm_at "g_ca")
  | (with_reducible show wpAny _ _ (callWith _ _ _ _ _) _ _ _; wtm_at "g_cw")
  | (with_reducible show wpAny _ _ (getMethod _ _ _) _ _ _; wtm_at "g_gm")
  | (with_reducible show wpAny _ _ (binaryOp _ _ _) _ _ _; wtm_at "g_bo")
  | (with_reducible show wpAny _ _ (compareOp _ _ _) _ _ _; wtm_at "g_co")
  | (with_reducible show wpAny _ _ (isTrue _ _ _) _ _ _; wtm_at "g_it")
  | wtm_at "g_oth"
  )
local macro_rules | `(tactic| wtm_at "ss") => `(tactic| repeat (wtm_at "s1"))
local macro_rules | `(tactic| wtm_at "bb") => `(tactic| first | exact bbLen | exact bbSum | exact bbIter | exact bbZip | exact bbRange | exact bbInt | exact bbFilter | exact bbStr | exact bbSuper)
local macro_rules | `(tactic| wtm_at "subl") => `(tactic| first | with_reducible exact List.Sublist.refl _ | (with_reducible refine List.Sublist.cons₂ _ ?_; wtm_at "subl") | (with_reducible refine List.Sublist.cons _ ?_; wtm_at "subl") | (with_reducible refine Mine.subU ?_; wtm_at "subl") | (simp only [List.cons_append, List.nil_append]; wtm_at "subl"))
local macro_rules | `(tactic| wtm_at "rpe") => `(tactic| first | with_reducible exact Mine.Rep.head | (with_reducible refine' Mine.Rep.tail ?h1; (case h1 => wtm_at "rpe")) | (with_reducible refine' Mine.Rep.app ?h1; (case h1 => wtm_at "rpe")))
local macro_rules | `(tactic| wtm_at "size") => `(tactic| first | assumption | (rw [sizeLine_eq]; lia -abstractProof) | (simp only [sizeLine_eq, List.length_append, List.length_cons, List.length_nil]; lia -abstractProof) | (with_reducible exact Nat.le_of_ble_eq_true rfl))
local macro_rules | `(tactic| wtm_at "D") => `(tactic| first | with_reducible assumption | exact Mine.St.sub (by with_reducible assumption) (by wtm_at "subl"))
local macro_rules | `(tactic| wtm_at "mget") => `(tactic| first | exact upd_self | (refine upd_ne (by kernel_rfl) ?_; wtm_at "mget") | assumption)
local macro_rules | `(tactic| wtm_at "mem") => `(tactic| first | with_reducible exact List.mem_cons_self | with_reducible assumption | (with_reducible refine List.mem_cons_of_mem _ ?_; wtm_at "mem") | (with_reducible refine Mine.memU ?_; wtm_at "mem"))

section
open PySem PySem.W PySem.W.X PyProof.Rows PySem.Calls
set_option maxHeartbeats 4000000
namespace Mine
/- ## _law_words -/
noncomputable def piecesL : List Str := [Str.ofString "0", Str.ofString "9", Str.ofString "10", Str.ofString ".", Str.ofString "-", Str.ofString "+_", Str.ofString "/\\", Str.ofString "(:", Str.ofString "\";)", Str.ofString "a", Str.ofString "rc", Str.ofString "RC", Str.ofString "pl", Str.ofString "un", Str.ofString "known", Str.ofString "unknown"]
noncomputable def pieceOf (x : Int) : Str := piecesL.getD (x.fmod 16).toNat default
noncomputable def gapOf (x : Int) : Int := (x.fdiv 16).fmod 3
noncomputable def wstep (p : List Str × List Int) (x : Int) : List Str × List Int :=
  if 0 < gapOf x then (p.1 ++ [pieceOf x], p.2 ++ [gapOf x]) else (p.1.dropLast ++ [p.1.getLastD default ++ pieceOf x], p.2)
noncomputable def words0 : List Str × List Int := ([Str.ofString "/10.alpha", Str.ofString "(unknown;2beta)", Str.ofString "dev.b/c-p"], [0, 2, 1])
noncomputable def wordsOf (xs : List Int) : List Str × List Int := xs.foldl wstep words0

theorem fmod16 (x : Int) : 0 ≤ x.fmod 16 ∧ x.fmod 16 < 16 := by
  rw [Int.fmod_eq_emod_of_nonneg _ (by decide)]; lia
theorem pieceOf_get (x : Int) : piecesL[(x.fmod 16).toNat]? = some (pieceOf x) := by
  have := fmod16 x
  unfold pieceOf
  rw [List.getD_eq_getElem?_getD, List.getElem?_eq_getElem (by show (x.fmod 16).toNat < 16; lia)]
  rfl
theorem piecesL_len : ∀ p ∈ piecesL, p.length ≤ 7 := by decide +kernel
theorem pieceOf_len (x : Int) : (pieceOf x).length ≤ 7 := piecesL_len _ (List.mem_of_getElem? (pieceOf_get x))

/- what the loop of _law_words keeps -/
structure WordsJ (l10 wa ga pa : Addr) (vs10 : List Value) (xs : List Int) (news : List Ent) (i : Nat) (m' : Str → Option Value) (news' : List Ent) : Prop where
  w : m' (Str.ofString "words") = some (.ref wa)
  g : m' (Str.ofString "gaps") = some (.ref ga)
  p : m' (Str.ofString "pieces") = some (.ref pa)
  ex : ∃ wvs gvs pvs ys, StrsAre wvs (wordsOf (xs.take i)).1 ∧ IntsAre gvs (wordsOf (xs.take i)).2 ∧ StrsAre pvs piecesL ∧ news' = (l10, isLst vs10) :: (ga, isLst gvs) :: (wa, isLst wvs) :: (pa, isTpl pvs) :: news ∧
    wvs ≠ [] ∧ wvs.length ≤ 3 + i ∧ gvs.length ≤ 3 + i ∧ ys = (wordsOf (xs.take i)).1 ∧ ∀ y ∈ ys, y.length ≤ 15 + 7 * i

theorem words_call {w : World} {z s : Shared} {h₀ : Heap} {L : Addr} {A : Around} {E : Value → Shared → Prop} {Q : Value → Shared → Prop} {m : Str → Option Value} {news : List Ent} {l : Addr} {vs : List Value} {ns : List Int}
  (D : St z h₀ L m news s) (B : Gd w h₀) (hst : (cStatics, isStat z) ∈ news) (hA : A.depth < 440) (hh : A.handled = none) (hl : h₀.IsList l vs.toArray) (hn : IntsAre vs ns) (hlen : ns.length ≤ 63)
  (k : ∀ T wa ga wvs gvs s', StrsAre wvs (wordsOf (ns.take 10)).1 → IntsAre gvs (wordsOf (ns.take 10)).2 → St z h₀ L m ((T, isTpl [.ref wa, .ref ga]) :: (ga, isLst gvs) :: (wa, isLst wvs) :: news) s' → Q (.ref T) s') :
  wpAny (model PySem.Challenge.rw_ny0227_01.row.prog w) A (call (.ref 231) [.ref l]) Q E s := by
  have X : hd.heap_1 w.params = hd.heap_1 w.params := rfl
  revert X
  k_fill
  intro X; clear X
  have hl' := (show ∃ o, h₀.get? l = some o ∧ _ from hl)
  have hlm : l ∉ news.map (·.1) := fun q => by
    refine Mine.e1_2 hl ?_
    try clear hl
    intro o e zu1
    refine Mine.e1_2 (List.mem_map.mp q) ?_
    intro p hp zq2
    subst zq2
    rw [(D.led.nw p hp).2.2] at e; cases e
  refine' enter (binds := [(Str.ofString "script", .ref l)]) D B hst ?ho ?hcd (Nat.lt_trans hA (by decide)) ?hb ?hc ?hl ?c1 ?c2 ?c3 ?_
  case ho => k_is
  case hcd => k_is
  case hb => exact BindsTo.of_eq (by kernel_rfl)
  case hc => kernel_rfl
  case hl => kernel_rfl
  case c1 => kernel_rfl
  case c2 => kernel_rfl
  case c3 => kernel_rfl
  intro g₁ L' s₁ env D₁ B₁ hE hEq back
  clear hEq
  replace hh : (A.deeper env).handled = none := hh
  dsimp only [bm] at D₁
  have hls : ∀ m₂ news₂ s₂, St z g₁ L' m₂ news₂ s₂ → s₂.heap.IsList l vs.toArray := fun m₂ news₂ s₂ D₂ => by
    refine Mine.e1_2 hl ?_
    try clear hl
    intro o e q
    exact ⟨o, (back _ _ _ D₂).keep e, q⟩
  wtm_at "ss"
  refine rGetSlice (by assumption) (hls _ _ _ (by assumption)) (by wtm_at "mem") .none (.int _ _) .none (by decide) (by rw [sizeLine_eq]; have := hn.length; lia) ?_ (by kernel_rfl)
  intro l10 s₂ D₂
  have e10 : (slicePick vs.toArray none (some 10) none).toList = vs.take 10 := by
    show (slicePick vs.toArray none (some ((10 : Nat) : Int)) none).toList = vs.take 10
    rw [slicePick_upto']
  rw [e10] at D₂
  have hn10 : IntsAre (vs.take 10) (ns.take 10) := hn.take 10
  have D₃ := D₂.sub (.cons₂ _ (.cons _ (List.Sublist.refl _)))
  refine iterList (WordsJ l10 _ _ _ (vs.take 10) (ns.take 10) news) D₃ hh (D₃.lst (by wtm_at "mem")).isList ⟨by wtm_at "mget", by wtm_at "mget", by wtm_at "mget", _, _, _, _, ?_, ?_, ?_, rfl, ?_, ?_, ?_, rfl, ?_⟩ ?_ ?_ ?_
  · exact .cons _ _ (.cons _ _ (.cons _ _ .nil))
  · exact .cons _ _ (.cons _ _ (.cons _ _ .nil))
  · unfold piecesL; repeat (first | exact .nil | refine .cons _ _ ?_)
  · simp
  · simp
  · simp
  · rw [List.take_zero]; decide +kernel
  · intro i m' news' e s' zh3 D'
    refine Mine.E4 zh3.ex ?_
    intro wvs gvs pvs ys zk
    obtain ⟨_, _, _, rfl, _⟩ := zk
    exact (D'.lst (by wtm_at "mem")).isList
  · intro i v m' news' it s' hv zh4 D'
    have hw := zh4.w
    have hg := zh4.g
    have hp := zh4.p
    refine Mine.E4 zh4.ex ?_
    clear zh4
    intro wvs gvs pvs ys zk
    refine Mine.e0_9 zk ?_
    clear zk
    intro SW IG SP zq wne wl gl zr yl
    subst zq zr
    refine Mine.e2_2 (hn10.at i v hv) ?_
    intro x t zq5 hx
    subst zq5
    clear D₂ D₃
    wtm_at "ss"
    have hx16 := fmod16 x
    obtain ⟨tp, hpg⟩ := SP.get _ _ (pieceOf_get x)
    refine rTplItem (by assumption) (by wtm_at "mem") hx16.1 (by lia) hpg ?_ (by kernel_rfl)
    wtm_at "ss"
    refine xIf' ?_
    wtm_at "ss"
    have hi : i < (ns.take 10).length := (List.getElem?_eq_some_iff.mp hx).1
    have hi10 : i < 10 := by rw [List.length_take] at hi; lia
    have htk : (ns.take 10).take (i + 1) = (ns.take 10).take i ++ [x] := by
      rw [List.take_succ, hx]; rfl
    have hstep : wordsOf ((ns.take 10).take (i + 1)) = wstep (wordsOf ((ns.take 10).take i)) x := by
      rw [htk]; unfold wordsOf; rw [List.foldl_append]; rfl
    by_cases hgap : 0 < gapOf x
    · refine ifT hgap ?_
      wtm_at "ss"
      refine turn_next (Mine.i2_2 _ _ ?_ (by assumption))
      refine ⟨by wtm_at "mget", by wtm_at "mget", by wtm_at "mget", (Mine.I4 _ _ _ _ (Mine.a9 ?_ ?_ SP rfl ?_ ?_ ?_ rfl ?_))⟩
      · rw [hstep, wstep, if_pos hgap]; exact SW.append' (.cons _ _ .nil)
      · rw [hstep, wstep, if_pos hgap]; exact IG.append (.cons _ _ .nil)
      · simp
      · simp; lia
      · simp; lia
      · rw [hstep, wstep, if_pos hgap]
        intro y hy
        rcases List.mem_append.mp hy with h | h
        · have := yl y h; lia
        · have := pieceOf_len x; rw [List.mem_singleton.mp h]; lia
    · refine ifF hgap ?_
      have zh6 : ∃ pre lst, wvs = pre ++ [lst] := ⟨_, _, (List.dropLast_concat_getLast wne).symm⟩
      refine Mine.e2_1 zh6 ?_
      try clear zh6
      intro pre lst zq7
      subst zq7
      have zh8 := SW.item pre.length lst (by simp)
      refine Mine.e2_2 zh8 ?_
      try clear zh8
      intro ly lt zq9 hly
      subst zq9
      have hys : (wordsOf ((ns.take 10).take i)).1 ≠ [] := fun e => by rw [e] at hly; simp at hly
      have hlen := SW.length
      have hpl : (wordsOf ((ns.take 10).take i)).1.length = pre.length + 1 := by rw [← hlen]; simp
      have hdl : (wordsOf ((ns.take 10).take i)).1 = (wordsOf ((ns.take 10).take i)).1.dropLast ++ [ly] := by
        refine (List.dropLast_concat_getLast hys).symm.trans ?_
        congr 2
        · rw [List.getLast_eq_getElem]
          have : (wordsOf ((ns.take 10).take i)).1[pre.length]? = some ((wordsOf ((ns.take 10).take i)).1[pre.length]'(by lia)) := List.getElem?_eq_getElem _
          rw [this] at hly
          have h2 := Option.some.inj hly
          rw [← h2]
          congr 1
          lia
      have hgl : (wordsOf ((ns.take 10).take i)).1.getLastD default = ly := by rw [hdl]; simp
      wtm_at "ss"
      refine rItemN (by assumption) (by wtm_at "mem") (by decide) (by simp; lia) (by decide) (x := .str ly lt) (by
        have e : ((-1 : Int) + (((pre ++ [Value.str ly lt]).length : Nat) : Int)).toNat = pre.length := by rw [List.length_append, List.length_singleton]; lia
        rw [e]; simp) ?_ (by kernel_rfl)
      wtm_at "ss"
      have l1 : ly.length ≤ 15 + 7 * i := yl ly (by rw [hdl]; simp)
      have l2 := pieceOf_len x
      refine rCat (by assumption) (by rw [sizeLine_eq]; lia) ?_
      intro _ _ _
      wtm_at "ss"
      refine rSetLast (by assumption) (.tail (.tail (.tail .head))) ?_
      intro _ _
      wtm_at "ss"
      refine turn_next (Mine.i2_2 _ _ ?_ (by assumption))
      refine ⟨by wtm_at "mget", by wtm_at "mget", by wtm_at "mget", (Mine.I4 _ _ _ _ (Mine.a9 ?_ ?_ SP rfl ?_ ?_ ?_ rfl ?_))⟩
      · rw [hstep, wstep, if_neg hgap, hgl]
        refine StrsAre.append' ?_ (.cons _ _ .nil)
        have := SW.take' pre.length
        rw [List.take_left] at this
        rw [List.dropLast_eq_take, hpl]
        exact this
      · rw [hstep, wstep, if_neg hgap]; exact IG
      · simp
      · simp at wl ⊢; lia
      · lia
      · rw [hstep, wstep, if_neg hgap, hgl]
        intro y hy
        rcases List.mem_append.mp hy with h | h
        · have := yl y (by rw [hdl]; exact List.mem_append_left _ h); lia
        · rw [List.mem_singleton.mp h, Str.length_append]; lia
  · intro m' news' s' zh10 D'
    have hw := zh10.w
    have hg := zh10.g
    have hp := zh10.p
    refine Mine.E4 zh10.ex ?_
    clear zh10
    intro wvs gvs pvs ys zk
    refine Mine.e0_9 zk ?_
    clear zk
    intro SW IG SP zq wne wl gl zr yl
    subst zq zr
    have e : (ns.take 10).take (vs.take 10).length = ns.take 10 := List.take_of_length_le (by rw [hn10.length]; exact Nat.le_refl _)
    rw [e] at SW IG
    wtm_at "ss"
    exact k _ _ _ _ _ _ SW IG (back _ _ _ (St.sub (by assumption) (.cons₂ _ (.cons _ (.cons₂ _ (.cons₂ _ (.cons _ (List.Sublist.refl _))))))))
end Mine
end

section
open PySem PySem.W PySem.W.X PyProof.Rows PySem.Calls
set_option maxHeartbeats 4000000
namespace Mine
noncomputable def ranksT : List (PyData × PyData) := [(.str (Str.ofString "dev"), .int 10), (.str (Str.ofString "alpha"), .int 20), (.str (Str.ofString "a"), .int 20), (.str (Str.ofString "beta"), .int 30), (.str (Str.ofString "b"), .int 30), (.str (Str.ofString "c"), .int 40), (.str (Str.ofString "RC"), .int 50), (.str (Str.ofString "rc"), .int 50), (.str (Str.ofString "pl"), .int 200), (.str (Str.ofString "p"), .int 200)]
theorem ranksT_s : strKeyed ranksT = true := by decide +kernel
theorem ranksT_n : (strKeysOf ranksT).Nodup := by decide +kernel
theorem ranksT_sh : Shaped Spec.Shape.str Spec.Shape.int ranksT := by unfold Shaped; decide +kernel
/- ## _law_ranks -/
noncomputable def rankOf (x : Str) : Int := intAt (.str x) 0 ranksT
noncomputable def digOf (c : Nat) : Int := (c : Int) - 48
noncomputable def numOf (x : Str) : Int := x.cps.toList.foldl (fun n c => n * 10 + digOf c) 0
noncomputable def isLet (c : Nat) : Bool := decide (65 ≤ c) && !(c == 92 || c == 95)
structure RS where
  due : List PyData
  lt : Str
  fg : Str
noncomputable def rs1 (r : RS) (c : Nat) : RS := if r.lt.length ≠ 0 ∧ isLet c = false then ⟨r.due ++ [.int (rankOf r.lt), .str r.lt], Str.ofString "", r.fg⟩ else r
noncomputable def rs2 (r : RS) (c : Nat) : RS := if r.fg.length ≠ 0 ∧ isDg c = false then ⟨r.due ++ [.int 100, .int (numOf r.fg)], r.lt, Str.ofString ""⟩ else r
noncomputable def rs3 (r : RS) (c : Nat) : RS := if isDg c then ⟨r.due, r.lt, r.fg ++ ⟨#[c]⟩⟩ else if isLet c then ⟨r.due, r.lt ++ ⟨#[c]⟩, r.fg⟩ else r
noncomputable def rstep (r : RS) (c : Nat) : RS := rs3 (rs2 (rs1 r c) c) c
noncomputable def ranksOf (x : Str) : List PyData := ((Txt.join (Str.ofString "") (Txt.split x (Str.ofString "unknown")) ++ Str.ofString ".").cps.toList.foldl rstep ⟨[], Str.ofString "", Str.ofString ""⟩).due
theorem ltA (c : Nat) : decide ((⟨#[c]⟩ : Str).cps.toList < (Str.ofString "A").cps.toList) = decide (c < 65) := by
  apply decide_eq_decide.mpr
  show [c] < [65] ↔ c < 65
  rw [List.cons_lt_cons_iff]
  exact ⟨fun h => h.elim id fun h => absurd h.2 (List.not_lt_nil _), Or.inl⟩
theorem inBs (c : Nat) : (!(Builtin.Str.occurrences (Str.ofString "\\_") ⟨#[c]⟩ 0 (Str.ofString "\\_").length 1).isEmpty) = (c == 92 || c == 95) := by
  rw [StrLaws.found_one]
  show decide (c ∈ [92, 95]) = _
  rw [Bool.eq_iff_iff, decide_eq_true_iff, Bool.or_eq_true, beq_iff_eq, beq_iff_eq, List.mem_cons, List.mem_singleton]
theorem letB (n c : Nat) : (n != 0 && ((decide (c < 65) || ((c == 92 || c == 95) || false)) && true)) = (n != 0 && !isLet c) := by
  unfold isLet
  have : decide (c < 65) = !decide (65 ≤ c) := by rw [← decide_not]; exact decide_eq_decide.mpr (by lia)
  rw [this]
  cases decide (65 ≤ c) <;> cases (c == 92 || c == 95) <;> simp
theorem lt1 (c d : Nat) : decide (([c] : List Nat) < [d]) = decide (c < d) := by
  apply decide_eq_decide.mpr
  rw [List.cons_lt_cons_iff]
  exact ⟨fun h => h.elim id fun h => absurd h.2 (List.not_lt_nil _), Or.inl⟩
theorem dgB (c : Nat) : ((!decide ((⟨#[c]⟩ : Str).cps.toList < (Str.ofString "0").cps.toList)) && !decide ((Str.ofString "9").cps.toList < (⟨#[c]⟩ : Str).cps.toList)) = isDg c := by
  show ((!decide (([c] : List Nat) < [48])) && !decide (([57] : List Nat) < [c])) = isDg c
  rw [lt1, lt1]
  unfold isDg
  have h1 : (!decide (c < 48)) = decide (48 ≤ c) := by rw [← decide_not]; exact decide_eq_decide.mpr (by lia)
  have h2 : (!decide (57 < c)) = decide (c ≤ 57) := by rw [← decide_not]; exact decide_eq_decide.mpr (by lia)
  rw [h1, h2]
theorem leB (c : Nat) : (!decide ((⟨#[c]⟩ : Str).cps.toList < (Str.ofString "A").cps.toList) && ((!(c == 92 || c == 95)) && true)) = isLet c := by
  rw [ltA]
  unfold isLet
  have : decide (c < 65) = !decide (65 ≤ c) := by rw [← decide_not]; exact decide_eq_decide.mpr (by lia)
  rw [this]
  cases decide (65 ≤ c) <;> cases (c == 92 || c == 95) <;> simp
theorem digs : ∀ k, k < 10 → Builtin.Str.occurrences (Str.ofString "0123456789") ⟨#[48 + k]⟩ 0 (Str.ofString "0123456789").length 1 = [k] := by decide +kernel
theorem dig_at {c : Nat} (h : isDg c = true) : Builtin.Str.occurrences (Str.ofString "0123456789") ⟨#[c]⟩ 0 (Str.ofString "0123456789").length 1 = [c - 48] := by
  unfold isDg at h
  simp only [Bool.and_eq_true, decide_eq_true_eq] at h
  have := digs (c - 48) (by lia)
  rwa [show 48 + (c - 48) = c by lia] at this
/- what the loop over the figures keeps -/
noncomputable def FigJ (m₂ : Str → Option Value) (fg : Str) (news₂ : List Ent) (i : Nat) (m' : Str → Option Value) (news' : List Ent) : Prop :=
  news' = news₂ ∧ (∃ t, m' (Str.ofString "number") = some (.int ((fg.cps.toList.take i).foldl (fun n c => n * 10 + digOf c) 0) t)) ∧ ∀ y : Str, (y == Str.ofString "number") = false → (y == Str.ofString "figure") = false → m' y = m₂ y
/- what stands between the statements of a turn -/
structure RanksM (w : World) (news : List Ent) (r : RS) (b nb : Nat) (dl da : Addr) (vs : List Value) (m' : Str → Option Value) : Prop where
  rk : m' (Str.ofString "ranks") = some (.ref da)
  d : m' (Str.ofString "due") = some (.ref dl)
  cv : CarriedAll vs r.due
  lt : ∃ t1, m' (Str.ofString "letters") = some (.str r.lt t1)
  fg : ∃ t2, m' (Str.ofString "figures") = some (.str r.fg t2)
  n : vs.length ≤ nb
  l1 : r.lt.length ≤ b
  l2 : r.fg.length ≤ b
  da2 : 2 ≤ da
  dg : ∀ c ∈ r.fg.cps.toList, isDg c = true
noncomputable def RanksJ (w : World) (tx : Str) (news : List Ent) (i : Nat) (m' : Str → Option Value) (news' : List Ent) : Prop :=
  ∃ dl da vs, RanksM w news ((tx.cps.toList.take i).foldl rstep ⟨[], Str.ofString "", Str.ofString ""⟩) i (4 * i) dl da vs m' ∧ news' = (dl, isLst vs) :: (da, TabObj (strKind PR w) PyData.str ranksT) :: news
@[reducible] noncomputable def IW22 (w : World) (z : Shared) (news : List Ent) (g₁ : Heap) (L' : Addr) (tc : Tok) (tx : Str) (i c : Nat) (u : Tok) (it dl da : Addr) (r₂ : RS) : Shared → Prop := fun s₂ => ∃ m₂ vs₂, RanksM w news (rs2 r₂ c) i (4 * i + 4) dl da vs₂ m₂ ∧ m₂ (Str.ofString "sign") = some (.str ⟨#[c]⟩ u) ∧ St z g₁ L' m₂ ((it, isSI tx tc (i + 1)) :: (dl, isLst vs₂) :: (da, TabObj (strKind PR w) PyData.str ranksT) :: news) s₂
@[reducible] noncomputable def IW21 (w : World) (z : Shared) (news : List Ent) (g₁ : Heap) (L' : Addr) (tc : Tok) (tx : Str) (i c : Nat) (u : Tok) (it dl da : Addr) (r : RS) : Shared → Prop := fun s₂ => ∃ m₂ vs₂, RanksM w news (rs1 r c) i (4 * i + 2) dl da vs₂ m₂ ∧ m₂ (Str.ofString "sign") = some (.str ⟨#[c]⟩ u) ∧ St z g₁ L' m₂ ((it, isSI tx tc (i + 1)) :: (dl, isLst vs₂) :: (da, TabObj (strKind PR w) PyData.str ranksT) :: news) s₂
theorem ranks_call {w : World} {z s : Shared} {h₀ : Heap} {L : Addr} {A : Around} {E : Value → Shared → Prop} {Q : Value → Shared → Prop} {m : Str → Option Value} {news : List Ent} {x : Str} {t : Tok}
  (D : St z h₀ L m news s) (B : Gd w h₀) (hst : (cStatics, isStat z) ∈ news) (hA : A.depth < 440) (hh : A.handled = none) (hx : x.length ≤ 200) (hxa : ∀ c ∈ x.cps.toList, c < 128)
  (k : ∀ dl vs s', CarriedAll vs (ranksOf x) → vs.length ≤ 1000 → St z h₀ L m ((dl, isLst vs) :: news) s' → Q (.ref dl) s') :
  wpAny (model PySem.Challenge.rw_ny0227_01.row.prog w) A (call (.ref 238) [.str x t]) Q E s := by
  have X : hd.heap_1 w.params = hd.heap_1 w.params := rfl
  revert X
  k_fill
  intro X; clear X
  refine' enter (binds := [(Str.ofString "word", .str x t)]) D B hst ?ho ?hcd (Nat.lt_trans hA (by decide)) ?hb ?hc ?hl ?c1 ?c2 ?c3 ?_
  case ho => k_is
  case hcd => k_is
  case hb => exact BindsTo.of_eq (by kernel_rfl)
  case hc => kernel_rfl
  case hl => kernel_rfl
  case c1 => kernel_rfl
  case c2 => kernel_rfl
  case c3 => kernel_rfl
  intro g₁ L' s₁ env D₁ B₁ hE hEq back
  clear hEq
  replace hh : (A.deeper env).handled = none := hh
  dsimp only [bm] at D₁
  wtm_at "s1"
  with_reducible refine rDict (T := ranksT) (by assumption) (by kernel_rfl) ranksT_s ranksT_n (by kernel_rfl) (by kernel_rfl) B₁.sz (by kernel_rfl) (by kernel_rfl) ?_
  intro da sd hda Dd
  wtm_at "ss"
  refine rSplitS (by assumption) (by kernel_rfl) (by lia) ?_
  intro sl svs ss SS Ds
  wtm_at "ss"
  have hs1 := split_sum x (Str.ofString "unknown")
  have hs0 : (Str.ofString "").length = 0 := rfl
  refine rJoin (by assumption) (by wtm_at "mem") SS (joinOk_of (n := x.length) (by rw [hs0]; lia) (by lia)) ?_
  intro tj sj Dj
  wtm_at "ss"
  have hjl : (Txt.join (Str.ofString "") (Txt.split x (Str.ofString "unknown"))).length ≤ 200 := by
    have h1 := joinsplit_rm x
    have h2 := len_rm _ x.cps.toList rfl
    have h3 := congrArg List.length h1
    simp only [Array.length_toList] at h2 h3
    have e1 : x.length = x.cps.size := rfl
    have e2 : (Txt.join (Str.ofString "") (Txt.split x (Str.ofString "unknown"))).length = (Txt.join (Str.ofString "") (Txt.split x (Str.ofString "unknown"))).cps.size := rfl
    lia
  have hja : (Txt.join (Str.ofString "") (Txt.split x (Str.ofString "unknown")) ++ Str.ofString ".").cps.all (· < 128) = true := by
    rw [← Array.all_toList, Str.cps_append, Array.toList_append, joinsplit_rm, List.all_eq_true]
    intro c hc
    rcases List.mem_append.mp hc with h | h
    · simpa using hxa c (mem_rm h)
    · have h' : c ∈ [46] := h
      have : c = 46 := by simpa using h'
      subst this; rfl
  have hdot : (Str.ofString ".").length = 1 := rfl
  refine rCat (by assumption) (by rw [sizeLine_eq]; lia) ?_
  intro tc sc Dc
  wtm_at "ss"
  have Dl := Dc.sub (.cons _ (List.Sublist.refl _))
  have htl : (Txt.join (Str.ofString "") (Txt.split x (Str.ofString "unknown")) ++ Str.ofString ".").length ≤ 201 := by rw [Str.length_append]; lia
  have hres : ranksOf x = ((Txt.join (Str.ofString "") (Txt.split x (Str.ofString "unknown")) ++ Str.ofString ".").cps.toList.foldl rstep ⟨[], Str.ofString "", Str.ofString ""⟩).due := rfl
  generalize htx : Txt.join (Str.ofString "") (Txt.split x (Str.ofString "unknown")) ++ Str.ofString "." = tx at *
  refine iterStr (RanksJ w tx news) Dl hh ?_ ⟨_, _, _, ⟨by wtm_at "mget", by wtm_at "mget", .nil, ⟨_, by wtm_at "mget"⟩, ⟨_, by wtm_at "mget"⟩, by simp, by rw [List.take_zero]; decide +kernel, by rw [List.take_zero]; decide +kernel, hda, by rw [List.take_zero]; intro c hc; exact absurd hc (by simp [show (Str.ofString "").cps = #[] from rfl])⟩, rfl⟩ ?_ ?_
  · exact hja
  · intro i c u m' news' it s' hc zh1 D'
    refine Mine.e3_2 zh1 ?_
    try clear zh1
    intro dl da vs M zq2
    subst zq2
    clear Dl Dc Dj Ds Dd D₁
    have hi : i < tx.cps.size := (Array.getElem?_eq_some_iff.mp hc).1
    have hi2 : tx.cps.size ≤ 201 := htl
    generalize hR : (tx.cps.toList.take i).foldl rstep ⟨[], Str.ofString "", Str.ofString ""⟩ = r at *
    wtm_at "s1"
    refine xCutH (IW21 w z news g₁ L' tc tx i c u it dl da r) ?_ ?_
    · intro R hR
      obtain ⟨t1, hlt⟩ := M.lt
      have hdue := M.d
      have hrk := M.rk
      have hl1 := M.l1
      refine' xIfT (by assumption) ?ht ?hT ?hF
      case ht => wtm_at "ss"
      case hT =>
        intro hb s₂ D₂
        have hvs := M.n
        wtm_at "ss"
        refine rDicMeth (by assumption) (by wtm_at "mem") M.da2 ?_
        wtm_at "ss"
        refine rDicGet (by assumption) (by wtm_at "mem") M.da2 (sk := .str) ranksT_sh ?_
        intro _ _ _
        wtm_at "ss"
        obtain ⟨t2, hfg⟩ := M.fg
        have hb' : r.lt.length ≠ 0 ∧ isLet c = false := by
          rw [ltA, inBs, letB] at hb
          simpa using hb
        have e1 : rs1 r c = ⟨r.due ++ [.int (rankOf r.lt), .str r.lt], Str.ofString "", r.fg⟩ := if_pos hb'
        refine ⟨rfl, hR _ (Mine.i2_3 _ _ ?_ ?_ (by wtm_at "D"))⟩
        rotate_left
        · wtm_at "mget"
        rw [e1]
        refine ⟨by wtm_at "mget", by wtm_at "mget", ?_, ⟨_, by wtm_at "mget"⟩, ⟨_, by wtm_at "mget"⟩, ?_, ?_, ?_, M.da2, M.dg⟩
        · exact M.cv.appendLM (.cons (.int _ _) (.cons (.str _ _) .nil))
        · simp; lia
        · exact Nat.zero_le _
        · exact M.l2
      case hF =>
        intro hb s₂ D₂
        wtm_at "ss"
        obtain ⟨t2, hfg⟩ := M.fg
        have hb' : ¬ (r.lt.length ≠ 0 ∧ isLet c = false) := by
          rw [ltA, inBs, letB] at hb
          intro q
          simp [q.1, q.2] at hb
        have e1 : rs1 r c = r := if_neg hb'
        refine ⟨rfl, hR _ (Mine.i2_3 _ _ ?_ ?_ (by wtm_at "D"))⟩
        rotate_left
        · wtm_at "mget"
        rw [e1]
        have h1 := M.n; have h2 := M.l1; have h3 := M.l2
        exact ⟨by wtm_at "mget", by wtm_at "mget", M.cv, ⟨_, by wtm_at "mget"⟩, ⟨_, by wtm_at "mget"⟩, by lia, by lia, by lia, M.da2, M.dg⟩
    · intro s₂ zh3
      refine Mine.e2_3 zh3 ?_
      try clear zh3
      intro m₂ vs₂ M₂ hsg D₂
      generalize hr2 : rs1 r c = r₂ at *
      refine xCutH (IW22 w z news g₁ L' tc tx i c u it dl da r₂) ?_ ?_
      · intro R hR
        obtain ⟨t2, hfg⟩ := M₂.fg
        have hdue := M₂.d
        have hl2 := M₂.l2
        refine' xIfT (by assumption) ?ht ?hT ?hF
        case ht => wtm_at "ss"
        case hT =>
          intro hb s₃ D₃
          clear D₂
          have hrk := M₂.rk
          obtain ⟨t1, hlt⟩ := M₂.lt
          have hb' : r₂.fg.length ≠ 0 ∧ isDg c = false := by
            rw [dgB] at hb
            simpa using hb
          have e1 : rs2 r₂ c = ⟨r₂.due ++ [.int 100, .int (numOf r₂.fg)], r₂.lt, Str.ofString ""⟩ := if_pos hb'
          have h1 := M₂.n; have h2 := M₂.l1; have h3 := M₂.l2
          wtm_at "ss"
          refine iterStr (FigJ m₂ r₂.fg ((it, isSI tx tc (i + 1)) :: (dl, isLst vs₂) :: (da, TabObj (strKind PR w) PyData.str ranksT) :: news)) (by assumption) hh ?_ ⟨rfl, ⟨_, by wtm_at "mget"⟩, fun y hy hz => upd_ne hy rfl⟩ ?_ ?_
          · rw [← Array.all_toList, List.all_eq_true]
            intro d hd
            have := M₂.dg d hd
            unfold isDg at this
            simp only [Bool.and_eq_true, decide_eq_true_eq] at this ⊢
            lia
          · intro j d u' m' news' it' s' hd zh4 D'
            refine Mine.e0_3 zh4 ?_
            try clear zh4
            intro zq5 zn6 hag
            subst zq5
            obtain ⟨tn, hn⟩ := zn6
            have hd' : r₂.fg.cps.toList[j]? = some d := by simpa using hd
            wtm_at "ss"
            refine rMul (by assumption) (IntMulOk.of_right (by decide +kernel)) ?_
            intro _ _ _
            wtm_at "ss"
            refine rIndex (by assumption) (dig_at (M₂.dg d (List.mem_of_getElem? hd'))) ?_
            intro _ _ _
            wtm_at "ss"
            refine turn_next (Mine.i2_2 _ _ ⟨rfl, ?_, ?_⟩ (by assumption))
            · refine ⟨_, upd_self.trans (congrArg some (congrArg (fun i => Value.int i _) ?_))⟩
              rw [List.take_succ, hd', Option.toList_some, List.foldl_append]
              have hdd := M₂.dg d (List.mem_of_getElem? hd')
              unfold isDg at hdd
              simp only [Bool.and_eq_true, decide_eq_true_eq] at hdd
              have e2 : (((d - 48 : Nat) : Int)) = digOf d := by unfold digOf; lia
              rw [e2]
              rfl
            · intro y hy hz
              exact upd_ne hy (upd_ne hz (hag y hy hz))
          · intro m' news' s' zh7 D'
            refine Mine.e0_3 zh7 ?_
            try clear zh7
            intro zq8 zn9 hag
            subst zq8
            obtain ⟨tn, hn⟩ := zn9
            have hfull : (r₂.fg.cps.toList.take r₂.fg.cps.size).foldl (fun n c => n * 10 + digOf c) 0 = numOf r₂.fg := by
              rw [List.take_of_length_le (by simp)]; rfl
            rw [hfull] at hn
            have q1 := (hag (Str.ofString "due") (by kernel_rfl) (by kernel_rfl)).trans hdue
            have q2 := (hag (Str.ofString "ranks") (by kernel_rfl) (by kernel_rfl)).trans hrk
            have q3 := (hag (Str.ofString "letters") (by kernel_rfl) (by kernel_rfl)).trans hlt
            have q4 := (hag (Str.ofString "sign") (by kernel_rfl) (by kernel_rfl)).trans hsg
            clear D₃
            wtm_at "ss"
            refine ⟨rfl, hR _ (Mine.i2_3 _ _ ?_ ?_ (by wtm_at "D"))⟩
            rotate_left
            · wtm_at "mget"
            rw [e1]
            refine ⟨by wtm_at "mget", by wtm_at "mget", ?_, ⟨_, by wtm_at "mget"⟩, ⟨_, by wtm_at "mget"⟩, ?_, h2, ?_, M₂.da2, ?_⟩
            · exact M₂.cv.appendLM (.cons (.int _ _) (.cons (.int _ _) .nil))
            · simp; lia
            · exact Nat.zero_le _
            · intro c hc; exact absurd hc (by simp [show (Str.ofString "").cps = #[] from rfl])
        case hF =>
          intro hb s₃ D₃
          wtm_at "ss"
          have hrk := M₂.rk
          obtain ⟨t1, hlt⟩ := M₂.lt
          have hb' : ¬ (r₂.fg.length ≠ 0 ∧ isDg c = false) := by
            rw [dgB] at hb
            intro q
            simp [q.1, q.2] at hb
          have e1 : rs2 r₂ c = r₂ := if_neg hb'
          refine ⟨rfl, hR _ (Mine.i2_3 _ _ ?_ ?_ (by wtm_at "D"))⟩
          rotate_left
          · wtm_at "mget"
          rw [e1]
          exact ⟨M₂.rk, M₂.d, M₂.cv, M₂.lt, M₂.fg, Nat.le_trans M₂.n (by lia), M₂.l1, M₂.l2, M₂.da2, M₂.dg⟩
      · intro s₃ zh10
        refine Mine.e2_3 zh10 ?_
        try clear zh10
        intro m₃ vs₃ M₃ hsg D₃
        clear D₂ M₂
        generalize hr3 : rs2 r₂ c = r₃ at *
        obtain ⟨t1, hlt⟩ := M₃.lt
        obtain ⟨t2, hfg⟩ := M₃.fg
        have hdue := M₃.d
        have hrk := M₃.rk
        have h1 := M₃.n; have h2 := M₃.l1; have h3 := M₃.l2
        have hone : (⟨#[c]⟩ : Str).length = 1 := rfl
        have hfold : (tx.cps.toList.take (i + 1)).foldl rstep ⟨[], Str.ofString "", Str.ofString ""⟩ = rs3 r₃ c := by
          have hc' : tx.cps.toList[i]? = some c := by simpa using hc
          rw [List.take_succ, hc', Option.toList_some, List.foldl_append, hR]
          show rs3 (rs2 (rs1 r c) c) c = _
          rw [hr2, hr3]
        refine' xIfT (by assumption) ?ht ?hT ?hF
        case ht => wtm_at "ss"
        case hT =>
          intro hb s₄ D₄
          rw [dgB] at hb
          wtm_at "ss"
          refine turn_next (Mine.i2_2 _ _ ⟨dl, da, vs₃, ?_, rfl⟩ (by assumption))
          rw [hfold, rs3, if_pos hb]
          refine ⟨by wtm_at "mget", by wtm_at "mget", M₃.cv, ⟨_, by wtm_at "mget"⟩, ⟨_, by wtm_at "mget"⟩, h1, Nat.le_succ_of_le h2, ?_, M₃.da2, ?_⟩
          · show (r₃.fg ++ ⟨#[c]⟩).length ≤ i + 1
            rw [Str.length_append]; lia
          · intro d hd
            have hd' : d ∈ r₃.fg.cps.toList ++ [c] := by
              have : (r₃.fg ++ ⟨#[c]⟩).cps.toList = r₃.fg.cps.toList ++ [c] := by rw [Str.cps_append]; simp
              rw [← this]; exact hd
            rcases List.mem_append.mp hd' with h | h
            · exact M₃.dg d h
            · rw [List.mem_singleton.mp h]; exact hb
        case hF =>
          intro hb s₄ D₄
          rw [dgB] at hb
          refine' xIfT (by assumption) ?ht ?hT ?hF
          case ht => wtm_at "ss"
          case hT =>
            intro hb2 s₅ D₅
            rw [inBs, leB] at hb2
            wtm_at "ss"
            refine turn_next (Mine.i2_2 _ _ ⟨dl, da, vs₃, ?_, rfl⟩ (by assumption))
            rw [hfold, rs3, if_neg (by rw [hb]; exact Bool.false_ne_true), if_pos hb2]
            refine ⟨by wtm_at "mget", by wtm_at "mget", M₃.cv, ⟨_, by wtm_at "mget"⟩, ⟨_, by wtm_at "mget"⟩, h1, ?_, Nat.le_succ_of_le h3, M₃.da2, M₃.dg⟩
            show (r₃.lt ++ ⟨#[c]⟩).length ≤ i + 1
            rw [Str.length_append]; lia
          case hF =>
            intro hb2 s₅ D₅
            rw [inBs, leB] at hb2
            wtm_at "ss"
            refine turn_next (Mine.i2_2 _ _ ⟨dl, da, vs₃, ?_, rfl⟩ (by assumption))
            rw [hfold, rs3, if_neg (by rw [hb]; exact Bool.false_ne_true), if_neg (by rw [hb2]; exact Bool.false_ne_true)]
            exact ⟨M₃.rk, M₃.d, M₃.cv, M₃.lt, M₃.fg, h1, Nat.le_succ_of_le h2, Nat.le_succ_of_le h3, M₃.da2, M₃.dg⟩
  · intro m' news' s' zh11 D'
    refine Mine.e3_2 zh11 ?_
    try clear zh11
    intro dl da vs M zq12
    subst zq12
    have e : tx.cps.toList.take tx.cps.size = tx.cps.toList := List.take_of_length_le (by simp)
    rw [e] at M
    have hdue := M.d
    have h1 := M.n
    have htl' : tx.cps.size ≤ 201 := htl
    clear Dl Dc Dj Ds Dd D₁
    wtm_at "ss"
    exact k _ _ _ (hres ▸ M.cv) (by lia) (back _ _ _ (by wtm_at "D"))
end Mine
end

section
open PySem PySem.W PySem.W.X PyProof.Rows PySem.Calls
set_option maxHeartbeats 4000000
namespace Mine
/- ## _law_rows -/
noncomputable def growRow (room : Int) : Str → List (Int × Str) → Str × List (Int × Str)
  | row, [] => (row, [])
  | row, (g, w) :: r => if (row.length : Int) + g + w.length ≤ room then growRow room (row ++ blk g.toNat ++ w) r else (row, (g, w) :: r)
inductive Rows (width : Int) : Int → List (Int × Str) → List Str → Prop
  | nil {room : Int} : Rows width room [] []
  | cons {room g : Int} {w row : Str} {r rest : List (Int × Str)} {rows : List Str} : growRow room (blk g.toNat ++ w) r = (row, rest) → Rows width width rest rows → Rows width room ((g, w) :: r) (row :: rows)
noncomputable def RowsOf (ws : List Str) (gs : List Int) (head width : Int) (rows : List Str) : Prop :=
  if 0 < head ∧ width - head < ((ws.headD default).length : Int) then ∃ r, rows = Str.ofString "" :: r ∧ Rows width width ((1 :: gs.drop 1).zip ws) r
  else Rows width (width - head) (gs.zip ws) rows
theorem zdrop {α β : Type} {as : List α} {bs : List β} {i : Nat} {a : α} {b : β} (ha : as[i]? = some a) (hb : bs[i]? = some b) : (as.zip bs).drop i = (a, b) :: (as.zip bs).drop (i + 1) := by
  have e : (as.zip bs)[i]? = some (a, b) := by rw [List.getElem?_zip_eq_some]; exact ⟨ha, hb⟩
  obtain ⟨hi, e⟩ := List.getElem?_eq_some_iff.mp e
  rw [List.drop_eq_getElem_cons hi, e]
@[reducible] noncomputable def IW33 (z : Shared) (news : List Ent) (wa : Addr) (ws : List Str) (width : Int) (g₁ : Heap) (L' : Addr) (up : List Ent) (ra aa : Addr) (as : List Int) (i : Nat) (rvs : List Value) (rm : Int) (w₁ : Str) (g₀ : Int) : Nat → Shared → Prop := fun n s => ∃ j m' row, n = ws.length - j ∧ j ≤ ws.length ∧ i < j ∧ St z g₁ L' m' (up ++ (ra, isLst rvs) :: news) s ∧ m' (Str.ofString "words") = some (.ref wa) ∧ m' (Str.ofString "rows") = some (.ref ra) ∧ m' (Str.ofString "ahead") = some (.ref aa) ∧ (∃ t, m' (Str.ofString "first") = some (.int (j : Nat) t)) ∧ (∃ t, m' (Str.ofString "room") = some (.int rm t)) ∧ (∃ t, m' (Str.ofString "width") = some (.int width t)) ∧ (∃ t, m' (Str.ofString "row") = some (.str row t)) ∧ row.length ≤ 102 * j ∧ growRow rm row ((as.zip ws).drop j) = growRow rm (blk g₀.toNat ++ w₁) ((as.zip ws).drop (i + 1))
@[reducible] noncomputable def IW32 (z : Shared) (news : List Ent) (wa : Addr) (ws : List Str) (width : Int) (g₁ : Heap) (L' : Addr) (up : List Ent) (ra aa : Addr) (as : List Int) (rm₀ : Int) (r0 : List Str) : Nat → Shared → Prop := fun n s => ∃ i m' rvs dn rm, n = ws.length - i ∧ i ≤ ws.length ∧ St z g₁ L' m' (up ++ (ra, isLst rvs) :: news) s ∧ m' (Str.ofString "words") = some (.ref wa) ∧ m' (Str.ofString "rows") = some (.ref ra) ∧ m' (Str.ofString "ahead") = some (.ref aa) ∧ (∃ t, m' (Str.ofString "first") = some (.int (i : Nat) t)) ∧ (∃ t, m' (Str.ofString "room") = some (.int rm t)) ∧ (∃ t, m' (Str.ofString "width") = some (.int width t)) ∧ StrsAre rvs (r0 ++ dn) ∧ dn.length ≤ i ∧ (∀ rows, Rows width rm ((as.zip ws).drop i) rows → Rows width rm₀ (as.zip ws) (dn ++ rows))
@[reducible] noncomputable def IW31 (z : Shared) (news : List Ent) (wa : Addr) (ws : List Str) (gs : List Int) (head width : Int) (g₁ : Heap) (L' : Addr) : Shared → Prop := fun s₂ => ∃ m₂ up ra rvs aa avs as rm r0, St z g₁ L' m₂ (up ++ (ra, isLst rvs) :: news) s₂ ∧ m₂ (Str.ofString "words") = some (.ref wa) ∧ m₂ (Str.ofString "rows") = some (.ref ra) ∧ m₂ (Str.ofString "ahead") = some (.ref aa) ∧ (∃ t, m₂ (Str.ofString "first") = some (.int 0 t)) ∧ (∃ t, m₂ (Str.ofString "room") = some (.int rm t)) ∧ (∃ t, m₂ (Str.ofString "width") = some (.int width t)) ∧ StrsAre rvs r0 ∧ r0.length ≤ 1 ∧ IntsAre avs as ∧ as.length = ws.length ∧ (∀ g ∈ as, 0 ≤ g ∧ g ≤ 2) ∧ (∀ P, (aa, isLst avs) ∈ up ++ (ra, P) :: news) ∧ (∀ rows, Rows width rm (as.zip ws) rows → RowsOf ws gs head width (r0 ++ rows))
theorem rows_call {w : World} {z s : Shared} {h₀ : Heap} {L : Addr} {A : Around} {E : Value → Shared → Prop} {Q : Value → Shared → Prop} {m : Str → Option Value} {news : List Ent} {wa ga : Addr} {wvs gvs : List Value} {ws : List Str} {gs : List Int} {head width : Int} {t1 t2 : Tok}
  (D : St z h₀ L m news s) (B : Gd w h₀) (hst : (cStatics, isStat z) ∈ news) (hA : A.depth < 440) (hh : A.handled = none) (hw : (wa, isLst wvs) ∈ news) (hg : (ga, isLst gvs) ∈ news) (hws : StrsAre wvs ws) (hgs : IntsAre gvs gs)
  (hn : ws.length ≤ 13) (h1 : 1 ≤ ws.length) (hgl : gs.length = ws.length) (hwl : ∀ x ∈ ws, x.length ≤ 100) (hgb : ∀ g ∈ gs, 0 ≤ g ∧ g ≤ 2) (hhd : 0 ≤ head ∧ head ≤ 10) (hwd : 0 ≤ width ∧ width ≤ 100)
  (k : ∀ rl rvs rows s', StrsAre rvs rows → RowsOf ws gs head width rows → St z h₀ L m ((rl, isLst rvs) :: news) s' → Q (.ref rl) s') :
  wpAny (model PySem.Challenge.rw_ny0227_01.row.prog w) A (call (.ref 245) [.ref wa, .ref ga, .int head t1, .int width t2]) Q E s := by
  have X : hd.heap_1 w.params = hd.heap_1 w.params := rfl
  revert X
  k_fill
  intro X; clear X
  refine' enter (binds := [(Str.ofString "words", .ref wa), (Str.ofString "gaps", .ref ga), (Str.ofString "head", .int head t1), (Str.ofString "width", .int width t2)]) D B hst ?ho ?hcd (Nat.lt_trans hA (by decide)) ?hb ?hc ?hl ?c1 ?c2 ?c3 ?_
  case ho => k_is
  case hcd => k_is
  case hb => exact BindsTo.of_eq (by kernel_rfl)
  case hc => kernel_rfl
  case hl => kernel_rfl
  case c1 => kernel_rfl
  case c2 => kernel_rfl
  case c3 => kernel_rfl
  intro g₁ L' s₁ env D₁ B₁ hE hEq back
  clear hEq
  replace hh : (A.deeper env).handled = none := hh
  dsimp only [bm] at D₁
  wtm_at "ss"
  refine rAsgT (by assumption) hh (by wtm_at "mem") (by kernel_rfl) (by kernel_rfl) ?_
  intro s₂ D₂
  show wpAny _ _ (assignInOrder [assign (.Name _ _) env, assign (.Name _ _) env, assign (.Name _ _) env, assign (.Name _ _) env] _) _ _ _
  wtm_at "ss"
  have D₄ := St.sub ‹St z g₁ L' _ _ _› (List.sublist_cons_self _ _)
  clear D₂ D₁
  have zh1 : ∃ w0 wr, ws = w0 :: wr := by cases ws with | nil => simp at h1 | cons a b => exact ⟨a, b, rfl⟩
  refine Mine.e2_1 zh1 ?_
  try clear zh1
  intro w0 wr hw0
  obtain ⟨tw0, hv0⟩ := hws.get 0 w0 (by rw [hw0]; rfl)
  have hw0l := hwl w0 (by rw [hw0]; exact .head _)
  have hgvl : gvs.length = ws.length := hgs.length.trans hgl
  have hwvl : wvs.length = ws.length := hws.length
  refine xCutH (IW31 z news wa ws gs head width g₁ L') ?_ ?_
  · intro R hR
    refine' xIfT (by assumption) ?ht ?hT ?hF
    case ht =>
      wtm_at "ss"
      refine rItem (k := 0) (by assumption) (by wtm_at "mem") (by decide) (by decide) hv0 ?_ (by kernel_rfl)
      wtm_at "ss"
    case hT =>
      intro hb s₂ D₂
      wtm_at "ss"
      refine rGetSlice (vs := gvs) (by assumption) (St.lst ‹St z g₁ L' _ _ _› (by wtm_at "mem")).isList (by wtm_at "mem") (.int _ _) .none .none (by decide) (by rw [sizeLine_eq]; lia) ?_ (by kernel_rfl)
      intro ls s₃ D₃
      have e10 : (slicePick gvs.toArray (some 1) none none).toList = gvs.drop 1 := by
        show (slicePick gvs.toArray (some ((1 : Nat) : Int)) none none).toList = gvs.drop 1
        rw [slicePick_from']
      rw [e10] at D₃
      wtm_at "ss"
      refine rAddL (by assumption) (by wtm_at "mem") (by wtm_at "mem") (by simp; rw [sizeLine_eq]; lia) ?_
      intro aa s₄ D₄
      wtm_at "ss"
      refine ⟨rfl, hR _ (Mine.I9 _ [(aa, _)] _ _ aa _ (1 :: gs.drop 1) _ [Str.ofString ""] (Mine.a14 (by wtm_at "D") (by wtm_at "mget") (by wtm_at "mget") (by wtm_at "mget") ⟨_, by wtm_at "mget"⟩ ⟨_, by wtm_at "mget"⟩ ⟨_, by wtm_at "mget"⟩ (.cons _ _ .nil) (by simp) (.cons _ _ (hgs.drop 1)) ?_ ?_ (fun P => .head _) (fun rows hr => ?_)))⟩
      · simp; lia
      · intro g hg
        rcases List.mem_cons.mp hg with h | h
        · subst h; decide
        · exact hgb g (List.mem_of_mem_drop h)
      · unfold RowsOf
        rw [if_pos]
        · exact ⟨rows, rfl, hr⟩
        · rw [hw0]
          simp at hb
          simp
          lia
    case hF =>
      intro hb s₂ D₂
      wtm_at "ss"
      refine ⟨rfl, hR _ (Mine.I9 _ [] _ _ ga gvs gs _ [] (Mine.a14 D₂ (by wtm_at "mget") (by wtm_at "mget") (by wtm_at "mget") ⟨_, by wtm_at "mget"⟩ ⟨_, by wtm_at "mget"⟩ ⟨_, by wtm_at "mget"⟩ .nil (by simp) hgs hgl hgb (fun P => .tail _ hg) (fun rows hr => ?_)))⟩
      unfold RowsOf
      rw [if_neg, List.nil_append]
      · exact hr
      · intro q
        rw [hw0] at q
        simp [q.1] at hb
        have := q.2
        simp at this
        lia
  · clear D₄
    intro s₂ zh2
    refine Mine.E9 zh2 ?_
    clear zh2
    intro m₂ up ra rvs₀ aa avs as rm₀ r0 zk
    refine Mine.e0_14 zk ?_
    clear zk
    intro D₂ qw qr qa y1 y2 y3 hr0 hr0l has hasl hab ham hfin
    obtain ⟨tf, qf⟩ := y1
    obtain ⟨tr, qm⟩ := y2
    obtain ⟨twd, qd⟩ := y3
    have havl : avs.length = ws.length := has.length.trans hasl
    refine xWhile (IW32 z news wa ws width g₁ L' up ra aa as rm₀ r0) (ws.length - 0)
      ⟨0, m₂, rvs₀, [], rm₀, rfl, Nat.zero_le _, D₂, qw, qr, qa, ⟨tf, qf⟩, ⟨tr, qm⟩, ⟨twd, qd⟩, by rw [List.append_nil]; exact hr0, by simp, fun rows h => h⟩ ?_
    clear D₂ qw qr qa qf qm qd s₂ m₂
    intro n s₂ zh3
    refine Mine.E5 zh3 ?_
    try clear zh3
    intro i m' rvs dn rm zk32
    refine Mine.e0_12 zk32 ?_
    clear zk32
    intro zq4 hi D₂ qw qr qa zn5 zn6 zn7 hrv hdn hrest
    subst zq4
    obtain ⟨tf, qf⟩ := zn5
    obtain ⟨tr, qm⟩ := zn6
    obtain ⟨twd, qd⟩ := zn7
    have hrvl : rvs.length ≤ i + 1 := by rw [hrv.length, List.length_append]; lia
    refine' tCont D₂ ?ht ?hT ?hF
    case ht => wtm_at "ss"
    case hT =>
      intro hb s₃ D₃
      clear D₂
      have hlt : i < ws.length := by simpa [hwvl] using hb
      obtain ⟨w₁, hw₁⟩ : ∃ x, ws[i]? = some x := ⟨_, List.getElem?_eq_getElem hlt⟩
      obtain ⟨g₀, hg₁⟩ : ∃ x, as[i]? = some x := ⟨_, List.getElem?_eq_getElem (by lia)⟩
      obtain ⟨tw₁, hwv⟩ := hws.get i w₁ hw₁
      obtain ⟨tg₁, hgv⟩ := has.get i g₀ hg₁
      have hgb₁ := hab g₀ (List.mem_of_getElem? hg₁)
      have hwl₁ := hwl w₁ (List.mem_of_getElem? hw₁)
      have hmA := ham (isLst rvs)
      wtm_at "ss"
      refine rItem (k := (i : Int)) (by assumption) (by wtm_at "mem") (by lia) (by lia) (by rw [Int.toNat_natCast]; exact hgv) ?_ (by kernel_rfl)
      wtm_at "ss"
      refine rBlanks (by assumption) hgb₁.1 (by lia) ?_
      intro _ _ _
      wtm_at "ss"
      refine rItem (k := (i : Int)) (by assumption) (by wtm_at "mem") (by lia) (by lia) (by rw [Int.toNat_natCast]; exact hwv) ?_ (by kernel_rfl)
      wtm_at "ss"
      refine rCat (by assumption) (by rw [blk_len, sizeLine_eq]; lia) ?_
      intro _ s₄ D₄
      wtm_at "ss"
      refine xWhile (IW33 z news wa ws width g₁ L' up ra aa as i rvs rm w₁ g₀) (ws.length - (i + 1))
        ⟨i + 1, _, _, rfl, hlt, Nat.lt_succ_self i, by wtm_at "D", by wtm_at "mget", by wtm_at "mget", by wtm_at "mget", ⟨_, by wtm_at "mget"⟩, ⟨_, by wtm_at "mget"⟩, ⟨_, by wtm_at "mget"⟩, ⟨_, by wtm_at "mget"⟩, by rw [Str.length_append, blk_len]; lia, rfl⟩ ?_
      clear D₃ D₄ qf tf
      intro n s₅ zh8
      refine Mine.E3 zh8 ?_
      try clear zh8
      intro j m₅ row zk33
      refine Mine.e0_13 zk33 ?_
      clear zk33
      intro zq9 hj hij D₅ qw qr qa zn10 zn11 zn12 zn13 hrow hgrow
      subst zq9
      obtain ⟨tf, qf⟩ := zn10
      obtain ⟨tr, qm⟩ := zn11
      obtain ⟨twd, qd⟩ := zn12
      obtain ⟨tro, qro⟩ := zn13
      refine' tCont D₅ ?ht2 ?hT2 ?hF2
      case ht2 =>
        wtm_at "ss"
        have hlt2 : j < ws.length := by
          have hq := ‹decide ((j : Int) < (wvs.length : Int)) = true›
          rw [hwvl] at hq
          simpa using hq
        obtain ⟨w₂, hw₂⟩ : ∃ x, ws[j]? = some x := ⟨_, List.getElem?_eq_getElem hlt2⟩
        obtain ⟨g₂, hg₂⟩ : ∃ x, as[j]? = some x := ⟨_, List.getElem?_eq_getElem (by lia)⟩
        have ew : ws.getD j default = w₂ := by rw [List.getD_eq_getElem?_getD, hw₂]; rfl
        have eg : as.getD j 0 = g₂ := by rw [List.getD_eq_getElem?_getD, hg₂]; rfl
        obtain ⟨tw₂, hwv₂⟩ := hws.get j w₂ hw₂
        obtain ⟨tg₂, hgv₂⟩ := has.get j g₂ hg₂
        have hwl₂ := hwl w₂ (List.mem_of_getElem? hw₂)
        rw [← ew] at hwv₂ hwl₂
        rw [← eg] at hgv₂
        refine rItem (k := (j : Int)) (by assumption) (by wtm_at "mem") (by lia) (by lia) (by rw [Int.toNat_natCast]; exact hgv₂) ?_ (by kernel_rfl)
        wtm_at "ss"
        refine rItem (k := (j : Int)) (by assumption) (by wtm_at "mem") (by lia) (by lia) (by rw [Int.toNat_natCast]; exact hwv₂) ?_ (by kernel_rfl)
        wtm_at "ss"
      case hT2 =>
        intro hb s₆ D₆
        simp only [Bool.and_true, Bool.and_eq_true, decide_eq_true_eq] at hb
        have hlt2 : j < ws.length := by have := hb.1; lia
        obtain ⟨w₂, hw₂⟩ : ∃ x, ws[j]? = some x := ⟨_, List.getElem?_eq_getElem hlt2⟩
        obtain ⟨g₂, hg₂⟩ : ∃ x, as[j]? = some x := ⟨_, List.getElem?_eq_getElem (by lia)⟩
        obtain ⟨tw₂, hwv₂⟩ := hws.get j w₂ hw₂
        obtain ⟨tg₂, hgv₂⟩ := has.get j g₂ hg₂
        have hgb₂ := hab g₂ (List.mem_of_getElem? hg₂)
        have hwl₂ := hwl w₂ (List.mem_of_getElem? hw₂)
        have ew : ws.getD j default = w₂ := by rw [List.getD_eq_getElem?_getD, hw₂]; rfl
        have eg : as.getD j 0 = g₂ := by rw [List.getD_eq_getElem?_getD, hg₂]; rfl
        rw [ew, eg] at hb
        clear D₅
        wtm_at "ss"
        refine rItem (k := (j : Int)) (by assumption) (by wtm_at "mem") (by lia) (by lia) (by rw [Int.toNat_natCast]; exact hgv₂) ?_ (by kernel_rfl)
        wtm_at "ss"
        refine rBlanks (by assumption) hgb₂.1 (by lia) ?_
        intro _ _ _
        wtm_at "ss"
        refine rCat (by assumption) (by rw [blk_len, sizeLine_eq]; lia) ?_
        intro _ _ _
        wtm_at "ss"
        refine rItem (k := (j : Int)) (by assumption) (by wtm_at "mem") (by lia) (by lia) (by rw [Int.toNat_natCast]; exact hwv₂) ?_ (by kernel_rfl)
        wtm_at "ss"
        refine rCat (by assumption) (by rw [Str.length_append, blk_len, sizeLine_eq]; lia) ?_
        intro _ _ _
        wtm_at "ss"
        refine turn_next ⟨ws.length - (j + 1), by lia, (Mine.I3 (j + 1) _ _ (Mine.a13 rfl (by lia) (by lia) (by wtm_at "D") (by wtm_at "mget") (by wtm_at "mget") (by wtm_at "mget") ⟨_, by wtm_at "mget"⟩ ⟨_, by wtm_at "mget"⟩ ⟨_, by wtm_at "mget"⟩ ⟨_, by wtm_at "mget"⟩ ?_ ?_))⟩
        · rw [Str.length_append, Str.length_append, blk_len]; lia
        · rw [← hgrow, zdrop hg₂ hw₂, growRow, if_pos hb.2]
      case hF2 =>
        intro hb s₆ D₆
        clear D₅
        wtm_at "ss"
        have hend : growRow rm row ((as.zip ws).drop j) = (row, (as.zip ws).drop j) := by
          by_cases hlt2 : j < ws.length
          · obtain ⟨w₂, hw₂⟩ : ∃ x, ws[j]? = some x := ⟨_, List.getElem?_eq_getElem hlt2⟩
            obtain ⟨g₂, hg₂⟩ : ∃ x, as[j]? = some x := ⟨_, List.getElem?_eq_getElem (by lia)⟩
            have ew : ws.getD j default = w₂ := by rw [List.getD_eq_getElem?_getD, hw₂]; rfl
            have eg : as.getD j 0 = g₂ := by rw [List.getD_eq_getElem?_getD, hg₂]; rfl
            rw [ew, eg] at hb
            have hq : decide ((j : Int) < (wvs.length : Int)) = true := by rw [hwvl]; simpa using hlt2
            rw [hq, Bool.and_true, Bool.true_and, decide_eq_false_iff_not] at hb
            rw [zdrop hg₂ hw₂, growRow, if_neg hb]
          · rw [List.drop_of_length_le (by simp; lia)]; rfl
        refine turn_next ⟨ws.length - j, by lia, (Mine.I5 j _ _ (dn ++ [row]) width (Mine.a12 rfl hj (by wtm_at "D") (by wtm_at "mget") (by wtm_at "mget") (by wtm_at "mget") ⟨_, by wtm_at "mget"⟩ ⟨_, by wtm_at "mget"⟩ ⟨_, by wtm_at "mget"⟩ ?_ ?_ ?_))⟩
        · rw [← List.append_assoc]
          exact hrv.append' (.cons _ _ .nil)
        · simp; lia
        · intro rows hr
          have := hrest (row :: rows) (by
            rw [zdrop hg₁ hw₁]
            refine .cons (rest := (as.zip ws).drop j) ?_ hr
            rw [← hgrow, hend])
          rw [List.append_assoc]
          exact this
    case hF =>
      intro hb s₃ D₃
      have hge : i = ws.length := by simp [hwvl] at hb; lia
      wtm_at "ss"
      refine k _ _ _ _ hrv (hfin _ ?_) (back _ _ _ (St.sub (by assumption) (List.sublist_append_right _ _)))
      · have := hrest [] (by rw [List.drop_of_length_le (by simp; lia)]; exact .nil)
        rwa [List.append_nil] at this
end Mine
end

section
open PySem PySem.W PySem.W.X PyProof.Rows PySem.Calls
set_option maxHeartbeats 4000000
namespace Mine
/- ## _law_name -/
theorem inSl (c : Nat) : (!(Builtin.Str.occurrences (Str.ofString "/\\:;\"()") ⟨#[c]⟩ 0 (Str.ofString "/\\:;\"()").length 1).isEmpty) = decide (c ∈ [47, 92, 58, 59, 34, 40, 41]) := by
  rw [StrLaws.found_one]; rfl
theorem eqBl (c : Nat) : ((⟨#[c]⟩ : Str).cps.toList == (Str.ofString " ").cps.toList) = decide (c = 32) := by
  show ([c] == [32]) = _
  by_cases h : c = 32
  · subst h; rfl
  · simp [h]
structure NameJ (bl : Addr) (rows : List Str) (news : List Ent) (i : Nat) (m' : Str → Option Value) (news' : List Ent) : Prop where
  b : m' (Str.ofString "bodies") = some (.ref bl)
  ex : ∃ bvs, StrsAre bvs (bodiesS (rows.take i)) ∧ bvs.length ≤ i ∧ news' = (bl, isLst bvs) :: news
theorem name_call {w : World} {z s : Shared} {h₀ : Heap} {L : Addr} {A : Around} {E : Value → Shared → Prop} {Q : Value → Shared → Prop} {m : Str → Option Value} {news : List Ent} {ra : Addr} {rvs : List Value} {rows : List Str}
  (D : St z h₀ L m news s) (B : Gd w h₀) (hst : (cStatics, isStat z) ∈ news) (hA : A.depth < 440) (hh : A.handled = none) (hr : (ra, isLst rvs) ∈ news) (hrs : StrsAre rvs rows) (hn : rows.length ≤ 20) (hrl : ∀ x ∈ rows, x.length ≤ 400)
  (k : ∀ t s', St z h₀ L m news s' → Q (.str (nameS rows) t) s') :
  wpAny (model PySem.Challenge.rw_ny0227_01.row.prog w) A (call (.ref 257) [.ref ra]) Q E s := by
  have X : hd.heap_1 w.params = hd.heap_1 w.params := rfl
  revert X
  k_fill
  intro X; clear X
  refine' enter (binds := [(Str.ofString "rows", .ref ra)]) D B hst ?ho ?hcd (Nat.lt_trans hA (by decide)) ?hb ?hc ?hl ?c1 ?c2 ?c3 ?_
  case ho => k_is
  case hcd => k_is
  case hb => exact BindsTo.of_eq (by kernel_rfl)
  case hc => kernel_rfl
  case hl => kernel_rfl
  case c1 => kernel_rfl
  case c2 => kernel_rfl
  case c3 => kernel_rfl
  intro g₁ L' s₁ env D₁ B₁ hE hEq back
  clear hEq
  replace hh : (A.deeper env).handled = none := hh
  dsimp only [bm] at D₁
  wtm_at "ss"
  rename_i bl _ _ _ _
  have hrvl : rvs.length = rows.length := hrs.length
  refine iterList (NameJ bl rows news) (by assumption) hh (St.lst ‹St z g₁ L' _ _ _› (by wtm_at "mem")).isList ⟨by wtm_at "mget", _, .nil, by simp, rfl⟩ ?_ ?_ ?_
  · intro i m' news' e s' zh1 D'
    obtain ⟨_, bvs, _, _, rfl⟩ := zh1
    exact (D'.lst (by wtm_at "mem")).isList
  · intro i v m' news' it s' hv zh2 D'
    obtain ⟨hb, bvs, SB, hbl, rfl⟩ := zh2
    refine Mine.e2_2 (hrs.item i v hv) ?_
    intro y t zq3 hy
    subst zq3
    have hyl := hrl y (List.mem_of_getElem? hy)
    have hlt : i < rows.length := (List.getElem?_eq_some_iff.mp hy).1
    have htk : rows.take (i + 1) = rows.take i ++ [y] := by rw [List.take_add_one, hy]; rfl
    have hst : bodiesS (rows.take (i + 1)) = bodiesS (rows.take i) ++ (if (y.length != 0) = true then [bodyS y] else []) := by
      unfold bodiesS
      rw [htk, List.filter_append, List.map_append]
      congr 1
      by_cases q : (y.length != 0) = true
      · simp [List.filter_cons, q]
      · simp [List.filter_cons, q]
    wtm_at "ss"
    refine' xIfT (by assumption) ?ht ?hT ?hF
    case ht => wtm_at "ss"
    case hT =>
      intro hb2 s₂ D₂
      refine xAsgCompS mapc (by assumption) hh (by assumption) (by kernel_rfl) (by kernel_rfl) (by kernel_rfl) (by kernel_rfl) (by kernel_rfl) (by kernel_rfl) (by kernel_rfl) ?_ (fun _ => by kernel_rfl)
      wtm_at "ss"
      refine rStripC (by assumption) (by wtm_at "size") ?_
      intro _ _ _
      have hsl := stripC_len y
      refine Mine.I2 _ _ (Mine.a5 rfl (by lia) (by assumption) ?_ ?_)
      · intro C cenv c u s₃ m₃ E' hE' hc K hm
        refine kIfE (b := decide (c = 32)) (I := KS s₃ C m₃) ?_ (fun hb s₄ K₄ => ?_) (fun hb s₄ K₄ => ?_)
        · refine PySem.wpAny_isTrue_Compare1 (kNmL K hE' (by kernel_rfl) hm (kStr K fun t₁ s₄ K₄ => P.eq_str (rTruB ⟨?_, K₄⟩)) (by kernel_rfl)) (by kernel_rfl)
          exact eqBl c
        · have hc : c = 32 := by simpa using hb
          exact kStr K₄ fun t₁ s₅ K₅ => ⟨⟨t₁, by unfold mapc; rw [if_pos hc]⟩, K₅⟩
        · have hc : ¬ c = 32 := by simpa using hb
          refine kIfE (b := decide (c ∈ [47, 92, 58, 59, 34, 40, 41])) (I := KS s₃ C m₃) ?_ (fun hb s₄ K₄ => ?_) (fun hb s₄ K₄ => ?_)
          · refine PySem.wpAny_isTrue_Compare1 (kNmL K₄ hE' (by kernel_rfl) hm (kStr K₄ fun t₁ s₅ K₅ => P.in_str (rTruB ⟨?_, K₅⟩)) (by kernel_rfl)) (by kernel_rfl)
            exact inSl c
          · exact kStr K₄ fun t₁ s₅ K₅ => ⟨⟨t₁, by unfold mapc; rw [if_neg hc, if_pos (by simpa using hb)]⟩, K₅⟩
          · exact kNmL K₄ hE' (by kernel_rfl) hm ⟨⟨_, by unfold mapc; rw [if_neg hc, if_neg (by simpa using hb)]⟩, K₄⟩ (by kernel_rfl)
      · intro ll ys s₃ SY D₃
        have hjl := join_mapc_len (Txt.stripChars y (Str.ofString " ")).cps.toList
        rw [← len_toList] at hjl
        have hbl1 := bodyS_len y
        have hs0 : (Str.ofString "").length = 0 := rfl
        have hok1 : JoinOk (Str.ofString "") ((Txt.stripChars y (Str.ofString " ")).cps.toList.map mapc) = true := by
          refine joinOk_of (n := 1000) ?_ (by lia)
          rw [hs0, List.map_map]
          have : ((Txt.stripChars y (Str.ofString " ")).cps.toList.map ((fun x : Str => x.length) ∘ mapc)).sum = (Txt.stripChars y (Str.ofString " ")).cps.toList.length := by
            have e : ((fun x : Str => x.length) ∘ mapc) = fun _ => 1 := by
              funext c
              show (mapc c).length = 1
              rw [len_toList, mapc_n]; rfl
            rw [e]
            induction (Txt.stripChars y (Str.ofString " ")).cps.toList with
            | nil => rfl
            | cons a b ih => simp [ih]; lia
          rw [this, ← len_toList]
          lia
        wtm_at "ss"
        refine rJoin (by assumption) (by wtm_at "mem") SY hok1 ?_
        intro _ _ _
        wtm_at "ss"
        refine rSplitS (by assumption) (by kernel_rfl) (by lia) ?_
        intro sl svs s₅ SS D₅
        wtm_at "ss"
        have hs1 := split_sum (Txt.join (Str.ofString "") ((Txt.stripChars y (Str.ofString " ")).cps.toList.map mapc)) (Str.ofString "unknown")
        refine rJoin (by assumption) (by wtm_at "mem") SS (joinOk_of (n := 1000) (by rw [hs0]; lia) (by lia)) ?_
        intro _ _ _
        wtm_at "ss"
        refine turn_next (Mine.i2_2 _ _ ?_ (by wtm_at "D"))
        refine ⟨by wtm_at "mget", (Mine.i1_3 _ ?_ ?_ rfl)⟩
        · rw [hst, if_pos hb2]
          exact SB.append' (.cons _ _ .nil)
        · simp; lia
    case hF =>
      intro hb2 s₂ D₂
      wtm_at "ss"
      refine turn_next (Mine.i2_2 _ _ ?_ (by assumption))
      refine ⟨by wtm_at "mget", (Mine.i1_3 bvs ?_ (by lia) rfl)⟩
      rw [hst, hb2]
      simpa using SB
  · intro m' news' s' zh4 D'
    obtain ⟨hb, bvs, SB, hbl, rfl⟩ := zh4
    rw [List.take_of_length_le (by lia)] at SB
    have hbs : ∀ x ∈ bodiesS rows, x.length ≤ 400 := by
      intro x hx
      unfold bodiesS at hx
      refine Mine.e1_2 (List.mem_map.mp hx) ?_
      intro r hr zq5
      subst zq5
      exact Nat.le_trans (bodyS_len r) (hrl r (List.mem_filter.mp hr).1)
    have hbn : (bodiesS rows).length ≤ 20 := by rw [← SB.length]; lia
    have hsum := sum_le hbs
    have hsum2 : ((bodiesS rows).map (·.length)).sum ≤ 8000 := Nat.le_trans hsum (Nat.le_trans (Nat.mul_le_mul_right 400 hbn) (by decide))
    have hone : (Str.ofString "-").length = 1 := rfl
    have hjl := join_len (Str.ofString "-") (bodiesS rows)
    rw [hone, Nat.mul_one] at hjl
    wtm_at "ss"
    refine rJoin (by assumption) (by wtm_at "mem") SB (joinOk_of (n := 10000) (by rw [hone]; lia) (by lia)) ?_
    intro _ _ _
    wtm_at "ss"
    refine rSplitS (by assumption) (by kernel_rfl) (by lia) ?_
    intro pl pvs s₂ SP D₂
    have hps := split_sum_len (Txt.join (Str.ofString "-") (bodiesS rows))
    have hpl : pvs.length ≤ 10000 := by rw [SP.length]; lia
    generalize hP : Txt.split (Txt.join (Str.ofString "-") (bodiesS rows)) (Str.ofString "-") = pieces at *
    have hpn : pvs.length = pieces.length := SP.length
    have hpb : ∀ x ∈ pieces, x.length ≤ 9000 := fun x hx => by
      have := mem_sum hx
      lia
    wtm_at "ss"
    refine rGetSlice (vs := pvs) (by assumption) (St.lst ‹St z g₁ L' _ _ _› (by wtm_at "mem")).isList (by wtm_at "mem") .none (.int _ _) .none (by decide) (by rw [sizeLine_eq]; lia) ?_ (by kernel_rfl)
    intro l1 s₃ D₃
    have e1 : (slicePick pvs.toArray none (some 1) none).toList = pvs.take 1 := by
      show (slicePick pvs.toArray none (some ((1 : Nat) : Int)) none).toList = pvs.take 1
      rw [slicePick_upto']
    rw [e1] at D₃
    wtm_at "ss"
    refine' rCompF (by assumption) hh (by assumption) (by kernel_rfl) (by kernel_rfl) (by kernel_rfl) (by kernel_rfl) (by kernel_rfl) (by kernel_rfl) ?h (fun _ => by kernel_rfl)
    case h =>
      wtm_at "ss"
      refine rGetSlice (vs := pvs) (by assumption) (St.lst ‹St z g₁ L' _ _ _› (by wtm_at "mem")).isList (by wtm_at "mem") (.int _ _) .none .none (by decide) (by rw [sizeLine_eq]; lia) ?_ (by kernel_rfl)
      intro l2 s₄ D₄
      have e2 : (slicePick pvs.toArray (some 1) none none).toList = pvs.drop 1 := by
        show (slicePick pvs.toArray (some ((1 : Nat) : Int)) none none).toList = pvs.drop 1
        rw [slicePick_from']
      rw [e2] at D₄
      refine Mine.I5 l2 (pvs.drop 1) (pieces.drop 1) _ _ (Mine.a7 rfl ?_ ?_ (SP.drop' 1) (.head _) D₄ ?_)
      · simp; lia
      · intro y hy; have := hpb y (List.mem_of_mem_drop hy); lia
      · intro l3 ys s₅ SY D₅
        have hyl : ys.length ≤ pvs.length := by
          rw [SY.length, hpn]
          exact Nat.le_trans (List.length_filter_le _ _) (by simp)
        refine rAddL (by assumption) (by wtm_at "mem") (by wtm_at "mem") (by simp; rw [sizeLine_eq]; lia) ?_
        intro l4 s₆ D₆
        have SA := (SP.take' 1).append' SY
        refine rJoin (by assumption) (by wtm_at "mem") SA (joinOk_of (n := 20000) ?_ (by lia)) ?_
        · have hsub : (pieces.take 1 ++ (pieces.drop 1).filter fun x => x.length != 0).Sublist pieces := by
            have := (List.Sublist.refl (pieces.take 1)).append (List.filter_sublist (l := pieces.drop 1) (p := fun x => x.length != 0))
            rwa [List.take_append_drop] at this
          have h1 := sum_sub hsub
          have h2 := hsub.length_le
          rw [hone]
          lia
        · intro t' s₇ D₇
          have hnm : nameS rows = Txt.join (Str.ofString "-") (pieces.take 1 ++ (pieces.drop 1).filter fun x => x.length != 0) := by unfold nameS; rw [hP]
          rw [← hnm]
          exact k _ _ (back _ _ _ (St.sub (by assumption) (by wtm_at "subl")))
end Mine
end

section
open PySem PySem.W PySem.W.X PyProof.Rows PySem.Calls
set_option maxRecDepth 100000
namespace Mine
noncomputable def stagesE (P : Params) : Array DictEntry :=
  #[⟨PyData.keyHash P (Str.ofString "dev"), .str (Str.ofString "dev") 338, .int 10 339⟩, ⟨PyData.keyHash P (Str.ofString "alpha"), .str (Str.ofString "alpha") 340, .int 20 341⟩, ⟨PyData.keyHash P (Str.ofString "a"), .str (Str.ofString "a") 342, .int 20 343⟩, ⟨PyData.keyHash P (Str.ofString "beta"), .str (Str.ofString "beta") 344, .int 30 345⟩, ⟨PyData.keyHash P (Str.ofString "b"), .str (Str.ofString "b") 346, .int 30 347⟩, ⟨PyData.keyHash P (Str.ofString "c"), .str (Str.ofString "c") 348, .int 40 349⟩, ⟨PyData.keyHash P (Str.ofString "RC"), .str (Str.ofString "RC") 350, .int 50 351⟩, ⟨PyData.keyHash P (Str.ofString "rc"), .str (Str.ofString "rc") 352, .int 50 353⟩, ⟨PyData.keyHash P (Str.ofString "pl"), .str (Str.ofString "pl") 354, .int 200 355⟩, ⟨PyData.keyHash P (Str.ofString "p"), .str (Str.ofString "p") 356, .int 200 357⟩]
noncomputable def stagesK : List (Str × Value) := [(Str.ofString "dev", .int 10 339), (Str.ofString "alpha", .int 20 341), (Str.ofString "a", .int 20 343), (Str.ofString "beta", .int 30 345), (Str.ofString "b", .int 30 347), (Str.ofString "c", .int 40 349), (Str.ofString "RC", .int 50 351), (Str.ofString "rc", .int 50 353), (Str.ofString "pl", .int 200 355), (Str.ofString "p", .int 200 357)]
theorem stages_look (P : Params) : (hd.heap_1 P).lookup 44 = some { cls := .type "dict", data := .dict (stagesE P) 10 } := by kernel_rfl
theorem stages_tab {prog : Program} {w : World} {h : Heap} (X : (Kx w.params).In h) : TabAt (strKind prog w) PyData.str h 44 ranksT := by
  have ho := X 44 _ ((kx_look (by decide)).trans (stages_look w.params))
  refine TabAt.ofObj (kvs := stagesK) (by decide) ho ⟨stagesE w.params, 10, ⟨rfl, rfl, rfl⟩, rfl, ?_, ?_, by decide +kernel⟩ ?_
  · intro e he
    have hk : KeysLit w.params (stagesE w.params).toList := by
      unfold stagesE KeysLit
      repeat (first | exact trivial | refine ⟨⟨_, _, rfl, rfl⟩, ?_⟩)
    refine Mine.e2_2 (hk.all e (Array.mem_toList_iff.mpr he)) ?_
    intro x t e1 e2
    exact ⟨x, by rw [e1]; exact strKind_is prog w x t, e2⟩
  · unfold stagesE stagesK
    repeat (first | exact .nil | refine .cons (strKind_is prog w _ _) rfl ?_)
  · unfold stagesK ranksT
    repeat (first | exact .nil | refine .cons (.int _ _) ?_)
theorem rVer {w : World} {z : Shared} {prog : Program} {A : Around} {E : Value → Shared → Prop} {h₀ : Heap} {s : Shared} {L : Addr} {m : Str → Option Value} {news : List Ent} {x : Str} {t u : Tok} {Q : Value → Shared → Prop} (D : St z h₀ L m news s) (B : Gd w h₀) (h : ∀ t' s', St z h₀ L m news s' → Q (.int (rankOf x) t') s') :
    wpAny (model prog w) A (call (.builtin "dict.get") [.ref 44, .str x t, .int 0 u]) Q E s :=
  call_get2_tab_int (knd := strKind prog w) (enc := PyData.str) (fun a b => PyProof.Rows.same_str' a b) (strKind_is prog w x t) (stages_tab (D.X B)) ranksT_sh fun t' => h _ _ (D.tok _)
theorem rVerMeth {w : World} {z : Shared} {prog : Program} {A : Around} {E : Value → Shared → Prop} {h₀ : Heap} {s : Shared} {L : Addr} {m : Str → Option Value} {news : List Ent} {pl : Sem Bool} {Q : Value × List Value → Shared → Prop} (D : St z h₀ L m news s) (B : Gd w h₀) (h : Q (.builtin "dict.get", [.ref 44]) s) :
    wpAny (model prog w) A (getMethod (.ref 44) (Str.ofString "get") pl) Q E s := getMethod_strTab_get (stages_tab (D.X B)) h
end Mine
end

section
open PySem PySem.W PySem.W.X PyProof.Rows PySem.Calls
set_option maxRecDepth 100000
namespace Mine
section
variable {w : World} {prog : Program} {A : Around} {E : Value → Shared → Prop} {s : Shared} {env : Env} {Q : Value → Shared → Prop}
theorem cfT2 {pos : Pos} {T : String} {e f : Expr} (h : wpAny (model prog w) A (eval e env) (fun v s₁ => wpAny (model prog w) A (eval f env) (fun v₂ s₂ => wpAny (model prog w) A (call (.type T) [v, v₂]) Q E s₂) E s₁) E s)
    (he : starEach [e, f] env = (false, eval e env) :: starEach [f] env) (he2 : starEach [f] env = (false, eval f env) :: starEach [] env) :
    wpAny (model prog w) A (callWith pos (.type T) [] (backTo pos (starEach [e, f] env)) []) Q E s :=
  PyProof.Rows.callWith_type1 (splC (wpAny_mono h (fun v s₁ q => splC (wpAny_mono q (fun v₂ s₂ q₂ => splN q₂) fun _ _ e => e) he2) fun _ _ e => e) he) he (by rw [he2]; rfl)
theorem cfT1 {pos : Pos} {T : String} {e : Expr} (h : wpAny (model prog w) A (eval e env) (fun v s₁ => wpAny (model prog w) A (call (.type T) [v]) Q E s₁) E s)
    (he : starEach [e] env = (false, eval e env) :: starEach [] env) :
    wpAny (model prog w) A (callWith pos (.type T) [] (backTo pos (starEach [e] env)) []) Q E s :=
  PyProof.Rows.callWith_type1 (splC (wpAny_mono h (fun v s₁ q => splN q) fun _ _ e => e) he) he rfl
end
end Mine
end

section
open PySem PySem.W PySem.W.X PyProof.Rows PySem.Calls
set_option maxRecDepth 100000
namespace Mine
/- ## _comparable_version -/
noncomputable def sepPiece (v : Str) : Bool := !(Builtin.Str.occurrences (Str.ofString "._+-") v 0 (Str.ofString "._+-").length 1).isEmpty
noncomputable def isFig (v : Str) : Bool := v.cps.all isDg
noncomputable def cvOf (ps : List Str) : List PyData := ps.flatMap fun v => if sepPiece v then [] else if isFig v then [.int 100, .int (numL v.cps.toList)] else [.int (rankOf v), .str v]
noncomputable def PieceOk (v : Str) : Prop := v.length ≤ 600 ∧ (sepPiece v = true ∨ (v.cps.toList ≠ [] ∧ ((∀ c ∈ v.cps.toList, 48 ≤ c ∧ c ≤ 57) ∨ (∀ c ∈ v.cps.toList, 65 ≤ c ∧ c < 128))))
theorem cut_len (tk : Nat → Nat) (tx : Array Nat) : ∀ f l, (cut tk tx f l).length ≤ 2 * f + 1
  | 0, l => by simp [cut]
  | f + 1, l => by
    rw [cut]
    split
    · simp
    · rename_i q _
      have := cut_len tk tx f (q + tk q)
      simp; lia
end Mine
end

section
open PySem PySem.W PySem.W.X PyProof.Rows PySem.Calls
set_option maxRecDepth 100000
namespace Mine
/- filter -/
theorem slot_filter_next : Slot "filter" "__next__" "filter.__next__" :=
  .of (owner := "filter") (n := "__next__") (by rw [typeLookup_type, builtinLookup_eq_fast]; kernel_rfl) (by decide +kernel) (by decide +kernel) (by decide +kernel)
    (by first | exact .inl (by decide +kernel) | exact .inr (by decide +kernel)) (by rw [isSubtype_type]; kernel_rfl)
theorem slot_filter_init : Slot "filter" "__init__" "object.__init__" :=
  .of (owner := "object") (n := "__init__") (by rw [typeLookup_type, builtinLookup_eq_fast]; kernel_rfl) (by decide +kernel) (by decide +kernel) (by decide +kernel)
    (by first | exact .inl (by decide +kernel) | exact .inr (by decide +kernel)) (by rw [isSubtype_type]; kernel_rfl)
theorem slot_filter_iter : Slot "filter" "__iter__" "filter.__iter__" :=
  .of (owner := "filter") (n := "__iter__") (by rw [typeLookup_type, builtinLookup_eq_fast]; kernel_rfl) (by decide +kernel) (by decide +kernel) (by decide +kernel)
    (by first | exact .inl (by decide +kernel) | exact .inr (by decide +kernel)) (by rw [isSubtype_type]; kernel_rfl)
theorem entry_filter_next : entryFor table "filter.__next__" = some Builtin.«filter.__next__» := entryFor_of_tree (by kernel_rfl)
theorem entry_filter_new : entryFor table "filter.__new__" = some Builtin.«filter.__new__» := entryFor_of_tree (by kernel_rfl)
theorem mro_filter : mroOf (.type "filter") = pure [.type "filter", .type "object"] := by rw [mroOf_type]; kernel_rfl
theorem lookup_filter_new : typeLookup (.type "filter") "__new__" = pure (some (.builtin "filter.__new__")) := by rw [typeLookup_type, builtinLookup_eq_fast]; kernel_rfl
theorem called_filter : TypeCalled "filter" "filter.__new__" "object.__init__" :=
  ⟨by decide +kernel, by decide +kernel, ⟨_, _, mro_filter⟩, madeBy_type mro_filter lookup_filter_new (by decide +kernel), by decide +kernel, by rw [isSubtype_type]; kernel_rfl, slot_filter_init⟩
theorem sub_filter : isSubtype (.type "filter") (.type "filter") = pure true := by rw [isSubtype_type]; kernel_rfl
noncomputable abbrev filH1 (h : Heap) (T : Addr) : Heap := h.push { cls := .type "tuple_iterator", data := .fields #[.ref T, .int 0 0] }
noncomputable abbrev filH2 (h : Heap) (T : Addr) : Heap := (filH1 h T).push { cls := .type "filter", data := .fields #[.builtin "len", .ref h.objs.size] }
theorem meets_filter_new (T : Addr) (items : Array Value) :
    Meets (Builtin.«filter.__new__» ⟨[.type "filter", .builtin "len", .ref T], []⟩) (fun _ R s => s.heap.IsTuple T items ∧
      R (.ok (.ret (.ref (filH1 s.heap T).objs.size))) { s with heap := filH2 s.heap T }) :=
  .of_wp fun prog w A R s h => by
    obtain ⟨hp, g, d, tk, os⟩ := s; obtain ⟨hl1, h⟩ := h
    have hsub := sub_filter
    have hL1 : Heap.IsTuple (Shared.heap ⟨hp, g, d, tk, os⟩) T items := hl1
    wp_walk using wpAny_pyIter_tuple hL1
    exact ⟨_, rfl, h⟩
theorem call_filter {prog : Program} {w : World} {A : Around} {E : Value → Shared → Prop} {s : Shared} {T : Addr} {items : Array Value} {Q : Value → Shared → Prop} (hT : s.heap.IsTuple T items)
    (h : Q (.ref (filH1 s.heap T).objs.size) { s with heap := filH2 s.heap T }) : wpAny (model prog w) A (call (.type "filter") [.builtin "len", .ref T]) Q E s :=
  callType_new called_filter (by decide) (by kernel_rfl) (by kernel_rfl) (fun obj => F.args_object_init_3 obj _ _) entry_filter_new
    (meets_filter_new T items) ⟨hT, ⟨_, Heap.get?_push_size _ rfl, rfl⟩, h⟩
end Mine
end

section
open PySem PySem.W PySem.W.X PyProof.Rows PySem.Calls
set_option maxRecDepth 100000
namespace Mine
/- generator expressions -/
noncomputable def isTab : Obj → Prop := fun o => ∃ ps, o = tabObj ps ∧ TriplesOk ps.toList
/- a state that grew since t, the base kept -/
structure K0 (h₀ : Heap) (t : Shared) (C : Addr) (m : Str → Option Value) (s : Shared) : Prop where
  kp : Keeps t s
  ns : s.heap.Ns C m
  hb : ∀ b o, h₀.get? b = some o → s.heap.get? b = some o
/- a generator just made -/
noncomputable def GenX (prog : Program) (w : World) (A : Around) (h₀ : Heap) (L : Addr) (news : List Ent) (a : Addr) (n : Nat) (F : Nat → Value → Prop) (s : Shared) : Prop :=
  ∃ fp wr g S, WalksS prog w A.in4 a fp wr (GenOnlyQ g) n F S ∧ S 0 s ∧ (∀ i s', S i s' → s'.TypeIs (.ref a) "generator") ∧ a ∈ fp ∧ (∀ b ∈ fp, b < s.heap.objs.size) ∧ ∀ b ∈ wr, b ∉ news.map (·.1) ∧ h₀.get? b = none ∧ b ≠ L
section
variable {w : World} {z : Shared} {prog : Program} {A : Around} {E : Value → Shared → Prop} {h₀ : Heap} {s : Shared} {L : Addr} {m : Str → Option Value} {news : List Ent} {env : Env} {names : List (Str × NameKind)} {Q : Value → Shared → Prop}
theorem rGenCode {c P : Addr} {pos : Pos} {qual : Str} {scope : Scope} (D : St z h₀ L m news s) (hc : env.code = .ref c) (hcd : CodeHd h₀ c P) (hP : (P, isTab) ∈ news)
    (h : ∀ code h' tk, St z h₀ L m news { s with heap := h', toks := tk } → Heap.ExtBut P s.heap h' → s.heap.objs.size ≤ h'.objs.size → Q code { s with heap := h', toks := tk }) : wpAny (model prog w) A (genexprCode env pos qual scope) Q E s := by
  obtain ⟨o, ho, ps, rfl, htr⟩ := D.get hP
  have hcd' := hcd.keeps (fun b o e => D.keep e)
  cases hf : codeAmong pos ps.toList with
  | some c' => exact wpAny_genexprCode_hit hc (hcd'.code ho htr) hf (h c' s.heap s.toks D (fun _ _ _ e => e) (Nat.le_refl _))
  | none =>
    refine posTok D (wpAny_genexprCodeX hc (hcd'.code ho htr) (hcd'.tab ho) hf fun c' h' tk hx hge hlt hcode' _ htab' _ htk => h _ _ _ ?_ hx (Nat.le_trans hge (Nat.le_of_lt hlt)))
    exact D.turn tk (Rep.self hP) (fun b o hb e => hx b o hb e) ⟨_, htab'.2, _, rfl, by
      have hl : (ps ++ #[rawInt pos.line, rawInt pos.col, Value.ref c']).toList = ps.toList ++ [rawInt pos.line, rawInt pos.col, .ref c'] := by simp
      rw [hl]; exact TriplesOk_snoc _ _ _ _ htr⟩ htk
theorem St.moved {wr : List Addr} {g : Nat} {s' : Shared} (D : St z h₀ L m news s) (hm : Moved wr (GenOnlyQ g) s s') (hw : ∀ b ∈ wr, b ∉ news.map (·.1) ∧ h₀.get? b = none ∧ b ≠ L) : St z h₀ L m news s' := by
  refine Mine.e3_2 (D.led.fr.ns) ?_
  intro oL es ep eL r
  refine ⟨⟨⟨⟨oL, es, ep, hm.heap _ _ (fun q => (hw _ q).2.2 rfl) eL, r⟩, fun b o e => hm.heap b o (fun q => by rw [(hw _ q).2.1] at e; cases e) (D.keep e), D.led.fr.above⟩, fun p hp => ⟨?_, (D.led.nw p hp).2⟩, D.led.ord⟩, hm.drawn.trans D.dr, hm.os.trans D.os, AllBare.movedS D.gb hm, Nat.lt_of_lt_of_le D.tk hm.toks⟩
  refine Mine.e1_2 ((D.led.nw p hp).1) ?_
  intro o e q
  exact ⟨o, hm.heap _ _ (fun q => (hw _ q).1 (List.mem_map_of_mem hp)) e, q⟩
theorem envG {scope : Scope} {C : Addr} {code : Value} (hE : EnvIs env L names) (hk : scope.kind = .function) : EnvIs (genEnv scope [] C code builtinsNs env) C scope.names :=
  ⟨hk, rfl, hE.gl, rfl, rfl⟩
theorem pass_all (n : Nat) : passing (fun _ => true) n 0 = List.range n := by simp [passing]
theorem genSt {h' h₅ : Heap} {tk tk₅ : Nat} {gs : GenState} (D : St z h₀ L m news { s with heap := h', toks := tk }) (hgb : gs.bare = true) (hk : ∀ b o, h'.get? b = some o → h₅.get? b = some o) (ht : 0 < tk₅) :
    St z h₀ L m news { s with heap := h₅, toks := tk₅, gens := s.gens.push gs } :=
  ⟨D.led.keeps hk, D.dr, D.os, D.gb.push hgb, ht⟩
theorem genMade {s₄ s₅ : Shared} {wr : List Addr} {g n : Nat} {F : Nat → Value → Prop} {a : Addr} {pz : Nat → Bool} {n₀ : Nat} {fq : List Addr} {F' : Nat → Value → Prop} {C : Addr} (D : St z h₀ L m news s₄) (hwr : ∀ b ∈ wr, b ∉ news.map (·.1) ∧ h₀.get? b = none ∧ b ≠ L)
    (W : WalksS prog w A.in4 a (a :: s₄.heap.objs.size :: List.range s₄.heap.objs.size) (s₄.heap.objs.size :: wr) (GenOnlyQ g) n (fun j y => ∃ i, (List.range n)[j]? = some i ∧ F i y) (GenAt prog w A.in4 a g C fq wr pz n₀ F'))
    (hat : GenAt prog w A.in4 a g C fq wr pz n₀ F' 0 s₅) (hag : s₄.heap.objs.size < a) (hsz : s₅.heap.objs.size = a + 1) : GenX prog w A h₀ L news a n F s₅ := by
  refine Mine.I4 _ _ _ _ (Mine.a6 (W.imp (fun j y q => ?_)) hat (fun i s' st => st.1.typeIs) List.mem_cons_self (fun b hb => ?_) (fun b hb => ?_))
  · refine Mine.e1_2 q ?_
    try clear q
    intro i e q
    obtain ⟨hj, e⟩ := List.getElem?_eq_some_iff.mp e
    rw [List.getElem_range] at e
    subst e; exact q
  · rw [hsz]
    rcases List.mem_cons.mp hb with rfl | hb
    · exact Nat.lt_succ_self _
    · rcases List.mem_cons.mp hb with rfl | hb
      · exact Nat.lt_succ_of_lt hag
      · exact Nat.lt_succ_of_lt (Nat.lt_trans (List.mem_range.mp hb) hag)
  · rcases List.mem_cons.mp hb with rfl | hb
    · refine ⟨fun q => ?_, ?_, fun q => ?_⟩
      · refine Mine.e1_2 (List.mem_map.mp q) ?_
        intro p hp e
        refine Mine.e1_2 ((D.led.nw p hp).1) ?_
        intro o ho zu1
        exact absurd (Heap.lt_size ho) (by rw [e]; exact Nat.lt_irrefl _)
      · cases q : h₀.get? s₄.heap.objs.size with
        | none => rfl
        | some o => exact absurd (Heap.lt_size (D.keep q)) (Nat.lt_irrefl _)
      · exact absurd D.led.fr.ns.lt (by rw [← q]; exact Nat.lt_irrefl _)
    · exact hwr b hb
/- a generator expression with one name, made -/
theorem rGenN {elt iter : Expr} {x : Str} {px : Pos} {scope : Scope} {pos : Pos} {c Pt : Addr}
    {news₀ : List Ent} (D₀ : St z h₀ L m news₀ s) (B : Gd w h₀) (hE : EnvIs env L names) (hcode : env.code = .ref c) (hcd : CodeHd h₀ c Pt) (hh : A.handled = none) (hroom : A.depth < recursionLimit) (hclos : closureFor scope env = pure [])
    (hco : scope.isCoroutine = false) (hcell : (scope.names.all fun x => x.2 != .cell) = true) (h0 : scope.names.lookup (".0" : Str) = some NameKind.local) (hx : scope.names.lookup x = some .local) (hkind : scope.kind = .function)
    (h : wpAny (model prog w) A (eval iter env) (fun xv s₁ => wpAny (model prog w) A (pyIter xv) (fun it s₂ => ∃ news I fp wr n P S F, it = .ref I ∧ St z h₀ L m news s₂ ∧ (Pt, isTab) ∈ news ∧ (cStatics, isStat z) ∈ news ∧
      (∀ A' : Around, A'.handled = none → Walks prog w A' I fp wr n P S) ∧ S 0 s₂.heap ∧ (∀ b ∈ fp, b < s₂.heap.objs.size) ∧ Pt ∉ fp ∧ (∀ b ∈ wr, b ∉ news.map (·.1) ∧ h₀.get? b = none ∧ b ≠ L) ∧
      (∀ C cenv (A' : Around) E' i v (t : Shared) m₂, A'.handled = none → EnvIs cenv C scope.names → P i v → K0 h₀ t C m₂ t → m₂ x = some v → wpAny (model prog w) A' (eval elt cenv) (fun y s₃ => F i y ∧ K0 h₀ t C m₂ s₃) E' t) ∧
      (∀ a s', St z h₀ L m news s' → GenX prog w A h₀ L news a n F s' → Q (.ref a) s')) E s₁) E s)
    (hs : ∀ x, genFold iter env x = pure x) :
    wpAny (model prog w) A (eval (.GeneratorExp elt [⟨.Name x px, iter, [], 0⟩] scope pos) env) Q E s := by
  refine posTok D₀ (wpAny_GeneratorExp_walksQD hh hco hclos (fun y hy => by have := List.all_eq_true.mp hcell y hy; simpa using this) h0 hx hkind hroom (wpAny_mono h (fun xv s₁ h₁ => wpAny_mono h₁ (fun it s₂ h₂ => ?_) fun _ _ e => e) fun _ _ e => e) hs)
  refine Mine.E8 h₂ ?_
  try clear h₂
  intro news I fp wr n P S F zk4
  refine Mine.e0_11 zk4 ?_
  clear zk4
  intro zq2 D hPt hst W₀ hS hfp hPf hwr hel hQ
  subst zq2
  refine ⟨D.nl hst, rGenCode D hcode hcd hPt fun code h' tk D' hx' hsz => ?_⟩
  refine Mine.E3 (B.bm) ?_
  intro mg bm' ob M
  have M' := M.keeps (h' := h') (fun b o e => D'.keep e)
  have hg := hE.gl
  refine wpAny_builtinsFor (by rw [hg]; exact M'.ns) M'.name M'.ne M'.obj M'.cls M'.dict M'.data ?_
  have hbase : ∀ b o, h₀.get? b = some o → h'.get? b = some o := fun b o e => D'.keep e
  refine Mine.I8 I fp wr n P S (fun _ => true) F (Mine.a8 rfl W₀ ((W₀ A hh).frame _ _ _ hS (fun b hb o e => hx' b o (fun q => hPf (q ▸ hb)) e)) (fun b hb => Nat.lt_of_lt_of_le (hfp b hb) hsz) (D'.nl hst) (fun q => (hwr _ q).1 (List.mem_map_of_mem hst)) (fun href hk => ?_) (fun a h₅ tk₅ gs hgb hag hsz₅ hk₅ W hat => ?_))
  · refine ⟨fun A' E' i v s₂ m₂ _ _ _ _ _ _ _ => ?_, fun A' E' i v t m₂ hA _ _ hP _ hn hm hkp => ?_⟩
    · exact wpAny_pure ⟨rfl, (Mine.i2_2 _ _ rfl (fun _ _ e => e))⟩
    · have kb : ∀ b o, h₀.get? b = some o → t.heap.get? b = some o := fun b o e => hkp b (List.mem_range.mpr (Heap.lt_size (hbase b o e))) (fun q => by rw [(hwr _ q).2.1] at e; cases e) o (hk b o (hbase b o e))
      exact wpAny_mono (hel _ _ A' E' i v t m₂ hA (envG hE hkind) hP ⟨⟨_, _, rfl, fun _ _ e => e⟩, hn, kb⟩ hm) (fun y s₃ q => ⟨q.1, q.2.kp⟩) fun _ _ e => e
  · intro htk₅
    rw [pass_all, List.length_range] at W
    exact hQ a _ (genSt D' hgb hk₅ htk₅) (genMade D' hwr W hat hag hsz₅)
end
end Mine
end

section
open PySem PySem.W PySem.W.X PyProof.Rows PySem.Calls
set_option maxRecDepth 100000
namespace Mine
section
variable {w : World} {z : Shared} {prog : Program} {A : Around} {E : Value → Shared → Prop} {h₀ : Heap} {s : Shared} {L : Addr} {m : Str → Option Value} {news : List Ent} {env : Env} {names : List (Str × NameKind)} {Q : Value → Shared → Prop}
/- a generator expression with two names, made -/
theorem rGenT {elt iter : Expr} {xa xb : Str} {pa pb pt : Pos} {kt : Nat} {scope : Scope} {pos : Pos} {c Pt : Addr}
    {news₀ : List Ent} (D₀ : St z h₀ L m news₀ s) (B : Gd w h₀) (hE : EnvIs env L names) (hcode : env.code = .ref c) (hcd : CodeHd h₀ c Pt) (hh : A.handled = none) (hroom : A.depth < recursionLimit) (hclos : closureFor scope env = pure [])
    (hco : scope.isCoroutine = false) (hcell : (scope.names.all fun x => x.2 != .cell) = true) (h0 : scope.names.lookup (".0" : Str) = some NameKind.local) (hxa : scope.names.lookup xa = some .local) (hxb : scope.names.lookup xb = some .local) (hab : (xa == xb) = false) (hkind : scope.kind = .function)
    (h : wpAny (model prog w) A (eval iter env) (fun xv s₁ => wpAny (model prog w) A (pyIter xv) (fun it s₂ => ∃ news I fp wr n P S Mid F, it = .ref I ∧ St z h₀ L m news s₂ ∧ (Pt, isTab) ∈ news ∧ (cStatics, isStat z) ∈ news ∧
      (∀ A' : Around, A'.handled = none → WalksU prog w A' I fp wr n P S Mid) ∧ (∀ i vals, P i vals → ∃ va vb, vals = #[va, vb]) ∧ S 0 s₂.heap ∧ (∀ b ∈ fp, b < s₂.heap.objs.size) ∧ Pt ∉ fp ∧ (∀ b ∈ wr, b ∉ news.map (·.1) ∧ h₀.get? b = none ∧ b ≠ L) ∧
      (∀ C cenv (A' : Around) E' i va vb (t : Shared) m₂, A'.handled = none → EnvIs cenv C scope.names → P i #[va, vb] → K0 h₀ t C m₂ t → m₂ xa = some va → m₂ xb = some vb → wpAny (model prog w) A' (eval elt cenv) (fun y s₃ => F i y ∧ K0 h₀ t C m₂ s₃) E' t) ∧
      (∀ a s', St z h₀ L m news s' → GenX prog w A h₀ L news a n F s' → Q (.ref a) s')) E s₁) E s)
    (hs : ∀ x, genFold iter env x = pure x) :
    wpAny (model prog w) A (eval (.GeneratorExp elt [⟨.Tuple [.Name xa pa, .Name xb pb] kt pt, iter, [], 0⟩] scope pos) env) Q E s := by
  refine posTok D₀ (wpAny_GeneratorExp_walksQTD hh hco hclos (fun y hy => by have := List.all_eq_true.mp hcell y hy; simpa using this) h0 hxa hxb (fun q => by rw [q] at hab; simp at hab) hkind hroom (wpAny_mono h (fun xv s₁ h₁ => wpAny_mono h₁ (fun it s₂ h₂ => ?_) fun _ _ e => e) fun _ _ e => e) hs)
  refine Mine.E9 h₂ ?_
  clear h₂
  intro news I fp wr n P S Mid F zk
  refine Mine.e0_12 zk ?_
  clear zk
  intro zq D hPt hst W₀ hsz2 hS hfp hPf hwr hel hQ
  subst zq
  refine ⟨D.nl hst, rGenCode D hcode hcd hPt fun code h' tk D' hx' hsz => ?_⟩
  refine Mine.E3 (B.bm) ?_
  intro mg bm' ob M
  have M' := M.keeps (h' := h') (fun b o e => D'.keep e)
  have hg := hE.gl
  refine wpAny_builtinsFor (by rw [hg]; exact M'.ns) M'.name M'.ne M'.obj M'.cls M'.dict M'.data ?_
  have hbase : ∀ b o, h₀.get? b = some o → h'.get? b = some o := fun b o e => D'.keep e
  refine Mine.I9 I fp wr n P S Mid (fun _ => true) F (Mine.a9 rfl W₀ hsz2 ((W₀ A hh).frame _ _ _ hS (fun b hb o e => hx' b o (fun q => hPf (q ▸ hb)) e)) (fun b hb => Nat.lt_of_lt_of_le (hfp b hb) hsz) (D'.nl hst) (fun q => (hwr _ q).1 (List.mem_map_of_mem hst)) (fun href hk => ?_) (fun a h₅ tk₅ gs hgb hag hsz₅ hk₅ W hat => ?_))
  · refine ⟨fun A' E' i va vb s₂ m₂ _ _ _ _ _ _ _ _ => ?_, fun A' E' i va vb t m₂ hA _ _ hP _ hn hma hmb hkp => ?_⟩
    · exact wpAny_pure ⟨rfl, (Mine.i2_2 _ _ rfl (fun _ _ e => e))⟩
    · have kb : ∀ b o, h₀.get? b = some o → t.heap.get? b = some o := fun b o e => hkp b (List.mem_range.mpr (Heap.lt_size (hbase b o e))) (fun q => by rw [(hwr _ q).2.1] at e; cases e) o (hk b o (hbase b o e))
      exact wpAny_mono (hel _ _ A' E' i va vb t m₂ hA (envG hE hkind) hP ⟨⟨_, _, rfl, fun _ _ e => e⟩, hn, kb⟩ hma hmb) (fun y s₃ q => ⟨q.1, q.2.kp⟩) fun _ _ e => e
  · intro htk₅
    rw [pass_all, List.length_range] at W
    exact hQ a _ (genSt D' hgb hk₅ htk₅) (genMade D' hwr W hat hag hsz₅)

/- what consumes a generator -/
theorem rJoinG {sep : Str} {t : Tok} {a : Addr} {n : Nat} {F : Nat → Value → Prop} {ys : List Str} (D : St z h₀ L m news s) (X : GenX prog w A h₀ L news a n F s) (hn : n = ys.length) (hF : ∀ j v, F j v → ∃ y u, ys[j]? = some y ∧ v = .str y u) (hok : JoinOk sep ys = true) (hsz : n ≤ sizeLine)
    (h : ∀ t' s', St z h₀ L m news s' → Q (.str (Txt.join sep ys) t') s') : wpAny (model prog w) A (call (.builtin "str.join") [.str sep t, .ref a]) Q E s := by
  refine Mine.e4_6 X ?_
  try clear X
  intro fp wr g S W hS hT ha hfp hwr
  have W := W.in4_2
  refine posTok D (SC.joinGen W hT hS hfp ha (fun j v hv => let ⟨y, u, _, e⟩ := hF j v hv; ⟨y, u, e⟩) (fun s' lt hm hacc => ?_) hsz)
  have hl : lt.map (·.1) = ys := by
    apply List.ext_getElem?
    intro j
    have hlen : lt.length = n := by simpa [strValues] using hacc.1
    by_cases hj : j < n
    · have hj' : j < lt.length := hlen ▸ hj
      have zh1 := hF j _ (hacc.2 j (.str lt[j].1 lt[j].2) (by simp [strValues, List.getElem?_eq_getElem hj']))
      refine Mine.e2_2 zh1 ?_
      try clear zh1
      intro y u hy hv
      injection hv with h1 _
      rw [hy, List.getElem?_map, List.getElem?_eq_getElem hj']
      simp [h1]
    · rw [List.getElem?_eq_none (by simpa [hlen] using Nat.le_of_not_lt hj), List.getElem?_eq_none (by rw [← hn]; exact Nat.le_of_not_lt hj)]
  rw [hl]
  exact ⟨hok, fun t' k hk => h t' _ ((D.moved hm hwr).tok k hk)⟩
noncomputable def shP (P : Nat → Value → Prop) : Nat → Value → Prop | 0, _ => False | i + 1, v => P i v
noncomputable def shS (S : Nat → Shared → Prop) : Nat → Shared → Prop | 0, _ => False | i + 1, s => S i s
theorem shift {I : Addr} {fp wr : List Addr} {G : Array GenState → Array GenState → Prop} {n : Nat} {P : Nat → Value → Prop} {S : Nat → Shared → Prop} (W : WalksS prog w A I fp wr G n P S) : WalksS prog w A I fp wr G (n + 1) (shP P) (shS S) where
  sub := W.sub
  grefl := W.grefl
  gtrans := W.gtrans
  frame := fun i s h' tk st ht hk => by
    cases i with
    | zero => exact st
    | succ i => exact W.frame i s h' tk st ht hk
  item := fun i s Q E hi st k => by
    cases i with
    | zero => exact st.elim
    | succ i => exact W.item i s Q E (by lia) st k
  done := fun s Q E st k => W.done s Q E st k
  self := fun i s Q E st k => by
    cases i with
    | zero => exact st.elim
    | succ i => exact W.self i s Q E st k
theorem args_sum2 (a b : Value) : argsOk "sum" ⟨[a, b], []⟩ := by unfold argsOk; kernel_rfl
noncomputable def valAt (start : Int) (ys : List Int) (i : Nat) : Int := match i with | 0 => start | i + 1 => ys.getD i 0
theorem preSum_val (start : Int) (ys : List Int) : ∀ j, preSum (valAt start ys) (j + 1) = start + (ys.take j).sum
  | 0 => by simp [preSum, valAt]
  | j + 1 => by
    rw [preSum, preSum_val start ys j]
    show start + (ys.take j).sum + ys.getD j 0 = _
    by_cases h : j < ys.length
    · rw [List.take_add_one, List.sum_append, List.getD_eq_getElem?_getD, List.getElem?_eq_getElem h]; simp; lia
    · rw [List.take_of_length_le (Nat.le_of_not_lt h), List.take_of_length_le (Nat.le_succ_of_le (Nat.le_of_not_lt h)), List.getD_eq_getElem?_getD, List.getElem?_eq_none (Nat.le_of_not_lt h)]; simp
theorem rSumG {a : Addr} {n : Nat} {F : Nat → Value → Prop} {ys : List Int} {start : Int} {t : Tok} (D : St z h₀ L m news s) (X : GenX prog w A h₀ L news a n F s) (hn : n = ys.length) (hF : ∀ j v, F j v → ∃ y u, ys[j]? = some y ∧ v = .int y u)
    (hst : 0 ≤ start ∧ start ≤ 1000000) (hy : ∀ y ∈ ys, 0 ≤ y ∧ y ≤ 1000000) (hlen : n ≤ 1000000)
    (h : ∀ t' s', St z h₀ L m news s' → Q (.int (start + ys.sum) t') s') : wpAny (model prog w) A (call (.builtin "sum") [.ref a, .int start t]) Q E s := by
  refine Mine.e4_6 X ?_
  try clear X
  intro fp wr g S W hS hT ha hfp hwr
  have W := W.in4_1
  refine call_function_tree PySem.F.kind_sum PySem.F.plain_sum PySem.F.entry_sum (args_sum2 _ _) ?_
  unfold Builtin.«sum»
  simp only [List.length_cons, List.length_nil]
  rw [if_neg (by decide)]
  refine wpAny_bind (wpAny_of_eq (show Builtin.Builtins.bindParams "sum" ["start"] 0 ⟨[.int start t], []⟩ = pure [some (.int start t)] from rfl) ?_)
  refine wpAny_bind (W.self 0 _ _ _ hS ?_)
  have hfl : (decide (-(2 ^ 63) ≤ start) && decide (start < 2 ^ 63)) = true := by simp; lia
  dsimp only
  split
  case isFalse hneg => exact absurd hfl hneg
  refine wpAny_bind (wpAny_rule (wpAny_bind (wpAny_mkInt (wpAny_bind (wpAny_pure ?_)))))
  simp only [List.forIn_cons, List.forIn_nil]
  refine wpAny_bind (wpAny_bind (wpAny_bind (wpAny_isInstance (T := "int") (b := false) (typeIs_int _ _ _) PySem.sub_int_str ?_)))
  simp only [Bool.false_eq_true, if_false]
  refine wpAny_pure (wpAny_bind (wpAny_bind (wpAny_isInstance (T := "int") (b := false) (typeIs_int _ _ _) sub_int_bytes ?_)))
  simp only [Bool.false_eq_true, if_false]
  refine wpAny_pure (wpAny_bind (wpAny_bind (wpAny_isInstance (T := "int") (b := false) (typeIs_int _ _ _) sub_int_bytearray ?_)))
  simp only [Bool.false_eq_true, if_false]
  refine wpAny_pure (wpAny_pure ?_)
  refine wpAny_bind (wpAny_newObj_type ?_)
  have hSf : s.heap.objs.size ∉ fp := fun hm => Nat.lt_irrefl _ (hfp _ hm)
  have hb : ∀ k : Nat, 0 ≤ (ys.take k).sum ∧ (ys.take k).sum ≤ 1000000 * 1000000 := fun k => by
    have h1 : ∀ (l : List Int), (∀ y ∈ l, 0 ≤ y ∧ y ≤ 1000000) → 0 ≤ l.sum ∧ l.sum ≤ l.length * 1000000 := fun l => by
      induction l with
      | nil => simp
      | cons y r ih =>
        intro hl
        have q1 := hl y (.head _)
        have q2 := ih fun y hy => hl y (.tail _ hy)
        simp only [List.sum_cons, List.length_cons]
        lia
    have h2 := h1 (ys.take k) fun y hy' => hy y (List.mem_of_mem_take hy')
    have h3 : (ys.take k).length ≤ ys.length := by rw [List.length_take]; exact Nat.min_le_right _ _
    lia
  refine wpAny_pure ⟨plainId_quiet PySem.F.plain_sum_loop _, codeAny_sum_loopS (shift W) (valAt start ys) (fun i v q => ?_) (fun j hj => ?_) s.heap.objs.size hSf n 1 _ s.toks 0 (by lia) (by lia)
    (W.frame 0 s _ _ hS (Nat.le_succ _) fun b _ o e => Heap.get?_push_of_some _ e) ?_ fun s' t' hm => ?_⟩
  · cases i with
    | zero => exact q.elim
    | succ i =>
      refine Mine.e2_2 (hF i v q) ?_
      intro y u h1 h2
      exact ⟨u, by rw [h2]; simp [valAt, List.getD_eq_getElem?_getD, h1]⟩
  · have h1 := hb j
    rw [preSum_val]
    refine ⟨?_, ?_⟩
    · cases j with
      | zero => show InLong start; unfold InLong; lia
      | succ i =>
        have : 0 ≤ ys.getD i 0 ∧ ys.getD i 0 ≤ 1000000 := by
          rw [List.getD_eq_getElem?_getD]
          cases q : ys[i]? with
          | none => simp
          | some y => exact hy y (List.mem_of_getElem? q)
        show InLong (ys.getD i 0); unfold InLong; lia
    · unfold InLong; lia
  · rw [preSum_val]
    have := Heap.get?_push_size s.heap (o := { cls := .type "list", data := .seq #[.int start s.toks] }) rfl
    simpa using this
  · rw [preSum_val, List.take_of_length_le (by lia)]
    exact h _ _ (D.moved (hm.drop_new (Nat.le_succ _)) hwr)
end
end Mine
end

section
open PySem PySem.W PySem.W.X PyProof.Rows PySem.Calls
set_option maxRecDepth 100000
namespace Mine
/- the filter object walked -/
theorem entry_filter_iter : entryFor table "filter.__iter__" = some Builtin.«dict_keyiterator.__iter__» :=
  entryFor_alias (id' := "dict_keyiterator.__iter__") (by kernel_rfl) (by first | rfl | decide +kernel | (unfold String.splitOn; simp +decide [String.splitOnAux])) (by decide +kernel) (by kernel_rfl)
theorem args_filter_next (v : Value) : argsOk "filter.__next__" ⟨[v], []⟩ := by unfold argsOk; kernel_rfl
theorem args_filter_iter (v : Value) : argsOk "filter.__iter__" ⟨[v], []⟩ := by unfold argsOk; kernel_rfl
theorem plain_filter_next : plainId "filter.__next__" = true := by decide +kernel
noncomputable def full : Value → Bool := fun v => match v with | .str x _ => x.length != 0 | _ => false
noncomputable def IsFil (h : Heap) (I J : Addr) : Prop := ∃ o, h.get? I = some o ∧ o.cls = .type "filter" ∧ o.data = .fields #[.builtin "len", .ref J]
theorem IsFil.at {h h' : Heap} {I J : Addr} (x : IsFil h I J) (e : ∀ o, h.get? I = some o → h'.get? I = some o) : IsFil h' I J := let ⟨o, ho, r⟩ := x; ⟨o, e _ ho, r⟩
section
variable {prog : Program} {w : World} {A : Around} {E : Value → Shared → Prop} {s : Shared}
theorem tupIt_item {it t : Addr} {i : Nat} {items : Array Value} {x : Value} {Q : Option Value → Shared → Prop} (hit : s.heap.IsTupleIter it t i) (ht : s.heap.IsTuple t items) (hx : items[i]? = some x)
    (hQ : ∀ h', h'.IsTupleIter it t (i + 1) → Heap.SameBut it s.heap h' → Q (some x) { s with heap := h' }) : wpAny (model prog w) A (callSpecial? (.ref it) (Str.ofString "__next__")) Q E s := by
  refine Mine.e1_3 (id hit) ?_
  intro o ho hc hd
  obtain ⟨ol, hol, _, nl, hdl⟩ := ht
  refine wpAny_callSpecial?_slot (name := Str.ofString "__next__") hit.typeIs F.slot_tuple_iterator_next (wpAny_call_entry F.slot_tuple_iterator_next hit.typeIs F.entry_tuple_iterator_next ?_ (F.args_tuple_iterator_next_1 _))
  show wpAny _ _ (field (.ref it) 0 >>= _) _ _ s
  refine wpAny_bind (wpAny_field ho hd (x := .ref t) rfl ?_)
  show wpAny _ _ (if (Value.ref t == Value.none) = true then _ else _) _ _ s
  rw [if_neg (show ¬ ((Value.ref t == Value.none) = true) from Bool.false_ne_true)]
  show wpAny _ _ (field (.ref it) 1 >>= _) _ _ s
  refine wpAny_bind (wpAny_field ho hd (x := .int i 0) rfl ?_)
  show wpAny _ _ (seqItems? (.ref t) >>= _) _ _ s
  refine wpAny_bind (wpAny_seqItems hol hdl ?_)
  rw [Int.toNat_natCast]
  dsimp only
  rw [hx]
  refine wpAny_bind (wpAny_setField ho hd (by simp) (wpAny_pure ⟨x, rfl, hQ _ ?_ (Heap.SameBut.update ..)⟩))
  exact Mine.i1_3 _ (Heap.get?_update_self _ ho (Obj.isFreed_of_fields (Obj.data_mapFields hd _))) ((Obj.cls_mapFields ..).trans hc) (by rw [Obj.data_mapFields hd]; simp [rawInt])
theorem tupIt_end {it t : Addr} {i : Nat} {items : Array Value} {Q : Option Value → Shared → Prop} (hh : A.handled = none) (hit : s.heap.IsTupleIter it t i) (ht : s.heap.IsTuple t items) (hx : items[i]? = none)
    (hE : ∀ h' e, Heap.ExtBut it s.heap h' → (∃ o, h'.get? e = some o ∧ o.cls = .type "StopIteration") → E (.ref e) { s with heap := h' }) : wpAny (model prog w) A (callSpecial? (.ref it) (Str.ofString "__next__")) Q E s := by
  refine Mine.e1_3 (id hit) ?_
  intro o ho hc hd
  obtain ⟨ol, hol, _, nl, hdl⟩ := ht
  refine wpAny_callSpecial?_slot (name := Str.ofString "__next__") hit.typeIs F.slot_tuple_iterator_next (wpAny_call_entry F.slot_tuple_iterator_next hit.typeIs F.entry_tuple_iterator_next ?_ (F.args_tuple_iterator_next_1 _))
  show wpAny _ _ (field (.ref it) 0 >>= _) _ _ s
  refine wpAny_bind (wpAny_field ho hd (x := .ref t) rfl ?_)
  show wpAny _ _ (if (Value.ref t == Value.none) = true then _ else _) _ _ s
  rw [if_neg (show ¬ ((Value.ref t == Value.none) = true) from Bool.false_ne_true)]
  show wpAny _ _ (field (.ref it) 1 >>= _) _ _ s
  refine wpAny_bind (wpAny_field ho hd (x := .int i 0) rfl ?_)
  show wpAny _ _ (seqItems? (.ref t) >>= _) _ _ s
  refine wpAny_bind (wpAny_seqItems hol hdl ?_)
  rw [Int.toNat_natCast]
  dsimp only
  rw [hx]
  refine wpAny_bind (wpAny_rule (wpAny_bind (wpAny_setField ho hd (by simp) ?_)))
  show wpAny _ _ (newExc (.type "StopIteration") [] >>= _) _ _ _
  refine wpAny_bind ?_
  unfold newExc newTuple
  refine wpAny_bind (wpAny_newObj_type ?_ (by size_fits))
  refine wpAny_bind (m := firstArgMember _ _) (wpAny_of_eq (a := Value.none) (by first | rfl | (simp only [firstArgMember]; rfl)) ?_)
  refine wpAny_newObj_type ?_ (by size_fits)
  unfold raiseNew
  refine wpAny_bind (wpAny_handled ?_)
  rw [show A.in1.handled = none from hh]
  refine wpAny_bind (wpAny_pure (wpAny_throw ?_))
  exact hE _ _ (((Heap.SameBut.update ..).extBut.push _).push _) ⟨_, Heap.get?_push_size _ rfl, rfl⟩

theorem filter_tree {I J T : Addr} {items : Array Value} (hIJ : I ≠ J) (hTJ : T ≠ J) (hstr : ∀ v ∈ items.toList, ∃ x t, v = Value.str x t ∧ x.length ≤ 1000) {R : Result → Shared → Prop} (hh : A.handled = none) :
    ∀ (D : List Value) (i : Nat) (s : Shared), items.toList.drop i = D → s.heap.IsTupleIter J T i → s.heap.IsTuple T items → IsFil s.heap I J →
    (∀ v i' h' tk, (items.toList.drop i).filter full = v :: (items.toList.drop i').filter full → h'.IsTupleIter J T i' → Heap.ExtBut J s.heap h' → R (.ok (.ret v)) { s with heap := h', toks := tk }) →
    ((items.toList.drop i).filter full = [] → ∀ h' e tk, Heap.ExtBut J s.heap h' → (∃ o, h'.get? e = some o ∧ o.cls = .type "StopIteration") → R (.error (.ref e)) { s with heap := h', toks := tk }) →
    wpAny (model prog w) A.in1 (Builtin.«filter.__next__» ⟨[.ref I], []⟩) (fun fin s' => match fin with | .done f => R (.ok f) s' | .again c' => c'.quiet = true ∧ codeAny (model prog w) A c' R s') (fun e s' => R (.error e) s') s
  | [], i, s, hD, hit, hT, hF, hitem, hend => by
    refine Mine.e1_3 hF ?_
    try clear hF
    intro oF hF1 hF2 hF3
    show wpAny _ _ (field (.ref I) 0 >>= _) _ _ s
    refine wpAny_bind (wpAny_field hF1 hF3 (x := .builtin "len") rfl ?_)
    show wpAny _ _ (field (.ref I) 1 >>= _) _ _ s
    refine wpAny_bind (wpAny_field hF1 hF3 (x := .ref J) rfl ?_)
    have hx : items[i]? = none := by
      have := List.drop_eq_nil_iff.mp hD
      simpa using this
    refine wpAny_bind (tupIt_end (A := A.in1) hh hit hT hx fun h' e he hs => ?_)
    exact hend (by rw [hD]; rfl) h' e s.toks he hs
  | v :: D, i, s, hD, hit, hT, hF, hitem, hend => by
    refine Mine.e1_3 (id hF) ?_
    intro oF hF1 hF2 hF3
    show wpAny _ _ (field (.ref I) 0 >>= _) _ _ s
    refine wpAny_bind (wpAny_field hF1 hF3 (x := .builtin "len") rfl ?_)
    show wpAny _ _ (field (.ref I) 1 >>= _) _ _ s
    refine wpAny_bind (wpAny_field hF1 hF3 (x := .ref J) rfl ?_)
    have hlt : i < items.toList.length := by
      rcases Nat.lt_or_ge i items.toList.length with h | h
      · exact h
      · rw [List.drop_of_length_le h] at hD; cases hD
    have hD2 := List.drop_eq_getElem_cons hlt
    rw [hD] at hD2
    obtain ⟨e1, e2⟩ := List.cons.inj hD2
    have hx : items[i]? = some v := by rw [e1]; simp [show i < items.size from by simpa using hlt]
    obtain ⟨x, t, hv, hxl⟩ := hstr v (by rw [e1]; exact List.getElem_mem _)
    subst hv
    refine wpAny_bind (tupIt_item (A := A.in1) hit hT hx fun h₁ hit₁ hs₁ => ?_)
    show wpAny _ _ (holding [.str x t] _ >>= _) _ _ _
    refine wpAny_bind (wpAny_holding ?_)
    show wpAny _ _ (if (Value.builtin "len" == Value.none || Value.builtin "len" == Value.type "bool") = true then _ else _) _ _ _
    rw [if_neg (by decide +kernel)]
    refine wpAny_bind (P.len_str (by lia) ?_)
    refine wpAny_holding (P.truthy_int ?_)
    have hb : ((x.length : Int) != 0) = full (.str x t) := by
      show _ = (x.length != 0)
      by_cases q : x.length = 0
      · simp [q]
      · have q' : (x.length : Int) ≠ 0 := by lia
        simp [bne, beq_eq_false_iff_ne.mpr q, beq_eq_false_iff_ne.mpr q']
    rw [hb]
    have hT₁ : h₁.IsTuple T items := hT.extBut hs₁.extBut hTJ
    have hF₁ : IsFil h₁ I J := hF.at fun o e => hs₁.extBut _ _ hIJ e
    cases q : full (.str x t) with
    | true =>
      refine wpAny_pure (hitem _ (i + 1) h₁ _ ?_ hit₁ hs₁.extBut)
      rw [hD, List.filter_cons_of_pos q, e2]
    | false =>
      refine wpAny_pure ⟨plainId_quiet plain_filter_next _, ?_⟩
      refine codeAny_builtin (b := Builtin.«filter.__next__») entry_filter_next ?_
      rw [Around.under_plainId plain_filter_next]
      have hff : (items.toList.drop i).filter full = (items.toList.drop (i + 1)).filter full := by
        rw [hD, List.filter_cons_of_neg (by simp [q]), e2]
      refine filter_tree hIJ hTJ hstr hh D (i + 1) _ e2.symm hit₁ hT₁ hF₁ (fun v' i' h' tk hf hi' hb' => ?_) (fun hf h' e tk hb' he => ?_)
      · exact hitem v' i' h' tk (by rw [hff]; exact hf) hi' (fun b o hb e => hb' b o hb (hs₁.extBut b o hb e))
      · exact hend (by rw [hff]; exact hf) h' e tk (fun b o hb e => hb' b o hb (hs₁.extBut b o hb e)) he
theorem filter_call {I J T : Addr} {items : Array Value} {i : Nat} {Q : Value → Shared → Prop} (hIJ : I ≠ J) (hTJ : T ≠ J) (hstr : ∀ v ∈ items.toList, ∃ x t, v = Value.str x t ∧ x.length ≤ 1000) (hh : A.handled = none)
    (hit : s.heap.IsTupleIter J T i) (hT : s.heap.IsTuple T items) (hF : IsFil s.heap I J)
    (hitem : ∀ v i' h' tk, (items.toList.drop i).filter full = v :: (items.toList.drop i').filter full → h'.IsTupleIter J T i' → Heap.ExtBut J s.heap h' → Q v { s with heap := h', toks := tk })
    (hend : (items.toList.drop i).filter full = [] → ∀ h' e tk, Heap.ExtBut J s.heap h' → (∃ o, h'.get? e = some o ∧ o.cls = .type "StopIteration") → E (.ref e) { s with heap := h', toks := tk }) : wpAny (model prog w) A (call (.builtin "filter.__next__") [.ref I]) Q E s := by
  have hTy : s.TypeIs (.ref I) "filter" := let ⟨o, h1, h2, _⟩ := hF; ⟨o, h1, h2⟩
  refine wpAny_call (codeAny_call_builtin slot_filter_next.plain entry_filter_next (slot_filter_next.check _ _ _ _ _ _ _ _ hTy (args_filter_next _) ?_))
  exact filter_tree (A := A) (R := fun r s' => match r with | .ok (.ret v) => Q v s' | .ok _ => False | .error e => E e s') hIJ hTJ hstr hh _ i s rfl hit hT hF hitem hend
theorem filter_pyNext {I J T : Addr} {items : Array Value} {i : Nat} {Q : Option Value → Shared → Prop} (hIJ : I ≠ J) (hTJ : T ≠ J) (hstr : ∀ v ∈ items.toList, ∃ x t, v = Value.str x t ∧ x.length ≤ 1000) (hh : A.handled = none)
    (hit : s.heap.IsTupleIter J T i) (hT : s.heap.IsTuple T items) (hF : IsFil s.heap I J)
    (hitem : ∀ v i' h' tk, (items.toList.drop i).filter full = v :: (items.toList.drop i').filter full → h'.IsTupleIter J T i' → Heap.ExtBut J s.heap h' → Q (some v) { s with heap := h', toks := tk })
    (hend : (items.toList.drop i).filter full = [] → ∀ h' tk, Heap.ExtBut J s.heap h' → Q none { s with heap := h', toks := tk }) : wpAny (model prog w) A (pyNext (.ref I)) Q E s := by
  have hTy : s.TypeIs (.ref I) "filter" := let ⟨o, h1, h2, _⟩ := hF; ⟨o, h1, h2⟩
  unfold pyNext
  refine wpAny_bind (wpAny_attempt (wpAny_callSpecial?_slot (name := Str.ofString "__next__") hTy slot_filter_next (filter_call hIJ hTJ hstr hh hit hT hF (fun v i' h' tk hf hi' hb => ?_) fun hf h' e tk hb he => ?_)))
  · exact wpAny_pure (hitem v i' h' tk hf hi' hb)
  · refine Mine.e1_2 he ?_
    try clear he
    intro o ho hc
    refine wpAny_bind (wpAny_isInstance (T := "StopIteration") (b := true) ⟨o, ho, hc⟩ isSubtype_stop ?_)
    exact wpAny_pure (hend hf h' tk hb)
end
noncomputable def FilS (I J T : Addr) (items : Array Value) (k : Nat) (h : Heap) : Prop := ∃ i, h.IsTupleIter J T i ∧ h.IsTuple T items ∧ IsFil h I J ∧ (items.toList.drop i).filter full = (items.toList.filter full).drop k
theorem Walks.filter {prog : Program} {w : World} {A : Around} (hh : A.handled = none) {I J T : Addr} (hIJ : I ≠ J) (hTJ : T ≠ J) (items : Array Value) (hstr : ∀ v ∈ items.toList, ∃ x t, v = Value.str x t ∧ x.length ≤ 1000) :
    Walks prog w A I [I, J, T] [J] (items.toList.filter full).length (fun i v => (items.toList.filter full)[i]? = some v) (FilS I J T items) where
  sub := fun b hb => by simp at hb; simp [hb]
  frame := fun _ _ _ st hk => let ⟨i, a, b, c, d⟩ := st; ⟨i, a.at fun o e => hk J (by simp) o e, let ⟨o, e, r⟩ := b; ⟨o, hk T (by simp) o e, r⟩, c.at fun o e => hk I (by simp) o e, d⟩
  item := fun i s Q E hi st hQ => by
    refine Mine.e1_4 st ?_
    try clear st
    intro j a b c d
    refine filter_pyNext hIJ hTJ hstr hh a b c (fun v i' h' tk hf hi' hb => ?_) fun hf => ?_
    · rw [List.drop_eq_getElem_cons hi, hf] at d
      obtain ⟨d1, d2⟩ := List.cons.inj d
      refine hQ v h' tk ?_ ⟨i', hi', b.extBut hb hTJ, c.at fun o e => hb _ _ hIJ e, d2⟩ fun x o hx e => hb x o (fun q => hx (by simp [q])) e
      rw [List.getElem?_eq_getElem hi, d1]
    · rw [hf] at d
      rw [List.drop_eq_getElem_cons hi] at d; cases d
  done := fun s Q E st hQ => by
    refine Mine.e1_4 st ?_
    try clear st
    intro j a b c d
    rw [List.drop_length] at d
    refine filter_pyNext hIJ hTJ hstr hh a b c (fun v i' h' tk hf hi' hb => ?_) fun hf h' tk hb => ?_
    · rw [d] at hf; cases hf
    · exact hQ h' tk fun x o hx e => hb x o (fun q => hx (by simp [q])) e
  self := fun i s Q E st hQ => by
    refine Mine.e1_4 st ?_
    try clear st
    intro j a b c d
    have hTy : s.TypeIs (.ref I) "filter" := let ⟨o, h1, h2, _⟩ := c; ⟨o, h1, h2⟩
    refine wpAny_pyIter_slot hTy slot_filter_iter (wpAny_call_entry slot_filter_iter hTy entry_filter_iter ?_ (args_filter_iter _))
    show wpAny _ _ (ret (.ref I)) _ _ s
    exact wpAny_pure ⟨_, rfl, (Mine.i2_3 ("filter") _ hTy slot_filter_next.lookup hQ)⟩
end Mine
end

section
open PySem PySem.W PySem.W.X PyProof.Rows PySem.Calls
set_option maxRecDepth 100000
namespace Mine
section
variable {w : World} {z : Shared} {prog : Program} {A : Around} {E : Value → Shared → Prop} {h₀ : Heap} {s : Shared} {L : Addr} {m : Str → Option Value} {news : List Ent}
/- a def of the text is entered, its arguments bound by steps; the body is told with its code on top -/
theorem enterC {f : Addr} {name qual : Str} {params : Arguments} {body : List Stmt} {scope : Scope} {cl : List (Str × Addr)} {dV kV doc pm cdv ct oc : Value} {an od : Option Addr} {osl : Array (Option Value)} {args : List Value} {Q : Value → Shared → Prop}
    (D : St z h₀ L m news s) (B : Gd w h₀) (ho : (hd.heap_1 w.params).lookup f = some ⟨oc, od, .func (fnX name qual params body scope cl dV kV doc pm an cdv ct), osl⟩) (hcd : codeIn (hd.heap_1 w.params) cdv qual = true)
    (hroom : A.depth < recursionLimit) (hcell : (scope.names.all fun x => x.2 != .cell) = true) (hco : scope.isCoroutine = false) (hgen : scope.isGenerator = false) (hk : scope.kind = .function)
    (hbind : wpAny (model prog w) A.in1 (bindArgs (fnX name qual params body scope cl dV kV doc pm an cdv ct) ⟨args, []⟩) (fun binds s₀ => ∃ news₀, St z h₀ L m news₀ s₀ ∧ (cStatics, isStat z) ∈ news₀ ∧ (binds.all fun x => scope.names.lookup x.1 == some .local) = true ∧
      ∀ g₁ L' s₁ env, St z g₁ L' (bm binds fun _ => none) news₀ s₁ → Gd w g₁ → EnvIs env L' scope.names → env = callEnv (fnX name qual params body scope cl dV kV doc pm an cdv ct) L' f → (∀ m₂ news₂ s₂, St z g₁ L' m₂ news₂ s₂ → St z h₀ L m news₂ s₂) →
        _root_.PySem.wpAt (model prog w) (A.deeper env) (.func body env) (execs body env) (fun fl s' => Q (match fl with | .ret v => v | _ => .none) s') (fun _ _ => False) s₁) (fun _ _ => False) s) :
    codeAny (model prog w) A (.call (.ref f) ⟨args, []⟩) (fun r s' => match r with | .ok (.ret v) => Q v s' | .ok _ => False | .error e => E e s') s := by
  have X := D.X B
  refine codeAny_call_function hroom (X _ _ (kx_func ho)) rfl hco hgen rfl (codeRec_of X (kx_code hcd)) (wpAny_mono hbind (fun binds s₀ q => ?_) fun _ _ q => q.elim)
  refine Mine.e1_4 q ?_
  try clear q
  intro news₀ D₀ hst hloc k
  have F := D₀.led.fr
  have N := D₀.led.nw
  have nm : ∀ b o, h₀.get? b = some o → b ∉ news₀.map (·.1) := fun b o e q => by
    refine Mine.e1_2 (List.mem_map.mp q) ?_
    intro p hp zq1
    subst zq1
    rw [(N p hp).2.2] at e; cases e
  have st : ∀ b o, h₀.get? b = some o → (hideAll s₀.heap (news₀.map (·.1))).get? b = some o := fun b o e => hideAll_get _ (F.keep b o e) (nm b o e)
  refine Mine.e3_4 (F.ns) ?_
  intro oL es ep hL hLd hLk hLf
  have nL : L ∉ news₀.map (·.1) := fun q => by
    refine Mine.e1_2 (List.mem_map.mp q) ?_
    intro p hp e
    exact (N p hp).2.1 e
  have hLg := hideAll_get (news₀.map (·.1)) hL nL
  refine wpAny_newFunctionEnv (fun x hx => by have := List.all_eq_true.mp hcell x hx; simpa using this) (fun x hx => by have := List.all_eq_true.mp hloc x hx; simpa using this) (fun h₁ hns hsb => ⟨(D₀.nl hst).fresh _ hsb, ks_codeAny_funcAt ?_⟩) hk
  have hk₁ : ∀ b o, s₀.heap.get? b = some o → h₁.get? b = some o := fun b o e => hsb.extBut b o (Nat.ne_of_lt (Heap.lt_size e)) (Heap.get?_push_of_some _ e)
  have hns' : h₁.Ns s₀.heap.objs.size (bm binds fun _ => none) := by
    have e : (bm binds fun _ => none) = fun x => binds.reverse.lookup x := by
      funext x; rw [bm_look]; cases binds.reverse.lookup x <;> rfl
    rw [e]; exact hns
  refine ks_wpAt_mono (k (hideAll s₀.heap (news₀.map (·.1))) s₀.heap.objs.size _ (callEnv (fnX name qual params body scope cl dV kV doc pm an cdv ct) s₀.heap.objs.size f) ⟨⟨⟨hns', fun b o e => hk₁ b o (of_hideAll _ e), Nat.le_of_eq (hideAll_size _ _)⟩, fun p hp => ⟨let ⟨o, e, q⟩ := (N p hp).1; ⟨o, hk₁ _ _ e, q⟩, let ⟨_, e, _⟩ := (N p hp).1; Nat.ne_of_lt (Heap.lt_size e), hideAll_none _ (List.mem_map_of_mem hp)⟩, D₀.led.ord⟩, D₀.dr, D₀.os, D₀.gb, Nat.lt_of_lt_of_le D₀.tk (Nat.le_add_right _ _)⟩ (B.keeps st (by rw [hideAll_size]; exact Nat.le_trans B.sz (Nat.le_trans F.above (Nat.le_of_lt F.ns.lt)))) ⟨hk, rfl, rfl, rfl, rfl⟩ rfl fun m₂ news₂ s₂ D₂ => ?_) (fun fl s' q => ?_) fun _ _ q => q.elim
  · have F₂ := D₂.led.fr
    have N₂ := D₂.led.nw
    refine ⟨⟨⟨⟨oL, es, ep, F₂.keep L oL hLg, hLd, hLk, hLf⟩, fun b o e => F₂.keep b o (st b o e), F.above⟩, fun p hp => ⟨(N₂ p hp).1, fun q => ?_, ?_⟩, D₂.led.ord⟩, D₂.dr, D₂.os, D₂.gb, D₂.tk⟩
    · have := (N₂ p hp).2.2; rw [q, hLg] at this; cases this
    · cases q : h₀.get? p.1 with
      | none => rfl
      | some o => have := (N₂ p hp).2.2; rw [st _ _ q] at this; cases this
  · exact q
theorem enterG {f : Addr} {name qual : Str} {params : Arguments} {body : List Stmt} {scope : Scope} {cl : List (Str × Addr)} {dV kV doc pm cdv ct oc : Value} {an od : Option Addr} {osl : Array (Option Value)} {args : List Value} {Q : Value → Shared → Prop}
    (D : St z h₀ L m news s) (B : Gd w h₀) (ho : (hd.heap_1 w.params).lookup f = some ⟨oc, od, .func (fnX name qual params body scope cl dV kV doc pm an cdv ct), osl⟩) (hcd : codeIn (hd.heap_1 w.params) cdv qual = true)
    (hroom : A.depth < recursionLimit) (hcell : (scope.names.all fun x => x.2 != .cell) = true) (hco : scope.isCoroutine = false) (hgen : scope.isGenerator = false) (hk : scope.kind = .function)
    (hbind : wpAny (model prog w) A.in1 (bindArgs (fnX name qual params body scope cl dV kV doc pm an cdv ct) ⟨args, []⟩) (fun binds s₀ => ∃ news₀, St z h₀ L m news₀ s₀ ∧ (cStatics, isStat z) ∈ news₀ ∧ (binds.all fun x => scope.names.lookup x.1 == some .local) = true ∧
      ∀ g₁ L' s₁ env, St z g₁ L' (bm binds fun _ => none) news₀ s₁ → Gd w g₁ → EnvIs env L' scope.names → env = callEnv (fnX name qual params body scope cl dV kV doc pm an cdv ct) L' f → (∀ m₂ news₂ s₂, St z g₁ L' m₂ news₂ s₂ → St z h₀ L m news₂ s₂) →
        _root_.PySem.wpAt (model prog w) (A.deeper env) (.func body env) (execs body env) (fun fl s' => Q (match fl with | .ret v => v | _ => .none) s') (fun _ _ => False) s₁) (fun _ _ => False) s) :
    wpAny (model prog w) A (call (.ref f) args) Q E s :=
  wpAny_call (enterC D B ho hcd hroom hcell hco hgen hk hbind)
/- one parameter that takes all -/
theorem enterV {f : Addr} {name qual x : Str} {params : Arguments} {body : List Stmt} {scope : Scope} {dV kV doc pm cdv ct oc : Value} {an od : Option Addr} {osl : Array (Option Value)} {args : List Value} {Q : Value → Shared → Prop}
    (D : St z h₀ L m news s) (B : Gd w h₀) (hst : (cStatics, isStat z) ∈ news) (ho : (hd.heap_1 w.params).lookup f = some ⟨oc, od, .func (fnX name qual params body scope [] dV kV doc pm an cdv ct), osl⟩) (hcd : codeIn (hd.heap_1 w.params) cdv qual = true)
    (hroom : A.depth < recursionLimit) (hcell : (scope.names.all fun x => x.2 != .cell) = true) (hco : scope.isCoroutine = false) (hgen : scope.isGenerator = false) (hk : scope.kind = .function)
    (hb : bindArgs (fnX name qual params body scope [] dV kV doc pm an cdv ct) ⟨args, []⟩ = (newTuple args >>= fun v => pure [(x, v)])) (hsz : args.length ≤ sizeLine) (hx : scope.names.lookup x = some .local)
    (k : ∀ T g₁ L' s₁ env, St z g₁ L' (bm [(x, .ref T)] fun _ => none) ((T, isTpl args) :: news) s₁ → Gd w g₁ → EnvIs env L' scope.names → env = callEnv (fnX name qual params body scope [] dV kV doc pm an cdv ct) L' f → (∀ m₂ news₂ s₂, St z g₁ L' m₂ news₂ s₂ → St z h₀ L m news₂ s₂) →
        wpAny (model prog w) (A.deeper env) (execs body env) (fun fl s' => Q (match fl with | .ret v => v | _ => .none) s') (fun _ _ => False) s₁) :
    wpAny (model prog w) A (call (.ref f) args) Q E s := by
  refine enterG D B ho hcd hroom hcell hco hgen hk ?_
  rw [hb]
  refine wpAny_bind (rNewTuple D hsz fun T s₁ D₁ => wpAny_pure ⟨_, D₁, .tail _ hst, by simp [hx], fun g₁ L' s₂ env a1 a2 a3 a4 a5 => wpAt_of_wpAny (k T g₁ L' s₂ env a1 a2 a3 a4 a5)⟩)
/- a call of a def of the text -/
theorem keeps_fn {f : Addr} {K : Frag} (hf : keepIn K (.ref f) = true) {h : Heap} (X : K.In h) : ∃ k, (k = Keeper.frame ∨ k = Keeper.machine ∨ k = Keeper.boundFrame) ∧ Looks (model prog w) h (keeperOf (.ref f)) k := keeps_K hf h X
end
end Mine
end

section
open PySem PySem.W PySem.W.X PyProof.Rows PySem.Calls
set_option maxRecDepth 100000
namespace Mine
section
variable {w : World} {z : Shared} {prog : Program} {A : Around} {E : Value → Shared → Prop} {h₀ : Heap} {s : Shared} {L : Addr} {m : Str → Option Value} {news : List Ent} {env : Env} {Q : Value → Shared → Prop} {x : Str} {t u : Tok}
/- one sign for another, all through -/
theorem rReplC {n d e : Nat} {y x2 : Str} {k1 k2 : Nat} {p1 p2 : Pos} (D : St z h₀ L m news s) (hn : x.cps.toList.length ≤ n) (hn2 : n ≤ 100000) (hy : y = ⟨#[d]⟩) (h2 : x2 = ⟨#[e]⟩) (hyz : (y == x2) = false)
    (h : ∀ x' t' s', x'.cps.toList = x.cps.toList.map (rp d e) → x'.cps.toList.length ≤ n → St z h₀ L m news s' → Q (.str x' t') s') :
    wpAny (model prog w) A (eval (.Constant (.str y) k1 p1) env) (fun v1 s₁ => wpAny (model prog w) A (eval (.Constant (.str x2) k2 p2) env) (fun v2 s₂ => wpAny (model prog w) A (call (.builtin "str.replace") [.str x t, v1, v2]) Q E s₂) E s₁) E s := by
  subst hy
  subst h2
  have hx : x.length ≤ n := by simpa [Str.length] using hn
  exact rRepl D hyz (by show x.length + (x.length + 1) * 1 ≤ 16777216; lia) fun t' s' D' => h _ t' s' (repl_c x d e) (by rw [repl_c, List.length_map]; exact hn) D'
theorem rReplU {n : Nat} {k1 k2 : Nat} {p1 p2 : Pos} (D : St z h₀ L m news s) (hn : x.cps.toList.length ≤ n) (hn2 : n ≤ 100000)
    (h : ∀ x' t' s', x'.cps.toList = rm x.cps.toList → x'.cps.toList.length ≤ n → St z h₀ L m news s' → Q (.str x' t') s') :
    wpAny (model prog w) A (eval (.Constant (.str (Str.ofString "unknown")) k1 p1) env) (fun v1 s₁ => wpAny (model prog w) A (eval (.Constant (.str (Str.ofString "")) k2 p2) env) (fun v2 s₂ => wpAny (model prog w) A (call (.builtin "str.replace") [.str x t, v1, v2]) Q E s₂) E s₁) E s := by
  have hx : x.length ≤ n := by simpa [Str.length] using hn
  exact rRepl D (by kernel_rfl) (by show x.length + (x.length + 1) * 0 ≤ 16777216; lia) fun t' s' D' => h _ t' s' (replace_rm x) (by rw [replace_rm]; exact Nat.le_trans (len_rm _ _ rfl) hn) D'
theorem rReplD {n : Nat} {k1 k2 : Nat} {p1 p2 : Pos} (D : St z h₀ L m news s) (hn : x.cps.toList.length ≤ n) (hn2 : n ≤ 100000)
    (h : ∀ x' t' s', x'.cps.toList = dd x.cps.toList → x'.cps.toList.length ≤ n → St z h₀ L m news s' → Q (.str x' t') s') :
    wpAny (model prog w) A (eval (.Constant (.str (Str.ofString "--")) k1 p1) env) (fun v1 s₁ => wpAny (model prog w) A (eval (.Constant (.str (Str.ofString "-")) k2 p2) env) (fun v2 s₂ => wpAny (model prog w) A (call (.builtin "str.replace") [.str x t, v1, v2]) Q E s₂) E s₁) E s := by
  have hx : x.length ≤ n := by simpa [Str.length] using hn
  exact rRepl D (by kernel_rfl) (by show x.length + (x.length + 1) * 1 ≤ 16777216; lia) fun t' s' D' => h _ t' s' (repl_dd x) (by rw [repl_dd]; exact Nat.le_trans (dd_len _ _ rfl) hn) D'
/- a sign of a text -/
theorem rStrItem {value slice : Expr} {k : Int} {c : Nat} (D : St z h₀ L m news s) (h1 : -(2 ^ 63) ≤ k) (h2 : k < 2 ^ 63) (hc : (seqIndex? k x.length).bind (x.cps[·]?) = some c) (h : ∀ t' s', St z h₀ L m news s' → Q (.str ⟨#[c]⟩ t') s')
    (hs : subscripted slice false (.str x t) (.int k u) = operate [.str x t, .int k u] (getItem (.str x t) (.int k u))) : wpAny (model prog w) A (subscriptTail value slice (.str x t) (.int k u)) Q E s :=
  tail_any (typeIs_str s x t) F.slot_str_getitem.lookup (P.getItem_str (by simp; lia) hc (h _ _ (D.tok _))) hs
theorem seqIndex_last (n : Nat) : seqIndex? (-1) (n + 1) = some n := by
  rw [seqIndex_neg (by decide) (by lia)]; congr 1; lia
theorem rStrLast {value slice : Expr} {c : Nat} {l : List Nat} (D : St z h₀ L m news s) (hx : x.cps.toList = l ++ [c]) (h : ∀ t' s', St z h₀ L m news s' → Q (.str ⟨#[c]⟩ t') s')
    (hs : subscripted slice false (.str x t) (.int (-1) u) = operate [.str x t, .int (-1) u] (getItem (.str x t) (.int (-1) u))) : wpAny (model prog w) A (subscriptTail value slice (.str x t) (.int (-1) u)) Q E s := by
  have hl : x.length = l.length + 1 := by rw [len_toList, hx]; simp
  refine rStrItem D (by decide) (by decide) ?_ h hs
  have e1 : seqIndex? (-1) x.length = some l.length := by rw [hl]; exact seqIndex_last _
  rw [e1]
  show x.cps[l.length]? = some c
  rw [← Array.getElem?_toList, hx]; simp
/- a slice of a text -/
theorem rStrSlc {value slice : Expr} {sl : Addr} {vl vu : Value} {lo hi : Option (Int × Tok)} (D : St z h₀ L m news s) (hm : (sl, isSlc vl vu .none) ∈ news) (hl : vl = partValue lo) (hu : vu = partValue hi) (hsz : x.length ≤ sizeLine)
    (h : ∀ t' s', St z h₀ L m news s' → Q (.str (Txt.slice x (lo.map (·.1)) (hi.map (·.1))) t') s')
    (hs : subscripted slice false (.str x t) (.ref sl) = operate [.ref sl, .str x t] (getItem (.str x t) (.ref sl))) (ht : ∀ r, letTemporaryGo value (.str x t) r = pure ()) : wpAny (model prog w) A (subscriptTail value slice (.str x t) (.ref sl)) Q E s := by
  refine Mine.e1_2 (D.get hm) ?_
  intro o e q
  subst hl
  subst hu
  refine posTok D (tail_of_ItemOn ⟨"str", _, F.slot_str_getitem.lookup, typeIs_str _ _ _, wpAny_getItem_str_slice (l := lo) (u := hi) (st := none) ⟨o, e, by rw [q], by rw [q]; rfl⟩ rfl ?_⟩ hs ht)
  exact post_val_or_str ⟨Nat.le_trans (Txt.slice_le x _ _) hsz, fun t' k hk => h t' _ (D.tok k hk)⟩
theorem slice_init {c : Nat} {l : List Nat} (hx : x.cps.toList = l ++ [c]) : (Txt.slice x none (some (-1))).cps.toList = l := by
  have hl : x.length = l.length + 1 := by rw [len_toList, hx]; simp
  have := StrLaws.sliceText_to_neg (x := x) (j := -1) (by decide) (by lia)
  have e : Txt.slice x none (some (-1)) = StrLaws.sliceText x none (some (-1)) := rfl
  rw [e, this, hx, hl]
  have : ((-1 : Int) + ((l.length + 1 : Nat) : Int) - 0).toNat = l.length := by lia
  simp only [List.drop_zero, this]
  simp
theorem rStrInit {value slice : Expr} {sl : Addr} {c : Nat} {l : List Nat} (D : St z h₀ L m news s) (hm : (sl, isSlc .none (.int (-1) u) .none) ∈ news) (hx : x.cps.toList = l ++ [c]) (hsz : x.length ≤ sizeLine)
    (h : ∀ y t' s', y.cps.toList = l → St z h₀ L m news s' → Q (.str y t') s')
    (hs : subscripted slice false (.str x t) (.ref sl) = operate [.ref sl, .str x t] (getItem (.str x t) (.ref sl))) (ht : ∀ r, letTemporaryGo value (.str x t) r = pure ()) : wpAny (model prog w) A (subscriptTail value slice (.str x t) (.ref sl)) Q E s :=
  rStrSlc (lo := none) (hi := some (-1, u)) D hm rfl rfl hsz (fun t' s' D' => h _ t' s' (slice_init hx) D') hs ht
end
/- what a generator's element sees -/
theorem K0.ofSt {h₀ : Heap} {t s : Shared} {C : Addr} {m : Str → Option Value} (K : K0 h₀ t C m s) (k : Nat) : K0 h₀ t C m { s with toks := k } := by
  obtain ⟨⟨h', tk, rfl, hk⟩, hn, hb⟩ := K
  exact ⟨⟨h', k, rfl, hk⟩, hn, hb⟩
theorem k0NmL {w : World} {prog : Program} {A : Around} {E : Value → Shared → Prop} {h₀ : Heap} {t s : Shared} {C : Addr} {m : Str → Option Value} {env : Env} {names : List (Str × NameKind)} {Q : Value → Shared → Prop} {x : Str} {pos : Pos} {v : Value} (K : K0 h₀ t C m s) (hE : EnvIs env C names) (hl : names.lookup x = some .local) (hv : m x = some v) (h : Q v s) (hd : (x == ("__debug__" : Str)) = false) : wpAny (model prog w) A (eval (.Name x pos) env) Q E s :=
  wpAny_Name (wpAny_loadName_local hE.kind (by rw [Env.kindOf, hE.nm]; exact hl) (by rw [hE.loc]; exact K.ns) hv h) hd
theorem bind_var {fd : FuncData} {a : Arg} {vs : List Value} (hp : fd.params = { posonlyargs := [], args := [], vararg := some a, kwonlyargs := [], kw_defaults := [], kwarg := none, defaults := [] }) (hd : fd.defaults = .none) :
    bindArgs fd ⟨vs, []⟩ = (newTuple vs >>= fun v => pure [(a.arg, v)]) := by
  have e : seqItems? Value.none = pure none := rfl
  unfold bindArgs
  simp only [hp, hd, e, List.map_nil, List.append_nil, List.length_nil, Option.isNone_some, Bool.and_false, pure_bind, List.zip_nil_left, List.drop_nil, List.take_nil, List.filter_nil, List.isEmpty_nil, Bool.not_true, Bool.false_eq_true, if_false, List.drop_zero, List.filterMap_nil, List.forIn_nil, List.nil_append]
theorem closFree {scope : Scope} {env : Env} (h : (scope.names.all fun y => y.2 != .free) = true) : closureFor scope env = pure [] := closureFor_none fun y hy => by simpa using List.all_eq_true.mp h y hy
/- addresses not yet taken -/
theorem St.freshB {z : Shared} {h₀ : Heap} {L : Addr} {m : Str → Option Value} {news : List Ent} {s : Shared} {b : Addr} (D : St z h₀ L m news s) (hb : s.heap.objs.size ≤ b) : b ∉ news.map (·.1) ∧ h₀.get? b = none ∧ b ≠ L := by
  refine ⟨fun q => ?_, ?_, fun q => ?_⟩
  · refine Mine.e1_2 (List.mem_map.mp q) ?_
    intro p hp e
    refine Mine.e1_2 ((D.led.nw p hp).1) ?_
    intro o ho zu1
    exact absurd (Heap.lt_size ho) (by rw [e]; exact Nat.not_lt.mpr hb)
  · cases q : h₀.get? b with
    | none => rfl
    | some o => exact absurd (Heap.lt_size (D.keep q)) (Nat.not_lt.mpr hb)
  · exact absurd D.led.fr.ns.lt (by rw [← q]; exact Nat.not_lt.mpr hb)
theorem St.ltB {z : Shared} {h₀ : Heap} {L : Addr} {m : Str → Option Value} {news : List Ent} {s : Shared} {b : Addr} {P : Obj → Prop} (D : St z h₀ L m news s) (hb : (b, P) ∈ news) : b < s.heap.objs.size := by
  obtain ⟨o, ho, _⟩ := D.get hb; exact Heap.lt_size ho
end Mine
end

section
open PySem PySem.W PySem.W.X PyProof.Rows PySem.Calls
open Builtin Builtin.ObjectAttr
set_option maxRecDepth 100000
set_option maxHeartbeats 1000000
namespace Mine
/- objects of the text's two classes -/
noncomputable def isAcc (dx : Addr) (vs : List Value) : Obj → Prop := fun o => ∃ n, o = { cls := .ref 220, dict := some dx, data := .seq vs.toArray n }
noncomputable def isVf (dx : Addr) : Obj → Prop := fun o => o = instObj 136 dx
inductive Dct (P : Params) : List DictEntry → List (Str × Value) → Prop
  | nil : Dct P [] []
  | cons (x : Str) (t : Tok) (v : Value) {es : List DictEntry} {kvs : List (Str × Value)} : Dct P es kvs → Dct P (⟨PyData.keyHash P x, .str x t, v⟩ :: es) ((x, v) :: kvs)
noncomputable def isDct (P : Params) (kvs : List (Str × Value)) : Obj → Prop := fun o => ∃ es n, o = dictOf es n ∧ Dct P es kvs
noncomputable def putK (x : Str) (v : Value) : List (Str × Value) → List (Str × Value)
  | [] => [(x, v)]
  | (y, u) :: r => if y == x then (y, v) :: r else (y, u) :: putK x v r
noncomputable def getK (x : Str) : List (Str × Value) → Option Value
  | [] => none
  | (y, u) :: r => if y == x then some u else getK x r
theorem Dct.noRef {P : Params} : ∀ {es : List DictEntry} {kvs : List (Str × Value)}, Dct P es kvs → es.any (·.refKey) = false := fun h => by
  induction h with
  | nil => rfl
  | cons x t v _ ih => rw [List.any_cons, ih]; rfl
theorem Dct.get {P : Params} {x : Str} : ∀ {es : List DictEntry} {kvs : List (Str × Value)}, Dct P es kvs → getL x es = some (getK x kvs) := fun h => by
  induction h with
  | nil => rfl
  | @cons y t v es kvs h ih =>
    have hn := h.noRef
    have h2 : ¬ ((DictEntry.mk (PyData.keyHash P y) (Value.str y t) v :: es).any (·.refKey) = true) := by
      rw [List.any_cons, hn]; exact Bool.false_ne_true
    unfold getL at ih ⊢
    rw [List.find?_cons]
    have e : (Value.str y t).isStr x = (y == x) := rfl
    simp only [e, getK]
    cases q : (y == x) with
    | true => simp
    | false =>
      revert ih
      generalize es.find? (fun z => z.key.isStr x) = f
      intro ih
      cases f with
      | some e => exact ih
      | none =>
        have ih' : (if es.any (·.refKey) = true then (none : Option (Option Value)) else some none) = some (getK x kvs) := ih
        rw [if_neg (by rw [hn]; exact Bool.false_ne_true)] at ih'
        show (if (DictEntry.mk (PyData.keyHash P y) (Value.str y t) v :: es).any (·.refKey) = true then (none : Option (Option Value)) else some none) = some (getK x kvs)
        rw [if_neg h2]
        exact ih'
theorem Dct.put {P : Params} {x : Str} {k : Tok} {v : Value} : ∀ {es : List DictEntry} {kvs : List (Str × Value)}, Dct P es kvs → Dct P (putL x (PyData.keyHash P x) (.str x k) v es) (putK x v kvs) := fun h => by
  induction h with
  | nil => exact .cons _ _ _ .nil
  | @cons y t u es kvs h ih =>
    have e : (Value.str y t).isStr x = (y == x) := rfl
    simp only [putL, putK, e]
    cases q : (y == x) with
    | true => simp; exact .cons _ _ _ h
    | false => simp; exact .cons _ _ _ ih
theorem Dct.len {P : Params} : ∀ {es : List DictEntry} {kvs : List (Str × Value)}, Dct P es kvs → es.length = kvs.length := fun h => by
  induction h with
  | nil => rfl
  | cons _ _ _ _ ih => rw [List.length_cons, List.length_cons, ih]
theorem putK_len (x : Str) (v : Value) : ∀ kvs : List (Str × Value), (putK x v kvs).length ≤ kvs.length + 1
  | [] => by simp [putK]
  | (y, u) :: r => by
    have := putK_len x v r
    unfold putK
    split <;> simp <;> lia
/- facts of the class that is a list -/
theorem ga220 (P : Params) : findIn (Kx P) (.ref 220) "__getattribute__" = some (some (.builtin "list.__getattribute__")) := by kernel_rfl
theorem gx220 (P : Params) : findIn (Kx P) (.ref 220) "__getattr__" = some none := by kernel_rfl
theorem sa220 (P : Params) : findIn (Kx P) (.ref 220) "__setattr__" = some (some (.builtin "object.__setattr__")) := by kernel_rfl
theorem hd220 (P : Params) : hasDictIn (Kx P) 220 = true := by kernel_rfl
theorem hd136 (P : Params) : hasDictIn (Kx P) 136 = true := by kernel_rfl
theorem mro220 (P : Params) : (clsIn (Kx P) 220).map (·.mro) = some [.ref 220, .type "list", .type "object"] := by kernel_rfl
theorem entry_list_ga : entryFor table "list.__getattribute__" = some Builtin.«object.__getattribute__» :=
  entryFor_alias (id' := "object.__getattribute__") (by kernel_rfl) (by first | rfl | decide +kernel | (unfold String.splitOn; simp +decide [String.splitOnAux])) (by decide +kernel) (by kernel_rfl)
theorem canon_list_ga : (Manifest.canonical "list.__getattribute__" != "object.__getattribute__") = false := by decide +kernel
theorem kind_list_ga : builtinKind "list.__getattribute__" = some .slot := by decide +kernel
theorem split_list_ga : splitId "list.__getattribute__" = some ("list", "__getattribute__") := by decide +kernel
theorem plain_list_ga : plainId "list.__getattribute__" = true := by decide +kernel
theorem args_list_ga (a b : Value) : argsOk "list.__getattribute__" ⟨[a, b], []⟩ := by unfold argsOk; kernel_rfl
theorem bind_list_ga (self : Value) : bindSpecial (.builtin "list.__getattribute__") self = pure (.builtin "list.__getattribute__", [self]) :=
  (Slot.of (T := "list") (name := "__getattribute__") (owner := "list") (n := "__getattribute__") (by rw [typeLookup_type, builtinLookup_eq_fast]; kernel_rfl) (by decide +kernel) (by decide +kernel) (by decide +kernel)
    (.inl (by decide +kernel)) (by rw [isSubtype_type]; kernel_rfl)).bind self
theorem mro136 (P : Params) : (clsIn (Kx P) 136).map (·.mro) = some [.ref 136, .type "object"] := by kernel_rfl
theorem sa136 (P : Params) : findIn (Kx P) (.ref 136) "__setattr__" = some (some (.builtin "object.__setattr__")) := by kernel_rfl
theorem ob220 (P : Params) : mroIn (Kx P) 220 (.type "object") = some true := by kernel_rfl
theorem ob136 (P : Params) : mroIn (Kx P) 136 (.type "object") = some true := by kernel_rfl
theorem sl220 (P : Params) : mroIn (Kx P) 220 (.type "list") = some true := by kernel_rfl
theorem slotArgs_ga (a b : Value) : slotArgs "__getattribute__" 1 ⟨[a, b], []⟩ = pure (a, [b]) := by kernel_rfl
theorem attrName_str (x : Str) (t : Tok) : attrName (.str x t) = pure x := by kernel_rfl
theorem notObj : ¬ ((onTheHeap (.ref 220) && (Value.builtin "list.__getattribute__" == Value.builtin "object.__getattribute__")) = true) := by decide +kernel
theorem passes_list (self : Value) : refuseLoop self "__setattr__" [.type "list", .type "object"] = pure () := by
  have h1 : classOwn (.type "list") "__setattr__" = pure none := by first | rfl | kernel_rfl
  have h2 : refuseLoop self "__setattr__" [.type "object"] = pure () := PySem.F.store_object.passes self
  unfold refuseLoop at h2 ⊢
  rw [List.forIn_cons, h1]
  simpa using h2
section
variable {w : World} {z : Shared} {prog : Program} {A : Around} {E : Value → Shared → Prop} {h₀ : Heap} {s : Shared} {L : Addr} {m : Str → Option Value} {news news' : List Ent} {x dx : Addr} {vs : List Value} {kvs : List (Str × Value)} {name : Str} {v : Value}
theorem sub220 {h : Heap} (X : (Kx w.params).In h) {y : Addr} {o : Obj} {od : Option Obj} (I : InstAt h y o 220 od) (T : String) (hT : mroIn (Kx w.params) 220 (.type T) = some true) : Looks (model prog w) h (isInstance (.ref y) (.type T)) true :=
  I.type.andThen (looks_mroIn X hT)
theorem St.acc (D : St z h₀ L m news s) (hx : (x, isAcc dx vs) ∈ news) (hd : (dx, isDct w.params kvs) ∈ news) : ∃ n es k, InstAt s.heap x { cls := .ref 220, dict := some dx, data := .seq vs.toArray n } 220 (some (dictOf es k)) ∧ Dct w.params es kvs := by
  obtain ⟨o, ho, n, rfl⟩ := D.get hx
  obtain ⟨o2, ho2, es, k, rfl, hk⟩ := D.get hd
  exact Mine.I3 n es k (Mine.a2 ⟨ho, rfl, rfl, ho2⟩ hk)
theorem St.vf (D : St z h₀ L m news s) (hx : (x, isVf dx) ∈ news) (hd : (dx, isDct w.params kvs) ∈ news) : ∃ es k, InstAt s.heap x (instObj 136 dx) 136 (some (dictOf es k)) ∧ Dct w.params es kvs := by
  refine Mine.e1_2 (D.get hx) ?_
  intro o ho zq1
  subst zq1
  obtain ⟨o2, ho2, es, k, rfl, hk⟩ := D.get hd
  exact Mine.i2_2 es k ⟨ho, rfl, rfl, ho2⟩ hk
theorem rGetV {expr : Bool} {Q : Value → Shared → Prop} (D : St z h₀ L m news s) (B : Gd w h₀) (hx : (x, isVf dx) ∈ news) (hd : (dx, isDct w.params kvs) ∈ news) (hl : getK name kvs = some v)
    (hg : plainGet (Kx w.params) 136 name = true) (ha : findIn (Kx w.params) (.ref 136) name = some none) (hv : handedIn v = true) (h : ∀ s', St z h₀ L m news s' → Q v s') : wpAny (model prog w) A (getAttr (.ref x) name expr) Q E s := by
  refine Mine.e2_2 (D.vf hx hd) ?_
  intro es k I hk
  have X := D.X B
  have hlk : lookIn name (dictOf es k) = some (some v) := by rw [lookIn_dict, hk.get, hl]
  have hno : noGet (Kx w.params) none = true := rfl
  have hfo : findObj (Kx w.params) 136 (some (dictOf es k)) name = some (.value v) := findObj_own (hd136 w.params) ha hno hlk
  have hga := (plainGet_of hg).1
  exact get_value X I hga hfo hv (h _ (D.tok _))
theorem rGetA0 {expr : Bool} {Q : Value → Shared → Prop} (D : St z h₀ L m news s) (B : Gd w h₀) (hx : (x, isAcc dx vs) ∈ news) (hd : (dx, isDct w.params kvs) ∈ news) (hl : getK name kvs = some v)
    (ha : findIn (Kx w.params) (.ref 220) name = some none) (hv : handedIn v = true) (h : Q v { s with toks := s.toks + 1 }) : wpAny (model prog w) A (getAttr (.ref x) name expr) Q E s := by
  refine Mine.e3_2 (D.acc hx hd) ?_
  intro n es k I hk
  have X := D.X B
  have hlk : lookIn name (dictOf es k) = some (some v) := by rw [lookIn_dict, hk.get, hl]
  have hno : noGet (Kx w.params) none = true := rfl
  have hf : findObj (Kx w.params) 220 (some (dictOf es k)) name = some (.value v) := findObj_own (hd220 w.params) ha hno hlk
  obtain ⟨hh, g, d, t, os⟩ := s
  have L0 := I.type (M := model prog w)
  have L1 := looks_findIn (M := model prog w) X (ga220 w.params)
  have L2 := looks_findIn (M := model prog w) X (gx220 w.params)
  have L3 := looks_find (M := model prog w) X I hf
  unfold getAttr getAttrBy
  refine wpAny_bind (wpAny_mkText (wpAny_holding (wpAny_bind (L0.at (wpAny_bind (L1.at ?_))))))
  dsimp only
  rw [if_neg notObj]
  unfold getAttrByItsOwn hookBefore callGetattribute boundAndCalled
  refine wpAny_bind (wpAny_mono (Q := fun b s' => b = none ∧ s' = (⟨hh, g, d, t + 1, os⟩ : Shared)) (L2.at ⟨rfl, rfl⟩) (fun b s' q => ?_) fun _ _ z => z)
  obtain ⟨rfl, rfl⟩ := q
  refine wpAny_bind (wpAny_attempt (wpAny_holding ?_))
  rw [show (expr && onTheHeap (.builtin "list.__getattribute__")) = false from Bool.and_false _, if_neg (by decide)]
  refine wpAny_bind (wpAny_of_eq (bind_list_ga _) ?_)
  have hsub : Looks (model prog w) hh (isInstance (.ref x) (.type "list")) true := sub220 X I "list" (sl220 w.params)
  show wpAny _ _ (call (.builtin "list.__getattribute__") [.ref x, .str name t]) _ _ _
  refine wpAny_call (codeAny_call_builtin plain_list_ga entry_list_ga ?_)
  refine @check_slot (model prog w) _ _ ⟨hh, g, d, t + 1, os⟩ "list.__getattribute__" "list" "__getattribute__" (.ref x) [.str name t] [] _ kind_list_ga split_list_ga hsub (args_list_ga (.ref x) (.str name t)) ?_
  unfold Builtin.«object.__getattribute__»
  refine wpAny_bind (wpAny_of_eq (slotArgs_ga _ _) ?_)
  refine wpAny_bind (wpAny_of_eq (attrName_str name t) ?_)
  refine wpAny_bind (L0.at (wpAny_bind (L3.at (wpAny_pure ?_))))
  show wpAny _ _ (handedOut v) _ _ _
  rw [handedOut_of hv]
  exact wpAny_pure h
theorem rGetA {expr : Bool} {Q : Value → Shared → Prop} (D : St z h₀ L m news s) (B : Gd w h₀) (hx : (x, isAcc dx vs) ∈ news) (hd : (dx, isDct w.params kvs) ∈ news) (hl : getK name kvs = some v)
    (ha : findIn (Kx w.params) (.ref 220) name = some none) (hv : handedIn v = true) (h : ∀ s', St z h₀ L m news s' → Q v s') : wpAny (model prog w) A (getAttr (.ref x) name expr) Q E s :=
  rGetA0 D B hx hd hl ha hv (h _ (D.tok _))
/- an attribute stored in the own dict -/
theorem storeOwn {C : Addr} {od : Obj} {o : Obj} {es : List DictEntry} {k : Nat} {tk : Tok} {b : Bool} {cd : ClassData} {Q : Fin → Shared → Prop} (D : St z h₀ L m news s) (B : Gd w h₀) (U : Rep dx (isDct w.params kvs) (isDct w.params (putK name v kvs)) news news') (I : InstAt s.heap x o C (some od)) (hox : o.dict = some dx) (hod : od = dictOf es k) (hk : Dct w.params es kvs)
    (hc : clsIn (Kx w.params) C = some cd) (hh : cd.hasDict = true) (hz : kvs.length ≤ 100) (h : ∀ s', St z h₀ L m news' s' → Q (.done (.ret .none)) s') :
    wpAny (model prog w) A (storeInOwnDict (.ref x) (.ref C) (.str name tk) name v b) Q E s := by
  have X := D.X B
  subst hod
  obtain ⟨hx, hcl, hn, hdd⟩ := I
  obtain ⟨oc, odi, oda, osl⟩ := o
  dsimp only at hcl hox
  subst hcl
  subst hox
  have Dd : s.heap.get? dx = some (dictOf es k) := hdd
  have hput := hk.put (x := name) (k := s.toks) (v := v)
  have hes : (putL name (PyData.keyHash w.params name) (.str name s.toks) v es).length ≤ 1000 := by rw [hput.len]; have := putK_len name v kvs; lia
  have hupd := Heap.get?_update_self (Obj.putName name (PyData.keyHash w.params name) (.str name s.toks) v) Dd (by rw [putName_dict]; rfl)
  rw [putName_dict] at hupd
  have fin := h _ (D.turn (s.toks + 1) U (fun b o hb e => ((Heap.SameBut.update .. : Heap.SameBut dx s.heap _).2 b hb).trans e) ⟨_, hupd, _, _, rfl, hput⟩)
  refine wpAny_bind (wpAny_pure (wpAny_bind (wpAny_bind (wpAny_loadPart hx (wpAny_bind ((looks_clsIn X hc).here ?_))))))
  rw [hh]
  refine wpAny_pure (a := some dx) (wpAny_bind (wpAny_pure (wpAny_bind ?_)))
  unfold nsSet
  refine wpAny_bind (wpAny_bind (wpAny_askSetting (wpAny_pure (wpAny_bind (wpAny_mkText (wpAny_bind (wpAny_loadPart Dd ?_)))))))
  dsimp only
  have c : (!es.toArray.any (·.key.isStr name) && es.toArray.any (·.refKey)) = false := by
    rw [← Array.any_toList, ← Array.any_toList, hk.noRef, Bool.and_false]
  rw [aRefKeyMayBeTheName_at, c]
  refine wpAny_updatePart Dd ?_
  refine wpAny_bind (wpAny_lookBehind hupd (pastItsLine_dict (by rw [List.size_toArray, sizeLine_eq]; lia)) ?_)
  exact wpAny_pure fin
/- object.__setattr__ on a made object of a class whose line holds only object, or list and object -/
theorem osaOpen {C : Addr} {od : Option Obj} {o : Obj} {tk : Tok} {cd : ClassData} {R : Result → Shared → Prop} (X : (Kx w.params).In s.heap) (I : InstAt s.heap x o C od) (hc : clsIn (Kx w.params) C = some cd) (hm : refuseLoop (.ref x) "__setattr__" cd.mro = pure ()) (ho : mroIn (Kx w.params) C (.type "object") = some true) (hf : findIn (Kx w.params) (.ref C) name = some none)
    (h : wpAny (model prog w) A.in1 (storeInOwnDict (.ref x) (.ref C) (.str name tk) name v false) (fun fin s' => match fin with | .done f => R (.ok f) s' | .again c' => c'.quiet = true ∧ codeAny (model prog w) A c' R s') (fun e s' => R (.error e) s') s) :
    codeAny (model prog w) A (.call (.builtin "object.__setattr__") ⟨[.ref x, .str name tk, v], []⟩) R s := by
  have SF := PySem.F.store_object
  have sub : Looks (model prog w) s.heap (isInstance (.ref x) (.type "object")) true := I.type.andThen (looks_mroIn X ho)
  refine codeAny_call_builtin SF.slot.plain SF.entry (@check_slot (model prog w) _ _ s "object.__setattr__" "object" "__setattr__" (.ref x) [.str name tk, v] [] _ SF.kind SF.split sub (SF.args (.ref x) (.str name tk) v) ?_)
  have hmm : Looks (model prog w) s.heap (mroOf (.ref C)) cd.mro := (looks_clsIn X hc).andThen .now
  rw [osa_eq, refuse_eq]
  refine wpAny_bind (wpAny_bind (I.type.here (wpAny_bind (hmm.here ?_))))
  rw [hm]
  refine wpAny_pure (wpAny_bind (I.type.here (wpAny_bind ((looks_findIn X hf).here (wpAny_bind ?_)))))
  exact wpAny_pure h
theorem cls220 (P : Params) : ∃ cd, clsIn (Kx P) 220 = some cd ∧ cd.hasDict = true ∧ cd.mro = [.ref 220, .type "list", .type "object"] := by
  cases q : clsIn (Kx P) 220 with
  | none => have := mro220 P; rw [q] at this; cases this
  | some cd =>
    have h1 := mro220 P
    have h2 : (clsIn (Kx P) 220).any (·.hasDict) = true := hd220 P
    rw [q] at h1 h2
    exact Mine.i1_3 cd rfl h2 (Option.some.inj h1)
theorem cls136 (P : Params) : ∃ cd, clsIn (Kx P) 136 = some cd ∧ cd.hasDict = true ∧ cd.mro = [.ref 136, .type "object"] := by
  cases q : clsIn (Kx P) 136 with
  | none => have := mro136 P; rw [q] at this; cases this
  | some cd =>
    have h1 := mro136 P
    have h2 : (clsIn (Kx P) 136).any (·.hasDict) = true := hd136 P
    rw [q] at h1 h2
    exact Mine.i1_3 cd rfl h2 (Option.some.inj h1)
theorem rSetAcc {Q : Unit → Shared → Prop} (D : St z h₀ L m news s) (B : Gd w h₀) (hx : (x, isAcc dx vs) ∈ news) (U : Rep dx (isDct w.params kvs) (isDct w.params (putK name v kvs)) news news') (hz : kvs.length ≤ 100)
    (ha : findIn (Kx w.params) (.ref 220) name = some none) (h : ∀ s', St z h₀ L m news' s' → Q () s') : wpAny (model prog w) A (setAttr (.ref x) name v) Q E s := by
  refine Mine.e3_2 (D.acc hx U.mem) ?_
  intro n es k I hk
  refine Mine.e1_3 (cls220 w.params) ?_
  intro cd hc hh hm
  have X := D.X B
  have D' := D.tok (s.toks + 1)
  refine set_plain X I (sa220 w.params) (osaOpen (s := { s with toks := s.toks + 1 }) X I hc ?_ (ob220 w.params) ha ?_)
  · rw [hm, refuseLoop_ref]; exact passes_list _
  · exact storeOwn D' B U I rfl rfl hk hc hh hz fun s' q => h s' q
theorem rSetVf {Q : Unit → Shared → Prop} (D : St z h₀ L m news s) (B : Gd w h₀) (hx : (x, isVf dx) ∈ news) (U : Rep dx (isDct w.params kvs) (isDct w.params (putK name v kvs)) news news') (hz : kvs.length ≤ 100)
    (ha : findIn (Kx w.params) (.ref 136) name = some none) (h : ∀ s', St z h₀ L m news' s' → Q () s') : wpAny (model prog w) A (setAttr (.ref x) name v) Q E s := by
  refine Mine.e2_2 (D.vf hx U.mem) ?_
  intro es k I hk
  refine Mine.e1_3 (cls136 w.params) ?_
  intro cd hc hh hm
  have X := D.X B
  have D' := D.tok (s.toks + 1)
  refine set_plain X I (sa136 w.params) (osaOpen (s := { s with toks := s.toks + 1 }) X I hc ?_ (ob136 w.params) ha ?_)
  · rw [hm, refuseLoop_ref]; exact PySem.F.store_object.passes _
  · exact storeOwn D' B U I rfl rfl hk hc hh hz fun s' q => h s' q
/- a method of the text's own, found on a made object -/
theorem rMethA {pl : Sem Bool} {Q : Value × List Value → Shared → Prop} (D : St z h₀ L m news s) (B : Gd w h₀) (hx : (x, isAcc dx vs) ∈ news) (hd : (dx, isDct w.params kvs) ∈ news) (hl : getK name kvs = none)
    {fv : Value} (hf : findIn (Kx w.params) (.ref 220) name = some (some fv)) (ht : Looks (model prog w) s.heap (typeOf fv) tf) (htf : (tf != .type "function" && tf != .type "method_descriptor" && tf != .type "wrapper_descriptor") = false) (h : Q (fv, [.ref x]) s) :
    wpAny (model prog w) A (getMethod (.ref x) name pl) Q E s := by
  refine Mine.e3_2 (D.acc hx hd) ?_
  intro n es k I hk
  have X := D.X B
  have hlk : lookIn name (dictOf es k) = some none := by rw [lookIn_dict, hk.get, hl]
  unfold getMethod specialOf
  refine wpAny_bind (wpAny_bind (I.type.here ((looks_findIn X (ga220 w.params)).here ?_)))
  dsimp only
  rw [canon_list_ga, if_neg (by decide)]
  refine wpAny_bind (wpAny_bind (I.type.here ((looks_findIn X (gx220 w.params)).here ?_)))
  refine wpAny_bind (wpAny_bind (I.type.here ((looks_findIn X hf).here (wpAny_bind (ht.here ?_)))))
  rw [htf, if_neg (by decide)]
  refine wpAny_bind (wpAny_loadPart I.at_ ?_)
  refine wpAny_bind (wpAny_bind (wpAny_loadPart I.dict ?_))
  rw [nsLook_of hlk]
  refine wpAny_pure ?_
  exact wpAny_bind (wpAny_rule (wpAny_pure h))
theorem rMethAF {f : Addr} {pl : Sem Bool} {Q : Value × List Value → Shared → Prop} (D : St z h₀ L m news s) (B : Gd w h₀) (hx : (x, isAcc dx vs) ∈ news) (hd : (dx, isDct w.params kvs) ∈ news) (hl : getK name kvs = none)
    (hf : findIn (Kx w.params) (.ref 220) name = some (some (.ref f))) (ht : typeIn (Kx w.params) (.ref f) = some (.type "function")) (h : Q (.ref f, [.ref x]) s) : wpAny (model prog w) A (getMethod (.ref x) name pl) Q E s :=
  rMethA D B hx hd hl hf (looks_typeIn (D.X B) ht) (by decide +kernel) h
theorem rMethAB {id : String} {pl : Sem Bool} {Q : Value × List Value → Shared → Prop} (D : St z h₀ L m news s) (B : Gd w h₀) (hx : (x, isAcc dx vs) ∈ news) (hd : (dx, isDct w.params kvs) ∈ news) (hl : getK name kvs = none)
    (hf : findIn (Kx w.params) (.ref 220) name = some (some (.builtin id))) (ht : typeOf (.builtin id) = pure (.type "method_descriptor")) (h : Q (.builtin id, [.ref x]) s) : wpAny (model prog w) A (getMethod (.ref x) name pl) Q E s :=
  rMethA D B hx hd hl hf (by rw [ht]; exact .now) (by decide +kernel) h
theorem rMethV {f : Addr} {pl : Sem Bool} {Q : Value × List Value → Shared → Prop} (D : St z h₀ L m news s) (B : Gd w h₀) (hx : (x, isVf dx) ∈ news) (hd : (dx, isDct w.params kvs) ∈ news) (hl : getK name kvs = none) (hg : plainGet (Kx w.params) 136 name = true)
    (hf : findIn (Kx w.params) (.ref 136) name = some (some (.ref f))) (ht : typeIn (Kx w.params) (.ref f) = some (.type "function")) (h : Q (.ref f, [.ref x]) s) : wpAny (model prog w) A (getMethod (.ref x) name pl) Q E s := by
  refine Mine.e2_2 (D.vf hx hd) ?_
  intro es k I hk
  exact method_fn (D.X B) I (plainGet_of hg).1 (plainGet_of hg).2 hf ht (by show (lookIn name (dictOf es k)).map _ = _; rw [lookIn_dict, hk.get, hl]; rfl) h
end
end Mine
end

section
open PySem PySem.W PySem.W.X PyProof.Rows PySem.Calls
open Builtin
set_option maxRecDepth 100000
set_option maxHeartbeats 1000000
namespace Mine
/- the built-in methods of a list on a made object of a class that is a list -/
theorem check_lst {M : Model} {A : Around} {E : Value → Shared → Prop} {s : Shared} {i n : String} {self : Value} {rest : List Value} {Q : Unit → Shared → Prop}
    (hk : builtinKind i = some .slot ∨ builtinKind i = some .method) (hs : splitId i = some ("list", n)) (hi : Looks M s.heap (isInstance self (.type "list")) true) (ha : argsOk i ⟨self :: rest, []⟩) (q : Q () s) :
    wpAny M A (checkBuiltinCall i ⟨self :: rest, []⟩) Q E s := by
  rcases hk with h | h <;>
  · unfold checkBuiltinCall
    rw [h, hs]
    refine wpAny_bind (hi.here ?_)
    rw [if_neg (show ¬ ((!true) = true) from Bool.false_ne_true)]
    cases hsig : Manifest.signature? i with
    | none => exact wpAny_pure q
    | some sig =>
      simp only [argsOk, hsig] at ha
      have h2 : Bind.checkArgs i sig ⟨self :: rest, []⟩ = pure () := ha
      show wpAny M A (Bind.checkArgs i sig ⟨self :: rest, []⟩) Q E s
      rw [h2]; exact wpAny_pure q
theorem erase_last (ws : List Value) (v : Value) : (ws ++ [v]).eraseIdx ws.length = ws := by
  induction ws with
  | nil => rfl
  | cons a r ih => simpa using ih
section
variable {w : World} {z : Shared} {prog : Program} {A : Around} {E : Value → Shared → Prop} {h₀ : Heap} {s : Shared} {L : Addr} {m : Str → Option Value} {news news' : List Ent} {x dx : Addr} {vs : List Value} {kvs : List (Str × Value)}
theorem St.accT (D : St z h₀ L m news s) (hx : (x, isAcc dx vs) ∈ news) : Looks (model prog w) s.heap (typeOf (.ref x)) (.ref 220) := by
  obtain ⟨o, ho, n, rfl⟩ := D.get hx
  exact (Looks.ld (part := some headPart) ho).andThen .now
theorem lstCall {id n : String} {b : Builtin} {rest : List Value} {Q : Value → Shared → Prop} (D : St z h₀ L m news s) (B : Gd w h₀) (hx : (x, isAcc dx vs) ∈ news) (hk : builtinKind id = some .slot ∨ builtinKind id = some .method) (hs : splitId id = some ("list", n)) (hp : plainId id = true) (he : entryFor table id = some b) (ha : argsOk id ⟨.ref x :: rest, []⟩)
    (hc : wpAny (model prog w) A.in1 (b ⟨.ref x :: rest, []⟩) (fun fin s' => ∃ v, fin = .done (.ret v) ∧ Q v s') E s) : wpAny (model prog w) A (call (.builtin id) (.ref x :: rest)) Q E s := by
  refine wpAny_call (codeAny_call_builtin hp he (check_lst hk hs ((D.accT hx).andThen (looks_mroIn (D.X B) (sl220 w.params))) ha (wpAny_mono hc (fun fin s' h' => ?_) fun _ _ h' => h')))
  obtain ⟨v, rfl, hv⟩ := h'; exact hv
theorem St.turnSeq {f : Array Value → Array Value} {ws : List Value} (D : St z h₀ L m news s) (U : Rep x (isAcc dx vs) (isAcc dx ws) news news') (hf : f vs.toArray = ws.toArray) : St z h₀ L m news' { s with heap := s.heap.update x (Obj.mapSeq f) } := by
  obtain ⟨o, ho, n, rfl⟩ := D.get U.mem
  refine D.turn s.toks U (fun b o hb e => ((Heap.SameBut.update .. : Heap.SameBut x s.heap _).2 b hb).trans e) ⟨_, Heap.get?_update_self _ ho rfl, ?_⟩ D.tk
  refine ⟨if (ws.toArray.size == vs.toArray.size) = true then n else n + 1, ?_⟩
  simp only [Obj.mapSeq, hf]
theorem rAppA {v : Value} {Q : Value → Shared → Prop} (D : St z h₀ L m news s) (B : Gd w h₀) (U : Rep x (isAcc dx vs) (isAcc dx (vs ++ [v])) news news') (hz : vs.length ≤ 1000) (h : ∀ s', St z h₀ L m news' s' → Q .none s') : wpAny (model prog w) A (call (.builtin "list.append") [.ref x, v]) Q E s := by
  refine lstCall (n := "append") D B U.mem (.inr (by decide +kernel)) (by decide +kernel) (by decide +kernel) F.entry_list_append (F.args_list_append_2 _ _) ?_
  obtain ⟨o, ho, n, rfl⟩ := D.get U.mem
  show wpAny _ _ (updateSeq x (·.push v) >>= _) _ _ _
  refine wpAny_bind (wpAny_updateSeq ho rfl (wpAny_pure ⟨_, rfl, h _ (D.turnSeq U (by simp))⟩) (by rw [sizeLine_eq]; simp; lia) (by rw [sizeLine_eq]; simp; lia))
theorem tLenA {Q : Value → Shared → Prop} (D : St z h₀ L m news s) (B : Gd w h₀) (hx : (x, isAcc dx vs) ∈ news) (h : ∀ t s', St z h₀ L m news s' → Q (.int vs.length t) s') : wpAny (model prog w) A (Builtin.«list.__len__» ⟨[.ref x], []⟩) (fun fin s' => ∃ v, fin = .done (.ret v) ∧ Q v s') E s := by
  obtain ⟨o, ho, n, rfl⟩ := D.get hx
  show wpAny _ _ (seqSize x >>= _) _ _ _
  refine wpAny_bind ?_
  unfold seqSize
  refine wpAny_bind (wpAny_loadPart ho (wpAny_pure ?_))
  refine wpAny_bind (wpAny_mkInt (wpAny_pure ⟨_, rfl, ?_⟩))
  have := h s.toks _ (D.tok (s.toks + 1))
  simpa using this
theorem tPopA {v : Value} {ws : List Value} {Q : Value → Shared → Prop} (D : St z h₀ L m news s) (B : Gd w h₀) (U : Rep x (isAcc dx (ws ++ [v])) (isAcc dx ws) news news') (hz : ws.length ≤ 1000) (h : ∀ s', St z h₀ L m news' s' → Q v s') : wpAny (model prog w) A (Builtin.«list.pop» ⟨[.ref x], []⟩) (fun fin s' => ∃ v, fin = .done (.ret v) ∧ Q v s') E s := by
  obtain ⟨o, ho, n, rfl⟩ := D.get U.mem
  show wpAny _ _ (List.listItems (.ref x) >>= _) _ _ _
  refine wpAny_bind ?_
  unfold List.listItems
  refine wpAny_bind (wpAny_seqItems ho rfl (wpAny_pure ?_))
  rw [if_neg (by simp)]
  have e1 : seqIndex? (-1) (ws ++ [v]).toArray.size = some ws.length := by unfold seqIndex?; simp; lia
  have e2 : (seqIndex? (-1) (ws ++ [v]).toArray.size).bind (fun k => (ws ++ [v]).toArray[k]?.map (k, ·)) = some (ws.length, v) := by rw [e1]; simp
  rw [e2]
  refine wpAny_bind ?_
  unfold List.listUpdate
  have hf : (ws ++ [v]).toArray.eraseIdxIfInBounds ws.length = ws.toArray := by
    rw [Array.eraseIdxIfInBounds, dif_pos (by simp)]
    apply Array.ext'
    simp only [Array.toList_eraseIdx]
    exact erase_last ws v
  exact wpAny_updateSeq ho rfl (wpAny_pure ⟨_, rfl, h _ (D.turnSeq U hf)⟩) (by rw [sizeLine_eq]; simp; lia) (by rw [hf, sizeLine_eq]; simp; lia)
theorem tIniA {Q : Value → Shared → Prop} (D : St z h₀ L m news s) (B : Gd w h₀) (U : Rep x (isAcc dx vs) (isAcc dx []) news news') (hz : vs.length ≤ 1000) (h : ∀ s', St z h₀ L m news' s' → Q .none s') : wpAny (model prog w) A (Builtin.«list.__init__» ⟨[.ref x], []⟩) (fun fin s' => ∃ v, fin = .done (.ret v) ∧ Q v s') E s := by
  obtain ⟨o, ho, n, rfl⟩ := D.get U.mem
  show wpAny _ _ (List.listItems (.ref x) >>= _) _ _ _
  refine wpAny_bind ?_
  unfold List.listItems
  refine wpAny_bind (wpAny_seqItems ho rfl (wpAny_pure ?_))
  refine wpAny_bind ?_
  unfold List.listUpdate
  refine wpAny_updateSeq ho rfl ?_ (by rw [sizeLine_eq]; simp; lia) (by rw [sizeLine_eq]; simp)
  exact wpAny_bind (wpAny_letGo (wpAny_pure ⟨_, rfl, h _ (D.turnSeq U rfl)⟩))
/- items and slices -/
theorem noSeq220 (P : Params) : noSeq (Kx P) 220 = true := by kernel_rfl
theorem gi220 (P : Params) : findIn (Kx P) (.ref 220) "__getitem__" = some (some (.builtin "list.__getitem__")) := by kernel_rfl
theorem si220 (P : Params) : findIn (Kx P) (.ref 220) "__setitem__" = some (some (.builtin "list.__setitem__")) := by kernel_rfl
theorem it220 (P : Params) : findIn (Kx P) (.ref 220) "__iter__" = some (some (.builtin "list.__iter__")) := by kernel_rfl
theorem bind_getitem (self : Value) : bindSpecial (.builtin "list.__getitem__") self = pure (.builtin "list.__getitem__", [self]) := slot_list_getitem.bind self
theorem bind_setitem (self : Value) : bindSpecial (.builtin "list.__setitem__") self = pure (.builtin "list.__setitem__", [self]) := PySem.slot_list_setitem.bind self
theorem bind_iter (self : Value) : bindSpecial (.builtin "list.__iter__") self = pure (.builtin "list.__iter__", [self]) := slot_list_iter.bind self
theorem seqKeyA {k : Value} {nm : Str} {Q : Value → Shared → Prop} (D : St z h₀ L m news s) (B : Gd w h₀) (hx : (x, isAcc dx vs) ∈ news) (h : Q k s) : wpAny (model prog w) A (sequenceKey (.ref x) k nm) Q E s := by
  unfold sequenceKey
  refine wpAny_bind ((D.accT hx).here ?_)
  dsimp only
  refine wpAny_bind ((anyM_none (D.X B) (noSeq220 w.params)).here ?_)
  rw [if_pos (by rfl)]
  exact wpAny_pure h
theorem specA {nm : Str} {id : String} {rest : List Value} {Q : Option Value → Shared → Prop} (D : St z h₀ L m news s) (B : Gd w h₀) (hx : (x, isAcc dx vs) ∈ news) (hf : findIn (Kx w.params) (.ref 220) nm = some (some (.builtin id))) (hb : bindSpecial (.builtin id) (.ref x) = pure (.builtin id, [.ref x]))
    (h : wpAny (model prog w) A (call (.builtin id) (.ref x :: rest)) (fun v s' => Q (some v) s') E s) : wpAny (model prog w) A (callSpecial? (.ref x) nm rest) Q E s := by
  unfold callSpecial? specialOf
  refine wpAny_bind (wpAny_bind ((D.accT hx).here ((looks_findIn (D.X B) hf).here ?_)))
  refine wpAny_holding ?_
  rw [hb]
  exact wpAny_bind (wpAny_pure (wpAny_bind (wpAny_mono h (fun v s' q => wpAny_pure q) fun _ _ e => e)))
theorem rTailA {value slice : Expr} {i : Value} {ops : List Value} {Q : Value → Shared → Prop} (D : St z h₀ L m news s) (B : Gd w h₀) (hx : (x, isAcc dx vs) ∈ news) (hg : wpAny (model prog w) A (getItem (.ref x) i) Q E s)
    (hs : subscripted slice false (.ref x) i = operate ops (getItem (.ref x) i)) : wpAny (model prog w) A (subscriptTail value slice (.ref x) i) Q E s := by
  unfold subscriptTail getitemInPython
  refine wpAny_bind (wpAny_bind ?_)
  unfold specialOf
  refine wpAny_bind ((D.accT hx).here ((looks_findIn (D.X B) (gi220 w.params)).here (wpAny_pure ?_)))
  rw [hs]
  refine wpAny_bind (wpAny_operating (wpAny_mono hg (fun r s₃ h₃ => ?_) fun _ _ x => x))
  exact wpAny_bind (wpAny_letTemporaryGo (wpAny_pure h₃))
theorem rItemA {value slice : Expr} {k : Int} {u : Tok} {v : Value} {Q : Value → Shared → Prop} (D : St z h₀ L m news s) (B : Gd w h₀) (hx : (x, isAcc dx vs) ∈ news) (h0 : 0 ≤ k) (hfit : k < 2 ^ 63) (hv : vs[k.toNat]? = some v) (h : Q v s)
    (hs : subscripted slice false (.ref x) (.int k u) = operate [.ref x, .int k u] (getItem (.ref x) (.int k u))) : wpAny (model prog w) A (subscriptTail value slice (.ref x) (.int k u)) Q E s := by
  refine rTailA D B hx ?_ hs
  obtain ⟨o, ho, n, rfl⟩ := id (D.get hx)
  unfold getItem
  refine wpAny_holding (wpAny_bind (seqKeyA D B hx (wpAny_bind (specA D B hx (gi220 w.params) (bind_getitem _) ?_))))
  refine lstCall (n := "__getitem__") D B hx (.inr (by decide +kernel)) (by decide +kernel) (by decide +kernel) entry_list_getitem (args_list_getitem _ _) ?_
  show wpAny _ _ (List.listSubscript? (.int k u) >>= _) _ _ s
  refine wpAny_bind (wpAny_listSubscript_int (by unfold List.listFitsIndex; simp; lia) ?_)
  obtain ⟨j, rfl⟩ := Int.eq_ofNat_of_zero_le h0
  show wpAny _ _ ((seqItemAt x j >>= _) >>= _) _ _ s
  refine wpAny_bind (wpAny_bind (wpAny_seqItemAt ho rfl ?_))
  have hv' : vs.toArray[j]? = some v := by simpa using hv
  rw [hv']
  exact wpAny_pure (wpAny_pure ⟨_, rfl, wpAny_pure h⟩)
theorem rSlcA {value slice : Expr} {sl : Addr} {vl vu vk : Value} {lo hi st : Option Int} {Q : Value → Shared → Prop} (D : St z h₀ L m news s) (B : Gd w h₀) (hx : (x, isAcc dx vs) ∈ news) (hm : (sl, isSlc vl vu vk) ∈ news) (pl : IsPart vl lo) (pu : IsPart vu hi) (pk : IsPart vk st) (h0 : st ≠ some 0) (hsz : vs.length ≤ sizeLine)
    (h : ∀ a s', St z h₀ L m ((a, isLst (slicePick vs.toArray lo hi st).toList) :: news) s' → Q (.ref a) s')
    (hs : subscripted slice false (.ref x) (.ref sl) = operate [.ref sl, .ref x] (getItem (.ref x) (.ref sl))) : wpAny (model prog w) A (subscriptTail value slice (.ref x) (.ref sl)) Q E s := by
  refine rTailA D B hx ?_ hs
  obtain ⟨o, ho, n, rfl⟩ := id (D.get hx)
  refine Mine.e1_2 (D.get hm) ?_
  intro os hos zq1
  subst zq1
  have hTs : s.TypeIs (.ref sl) "slice" := ⟨_, hos, rfl⟩
  unfold getItem
  refine wpAny_holding (wpAny_bind (seqKeyA D B hx (wpAny_bind (specA D B hx (gi220 w.params) (bind_getitem _) ?_))))
  refine lstCall (n := "__getitem__") D B hx (.inr (by decide +kernel)) (by decide +kernel) (by decide +kernel) entry_list_getitem (args_list_getitem _ _) ?_
  show wpAny _ _ (List.listSubscript? (.ref sl) >>= _) _ _ s
  refine wpAny_bind ?_
  unfold List.listSubscript?
  refine wpAny_bind (wpAny_specialOf hTs slice_no_index ?_)
  rw [if_pos (show ((none : Option Value).isNone = true) from rfl)]
  refine wpAny_pure ?_
  show wpAny _ _ (typeOf (.ref sl) >>= _) _ _ s
  refine wpAny_bind (wpAny_typeOf hTs ?_)
  rw [if_neg (by decide)]
  rw [listSliceParts_eq]
  have hstep : ¬ ((rawPart st == rawInt 0) = true) := by
    cases st with
    | none => exact Bool.false_ne_true
    | some c =>
      intro hh
      have : c = 0 := by simpa [rawPart, rawInt] using hh
      exact h0 (by rw [this])
  refine wpAny_bind (wpAny_bind (wpAny_field hos rfl (x := vk) rfl (wpAny_bind (wpAny_listPart pk ?_))))
  rw [if_neg hstep]
  refine wpAny_bind (wpAny_field hos rfl (x := vl) rfl (wpAny_bind (wpAny_listPart pl ?_)))
  refine wpAny_bind (wpAny_field hos rfl (x := vu) rfl (wpAny_bind (wpAny_listPart pu (wpAny_pure ?_))))
  refine wpAny_bind (m := List.listItems (.ref x)) ?_
  unfold List.listItems
  refine wpAny_bind (wpAny_seqItems ho rfl (wpAny_pure ?_))
  refine wpAny_bind (wpAny_of_eq (sliceIndices_raw lo hi st vs.toArray.size h0) ?_)
  exact wpAny_bind (wpAny_newObj_type (wpAny_pure ⟨_, rfl, wpAny_pure (h _ _ (D.on (s := s) s.toks (D.led.push rfl ⟨0, by rw [Array.toArray_toList]; rfl⟩)))⟩) (Nat.le_trans (slicePick_size_le vs.toArray lo hi st) (by simpa using hsz)))
theorem ex_sz (xs ys : Array Value) (a b c : Nat) (h1 : xs.size ≤ 1000) (h2 : ys.size ≤ 1000) : (xs.extract 0 a ++ ys ++ xs.extract b c).size ≤ sizeLine := by
  have h3 : ∀ i j, (xs.extract i j).size ≤ 1000 := fun i j => by rw [Array.size_extract]; exact Nat.le_trans (Nat.le_trans (Nat.sub_le _ _) (Nat.min_le_right _ _)) h1
  rw [sizeLine_eq, Array.size_append, Array.size_append]
  exact Nat.le_trans (Nat.add_le_add (Nat.add_le_add (h3 _ _) h2) (h3 _ _)) (by decide)
/- the tree of a slice store, whatever the class -/
theorem setSliceTree {l b sl : Addr} {o : Obj} {xs ys : Array Value} {n : Nat} {vl vu : Value} {lo hi : Option Int} {Q : Fin → Shared → Prop} (ho : s.heap.get? l = some o) (hd : o.data = .seq xs n) (hb : s.heap.PlainList b ys) (hlb : l ≠ b)
    (hos : s.heap.get? sl = some { cls := .type "slice", data := .fields #[vl, vu, .none] }) (pl : IsPart vl lo) (pu : IsPart vu hi) (hz : xs.size ≤ 1000) (hz2 : ys.size ≤ 1000)
    (h : Q (.done (.ret .none)) { s with heap := s.heap.update l (Obj.mapSeq fun xs => xs.extract 0 (sliceBounds lo hi none n₀).1.toNat ++ ys ++ xs.extract (max (sliceBounds lo hi none n₀).1 (sliceBounds lo hi none n₀).2.1).toNat xs.size) }) (hn : n₀ = xs.size) :
    wpAny (model prog w) A (Builtin.«list.__setitem__» ⟨[.ref l, .ref sl, .ref b], []⟩) Q E s := by
  have hTs : s.TypeIs (.ref sl) "slice" := ⟨_, hos, rfl⟩
  show wpAny _ _ (List.listSubscript? (.ref sl) >>= _) _ _ s
  refine wpAny_bind ?_
  unfold List.listSubscript?
  refine wpAny_bind (wpAny_specialOf hTs slice_no_index ?_)
  rw [if_pos (show ((none : Option Value).isNone = true) from rfl)]
  refine wpAny_pure ?_
  show wpAny _ _ (typeOf (.ref sl) >>= _) _ _ s
  refine wpAny_bind (wpAny_typeOf hTs ?_)
  rw [if_neg (by decide)]
  rw [listSliceParts_eq]
  refine wpAny_bind (wpAny_bind (wpAny_field hos rfl (x := .none) rfl (wpAny_bind (wpAny_listPart .none ?_))))
  rw [if_neg (show ¬ ((rawPart none == rawInt 0) = true) from Bool.false_ne_true)]
  refine wpAny_bind (wpAny_field hos rfl (x := vl) rfl (wpAny_bind (wpAny_listPart pl ?_)))
  refine wpAny_bind (wpAny_field hos rfl (x := vu) rfl (wpAny_bind (wpAny_listPart pu (wpAny_pure ?_))))
  subst hn
  have hne : List.listSameRef (.ref l) (.ref b) = false := by
    show (l == b) = false
    simpa using hlb
  rw [hne]
  obtain ⟨n2, hb1⟩ := hb
  have hTb : s.TypeIs (.ref b) "list" := ⟨_, hb1, rfl⟩
  refine wpAny_bind (m := List.listAllItems (.ref b) _) ?_
  unfold List.listAllItems
  refine wpAny_bind (wpAny_typeOf hTb ?_)
  rw [if_pos (by decide)]
  unfold List.listItems
  refine wpAny_bind (wpAny_seqItems hb1 rfl (wpAny_pure ?_))
  refine wpAny_bind (wpAny_bind (wpAny_seqItems ho hd (wpAny_pure ?_)))
  refine wpAny_bind (wpAny_of_eq (sliceIndices_raw lo hi none xs.size (by simp)) ?_)
  show wpAny _ _ (if ((1 : Int) == 1) = true then _ else _) _ _ _
  rw [if_pos (by decide)]
  refine wpAny_bind (wpAny_rule ?_)
  rw [if_neg (by unfold List.listTooLong; rw [sizeLine_eq]; simp; lia)]
  refine wpAny_bind ?_
  unfold List.listUpdate
  refine wpAny_updateSeq ho hd ?_ (by rw [sizeLine_eq]; lia) ?_
  · exact wpAny_bind (wpAny_letGo (wpAny_pure h))
  · exact Nat.le_succ_of_le (ex_sz _ _ _ _ _ hz hz2)
theorem rSetSlcA {sl b : Addr} {vl vu : Value} {lo hi : Option Int} {ys ws : List Value} {Q : Unit → Shared → Prop} (D : St z h₀ L m news s) (B : Gd w h₀) (U : Rep x (isAcc dx vs) (isAcc dx ws) news news') (hm : (sl, isSlc vl vu .none) ∈ news) (hb : (b, isLst ys) ∈ news) (pl : IsPart vl lo) (pu : IsPart vu hi) (hz : vs.length ≤ 1000) (hz2 : ys.length ≤ 1000) (hxb : x ≠ b)
    (he : vs.toArray.extract 0 (sliceBounds lo hi none vs.length).1.toNat ++ ys.toArray ++ vs.toArray.extract (max (sliceBounds lo hi none vs.length).1 (sliceBounds lo hi none vs.length).2.1).toNat vs.toArray.size = ws.toArray) (h : ∀ s', St z h₀ L m news' s' → Q () s') :
    wpAny (model prog w) A (setItem (.ref x) (.ref sl) (.ref b)) Q E s := by
  obtain ⟨o, ho, n, rfl⟩ := id (D.get U.mem)
  refine Mine.e1_2 (D.get hm) ?_
  intro os hos zq2
  subst zq2
  unfold setItem
  refine wpAny_holding (wpAny_bind (seqKeyA D B U.mem (wpAny_bind (specA D B U.mem (si220 w.params) (bind_setitem _) ?_))))
  refine lstCall (n := "__setitem__") D B U.mem (.inl (by decide +kernel)) (by decide +kernel) (by decide +kernel) entry_list_setitem (PySem.args_list_setitem _ _ _) ?_
  exact setSliceTree (n₀ := vs.length) ho rfl (D.lst hb) hxb hos pl pu (by simpa using hz) (by simpa using hz2) ⟨.none, rfl, wpAny_pure (h _ (D.turnSeq U he))⟩ (by simp)
theorem rSetSlcL {l sl b : Addr} {vl vu : Value} {lo hi : Option Int} {xs ys ws : List Value} {Q : Unit → Shared → Prop} (D : St z h₀ L m news s) (U : Rep l (isLst xs) (isLst ws) news news') (hm : (sl, isSlc vl vu .none) ∈ news) (hb : (b, isLst ys) ∈ news) (pl : IsPart vl lo) (pu : IsPart vu hi) (hz : xs.length ≤ 1000) (hz2 : ys.length ≤ 1000) (hxb : l ≠ b)
    (he : xs.toArray.extract 0 (sliceBounds lo hi none xs.length).1.toNat ++ ys.toArray ++ xs.toArray.extract (max (sliceBounds lo hi none xs.length).1 (sliceBounds lo hi none xs.length).2.1).toNat xs.toArray.size = ws.toArray) (h : ∀ s', St z h₀ L m news' s' → Q () s') :
    wpAny (model prog w) A (setItem (.ref l) (.ref sl) (.ref b)) Q E s := by
  obtain ⟨n, ho⟩ := D.lst U.mem
  refine Mine.e1_2 (D.get hm) ?_
  intro os hos zq3
  subst zq3
  have hl : s.heap.IsList l xs.toArray := (D.lst U.mem).isList
  unfold setItem
  refine wpAny_holding (wpAny_bind (wpAny_sequenceKey hl.typeIs (by decide) ?_))
  refine wpAny_bind (wpAny_callSpecial?_slot (name := Str.ofString "__setitem__") hl.typeIs PySem.slot_list_setitem (wpAny_call_entry PySem.slot_list_setitem hl.typeIs PySem.entry_list_setitem ?_ (PySem.args_list_setitem _ _ _)))
  refine setSliceTree (n₀ := xs.length) ho rfl (D.lst hb) hxb hos pl pu (by simpa using hz) (by simpa using hz2) ⟨.none, rfl, wpAny_pure (h _ ?_)⟩ (by simp)
  refine D.turn s.toks U (fun b o hb e => ((Heap.SameBut.update .. : Heap.SameBut l s.heap _).2 b hb).trans e) ⟨_, Heap.get?_update_self _ ho rfl, ?_⟩ D.tk
  refine ⟨if (ws.toArray.size == xs.toArray.size) = true then n else n + 1, ?_⟩
  simp only [Obj.mapSeq, he]
/- an iterator over it -/
theorem rIterA {Q : Value → Shared → Prop} (D : St z h₀ L m news s) (B : Gd w h₀) (hx : (x, isAcc dx vs) ∈ news) (h : ∀ s', s' = { s with heap := s.heap.push { cls := .type "list_iterator", data := .fields #[.ref x, .int 0 0] } } → Q (.ref s.heap.objs.size) s') :
    wpAny (model prog w) A (pyIter (.ref x)) Q E s := by
  unfold pyIter
  refine wpAny_bind ?_
  unfold specialOf
  refine wpAny_bind ((D.accT hx).here ((looks_findIn (D.X B) (it220 w.params)).here ?_))
  dsimp only
  refine wpAny_bind ?_
  simp only [callSpecialIfBoundUnlessNone?, bindSpecialIfBound?]
  refine wpAny_holding (wpAny_bind (wpAny_bind ?_))
  unfold specialOf
  refine wpAny_bind ((D.accT hx).here ((looks_findIn (D.X B) (it220 w.params)).here ?_))
  simp only [bind_iter]
  have fin : wpAny (model prog w) A (call (.builtin "list.__iter__") [.ref x] >>= fun v => pure (some v)) (fun r s' => wpAny (model prog w) A (match r with
      | some it => (do match ← (do typeLookup (← typeOf it) "__next__") with
        | none => rule "iter.non-iterator"; raiseError "TypeError" s!"iter() returned non-iterator of type '{← typeNameOf it}'"
        | some _ => pure it)
      | none => (do match ← bindSpecialIfBound? (.ref x) "__getitem__" with
        | none => rule "iter.not-iterable"; raiseError "TypeError" s!"'{← typeNameOf (.ref x)}' object is not iterable"
        | some _ => rule "iter.getitem-fallback"; newFields "iterator" [.ref x, ← mkInt 0])) Q E s') E s := by
    refine wpAny_bind (lstCall (n := "__iter__") D B hx (.inl (by decide +kernel)) (by decide +kernel) (by decide +kernel) entry_list_iter (args_list_iter _) ?_)
    show wpAny _ _ (do ret (← newFields "list_iterator" [.ref x, rawInt 0])) _ _ s
    refine wpAny_bind (wpAny_newObj_type (wpAny_pure ⟨_, rfl, wpAny_pure ?_⟩))
    refine wpAny_bind (wpAny_bind (wpAny_typeOf (T := "list_iterator") ⟨_, Heap.get?_push_size _ rfl, rfl⟩ (wpAny_of_eq slot_listiter_next.lookup ?_)))
    exact wpAny_pure (h _ rfl)
  refine wpAny_bind (wpAny_askSetting (wpAny_ite ?_))
  split
  · exact wpAny_bind (wpAny_pure (wpAny_pure fin))
  · exact wpAny_tryCatch (wpAny_bind (wpAny_pure (wpAny_pure fin)))
end
end Mine
end

section
open PySem PySem.W PySem.W.X PyProof.Rows PySem.Calls
open Builtin
set_option maxRecDepth 100000
set_option maxHeartbeats 1000000
namespace Mine
/- a list iterator over whatever holds a row of items -/
noncomputable def IsSeq (h : Heap) (a : Addr) (items : Array Value) : Prop := ∃ o, h.get? a = some o ∧ ∃ n, o.data = .seq items n
theorem IsSeq.at {h h' : Heap} {a : Addr} {items : Array Value} (x : IsSeq h a items) (e : ∀ o, h.get? a = some o → h'.get? a = some o) : IsSeq h' a items := let ⟨o, ho, r⟩ := x; ⟨o, e _ ho, r⟩
section
variable {prog : Program} {w : World} {A : Around} {E : Value → Shared → Prop} {s : Shared}
theorem seqNext_item {it l : Addr} {i : Nat} {items : Array Value} {x : Value} {Q : Option Value → Shared → Prop} (hit : s.heap.IsListIter it l i) (hl : IsSeq s.heap l items) (hx : items[i]? = some x)
    (hQ : ∀ h', h'.IsListIter it l (i + 1) → Heap.SameBut it s.heap h' → Q (some x) { s with heap := h' }) : wpAny (model prog w) A (pyNext (.ref it)) Q E s := by
  refine Mine.e1_3 (id hit) ?_
  intro o ho hc hd
  obtain ⟨ol, hol, nl, hdl⟩ := hl
  unfold pyNext
  refine wpAny_bind (wpAny_attempt (wpAny_callSpecial?_slot (name := Str.ofString "__next__") hit.typeIs slot_listiter_next (wpAny_call_entry slot_listiter_next hit.typeIs entry_listiter_next ?_ (args_listiter_next _))))
  show wpAny _ _ (field (.ref it) 0 >>= _) _ _ s
  refine wpAny_bind (wpAny_field ho hd (x := .ref l) rfl ?_)
  show wpAny _ _ (if (Value.ref l == Value.none) = true then _ else _) _ _ s
  rw [if_neg (show ¬ ((Value.ref l == Value.none) = true) from Bool.false_ne_true)]
  show wpAny _ _ (field (.ref it) 1 >>= _) _ _ s
  refine wpAny_bind (wpAny_field ho hd (x := .int i 0) rfl ?_)
  show wpAny _ _ (seqItems? (.ref l) >>= _) _ _ s
  refine wpAny_bind (wpAny_seqItems hol hdl ?_)
  rw [Int.toNat_natCast]
  dsimp only
  rw [hx]
  refine wpAny_bind (wpAny_setField ho hd (by simp) (wpAny_pure ⟨x, rfl, wpAny_pure (hQ _ ?_ (Heap.SameBut.update ..))⟩))
  exact Mine.i1_3 _ (Heap.get?_update_self _ ho (Obj.isFreed_of_fields (Obj.data_mapFields hd _))) ((Obj.cls_mapFields ..).trans hc) (by rw [Obj.data_mapFields hd]; simp [rawInt])
theorem seqNext_end {it l : Addr} {i : Nat} {items : Array Value} {Q : Option Value → Shared → Prop} (hh : A.handled = none) (hit : s.heap.IsListIter it l i) (hl : IsSeq s.heap l items) (hx : items[i]? = none)
    (hQ : ∀ h', Heap.ExtBut it s.heap h' → Q none { s with heap := h' }) : wpAny (model prog w) A (pyNext (.ref it)) Q E s := by
  refine Mine.e1_3 (id hit) ?_
  intro o ho hc hd
  obtain ⟨ol, hol, nl, hdl⟩ := hl
  unfold pyNext
  refine wpAny_bind (wpAny_attempt (wpAny_callSpecial?_slot (name := Str.ofString "__next__") hit.typeIs slot_listiter_next (wpAny_call_entry slot_listiter_next hit.typeIs entry_listiter_next ?_ (args_listiter_next _))))
  show wpAny _ _ (field (.ref it) 0 >>= _) _ _ s
  refine wpAny_bind (wpAny_field ho hd (x := .ref l) rfl ?_)
  show wpAny _ _ (if (Value.ref l == Value.none) = true then _ else _) _ _ s
  rw [if_neg (show ¬ ((Value.ref l == Value.none) = true) from Bool.false_ne_true)]
  show wpAny _ _ (field (.ref it) 1 >>= _) _ _ s
  refine wpAny_bind (wpAny_field ho hd (x := .int i 0) rfl ?_)
  show wpAny _ _ (seqItems? (.ref l) >>= _) _ _ s
  refine wpAny_bind (wpAny_seqItems hol hdl ?_)
  rw [Int.toNat_natCast]
  dsimp only
  rw [hx]
  refine wpAny_bind (wpAny_rule (wpAny_bind (wpAny_setField ho hd (by simp) ?_)))
  show wpAny _ _ (newExc (.type "StopIteration") [] >>= _) _ _ _
  refine wpAny_bind ?_
  unfold newExc newTuple
  refine wpAny_bind (wpAny_newObj_type ?_ (by size_fits))
  refine wpAny_bind (m := firstArgMember _ _) (wpAny_of_eq (a := Value.none) (by first | rfl | (simp only [firstArgMember]; rfl)) ?_)
  refine wpAny_newObj_type ?_ (by size_fits)
  unfold raiseNew
  refine wpAny_bind (wpAny_handled ?_)
  rw [show A.in1.handled = none from hh]
  refine wpAny_bind (wpAny_pure (wpAny_throw ?_))
  refine wpAny_bind (wpAny_isInstance (T := "StopIteration") (b := true) ⟨_, Heap.get?_push_size _ rfl, rfl⟩ isSubtype_stop ?_)
  exact wpAny_pure (hQ _ (((Heap.SameBut.update ..).extBut.push _).push _))
end
theorem Walks.seqPairs {prog : Program} {w : World} {A : Around} (hh : A.handled = none) (I ax : Addr) (hne : ax ≠ I) (items : Array Value) (Ts : Nat → Addr) (vals : Nat → Array Value)
    (hit : ∀ j, j < items.size → items[j]? = some (.ref (Ts j))) (hTI : ∀ j, j < items.size → Ts j ≠ I) :
    WalksU prog w A I (I :: ax :: (List.range items.size).map Ts) [I] items.size (fun j v => j < items.size ∧ v = vals j)
      (fun j h => h.IsListIter I ax j ∧ IsSeq h ax items ∧ ∀ k, k < items.size → h.IsTuple (Ts k) (vals k))
      (fun j T h => (j < items.size ∧ T = Ts j) ∧ h.IsListIter I ax (j + 1) ∧ IsSeq h ax items ∧ ∀ k, k < items.size → h.IsTuple (Ts k) (vals k)) where
  sub := fun b hb => by simp at hb; simp [hb]
  frame := fun _ _ _ st hk => ⟨st.1.at fun o e => hk I (by simp) o e, st.2.1.at fun o e => hk ax (by simp) o e,
    fun k hk' => (st.2.2 k hk').at fun o e => hk (Ts k) (List.mem_cons_of_mem _ (List.mem_cons_of_mem _ (List.mem_map.mpr ⟨k, List.mem_range.mpr hk', rfl⟩))) o e⟩
  item := fun i s Q E hi st hQ => by
    refine seqNext_item st.1 st.2.1 (x := .ref (Ts i)) (hit i hi) fun h' hit' hs' => ?_
    have tup : ∀ k, k < items.size → h'.IsTuple (Ts k) (vals k) := fun k hk' => (st.2.2 k hk').extBut hs'.extBut (hTI k hk')
    exact hQ (Ts i) (vals i) h' s.toks ⟨hi, rfl⟩ (tup i hi) ⟨⟨hi, rfl⟩, hit', st.2.1.at fun o e => hs'.extBut _ _ hne e, tup⟩ fun b o hb e => hs'.extBut b o (fun h => hb (by simp [h])) e
  go := fun _ _ _ _ _ s Q _ hm hQ => wpAny_letOwnedTupleGo_listiter hm.2.1 (hQ s.heap hm.2 fun _ _ _ e => e)
  apart := fun j T _ hm hmem => by
    rcases List.mem_cons.mp hmem with e | e
    · exact hTI j hm.1.1 (hm.1.2 ▸ e)
    · cases e
  done := fun s Q E st hQ => seqNext_end hh st.1 st.2.1 (by simp) fun h' he' => hQ h' s.toks fun b o hb e => he' b o (fun h => hb (by simp [h])) e
  self := fun _ _ _ _ st hQ => wpAny_pyIter_listiter st.1 hQ
/- the pairs of a made object -/
noncomputable def isPr (p : Str × Str) : Obj → Prop := fun o => ∃ n t u, o = { cls := .type "tuple", data := .seq #[.str p.1 t, .str p.2 u] n }
inductive Prs (l : List Ent) : List Value → List (Str × Str) → Prop
  | nil : Prs l [] []
  | cons (a : Addr) (p : Str × Str) {vs : List Value} {ps : List (Str × Str)} (h : (a, isPr p) ∈ l) : Prs l vs ps → Prs l (.ref a :: vs) (p :: ps)
theorem Prs.length {l : List Ent} : ∀ {vs : List Value} {ps : List (Str × Str)}, Prs l vs ps → vs.length = ps.length := fun h => by
  induction h with
  | nil => rfl
  | cons _ _ _ _ ih => rw [List.length_cons, List.length_cons, ih]
theorem Prs.mono {l l' : List Ent} (hl : ∀ a p, (a, isPr p) ∈ l → (a, isPr p) ∈ l') : ∀ {vs : List Value} {ps : List (Str × Str)}, Prs l vs ps → Prs l' vs ps := fun h => by
  induction h with
  | nil => exact .nil
  | cons _ _ h _ ih => exact .cons _ _ (hl _ _ h) ih
theorem Prs.append {l : List Ent} : ∀ {vs ws : List Value} {ps qs : List (Str × Str)}, Prs l vs ps → Prs l ws qs → Prs l (vs ++ ws) (ps ++ qs) := fun h h2 => by
  induction h with
  | nil => exact h2
  | cons _ _ h _ ih => exact .cons _ _ h ih
theorem Prs.take {l : List Ent} : ∀ {vs : List Value} {ps : List (Str × Str)} (n : Nat), Prs l vs ps → Prs l (vs.take n) (ps.take n) := fun n h => by
  induction h generalizing n with
  | nil => rw [List.take_nil, List.take_nil]; exact .nil
  | cons _ _ h _ ih =>
    cases n with
    | zero => exact .nil
    | succ n => exact .cons _ _ h (ih n)
theorem Prs.drop {l : List Ent} : ∀ {vs : List Value} {ps : List (Str × Str)} (n : Nat), Prs l vs ps → Prs l (vs.drop n) (ps.drop n) := fun n h => by
  induction h generalizing n with
  | nil => rw [List.drop_nil, List.drop_nil]; exact .nil
  | cons a p h r ih =>
    cases n with
    | zero => exact .cons a p h r
    | succ n => exact ih n
theorem Prs.get {l : List Ent} : ∀ {vs : List Value} {ps : List (Str × Str)} (i : Nat) (p : Str × Str), Prs l vs ps → ps[i]? = some p → ∃ a, vs[i]? = some (.ref a) ∧ (a, isPr p) ∈ l := fun i p h => by
  induction h generalizing i with
  | nil => intro hp; cases hp
  | cons a q h r ih =>
    intro hp
    cases i with
    | zero => cases hp; exact ⟨a, rfl, h⟩
    | succ i => exact ih i hp
theorem Prs.snoc {l : List Ent} {vs : List Value} {ps : List (Str × Str)} {a : Addr} {p : Str × Str} (h : Prs l vs ps) (ha : (a, isPr p) ∈ l) : Prs l (vs ++ [.ref a]) (ps ++ [p]) := h.append (.cons _ _ ha .nil)
theorem Prs.unsnoc {l : List Ent} {vs : List Value} {ps : List (Str × Str)} {p : Str × Str} (h : Prs l vs (ps ++ [p])) : ∃ ws a, vs = ws ++ [.ref a] ∧ Prs l ws ps ∧ (a, isPr p) ∈ l := by
  have hl := h.length
  have zh1 := h.get ps.length p (by simp)
  refine Mine.e1_2 zh1 ?_
  try clear zh1
  intro a ha hm
  have h1 := h.take ps.length
  rw [List.take_left' rfl] at h1
  refine Mine.i2_3 _ a ?_ h1 hm
  have hlen : vs.length = ps.length + 1 := by simpa using hl
  obtain ⟨hlt, e⟩ := List.getElem?_eq_some_iff.mp ha
  rw [← e]
  have := List.take_append_drop ps.length vs
  rw [List.drop_eq_getElem_cons hlt, List.drop_of_length_le (by lia)] at this
  exact this.symm
theorem tpl_pr {fws part : Str} {t u : Tok} {o : Obj} (h : isTpl [.str fws t, .str part u] o) : isPr (fws, part) o := let ⟨n, e⟩ := h; ⟨n, t, u, e⟩
end Mine
end

section
open PySem PySem.W PySem.W.X PyProof.Rows PySem.Calls
open Builtin
set_option maxRecDepth 100000
set_option maxHeartbeats 1000000
namespace Mine
/- objects made -/
noncomputable abbrev tcCode (C : Addr) (rest : List Value) : Code := .builtin "type.__call__" ⟨.ref C :: rest, []⟩
theorem tc_weight (C : Addr) (rest : List Value) : (tcCode C rest).weight = 1 := by kernel_rfl
theorem mk136 (P : Params) : makesIn (Kx P) 136 = true := by kernel_rfl
theorem in136 (P : Params) : findIn (Kx P) (.ref 136) "__init__" = some (some (.ref 77)) := by kernel_rfl
theorem in220 (P : Params) : findIn (Kx P) (.ref 220) "__init__" = some (some (.ref 157)) := by kernel_rfl
theorem fn77 (P : Params) : typeIn (Kx P) (.ref 77) = some (.type "function") := by kernel_rfl
theorem fn157 (P : Params) : typeIn (Kx P) (.ref 157) = some (.type "function") := by kernel_rfl
/- what an __init__ must show -/
noncomputable def IniQ (x : Addr) (Q : Value → Shared → Prop) (E : Value → Shared → Prop) : Result → Shared → Prop := fun r s' => match r with
  | .ok (.ret v) => v = .none ∧ Q (.ref x) s'
  | .ok _ => False
  | .error e => E e s'
section
variable {w : World} {z : Shared} {prog : Program} {A : Around} {E : Value → Shared → Prop} {h₀ : Heap} {s : Shared} {L : Addr} {m : Str → Option Value} {news news' : List Ent} {x dx : Addr} {vs : List Value} {kvs : List (Str × Value)}
theorem rMakeV {rest : List Value} {Q : Value → Shared → Prop} (D : St z h₀ L m news s) (B : Gd w h₀)
    (h : ∀ (A' : Around) x dx s', A'.depth = A.depth + 1 → A'.handled = A.handled → St z h₀ L m ((x, isVf dx) :: (dx, isDct w.params []) :: news) s' → codeAny (model prog w) A' (.call (.ref 77) ⟨.ref x :: rest, []⟩) (IniQ x Q E) s') :
    wpAny (model prog w) A (call (.ref 136) rest) Q E s := by
  have X := D.X B
  have D₁ := D.led.push (o := emptyDict) (P := isDct w.params []) rfl ⟨[], 0, rfl, .nil⟩
  have D₂ := D₁.push (o := instObj 136 s.heap.objs.size) (P := isVf s.heap.objs.size) rfl rfl
  have D₃ : St z h₀ L m _ { s with heap := (s.heap.push emptyDict).push (instObj 136 s.heap.objs.size) } := D.on (s := s) s.toks D₂ D.tk
  obtain ⟨hh, g, d, t, os⟩ := s
  refine wpAny_call (make_core (makes_of X (mk136 _)) (looks_findIn X (in136 _)) (fun self => bind_fn X self (fn77 _)) (.inl rfl) ?_)
  have key := h (A.under (tcCode 136 rest)) _ _ _ (by show A.depth + _ = _; rw [tc_weight]) rfl D₃
  rw [Heap.size_push] at key
  refine codeAny_mono key fun r s' q => ?_
  rcases r with e | (v | _ | _ | _) <;> first | exact q | exact q.elim
noncomputable abbrev accObj (dx : Addr) : Obj := { cls := .ref 220, dict := some dx, data := .seq #[] }
theorem split_lnew : splitId "list.__new__" = some ("list", "__new__") := by decide +kernel
theorem kind_lnew : builtinKind "list.__new__" = some .builtinFn := by decide +kernel
theorem quiet_lnew : ("list.__new__" : String).startsWith "lifetime." = false := by decide +kernel
theorem args_lnew (rest : List Value) : argsOk "list.__new__" ⟨.ref 220 :: rest, []⟩ := by unfold argsOk; kernel_rfl
structure MakesL (M : Model) (h : Heap) : Prop where
  obj : ∃ oc od cd sl, h.get? 220 = some ⟨oc, od, .cls cd, sl⟩ ∧ cd.abstract = false ∧ cd.hasDel = false ∧ cd.mro.isEmpty = false
  made : Looks M h (Bind.madeBy (.ref 220)) (some "list.__new__")
  base : Looks M h (Bind.staticBase (.ref 220)) (.ref 220)
  self : Looks M h (isSubtype (.ref 220) (.ref 220)) true
  top : Looks M h (isSubtype (.ref 220) (.type "list")) true
  call : Looks M h (specialOf (.ref 220) "__call__") (some (.builtin "type.__call__"))
  typ : Looks M h (isInstance (.ref 220) (.type "type")) true
noncomputable def lookL (K : Frag) : Bool := match K.lookup 220 with
  | some ⟨_, _, .cls cd, sl⟩ => !cd.abstract && !cd.hasDel && (sl.toList[4]?).join == some (.builtin "list.__new__") && !cd.mro.isEmpty && cd.mro.contains (.ref 220) && cd.mro.contains (.type "list") &&
      specialIn K (.ref 220) "__call__" == some (some (.builtin "type.__call__")) && instIn K (.ref 220) (.type "type") == some true
  | _ => false
theorem look220 (P : Params) : lookL (Kx P) = true := by kernel_rfl
theorem makesL {M : Model} {h : Heap} {K : Frag} (X : K.In h) (e : lookL K = true) : MakesL M h := by
  unfold lookL at e
  split at e
  · rename_i oc od cd sl ho
    simp only [Bool.and_eq_true, Bool.not_eq_true', beq_iff_eq] at e
    obtain ⟨⟨⟨⟨⟨⟨⟨e1, e2⟩, e3⟩, e4⟩, e5⟩, e6⟩, e7⟩, e8⟩ := e
    have hc : clsIn K 220 = some cd := by unfold clsIn; rw [ho]
    have hm : Looks M h (mroOf (.ref 220)) cd.mro := (looks_clsIn X hc).andThen .now
    obtain ⟨c, l, hl⟩ : ∃ c l, cd.mro = c :: l := by cases q : cd.mro with | nil => rw [q] at e4; cases e4 | cons c l => exact ⟨c, l, rfl⟩
    have made : Looks M h (Bind.madeBy (.ref 220)) (some "list.__new__") := by
      intro A Q E s k q
      unfold Bind.madeBy
      refine wpAny_bind (hm A _ E s k ?_)
      rw [hl, List.forIn_cons]
      refine wpAny_bind (wpAny_bind (wpAny_bind (wpAny_bind (wpAny_loadPart (k _ _ (X _ _ ho)) (wpAny_pure ?_)))))
      dsimp only
      rw [← Array.getElem?_toList, e3]
      exact wpAny_pure (wpAny_pure (wpAny_pure q))
    refine ⟨⟨oc, od, cd, sl, X _ _ ho, e1, e2, e4⟩, made, ?_, looks_mroIn X ?_, looks_mroIn X ?_, looks_specialIn X e7, looks_instIn X e8⟩
    · intro A Q E s k q
      unfold Bind.staticBase
      refine wpAny_bind (hm A _ E s k ?_)
      rw [hl, List.forIn_cons]
      exact wpAny_bind (wpAny_bind (wpAny_bind (made A _ E s k (wpAny_pure (wpAny_pure (wpAny_pure q))))))
    · unfold mroIn; rw [hc, Option.bind_some, if_neg (by rw [e4]; decide), e5]
    · unfold mroIn; rw [hc, Option.bind_some, if_neg (by rw [e4]; decide), e6]
  · cases e
theorem newL {h : Heap} {g : Array GenState} {d : Drawn} {t : Nat} {os : OsState} {rest : List Value} {R : Result → Shared → Prop} (Y : MakesL (model prog w) h)
    (hq : R (.ok (.ret (.ref (h.objs.size + 1)))) ⟨(h.push emptyDict).push (accObj h.objs.size), g, d, t, os⟩) :
    codeAny (model prog w) A (.call (.builtin "list.__new__") ⟨.ref 220 :: rest, []⟩) R ⟨h, g, d, t, os⟩ := by
  obtain ⟨⟨oc, od, cd, sl, hC, e1, e2, e4⟩, made, base, self, top, call, typ⟩ := Y
  refine codeAny_call_builtin_code (Code.quiet_builtin _ quiet_lnew) ?_
  have ha := args_lnew rest
  have fin : ∀ A', A' = A.in1 → codeAny (model prog w) A (.builtin "list.__new__" ⟨.ref 220 :: rest, []⟩) R ⟨h, g, d, t, os⟩ := by
    intro A' _
    refine codeAny_builtinAt F.entry_list_new ?_
    unfold Builtin.«list.__new__»
    refine PySem.wpAt_bind (PySem.wpAt_stack fun p below => PySem.wpAt_of_wpAny ?_)
    dsimp only
    have how := owner_list_new
    rw [how]
    repeat (first | rw [if_neg Bool.false_ne_true] | rw [if_neg (show ¬ ((!true) = true) from Bool.false_ne_true)] | lk | dsimp only)
    refine nd_load (Heap.get?_push_of_some _ (Heap.get?_push_of_some _ hC)) ?_
    refine wpAny_pure (wpAny_pure ?_)
    rw [e2]
    refine wpAny_pure (wpAny_pure ?_)
    show R _ _
    rw [Heap.size_push]
    exact hq
  unfold checkBuiltinCall
  rw [kind_lnew, split_lnew]
  dsimp only
  cases hsig : Manifest.signature? "list.__new__" with
  | none =>
    repeat (first | rw [if_pos rfl] | rw [if_neg Bool.false_ne_true] | rw [if_neg (show ¬ ((!true) = true) from Bool.false_ne_true)] | rw [beq_self_eq_true] | rw [bne_self_eq_false] | rw [h2] | lk | dsimp only)
    exact fin _ rfl
  | some sig =>
    simp only [argsOk, hsig] at ha
    have h2 : Bind.checkArgs "list.__new__" sig ⟨.ref 220 :: rest, []⟩ = pure () := ha
    repeat (first | rw [if_pos rfl] | rw [if_neg Bool.false_ne_true] | rw [if_neg (show ¬ ((!true) = true) from Bool.false_ne_true)] | rw [beq_self_eq_true] | rw [bne_self_eq_false] | rw [h2] | lk | dsimp only)
    exact fin _ rfl
theorem makeL {h : Heap} {g : Array GenState} {d : Drawn} {t : Nat} {os : OsState} {rest : List Value} {R : Result → Shared → Prop} (X : (Kx w.params).In h)
    (hq : codeAny (model prog w) (A.under (tcCode 220 rest)) (.call (.ref 157) ⟨.ref (h.objs.size + 1) :: rest, []⟩) (InitBack (h.objs.size + 1) R) ⟨(h.push emptyDict).push (accObj h.objs.size), g, d, t, os⟩) :
    codeAny (model prog w) A (.call (.ref 220) ⟨rest, []⟩) R ⟨h, g, d, t, os⟩ := by
  have Y : MakesL (model prog w) h := makesL X (look220 _)
  have Y' := Y
  have hi : Looks (model prog w) h (typeLookup (.ref 220) "__init__") (some (.ref 157)) := looks_findIn X (in220 _)
  have hb : ∀ self, Looks (model prog w) h (bindSpecial (.ref 157) self) (.ref 157, [self]) := fun self => bind_fn X self (fn157 _)
  obtain ⟨⟨oc, od, cd, sl, hC, e1, e2, e4⟩, made, base, self, top, call, typ⟩ := Y
  refine codeAny_of_tree ?_
  show wpAny _ _ (callAny (.ref 220) _) _ _ _
  refine nd_load hC ?_
  show wpAny _ _ (callAny.viaDunder (.ref 220) _) _ _ _
  unfold callAny.viaDunder
  refine wpAny_bind (call.at ?_)
  dsimp only
  rw [tc_bind]
  refine wpAny_bind (wpAny_pure (wpAny_bind (wpAny_pure ?_)))
  refine wpAny_pure (a := Fin.again (.call (.builtin "type.__call__") ⟨.ref 220 :: rest, []⟩)) (And.intro rfl ?_)
  refine codeAny_call_builtin_at (Code.quiet_builtin _ (by decide +kernel)) entry_typeCall (check_slot tc_kind tc_split typ (tc_args _ _ _) ?_)
  unfold Builtin.«type.__call__»
  have hm : Looks (model prog w) h (mroOf (.ref 220)) cd.mro := ((Looks.ld (part := none) hC).andThen .now).andThen .now
  repeat (first | rw [e4] | rw [if_neg Bool.false_ne_true] | with_reducible refine wpAny_call ?_ | lk | dsimp only)
  refine newL Y' ?_
  have k : ∀ b o, h.get? b = some o → ((h.push emptyDict).push (accObj h.objs.size)).get? b = some o := fun b o e => Heap.get?_push_of_some _ (Heap.get?_push_of_some _ e)
  have hx : ((h.push emptyDict).push (accObj h.objs.size)).get? (h.objs.size + 1) = some (accObj h.objs.size) := by heap_get
  have t1 : Looks (model prog w) ((h.push emptyDict).push (accObj h.objs.size)) (typeOf (.ref (h.objs.size + 1))) (.ref 220) := (Looks.ld hx).andThen .now
  have s1 := self.keeps k
  have i1 := hi.keeps k
  have b1 := (hb (.ref (h.objs.size + 1))).keeps k
  unfold isInstance callSpecial? specialOf
  repeat (first | with_reducible refine wpAny_call ?_ | lk)
  refine codeAny_mono hq fun r s' z => ?_
  rcases r with e | (v | _ | _ | _) <;> first | exact z | exact z.elim | skip
  obtain ⟨rfl, z⟩ := z
  exact wpAny_pure (wpAny_pure z)
theorem rMakeA {rest : List Value} {Q : Value → Shared → Prop} (D : St z h₀ L m news s) (B : Gd w h₀)
    (h : ∀ (A' : Around) x dx s', A'.depth = A.depth + 1 → A'.handled = A.handled → St z h₀ L m ((x, isAcc dx []) :: (dx, isDct w.params []) :: news) s' → codeAny (model prog w) A' (.call (.ref 157) ⟨.ref x :: rest, []⟩) (IniQ x Q E) s') :
    wpAny (model prog w) A (call (.ref 220) rest) Q E s := by
  have X := D.X B
  have D₁ := D.led.push (o := emptyDict) (P := isDct w.params []) rfl ⟨[], 0, rfl, .nil⟩
  have D₂ := D₁.push (o := accObj s.heap.objs.size) (P := isAcc s.heap.objs.size []) rfl ⟨0, rfl⟩
  have D₃ : St z h₀ L m _ { s with heap := (s.heap.push emptyDict).push (accObj s.heap.objs.size) } := D.on (s := s) s.toks D₂ D.tk
  obtain ⟨hh, g, d, t, os⟩ := s
  refine wpAny_call (makeL X ?_)
  have key := h (A.under (tcCode 220 rest)) _ _ _ (by show A.depth + _ = _; rw [tc_weight]) rfl D₃
  rw [Heap.size_push] at key
  refine codeAny_mono key fun r s' q => ?_
  rcases r with e | (v | _ | _ | _) <;> first | exact q | exact q.elim
end
end Mine
end

section
open PySem PySem.W PySem.W.X PyProof.Rows PySem.Calls
open Builtin
set_option maxRecDepth 100000
set_option maxHeartbeats 1000000
namespace Mine
/- super() in a method of the class that is a list -/
noncomputable def isSup (x : Addr) : Obj → Prop := fun o => o = { cls := .type "super", dict := none, data := .fields #[.ref 220, .ref x, .ref 220], slots := #[] }
noncomputable def isBnd (T id : String) (x : Addr) : Obj → Prop := fun o => o = { cls := .type T, data := .fields #[.builtin id, .ref x] }
theorem c220 (P : Params) : ∃ o cd, (Kx P).lookup 220 = some o ∧ o.data = .cls cd ∧ cd.mro = [.ref 220, .type "list", .type "object"] := by
  have h1 := mro220 P
  unfold clsIn at h1
  split at h1
  · rename_i c d cd sl ho
    exact Mine.i2_3 _ cd ho rfl (by simpa using h1)
  · cases h1
theorem sub220s (P : Params) : mroIn (Kx P) 220 (.ref 220) = some true := by kernel_rfl
theorem cell144 (P : Params) : (Kx P).lookup 144 = some { cls := .type "cell", data := .cell (some (.ref 220)) } := by kernel_rfl
theorem noSuper (P : Params) : nsIn (Kx P) mainGlobals "super" = some none := by kernel_rfl
section
variable {w : World} {z : Shared} {prog : Program} {A : Around} {E : Value → Shared → Prop} {h₀ : Heap} {s : Shared} {L : Addr} {m : Str → Option Value} {news news' : List Ent} {x dx : Addr} {vs : List Value} {kvs : List (Str × Value)} {env : Env} {names : List (Str × NameKind)}
theorem St.opq (D : St z h₀ L m news s) (hst : (cStatics, isStat z) ∈ news) : Looks (model prog w) s.heap (opaqueClassAbove (.ref 220)) none := by
  refine Mine.e1_2 (D.any hst) ?_
  intro mc hn hm
  have g : Looks (model prog w) s.heap (nsGet cStatics "thirdparty.any") none := fun A Q E s' k q => wpAny_nsGet (hn.keeps k) (by rw [hm]; exact q)
  exact Looks.andThen (a := false) (g.andThen .now) (by show Looks _ _ (if (!false) = true then pure none else _) none; rw [if_pos (show (!false) = true from rfl)]; exact .now)
theorem St.ne220 (D : St z h₀ L m news s) (B : Gd w h₀) (hx : (x, isAcc dx vs) ∈ news) : x ≠ 220 := by
  rintro rfl
  refine Mine.e2_2 (c220 w.params) ?_
  intro o cd h1 zu1
  have := (D.led.nw _ hx).2.2
  rw [B.X _ _ h1] at this
  cases this
theorem rSupBase {f cda : Addr} {fd : FuncData} {ar : Arg} {attr file : Str} {tf : Tok} {p0 p1 : Pos} {whole : Sem Value} {body : List Stmt} {oc ccl : Value} {od cdd : Option Addr} {osl ccs : Array (Option Value)} {fs : Array Value} {Q : Value → Shared → Prop} (D : St z h₀ L m news s) (B : Gd w h₀) (hE : EnvIs env L names) (hx : (x, isAcc dx vs) ∈ news)
    (hfu : env.func = some f) (hf : (Kx w.params).lookup f = some ⟨oc, od, .func fd, osl⟩) (hp : (fd.params.posonlyargs ++ fd.params.args).head? = some ar) (hv : m ar.arg = some (.ref x)) (hco : env.code = .ref cda) (hcode : (Kx w.params).lookup cda = some ⟨ccl, cdd, .fields fs, ccs⟩) (hvs : fs[2]? = some (.str file tf))
    (hfile : ((prog.main.file : Str) == file) = true) (htop : (prog.main.scope.names.lookup ("super" : Str)).isSome = false) (hat : (attr == ("__class__" : Str)) = false) (hks : names.lookup ("super" : Str) = some .globalImplicit) (hkc : names.lookup ("__class__" : Str) = some .free) (hka : names.lookup ar.arg = some .local) (hcl : env.cells.lookup ("__class__" : Str) = some 144)
    (h : ∀ so s', St z h₀ L m ((so, isSup x) :: news) s' → Q (.ref so) s') :
    PySem.wpAt (model prog w) A (.func body env) (attributeBase (.Call (.Name "super" p0) [] [] p1) attr env whole) Q E s := by
  have X := D.X B
  refine Mine.e2_3 (c220 w.params) ?_
  intro o220 cd hD1 hD2 hD3
  obtain ⟨mg, hg⟩ := B.gl
  refine Mine.e1_2 (B.bn) ?_
  intro mb hmb hbf
  have Ds := D
  obtain ⟨hh, g, d, t, os⟩ := s
  have kof : ∀ y, env.kindOf y = names.lookup y := fun y => by rw [Env.kindOf, hE.nm]
  refine ks_wpAt_super_base (env := env) ((kof _).trans hks) ((kof _).trans hkc) hat hfu (X _ _ hf) rfl hp hco (X _ _ hcode) rfl hvs hfile htop ?_
  refine ks_loadName_global hE.kind ((kof _).trans hks) (loadGlobal_builtin (env := env) (by rw [hE.gl]; exact hg.keeps Ds.led.fr.keep) (mg_none_of B.X hg (noSuper _)) (by rw [hE.bn]; exact hmb.keeps Ds.led.fr.keep) ((hbf _ (by decide +kernel)).trans (by kernel_rfl)) ⟨rfl, ?_⟩)
  refine wpAny_loadName_free hE.kind ((kof _).trans hkc) hcl ⟨_, X _ _ (cell144 _), rfl⟩ ?_
  refine wpAny_loadName_local hE.kind ((kof _).trans hka) (by rw [hE.loc]; exact Ds.led.fr.ns) hv ?_
  refine ks_wpAny_isType_cls (X _ _ hD1) hD2 ⟨rfl, ?_⟩
  obtain ⟨o, ho, n, rfl⟩ := Ds.get hx
  refine ks_wpAny_call_super (X _ _ hD1) hD2 ho rfl (fun c e => by cases e) (looks_mroIn X (sub220s _)) (fun h' e k => ?_)
  exact h _ _ ⟨Ds.led.cons k (Nat.le_refl _) e rfl, Ds.dr, Ds.os, Ds.gb, Ds.tk⟩
theorem slot_wget : Slot "wrapper_descriptor" "__get__" "wrapper_descriptor.__get__" := .of (owner := "wrapper_descriptor") (n := "__get__") (by rw [typeLookup_type, builtinLookup_eq_fast]; kernel_rfl) (by decide +kernel) (by decide +kernel) (by decide +kernel)
    (by first | exact .inl (by decide +kernel) | exact .inr (by decide +kernel)) (by rw [isSubtype_type]; kernel_rfl)
theorem slot_mget : Slot "method_descriptor" "__get__" "method_descriptor.__get__" := .of (owner := "method_descriptor") (n := "__get__") (by rw [typeLookup_type, builtinLookup_eq_fast]; kernel_rfl) (by decide +kernel) (by decide +kernel) (by decide +kernel)
    (by first | exact .inl (by decide +kernel) | exact .inr (by decide +kernel)) (by rw [isSubtype_type]; kernel_rfl)
theorem entry_wget : entryFor table "wrapper_descriptor.__get__" = some Builtin.«wrapper_descriptor.__get__» := entryFor_of_tree (by kernel_rfl)
theorem entry_mget : entryFor table "method_descriptor.__get__" = some Builtin.«method_descriptor.__get__» := entryFor_of_tree (by kernel_rfl)
theorem args_wget (a b c : Value) : argsOk "wrapper_descriptor.__get__" ⟨[a, b, c], []⟩ := by unfold argsOk; kernel_rfl
theorem args_mget (a b c : Value) : argsOk "method_descriptor.__get__" ⟨[a, b, c], []⟩ := by unfold argsOk; kernel_rfl
theorem ty_len : typeOf (.builtin "list.__len__") = pure (.type "wrapper_descriptor") := by show builtinType _ = _; rw [builtinType_eq_fast]; kernel_rfl
theorem ty_init : typeOf (.builtin "list.__init__") = pure (.type "wrapper_descriptor") := by show builtinType _ = _; rw [builtinType_eq_fast]; kernel_rfl
theorem ty_pop : typeOf (.builtin "list.pop") = pure (.type "method_descriptor") := by show builtinType _ = _; rw [builtinType_eq_fast]; kernel_rfl
theorem own_len : classOwn (.type "list") "__len__" = pure (some (.builtin "list.__len__")) := by kernel_rfl
theorem own_init : classOwn (.type "list") "__init__" = pure (some (.builtin "list.__init__")) := by kernel_rfl
theorem own_pop : classOwn (.type "list") "pop" = pure (some (.builtin "list.pop")) := by kernel_rfl
end
end Mine
end

section
open PySem PySem.W PySem.W.X PyProof.Rows PySem.Calls
open Builtin
set_option maxRecDepth 100000
set_option maxHeartbeats 1000000
namespace Mine
section
variable {w : World} {z : Shared} {prog : Program} {A : Around} {E : Value → Shared → Prop} {h₀ : Heap} {s : Shared} {L : Addr} {m : Str → Option Value} {news news' : List Ent} {x dx : Addr} {vs : List Value} {kvs : List (Str × Value)} {env : Env} {names : List (Str × NameKind)}
theorem subAt {M : Model} {A : Around} {E : Value → Shared → Prop} {c t : Value} {Q : Bool → Shared → Prop} {h : Heap} {g : Array GenState} {d : Drawn} {tk : Tok} {os : OsState} (hs : Looks M h (isSubtype c (.type "list")) true) (e : t = .type "list") (q : Q true ⟨h, g, d, tk, os⟩) : wpAny M A (isSubtype c t) Q E ⟨h, g, d, tk, os⟩ := by
  subst e; exact hs.at q
theorem wgetTree {id : String} {Q : Value → Shared → Prop} (D : St z h₀ L m news s) (B : Gd w h₀) (hx : (x, isAcc dx vs) ∈ news) (hid : id = "list.__len__" ∨ id = "list.__init__")
    (h : ∀ q s', St z h₀ L m ((q, isBnd "method-wrapper" id x) :: news) s' → Q (.ref q) s') :
    wpAny (model prog w) A (Builtin.«wrapper_descriptor.__get__» ⟨[.builtin id, .ref x, .ref 220], []⟩) (fun fin s' => ∃ v, fin = .done (.ret v) ∧ Q v s') E s := by
  have hsub : Looks (model prog w) s.heap (isSubtype (.ref 220) (.type "list")) true := looks_mroIn (D.X B) (sl220 w.params)
  have hT : Looks (model prog w) s.heap (typeOf (.ref x)) (.ref 220) := D.accT hx
  have fin := h s.heap.objs.size _ (D.on (s := s) s.toks (D.led.push (o := { cls := .type "method-wrapper", data := .fields #[.builtin id, .ref x] }) (P := isBnd "method-wrapper" id x) rfl rfl) D.tk)
  obtain ⟨hh, g, d, t, os⟩ := s
  rcases hid with rfl | rfl <;>
  · unfold Builtin.«wrapper_descriptor.__get__»
    repeat (first | rw [if_neg Bool.false_ne_true] | rw [if_neg (show ¬ ((!true) = true) from Bool.false_ne_true)] | with_reducible refine hT.at ?_ | (with_reducible refine subAt hsub (by kernel_rfl) ?_) | lk | dsimp only)
    exact ⟨_, rfl, fin⟩
theorem wget {id : String} {Q : Value → Shared → Prop} (D : St z h₀ L m news s) (B : Gd w h₀) (hx : (x, isAcc dx vs) ∈ news) (hid : id = "list.__len__" ∨ id = "list.__init__")
    (h : ∀ q s', St z h₀ L m ((q, isBnd "method-wrapper" id x) :: news) s' → Q (.ref q) s') :
    wpAny (model prog w) A (call (.builtin "wrapper_descriptor.__get__") [.builtin id, .ref x, .ref 220]) Q E s := by
  have hT : s.TypeIs (.builtin id) "wrapper_descriptor" := by rcases hid with rfl | rfl; exact ty_len; exact ty_init
  exact wpAny_call_entry slot_wget hT entry_wget (wgetTree D B hx hid h) (args_wget _ _ _)
theorem told_pop : Manifest.toldItsClass.contains "list.pop" = false := by decide +kernel
theorem mget {Q : Value → Shared → Prop} (D : St z h₀ L m news s) (B : Gd w h₀) (hx : (x, isAcc dx vs) ∈ news)
    (h : ∀ q s', St z h₀ L m ((q, isBnd "builtin_function_or_method" "list.pop" x) :: news) s' → Q (.ref q) s') :
    wpAny (model prog w) A (call (.builtin "method_descriptor.__get__") [.builtin "list.pop", .ref x, .ref 220]) Q E s := by
  refine wpAny_call_entry slot_mget ty_pop entry_mget ?_ (args_mget _ _ _)
  have hsub : Looks (model prog w) s.heap (isSubtype (.ref 220) (.type "list")) true := looks_mroIn (D.X B) (sl220 w.params)
  have hT : Looks (model prog w) s.heap (typeOf (.ref x)) (.ref 220) := D.accT hx
  have fin := h s.heap.objs.size _ (D.on (s := s) s.toks (D.led.push (o := { cls := .type "builtin_function_or_method", data := .fields #[.builtin "list.pop", .ref x] }) (P := isBnd "builtin_function_or_method" "list.pop" x) rfl rfl) D.tk)
  have ht := told_pop
  obtain ⟨hh, g, d, t, os⟩ := s
  unfold Builtin.«method_descriptor.__get__»
  repeat (first | rw [if_neg Bool.false_ne_true] | rw [if_neg (show ¬ ((!true) = true) from Bool.false_ne_true)] | rw [ht] | with_reducible refine hT.at ?_ | (with_reducible refine subAt hsub (by kernel_rfl) ?_) | lk | dsimp only)
  exact ⟨_, rfl, fin⟩
/- what super() finds among the methods of list -/
noncomputable def SupOk (name : Str) (id T gid bt : String) : Prop := classOwn (.type "list") name = pure (some (.builtin id)) ∧ typeOf (.builtin id) = pure (.type T) ∧ typeLookup (.type T) "__get__" = pure (some (.builtin gid)) ∧
  ∀ (w : World) (z : Shared) (prog : Program) (A : Around) (E : Value → Shared → Prop) (h₀ : Heap) (s : Shared) (L : Addr) (m : Str → Option Value) (news : List Ent) (x dx : Addr) (vs : List Value) (Q : Value → Shared → Prop), St z h₀ L m news s → Gd w h₀ → (x, isAcc dx vs) ∈ news →
    (∀ q s', St z h₀ L m ((q, isBnd bt id x) :: news) s' → Q (.ref q) s') → wpAny (model prog w) A (call (.builtin gid) [.builtin id, .ref x, .ref 220]) Q E s
theorem supLen : SupOk "__len__" "list.__len__" "wrapper_descriptor" "wrapper_descriptor.__get__" "method-wrapper" := ⟨own_len, ty_len, slot_wget.lookup, fun _ _ _ _ _ _ _ _ _ _ _ _ _ _ D B hx h => wget D B hx (.inl rfl) h⟩
theorem supIni : SupOk "__init__" "list.__init__" "wrapper_descriptor" "wrapper_descriptor.__get__" "method-wrapper" := ⟨own_init, ty_init, slot_wget.lookup, fun _ _ _ _ _ _ _ _ _ _ _ _ _ _ D B hx h => wget D B hx (.inr rfl) h⟩
theorem supPop : SupOk "pop" "list.pop" "method_descriptor" "method_descriptor.__get__" "builtin_function_or_method" := ⟨own_pop, ty_pop, slot_mget.lookup, fun _ _ _ _ _ _ _ _ _ _ _ _ _ _ D B hx h => mget D B hx h⟩
theorem supGa {so : Addr} {name : Str} {id T gid bt : String} {tk : Tok} {Q : Value → Shared → Prop} (S : SupOk name id T gid bt) (D : St z h₀ L m news s) (B : Gd w h₀) (hst : (cStatics, isStat z) ∈ news) (hx : (x, isAcc dx vs) ∈ news) (hso : (so, isSup x) ∈ news) (hn : (name == ("__class__" : Str)) = false)
    (h : ∀ q s', St z h₀ L m ((q, isBnd bt id x) :: news) s' → Q (.ref q) s') :
    wpAny (model prog w) A (Builtin.«super.__getattribute__» ⟨[.ref so, .str name tk], []⟩) (fun fin s' => ∃ v, fin = .done (.ret v) ∧ Q v s') E s := by
  refine Mine.e0_4 S ?_
  try clear S
  intro S1 S2 S3 S4
  refine Mine.e1_2 (D.get hso) ?_
  intro o hso1 zq1
  subst zq1
  have hno := D.opq (prog := prog) (w := w) hst
  have X := D.X B
  refine Mine.e2_3 (c220 w.params) ?_
  intro o220 cd hD1 hD2 hD3
  have hC : Looks (model prog w) s.heap (mroOf (.ref 220)) [.ref 220, .type "list", .type "object"] := by
    have hc : clsIn (Kx w.params) 220 = some cd := by
      unfold clsIn; rw [hD1]; obtain ⟨a, b, c, e⟩ := o220; cases hD2; rfl
    rw [← hD3]; exact (looks_clsIn X hc).andThen .now
  have hne : (Value.ref x == Value.ref 220) = false := by simp [D.ne220 B hx]
  obtain ⟨hh, g, d, t, os⟩ := s
  have hdt : ({ cls := .type "super", dict := none, data := .fields #[.ref 220, .ref x, .ref 220], slots := #[] } : Obj).data = .fields #[.ref 220, .ref x, .ref 220] := rfl
  have f0 : (#[.ref 220, .ref x, .ref 220] : Array Value)[0]? = some (.ref 220) := rfl
  have f1 : (#[.ref 220, .ref x, .ref 220] : Array Value)[1]? = some (.ref x) := rfl
  have f2 : (#[.ref 220, .ref x, .ref 220] : Array Value)[2]? = some (.ref 220) := rfl
  unfold Builtin.«super.__getattribute__»
  repeat (first
    | (with_reducible refine wpAny_field hso1 hdt f0 ?_) | (with_reducible refine wpAny_field hso1 hdt f1 ?_) | (with_reducible refine wpAny_field hso1 hdt f2 ?_)
    | (with_reducible refine ks_wpAny_notOpaque hno ?_)
    | (with_reducible refine Looks.at hC ?_)
    | (with_reducible refine S4 _ _ _ _ _ _ _ _ _ _ _ _ _ _ D B hx ?_)
    | rw [hn] | rw [hne] | rw [Bool.or_false] | rw [if_neg Bool.false_ne_true]
    | wp_step
    | dsimp only)
  intro q s' D'
  repeat (first | wp_step | dsimp only)
  exact ⟨_, rfl, h q s' D'⟩
theorem rSupMeth {so : Addr} {name : Str} {id T gid bt : String} {pl : Sem Bool} {Q : Value × List Value → Shared → Prop} (S : SupOk name id T gid bt) (D : St z h₀ L m news s) (B : Gd w h₀) (hst : (cStatics, isStat z) ∈ news) (hx : (x, isAcc dx vs) ∈ news) (hso : (so, isSup x) ∈ news) (hn : (name == ("__class__" : Str)) = false)
    (h : ∀ q s', St z h₀ L m ((q, isBnd bt id x) :: news) s' → Q (.ref q, []) s') : wpAny (model prog w) A (getMethod (.ref so) name pl) Q E s := by
  have hlk := F.ks_slot_super_ga.lookup
  have hcan := F.ks_canon_super_ga
  have D' := D.tok (s.toks + 1)
  refine Mine.e1_2 (D.get hso) ?_
  intro o hso1 zq2
  subst zq2
  have hT : ∀ t', (⟨s.heap, s.gens, s.drawn, t', s.os⟩ : Shared).TypeIs (.ref so) "super" := fun _ => ⟨_, hso1, rfl⟩
  unfold getMethod
  refine wpAny_bind (wpAny_specialOf (hT s.toks) hlk ?_)
  show wpAny _ _ (if (Manifest.canonical "super.__getattribute__" != "object.__getattribute__") = true then _ else _) _ _ _
  rw [if_pos hcan]
  unfold getAttr getAttrBy
  refine wpAny_bind (wpAny_bind (wpAny_mkText (wpAny_holding (wpAny_bind (wpAny_typeOf (hT (s.toks + 1)) (wpAny_bind (wpAny_of_eq hlk ?_)))))))
  show wpAny _ _ (getAttrByItsOwn (.ref so) (.str name s.toks) (.type "super") (.builtin "super.__getattribute__") true false) _ _ _
  unfold getAttrByItsOwn hookBefore callGetattribute boundAndCalled
  refine wpAny_bind (wpAny_of_eq (show (if onTheHeap (.type "super") then typeLookup (.type "super") "__getattr__" else pure none) = pure none from rfl) ?_)
  refine wpAny_bind (wpAny_attempt (wpAny_holding ?_))
  show wpAny _ _ (bindSpecial (.builtin "super.__getattribute__") (.ref so) >>= _) _ _ _
  refine wpAny_bind (wpAny_of_eq (F.ks_slot_super_ga.bind _) ?_)
  refine wpAny_mono (Q := fun v s' => ∃ q, v = .ref q ∧ St z h₀ L m ((q, isBnd bt id x) :: news) s') (E := fun _ _ => False)
    (wpAny_call_entry F.ks_slot_super_ga (hT (s.toks + 1)) F.ks_entry_super_ga (supGa (A := A.in1) S D' B hst hx hso hn fun q s' D₂ => ⟨q, rfl, D₂⟩) (F.ks_gaArgs_super _ _)) (fun v s' hv => ?_) fun _ _ z => z.elim
  refine Mine.e1_2 hv ?_
  try clear hv
  intro q zq3 D₂
  subst zq3
  exact wpAny_pure (wpAny_pure (h q s' D₂))
/- a bound method of list called -/
theorem rBound {q : Addr} {T id : String} {b : Builtin} {Q : Value → Shared → Prop} (D : St z h₀ L m news s) (hq : (q, isBnd T id x) ∈ news) (hT : T = "method-wrapper" ∨ T = "builtin_function_or_method") (hp : plainId id = true) (he : entryFor table id = some b)
    (hc : Looks (model prog w) s.heap (checkBoundCall id ⟨[.ref x], []⟩) ()) (hb : wpAny (model prog w) A.in1 (b ⟨[.ref x], []⟩) (fun fin s' => ∃ v, fin = .done (.ret v) ∧ Q v s') E s) :
    wpAny (model prog w) A (call (.ref q) []) Q E s := by
  refine Mine.e1_2 (D.get hq) ?_
  intro o ho zq4
  subst zq4
  refine wpAny_call (codeAny_of_tree ?_)
  show wpAny _ A.in1 (callAny (.ref q) _) _ _ _
  unfold callAny
  refine wpAny_bind (wpAny_load ho ?_)
  have fin : wpAny (model prog w) A.in1 (checkBoundCall id ⟨[.ref x], []⟩ >>= fun _ => again (.builtin id ⟨[.ref x], []⟩)) (fun fin s' => match fin with
      | .done f => (match (Except.ok f : Result) with | .ok (.ret v) => Q v s' | .ok _ => False | .error e => E e s')
      | .again c' => c'.quiet = true ∧ codeAny (model prog w) A c' (fun r s' => match r with | .ok (.ret v) => Q v s' | .ok _ => False | .error e => E e s') s')
      (fun e s' => match (Except.error e : Result) with | .ok (.ret v) => Q v s' | .ok _ => False | .error e => E e s') s := by
    refine wpAny_bind (hc.here (wpAny_pure ⟨plainId_quiet hp _, codeAny_builtin he ?_⟩))
    rw [Around.under_plainId hp]
    refine wpAny_mono hb (fun fin s' q => ?_) fun _ _ q => q
    refine Mine.e1_2 q ?_
    try clear q
    intro v zq5 hv
    subst zq5
    exact hv
  rcases hT with rfl | rfl <;> exact fin
theorem chkLen (v : Value) : checkBoundCall "list.__len__" ⟨[v], []⟩ = pure () := by kernel_rfl
theorem chkIni (v : Value) : checkBoundCall "list.__init__" ⟨[v], []⟩ = pure () := by kernel_rfl
theorem vara_pop : Manifest.varargsMethods.contains "list.pop" = false := by decide +kernel
theorem kind_pop : builtinKind "list.pop" = some .method := by decide +kernel
theorem mod220 (P : Params) : mroIn (Kx P) 220 (.type "module") = some false := by kernel_rfl
noncomputable def popFull : String := toString (Str.ofString "_Accumulator").toString ++ toString "." ++ toString (Bind.lastOf "list.pop")
theorem popArgs (v : Value) : Bind.checkArgs "list.pop" { ((Manifest.signature? "list.pop").getD ⟨.hand, "", "", .none, []⟩) with full := popFull } ⟨[v], []⟩ = pure () := by kernel_rfl
theorem qn220 (P : Params) : (clsIn (Kx P) 220).map (·.qualname) = some (Str.ofString "_Accumulator") := by kernel_rfl
theorem ty220 (P : Params) : typeIn (Kx P) (.ref 220) = some (.type "type") := by kernel_rfl
theorem chkPop (D : St z h₀ L m news s) (B : Gd w h₀) (hx : (x, isAcc dx vs) ∈ news) : Looks (model prog w) s.heap (checkBoundCall "list.pop" ⟨[.ref x], []⟩) () := by
  have X := D.X B
  have hT : Looks (model prog w) s.heap (typeOf (.ref x)) (.ref 220) := D.accT hx
  have hm : Looks (model prog w) s.heap (isInstance (.ref x) (.type "module")) false := hT.andThen (looks_mroIn X (mod220 _))
  have hty : Looks (model prog w) s.heap (typeOf (.ref 220)) (.type "type") := looks_typeIn X (ty220 _)
  refine Mine.e2_3 (c220 w.params) ?_
  intro o220 cd hD1 hD2 hD3
  have hci : clsIn (Kx w.params) 220 = some cd := by
    unfold clsIn; rw [hD1]; obtain ⟨a, b, c, e⟩ := o220; cases hD2; rfl
  have hcd : Looks (model prog w) s.heap (classData 220) cd := looks_clsIn X hci
  have hq : cd.qualname = Str.ofString "_Accumulator" := by
    have := qn220 w.params
    rw [hci] at this
    exact Option.some.inj this
  obtain ⟨o, ho, n, rfl⟩ := D.get hx
  have hit : Looks (model prog w) s.heap (isType (.ref x)) false := (Looks.ld ho).andThen .now
  unfold checkBoundCall
  cases hsig : Manifest.signature? "list.pop" with
  | none => exact .now
  | some sig =>
    have hk : Bind.checkArgs "list.pop" { machinery := sig.machinery, full := popFull, short := sig.short, receiver := sig.receiver, params := sig.params } ⟨[.ref x], []⟩ = pure () := by
      have := popArgs (.ref x)
      rw [hsig] at this
      exact this
    simp only [kind_pop, vara_pop]
    rw [if_neg (by decide)]
    refine hm.andThen ?_
    rw [if_neg (by decide)]
    refine hit.andThen ?_
    rw [if_neg (by decide)]
    refine hT.andThen ?_
    dsimp only
    refine hcd.andThen (hty.andThen ?_)
    rw [if_pos (by decide), hq]
    exact (show Looks (model prog w) s.heap (Bind.checkArgs "list.pop" { machinery := sig.machinery, full := popFull, short := sig.short, receiver := sig.receiver, params := sig.params } ⟨[.ref x], []⟩) () from by rw [hk]; exact .now)
end
end Mine
end

section
open PySem PySem.W PySem.W.X PyProof.Rows PySem.Calls
open Builtin
set_option maxRecDepth 100000
set_option maxHeartbeats 1000000
namespace Mine
theorem getK_hd {x : Str} {v : Value} {r : List (Str × Value)} : getK x ((x, v) :: r) = some v := by unfold getK; simp
theorem getK_tl {x y : Str} {u : Value} {r : List (Str × Value)} {o : Option Value} (h : (y == x) = false) (e : getK x r = o) : getK x ((y, u) :: r) = o := by unfold getK; rw [h]; exact e
theorem getK_nil {x : Str} : getK x [] = none := rfl
theorem putK_nil {x : Str} {v : Value} : putK x v [] = [(x, v)] := rfl
theorem putK_hd {x : Str} {u v : Value} {r : List (Str × Value)} : putK x v ((x, u) :: r) = (x, v) :: r := by unfold putK; simp
theorem putK_tl {x y : Str} {u v : Value} {r r' : List (Str × Value)} (h : (y == x) = false) (e : putK x v r = r') : putK x v ((y, u) :: r) = (y, u) :: r' := by unfold putK; rw [h]; simp [e]
theorem fA_push (P : Params) : findIn (Kx P) (.ref 220) (Str.ofString "push") = some (some (.ref 164)) := by kernel_rfl
theorem fA_pop_from (P : Params) : findIn (Kx P) (.ref 220) (Str.ofString "pop_from") = some (some (.ref 172)) := by kernel_rfl
theorem fA_pop (P : Params) : findIn (Kx P) (.ref 220) (Str.ofString "pop") = some (some (.ref 180)) := by kernel_rfl
theorem fA_reset (P : Params) : findIn (Kx P) (.ref 220) (Str.ofString "reset") = some (some (.ref 202)) := by kernel_rfl
theorem fA_is_onlyws (P : Params) : findIn (Kx P) (.ref 220) (Str.ofString "is_onlyws") = some (some (.ref 209)) := by kernel_rfl
theorem fA_part_count (P : Params) : findIn (Kx P) (.ref 220) (Str.ofString "part_count") = some (some (.ref 217)) := by kernel_rfl
theorem fV_str (P : Params) : findIn (Kx P) (.ref 136) (Str.ofString "_str") = some (some (.ref 84)) := by kernel_rfl
theorem fV_newline (P : Params) : findIn (Kx P) (.ref 136) (Str.ofString "newline") = some (some (.ref 98)) := by kernel_rfl
theorem fV_ascii_split (P : Params) : findIn (Kx P) (.ref 136) (Str.ofString "_ascii_split") = some (some (.ref 126)) := by kernel_rfl
theorem fV_append_chunk (P : Params) : findIn (Kx P) (.ref 136) (Str.ofString "_append_chunk") = some (some (.ref 133)) := by kernel_rfl
/- a call of something of the text, about to be made -/
noncomputable def CallAt (prog : Program) (w : World) (A : Around) (E : Value → Shared → Prop) (z : Shared) (h₀ : Heap) (f : Addr) (vs : List Value) (Q : Value → Shared → Prop) (s : Shared) : Prop := (∃ L m news, St z h₀ L m news s) ∧ wpAny (model prog w) A (call (.ref f) vs) Q E s
section
variable {w : World} {z : Shared} {prog : Program} {A : Around} {E : Value → Shared → Prop} {h₀ : Heap} {s : Shared} {L : Addr} {m : Str → Option Value} {news news' : List Ent} {env : Env} {names : List (Str × NameKind)} {Q : Value → Shared → Prop} {f : Addr} {pos : Pos} {x : Value}
theorem callAt {vs : List Value} (D : St z h₀ L m news s) (h : wpAny (model prog w) A (call (.ref f) vs) Q E s) : CallAt prog w A E z h₀ f vs Q s := ⟨⟨L, m, news, D⟩, h⟩
theorem atP {vs : List Value} {first : List Value} (B : Gd w h₀) {vs' : List Value} (h : CallAt prog w A E z h₀ f vs Q s) (e : vs = first ++ vs') : (Kx w.params).In s.heap ∧ wpAny (model prog w) A (call (.ref f) (first ++ vs')) Q E s := by
  obtain ⟨⟨L, m, news, D⟩, h⟩ := h
  subst e
  exact ⟨D.X B, h⟩
theorem cF0 (_D : St z h₀ L m news s) (B : Gd w h₀) (hk : keepIn (Kx w.params) (.ref f) = true) (h : CallAt prog w A E z h₀ f [x] Q s) : wpAny (model prog w) A (callWith pos (.ref f) [x] (backTo pos (starEach [] env)) []) Q E s :=
  callWith_of rfl (keeps_K hk) (evalArgs_nil3 (atP (first := [x]) (vs' := []) B h rfl))
theorem cF1 {e : Expr} (_D : St z h₀ L m news s) (B : Gd w h₀) (hk : keepIn (Kx w.params) (.ref f) = true) (h : wpAny (model prog w) A (eval e env) (fun v s₁ => CallAt prog w A E z h₀ f [x, v] Q s₁) E s) (he : starEach [e] env = (false, eval e env) :: starEach [] env) :
    wpAny (model prog w) A (callWith pos (.ref f) [x] (backTo pos (starEach [e] env)) []) Q E s :=
  callWith_K (K := Kx w.params) (h₀ := h₀) B.X hk (splC (wpAny_mono h (fun v s₁ q => splN (atP (first := [x]) (vs' := [v]) B q rfl)) fun _ _ e => e) he) he rfl
theorem cF2 {e e' : Expr} (_D : St z h₀ L m news s) (B : Gd w h₀) (hk : keepIn (Kx w.params) (.ref f) = true) (h : wpAny (model prog w) A (eval e env) (fun v s₁ => wpAny (model prog w) A (eval e' env) (fun v₂ s₂ => CallAt prog w A E z h₀ f [x, v, v₂] Q s₂) E s₁) E s) (he : starEach [e, e'] env = (false, eval e env) :: starEach [e'] env) (he2 : starEach [e'] env = (false, eval e' env) :: starEach [] env) :
    wpAny (model prog w) A (callWith pos (.ref f) [x] (backTo pos (starEach [e, e'] env)) []) Q E s :=
  callWith_K (K := Kx w.params) (h₀ := h₀) B.X hk (splC (wpAny_mono h (fun v s₁ q => splC (wpAny_mono q (fun v₂ s₂ q₂ => splN (atP (first := [x]) (vs' := [v, v₂]) B q₂ rfl)) fun _ _ e => e) he2) fun _ _ e => e) he) he (by rw [he2]; rfl)
theorem cF3 {e e' e'' : Expr} (_D : St z h₀ L m news s) (B : Gd w h₀) (hk : keepIn (Kx w.params) (.ref f) = true) (h : wpAny (model prog w) A (eval e env) (fun v s₁ => wpAny (model prog w) A (eval e' env) (fun v₂ s₂ => wpAny (model prog w) A (eval e'' env) (fun v₃ s₃ => CallAt prog w A E z h₀ f [x, v, v₂, v₃] Q s₃) E s₂) E s₁) E s) (he : starEach [e, e', e''] env = (false, eval e env) :: starEach [e', e''] env) (he2 : starEach [e', e''] env = (false, eval e' env) :: starEach [e''] env) (he3 : starEach [e''] env = (false, eval e'' env) :: starEach [] env) :
    wpAny (model prog w) A (callWith pos (.ref f) [x] (backTo pos (starEach [e, e', e''] env)) []) Q E s :=
  callWith_K (K := Kx w.params) (h₀ := h₀) B.X hk (splC (wpAny_mono h (fun v s₁ q => splC (wpAny_mono q (fun v₂ s₂ q₂ => splC (wpAny_mono q₂ (fun v₃ s₃ q₃ => splN (atP (first := [x]) (vs' := [v, v₂, v₃]) B q₃ rfl)) fun _ _ e => e) he3) fun _ _ e => e) he2) fun _ _ e => e) he) he (by rw [he2, he3]; rfl)
theorem cG1 {e : Expr} (_D : St z h₀ L m news s) (B : Gd w h₀) (hk : keepIn (Kx w.params) (.ref f) = true) (h : wpAny (model prog w) A (eval e env) (fun v s₁ => CallAt prog w A E z h₀ f [v] Q s₁) E s) (he : starEach [e] env = (false, eval e env) :: starEach [] env) :
    wpAny (model prog w) A (callWith pos (.ref f) [] (backTo pos (starEach [e] env)) []) Q E s :=
  callWith_K (K := Kx w.params) (h₀ := h₀) B.X hk (splC (wpAny_mono h (fun v s₁ q => splN (atP (first := []) (vs' := [v]) B q rfl)) fun _ _ e => e) he) he rfl
theorem cG2 {e e' : Expr} (_D : St z h₀ L m news s) (B : Gd w h₀) (hk : keepIn (Kx w.params) (.ref f) = true) (h : wpAny (model prog w) A (eval e env) (fun v s₁ => wpAny (model prog w) A (eval e' env) (fun v₂ s₂ => CallAt prog w A E z h₀ f [v, v₂] Q s₂) E s₁) E s) (he : starEach [e, e'] env = (false, eval e env) :: starEach [e'] env) (he2 : starEach [e'] env = (false, eval e' env) :: starEach [] env) :
    wpAny (model prog w) A (callWith pos (.ref f) [] (backTo pos (starEach [e, e'] env)) []) Q E s :=
  callWith_K (K := Kx w.params) (h₀ := h₀) B.X hk (splC (wpAny_mono h (fun v s₁ q => splC (wpAny_mono q (fun v₂ s₂ q₂ => splN (atP (first := []) (vs' := [v, v₂]) B q₂ rfl)) fun _ _ e => e) he2) fun _ _ e => e) he) he (by rw [he2]; rfl)
theorem cG4 {e e' e'' e''' : Expr} (_D : St z h₀ L m news s) (B : Gd w h₀) (hk : keepIn (Kx w.params) (.ref f) = true) (h : wpAny (model prog w) A (eval e env) (fun v s₁ => wpAny (model prog w) A (eval e' env) (fun v₂ s₂ => wpAny (model prog w) A (eval e'' env) (fun v₃ s₃ => wpAny (model prog w) A (eval e''' env) (fun v₄ s₄ => CallAt prog w A E z h₀ f [v, v₂, v₃, v₄] Q s₄) E s₃) E s₂) E s₁) E s) (he : starEach [e, e', e'', e'''] env = (false, eval e env) :: starEach [e', e'', e'''] env) (he2 : starEach [e', e'', e'''] env = (false, eval e' env) :: starEach [e'', e'''] env) (he3 : starEach [e'', e'''] env = (false, eval e'' env) :: starEach [e'''] env) (he4 : starEach [e'''] env = (false, eval e''' env) :: starEach [] env) :
    wpAny (model prog w) A (callWith pos (.ref f) [] (backTo pos (starEach [e, e', e'', e'''] env)) []) Q E s :=
  callWith_K (K := Kx w.params) (h₀ := h₀) B.X hk (splC (wpAny_mono h (fun v s₁ q => splC (wpAny_mono q (fun v₂ s₂ q₂ => splC (wpAny_mono q₂ (fun v₃ s₃ q₃ => splC (wpAny_mono q₃ (fun v₄ s₄ q₄ => splN (atP (first := []) (vs' := [v, v₂, v₃, v₄]) B q₄ rfl)) fun _ _ e => e) he4) fun _ _ e => e) he3) fun _ _ e => e) he2) fun _ _ e => e) he) he (by rw [he2, he3, he4]; rfl)
theorem attrE {value : Expr} {attr : Str} {pos : Pos} (h : wpAny (model prog w) A (eval value env) (fun o s₁ => wpAny (model prog w) A (getAttr o attr true) Q E s₁) E s)
    (he : attributeBase value attr env (eval value env) = eval value env) : wpAny (model prog w) A (eval (.Attribute value attr pos) env) Q E s :=
  Attribute_any_ h (by rw [arm_eval_Attribute, he])
theorem xAsgAttr {o value : Expr} {attr : Str} {p' p : Pos} {rest : List Stmt} {Q : Flow → Shared → Prop} (h : wpAny (model prog w) A (eval value env) (fun v s₁ => wpAny (model prog w) A (eval o env) (fun ov s₂ => wpAny (model prog w) A (setAttr ov attr v) (fun _ s₃ => wpAny (model prog w) A (execs rest env) Q E s₃) E s₂) E s₁) E s)
    (hs : swapsWith value (some (.Attribute o attr p')) p.line env = pure false) : wpAny (model prog w) A (execs (.Assign [.Attribute o attr p'] value p :: rest) env) Q E s :=
  wpAny_execs_cons (plainObj_wpAny_Assign_Attribute h hs)
theorem xAugSub {o i value : Expr} {p' p : Pos} {op : Operator} {rest : List Stmt} {Q : Flow → Shared → Prop} (h : wpAny (model prog w) A (eval o env) (fun ov s₁ => wpAny (model prog w) A (eval i env) (fun iv s₂ => wpAny (model prog w) A (getItem ov iv) (fun old s₃ =>
      wpAny (model prog w) A (eval value env) (fun v s₄ => wpAny (model prog w) A (inplaceOp op old v) (fun new s₅ => wpAny (model prog w) A (setItem ov iv new) (fun _ s₆ => wpAny (model prog w) A (execs rest env) Q E s₆) E s₅) E s₄) E s₃) E s₂) E s₁) E s)
    (ha : ∀ ov iv new, augStore i ov iv new = (do holding [new, ov, iv] (setItem ov iv new); release [new, ov, iv] []; pure .next)) : wpAny (model prog w) A (execs (.AugAssign (.Subscript o i p') op value p :: rest) env) Q E s :=
  wpAny_execs_cons (wpAny_AugAssign_Subscript_any h ha)
/- the same, told with the code on top -/
theorem aAsgAttr {o value : Expr} {attr : Str} {p' p : Pos} {c : Code} {rest : List Stmt} {Q : Flow → Shared → Prop} (h : wpAny (model prog w) A (eval value env) (fun v s₁ => wpAny (model prog w) A (eval o env) (fun ov s₂ => wpAny (model prog w) A (setAttr ov attr v) (fun _ s₃ => PySem.wpAt (model prog w) A c (execs rest env) Q E s₃) E s₂) E s₁) E s)
    (hs : swapsWith value (some (.Attribute o attr p')) p.line env = pure false) : PySem.wpAt (model prog w) A c (execs (.Assign [.Attribute o attr p'] value p :: rest) env) Q E s :=
  ks_wpAt_execs_cons (PySem.wpAt_of_wpAny (plainObj_wpAny_Assign_Attribute h hs))
theorem aNil {c : Code} {Q : Flow → Shared → Prop} (h : Q .next s) : PySem.wpAt (model prog w) A c (execs [] env) Q E s := PySem.wpAt_of_wpAny (wpAny_execs_nil h)
theorem aIfF {test : Expr} {body : List Stmt} {p : Pos} {c : Code} {rest : List Stmt} {Q : Flow → Shared → Prop} (I : Shared → Prop) (ht : wpAny (model prog w) A (isTrue test env (eval test env)) (fun b s₂ => b = false ∧ I s₂) E s)
    (hF : ∀ s₂, I s₂ → PySem.wpAt (model prog w) A c (execs rest env) Q E s₂) : PySem.wpAt (model prog w) A c (execs (.If test body [] p :: rest) env) Q E s := by
  refine ks_wpAt_execs_cons (ks_wpAt_If (PySem.wpAt_of_wpAny (wpAny_mono ht (fun b s₂ q => ?_) fun _ _ e => e)))
  obtain ⟨rfl, q⟩ := q
  exact aNil (hF s₂ q)
/- a method of super() called without arguments -/
theorem aSup {so : Expr} {name : Str} {apos pos : Pos} {c : Code} (h : PySem.wpAt (model prog w) A c (attributeBase so name env (eval so env)) (fun ov s₁ => wpAny (model prog w) A (getMethod ov name (do return (← importBound so env).getD true)) (fun fx s₂ => wpAny (model prog w) A (callWith pos fx.1 fx.2 (backTo pos (starEach [] env)) []) Q E s₂) E s₁) E s)
    (hf : methodCallForm (([] : List Expr).length + ([] : List Keyword).length) (backTo pos (starEach [] env)) (backToKw pos (keywordEach [] env)) = true) (hl : (apos.endLine == pos.line) = true) :
    PySem.wpAt (model prog w) A c (eval (.Call (.Attribute so name apos) [] [] pos) env) Q E s := by
  rw [arm_eval_Call]
  refine PySem.wpAt_bind (PySem.wpAt_mono h (fun ov s₁ h₁ => PySem.wpAt_of_wpAny (wpAny_bind (wpAny_standAt ?_))) fun _ _ x => x)
  unfold methodCall calleeOf methodCallPos
  rw [hf, if_pos rfl]
  refine wpAny_bind (wpAny_holding (wpAny_mono h₁ (fun fx s₂ h₂ => ?_) fun _ _ x => x))
  have : (!true || apos.endLine == pos.line) = true := by rw [hl]; rfl
  rw [if_pos this]
  exact wpAny_bind (wpAny_pure h₂)
theorem cBnd {q y : Addr} {T id : String} (D : St z h₀ L m news s) (hq : (q, isBnd T id y) ∈ news) (hT : T = "method-wrapper" ∨ T = "builtin_function_or_method") (h : wpAny (model prog w) A (call (.ref q) []) Q E s) :
    wpAny (model prog w) A (callWith pos (.ref q) [] (backTo pos (starEach [] env)) []) Q E s := by
  refine Mine.e1_2 (D.get hq) ?_
  intro o ho zq1
  subst zq1
  refine callWith_of (P := fun h => h = s.heap) rfl (fun h e => ⟨.machine, .inr (.inl rfl), ?_⟩) (evalArgs_nil3 ⟨rfl, h⟩)
  subst e
  refine (Looks.ld (part := none) ho).andThen ?_
  rcases hT with rfl | rfl <;> exact .now
variable {y dx : Addr} {vs : List Value} {kvs kvs' : List (Str × Value)} {name : Str} {v : Value}
theorem rSetA' {Q : Unit → Shared → Prop} (D : St z h₀ L m news s) (B : Gd w h₀) (hx : (y, isAcc dx vs) ∈ news) (hm : (dx, isDct w.params kvs) ∈ news) (e : putK name v kvs = kvs') (U : Rep dx (isDct w.params kvs) (isDct w.params kvs') news news') (hz : kvs.length ≤ 100)
    (ha : findIn (Kx w.params) (.ref 220) name = some none) (h : ∀ s', St z h₀ L m news' s' → Q () s') : wpAny (model prog w) A (setAttr (.ref y) name v) Q E s := by
  subst e; exact rSetAcc D B hx U hz ha h
theorem rSetV' {Q : Unit → Shared → Prop} (D : St z h₀ L m news s) (B : Gd w h₀) (hx : (y, isVf dx) ∈ news) (hm : (dx, isDct w.params kvs) ∈ news) (e : putK name v kvs = kvs') (U : Rep dx (isDct w.params kvs) (isDct w.params kvs') news news') (hz : kvs.length ≤ 100)
    (ha : findIn (Kx w.params) (.ref 136) name = some none) (h : ∀ s', St z h₀ L m news' s' → Q () s') : wpAny (model prog w) A (setAttr (.ref y) name v) Q E s := by
  subst e; exact rSetVf D B hx U hz ha h
/- an __init__ of the text entered -/
theorem enterI {f : Addr} {name qual : Str} {params : Arguments} {body : List Stmt} {scope : Scope} {cl : List (Str × Addr)} {dV kV doc pm cdv ct oc : Value} {an od : Option Addr} {osl : Array (Option Value)} {args : List Value} {binds : List (Str × Value)}
    (D : St z h₀ L m news s) (B : Gd w h₀) (hst : (cStatics, isStat z) ∈ news) (ho : (hd.heap_1 w.params).lookup f = some ⟨oc, od, .func (fnX name qual params body scope cl dV kV doc pm an cdv ct), osl⟩) (hcd : codeIn (hd.heap_1 w.params) cdv qual = true)
    (hroom : A.depth < recursionLimit) (hbind : ∀ S, peek (Kx w.params) S (bindArgs (fnX name qual params body scope cl dV kV doc pm an cdv ct) ⟨args, []⟩) = some binds) (hcell : (scope.names.all fun x => x.2 != .cell) = true) (hloc : (binds.all fun x => scope.names.lookup x.1 == some .local) = true) (hco : scope.isCoroutine = false) (hgen : scope.isGenerator = false) (hk : scope.kind = .function)
    (k : ∀ g₁ L' s₁ env, St z g₁ L' (bm binds fun _ => none) news s₁ → Gd w g₁ → EnvIs env L' scope.names → env = callEnv (fnX name qual params body scope cl dV kV doc pm an cdv ct) L' f → (∀ m₂ news₂ s₂, St z g₁ L' m₂ news₂ s₂ → St z h₀ L m news₂ s₂) →
      PySem.wpAt (model prog w) (A.deeper env) (.func body env) (execs body env) (fun fl s' => (match fl with | .ret v => v | _ => .none) = .none ∧ Q (.ref y) s') (fun _ _ => False) s₁) :
    codeAny (model prog w) A (.call (.ref f) ⟨args, []⟩) (IniQ y Q E) s := by
  refine codeAny_mono (enterC (E := E) (Q := fun v s' => v = .none ∧ Q (.ref y) s') D B ho hcd hroom hcell hco hgen hk (kp_binds (D.X B) hbind _ _ _ _ ⟨news, D, hst, hloc, k⟩)) fun r s' q => ?_
  rcases r with e | (v | _ | _ | _) <;> first | exact q | exact q.elim
/- a def with defaults, or with super() in it, entered -/
theorem enterP {f : Addr} {name qual : Str} {params : Arguments} {body : List Stmt} {scope : Scope} {cl : List (Str × Addr)} {dV kV doc pm cdv ct oc : Value} {an od : Option Addr} {osl : Array (Option Value)} {args : List Value} {binds : List (Str × Value)}
    (D : St z h₀ L m news s) (B : Gd w h₀) (hst : (cStatics, isStat z) ∈ news) (ho : (hd.heap_1 w.params).lookup f = some ⟨oc, od, .func (fnX name qual params body scope cl dV kV doc pm an cdv ct), osl⟩) (hcd : codeIn (hd.heap_1 w.params) cdv qual = true)
    (hroom : A.depth < recursionLimit) (hbind : ∀ S, peek (Kx w.params) S (bindArgs (fnX name qual params body scope cl dV kV doc pm an cdv ct) ⟨args, []⟩) = some binds) (hcell : (scope.names.all fun x => x.2 != .cell) = true) (hloc : (binds.all fun x => scope.names.lookup x.1 == some .local) = true) (hco : scope.isCoroutine = false) (hgen : scope.isGenerator = false) (hk : scope.kind = .function)
    (k : ∀ g₁ L' s₁ env, St z g₁ L' (bm binds fun _ => none) news s₁ → Gd w g₁ → EnvIs env L' scope.names → env = callEnv (fnX name qual params body scope cl dV kV doc pm an cdv ct) L' f → (∀ m₂ news₂ s₂, St z g₁ L' m₂ news₂ s₂ → St z h₀ L m news₂ s₂) →
      PySem.wpAt (model prog w) (A.deeper env) (.func body env) (execs body env) (fun fl s' => Q (match fl with | .ret v => v | _ => .none) s') (fun _ _ => False) s₁) :
    wpAny (model prog w) A (call (.ref f) args) Q E s :=
  enterG D B ho hcd hroom hcell hco hgen hk (kp_binds (D.X B) hbind _ _ _ _ ⟨news, D, hst, hloc, k⟩)
theorem St.weak {a : Addr} {P P' : Obj → Prop} (D : St z h₀ L m ((a, P) :: news) s) (h : ∀ o, P o → P' o) : St z h₀ L m ((a, P') :: news) s :=
  ⟨⟨D.led.fr, fun p hp => by
    rcases List.mem_cons.mp hp with rfl | hp
    · obtain ⟨⟨o, e, q⟩, r⟩ := D.led.nw _ (.head _)
      exact ⟨⟨o, e, h o q⟩, r⟩
    · exact D.led.nw p (.tail _ hp), D.led.ord⟩, D.dr, D.os, D.gb, D.tk⟩
theorem slc_from (vs : List Value) (i : Nat) (_hi : i ≤ vs.length) : (slicePick vs.toArray (some (i : Int)) none none).toList = vs.drop i := by
  rw [slicePick_from']
theorem slc_cut (vs : List Value) (i : Nat) (hi : i ≤ vs.length) : vs.toArray.extract 0 (sliceBounds (some (i : Int)) none none vs.length).1.toNat ++ ([] : List Value).toArray ++ vs.toArray.extract (max (sliceBounds (some (i : Int)) none none vs.length).1 (sliceBounds (some (i : Int)) none none vs.length).2.1).toNat vs.toArray.size = (vs.take i).toArray := by
  have e1 : (sliceBounds (some (i : Int)) none none vs.length) = ((i : Int), (vs.length : Int), (1 : Int)) := by
    simp [sliceBounds]; lia
  rw [e1]
  have e2 : (max (i : Int) (vs.length : Int)).toNat = vs.length := by rw [Int.max_eq_right (Int.ofNat_le.mpr hi), Int.toNat_natCast]
  simp only [Int.toNat_natCast, e2]
  apply Array.ext'
  simp
theorem slc_all (vs ws : List Value) : vs.toArray.extract 0 (sliceBounds none none none vs.length).1.toNat ++ ws.toArray ++ vs.toArray.extract (max (sliceBounds none none none vs.length).1 (sliceBounds none none none vs.length).2.1).toNat vs.toArray.size = ws.toArray := by
  have e1 : (sliceBounds none none none vs.length) = ((0 : Int), (vs.length : Int), (1 : Int)) := by simp [sliceBounds]
  rw [e1]
  have e2 : (max (0 : Int) (vs.length : Int)).toNat = vs.length := by rw [Int.max_eq_right (Int.natCast_nonneg _), Int.toNat_natCast]
  simp only [e2]
  apply Array.ext'
  simp
theorem slc_head (vs ws : List Value) : vs.toArray.extract 0 (sliceBounds none (some 0) none vs.length).1.toNat ++ ws.toArray ++ vs.toArray.extract (max (sliceBounds none (some 0) none vs.length).1 (sliceBounds none (some 0) none vs.length).2.1).toNat vs.toArray.size = (ws ++ vs).toArray := by
  have e1 : (sliceBounds none (some 0) none vs.length) = ((0 : Int), (0 : Int), (1 : Int)) := by simp [sliceBounds]; lia
  rw [e1]
  apply Array.ext'
  simp
theorem St.ne {a b : Addr} {P P' : Obj → Prop} (D : St z h₀ L m news s) (h1 : (a, P) ∈ news) (h2 : (b, P') ∈ news) (h : ∀ o, P o → P' o → False) : a ≠ b := by
  rintro rfl
  refine Mine.e1_2 (D.get h1) ?_
  intro o e p
  refine Mine.e1_2 (D.get h2) ?_
  intro o' e' p'
  rw [e] at e'; cases e'
  exact h o p p'
theorem accLst {dx : Addr} {vs ws : List Value} : ∀ o, isAcc dx vs o → isLst ws o → False := fun o ⟨n, e⟩ ⟨n', e'⟩ => by rw [e] at e'; cases e'
end
end Mine
end

section
open PySem PySem.W PySem.W.X PyProof.Rows PySem.Calls
open Builtin
set_option maxRecDepth 100000
set_option maxHeartbeats 1000000
namespace Mine
theorem GenX.tok {prog : Program} {w : World} {A : Around} {h₀ : Heap} {L : Addr} {news : List Ent} {a : Addr} {n : Nat} {F : Nat → Value → Prop} {s : Shared} (X : GenX prog w A h₀ L news a n F s) : GenX prog w A h₀ L news a n F { s with toks := s.toks + 1 } := by
  refine Mine.e4_6 X ?_
  try clear X
  intro fp wr g S W hS h1 h2 h3 h4
  exact Mine.I4 fp wr g S (Mine.a6 W (W.frame 0 s s.heap (s.toks + 1) hS (Nat.le_succ _) (fun b _ o e => e)) h1 h2 h3 h4)
theorem accTab {dx : Addr} {vs : List Value} : ∀ o, isAcc dx vs o → isTab o → False := fun o ⟨n, e⟩ ⟨ps, e', _⟩ => by rw [e] at e'; cases e'
section
variable {w : World} {z : Shared} {prog : Program} {A : Around} {E : Value → Shared → Prop} {h₀ : Heap} {s : Shared} {L : Addr} {m : Str → Option Value} {news : List Ent} {env : Env} {names : List (Str × NameKind)} {Q : Value → Shared → Prop}
theorem k0NmB {t s : Shared} {C : Addr} {x : Str} {pos : Pos} {v : Value} (K : K0 h₀ t C m s) (B : Gd w h₀) (hE : EnvIs env C names) (hl : names.lookup x = some .globalImplicit) (e : nsIn (hd.heap_1 w.params) mainGlobals x = some none) (hb : bootBuiltins x = some v) (hn : (x == ("__name__" : Str)) = false) (h : Q v s)
    (hd : (x == ("__debug__" : Str)) = false) : wpAny (model prog w) A (eval (.Name x pos) env) Q E s := by
  obtain ⟨mg, hg⟩ := B.gl
  refine Mine.e1_2 (B.bn) ?_
  intro mb hmb hf
  exact Calls.Name_function_global hE.kind (by rw [Env.kindOf, hE.nm]; exact hl) (Calls.loadGlobal_builtin (env := env) (by rw [hE.gl]; exact hg.keeps K.hb) (mg_none_of B.X hg (kx_ns e)) (by rw [hE.bn]; exact hmb.keeps K.hb) ((hf x (fun q => by rw [q] at hn; simp at hn)).trans hb) h) hd
theorem k0NmG {t s : Shared} {C : Addr} {x : Str} {pos : Pos} {v : Value} (K : K0 h₀ t C m s) (B : Gd w h₀) (hE : EnvIs env C names) (hl : names.lookup x = some .globalImplicit) (e : nsIn (hd.heap_1 w.params) mainGlobals x = some (some v)) (h : Q v s)
    (hd : (x == ("__debug__" : Str)) = false) : wpAny (model prog w) A (eval (.Name x pos) env) Q E s := by
  obtain ⟨mg, hg⟩ := B.gl
  exact Calls.Name_function_global hE.kind (by rw [Env.kindOf, hE.nm]; exact hl) (Calls.loadGlobal_global (env := env) (by rw [hE.gl]; exact hg.keeps K.hb) (mg_of B.X hg (kx_ns e)) h) hd
theorem prs_vals {vs : List Value} {ps : List (Str × Str)} (D : St z h₀ L m news s) (hp : Prs news vs ps) : ∃ (Ts : Nat → Addr) (vals : Nat → Array Value), (∀ j, j < vs.length → vs[j]? = some (.ref (Ts j)) ∧ s.heap.IsTuple (Ts j) (vals j) ∧ (∃ P, (Ts j, P) ∈ news) ∧ ∃ p t u, ps[j]? = some p ∧ vals j = #[.str p.1 t, .str p.2 u]) := by
  have key : ∀ j, ∃ (T : Addr) (vl : Array Value), j < vs.length → (vs[j]? = some (.ref T) ∧ s.heap.IsTuple T vl ∧ (∃ P, (T, P) ∈ news) ∧ ∃ p t u, ps[j]? = some p ∧ vl = #[.str p.1 t, .str p.2 u]) := by
    intro j
    by_cases hj : j < vs.length
    · have hl := hp.length
      have zh1 := hp.get j ps[j] (List.getElem?_eq_getElem (by lia))
      refine Mine.e1_2 zh1 ?_
      try clear zh1
      intro a ha hm
      obtain ⟨o, ho, n, t, u, rfl⟩ := D.get hm
      exact ⟨a, _, fun _ => ⟨ha, ⟨_, ho, rfl, n, rfl⟩, ⟨_, hm⟩, ps[j], t, u, List.getElem?_eq_getElem _, rfl⟩⟩
    · exact ⟨0, #[], fun h => absurd h hj⟩
  refine ⟨fun j => Classical.choose (key j), fun j => Classical.choose (Classical.choose_spec (key j)), fun j hj => ?_⟩
  exact Classical.choose_spec (Classical.choose_spec (key j)) hj
/- a generator expression over the pairs of a made object, made -/
theorem rGenP {elt : Expr} {xs xa xb : Str} {ps' pa pb pt : Pos} {kt : Nat} {scope : Scope} {pos : Pos} {c Pt a ad : Addr} {vs : List Value} {ps : List (Str × Str)} (F : Nat → Value → Prop)
    (D : St z h₀ L m news s) (B : Gd w h₀) (hE : EnvIs env L names) (hcode : env.code = .ref c) (hcd : CodeHd h₀ c Pt) (hh : A.handled = none) (hroom : A.depth < recursionLimit) (hclos : closureFor scope env = pure [])
    (hco : scope.isCoroutine = false) (hcell : (scope.names.all fun x => x.2 != .cell) = true) (h0 : scope.names.lookup (".0" : Str) = some NameKind.local) (hxa : scope.names.lookup xa = some .local) (hxb : scope.names.lookup xb = some .local) (hab : (xa == xb) = false) (hkind : scope.kind = .function)
    (hs : ∀ x, genFold (.Name xs ps') env x = pure x) (hself : wpAny (model prog w) A (eval (.Name xs ps') env) (fun v s' => v = .ref a ∧ s' = s) E s)
    (hPt : (Pt, isTab) ∈ news) (hst : (cStatics, isStat z) ∈ news) (hx : (a, isAcc ad vs) ∈ news) (hp : Prs news vs ps)
    (hel : ∀ C cenv (A' : Around) E' i p t u (tt : Shared) m₂, A'.handled = none → EnvIs cenv C scope.names → ps[i]? = some p → K0 h₀ tt C m₂ tt → m₂ xa = some (.str p.1 t) → m₂ xb = some (.str p.2 u) → wpAny (model prog w) A' (eval elt cenv) (fun y s₃ => F i y ∧ K0 h₀ tt C m₂ s₃) E' tt)
    (hQ : ∀ g s', St z h₀ L m news s' → GenX prog w A h₀ L news g ps.length F s' → Q (.ref g) s') :
    wpAny (model prog w) A (eval (.GeneratorExp elt [⟨.Tuple [.Name xa pa, .Name xb pb] kt pt, .Name xs ps', [], 0⟩] scope pos) env) Q E s := by
  refine rGenT D B hE hcode hcd hh hroom hclos hco hcell h0 hxa hxb hab hkind (wpAny_mono hself (fun v s₁ q => ?_) fun _ _ e => e) hs
  obtain ⟨rfl, rfl⟩ := q
  refine rIterA D B hx fun s₂ hs₂ => ?_
  subst hs₂
  refine Mine.e2_1 (prs_vals D hp) ?_
  intro Ts vals hv
  have hlen := hp.length
  have ha := D.ltB hx
  have D₂ := D.keeps (h' := s₁.heap.push { cls := .type "list_iterator", data := .fields #[.ref a, .int 0 0] }) s₁.toks fun b o e => Heap.get?_push_of_some _ e
  have hTs : ∀ j, j < vs.toArray.size → Ts j ≠ s₁.heap.objs.size := fun j hj => by
    have zh2 := hv j (by simpa using hj)
    refine Mine.e0_3 zh2 ?_
    try clear zh2
    intro zu3 zn4 zu5
    refine Mine.e1_2 zn4 ?_
    try clear zn4
    intro o e zu6
    exact Nat.ne_of_lt (Heap.lt_size e)
  have e : vs.toArray.size = ps.length := by simpa using hlen
  have W : ∀ A' : Around, A'.handled = none → _ := fun A' hA' => Walks.seqPairs (prog := prog) (w := w) hA' s₁.heap.objs.size a (Nat.ne_of_lt ha) vs.toArray Ts vals (fun j hj => by simpa using (hv j (by simpa using hj)).1) hTs
  refine Mine.I9 news s₁.heap.objs.size _ _ vs.toArray.size _ _ _ F (Mine.a12 rfl D₂ hPt hst W ?_ ?_ ?_ ?_ ?_ ?_ (fun g s' Ds X => hQ g s' Ds (e ▸ X)))
  · rintro i vl ⟨hi, rfl⟩
    have zh8 := hv i (by lia)
    obtain ⟨_, _, _, p, t, u, _, e⟩ := zh8
    exact ⟨_, _, e⟩
  · exact ⟨⟨_, Heap.get?_push_size _ rfl, rfl, rfl⟩, let ⟨o, ho, n, e⟩ := D₂.get hx; ⟨o, ho, n, by rw [e]⟩, fun k hk => by
      have zh9 := hv k (by simpa using hk)
      refine Mine.e0_3 zh9 ?_
      try clear zh9
      intro zu10 zn11 zu12
      refine Mine.e1_2 zn11 ?_
      try clear zn11
      intro o ho r
      exact ⟨o, Heap.get?_push_of_some _ ho, r⟩⟩
  · intro b hb
    show b < (s₁.heap.push _).objs.size
    rw [Heap.size_push]
    rcases List.mem_cons.mp hb with rfl | hb
    · exact Nat.lt_succ_self _
    · rcases List.mem_cons.mp hb with rfl | hb
      · exact Nat.lt_succ_of_lt ha
      · refine Mine.e1_2 (List.mem_map.mp hb) ?_
        intro k hk zq13
        subst zq13
        have zh14 := hv k (by simpa using hk)
        refine Mine.e0_3 zh14 ?_
        try clear zh14
        intro zu15 zn16 zu17
        refine Mine.e1_2 zn16 ?_
        try clear zn16
        intro o ho r
        exact Nat.lt_succ_of_lt (Heap.lt_size ho)
  · intro hb
    have h53 := D.ltB hPt
    rcases List.mem_cons.mp hb with e | hb
    · exact absurd h53 (by rw [e]; exact Nat.lt_irrefl _)
    · rcases List.mem_cons.mp hb with e | hb
      · exact D.ne hx hPt accTab e.symm
      · refine Mine.e1_2 (List.mem_map.mp hb) ?_
        intro k hk e
        have zh18 := hv k (by simpa using hk)
        refine Mine.e0_3 zh18 ?_
        try clear zh18
        intro zu19 zn20 zu21
        refine Mine.e1_3 zn20 ?_
        try clear zn20
        intro o ho hc zu22
        obtain ⟨o', ho', tr, rfl, _⟩ := D.get hPt
        rw [e] at ho
        rw [ho] at ho'; cases ho'; cases hc
  · intro b hb
    rw [List.mem_singleton.mp hb]
    exact D.freshB (Nat.le_refl _)
  · rintro C cenv A' E' i va vb tt m₂ hA' hE' ⟨hi, e⟩ K ha hb
    have zh24 := hv i (by lia)
    obtain ⟨_, _, _, p, t, u, hpi, e'⟩ := zh24
    rw [e'] at e
    simp only [Array.mk.injEq, List.cons.injEq, and_true] at e
    obtain ⟨rfl, rfl⟩ := e
    exact hel C cenv A' E' i p t u tt m₂ hA' hE' hpi K ha hb
end
end Mine
end

section
open PySem PySem.W PySem.W.X PyProof.Rows PySem.Calls
open Builtin
set_option maxRecDepth 100000
set_option maxHeartbeats 1000000
namespace Mine
theorem sp_len (P : Params) : findIn (Kx P) (.ref 220) "__len__" = some (some (.ref 187)) := by kernel_rfl
theorem sp_str (P : Params) : findIn (Kx P) (.ref 220) "__str__" = some (some (.ref 194)) := by kernel_rfl
theorem sp_bool (P : Params) : findIn (Kx P) (.ref 220) "__bool__" = some none := by kernel_rfl
theorem isfn187 (P : Params) : isFn (Kx P) (.ref 187) = true := by kernel_rfl
theorem isfn194 (P : Params) : isFn (Kx P) (.ref 194) = true := by kernel_rfl
theorem iteT' {b : Bool} {P R : Prop} (h : b = true) (p : P) : if b = true then P else R := by rw [if_pos h]; exact p
theorem iteF' {b : Bool} {P R : Prop} (h : b = false) (p : R) : if b = true then P else R := by rw [if_neg (by rw [h]; decide)]; exact p
section
variable {w : World} {z : Shared} {prog : Program} {A : Around} {E : Value → Shared → Prop} {h₀ : Heap} {s : Shared} {L : Addr} {m : Str → Option Value} {news : List Ent} {x dx : Addr} {vs : List Value} {kvs : List (Str × Value)} {Q : Value → Shared → Prop}
/- len of a made object: what its own __len__ says -/
theorem rLenI {n : Int} (D : St z h₀ L m news s) (B : Gd w h₀) (hx : (x, isAcc dx vs) ∈ news) (hd : (dx, isDct w.params kvs) ∈ news) (hn : 0 ≤ n ∧ n ≤ 1000000000)
    (h : wpAny (model prog w) A.in1 (call (.ref 187) [.ref x]) (fun v s' => ∃ t, v = .int n t ∧ St z h₀ L m news s') (fun _ _ => False) s) (hQ : ∀ t s', St z h₀ L m news s' → Q (.int n t) s') : wpAny (model prog w) A (call (.builtin "len") [.ref x]) Q E s := by
  refine Mine.e3_2 (D.acc hx hd) ?_
  intro nn es k I hk
  refine len_K D.led.fr B.X I (sp_len _) (isfn187 _) (wpAny_mono h (fun v s' q => ?_) fun _ _ q => q.elim)
  refine Mine.e1_2 q ?_
  try clear q
  intro t zq1 D'
  subst zq1
  exact ⟨⟨hn.1, by lia⟩, hQ _ _ (D'.tok _)⟩
theorem rStrI (hu : A.in1.in1.units < cLine) (D : St z h₀ L m news s) (B : Gd w h₀) (hx : (x, isAcc dx vs) ∈ news) (hd : (dx, isDct w.params kvs) ∈ news) {P : Str → Prop}
    (h : ∀ A' : Around, A'.depth = A.depth → A'.handled = A.handled → wpAny (model prog w) A' (call (.ref 194) [.ref x]) (fun v s' => ∃ y t, v = .str y t ∧ P y ∧ St z h₀ L m news s') (fun _ _ => False) s) (hQ : ∀ y t s', P y → St z h₀ L m news s' → Q (.str y t) s') : wpAny (model prog w) A (call (.type "str") [.ref x]) Q E s := by
  refine Mine.e3_2 (D.acc hx hd) ?_
  intro nn es k I hk
  refine kso_call hu (D.X B) I (sp_str _) (isfn194 _) ?_
  refine wpAny_mono (h _ rfl rfl) (fun v s' q => ?_) fun _ _ q => q.elim
  refine Mine.e2_3 q ?_
  try clear q
  intro y t zq2 hy D'
  subst zq2
  exact hQ y t s' hy D'
/- the truth of a made object: what its own __len__ says -/
theorem rTruI {n : Int} {Q : Bool → Shared → Prop} (D : St z h₀ L m news s) (B : Gd w h₀) (hx : (x, isAcc dx vs) ∈ news) (hd : (dx, isDct w.params kvs) ∈ news) (hn : 0 ≤ n ∧ n ≤ 1000000000)
    (h : wpAny (model prog w) A.in1 (call (.ref 187) [.ref x]) (fun v s' => ∃ t, v = .int n t ∧ St z h₀ L m news s') (fun _ _ => False) s) (hQ : ∀ s', St z h₀ L m news s' → Q (n != 0) s') : wpAny (model prog w) A (truthy (.ref x)) Q E s := by
  refine Mine.e3_2 (D.acc hx hd) ?_
  intro nn es k I hk
  have X := D.X B
  unfold truthy
  refine wpAny_bind (m := callSpecial? (.ref x) (Str.ofString "__bool__")) (wpAny_bind (wpAny_bind (I.type.here ((looks_findIn X (sp_bool _)).here (wpAny_pure ?_)))))
  refine wpAny_bind (wpAny_bind (I.type.here ((looks_findIn X (sp_len _)).here ?_)))
  show wpAny _ _ (if (some (Value.ref 187)).isNone = true then _ else _) _ _ _
  rw [if_neg (by simp)]
  refine wpAny_bind (wpAny_runValue (codeAny_builtin (b := Builtin.«len») entry_len ?_))
  rw [Around.under_plainId plain_len]
  unfold Builtin.«len»
  refine wpAny_bind (m := oneArg "len" _) (wpAny_pure ?_)
  refine wpAny_bind (m := callSpecial? (.ref x) (Str.ofString "__len__")) (special_fn X I (sp_len _) (beq_iff_eq.mp (isfn187 _)) (wpAny_mono h (fun r s' hr => ?_) fun _ _ y => y.elim))
  refine Mine.e1_2 hr ?_
  try clear hr
  intro t zq3 D'
  subst zq3
  refine wpAny_bind (wpAny_holding (wpAny_pure ?_))
  refine wpAny_bind (wpAny_letGo ?_)
  show wpAny _ _ (if n < 0 then _ else _) _ _ _
  rw [if_neg (by lia)]
  show wpAny _ _ (if n ≥ 2 ^ 63 then _ else _) _ _ _
  rw [if_neg (by lia)]
  refine wpAny_bind (wpAny_mkInt (wpAny_pure ?_))
  exact wpAny_pure (hQ _ (D'.tok _))
end
end Mine
end

section
open PySem PySem.W PySem.W.X PyProof.Rows PySem.Calls
open Builtin
set_option maxRecDepth 100000
set_option maxHeartbeats 1000000
namespace Mine
section
variable {w : World} {z : Shared} {prog : Program} {A : Around} {E : Value → Shared → Prop} {h₀ : Heap} {s : Shared} {L : Addr} {m : Str → Option Value} {news : List Ent} {x y : Str} {Q : Value → Shared → Prop}
theorem tup_shaped (x y : Str) (hx : PyData.strOk x = true) (hy : PyData.strOk y = true) : SeqAt.shaped (.tuple [.str x, .str y]) = true := by
  unfold SeqAt.shaped
  simp [PyData.canLay0, PyData.canLayAll0, PyData.depth, PyData.depthAll, hx, hy]
theorem rNeP {T U : Addr} {t u : Tok} {p q : Str} (D : St z h₀ L m news s) (hT : (T, isPr (x, y)) ∈ news) (hU : (U, isTpl [.str p t, .str q u]) ∈ news) (hx : PyData.strOk x = true) (hy : PyData.strOk y = true) (hp : PyData.strOk p = true) (hq : PyData.strOk q = true) (hu : A.units + 64 < cLine)
    (h : Q (.bool (!((x == p) && (y == q)))) s) : wpAny (model prog w) A (compareOp .NotEq (.ref T) (.ref U)) Q E s := by
  obtain ⟨o, ho, n, t1, t2, rfl⟩ := D.get hT
  obtain ⟨o', ho', n', rfl⟩ := D.get hU
  refine ne_dataH (da := .tuple [.str x, .str y]) (db := .tuple [.str p, .str q]) (reads_tuple_at ho rfl rfl (.cons (.str _ _) (.cons (.str _ _) .nil))) (reads_tuple_at ho' rfl rfl (.cons (.str _ _) (.cons (.str _ _) .nil))) (tup_shaped _ _ hx hy) (tup_shaped _ _ hp hq) hu ?_
  have e : PyData.eqv (.tuple [.str x, .str y]) (.tuple [.str p, .str q]) = ((x == p) && (y == q)) := by simp [PyData.eqv, PyData.eqvAll]
  rw [e]; exact h
theorem St.fix {a : Addr} {P : Obj → Prop} (D : St z h₀ L m ((a, P) :: news) s) : ∃ o, P o ∧ St z h₀ L m ((a, fun o' => o' = o) :: news) s := by
  refine Mine.e1_2 (D.get (.head _)) ?_
  intro o ho hp
  refine ⟨o, hp, ⟨⟨D.led.fr, fun p hp => ?_, D.led.ord⟩, D.dr, D.os, D.gb, D.tk⟩⟩
  rcases List.mem_cons.mp hp with rfl | hp
  · exact ⟨⟨o, ho, rfl⟩, (D.led.nw _ (.head _)).2⟩
  · exact D.led.nw p (.tail _ hp)
theorem tpl_of {t u : Tok} {n : Nat} : ∀ o, o = ({ cls := .type "tuple", data := .seq #[.str x t, .str y u] n } : Obj) → isTpl [.str x t, .str y u] o := fun o e => ⟨n, e⟩
/- the items of a list, starred -/
theorem rStarL {e : Expr} {env : Env} {pp pos : Pos} {f : Addr} {first : List Value} {Q : Value → Shared → Prop} {m₀ : Str → Option Value} {news₀ : List Ent} (_D : St z h₀ L m₀ news₀ s) (B : Gd w h₀) (hf : keepIn (Kx w.params) (.ref f) = true)
    (h : wpAny (model prog w) A (eval e env) (fun v s₁ => ∃ a vs m news, v = .ref a ∧ St z h₀ L m news s₁ ∧ (a, isLst vs) ∈ news ∧ vs.length ≤ sizeLine ∧ ∀ s₂, St z h₀ L m news s₂ → wpAny (model prog w) A (call (.ref f) (first ++ vs)) Q E s₂) E s)
    (he : starEach [.Starred e pp] env = [(true, eval e env)]) : wpAny (model prog w) A (callWith pos (.ref f) first (backTo pos (starEach [.Starred e pp] env)) []) Q E s := by
  rw [he]
  refine ks_call rfl (P := (Kx w.params).In) (fun h X => keeps_fn hf X) (ks_lone (wpAny_mono h (fun v s₁ q => ?_) fun _ _ q => q))
  refine Mine.E4 q ?_
  try clear q
  intro a vs m news zk8
  refine Mine.e0_5 zk8 ?_
  clear zk8
  intro zq2 D ha hz hQ
  subst zq2
  obtain ⟨n, ho⟩ := D.lst ha
  have hT' : s₁.TypeIs (.ref a) "list" := ⟨_, ho, rfl⟩
  have zz : wpAny (model prog w) A (collect (.ref a)) (fun vs s₂ => (Kx w.params).In s₂.heap ∧ wpAny (model prog w) A (call (.ref f) (first ++ (⟨vs, []⟩ : Args).pos) (⟨vs, []⟩ : Args).kw) Q E s₂) E s₁ := by
    refine wpAny_collect_seq a (.inl rfl) ho rfl rfl (fun h' hk' => ?_) (by simpa using hz)
    have D' := D.keeps (h' := h') s₁.toks hk'
    exact ⟨D'.X B, by simpa using hQ _ D'⟩
  unfold StarOf notIterableAtAll
  exact wpAny_bind (wpAny_specialOf hT' PySem.F.slot_list_iter.lookup (wpAny_pure ⟨rfl, zz⟩))
end
/- the attributes of a _ValueFormatter -/
noncomputable abbrev vfK (mx : Int) (sp : Str) (la a : Addr) (t1 t2 t3 t4 : Tok) : List (Str × Value) := [(Str.ofString "_maxlen", .int mx t1), (Str.ofString "_continuation_ws", .str (Str.ofString " ") t2), (Str.ofString "_continuation_ws_len", .int 1 t3), (Str.ofString "_splitchars", .str sp t4), (Str.ofString "_lines", .ref la), (Str.ofString "_current_line", .ref a)]
noncomputable def GoodT (p : Str × Str) : Prop := p.1.length ≤ 1000 ∧ p.2.length ≤ 1000 ∧ PyData.strOk p.1 = true ∧ PyData.strOk p.2 = true
noncomputable def GoodP (p : Str × Str) : Prop := GoodT p ∧ ∃ c ∈ p.2.cps.toList, Unicode.isSpace c = false
end Mine
end

section
open PySem PySem.W PySem.W.X PyProof.Rows PySem.Calls
open Builtin Builtin.ObjectAttr
set_option maxRecDepth 100000
set_option maxHeartbeats 1000000
namespace Mine
/- a bound method made (a call with a star does not take the method form) -/
noncomputable def isMth (f x : Addr) : Obj → Prop := fun o => o = methodObj (.ref f) (.ref x)
theorem get164 (P : Params) : specialIn (Kx P) (.ref 164) "__get__" = some (some (.builtin "function.__get__")) := by kernel_rfl
theorem tak164 (P : Params) : takesIn (Kx P) (.ref 164) = some false := by kernel_rfl
theorem ty164 (P : Params) : typeIn (Kx P) (.ref 164) = some (.type "function") := by kernel_rfl
section
variable {w : World} {z : Shared} {prog : Program} {A : Around} {E : Value → Shared → Prop} {h₀ : Heap} {s : Shared} {L : Addr} {m : Str → Option Value} {news : List Ent} {x dx : Addr} {vs : List Value} {kvs : List (Str × Value)} {env : Env}
theorem fnGet {f : Addr} {c : Value} {Q : Value → Shared → Prop} (D : St z h₀ L m news s) (hT : s.TypeIs (.ref f) "function") (h : ∀ q s', St z h₀ L m ((q, isMth f x) :: news) s' → Q (.ref q) s') :
    wpAny (model prog w) A (call (.builtin "function.__get__") [.ref f, .ref x, c]) Q E s := by
  refine wpAny_call_entry F.ks_slot_function_get hT F.ks_entry_function_get ?_ (F.ks_getArgs_function _ _ _)
  have fin := h s.heap.objs.size _ (D.on (s := s) s.toks (D.led.push (o := methodObj (.ref f) (.ref x)) (P := isMth f x) rfl rfl) D.tk)
  obtain ⟨hh, g, d, t, os⟩ := s
  unfold Builtin.«function.__get__»
  repeat (first | wp_step | dsimp only)
  all_goals exact ⟨_, rfl, fin⟩
theorem rGetM {expr : Bool} {Q : Value → Shared → Prop} (D : St z h₀ L m news s) (B : Gd w h₀) (hx : (x, isAcc dx vs) ∈ news) (hd : (dx, isDct w.params kvs) ∈ news) (hl : getK (Str.ofString "push") kvs = none)
    (h : ∀ q s', St z h₀ L m ((q, isMth 164 x) :: news) s' → Q (.ref q) s') : wpAny (model prog w) A (getAttr (.ref x) (Str.ofString "push") expr) Q E s := by
  refine Mine.e3_2 (D.acc hx hd) ?_
  intro n es k I hk
  have X := D.X B
  have hlk : lookIn (Str.ofString "push") (dictOf es k) = some none := by rw [lookIn_dict, hk.get, hl]
  refine Mine.e1_3 (cls220 w.params) ?_
  intro cd hcd hh2 hmro
  have hf : findObj (Kx w.params) 220 (some (dictOf es k)) (Str.ofString "push") = some (.bind (.builtin "function.__get__") (.ref 164)) := by
    unfold findObj
    have ho : W.ownOf cd (some (dictOf es k)) (Str.ofString "push") = some none := by unfold W.ownOf; rw [if_pos hh2]; exact hlk
    have hcn : copiedNames.contains (Str.ofString "push") = false := by decide +kernel
    rw [hcd, Option.bind_some, fA_push w.params, Option.bind_some]
    simp only [get164 w.params, tak164 w.params, Option.bind_some, ho, hcn, Bool.false_and, Bool.false_eq_true, if_false]
  have hTf : s.TypeIs (.ref 164) "function" := by
    have ht' : ((Kx w.params).lookup 164).map (·.cls) = some (.type "function") := ty164 w.params
    cases z : (Kx w.params).lookup 164 with
    | none => rw [z] at ht'; cases ht'
    | some of => rw [z] at ht'; exact ⟨of, X _ _ z, Option.some.inj ht'⟩
  have D' := D.tok (s.toks + 1)
  obtain ⟨hh, g, d, t, os⟩ := s
  have L0 := I.type (M := model prog w)
  have L1 := looks_findIn (M := model prog w) X (ga220 w.params)
  have L2 := looks_findIn (M := model prog w) X (gx220 w.params)
  have L3 := looks_find (M := model prog w) X I hf
  unfold getAttr getAttrBy
  refine wpAny_bind (wpAny_mkText (wpAny_holding (wpAny_bind (L0.at (wpAny_bind (L1.at ?_))))))
  dsimp only
  rw [if_neg notObj]
  unfold getAttrByItsOwn hookBefore callGetattribute boundAndCalled
  refine wpAny_bind (wpAny_mono (Q := fun b s' => b = none ∧ s' = (⟨hh, g, d, t + 1, os⟩ : Shared)) (L2.at ⟨rfl, rfl⟩) (fun b s' q => ?_) fun _ _ z => z)
  obtain ⟨rfl, rfl⟩ := q
  refine wpAny_bind (wpAny_attempt (wpAny_holding ?_))
  rw [show (expr && onTheHeap (.builtin "list.__getattribute__")) = false from Bool.and_false _, if_neg (by decide)]
  refine wpAny_bind (wpAny_of_eq (bind_list_ga _) ?_)
  have hsub : Looks (model prog w) hh (isInstance (.ref x) (.type "list")) true := sub220 X I "list" (sl220 w.params)
  show wpAny _ _ (call (.builtin "list.__getattribute__") [.ref x, .str (Str.ofString "push") t]) _ _ _
  refine wpAny_call (codeAny_call_builtin plain_list_ga entry_list_ga ?_)
  refine @check_slot (model prog w) _ _ ⟨hh, g, d, t + 1, os⟩ "list.__getattribute__" "list" "__getattribute__" (.ref x) [.str (Str.ofString "push") t] [] _ kind_list_ga split_list_ga hsub (args_list_ga (.ref x) (.str (Str.ofString "push") t)) ?_
  unfold Builtin.«object.__getattribute__»
  refine wpAny_bind (wpAny_of_eq (slotArgs_ga _ _) ?_)
  refine wpAny_bind (wpAny_of_eq (attrName_str (Str.ofString "push") t) ?_)
  refine wpAny_bind (L0.at (wpAny_bind (L3.at ?_)))
  show wpAny _ _ (holding [.ref 164] (call (.builtin "function.__get__") [.ref 164, .ref x, .ref 220]) >>= ret) _ _ _
  refine wpAny_bind (wpAny_holding (fnGet (s := ⟨hh, g, d, t + 1, os⟩) D' hTf fun q s' Dq => wpAny_pure ?_))
  show wpAny _ _ (handedOut (.ref q)) _ _ _
  exact wpAny_pure (h q s' Dq)
/- a call by an attribute, its arguments starred -/
theorem xMethS {o : Expr} {name : Str} {apos pos : Pos} {args : List Expr} {Q : Value → Shared → Prop}
    (h : wpAny (model prog w) A (eval o env) (fun ov s₁ => wpAny (model prog w) A (getAttr ov name true) (fun f s₂ => wpAny (model prog w) A (callWith pos f [] (backTo pos (starEach args env)) []) Q E s₂) E s₁) E s)
    (hb : attributeBase o name env (eval o env) = eval o env) (hf : methodCallForm (args.length + ([] : List Keyword).length) (backTo pos (starEach args env)) (backToKw pos (keywordEach [] env)) = false) :
    wpAny (model prog w) A (eval (.Call (.Attribute o name apos) args [] pos) env) Q E s := by
  rw [arm_eval_Call, hb]
  refine wpAny_bind (wpAny_mono h (fun ov s₁ h₁ => wpAny_bind (wpAny_standAt ?_)) fun _ _ x => x)
  unfold methodCall calleeOf methodCallPos
  rw [hf]
  refine wpAny_bind (wpAny_holding (wpAny_bind (wpAny_mono h₁ (fun f s₂ h₂ => ?_) fun _ _ x => x)))
  refine wpAny_pure ?_
  exact wpAny_bind (wpAny_pure h₂)
/- a bound method called with a pair, starred -/
theorem rStarM {e : Expr} {pp pos : Pos} {q f y : Addr} {Q : Value → Shared → Prop} {m₀ : Str → Option Value} {news₀ : List Ent} (_D₀ : St z h₀ L m₀ news₀ s) (B : Gd w h₀) (hf : fnIn (Kx w.params) f = true) 
    (h : wpAny (model prog w) A (eval e env) (fun v s₁ => ∃ a p m news, v = .ref a ∧ St z h₀ L m news s₁ ∧ (q, isMth f y) ∈ news ∧ (a, isPr p) ∈ news ∧ ∀ t u s₂, St z h₀ L m news s₂ → codeAny (model prog w) A (.call (.ref f) ⟨[.ref y, .str p.1 t, .str p.2 u], []⟩) (fun r s' => match r with | .ok (.ret v) => Q v s' | .ok _ => False | .error e => E e s') s₂) E s)
    (he : starEach [.Starred e pp] env = [(true, eval e env)]) : wpAny (model prog w) A (callWith pos (.ref q) [] (backTo pos (starEach [.Starred e pp] env)) []) Q E s := by
  rw [he]
  refine ks_call rfl (P := MethP (Kx w.params) q f (.ref y)) (fun h X => keeps_M hf h X) (ks_lone (wpAny_mono h (fun v s₁ qq => ?_) fun _ _ q => q))
  refine Mine.E4 qq ?_
  try clear qq
  intro a p m news zk6
  refine Mine.e0_5 zk6 ?_
  clear zk6
  intro zq1 D hq ha hQ
  subst zq1
  obtain ⟨o, ho, n, t, u, rfl⟩ := D.get ha
  have hT' : s₁.TypeIs (.ref a) "tuple" := ⟨_, ho, rfl⟩
  have zz : wpAny (model prog w) A (collect (.ref a)) (fun vs s₂ => MethP (Kx w.params) q f (.ref y) s₂.heap ∧ wpAny (model prog w) A (call (.ref q) ([] ++ (⟨vs, []⟩ : Args).pos) (⟨vs, []⟩ : Args).kw) Q E s₂) E s₁ := by
    refine wpAny_collect_seq a (.inr rfl) ho rfl rfl (fun h' hk' => ?_) (by rw [sizeLine_eq]; simp)
    have D' := D.keeps (h' := h') s₁.toks hk'
    refine Mine.e1_2 (D'.get hq) ?_
    intro oq hoq zq2
    subst zq2
    refine ⟨⟨hoq, D'.X B⟩, wpAny_call (ks_codeAny_call_bound hoq ?_)⟩
    exact hQ t u _ D'
  unfold StarOf notIterableAtAll
  exact wpAny_bind (wpAny_specialOf hT' PySem.F.slot_tuple_iter.lookup (wpAny_pure ⟨rfl, zz⟩))
variable {L' : Addr}
/- as enterP, told as a code -/
theorem enterPC {f : Addr} {name qual : Str} {params : Arguments} {body : List Stmt} {scope : Scope} {cl : List (Str × Addr)} {dV kV doc pm cdv ct oc : Value} {an od : Option Addr} {osl : Array (Option Value)} {args : List Value} {binds : List (Str × Value)} {Q : Value → Shared → Prop}
    (D : St z h₀ L m news s) (B : Gd w h₀) (hst : (cStatics, isStat z) ∈ news) (ho : (hd.heap_1 w.params).lookup f = some ⟨oc, od, .func (fnX name qual params body scope cl dV kV doc pm an cdv ct), osl⟩) (hcd : codeIn (hd.heap_1 w.params) cdv qual = true)
    (hroom : A.depth < recursionLimit) (hbind : ∀ S, peek (Kx w.params) S (bindArgs (fnX name qual params body scope cl dV kV doc pm an cdv ct) ⟨args, []⟩) = some binds) (hcell : (scope.names.all fun x => x.2 != .cell) = true) (hloc : (binds.all fun x => scope.names.lookup x.1 == some .local) = true) (hco : scope.isCoroutine = false) (hgen : scope.isGenerator = false) (hk : scope.kind = .function)
    (k : ∀ g₁ L' s₁ env, St z g₁ L' (bm binds fun _ => none) news s₁ → Gd w g₁ → EnvIs env L' scope.names → env = callEnv (fnX name qual params body scope cl dV kV doc pm an cdv ct) L' f → (∀ m₂ news₂ s₂, St z g₁ L' m₂ news₂ s₂ → St z h₀ L m news₂ s₂) →
      PySem.wpAt (model prog w) (A.deeper env) (.func body env) (execs body env) (fun fl s' => Q (match fl with | .ret v => v | _ => .none) s') (fun _ _ => False) s₁) :
    codeAny (model prog w) A (.call (.ref f) ⟨args, []⟩) (fun r s' => match r with | .ok (.ret v) => Q v s' | .ok _ => False | .error e => E e s') s :=
  enterC D B ho hcd hroom hcell hco hgen hk (kp_binds (D.X B) hbind _ _ _ _ ⟨news, D, hst, hloc, k⟩)
end
end Mine
end

section
open PySem PySem.W PySem.W.X PyProof.Rows PySem.Calls
open Builtin
set_option maxRecDepth 100000
set_option maxHeartbeats 1000000
namespace Mine
/- a loop over range(c, 0, -1) -/
noncomputable def isRng (c : Nat) (t u v : Tok) : Obj → Prop := fun o => o = { cls := .type "range", data := .fields #[.int c t, .int 0 u, .int (-1) v] }
noncomputable def isRI (c : Int) : Obj → Prop := fun o => o = { cls := .type "range_iterator", dict := none, data := .fields #[rawInt c, rawInt c, rawInt (-1)], slots := #[] }
theorem rsz (c : Nat) : Builtin.Range.rangeSize (c : Int) 0 (-1) = (c : Int) := by
  unfold Builtin.Range.rangeSize
  simp
  lia
theorem rsmall (c : Nat) (hc : c ≤ 1000) : Builtin.Range.small (c : Int) 0 (-1) = true := by
  unfold Builtin.Range.small
  rw [rsz]
  simp [Builtin.Range.rangeFitsLong]
  lia
section
variable {w : World} {z : Shared} {prog : Program} {A : Around} {E : Value → Shared → Prop} {h₀ : Heap} {s : Shared} {L : Addr} {m : Str → Option Value} {news : List Ent} {env : Env}
theorem rRange {c : Nat} {t u v : Tok} {Q : Value → Shared → Prop} (D : St z h₀ L m news s) (hc : c ≤ 1000) (h : ∀ r s', St z h₀ L m ((r, isRng c t u v) :: news) s' → Q (.ref r) s') : wpAny (model prog w) A (call (.type "range") [.int c t, .int 0 u, .int (-1) v]) Q E s :=
  call_range_3 (by decide) (h _ _ (D.on (s := s) s.toks (D.led.push rfl rfl) D.tk)) (.inl (PyProof.noPylong_small (by lia)))
theorem iterDown {x : Str} {px : Pos} {c : Nat} {r : Addr} {t u v : Tok} {body orelse : List Stmt} {K : Flow → Shared → Prop} (J : Nat → (Str → Option Value) → List Ent → Prop)
    (D : St z h₀ L m ((r, isRng c t u v) :: news) s) (hh : A.handled = none) (hc : c ≤ 1000) (hj : J 0 m news)
    (turn : ∀ i u m' news' it s', i < c → J i m' news' → St z h₀ L m' ((it, isRI ((c : Int) - ((i + 1 : Nat) : Int))) :: news') s' →
      wpAny (model prog w) A (storeName env x (.int ((c : Int) - (i : Int)) u)) (fun _ s₂ => wpAny (model prog w) A (execs body env) (TurnQ K fun s₃ => ∃ m₂ news₂, J (i + 1) m₂ news₂ ∧ St z h₀ L m₂ ((it, isRI ((c : Int) - ((i + 1 : Nat) : Int))) :: news₂) s₃) (fun _ _ => False) s₂) (fun _ _ => False) s')
    (done : ∀ m' news' s', J c m' news' → St z h₀ L m' news' s' → wpAny (model prog w) A (execs orelse env) K (fun _ _ => False) s') :
    wpAny (model prog w) A (pyIter (.ref r)) (ForAt prog w A env (.Name x px) body orelse K) E s := by
  refine Mine.e1_2 (D.get (.head _)) ?_
  intro o ho zq1
  subst zq1
  refine wpAny_pyIter_range (a := c) (b := 0) (c := -1) ho (rsmall c hc) ?_
  rw [rsz]
  have D₀ := (D.sub (List.sublist_cons_self _ _)).on (s := s) s.toks ((D.sub (List.sublist_cons_self _ _)).led.push (P := isRI (c : Int)) (o := { cls := .type "range_iterator", data := .fields #[rawInt c, rawInt c, rawInt (-1)] }) rfl rfl) D.tk
  generalize hit : s.heap.objs.size = it at D₀ ⊢
  refine codeAny_forLoop_any (fun n s' => ∃ i m' news', i + n = c ∧ J i m' news' ∧ St z h₀ L m' ((it, isRI ((c : Int) - (i : Int))) :: news') s') (fun n s' hI => ?_) c ⟨0, m, news, by lia, hj, by simpa using D₀⟩
  refine Mine.e3_3 hI ?_
  try clear hI
  intro i m' news' hin hJ D'
  refine Mine.e1_2 (D'.get (.head _)) ?_
  intro oi hoi zq2
  subst zq2
  cases n with
  | zero =>
    refine wpAny_pyNext_range_end hh hoi (by lia) fun h' he => ?_
    have hi : i = c := by lia
    subst hi
    exact wpAny_mono (done m' news' _ hJ (D'.drop he)) (fun f s₃ q => q) fun _ _ q => q.elim
  | succ n =>
    refine wpAny_pyNext_range_item hoi (by lia) fun h' hit' hs => ?_
    have e1 : (c : Int) - (i : Int) + -1 = (c : Int) - ((i + 1 : Nat) : Int) := by lia
    have e2 : (c : Int) - (i : Int) - 1 = (c : Int) - ((i + 1 : Nat) : Int) := by lia
    have D'' : St z h₀ L m' ((it, isRI ((c : Int) - ((i + 1 : Nat) : Int))) :: news') { s' with heap := h', toks := s'.toks + 1 } := D'.turn (s'.toks + 1) .head (fun b o hb e => (hs.2 b hb).trans e) ⟨_, hit', by rw [e1, e2]; rfl⟩
    show wpAny (model prog w) A (pure ()) _ _ _
    refine wpAny_pure ?_
    show wpAny (model prog w) A (do standAt px; bindName env x (.int ((c : Int) - (i : Int)) s'.toks)) _ _ _
    refine wpAny_bind (wpAny_standAt (wpAny_bindName ?_))
    refine wpAny_mono (turn i _ m' news' it _ (by lia) hJ D'') (fun _ s₂ q => wpAny_mono q (fun f s₃ q3 => ?_) fun _ _ q => q.elim) fun _ _ q => q.elim
    cases f with
    | next => obtain ⟨m₂, news₂, j, d⟩ := q3; exact ⟨n, by lia, i + 1, m₂, news₂, by lia, j, d⟩
    | cont => obtain ⟨m₂, news₂, j, d⟩ := q3; exact ⟨n, by lia, i + 1, m₂, news₂, by lia, j, d⟩
    | brk => exact q3
    | ret v => exact q3
end
end Mine
end

section
open PySem PySem.W PySem.W.X PyProof.Rows PySem.Calls
open Builtin
set_option maxRecDepth 100000
set_option maxHeartbeats 1000000
namespace Mine
section
variable {w : World} {z : Shared} {prog : Program} {A : Around} {E : Value → Shared → Prop} {h₀ : Heap} {s : Shared} {L : Addr} {m : Str → Option Value} {news : List Ent} {env : Env} {names : List (Str × NameKind)}
/- a state told between two statements, of which the first may leave -/
theorem xCutF {st : Stmt} {rest : List Stmt} {Q : Flow → Shared → Prop} (I : Shared → Prop) (h : wpAny (model prog w) A (execs [st] env) (fun f s' => (f = .next ∧ I s') ∨ (f ≠ .next ∧ Q f s')) E s) (k : ∀ s', I s' → wpAny (model prog w) A (execs rest env) Q E s') : wpAny (model prog w) A (execs (st :: rest) env) Q E s := by
  have e : execs (st :: rest) env = (do match ← execs [st] env with | .next => execs rest env | f => pure f) := by
    rw [execs_cons, execs_cons, bind_assoc]
    congr 1
    funext f
    cases f <;> rfl
  rw [e]
  refine wpAny_bind (wpAny_mono h (fun f s' q => ?_) fun _ _ e => e)
  rcases q with ⟨rfl, q⟩ | ⟨hf, q⟩
  · exact k s' q
  · cases f <;> first | exact absurd rfl hf | exact wpAny_pure q
/- a part of a pair -/
theorem rPr0 {value slice : Expr} {T : Addr} {p : Str × Str} {u : Tok} {Q : Value → Shared → Prop} (D : St z h₀ L m news s) (hm : (T, isPr p) ∈ news) (h : ∀ t, Q (.str p.1 t) s)
    (hs : subscripted slice false (.ref T) (.int 0 u) = operate [.ref T, .int 0 u] (getItem (.ref T) (.int 0 u))) : wpAny (model prog w) A (subscriptTail value slice (.ref T) (.int 0 u)) Q E s := by
  obtain ⟨o, ho, n, t1, t2, rfl⟩ := D.get hm
  have ht : IsTup s.heap T #[.str p.1 t1, .str p.2 t2] := ⟨_, ho, rfl, n, rfl⟩
  exact tail_any ht.typeIs slot_tuple_getitem.lookup (getItem_tuple ht (by decide) (by decide) (j := 0) (by unfold seqIndex?; simp) (by rfl) (h t1)) hs
theorem rPr1 {value slice : Expr} {T : Addr} {p : Str × Str} {u : Tok} {Q : Value → Shared → Prop} (D : St z h₀ L m news s) (hm : (T, isPr p) ∈ news) (h : ∀ t, Q (.str p.2 t) s)
    (hs : subscripted slice false (.ref T) (.int 1 u) = operate [.ref T, .int 1 u] (getItem (.ref T) (.int 1 u))) : wpAny (model prog w) A (subscriptTail value slice (.ref T) (.int 1 u)) Q E s := by
  obtain ⟨o, ho, n, t1, t2, rfl⟩ := D.get hm
  have ht : IsTup s.heap T #[.str p.1 t1, .str p.2 t2] := ⟨_, ho, rfl, n, rfl⟩
  exact tail_any ht.typeIs slot_tuple_getitem.lookup (getItem_tuple ht (by decide) (by decide) (j := 1) (by unfold seqIndex?; simp) (by rfl) (h t2)) hs
/- a text there, and its first sign the one asked for -/
theorem tHead {n cn : Str} {p1 p2 p3 p4 p5 p6 pos : Pos} {k0 : Nat} {x : Str} {c : Nat} {tx tc : Tok} {whole : Sem Value} (D : St z h₀ L m news s) (hE : EnvIs env L names) (hn : names.lookup n = some .local) (hc : names.lookup cn = some .local) (hdn : (n == ("__debug__" : Str)) = false) (hdc : (cn == ("__debug__" : Str)) = false) (hx : m n = some (.str x tx)) (hy : m cn = some (.str ⟨#[c]⟩ tc)) (hsz : x.length ≤ 100000) :
    wpAny (model prog w) A (isTrue (.BoolOp .And [.Name n p1, .Compare (.Subscript (.Name n p2) (.Constant (.int 0) k0 p3) p4) [.Eq] [.Name cn p5] p6] pos) env whole) (TB z h₀ L m news (x.cps.toList.head? == some c)) E s := by
  have hsz' : x.length ≤ sizeLine := by rw [sizeLine_eq]; lia
  refine PyProof.Rows.isTrue_and (PyProof.Rows.isTrue_plain (rNmL D hE hn hx ?_ hdn) (by rfl))
  refine rTruS D hsz' fun s₁ D₁ => ?_
  rcases hl : x.cps.toList with _ | ⟨c0, r⟩
  · have : (x.length != 0) = false := by rw [len_toList, hl]; rfl
    rw [this]
    exact ⟨rfl, D₁⟩
  · have : (x.length != 0) = true := by rw [len_toList, hl]; rfl
    rw [this]
    refine iteT ?_
    refine PyProof.Rows.isTrue_and (wpAny_isTrue_Compare1 ?_ (by rfl))
    refine PyProof.Rows.Subscript_ (rNmL D₁ hE hn hx ?_ hdn)
    refine rInt D₁ fun ti s₂ D₂ => ?_
    refine rStrItem (c := c0) D₂ (by decide) (by decide) ?_ ?_ (by rfl)
    · have e1 : seqIndex? 0 x.length = some 0 := by
        have : x.length = r.length + 1 := by rw [len_toList, hl]; rfl
        unfold seqIndex?; rw [this]; simp
      rw [e1]
      show x.cps[0]? = some c0
      rw [← Array.getElem?_toList, hl]; rfl
    · intro t' s₃ D₃
      refine rNmL D₃ hE hc hy ?_ hdc
      refine PySem.P.eq_str ?_
      have hv : ((⟨#[c0]⟩ : Str).cps.toList == (⟨#[c]⟩ : Str).cps.toList) = ((c0 :: r).head? == some c) := by simp
      rw [hv]
      generalize ((c0 :: r).head? == some c) = b
      refine rTruB ?_
      cases b
      · exact iteF ⟨rfl, D₃⟩
      · exact iteT (PyProof.Rows.isTrue_and_nil ⟨rfl, D₃⟩)
theorem tLast {n cn : Str} {p1 p2 p3 p4 p5 p6 p7 pos : Pos} {k0 : Nat} {x : Str} {c : Nat} {tx tc : Tok} {whole : Sem Value} (D : St z h₀ L m news s) (hE : EnvIs env L names) (hn : names.lookup n = some .local) (hc : names.lookup cn = some .local) (hdn : (n == ("__debug__" : Str)) = false) (hdc : (cn == ("__debug__" : Str)) = false) (hx : m n = some (.str x tx)) (hy : m cn = some (.str ⟨#[c]⟩ tc)) (hsz : x.length ≤ 100000) :
    wpAny (model prog w) A (isTrue (.BoolOp .And [.Name n p1, .Compare (.Subscript (.Name n p2) (.UnaryOp .USub (.Constant (.int 1) k0 p3) p7) p4) [.Eq] [.Name cn p5] p6] pos) env whole) (TB z h₀ L m news (x.cps.toList.getLast? == some c)) E s := by
  have hsz' : x.length ≤ sizeLine := by rw [sizeLine_eq]; lia
  refine PyProof.Rows.isTrue_and (PyProof.Rows.isTrue_plain (rNmL D hE hn hx ?_ hdn) (by rfl))
  refine rTruS D hsz' fun s₁ D₁ => ?_
  rcases List.eq_nil_or_concat x.cps.toList with hl | ⟨r, c0, hl⟩
  · have : (x.length != 0) = false := by rw [len_toList, hl]; rfl
    rw [this]
    refine ⟨?_, D₁⟩
    rw [hl]; rfl
  · rw [List.concat_eq_append] at hl
    have : (x.length != 0) = true := by rw [len_toList, hl]; simp
    rw [this]
    refine iteT ?_
    refine PyProof.Rows.isTrue_and (wpAny_isTrue_Compare1 ?_ (by rfl))
    refine PyProof.Rows.Subscript_ (rNmL D₁ hE hn hx ?_ hdn)
    refine PyProof.Rows.UnaryOp_ (rInt D₁ fun ti s₂ D₂ => ?_)
    refine rNeg D₂ fun t' s₃ D₃ => ?_
    refine rStrLast D₃ hl ?_ (by rfl)
    intro t' s₃ D₃
    refine rNmL D₃ hE hc hy ?_ hdc
    refine PySem.P.eq_str ?_
    have hv : ((⟨#[c0]⟩ : Str).cps.toList == (⟨#[c]⟩ : Str).cps.toList) = (x.cps.toList.getLast? == some c) := by rw [hl]; simp
    rw [hv]
    generalize (x.cps.toList.getLast? == some c) = b
    refine rTruB ?_
    cases b
    · exact iteF ⟨rfl, D₃⟩
    · exact iteT (PyProof.Rows.isTrue_and_nil ⟨rfl, D₃⟩)
theorem cfT3 {pos : Pos} {T : String} {e f g : Expr} {Q : Value → Shared → Prop} (h : wpAny (model prog w) A (eval e env) (fun v s₁ => wpAny (model prog w) A (eval f env) (fun v₂ s₂ => wpAny (model prog w) A (eval g env) (fun v₃ s₃ => wpAny (model prog w) A (call (.type T) [v, v₂, v₃]) Q E s₃) E s₂) E s₁) E s)
    (he : starEach [e, f, g] env = (false, eval e env) :: starEach [f, g] env) (he2 : starEach [f, g] env = (false, eval f env) :: starEach [g] env) (he3 : starEach [g] env = (false, eval g env) :: starEach [] env) :
    wpAny (model prog w) A (callWith pos (.type T) [] (backTo pos (starEach [e, f, g] env)) []) Q E s :=
  PyProof.Rows.callWith_type1 (splC (wpAny_mono h (fun v s₁ q => splC (wpAny_mono q (fun v₂ s₂ q₂ => splC (wpAny_mono q₂ (fun v₃ s₃ q₃ => splN q₃) fun _ _ e => e) he3) fun _ _ e => e) he2) fun _ _ e => e) he) he (by rw [he2, he3]; rfl)
theorem xReturnN {p : Pos} {rest : List Stmt} {Q : Flow → Shared → Prop} (h : Q (.ret .none) s) : wpAny (model prog w) A (execs (.Return none p :: rest) env) Q E s :=
  wpAny_execs_cons (wpAny_Return_none h)
theorem xBrk {p : Pos} {rest : List Stmt} {Q : Flow → Shared → Prop} (h : Q .brk s) : wpAny (model prog w) A (execs (.Break p :: rest) env) Q E s := wpAny_execs_cons (wpAny_Break h)
theorem xCnt {p : Pos} {rest : List Stmt} {Q : Flow → Shared → Prop} (h : Q .cont s) : wpAny (model prog w) A (execs (.Continue p :: rest) env) Q E s := wpAny_execs_cons (wpAny_Continue h)
end
end Mine
end

section
open PySem PySem.W PySem.W.X PyProof.Rows PySem.Calls
open Builtin
set_option maxRecDepth 100000
set_option maxHeartbeats 1000000
namespace Mine
/- zip over one list iterator, twice -/
structure Z1 (z TI TO it l : Addr) : Prop where
  TIz : TI ≠ z
  TOz : TO ≠ z
  itz : it ≠ z
  TITO : TI ≠ TO
  TIit : TI ≠ it
  TOit : TO ≠ it
  lz : l ≠ z
  lTO : l ≠ TO
  lit : l ≠ it
section
variable {prog : Program} {w : World} {A : Around} {E : Value → Shared → Prop} {s : Shared}
theorem z1_item {z TI TO it l : Addr} {k : Nat} {xs : Array Value} {x y a b : Value} {Q : Value → Shared → Prop} (D : Z1 z TI TO it l)
    (hz : IsZip s.heap z TI TO .none) (hTI : IsPair s.heap TI (.ref it) (.ref it)) (hTO : IsPair s.heap TO a b)
    (h1 : s.heap.IsListIter it l k) (hl : s.heap.IsList l xs) (hx : xs[k]? = some x) (hy : xs[k + 1]? = some y)
    (hQ : ∀ h', IsZip h' z TI TO (rawInt s.heap.objs.size) → IsPair h' TO x y → h'.IsListIter it l (k + 2) → IsPair h' s.heap.objs.size x y →
      (∀ c o, c ≠ z → c ≠ TO → c ≠ it → s.heap.get? c = some o → h'.get? c = some o) → Q (.ref s.heap.objs.size) { s with heap := h' }) :
    wpAny (model prog w) A (Builtin.«zip.__next__» ⟨[.ref z], []⟩) (fun fin s' => ∃ v, fin = .done (.ret v) ∧ Q v s') E s := by
  show wpAny _ _ (field (.ref z) 2 >>= _) _ _ _
  refine wpAny_bind (wpAny_field hz rfl (x := .bool false) rfl ?_)
  show wpAny _ _ (field (.ref z) 3 >>= _) _ _ _
  refine wpAny_bind (wpAny_field hz rfl (x := .ref TI) rfl (wpAny_bind (wpAny_seqItems hTI rfl ?_)))
  show wpAny _ _ (Builtin.SmallTypes.ownedTupleIsFree (.ref z) >>= _) _ _ _
  refine wpAny_bind ?_
  unfold Builtin.SmallTypes.ownedTupleIsFree
  refine wpAny_bind (wpAny_field hz rfl (x := .none) rfl (wpAny_pure ?_))
  rw [if_pos rfl]
  refine wpAny_bind (wpAny_rule (wpAny_bind (wpAny_field hz rfl (x := .ref TO) rfl (wpAny_bind (wpAny_setField_rec hz (by simp) fun h₁ hz₁ hs₁ => ?_)))))
  replace hz₁ : IsZip h₁ z TI TO .ellipsis := hz₁
  refine wpAny_bind ?_
  simp only [List.zipIdx_cons, List.zipIdx_nil, List.forIn_cons, List.forIn_nil]
  refine wpAny_bind (wpAny_bind (wpAny_onRaise ?_))
  show wpAny _ _ (Builtin.SmallTypes.nextOf (.ref it) >>= _) _ _ _
  refine wpAny_bind (wpAny_nextOf_list_item (h1.extBut hs₁.extBut D.itz) (hl.extBut hs₁.extBut D.lz) hx fun h₂ i₂ hs₂ => wpAny_pure ?_)
  have hTO₂ : IsPair h₂ TO a b := hs₂.extBut _ _ D.TOit (hs₁.extBut _ _ D.TOz hTO)
  have hl₂ : h₂.IsList l xs := (hl.extBut hs₁.extBut D.lz).extBut hs₂.extBut D.lit
  refine wpAny_bind (wpAny_seqItems hTO₂ rfl (wpAny_bind (wpAny_updateSeq_pair hTO₂ fun h₃ hTO₃ hs₃ => ?_)))
  replace hTO₃ : IsPair h₃ TO x b := hTO₃
  refine wpAny_bind (wpAny_letGo (wpAny_pure ?_))
  refine wpAny_bind (wpAny_bind (wpAny_onRaise ?_))
  show wpAny _ _ (Builtin.SmallTypes.nextOf (.ref it) >>= _) _ _ _
  refine wpAny_bind (wpAny_nextOf_list_item (i₂.extBut hs₃.extBut D.TOit.symm) (hl₂.extBut hs₃.extBut D.lTO) hy fun h₄ i₄ hs₄ => wpAny_pure ?_)
  have hTO₄ : IsPair h₄ TO x b := hs₄.extBut _ _ D.TOit hTO₃
  refine wpAny_bind (wpAny_seqItems hTO₄ rfl (wpAny_bind (wpAny_updateSeq_pair hTO₄ fun h₅ hTO₅ hs₅ => ?_)))
  replace hTO₅ : IsPair h₅ TO x y := hTO₅
  refine wpAny_bind (wpAny_letGo (wpAny_pure (wpAny_pure ?_)))
  refine wpAny_bind (wpAny_seqItems hTO₅ rfl (wpAny_bind (wpAny_newTuple ?_)))
  have hsz : h₅.objs.size = s.heap.objs.size := by rw [hs₅.1, hs₄.1, hs₃.1, hs₂.1, hs₁.1]
  have hz₅ : IsZip h₅ z TI TO .ellipsis := hs₅.extBut _ _ D.TOz.symm (hs₄.extBut _ _ D.itz.symm (hs₃.extBut _ _ D.TOz.symm (hs₂.extBut _ _ D.itz.symm hz₁)))
  have hk₅ : ∀ c o, c ≠ z → c ≠ TO → c ≠ it → s.heap.get? c = some o → h₅.get? c = some o := fun c o c1 c2 c3 e =>
    hs₅.extBut _ _ c2 (hs₄.extBut _ _ c3 (hs₃.extBut _ _ c2 (hs₂.extBut _ _ c3 (hs₁.extBut _ _ c1 e))))
  have h1₅ : h₅.IsListIter it l (k + 2) := i₄.extBut hs₅.extBut D.TOit.symm
  have hzlt : z < h₅.objs.size := Heap.lt_size hz₅
  show wpAny _ _ (Builtin.SmallTypes.ownedTupleHandOut (.ref z) (.ref h₅.objs.size) >>= _) _ _ _
  refine wpAny_bind ?_
  unfold Builtin.SmallTypes.ownedTupleHandOut
  have hz₆ : IsZip (h₅.push { cls := .type "tuple", data := .seq #[x, y] }) z TI TO .ellipsis := Heap.get?_push_of_some _ hz₅
  refine wpAny_bind (wpAny_setField_rec hz₆ (by simp) fun h₇ hz₇ hs₇ => ?_)
  replace hz₇ : IsZip h₇ z TI TO (rawInt h₅.objs.size) := hz₇
  refine wpAny_setField_rec hz₇ (by simp) fun h₈ hz₈ hs₈ => ?_
  replace hz₈ : IsZip h₈ z TI TO (rawInt h₅.objs.size) := hz₈
  have up : ∀ c o, c ≠ z → h₅.get? c = some o → h₈.get? c = some o := fun c o c1 e => hs₈.extBut _ _ c1 (hs₇.extBut _ _ c1 (Heap.get?_push_of_some _ e))
  have hT₈ : IsPair h₈ h₅.objs.size x y := hs₈.extBut _ _ (Nat.ne_of_gt hzlt) (hs₇.extBut _ _ (Nat.ne_of_gt hzlt) (Heap.get?_push_size _ rfl))
  rw [hsz] at hz₈ hT₈
  refine wpAny_pure ⟨_, rfl, ?_⟩
  show Q (.ref h₅.objs.size) _
  rw [hsz]
  exact hQ h₈ hz₈ (up _ _ D.TOz hTO₅) (h1₅.at fun o e => up _ o D.itz e) hT₈ fun c o c1 c2 c3 e => up c o c1 (hk₅ c o c1 c2 c3 e)
theorem z1_end {z TI TO it l : Addr} {k : Nat} {xs : Array Value} {a b : Value} {Q : Fin → Shared → Prop} (hh : A.handled = none) (D : Z1 z TI TO it l)
    (hz : IsZip s.heap z TI TO .none) (hTI : IsPair s.heap TI (.ref it) (.ref it)) (h1 : s.heap.IsListIter it l k) (hl : s.heap.IsList l xs) (hend : xs[k]? = none)
    (hE : ∀ h' e, (∀ c o, c ≠ z → c ≠ TO → c ≠ it → s.heap.get? c = some o → h'.get? c = some o) → (∃ o, h'.get? e = some o ∧ o.cls = .type "StopIteration") → E (.ref e) { s with heap := h' }) :
    wpAny (model prog w) A (Builtin.«zip.__next__» ⟨[.ref z], []⟩) Q E s := by
  show wpAny _ _ (field (.ref z) 2 >>= _) _ _ _
  refine wpAny_bind (wpAny_field hz rfl (x := .bool false) rfl ?_)
  show wpAny _ _ (field (.ref z) 3 >>= _) _ _ _
  refine wpAny_bind (wpAny_field hz rfl (x := .ref TI) rfl (wpAny_bind (wpAny_seqItems hTI rfl ?_)))
  show wpAny _ _ (Builtin.SmallTypes.ownedTupleIsFree (.ref z) >>= _) _ _ _
  refine wpAny_bind ?_
  unfold Builtin.SmallTypes.ownedTupleIsFree
  refine wpAny_bind (wpAny_field hz rfl (x := .none) rfl (wpAny_pure ?_))
  rw [if_pos rfl]
  refine wpAny_bind (wpAny_rule (wpAny_bind (wpAny_field hz rfl (x := .ref TO) rfl (wpAny_bind (wpAny_setField_rec hz (by simp) fun h₁ hz₁ hs₁ => ?_)))))
  replace hz₁ : IsZip h₁ z TI TO .ellipsis := hz₁
  refine wpAny_bind ?_
  simp only [List.zipIdx_cons, List.zipIdx_nil, List.forIn_cons, List.forIn_nil]
  refine wpAny_bind (wpAny_bind (wpAny_onRaise ?_))
  show wpAny _ _ (Builtin.SmallTypes.nextOf (.ref it) >>= _) _ _ _
  refine wpAny_bind (wpAny_nextOf_list_end hh (h1.extBut hs₁.extBut D.itz) (hl.extBut hs₁.extBut D.lz) hend fun h₂ e hs₂ he => ?_)
  refine Mine.e1_2 he ?_
  try clear he
  intro oe hoe hce
  have hz₂ : IsZip h₂ z TI TO .ellipsis := hs₂ _ _ D.itz.symm hz₁
  have hez : e ≠ z := fun x => by subst x; rw [hz₂] at hoe; cases hoe; simp at hce
  exact wpAny_setField_rec hz₂ (by simp) fun h₃ _ hs₃ => hE h₃ e (fun c o c1 _ c3 x => hs₃.extBut _ _ c1 (hs₂ _ _ c3 (hs₁.extBut _ _ c1 x))) ⟨oe, hs₃.extBut _ _ hez hoe, hce⟩
theorem z1_next {z TI TO it l : Addr} {k : Nat} {xs : Array Value} {x y a b : Value} {Q : Option Value → Shared → Prop} (D : Z1 z TI TO it l)
    (hz : IsZip s.heap z TI TO .none) (hTI : IsPair s.heap TI (.ref it) (.ref it)) (hTO : IsPair s.heap TO a b)
    (h1 : s.heap.IsListIter it l k) (hl : s.heap.IsList l xs) (hx : xs[k]? = some x) (hy : xs[k + 1]? = some y)
    (hQ : ∀ h', IsZip h' z TI TO (rawInt s.heap.objs.size) → IsPair h' TO x y → h'.IsListIter it l (k + 2) → IsPair h' s.heap.objs.size x y →
      (∀ c o, c ≠ z → c ≠ TO → c ≠ it → s.heap.get? c = some o → h'.get? c = some o) → Q (some (.ref s.heap.objs.size)) { s with heap := h' }) :
    wpAny (model prog w) A (pyNext (.ref z)) Q E s := by
  have hT : s.TypeIs (.ref z) "zip" := ⟨_, hz, rfl⟩
  unfold pyNext
  exact wpAny_bind (wpAny_attempt (wpAny_callSpecial?_slot (name := Str.ofString "__next__") hT PySem.F.slot_zip_next
    (wpAny_call_entry PySem.F.slot_zip_next hT PySem.F.entry_zip_next (z1_item D hz hTI hTO h1 hl hx hy fun h' a1 a2 a3 a4 a5 => wpAny_pure (hQ h' a1 a2 a3 a4 a5)) (PySem.F.args_zip_next_1 _))))
theorem z1_stop {z TI TO it l : Addr} {k : Nat} {xs : Array Value} {Q : Option Value → Shared → Prop} (hh : A.handled = none) (D : Z1 z TI TO it l)
    (hz : IsZip s.heap z TI TO .none) (hTI : IsPair s.heap TI (.ref it) (.ref it)) (h1 : s.heap.IsListIter it l k) (hl : s.heap.IsList l xs) (hend : xs[k]? = none)
    (hQ : ∀ h', (∀ c o, c ≠ z → c ≠ TO → c ≠ it → s.heap.get? c = some o → h'.get? c = some o) → Q none { s with heap := h' }) : wpAny (model prog w) A (pyNext (.ref z)) Q E s := by
  have hT : s.TypeIs (.ref z) "zip" := ⟨_, hz, rfl⟩
  unfold pyNext
  refine wpAny_bind (wpAny_attempt (wpAny_callSpecial?_slot (name := Str.ofString "__next__") hT PySem.F.slot_zip_next
    (wpAny_call_entry PySem.F.slot_zip_next hT PySem.F.entry_zip_next (z1_end (a := .none) (b := .none) hh D hz hTI h1 hl hend fun h' e hk he => ?_) (PySem.F.args_zip_next_1 _))))
  refine Mine.e1_2 he ?_
  try clear he
  intro o ho hc
  refine wpAny_bind (wpAny_isInstance (T := "StopIteration") (b := true) ⟨o, ho, hc⟩ isSubtype_stop ?_)
  exact wpAny_pure (hQ _ hk)
theorem z1_new (i : Addr) (l : Addr) (k : Nat) :
    Meets (Builtin.«zip.__new__» ⟨[.type "zip", .ref i, .ref i], []⟩) (fun _ R s => s.heap.IsListIter i l k ∧
      R (.ok (.ret (.ref (s.heap.objs.size + 2)))) { s with heap := (((s.heap.push { cls := .type "tuple", data := .seq #[.ref i, .ref i] }).push { cls := .type "tuple", data := .seq #[.none, .none] }).push { cls := .type "zip", data := .fields #[.none, .bool false, .bool false, .ref s.heap.objs.size, .ref (s.heap.objs.size + 1)] }) }) :=
  .of_wp fun prog w A R s h => by
    obtain ⟨hp, g, d, tk, os⟩ := s; obtain ⟨hl1, h⟩ := h
    have hsub := sub_zip
    have hL1 : Heap.IsListIter (Shared.heap ⟨hp, g, d, tk, os⟩) i l k := hl1
    wp_walk using wpAny_pyIter_listiter hL1
    simp only [Heap.size_push] at h ⊢
    exact ⟨_, rfl, h⟩
end
end Mine
end

section
open PySem PySem.W PySem.W.X PyProof.Rows PySem.Calls
open Builtin
set_option maxRecDepth 100000
set_option maxHeartbeats 1000000
namespace Mine
/- a list's iterator, k steps on -/
noncomputable def isLit (l : Addr) (k : Nat) : Obj → Prop := fun o => o.cls = .type "list_iterator" ∧ o.data = .fields #[.ref l, .int k 0]
noncomputable def isZp (TI TO : Addr) (f0 : Value) : Obj → Prop := fun o => o = { cls := .type "zip", dict := none, data := .fields #[f0, .bool false, .bool false, .ref TI, .ref TO], slots := #[] }
noncomputable def isPir (a b : Value) : Obj → Prop := fun o => o = { cls := .type "tuple", data := .seq #[a, b] }
noncomputable def isTwo : Obj → Prop := fun o => ∃ a b, isPir a b o
section
variable {w : World} {z : Shared} {prog : Program} {A : Around} {E : Value → Shared → Prop} {h₀ : Heap} {s : Shared} {L : Addr} {m : Str → Option Value} {news : List Ent} {env : Env}
theorem rIterL {l : Addr} {vs : List Value} {Q : Value → Shared → Prop} (D : St z h₀ L m news s) (hl : (l, isLst vs) ∈ news) (h : ∀ it s', St z h₀ L m ((it, isLit l 0) :: news) s' → Q (.ref it) s') : wpAny (model prog w) A (call (.builtin "iter") [.ref l]) Q E s := by
  refine call_function_entry (by decide +kernel) (by decide +kernel) kdk_entry_iter (kdk_args_iter _) ?_
  unfold Builtin.«iter»
  refine wpAny_bind (m := someArgs "iter" 1 2 _) (wpAny_of_eq (a := [Value.ref l]) (by first | rfl | kernel_rfl!) ?_)
  show wpAny _ _ (pyIter (.ref l) >>= _) _ _ _
  refine wpAny_bind (wpAny_pyIter_list (D.lst hl).isList ?_)
  exact wpAny_pure ⟨_, rfl, h _ _ (D.on (s := s) s.toks (D.led.push rfl ⟨rfl, rfl⟩) D.tk)⟩
theorem rMul2 {l : Addr} {v : Value} {u : Tok} {Q : Value → Shared → Prop} (D : St z h₀ L m news s) (hl : (l, isLst [v]) ∈ news) (h : ∀ l' s', St z h₀ L m ((l', isLst [v, v]) :: news) s' → Q (.ref l') s') : wpAny (model prog w) A (binaryOp .Mult (.ref l) (.int 2 u)) Q E s := by
  obtain ⟨n, ho⟩ := D.lst hl
  exact wpAny_binaryOp_repeat_ref (T := "list") (U := "int") (by decide) ⟨_, ho, rfl⟩ (fun s' => typeIs_int s' 2 u) noFill_list_mul PySem.F.fills_int_mul PySem.F.slot_int_rmul repeat_list PySem.F.slot_int_index.lookup
    (call_meets PySem.F.slot_int_rmul (typeIs_int s 2 u) PySem.F.entry_int_rmul (PySem.F.args_int_rmul_2 _ _) (int___rmul___int_list 2 u l _ n)
      ⟨ho, rfl, ⟨_, ho, rfl⟩, call_meets PySem.F.slot_list_mul ⟨_, ho, rfl⟩ PySem.F.entry_list_mul (PySem.F.args_list_mul_2 _ _)
        (AutoListH.list___mul___list_int_3 l _ n 2 u (by decide) (by show ¬ (1 * 2 > (2 ^ 63 - 1) / 8); decide) (by show ¬ Builtin.List.listTooLong (1 * 2) = true; decide))
        ⟨ho, h _ _ (D.on (s := s) s.toks (D.led.push rfl ⟨0, rfl⟩) D.tk)⟩⟩)
theorem rZip1 {it l : Addr} {k : Nat} {Q : Value → Shared → Prop} (D : St z h₀ L m news s) (hi : (it, isLit l k) ∈ news) (h : ∀ zz TI TO s', St z h₀ L m ((zz, isZp TI TO .none) :: (TO, isTwo) :: (TI, isPir (.ref it) (.ref it)) :: news) s' → Q (.ref zz) s') :
    wpAny (model prog w) A (call (.type "zip") [.ref it, .ref it]) Q E s := by
  refine Mine.e1_3 (D.get hi) ?_
  intro o ho hc hd
  refine callType_new PySem.F.called_zip (by decide) (PySem.F.typeCall_zip_2 _ _) (PySem.F.newCall_zip_2 _ _) (fun obj => PySem.F.args_object_init_3 obj _ _) PySem.F.entry_zip_new (z1_new it l k) ⟨⟨o, ho, hc, hd⟩, ?_⟩
  have D₁ := D.on (s := s) s.toks (D.led.push (P := isPir (.ref it) (.ref it)) (o := { cls := .type "tuple", data := .seq #[.ref it, .ref it] }) rfl rfl) D.tk
  have D₂ := D₁.on s.toks (D₁.led.push (P := isTwo) (o := { cls := .type "tuple", data := .seq #[.none, .none] }) rfl ⟨_, _, rfl⟩) D.tk
  have D₃ := D₂.on s.toks (D₂.led.push (P := isZp s.heap.objs.size (s.heap.objs.size + 1) .none) (o := { cls := .type "zip", data := .fields #[.none, .bool false, .bool false, .ref s.heap.objs.size, .ref (s.heap.objs.size + 1)] }) rfl rfl) D.tk
  have e1 : (s.heap.push { cls := .type "tuple", data := .seq #[.ref it, .ref it] }).objs.size = s.heap.objs.size + 1 := Heap.size_push ..
  have e2 : ((s.heap.push { cls := .type "tuple", data := .seq #[.ref it, .ref it] }).push { cls := .type "tuple", data := .seq #[.none, .none] }).objs.size = s.heap.objs.size + 2 := by rw [Heap.size_push, e1]
  dsimp only at D₃
  rw [e1, e2] at D₃
  have := Heap.get?_push_size ((s.heap.push { cls := .type "tuple", data := .seq #[.ref it, .ref it] }).push { cls := .type "tuple", data := .seq #[.none, .none] }) (o := { cls := .type "zip", data := .fields #[.none, .bool false, .bool false, .ref s.heap.objs.size, .ref (s.heap.objs.size + 1)] }) rfl
  rw [e2] at this
  exact ⟨⟨_, this, rfl⟩, h _ _ _ _ D₃⟩
theorem rStarT {e : Expr} {env : Env} {pp pos : Pos} {T : String} {Q : Value → Shared → Prop} {m₀ : Str → Option Value} {news₀ : List Ent} (_D : St z h₀ L m₀ news₀ s)
    (h : wpAny (model prog w) A (eval e env) (fun v s₁ => ∃ a vs m news, v = .ref a ∧ St z h₀ L m news s₁ ∧ (a, isLst vs) ∈ news ∧ vs.length ≤ sizeLine ∧ ∀ s₂, St z h₀ L m news s₂ → wpAny (model prog w) A (call (.type T) vs) Q E s₂) E s)
    (he : starEach [.Starred e pp] env = [(true, eval e env)]) : wpAny (model prog w) A (callWith pos (.type T) [] (backTo pos (starEach [.Starred e pp] env)) []) Q E s := by
  rw [he]
  refine ks_call rfl (P := fun _ => True) (fun h _ => ⟨.machine, .inr (.inl rfl), Looks.of_pure rfl⟩) (ks_lone (wpAny_mono h (fun v s₁ q => ?_) fun _ _ q => q))
  refine Mine.E4 q ?_
  try clear q
  intro a vs m news zk5
  refine Mine.e0_5 zk5 ?_
  clear zk5
  intro zq1 D ha hz hQ
  subst zq1
  obtain ⟨n, ho⟩ := D.lst ha
  have hT' : s₁.TypeIs (.ref a) "list" := ⟨_, ho, rfl⟩
  have zz : wpAny (model prog w) A (collect (.ref a)) (fun vs s₂ => True ∧ wpAny (model prog w) A (call (.type T) ([] ++ (⟨vs, []⟩ : Args).pos) (⟨vs, []⟩ : Args).kw) Q E s₂) E s₁ := by
    refine wpAny_collect_seq a (.inl rfl) ho rfl rfl (fun h' hk' => ?_) (by simpa using hz)
    have D' := D.keeps (h' := h') s₁.toks hk'
    exact ⟨trivial, by simpa using hQ _ D'⟩
  unfold StarOf notIterableAtAll
  exact wpAny_bind (wpAny_specialOf hT' PySem.F.slot_list_iter.lookup (wpAny_pure ⟨rfl, zz⟩))
end
end Mine
end

section
open PySem PySem.W PySem.W.X PyProof.Rows PySem.Calls
open Builtin
set_option maxRecDepth 100000
set_option maxHeartbeats 1000000
namespace Mine
section
variable {h₀ h h' : Heap} {L : Addr} {m m' : Str → Option Value} {news news' : List Ent}
/- some entries of the ledger changed -/
theorem Ldg.wr (D : Ldg h₀ L m h news) (wr : List Addr) (hw : ∀ b ∈ wr, ∃ P, (b, P) ∈ news) (hk : ∀ b o, b ∉ wr → h.get? b = some o → h'.get? b = some o) (hm : news'.map (·.1) = news.map (·.1))
    (hn : ∀ p ∈ news', (p ∈ news ∧ p.1 ∉ wr) ∨ (p.1 ∈ wr ∧ ∃ o, h'.get? p.1 = some o ∧ p.2 o)) : Ldg h₀ L m h' news' := by
  have hL : L ∉ wr := fun hb => let ⟨P, hp⟩ := hw L hb; (D.nw _ hp).2.1 rfl
  have h0 : ∀ b o, h₀.get? b = some o → b ∉ wr := fun b o e hb => by
    obtain ⟨P, hp⟩ := hw b hb
    have := (D.nw _ hp).2.2
    rw [this] at e; cases e
  refine Mine.e3_2 (D.fr.ns) ?_
  intro oL es ep eL r
  refine ⟨⟨⟨oL, es, ep, hk _ _ hL eL, r⟩, fun b o e => hk b o (h0 b o e) (D.fr.keep b o e), D.fr.above⟩, fun p hp => ?_, by rw [hm]; exact D.ord⟩
  rcases hn p hp with ⟨q1, q2⟩ | ⟨q1, q2⟩
  · obtain ⟨⟨o, e, q⟩, y⟩ := D.nw p q1
    exact ⟨⟨o, hk _ _ q2 e, q⟩, y⟩
  · obtain ⟨P, hP⟩ := hw _ q1
    exact ⟨q2, (D.nw _ hP).2⟩
theorem Ldg.add (D : Ldg h₀ L m h news) {a : Addr} {P : Obj → Prop} (hne : ∀ p ∈ news, p.1 ≠ a) (hL : a ≠ L) (h0 : h₀.get? a = none) (ho : ∃ o, h.get? a = some o ∧ P o) : Ldg h₀ L m h ((a, P) :: news) := by
  refine ⟨D.fr, fun p hp => ?_, ?_⟩
  · rcases List.mem_cons.mp hp with rfl | hp
    · exact ⟨ho, hL, h0⟩
    · exact D.nw p hp
  · refine List.Pairwise.cons (fun b hb => ?_) D.ord
    refine Mine.e1_2 (List.mem_map.mp hb) ?_
    intro p hq zq1
    subst zq1
    exact (hne p hq).symm
end
/- the zip, its two tuples and its iterator -/
noncomputable abbrev zsE (zz TO TI it l : Addr) (k : Nat) (f0 : Value) : List Ent := [(zz, isZp TI TO f0), (TO, isTwo), (TI, isPir (.ref it) (.ref it)), (it, isLit l k)]
theorem zs_ord {U W : List Ent} {zz TO TI it l : Addr} {k : Nat} {f0 : Value} (h : ((U ++ (zsE zz TO TI it l k f0 ++ W)).map (·.1)).Pairwise (· ≠ ·)) :
    (zz ≠ TO ∧ zz ≠ TI ∧ zz ≠ it ∧ TO ≠ TI ∧ TO ≠ it ∧ TI ≠ it) ∧ (∀ p ∈ U, p.1 ≠ zz ∧ p.1 ≠ TO ∧ p.1 ≠ it) ∧ (∀ p ∈ W, p.1 ≠ zz ∧ p.1 ≠ TO ∧ p.1 ≠ it) := by
  rw [List.map_append, List.pairwise_append] at h
  refine Mine.e0_3 h ?_
  try clear h
  intro zu2 h2 h3
  rw [List.map_append, List.pairwise_append] at h2
  refine Mine.e0_3 h2 ?_
  try clear h2
  intro h4 zu3 h6
  simp only [List.map_cons, List.map_nil, List.pairwise_cons, List.mem_cons, List.not_mem_nil, or_false] at h4
  refine Mine.e0_4 h4 ?_
  try clear h4
  intro a1 a2 a3 zu4
  refine ⟨⟨a1 _ (.inl rfl), a1 _ (.inr (.inl rfl)), a1 _ (.inr (.inr rfl)), a2 _ (.inl rfl), a2 _ (.inr rfl), a3 _ rfl⟩, fun p hp => ?_, fun p hp => ?_⟩
  · have q := h3 p.1 (List.mem_map_of_mem hp)
    exact ⟨q _ (by simp), q _ (by simp), q _ (by simp)⟩
  · have q := fun b hb => h6 b hb p.1 (List.mem_map_of_mem hp)
    exact ⟨(q zz (by simp)).symm, (q TO (by simp)).symm, (q it (by simp)).symm⟩
section
variable {w : World} {z : Shared} {prog : Program} {A : Around} {E : Value → Shared → Prop} {h₀ : Heap} {s : Shared} {L : Addr} {m : Str → Option Value} {news : List Ent} {env : Env}
theorem iterZip {elts : List Expr} {ke : Nat} {px : Pos} {n : Nat} {vs : List Value} {zz TI TO it l : Addr} {U W : List Ent} {body orelse : List Stmt} {K : Flow → Shared → Prop} (J : Nat → (Str → Option Value) → List Ent → List Ent → Prop)
    (D : St z h₀ L m (U ++ (zsE zz TO TI it l 0 .none ++ W)) s) (hh : A.handled = none) (hn : vs.length = 2 * n) (hj : J 0 m U W) (hl : ∀ i m U W, J i m U W → (l, isLst vs) ∈ W)
    (turn : ∀ i m' U W T x y s', i < n → vs[2 * i]? = some x → vs[2 * i + 1]? = some y → J i m' U W → St z h₀ L m' ((T, isPir x y) :: U ++ (zsE zz TO TI it l (2 * i + 2) .none ++ W)) s' →
      wpAny (model prog w) A (assign (.Tuple elts ke px) env (.ref T)) (fun _ s₂ => wpAny (model prog w) A (execs body env) (TurnQ K fun s₃ => ∃ m₂ U₂ W₂, J (i + 1) m₂ U₂ W₂ ∧ St z h₀ L m₂ (U₂ ++ (zsE zz TO TI it l (2 * i + 2) .none ++ W₂)) s₃) (fun _ _ => False) s₂) (fun _ _ => False) s')
    (done : ∀ m' U W s', J n m' U W → St z h₀ L m' (U ++ W) s' → wpAny (model prog w) A (execs orelse env) K (fun _ _ => False) s') :
    wpAny (model prog w) A (pyIter (.ref zz)) (ForAt prog w A env (.Tuple elts ke px) body orelse K) E s := by
  refine Mine.e1_2 (D.get (a := zz) (P := isZp TI TO .none) (List.mem_append_right _ (.head _))) ?_
  intro o ho zq5
  subst zq5
  refine wpAny_pyIter_zip ho ?_
  refine codeAny_forLoop_any (fun c s' => ∃ i m' U W, i + c = n ∧ J i m' U W ∧ St z h₀ L m' (U ++ (zsE zz TO TI it l (2 * i) .none ++ W)) s') (fun c s' hI => ?_) n ⟨0, m, U, W, by lia, hj, D⟩
  refine Mine.E4 hI ?_
  try clear hI
  intro i m' U W zk14
  refine Mine.e0_3 zk14 ?_
  clear zk14
  intro hin hJ D'
  refine Mine.e1_2 (D'.get (a := zz) (P := isZp TI TO .none) (List.mem_append_right _ (.head _))) ?_
  intro o1 hz zq6
  subst zq6
  obtain ⟨o2, hTO, a, b, rfl⟩ := D'.get (a := TO) (P := isTwo) (List.mem_append_right _ (.tail _ (.head _)))
  refine Mine.e1_2 (D'.get (a := TI) (P := isPir (.ref it) (.ref it)) (List.mem_append_right _ (.tail _ (.tail _ (.head _))))) ?_
  intro o3 hTI zq7
  subst zq7
  refine Mine.e1_3 (D'.get (a := it) (P := isLit l (2 * i)) (List.mem_append_right _ (.tail _ (.tail _ (.tail _ (.head _)))))) ?_
  intro o4 hit hc4 hd4
  have hlW := hl i m' U W hJ
  have hlst := (D'.lst (List.mem_append_right _ (List.mem_append_right _ hlW))).isList
  refine Mine.e0_3 (zs_ord D'.led.ord) ?_
  intro zn8 nU nW
  refine Mine.e0_6 zn8 ?_
  try clear zn8
  intro n1 n2 n3 n4 n5 n6
  refine Mine.e0_3 (nW _ hlW) ?_
  intro l1 l2 l3
  have Z : Z1 zz TI TO it l := ⟨n2.symm, n1.symm, n3.symm, n4.symm, n6, n5, l1, l2, l3⟩
  cases c with
  | zero =>
    have hi : i = n := by lia
    subst hi
    refine z1_stop hh Z hz hTI ⟨o4, hit, hc4, hd4⟩ hlst (by rw [List.getElem?_toArray]; exact List.getElem?_eq_none (by lia)) fun h' hk => ?_
    refine wpAny_mono (done m' U W _ hJ ?_) (fun f s₃ q => q) fun _ _ q => q.elim
    have d0 := D'.sub (news' := U ++ W) (List.Sublist.append_left (List.sublist_append_right _ _) _)
    have dd : Ldg h₀ L m' h' (U ++ W) := by
      have d1 : Ldg h₀ L m' h' (U ++ ([] ++ W)) := by
        refine Mine.e3_2 (D'.led.fr.ns) ?_
        intro oL es ep eL r
        have key : ∀ b o, b ≠ zz → b ≠ TO → b ≠ it → s'.heap.get? b = some o → h'.get? b = some o := hk
        have hne : ∀ b o, h₀.get? b = some o → b ≠ zz ∧ b ≠ TO ∧ b ≠ it := fun b o e => by
          refine ⟨fun q => ?_, fun q => ?_, fun q => ?_⟩
          · subst q; have := (D'.led.nw (b, isZp TI TO .none) (List.mem_append_right _ (.head _))).2.2; rw [show h₀.get? b = none from this] at e; cases e
          · subst q; have := (D'.led.nw (b, isTwo) (List.mem_append_right _ (.tail _ (.head _)))).2.2; rw [show h₀.get? b = none from this] at e; cases e
          · subst q; have := (D'.led.nw (b, isLit l (2 * i)) (List.mem_append_right _ (.tail _ (.tail _ (.tail _ (.head _)))))).2.2; rw [show h₀.get? b = none from this] at e; cases e
        refine ⟨⟨⟨oL, es, ep, key _ _ ?_ ?_ ?_ eL, r⟩, fun b o e => key b o (hne b o e).1 (hne b o e).2.1 (hne b o e).2.2 (D'.led.fr.keep b o e), D'.led.fr.above⟩, fun p hp => ?_, d0.led.ord⟩
        · exact fun q => (D'.led.nw (zz, isZp TI TO .none) (List.mem_append_right _ (.head _))).2.1 q.symm
        · exact fun q => (D'.led.nw (TO, isTwo) (List.mem_append_right _ (.tail _ (.head _)))).2.1 q.symm
        · exact fun q => (D'.led.nw (it, isLit l (2 * i)) (List.mem_append_right _ (.tail _ (.tail _ (.tail _ (.head _)))))).2.1 q.symm
        · obtain ⟨⟨o, e, q⟩, y⟩ := d0.led.nw p hp
          have hx : p.1 ≠ zz ∧ p.1 ≠ TO ∧ p.1 ≠ it := by
            rcases List.mem_append.mp hp with hp | hp
            · exact nU p hp
            · exact nW p hp
          exact ⟨⟨o, key _ _ hx.1 hx.2.1 hx.2.2 e, q⟩, y⟩
      exact d1
    exact ⟨dd, D'.dr, D'.os, D'.gb, D'.tk⟩
  | succ c =>
    have hx : vs[2 * i]? = some vs[2 * i] := List.getElem?_eq_getElem (by lia)
    have hy : vs[2 * i + 1]? = some vs[2 * i + 1] := List.getElem?_eq_getElem (by lia)
    refine z1_next Z hz hTI hTO ⟨o4, hit, hc4, hd4⟩ hlst (x := vs[2 * i]) (y := vs[2 * i + 1]) (by rw [List.getElem?_toArray]; exact hx) (by rw [List.getElem?_toArray]; exact hy) fun h' a1 a2 a3 a4 a5 => ?_
    refine wpAny_letOwnedTupleGo_zip a1 fun h'' b1 b2 => ?_
    have hTlt : ∀ q o, s'.heap.get? q = some o → q ≠ s'.heap.objs.size := fun q o e => Nat.ne_of_lt (Heap.lt_size e)
    have kk : ∀ c o, c ≠ zz → c ≠ TO → c ≠ it → s'.heap.get? c = some o → h''.get? c = some o := fun c o c1 c2 c3 e => b2.extBut c o c1 (a5 c o c1 c2 c3 e)
    have hT'' : h''.get? s'.heap.objs.size = some { cls := .type "tuple", data := .seq #[vs[2 * i], vs[2 * i + 1]] } := b2.extBut _ _ (hTlt _ _ hz).symm a4
    have hTO'' : h''.get? TO = some { cls := .type "tuple", data := .seq #[vs[2 * i], vs[2 * i + 1]] } := b2.extBut _ _ n1.symm a2
    refine Mine.e1_3 (a3.extBut b2.extBut n3.symm) ?_
    intro o5 i5 i6 i7
    have d1 : Ldg h₀ L m' h'' (U ++ (zsE zz TO TI it l (2 * i + 2) .none ++ W)) := by
      refine D'.led.wr [zz, TO, it] (fun b hb => ?_) (fun b o hb e => ?_) ?_ fun p hp => ?_
      · simp only [List.mem_cons, List.not_mem_nil, or_false] at hb
        rcases hb with rfl | rfl | rfl
        · exact ⟨_, List.mem_append_right _ (.head _)⟩
        · exact ⟨_, List.mem_append_right _ (.tail _ (.head _))⟩
        · exact ⟨_, List.mem_append_right _ (.tail _ (.tail _ (.tail _ (.head _))))⟩
      · simp only [List.mem_cons, List.not_mem_nil, or_false, not_or] at hb
        exact kk b o hb.1 hb.2.1 hb.2.2 e
      · simp only [List.map_append, List.map_cons, List.map_nil]
      · rcases List.mem_append.mp hp with hp | hp
        · exact .inl ⟨List.mem_append_left _ hp, by simpa using nU p hp⟩
        · rcases List.mem_append.mp hp with hp | hp
          · simp only [List.mem_cons, List.not_mem_nil, or_false] at hp
            rcases hp with rfl | rfl | rfl | rfl
            · exact .inr ⟨by simp, _, b1, rfl⟩
            · exact .inr ⟨by simp, _, hTO'', _, _, rfl⟩
            · exact .inl ⟨List.mem_append_right _ (.tail _ (.tail _ (.head _))), by simpa using ⟨n2.symm, n4.symm, n6⟩⟩
            · exact .inr ⟨by simp, o5, i5, i6, i7⟩
          · exact .inl ⟨List.mem_append_right _ (List.mem_append_right _ hp), by simpa using nW p hp⟩
    have d2 : Ldg h₀ L m' h'' ((s'.heap.objs.size, isPir vs[2 * i] vs[2 * i + 1]) :: (U ++ (zsE zz TO TI it l (2 * i + 2) .none ++ W))) := by
      refine d1.add (fun p hp => ?_) ?_ ?_ ⟨_, hT'', rfl⟩
      · have hm : p.1 ∈ (U ++ (zsE zz TO TI it l (2 * i) .none ++ W)).map (·.1) := by
          have e : (U ++ (zsE zz TO TI it l (2 * i) .none ++ W)).map (·.1) = (U ++ (zsE zz TO TI it l (2 * i + 2) .none ++ W)).map (·.1) := by simp only [List.map_append, List.map_cons, List.map_nil]
          rw [e]; exact List.mem_map_of_mem hp
        refine Mine.e1_2 (List.mem_map.mp hm) ?_
        intro q hq e
        obtain ⟨⟨o, eo, _⟩, _⟩ := D'.led.nw q hq
        rw [← e]; exact hTlt _ _ eo
      · refine Mine.e3_2 (D'.led.fr.ns) ?_
        intro oL es ep eL r
        exact fun q => hTlt _ _ eL q.symm
      · cases q : h₀.get? s'.heap.objs.size with
        | none => rfl
        | some o' => exact absurd rfl (hTlt _ _ (D'.led.fr.keep _ _ q))
    refine wpAny_mono (turn i m' U W s'.heap.objs.size _ _ _ (by lia) hx hy hJ ⟨d2, D'.dr, D'.os, D'.gb, D'.tk⟩) (fun _ s₂ q => wpAny_mono q (fun f s₃ q3 => ?_) fun _ _ q => q.elim) fun _ _ q => q.elim
    cases f with
    | next => obtain ⟨m₂, U₂, W₂, j, d⟩ := q3; exact ⟨c, by lia, i + 1, m₂, U₂, W₂, by lia, j, d⟩
    | cont => obtain ⟨m₂, U₂, W₂, j, d⟩ := q3; exact ⟨c, by lia, i + 1, m₂, U₂, W₂, by lia, j, d⟩
    | brk => exact q3
    | ret v => exact q3
end
end Mine
end

section
open PySem PySem.W PySem.W.X PyProof.Rows PySem.Calls
open Builtin
set_option maxRecDepth 100000
set_option maxHeartbeats 1000000
namespace Mine
section
variable {w : World} {z : Shared} {prog : Program} {A : Around} {E : Value → Shared → Prop} {h₀ : Heap} {s : Shared} {L : Addr} {m : Str → Option Value} {news : List Ent} {env : Env} {names : List (Str × NameKind)}
theorem posTok0 {α : Type} {c : Sem α} {Q : α → Shared → Prop} (ht : 0 < s.toks) (h : wpAny (model prog w) A c (fun a s' => 0 < s'.toks → Q a s') E s) : wpAny (model prog w) A c Q E s :=
  wpAny_mono (wpAny_toks_of ht h) (fun _ _ q => q.2 q.1) fun _ _ q => q.2
/- a list that a comprehension has made, with some own objects turned -/
theorem St.compW {wr : List Addr} {D : Addr} {ys : List Value} {h' : Heap} {tk : Nat} (Dd : St z h₀ L m news s) (hwr : ∀ b ∈ wr, b ≠ L ∧ h₀.get? b = none ∧ ∀ p ∈ news, p.1 ≠ b) (hD : s.heap.get? D = none) (hl : ∃ n, h'.get? D = some { cls := .type "list", data := .seq ys.toArray n })
    (hk : ∀ b o, b ∉ wr → s.heap.get? b = some o → h'.get? b = some o) (htk : 0 < tk) : St z h₀ L m ((D, isLst ys) :: news) { s with heap := h', toks := tk } := by
  refine Mine.e3_2 (Dd.led.fr.ns) ?_
  intro oL es ep eL r
  have nL : L ∉ wr := fun q => (hwr L q).1 rfl
  have n0 : ∀ b o, h₀.get? b = some o → b ∉ wr := fun b o e q => by rw [(hwr b q).2.1] at e; cases e
  refine ⟨⟨⟨Dd.led.fr.ns.at' fun o e => hk L o nL e, fun b o e => hk b o (n0 b o e) (Dd.keep e), Dd.led.fr.above⟩, fun p hp => ?_, ?_⟩, Dd.dr, Dd.os, Dd.gb, htk⟩
  · rcases List.mem_cons.mp hp with rfl | hp
    · obtain ⟨n, e⟩ := hl
      refine ⟨⟨_, e, n, rfl⟩, fun q => ?_, ?_⟩
      · have q' : D = L := q
        rw [q', eL] at hD; cases hD
      · cases q : h₀.get? D with
        | none => rfl
        | some o' => have := Dd.keep q; rw [hD] at this; cases this
    · obtain ⟨⟨o', e, q⟩, y⟩ := Dd.led.nw p hp
      exact ⟨⟨o', hk _ _ (fun x => (hwr _ x).2.2 p hp rfl) e, q⟩, y⟩
  · refine List.Pairwise.cons (fun b hb => ?_) Dd.led.ord
    refine Mine.e1_2 (List.mem_map.mp hb) ?_
    intro p hq zq1
    subst zq1
    refine Mine.e1_2 ((Dd.led.nw p hq).1) ?_
    intro o' e zu2
    intro q
    have q' : D = p.1 := q
    rw [q', e] at hD; cases hD
/- a list comprehension over pairs -/
theorem rCompZ {elt iter : Expr} {xa xb : Str} {pa pb pt : Pos} {kt : Nat} {scope : Scope} {pos : Pos} {Q : Value → Shared → Prop} (Fy : Nat → Value → Prop) (hh : A.handled = none) (hE : EnvIs env L names)
    (hfree : (scope.names.all fun x => x.2 != .free) = true) (hcell : (scope.names.all fun x => x.2 != .cell) = true) (hkind : scope.kind = .function) (hnm : (scope.names.all fun y => y.2 != .local || scope.names.lookup y.1 == some .local) = true) (hxa : scope.names.lookup xa = some .local) (hxb : scope.names.lookup xb = some .local) (hab : (xa == xb) = false)
    (h : wpAny (model prog w) A (eval iter env) (fun xv s₁ => ∃ I fp wr n Pt Stt Mid m news, xv = .ref I ∧ WalksT prog w A I fp wr n Pt Stt Mid ∧ n ≤ 1000 ∧ Stt 0 s₁.heap ∧ (∀ b ∈ fp, b < s₁.heap.objs.size) ∧ (∀ b ∈ wr, b ≠ L ∧ h₀.get? b = none ∧ ∀ p ∈ news, p.1 ≠ b) ∧ St z h₀ L m news s₁ ∧
      (∀ i vals, Pt i vals → ∃ va vb, vals = #[va, vb]) ∧
      (∀ C cenv i va vb s₃ m₃ E', EnvIs cenv C scope.names → Pt i #[va, vb] → KS s₃ C m₃ s₃ → m₃ xa = some va → m₃ xb = some vb → wpAny (model prog w) A (eval elt cenv) (fun y s₄ => Fy i y ∧ KS s₃ C m₃ s₄) E' s₃) ∧
      (∀ D ys s', ys.length = n → (∀ i y, ys[i]? = some y → Fy i y) → St z h₀ L m ((D, isLst ys) :: news) s' → Q (.ref D) s')) E s)
    (hs : ∀ x, foldedSetIterable iter env x = pure x) :
    wpAny (model prog w) A (eval (.ListComp elt [⟨.Tuple [.Name xa pa, .Name xb pb] kt pt, iter, [], 0⟩] scope pos) env) Q E s := by
  have hfree' : ∀ y ∈ scope.names, y.2 ≠ .free := fun y hy => by simpa using List.all_eq_true.mp hfree y hy
  have hcell' : ∀ y ∈ scope.names, y.2 ≠ .cell := fun y hy => by simpa using List.all_eq_true.mp hcell y hy
  have hxx : xb ≠ xa := fun q => by rw [q] at hab; simp at hab
  rw [eval_ListComp]
  refine wpAny_comprehension_free (use := none) rfl hs (closureFor_none hfree') hkind (fun y hy hl => by have := List.all_eq_true.mp hnm y hy; simpa [hl] using this) (wpAny_mono h (fun xv s₁ h₁ => ?_) fun _ _ e => e)
  refine Mine.E9 h₁ ?_
  try clear h₁
  intro I fp wr n Pt Stt Mid m news zk9
  refine Mine.e0_10 zk9 ?_
  clear zk9
  intro zq3 W hsz hst hfp hwr D₁ hPt helt hQ
  subst zq3
  refine W.self 0 _ _ _ hst ?_
  refine wpAny_newObj_type (wpAny_newFunctionEnv hcell' (by intro y hy; simp at hy) (fun h₁ hns₁ hsb₁ => ?_) hkind)
  dsimp only at hns₁ hsb₁ ⊢
  generalize hH2 : s₁.heap.push { cls := .type "list", dict := none, data := .seq ([] : List Value).toArray } = H2 at hns₁ hsb₁ ⊢
  have hC : H2.objs.size = s₁.heap.objs.size + 1 := by rw [← hH2, Heap.size_push]
  have hDC : s₁.heap.objs.size ≠ H2.objs.size := by rw [hC]; exact Nat.ne_of_lt (Nat.lt_succ_self _)
  have below : ∀ b, b < s₁.heap.objs.size → b ≠ H2.objs.size ∧ b ≠ s₁.heap.objs.size := fun b hb => ⟨by rw [hC]; exact Nat.ne_of_lt (Nat.lt_succ_of_lt hb), Nat.ne_of_lt hb⟩
  have hDf : s₁.heap.objs.size ∉ fp := fun hm => Nat.lt_irrefl _ (hfp _ hm)
  have hCf : H2.objs.size ∉ fp := fun hm => by have := hfp _ hm; rw [hC] at this; exact Nat.lt_irrefl _ (Nat.lt_of_succ_lt this)
  have hCw : H2.objs.size ∉ wr := fun q => hCf (W.sub _ q)
  have hDw : s₁.heap.objs.size ∉ wr := fun q => hDf (W.sub _ q)
  have old : ∀ b o, s₁.heap.get? b = some o → h₁.get? b = some o := fun b o e => hsb₁.extBut b o (below b (Heap.lt_size e)).1 (Heap.get?_push_of_some _ (hH2 ▸ Heap.get?_push_of_some _ e))
  have hacc : h₁.get? s₁.heap.objs.size = some { cls := .type "list", data := .seq ([] : List Value).toArray 0 } := hsb₁.extBut _ _ hDC (Heap.get?_push_of_some _ (hH2 ▸ Heap.get?_push_size _ rfl))
  have hst₁ : Stt 0 h₁ := W.frame _ _ _ hst fun b _ o e => old b o e
  have fresh : s₁.heap.get? s₁.heap.objs.size = none := by
    cases e : s₁.heap.get? s₁.heap.objs.size with
    | none => rfl
    | some o' => exact absurd (Heap.lt_size e) (Nat.lt_irrefl _)
  have freshC : s₁.heap.get? H2.objs.size = none := by
    cases e : s₁.heap.get? H2.objs.size with
    | none => rfl
    | some o' => have := Heap.lt_size e; rw [hC] at this; exact absurd this (Nat.not_lt.mpr (Nat.le_succ _))
  have loop : ∀ s₃ : Shared, s₃ = { s₁ with heap := h₁, toks := s₁.toks + ([] : List (Str × Value)).length } →
      codeAny (model prog w) A (.compLoop (.ListComp elt [⟨.Tuple [.Name xa pa, .Name xb pb] kt pt, iter, [], 0⟩] scope pos) 0 (.ref I) (.ref s₁.heap.objs.size) (compEnvC scope [] H2.objs.size env))
        (compPost (model prog w) A E none Q (.ref s₁.heap.objs.size) H2.objs.size) s₃ := by
    rintro s₃ rfl
    refine LCp.codeAny_compLoop_pair
      (fun k s' => ∃ h' tk i ys m', s' = { s₁ with heap := h', toks := tk } ∧ 0 < tk ∧ i ≤ n ∧ k = n + 1 - i ∧ ys.length = i ∧ (∀ j y, ys[j]? = some y → Fy j y) ∧ Stt i h' ∧ h'.Ns H2.objs.size m' ∧
        (∃ c, h'.get? s₁.heap.objs.size = some { cls := .type "list", data := .seq (List.toArray ys) c }) ∧ ∀ b o, b ∉ wr → s₁.heap.get? b = some o → h'.get? b = some o) ?_ (n + 1)
      ⟨h₁, _, 0, [], _, rfl, Nat.lt_of_lt_of_le D₁.tk (Nat.le_add_right _ _), Nat.zero_le _, rfl, rfl, fun j y e => by simp at e, hst₁, hns₁, ⟨0, hacc⟩, fun b o _ e => old b o e⟩
    intro k s' zh4
    refine Mine.E5 zh4 ?_
    try clear zh4
    intro h' tk i ys m' zk10
    refine Mine.e0_10 zk10 ?_
    clear zk10
    intro zq5 htk hi zq6 hyl hFy hst' hn' zn7 hk'
    subst zq5
    subst zq6
    obtain ⟨c, hacc'⟩ := zn7
    by_cases hlt : i < n
    · refine posTok0 htk (W.item i _ _ _ hlt hst' fun T vals h₂ tk₂ hP _ hT hM hk₂ htk₂ => ?_)
      refine W.go _ _ _ i T _ _ _ hM fun h₃ hst₃ hk₃ => ?_
      refine Mine.e2_1 (hPt i vals hP) ?_
      intro va vb zq8
      subst zq8
      have hT₃ : h₃.IsTuple T #[va, vb] := hT.at fun o e => hk₃ _ o (W.apart _ _ _ hM) e
      refine assign_Tuple_tuple hh hT₃ rfl rfl fun h₅ he => ?_
      have he' : ∀ b o, h₃.get? b = some o → h₅.get? b = some o := fun b o e => he b o (Nat.ne_of_lt (Heap.lt_size e)) e
      have hn₅ : h₅.Ns H2.objs.size m' := ((hn'.at' fun o e => hk₂ _ o hCw e).at' fun o e => hk₃ _ o hCw e).at' fun o e => he' _ o e
      refine assignInOrder_cons (wpAny_assign_Name (wpAny_storeName_local (lookup_relabel_local hxa) hn₅ (fun h₆ hn₆ hs₆ => ?_) (by simp [compEnvC, relabel, hkind])))
      refine assignInOrder_cons (wpAny_assign_Name (wpAny_storeName_local (lookup_relabel_local hxb) hn₆ (fun h₇ hn₇ hs₇ => ?_) (by simp [compEnvC, relabel, hkind])))
      refine assignInOrder_nil ?_
      have up : ∀ b o, b ≠ H2.objs.size → b ∉ wr → h'.get? b = some o → h₇.get? b = some o := fun b o hb hw e => hs₇.extBut b o hb (hs₆.extBut b o hb (he' b o (hk₃ b o hw (hk₂ b o hw e))))
      have hst₇ : Stt (i + 1) h₇ := W.frame _ _ _ hst₃ fun b hb o e => hs₇.extBut b o (fun (q : b = H2.objs.size) => hCf (q ▸ hb)) (hs₆.extBut b o (fun (q : b = H2.objs.size) => hCf (q ▸ hb)) (he' b o e))
      refine wpAny_mono (helt H2.objs.size _ i va vb _ _ _ (envC hE hfree hkind) hP ⟨⟨h₇, _, rfl, fun _ _ e => e⟩, hn₇, ?_⟩ (by simp [Ne.symm hxx]) (by simp)) (fun y s₄ q => ?_) fun _ _ e => e
      · have htk₂' : 0 < tk₂ := htk₂
        show 0 < tk₂ + 1 + 1
        lia
      obtain ⟨hy, ⟨h₈, tk₈, rfl, hk₈⟩, hn₈, htk₈⟩ := q
      have hacc₈ := hk₈ _ _ (up _ _ hDC hDw hacc')
      refine append_at (hsz := by show ys.toArray.size ≤ sizeLine; rw [List.size_toArray, hyl, sizeLine_eq]; lia) hacc₈ fun h₉ hs₉ hD₉ => ?_
      refine ⟨n + 1 - (i + 1), by lia, h₉, tk₈, i + 1, ys ++ [y], _, rfl, htk₈, hlt, rfl, by rw [List.length_append, List.length_singleton, hyl], fun j x hj => ?_, W.frame _ _ _ hst₇ fun b hb o e => hs₉.extBut b o (fun q => hDf (q ▸ hb)) (hk₈ b o e),
        hn₈.sameBut hs₉ (Ne.symm hDC), ⟨_, hD₉.trans (by rw [List.push_toArray])⟩, fun b o hb e => ?_⟩
      · rcases Nat.lt_trichotomy j ys.length with q | q | q
        · exact hFy j x (by rwa [List.getElem?_append_left q] at hj)
        · subst q
          rw [List.getElem?_append_right (Nat.le_refl _), Nat.sub_self] at hj
          have : y = x := by simpa using hj
          subst this
          rw [hyl]; exact hy
        · rw [List.getElem?_eq_none (by rw [List.length_append, List.length_singleton]; lia)] at hj; cases hj
      · have hb' := below b (Heap.lt_size e)
        exact hs₉.extBut b o hb'.2 (hk₈ b o (up b o hb'.1 hb (hk' b o hb e)))
    · obtain rfl : i = n := Nat.le_antisymm hi (Nat.not_lt.mp hlt)
      refine posTok0 htk (W.done _ _ _ hst' fun h₂ tk₂ hk₂ htk₂ => ?_)
      refine ⟨m', hn'.at' fun o e => hk₂ _ o hCw e, fun h'' hs'' => ?_⟩
      refine hQ _ ys _ hyl hFy (D₁.compW hwr fresh ⟨c, hs''.extBut _ _ hDC (hk₂ _ _ hDw hacc')⟩ (fun b o hb e => hs''.extBut b o (below b (Heap.lt_size e)).1 (hk₂ b o hb (hk' b o hb e))) htk₂)
  exact codeAny_compStart_list (loop _ rfl) (W.self 0 _ _ _ hst₁ (loop _ rfl))
end
end Mine
end

section
open PySem PySem.W PySem.W.X PyProof.Rows PySem.Calls
set_option maxRecDepth 100000
open PySem.NumText
namespace Mine
section
variable {α β : Type} {M : Model} {A : Around} {E : Value → Shared → Prop} {s : Shared}
theorem wpC_iteT {c : Prop} [Decidable c] {a b : Sem α} {Q : α → Shared → Prop} (hc : c) (h : wpC M A a Q E s) : wpC M A (if c then a else b) Q E s := by rw [if_pos hc]; exact h
theorem wpC_iteF {c : Prop} [Decidable c] {a b : Sem α} {Q : α → Shared → Prop} (hc : ¬ c) (h : wpC M A b Q E s) : wpC M A (if c then a else b) Q E s := by rw [if_neg hc]; exact h
end
section
variable {prog : Program} {w : World} {A : Around} {E : Value → Shared → Prop} {s : Shared}
theorem cBuiltin {id : String} {args : Args} {b : Builtin} {R : Result → Shared → Prop} (hb : entryFor table id = some b)
    (h : wpC (model prog w) (A.under (.builtin id args)) (b args) (fun fin s' => match fin with | .done f => R (.ok f) s' | .again c' => c'.quiet = true ∧ codeC (model prog w) A c' R s') (fun e s' => R (.error e) s') s) : codeC (model prog w) A (.builtin id args) R s := by
  refine codeC_of_tree ?_
  show wpC _ _ (match entryFor table id with | some b => b args | none => unsupported ((withoutEnding? id "#data").getD id)) _ _ s
  rw [hb]; exact h
end
section
variable {w : World} {z : Shared} {prog : Program} {A : Around} {E : Value → Shared → Prop} {h₀ : Heap} {s : Shared} {L : Addr} {m : Str → Option Value} {news : List Ent} {x : Str} {t u : Tok} {Q : Value → Shared → Prop}
set_option maxHeartbeats 4000000 in
theorem cIntTxt (D : St z h₀ L m news s) (hh : A.handled = none) (hd : digits? 10 (core (numSeenOf x)) = none) (hl : x.length ≤ 640) (hrep : (reprText x).length ≤ sizeLine) (h : ∀ e s', St z h₀ L m ((e, isVE) :: news) s' → E (.ref e) s') :
    wpC (model prog w) A ((int_private% "intFromText") (.str x u) (numTextOf x) 10) Q E s := by
  have hs : (numSeenOf x).length ≤ 640 := Nat.le_trans (seen_length x) hl
  have hfin : ∀ tk v, 0 < tk → wpC (model prog w) A (newExc (.type "ValueError") [v] >>= fun r => markTheRefusal ["int.__new__"] r >>= fun _ => (raiseNew r : Sem Value)) Q E { s with toks := tk } := by
    intro tk v htk
    refine wpC_bindA (wpAny_newExc_plain plainExc_ValueError fun h' e hm => ?_)
    refine Mine.e1_2 (hm.there) ?_
    intro te he zu1
    have D₁ : St z h₀ L m ((e, isVE) :: news) { s with heap := h', toks := tk } := D.on tk (D.led.consF (fun b o q => hm.keeps b o q) hm.new he ⟨rfl, _, rfl⟩) htk
    refine wpC_bind (wpC_mark ?_)
    exact wpC_of (wpAny_raiseNew_none hh (h e _ D₁))
  obtain ⟨hp, g, d, tk, os⟩ := s
  have hr : (int_private% "readNumeral") 0 10 (numSeenOf x) = int_private% "Numeral.invalid" := by rw [readNumeral_ten, hd, judge_none]
  have hk := PySem.W.KIN.Hid.mk (And.intro hs hr)
  clear hs hr hl hd
  refine wpC_iteT hk.out.1 ?_
  refine wpC_bindA (wpAny_pure ?_)
  dsimp only
  rw [hk.out.2]
  dsimp only
  refine wpC_bindA ?_
  repeat (any_goals (first
    | assumption
    | wp_step))
  refine wpC_iteF Bool.false_ne_true ?_
  refine wpC_bindA (wpAny_rule ?_)
  refine wpC_bindA ?_
  repeat (any_goals (first
    | assumption
    | wp_step))
  dsimp only
  refine wpC_bindA (wpAny_pyRepr_str ?_ hrep)
  refine wpC_bindA (wpAny_mkStr (hfin _ _ (Nat.succ_pos _)) ?_)
  rw [Str.length_append, sizeLine_eq]
  have h1 : (Str.ofString (toString "invalid literal for int() with base " ++ toString 10 ++ toString ": ")).length = 40 := by decide +kernel
  have h2 : ({ cps := (reprText x).cps.extract 0 200 } : Str).length ≤ 200 := by
    show ((reprText x).cps.extract 0 200).size ≤ 200
    rw [Array.size_extract]; lia
  rw [h1]; lia
theorem cIntNo (D : St z h₀ L m news s) (hh : A.handled = none) (hd : digits? 10 (core (numSeenOf x)) = none) (hl : x.length ≤ 640) (hrep : (reprText x).length ≤ sizeLine) (h : ∀ e s', St z h₀ L m ((e, isVE) :: news) s' → E (.ref e) s') :
    wpC (model prog w) A (call (.type "int") [.str x t, .int 10 u]) Q E s := by
  refine wpC_call (codeC_of_tree ?_)
  show wpC _ _ (callAny (.type "int") _) _ _ _
  refine wpC_of (wpAny_pure ⟨Code.quiet_builtin _ (by decide +kernel), cBuiltin F.entry_type_call ?_⟩)
  rw [Around.under_plain (weight_type_call_type "int" _ []) (units_type_call_type "int" _ [])]
  unfold Builtin.«type.__call__»
  dsimp only
  have h1 := F.called_int.notType
  have h2 := F.called_int.canCreate
  refine Mine.e2_1 (F.called_int.mro) ?_
  intro c tl hmro
  refine wpC_iteF (by rw [h1]; exact Bool.false_ne_true) ?_
  refine wpC_iteF (by rw [h2]; exact Bool.false_ne_true) ?_
  refine wpC_bindA (wpAny_of_eq (a := ()) (by kernel_rfl) ?_)
  refine wpC_bindA (wpAny_of_eq hmro ?_)
  refine wpC_iteF (by exact Bool.false_ne_true) ?_
  refine wpC_bindA (wpAny_of_eq F.called_int.made ?_)
  dsimp only
  refine wpC_bindA (wpAny_pure ?_)
  refine wpC_bind (wpC_holding (wpC_call (cCallBuiltin F.called_int.plain F.entry_int_new (by kernel_rfl) ?_)))
  unfold Builtin.«int.__new__»
  dsimp only
  have f1 := F.conv_sub_int
  have f2 := F.madeHere_int
  have f6 : typeOf (.str x t) = pure (.type "str") := rfl
  refine wpC_bindA ?_
  repeat (any_goals (first | assumption | wp_step))
  refine wpC_iteF Bool.false_ne_true ?_
  refine wpC_bindA ?_
  repeat (any_goals (first | assumption | wp_step))
  refine wpC_iteF Bool.false_ne_true ?_
  refine wpC_bindA ?_
  repeat (any_goals (first | assumption | wp_step))
  refine wpC_iteF (by simp) ?_
  refine wpC_iteF (by simp) ?_
  simp only [List.forIn_nil]
  refine wpC_bindA (wpAny_pure ?_)
  dsimp only [List.head?]
  refine wpC_bindA ?_
  repeat (any_goals (first | assumption | wp_step))
  refine wpC_iteF (by simp) ?_
  refine wpC_bindA ?_
  repeat (any_goals (first | assumption | wp_step))
  dsimp only
  exact wpC_bind (cIntTxt D hh hd hl hrep h)
end
end Mine
end

section
open PySem PySem.W PySem.W.X PyProof.Rows PySem.Calls
set_option maxRecDepth 100000
namespace Mine
/- ## statements of the text above the caller -/
noncomputable def ForAtC (prog : Program) (w : World) (A : Around) (env : Env) (target : Expr) (body orelse : List Stmt) (K : Flow → Shared → Prop) (it : Value) (s : Shared) : Prop :=
  codeC (model prog w) A (.forLoop target it body orelse env) (fun r s' => match r with | .ok f => K f s' | .error _ => False) s
noncomputable def AndThenC (prog : Program) (w : World) (A : Around) (env : Env) (rest : List Stmt) (Q : Flow → Shared → Prop) (E : Value → Shared → Prop) (f : Flow) (s : Shared) : Prop := match f with
  | .next => wpC (model prog w) A (execs rest env) Q E s
  | f => Q f s
section
variable {w : World} {z : Shared} {prog : Program} {A : Around} {E : Value → Shared → Prop} {h₀ : Heap} {s : Shared} {L : Addr} {m : Str → Option Value} {news : List Ent} {env : Env} {names : List (Str × NameKind)} {rest : List Stmt}
theorem andThenC_next {Q : Flow → Shared → Prop} (h : wpC (model prog w) A (execs rest env) Q E s) : AndThenC prog w A env rest Q E .next s := h
theorem xForC {target iter : Expr} {body orelse : List Stmt} {p : Pos} {Q : Flow → Shared → Prop} (h : wpAny (model prog w) A (eval iter env) (fun x s₁ => wpAny (model prog w) A (pyIter x) (ForAtC prog w A env target body orelse (AndThenC prog w A env rest Q E)) E s₁) E s)
    (hs : ∀ x, foldedSetIterable iter env x = pure x) : wpC (model prog w) A (execs (.For target iter body orelse p :: rest) env) Q E s := by
  refine cExecs (wpC_mono (cFor h hs) (fun f s' q => ?_) fun _ _ e => e)
  cases f <;> exact q
theorem xIfTC {test : Expr} {body orelse : List Stmt} {p : Pos} {b : Bool} {Q : Flow → Shared → Prop} (_D : St z h₀ L m news s) (ht : wpAny (model prog w) A (isTrue test env (eval test env)) (TB z h₀ L m news b) E s)
    (hT : b = true → ∀ s₂, St z h₀ L m news s₂ → wpC (model prog w) A (execs body env) (AndThenC prog w A env rest Q E) E s₂) (hF : b = false → ∀ s₂, St z h₀ L m news s₂ → wpC (model prog w) A (execs orelse env) (AndThenC prog w A env rest Q E) E s₂) :
    wpC (model prog w) A (execs (.If test body orelse p :: rest) env) Q E s := by
  refine cExecs (wpC_mono (Q := AndThenC prog w A env rest Q E) (cIf (wpC_of (wpAny_mono ht (fun b' s₂ q => ?_) fun _ _ e => e))) (fun f s' q => ?_) fun _ _ e => e)
  · obtain ⟨rfl, q⟩ := q
    cases b'
    · exact hF rfl s₂ q
    · exact hT rfl s₂ q
  · cases f <;> exact q
/- an if whose test calls what may refuse -/
theorem xIfC {test : Expr} {body orelse : List Stmt} {p : Pos} {b : Bool} {I : Shared → Prop} {Q : Flow → Shared → Prop} (ht : wpC (model prog w) A (isTrue test env (eval test env)) (fun b' s₂ => b' = b ∧ I s₂) E s)
    (hT : b = true → ∀ s₂, I s₂ → wpC (model prog w) A (execs body env) (AndThenC prog w A env rest Q E) E s₂) (hF : b = false → ∀ s₂, I s₂ → wpC (model prog w) A (execs orelse env) (AndThenC prog w A env rest Q E) E s₂) :
    wpC (model prog w) A (execs (.If test body orelse p :: rest) env) Q E s := by
  refine cExecs (wpC_mono (Q := AndThenC prog w A env rest Q E) (cIf (wpC_mono ht (fun b' s₂ q => ?_) fun _ _ e => e)) (fun f s' q => ?_) fun _ _ e => e)
  · obtain ⟨rfl, q⟩ := q
    cases b'
    · exact hF rfl s₂ q
    · exact hT rfl s₂ q
  · cases f <;> exact q
theorem xTryC {body suite : List Stmt} {b₀ : Stmt} {t : Option Expr} {n : Option Str} {hp p : Pos} {Q : Flow → Shared → Prop} (hb : wpC (model prog w) A (execs body env) (AndThenC prog w A env rest Q E)
      (fun e s₁ => wpAny (model prog w) A (noteFrame e env) (fun _ s₂ => wpAny (model prog w) A (setFlight e none) (fun _ s₃ => wpAny (model prog w) A (handleBy e env [.ExceptHandler t n (b₀ :: suite) hp]) (AndThenC prog w A env rest Q E) E s₃) E s₂) E s₁) s) :
    wpC (model prog w) A (execs (.Try body [.ExceptHandler t n (b₀ :: suite) hp] [] [] p :: rest) env) Q E s := by
  refine cExecs (wpC_mono (cTry hb) (fun f s' q => ?_) fun _ _ e => e)
  cases f <;> exact q
/- a loop over a list that stays -/
theorem iterListC {x : Str} {px : Pos} {l : Addr} {vs : List Value} {body orelse : List Stmt} {K : Flow → Shared → Prop} (J : Nat → (Str → Option Value) → List Ent → Prop)
    (D : St z h₀ L m news s) (hh : A.handled = none) (hl₀ : s.heap.IsList l vs.toArray) (hj : J 0 m news)
    (hl : ∀ i m' news' e s', J i m' news' → St z h₀ L m' (e :: news') s' → s'.heap.IsList l vs.toArray)
    (turn : ∀ i v m' news' it s', vs[i]? = some v → J i m' news' → St z h₀ L m' ((it, isIt l (i + 1)) :: news') s' →
      wpAny (model prog w) A (storeName env x v) (fun _ s₂ => wpC (model prog w) A (execs body env) (TurnQ K fun s₃ => ∃ m₂ news₂, J (i + 1) m₂ news₂ ∧ St z h₀ L m₂ ((it, isIt l (i + 1)) :: news₂) s₃) (fun _ _ => False) s₂) (fun _ _ => False) s')
    (done : ∀ m' news' s', J vs.length m' news' → St z h₀ L m' news' s' → wpAny (model prog w) A (execs orelse env) K (fun _ _ => False) s') :
    wpAny (model prog w) A (pyIter (.ref l)) (ForAtC prog w A env (.Name x px) body orelse K) E s := by
  refine wpAny_pyIter_list hl₀ ?_
  have D₀ := D.on (s := s) s.toks (D.led.push (P := isIt l 0) (o := { cls := .type "list_iterator", data := .fields #[.ref l, .int 0 0] }) rfl ⟨rfl, rfl⟩)
  generalize hit : s.heap.objs.size = it at D₀ ⊢
  refine cForLoop (fun n s' => ∃ i m' news', i + n = vs.length ∧ J i m' news' ∧ St z h₀ L m' ((it, isIt l i) :: news') s') (fun n s' hI => ?_) vs.length ⟨0, m, news, by lia, hj, D₀⟩
  refine Mine.e3_3 hI ?_
  try clear hI
  intro i m' news' hin hJ D'
  have hL := hl i m' news' _ s' hJ D'
  have hI : s'.heap.IsListIter it l i := D'.get (.head _)
  cases n with
  | zero =>
    refine wpAny_pyNext_list_end hh hI hL (by simp; lia) fun h' he => ?_
    have hi : i = vs.length := by lia
    subst hi
    exact done m' news' _ hJ (D'.drop he)
  | succ n =>
    have hlt : i < vs.length := by lia
    refine wpAny_pyNext_list_item hI hL (x := vs[i]) (by simp [hlt]) fun h' hit' hs => ?_
    have D'' : St z h₀ L m' ((it, isIt l (i + 1)) :: news') { s' with heap := h' } := D'.turn s'.toks .head (fun b o hb e => (hs.2 b hb).trans e) hit'
    show wpAny (model prog w) A (pure ()) _ _ _
    refine wpAny_pure ?_
    show wpAny (model prog w) A (do standAt px; bindName env x vs[i]) _ _ _
    refine wpAny_bind (wpAny_standAt (wpAny_bindName ?_))
    refine wpAny_mono (turn i vs[i] m' news' it _ (by simp [hlt]) hJ D'') (fun _ s₂ q => wpC_mono q (fun f s₃ q3 => ?_) fun _ _ q => q.elim) fun _ _ q => q.elim
    cases f with
    | next => obtain ⟨m₂, news₂, j, d⟩ := q3; exact ⟨n, by lia, i + 1, m₂, news₂, by lia, j, d⟩
    | cont => obtain ⟨m₂, news₂, j, d⟩ := q3; exact ⟨n, by lia, i + 1, m₂, news₂, by lia, j, d⟩
    | brk => exact q3
    | ret v => exact q3
/- calls -/
theorem cfT2C {pos : Pos} {T : String} {e f : Expr} {Q : Value → Shared → Prop} (h : wpAny (model prog w) A (eval e env) (fun v s₁ => wpAny (model prog w) A (eval f env) (fun v₂ s₂ => wpC (model prog w) A (call (.type T) [v, v₂]) Q E s₂) E s₁) E s)
    (he : starEach [e, f] env = (false, eval e env) :: starEach [f] env) (he2 : starEach [f] env = (false, eval f env) :: starEach [] env) :
    wpC (model prog w) A (callWith pos (.type T) [] (backTo pos (starEach [e, f] env)) []) Q E s := by
  have hs : wpAny (model prog w) A (spliced (backTo pos (starEach [e, f] env))) (fun vs s₂ => wpC (model prog w) A (call (.type T) vs) Q E s₂) E s :=
    splC (wpAny_mono h (fun v s₁ q => splC (wpAny_mono q (fun v₂ s₂ q₂ => splN q₂) fun _ _ e => e) he2) fun _ _ e => e) he
  rw [he] at hs ⊢
  exact cCallType (by show (false || (backTo pos (starEach [f] env)).any (·.1)) = false; rw [he2]; rfl) (evalArgs_plain hs)
/- as `enterH`, above the caller -/
theorem enterHC {f : Addr} {name qual : Str} {params : Arguments} {body : List Stmt} {scope : Scope} {cl : List (Str × Addr)} {dV kV doc pm cdv ct oc : Value} {an od : Option Addr} {osl : Array (Option Value)} {args : List Value} {binds : List (Str × Value)} {Q : Value → Shared → Prop}
    (D : St z h₀ L m news s) (B : Gd w h₀) (hst : (cStatics, isStat z) ∈ news) (ho : (hd.heap_1 w.params).lookup f = some ⟨oc, od, .func (fnX name qual params body scope cl dV kV doc pm an cdv ct), osl⟩) (hcd : codeIn (hd.heap_1 w.params) cdv qual = true)
    (hroom : A.depth < recursionLimit) (hbind : BindsTo s (fnX name qual params body scope cl dV kV doc pm an cdv ct) ⟨args, []⟩ binds) (hcell : (scope.names.all fun x => x.2 != .cell) = true) (hloc : (binds.all fun x => scope.names.lookup x.1 == some .local) = true)
    (hco : scope.isCoroutine = false) (hgen : scope.isGenerator = false) (hk : scope.kind = .function)
    (k : ∀ g₁ L' s₁ env, St z g₁ L' (bm binds fun _ => none) ((L, isNs m) :: news) s₁ → Gd w g₁ → EnvIs env L' scope.names → env = callEnv (fnX name qual params body scope cl dV kV doc pm an cdv ct) L' f → (∀ m₂ news₂ s₂, St z g₁ L' m₂ ((L, isNs m) :: news₂) s₂ → St z h₀ L m news₂ s₂) →
      wpC (model prog w) (A.deeper env) (execs body env) (fun fl s' => Q (match fl with | .ret v => v | _ => .none) s') (fun _ _ => False) s₁) :
    wpC (model prog w) A (call (.ref f) args) Q E s := by
  have F := D.led.fr
  have N := D.led.nw
  have nL0 : h₀.get? L = none := by
    cases q : h₀.get? L with
    | none => rfl
    | some o => exact absurd (Heap.lt_size q) (Nat.not_lt.mpr F.above)
  have nm : ∀ b o, h₀.get? b = some o → b ∉ L :: news.map (·.1) := fun b o e q => by
    rcases List.mem_cons.mp q with q | q
    · rw [q, nL0] at e; cases e
    · refine Mine.e1_2 (List.mem_map.mp q) ?_
      intro p hp zq1
      subst zq1
      rw [(N p hp).2.2] at e; cases e
  have st : ∀ b o, h₀.get? b = some o → (hideAll s.heap (L :: news.map (·.1))).get? b = some o := fun b o e => hideAll_get _ (F.keep b o e) (nm b o e)
  refine Mine.e3_4 (F.ns) ?_
  intro oL es ep hL hLd hLk hLf
  have X := D.X B
  refine wpC_call (cCallDef (body := body) (binds := binds) hroom (X _ _ (kx_func ho)) rfl (D.nl hst) (codeRec_of X (kx_code hcd)) rfl hbind (fun x hx => by have := List.all_eq_true.mp hcell x hx; simpa using this) (fun x hx => by have := List.all_eq_true.mp hloc x hx; simpa using this) (fun h₁ hns hk₁ => ?_) hco hgen hk)
  have hns' : h₁.Ns s.heap.objs.size (bm binds fun _ => none) := by
    have e : (bm binds fun _ => none) = fun x => binds.reverse.lookup x := by
      funext x; rw [bm_look]; cases binds.reverse.lookup x <;> rfl
    rw [e]; exact hns
  refine wpC_mono (k (hideAll s.heap (L :: news.map (·.1))) s.heap.objs.size _ _ ⟨⟨⟨hns', fun b o e => hk₁ b o (of_hideAll _ e), Nat.le_of_eq (hideAll_size _ _)⟩, fun p hp => ?_, ?_⟩, D.dr, D.os, D.gb, Nat.lt_of_lt_of_le D.tk (Nat.le_add_right _ _)⟩ (B.keeps st (by rw [hideAll_size]; exact Nat.le_trans B.sz (Nat.le_trans F.above (Nat.le_of_lt F.ns.lt)))) ⟨hk, rfl, rfl, rfl, rfl⟩ rfl fun m₂ news₂ s₂ D₂ => ?_) (fun fl s' q => q) fun _ _ q => q.elim
  · rcases List.mem_cons.mp hp with rfl | hp
    · exact ⟨⟨oL, hk₁ _ _ hL, es, ep, hLd, hLk, hLf⟩, Nat.ne_of_lt (Heap.lt_size hL), hideAll_none _ (.head _)⟩
    · exact ⟨let ⟨o, e, q⟩ := (N p hp).1; ⟨o, hk₁ _ _ e, q⟩, let ⟨_, e, _⟩ := (N p hp).1; Nat.ne_of_lt (Heap.lt_size e), hideAll_none _ (.tail _ (List.mem_map_of_mem hp))⟩
  · refine List.Pairwise.cons (fun b hb => ?_) D.led.ord
    refine Mine.e1_2 (List.mem_map.mp hb) ?_
    intro p hp zq2
    subst zq2
    exact Ne.symm (N p hp).2.1
  have F₂ := D₂.led.fr
  have N₂ := D₂.led.nw
  obtain ⟨⟨o₂, e₂, es₂, ep₂, a1, a2, a3⟩, _⟩ := N₂ _ (.head _)
  refine ⟨⟨⟨⟨o₂, es₂, ep₂, e₂, a1, a2, a3⟩, fun b o e => F₂.keep b o (st b o e), F.above⟩, fun p hp => ⟨(N₂ p (.tail _ hp)).1, ?_, ?_⟩, (List.pairwise_cons.mp D₂.led.ord).2⟩, D₂.dr, D₂.os, D₂.gb, D₂.tk⟩
  · exact Ne.symm ((List.pairwise_cons.mp D₂.led.ord).1 p.1 (List.mem_map_of_mem hp))
  · cases q : h₀.get? p.1 with
    | none => rfl
    | some o => have := (N₂ p (.tail _ hp)).2.2; rw [st _ _ q] at this; cases this
end
end Mine
end

section
open PySem PySem.W PySem.W.X PyProof.Rows PySem.Calls
open Builtin
set_option maxRecDepth 100000
set_option maxHeartbeats 1000000
namespace Mine
section
variable {w : World} {z : Shared} {prog : Program} {A : Around} {E : Value → Shared → Prop} {h₀ : Heap} {s : Shared} {L : Addr} {m : Str → Option Value} {news : List Ent} {env : Env} {names : List (Str × NameKind)} {rest : List Stmt}
/- ## zip of two lists, sum of a list, lists that differ -/
theorem rZip2 {l1 l2 : Addr} {xs ys : List Value} {Q : Value → Shared → Prop} (hh : A.handled = none) (D : St z h₀ L m news s) (h1 : (l1, isLst xs) ∈ news) (h2 : (l2, isLst ys) ∈ news)
    (h : ∀ I fp wr Stt Mid s', WalksT prog w A I fp wr (min xs.length ys.length) (fun i vals => ∃ x y, xs[i]? = some x ∧ ys[i]? = some y ∧ vals = #[x, y]) Stt Mid → Stt 0 s'.heap → (∀ b ∈ fp, b < s'.heap.objs.size) →
      (∀ b ∈ wr, b ≠ L ∧ h₀.get? b = none ∧ ∀ p ∈ news, p.1 ≠ b) → St z h₀ L m news s' → Q (.ref I) s') : wpAny (model prog w) A (call (.type "zip") [.ref l1, .ref l2]) Q E s := by
  refine call_zip_2 (D.lst h1).isList (D.lst h2).isList fun h' hz hTI hTO hi1 hi2 hsz hk => ?_
  have b1 : (l1 : Nat) < s.heap.objs.size := D.ltB h1
  have b2 : (l2 : Nat) < s.heap.objs.size := D.ltB h2
  have Z : ZipApart (s.heap.objs.size + 4) (s.heap.objs.size + 2) (s.heap.objs.size + 3) s.heap.objs.size (s.heap.objs.size + 1) l1 l2 := by
    constructor <;> first | exact Nat.ne_of_lt (Nat.lt_of_lt_of_le b1 (Nat.le_add_right _ _)) | exact Nat.ne_of_lt (Nat.lt_of_lt_of_le b2 (Nat.le_add_right _ _)) | exact Nat.ne_of_lt b1 | exact Nat.ne_of_lt b2 | exact Nat.ne_of_lt (Nat.lt_add_of_pos_right (by decide)) | exact (Nat.ne_of_lt (Nat.lt_add_of_pos_right (by decide))).symm | exact fun q => absurd (Nat.add_left_cancel (show (_ : Nat) + _ = _ + _ from q)) (by decide)
  have W := WalksT.zip2 (prog := prog) (w := w) hh _ _ _ _ _ _ _ Z xs.toArray ys.toArray
  have D' : St z h₀ L m news { s with heap := h' } := D.keeps s.toks hk
  have W' := W
  simp only [List.size_toArray, List.getElem?_toArray] at W'
  refine h _ _ _ _ _ _ W' ⟨hz, hTI, ⟨_, _, hTO⟩, hi1, hi2, (D'.lst h1).isList, (D'.lst h2).isList⟩ (fun b hb => ?_) (fun b hb => ?_) D'
  · show b < h'.objs.size
    rw [hsz]
    simp only [List.mem_cons, List.not_mem_nil, or_false] at hb
    rcases hb with rfl | rfl | rfl | rfl | rfl | rfl | rfl <;> first | exact Nat.lt_of_lt_of_le b1 (Nat.le_add_right _ _) | exact Nat.lt_of_lt_of_le b2 (Nat.le_add_right _ _) | exact Nat.lt_add_of_pos_right (by decide) | exact Nat.add_lt_add_left (by decide) _
  · have hb' : s.heap.objs.size ≤ b := by
      simp only [List.mem_cons, List.not_mem_nil, or_false] at hb
      rcases hb with rfl | rfl | rfl | rfl <;> first | exact Nat.le_refl _ | (show (_ : Nat) ≤ _; lia)
    refine Mine.e0_3 (D.freshB hb') ?_
    intro c1 c2 c3
    exact ⟨c3, c2, fun p hp q => c1 (by rw [← q]; exact List.mem_map_of_mem hp)⟩
theorem rSum {l : Addr} {vs : List Value} {ns : List Int} {Q : Value → Shared → Prop} (hh : A.handled = none) (D : St z h₀ L m news s) (hl : (l, isLst vs) ∈ news) (hi : IntsAre vs ns) (h : ∀ t s', St z h₀ L m news s' → Q (.int ns.sum t) s') :
    wpAny (model prog w) A (call (.builtin "sum") [.ref l]) Q E s := by
  obtain ⟨xs, e⟩ := hi.allInts.items
  have hn := hi.numsOf
  rw [show vs = (intItems xs).toList from by rw [← e], nums_intItems] at hn
  refine posTok0 D.tk (sum_intListG hh (l := l) (xs := xs) (by rw [← e]; exact (D.lst hl).isList) fun h' tk t' hk htk => ?_)
  rw [preSum_eq, List.take_of_length_le (by simp), hn]
  exact h _ _ (D.keeps tk hk htk)
theorem rNeL {a b : Addr} {vs ws : List Value} {ds es : List PyData} {Q : Value → Shared → Prop} (D : St z h₀ L m news s) (ha : (a, isLst vs) ∈ news) (hb : (b, isLst ws) ∈ news) (h1 : CarriedAll vs ds) (h2 : CarriedAll ws es) (s1 : SeqAt.shaped (.list ds) = true) (s2 : SeqAt.shaped (.list es) = true)
    (hu : A.units + 64 < cLine) (h : Q (.bool (!PyData.eqv (.list ds) (.list es))) s) : wpAny (model prog w) A (compareOp .NotEq (.ref a) (.ref b)) Q E s := by
  obtain ⟨n, ho⟩ := D.lst ha
  obtain ⟨n', ho'⟩ := D.lst hb
  exact ne_dataH (reads_list_at ho rfl rfl (h1.reads _)) (reads_list_at ho' rfl rfl (h2.reads _)) s1 s2 hu h
/- ## a loop over a tuple that stays -/
noncomputable def isTI (t : Addr) (i : Nat) : Obj → Prop := fun o => o.cls = .type "tuple_iterator" ∧ o.data = .fields #[.ref t, .int i 0]
theorem goTupT {elts : List Expr} {x1 : Nat} {pos : Pos} {I l T : Addr} {i : Nat} {Q : Unit → Shared → Prop} (hit : s.heap.IsTupleIter I l i) (hQ : Q () s) :
    wpAny (model prog w) A (letOwnedTupleGo (.Tuple elts x1 pos) (.ref I) (.ref T)) Q E s := by
  refine Mine.e1_3 hit ?_
  try clear hit
  intro o ho hc hd
  unfold letOwnedTupleGo
  refine wpAny_bind (wpAny_load ho ?_)
  rw [hc, hd]
  show wpAny _ A (if (["enumerate", "zip", "dict_itemiterator", "dict_reverseitemiterator", "odict_iterator", "itertools.zip_longest", "itertools.pairwise"].contains "tuple_iterator" &&
      (#[.ref l, .int i 0] : Array Value)[0]? == some (rawInt T)) = true then _ else _) Q E s
  rw [if_neg (by
    intro h
    rw [show (["enumerate", "zip", "dict_itemiterator", "dict_reverseitemiterator", "odict_iterator", "itertools.zip_longest", "itertools.pairwise"].contains "tuple_iterator") = false from by decide, Bool.false_and] at h
    cases h)]
  exact wpAny_pure hQ
theorem iterTplC {target : Expr} {t : Addr} {vs : List Value} {body orelse : List Stmt} {K : Flow → Shared → Prop} (J : Nat → (Str → Option Value) → List Ent → Prop)
    (D : St z h₀ L m news s) (hh : A.handled = none) (hj : J 0 m news) (hl : ∀ i m' news', J i m' news' → (t, isTpl vs) ∈ news')
    (hgo : ∀ it i v (s' : Shared) (Q : Unit → Shared → Prop), s'.heap.IsTupleIter it t i → v ∈ vs → Q () s' → wpAny (model prog w) A (letOwnedTupleGo target (.ref it) v) Q (fun _ _ => False) s')
    (turn : ∀ i v m' news' it s', vs[i]? = some v → J i m' news' → St z h₀ L m' ((it, isTI t (i + 1)) :: news') s' →
      wpAny (model prog w) A (assign target env v) (fun _ s₂ => wpC (model prog w) A (execs body env) (TurnQ K fun s₃ => ∃ m₂ news₂, J (i + 1) m₂ news₂ ∧ St z h₀ L m₂ ((it, isTI t (i + 1)) :: news₂) s₃) (fun _ _ => False) s₂) (fun _ _ => False) s')
    (done : ∀ m' news' s', J vs.length m' news' → St z h₀ L m' news' s' → wpAny (model prog w) A (execs orelse env) K (fun _ _ => False) s') :
    wpAny (model prog w) A (pyIter (.ref t)) (ForAtC prog w A env target body orelse K) E s := by
  have tup : ∀ {m' : Str → Option Value} {news' : List Ent} {s' : Shared}, St z h₀ L m' news' s' → (t, isTpl vs) ∈ news' → s'.heap.IsTuple t vs.toArray := fun D' hm => by
    obtain ⟨o, ho, n, rfl⟩ := D'.get hm
    exact ⟨_, ho, rfl, n, rfl⟩
  refine wpAny_pyIter_tuple (tup D (hl 0 m news hj)) ?_
  have D₀ := D.on (s := s) s.toks (D.led.push (P := isTI t 0) (o := { cls := .type "tuple_iterator", data := .fields #[.ref t, .int 0 0] }) rfl ⟨rfl, rfl⟩)
  generalize hit : s.heap.objs.size = it at D₀ ⊢
  refine cForLoop (fun n s' => ∃ i m' news', i + n = vs.length ∧ J i m' news' ∧ St z h₀ L m' ((it, isTI t i) :: news') s') (fun n s' hI => ?_) vs.length ⟨0, m, news, by lia, hj, D₀⟩
  refine Mine.e3_3 hI ?_
  try clear hI
  intro i m' news' hin hJ D'
  have hL := tup D' (.tail _ (hl i m' news' hJ))
  have hI : s'.heap.IsTupleIter it t i := D'.get (.head _)
  cases n with
  | zero =>
    refine wpAny_pyNext_tuple_end hh hI hL (by simp; lia) fun h' he => ?_
    have hi : i = vs.length := by lia
    subst hi
    exact done m' news' _ hJ (D'.drop he)
  | succ n =>
    have hlt : i < vs.length := by lia
    refine wpAny_pyNext_tuple_item hI hL (x := vs[i]) (by simp [hlt]) fun h' hit' hs => ?_
    have D'' : St z h₀ L m' ((it, isTI t (i + 1)) :: news') { s' with heap := h' } := D'.turn s'.toks .head (fun b o hb e => (hs.2 b hb).trans e) hit'
    refine hgo it (i + 1) vs[i] _ _ hit' (List.getElem_mem _) ?_
    refine wpAny_mono (turn i vs[i] m' news' it _ (by simp [hlt]) hJ D'') (fun _ s₂ q => wpC_mono q (fun f s₃ q3 => ?_) fun _ _ q => q.elim) fun _ _ q => q.elim
    cases f with
    | next => obtain ⟨m₂, news₂, j, d⟩ := q3; exact ⟨n, by lia, i + 1, m₂, news₂, by lia, j, d⟩
    | cont => obtain ⟨m₂, news₂, j, d⟩ := q3; exact ⟨n, by lia, i + 1, m₂, news₂, by lia, j, d⟩
    | brk => exact q3
    | ret v => exact q3
/- ## the law's own call -/
theorem enterTopC {f : Addr} {name qual : Str} {params : Arguments} {body : List Stmt} {scope : Scope} {cl : List (Str × Addr)} {dV kV doc pm cdv ct oc : Value} {an od : Option Addr} {osl : Array (Option Value)} {args : List Value} {binds : List (Str × Value)} {Q : Value → Shared → Prop}
    (hN : ∀ p ∈ news, ∃ o, z.heap.get? p.1 = some o ∧ p.2 o) (hord : (news.map (·.1)).Pairwise (· ≠ ·)) (B : Gd w (hideAll z.heap (news.map (·.1)))) (hgb : AllBare z.gens) (hlim : z.heap.NoLimit)
    (ho : (hd.heap_1 w.params).lookup f = some ⟨oc, od, .func (fnX name qual params body scope cl dV kV doc pm an cdv ct), osl⟩) (hcd : codeIn (hd.heap_1 w.params) cdv qual = true)
    (hroom : A.depth < recursionLimit) (hbind : BindsTo z (fnX name qual params body scope cl dV kV doc pm an cdv ct) ⟨args, []⟩ binds) (hb0 : binds ≠ []) (hcell : (scope.names.all fun x => x.2 != .cell) = true) (hloc : (binds.all fun x => scope.names.lookup x.1 == some .local) = true)
    (hco : scope.isCoroutine = false) (hgen : scope.isGenerator = false) (hk : scope.kind = .function)
    (k : ∀ L' s₁ env, St z (hideAll z.heap (news.map (·.1))) L' (bm binds fun _ => none) news s₁ → EnvIs env L' scope.names → env = callEnv (fnX name qual params body scope cl dV kV doc pm an cdv ct) L' f →
      wpC (model prog w) (A.deeper env) (execs body env) (fun fl s' => Q (match fl with | .ret v => v | _ => .none) s') (fun _ _ => False) s₁) :
    wpC (model prog w) A (call (.ref f) args) Q E z := by
  have X : (Kx w.params).In z.heap := fun a o e => of_hideAll _ (B.X a o e)
  refine wpC_call (cCallDef (body := body) (binds := binds) hroom (X _ _ (kx_func ho)) rfl hlim (codeRec_of X (kx_code hcd)) rfl hbind (fun x hx => by have := List.all_eq_true.mp hcell x hx; simpa using this) (fun x hx => by have := List.all_eq_true.mp hloc x hx; simpa using this) (fun h₁ hns hk₁ => ?_) hco hgen hk)
  have hns' : h₁.Ns z.heap.objs.size (bm binds fun _ => none) := by
    have e : (bm binds fun _ => none) = fun x => binds.reverse.lookup x := by
      funext x; rw [bm_look]; cases binds.reverse.lookup x <;> rfl
    rw [e]; exact hns
  refine wpC_mono (k z.heap.objs.size _ _ ⟨⟨⟨hns', fun b o e => hk₁ b o (of_hideAll _ e), Nat.le_of_eq (hideAll_size _ _)⟩, fun p hp => ?_, hord⟩, rfl, rfl, hgb, ?_⟩ ⟨hk, rfl, rfl, rfl, rfl⟩ rfl) (fun fl s' q => q) fun _ _ q => q.elim
  · refine Mine.e1_2 (hN p hp) ?_
    intro o e q
    exact ⟨⟨o, hk₁ _ _ e, q⟩, Nat.ne_of_lt (Heap.lt_size e), hideAll_none _ (List.mem_map_of_mem hp)⟩
  · show 0 < z.toks + binds.length
    have := List.length_pos_iff.mpr hb0
    lia
end
end Mine
end

section
open PySem PyProof.Rows
namespace Mine
open Builtin Builtin.Str StrLaws
/- ## the ranks of a text -/
noncomputable def S0 : RS := ⟨[], Str.ofString "", Str.ofString ""⟩
noncomputable def F (xs : List Nat) : List PyData := ((xs ++ [46]).foldl rstep S0).due
theorem e0 (x : Str) : Str.ofString "" ++ x = x := Str.ext' (by rw [Str.cps_append]; have e : (Str.ofString "").cps = #[] := by decide +kernel
                                                                rw [e]; simp)
theorem l0 : (Str.ofString "").length = 0 := by decide +kernel
theorem rstep_app (d d' : List PyData) (lt fg : Str) (c : Nat) : rstep ⟨d ++ d', lt, fg⟩ c = ⟨d ++ (rstep ⟨d', lt, fg⟩ c).due, (rstep ⟨d', lt, fg⟩ c).lt, (rstep ⟨d', lt, fg⟩ c).fg⟩ := by
  unfold rstep rs1
  by_cases h1 : lt.length ≠ 0 ∧ isLet c = false
  · simp only [if_pos h1]
    unfold rs2
    by_cases h2 : fg.length ≠ 0 ∧ isDg c = false
    · simp only [if_pos h2]
      unfold rs3
      split
      · simp
      · split <;> simp
    · simp only [if_neg h2]
      unfold rs3
      split
      · simp
      · split <;> simp
  · simp only [if_neg h1]
    unfold rs2
    by_cases h2 : fg.length ≠ 0 ∧ isDg c = false
    · simp only [if_pos h2]
      unfold rs3
      split
      · simp
      · split <;> simp
    · simp only [if_neg h2]
      unfold rs3
      split
      · simp
      · split <;> simp
theorem fo_app (xs : List Nat) : ∀ (d d' : List PyData) (lt fg : Str), xs.foldl rstep ⟨d ++ d', lt, fg⟩ = ⟨d ++ (xs.foldl rstep ⟨d', lt, fg⟩).due, (xs.foldl rstep ⟨d', lt, fg⟩).lt, (xs.foldl rstep ⟨d', lt, fg⟩).fg⟩ := by
  induction xs with
  | nil => intro d d' lt fg; rfl
  | cons c r ih =>
    intro d d' lt fg
    rw [List.foldl_cons, List.foldl_cons, rstep_app, ih]
/- signs that part the runs -/
noncomputable def isSp (c : Nat) : Bool := !isDg c && !isLet c
theorem isSp_iff {c : Nat} : isSp c = true ↔ isDg c = false ∧ isLet c = false := by unfold isSp; simp
theorem rstep_sp {r : RS} {c : Nat} (h : isSp c = true) : rstep r c = rstep r 46 ∧ (rstep r c).lt = Str.ofString "" ∧ (rstep r c).fg = Str.ofString "" ∨ False := by
  obtain ⟨h1, h2⟩ := isSp_iff.mp h
  have g1 : isDg 46 = false := by decide
  have g2 : isLet 46 = false := by decide
  left
  have z : ∀ x : Str, ¬ x.length ≠ 0 → x = Str.ofString "" := fun x hx => by
    have e : x.length = 0 := by lia
    apply Str.ext'
    have e2 : (Str.ofString "").cps = #[] := by decide +kernel
    rw [e2]
    exact Array.eq_empty_of_size_eq_zero e
  unfold rstep rs1 rs2 rs3
  rw [h1, h2, g1, g2]
  obtain ⟨d, lt, fg⟩ := r
  by_cases a : lt.length ≠ 0 <;> by_cases b : fg.length ≠ 0 <;> simp [a, b, z, l0] <;> simp_all [l0]
theorem F_nil : F [] = [] := by
  unfold F S0
  show (rstep ⟨[], Str.ofString "", Str.ofString ""⟩ 46).due = []
  unfold rstep rs1 rs2 rs3
  have g1 : isDg 46 = false := by decide
  have g2 : isLet 46 = false := by decide
  simp [l0, g1, g2]
theorem fo_sp (xs : List Nat) {c : Nat} (h : isSp c = true) : (xs ++ [c]).foldl rstep S0 = ⟨F xs, Str.ofString "", Str.ofString ""⟩ := by
  rw [List.foldl_append]
  show rstep (xs.foldl rstep S0) c = _
  rcases rstep_sp (r := xs.foldl rstep S0) h with ⟨a, b, d⟩ | h
  · have e : F xs = (rstep (xs.foldl rstep S0) c).due := by
      unfold F; rw [List.foldl_append, a]; rfl
    rw [e, ← b]
    conv => rhs; rw [b]
    generalize rstep (xs.foldl rstep S0) c = r at *
    obtain ⟨x, y, z⟩ := r
    simp only at b d
    subst b; subst d; rfl
  · exact h.elim
theorem F_sep (xs ys : List Nat) {c : Nat} (h : isSp c = true) : F (xs ++ c :: ys) = F xs ++ F ys := by
  unfold F
  rw [show xs ++ c :: ys ++ [46] = (xs ++ [c]) ++ (ys ++ [46]) by simp, List.foldl_append, fo_sp xs h]
  have := fo_app (ys ++ [46]) (F xs) [] (Str.ofString "") (Str.ofString "")
  rw [List.append_nil] at this
  rw [this]; rfl
theorem F_cons (ys : List Nat) {c : Nat} (h : isSp c = true) : F (c :: ys) = F ys := by
  have := F_sep [] ys h
  rw [F_nil] at this; simpa using this
theorem F_snoc (xs : List Nat) {c : Nat} (h : isSp c = true) : F (xs ++ [c]) = F xs := by
  have := F_sep xs [] h
  rw [F_nil, List.append_nil] at this; exact this
/- a run of letters -/
theorem isLet_dg {c : Nat} (h : isLet c = true) : isDg c = false := by
  unfold isLet at h; unfold isDg; simp at h ⊢; lia
theorem fo_let (d : List PyData) : ∀ (a : List Nat) (lt : Str), (∀ c ∈ a, isLet c = true) → a.foldl rstep ⟨d, lt, Str.ofString ""⟩ = ⟨d, lt ++ ⟨a.toArray⟩, Str.ofString ""⟩
  | [], lt, _ => by
    have : lt ++ (⟨([] : List Nat).toArray⟩ : Str) = lt := Str.ext' (by rw [Str.cps_append]; simp)
    rw [this]; rfl
  | c :: r, lt, h => by
    have hc := h c (.head _)
    have e : rstep ⟨d, lt, Str.ofString ""⟩ c = ⟨d, lt ++ ⟨#[c]⟩, Str.ofString ""⟩ := by
      unfold rstep rs1 rs2 rs3
      simp [hc, isLet_dg hc, l0]
    rw [List.foldl_cons, e, fo_let d r _ fun x hx => h x (.tail _ hx)]
    have : lt ++ (⟨#[c]⟩ : Str) ++ ⟨r.toArray⟩ = lt ++ ⟨(c :: r).toArray⟩ := Str.ext' (by simp only [Str.cps_append]; simp)
    rw [this]
theorem fo_dg (d : List PyData) : ∀ (a : List Nat) (fg : Str), (∀ c ∈ a, isDg c = true) → a.foldl rstep ⟨d, Str.ofString "", fg⟩ = ⟨d, Str.ofString "", fg ++ ⟨a.toArray⟩⟩
  | [], fg, _ => by
    have : fg ++ (⟨([] : List Nat).toArray⟩ : Str) = fg := Str.ext' (by rw [Str.cps_append]; simp)
    rw [this]; rfl
  | c :: r, fg, h => by
    have hc := h c (.head _)
    have e : rstep ⟨d, Str.ofString "", fg⟩ c = ⟨d, Str.ofString "", fg ++ ⟨#[c]⟩⟩ := by
      unfold rstep rs1 rs2 rs3
      simp [hc, l0]
    rw [List.foldl_cons, e, fo_dg d r _ fun x hx => h x (.tail _ hx)]
    have : fg ++ (⟨#[c]⟩ : Str) ++ ⟨r.toArray⟩ = fg ++ ⟨(c :: r).toArray⟩ := Str.ext' (by simp only [Str.cps_append]; simp)
    rw [this]
theorem len_mk (a : List Nat) : (⟨a.toArray⟩ : Str).length = a.length := by simp [Str.length]
theorem F_let {a r : List Nat} (ha : a ≠ []) (hl : ∀ c ∈ a, isLet c = true) (hr : ∀ c, r.head? = some c → isLet c = false) : F (a ++ r) = [.int (rankOf ⟨a.toArray⟩), .str ⟨a.toArray⟩] ++ F r := by
  unfold F S0
  rw [List.append_assoc, List.foldl_append, fo_let _ a _ hl, e0]
  obtain ⟨c, t, hc, he⟩ : ∃ c t, isLet c = false ∧ r ++ [46] = c :: t := by
    cases r with
    | nil => exact ⟨46, [], by decide, rfl⟩
    | cons c t => exact ⟨c, t ++ [46], hr c rfl, rfl⟩
  rw [he, List.foldl_cons]
  have hla : (⟨a.toArray⟩ : Str).length ≠ 0 := by rw [len_mk]; intro q; exact ha (List.eq_nil_of_length_eq_zero q)
  have e : rstep ⟨[], ⟨a.toArray⟩, Str.ofString ""⟩ c = rstep ⟨[.int (rankOf ⟨a.toArray⟩), .str ⟨a.toArray⟩] ++ [], Str.ofString "", Str.ofString ""⟩ c := by
    unfold rstep rs1
    simp [hc, hla, l0]
  rw [e, ← List.foldl_cons, fo_app]
theorem F_dg {a r : List Nat} (ha : a ≠ []) (hl : ∀ c ∈ a, isDg c = true) (hr : ∀ c, r.head? = some c → isDg c = false) : F (a ++ r) = [.int 100, .int (numOf ⟨a.toArray⟩)] ++ F r := by
  unfold F S0
  rw [List.append_assoc, List.foldl_append, fo_dg _ a _ hl, e0]
  obtain ⟨c, t, hc, he⟩ : ∃ c t, isDg c = false ∧ r ++ [46] = c :: t := by
    cases r with
    | nil => exact ⟨46, [], by decide, rfl⟩
    | cons c t => exact ⟨c, t ++ [46], hr c rfl, rfl⟩
  rw [he, List.foldl_cons]
  have hla : (⟨a.toArray⟩ : Str).length ≠ 0 := by rw [len_mk]; intro q; exact ha (List.eq_nil_of_length_eq_zero q)
  have e : rstep ⟨[], Str.ofString "", ⟨a.toArray⟩⟩ c = rstep ⟨[.int 100, .int (numOf ⟨a.toArray⟩)] ++ [], Str.ofString "", Str.ofString ""⟩ c := by
    unfold rstep rs1 rs2
    simp [hc, hla, l0]
  rw [e, ← List.foldl_cons, fo_app]
/- what becomes of it under the name's steps -/
theorem F_sq : ∀ xs : List Nat, F (sq xs) = F xs := by
  have key : ∀ (n : Nat) (xs p : List Nat), xs.length = n → F (p ++ sq xs) = F (p ++ xs) := by
    intro n
    induction n with
    | zero => intro xs p h; have : xs = [] := List.eq_nil_of_length_eq_zero h; subst this; rfl
    | succ n ih =>
      intro xs p h
      match xs with
      | c :: r =>
        have hr : r.length = n := by simpa using h
        by_cases hc : c = 45 ∧ r.head? = some 45
        · rw [sq, if_pos hc, ih r p hr]
          obtain ⟨rfl, h2⟩ := hc
          cases r with
          | nil => cases h2
          | cons d t =>
            simp at h2; subst h2
            rw [F_sep p t (by decide), F_sep p (45 :: t) (by decide), F_cons t (by decide)]
        · rw [sq_one hc]
          have := ih r (p ++ [c]) hr
          simpa using this
  intro xs
  exact key _ xs [] rfl
theorem F_rs (xs : List Nat) : F (rs xs) = F xs := by
  have : ∀ ys : List Nat, F (ys.dropWhile (· == 45)).reverse = F ys.reverse := by
    intro ys
    induction ys with
    | nil => rfl
    | cons c r ih =>
      rw [List.dropWhile_cons]
      split
      · rename_i h
        have h : c = 45 := by simpa using h
        subst h
        rw [ih, List.reverse_cons, F_snoc _ (by decide)]
      · rfl
  unfold rs
  rw [this, List.reverse_reverse]
/- the ranks of a raw text -/
noncomputable def G (xs : List Nat) : List PyData := F (rm (xs.map mapn))
theorem mapn_unk {c : Nat} (h : c ∈ unk) : mapn c = c := by
  unfold unk at h
  simp only [List.mem_cons, List.not_mem_nil, or_false] at h
  rcases h with rfl | rfl | rfl | rfl | rfl | rfl | rfl <;> rfl
theorem mapn_not {c : Nat} (h : c ∉ unk) : mapn c ∉ unk := by
  unfold mapn
  split
  · decide
  · split
    · decide
    · exact h
theorem mapn_map {xs : List Nat} (h : xs.map mapn = unk) : xs = unk := by
  have e : ∀ c ∈ xs, mapn c = c := fun c hc => by
    by_cases q : c ∈ unk
    · exact mapn_unk q
    · have := mapn_not q
      rw [← h] at this
      exact absurd (List.mem_map_of_mem hc) this
  have : xs.map mapn = xs := by
    rw [List.map_congr_left e]; simp
  rw [← this]; exact h
theorem rm_map : ∀ (n : Nat) (xs : List Nat), xs.length = n → rm (xs.map mapn) = (rm xs).map mapn := by
  intro n
  induction n using Nat.strongRecOn with
  | ind n ih =>
    intro xs hn
    cases xs with
    | nil => rfl
    | cons c r =>
      simp only [List.length_cons] at hn
      rw [List.map_cons, rm_cons, rm_cons]
      by_cases h : (c :: r).take 7 = unk
      · have h2 : (mapn c :: r.map mapn).take 7 = unk := by
          rw [← List.map_cons, ← List.map_take, h]; decide
        rw [if_pos h, if_pos h2, ← List.map_drop]
        exact ih (r.drop 6).length (by simp; lia) _ rfl
      · have h2 : (mapn c :: r.map mapn).take 7 ≠ unk := by
          rw [← List.map_cons, ← List.map_take]
          exact fun q => h (mapn_map q)
        rw [if_neg h, if_neg h2, List.map_cons, ih r.length (by lia) r rfl]
theorem mapn_cl (c : Nat) : mapn c = c ∨ (isSp c = true ∧ isSp (mapn c) = true) := by
  unfold mapn
  split
  · rename_i h; subst h; right; decide
  · split
    · rename_i h
      right
      refine ⟨?_, by decide⟩
      simp only [List.mem_cons, List.not_mem_nil, or_false] at h
      rcases h with rfl | rfl | rfl | rfl | rfl | rfl | rfl <;> decide
    · left; rfl
theorem F_map (xs : List Nat) : F (xs.map mapn) = F xs := by
  have key : ∀ (xs p : List Nat), F (p ++ xs.map mapn) = F (p ++ xs) := by
    intro xs
    induction xs with
    | nil => intro p; rfl
    | cons c r ih =>
      intro p
      rw [List.map_cons]
      rcases mapn_cl c with h | ⟨h1, h2⟩
      · rw [h]
        have := ih (p ++ [c])
        simpa using this
      · rw [F_sep _ _ h2, F_sep _ _ h1]
        have := ih []
        simp only [List.nil_append] at this
        rw [this]
  exact key xs []
theorem G_rm (xs : List Nat) : G xs = F (rm xs) := by
  unfold G
  rw [rm_map _ xs rfl, F_map]
theorem unk_let {c : Nat} (h : c ∈ unk) : isSp c = false := by
  unfold unk at h
  simp only [List.mem_cons, List.not_mem_nil, or_false] at h
  rcases h with rfl | rfl | rfl | rfl | rfl | rfl | rfl <;> decide
theorem G_nil : G [] = [] := F_nil
theorem G_sep (xs ys : List Nat) {c : Nat} (h : isSp c = true) : G (xs ++ c :: ys) = G xs ++ G ys := by
  have hu : c ∉ unk := fun q => by rw [unk_let q] at h; cases h
  rw [G_rm, G_rm, G_rm, rm_sep hu _ xs ys rfl, F_sep _ _ h]
theorem G_cons (ys : List Nat) {c : Nat} (h : isSp c = true) : G (c :: ys) = G ys := by
  have := G_sep [] ys h
  rw [G_nil] at this; simpa using this
theorem G_snoc (xs : List Nat) {c : Nat} (h : isSp c = true) : G (xs ++ [c]) = G xs := by
  have := G_sep xs [] h
  rw [G_nil, List.append_nil] at this; exact this
theorem G_jn : ∀ l : List (List Nat), G (jn [45] l) = l.flatMap G
  | [] => G_nil
  | [x] => by simp [jn]
  | x :: y :: r => by
    have ih := G_jn (y :: r)
    rw [jn, List.append_assoc]
    show G (x ++ 45 :: jn [45] (y :: r)) = _
    rw [G_sep _ _ (by decide), ih, List.flatMap_cons, List.flatMap_cons, List.flatMap_cons]
theorem G_dropWhile (p : Nat → Bool) (hp : ∀ c, p c = true → isSp c = true) (xs : List Nat) : G (xs.dropWhile p) = G xs := by
  induction xs with
  | nil => rfl
  | cons c r ih =>
    rw [List.dropWhile_cons]
    split
    · rename_i h; rw [ih, G_cons _ (hp c h)]
    · rfl
theorem G_dropWhile' (p : Nat → Bool) (hp : ∀ c, p c = true → isSp c = true) (xs : List Nat) : G (xs.dropWhile p).reverse = G xs.reverse := by
  induction xs with
  | nil => rfl
  | cons c r ih =>
    rw [List.dropWhile_cons]
    split
    · rename_i h; rw [ih, List.reverse_cons, G_snoc _ (hp c h)]
    · rfl
theorem G_strip (p : Nat → Bool) (hp : ∀ c, p c = true → isSp c = true) (xs : List Nat) : G (stripL p xs) = G xs := by
  unfold stripL
  rw [G_dropWhile' p hp, List.reverse_reverse, G_dropWhile p hp]
/- the name's ranks are those of its lines -/
theorem F_name {rows : List Str} (h : ∀ r ∈ rows, ∀ c ∈ r.cps.toList, Unicode.isSpace c = (c == 32)) : F (platL rows) = rows.flatMap fun r => G r.cps.toList := by
  unfold platL
  rw [F_rs, F_sq]
  show G _ = _
  rw [G_jn]
  have e : (rows.filter fun r => r.length != 0).flatMap (fun r => G r.cps.toList) = rows.flatMap fun r => G r.cps.toList := by
    induction rows with
    | nil => rfl
    | cons x r ih =>
      have ih := ih fun y hy => h y (.tail _ hy)
      rw [List.filter_cons]
      split
      · rw [List.flatMap_cons, List.flatMap_cons, ih]
      · rename_i hx
        have hx : x.cps.toList = [] := by
          have : x.length = 0 := by simpa using hx
          rw [len_toList] at this
          exact List.eq_nil_of_length_eq_zero this
        rw [List.flatMap_cons, ih, hx, G_nil, List.nil_append]
  rw [← e, List.flatMap_map]
  have : ∀ l : List Str, (∀ r ∈ l, r ∈ rows) → l.flatMap (fun r => G (stripL Unicode.isSpace r.cps.toList)) = l.flatMap fun r => G r.cps.toList := by
    intro l
    induction l with
    | nil => intro _; rfl
    | cons x r ih =>
      intro hh
      rw [List.flatMap_cons, List.flatMap_cons, ih fun y hy => hh y (.tail _ hy), stripL_congr (h x (hh x (.head _))), G_strip]
      intro c hc
      have : c = 32 := by simpa using hc
      subst this; decide
  exact this _ fun r hr => (List.mem_filter.mp hr).1
end Mine
end

section
open PySem PyProof.Rows
namespace Mine
open Builtin Builtin.Str StrLaws
/- ## the cuts as lists -/
theorem drop_cons {tx : Array Nat} {p c : Nat} {t : List Nat} (h : tx.toList.drop p = c :: t) : p < tx.size ∧ tx.getD p 0 = c ∧ tx.toList.drop (p + 1) = t := by
  have hp : p < tx.toList.length := by
    by_cases q : p < tx.toList.length
    · exact q
    · rw [List.drop_of_length_le (by lia)] at h; cases h
  rw [List.drop_eq_getElem_cons hp] at h
  injection h with h1 h2
  have hp' : p < tx.size := by simpa using hp
  refine ⟨hp', ?_, h2⟩
  rw [Array.getD_eq_getD_getElem?, Array.getElem?_eq_getElem hp', ← h1]
  simp
theorem lead_eq (f : Nat → Bool) (tx : Array Nat) : ∀ n p, n = tx.size - p → lead f tx n p = ((tx.toList.drop p).takeWhile f).length
  | 0, p, h => by rw [lead, List.drop_of_length_le (by simp; lia)]; rfl
  | n + 1, p, h => by
    have hp : p < tx.toList.length := by simp; lia
    have e := List.drop_eq_getElem_cons hp
    refine Mine.e0_3 (drop_cons e) ?_
    intro zu1 e2 zu2
    rw [lead, e, List.takeWhile_cons, e2, lead_eq f tx n (p + 1) (by lia)]
    split <;> simp
theorem tkB_eq (tx : Array Nat) (p : Nat) : tkB tx p = ((tx.toList.drop p).takeWhile isBl).length := lead_eq _ _ _ _ rfl
theorem dgs_eq (tx : Array Nat) (p : Nat) : dgs tx p = ((tx.toList.drop p).takeWhile isDg).length := lead_eq _ _ _ _ rfl
theorem tkV_eq {tx : Array Nat} {p c : Nat} {t : List Nat} (h : tx.toList.drop p = c :: t) : tkV tx p = if isDg c then ((c :: t).takeWhile isDg).length else if isSep c then 1 else 0 := by
  unfold tkV
  rw [dgs_eq, h, (drop_cons h).2.1]
  cases hc : isDg c
  · simp [hc]
  · simp [hc]
theorem next_skip {tk : Nat → Nat} : ∀ (n f p : Nat), (∀ k, k < n → tk (p + k) = 0) → n ≤ f → nextTk tk f p = nextTk tk (f - n) (p + n)
  | 0, f, p, _, _ => rfl
  | n + 1, 0, p, _, h => by lia
  | n + 1, f + 1, p, hz, h => by
    rw [nextTk, if_pos (by simpa using hz 0 (by lia)), next_skip n f (p + 1) (fun k hk => by have := hz (k + 1) (by lia); rwa [show p + 1 + k = p + (k + 1) by lia]) (by lia)]
    congr 1
    · lia
    · lia
theorem ext_eq {tx : Array Nat} {b e : Nat} {l : List Nat} (h : (tx.toList.drop b).take (e - b) = l) : (⟨tx.extract b e⟩ : Str) = ⟨l.toArray⟩ := by
  subst h
  congr 1
  apply Array.ext'
  rw [Array.toList_extract, List.extract_eq_take_drop]
theorem cut_end {tk : Nat → Nat} {tx : Array Nat} {last : Nat} {a : List Nat} (h : tx.toList.drop last = a) (hz : ∀ k, k < a.length → tk (last + k) = 0) : ∀ f, cut tk tx f last = [⟨a.toArray⟩] := by
  have hl : a.length = tx.size - last := by rw [← h]; simp
  have e : (⟨tx.extract last tx.size⟩ : Str) = ⟨a.toArray⟩ := ext_eq (by rw [h]; exact List.take_of_length_le (by lia))
  intro f
  cases f with
  | zero => rw [cut, e]
  | succ f =>
    rw [cut, next_skip (tx.size - last) _ _ (fun k hk => hz k (by lia)) (Nat.le_refl _), Nat.sub_self]
    show [_] = _
    rw [e]
theorem cut_step {tk : Nat → Nat} {tx : Array Nat} {last n f : Nat} {a r : List Nat} (h : tx.toList.drop last = a ++ r) (hz : ∀ k, k < a.length → tk (last + k) = 0) (hn : tk (last + a.length) = n) (h0 : n ≠ 0) (hr : r ≠ []) :
    cut tk tx (f + 1) last = ⟨a.toArray⟩ :: ⟨(r.take n).toArray⟩ :: cut tk tx f (last + a.length + n) := by
  have hl : a.length + r.length = tx.size - last := by rw [← List.length_append, ← h]; simp
  have hr1 : 0 < r.length := List.length_pos_iff.mpr hr
  have hq : nextTk tk (tx.size - last) last = some (last + a.length) := by
    rw [next_skip a.length _ _ hz (by lia)]
    obtain ⟨g, hg⟩ : ∃ g, tx.size - last - a.length = g + 1 := ⟨r.length - 1, by rw [← hl, Nat.add_sub_cancel_left]; exact (Nat.succ_pred_eq_of_pos hr1).symm⟩
    rw [hg, nextTk, if_neg (by rw [hn]; exact h0)]
  have d2 : tx.toList.drop (last + a.length) = r := by rw [← List.drop_drop, h, List.drop_left]
  rw [cut, hq]
  show ⟨tx.extract last (last + a.length)⟩ :: ⟨tx.extract (last + a.length) (last + a.length + tk (last + a.length))⟩ :: cut tk tx f (last + a.length + tk (last + a.length)) = _
  rw [hn, ext_eq (l := a) (by rw [h, Nat.add_sub_cancel_left]; simp), ext_eq (l := r.take n) (by rw [d2, Nat.add_sub_cancel_left])]
/- ## cut at blanks -/
theorem tw_app {p : Nat → Bool} {a b : List Nat} (ha : ∀ c ∈ a, p c = true) (hb : ∀ c, b.head? = some c → p c = false) : (a ++ b).takeWhile p = a := by
  induction a with
  | nil =>
    cases b with
    | nil => rfl
    | cons c t => simp [hb c rfl]
  | cons c t ih => rw [List.cons_append, List.takeWhile_cons, ha c (.head _), if_pos rfl, ih fun x hx => ha x (.tail _ hx)]
theorem str_eta (x : Str) : (⟨x.cps.toList.toArray⟩ : Str) = x := by simp
theorem cutB {tx : Array Nat} : ∀ (ps : List (Str × Str)) (a : List Nat) (f last : Nat), tx.toList.drop last = a ++ (ps.flatMap fun p => p.1.cps.toList ++ p.2.cps.toList) → (∀ c ∈ a, isBl c = false) →
    (∀ p ∈ ps, p.1.cps.toList ≠ [] ∧ (∀ c ∈ p.1.cps.toList, isBl c = true) ∧ p.2.cps.toList ≠ [] ∧ ∀ c ∈ p.2.cps.toList, isBl c = false) → ps.length ≤ f →
    cut (tkB tx) tx f last = ⟨a.toArray⟩ :: ps.flatMap fun p => [p.1, p.2]
  | [], a, f, last, h, ha, _, _ => by
    simp only [List.flatMap_nil, List.append_nil] at h ⊢
    refine cut_end h (fun k hk => ?_) f
    rw [tkB_eq, ← List.drop_drop, h]
    cases hd : a.drop k with
    | nil => rfl
    | cons c t =>
      have : c ∈ a := List.mem_of_mem_drop (i := k) (by rw [hd]; exact .head _)
      simp [ha c this]
  | p :: ps, a, 0, last, h, ha, hp, hf => by simp at hf
  | p :: ps, a, f + 1, last, h, ha, hp, hf => by
    refine Mine.e0_4 (hp p (.head _)) ?_
    intro p1 p2 p3 p4
    rw [List.flatMap_cons, List.append_assoc] at h
    have hd : ∀ k, (tx.toList.drop (last + k)) = (a ++ (p.1.cps.toList ++ (p.2.cps.toList ++ ps.flatMap fun p => p.1.cps.toList ++ p.2.cps.toList))).drop k := fun k => by rw [← List.drop_drop, h]
    refine Mine.e2_1 (List.exists_cons_of_ne_nil p3) ?_
    intro c2 t2 e2
    have hn : tkB tx (last + a.length) = p.1.cps.toList.length := by
      rw [tkB_eq, hd, List.drop_left, tw_app p2]
      intro c hc
      rw [e2] at hc
      have hc : c2 = c := by simpa using hc
      subst hc
      exact p4 _ (by rw [e2]; exact .head _)
    rw [cut_step (n := p.1.cps.toList.length) h (fun k hk => ?_) hn (by intro q; exact p1 (List.eq_nil_of_length_eq_zero q)) (by simp [p1]), List.flatMap_cons]
    · rw [cutB ps p.2.cps.toList f _ (by rw [Nat.add_assoc, hd, ← List.drop_drop, List.drop_left, List.drop_left]) p4 (fun q hq => hp q (.tail _ hq)) (by simpa using hf), List.take_left, str_eta, str_eta]
      rfl
    · rw [tkB_eq, hd, List.drop_append_of_le_length (by lia)]
      cases hda : a.drop k with
      | nil => have := congrArg List.length hda; simp at this; lia
      | cons c t =>
        have : c ∈ a := List.mem_of_mem_drop (i := k) (by rw [hda]; exact .head _)
        simp [ha c this]
/- ## cut of a name -/
noncomputable def nameCh (c : Nat) : Prop := isDg c = true ∨ isSep c = true ∨ (isLet c = true ∧ c < 128)
theorem sep_sp {c : Nat} (h : isSep c = true) : isSp c = true := by
  unfold isSep at h
  simp only [Bool.or_eq_true, beq_iff_eq] at h
  rcases h with ((rfl | rfl) | rfl) | rfl <;> decide
theorem sepPiece_nil : sepPiece ⟨([] : List Nat).toArray⟩ = true := by decide +kernel
theorem sepPiece_one {c : Nat} (h : isSep c = true) : sepPiece ⟨[c].toArray⟩ = true := by
  unfold isSep at h
  simp only [Bool.or_eq_true, beq_iff_eq] at h
  rcases h with ((rfl | rfl) | rfl) | rfl <;> decide +kernel
theorem sepPiece_no {a : List Nat} (h0 : a ≠ []) (h : ∀ c ∈ a, isSep c = false) : sepPiece ⟨a.toArray⟩ = false := by
  cases hs : sepPiece ⟨a.toArray⟩ with
  | false => rfl
  | true =>
    refine Mine.e1_2 ((found_iff _ _).mp hs) ?_
    intro i hi hs
    rw [subAt_eq, beq_iff_eq] at hs
    refine Mine.e2_1 (List.exists_cons_of_ne_nil h0) ?_
    intro c t zq3
    subst zq3
    have hm : c ∈ (Str.ofString "._+-").cps.toList := by
      refine List.mem_of_mem_drop (i := i) (List.mem_of_mem_take (i := (⟨(c :: t).toArray⟩ : Str).length) ?_)
      rw [hs]; exact .head _
    have e : (Str.ofString "._+-").cps.toList = [46, 95, 43, 45] := by decide +kernel
    rw [e] at hm
    have := h c (.head _)
    simp only [List.mem_cons, List.not_mem_nil, or_false] at hm
    rcases hm with rfl | rfl | rfl | rfl <;> cases this
theorem let_sep {c : Nat} (h : isLet c = true) : isSep c = false := by
  unfold isLet at h; unfold isSep
  simp at h ⊢; lia
theorem dg_sep {c : Nat} (h : isDg c = true) : isSep c = false := by
  unfold isDg at h; unfold isSep
  simp at h ⊢; lia
theorem cvOf_cons (v : Str) (ps : List Str) : cvOf (v :: ps) = (if sepPiece v then [] else if isFig v then [.int 100, .int (numL v.cps.toList)] else [.int (rankOf v), .str v]) ++ cvOf ps := by
  unfold cvOf; rw [List.flatMap_cons]
theorem fig_all (a : List Nat) : isFig ⟨a.toArray⟩ = a.all isDg := by unfold isFig; simp
theorem cv_let (a : List Nat) (hl : ∀ c ∈ a, isLet c = true) (r : List Nat) (hr : ∀ c, r.head? = some c → isLet c = false) (ps : List Str) (h : cvOf ps = F r) : cvOf (⟨a.toArray⟩ :: ps) = F (a ++ r) := by
  rw [cvOf_cons, h]
  by_cases h0 : a = []
  · subst h0; rw [if_pos sepPiece_nil]; rfl
  · rw [if_neg (by rw [sepPiece_no h0 fun c hc => let_sep (hl c hc)]; decide), fig_all, if_neg, F_let h0 hl hr]
    refine Mine.e2_1 (List.exists_cons_of_ne_nil h0) ?_
    intro c t zq4
    subst zq4
    intro q
    have := List.all_eq_true.mp q c (.head _)
    rw [isLet_dg (hl c (.head _))] at this; cases this
theorem cv_dg (a : List Nat) (h0 : a ≠ []) (hl : ∀ c ∈ a, isDg c = true) (r : List Nat) (hr : ∀ c, r.head? = some c → isDg c = false) (ps : List Str) (h : cvOf ps = F r) : cvOf (⟨a.toArray⟩ :: ps) = F (a ++ r) := by
  rw [cvOf_cons, h, if_neg (by rw [sepPiece_no h0 fun c hc => dg_sep (hl c hc)]; decide), fig_all, if_pos (List.all_eq_true.mpr hl), F_dg h0 hl hr]
  rfl
theorem ok_let (a : List Nat) (hl : ∀ c ∈ a, isLet c = true ∧ c < 128) (hn : a.length ≤ 600) : PieceOk ⟨a.toArray⟩ := by
  refine ⟨by rw [len_mk]; exact hn, ?_⟩
  by_cases h0 : a = []
  · subst h0; exact .inl sepPiece_nil
  · refine .inr ⟨by simpa using h0, .inr fun c hc => ?_⟩
    have := hl c (by simpa using hc)
    have h1 := this.1
    unfold isLet at h1
    simp at h1
    exact ⟨h1.1, this.2⟩
theorem ok_dg (a : List Nat) (h0 : a ≠ []) (hl : ∀ c ∈ a, isDg c = true) (hn : a.length ≤ 600) : PieceOk ⟨a.toArray⟩ := by
  refine ⟨by rw [len_mk]; exact hn, .inr ⟨by simpa using h0, .inl fun c hc => ?_⟩⟩
  have := hl c (by simpa using hc)
  unfold isDg at this
  simpa using this
theorem tw_all {p : Nat → Bool} : ∀ {l : List Nat} {c : Nat}, c ∈ l.takeWhile p → p c = true
  | [], c, h => by cases h
  | d :: t, c, h => by
    rw [List.takeWhile_cons] at h
    split at h
    · rename_i hd
      rcases List.mem_cons.mp h with rfl | h
      · exact hd
      · exact tw_all h
    · cases h
theorem dw_head {p : Nat → Bool} : ∀ {l : List Nat} {c : Nat}, (l.dropWhile p).head? = some c → p c = false
  | [], c, h => by cases h
  | d :: t, c, h => by
    rw [List.dropWhile_cons] at h
    split at h
    · exact dw_head h
    · rename_i hd
      have : d = c := by simpa using h
      subst this
      simpa using hd
theorem cutV {tx : Array Nat} : ∀ (n : Nat) (l : List Nat) (f last : Nat), l.length = n → tx.toList.drop last = l → n ≤ f → (∀ c ∈ l, nameCh c) → n ≤ 600 →
    cvOf (cut (tkV tx) tx f last) = F l ∧ ∀ v ∈ cut (tkV tx) tx f last, PieceOk v := by
  intro n
  induction n using Nat.strongRecOn with
  | ind n ih =>
    intro l f last hn h hf hc h6
    have hl : l.takeWhile isLet ++ l.dropWhile isLet = l := List.takeWhile_append_dropWhile
    have ha : ∀ c ∈ l.takeWhile isLet, isLet c = true := fun c hc => tw_all hc
    have hr : ∀ c, (l.dropWhile isLet).head? = some c → isLet c = false := fun c hc => dw_head hc
    generalize l.takeWhile isLet = a at *
    generalize l.dropWhile isLet = r at *
    have hlen : a.length + r.length = n := by rw [← hn, ← hl, List.length_append]
    have haok : PieceOk ⟨a.toArray⟩ := ok_let a (fun c hca => ⟨ha c hca, by
      rcases hc c (by rw [← hl]; exact List.mem_append_left _ hca) with q | q | q
      · rw [isLet_dg (ha c hca)] at q; cases q
      · rw [let_sep (ha c hca)] at q; cases q
      · exact q.2⟩) (by lia)
    have hz : ∀ k, k < a.length → tkV tx (last + k) = 0 := fun k hk => by
      have hd : tx.toList.drop (last + k) = a.drop k ++ r := by rw [← List.drop_drop, h, ← hl, List.drop_append_of_le_length (by lia)]
      cases hda : a.drop k with
      | nil => have := congrArg List.length hda; simp at this; lia
      | cons c t =>
        have hm : c ∈ a := List.mem_of_mem_drop (i := k) (by rw [hda]; exact .head _)
        rw [hda] at hd
        rw [tkV_eq hd, isLet_dg (ha c hm), let_sep (ha c hm)]
        rfl
    have h' : tx.toList.drop last = a ++ r := by rw [h, hl]
    cases r with
    | nil =>
      rw [List.append_nil] at h' hl
      rw [cut_end h' hz f]
      refine ⟨?_, fun v hv => by rw [List.mem_singleton.mp hv]; exact haok⟩
      have := cv_let a ha [] (fun c hc => by cases hc) [] F_nil.symm
      rw [List.append_nil] at this
      rw [this, hl]
    | cons c t =>
      have hcl : isLet c = false := hr c rfl
      have hcc := hc c (by rw [← hl]; simp)
      simp only [List.length_cons] at hlen
      obtain ⟨f', rfl⟩ : ∃ f', f = f' + 1 := ⟨f - 1, by lia⟩
      have hd : tx.toList.drop (last + a.length) = c :: t := by rw [← List.drop_drop, h', List.drop_left]
      by_cases hdg : isDg c = true
      · have hn2 : tkV tx (last + a.length) = ((c :: t).takeWhile isDg).length := by rw [tkV_eq hd, if_pos hdg]
        have h0 : (c :: t).takeWhile isDg ≠ [] := by simp [hdg]
        have h0l := List.length_pos_iff.mpr h0
        have hsp : (c :: t).takeWhile isDg ++ (c :: t).dropWhile isDg = c :: t := List.takeWhile_append_dropWhile
        have hlen2 : ((c :: t).takeWhile isDg).length + ((c :: t).dropWhile isDg).length = t.length + 1 := by rw [← List.length_append, hsp, List.length_cons]
        rw [cut_step (f := f') h' hz hn2 (by lia) (by simp)]
        have htk : (c :: t).take ((c :: t).takeWhile isDg).length = (c :: t).takeWhile isDg := by
          conv => lhs; rw [← hsp]
          rw [hsp]
          conv => lhs; arg 2; rw [← hsp]
          exact List.take_left
        have hdr : (c :: t).drop ((c :: t).takeWhile isDg).length = (c :: t).dropWhile isDg := by
          conv => lhs; arg 2; rw [← hsp]
          exact List.drop_left
        rw [htk]
        obtain ⟨i1, i2⟩ := ih ((c :: t).dropWhile isDg).length (by lia) _ f' (last + a.length + ((c :: t).takeWhile isDg).length) rfl (by rw [← List.drop_drop, hd, hdr]) (by lia) (fun x hx => hc x (by rw [← hl, ← hsp]; exact List.mem_append_right _ (List.mem_append_right _ hx))) (by lia)
        refine ⟨?_, ?_⟩
        · rw [← hl]
          refine cv_let a ha _ hr _ ?_
          have := cv_dg _ h0 (fun x hx => tw_all hx) _ (fun x hx => dw_head hx) _ i1
          rw [this, hsp]
        · intro v hv
          rcases List.mem_cons.mp hv with rfl | hv
          · exact haok
          · rcases List.mem_cons.mp hv with rfl | hv
            · exact ok_dg _ h0 (fun x hx => tw_all hx) (by lia)
            · exact i2 v hv
      · have hdg : isDg c = false := by simpa using hdg
        have hs : isSep c = true := by
          rcases hcc with q | q | q
          · rw [hdg] at q; cases q
          · exact q
          · rw [hcl] at q; cases q.1
        have hn2 : tkV tx (last + a.length) = 1 := by rw [tkV_eq hd, hdg, hs]; rfl
        rw [cut_step (f := f') h' hz hn2 (by decide) (by simp)]
        obtain ⟨i1, i2⟩ := ih t.length (by lia) t f' (last + a.length + 1) rfl (by rw [← List.drop_drop, hd]; rfl) (by lia) (fun x hx => hc x (by rw [← hl]; simp [hx])) (by lia)
        show cvOf (_ :: ⟨[c].toArray⟩ :: _) = _ ∧ ∀ v ∈ _ :: (⟨[c].toArray⟩ : Str) :: _, PieceOk v
        refine ⟨?_, ?_⟩
        · rw [← hl]
          refine cv_let a ha _ hr _ ?_
          rw [cvOf_cons, if_pos (sepPiece_one hs), i1, F_cons _ (sep_sp hs)]
          rfl
        · intro v hv
          rcases List.mem_cons.mp hv with rfl | hv
          · exact haok
          · rcases List.mem_cons.mp hv with rfl | hv
            · exact ⟨by rw [len_mk]; exact Nat.le_of_ble_eq_true rfl, .inl (sepPiece_one hs)⟩
            · exact i2 v hv
end Mine
end

local macro_rules | `(tactic| wtm_at "g_cw") => `(tactic| with_reducible first
  | refine cfT1 ?_ (by kernel_rfl)
  | refine cfT2 ?_ (by kernel_rfl) (by kernel_rfl)
  | refine cwB0 ?_
  | refine cwB1 ?_ (by kernel_rfl)
  | refine cwB2 ?_ (by kernel_rfl) (by kernel_rfl)
  | refine cfB1 ?_ (by kernel_rfl)
  | refine cfB2 ?_ (by kernel_rfl) (by kernel_rfl))

section
open PySem PySem.W PySem.W.X PyProof.Rows PySem.Calls
set_option maxHeartbeats 4000000
namespace Mine
/- ## _comparable_version -/
noncomputable def CvJ (pl L : Addr) (pvs : List Value) (m : Str → Option Value) (ps : List Str) (news : List Ent) (i : Nat) (m' : Str → Option Value) (news' : List Ent) : Prop :=
  ∃ rl rvs, m' (Str.ofString "result") = some (.ref rl) ∧ CarriedAll rvs (cvOf (ps.take i)) ∧ rvs.length ≤ 2 * i ∧ news' = (pl, isLst pvs) :: (rl, isLst rvs) :: (L, isNs m) :: news
@[reducible] noncomputable def IW51 (z : Shared) (L : Addr) (m : Str → Option Value) (news : List Ent) (x : Str) (t : Tok) (g₁ : Heap) (L' : Addr) : Shared → Prop := fun s' => ∃ rl, St z g₁ L' (upd (upd (upd (fun _ => none) (Str.ofString "version") (.str x t)) (Str.ofString "component_re") (.ref 43)) (Str.ofString "result") (.ref rl)) ((rl, isLst []) :: (L, isNs m) :: news) s'
theorem cv_call {w : World} {z s : Shared} {h₀ : Heap} {L : Addr} {A : Around} {E : Value → Shared → Prop} {Q : Value → Shared → Prop} {m : Str → Option Value} {news : List Ent} {x : Str} {t : Tok} {envL : Env}
  (D : St z h₀ L m news s) (B : Gd w h₀) (hst : (cStatics, isStat z) ∈ news) (hA : A.depth < 440) (hh : A.handled = none) (hfr : A.frames = some [envL]) (hfL : envL.frame = some L) (hkL : envL.scope.kind ≠ .module)
  (hx : x.cps.size ≤ 1000) (hp : ∀ v ∈ cut (tkV x.cps) x.cps (2 * x.cps.size + 3) 0, PieceOk v)
  (k : ∀ rl rvs s', CarriedAll rvs (cvOf (cut (tkV x.cps) x.cps (2 * x.cps.size + 3) 0)) → St z h₀ L m ((rl, isLst rvs) :: news) s' → Q (.ref rl) s') :
  wpC (model PySem.Challenge.rw_ny0227_01.row.prog w) A (call (.ref 51) [.str x t]) Q E s := by
  have X : hd.heap_1 w.params = hd.heap_1 w.params := rfl
  revert X
  k_fill
  intro X; clear X
  refine' enterHC (binds := [(Str.ofString "version", .str x t)]) D B hst ?ho ?hcd (Nat.lt_trans hA (by decide)) ?hb ?hc ?hl ?c1 ?c2 ?c3 ?_
  case ho => k_is
  case hcd => k_is
  case hb => exact BindsTo.of_eq (by kernel_rfl)
  case hc => kernel_rfl
  case hl => kernel_rfl
  case c1 => kernel_rfl
  case c2 => kernel_rfl
  case c3 => kernel_rfl
  intro g₁ L' s₁ env D₁ B₁ hE hEq back
  have hfr' := Around.frames_deeper (env := env) hfr
  have hfe : env.frame = some L' := by rw [hEq]; rfl
  clear hEq
  replace hh : (A.deeper env).handled = none := hh
  dsimp only [bm] at D₁
  have h43 : g₁.get? 43 = _ := B₁.X 43 _ ((kx_look (by decide)).trans (by k_is))
  have h42 : g₁.get? 42 = _ := B₁.X 42 _ ((kx_look (by decide)).trans (by k_is))
  refine cCut (fun s' => St z g₁ L' (upd (upd (fun _ => none) (Str.ofString "version") (.str x t)) (Str.ofString "component_re") (.ref 43)) ((L, isNs m) :: news) s') ?_ ?_
  · wtm_at "ss"
    exact ⟨rfl, by assumption⟩
  intro s₂ D₂
  clear D₁
  refine cCut (IW51 z L m news x t g₁ L') ?_ ?_
  · wtm_at "ss"
    exact ⟨rfl, _, by assumption⟩
  rintro s₃ ⟨rl, D₃⟩
  clear D₂
  refine xForC ?_ (fun _ => by kernel_rfl)
  wtm_at "ss"
  refine rPatMeth (by assumption) h43 rfl rfl ?_
  wtm_at "ss"
  refine rSplit (by assumption) h43 h42 (by kernel_rfl) (V_ok x.cps (by lia)) (by kernel_rfl) (by kernel_rfl) hx ?_
  intro pl pvs s₂ SP D₂
  wtm_at "ss"
  have hpl := cut_len (tkV x.cps) x.cps (2 * x.cps.size + 3) 0
  generalize hps : cut (tkV x.cps) x.cps (2 * x.cps.size + 3) 0 = ps at *
  have hpn : pvs.length = ps.length := SP.length
  refine iterListC (CvJ pl L pvs m ps news) D₂ hh (D₂.lst (by wtm_at "mem")).isList ⟨rl, [], by wtm_at "mget", .nil, by simp, rfl⟩ ?_ ?_ ?_
  · intro i m' news' e s' zh2 D'
    refine Mine.E2 zh2 ?_
    try clear zh2
    intro rl rvs zk34
    refine Mine.e0_4 zk34 ?_
    clear zk34
    intro zu3 zu4 zu5 zq6
    subst zq6
    exact (D'.lst (by wtm_at "mem")).isList
  · intro i v m' news' it s' hv zh7 D'
    refine Mine.E2 zh7 ?_
    try clear zh7
    intro rl rvs zk35
    refine Mine.e0_4 zk35 ?_
    clear zk35
    intro hr CR hrl zq8
    subst zq8
    refine Mine.e2_2 (SP.item i v hv) ?_
    intro y ty zq9 hy
    subst zq9
    obtain ⟨hyl, hyk⟩ := hp y (List.mem_of_getElem? hy)
    clear D₂ D₃
    have hi : i < ps.length := (List.getElem?_eq_some_iff.mp hy).1
    have htk : ps.take (i + 1) = ps.take i ++ [y] := by rw [List.take_add_one, hy]; rfl
    have hcv : cvOf (ps.take (i + 1)) = cvOf (ps.take i) ++ (if sepPiece y then [] else if isFig y then [.int 100, .int (numL y.cps.toList)] else [.int (rankOf y), .str y]) := by
      unfold cvOf; rw [htk, List.flatMap_append]; simp
    wtm_at "ss"
    refine' xIfTC (by assumption) ?ht ?hT ?hF
    case ht => wtm_at "ss"
    case hT =>
      intro hb s₃ D₃
      have hsp : sepPiece y = false := by unfold sepPiece; simpa using hb
      rcases hyk with h | ⟨hne, hdg | hlt⟩
      · rw [hsp] at h; cases h
      · refine wpC_of (xTry ?_)
        wtm_at "ss"
        refine rIntOk (by assumption) (intText_dg hne hdg (by lia)) (by lia) ?_
        intro _ _ _
        wtm_at "ss"
        refine andThenC_next (wpC_of ?_)
        wtm_at "ss"
        refine turn_next (Mine.i2_2 _ _ ?_ (by wtm_at "D"))
        refine Mine.I2 _ _ (Mine.a4 (by wtm_at "mget") ?_ ?_ rfl)
        · rw [hcv, hsp, if_neg Bool.false_ne_true, if_pos (by unfold isFig; rw [← Array.all_toList, List.all_eq_true]; intro c hc; have := hdg c hc; unfold isDg; simp; lia)]
          exact CR.appendLM (.cons (.int _ _) (.cons (.int _ _) .nil))
        · simp; lia
      · refine xTryC (cAssign (cCallE ?_ (by kernel_rfl)) (by kernel_rfl))
        wtm_at "s1"
        refine cfT2C ?_ (by kernel_rfl) (by kernel_rfl)
        wtm_at "ss"
        refine cIntNo (by assumption) hh (digits_let hne hlt) (by lia) ?_ ?_
        · have := StrLaws.reprText_len y (fun c hc => Nat.lt_trans (hlt c hc).2 (by decide))
          rw [sizeLine_eq]; lia
        · intro e s₄ D₄
          refine rCaught hfr' hE hfe hfL hkL D₄ (by wtm_at "mem") ?_ ?_
          · intro s₅ D₅
            refine rNmB (x := Str.ofString "ValueError") (v := .type "ValueError") D₅ B₁ hE (by kernel_rfl) (by k_is) (by kernel_rfl) (by kernel_rfl) ⟨rfl, rfl⟩ (by kernel_rfl)
          · intro s₅ D₅
            wtm_at "ss"
            refine rVerMeth (by assumption) B₁ ?_
            wtm_at "ss"
            refine rVer (by assumption) B₁ ?_
            intro _ _ _
            wtm_at "ss"
            refine andThenC_next (wpC_of ?_)
            wtm_at "ss"
            refine andThenC_next (wpC_of ?_)
            wtm_at "ss"
            refine turn_next (Mine.i2_2 _ _ ?_ (by wtm_at "D"))
            refine Mine.I2 _ _ (Mine.a4 (by wtm_at "mget") ?_ ?_ rfl)
            · rw [hcv, hsp, if_neg Bool.false_ne_true, if_neg (by
                have zh10 : ∃ c r, y.cps.toList = c :: r := by cases q : y.cps.toList with | nil => exact absurd q hne | cons c r => exact ⟨c, r, rfl⟩
                refine Mine.e2_1 zh10 ?_
                try clear zh10
                intro c r hc
                unfold isFig; rw [← Array.all_toList, hc]
                have := hlt c (by rw [hc]; exact .head _)
                simp [isDg]; lia)]
              exact CR.appendLM (.cons (.int _ _) (.cons (.str _ _) .nil))
            · simp; lia
    case hF =>
      intro hb s₃ D₃
      refine wpC_of ?_
      wtm_at "ss"
      have hsp : sepPiece y = true := by unfold sepPiece; simpa using hb
      refine andThenC_next (wpC_of ?_)
      wtm_at "ss"
      refine turn_next (Mine.i2_2 _ _ ?_ (by wtm_at "D"))
      refine Mine.I2 _ _ (Mine.a4 (by wtm_at "mget") ?_ ?_ rfl)
      · rw [hcv, hsp, if_pos rfl, List.append_nil]; exact CR
      · lia
  · intro m' news' s' zh11 D'
    refine Mine.E2 zh11 ?_
    try clear zh11
    intro rl rvs zk36
    refine Mine.e0_4 zk36 ?_
    clear zk36
    intro hr CR hrl zq12
    subst zq12
    rw [List.take_of_length_le (by lia)] at CR
    wtm_at "ss"
    refine andThenC_next (wpC_of ?_)
    wtm_at "ss"
    have D₉ := St.perm (St.sub ‹St z g₁ L' _ _ _› (.cons _ (List.Sublist.refl _))) (List.Perm.swap _ _ _)
    exact k _ _ _ CR (back _ _ _ D₉)
end Mine
end

section
open PySem PySem.W PySem.W.X PyProof.Rows PySem.Calls
set_option maxHeartbeats 4000000
namespace Mine
/- ## _platform -/
theorem strs_full : ∀ {vs : List Value} {xs : List Str}, StrsAre vs xs → StrsAre (vs.filter full) (xs.filter fun r => r.length != 0) := fun h => by
  induction h with
  | nil => exact .nil
  | cons x t _ ih =>
    rw [List.filter_cons, List.filter_cons]
    show StrsAre (if (x.length != 0) = true then _ else _) _
    split
    · exact .cons _ _ ih
    · exact ih
theorem filH_St {w : World} {z s : Shared} {h₀ : Heap} {L : Addr} {m : Str → Option Value} {news : List Ent} {T : Addr} (D : St z h₀ L m news s) : St z h₀ L m news { s with heap := filH2 s.heap T } :=
  D.keeps s.toks fun b o e => Heap.get?_push_of_some _ (Heap.get?_push_of_some _ e)
@[reducible] noncomputable def IW62 (z : Shared) (news : List Ent) (rvs : List Value) (rows : List Str) (T : Addr) (g₁ : Heap) (L' : Addr) : Nat → Shared → Prop := fun n s => ∃ x t m', x.cps.toList.length = n ∧ n ≤ 9000 ∧ rs x.cps.toList = platL rows ∧ m' (Str.ofString "platform") = some (.str x t) ∧ St z g₁ L' m' ((T, isTpl rvs) :: news) s
@[reducible] noncomputable def IW61 (z : Shared) (news : List Ent) (rvs : List Value) (T : Addr) (g₁ : Heap) (L' : Addr) (g9 : List Nat) : Nat → Shared → Prop := fun n s => ∃ x t m', x.cps.toList.length = n ∧ n ≤ 9000 ∧ sq x.cps.toList = g9 ∧ m' (Str.ofString "platform") = some (.str x t) ∧ St z g₁ L' m' ((T, isTpl rvs) :: news) s
theorem plat_call {w : World} {z s : Shared} {h₀ : Heap} {L : Addr} {A : Around} {E : Value → Shared → Prop} {Q : Value → Shared → Prop} {m : Str → Option Value} {news : List Ent} {rvs : List Value} {rows : List Str}
  (D : St z h₀ L m news s) (B : Gd w h₀) (hst : (cStatics, isStat z) ∈ news) (htab : (53, isTab) ∈ news) (hA : A.depth < 440) (hh : A.handled = none) (hrs : StrsAre rvs rows) (hn : rows.length ≤ 20) (hrl : ∀ x ∈ rows, x.length ≤ 400)
  (k : ∀ x t s', x.cps.toList = platL rows → x.cps.toList.length ≤ 9000 → St z h₀ L m news s' → Q (.str x t) s') :
  wpAny (model PySem.Challenge.rw_ny0227_01.row.prog w) A (call (.ref 58) rvs) Q E s := by
  have X : hd.heap_1 w.params = hd.heap_1 w.params := rfl
  revert X
  k_fill
  intro X; clear X
  have hrvl : rvs.length = rows.length := hrs.length
  refine' enterV D B hst ?ho ?hcd (Nat.lt_trans hA (by decide)) ?hc ?c1 ?c2 ?c3 ?hb ?hsz ?hx ?_
  case ho => k_is
  case hcd => k_is
  case hb => exact bind_var rfl rfl
  case hc => kernel_rfl
  case c1 => kernel_rfl
  case c2 => kernel_rfl
  case c3 => kernel_rfl
  case hsz => rw [sizeLine_eq]; lia
  case hx => kernel_rfl
  intro T g₁ L' s₁ env D₁ B₁ hE hEq back
  have hcode : env.code = .ref 57 := by rw [hEq]; rfl
  clear hEq
  replace hh : (A.deeper env).handled = none := hh
  dsimp only [bm] at D₁
  have h57 : g₁.get? 57 = _ := B₁.X 57 _ ((kx_look (by decide)).trans (by k_is))
  have hcd : CodeHd g₁ 57 53 := ⟨_, _, _, _, _, _, _, _, _, h57, rfl, rfl, rfl, rfl, rfl, rfl, rfl, rfl, by decide⟩
  wtm_at "ss"
  refine' rGenN (by assumption) B₁ hE hcode hcd hh (Nat.lt_trans (show A.depth + 1 < 460 by lia) (by decide)) (closFree ?g1) ?g2 ?g3 ?g4 ?g5 ?g6 ?g7 (fun _ => by kernel_rfl)
  case g1 => kernel_rfl
  case g2 => kernel_rfl
  case g3 => kernel_rfl
  case g4 => kernel_rfl
  case g5 => kernel_rfl
  case g6 => kernel_rfl
  wtm_at "ss"
  rename_i s₂ D₂
  have hT₂ := D₂.ltB (.head _)
  refine call_filter (items := rvs.toArray) (let ⟨o, e, n, q⟩ := D₂.get (.head _); ⟨o, e, by rw [q], n, by rw [q]⟩) ?_
  generalize hJ : s₂.heap.objs.size = J
  have hJs : s₂.heap.objs.size ≤ J := Nat.le_of_eq hJ
  have hI : (filH1 s₂.heap T).objs.size = J + 1 := by rw [← hJ]; exact Heap.size_push ..
  rw [hI]
  have D₃ := filH_St (T := T) (w := w) D₂
  have hsz : (filH2 s₂.heap T).objs.size = J + 2 := (Heap.size_push ..).trans (congrArg (· + 1) hI)
  have hIJ : J + 1 ≠ J := by lia
  have hTJ : T ≠ J := Nat.ne_of_lt (hJ ▸ hT₂)
  have hstr : ∀ v ∈ rvs.toArray.toList, ∃ x t, v = Value.str x t ∧ x.length ≤ 1000 := by
    intro v hv
    have zh1 := List.getElem_of_mem (show v ∈ rvs by simpa using hv)
    obtain ⟨i, hi, e⟩ := zh1
    obtain ⟨y, ty, rfl, hy⟩ := hrs.item i v (by rw [← e]; exact List.getElem?_eq_getElem hi)
    exact Mine.i2_2 y ty rfl (by have := hrl y (List.mem_of_getElem? hy); lia)
  have hfil : FilS (J + 1) J T rvs.toArray 0 (filH2 s₂.heap T) := by
    refine Mine.I1 0 (Mine.a4 ?_ ?_ ?_ (by simp))
    · exact Mine.i1_3 _ (by rw [← hJ]; exact Heap.get?_push_of_some _ (Heap.get?_push_size _ rfl)) rfl rfl
    · obtain ⟨o, e, n, q⟩ := D₃.get (.head _)
      exact ⟨o, e, by rw [q], n, by rw [q]⟩
    · exact Mine.i1_3 _ (by rw [← hI]; exact Heap.get?_push_size _ rfl) rfl (by rw [hJ])
  have hSF := strs_full hrs
  refine (Walks.filter (A := A.deeper env) hh hIJ hTJ rvs.toArray hstr).self 0 _ _ _ hfil ?_
  refine Mine.I8 _ (J + 1) [J + 1, J, T] [J] _ _ _ (fun i v => ∃ y t, (rows.filter fun r => r.length != 0)[i]? = some y ∧ v = Value.str (Txt.strip y) t) (Mine.a11 rfl D₃ (.tail _ htab) (.tail _ hst) (fun A' hA' => Walks.filter hA' hIJ hTJ rvs.toArray hstr) hfil ?_ ?_ ?_ ?_ ?_)
  · intro b hb
    show b < (filH2 s₂.heap T).objs.size
    rw [hsz]
    simp at hb
    rcases hb with rfl | rfl | rfl
    · exact Nat.lt_succ_self _
    · exact Nat.lt_succ_of_lt (Nat.lt_succ_self _)
    · exact Nat.lt_succ_of_lt (Nat.lt_succ_of_lt (hJ ▸ hT₂))
  · intro hb
    have h53 := D₂.ltB (.tail _ htab)
    simp at hb
    have h53' : (53 : Nat) < J := hJ ▸ h53
    rcases hb with q | q | q
    · exact absurd h53' (by rw [q]; decide)
    · exact Nat.ne_of_lt h53' q
    · exact (List.pairwise_cons.mp D₂.led.ord).1 53 (List.mem_map_of_mem (f := (·.1)) htab) q.symm
  · intro b hb
    rw [List.mem_singleton.mp hb]
    exact D₂.freshB hJs
  · intro C cenv A' E' i v t m₂ hA' hE' hP K hm
    have zh2 := hSF.item i v (by simpa using hP)
    refine Mine.e2_2 zh2 ?_
    try clear zh2
    intro y ty zq3 hy
    subst zq3
    have hyl := hrl y (List.mem_filter.mp (List.mem_of_getElem? hy)).1
    wtm_at "g_ev"
    refine k0NmL K hE' (by kernel_rfl) hm ?_ (by kernel_rfl)
    refine rStrMeth PySem.F.slot_str_strip PySem.F.type_str_strip ?_
    refine cwB0 ?_
    exact SC.strip (fun t' kk => ⟨⟨y, t', hy, rfl⟩, K.ofSt kk⟩) (by rw [sizeLine_eq]; lia)
  intro a s₄ D₄ GX
  have hlen : rvs.toArray.toList.filter full = rvs.filter full := by simp
  have hkl : (rvs.filter full).length = (rows.filter fun r => r.length != 0).length := hSF.length
  have hkr : (rows.filter fun r => r.length != 0).length ≤ 20 := Nat.le_trans (List.length_filter_le _ _) hn
  refine rJoinG (ys := (rows.filter fun r => r.length != 0).map Txt.strip) D₄ GX (by rw [hlen, hkl, List.length_map]) (fun j v hv => ?_) ?_ (by rw [hlen, hkl, sizeLine_eq]; lia) ?_
  · refine Mine.e2_2 hv ?_
    try clear hv
    intro y t hy zq4
    subst zq4
    exact Mine.i2_2 _ t (by rw [List.getElem?_map, hy]; rfl) rfl
  · refine joinOk_of (n := 20000) ?_ (by decide)
    have h1 : ∀ x ∈ (rows.filter fun r => r.length != 0).map Txt.strip, x.length ≤ 400 := by
      intro x hx
      refine Mine.e1_2 (List.mem_map.mp hx) ?_
      intro y hy zq5
      subst zq5
      have := hrl y (List.mem_filter.mp hy).1
      rw [len_toList, Txt.strip, stripBy_L]
      exact Nat.le_trans (len_stripL _ _) (by rw [← len_toList]; exact this)
    have h2 := sum_le h1
    rw [List.length_map] at h2 ⊢
    have : (Str.ofString "-").length = 1 := rfl
    rw [this]
    lia
  intro tp s₅ D₅
  generalize hx0 : Txt.join (Str.ofString "-") ((rows.filter fun r => r.length != 0).map Txt.strip) = x0
  have e0 : x0.cps.toList = jn [45] ((rows.filter fun r => r.length != 0).map fun r => stripL Unicode.isSpace r.cps.toList) := by
    rw [← hx0, join_jn, List.map_map]
    show jn [45] _ = jn [45] _
    congr 1
    exact List.map_congr_left fun r _ => stripBy_L _ r
  have hl0 : x0.cps.toList.length ≤ 9000 := by
    rw [← len_toList, ← hx0]
    refine Nat.le_trans (join_len _ _) ?_
    have h1 : ∀ x ∈ (rows.filter fun r => r.length != 0).map Txt.strip, x.length ≤ 400 := by
      intro x hx
      refine Mine.e1_2 (List.mem_map.mp hx) ?_
      intro y hy zq6
      subst zq6
      have := hrl y (List.mem_filter.mp hy).1
      rw [len_toList, Txt.strip, stripBy_L]
      exact Nat.le_trans (len_stripL _ _) (by rw [← len_toList]; exact this)
    have h2 := sum_le h1
    rw [List.length_map] at h2 ⊢
    have : (Str.ofString "-").length = 1 := rfl
    rw [this]
    lia
  wtm_at "s1"
  refine xAssign ?_ (by kernel_rfl)
  wtm_at "g_ev"; wtm_at "g_ev"; wtm_at "g_gm"
  refine cwB2 ?_ (by kernel_rfl) (by kernel_rfl)
  refine rReplC (d := 32) (e := 95) (by assumption) hl0 (by decide) (by kernel_rfl) (by kernel_rfl) (by kernel_rfl) ?_
  intro x1 _ _ e1 hl1 _
  wtm_at "s1"
  refine xAssign ?_ (by kernel_rfl)
  wtm_at "g_ev"; wtm_at "g_ev"; wtm_at "g_gm"
  refine cwB2 ?_ (by kernel_rfl) (by kernel_rfl)
  refine rReplC (d := 47) (e := 45) (by assumption) hl1 (by decide) (by kernel_rfl) (by kernel_rfl) (by kernel_rfl) ?_
  intro x2 _ _ e2 hl2 _
  wtm_at "s1"
  refine xAssign ?_ (by kernel_rfl)
  wtm_at "g_ev"; wtm_at "g_ev"; wtm_at "g_gm"
  refine cwB2 ?_ (by kernel_rfl) (by kernel_rfl)
  refine rReplC (d := 92) (e := 45) (by assumption) hl2 (by decide) (by kernel_rfl) (by kernel_rfl) (by kernel_rfl) ?_
  intro x3 _ _ e3 hl3 _
  wtm_at "s1"
  refine xAssign ?_ (by kernel_rfl)
  wtm_at "g_ev"; wtm_at "g_ev"; wtm_at "g_gm"
  refine cwB2 ?_ (by kernel_rfl) (by kernel_rfl)
  refine rReplC (d := 58) (e := 45) (by assumption) hl3 (by decide) (by kernel_rfl) (by kernel_rfl) (by kernel_rfl) ?_
  intro x4 _ _ e4 hl4 _
  wtm_at "s1"
  refine xAssign ?_ (by kernel_rfl)
  wtm_at "g_ev"; wtm_at "g_ev"; wtm_at "g_gm"
  refine cwB2 ?_ (by kernel_rfl) (by kernel_rfl)
  refine rReplC (d := 59) (e := 45) (by assumption) hl4 (by decide) (by kernel_rfl) (by kernel_rfl) (by kernel_rfl) ?_
  intro x5 _ _ e5 hl5 _
  wtm_at "s1"
  refine xAssign ?_ (by kernel_rfl)
  wtm_at "g_ev"; wtm_at "g_ev"; wtm_at "g_gm"
  refine cwB2 ?_ (by kernel_rfl) (by kernel_rfl)
  refine rReplC (d := 34) (e := 45) (by assumption) hl5 (by decide) (by kernel_rfl) (by kernel_rfl) (by kernel_rfl) ?_
  intro x6 _ _ e6 hl6 _
  wtm_at "s1"
  refine xAssign ?_ (by kernel_rfl)
  wtm_at "g_ev"; wtm_at "g_ev"; wtm_at "g_gm"
  refine cwB2 ?_ (by kernel_rfl) (by kernel_rfl)
  refine rReplC (d := 40) (e := 45) (by assumption) hl6 (by decide) (by kernel_rfl) (by kernel_rfl) (by kernel_rfl) ?_
  intro x7 _ _ e7 hl7 _
  wtm_at "s1"
  refine xAssign ?_ (by kernel_rfl)
  wtm_at "g_ev"; wtm_at "g_ev"; wtm_at "g_gm"
  refine cwB2 ?_ (by kernel_rfl) (by kernel_rfl)
  refine rReplC (d := 41) (e := 45) (by assumption) hl7 (by decide) (by kernel_rfl) (by kernel_rfl) (by kernel_rfl) ?_
  intro x8 _ _ e8 hl8 _
  wtm_at "s1"
  refine xAssign ?_ (by kernel_rfl)
  wtm_at "g_ev"; wtm_at "g_ev"; wtm_at "g_gm"
  refine cwB2 ?_ (by kernel_rfl) (by kernel_rfl)
  refine rReplU (by assumption) hl8 (by decide) ?_
  intro x9 _ _ e9 hl9 _
  wtm_at "s1"
  have e : rs (sq x9.cps.toList) = platL rows := by
    rw [e9, e8, e7, e6, e5, e4, e3, e2, e1, rp_all, e0]; rfl
  clear e0 e1 e2 e3 e4 e5 e6 e7 e8 e9 hl0 hl1 hl2 hl3 hl4 hl5 hl6 hl7 hl8 
  rename_i D₉
  replace D₉ := D₉
  generalize hsq : sq x9.cps.toList = g9 at e
  refine xWhile (IW61 z news rvs T g₁ L' g9) _ ⟨x9, _, _, rfl, hl9, hsq, by wtm_at "mget", D₉⟩ ?_
  intro n s' zh7
  refine Mine.E3 zh7 ?_
  try clear zh7
  intro x t m' zk37
  refine Mine.e0_5 zk37 ?_
  clear zk37
  intro zq8 hl hq hm D'
  subst zq8
  clear D₉
  wtm_at "s1"; wtm_at "s1"; wtm_at "s1"
  refine iteT ?_
  refine xAssign ?_ (by kernel_rfl)
  wtm_at "g_ev"; wtm_at "g_ev"; wtm_at "g_gm"
  refine cwB2 ?_ (by kernel_rfl) (by kernel_rfl)
  refine rReplD (by assumption) hl (by decide) ?_
  intro y ty _ ey hly _
  wtm_at "s1"
  refine' xIfT (by assumption) ?ht ?hT ?hF
  case ht => wtm_at "ss"
  case hT =>
    intro hb s₂ D₂
    have hxy : y.cps.toList = x.cps.toList := by simpa using hb
    have hfix := sq_fix _ _ rfl (ey.symm.trans hxy)
    refine wpAny_execs_cons (PySem.wpAny_Break ?_)
    refine andThen_brk (turn_brk (andThen_next ?_))
    rw [hfix] at hq
    rw [← hq] at e
    refine xWhile (IW62 z news rvs rows T g₁ L') _ ⟨x, t, _, rfl, hl, e, by wtm_at "mget", D₂⟩ ?_
    clear hm D' D₂ hb hxy hfix ey hly e hl hq
    intro n s' zh9
    refine Mine.E3 zh9 ?_
    try clear zh9
    intro x t m' zk38
    refine Mine.e0_5 zk38 ?_
    clear zk38
    intro zq10 hl hq hm D'
    subst zq10
    have hsz' : x.length ≤ 9000 := by rw [len_toList]; exact hl
    rcases List.eq_nil_or_concat x.cps.toList with hx | ⟨l, c, hx⟩
    · refine' tCont (b := (x.length != 0) && false) (by assumption) ?ht2 ?hT2 ?hF2
      case ht2 =>
        refine' tAnd ?h12 ?h22
        case h12 => wtm_at "ss"
        case h22 =>
          refine nxt ?_
          intro hc
          exact absurd (by rw [len_toList, hx]; rfl) (show x.length ≠ 0 by simpa using hc)
      case hT2 => intro hc; simp at hc
      case hF2 =>
        intro _ s₂ D₂
        wtm_at "ss"
        exact k x t _ (by rw [← hq, hx]; rfl) hl (back _ _ _ (by wtm_at "D"))
    · rw [List.concat_eq_append] at hx
      refine' tCont (by assumption) ?ht3 ?hT3 ?hF3
      case ht3 =>
        wtm_at "ss"
        refine rStrLast (by assumption) hx ?_ (by kernel_rfl)
        intro _ _ _
        wtm_at "ss"
      case hT3 =>
        intro hc s₂ D₂
        have hc45 : c = 45 := by
          have := (Bool.and_eq_true_iff.mp (Bool.and_eq_true_iff.mp hc).2).1
          have : [c] = [45] := beq_iff_eq.mp this
          exact (List.cons.inj this).1
        wtm_at "ss"
        refine rStrInit (by assumption) List.mem_cons_self hx (by wtm_at "size") ?_ (by kernel_rfl) (fun _ => by kernel_rfl)
        intro y ty _ hsl _
        wtm_at "ss"
        rename_i D₃
        have D₄ := D₃.sub (.cons _ (List.Sublist.refl _))
        refine turn_next ⟨_, ?_, (Mine.I3 y ty _ (Mine.a5 rfl ?_ ?_ (by wtm_at "mget") D₄))⟩
        · rw [hsl, hx]; simp
        · rw [hsl]; rw [hx] at hl; simp at hl; lia
        · rw [hsl, ← hq, hx, hc45, rs_hy]
      case hF3 =>
        intro hc s₂ D₂
        wtm_at "ss"
        refine k x t _ ?_ hl (back _ _ _ (by wtm_at "D"))
        rw [← hq, hx]
        have hc45 : c ≠ 45 := by
          rintro rfl
          rw [len_toList, hx] at hc
          simp at hc
          exact absurd hc (by decide +kernel)
        exact (rs_end l hc45).symm
  case hF =>
    intro hb s₂ D₂
    have hxy : y.cps.toList ≠ x.cps.toList := by simpa using hb
    have hlt : y.cps.toList.length < x.cps.toList.length := by
      rcases dd_fix _ x.cps.toList rfl with q | q
      · exact absurd (ey.trans q) hxy
      · rw [ey]; exact q
    wtm_at "ss"
    rename_i D₃
    exact turn_next ⟨_, hlt, (Mine.I3 y ty _ (Mine.a5 rfl hly (by rw [ey, sq_dd _ _ rfl]; exact hq) (by wtm_at "mget") D₃))⟩
end Mine
end

local macro_rules | `(tactic| wtm_at "getk") => `(tactic| first | exact getK_hd | exact getK_nil | (refine getK_tl (by kernel_rfl) ?_; wtm_at "getk"))
local macro_rules | `(tactic| wtm_at "putk") => `(tactic| first | exact putK_nil | exact putK_hd | (refine putK_tl (by kernel_rfl) ?_; wtm_at "putk"))
local macro_rules | `(tactic| wtm_at "g_ev") => `(tactic| with_reducible (refine attrE ?_ (by kernel_rfl)))
local macro_rules | `(tactic| wtm_at "g_ex") => `(tactic| with_reducible first | refine xAsgAttr ?_ (by kernel_rfl) | refine xAugSub ?_ (fun _ _ _ => by kernel_rfl))
local macro_rules | `(tactic| wtm_at "g_cw") => `(tactic| with_reducible first
  | refine cfT3 ?_ (by kernel_rfl) (by kernel_rfl) (by kernel_rfl)
  | refine cF0 (by assumption) (by assumption) (by kernel_rfl) ?_
  | refine cF1 (by assumption) (by assumption) (by kernel_rfl) ?_ (by kernel_rfl)
  | refine cF2 (by assumption) (by assumption) (by kernel_rfl) ?_ (by kernel_rfl) (by kernel_rfl)
  | refine cF3 (by assumption) (by assumption) (by kernel_rfl) ?_ (by kernel_rfl) (by kernel_rfl) (by kernel_rfl)
  | refine cG1 (by assumption) (by assumption) (by kernel_rfl) ?_ (by kernel_rfl)
  | refine cG2 (by assumption) (by assumption) (by kernel_rfl) ?_ (by kernel_rfl) (by kernel_rfl)
  | refine cG4 (by assumption) (by assumption) (by kernel_rfl) ?_ (by kernel_rfl) (by kernel_rfl) (by kernel_rfl) (by kernel_rfl))
local macro_rules | `(tactic| wtm_at "g_gm") => `(tactic| with_reducible first
  | refine rMethV (name := Str.ofString "_str") (by assumption) (by assumption) (by wtm_at "mem") (by wtm_at "mem") (by wtm_at "getk") (by kernel_rfl) (fV_str _) (by kernel_rfl) ?_
  | refine rMethV (name := Str.ofString "newline") (by assumption) (by assumption) (by wtm_at "mem") (by wtm_at "mem") (by wtm_at "getk") (by kernel_rfl) (fV_newline _) (by kernel_rfl) ?_
  | refine rMethV (name := Str.ofString "_ascii_split") (by assumption) (by assumption) (by wtm_at "mem") (by wtm_at "mem") (by wtm_at "getk") (by kernel_rfl) (fV_ascii_split _) (by kernel_rfl) ?_
  | refine rMethV (name := Str.ofString "_append_chunk") (by assumption) (by assumption) (by wtm_at "mem") (by wtm_at "mem") (by wtm_at "getk") (by kernel_rfl) (fV_append_chunk _) (by kernel_rfl) ?_
  | refine rMethAF (name := Str.ofString "push") (by assumption) (by assumption) (by wtm_at "mem") (by wtm_at "mem") (by wtm_at "getk") (fA_push _) (by kernel_rfl) ?_
  | refine rMethAF (name := Str.ofString "pop_from") (by assumption) (by assumption) (by wtm_at "mem") (by wtm_at "mem") (by wtm_at "getk") (fA_pop_from _) (by kernel_rfl) ?_
  | refine rMethAF (name := Str.ofString "pop") (by assumption) (by assumption) (by wtm_at "mem") (by wtm_at "mem") (by wtm_at "getk") (fA_pop _) (by kernel_rfl) ?_
  | refine rMethAF (name := Str.ofString "reset") (by assumption) (by assumption) (by wtm_at "mem") (by wtm_at "mem") (by wtm_at "getk") (fA_reset _) (by kernel_rfl) ?_
  | refine rMethAF (name := Str.ofString "is_onlyws") (by assumption) (by assumption) (by wtm_at "mem") (by wtm_at "mem") (by wtm_at "getk") (fA_is_onlyws _) (by kernel_rfl) ?_
  | refine rMethAF (name := Str.ofString "part_count") (by assumption) (by assumption) (by wtm_at "mem") (by wtm_at "mem") (by wtm_at "getk") (fA_part_count _) (by kernel_rfl) ?_
  | refine rMethAB (name := Str.ofString "append") (id := "list.append") (by assumption) (by assumption) (by wtm_at "mem") (by wtm_at "mem") (by wtm_at "getk") (by kernel_rfl) PySem.F.type_list_append ?_)
local macro_rules | `(tactic| wtm_at "g_oth") => `(tactic| with_reducible first
  | refine callAt (by assumption) ?_
  | (show wpAny _ _ (getAttr _ _ _) _ _ _; first
    | (refine rGetV (by assumption) (by assumption) (by wtm_at "mem") (by wtm_at "mem") (by wtm_at "getk") (by kernel_rfl) (by kernel_rfl) rfl ?_; intro _ _)
    | (refine rGetA (by assumption) (by assumption) (by wtm_at "mem") (by wtm_at "mem") (by wtm_at "getk") (by kernel_rfl) rfl ?_; intro _ _))
  | (show wpAny _ _ (setAttr _ _ _) _ _ _; first
    | (refine rSetV' (by assumption) (by assumption) (by wtm_at "mem") (by wtm_at "mem") (by wtm_at "putk") (by wtm_at "rpe") (by exact Nat.le_of_ble_eq_true rfl) (by kernel_rfl) ?_; intro _ _)
    | (refine rSetA' (by assumption) (by assumption) (by wtm_at "mem") (by wtm_at "mem") (by wtm_at "putk") (by wtm_at "rpe") (by exact Nat.le_of_ble_eq_true rfl) (by kernel_rfl) ?_; intro _ _)))
local macro_rules | `(tactic| wtm_at "g_co") => `(tactic| with_reducible first | refine PyProof.Rows.is_ref_none ?_ | refine PyProof.Rows.is_none_none ?_)

section
open PySem PySem.W PySem.W.X PyProof.Rows PySem.Calls
set_option maxHeartbeats 4000000
namespace Mine
/- ## the methods of _Accumulator -/
theorem acc_init {w : World} {z s : Shared} {h₀ : Heap} {L : Addr} {A : Around} {E : Value → Shared → Prop} {Q : Value → Shared → Prop} {m : Str → Option Value} {lo : List Ent} {a ad : Addr} {k : Int} {t : Tok}
  (D : St z h₀ L m ((a, isAcc ad []) :: (ad, isDct w.params []) :: lo) s) (B : Gd w h₀) (hst : (cStatics, isStat z) ∈ lo) (hA : A.depth < 460) (hh : A.handled = none)
  (kk : ∀ s', St z h₀ L m ((a, isAcc ad []) :: (ad, isDct w.params [(Str.ofString "_initial_size", .int k t)]) :: lo) s' → Q (.ref a) s') :
  codeAny (model PySem.Challenge.rw_ny0227_01.row.prog w) A (.call (.ref 157) ⟨[.ref a, .int k t], []⟩) (IniQ a Q E) s := by
  have X : hd.heap_1 w.params = hd.heap_1 w.params := rfl
  revert X
  k_fill
  intro X; clear X
  refine' enterI (binds := [(Str.ofString "self", .ref a), (Str.ofString "initial_size", .int k t)]) D B (.tail _ (.tail _ hst)) ?ho ?hcd (Nat.lt_trans hA (by decide)) ?hb ?hc ?hl ?c1 ?c2 ?c3 ?_
  case ho => k_is
  case hcd => k_is
  case hb => intro S; kernel_rfl
  case hc => kernel_rfl
  case hl => kernel_rfl
  case c1 => kernel_rfl
  case c2 => kernel_rfl
  case c3 => kernel_rfl
  intro g₁ L' s₁ env D₁ B₁ hE hEq back
  replace hh : (A.deeper env).handled = none := hh
  dsimp only [bm] at D₁
  refine aAsgAttr ?_ (by kernel_rfl)
  wtm_at "ss"
  have hf : (Kx w.params).lookup 157 = _ := (kx_look (by decide)).trans (by k_is)
  have hc : (Kx w.params).lookup 156 = _ := (kx_look (by decide)).trans (by k_is)
  have hfu : env.func = some 157 := by rw [hEq]; rfl
  have hco : env.code = .ref 156 := by rw [hEq]; rfl
  have hcl : env.cells.lookup ("__class__" : Str) = some 144 := by rw [hEq]; rfl
  refine ks_wpAt_execs_cons (ks_wpAt_Expr_any (aSup ?_ (by kernel_rfl) (by kernel_rfl)) (by unfold interactive; rw [hE.kind]; rfl) (by kernel_rfl))
  clear hEq
  refine rSupBase (by assumption) B₁ hE (by wtm_at "mem") hfu hf rfl (by wtm_at "mget") hco hc rfl (by kernel_rfl) (by kernel_rfl) (by kernel_rfl) (by kernel_rfl) (by kernel_rfl) (by kernel_rfl) hcl ?_
  intro so s₂ D₂
  refine rSupMeth supIni D₂ B₁ (.tail _ (.tail _ (.tail _ hst))) (by wtm_at "mem") (by wtm_at "mem") (by kernel_rfl) ?_
  intro q s₃ D₃
  refine cBnd D₃ (by wtm_at "mem") (.inl rfl) (rBound D₃ (by wtm_at "mem") (.inl rfl) (by decide +kernel) F.entry_list_init (by rw [chkIni]; exact .now) (tIniA D₃ B₁ (.tail (.tail .head)) (by simp) ?_))
  intro s₄ D₄
  exact aNil ⟨rfl, kk _ (back _ _ _ (D₄.sub (.cons _ (.cons _ (List.Sublist.refl _)))))⟩
end Mine
end

section
open PySem PySem.W PySem.W.X PyProof.Rows PySem.Calls
set_option maxHeartbeats 4000000
namespace Mine
/- ## _Accumulator: push, part_count, pop, pop_from, reset -/
theorem acc_push {w : World} {z s : Shared} {h₀ : Heap} {L : Addr} {A : Around} {E : Value → Shared → Prop} {Q : Value → Shared → Prop} {m : Str → Option Value} {up lo : List Ent} {vs : List Value} {a ad : Addr} {k : Int} {t t1 t2 : Tok} {x y : Str}
  (D : St z h₀ L m (up ++ (a, isAcc ad vs) :: (ad, isDct w.params [(Str.ofString "_initial_size", .int k t)]) :: lo) s) (B : Gd w h₀) (hst : (cStatics, isStat z) ∈ lo) (hA : A.depth < 450) (hh : A.handled = none) (hz : vs.length ≤ 100)
  (kk : ∀ T s', St z h₀ L m ((T, isPr (x, y)) :: up ++ (a, isAcc ad (vs ++ [.ref T])) :: (ad, isDct w.params [(Str.ofString "_initial_size", .int k t)]) :: lo) s' → Q .none s') :
  wpAny (model PySem.Challenge.rw_ny0227_01.row.prog w) A (call (.ref 164) [.ref a, .str x t1, .str y t2]) Q E s := by
  have X : hd.heap_1 w.params = hd.heap_1 w.params := rfl
  revert X
  k_fill
  intro X; clear X
  refine' enter (binds := [(Str.ofString "self", .ref a), (Str.ofString "fws", .str x t1), (Str.ofString "string", .str y t2)]) D B (memU (.tail _ (.tail _ hst))) ?ho ?hcd (Nat.lt_trans hA (by decide)) ?hb ?hc ?hl ?c1 ?c2 ?c3 ?_
  case ho => k_is
  case hcd => k_is
  case hb => exact BindsTo.of_eq (by kernel_rfl)
  case hc => kernel_rfl
  case hl => kernel_rfl
  case c1 => kernel_rfl
  case c2 => kernel_rfl
  case c3 => kernel_rfl
  intro g₁ L' s₁ env D₁ B₁ hE hEq back
  replace hh : (A.deeper env).handled = none := hh
  have hA' : (A.deeper env).depth < 451 := Nat.succ_lt_succ hA
  dsimp only [bm] at D₁
  clear hEq
  wtm_at "ss"
  refine rAppA (by assumption) B₁ (by wtm_at "rpe") (by lia) ?_
  intro s₂ D₂
  wtm_at "ss"
  exact kk _ _ (back _ _ _ (D₂.weak fun o => tpl_pr))
theorem acc_count {w : World} {z s : Shared} {h₀ : Heap} {L : Addr} {A : Around} {E : Value → Shared → Prop} {Q : Value → Shared → Prop} {m : Str → Option Value} {up lo : List Ent} {vs : List Value} {a ad : Addr} {P : Obj → Prop}
  (D : St z h₀ L m (up ++ (a, isAcc ad vs) :: (ad, P) :: lo) s) (B : Gd w h₀) (hst : (cStatics, isStat z) ∈ lo) (hA : A.depth < 451) (hh : A.handled = none)
  (kk : ∀ t s', St z h₀ L m (up ++ (a, isAcc ad vs) :: (ad, P) :: lo) s' → Q (.int vs.length t) s') :
  wpAny (model PySem.Challenge.rw_ny0227_01.row.prog w) A (call (.ref 217) [.ref a]) Q E s := by
  have X : hd.heap_1 w.params = hd.heap_1 w.params := rfl
  revert X
  k_fill
  intro X; clear X
  refine' enterP (binds := [(Str.ofString "self", .ref a)]) D B (memU (.tail _ (.tail _ hst))) ?ho ?hcd (Nat.lt_trans hA (by decide)) ?hb ?hc ?hl ?c1 ?c2 ?c3 ?_
  case ho => k_is
  case hcd => k_is
  case hb => intro S; kernel_rfl
  case hc => kernel_rfl
  case hl => kernel_rfl
  case c1 => kernel_rfl
  case c2 => kernel_rfl
  case c3 => kernel_rfl
  intro g₁ L' s₁ env D₁ B₁ hE hEq back
  replace hh : (A.deeper env).handled = none := hh
  have hA' : (A.deeper env).depth < 452 := Nat.succ_lt_succ hA
  dsimp only [bm] at D₁
  have hf : (Kx w.params).lookup 217 = _ := (kx_look (by decide)).trans (by k_is)
  have hc : (Kx w.params).lookup 216 = _ := (kx_look (by decide)).trans (by k_is)
  have hfu : env.func = some 217 := by rw [hEq]; rfl
  have hco : env.code = .ref 216 := by rw [hEq]; rfl
  have hcl : env.cells.lookup ("__class__" : Str) = some 144 := by rw [hEq]; rfl
  clear hEq
  refine ks_wpAt_execs_cons (ks_wpAt_Return_some (aSup ?_ (by kernel_rfl) (by kernel_rfl)))
  refine rSupBase (by assumption) B₁ hE (by wtm_at "mem") hfu hf rfl (by wtm_at "mget") hco hc rfl (by kernel_rfl) (by kernel_rfl) (by kernel_rfl) (by kernel_rfl) (by kernel_rfl) (by kernel_rfl) hcl ?_
  intro so s₂ D₂
  refine rSupMeth supLen D₂ B₁ (.tail _ (memU (.tail _ (.tail _ hst)))) (by wtm_at "mem") (by wtm_at "mem") (by kernel_rfl) ?_
  intro q s₃ D₃
  refine cBnd D₃ (by wtm_at "mem") (.inl rfl) (rBound D₃ (by wtm_at "mem") (.inl rfl) (by decide +kernel) F.entry_list_len (by rw [chkLen]; exact .now) (tLenA (dx := ad) (vs := vs) D₃ B₁ (by wtm_at "mem") ?_))
  intro t s₄ D₄
  exact kk _ _ (back _ _ _ (D₄.sub (.cons _ (.cons _ (List.Sublist.refl _)))))
theorem acc_pop0 {w : World} {z s : Shared} {h₀ : Heap} {L : Addr} {A : Around} {E : Value → Shared → Prop} {Q : Value → Shared → Prop} {m : Str → Option Value} {up lo : List Ent} {a ad : Addr} {k : Int} {t : Tok}
  (D : St z h₀ L m (up ++ (a, isAcc ad []) :: (ad, isDct w.params [(Str.ofString "_initial_size", .int k t)]) :: lo) s) (B : Gd w h₀) (hst : (cStatics, isStat z) ∈ lo) (hA : A.depth < 450) (hh : A.handled = none)
  (kk : ∀ T s', St z h₀ L m ((T, isPr (Str.ofString "", Str.ofString "")) :: up ++ (a, isAcc ad []) :: (ad, isDct w.params [(Str.ofString "_initial_size", .int k t)]) :: lo) s' → Q (.ref T) s') :
  wpAny (model PySem.Challenge.rw_ny0227_01.row.prog w) A (call (.ref 180) [.ref a]) Q E s := by
  have X : hd.heap_1 w.params = hd.heap_1 w.params := rfl
  revert X
  k_fill
  intro X; clear X
  refine' enterP (binds := [(Str.ofString "self", .ref a)]) D B (memU (.tail _ (.tail _ hst))) ?ho ?hcd (Nat.lt_trans hA (by decide)) ?hb ?hc ?hl ?c1 ?c2 ?c3 ?_
  case ho => k_is
  case hcd => k_is
  case hb => intro S; kernel_rfl
  case hc => kernel_rfl
  case hl => kernel_rfl
  case c1 => kernel_rfl
  case c2 => kernel_rfl
  case c3 => kernel_rfl
  intro g₁ L' s₁ env D₁ B₁ hE hEq back
  replace hh : (A.deeper env).handled = none := hh
  have hA' : (A.deeper env).depth < 451 := Nat.succ_lt_succ hA
  dsimp only [bm] at D₁
  clear hEq
  refine PySem.wpAt_of_wpAny ?_
  refine xIf' ?_
  wtm_at "ss"
  refine acc_count (by assumption) B₁ hst hA' hh ?_
  intro tt s₂ D₂
  wtm_at "ss"
  refine ifT rfl ?_
  wtm_at "ss"
  rename_i D₃
  exact kk _ _ (back _ _ _ (D₃.weak fun o => tpl_pr))
theorem acc_pop1 {w : World} {z s : Shared} {h₀ : Heap} {L : Addr} {A : Around} {E : Value → Shared → Prop} {Q : Value → Shared → Prop} {m : Str → Option Value} {up lo : List Ent} {a ad : Addr} {vs : List Value} {v : Value} {k : Int} {t : Tok}
  (D : St z h₀ L m (up ++ (a, isAcc ad (vs ++ [v])) :: (ad, isDct w.params [(Str.ofString "_initial_size", .int k t)]) :: lo) s) (B : Gd w h₀) (hst : (cStatics, isStat z) ∈ lo) (hA : A.depth < 450) (hh : A.handled = none) (hz : vs.length ≤ 100)
  (kk : ∀ s', St z h₀ L m (up ++ (a, isAcc ad vs) :: (ad, isDct w.params [(Str.ofString "_initial_size", .int k t)]) :: lo) s' → Q v s') :
  wpAny (model PySem.Challenge.rw_ny0227_01.row.prog w) A (call (.ref 180) [.ref a]) Q E s := by
  have X : hd.heap_1 w.params = hd.heap_1 w.params := rfl
  revert X
  k_fill
  intro X; clear X
  refine' enterP (binds := [(Str.ofString "self", .ref a)]) D B (memU (.tail _ (.tail _ hst))) ?ho ?hcd (Nat.lt_trans hA (by decide)) ?hb ?hc ?hl ?c1 ?c2 ?c3 ?_
  case ho => k_is
  case hcd => k_is
  case hb => intro S; kernel_rfl
  case hc => kernel_rfl
  case hl => kernel_rfl
  case c1 => kernel_rfl
  case c2 => kernel_rfl
  case c3 => kernel_rfl
  intro g₁ L' s₁ env D₁ B₁ hE hEq back
  replace hh : (A.deeper env).handled = none := hh
  have hA' : (A.deeper env).depth < 451 := Nat.succ_lt_succ hA
  dsimp only [bm] at D₁
  have hf : (Kx w.params).lookup 180 = _ := (kx_look (by decide)).trans (by k_is)
  have hc : (Kx w.params).lookup 179 = _ := (kx_look (by decide)).trans (by k_is)
  have hfu : env.func = some 180 := by rw [hEq]; rfl
  have hco : env.code = .ref 179 := by rw [hEq]; rfl
  have hcl : env.cells.lookup ("__class__" : Str) = some 144 := by rw [hEq]; rfl
  clear hEq
  refine aIfF (St z g₁ L' (upd (fun _ => none) (Str.ofString "self") (.ref a)) (up ++ (a, isAcc ad (vs ++ [v])) :: (ad, isDct w.params [(Str.ofString "_initial_size", .int k t)]) :: lo)) ?_ ?_
  · wtm_at "ss"
    refine acc_count (by assumption) B₁ hst hA' hh ?_
    intro tt s₂ D₂
    wtm_at "ss"
    exact ⟨by simp; lia, by assumption⟩
  clear D₁
  intro s₁ D₁
  refine ks_wpAt_execs_cons (ks_wpAt_Return_some (aSup ?_ (by kernel_rfl) (by kernel_rfl)))
  refine rSupBase (by assumption) B₁ hE (by wtm_at "mem") hfu hf rfl (by wtm_at "mget") hco hc rfl (by kernel_rfl) (by kernel_rfl) (by kernel_rfl) (by kernel_rfl) (by kernel_rfl) (by kernel_rfl) hcl ?_
  intro so s₂ D₂
  refine rSupMeth supPop D₂ B₁ (.tail _ (memU (.tail _ (.tail _ hst)))) (by wtm_at "mem") (by wtm_at "mem") (by kernel_rfl) ?_
  intro q s₃ D₃
  refine cBnd D₃ (by wtm_at "mem") (.inr rfl) (rBound D₃ (by wtm_at "mem") (.inr rfl) (by decide +kernel) F.entry_list_pop (chkPop (dx := ad) (vs := vs ++ [v]) D₃ B₁ (by wtm_at "mem")) (tPopA (dx := ad) (ws := vs) D₃ B₁ (by wtm_at "rpe") (by lia) ?_))
  intro s₄ D₄
  exact kk _ (back _ _ _ (D₄.sub (.cons _ (.cons _ (List.Sublist.refl _)))))
theorem acc_popfrom {w : World} {z s : Shared} {h₀ : Heap} {L : Addr} {A : Around} {E : Value → Shared → Prop} {Q : Value → Shared → Prop} {m : Str → Option Value} {up lo : List Ent} {a ad : Addr} {vs : List Value} {k : Int} {t : Tok} {i : Nat} {ti : Tok}
  (D : St z h₀ L m (up ++ (a, isAcc ad vs) :: (ad, isDct w.params [(Str.ofString "_initial_size", .int k t)]) :: lo) s) (B : Gd w h₀) (hst : (cStatics, isStat z) ∈ lo) (hA : A.depth < 450) (hh : A.handled = none) (hz : vs.length ≤ 100) (hi : i ≤ vs.length)
  (kk : ∀ l s', St z h₀ L m ((l, isLst (vs.drop i)) :: up ++ (a, isAcc ad (vs.take i)) :: (ad, isDct w.params [(Str.ofString "_initial_size", .int k t)]) :: lo) s' → Q (.ref l) s') :
  wpAny (model PySem.Challenge.rw_ny0227_01.row.prog w) A (call (.ref 172) [.ref a, .int i ti]) Q E s := by
  have X : hd.heap_1 w.params = hd.heap_1 w.params := rfl
  revert X
  k_fill
  intro X; clear X
  refine' enterP (binds := [(Str.ofString "self", .ref a), (Str.ofString "i", .int i ti)]) D B (memU (.tail _ (.tail _ hst))) ?ho ?hcd (Nat.lt_trans hA (by decide)) ?hb ?hc ?hl ?c1 ?c2 ?c3 ?_
  case ho => k_is
  case hcd => k_is
  case hb => intro S; kernel_rfl
  case hc => kernel_rfl
  case hl => kernel_rfl
  case c1 => kernel_rfl
  case c2 => kernel_rfl
  case c3 => kernel_rfl
  intro g₁ L' s₁ env D₁ B₁ hE hEq back
  replace hh : (A.deeper env).handled = none := hh
  have hA' : (A.deeper env).depth < 451 := Nat.succ_lt_succ hA
  dsimp only [bm] at D₁
  clear hEq
  refine PySem.wpAt_of_wpAny ?_
  wtm_at "ss"
  refine rSlcA (dx := ad) (vs := vs) (by assumption) B₁ (by wtm_at "mem") List.mem_cons_self (.int _ _) .none .none (by decide) (by rw [sizeLine_eq]; lia) ?_ (by kernel_rfl)
  intro l s₂ D₂
  rw [slc_from vs i hi] at D₂
  wtm_at "ss"
  rename_i b _ _ _ sl _ D₃
  refine rSetSlcA (dx := ad) D₃ B₁ (by wtm_at "rpe") List.mem_cons_self (.tail _ (.head _)) (.int _ _) .none (by lia) (by simp) (D₃.ne (by wtm_at "mem") (.tail _ (.head _)) accLst) (slc_cut vs i hi) ?_
  intro s₃ D₄
  wtm_at "ss"
  exact kk _ _ (back _ _ _ (D₄.sub (.cons _ (.cons _ (.cons₂ _ (.cons _ (List.Sublist.refl _)))))))
theorem acc_reset1 {w : World} {z s : Shared} {h₀ : Heap} {L : Addr} {A : Around} {E : Value → Shared → Prop} {Q : Value → Shared → Prop} {m : Str → Option Value} {up lo : List Ent} {a ad l : Addr} {vs ws : List Value} {k : Int} {t : Tok}
  (D : St z h₀ L m (up ++ (a, isAcc ad vs) :: (ad, isDct w.params [(Str.ofString "_initial_size", .int k t)]) :: lo) s) (B : Gd w h₀) (hst : (cStatics, isStat z) ∈ lo) (hA : A.depth < 450) (hh : A.handled = none) (hz : vs.length ≤ 100) (hw : ws.length ≤ 100) (hl : (l, isLst ws) ∈ up ++ (a, isAcc ad vs) :: (ad, isDct w.params [(Str.ofString "_initial_size", .int k t)]) :: lo)
  (kk : ∀ t' s', St z h₀ L m (up ++ (a, isAcc ad ws) :: (ad, isDct w.params [(Str.ofString "_initial_size", .int 0 t')]) :: lo) s' → Q .none s') :
  wpAny (model PySem.Challenge.rw_ny0227_01.row.prog w) A (call (.ref 202) [.ref a, .ref l]) Q E s := by
  have X : hd.heap_1 w.params = hd.heap_1 w.params := rfl
  revert X
  k_fill
  intro X; clear X
  refine' enterP (binds := [(Str.ofString "self", .ref a), (Str.ofString "startval", .ref l)]) D B (memU (.tail _ (.tail _ hst))) ?ho ?hcd (Nat.lt_trans hA (by decide)) ?hb ?hc ?hl ?c1 ?c2 ?c3 ?_
  case ho => k_is
  case hcd => k_is
  case hb => intro S; kernel_rfl
  case hc => kernel_rfl
  case hl => kernel_rfl
  case c1 => kernel_rfl
  case c2 => kernel_rfl
  case c3 => kernel_rfl
  intro g₁ L' s₁ env D₁ B₁ hE hEq back
  replace hh : (A.deeper env).handled = none := hh
  have hA' : (A.deeper env).depth < 451 := Nat.succ_lt_succ hA
  dsimp only [bm] at D₁
  clear hEq
  refine PySem.wpAt_of_wpAny ?_
  refine xIf' ?_
  wtm_at "ss"
  rename_i D₂
  refine rSetSlcA (dx := ad) (ws := ws) D₂ B₁ (by wtm_at "rpe") List.mem_cons_self (.tail _ hl) .none .none (by lia) (by lia) (D₂.ne (by wtm_at "mem") (.tail _ hl) accLst) (slc_all vs ws) ?_
  intro s₃ D₃
  wtm_at "ss"
  rename_i D₄
  exact kk _ _ (back _ _ _ (D₄.sub (.cons _ (List.Sublist.refl _))))
theorem acc_reset0 {w : World} {z s : Shared} {h₀ : Heap} {L : Addr} {A : Around} {E : Value → Shared → Prop} {Q : Value → Shared → Prop} {m : Str → Option Value} {up lo : List Ent} {a ad : Addr} {vs : List Value} {k : Int} {t : Tok}
  (D : St z h₀ L m (up ++ (a, isAcc ad vs) :: (ad, isDct w.params [(Str.ofString "_initial_size", .int k t)]) :: lo) s) (B : Gd w h₀) (hst : (cStatics, isStat z) ∈ lo) (hA : A.depth < 450) (hh : A.handled = none) (hz : vs.length ≤ 100)
  (kk : ∀ t' s', St z h₀ L m (up ++ (a, isAcc ad []) :: (ad, isDct w.params [(Str.ofString "_initial_size", .int 0 t')]) :: lo) s' → Q .none s') :
  wpAny (model PySem.Challenge.rw_ny0227_01.row.prog w) A (call (.ref 202) [.ref a]) Q E s := by
  have X : hd.heap_1 w.params = hd.heap_1 w.params := rfl
  revert X
  k_fill
  intro X; clear X
  refine' enterP (binds := [(Str.ofString "self", .ref a), (Str.ofString "startval", .none)]) D B (memU (.tail _ (.tail _ hst))) ?ho ?hcd (Nat.lt_trans hA (by decide)) ?hb ?hc ?hl ?c1 ?c2 ?c3 ?_
  case ho => k_is
  case hcd => k_is
  case hb => intro S; kernel_rfl
  case hc => kernel_rfl
  case hl => kernel_rfl
  case c1 => kernel_rfl
  case c2 => kernel_rfl
  case c3 => kernel_rfl
  intro g₁ L' s₁ env D₁ B₁ hE hEq back
  replace hh : (A.deeper env).handled = none := hh
  have hA' : (A.deeper env).depth < 451 := Nat.succ_lt_succ hA
  dsimp only [bm] at D₁
  clear hEq
  refine PySem.wpAt_of_wpAny ?_
  refine xIf' ?_
  wtm_at "ss"
  rename_i D₂
  refine rSetSlcA (dx := ad) (ws := []) D₂ B₁ (by wtm_at "rpe") List.mem_cons_self (.tail _ (.head _)) .none .none (by lia) (by simp) (D₂.ne (by wtm_at "mem") (.tail _ (.head _)) accLst) (slc_all vs []) ?_
  intro s₃ D₃
  wtm_at "ss"
  rename_i D₄
  exact kk _ _ (back _ _ _ (D₄.sub (.cons _ (.cons _ (List.Sublist.refl _)))))
end Mine
end

section
open PySem PySem.W PySem.W.X PyProof.Rows PySem.Calls
set_option maxHeartbeats 4000000
namespace Mine
/- ## _Accumulator: __len__, __str__, is_onlyws -/
noncomputable def lenP (ps : List (Str × Str)) : Int := (ps.map fun p => ((p.1.length + p.2.length : Nat) : Int)).sum
theorem acc_len {w : World} {z s : Shared} {h₀ : Heap} {L : Addr} {A : Around} {E : Value → Shared → Prop} {Q : Value → Shared → Prop} {m : Str → Option Value} {up lo : List Ent} {vs : List Value} {ps : List (Str × Str)} {a ad : Addr} {k : Int} {t : Tok}
  (D : St z h₀ L m (up ++ (a, isAcc ad vs) :: (ad, isDct w.params [(Str.ofString "_initial_size", .int k t)]) :: lo) s) (B : Gd w h₀) (hst : (cStatics, isStat z) ∈ lo) (htab : (182, isTab) ∈ lo) (hA : A.depth < 451) (hh : A.handled = none)
  (hp : Prs (up ++ (a, isAcc ad vs) :: (ad, isDct w.params [(Str.ofString "_initial_size", .int k t)]) :: lo) vs ps) (hk : 0 ≤ k ∧ k ≤ 1000) (hps : ps.length ≤ 1000) (hl : ∀ p ∈ ps, p.1.length ≤ 1000 ∧ p.2.length ≤ 1000)
  (kk : ∀ t' s', St z h₀ L m (up ++ (a, isAcc ad vs) :: (ad, isDct w.params [(Str.ofString "_initial_size", .int k t)]) :: lo) s' → Q (.int (k + lenP ps) t') s') :
  wpAny (model PySem.Challenge.rw_ny0227_01.row.prog w) A (call (.ref 187) [.ref a]) Q E s := by
  have X : hd.heap_1 w.params = hd.heap_1 w.params := rfl
  revert X
  k_fill
  intro X; clear X
  refine' enter (binds := [(Str.ofString "self", .ref a)]) D B (memU (.tail _ (.tail _ hst))) ?ho ?hcd (Nat.lt_trans hA (by decide)) ?hb ?hc ?hl ?c1 ?c2 ?c3 ?_
  case ho => k_is
  case hcd => k_is
  case hb => exact BindsTo.of_eq (by kernel_rfl)
  case hc => kernel_rfl
  case hl => kernel_rfl
  case c1 => kernel_rfl
  case c2 => kernel_rfl
  case c3 => kernel_rfl
  intro g₁ L' s₁ env D₁ B₁ hE hEq back
  replace hh : (A.deeper env).handled = none := hh
  have hA' : (A.deeper env).depth < 452 := Nat.succ_lt_succ hA
  dsimp only [bm] at D₁
  have hcode : env.code = .ref 186 := by rw [hEq]; rfl
  clear hEq
  have h186 : g₁.get? 186 = _ := B₁.X 186 _ ((kx_look (by decide)).trans (by k_is))
  have hcd : CodeHd g₁ 186 182 := ⟨_, _, _, _, _, _, _, _, _, h186, rfl, rfl, rfl, rfl, rfl, rfl, rfl, rfl, by decide⟩
  wtm_at "ss"
  refine' rGenP (F := fun i v => ∃ p t, ps[i]? = some p ∧ v = .int ((p.1.length : Int) + (p.2.length : Int)) t) (by assumption) B₁ hE hcode hcd hh (Nat.lt_trans hA' (by decide)) (closFree ?g1) ?g2 ?g3 ?g4 ?g5 ?g6 ?g7 ?g8 (fun _ => by kernel_rfl) ?g9 (memU (.tail _ (.tail _ htab))) (memU (.tail _ (.tail _ hst))) (by wtm_at "mem") hp ?g10 ?g11
  case g1 => kernel_rfl
  case g2 => kernel_rfl
  case g3 => kernel_rfl
  case g4 => kernel_rfl
  case g5 => kernel_rfl
  case g6 => kernel_rfl
  case g7 => kernel_rfl
  case g8 => kernel_rfl
  case g9 =>
    refine rNmL (by assumption) hE (by kernel_rfl) (by wtm_at "mget") ⟨rfl, rfl⟩ (by kernel_rfl)
  case g10 =>
    intro C cenv A' E' i p t u tt m₂ hA2 hE2 hpi K hma hmb
    obtain ⟨hl1, hl2⟩ := hl p (List.mem_of_getElem? hpi)
    refine wpAny_BinOp ?_
    wtm_at "g_ev"
    refine k0NmB K B₁ hE2 (by kernel_rfl) (by k_is) (show bootBuiltins (Str.ofString "len") = some (.builtin "len") by kernel_rfl) (by kernel_rfl) ?_ (by kernel_rfl)
    refine cfB1 ?_ (by kernel_rfl)
    refine k0NmL K hE2 (by kernel_rfl) hma ?_ (by kernel_rfl)
    refine P.len_str (by lia) ?_
    have K2 := K.ofSt (tt.toks + 1 + 1)
    wtm_at "g_ev"
    refine k0NmB K2 B₁ hE2 (by kernel_rfl) (by k_is) (show bootBuiltins (Str.ofString "len") = some (.builtin "len") by kernel_rfl) (by kernel_rfl) ?_ (by kernel_rfl)
    refine cfB1 ?_ (by kernel_rfl)
    refine k0NmL K2 hE2 (by kernel_rfl) hmb ?_ (by kernel_rfl)
    refine P.len_str (by lia) ?_
    refine P.add_int ?_
    exact ⟨⟨p, _, hpi, rfl⟩, K2.ofSt _⟩
  case g11 =>
    intro g s₂ D₂ GX
    refine attrE ?_ (by kernel_rfl)
    refine rNmL D₂ hE (by kernel_rfl) (by wtm_at "mget") ?_ (by kernel_rfl)
    refine rGetA0 (dx := ad) (vs := vs) D₂ B₁ (by wtm_at "mem") (by wtm_at "mem") (by wtm_at "getk") (by kernel_rfl) rfl ?_
    refine rSumG (ys := ps.map fun p => ((p.1.length : Int) + (p.2.length : Int))) (D₂.tok _) GX.tok (by rw [List.length_map]) ?_ (by lia) ?_ (by lia) ?_
    · intro j v zh1
      refine Mine.e2_2 zh1 ?_
      try clear zh1
      intro p t hp zq2
      subst zq2
      exact Mine.i2_2 _ t (by rw [List.getElem?_map, hp]; rfl) rfl
    · intro y hy
      refine Mine.e1_2 (List.mem_map.mp hy) ?_
      intro p hp zq3
      subst zq3
      have := hl p hp
      lia
    · intro t' s₃ D₃
      have := kk t' s₃ (back _ _ _ D₃)
      have e : lenP ps = (ps.map fun p => ((p.1.length : Int) + (p.2.length : Int))).sum := by
        unfold lenP; congr 1
      rw [e] at this
      exact this
end Mine
end

section
open PySem PySem.W PySem.W.X PyProof.Rows PySem.Calls
set_option maxHeartbeats 4000000
namespace Mine
noncomputable def strL (ps : List (Str × Str)) : List Nat := ps.flatMap fun p => p.1.cps.toList ++ p.2.cps.toList
theorem strL_join (ps : List (Str × Str)) : (Txt.join (Str.ofString "") (ps.map fun p => Txt.join (Str.ofString "") [p.1, p.2])).cps.toList = strL ps := by
  rw [join_jn]
  show jn [] _ = _
  rw [jn_nil, List.map_map]
  unfold strL
  rw [List.flatMap]
  congr 1
  refine List.map_congr_left fun p _ => ?_
  show (Txt.join (Str.ofString "") [p.1, p.2]).cps.toList = _
  rw [join_jn]
  show jn [] _ = _
  rw [jn_nil]; simp
theorem join2_len (p : Str × Str) : (Txt.join (Str.ofString "") [p.1, p.2]).length = p.1.length + p.2.length := by
  rw [len_toList, join_jn]
  show (jn [] _).length = _
  rw [jn_nil, len_toList, len_toList]; simp
theorem K0.push {h₀ : Heap} {t s : Shared} {C : Addr} {m : Str → Option Value} (K : K0 h₀ t C m s) (o : Obj) (k : Nat) : K0 h₀ t C m { s with heap := s.heap.push o, toks := k } := by
  obtain ⟨⟨h', tk, rfl, hk⟩, hn, hb⟩ := K
  exact ⟨⟨_, k, rfl, fun b o' e => Heap.get?_push_of_some _ (hk b o' e)⟩, hn.push _, fun b o' e => Heap.get?_push_of_some _ (hb b o' e)⟩
theorem acc_str {w : World} {z s : Shared} {h₀ : Heap} {L : Addr} {A : Around} {E : Value → Shared → Prop} {Q : Value → Shared → Prop} {m : Str → Option Value} {up lo : List Ent} {vs : List Value} {ps : List (Str × Str)} {a ad : Addr} {k : Int} {t : Tok}
  (D : St z h₀ L m (up ++ (a, isAcc ad vs) :: (ad, isDct w.params [(Str.ofString "_initial_size", .int k t)]) :: lo) s) (B : Gd w h₀) (hst : (cStatics, isStat z) ∈ lo) (htab : (189, isTab) ∈ lo) (hA : A.depth < 451) (hh : A.handled = none)
  (hp : Prs (up ++ (a, isAcc ad vs) :: (ad, isDct w.params [(Str.ofString "_initial_size", .int k t)]) :: lo) vs ps) (hps : ps.length ≤ 100) (hl : ∀ p ∈ ps, p.1.length ≤ 1000 ∧ p.2.length ≤ 1000)
  (kk : ∀ x t' s', x.cps.toList = strL ps → St z h₀ L m (up ++ (a, isAcc ad vs) :: (ad, isDct w.params [(Str.ofString "_initial_size", .int k t)]) :: lo) s' → Q (.str x t') s') :
  wpAny (model PySem.Challenge.rw_ny0227_01.row.prog w) A (call (.ref 194) [.ref a]) Q E s := by
  have X : hd.heap_1 w.params = hd.heap_1 w.params := rfl
  revert X
  k_fill
  intro X; clear X
  refine' enter (binds := [(Str.ofString "self", .ref a)]) D B (memU (.tail _ (.tail _ hst))) ?ho ?hcd (Nat.lt_trans hA (by decide)) ?hb ?hc ?hl ?c1 ?c2 ?c3 ?_
  case ho => k_is
  case hcd => k_is
  case hb => exact BindsTo.of_eq (by kernel_rfl)
  case hc => kernel_rfl
  case hl => kernel_rfl
  case c1 => kernel_rfl
  case c2 => kernel_rfl
  case c3 => kernel_rfl
  intro g₁ L' s₁ env D₁ B₁ hE hEq back
  replace hh : (A.deeper env).handled = none := hh
  have hA' : (A.deeper env).depth < 452 := Nat.succ_lt_succ hA
  dsimp only [bm] at D₁
  have hcode : env.code = .ref 193 := by rw [hEq]; rfl
  clear hEq
  have h193 : g₁.get? 193 = _ := B₁.X 193 _ ((kx_look (by decide)).trans (by k_is))
  have hcd : CodeHd g₁ 193 189 := ⟨_, _, _, _, _, _, _, _, _, h193, rfl, rfl, rfl, rfl, rfl, rfl, rfl, rfl, by decide⟩
  wtm_at "ss"
  refine' rGenP (F := fun i v => ∃ p t, ps[i]? = some p ∧ v = .str (Txt.join (Str.ofString "") [p.1, p.2]) t) (by assumption) B₁ hE hcode hcd hh (Nat.lt_trans hA' (by decide)) (closFree ?g1) ?g2 ?g3 ?g4 ?g5 ?g6 ?g7 ?g8 (fun _ => by kernel_rfl) ?g9 (memU (.tail _ (.tail _ htab))) (memU (.tail _ (.tail _ hst))) (by wtm_at "mem") hp ?g10 ?g11
  case g1 => kernel_rfl
  case g2 => kernel_rfl
  case g3 => kernel_rfl
  case g4 => kernel_rfl
  case g5 => kernel_rfl
  case g6 => kernel_rfl
  case g7 => kernel_rfl
  case g8 => kernel_rfl
  case g9 =>
    refine rNmL (by assumption) hE (by kernel_rfl) (by wtm_at "mget") ⟨rfl, rfl⟩ (by kernel_rfl)
  case g10 =>
    intro C cenv A' E' i p t u tt m₂ hA2 hE2 hpi K hma hmb
    obtain ⟨hl1, hl2⟩ := hl p (List.mem_of_getElem? hpi)
    refine xMeth ?_ (by kernel_rfl) (by kernel_rfl) (by kernel_rfl)
    refine k0NmG K B₁ hE2 (by kernel_rfl) (by k_is) ?_ (by kernel_rfl)
    refine rStrMeth PySem.F.slot_str_join PySem.F.type_str_join ?_
    refine cwB1 ?_ (by kernel_rfl)
    refine PyProof.Rows.Tuple_ ?_
    refine splC ?_ (by kernel_rfl)
    refine k0NmL K hE2 (by kernel_rfl) hma ?_ (by kernel_rfl)
    refine splC ?_ (by kernel_rfl)
    refine k0NmL K hE2 (by kernel_rfl) hmb ?_ (by kernel_rfl)
    refine splN ?_
    refine wpAny_newObj_type ?_ (by show _ ≤ sizeLine; rw [sizeLine_eq]; simp)
    have K2 := K.push { cls := .type "tuple", data := .seq #[.str p.1 t, .str p.2 u] } tt.toks
    exact PyProof.Rows.join_tuple (ys := [p.1, p.2]) ⟨_, Heap.get?_push_size _ rfl, rfl, _, rfl⟩ (.cons _ _ (.cons _ _ .nil)) (by
      have : (Str.ofString "").length = 0 := rfl
      simp [this]; lia) fun t' k => ⟨⟨p, t', hpi, rfl⟩, K2.ofSt k⟩
  case g11 =>
    intro g s₂ D₂ GX
    refine rJoinG (ys := ps.map fun p => Txt.join (Str.ofString "") [p.1, p.2]) D₂ GX (by rw [List.length_map]) ?_ ?_ (by rw [sizeLine_eq]; lia) ?_
    · intro j v zh1
      refine Mine.e2_2 zh1 ?_
      try clear zh1
      intro p t hp zq2
      subst zq2
      exact Mine.i2_2 _ t (by rw [List.getElem?_map, hp]; rfl) rfl
    · refine joinOk_of (n := 200000) ?_ (by decide)
      have h1 : ∀ x ∈ ps.map (fun p => Txt.join (Str.ofString "") [p.1, p.2]), x.length ≤ 2000 := by
        intro x hx
        refine Mine.e1_2 (List.mem_map.mp hx) ?_
        intro p hp zq3
        subst zq3
        have := hl p hp
        rw [join2_len]; lia
      have h2 := sum_le h1
      rw [List.length_map] at h2 ⊢
      have : (Str.ofString "").length = 0 := rfl
      rw [this]
      lia
    · intro t' s₃ D₃
      exact kk _ t' s₃ (strL_join ps) (back _ _ _ D₃)
end Mine
end

section
open PySem PySem.W PySem.W.X PyProof.Rows PySem.Calls
set_option maxHeartbeats 4000000
namespace Mine
theorem lenP_strL (ps : List (Str × Str)) : lenP ps = ((strL ps).length : Int) := by
  unfold lenP strL
  induction ps with
  | nil => rfl
  | cons p r ih =>
    have e1 := len_toList p.1
    have e2 := len_toList p.2
    simp only [List.map_cons, List.sum_cons, List.flatMap_cons, List.length_append, ih]
    lia
theorem acc_ws {w : World} {z s : Shared} {h₀ : Heap} {L : Addr} {A : Around} {E : Value → Shared → Prop} {Q : Value → Shared → Prop} {m : Str → Option Value} {up lo : List Ent} {vs : List Value} {ps : List (Str × Str)} {a ad : Addr} {k : Int} {t : Tok}
  (D : St z h₀ L m (up ++ (a, isAcc ad vs) :: (ad, isDct w.params [(Str.ofString "_initial_size", .int k t)]) :: lo) s) (B : Gd w h₀) (hst : (cStatics, isStat z) ∈ lo) (htab : (182, isTab) ∈ lo) (htab2 : (189, isTab) ∈ lo) (hA : A.depth < 449) (hU : A.units < 9000) (hh : A.handled = none)
  (hp : Prs (up ++ (a, isAcc ad vs) :: (ad, isDct w.params [(Str.ofString "_initial_size", .int k t)]) :: lo) vs ps) (hk : 0 ≤ k ∧ k ≤ 1000) (hps : ps.length ≤ 100) (hl : ∀ p ∈ ps, p.1.length ≤ 1000 ∧ p.2.length ≤ 1000)
  (hb : k = 0 → ∃ c ∈ strL ps, Unicode.isSpace c = false)
  (kk : ∀ s', St z h₀ L m (up ++ (a, isAcc ad vs) :: (ad, isDct w.params [(Str.ofString "_initial_size", .int k t)]) :: lo) s' → Q (.bool false) s') :
  wpAny (model PySem.Challenge.rw_ny0227_01.row.prog w) A (call (.ref 209) [.ref a]) Q E s := by
  have X : hd.heap_1 w.params = hd.heap_1 w.params := rfl
  revert X
  k_fill
  intro X; clear X
  refine' enter (binds := [(Str.ofString "self", .ref a)]) D B (memU (.tail _ (.tail _ hst))) ?ho ?hcd (Nat.lt_trans hA (by decide)) ?hb ?hc ?hl ?c1 ?c2 ?c3 ?_
  case ho => k_is
  case hcd => k_is
  case hb => exact BindsTo.of_eq (by kernel_rfl)
  case hc => kernel_rfl
  case hl => kernel_rfl
  case c1 => kernel_rfl
  case c2 => kernel_rfl
  case c3 => kernel_rfl
  intro g₁ L' s₁ env D₁ B₁ hE hEq back
  replace hh : (A.deeper env).handled = none := hh
  have hA' : (A.deeper env).depth < 450 := Nat.succ_lt_succ hA
  dsimp only [bm] at D₁
  clear hEq
  refine xReturn ?_
  refine PyProof.Rows.BoolOp_and ?_
  refine wpAny_Compare1 ?_ (by kernel_rfl)
  wtm_at "ss"
  by_cases hk0 : k = 0
  · subst hk0
    refine iteT' rfl ?_
    refine PyProof.Rows.BoolOp_one ?_
    refine PyProof.Rows.BoolOp_or ?_
    refine PyProof.Rows.UnaryOp_ ?_
    wtm_at "s1"
    refine PyProof.Rows.not_of ?_
    refine Mine.e1_2 (hb rfl) ?_
    intro c hc hcs
    have hpos : 0 < (strL ps).length := List.length_pos_of_mem hc
    have hle : (strL ps).length ≤ 1000000 := by
      have h1 : ∀ l : List (Str × Str), (∀ p ∈ l, p.1.length ≤ 1000 ∧ p.2.length ≤ 1000) → (strL l).length ≤ l.length * 2000 := fun l => by
        induction l with
        | nil => intro _; simp [strL]
        | cons p r ih =>
          intro hl
          have q1 := hl p (.head _)
          have q2 := ih fun x hx => hl x (.tail _ hx)
          unfold strL at q2 ⊢
          simp only [List.flatMap_cons, List.length_append, List.length_cons]
          rw [len_toList, len_toList] at q1
          lia
      have := h1 ps hl
      lia
    have hn : (0 : Int) + lenP ps = ((strL ps).length : Int) := by rw [lenP_strL]; lia
    refine rTruI (n := ((strL ps).length : Int)) (by assumption) B₁ (by wtm_at "mem") (by wtm_at "mem") ⟨by lia, by lia⟩ (acc_len (k := 0) (by assumption) B₁ hst htab (Nat.lt_succ_of_lt hA') hh hp hk (by lia) hl ?_) ?_
    · intro t' s' D'
      exact ⟨t', by rw [hn], D'⟩
    · intro s₂ D₂
      have hne : (((strL ps).length : Int) != 0) = true := by
        rw [bne_iff_ne]; lia
      rw [hne]
      refine rTruB ?_
      refine iteF' rfl ?_
      refine PyProof.Rows.BoolOp_one ?_
      wtm_at "ss"
      refine rStrI (P := fun y => y.cps.toList = strL ps) (by show A.units + 3 + 1 + 1 < cLine; unfold cLine; lia) (by assumption) B₁ (by wtm_at "mem") (by wtm_at "mem") (fun A' hd' hh' => acc_str (by assumption) B₁ hst htab2 (by rw [hd']; exact Nat.lt_succ_of_lt hA') (hh'.trans hh) hp hps hl fun y t' s' hy D' => ⟨y, t', rfl, hy, D'⟩) ?_
      intro y t' s₃ hy D₃
      wtm_at "ss"
      refine SC.isspace ?_
      have hsp : Txt.isspace y = false := by
        unfold Txt.isspace
        rw [Bool.and_eq_false_iff]
        right
        rw [← Bool.not_eq_true, Array.all_eq_true']
        intro hall
        have := hall c (by rw [← Array.mem_toList_iff, hy]; exact hc)
        rw [hcs] at this; cases this
      rw [hsp]
      exact kk _ (back _ _ _ D₃)
  · refine iteF' (by simpa using hk0) ?_
    have : (k == 0) = false := by simpa using hk0
    rw [this]
    exact kk _ (back _ _ _ (by assumption))
end Mine
end

section
open PySem PySem.W PySem.W.X PyProof.Rows PySem.Calls
set_option maxHeartbeats 4000000
namespace Mine
/- ## _ValueFormatter: __init__ -/
theorem vf_init {w : World} {z s : Shared} {h₀ : Heap} {L : Addr} {A : Around} {E : Value → Shared → Prop} {Q : Value → Shared → Prop} {m : Str → Option Value} {lo : List Ent} {f fd : Addr} {head mx : Int} {sp : Str} {th t1 t2 t4 : Tok}
  (D : St z h₀ L m ((f, isVf fd) :: (fd, isDct w.params []) :: lo) s) (B : Gd w h₀) (hst : (cStatics, isStat z) ∈ lo) (hA : A.depth < 445) (hh : A.handled = none)
  (kk : ∀ a ad la t3 s', St z h₀ L m ((a, isAcc ad []) :: (ad, isDct w.params [(Str.ofString "_initial_size", .int head th)]) :: (la, isLst []) :: (f, isVf fd) :: (fd, isDct w.params (vfK mx sp la a t1 t2 t3 t4)) :: lo) s' → Q (.ref f) s') :
  codeAny (model PySem.Challenge.rw_ny0227_01.row.prog w) A (.call (.ref 77) ⟨[.ref f, .int head th, .int mx t1, .str (Str.ofString " ") t2, .str sp t4], []⟩) (IniQ f Q E) s := by
  have X : hd.heap_1 w.params = hd.heap_1 w.params := rfl
  revert X
  k_fill
  intro X; clear X
  refine' enterI (binds := [(Str.ofString "self", .ref f), (Str.ofString "headerlen", .int head th), (Str.ofString "maxlen", .int mx t1), (Str.ofString "continuation_ws", .str (Str.ofString " ") t2), (Str.ofString "splitchars", .str sp t4)]) D B (.tail _ (.tail _ hst)) ?ho ?hcd (Nat.lt_trans hA (by decide)) ?hb ?hc ?hl ?c1 ?c2 ?c3 ?_
  case ho => k_is
  case hcd => k_is
  case hb => intro S; kernel_rfl
  case hc => kernel_rfl
  case hl => kernel_rfl
  case c1 => kernel_rfl
  case c2 => kernel_rfl
  case c3 => kernel_rfl
  intro g₁ L' s₁ env D₁ B₁ hE hEq back
  replace hh : (A.deeper env).handled = none := hh
  have hA' : (A.deeper env).depth < 446 := Nat.succ_lt_succ hA
  dsimp only [bm] at D₁
  clear hEq
  refine PySem.wpAt_of_wpAny ?_
  wtm_at "ss"
  refine rSetV' (kvs' := [(Str.ofString "_maxlen", .int mx t1), (Str.ofString "_continuation_ws", .str (Str.ofString " ") t2)]) (by assumption) B₁ (by wtm_at "mem") (by wtm_at "mem") (by wtm_at "putk") (by wtm_at "rpe") (by exact Nat.le_of_ble_eq_true rfl) (by kernel_rfl) ?_
  intro _ _
  wtm_at "ss"
  rename_i t3 _ _
  refine rSetV' (kvs' := [(Str.ofString "_maxlen", .int mx t1), (Str.ofString "_continuation_ws", .str (Str.ofString " ") t2), (Str.ofString "_continuation_ws_len", .int 1 t3)]) (by assumption) B₁ (by wtm_at "mem") (by wtm_at "mem") (by wtm_at "putk") (by wtm_at "rpe") (by exact Nat.le_of_ble_eq_true rfl) (by kernel_rfl) ?_
  intro _ _
  wtm_at "ss"
  refine rSetV' (kvs' := [(Str.ofString "_maxlen", .int mx t1), (Str.ofString "_continuation_ws", .str (Str.ofString " ") t2), (Str.ofString "_continuation_ws_len", .int 1 t3), (Str.ofString "_splitchars", .str sp t4)]) (by assumption) B₁ (by wtm_at "mem") (by wtm_at "mem") (by wtm_at "putk") (by wtm_at "rpe") (by exact Nat.le_of_ble_eq_true rfl) (by kernel_rfl) ?_
  intro _ _
  wtm_at "ss"
  rename_i la _ _
  refine rSetV' (kvs' := [(Str.ofString "_maxlen", .int mx t1), (Str.ofString "_continuation_ws", .str (Str.ofString " ") t2), (Str.ofString "_continuation_ws_len", .int 1 t3), (Str.ofString "_splitchars", .str sp t4), (Str.ofString "_lines", .ref la)]) (by assumption) B₁ (by wtm_at "mem") (by wtm_at "mem") (by wtm_at "putk") (by wtm_at "rpe") (by exact Nat.le_of_ble_eq_true rfl) (by kernel_rfl) ?_
  intro _ _
  wtm_at "ss"
  refine rMakeA (by assumption) B₁ ?_
  intro A' a ad s₂ hd' hh' D₂
  refine acc_init D₂ B₁ (.tail _ (.tail _ (.tail _ hst))) (by rw [hd']; lia) (hh'.trans hh) ?_
  intro s₃ D₃
  wtm_at "ss"
  refine rSetV' (kvs' := [(Str.ofString "_maxlen", .int mx t1), (Str.ofString "_continuation_ws", .str (Str.ofString " ") t2), (Str.ofString "_continuation_ws_len", .int 1 t3), (Str.ofString "_splitchars", .str sp t4), (Str.ofString "_lines", .ref la), (Str.ofString "_current_line", .ref a)]) (by assumption) B₁ (by wtm_at "mem") (by wtm_at "mem") (by wtm_at "putk") (by wtm_at "rpe") (by exact Nat.le_of_ble_eq_true rfl) (by kernel_rfl) ?_
  intro _ _
  wtm_at "ss"
  rename_i D₄
  exact ⟨rfl, kk _ _ _ _ _ (back _ _ _ D₄)⟩
end Mine
end

section
open PySem PySem.W PySem.W.X PyProof.Rows PySem.Calls
set_option maxHeartbeats 4000000
namespace Mine
/- ## _ValueFormatter: newline -/
theorem acc_pushC {w : World} {z s : Shared} {h₀ : Heap} {L : Addr} {A : Around} {E : Value → Shared → Prop} {Q : Value → Shared → Prop} {m : Str → Option Value} {up lo : List Ent} {vs : List Value} {a ad : Addr} {k : Int} {t t1 t2 : Tok} {x y : Str}
  (D : St z h₀ L m (up ++ (a, isAcc ad vs) :: (ad, isDct w.params [(Str.ofString "_initial_size", .int k t)]) :: lo) s) (B : Gd w h₀) (hst : (cStatics, isStat z) ∈ lo) (hA : A.depth < 450) (hh : A.handled = none) (hz : vs.length ≤ 100)
  (kk : ∀ T s', St z h₀ L m ((T, isPr (x, y)) :: up ++ (a, isAcc ad (vs ++ [.ref T])) :: (ad, isDct w.params [(Str.ofString "_initial_size", .int k t)]) :: lo) s' → Q .none s') :
  codeAny (model PySem.Challenge.rw_ny0227_01.row.prog w) A (.call (.ref 164) ⟨[.ref a, .str x t1, .str y t2], []⟩) (fun r s' => match r with | .ok (.ret v) => Q v s' | .ok _ => False | .error e => E e s') s := by
  have X : hd.heap_1 w.params = hd.heap_1 w.params := rfl
  revert X
  k_fill
  intro X; clear X
  refine' enterPC (binds := [(Str.ofString "self", .ref a), (Str.ofString "fws", .str x t1), (Str.ofString "string", .str y t2)]) D B (memU (.tail _ (.tail _ hst))) ?ho ?hcd (Nat.lt_trans hA (by decide)) ?hb ?hc ?hl ?c1 ?c2 ?c3 ?_
  case ho => k_is
  case hcd => k_is
  case hb => intro S; kernel_rfl
  case hc => kernel_rfl
  case hl => kernel_rfl
  case c1 => kernel_rfl
  case c2 => kernel_rfl
  case c3 => kernel_rfl
  intro g₁ L' s₁ env D₁ B₁ hE hEq back
  replace hh : (A.deeper env).handled = none := hh
  have hA' : (A.deeper env).depth < 451 := Nat.succ_lt_succ hA
  dsimp only [bm] at D₁
  clear hEq
  refine PySem.wpAt_of_wpAny ?_
  wtm_at "ss"
  refine rAppA (by assumption) B₁ (by wtm_at "rpe") (by lia) ?_
  intro s₂ D₂
  wtm_at "ss"
  exact kk _ _ (back _ _ _ (D₂.weak fun o => tpl_pr))
noncomputable def NewL (lvs lvs' : List Value) (ps : List (Str × Str)) (k : Int) : Prop := (0 < k + lenP ps ∧ ∃ x tx, lvs' = lvs ++ [.str x tx] ∧ x.cps.toList = strL ps) ∨ (k + lenP ps = 0 ∧ lvs' = lvs)
theorem nbl_ne {p : Str × Str} (h : GoodP p) : ((p.1 == Str.ofString " ") && (p.2 == Str.ofString "")) = false := by
  obtain ⟨_, c, hc, _⟩ := h
  rw [Bool.and_eq_false_iff]
  right
  rw [beq_eq_false_iff_ne]
  intro e
  rw [e] at hc
  cases hc
@[reducible] noncomputable def IWV21 (w : World) (z : Shared) (up lo : List Ent) (a ad la f fd : Addr) (mx : Int) (sp : Str) (t1 t2 t3 t4 : Tok) (lvs : List Value) (ps : List (Str × Str)) (k : Int) (t : Tok) (g₁ : Heap) (L' : Addr) : Shared → Prop := fun s => ∃ up₁ vs₁ qs p T, St z g₁ L' (upd (upd (fun _ => none) (Str.ofString "self") (.ref f)) (Str.ofString "end_of_line") (.ref T)) (up₁ ++ (a, isAcc ad vs₁) :: (ad, isDct w.params [(Str.ofString "_initial_size", .int k t)]) :: (la, isLst lvs) :: (f, isVf fd) :: (fd, isDct w.params (vfK mx sp la a t1 t2 t3 t4)) :: lo) s ∧ (T, isPr p) ∈ up₁ ∧ Prs up₁ vs₁ qs ∧ vs₁.length ≤ 90 ∧ ((p.1 == Str.ofString " ") && (p.2 == Str.ofString "")) = false ∧ GoodT p ∧ (∀ q ∈ qs, GoodT q) ∧ strL (qs ++ [p]) = strL ps ∧ (∀ m₂ news₂ s₂, St z g₁ L' m₂ (up₁ ++ news₂) s₂ → St z g₁ L' m₂ (up ++ news₂) s₂)
theorem vf_newline {w : World} {z s : Shared} {h₀ : Heap} {L : Addr} {A : Around} {E : Value → Shared → Prop} {Q : Value → Shared → Prop} {m : Str → Option Value} {up lo : List Ent} {a ad la f fd : Addr} {mx : Int} {sp : Str} {t1 t2 t3 t4 : Tok} {vs lvs : List Value} {ps : List (Str × Str)} {k : Int} {t : Tok}
  (D : St z h₀ L m (up ++ (a, isAcc ad vs) :: (ad, isDct w.params [(Str.ofString "_initial_size", .int k t)]) :: (la, isLst lvs) :: (f, isVf fd) :: (fd, isDct w.params (vfK mx sp la a t1 t2 t3 t4)) :: lo) s) (B : Gd w h₀) (hst : (cStatics, isStat z) ∈ lo) (htab : (182, isTab) ∈ lo) (htab2 : (189, isTab) ∈ lo) (hA : A.depth < 445) (hU : A.units < 8000) (hh : A.handled = none)
  (hp : Prs up vs ps) (hk : 0 ≤ k ∧ k ≤ 1000) (hps : ps.length ≤ 90) (hg : ∀ p ∈ ps, GoodP p) (hlv : lvs.length ≤ 100)
  (kk : ∀ lvs' t' s', NewL lvs lvs' ps k → St z h₀ L m (up ++ (a, isAcc ad []) :: (ad, isDct w.params [(Str.ofString "_initial_size", .int 0 t')]) :: (la, isLst lvs') :: (f, isVf fd) :: (fd, isDct w.params (vfK mx sp la a t1 t2 t3 t4)) :: lo) s' → Q .none s') :
  wpAny (model PySem.Challenge.rw_ny0227_01.row.prog w) A (call (.ref 98) [.ref f]) Q E s := by
  have X : hd.heap_1 w.params = hd.heap_1 w.params := rfl
  revert X
  k_fill
  intro X; clear X
  refine' enter (binds := [(Str.ofString "self", .ref f)]) D B (memU (.tail _ (.tail _ (.tail _ (.tail _ (.tail _ hst)))))) ?ho ?hcd (Nat.lt_trans hA (by decide)) ?hb ?hc ?hl ?c1 ?c2 ?c3 ?_
  case ho => k_is
  case hcd => k_is
  case hb => exact BindsTo.of_eq (by kernel_rfl)
  case hc => kernel_rfl
  case hl => kernel_rfl
  case c1 => kernel_rfl
  case c2 => kernel_rfl
  case c3 => kernel_rfl
  intro g₁ L' s₁ env D₁ B₁ hE hEq back
  replace hh : (A.deeper env).handled = none := hh
  have hA' : (A.deeper env).depth < 446 := Nat.succ_lt_succ hA
  dsimp only [bm] at D₁
  clear hEq
  refine xCutH (IWV21 w z up lo a ad la f fd mx sp t1 t2 t3 t4 lvs ps k t g₁ L') ?_ ?_
  · intro R hR
    rcases List.eq_nil_or_concat ps with hps0 | ⟨qs, p, hpe⟩
    · subst hps0
      cases hp
      wtm_at "ss"
      refine acc_pop0 (by assumption) B₁ (.tail _ (.tail _ (.tail _ hst))) (Nat.lt_of_lt_of_le hA' (by decide)) hh ?_
      intro T s₂ D₂
      wtm_at "ss"
      rename_i D₃
      exact ⟨rfl, hR _ (Mine.I5 ((T, isPr (Str.ofString "", Str.ofString "")) :: up) [] [] _ T (Mine.a9 D₃ (.head _) .nil (by simp) (by decide +kernel) ⟨by decide +kernel, by decide +kernel, by decide +kernel, by decide +kernel⟩ (fun q hq => by cases hq) rfl (fun m₂ news₂ s₂ D => D.sub (.cons _ (List.Sublist.refl _)))))⟩
    · rw [List.concat_eq_append] at hpe
      subst hpe
      refine Mine.e2_3 (hp.unsnoc) ?_
      intro ws T zq1 hp' hT
      subst zq1
      have hwl := hp'.length
      simp at hps
      wtm_at "ss"
      refine acc_pop1 (by assumption) B₁ (.tail _ (.tail _ (.tail _ hst))) (Nat.lt_of_lt_of_le hA' (by decide)) hh (by lia) ?_
      intro s₂ D₂
      wtm_at "ss"
      rename_i D₃
      exact ⟨rfl, hR _ (Mine.I5 up ws qs p T (Mine.a9 D₃ hT hp' (by lia) (nbl_ne (hg p (by simp))) ((hg p (by simp)).1) (fun q hq => (hg q (by simp [hq])).1) rfl (fun m₂ news₂ s₂ D => D)))⟩
  · intro s₂ zh2
    refine Mine.E5 zh2 ?_
    try clear zh2
    intro up₁ vs₁ qs p T zk31
    refine Mine.e0_9 zk31 ?_
    clear zk31
    intro D₂ hT hq hv1 hne hgp hgq hstr hsub
    clear D₁
    refine' xIfT (by assumption) ?ht ?hT ?hF
    case ht =>
      wtm_at "ss"
      refine rNeP (by assumption) (.tail _ (List.mem_append_left _ hT)) (.head _) hgp.2.2.1 hgp.2.2.2 (by decide +kernel) (by decide +kernel) (by show A.units + 3 + 64 < cLine; unfold cLine; lia) ?_
      rw [hne]
      wtm_at "ss"
      exact ⟨rfl, St.sub (by assumption) (.cons _ (List.Sublist.refl _))⟩
    case hF => intro hc; cases hc
    case hT =>
      intro _ s₃ D₃
      clear D₂
      wtm_at "s1"
      refine xMethS ?_ (by kernel_rfl) (by kernel_rfl)
      wtm_at "s1"; wtm_at "s1"; wtm_at "s1"
      refine rGetM (by assumption) B₁ (by wtm_at "mem") (by wtm_at "mem") (by wtm_at "getk") ?_
      intro q s₄ D₄
      refine rStarM (f := 164) (y := a) D₄ B₁ (by kernel_rfl) ?_ (by kernel_rfl)
      wtm_at "s1"
      refine Mine.I4 T p _ _ (Mine.a5 rfl D₄ (.head _) (.tail _ (List.mem_append_left _ hT)) ?_)
      intro tx ty s₅ D₅
      refine acc_pushC (E := fun _ _ => False) (x := p.1) (y := p.2) (D₅.sub (.cons _ (List.Sublist.refl _))) B₁ (.tail _ (.tail _ (.tail _ hst))) (Nat.lt_of_lt_of_le hA' (by decide)) hh (by lia) ?_
      intro T₂ s₆ D₆
      clear D₃ D₄ D₅
      wtm_at "s1"
      have hq2 : Prs ((T₂, isPr (p.1, p.2)) :: up₁) (vs₁ ++ [.ref T₂]) (qs ++ [p]) := (hq.mono fun a q h => .tail _ h).snoc (.head _)
      have hql : (qs ++ [p]).length ≤ 100 := by have := hq.length; simp; lia
      have hgl : ∀ q ∈ qs ++ [p], q.1.length ≤ 1000 ∧ q.2.length ≤ 1000 := by
        intro q hqm
        rcases List.mem_append.mp hqm with h | h
        · exact ⟨(hgq q h).1, (hgq q h).2.1⟩
        · rw [List.mem_singleton.mp h]; exact ⟨hgp.1, hgp.2.1⟩
      have hlen : lenP (qs ++ [p]) = lenP ps := by rw [lenP_strL, lenP_strL, hstr]
      have hpos : 0 ≤ lenP ps := by rw [lenP_strL]; lia
      have hbig : lenP ps ≤ 1000000 := by
        have h1 : ∀ l : List (Str × Str), (∀ p ∈ l, GoodP p) → lenP l ≤ (l.length : Int) * 2000 := fun l => by
          induction l with
          | nil => intro _; simp [lenP]
          | cons p r ih =>
            intro hl
            have q1 := (hl p (.head _)).1
            have q2 := ih fun x hx => hl x (.tail _ hx)
            refine Mine.e0_3 q1 ?_
            try clear q1
            intro a1 a2 zu3
            unfold lenP at q2 ⊢
            simp only [List.map_cons, List.sum_cons, List.length_cons]
            lia
        have := h1 ps hg
        lia
      have hQ2 : Prs ((T₂, isPr (p.1, p.2)) :: up₁ ++ (a, isAcc ad (vs₁ ++ [.ref T₂])) :: (ad, isDct w.params [(Str.ofString "_initial_size", .int k t)]) :: (la, isLst lvs) :: (f, isVf fd) :: (fd, isDct w.params (vfK mx sp la a t1 t2 t3 t4)) :: lo) (vs₁ ++ [.ref T₂]) (qs ++ [p]) := hq2.mono fun a q h => List.mem_append_left _ h
      wtm_at "s1"
      refine xIf' ?_
      wtm_at "ss"
      rename_i D₇
      have hvl : (vs₁ ++ [Value.ref T₂]).length ≤ 100 := by simp; lia
      refine rLenI (n := k + lenP ps) D₇ B₁ (by wtm_at "mem") (by wtm_at "mem") ⟨by lia, by lia⟩ (acc_len D₇ B₁ (.tail _ (.tail _ (.tail _ hst))) (.tail _ (.tail _ (.tail _ htab))) (Nat.lt_of_lt_of_le hA' (by decide)) hh hQ2 hk (by lia) hgl fun t' s' D' => ⟨t', by rw [hlen], D'⟩) ?_
      intro t₈ s₈ D₈
      clear D₇
      wtm_at "ss"
      by_cases hgt : k + lenP ps > 0
      · refine ifT hgt ?_
        refine xIf' ?_
        wtm_at "ss"
        rename_i D₉
        refine acc_ws D₉ B₁ (.tail _ (.tail _ (.tail _ hst))) (.tail _ (.tail _ (.tail _ htab))) (.tail _ (.tail _ (.tail _ htab2))) (Nat.lt_of_lt_of_le hA' (by decide)) (by show A.units + 3 < 9000; lia) hh hQ2 hk hql hgl ?_ ?_
        · intro hk0
          rw [hstr]
          cases ps with
          | nil => rw [hk0] at hgt; simp [lenP] at hgt
          | cons p0 r =>
            obtain ⟨_, c, hc, hcs⟩ := hg p0 (.head _)
            exact ⟨c, by unfold strL; simp [hc], hcs⟩
        intro s₉ D₁₀
        clear D₉
        wtm_at "ss"
        rename_i D₁₁
        refine rStrI (P := fun y => y.cps.toList = strL (qs ++ [p])) (by show A.units + 3 + 1 + 1 < cLine; unfold cLine; lia) D₁₁ B₁ (by wtm_at "mem") (by wtm_at "mem") (fun A' hd' hh' => acc_str D₁₁ B₁ (.tail _ (.tail _ (.tail _ hst))) (.tail _ (.tail _ (.tail _ htab2))) (by rw [hd']; exact Nat.lt_of_lt_of_le hA' (by decide)) (hh'.trans hh) hQ2 hql hgl fun y t' s' hy D' => ⟨y, t', rfl, hy, D'⟩) ?_
        intro y ty s₁₂ hy D₁₂
        clear D₁₁ D₁₀
        wtm_at "ss"
        rename_i D₁₃
        refine acc_reset0 D₁₃ B₁ (.tail _ (.tail _ (.tail _ hst))) (Nat.lt_of_lt_of_le hA' (by decide)) hh (by lia) ?_
        intro t' s₁₄ D₁₄
        wtm_at "ss"
        exact kk _ _ _ (.inl ⟨by lia, y, ty, rfl, hy.trans hstr⟩) (back _ _ _ (hsub _ _ _ (D₁₄.sub (.cons _ (List.Sublist.refl _)))))
      · refine ifF hgt ?_
        wtm_at "ss"
        rename_i D₁₃
        refine acc_reset0 D₁₃ B₁ (.tail _ (.tail _ (.tail _ hst))) (Nat.lt_of_lt_of_le hA' (by decide)) hh (by lia) ?_
        intro t' s₁₄ D₁₄
        wtm_at "ss"
        exact kk _ _ _ (.inr ⟨by lia, rfl⟩) (back _ _ _ (hsub _ _ _ (D₁₄.sub (.cons _ (List.Sublist.refl _)))))
end Mine
end

section
open PySem PySem.W PySem.W.X PyProof.Rows PySem.Calls
set_option maxHeartbeats 4000000
namespace Mine
/- ## _ValueFormatter: _append_chunk -/
noncomputable def Lns (lvs : List Value) (ls : List (List Nat)) : Prop := ∃ xs, StrsAre lvs xs ∧ xs.map (·.cps.toList) = ls
theorem Lns.snoc {lvs : List Value} {ls : List (List Nat)} {x : Str} {t : Tok} (h : Lns lvs ls) : Lns (lvs ++ [.str x t]) (ls ++ [x.cps.toList]) := by
  refine Mine.e1_2 h ?_
  try clear h
  intro xs h1 h2
  exact ⟨xs ++ [x], h1.append' (.cons _ _ .nil), by rw [List.map_append, h2]; rfl⟩
/- what a chunk does to the line at hand and to the lines -/
noncomputable def StepR (b : Bool) (mx k : Int) (ps : List (Str × Str)) (ls : List (List Nat)) (p : Str × Str) (k' : Int) (ps' : List (Str × Str)) (ls' : List (List Nat)) : Prop :=
  (k + lenP (ps ++ [p]) ≤ mx ∧ k' = k ∧ ps' = ps ++ [p] ∧ ls' = ls) ∨
  (mx < k + lenP (ps ++ [p]) ∧ k' = 0 ∧ ∃ i, 0 < i ∧ i ≤ ps.length ∧ (b = true → i = ps.length) ∧ ps' = (ps ++ [p]).drop i ∧ ls' = ls ++ [strL ((ps ++ [p]).take i)]) ∨
  (mx < k + lenP (ps ++ [p]) ∧ (b = true → ps = []) ∧ k = 0 ∧ k' = 0 ∧ ps' = ps ++ [p] ∧ ls' = ls) ∨
  (mx < k + lenP (ps ++ [p]) ∧ (b = true → ps = []) ∧ 0 < k ∧ k' = 0 ∧ ls' = ls ++ [strL ps] ∧ ps' = [((if p.1.length = 0 then Str.ofString " " else p.1), p.2)])
/- what the loops keep -/
noncomputable def ChO (f : Addr) (base : List Ent) (b : Bool) (c : Nat) (i : Nat) (m' : Str → Option Value) (news' : List Ent) : Prop := m' (Str.ofString "self") = some (.ref f) ∧ news' = base ∧ (b = true → 0 < i → c = 0)
noncomputable def ChI (f : Addr) (base : List Ent) (it : Ent) (b : Bool) (cs : Nat) (uc : Tok) (j : Nat) (m' : Str → Option Value) (news' : List Ent) : Prop := m' (Str.ofString "self") = some (.ref f) ∧ m' (Str.ofString "ch") = some (.str ⟨#[cs]⟩ uc) ∧ news' = it :: base ∧ (b = true → j = 0)
@[reducible] noncomputable def IWV32 (w : World) (z : Shared) (up lo : List Ent) (a ad la f fd : Addr) (mx : Int) (sp : Str) (t1 t2 t3 t4 : Tok) (b : Bool) (vs lvs : List Value) (ps : List (Str × Str)) (k : Int) (t : Tok) (x y : Str) (g₁ : Heap) (L' T : Addr) (i c : Nat) (u : Tok) (it : Addr) (j : Nat) (it' : Addr) : Shared → Prop := fun s => ∃ (m₂ : Str → Option Value) (ti : Tok), m₂ (Str.ofString "self") = some (.ref f) ∧ m₂ (Str.ofString "ch") = some (.str ⟨#[c]⟩ u) ∧ m₂ (Str.ofString "i") = some (.int ((ps.length - j : Nat) : Int) ti) ∧ b = false ∧ St z g₁ L' m₂ ((it', isRI ((ps.length : Int) - ((j + 1 : Nat) : Int))) :: (it, isSI sp t4 (i + 1)) :: ((T, isPr (x, y)) :: up ++ (a, isAcc ad (vs ++ [Value.ref T])) :: (ad, isDct w.params [(Str.ofString "_initial_size", .int k t)]) :: (la, isLst lvs) :: (f, isVf fd) :: (fd, isDct w.params (vfK mx sp la a t1 t2 t3 t4)) :: lo)) s
@[reducible] noncomputable def IWV31 (w : World) (z : Shared) (up lo : List Ent) (a ad la f fd : Addr) (mx : Int) (sp : Str) (t1 t2 t3 t4 : Tok) (b : Bool) (vs lvs : List Value) (ps : List (Str × Str)) (k : Int) (t : Tok) (x y : Str) (g₁ : Heap) (L' T : Addr) : Shared → Prop := fun s => ∃ (m' : Str → Option Value) (i : Nat) (ti : Tok), m' (Str.ofString "self") = some (.ref f) ∧ m' (Str.ofString "i") = some (.int i ti) ∧ 0 < i ∧ i ≤ ps.length ∧ (b = true → i = ps.length) ∧ St z g₁ L' m' ((T, isPr (x, y)) :: up ++ (a, isAcc ad (vs ++ [Value.ref T])) :: (ad, isDct w.params [(Str.ofString "_initial_size", .int k t)]) :: (la, isLst lvs) :: (f, isVf fd) :: (fd, isDct w.params (vfK mx sp la a t1 t2 t3 t4)) :: lo) s
theorem vf_chunk {w : World} {z s : Shared} {h₀ : Heap} {L : Addr} {A : Around} {E : Value → Shared → Prop} {Q : Value → Shared → Prop} {m : Str → Option Value} {up lo : List Ent} {a ad la f fd : Addr} {mx : Int} {sp : Str} {t1 t2 t3 t4 : Tok} {b : Bool} {vs lvs : List Value} {ps : List (Str × Str)} {ls : List (List Nat)} {k : Int} {t tx ty : Tok} {x y : Str}
  (D : St z h₀ L m (up ++ (a, isAcc ad vs) :: (ad, isDct w.params [(Str.ofString "_initial_size", .int k t)]) :: (la, isLst lvs) :: (f, isVf fd) :: (fd, isDct w.params (vfK mx sp la a t1 t2 t3 t4)) :: lo) s) (B : Gd w h₀) (hst : (cStatics, isStat z) ∈ lo) (htab : (182, isTab) ∈ lo) (htab2 : (189, isTab) ∈ lo) (hA : A.depth < 443) (hU : A.units < 7000) (hh : A.handled = none)
  (hp : Prs up vs ps) (hk : 0 ≤ k ∧ k ≤ 1000) (hps : ps.length ≤ 80) (hg : ∀ p ∈ ps, GoodP p) (hxy : GoodP (x, y)) (hls : Lns lvs ls) (hlv : lvs.length ≤ 90) (hsp : sp.cps.all (· < 128) = true)
  (hb : b = true → sp = Str.ofString " " ∧ (ps ≠ [] → ∃ r, x.cps.toList = 32 :: r))
  (kk : ∀ T q vs' ps' k' t' lvs' ls' s', StepR b mx k ps ls (x, y) k' ps' ls' → (∀ U, Prs U vs ps → Prs ((T, isPr q) :: U) vs' ps') → Lns lvs' ls' → St z h₀ L m ((T, isPr q) :: up ++ (a, isAcc ad vs') :: (ad, isDct w.params [(Str.ofString "_initial_size", .int k' t')]) :: (la, isLst lvs') :: (f, isVf fd) :: (fd, isDct w.params (vfK mx sp la a t1 t2 t3 t4)) :: lo) s' → Q .none s') :
  wpAny (model PySem.Challenge.rw_ny0227_01.row.prog w) A (call (.ref 133) [.ref f, .str x tx, .str y ty]) Q E s := by
  have X : hd.heap_1 w.params = hd.heap_1 w.params := rfl
  revert X
  k_fill
  intro X; clear X
  refine' enter (binds := [(Str.ofString "self", .ref f), (Str.ofString "fws", .str x tx), (Str.ofString "string", .str y ty)]) D B (memU (.tail _ (.tail _ (.tail _ (.tail _ (.tail _ hst)))))) ?ho ?hcd (Nat.lt_trans hA (by decide)) ?hb ?hc ?hl ?c1 ?c2 ?c3 ?_
  case ho => k_is
  case hcd => k_is
  case hb => exact BindsTo.of_eq (by kernel_rfl)
  case hc => kernel_rfl
  case hl => kernel_rfl
  case c1 => kernel_rfl
  case c2 => kernel_rfl
  case c3 => kernel_rfl
  intro g₁ L' s₁ env D₁ B₁ hE hEq back
  replace hh : (A.deeper env).handled = none := hh
  have hA' : (A.deeper env).depth < 444 := Nat.succ_lt_succ hA
  dsimp only [bm] at D₁
  clear hEq
  have hvl := hp.length
  wtm_at "ss"
  refine acc_push (by assumption) B₁ (.tail _ (.tail _ (.tail _ hst))) (Nat.lt_of_lt_of_le hA' (by decide)) hh (by lia) ?_
  intro T s₂ D₂
  refine xIf' ?_
  wtm_at "ss"
  rename_i D₃
  have hp1 : Prs ((T, isPr (x, y)) :: up) (vs ++ [.ref T]) (ps ++ [(x, y)]) := (hp.mono fun a q h => .tail _ h).snoc (.head _)
  have hP1 : Prs ((T, isPr (x, y)) :: up ++ (a, isAcc ad (vs ++ [.ref T])) :: (ad, isDct w.params [(Str.ofString "_initial_size", .int k t)]) :: (la, isLst lvs) :: (f, isVf fd) :: (fd, isDct w.params (vfK mx sp la a t1 t2 t3 t4)) :: lo) (vs ++ [.ref T]) (ps ++ [(x, y)]) := hp1.mono fun a q h => List.mem_append_left _ h
  have hg1 : ∀ p ∈ ps ++ [(x, y)], GoodP p := by
    intro p hpm
    rcases List.mem_append.mp hpm with h | h
    · exact hg p h
    · rw [List.mem_singleton.mp h]; exact hxy
  have hgl : ∀ q ∈ ps ++ [(x, y)], q.1.length ≤ 1000 ∧ q.2.length ≤ 1000 := fun q hq => ⟨(hg1 q hq).1.1, (hg1 q hq).1.2.1⟩
  have hpl : (ps ++ [(x, y)]).length = ps.length + 1 := by simp
  have hpos : 0 ≤ lenP (ps ++ [(x, y)]) := by rw [lenP_strL]; lia
  have hbig : lenP (ps ++ [(x, y)]) ≤ 1000000 := by
    have h1 : ∀ l : List (Str × Str), (∀ p ∈ l, p.1.length ≤ 1000 ∧ p.2.length ≤ 1000) → lenP l ≤ (l.length : Int) * 2000 := fun l => by
      induction l with
      | nil => intro _; simp [lenP]
      | cons p r ih =>
        intro hl
        have q1 := hl p (.head _)
        have q2 := ih fun x hx => hl x (.tail _ hx)
        unfold lenP at q2 ⊢
        simp only [List.map_cons, List.sum_cons, List.length_cons]
        lia
    have := h1 _ hgl
    lia
  refine rLenI (n := k + lenP (ps ++ [(x, y)])) D₃ B₁ (by wtm_at "mem") (by wtm_at "mem") ⟨by lia, by lia⟩ (acc_len D₃ B₁ (.tail _ (.tail _ (.tail _ hst))) (.tail _ (.tail _ (.tail _ htab))) (Nat.lt_of_lt_of_le hA' (by decide)) hh hP1 hk (by lia) hgl fun t' s' D' => ⟨t', rfl, D'⟩) ?_
  intro t₄ s₄ D₄
  clear D₃ D₂
  wtm_at "ss"
  rename_i D₅
  by_cases hgt : k + lenP (ps ++ [(x, y)]) > mx
  case neg =>
    refine ifF hgt ?_
    wtm_at "ss"
    exact kk _ _ _ _ _ _ _ _ _ (.inl ⟨by lia, rfl, rfl, rfl⟩) (fun U h => (h.mono fun a q h => .tail _ h).snoc (.head _)) hls (back _ _ _ D₅)
  refine ifT hgt ?_
  clear D₄
  have hc80 : ps.length ≤ 1000 := by lia
  have hsz : (vs ++ [Value.ref T]).length = ps.length + 1 := by simp; lia
  have hget : ∀ j, j < ps.length + 1 → ∃ q T', (vs ++ [Value.ref T])[j]? = some (.ref T') ∧ (ps ++ [(x, y)])[j]? = some q ∧ (T', isPr q) ∈ (T, isPr (x, y)) :: up := fun j hj => by
    have zh1 := hp1.get j (ps ++ [(x, y)])[j] (List.getElem?_eq_getElem (by lia))
    refine Mine.e1_2 zh1 ?_
    try clear zh1
    intro T' h1 h2
    exact Mine.i2_3 _ T' h1 (List.getElem?_eq_getElem _) h2
  refine xCutF (IWV31 w z up lo a ad la f fd mx sp t1 t2 t3 t4 b vs lvs ps k t x y g₁ L' T) ?_ ?_
  · refine xFor ?_ (fun _ => by kernel_rfl)
    wtm_at "ss"
    rename_i D₆
    refine iterStr (ChO f ((T, isPr (x, y)) :: up ++ (a, isAcc ad (vs ++ [Value.ref T])) :: (ad, isDct w.params [(Str.ofString "_initial_size", .int k t)]) :: (la, isLst lvs) :: (f, isVf fd) :: (fd, isDct w.params (vfK mx sp la a t1 t2 t3 t4)) :: lo) b ps.length) D₆ hh hsp ⟨by wtm_at "mget", rfl, fun _ h => absurd h (by lia)⟩ ?_ ?_
    · intro i c u m' news' it s' hc zh2 D'
      refine Mine.e0_3 zh2 ?_
      try clear zh2
      intro hself zq3 hbo
      subst zq3
      clear D₅ D₆
      wtm_at "s1"
      refine xFor ?_ (fun _ => by kernel_rfl)
      wtm_at "ss"
      rename_i D₇
      refine acc_count (up := (it, isSI sp t4 (i + 1)) :: (T, isPr (x, y)) :: up) D₇ B₁ (.tail _ (.tail _ (.tail _ hst))) (Nat.lt_of_lt_of_le hA' (by decide)) hh ?_
      intro tc s₇ D₈
      clear D₇
      wtm_at "ss"
      have hsz2 : ((vs ++ [Value.ref T]).length : Int) - 1 = (ps.length : Int) := by rw [hsz]; lia
      rw [hsz2]
      refine rRange (by assumption) hc80 ?_
      intro r s₈ D₉
      refine iterDown (ChI f ((T, isPr (x, y)) :: up ++ (a, isAcc ad (vs ++ [Value.ref T])) :: (ad, isDct w.params [(Str.ofString "_initial_size", .int k t)]) :: (la, isLst lvs) :: (f, isVf fd) :: (fd, isDct w.params (vfK mx sp la a t1 t2 t3 t4)) :: lo) (it, isSI sp t4 (i + 1)) b c u) D₉ hh hc80 ⟨by wtm_at "mget", by wtm_at "mget", rfl, fun _ => rfl⟩ ?_ ?_
      · intro j u' m'' news'' it' s'' hj zh4 D''
        refine Mine.e0_4 zh4 ?_
        try clear zh4
        intro hself' hch' zq5 hbj
        subst zq5
        have hjj : (ps.length : Int) - (j : Int) = ((ps.length - j : Nat) : Int) := by lia
        rw [hjj]
        clear D₈ D₉ D'
        wtm_at "s1"
        have hj1 : ps.length - j < ps.length + 1 := by lia
        have hj2 : ps.length - j - 1 < ps.length + 1 := by lia
        have hc32 : b = true → c = 32 := fun hb' => by
          have e := (hb hb').1
          rw [e] at hc
          have := Array.mem_of_getElem? hc
          have e2 : (Str.ofString " ").cps = #[32] := by decide +kernel
          rw [e2] at this
          simpa using this
        refine xCutF (IWV32 w z up lo a ad la f fd mx sp t1 t2 t3 t4 b vs lvs ps k t x y g₁ L' T i c u it j it') ?_ ?_
        · rename_i D₉
          refine' xIfT (b := Txt.isspace ⟨#[c]⟩) D₉ ?ht ?hT ?hF
          case ht =>
            wtm_at "ss"
            refine SC.isspace ?_
            wtm_at "ss"
          case hF =>
            intro hn s₁₀ D₁₀
            have hbf : b = false := by
              cases b
              · rfl
              · rw [hc32 rfl] at hn; exact absurd hn (by decide +kernel)
            refine andThen_next ?_
            wtm_at "ss"
            exact .inl ⟨rfl, _, _, by wtm_at "mget", by wtm_at "mget", by wtm_at "mget", hbf, D₁₀⟩
          case hT =>
            intro _ s₁₀ D₁₀
            clear D₉
            wtm_at "ss"
            rename_i D₁₁
            refine Mine.e2_3 (hget _ hj1) ?_
            intro q Tq hq1 hq2 hq3
            have hqg := hg1 q (List.mem_of_getElem? hq2)
            refine rItemA D₁₁ B₁ (by wtm_at "mem") (by lia) (by lia) (by rw [Int.toNat_natCast]; exact hq1) ?_ rfl
            wtm_at "s1"
            refine rPr0 (p := q) (by assumption) (.tail _ (.tail _ (List.mem_append_left _ hq3))) ?_ rfl
            intro tq
            clear D₁₀ D₁₁
            wtm_at "ss"
            rename_i D₁₂
            refine' xIfT (b := q.1.cps.toList.head? == some c) D₁₂ ?ht ?hT ?hF
            case ht =>
              exact tHead D₁₂ (by assumption) (by kernel_rfl) (by kernel_rfl) (by kernel_rfl) (by kernel_rfl) (by wtm_at "mget") (by wtm_at "mget") (by have := hqg.1.1; lia)
            case hT =>
              intro _ s₁₃ D₁₃
              refine xBrk (.inr ⟨by simp, turn_brk (andThen_next (xBrk (turn_brk (andThen_next ?_))))⟩)
              wtm_at "ss"
              refine .inl ⟨rfl, _, ps.length - j, u', ?_, ?_, ?_, ?_, ?_, St.sub (by assumption) (.cons _ (.cons _ (List.Sublist.refl _)))⟩
              · wtm_at "mget"
              · wtm_at "mget"
              · lia
              · lia
              · intro hb'; have := hbj hb'; lia
            case hF =>
              intro hn s₁₃ D₁₃
              have hbf : b = false := by
                cases b
                · rfl
                · exfalso
                  have hj0 := hbj rfl
                  subst hj0
                  have hc' := hc32 rfl
                  subst hc'
                  have hpne : ps ≠ [] := by intro e; rw [e] at hj; simp at hj
                  obtain ⟨r', hr'⟩ := (hb rfl).2 hpne
                  have : q = (x, y) := by
                    rw [Nat.sub_zero, List.getElem?_append_right (Nat.le_refl _), Nat.sub_self] at hq2
                    exact (Option.some.inj hq2).symm
                  rw [this] at hn
                  simp [hr'] at hn
              wtm_at "ss"
              exact .inl ⟨rfl, _, _, by wtm_at "mget", by wtm_at "mget", by wtm_at "mget", hbf, D₁₃⟩
        · intro s₁₀ zh6
          refine Mine.E2 zh6 ?_
          try clear zh6
          intro m₂ ti zk20
          refine Mine.e0_5 zk20 ?_
          clear zk20
          intro hself₂ hch₂ hi₂ hbf D₁₀
          wtm_at "ss"
          rename_i D₁₁
          refine Mine.e2_3 (hget _ hj2) ?_
          intro q Tq hq1 hq2 hq3
          have hqg := hg1 q (List.mem_of_getElem? hq2)
          have ejj : ((ps.length - j : Nat) : Int) - 1 = ((ps.length - j - 1 : Nat) : Int) := by lia
          rw [ejj]
          refine rItemA D₁₁ B₁ (by wtm_at "mem") (by lia) (by lia) (by rw [Int.toNat_natCast]; exact hq1) ?_ rfl
          wtm_at "s1"
          refine rPr1 (p := q) (by assumption) (.tail _ (.tail _ (List.mem_append_left _ hq3))) ?_ rfl
          intro tq
          clear D₁₀ D₁₁
          wtm_at "ss"
          rename_i D₁₂
          refine' xIfT (b := q.2.cps.toList.getLast? == some c) D₁₂ ?ht2 ?hT2 ?hF2
          case ht2 =>
            exact tLast D₁₂ (by assumption) (by kernel_rfl) (by kernel_rfl) (by kernel_rfl) (by kernel_rfl) (by wtm_at "mget") (by wtm_at "mget") (by have := hqg.1.2.1; lia)
          case hT2 =>
            intro _ s₁₃ D₁₃
            refine xBrk (andThen_brk (turn_brk (andThen_next (xBrk (turn_brk (andThen_next ?_))))))
            wtm_at "ss"
            refine .inl ⟨rfl, _, ps.length - j, ti, ?_, ?_, ?_, ?_, ?_, St.sub (by assumption) (.cons _ (.cons _ (List.Sublist.refl _)))⟩
            · wtm_at "mget"
            · wtm_at "mget"
            · lia
            · lia
            · intro hb'; rw [hbf] at hb'; cases hb'
          case hF2 =>
            intro _ s₁₃ D₁₃
            refine andThen_next ?_
            wtm_at "ss"
            refine turn_next (Mine.i2_2 _ _ ⟨?_, ?_, rfl, ?_⟩ (by assumption))
            · wtm_at "mget"
            · wtm_at "mget"
            · intro hb'; rw [hbf] at hb'; cases hb'
      · intro m'' news'' s'' zh7 D''
        refine Mine.e0_4 zh7 ?_
        try clear zh7
        intro hself' hch' zq8 hbj
        subst zq8
        refine xCnt (andThen_cont (turn_cont ⟨_, _, ⟨hself', rfl, fun hb' _ => hbj hb'⟩, D''⟩))
    · intro m'' news'' s'' zh9 D''
      refine Mine.e0_3 zh9 ?_
      try clear zh9
      intro hself' zq10 hbo
      subst zq10
      have hbe : b = true → ps = [] := fun hb' => by
        have e := hbo hb' (by rw [(hb hb').1]; decide +kernel)
        exact List.length_eq_zero_iff.mp e
      clear D₅ D₆
      wtm_at "ss"
      refine acc_pop1 (up := (T, isPr (x, y)) :: up) (by assumption) B₁ (.tail _ (.tail _ (.tail _ hst))) (Nat.lt_of_lt_of_le hA' (by decide)) hh (by lia) ?_
      intro s₇ D₇
      refine Mine.e1_2 (St.fix D₇) ?_
      intro o zn11 D₈
      refine Mine.E3 zn11 ?_
      try clear zn11
      intro n tw1 tw2 zq12
      subst zq12
      have D₉ : St z g₁ L' m'' ((T, isTpl [.str x tw1, .str y tw2]) :: up ++ (a, isAcc ad vs) :: (ad, isDct w.params [(Str.ofString "_initial_size", .int k t)]) :: (la, isLst lvs) :: (f, isVf fd) :: (fd, isDct w.params (vfK mx sp la a t1 t2 t3 t4)) :: lo) s₇ := D₈.weak tpl_of
      clear D₇ D₈ D'' 
      refine rAsgT D₉ hh (.head _) rfl rfl ?_
      intro s₈ D₁₀
      clear D₉
      show wpAny _ _ (assignInOrder [assign (.Name _ _) env, assign (.Name _ _) env] _) _ _ _
      wtm_at "ss"
      refine xIf' ?_
      wtm_at "ss"
      rename_i D₁₁
      clear D₁₀
      by_cases hk0 : k > 0
      · refine ifT hk0 ?_
        wtm_at "ss"
        refine vf_newline (up := (T, isTpl [.str x tw1, .str y tw2]) :: up) (by assumption) B₁ hst htab htab2 (Nat.lt_of_lt_of_le hA' (by decide)) (by show A.units + 3 < 8000; lia) hh (hp.mono fun a q h => .tail _ h) hk (by lia) hg (by lia) ?_
        intro lvs' t' s₁₂ hnl D₁₂
        have hpn : mx < k + lenP (ps ++ [(x, y)]) := by lia
        have hlsn : Lns lvs' (ls ++ [strL ps]) := by
          have hp0 : 0 ≤ lenP ps := by rw [lenP_strL]; lia
          rcases hnl with ⟨_, yv, tv, rfl, hyv⟩ | ⟨h0, _⟩
          · rw [← hyv]; exact hls.snoc
          · lia
        refine' xIfT (b := (x.length == 0)) D₁₂ ?hta ?hTa ?hFa
        case hta =>
          refine PyProof.Rows.isTrue_not ?_
          wtm_at "ss"
          refine rTruS D₁₂ (by rw [sizeLine_eq]; have := hxy.1.1; dsimp only at this; lia) fun s₁₃ D₁₃ => ?_
          exact ⟨by cases h : (x.length == 0) <;> simp_all, D₁₃⟩
        case hTa =>
          intro hx0 s₁₃ D₁₃
          have hx1 : x.length = 0 := by simpa using hx0
          clear D₁₂
          wtm_at "ss"
          refine acc_push (up := (T, isTpl [.str x tw1, .str y tw2]) :: up) (by assumption) B₁ (.tail _ (.tail _ (.tail _ hst))) (Nat.lt_of_lt_of_le hA' (by decide)) hh (by decide) ?_
          intro T₂ s₁₄ D₁₄
          wtm_at "ss"
          refine xReturnN (andThen_ret (.inr ⟨by simp, ?_⟩))
          refine kk _ _ _ _ _ _ _ _ _ (.inr (.inr (.inr ⟨hpn, hbe, by lia, rfl, rfl, by rw [if_pos hx1]; rfl⟩))) (fun U h => (Prs.nil).snoc (.head _)) hlsn (back _ _ _ (D₁₄.sub (.cons₂ _ (List.sublist_cons_self _ _))))
        case hFa =>
          intro hx0 s₁₃ D₁₃
          have hx1 : ¬ x.length = 0 := by simpa using hx0
          clear D₁₂
          wtm_at "ss"
          refine acc_push (up := (T, isTpl [.str x tw1, .str y tw2]) :: up) (by assumption) B₁ (.tail _ (.tail _ (.tail _ hst))) (Nat.lt_of_lt_of_le hA' (by decide)) hh (by decide) ?_
          intro T₂ s₁₄ D₁₄
          wtm_at "ss"
          refine xReturnN (andThen_ret (.inr ⟨by simp, ?_⟩))
          refine kk _ _ _ _ _ _ _ _ _ (.inr (.inr (.inr ⟨hpn, hbe, by lia, rfl, rfl, by rw [if_neg hx1]; rfl⟩))) (fun U h => (Prs.nil).snoc (.head _)) hlsn (back _ _ _ (D₁₄.sub (.cons₂ _ (List.sublist_cons_self _ _))))
      · refine ifF hk0 ?_
        wtm_at "ss"
        refine acc_push (up := (T, isTpl [.str x tw1, .str y tw2]) :: up) (by assumption) B₁ (.tail _ (.tail _ (.tail _ hst))) (Nat.lt_of_lt_of_le hA' (by decide)) hh (by lia) ?_
        intro T₂ s₁₂ D₁₂
        wtm_at "ss"
        refine xReturnN (andThen_ret (.inr ⟨by simp, ?_⟩))
        refine kk _ _ _ _ _ _ _ _ _ (.inr (.inr (.inl ⟨by lia, hbe, by lia, by lia, rfl, rfl⟩))) (fun U h => (h.mono fun a q h => .tail _ h).snoc (.head _)) hls (back _ _ _ (D₁₂.sub (.cons₂ _ (List.sublist_cons_self _ _))))
  · intro s₆ zh13
    refine Mine.E3 zh13 ?_
    try clear zh13
    intro m' i ti zk21
    refine Mine.e0_6 zk21 ?_
    clear zk21
    intro hself hi hi0 hi1 hbi D₆
    clear D₅
    have hvi : i ≤ (vs ++ [Value.ref T]).length := by lia
    have hz1 : (vs ++ [Value.ref T]).length ≤ 100 := by lia
    wtm_at "ss"
    refine acc_popfrom (up := (T, isPr (x, y)) :: up) (by assumption) B₁ (.tail _ (.tail _ (.tail _ hst))) (Nat.lt_of_lt_of_le hA' (by decide)) hh hz1 hvi ?_
    intro l s₇ D₇
    clear D₆
    have hP2 : Prs ((l, isLst ((vs ++ [Value.ref T]).drop i)) :: (T, isPr (x, y)) :: up ++ (a, isAcc ad ((vs ++ [Value.ref T]).take i)) :: (ad, isDct w.params [(Str.ofString "_initial_size", .int k t)]) :: (la, isLst lvs) :: (f, isVf fd) :: (fd, isDct w.params (vfK mx sp la a t1 t2 t3 t4)) :: lo) ((vs ++ [Value.ref T]).take i) ((ps ++ [(x, y)]).take i) := (hp1.take i).mono fun a q h => .tail _ (List.mem_append_left _ h)
    have hQl : ((ps ++ [(x, y)]).take i).length ≤ 100 := by rw [List.length_take]; lia
    have hQg : ∀ q ∈ (ps ++ [(x, y)]).take i, q.1.length ≤ 1000 ∧ q.2.length ≤ 1000 := fun q hq => hgl q (List.mem_of_mem_take hq)
    have hz2 : ((vs ++ [Value.ref T]).take i).length ≤ 100 := by rw [List.length_take]; lia
    have hz3 : ((vs ++ [Value.ref T]).drop i).length ≤ 100 := by rw [List.length_drop]; lia
    wtm_at "ss"
    rename_i D₈
    clear D₇
    refine rStrI (P := fun y' => y'.cps.toList = strL ((ps ++ [(x, y)]).take i)) (by show A.units + 3 + 1 + 1 < cLine; unfold cLine; lia) D₈ B₁ (by wtm_at "mem") (by wtm_at "mem") (fun A' hd' hh' => acc_str (up := (l, isLst ((vs ++ [Value.ref T]).drop i)) :: (T, isPr (x, y)) :: up) D₈ B₁ (.tail _ (.tail _ (.tail _ hst))) (.tail _ (.tail _ (.tail _ htab2))) (by rw [hd']; exact Nat.lt_of_lt_of_le hA' (by decide)) (hh'.trans hh) hP2 hQl hQg fun y t' s' hy D' => ⟨y, t', rfl, hy, D'⟩) ?_
    intro yl tyl s₉ hyl D₉
    clear D₈
    wtm_at "ss"
    rename_i D₁₀
    refine acc_reset1 (up := (l, isLst ((vs ++ [Value.ref T]).drop i)) :: (T, isPr (x, y)) :: up) D₁₀ B₁ (.tail _ (.tail _ (.tail _ hst))) (Nat.lt_of_lt_of_le hA' (by decide)) hh hz2 hz3 (.head _) ?_
    intro t' s₁₁ D₁₁
    wtm_at "ss"
    refine kk _ _ _ _ _ _ _ _ _ (.inr (.inl ⟨by lia, rfl, i, hi0, hi1, hbi, rfl, rfl⟩)) (fun U h => ((h.mono fun a q h => .tail _ h).snoc (.head _)).drop i) ?_ (back _ _ _ (D₁₁.sub (List.sublist_cons_self _ _)))
    rw [← hyl]
    exact hls.snoc
end Mine
end

section
open PySem PySem.W PySem.W.X PyProof.Rows PySem.Calls
set_option maxHeartbeats 4000000
namespace Mine
/- ## _ValueFormatter: _ascii_split -/
inductive Steps (b : Bool) (mx k : Int) : List (Str × Str) → Int → List (Str × Str) → List (List Nat) → Prop
  | nil : Steps b mx k [] k [] []
  | snoc {prs ps ps' : List (Str × Str)} {k' k'' : Int} {ls ls' : List (List Nat)} {p : Str × Str} : Steps b mx k prs k' ps ls → StepR b mx k' ps ls p k'' ps' ls' → Steps b mx k (prs ++ [p]) k'' ps' ls'
noncomputable def flatP (prs : List (Str × Str)) : List Str := prs.flatMap fun p => [p.1, p.2]
theorem flatP_len (l : List (Str × Str)) : (flatP l).length = 2 * l.length := by
  induction l with
  | nil => rfl
  | cons a r ih =>
    unfold flatP at ih ⊢
    rw [List.flatMap_cons, List.length_append, ih]
    simp
    lia
theorem strs_pair {vs : List Value} {prs : List (Str × Str)} (h : StrsAre vs (flatP prs)) {i : Nat} {p : Str × Str} (hp : prs[i]? = some p) : ∃ t u, vs[2 * i]? = some (.str p.1 t) ∧ vs[2 * i + 1]? = some (.str p.2 u) := by
  induction prs generalizing vs i with
  | nil => cases hp
  | cons q r ih =>
    change StrsAre vs (q.1 :: q.2 :: flatP r) at h
    cases h with
    | cons _ t h =>
    cases h with
    | cons _ u h =>
    cases i with
    | zero => simp at hp; subst hp; exact ⟨t, u, rfl, rfl⟩
    | succ i =>
      have zh1 := ih h (i := i) (by simpa using hp)
      refine Mine.e2_2 zh1 ?_
      try clear zh1
      intro t' u' e1 e2
      exact Mine.i2_2 t' u' (by rw [show 2 * (i + 1) = 2 * i + 1 + 1 from by lia]; simpa using e1) (by rw [show 2 * (i + 1) + 1 = 2 * i + 1 + 1 + 1 from by lia]; simpa using e2)
theorem Lns.length {lvs : List Value} {ls : List (List Nat)} (h : Lns lvs ls) : lvs.length = ls.length := by
  refine Mine.e1_2 h ?_
  try clear h
  intro xs h1 h2
  rw [h1.length, ← h2, List.length_map]
theorem Steps.bounds {b : Bool} {mx k k' : Int} {prs ps : List (Str × Str)} {ls : List (List Nat)} (h : Steps b mx k prs k' ps ls) (hg : ∀ p ∈ prs, GoodP p) : ps.length ≤ prs.length ∧ ls.length ≤ prs.length ∧ (k' = k ∨ k' = 0) ∧ ∀ p ∈ ps, GoodP p := by
  induction h with
  | nil => exact ⟨Nat.le_refl _, Nat.le_refl _, .inl rfl, fun p hp => by cases hp⟩
  | snoc hS hR ih =>
    rename_i prs ps ps' k' k'' ls ls' p
    refine Mine.e0_4 (ih fun q hq => hg q (List.mem_append_left _ hq)) ?_
    intro i1 i2 i3 i4
    have hp := hg p (by simp)
    have hall : ∀ q ∈ ps ++ [p], GoodP q := fun q hq => by
      rcases List.mem_append.mp hq with h | h
      · exact i4 q h
      · rw [List.mem_singleton.mp h]; exact hp
    simp only [List.length_append, List.length_cons, List.length_nil]
    rcases hR with ⟨_, rfl, rfl, rfl⟩ | ⟨_, rfl, i, h0, h1, _, rfl, rfl⟩ | ⟨_, _, rfl, rfl, rfl, rfl⟩ | ⟨_, _, _, rfl, rfl, rfl⟩
    · exact Mine.i0_4 (by simp; lia) (by lia) i3 hall
    · exact Mine.i0_4 (by simp; lia) (by simp; lia) (.inr rfl) (fun q hq => hall q (List.mem_of_mem_drop hq))
    · exact Mine.i0_4 (by simp; lia) (by lia) (.inr rfl) hall
    · refine Mine.i0_4 (by simp) (by simp; lia) (.inr rfl) (fun q hq => ?_)
      rw [List.mem_singleton.mp hq]
      obtain ⟨⟨g1, g2, g3, g4⟩, c, hc, hcs⟩ := hp
      refine ⟨⟨?_, g2, ?_, g4⟩, (Mine.i1_2 c hc hcs)⟩
      · dsimp only; split
        · decide +kernel
        · exact g1
      · dsimp only; split
        · decide +kernel
        · exact g3
theorem vf_split {w : World} {z s : Shared} {h₀ : Heap} {L : Addr} {A : Around} {E : Value → Shared → Prop} {Q : Value → Shared → Prop} {m : Str → Option Value} {up lo : List Ent} {a ad la f fd : Addr} {mx : Int} {sp : Str} {t1 t2 t3 t4 : Tok} {b : Bool} {prs : List (Str × Str)} {k : Int} {t tx ts ty : Tok} {x : Str}
  (D : St z h₀ L m (up ++ (a, isAcc ad []) :: (ad, isDct w.params [(Str.ofString "_initial_size", .int k t)]) :: (la, isLst []) :: (f, isVf fd) :: (fd, isDct w.params (vfK mx sp la a t1 t2 t3 t4)) :: lo) s) (B : Gd w h₀) (hst : (cStatics, isStat z) ∈ lo) (htab : (182, isTab) ∈ lo) (htab2 : (189, isTab) ∈ lo) (hA : A.depth < 442) (hU : A.units < 6900) (hh : A.handled = none)
  (hk : 0 ≤ k ∧ k ≤ 1000) (hsp : sp.cps.all (· < 128) = true) (hx : x.cps.size ≤ 1000)
  (hcut : Str.ofString "" :: cut (tkB x.cps) x.cps (2 * x.cps.size + 3) 0 = flatP prs) (hne : ∀ p, prs[0]? = some p → p.2.length ≠ 0) (hpl : prs.length ≤ 60) (hg : ∀ p ∈ prs, GoodP p)
  (hb : b = true → sp = Str.ofString " " ∧ ∀ p ∈ prs.tail, ∃ r, p.1.cps.toList = 32 :: r)
  (kk : ∀ U vs' ps' k' t' lvs' ls' s', Steps b mx k prs k' ps' ls' → Prs U vs' ps' → Lns lvs' ls' → St z h₀ L m (U ++ (a, isAcc ad vs') :: (ad, isDct w.params [(Str.ofString "_initial_size", .int k' t')]) :: (la, isLst lvs') :: (f, isVf fd) :: (fd, isDct w.params (vfK mx sp la a t1 t2 t3 t4)) :: lo) s' → Q .none s') :
  wpAny (model PySem.Challenge.rw_ny0227_01.row.prog w) A (call (.ref 126) [.ref f, .str (Str.ofString "") tx, .str x ty, .str sp ts]) Q E s := by
  have X : hd.heap_1 w.params = hd.heap_1 w.params := rfl
  revert X
  k_fill
  intro X; clear X
  refine' enter (binds := [(Str.ofString "self", .ref f), (Str.ofString "fws", .str (Str.ofString "") tx), (Str.ofString "string", .str x ty), (Str.ofString "splitchars", .str sp ts)]) D B (memU (.tail _ (.tail _ (.tail _ (.tail _ (.tail _ hst)))))) ?ho ?hcd (Nat.lt_trans hA (by decide)) ?hb ?hc ?hl ?c1 ?c2 ?c3 ?_
  case ho => k_is
  case hcd => k_is
  case hb => exact BindsTo.of_eq (by kernel_rfl)
  case hc => kernel_rfl
  case hl => kernel_rfl
  case c1 => kernel_rfl
  case c2 => kernel_rfl
  case c3 => kernel_rfl
  intro g₁ L' s₁ env D₁ B₁ hE hEq back
  replace hh : (A.deeper env).handled = none := hh
  have hA' : (A.deeper env).depth < 443 := Nat.succ_lt_succ hA
  dsimp only [bm] at D₁
  clear hEq
  have h63 : g₁.get? 63 = _ := B₁.X 63 _ ((kx_look (by decide)).trans (by k_is))
  have h62 : g₁.get? 62 = _ := B₁.X 62 _ ((kx_look (by decide)).trans (by k_is))
  have hx2 : x.length ≤ 1000 := hx
  wtm_at "ss"
  refine rPatMeth (by assumption) h63 rfl rfl ?_
  wtm_at "ss"
  have hs0 : (Str.ofString "").length = 0 := by decide +kernel
  refine rCat (by assumption) (by rw [sizeLine_eq]; lia) ?_
  have hcat : Str.ofString "" ++ x = x := Str.ext' (by rw [Str.cps_append]; have e : (Str.ofString "").cps = #[] := by decide +kernel
                                                       rw [e]; simp)
  rw [hcat]
  intro t₃ s₃ D₃
  refine rSplit D₃ h63 h62 (by kernel_rfl) (B_ok x.cps (by lia)) (by kernel_rfl) (by kernel_rfl) hx ?_
  intro pl pvs s₄ SP D₄
  clear D₃
  generalize cut (tkB x.cps) x.cps (2 * x.cps.size + 3) 0 = qs at SP hcut
  have zh2 : ∃ p0 pr, prs = p0 :: pr := by cases prs with | nil => cases hcut | cons a b => exact ⟨a, b, rfl⟩
  refine Mine.e2_1 zh2 ?_
  try clear zh2
  intro p0 pr zq3
  subst zq3
  have hq : qs = p0.2 :: flatP pr := by
    simp only [flatP, List.flatMap_cons, List.cons_append, List.nil_append, List.cons.injEq] at hcut ⊢
    exact hcut.2
  have hp00 : p0.1 = Str.ofString "" := by
    simp only [flatP, List.flatMap_cons, List.cons_append, List.nil_append, List.cons.injEq] at hcut
    exact hcut.1.symm
  subst hq
  have hn2 : p0.2.length ≠ 0 := hne p0 rfl
  have hg0 := hg p0 (.head _)
  cases SP with
  | cons _ tok0 SP =>
  rename_i pvr
  have hpl2 : pr.length ≤ 59 := by simp at hpl; lia
  have hlen : pvr.length = 2 * pr.length := by
    rw [SP.length, flatP_len]
  wtm_at "ss"
  refine xIf' ?_
  wtm_at "ss"
  refine rItem (by assumption) (by wtm_at "mem") (by decide) (by decide) rfl ?_ rfl
  rename_i D₅
  refine rTruS D₅ (by rw [sizeLine_eq]; have := hg0.1.2.1; lia) fun s₆ D₆ => ?_
  rw [if_pos (by simpa using hn2)]
  clear D₄ D₅
  wtm_at "ss"
  rename_i D₇
  have hne2 := (List.pairwise_cons.mp (List.pairwise_cons.mp D₇.led.ord).2).1 pl (by simp)
  refine rSetSlcL (xs := .str p0.2 tok0 :: pvr) D₇ (by wtm_at "rpe") (.head _) (.tail _ (.head _)) .none (.int _ _) (by simp; lia) (by simp) hne2.symm (slc_head _ _) ?_
  intro s₈ D₈
  clear D₆ D₇
  have zh4 : ∃ m₉ t₉, m₉ (Str.ofString "self") = some (.ref f) ∧ m₉ (Str.ofString "parts") = some (.ref pl) ∧ St z g₁ L' m₉ ((pl, isLst (.str (Str.ofString "") t₉ :: .str p0.2 tok0 :: pvr)) :: up ++ (a, isAcc ad []) :: (ad, isDct w.params [(Str.ofString "_initial_size", .int k t)]) :: (la, isLst []) :: (f, isVf fd) :: (fd, isDct w.params (vfK mx sp la a t1 t2 t3 t4)) :: lo) s₈ := ⟨_, _, by wtm_at "mget", by wtm_at "mget", D₈.sub (.cons _ (.cons _ (List.Sublist.refl _)))⟩
  refine Mine.e2_2 zh4 ?_
  try clear zh4
  intro m₉ t₉ hm₉ D₉
  obtain ⟨hmp, D₉⟩ := D₉
  clear D₈
  wtm_at "s1"
  wtm_at "s1"
  wtm_at "s1"
  wtm_at "s1"
  wtm_at "s1"
  refine rStarT D₉ ?_ (by kernel_rfl)
  wtm_at "ss"
  refine rIterL D₉ (.head _) ?_
  intro it s₁₀ D₁₀
  wtm_at "ss"
  refine rMul2 (v := .ref it) (by assumption) (.head _) ?_
  intro l2 s₁₁ D₁₁
  refine Mine.I4 l2 _ _ _ (Mine.a5 rfl D₁₁ (.head _) (by rw [sizeLine_eq]; simp) (fun s₁₂ D₁₂ => ?_))
  refine rZip1 (it := it) (l := pl) (k := 0) D₁₂ (.tail _ (.tail _ (.head _))) ?_
  intro zz TI TO s₁₃ D₁₃
  have D₁₄ : St z g₁ L' m₉ ([] ++ (zsE zz TO TI it pl 0 .none ++ ((pl, isLst (.str (Str.ofString "") t₉ :: .str p0.2 tok0 :: pvr)) :: up ++ (a, isAcc ad []) :: (ad, isDct w.params [(Str.ofString "_initial_size", .int k t)]) :: (la, isLst []) :: (f, isVf fd) :: (fd, isDct w.params (vfK mx sp la a t1 t2 t3 t4)) :: lo))) s₁₃ := by
    have hsb : ∀ {e1 e2 e3 e4 e5 e6 : Ent} {l : List Ent}, (e1 :: e2 :: e3 :: e6 :: l).Sublist (e1 :: e2 :: e3 :: e4 :: e5 :: e6 :: l) := .cons_cons _ (.cons_cons _ (.cons_cons _ (.cons _ (.cons _ (List.Sublist.refl _)))))
    have D₀ := D₁₃.sub hsb
    exact D₀
  clear D₉ D₁₀ D₁₁ D₁₂ D₁₃
  have hSP : StrsAre (.str (Str.ofString "") t₉ :: .str p0.2 tok0 :: pvr) (flatP (p0 :: pr)) := by
    show StrsAre _ (p0.1 :: p0.2 :: flatP pr)
    rw [hp00]
    exact .cons _ _ (.cons _ _ SP)
  refine iterZip (n := (p0 :: pr).length) (vs := .str (Str.ofString "") t₉ :: .str p0.2 tok0 :: pvr) (fun i m' U W => m' (Str.ofString "self") = some (.ref f) ∧ ∃ vs' ps' k' t' lvs' ls', Steps b mx k ((p0 :: pr).take i) k' ps' ls' ∧ Prs U vs' ps' ∧ Lns lvs' ls' ∧ W = (pl, isLst (.str (Str.ofString "") t₉ :: .str p0.2 tok0 :: pvr)) :: up ++ (a, isAcc ad vs') :: (ad, isDct w.params [(Str.ofString "_initial_size", .int k' t')]) :: (la, isLst lvs') :: (f, isVf fd) :: (fd, isDct w.params (vfK mx sp la a t1 t2 t3 t4)) :: lo)
    D₁₄ hh (by simp; lia) ⟨hm₉, [], [], k, t, [], [], .nil, .nil, ⟨[], .nil, rfl⟩, rfl⟩ (by rintro i m' U W ⟨_, _, _, _, _, _, _, _, _, _, rfl⟩; exact .head _) ?_ ?_
  · intro i m' U W T xv yv s' hi hxv hyv zh5 D'
    obtain ⟨hself, vs', ps', k', t', lvs', ls', hS, hP, hLn, rfl⟩ := zh5
    obtain ⟨p, hp⟩ : ∃ p, (p0 :: pr)[i]? = some p := ⟨_, List.getElem?_eq_getElem hi⟩
    refine Mine.e2_2 (strs_pair hSP hp) ?_
    intro tx' ty' e1 e2
    rw [e1] at hxv; cases hxv
    rw [e2] at hyv; cases hyv
    have hpm : p ∈ p0 :: pr := List.mem_of_getElem? hp
    refine Mine.e0_4 (hS.bounds (fun q hq => hg q (List.mem_of_mem_take hq))) ?_
    intro hS1 hS2 hS3 hS4
    have hti : ((p0 :: pr).take i).length ≤ 60 := by rw [List.length_take]; lia
    have D₂ : St z g₁ L' m' ((T, isTpl [.str p.1 tx', .str p.2 ty']) :: U ++ (zsE zz TO TI it pl (2 * i + 2) .none ++ ((pl, isLst (.str (Str.ofString "") t₉ :: .str p0.2 tok0 :: pvr)) :: up ++ (a, isAcc ad vs') :: (ad, isDct w.params [(Str.ofString "_initial_size", .int k' t')]) :: (la, isLst lvs') :: (f, isVf fd) :: (fd, isDct w.params (vfK mx sp la a t1 t2 t3 t4)) :: lo))) s' := St.weak D' (fun o h => ⟨0, h⟩)
    refine rAsgT D₂ hh (.head _) rfl rfl ?_
    intro s₁₅ D₁₅
    have D₁₆ : St z g₁ L' m' (((T, isTpl [.str p.1 tx', .str p.2 ty']) :: U ++ (zsE zz TO TI it pl (2 * i + 2) .none ++ (pl, isLst (.str (Str.ofString "") t₉ :: .str p0.2 tok0 :: pvr)) :: up)) ++ (a, isAcc ad vs') :: (ad, isDct w.params [(Str.ofString "_initial_size", .int k' t')]) :: (la, isLst lvs') :: (f, isVf fd) :: (fd, isDct w.params (vfK mx sp la a t1 t2 t3 t4)) :: lo) s₁₅ := by simpa only [List.cons_append, List.append_assoc] using D₁₅
    have hPu : Prs ((T, isTpl [.str p.1 tx', .str p.2 ty']) :: U ++ (zsE zz TO TI it pl (2 * i + 2) .none ++ (pl, isLst (.str (Str.ofString "") t₉ :: .str p0.2 tok0 :: pvr)) :: up)) vs' ps' := hP.mono fun a q h => List.mem_append_left _ (.tail _ h)
    generalize hup : (T, isTpl [.str p.1 tx', .str p.2 ty']) :: U ++ (zsE zz TO TI it pl (2 * i + 2) .none ++ (pl, isLst (.str (Str.ofString "") t₉ :: .str p0.2 tok0 :: pvr)) :: up) = up' at D₁₆ hPu
    clear D₂ D₁₅ D' D₁₄
    show wpAny _ _ (assignInOrder [assign (.Name _ _) env, assign (.Name _ _) env] _) _ _ _
    wtm_at "ss"
    have hlv : lvs'.length = ls'.length := hLn.length
    refine vf_chunk (b := b) (by assumption) B₁ hst htab htab2 (Nat.lt_of_lt_of_le hA' (by decide)) (by show A.units + 3 < 7000; lia) hh hPu (by rcases hS3 with h | h <;> rw [h] <;> lia) (by lia) hS4 (hg p hpm) hLn (by lia) hsp ?_ ?_
    · intro hb'
      refine ⟨(hb hb').1, fun hps => ?_⟩
      have hi0 : i ≠ 0 := by
        rintro rfl
        rw [List.take_zero] at hS1
        exact hps (List.length_eq_zero_iff.mp (by simpa using hS1))
      refine (hb hb').2 p ?_
      obtain ⟨j, rfl⟩ := Nat.exists_eq_succ_of_ne_zero hi0
      exact List.mem_of_getElem? (by simpa using hp)
    · intro T' q vs'' ps'' k'' t'' lvs'' ls'' s'' hStep hPr hLn' D''
      wtm_at "ss"
      subst hup
      have D₃ := D''
      simp only [List.cons_append, List.append_assoc, List.nil_append] at D₃
      have zh6 : ∃ m₃, St z g₁ L' m₃ (((T', isPr q) :: (T, isTpl [.str p.1 tx', .str p.2 ty']) :: U) ++ (zsE zz TO TI it pl (2 * i + 2) .none ++ ((pl, isLst (.str (Str.ofString "") t₉ :: .str p0.2 tok0 :: pvr)) :: up ++ (a, isAcc ad vs'') :: (ad, isDct w.params [(Str.ofString "_initial_size", .int k'' t'')]) :: (la, isLst lvs'') :: (f, isVf fd) :: (fd, isDct w.params (vfK mx sp la a t1 t2 t3 t4)) :: lo))) s'' ∧ m₃ (Str.ofString "self") = some (.ref f) := ⟨_, D₃, by wtm_at "mget"⟩
      refine Mine.e1_2 zh6 ?_
      try clear zh6
      intro m₃ D₃ hm₃
      refine turn_next (Mine.I3 m₃ _ _ (Mine.a2 ⟨hm₃, vs'', ps'', k'', t'', lvs'', ls'', ?_, hPr _ (hP.mono fun a q h => .tail _ h), hLn', rfl⟩ D₃))
      · have e : (p0 :: pr).take (i + 1) = (p0 :: pr).take i ++ [p] := by rw [List.take_add_one, hp]; rfl
        rw [e]
        exact hS.snoc hStep
  · intro m' U W s' zh7 D'
    obtain ⟨hself, vs', ps', k', t', lvs', ls', hS, hP, hLn, rfl⟩ := zh7
    clear D₁₄
    wtm_at "ss"
    rw [List.take_length] at hS
    refine kk (U ++ (pl, isLst (.str (Str.ofString "") t₉ :: .str p0.2 tok0 :: pvr)) :: up) vs' ps' k' t' lvs' ls' _ hS (hP.mono fun a q h => List.mem_append_left _ h) hLn ?_
    have := back _ _ _ D'
    simpa only [List.cons_append, List.append_assoc] using this
end Mine
end

section
open PySem PySem.W PySem.W.X PyProof.Rows PySem.Calls
set_option maxHeartbeats 4000000
namespace Mine
/- ## _ValueFormatter: _str -/
theorem vf_str {w : World} {z s : Shared} {h₀ : Heap} {L : Addr} {A : Around} {E : Value → Shared → Prop} {Q : Value → Shared → Prop} {m : Str → Option Value} {up lo : List Ent} {a ad la f fd : Addr} {mx : Int} {sp : Str} {t1 t2 t3 t4 : Tok} {vs lvs : List Value} {ps : List (Str × Str)} {ls : List (List Nat)} {k : Int} {t tn : Tok}
  (D : St z h₀ L m (up ++ (a, isAcc ad vs) :: (ad, isDct w.params [(Str.ofString "_initial_size", .int k t)]) :: (la, isLst lvs) :: (f, isVf fd) :: (fd, isDct w.params (vfK mx sp la a t1 t2 t3 t4)) :: lo) s) (B : Gd w h₀) (hst : (cStatics, isStat z) ∈ lo) (htab : (182, isTab) ∈ lo) (htab2 : (189, isTab) ∈ lo) (hA : A.depth < 442) (hU : A.units < 6900) (hh : A.handled = none)
  (hp : Prs up vs ps) (hk : 0 ≤ k ∧ k ≤ 1000) (hps : ps.length ≤ 80) (hg : ∀ p ∈ ps, GoodP p) (hls : Lns lvs ls) (hlv : lvs.length ≤ 90) (hpos : 0 < k + lenP ps) (hsz : ((ls ++ [strL ps]).map List.length).sum ≤ 200000)
  (kk : ∀ t' lvs' y ty ys s', ys.map (·.cps.toList) = ls ++ [strL ps] → y = Txt.join (Str.ofString "\n") ys → St z h₀ L m (up ++ (a, isAcc ad []) :: (ad, isDct w.params [(Str.ofString "_initial_size", .int 0 t')]) :: (la, isLst lvs') :: (f, isVf fd) :: (fd, isDct w.params (vfK mx sp la a t1 t2 t3 t4)) :: lo) s' → Q (.str y ty) s') :
  wpAny (model PySem.Challenge.rw_ny0227_01.row.prog w) A (call (.ref 84) [.ref f, .str (Str.ofString "\n") tn]) Q E s := by
  have X : hd.heap_1 w.params = hd.heap_1 w.params := rfl
  revert X
  k_fill
  intro X; clear X
  refine' enter (binds := [(Str.ofString "self", .ref f), (Str.ofString "linesep", .str (Str.ofString "\n") tn)]) D B (memU (.tail _ (.tail _ (.tail _ (.tail _ (.tail _ hst)))))) ?ho ?hcd (Nat.lt_trans hA (by decide)) ?hb ?hc ?hl ?c1 ?c2 ?c3 ?_
  case ho => k_is
  case hcd => k_is
  case hb => exact BindsTo.of_eq (by kernel_rfl)
  case hc => kernel_rfl
  case hl => kernel_rfl
  case c1 => kernel_rfl
  case c2 => kernel_rfl
  case c3 => kernel_rfl
  intro g₁ L' s₁ env D₁ B₁ hE hEq back
  replace hh : (A.deeper env).handled = none := hh
  have hA' : (A.deeper env).depth < 443 := Nat.succ_lt_succ hA
  dsimp only [bm] at D₁
  clear hEq
  wtm_at "ss"
  refine vf_newline (by assumption) B₁ hst htab htab2 (Nat.lt_of_lt_of_le hA' (by decide)) (by show A.units + 3 < 8000; lia) hh hp hk (by lia) hg (by lia) ?_
  intro lvs' t' s₂ hnl D₂
  obtain ⟨ys, hya, hys⟩ : Lns lvs' (ls ++ [strL ps]) := by
    rcases hnl with ⟨_, yv, tv, rfl, hyv⟩ | ⟨h0, _⟩
    · rw [← hyv]; exact hls.snoc
    · lia
  wtm_at "ss"
  have hle : ys.map (·.length) = (ls ++ [strL ps]).map List.length := by rw [← hys, List.map_map]; rfl
  have hyl : ys.length = ls.length + 1 := by have := congrArg List.length hys; simpa using this
  have hll := hls.length
  have hok : JoinOk (Str.ofString "\n") ys = true := by
    refine joinOk_of (n := 300000) ?_ (by decide)
    rw [hle, hyl, show (Str.ofString "\n").length = 1 from by decide +kernel]
    lia
  refine rJoin (by assumption) (by wtm_at "mem") hya hok ?_
  intro ty s₃ D₃
  wtm_at "ss"
  exact kk t' lvs' _ ty ys _ hys rfl (back _ _ _ D₃)
end Mine
end

section
open PySem PySem.W PySem.W.X PyProof.Rows PySem.Calls
set_option maxHeartbeats 4000000
namespace Mine
/- ## _law_fold -/
theorem strL_app (a b : List (Str × Str)) : strL (a ++ b) = strL a ++ strL b := by unfold strL; rw [List.flatMap_append]
theorem strL_one (p : Str × Str) : (strL [p]).length = p.1.cps.toList.length + p.2.cps.toList.length := by unfold strL; simp
theorem Steps.total {b : Bool} {mx k k' : Int} {prs ps : List (Str × Str)} {ls : List (List Nat)} (h : Steps b mx k prs k' ps ls) (hg : ∀ p ∈ prs, GoodP p) : (ls.map List.length).sum + (strL ps).length ≤ prs.length * 2001 := by
  induction h with
  | nil => decide
  | snoc hS hR ih =>
    rename_i prs ps ps' k' k'' ls ls' p
    have i1 := ih fun q hq => hg q (List.mem_append_left _ hq)
    have hp := (hg p (by simp)).1
    have g1 : p.1.cps.toList.length ≤ 1000 := hp.1
    have g2 : p.2.cps.toList.length ≤ 1000 := hp.2.1
    have o1 := strL_one p
    have e1 : (strL (ps ++ [p])).length = (strL ps).length + (strL [p]).length := by rw [strL_app, List.length_append]
    simp only [List.length_append, List.length_cons, List.length_nil]
    rcases hR with ⟨_, rfl, rfl, rfl⟩ | ⟨_, rfl, i, h0, h1, _, rfl, rfl⟩ | ⟨_, _, rfl, rfl, rfl, rfl⟩ | ⟨_, _, _, rfl, rfl, rfl⟩
    · lia
    · have e2 : (strL (ps ++ [p])).length = (strL ((ps ++ [p]).take i)).length + (strL ((ps ++ [p]).drop i)).length := by rw [← List.length_append, ← strL_app, List.take_append_drop]
      simp only [List.map_append, List.map_cons, List.map_nil, List.sum_append, List.sum_cons, List.sum_nil]
      lia
    · lia
    · have o2 := strL_one ((if p.1.length = 0 then Str.ofString " " else p.1), p.2)
      have o3 : (if p.1.length = 0 then Str.ofString " " else p.1).cps.toList.length ≤ 1000 := by
        split
        · decide +kernel
        · exact g1
      simp only [List.map_append, List.map_cons, List.map_nil, List.sum_append, List.sum_cons, List.sum_nil]
      dsimp only at o2
      lia
theorem Steps.ne {b : Bool} {mx k k' : Int} {prs ps : List (Str × Str)} {ls : List (List Nat)} (h : Steps b mx k prs k' ps ls) (h0 : prs ≠ []) : ps ≠ [] := by
  cases h with
  | nil => exact absurd rfl h0
  | snoc _ hR =>
    rcases hR with ⟨_, rfl, rfl, rfl⟩ | ⟨_, rfl, i, h0, h1, _, rfl, rfl⟩ | ⟨_, _, rfl, rfl, rfl, rfl⟩ | ⟨_, _, _, rfl, rfl, rfl⟩
    · simp
    · intro q
      have := congrArg List.length q
      simp at this; lia
    · simp
    · simp
theorem lenP_pos {ps : List (Str × Str)} (h0 : ps ≠ []) (hg : ∀ p ∈ ps, GoodP p) : 0 < lenP ps := by
  cases ps with
  | nil => exact absurd rfl h0
  | cons p r =>
    obtain ⟨_, c, hc, _⟩ := hg p (.head _)
    have := List.length_pos_of_mem hc
    rw [lenP_strL]
    unfold strL
    rw [List.flatMap_cons, List.length_append, List.length_append]
    lia
theorem fold_call {w : World} {z s : Shared} {h₀ : Heap} {L : Addr} {A : Around} {E : Value → Shared → Prop} {Q : Value → Shared → Prop} {m : Str → Option Value} {lo : List Ent} {b : Bool} {prs : List (Str × Str)} {head mx : Int} {tt th tw ts : Tok} {x sp : Str}
  (D : St z h₀ L m lo s) (B : Gd w h₀) (hst : (cStatics, isStat z) ∈ lo) (htab : (182, isTab) ∈ lo) (htab2 : (189, isTab) ∈ lo) (hA : A.depth < 440) (hU : A.units < 6800) (hh : A.handled = none)
  (hk : 0 ≤ head ∧ head ≤ 1000) (hsp : sp.cps.all (· < 128) = true) (hx : x.cps.size ≤ 1000)
  (hcut : Str.ofString "" :: cut (tkB x.cps) x.cps (2 * x.cps.size + 3) 0 = flatP prs) (hne : ∀ p, prs[0]? = some p → p.2.length ≠ 0) (hpl : prs.length ≤ 60) (hg : ∀ p ∈ prs, GoodP p)
  (hb : b = true → sp = Str.ofString " " ∧ ∀ p ∈ prs.tail, ∃ r, p.1.cps.toList = 32 :: r)
  (kk : ∀ U l vs k' ps' ls' ys s', Steps b mx head prs k' ps' ls' → ys.map (·.cps.toList) = ls' ++ [strL ps'] → StrsAre vs (Txt.split (Txt.join (Str.ofString "\n") ys) (Str.ofString "\n")) → St z h₀ L m ((l, isLst vs) :: U ++ lo) s' → Q (.ref l) s') :
  wpAny (model PySem.Challenge.rw_ny0227_01.row.prog w) A (call (.ref 252) [.str x tt, .int head th, .int mx tw, .str sp ts]) Q E s := by
  have X : hd.heap_1 w.params = hd.heap_1 w.params := rfl
  revert X
  k_fill
  intro X; clear X
  refine' enter (binds := [(Str.ofString "text", .str x tt), (Str.ofString "head", .int head th), (Str.ofString "width", .int mx tw), (Str.ofString "signs", .str sp ts)]) D B hst ?ho ?hcd (Nat.lt_trans hA (by decide)) ?hb ?hc ?hl ?c1 ?c2 ?c3 ?_
  case ho => k_is
  case hcd => k_is
  case hb => exact BindsTo.of_eq (by kernel_rfl)
  case hc => kernel_rfl
  case hl => kernel_rfl
  case c1 => kernel_rfl
  case c2 => kernel_rfl
  case c3 => kernel_rfl
  intro g₁ L' s₁ env D₁ B₁ hE hEq back
  replace hh : (A.deeper env).handled = none := hh
  have hA' : (A.deeper env).depth < 441 := Nat.succ_lt_succ hA
  dsimp only [bm] at D₁
  clear hEq
  wtm_at "ss"
  refine rMakeV (by assumption) B₁ ?_
  intro A' f fd s₂ hd' hh' D₂
  refine vf_init D₂ B₁ hst (by rw [hd']; exact Nat.lt_of_lt_of_le (Nat.succ_lt_succ hA') (by decide)) (hh'.trans hh) ?_
  intro a ad la t3 s₃ D₃
  clear D₂
  wtm_at "ss"
  refine vf_split (up := []) (b := b) (by assumption) B₁ hst htab htab2 (Nat.lt_of_lt_of_le hA' (by decide)) (by show A.units + 3 < 6900; lia) hh hk hsp hx hcut hne hpl hg hb ?_
  intro U vs' ps' k' t' lvs' ls' s₄ hS hP hLn D₄
  clear D₃
  wtm_at "ss"
  have hb' := hS.bounds hg
  have htot := hS.total hg
  have hprs : prs ≠ [] := fun q => by rw [q] at hcut; cases hcut
  have hps := hS.ne hprs
  have hpos := lenP_pos hps hb'.2.2.2
  have hk' : 0 ≤ k' ∧ k' ≤ 1000 := by rcases hb'.2.2.1 with e | e <;> rw [e] <;> lia
  have hlv := hLn.length
  have hsum : ((ls' ++ [strL ps']).map List.length).sum = (ls'.map List.length).sum + (strL ps').length := by simp
  refine vf_str (up := U) (by assumption) B₁ hst htab htab2 (Nat.lt_of_lt_of_le hA' (by decide)) (by show A.units + 3 < 6900; lia) hh hP hk' (by lia) hb'.2.2.2 hLn (by lia) (by lia) (by rw [hsum]; lia) ?_
  intro t'' lvs'' y ty ys s₅ hys hy D₅
  subst hy
  clear D₄
  wtm_at "ss"
  have hyl : ys.length = ls'.length + 1 := by have := congrArg List.length hys; simpa using this
  have hle : ys.map (·.length) = (ls' ++ [strL ps']).map List.length := by rw [← hys, List.map_map]; rfl
  have hjl := join_len (Str.ofString "\n") ys
  rw [hle, hsum, hyl, show (Str.ofString "\n").length = 1 from by decide +kernel] at hjl
  refine rSplitS (by assumption) (by decide +kernel) (by lia) ?_
  intro l vs s₆ hvs D₆
  wtm_at "ss"
  exact kk U l vs k' ps' ls' ys _ hS hys hvs (back _ _ _ (D₆.sub (by wtm_at "subl")))
end Mine
end

section
open PySem PyProof.Rows
namespace Mine
open Builtin Builtin.Str StrLaws
/- ## the lines of a fold: groups of pairs -/
noncomputable abbrev Pr := Str × Str
noncomputable def fixH (mx k : Int) : List Pr → List Pr
  | [] => []
  | p :: r => (if 0 < k ∧ mx < k + lenP [p] ∧ p.1.length = 0 then (Str.ofString " ", p.2) else p) :: r
theorem fixH_snoc {mx k : Int} {prs : List Pr} (h : prs ≠ []) (p : Pr) : fixH mx k (prs ++ [p]) = fixH mx k prs ++ [p] := by
  cases prs with
  | nil => exact absurd rfl h
  | cons a r => rfl
theorem fixH_one (mx k : Int) (p : Pr) : fixH mx k [p] = [if 0 < k ∧ mx < k + lenP [p] ∧ p.1.length = 0 then (Str.ofString " ", p.2) else p] := rfl
theorem strL_app' (a b : List Pr) : strL (a ++ b) = strL a ++ strL b := by unfold strL; rw [List.flatMap_append]
theorem strL_flat (gr : List (List Pr)) : (gr.map strL).flatten = strL gr.flatten := by
  induction gr with
  | nil => rfl
  | cons g r ih => rw [List.map_cons, List.flatten_cons, List.flatten_cons, strL_app', ih]
theorem Steps.groups {b : Bool} {mx k k' : Int} {prs ps : List Pr} {ls : List (List Nat)} (h : Steps b mx k prs k' ps ls) (ht : ∀ p ∈ prs.tail, p.1.length ≠ 0) :
    (prs = [] → k' = k ∧ ps = [] ∧ ls = []) ∧ (prs ≠ [] → ps ≠ []) ∧ ∃ gr : List (List Pr), ls = gr.map strL ∧ gr.flatten ++ ps = fixH mx k prs := by
  induction h with
  | nil => exact ⟨fun _ => ⟨rfl, rfl, rfl⟩, fun h => absurd rfl h, [], rfl, rfl⟩
  | snoc hS hR ih =>
    rename_i prs ps ps' k' k'' ls ls' p
    obtain ⟨i1, i2, gr, rfl, i3⟩ := ih fun q hq => ht q (by
      cases prs with
      | nil => cases hq
      | cons a r => simp only [List.cons_append, List.tail_cons] at hq ⊢; exact List.mem_append_left _ hq)
    refine ⟨fun q => by simp at q, fun _ => ?_, ?_⟩
    · rcases hR with ⟨_, rfl, rfl, rfl⟩ | ⟨_, rfl, i, h0, h1, _, rfl, rfl⟩ | ⟨_, _, rfl, rfl, rfl, rfl⟩ | ⟨_, _, _, rfl, rfl, rfl⟩
      · simp
      · intro q
        have := congrArg List.length q
        simp at this; lia
      · simp
      · simp
    by_cases hp : prs = []
    · subst hp
      refine Mine.e0_3 (i1 rfl) ?_
      intro zq1 zq2 e
      subst zq1
      subst zq2
      have e : gr = [] := by simpa using e
      subst e
      simp only [List.nil_append, List.map_nil] at hR ⊢
      rw [fixH_one]
      rcases hR with ⟨h1, rfl, rfl, rfl⟩ | ⟨_, rfl, i, h0, h1, _, rfl, rfl⟩ | ⟨_, _, rfl, rfl, rfl, rfl⟩ | ⟨h1, _, h2, rfl, rfl, rfl⟩
      · refine ⟨[], rfl, ?_⟩
        rw [if_neg (fun q => by have := q.2.1; simp only [List.nil_append] at h1; lia)]; rfl
      · simp at h1; lia
      · refine ⟨[], rfl, ?_⟩
        rw [if_neg (fun q => by have := q.1; lia)]; rfl
      · refine ⟨[[]], rfl, ?_⟩
        by_cases h0 : p.1.length = 0
        · rw [if_pos h0, if_pos ⟨h2, h1, h0⟩]; rfl
        · rw [if_neg h0, if_neg (fun q => h0 q.2.2)]; rfl
    · rw [fixH_snoc hp, ← i3]
      have p0 : p.1.length ≠ 0 := ht p (by
        cases prs with
        | nil => exact absurd rfl hp
        | cons a r => simp)
      rcases hR with ⟨_, rfl, rfl, rfl⟩ | ⟨_, rfl, i, h0, h1, _, rfl, rfl⟩ | ⟨_, _, rfl, rfl, rfl, rfl⟩ | ⟨_, _, _, rfl, rfl, rfl⟩
      · exact ⟨gr, rfl, by simp⟩
      · refine ⟨gr ++ [(ps ++ [p]).take i], by simp, ?_⟩
        rw [List.flatten_append, List.append_assoc, List.append_assoc]
        congr 1
        simp only [List.flatten_cons, List.flatten_nil, List.append_nil]
        exact List.take_append_drop _ _
      · exact ⟨gr, rfl, by simp⟩
      · refine ⟨gr ++ [ps], by simp, ?_⟩
        rw [if_neg p0]
        simp
/- ## the ranks of the lines -/
theorem G_bl (a r : List Nat) (h : ∀ c ∈ a, c = 32) : G (a ++ r) = G r := by
  induction a with
  | nil => rfl
  | cons c t ih => rw [List.cons_append, h c (.head _), G_cons _ (by decide), ih fun x hx => h x (.tail _ hx)]
theorem G_group : ∀ (g : List Pr), (∀ p ∈ g, ∀ c ∈ p.1.cps.toList, c = 32) → (∀ p ∈ g.tail, p.1.cps.toList ≠ []) → G (strL g) = g.flatMap fun p => G p.2.cps.toList
  | [], _, _ => G_nil
  | [p], h, _ => by
    show G (p.1.cps.toList ++ p.2.cps.toList ++ []) = _
    rw [List.append_nil, G_bl _ _ (h p (.head _))]; simp
  | p :: q :: r, h, ht => by
    have ih := G_group (q :: r) (fun x hx => h x (.tail _ hx)) (fun x hx => ht x (.tail _ hx))
    refine Mine.e2_1 (List.exists_cons_of_ne_nil (ht q (.head _))) ?_
    intro c t e
    have hc : c = 32 := h q (.tail _ (.head _)) c (by rw [e]; exact .head _)
    subst hc
    have e2 : strL (q :: r) = 32 :: (t ++ q.2.cps.toList ++ strL r) := by
      show q.1.cps.toList ++ q.2.cps.toList ++ strL r = _
      rw [e]; simp
    rw [List.flatMap_cons, ← ih]
    show G (p.1.cps.toList ++ p.2.cps.toList ++ strL (q :: r)) = _
    rw [List.append_assoc, G_bl _ _ (h p (.head _)), e2, G_sep _ _ (by decide), G_cons _ (by decide)]
theorem G_groups : ∀ (grs : List (List Pr)), (∀ p ∈ grs.flatten, ∀ c ∈ p.1.cps.toList, c = 32) → (∀ p ∈ grs.flatten.tail, p.1.cps.toList ≠ []) → (grs.map strL).flatMap G = grs.flatten.flatMap fun p => G p.2.cps.toList
  | [], _, _ => rfl
  | g :: grs, h, ht => by
    rw [List.map_cons, List.flatMap_cons, List.flatten_cons, List.flatMap_append]
    have hg : ∀ p ∈ g.tail, p.1.cps.toList ≠ [] := fun p hp => ht p (by
      cases g with
      | nil => cases hp
      | cons a r => simp only [List.flatten_cons, List.cons_append, List.tail_cons] at hp ⊢; exact List.mem_append_left _ hp)
    rw [G_group g (fun p hp => h p (by rw [List.flatten_cons]; exact List.mem_append_left _ hp)) hg]
    rw [G_groups grs (fun p hp => h p (by rw [List.flatten_cons]; exact List.mem_append_right _ hp)) fun p hp => ht p (by
      cases g with
      | nil => exact hp
      | cons a r => simp only [List.flatten_cons, List.cons_append, List.tail_cons]; exact List.mem_append_right _ (List.mem_of_mem_tail hp))]
theorem fixH_G (mx k : Int) (prs : List Pr) : (fixH mx k prs).flatMap (fun p => G p.2.cps.toList) = prs.flatMap fun p => G p.2.cps.toList := by
  cases prs with
  | nil => rfl
  | cons p r =>
    unfold fixH
    rw [List.flatMap_cons, List.flatMap_cons]
    split <;> rfl
theorem fixH_bl (mx k : Int) {prs : List Pr} (h : ∀ p ∈ prs, ∀ c ∈ p.1.cps.toList, c = 32) : ∀ p ∈ fixH mx k prs, ∀ c ∈ p.1.cps.toList, c = 32 := by
  cases prs with
  | nil => exact h
  | cons p r =>
    intro q hq c hc
    unfold fixH at hq
    rcases List.mem_cons.mp hq with rfl | hq
    · split at hc
      · have e : (Str.ofString " ").cps.toList = [32] := by decide +kernel
        rw [show ((Str.ofString " ", p.2) : Pr).1 = Str.ofString " " from rfl, e] at hc
        simpa using hc
      · exact h p (.head _) c hc
    · exact h q (.tail _ hq) c hc
theorem fixH_tail (mx k : Int) (prs : List Pr) : (fixH mx k prs).tail = prs.tail := by cases prs <;> rfl
theorem ranksOf_F (x : Str) : ranksOf x = F (rm x.cps.toList) := by
  unfold ranksOf F S0
  rw [Str.cps_append, Array.toList_append, joinsplit_rm]
  rfl
/- ## cut at blanks: the law's rows -/
inductive Fw (b : Bool) (mx : Int) : Int → List Pr → List (List Nat) → List Pr → Int → List Pr → List (List Nat) → Prop
  | nil {k : Int} {ps : List Pr} {ls : List (List Nat)} : Fw b mx k ps ls [] k ps ls
  | cons {k k1 k' : Int} {ps ps1 ps' : List Pr} {ls ls1 ls' : List (List Nat)} {p : Pr} {r : List Pr} : StepR b mx k ps ls p k1 ps1 ls1 → Fw b mx k1 ps1 ls1 r k' ps' ls' → Fw b mx k ps ls (p :: r) k' ps' ls'
theorem Fw.snoc {b : Bool} {mx k k1 k' : Int} {ps ps1 ps' : List Pr} {ls ls1 ls' : List (List Nat)} {p : Pr} {r : List Pr} (h : Fw b mx k ps ls r k1 ps1 ls1) (hR : StepR b mx k1 ps1 ls1 p k' ps' ls') : Fw b mx k ps ls (r ++ [p]) k' ps' ls' := by
  induction h with
  | nil => exact .cons hR .nil
  | cons h1 _ ih => exact .cons h1 (ih hR)
theorem Steps.fw {b : Bool} {mx k k' : Int} {prs ps : List Pr} {ls : List (List Nat)} (h : Steps b mx k prs k' ps ls) : Fw b mx k [] [] prs k' ps ls := by
  induction h with
  | nil => exact .nil
  | snoc _ hR ih => exact ih.snoc hR
noncomputable def prOf (q : Int × Str) : Pr := (blk q.1.toNat, q.2)
theorem Fw.nilI {b : Bool} {mx k k' : Int} {ps ps' : List Pr} {ls ls' : List (List Nat)} (h : Fw b mx k ps ls [] k' ps' ls') : k' = k ∧ ps' = ps ∧ ls' = ls := by
  cases h; exact ⟨rfl, rfl, rfl⟩
theorem Fw.consI {b : Bool} {mx k k' : Int} {ps ps' : List Pr} {ls ls' : List (List Nat)} {p : Pr} {r : List Pr} (h : Fw b mx k ps ls (p :: r) k' ps' ls') : ∃ k1 ps1 ls1, StepR b mx k ps ls p k1 ps1 ls1 ∧ Fw b mx k1 ps1 ls1 r k' ps' ls' := by
  cases h with
  | cons a b => exact ⟨_, _, _, a, b⟩
theorem Rows.nilI {width room : Int} {rows : List Str} (h : Rows width room [] rows) : rows = [] := by
  cases h; rfl
theorem Rows.consI {width room g : Int} {w : Str} {r : List (Int × Str)} {rows : List Str} (h : Rows width room ((g, w) :: r) rows) : ∃ row rest rows', rows = row :: rows' ∧ growRow room (blk g.toNat ++ w) r = (row, rest) ∧ Rows width width rest rows' := by
  cases h with
  | cons a b => exact ⟨_, _, _, rfl, a, b⟩
theorem grow_rows {mx : Int} (r : List (Int × Str)) : ∀ (k : Int) (ps : List Pr) (ls : List (List Nat)) (row : Str) (k' : Int) (ps' : List Pr) (ls' : List (List Nat)) (row' : Str) (rest : List (Int × Str)) (rows : List Str), ps ≠ [] → (∀ q ∈ r, 0 ≤ q.1) →
    Fw true mx k ps ls (r.map prOf) k' ps' ls' → row.cps.toList = strL ps → growRow (mx - k) row r = (row', rest) → Rows mx mx rest rows → ls' ++ [strL ps'] = ls ++ (row' :: rows).map (·.cps.toList) := by
  induction r with
  | nil =>
    intro k ps ls row k' ps' ls' row' rest rows h0 hg hF hrow hG hR
    obtain ⟨rfl, rfl, rfl⟩ := Fw.nilI hF
    rw [growRow] at hG
    obtain ⟨rfl, rfl⟩ := Prod.mk.inj hG
    obtain rfl := Rows.nilI hR
    rw [List.map_cons, hrow]; rfl
  | cons gw r ih =>
    obtain ⟨g, w⟩ := gw
    intro k ps ls row k' ps' ls' row' rest rows h0 hg hF hrow hG hR
    have g0 : 0 ≤ g := hg _ (.head _)
    rw [List.map_cons] at hF
    obtain ⟨k1, ps1, ls1, hS, hF2⟩ := Fw.consI hF; clear hF
    have el : lenP (ps ++ [prOf (g, w)]) = (row.length : Int) + g + w.length := by
      rw [lenP_strL, strL_app', List.length_append, ← hrow, len_toList row, len_toList w]
      have : (strL [prOf (g, w)]).length = (blk g.toNat).length + w.length := by
        unfold strL prOf
        simp [Str.length]
      rw [this, blk_len, len_toList w]
      lia
    have ea : (row ++ blk g.toNat ++ w).cps.toList = strL (ps ++ [prOf (g, w)]) := by
      rw [strL_app', Str.cps_append, Str.cps_append, Array.toList_append, Array.toList_append, hrow]
      unfold strL prOf
      simp
    have eb : (blk g.toNat ++ w).cps.toList = strL [prOf (g, w)] := by
      rw [Str.cps_append, Array.toList_append]
      unfold strL prOf
      simp
    rcases hS with ⟨h1, rfl, rfl, rfl⟩ | ⟨h1, rfl, i, hi0, hi1, hb, rfl, rfl⟩ | ⟨_, hb, _⟩ | ⟨_, hb, _⟩
    · rw [growRow, if_pos (by lia)] at hG
      exact ih _ _ _ _ _ _ _ _ _ _ (by simp) (fun q hq => hg q (.tail _ hq)) hF2 ea hG hR
    · rw [growRow, if_neg (by lia)] at hG
      obtain ⟨rfl, rfl⟩ := Prod.mk.inj hG
      have hb := hb rfl
      subst hb
      rw [List.drop_left] at hF2
      rw [List.take_left] at hF2
      obtain ⟨row2, rest2, rows2, rfl, hG2, hR2⟩ := Rows.consI hR
      rw [show mx = mx - 0 by lia] at hG2
      have := ih _ _ _ _ _ _ _ _ _ _ (by simp) (fun q hq => hg q (.tail _ hq)) hF2 eb hG2 hR2
      rw [this, List.map_cons, List.map_cons, List.map_cons, hrow]
      simp
    · exact absurd (hb rfl) h0
    · exact absurd (hb rfl) h0
/- the lines are the rows -/
theorem rows_lines {mx head : Int} {w0 : Str} {ws : List Str} {gs : List Int} {rows : List Str} {k' : Int} {ps' : List Pr} {ls' : List (List Nat)} (hg : ∀ g ∈ gs, 0 ≤ g) (hR : RowsOf (w0 :: ws) (0 :: gs) head mx rows)
    (hS : Steps true mx head (((0, w0) :: gs.zip ws).map prOf) k' ps' ls') : ls' ++ [strL ps'] = rows.map (·.cps.toList) := by
  have hq : ∀ q ∈ gs.zip ws, 0 ≤ q.1 := fun q hq => hg _ (List.of_mem_zip hq).1
  have hF := hS.fw
  rw [List.map_cons] at hF
  obtain ⟨k1, ps1, ls1, hS0, hF2⟩ := Fw.consI hF; clear hF
  have el : lenP ([] ++ [prOf (0, w0)]) = w0.length := by
    rw [lenP_strL]
    unfold strL prOf
    simp [Str.length, blk]
  have eb : (blk (0 : Int).toNat ++ w0).cps.toList = strL [prOf (0, w0)] := by
    rw [Str.cps_append, Array.toList_append]
    unfold strL prOf
    simp
  have e1 : (blk (1 : Int).toNat ++ w0).cps.toList = strL [(Str.ofString " ", w0)] := by
    rw [Str.cps_append, Array.toList_append]
    unfold strL
    have e : (Str.ofString " ").cps.toList = [32] := by decide +kernel
    have e' : (blk (1 : Int).toNat).cps.toList = [32] := by decide +kernel
    simp only [List.flatMap_cons, List.flatMap_nil, List.append_nil, e]
    show (blk 1).cps.toList ++ _ = _
    rw [show (blk 1).cps.toList = [32] from by decide +kernel]
  unfold RowsOf at hR
  rcases hS0 with ⟨h1, rfl, rfl, rfl⟩ | ⟨h1, rfl, i, hi0, hi1, hb, rfl, rfl⟩ | ⟨_, hb, rfl, rfl, rfl, rfl⟩ | ⟨h1, hb, h2, rfl, rfl, rfl⟩
  · rw [if_neg (by simp only [List.headD_cons]; lia)] at hR
    rw [List.zip_cons_cons] at hR
    obtain ⟨row2, rest2, rows2, rfl, hG, hR⟩ := Rows.consI hR
    exact grow_rows _ _ _ _ _ _ _ _ _ _ _ (by simp) hq hF2 eb hG hR
  · simp at hi1; lia
  · rw [if_neg (by lia)] at hR
    rw [List.zip_cons_cons] at hR
    obtain ⟨row2, rest2, rows2, rfl, hG, hR⟩ := Rows.consI hR
    exact grow_rows _ _ _ _ _ _ _ _ _ _ _ (by simp) hq hF2 eb hG hR
  · rw [if_pos ⟨h2, by simp only [List.headD_cons]; lia⟩] at hR
    refine Mine.e1_2 hR ?_
    try clear hR
    intro r zq3 hR
    subst zq3
    simp only [List.drop_succ_cons, List.drop_zero, List.zip_cons_cons] at hR
    have ez : (prOf (0, w0)).1.length = 0 := blk_len 0
    rw [if_pos ez] at hF2
    obtain ⟨row2, rest2, rows2, rfl, hG, hR⟩ := Rows.consI hR
    rw [show mx = mx - 0 by lia] at hG
    have := grow_rows _ _ _ _ _ _ _ _ _ _ _ (by simp) hq hF2 e1 hG hR
    rw [this]
    have e : (Str.ofString "").cps.toList = [] := by decide +kernel
    simp [strL, e]
end Mine
end

section
open PySem PyProof.Rows
namespace Mine
open Builtin Builtin.Str StrLaws
/- ## the words and gaps of a script -/
noncomputable def wCh (c : Nat) : Bool := isDg c || (isLet c && decide (c < 128)) || decide (c ∈ [46, 45, 43, 95, 47, 92, 40, 58, 34, 59, 41])
theorem wCh_small {c : Nat} (h : wCh c = true) : c < 128 := by
  unfold wCh isDg at h
  simp only [Bool.or_eq_true, Bool.and_eq_true, decide_eq_true_eq] at h
  rcases h with (h | h) | h
  · exact Nat.lt_of_le_of_lt h.2 (by decide)
  · exact h.2
  · exact (by decide : ∀ c ∈ [46, 45, 43, 95, 47, 92, 40, 58, 34, 59, 41], c < 128) c h
theorem wCh_fin : ∀ c, c < 128 → wCh c = true → (Unicode.isSpace c = false ∧ isBl c = false ∧ c ≠ 10 ∧ c ≠ 32 ∧ (isDg (mapn c) || isSep (mapn c) || (isLet (mapn c) && decide (mapn c < 128))) = true) := by decide +kernel
theorem wCh_all {c : Nat} (h : wCh c = true) : Unicode.isSpace c = false ∧ isBl c = false ∧ c ≠ 10 ∧ c ≠ 32 ∧ nameCh (mapn c) := by
  refine Mine.e0_5 (wCh_fin c (wCh_small h) h) ?_
  intro a b d e f
  refine Mine.i0_5 a b d e ?_
  unfold nameCh
  simpa [Bool.or_eq_true, or_assoc] using f
noncomputable def WordOk (x : Str) : Prop := x.cps.toList ≠ [] ∧ ∀ c ∈ x.cps.toList, wCh c = true
theorem pieces_ok : ∀ p ∈ piecesL, WordOk p := by
  unfold WordOk
  decide +kernel
theorem words0_ok : ∀ p ∈ words0.1, WordOk p := by
  unfold WordOk
  decide +kernel
theorem WordOk.app {x y : Str} (hx : WordOk x) (hy : WordOk y) : WordOk (x ++ y) := by
  unfold WordOk at *
  rw [Str.cps_append, Array.toList_append]
  refine ⟨by simp [hx.1], fun c hc => ?_⟩
  rcases List.mem_append.mp hc with h | h
  · exact hx.2 c h
  · exact hy.2 c h
structure WInv (p : List Str × List Int) (n : Nat) : Prop where
  len : p.2.length = p.1.length
  lo : 1 ≤ p.1.length
  hi : p.1.length ≤ 3 + n
  g0 : ∃ gs, p.2 = 0 :: gs ∧ ∀ g ∈ gs, 1 ≤ g ∧ g ≤ 2
  ok : ∀ x ∈ p.1, WordOk x
  sm : (p.1.map (·.length)).sum ≤ 33 + 7 * n
  wl : ∀ x ∈ p.1, x.length ≤ 15 + 7 * n
theorem WInv.step {p : List Str × List Int} {n : Nat} (h : WInv p n) (x : Int) : WInv (wstep p x) (n + 1) := by
  obtain ⟨h1, h2, h3, ⟨gs, h4, h5⟩, h6, h7, h8⟩ := h
  have hpl := pieceOf_len x
  have hpo : WordOk (pieceOf x) := pieces_ok _ (List.mem_of_getElem? (pieceOf_get x))
  unfold wstep
  split
  · rename_i hg
    have hg2 : gapOf x ≤ 2 := by unfold gapOf; rw [Int.fmod_eq_emod_of_nonneg _ (by decide)]; lia
    refine ⟨by simp [h1], by simp, by simp; lia, ⟨gs ++ [gapOf x], by simp [h4], fun g hg' => ?_⟩, fun y hy => ?_, by simp; lia, fun y hy => ?_⟩
    · rcases List.mem_append.mp hg' with q | q
      · exact h5 g q
      · rw [List.mem_singleton.mp q]; lia
    · rcases List.mem_append.mp hy with q | q
      · exact h6 y q
      · rw [List.mem_singleton.mp q]; exact hpo
    · rcases List.mem_append.mp hy with q | q
      · have := h8 y q; lia
      · rw [List.mem_singleton.mp q]; lia
  · have hne : p.1 ≠ [] := fun q => by rw [q] at h2; simp at h2
    have hl : p.1.dropLast ++ [p.1.getLastD default] = p.1 := by
      rw [List.getLastD_eq_getLast?, List.getLast?_eq_some_getLast hne]
      exact List.dropLast_concat_getLast hne
    refine ⟨by simp [h1]; lia, by simp, by simp; lia, ⟨gs, h4, h5⟩, fun y hy => ?_, ?_, fun y hy => ?_⟩
    · rcases List.mem_append.mp hy with q | q
      · exact h6 y (List.dropLast_subset _ q)
      · rw [List.mem_singleton.mp q]
        exact (h6 _ (by rw [List.getLastD_eq_getLast?, List.getLast?_eq_some_getLast hne]; exact List.getLast_mem hne)).app hpo
    · have e : (p.1.map (·.length)).sum = (p.1.dropLast.map (·.length)).sum + (p.1.getLastD default).length := by
        conv => lhs; rw [← hl]
        simp
      simp only [List.map_append, List.map_cons, List.map_nil, List.sum_append, List.sum_cons, List.sum_nil]
      have e2 : (p.1.getLastD default ++ pieceOf x).length = (p.1.getLastD default).length + (pieceOf x).length := by
        simp [Str.length, Str.cps_append]
      lia
    · rcases List.mem_append.mp hy with q | q
      · have := h8 y (List.dropLast_subset _ q); lia
      · rw [List.mem_singleton.mp q]
        have e2 : (p.1.getLastD default ++ pieceOf x).length = (p.1.getLastD default).length + (pieceOf x).length := by
          simp [Str.length, Str.cps_append]
        have := h8 (p.1.getLastD default) (by rw [List.getLastD_eq_getLast?, List.getLast?_eq_some_getLast hne]; exact List.getLast_mem hne)
        lia
theorem wordsOf_inv (xs : List Int) : WInv (wordsOf xs) xs.length := by
  have key : ∀ (xs : List Int) (p : List Str × List Int) (n : Nat), WInv p n → WInv (xs.foldl wstep p) (n + xs.length) := by
    intro xs
    induction xs with
    | nil => intro p n h; exact h
    | cons x r ih =>
      intro p n h
      have := ih _ _ (h.step x)
      rw [List.foldl_cons, List.length_cons]
      rwa [show n + (r.length + 1) = n + 1 + r.length by lia]
  have := key xs words0 0 ⟨rfl, by decide, by decide, ⟨[2, 1], rfl, by decide⟩, words0_ok, by decide +kernel, by decide +kernel⟩
  rwa [Nat.zero_add] at this
/- what the law's walk asks of the words -/
structure WGood (ws : List Str) (gs : List Int) : Prop where
  len : gs.length = ws.length
  lo : 1 ≤ ws.length
  hi : ws.length ≤ 13
  g0 : ∃ gr, gs = 0 :: gr ∧ ∀ g ∈ gr, 1 ≤ g ∧ g ≤ 2
  ok : ∀ x ∈ ws, WordOk x
  sm : (ws.map (·.length)).sum ≤ 103
  wl : ∀ x ∈ ws, x.length ≤ 85
theorem wordsOf_good (xs : List Int) : WGood (wordsOf (xs.take 10)).1 (wordsOf (xs.take 10)).2 := by
  have h := wordsOf_inv (xs.take 10)
  have hl : (xs.take 10).length ≤ 10 := by simp; lia
  exact ⟨h.len, h.lo, Nat.le_trans h.hi (by lia), h.g0, h.ok, Nat.le_trans h.sm (by lia), fun x hx => Nat.le_trans (h.wl x hx) (by lia)⟩
theorem WGood.wlen {ws : List Str} {gs : List Int} (h : WGood ws gs) : ∀ x ∈ ws, x.length ≤ 103 := fun x hx => Nat.le_trans (mem_sum hx) h.sm
theorem WGood.gb {ws : List Str} {gs : List Int} (h : WGood ws gs) : ∀ g ∈ gs, 0 ≤ g ∧ g ≤ 2 := by
  refine Mine.e1_2 (h.g0) ?_
  intro gr zq1 hg
  subst zq1
  intro g hg'
  rcases List.mem_cons.mp hg' with rfl | q
  · lia
  · have := hg g q; lia
noncomputable def prsOf (ws : List Str) (gs : List Int) : List Pr := (gs.zip ws).map prOf
theorem blk_list (n : Nat) : (blk n).cps.toList = List.replicate n 32 := by simp [blk]
theorem prs_mem {ws : List Str} {gs : List Int} (h : WGood ws gs) {p : Pr} (hp : p ∈ prsOf ws gs) : (∀ c ∈ p.1.cps.toList, c = 32) ∧ p.1.length ≤ 2 ∧ p.2 ∈ ws := by
  refine Mine.e1_2 (List.mem_map.mp hp) ?_
  intro zn2 hq zq3
  obtain ⟨g, x⟩ := zn2
  subst zq3
  obtain ⟨hg, hx⟩ := List.of_mem_zip hq
  have := h.gb g hg
  refine ⟨fun c hc => ?_, ?_, hx⟩
  · unfold prOf at hc
    rw [blk_list] at hc
    exact (List.mem_replicate.mp hc).2
  · show (blk g.toNat).length ≤ 2
    rw [blk_len]; lia
theorem prs_tail {ws : List Str} {gs : List Int} (h : WGood ws gs) {p : Pr} (hp : p ∈ (prsOf ws gs).tail) : ∃ r, p.1.cps.toList = 32 :: r := by
  refine Mine.e1_2 (h.g0) ?_
  intro gr zq4 hg
  subst zq4
  have hl := h.lo
  cases ws with
  | nil => simp at hl
  | cons w0 ws =>
    refine Mine.e1_2 (List.mem_map.mp (show p ∈ (gr.zip ws).map prOf from hp)) ?_
    intro zn5 hq zq6
    obtain ⟨g, x⟩ := zn5
    subst zq6
    have := hg g (List.of_mem_zip hq).1
    refine ⟨List.replicate (g.toNat - 1) 32, ?_⟩
    show (blk g.toNat).cps.toList = _
    rw [blk_list, show g.toNat = (g.toNat - 1) + 1 by lia, List.replicate_succ]; simp
theorem prs_tail1 {ws : List Str} {gs : List Int} (h : WGood ws gs) {p : Pr} (hp : p ∈ (prsOf ws gs).tail) : p.1.cps.toList ≠ [] ∧ p.1.length ≠ 0 := by
  obtain ⟨r, e⟩ := prs_tail h hp
  refine ⟨by rw [e]; simp, by rw [len_toList, e]; simp⟩
theorem strOk_of {x : Str} (h : ∀ c ∈ x.cps.toList, c < 128) : PyData.strOk x = true := by
  unfold PyData.strOk
  rw [← Array.all_toList, List.all_eq_true]
  intro c hc
  have := h c hc
  simp; lia
theorem prs_good {ws : List Str} {gs : List Int} (h : WGood ws gs) {p : Pr} (hp : p ∈ prsOf ws gs) : GoodP p := by
  refine Mine.e0_3 (prs_mem h hp) ?_
  intro h1 h2 h3
  obtain ⟨o1, o2⟩ := h.ok _ h3
  refine ⟨⟨by lia, Nat.le_trans (h.wlen _ h3) (by decide), strOk_of fun c hc => by rw [h1 c hc]; decide, strOk_of fun c hc => wCh_small (o2 c hc)⟩, ?_⟩
  refine Mine.e2_1 (List.exists_cons_of_ne_nil o1) ?_
  intro c t e
  exact ⟨c, by rw [e]; exact .head _, (wCh_all (o2 c (by rw [e]; exact .head _))).1⟩
theorem prs_len {ws : List Str} {gs : List Int} (h : WGood ws gs) : (prsOf ws gs).length = ws.length := by
  unfold prsOf
  rw [List.length_map, List.length_zip, h.len, Nat.min_self]
theorem prs_snd {ws : List Str} {gs : List Int} (h : WGood ws gs) : (prsOf ws gs).map (·.2) = ws := by
  unfold prsOf
  rw [List.map_map]
  show (gs.zip ws).map Prod.snd = ws
  rw [List.map_snd_zip]
  exact Nat.le_of_eq h.len.symm
theorem strL_len {ps : List Pr} {n : Nat} (h : ∀ p ∈ ps, p.1.length ≤ n) : (strL ps).length ≤ ps.length * n + ((ps.map (·.2)).map (·.length)).sum := by
  induction ps with
  | nil => simp [strL]
  | cons p r ih =>
    have i := ih fun q hq => h q (.tail _ hq)
    have := h p (.head _)
    rw [show strL (p :: r) = p.1.cps.toList ++ p.2.cps.toList ++ strL r from rfl, List.length_append, List.length_append, ← len_toList, ← len_toList]
    simp only [List.map_cons, List.sum_cons, List.length_cons, Nat.succ_mul]
    lia
theorem strL_lo {ps : List Pr} (h : ∀ p ∈ ps, p.2.cps.toList ≠ []) : ps.length ≤ (strL ps).length := by
  induction ps with
  | nil => simp
  | cons p r ih =>
    have i := ih fun q hq => h q (.tail _ hq)
    have := List.length_pos_iff.mpr (h p (.head _))
    rw [show strL (p :: r) = p.1.cps.toList ++ p.2.cps.toList ++ strL r from rfl, List.length_append, List.length_append, List.length_cons]
    lia
theorem text_len {ws : List Str} {gs : List Int} (h : WGood ws gs) : (strL (prsOf ws gs)).length ≤ 129 := by
  have := strL_len (ps := prsOf ws gs) (n := 2) fun p hp => (prs_mem h hp).2.1
  rw [prs_snd h, prs_len h] at this
  have := h.sm
  have := h.hi
  lia
theorem blk0 : blk 0 = Str.ofString "" := by decide +kernel
/- the text, cut at blanks -/
theorem text_cut {ws : List Str} {gs : List Int} (h : WGood ws gs) {x : Str} (hx : x.cps.toList = strL (prsOf ws gs)) : Str.ofString "" :: cut (tkB x.cps) x.cps (2 * x.cps.size + 3) 0 = flatP (prsOf ws gs) := by
  refine Mine.e1_2 (h.g0) ?_
  intro gr hgs hg
  have ht := fun p (hp : p ∈ (prsOf ws gs).tail) => prs_tail1 h hp
  have hm := fun p (hp : p ∈ prsOf ws gs) => prs_mem h hp
  have hsz : (prsOf ws gs).length ≤ x.cps.size := by
    rw [← Array.length_toList, hx]
    exact strL_lo fun p hp => (h.ok _ (hm p hp).2.2).1
  have hl := h.lo
  subst hgs
  cases ws with
  | nil => simp at hl
  | cons w0 ws =>
    have e : prsOf (w0 :: ws) (0 :: gr) = (blk 0, w0) :: prsOf ws gr := rfl
    rw [e] at hx ht hm hsz ⊢
    have hb : (blk 0).cps.toList = [] := by decide +kernel
    have hd : x.cps.toList.drop 0 = w0.cps.toList ++ (prsOf ws gr).flatMap fun p => p.1.cps.toList ++ p.2.cps.toList := by
      rw [List.drop_zero, hx]
      show (blk 0).cps.toList ++ w0.cps.toList ++ _ = _
      rw [hb]; rfl
    have hw : ∀ y ∈ w0 :: ws, ∀ c ∈ y.cps.toList, isBl c = false := fun y hy c hc => (wCh_all ((h.ok y hy).2 c hc)).2.1
    rw [cutB (prsOf ws gr) w0.cps.toList _ 0 hd (hw _ (.head _)) (fun p hp => ⟨(ht p hp).1, fun c hc => by rw [(hm p (.tail _ hp)).1 c hc]; decide, (h.ok _ (hm p (.tail _ hp)).2.2).1, hw _ (hm p (.tail _ hp)).2.2⟩) (by simp at hsz; lia), str_eta, ← blk0]
    rfl
end Mine
end

section
open PySem PyProof.Rows
namespace Mine
open Builtin Builtin.Str StrLaws
/- ## what the law asks of the lines -/
noncomputable def Told (b : Bool) (mx head : Int) (ws : List Str) (gs : List Int) (told : List Str) : Prop :=
  ∃ k' ps' ls', Steps b mx head (prsOf ws gs) k' ps' ls' ∧ told.map (·.cps.toList) = ls' ++ [strL ps']
theorem str_inj {x y : Str} (h : x.cps.toList = y.cps.toList) : x = y := Str.ext' (Array.toList_inj.mp h)
theorem strs_inj : ∀ {xs ys : List Str}, xs.map (·.cps.toList) = ys.map (·.cps.toList) → xs = ys
  | [], [], _ => rfl
  | [], y :: ys, h => by simp at h
  | x :: xs, [], h => by simp at h
  | x :: xs, y :: ys, h => by
    simp only [List.map_cons, List.cons.injEq] at h
    rw [str_inj h.1, strs_inj h.2]
theorem spl_free (d : Nat) : ∀ (x : List Nat), d ∉ x → spl [d] 0 x = [x]
  | [], _ => rfl
  | c :: r, h => by
    rw [spl_one_eq, if_neg (fun q => h (by rw [q]; exact .head _)), spl_free d r fun q => h (.tail _ q)]; rfl
theorem spl_free_app (d : Nat) (ys : List Nat) : ∀ (x : List Nat), d ∉ x → spl [d] 0 (x ++ d :: ys) = x :: spl [d] 0 ys
  | [], _ => by rw [List.nil_append, spl_one_eq, if_pos rfl]
  | c :: r, h => by
    rw [List.cons_append, spl_one_eq, if_neg (fun q => h (by rw [q]; exact .head _)), spl_free_app d ys r fun q => h (.tail _ q)]; rfl
theorem spl_jn (d : Nat) : ∀ (l : List (List Nat)), l ≠ [] → (∀ x ∈ l, d ∉ x) → spl [d] 0 (jn [d] l) = l
  | [], h, _ => absurd rfl h
  | [x], _, hx => spl_free d x (hx x (.head _))
  | x :: y :: r, _, hx => by
    rw [jn, List.append_assoc]
    show spl [d] 0 (x ++ d :: jn [d] (y :: r)) = _
    rw [spl_free_app d _ x (hx x (.head _)), spl_jn d (y :: r) (by simp) fun z hz => hx z (.tail _ hz)]
theorem split_join {ys : List Str} (h : ys ≠ []) (hn : ∀ y ∈ ys, 10 ∉ y.cps.toList) : Txt.split (Txt.join (Str.ofString "\n") ys) (Str.ofString "\n") = ys := by
  refine strs_inj ?_
  rw [split_spl _ _ (by decide +kernel) (by decide +kernel), join_jn]
  refine spl_jn 10 _ (by simpa using h) fun x hx => ?_
  refine Mine.e1_2 (List.mem_map.mp hx) ?_
  intro y hy zq1
  subst zq1
  exact hn y hy
section
variable {b b' : Bool} {mx head : Int} {ws : List Str} {gs : List Int} {told told' rows : List Str}
theorem Told.gr (W : WGood ws gs) (h : Told b mx head ws gs told) : ∃ grs : List (List Pr), told.map (·.cps.toList) = grs.map strL ∧ grs.flatten = fixH mx head (prsOf ws gs) := by
  refine Mine.e3_2 h ?_
  try clear h
  intro k' ps' ls' hS e
  obtain ⟨_, _, gr, rfl, e2⟩ := hS.groups fun p hp => (prs_tail1 W hp).2
  exact ⟨gr ++ [ps'], by rw [e]; simp, by rw [← e2]; simp⟩
theorem Told.flat (W : WGood ws gs) (h : Told b mx head ws gs told) : (told.map (·.cps.toList)).flatten = strL (fixH mx head (prsOf ws gs)) := by
  refine Mine.e1_2 (h.gr W) ?_
  intro grs e1 e2
  rw [e1, strL_flat, e2]
theorem fixH_mem (W : WGood ws gs) {p : Pr} (hp : p ∈ fixH mx head (prsOf ws gs)) : (∀ c ∈ p.1.cps.toList, c = 32) ∧ p.1.length ≤ 2 ∧ p.2 ∈ ws := by
  have h1 := fixH_bl mx head (prs := prsOf ws gs) (fun p hp => (prs_mem W hp).1) p hp
  refine ⟨h1, ?_⟩
  have hm := fun p (hp : p ∈ prsOf ws gs) => prs_mem W hp
  generalize prsOf ws gs = l at *
  cases l with
  | nil => cases hp
  | cons q r =>
    unfold fixH at hp
    rcases List.mem_cons.mp hp with rfl | hp
    · split
      · exact ⟨(by decide +kernel : (Str.ofString " ").length ≤ 2), (hm q (.head _)).2.2⟩
      · exact (hm q (.head _)).2
    · exact (hm p (.tail _ hp)).2
theorem fixH_snd (mx k : Int) (prs : List Pr) : (fixH mx k prs).map (·.2) = prs.map (·.2) := by
  cases prs with
  | nil => rfl
  | cons p r =>
    unfold fixH
    rw [List.map_cons, List.map_cons]
    split <;> rfl
theorem fixH_len (mx k : Int) (prs : List Pr) : (fixH mx k prs).length = prs.length := by cases prs <;> rfl
theorem Told.ch (W : WGood ws gs) (h : Told b mx head ws gs told) {r : Str} (hr : r ∈ told) {c : Nat} (hc : c ∈ r.cps.toList) : c = 32 ∨ wCh c = true := by
  have : c ∈ (told.map (·.cps.toList)).flatten := List.mem_flatten.mpr ⟨_, List.mem_map_of_mem hr, hc⟩
  rw [h.flat W] at this
  refine Mine.e1_2 (List.mem_flatMap.mp this) ?_
  intro p hp hc
  refine Mine.e0_3 (fixH_mem W hp) ?_
  intro h1 zu2 h3
  rcases List.mem_append.mp hc with q | q
  · exact .inl (h1 c q)
  · exact .inr ((W.ok _ h3).2 c q)
theorem Told.nl (W : WGood ws gs) (h : Told b mx head ws gs told) : ∀ y ∈ told, 10 ∉ y.cps.toList := fun y hy hc => by
  rcases h.ch W hy hc with q | q
  · cases q
  · exact (wCh_all q).2.2.1 rfl
theorem Told.sp (W : WGood ws gs) (h : Told b mx head ws gs told) : ∀ r ∈ told, ∀ c ∈ r.cps.toList, Unicode.isSpace c = (c == 32) := fun y hy c hc => by
  rcases h.ch W hy hc with rfl | q
  · decide
  · refine Mine.e0_5 (wCh_all q) ?_
    intro a zu3 zu4 d zu5
    rw [a]; simp [d]
theorem Told.ne (h : Told b mx head ws gs told) : told ≠ [] := fun q => by
  refine Mine.e3_2 h ?_
  try clear h
  intro k' ps' ls' hS e
  rw [q] at e; simp at e
theorem Told.ok (W : WGood ws gs) (h : Told b mx head ws gs told) : ∀ r ∈ told, PyData.strOk r = true := fun r hr => strOk_of fun c hc => by
  rcases h.ch W hr hc with rfl | q
  · decide
  · exact wCh_small q
theorem Told.total (W : WGood ws gs) (h : Told b mx head ws gs told) : ((told.map (·.cps.toList)).flatten).length ≤ 129 := by
  rw [h.flat W]
  have := strL_len (ps := fixH mx head (prsOf ws gs)) (n := 2) fun p hp => (fixH_mem W hp).2.1
  rw [fixH_snd, prs_snd W, fixH_len, prs_len W] at this
  have := W.sm
  have := W.hi
  lia
theorem len_flat {l : List (List Nat)} {x : List Nat} (h : x ∈ l) : x.length ≤ l.flatten.length := by
  induction l with
  | nil => cases h
  | cons a r ih =>
    rw [List.flatten_cons, List.length_append]
    rcases List.mem_cons.mp h with rfl | h
    · lia
    · have := ih h; lia
theorem Told.line (W : WGood ws gs) (h : Told b mx head ws gs told) : ∀ x ∈ told, x.length ≤ 129 := fun x hx => by
  rw [len_toList]
  have h1 : x.cps.toList ∈ told.map (·.cps.toList) := List.mem_map_of_mem hx
  exact Nat.le_trans (len_flat h1) (h.total W)
theorem Told.num (W : WGood ws gs) (h : Told b mx head ws gs told) : told.length ≤ 14 := by
  refine Mine.e3_2 h ?_
  try clear h
  intro k' ps' ls' hS e
  have e := congrArg List.length e
  have := (hS.bounds fun p hp => prs_good W hp).2.1
  rw [prs_len W] at this
  have := W.hi
  simp at e; lia
/- cut at blanks the lines are the rows -/
theorem Told.isRows (W : WGood ws gs) (h : Told true mx head ws gs told) (hR : RowsOf ws gs head mx rows) : told = rows := by
  refine Mine.e3_2 h ?_
  try clear h
  intro k' ps' ls' hS e
  refine Mine.e1_2 (W.g0) ?_
  intro gr zq6 hg
  subst zq6
  have hl := W.lo
  cases ws with
  | nil => simp at hl
  | cons w0 ws =>
    refine strs_inj ?_
    rw [e]
    exact rows_lines (fun g q => by have := hg g q; lia) hR hS
/- both ways make one text -/
theorem Told.join (W : WGood ws gs) (h : Told b mx head ws gs told) (h' : Told b' mx head ws gs told') : Txt.join (Str.ofString "") told = Txt.join (Str.ofString "") told' := by
  refine str_inj ?_
  rw [join_jn, join_jn]
  show jn [] _ = jn [] _
  rw [jn_nil, jn_nil, h.flat W, h'.flat W]
theorem sum_flat (l : List Str) : (l.map (·.length)).sum = ((l.map (·.cps.toList)).flatten).length := by
  induction l with
  | nil => rfl
  | cons x r ih => rw [List.map_cons, List.sum_cons, List.map_cons, List.flatten_cons, List.length_append, ih, len_toList]
theorem Told.joinOk (W : WGood ws gs) (h : Told b mx head ws gs told) : JoinOk (Str.ofString "") told = true := by
  refine joinOk_of (n := 1000) ?_ (by decide)
  have h1 := h.total W
  rw [sum_flat, l0]
  lia
theorem mem_sq {c : Nat} : ∀ {xs : List Nat}, c ∈ sq xs → c ∈ xs
  | [], h => h
  | d :: r, h => by
    rw [sq] at h
    split at h
    · exact .tail _ (mem_sq h)
    · rcases List.mem_cons.mp h with rfl | h
      · exact .head _
      · exact .tail _ (mem_sq h)
theorem mem_rs {c : Nat} {xs : List Nat} (h : c ∈ rs xs) : c ∈ xs := by
  unfold rs at h
  exact List.mem_reverse.mp (mem_dropWhile (List.mem_reverse.mp h))
theorem mem_jn {s c : Nat} : ∀ {l : List (List Nat)}, c ∈ jn [s] l → c = s ∨ ∃ x ∈ l, c ∈ x
  | [], h => by cases h
  | [x], h => .inr ⟨x, .head _, h⟩
  | x :: y :: r, h => by
    rw [jn, List.append_assoc] at h
    rcases List.mem_append.mp h with h | h
    · exact .inr ⟨x, .head _, h⟩
    · rcases List.mem_append.mp h with h | h
      · exact .inl (List.mem_singleton.mp h)
      · rcases mem_jn h with h | ⟨z, hz, h⟩
        · exact .inl h
        · exact .inr ⟨z, .tail _ hz, h⟩
theorem sq_len : ∀ xs : List Nat, (sq xs).length ≤ xs.length
  | [] => Nat.le_refl _
  | d :: r => by
    have := sq_len r
    rw [sq]
    split <;> simp <;> lia
theorem rs_len (xs : List Nat) : (rs xs).length ≤ xs.length := by
  unfold rs
  rw [List.length_reverse]
  have := (List.dropWhile_sublist (fun x => x == 45) (l := xs.reverse)).length_le
  simpa using this
theorem jn_len (s : Nat) : ∀ l : List (List Nat), (jn [s] l).length ≤ l.flatten.length + l.length
  | [] => by simp [jn]
  | [x] => by simp [jn]
  | x :: y :: r => by
    have := jn_len s (y :: r)
    rw [jn]
    simp only [List.length_append, List.flatten_cons, List.length_cons] at this ⊢
    simp at this ⊢
    lia
theorem strip_flat : ∀ l : List Str, (((l.filter fun r => r.length != 0).map fun r => stripL Unicode.isSpace r.cps.toList).flatten).length ≤ ((l.map (·.cps.toList)).flatten).length
  | [] => Nat.le_refl _
  | x :: r => by
    have := strip_flat r
    have h1 := len_stripL Unicode.isSpace x.cps.toList
    rw [List.filter_cons]
    split
    · simp only [List.map_cons, List.flatten_cons, List.length_append]; lia
    · simp only [List.map_cons, List.flatten_cons, List.length_append]; lia
theorem Told.nameLen (W : WGood ws gs) (h : Told b mx head ws gs told) : (platL told).length ≤ 143 := by
  unfold platL
  have a1 := rs_len (sq (rm ((jn [45] ((told.filter fun r => r.length != 0).map fun r => stripL Unicode.isSpace r.cps.toList)).map mapn)))
  have a2 := sq_len (rm ((jn [45] ((told.filter fun r => r.length != 0).map fun r => stripL Unicode.isSpace r.cps.toList)).map mapn))
  have a3 := len_rm _ ((jn [45] ((told.filter fun r => r.length != 0).map fun r => stripL Unicode.isSpace r.cps.toList)).map mapn) rfl
  have a4 := jn_len 45 ((told.filter fun r => r.length != 0).map fun r => stripL Unicode.isSpace r.cps.toList)
  have a5 := strip_flat told
  have a6 := h.total W
  have a7 := h.num W
  have a8 := List.length_filter_le (fun r : Str => r.length != 0) told
  rw [List.length_map] at a3 a4
  lia
theorem Told.nameCh (W : WGood ws gs) (h : Told b mx head ws gs told) : ∀ c ∈ platL told, nameCh c := fun c hc => by
  unfold platL at hc
  have h1 := mem_rm (mem_sq (mem_rs hc))
  refine Mine.e1_2 (List.mem_map.mp h1) ?_
  intro d hd zq7
  subst zq7
  rcases mem_jn hd with rfl | ⟨x, hx, hd⟩
  · right; left; decide
  · refine Mine.e1_2 (List.mem_map.mp hx) ?_
    intro r hr zq8
    subst zq8
    rcases h.ch W (List.mem_filter.mp hr).1 (mem_stripL hd) with rfl | q
    · right; left; decide
    · exact (wCh_all q).2.2.2.2
/- one version, in whatever lines it stands -/
theorem Told.version (W : WGood ws gs) (h : Told b mx head ws gs told) {x : Str} (hx : x.cps.toList = platL told) :
    x = nameS told ∧ x.cps.size ≤ 600 ∧ (∀ v ∈ cut (tkV x.cps) x.cps (2 * x.cps.size + 3) 0, PieceOk v) ∧ cvOf (cut (tkV x.cps) x.cps (2 * x.cps.size + 3) 0) = ws.flatMap ranksOf := by
  have hl := h.nameLen W
  have hsz : x.cps.size ≤ 143 := by rw [← Array.length_toList, hx]; exact hl
  have hc := cutV (tx := x.cps) x.cps.size x.cps.toList (2 * x.cps.size + 3) 0 (by simp) rfl (by lia) (by rw [hx]; exact h.nameCh W) (by lia)
  refine Mine.i0_4 (str_inj (by rw [hx]; exact plat_name (h.sp W))) (by lia) hc.2 ?_
  rw [hc.1, hx, F_name (h.sp W)]
  refine Mine.e1_2 (h.gr W) ?_
  intro grs e1 e2
  have e3 : told.flatMap (fun r => G r.cps.toList) = (told.map (·.cps.toList)).flatMap G := by rw [List.flatMap_map]
  have hb := fun p (hp : p ∈ fixH mx head (prsOf ws gs)) => fixH_mem W hp
  rw [e3, e1, G_groups grs (by rw [e2]; exact fun p hp => (hb p hp).1) (by rw [e2, fixH_tail]; exact fun p hp => (prs_tail1 W hp).1), e2, fixH_G]
  have e4 : (prsOf ws gs).flatMap (fun p => G p.2.cps.toList) = ((prsOf ws gs).map (·.2)).flatMap fun x => G x.cps.toList := by rw [List.flatMap_map]
  rw [e4, prs_snd W]
  congr 1
  funext y
  rw [ranksOf_F, G_rm]
end
end Mine
end

section
open PySem PySem.W PySem.W.X PyProof.Rows PySem.Calls
set_option maxRecDepth 100000
namespace Mine
/- ## data of numbers and texts, compared -/
noncomputable def FlatD (d : PyData) : Prop := (∃ i, d = .int i) ∨ ∃ x, d = .str x ∧ PyData.strOk x = true
theorem flat_lay {ds : List PyData} (h : ∀ d ∈ ds, FlatD d) : PyData.canLayAll0 ds = true ∧ PyData.depthAll ds = 0 := by
  induction ds with
  | nil => exact ⟨rfl, rfl⟩
  | cons d r ih =>
    obtain ⟨i1, i2⟩ := ih fun y hy => h y (.tail _ hy)
    rcases h d (.head _) with ⟨i, rfl⟩ | ⟨x, rfl, hx⟩
    · simp [PyData.canLayAll0, PyData.canLay0, PyData.depthAll, PyData.depth, i1, i2]
    · simp [PyData.canLayAll0, PyData.canLay0, PyData.depthAll, PyData.depth, i1, i2, hx]
theorem flat_shape {ds : List PyData} (h : ∀ d ∈ ds, FlatD d) : SeqAt.shaped (.list ds) = true := by
  obtain ⟨i1, i2⟩ := flat_lay h
  unfold SeqAt.shaped
  simp [PyData.canLay0, PyData.depth, i1, i2]
theorem carried_strs : ∀ {vs : List Value} {xs : List Str}, StrsAre vs xs → CarriedAll vs (xs.map PyData.str) := fun h => by
  induction h with
  | nil => exact .nil
  | cons x t _ ih => exact .cons (.str x t) ih
theorem flat_strs {xs : List Str} (h : ∀ x ∈ xs, PyData.strOk x = true) : ∀ d ∈ xs.map PyData.str, FlatD d := fun d hd => by
  refine Mine.e1_2 (List.mem_map.mp hd) ?_
  intro x hx zq1
  subst zq1
  exact .inr ⟨x, rfl, h x hx⟩
theorem nil_lt : ∀ c ∈ (Str.ofString "").cps.toList, c < 128 := by
  have e : (Str.ofString "").cps.toList = [] := by decide +kernel
  rw [e]
  exact fun c hc => by cases hc
structure RSok (r : RS) : Prop where
  d : ∀ e ∈ r.due, FlatD e
  l : ∀ c ∈ r.lt.cps.toList, c < 128
theorem rsok_step {r : RS} {c : Nat} (h : RSok r) (hc : c < 128) : RSok (rstep r c) := by
  have h1 : RSok (rs1 r c) := by
    unfold rs1
    split
    · refine ⟨fun e he => ?_, nil_lt⟩
      rcases List.mem_append.mp he with he | he
      · exact h.d e he
      · simp only [List.mem_cons, List.not_mem_nil, or_false] at he
        rcases he with rfl | rfl
        · exact .inl ⟨_, rfl⟩
        · exact .inr ⟨_, rfl, strOk_of h.l⟩
    · exact h
  have h2 : RSok (rs2 (rs1 r c) c) := by
    unfold rs2
    split
    · refine ⟨fun e he => ?_, h1.l⟩
      rcases List.mem_append.mp he with he | he
      · exact h1.d e he
      · simp only [List.mem_cons, List.not_mem_nil, or_false] at he
        rcases he with rfl | rfl <;> exact .inl ⟨_, rfl⟩
    · exact h1
  unfold rstep rs3
  split
  · exact ⟨h2.d, h2.l⟩
  · split
    · refine ⟨h2.d, fun d hd => ?_⟩
      simp only [Str.cps_append, Array.toList_append, List.mem_append] at hd
      rcases hd with hd | hd
      · exact h2.l d hd
      · have : d = c := by simpa using hd
        lia
    · exact h2
theorem flat_ranks {ws : List Str} (h : ∀ x ∈ ws, ∀ c ∈ x.cps.toList, c < 128) : ∀ d ∈ ws.flatMap ranksOf, FlatD d := fun d hd => by
  refine Mine.e1_2 (List.mem_flatMap.mp hd) ?_
  intro x hx hd
  rw [ranksOf_F] at hd
  have key : ∀ (l : List Nat) (r : RS), RSok r → (∀ c ∈ l, c < 128) → RSok (l.foldl rstep r) := by
    intro l
    induction l with
    | nil => intro r hr _; exact hr
    | cons c l ih => intro r hr hc; exact ih _ (rsok_step hr (hc c (.head _))) fun d hd => hc d (.tail _ hd)
  refine (key (rm x.cps.toList ++ [46]) S0 ⟨(fun e he => by cases he), nil_lt⟩ (fun c hc => ?_)).d d hd
  rcases List.mem_append.mp hc with hc | hc
  · exact h x hx c (mem_rm hc)
  · rw [List.mem_singleton.mp hc]; decide
theorem rNeS {w : World} {z : Shared} {prog : Program} {A : Around} {E : Value → Shared → Prop} {h₀ : Heap} {s : Shared} {L : Addr} {m : Str → Option Value} {news : List Ent} {a b : Addr} {vs ws : List Value} {ds : List PyData} {Q : Value → Shared → Prop} (D : St z h₀ L m news s) (ha : (a, isLst vs) ∈ news) (hb : (b, isLst ws) ∈ news) (h1 : CarriedAll vs ds) (h2 : CarriedAll ws ds) (hf : ∀ d ∈ ds, FlatD d)
    (hu : A.units + 64 < cLine) (h : Q (.bool false) s) : wpAny (model prog w) A (compareOp .NotEq (.ref a) (.ref b)) Q E s := by
  refine rNeL D ha hb h1 h2 (flat_shape hf) (flat_shape hf) hu ?_
  have e : PyData.eqv (.list ds) (.list ds) = true := PySem.SeqAt.eqv_refl (.list ds) (by simpa [PyData.canLay0] using (flat_lay hf).1)
  rw [e]; exact h
end Mine
end

section
open PySem PySem.W PySem.W.X PyProof.Rows PySem.Calls
set_option maxHeartbeats 4000000
namespace Mine
/- ## law -/
noncomputable abbrev lawL (z : Shared) : List Ent := [(cStatics, isStat z), (53, isTab), (182, isTab), (189, isTab)]
theorem cG1C {w : World} {prog : Program} {A : Around} {E : Value → Shared → Prop} {s : Shared} {env : Env} {pos : Pos} {f : Addr} {Q : Value → Shared → Prop} {e : Expr} (hk : keepIn (Kx w.params) (.ref f) = true) (h : wpAny (model prog w) A (eval e env) (fun v s₁ => (Kx w.params).In s₁.heap ∧ wpC (model prog w) A (call (.ref f) [v]) Q E s₁) E s) (he : starEach [e] env = (false, eval e env) :: starEach [] env) :
    wpC (model prog w) A (callWith pos (.ref f) [] (backTo pos (starEach [e] env)) []) Q E s := by
  have hs : wpAny (model prog w) A (spliced (backTo pos (starEach [e] env))) (fun vs s₂ => (Kx w.params).In s₂.heap ∧ wpC (model prog w) A (call (.ref f) ([] ++ vs)) Q E s₂) E s := splC (wpAny_mono h (fun v s₁ q => splN q) fun _ _ e => e) he
  rw [he] at hs ⊢
  exact cCallWith rfl (keeps_K hk) (evalArgs_plain hs)
noncomputable def txtOf (q : Int × Str) : Str := blk q.1.toNat ++ q.2
theorem strs_of {ws : List Str} {gs : List Int} {ys : List Value} (hl : ys.length = (gs.zip ws).length) (h : ∀ (i : Nat) (y : Value), ys[i]? = some y → ∃ q t, (gs.zip ws)[i]? = some q ∧ y = Value.str (txtOf q) t) : StrsAre ys ((gs.zip ws).map txtOf) := by
  generalize gs.zip ws = l at *
  induction l generalizing ys with
  | nil => cases ys with
    | nil => exact .nil
    | cons y ys => simp at hl
  | cons a l ih => cases ys with
    | nil => simp at hl
    | cons y ys =>
      refine Mine.e2_2 (h 0 y rfl) ?_
      intro q t hq zq1
      subst zq1
      have : a = q := by simpa using hq
      subst this
      exact .cons _ _ (ih (by simpa using hl) fun i y hy => by simpa using h (i + 1) y (by simpa using hy))
theorem text_list {ws : List Str} {gs : List Int} : (Txt.join (Str.ofString "") ((gs.zip ws).map txtOf)).cps.toList = strL (prsOf ws gs) := by
  rw [join_jn]
  show jn [] _ = _
  rw [jn_nil, List.map_map]
  unfold prsOf strL
  rw [List.flatMap_map, ← List.flatMap_def]
  congr 1
  funext q
  unfold txtOf prOf
  simp [Str.cps_append]
theorem fmod48 (x : Int) : 0 ≤ x.fmod 48 ∧ x.fmod 48 < 48 := by
  rw [Int.fmod_eq_emod_of_nonneg _ (by decide)]; lia
section
variable {w : World} {z : Shared} {prog : Program} {A : Around} {E : Value → Shared → Prop} {h₀ : Heap} {s : Shared} {L : Addr} {m : Str → Option Value} {env : Env} {rest : List Stmt}
theorem cCut3 {s1 s2 s3 : Stmt} {Q : Flow → Shared → Prop} (I : Shared → Prop) (h : wpAny (model prog w) A (execs [s1, s2, s3] env) (fun f s' => f = .next ∧ I s') E s) (k : ∀ s', I s' → wpC (model prog w) A (execs rest env) Q E s') : wpC (model prog w) A (execs (s1 :: s2 :: s3 :: rest) env) Q E s := by
  have e : execs (s1 :: s2 :: s3 :: rest) env = (do match ← execs [s1, s2, s3] env with | .next => execs rest env | f => pure f) := by
    simp only [execs_cons, bind_assoc]
    congr 1
    funext f
    cases f <;> try rfl
    simp only [bind_assoc]
    congr 1
    funext f
    cases f <;> try rfl
    simp only [bind_assoc]
    congr 1
    funext f
    cases f <;> rfl
  rw [e]
  refine wpC_bindA (wpAny_mono h (fun f s' q => ?_) fun _ _ e => e)
  obtain ⟨rfl, q⟩ := q
  exact k s' q
theorem cCut3H {s1 s2 s3 : Stmt} {Q : Flow → Shared → Prop} (I : Shared → Prop) (h : ∀ R : Shared → Prop, (∀ s', I s' → R s') → wpAny (model prog w) A (execs [s1, s2, s3] env) (fun f s' => f = .next ∧ R s') E s) (k : ∀ s', I s' → wpC (model prog w) A (execs rest env) Q E s') : wpC (model prog w) A (execs (s1 :: s2 :: s3 :: rest) env) Q E s := cCut3 I (h I fun _ q => q) k
/- the tuple of the three tuples of numbers -/
theorem genT3 {P : Prop} {T t0 t1 t2 : Addr} {a0 b0 a1 b1 a2 b2 : Int} {u0 v0 u1 v1 u2 v2 : Tok} {r : List Ent} (D : St z h₀ L m ((T, isTpl [.ref t0, .ref t1, .ref t2]) :: r) s)
    (m0 : (t0, isTpl [.int a0 u0, .int b0 v0]) ∈ r) (m1 : (t1, isTpl [.int a1 u1, .int b1 v1]) ∈ r) (m2 : (t2, isTpl [.int a2 u2, .int b2 v2]) ∈ r)
    (n0 : (0 ≤ a0 ∧ a0 ≤ 10) ∧ 0 ≤ b0 ∧ b0 ≤ 100) (n1 : (0 ≤ a1 ∧ a1 ≤ 10) ∧ 0 ≤ b1 ∧ b1 ≤ 100) (n2 : (0 ≤ a2 ∧ a2 ≤ 10) ∧ 0 ≤ b2 ∧ b2 ≤ 100)
    (h : ∀ LB vals, (T, isTpl vals) ∈ LB → (∀ v ∈ vals, ∃ a hd wd t1 t2, v = .ref a ∧ (a, isTpl [.int hd t1, .int wd t2]) ∈ LB ∧ (0 ≤ hd ∧ hd ≤ 10) ∧ 0 ≤ wd ∧ wd ≤ 100) → (∀ p ∈ r, p ∈ LB) → St z h₀ L m LB s → P) : P := by
  refine h _ _ (.head _) (fun v hv => ?_) (fun p hp => .tail _ hp) D
  simp only [List.mem_cons, List.not_mem_nil, or_false] at hv
  rcases hv with rfl | rfl | rfl
  · exact Mine.I5 _ _ _ _ _ (Mine.a3 rfl (.tail _ m0) n0)
  · exact Mine.I5 _ _ _ _ _ (Mine.a3 rfl (.tail _ m1) n1)
  · exact Mine.I5 _ _ _ _ _ (Mine.a3 rfl (.tail _ m2) n2)
end
@[reducible] noncomputable def IWL29 (z : Shared) (L' : Addr) (g : Heap) (wa ga : Addr) (x : Str) (t : Tok) (da T2 : Addr) (j : Nat) (it2 a2 : Addr) (told : List Str) (LB2 : List Ent) : Shared → Prop := fun s' => ∃ m' y ty, St z g L' m' ((it2, isTI T2 (j + 1)) :: LB2) s' ∧ y.cps.toList = platL told ∧ m' (Str.ofString "words") = some (.ref wa) ∧ m' (Str.ofString "gaps") = some (.ref ga) ∧ m' (Str.ofString "text") = some (.str x t) ∧ m' (Str.ofString "due") = some (.ref da) ∧ m' (Str.ofString "told") = some (.ref a2) ∧ m' (Str.ofString "name") = some (.str y ty)
@[reducible] noncomputable def IWL28 (z : Shared) (L' : Addr) (g : Heap) (wa ga : Addr) (x : Str) (t : Tok) (da T : Addr) (i : Nat) (news' : List Ent) (it ra la oa : Addr) (rvs lvs ovs : List Value) : Shared → Prop := fun s' => ∃ m', St z g L' m' ((oa, isLst ovs) :: (la, isLst lvs) :: (ra, isLst rvs) :: (it, isTI T (i + 1)) :: news') s' ∧ m' (Str.ofString "words") = some (.ref wa) ∧ m' (Str.ofString "gaps") = some (.ref ga) ∧ m' (Str.ofString "text") = some (.str x t) ∧ m' (Str.ofString "due") = some (.ref da) ∧ m' (Str.ofString "lines") = some (.ref la) ∧ m' (Str.ofString "others") = some (.ref oa)
@[reducible] noncomputable def IWL27 (z : Shared) (L' : Addr) (g : Heap) (ws : List Str) (gs : List Int) (wa ga : Addr) (x : Str) (t : Tok) (da T : Addr) (i : Nat) (news' : List Ent) (it : Addr) (hd wd : Int) : Shared → Prop := fun s' => ∃ m' ra la oa rvs lvs ovs rows lines others, St z g L' m' ((oa, isLst ovs) :: (la, isLst lvs) :: (ra, isLst rvs) :: (it, isTI T (i + 1)) :: news') s' ∧ StrsAre rvs rows ∧ StrsAre lvs lines ∧ StrsAre ovs others ∧ RowsOf ws gs hd wd rows ∧ Told true wd hd ws gs lines ∧ Told false wd hd ws gs others ∧ m' (Str.ofString "words") = some (.ref wa) ∧ m' (Str.ofString "gaps") = some (.ref ga) ∧ m' (Str.ofString "text") = some (.str x t) ∧ m' (Str.ofString "due") = some (.ref da) ∧ m' (Str.ofString "rows") = some (.ref ra) ∧ m' (Str.ofString "lines") = some (.ref la) ∧ m' (Str.ofString "others") = some (.ref oa)
@[reducible] noncomputable def IWL26 (z : Shared) (ws : List Str) (wa ga : Addr) (wvs gvs : List Value) (x : Str) (t : Tok) (da : Addr) (sh : Int) (tsh : Tok) : Nat → (Str → Option Value) → List Ent → Prop := fun i m' news' => ∃ dvs, news' = (da, isLst dvs) :: (ga, isLst gvs) :: (wa, isLst wvs) :: lawL z ∧ CarriedAll dvs ((ws.take i).flatMap ranksOf) ∧ dvs.length ≤ 1000 * i ∧ m' (Str.ofString "words") = some (.ref wa) ∧ m' (Str.ofString "gaps") = some (.ref ga) ∧ m' (Str.ofString "text") = some (.str x t) ∧ m' (Str.ofString "due") = some (.ref da) ∧ m' (Str.ofString "shift") = some (.int sh tsh)
@[reducible] noncomputable def IWL25 (z : Shared) (L' : Addr) (g : Heap) (ws : List Str) (wa ga : Addr) (wvs gvs : List Value) (x : Str) (t : Tok) (da : Addr) (sh : Int) (tsh : Tok) : Shared → Prop := fun s' => ∃ m' dvs, St z g L' m' ((da, isLst dvs) :: (ga, isLst gvs) :: (wa, isLst wvs) :: lawL z) s' ∧ CarriedAll dvs (ws.flatMap ranksOf) ∧ m' (Str.ofString "words") = some (.ref wa) ∧ m' (Str.ofString "gaps") = some (.ref ga) ∧ m' (Str.ofString "text") = some (.str x t) ∧ m' (Str.ofString "due") = some (.ref da) ∧ m' (Str.ofString "shift") = some (.int sh tsh)
@[reducible] noncomputable def IWL24 (z : Shared) (L' : Addr) (g : Heap) (wa ga : Addr) (wvs gvs : List Value) (x : Str) (t : Tok) : Shared → Prop := fun s' => ∃ m' da sh tsh, St z g L' m' ((da, isLst []) :: (ga, isLst gvs) :: (wa, isLst wvs) :: lawL z) s' ∧ m' (Str.ofString "words") = some (.ref wa) ∧ m' (Str.ofString "gaps") = some (.ref ga) ∧ m' (Str.ofString "text") = some (.str x t) ∧ m' (Str.ofString "due") = some (.ref da) ∧ m' (Str.ofString "shift") = some (.int sh tsh)
@[reducible] noncomputable def IWL23 (ws : List Str) (gs : List Int) : Nat → Value → Prop := fun i y => ∃ q t, (gs.zip ws)[i]? = some q ∧ y = Value.str (txtOf q) t
@[reducible] noncomputable def IWL22 (z : Shared) (l L' : Addr) (g : Heap) (ws : List Str) (gs : List Int) (wa ga : Addr) (wvs gvs : List Value) : Shared → Prop := fun s' => ∃ x t, x.cps.toList = strL (prsOf ws gs) ∧ St z g L' (upd (upd (upd (upd (fun _ => none) (Str.ofString "script") (.ref l)) (Str.ofString "words") (.ref wa)) (Str.ofString "gaps") (.ref ga)) (Str.ofString "text") (.str x t)) ((ga, isLst gvs) :: (wa, isLst wvs) :: lawL z) s'
@[reducible] noncomputable def IWL21 (z : Shared) (l : Addr) (ns : List Int) (L' : Addr) (g : Heap) : Shared → Prop := fun s' => ∃ wa ga wvs gvs, StrsAre wvs (wordsOf (ns.take 10)).1 ∧ IntsAre gvs (wordsOf (ns.take 10)).2 ∧ St z g L' (upd (upd (upd (fun _ => none) (Str.ofString "script") (.ref l)) (Str.ofString "words") (.ref wa)) (Str.ofString "gaps") (.ref ga)) ((ga, isLst gvs) :: (wa, isLst wvs) :: lawL z) s'
theorem law_call {w : World} {z : Shared} {l : Addr} {vs : List Value} {ns : List Int} {E : Value → Shared → Prop} {Q : Value → Shared → Prop}
  (hN : ∀ p ∈ lawL z, ∃ o, z.heap.get? p.1 = some o ∧ p.2 o) (B : Gd w (hideAll z.heap ((lawL z).map (·.1)))) (hgb : AllBare z.gens) (hlim : z.heap.NoLimit)
  (hl : (hideAll z.heap ((lawL z).map (·.1))).IsList l vs.toArray) (hn : IntsAre vs ns) (hlen : ns.length ≤ 63)
  (k : ∀ L m news s', St z (hideAll z.heap ((lawL z).map (·.1))) L m news s' → (∀ p ∈ lawL z, p ∈ news) → Q (.bool true) s') :
  wpC (model PySem.Challenge.rw_ny0227_01.row.prog w) callerA (call (.ref 262) [.ref l]) Q E z := by
  have X : hd.heap_1 w.params = hd.heap_1 w.params := rfl
  revert X
  k_fill
  intro X; clear X
  refine' enterTopC (binds := [(Str.ofString "script", .ref l)]) hN (by show ([2, 53, 182, 189] : List Nat).Pairwise (· ≠ ·); decide) B hgb hlim ?ho ?hcd (by decide) ?hb (by simp) ?hc ?hl ?c1 ?c2 ?c3 ?_
  case ho => k_is
  case hcd => k_is
  case hb => exact BindsTo.of_eq (by kernel_rfl)
  case hc => kernel_rfl
  case hl => kernel_rfl
  case c1 => kernel_rfl
  case c2 => kernel_rfl
  case c3 => kernel_rfl
  intro L' s₁ env D₁ hE hEq
  have hfr : (callerA.deeper env).frames = some [env] := rfl
  have hfe : env.frame = some L' := by rw [hEq]; rfl
  clear hEq
  have hh : (callerA.deeper env).handled = none := rfl
  have hA : (callerA.deeper env).depth < 440 := by show 1 + claimMargin + 1 < 440; decide
  dsimp only [bm] at D₁
  generalize hideAll z.heap ((lawL z).map (·.1)) = g at *
  have hls : ∀ {m₂ news₂ s₂}, St z g L' m₂ news₂ s₂ → s₂.heap.IsList l vs.toArray := fun D₂ => by
    refine Mine.e1_2 hl ?_
    try clear hl
    intro o e q
    exact ⟨o, D₂.keep e, q⟩
  have W := wordsOf_good ns
  refine cCutH (IWL21 z l ns L' g) ?_ ?_
  · intro R hX1
    wtm_at "ss"
    refine words_call (by assumption) B (.head _) hA hh hl hn hlen ?_
    intro T wa ga wvs gvs s₂ SW IG D₂
    wtm_at "ss"
    refine rAsgT D₂ hh (.head _) rfl rfl ?_
    intro s₃ D₃
    show wpAny _ _ (assignInOrder [assign (.Name _ _) env, assign (.Name _ _) env] _) _ _ _
    wtm_at "ss"
    exact ⟨rfl, hX1 _ (Mine.I4 _ _ _ _ (Mine.a3 SW IG (by wtm_at "D")))⟩
  intro s₂ zh2
  refine Mine.E4 zh2 ?_
  try clear zh2
  intro wa ga wvs gvs zk22
  refine Mine.e0_3 zk22 ?_
  clear zk22
  intro SW IG D₂
  generalize (wordsOf (ns.take 10)).1 = ws at *
  generalize (wordsOf (ns.take 10)).2 = gs at *
  clear D₁
  have hwl := SW.length
  have hgl := IG.length
  have hW13 := W.hi
  have hWl := W.len
  refine cCutH (IWL22 z l L' g ws gs wa ga wvs gvs) ?_ ?_
  · intro R hX1
    wtm_at "ss"
    refine rCompZ (z := z) (h₀ := g) (IWL23 ws gs) hh hE (by kernel_rfl) (by kernel_rfl) (by kernel_rfl) (by kernel_rfl) (by kernel_rfl) (by kernel_rfl) (by kernel_rfl) ?_ (fun _ => by kernel_rfl)
    wtm_at "ss"
    refine rZip2 hh (by assumption) (by wtm_at "mem") (by wtm_at "mem") ?_
    intro I fp wr Stt Mid s₃ WT hst hfp hwr D₃
    refine Mine.I9 I fp wr _ _ Stt Mid _ _ (Mine.a10 rfl WT (by lia) hst hfp hwr D₃ ?_ ?_ ?_)
    · intro i vals zh3
      refine Mine.e2_3 zh3 ?_
      try clear zh3
      intro x y zu4 zu5 zq6
      subst zq6
      exact ⟨x, y, rfl⟩
    · intro C cenv i va vb s₄ m₄ E' hE' zh7 K ha hb
      refine Mine.e2_3 zh7 ?_
      try clear zh7
      intro x y hx hy hxy
      simp only [Array.mk.injEq, List.cons.injEq, and_true] at hxy
      obtain ⟨rfl, rfl⟩ := hxy
      refine Mine.e2_2 (IG.at i _ hx) ?_
      intro gi tg zq8 hgi
      subst zq8
      refine Mine.e2_2 (SW.item i _ hy) ?_
      intro wi tw zq9 hwi
      subst zq9
      have hgb := W.gb gi (List.mem_of_getElem? hgi)
      have hwb := W.wlen wi (List.mem_of_getElem? hwi)
      refine PySem.wpAny_BinOp (PySem.wpAny_BinOp (kStr K ?_))
      intro t₁ s₅ K₁
      refine kNmL K₁ hE' (by kernel_rfl) ha ?_ (by kernel_rfl)
      refine kBlanks K₁ (by lia) (by lia) ?_
      intro t₂ s₆ K₂
      refine kNmL K₂ hE' (by kernel_rfl) hb ?_ (by kernel_rfl)
      refine kCat K₂ (by rw [blk_len, sizeLine_eq]; lia) ?_
      intro t₃ s₇ K₃
      exact ⟨⟨(gi, wi), t₃, by rw [List.getElem?_zip_eq_some]; exact ⟨hgi, hwi⟩, rfl⟩, K₃⟩
    · intro Dl ys s₄ hyl hy D₄
      have SY := strs_of (by rw [hyl, List.length_zip, hgl, hwl]) hy
      wtm_at "ss"
      refine rJoin D₄ (.head _) SY ?_ ?_
      · refine joinOk_of (n := 10000) ?_ (by decide)
        have h1 : ∀ x ∈ (gs.zip ws).map txtOf, x.length ≤ 105 := fun x hx => by
          refine Mine.e1_2 (List.mem_map.mp hx) ?_
          intro zn10 hq zq11
          obtain ⟨gi, wi⟩ := zn10
          subst zq11
          obtain ⟨q1, q2⟩ := List.of_mem_zip hq
          have hgb := W.gb gi q1
          have hwb := W.wlen wi q2
          unfold txtOf
          rw [Str.length_append, blk_len]
          simp only
          lia
        have h2 := sum_le h1
        rw [List.length_map, List.length_zip] at h2 ⊢
        rw [l0]
        lia
      intro t₅ s₅ D₅
      wtm_at "ss"
      exact ⟨rfl, hX1 _ (Mine.i2_2 _ _ text_list (by wtm_at "D"))⟩
  intro s₃ zh12
  refine Mine.e2_2 zh12 ?_
  try clear zh12
  intro x t hx D₃
  clear D₂
  refine cCutH (IWL24 z L' g wa ga wvs gvs x t) ?_ ?_
  · intro R hX1
    wtm_at "ss"
    refine rGetSlice (by assumption) (hls (by assumption)) (by wtm_at "mem") .none (.int _ _) .none (by decide) (by rw [sizeLine_eq]; have := hn.length; lia) ?_ (by kernel_rfl)
    intro l10 s₄ D₄
    have e10 : (slicePick vs.toArray none (some 10) none).toList = vs.take 10 := by
      show (slicePick vs.toArray none (some ((10 : Nat) : Int)) none).toList = vs.take 10
      rw [slicePick_upto']
    rw [e10] at D₄
    wtm_at "ss"
    refine rSum hh D₄ (.head _) (hn.take 10) ?_
    intro t₅ s₅ D₅
    wtm_at "ss"
    exact ⟨rfl, hX1 _ (Mine.I4 _ _ _ _ (Mine.a6 (by wtm_at "D") (by wtm_at "mget") (by wtm_at "mget") (by wtm_at "mget") (by wtm_at "mget") (by wtm_at "mget")))⟩
  intro s₄ zh13
  refine Mine.e4_6 zh13 ?_
  try clear zh13
  intro m₄ da sh tsh D₄ hw4 hg4 ht4 hd4 hs4
  clear D₃
  refine cCutH (IWL25 z L' g ws wa ga wvs gvs x t da sh tsh) ?_ ?_
  · intro R hX1
    wtm_at "ss"
    refine iterList (IWL26 z ws wa ga wvs gvs x t da sh tsh)
      D₄ hh (D₄.lst (by wtm_at "mem")).isList ⟨[], rfl, .nil, by simp, hw4, hg4, ht4, hd4, hs4⟩ ?_ ?_ ?_
    · intro i m' news' e s' zh14 D'
      refine Mine.e1_2 zh14 ?_
      try clear zh14
      intro dvs zq15 zu16
      subst zq15
      exact (D'.lst (by wtm_at "mem")).isList
    · intro i v m' news' it s' hv zh17 D'
      refine Mine.E1 zh17 ?_
      try clear zh17
      intro dvs zk23
      refine Mine.e0_8 zk23 ?_
      clear zk23
      intro zq18 CD hdl hw5 hg5 ht5 hd5 hs5
      subst zq18
      refine Mine.e2_2 (SW.item i v hv) ?_
      intro y ty zq19 hy
      subst zq19
      have hym := List.mem_of_getElem? hy
      have hyl := W.wlen y hym
      have hyo := W.ok y hym
      clear D₄ hw4 hg4 ht4 hd4 hs4
      have hi : i < ws.length := (List.getElem?_eq_some_iff.mp hy).1
      have htk : (ws.take (i + 1)).flatMap ranksOf = (ws.take i).flatMap ranksOf ++ ranksOf y := by rw [List.take_add_one, hy, List.flatMap_append]; simp
      wtm_at "ss"
      refine ranks_call (by assumption) B (by wtm_at "mem") hA hh (by lia) (fun c hc => wCh_small (hyo.2 c hc)) ?_
      intro dl rvs s₆ CR hrl D₆
      wtm_at "ss"
      refine turn_next (Mine.i2_2 _ _ ⟨_, rfl, ?_, ?_, ?_, ?_, ?_, ?_, ?_⟩ (by wtm_at "D"))
      · rw [htk]; exact CD.appendLM CR
      · simp; lia
      all_goals wtm_at "mget"
    · intro m' news' s' zh20 D'
      refine Mine.E1 zh20 ?_
      try clear zh20
      intro dvs zk24
      refine Mine.e0_8 zk24 ?_
      clear zk24
      intro zq21 CD hdl hw5 hg5 ht5 hd5 hs5
      subst zq21
      rw [List.take_of_length_le (by lia)] at CD
      wtm_at "ss"
      exact ⟨rfl, hX1 _ (Mine.I2 _ _ (Mine.a7 (by wtm_at "D") CD hw5 hg5 ht5 hd5 hs5))⟩
  intro s₅ zh22
  refine Mine.E2 zh22 ?_
  try clear zh22
  intro m₅ dvs zk25
  refine Mine.e0_7 zk25 ?_
  clear zk25
  intro D₅ CD hw5 hg5 ht5 hd5 hs5
  clear D₄ hw4 hg4 ht4 hd4 hs4
  refine xForC ?_ (fun _ => by kernel_rfl)
  wtm_at "ss"
  rename_i T _ D₆
  have f1 := fmod48 (26 + sh)
  have f2 := fmod48 (13 + sh)
  refine genT3 D₆ (by wtm_at "mem") (by wtm_at "mem") (by wtm_at "mem") (by lia) (by lia) (by lia) ?_
  intro LB vals hT hvals hr D₇
  have hda := hr (da, isLst dvs) (by wtm_at "mem")
  have hga := hr (ga, isLst gvs) (by wtm_at "mem")
  have hwa := hr (wa, isLst wvs) (by wtm_at "mem")
  have hst := hr (cStatics, isStat z) (by wtm_at "mem")
  have h53 := hr (53, isTab) (by wtm_at "mem")
  have h182 := hr (182, isTab) (by wtm_at "mem")
  have h189 := hr (189, isTab) (by wtm_at "mem")
  clear hr D₅ D₆ f1 f2
  refine iterTplC (fun i m' news' => news' = LB ∧ m' (Str.ofString "words") = some (.ref wa) ∧ m' (Str.ofString "gaps") = some (.ref ga) ∧ m' (Str.ofString "text") = some (.str x t) ∧ m' (Str.ofString "due") = some (.ref da))
    D₇ hh ⟨rfl, hw5, hg5, ht5, hd5⟩ (by rintro i m' news' ⟨rfl, _⟩; exact hT) ?_ ?_ ?_
  · intro it i v s' Q' hit hv hQ
    refine Mine.E5 (hvals v hv) ?_
    intro a zu23 zu24 zu25 zu26 zk26
    refine Mine.e0_2 zk26 ?_
    clear zk26
    intro zq27 zu28
    subst zq27
    exact goTupT hit hQ
  · intro i v m' news' it s' hv zh29 D'
    refine Mine.e0_5 zh29 ?_
    try clear zh29
    intro zq30 hw6 hg6 ht6 hd6
    subst zq30
    refine Mine.E5 (hvals v (List.mem_of_getElem? hv)) ?_
    intro a hd wd t1 t2 zk27
    refine Mine.e0_4 zk27 ?_
    clear zk27
    intro zq31 ha nh nw
    subst zq31
    clear hw5 hg5 ht5 hd5 hs5 D₇
    refine rAsgT D' hh (.tail _ ha) rfl rfl ?_
    intro s₆ D₆
    show wpAny _ _ (assignInOrder [assign (.Name _ _) env, assign (.Name _ _) env] _) _ _ _
    wtm_at "ss"
    rename_i D₈
    refine cCut3H (IWL27 z L' g ws gs wa ga x t da T i news' it hd wd) ?_ ?_
    · intro R hX1
      clear D' D₆
      wtm_at "ss"
      refine rows_call (by assumption) B (by wtm_at "mem") hA hh (by wtm_at "mem") (by wtm_at "mem") SW IG (by lia) W.lo W.len (fun y hy => by have := W.wl y hy; lia) W.gb (by lia) (by lia) ?_
      intro ra rvs rows s₉ SR hR D₉
      wtm_at "ss"
      have hxs : x.cps.size ≤ 129 := by rw [← Array.length_toList, hx]; exact text_len W
      have hne : ∀ p, (prsOf ws gs)[0]? = some p → p.2.length ≠ 0 := fun p hp => by
        have := (W.ok _ (prs_mem W (List.mem_of_getElem? hp)).2.2).1
        rw [len_toList]
        exact fun q => this (List.eq_nil_of_length_eq_zero q)
      have hpl : (prsOf ws gs).length ≤ 60 := by rw [prs_len W]; lia
      refine fold_call (b := true) (prs := prsOf ws gs) (by assumption) B (by wtm_at "mem") (by wtm_at "mem") (by wtm_at "mem") hA (by show 4 + 3 < 6800; decide) hh (by lia) (by kernel_rfl) (by lia) (text_cut W hx) hne hpl (fun p hp => prs_good W hp) (fun _ => ⟨rfl, fun p hp => prs_tail W hp⟩) ?_
      intro U la lvs k₁ ps₁ ls₁ ys s₁₀ hS hys hvs D₁₀
      have hT1 : Told true wd hd ws gs ys := ⟨k₁, ps₁, ls₁, hS, hys⟩
      rw [split_join hT1.ne (hT1.nl W)] at hvs
      replace D₁₀ := D₁₀.sub (news' := (la, isLst lvs) :: (ra, isLst rvs) :: (it, isTI T (i + 1)) :: news') (by rw [List.cons_append]; exact .cons_cons _ (List.sublist_append_right _ _))
      wtm_at "ss"
      refine fold_call (b := false) (prs := prsOf ws gs) (by assumption) B (by wtm_at "mem") (by wtm_at "mem") (by wtm_at "mem") hA (by show 4 + 3 < 6800; decide) hh (by lia) (by kernel_rfl) (by lia) (text_cut W hx) hne hpl (fun p hp => prs_good W hp) (fun q => by cases q) ?_
      intro U' oa ovs k₂ ps₂ ls₂ zs s₁₁ hS2 hys2 hvs2 D₁₁
      have hT2 : Told false wd hd ws gs zs := ⟨k₂, ps₂, ls₂, hS2, hys2⟩
      rw [split_join hT2.ne (hT2.nl W)] at hvs2
      replace D₁₁ := D₁₁.sub (news' := (oa, isLst ovs) :: (la, isLst lvs) :: (ra, isLst rvs) :: (it, isTI T (i + 1)) :: news') (by rw [List.cons_append]; exact .cons_cons _ (List.sublist_append_right _ _))
      wtm_at "ss"
      exact ⟨rfl, hX1 _ (Mine.I10 _ ra la oa rvs lvs ovs rows ys zs (Mine.a14 (by wtm_at "D") SR hvs hvs2 hR hT1 hT2 (by wtm_at "mget") (by wtm_at "mget") (by wtm_at "mget") (by wtm_at "mget") (by wtm_at "mget") (by wtm_at "mget") (by wtm_at "mget")))⟩
    intro s₇ zh32
    refine Mine.E10 zh32 ?_
    clear zh32
    intro m₇ ra la oa rvs lvs ovs rows lines others zk
    refine Mine.e0_14 zk ?_
    clear zk
    intro D₇ SR SL SO hR hT1 hT2 hw7 hg7 ht7 hd7 hr7 hl7 ho7
    clear D₈ D₆ D' hw6 hg6 ht6 hd6
    have hRL : lines = rows := hT1.isRows W hR
    subst hRL
    refine cCutH (IWL28 z L' g wa ga x t da T i news' it ra la oa rvs lvs ovs) ?_ ?_
    · intro R hX1
      wtm_at "ss"
      refine xIf' ?_
      wtm_at "ss"
      refine rNeS (by assumption) (by wtm_at "mem") (by wtm_at "mem") (carried_strs SL) (carried_strs SR) (flat_strs (hT1.ok W)) (by show 4 + 3 + 64 < cLine; decide) ?_
      wtm_at "ss"
      refine rJoin (by assumption) (by wtm_at "mem") SO (hT2.joinOk W) ?_
      intro t₈ s₈ D₈
      wtm_at "ss"
      refine rJoin (by assumption) (by wtm_at "mem") SR (hT1.joinOk W) ?_
      intro t₉ s₉ D₉
      wtm_at "ss"
      rw [hT1.join W hT2, bne_self_eq_false]
      wtm_at "ss"
      exact ⟨rfl, hX1 _ (Mine.i1_7 _ (by wtm_at "D") (by wtm_at "mget") (by wtm_at "mget") (by wtm_at "mget") (by wtm_at "mget") (by wtm_at "mget") (by wtm_at "mget"))⟩
    clear hr7 hw7 hg7 ht7 hd7 hl7 ho7 D₇
    intro s₈ zh33
    refine Mine.E1 zh33 ?_
    try clear zh33
    intro m₈ zk28
    refine Mine.e0_7 zk28 ?_
    clear zk28
    intro D₈ hw8 hg8 ht8 hd8 hl8 ho8
    refine xForC ?_ (fun _ => by kernel_rfl)
    wtm_at "ss"
    rename_i T2 _ D₉
    refine iterTplC (fun j m' news'' => news'' = (T2, isTpl [.ref la, .ref oa]) :: (oa, isLst ovs) :: (la, isLst lvs) :: (ra, isLst rvs) :: (it, isTI T (i + 1)) :: news' ∧ m' (Str.ofString "words") = some (.ref wa) ∧ m' (Str.ofString "gaps") = some (.ref ga) ∧ m' (Str.ofString "text") = some (.str x t) ∧ m' (Str.ofString "due") = some (.ref da))
      D₉ hh ⟨rfl, hw8, hg8, ht8, hd8⟩ (by rintro j m' news'' ⟨rfl, _⟩; exact .head _) ?_ ?_ ?_
    · intro it2 j v2 s' Q' _ _ hQ
      exact wpAny_pure hQ
    · intro j v2 m' news'' it2 s' hv2 zh34 D'
      refine Mine.e0_5 zh34 ?_
      try clear zh34
      intro zq35 hw9 hg9 ht9 hd9
      subst zq35
      obtain ⟨a2, tvs, told, b, rfl, ha2, ST, hTo⟩ : ∃ a2 tvs told b, v2 = .ref a2 ∧ (a2, isLst tvs) ∈ ((T2, isTpl [.ref la, .ref oa]) :: (oa, isLst ovs) :: (la, isLst lvs) :: (ra, isLst rvs) :: (it, isTI T (i + 1)) :: news') ∧ StrsAre tvs told ∧ Told b wd hd ws gs told := by
        have := List.mem_of_getElem? hv2
        simp only [List.mem_cons, List.not_mem_nil, or_false] at this
        rcases this with rfl | rfl
        · exact Mine.I4 _ lvs _ true (Mine.a4 rfl (.tail _ (.tail _ (.head _))) SL hT1)
        · exact Mine.I4 _ ovs _ false (Mine.a4 rfl (.tail _ (.head _)) SO hT2)
      clear D₈ D₉ hw8 hg8 ht8 hd8 hl8 ho8
      have hst2 := List.mem_cons_of_mem (T2, isTpl [.ref la, .ref oa]) (List.mem_cons_of_mem (oa, isLst ovs) (List.mem_cons_of_mem (la, isLst lvs) (List.mem_cons_of_mem (ra, isLst rvs) (List.mem_cons_of_mem (it, isTI T (i + 1)) hst))))
      have h532 := List.mem_cons_of_mem (T2, isTpl [.ref la, .ref oa]) (List.mem_cons_of_mem (oa, isLst ovs) (List.mem_cons_of_mem (la, isLst lvs) (List.mem_cons_of_mem (ra, isLst rvs) (List.mem_cons_of_mem (it, isTI T (i + 1)) h53))))
      have hda2 := List.mem_cons_of_mem (T2, isTpl [.ref la, .ref oa]) (List.mem_cons_of_mem (oa, isLst ovs) (List.mem_cons_of_mem (la, isLst lvs) (List.mem_cons_of_mem (ra, isLst rvs) (List.mem_cons_of_mem (it, isTI T (i + 1)) hda))))
      generalize hL2 : (T2, isTpl [.ref la, .ref oa]) :: (oa, isLst ovs) :: (la, isLst lvs) :: (ra, isLst rvs) :: (it, isTI T (i + 1)) :: news' = LB2 at *
      wtm_at "ss"
      rename_i D₁₀
      refine cCutH (IWL29 z L' g wa ga x t da T2 j it2 a2 told LB2) ?_ ?_
      · intro R hX1
        wtm_at "s1"
        wtm_at "s1"
        wtm_at "s1"
        refine rStarL (by assumption) B (by kernel_rfl) ?_ (by kernel_rfl)
        wtm_at "ss"
        refine Mine.I4 a2 tvs _ _ (Mine.a5 rfl (by assumption) (.tail _ ha2) (by have := ST.length; have := hTo.num W; rw [sizeLine_eq]; lia) (fun s₁₂ D₁₂ => ?_))
        refine plat_call D₁₂ B (.tail _ hst2) (.tail _ h532) hA hh ST (by have := hTo.num W; lia) (fun q hq => by have := hTo.line W q hq; lia) ?_
        intro y ty s₁₃ hy hyl D₁₃
        wtm_at "ss"
        exact ⟨rfl, hX1 _ (Mine.I3 _ y ty (Mine.a8 (by wtm_at "D") hy (by wtm_at "mget") (by wtm_at "mget") (by wtm_at "mget") (by wtm_at "mget") (by wtm_at "mget") (by wtm_at "mget")))⟩
      intro s₁₁ zh36
      refine Mine.E3 zh36 ?_
      try clear zh36
      intro m₁₁ y ty zk29
      refine Mine.e0_8 zk29 ?_
      clear zk29
      intro D₁₁ hy hw11 hg11 ht11 hd11 hto11 hn11
      clear D₁₀ D' hw9 hg9 ht9 hd9
      refine Mine.e0_4 (hTo.version W hy) ?_
      intro hV1 hV2 hV3 hV4
      refine' xIfC (b := false) (I := fun s' => ∃ m', St z g L' m' ((it2, isTI T2 (j + 1)) :: LB2) s' ∧ m' (Str.ofString "words") = some (.ref wa) ∧ m' (Str.ofString "gaps") = some (.ref ga) ∧ m' (Str.ofString "text") = some (.str x t) ∧ m' (Str.ofString "due") = some (.ref da)) (cOr (wpC_of ?t1)) ?hT ?hF
      case t1 =>
        wtm_at "ss"
        refine name_call (by assumption) B (.tail _ hst2) hA hh (.tail _ ha2) ST (by have := hTo.num W; lia) (fun q hq => by have := hTo.line W q hq; lia) ?_
        intro t₁₂ s₁₂ D₁₂
        wtm_at "ss"
        rw [show y.cps.toList = (nameS told).cps.toList from by rw [← hV1], bne_self_eq_false]
        wtm_at "ss"
        refine cOr (cCompare (cCallE ?_ (by kernel_rfl)) (by kernel_rfl))
        wtm_at "s1"
        refine cG1C (by kernel_rfl) ?_ (by kernel_rfl)
        wtm_at "ss"
        refine ⟨D₁₂.X B, ?_⟩
        refine cv_call D₁₂ B (.tail _ hst2) hA hh hfr hfe (by rw [hE.kind]; intro q; cases q) (by lia) hV3 ?_
        intro rl rvs2 s₁₃ CR D₁₃
        rw [hV4] at CR
        wtm_at "ss"
        refine rNeS D₁₃ (.head _) (.tail _ (.tail _ hda2)) CR CD (flat_ranks fun q hq c hc => wCh_small ((W.ok q hq).2 c hc)) (by show 4 + 3 + 64 < cLine; decide) ?_
        wtm_at "ss"
        refine wpC_of (PyProof.Rows.isTrue_or_nil ⟨rfl, _, by wtm_at "D", hw11, hg11, ht11, hd11⟩)
      case hT => intro q; cases q
      case hF =>
        intro _ s₁₂ zh37
        refine Mine.E1 zh37 ?_
        try clear zh37
        intro m₁₂ zk30
        refine Mine.e0_5 zk30 ?_
        clear zk30
        intro D₁₂ hw12 hg12 ht12 hd12
        refine wpC_of ?_
        wtm_at "ss"
        refine andThenC_next (wpC_of ?_)
        wtm_at "ss"
        exact turn_next (Mine.i2_2 _ _ ⟨rfl, hw12, hg12, ht12, hd12⟩ D₁₂)
    · intro m' news'' s' zh38 D'
      refine Mine.e0_5 zh38 ?_
      try clear zh38
      intro zq39 hw9 hg9 ht9 hd9
      subst zq39
      wtm_at "ss"
      refine andThenC_next (wpC_of ?_)
      wtm_at "ss"
      exact turn_next (Mine.i2_2 _ _ ⟨rfl, hw9, hg9, ht9, hd9⟩ (D'.sub (.cons _ (.cons _ (.cons _ (.cons _ (List.Sublist.refl _)))))))
  · rintro m' news' s' ⟨rfl, _⟩ D'
    wtm_at "ss"
    refine andThenC_next (wpC_of ?_)
    wtm_at "ss"
    refine k L' m' _ s' D' (fun p hp => ?_)
    simp only [List.mem_cons, List.not_mem_nil, or_false] at hp
    rcases hp with rfl | rfl | rfl | rfl
    · exact hst
    · exact h53
    · exact h182
    · exact h189
end Mine
end

end

section
open PySem PySem.W PySem.W.X PyProof.Rows PySem.Calls
set_option maxRecDepth 100000
set_option maxHeartbeats 8000000
namespace Mine
theorem look_gone (b : Addr) : ∀ K : Frag, (K.filter fun p => p.1 != b).lookup b = none
  | [] => rfl
  | (c, o) :: r => by
    have ih := look_gone b r
    rw [List.filter_cons]
    by_cases hc : c = b
    · subst hc; simpa using ih
    · have h1 : (c != b) = true := by simpa using hc
      have h2 : (b == c) = false := by simpa using (fun q => hc q.symm)
      simp only [h1, if_true, List.lookup_cons, h2, ih]
theorem no53 (P : Params) : (hd.heap_1 P).lookup 53 = none := by kernel_rfl
theorem no182 (P : Params) : (hd.heap_1 P).lookup 182 = none := by kernel_rfl
theorem no189 (P : Params) : (hd.heap_1 P).lookup 189 = none := by kernel_rfl
theorem st2 (P : Params) : ((hd.heap_1 P).lookup 2).any (fun o => (match o.cls with | .none => true | _ => false) && (match o.data with | .dict es _ => (nsFind es (Str.ofString "thirdparty.any")).isNone | _ => false)) = true := by kernel_rfl
theorem table_was {h h' : Heap} {c P : Addr} {o : Obj} (hc : CodeHd h c P) (h0 : h.get? P = some (tabObj #[])) (e : h.get? P = some o) (h1 : ∃ o', h'.get? P = some o' ∧ isTab o') : asItWas h h' P o ∧ ∃ o', h'.get? P = some o' := by
  rw [h0] at e
  cases e
  obtain ⟨o', ho', ps, rfl, _⟩ := h1
  refine Mine.E9 hc ?_
  try clear hc
  intro oc vs f tf fl tg b n tt zk11
  refine Mine.e0_5 zk11 ?_
  clear zk11
  intro e1 e2 e3 e4 zu1
  refine ⟨.inr (.inl ⟨⟨c, oc, vs, e1, e2, e3, e4⟩, rfl, #[], ps, rfl, ?_⟩), _, ho'⟩
  rw [ho']
  simp [tabObj]
theorem law_holds : PySem.Challenge.rw_ny0227_01.Holds := by
  refine hd ⟨hd_left, ?_⟩
  k_fill
  intro w s₀ s₁ mg mb G Y fa o pm cd doc dV kV ho hd' hcd hD hmg hg args vals as hpre hlay hrd hwl hlo
  have KX := km_in_of Y
  have hT := km_tabs_of Y
  have T := G.T
  clear hD hcd ho hd'
  wrow_args hpre hlay hrd hwl hlo
  rename_i ns h2 h3 h4 h5 h6 h7 h8 l vs h11 hl h13 h14 h15 hI h17 hlen h19
  have hfa : fa = 262 := by
    have e1 : mg (Str.ofString "law") = some (.ref fa) := hmg
    have e2 : mg (Str.ofString "law") = some (.ref 262) := mg_of KX T.g (by k_is)
    rw [e1] at e2
    injection e2 with e2
    injection e2
  subst hfa
  have c53 := codeHd_of_K (c := 57) (P := 53) KX (by kernel_rfl)
  have c182 := codeHd_of_K (c := 186) (P := 182) KX (by kernel_rfl)
  have c189 := codeHd_of_K (c := 193) (P := 189) KX (by kernel_rfl)
  clear hmg
  show wpC _ _ (call (.ref 262) [.ref l]) _ _ _
  have t53 := hT 53 (by decide)
  have t182 := hT 182 (by decide)
  have t189 := hT 189 (by decide)
  have hS : ∃ o, s₁.heap.get? 2 = some o ∧ isStat s₁ o ∧ o.cls = .none := by
    refine Mine.e1_2 (T.nolimit) ?_
    intro mc zn2 e5
    refine Mine.e3_4 zn2 ?_
    try clear zn2
    intro o es ep e1 e2 e3 e4
    have hs2 := st2 w.params
    cases hl2 : (hd.heap_1 w.params).lookup 2 with
    | none => rw [hl2] at hs2; cases hs2
    | some o' =>
      have e6 := KX 2 o' hl2
      have e1' : s₁.heap.get? 2 = some o := e1
      rw [e6] at e1'
      cases e1'
      rw [hl2] at hs2
      simp only [Option.any_some, Bool.and_eq_true] at hs2
      refine Mine.i1_3 _ e6 ⟨e6, es, ep, mc, e2, e3, e4, e5, ?_⟩ ?_
      · have := hs2.2
        rw [e2] at this
        rw [← e4]
        exact Option.isNone_iff_eq_none.mp this
      · have := hs2.1
        split at this
        · assumption
        · cases this
  refine Mine.e1_3 hS ?_
  try clear hS
  intro o2 g2 st cl2
  have hide : ∀ b o, s₁.heap.get? b = some o → o.cls ≠ .none → (hideAll s₁.heap ((lawL s₁).map (·.1))).get? b = some o := fun b o e hc => hideAll_get _ e fun q => by
    have q' : b ∈ ([2, 53, 182, 189] : List Nat) := q
    simp only [List.mem_cons, List.not_mem_nil, or_false] at q'
    rcases q' with rfl | rfl | rfl | rfl
    · rw [g2] at e; cases e; exact hc cl2
    · rw [t53] at e; cases e; exact hc rfl
    · rw [t182] at e; cases e; exact hc rfl
    · rw [t189] at e; cases e; exact hc rfl
  have hideN : ∀ a m, s₁.heap.Ns a m → a ∉ ([2, 53, 182, 189] : List Nat) → (hideAll s₁.heap ((lawL s₁).map (·.1))).Ns a m := fun a m hn hne => by
    refine Mine.e3_2 hn ?_
    try clear hn
    intro o es ep e1 r
    exact Mine.I3 o es ep (Mine.a2 (hideAll_get _ e1 hne) r)
  have B : Gd w (hideAll s₁.heap ((lawL s₁).map (·.1))) := by
    refine ⟨fun a o e => ?_, ?_, ⟨mg, hideN _ _ T.g (by decide)⟩, ⟨mb, hideN _ _ T.b (by decide), T.builtins⟩, ?_⟩
    · have hne2 : (a == cStatics) = false := by
        cases q : (a == cStatics) with
        | false => rfl
        | true =>
          have : a = cStatics := by simpa using q
          subst this
          unfold Kx at e
          rw [look_gone] at e; cases e
      rw [kx_look hne2] at e
      refine hideAll_get _ (KX _ _ e) fun q => ?_
      have q' : a ∈ ([2, 53, 182, 189] : List Nat) := q
      simp only [List.mem_cons, List.not_mem_nil, or_false] at q'
      rcases q' with rfl | rfl | rfl | rfl
      · cases hne2
      · rw [no53] at e; cases e
      · rw [no182] at e; cases e
      · rw [no189] at e; cases e
    · rw [hideAll_size]
      exact Nat.le_trans (by decide : 100 ≤ 189) (Nat.le_of_lt (Heap.lt_size t189))
    · refine Mine.E2 (T.bmain) ?_
      intro bm ob zk12
      refine Mine.e0_6 zk12 ?_
      clear zk12
      intro b1 b2 b3 b4 b5 b6
      exact Mine.I3 mg bm ob ⟨hideN _ _ T.g (by decide), b1, b2, hide _ _ b3 (by rw [b4]; intro q; cases q), b4, b5, b6⟩
  refine law_call (ns := ns) (vs := vs) (fun p hp => ?_) B (.of_eq hg) T.nolimit ?_ hI (by lia) ?_
  · simp only [List.mem_cons, List.not_mem_nil, or_false] at hp
    rcases hp with rfl | rfl | rfl | rfl
    · exact ⟨o2, g2, st⟩
    · exact ⟨_, t53, (Mine.i1_2 (#[]) rfl trivial)⟩
    · exact ⟨_, t182, (Mine.i1_2 (#[]) rfl trivial)⟩
    · exact ⟨_, t189, (Mine.i1_2 (#[]) rfl trivial)⟩
  · refine Mine.e1_3 hl ?_
    try clear hl
    intro o e hc r
    exact Mine.i1_3 o (hide _ _ e (by rw [hc]; intro q; cases q)) hc r
  · intro L m news s' D hin
    have hold : ∀ b ob, s₁.heap.get? b = some ob → asItWas s₁.heap s'.heap b ob ∧ ∃ o', s'.heap.get? b = some o' := fun b ob e => by
      by_cases q : b ∈ ([2, 53, 182, 189] : List Nat)
      · simp only [List.mem_cons, List.not_mem_nil, or_false] at q
        rcases q with rfl | rfl | rfl | rfl
        · refine Mine.e1_3 (D.get (hin (cStatics, isStat s₁) (.head _))) ?_
          intro o' e' s1 zu3
          have s1' : s₁.heap.get? 2 = some o' := s1
          rw [e] at s1'
          cases s1'
          exact ⟨.inl e', _, e'⟩
        · exact table_was c53 t53 e (D.get (hin (53, isTab) (.tail _ (.head _))))
        · exact table_was c182 t182 e (D.get (hin (182, isTab) (.tail _ (.tail _ (.head _)))))
        · exact table_was c189 t189 e (D.get (hin (189, isTab) (.tail _ (.tail _ (.tail _ (.head _))))))
      · have := D.keep (hideAll_get _ e q)
        exact ⟨.inl this, _, this⟩
    refine Mine.i0_4 (.inl ⟨.bool true, .bool true, [], rfl, fun _ => rfl, .bool true, ?_, fun _ => ⟨List.nodup_nil, fun a ha => by cases ha⟩⟩) ⟨fun b ob e => (hold b ob e).1, fun b ob e => (hold b ob e).2⟩ D.os D.gb
    first | kernel_rfl | with_unfolding_all rfl
end Mine
end

set_option maxRecDepth 100000 in
theorem PySem.Challenge.cw_ny0227_01_holds : PySem.Challenge.rw_ny0227_01.Holds := by
  exact Mine.law_holds
