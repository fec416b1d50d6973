import PyProof.Rows.All
import Wide.All
import OpenK.AllK
import Wide.FinOn
import Lean
import PySem.Challenge.RW_kt0007_01
set_option Elab.async false
set_option linter.unusedVariables false
set_option maxRecDepth 100000
set_option maxHeartbeats 4000000
set_option compiler.extract_closed false
section
/-! to take apart, and to build, rows of ∃ and of ∧ in one step: the goal and the rest are not told anew at each -/
namespace Mine
theorem ex1.{u0} {α0 : Sort u0} {P : α0 → Prop} {g : Prop} (h0 : ∃ a0, P a0) (f : ∀ a0, P a0 → g) : g := Exists.elim h0 fun a0 h1 => f a0 h1
theorem ex2.{u0, u1} {α0 : Sort u0} {α1 : Sort u1} {P : α0 → α1 → Prop} {g : Prop} (h0 : ∃ a0 a1, P a0 a1) (f : ∀ a0 a1, P a0 a1 → g) : g := Exists.elim h0 fun a0 h1 => Exists.elim h1 fun a1 h2 => f a0 a1 h2
theorem exi2.{u0, u1} {α0 : Sort u0} {α1 : Sort u1} {P : α0 → α1 → Prop} (a0 : α0) (a1 : α1) (h : P a0 a1) : ∃ a0 a1, P a0 a1 := ⟨a0, a1, h⟩
theorem ex3.{u0, u1, u2} {α0 : Sort u0} {α1 : Sort u1} {α2 : Sort u2} {P : α0 → α1 → α2 → Prop} {g : Prop} (h0 : ∃ a0 a1 a2, P a0 a1 a2) (f : ∀ a0 a1 a2, P a0 a1 a2 → g) : g := Exists.elim h0 fun a0 h1 => Exists.elim h1 fun a1 h2 => Exists.elim h2 fun a2 h3 => f a0 a1 a2 h3
theorem exi3.{u0, u1, u2} {α0 : Sort u0} {α1 : Sort u1} {α2 : Sort u2} {P : α0 → α1 → α2 → Prop} (a0 : α0) (a1 : α1) (a2 : α2) (h : P a0 a1 a2) : ∃ a0 a1 a2, P a0 a1 a2 := ⟨a0, a1, a2, h⟩
theorem ex4.{u0, u1, u2, u3} {α0 : Sort u0} {α1 : Sort u1} {α2 : Sort u2} {α3 : Sort u3} {P : α0 → α1 → α2 → α3 → Prop} {g : Prop} (h0 : ∃ a0 a1 a2 a3, P a0 a1 a2 a3) (f : ∀ a0 a1 a2 a3, P a0 a1 a2 a3 → g) : g := Exists.elim h0 fun a0 h1 => Exists.elim h1 fun a1 h2 => Exists.elim h2 fun a2 h3 => Exists.elim h3 fun a3 h4 => f a0 a1 a2 a3 h4
theorem exi4.{u0, u1, u2, u3} {α0 : Sort u0} {α1 : Sort u1} {α2 : Sort u2} {α3 : Sort u3} {P : α0 → α1 → α2 → α3 → Prop} (a0 : α0) (a1 : α1) (a2 : α2) (a3 : α3) (h : P a0 a1 a2 a3) : ∃ a0 a1 a2 a3, P a0 a1 a2 a3 := ⟨a0, a1, a2, a3, h⟩
theorem ex5.{u0, u1, u2, u3, u4} {α0 : Sort u0} {α1 : Sort u1} {α2 : Sort u2} {α3 : Sort u3} {α4 : Sort u4} {P : α0 → α1 → α2 → α3 → α4 → Prop} {g : Prop} (h0 : ∃ a0 a1 a2 a3 a4, P a0 a1 a2 a3 a4) (f : ∀ a0 a1 a2 a3 a4, P a0 a1 a2 a3 a4 → g) : g := Exists.elim h0 fun a0 h1 => Exists.elim h1 fun a1 h2 => Exists.elim h2 fun a2 h3 => Exists.elim h3 fun a3 h4 => Exists.elim h4 fun a4 h5 => f a0 a1 a2 a3 a4 h5
theorem exi5.{u0, u1, u2, u3, u4} {α0 : Sort u0} {α1 : Sort u1} {α2 : Sort u2} {α3 : Sort u3} {α4 : Sort u4} {P : α0 → α1 → α2 → α3 → α4 → Prop} (a0 : α0) (a1 : α1) (a2 : α2) (a3 : α3) (a4 : α4) (h : P a0 a1 a2 a3 a4) : ∃ a0 a1 a2 a3 a4, P a0 a1 a2 a3 a4 := ⟨a0, a1, a2, a3, a4, h⟩
theorem ex6.{u0, u1, u2, u3, u4, u5} {α0 : Sort u0} {α1 : Sort u1} {α2 : Sort u2} {α3 : Sort u3} {α4 : Sort u4} {α5 : Sort u5} {P : α0 → α1 → α2 → α3 → α4 → α5 → Prop} {g : Prop} (h0 : ∃ a0 a1 a2 a3 a4 a5, P a0 a1 a2 a3 a4 a5) (f : ∀ a0 a1 a2 a3 a4 a5, P a0 a1 a2 a3 a4 a5 → g) : g := Exists.elim h0 fun a0 h1 => Exists.elim h1 fun a1 h2 => Exists.elim h2 fun a2 h3 => Exists.elim h3 fun a3 h4 => Exists.elim h4 fun a4 h5 => Exists.elim h5 fun a5 h6 => f a0 a1 a2 a3 a4 a5 h6
theorem exi6.{u0, u1, u2, u3, u4, u5} {α0 : Sort u0} {α1 : Sort u1} {α2 : Sort u2} {α3 : Sort u3} {α4 : Sort u4} {α5 : Sort u5} {P : α0 → α1 → α2 → α3 → α4 → α5 → Prop} (a0 : α0) (a1 : α1) (a2 : α2) (a3 : α3) (a4 : α4) (a5 : α5) (h : P a0 a1 a2 a3 a4 a5) : ∃ a0 a1 a2 a3 a4 a5, P a0 a1 a2 a3 a4 a5 := ⟨a0, a1, a2, a3, a4, a5, h⟩
theorem ex7.{u0, u1, u2, u3, u4, u5, u6} {α0 : Sort u0} {α1 : Sort u1} {α2 : Sort u2} {α3 : Sort u3} {α4 : Sort u4} {α5 : Sort u5} {α6 : Sort u6} {P : α0 → α1 → α2 → α3 → α4 → α5 → α6 → Prop} {g : Prop} (h0 : ∃ a0 a1 a2 a3 a4 a5 a6, P a0 a1 a2 a3 a4 a5 a6) (f : ∀ a0 a1 a2 a3 a4 a5 a6, P a0 a1 a2 a3 a4 a5 a6 → g) : g := Exists.elim h0 fun a0 h1 => Exists.elim h1 fun a1 h2 => Exists.elim h2 fun a2 h3 => Exists.elim h3 fun a3 h4 => Exists.elim h4 fun a4 h5 => Exists.elim h5 fun a5 h6 => Exists.elim h6 fun a6 h7 => f a0 a1 a2 a3 a4 a5 a6 h7
theorem exi7.{u0, u1, u2, u3, u4, u5, u6} {α0 : Sort u0} {α1 : Sort u1} {α2 : Sort u2} {α3 : Sort u3} {α4 : Sort u4} {α5 : Sort u5} {α6 : Sort u6} {P : α0 → α1 → α2 → α3 → α4 → α5 → α6 → Prop} (a0 : α0) (a1 : α1) (a2 : α2) (a3 : α3) (a4 : α4) (a5 : α5) (a6 : α6) (h : P a0 a1 a2 a3 a4 a5 a6) : ∃ a0 a1 a2 a3 a4 a5 a6, P a0 a1 a2 a3 a4 a5 a6 := ⟨a0, a1, a2, a3, a4, a5, a6, h⟩
theorem ex8.{u0, u1, u2, u3, u4, u5, u6, u7} {α0 : Sort u0} {α1 : Sort u1} {α2 : Sort u2} {α3 : Sort u3} {α4 : Sort u4} {α5 : Sort u5} {α6 : Sort u6} {α7 : Sort u7} {P : α0 → α1 → α2 → α3 → α4 → α5 → α6 → α7 → Prop} {g : Prop} (h0 : ∃ a0 a1 a2 a3 a4 a5 a6 a7, P a0 a1 a2 a3 a4 a5 a6 a7) (f : ∀ a0 a1 a2 a3 a4 a5 a6 a7, P a0 a1 a2 a3 a4 a5 a6 a7 → g) : g := Exists.elim h0 fun a0 h1 => Exists.elim h1 fun a1 h2 => Exists.elim h2 fun a2 h3 => Exists.elim h3 fun a3 h4 => Exists.elim h4 fun a4 h5 => Exists.elim h5 fun a5 h6 => Exists.elim h6 fun a6 h7 => Exists.elim h7 fun a7 h8 => f a0 a1 a2 a3 a4 a5 a6 a7 h8
theorem exi8.{u0, u1, u2, u3, u4, u5, u6, u7} {α0 : Sort u0} {α1 : Sort u1} {α2 : Sort u2} {α3 : Sort u3} {α4 : Sort u4} {α5 : Sort u5} {α6 : Sort u6} {α7 : Sort u7} {P : α0 → α1 → α2 → α3 → α4 → α5 → α6 → α7 → Prop} (a0 : α0) (a1 : α1) (a2 : α2) (a3 : α3) (a4 : α4) (a5 : α5) (a6 : α6) (a7 : α7) (h : P a0 a1 a2 a3 a4 a5 a6 a7) : ∃ a0 a1 a2 a3 a4 a5 a6 a7, P a0 a1 a2 a3 a4 a5 a6 a7 := ⟨a0, a1, a2, a3, a4, a5, a6, a7, h⟩
theorem ex9.{u0, u1, u2, u3, u4, u5, u6, u7, u8} {α0 : Sort u0} {α1 : Sort u1} {α2 : Sort u2} {α3 : Sort u3} {α4 : Sort u4} {α5 : Sort u5} {α6 : Sort u6} {α7 : Sort u7} {α8 : Sort u8} {P : α0 → α1 → α2 → α3 → α4 → α5 → α6 → α7 → α8 → Prop} {g : Prop} (h0 : ∃ a0 a1 a2 a3 a4 a5 a6 a7 a8, P a0 a1 a2 a3 a4 a5 a6 a7 a8) (f : ∀ a0 a1 a2 a3 a4 a5 a6 a7 a8, P a0 a1 a2 a3 a4 a5 a6 a7 a8 → g) : g := Exists.elim h0 fun a0 h1 => Exists.elim h1 fun a1 h2 => Exists.elim h2 fun a2 h3 => Exists.elim h3 fun a3 h4 => Exists.elim h4 fun a4 h5 => Exists.elim h5 fun a5 h6 => Exists.elim h6 fun a6 h7 => Exists.elim h7 fun a7 h8 => Exists.elim h8 fun a8 h9 => f a0 a1 a2 a3 a4 a5 a6 a7 a8 h9
theorem exi9.{u0, u1, u2, u3, u4, u5, u6, u7, u8} {α0 : Sort u0} {α1 : Sort u1} {α2 : Sort u2} {α3 : Sort u3} {α4 : Sort u4} {α5 : Sort u5} {α6 : Sort u6} {α7 : Sort u7} {α8 : Sort u8} {P : α0 → α1 → α2 → α3 → α4 → α5 → α6 → α7 → α8 → Prop} (a0 : α0) (a1 : α1) (a2 : α2) (a3 : α3) (a4 : α4) (a5 : α5) (a6 : α6) (a7 : α7) (a8 : α8) (h : P a0 a1 a2 a3 a4 a5 a6 a7 a8) : ∃ a0 a1 a2 a3 a4 a5 a6 a7 a8, P a0 a1 a2 a3 a4 a5 a6 a7 a8 := ⟨a0, a1, a2, a3, a4, a5, a6, a7, a8, h⟩
theorem ex10.{u0, u1, u2, u3, u4, u5, u6, u7, u8, u9} {α0 : Sort u0} {α1 : Sort u1} {α2 : Sort u2} {α3 : Sort u3} {α4 : Sort u4} {α5 : Sort u5} {α6 : Sort u6} {α7 : Sort u7} {α8 : Sort u8} {α9 : Sort u9} {P : α0 → α1 → α2 → α3 → α4 → α5 → α6 → α7 → α8 → α9 → Prop} {g : Prop} (h0 : ∃ a0 a1 a2 a3 a4 a5 a6 a7 a8 a9, P a0 a1 a2 a3 a4 a5 a6 a7 a8 a9) (f : ∀ a0 a1 a2 a3 a4 a5 a6 a7 a8 a9, P a0 a1 a2 a3 a4 a5 a6 a7 a8 a9 → g) : g := Exists.elim h0 fun a0 h1 => Exists.elim h1 fun a1 h2 => Exists.elim h2 fun a2 h3 => Exists.elim h3 fun a3 h4 => Exists.elim h4 fun a4 h5 => Exists.elim h5 fun a5 h6 => Exists.elim h6 fun a6 h7 => Exists.elim h7 fun a7 h8 => Exists.elim h8 fun a8 h9 => Exists.elim h9 fun a9 h10 => f a0 a1 a2 a3 a4 a5 a6 a7 a8 a9 h10
theorem exi10.{u0, u1, u2, u3, u4, u5, u6, u7, u8, u9} {α0 : Sort u0} {α1 : Sort u1} {α2 : Sort u2} {α3 : Sort u3} {α4 : Sort u4} {α5 : Sort u5} {α6 : Sort u6} {α7 : Sort u7} {α8 : Sort u8} {α9 : Sort u9} {P : α0 → α1 → α2 → α3 → α4 → α5 → α6 → α7 → α8 → α9 → Prop} (a0 : α0) (a1 : α1) (a2 : α2) (a3 : α3) (a4 : α4) (a5 : α5) (a6 : α6) (a7 : α7) (a8 : α8) (a9 : α9) (h : P a0 a1 a2 a3 a4 a5 a6 a7 a8 a9) : ∃ a0 a1 a2 a3 a4 a5 a6 a7 a8 a9, P a0 a1 a2 a3 a4 a5 a6 a7 a8 a9 := ⟨a0, a1, a2, a3, a4, a5, a6, a7, a8, a9, h⟩
theorem ex11.{u0, u1, u2, u3, u4, u5, u6, u7, u8, u9, u10} {α0 : Sort u0} {α1 : Sort u1} {α2 : Sort u2} {α3 : Sort u3} {α4 : Sort u4} {α5 : Sort u5} {α6 : Sort u6} {α7 : Sort u7} {α8 : Sort u8} {α9 : Sort u9} {α10 : Sort u10} {P : α0 → α1 → α2 → α3 → α4 → α5 → α6 → α7 → α8 → α9 → α10 → Prop} {g : Prop} (h0 : ∃ a0 a1 a2 a3 a4 a5 a6 a7 a8 a9 a10, P a0 a1 a2 a3 a4 a5 a6 a7 a8 a9 a10) (f : ∀ a0 a1 a2 a3 a4 a5 a6 a7 a8 a9 a10, P a0 a1 a2 a3 a4 a5 a6 a7 a8 a9 a10 → g) : g := Exists.elim h0 fun a0 h1 => Exists.elim h1 fun a1 h2 => Exists.elim h2 fun a2 h3 => Exists.elim h3 fun a3 h4 => Exists.elim h4 fun a4 h5 => Exists.elim h5 fun a5 h6 => Exists.elim h6 fun a6 h7 => Exists.elim h7 fun a7 h8 => Exists.elim h8 fun a8 h9 => Exists.elim h9 fun a9 h10 => Exists.elim h10 fun a10 h11 => f a0 a1 a2 a3 a4 a5 a6 a7 a8 a9 a10 h11
theorem exi11.{u0, u1, u2, u3, u4, u5, u6, u7, u8, u9, u10} {α0 : Sort u0} {α1 : Sort u1} {α2 : Sort u2} {α3 : Sort u3} {α4 : Sort u4} {α5 : Sort u5} {α6 : Sort u6} {α7 : Sort u7} {α8 : Sort u8} {α9 : Sort u9} {α10 : Sort u10} {P : α0 → α1 → α2 → α3 → α4 → α5 → α6 → α7 → α8 → α9 → α10 → Prop} (a0 : α0) (a1 : α1) (a2 : α2) (a3 : α3) (a4 : α4) (a5 : α5) (a6 : α6) (a7 : α7) (a8 : α8) (a9 : α9) (a10 : α10) (h : P a0 a1 a2 a3 a4 a5 a6 a7 a8 a9 a10) : ∃ a0 a1 a2 a3 a4 a5 a6 a7 a8 a9 a10, P a0 a1 a2 a3 a4 a5 a6 a7 a8 a9 a10 := ⟨a0, a1, a2, a3, a4, a5, a6, a7, a8, a9, a10, h⟩
theorem ex12.{u0, u1, u2, u3, u4, u5, u6, u7, u8, u9, u10, u11} {α0 : Sort u0} {α1 : Sort u1} {α2 : Sort u2} {α3 : Sort u3} {α4 : Sort u4} {α5 : Sort u5} {α6 : Sort u6} {α7 : Sort u7} {α8 : Sort u8} {α9 : Sort u9} {α10 : Sort u10} {α11 : Sort u11} {P : α0 → α1 → α2 → α3 → α4 → α5 → α6 → α7 → α8 → α9 → α10 → α11 → Prop} {g : Prop} (h0 : ∃ a0 a1 a2 a3 a4 a5 a6 a7 a8 a9 a10 a11, P a0 a1 a2 a3 a4 a5 a6 a7 a8 a9 a10 a11) (f : ∀ a0 a1 a2 a3 a4 a5 a6 a7 a8 a9 a10 a11, P a0 a1 a2 a3 a4 a5 a6 a7 a8 a9 a10 a11 → g) : g := Exists.elim h0 fun a0 h1 => Exists.elim h1 fun a1 h2 => Exists.elim h2 fun a2 h3 => Exists.elim h3 fun a3 h4 => Exists.elim h4 fun a4 h5 => Exists.elim h5 fun a5 h6 => Exists.elim h6 fun a6 h7 => Exists.elim h7 fun a7 h8 => Exists.elim h8 fun a8 h9 => Exists.elim h9 fun a9 h10 => Exists.elim h10 fun a10 h11 => Exists.elim h11 fun a11 h12 => f a0 a1 a2 a3 a4 a5 a6 a7 a8 a9 a10 a11 h12
theorem exi12.{u0, u1, u2, u3, u4, u5, u6, u7, u8, u9, u10, u11} {α0 : Sort u0} {α1 : Sort u1} {α2 : Sort u2} {α3 : Sort u3} {α4 : Sort u4} {α5 : Sort u5} {α6 : Sort u6} {α7 : Sort u7} {α8 : Sort u8} {α9 : Sort u9} {α10 : Sort u10} {α11 : Sort u11} {P : α0 → α1 → α2 → α3 → α4 → α5 → α6 → α7 → α8 → α9 → α10 → α11 → Prop} (a0 : α0) (a1 : α1) (a2 : α2) (a3 : α3) (a4 : α4) (a5 : α5) (a6 : α6) (a7 : α7) (a8 : α8) (a9 : α9) (a10 : α10) (a11 : α11) (h : P a0 a1 a2 a3 a4 a5 a6 a7 a8 a9 a10 a11) : ∃ a0 a1 a2 a3 a4 a5 a6 a7 a8 a9 a10 a11, P a0 a1 a2 a3 a4 a5 a6 a7 a8 a9 a10 a11 := ⟨a0, a1, a2, a3, a4, a5, a6, a7, a8, a9, a10, a11, h⟩
theorem an2 {p0 p1 g : Prop} (h : p0 ∧ p1) (f : p0 → p1 → g) : g := f h.1 h.2
theorem an3 {p0 p1 p2 g : Prop} (h : p0 ∧ p1 ∧ p2) (f : p0 → p1 → p2 → g) : g := f h.1 h.2.1 h.2.2
theorem an4 {p0 p1 p2 p3 g : Prop} (h : p0 ∧ p1 ∧ p2 ∧ p3) (f : p0 → p1 → p2 → p3 → g) : g := f h.1 h.2.1 h.2.2.1 h.2.2.2
theorem an5 {p0 p1 p2 p3 p4 g : Prop} (h : p0 ∧ p1 ∧ p2 ∧ p3 ∧ p4) (f : p0 → p1 → p2 → p3 → p4 → g) : g := f h.1 h.2.1 h.2.2.1 h.2.2.2.1 h.2.2.2.2
theorem an6 {p0 p1 p2 p3 p4 p5 g : Prop} (h : p0 ∧ p1 ∧ p2 ∧ p3 ∧ p4 ∧ p5) (f : p0 → p1 → p2 → p3 → p4 → p5 → g) : g := f h.1 h.2.1 h.2.2.1 h.2.2.2.1 h.2.2.2.2.1 h.2.2.2.2.2
theorem an7 {p0 p1 p2 p3 p4 p5 p6 g : Prop} (h : p0 ∧ p1 ∧ p2 ∧ p3 ∧ p4 ∧ p5 ∧ p6) (f : p0 → p1 → p2 → p3 → p4 → p5 → p6 → g) : g := f h.1 h.2.1 h.2.2.1 h.2.2.2.1 h.2.2.2.2.1 h.2.2.2.2.2.1 h.2.2.2.2.2.2
theorem an8 {p0 p1 p2 p3 p4 p5 p6 p7 g : Prop} (h : p0 ∧ p1 ∧ p2 ∧ p3 ∧ p4 ∧ p5 ∧ p6 ∧ p7) (f : p0 → p1 → p2 → p3 → p4 → p5 → p6 → p7 → g) : g := f h.1 h.2.1 h.2.2.1 h.2.2.2.1 h.2.2.2.2.1 h.2.2.2.2.2.1 h.2.2.2.2.2.2.1 h.2.2.2.2.2.2.2
theorem an9 {p0 p1 p2 p3 p4 p5 p6 p7 p8 g : Prop} (h : p0 ∧ p1 ∧ p2 ∧ p3 ∧ p4 ∧ p5 ∧ p6 ∧ p7 ∧ p8) (f : p0 → p1 → p2 → p3 → p4 → p5 → p6 → p7 → p8 → g) : g := f h.1 h.2.1 h.2.2.1 h.2.2.2.1 h.2.2.2.2.1 h.2.2.2.2.2.1 h.2.2.2.2.2.2.1 h.2.2.2.2.2.2.2.1 h.2.2.2.2.2.2.2.2
theorem an10 {p0 p1 p2 p3 p4 p5 p6 p7 p8 p9 g : Prop} (h : p0 ∧ p1 ∧ p2 ∧ p3 ∧ p4 ∧ p5 ∧ p6 ∧ p7 ∧ p8 ∧ p9) (f : p0 → p1 → p2 → p3 → p4 → p5 → p6 → p7 → p8 → p9 → g) : g := f h.1 h.2.1 h.2.2.1 h.2.2.2.1 h.2.2.2.2.1 h.2.2.2.2.2.1 h.2.2.2.2.2.2.1 h.2.2.2.2.2.2.2.1 h.2.2.2.2.2.2.2.2.1 h.2.2.2.2.2.2.2.2.2
theorem an11 {p0 p1 p2 p3 p4 p5 p6 p7 p8 p9 p10 g : Prop} (h : p0 ∧ p1 ∧ p2 ∧ p3 ∧ p4 ∧ p5 ∧ p6 ∧ p7 ∧ p8 ∧ p9 ∧ p10) (f : p0 → p1 → p2 → p3 → p4 → p5 → p6 → p7 → p8 → p9 → p10 → g) : g := f h.1 h.2.1 h.2.2.1 h.2.2.2.1 h.2.2.2.2.1 h.2.2.2.2.2.1 h.2.2.2.2.2.2.1 h.2.2.2.2.2.2.2.1 h.2.2.2.2.2.2.2.2.1 h.2.2.2.2.2.2.2.2.2.1 h.2.2.2.2.2.2.2.2.2.2
theorem an12 {p0 p1 p2 p3 p4 p5 p6 p7 p8 p9 p10 p11 g : Prop} (h : p0 ∧ p1 ∧ p2 ∧ p3 ∧ p4 ∧ p5 ∧ p6 ∧ p7 ∧ p8 ∧ p9 ∧ p10 ∧ p11) (f : p0 → p1 → p2 → p3 → p4 → p5 → p6 → p7 → p8 → p9 → p10 → p11 → g) : g := f h.1 h.2.1 h.2.2.1 h.2.2.2.1 h.2.2.2.2.1 h.2.2.2.2.2.1 h.2.2.2.2.2.2.1 h.2.2.2.2.2.2.2.1 h.2.2.2.2.2.2.2.2.1 h.2.2.2.2.2.2.2.2.2.1 h.2.2.2.2.2.2.2.2.2.2.1 h.2.2.2.2.2.2.2.2.2.2.2
theorem an13 {p0 p1 p2 p3 p4 p5 p6 p7 p8 p9 p10 p11 p12 g : Prop} (h : p0 ∧ p1 ∧ p2 ∧ p3 ∧ p4 ∧ p5 ∧ p6 ∧ p7 ∧ p8 ∧ p9 ∧ p10 ∧ p11 ∧ p12) (f : p0 → p1 → p2 → p3 → p4 → p5 → p6 → p7 → p8 → p9 → p10 → p11 → p12 → g) : g := f h.1 h.2.1 h.2.2.1 h.2.2.2.1 h.2.2.2.2.1 h.2.2.2.2.2.1 h.2.2.2.2.2.2.1 h.2.2.2.2.2.2.2.1 h.2.2.2.2.2.2.2.2.1 h.2.2.2.2.2.2.2.2.2.1 h.2.2.2.2.2.2.2.2.2.2.1 h.2.2.2.2.2.2.2.2.2.2.2.1 h.2.2.2.2.2.2.2.2.2.2.2.2
theorem an14 {p0 p1 p2 p3 p4 p5 p6 p7 p8 p9 p10 p11 p12 p13 g : Prop} (h : p0 ∧ p1 ∧ p2 ∧ p3 ∧ p4 ∧ p5 ∧ p6 ∧ p7 ∧ p8 ∧ p9 ∧ p10 ∧ p11 ∧ p12 ∧ p13) (f : p0 → p1 → p2 → p3 → p4 → p5 → p6 → p7 → p8 → p9 → p10 → p11 → p12 → p13 → g) : g := f h.1 h.2.1 h.2.2.1 h.2.2.2.1 h.2.2.2.2.1 h.2.2.2.2.2.1 h.2.2.2.2.2.2.1 h.2.2.2.2.2.2.2.1 h.2.2.2.2.2.2.2.2.1 h.2.2.2.2.2.2.2.2.2.1 h.2.2.2.2.2.2.2.2.2.2.1 h.2.2.2.2.2.2.2.2.2.2.2.1 h.2.2.2.2.2.2.2.2.2.2.2.2.1 h.2.2.2.2.2.2.2.2.2.2.2.2.2
theorem an15 {p0 p1 p2 p3 p4 p5 p6 p7 p8 p9 p10 p11 p12 p13 p14 g : Prop} (h : p0 ∧ p1 ∧ p2 ∧ p3 ∧ p4 ∧ p5 ∧ p6 ∧ p7 ∧ p8 ∧ p9 ∧ p10 ∧ p11 ∧ p12 ∧ p13 ∧ p14) (f : p0 → p1 → p2 → p3 → p4 → p5 → p6 → p7 → p8 → p9 → p10 → p11 → p12 → p13 → p14 → g) : g := f h.1 h.2.1 h.2.2.1 h.2.2.2.1 h.2.2.2.2.1 h.2.2.2.2.2.1 h.2.2.2.2.2.2.1 h.2.2.2.2.2.2.2.1 h.2.2.2.2.2.2.2.2.1 h.2.2.2.2.2.2.2.2.2.1 h.2.2.2.2.2.2.2.2.2.2.1 h.2.2.2.2.2.2.2.2.2.2.2.1 h.2.2.2.2.2.2.2.2.2.2.2.2.1 h.2.2.2.2.2.2.2.2.2.2.2.2.2.1 h.2.2.2.2.2.2.2.2.2.2.2.2.2.2
theorem an16 {p0 p1 p2 p3 p4 p5 p6 p7 p8 p9 p10 p11 p12 p13 p14 p15 g : Prop} (h : p0 ∧ p1 ∧ p2 ∧ p3 ∧ p4 ∧ p5 ∧ p6 ∧ p7 ∧ p8 ∧ p9 ∧ p10 ∧ p11 ∧ p12 ∧ p13 ∧ p14 ∧ p15) (f : p0 → p1 → p2 → p3 → p4 → p5 → p6 → p7 → p8 → p9 → p10 → p11 → p12 → p13 → p14 → p15 → g) : g := f h.1 h.2.1 h.2.2.1 h.2.2.2.1 h.2.2.2.2.1 h.2.2.2.2.2.1 h.2.2.2.2.2.2.1 h.2.2.2.2.2.2.2.1 h.2.2.2.2.2.2.2.2.1 h.2.2.2.2.2.2.2.2.2.1 h.2.2.2.2.2.2.2.2.2.2.1 h.2.2.2.2.2.2.2.2.2.2.2.1 h.2.2.2.2.2.2.2.2.2.2.2.2.1 h.2.2.2.2.2.2.2.2.2.2.2.2.2.1 h.2.2.2.2.2.2.2.2.2.2.2.2.2.2.1 h.2.2.2.2.2.2.2.2.2.2.2.2.2.2.2
end Mine
end

section
/-! an element among others: places of one row in another -/
namespace Mine
theorem mem_ins {α : Type} {l r : List α} {x p : α} (h : p ∈ x :: (l ++ r)) : p ∈ l ++ x :: r := by
  rcases List.mem_cons.mp h with rfl | h
  · exact List.mem_append_right _ (.head _)
  · exact (List.mem_append.mp h).elim (List.mem_append_left _) fun h => List.mem_append_right _ (.tail _ h)
theorem mem_del {α : Type} {l r : List α} {x p : α} (h : p ∈ l ++ x :: r) : p = x ∨ p ∈ l ++ r :=
  (List.mem_append.mp h).elim (fun h => .inr (List.mem_append_left _ h)) fun h => (List.mem_cons.mp h).imp id (List.mem_append_right _)
theorem mem_front {α : Type} {l r : List α} {x p : α} (h : p ∈ l ++ x :: r) : p ∈ x :: (l ++ r) := List.mem_cons.mpr (mem_del h)
theorem mem_skip {α : Type} {l r : List α} {x p : α} (h : p ∈ l ++ r) : p ∈ l ++ x :: r := mem_ins (.tail _ h)
theorem mem_swap {α : Type} {x y p : α} {r : List α} (h : p ∈ x :: y :: r) : p ∈ y :: x :: r := mem_ins (l := [y]) h
end Mine
end

section
open PySem PySem.W PyProof.Rows PySem.Calls
namespace Mine
/-- frames that would hold a bytearray's memory -/
noncomputable def holders : List String := ["bytearray.__contains__", "bytearray.__mod__", "bytearray.__rmod__", "_struct.pack_into.held", "bytearray.find.held"] ++ Builtin.Bytes.decodersThatHold
noncomputable def cleanC : Code → Bool
  | .builtin id _ => !holders.contains id
  | _ => true
noncomputable def ND (Γ : Ctx) : Prop := cleanC Γ.code = true ∧ ∀ x ∈ Γ.below, cleanC x.1 = true
noncomputable def wpN {α : Type} (M : Model) (A : Around) (t : Sem α) (Q : α → Shared → Prop) (E : Value → Shared → Prop) (s : Shared) : Prop :=
  ∀ Γ p, ND Γ → Γ.In A → Sem.wp M Γ t (fun a _ s' => Q a s') (fun e _ s' => E e s') p s
noncomputable def codeN (M : Model) (A : Around) (c : Code) (R : Result → Shared → Prop) (s : Shared) : Prop :=
  ∀ Γ p, Γ.code = c → ND Γ → Γ.Below A → wpCode M Γ R p s
section
variable {α β : Type} {M : Model} {A : Around} {E : Value → Shared → Prop} {s : Shared}
theorem ND.goto {Γ : Ctx} (h : ND Γ) {c : Code} (hc : cleanC c = true) : ND (Γ.goto c) := ⟨hc, h.2⟩
theorem ND.enter {Γ : Ctx} (h : ND Γ) {c : Code} (hc : cleanC c = true) (hd : Option Value) (p : Pos) : ND (Γ.enter c hd p) :=
  ⟨hc, fun x hx => by
    rcases List.mem_cons.mp hx with rfl | hx
    · exact h.1
    · exact h.2 x hx⟩
theorem ND.caller : ND ⟨.builtin "claim.caller" {}, none, none, [], none⟩ := ⟨by decide +kernel, fun _ hx => nomatch hx⟩
theorem wpN_of_any {t : Sem α} {Q : α → Shared → Prop} (h : wpAny M A t Q E s) : wpN M A t Q E s := fun Γ p _ hΓ => h Γ p hΓ
theorem codeN_of_any {c : Code} {R : Result → Shared → Prop} (h : codeAny M A c R s) : codeN M A c R s := fun Γ p hc _ hΓ => h Γ p hc hΓ
theorem ifP {c : Prop} [Decidable c] {x y : Sem α} {Q : α → Shared → Prop} (h : c) (q : wpAny M A x Q E s) : wpAny M A (if c then x else y) Q E s := by rw [if_pos h]; exact q
theorem ifN {c : Prop} [Decidable c] {x y : Sem α} {Q : α → Shared → Prop} (h : ¬ c) (q : wpAny M A y Q E s) : wpAny M A (if c then x else y) Q E s := by rw [if_neg h]; exact q
theorem wpN_pure {a : α} {Q : α → Shared → Prop} (h : Q a s) : wpN M A (pure a) Q E s := fun _ _ _ _ => h
theorem wpN_mono {t : Sem α} {Q Q' : α → Shared → Prop} {E' : Value → Shared → Prop} (h : wpN M A t Q E s)
    (hQ : ∀ a s, Q a s → Q' a s) (hE : ∀ e s, E e s → E' e s) : wpN M A t Q' E' s :=
  fun Γ p hN hΓ => Sem.wp_mono M Γ t (fun a _ s => hQ a s) (fun e _ s => hE e s) p s (h Γ p hN hΓ)
theorem codeN_mono {c : Code} {R R' : Result → Shared → Prop} (h : codeN M A c R s) (hR : ∀ r s, R r s → R' r s) : codeN M A c R' s :=
  fun Γ p hc hN hΓ => wpCode_mono hR (h Γ p hc hN hΓ)
theorem wpN_bind {m : Sem α} {f : α → Sem β} {Q : β → Shared → Prop} (h : wpN M A m (fun a s' => wpN M A (f a) Q E s') E s) :
    wpN M A (m >>= f) Q E s := fun Γ p hN hΓ => by
  rw [Sem.wp_bind']
  exact Sem.wp_mono M Γ m (fun a p' s' h' => h' Γ p' hN hΓ) (fun _ _ _ h' => h') p s (h Γ p hN hΓ)
/-- a first step without the stack -/
theorem wpN_bindA {m : Sem α} {f : α → Sem β} {Q : β → Shared → Prop} (h : wpAny M A m (fun a s' => wpN M A (f a) Q E s') E s) :
    wpN M A (m >>= f) Q E s := wpN_bind (wpN_of_any h)
theorem wpN_holding {vs : List Value} {m : Sem α} {Q : α → Shared → Prop} (h : wpN M A m Q E s) : wpN M A (holding vs m) Q E s :=
  fun Γ p hN hΓ => by rw [Sem.wp_holding]; exact h Γ p hN hΓ
theorem wpN_keep {vs : List Value} {m : Sem α} {Q : α → Shared → Prop} (h : wpN M A m Q E s) : wpN M A (m.keep vs) Q E s :=
  fun Γ p hN hΓ => by rw [Sem.wp_keep]; exact h Γ p hN hΓ
theorem wpN_onRaise {m : Sem α} {k : Value → Sem Unit} {Q : α → Shared → Prop}
    (h : wpN M A m Q (fun e s' => wpN M A (k e) (fun _ s'' => E e s'') E s') s) : wpN M A (m.onRaise k) Q E s := fun Γ p hN hΓ => by
  rw [Sem.wp_onRaise]
  exact Sem.wp_mono M Γ m (fun _ _ _ h' => h') (fun e p' s' h' => h' Γ p' hN hΓ) p s (h Γ p hN hΓ)
theorem wpN_attempt {m : Sem α} {Q : Except Value α → Shared → Prop} (h : wpN M A m (fun a => Q (.ok a)) (fun e => Q (.error e)) s) :
    wpN M A m.attempt Q E s := fun Γ p hN hΓ => by rw [Sem.wp_attempt]; exact h Γ p hN hΓ
theorem wpN_operate {vs : List Value} {m : Sem Value} {Q : Value → Shared → Prop} (h : wpN M A m Q E s) : wpN M A (operate vs m) Q E s :=
  fun Γ p hN hΓ => by rw [Sem.wp_operate]; exact h Γ p hN hΓ
theorem wpN_run {c : Code} {h : Option Value} {Q : Flow → Shared → Prop} (hcl : cleanC c = true)
    (hc : codeN M (A.mark h) c (fun r s' => match r with | .ok f => Q f s' | .error e => E e s') s) (hnb : h ≠ some byPass := by intro x; cases x) :
    wpN M A (run c h) Q E s :=
  fun Γ p hN hΓ => by rw [Sem.wp_run]; exact hc _ p rfl (hN.enter hcl h p) (hΓ.enter c h p hnb)
theorem wpN_runValue {c : Code} {Q : Value → Shared → Prop} (hcl : cleanC c = true)
    (hc : codeN M A c (fun r s' => match r with | .ok (.ret v) => Q v s' | .ok _ => False | .error e => E e s') s) :
    wpN M A (runValue c) Q E s := fun Γ p hN hΓ => by rw [Sem.wp_runValue]; exact hc _ p rfl (hN.enter hcl none p) (hΓ.enter c none p (by intro x; cases x))
theorem wpN_call {f : Value} {pos : List Value} {kw : List (Str × Value)} {Q : Value → Shared → Prop}
    (hc : codeN M A (.call f ⟨pos, kw⟩) (fun r s' => match r with | .ok (.ret v) => Q v s' | .ok _ => False | .error e => E e s') s) :
    wpN M A (call f pos kw) Q E s := wpN_runValue rfl hc
theorem codeN_of_tree {c : Code} {R : Result → Shared → Prop}
    (h : wpN M (A.under c) (M.den c) (fun fin s' => match fin with | .done f => R (.ok f) s' | .again c' => (c'.quiet = true ∧ cleanC c' = true) ∧ codeN M A c' R s')
      (fun e s' => R (.error e) s') s) : codeN M A c R s := fun Γ p hc hN hΓ => by
  rw [wpCode_iff_wp, hc]
  refine Sem.wp_mono M Γ _ (fun fin p' s' h' => ?_) (fun _ _ _ h' => h') p s (h Γ p hN (hc ▸ hΓ.in))
  cases fin with
  | done f => exact h'
  | again c' => exact ⟨h'.1.1, h'.2 (Γ.goto c') p' rfl (hN.goto h'.1.2) (hΓ.goto c')⟩
theorem dneg {c : Prop} [Decidable c] {a : c → Bool} {b : ¬c → Bool} (h : ¬ c) (q : ¬ (b h = true)) : ¬ (dite c a b = true) := by rw [dif_neg h]; exact q
theorem andf {x y : Bool} (h : x = false) : ¬ ((y && x) = true) := by rw [h, Bool.and_false]; exact Bool.false_ne_true
/-- what the stack's look for a bytearray's holder says -/
theorem wpN_exported {a : Addr} {Q : Bool → Shared → Prop} (h : Q false s) : wpN M A (Builtin.Bytes.exported (.ref a)) Q E s := by
  intro Γ p hN hΓ
  have key : ∀ (l : List (Code × Pos)), (∀ x ∈ l, cleanC x.1 = true) → (l.any fun
    | (.builtin "bytearray.__contains__" ⟨v :: _, _⟩, _) | (.builtin "bytearray.__mod__" ⟨v :: _, _⟩, _)
    | (.builtin "bytearray.__rmod__" ⟨_ :: v :: _, _⟩, _) | (.builtin "_struct.pack_into.held" ⟨v :: _, _⟩, _) => Builtin.Bytes.sameRef v (.ref a)
    | (.builtin "bytearray.find.held" ⟨_ :: _ :: held, _⟩, _) => held.any (Builtin.Bytes.sameRef (.ref a))
    | (.builtin id ⟨v :: _, _⟩, _) => Builtin.Bytes.sameRef v (.ref a) && Builtin.Bytes.decodersThatHold.contains id
    | _ => false) = false := by
    intro l hl
    rw [List.any_eq_false]
    intro x hx
    have hc := hl x hx
    have nh : ∀ id args, cleanC (.builtin id args) = true → holders.contains id = false := fun id args h => by
      cases q : holders.contains id with
      | false => rfl
      | true => have h2 : (!holders.contains id) = true := h; rw [q] at h2; cases h2
    have nd : ∀ id, holders.contains id = false → Builtin.Bytes.decodersThatHold.contains id = false := fun id h => by
      cases q : Builtin.Bytes.decodersThatHold.contains id with
      | false => rfl
      | true =>
        have : holders.contains id = true := by
          rw [List.contains_iff_mem] at q ⊢
          exact List.mem_append_right _ q
        rw [this] at h; cases h
    obtain ⟨c, p⟩ := x
    cases c with
    | builtin id args =>
      have ne : ∀ t : String, holders.contains t = true → id ≠ t := fun t ht e => by
        have h := nh _ _ hc
        rw [e, ht] at h; cases h
      have n1 := ne "bytearray.__contains__" (by decide +kernel)
      have n2 := ne "bytearray.__mod__" (by decide +kernel)
      have n3 := ne "bytearray.__rmod__" (by decide +kernel)
      have n4 := ne "_struct.pack_into.held" (by decide +kernel)
      have n5 := ne "bytearray.find.held" (by decide +kernel)
      have d := nd _ (nh _ _ hc)
      obtain ⟨as, kw⟩ := args
      delta wpN_exported.match_1
      refine dneg n1 ?_
      refine dneg n2 ?_
      refine dneg n3 ?_
      refine dneg n4 ?_
      refine dneg n5 ?_
      clear n1 n2 n3 n4 n5 ne hc hx
      cases as with
      | nil => exact Bool.false_ne_true
      | cons v r => exact andf d
    | _ => exact Bool.false_ne_true
  have e : Builtin.Bytes.exported (.ref a) = (stack >>= fun st => pure (st.any fun
    | (.builtin "bytearray.__contains__" ⟨v :: _, _⟩, _) | (.builtin "bytearray.__mod__" ⟨v :: _, _⟩, _)
    | (.builtin "bytearray.__rmod__" ⟨_ :: v :: _, _⟩, _) | (.builtin "_struct.pack_into.held" ⟨v :: _, _⟩, _) => Builtin.Bytes.sameRef v (.ref a)
    | (.builtin "bytearray.find.held" ⟨_ :: _ :: held, _⟩, _) => held.any (Builtin.Bytes.sameRef (.ref a))
    | (.builtin id ⟨v :: _, _⟩, _) => Builtin.Bytes.sameRef v (.ref a) && Builtin.Bytes.decodersThatHold.contains id
    | _ => false)) := rfl
  rw [e, Sem.wp_bind']
  show Sem.wp M Γ (.stack .pure) _ _ p s
  rw [Sem.wp_stack, Sem.wp_pure, Sem.wp_pure', key]
  · exact h
  · intro x hx
    rcases List.mem_cons.mp hx with rfl | hx
    · exact hN.1
    · exact hN.2 x hx
end
end Mine
end

section
open PySem PySem.W PyProof.Rows PySem.Calls
namespace Mine
noncomputable abbrev WalkN' (q : Program) (loose : List Str) (XP : (Str → Option Value) → Heap → Prop) (YP : World → Heap → Prop) (r : RowW) (d : DefRec) (kwd : List (Str × Expr)) : Prop :=
  ∀ (w : World) (s₀ s₁ : Shared) (mg mb : Str → Option Value), Ground q loose r.records XP w s₀ mg mb s₁.heap → YP w s₁.heap → ∀ (a : Addr) (o : Obj) (pm cd doc dV kV : Value), s₁.heap.get? a = some o →
    o.data = .func { docDef d.name d.params d.body d.scope pm cd doc with defaults := dV, kwdefaults := kV } → s₁.heap.CodeRec cd d.name → Dflts mg s₁.heap d.params kwd dV kV → mg d.name = some (.ref a) → s₁.gens = #[] →
    ∀ (args : List WData) (vals : List Value) (as : List Addr), r.claim.pre args = true → WData.layableAll args = true → ReadsAllW r.records (classAt s₀.heap) s₁.heap vals args as → WellAll w.params s₁.heap vals args → (∀ a ∈ as, (a == sysModules) = false) →
      wpN (model r.prog w) callerA (call (.ref a) vals) (fun v s' => GoodWG r.claim (classAt s₀.heap) (ExcName.means s₀.heap) args s₁ (.ok (.ret v)) s')
        (fun e s' => GoodWG r.claim (classAt s₀.heap) (ExcName.means s₀.heap) args s₁ (.error e) s') s₁
theorem haltsN {prog : Program} {w : World} {t : Sem Fin} {s : Shared} {R : Result → Shared → Prop} (hreg : s.asleep)
    (h : wpN (model prog w) callerA t (fun fin s' => ∃ f, fin = .done f ∧ (R (.ok f) s' ∧ leftWithCleanup s'.gens = false)) (fun e s' => R (.error e) s' ∧ leftWithCleanup s'.gens = false) s) :
    ∃ n r s' s'', runN (denote table) prog w n s ⟨t, .builtin "claim.caller" {}, default, []⟩ = .halted (outcomeOf r) s' ∧
      schedN (denote table) prog w n (.single s ⟨t, .builtin "claim.caller" {}, default, []⟩) = .halted (outcomeOf r) s' ∧ s'.forget = s''.forget ∧ R r s'' := by
  have h₀ : Sem.wp (model prog w) ⟨.builtin "claim.caller" {}, none, none, [], none⟩ t (Sem.finPost (model prog w) ⟨.builtin "claim.caller" {}, none, none, [], none⟩ fun r s' => R r s' ∧ leftWithCleanup s'.gens = false)
      (fun e _ s' => R (.error e) s' ∧ leftWithCleanup s'.gens = false) default s :=
    Sem.wp_mono _ _ t (fun fin p' s' h' => by obtain ⟨f, rfl, hf⟩ := h'; exact hf) (fun _ _ _ h' => h') _ s (h _ default ND.caller caller_in)
  refine ex4 (wp_halts_full (M := model prog w) (R := R) hreg h₀) fun n r s₁ s₂ hz88 => an4 hz88 fun hs hn hfo hR => ?_
  clear hz88
  exact (exi4 n r s₂ s₁ ⟨hn, hs, hfo, hR⟩)
theorem callFromN {c : ClaimW} {tree : List Value → Sem Fin} {w : World} {s : Shared} {free : Addr → Prop} {gens : Prop} {kept : Heap → Prop} (hz : s.asleep) (hgens : s.gens = #[])
    (spec : ∀ args, c.pre args = true → WData.layableAll args = true → ∀ ord : List DictEntry → List DictEntry, (∀ l, (ord l).Perm l) →
      ∃ vs s₁, layAllW c.records (classAt s.heap) w.params ord args s = some (vs, s₁) ∧
        wpN (model c.prog w) callerA (tree vs) (fun fin s' => ∃ f, fin = .done f ∧ (c.Ends s args vs s₁ (.ok f) s' ∧ s'.os = s.os ∧ AllBare s'.gens ∧ kept s'.heap))
          (fun e s' => c.Ends s args vs s₁ (.error e) s' ∧ s'.os = s.os ∧ AllBare s'.gens ∧ kept s'.heap) s₁) :
    c.CallFrom (fun vs => ⟨tree vs, .builtin "claim.caller" {}, default, []⟩) w free gens kept s := by
  intro args hpre hlay ord hord
  refine ex2 (spec args hpre hlay ord hord) fun vs s₁ hz87 => an2 hz87 fun hlaid hcode => ?_
  clear hz87
  have hal := layAllW_rest _ _ _ hlaid
  have hcode' : wpN (model c.prog w) callerA (tree vs) (fun fin s' => ∃ f, fin = .done f ∧ ((c.Ends s args vs s₁ (.ok f) s' ∧ s'.os = s.os ∧ kept s'.heap) ∧ leftWithCleanup s'.gens = false))
      (fun e s' => (c.Ends s args vs s₁ (.error e) s' ∧ s'.os = s.os ∧ kept s'.heap) ∧ leftWithCleanup s'.gens = false) s₁ :=
    wpN_mono hcode (fun _ _ z => ex1 z fun f z => an5 z fun e h1 h2 h3 h4 => ⟨f, e, ⟨h1, h2, h4⟩, leftWithCleanup_false_of_bare h3⟩) (fun _ _ z => an4 z fun h1 h2 h3 h4 => ⟨⟨h1, h2, h4⟩, leftWithCleanup_false_of_bare h3⟩)
  refine ex4 (haltsN (R := fun r s' => c.Ends s args vs s₁ r s' ∧ s'.os = s.os ∧ kept s'.heap) (Shared.asleep_of_life hal.2.2.2 hz) hcode') fun k r s' s'' hz86 => an6 hz86 fun hrun hsched hfo hcase hos hkp => ?_
  clear hz86
  refine an5 (Shared.forget_eq hfo) fun eh _ _ eo _ => ?_
  have hlife : s'.heap.life = s.heap.life := (runN_life _ _ _ hrun).trans hal.2.2.2
  rw [← eo] at hos
  have hkp' : kept s'.heap := eh.symm ▸ hkp
  refine (exi2 vs s₁ ⟨hlaid, exi3 k _ s' ⟨hsched, ?_, (fun _ i x hx => by rw [hgens] at hx; simp at hx), hkp', by rw [hlife], Shared.rest_eq hos⟩⟩)
  rcases hcase.congr eh with z | z
  · refine ex1 z fun v z => an6 z fun he d1 d2 d3 d4 d5 => ?_
    clear z
    subst he
    exact .inl ⟨v, rfl, d1, d2, d3, fun b o y _ => d4 b o y, d5⟩
  · refine ex3 z fun e ob cls z => an6 z fun he d1 d2 d3 d4 d5 => ?_
    clear z
    subst he
    exact .inr (exi3 e ob cls ⟨rfl, d1, d2, d3, d4, fun b o y _ => d5 b o y⟩)
/-- the row's own head, the call's spine asked of clean stacks alone -/
theorem openN {r : RowW} {q : Program} {loose defs kps : List Str} {writes : Bool} {Xt : Shared → Bool} {XP : (Str → Option Value) → Heap → Prop} {α : Type} {Yf : Shared → α} {Ya : World → α} {YP : World → Heap → Prop} {N : Nat}
    (left : LeftO r.prog q loose Xt Yf Ya N) (hY : ∀ w s, Yf s = Ya w → YP w s.heap) (hYk : ∀ w h h', YP w h → (∀ b o, h.get? b = some o → h'.get? b = some o) → YP w h') (hX : ∀ s, Xt s = true → XP (s.heap.nsMap mainGlobals) s.heap) (hXk : ∀ mg h h', XP mg h → (∀ b o, h.get? b = some o → h'.get? b = some o) → XP mg h')
    (hRf : ∀ s, Xt s = true → RecFacts r.records s.heap) (hwr : (!writes || r.records.isEmpty) = true) (ok : (chainsOk q && opensWell r.prog && (frees r && r.within.isEmpty)) = true) (hb : r.prog.bare) (hw : r.promised)
    (pin : ∀ w s, s.heap.isNs mainGlobals = true → Ground q loose [] XP w s (s.heap.nsMap mainGlobals) (s.heap.nsMap builtinsNs) s.heap → ∀ n ∈ defs, isTheDefsW r.prog s.heap n)
    (run : ∀ (w : World) (s₀ s₁ : Shared) (mg mb : Str → Option Value), Ground q loose r.records XP w s₀ mg mb s₁.heap → YP w s₁.heap → ∀ (args : List WData) (vs : List Value) (as : List Addr),
      r.claim.pre args = true → WData.layableAll args = true → Laid r.records w s₀ s₁ args vs as → sysModules < s₀.heap.objs.size → ∃ f, mg r.name = some f ∧
        wpN (model r.prog w) callerA (call f vs) (fun v s' => GoodWG r.claim (classAt s₀.heap) (ExcName.means s₀.heap) args s₁ (.ok (.ret v)) s')
          (fun e s' => GoodWG r.claim (classAt s₀.heap) (ExcName.means s₀.heap) args s₁ (.error e) s') s₁) :
    r.claim.HoldsOpenBy (fun vs => ⟨do match ← nsGet mainNs r.name with
      | some f => do ret (← PySem.call f vs)
      | none => unsupported "claim.caller:no-such-global", .builtin "claim.caller" {}, default, []⟩) defs kps writes := by
  refine an2 (Bool.and_eq_true_iff.mp ok) fun ok k5 => ?_
  refine an2 (Bool.and_eq_true_iff.mp ok) fun hch o1 => ?_
  refine an2 (Bool.and_eq_true_iff.mp k5) fun k5 k6 => ?_
  refine an5 (frees_parts k5) fun hsame hu ha hap hm => ?_
  have hwi : r.claim.within = [] := List.isEmpty_iff.mp k6
  have hi := ident_freeW hu ha hap
  refine ⟨⟨hb, o1, by show r.makers.map _ = []; rw [hm]; rfl⟩, hw.witness, fun w => ⟨(left.behind hX hch w).1, fun s' hs' => ?_⟩⟩
  refine ex1 ((left.behind (XP := fun mg h => XP mg h ∧ RecFacts r.records h) (fun s hs => ⟨hX s hs, hRf s hs⟩) hch w).2 s' hs') fun s₀ hz83 => an3 hz83 fun hf hg0 hz84 => ex1 hz84 fun s hz85 => an6 hz85 fun hT hz hgens hg G' y => ?_
  clear hz83 hz84 hz85
  have G0 : Ground q loose [] XP w s (s.heap.nsMap mainGlobals) (s.heap.nsMap builtinsNs) s.heap := ⟨G'.T, G'.B, G'.D, G'.TE, G'.TD, G'.W, G'.X.1, G'.cls, G'.has, G'.apart, G'.once, G'.K⟩
  have RF := G'.X.2
  have hT' := hT
  have hgens : s.gens = #[] := Array.eq_empty_of_size_eq_zero (beq_iff_eq.mp hgens)
  have G : Ground q loose r.records XP w s _ _ s.heap := RF.ground G0
  refine ⟨s₀, hf, hg0, s, hT, pin w s hg G0, RF.1, RF.2.1, callFromN (c := r.claim) hz hgens fun args hpre hlay ord hord => ?_⟩
  refine ex1 (Option.isSome_iff_exists.mp (layAllW_isSome (P := w.params) (ord := ord) G.has args r.args s (pre_splitW hpre).1)) fun hz82 hlaid => ?_
  obtain ⟨vs, s₁⟩ := hz82
  have keeps := layAllW_keeps _ _ _ hlaid
  have hal := layAllW_rest _ _ _ hlaid
  refine ex1 (reads_layAllW hord _ _ _ hlaid hlay s₁.heap (fun _ _ e => e)) fun as hz81 => an3 hz81 fun hrd hin hold => ?_
  clear hz81
  have L : Laid r.records w s s₁ args vs as := ⟨⟨ord, hord, hlaid⟩, hrd, hin, hold, keeps, hal.1.trans hgens, hal.2.2.1⟩
  have G₁ := G.keeps hXk keeps
  refine ex1 (run w s s₁ _ _ G₁ (hYk _ _ _ (hY w s y) keeps) args vs as hpre hlay L G.low) fun f hz80 => an2 hz80 fun hf h => ?_
  clear hz80
  refine (exi2 vs s₁ ⟨hlaid, wpN_bindA (wpAny_nsGet G₁.T.g ?_)⟩)
  rw [hf]
  refine wpN_bind (wpN_mono h (fun v s' g => ?_) fun e s' g => ?_)
  · have z := g.laid (c := r.claim) hsame hwi hi L
    exact wpN_pure ⟨_, rfl, z.1, z.2.1, z.2.2, fun q => ⟨namesKept_of hT' hg kps keeps g.2.1.old, noTable hwr q⟩⟩
  · have z := g.laid (c := r.claim) hsame hwi hi L
    exact ⟨z.1, z.2.1, z.2.2, fun q => ⟨namesKept_of hT' hg kps keeps g.2.1.old, noTable hwr q⟩⟩
end Mine
namespace MineHead
open Mine
theorem PySem.W.holds_open {r : OpenRow} {q : Program} {loose : List Str} {Xt : Shared → Bool} {XP : (Str → Option Value) → Heap → Prop} {α : Type} {Yf : Shared → α} {Ya : World → α} {YP : World → Heap → Prop} {d : DefRec} {kwd : List (Str × Expr)} {N : Nat}
    (left : LeftO r.prog q loose Xt Yf Ya N) (hY : ∀ w s, Yf s = Ya w → YP w s.heap) (hYk : ∀ w h h', YP w h → (∀ b o, h.get? b = some o → h'.get? b = some o) → YP w h')
    (hX : ∀ s, Xt s = true → XP (s.heap.nsMap mainGlobals) s.heap) (hXk : ∀ mg h h', XP mg h → (∀ b o, h.get? b = some o → h'.get? b = some o) → XP mg h')
    (hdef : defOf q r.name = some (d, kwd)) (hp : r.prog.theDef r.name = some (d.params, d.body, d.scope)) (hk : kwWritten? d.params.kwonlyargs d.params.kw_defaults = some kwd) (hRf : ∀ s, Xt s = true → RecFacts r.records s.heap) (hwr : (!r.writes || r.records.isEmpty) = true)
    (k1 : r.wellSaid = true) (ok : (chainsOk q && opensWell r.prog && (frees r.toRowW && r.within.isEmpty)) = true) (hb : r.prog.bare) (hw : r.toRowW.promised)
    (call : WalkN' q loose XP YP r.toRowW d kwd) : r.Holds := by
  refine ⟨k1, hw, openN (r := r.toRowW) left hY hYk hX hXk hRf hwr ok hb hw (fun w s hg G n hn => ?_) fun w s₀ s₁ mg mb G Y args vs as hpre hlay L low => ?_⟩
  · obtain rfl : n = r.name := by split at hn <;> simp_all
    exact pinned_of_view hg G hdef hp hk
  · refine ex7 (G.fn hdef) fun a o pm cd doc dV kV hz79 => an5 hz79 fun h1 h2 h3 h4 h5 => ?_
    clear hz79
    exact ⟨.ref a, h1, call w s₀ s₁ mg mb G Y a o pm cd doc dV kV h2 h3 h4 h5 (defOf_name hdef ▸ h1) L.gens args vs as hpre hlay L.reads L.well (L.low low)⟩
end MineHead
end

section
open PySem PySem.W PyProof.Rows
namespace Mine
/-- a def of the text, and a method of one of its classes: parameters, body, scope, read off the given form -/
noncomputable def topFn (i : Nat) : Arguments × List Stmt × Scope := match PySem.Challenge.pw_kt0007_01.main.body.drop i with
  | .FunctionDef _ ps b _ _ _ sc _ _ _ :: _ => (ps, b, sc)
  | _ => default
noncomputable def clsFn (i j : Nat) : Arguments × List Stmt × Scope := match PySem.Challenge.pw_kt0007_01.main.body.drop i with
  | .ClassDef _ _ _ body _ _ _ _ _ _ _ :: _ => (match body.drop j with
    | .FunctionDef _ ps b _ _ _ sc _ _ _ :: _ => (ps, b, sc)
    | _ => default)
  | _ => default
/-- the part of the heap behind the top that the walk looks into -/
noncomputable def Kf (P : Params) : Frag :=
  (nat_lit 2, ⟨.none, none, .dict #[⟨PyData.keyHash P (.ofString "type.__subclasses__.OSError.0"), .str (.ofString "type.__subclasses__.OSError.0") 338, .int 119 0⟩, ⟨PyData.keyHash P (.ofString "type.__subclasses__.OSError.n"), .str (.ofString "type.__subclasses__.OSError.n") 339, .int 1 0⟩] 2, #[]⟩) ::
  (nat_lit 3, ⟨.type "dict", none, .dict (List.toArray (⟨PyData.keyHash P (.ofString "__name__"), .str (.ofString "__name__") 165, .str (.ofString "law_kt0007_01") 959⟩ :: ⟨PyData.keyHash P (.ofString "__doc__"), .str (.ofString "__doc__") 166, .none⟩ :: ⟨PyData.keyHash P (.ofString "__package__"), .str (.ofString "__package__") 167, .none⟩ :: ⟨PyData.keyHash P (.ofString "__loader__"), .str (.ofString "__loader__") 168, .builtin "__main__.__loader__#opaque"⟩ :: ⟨PyData.keyHash P (.ofString "__spec__"), .str (.ofString "__spec__") 169, .none⟩ :: ⟨PyData.keyHash P (.ofString "__annotations__"), .str (.ofString "__annotations__") 170, .ref 6⟩ :: ⟨PyData.keyHash P (.ofString "__builtins__"), .str (.ofString "__builtins__") 171, .ref 4⟩ :: ⟨PyData.keyHash P (.ofString "__file__"), .str (.ofString "__file__") 173, .str (.ofString "/claim/cut.py") 172⟩ :: ⟨PyData.keyHash P (.ofString "__cached__"), .str (.ofString "__cached__") 174, .none⟩ :: ⟨PyData.keyHash P (.ofString "_wall"), .str (.ofString "_wall") 193, .ref 21⟩ :: ⟨PyData.keyHash P (.ofString "read_uint1"), .str (.ofString "read_uint1") 203, .ref 28⟩ :: ⟨PyData.keyHash P (.ofString "read_bytes1"), .str (.ofString "read_bytes1") 212, .ref 35⟩ :: ⟨PyData.keyHash P (.ofString "_buffer"), .str (.ofString "_buffer") 222, .ref 42⟩ :: ⟨PyData.keyHash P (.ofString "_truth"), .str (.ofString "_truth") 230, .ref 49⟩ :: ⟨PyData.keyHash P (.ofString "_B64"), .str (.ofString "_B64") 232, .bytes (List.toArray (65 :: 66 :: 67 :: 68 :: 69 :: 70 :: 71 :: 72 :: 73 :: 74 :: 75 :: 76 :: 77 :: 78 :: 79 :: 80 :: 81 :: 82 :: 83 :: 84 :: 85 :: 86 :: 87 :: 88 :: 89 :: 90 :: 97 :: 98 :: 99 :: 100 :: 101 :: 102 :: 103 :: 104 :: 105 :: 106 :: 107 :: 108 :: 109 :: 110 :: 111 :: 112 :: 113 :: 114 :: 115 :: 116 :: 117 :: 118 :: 119 :: 120 :: 121 :: 122 :: 48 :: 49 :: 50 :: 51 :: 52 :: 53 :: 54 :: 55 :: 56 :: 57 :: 43 :: 47 :: [])) 231⟩ :: ⟨PyData.keyHash P (.ofString "b2a_base64"), .str (.ofString "b2a_base64") 246, .ref 57⟩ :: ⟨PyData.keyHash P (.ofString "_NO_SEP"), .str (.ofString "_NO_SEP") 247, .ref 58⟩ :: ⟨PyData.keyHash P (.ofString "b2a_hex"), .str (.ofString "b2a_hex") 258, .ref 66⟩ :: ⟨PyData.keyHash P (.ofString "hexlify"), .str (.ofString "hexlify") 259, .ref 66⟩ :: ⟨PyData.keyHash P (.ofString "b64encode"), .str (.ofString "b64encode") 270, .ref 74⟩ :: ⟨PyData.keyHash P (.ofString "b16encode"), .str (.ofString "b16encode") 277, .ref 81⟩ :: ⟨PyData.keyHash P (.ofString "sorted_list_difference"), .str (.ofString "sorted_list_difference") 293, .ref 88⟩ :: ⟨PyData.keyHash P (.ofString "three_way_cmp"), .str (.ofString "three_way_cmp") 301, .ref 95⟩ :: ⟨PyData.keyHash P (.ofString "_whence"), .str (.ofString "_whence") 311, .ref 102⟩ :: ⟨PyData.keyHash P (.ofString "_index"), .str (.ofString "_index") 319, .ref 109⟩ :: ⟨PyData.keyHash P (.ofString "UnsupportedOperation"), .str (.ofString "UnsupportedOperation") 341, .ref 119⟩ :: ⟨PyData.keyHash P (.ofString "IOBase"), .str (.ofString "IOBase") 373, .ref 139⟩ :: ⟨PyData.keyHash P (.ofString "BufferedIOBase"), .str (.ofString "BufferedIOBase") 391, .ref 154⟩ :: ⟨PyData.keyHash P (.ofString "TextIOBase"), .str (.ofString "TextIOBase") 409, .ref 166⟩ :: ⟨PyData.keyHash P (.ofString "BytesIO"), .str (.ofString "BytesIO") 671, .ref 396⟩ :: ⟨PyData.keyHash P (.ofString "StringIO"), .str (.ofString "StringIO") 958, .ref 643⟩ :: ⟨PyData.keyHash P (.ofString "_law_boxes"), .str (.ofString "_law_boxes") 973, .ref 652⟩ :: ⟨PyData.keyHash P (.ofString "_law_octets"), .str (.ofString "_law_octets") 982, .ref 659⟩ :: ⟨PyData.keyHash P (.ofString "_law_rank"), .str (.ofString "_law_rank") 988, .ref 664⟩ :: ⟨PyData.keyHash P (.ofString "_law_number"), .str (.ofString "_law_number") 994, .ref 669⟩ :: ⟨PyData.keyHash P (.ofString "_law_places"), .str (.ofString "_law_places") 1000, .ref 674⟩ :: ⟨PyData.keyHash P (.ofString "_law_value"), .str (.ofString "_law_value") 1010, .ref 681⟩ :: ⟨PyData.keyHash P (.ofString "_law_first_unlike"), .str (.ofString "_law_first_unlike") 1019, .ref 688⟩ :: ⟨PyData.keyHash P (.ofString "_law_lacks"), .str (.ofString "_law_lacks") 1029, .ref 695⟩ :: ⟨PyData.keyHash P (.ofString "law"), .str (.ofString "law") 1035, .ref 700⟩ :: [])) 40, #[]⟩) ::
  (nat_lit 15, ⟨.type "tuple", none, .seq #[] 0, #[]⟩) ::
  (nat_lit 17, ⟨.type "tuple", none, .seq #[.str (.ofString "k") 190] 0, #[]⟩) ::
  (nat_lit 18, ⟨.type "tuple", none, .seq #[] 0, #[]⟩) ::
  (nat_lit 20, ⟨.type "code", none, .fields (List.toArray (.str (.ofString "_wall") 187 :: .str (.ofString "_wall") 188 :: .str (.ofString "/claim/cut.py") 189 :: .int 1 0 :: .int 1 0 :: .int 0 0 :: .int 0 0 :: .int 3 0 :: .ref 15 :: .bool true :: .int 181 0 :: .ref 16 :: .none :: .ref 17 :: .ref 18 :: .ref 19 :: .int 191 0 :: .int 1 0 :: .str (.ofString "/claim/cut.py") 192 :: [])), #[]⟩) ::
  (nat_lit 21, ⟨.type "function", none, .func (fnOf (.ofString "_wall") (.ofString "_wall") (topFn 0).1 (topFn 0).2.1 (topFn 0).2.2 .none .none .none (.str (.ofString "__main__") 164) none (.ref 20) .none), #[]⟩) ::
  (nat_lit 22, ⟨.type "tuple", none, .seq #[] 0, #[]⟩) ::
  (nat_lit 24, ⟨.type "tuple", none, .seq #[.str (.ofString "f") 199, .str (.ofString "data") 200] 0, #[]⟩) ::
  (nat_lit 25, ⟨.type "tuple", none, .seq #[] 0, #[]⟩) ::
  (nat_lit 27, ⟨.type "code", none, .fields (List.toArray (.str (.ofString "read_uint1") 196 :: .str (.ofString "read_uint1") 197 :: .str (.ofString "/claim/cut.py") 198 :: .int 5 0 :: .int 1 0 :: .int 0 0 :: .int 0 0 :: .int 3 0 :: .ref 22 :: .bool true :: .int 181 0 :: .ref 23 :: .none :: .ref 24 :: .ref 25 :: .ref 26 :: .int 201 0 :: .int 5 0 :: .str (.ofString "/claim/cut.py") 202 :: [])), #[]⟩) ::
  (nat_lit 28, ⟨.type "function", none, .func (fnOf (.ofString "read_uint1") (.ofString "read_uint1") (topFn 2).1 (topFn 2).2.1 (topFn 2).2.2 .none .none .none (.str (.ofString "cpy313.pickletools") 194) none (.ref 27) .none), #[]⟩) ::
  (nat_lit 29, ⟨.type "tuple", none, .seq #[] 0, #[]⟩) ::
  (nat_lit 31, ⟨.type "tuple", none, .seq #[.str (.ofString "f") 207, .str (.ofString "n") 208, .str (.ofString "data") 209] 0, #[]⟩) ::
  (nat_lit 32, ⟨.type "tuple", none, .seq #[] 0, #[]⟩) ::
  (nat_lit 34, ⟨.type "code", none, .fields (List.toArray (.str (.ofString "read_bytes1") 204 :: .str (.ofString "read_bytes1") 205 :: .str (.ofString "/claim/cut.py") 206 :: .int 10 0 :: .int 1 0 :: .int 0 0 :: .int 0 0 :: .int 3 0 :: .ref 29 :: .bool true :: .int 181 0 :: .ref 30 :: .none :: .ref 31 :: .ref 32 :: .ref 33 :: .int 210 0 :: .int 10 0 :: .str (.ofString "/claim/cut.py") 211 :: [])), #[]⟩) ::
  (nat_lit 35, ⟨.type "function", none, .func (fnOf (.ofString "read_bytes1") (.ofString "read_bytes1") (topFn 3).1 (topFn 3).2.1 (topFn 3).2.2 .none .none .none (.str (.ofString "cpy313.pickletools") 194) none (.ref 34) .none), #[]⟩) ::
  (nat_lit 36, ⟨.type "tuple", none, .seq #[] 0, #[]⟩) ::
  (nat_lit 38, ⟨.type "tuple", none, .seq #[.str (.ofString "data") 218, .str (.ofString "t") 219] 0, #[]⟩) ::
  (nat_lit 39, ⟨.type "tuple", none, .seq #[] 0, #[]⟩) ::
  (nat_lit 41, ⟨.type "code", none, .fields (List.toArray (.str (.ofString "_buffer") 215 :: .str (.ofString "_buffer") 216 :: .str (.ofString "/claim/cut.py") 217 :: .int 18 0 :: .int 1 0 :: .int 0 0 :: .int 0 0 :: .int 3 0 :: .ref 36 :: .bool true :: .int 181 0 :: .ref 37 :: .none :: .ref 38 :: .ref 39 :: .ref 40 :: .int 220 0 :: .int 18 0 :: .str (.ofString "/claim/cut.py") 221 :: [])), #[]⟩) ::
  (nat_lit 42, ⟨.type "function", none, .func (fnOf (.ofString "_buffer") (.ofString "_buffer") (topFn 5).1 (topFn 5).2.1 (topFn 5).2.2 .none .none .none (.str (.ofString "binascii") 213) none (.ref 41) .none), #[]⟩) ::
  (nat_lit 43, ⟨.type "tuple", none, .seq #[] 0, #[]⟩) ::
  (nat_lit 45, ⟨.type "tuple", none, .seq #[.str (.ofString "x") 226, .str (.ofString "t") 227] 0, #[]⟩) ::
  (nat_lit 46, ⟨.type "tuple", none, .seq #[] 0, #[]⟩) ::
  (nat_lit 48, ⟨.type "code", none, .fields (List.toArray (.str (.ofString "_truth") 223 :: .str (.ofString "_truth") 224 :: .str (.ofString "/claim/cut.py") 225 :: .int 25 0 :: .int 1 0 :: .int 0 0 :: .int 0 0 :: .int 3 0 :: .ref 43 :: .bool true :: .int 181 0 :: .ref 44 :: .none :: .ref 45 :: .ref 46 :: .ref 47 :: .int 228 0 :: .int 25 0 :: .str (.ofString "/claim/cut.py") 229 :: [])), #[]⟩) ::
  (nat_lit 49, ⟨.type "function", none, .func (fnOf (.ofString "_truth") (.ofString "_truth") (topFn 6).1 (topFn 6).2.1 (topFn 6).2.2 .none .none .none (.str (.ofString "binascii") 213) none (.ref 48) .none), #[]⟩) ::
  (nat_lit 50, ⟨.type "dict", none, .dict #[⟨PyData.keyHash P (.ofString "newline"), .str (.ofString "newline") 233, .bool true⟩] 1, #[]⟩) ::
  (nat_lit 51, ⟨.type "tuple", none, .seq #[] 0, #[]⟩) ::
  (nat_lit 53, ⟨.type "tuple", none, .seq (List.toArray (.str (.ofString "data") 237 :: .str (.ofString "newline") 238 :: .str (.ofString "bin_data") 239 :: .str (.ofString "out") 240 :: .str (.ofString "leftbits") 241 :: .str (.ofString "leftchar") 242 :: .str (.ofString "b") 243 :: [])) 0, #[]⟩) ::
  (nat_lit 54, ⟨.type "tuple", none, .seq #[] 0, #[]⟩) ::
  (nat_lit 56, ⟨.type "code", none, .fields (List.toArray (.str (.ofString "b2a_base64") 234 :: .str (.ofString "b2a_base64") 235 :: .str (.ofString "/claim/cut.py") 236 :: .int 31 0 :: .int 1 0 :: .int 1 0 :: .int 1 0 :: .int 3 0 :: .ref 51 :: .bool true :: .int 181 0 :: .ref 52 :: .none :: .ref 53 :: .ref 54 :: .ref 55 :: .int 244 0 :: .int 31 0 :: .str (.ofString "/claim/cut.py") 245 :: [])), #[]⟩) ::
  (nat_lit 57, ⟨.type "function", none, .func (fnOf (.ofString "b2a_base64") (.ofString "b2a_base64") (topFn 8).1 (topFn 8).2.1 (topFn 8).2.2 .none (.ref 50) .none (.str (.ofString "binascii") 213) none (.ref 56) .none), #[]⟩) ::
  (nat_lit 58, ⟨.type "object", none, .plain, #[]⟩) ::
  (nat_lit 59, ⟨.type "tuple", none, .seq #[.ref 58, .int 1 248] 0, #[]⟩) ::
  (nat_lit 60, ⟨.type "tuple", none, .seq #[] 0, #[]⟩) ::
  (nat_lit 62, ⟨.type "tuple", none, .seq #[.str (.ofString "data") 252, .str (.ofString "sep") 253, .str (.ofString "bytes_per_sep") 254, .str (.ofString "t") 255] 0, #[]⟩) ::
  (nat_lit 63, ⟨.type "tuple", none, .seq #[] 0, #[]⟩) ::
  (nat_lit 65, ⟨.type "code", none, .fields (List.toArray (.str (.ofString "b2a_hex") 249 :: .str (.ofString "b2a_hex") 250 :: .str (.ofString "/claim/cut.py") 251 :: .int 54 0 :: .int 3 0 :: .int 0 0 :: .int 0 0 :: .int 3 0 :: .ref 60 :: .bool true :: .int 181 0 :: .ref 61 :: .none :: .ref 62 :: .ref 63 :: .ref 64 :: .int 256 0 :: .int 54 0 :: .str (.ofString "/claim/cut.py") 257 :: [])), #[]⟩) ::
  (nat_lit 66, ⟨.type "function", none, .func (fnOf (.ofString "b2a_hex") (.ofString "b2a_hex") (topFn 10).1 (topFn 10).2.1 (topFn 10).2.2 (.ref 59) .none .none (.str (.ofString "binascii") 213) none (.ref 65) .none), #[]⟩) ::
  (nat_lit 67, ⟨.type "tuple", none, .seq #[.none] 0, #[]⟩) ::
  (nat_lit 68, ⟨.type "tuple", none, .seq #[] 0, #[]⟩) ::
  (nat_lit 70, ⟨.type "tuple", none, .seq #[.str (.ofString "s") 265, .str (.ofString "altchars") 266, .str (.ofString "encoded") 267] 0, #[]⟩) ::
  (nat_lit 71, ⟨.type "tuple", none, .seq #[] 0, #[]⟩) ::
  (nat_lit 73, ⟨.type "code", none, .fields (List.toArray (.str (.ofString "b64encode") 262 :: .str (.ofString "b64encode") 263 :: .str (.ofString "/claim/cut.py") 264 :: .int 72 0 :: .int 2 0 :: .int 0 0 :: .int 0 0 :: .int 3 0 :: .ref 68 :: .bool true :: .int 181 0 :: .ref 69 :: .none :: .ref 70 :: .ref 71 :: .ref 72 :: .int 268 0 :: .int 72 0 :: .str (.ofString "/claim/cut.py") 269 :: [])), #[]⟩) ::
  (nat_lit 74, ⟨.type "function", none, .func (fnOf (.ofString "b64encode") (.ofString "b64encode") (topFn 13).1 (topFn 13).2.1 (topFn 13).2.2 (.ref 67) .none .none (.str (.ofString "cpy313.base64") 260) none (.ref 73) .none), #[]⟩) ::
  (nat_lit 75, ⟨.type "tuple", none, .seq #[] 0, #[]⟩) ::
  (nat_lit 77, ⟨.type "tuple", none, .seq #[.str (.ofString "s") 274] 0, #[]⟩) ::
  (nat_lit 78, ⟨.type "tuple", none, .seq #[] 0, #[]⟩) ::
  (nat_lit 80, ⟨.type "code", none, .fields (List.toArray (.str (.ofString "b16encode") 271 :: .str (.ofString "b16encode") 272 :: .str (.ofString "/claim/cut.py") 273 :: .int 78 0 :: .int 1 0 :: .int 0 0 :: .int 0 0 :: .int 3 0 :: .ref 75 :: .bool true :: .int 181 0 :: .ref 76 :: .none :: .ref 77 :: .ref 78 :: .ref 79 :: .int 275 0 :: .int 78 0 :: .str (.ofString "/claim/cut.py") 276 :: [])), #[]⟩) ::
  (nat_lit 81, ⟨.type "function", none, .func (fnOf (.ofString "b16encode") (.ofString "b16encode") (topFn 14).1 (topFn 14).2.1 (topFn 14).2.2 .none .none .none (.str (.ofString "cpy313.base64") 260) none (.ref 80) .none), #[]⟩) ::
  (nat_lit 82, ⟨.type "tuple", none, .seq #[] 0, #[]⟩) ::
  (nat_lit 84, ⟨.type "tuple", none, .seq (List.toArray (.str (.ofString "expected") 283 :: .str (.ofString "actual") 284 :: .str (.ofString "i") 285 :: .str (.ofString "j") 286 :: .str (.ofString "missing") 287 :: .str (.ofString "unexpected") 288 :: .str (.ofString "e") 289 :: .str (.ofString "a") 290 :: [])) 0, #[]⟩) ::
  (nat_lit 85, ⟨.type "tuple", none, .seq #[] 0, #[]⟩) ::
  (nat_lit 87, ⟨.type "code", none, .fields (List.toArray (.str (.ofString "sorted_list_difference") 280 :: .str (.ofString "sorted_list_difference") 281 :: .str (.ofString "/claim/cut.py") 282 :: .int 81 0 :: .int 2 0 :: .int 0 0 :: .int 0 0 :: .int 3 0 :: .ref 82 :: .bool true :: .int 181 0 :: .ref 83 :: .none :: .ref 84 :: .ref 85 :: .ref 86 :: .int 291 0 :: .int 81 0 :: .str (.ofString "/claim/cut.py") 292 :: [])), #[]⟩) ::
  (nat_lit 88, ⟨.type "function", none, .func (fnOf (.ofString "sorted_list_difference") (.ofString "sorted_list_difference") (topFn 16).1 (topFn 16).2.1 (topFn 16).2.2 .none .none .none (.str (.ofString "cpy313.unittest.util") 278) none (.ref 87) .none), #[]⟩) ::
  (nat_lit 89, ⟨.type "tuple", none, .seq #[] 0, #[]⟩) ::
  (nat_lit 91, ⟨.type "tuple", none, .seq #[.str (.ofString "x") 297, .str (.ofString "y") 298] 0, #[]⟩) ::
  (nat_lit 92, ⟨.type "tuple", none, .seq #[] 0, #[]⟩) ::
  (nat_lit 94, ⟨.type "code", none, .fields (List.toArray (.str (.ofString "three_way_cmp") 294 :: .str (.ofString "three_way_cmp") 295 :: .str (.ofString "/claim/cut.py") 296 :: .int 113 0 :: .int 2 0 :: .int 0 0 :: .int 0 0 :: .int 3 0 :: .ref 89 :: .bool true :: .int 181 0 :: .ref 90 :: .none :: .ref 91 :: .ref 92 :: .ref 93 :: .int 299 0 :: .int 113 0 :: .str (.ofString "/claim/cut.py") 300 :: [])), #[]⟩) ::
  (nat_lit 95, ⟨.type "function", none, .func (fnOf (.ofString "three_way_cmp") (.ofString "three_way_cmp") (topFn 17).1 (topFn 17).2.1 (topFn 17).2.2 .none .none .none (.str (.ofString "cpy313.unittest.util") 278) none (.ref 94) .none), #[]⟩) ::
  (nat_lit 103, ⟨.type "tuple", none, .seq #[] 0, #[]⟩) ::
  (nat_lit 105, ⟨.type "tuple", none, .seq #[.str (.ofString "n") 315, .str (.ofString "what") 316] 0, #[]⟩) ::
  (nat_lit 106, ⟨.type "tuple", none, .seq #[] 0, #[]⟩) ::
  (nat_lit 108, ⟨.type "code", none, .fields (List.toArray (.str (.ofString "_index") 312 :: .str (.ofString "_index") 313 :: .str (.ofString "/claim/cut.py") 314 :: .int 121 0 :: .int 2 0 :: .int 0 0 :: .int 0 0 :: .int 3 0 :: .ref 103 :: .bool true :: .int 181 0 :: .ref 104 :: .none :: .ref 105 :: .ref 106 :: .ref 107 :: .int 317 0 :: .int 121 0 :: .str (.ofString "/claim/cut.py") 318 :: [])), #[]⟩) ::
  (nat_lit 109, ⟨.type "function", none, .func (fnOf (.ofString "_index") (.ofString "_index") (topFn 20).1 (topFn 20).2.1 (topFn 20).2.2 .none .none .none (.str (.ofString "io") 302) none (.ref 108) .none), #[]⟩) ::
  (nat_lit 110, ⟨.type "tuple", none, .seq #[.type "OSError", .type "ValueError"] 0, #[]⟩) ::
  (nat_lit 117, ⟨.type "tuple", none, .seq #[] 0, #[]⟩) ::
  (nat_lit 118, ⟨.type "dict", none, .dict #[⟨PyData.keyHash P (.ofString "__module__"), .str (.ofString "__module__") 327, .str (.ofString "io") 332⟩, ⟨PyData.keyHash P (.ofString "__firstlineno__"), .str (.ofString "__firstlineno__") 331, .int 128 330⟩, ⟨PyData.keyHash P (.ofString "__static_attributes__"), .str (.ofString "__static_attributes__") 334, .ref 117⟩, ⟨PyData.keyHash P (.ofString "__weakref__"), .str (.ofString "__weakref__") 336, .ref 120⟩, ⟨PyData.keyHash P (.ofString "__doc__"), .str (.ofString "__doc__") 337, .none⟩] 3, #[]⟩) ::
  (nat_lit 119, ⟨.type "type", none, .cls ⟨(.ofString "UnsupportedOperation"), [.type "OSError", .type "ValueError"], [.ref 119, .type "OSError", .type "ValueError", .type "Exception", .type "BaseException", .type "object"], 118, (.ofString "UnsupportedOperation"), true, [], [], false, none, false⟩, #[some (.ref 110), none, some (.str (.ofString "UnsupportedOperation") 320), some (.str (.ofString "UnsupportedOperation") 328), some (.builtin "OSError.__new__"), some (.bool true)]⟩) ::
  (nat_lit 120, ⟨.type "getset_descriptor", none, .fields #[.str (.ofString "__weakref__") 335, .ref 119, .builtin "ExceptionGroup.__weakref__", .none], #[]⟩) ::
  (nat_lit 130, ⟨.type "tuple", none, .seq #[] 0, #[]⟩) ::
  (nat_lit 132, ⟨.type "tuple", none, .seq #[.str (.ofString "cls") 359, .str (.ofString "args") 360, .str (.ofString "kwargs") 361] 0, #[]⟩) ::
  (nat_lit 133, ⟨.type "tuple", none, .seq #[] 0, #[]⟩) ::
  (nat_lit 135, ⟨.type "code", none, .fields (List.toArray (.str (.ofString "__new__") 356 :: .str (.ofString "IOBase.__new__") 357 :: .str (.ofString "/claim/cut.py") 358 :: .int 133 0 :: .int 1 0 :: .int 1 0 :: .int 0 0 :: .int 15 0 :: .ref 130 :: .bool true :: .int 181 0 :: .ref 131 :: .none :: .ref 132 :: .ref 133 :: .ref 134 :: .int 362 0 :: .int 133 0 :: .str (.ofString "/claim/cut.py") 363 :: [])), #[]⟩) ::
  (nat_lit 136, ⟨.type "function", none, .func (fnOf (.ofString "__new__") (.ofString "IOBase.__new__") (clsFn 22 1).1 (clsFn 22 1).2.1 (clsFn 22 1).2.2 .none .none .none (.str (.ofString "io") 302) none (.ref 135) .none), #[]⟩) ::
  (nat_lit 137, ⟨.type "tuple", none, .seq #[] 0, #[]⟩) ::
  (nat_lit 138, ⟨.type "dict", none, .dict (List.toArray (⟨PyData.keyHash P (.ofString "__module__"), .str (.ofString "__module__") 349, .str (.ofString "io") 354⟩ :: ⟨PyData.keyHash P (.ofString "__firstlineno__"), .str (.ofString "__firstlineno__") 353, .int 130 352⟩ :: ⟨PyData.keyHash P (.ofString "__new__"), .str (.ofString "__new__") 364, .ref 140⟩ :: ⟨PyData.keyHash P (.ofString "__static_attributes__"), .str (.ofString "__static_attributes__") 365, .ref 137⟩ :: ⟨PyData.keyHash P (.ofString "__dict__"), .str (.ofString "__dict__") 368, .ref 141⟩ :: ⟨PyData.keyHash P (.ofString "__weakref__"), .str (.ofString "__weakref__") 370, .ref 142⟩ :: ⟨PyData.keyHash P (.ofString "__doc__"), .str (.ofString "__doc__") 371, .none⟩ :: [])) 4, #[]⟩) ::
  (nat_lit 139, ⟨.type "type", none, .cls ⟨(.ofString "IOBase"), [.type "object"], [.ref 139, .type "object"], 138, (.ofString "IOBase"), true, [], [.ref 154, .ref 166], false, none, false⟩, #[none, none, some (.str (.ofString "IOBase") 342), some (.str (.ofString "IOBase") 350), some .none, some (.bool true)]⟩) ::
  (nat_lit 140, ⟨.type "staticmethod", none, .fields #[.ref 136], #[]⟩) ::
  (nat_lit 141, ⟨.type "getset_descriptor", none, .fields #[.str (.ofString "__dict__") 367, .ref 139, .builtin "function.__dict__", .builtin "function.__dict__#set"], #[]⟩) ::
  (nat_lit 142, ⟨.type "getset_descriptor", none, .fields #[.str (.ofString "__weakref__") 369, .ref 139, .builtin "ExceptionGroup.__weakref__", .none], #[]⟩) ::
  (nat_lit 145, ⟨.type "tuple", none, .seq #[.ref 139] 0, #[]⟩) ::
  (nat_lit 152, ⟨.type "tuple", none, .seq #[] 0, #[]⟩) ::
  (nat_lit 153, ⟨.type "dict", none, .dict #[⟨PyData.keyHash P (.ofString "__module__"), .str (.ofString "__module__") 381, .str (.ofString "io") 386⟩, ⟨PyData.keyHash P (.ofString "__firstlineno__"), .str (.ofString "__firstlineno__") 385, .int 137 384⟩, ⟨PyData.keyHash P (.ofString "__static_attributes__"), .str (.ofString "__static_attributes__") 388, .ref 152⟩, ⟨PyData.keyHash P (.ofString "__doc__"), .str (.ofString "__doc__") 389, .none⟩] 2, #[]⟩) ::
  (nat_lit 154, ⟨.type "type", none, .cls ⟨(.ofString "BufferedIOBase"), [.ref 139], [.ref 154, .ref 139, .type "object"], 153, (.ofString "BufferedIOBase"), true, [], [.ref 396], false, none, false⟩, #[some (.ref 145), none, some (.str (.ofString "BufferedIOBase") 374), some (.str (.ofString "BufferedIOBase") 382), some .none, some (.bool true)]⟩) ::
  (nat_lit 157, ⟨.type "tuple", none, .seq #[.ref 139] 0, #[]⟩) ::
  (nat_lit 164, ⟨.type "tuple", none, .seq #[] 0, #[]⟩) ::
  (nat_lit 165, ⟨.type "dict", none, .dict #[⟨PyData.keyHash P (.ofString "__module__"), .str (.ofString "__module__") 399, .str (.ofString "io") 404⟩, ⟨PyData.keyHash P (.ofString "__firstlineno__"), .str (.ofString "__firstlineno__") 403, .int 139 402⟩, ⟨PyData.keyHash P (.ofString "__static_attributes__"), .str (.ofString "__static_attributes__") 406, .ref 164⟩, ⟨PyData.keyHash P (.ofString "__doc__"), .str (.ofString "__doc__") 407, .none⟩] 2, #[]⟩) ::
  (nat_lit 166, ⟨.type "type", none, .cls ⟨(.ofString "TextIOBase"), [.ref 139], [.ref 166, .ref 139, .type "object"], 165, (.ofString "TextIOBase"), true, [], [.ref 643], false, none, false⟩, #[some (.ref 157), none, some (.str (.ofString "TextIOBase") 392), some (.str (.ofString "TextIOBase") 400), some .none, some (.bool true)]⟩) ::
  (nat_lit 169, ⟨.type "tuple", none, .seq #[.ref 154] 0, #[]⟩) ::
  (nat_lit 176, ⟨.type "tuple", none, .seq #[.none] 0, #[]⟩) ::
  (nat_lit 177, ⟨.type "tuple", none, .seq #[] 0, #[]⟩) ::
  (nat_lit 179, ⟨.type "tuple", none, .seq #[.str (.ofString "self") 427, .str (.ofString "initial_bytes") 428] 0, #[]⟩) ::
  (nat_lit 180, ⟨.type "tuple", none, .seq #[] 0, #[]⟩) ::
  (nat_lit 182, ⟨.type "code", none, .fields (List.toArray (.str (.ofString "__init__") 424 :: .str (.ofString "BytesIO.__init__") 425 :: .str (.ofString "/claim/cut.py") 426 :: .int 144 0 :: .int 2 0 :: .int 0 0 :: .int 0 0 :: .int 3 0 :: .ref 177 :: .bool true :: .int 181 0 :: .ref 178 :: .none :: .ref 179 :: .ref 180 :: .ref 181 :: .int 429 0 :: .int 144 0 :: .str (.ofString "/claim/cut.py") 430 :: [])), #[]⟩) ::
  (nat_lit 183, ⟨.type "function", none, .func (fnOf (.ofString "__init__") (.ofString "BytesIO.__init__") (clsFn 25 1).1 (clsFn 25 1).2.1 (clsFn 25 1).2.2 (.ref 176) .none .none (.str (.ofString "io") 302) none (.ref 182) .none), #[]⟩) ::
  (nat_lit 184, ⟨.type "tuple", none, .seq #[] 0, #[]⟩) ::
  (nat_lit 186, ⟨.type "tuple", none, .seq #[.str (.ofString "self") 435] 0, #[]⟩) ::
  (nat_lit 187, ⟨.type "tuple", none, .seq #[] 0, #[]⟩) ::
  (nat_lit 189, ⟨.type "code", none, .fields (List.toArray (.str (.ofString "__check") 432 :: .str (.ofString "BytesIO.__check") 433 :: .str (.ofString "/claim/cut.py") 434 :: .int 150 0 :: .int 1 0 :: .int 0 0 :: .int 0 0 :: .int 3 0 :: .ref 184 :: .bool true :: .int 181 0 :: .ref 185 :: .none :: .ref 186 :: .ref 187 :: .ref 188 :: .int 436 0 :: .int 150 0 :: .str (.ofString "/claim/cut.py") 437 :: [])), #[]⟩) ::
  (nat_lit 190, ⟨.type "function", none, .func (fnOf (.ofString "__check") (.ofString "BytesIO.__check") (clsFn 25 2).1 (clsFn 25 2).2.1 (clsFn 25 2).2.2 .none .none .none (.str (.ofString "io") 302) none (.ref 189) .none), #[]⟩) ::
  (nat_lit 297, ⟨.type "tuple", none, .seq #[.int 0 550] 0, #[]⟩) ::
  (nat_lit 305, ⟨.type "tuple", none, .seq #[.none] 0, #[]⟩) ::
  (nat_lit 313, ⟨.type "tuple", none, .seq #[.int (-1) 569] 0, #[]⟩) ::
  (nat_lit 314, ⟨.type "tuple", none, .seq #[] 0, #[]⟩) ::
  (nat_lit 316, ⟨.type "tuple", none, .seq #[.str (.ofString "self") 573, .str (.ofString "size") 574, .str (.ofString "start") 575, .str (.ofString "stop") 576] 0, #[]⟩) ::
  (nat_lit 317, ⟨.type "tuple", none, .seq #[] 0, #[]⟩) ::
  (nat_lit 319, ⟨.type "code", none, .fields (List.toArray (.str (.ofString "read") 570 :: .str (.ofString "BytesIO.read") 571 :: .str (.ofString "/claim/cut.py") 572 :: .int 236 0 :: .int 2 0 :: .int 2 0 :: .int 0 0 :: .int 3 0 :: .ref 314 :: .bool true :: .int 181 0 :: .ref 315 :: .none :: .ref 316 :: .ref 317 :: .ref 318 :: .int 577 0 :: .int 236 0 :: .str (.ofString "/claim/cut.py") 578 :: [])), #[]⟩) ::
  (nat_lit 320, ⟨.type "function", none, .func (fnOf (.ofString "read") (.ofString "BytesIO.read") (clsFn 25 20).1 (clsFn 25 20).2.1 (clsFn 25 20).2.2 (.ref 313) .none .none (.str (.ofString "io") 302) none (.ref 319) .none), #[]⟩) ::
  (nat_lit 321, ⟨.type "tuple", none, .seq #[.int (-1) 581] 0, #[]⟩) ::
  (nat_lit 343, ⟨.type "tuple", none, .seq #[.int (-1) 609] 0, #[]⟩) ::
  (nat_lit 351, ⟨.type "tuple", none, .seq #[.none] 0, #[]⟩) ::
  (nat_lit 394, ⟨.type "tuple", none, .seq #[.str (.ofString "__buf") 666, .str (.ofString "__pos") 667] 0, #[]⟩) ::
  (nat_lit 395, ⟨.type "dict", none, .dict (List.toArray (⟨PyData.keyHash P (.ofString "__module__"), .str (.ofString "__module__") 417, .str (.ofString "_io") 422⟩ :: ⟨PyData.keyHash P (.ofString "__firstlineno__"), .str (.ofString "__firstlineno__") 421, .int 141 420⟩ :: ⟨PyData.keyHash P (.ofString "__init__"), .str (.ofString "__init__") 431, .ref 183⟩ :: ⟨PyData.keyHash P (.ofString "_BytesIO__check"), .str (.ofString "_BytesIO__check") 438, .ref 190⟩ :: ⟨PyData.keyHash P (.ofString "_BytesIO__line"), .str (.ofString "_BytesIO__line") 449, .ref 197⟩ :: ⟨PyData.keyHash P (.ofString "closed"), .str (.ofString "closed") 457, .ref 205⟩ :: ⟨PyData.keyHash P (.ofString "close"), .str (.ofString "close") 464, .ref 212⟩ :: ⟨PyData.keyHash P (.ofString "__enter__"), .str (.ofString "__enter__") 471, .ref 219⟩ :: ⟨PyData.keyHash P (.ofString "__exit__"), .str (.ofString "__exit__") 479, .ref 226⟩ :: ⟨PyData.keyHash P (.ofString "readable"), .str (.ofString "readable") 486, .ref 233⟩ :: ⟨PyData.keyHash P (.ofString "writable"), .str (.ofString "writable") 493, .ref 240⟩ :: ⟨PyData.keyHash P (.ofString "seekable"), .str (.ofString "seekable") 500, .ref 247⟩ :: ⟨PyData.keyHash P (.ofString "isatty"), .str (.ofString "isatty") 507, .ref 254⟩ :: ⟨PyData.keyHash P (.ofString "flush"), .str (.ofString "flush") 514, .ref 261⟩ :: ⟨PyData.keyHash P (.ofString "fileno"), .str (.ofString "fileno") 521, .ref 268⟩ :: ⟨PyData.keyHash P (.ofString "detach"), .str (.ofString "detach") 528, .ref 275⟩ :: ⟨PyData.keyHash P (.ofString "getvalue"), .str (.ofString "getvalue") 535, .ref 282⟩ :: ⟨PyData.keyHash P (.ofString "getbuffer"), .str (.ofString "getbuffer") 542, .ref 289⟩ :: ⟨PyData.keyHash P (.ofString "tell"), .str (.ofString "tell") 549, .ref 296⟩ :: ⟨PyData.keyHash P (.ofString "seek"), .str (.ofString "seek") 559, .ref 304⟩ :: ⟨PyData.keyHash P (.ofString "truncate"), .str (.ofString "truncate") 567, .ref 312⟩ :: ⟨PyData.keyHash P (.ofString "read"), .str (.ofString "read") 579, .ref 320⟩ :: ⟨PyData.keyHash P (.ofString "read1"), .str (.ofString "read1") 589, .ref 328⟩ :: ⟨PyData.keyHash P (.ofString "readinto"), .str (.ofString "readinto") 599, .ref 335⟩ :: ⟨PyData.keyHash P (.ofString "readinto1"), .str (.ofString "readinto1") 607, .ref 342⟩ :: ⟨PyData.keyHash P (.ofString "readline"), .str (.ofString "readline") 617, .ref 350⟩ :: ⟨PyData.keyHash P (.ofString "readlines"), .str (.ofString "readlines") 625, .ref 358⟩ :: ⟨PyData.keyHash P (.ofString "__iter__"), .str (.ofString "__iter__") 632, .ref 365⟩ :: ⟨PyData.keyHash P (.ofString "__next__"), .str (.ofString "__next__") 640, .ref 372⟩ :: ⟨PyData.keyHash P (.ofString "write"), .str (.ofString "write") 650, .ref 379⟩ :: ⟨PyData.keyHash P (.ofString "writelines"), .str (.ofString "writelines") 658, .ref 386⟩ :: ⟨PyData.keyHash P (.ofString "__repr__"), .str (.ofString "__repr__") 665, .ref 393⟩ :: ⟨PyData.keyHash P (.ofString "__static_attributes__"), .str (.ofString "__static_attributes__") 668, .ref 394⟩ :: ⟨PyData.keyHash P (.ofString "__doc__"), .str (.ofString "__doc__") 669, .none⟩ :: [])) 2, #[]⟩) ::
  (nat_lit 396, ⟨.type "type", none, .cls ⟨(.ofString "BytesIO"), [.ref 154], [.ref 396, .ref 154, .ref 139, .type "object"], 395, (.ofString "BytesIO"), true, [], [], false, none, false⟩, #[some (.ref 169), none, some (.str (.ofString "BytesIO") 410), some (.str (.ofString "BytesIO") 418), some .none, some (.bool true)]⟩) ::
  (nat_lit 399, ⟨.type "tuple", none, .seq #[.ref 166] 0, #[]⟩) ::
  (nat_lit 406, ⟨.type "tuple", none, .seq #[.str (.ofString "") 686, .str (.ofString "\n") 687] 0, #[]⟩) ::
  (nat_lit 566, ⟨.type "tuple", none, .seq #[.int 0 860] 0, #[]⟩) ::
  (nat_lit 574, ⟨.type "tuple", none, .seq #[.none] 0, #[]⟩) ::
  (nat_lit 582, ⟨.type "tuple", none, .seq #[.int (-1) 879] 0, #[]⟩) ::
  (nat_lit 590, ⟨.type "tuple", none, .seq #[.int (-1) 891] 0, #[]⟩) ::
  (nat_lit 598, ⟨.type "tuple", none, .seq #[.int (-1) 901] 0, #[]⟩) ::
  (nat_lit 641, ⟨.type "tuple", none, .seq #[.str (.ofString "__buf") 952, .str (.ofString "__newline") 953, .str (.ofString "__pos") 954] 0, #[]⟩) ::
  (nat_lit 646, ⟨.type "tuple", none, .seq #[] 0, #[]⟩) ::
  (nat_lit 648, ⟨.type "tuple", none, .seq (List.toArray (.str (.ofString "count") 964 :: .str (.ofString "number") 965 :: .str (.ofString "ways") 966 :: .str (.ofString "within") 967 :: .str (.ofString "behind") 968 :: .str (.ofString "sign") 969 :: .str (.ofString "inner") 970 :: [])) 0, #[]⟩) ::
  (nat_lit 649, ⟨.type "tuple", none, .seq #[] 0, #[]⟩) ::
  (nat_lit 651, ⟨.type "code", none, .fields (List.toArray (.str (.ofString "_law_boxes") 961 :: .str (.ofString "_law_boxes") 962 :: .str (.ofString "/claim/cut.py") 963 :: .int 517 0 :: .int 3 0 :: .int 0 0 :: .int 0 0 :: .int 3 0 :: .ref 646 :: .bool true :: .int 181 0 :: .ref 647 :: .none :: .ref 648 :: .ref 649 :: .ref 650 :: .int 971 0 :: .int 517 0 :: .str (.ofString "/claim/cut.py") 972 :: [])), #[]⟩) ::
  (nat_lit 652, ⟨.type "function", none, .func (fnOf (.ofString "_law_boxes") (.ofString "_law_boxes") (topFn 28).1 (topFn 28).2.1 (topFn 28).2.2 .none .none .none (.str (.ofString "law_kt0007_01") 959) none (.ref 651) .none), #[]⟩) ::
  (nat_lit 653, ⟨.type "tuple", none, .seq #[] 0, #[]⟩) ::
  (nat_lit 655, ⟨.type "tuple", none, .seq #[.str (.ofString "number") 977, .str (.ofString "ways") 978, .str (.ofString "count") 979] 0, #[]⟩) ::
  (nat_lit 656, ⟨.type "tuple", none, .seq #[] 0, #[]⟩) ::
  (nat_lit 658, ⟨.type "code", none, .fields (List.toArray (.str (.ofString "_law_octets") 974 :: .str (.ofString "_law_octets") 975 :: .str (.ofString "/claim/cut.py") 976 :: .int 528 0 :: .int 2 0 :: .int 0 0 :: .int 0 0 :: .int 3 0 :: .ref 653 :: .bool true :: .int 181 0 :: .ref 654 :: .none :: .ref 655 :: .ref 656 :: .ref 657 :: .int 980 0 :: .int 528 0 :: .str (.ofString "/claim/cut.py") 981 :: [])), #[]⟩) ::
  (nat_lit 659, ⟨.type "function", none, .func (fnOf (.ofString "_law_octets") (.ofString "_law_octets") (topFn 29).1 (topFn 29).2.1 (topFn 29).2.2 .none .none .none (.str (.ofString "law_kt0007_01") 959) none (.ref 658) .none), #[]⟩) ::
  (nat_lit 660, ⟨.type "tuple", none, .seq #[] 0, #[]⟩) ::
  (nat_lit 663, ⟨.type "code", none, .fields (List.toArray (.str (.ofString "_law_rank") 983 :: .str (.ofString "_law_rank") 984 :: .str (.ofString "/claim/cut.py") 985 :: .int 534 0 :: .int 2 0 :: .int 0 0 :: .int 0 0 :: .int 3 0 :: .ref 660 :: .bool true :: .int 181 0 :: .ref 661 :: .none :: .none :: .none :: .ref 662 :: .int 986 0 :: .int 534 0 :: .str (.ofString "/claim/cut.py") 987 :: [])), #[]⟩) ::
  (nat_lit 664, ⟨.type "function", none, .func (fnOf (.ofString "_law_rank") (.ofString "_law_rank") (topFn 30).1 (topFn 30).2.1 (topFn 30).2.2 .none .none .none (.str (.ofString "law_kt0007_01") 959) none (.ref 663) .none), #[]⟩) ::
  (nat_lit 665, ⟨.type "tuple", none, .seq #[] 0, #[]⟩) ::
  (nat_lit 668, ⟨.type "code", none, .fields (List.toArray (.str (.ofString "_law_number") 989 :: .str (.ofString "_law_number") 990 :: .str (.ofString "/claim/cut.py") 991 :: .int 546 0 :: .int 2 0 :: .int 0 0 :: .int 0 0 :: .int 3 0 :: .ref 665 :: .bool true :: .int 181 0 :: .ref 666 :: .none :: .none :: .none :: .ref 667 :: .int 992 0 :: .int 546 0 :: .str (.ofString "/claim/cut.py") 993 :: [])), #[]⟩) ::
  (nat_lit 669, ⟨.type "function", none, .func (fnOf (.ofString "_law_number") (.ofString "_law_number") (topFn 31).1 (topFn 31).2.1 (topFn 31).2.2 .none .none .none (.str (.ofString "law_kt0007_01") 959) none (.ref 668) .none), #[]⟩) ::
  (nat_lit 670, ⟨.type "tuple", none, .seq #[] 0, #[]⟩) ::
  (nat_lit 673, ⟨.type "code", none, .fields (List.toArray (.str (.ofString "_law_places") 995 :: .str (.ofString "_law_places") 996 :: .str (.ofString "/claim/cut.py") 997 :: .int 555 0 :: .int 1 0 :: .int 0 0 :: .int 0 0 :: .int 3 0 :: .ref 670 :: .bool true :: .int 181 0 :: .ref 671 :: .none :: .none :: .none :: .ref 672 :: .int 998 0 :: .int 555 0 :: .str (.ofString "/claim/cut.py") 999 :: [])), #[]⟩) ::
  (nat_lit 674, ⟨.type "function", none, .func (fnOf (.ofString "_law_places") (.ofString "_law_places") (topFn 32).1 (topFn 32).2.1 (topFn 32).2.2 .none .none .none (.str (.ofString "law_kt0007_01") 959) none (.ref 673) .none), #[]⟩) ::
  (nat_lit 675, ⟨.type "tuple", none, .seq #[] 0, #[]⟩) ::
  (nat_lit 677, ⟨.type "tuple", none, .seq #[.str (.ofString "figures") 1004, .str (.ofString "base") 1005, .str (.ofString "number") 1006, .str (.ofString "figure") 1007] 0, #[]⟩) ::
  (nat_lit 678, ⟨.type "tuple", none, .seq #[] 0, #[]⟩) ::
  (nat_lit 680, ⟨.type "code", none, .fields (List.toArray (.str (.ofString "_law_value") 1001 :: .str (.ofString "_law_value") 1002 :: .str (.ofString "/claim/cut.py") 1003 :: .int 558 0 :: .int 2 0 :: .int 0 0 :: .int 0 0 :: .int 3 0 :: .ref 675 :: .bool true :: .int 181 0 :: .ref 676 :: .none :: .ref 677 :: .ref 678 :: .ref 679 :: .int 1008 0 :: .int 558 0 :: .str (.ofString "/claim/cut.py") 1009 :: [])), #[]⟩) ::
  (nat_lit 681, ⟨.type "function", none, .func (fnOf (.ofString "_law_value") (.ofString "_law_value") (topFn 33).1 (topFn 33).2.1 (topFn 33).2.2 .none .none .none (.str (.ofString "law_kt0007_01") 959) none (.ref 680) .none), #[]⟩) ::
  (nat_lit 682, ⟨.type "tuple", none, .seq #[] 0, #[]⟩) ::
  (nat_lit 684, ⟨.type "tuple", none, .seq #[.str (.ofString "one") 1014, .str (.ofString "two") 1015, .str (.ofString "k") 1016] 0, #[]⟩) ::
  (nat_lit 685, ⟨.type "tuple", none, .seq #[] 0, #[]⟩) ::
  (nat_lit 687, ⟨.type "code", none, .fields (List.toArray (.str (.ofString "_law_first_unlike") 1011 :: .str (.ofString "_law_first_unlike") 1012 :: .str (.ofString "/claim/cut.py") 1013 :: .int 563 0 :: .int 2 0 :: .int 0 0 :: .int 0 0 :: .int 3 0 :: .ref 682 :: .bool true :: .int 181 0 :: .ref 683 :: .none :: .ref 684 :: .ref 685 :: .ref 686 :: .int 1017 0 :: .int 563 0 :: .str (.ofString "/claim/cut.py") 1018 :: [])), #[]⟩) ::
  (nat_lit 688, ⟨.type "function", none, .func (fnOf (.ofString "_law_first_unlike") (.ofString "_law_first_unlike") (topFn 34).1 (topFn 34).2.1 (topFn 34).2.2 .none .none .none (.str (.ofString "law_kt0007_01") 959) none (.ref 687) .none), #[]⟩) ::
  (nat_lit 689, ⟨.type "tuple", none, .seq #[] 0, #[]⟩) ::
  (nat_lit 691, ⟨.type "tuple", none, .seq #[.str (.ofString "these") 1023, .str (.ofString "those") 1024, .str (.ofString "due") 1025, .str (.ofString "k") 1026] 0, #[]⟩) ::
  (nat_lit 692, ⟨.type "tuple", none, .seq #[] 0, #[]⟩) ::
  (nat_lit 694, ⟨.type "code", none, .fields (List.toArray (.str (.ofString "_law_lacks") 1020 :: .str (.ofString "_law_lacks") 1021 :: .str (.ofString "/claim/cut.py") 1022 :: .int 568 0 :: .int 2 0 :: .int 0 0 :: .int 0 0 :: .int 3 0 :: .ref 689 :: .bool true :: .int 181 0 :: .ref 690 :: .none :: .ref 691 :: .ref 692 :: .ref 693 :: .int 1027 0 :: .int 568 0 :: .str (.ofString "/claim/cut.py") 1028 :: [])), #[]⟩) ::
  (nat_lit 695, ⟨.type "function", none, .func (fnOf (.ofString "_law_lacks") (.ofString "_law_lacks") (topFn 35).1 (topFn 35).2.1 (topFn 35).2.2 .none .none .none (.str (.ofString "law_kt0007_01") 959) none (.ref 694) .none), #[]⟩) ::
  (nat_lit 696, ⟨.type "tuple", none, .seq #[] 0, #[]⟩) ::
  (nat_lit 699, ⟨.type "code", none, .fields (List.toArray (.str (.ofString "law") 1030 :: .str (.ofString "law") 1031 :: .str (.ofString "/claim/cut.py") 1032 :: .int 574 0 :: .int 1 0 :: .int 0 0 :: .int 0 0 :: .int 3 0 :: .ref 696 :: .bool true :: .int 181 0 :: .ref 697 :: .none :: .none :: .none :: .ref 698 :: .int 1033 0 :: .int 574 0 :: .str (.ofString "/claim/cut.py") 1034 :: [])), #[]⟩) ::
  (nat_lit 700, ⟨.type "function", none, .func (fnOf (.ofString "law") (.ofString "law") (topFn 36).1 (topFn 36).2.1 (topFn 36).2.2 .none .none .none (.str (.ofString "law_kt0007_01") 959) none (.ref 699) .none), #[]⟩) :: []
/-- the statements that stand when the top has run -/
noncomputable def vw : Program := view PySem.Challenge.pw_kt0007_01 [0, 2, 3, 5, 6, 7, 9, 11, 14, 16, 17, 19, 20, 21, 22, 23, 24, 25, 26, 28, 29, 30, 31, 32, 33, 34, 35, 36]
noncomputable abbrev kAs : List Nat := nat_lit 2 :: nat_lit 3 :: nat_lit 15 :: nat_lit 17 :: nat_lit 18 :: nat_lit 20 :: nat_lit 21 :: nat_lit 22 :: nat_lit 24 :: nat_lit 25 :: nat_lit 27 :: nat_lit 28 :: nat_lit 29 :: nat_lit 31 :: nat_lit 32 :: nat_lit 34 :: nat_lit 35 :: nat_lit 36 :: nat_lit 38 :: nat_lit 39 :: nat_lit 41 :: nat_lit 42 :: nat_lit 43 :: nat_lit 45 :: nat_lit 46 :: nat_lit 48 :: nat_lit 49 :: nat_lit 50 :: nat_lit 51 :: nat_lit 53 :: nat_lit 54 :: nat_lit 56 :: nat_lit 57 :: nat_lit 58 :: nat_lit 59 :: nat_lit 60 :: nat_lit 62 :: nat_lit 63 :: nat_lit 65 :: nat_lit 66 :: nat_lit 67 :: nat_lit 68 :: nat_lit 70 :: nat_lit 71 :: nat_lit 73 :: nat_lit 74 :: nat_lit 75 :: nat_lit 77 :: nat_lit 78 :: nat_lit 80 :: nat_lit 81 :: nat_lit 82 :: nat_lit 84 :: nat_lit 85 :: nat_lit 87 :: nat_lit 88 :: nat_lit 89 :: nat_lit 91 :: nat_lit 92 :: nat_lit 94 :: nat_lit 95 :: nat_lit 103 :: nat_lit 105 :: nat_lit 106 :: nat_lit 108 :: nat_lit 109 :: nat_lit 110 :: nat_lit 117 :: nat_lit 118 :: nat_lit 119 :: nat_lit 120 :: nat_lit 130 :: nat_lit 132 :: nat_lit 133 :: nat_lit 135 :: nat_lit 136 :: nat_lit 137 :: nat_lit 138 :: nat_lit 139 :: nat_lit 140 :: nat_lit 141 :: nat_lit 142 :: nat_lit 145 :: nat_lit 152 :: nat_lit 153 :: nat_lit 154 :: nat_lit 157 :: nat_lit 164 :: nat_lit 165 :: nat_lit 166 :: nat_lit 169 :: nat_lit 176 :: nat_lit 177 :: nat_lit 179 :: nat_lit 180 :: nat_lit 182 :: nat_lit 183 :: nat_lit 184 :: nat_lit 186 :: nat_lit 187 :: nat_lit 189 :: nat_lit 190 :: nat_lit 297 :: nat_lit 305 :: nat_lit 313 :: nat_lit 314 :: nat_lit 316 :: nat_lit 317 :: nat_lit 319 :: nat_lit 320 :: nat_lit 321 :: nat_lit 343 :: nat_lit 351 :: nat_lit 394 :: nat_lit 395 :: nat_lit 396 :: nat_lit 399 :: nat_lit 406 :: nat_lit 566 :: nat_lit 574 :: nat_lit 582 :: nat_lit 590 :: nat_lit 598 :: nat_lit 641 :: nat_lit 646 :: nat_lit 648 :: nat_lit 649 :: nat_lit 651 :: nat_lit 652 :: nat_lit 653 :: nat_lit 655 :: nat_lit 656 :: nat_lit 658 :: nat_lit 659 :: nat_lit 660 :: nat_lit 663 :: nat_lit 664 :: nat_lit 665 :: nat_lit 668 :: nat_lit 669 :: nat_lit 670 :: nat_lit 673 :: nat_lit 674 :: nat_lit 675 :: nat_lit 677 :: nat_lit 678 :: nat_lit 680 :: nat_lit 681 :: nat_lit 682 :: nat_lit 684 :: nat_lit 685 :: nat_lit 687 :: nat_lit 688 :: nat_lit 689 :: nat_lit 691 :: nat_lit 692 :: nat_lit 694 :: nat_lit 695 :: nat_lit 696 :: nat_lit 699 :: nat_lit 700 :: []
end Mine
end

section
open PySem PySem.W PyProof.Rows PySem.Calls
namespace Mine
section
variable {M : Model} {A : Around} {E : Value → Shared → Prop} {s : Shared} {env : Env}
theorem execs_castN {l l' : List Stmt} {Q : Flow → Shared → Prop} (e : l = l') (h : wpN M A (execs l' env) Q E s) : wpN M A (execs l env) Q E s := e ▸ h
theorem execs_cast {l l' : List Stmt} {Q : Flow → Shared → Prop} (e : l = l') (h : wpAny M A (execs l' env) Q E s) : wpAny M A (execs l env) Q E s := e ▸ h
theorem wpN_standAt {α : Type} {pos : Pos} {k : Unit → Sem α} {Q : α → Shared → Prop} (h : wpN M A (k ()) Q E s) : wpN M A (standAt pos >>= k) Q E s :=
  wpN_bindA (wpAny_standAt h)
theorem wpN_execs_cons {st rest} {Q : Flow → Shared → Prop}
    (h : wpN M A (exec st env) (fun f s' => match f with | .next => wpN M A (execs rest env) Q E s' | f => Q f s') E s) :
    wpN M A (execs (st :: rest) env) Q E s := by
  rw [execs_cons]
  refine wpN_bind (wpN_mono h (fun f s' h' => ?_) fun _ _ e => e)
  cases f <;> first | exact h' | exact wpN_pure h'
theorem wpN_seq {st rest} {Q : Flow → Shared → Prop}
    (h : wpAny M A (exec st env) (fun f s' => match f with | .next => wpN M A (execs rest env) Q E s' | f => Q f s') E s) :
    wpN M A (execs (st :: rest) env) Q E s := wpN_execs_cons (wpN_of_any h)
theorem wpN_Assign_Name {x pos' value pos} {Q : Flow → Shared → Prop}
    (h : wpN M A (eval value env) (fun v s₁ => wpAny M A (storeName env x v) (fun _ => Q .next) E s₁) E s)
    (hs : swapsWith value (some (.Name x pos')) pos.line env = pure false := by rfl) :
    wpN M A (exec (.Assign [.Name x pos'] value pos) env) Q E s := fun Γ p hN hΓ => by
  simp only [exec_Assign_Name env x pos' value pos hs, Sem.wp_bind', Sem.wp_cmd_standAt, Sem.wp_bindName, Sem.wp_pure']
  exact Sem.wp_mono M Γ _ (fun v _ s₁ h₁ => h₁ Γ _ hΓ) (fun _ _ _ h' => h') _ _ (h Γ _ hN hΓ)
theorem wpN_Assign_Attribute {o attr pos' value pos} {Q : Flow → Shared → Prop}
    (h : wpN M A (eval value env) (fun v s₁ => wpAny M A (eval o env) (fun ov s₂ => wpAny M A (setAttr ov attr v) (fun _ => Q .next) E s₂) E s₁) E s)
    (hs : swapsWith value (some (.Attribute o attr pos')) pos.line env = pure false := by rfl) :
    wpN M A (exec (.Assign [.Attribute o attr pos'] value pos) env) Q E s := fun Γ p hN hΓ => by
  simp only [plainObj_exec_Assign_Attribute o attr pos' value pos hs, assign_Attribute, Sem.wp_bind', Sem.wp_holding, Sem.wp_cmd_standAt, Sem.wp_release, Sem.wp_pure']
  exact Sem.wp_mono M Γ _ (fun v p₁ s₁ h₁ => Sem.wp_mono M Γ _ (fun ov _ s₂ h₂ => h₂ Γ _ hΓ) (fun _ _ _ h' => h') _ _ (h₁ Γ p₁ hΓ)) (fun _ _ _ h' => h') _ _ (h Γ _ hN hΓ)
theorem wpN_Return {e pos} {Q : Flow → Shared → Prop} (h : wpN M A (eval e env) (fun v => Q (.ret v)) E s) :
    wpN M A (exec (.Return (some e) pos) env) Q E s := by
  rw [exec_Return_some]
  exact wpN_standAt (wpN_bind (wpN_mono h (fun _ _ x => wpN_pure x) fun _ _ x => x))
theorem wpN_IfN {test body orelse pos} {Q : Flow → Shared → Prop}
    (h : wpN M A (isTrue test env (eval test env)) (fun b s₂ => if b then wpN M A (execs body env) Q E s₂ else wpN M A (execs orelse env) Q E s₂) E s) :
    wpN M A (exec (.If test body orelse pos) env) Q E s := by
  rw [exec_If]
  refine wpN_standAt (wpN_bind (wpN_mono h (fun b s₂ h₂ => ?_) fun _ _ x => x))
  cases b <;> exact h₂
theorem wpN_isTrue_Compare1 {l op r pos whole} {Q : Bool → Shared → Prop}
    (h : wpN M A (eval l env) (fun a s₁ => wpAny M A (markedBehindIn op r (eval r env)) (fun b s₂ => wpAny M A (compareOp op a b) (fun c s₃ => wpAny M A (truthy c) Q E s₃) E s₂) E s₁) E s) :
    wpN M A (isTrue (.Compare l [op] [r] pos) env whole) Q E s := by
  rw [isTrue_Compare1]
  refine wpN_bind (wpN_mono h (fun a s₁ h₁ => ?_) fun _ _ x => x)
  exact wpN_of_any (wpAny_bind (wpAny_holding (wpAny_mono h₁ (fun b s₂ h₂ => wpAny_bind (wpAny_standAt (wpAny_bind (wpAny_operateT (wpAny_mono h₂ (fun c s₃ h₃ => wpAny_holding h₃) fun _ _ x => x))))) fun _ _ x => x)))
theorem wpN_BinOp {l op r pos} {Q : Value → Shared → Prop}
    (h : wpN M A (eval l env) (fun a s₁ => wpN M A (eval r env) (fun b s₂ => wpAny M A (binaryOp op a b) Q E s₂) E s₁) E s) :
    wpN M A (eval (.BinOp l op r pos) env) Q E s := by
  rw [arm_eval_BinOp]
  refine wpN_bind (wpN_mono h (fun a s₁ h₁ => wpN_bind (wpN_holding (wpN_mono h₁ (fun b s₂ h₂ => wpN_standAt (wpN_of_any (wpAny_operateT h₂))) fun _ _ x => x))) fun _ _ x => x)
theorem wpN_IfExp {test body orelse pos} {Q : Value → Shared → Prop}
    (h : wpAny M A (isTrue test env (eval test env)) (fun b s₁ => if b then wpN M A (eval body env) Q E s₁ else wpN M A (eval orelse env) Q E s₁) E s) :
    wpN M A (eval (.IfExp test body orelse pos) env) Q E s := by
  rw [arm_eval_IfExp]
  refine wpN_bindA (wpAny_mono h (fun b s₁ h₁ => ?_) fun _ _ x => x)
  cases b <;> exact h₁
/-- a call by name, places alone: what is evaluated before the call does not ask for the stack -/
theorem wpN_Call {n : Str} {np : Pos} {e : Expr} {args : List Expr} {pos : Pos} {Q : Value → Shared → Prop} {P : Value → Heap → Prop}
    (hk : ∀ f h, P f h → ∃ k, (k = Keeper.frame ∨ k = Keeper.machine ∨ k = Keeper.boundFrame) ∧ Looks M h (keeperOf f) k)
    (h : wpAny M A (eval (.Name n np) env) (fun f s₁ => wpAny M A (spliced (backTo pos (starEach (e :: args) env))) (fun vs s₂ => P f s₂.heap ∧ wpN M A (call f vs) Q E s₂) E s₁) E s)
    (he : starEach (e :: args) env = (false, eval e env) :: starEach args env := by rfl) (hplain : (backTo pos (starEach args env)).any (·.1) = false := by rfl) :
    wpN M A (eval (.Call (.Name n np) (e :: args) [] pos) env) Q E s := by
  show wpN M A (eval (.Name n np) env >>= fun f => callWith pos f [] (backTo pos (starEach (e :: args) env)) []) Q E s
  refine wpN_bindA (wpAny_mono h (fun f s₁ h₁ => ?_) fun _ _ x => x)
  have e1 : (backTo pos (starEach (e :: args) env)) = (false, eval e env) :: backTo pos (starEach args env) := by rw [he]; rfl
  rw [e1] at h₁ ⊢
  unfold callWith
  refine wpN_bindA (wpAny_holding (evalArgs_plain (wpAny_mono h₁ (fun vs s₂ h₂ => ?_) fun _ _ x => x)))
  refine wpN_standAt ?_
  have hp : (((false, eval e env) :: backTo pos (starEach args env)).any (·.1) || ([] : List (Option Str × Sem Value)).any (·.1.isNone)) = false := by
    show ((false || (backTo pos (starEach args env)).any (·.1)) || false) = false
    rw [hplain]; rfl
  refine ex1 (hk _ _ h₂.1) fun k hz270 => an2 hz270 fun hk' L => ?_
  clear hz270
  simp only [hp]
  have tail : ∀ {t : Sem Value}, wpN M A t Q E s₂ → wpN M A (t >>= fun r => holding [r] point >>= fun _ => pure r) Q E s₂ :=
    fun ht => wpN_bind (wpN_mono ht (fun r s₃ hr => wpN_bindA (wpAny_holding (wpAny_point (wpN_pure hr)))) fun _ _ x => x)
  have marked (mk : Value) : wpN M A (callMarked mk f ([] ++ vs) []) Q E s₂ := by unfold callMarked; exact wpN_keep h₂.2
  refine wpN_bindA (L.here ?_)
  rcases hk' with rfl | rfl | rfl <;> dsimp only <;> first | exact tail h₂.2 | (split <;> first | exact tail h₂.2 | exact tail (marked _))
end
end Mine
end

section
open PySem PySem.W PyProof.Rows PySem.Calls
namespace Mine
section
variable {prog : Program} {w : World} {A : Around} {s : Shared}
theorem codeN_func {R : Result → Shared → Prop} {body env}
    (h : wpN (model prog w) (A.deeper env) (execs body env) (fun f s' => R (.ok (.ret (match f with | .ret v => v | _ => .none))) s') (fun _ _ => False) s) :
    codeN (model prog w) A (.func body env) R s := by
  refine codeN_of_tree ?_
  show wpN _ (A.deeper env) (do point; match ← (execs body env).onRaise (leaving env) with | .ret v => ret v | _ => ret .none) _ _ s
  refine wpN_bindA (wpAny_point (wpN_bind (wpN_onRaise (wpN_mono h (fun f s' h' => ?_) fun _ _ h' => h'.elim))))
  cases f <;> exact wpN_pure h'
theorem codeN_call_function {R : Result → Shared → Prop} {a : Addr} {args : Args} {o : Obj} {fd : FuncData} {body : List Stmt} (hroom : A.depth < recursionLimit)
    (ho : s.heap.get? a = some o)
    (hd' : o.data = .func fd) (hco : fd.scope.isCoroutine = false) (hgen : fd.scope.isGenerator = false) (hbody : fd.body = .stmts body) (hcd : s.heap.CodeRec fd.code fd.qualname)
    (h : wpAny (model prog w) A.in1 (bindArgs fd args) (fun binds s₁ =>
      wpAny (model prog w) A.in1 (newFunctionEnv fd.scope fd.globals fd.closure binds (fd.qualname ++ ".<locals>.") (some a) fd.code none fd.builtins)
        (fun env s₂ => s₂.heap.NoLimit ∧ codeN (model prog w) A (.func body env) R s₂) (fun e s' => R (.error e) s') s₁) (fun e s' => R (.error e) s') s) :
    codeN (model prog w) A (.call (.ref a) args) R s := by
  refine codeN_of_tree (wpN_of_any ?_)
  show wpAny _ A.in1 (callAny (.ref a) args) _ _ s
  simp only [callAny]
  refine wpAny_bind (wpAny_load ho ?_)
  refine ex4 hcd fun c oc vs tq hz271 => an4 hz271 fun hc hoc hdc hq => ?_
  clear hz271
  try clear hcd
  simp only [hd', callFunction, hco, hgen, hbody, hc]
  rw [hc] at h
  refine wpAny_bind (m := field (.ref c) 1) (wpAny_field hoc hdc hq (wpAny_bind (wpAny_pure ?_)))
  exact wpAny_bind (wpAny_mono h (fun binds s₁ h₁ => wpAny_bind (wpAny_mono h₁ (fun env s₂ h₂ => wpAny_bind (wpAny_enterFrame h₂.1 hroom
    (wpAny_pure (And.intro ⟨rfl, rfl⟩ h₂.2)))) fun _ _ h' => h')) fun _ _ h' => h')
theorem codeN_call_def {R : Result → Shared → Prop} {a : Addr} {o : Obj} {fd : FuncData} {body : List Stmt} {args : Args} {binds : List (Str × Value)}
    (hroom : A.depth < recursionLimit) (ho : s.heap.get? a = some o) (hdata : o.data = .func fd) (hlim : s.heap.NoLimit) (hcd : s.heap.CodeRec fd.code fd.qualname)
    (hbody : fd.body = .stmts body) (hbind : BindsTo s fd args binds)
    (hcell : ∀ x ∈ fd.scope.names, x.2 ≠ .cell) (hloc : ∀ x ∈ binds, fd.scope.names.lookup x.1 = some .local)
    (h : ∀ h₀, h₀.Ns s.heap.objs.size (fun x => binds.reverse.lookup x) → (∀ b o, s.heap.get? b = some o → h₀.get? b = some o) →
      wpN (model prog w) (A.deeper (callEnv fd s.heap.objs.size a)) (execs body (callEnv fd s.heap.objs.size a)) (fun f s' => R (.ok (.ret (match f with | .ret v => v | _ => .none))) s')
        (fun _ _ => False)
        { s with heap := h₀, toks := s.toks + binds.length })
    (hco : fd.scope.isCoroutine = false := by rfl) (hgen : fd.scope.isGenerator = false := by rfl) (hk : fd.scope.kind = .function := by rfl) :
    codeN (model prog w) A (.call (.ref a) args) R s := by
  refine codeN_call_function hroom ho hdata hco hgen hbody hcd (hbind _ _ _ _ ?_)
  refine wpAny_newFunctionEnv hcell hloc (fun h₀ hns₀ hsb₀ => ⟨hlim.fresh _ hsb₀, codeN_func (h h₀ hns₀ fun b o e => ?_)⟩) hk
  exact hsb₀.extBut b o (Nat.ne_of_lt (Heap.lt_size e)) (Heap.get?_push_of_some _ e)
end
end Mine
end

section
open PySem PySem.W PyProof.Rows PySem.Calls Builtin
namespace Mine
theorem ba_lk_rel : typeLookup (.type "bytearray") "__release_buffer__" = pure (some (.builtin "bytearray.__release_buffer__")) := by rw [typeLookup_type, builtinLookup_eq_fast]; kernel_rfl
theorem ba_sub : isSubtype (.type "bytearray") (.type "bytearray") = pure true := by rw [isSubtype_type]; kernel_rfl
theorem by_lk_index : typeLookup (.type "bytes") "__index__" = pure none := by rw [typeLookup_type, builtinLookup_eq_fast]; kernel_rfl
theorem by_lk_buf : typeLookup (.type "bytes") "__buffer__" = pure (some (.builtin "bytes.__buffer__")) := by rw [typeLookup_type, builtinLookup_eq_fast]; kernel_rfl
theorem by_lk_rel : typeLookup (.type "bytes") "__release_buffer__" = pure none := by rw [typeLookup_type, builtinLookup_eq_fast]; kernel_rfl
theorem ba_bind (v : Value) : Bytes.bindOptional "bytearray.__init__" "bytearray" ["source", "encoding", "errors"] [v] [] = pure [some v, none, none] := by kernel_rfl
section
variable {prog : Program} {w : World} {A : Around} {s : Shared} {E : Value → Shared → Prop}
theorem ba_ownRel {a : Addr} {Q : Bool → Shared → Prop} (hT : s.TypeIs (.ref a) "bytearray") (h : Q false s) : wpAny (model prog w) A (Bytes.ownRelease (.ref a)) Q E s := by
  unfold Bytes.ownRelease Bytes.slotIsOwn
  refine wpAny_bind (wpAny_bind (wpAny_specialOf hT ba_lk_rel ?_))
  show wpAny _ _ (if (!"bytearray.__release_buffer__".endsWith ("." ++ "__release_buffer__")) = true then _ else _) _ _ _
  rw [show (!"bytearray.__release_buffer__".endsWith ("." ++ "__release_buffer__")) = false from by decide +kernel]
  show wpAny _ _ (isInstance (.ref a) (.type ("bytearray.__release_buffer__".dropRight ("__release_buffer__".length + 1)))) _ _ _
  rw [show "bytearray.__release_buffer__".dropRight ("__release_buffer__".length + 1) = "bytearray" from by decide +kernel]
  refine wpAny_isInstance hT ba_sub ?_
  exact wpAny_pure h
theorem by_ownRel {b : Array UInt8} {t : Tok} {Q : Bool → Shared → Prop} (h : Q false s) : wpAny (model prog w) A (Bytes.ownRelease (.bytes b t)) Q E s := by
  unfold Bytes.ownRelease Bytes.slotIsOwn
  refine wpAny_bind (wpAny_bind (wpAny_specialOf (typeIs_bytes s b t) by_lk_rel ?_))
  exact wpAny_pure (wpAny_pure h)
theorem by_slotBuf {b : Array UInt8} {t : Tok} {Q : Bool → Shared → Prop} (h : Q true s) : wpAny (model prog w) A (Bytes.slotIsOwn (.bytes b t) "__buffer__") Q E s := by
  refine wpAny_bind (m := specialOf (.bytes b t) "__buffer__") (wpAny_specialOf (typeIs_bytes s b t) by_lk_buf ?_)
  show wpAny _ _ (if (!"bytes.__buffer__".endsWith ("." ++ "__buffer__")) = true then _ else _) _ _ _
  rw [show (!"bytes.__buffer__".endsWith ("." ++ "__buffer__")) = false from by decide +kernel]
  show wpAny _ _ (isInstance (.bytes b t) (.type ("bytes.__buffer__".dropRight ("__buffer__".length + 1)))) _ _ _
  rw [show "bytes.__buffer__".dropRight ("__buffer__".length + 1) = "bytes" from by decide +kernel]
  exact wpAny_isInstance (typeIs_bytes s b t) F.sub_bytes_bytes h
theorem by_buffer {id : String} {b : Array UInt8} {t : Tok} {full : Bool} {Q : Option (Array UInt8) → Shared → Prop} (h : Q (some b) s) : wpAny (model prog w) A (Bytes.buffer? id (.bytes b t) full) Q E s := by
  refine wpAny_bind (m := specialOf (.bytes b t) "__buffer__") (wpAny_specialOf (typeIs_bytes s b t) by_lk_buf ?_)
  refine wpAny_bind (m := Bytes.slotIsOwn (.bytes b t) "__buffer__") (by_slotBuf ?_)
  refine wpAny_bind (m := specialOf (.bytes b t) "__buffer__") (wpAny_specialOf (typeIs_bytes s b t) by_lk_buf ?_)
  refine wpAny_bind (m := Bytes.ownRelease (.bytes b t)) (by_ownRel ?_)
  exact wpAny_bind (m := Bytes.payload (.bytes b t)) (wpAny_pure (wpAny_pure h))
noncomputable abbrev baObj (b : Array UInt8) : Obj := { cls := .type "bytearray", data := .bytearray b 0 }
theorem codeN_builtin {id : String} {args : Args} {B : Builtin} {R : Result → Shared → Prop} (en : entryFor table id = some B)
    (h : wpN (model prog w) (A.under (.builtin id args)) (B args) (fun fin s' => match fin with | .done f => R (.ok f) s' | .again c' => (c'.quiet = true ∧ cleanC c' = true) ∧ codeN (model prog w) A c' R s')
      (fun e s' => R (.error e) s') s) : codeN (model prog w) A (.builtin id args) R s := by
  refine codeN_of_tree ?_
  have e : (model prog w).den (.builtin id args) = (match entryFor table id with
    | some b => b args
    | none => unsupported ((withoutEnding? id "#data").getD id)) := rfl
  rw [e, en]; exact h
theorem ba_entry : entryFor table "bytearray.__init__" = some Builtin.«bytearray.__init__» := by first | exact entryFor_of_fast (by kernel_rfl) | exact entryFor_of_tree (by kernel_rfl)
theorem ba_write {a : Addr} {x : Array UInt8} {f : Array UInt8 → Array UInt8} {Q : Unit → Shared → Prop} (ho : s.heap.get? a = some (baObj x)) (hz : (f x).size ≤ sizeLine)
    (h : ∀ h', h'.get? a = some (baObj (f x)) → Heap.SameBut a s.heap h' → Q () { s with heap := h' }) : wpAny (model prog w) A (Bytes.write (.ref a) f) Q E s := by
  have g2 : (s.heap.update a (Obj.mapBytearray f)).get? a = some (baObj (f x)) := by
    rw [Heap.get?_update_self _ ho] <;> rfl
  unfold Bytes.write updateBytearray
  refine wpAny_bind (wpAny_load ho ?_)
  refine wpAny_bind (wpAny_update ho ?_)
  refine wpAny_lookBehind g2 ?_ (h _ g2 (Heap.SameBut.update ..))
  show (if _ then _ else _) = _
  rw [if_neg]
  simpa using hz
theorem orE {A : Around} {x y : Sem Bool} {Q : Bool → Shared → Prop} (h : wpN (model prog w) A x (fun b s' => wpN (model prog w) A (match b with | true => pure true | false => y) Q E s') E s) : wpN (model prog w) A (x <||> y) Q E s := by
  have oe : (x <||> y) = (x >>= fun b => match b with | true => pure true | false => y) := by
    show (x >>= fun b => _) = _
    congr 1; funext b; cases b <;> rfl
  rw [oe]
  exact wpN_bind h
theorem ba_init {a : Addr} {b : Array UInt8} {tb : Tok} {R : Result → Shared → Prop} (ho : s.heap.get? a = some (baObj #[])) (hz : b.size ≤ sizeLine)
    (h : ∀ h', h'.get? a = some (baObj b) → Heap.SameBut a s.heap h' → R (.ok (.ret .none)) { s with heap := h' }) :
    codeN (model prog w) A (.builtin "bytearray.__init__" ⟨[.ref a, .bytes b tb], []⟩) R s := by
  refine codeN_builtin ba_entry ?_
  have hT : s.TypeIs (.ref a) "bytearray" := ⟨_, ho, rfl⟩
  refine wpN_bindA (m := Bytes.ownRelease (.ref a)) (ba_ownRel hT ?_)
  refine wpN_bindA (m := Bytes.bindOptional "bytearray.__init__" "bytearray" ["source", "encoding", "errors"] [.bytes b tb] []) (wpAny_of_eq (ba_bind _) ?_)
  refine wpN_bindA (m := Bytes.checkCodecArg "bytearray.__init__" "bytearray" "encoding" none) (wpAny_of_eq rfl ?_)
  refine wpN_bindA (m := Bytes.checkCodecArg "bytearray.__init__" "bytearray" "errors" none) (wpAny_of_eq rfl ?_)
  refine wpN_bind (orE (wpN_exported ?_))
  refine wpN_bindA (m := Bytes.exportsOf (.ref a)) (wpAny_bind (wpAny_load ho (wpAny_pure (wpN_pure ?_))))
  refine wpN_of_any ?_
  refine wpAny_bind (m := Bytes.write (.ref a) fun _ => #[]) (ba_write ho (Nat.zero_le _) fun h₁ g₁ s₁ => ?_)
  refine wpAny_bind (m := asStr? (Value.bytes b tb)) (wpAny_of_eq (rfl : asStr? (Value.bytes b tb) = pure none) ?_)
  refine wpAny_bind (m := pure ()) (wpAny_pure (wpAny_bind (m := specialOf (.bytes b tb) "__index__") (wpAny_specialOf (typeIs_bytes _ b tb) by_lk_index ?_)))
  refine wpAny_bind (m := Bytes.buffer? _ (.bytes b tb) _) (by_buffer ?_)
  refine wpAny_bind (wpAny_rule (wpAny_bind (ba_write (s := { s with heap := h₁ }) g₁ hz fun h₂ g₂ s₂ => ?_)))
  exact wpAny_pure (h h₂ g₂ ⟨s₂.1.trans s₁.1, fun c hc => (s₂.2 c hc).trans (s₁.2 c hc)⟩)
end
end Mine
end

section
open PySem PySem.W PyProof.Rows PySem.Calls Builtin
namespace Mine
structure Ar (A : Around) (k : Nat) : Prop where
  hd : A.handled = none
  dp : A.depth + k ≤ 990
  un : A.units + 3 * k ≤ 9800
theorem wide {α : Type} {M : Model} {A : Around} {k : Nat} {t : Sem α} {Q : α → Shared → Prop} {E : Value → Shared → Prop} {s : Shared} (hA : Ar A k) (n u : Nat) (hn : 990 ≤ n + k) (hu : 9800 ≤ u + 3 * k)
    (h : wpAny M ⟨none, n, none, none, u⟩ t Q E s) : wpAny M A t Q E s := fun Γ p hΓ =>
  h Γ p ⟨hΓ.1.trans hA.hd, by have := hΓ.2.1; have := hA.dp; show _ ≤ n; lia, (fun l e => by cases e), (fun l e => by cases e), by have := hΓ.2.2.2.2; have := hA.un; show _ ≤ u; lia⟩
theorem ba_lk_new : typeLookup (.type "bytearray") "__new__" = pure (some (.builtin "bytearray.__new__")) := by rw [typeLookup_type, builtinLookup_eq_fast]; kernel_rfl
theorem ba_mro : mroOf (.type "bytearray") = pure [.type "bytearray", .type "object"] := by rw [mroOf_type]; kernel_rfl
theorem ba_made : Bind.madeBy (.type "bytearray") = pure (some "bytearray.__new__") := by
  first | kernel_rfl | (unfold Bind.madeBy; rw [ba_mro]; rfl)
theorem ba_slot_init : Slot "bytearray" "__init__" "bytearray.__init__" :=
  .of (owner := "bytearray") (n := "__init__") (by rw [typeLookup_type, builtinLookup_eq_fast]; kernel_rfl) (by decide +kernel) (by decide +kernel) (by decide +kernel)
    (by first | exact .inl (by decide +kernel) | exact .inr (by decide +kernel)) (by rw [isSubtype_type]; kernel_rfl)
theorem ba_called : TypeCalled "bytearray" "bytearray.__new__" "bytearray.__init__" :=
  ⟨by decide +kernel, by decide +kernel, (exi2 _ _ ba_mro), ba_made, by decide +kernel, ba_sub, ba_slot_init⟩
theorem ba_typeCall (a : Value) : checkTypeCall "bytearray" ⟨[a], []⟩ = pure () := by kernel_rfl
theorem ba_newCall (a : Value) : checkBuiltinCall "bytearray.__new__" ⟨[.type "bytearray", a], []⟩ = pure () := by kernel_rfl
theorem ba_entryN : entryFor table "bytearray.__new__" = some Builtin.«list.__new__» := entryFor_alias (id' := "list.__new__") (by kernel_rfl) rfl (by decide +kernel) (by kernel_rfl)
theorem ba_args (a b : Value) : argsOk "bytearray.__init__" ⟨[a, b], []⟩ := by unfold argsOk; kernel_rfl
section
variable {prog : Program} {w : World} {A : Around} {s : Shared} {E : Value → Shared → Prop}
theorem memKeep {h₀ h : Heap} {news : List (Addr × Obj)} (D : X.Mem h₀ h [] news) (b : Addr) (o : Obj) (e : h₀.get? b = some o) : h.get? b = some o := D.keep b o e (by simp [X.away])
local macro_rules | `(tactic| x_close) => `(tactic| solve_by_elim)
theorem ba_new {A : Around} (hA : Ar A 5) {b : Value} {Q : Value → Shared → Prop}
    (hQ : ∀ a h', X.Mem s.heap h' [] [(a, baObj #[])] → Q (.ref a) { s with heap := h' }) :
    wpAny (model prog w) A (call (.builtin "bytearray.__new__") [.type "bytearray", b]) Q E s := by
  refine wide hA 985 9785 (by decide) (by decide) ?_
  x_run
theorem Ar.mono {A : Around} {k k' : Nat} (h : Ar A k) (hk : k' ≤ k) : Ar A k' := ⟨h.hd, by have := h.dp; lia, by have := h.un; lia⟩
theorem Ar.underT {A : Around} {k : Nat} {T : String} {args : List Value} {kw : List (Str × Value)} (h : Ar A (k + 1)) : Ar (A.under (.builtin "type.__call__" ⟨.type T :: args, kw⟩)) k :=
  ⟨h.hd, by have := h.dp; show A.depth + 0 + k ≤ 990; lia, by have := h.un; show A.units + 1 + 3 * k ≤ 9800; lia⟩
theorem ba_callInit {a : Addr} {b : Array UInt8} {tb : Tok} {R : Result → Shared → Prop} (ho : s.heap.get? a = some (baObj #[])) (hz : b.size ≤ sizeLine)
    (h : ∀ h', h'.get? a = some (baObj b) → Heap.SameBut a s.heap h' → R (.ok (.ret .none)) { s with heap := h' }) :
    codeN (model prog w) A (.call (.builtin "bytearray.__init__") ⟨[.ref a, .bytes b tb], []⟩) R s := by
  refine codeN_of_tree ?_
  show wpN _ _ (checkBuiltinCall "bytearray.__init__" _ >>= fun _ => again _) _ _ _
  refine wpN_bindA (ba_slot_init.check _ _ _ _ _ _ _ _ ⟨_, ho, rfl⟩ (ba_args _ _) ?_)
  exact wpN_pure ⟨⟨Code.quiet_builtin _ (by decide +kernel), rfl⟩, ba_init ho hz h⟩
theorem ba_call {A : Around} (hA : Ar A 8) {b : Array UInt8} {tb : Tok} {Q : Value → Shared → Prop} (hz : b.size ≤ sizeLine)
    (h : ∀ a h', h'.get? a = some (baObj b) → s.heap.get? a = none → (∀ c o, s.heap.get? c = some o → h'.get? c = some o) → Q (.ref a) { s with heap := h' }) :
    wpN (model prog w) A (call (.type "bytearray") [.bytes b tb]) Q E s := by
  have hmro := ba_mro
  have hmade := ba_made
  have hsub := ba_sub
  refine wpN_call (codeN_of_tree ?_)
  show wpN _ _ (callAny (.type "bytearray") _) _ _ _
  refine wpN_pure ⟨⟨Code.quiet_builtin _ (by decide +kernel), rfl⟩, codeN_builtin F.entry_type_call ?_⟩
  have h1 := ba_called.notType
  have h2 := ba_called.canCreate
  have h3 := ba_typeCall (.bytes b tb)
  unfold Builtin.«type.__call__»
  dsimp only
  rw [h1]
  simp only [Bool.false_eq_true, if_false]
  rw [h2]
  simp only [Bool.false_eq_true, if_false]
  refine wpN_bindA (wpAny_of_eq h3 (wpN_bindA (wpAny_of_eq hmro ?_)))
  simp only [List.isEmpty_cons, Bool.false_eq_true, if_false]
  refine wpN_bindA (wpAny_of_eq hmade ?_)
  dsimp only
  refine wpN_bindA (wpAny_pure (wpN_bindA (wpAny_holding (ba_new (hA.underT.mono (by decide)) fun a h' D => ?_))))
  have g : h'.get? a = some (baObj #[]) := (D.nw _ (.head _)).1
  have hT : ({ s with heap := h' } : Shared).TypeIs (.ref a) "bytearray" := ⟨_, g, rfl⟩
  refine wpN_bindA (wpAny_isInstance hT hsub ?_)
  simp only [Bool.not_true, Bool.false_eq_true, if_false]
  refine wpN_bind (wpN_holding ?_)
  unfold callSpecial?
  refine wpN_bindA (wpAny_specialOf hT ba_slot_init.lookup ?_)
  dsimp only
  refine wpN_holding (wpN_bindA (wpAny_of_eq (ba_slot_init.bind _) ?_))
  dsimp only
  refine wpN_bind (wpN_call (ba_callInit g hz fun h₂ g₂ s₂ => ?_))
  refine wpN_pure ?_
  dsimp only
  simp only [bne_self_eq_false, Bool.false_eq_true, if_false]
  refine wpN_pure ?_
  exact h a h₂ g₂ (D.nw _ (.head _)).2 fun c o e => (s₂.2 c (fun q => by have := (D.nw _ (.head _)).2; rw [← q, e] at this; cases this)).trans (memKeep D c o e)
end
end Mine
end

section
open PySem PySem.W PyProof.Rows PySem.Calls
namespace Mine
theorem fillK : PySem.Challenge.rw_kt0007_01 = PySem.Challenge.rw_kt0007_01 ∧ Kf = Kf := by
  k_fill
  exact ⟨rfl, rfl⟩
theorem frGrow {h₀ h h' : Heap} {L : Addr} {m : Str → Option Value} (F : Fr h₀ L h m) (hk : ∀ b o, h.get? b = some o → h'.get? b = some o) : Fr h₀ L h' m :=
  ⟨F.ns.keeps hk, fun b o e => hk b o (F.keep b o e), F.above⟩
theorem newsGrow {h₀ h h' : Heap} {L : Addr} {news : List (Addr × Obj)} (N : News h₀ L h news) (hk : ∀ b o, h.get? b = some o → h'.get? b = some o) : News h₀ L h' news :=
  fun p hp => ⟨hk _ _ (N p hp).1, (N p hp).2⟩
noncomputable abbrev looseL : List Str := [Str.ofString "b2a_base64", Str.ofString "_NO_SEP", Str.ofString "b2a_hex", Str.ofString "hexlify",
      Str.ofString "b64encode", Str.ofString "UnsupportedOperation", Str.ofString "IOBase",
      Str.ofString "BufferedIOBase", Str.ofString "TextIOBase", Str.ofString "BytesIO", Str.ofString "StringIO"]
noncomputable abbrev Pr : Program := PySem.Challenge.rw_kt0007_01.row.prog
/-- the world's facts that a call needs: they live on as the heap grows -/
structure Wd (w : World) (h : Heap) : Prop where
  k : (Kf w.params).In h
  t : ∃ mean mg mb, Top vw (looseW vw looseL) mean mg mb h
theorem Wd.grow {w : World} {h h' : Heap} (X : Wd w h) (hk : ∀ b o, h.get? b = some o → h'.get? b = some o) : Wd w h' :=
  ⟨X.k.keeps hk, let ⟨a, b, c, t⟩ := X.t; (exi3 a b c (t.keeps hk))⟩
section
variable {prog : Program} {w : World} {A : Around} {s : Shared}
theorem enter {R : Result → Shared → Prop} {name qual : Str} {params : Arguments} {body : List Stmt} {scope : Scope} {dV kV doc pm cdv ct oc : Value} {an od : Option Addr} {osl : Array (Option Value)} {f : Addr} {args : Args} {binds : List (Str × Value)}
    (X : Wd w s.heap) (hroom : A.depth < recursionLimit)
    (ho : (Kf w.params).lookup f = some ⟨oc, od, .func (fnOf name qual params body scope dV kV doc pm an cdv ct), osl⟩) (hcd : codeIn (Kf w.params) cdv qual = true)
    (hbind : BindsTo s (fnOf name qual params body scope dV kV doc pm an cdv ct) args binds) (hloc : ∀ y ∈ binds, scope.names.lookup y.1 = some .local)
    (h : ∀ h₁ mean mg mb, Fr s.heap s.heap.objs.size h₁ (fun y => binds.reverse.lookup y) → News s.heap s.heap.objs.size h₁ [] → (Kf w.params).In s.heap → Top vw (looseW vw looseL) mean mg mb s.heap →
      wpAny (model prog w) (A.deeper (envOf qual scope s.heap.objs.size f cdv)) (execs body (envOf qual scope s.heap.objs.size f cdv))
        (fun fl s' => R (.ok (.ret (match fl with | .ret v => v | _ => .none))) s') (fun _ _ => False)
        { s with heap := h₁, toks := s.toks + binds.length })
    (hcell : ∀ x ∈ scope.names, x.2 ≠ .cell) (hco : scope.isCoroutine = false) (hgen : scope.isGenerator = false) (hk : scope.kind = .function) : codeAny (model prog w) A (.call (.ref f) args) R s := by
  refine ex3 X.t fun mean mg mb T => ?_
  refine codeAny_call_def (fd := fnOf name qual params body scope dV kV doc pm an cdv ct) (body := body) (binds := binds) hroom (X.k _ _ ho) rfl T.nolimit (codeRec_of X.k hcd) rfl hbind hcell hloc (fun h₁ hns hk₁ => ?_) hco hgen hk
  exact wpAny_mono (h h₁ mean mg mb ⟨hns, hk₁, Nat.le_refl _⟩ News.nil X.k T) (fun _ _ x => x) (fun _ _ x => x.elim)
end
end Mine
end

section
open PySem PySem.W PyProof.Rows PySem.Calls
namespace Mine
/-! the steps of the walk, with named words for what stands behind: terms of a walk stay small -/
section
variable {M : Model} {A : Around} {E : Value → Shared → Prop} {s u : Shared} {env : Env} {st : Stmt} {ss : List Stmt} {v : Value} {b : Bool}
  {h h' : Heap} {g : Array GenState} {d : Drawn} {t t' : Nat} {o : OsState} {α : Type}
noncomputable def upd (m : Str → Option Value) (x : Str) (v : Value) : Str → Option Value := fun y => if y = x then some v else m y
noncomputable def nx (t : Nat) : Nat := t + 1
noncomputable def nxt : Flow → Bool
  | .next => true
  | _ => false
/-- the statements that stand behind the one that runs -/
structure Nxt (M : Model) (A : Around) (E : Value → Shared → Prop) (env : Env) (ss : List Stmt) (Q R : Flow → Shared → Prop) : Prop where
  go : ∀ u, wpAny M A (execs ss env) Q E u → R .next u
  out : ∀ f u, nxt f = false → Q f u → R f u
theorem seqV {Q : Flow → Shared → Prop} (h : ∀ R, Nxt M A E env ss Q R → wpAny M A (exec st env) R E s) : wpAny M A (execs (st :: ss) env) Q E s :=
  wpAny_execs_cons (h _ ⟨fun _ x => x, fun f _ e x => by cases f <;> first | exact x | cases e⟩)
theorem seqL {Q : Flow → Shared → Prop} (h : wpAny M A (exec st env) Q E s) : wpAny M A (execs [st] env) Q E s :=
  wpAny_execs_cons (wpAny_mono h (fun f _ x => by cases f <;> first | exact x | exact wpAny_execs_nil x) fun _ _ x => x)
theorem Nxt.next {Q R : Flow → Shared → Prop} (N : Nxt M A E env ss Q R) (h : wpAny M A (execs ss env) Q E u) : R .next u := N.go _ h
theorem Nxt.ret {Q R : Flow → Shared → Prop} (N : Nxt M A E env ss Q R) (h : Q (.ret v) u) : R (.ret v) u := N.out _ _ rfl h
@[reducible] def kOp (M : Model) (A : Around) (E : Value → Shared → Prop) (op : Operator) (a : Value) (Q : Value → Shared → Prop) : Value → Shared → Prop := fun b u => wpAny M A (binaryOp op a b) Q E u
@[reducible] def kBin (M : Model) (A : Around) (E : Value → Shared → Prop) (env : Env) (op : Operator) (r : PySem.Expr) (Q : Value → Shared → Prop) : Value → Shared → Prop := fun a u => wpAny M A (eval r env) (kOp M A E op a Q) E u
theorem bin_ {l r : PySem.Expr} {op : Operator} {pos : Pos} {Q : Value → Shared → Prop} (h : wpAny M A (eval l env) (kBin M A E env op r Q) E s) : wpAny M A (eval (.BinOp l op r pos) env) Q E s := wpAny_BinOp h
@[reducible] def kTr (M : Model) (A : Around) (E : Value → Shared → Prop) (Q : Bool → Shared → Prop) : Value → Shared → Prop := fun c u => wpAny M A (truthy c) Q E u
@[reducible] def kCR (M : Model) (A : Around) (E : Value → Shared → Prop) (op : CmpOp) (a : Value) (Q : Bool → Shared → Prop) : Value → Shared → Prop := fun b u => wpAny M A (compareOp op a b) (kTr M A E Q) E u
@[reducible] def kCL (M : Model) (A : Around) (E : Value → Shared → Prop) (env : Env) (op : CmpOp) (r : PySem.Expr) (Q : Bool → Shared → Prop) : Value → Shared → Prop := fun a u => wpAny M A (eval r env) (kCR M A E op a Q) E u
theorem cmp_ {l r : PySem.Expr} {op : CmpOp} {pos : Pos} {whole : Sem Value} {Q : Bool → Shared → Prop} (h : wpAny M A (eval l env) (kCL M A E env op r Q) E s)
    (hm : behindInMarks op r = false := by with_unfolding_all rfl) : wpAny M A (isTrue (.Compare l [op] [r] pos) env whole) Q E s := wpAny_isTrue_Compare1 h hm
noncomputable def kIf (M : Model) (A : Around) (E : Value → Shared → Prop) (env : Env) (x y : List Stmt) (Q : Flow → Shared → Prop) : Bool → Shared → Prop := fun b u => if b then wpAny M A (execs x env) Q E u else wpAny M A (execs y env) Q E u
theorem if_ {c : PySem.Expr} {x y : List Stmt} {pos : Pos} {Q : Flow → Shared → Prop} (h : wpAny M A (isTrue c env (eval c env)) (kIf M A E env x y Q) E s) : wpAny M A (exec (.If c x y pos) env) Q E s := wpAny_If h
theorem kIf_i {x y : List Stmt} {Q : Flow → Shared → Prop} (h : if b then wpAny M A (execs x env) Q E s else wpAny M A (execs y env) Q E s) : kIf M A E env x y Q b s := h
@[reducible] def kN (Q : Flow → Shared → Prop) : Unit → Shared → Prop := fun _ u => Q .next u
@[reducible] def kSt (M : Model) (A : Around) (E : Value → Shared → Prop) (env : Env) (x : Str) (Q : Flow → Shared → Prop) : Value → Shared → Prop := fun v u => wpAny M A (storeName env x v) (kN Q) E u
theorem asg_ {x : Str} {value : PySem.Expr} {p' pos : Pos} {Q : Flow → Shared → Prop} (h : wpAny M A (eval value env) (kSt M A E env x Q) E s)
    (hs : swapsWith value (some (.Name x p')) pos.line env = pure false := by rfl) : wpAny M A (exec (.Assign [.Name x p'] value pos) env) Q E s := wpAny_Assign_Name h hs
@[reducible] def kA2 (M : Model) (A : Around) (E : Value → Shared → Prop) (env : Env) (x : Str) (op : Operator) (a : Value) (Q : Flow → Shared → Prop) : Value → Shared → Prop := fun b u => wpAny M A (inplaceOp op a b) (kSt M A E env x Q) E u
@[reducible] def kA1 (M : Model) (A : Around) (E : Value → Shared → Prop) (env : Env) (x : Str) (op : Operator) (r : PySem.Expr) (Q : Flow → Shared → Prop) : Value → Shared → Prop := fun a u => wpAny M A (eval r env) (kA2 M A E env x op a Q) E u
theorem aug_ {x : Str} {op : Operator} {value : PySem.Expr} {p' pos : Pos} {Q : Flow → Shared → Prop} (h : wpAny M A (loadName env x) (kA1 M A E env x op value Q) E s) : wpAny M A (exec (.AugAssign (.Name x p') op value pos) env) Q E s := wpAny_AugAssign_Name h
@[reducible] def kRet (Q : Flow → Shared → Prop) : Value → Shared → Prop := fun v u => Q (.ret v) u
theorem ret_ {e : PySem.Expr} {pos : Pos} {Q : Flow → Shared → Prop} (h : wpAny M A (eval e env) (kRet Q) E s) : wpAny M A (exec (.Return (some e) pos) env) Q E s := wpAny_Return_some h
@[reducible] def kS2 (M : Model) (A : Around) (E : Value → Shared → Prop) (x y : PySem.Expr) (a : Value) (Q : Value → Shared → Prop) : Value → Shared → Prop := fun b u => wpAny M A (subscriptTail x y a b) Q E u
@[reducible] def kS1 (M : Model) (A : Around) (E : Value → Shared → Prop) (env : Env) (x y : PySem.Expr) (Q : Value → Shared → Prop) : Value → Shared → Prop := fun a u => wpAny M A (eval y env) (kS2 M A E x y a Q) E u
theorem sub_ {x y : PySem.Expr} {pos : Pos} {Q : Value → Shared → Prop} (h : wpAny M A (eval x env) (kS1 M A E env x y Q) E s) : wpAny M A (eval (.Subscript x y pos) env) Q E s := Subscript_ h
@[reducible] def kCa (M : Model) (A : Around) (E : Value → Shared → Prop) (env : Env) (pos : Pos) (l : List PySem.Expr) (Q : Value → Shared → Prop) : Value → Shared → Prop := fun f u => wpAny M A (callWith pos f [] (backTo pos (starEach l env)) []) Q E u
theorem call_ {f : PySem.Expr} {l : List PySem.Expr} {pos : Pos} {Q : Value → Shared → Prop} (h : wpAny M A (eval f env) (kCa M A E env pos l Q) E s)
    (he : eval (.Call f l [] pos) env = (do callWith pos (← eval f env) [] (backTo pos (starEach l env)) (backToKw pos (keywordEach [] env))) := by rfl) : wpAny M A (eval (.Call f l [] pos) env) Q E s := Call_ h he
@[reducible] def kCo (v : Value) (Q : List Value → Shared → Prop) : List Value → Shared → Prop := fun l u => Q (v :: l) u
@[reducible] def kAr (M : Model) (A : Around) (E : Value → Shared → Prop) (env : Env) (pos : Pos) (l : List PySem.Expr) (Q : List Value → Shared → Prop) : Value → Shared → Prop := fun v u => wpAny M A (spliced (backTo pos (starEach l env))) (kCo v Q) E u
theorem arg_ {e : PySem.Expr} {l : List PySem.Expr} {pos : Pos} {Q : List Value → Shared → Prop} (h : wpAny M A (eval e env) (kAr M A E env pos l Q) E s)
    (he : starEach (e :: l) env = (false, eval e env) :: starEach l env := by rfl) : wpAny M A (spliced (backTo pos (starEach (e :: l) env))) Q E s := args_cons h he
/-- the state is told anew: the heap, the count of tokens -/
theorem freshT {c : Sem α} {Q : α → Shared → Prop} (H : ∀ t' : Nat, wpAny M A c Q E (Shared.mk h g d t' o)) :
    wpAny M A c Q E (Shared.mk (Shared.heap (Shared.mk h g d t o)) (Shared.gens (Shared.mk h g d t o)) (Shared.drawn (Shared.mk h g d t o)) (Shared.toks (Shared.mk h g d t o) + 1) (Shared.os (Shared.mk h g d t o))) := H _
theorem normE {M' : Model} {A' : Around} {env' : Env} {E' : Value → Shared → Prop} {c : Sem α} {Q : α → Shared → Prop} (H : wpAny M A c Q (fun _ _ => False) s) : wpAny M A c Q (cameBackBy M' A' env' E') s :=
  wpAny_mono H (fun _ _ x => x) fun _ _ x => x.elim
theorem cons_f {i : Int} {k : Nat} {pos : Pos} {Q : Value → Shared → Prop} (H : ∀ t, Q (.int i t) (Shared.mk h g d (nx t) o)) : wpAny M A (eval (.Constant (.int i) k pos) env) Q E (Shared.mk h g d t o) :=
  wpAny_Constant_int (H t)
section
variable {h₀ : Heap} {L : Addr} {m : Str → Option Value} {news : List (Addr × Obj)} {x : Str} {pos : Pos}
noncomputable def locS (sc : Scope) (x : Str) : Bool := match sc.kind, sc.names.lookup x with
  | .function, some .local => true
  | _, _ => false
theorem loc_k (hl : locS env.scope x = true) : env.scope.kind = .function ∧ env.kindOf x = some .local := by
  unfold locS at hl
  split at hl
  · rename_i a b
    exact ⟨a, b⟩
  · cases hl
theorem ldE {Q : Value → Shared → Prop} (F : Fr h₀ L s.heap m) (hv : m x = some v) (hL : env.locals = L) (hl : locS env.scope x = true) (hd : (x == ("__debug__" : Str)) = false) (H : Q v s) : wpAny M A (eval (.Name x pos) env) Q E s := by
  subst hL
  exact wpAny_Name (wpAny_loadName_local (loc_k hl).1 (loc_k hl).2 F.ns hv H) hd
theorem ldnE {Q : Value → Shared → Prop} (F : Fr h₀ L s.heap m) (hv : m x = some v) (hL : env.locals = L) (hl : locS env.scope x = true) (H : Q v s) : wpAny M A (loadName env x) Q E s := by
  subst hL
  exact wpAny_loadName_local (loc_k hl).1 (loc_k hl).2 F.ns hv H
theorem stE {Q : Unit → Shared → Prop} (F : Fr h₀ L h m) (N : News h₀ L h news) (hL : env.locals = L) (hl : locS env.scope x = true)
    (H : ∀ h', Fr h₀ L h' (upd m x v) → News h₀ L h' news → ∀ t', Q () (Shared.mk h' g d t' o)) : wpAny M A (storeName env x v) Q E (Shared.mk h g d t o) := by
  subst hL
  obtain ⟨a, b⟩ := loc_k hl
  exact wpAny_storeName_local b F.ns (fun h' hn hs => H h' (F.set hn hs) (N.set hs) _) (by rw [a]; rfl)
end
section
variable {h₀ : Heap} {L : Addr} {m : Str → Option Value} {news : List (Addr × Obj)} {x : Str} {pos : Pos}
/-- a store, and a constant, behind a call: the state is told anew -/
theorem stE2 {Q : Unit → Shared → Prop} (F : Fr h₀ L h' m) (N : News h₀ L h' news) (hL : env.locals = L) (hl : locS env.scope x = true)
    (H : ∀ h₁, Fr h₀ L h₁ (upd m x v) → News h₀ L h₁ news → ∀ t₁, Q () (Shared.mk h₁ g d t₁ o)) :
    wpAny M A (storeName env x v) Q E (Shared.mk h' (Shared.gens (Shared.mk h g d t o)) (Shared.drawn (Shared.mk h g d t o)) t' (Shared.os (Shared.mk h g d t o))) := stE F N hL hl H
theorem cons_f2 {i : Int} {k : Nat} {Q : Value → Shared → Prop} (H : ∀ t, Q (.int i t) (Shared.mk h' g d (nx t) o)) :
    wpAny M A (eval (.Constant (.int i) k pos) env) Q E (Shared.mk h' (Shared.gens (Shared.mk h g d t o)) (Shared.drawn (Shared.mk h g d t o)) t' (Shared.os (Shared.mk h g d t o))) := cons_f H
end
section
variable {prog : Program} {w : World} {a b : Int} {t₁ t₂ : Tok} {Q : Value → Shared → Prop}
theorem add_f (H : ∀ t, Q (.int (a + b) t) (Shared.mk h g d (nx t) o)) : wpAny (model prog w) A (binaryOp .Add (.int a t₁) (.int b t₂)) Q E (Shared.mk h g d t o) := add_int (H _)
theorem sub_f (H : ∀ t, Q (.int (a - b) t) (Shared.mk h g d (nx t) o)) : wpAny (model prog w) A (binaryOp .Sub (.int a t₁) (.int b t₂)) Q E (Shared.mk h g d t o) := sub_int (H _)
theorem mul_f (hm : IntMulOk a b) (H : ∀ t, Q (.int (a * b) t) (Shared.mk h g d (nx t) o)) : wpAny (model prog w) A (binaryOp .Mult (.int a t₁) (.int b t₂)) Q E (Shared.mk h g d t o) := mul_int (H _) hm
theorem iadd_f (H : ∀ t, Q (.int (a + b) t) (Shared.mk h g d (nx t) o)) : wpAny (model prog w) A (inplaceOp .Add (.int a t₁) (.int b t₂)) Q E (Shared.mk h g d t o) := iadd_int (H _)
theorem isub_f (H : ∀ t, Q (.int (a - b) t) (Shared.mk h g d (nx t) o)) : wpAny (model prog w) A (inplaceOp .Sub (.int a t₁) (.int b t₂)) Q E (Shared.mk h g d t o) := isub_int (H _)
end
end
end Mine
end

section
open PySem PySem.W PyProof.Rows PySem.Calls Builtin
namespace Mine
theorem slot_bytes_lt : Slot "bytes" (cmpInfo .Lt).2.1 "bytes.__lt__" :=
  .of (owner := "bytes") (n := "__lt__") (by rw [typeLookup_type, builtinLookup_eq_fast]; kernel_rfl) (by decide +kernel) (by decide +kernel) (by decide +kernel)
    (by first | exact .inl (by decide +kernel) | exact .inr (by decide +kernel)) (by rw [isSubtype_type]; kernel_rfl)
theorem entry_bytes_lt : entryFor table "bytes.__lt__" = some Builtin.«bytes.__lt__» := entryFor_of_tree (by kernel_rfl)
theorem args_bytes_lt (a b : Value) : argsOk "bytes.__lt__" ⟨[a, b], []⟩ := by
  unfold argsOk; rw [signature?_of (id := "bytes.__lt__") (n := ['_', '_', 't', 'l', '_', '_']) (o := ['s', 'e', 't', 'y', 'b']) (by kernel_rfl) PySem.W.FB.owner_bytes]; kernel_rfl
theorem slot_bytes_gt : Slot "bytes" (cmpInfo .Gt).2.1 "bytes.__gt__" :=
  .of (owner := "bytes") (n := "__gt__") (by rw [typeLookup_type, builtinLookup_eq_fast]; kernel_rfl) (by decide +kernel) (by decide +kernel) (by decide +kernel)
    (by first | exact .inl (by decide +kernel) | exact .inr (by decide +kernel)) (by rw [isSubtype_type]; kernel_rfl)
theorem entry_bytes_gt : entryFor table "bytes.__gt__" = some Builtin.«bytes.__gt__» := entryFor_of_tree (by kernel_rfl)
theorem args_bytes_gt (a b : Value) : argsOk "bytes.__gt__" ⟨[a, b], []⟩ := by
  unfold argsOk; rw [signature?_of (id := "bytes.__gt__") (n := ['_', '_', 't', 'g', '_', '_']) (o := ['s', 'e', 't', 'y', 'b']) (by kernel_rfl) PySem.W.FB.owner_bytes]; kernel_rfl
theorem gives_bytes_lt (b c : Array UInt8) (t u : Tok) : Gives («bytes.__lt__» ⟨[.bytes b t, .bytes c u], []⟩) (.val (.bool (Bytes.order b.toList c.toList == .lt))) := by
  refine .of_wp fun M A E s Q hq => ?_
  show wpAny M A (isInstance (.bytes c u) (.type "bytes") >>= fun r => _) _ E s
  refine wpAny_bind (wpAny_isInstance (typeIs_bytes s c u) F.sub_bytes_bytes ?_)
  exact wpAny_pure ⟨_, rfl, hq⟩
theorem gives_bytes_gt (b c : Array UInt8) (t u : Tok) : Gives («bytes.__gt__» ⟨[.bytes b t, .bytes c u], []⟩) (.val (.bool (Bytes.order b.toList c.toList == .gt))) := by
  refine .of_wp fun M A E s Q hq => ?_
  show wpAny M A (isInstance (.bytes c u) (.type "bytes") >>= fun r => _) _ E s
  refine wpAny_bind (wpAny_isInstance (typeIs_bytes s c u) F.sub_bytes_bytes ?_)
  exact wpAny_pure ⟨_, rfl, hq⟩
section
variable {prog : Program} {w : World} {A : Around} {E : Value → Shared → Prop} {s : Shared} {b c : Array UInt8} {t u : Tok} {Q : Value → Shared → Prop}
theorem lt_bytes (h : Q (.bool (Bytes.order b.toList c.toList == .lt)) s) : wpAny (model prog w) A (compareOp .Lt (.bytes b t) (.bytes c u)) Q E s :=
  compareOp_gives (op := .Lt) (typeIs_bytes s b t) (typeIs_bytes s c u) slot_bytes_lt entry_bytes_lt (args_bytes_lt _ _) (gives_bytes_lt b c t u) (fun e => nomatch e) h
theorem gt_bytes (h : Q (.bool (Bytes.order b.toList c.toList == .gt)) s) : wpAny (model prog w) A (compareOp .Gt (.bytes b t) (.bytes c u)) Q E s :=
  compareOp_gives (op := .Gt) (typeIs_bytes s b t) (typeIs_bytes s c u) slot_bytes_gt entry_bytes_gt (args_bytes_gt _ _) (gives_bytes_gt b c t u) (fun e => nomatch e) h
end
end Mine
end

section
open PySem PySem.W PyProof.Rows PySem.Calls
namespace Mine
section
variable {prog : Program} {w : World} {A : Around} {s : Shared} {E : Value → Shared → Prop} {env : Env} {h₀ : Heap} {m : Str → Option Value} {news : List (Addr × Obj)}
/-- one turn's end: the names and the ledger go on -/
noncomputable def TurnEnd (h₀ : Heap) (L : Addr) (own : List (Addr × Obj)) (Jn : (Str → Option Value) → List (Addr × Obj) → Prop) (s : Shared) (Q : Flow → Shared → Prop) (f : Flow) (s₂ : Shared) : Prop :=
  match f with
  | .ret v => Q (.ret v) s₂
  | .brk => Q .next s₂
  | _ => ∃ h' tk m₂ news₂, s₂ = { s with heap := h', toks := tk } ∧ Fr h₀ L h' m₂ ∧ News h₀ L h' (own ++ news₂) ∧ Jn m₂ news₂
theorem TurnEnd.go {L : Addr} {own : List (Addr × Obj)} {J : (Str → Option Value) → List (Addr × Obj) → Prop} {Q : Flow → Shared → Prop} {h' : Heap} {tk : Nat} (F : Fr h₀ L h' m) (N : News h₀ L h' (own ++ news)) (j : J m news) :
    TurnEnd h₀ L own J s Q .next { s with heap := h', toks := tk } := ⟨h', tk, m, news, rfl, F, N, j⟩
theorem TurnEnd.cont {L : Addr} {own : List (Addr × Obj)} {J : (Str → Option Value) → List (Addr × Obj) → Prop} {Q : Flow → Shared → Prop} {h' : Heap} {tk : Nat} (F : Fr h₀ L h' m) (N : News h₀ L h' (own ++ news)) (j : J m news) :
    TurnEnd h₀ L own J s Q .cont { s with heap := h', toks := tk } := ⟨h', tk, m, news, rfl, F, N, j⟩
theorem TurnEnd.ret {L : Addr} {own : List (Addr × Obj)} {J : (Str → Option Value) → List (Addr × Obj) → Prop} {Q : Flow → Shared → Prop} {v : Value} {u : Shared} (h : Q (.ret v) u) : TurnEnd h₀ L own J s Q (.ret v) u := h
theorem TurnEnd.brk {L : Addr} {own : List (Addr × Obj)} {J : (Str → Option Value) → List (Addr × Obj) → Prop} {Q : Flow → Shared → Prop} {u : Shared} (h : Q .next u) : TurnEnd h₀ L own J s Q .brk u := h
theorem for_walks {x : Str} {px : Pos} {body : List Stmt} {I : Addr} {fp : List Addr} {n : Nat} {P : Nat → Value → Prop} {St : Nat → Heap → Prop} {Q : Flow → Shared → Prop}
    (W : Walks prog w A I fp [I] n P St) (hx : env.kindOf x = some .local)
    (hp : (env.scope.kind == .class || (env.scope.kind == .module && env.locals != env.globals)) = false)
    (hI : h₀.get? I = none) (hIL : I ≠ env.locals) (hLf : env.locals ∉ fp)
    (hlive : ∀ i h, St i h → ∃ o, h.get? I = some o)
    (hst : St 0 s.heap) (F : Fr h₀ env.locals s.heap m) (N : News h₀ env.locals s.heap news)
    (J : Nat → (Str → Option Value) → List (Addr × Obj) → Prop) (h0 : J 0 m news)
    (hJI : ∀ i m₁ news₁, J i m₁ news₁ → ∀ p ∈ news₁, p.1 ≠ I)
    (hfp : ∀ b ∈ fp, b = I ∨ (∃ o, h₀.get? b = some o) ∨ (∃ o, ∀ i m₁ news₁, J i m₁ news₁ → (b, o) ∈ news₁))
    (step : ∀ i v m₁ news₁ h₁ tk₁ oI, i < n → P i v → J i m₁ news₁ → Fr h₀ env.locals h₁ (upd m₁ x v) → News h₀ env.locals h₁ ([(I, oI)] ++ news₁) →
      wpAny (model prog w) A (execs body env) (TurnEnd h₀ env.locals [(I, oI)] (J (i + 1)) s Q) (fun _ _ => False) { s with heap := h₁, toks := tk₁ })
    (hQ : ∀ h' tk m' news', Fr h₀ env.locals h' m' → News h₀ env.locals h' news' → J n m' news' → Q .next { s with heap := h', toks := tk }) :
    codeAny (model prog w) A (.forLoop (.Name x px) (.ref I) body [] env) (fun r s' => match r with | .ok f => Q f s' | .error e => cameBackBy (model prog w) A env E e s') s := by
  have old : ∀ b o, h₀.get? b = some o → b ≠ I := fun b o e hb => by rw [hb, hI] at e; cases e
  refine codeAny_forLoop
    (fun k s' => ∃ h' tk m' news' i, s' = { s with heap := h', toks := tk } ∧ St i h' ∧ Fr h₀ env.locals h' m' ∧ News h₀ env.locals h' news' ∧ J i m' news' ∧ i ≤ n ∧ k = n + 1 - i) ?_ (n + 1)
    (exi5 s.heap s.toks m news 0 ⟨rfl, hst, F, N, h0, Nat.zero_le _, rfl⟩)
  intro k s' hz48
  refine ex5 hz48 fun h' tk m' news' i hz262 => an7 hz262 fun he263 hst' F' N' hJ hi he264 => ?_
  clear hz262
  try clear hz48
  subst he263
  subst he264
  have next : ∀ h₁ : Heap, (∀ b o, b ∉ [I] → h'.get? b = some o → h₁.get? b = some o) → Fr h₀ env.locals h₁ m' ∧ News h₀ env.locals h₁ news' := fun h₁ hk₁ =>
    ⟨⟨F'.ns.at' fun o e => hk₁ _ o (fun q => hIL (List.mem_singleton.mp q).symm) e, fun b o e => hk₁ b o (fun q => old b o e (List.mem_singleton.mp q)) (F'.keep b o e), F'.above⟩,
      fun p hp => ⟨hk₁ _ _ (fun q => hJI _ _ _ hJ p hp (List.mem_singleton.mp q)) (N' p hp).1, (N' p hp).2⟩⟩
  by_cases hlt : i < n
  · refine W.item i _ _ _ hlt hst' fun v h₁ tk₁ hP hst₁ hk₁ => ?_
    refine an2 (next h₁ hk₁) fun F₁ N₁ => ?_
    refine wpAny_assign_Name (wpAny_storeName_local hx F₁.ns (fun h₂ hn₂ hs₂ => ?_) hp)
    have F₂ := F₁.set hn₂ hs₂
    have hst₂ : St (i + 1) h₂ := W.frame _ _ _ hst₁ fun b hb o e => (hs₂.2 b fun q => hLf (q ▸ hb)).trans e
    have N₂ := N₁.set hs₂
    -- the iterator's object
    cases hoI : h₂.get? I with
    | none => obtain ⟨o, ho⟩ := hlive _ _ hst₂; rw [ho] at hoI; cases hoI
    | some oI =>
      have NI : News h₀ env.locals h₂ ([(I, oI)] ++ news') := fun p hp => by
        rcases List.mem_append.mp hp with q | q
        · cases List.mem_singleton.mp q; exact ⟨hoI, hIL, hI⟩
        · exact N₂ p q
      refine wpAny_mono (step i v m' news' h₂ _ oI hlt hP hJ F₂ NI) (fun f s₃ h₃ => ?_) fun _ _ e => e.elim
      have go : (∃ h' tk m₂ news₂, s₃ = { s with heap := h', toks := tk } ∧ Fr h₀ env.locals h' m₂ ∧ News h₀ env.locals h' ([(I, oI)] ++ news₂) ∧ J (i + 1) m₂ news₂) →
          ∃ m, m < n + 1 - i ∧ ∃ h' tk m' news' i, s₃ = { s with heap := h', toks := tk } ∧ St i h' ∧ Fr h₀ env.locals h' m' ∧ News h₀ env.locals h' news' ∧ J i m' news' ∧ i ≤ n ∧ m = n + 1 - i := by
        intro hz49
        refine ex4 hz49 fun h₃' tk₃ m₂ news₂ hz260 => an4 hz260 fun he261 F₃ N₃ hJ₃ => ?_
        clear hz260
        try clear hz49
        subst he261
        refine ⟨n + 1 - (i + 1), Nat.sub_lt_sub_left (Nat.lt_succ_of_lt hlt) (Nat.lt_succ_self i), exi5 h₃' tk₃ m₂ news₂ (i + 1) ⟨rfl, ?_, F₃, fun p hp => N₃ p (List.mem_append_right _ hp), hJ₃, hlt, rfl⟩⟩
        refine W.frame _ _ _ hst₂ fun b hb o e => ?_
        rcases hfp b hb with rfl | ⟨o', ho'⟩ | ⟨o', ho'⟩
        · rw [hoI] at e; cases e; exact (N₃ (b, oI) (by simp)).1
        · have := F₂.keep b o' ho'; rw [this] at e; cases e; exact F₃.keep b _ ho'
        · have := (N₂ _ (ho' _ _ _ hJ)).1; rw [this] at e; cases e
          exact (N₃ _ (List.mem_append_right _ (ho' _ _ _ hJ₃))).1
      cases f with
      | next => exact go h₃
      | cont => exact go h₃
      | brk => exact h₃
      | ret v => exact h₃
  · obtain rfl : i = n := by lia
    refine W.done _ _ _ hst' fun h₁ tk₁ hk₁ => ?_
    refine an2 (next h₁ hk₁) fun F₁ N₁ => ?_
    exact wpAny_execs_nil (hQ h₁ tk₁ m' news' F₁ N₁ hJ)
theorem frPush {h₀ h : Heap} {L : Addr} {m : Str → Option Value} (F : Fr h₀ L h m) (o : Obj) : Fr h₀ L (h.push o) m := F.push o
theorem newsPush {h₀ h : Heap} {L : Addr} {news : List (Addr × Obj)} (N : News h₀ L h news) (o : Obj) : News h₀ L (h.push o) news :=
  fun p hp => ⟨Heap.get?_push_of_some _ (N p hp).1, (N p hp).2⟩
theorem freshOf {h₀ h : Heap} {L : Addr} {m : Str → Option Value} (F : Fr h₀ L h m) : h₀.get? h.objs.size = none := by
  cases e : h₀.get? h.objs.size with
  | none => rfl
  | some o => exact absurd (Heap.lt_size (F.keep _ _ e)) (Nat.lt_irrefl _)
theorem neLocals {h₀ h : Heap} {L : Addr} {m : Str → Option Value} (F : Fr h₀ L h m) : h.objs.size ≠ L := by
  refine ex3 F.ns fun oL _ _ hz259 => an2 hz259 fun hL _ => ?_
  clear hz259
  exact Nat.ne_of_gt (Heap.lt_size hL)
theorem neOfGet {h : Heap} {a : Addr} {o : Obj} (e : h.get? a = some o) : a ≠ h.objs.size := Nat.ne_of_lt (Heap.lt_size e)
theorem for_list {x : Str} {px : Pos} {body : List Stmt} {ax : Addr} {items : Array Value} {Q : Flow → Shared → Prop}
    (hh : A.handled = none) (hx : env.kindOf x = some .local)
    (hp : (env.scope.kind == .class || (env.scope.kind == .module && env.locals != env.globals)) = false)
    (hl : s.heap.IsList ax items) (hax : ax ≠ env.locals)
    (F : Fr h₀ env.locals s.heap m) (N : News h₀ env.locals s.heap news)
    (J : Nat → (Str → Option Value) → List (Addr × Obj) → Prop) (h0 : J 0 m news)
    (hJI : ∀ i m₁ news₁, J i m₁ news₁ → ∀ p ∈ news₁, p.1 ≠ s.heap.objs.size)
    (hfp : (∃ o, h₀.get? ax = some o) ∨ (∃ o, ∀ i m₁ news₁, J i m₁ news₁ → (ax, o) ∈ news₁))
    (step : ∀ i v m₁ news₁ h₁ tk₁ oI, i < items.size → items[i]? = some v → J i m₁ news₁ → Fr h₀ env.locals h₁ (upd m₁ x v) → News h₀ env.locals h₁ ([(s.heap.objs.size, oI)] ++ news₁) →
      wpAny (model prog w) A (execs body env) (TurnEnd h₀ env.locals [(s.heap.objs.size, oI)] (J (i + 1)) s Q) (fun _ _ => False) { s with heap := h₁, toks := tk₁ })
    (hQ : ∀ h' tk m' news', Fr h₀ env.locals h' m' → News h₀ env.locals h' news' → J items.size m' news' → Q .next { s with heap := h', toks := tk }) :
    wpAny (model prog w) A (pyIter (.ref ax)) (fun it s₂ => codeAny (model prog w) A (.forLoop (.Name x px) it body [] env)
      (fun r s' => match r with | .ok f => Q f s' | .error e => cameBackBy (model prog w) A env E e s') s₂) E s := by
  refine ex1 (id hl) fun ol hz258 => an2 hz258 fun hol hr => ?_
  clear hz258
  have hne : ax ≠ s.heap.objs.size := neOfGet hol
  refine wpAny_pyIter_list hl (for_walks (Walks.list hh s.heap.objs.size ax hne items) hx hp (freshOf F) (neLocals F) ?_ ?_ ?_ (frPush F _) (newsPush N _) J h0 hJI ?_ ?_ ?_)
  · intro hm
    rcases List.mem_cons.mp hm with q | q
    · exact neLocals F q.symm
    · exact hax (List.mem_singleton.mp q).symm
  · intro i h hz50
    refine an2 hz50 fun hz257 _ => ?_
    try clear hz50
    obtain ⟨o, ho, _⟩ := hz257
    exact ⟨o, ho⟩
  · exact ⟨⟨_, Heap.get?_push_size _ rfl, rfl, rfl⟩, ⟨ol, Heap.get?_push_of_some _ hol, hr⟩⟩
  · intro b hb
    rcases List.mem_cons.mp hb with q | q
    · exact .inl q
    · obtain rfl := List.mem_singleton.mp q
      exact .inr hfp
  · intro i v m₁ news₁ h₁ tk₁ oI hi hP hJ F₁ N₁
    exact step i v m₁ news₁ h₁ tk₁ oI hi hP hJ F₁ N₁
  · exact hQ
theorem for_bytes {x : Str} {px : Pos} {body : List Stmt} {b : Array UInt8} {tb : Tok} {Q : Flow → Shared → Prop}
    (hh : A.handled = none) (hx : env.kindOf x = some .local)
    (hp : (env.scope.kind == .class || (env.scope.kind == .module && env.locals != env.globals)) = false)
    (F : Fr h₀ env.locals s.heap m) (N : News h₀ env.locals s.heap news)
    (J : Nat → (Str → Option Value) → List (Addr × Obj) → Prop) (h0 : J 0 m news)
    (hJI : ∀ i m₁ news₁, J i m₁ news₁ → ∀ p ∈ news₁, p.1 ≠ s.heap.objs.size)
    (step : ∀ i c u m₁ news₁ h₁ tk₁ oI, i < b.size → b[i]? = some c → J i m₁ news₁ → Fr h₀ env.locals h₁ (upd m₁ x (.int (c.toNat : Int) u)) → News h₀ env.locals h₁ ([(s.heap.objs.size, oI)] ++ news₁) →
      wpAny (model prog w) A (execs body env) (TurnEnd h₀ env.locals [(s.heap.objs.size, oI)] (J (i + 1)) s Q) (fun _ _ => False) { s with heap := h₁, toks := tk₁ })
    (hQ : ∀ h' tk m' news', Fr h₀ env.locals h' m' → News h₀ env.locals h' news' → J b.size m' news' → Q .next { s with heap := h', toks := tk }) :
    wpAny (model prog w) A (pyIter (.bytes b tb)) (fun it s₂ => codeAny (model prog w) A (.forLoop (.Name x px) it body [] env)
      (fun r s' => match r with | .ok f => Q f s' | .error e => cameBackBy (model prog w) A env E e s') s₂) E s := by
  refine KBw.pyIter_bytes (for_walks (KBw.walks hh s.heap.objs.size b tb) hx hp (freshOf F) (neLocals F) ?_ ?_ ?_ (frPush F _) (newsPush N _) J h0 hJI ?_ ?_ ?_)
  · intro hm; exact neLocals F (List.mem_singleton.mp hm).symm
  · intro i h hz51
    refine ex1 hz51 fun o hz256 => an2 hz256 fun ho _ => ?_
    clear hz256
    try clear hz51
    exact ⟨o, ho⟩
  · exact ⟨_, Heap.get?_push_size _ rfl, rfl, rfl⟩
  · intro b hb; exact .inl (List.mem_singleton.mp hb)
  · intro i v m₁ news₁ h₁ tk₁ oI hi hz52
    refine ex2 hz52 fun c u hz254 => an2 hz254 fun hc he255 => ?_
    clear hz254
    try clear hz52
    subst he255
    intro hJ F₁ N₁
    exact step i c u m₁ news₁ h₁ tk₁ oI hi hc hJ F₁ N₁
  · exact hQ
theorem for_range {x : Str} {px : Pos} {body : List Stmt} {r : Addr} {a b c : Int} {t u v : Tok} {n : Nat} {Q : Flow → Shared → Prop}
    (hh : A.handled = none) (hx : env.kindOf x = some .local)
    (hp : (env.scope.kind == .class || (env.scope.kind == .module && env.locals != env.globals)) = false)
    (hr : IsRange s.heap r a b c t u v) (hsmall : Builtin.Range.small a b c = true) (hn : Builtin.Range.rangeSize a b c = (n : Int))
    (F : Fr h₀ env.locals s.heap m) (N : News h₀ env.locals s.heap news)
    (J : Nat → (Str → Option Value) → List (Addr × Obj) → Prop) (h0 : J 0 m news)
    (hJI : ∀ i m₁ news₁, J i m₁ news₁ → ∀ p ∈ news₁, p.1 ≠ s.heap.objs.size)
    (step : ∀ i tv m₁ news₁ h₁ tk₁ oI, i < n → J i m₁ news₁ → Fr h₀ env.locals h₁ (upd m₁ x (.int (a + i * c) tv)) → News h₀ env.locals h₁ ([(s.heap.objs.size, oI)] ++ news₁) →
      wpAny (model prog w) A (execs body env) (TurnEnd h₀ env.locals [(s.heap.objs.size, oI)] (J (i + 1)) s Q) (fun _ _ => False) { s with heap := h₁, toks := tk₁ })
    (hQ : ∀ h' tk m' news', Fr h₀ env.locals h' m' → News h₀ env.locals h' news' → J n m' news' → Q .next { s with heap := h', toks := tk }) :
    wpAny (model prog w) A (pyIter (.ref r)) (fun it s₂ => codeAny (model prog w) A (.forLoop (.Name x px) it body [] env)
      (fun r s' => match r with | .ok f => Q f s' | .error e => cameBackBy (model prog w) A env E e s') s₂) E s := by
  refine wpAny_pyIter_range hr hsmall (for_walks (Walks.range hh s.heap.objs.size a c n) hx hp (freshOf F) (neLocals F) ?_ ?_ ?_ (frPush F _) (newsPush N _) J h0 hJI ?_ ?_ ?_)
  · intro hm; exact neLocals F (List.mem_singleton.mp hm).symm
  · intro i h q; exact ⟨_, q⟩
  · have e : a + (((0 : Nat) : Int)) * c = a := by simp
    rw [hn]
    show IsRangeIter _ _ (a + (((0 : Nat) : Int)) * c) ((n : Int) - ((0 : Nat) : Int)) c
    rw [e]
    have z := Heap.get?_push_size s.heap (o := { cls := .type "range_iterator", data := .fields #[rawInt a, rawInt (n : Int), rawInt c] }) rfl
    simpa [IsRangeIter, rawInt] using z
  · intro b hb; exact .inl (List.mem_singleton.mp hb)
  · intro i v m₁ news₁ h₁ tk₁ oI hi hz53
    refine ex1 hz53 fun tv he253 => ?_
    try clear hz53
    subst he253
    intro hJ F₁ N₁
    exact step i tv m₁ news₁ h₁ tk₁ oI hi hJ F₁ N₁
  · exact hQ
end
end Mine
end

section
open PySem PySem.W PyProof.Rows PySem.Calls
namespace Mine
theorem Ar.deeper {A : Around} {k : Nat} {env : Env} (h : Ar A (k + 1)) : Ar (A.deeper env) k :=
  ⟨h.hd, by have := h.dp; show A.depth + 1 + k ≤ 990; omega, by have := h.un; show A.units + 3 + 3 * k ≤ 9800; omega⟩
theorem Ar.room {A : Around} {k : Nat} (h : Ar A k) : A.depth < recursionLimit := by have := h.dp; show A.depth < 1000; omega
theorem Ar.line {A : Around} {k : Nat} (h : Ar A k) : A.units < cLine := by have := h.un; show A.units < 9900; omega
theorem keepsOf {s : Shared} {L : Addr} {h' : Heap} {m : Str → Option Value} (F : Fr s.heap L h' m) (tk : Nat) : Keeps s { s with heap := h', toks := tk } :=
  (exi2 h' tk ⟨rfl, F.keep⟩)
theorem Keeps.trans {s s' s'' : Shared} (h : Keeps s s') (h' : Keeps s' s'') : Keeps s s'' := by
  refine ex2 h fun h1 t1 hz26 => an2 hz26 fun he27 k1 => ?_
  clear hz26
  try clear h
  subst he27
  refine ex2 h' fun h2 t2 hz24 => an2 hz24 fun he25 k2 => ?_
  clear hz24
  try clear h'
  subst he25
  exact (exi2 h2 t2 ⟨rfl, fun b o e => k2 b o (k1 b o e)⟩)
theorem upd_at (m : Str → Option Value) (x : Str) (v : Value) : upd m x v x = some v := by simp [upd]
theorem upd_ne {m : Str → Option Value} {x y : Str} {v : Value} (h : y ≠ x) : upd m x v y = m y := by simp [upd, h]
section
variable {prog : Program} {w : World} {A : Around} {s : Shared}
/-- a call of one of the text's own defs, its frame open -/
theorem callDef {k : Nat} {Q : Value → Shared → Prop} {E : Value → Shared → Prop} {name qual : Str} {params : Arguments} {body body' : List Stmt} {scope : Scope} {dV kV doc pm cdv ct oc : Value} {an od : Option Addr} {osl : Array (Option Value)} {f : Addr} {args : List Value}
    (binds : List (Str × Value))
    (X : Wd w s.heap) (hA : Ar A (k + 1))
    (h : ∀ h₁ tk₁ mean mg mb, Ar (A.deeper (envOf qual scope s.heap.objs.size f cdv)) k → Fr s.heap s.heap.objs.size h₁ (fun y => binds.reverse.lookup y) → News s.heap s.heap.objs.size h₁ [] → (Kf w.params).In s.heap → Top vw (looseW vw looseL) mean mg mb s.heap →
      wpAny (model prog w) (A.deeper (envOf qual scope s.heap.objs.size f cdv)) (execs body' (envOf qual scope s.heap.objs.size f cdv))
        (fun fl s' => Q (match fl with | .ret v => v | _ => .none) s') (fun _ _ => False)
        { s with heap := h₁, toks := tk₁ })
    (ho : (Kf w.params).lookup f = some ⟨oc, od, .func (fnOf name qual params body scope dV kV doc pm an cdv ct), osl⟩ := by k_is) (hcd : codeIn (Kf w.params) cdv qual = true := by k_is) (hbd : body = body' := by (conv => lhs; whnf))
    (hbind : BindsTo s (fnOf name qual params body scope dV kV doc pm an cdv ct) ⟨args, []⟩ binds := by first | exact BindsTo.of_eq rfl | exact binds_K (Wd.k (by assumption)) rfl (by k_is) rfl rfl rfl) (hloc : ∀ y ∈ binds, scope.names.lookup y.1 = some .local := by exact locs rfl)
    (hcell : ∀ x ∈ scope.names, x.2 ≠ .cell := by decide) (hco : scope.isCoroutine = false := by exact rfl) (hgen : scope.isGenerator = false := by exact rfl) (hk : scope.kind = .function := by exact rfl) :
    wpAny (model prog w) A (call (.ref f) args) Q E s := by
  subst hbd
  exact wpAny_call (enter X hA.room ho hcd hbind hloc (fun h₁ mean mg mb F N K T => h h₁ _ mean mg mb hA.deeper F N K T) hcell hco hgen hk)
end
/-- the stack's facts in the open: no exception under way by form, so the library's own lines fit -/
theorem conc {α : Type} {M : Model} {A : Around} {k : Nat} {t : Sem α} {Q : α → Shared → Prop} {E : Value → Shared → Prop} {s : Shared} (hA : Ar A k)
    (h : ∀ n u, Ar ⟨none, n, none, none, u⟩ k → wpAny M ⟨none, n, none, none, u⟩ t Q E s) : wpAny M A t Q E s := fun Γ p hΓ =>
  h A.depth A.units ⟨rfl, hA.dp, hA.un⟩ Γ p ⟨hΓ.1.trans hA.hd, hΓ.2.1, (fun l e => by cases e), (fun l e => by cases e), hΓ.2.2.2.2⟩
theorem IntsAre.get {vs : List Value} {ns : List Int} (h : IntsAre vs ns) : ∀ {i : Nat} {v : Value}, vs[i]? = some v → ∃ n t, ns[i]? = some n ∧ v = .int n t := by
  induction h with
  | nil => intro i v e; simp at e
  | cons n t _ ih =>
    intro i v e
    cases i with
    | zero => exact (exi2 n t ⟨rfl, by simpa using e.symm⟩)
    | succ i => exact ih (by simpa using e)
theorem lkeep {h h' : Heap} {l : Addr} {its : Array Value} (x : h.IsList l its) (k : ∀ b o, h.get? b = some o → h'.get? b = some o) : h'.IsList l its := x.at fun o e => k _ o e
theorem lne {h : Heap} {l : Addr} {its : Array Value} (x : h.IsList l its) : l ≠ h.objs.size := let ⟨_, e, _⟩ := x; neOfGet e
theorem lold {h : Heap} {l : Addr} {its : Array Value} (x : h.IsList l its) : ∃ o, h.get? l = some o := let ⟨o, e, _⟩ := x; ⟨o, e⟩
theorem take_succ {α : Type} {l : List α} {i : Nat} {a : α} (h : l[i]? = some a) : l.take (i + 1) = l.take i ++ [a] := by
  rw [List.take_add_one, h]; rfl
theorem newsAdd {g h h' : Heap} {L a : Addr} {o : Obj} {m : Str → Option Value} {news : List (Addr × Obj)} (F : Fr g L h m) (N : News g L h news) (hk : ∀ c o, h.get? c = some o → h'.get? c = some o)
    (ha : h'.get? a = some o) (hf : h.get? a = none) : News g L h' ((a, o) :: news) := fun p hp => by
  rcases List.mem_cons.mp hp with rfl | hp
  · refine ⟨ha, fun e => ?_, ?_⟩
    · refine ex3 F.ns fun oL _ _ hz23 => an2 hz23 fun hL _ => ?_
      clear hz23
      rw [show a = L from e, hL] at hf; cases hf
    · cases q : g.get? a with
      | none => rfl
      | some o' => have := F.keep a o' q; rw [hf] at this; cases this
  · exact ⟨hk _ _ (N p hp).1, (N p hp).2⟩
end Mine
end

section
open PySem PySem.W PyProof.Rows PySem.Calls Builtin
namespace Mine
section
variable {prog : Program} {w : World} {A : Around} {E : Value → Shared → Prop} {s : Shared} {value slice : PySem.Expr} {b c : Array UInt8} {t t2 : Tok} {h₀ : Heap} {L : Addr} {m : PySem.Str → Option Value} {news : List (Addr × Obj)} {l u : Value} {lo hi : Option Int} {Q : Value → Shared → Prop} {i : Int}
theorem by_slice {hp : Heap} {gs : Array GenState} {dr : Drawn} {tk : Nat} {os : OsState} (hF : Fr h₀ L hp m) (hN : News h₀ L hp news) (hl : IsPart l lo) (hu : IsPart u hi) (hz : b.size ≤ 1000)
    (h : ∀ h' t' k, Fr h₀ L h' m → News h₀ L h' news → Q (.bytes (KBy.picked b lo hi) t') (Shared.mk h' gs dr k os))
    (hs : subscripted slice false (.bytes b t) (.ref hp.objs.size) = operate [.ref hp.objs.size, .bytes b t] (getItem (.bytes b t) (.ref hp.objs.size)) := by with_unfolding_all rfl)
    (ht : ∀ r, letTemporaryGo value (.bytes b t) r = pure () := by intro _; with_unfolding_all rfl) :
    wpAny (model prog w) A (subscriptTail value slice (.bytes b t) (.ref hp.objs.size)) Q E (Shared.mk (hp.push { cls := .type "slice", data := .fields #[l, u, .none] }) gs dr tk os) :=
  tail_of_ItemOn (exi2 ("bytes") _ ⟨FB.slot_bytes_getitem.lookup, typeIs_bytes _ _ _, getItem_meets (typeIs_bytes _ _ _) (by decide) FB.slot_bytes_getitem FB.entry_bytes_getitem (FB.args_bytes_getitem_2 _ _) (KBc.meets_slice2 b t _ hl hu)
    ⟨Heap.IsSliceOf.new _ _ _ _, Nat.le_trans (KBc.size_picked_le b lo hi) (Nat.le_trans hz (by decide)), fun t' k => h _ _ _ (hF.push _) (News.pushKeep hN _)⟩⟩) hs ht
theorem by_item {ui : Tok} (h0 : 0 ≤ i) (h1 : i < b.size) (hz : b.size ≤ 1000)
    (h : ∀ c t' k, b.toList[i.toNat]? = some c → Q (.int (c.toNat : Int) t') { s with toks := k })
    (hs : subscripted slice false (.bytes b t) (.int i ui) = operate [.bytes b t, .int i ui] (getItem (.bytes b t) (.int i ui)) := by with_unfolding_all rfl)
    (ht : ∀ r, letTemporaryGo value (.bytes b t) r = pure () := by intro _; with_unfolding_all rfl) : wpAny (model prog w) A (subscriptTail value slice (.bytes b t) (.int i ui)) Q E s := by
  have hl : i.toNat < b.toList.length := by rw [Array.length_toList]; lia
  have g : wpAny (model prog w) A (getItem (.bytes b t) (.int i ui)) Q E s := by
    refine getItem_gives (typeIs_bytes s _ t) (by decide) FB.slot_bytes_getitem FB.entry_bytes_getitem (FB.args_bytes_getitem_2 _ _) (gives_bytes_getitem _ i t ui (b.toList[i.toNat]'hl) ?_ ?_) ?_
    · simp only [Bytes.fitsIndex, Bool.and_eq_true, decide_eq_true_eq]; lia
    · have e : seqIndex? i b.size = some i.toNat := by
        have h2 : ¬ i < 0 := by lia
        simp [seqIndex?, h2, h0, h1]
      rw [e]; simp [hl]
    · exact h _ _ _ (List.getElem?_eq_getElem hl)
  exact tail_of_ItemOn (exi2 ("bytes") _ ⟨FB.slot_bytes_getitem.lookup, typeIs_bytes _ _ _, g⟩) hs ht
theorem by_len (hz : b.size ≤ 1000) (h : ∀ tk tk', Q (.int b.size tk) { s with toks := tk' }) : wpAny (model prog w) A (call (.builtin "len") [.bytes b t]) Q E s := len_bytes (by lia) (h _ _)
theorem by_size {lo hi : Option Int} (hz : b.size ≤ 1000) : (KBy.picked b lo hi).size ≤ 1000 := Nat.le_trans (KBc.size_picked_le b lo hi) hz
theorem by_pick {i j : Nat} (_ : i ≤ j) : (KBy.picked b (some (i : Int)) (some (j : Int))).toList = (b.toList.drop i).take (j - i) := by
  rw [KBc.picked_eq]
  simp only [Option.elim]
  rw [clipAt_nat, clipAt_nat]
  by_cases hi : i ≤ b.size
  · rw [Nat.min_eq_left hi]
    by_cases hj : j ≤ b.size
    · rw [Nat.min_eq_left hj]
    · rw [Nat.min_eq_right (by lia), List.take_of_length_le (by simp), List.take_of_length_le (by simp; lia)]
  · rw [List.drop_eq_nil_of_le (by simp; lia), List.drop_eq_nil_of_le (by simp; lia)]; simp
end
end Mine
namespace Mine
section
variable {prog : Program} {w : World} {A : Around} {E : Value → Shared → Prop} {s : Shared} {a b : Int} {t u : Tok} {Q : Value → Shared → Prop}
theorem fdivI (h0 : 0 < b) (h1 : b ≤ 1208925819614629174706176) (h : Q (.int (a / b) s.toks) { s with toks := s.toks + 1 }) : wpAny (model prog w) A (binaryOp .FloorDiv (.int a t) (.int b u)) Q E s := by
  refine floordiv_int (by lia) ?_ (.inl (PyProof.noPylong_of_log2 ?_))
  · rw [Int.fdiv_eq_ediv_of_nonneg _ (Int.le_of_lt h0)]; exact h
  · have : b.natAbs < 2 ^ 81 := by lia
    have := (Nat.log2_lt (by lia)).mpr this
    lia
theorem modI (h0 : 0 < b) (h : Q (.int (a % b) s.toks) { s with toks := s.toks + 1 }) : wpAny (model prog w) A (binaryOp .Mod (.int a t) (.int b u)) Q E s := by
  refine mod_int' (by lia) ?_
  rw [Int.fmod_eq_emod_of_nonneg _ (Int.le_of_lt h0)]; exact h
end
end Mine
end

section
open PySem PySem.W PyProof.Rows PySem.Calls Builtin
namespace Mine
section
variable {prog : Program} {w : World} {A : Around} {E : Value → Shared → Prop} {s : Shared}
theorem hint_bytes {b : Array UInt8} {tb : Tok} {Q : Bool → Shared → Prop} (h : Q false s) : wpAny (model prog w) A (Builtin.List.listLengthHint (.bytes b tb)) Q E s := by
  unfold Builtin.List.listLengthHint
  refine wpAny_bind (wpAny_specialOf (typeIs_bytes s b tb) FB.slot_bytes_len.lookup ?_)
  generalize hid : ("bytes.__len__" : String) = id0
  wp_delta
  rw [show splitId id0 = some ("bytes", "__len__") from by subst hid; decide +kernel]
  subst hid
  refine wpAny_bind (wpAny_isInstance (T := "bytes") (b := true) (typeIs_bytes s b tb) F.sub_bytes_bytes ?_)
  refine wpAny_ite_split (fun hab => absurd hab (by decide)) (fun _ => ?_)
  refine wpAny_ite_split (fun _ => ?_) (fun hab => absurd (by decide +kernel) hab)
  exact wpAny_bind (wpAny_typeOf (typeIs_bytes s b tb) (wpAny_pure h))
theorem extend_bytes {R : Result → Shared → Prop} {b : Array UInt8} {tb : Tok} (hh : A.handled = none) (hz : b.size ≤ 1000) (S : Addr) (res : Value) (c₀ : Nat) (hS : s.heap.get? S = some { cls := .type "list", data := .seq #[] c₀ })
    (hR : ∀ h' tk acc' c', (∀ b o, b ≠ S → s.heap.get? b = some o → h'.get? b = some o) → h'.get? S = some { cls := .type "list", dict := none, data := .seq acc' c', slots := #[] } →
      ItemsOf (fun i v => ∃ c u, b[i]? = some c ∧ v = .int (c.toNat : Int) u) acc' b.size → R (.ok (.ret res)) { s with heap := h', toks := tk }) :
    wpAny (model prog w) A.in1 (Builtin.List.listExtendWith (.ref S) (.bytes b tb) res)
      (fun fin s' => match fin with | .done f => R (.ok f) s' | .again c' => c'.quiet = true ∧ codeAny (model prog w) A c' R s') (fun e s' => R (.error e) s') s := by
  have hSlt : S < s.heap.objs.size := Heap.lt_size hS
  have hSI : S ≠ s.heap.objs.size := Nat.ne_of_lt hSlt
  have hSf : S ∉ [s.heap.objs.size] := fun hm => hSI (List.mem_singleton.mp hm)
  have W := (KBw.walks (prog := prog) (w := w) (A := A.in1) hh s.heap.objs.size b tb).toS
  have key : ∀ (h : Heap) (c₁ tk : Nat), KBw.IsBytesIter h s.heap.objs.size b tb 0 → (∀ b o, b ≠ S → s.heap.get? b = some o → h.get? b = some o) →
      h.get? S = some { cls := .type "list", data := .seq #[] c₁ } → codeAny (model prog w) A (.builtin "list.extend.loop" ⟨[.ref S, .ref s.heap.objs.size, res], []⟩) R { s with heap := h, toks := tk } := by
    intro h c₁ tk hit hk hS₁
    refine codeAny_extend_loopS W (by rw [sizeLine_eq]; lia) S hSf res b.size 0 _ #[] c₁ rfl (Nat.zero_le _) hit hS₁ (ItemsOf.nil _) fun s' acc' c' hm hS' hacc => ?_
    rw [Moved.eq_with hm]
    refine hR s'.heap s'.toks acc' c' (fun b o hb e => hm.heap b o (fun hmem => ?_) (hk b o hb e)) hS' hacc
    rcases List.mem_cons.mp hmem with e' | hmem
    · exact hb e'
    · exact absurd (Heap.lt_size e) (by rw [List.mem_singleton.mp hmem]; exact Nat.lt_irrefl _)
  unfold Builtin.List.listExtendWith
  refine wpAny_bind (wpAny_typeOf (T := "bytes") (typeIs_bytes s b tb) ?_)
  have h1 : Builtin.List.listSameRef (.ref S) (.bytes b tb) = false := by simp [Builtin.List.listSameRef]
  have h2 : (Value.type "bytes" == Value.type "list") = false := by decide
  have h3 : (Value.type "bytes" == Value.type "tuple") = false := by decide
  simp only [h1, h2, h3, Bool.or_false, Bool.false_eq_true, if_false]
  refine wpAny_bind (KBw.pyIter_bytes ?_)
  refine wpAny_bind (wpAny_holding (hint_bytes ?_))
  have hit₁ : KBw.IsBytesIter (s.heap.push { cls := .type "bytes_iterator", data := .fields #[.bytes b tb, .int 0 0] }) s.heap.objs.size b tb 0 := ⟨_, Heap.get?_push_size _ rfl, rfl, rfl⟩
  have hS₁ := Heap.get?_push_of_some { cls := .type "bytes_iterator", data := .fields #[.bytes b tb, .int 0 0] } hS
  exact wpAny_ite_split (fun hab => absurd hab (by decide)) (fun _ => wpAny_pure ⟨plainId_quiet F.plain_extend_loop _, key _ c₀ _ hit₁ (fun b o _ e => Heap.get?_push_of_some _ e) hS₁⟩)
theorem init_bytes {R : Result → Shared → Prop} {b : Array UInt8} {tb : Tok} (hh : A.handled = none) (hz : b.size ≤ 1000) (S : Addr) (hS : s.heap.get? S = some { cls := .type "list", data := .seq #[] })
    (hR : ∀ h' tk acc' c', (∀ b o, b ≠ S → s.heap.get? b = some o → h'.get? b = some o) → h'.get? S = some { cls := .type "list", dict := none, data := .seq acc' c', slots := #[] } →
      ItemsOf (fun i v => ∃ c u, b[i]? = some c ∧ v = .int (c.toNat : Int) u) acc' b.size → R (.ok (.ret .none)) { s with heap := h', toks := tk }) :
    wpAny (model prog w) A.in1 (Builtin.«list.__init__» ⟨[.ref S, .bytes b tb], []⟩)
      (fun fin s' => match fin with | .done f => R (.ok f) s' | .again c' => c'.quiet = true ∧ codeAny (model prog w) A c' R s') (fun e s' => R (.error e) s') s := by
  show wpAny _ _ (do let old ← Builtin.List.listItems (.ref S); Builtin.List.listUpdate (.ref S) (fun _ => #[]); letGo old.toList.reverse; Builtin.List.listExtendWith (.ref S) (.bytes b tb) .none) _ _ s
  refine wpAny_bind ?_
  unfold Builtin.List.listItems
  refine wpAny_bind (wpAny_seqItems hS rfl (wpAny_pure ?_))
  show wpAny _ _ (updateSeq S (fun _ => #[]) >>= fun _ => letGo (#[] : Array Value).toList.reverse >>= fun _ => Builtin.List.listExtendWith (.ref S) (.bytes b tb) .none) _ _ s
  refine wpAny_bind (wpAny_updateSeq hS rfl ?_)
  have hS₂ := Heap.get?_update_self (Obj.mapSeq (fun _ => (#[] : Array Value))) hS rfl
  have oth : ∀ b o, b ≠ S → s.heap.get? b = some o → (s.heap.update S (Obj.mapSeq (fun _ => (#[] : Array Value)))).get? b = some o :=
    fun b o hb e => (Heap.get?_update_other _ _ (Ne.symm hb)).trans e
  refine wpAny_bind (wpAny_letGo ?_)
  refine extend_bytes hh hz S .none _ hS₂ fun h' tk acc' c' hk hS' hacc => ?_
  exact hR h' tk acc' c' (fun b o hb e => hk b o hb (oth b o hb e)) hS' hacc
theorem call_list_bytes {Q : Value → Shared → Prop} {b : Array UInt8} {tb : Tok} (hh : A.handled = none) (hz : b.size ≤ 1000)
    (hQ : ∀ h' tk acc' c', (∀ b o, s.heap.get? b = some o → h'.get? b = some o) →
      h'.get? s.heap.objs.size = some { cls := .type "list", dict := none, data := .seq acc' c', slots := #[] } → ItemsOf (fun i v => ∃ c u, b[i]? = some c ∧ v = .int (c.toNat : Int) u) acc' b.size → Q (.ref s.heap.objs.size) { s with heap := h', toks := tk }) :
    wpAny (model prog w) A (call (.type "list") [.bytes b tb]) Q E s := by
  refine callType_codes (Q₁ := fun obj s₁ => obj = .ref s.heap.objs.size ∧ s₁ = { s with heap := s.heap.push { cls := .type "list", data := .seq #[] } }) F.called_list (F.typeCall_list_1 _) F.entry_list_init
    (code_list_new _ ⟨rfl, rfl⟩) fun obj s₁ h₁ => ?_
  refine an2 h₁ fun he33 he34 => ?_
  try clear h₁
  subst he33
  subst he34
  have hS : (s.heap.push { cls := .type "list", data := .seq #[] }).get? s.heap.objs.size = some { cls := .type "list", data := .seq #[] } := Heap.get?_push_size _ rfl
  refine ⟨⟨_, hS, rfl⟩, F.args_list_init_2 _ _, init_bytes (A := A.in1) hh hz _ hS fun h' tk acc' c' hk hS' hacc => ?_⟩
  exact ⟨rfl, hQ h' tk acc' c' (fun b o e => hk b o (Nat.ne_of_lt (Heap.lt_size e)) (Heap.get?_push_of_some _ e)) hS' hacc⟩
theorem ints_ofBytes : ∀ {l : List UInt8} {acc : List Value}, acc.length = l.length → (∀ (j : Nat) (v : Value), acc[j]? = some v → ∃ (c : UInt8) (u : Tok), l[j]? = some c ∧ v = Value.int (c.toNat : Int) u) → IntsAre acc (l.map fun c => (c.toNat : Int))
  | [], [], _, _ => .nil
  | [], _ :: _, h, _ => by simp at h
  | _ :: _, [], h, _ => by simp at h
  | c :: l, v :: acc, h, hp => by
    refine ex2 (hp 0 v rfl) fun c' u hz31 => an2 hz31 fun e he32 => ?_
    clear hz31
    subst he32
    simp only [List.getElem?_cons_zero, Option.some.injEq] at e
    subst e
    exact .cons _ _ (ints_ofBytes (by simpa using h) fun j v e => hp (j + 1) v (by simpa using e))
/-- list(b): a new list of its octets -/
theorem list_bytesN {h₀ : Heap} {L : Addr} {m : PySem.Str → Option Value} {news : List (Addr × Obj)} {Q : Value → Shared → Prop} {b : Array UInt8} {tb : Tok} (F : Fr h₀ L s.heap m) (N : News h₀ L s.heap news) (hh : A.handled = none) (hz : b.size ≤ 1000)
    (h : ∀ D cap vs h' tk, Fr h₀ L h' m → News h₀ L h' ((D, PySem.W.listOf (List.toArray vs) cap) :: news) → IntsAre vs (KBw.bInts b) → Q (.ref D) { s with heap := h', toks := tk }) :
    wpAny (model prog w) A (call (.type "list") [.bytes b tb]) Q E s := by
  refine call_list_bytes hh hz fun h' tk acc' c' hk hS' hacc => ?_
  refine h _ c' acc'.toList h' tk (frGrow F hk) (newsAdd F N hk ?_ ?_) (ints_ofBytes (by rw [Array.length_toList, Array.length_toList]; exact hacc.1) fun j v e => ?_)
  · rw [hS', Array.toArray_toList]
  · cases e : s.heap.get? s.heap.objs.size with
    | none => rfl
    | some o => exact absurd (Heap.lt_size e) (Nat.lt_irrefl _)
  · rw [Array.getElem?_toList] at e ⊢
    exact hacc.2 j v e
end
end Mine
end

section
open PySem PySem.W PyProof.Rows PySem.Calls
namespace Mine
/-- what a text gives that only reads the fragment and lays new objects at the given addresses -/
noncomputable def lays {α : Type} (K : Frag) (S : Setting) : Sem α → List Addr → Option (List Obj × α)
  | .pure a, _ => some ([], a)
  | .rule _ k, as => lays K S (k ()) as
  | .point _ k, as => lays K S (k ()) as
  | .ask k, as => lays K S (k S) as
  | .load a _ k, as => (K.lookup a).bind fun o => lays K S (k o) as
  | .alloc o k, as => as.head?.bind fun a => (lays K S (k a) as.tail).map fun (os, r) => (o :: os, r)
  | _, _ => none
noncomputable def pushed (h : Heap) : List Obj → Heap
  | [] => h
  | o :: os => pushed (h.push o) os
noncomputable def LaysOk {α : Type} (K : Frag) (M : Model) (Γ : Ctx) (Q : α → Pos → Shared → Prop) (E : Value → Pos → Shared → Prop) (p : Pos) (a : α) (t : Sem α) : Prop :=
  ∀ (n : Nat) (os : List Obj) (s : Shared), K.In s.heap → lays K ⟨M.prog, M.w.params⟩ t (List.range' s.heap.objs.size n) = some (os, a) → Q a p { s with heap := pushed s.heap os } → Sem.wp M Γ t Q E p s
section
variable {α : Type} {K : Frag} {M : Model} {Γ : Ctx} {Q : α → Pos → Shared → Prop} {E : Value → Pos → Shared → Prop} {p : Pos} {a : α}
theorem LaysOk.none {t : Sem α} (h : ∀ as, lays K ⟨M.prog, M.w.params⟩ t as = none) : LaysOk K M Γ Q E p a t := fun n os s _ e _ => by rw [h] at e; cases e
theorem LaysOk.load {b : Addr} {v : Option Value} {k : Obj → Sem α} (ih : ∀ o, LaysOk K M Γ Q E p a (k o)) : LaysOk K M Γ Q E p a (.load b v k) := fun n os s x e q => by
  obtain ⟨o, ho, e⟩ := Option.bind_eq_some_iff.mp e
  exact ⟨o, x _ _ ho, ih o n os s x e q⟩
theorem LaysOk.alloc {o : Obj} {k : Addr → Sem α} (ih : ∀ b, LaysOk K M Γ Q E p a (k b)) : LaysOk K M Γ Q E p a (.alloc o k) := fun n os s x e q => by
  cases n with
  | zero => cases e
  | succ n =>
    obtain ⟨⟨os', r⟩, e, e'⟩ := Option.map_eq_some_iff.mp e
    cases e'
    exact ih _ n os' { s with heap := s.heap.push o } (x.keeps fun _ _ h => Heap.get?_push_of_some _ h) (by simp only [Heap.size_push]; exact e) q
theorem lays_wp (t : Sem α) : LaysOk K M Γ Q E p a t := by
  induction t with
  | pure b => exact fun n os s _ e q => by cases e; exact q
  | rule _ k ih => exact ih ()
  | point _ k ih => exact ih ()
  | ask k ih => exact ih _
  | load b _ k ih => exact .load ih
  | alloc o k ih => exact .alloc ih
  | _ => exact .none fun _ => rfl
end
theorem wpAny_lays {α : Type} {K : Frag} {M : Model} {A : Around} {t : Sem α} {Q : α → Shared → Prop} {E : Value → Shared → Prop} {s : Shared} {os : List Obj} {a : α} (x : K.In s.heap) (n : Nat)
    (e : lays K ⟨M.prog, M.w.params⟩ t (List.range' s.heap.objs.size n) = some (os, a)) (q : Q a { s with heap := pushed s.heap os }) : wpAny M A t Q E s := fun _ _ _ => lays_wp t n os s x e q
end Mine
end

section
open PySem PySem.W PyProof.Rows PySem.Calls
namespace Mine
variable {prog : Program} {w : World} {A : Around} {s : Shared} {E : Value → Shared → Prop} {Q : Value → Shared → Prop}
section
local macro_rules | `(tactic| x_close) => `(tactic| first | assumption | solve_by_elim)
theorem type_bytes {k : Nat} (hA : Ar A (k + 5)) {b : Array UInt8} {t : Tok} (h : Q (.type "bytes") s) : wpAny (model prog w) A (call (.type "type") [.bytes b t]) Q E s := by
  refine wide (hA.mono (Nat.le_add_left 5 k)) 985 9785 (by decide) (by decide) ?_
  x_run
theorem type_int {k : Nat} (hA : Ar A (k + 5)) {i : Int} {t : Tok} (h : Q (.type "int") s) : wpAny (model prog w) A (call (.type "type") [.int i t]) Q E s := by
  refine wide (hA.mono (Nat.le_add_left 5 k)) 985 9785 (by decide) (by decide) ?_
  x_run
theorem type_bool {k : Nat} (hA : Ar A (k + 5)) {i : Bool} (h : Q (.type "bool") s) : wpAny (model prog w) A (call (.type "type") [.bool i]) Q E s := by
  refine wide (hA.mono (Nat.le_add_left 5 k)) 985 9785 (by decide) (by decide) ?_
  x_run
theorem ba_slot_len : Slot "bytearray" "__len__" "bytearray.__len__" :=
  .of (owner := "bytearray") (n := "__len__") (by rw [typeLookup_type, builtinLookup_eq_fast]; kernel_rfl) (by decide +kernel) (by decide +kernel) (by decide +kernel)
    (by first | exact .inl (by decide +kernel) | exact .inr (by decide +kernel)) (by rw [isSubtype_type]; kernel_rfl)
theorem ba_entry_len : entryFor table "bytearray.__len__" = some Builtin.«bytearray.__len__» := by first | exact entryFor_of_fast (by kernel_rfl) | exact entryFor_of_tree (by kernel_rfl)
theorem ba_args_len (a : Value) : argsOk "bytearray.__len__" ⟨[a], []⟩ := by unfold argsOk; kernel_rfl
theorem len_ba0 {k : Nat} (_hA : Ar A (k + 5)) {a : Addr} {b : Array UInt8} (ho : s.heap.get? a = some ⟨.type "bytearray", none, .bytearray b 0, #[]⟩) (hz : b.size ≤ 1000) (h : ∀ tk tk', Q (.int b.size tk) { s with toks := tk' }) : wpAny (model prog w) A (call (.builtin "len") [.ref a]) Q E s := by
  have hT : s.TypeIs (.ref a) "bytearray" := ⟨_, ho, rfl⟩
  refine call_function_entry kind_len plain_len PySem.entry_len (args_len1 _) ?_
  unfold Builtin.«len»
  refine wpAny_bind (m := oneArg "len" _) (wpAny_pure ?_)
  refine wpAny_bind (m := callSpecial? (.ref a) (Str.ofString "__len__")) (wpAny_callSpecial?_slot (name := Str.ofString "__len__") hT ba_slot_len
    (wpAny_call_entry ba_slot_len hT ba_entry_len ?_ (ba_args_len _)))
  refine wpAny_bind (m := slotArgs "__len__" 0 _) (wpAny_pure (a := (Value.ref a, ([] : List Value))) ?_)
  refine wpAny_bind (m := Builtin.Bytes.payload (.ref a)) (wpAny_bind (wpAny_bind (wpAny_load ho (wpAny_pure (wpAny_pure ?_)))))
  have hn : ¬ ((b.size : Nat) : Int) < 0 := Int.not_lt.mpr (Int.natCast_nonneg _)
  refine (wpAny_bind (wpAny_mkInt (wpAny_pure ⟨_, rfl, ?_⟩)))
  refine wpAny_bind (wpAny_holding (wpAny_pure ?_))
  refine wpAny_bind (wpAny_letGo ?_)
  show wpAny _ _ (if ((b.size : Nat) : Int) < 0 then _ else _) _ _ _
  rw [if_neg hn]
  show wpAny _ _ (if ((b.size : Nat) : Int) ≥ 2 ^ 63 then _ else _) _ _ _
  rw [if_neg (by omega)]
  exact wpAny_bind (wpAny_mkInt (wpAny_pure ⟨_, rfl, h _ _⟩))
end
end Mine
end

section
open PySem PySem.W PyProof.Rows PySem.Calls Builtin
namespace Mine
theorem ba_lk_bytes : typeLookup (.type "bytearray") "__bytes__" = pure none := by rw [typeLookup_type, builtinLookup_eq_fast]; kernel_rfl
theorem ba_lk_index : typeLookup (.type "bytearray") "__index__" = pure none := by rw [typeLookup_type, builtinLookup_eq_fast]; kernel_rfl
theorem ba_lk_buf : typeLookup (.type "bytearray") "__buffer__" = pure (some (.builtin "bytearray.__buffer__")) := by rw [typeLookup_type, builtinLookup_eq_fast]; kernel_rfl
theorem bm_args (obj a : Value) : argsOk "object.__init__" ⟨[obj, a], []⟩ := by unfold argsOk; kernel_rfl
section
variable {prog : Program} {w : World} {A : Around} {s : Shared} {E : Value → Shared → Prop}
theorem ba_slotBuf {a : Addr} {Q : Bool → Shared → Prop} (hT : s.TypeIs (.ref a) "bytearray") (h : Q true s) : wpAny (model prog w) A (Bytes.slotIsOwn (.ref a) "__buffer__") Q E s := by
  refine wpAny_bind (m := specialOf (.ref a) "__buffer__") (wpAny_specialOf hT ba_lk_buf ?_)
  show wpAny _ _ (if (!"bytearray.__buffer__".endsWith ("." ++ "__buffer__")) = true then _ else _) _ _ _
  rw [show (!"bytearray.__buffer__".endsWith ("." ++ "__buffer__")) = false from by decide +kernel]
  show wpAny _ _ (isInstance (.ref a) (.type ("bytearray.__buffer__".dropRight ("__buffer__".length + 1)))) _ _ _
  rw [show "bytearray.__buffer__".dropRight ("__buffer__".length + 1) = "bytearray" from by decide +kernel]
  exact wpAny_isInstance hT ba_sub h
theorem ba_bufferOf {id : String} {a : Addr} {b : Array UInt8} {full : Bool} {Q : Option (Array UInt8) → Shared → Prop} (ho : s.heap.get? a = some (baObj b)) (h : Q (some b) s) : wpAny (model prog w) A (Bytes.buffer? id (.ref a) full) Q E s := by
  have hT : s.TypeIs (.ref a) "bytearray" := ⟨_, ho, rfl⟩
  refine wpAny_bind (m := specialOf (.ref a) "__buffer__") (wpAny_specialOf hT ba_lk_buf ?_)
  refine wpAny_bind (m := Bytes.slotIsOwn (.ref a) "__buffer__") (ba_slotBuf hT ?_)
  refine wpAny_bind (m := specialOf (.ref a) "__buffer__") (wpAny_specialOf hT ba_lk_buf ?_)
  refine wpAny_bind (m := Bytes.ownRelease (.ref a)) (ba_ownRel hT ?_)
  exact wpAny_bind (m := Bytes.payload (.ref a)) (wpAny_bind (wpAny_bind (wpAny_load ho (wpAny_pure (wpAny_pure (wpAny_pure h))))))
theorem ba_meets_bytes (b : Array UInt8) (a : Addr) :
    Meets («bytes.__new__» ⟨[.type "bytes", .ref a], []⟩) (fun _ R s => s.heap.get? a = some (baObj b) ∧ b.size ≤ sizeLine ∧ ∀ tk tk', R (.ok (.ret (.bytes b tk))) { s with toks := tk' }) := by
  refine .of_wp fun prog w A R s hS => an3 hS fun ho hz h => ?_
  clear hS
  have hT : s.TypeIs (.ref a) "bytearray" := ⟨_, ho, rfl⟩
  refine wpAny_bind (m := isType (.type "bytes")) (wpAny_of_eq (a := true) (by kernel_rfl) ?_)
  refine wpAny_bind (m := isSubtype (.type "bytes") (.type "bytes")) (wpAny_of_eq F.bm_sub ?_)
  refine wpAny_bind (m := Bytes.bindOptional "bytes.__new__" "bytes" ["source", "encoding", "errors"] [.ref a] []) (wpAny_of_eq (F.bm_bind _) ?_)
  refine wpAny_bind (m := Bytes.checkCodecArg "bytes.__new__" "bytes" "encoding" none) (wpAny_of_eq rfl ?_)
  refine wpAny_bind (m := Bytes.checkCodecArg "bytes.__new__" "bytes" "errors" none) (wpAny_of_eq rfl ?_)
  refine wpAny_bind (m := specialOf (.ref a) "__bytes__") (wpAny_specialOf hT ba_lk_bytes ?_)
  refine wpAny_bind (m := asStr? (.ref a) >>= fun r => pure r.isSome) (wpAny_bind (m := asStr? (.ref a)) (wpAny_bind (wpAny_load ho (wpAny_pure (wpAny_pure ?_)))))
  refine wpAny_bind (m := specialOf (.ref a) "__index__") (wpAny_specialOf hT ba_lk_index ?_)
  refine wpAny_bind (m := Bytes.buffer? "bytes.__new__" (.ref a) true) (ba_bufferOf ho ?_)
  refine wpAny_bind (wpAny_rule (wpAny_bind (m := mkBytes b) (wpAny_mkBytes ?_ hz)))
  exact wpAny_pure ⟨_, rfl, h _ _⟩
end
theorem ba_slot_get : Slot "bytearray" "__getitem__" "bytearray.__getitem__" :=
  .of (owner := "bytearray") (n := "__getitem__") (by rw [typeLookup_type, builtinLookup_eq_fast]; kernel_rfl) (by decide +kernel) (by decide +kernel) (by decide +kernel)
    (by first | exact .inl (by decide +kernel) | exact .inr (by decide +kernel)) (by rw [isSubtype_type]; kernel_rfl)
theorem ba_entry_get : entryFor table "bytearray.__getitem__" = some Builtin.«bytearray.__getitem__» := by first | exact entryFor_of_fast (by kernel_rfl) | exact entryFor_of_tree (by kernel_rfl)
theorem ba_args_get (a b : Value) : argsOk "bytearray.__getitem__" ⟨[a, b], []⟩ := by unfold argsOk; kernel_rfl
theorem clip_le {n i : Nat} (h : i ≤ n) : clipAt n (i : Int) = i := by unfold clipAt; lia
theorem ba_picked {b : Array UInt8} {i j : Nat} (hij : i ≤ j) (hj : j ≤ b.size) : KBy.picked b (some i) (some j) = ((b.toList.drop i).take (j - i)).toArray := by
  rw [KBc.picked_eq]
  simp only [Option.elim]
  rw [clip_le (Nat.le_trans hij hj), clip_le hj]
theorem ba_meets_slice (b : Array UInt8) (a sl : Addr) (i j : Int) (ti tj : Tok) :
    Meets («bytearray.__getitem__» ⟨[.ref a, .ref sl], []⟩) (fun _ R s => s.heap.get? a = some (baObj b) ∧ s.heap.IsSliceOf sl (.int i ti) (.int j tj) .none ∧ b.size ≤ sizeLine ∧
      R (.ok (.ret (.ref s.heap.objs.size))) { s with heap := s.heap.push (baObj (KBy.picked b (some i) (some j))) }) := by
  refine .of_wp fun prog w A R s hS => ?_
  refine an4 hS fun ha hz22 hz h => ?_
  try clear hS
  obtain ⟨o, ho, hc, hd⟩ := hz22
  have hT : s.TypeIs (.ref sl) "slice" := ⟨o, ho, hc⟩
  show wpAny _ _ (Bytes.subscript? (.ref sl) >>= fun r => _) _ _ s
  refine wpAny_bind ?_
  unfold Bytes.subscript?
  refine wpAny_bind (wpAny_specialOf hT slice_no_index (wpAny_pure ?_))
  refine wpAny_bind (wpAny_typeOf hT ?_)
  show wpAny _ _ (Bytes.sliceParts (.ref sl) >>= fun r => _) _ _ s
  refine wpAny_bind ?_
  unfold Bytes.sliceParts
  refine wpAny_bind (wpAny_field (x := .none) ho hd rfl ?_)
  kby_none
  refine wpAny_ite (KBy.ite_no (show ¬ ((Value.none == rawInt 0) = true) from Bool.false_ne_true) ?_)
  refine wpAny_bind (wpAny_field (x := .int i ti) ho hd rfl ?_)
  have go : wpAny (model prog w) A.in1 (sliceIndices (rawPart (some i)) (rawPart (some j)) (rawPart none) b.size) (fun r s' => r = sliceBounds (some i) (some j) none b.size ∧ s' = s) (fun _ _ => False) s :=
    wpAny_of_eq (sliceIndices_raw (some i) (some j) none b.size (fun e => nomatch e)) ⟨rfl, rfl⟩
  kby_int
  refine wpAny_bind (wpAny_field (x := .int _ _) ho hd rfl ?_)
  kby_int
  refine wpAny_pure ?_
  show wpAny _ _ (Bytes.payload (.ref a) >>= fun r => _) _ _ s
  refine wpAny_bind ?_
  unfold Bytes.payload Bytes.payload?
  refine wpAny_bind (wpAny_bind (wpAny_load ha (wpAny_pure (wpAny_pure ?_))))
  refine wpAny_bind (wpAny_mono go (fun r s' hr => ?_) fun _ _ e => e.elim)
  refine an2 hr fun he20 he21 => ?_
  try clear hr
  subst he20
  subst he21
  unfold Bytes.newBytearray
  refine wpAny_bind (wpAny_newObj_type (wpAny_pure ⟨_, rfl, ?_⟩) ?_)
  · exact h
  · exact Nat.le_trans (KBc.size_picked_le b (some i) (some j)) hz
section
variable {prog : Program} {w : World} {A : Around} {E : Value → Shared → Prop} {s : Shared} {Q : Value → Shared → Prop}
theorem get_ba {value slice : PySem.Expr} {a sl : Addr} {b : Array UInt8} {i j : Int} {ti tj : Tok} (ha : s.heap.get? a = some (baObj b)) (hs : s.heap.IsSliceOf sl (.int i ti) (.int j tj) .none) (hz : b.size ≤ sizeLine)
    (h : Q (.ref s.heap.objs.size) { s with heap := s.heap.push (baObj (KBy.picked b (some i) (some j))) })
    (hsl : subscripted slice false (.ref a) (.ref sl) = operate [.ref sl, .ref a] (getItem (.ref a) (.ref sl)) := by with_unfolding_all rfl)
    (ht : ∀ r, letTemporaryGo value (.ref a) r = pure () := by intro _; with_unfolding_all rfl) :
    wpAny (model prog w) A (subscriptTail value slice (.ref a) (.ref sl)) Q E s :=
  tail_of_ItemOn (exi2 ("bytearray") _ ⟨ba_slot_get.lookup, ⟨_, ha, rfl⟩, getItem_meets ⟨_, ha, rfl⟩ (by decide) ba_slot_get ba_entry_get (ba_args_get _ _) (ba_meets_slice b a sl i j ti tj)
    ⟨ha, hs, hz, h⟩⟩) hsl ht
theorem get_baK {h₀ : Heap} {L : Addr} {m : PySem.Str → Option Value} {news : List (Addr × Obj)} {value slice : PySem.Expr} {a : Addr} {b : Array UInt8} {i j : Int} {ti tj : Tok} (F : Fr h₀ L s.heap m) (N : News h₀ L s.heap news) (hm : (a, baObj b) ∈ news) (hz : b.size ≤ 1000)
    (h : ∀ a' h', Fr h₀ L h' m → News h₀ L h' ((a', baObj (KBy.picked b (some i) (some j))) :: news) → Q (.ref a') { s with heap := h' })
    (hsl : subscripted slice false (.ref a) (.ref s.heap.objs.size) = operate [.ref s.heap.objs.size, .ref a] (getItem (.ref a) (.ref s.heap.objs.size)) := by with_unfolding_all rfl)
    (ht : ∀ r, letTemporaryGo value (.ref a) r = pure () := by intro _; with_unfolding_all rfl) :
    wpAny (model prog w) A (subscriptTail value slice (.ref a) (.ref s.heap.objs.size)) Q E { s with heap := s.heap.push { cls := .type "slice", data := .fields #[.int i ti, .int j tj, .none] } } := by
  refine get_ba (b := b) (Heap.get?_push_of_some _ (N _ hm).1) (Heap.IsSliceOf.new _ _ _ _) (Nat.le_trans hz (by decide)) (h _ _ ((F.push _).push _) ?_) hsl ht
  exact News.push (F.push _) (newsPush N _) _
theorem by_ba0 {k : Nat} (_hA : Ar A (k + 5)) {a : Addr} {b : Array UInt8} (ho : s.heap.get? a = some ⟨.type "bytearray", none, .bytearray b 0, #[]⟩)
   (hz : b.size ≤ 1000) (h : ∀ tk tk', Q (.bytes b tk) { s with toks := tk' }) : wpAny (model prog w) A (call (.type "bytes") [.ref a]) Q E s :=
  callType_new F.bm_called (by decide +kernel) (F.bm_typeCall _) (F.bm_newCall _) (fun obj => bm_args obj _) F.bm_entry (ba_meets_bytes b a)
    ⟨ho, Nat.le_trans hz (by decide), fun tk tk' => ⟨typeIs_bytes _ b tk, h tk tk'⟩⟩
theorem by_baK {k : Nat} {h₀ : Heap} {L : Addr} {news : List (Addr × Obj)} (hA : Ar A (k + 5)) {a : Addr} {b : Array UInt8} (N : News h₀ L s.heap news) (hm : (a, baObj b) ∈ news)
   (hz : b.size ≤ 1000) (h : ∀ tk tk', Q (.bytes b tk) { s with toks := tk' }) : wpAny (model prog w) A (call (.type "bytes") [.ref a]) Q E s := by_ba0 hA (N _ hm).1 hz h
theorem picked_size {b : Array UInt8} {lo hi : Option Int} (hz : b.size ≤ 1000) : (KBy.picked b lo hi).size ≤ 1000 := Nat.le_trans (KBc.size_picked_le b lo hi) hz
end
end Mine
end

section
open PySem PySem.W PyProof.Rows PySem.Calls
namespace Mine
section
variable {prog : Program} {w : World} {A : Around} {s : Shared}
/-- a call of one of the text's own defs some of whose names are cells -/
theorem callCells {k : Nat} {Q : Value → Shared → Prop} {E : Value → Shared → Prop} {name qual : Str} {params : Arguments} {body body' : List Stmt} {scope : Scope} {dV kV doc pm cdv ct oc : Value} {an od : Option Addr} {osl : Array (Option Value)} {f : Addr} {args : List Value}
    (binds : List (Str × Value))
    (X : Wd w s.heap) (hA : Ar A (k + 1))
    (h : ∀ L' h₁ tk₁ cells mean mg mb n u, Ar ⟨none, n, none, none, u⟩ k → Fr s.heap L' h₁ (bindL (envOfC qual scope L' f cdv).kindOf binds fun _ => none) → News s.heap L' h₁ cells →
      CellsAre (bindC (envOfC qual scope L' f cdv).kindOf binds fun _ => none) (cellsFrom (L' + 1) scope.names []) cells → (Kf w.params).In s.heap → Top vw (looseW vw looseL) mean mg mb s.heap →
      wpAny (model prog w) ⟨none, n, none, none, u⟩ (execs body' (envOfC qual scope L' f cdv))
        (fun fl s' => Q (match fl with | .ret v => v | _ => .none) s') (fun _ _ => False)
        { s with heap := h₁, toks := tk₁ })
    (ho : (Kf w.params).lookup f = some ⟨oc, od, .func (fnOf name qual params body scope dV kV doc pm an cdv ct), osl⟩ := by k_is) (hcd : codeIn (Kf w.params) cdv qual = true := by k_is) (hbd : body = body' := by (conv => lhs; whnf))
    (hbind : BindsTo s (fnOf name qual params body scope dV kV doc pm an cdv ct) ⟨args, []⟩ binds := by first | exact BindsTo.of_eq rfl | exact binds_K (Wd.k (by assumption)) rfl (by k_is) rfl rfl rfl)
    (hkind : (binds.all fun y => scope.names.lookup y.1 == some .local || scope.names.lookup y.1 == some .cell) = true := by exact rfl)
    (hnd : ((cellsFrom 0 scope.names []).map (·.1)).Nodup := by decide +kernel)
    (hco : scope.isCoroutine = false := by exact rfl) (hgen : scope.isGenerator = false := by exact rfl) (hk : scope.kind = .function := by exact rfl) :
    wpAny (model prog w) A (call (.ref f) args) Q E s := by
  subst hbd
  refine ex3 X.t fun mean mg mb T => ?_
  refine wpAny_call (codeAny_call_function hA.room (X.k _ _ ho) rfl hco hgen rfl (codeRec_of X.k hcd) (hbind _ _ _ _ ?_))
  refine wpAny_newFunctionEnv_cells hk (kindsX hkind _) fun env' he s' x => ?_
  subst he
  refine ⟨T.nolimit.keeps x.toInCall.keep, codeAny_func ?_⟩
  refine ex2 x.done fun h₁ tk hz46 => an2 hz46 fun he47 _ => ?_
  clear hz46
  subst he47
  refine ex1 (Cl.news (h₀ := s.heap) (Nat.le_refl _) fun n c hm => ⟨x.cell n c (lookup_of_mem_nodup (cellsFrom_names scope.names 0 (s.heap.objs.size + 1) [] [] rfl ▸ hnd) hm), x.above n c hm⟩) fun cells hz45 => an2 hz45 fun NC Y => ?_
  clear hz45
  exact wpAny_mono (conc hA.deeper fun n u hA' => h s.heap.objs.size h₁ tk cells mean mg mb n u hA' ⟨x.toInCall.ns, x.toInCall.keep, Nat.le_refl _⟩ NC Y X.k T) (fun fl s' hl => hl) fun _ _ y => y.elim
theorem concN {α : Type} {M : Model} {A : Around} {k : Nat} {t : Sem α} {Q : α → Shared → Prop} {E : Value → Shared → Prop} {s : Shared} (hA : Ar A k)
    (h : ∀ n u, Ar ⟨none, n, none, none, u⟩ k → wpN M ⟨none, n, none, none, u⟩ t Q E s) : wpN M A t Q E s := fun Γ p hN hΓ =>
  h A.depth A.units ⟨rfl, hA.dp, hA.un⟩ Γ p hN ⟨hΓ.1.trans hA.hd, hΓ.2.1, (fun l e => by cases e), (fun l e => by cases e), hΓ.2.2.2.2⟩
/-- the same where the body reaches a stream's making -/
theorem callCellsN {k : Nat} {Q : Value → Shared → Prop} {E : Value → Shared → Prop} {name qual : Str} {params : Arguments} {body body' : List Stmt} {scope : Scope} {dV kV doc pm cdv ct oc : Value} {an od : Option Addr} {osl : Array (Option Value)} {f : Addr} {args : List Value}
    (binds : List (Str × Value))
    (X : Wd w s.heap) (hA : Ar A (k + 1))
    (h : ∀ L' h₁ tk₁ cells mean mg mb n u, Ar ⟨none, n, none, none, u⟩ k → Fr s.heap L' h₁ (bindL (envOfC qual scope L' f cdv).kindOf binds fun _ => none) → News s.heap L' h₁ cells →
      CellsAre (bindC (envOfC qual scope L' f cdv).kindOf binds fun _ => none) (cellsFrom (L' + 1) scope.names []) cells → (Kf w.params).In s.heap → Top vw (looseW vw looseL) mean mg mb s.heap →
      wpN (model prog w) ⟨none, n, none, none, u⟩ (execs body' (envOfC qual scope L' f cdv))
        (fun fl s' => Q (match fl with | .ret v => v | _ => .none) s') (fun _ _ => False)
        { s with heap := h₁, toks := tk₁ })
    (ho : (Kf w.params).lookup f = some ⟨oc, od, .func (fnOf name qual params body scope dV kV doc pm an cdv ct), osl⟩ := by k_is) (hcd : codeIn (Kf w.params) cdv qual = true := by k_is) (hbd : body = body' := by (conv => lhs; whnf))
    (hbind : BindsTo s (fnOf name qual params body scope dV kV doc pm an cdv ct) ⟨args, []⟩ binds := by first | exact BindsTo.of_eq rfl | exact binds_K (Wd.k (by assumption)) rfl (by k_is) rfl rfl rfl)
    (hkind : (binds.all fun y => scope.names.lookup y.1 == some .local || scope.names.lookup y.1 == some .cell) = true := by exact rfl)
    (hnd : ((cellsFrom 0 scope.names []).map (·.1)).Nodup := by decide +kernel)
    (hco : scope.isCoroutine = false := by exact rfl) (hgen : scope.isGenerator = false := by exact rfl) (hk : scope.kind = .function := by exact rfl) :
    wpN (model prog w) A (call (.ref f) args) Q E s := by
  subst hbd
  refine ex3 X.t fun mean mg mb T => ?_
  refine wpN_call (codeN_call_function hA.room (X.k _ _ ho) rfl hco hgen rfl (codeRec_of X.k hcd) (hbind _ _ _ _ ?_))
  refine wpAny_newFunctionEnv_cells hk (kindsX hkind _) fun env' he s' x => ?_
  subst he
  refine ⟨T.nolimit.keeps x.toInCall.keep, codeN_func ?_⟩
  refine ex2 x.done fun h₁ tk hz43 => an2 hz43 fun he44 _ => ?_
  clear hz43
  subst he44
  refine ex1 (Cl.news (h₀ := s.heap) (Nat.le_refl _) fun n c hm => ⟨x.cell n c (lookup_of_mem_nodup (cellsFrom_names scope.names 0 (s.heap.objs.size + 1) [] [] rfl ▸ hnd) hm), x.above n c hm⟩) fun cells hz42 => an2 hz42 fun NC Y => ?_
  clear hz42
  exact wpN_mono (concN hA.deeper fun n u hA' => h s.heap.objs.size h₁ tk cells mean mg mb n u hA' ⟨x.toInCall.ns, x.toInCall.keep, Nat.le_refl _⟩ NC Y X.k T) (fun fl s' hl => hl) fun _ _ y => y.elim
end
end Mine
end

section
open PySem PySem.W PyProof.Rows PySem.Calls PyProof.Rows.LCg PyProof.Rows.LCt
namespace Mine
section
variable {prog : Program} {w : World} {A : Around} {E : Value → Shared → Prop} {s : Shared} {h₀ : Heap} {L : Addr} {m : Str → Option Value} {env : Env} {news : List (Addr × Obj)}
/-- what a comprehension walks over: an iterator of n items -/
noncomputable def SrcI (prog : Program) (w : World) (A : Around) (h₀ : Heap) (L : Addr) (m : Str → Option Value) (S : List (Addr × Obj) → Prop) (P : Nat → Value → Prop) (n : Nat) (news : List (Addr × Obj)) (it : Value) (s₂ : Shared) : Prop :=
  ∃ I fp St, it = .ref I ∧ Walks prog w A I fp [I] n P St ∧ n ≤ sizeLine ∧ (∀ i h, St i h → ∃ o, h.get? I = some o) ∧
    (∀ i h h' o nw, St i h → h.get? I = some o → h'.get? I = some o → (∀ b o, h₀.get? b = some o → h'.get? b = some o) → News h₀ L h' nw → S nw → St i h') ∧
    St 0 s₂.heap ∧ (∀ b ∈ fp, b < s₂.heap.objs.size) ∧ Fr h₀ L s₂.heap m ∧ News h₀ L s₂.heap news ∧ L ≠ I ∧ h₀.get? I = none ∧ (∀ p ∈ news, p.1 ≠ I) ∧ S news
theorem src_list {ax : Addr} {its : Array Value} {Q : Value → Shared → Prop} (hh : A.handled = none) (F : Fr h₀ L s.heap m) (N : News h₀ L s.heap news) (S : SrcAt h₀ ax its news) (hsz : its.size ≤ sizeLine)
    (h : ∀ h' it, SrcI prog w A h₀ L m (SrcAt h₀ ax its) (fun i v => its[i]? = some v) its.size news it { s with heap := h' } → Q it { s with heap := h' }) : wpAny (model prog w) A (pyIter (.ref ax)) Q E s := by
  have hl := S.list F.keep N
  have hlt : ax < s.heap.objs.size := by obtain ⟨_, e, _⟩ := hl; exact Heap.lt_size e
  refine wpAny_pyIter_list hl ?_
  have up : ∀ b o, s.heap.get? b = some o → (s.heap.push { cls := .type "list_iterator", data := .fields #[.ref ax, .int 0 0] }).get? b = some o := fun b o e => Heap.get?_push_of_some _ e
  refine h _ _ (exi3 _ _ _ ⟨rfl, Walks.list hh s.heap.objs.size ax (Nat.ne_of_lt hlt) its, hsz, (fun i h st => by obtain ⟨o, e, _⟩ := st.1; exact ⟨o, e⟩), list_st, ⟨⟨_, Heap.get?_push_size _ rfl, rfl, rfl⟩, hl.push _⟩, (fun b hb => ?_), (F.keeps up), (N.grown up), (Nat.ne_of_lt F.ns.lt), (next_is_new F), (fun p hp => Nat.ne_of_lt (Heap.lt_size (N p hp).1)), S⟩)
  show b < (s.heap.push _).objs.size
  rw [Heap.size_push]
  rcases List.mem_cons.mp hb with rfl | hb
  · exact Nat.lt_succ_self _
  · rw [List.mem_singleton.mp hb]; exact Nat.lt_succ_of_lt hlt
theorem src_bytes {b : Array UInt8} {tb : Tok} {Q : Value → Shared → Prop} (hh : A.handled = none) (F : Fr h₀ L s.heap m) (N : News h₀ L s.heap news) (hsz : b.size ≤ 1000)
    (h : ∀ h' it, SrcI prog w A h₀ L m (fun _ => True) (fun i v => ∃ c u, b[i]? = some c ∧ v = .int (c.toNat : Int) u) b.size news it { s with heap := h' } → Q it { s with heap := h' }) : wpAny (model prog w) A (pyIter (.bytes b tb)) Q E s := by
  refine KBw.pyIter_bytes ?_
  refine h _ _ (exi3 _ _ _ ⟨rfl, KBw.walks hh s.heap.objs.size b tb, Nat.le_trans hsz (by decide), (fun i h st => by obtain ⟨o, e, _⟩ := st; exact ⟨o, e⟩), (fun i h h' o nw st e e' _ _ _ => by obtain ⟨o', q, r⟩ := st; rw [e] at q; cases q; exact ⟨o, e', r⟩), ⟨_, Heap.get?_push_size _ rfl, rfl, rfl⟩, (fun b hb => ?_), (F.keeps fun _ _ e => Heap.get?_push_of_some _ e), (N.grown fun _ _ e => Heap.get?_push_of_some _ e), (Nat.ne_of_lt F.ns.lt), (next_is_new F), (fun p hp => Nat.ne_of_lt (Heap.lt_size (N p hp).1)), trivial⟩)
  rw [List.mem_singleton.mp hb]
  show s.heap.objs.size < (s.heap.push _).objs.size
  rw [Heap.size_push]; exact Nat.lt_succ_self _
theorem src_range {r : Addr} {a b c : Int} {t u v : Tok} {n : Nat} {Q : Value → Shared → Prop} (hh : A.handled = none) (F : Fr h₀ L s.heap m) (N : News h₀ L s.heap news) (hr : IsRange s.heap r a b c t u v) (hsm : Builtin.Range.small a b c = true) (hn : Builtin.Range.rangeSize a b c = ((n : Nat) : Int)) (hsz : n ≤ 1000)
    (h : ∀ h' it, SrcI prog w A h₀ L m (fun _ => True) (fun i v => ∃ t, v = .int (a + i * c) t) n news it { s with heap := h' } → Q it { s with heap := h' }) : wpAny (model prog w) A (pyIter (.ref r)) Q E s := by
  refine wpAny_pyIter_range hr hsm ?_
  refine h _ _ (exi3 _ _ _ ⟨rfl, Walks.range hh s.heap.objs.size a c n, Nat.le_trans hsz (by decide), (fun i h st => ⟨_, st⟩), (fun i h h' o nw st e e' _ _ _ => by
      have st' : h.get? _ = some _ := st
      show h'.get? _ = some _
      rw [e', ← e]; exact st'), ?_, (fun b hb => ?_), (F.keeps fun _ _ e => Heap.get?_push_of_some _ e), (N.grown fun _ _ e => Heap.get?_push_of_some _ e), (Nat.ne_of_lt F.ns.lt), (next_is_new F), (fun p hp => Nat.ne_of_lt (Heap.lt_size (N p hp).1)), trivial⟩)
  · have e : a + (((0 : Nat) : Int)) * c = a := by simp
    show IsRangeIter _ _ (a + (((0 : Nat) : Int)) * c) ((n : Int) - ((0 : Nat) : Int)) c
    rw [e, hn]
    have z := Heap.get?_push_size s.heap (o := { cls := .type "range_iterator", data := .fields #[rawInt a, rawInt (n : Int), rawInt c] }) rfl
    simpa [IsRangeIter, rawInt] using z
  · rw [List.mem_singleton.mp hb]
    show s.heap.objs.size < (s.heap.push _).objs.size
    rw [Heap.size_push]; exact Nat.lt_succ_self _
theorem compEU {elt iter : Expr} {x : Str} {px : Pos} {scope : Scope} {cl : List (Str × Addr)} {pos : Pos} {Q : Value → Shared → Prop}
    (hclos : closureFor scope env = pure cl) (hcell : ∀ y ∈ scope.names, y.2 ≠ .cell) (hkind : scope.kind = .function)
    (hnames : ∀ y ∈ scope.names, y.2 = .local → scope.names.lookup y.1 = some .local) (hx : scope.names.lookup x = some .local)
    (h : wpAny (model prog w) A (eval iter env) (fun xv s₁ => wpAny (model prog w) A (pyIter xv) (fun it s₂ => ∃ h₀ L m S P n news, SrcI prog w A h₀ L m S P n news it s₂ ∧ CompRest prog w A h₀ L m env elt x scope cl s₂ S P (FinE h₀ L m s₂ Q) n 0 [] news) E s₁) E s)
    (hs : ∀ x, foldedSetIterable iter env x = pure x := by intro _; rfl) :
    wpAny (model prog w) A (eval (.ListComp elt [⟨.Name x px, iter, [], 0⟩] scope pos) env) Q E s := by
  rw [eval_ListComp]
  refine wpAny_comprehension_free (use := none) rfl hs hclos hkind hnames (wpAny_mono h (fun xv s₁ h₁ => wpAny_mono h₁ (fun it s₂ h₂ => ?_) fun _ _ e => e) fun _ _ e => e)
  refine ex7 h₂ fun h₀ L m S P n news hz10 => an2 hz10 fun hz11 R => ?_
  clear hz10
  try clear h₂
  refine ex3 hz11 fun I fp St hz901 => an13 hz901 fun he902 W hsz hIo hSt hst hfp F N hLI hI₀ off hS => ?_
  clear hz901 hz11
  subst he902
  refine block_U W hsz hIo hSt hcell hkind hx hst hfp F N hLI hI₀ off hS R ?_
  intro D C h tk m' ys news' F' N' o1 hn hC₀ hD₀ hCL hDL hCD offC fin
  refine ⟨m', hn, fun h'' hs'' => fin D h'' tk (F'.change hs'' hCL hC₀) (fun p hp => ?_) o1⟩
  refine ⟨hs''.extBut _ _ ?_ (N' p hp).1, (N' p hp).2⟩
  rcases List.mem_cons.mp hp with rfl | hp
  · exact Ne.symm hCD
  · exact offC p hp
theorem compAU {elt iter : Expr} {x y : Str} {px py : Pos} {scope : Scope} {cl : List (Str × Addr)} {pos spos : Pos} {Q : Flow → Shared → Prop}
    (hsw : swapsWith (.ListComp elt [⟨.Name x px, iter, [], 0⟩] scope pos) (some (.Name y py)) spos.line env = pure true)
    (hclos : closureFor scope env = pure cl) (hcell : ∀ z ∈ scope.names, z.2 ≠ .cell) (hkind : scope.kind = .function)
    (hnames : ∀ z ∈ scope.names, z.2 = .local → scope.names.lookup z.1 = some .local) (hx : scope.names.lookup x = some .local)
    (hy : env.kindOf y = some .local) (hp : (env.scope.kind == .class || (env.scope.kind == .module && env.locals != env.globals)) = false)
    (h : wpAny (model prog w) A (eval iter env) (fun xv s₁ => wpAny (model prog w) A (pyIter xv) (fun it s₂ => ∃ h₀ m S P n news, SrcI prog w A h₀ env.locals m S P n news it s₂ ∧ CompRest prog w A h₀ env.locals m env elt x scope cl s₂ S P (FinA h₀ env.locals m s₂ y Q) n 0 [] news) E s₁) E s)
    (hs : ∀ x, foldedSetIterable iter env x = pure x := by intro _; rfl) :
    wpAny (model prog w) A (exec (.Assign [.Name y py] (.ListComp elt [⟨.Name x px, iter, [], 0⟩] scope pos) spos) env) Q E s := by
  rw [exec_Assign_Name_used _ _ _ _ hsw]
  refine wpAny_bind (wpAny_standAt (wpAny_bind ?_))
  show wpAny _ A (do let _ ← comprehension (.ListComp elt [⟨.Name x px, iter, [], 0⟩] scope pos) scope env _ (newList []) false (eval iter env) (some (assign (.Name y py) env))) _ _ s
  refine wpAny_bind (wpAny_mono (wpAny_comprehension_free (use := some (assign (.Name y py) env)) (Q := fun _ s' => Q .next s') rfl hs hclos hkind hnames
    (wpAny_mono h (fun xv s₁ h₁ => wpAny_mono h₁ (fun it s₂ h₂ => ?_) fun _ _ e => e) fun _ _ e => e)) (fun _ s' hq => wpAny_pure (wpAny_pure hq)) fun _ _ e => e)
  refine ex6 h₂ fun h₀ m S P n news hz8 => an2 hz8 fun hz9 R => ?_
  clear hz8
  try clear h₂
  refine ex3 hz9 fun I fp St hz903 => an13 hz903 fun he904 W hsz hIo hSt hst hfp F N hLI hI₀ off hS => ?_
  clear hz903 hz9
  subst he904
  refine block_U W hsz hIo hSt hcell hkind hx hst hfp F N hLI hI₀ off hS R ?_
  intro D C h' tk m' ys news' F' N' o1 hn hC₀ hD₀ hCL hDL hCD offC fin
  show wpAny _ A (assign (.Name y py) env (.ref D)) _ _ _
  refine wpAny_assign_Name (wpAny_storeName_local hy F'.ns (fun h₂ hn₂ hs₂ => ?_) hp)
  have hL₀ : h₀.get? env.locals = none := Heap.get?_none_of_le F'.above
  have F₂ : Fr h₀ env.locals h₂ (fun z => if z = y then some (.ref D) else m z) := ⟨hn₂, fun b o e => hs₂.extBut b o (fun q => by rw [q, hL₀] at e; cases e) (F'.keep b o e), F'.above⟩
  refine ⟨m', hn.sameBut hs₂ hCL, fun h'' hs'' => fin D h'' _ (F₂.change hs'' hCL hC₀) (fun p hp => ?_) o1⟩
  have z : h₂.get? p.1 = some p.2 := hs₂.extBut _ _ (N' p hp).2.1 (N' p hp).1
  refine ⟨hs''.extBut _ _ ?_ z, (N' p hp).2⟩
  rcases List.mem_cons.mp hp with rfl | hp
  · exact Ne.symm hCD
  · exact offC p hp
theorem compET {ct elt iter : Expr} {x : Str} {px : Pos} {scope : Scope} {cl : List (Str × Addr)} {pos : Pos} {Q : Value → Shared → Prop}
    (hclos : closureFor scope env = pure cl) (hcell : ∀ y ∈ scope.names, y.2 ≠ .cell) (hkind : scope.kind = .function)
    (hnames : ∀ y ∈ scope.names, y.2 = .local → scope.names.lookup y.1 = some .local) (hx : scope.names.lookup x = some .local)
    (h : wpAny (model prog w) A (eval iter env) (fun xv s₁ => wpAny (model prog w) A (pyIter xv) (fun it s₂ => ∃ h₀ L m S P n news, SrcI prog w A h₀ L m S P n news it s₂ ∧ CompRestT prog w A h₀ L m env ct elt x scope cl s₂ S P (FinE h₀ L m s₂ Q) n 0 [] news) E s₁) E s)
    (hs : ∀ x, foldedSetIterable iter env x = pure x := by intro _; rfl) :
    wpAny (model prog w) A (eval (.ListComp elt [⟨.Name x px, iter, [ct], 0⟩] scope pos) env) Q E s := by
  rw [eval_ListComp]
  refine wpAny_comprehension_free (use := none) rfl hs hclos hkind hnames (wpAny_mono h (fun xv s₁ h₁ => wpAny_mono h₁ (fun it s₂ h₂ => ?_) fun _ _ e => e) fun _ _ e => e)
  refine ex7 h₂ fun h₀ L m S P n news hz6 => an2 hz6 fun hz7 R => ?_
  clear hz6
  try clear h₂
  refine ex3 hz7 fun I fp St hz905 => an13 hz905 fun he906 W hsz hIo hSt hst hfp F N hLI hI₀ off hS => ?_
  clear hz905 hz7
  subst he906
  refine block_T W hsz hIo hSt hcell hkind hx hst hfp F N hLI hI₀ off hS R ?_
  intro D C h tk m' ys news' F' N' o1 hn hC₀ hD₀ hCL hDL hCD offC fin
  refine ⟨m', hn, fun h'' hs'' => fin D h'' tk (F'.change hs'' hCL hC₀) (fun p hp => ?_) o1⟩
  refine ⟨hs''.extBut _ _ ?_ (N' p hp).1, (N' p hp).2⟩
  rcases List.mem_cons.mp hp with rfl | hp
  · exact Ne.symm hCD
  · exact offC p hp
theorem compAT {ct elt iter : Expr} {x y : Str} {px py : Pos} {scope : Scope} {cl : List (Str × Addr)} {pos spos : Pos} {Q : Flow → Shared → Prop}
    (hsw : swapsWith (.ListComp elt [⟨.Name x px, iter, [ct], 0⟩] scope pos) (some (.Name y py)) spos.line env = pure true)
    (hclos : closureFor scope env = pure cl) (hcell : ∀ z ∈ scope.names, z.2 ≠ .cell) (hkind : scope.kind = .function)
    (hnames : ∀ z ∈ scope.names, z.2 = .local → scope.names.lookup z.1 = some .local) (hx : scope.names.lookup x = some .local)
    (hy : env.kindOf y = some .local) (hp : (env.scope.kind == .class || (env.scope.kind == .module && env.locals != env.globals)) = false)
    (h : wpAny (model prog w) A (eval iter env) (fun xv s₁ => wpAny (model prog w) A (pyIter xv) (fun it s₂ => ∃ h₀ m S P n news, SrcI prog w A h₀ env.locals m S P n news it s₂ ∧ CompRestT prog w A h₀ env.locals m env ct elt x scope cl s₂ S P (FinA h₀ env.locals m s₂ y Q) n 0 [] news) E s₁) E s)
    (hs : ∀ x, foldedSetIterable iter env x = pure x := by intro _; rfl) :
    wpAny (model prog w) A (exec (.Assign [.Name y py] (.ListComp elt [⟨.Name x px, iter, [ct], 0⟩] scope pos) spos) env) Q E s := by
  rw [exec_Assign_Name_used _ _ _ _ hsw]
  refine wpAny_bind (wpAny_standAt (wpAny_bind ?_))
  show wpAny _ A (do let _ ← comprehension (.ListComp elt [⟨.Name x px, iter, [ct], 0⟩] scope pos) scope env _ (newList []) false (eval iter env) (some (assign (.Name y py) env))) _ _ s
  refine wpAny_bind (wpAny_mono (wpAny_comprehension_free (use := some (assign (.Name y py) env)) (Q := fun _ s' => Q .next s') rfl hs hclos hkind hnames
    (wpAny_mono h (fun xv s₁ h₁ => wpAny_mono h₁ (fun it s₂ h₂ => ?_) fun _ _ e => e) fun _ _ e => e)) (fun _ s' hq => wpAny_pure (wpAny_pure hq)) fun _ _ e => e)
  refine ex6 h₂ fun h₀ m S P n news hz4 => an2 hz4 fun hz5 R => ?_
  clear hz4
  try clear h₂
  refine ex3 hz5 fun I fp St hz907 => an13 hz907 fun he908 W hsz hIo hSt hst hfp F N hLI hI₀ off hS => ?_
  clear hz907 hz5
  subst he908
  refine block_T W hsz hIo hSt hcell hkind hx hst hfp F N hLI hI₀ off hS R ?_
  intro D C h' tk m' ys news' F' N' o1 hn hC₀ hD₀ hCL hDL hCD offC fin
  show wpAny _ A (assign (.Name y py) env (.ref D)) _ _ _
  refine wpAny_assign_Name (wpAny_storeName_local hy F'.ns (fun h₂ hn₂ hs₂ => ?_) hp)
  have hL₀ : h₀.get? env.locals = none := Heap.get?_none_of_le F'.above
  have F₂ : Fr h₀ env.locals h₂ (fun z => if z = y then some (.ref D) else m z) := ⟨hn₂, fun b o e => hs₂.extBut b o (fun q => by rw [q, hL₀] at e; cases e) (F'.keep b o e), F'.above⟩
  refine ⟨m', hn.sameBut hs₂ hCL, fun h'' hs'' => fin D h'' _ (F₂.change hs'' hCL hC₀) (fun p hp => ?_) o1⟩
  have z : h₂.get? p.1 = some p.2 := hs₂.extBut _ _ (N' p hp).2.1 (N' p hp).1
  refine ⟨hs''.extBut _ _ ?_ z, (N' p hp).2⟩
  rcases List.mem_cons.mp hp with rfl | hp
  · exact Ne.symm hCD
  · exact offC p hp
/-- one element's end -/
noncomputable def EltEnd (h₀ : Heap) (L : Addr) (m : Str → Option Value) (s : Shared) (led : List (Addr × Obj)) (J : Value → Prop) (y : Value) (s₂ : Shared) : Prop :=
  ∃ h' tk' all, s₂ = { s with heap := h', toks := tk' } ∧ Fr h₀ L h' m ∧ News h₀ L h' all ∧ (∀ p ∈ led, p ∈ all) ∧ J y
theorem EltEnd.go {h₀ : Heap} {L : Addr} {m : Str → Option Value} {s : Shared} {led all : List (Addr × Obj)} {J : Value → Prop} {y : Value} {h' : Heap} {tk : Nat} (F : Fr h₀ L h' m) (N : News h₀ L h' all) (k : ∀ p ∈ led, p ∈ all) (j : J y) :
    EltEnd h₀ L m s led J y { s with heap := h', toks := tk } := ⟨h', tk, all, rfl, F, N, k, j⟩
theorem rest_uni {elt : Expr} {x : Str} {scope : Scope} {cl : List (Str × Addr)} {S : List (Addr × Obj) → Prop} {P : Nat → Value → Prop} {Fin : List Value → List (Addr × Obj) → Prop} {n : Nat}
    (J : Nat → List Value → Prop) (hS : S news) (h0 : J 0 [])
    (turn : ∀ i v ys I oI C oC D m₂ h tk (E' : Value → Shared → Prop), i < n → P i v → J i ys → NsObj oC m₂ → m₂ x = some v → Fr h₀ L h m → News h₀ L h ((I, oI) :: (C, oC) :: (D, lst ys) :: news) →
      wpAny (model prog w) A (eval elt (compEnvC scope cl C env)) (EltEnd h₀ L m { s with heap := h, toks := tk } ((I, oI) :: (C, oC) :: (D, lst ys) :: news) (fun y => J (i + 1) (ys ++ [y]))) E' { s with heap := h, toks := tk })
    (fin : ∀ ys, J n ys → Fin ys news) : CompRest prog w A h₀ L m env elt x scope cl s S P Fin n 0 [] news := by
  have key : ∀ (j i : Nat) (ys : List Value), i + j = n → J i ys → CompRest prog w A h₀ L m env elt x scope cl s S P Fin j i ys news := by
    intro j
    induction j with
    | zero => intro i ys hi hy; exact CompRest.zero (fin ys (by rwa [show n = i by lia]))
    | succ j ih =>
      intro i ys hi hy
      refine CompRest.succ ?_
      intro v I oI C oC D m₂ h tk E' hv hC hx F N off ne
      refine wpAny_mono (turn i v ys I oI C oC D m₂ h tk E' (by lia) hv hy hC hx F N) (fun y s₂ hq => ?_) fun _ _ e => e
      refine ex3 hq fun h' tk' all hz3 => an5 hz3 fun e F' N' hsub hJ => ?_
      clear hz3
      try clear hq
      exact (exi3 h' tk' news ⟨e, F', fun p hp => N' p (hsub p hp), off, hS, ih (i + 1) _ (by lia) hJ⟩)
  exact key n 0 [] (by lia) h0
theorem restT_uni {ct elt : Expr} {x : Str} {scope : Scope} {cl : List (Str × Addr)} {S : List (Addr × Obj) → Prop} {P : Nat → Value → Prop} {Fin : List Value → List (Addr × Obj) → Prop} {n : Nat}
    (J : Nat → List Value → Prop) (hS : S news) (h0 : J 0 [])
    (turn : ∀ i v ys I oI C oC D m₂ h tk (E' : Value → Shared → Prop), i < n → P i v → J i ys → NsObj oC m₂ → m₂ x = some v → Fr h₀ L h m → News h₀ L h ((I, oI) :: (C, oC) :: (D, lst ys) :: news) →
      wpAny (model prog w) A (isTrue ct (compEnvC scope cl C env) (eval ct (compEnvC scope cl C env))) (fun ok s' => if ok = true then
        wpAny (model prog w) A (eval elt (compEnvC scope cl C env)) (EltEnd h₀ L m { s with heap := h, toks := tk } ((I, oI) :: (C, oC) :: (D, lst ys) :: news) (fun y => J (i + 1) (ys ++ [y]))) E' s'
        else EltEnd h₀ L m { s with heap := h, toks := tk } ((I, oI) :: (C, oC) :: (D, lst ys) :: news) (fun _ => J (i + 1) ys) .none s') E' { s with heap := h, toks := tk })
    (fin : ∀ ys, J n ys → Fin ys news) : CompRestT prog w A h₀ L m env ct elt x scope cl s S P Fin n 0 [] news := by
  have key : ∀ (j i : Nat) (ys : List Value), i + j = n → J i ys → CompRestT prog w A h₀ L m env ct elt x scope cl s S P Fin j i ys news := by
    intro j
    induction j with
    | zero => intro i ys hi hy; exact CompRestT.zero (fin ys (by rwa [show n = i by lia]))
    | succ j ih =>
      intro i ys hi hy
      refine CompRestT.succ ?_
      intro v I oI C oC D m₂ h tk E' hv hC hx F N off ne
      refine wpAny_mono (turn i v ys I oI C oC D m₂ h tk E' (by lia) hv hy hC hx F N) (fun ok s₂ hq => ?_) fun _ _ e => e
      cases ok with
      | true =>
        simp only [if_true] at hq ⊢
        refine wpAny_mono hq (fun y s₂ hq => ?_) fun _ _ e => e
        refine ex3 hq fun h' tk' all hz2 => an5 hz2 fun e F' N' hsub hJ => ?_
        clear hz2
        try clear hq
        exact (exi3 h' tk' news ⟨e, F', fun p hp => N' p (hsub p hp), off, hS, ih (i + 1) _ (by lia) hJ⟩)
      | false =>
        simp only [Bool.false_eq_true, if_false] at hq ⊢
        refine ex3 hq fun h' tk' all hz1 => an5 hz1 fun e F' N' hsub hJ => ?_
        clear hz1
        try clear hq
        exact (exi3 h' tk' news ⟨e, F', fun p hp => N' p (hsub p hp), off, hS, ih (i + 1) _ (by lia) hJ⟩)
  exact key n 0 [] (by lia) h0
end
end Mine
end

section
open PySem PySem.W PyProof.Rows PySem.Calls
namespace Mine
section
variable {prog : Program} {w : World} {A : Around} {s : Shared} {E : Value → Shared → Prop} {env : Env} {h₀ : Heap} {m : Str → Option Value} {news : List (Addr × Obj)}
theorem for_listI {x : Str} {px : Pos} {body : List Stmt} {ax : Addr} {items : Array Value} {Q : Flow → Shared → Prop}
    (hh : A.handled = none) (hx : env.kindOf x = some .local)
    (hp : (env.scope.kind == .class || (env.scope.kind == .module && env.locals != env.globals)) = false)
    (hl : s.heap.IsList ax items) (hax : ax ≠ env.locals)
    (F : Fr h₀ env.locals s.heap m) (N : News h₀ env.locals s.heap news)
    (J : Nat → (Str → Option Value) → List (Addr × Obj) → Prop) (h0 : J 0 m news)
    (hJI : ∀ i m₁ news₁, J i m₁ news₁ → ∀ p ∈ news₁, p.1 ≠ s.heap.objs.size)
    (hfp : (∃ o, h₀.get? ax = some o) ∨ (∃ o, ∀ i m₁ news₁, J i m₁ news₁ → (ax, o) ∈ news₁))
    (step : ∀ I, I = s.heap.objs.size → ∀ i v m₁ news₁ h₁ tk₁ oI, i < items.size → items[i]? = some v → J i m₁ news₁ → Fr h₀ env.locals h₁ (upd m₁ x v) → News h₀ env.locals h₁ ((I, oI) :: news₁) →
      wpAny (model prog w) A (execs body env) (TurnEnd h₀ env.locals [(I, oI)] (J (i + 1)) s Q) (fun _ _ => False) { s with heap := h₁, toks := tk₁ })
    (hQ : ∀ h' tk m' news', Fr h₀ env.locals h' m' → News h₀ env.locals h' news' → J items.size m' news' → Q .next { s with heap := h', toks := tk }) :
    wpAny (model prog w) A (pyIter (.ref ax)) (fun it s₂ => codeAny (model prog w) A (.forLoop (.Name x px) it body [] env)
      (fun r s' => match r with | .ok f => Q f s' | .error e => cameBackBy (model prog w) A env E e s') s₂) E s :=
  for_list hh hx hp hl hax F N J h0 hJI hfp (step _ rfl) hQ
theorem for_bytesI {x : Str} {px : Pos} {body : List Stmt} {b : Array UInt8} {tb : Tok} {Q : Flow → Shared → Prop}
    (hh : A.handled = none) (hx : env.kindOf x = some .local)
    (hp : (env.scope.kind == .class || (env.scope.kind == .module && env.locals != env.globals)) = false)
    (F : Fr h₀ env.locals s.heap m) (N : News h₀ env.locals s.heap news)
    (J : Nat → (Str → Option Value) → List (Addr × Obj) → Prop) (h0 : J 0 m news)
    (hJI : ∀ i m₁ news₁, J i m₁ news₁ → ∀ p ∈ news₁, p.1 ≠ s.heap.objs.size)
    (step : ∀ I, I = s.heap.objs.size → ∀ i c u m₁ news₁ h₁ tk₁ oI, i < b.size → b[i]? = some c → J i m₁ news₁ → Fr h₀ env.locals h₁ (upd m₁ x (.int (c.toNat : Int) u)) → News h₀ env.locals h₁ ((I, oI) :: news₁) →
      wpAny (model prog w) A (execs body env) (TurnEnd h₀ env.locals [(I, oI)] (J (i + 1)) s Q) (fun _ _ => False) { s with heap := h₁, toks := tk₁ })
    (hQ : ∀ h' tk m' news', Fr h₀ env.locals h' m' → News h₀ env.locals h' news' → J b.size m' news' → Q .next { s with heap := h', toks := tk }) :
    wpAny (model prog w) A (pyIter (.bytes b tb)) (fun it s₂ => codeAny (model prog w) A (.forLoop (.Name x px) it body [] env)
      (fun r s' => match r with | .ok f => Q f s' | .error e => cameBackBy (model prog w) A env E e s') s₂) E s :=
  for_bytes hh hx hp F N J h0 hJI (step _ rfl) hQ
theorem for_rangeI {x : Str} {px : Pos} {body : List Stmt} {r : Addr} {b : Int} {t u v : Tok} {n : Nat} {Q : Flow → Shared → Prop}
    (hh : A.handled = none) (hx : env.kindOf x = some .local)
    (hp : (env.scope.kind == .class || (env.scope.kind == .module && env.locals != env.globals)) = false)
    (hr : IsRange s.heap r 0 b 1 t u v) (hsmall : Builtin.Range.small 0 b 1 = true) (hn : Builtin.Range.rangeSize 0 b 1 = (n : Int))
    (F : Fr h₀ env.locals s.heap m) (N : News h₀ env.locals s.heap news)
    (J : Nat → (Str → Option Value) → List (Addr × Obj) → Prop) (h0 : J 0 m news)
    (hJI : ∀ i m₁ news₁, J i m₁ news₁ → ∀ p ∈ news₁, p.1 ≠ s.heap.objs.size)
    (step : ∀ I, I = s.heap.objs.size → ∀ i tv m₁ news₁ h₁ tk₁ oI, i < n → J i m₁ news₁ → Fr h₀ env.locals h₁ (upd m₁ x (.int (i : Int) tv)) → News h₀ env.locals h₁ ((I, oI) :: news₁) →
      wpAny (model prog w) A (execs body env) (TurnEnd h₀ env.locals [(I, oI)] (J (i + 1)) s Q) (fun _ _ => False) { s with heap := h₁, toks := tk₁ })
    (hQ : ∀ h' tk m' news', Fr h₀ env.locals h' m' → News h₀ env.locals h' news' → J n m' news' → Q .next { s with heap := h', toks := tk }) :
    wpAny (model prog w) A (pyIter (.ref r)) (fun it s₂ => codeAny (model prog w) A (.forLoop (.Name x px) it body [] env)
      (fun r s' => match r with | .ok f => Q f s' | .error e => cameBackBy (model prog w) A env E e s') s₂) E s :=
  for_range hh hx hp hr hsmall hn F N J h0 hJI (fun i tv m₁ news₁ h₁ tk₁ oI hi hJ F₁ N₁ => step _ rfl i tv m₁ news₁ h₁ tk₁ oI hi hJ (by rw [Int.zero_add, Int.mul_one] at F₁; exact F₁) N₁) hQ
end
end Mine
end

section
open PySem PySem.W PyProof.Rows PySem.Calls
namespace Mine
section
variable {prog : Program} {w : World} {A : Around} {s : Shared} {E : Value → Shared → Prop} {env : Env} {h₀ : Heap} {m : Str → Option Value} {news : List (Addr × Obj)}
/-- a while turn's end: the measure falls, or it is left -/
noncomputable def WhileEnd (h₀ : Heap) (L : Addr) (J : Nat → (Str → Option Value) → List (Addr × Obj) → Prop) (n : Nat) (s : Shared) (Q : Flow → Shared → Prop) (f : Flow) (s₃ : Shared) : Prop :=
  match f with
  | .ret v => Q (.ret v) s₃
  | .brk => Q .next s₃
  | _ => ∃ n' h' tk m₂ news₂, n' < n ∧ s₃ = { s with heap := h', toks := tk } ∧ Fr h₀ L h' m₂ ∧ News h₀ L h' news₂ ∧ J n' m₂ news₂
theorem WhileEnd.go {L : Addr} {J : Nat → (Str → Option Value) → List (Addr × Obj) → Prop} {n n' : Nat} {Q : Flow → Shared → Prop} {h' : Heap} {tk : Nat} (hn : n' < n) (F : Fr h₀ L h' m) (N : News h₀ L h' news) (j : J n' m news) :
    WhileEnd h₀ L J n s Q .next { s with heap := h', toks := tk } := ⟨n', h', tk, m, news, hn, rfl, F, N, j⟩
theorem WhileEnd.cont {L : Addr} {J : Nat → (Str → Option Value) → List (Addr × Obj) → Prop} {n n' : Nat} {Q : Flow → Shared → Prop} {h' : Heap} {tk : Nat} (hn : n' < n) (F : Fr h₀ L h' m) (N : News h₀ L h' news) (j : J n' m news) :
    WhileEnd h₀ L J n s Q .cont { s with heap := h', toks := tk } := ⟨n', h', tk, m, news, hn, rfl, F, N, j⟩
theorem WhileEnd.ret {L : Addr} {J : Nat → (Str → Option Value) → List (Addr × Obj) → Prop} {n : Nat} {Q : Flow → Shared → Prop} {v : Value} {u : Shared} (h : Q (.ret v) u) : WhileEnd h₀ L J n s Q (.ret v) u := h
theorem WhileEnd.brk {L : Addr} {J : Nat → (Str → Option Value) → List (Addr × Obj) → Prop} {n : Nat} {Q : Flow → Shared → Prop} {u : Shared} (h : Q .next u) : WhileEnd h₀ L J n s Q .brk u := h
theorem while_walksE {test : Expr} {body : List Stmt} {pos : Pos} {Q : Flow → Shared → Prop} (F : Fr h₀ env.locals s.heap m) (N : News h₀ env.locals s.heap news)
    (J : Nat → (Str → Option Value) → List (Addr × Obj) → Prop) (n₀ : Nat) (h0 : J n₀ m news)
    (turn : ∀ n m₁ news₁ h₁ tk₁, J n m₁ news₁ → Fr h₀ env.locals h₁ m₁ → News h₀ env.locals h₁ news₁ →
      wpAny (model prog w) A (isTrue test env (eval test env)) (fun b s₂ => if b then wpAny (model prog w) A (execs body env) (WhileEnd h₀ env.locals J n s Q) (notedBy (model prog w) A env (cameBackBy (model prog w) A env E)) s₂ else Q .next s₂)
        (notedBy (model prog w) A env (cameBackBy (model prog w) A env E)) { s with heap := h₁, toks := tk₁ }) :
    wpAny (model prog w) A (exec (.While test body [] pos) env) Q E s := by
  refine wpAny_While (codeAny_whileLoop (fun n s' => ∃ h' tk m₂ news₂, s' = { s with heap := h', toks := tk } ∧ Fr h₀ env.locals h' m₂ ∧ News h₀ env.locals h' news₂ ∧ J n m₂ news₂) ?_ n₀ (exi4 s.heap s.toks m news ⟨rfl, F, N, h0⟩))
  intro n s' hz46
  refine ex4 hz46 fun h' tk m₂ news₂ hz251 => an4 hz251 fun he252 F₂ N₂ hJ => ?_
  clear hz251
  try clear hz46
  subst he252
  refine wpAny_mono (turn n m₂ news₂ h' tk hJ F₂ N₂) (fun b s₂ h₂ => ?_) fun _ _ e => e
  cases b with
  | true =>
    simp only [if_true] at h₂ ⊢
    refine wpAny_mono h₂ (fun f s₃ h₃ => ?_) fun _ _ e => e
    have go : (∃ n' h' tk m₂ news₂, n' < n ∧ s₃ = { s with heap := h', toks := tk } ∧ Fr h₀ env.locals h' m₂ ∧ News h₀ env.locals h' news₂ ∧ J n' m₂ news₂) →
        ∃ n', n' < n ∧ ∃ h' tk m₂ news₂, s₃ = { s with heap := h', toks := tk } ∧ Fr h₀ env.locals h' m₂ ∧ News h₀ env.locals h' news₂ ∧ J n' m₂ news₂ := by
      intro hz47
      refine ex5 hz47 fun n' h' tk m₂ news₂ hz250 => an5 hz250 fun hl e a b c => ?_
      clear hz250
      try clear hz47
      exact ⟨n', hl, exi4 h' tk m₂ news₂ ⟨e, a, b, c⟩⟩
    cases f with
    | next => exact go h₃
    | cont => exact go h₃
    | brk => exact h₃
    | ret v => exact h₃
  | false =>
    simp only [Bool.false_eq_true, if_false] at h₂ ⊢
    exact wpAny_execs_nil h₂
theorem while_walks {test : Expr} {body : List Stmt} {pos : Pos} {Q : Flow → Shared → Prop} (F : Fr h₀ env.locals s.heap m) (N : News h₀ env.locals s.heap news)
    (J : Nat → (Str → Option Value) → List (Addr × Obj) → Prop) (n₀ : Nat) (h0 : J n₀ m news)
    (turn : ∀ n m₁ news₁ h₁ tk₁, J n m₁ news₁ → Fr h₀ env.locals h₁ m₁ → News h₀ env.locals h₁ news₁ →
      wpAny (model prog w) A (isTrue test env (eval test env)) (fun b s₂ => if b then wpAny (model prog w) A (execs body env) (WhileEnd h₀ env.locals J n s Q) (fun _ _ => False) s₂ else Q .next s₂)
        (fun _ _ => False) { s with heap := h₁, toks := tk₁ }) :
    wpAny (model prog w) A (exec (.While test body [] pos) env) Q E s := by
  refine while_walksE F N J n₀ h0 fun n m₁ news₁ h₁ tk₁ a b c => wpAny_mono (turn n m₁ news₁ h₁ tk₁ a b c) (fun b s₂ h₂ => ?_) fun _ _ e => e.elim
  cases b with
  | true => exact wpAny_mono h₂ (fun _ _ x => x) fun _ _ e => e.elim
  | false => exact h₂
end
end Mine
end

section
/-! plain law, part 1: rows of boxes -/
namespace Mine
noncomputable def wy : Nat → Nat
  | 0 => 1
  | 1 => 256
  | 2 => 131072
  | 3 => 83886080
  | 4 => 60129542144
  | _ => 0
/-- the room of the rows whose first box holds k -/
noncomputable def room (c k : Nat) : Nat := 256 * wy k * wy (c - k)
noncomputable def upTo (c : Nat) : Nat → Nat
  | 0 => 0
  | k + 1 => upTo c k + room c k
noncomputable def pick (c : Nat) : Nat → Nat → Nat → Nat × Nat
  | 0, k, n => (k, n)
  | f + 1, k, n => if room c k ≤ n then pick c f (k + 1) (n - room c k) else (k, n)
noncomputable def bxs : Nat → Nat → Nat → List Nat
  | 0, _, _ => []
  | _ + 1, 0, _ => []
  | f + 1, c + 1, n => (1 + 2 * (pick c c 0 n).1) :: ((pick c c 0 n).2 / (wy (pick c c 0 n).1 * wy (c - (pick c c 0 n).1))) ::
      (bxs f (pick c c 0 n).1 ((pick c c 0 n).2 / wy (c - (pick c c 0 n).1) % wy (pick c c 0 n).1) ++ bxs f (c - (pick c c 0 n).1) ((pick c c 0 n).2 % wy (c - (pick c c 0 n).1)))
noncomputable def boxes (c n : Nat) : List Nat := bxs c c n
theorem upTo_all {c : Nat} (hc : c ≤ 3) : upTo c (c + 1) = wy (c + 1) := by
  have : c = 0 ∨ c = 1 ∨ c = 2 ∨ c = 3 := by lia
  rcases this with rfl | rfl | rfl | rfl <;> decide
theorem upTo_mono (c : Nat) {j k : Nat} (h : j ≤ k) : upTo c j ≤ upTo c k := by
  induction k with
  | zero => cases Nat.le_zero.mp h; exact Nat.le_refl _
  | succ k ih =>
    rcases Nat.lt_or_ge j (k + 1) with q | q
    · exact Nat.le_trans (ih (Nat.le_of_lt_succ q)) (Nat.le_add_right _ _)
    · rw [Nat.le_antisymm h q]; exact Nat.le_refl _
theorem pick_spec (c : Nat) : ∀ f k n, k + f = c → n + upTo c k < upTo c (c + 1) →
    k ≤ (pick c f k n).1 ∧ (pick c f k n).1 ≤ c ∧ (pick c f k n).2 < room c (pick c f k n).1 ∧ n + upTo c k = upTo c (pick c f k n).1 + (pick c f k n).2 := by
  intro f
  induction f with
  | zero =>
    intro k n hk hn
    obtain rfl : k = c := hk
    exact ⟨Nat.le_refl _, Nat.le_refl _, Nat.lt_of_add_lt_add_left (n := upTo k k) (by rw [Nat.add_comm]; exact hn), Nat.add_comm _ _⟩
  | succ f ih =>
    intro k n hk hn
    unfold pick
    split
    · rename_i hr
      have key : n - room c k + upTo c (k + 1) = n + upTo c k := by
        show n - room c k + (upTo c k + room c k) = _
        rw [Nat.add_comm (upTo c k), ← Nat.add_assoc, Nat.sub_add_cancel hr]
      exact an4 (ih (k + 1) (n - room c k) ((Nat.succ_add_eq_add_succ k f).trans hk) (by rw [key]; exact hn)) fun a b d e => ⟨Nat.le_of_succ_le a, b, d, key.symm.trans e⟩
    · rename_i hr
      exact ⟨Nat.le_refl _, hk ▸ Nat.le_add_right _ _, Nat.not_le.mp hr, Nat.add_comm _ _⟩
theorem pick0 {c n : Nat} (hc : c ≤ 3) (hn : n < wy (c + 1)) :
    (pick c c 0 n).1 ≤ c ∧ (pick c c 0 n).2 < room c (pick c c 0 n).1 ∧ n = upTo c (pick c c 0 n).1 + (pick c c 0 n).2 := by
  have := pick_spec c c 0 n (by lia) (by rw [upTo_all hc]; simpa [upTo] using hn)
  simp only [upTo, Nat.add_zero] at this
  exact this.2
theorem wy_pos {k : Nat} (h : k ≤ 4) : 0 < wy k := by
  have : k = 0 ∨ k = 1 ∨ k = 2 ∨ k = 3 ∨ k = 4 := by lia
  rcases this with rfl | rfl | rfl | rfl | rfl <;> decide
theorem pick_le (c n : Nat) : (pick c c 0 n).1 ≤ c := by
  have : ∀ g k m, k + g = c → (pick c g k m).1 ≤ c := by
    intro g
    induction g with
    | zero => intro k m h; exact Nat.le_of_eq h
    | succ g ihg =>
      intro k m h
      unfold pick
      split
      · exact ihg _ _ ((Nat.succ_add_eq_add_succ k g).trans h)
      · exact h ▸ Nat.le_add_right _ _
  exact this c 0 n (Nat.zero_add c)
theorem bxs_fuel : ∀ f c n, c ≤ f → bxs f c n = bxs c c n := by
  intro f
  induction f using Nat.strongRecOn with
  | ind f ih =>
    intro c n hc
    cases c with
    | zero => cases f <;> rfl
    | succ c =>
      cases f with
      | zero => cases hc
      | succ f =>
        simp only [bxs]
        have hk := pick_le c n
        have hcf := Nat.le_of_succ_le_succ hc
        have hkf := Nat.le_trans hk hcf
        have hs : c - (pick c c 0 n).1 ≤ c := Nat.sub_le _ _
        have ff := Nat.lt_succ_self f
        have cf := Nat.lt_succ_of_le hcf
        rw [ih f ff _ _ hkf, ih f ff _ _ (Nat.le_trans hs hcf)]
        by_cases hfc : f = c
        · subst hfc
          rw [ih f ff (pick f f 0 n).1 _ hkf, ih f ff (f - (pick f f 0 n).1) _ hs]
        · rw [ih c cf _ _ hk, ih c cf _ _ hs]
theorem boxes_zero (n : Nat) : boxes 0 n = [] := rfl
theorem boxes_succ (c n : Nat) : boxes (c + 1) n = (1 + 2 * (pick c c 0 n).1) :: ((pick c c 0 n).2 / (wy (pick c c 0 n).1 * wy (c - (pick c c 0 n).1))) ::
      (boxes (pick c c 0 n).1 ((pick c c 0 n).2 / wy (c - (pick c c 0 n).1) % wy (pick c c 0 n).1) ++ boxes (c - (pick c c 0 n).1) ((pick c c 0 n).2 % wy (c - (pick c c 0 n).1))) := by
  have := pick_le c n
  show bxs (c + 1) (c + 1) n = _
  simp only [bxs, boxes]
  rw [bxs_fuel c _ _ this, bxs_fuel c (c - (pick c c 0 n).1) _ (Nat.sub_le _ _)]
theorem boxes_len (c : Nat) : ∀ n, (boxes c n).length = 2 * c := by
  induction c using Nat.strongRecOn with
  | ind c ih =>
    intro n
    cases c with
    | zero => rfl
    | succ c =>
      rw [boxes_succ]
      have := pick_le c n
      simp only [List.length_cons, List.length_append]
      rw [ih _ (Nat.lt_succ_of_le this), ih _ (Nat.lt_succ_of_le (Nat.sub_le _ _)), ← Nat.mul_add, Nat.add_sub_cancel' this]
      rfl
theorem boxes_lt (c : Nat) : ∀ n, c ≤ 4 → n < wy c → ∀ x ∈ boxes c n, x < 256 := by
  induction c using Nat.strongRecOn with
  | ind c ih =>
    intro n hc hn x hx
    cases c with
    | zero => cases hx
    | succ c =>
      have hc4 := Nat.le_of_succ_le hc
      refine an3 (pick0 (Nat.le_of_succ_le_succ hc) hn) fun h1 h2 h3 => ?_
      rw [boxes_succ] at hx
      have k4 := Nat.le_trans h1 hc4
      have s4 := Nat.le_trans (Nat.sub_le c (pick c c 0 n).1) hc4
      have w1 := wy_pos k4
      have w2 := wy_pos s4
      rcases List.mem_cons.mp hx with rfl | hx
      · lia
      rcases List.mem_cons.mp hx with rfl | hx
      · rw [Nat.div_lt_iff_lt_mul (Nat.mul_pos w1 w2)]
        unfold room at h2
        rw [← Nat.mul_assoc]; exact h2
      rcases List.mem_append.mp hx with hx | hx
      · exact ih _ (Nat.lt_succ_of_le h1) _ k4 (Nat.mod_lt _ w1) x hx
      · exact ih _ (Nat.lt_succ_of_le (Nat.sub_le _ _)) _ s4 (Nat.mod_lt _ w2) x hx
/-- the first unlike octet decides, then the length -/
noncomputable def cmpL : List Nat → List Nat → Ordering
  | [], [] => .eq
  | [], _ :: _ => .lt
  | _ :: _, [] => .gt
  | x :: xs, y :: ys => if x < y then .lt else if x > y then .gt else cmpL xs ys
theorem cmpL_self : ∀ l, cmpL l l = .eq
  | [] => rfl
  | x :: l => by simp [cmpL, cmpL_self l]
theorem cmpL_swap : ∀ a b, cmpL b a = (cmpL a b).swap
  | [], [] => rfl
  | [], _ :: _ => rfl
  | _ :: _, [] => rfl
  | x :: xs, y :: ys => by
    unfold cmpL
    have := cmpL_swap xs ys
    by_cases h1 : x < y
    · have h2 : ¬ y < x := Nat.lt_asymm h1
      simp [h1, h2]
    · by_cases h2 : y < x
      · simp [h1, h2]
      · simp [h1, h2, this]
theorem cmpL_cons (x : Nat) (a b : List Nat) : cmpL (x :: a) (x :: b) = cmpL a b := by simp [cmpL]
theorem cmpL_append : ∀ {a b : List Nat} (x y : List Nat), a.length = b.length → cmpL a b = .lt → cmpL (a ++ x) (b ++ y) = .lt
  | [], [], _, _, _, h => by cases h
  | [], _ :: _, _, _, hl, _ => by simp at hl
  | _ :: _, [], _, _, hl, _ => by simp at hl
  | p :: a, q :: b, x, y, hl, h => by
    simp only [List.cons_append]
    unfold cmpL at h ⊢
    by_cases h1 : p < q
    · simp [h1]
    · by_cases h2 : p > q
      · simp [h1, h2] at h
      · simp only [h1, h2, if_false] at h ⊢
        exact cmpL_append x y (by simpa using hl) h
theorem cmpL_app_same (p a b : List Nat) : cmpL (p ++ a) (p ++ b) = cmpL a b := by
  induction p with
  | nil => rfl
  | cons x p ih => rw [List.cons_append, List.cons_append, cmpL_cons, ih]
theorem boxes_mono (c : Nat) : ∀ n m, c ≤ 4 → n < m → m < wy c → cmpL (boxes c n) (boxes c m) = .lt := by
  induction c using Nat.strongRecOn with
  | ind c ih =>
    intro n m hc hnm hm
    cases c with
    | zero => exact absurd (Nat.lt_of_lt_of_le hnm (Nat.le_of_lt_succ hm)) (Nat.not_lt_zero _)
    | succ c =>
      have hc4 := Nat.le_of_succ_le hc
      refine an3 (pick0 (c := c) (n := n) (Nat.le_of_succ_le_succ hc) (Nat.lt_trans hnm hm)) fun a1 a2 a3 => ?_
      refine an3 (pick0 (c := c) (n := m) (Nat.le_of_succ_le_succ hc) hm) fun b1 b2 b3 => ?_
      rw [boxes_succ, boxes_succ]
      generalize (pick c c 0 n).1 = k at *
      generalize (pick c c 0 n).2 = u at *
      generalize (pick c c 0 m).1 = l at *
      generalize (pick c c 0 m).2 = v at *
      have hkl : k ≤ l := by
        rcases Nat.lt_or_ge l k with q | q
        · exact absurd hnm (Nat.not_lt.mpr (by rw [a3, b3]; exact Nat.le_trans (Nat.add_le_add_left (Nat.le_of_lt b2) _) (Nat.le_trans (upTo_mono c (j := l + 1) (k := k) q) (Nat.le_add_right _ _))))
        · exact q
      unfold cmpL
      rcases Nat.lt_or_ge k l with q | q
      · rw [if_pos (Nat.add_lt_add_left ((Nat.mul_lt_mul_left (by decide : 0 < 2)).mpr q) 1)]
      have : l = k := Nat.le_antisymm q hkl
      subst this
      rw [if_neg (Nat.lt_irrefl _), if_neg (Nat.lt_irrefl _)]
      have huv : u < v := Nat.lt_of_add_lt_add_left (n := upTo c l) (by rw [← a3, ← b3]; exact hnm)
      have l4 := Nat.le_trans b1 hc4
      have s4 := Nat.le_trans (Nat.sub_le c l) hc4
      have w1 := wy_pos l4
      have w2 := wy_pos s4
      generalize hW : wy (c - l) = W at *
      generalize hX : wy l = X at *
      unfold cmpL
      rw [show u / (X * W) = u / W / X from by rw [Nat.div_div_eq_div_mul, Nat.mul_comm], show v / (X * W) = v / W / X from by rw [Nat.div_div_eq_div_mul, Nat.mul_comm]]
      have hq : u / W ≤ v / W := Nat.div_le_div_right (Nat.le_of_lt huv)
      have hs : u / W / X ≤ v / W / X := Nat.div_le_div_right hq
      rcases Nat.lt_or_ge (u / W / X) (v / W / X) with q1 | q1
      · rw [if_pos q1]
      rw [if_neg (Nat.not_lt.mpr q1), if_neg (Nat.not_lt.mpr hs)]
      have d1 := Nat.div_add_mod (u / W) X
      have d2 := Nat.div_add_mod (v / W) X
      rw [Nat.le_antisymm hs q1] at d1
      rcases Nat.lt_or_ge (u / W % X) (v / W % X) with q2 | q2
      · exact cmpL_append _ _ (by rw [boxes_len, boxes_len]) (ih l (Nat.lt_succ_of_le b1) _ _ l4 q2 (by rw [hX]; exact Nat.mod_lt _ w1))
      have e2 : u / W % X = v / W % X := Nat.le_antisymm (Nat.le_of_add_le_add_left (a := X * (v / W / X)) (by rw [d1, d2]; exact hq)) q2
      have e3 : u / W = v / W := by rw [← d1, e2, d2]
      rw [e2, cmpL_app_same]
      have d3 := Nat.div_add_mod u W
      have d4 := Nat.div_add_mod v W
      rw [e3] at d3
      exact ih (c - l) (Nat.lt_succ_of_le (Nat.sub_le _ _)) _ _ s4 (Nat.lt_of_add_lt_add_left (n := W * (v / W)) (by rw [d3, d4]; exact huv)) (by rw [hW]; exact Nat.mod_lt _ w2)
/-- all shelves: how many boxes, and the place among the rows of so many -/
noncomputable def shelf : Nat → Nat → Nat → Nat × Nat
  | 0, c, n => (c, n)
  | f + 1, c, n => if wy c ≤ n then shelf f (c + 1) (n - wy c) else (c, n)
noncomputable def octs (n : Nat) : List Nat := (2 * (shelf 4 0 n).1) :: boxes (shelf 4 0 n).1 (shelf 4 0 n).2
noncomputable def most : Nat := 60213559553
noncomputable def base : Nat → Nat
  | 0 => 0
  | c + 1 => base c + wy c
theorem shelf_spec {n : Nat} (hn : n < most) : (shelf 4 0 n).1 ≤ 4 ∧ (shelf 4 0 n).2 < wy (shelf 4 0 n).1 ∧ n = base (shelf 4 0 n).1 + (shelf 4 0 n).2 := by
  have step : ∀ f c m, c + f = 4 → m + base c < most → c ≤ (shelf f c m).1 ∧ (shelf f c m).1 ≤ 4 ∧ (shelf f c m).2 < wy (shelf f c m).1 ∧ m + base c = base (shelf f c m).1 + (shelf f c m).2 := by
    intro f
    induction f with
    | zero =>
      intro c m hc hm
      obtain rfl : c = 4 := hc
      exact ⟨Nat.le_refl _, Nat.le_refl _, Nat.lt_of_add_lt_add_left (n := base 4) (by show base 4 + m < base 4 + wy 4; rw [Nat.add_comm, show base 4 + wy 4 = most by decide]; exact hm), Nat.add_comm _ _⟩
    | succ f ih =>
      intro c m hc hm
      unfold shelf
      split
      · rename_i hr
        have key : m - wy c + base (c + 1) = m + base c := by
          show m - wy c + (base c + wy c) = _
          rw [Nat.add_comm (base c), ← Nat.add_assoc, Nat.sub_add_cancel hr]
        exact an4 (ih (c + 1) (m - wy c) ((Nat.succ_add_eq_add_succ c f).trans hc) (by rw [key]; exact hm)) fun a b d e => ⟨Nat.le_of_succ_le a, b, d, key.symm.trans e⟩
      · rename_i hr
        exact ⟨Nat.le_refl _, hc ▸ Nat.le_add_right _ _, Nat.not_le.mp hr, Nat.add_comm _ _⟩
  have := step 4 0 n rfl (by simpa [base] using hn)
  simp only [base, Nat.add_zero] at this
  exact this.2
theorem base_mono {j k : Nat} (h : j ≤ k) : base j ≤ base k := by
  induction k with
  | zero => cases Nat.le_zero.mp h; exact Nat.le_refl _
  | succ k ih =>
    rcases Nat.lt_or_ge j (k + 1) with q | q
    · exact Nat.le_trans (ih (Nat.le_of_lt_succ q)) (Nat.le_add_right _ _)
    · rw [Nat.le_antisymm h q]; exact Nat.le_refl _
theorem octs_mono {n m : Nat} (hnm : n < m) (hm : m < most) : cmpL (octs n) (octs m) = .lt := by
  refine an3 (shelf_spec (n := n) (Nat.lt_trans hnm hm)) fun a1 a2 a3 => ?_
  refine an3 (shelf_spec hm) fun b1 b2 b3 => ?_
  unfold octs
  generalize (shelf 4 0 n).1 = k at *
  generalize (shelf 4 0 n).2 = u at *
  generalize (shelf 4 0 m).1 = l at *
  generalize (shelf 4 0 m).2 = v at *
  have hkl : k ≤ l := by
    rcases Nat.lt_or_ge l k with q | q
    · exact absurd hnm (Nat.not_lt.mpr (by rw [a3, b3]; exact Nat.le_trans (Nat.add_le_add_left (Nat.le_of_lt b2) _) (Nat.le_trans (base_mono (j := l + 1) (k := k) q) (Nat.le_add_right _ _))))
    · exact q
  unfold cmpL
  rcases Nat.lt_or_ge k l with q | q
  · rw [if_pos ((Nat.mul_lt_mul_left (by decide : 0 < 2)).mpr q)]
  have : l = k := Nat.le_antisymm q hkl
  subst this
  rw [if_neg (Nat.lt_irrefl _), if_neg (Nat.lt_irrefl _)]
  exact boxes_mono l u v b1 (Nat.lt_of_add_lt_add_left (n := base l) (by rw [← a3, ← b3]; exact hnm)) b2
theorem octs_cmp {n m : Nat} (hn : n < most) (hm : m < most) : cmpL (octs n) (octs m) = compare n m := by
  rcases Nat.lt_trichotomy n m with h | rfl | h
  · rw [octs_mono h hm, Nat.compare_eq_lt.mpr h]
  · rw [cmpL_self, Nat.compare_eq_eq.mpr rfl]
  · rw [cmpL_swap, octs_mono h hn, Nat.compare_eq_gt.mpr h]; rfl
theorem octs_lt {n : Nat} (hn : n < most) : ∀ x ∈ octs n, x < 256 := by
  refine an3 (shelf_spec hn) fun a1 a2 a3 => ?_
  intro x hx
  rcases List.mem_cons.mp hx with rfl | hx
  · lia
  · exact boxes_lt _ _ a1 a2 x hx
theorem octs_len {n : Nat} (hn : n < most) : (octs n).length ≤ 9 := by
  refine an3 (shelf_spec hn) fun a1 a2 a3 => ?_
  unfold octs
  rw [List.length_cons, boxes_len]; lia
end Mine
end

section
/-! plain law, part 2: sextets -/
namespace Mine
/-- the sextets of octets: phase (octets held over), the last octet -/
noncomputable def em : Nat → Nat → List Nat → List Nat
  | 0, _, [] => []
  | 0, _, x :: r => x / 4 :: em 1 x r
  | 1, p, [] => [p % 4 * 16]
  | 1, p, x :: r => (p % 4 * 16 + x / 16) :: em 2 x r
  | _, p, [] => [p % 16 * 4]
  | _, p, x :: r => (p % 16 * 4 + x / 64) :: x % 64 :: em 0 x r
noncomputable def pads : Nat → Nat
  | 0 => 0
  | 1 => 2
  | _ => 1
noncomputable def innr (v : Nat) : Nat → List Nat
  | 12 => [v / 64 % 64, v % 64]
  | 10 => [v / 16 % 64]
  | 8 => [v / 4 % 64]
  | 6 => [v % 64]
  | _ => []
theorem innr_ge {v lb : Nat} (h : lb = 6 ∨ lb = 8 ∨ lb = 10 ∨ lb = 12) : innr v lb = v / 2 ^ (lb - 6) % 64 :: innr v (lb - 6) := by
  rcases h with rfl | rfl | rfl | rfl <;> simp [innr]
theorem innr_lt {v lb : Nat} (h : lb < 6) : innr v lb = [] := by
  unfold innr; split <;> first | omega | rfl
theorem hi16 {lc x : Nat} (hx : x < 256) : (lc * 256 + x) % 65536 = x + 256 * (lc % 256) := by
  rw [show 65536 = 256 * 256 from rfl, Nat.mod_mul, Nat.mul_add_mod', Nat.mod_eq_of_lt hx, Nat.add_comm (lc * 256) x, Nat.add_mul_div_right _ _ (by decide), Nat.div_eq_of_lt hx, Nat.zero_add]
theorem six0 {q x : Nat} (hx : x < 256) : (x + 256 * q) / 4 % 64 = x / 4 := by
  rw [show 256 * q = 4 * (64 * q) by rw [← Nat.mul_assoc], Nat.add_mul_div_left _ _ (by decide), Nat.add_mul_mod_self_left, Nat.mod_eq_of_lt (Nat.div_lt_of_lt_mul hx)]
theorem six1 {q x : Nat} (hx : x < 256) : (x + 256 * q) / 16 % 64 = q % 4 * 16 + x / 16 := by
  rw [show 256 * q = 16 * (16 * q) by rw [← Nat.mul_assoc], Nat.add_mul_div_left _ _ (by decide), show 64 = 16 * 4 from rfl, Nat.mod_mul, Nat.add_mul_mod_self_left, Nat.add_mul_div_left _ _ (by decide),
    Nat.mod_eq_of_lt (show x / 16 < 16 from Nat.div_lt_of_lt_mul hx), Nat.div_eq_of_lt (show x / 16 < 16 from Nat.div_lt_of_lt_mul hx), Nat.zero_add, Nat.add_comm, Nat.mul_comm]
theorem six2 {q x : Nat} (hx : x < 256) : (x + 256 * q) / 64 % 64 = q % 16 * 4 + x / 64 := by
  rw [show 256 * q = 64 * (4 * q) by rw [← Nat.mul_assoc], Nat.add_mul_div_left _ _ (by decide), show 64 = 4 * 16 from rfl, Nat.mod_mul, Nat.add_mul_mod_self_left, Nat.add_mul_div_left _ _ (by decide),
    Nat.mod_eq_of_lt (show x / (4 * 16) < 4 from Nat.div_lt_of_lt_mul hx), Nat.div_eq_of_lt (show x / (4 * 16) < 4 from Nat.div_lt_of_lt_mul hx), Nat.zero_add, Nat.add_comm, Nat.mul_comm]
theorem six3 {q x : Nat} : (x + 256 * q) % 64 = x % 64 := by
  rw [show 256 * q = 64 * (4 * q) by rw [← Nat.mul_assoc], Nat.add_mul_mod_self_left]
theorem em_step {ph p x lc : Nat} {r : List Nat} (hph : ph ≤ 2) (hp : ph = 0 ∨ lc % 256 = p) (hx : x < 256) :
    em ph p (x :: r) = innr ((lc * 256 + x) % 65536) (2 * ph + 8) ++ em ((2 * ph + 8) % 6 / 2) x r := by
  rw [hi16 hx]
  match ph, hph, hp with
  | 0, _, _ => show _ = (x + 256 * (lc % 256)) / 4 % 64 :: em 1 x r; rw [six0 hx]; rfl
  | 1, _, .inr e => show _ = (x + 256 * (lc % 256)) / 16 % 64 :: em 2 x r; rw [six1 hx, e]; rfl
  | 2, _, .inr e => show _ = (x + 256 * (lc % 256)) / 64 % 64 :: (x + 256 * (lc % 256)) % 64 :: em 0 x r; rw [six2 hx, six3, e]; rfl
theorem lo4 (p : Nat) : p % 4 * 16 ≤ 48 := Nat.mul_le_mul_right 16 (Nat.le_of_lt_succ (Nat.mod_lt p (by decide : 0 < 4)))
theorem lo16 (p : Nat) : p % 16 * 4 ≤ 60 := Nat.mul_le_mul_right 4 (Nat.le_of_lt_succ (Nat.mod_lt p (by decide : 0 < 16)))
theorem em_lt : ∀ (l : List Nat) (ph p : Nat), (∀ x ∈ l, x < 256) → p < 256 → ∀ y ∈ em ph p l, y < 64
  | [], ph, p, _, hp, y, hy => by
    match ph with
    | 0 => cases hy
    | 1 => rw [List.mem_singleton.mp hy]; exact Nat.lt_of_le_of_lt (lo4 p) (by decide)
    | n + 2 => rw [List.mem_singleton.mp hy]; exact Nat.lt_of_le_of_lt (lo16 p) (by decide)
  | x :: r, ph, p, h, hp, y, hy => by
    have hx := h x (.head _)
    have hr : ∀ x ∈ r, x < 256 := fun z hz => h z (.tail _ hz)
    match ph with
    | 0 =>
      rcases List.mem_cons.mp hy with rfl | hy
      · exact Nat.div_lt_of_lt_mul hx
      · exact em_lt r 1 x hr hx y hy
    | 1 =>
      rcases List.mem_cons.mp hy with rfl | hy
      · exact Nat.add_lt_add_of_le_of_lt (lo4 p) (Nat.div_lt_of_lt_mul hx : x / 16 < 16)
      · exact em_lt r 2 x hr hx y hy
    | n + 2 =>
      rcases List.mem_cons.mp hy with rfl | hy
      · exact Nat.add_lt_add_of_le_of_lt (lo16 p) (Nat.div_lt_of_lt_mul hx : x / 64 < 4)
      rcases List.mem_cons.mp hy with rfl | hy
      · exact Nat.mod_lt _ (by decide)
      · exact em_lt r 0 x hr hx y hy
/-- the sextets told of octets -/
noncomputable def sext (l : List Nat) : List Nat := em 0 0 l
end Mine
namespace Mine
theorem em_len : ∀ (l : List Nat) (ph p : Nat), (em ph p l).length ≤ 2 * l.length + 1
  | [], ph, p => by
    match ph with
    | 0 => simp [em]
    | 1 => simp [em]
    | n + 2 => simp [em]
  | x :: r, ph, p => by
    match ph with
    | 0 => have := em_len r 1 x; simp only [em, List.length_cons]; omega
    | 1 => have := em_len r 2 x; simp only [em, List.length_cons]; omega
    | n + 2 => have := em_len r 0 x; simp only [em, List.length_cons]; omega
theorem innr_len (v lb : Nat) : (innr v lb).length ≤ 2 := by unfold innr; split <;> simp
end Mine
end

section
open PySem PySem.W PyProof.Rows PySem.Calls Builtin
namespace Mine
/-- the small hexadecimal digits of bytes -/
noncomputable def hexCps (b : Array UInt8) : Array Nat := b.toList.zipIdx.foldl (fun (out : Array Nat) (x : UInt8 × Nat) => (out.push (Bytes.hexDigit (x.1.toNat / 16))).push (Bytes.hexDigit (x.1.toNat % 16))) #[]
theorem hex_eq (b : Array UInt8) (t : Tok) : «bytes.hex» ⟨[.bytes b t], []⟩ = (Made.str ⟨hexCps b⟩).tree := by kernel_rfl
theorem upper_eq (b : Array UInt8) (t : Tok) : «bytes.upper» ⟨[.bytes b t], []⟩ = (Made.bytes (b.toList.map Bytes.toUpper).toArray).tree := by kernel_rfl
theorem encode_eq (x : PySem.Str) (t u : Tok) : «str.encode» ⟨[.str x t, .str (PySem.Str.ofString "ascii") u], []⟩ = (do ret (← _codecs.encodeRoad "str.encode" (.str x t) x (PySem.Str.ofString "ascii") none)) := by kernel_rfl
open Builtin._codecs in
theorem road_ascii (id : String) (self : Value) (x : PySem.Str) : encodeRoad id self x (PySem.Str.ofString "ascii") none = (do mkBytes (← encodeNarrow id asciiCodec none self x)) := by kernel_rfl
theorem forIn_two {β : Type} (n : Nat) (f : Nat → β → Sem (ForInStep β)) (s0 s1 : β) (h0 : f 0 s0 = pure (.yield s1)) (h1 : ∀ j, f j s1 = pure (.done s1)) (hn : 0 < n) : forIn [:n] s0 f = pure s1 := by
  rw [Std.Legacy.Range.forIn_eq_forIn_range']
  simp only [Std.Legacy.Range.size, Nat.sub_zero, Nat.add_sub_cancel, Nat.div_one]
  obtain ⟨k, rfl⟩ : ∃ k, n = k + 1 := ⟨n - 1, by lia⟩
  rw [List.range'_succ, List.forIn_cons, h0, pure_bind]
  dsimp only
  cases k with
  | zero => rfl
  | succ k =>
    rw [List.range'_succ, List.forIn_cons, h1, pure_bind]
open Builtin._codecs in
theorem narrow_ascii (id : String) (self : Value) (x : PySem.Str) (h : ∀ c ∈ x.cps.toList, c < 128) (hn : 0 < x.length) (hz : x.length ≤ 10000) : encodeNarrow id asciiCodec none self x = pure (x.cps.map fun c => c.toUInt8) := by
  have hbad : ∀ c ∈ x.cps.toList, asciiCodec.bad c = false := fun c hc => by have := h c hc; show decide (c ≥ 128) = false; simp; lia
  have hf : (x.cps.extract 0 x.cps.size).findIdx? asciiCodec.bad = none := by
    rw [Array.findIdx?_eq_none_iff]
    intro c hc
    exact hbad c (by simpa using hc)
  have hfold : ∀ (l : List Nat) (acc : Array UInt8), l.foldl (fun acc y => acc ++ (asciiCodec.bytesOf y).toArray) acc = acc ++ (l.map fun c => c.toUInt8).toArray := by
    intro l
    induction l with
    | nil => intro acc; simp
    | cons a l ih => intro acc; rw [List.foldl_cons, ih]; simp [asciiCodec]
  unfold encodeNarrow
  dsimp only
  rw [forIn_two (s1 := (x.length, x.cps.map fun c => c.toUInt8, {}))]
  · rfl
  · dsimp only
    have hn' : 0 < x.cps.size := hn
    have hx0 : x.cps[0]? = some (x.cps[0]'hn') := Array.getElem?_eq_getElem hn'
    rw [if_neg (by rw [sizeLine_eq]; decide), hx0]
    dsimp only
    have hb : asciiCodec.bad (x.cps[0]'hn') = false := hbad _ (by simp)
    rw [if_pos (by rw [hb]; rfl), hf]
    simp only [Option.getD_none, Nat.zero_add, Array.extract_size]
    rw [← Array.foldl_toList, hfold]
    congr 4
    apply Array.ext'
    simp
  · intro j
    dsimp only
    have hx0 : x.cps[x.length]? = none := Array.getElem?_eq_none (Nat.le_refl _)
    rw [if_neg (by rw [Array.size_map, sizeLine_eq]; have : x.cps.size = x.length := rfl; lia), hx0]
  · exact hn
theorem hexCps_list (b : Array UInt8) : (hexCps b).toList = b.toList.flatMap fun c => [Bytes.hexDigit (c.toNat / 16), Bytes.hexDigit (c.toNat % 16)] := by
  have key : ∀ (l : List UInt8) (i : Nat) (out : Array Nat), ((l.zipIdx i).foldl (fun (out : Array Nat) (x : UInt8 × Nat) => (out.push (Bytes.hexDigit (x.1.toNat / 16))).push (Bytes.hexDigit (x.1.toNat % 16))) out).toList = out.toList ++ l.flatMap fun c => [Bytes.hexDigit (c.toNat / 16), Bytes.hexDigit (c.toNat % 16)] := by
    intro l
    induction l with
    | nil => intro i out; simp
    | cons a l ih => intro i out; rw [List.zipIdx_cons, List.foldl_cons, ih]; simp
  unfold hexCps
  rw [key]; simp
theorem hexDigit_lt {n : Nat} (h : n < 16) : Bytes.hexDigit n < 128 := by unfold Bytes.hexDigit; split <;> lia
theorem hexCps_lt (b : Array UInt8) : ∀ c ∈ (hexCps b).toList, c < 128 := by
  intro c hc
  rw [hexCps_list, List.mem_flatMap] at hc
  obtain ⟨a, _, ha⟩ := hc
  have := a.toNat_lt
  simp only [List.mem_cons, List.not_mem_nil, or_false] at ha
  rcases ha with rfl | rfl
  · exact hexDigit_lt (by lia)
  · exact hexDigit_lt (by lia)
theorem hexCps_size (b : Array UInt8) : (hexCps b).size = 2 * b.size := by
  rw [← Array.length_toList, hexCps_list, ← Array.length_toList]
  induction b.toList with
  | nil => rfl
  | cons a l ih => rw [List.flatMap_cons, List.length_append, ih]; simp; lia
/-- what b16encode tells -/
noncomputable def hexB (b : Array UInt8) : Array UInt8 := (((hexCps b).map fun c => c.toUInt8).toList.map Bytes.toUpper).toArray
theorem slot_bytes_upper : Slot "bytes" "upper" "bytes.upper" :=
  .of (owner := "bytes") (n := "upper") (by rw [typeLookup_type, builtinLookup_eq_fast]; kernel_rfl) (by decide +kernel) (by decide +kernel) (by decide +kernel)
    (by first | exact .inl (by decide +kernel) | exact .inr (by decide +kernel)) (by rw [isSubtype_type]; kernel_rfl)
theorem type_bytes_upper : typeOf (.builtin "bytes.upper") = pure (.type "method_descriptor") := by show builtinType _ = _; rw [builtinType_eq_fast]; kernel_rfl
theorem entry_bytes_upper : entryFor table "bytes.upper" = some Builtin.«bytes.upper» := entryFor_of_tree (by kernel_rfl)
theorem args_bytes_upper (a : Value) : argsOk "bytes.upper" ⟨[a], []⟩ := by
  unfold argsOk; rw [signature?_of (id := "bytes.upper") (n := ['r', 'e', 'p', 'p', 'u']) (o := ['s', 'e', 't', 'y', 'b']) (by kernel_rfl) PySem.W.FB.owner_bytes]; kernel_rfl
section
variable {prog : Program} {w : World} {A : Around} {E : Value → Shared → Prop} {s : Shared} {b : Array UInt8} {t : Tok} {Q : Value → Shared → Prop}
theorem call_hex (hz : b.size ≤ 1000) (h : ∀ t' k, Q (.str ⟨hexCps b⟩ t') { s with toks := k }) : wpAny (model prog w) A (call (.builtin "bytes.hex") [.bytes b t]) Q E s :=
  call_gives FB.slot_bytes_hex (typeIs_bytes s b t) FB.entry_bytes_hex (FB.args_bytes_hex_1 _) (.of_eq (hex_eq b t)) (by
    refine ⟨?_, h _ _⟩
    show (hexCps b).size ≤ sizeLine
    rw [hexCps_size, sizeLine_eq]; lia)
theorem call_upper (hz : b.size ≤ 10000) (h : ∀ t' k, Q (.bytes (b.toList.map Bytes.toUpper).toArray t') { s with toks := k }) : wpAny (model prog w) A (call (.builtin "bytes.upper") [.bytes b t]) Q E s :=
  call_gives slot_bytes_upper (typeIs_bytes s b t) entry_bytes_upper (args_bytes_upper _) (.of_eq (upper_eq b t)) (by
    refine ⟨?_, h _ _⟩
    rw [List.size_toArray, List.length_map, Array.length_toList, sizeLine_eq]; lia)
theorem meth_hex {M : Model} {pl : Sem Bool} {Q : Value × List Value → Shared → Prop} (h : Q (.builtin "bytes.hex", [.bytes b t]) s) : wpAny M A (getMethod (.bytes b t) "hex" pl) Q E s := by
  with_reducible exact KBd.method_of (.bytes b t) (typeIs_bytes _ _ _) FB.slot_bytes_hex FB.type_bytes_hex KBd.noRef h
theorem meth_upper {M : Model} {pl : Sem Bool} {Q : Value × List Value → Shared → Prop} (h : Q (.builtin "bytes.upper", [.bytes b t]) s) : wpAny M A (getMethod (.bytes b t) "upper" pl) Q E s := by
  with_reducible exact KBd.method_of (.bytes b t) (typeIs_bytes _ _ _) slot_bytes_upper type_bytes_upper KBd.noRef h
open Builtin._codecs in
theorem gives_encode (x : PySem.Str) (t u : Tok) (h : ∀ c ∈ x.cps.toList, c < 128) (hn : 0 < x.length) (hz : x.length ≤ 10000) :
    Gives («str.encode» ⟨[.str x t, .str (PySem.Str.ofString "ascii") u], []⟩) (.bytes (x.cps.map fun c => c.toUInt8)) := by
  refine .of_eq ?_
  rw [encode_eq, road_ascii, narrow_ascii _ _ _ h hn hz]
  rfl
theorem call_encode {x : PySem.Str} {u : Tok} (ha : ∀ c ∈ x.cps.toList, c < 128) (hn : 0 < x.length) (hz : x.length ≤ 10000)
    (h : ∀ t' k, Q (.bytes (x.cps.map fun c => c.toUInt8) t') { s with toks := k }) : wpAny (model prog w) A (call (.builtin "str.encode") [.str x t, .str (PySem.Str.ofString "ascii") u]) Q E s :=
  call_gives F.slot_str_encode (typeIs_str s x t) F.entry_str_encode (F.args_str_encode_2 _ _) (gives_encode x t u ha hn hz) (by
    refine ⟨?_, h _ _⟩
    rw [Array.size_map, sizeLine_eq]; have : x.cps.size = x.length := rfl; lia)
theorem meth_encode {M : Model} {x : PySem.Str} {pl : Sem Bool} {Q : Value × List Value → Shared → Prop} (h : Q (.builtin "str.encode", [.str x t]) s) : wpAny M A (getMethod (.str x t) "encode" pl) Q E s := by
  with_reducible exact getMethod_builtin (typeIs_str _ _ _) F.plainAttrs_str F.slot_str_encode F.type_str_encode (fun _ e => nomatch e) h
end
end Mine
end

section
open PySem PySem.W PyProof.Rows PySem.Calls
namespace Mine
/-- an exception just made, with its context -/
structure NewX (h h' : Heap) (e : Addr) (c : Value) : Prop where
  keeps : ∀ b o, h.get? b = some o → h'.get? b = some o
  new : h.get? e = none
  there : ∃ ob a0, h'.get? e = some ob ∧ ob.cls = .type "IndexError" ∧ ob.data = .fields #[a0, .none, c, .none, .bool false, .none]
theorem NewX.of {h h' : Heap} {e : Addr} (x : Heap.NewExc h h' e "IndexError") : NewX h h' e .none :=
  let ⟨ob, t, a, b, c⟩ := x.there; ⟨x.keeps, x.new, ob, t, a, b, c⟩
/-- an exception with its traceback and its context -/
noncomputable def ExOk (oe : Obj) (T : Addr) (c : Value) : Prop := ∃ vs, oe.cls = .type "IndexError" ∧ oe.data = .fields vs ∧ vs[1]? = some (.ref T) ∧ vs[2]? = some c
noncomputable def TbOk (oT : Obj) (fl : Value) : Prop := ∃ ts, oT.data = .fields ts ∧ ts[3]? = some fl
section
variable {prog : Program} {w : World} {A : Around} {s : Shared} {E : Value → Shared → Prop}
/-- a traceback's entry: what it writes -/
theorem entry_laid {M : Model} {base : Heap} {env : Env} {outer : List Env} {L e : Addr} {oe : Obj} {vs : Array Value} {head : Value} {hadNext : Bool} {Q : Unit → Shared → Prop}
    (hfr : A.frames = some (env :: outer)) (hl : s.heap.FunFrames base (env :: outer)) (hf : env.frame = some L) (he : s.heap.get? e = some oe) (hd : oe.data = .fields vs) (hsz : 1 < vs.size)
    (h : ∀ h' T oT, (∀ b o, s.heap.get? b = some o → b ∉ (env :: outer).filterMap (·.frame) → b ≠ e → h'.get? b = some o) → (∀ b o, s.heap.get? b = some o → b ≠ e → ∃ sl, h'.get? b = some { o with slots := sl }) →
      h'.get? e = some (oe.mapFields (·.setIfInBounds 1 (.ref T))) → s.heap.get? T = none → T ≠ e → h'.get? T = some oT → TbOk oT (rawInt L) → Q () { s with heap := h' }) :
    wpAny M A (do let a ← frameOf env; let pl ← entryPlaceOf L hadNext; let b ← EntryCells.newEntry head a .none (rawInt L) .none pl; setField (.ref e) 1 b) Q E s := by
  have hene : e ∉ (env :: outer).filterMap (·.frame) := fun hm => by
    refine an2 (hl.mem hm) fun _ hz77 => ex1 hz77 fun o hz78 => an2 hz78 fun ho hnf => ?_
    clear hz77 hz78
    rw [he] at ho; cases ho; exact hnf vs hd
  refine wpAny_bind (wpAny_frameOf_fun hfr hl hf fun h₁ hs₁ => ?_)
  refine an3 hs₁ fun z1 z2 z3 => ?_
  try clear hs₁
  refine wpAny_bind (wpAny_entryPlaceOf fun pl hpl => ?_)
  unfold EntryCells.newEntry newFields
  refine wpAny_bind (wpAny_newObj_type ?_ (hpl.sizeOk5 _ _ _ _ _))
  have he₁ := (z2 e hene).trans he
  refine wpAny_setField (Heap.get?_push_of_some _ he₁) hd hsz ?_
  have hT := Heap.get?_push_size h₁ (o := { cls := .type "traceback", dict := none, data := .fields ([head, .ref L, .none, rawInt L, .none] ++ (if pl.isEmpty then List.replicate 6 Value.none else pl)).toArray }) rfl
  have hY : TbOk { cls := .type "traceback", dict := none, data := .fields ([head, .ref L, .none, rawInt L, .none] ++ (if pl.isEmpty then List.replicate 6 Value.none else pl)).toArray } (rawInt L) := ⟨_, rfl, by first | rfl | (rcases hpl with rfl | ⟨_, _, _, _, _, _, _, rfl⟩ <;> simp)⟩
  generalize { cls := .type "traceback", dict := none, data := .fields ([head, .ref L, .none, rawInt L, .none] ++ (if pl.isEmpty then List.replicate 6 Value.none else pl)).toArray : Obj } = oT at hT hY ⊢
  have kb : ∀ b o, b ≠ e → h₁.get? b = some o → ((h₁.push oT).update e (Obj.mapFields (·.setIfInBounds 1 (Value.ref h₁.objs.size)))).get? b = some o := fun b o hb q => (Heap.get?_update_other _ _ (Ne.symm hb)).trans (Heap.get?_push_of_some _ q)
  have hTe : h₁.objs.size ≠ e := Nat.ne_of_gt (Heap.lt_size he₁)
  refine h _ h₁.objs.size oT (fun b o q hb hbe => kb b o hbe ((z2 b hb).trans q)) (fun b o q hbe => ?_) (Heap.get?_update_self _ (Heap.get?_push_of_some _ he₁) (Obj.isFreed_of_fields (Obj.data_mapFields hd (·.setIfInBounds 1 (Value.ref h₁.objs.size))))) (Heap.get?_none_of_le (Nat.le_of_eq z1.symm)) hTe
    ((Heap.get?_update_other _ _ (Ne.symm hTe)).trans hT) hY
  refine ex1 (z3 b o q) fun sl hs => ?_
  exact ⟨sl, kb b _ hbe hs⟩
theorem note_new {M : Model} {env envL : Env} {L LL e : Addr} {oL : Obj} {g h : Heap} {m : Str → Option Value} {news : List (Addr × Obj)} {c : Value} {Q : Unit → Shared → Prop}
    (hfr : A.frames = some [env, envL]) (hf : env.frame = some L) (hfL : envL.frame = some LL) (hk : env.scope.kind ≠ .module) (hkL : envL.scope.kind ≠ .module)
    (F : Fr g L h m) (N : News g L h ((LL, oL) :: news)) (hnd : ∀ vs, oL.data ≠ .fields vs) (hoff : ∀ p ∈ news, p.1 ≠ LL) (X : NewX h s.heap e c)
    (k : ∀ h' T sl oe oT, Fr g L h' m → News g L h' ((e, oe) :: (T, oT) :: (LL, { oL with slots := sl }) :: news) → ExOk oe T c → TbOk oT (rawInt L) → T ≠ e → (∀ p ∈ (LL, { oL with slots := sl }) :: news, p.1 ≠ T) → Q () { s with heap := h' }) :
    wpAny M A (noteFrame (.ref e) env) Q E s := by
  refine ex2 X.there fun ob a0 hz76 => an3 hz76 fun he hcls hd => ?_
  clear hz76
  have hLL := (N (LL, oL) (.head _)).1
  have hgLL := (N (LL, oL) (.head _)).2
  refine ex3 (id F.ns) fun oF es ep hz75 => an4 hz75 fun hL hLd hLk hLf => ?_
  clear hz75
  have hgL : g.get? L = none := Heap.get?_none_of_le F.above
  have hl : s.heap.FunFrames (hideAll h [L, LL]) [env, envL] :=
    ⟨hk, (exi2 L oF ⟨hf, hideAll_none _ (by simp), X.keeps _ _ hL, fun vs q => by rw [hLd] at q; cases q⟩), hkL, (exi2 LL oL ⟨hfL, hideAll_none _ (by simp), X.keeps _ _ hLL, hnd⟩), trivial⟩
  unfold noteFrame
  simp only [hf]
  refine wpAny_bind (wpAny_field he hd (x := .none) rfl ?_)
  rw [if_neg (by decide)]
  refine entry_laid hfr hl hf he hd (by simp) fun h' T oT k1 k2 k3 k4 k5 k6 k7 => ?_
  have heo : ∀ {b o}, h.get? b = some o → b ≠ e := fun {b o} q z => by have := X.new; rw [← z, q] at this; cases this
  have hmem : ∀ b, b ≠ L → b ≠ LL → b ∉ [env, envL].filterMap (·.frame) := fun b h1 h2 hm => by
    simp only [List.filterMap_cons, hf, hfL, List.filterMap_nil, List.mem_cons, List.not_mem_nil, or_false] at hm
    rcases hm with q | q
    · exact h1 q
    · exact h2 q
  have kk : ∀ b o, h.get? b = some o → b ≠ L → b ≠ LL → h'.get? b = some o := fun b o q h1 h2 => k1 b o (X.keeps _ _ q) (hmem b h1 h2) (heo q)
  refine ex1 (k2 L oF (X.keeps _ _ hL) (heo hL)) fun slF hF' => ?_
  refine ex1 (k2 LL oL (X.keeps _ _ hLL) (heo hLL)) fun sl hL' => ?_
  have F' : Fr g L h' m := ⟨(exi3 _ es ep ⟨hF', hLd, hLk, hLf⟩), fun b o q => kk b o (F.keep _ _ q) (fun z => by rw [z, hgL] at q; cases q) (fun z => by rw [z, hgLL.2] at q; cases q), F.above⟩
  have hT : ∀ {b o}, h.get? b = some o → b ≠ T := fun {b o} q z => by have := X.keeps _ _ q; rw [z, k4] at this; cases this
  have none_g : ∀ b, h.get? b = none → g.get? b = none := fun b q => by
    cases z : g.get? b with
    | none => rfl
    | some o => have := F.keep _ _ z; rw [q] at this; cases this
  have hTn : h.get? T = none := by
    cases z : h.get? T with
    | none => rfl
    | some o => exact absurd rfl (hT z)
  refine k h' T sl _ oT F' (fun p hp => ?_) ⟨_, ?_, Obj.data_mapFields hd (·.setIfInBounds 1 (Value.ref T)), by simp, by simp⟩ k7 k5 fun p hp => ?_
  · rcases List.mem_cons.mp hp with rfl | hp
    · exact ⟨k3, Ne.symm (heo hL), none_g _ X.new⟩
    rcases List.mem_cons.mp hp with rfl | hp
    · exact ⟨k6, Ne.symm (hT hL), none_g _ hTn⟩
    rcases List.mem_cons.mp hp with rfl | hp
    · exact ⟨hL', hgLL⟩
    · exact ⟨kk _ _ (N p (.tail _ hp)).1 (N p (.tail _ hp)).2.1 (hoff p hp), (N p (.tail _ hp)).2⟩
  · exact (Obj.cls_mapFields _ _).trans hcls
  · rcases List.mem_cons.mp hp with rfl | hp
    · exact hT hLL
    · exact hT (N p (.tail _ hp)).1
theorem note_again {M : Model} {env : Env} {L e T : Addr} {oe oT : Obj} {c : Value} {Q : Unit → Shared → Prop} (hf : env.frame = some L) (he : s.heap.get? e = some oe) (X : ExOk oe T c) (hT : s.heap.get? T = some oT) (Y : TbOk oT (rawInt L))
    (h : Q () s) : wpAny M A (noteFrame (.ref e) env) Q E s := by
  refine ex1 X fun vs hz74 => an4 hz74 fun _ hd h1 _ => ?_
  clear hz74
  try clear X
  refine ex1 Y fun ts hz73 => an2 hz73 fun ht h3 => ?_
  clear hz73
  try clear Y
  unfold noteFrame
  simp only [hf]
  refine wpAny_bind (wpAny_field he hd h1 ?_)
  rw [if_pos (show (Value.ref T != Value.none) = true from by simp)]
  refine wpAny_bind (wpAny_field hT ht h3 ?_)
  rw [if_pos (show (rawInt L == rawInt L) = true from by simp)]
  exact wpAny_pure h
theorem set3 {ts : Array Value} (h : 3 < ts.size) (v : Value) : (ts.setIfInBounds 3 v)[3]? = some v := by simp [h]
/-- where an exception flies: told at its traceback -/
theorem flight_to {M : Model} {L e T : Addr} {oe oT : Obj} {g : Heap} {m : Str → Option Value} {news : List (Addr × Obj)} {fl c : Value} {Q : Unit → Shared → Prop} (fr : Option Addr)
    (F : Fr g L s.heap m) (N : News g L s.heap ((e, oe) :: (T, oT) :: news)) (X : ExOk oe T c) (Y : TbOk oT fl) (hTe : T ≠ e) (off : ∀ p ∈ news, p.1 ≠ T)
    (h : ∀ h' oT', Fr g L h' m → News g L h' ((e, oe) :: (T, oT') :: news) → TbOk oT' (fr.elim .none fun f => rawInt f) → Q () { s with heap := h' }) :
    wpAny M A (setFlight (.ref e) fr) Q E s := by
  refine ex1 X fun vs hz72 => an4 hz72 fun _ hd h1 _ => ?_
  clear hz72
  try clear X
  refine ex1 Y fun ts hz71 => an2 hz71 fun ht h3 => ?_
  clear hz71
  try clear Y
  have he := (N (e, oe) (.head _)).1
  have hT := (N (T, oT) (.tail _ (.head _)))
  have hsz : 3 < ts.size := (Array.getElem?_eq_some_iff.mp h3).1
  unfold setFlight
  refine wpAny_bind (wpAny_field he hd h1 ?_)
  rw [if_pos (show (Value.ref T != Value.none) = true from by simp)]
  have other : ∀ f, ∀ b, b ≠ T → (s.heap.update T f).get? b = s.heap.get? b := fun f b hb => Heap.get?_update_other _ f (Ne.symm hb)
  refine wpAny_setField hT.1 ht hsz (h _ _ ⟨F.ns.at' fun o z => (other _ _ (Ne.symm hT.2.1)).trans z, fun b o z => (other _ _ fun q => by rw [q, hT.2.2] at z; cases z).trans (F.keep b o z), F.above⟩ (fun p hp => ?_)
    ⟨_, Obj.data_mapFields ht (·.setIfInBounds 3 (fr.elim .none fun f => rawInt f)), set3 hsz _⟩)
  rcases List.mem_cons.mp hp with rfl | hp
  · exact ⟨(other _ _ (Ne.symm hTe)).trans he, (N _ (.head _)).2⟩
  rcases List.mem_cons.mp hp with rfl | hp
  · exact ⟨Heap.get?_update_self _ hT.1 (Obj.isFreed_of_fields (Obj.data_mapFields ht _)), hT.2⟩
  · exact ⟨(other _ _ (off p hp)).trans (N p (.tail _ (.tail _ hp))).1, (N p (.tail _ (.tail _ hp))).2⟩
theorem entry_unchain : entryFor table "proto.unchain" = some Builtin.«proto.unchain» := entryFor_of_tree (by kernel_rfl)
/-- raised while another is handled -/
theorem raise_under {α : Type} {cls : String} {e₀ : Addr} {o₀ : Obj} {T₀ : Addr} {msg : Value} {Q : α → Shared → Prop} (hc : cls = "IndexError") (hh : A.handled = some (.ref e₀)) (h0 : s.heap.get? e₀ = some o₀) (X : ExOk o₀ T₀ .none)
    (h : ∀ h' tk e, NewX s.heap h' e (.ref e₀) → E (.ref e) { s with heap := h', toks := tk }) :
    wpAny (model prog w) A (do raiseNew (← newExc (.type cls) [msg]) : Sem α) Q E s := by
  subst hc
  refine ex1 X fun vs hz70 => an4 hz70 fun _ hd _ h2 => ?_
  clear hz70
  try clear X
  refine wpAny_bind ?_
  unfold newExc newTuple
  refine wpAny_bind (wpAny_newObj_type ?_)
  refine wpAny_bind (m := firstArgMember _ _) (wpAny_of_eq (a := Value.none) (by simp only [firstArgMember, plainExc_IndexError.first]; rfl) ?_)
  rw [plainExc_IndexError.own]
  refine wpAny_newObj_type ?_
  unfold raiseNew
  refine wpAny_bind (wpAny_handled ?_)
  rw [hh]
  dsimp only
  generalize hH : (s.heap.push { cls := Value.type "tuple", dict := none, data := Data.seq [msg].toArray }) = H
  have kH : ∀ b o, s.heap.get? b = some o → H.get? b = some o := fun b o q => hH ▸ Heap.get?_push_of_some _ q
  have ne0 : e₀ ≠ H.objs.size := Nat.ne_of_lt (Heap.lt_size (kH _ _ h0))
  rw [if_pos (show (Value.ref e₀ != Value.ref H.objs.size) = true from by simpa using ne0)]
  have g0 := Heap.get?_push_of_some { cls := Value.type "IndexError", data := Data.fields (#[Value.ref s.heap.objs.size, Value.none, Value.none, Value.none, Value.bool false, Value.none] ++ #[]) } (kH _ _ h0)
  have gN := Heap.get?_push_size H (o := { cls := Value.type "IndexError", data := Data.fields (#[Value.ref s.heap.objs.size, Value.none, Value.none, Value.none, Value.bool false, Value.none] ++ #[]) }) rfl
  refine wpAny_bind (wpAny_holding (wpAny_runValue (codeAny_builtin entry_unchain ?_)))
  unfold Builtin.«proto.unchain»
  dsimp only
  refine wpAny_bind (wpAny_field g0 hd h2 ?_)
  rw [if_pos (by decide)]
  refine wpAny_bind (wpAny_pure (wpAny_pure ?_))
  show wpAny _ _ (setField (.ref H.objs.size) 2 (.ref e₀) >>= fun _ => throw _) _ _ _
  refine wpAny_bind (wpAny_setField gN rfl (by simp) (wpAny_throw ?_))
  have other : ∀ f, ∀ b, b ≠ H.objs.size → ((H.push { cls := Value.type "IndexError", data := Data.fields (#[Value.ref s.heap.objs.size, Value.none, Value.none, Value.none, Value.bool false, Value.none] ++ #[]) }).update H.objs.size f).get? b = (H.push { cls := Value.type "IndexError", data := Data.fields (#[Value.ref s.heap.objs.size, Value.none, Value.none, Value.none, Value.bool false, Value.none] ++ #[]) }).get? b := fun f b hb => Heap.get?_update_other _ f (Ne.symm hb)
  refine h _ _ _ ⟨fun b o q => ?_, ?_, _, .ref s.heap.objs.size, Heap.get?_update_self _ gN (Obj.isFreed_of_fields (Obj.data_mapFields rfl _)), rfl, ?_⟩
  · rw [other _ _ (Nat.ne_of_lt (Heap.lt_size (kH _ _ q)))]
    exact Heap.get?_push_of_some _ (kH _ _ q)
  · exact Heap.get?_none_of_le (by rw [← hH]; simp)
  · rfl
/-- what is handled: nothing, or an exception whose chain ends at once -/
noncomputable def Hd (h : Heap) (hd : Option Value) (c : Value) : Prop := (hd = none ∧ c = .none) ∨ ∃ e₀ o₀ T₀, hd = some (.ref e₀) ∧ h.get? e₀ = some o₀ ∧ ExOk o₀ T₀ .none ∧ c = .ref e₀
theorem item_out {l : Addr} {items : Array Value} {k : Int} {t : Tok} {c : Value} {Q : Value → Shared → Prop} (hA : Hd s.heap A.handled c) (hl : s.heap.IsList l items)
    (hout : (items.size : Int) ≤ k) (hhi : k < 2 ^ 63) (hE : ∀ h' tk e, NewX s.heap h' e c → E (.ref e) { s with heap := h', toks := tk }) :
    wpAny (model prog w) A (getItem (.ref l) (.int k t)) Q E s := by
  rcases hA with ⟨hA, rfl⟩ | ⟨e₀, o₀, T₀, hA, h0, X, rfl⟩
  · exact wpAny_getItem_list_out hA hl (.inr hout) (by lia) hhi fun h' tk e x => hE h' tk e (.of x)
  refine ex1 (id hl) fun o hz68 => an3 hz68 fun ho hc hz69 => ex1 hz69 fun ne hd => ?_
  clear hz68 hz69
  unfold getItem
  try with_reducible refine wpAny_holding ?_
  first | refine wpAny_bind (wpAny_pure ?_) | skip
  refine wpAny_bind (wpAny_sequenceKey hl.typeIs (by decide) ?_)
  refine wpAny_bind (wpAny_callSpecial?_slot (name := Str.ofString "__getitem__") hl.typeIs slot_list_getitem
    (wpAny_call_entry slot_list_getitem hl.typeIs entry_list_getitem ?_ (args_list_getitem _ _)))
  show wpAny _ _ (Builtin.List.listSubscript? (.int k t) >>= _) _ _ s
  refine wpAny_bind (wpAny_listSubscript_int (fitsIndex_both (by lia) hhi) ?_)
  have hk0 : 0 ≤ k := by lia
  refine ex1 (Int.eq_ofNat_of_zero_le hk0) fun j he67 => ?_
  subst he67
  have hx : items[j]? = none := Array.getElem?_eq_none (by lia)
  show wpAny _ _ ((seqItemAt l j >>= fun r => pure (r.map (j, ·))) >>= _) _ _ s
  refine wpAny_bind (wpAny_bind (wpAny_seqItemAt ho hd (wpAny_pure ?_)))
  rw [hx]
  refine wpAny_bind (wpAny_rule (wpAny_bind ?_))
  unfold raiseErrorWords
  exact wpAny_bind (wpAny_mkText (raise_under rfl (show A.in1.handled = _ from hA) h0 X fun h' tk e x => hE h' tk e x))
end
end Mine
end

section
open PySem PySem.W PyProof.Rows PySem.Calls PyProof.Rows.LCg
namespace Mine
section
variable {prog : Program} {w : World} {A : Around} {s : Shared} {h₀ : Heap} {L : Addr} {m : Str → Option Value} {env : Env} {news : List (Addr × Obj)}
theorem wpN_standIf {M : Model} {α : Type} {E : Value → Shared → Prop} {c : Prop} [Decidable c] {pos : Pos} {k : PUnit → Sem α} {Q : α → Shared → Prop} (h : wpN M A (k ()) Q E s) :
    wpN M A (if c then (standAt pos >>= k) else k ()) Q E s := by
  split
  · exact wpN_bindA (wpAny_standAt h)
  · exact h
/-- a comprehension whose elements reach a stream's making: its frame -/
theorem wpN_comp {M : Model} {E : Value → Shared → Prop} {e : Expr} {scope : Scope} {pos : Pos} {newAcc first : Sem Value} {g : Comprehension} {gs : List Comprehension} {cl : List (Str × Addr)} {Q : Value → Shared → Prop}
    (hcl : clausesOf e = g :: gs) (hs : ∀ x, foldedSetIterable g.iter env x = pure x) (hclos : closureFor scope env = pure cl)
    (hkind : scope.kind = .function) (hnames : ∀ x ∈ scope.names, x.2 = .local → scope.names.lookup x.1 = some .local)
    (h : wpAny M A first (fun x s₁ => wpAny M A (pyIter x) (fun it s₂ => wpAny M A newAcc (fun acc s₃ =>
      wpAny M A (newFunctionEnv scope env.globals cl [] env.qual none .none (some env)) (fun cenv s₄ =>
        codeN M A (.compStart e 0 it acc { cenv with scope := relabel scope env }) (fun r s' => match r with
          | .ok _ => ∃ m, s'.heap.Ns cenv.locals m ∧ ∀ h', Heap.SameBut cenv.locals s'.heap h' → Q acc { s' with heap := h' }
          | .error _ => False) s₄) E s₃) E s₂) E s₁) E s) :
    wpN M A (comprehension e scope env pos newAcc false first none) Q E s := by
  unfold comprehension
  rw [hclos, hcl]
  refine wpN_bindA (wpAny_mono h (fun x s₁ h₁ => wpN_bindA (wpAny_standAt (wpN_bindA (wpAny_of_eq (hs x) (wpN_bindA (wpAny_holding (wpAny_mono h₁ (fun it s₂ h₂ => ?_) fun _ _ q => q))))))) fun _ _ q => q)
  refine wpN_standIf (wpN_bindA (wpAny_mono h₂ (fun acc s₃ h₃ => wpN_bindA (wpAny_pure (wpN_bindA (wpAny_mono h₃ (fun cenv s₄ h₄ => ?_) fun _ _ q => q)))) fun _ _ q => q))
  try dsimp only
  have hv : ∀ x ∈ (scope.names.filter fun x => (x.2 == .local || x.2 == .cell) && x.1 != (".0" : Str)).reverse, x.2 = .local →
      Env.kindOf { cenv with scope := relabel scope env } x.1 = some .local := fun x hx hl => lookup_relabel_local (hnames x (List.mem_filter.mp (List.mem_reverse.mp hx)).1 hl)
  refine wpN_holding (wpN_bind (wpN_attempt (wpN_holding (wpN_run rfl (codeN_mono h₄ fun r s' hr => ?_)))))
  cases r with
  | ok f =>
    refine ex1 hr fun m hz55 => an2 hz55 fun hn hr => ?_
    clear hz55
    exact wpN_bindA (wpAny_holding (wpAny_comp_letGo (cenv := { cenv with scope := relabel scope env }) hkind _ s' m hv hn fun h' m' _ hs' => wpN_pure (hr h' hs')))
  | error x => exact hr.elim
theorem codeN_start {elt target iter : Expr} {scope : Scope} {pos : Pos} {it acc : Value} {R : Result → Shared → Prop}
    (h0 : codeN (model prog w) A (.compLoop (.ListComp elt [⟨target, iter, [], 0⟩] scope pos) 0 it acc env) R s)
    (h : wpAny (model prog w) A (pyIter it) (fun it' s' => codeN (model prog w) A (.compLoop (.ListComp elt [⟨target, iter, [], 0⟩] scope pos) 0 it' acc env) R s') (fun _ _ => False) s) :
    codeN (model prog w) A (.compStart (.ListComp elt [⟨target, iter, [], 0⟩] scope pos) 0 it acc env) R s := by
  refine codeN_of_tree ?_
  show wpN _ A ((compStart (.ListComp elt [⟨target, iter, [], 0⟩] scope pos) 0 it acc env).onRaise (fun x => do noteFrame x env; standAt theWindowsPlace)) _ _ s
  refine wpN_onRaise (wpN_mono (E := fun _ _ => False) ?_ (fun _ _ q => q) fun _ _ f => f.elim)
  unfold compStart
  show wpN _ _ (ask >>= _) _ _ s
  refine wpN_bindA (wpAny_askSetting ?_)
  split
  · first
      | exact wpN_bindA (wpAny_pure (wpN_pure ⟨⟨rfl, rfl⟩, h0⟩))
      | exact wpN_pure ⟨⟨rfl, rfl⟩, h0⟩
  · refine wpN_bindA (wpAny_rule ?_)
    show wpN _ _ (standAt iter.pos >>= _) _ _ s
    exact wpN_bindA (wpAny_standAt (wpN_bindA (wpAny_mono h (fun it' s' h' => wpN_pure ⟨⟨rfl, rfl⟩, h'⟩) fun _ _ f => f.elim)))
theorem loopN {elt iter : Expr} {x : Str} {px : Pos} {scope : Scope} {cl : List (Str × Addr)} {pos : Pos} {I ax D C : Addr} {its : Array Value} {R : Result → Shared → Prop}
    (hh : A.handled = none) (hx : scope.names.lookup x = some .local) (hkind : scope.kind = .function)
    (hIC : I ≠ C) (hID : I ≠ D) (hCD : C ≠ D) (hLI : L ≠ I) (hLC : L ≠ C) (hLD : L ≠ D) (h0I : h₀.get? I = none) (h0C : h₀.get? C = none) (h0D : h₀.get? D = none)
    (off : ∀ p ∈ news, p.1 ≠ I ∧ p.1 ≠ C ∧ p.1 ≠ D) (S : SrcAt h₀ ax its news) (hsz : its.size ≤ sizeLine) (J : Nat → List Value → Prop)
    (turn : ∀ i v ys oI oC m₂ h tk, its[i]? = some v → J i ys → NsObj oC m₂ → m₂ x = some v → Fr h₀ L h m → News h₀ L h ((I, oI) :: (C, oC) :: (D, lst ys) :: news) →
      wpN (model prog w) A (eval elt (compEnvC scope cl C env)) (fun y s₂ => Keeps { s with heap := h, toks := tk } s₂ ∧ J (i + 1) (ys ++ [y])) (fun _ _ => False) { s with heap := h, toks := tk })
    (fin : ∀ ys h tk m', J its.size ys → Fr h₀ L h m → News h₀ L h ((D, lst ys) :: news) → h.Ns C m' → R (.ok .next) { s with heap := h, toks := tk }) :
    ∀ j i ys h tk m', i + j = its.size → ys.length = i → J i ys → h.IsListIter I ax i → h.Ns C m' → Fr h₀ L h m → News h₀ L h ((D, lst ys) :: news) →
      codeN (model prog w) A (.compLoop (.ListComp elt [⟨.Name x px, iter, [], 0⟩] scope pos) 0 (.ref I) (.ref D) (compEnvC scope cl C env)) R { s with heap := h, toks := tk } := by
  have hax : ax ≠ I ∧ ax ≠ C ∧ ax ≠ D := by
    rcases S with ⟨o, e, _⟩ | ⟨o, hm, _⟩
    · refine ⟨?_, ?_, ?_⟩ <;> (rintro rfl; first | (rw [h0I] at e; cases e) | (rw [h0C] at e; cases e) | (rw [h0D] at e; cases e))
    · exact off _ hm
  have offD : ∀ ys, ∀ p ∈ (D, lst ys) :: news, p.1 ≠ I ∧ p.1 ≠ C := fun ys p hp => by
    rcases List.mem_cons.mp hp with rfl | hp
    · exact ⟨Ne.symm hID, Ne.symm hCD⟩
    · exact ⟨(off p hp).1, (off p hp).2.1⟩
  have W := Walks.list (prog := prog) (w := w) hh I ax hax.1 its
  intro j
  induction j with
  | zero =>
    intro i ys h tk m' hi hy hJ hit hC F N
    refine codeN_of_tree ?_
    show wpN _ A ((compTurn (.ListComp elt [⟨.Name x px, iter, [], 0⟩] scope pos) 0 (.ref I) (.ref D) (compEnvC scope cl C env)).onRaise (fun x => do noteFrame x (compEnvC scope cl C env); theTreesLotGoes x)) _ _ _
    refine wpN_onRaise (wpN_mono (E := fun _ _ => False) ?_ (fun _ _ q => q) fun _ _ f => f.elim)
    rw [compTurn_list1]
    refine wpN_bindA (wpAny_standAt (wpN_bindA ?_))
    have hl : h.IsList ax its := S.list F.keep (fun p hp => N p (.tail _ hp))
    obtain rfl : i = its.size := by lia
    refine W.done _ _ _ ⟨hit, hl⟩ fun h₂ tk₂ hk₂ => wpN_pure ?_
    refine fin ys h₂ tk₂ m' hJ (fr_but F hk₂ hLI h0I) (news_but N hk₂ fun p hp => (offD ys p hp).1) (hC.at' fun o e => hk₂ _ o (by simpa using Ne.symm hIC) e)
  | succ j ih =>
    intro i ys h tk m' hi hy hJ hit hC F N
    refine codeN_of_tree ?_
    show wpN _ A ((compTurn (.ListComp elt [⟨.Name x px, iter, [], 0⟩] scope pos) 0 (.ref I) (.ref D) (compEnvC scope cl C env)).onRaise (fun x => do noteFrame x (compEnvC scope cl C env); theTreesLotGoes x)) _ _ _
    refine wpN_onRaise (wpN_mono (E := fun _ _ => False) ?_ (fun _ _ q => q) fun _ _ f => f.elim)
    rw [compTurn_list1]
    refine wpN_bindA (wpAny_standAt (wpN_bindA ?_))
    have hl : h.IsList ax its := S.list F.keep (fun p hp => N p (.tail _ hp))
    refine W.item i _ _ _ (by lia) ⟨hit, hl⟩ fun v h₂ tk₂ hv st₂ hk₂ => ?_
    try dsimp only
    refine wpN_bindA (wpAny_of_eq (show letOwnedTupleGo (.Name x px) (.ref I) v = pure () from rfl) (wpN_bindA ?_))
    have F₂ := fr_but F hk₂ hLI h0I
    have N₂ := news_but N hk₂ fun p hp => (offD ys p hp).1
    refine wpAny_assign_Name (wpAny_storeName_local (lookup_relabel_local hx) (hC.at' fun o e => hk₂ _ o (by simpa using Ne.symm hIC) e) (fun h₃ hn₃ hs₃ => ?_) (by simp [compEnvC, relabel, hkind]))
    have F₃ : Fr h₀ L h₃ m := F₂.change hs₃ (Ne.symm hLC) h0C
    have N₃ : News h₀ L h₃ ((D, lst ys) :: news) := fun p hp => ⟨hs₃.extBut _ _ (offD ys p hp).2 (N₂ p hp).1, (N₂ p hp).2⟩
    refine ex1 (ns_obj hn₃) fun oC hz54 => an2 hz54 fun heC hoC => ?_
    clear hz54
    refine ex1 (id st₂.1) fun oI hz53 => an2 hz53 fun heI hIr => ?_
    clear hz53
    have heI₃ := hs₃.extBut _ _ hIC heI
    have NI : News h₀ L h₃ ((I, oI) :: (C, oC) :: (D, lst ys) :: news) := fun p hp => by
      rcases List.mem_cons.mp hp with rfl | hp
      · exact ⟨heI₃, Ne.symm hLI, h0I⟩
      · rcases List.mem_cons.mp hp with rfl | hp
        · exact ⟨heC, Ne.symm hLC, h0C⟩
        · exact N₃ p hp
    refine wpN_bind (wpN_bind (wpN_mono (turn i v ys oI oC _ h₃ _ hv hJ hoC (by simp) F₃ NI) (fun y s₄ h₄ => ?_) fun _ _ f => f))
    refine an2 h₄ fun hz52 hJ₄ => ?_
    try clear h₄
    obtain ⟨h₄, tk₄, rfl, k₄⟩ := hz52
    refine wpN_bindA ?_
    have zD := k₄ _ _ (NI (D, lst ys) (.tail _ (.tail _ (.head _)))).1
    refine append_at (hsz := by show ys.toArray.size ≤ sizeLine; rw [List.size_toArray, hy]; lia) zD fun h₅ hs₅ hD₅ => ?_
    refine wpN_pure (wpN_pure ⟨⟨rfl, rfl⟩, ?_⟩)
    have F₄ := frGrow F₃ k₄
    have hC₅ : h₅.Ns C _ := (hoC.ns (k₄ _ _ heC)).sameBut hs₅ hCD
    refine ih (i + 1) (ys ++ [y]) h₅ _ _ (by lia) (by simp [hy]) hJ₄ ?_ hC₅ (F₄.change hs₅ (Ne.symm hLD) h0D) ?_
    · exact ⟨oI, hs₅.extBut _ _ hID (k₄ _ _ heI₃), hIr⟩
    · intro p hp
      rcases List.mem_cons.mp hp with rfl | hp
      · exact ⟨hD₅.trans (congrArg some (lst_snoc ys y)), Ne.symm hLD, h0D⟩
      · exact ⟨hs₅.extBut _ _ (off p hp).2.2 (k₄ _ _ (N₃ p (.tail _ hp)).1), (N₃ p (.tail _ hp)).2⟩
/-- a comprehension over a list, no test, whose elements reach a stream's making -/
theorem compEN {elt iter : Expr} {x : Str} {px : Pos} {scope : Scope} {cl : List (Str × Addr)} {pos : Pos} {Q : Value → Shared → Prop} {E : Value → Shared → Prop} {ax : Addr} {its : Array Value}
    (hh : A.handled = none) (hclos : closureFor scope env = pure cl) (hcell : ∀ y ∈ scope.names, y.2 ≠ .cell) (hkind : scope.kind = .function)
    (hnames : ∀ y ∈ scope.names, y.2 = .local → scope.names.lookup y.1 = some .local) (hx : scope.names.lookup x = some .local)
    (F : Fr h₀ L s.heap m) (N : News h₀ L s.heap news) (S : SrcAt h₀ ax its news) (hsz : its.size ≤ sizeLine)
    (hi : wpAny (model prog w) A (eval iter env) (fun xv s₁ => xv = .ref ax ∧ s₁ = s) E s)
    (J : Nat → List Value → Prop) (h0 : J 0 [])
    (turn : ∀ i v ys I oI C oC D m₂ h tk, its[i]? = some v → J i ys → NsObj oC m₂ → m₂ x = some v → Fr h₀ L h m → News h₀ L h ((I, oI) :: (C, oC) :: (D, lst ys) :: news) →
      wpN (model prog w) A (eval elt (compEnvC scope cl C env)) (fun y s₂ => Keeps { s with heap := h, toks := tk } s₂ ∧ J (i + 1) (ys ++ [y])) (fun _ _ => False) { s with heap := h, toks := tk })
    (fin : ∀ ys D h tk, J its.size ys → Fr h₀ L h m → News h₀ L h ((D, lst ys) :: news) → Q (.ref D) { s with heap := h, toks := tk })
    (hs : ∀ x, foldedSetIterable iter env x = pure x := by intro _; rfl) :
    wpN (model prog w) A (eval (.ListComp elt [⟨.Name x px, iter, [], 0⟩] scope pos) env) Q E s := by
  rw [eval_ListComp]
  refine wpN_comp rfl hs hclos hkind hnames (wpAny_mono hi (fun xv s₁ hq => ?_) fun _ _ e => e)
  refine an2 hq fun he50 he51 => ?_
  try clear hq
  subst he50
  subst he51
  have hl := S.list F.keep N
  have hlt : ax < s₁.heap.objs.size := by obtain ⟨_, e, _⟩ := hl; exact Heap.lt_size e
  refine wpAny_pyIter_list hl ?_
  refine wpAny_newObj_type (wpAny_newFunctionEnv hcell (by intro y hy; simp at hy) (fun h₁ hns₁ hsb₁ => ?_) hkind)
  try dsimp only at hns₁ hsb₁ ⊢
  generalize hH1 : s₁.heap.push { cls := .type "list_iterator", data := .fields #[.ref ax, .int 0 0] } = H1 at hns₁ hsb₁ ⊢
  have z1 : H1.objs.size = s₁.heap.objs.size + 1 := by rw [← hH1, Heap.size_push]
  have eI : H1.get? s₁.heap.objs.size = some { cls := .type "list_iterator", data := .fields #[.ref ax, .int 0 0] } := by rw [← hH1]; exact Heap.get?_push_size _ rfl
  have k1 : ∀ b o, s₁.heap.get? b = some o → H1.get? b = some o := fun b o e => hH1 ▸ Heap.get?_push_of_some _ e
  generalize hH2 : H1.push { cls := .type "list", dict := none, data := .seq ([] : List Value).toArray } = H2 at hns₁ hsb₁ ⊢
  have z2 : H2.objs.size = s₁.heap.objs.size + 2 := by rw [← hH2, Heap.size_push, z1]
  have eD : H2.get? H1.objs.size = some (lst []) := by rw [← hH2]; exact Heap.get?_push_size _ rfl
  have k2 : ∀ b o, H1.get? b = some o → H2.get? b = some o := fun b o e => hH2 ▸ Heap.get?_push_of_some _ e
  have k3 : ∀ b o, H2.get? b = some o → h₁.get? b = some o := fun b o e => hsb₁.extBut b o (Nat.ne_of_lt (Heap.lt_size e)) (Heap.get?_push_of_some _ e)
  have kk : ∀ b o, s₁.heap.get? b = some o → h₁.get? b = some o := fun b o e => k3 _ _ (k2 _ _ (k1 _ _ e))
  have fresh : ∀ a, s₁.heap.objs.size ≤ a → h₀.get? a = none := fun a ha => by
    cases e : h₀.get? a with
    | none => rfl
    | some o' => exact absurd (Heap.lt_size (F.keep a o' e)) (Nat.not_lt.mpr ha)
  have hLlt : L < s₁.heap.objs.size := F.ns.lt
  have up1 : ∀ a : Addr, a < s₁.heap.objs.size → a ≠ H1.objs.size := fun a ha => Nat.ne_of_lt (Nat.lt_of_lt_of_le ha (by rw [z1]; exact Nat.le_add_right _ _))
  have up2 : ∀ a : Addr, a < s₁.heap.objs.size → a ≠ H2.objs.size := fun a ha => Nat.ne_of_lt (Nat.lt_of_lt_of_le ha (by rw [z2]; exact Nat.le_add_right _ _))
  have hI : (s₁.heap.objs.size : Nat) ≠ H2.objs.size := by lia
  have hID : (s₁.heap.objs.size : Nat) ≠ H1.objs.size := by lia
  have hCD : (H2.objs.size : Nat) ≠ H1.objs.size := by lia
  have lp := loopN (prog := prog) (w := w) (A := A) (s := s₁) (h₀ := h₀) (L := L) (m := m) (env := env) (news := news) (elt := elt) (iter := iter) (px := px) (cl := cl) (pos := pos) (I := s₁.heap.objs.size) (D := H1.objs.size) (C := H2.objs.size)
    (R := fun r s' => match r with
          | .ok _ => ∃ m, s'.heap.Ns H2.objs.size m ∧ ∀ h', Heap.SameBut H2.objs.size s'.heap h' → Q (.ref H1.objs.size) { s' with heap := h' }
          | .error _ => False)
    hh hx hkind hI hID hCD (Nat.ne_of_lt hLlt) (up2 _ hLlt) (up1 _ hLlt) (fresh _ (Nat.le_refl _)) (fresh _ (by lia)) (fresh _ (by lia))
    (fun p hp => have z := Heap.lt_size (N p hp).1; ⟨Nat.ne_of_lt z, up2 _ z, up1 _ z⟩) S hsz J
    (fun i v ys oI oC m₂ h tk a b c d e f => turn i v ys _ oI _ oC _ m₂ h tk a b c d e f) ?_ its.size 0 [] h₁ (s₁.toks + ([] : List (Str × Value)).length) _ (by lia) rfl h0 ⟨_, k3 _ _ (k2 _ _ eI), rfl, rfl⟩ hns₁ (frGrow F kk) ?_
  · refine codeN_start lp ?_
    exact wpAny_pyIter_listiter (l := ax) (i := 0) ⟨_, k3 _ _ (k2 _ _ eI), rfl, rfl⟩ lp
  · intro ys h tk m' hJ F' N' hC
    refine ⟨m', hC, fun h' hs' => ?_⟩
    refine fin ys _ h' tk hJ (F'.change hs' (Ne.symm (up2 _ hLlt)) (fresh _ (by lia))) fun p hp => ⟨hs'.extBut _ _ ?_ (N' p hp).1, (N' p hp).2⟩
    rcases List.mem_cons.mp hp with rfl | hp
    · exact Ne.symm hCD
    · exact up2 _ (Heap.lt_size (N p hp).1)
  · intro p hp
    rcases List.mem_cons.mp hp with rfl | hp
    · exact ⟨k3 _ _ eD, Ne.symm (up1 _ hLlt), fresh _ (by lia)⟩
    · exact ⟨kk _ _ (N p hp).1, (N p hp).2⟩
end
end Mine
end

section
open PySem PySem.W PyProof.Rows PySem.Calls Builtin MeetsSeq MeetsSeq3
namespace Mine
open AutoSeq1 (wpAny_loadPart')
/-- lists of numbers in their order -/
noncomputable def cmpI : List Int → List Int → Ordering
  | [], [] => .eq
  | [], _ :: _ => .lt
  | _ :: _, [] => .gt
  | x :: xs, y :: ys => if x < y then .lt else if y < x then .gt else cmpI xs ys
noncomputable def opOf : Bool → CmpOp
  | true => .Lt
  | false => .Gt
noncomputable def codeOf : Bool → Nat
  | true => 0
  | false => 4
noncomputable def ordOf : Bool → Ordering
  | true => .lt
  | false => .gt
theorem ints_at {vs : List Value} {ns : List Int} (h : IntsAre vs ns) {i : Nat} (hi : i < ns.length) : ∃ t, vs[i]? = some (.int ns[i] t) := by
  induction h generalizing i with
  | nil => simp at hi
  | cons n t _ ih =>
    cases i with
    | zero => exact ⟨t, rfl⟩
    | succ i => simpa using ih (i := i) (by simpa using hi)
theorem lt_loop (up : Bool) (l b : Addr) (vs ws : List Value) (ns ms : List Int) (hi : IntsAre vs ns) (hj : IntsAre ws ms) (n n2 : Nat) (k : Nat) :
    ∀ i : Nat, ns.length - i = k → i ≤ ns.length → i ≤ ms.length → Meets (Builtin.«list.__eq__.loop» ⟨[.ref l, .ref b, rawInt i, rawInt (codeOf up)], []⟩)
      (fun _ R s => s.heap.get? l = some { cls := .type "list", dict := none, data := .seq (List.toArray vs) n, slots := #[] } ∧ s.heap.get? b = some { cls := .type "list", dict := none, data := .seq (List.toArray ws) n2, slots := #[] } ∧
        R (.ok (.ret (.bool (cmpI (ns.drop i) (ms.drop i) == ordOf up)))) s) := by
  have l1 := hi.length
  have l2 := hj.length
  induction k with
  | zero =>
    intro i hk h1 h2 prog w A R s h
    obtain ⟨hp, g, d, tk, os⟩ := s; obtain ⟨hl, hb, h⟩ := h
    have hle0 : ns.length ≤ i := Nat.le_of_sub_eq_zero hk
    have hi1 : (List.toArray vs)[((i : Nat) : Int).toNat]? = none := by simp; rw [l1]; exact hle0
    have hd : ns.drop i = [] := List.drop_eq_nil_of_le hle0
    rw [hd] at h
    cases up
    · repeat (first | with_reducible apply wpAny_loadPart' hl | with_reducible apply wpAny_loadPart' hb | with_reducible (first | refine PySem.wpAny_pure ?_ | refine PySem.wpAny_bind ?_ | refine PySem.wpAny_holding ?_ | refine PySem.wpAny_standAt ?_ | refine PySem.wpAny_point ?_ | refine PySem.wpAny_rule ?_ | refine PySem.wpAny_letGo ?_ | refine PySem.wpAny_mkInt' ?_ | refine PySem.wpAny_throw ?_ | refine PySem.wpAny_of_eq (by assumption) ?_ | refine PySem.wpAny_typeOf (by assumption) ?_) | ((with_reducible apply PySem.wpAny_load'); focus (heap_get; done)) | ((with_reducible apply PySem.wpAny_loadPart'); focus (heap_get; done)) | ((with_reducible apply PySem.wpAny_ite_false); focus (rfl; done)) | ((with_reducible apply PySem.wpAny_ite_true); focus (rfl; done)) | ((with_reducible apply PySem.wpAny_ite_false); focus (simp [*]; done)) | ((with_reducible apply PySem.wpAny_ite_true); focus (simp [*]; done)) | wp_delta | with_reducible_and_instances refine PySem.wpAny_pure ?_ | with_reducible_and_instances refine PySem.wpAny_bind ?_)
      rw [hi1]
      repeat (first | with_reducible apply wpAny_loadPart' hl | with_reducible apply wpAny_loadPart' hb | with_reducible (first | refine PySem.wpAny_pure ?_ | refine PySem.wpAny_bind ?_ | refine PySem.wpAny_holding ?_ | refine PySem.wpAny_standAt ?_ | refine PySem.wpAny_point ?_ | refine PySem.wpAny_rule ?_ | refine PySem.wpAny_letGo ?_ | refine PySem.wpAny_mkInt' ?_ | refine PySem.wpAny_throw ?_ | refine PySem.wpAny_of_eq (by assumption) ?_ | refine PySem.wpAny_typeOf (by assumption) ?_) | ((with_reducible apply PySem.wpAny_load'); focus (heap_get; done)) | ((with_reducible apply PySem.wpAny_loadPart'); focus (heap_get; done)) | ((with_reducible apply PySem.wpAny_ite_false); focus (rfl; done)) | ((with_reducible apply PySem.wpAny_ite_true); focus (rfl; done)) | ((with_reducible apply PySem.wpAny_ite_false); focus (simp [*]; done)) | ((with_reducible apply PySem.wpAny_ite_true); focus (simp [*]; done)) | wp_delta | with_reducible_and_instances refine PySem.wpAny_pure ?_ | with_reducible_and_instances refine PySem.wpAny_bind ?_)
      show R (.ok (.ret (.bool (decide ((List.toArray vs).size > (List.toArray ws).size))))) _
      have e : (cmpI [] (ms.drop i) == ordOf false) = decide ((List.toArray vs).size > (List.toArray ws).size) := by
        have : ¬ ((List.toArray vs).size > (List.toArray ws).size) := by simp only [List.size_toArray]; rw [l1, l2]; exact Nat.not_lt.mpr (Nat.le_trans hle0 h2)
        rw [decide_eq_false this]
        cases ms.drop i <;> rfl
      rw [← e]; exact h
    · repeat (first | with_reducible apply wpAny_loadPart' hl | with_reducible apply wpAny_loadPart' hb | with_reducible (first | refine PySem.wpAny_pure ?_ | refine PySem.wpAny_bind ?_ | refine PySem.wpAny_holding ?_ | refine PySem.wpAny_standAt ?_ | refine PySem.wpAny_point ?_ | refine PySem.wpAny_rule ?_ | refine PySem.wpAny_letGo ?_ | refine PySem.wpAny_mkInt' ?_ | refine PySem.wpAny_throw ?_ | refine PySem.wpAny_of_eq (by assumption) ?_ | refine PySem.wpAny_typeOf (by assumption) ?_) | ((with_reducible apply PySem.wpAny_load'); focus (heap_get; done)) | ((with_reducible apply PySem.wpAny_loadPart'); focus (heap_get; done)) | ((with_reducible apply PySem.wpAny_ite_false); focus (rfl; done)) | ((with_reducible apply PySem.wpAny_ite_true); focus (rfl; done)) | ((with_reducible apply PySem.wpAny_ite_false); focus (simp [*]; done)) | ((with_reducible apply PySem.wpAny_ite_true); focus (simp [*]; done)) | wp_delta | with_reducible_and_instances refine PySem.wpAny_pure ?_ | with_reducible_and_instances refine PySem.wpAny_bind ?_)
      rw [hi1]
      repeat (first | with_reducible apply wpAny_loadPart' hl | with_reducible apply wpAny_loadPart' hb | with_reducible (first | refine PySem.wpAny_pure ?_ | refine PySem.wpAny_bind ?_ | refine PySem.wpAny_holding ?_ | refine PySem.wpAny_standAt ?_ | refine PySem.wpAny_point ?_ | refine PySem.wpAny_rule ?_ | refine PySem.wpAny_letGo ?_ | refine PySem.wpAny_mkInt' ?_ | refine PySem.wpAny_throw ?_ | refine PySem.wpAny_of_eq (by assumption) ?_ | refine PySem.wpAny_typeOf (by assumption) ?_) | ((with_reducible apply PySem.wpAny_load'); focus (heap_get; done)) | ((with_reducible apply PySem.wpAny_loadPart'); focus (heap_get; done)) | ((with_reducible apply PySem.wpAny_ite_false); focus (rfl; done)) | ((with_reducible apply PySem.wpAny_ite_true); focus (rfl; done)) | ((with_reducible apply PySem.wpAny_ite_false); focus (simp [*]; done)) | ((with_reducible apply PySem.wpAny_ite_true); focus (simp [*]; done)) | wp_delta | with_reducible_and_instances refine PySem.wpAny_pure ?_ | with_reducible_and_instances refine PySem.wpAny_bind ?_)
      show R (.ok (.ret (.bool (decide ((List.toArray vs).size < (List.toArray ws).size))))) _
      have e : (cmpI [] (ms.drop i) == ordOf true) = decide ((List.toArray vs).size < (List.toArray ws).size) := by
        simp only [List.size_toArray]
        cases hm : ms.drop i with
        | nil =>
          have : ms.length ≤ i := by simpa using hm
          rw [decide_eq_false (by rw [l1, l2]; exact Nat.not_lt.mpr (Nat.le_trans this h1))]; rfl
        | cons a r =>
          have : i < ms.length := by
            rcases Nat.lt_or_ge i ms.length with q | q
            · exact q
            · rw [List.drop_eq_nil_of_le q] at hm; cases hm
          rw [decide_eq_true (by rw [l1, l2]; exact Nat.lt_of_le_of_lt hle0 this)]; rfl
      rw [← e]; exact h
  | succ k ih =>
    intro i hk h1 h2 prog w A R s h
    obtain ⟨hp, g, d, tk, os⟩ := s; obtain ⟨hl, hb, h⟩ := h
    have hlt : i < ns.length := Nat.lt_of_sub_eq_succ hk
    have hk' : ns.length - (i + 1) = k := by rw [Nat.sub_succ, hk]; rfl
    refine ex1 (ints_at hi hlt) fun t1 e1 => ?_
    have hi1 : (List.toArray vs)[((i : Nat) : Int).toNat]? = some (.int ns[i] t1) := by simpa using e1
    have hd1 : ns.drop i = ns[i] :: ns.drop (i + 1) := List.drop_eq_getElem_cons hlt
    rcases Nat.lt_or_ge i ms.length with hlt2 | hge
    · refine ex1 (ints_at hj hlt2) fun t2 e2 => ?_
      have hi2 : (List.toArray ws)[((i : Nat) : Int).toNat]? = some (.int ms[i] t2) := by simpa using e2
      have hd2 : ms.drop i = ms[i] :: ms.drop (i + 1) := List.drop_eq_getElem_cons hlt2
      have hc : ((i : Int) + 1) = ((i + 1 : Nat) : Int) := by push_cast; rfl
      rw [hd1, hd2, cmpI] at h
      generalize ns[i] = x at *
      generalize ms[i] = y at *
      cases up
      · repeat (first | with_reducible apply wpAny_loadPart' hl | with_reducible apply wpAny_loadPart' hb | with_reducible (first | refine PySem.wpAny_pure ?_ | refine PySem.wpAny_bind ?_ | refine PySem.wpAny_holding ?_ | refine PySem.wpAny_standAt ?_ | refine PySem.wpAny_point ?_ | refine PySem.wpAny_rule ?_ | refine PySem.wpAny_letGo ?_ | refine PySem.wpAny_mkInt' ?_ | refine PySem.wpAny_throw ?_ | refine PySem.wpAny_of_eq (by assumption) ?_ | refine PySem.wpAny_typeOf (by assumption) ?_) | ((with_reducible apply PySem.wpAny_load'); focus (heap_get; done)) | ((with_reducible apply PySem.wpAny_loadPart'); focus (heap_get; done)) | ((with_reducible apply PySem.wpAny_ite_false); focus (rfl; done)) | ((with_reducible apply PySem.wpAny_ite_true); focus (rfl; done)) | ((with_reducible apply PySem.wpAny_ite_false); focus (simp [*]; done)) | ((with_reducible apply PySem.wpAny_ite_true); focus (simp [*]; done)) | wp_delta | with_reducible_and_instances refine PySem.wpAny_pure ?_ | with_reducible_and_instances refine PySem.wpAny_bind ?_)
        rw [hi1, hi2]
        refine wpAny_bind (EqGives.int x y t1 t2 prog w _ _ _ _ ?_)
        by_cases hxy : x = y
        · subst hxy
          simp only [Int.lt_irrefl, if_false] at h
          rw [show (x == x) = true from by simp]
          repeat (first | with_reducible (first | refine PySem.wpAny_pure ?_ | refine PySem.wpAny_bind ?_ | refine PySem.wpAny_holding ?_ | refine PySem.wpAny_standAt ?_ | refine PySem.wpAny_point ?_ | refine PySem.wpAny_rule ?_ | refine PySem.wpAny_letGo ?_ | refine PySem.wpAny_mkInt' ?_ | refine PySem.wpAny_throw ?_ | refine PySem.wpAny_of_eq (by assumption) ?_ | refine PySem.wpAny_typeOf (by assumption) ?_) | ((with_reducible apply PySem.wpAny_load'); focus (heap_get; done)) | ((with_reducible apply PySem.wpAny_loadPart'); focus (heap_get; done)) | ((with_reducible apply PySem.wpAny_ite_false); focus (rfl; done)) | ((with_reducible apply PySem.wpAny_ite_true); focus (rfl; done)) | ((with_reducible apply PySem.wpAny_ite_false); focus (simp [*]; done)) | ((with_reducible apply PySem.wpAny_ite_true); focus (simp [*]; done)) | wp_delta | with_reducible_and_instances refine PySem.wpAny_pure ?_ | with_reducible_and_instances refine PySem.wpAny_bind ?_)
          rw [hc]
          exact ⟨plainId_quiet plain_eq_loop _, codeAny_builtin entry_eq_loop (by
            rw [Around.under_plainId plain_eq_loop _]
            exact ih (i + 1) hk' hlt hlt2 prog w A R _ ⟨hl, hb, h⟩)⟩
        · rw [show (x == y) = false from by simpa using hxy]
          repeat (first | with_reducible apply wpAny_loadPart' hl | with_reducible apply wpAny_loadPart' hb | with_reducible (first | refine PySem.wpAny_pure ?_ | refine PySem.wpAny_bind ?_ | refine PySem.wpAny_holding ?_ | refine PySem.wpAny_standAt ?_ | refine PySem.wpAny_point ?_ | refine PySem.wpAny_rule ?_ | refine PySem.wpAny_letGo ?_ | refine PySem.wpAny_mkInt' ?_ | refine PySem.wpAny_throw ?_ | refine PySem.wpAny_of_eq (by assumption) ?_ | refine PySem.wpAny_typeOf (by assumption) ?_) | ((with_reducible apply PySem.wpAny_load'); focus (heap_get; done)) | ((with_reducible apply PySem.wpAny_loadPart'); focus (heap_get; done)) | ((with_reducible apply PySem.wpAny_ite_false); focus (rfl; done)) | ((with_reducible apply PySem.wpAny_ite_true); focus (rfl; done)) | ((with_reducible apply PySem.wpAny_ite_false); focus (simp [*]; done)) | ((with_reducible apply PySem.wpAny_ite_true); focus (simp [*]; done)) | wp_delta | with_reducible_and_instances refine PySem.wpAny_pure ?_ | with_reducible_and_instances refine PySem.wpAny_bind ?_)
          rw [hi1, hi2]
          show wpAny _ _ (richCompare CmpOp.Gt (.int x t1) (.int y t2) >>= fun v => ret v) _ _ _
          refine wpAny_bind (gt_int (wpAny_pure ?_))
          rcases Int.lt_trichotomy x y with q | q | q
          · rw [if_pos q] at h
            first
              | (rw [decide_eq_true q]; exact h)
              | (rw [decide_eq_false (Int.not_lt.mpr (Int.le_of_lt q))]; exact h)
          · exact absurd q hxy
          · rw [if_neg (Int.not_lt.mpr (Int.le_of_lt q)), if_pos q] at h
            first
              | (rw [decide_eq_true (show x > y from q)]; exact h)
              | (rw [decide_eq_false (Int.not_lt.mpr (Int.le_of_lt q))]; exact h)
      · repeat (first | with_reducible apply wpAny_loadPart' hl | with_reducible apply wpAny_loadPart' hb | with_reducible (first | refine PySem.wpAny_pure ?_ | refine PySem.wpAny_bind ?_ | refine PySem.wpAny_holding ?_ | refine PySem.wpAny_standAt ?_ | refine PySem.wpAny_point ?_ | refine PySem.wpAny_rule ?_ | refine PySem.wpAny_letGo ?_ | refine PySem.wpAny_mkInt' ?_ | refine PySem.wpAny_throw ?_ | refine PySem.wpAny_of_eq (by assumption) ?_ | refine PySem.wpAny_typeOf (by assumption) ?_) | ((with_reducible apply PySem.wpAny_load'); focus (heap_get; done)) | ((with_reducible apply PySem.wpAny_loadPart'); focus (heap_get; done)) | ((with_reducible apply PySem.wpAny_ite_false); focus (rfl; done)) | ((with_reducible apply PySem.wpAny_ite_true); focus (rfl; done)) | ((with_reducible apply PySem.wpAny_ite_false); focus (simp [*]; done)) | ((with_reducible apply PySem.wpAny_ite_true); focus (simp [*]; done)) | wp_delta | with_reducible_and_instances refine PySem.wpAny_pure ?_ | with_reducible_and_instances refine PySem.wpAny_bind ?_)
        rw [hi1, hi2]
        refine wpAny_bind (EqGives.int x y t1 t2 prog w _ _ _ _ ?_)
        by_cases hxy : x = y
        · subst hxy
          simp only [Int.lt_irrefl, if_false] at h
          rw [show (x == x) = true from by simp]
          repeat (first | with_reducible (first | refine PySem.wpAny_pure ?_ | refine PySem.wpAny_bind ?_ | refine PySem.wpAny_holding ?_ | refine PySem.wpAny_standAt ?_ | refine PySem.wpAny_point ?_ | refine PySem.wpAny_rule ?_ | refine PySem.wpAny_letGo ?_ | refine PySem.wpAny_mkInt' ?_ | refine PySem.wpAny_throw ?_ | refine PySem.wpAny_of_eq (by assumption) ?_ | refine PySem.wpAny_typeOf (by assumption) ?_) | ((with_reducible apply PySem.wpAny_load'); focus (heap_get; done)) | ((with_reducible apply PySem.wpAny_loadPart'); focus (heap_get; done)) | ((with_reducible apply PySem.wpAny_ite_false); focus (rfl; done)) | ((with_reducible apply PySem.wpAny_ite_true); focus (rfl; done)) | ((with_reducible apply PySem.wpAny_ite_false); focus (simp [*]; done)) | ((with_reducible apply PySem.wpAny_ite_true); focus (simp [*]; done)) | wp_delta | with_reducible_and_instances refine PySem.wpAny_pure ?_ | with_reducible_and_instances refine PySem.wpAny_bind ?_)
          rw [hc]
          exact ⟨plainId_quiet plain_eq_loop _, codeAny_builtin entry_eq_loop (by
            rw [Around.under_plainId plain_eq_loop _]
            exact ih (i + 1) hk' hlt hlt2 prog w A R _ ⟨hl, hb, h⟩)⟩
        · rw [show (x == y) = false from by simpa using hxy]
          repeat (first | with_reducible apply wpAny_loadPart' hl | with_reducible apply wpAny_loadPart' hb | with_reducible (first | refine PySem.wpAny_pure ?_ | refine PySem.wpAny_bind ?_ | refine PySem.wpAny_holding ?_ | refine PySem.wpAny_standAt ?_ | refine PySem.wpAny_point ?_ | refine PySem.wpAny_rule ?_ | refine PySem.wpAny_letGo ?_ | refine PySem.wpAny_mkInt' ?_ | refine PySem.wpAny_throw ?_ | refine PySem.wpAny_of_eq (by assumption) ?_ | refine PySem.wpAny_typeOf (by assumption) ?_) | ((with_reducible apply PySem.wpAny_load'); focus (heap_get; done)) | ((with_reducible apply PySem.wpAny_loadPart'); focus (heap_get; done)) | ((with_reducible apply PySem.wpAny_ite_false); focus (rfl; done)) | ((with_reducible apply PySem.wpAny_ite_true); focus (rfl; done)) | ((with_reducible apply PySem.wpAny_ite_false); focus (simp [*]; done)) | ((with_reducible apply PySem.wpAny_ite_true); focus (simp [*]; done)) | wp_delta | with_reducible_and_instances refine PySem.wpAny_pure ?_ | with_reducible_and_instances refine PySem.wpAny_bind ?_)
          rw [hi1, hi2]
          show wpAny _ _ (richCompare CmpOp.Lt (.int x t1) (.int y t2) >>= fun v => ret v) _ _ _
          refine wpAny_bind (lt_int (wpAny_pure ?_))
          rcases Int.lt_trichotomy x y with q | q | q
          · rw [if_pos q] at h
            first
              | (rw [decide_eq_true q]; exact h)
              | (rw [decide_eq_false (Int.not_lt.mpr (Int.le_of_lt q))]; exact h)
          · exact absurd q hxy
          · rw [if_neg (Int.not_lt.mpr (Int.le_of_lt q)), if_pos q] at h
            first
              | (rw [decide_eq_true (show x > y from q)]; exact h)
              | (rw [decide_eq_false (Int.not_lt.mpr (Int.le_of_lt q))]; exact h)
    · have hi2 : (List.toArray ws)[((i : Nat) : Int).toNat]? = none := by simp; rw [l2]; exact hge
      have hd2 : ms.drop i = [] := List.drop_eq_nil_of_le hge
      rw [hd1, hd2] at h
      cases up
      · repeat (first | with_reducible apply wpAny_loadPart' hl | with_reducible apply wpAny_loadPart' hb | with_reducible (first | refine PySem.wpAny_pure ?_ | refine PySem.wpAny_bind ?_ | refine PySem.wpAny_holding ?_ | refine PySem.wpAny_standAt ?_ | refine PySem.wpAny_point ?_ | refine PySem.wpAny_rule ?_ | refine PySem.wpAny_letGo ?_ | refine PySem.wpAny_mkInt' ?_ | refine PySem.wpAny_throw ?_ | refine PySem.wpAny_of_eq (by assumption) ?_ | refine PySem.wpAny_typeOf (by assumption) ?_) | ((with_reducible apply PySem.wpAny_load'); focus (heap_get; done)) | ((with_reducible apply PySem.wpAny_loadPart'); focus (heap_get; done)) | ((with_reducible apply PySem.wpAny_ite_false); focus (rfl; done)) | ((with_reducible apply PySem.wpAny_ite_true); focus (rfl; done)) | ((with_reducible apply PySem.wpAny_ite_false); focus (simp [*]; done)) | ((with_reducible apply PySem.wpAny_ite_true); focus (simp [*]; done)) | wp_delta | with_reducible_and_instances refine PySem.wpAny_pure ?_ | with_reducible_and_instances refine PySem.wpAny_bind ?_)
        rw [hi1, hi2]
        repeat (first | with_reducible apply wpAny_loadPart' hl | with_reducible apply wpAny_loadPart' hb | with_reducible (first | refine PySem.wpAny_pure ?_ | refine PySem.wpAny_bind ?_ | refine PySem.wpAny_holding ?_ | refine PySem.wpAny_standAt ?_ | refine PySem.wpAny_point ?_ | refine PySem.wpAny_rule ?_ | refine PySem.wpAny_letGo ?_ | refine PySem.wpAny_mkInt' ?_ | refine PySem.wpAny_throw ?_ | refine PySem.wpAny_of_eq (by assumption) ?_ | refine PySem.wpAny_typeOf (by assumption) ?_) | ((with_reducible apply PySem.wpAny_load'); focus (heap_get; done)) | ((with_reducible apply PySem.wpAny_loadPart'); focus (heap_get; done)) | ((with_reducible apply PySem.wpAny_ite_false); focus (rfl; done)) | ((with_reducible apply PySem.wpAny_ite_true); focus (rfl; done)) | ((with_reducible apply PySem.wpAny_ite_false); focus (simp [*]; done)) | ((with_reducible apply PySem.wpAny_ite_true); focus (simp [*]; done)) | wp_delta | with_reducible_and_instances refine PySem.wpAny_pure ?_ | with_reducible_and_instances refine PySem.wpAny_bind ?_)
        show R (.ok (.ret (.bool (decide ((List.toArray vs).size > (List.toArray ws).size))))) _
        simp only [List.size_toArray]
        rw [decide_eq_true (by rw [l1, l2]; exact Nat.lt_of_le_of_lt hge hlt)]; exact h
      · repeat (first | with_reducible apply wpAny_loadPart' hl | with_reducible apply wpAny_loadPart' hb | with_reducible (first | refine PySem.wpAny_pure ?_ | refine PySem.wpAny_bind ?_ | refine PySem.wpAny_holding ?_ | refine PySem.wpAny_standAt ?_ | refine PySem.wpAny_point ?_ | refine PySem.wpAny_rule ?_ | refine PySem.wpAny_letGo ?_ | refine PySem.wpAny_mkInt' ?_ | refine PySem.wpAny_throw ?_ | refine PySem.wpAny_of_eq (by assumption) ?_ | refine PySem.wpAny_typeOf (by assumption) ?_) | ((with_reducible apply PySem.wpAny_load'); focus (heap_get; done)) | ((with_reducible apply PySem.wpAny_loadPart'); focus (heap_get; done)) | ((with_reducible apply PySem.wpAny_ite_false); focus (rfl; done)) | ((with_reducible apply PySem.wpAny_ite_true); focus (rfl; done)) | ((with_reducible apply PySem.wpAny_ite_false); focus (simp [*]; done)) | ((with_reducible apply PySem.wpAny_ite_true); focus (simp [*]; done)) | wp_delta | with_reducible_and_instances refine PySem.wpAny_pure ?_ | with_reducible_and_instances refine PySem.wpAny_bind ?_)
        rw [hi1, hi2]
        repeat (first | with_reducible apply wpAny_loadPart' hl | with_reducible apply wpAny_loadPart' hb | with_reducible (first | refine PySem.wpAny_pure ?_ | refine PySem.wpAny_bind ?_ | refine PySem.wpAny_holding ?_ | refine PySem.wpAny_standAt ?_ | refine PySem.wpAny_point ?_ | refine PySem.wpAny_rule ?_ | refine PySem.wpAny_letGo ?_ | refine PySem.wpAny_mkInt' ?_ | refine PySem.wpAny_throw ?_ | refine PySem.wpAny_of_eq (by assumption) ?_ | refine PySem.wpAny_typeOf (by assumption) ?_) | ((with_reducible apply PySem.wpAny_load'); focus (heap_get; done)) | ((with_reducible apply PySem.wpAny_loadPart'); focus (heap_get; done)) | ((with_reducible apply PySem.wpAny_ite_false); focus (rfl; done)) | ((with_reducible apply PySem.wpAny_ite_true); focus (rfl; done)) | ((with_reducible apply PySem.wpAny_ite_false); focus (simp [*]; done)) | ((with_reducible apply PySem.wpAny_ite_true); focus (simp [*]; done)) | wp_delta | with_reducible_and_instances refine PySem.wpAny_pure ?_ | with_reducible_and_instances refine PySem.wpAny_bind ?_)
        show R (.ok (.ret (.bool (decide ((List.toArray vs).size < (List.toArray ws).size))))) _
        simp only [List.size_toArray]
        rw [decide_eq_false (by rw [l1, l2]; exact Nat.not_lt.mpr (Nat.le_trans hge (Nat.le_of_lt hlt)))]; exact h
end Mine
namespace Mine
open AutoSeq1 (wpAny_loadPart')
open MeetsSeq MeetsSeq3
theorem list_lt (l b : Addr) (vs ws : List Value) (ns ms : List Int) (hi : IntsAre vs ns) (hj : IntsAre ws ms) (n n2 : Nat) :
    Meets (Builtin.«list.__lt__» ⟨[.ref l, .ref b], []⟩)
      (fun _ R s => s.heap.get? l = some { cls := .type "list", dict := none, data := .seq (List.toArray vs) n, slots := #[] } ∧ s.heap.get? b = some { cls := .type "list", dict := none, data := .seq (List.toArray ws) n2, slots := #[] } ∧
        R (.ok (.ret (.bool (cmpI ns ms == .lt)))) s) := by
  intro prog w A R s h
  obtain ⟨hp, g, d, tk, os⟩ := s; obtain ⟨hl, hb, h⟩ := h
  have f3 := AutoSeq1.sub_list_list
  repeat (first | with_reducible apply wpAny_loadPart' hl | with_reducible apply wpAny_loadPart' hb | with_reducible (first | refine PySem.wpAny_pure ?_ | refine PySem.wpAny_bind ?_ | refine PySem.wpAny_holding ?_ | refine PySem.wpAny_standAt ?_ | refine PySem.wpAny_point ?_ | refine PySem.wpAny_rule ?_ | refine PySem.wpAny_letGo ?_ | refine PySem.wpAny_mkInt' ?_ | refine PySem.wpAny_throw ?_ | refine PySem.wpAny_of_eq (by assumption) ?_ | refine PySem.wpAny_typeOf (by assumption) ?_) | ((with_reducible apply PySem.wpAny_load'); focus (heap_get; done)) | ((with_reducible apply PySem.wpAny_loadPart'); focus (heap_get; done)) | ((with_reducible apply PySem.wpAny_ite_false); focus (rfl; done)) | ((with_reducible apply PySem.wpAny_ite_true); focus (rfl; done)) | ((with_reducible apply PySem.wpAny_ite_false); focus (simp [*]; done)) | ((with_reducible apply PySem.wpAny_ite_true); focus (simp [*]; done)) | wp_delta | with_reducible_and_instances refine PySem.wpAny_pure ?_ | with_reducible_and_instances refine PySem.wpAny_bind ?_)
  exact ⟨plainId_quiet plain_eq_loop _, codeAny_builtin entry_eq_loop (by
    rw [Around.under_plainId plain_eq_loop _]
    exact lt_loop true l b vs ws ns ms hi hj n n2 _ 0 rfl (Nat.zero_le _) (Nat.zero_le _) prog w A R _ ⟨hl, hb, h⟩)⟩
theorem list_gt (l b : Addr) (vs ws : List Value) (ns ms : List Int) (hi : IntsAre vs ns) (hj : IntsAre ws ms) (n n2 : Nat) :
    Meets (Builtin.«list.__gt__» ⟨[.ref l, .ref b], []⟩)
      (fun _ R s => s.heap.get? l = some { cls := .type "list", dict := none, data := .seq (List.toArray vs) n, slots := #[] } ∧ s.heap.get? b = some { cls := .type "list", dict := none, data := .seq (List.toArray ws) n2, slots := #[] } ∧
        R (.ok (.ret (.bool (cmpI ns ms == .gt)))) s) := by
  intro prog w A R s h
  obtain ⟨hp, g, d, tk, os⟩ := s; obtain ⟨hl, hb, h⟩ := h
  have f3 := AutoSeq1.sub_list_list
  repeat (first | with_reducible apply wpAny_loadPart' hl | with_reducible apply wpAny_loadPart' hb | with_reducible (first | refine PySem.wpAny_pure ?_ | refine PySem.wpAny_bind ?_ | refine PySem.wpAny_holding ?_ | refine PySem.wpAny_standAt ?_ | refine PySem.wpAny_point ?_ | refine PySem.wpAny_rule ?_ | refine PySem.wpAny_letGo ?_ | refine PySem.wpAny_mkInt' ?_ | refine PySem.wpAny_throw ?_ | refine PySem.wpAny_of_eq (by assumption) ?_ | refine PySem.wpAny_typeOf (by assumption) ?_) | ((with_reducible apply PySem.wpAny_load'); focus (heap_get; done)) | ((with_reducible apply PySem.wpAny_loadPart'); focus (heap_get; done)) | ((with_reducible apply PySem.wpAny_ite_false); focus (rfl; done)) | ((with_reducible apply PySem.wpAny_ite_true); focus (rfl; done)) | ((with_reducible apply PySem.wpAny_ite_false); focus (simp [*]; done)) | ((with_reducible apply PySem.wpAny_ite_true); focus (simp [*]; done)) | wp_delta | with_reducible_and_instances refine PySem.wpAny_pure ?_ | with_reducible_and_instances refine PySem.wpAny_bind ?_)
  exact ⟨plainId_quiet plain_eq_loop _, codeAny_builtin entry_eq_loop (by
    rw [Around.under_plainId plain_eq_loop _]
    exact lt_loop false l b vs ws ns ms hi hj n n2 _ 0 rfl (Nat.zero_le _) (Nat.zero_le _) prog w A R _ ⟨hl, hb, h⟩)⟩
section
variable {prog : Program} {w : World} {A : Around} {E : Value → Shared → Prop} {s : Shared} {Q : Value → Shared → Prop}
/-- a plain list object of ints -/
noncomputable def LInts (h : Heap) (l : Addr) (ns : List Int) : Prop := ∃ vs n, h.get? l = some (PySem.W.listOf (List.toArray vs) n) ∧ IntsAre vs ns
theorem LInts.keep {h h' : Heap} {l : Addr} {ns : List Int} (x : LInts h l ns) (k : ∀ b o, h.get? b = some o → h'.get? b = some o) : LInts h' l ns :=
  let ⟨vs, n, e, i⟩ := x; (exi2 vs n ⟨k _ _ e, i⟩)
theorem lt_lists {l b : Addr} {ns ms : List Int} (hu : A.units < cLine) (hl : LInts s.heap l ns) (hb : LInts s.heap b ms) (h : Q (.bool (cmpI ns ms == .lt)) s) : wpAny (model prog w) A (compareOp .Lt (.ref l) (.ref b)) Q E s := by
  refine ex2 hl fun vs n hz249 => an2 hz249 fun e1 i1 => ?_
  clear hz249
  try clear hl
  refine ex2 hb fun ws n2 hz248 => an2 hz248 fun e2 i2 => ?_
  clear hz248
  try clear hb
  exact richCompare_meets_room (op := .Lt) ⟨_, e1, rfl⟩ ⟨_, e2, rfl⟩ F.slot_list_lt F.entry_list_lt (F.args_list_lt_2 _ _) (list_lt l b vs ws ns ms i1 i2 n n2) ⟨e1, e2, (fun e => nomatch e), h⟩ hu
theorem gt_lists {l b : Addr} {ns ms : List Int} (hu : A.units < cLine) (hl : LInts s.heap l ns) (hb : LInts s.heap b ms) (h : Q (.bool (cmpI ns ms == .gt)) s) : wpAny (model prog w) A (compareOp .Gt (.ref l) (.ref b)) Q E s := by
  refine ex2 hl fun vs n hz247 => an2 hz247 fun e1 i1 => ?_
  clear hz247
  try clear hl
  refine ex2 hb fun ws n2 hz246 => an2 hz246 fun e2 i2 => ?_
  clear hz246
  try clear hb
  exact richCompare_meets_room (op := .Gt) ⟨_, e1, rfl⟩ ⟨_, e2, rfl⟩ F.slot_list_gt F.entry_list_gt (F.args_list_gt_2 _ _) (list_gt l b vs ws ns ms i1 i2 n n2) ⟨e1, e2, (fun e => nomatch e), h⟩ hu
end
end Mine
end

section
open PySem PySem.W PyProof.Rows PySem.Calls Builtin
namespace Mine
theorem slot_bytes_join : Slot "bytes" "join" "bytes.join" :=
  .of (owner := "bytes") (n := "join") (by rw [typeLookup_type, builtinLookup_eq_fast]; kernel_rfl) (by decide +kernel) (by decide +kernel) (by decide +kernel)
    (by first | exact .inl (by decide +kernel) | exact .inr (by decide +kernel)) (by rw [isSubtype_type]; kernel_rfl)
theorem type_bytes_join : typeOf (.builtin "bytes.join") = pure (.type "method_descriptor") := by show builtinType _ = _; rw [builtinType_eq_fast]; kernel_rfl
theorem entry_bytes_join : entryFor table "bytes.join" = some Builtin.«bytes.join» := entryFor_of_tree (by kernel_rfl)
theorem args_bytes_join (a b : Value) : argsOk "bytes.join" ⟨[a, b], []⟩ := by
  unfold argsOk; rw [signature?_of (id := "bytes.join") (n := ['n', 'i', 'o', 'j']) (o := ['s', 'e', 't', 'y', 'b']) (by kernel_rfl) PySem.W.FB.owner_bytes]; kernel_rfl
theorem meth_join {M : Model} {A : Around} {E : Value → Shared → Prop} {s : Shared} {b : Array UInt8} {t : Tok} {pl : Sem Bool} {Q : Value × List Value → Shared → Prop} (h : Q (.builtin "bytes.join", [.bytes b t]) s) : wpAny M A (getMethod (.bytes b t) "join" pl) Q E s := by
  with_reducible exact KBd.method_of (.bytes b t) (typeIs_bytes _ _ _) slot_bytes_join type_bytes_join KBd.noRef h
theorem takes (id : String) (b : Array UInt8) (t : Tok) : Bytes.takeBufferQuiet? id (.bytes b t) 0 = pure (some (b, none)) := by kernel_rfl
section
variable {prog : Program} {w : World} {A : Around} {E : Value → Shared → Prop} {s : Shared}
theorem loop_gen {M : Model} {β : Type} {body : Nat → β → Sem (ForInStep β)} (J : Nat → β → Prop) {n : Nat} {Q : β → Shared → Prop}
    (hb : ∀ i b (R : ForInStep β → Shared → Prop), i < n → J i b → (∀ b', J (i + 1) b' → R (.yield b') s) → wpAny M A (body i b) R E s) {b₀ : β} (h0 : J 0 b₀) (h : ∀ b, J n b → Q b s) :
    wpAny M A (forIn [:n] b₀ body) Q E s := by
  rw [Std.Legacy.Range.forIn_eq_forIn_range']
  simp only [Std.Legacy.Range.size, Nat.sub_zero, Nat.add_sub_cancel, Nat.div_one]
  have key : ∀ k i b, i + k = n → J i b → wpAny M A (forIn (List.range' i k) b body) Q E s := by
    intro k
    induction k with
    | zero =>
      intro i b hi hJ
      rw [List.range'_zero, List.forIn_nil]
      exact wpAny_pure (h b (by rwa [show n = i by lia]))
    | succ k ih =>
      intro i b hi hJ
      rw [List.range'_succ, List.forIn_cons]
      refine wpAny_bind (hb i b _ (by lia) hJ fun b' hJ' => ?_)
      exact ih (i + 1) b' (by lia) hJ'
  exact key n 0 b₀ (by lia) h0
theorem let_go1 {M : Model} {xs ks : List Value} {Q : Unit → Shared → Prop} (h : Q () s) : wpAny M A (letGo xs ks) Q E s := by
  induction xs with
  | nil => exact wpAny_pure h
  | cons x xs ih => exact wpAny_bind (wpAny_holding (wpAny_point ih))
theorem join_go {M : Model} {keep : List Value} {Q : Unit → Shared → Prop} (h : Q () s) : ∀ (l : List (Value × Option Value)), (∀ p ∈ l, p.2 = none) → wpAny M A (Bytes.joinLetGo l keep) Q E s
  | [], _ => wpAny_pure h
  | (x, w) :: l, hl => by
    obtain rfl : w = none := hl _ (.head _)
    exact wpAny_bind (m := letGo _ _) (let_go1 (join_go h l fun p hp => hl p (.tail _ hp)))
theorem sum_sizes : ∀ (l : List (Array UInt8)) (k : Nat), l.foldl (fun x1 (x2 : Array UInt8) => x1 + x2.size) k = k + (l.map (·.size)).sum
  | [], k => rfl
  | a :: l, k => by rw [List.foldl_cons, sum_sizes l]; simp; lia
theorem joined_nil (bs : List (Array UInt8)) : Bytes.joined #[] bs = (bs.flatMap fun b => b.toList).toArray := by
  have key : ∀ (l : List (Array UInt8)) (i : Nat) (out : Array UInt8), ((l.zipIdx i).foldl (fun (out : Array UInt8) (x : Array UInt8 × Nat) => (if x.2 > 0 then out ++ #[] else out) ++ x.1) out).toList = out.toList ++ l.flatMap fun b => b.toList := by
    intro l
    induction l with
    | nil => intro i out; simp
    | cons a l ih =>
      intro i out
      rw [List.zipIdx_cons, List.foldl_cons, ih]
      simp
  apply Array.toList_inj.mp
  have := key bs 0 #[]
  unfold Bytes.joined
  simpa using this
theorem pick2w {α : Type} {M : Model} {items : Array Value} (h : items.size ≠ 1) {f : Value → Sem α} {g : Array Value → Sem α} {Q : α → Shared → Prop} (q : wpAny M A (g items) Q E s) : wpAny M A (Bytes.joinM.match_1 (fun _ => Sem α) items f g) Q E s := by
  have e : Bytes.joinM.match_1 (fun _ => Sem α) items f g = g items := by
    unfold Bytes.joinM.match_1
    exact dif_neg h
  rw [e]; exact q
theorem join_taken {id : String} {α : Type} {b : Array UInt8} {tb : Tok} {xs : List Value} {f : Option (Array UInt8 × Option Value) → Sem α} {Q : α → Shared → Prop} (h : wpAny (model prog w) A (f (some (b, none))) Q E s) :
    wpAny (model prog w) A (holding xs (Bytes.takeBufferQuiet? id (.bytes b tb) 0) >>= f) Q E s := by
  rw [takes]
  exact wpAny_bind (wpAny_holding (wpAny_pure h))
theorem join_entry {l : Addr} {vs : List Value} {bs : List (Array UInt8)} {t : Tok} {P : PySem.Fin → Shared → Prop} (hl : s.heap.IsList l vs.toArray) (h2 : 2 ≤ vs.length) (hn : vs.length = bs.length)
    (hv : ∀ i : Nat, i < vs.length → ∃ b t, vs[i]? = some (.bytes b t) ∧ bs[i]? = some b) (hz : (bs.map (·.size)).sum ≤ 1000)
    (h : ∀ tk tk', P (.done (.ret (.bytes (bs.flatMap fun b => b.toList).toArray tk))) { s with toks := tk' }) :
    wpAny (model prog w) A (Builtin.«bytes.join» ⟨[.bytes #[] t, .ref l], []⟩) P E s := by
  refine ex1 (id hl) fun o hz95 => an3 hz95 fun ho hc hz96 => ex1 hz96 fun ne hd => ?_
  clear hz95 hz96
  refine wpAny_bind (m := selfAndOne _ _) (wpAny_pure (a := (Value.bytes #[] t, Value.ref l)) ?_)
  refine wpAny_bind (m := Bytes.joinItems (.ref l)) (wpAny_bind (m := typeOf (.ref l)) (wpAny_typeOf hl.typeIs (ifP (by decide) (wpAny_pure ?_))))
  refine wpAny_bind (m := seqItems? (.ref l)) (wpAny_seqItems ho hd ?_)
  refine ifP rfl ?_
  refine pick2w (show vs.toArray.size ≠ 1 by rw [List.size_toArray]; exact Nat.ne_of_gt h2) ?_
  refine wpAny_bind (loop_gen (fun i (r : Array (Array UInt8) × List (Value × Option Value)) => r.1.toList = bs.take i ∧ ∀ p ∈ r.2, p.2 = none ∧ p.1.onHeap = false) ?_ ⟨rfl, fun _ h => nomatch h⟩ ?_)
  · intro i r R hi hz11
    refine an2 hz11 fun hp ht => ?_
    clear hz11
    intro hR
    rw [List.size_toArray] at hi
    refine ex2 (hv i hi) fun b tb hz94 => an2 hz94 fun e1 e2 => ?_
    clear hz94
    have eg : vs.toArray.getD i Value.none = .bytes b tb := by
      rw [Array.getD_eq_getD_getElem?]; simp [e1]
    have hR' := hR (r.1.push b, r.2 ++ [(.bytes b tb, none)]) ⟨by rw [Array.toList_push, hp, take_succ e2], fun p hp' => by
      rcases List.mem_append.mp hp' with q | q
      · exact ht p q
      · rw [List.mem_singleton.mp q]; exact ⟨rfl, rfl⟩⟩
    have hany : (r.2.any fun x => x.1.onHeap) = false := by
      rw [List.any_eq_false]
      intro p hp'
      rw [(ht p hp').2]; exact Bool.false_ne_true
    refine wpAny_bind (m := seqItems? (.ref l)) (wpAny_seqItems ho hd ?_)
    refine ifN (show ¬ (Bytes.Kind.bytes == Bytes.Kind.bytearray || r.2.any fun x => x.1.onHeap) = true by rw [hany]; decide) ?_
    show wpAny _ _ (holding (vs.toArray.getD i Value.none :: _) (Bytes.takeBufferQuiet? _ (vs.toArray.getD i Value.none) 0) >>= _) _ _ _
    rw [eg]
    refine join_taken ?_
    refine wpAny_bind (m := seqItems? (.ref l)) (wpAny_seqItems ho hd ?_)
    exact ifN (show ¬ (vs.toArray.size != vs.toArray.size) = true by simp) (wpAny_pure hR')
  · intro r hz13
    refine an2 hz13 fun hp ht => ?_
    clear hz13
    have hpb : r.1.toList = bs := by rw [hp, List.take_of_length_le (by rw [List.size_toArray, hn]; exact Nat.le_refl _)]
    refine wpAny_bind (m := Bytes.payload (.bytes #[] t)) (wpAny_of_eq (a := #[]) rfl ?_)
    have hsum : Array.foldl (fun x1 (x2 : Array UInt8) => x1 + x2.size) ((#[] : Array UInt8).size * (r.1.size - 1)) r.1 ≤ 1000 := by
      rw [← Array.foldl_toList, hpb, sum_sizes]
      simpa using hz
    have hj : Bytes.joined #[] r.1.toList = (bs.flatMap fun b => b.toList).toArray := by rw [hpb]; exact joined_nil bs
    have hjz : (bs.flatMap fun b => b.toList).toArray.size ≤ 1000 := by
      rw [List.size_toArray, List.length_flatMap]
      simpa using hz
    refine ifN (show ¬ Bytes.tooLong _ = true by unfold Bytes.tooLong; rw [decide_eq_true_eq, sizeLine_eq]; exact Nat.not_lt.mpr (Nat.le_trans hsum (by decide))) ?_
    refine wpAny_bind (m := mkBytes (Bytes.joined #[] r.1.toList)) ?_
    rw [hj]
    refine wpAny_mkBytes ?_ (Nat.le_trans hjz (by rw [sizeLine_eq]; decide))
    exact wpAny_bind (wpAny_holding (wpAny_point (wpAny_bind (join_go (wpAny_pure (h _ _)) r.2 fun p hp' => (ht p hp').1))))
theorem call_join {l : Addr} {vs : List Value} {bs : List (Array UInt8)} {t : Tok} {Q : Value → Shared → Prop} (hl : s.heap.IsList l vs.toArray) (h2 : 2 ≤ vs.length) (hn : vs.length = bs.length)
    (hv : ∀ i : Nat, i < vs.length → ∃ b t, vs[i]? = some (.bytes b t) ∧ bs[i]? = some b) (hz : (bs.map (·.size)).sum ≤ 1000)
    (h : ∀ tk tk', Q (.bytes (bs.flatMap fun b => b.toList).toArray tk) { s with toks := tk' }) :
    wpAny (model prog w) A (call (.builtin "bytes.join") [.bytes #[] t, .ref l]) Q E s :=
  wpAny_call_entry slot_bytes_join (typeIs_bytes s #[] t) entry_bytes_join (join_entry hl h2 hn hv hz fun tk tk' => ⟨_, rfl, h tk tk'⟩) (args_bytes_join _ _)
end
end Mine
end

section
/-! plain law, part 3: length, value and order of sextets -/
namespace Mine
theorem em_size : ∀ (l : List Nat) (p : Nat), (em 0 p l).length = (4 * l.length + 2) / 3 ∧ (em 1 p l).length = (4 * l.length + 3) / 3 ∧ (em 2 p l).length = (4 * l.length + 4) / 3
  | [], p => by simp [em]
  | x :: r, p => by
    have := em_size r x
    simp only [em, List.length_cons]
    rw [this.1, this.2.1, this.2.2]
    exact ⟨(Nat.add_div_right (4 * r.length + 3) (show 0 < 3 by decide)).symm, (Nat.add_div_right (4 * r.length + 4) (show 0 < 3 by decide)).symm,
      ((Nat.add_div_right (4 * r.length + 2 + 3) (show 0 < 3 by decide)).trans (congrArg Nat.succ (Nat.add_div_right (4 * r.length + 2) (show 0 < 3 by decide)))).symm⟩
noncomputable def valN (b a : Nat) (l : List Nat) : Nat := l.foldl (fun n f => n * b + f) a
theorem valN_cons (b a x : Nat) (l : List Nat) : valN b a (x :: l) = valN b (a * b + x) l := rfl
theorem em_value : ∀ (l : List Nat) (p S : Nat),
    valN 64 S (em 0 p l) * 256 ^ l.length = valN 256 S l * 64 ^ (em 0 p l).length ∧
    valN 64 S (em 1 p l) * 4 * 256 ^ l.length = valN 256 (S * 4 + p % 4) l * 64 ^ (em 1 p l).length ∧
    valN 64 S (em 2 p l) * 16 * 256 ^ l.length = valN 256 (S * 16 + p % 16) l * 64 ^ (em 2 p l).length
  | [], p, S => by
    refine ⟨rfl, ?_, ?_⟩
    · show (S * 64 + p % 4 * 16) * 4 * 1 = (S * 4 + p % 4) * 64
      lia
    · show (S * 64 + p % 16 * 4) * 16 * 1 = (S * 16 + p % 16) * 64
      lia
  | x :: r, p, S => by
    refine ⟨?_, ?_, ?_⟩
    · have h := (em_value r x (S * 64 + x / 4)).2.1
      rw [show (S * 64 + x / 4) * 4 + x % 4 = S * 256 + x by lia] at h
      simp only [em, valN_cons, List.length_cons, Nat.pow_succ]
      generalize valN 64 (S * 64 + x / 4) (em 1 x r) = a at *
      generalize valN 256 (S * 256 + x) r = b at *
      generalize 256 ^ r.length = c at *
      generalize 64 ^ (em 1 x r).length = d at *
      grind
    · have h := (em_value r x (S * 64 + (p % 4 * 16 + x / 16))).2.2
      rw [show (S * 64 + (p % 4 * 16 + x / 16)) * 16 + x % 16 = (S * 4 + p % 4) * 256 + x by lia] at h
      simp only [em, valN_cons, List.length_cons, Nat.pow_succ]
      generalize valN 64 (S * 64 + (p % 4 * 16 + x / 16)) (em 2 x r) = a at *
      generalize valN 256 ((S * 4 + p % 4) * 256 + x) r = b at *
      generalize 256 ^ r.length = c at *
      generalize 64 ^ (em 2 x r).length = d at *
      grind
    · have h := (em_value r x ((S * 64 + (p % 16 * 4 + x / 64)) * 64 + x % 64)).1
      rw [show (S * 64 + (p % 16 * 4 + x / 64)) * 64 + x % 64 = (S * 16 + p % 16) * 256 + x by lia] at h
      simp only [em, valN_cons, List.length_cons, Nat.pow_succ]
      rw [show (S * 64 + (p % 16 * 4 + x / 64)) * 64 + x % 64 = (S * 16 + p % 16) * 256 + x by lia]
      generalize valN 64 ((S * 16 + p % 16) * 256 + x) (em 0 x r) = a at *
      generalize valN 256 ((S * 16 + p % 16) * 256 + x) r = b at *
      generalize 256 ^ r.length = c at *
      generalize 64 ^ (em 0 x r).length = d at *
      grind
theorem sext_size (l : List Nat) : (sext l).length = (4 * l.length + 2) / 3 := (em_size l 0).1
theorem sext_value (l : List Nat) : valN 64 0 (sext l) * 256 ^ l.length = valN 256 0 l * 64 ^ (sext l).length := (em_value l 0 0).1
theorem cmpL_lt {x y : Nat} {a b : List Nat} (h : x < y) : cmpL (x :: a) (y :: b) = .lt := by simp [cmpL, h]
theorem cmpL_gt {x y : Nat} {a b : List Nat} (h : y < x) : cmpL (x :: a) (y :: b) = .gt := by
  have : ¬ x < y := Nat.lt_asymm h
  simp [cmpL, h, this]
theorem cmpL_eq {x : Nat} {a b : List Nat} : cmpL (x :: a) (x :: b) = cmpL a b := by simp [cmpL]
theorem mulLt {a b : Nat} (m : Nat) (hm : 0 < m) (h : a < b) : a * m < b * m := (Nat.mul_lt_mul_right hm).mpr h
theorem stLt {a b c m : Nat} (h : a < b) (hc : c < m) : a * m + c < b * m := Nat.lt_of_lt_of_le (Nat.add_lt_add_left hc _) (by rw [← Nat.succ_mul]; exact Nat.mul_le_mul_right m h)
theorem em1_lt {p q : Nat} (h : p % 4 < q % 4) {a b : List Nat} (ha : ∀ z ∈ a, z < 256) : cmpL (em 1 p a) (em 1 q b) = .lt := by
  match a, b with
  | [], [] => exact cmpL_lt (mulLt 16 (by decide) h)
  | [], y :: b => exact cmpL_lt (Nat.lt_of_lt_of_le (mulLt 16 (by decide) h) (Nat.le_add_right _ _))
  | x :: a, [] => exact cmpL_lt (stLt h (Nat.div_lt_of_lt_mul (ha x (.head _))))
  | x :: a, y :: b => exact cmpL_lt (Nat.lt_of_lt_of_le (stLt h (Nat.div_lt_of_lt_mul (ha x (.head _)))) (Nat.le_add_right _ _))
theorem em2_lt {p q : Nat} (h : p % 16 < q % 16) {a b : List Nat} (ha : ∀ z ∈ a, z < 256) : cmpL (em 2 p a) (em 2 q b) = .lt := by
  match a, b with
  | [], [] => exact cmpL_lt (mulLt 4 (by decide) h)
  | [], y :: b => exact cmpL_lt (Nat.lt_of_lt_of_le (mulLt 4 (by decide) h) (Nat.le_add_right _ _))
  | x :: a, [] => exact cmpL_lt (stLt h (Nat.div_lt_of_lt_mul (ha x (.head _))))
  | x :: a, y :: b => exact cmpL_lt (Nat.lt_of_lt_of_le (stLt h (Nat.div_lt_of_lt_mul (ha x (.head _)))) (Nat.le_add_right _ _))
theorem divEq {x y : Nat} (m : Nat) (c : x < y) (d : y / m ≤ x / m) : y / m = x / m := Nat.le_antisymm d (Nat.div_le_div_right (Nat.le_of_lt c))
theorem modLt {x y m : Nat} (c : x < y) (e : y / m = x / m) : x % m < y % m := Nat.lt_of_add_lt_add_left (n := m * (x / m)) (by rw [Nat.div_add_mod, ← e, Nat.div_add_mod]; exact c)
theorem em_less : ∀ (a b : List Nat) (p q : Nat), (∀ z ∈ a, z < 256) → (∀ z ∈ b, z < 256) → cmpL a b = .lt →
    cmpL (em 0 p a) (em 0 q b) = .lt ∧ (p % 4 = q % 4 → cmpL (em 1 p a) (em 1 q b) = .lt) ∧ (p % 16 = q % 16 → cmpL (em 2 p a) (em 2 q b) = .lt)
  | [], [], p, q, _, _, h => by simp [cmpL] at h
  | _ :: _, [], p, q, _, _, h => by simp [cmpL] at h
  | [], y :: b, p, q, _, hb, _ => by
    have hy := hb y (.head _)
    refine ⟨rfl, fun e => ?_, fun e => ?_⟩
    · simp only [em]
      rcases Nat.lt_or_ge (p % 4 * 16) (q % 4 * 16 + y / 16) with h | h
      · exact cmpL_lt h
      · rw [show q % 4 * 16 + y / 16 = p % 4 * 16 from Nat.le_antisymm h (by rw [e]; exact Nat.le_add_right _ _), cmpL_eq]
        cases b <;> rfl
    · simp only [em]
      rcases Nat.lt_or_ge (p % 16 * 4) (q % 16 * 4 + y / 64) with h | h
      · exact cmpL_lt h
      · rw [show q % 16 * 4 + y / 64 = p % 16 * 4 from Nat.le_antisymm h (by rw [e]; exact Nat.le_add_right _ _), cmpL_eq]
        rfl
  | x :: a, y :: b, p, q, ha, hb, h => by
    have hx := ha x (.head _)
    have hy := hb y (.head _)
    have ha' : ∀ z ∈ a, z < 256 := fun z hz => ha z (.tail _ hz)
    have hb' : ∀ z ∈ b, z < 256 := fun z hz => hb z (.tail _ hz)
    rcases Nat.lt_trichotomy x y with c | c | c
    · refine ⟨?_, fun e => ?_, fun e => ?_⟩
      · simp only [em]
        rcases Nat.lt_or_ge (x / 4) (y / 4) with d | d
        · exact cmpL_lt d
        · have g := divEq 4 c d
          rw [g, cmpL_eq]
          exact em1_lt (modLt c g) ha'
      · simp only [em]
        rcases Nat.lt_or_ge (p % 4 * 16 + x / 16) (q % 4 * 16 + y / 16) with d | d
        · exact cmpL_lt d
        · have g := divEq 16 c (Nat.le_of_add_le_add_left (e ▸ d))
          rw [e, g, cmpL_eq]
          exact em2_lt (modLt c g) ha'
      · simp only [em]
        rcases Nat.lt_or_ge (p % 16 * 4 + x / 64) (q % 16 * 4 + y / 64) with d | d
        · exact cmpL_lt d
        · have g := divEq 64 c (Nat.le_of_add_le_add_left (e ▸ d))
          rw [e, g, cmpL_eq]
          exact cmpL_lt (modLt c g)
    · subst c
      rw [cmpL_eq] at h
      have I := em_less a b x x ha' hb' h
      refine ⟨?_, fun e => ?_, fun e => ?_⟩
      · simp only [em, cmpL_eq]; exact I.2.1 rfl
      · simp only [em]; rw [e, cmpL_eq]; exact I.2.2 rfl
      · simp only [em]; rw [e, cmpL_eq, cmpL_eq]; exact I.1
    · rw [cmpL_gt c] at h; cases h
theorem cmpL_of_eq : ∀ {a b : List Nat}, cmpL a b = .eq → a = b
  | [], [], _ => rfl
  | [], _ :: _, h => by simp [cmpL] at h
  | _ :: _, [], h => by simp [cmpL] at h
  | x :: a, y :: b, h => by
    simp only [cmpL] at h
    split at h
    · cases h
    · split at h
      · cases h
      · rw [cmpL_of_eq h, show x = y by lia]
theorem sext_cmp {a b : List Nat} (ha : ∀ z ∈ a, z < 256) (hb : ∀ z ∈ b, z < 256) : cmpL (sext a) (sext b) = cmpL a b := by
  cases e : cmpL a b with
  | lt => exact (em_less a b 0 0 ha hb e).1
  | eq => rw [cmpL_of_eq e]; exact cmpL_self _
  | gt =>
    have e' : cmpL b a = .lt := by rw [cmpL_swap, e]; rfl
    rw [cmpL_swap, show cmpL (sext b) (sext a) = .lt from (em_less b a 0 0 hb ha e').1]; rfl
end Mine
end

section
open PySem PySem.W PyProof.Rows PySem.Calls
namespace Mine
/-- the binary insertion sort, told by the kit as a tree of questions: what it gives for keys that differ -/
structure GoodP (key : Nat → Nat) (p : Array Nat) (n : Nat) : Prop where
  size : p.size = n
  lt : ∀ i, i < n → p.getD i 0 < n
  ne : ∀ i j, i < n → j < n → i ≠ j → key (p.getD i 0) ≠ key (p.getD j 0)
noncomputable def Upto (key : Nat → Nat) (p : Array Nat) (k : Nat) : Prop := ∀ i j, i < j → j < k → key (p.getD i 0) < key (p.getD j 0)
noncomputable def Downto (key : Nat → Nat) (p : Array Nat) (k : Nat) : Prop := ∀ i j, i < j → j < k → key (p.getD j 0) < key (p.getD i 0)
theorem Upto.one {key : Nat → Nat} {p : Array Nat} : Upto key p 1 := fun _ _ h h' => absurd (Nat.lt_of_lt_of_le h (Nat.le_of_lt_succ h')) (Nat.not_lt_zero _)
theorem Upto.succ {key : Nat → Nat} {p : Array Nat} {k : Nat} (h : Upto key p k) (hk : 1 ≤ k) (hl : key (p.getD (k - 1) 0) < key (p.getD k 0)) : Upto key p (k + 1) := fun i j hij hj => by
  rcases Nat.lt_or_ge j k with c | c
  · exact h i j hij c
  · obtain rfl : j = k := Nat.le_antisymm (Nat.le_of_lt_succ hj) c
    rcases Nat.lt_or_ge i (j - 1) with d | d
    · exact Nat.lt_trans (h i (j - 1) d (Nat.sub_lt hk Nat.one_pos)) hl
    · obtain rfl : i = j - 1 := Nat.le_antisymm (Nat.le_sub_one_of_lt hij) d
      exact hl
theorem Downto.succ {key : Nat → Nat} {p : Array Nat} {k : Nat} (h : Downto key p k) (hk : 1 ≤ k) (hl : key (p.getD k 0) < key (p.getD (k - 1) 0)) : Downto key p (k + 1) := fun i j hij hj => by
  rcases Nat.lt_or_ge j k with c | c
  · exact h i j hij c
  · obtain rfl : j = k := Nat.le_antisymm (Nat.le_of_lt_succ hj) c
    rcases Nat.lt_or_ge i (j - 1) with d | d
    · exact Nat.lt_trans hl (h i (j - 1) d (Nat.sub_lt hk Nat.one_pos))
    · obtain rfl : i = j - 1 := Nat.le_antisymm (Nat.le_sub_one_of_lt hij) d
      exact hl
theorem getD_of {p q : Array Nat} {i j : Nat} (h : p[i]? = q[j]?) : p.getD i 0 = q.getD j 0 := by
  rw [Array.getD_eq_getD_getElem?, Array.getD_eq_getD_getElem?, h]
noncomputable def rv (k i : Nat) : Nat := if i < k then k - 1 - i else i
theorem rv_low {k i : Nat} (c : i < k) : k - 1 - i < k := Nat.lt_of_le_of_lt (Nat.sub_le _ _) (Nat.sub_lt (Nat.lt_of_le_of_lt (Nat.zero_le i) c) Nat.one_pos)
theorem rv_lt {k i n : Nat} (hk : k ≤ n) (h : i < n) : rv k i < n := by
  unfold rv
  split
  · exact Nat.lt_of_lt_of_le (rv_low (by assumption)) hk
  · exact h
theorem rv_rv (k i : Nat) : rv k (rv k i) = i := by
  unfold rv
  by_cases c : i < k
  · rw [if_pos c, if_pos (rv_low c), Nat.sub_sub_self (Nat.le_sub_one_of_lt c)]
  · rw [if_neg c, if_neg c]
noncomputable def mv (q k i : Nat) : Nat := if i = q then k else if q < i ∧ i ≤ k then i - 1 else i
noncomputable def un (q k x : Nat) : Nat := if x = k then q else if q ≤ x ∧ x < k then x + 1 else x
theorem mv_q {q k : Nat} : mv q k q = k := if_pos rfl
theorem mv_lo {q k i : Nat} (h : i < q) : mv q k i = i := by unfold mv; rw [if_neg (Nat.ne_of_lt h), if_neg fun c => Nat.lt_asymm h c.1]
theorem mv_hi {q k i : Nat} (h : q ≤ i) (h2 : i + 1 ≤ k) : mv q k (i + 1) = i := by unfold mv; rw [if_neg (Nat.ne_of_gt (Nat.lt_succ_of_le h)), if_pos ⟨Nat.lt_succ_of_le h, h2⟩]; rfl
theorem mv_up {q k i : Nat} (hq : q ≤ k) (h : k < i) : mv q k i = i := by unfold mv; rw [if_neg (Nat.ne_of_gt (Nat.lt_of_le_of_lt hq h)), if_neg fun c => Nat.not_lt.mpr c.2 h]
theorem mv_lt {q k i n : Nat} (hk : k < n) (h : i < n) : mv q k i < n := by
  unfold mv
  split
  · exact hk
  · split
    · exact Nat.lt_of_le_of_lt (Nat.sub_le _ _) h
    · exact h
theorem un_mv {q k : Nat} (hq : q ≤ k) (i : Nat) : un q k (mv q k i) = i := by
  rcases Nat.lt_trichotomy i q with h | h | h
  · rw [mv_lo h]; unfold un; rw [if_neg (Nat.ne_of_lt (Nat.lt_of_lt_of_le h hq)), if_neg fun c => Nat.not_le.mpr h c.1]
  · rw [h, mv_q]; exact if_pos rfl
  · rcases Nat.lt_or_ge k i with g | g
    · rw [mv_up hq g]; unfold un; rw [if_neg (Nat.ne_of_gt g), if_neg fun c => Nat.lt_asymm g c.2]
    · cases i with
      | zero => cases h
      | succ i => rw [mv_hi (Nat.le_of_lt_succ h) g]; unfold un; rw [if_neg (Nat.ne_of_lt g), if_pos ⟨Nat.le_of_lt_succ h, g⟩]
theorem GoodP.rev {key : Nat → Nat} {p : Array Nat} {n k : Nat} (G : GoodP key p n) (hk : k ≤ n) : GoodP key (kas_rev p 0 k) n ∧ ∀ i, i < n → (kas_rev p 0 k).getD i 0 = p.getD (rv k i) 0 := by
  have e : ∀ i, i < n → (kas_rev p 0 k).getD i 0 = p.getD (rv k i) 0 := fun i hi => by
    refine getD_of ?_
    unfold kas_rev rv
    rw [getElem?_mirror_all (by rw [G.size]; exact hk)]
    by_cases c : i < k
    · rw [if_pos ⟨Nat.zero_le _, c⟩, if_pos c, Nat.zero_add]
    · rw [if_neg fun z => c z.2, if_neg c]
  refine ⟨⟨?_, fun i hi => ?_, fun i j hi hj hne => ?_⟩, e⟩
  · show (mirror p 0 k _).size = n
    rw [mirror_size, G.size]
  · rw [e i hi]; exact G.lt _ (rv_lt hk hi)
  · rw [e i hi, e j hj]; exact G.ne _ _ (rv_lt hk hi) (rv_lt hk hj) fun z => hne (by rw [← rv_rv k i, z, rv_rv])
section
variable {key : Nat → Nat} {cmp : Nat → Nat → (Bool → Shared → Prop) → Shared → Prop} {s : Shared} {n : Nat}
theorem asc_wp {p : Array Nat} (hc : ∀ i j (C : Bool → Shared → Prop), i < n → j < n → C (decide (key i < key j)) s → cmp i j C s) (G : GoodP key p n) :
    ∀ (f k : Nat) {Q : Nat → Shared → Prop}, 1 ≤ k → k + f = n → Upto key p k → (∀ m, k ≤ m → m ≤ n → Upto key p m → (m = k → m < n → key (p.getD k 0) < key (p.getD (k - 1) 0)) → Q m s) → (kas_asc p f k).kasWp cmp Q s
  | 0, k, Q, h1, hn, hU, h => h k (Nat.le_refl _) (Nat.le_of_eq hn) hU (fun _ z => absurd hn (Nat.ne_of_lt z))
  | f + 1, k, Q, h1, hn, hU, h => by
    have hkn : k < n := hn ▸ Nat.lt_add_of_pos_right (Nat.succ_pos f)
    have hk1 : k - 1 < k := Nat.sub_lt h1 Nat.one_pos
    have hkm := Nat.lt_trans hk1 hkn
    refine hc _ _ _ (G.lt _ hkn) (G.lt _ hkm) ?_
    by_cases c : key (p.getD k 0) < key (p.getD (k - 1) 0)
    · rw [decide_eq_true c]
      exact h k (Nat.le_refl _) (Nat.le_of_lt hkn) hU fun _ _ => c
    · rw [decide_eq_false c]
      have hne := G.ne k (k - 1) hkn hkm (Nat.ne_of_gt hk1)
      exact asc_wp hc G f (k + 1) (Nat.succ_pos k) ((Nat.succ_add_eq_add_succ k f).trans hn) (hU.succ h1 (Nat.lt_of_le_of_ne (Nat.not_lt.mp c) (Ne.symm hne))) fun m h2 h3 h4 h5 => h m (Nat.le_of_succ_le h2) h3 h4 fun e => absurd e (Nat.ne_of_gt h2)
theorem desc_wp {p : Array Nat} (hc : ∀ i j (C : Bool → Shared → Prop), i < n → j < n → C (decide (key i < key j)) s → cmp i j C s) (G : GoodP key p n) :
    ∀ (f k : Nat) {Q : Array Nat × Nat × Nat → Shared → Prop}, 1 ≤ k → k + f = n → Downto key p k → (∀ m, k ≤ m → m ≤ n → Downto key p m → Q (p, m, 0) s) → (kas_desc f p k 0).kasWp cmp Q s
  | 0, k, Q, h1, hn, hU, h => h k (Nat.le_refl _) (Nat.le_of_eq hn) hU
  | f + 1, k, Q, h1, hn, hU, h => by
    have hkn : k < n := hn ▸ Nat.lt_add_of_pos_right (Nat.succ_pos f)
    have hk1 : k - 1 < k := Nat.sub_lt h1 Nat.one_pos
    have hkm := Nat.lt_trans hk1 hkn
    refine hc _ _ _ (G.lt _ hkn) (G.lt _ hkm) ?_
    by_cases c : key (p.getD k 0) < key (p.getD (k - 1) 0)
    · rw [decide_eq_true c]
      exact desc_wp hc G f (k + 1) (Nat.succ_pos k) ((Nat.succ_add_eq_add_succ k f).trans hn) (hU.succ h1 c) fun m h2 h3 h4 => h m (Nat.le_of_succ_le h2) h3 h4
    · rw [decide_eq_false c]
      have hne := G.ne k (k - 1) hkn hkm (Nat.ne_of_gt hk1)
      refine hc _ _ _ (G.lt _ hkm) (G.lt _ hkn) ?_
      rw [decide_eq_true (Nat.lt_of_le_of_ne (Nat.not_lt.mp c) (Ne.symm hne))]
      exact h k (Nat.le_refl _) (Nat.le_of_lt hkn) hU
theorem count_wp {p : Array Nat} (hc : ∀ i j (C : Bool → Shared → Prop), i < n → j < n → C (decide (key i < key j)) s → cmp i j C s) (G : GoodP key p n) (h2 : 2 ≤ n)
    {Q : Nat × Array Nat → Shared → Prop} (h : ∀ m p', 1 ≤ m → m ≤ n → GoodP key p' n → Upto key p' m → Q (m, p') s) : (kas_count n p).kasWp cmp Q s := by
  unfold kas_count
  rw [KasT.kasWp_bind]
  refine asc_wp hc G (n - 1) 1 (Nat.le_refl _) (Nat.add_sub_cancel' (Nat.le_of_succ_le h2)) .one fun m h1 h3 hU hd => ?_
  by_cases c : m = n
  · subst c
    rw [if_pos (by simp)]
    exact h m p h1 h3 G hU
  · rw [if_neg (by simpa using c)]
    by_cases d : m > 1
    · rw [if_pos d]
      refine hc _ _ _ (G.lt _ (Nat.lt_of_lt_of_le (by decide) h2)) (G.lt _ (Nat.lt_of_le_of_lt (Nat.sub_le _ _) (Nat.lt_of_le_of_ne h3 c))) ?_
      rw [decide_eq_true (hU 0 (m - 1) (Nat.sub_pos_of_lt d) (Nat.sub_lt (Nat.lt_of_succ_le h1) Nat.one_pos))]
      exact h m p h1 h3 G hU
    · obtain rfl : m = 1 := Nat.le_antisymm (Nat.not_lt.mp d) h1
      rw [if_neg d]
      have hd' := hd rfl (Nat.lt_of_succ_le h2)
      unfold kas_descPart
      rw [KasT.kasWp_bind]
      refine desc_wp hc G (n - 2) 2 (by decide) (Nat.add_sub_cancel' h2) (fun i j hij hj => ?_) fun m h4 h5 hD => ?_
      · obtain rfl : j = 1 := by lia
        obtain rfl : i = 0 := by lia
        exact hd'
      dsimp only
      rw [if_neg (by lia)]
      unfold kas_tail3
      rw [KasT.kasWp_bind]
      refine an2 (G.rev h5) fun G' e => ?_
      refine asc_wp hc G' (n - m) m (Nat.le_of_succ_le h4) (Nat.add_sub_cancel' h5) (fun i j hij hj => ?_) fun m' h6 h7 hU' _ => h m' _ (by lia) h7 G' hU'
      have him := Nat.lt_trans hij hj
      rw [e i (Nat.lt_of_lt_of_le him h5), e j (Nat.lt_of_lt_of_le hj h5)]
      unfold rv
      rw [if_pos him, if_pos hj]
      exact hD _ _ (Nat.sub_lt_sub_left (Nat.lt_of_lt_of_le hij (Nat.le_sub_one_of_lt hj)) hij) (rv_low him)
theorem place_wp {p : Array Nat} (hc : ∀ i j (C : Bool → Shared → Prop), i < n → j < n → C (decide (key i < key j)) s → cmp i j C s) (G : GoodP key p n) {k : Nat} (hk : k < n) (hU : Upto key p k) :
    ∀ (f l r : Nat) {Q : Nat → Shared → Prop}, l ≤ r → r ≤ k → r - l ≤ f → (∀ i, i < l → key (p.getD i 0) < key (p.getD k 0)) → (∀ i, r ≤ i → i < k → key (p.getD k 0) < key (p.getD i 0)) →
      (∀ q, q ≤ k → (∀ i, i < q → key (p.getD i 0) < key (p.getD k 0)) → (∀ i, q ≤ i → i < k → key (p.getD k 0) < key (p.getD i 0)) → Q q s) → (kas_place p k f l r).kasWp cmp Q s
  | 0, l, r, Q, hlr, hrk, hf, hL, hR, h => h l (Nat.le_trans hlr hrk) hL fun i hi hik => hR i (Nat.le_trans (Nat.le_of_sub_eq_zero (Nat.le_zero.mp hf)) hi) hik
  | f + 1, l, r, Q, hlr, hrk, hf, hL, hR, h => by
    unfold kas_place
    by_cases c : l ≥ r
    · rw [if_pos c]
      exact h l (Nat.le_trans hlr hrk) hL fun i hi hik => hR i (Nat.le_trans c hi) hik
    · rw [if_neg c]
      have c : l < r := Nat.lt_of_not_le c
      have m1 : l ≤ (l + r) / 2 := (Nat.le_div_iff_mul_le (by decide)).mpr (by lia)
      have m2 : (l + r) / 2 < r := Nat.div_lt_of_lt_mul (by lia)
      generalize (l + r) / 2 = m at m1 m2 ⊢
      have mk := Nat.lt_of_lt_of_le m2 hrk
      refine hc _ _ _ (G.lt _ hk) (G.lt _ (Nat.lt_trans mk hk)) ?_
      by_cases d : key (p.getD k 0) < key (p.getD m 0)
      · rw [decide_eq_true d]
        refine place_wp hc G hk hU f l m m1 (Nat.le_of_lt mk) (Nat.le_of_lt_succ (Nat.lt_of_lt_of_le (Nat.sub_lt_sub_right m1 m2) hf)) hL (fun i hi hik => ?_) h
        rcases Nat.lt_or_ge m i with e | e
        · exact Nat.lt_trans d (hU _ _ e hik)
        · obtain rfl : i = m := Nat.le_antisymm e hi
          exact d
      · rw [decide_eq_false d]
        have hkm := Nat.lt_of_le_of_ne (Nat.not_lt.mp d) (Ne.symm (G.ne k m hk (Nat.lt_trans mk hk) (Nat.ne_of_gt mk)))
        refine place_wp hc G hk hU f (m + 1) r m2 hrk (Nat.le_of_lt_succ (Nat.lt_of_lt_of_le (Nat.sub_lt_sub_left c (Nat.lt_succ_of_le m1)) hf)) (fun i hi => ?_) hR h
        rcases Nat.lt_or_ge i m with e | e
        · exact Nat.lt_trans (hU _ _ e mk) hkm
        · obtain rfl : i = m := Nat.le_antisymm (Nat.le_of_lt_succ hi) e
          exact hkm
theorem bin_wp (hc : ∀ i j (C : Bool → Shared → Prop), i < n → j < n → C (decide (key i < key j)) s → cmp i j C s) :
    ∀ (f : Nat) (p : Array Nat) (k : Nat) {Q : Array Nat → Shared → Prop}, GoodP key p n → Upto key p k → k + f = n → (∀ p', GoodP key p' n → Upto key p' n → Q p' s) → (kas_bin f p k).kasWp cmp Q s
  | 0, p, k, Q, G, hU, hn, h => h p G (by have e : k = n := by lia
                                          rw [← e]; exact hU)
  | f + 1, p, k, Q, G, hU, hn, h => by
    unfold kas_bin
    rw [KasT.kasWp_bind]
    have hkn : k < n := hn ▸ Nat.lt_add_of_pos_right (Nat.succ_pos f)
    refine place_wp hc G hkn hU k 0 k (Nat.zero_le _) (Nat.le_refl _) (Nat.sub_le _ _) (fun i hi => nomatch hi) (fun i hi hik => absurd hik (Nat.not_lt.mpr hi)) fun q hq hL hR => ?_
    have e : ∀ i, (bubble p k (k - q)).getD i 0 = p.getD (mv q k i) 0 := fun i => by
      refine getD_of ?_
      unfold mv
      rw [getElem?_bubble (by rw [G.size]; exact hkn) _ (Nat.sub_le _ _), Nat.sub_sub_self hq]
      split
      · rfl
      · split <;> rfl
    refine bin_wp hc f (bubble p k (k - q)) (k + 1) ⟨by rw [bubble_size, G.size], fun i hi => ?_, fun i j hi hj hne => ?_⟩ (fun i j hij hj => ?_) ((Nat.succ_add_eq_add_succ k f).trans hn) h
    · rw [e]; exact G.lt _ (mv_lt hkn hi)
    · rw [e, e]; exact G.ne _ _ (mv_lt hkn hi) (mv_lt hkn hj) fun z => hne (by rw [← un_mv hq i, z, un_mv hq])
    · rw [e, e]
      rcases Nat.lt_trichotomy j q with c | c | c
      · rw [mv_lo c, mv_lo (Nat.lt_trans hij c)]
        exact hU _ _ hij (Nat.lt_of_lt_of_le c hq)
      · rw [c, mv_q, mv_lo (c ▸ hij)]
        exact hL _ (c ▸ hij)
      · cases j with
        | zero => cases c
        | succ j =>
          have hj := Nat.le_of_lt_succ hj
          rw [mv_hi (Nat.le_of_lt_succ c) hj]
          rcases Nat.lt_trichotomy i q with d | d | d
          · rw [mv_lo d]; exact hU _ _ (Nat.lt_of_lt_of_le d (Nat.le_of_lt_succ c)) hj
          · rw [d, mv_q]; exact hR _ (Nat.le_of_lt_succ c) hj
          · cases i with
            | zero => cases d
            | succ i =>
              rw [mv_hi (Nat.le_of_lt_succ d) (Nat.le_of_lt (Nat.lt_of_lt_of_le hij hj))]
              exact hU _ _ (Nat.lt_of_succ_lt_succ hij) hj
theorem sort_wp (hc : ∀ i j (C : Bool → Shared → Prop), i < n → j < n → C (decide (key i < key j)) s → cmp i j C s) (h2 : 2 ≤ n) (hk : ∀ i j, i < n → j < n → i ≠ j → key i ≠ key j)
    {Q : Array Nat → Shared → Prop} (h : ∀ p', GoodP key p' n → Upto key p' n → Q p' s) : (kas_sort n).kasWp cmp Q s := by
  unfold kas_sort
  rw [KasT.kasWp_bind]
  have e : ∀ i, i < n → (List.toArray (List.range n)).getD i 0 = i := fun i hi => by
    rw [Array.getD_eq_getD_getElem?]; simp [hi]
  refine count_wp hc ⟨by simp, fun i hi => by rw [e i hi]; exact hi, fun i j hi hj hne => by rw [e i hi, e j hj]; exact hk i j hi hj hne⟩ h2 fun m p' h1 hm G hU => ?_
  dsimp only
  by_cases c : m < n
  · rw [if_pos c]
    exact bin_wp hc _ _ _ G (by rw [Nat.max_eq_left h1]; exact hU) (by lia) h
  · rw [if_neg c]
    exact h p' G (by have e : m = n := by lia
                     rw [← e]; exact hU)
end
end Mine
end

section
open PySem PySem.W PyProof.Rows PySem.Calls PyProof.Rows.LCg PyProof.Rows.LCt
namespace Mine
section
variable {prog : Program} {w : World} {A : Around} {E : Value → Shared → Prop} {s : Shared} {h₀ : Heap} {L : Addr} {m : Str → Option Value} {env : Env} {news : List (Addr × Obj)}
/-- one element's end, the ledger may grow -/
noncomputable def GrowEnd (h₀ : Heap) (L : Addr) (m : Str → Option Value) (s : Shared) (I : Addr) (oI : Obj) (C : Addr) (oC : Obj) (D : Addr) (oD : Obj) (nw : List (Addr × Obj)) (J : Value → List (Addr × Obj) → Prop) (y : Value) (s₂ : Shared) : Prop :=
  ∃ h' tk' all nw', s₂ = { s with heap := h', toks := tk' } ∧ Fr h₀ L h' m ∧ News h₀ L h' all ∧ (∀ p ∈ (I, oI) :: (C, oC) :: (D, oD) :: nw', p ∈ all) ∧ (∀ p ∈ nw', p ∈ nw ∨ (p.1 ≠ I ∧ p.1 ≠ C ∧ p.1 ≠ D)) ∧ J y nw'
theorem GrowEnd.go {h₀ : Heap} {L : Addr} {m : Str → Option Value} {s : Shared} {I : Addr} {oI : Obj} {C : Addr} {oC : Obj} {D : Addr} {oD : Obj} {nw nw' all : List (Addr × Obj)} {J : Value → List (Addr × Obj) → Prop} {y : Value} {h' : Heap} {tk : Nat}
    (F : Fr h₀ L h' m) (N : News h₀ L h' all) (k : ∀ p ∈ (I, oI) :: (C, oC) :: (D, oD) :: nw', p ∈ all) (k' : ∀ p ∈ nw', p ∈ nw ∨ (p.1 ≠ I ∧ p.1 ≠ C ∧ p.1 ≠ D)) (j : J y nw') :
    GrowEnd h₀ L m s I oI C oC D oD nw J y { s with heap := h', toks := tk } := ⟨h', tk, all, nw', rfl, F, N, k, k', j⟩
theorem restT_grow {ct elt : Expr} {x : Str} {scope : Scope} {cl : List (Str × Addr)} {S : List (Addr × Obj) → Prop} {P : Nat → Value → Prop} {Fin : List Value → List (Addr × Obj) → Prop} {n : Nat}
    (J : Nat → List Value → List (Addr × Obj) → Prop) (hS : ∀ nw, S nw) (h0 : J 0 [] news)
    (turn : ∀ i v ys nw I oI C oC D m₂ h tk (E' : Value → Shared → Prop), i < n → P i v → J i ys nw → NsObj oC m₂ → m₂ x = some v → Fr h₀ L h m → News h₀ L h ((I, oI) :: (C, oC) :: (D, lst ys) :: nw) →
      wpAny (model prog w) A (isTrue ct (compEnvC scope cl C env) (eval ct (compEnvC scope cl C env))) (fun ok s' => if ok = true then
        wpAny (model prog w) A (eval elt (compEnvC scope cl C env)) (GrowEnd h₀ L m { s with heap := h, toks := tk } I oI C oC D (lst ys) nw (fun y nw' => J (i + 1) (ys ++ [y]) nw')) E' s'
        else GrowEnd h₀ L m { s with heap := h, toks := tk } I oI C oC D (lst ys) nw (fun _ nw' => J (i + 1) ys nw') .none s') E' { s with heap := h, toks := tk })
    (fin : ∀ ys nw, J n ys nw → Fin ys nw) : CompRestT prog w A h₀ L m env ct elt x scope cl s S P Fin n 0 [] news := by
  have offs : ∀ {I C D : Addr} {nw nw' : List (Addr × Obj)}, Off3 I C D nw → (∀ p ∈ nw', p ∈ nw ∨ (p.1 ≠ I ∧ p.1 ≠ C ∧ p.1 ≠ D)) → Off3 I C D nw' := fun off h => Off3.of fun p hp => (h p hp).elim (fun q => off.mem p q) id
  have key : ∀ (j i : Nat) (ys : List Value) (nw : List (Addr × Obj)), i + j = n → J i ys nw → CompRestT prog w A h₀ L m env ct elt x scope cl s S P Fin j i ys nw := by
    intro j
    induction j with
    | zero => intro i ys nw hi hy; exact CompRestT.zero (fin ys nw (by rwa [show n = i by omega]))
    | succ j ih =>
      intro i ys nw hi hy
      refine CompRestT.succ ?_
      intro v I oI C oC D m₂ h tk E' hv hC hx F N off ne
      refine wpAny_mono (turn i v ys nw I oI C oC D m₂ h tk E' (by omega) hv hy hC hx F N) (fun ok s₂ hq => ?_) fun _ _ e => e
      cases ok with
      | true =>
        simp only [if_true] at hq ⊢
        refine wpAny_mono hq (fun y s₂ hq => ?_) fun _ _ e => e
        refine ex4 hq fun h' tk' all nw' hz49 => an6 hz49 fun e F' N' hsub ho hJ => ?_
        clear hz49
        try clear hq
        exact (exi3 h' tk' nw' ⟨e, F', fun p hp => N' p (hsub p hp), offs off ho, hS _, ih (i + 1) _ _ (by omega) hJ⟩)
      | false =>
        simp only [Bool.false_eq_true, if_false] at hq ⊢
        refine ex4 hq fun h' tk' all nw' hz48 => an6 hz48 fun e F' N' hsub ho hJ => ?_
        clear hz48
        try clear hq
        exact (exi3 h' tk' nw' ⟨e, F', fun p hp => N' p (hsub p hp), offs off ho, hS _, ih (i + 1) _ _ (by omega) hJ⟩)
  exact key n 0 [] news (by omega) h0
end
end Mine
end

section
open PySem PySem.W PyProof.Rows PySem.Calls PySem.SeqAt
namespace Mine
section
variable {A : Around} {s : Shared}
/-- equality of a pair of lists, item by item: all alike -/
theorem EqAt.ofRc {l b : Addr} (h : RcAt A s (.ref l) (.ref b) true) : EqAt A s (.ref l) (.ref b) true := by
  by_cases e : l = b
  · subst e; exact EqAt.same _
  · exact EqAt.of_refs e h
theorem EqAt.bytes (b : Array UInt8) (t u : Tok) : EqAt A s (.bytes b t) (.bytes b u) true := fun prog w E Q hq => by
  unfold eqBool
  refine wpAny_holding ?_
  refine wpAny_ite_split (fun _ => ?_) (fun _ => ?_)
  · exact wpAny_bind (wpAny_rule (wpAny_pure hq))
  · exact wpAny_bind (eq_bytes (by rw [beq_self_eq_true]; exact wpAny_truthy_bool hq))
theorem EqAt.ints {a b : Addr} {vs us : List Value} {ns : List Int} (hl : s.heap.IsList a vs.toArray) (hi : IntsAre vs ns) (hl' : s.heap.IsList b us.toArray) (hi' : IntsAre us ns) (hu : A.units + 64 < cLine) : EqAt A s (.ref a) (.ref b) true :=
  EqAt.ofRc fun prog w E Q h => eq_intsK hl hi hl' hi' hu (by rw [decide_eq_true rfl]; exact h)
theorem all_true (n : Nat) : (List.range n).all (fun _ => true) = true := by simp
theorem EqAt.lists {a b : Addr} {vs us : List Value} (hl : s.heap.IsList a vs.toArray) (hl' : s.heap.IsList b us.toArray) (hz : vs.length = us.length) (hu : A.units < cLine)
    (he : ∀ (j : Nat) (v u : Value), vs[j]? = some v → us[j]? = some u → EqAt A.in1 s v u true) : EqAt A s (.ref a) (.ref b) true := by
  refine EqAt.ofRc ?_
  have := RcAt.lists (A := A) (e := fun _ => true) hl hl' (by simpa using hz) hu fun j h1 h2 => he j _ _ (by simp) (by simp)
  rwa [all_true] at this
theorem pairs_same {T T' : Addr} {x y x' y' : Value} (hl : s.heap.IsTuple T #[x, y]) (hl' : s.heap.IsTuple T' #[x', y']) (hu : A.units < cLine) (h1 : EqAt A.in1 s x x' true) (h2 : EqAt A.in1 s y y' true) :
    RcAt A s (.ref T) (.ref T') true ∧ RcNeAt A s (.ref T) (.ref T') false := by
  have he : ∀ j (h1 : j < #[x, y].size) (h2 : j < #[x', y'].size), EqAt A.in1 s #[x, y][j] #[x', y'][j] ((fun _ => true) j)
    | 0, _, _ => h1
    | 1, _, _ => h2
    | j + 2, h, _ => absurd h (by simp)
  exact ⟨RcAt.tuples (e := fun _ => true) hl hl' hu he, RcNeAt.tuples (e := fun _ => true) hl hl' hu he⟩
end
section
variable {prog : Program} {w : World} {A : Around} {E : Value → Shared → Prop} {s : Shared}
theorem eq_pairs {T T' : Addr} {x y x' y' : Value} {Q : Value → Shared → Prop} (hl : s.heap.IsTuple T #[x, y]) (hl' : s.heap.IsTuple T' #[x', y']) (hu : A.units < cLine) (h1 : EqAt A.in1 s x x' true) (h2 : EqAt A.in1 s y y' true)
    (h : Q (.bool true) s) : wpAny (model prog w) A (compareOp .Eq (.ref T) (.ref T')) Q E s := (pairs_same hl hl' hu h1 h2).1 prog w E Q h
theorem ne_pairs {T T' : Addr} {x y x' y' : Value} {Q : Value → Shared → Prop} (hl : s.heap.IsTuple T #[x, y]) (hl' : s.heap.IsTuple T' #[x', y']) (hu : A.units < cLine) (h1 : EqAt A.in1 s x x' true) (h2 : EqAt A.in1 s y y' true)
    (h : Q (.bool false) s) : wpAny (model prog w) A (compareOp .NotEq (.ref T) (.ref T')) Q E s := (pairs_same hl hl' hu h1 h2).2 prog w E Q h
end
end Mine
end

section
open PySem PySem.W PyProof.Rows PySem.Calls
namespace Mine
local macro_rules | `(tactic| walk_at "eval Name") => `(tactic| (k_here; k_dflt (refine' ld ?k1 ?k2 ?_; (case k1 => k_asm); (case k2 => first | with_reducible assumption | assumption); k_whole)))
local macro_rules | `(tactic| walk_at "exec For Name Name cons nil") => `(tactic| (k_dflt (refine wpAny_For ?_)))
local macro_rules | `(tactic| walk_at "exec For Name Call cons nil") => `(tactic| (k_dflt (refine wpAny_For ?_)))
local macro_rules | `(tactic| keq_rows) => `(tactic| first | (with_reducible (first | refine kIf_i ?_ | refine normE ?_ | refine seqL ?_ | refine bin_ ?_ | refine cmp_ ?_ | refine if_ ?_ | refine aug_ ?_ | refine ret_ ?_ | refine sub_ ?_ | refine Nxt.next (by with_reducible assumption) ?_ | refine Nxt.ret (by with_reducible assumption) ?_)) | (with_reducible (first | (refine freshT ?_; intro _) | (refine seqV ?_; intro _ _) | (refine cons_f2 ?_; intro _) | (refine cons_f ?_; intro _) | (refine add_f ?_; intro _) | (refine sub_f ?_; intro _) | (refine mul_f ?hm ?_; (case hm => mul_fits); intro _) | (refine iadd_f ?_; intro _) | (refine isub_f ?_; intro _))) | (first | ((with_reducible refine' ldE ?F ?hv ?a ?b ?c ?_); (case F => first | with_reducible assumption | assumption); (case a => rfl); (case b => exact @rfl Bool true); (case c => decide); (case hv => first | with_reducible assumption | exact rfl | assumption)) | ((with_reducible refine' ldnE ?F ?hv ?a ?b ?_); (case F => first | with_reducible assumption | assumption); (case a => rfl); (case b => exact @rfl Bool true); (case hv => first | with_reducible assumption | exact rfl | assumption))) | (first | ((with_reducible refine asg_ ?_ ?a); (case a => rfl)) | ((with_reducible refine arg_ ?_ ?a); (case a => rfl)) | ((with_reducible refine call_ ?_ ?a); (case a => rfl))) | ((first | with_reducible refine' stE2 ?F ?N ?a ?b ?_ | with_reducible refine' stE ?F ?N ?a ?b ?_); (case F => first | with_reducible assumption | assumption); (case N => first | with_reducible assumption | assumption); (case a => rfl); (case b => exact @rfl Bool true); (intro _ _ _ _); (try k_sweep)))
local macro_rules | `(tactic| walk_at "compareOp Gt bytes bytes") => `(tactic| refine gt_bytes ?_)
local macro_rules | `(tactic| walk_at "compareOp Lt bytes bytes") => `(tactic| refine lt_bytes ?_)
local macro_rules | `(tactic| walk_at "call builtin:len") => `(tactic| ((with_reducible show wpAny _ _ (call (Value.builtin "len") [Value.bytes _ _]) _ _ _); (refine' by_len ?a ?_; (case a => first | assumption | (exact by_size (by assumption)))); intro _ _))
local macro_rules | `(tactic| walk_at "subscriptTail") => `(tactic| ((with_reducible show wpAny _ _ (subscriptTail _ (Expr.Slice _ _ none _) (Value.bytes _ _) (Value.ref _)) _ _ _); (with_reducible rename Fr _ _ _ _ => F'); (with_reducible rename News _ _ _ _ => N'); (refine by_slice F' N' (by constructor) (by constructor) (by first | assumption | (exact by_size (by assumption))) ?_); (intro _ _ _ _ _); (try dsimp only); (try clear F' N')))
local macro_rules | `(tactic| walk_at "my steps") => `(tactic| repeat' (first | ((fail_if_success (with_reducible show wpAny _ _ (pyIter _) _ _ _)); (fail_if_success (with_reducible show wpAny _ _ (exec (Stmt.While _ _ _ _) _) _ _ _)); first | keq_rows | walk1)))
local macro_rules | `(tactic| walk_at "call type:type") => `(tactic| first | refine type_bytes (by assumption) ?_ | refine type_int (by assumption) ?_)

section
open PySem PySem.W PyProof.Rows PySem.Calls
variable {w : World} {A : Around} {s : Shared} {E : Value → Shared → Prop}
theorem io_call (X : (Kf w.params).In s.heap) {M : Model} : Looks M s.heap (specialOf (.ref 396) "__call__") (some (.builtin "type.__call__")) := looks_specialIn X (by k_is)
theorem io_typ (X : (Kf w.params).In s.heap) {M : Model} : Looks M s.heap (isInstance (.ref 396) (.type "type")) true := looks_instIn X (by k_is)
theorem io_mro (X : (Kf w.params).In s.heap) {M : Model} : Looks M s.heap (mroOf (.ref 396)) [.ref 396, .ref 154, .ref 139, .type "object"] := Looks.of_peek X (by kernel_rfl)
theorem io_made (X : (Kf w.params).In s.heap) {M : Model} : Looks M s.heap (Bind.madeBy (.ref 396)) none := Looks.of_peek X (by kernel_rfl)
theorem io_sub (X : (Kf w.params).In s.heap) {M : Model} : Looks M s.heap (isSubtype (.ref 396) (.ref 396)) true := Looks.of_peek X (by kernel_rfl)
theorem io_new {prog : Program} {Q : Value → Shared → Prop} (X : (Kf w.params).In s.heap) (h : Q (.ref 136) { s with toks := s.toks + 1 }) : wpAny (model prog w) A (getAttr (.ref 396) "__new__") Q E s := by
  refine' cls_bind (K := Kf w.params) (mc := .type "type") X ?hr ?e (wpAny_call (sm_get (K := Kf w.params) (s := { s with toks := s.toks + 1 }) X ?hp (handed_on ?hv h)))
  case hr => k_is
  case e => k_is
  case hp => k_is
  case hv => rfl
theorem io_init (X : (Kf w.params).In s.heap) {M : Model} : Looks M s.heap (typeLookup (.ref 396) "__init__") (some (.ref 183)) := Looks.of_peek X (by kernel_rfl)
theorem io_bindInit (X : (Kf w.params).In s.heap) {M : Model} (v : Value) : Looks M s.heap (bindSpecial (.ref 183) v) (.ref 183, [v]) := bind_fn X v (by k_is)
theorem enterV {prog : Program} {R : Result → Shared → Prop} {name qual : Str} {params : Arguments} {body : List Stmt} {scope : Scope} {dV kV doc pm cdv ct oc : Value} {an od : Option Addr} {osl : Array (Option Value)} {f : Addr} {args : Args} {binds : Value → Addr → List (Str × Value)} {more : List Value} {k : Nat}
    (X : Wd w s.heap) (hA : Ar A (k + 1)) (hz : more.length ≤ 1000)
    (ho : (Kf w.params).lookup f = some ⟨oc, od, .func (fnOf name qual params body scope dV kV doc pm an cdv ct), osl⟩) (hcd : codeIn (Kf w.params) cdv qual = true)
    (hbind : bindArgs (fnOf name qual params body scope dV kV doc pm an cdv ct) args = (newTuple more >>= fun t => alloc { cls := .type "dict", data := .dict #[] } >>= fun d => pure (binds t d)))
    (hloc : ∀ t d, ∀ y ∈ binds t d, scope.names.lookup y.1 = some .local)
    (h : ∀ L h₁ tk₁ mean mg mb t d, Ar (A.deeper (envOf qual scope L f cdv)) k → Fr s.heap L h₁ (fun y => (binds t d).reverse.lookup y) → News s.heap L h₁ [] → (Kf w.params).In s.heap → Top vw (looseW vw looseL) mean mg mb s.heap →
      wpAny (model prog w) (A.deeper (envOf qual scope L f cdv)) (execs body (envOf qual scope L f cdv))
        (fun fl s' => R (.ok (.ret (match fl with | .ret v => v | _ => .none))) s') (fun _ _ => False)
        { s with heap := h₁, toks := tk₁ })
    (hcell : ∀ x ∈ scope.names, x.2 ≠ .cell) (hco : scope.isCoroutine = false) (hgen : scope.isGenerator = false) (hk : scope.kind = .function) : codeAny (model prog w) A (.call (.ref f) args) R s := by
  refine ex3 X.t fun mean mg mb T => ?_
  refine codeAny_call_function hA.room (X.k _ _ ho) rfl hco hgen rfl (codeRec_of X.k hcd) ?_
  rw [hbind]
  refine wpAny_bind (wpAny_newObj_type (wpAny_bind (wpAny_alloc (wpAny_pure ?_))) (by show more.toArray.size ≤ sizeLine; rw [List.size_toArray]; exact Nat.le_trans hz (by decide)))
  refine wpAny_newFunctionEnv hcell (hloc _ _) (fun h₁ hns hsb => ⟨?_, codeAny_func ?_⟩) hk
  · exact (T.nolimit.keeps fun b o e => Heap.get?_push_of_some _ (Heap.get?_push_of_some _ e)).fresh _ hsb
  · have k1 : ∀ b o, s.heap.get? b = some o → h₁.get? b = some o := fun b o e => by
      have e' := Heap.get?_push_of_some { cls := .type "dict", dict := none, data := .dict #[] } (Heap.get?_push_of_some { cls := .type "tuple", dict := none, data := .seq more.toArray } e)
      exact hsb.extBut b o (Nat.ne_of_lt (Heap.lt_size e')) (Heap.get?_push_of_some _ e')
    exact wpAny_mono (h _ h₁ _ mean mg mb _ _ hA.deeper ⟨hns, k1, by
      show s.heap.objs.size ≤ ((s.heap.push _).push _).objs.size
      rw [Heap.size_push, Heap.size_push]; exact Nat.le_trans (Nat.le_succ _) (Nat.le_succ _)⟩ News.nil X.k T) (fun _ _ x => x) (fun _ _ x => x.elim)
theorem io_chk (X : (Kf w.params).In s.heap) {M : Model} : Looks M s.heap (checkBuiltinCall "object.__new__" ⟨[.ref 396], []⟩) () := Looks.of_peek X (by kernel_rfl)
theorem io_objNew {prog : Program} {Q : Value → Shared → Prop} (KX : (Kf w.params).In s.heap)
    (hQ : ∀ x dx h', X.Mem s.heap h' [] [(x, instObj 396 dx), (dx, emptyDict)] → Q (.ref x) { s with heap := h' }) :
    wpAny (model prog w) A (call (.builtin "object.__new__") [.ref 396]) Q E s := by
  have F := PySem.F.objNew
  refine wpAny_call (codeAny_call_builtin_code (Code.quiet_builtin _ F.quiet) ((io_chk KX).here (codeAny_builtin F.entry ?_)))
  refine wpAny_lays (K := Kf w.params) (os := [emptyDict, instObj 396 s.heap.objs.size]) (a := .done (.ret (.ref (s.heap.objs.size + 1)))) KX 2 (by kernel_rfl) ?_
  have D := ((X.Mem.start s.heap).alloc (o := emptyDict) rfl).alloc (o := instObj 396 s.heap.objs.size) rfl
  rw [Heap.size_push] at D
  exact hQ _ _ _ D
theorem io_new136 {prog : Program} {Q : Value → Shared → Prop} (X : Wd w s.heap) (hA : Ar A 10) (b : Array UInt8) (tb : Tok)
    (h : ∀ x dx h' tk, h'.get? x = some (instObj 396 dx) → h'.get? dx = some emptyDict → s.heap.get? x = none → s.heap.get? dx = none → x ≠ dx → (∀ c o, s.heap.get? c = some o → h'.get? c = some o) → Q (.ref x) { s with heap := h', toks := tk }) :
    wpAny (model prog w) A (call (.ref 136) [.ref 396, .bytes b tb]) Q E s := by
  refine' wpAny_call (enterV (more := [.bytes b tb]) (binds := fun t d => [(Str.ofString "cls", .ref 396), (Str.ofString "args", t), (Str.ofString "kwargs", .ref d)]) X hA (by simp) ?ho ?hcd ?hb ?hl ?body ?c1 ?c2 ?c3 ?c4)
  case ho => k_is
  case hcd => k_is
  case hb => rfl
  case hl => intro t d; exact locs rfl
  case c1 => decide
  case c2 => rfl
  case c3 => rfl
  case c4 => rfl
  case body =>
    intro L h₁ tk₁ mean mg mb t d hA' F N K0 T
    refine execs_cast (l' := [_, _]) rfl ?_
    walk_at "my steps"
    refine io_objNew (s := { s with heap := h₁, toks := _ }) (K0.keeps F.keep) fun x dx h' D => ?_
    have e1 := D.nw (x, instObj 396 dx) (.head _)
    have e2 := D.nw (dx, emptyDict) (.tail _ (.head _))
    have none_of : ∀ c, h₁.get? c = none → s.heap.get? c = none := fun c e => by
      cases q : s.heap.get? c with
      | none => rfl
      | some o => have := F.keep c o q; rw [e] at this; cases this
    refine h x dx h' _ e1.1 e2.1 (none_of _ e1.2) (none_of _ e2.2) ?_ fun c o e => memKeep D c o (F.keep c o e)
    have := D.ord
    simp only [List.map_cons, List.map_nil, List.pairwise_cons] at this
    exact Nat.ne_of_gt (this.1 dx (by simp))
section
variable {prog : Program}
/-- a call of one of the text's own defs that may change some of the caller's young objects -/
theorem enterM {R : Result → Shared → Prop} {name qual : Str} {params : Arguments} {body : List Stmt} {scope : Scope} {dV kV doc pm cdv ct oc : Value} {an od : Option Addr} {osl : Array (Option Value)} {f : Addr} {args : Args} {binds : List (Str × Value)} {h₀ : Heap} {k : Nat}
    (ms : List (Addr × Obj)) (X : Wd w h₀) (hk₀ : ∀ c o, h₀.get? c = some o → s.heap.get? c = some o) (hms : ∀ p ∈ ms, s.heap.get? p.1 = some p.2 ∧ h₀.get? p.1 = none) (hA : Ar A (k + 1))
    (ho : (Kf w.params).lookup f = some ⟨oc, od, .func (fnOf name qual params body scope dV kV doc pm an cdv ct), osl⟩) (hcd : codeIn (Kf w.params) cdv qual = true)
    (hbind : BindsTo s (fnOf name qual params body scope dV kV doc pm an cdv ct) args binds) (hloc : ∀ y ∈ binds, scope.names.lookup y.1 = some .local)
    (h : ∀ g h₁ tk₁ mean mg mb, (∀ c o, c ∉ ms.map (·.1) → s.heap.get? c = some o → g.get? c = some o) → Ar (A.deeper (envOf qual scope s.heap.objs.size f cdv)) k → Fr g s.heap.objs.size h₁ (fun y => binds.reverse.lookup y) → News g s.heap.objs.size h₁ ms →
      (Kf w.params).In g → Top vw (looseW vw looseL) mean mg mb g →
      wpN (model prog w) (A.deeper (envOf qual scope s.heap.objs.size f cdv)) (execs body (envOf qual scope s.heap.objs.size f cdv))
        (fun fl s' => R (.ok (.ret (match fl with | .ret v => v | _ => .none))) s') (fun _ _ => False)
        { s with heap := h₁, toks := tk₁ })
    (hcell : ∀ x ∈ scope.names, x.2 ≠ .cell) (hco : scope.isCoroutine = false) (hgen : scope.isGenerator = false) (hk : scope.kind = .function) : codeN (model prog w) A (.call (.ref f) args) R s := by
  have X' := X.grow hk₀
  refine ex3 X.t fun mean mg mb T => ?_
  have nm : ∀ c o, h₀.get? c = some o → c ∉ ms.map (·.1) := fun c o e q => by
    refine ex1 (List.mem_map.mp q) fun p hz272 => an2 hz272 fun hp he273 => ?_
    clear hz272
    subst he273
    rw [(hms p hp).2] at e; cases e
  have kg : ∀ c o, h₀.get? c = some o → (hideAll s.heap (ms.map (·.1))).get? c = some o := fun c o e => hideAll_get _ (hk₀ c o e) (nm c o e)
  refine codeN_call_def (fd := fnOf name qual params body scope dV kV doc pm an cdv ct) (body := body) (binds := binds) hA.room (X'.k _ _ ho) rfl (T.nolimit.keeps hk₀) (codeRec_of X'.k hcd) rfl hbind hcell hloc (fun h₁ hns hk₁ => ?_) hco hgen hk
  exact h (hideAll s.heap (ms.map (·.1))) h₁ _ mean mg mb (fun c o hc e => hideAll_get _ e hc) hA.deeper
    ⟨hns, fun b o e => hk₁ b o (of_hideAll _ e), Nat.le_of_eq (hideAll_size _ _)⟩
    (fun p hp => ⟨hk₁ _ _ (hms p hp).1, Nat.ne_of_lt (Heap.lt_size (hms p hp).1), hideAll_none _ (List.mem_map_of_mem hp)⟩) (X.k.keeps kg) (T.keeps kg)
end
/-- a stream's own table: its bytes, its place -/
noncomputable def streamD (w : World) (bx : Addr) (p : Int) (t1 t2 t3 : Tok) : Obj :=
  dictOf [⟨PyData.keyHash w.params (Str.ofString "_BytesIO__buf"), .str (Str.ofString "_BytesIO__buf") t1, .ref bx⟩, ⟨PyData.keyHash w.params (Str.ofString "_BytesIO__pos"), .str (Str.ofString "_BytesIO__pos") t2, .int p t3⟩] 2
theorem wpN_execs_nil {M : Model} {A : Around} {s : Shared} {E : Value → Shared → Prop} {env : Env} {Q : Flow → Shared → Prop} (h : Q .next s) : wpN M A (execs [] env) Q E s := wpN_pure h
local macro_rules | `(tactic| walk_at "call type:type bytes") => `(tactic| refine type_bytes (by assumption) ?_)
local macro_rules | `(tactic| walk_at "call type:type") => `(tactic| refine type_bytes (by assumption) ?_)
theorem io_init183 {prog : Program} {R : Result → Shared → Prop} {h₀ : Heap} (X : Wd w h₀) (hk₀ : ∀ c o, h₀.get? c = some o → s.heap.get? c = some o) (hA : Ar A 12) (x dx : Addr) (b : Array UInt8) (tb : Tok) (hz : b.size ≤ 1000)
    (hx : s.heap.get? x = some (instObj 396 dx)) (hdx : s.heap.get? dx = some emptyDict) (h1 : h₀.get? x = none) (h2 : h₀.get? dx = none) (hne : x ≠ dx)
    (h : ∀ h' tk bx t1 t2 t3, h'.get? x = some (instObj 396 dx) → h'.get? dx = some (streamD w bx 0 t1 t2 t3) → h'.get? bx = some (baObj b) → s.heap.get? bx = none → bx ≠ x → bx ≠ dx →
      (∀ c o, c ≠ dx → s.heap.get? c = some o → h'.get? c = some o) → R (.ok (.ret .none)) { s with heap := h', toks := tk }) :
    codeN (model prog w) A (.call (.ref 183) ⟨[.ref x, .bytes b tb], []⟩) R s := by
  refine' enterM (k := 11) (binds := [(Str.ofString "self", .ref x), (Str.ofString "initial_bytes", .bytes b tb)]) [(x, instObj 396 dx), (dx, emptyDict)] X hk₀ ?hms hA ?ho ?hcd ?hb ?hl ?body ?c1 ?c2 ?c3 ?c4
  case hms =>
    intro p hp
    rcases List.mem_cons.mp hp with rfl | hp
    · exact ⟨hx, h1⟩
    · obtain rfl := List.mem_singleton.mp hp
      exact ⟨hdx, h2⟩
  case ho => k_is
  case hcd => k_is
  case hb => exact binds_K (Wd.grow X hk₀).k rfl (by k_is) rfl rfl rfl
  case hl => exact locs rfl
  case c1 => decide
  case c2 => rfl
  case c3 => rfl
  case c4 => rfl
  case body =>
    intro g h₁ tk₁ mean mg mb hg hA' F N K0 T
    refine execs_castN (l' := [_, _, _]) rfl ?_
    refine wpN_seq ?_
    walk_at "my steps"
    refine wpN_execs_cons (wpN_Assign_Attribute (wpN_IfExp ?_))
    walk_at "my steps"
    refine wpN_Call (P := fun f _ => f = .type "bytearray") (fun f h e => ⟨.machine, .inr (.inl rfl), Looks.of_pure (by rw [e]; rfl)⟩) ?_
    walk_at "my steps"
    try (any_goals exact trivial)
    rename Fr _ _ _ _ => F
    refine ba_call (hA'.mono (by decide)) (Nat.le_trans hz (by decide)) fun a h' ga fa ka => ?_
    have F₃ := frGrow F ka
    have N₃ := newsAdd F N ka ga fa
    have n1 : @Ne Nat a dx := fun e => by have := (N (dx, emptyDict) (.tail _ (.head _))).1; rw [← e] at this; rw [show h₁.get? a = none from fa] at this; cases this
    have n2 : @Ne Nat x dx := hne
    have n3 : a ≠ x := fun e => by
      have q : h₁.get? x = some (instObj 396 dx) := (N (x, instObj 396 dx) (.head _)).1
      rw [← e, show h₁.get? a = none from fa] at q; cases q
    walk_at "my steps"
    refine wpN_seq ?_
    walk_at "my steps"
    rename Fr _ _ _ _ => F₄
    rename News _ _ _ _ => N₄
    refine wpN_execs_nil ?_
    have e1 := N₄ (a, baObj b) (.head _)
    have e2 := N₄ (x, instObj 396 dx) (.tail _ (.head _))
    have e3 := (N₄ _ (.tail _ (.tail _ (.head _)))).1
    have nin : ∀ c, c ≠ x → c ≠ dx → c ∉ List.map (fun p : Addr × Obj => p.1) [(x, instObj 396 dx), (dx, emptyDict)] := fun c q1 q2 q => by
      simp only [List.map_cons, List.map_nil, List.mem_cons, List.not_mem_nil, or_false] at q
      exact q.elim q1 q2
    refine h _ _ a _ _ _ e2.1 e3 e1.1 ?_ n3 n1 ?_
    · cases q : s.heap.get? a with
      | none => rfl
      | some o => have := hg a o (nin a n3 n1) q; rw [show g.get? a = none from e1.2.2] at this; cases this
    · intro c o hc e
      by_cases hcx : c = x
      · subst hcx; rw [hx] at e; cases e; exact e2.1
      · exact F₄.keep c o (hg c o (nin c hcx hc) e)
end

section
open PySem PySem.W PyProof.Rows PySem.Calls
variable {w : World} {A : Around} {s : Shared} {E : Value → Shared → Prop} {prog : Program}
theorem Ar.underC {A : Around} {k : Nat} {C : Addr} {args : List Value} {kw : List (Str × Value)} (h : Ar A (k + 1)) : Ar (A.under (.builtin "type.__call__" ⟨.ref C :: args, kw⟩)) k :=
  ⟨h.hd, by have := h.dp; show A.depth + 1 + k ≤ 990; omega, by have := h.un; show A.units + 1 + 3 * k ≤ 9800; omega⟩
theorem io_make {Q : Value → Shared → Prop} (X : Wd w s.heap) (hA : Ar A 20) (b : Array UInt8) (tb : Tok) (hz : b.size ≤ 1000)
    (h : ∀ x dx bx h' tk t1 t2 t3, h'.get? x = some (instObj 396 dx) → h'.get? dx = some (streamD w bx 0 t1 t2 t3) → h'.get? bx = some (baObj b) → s.heap.get? x = none → s.heap.get? dx = none → s.heap.get? bx = none →
      x ≠ dx → bx ≠ x → bx ≠ dx → (∀ c o, s.heap.get? c = some o → h'.get? c = some o) → Q (.ref x) { s with heap := h', toks := tk }) :
    wpN (model prog w) A (call (.ref 396) [.bytes b tb]) Q E s := by
  refine wpN_call (codeN_of_tree ?_)
  show wpN _ _ (callAny (.ref 396) _) _ _ _
  refine wpN_bindA (m := load 396) (wpAny_load (X.k _ _ (by k_is)) ?_)
  show wpN _ _ (callAny.viaDunder (.ref 396) _) _ _ _
  unfold callAny.viaDunder
  refine wpN_bindA ((io_call X.k).here ?_)
  dsimp only
  rw [tc_bind]
  refine wpN_bindA (wpAny_pure (wpN_bindA (wpAny_pure ?_)))
  refine wpN_pure (a := Fin.again (.call (.builtin "type.__call__") ⟨.ref 396 :: [.bytes b tb], []⟩)) ⟨⟨rfl, rfl⟩, codeN_of_tree ?_⟩
  show wpN _ _ (checkBuiltinCall "type.__call__" _ >>= fun _ => again _) _ _ _
  refine wpN_bindA (check_slot tc_kind tc_split (io_typ X.k) (tc_args _ _ _) ?_)
  refine wpN_pure ⟨⟨Code.quiet_builtin _ (by decide +kernel), rfl⟩, codeN_builtin entry_typeCall ?_⟩
  unfold Builtin.«type.__call__»
  dsimp only
  rw [show (Value.ref 396 == Value.type "type") = false from rfl]
  simp only [Bool.false_eq_true, if_false]
  refine wpN_bindA ((io_mro X.k).here ?_)
  simp only [List.isEmpty_cons, Bool.false_eq_true, if_false]
  refine wpN_bindA ((io_made X.k).here ?_)
  dsimp only
  refine wpN_bindA (io_new X.k (wpN_bindA (wpAny_holding (io_new136 (s := { s with toks := s.toks + 1 }) X (hA.underC.mono (by decide)) b tb fun x dx h' tk hx hdx fx fdx hne hk => ?_))))
  have X' : Wd w h' := X.grow hk
  have hT : Looks (model prog w) h' (typeOf (.ref x)) (.ref 396) := (Looks.ld (part := none) hx).andThen .now
  have hI : Looks (model prog w) h' (isInstance (.ref x) (.ref 396)) true := by
    unfold isInstance; exact hT.andThen (io_sub (s := { s with heap := h' }) X'.k)
  refine wpN_bindA (hI.here ?_)
  simp only [Bool.not_true, Bool.false_eq_true, if_false]
  refine wpN_bind (wpN_holding ?_)
  unfold callSpecial?
  have hS : Looks (model prog w) h' (specialOf (.ref x) "__init__") (some (.ref 183)) := by
    unfold specialOf; exact hT.andThen (io_init (s := { s with heap := h' }) X'.k)
  refine wpN_bindA (hS.here ?_)
  dsimp only
  refine wpN_holding (wpN_bindA ((io_bindInit (s := { s with heap := h', toks := tk }) X'.k (.ref x)).here ?_))
  dsimp only
  refine wpN_bind (wpN_call (io_init183 (s := { s with heap := h', toks := tk }) (h₀ := s.heap) X hk (hA.underC.mono (by decide)) x dx b tb hz hx hdx fx fdx hne fun h₂ tk₂ bx t1 t2 t3 g1 g2 g3 fb n1 n2 k2 => ?_))
  refine wpN_pure ?_
  dsimp only
  simp only [bne_self_eq_false, Bool.false_eq_true, if_false]
  refine wpN_pure ?_
  have none_of : ∀ c, h'.get? c = none → s.heap.get? c = none := fun c e => by
    cases q : s.heap.get? c with
    | none => rfl
    | some o => have := hk c o q; rw [e] at this; cases this
  refine h x dx bx h₂ tk₂ t1 t2 t3 g1 g2 g3 fx fdx (none_of _ fb) hne n1 n2 fun c o e => k2 c o ?_ (hk c o e)
  rintro rfl; rw [fdx] at e; cases e
end

section
open PySem PySem.W PyProof.Rows PySem.Calls
variable {w : World} {A : Around} {s : Shared} {E : Value → Shared → Prop} {prog : Program}
theorem t_index {k : Nat} {Q : Value → Shared → Prop} (X : Wd w s.heap) (hA : Ar A (k + 10)) (n : Int) (tn : Tok) (st : Str) (tt : Tok) (hn : n ≤ 1099511627776 ∧ -1099511627776 ≤ n)
    (h : ∀ s' tk, Keeps s s' → Q (.int n tk) s') : wpAny (model prog w) A (call (.ref 109) [.int n tn, .str st tt]) Q E s := by
  refine callDef (k := k + 9) [(Str.ofString "n", .int n tn), (Str.ofString "what", .str st tt)] X hA fun h₁ tk₁ mean mg mb hA' F N K0 T => ?_
  walk_at "my steps"
  rename Fr _ _ _ _ => F'
  exact h _ _ (keepsOf F' _)
end

section
open PySem PySem.W PyProof.Rows PySem.Calls
variable {w : World} {A : Around} {s : Shared} {E : Value → Shared → Prop} {prog : Program}
/-- as enterM, any stack -/
theorem callDefM {Q : Value → Shared → Prop} {name qual : Str} {params : Arguments} {body body' : List Stmt} {scope : Scope} {dV kV doc pm cdv ct oc : Value} {an od : Option Addr} {osl : Array (Option Value)} {f : Addr} {args : List Value} {h₀ : Heap} {k : Nat}
    (ms : List (Addr × Obj)) (binds : List (Str × Value)) (X : Wd w h₀) (hk₀ : ∀ c o, h₀.get? c = some o → s.heap.get? c = some o) (hms : ∀ p ∈ ms, s.heap.get? p.1 = some p.2 ∧ h₀.get? p.1 = none) (hA : Ar A (k + 1))
    (h : ∀ g h₁ tk₁ mean mg mb, (∀ c o, h₀.get? c = some o → g.get? c = some o) → (∀ c o, c ∉ ms.map (·.1) → s.heap.get? c = some o → g.get? c = some o) → Ar (A.deeper (envOf qual scope s.heap.objs.size f cdv)) k → Fr g s.heap.objs.size h₁ (fun y => binds.reverse.lookup y) → News g s.heap.objs.size h₁ ms →
      (Kf w.params).In g → Top vw (looseW vw looseL) mean mg mb g →
      wpAny (model prog w) (A.deeper (envOf qual scope s.heap.objs.size f cdv)) (execs body' (envOf qual scope s.heap.objs.size f cdv))
        (fun fl s' => Q (match fl with | .ret v => v | _ => .none) s') (fun _ _ => False)
        { s with heap := h₁, toks := tk₁ })
    (ho : (Kf w.params).lookup f = some ⟨oc, od, .func (fnOf name qual params body scope dV kV doc pm an cdv ct), osl⟩ := by k_is) (hcd : codeIn (Kf w.params) cdv qual = true := by k_is) (hbd : body = body' := by (conv => lhs; whnf))
    (hbind : BindsTo s (fnOf name qual params body scope dV kV doc pm an cdv ct) ⟨args, []⟩ binds := by first | exact BindsTo.of_eq rfl | exact binds_K (Wd.grow (by assumption) (by assumption)).k rfl (by k_is) rfl rfl rfl) (hloc : ∀ y ∈ binds, scope.names.lookup y.1 = some .local := by exact locs rfl)
    (hcell : ∀ x ∈ scope.names, x.2 ≠ .cell := by decide) (hco : scope.isCoroutine = false := by exact rfl) (hgen : scope.isGenerator = false := by exact rfl) (hk : scope.kind = .function := by exact rfl) :
    wpAny (model prog w) A (call (.ref f) args) Q E s := by
  subst hbd
  have X' := X.grow hk₀
  refine ex3 X.t fun mean mg mb T => ?_
  have nm : ∀ c o, h₀.get? c = some o → c ∉ ms.map (·.1) := fun c o e q => by
    refine ex1 (List.mem_map.mp q) fun p hz319 => an2 hz319 fun hp he320 => ?_
    clear hz319
    subst he320
    rw [(hms p hp).2] at e; cases e
  have kg : ∀ c o, h₀.get? c = some o → (hideAll s.heap (ms.map (·.1))).get? c = some o := fun c o e => hideAll_get _ (hk₀ c o e) (nm c o e)
  refine wpAny_call (codeAny_call_def (fd := fnOf name qual params body scope dV kV doc pm an cdv ct) (body := body) (binds := binds) hA.room (X'.k _ _ ho) rfl (T.nolimit.keeps hk₀) (codeRec_of X'.k hcd) rfl hbind hcell hloc (fun h₁ hns hk₁ => ?_) hco hgen hk)
  refine wpAny_mono (h (hideAll s.heap (ms.map (·.1))) h₁ _ mean mg mb kg (fun c o hc e => hideAll_get _ e hc) hA.deeper
    ⟨hns, fun b o e => hk₁ b o (of_hideAll _ e), Nat.le_of_eq (hideAll_size _ _)⟩
    (fun p hp => ⟨hk₁ _ _ (hms p hp).1, Nat.ne_of_lt (Heap.lt_size (hms p hp).1), hideAll_none _ (List.mem_map_of_mem hp)⟩) (X.k.keeps kg) (T.keeps kg)) (fun _ _ x => x) fun _ _ x => x.elim
/-- a stream among the young objects -/
structure Stream (w : World) (h₀ h : Heap) (x dx bx : Addr) (b : Array UInt8) (p : Int) : Prop where
  hx : h.get? x = some (instObj 396 dx)
  hdx : ∃ t1 t2 t3, h.get? dx = some (streamD w bx p t1 t2 t3)
  hbx : h.get? bx = some (baObj b)
  fx : h₀.get? x = none
  fdx : h₀.get? dx = none
  fbx : h₀.get? bx = none
  n1 : @Ne Nat x dx
  n2 : @Ne Nat bx x
  n3 : @Ne Nat bx dx
theorem keepsM {g h h' : Heap} {L : Addr} {m : Str → Option Value} {ms news' : List (Addr × Obj)} (mu : Addr → Prop) (hg : ∀ c o, c ∉ ms.map (·.1) → h.get? c = some o → g.get? c = some o) (F : Fr g L h' m) (N : News g L h' news')
    (hms : ∀ p ∈ ms, h.get? p.1 = some p.2) (sub : ∀ p ∈ ms, mu p.1 ∨ p ∈ news') (c : Addr) (o : Obj) (hc : ¬ mu c) (e : h.get? c = some o) : h'.get? c = some o := by
  by_cases q : c ∈ ms.map (·.1)
  · refine ex1 (List.mem_map.mp q) fun p hz317 => an2 hz317 fun hp he318 => ?_
    clear hz317
    subst he318
    rcases sub p hp with r | r
    · exact absurd r hc
    · rw [hms p hp] at e; cases e; exact (N p r).1
  · exact F.keep c o (hg c o q e)
theorem t_check {k : Nat} {Q : Value → Shared → Prop} {h₀ : Heap} {x dx bx : Addr} {b : Array UInt8} {p : Int} (X : Wd w h₀) (hk₀ : ∀ c o, h₀.get? c = some o → s.heap.get? c = some o) (hA : Ar A (k + 10)) (S : Stream w h₀ s.heap x dx bx b p)
    (h : ∀ s', Keeps s s' → Q .none s') : wpAny (model prog w) A (call (.ref 190) [.ref x]) Q E s := by
  obtain ⟨hx, ⟨t1, t2, t3, hdx⟩, hbx, fx, fdx, fbx, n1, n2, n3⟩ := S
  have hms : ∀ q ∈ [(x, instObj 396 dx), (dx, streamD w bx p t1 t2 t3)], s.heap.get? q.1 = some q.2 ∧ h₀.get? q.1 = none := by
    intro q hq
    rcases List.mem_cons.mp hq with rfl | hq
    · exact ⟨hx, fx⟩
    · obtain rfl := List.mem_singleton.mp hq
      exact ⟨hdx, fdx⟩
  refine callDefM (k := k + 9) _ [(Str.ofString "self", .ref x)] X hk₀ hms hA fun g h₁ tk₁ mean mg mb hg0 hg hA' F N K0 T => ?_
  unfold streamD at N
  walk_at "my steps"
  rename Fr _ _ _ _ => F'
  exact h _ (exi2 _ _ ⟨rfl, fun c o e => keepsM (fun _ => False) hg F' N (fun q hq => (hms q hq).1) (fun q hq => .inr hq) c o (fun f => f) e⟩)
theorem Stream.ofNews {g h : Heap} {L x dx bx : Addr} {b : Array UInt8} {p : Int} {t1 t2 t3 : Tok} {news : List (Addr × Obj)} (N : News g L h news) (m1 : (bx, baObj b) ∈ news) (m2 : (x, instObj 396 dx) ∈ news) (m3 : (dx, streamD w bx p t1 t2 t3) ∈ news)
    (n1 : @Ne Nat x dx) (n2 : @Ne Nat bx x) (n3 : @Ne Nat bx dx) : Stream w g h x dx bx b p :=
  ⟨(N _ m2).1, (exi3 _ _ _ ((N _ m3).1)), (N _ m1).1, (N _ m2).2.2, (N _ m3).2.2, (N _ m1).2.2, n1, n2, n3⟩
theorem len_ba {k : Nat} {Q : Value → Shared → Prop} {g : Heap} {L a : Addr} {b : Array UInt8} {news : List (Addr × Obj)} (hA : Ar A (k + 5)) (N : News g L s.heap news) (m : (a, baObj b) ∈ news) (hz : b.size ≤ 1000) (h : ∀ tk tk', Q (.int b.size tk) { s with toks := tk' }) : wpAny (model prog w) A (call (.builtin "len") [.ref a]) Q E s :=
  len_ba0 hA (N _ m).1 hz h
local macro_rules | `(tactic| walk_at "call builtin:len") => `(tactic| (refine' len_ba ?k1 ?k2 ?k3 ?k4 ?_; (case k1 => assumption); (case k2 => assumption); (case k3 => k_mem); (case k4 => assumption); intro _ _))
local macro_rules | `(tactic| walk_at "subscriptTail") => `(tactic| (k_here; k_dflt (refine' get_baK ?F ?N ?m ?z ?_; (case F => k_asm); (case N => k_asm); (case m => k_mem); (case z => first | assumption | exact picked_size (by assumption)); intro a' h' F' N')))
local macro_rules | `(tactic| walk_at "call type:bytes") => `(tactic| (k_here; k_dflt (refine' by_baK ?A ?N ?m ?z ?_; (case A => assumption); (case N => k_asm); (case m => k_mem); (case z => first | assumption | exact picked_size (by assumption)); intro _ _)))
theorem t_readN {k : Nat} {Q : Value → Shared → Prop} {h₀ : Heap} {x dx bx : Addr} {b : Array UInt8} {p : Nat} {n : Int} {tn : Tok} {args : List Value} (hargs : args = [.ref x, .int n tn] ∨ (args = [.ref x] ∧ n = -1 ∧ tn = 569)) (X : Wd w h₀) (hk₀ : ∀ c o, h₀.get? c = some o → s.heap.get? c = some o) (hA : Ar A (k + 20)) (S : Stream w h₀ s.heap x dx bx b p)
    (hn : n ≤ 1000 ∧ -1 ≤ n) (hp : p ≤ 1000) (hb : b.size ≤ 1000)
    (h : ∀ h' tk r t (p' : Nat), r.toList = (if n < 0 then b.toList.drop p else (b.toList.drop p).take n.toNat) → p' ≤ 1000 → b.toList.drop p' = (if n < 0 then [] else (b.toList.drop p).drop n.toNat) → Stream w h₀ h' x dx bx b p' →
      (∀ c o, c ≠ dx → s.heap.get? c = some o → h'.get? c = some o) → Q (.bytes r t) { s with heap := h', toks := tk }) : wpAny (model prog w) A (call (.ref 320) args) Q E s := by
  have S₀ := S
  obtain ⟨hx, ⟨t1, t2, t3, hdx⟩, hbx, fx, fdx, fbx, n1, n2, n3⟩ := S
  have hms : ∀ q ∈ [(bx, baObj b), (x, instObj 396 dx), (dx, streamD w bx p t1 t2 t3)], s.heap.get? q.1 = some q.2 ∧ h₀.get? q.1 = none := by
    intro q hq
    simp only [List.mem_cons, List.not_mem_nil, or_false] at hq
    rcases hq with rfl | rfl | rfl
    · exact ⟨hbx, fbx⟩
    · exact ⟨hx, fx⟩
    · exact ⟨hdx, fdx⟩
  refine callDefM (k := k + 19) _ [(Str.ofString "self", .ref x), (Str.ofString "size", .int n tn)] X hk₀ hms hA (fun g h₁ tk₁ mean mg mb hg0 hg hA' F N K0 T => ?_) (hbind := ?_)
  case refine_2 =>
    rcases hargs with rfl | ⟨rfl, rfl, rfl⟩
    · exact binds_K (Wd.grow X hk₀).k rfl (by k_is) rfl rfl rfl
    · exact binds_K (Wd.grow X hk₀).k rfl (by k_is) rfl rfl rfl
  have fin : ∀ h' tk r t (p' : Nat) t1' t2' t3' m' news', Fr g s.heap.objs.size h' m' → News g s.heap.objs.size h' news' → (bx, baObj b) ∈ news' → (x, instObj 396 dx) ∈ news' →
      (dx, dictOf [⟨PyData.keyHash w.params (Str.ofString "_BytesIO__buf"), .str (Str.ofString "_BytesIO__buf") t1', .ref bx⟩, ⟨PyData.keyHash w.params (Str.ofString "_BytesIO__pos"), .str (Str.ofString "_BytesIO__pos") t2', .int p' t3'⟩] 2) ∈ news' →
      p' ≤ 1000 → r.toList = (if n < 0 then b.toList.drop p else (b.toList.drop p).take n.toNat) → b.toList.drop p' = (if n < 0 then [] else (b.toList.drop p).drop n.toNat) → Q (.bytes r t) { s with heap := h', toks := tk } := by
    intro h' tk r t p' t1' t2' t3' m' news' F' N' m1 m2 m3 hp' hr hd
    refine h h' tk r t p' hr hp' hd ⟨(N' _ m2).1, (exi3 _ _ _ ((N' _ m3).1)), (N' _ m1).1, fx, fdx, fbx, n1, n2, n3⟩ fun c o hc e => ?_
    refine keepsM (fun a => a = dx) hg F' N' (fun q hq => (hms q hq).1) (fun q hq => ?_) c o hc e
    simp only [List.mem_cons, List.not_mem_nil, or_false] at hq
    rcases hq with rfl | rfl | rfl
    · exact .inr m1
    · exact .inr m2
    · exact .inl rfl
  have hl : b.toList.length = b.size := by simp
  unfold streamD at N
  walk_at "my steps"
  rename Fr _ _ _ _ => F
  have W1 : Wd w h₁ := Wd.grow ⟨K0, (exi3 _ _ _ T)⟩ F.keep
  refine t_index (k := k + 9) W1 hA' n tn _ _ ⟨by lia, by lia⟩ fun s' tk hs => ?_
  refine ex2 hs fun h₂ tk₂ hz315 => an2 hz315 fun he316 k₂ => ?_
  clear hz315
  try clear hs
  subst he316
  have F₂ := frGrow F k₂
  have N₂ := newsGrow N k₂
  clear F N
  walk_at "my steps"
  rename Fr _ _ _ _ => F
  rename News _ _ _ _ => N
  have W0 : Wd w g := ⟨K0, (exi3 _ _ _ T)⟩
  refine t_check (k := k + 9) W0 F.keep hA' (Stream.ofNews N (.head _) (.tail _ (.head _)) (.tail _ (.tail _ (.head _))) n1 n2 n3) fun s' hs => ?_
  refine ex2 hs fun h₃ tk₃ hz313 => an2 hz313 fun he314 k₃ => ?_
  clear hz313
  try clear hs
  subst he314
  have F₃ := frGrow F k₃
  have N₃ := newsGrow N k₃
  clear F N
  walk_at "my steps"
  all_goals (rename Fr _ _ _ _ => Fz; rename News _ _ _ _ => Nz)
  · have e0 : b.toList.drop p = [] := List.drop_eq_nil_of_le (by lia)
    refine fin _ _ #[] _ p _ _ _ _ _ Fz Nz (by k_mem) (by k_mem) (by k_mem) hp ?_ ?_
    · rw [e0]; split <;> simp
    · rw [e0]; split <;> simp
  · obtain ⟨q, rfl⟩ : ∃ q : Nat, n = (q : Int) := ⟨n.toNat, by lia⟩
    have ep : (p : Int) + (q : Int) = ((p + q : Nat) : Int) := by lia
    rw [ep] at Nz ⊢
    refine fin _ _ _ _ (p + q) _ _ _ _ _ Fz Nz (by k_mem) (by k_mem) (by k_mem) (by lia) ?_ ?_
    · rw [ba_picked (by lia) (by lia), if_neg (by lia)]
      simp [show p + q - p = q by lia]
    · rw [if_neg (by lia)]; simp [List.drop_drop]
  · refine fin _ _ _ _ b.size _ _ _ _ _ Fz Nz (by k_mem) (by k_mem) (by k_mem) hb ?_ ?_
    · rw [ba_picked (by lia) (by lia), if_neg (by lia)]
      simp only [List.toList_toArray]
      rw [List.take_of_length_le (by simp), List.take_of_length_le (by simp; lia)]
    · rw [if_neg (by lia), List.drop_eq_nil_of_le (by simp), List.drop_eq_nil_of_le (by simp; lia)]
  · refine fin _ _ _ _ b.size _ _ _ _ _ Fz Nz (by k_mem) (by k_mem) (by k_mem) hb ?_ ?_
    · rw [ba_picked (by lia) (by lia), if_pos (by lia)]
      simp only [List.toList_toArray]
      rw [List.take_of_length_le (by simp)]
    · rw [if_pos (by lia), List.drop_eq_nil_of_le (by simp)]
end

section
open PySem PySem.W PyProof.Rows PySem.Calls
variable {w : World} {A : Around} {s : Shared} {E : Value → Shared → Prop} {prog : Program}
noncomputable abbrev streamMs (w : World) (x dx bx : Addr) (b : Array UInt8) (p : Int) (t1 t2 t3 : Tok) : List (Addr × Obj) := [(bx, baObj b), (x, instObj 396 dx), (dx, streamD w bx p t1 t2 t3)]
theorem frBut {g h h' : Heap} {L dx : Addr} {m : Str → Option Value} (F : Fr g L h m) (hd : g.get? dx = none) (hL : dx ≠ L) (k : ∀ c o, c ≠ dx → h.get? c = some o → h'.get? c = some o) : Fr g L h' m :=
  ⟨F.ns.at' fun o e => k _ o (Ne.symm hL) e, fun c o e => k c o (fun q => by subst q; rw [hd] at e; cases e) (F.keep c o e), F.above⟩
theorem newsStream {g h h' : Heap} {L x dx bx : Addr} {b : Array UInt8} {p p' : Int} {t1 t2 t3 : Tok} (N : News g L h (streamMs w x dx bx b p t1 t2 t3)) {h₀ : Heap} (S : Stream w h₀ h' x dx bx b p') :
    ∃ t1 t2 t3, News g L h' (streamMs w x dx bx b p' t1 t2 t3) := by
  refine ex3 S.hdx fun t1' t2' t3' hdx => ?_
  refine (exi3 t1' t2' t3' (fun q hq => ?_))
  have a1 := N _ (.head _)
  have a2 := N _ (.tail _ (.head _))
  have a3 := N _ (.tail _ (.tail _ (.head _)))
  simp only [streamMs, List.mem_cons, List.not_mem_nil, or_false] at hq
  rcases hq with rfl | rfl | rfl
  · exact ⟨S.hbx, a1.2⟩
  · exact ⟨S.hx, a2.2⟩
  · exact ⟨hdx, a3.2⟩
theorem streamHms {h₀ h : Heap} {x dx bx : Addr} {b : Array UInt8} {p : Int} (S : Stream w h₀ h x dx bx b p) : ∃ t1 t2 t3, ∀ q ∈ streamMs w x dx bx b p t1 t2 t3, h.get? q.1 = some q.2 ∧ h₀.get? q.1 = none := by
  refine ex3 S.hdx fun t1 t2 t3 hdx => ?_
  refine (exi3 t1 t2 t3 (fun q hq => ?_))
  simp only [streamMs, List.mem_cons, List.not_mem_nil, or_false] at hq
  rcases hq with rfl | rfl | rfl
  · exact ⟨S.hbx, S.fbx⟩
  · exact ⟨S.hx, S.fx⟩
  · exact ⟨hdx, S.fdx⟩
theorem streamDrop_lt {b : Array UInt8} {p : Nat} {c : UInt8} {rest : List UInt8} (hb : b.size ≤ 1000) (hl : b.toList.drop p = c :: rest) : p ≤ 1000 := by
  have := congrArg List.length hl
  simp at this; lia
theorem streamEnd {h₀ g h h' : Heap} {L x dx bx : Addr} {b : Array UInt8} {p p' : Int} {t1 t2 t3 u1 u2 u3 : Tok} {m : Str → Option Value} (S : Stream w h₀ h x dx bx b p) (hms : ∀ q ∈ streamMs w x dx bx b p t1 t2 t3, h.get? q.1 = some q.2 ∧ h₀.get? q.1 = none)
    (hg : ∀ c o, c ∉ (streamMs w x dx bx b p t1 t2 t3).map (·.1) → h.get? c = some o → g.get? c = some o) (F : Fr g L h' m) (N : News g L h' (streamMs w x dx bx b p' u1 u2 u3)) :
    Stream w h₀ h' x dx bx b p' ∧ ∀ c o, c ≠ dx → h.get? c = some o → h'.get? c = some o := by
  refine ⟨⟨(N _ (.tail _ (.head _))).1, (exi3 _ _ _ ((N _ (.tail _ (.tail _ (.head _)))).1)), (N _ (.head _)).1, S.fx, S.fdx, S.fbx, S.n1, S.n2, S.n3⟩, fun c o hc e => ?_⟩
  refine keepsM (fun a => a = dx) hg F N (fun q hq => (hms q hq).1) (fun q hq => ?_) c o hc e
  simp only [streamMs, List.mem_cons, List.not_mem_nil, or_false] at hq
  rcases hq with rfl | rfl | rfl
  · exact .inr (.head _)
  · exact .inr (.tail _ (.head _))
  · exact .inl rfl
theorem truthy_some {b : Array UInt8} {t : Tok} {Q : Bool → Shared → Prop} (h0 : 0 < b.size) (hz : b.size ≤ 1000) (h : ∀ tk, Q true { s with toks := tk }) : wpAny (model prog w) A (truthy (.bytes b t)) Q E s := by
  refine truthy_bytes (by lia) ?_
  rw [show ((b.size : Int) != 0) = true from by simp only [bne_iff_ne, ne_eq]; lia]
  exact h _
local macro_rules | `(tactic| walk_at "truthy bytes") => `(tactic| (refine' truthy_some ?a ?b ?_; (case a => first | assumption | decide | simp); (case b => first | assumption | decide | simp); intro _))
theorem t_uint1 {k : Nat} {Q : Value → Shared → Prop} {h₀ : Heap} {x dx bx : Addr} {b : Array UInt8} {p : Nat} {c : UInt8} {rest : List UInt8} (X : Wd w h₀) (hk₀ : ∀ c o, h₀.get? c = some o → s.heap.get? c = some o) (hA : Ar A (k + 25)) (S : Stream w h₀ s.heap x dx bx b p)
    (hb : b.size ≤ 1000) (hl : b.toList.drop p = c :: rest)
    (h : ∀ h' tk t (p' : Nat), b.toList.drop p' = rest → Stream w h₀ h' x dx bx b p' → (∀ c o, c ≠ dx → s.heap.get? c = some o → h'.get? c = some o) → p' ≤ 1000 → Q (.int (c.toNat : Int) t) { s with heap := h', toks := tk }) :
    wpAny (model prog w) A (call (.ref 28) [.ref x]) Q E s := by
  refine ex3 (streamHms S) fun t1 t2 t3 hms => ?_
  refine callDefM (k := k + 24) (streamMs w x dx bx b p t1 t2 t3) [(Str.ofString "f", .ref x)] X hk₀ hms hA fun g h₁ tk₁ mean mg mb hg0 hg hA' F N K0 T => ?_
  have N0 := N
  unfold streamMs streamD at N
  walk_at "my steps"
  rename Fr _ _ _ _ => F
  have W0 : Wd w g := ⟨K0, (exi3 _ _ _ T)⟩
  refine t_readN (k := k + 4) (.inl rfl) W0 F.keep hA' (Stream.ofNews N0 (.head _) (.tail _ (.head _)) (.tail _ (.tail _ (.head _))) S.n1 S.n2 S.n3) ⟨by decide, by decide⟩ (streamDrop_lt hb hl) hb fun h₂ tk₂ r t p' hr hp' hd S' k₂ => ?_
  have hr' : r = #[c] := by
    apply Array.ext'
    rw [hr, hl]; rfl
  subst hr'
  rw [hl] at hd
  have F₂ := frBut F S'.fdx (fun e => (N0 _ (.tail _ (.tail _ (.head _)))).2.1 e) k₂
  refine ex3 (newsStream N0 S') fun u1 u2 u3 N₂ => ?_
  clear F N N0
  walk_at "my steps"
  rename Fr _ _ _ _ => Fz
  rename News _ _ _ _ => Nz
  have z := streamEnd S hms hg Fz Nz
  exact h _ _ _ p' hd z.1 z.2 hp'
theorem len_bytes' {b : Array UInt8} {t : Tok} {Q : Value → Shared → Prop} (hz : b.size ≤ 1000) (h : ∀ tk tk', Q (.int b.size tk) { s with toks := tk' }) : wpAny (model prog w) A (call (.builtin "len") [.bytes b t]) Q E s := len_bytes (by lia) (h _ _)
local macro_rules | `(tactic| walk_at "call builtin:len") => `(tactic| (refine' len_bytes' ?a ?_; (case a => assumption); intro _ _))
theorem t_bytes1 {k : Nat} {Q : Value → Shared → Prop} {h₀ : Heap} {x dx bx : Addr} {b : Array UInt8} {p : Nat} {c : UInt8} {rest : List UInt8} (X : Wd w h₀) (hk₀ : ∀ c o, h₀.get? c = some o → s.heap.get? c = some o) (hA : Ar A (k + 30)) (S : Stream w h₀ s.heap x dx bx b p)
    (hb : b.size ≤ 1000) (hl : b.toList.drop p = c :: rest) (hlen : c.toNat ≤ rest.length)
    (h : ∀ h' tk r t (p' : Nat), r.toList = rest.take c.toNat → b.toList.drop p' = rest.drop c.toNat → Stream w h₀ h' x dx bx b p' → (∀ c o, c ≠ dx → s.heap.get? c = some o → h'.get? c = some o) → p' ≤ 1000 → Q (.bytes r t) { s with heap := h', toks := tk }) :
    wpAny (model prog w) A (call (.ref 35) [.ref x]) Q E s := by
  refine ex3 (streamHms S) fun t1 t2 t3 hms => ?_
  refine callDefM (k := k + 29) (streamMs w x dx bx b p t1 t2 t3) [(Str.ofString "f", .ref x)] X hk₀ hms hA fun g h₁ tk₁ mean mg mb hg0 hg hA' F N K0 T => ?_
  have W0 : Wd w g := ⟨K0, (exi3 _ _ _ T)⟩
  have N0 := N
  unfold streamMs streamD at N
  walk_at "my steps"
  rename Fr _ _ _ _ => F
  refine t_uint1 (k := k + 4) W0 F.keep hA' (Stream.ofNews N0 (.head _) (.tail _ (.head _)) (.tail _ (.tail _ (.head _))) S.n1 S.n2 S.n3) hb hl fun h₂ tk₂ t p₁ hd S₁ k₂ hp1 => ?_
  have F₂ := frBut F S₁.fdx (fun e => (N0 _ (.tail _ (.tail _ (.head _)))).2.1 e) k₂
  refine ex3 (newsStream N0 S₁) fun u1 u2 u3 N₂ => ?_
  clear F N N0
  have hc : c.toNat < 256 := c.toNat_lt
  have N3 := N₂
  unfold streamMs streamD at N₂
  walk_at "my steps"
  rename Fr _ _ _ _ => F
  rename News _ _ _ _ => N0
  refine t_readN (k := k + 9) (.inl rfl) W0 F.keep hA' (Stream.ofNews N0 (.head _) (.tail _ (.head _)) (.tail _ (.tail _ (.head _))) S.n1 S.n2 S.n3) ⟨by lia, by lia⟩ hp1 hb fun h₃ tk₃ r t' p' hr hp' hd' S' k₃ => ?_
  rw [hd, if_neg (by lia), Int.toNat_natCast] at hr
  rw [hd, if_neg (by lia), Int.toNat_natCast] at hd'
  have hrs : r.size = c.toNat := by
    rw [← Array.length_toList, hr, List.length_take]; lia
  have hrz : r.size ≤ 1000 := by lia
  have F₃ := frBut F S'.fdx (fun e => (N0 _ (.tail _ (.tail _ (.head _)))).2.1 e) k₃
  refine ex3 (newsStream N0 S') fun u1 u2 u3 N₃ => ?_
  clear F N0
  walk_at "my steps"
  · rename Fr _ _ _ _ => Fz
    rename News _ _ _ _ => Nz
    have z := streamEnd S hms hg Fz Nz
    exact h _ _ _ _ p' hr hd' z.1 z.2 hp'
  · exfalso; lia
end

section
open PySem PySem.W PyProof.Rows PySem.Calls
variable {w : World} {A : Around} {s : Shared} {E : Value → Shared → Prop}
/-- minus one, nought or one -/
noncomputable def sgn : Ordering → Int
  | .lt => -1
  | .eq => 0
  | .gt => 1
theorem sgn_b2i (o : Ordering) : (if (o == .gt) = true then (1 : Int) else 0) - (if (o == .lt) = true then 1 else 0) = sgn o := by cases o <;> rfl
theorem t_cmpB {k : Nat} {Q : Value → Shared → Prop} (X : Wd w s.heap) (hA : Ar A (k + 1)) (b c : Array UInt8) (tb tc : Tok)
   (h : ∀ s' tk, Keeps s s' → Q (.int (sgn (Builtin.Bytes.order b.toList c.toList)) tk) s') : wpAny (model Pr w) A (call (.ref 95) [.bytes b tb, .bytes c tc]) Q E s := by
  refine callDef [(Str.ofString "x", .bytes b tb), (Str.ofString "y", .bytes c tc)] X hA fun h₁ tk₁ mean mg mb hA' F N K0 T => ?_
  walk_at "my steps"
  dsimp only
  rw [show b2i (Builtin.Bytes.order b.toList c.toList == Ordering.gt) - b2i (Builtin.Bytes.order b.toList c.toList == Ordering.lt) = sgn (Builtin.Bytes.order b.toList c.toList) from sgn_b2i _]
  exact h _ _ (keepsOf F _)
theorem t_valueB {k : Nat} {Q : Value → Shared → Prop} (X : Wd w s.heap) (hA : Ar A (k + 1)) (b : Array UInt8) (tb' : Tok) (base : Int) (tb : Tok)
   (hb : 0 ≤ base ∧ base ≤ 256)
   (h : ∀ s' tk, Keeps s s' → Q (.int (b.toList.foldl (fun n f => n * base + (f.toNat : Int)) 0) tk) s') : wpAny (model Pr w) A (call (.ref 681) [.bytes b tb', .int base tb]) Q E s := by
  refine callDef [(Str.ofString "figures", .bytes b tb'), (Str.ofString "base", .int base tb)] X hA fun h₁ tk₁ mean mg mb hA' F N K0 T => ?_
  walk_at "my steps"
  rename Fr _ _ _ _ => F'
  rename News _ _ _ _ => N'
  refine for_bytes hA'.hd rfl rfl F' N' (fun i m news => (∃ t, m (Str.ofString "number") = some (.int ((b.toList.take i).foldl (fun n f => n * base + (f.toNat : Int)) 0) t)) ∧ m (Str.ofString "base") = some (.int base tb) ∧ news = []) ?_ ?_ ?_ ?_
  · exact ⟨⟨_, rfl⟩, rfl, rfl⟩
  · intro i m₁ news₁ hz40
    refine an3 hz40 fun _ _ he242 => ?_
    try clear hz40
    subst he242
    intro p hp
    cases hp
  · intro i c u m₁ news₁ h₁ tk₁ oI hi' hv hz41
    refine an3 hz41 fun hz240 hbs he241 => ?_
    try clear hz41
    obtain ⟨t, hn⟩ := hz240
    subst he241
    intro F₁ N₁
    try dsimp only [envOf, envOfC] at F₁ N₁
    walk_at "my steps"
    rename Fr _ _ _ _ => F₃
    rename News _ _ _ _ => N₃
    have hv' : b.toList[i]? = some c := by rw [Array.getElem?_toList]; exact hv
    exact (TurnEnd.go (news := []) F₃ N₃ ⟨⟨_, by rw [take_succ hv', List.foldl_append]; rfl⟩, hbs, rfl⟩)
  · intro h' tk m' news' F₁ N₁ hz42
    refine an3 hz42 fun hz238 hbs he239 => ?_
    try clear hz42
    obtain ⟨t, hn⟩ := hz238
    subst he239
    try dsimp only [envOf, envOfC] at F₁ N₁
    walk_at "my steps"
    have e : b.toList.take b.size = b.toList := by rw [← Array.length_toList, List.take_length]
    rw [e]
    exact h _ _ (keepsOf F₁ _)
end

section
open PySem PySem.W PyProof.Rows PySem.Calls
variable {w : World} {A : Around} {s : Shared} {E : Value → Shared → Prop}
section
open Builtin.Bytes
theorem ord_same (p a b : List UInt8) : order (p ++ a) (p ++ b) = order a b := by
  induction p with
  | nil => rfl
  | cons x p ih => simp only [List.cons_append, order, ih]; simp [show ¬ x < x from by simp]
theorem ord_take {b c : List UInt8} {i : Nat} (h : b.take i = c.take i) : order b c = order (b.drop i) (c.drop i) := by
  conv => lhs; rw [← List.take_append_drop i b, ← List.take_append_drop i c, h]
  exact ord_same _ _ _
theorem ord_self (a : List UInt8) : order a a = .eq := by
  induction a with
  | nil => rfl
  | cons x a ih => simp [order, ih]
theorem ord_one {x y : List UInt8} (h : x.take 1 ≠ y.take 1) : order x y = order (x.take 1) (y.take 1) ∧ order x y ≠ .eq := by
  cases x with
  | nil => cases y with
    | nil => exact absurd rfl h
    | cons b y => exact ⟨rfl, by simp [order]⟩
  | cons a x => cases y with
    | nil => exact ⟨rfl, by simp [order]⟩
    | cons b y =>
      have hab : a ≠ b := fun e => h (by simp [e])
      simp only [List.take_succ_cons, List.take_zero, order]
      have hn : a.toNat ≠ b.toNat := fun e => hab (UInt8.toNat_inj.mp e)
      rcases (show a < b ∨ b < a by rw [UInt8.lt_iff_toNat_lt, UInt8.lt_iff_toNat_lt]; lia) with q | q
      · simp [q]
      · have : ¬ a < b := by simp only [UInt8.not_lt]; exact UInt8.le_of_lt q
        simp [this, q]
theorem ord_step {b c : List UInt8} {i : Nat} (h : b.take i = c.take i) (h1 : (b.drop i).take 1 = (c.drop i).take 1) : b.take (i + 1) = c.take (i + 1) := by
  rw [List.take_add, List.take_add, h, h1]
theorem size_range {n : Int} (h : 0 ≤ n) : Builtin.Range.rangeSize 0 n 1 = n := by
  unfold Builtin.Range.rangeSize
  simp only [show ((1 : Int) > 0) from by decide, if_true]
  split <;> lia
theorem small_range {n : Int} (h : 0 ≤ n) (h' : n ≤ 100000) : Builtin.Range.small 0 n 1 = true := by
  exact small_one (by decide) (by decide) (by lia) (by lia)
theorem pick_one {b : Array UInt8} {i : Nat} : (KBy.picked b (some (0 + (i : Int) * 1)) (some (0 + (i : Int) * 1 + 1))).toList = (b.toList.drop i).take 1 := by
  rw [Int.zero_add, Int.mul_one, show (i : Int) + 1 = ((i + 1 : Nat) : Int) from rfl, by_pick (Nat.le_succ i)]
  congr 1; lia
end
theorem t_unlike {k : Nat} {Q : Value → Shared → Prop} (X : Wd w s.heap) (hA : Ar A (k + 1)) (b c : Array UInt8) (tb tc : Tok) (hb : b.size ≤ 1000) (hc : c.size ≤ 1000)
   (h : ∀ s' tk, Keeps s s' → Q (.int (sgn (Builtin.Bytes.order b.toList c.toList)) tk) s') : wpAny (model Pr w) A (call (.ref 688) [.bytes b tb, .bytes c tc]) Q E s := by
  refine callDef [(Str.ofString "one", .bytes b tb), (Str.ofString "two", .bytes c tc)] X hA fun h₁ tk₁ mean mg mb hA' F N K0 T => ?_
  refine conc hA' fun n u hA' => ?_
  walk_at "my steps"
  rename IsRange _ _ _ _ _ _ _ _ => hr
  rename Fr _ _ _ _ => F'
  rename News _ _ _ _ => N'
  refine for_range (n := if c.size > b.size then c.size else b.size) rfl rfl rfl hr ?_ ?_ F' N' (fun i m news => m (Str.ofString "one") = some (.bytes b tb) ∧ m (Str.ofString "two") = some (.bytes c tc) ∧ b.toList.take i = c.toList.take i ∧ news = []) ?_ ?_ ?_ ?_
  · exact small_range (by split <;> lia) (by split <;> lia)
  · rw [size_range (by split <;> lia)]; split <;> split <;> lia
  · exact ⟨rfl, rfl, rfl, rfl⟩
  · intro i m₁ news₁ hz43
    refine an4 hz43 fun _ _ _ he245 => ?_
    try clear hz43
    subst he245
    intro p hp
    cases hp
  · intro i tv m₁ news₁ h₁ tk₁ oI hi' hz44
    refine an4 hz44 fun h1 h2 hq he244 => ?_
    try clear hz44
    subst he244
    intro F₁ N₁
    try dsimp only [envOf, envOfC] at F₁ N₁
    walk_at "my steps"
    · rename _ = _ => hx
      rename (_ != _) = true => hd
      rename Fr _ _ _ _ => Fz
      rw [pick_one, pick_one] at hx hd
      have hne : (b.toList.drop i).take 1 ≠ (c.toList.drop i).take 1 := by simpa using hd
      have z := ord_one hne
      rw [← z.1, ← ord_take hq] at hx
      have h' := fun s' tk hk => h s' tk hk
      rw [eq_of_beq hx] at h'
      exact TurnEnd.ret (Nxt.ret (by assumption) (h' _ _ (keepsOf Fz _)))
    · rename _ = _ => hx
      rename (_ != _) = true => hd
      rename Fr _ _ _ _ => Fz
      rw [pick_one, pick_one] at hx hd
      have hne : (b.toList.drop i).take 1 ≠ (c.toList.drop i).take 1 := by simpa using hd
      have z := ord_one hne
      rw [← z.1, ← ord_take hq] at hx
      rw [← ord_take hq] at z
      have h' := fun s' tk hk => h s' tk hk
      have e : Builtin.Bytes.order b.toList c.toList = .lt := by
        cases q : Builtin.Bytes.order b.toList c.toList with
        | lt => rfl
        | eq => exact absurd q z.2
        | gt => rw [q] at hx; cases hx
      rw [e] at h'
      exact TurnEnd.ret (Nxt.ret (by assumption) (h' _ _ (keepsOf Fz _)))
    · rename _ = false => hx
      rename Fr _ _ _ _ => Fz
      rename News _ _ _ _ => Nz
      rw [pick_one, pick_one] at hx
      have he : (b.toList.drop i).take 1 = (c.toList.drop i).take 1 := by simpa using hx
      exact (TurnEnd.go (news := []) Fz Nz ⟨h1, h2, ord_step hq he, rfl⟩)
  · intro h' tk m' news' F₁ N₁ hz45
    refine an4 hz45 fun h1 h2 hq he243 => ?_
    try clear hz45
    subst he243
    try dsimp only [envOf, envOfC] at F₁ N₁
    walk_at "my steps"
    have e : b.toList = c.toList := by
      have e1 : b.toList.take (if c.size > b.size then c.size else b.size) = b.toList := List.take_of_length_le (by rw [Array.length_toList]; split <;> lia)
      have e2 : c.toList.take (if c.size > b.size then c.size else b.size) = c.toList := List.take_of_length_le (by rw [Array.length_toList]; split <;> lia)
      rw [e1, e2] at hq; exact hq
    dsimp only
    have h' := fun s' tk hk => h s' tk hk
    rw [e, ord_self] at h'
    exact h' _ _ (keepsOf F₁ _)
end

section
open PySem PySem.W PyProof.Rows PySem.Calls
variable {w : World} {A : Around} {s : Shared} {E : Value → Shared → Prop}
local macro_rules | `(tactic| walk_at "exec For") => `(tactic| (k_dflt (refine wpAny_For ?_)))
noncomputable def valI (base : Int) (l : List Int) : Int := l.foldl (fun n f => n * base + f) 0
theorem valI_snoc (base : Int) (l : List Int) (a : Int) : valI base (l ++ [a]) = valI base l * base + a := by simp [valI]
theorem t_value {k : Nat} {Q : Value → Shared → Prop} (X : Wd w s.heap) (hA : Ar A (k + 1)) (l : Addr) (vs : List Value) (ns : List Int) (hl : s.heap.IsList l vs.toArray) (hi : IntsAre vs ns) (base : Int) (tb : Tok)
   (hb : 0 ≤ base ∧ base ≤ 256)
   (h : ∀ s' tk, Keeps s s' → Q (.int (valI base ns) tk) s') : wpAny (model Pr w) A (call (.ref 681) [.ref l, .int base tb]) Q E s := by
  refine callDef [(Str.ofString "figures", .ref l), (Str.ofString "base", .int base tb)] X hA fun h₁ tk₁ mean mg mb hA' F N K0 T => ?_
  walk_at "my steps"
  rename Fr _ _ _ _ => F'
  rename News _ _ _ _ => N'
  refine for_list hA'.hd rfl rfl (lkeep hl F'.keep) (lne hl) F' N' (fun i m news => (∃ t, m (Str.ofString "number") = some (.int (valI base (ns.take i)) t)) ∧ m (Str.ofString "base") = some (.int base tb) ∧ news = []) ?_ ?_ (.inl (lold hl)) ?_ ?_
  · exact ⟨⟨_, rfl⟩, rfl, rfl⟩
  · intro i m₁ news₁ hz6
    refine an3 hz6 fun _ _ he41 => ?_
    try clear hz6
    subst he41
    intro p hp
    cases hp
  · intro i v m₁ news₁ h₁ tk₁ oI hi' hv hz7
    refine an3 hz7 fun hz39 hbs he40 => ?_
    try clear hz7
    obtain ⟨t, hn⟩ := hz39
    subst he40
    intro F₁ N₁
    try dsimp only [envOf, envOfC] at F₁ N₁
    refine ex2 (IntsAre.get hi (by simpa using hv)) fun n u hz37 => an2 hz37 fun hn' he38 => ?_
    clear hz37
    subst he38
    walk_at "my steps"
    rename Fr _ _ _ _ => F₃
    rename News _ _ _ _ => N₃
    exact (TurnEnd.go (news := []) F₃ N₃ ⟨⟨_, by rw [take_succ hn', valI_snoc]; rfl⟩, hbs, rfl⟩)
  · intro h' tk m' news' F₁ N₁ hz8
    refine an3 hz8 fun hz35 hbs he36 => ?_
    try clear hz8
    obtain ⟨t, hn⟩ := hz35
    subst he36
    try dsimp only [envOf, envOfC] at F₁ N₁
    walk_at "my steps"
    have e : ns.take vs.toArray.size = ns := by simp [hi.length]
    rw [e]
    exact h _ _ (keepsOf F₁ _)
end

-- M1
section
local macro_rules | `(tactic| walk_at "binaryOp FloorDiv int int") => `(tactic| (refine fdivI (by first | with_reducible assumption | omega) (by first | with_reducible assumption | omega) ?_))
local macro_rules | `(tactic| walk_at "binaryOp Mod int int") => `(tactic| (refine modI (by first | with_reducible assumption | omega) ?_))
local macro_rules | `(tactic| walk_at "loadName") => `(tactic| (k_here; k_dflt (refine ldn (by k_asm) (by first | with_reducible assumption | assumption) ?_)))
local macro_rules | `(tactic| walk_at "my steps") => `(tactic| repeat' (first | ((fail_if_success (with_reducible show wpAny _ _ (pyIter _) _ _ _)); (fail_if_success (with_reducible show wpAny _ _ (exec (Stmt.While _ _ _ _) _) _ _ _)); (fail_if_success (with_reducible show wpAny _ _ (exec (Stmt.Try _ _ _ _ _) _) _ _ _)); (fail_if_success (with_reducible show wpAny _ _ (eval (Expr.ListComp _ _ _ _) _) _ _ _)); (fail_if_success (with_reducible show wpAny _ _ (exec (Stmt.Assign _ (Expr.ListComp _ _ _ _) _) _) _ _ _)); first | keq_rows | walk1)))
local macro_rules | `(tactic| walk_at "to item") => `(tactic| repeat' (first | ((fail_if_success (with_reducible show wpAny _ _ (subscriptTail _ _ (Value.ref _) (Value.int _ _)) _ _ _)); (fail_if_success (with_reducible show wpAny _ _ (pyIter _) _ _ _)); (fail_if_success (with_reducible show wpAny _ _ (exec (Stmt.While _ _ _ _) _) _ _ _)); (fail_if_success (with_reducible show wpAny _ _ (exec (Stmt.Try _ _ _ _ _) _) _ _ _)); (fail_if_success (with_reducible show wpAny _ _ (eval (Expr.ListComp _ _ _ _) _) _ _ _)); (fail_if_success (with_reducible show wpAny _ _ (exec (Stmt.Assign _ (Expr.ListComp _ _ _ _) _) _) _ _ _)); first | keq_rows | walk1)))
local macro_rules | `(tactic| walk_at "to cmp") => `(tactic| repeat' (first | ((fail_if_success (with_reducible show wpAny _ _ (compareOp _ (Value.ref _) (Value.ref _)) _ _ _)); (fail_if_success (with_reducible show wpAny _ _ (subscriptTail _ _ (Value.ref _) (Value.int _ _)) _ _ _)); (fail_if_success (with_reducible show wpAny _ _ (pyIter _) _ _ _)); (fail_if_success (with_reducible show wpAny _ _ (exec (Stmt.While _ _ _ _) _) _ _ _)); (fail_if_success (with_reducible show wpAny _ _ (exec (Stmt.Try _ _ _ _ _) _) _ _ _)); (fail_if_success (with_reducible show wpAny _ _ (eval (Expr.ListComp _ _ _ _) _) _ _ _)); (fail_if_success (with_reducible show wpAny _ _ (exec (Stmt.Assign _ (Expr.ListComp _ _ _ _) _) _) _ _ _)); first | keq_rows | walk1)))
local macro_rules | `(tactic| walk_at "call type:list") => `(tactic| ((with_reducible show wpAny _ _ (call (Value.type "list") [Value.bytes _ _]) _ _ _); (with_reducible rename Fr _ _ _ _ => F'); (with_reducible rename News _ _ _ _ => N'); (refine list_bytesN F' N' rfl (by first | assumption | decide) ?_); intro _ _ _ _ _ _ _ _; (try clear F' N')))
local macro_rules | `(tactic| walk_at "execs cons Assign cons") => `(tactic| refine wpAny_execs_cons ?_)

section
open PySem PySem.W PyProof.Rows PySem.Calls
variable {w : World} {A : Around} {s : Shared} {E : Value → Shared → Prop}
theorem wy_getD (i : Nat) : ([1, 256, 131072, 83886080, 60129542144] : List Int).getD i 0 = (wy i : Int) := by
  match i with
  | 0 => rfl
  | 1 => rfl
  | 2 => rfl
  | 3 => rfl
  | 4 => rfl
  | n + 5 => rfl
theorem wy_le (i : Nat) : wy i ≤ 60129542144 := by
  match i with
  | 0 => decide
  | 1 => decide
  | 2 => decide
  | 3 => decide
  | 4 => decide
  | n + 5 => exact Nat.zero_le _
theorem mul_way {a : Int} {i : Nat} : IntMulOk a (wy i : Int) := IntMulOk.of_right (PySem.intBits_le_64 (by have := wy_le i; lia) (by have := wy_le i; lia))
/-- the list of the ways -/
structure Ways (h : Heap) (l : Addr) (vs : List Value) : Prop where
  l : h.IsList l vs.toArray
  i : IntsAre vs [1, 256, 131072, 83886080, 60129542144]
theorem Ways.item {prog : Program} {value slice : PySem.Expr} {l : Addr} {vs : List Value} {k : Int} {u : Tok} {Q : Value → Shared → Prop} (W : Ways s.heap l vs)
    (h0 : 0 ≤ k) (h1 : k ≤ 4) (h : ∀ t, Q (.int (wy k.toNat : Int) t) s)
    (hs : subscripted slice false (.ref l) (.int k u) = operate [.ref l, .int k u] (getItem (.ref l) (.int k u)) := by with_unfolding_all rfl) :
    wpAny (model prog w) A (subscriptTail value slice (.ref l) (.int k u)) Q E s :=
  item_anyK W.l W.i h0 (by simp only [List.length_cons, List.length_nil]; lia) (by lia) (fun t => by rw [wy_getD]; exact h t) hs
theorem Ways.keep {h h' : Heap} {l : Addr} {vs : List Value} (W : Ways h l vs) (k : ∀ b o, h.get? b = some o → h'.get? b = some o) : Ways h' l vs := ⟨lkeep W.l k, W.i⟩
noncomputable def nats (l : List Nat) : List Int := l.map fun (x : Nat) => (x : Int)
theorem t_boxes0 {k : Nat} {Q : Value → Shared → Prop} (X : Wd w s.heap) (hA : Ar A (k + 1)) (n : Int) (tc tn : Tok) (l : Addr)
    (h : ∀ D cap h' tk, (∀ c o, s.heap.get? c = some o → h'.get? c = some o) → s.heap.get? D = none → h'.get? D = some (PySem.W.listOf #[] cap) → Q (.ref D) { s with heap := h', toks := tk }) :
    wpAny (model Pr w) A (call (.ref 652) [.int 0 tc, .int n tn, .ref l]) Q E s := by
  refine callDef [(Str.ofString "count", .int 0 tc), (Str.ofString "number", .int n tn), (Str.ofString "ways", .ref l)] X hA fun h₁ tk₁ mean mg mb hA' F N K0 T => ?_
  refine conc hA' fun n u hA' => ?_
  walk_at "my steps"
  rename Fr _ _ _ _ => F'
  rename News _ _ _ _ => N'
  exact h _ _ _ _ F'.keep (N' _ (.head _)).2.2 (N' _ (.head _)).1
local macro_rules | `(tactic| walk_at "subscriptTail") => `(tactic| ((with_reducible show wpAny _ _ (subscriptTail _ _ (Value.ref _) (Value.int _ _)) _ _ _); (with_reducible rename Fr _ _ _ _ => F'); (with_reducible rename Ways _ _ _ => W'); (refine Ways.item (Ways.keep W' F'.keep) (by first | with_reducible assumption | omega) (by first | with_reducible assumption | omega) ?_); (intro _)))
local macro_rules | `(tactic| mul_fits) => `(tactic| exact mul_way)
noncomputable abbrev JBx (c n : Nat) (l : Addr) (tc : Tok) : Nat → (Str → Option Value) → List (Addr × Obj) → Prop := fun q m news => ∃ i r t t', i ≤ c ∧ q = c - i ∧ pick c (c - i) i r = pick c c 0 n ∧ m (Str.ofString "within") = some (.int (i : Nat) t) ∧ m (Str.ofString "number") = some (.int (r : Nat) t') ∧
    m (Str.ofString "count") = some (.int (c + 1 : Nat) tc) ∧ m (Str.ofString "ways") = some (.ref l) ∧ news = []
theorem down1 {c i : Nat} (h : i ≤ c) : (↑(c + 1) : Int) - 1 - ↑i = ((c - i : Nat) : Int) := by lia
theorem t_boxes1 {k : Nat} {Q : Value → Shared → Prop} (X : Wd w s.heap) (c : Nat) (hA : Ar A (k + (c + 1) + 1)) (n : Nat) (hc : c ≤ 3) (hn0 : n < wy (c + 1)) (tc tn : Tok) (l : Addr) (vs : List Value) (W : Ways s.heap l vs)
    (ih : ∀ (c' n' : Nat) (tc tn : Tok) (A : Around) (s : Shared) (E : Value → Shared → Prop) (Q : Value → Shared → Prop), c' ≤ c → n' < wy c' → Wd w s.heap → Ar A (k + c' + 1) → Ways s.heap l vs →
      (∀ D cap h' tk ys, (∀ c o, s.heap.get? c = some o → h'.get? c = some o) → s.heap.get? D = none → h'.get? D = some (PySem.W.listOf (List.toArray ys) cap) → IntsAre ys (nats (boxes c' n')) → Q (.ref D) { s with heap := h', toks := tk }) →
      wpAny (model Pr w) A (call (.ref 652) [.int (c' : Nat) tc, .int (n' : Nat) tn, .ref l]) Q E s)
    (h : ∀ D cap h' tk ys, (∀ c o, s.heap.get? c = some o → h'.get? c = some o) → s.heap.get? D = none → h'.get? D = some (PySem.W.listOf (List.toArray ys) cap) → IntsAre ys (nats (boxes (c + 1) n)) → Q (.ref D) { s with heap := h', toks := tk }) :
    wpAny (model Pr w) A (call (.ref 652) [.int (c + 1 : Nat) tc, .int n tn, .ref l]) Q E s := by
  refine callDef [(Str.ofString "count", .int (c + 1 : Nat) tc), (Str.ofString "number", .int n tn), (Str.ofString "ways", .ref l)] X hA fun h₁ tk₁ mean mg mb hA' F N K0 T => ?_
  refine conc hA' fun d u hA' => ?_
  walk_at "my steps"
  · exfalso; lia
  rename Fr _ _ _ _ => F'
  rename News _ _ _ _ => N'
  refine while_walks F' N' (JBx c n l tc) c ?_ ?_
  · exact (exi4 0 n _ _ ⟨Nat.zero_le _, rfl, rfl, rfl, rfl, rfl, rfl, rfl⟩)
  · intro q m₁ news₁ h₁ tk₁ hz5
    refine ex4 hz5 fun i r t t' hz28 => an8 hz28 fun hic he29 hp hw hn hcn hws he30 => ?_
    clear hz28
    try clear hz5
    subst he29
    subst he30
    intro F₁ N₁
    try dsimp only [envOf, envOfC] at F₁ N₁
    have e1 : (↑i : Int).toNat = i := Int.toNat_natCast _
    have a2 : (↑(c + 1) : Int) - 1 - ↑i = ((c - i : Nat) : Int) := down1 hic
    have e2 : ((↑(c + 1) : Int) - 1 - ↑i).toNat = c - i := by rw [a2]; rfl
    have ci : c - i ≤ 4 := Nat.le_trans (Nat.sub_le _ _) (Nat.le_succ_of_le hc)
    have f1 : (0 : Int) ≤ ↑i := Int.natCast_nonneg i
    have f2 : (↑i : Int) ≤ 4 := Int.ofNat_le.mpr (Nat.le_trans hic (Nat.le_succ_of_le hc))
    have f3 : (0 : Int) ≤ (↑(c + 1) : Int) - 1 - ↑i := by rw [a2]; exact Int.natCast_nonneg _
    have f4 : (↑(c + 1) : Int) - 1 - ↑i ≤ 4 := by rw [a2]; exact Int.ofNat_le.mpr ci
    have w1 := wy_pos (k := i) (Nat.le_trans hic (Nat.le_succ_of_le hc))
    have w2 := wy_pos (k := c - i) ci
    have p1 : (0 : Int) < ↑(wy (↑i : Int).toNat) ∧ (↑(wy (↑i : Int).toNat) : Int) ≤ 60129542144 := by
      rw [e1]; exact ⟨Int.ofNat_lt.mpr w1, Int.ofNat_le.mpr (wy_le i)⟩
    have p2 : (0 : Int) < ↑(wy ((↑(c + 1) : Int) - 1 - ↑i).toNat) ∧ (↑(wy ((↑(c + 1) : Int) - 1 - ↑i).toNat) : Int) ≤ 60129542144 := by
      rw [e2]; exact ⟨Int.ofNat_lt.mpr w2, Int.ofNat_le.mpr (wy_le (c - i))⟩
    have p3 : (0 : Int) < ↑(wy (↑i : Int).toNat) * ↑(wy ((↑(c + 1) : Int) - 1 - ↑i).toNat) ∧ (↑(wy (↑i : Int).toNat) : Int) * ↑(wy ((↑(c + 1) : Int) - 1 - ↑i).toNat) ≤ 60129542144 * 60129542144 :=
      ⟨Int.mul_pos p1.1 p2.1, Int.mul_le_mul p1.2 p2.2 (Int.le_of_lt p2.1) (by decide)⟩
    have e3 : (256 * (wy (↑i : Int).toNat : Int) * (wy ((↑(c + 1) : Int) - 1 - ↑i).toNat : Int)) = ((room c i : Nat) : Int) := by
      rw [e1, e2]; unfold room; push_cast; rfl
    have p4 := p1.1
    have p5 := p2.1
    have p6 : (↑(wy ((↑(c + 1) : Int) - 1 - ↑i).toNat) : Int) ≤ 1208925819614629174706176 := Int.le_trans p2.2 (by decide)
    have p7 := p3.1
    have p8 : (↑(wy (↑i : Int).toNat) : Int) * ↑(wy ((↑(c + 1) : Int) - 1 - ↑i).toNat) ≤ 1208925819614629174706176 := Int.le_trans p3.2 (by decide)
    clear p1 p2 p3
    walk_at "my steps"
    · rename Fr _ _ _ _ => Fz
      rename News _ _ _ _ => Nz
      rename _ ≤ (_ : Int) => hle
      have hle' : room c i ≤ r := by rw [e3] at hle; exact Int.ofNat_le.mp hle
      have hlt : i < c := by
        rcases Nat.lt_or_ge i c with q | q
        · exact q
        · have : i = c := by lia
          subst this
          have z := pick0 hc hn0
          rw [Nat.sub_self] at hp
          rw [← hp] at z
          rw [e3] at hle
          exact absurd (Int.ofNat_le.mp hle) (Nat.not_le.mpr z.2.1)
      refine (WhileEnd.go (n' := c - (i + 1)) (news := []) (Nat.sub_lt_sub_left hlt (Nat.lt_succ_self i)) Fz Nz (exi4 (i + 1) (r - room c i) _ _ ⟨hlt, rfl, ?_, rfl, congrArg (fun z => some (Value.int z _)) (by rw [e3]; exact (Int.ofNat_sub hle').symm), hcn, hws, rfl⟩))
      rw [← hp, show c - i = (c - (i + 1)) + 1 from (Nat.succ_sub_succ c i ▸ Nat.succ_sub (Nat.succ_le_of_lt hlt)), pick, if_pos hle']
    · rename Fr _ _ _ _ => Fz
      rename News _ _ _ _ => Nz
      rename ¬ _ => hle
      rename Ways _ _ _ => W
      have hlt : r < room c i := by rw [e3] at hle; exact Int.ofNat_lt.mp (Int.not_le.mp hle)
      have hpk : pick c c 0 n = (i, r) := by
        rw [← hp]
        cases hq : c - i with
        | zero => rfl
        | succ f => rw [pick, if_neg (Nat.not_le.mpr hlt)]
      have a1 : (↑r / ↑(wy ((↑(c + 1) : Int) - 1 - ↑i).toNat) % ↑(wy (↑i : Int).toNat) : Int) = ((r / wy (c - i) % wy i : Nat) : Int) := by rw [e1, e2]; push_cast; rfl
      rw [a1]
      refine ih i _ _ _ _ _ _ _ hic (Nat.mod_lt _ w1) (Wd.grow ⟨K0, (exi3 _ _ _ T)⟩ Fz.keep) (hA'.mono (Nat.add_le_add_left (Nat.succ_le_succ hic) k)) (W.keep Fz.keep) fun D cap h' tk ys kk fD gD iD => ?_
      have F₂ := frGrow Fz kk
      have N₂ := newsAdd Fz Nz kk gD fD
      clear Fz Nz
      walk_at "my steps"
      rename Fr _ _ _ _ => F₃
      rename News _ _ _ _ => N₃
      have hly : ys.length = 2 * i := by rw [iD.length, nats, List.length_map, boxes_len]
      refine add_lists (vs := [_, _]) (ws := ys) F₃ N₃ ⟨_, (N₃ _ (.head _)).1, rfl, _, rfl⟩ ⟨_, (N₃ _ (.tail _ (.head _))).1, rfl, _, rfl⟩ (fun h₄ F₄ N₄ => ?_) (by rw [hly, sizeLine_eq]; simp only [List.length_cons, List.length_nil]; lia)
      clear F₃ N₃
      walk_at "my steps"
      rename Fr _ _ _ _ => F₅
      rename News _ _ _ _ => N₅
      rename Ways _ _ _ => W
      have a3 : (↑r % ↑(wy ((↑(c + 1) : Int) - 1 - ↑i).toNat) : Int) = ((r % wy (c - i) : Nat) : Int) := by rw [e2]; push_cast; rfl
      rw [a3, a2]
      refine ih (c - i) _ _ _ _ _ _ _ (Nat.sub_le _ _) (Nat.mod_lt _ w2) (Wd.grow ⟨K0, (exi3 _ _ _ T)⟩ F₅.keep) (hA'.mono (Nat.add_le_add_left (Nat.succ_le_succ (Nat.sub_le _ _)) k)) (W.keep F₅.keep) fun D₆ cap₆ h₆ tk₆ ys₆ k₆ fD₆ gD₆ iD₆ => ?_
      have F₆ := frGrow F₅ k₆
      have N₆ := newsAdd F₅ N₅ k₆ gD₆ fD₆
      have hly₆ : ys₆.length = 2 * (c - i) := by rw [iD₆.length, nats, List.length_map, boxes_len]
      clear F₅ N₅
      refine add_lists (ws := ys₆) F₆ N₆ ⟨_, (N₆ _ (.tail _ (.head _))).1, rfl, _, rfl⟩ ⟨_, (N₆ _ (.head _)).1, rfl, _, rfl⟩ (fun h₇ F₇ N₇ => ?_) (by rw [hly₆, sizeLine_eq]; simp only [List.length_append, List.length_cons, List.length_nil, hly]; lia)
      refine h _ _ _ _ _ F₇.keep (N₇ _ (.head _)).2.2 (N₇ _ (.head _)).1 ?_
      rw [boxes_succ, hpk]
      simp only [nats, List.map_cons, List.map_append]
      have a4 : (1 + 2 * ↑i : Int) = ((1 + 2 * i : Nat) : Int) := by push_cast; rfl
      have a5 : (↑r / (↑(wy (↑i : Int).toNat) * ↑(wy ((↑(c + 1) : Int) - 1 - ↑i).toNat)) : Int) = ((r / (wy i * wy (c - i)) : Nat) : Int) := by rw [e1, e2]; push_cast; rfl
      rw [a4]
      refine .append (ns := [_, _] ++ _) (.append (ns := [_, _]) (.cons _ _ ?_) iD) iD₆
      rw [a5]
      exact .cons _ _ .nil
theorem t_boxes (c : Nat) : ∀ (n : Nat) (tc tn : Tok) {k : Nat} (A : Around) (s : Shared) (E : Value → Shared → Prop) (Q : Value → Shared → Prop) (l : Addr) (vs : List Value), c ≤ 4 → n < wy c → Wd w s.heap → Ar A (k + c + 1) → Ways s.heap l vs →
      (∀ D cap h' tk ys, (∀ c o, s.heap.get? c = some o → h'.get? c = some o) → s.heap.get? D = none → h'.get? D = some (PySem.W.listOf (List.toArray ys) cap) → IntsAre ys (nats (boxes c n)) → Q (.ref D) { s with heap := h', toks := tk }) →
      wpAny (model Pr w) A (call (.ref 652) [.int (c : Nat) tc, .int (n : Nat) tn, .ref l]) Q E s := by
  induction c using Nat.strongRecOn with
  | ind c ih =>
    intro n tc tn k A s E Q l vs hc hn X hA W h
    cases c with
    | zero => exact t_boxes0 (k := k) X hA _ _ _ _ fun D cap h' tk kk fD gD => h D cap h' tk [] kk fD gD .nil
    | succ c =>
      refine t_boxes1 (k := k) X c hA n (by lia) hn tc tn l vs W (fun c' n' tc tn A s E Q hc' hn' X hA W h => ih c' (by lia) n' tc tn (k := k) A s E Q l vs (by lia) hn' X hA W h) h
end

section
open PySem PySem.W PyProof.Rows PySem.Calls
variable {w : World} {A : Around} {s : Shared} {E : Value → Shared → Prop}
/-- the alphabet of base 64, as numbers -/
noncomputable def alf : List Int := KBw.bInts #[65, 66, 67, 68, 69, 70, 71, 72, 73, 74, 75, 76, 77, 78, 79, 80, 81, 82, 83, 84, 85, 86, 87, 88, 89, 90, 97, 98, 99, 100, 101, 102, 103, 104, 105, 106, 107, 108, 109, 110, 111, 112, 113, 114, 115, 116, 117, 118, 119, 120, 121, 122, 48, 49, 50, 51, 52, 53, 54, 55, 56, 57, 43, 47]
theorem alf_len : alf.length = 64 := by decide
noncomputable def putA (i : Nat) : Nat := (alf.getD i 0).toNat
/-- a writing of sextets, with its '=' -/
noncomputable def Wrote (b : Array UInt8) (sx : List Nat) : Prop := (∀ x ∈ sx, x < 64) ∧ ∃ k, b.toList.map (fun c => c.toNat) = sx.map putA ++ List.replicate k 61
theorem putA_ne {x : Nat} (h : x < 64) : putA x ≠ 61 := by
  have : ∀ x : Fin 64, putA x.val ≠ 61 := by decide +kernel
  exact this ⟨x, h⟩
theorem putA_at {x : Nat} (h : x < 64) : alf.idxOf (putA x : Int) = x ∧ (putA x : Int) ∈ alf := by
  have : ∀ x : Fin 64, alf.idxOf (putA x.val : Int) = x.val ∧ (putA x.val : Int) ∈ alf := by decide +kernel
  exact this ⟨x, h⟩
theorem t_places {k : Nat} {Q : Value → Shared → Prop} (X : Wd w s.heap) (hA : Ar A (k + 1)) (b : Array UInt8) (tb : Tok) (hz : b.size ≤ 1000) (sx : List Nat) (hW : Wrote b sx)
    (h : ∀ D cap h' tk ys, (∀ c o, s.heap.get? c = some o → h'.get? c = some o) → s.heap.get? D = none → h'.get? D = some (PySem.W.listOf (List.toArray ys) cap) → IntsAre ys (nats sx) → Q (.ref D) { s with heap := h', toks := tk }) :
    wpAny (model Pr w) A (call (.ref 674) [.bytes b tb]) Q E s := by
  refine callCells [(Str.ofString "writing", .bytes b tb)] X hA fun L' h₁ tk₁ cells mean mg mb d u hA' F N Y K0 T => ?_
  k_cells Y
  try simp only [List.cons_append, List.nil_append] at N
  walk_at "my steps"
  refine compET (by with_unfolding_all rfl) (by decide) (by rfl) (by decide) (by rfl) ?_
  walk_at "my steps"
  rename Fr _ _ _ _ => F₁
  rename News _ _ _ _ => N₁
  rename IntsAre _ _ => hi
  refine an2 hW fun hlt hz301 => ex1 hz301 fun q hq => ?_
  clear hz301
  try clear hW
  refine src_bytes rfl F₁ N₁ hz fun h₂ it S => (exi7 _ _ _ _ _ _ _ ⟨S, ?_⟩)
  refine restT_uni (fun i ys => IntsAre ys (nats (sx.take i))) trivial (by simpa [nats] using IntsAre.nil) ?_ ?_
  · intro i v ys I oI C oC D m₂ h₃ tk₃ E' hin hz58
    refine ex2 hz58 fun c uc hz299 => an2 hz299 fun hc he300 => ?_
    clear hz299
    try clear hz58
    subst he300
    intro hJ hC hx F₂ N₂
    walk_at "my steps"
    · rename News _ _ _ _ => N₃
      rename Fr _ _ _ _ => F₃
      rename _ ≠ (61 : Int) => hne
      have hat : (b.toList.map fun c => c.toNat)[i]? = some c.toNat := by rw [List.getElem?_map, Array.getElem?_toList, hc]; rfl
      rw [hq] at hat
      have hil : i < sx.length := by
        rcases Nat.lt_or_ge i sx.length with q' | q'
        · exact q'
        · rw [List.getElem?_append_right (by simpa using q'), List.getElem?_replicate] at hat
          split at hat
          · injection hat with hat; lia
          · cases hat
      rw [List.getElem?_append_left (by simpa using hil), List.getElem?_map, List.getElem?_eq_getElem hil] at hat
      simp only [Option.map_some, Option.some.injEq] at hat
      have h64 := hlt _ (List.getElem_mem hil)
      have z := putA_at h64
      rw [hat] at z
      refine index_list_ints (ns := alf) ⟨_, (N₃ _ (.tail _ (.tail _ (.tail _ (.head _))))).1, rfl, _, rfl⟩ hi (by decide +kernel) z.2 (EltEnd.go F₃ N₃ (fun _ hp => hp) ?_)
      rw [take_succ (List.getElem?_eq_getElem hil)]
      simp only [nats, List.map_append, List.map_cons, List.map_nil]
      rw [z.1]
      exact .append hJ (.cons _ _ .nil)
    · rename News _ _ _ _ => N₃
      rename Fr _ _ _ _ => F₃
      rename _ = (61 : Int) => he
      refine (EltEnd.go F₃ N₃ (fun _ hp => hp) ?_)
      have hat : (b.toList.map fun c => c.toNat)[i]? = some c.toNat := by rw [List.getElem?_map, Array.getElem?_toList, hc]; rfl
      rw [hq] at hat
      have hil : sx.length ≤ i := by
        rcases Nat.lt_or_ge i sx.length with q' | q'
        · rw [List.getElem?_append_left (by simpa using q'), List.getElem?_map, List.getElem?_eq_getElem q'] at hat
          simp only [Option.map_some, Option.some.injEq] at hat
          have := putA_ne (hlt _ (List.getElem_mem q'))
          lia
        · exact q'
      rw [List.take_of_length_le (by lia)] at hJ ⊢
      exact hJ
  · intro ys hJ D h₃ tk₃ F₂ N₂ o1
    have hb : b.size = sx.length + q := by
      have := congrArg List.length hq
      simpa using this
    rw [List.take_of_length_le (by lia)] at hJ
    exact h _ _ _ _ _ F₂.keep (N₂ _ (.head _)).2.2 (N₂ _ (.head _)).1 hJ
end

section
open PySem PySem.W PyProof.Rows PySem.Calls
variable {w : World} {A : Around} {s : Shared} {E : Value → Shared → Prop}
local macro_rules | `(tactic| walk_at "subscriptTail") => `(tactic| ((with_reducible show wpAny _ _ (subscriptTail _ _ (Value.ref _) (Value.int _ _)) _ _ _); (with_reducible rename Fr _ _ _ _ => F'); (with_reducible rename Ways _ _ _ => W'); (refine Ways.item (Ways.keep W' F'.keep) (by first | with_reducible assumption | omega) (by first | with_reducible assumption | omega) ?_); (intro _)))
/-- the octets told of a number -/
noncomputable def octB (n : Nat) : Array UInt8 := byteArr (nats (octs n))
theorem byts_in {l : List Nat} (h : ∀ x ∈ l, x < 256) : KBa.In (nats l) := fun n hn => by
  refine ex1 (List.mem_map.mp hn) fun x hz286 => an2 hz286 fun hx he287 => ?_
  clear hz286
  subst he287
  have := h x hx; lia
theorem shelf_lt {c r : Nat} (hc : c = 4) (hr : r + base c < most) : r < wy c := by
  subst hc; simp only [base, wy, most] at hr ⊢; lia
noncomputable abbrev JOc (n : Nat) (l : Addr) : Nat → (Str → Option Value) → List (Addr × Obj) → Prop := fun q m news => ∃ i r t t', i ≤ 4 ∧ q = 4 - i ∧ r + base i = n ∧ shelf (4 - i) i r = shelf 4 0 n ∧ m (Str.ofString "count") = some (.int (i : Nat) t) ∧ m (Str.ofString "number") = some (.int (r : Nat) t') ∧
    m (Str.ofString "ways") = some (.ref l) ∧ news = []
theorem t_octets {k : Nat} {Q : Value → Shared → Prop} (X : Wd w s.heap) (hA : Ar A (k + 7)) (n : Nat) (hn0 : n < most) (tn : Tok) (l : Addr) (vs : List Value) (W : Ways s.heap l vs)
    (h : ∀ s' tk, Keeps s s' → Q (.bytes (octB n) tk) s') :
    wpAny (model Pr w) A (call (.ref 659) [.int n tn, .ref l]) Q E s := by
  refine callDef (k := k + 6) [(Str.ofString "number", .int n tn), (Str.ofString "ways", .ref l)] X hA fun h₁ tk₁ mean mg mb hA' F N K0 T => ?_
  refine conc hA' fun d u hA' => ?_
  walk_at "my steps"
  rename Fr _ _ _ _ => F'
  rename News _ _ _ _ => N'
  refine while_walks F' N' (JOc n l) 4 ?_ ?_
  · exact (exi4 0 n _ _ ⟨Nat.zero_le _, rfl, rfl, rfl, rfl, rfl, rfl, rfl⟩)
  · intro q m₁ news₁ h₁ tk₁ hz56
    refine ex4 hz56 fun i r t t' hz283 => an8 hz283 fun hic he284 hb hp hw hn hws he285 => ?_
    clear hz283
    try clear hz56
    subst he284
    subst he285
    intro F₁ N₁
    try dsimp only [envOf, envOfC] at F₁ N₁
    have e1 : (↑i : Int).toNat = i := Int.toNat_natCast _
    have f1 : (0 : Int) ≤ ↑i := Int.natCast_nonneg i
    have f2 : (↑i : Int) ≤ 4 := Int.ofNat_le.mpr hic
    walk_at "my steps"
    · rename Fr _ _ _ _ => Fz
      rename News _ _ _ _ => Nz
      rename _ ≤ (_ : Int) => hle
      have hle' : wy i ≤ r := by rw [e1] at hle; exact Int.ofNat_le.mp hle
      have hlt : i < 4 := by
        rcases Nat.lt_or_ge i 4 with q | q
        · exact q
        · have := shelf_lt (c := i) (r := r) (by lia) (by lia); lia
      refine (WhileEnd.go (n' := 4 - (i + 1)) (news := []) (Nat.sub_lt_sub_left hlt (Nat.lt_succ_self i)) Fz Nz (exi4 (i + 1) (r - wy i) _ _ ⟨hlt, rfl, ?_, ?_, rfl, congrArg (fun z => some (Value.int z _)) (by rw [e1]; exact (Int.ofNat_sub hle').symm), hws, rfl⟩))
      · show r - wy i + (base i + wy i) = n
        rw [Nat.add_comm (base i), ← Nat.add_assoc, Nat.sub_add_cancel hle']; exact hb
      · rw [← hp, show 4 - i = (4 - (i + 1)) + 1 from (Nat.succ_sub_succ 4 i ▸ Nat.succ_sub (Nat.succ_le_of_lt hlt)), shelf, if_pos hle']
    · rename Fr _ _ _ _ => Fz
      rename News _ _ _ _ => Nz
      rename ¬ _ => hle
      rename Ways _ _ _ => W
      have hlt : r < wy i := by rw [e1] at hle; exact Int.ofNat_lt.mp (Int.not_le.mp hle)
      have hpk : shelf 4 0 n = (i, r) := by
        rw [← hp]
        cases hq : 4 - i with
        | zero => rfl
        | succ f => rw [shelf, if_neg (Nat.not_le.mpr hlt)]
      refine t_boxes (k := k + (4 - i)) i _ _ _ _ _ _ _ _ _ hic hlt (Wd.grow ⟨K0, (exi3 _ _ _ T)⟩ Fz.keep) (hA'.mono (by rw [Nat.add_assoc k, Nat.sub_add_cancel hic]; exact Nat.le_succ _)) (W.keep Fz.keep) fun D cap h' tk ys kk fD gD iD => ?_
      have F₂ := frGrow Fz kk
      have N₂ := newsAdd Fz Nz kk gD fD
      clear Fz Nz
      have hly : ys.length = 2 * i := by rw [iD.length, nats, List.length_map, boxes_len]
      refine add_lists (vs := [_]) (ws := ys) F₂ N₂ ⟨_, (N₂ _ (.tail _ (.head _))).1, rfl, _, rfl⟩ ⟨_, (N₂ _ (.head _)).1, rfl, _, rfl⟩ (fun h₄ F₄ N₄ => ?_) (by rw [hly, sizeLine_eq]; simp only [List.length_cons, List.length_nil]; lia)
      clear F₂ N₂
      walk_at "my steps"
      have hi2 : ∀ t, IntsAre ([.int (2 * (i : Int)) t] ++ ys) ([2 * (i : Int)] ++ nats (boxes i r)) := fun t => .append (.cons _ _ .nil) iD
      have e9 : [2 * (i : Int)] ++ nats (boxes i r) = nats (octs n) := by
        unfold octs; rw [hpk]; simp only [nats, List.map_cons, List.cons_append, List.nil_append]; push_cast; rfl
      rw [e9] at hi2
      refine call_bytes_ints ⟨_, (N₄ _ (.head _)).1, rfl, _, rfl⟩ (hi2 _) (byts_in (octs_lt hn0)) (by rw [(hi2 _).length, nats, List.length_map, sizeLine_eq]; have := octs_len hn0; lia) rfl fun h₅ t₅ k₅ kk₅ => ?_
      exact h _ _ (keepsOf (frGrow F₄ kk₅) _)
end

section
open PySem PySem.W PyProof.Rows PySem.Calls
variable {w : World} {A : Around} {s : Shared} {E : Value → Shared → Prop}
noncomputable abbrev sScope : Scope := { kind := .function, names := [(Str.ofString "expected", .local), (Str.ofString "actual", .local), (Str.ofString "i", .local), (Str.ofString "j", .local), (Str.ofString "missing", .local), (Str.ofString "unexpected", .local),
  (Str.ofString "e", .local), (Str.ofString "a", .local), (Str.ofString "IndexError", .globalImplicit)], isGenerator := false, isCoroutine := false }
noncomputable abbrev sEnv (L : Addr) : Env := envOf (Str.ofString "sorted_list_difference") sScope L 88 (.ref 87)
theorem item_in {value slice : PySem.Expr} {l : Addr} {its : List Value} {k : Int} {u : Tok} {v : Value} {Q : Value → Shared → Prop} (hl : s.heap.IsList l its.toArray) (h0 : 0 ≤ k) (hhi : k < 2 ^ 63) (hx : its[k.toNat]? = some v) (h : Q v s)
    (hs : subscripted slice false (.ref l) (.int k u) = operate [.ref l, .int k u] (getItem (.ref l) (.int k u)) := by with_unfolding_all rfl) :
    wpAny (model Pr w) A (subscriptTail value slice (.ref l) (.int k u)) Q E s :=
  tail_any hl.typeIs slot_list_getitem.lookup (wpAny_getItem_list hl h0 hhi (by simpa using hx) h) hs
theorem item_past {value slice : PySem.Expr} {l : Addr} {its : List Value} {k : Int} {u : Tok} {c : Value} {Q : Value → Shared → Prop} (hA : Hd s.heap A.handled c) (hl : s.heap.IsList l its.toArray) (hout : (its.length : Int) ≤ k) (hhi : k < 2 ^ 63)
    (hE : ∀ h' tk e, NewX s.heap h' e c → E (.ref e) { s with heap := h', toks := tk })
    (hs : subscripted slice false (.ref l) (.int k u) = operate [.ref l, .int k u] (getItem (.ref l) (.int k u)) := by with_unfolding_all rfl) :
    wpAny (model Pr w) A (subscriptTail value slice (.ref l) (.int k u)) Q E s :=
  tail_any hl.typeIs slot_list_getitem.lookup (item_out hA hl (by simpa using hout) hhi hE) hs
/-- what the elements tell: a number each, by the text's own comparisons -/
structure Told (g : Heap) (El : Value → Nat → Prop) : Prop where
  eq : ∀ {w : World} {A : Around} {s : Shared} {E : Value → Shared → Prop} {Q : Value → Shared → Prop} {x y : Value} {a b : Nat}, (∀ c o, g.get? c = some o → s.heap.get? c = some o) → A.units + 64 < cLine → El x a → El y b →
    Q (.bool (a == b)) s → wpAny (model Pr w) A (compareOp .Eq x y) Q E s
  lt : ∀ {w : World} {A : Around} {s : Shared} {E : Value → Shared → Prop} {Q : Value → Shared → Prop} {x y : Value} {a b : Nat}, (∀ c o, g.get? c = some o → s.heap.get? c = some o) → A.units + 64 < cLine → El x a → El y b →
    Q (.bool (decide (a < b))) s → wpAny (model Pr w) A (compareOp .Lt x y) Q E s
  gt : ∀ {w : World} {A : Around} {s : Shared} {E : Value → Shared → Prop} {Q : Value → Shared → Prop} {x y : Value} {a b : Nat}, (∀ c o, g.get? c = some o → s.heap.get? c = some o) → A.units + 64 < cLine → El x a → El y b →
    Q (.bool (decide (b < a))) s → wpAny (model Pr w) A (compareOp .Gt x y) Q E s
noncomputable def Els (El : Value → Nat → Prop) : List Value → List Nat → Prop
  | [], [] => True
  | v :: vs, k :: ks => El v k ∧ Els El vs ks
  | _, _ => False
theorem Els.len {El : Value → Nat → Prop} : ∀ {vs : List Value} {ks : List Nat}, Els El vs ks → vs.length = ks.length
  | [], [], _ => rfl
  | _ :: _, _ :: _, h => congrArg (· + 1) (Els.len h.2)
  | [], _ :: _, h => h.elim
  | _ :: _, [], h => h.elim
theorem Els.at {El : Value → Nat → Prop} : ∀ {vs : List Value} {ks : List Nat} {i : Nat}, Els El vs ks → i < ks.length → ∃ v k, vs[i]? = some v ∧ ks[i]? = some k ∧ El v k
  | v :: _, k :: _, 0, h, _ => (exi2 v k ⟨rfl, rfl, h.1⟩)
  | _ :: _, _ :: _, i + 1, h, hi => by
    refine ex2 (Els.at (i := i) h.2 (by simpa using hi)) fun v k hz329 => an3 hz329 fun a b c => ?_
    clear hz329
    exact (exi2 v k ⟨by simpa using a, by simpa using b, c⟩)
  | [], [], _, _, hi => by simp at hi
  | [], _ :: _, _, h, _ => h.elim
  | _ :: _, [], _, h, _ => h.elim
theorem Els.append {El : Value → Nat → Prop} : ∀ {vs ws : List Value} {ks ls : List Nat}, Els El vs ks → Els El ws ls → Els El (vs ++ ws) (ks ++ ls)
  | [], _, [], _, _, h => h
  | _ :: _, _, _ :: _, _, h, h' => ⟨h.1, Els.append h.2 h'⟩
  | [], _, _ :: _, _, h, _ => h.elim
  | _ :: _, _, [], _, h, _ => h.elim
theorem Els.drop {El : Value → Nat → Prop} : ∀ {vs : List Value} {ks : List Nat} (i : Nat), Els El vs ks → Els El (vs.drop i) (ks.drop i)
  | _, _, 0, h => h
  | _ :: _, _ :: _, i + 1, h => Els.drop i h.2
  | [], [], _ + 1, _ => trivial
  | [], _ :: _, _ + 1, h => h.elim
  | _ :: _, [], _ + 1, h => h.elim
theorem drop_run {ks : List Nat} {i i' k₀ : Nat} (hi : i ≤ i') (hin : i' ≤ ks.length) (hr : ∀ j, i ≤ j → j < i' → ks[j]? = some k₀) (he : i' = ks.length ∨ ∃ k, ks[i']? = some k ∧ k ≠ k₀) : (ks.drop i).dropWhile (· == k₀) = ks.drop i' := by
  obtain ⟨d, rfl⟩ : ∃ d, i' = i + d := ⟨i' - i, by lia⟩
  clear hi
  induction d generalizing i with
  | zero =>
    rcases he with he | ⟨k, hk, hne⟩
    · rw [Nat.add_zero, List.drop_eq_nil_of_le (by lia)]; rfl
    · have hlt : i < ks.length := by
        rcases Nat.lt_or_ge i ks.length with q | q
        · exact q
        · rw [Nat.add_zero, List.getElem?_eq_none q] at hk; cases hk
      rw [Nat.add_zero, List.drop_eq_getElem_cons hlt, List.dropWhile_cons, if_neg]
      rw [Nat.add_zero, List.getElem?_eq_getElem hlt] at hk
      simp only [Option.some.injEq] at hk
      rw [hk]; simpa using hne
  | succ d ih =>
    have h0 := hr i (Nat.le_refl _) (by lia)
    have hlt : i < ks.length := by lia
    rw [List.getElem?_eq_getElem hlt, Option.some.injEq] at h0
    rw [List.drop_eq_getElem_cons hlt, List.dropWhile_cons, if_pos (by rw [h0]; simp), show i + (d + 1) = (i + 1) + d by lia]
    exact ih (by lia) (fun j h1 h2 => hr j (by lia) (by lia)) (by rw [show i + 1 + d = i + (d + 1) by lia]; exact he)
noncomputable abbrev JsE (i k₀ : Nat) (ks : List Nat) (m : Str → Option Value) (news : List (Addr × Obj)) : Nat → (Str → Option Value) → List (Addr × Obj) → Prop := fun q m₁ news₁ => ∃ i' t', i ≤ i' ∧ i' ≤ ks.length ∧ q = ks.length - i' ∧ (∀ y, y ≠ Str.ofString "i" → m₁ y = m y) ∧ m₁ (Str.ofString "i") = some (.int (i' : Nat) t') ∧ news₁ = news ∧ ∀ j, i ≤ j → j < i' → ks[j]? = some k₀
theorem skip_E {g : Heap} {L : Addr} {m : Str → Option Value} {news : List (Addr × Obj)} {El : Value → Nat → Prop} {hd : Option Value} {d u : Nat} {fr : Option (List Env)} {l : Addr} {its : List Value} {ks : List Nat} {v : Value} {k₀ i : Nat} {ti : Tok} {c : Value} {Q : Flow → Shared → Prop} {p1 p2 p3 p4 p5 p6 p7 p8 p9 : Pos}
    (K0 : (Kf w.params).In g) (F : Fr g L s.heap m) (N : News g L s.heap news) (hx : m (Str.ofString "expected") = some (.ref l)) (hi : m (Str.ofString "i") = some (.int (i : Nat) ti)) (hv : m (Str.ofString "e") = some v)
    (hl : g.IsList l its.toArray) (hE : Els El its ks) (hk : El v k₀) (TE : Told g El) (hin : i ≤ ks.length) (hz : ks.length ≤ 1000) (hu : u + 64 < cLine) (hA : ∀ h, News g L h news → Hd h hd c) (hP : PassesOwn (model Pr w) ⟨hd, d, fr, none, u⟩ (sEnv L) E)
    (next : ∀ i' h' tk t' m', i ≤ i' → i' < ks.length → (ks.drop i).dropWhile (· == k₀) = ks.drop i' → (∀ y, y ≠ Str.ofString "i" → m' y = m y) → m' (Str.ofString "i") = some (.int (i' : Nat) t') → Fr g L h' m' → News g L h' news → Q .next { s with heap := h', toks := tk })
    (out : ∀ h' h'' tk t' m' e, (ks.drop i).dropWhile (· == k₀) = [] → (∀ y, y ≠ Str.ofString "i" → m' y = m y) → m' (Str.ofString "i") = some (.int (ks.length : Nat) t') → Fr g L h' m' → News g L h' news → NewX h' h'' e c → E (.ref e) { s with heap := h'', toks := tk }) :
    wpAny (model Pr w) ⟨hd, d, fr, none, u⟩ (exec (.While (.Compare (.Subscript (.Name (Str.ofString "expected") p1) (.Name (Str.ofString "i") p2) p3) [.Eq] [.Name (Str.ofString "e") p4] p5) [.AugAssign (.Name (Str.ofString "i") p6) .Add (.Constant (.int 1) 0 p7) p8] [] p9) (sEnv L)) Q E s := by
  have hlen := hE.len
  dsimp only [sEnv, sScope] at hP ⊢
  refine while_walksE F N (JsE i k₀ ks m news) (ks.length - i)
    (exi2 i ti ⟨Nat.le_refl _, hin, rfl, fun _ _ => rfl, hi, rfl, fun j a b => absurd b (by lia)⟩) ?_
  intro q m₁ news₁ h₁ tk₁ hz60
  refine ex2 hz60 fun i' t' hz326 => an7 hz326 fun hi1 hi2 he327 hm hmi he328 hr => ?_
  clear hz326
  try clear hz60
  subst he327
  subst he328
  intro F₁ N₁
  have hx₁ := (hm (Str.ofString "expected") (by decide)).trans hx
  have hv₁ := (hm (Str.ofString "e") (by decide)).trans hv
  walk_at "my steps"
  have hl₁ := lkeep hl F₁.keep
  rcases Nat.lt_or_ge i' ks.length with hlt | hge
  · refine ex2 (hE.at hlt) fun x k hz325 => an3 hz325 fun e1 e2 e3 => ?_
    clear hz325
    refine item_in hl₁ (by lia) (by lia) (v := x) (by simpa using e1) ?_
    walk_at "my steps"
    refine TE.eq F₁.keep hu e3 hk ?_
    walk_at "my steps"
    · rename _ = true => hq
      rename Fr _ _ _ _ => Fz
      rename News _ _ _ _ => Nz
      have hkk : k = k₀ := by simpa using hq
      subst hkk
      refine (WhileEnd.go (n' := ks.length - (i' + 1)) (by lia) Fz Nz (exi2 (i' + 1) _ ⟨by lia, hlt, rfl, fun y hy => ?_, by simp; rfl, rfl, fun j a b => ?_⟩))
      · exact (if_neg hy).trans (hm y hy)
      · rcases Nat.lt_or_ge j i' with q | q
        · exact hr j a q
        · rw [show j = i' by lia]; exact e2
    · rename _ = false => hq
      have hkk : k ≠ k₀ := by simpa using hq
      exact next i' h₁ _ t' m₁ hi1 hlt (drop_run hi1 hi2 hr (.inr ⟨k, e2, hkk⟩)) hm hmi F₁ N₁
  · obtain rfl : i' = ks.length := by lia
    refine item_past (hA _ N₁) hl₁ (by lia) (by lia) fun h' tk e X => hP _ _ ?_
    exact out h₁ h' _ t' m₁ e ((drop_run hi1 hi2 hr (.inl rfl)).trans (by simp)) hm hmi F₁ N₁ X
noncomputable abbrev JsA (i k₀ : Nat) (ks : List Nat) (m : Str → Option Value) (news : List (Addr × Obj)) : Nat → (Str → Option Value) → List (Addr × Obj) → Prop := fun q m₁ news₁ => ∃ i' t', i ≤ i' ∧ i' ≤ ks.length ∧ q = ks.length - i' ∧ (∀ y, y ≠ Str.ofString "j" → m₁ y = m y) ∧ m₁ (Str.ofString "j") = some (.int (i' : Nat) t') ∧ news₁ = news ∧ ∀ j, i ≤ j → j < i' → ks[j]? = some k₀
theorem skip_A {g : Heap} {L : Addr} {m : Str → Option Value} {news : List (Addr × Obj)} {El : Value → Nat → Prop} {hd : Option Value} {d u : Nat} {fr : Option (List Env)} {l : Addr} {its : List Value} {ks : List Nat} {v : Value} {k₀ i : Nat} {ti : Tok} {c : Value} {Q : Flow → Shared → Prop} {p1 p2 p3 p4 p5 p6 p7 p8 p9 : Pos}
    (K0 : (Kf w.params).In g) (F : Fr g L s.heap m) (N : News g L s.heap news) (hx : m (Str.ofString "actual") = some (.ref l)) (hi : m (Str.ofString "j") = some (.int (i : Nat) ti)) (hv : m (Str.ofString "a") = some v)
    (hl : g.IsList l its.toArray) (hE : Els El its ks) (hk : El v k₀) (TE : Told g El) (hin : i ≤ ks.length) (hz : ks.length ≤ 1000) (hu : u + 64 < cLine) (hA : ∀ h, News g L h news → Hd h hd c) (hP : PassesOwn (model Pr w) ⟨hd, d, fr, none, u⟩ (sEnv L) E)
    (next : ∀ i' h' tk t' m', i ≤ i' → i' < ks.length → (ks.drop i).dropWhile (· == k₀) = ks.drop i' → (∀ y, y ≠ Str.ofString "j" → m' y = m y) → m' (Str.ofString "j") = some (.int (i' : Nat) t') → Fr g L h' m' → News g L h' news → Q .next { s with heap := h', toks := tk })
    (out : ∀ h' h'' tk t' m' e, (ks.drop i).dropWhile (· == k₀) = [] → (∀ y, y ≠ Str.ofString "j" → m' y = m y) → m' (Str.ofString "j") = some (.int (ks.length : Nat) t') → Fr g L h' m' → News g L h' news → NewX h' h'' e c → E (.ref e) { s with heap := h'', toks := tk }) :
    wpAny (model Pr w) ⟨hd, d, fr, none, u⟩ (exec (.While (.Compare (.Subscript (.Name (Str.ofString "actual") p1) (.Name (Str.ofString "j") p2) p3) [.Eq] [.Name (Str.ofString "a") p4] p5) [.AugAssign (.Name (Str.ofString "j") p6) .Add (.Constant (.int 1) 0 p7) p8] [] p9) (sEnv L)) Q E s := by
  have hlen := hE.len
  dsimp only [sEnv, sScope] at hP ⊢
  refine while_walksE F N (JsA i k₀ ks m news) (ks.length - i)
    (exi2 i ti ⟨Nat.le_refl _, hin, rfl, fun _ _ => rfl, hi, rfl, fun j a b => absurd b (by lia)⟩) ?_
  intro q m₁ news₁ h₁ tk₁ hz61
  refine ex2 hz61 fun i' t' hz322 => an7 hz322 fun hi1 hi2 he323 hm hmi he324 hr => ?_
  clear hz322
  try clear hz61
  subst he323
  subst he324
  intro F₁ N₁
  have hx₁ := (hm (Str.ofString "actual") (by decide)).trans hx
  have hv₁ := (hm (Str.ofString "a") (by decide)).trans hv
  walk_at "my steps"
  have hl₁ := lkeep hl F₁.keep
  rcases Nat.lt_or_ge i' ks.length with hlt | hge
  · refine ex2 (hE.at hlt) fun x k hz321 => an3 hz321 fun e1 e2 e3 => ?_
    clear hz321
    refine item_in hl₁ (by lia) (by lia) (v := x) (by simpa using e1) ?_
    walk_at "my steps"
    refine TE.eq F₁.keep hu e3 hk ?_
    walk_at "my steps"
    · rename _ = true => hq
      rename Fr _ _ _ _ => Fz
      rename News _ _ _ _ => Nz
      have hkk : k = k₀ := by simpa using hq
      subst hkk
      refine (WhileEnd.go (n' := ks.length - (i' + 1)) (by lia) Fz Nz (exi2 (i' + 1) _ ⟨by lia, hlt, rfl, fun y hy => ?_, by simp; rfl, rfl, fun j a b => ?_⟩))
      · exact (if_neg hy).trans (hm y hy)
      · rcases Nat.lt_or_ge j i' with q | q
        · exact hr j a q
        · rw [show j = i' by lia]; exact e2
    · rename _ = false => hq
      have hkk : k ≠ k₀ := by simpa using hq
      exact next i' h₁ _ t' m₁ hi1 hlt (drop_run hi1 hi2 hr (.inr ⟨k, e2, hkk⟩)) hm hmi F₁ N₁
  · obtain rfl : i' = ks.length := by lia
    refine item_past (hA _ N₁) hl₁ (by lia) (by lia) fun h' tk e X => hP _ _ ?_
    exact out h₁ h' _ t' m₁ e ((drop_run hi1 hi2 hr (.inl rfl)).trans (by simp)) hm hmi F₁ N₁ X
end

section
open PySem PySem.W PyProof.Rows PySem.Calls
variable {w : World} {A : Around} {s : Shared} {E : Value → Shared → Prop}
theorem pick_drop (l : List Value) (i : Nat) : slicePick l.toArray (some (i : Int)) none none = (l.drop i).toArray := by
  have e : sliceBounds (some (i : Int)) none none l.toArray.size = (((min i l.toArray.size : Nat) : Int), ((l.toArray.size : Nat) : Int), 1) := by
    simp only [sliceBounds, Option.getD_none, show (1 : Int) > 0 by decide, if_true, if_neg (show ¬ ((i : Int) < 0) by omega)]
    congr 1
    omega
  rw [kmk_pick_nat _ e, List.take_of_length_le (by simp), List.size_toArray, kmk_drop_min]
/-- an exception that reached the frame: just made, or already told of it -/
noncomputable def Flown (g : Heap) (L LL : Addr) (oL : Obj) (P : (Str → Option Value) → List (Addr × Obj) → Value → Prop) (s : Shared) (e : Value) (s' : Shared) : Prop :=
  ∃ a, e = .ref a ∧ ((∃ h h'' tk m news c sl, s' = { s with heap := h'', toks := tk } ∧ NewX h h'' a c ∧ Fr g L h m ∧ News g L h ((LL, { oL with slots := sl }) :: news) ∧ (∀ p ∈ news, p.1 ≠ LL) ∧ P m news c) ∨
    ∃ h'' tk m news c sl oe T oT, s' = { s with heap := h'', toks := tk } ∧ Fr g L h'' m ∧ News g L h'' ((a, oe) :: (T, oT) :: (LL, { oL with slots := sl }) :: news) ∧ ExOk oe T c ∧ TbOk oT (rawInt L) ∧ T ≠ a ∧ (∀ p ∈ (LL, { oL with slots := sl }) :: news, p.1 ≠ T) ∧ (∀ p ∈ news, p.1 ≠ LL) ∧ P m news c)
section
variable {M : Model} {env envL : Env} {g : Heap} {L LL : Addr} {oL : Obj} {P : (Str → Option Value) → List (Addr × Obj) → Value → Prop} {s₀ s' : Shared} {e : Value} {A A' : Around}
theorem Flown.note (hfr : A.frames = some [env, envL]) (hf : env.frame = some L) (hfL : envL.frame = some LL) (hk : env.scope.kind ≠ .module) (hkL : envL.scope.kind ≠ .module) (hnd : ∀ vs, oL.data ≠ .fields vs)
    (X : Flown g L LL oL P s₀ e s') {Q : Unit → Shared → Prop}
    (k : ∀ a h'' tk m news c sl oe T oT, e = .ref a → Fr g L h'' m → News g L h'' ((a, oe) :: (T, oT) :: (LL, { oL with slots := sl }) :: news) → ExOk oe T c → TbOk oT (rawInt L) → T ≠ a → (∀ p ∈ (LL, { oL with slots := sl }) :: news, p.1 ≠ T) → (∀ p ∈ news, p.1 ≠ LL) → P m news c →
      Q () { s₀ with heap := h'', toks := tk }) :
    wpAny M A (noteFrame e env) Q E s' := by
  obtain ⟨a, rfl, ⟨h, h'', tk, m, news, c, sl, rfl, X, F, N, off, hP⟩ | ⟨h'', tk, m, news, c, sl, oe, T, oT, rfl, F, N, X, Y, hTe, hT, off, hP⟩⟩ := X
  · exact note_new (s := { s₀ with heap := h'', toks := tk }) hfr hf hfL hk hkL F N hnd off X fun h' T sl' oe oT F' N' X' Y' hTe hT => k a h' tk m news c sl' oe T oT rfl F' N' X' Y' hTe hT off hP
  · exact note_again hf (N (a, oe) (.head _)).1 X (N (T, oT) (.tail _ (.head _))).1 Y (k a h'' tk m news c sl oe T oT rfl F N X Y hTe hT off hP)
theorem Flown.passesAt (hfr : A'.frames = some [env, envL]) (hf : env.frame = some L) (hfL : envL.frame = some LL) (hk : env.scope.kind ≠ .module) (hkL : envL.scope.kind ≠ .module) (hnd : ∀ vs, oL.data ≠ .fields vs) :
    PassesOwnAt M A' A env (Flown g L LL oL P s₀) := fun e s' X => by
  refine X.note hfr hf hfL hk hkL hnd fun a h'' tk m news c sl oe T oT ea F N hX Y hTe hT off hP => ?_
  subst ea
  have hX' := hX
  refine ex1 hX' fun vs hz331 => an4 hz331 fun _ hd h1 _ => ?_
  clear hz331
  try clear hX'
  unfold cameBackBy
  refine wpAny_bind (wpAny_field (N (a, oe) (.head _)).1 hd h1 ?_)
  rw [if_neg (by simp)]
  rw [hf]
  refine flight_to (s := { s₀ with heap := h'', toks := tk }) (some L) F N hX Y hTe hT fun h₃ oT' F' N' Y' => ?_
  exact ⟨a, rfl, .inr (exi9 h₃ tk m news c sl oe T oT' ⟨rfl, F', N', hX, Y', hTe, hT, off, hP⟩)⟩
theorem Flown.passes (hfr : A.frames = some [env, envL]) (hf : env.frame = some L) (hfL : envL.frame = some LL) (hk : env.scope.kind ≠ .module) (hkL : envL.scope.kind ≠ .module) (hnd : ∀ vs, oL.data ≠ .fields vs) :
    PassesOwn M A env (Flown g L LL oL P s₀) := Flown.passesAt hfr hf hfL hk hkL hnd
/-- told of the frame, and no longer in flight -/
theorem Flown.lands (hfr : A.frames = some [env, envL]) (hf : env.frame = some L) (hfL : envL.frame = some LL) (hk : env.scope.kind ≠ .module) (hkL : envL.scope.kind ≠ .module) (hnd : ∀ vs, oL.data ≠ .fields vs)
    (X : Flown g L LL oL P s₀ e s') {Q : Unit → Shared → Prop}
    (k : ∀ a h'' tk m news c sl oe T oT, e = .ref a → Fr g L h'' m → News g L h'' ((a, oe) :: (T, oT) :: (LL, { oL with slots := sl }) :: news) → ExOk oe T c → TbOk oT .none → T ≠ a → (∀ p ∈ (LL, { oL with slots := sl }) :: news, p.1 ≠ T) → (∀ p ∈ news, p.1 ≠ LL) → P m news c →
      Q () { s₀ with heap := h'', toks := tk }) :
    wpAny M A (noteFrame e env) (fun _ s₂ => wpAny M A (setFlight e none) Q E s₂) E s' := by
  refine X.note hfr hf hfL hk hkL hnd fun a h'' tk m news c sl oe T oT ea F N hX Y hTe hT off hP => ?_
  subst ea
  exact flight_to (s := { s₀ with heap := h'', toks := tk }) none F N hX Y hTe hT fun h₃ oT' F' N' Y' => k a h₃ tk m news c sl oe T oT' rfl F' N' hX Y' hTe hT off hP
end
theorem try_by {env : Env} {EC : Value → Shared → Prop} {body orelse : List Stmt} {h₀ : ExceptHandler} {hs : List ExceptHandler} {pos : Pos} {Q : Flow → Shared → Prop}
    (hC : ∀ e s', EC e s' → wpAny (model Pr w) A (noteFrame e env) (fun _ s₂ => wpAny (model Pr w) A (setFlight e none) (fun _ s₃ => wpAny (model Pr w) A (handleBy e env (h₀ :: hs)) Q E s₃) E s₂) E s')
    (hb : wpAny (model Pr w) A (execs body env) (fun f s₁ => match f with | .next => wpAny (model Pr w) A (execs orelse env) Q E s₁ | f => Q f s₁) EC s) :
    wpAny (model Pr w) A (exec (.Try body (h₀ :: hs) orelse [] pos) env) Q E s := wpAny_Try_except (wpAny_mono hb (fun _ _ q => q) hC)
theorem finally_by {env : Env} {EF : Value → Shared → Prop} {body : List Stmt} {f₀ : Stmt} {fs : List Stmt} {pos : Pos} {Q : Flow → Shared → Prop}
    (hF : ∀ e s', EF e s' → wpAny (model Pr w) A (noteFrame e env) (fun _ s₂ => e ≠ byPass ∧ wpAny (model Pr w) A (noteFrame e env) (fun _ s₀ => wpAny (model Pr w) A (setFlight e none) (fun _ s₁ =>
      wpAny (model Pr w) (A.mark (some e)) (execs (f₀ :: fs) env) (fun g s₂ => match g with | .next => wpAny (model Pr w) A (passOn "try.finally" e env) Q E s₂ | _ => False) (notedBy (model Pr w) (A.mark (some e)) env (cameBackBy (model Pr w) A env E)) s₁) (fun _ _ => False) s₀) (fun _ _ => False) s₂) (fun _ _ => False) s')
    (hb : wpAny (model Pr w) A (execs body env) (fun f s₁ => match f with
      | .next => wpAny (model Pr w) A (execs (f₀ :: fs) env) (fun g s' => match g with | .next => Q .next s' | g => Q g s') (notedBy (model Pr w) A env (cameBackBy (model Pr w) A env E)) s₁
      | _ => False) EF s) :
    wpAny (model Pr w) A (exec (.Try body [] [] (f₀ :: fs) pos) env) Q E s := by
  refine wpAny_Try_finally (wpAny_mono hb (fun f s₁ h₁ => ?_) fun e s₁ h₁ => ?_)
  · cases f with
    | next => exact wpAny_execs_nil h₁
    | _ => exact h₁.elim
  · refine wpAny_mono (hF e s₁ h₁) (fun _ s₂ h₂ => ⟨h₂.1, ?_⟩) fun _ _ q => q.elim
    refine wpAny_mono h₂.2 (fun _ s₃ h₃ => wpAny_mono h₃ (fun _ s₄ h₄ => wpAny_mono h₄ (fun g s₅ h₅ => ?_) fun _ _ q => q) fun _ _ q => q.elim) fun _ _ q => q.elim
    cases g with
    | next => exact h₅
    | _ => exact h₅.elim
/-- the frame's own clause takes it -/
theorem clause_index {name : Str} {scope : Scope} {L ad : Addr} {cd : Value} {g : Heap} {m : Str → Option Value} {a T : Addr} {oe oT : Obj} {c : Value} {news : List (Addr × Obj)} {mean : ExcName → Option Value} {mg mb : Str → Option Value} {b₀ : Stmt} {suite : List Stmt} {np pos : Pos} {rest : List ExceptHandler} {Q : Flow → Shared → Prop}
    (F : Fr g L s.heap m) (N : News g L s.heap ((a, oe) :: (T, oT) :: news)) (X : ExOk oe T c) (Y : TbOk oT .none) (hTe : T ≠ a) (off : ∀ p ∈ news, p.1 ≠ T) (TP : Top vw (looseW vw looseL) mean mg mb g)
    (hx : (scope.names.lookup (Str.ofString "IndexError") == some NameKind.globalImplicit) = true) (hk : scope.kind = .function)
    (k : ∀ h' oT', Fr g L h' m → News g L h' ((a, oe) :: (T, oT') :: news) → wpAny (model Pr w) (A.mark (some (.ref a))) (execs (b₀ :: suite) (envOf name scope L ad cd)) Q (fun _ _ => False) { s with heap := h' }) :
    wpAny (model Pr w) A (handleBy (.ref a) (envOf name scope L ad cd) (.ExceptHandler (some (.Name (Str.ofString "IndexError") np)) none (b₀ :: suite) pos :: rest)) Q E s := by
  have hX := X
  refine ex1 hX fun vs hz330 => an4 hz330 fun hc hd _ _ => ?_
  clear hz330
  try clear hX
  refine wpAny_handleBy_builtin (X := "IndexError") (T := "IndexError") (b := true) PySem.F.isExc_IndexError PySem.F.notTuple_IndexError (by rw [isSubtype_type]; kernel_rfl) ?_
  refine tp_builtin F TP PyProof.Rows.Boot.«IndexError» ⟨rfl, ⟨oe, (N (a, oe) (.head _)).1, hc⟩, ?_⟩ (hk := hk) (hx := kindOf_of_beq hx)
  rw [if_pos rfl]
  refine flight_to none F N X Y hTe off fun h' oT' F' N' _ => wpAny_mono (k h' oT' F' N') (fun _ _ q => q) fun _ _ q => q.elim
end

section
open PySem PySem.W PyProof.Rows PySem.Calls
variable {w : World} {A : Around} {s : Shared} {E : Value → Shared → Prop}
/-- what the text's merge tells of two rows of numbers -/
inductive SD : List Nat → List Nat → List Nat → List Nat → Prop
  | nilE (a : List Nat) : SD [] a [] a
  | nilA (e : List Nat) : SD e [] e []
  | lt {x y : Nat} {e a m u : List Nat} : x < y → SD (e.dropWhile (· == x)) (y :: a) m u → SD (x :: e) (y :: a) (x :: m) u
  | gt {x y : Nat} {e a m u : List Nat} : y < x → SD (x :: e) (a.dropWhile (· == y)) m u → SD (x :: e) (y :: a) m (y :: u)
  | eq {x : Nat} {e a m u : List Nat} : SD (e.dropWhile (· == x)) (a.dropWhile (· == x)) m u → SD (x :: e) (x :: a) m u
theorem if_ne {m : Str → Option Value} {y x : Str} {v : Value} {r : Option Value} (hne : y ≠ x) (h : m y = r) : upd m x v y = r := (if_neg hne).trans h
/-- between two turns -/
structure St (El : Value → Nat → Prop) (ke ka : List Nat) (le la M U : Addr) (i j : Nat) (kms kus : List Nat) (m : Str → Option Value) (news : List (Addr × Obj)) : Prop where
  ex : m (Str.ofString "expected") = some (.ref le)
  ac : m (Str.ofString "actual") = some (.ref la)
  si : ∃ t, m (Str.ofString "i") = some (.int (i : Nat) t)
  sj : ∃ t, m (Str.ofString "j") = some (.int (j : Nat) t)
  mi : m (Str.ofString "missing") = some (.ref M)
  un : m (Str.ofString "unexpected") = some (.ref U)
  hi : i ≤ ke.length
  hj : j ≤ ka.length
  nw : ∃ ms us cM cU, news = [(U, PySem.W.listOf us.toArray cU), (M, PySem.W.listOf ms.toArray cM)] ∧ Els El ms kms ∧ Els El us kus ∧ ms.length ≤ i ∧ us.length ≤ j
section
variable {El : Value → Nat → Prop} {ke ka : List Nat} {le la M U : Addr} {i j : Nat} {kms kus : List Nat} {m m' : Str → Option Value} {news : List (Addr × Obj)}
theorem St.upd (S : St El ke ka le la M U i j kms kus m news) {x : Str} {v : Value} (hx : x = Str.ofString "e" ∨ x = Str.ofString "a") : St El ke ka le la M U i j kms kus (fun y => if y = x then some v else m y) news := by
  rcases hx with rfl | rfl
  · exact ⟨if_ne (by decide) S.ex, if_ne (by decide) S.ac, S.si.imp fun _ h => if_ne (by decide) h, S.sj.imp fun _ h => if_ne (by decide) h, if_ne (by decide) S.mi, if_ne (by decide) S.un, S.hi, S.hj, S.nw⟩
  · exact ⟨if_ne (by decide) S.ex, if_ne (by decide) S.ac, S.si.imp fun _ h => if_ne (by decide) h, S.sj.imp fun _ h => if_ne (by decide) h, if_ne (by decide) S.mi, if_ne (by decide) S.un, S.hi, S.hj, S.nw⟩
theorem St.goI (S : St El ke ka le la M U i j kms kus m news) {i' : Nat} {t : Tok} (hm : ∀ y, y ≠ Str.ofString "i" → m' y = m y) (ht : m' (Str.ofString "i") = some (.int (i' : Nat) t)) (h1 : i ≤ i') (h2 : i' ≤ ke.length) : St El ke ka le la M U i' j kms kus m' news :=
  ⟨(hm _ (by decide)).trans S.ex, (hm _ (by decide)).trans S.ac, ⟨t, ht⟩, S.sj.imp fun _ h => (hm _ (by decide)).trans h, (hm _ (by decide)).trans S.mi, (hm _ (by decide)).trans S.un, h2, S.hj, let ⟨a, b, c, d, e, f, g, h, k⟩ := S.nw; (exi4 a b c d ⟨e, f, g, Nat.le_trans h h1, k⟩)⟩
theorem St.goJ (S : St El ke ka le la M U i j kms kus m news) {j' : Nat} {t : Tok} (hm : ∀ y, y ≠ Str.ofString "j" → m' y = m y) (ht : m' (Str.ofString "j") = some (.int (j' : Nat) t)) (h1 : j ≤ j') (h2 : j' ≤ ka.length) : St El ke ka le la M U i j' kms kus m' news :=
  ⟨(hm _ (by decide)).trans S.ex, (hm _ (by decide)).trans S.ac, S.si.imp fun _ h => (hm _ (by decide)).trans h, ⟨t, ht⟩, (hm _ (by decide)).trans S.mi, (hm _ (by decide)).trans S.un, S.hi, h2, let ⟨a, b, c, d, e, f, g, h, k⟩ := S.nw; (exi4 a b c d ⟨e, f, g, h, Nat.le_trans k h1⟩)⟩
end
/-- what is left at the loop's end -/
noncomputable def Over (El : Value → Nat → Prop) (ke ka : List Nat) (le la M U : Addr) (m : Str → Option Value) (news : List (Addr × Obj)) (c : Value) : Prop :=
  ∃ i j kms kus, St El ke ka le la M U i j kms kus m news ∧ (ke.drop i = [] ∨ ka.drop j = []) ∧ ∀ x y, SD (ke.drop i) (ka.drop j) x y → SD ke ka (kms ++ x) (kus ++ y)
noncomputable def Mid (El : Value → Nat → Prop) (ke ka : List Nat) (le la M U : Addr) (m : Str → Option Value) (news : List (Addr × Obj)) (c : Value) : Prop :=
  c = .none ∧ ∃ i j kms kus va k₀, St El ke ka le la M U i j kms kus m news ∧ m (Str.ofString "a") = some va ∧ El va k₀ ∧ ke.drop i = [] ∧ j < ka.length ∧ ∀ x y, SD [] ((ka.drop (j + 1)).dropWhile (· == k₀)) x y → SD ke ka (kms ++ x) (kus ++ y)
local macro_rules | `(tactic| walk_at "look") => `(tactic| ((try dsimp only); repeat (first | with_reducible assumption | rfl | (refine if_ne (by decide) ?_))))
theorem concF {α : Type} {M : Model} {A : Around} {k : Nat} {t : Sem α} {Q : α → Shared → Prop} {E : Value → Shared → Prop} {s : Shared} {fr : Option (List Env)} (hA : Ar A k) (hf : A.frames = fr)
    (h : ∀ n u, Ar ⟨none, n, fr, none, u⟩ k → wpAny M ⟨none, n, fr, none, u⟩ t Q E s) : wpAny M A t Q E s := fun Γ p hΓ =>
  h A.depth A.units ⟨rfl, hA.dp, hA.un⟩ Γ p ⟨hΓ.1.trans hA.hd, hΓ.2.1, (fun l e => hΓ.2.2.1 l (hf.trans e)), (fun l e => by cases e), hΓ.2.2.2.2⟩
noncomputable abbrev JSd (El : Value → Nat → Prop) (ke ka : List Nat) (le la M U LL : Addr) (oL : Obj) : Nat → (Str → Option Value) → List (Addr × Obj) → Prop := fun q m₁ news₁ => ∃ i j kms kus sl nw, St El ke ka le la M U i j kms kus m₁ nw ∧ news₁ = (LL, { oL with slots := sl }) :: nw ∧ q = (ke.length - i) + (ka.length - j) + 1 ∧ ∀ x y, SD (ke.drop i) (ka.drop j) x y → SD ke ka (kms ++ x) (kus ++ y)
theorem t_sld {k : Nat} {Q : Value → Shared → Prop} {envL : Env} {LL : Addr} {oL : Obj} {hB : Heap} (XB : Wd w hB) (hBs : ∀ b o, hB.get? b = some o → s.heap.get? b = some o) (hBL : hB.get? LL = none) (hA : Ar A (k + 1)) (hfr : A.frames = some [envL]) (hfL : envL.frame = some LL)
    (hkL : envL.scope.kind ≠ .module) (hoL : s.heap.get? LL = some oL) (hnd : ∀ vs, oL.data ≠ .fields vs) {le la : Addr} {ie ia : List Value} {ke ka : List Nat} {El : Value → Nat → Prop} (TE : Told (hideAll s.heap [LL]) El)
    (hle : (hideAll s.heap [LL]).IsList le ie.toArray) (hla : (hideAll s.heap [LL]).IsList la ia.toArray) (hE1 : Els El ie ke) (hE2 : Els El ia ka) (hz1 : ke.length ≤ 100) (hz2 : ka.length ≤ 100)
    (h : ∀ h' tk T M U oT cM cU ms us kms kus, (∀ b o, b ≠ LL → s.heap.get? b = some o → h'.get? b = some o) → (∃ sl, h'.get? LL = some { oL with slots := sl }) → s.heap.get? T = none → s.heap.get? M = none → s.heap.get? U = none →
      h'.get? T = some oT → oT.cls = .type "tuple" → oT.data = .seq #[.ref M, .ref U] → h'.get? M = some (PySem.W.listOf (List.toArray ms) cM) → h'.get? U = some (PySem.W.listOf (List.toArray us) cU) → SD ke ka kms kus → Els El ms kms → Els El us kus → Q (.ref T) { s with heap := h', toks := tk }) :
    wpAny (model Pr w) A (call (.ref 88) [.ref le, .ref la]) Q E s := by
  have XS : Wd w s.heap := XB.grow hBs
  refine callDef (k := k) [(Str.ofString "expected", .ref le), (Str.ofString "actual", .ref la)] XS hA fun h₁ tk₁ mean mg mb hA' F N _ _ => ?_
  refine ex3 XB.t fun mean mg mb TB => ?_
  have hfr' := Around.frames_deeper (env := sEnv s.heap.objs.size) hfr
  have hin : ∀ b o, (hideAll s.heap [LL]).get? b = some o → b ≠ LL := fun b o e q => by rw [q, hideAll_none _ (by simp)] at e; cases e
  have hout : ∀ b o, s.heap.get? b = some o → b ≠ LL → (hideAll s.heap [LL]).get? b = some o := fun b o e q => hideAll_get _ e (by simpa using q)
  have hBg : ∀ b o, hB.get? b = some o → (hideAll s.heap [LL]).get? b = some o := fun b o e => hout b o (hBs b o e) fun q => by rw [q, hBL] at e; cases e
  have K0 : (Kf w.params).In (hideAll s.heap [LL]) := XB.k.keeps hBg
  have T : Top vw (looseW vw looseL) mean mg mb (hideAll s.heap [LL]) := TB.keeps hBg
  have hgk : ∀ b o, (hideAll s.heap [LL]).get? b = some o → s.heap.get? b = some o := fun b o e => of_hideAll _ e
  have hLLn : (hideAll s.heap [LL]).get? LL = none := hideAll_none _ (by simp)
  have hgs : (hideAll s.heap [LL]).objs.size = s.heap.objs.size := hideAll_size _ _
  have hLne : LL ≠ s.heap.objs.size := Nat.ne_of_lt (Heap.lt_size hoL)
  have F₀ : Fr (hideAll s.heap [LL]) s.heap.objs.size h₁ (fun y => List.lookup y [(Str.ofString "expected", Value.ref le), (Str.ofString "actual", Value.ref la)].reverse) := ⟨F.ns, fun b o e => F.keep b o (hgk b o e), by rw [hgs]; exact Nat.le_refl _⟩
  have N₀ : News (hideAll s.heap [LL]) s.heap.objs.size h₁ [(LL, oL)] := fun p hp => by
    rw [List.mem_singleton.mp hp]
    exact ⟨F.keep _ _ hoL, hLne, hLLn⟩
  clear F N
  generalize hgg : hideAll s.heap [LL] = g at *
  refine concF hA' hfr' fun d u hA' => ?_
  have hu := hA'.line
  have hu2 : u + 64 < cLine := by have := hA'.un; show u + 64 < 9900; simp only at this; lia
  have hke := hE1.len
  have hka := hE2.len
  clear hfr hfr'
  walk_at "my steps"
  rename Fr _ _ _ _ => F
  rename News _ _ _ _ => N
  rename_i M _ lM _ _ _ _ U _ lU _ _ _ _
  have nM : @Ne Nat M LL := by lia
  have nU : @Ne Nat U LL := by lia
  have nMU : @Ne Nat M U := by lia
  clear lM lU
  have N' : News g s.heap.objs.size _ ((LL, { oL with slots := oL.slots }) :: [(U, PySem.W.listOf ([] : List Value).toArray 0), (M, PySem.W.listOf ([] : List Value).toArray 0)]) := fun p hp => N p (by
    simp only [List.mem_cons, List.not_mem_nil, or_false] at hp ⊢
    rcases hp with rfl | rfl | rfl <;> simp)
  refine while_walks F N' (JSd El ke ka le la M U LL oL) _
    (exi6 0 0 [] [] oL.slots _ ⟨⟨by walk_at "look", by walk_at "look", ⟨_, by walk_at "look"⟩, ⟨_, by walk_at "look"⟩, by walk_at "look", by walk_at "look", Nat.zero_le _, Nat.zero_le _, [], [], 0, 0, rfl, trivial, trivial, Nat.le_refl _, Nat.le_refl _⟩, rfl, rfl, fun x y z => z⟩) ?_
  clear F N N'
  intro q m₁ news₁ h₂ tk₂ hz62
  refine ex6 hz62 fun i j kms kus sl nw hz23 => an4 hz23 fun S he24 he25 hS => ?_
  clear hz23
  try clear hz62
  subst he24
  subst he25
  intro F₂ N₂
  walk_at "my steps"
  refine try_by (EC := Flown g s.heap.objs.size LL oL (Over El ke ka le la M U) s) ?_ ?_
  · intro e s' X
    refine X.lands rfl rfl hfL (by intro q; cases q) hkL hnd fun a h₃ tk₃ m nw c sl oe T' oT ea F₃ N₃ hX hY hTe hT off hP => ?_
    subst ea
    refine clause_index (s := { s with heap := h₃, toks := tk₃ }) F₃ N₃ hX hY hTe hT T (by decide) rfl fun h₄ oT' F₄ N₄ => ?_
    refine ex4 hP fun i j kms kus hz22 => an3 hz22 fun S hend hS => ?_
    clear hz22
    try clear hP
    refine ex4 S.nw fun ms us cM cU hz20 => an5 hz20 fun he21 hm hu' hl1 hl2 => ?_
    clear hz20
    subst he21
    obtain ⟨h1, h2, ⟨ti, h3⟩, ⟨tj, h4⟩, h5, h6, hi, hj, hz98⟩ := S
    clear hz98
    replace N₄ : News g s.heap.objs.size h₄ [(LL, { oL with slots := sl }), (U, PySem.W.listOf us.toArray cU), (M, PySem.W.listOf ms.toArray cM)] := fun p hp => N₄ p (.tail _ (.tail _ hp))
    clear hX hY hTe hT off F₃ N₃
    have hle' := lkeep hle F₄.keep
    have hla' := lkeep hla F₄.keep
    have ltM := Heap.lt_size (N₄ _ (.tail _ (.tail _ (.head _)))).1
    have ltU := Heap.lt_size (N₄ _ (.tail _ (.head _))).1
    have ltL := Heap.lt_size (N₄ _ (.head _)).1
    try dsimp only at ltM ltU ltL
    walk_at "my steps"
    rename Fr _ _ _ _ => F₅
    rename News _ _ _ _ => N₅
    clear F₄ N₄
    rw [pick_drop] at N₅
    refine extend_in (own := [_, _, _]) (rest := []) F₅ N₅ (fun p hp => ?_) (fun p hp => nomatch hp) (N₅ _ (.head _)).1 (fun h₆ n₆ F₆ N₆ => ?_) (by rw [List.size_toArray, List.length_drop, sizeLine_eq]; lia)
    · simp only [List.mem_cons, List.not_mem_nil, or_false] at hp
      rcases hp with rfl | rfl | rfl
      · exact Nat.ne_of_gt (Nat.lt_succ_of_lt ltM)
      · exact Ne.symm nM
      · exact Ne.symm nMU
    simp only [List.cons_append, List.nil_append] at N₆
    replace N₆ : News g s.heap.objs.size h₆ [(LL, { oL with slots := sl }), (U, PySem.W.listOf us.toArray cU), (M, _)] := fun p hp => N₆ p (.tail _ hp)
    clear F₅ N₅
    have hla' := lkeep hla F₆.keep
    have ltM := Heap.lt_size (N₆ _ (.tail _ (.tail _ (.head _)))).1
    have ltU := Heap.lt_size (N₆ _ (.tail _ (.head _))).1
    have ltL := Heap.lt_size (N₆ _ (.head _)).1
    try dsimp only at ltM ltU ltL
    walk_at "my steps"
    rename Fr _ _ _ _ => F₅
    rename News _ _ _ _ => N₅
    clear F₆ N₆
    rw [pick_drop] at N₅
    refine extend_in (own := [_, _]) (rest := [_]) F₅ N₅ (fun p hp => ?_) (fun p hp => ?_) (N₅ _ (.head _)).1 (fun h₇ n₇ F₇ N₇ => ?_) (by rw [List.size_toArray, List.length_drop, sizeLine_eq]; lia)
    · simp only [List.mem_cons, List.not_mem_nil, or_false] at hp
      rcases hp with rfl | rfl
      · exact Nat.ne_of_gt (Nat.lt_succ_of_lt ltU)
      · exact Ne.symm nU
    · rw [List.mem_singleton.mp hp]; exact nMU
    simp only [List.cons_append, List.nil_append] at N₇
    replace N₇ : News g s.heap.objs.size h₇ [(LL, { oL with slots := sl }), (U, _), (M, _)] := fun p hp => N₇ p (.tail _ hp)
    clear F₅ N₅
    have ltM := Heap.lt_size (N₇ _ (.tail _ (.tail _ (.head _)))).1
    have ltU := Heap.lt_size (N₇ _ (.tail _ (.head _))).1
    have ltL := Heap.lt_size (N₇ _ (.head _)).1
    try dsimp only at ltM ltU ltL
    walk_at "my steps"
    refine WhileEnd.brk ?_
    walk_at "my steps"
    rename_i T₂ _ F₈ N₈ lT
    have noneS : ∀ b, b ≠ LL → g.get? b = none → s.heap.get? b = none := fun b hb e => by
      cases q : s.heap.get? b with
      | none => rfl
      | some o => rw [hout b o q hb] at e; cases e
    have zT := N₈ _ (.head _)
    have zL := N₈ _ (.tail _ (.head _))
    have zU := N₈ _ (.tail _ (.tail _ (.head _)))
    have zM := N₈ _ (.tail _ (.tail _ (.tail _ (.head _))))
    have sd : SD (ke.drop i) (ka.drop j) (ke.drop i) (ka.drop j) := by
      rcases hend with q | q
      · rw [q]; exact .nilE _
      · rw [q]; exact .nilA _
    exact h _ _ T₂ M U _ n₆ n₇ (ms ++ ie.drop i) (us ++ ia.drop j) (kms ++ ke.drop i) (kus ++ ka.drop j) (fun b o hb e => F₈.keep b o (hout b o e hb)) ⟨sl, zL.1⟩ (noneS _ (Nat.ne_of_gt lT.1) zT.2.2) (noneS _ nM zM.2.2) (noneS _ nU zU.2.2)
      zT.1 rfl rfl zM.1 zU.1 (hS _ _ sd) (hm.append (hE1.drop i)) (hu'.append (hE2.drop j))
  · refine ex4 S.nw fun ms us cM cU hz18 => an5 hz18 fun he19 hm hu' hl1 hl2 => ?_
    clear hz18
    subst he19
    obtain ⟨h1, h2, ⟨ti, h3⟩, ⟨tj, h4⟩, h5, h6, hi, hj, hz98⟩ := id S
    clear hz98
    have off : ∀ {o₁ o₂ : Obj}, ∀ p ∈ [(U, o₁), (M, o₂)], p.1 ≠ LL := fun p hp => by
      simp only [List.mem_cons, List.not_mem_nil, or_false] at hp
      rcases hp with rfl | rfl
      · exact nU
      · exact nM
    walk_at "my steps"
    rcases Nat.lt_or_ge i ke.length with hlt | hge
    · refine ex2 (hE1.at hlt) fun x kx hz17 => an3 hz17 fun e1 e2 e3 => ?_
      clear hz17
      refine item_in (lkeep hle F₂.keep) (by lia) (by lia) (v := x) (by simpa using e1) ?_
      walk_at "my steps"
      rename Fr _ _ _ _ => F₃
      rename News _ _ _ _ => N₃
      rcases Nat.lt_or_ge j ka.length with hlt2 | hge2
      · refine ex2 (hE2.at hlt2) fun y ky hz16 => an3 hz16 fun f1 f2 f3 => ?_
        clear hz16
        refine item_in (lkeep hla F₃.keep) (by lia) (by lia) (v := y) (by simpa using f1) ?_
        (try clear F₂ N₂)
        walk_at "my steps"
        rename Fr _ _ _ _ => F₄
        rename News _ _ _ _ => N₄
        refine TE.lt F₄.keep hu2 e3 f3 ?_
        have dE : ke.drop i = kx :: ke.drop (i + 1) := by
          rw [List.getElem?_eq_getElem hlt, Option.some.injEq] at e2
          rw [List.drop_eq_getElem_cons hlt, e2]
        have dA : ka.drop j = ky :: ka.drop (j + 1) := by
          rw [List.getElem?_eq_getElem hlt2, Option.some.injEq] at f2
          rw [List.drop_eq_getElem_cons hlt2, f2]
        have pass : ∀ (P : (Str → Option Value) → List (Addr × Obj) → Value → Prop) (hd : Option Value), PassesOwn (model Pr w) ⟨hd, d, some [sEnv s.heap.objs.size, envL], none, u⟩ (sEnv s.heap.objs.size) (Flown g s.heap.objs.size LL oL P s) :=
          fun P hd => Flown.passes rfl rfl hfL (by intro q; cases q) hkL hnd
        have passAt : ∀ (P : (Str → Option Value) → List (Addr × Obj) → Value → Prop) (hd : Option Value), PassesOwnAt (model Pr w) ⟨hd, d, some [sEnv s.heap.objs.size, envL], none, u⟩ ⟨none, d, some [sEnv s.heap.objs.size, envL], none, u⟩ (sEnv s.heap.objs.size) (Flown g s.heap.objs.size LL oL P s) :=
          fun P hd => Flown.passesAt rfl rfl hfL (by intro q; cases q) hkL hnd
        walk_at "my steps"
        · rename Fr _ _ _ _ => F₅
          rename News _ _ _ _ => N₅
          rename kx < ky => hlt3
          rw [List.push_toArray] at N₅
          have S' : ∀ {i' : Nat} {m' : Str → Option Value} {t : Tok}, i + 1 ≤ i' → i' ≤ ke.length → (∀ y_1, y_1 ≠ Str.ofString "i" → m' y_1 = (fun y_1 => if y_1 = Str.ofString "a" then some y else if y_1 = Str.ofString "e" then some x else m₁ y_1) y_1) → m' (Str.ofString "i") = some (.int (i' : Nat) t) →
              St El ke ka le la M U i' j (kms ++ [kx]) kus m' [(U, PySem.W.listOf us.toArray cU), (M, PySem.W.listOf (ms ++ [x]).toArray (cM + 1))] := fun {i' m' t} a1 a2 a3 a4 => by
            have z := ((S.upd (x := Str.ofString "e") (v := x) (.inl rfl)).upd (x := Str.ofString "a") (v := y) (.inr rfl)).goI (i' := i') a3 a4 (by lia) a2
            exact ⟨z.ex, z.ac, z.si, z.sj, z.mi, z.un, z.hi, z.hj, _, _, _, _, rfl, hm.append ⟨e3, trivial⟩, hu', by rw [List.length_append]; simp only [List.length_cons, List.length_nil]; lia, hl2⟩
          have hS' : ∀ {i' : Nat}, (ke.drop (i + 1)).dropWhile (· == kx) = ke.drop i' → ∀ x' y', SD (ke.drop i') (ka.drop j) x' y' → SD ke ka ((kms ++ [kx]) ++ x') (kus ++ y') := fun {i'} a3 x' y' z => by
            rw [List.append_assoc]
            refine hS _ _ ?_
            rw [dE, dA]
            refine .lt hlt3 ?_
            rw [a3, ← dA]; exact z
          refine skip_E (i := i + 1) (c := .none) (E := Flown g s.heap.objs.size LL oL (Over El ke ka le la M U) s) K0 F₅ N₅ (by walk_at "look") rfl (by walk_at "look") hle hE1 e3 TE hlt (by lia) hu2 (fun _ _ => .inl ⟨rfl, rfl⟩) (pass _ _) ?_ ?_
          · intro i' h' tk t' m' a1 a2 a3 a4 a5 F₆ N₆
            walk_at "my steps"
            exact (WhileEnd.go (n' := (ke.length - i') + (ka.length - j) + 1) (Nat.succ_lt_succ (Nat.add_lt_add_right (Nat.sub_lt_sub_left hlt a1) _)) F₆ N₆ (exi6 i' j _ _ sl _ ⟨S' a1 (by lia) (fun y_1 hy => (a4 y_1 hy).trans (if_neg hy)) a5, rfl, rfl, hS' a3⟩))
          · intro h' h'' tk t' m' e a3 a4 a5 F₆ N₆ X
            exact ⟨e, rfl, .inl (exi7 h' h'' tk m' _ (.none) sl ⟨rfl, X, F₆, N₆, off, exi4 ke.length j _ _ ⟨S' (by lia) (Nat.le_refl _) (fun y_1 hy => (a4 y_1 hy).trans (if_neg hy)) a5, .inl (by simp), hS' (by rw [a3]; simp)⟩⟩)⟩
        · rename ¬ kx < ky => hn1
          rename Fr _ _ _ _ => F₅
          refine TE.gt F₅.keep hu2 e3 f3 ?_
          walk_at "my steps"
          · rename Fr _ _ _ _ => F₅
            rename News _ _ _ _ => N₅
            rename ky < kx => hlt3
            rw [List.push_toArray] at N₅
            have S' : ∀ {j' : Nat} {m' : Str → Option Value} {t : Tok}, j + 1 ≤ j' → j' ≤ ka.length → (∀ y_1, y_1 ≠ Str.ofString "j" → m' y_1 = (fun y_1 => if y_1 = Str.ofString "a" then some y else if y_1 = Str.ofString "e" then some x else m₁ y_1) y_1) → m' (Str.ofString "j") = some (.int (j' : Nat) t) →
                St El ke ka le la M U i j' kms (kus ++ [ky]) m' [(U, PySem.W.listOf (us ++ [y]).toArray (cU + 1)), (M, PySem.W.listOf ms.toArray cM)] := fun {j' m' t} a1 a2 a3 a4 => by
              have z := ((S.upd (x := Str.ofString "e") (v := x) (.inl rfl)).upd (x := Str.ofString "a") (v := y) (.inr rfl)).goJ (j' := j') a3 a4 (by lia) a2
              exact ⟨z.ex, z.ac, z.si, z.sj, z.mi, z.un, z.hi, z.hj, _, _, _, _, rfl, hm, hu'.append ⟨f3, trivial⟩, hl1, by rw [List.length_append]; simp only [List.length_cons, List.length_nil]; lia⟩
            have hS' : ∀ {j' : Nat}, (ka.drop (j + 1)).dropWhile (· == ky) = ka.drop j' → ∀ x' y', SD (ke.drop i) (ka.drop j') x' y' → SD ke ka (kms ++ x') ((kus ++ [ky]) ++ y') := fun {j'} a3 x' y' z => by
              rw [List.append_assoc]
              refine hS _ _ ?_
              rw [dE, dA]
              refine .gt hlt3 ?_
              rw [a3, ← dE]; exact z
            refine skip_A (i := j + 1) (c := .none) (E := Flown g s.heap.objs.size LL oL (Over El ke ka le la M U) s) K0 F₅ N₅ (by walk_at "look") rfl (by walk_at "look") hla hE2 f3 TE hlt2 (by lia) hu2 (fun _ _ => .inl ⟨rfl, rfl⟩) (pass _ _) ?_ ?_
            · intro j' h' tk t' m' a1 a2 a3 a4 a5 F₆ N₆
              walk_at "my steps"
              exact (WhileEnd.go (n' := (ke.length - i) + (ka.length - j') + 1) (Nat.succ_lt_succ (Nat.add_lt_add_left (Nat.sub_lt_sub_left hlt2 a1) _)) F₆ N₆ (exi6 i j' _ _ sl _ ⟨S' a1 (by lia) (fun y_1 hy => (a4 y_1 hy).trans (if_neg hy)) a5, rfl, rfl, hS' a3⟩))
            · intro h' h'' tk t' m' e a3 a4 a5 F₆ N₆ X
              exact ⟨e, rfl, .inl (exi7 h' h'' tk m' _ (.none) sl ⟨rfl, X, F₆, N₆, off, exi4 i ka.length _ _ ⟨S' (by lia) (Nat.le_refl _) (fun y_1 hy => (a4 y_1 hy).trans (if_neg hy)) a5, .inr (by simp), hS' (by rw [a3]; simp)⟩⟩)⟩
          · rename ¬ ky < kx => hn2
            have hkk : ky = kx := by lia
            subst hkk
            rename Fr _ _ _ _ => F₅
            rename News _ _ _ _ => N₅
            refine finally_by (EF := Flown g s.heap.objs.size LL oL (Mid El ke ka le la M U) s) ?_ ?_
            · intro e s' X
              refine X.note rfl rfl hfL (by intro q; cases q) hkL hnd fun a h₃ tk₃ m nw c sl oe T' oT ea F₃ N₃ hX hY hTe hT off' hP => ?_
              subst ea
              refine ⟨ref_ne_byPass _, note_again rfl (N₃ (a, oe) (.head _)).1 hX (N₃ (T', oT) (.tail _ (.head _))).1 hY ?_⟩
              refine flight_to (s := { s with heap := h₃, toks := tk₃ }) none F₃ N₃ hX hY hTe hT fun h₄ oT' F₄ N₄ hY' => ?_
              refine an2 hP fun he13 hz14 => ex6 hz14 fun i j kms kus va k₀ hz15 => an6 hz15 fun S ha hva hd hj hS => ?_
              clear hz14 hz15
              try clear hP
              subst he13
              clear F₃ N₃ hY F₅ N₅
              refine wpAny_mono (E := Flown g s.heap.objs.size LL oL (Over El ke ka le la M U) s) ?_ (fun _ _ q => q) (passAt _ (some (.ref a)))
              show wpAny (model Pr w) ⟨some (.ref a), d, some [sEnv s.heap.objs.size, envL], none, u⟩ _ _ _ _
              refine ex1 S.sj fun tj h4 => ?_
              have hac := S.ac
              walk_at "my steps"
              rename Fr _ _ _ _ => F₆
              rename News _ _ _ _ => N₆
              refine skip_A (hd := some (.ref a)) (i := j + 1) (c := .ref a) (k₀ := k₀) (E := Flown g s.heap.objs.size LL oL (Over El ke ka le la M U) s) K0 F₆ N₆ (by walk_at "look") rfl (by walk_at "look") hla hE2 hva TE hj (by lia) hu2
                (fun h N => .inr (exi3 a oe T' ⟨rfl, (N (a, oe) (.head _)).1, hX, rfl⟩)) (pass _ _) ?_ ?_
              · intro j' h' tk t' m' a1 a2 a3 a4 a5 F₇ N₇
                walk_at "my steps"
                have hX' := hX
                refine ex1 hX' fun vs hz12 => an4 hz12 fun _ hd' h1' _ => ?_
                clear hz12
                try clear hX'
                unfold PySem.passOn
                refine wpAny_bind (wpAny_field (N₇ (a, oe) (.head _)).1 hd' h1' ?_)
                rw [if_neg (by simp)]
                refine wpAny_bind (flight_to (s := { s with heap := h', toks := tk }) (some s.heap.objs.size) F₇ N₇ hX hY' hTe hT fun h₈ oT₈ F₈ N₈ hY₈ => wpAny_throw ?_)
                refine ⟨a, rfl, .inr (exi9 h₈ tk m' nw (.none) sl oe T' oT₈ ⟨rfl, F₈, N₈, hX, hY₈, hTe, hT, off', exi4 i j' kms kus ⟨S.goJ (fun y_1 hy => (a4 y_1 hy).trans (if_neg hy)) a5 (by lia) (by lia), .inl hd, fun x' y' z => ?_⟩⟩)⟩
                rw [hd] at z
                exact hS x' y' (by rw [a3]; exact z)
              · intro h' h'' tk t' m' e a3 a4 a5 F₇ N₇ X
                refine ⟨e, rfl, .inl (exi7 h' h'' tk m' nw (.ref a) sl ⟨rfl, X, F₇, fun p hp => N₇ p (.tail _ (.tail _ hp)), off', exi4 i ka.length kms kus ⟨S.goJ (fun y_1 hy => (a4 y_1 hy).trans (if_neg hy)) a5 (by lia) (Nat.le_refl _), .inl hd, fun x' y' z => ?_⟩⟩)⟩
                rw [hd, List.drop_length] at z
                exact hS x' y' (by rw [a3]; exact z)
            · walk_at "my steps"
              refine skip_E (i := i + 1) (c := .none) (E := Flown g s.heap.objs.size LL oL (Mid El ke ka le la M U) s) K0 F₅ N₅ (by walk_at "look") rfl (by walk_at "look") hle hE1 e3 TE hlt (by lia) hu2 (fun _ _ => .inl ⟨rfl, rfl⟩) (pass _ _) ?_ ?_
              · intro i' h' tk t' m' a1 a2 a3 a4 a5 F₆ N₆
                have S₁ := ((S.upd (x := Str.ofString "e") (v := x) (.inl rfl)).upd (x := Str.ofString "a") (v := y) (.inr rfl)).goI (i' := i') (fun y_1 hy => (a4 y_1 hy).trans (if_neg hy)) a5 (by lia) (by lia)
                refine ex1 S₁.sj fun tj' h4' => ?_
                have hac := S₁.ac
                have ha : m' (Str.ofString "a") = some y := (a4 _ (by decide)).trans (by walk_at "look")
                walk_at "my steps"
                rename Fr _ _ _ _ => F₇
                rename News _ _ _ _ => N₇
                refine wpAny_mono (E := Flown g s.heap.objs.size LL oL (Over El ke ka le la M U) s) ?_ (fun _ _ q => q) (passAt _ none)
                refine skip_A (i := j + 1) (c := .none) (E := Flown g s.heap.objs.size LL oL (Over El ke ka le la M U) s) K0 F₇ N₇ (by walk_at "look") rfl (by walk_at "look") hla hE2 f3 TE hlt2 (by lia) hu2 (fun _ _ => .inl ⟨rfl, rfl⟩) (pass _ _) ?_ ?_
                · intro j' h₈ tk₈ t₈ m₈ b1 b2 b3 b4 b5 F₈ N₈
                  walk_at "my steps"
                  refine (WhileEnd.go (n' := (ke.length - i') + (ka.length - j') + 1) (by lia) F₈ N₈ (exi6 i' j' kms kus sl _ ⟨S₁.goJ (fun y_1 hy => (b4 y_1 hy).trans (if_neg hy)) b5 (by lia) (by lia), rfl, rfl, fun x' y' z => hS x' y' ?_⟩))
                  rw [dE, dA]
                  exact .eq (by rw [a3, b3]; exact z)
                · intro h₈ h₉ tk₈ t₈ m₈ e b3 b4 b5 F₈ N₈ X
                  refine ⟨e, rfl, .inl (exi7 h₈ h₉ tk₈ m₈ _ (.none) sl ⟨rfl, X, F₈, N₈, off, exi4 i' ka.length kms kus ⟨S₁.goJ (fun y_1 hy => (b4 y_1 hy).trans (if_neg hy)) b5 (by lia) (Nat.le_refl _), .inr (by simp), fun x' y' z => hS x' y' ?_⟩⟩)⟩
                  rw [dE, dA]
                  rw [List.drop_length] at z
                  exact .eq (by rw [a3, b3]; exact z)
              · intro h' h'' tk t' m' e a3 a4 a5 F₆ N₆ X
                have S₁ := ((S.upd (x := Str.ofString "e") (v := x) (.inl rfl)).upd (x := Str.ofString "a") (v := y) (.inr rfl)).goI (i' := ke.length) (fun y_1 hy => (a4 y_1 hy).trans (if_neg hy)) a5 (by lia) (Nat.le_refl _)
                have ha : m' (Str.ofString "a") = some y := (a4 _ (by decide)).trans (by walk_at "look")
                refine ⟨e, rfl, .inl (exi7 h' h'' tk m' _ (.none) sl ⟨rfl, X, F₆, N₆, off, rfl, exi6 ke.length j kms kus y ky ⟨S₁, ha, f3, by simp, hlt2, fun x' y' z => hS x' y' ?_⟩⟩)⟩
                rw [dE, dA]
                exact .eq (by rw [a3]; exact z)
      · refine item_past (.inl ⟨rfl, rfl⟩) (lkeep hla F₃.keep) (by lia) (by lia) fun h' tk e X => ?_
        exact ⟨e, rfl, .inl (exi7 _ h' tk _ _ (.none) sl ⟨rfl, X, F₃, N₃, off, exi4 i j kms kus ⟨S.upd (.inl rfl), .inr (List.drop_eq_nil_of_le hge2), hS⟩⟩)⟩
    · refine item_past (.inl ⟨rfl, rfl⟩) (lkeep hle F₂.keep) (by lia) (by lia) fun h' tk e X => ?_
      exact ⟨e, rfl, .inl (exi7 _ h' tk m₁ _ (.none) sl ⟨rfl, X, F₂, N₂, off, exi4 i j kms kus ⟨S, .inl (List.drop_eq_nil_of_le hge), hS⟩⟩)⟩
end

section
open PySem PySem.W PyProof.Rows PySem.Calls
variable {w : World} {A : Around} {s : Shared} {E : Value → Shared → Prop}
local macro_rules | `(tactic| walk_at "getMethod bytes") => `(tactic| first | (with_reducible refine meth_hex ?_) | (with_reducible refine meth_upper ?_))
local macro_rules | `(tactic| walk_at "getMethod str") => `(tactic| (with_reducible refine meth_encode ?_))
local macro_rules | `(tactic| walk_at "call builtin:bytes.hex") => `(tactic| (refine call_hex (by assumption) ?_; intro _ _))
local macro_rules | `(tactic| walk_at "call builtin:bytes.upper") => `(tactic| (refine call_upper (by assumption) ?_; intro _ _))
local macro_rules | `(tactic| walk_at "call builtin:str.encode") => `(tactic| (refine call_encode (by assumption) (by assumption) (by assumption) ?_; intro _ _))
theorem t_buffer {k : Nat} {Q : Value → Shared → Prop} (X : Wd w s.heap) (hA : Ar A (k + 6)) (b : Array UInt8) (tb : Tok)
    (h : ∀ s' , Keeps s s' → Q (.bytes b tb) s') : wpAny (model Pr w) A (call (.ref 42) [.bytes b tb]) Q E s := by
  refine callDef (k := k + 5) [(Str.ofString "data", .bytes b tb)] X hA fun h₁ tk₁ mean mg mb hA' F N K0 T => ?_
  refine conc hA' fun d u hA' => ?_
  have hA5 := hA'.mono (Nat.le_add_left 5 k)
  walk_at "my steps"
  rename Fr _ _ _ _ => F'
  exact h _ (keepsOf F' _)
theorem t_hex {k : Nat} {Q : Value → Shared → Prop} (X : Wd w s.heap) (hA : Ar A (k + 8)) (b : Array UInt8) (tb : Tok) (hz : b.size ≤ 1000) (h0 : 0 < b.size)
    (h : ∀ s' t, Keeps s s' → Q (.bytes ((hexCps b).map fun c => c.toUInt8) t) s') : wpAny (model Pr w) A (call (.ref 66) [.bytes b tb]) Q E s := by
  refine callDef (k := k + 7) [(Str.ofString "data", .bytes b tb), (Str.ofString "sep", .ref 58), (Str.ofString "bytes_per_sep", .int 1 248)] X hA fun h₁ tk₁ mean mg mb hA' F N K0 T => ?_
  refine conc hA' fun d u hA' => ?_
  have hA5 := hA'.mono (show 5 ≤ k + 7 by omega)
  have c1 : ∀ c ∈ ({ cps := hexCps b } : Str).cps.toList, c < 128 := hexCps_lt b
  have c2 : 0 < ({ cps := hexCps b } : Str).length := by show 0 < (hexCps b).size; rw [hexCps_size]; omega
  have c3 : ({ cps := hexCps b } : Str).length ≤ 10000 := by show (hexCps b).size ≤ 10000; rw [hexCps_size]; omega
  walk_at "my steps"
  refine t_buffer (k := k + 1) (Wd.grow ⟨K0, (exi3 _ _ _ T)⟩ F.keep) hA' b tb fun s₂ hs => ?_
  refine ex2 hs fun h₂ tk₂ hz91 => an2 hz91 fun he92 k₂ => ?_
  clear hz91
  try clear hs
  subst he92
  have F₂ := frGrow F k₂
  have N₂ := newsGrow N k₂
  clear F N
  walk_at "my steps"
  rename Fr _ _ _ _ => F₃
  exact h _ _ (keepsOf F₃ _)
theorem t_b16 {k : Nat} {Q : Value → Shared → Prop} (X : Wd w s.heap) (hA : Ar A (k + 9)) (b : Array UInt8) (tb : Tok) (hz : b.size ≤ 1000) (h0 : 0 < b.size)
    (h : ∀ s' t, Keeps s s' → Q (.bytes (hexB b) t) s') : wpAny (model Pr w) A (call (.ref 81) [.bytes b tb]) Q E s := by
  refine callDef (k := k + 8) [(Str.ofString "s", .bytes b tb)] X hA fun h₁ tk₁ mean mg mb hA' F N K0 T => ?_
  refine conc hA' fun d u hA' => ?_
  have c4 : ((hexCps b).map fun c => c.toUInt8).size ≤ 10000 := by rw [Array.size_map, hexCps_size]; omega
  walk_at "my steps"
  refine t_hex (k := k) (Wd.grow ⟨K0, (exi3 _ _ _ T)⟩ F.keep) hA' b tb hz h0 fun s₂ t₂ hs => ?_
  refine ex2 hs fun h₂ tk₂ hz89 => an2 hz89 fun he90 k₂ => ?_
  clear hz89
  try clear hs
  subst he90
  have F₂ := frGrow F k₂
  have N₂ := newsGrow N k₂
  clear F N
  walk_at "my steps"
  rename Fr _ _ _ _ => F₃
  exact h _ _ (keepsOf F₃ _)
end

section
open PySem PySem.W PyProof.Rows PySem.Calls
variable {w : World} {A : Around} {s : Shared} {E : Value → Shared → Prop}
section
variable {prog : Program}
theorem callDefKw {k : Nat} {Q : Value → Shared → Prop} {E : Value → Shared → Prop} {name qual : Str} {params : Arguments} {body body' : List Stmt} {scope : Scope} {dV kV doc pm cdv ct oc : Value} {an od : Option Addr} {osl : Array (Option Value)} {f : Addr} {args : List Value} {kw : List (Str × Value)}
    (binds : List (Str × Value))
    (X : Wd w s.heap) (hA : Ar A (k + 1))
    (h : ∀ h₁ tk₁ mean mg mb, Ar (A.deeper (envOf qual scope s.heap.objs.size f cdv)) k → Fr s.heap s.heap.objs.size h₁ (fun y => binds.reverse.lookup y) → News s.heap s.heap.objs.size h₁ [] → (Kf w.params).In s.heap → Top vw (looseW vw looseL) mean mg mb s.heap →
      wpAny (model prog w) (A.deeper (envOf qual scope s.heap.objs.size f cdv)) (execs body' (envOf qual scope s.heap.objs.size f cdv))
        (fun fl s' => Q (match fl with | .ret v => v | _ => .none) s') (fun _ _ => False)
        { s with heap := h₁, toks := tk₁ })
    (ho : (Kf w.params).lookup f = some ⟨oc, od, .func (fnOf name qual params body scope dV kV doc pm an cdv ct), osl⟩ := by k_is) (hcd : codeIn (Kf w.params) cdv qual = true := by k_is) (hbd : body = body' := by (conv => lhs; whnf))
    (hbind : BindsTo s (fnOf name qual params body scope dV kV doc pm an cdv ct) ⟨args, kw⟩ binds := by first | exact BindsTo.of_eq rfl | exact binds_K (Wd.k (by assumption)) rfl (by k_is) rfl rfl rfl) (hloc : ∀ y ∈ binds, scope.names.lookup y.1 = some .local := by exact locs rfl)
    (hcell : ∀ x ∈ scope.names, x.2 ≠ .cell := by decide) (hco : scope.isCoroutine = false := by exact rfl) (hgen : scope.isGenerator = false := by exact rfl) (hk : scope.kind = .function := by exact rfl) :
    wpAny (model prog w) A (call (.ref f) args kw) Q E s := by
  subst hbd
  exact wpAny_call (enter X hA.room ho hcd hbind hloc (fun h₁ mean mg mb F N K T => h h₁ _ mean mg mb hA.deeper F N K T) hcell hco hgen hk)
end
local macro_rules | `(tactic| walk_at "call type:type") => `(tactic| first | refine type_bytes (by assumption) ?_ | refine type_bool (by assumption) ?_ | refine type_int (by assumption) ?_)
theorem t_truth {k : Nat} {Q : Value → Shared → Prop} (X : Wd w s.heap) (hA : Ar A (k + 6))
    (h : ∀ s' , Keeps s s' → Q (.bool false) s') : wpAny (model Pr w) A (call (.ref 49) [.bool false]) Q E s := by
  refine callDef (k := k + 5) [(Str.ofString "x", .bool false)] X hA fun h₁ tk₁ mean mg mb hA' F N K0 T => ?_
  refine conc hA' fun d u hA' => ?_
  have hA5 := hA'.mono (Nat.le_add_left 5 k)
  walk_at "my steps"
  rename Fr _ _ _ _ => F'
  exact h _ (keepsOf F' _)
theorem appendN {prog : Program} {h₀ : Heap} {L l : Addr} {m : Str → Option Value} {own rest : List (Addr × Obj)} {ys : List Value} {c : Nat} {x : Value} {Q : Value → Shared → Prop} (F : Fr h₀ L s.heap m) (N : News h₀ L s.heap (own ++ (l, PySem.W.listOf (List.toArray ys) c) :: rest))
    (h1 : ∀ p ∈ own, p.1 ≠ l) (h2 : ∀ p ∈ rest, p.1 ≠ l) (hz : ys.length ≤ 100000)
    (h : ∀ h', Fr h₀ L h' m → News h₀ L h' (own ++ (l, PySem.W.listOf (List.toArray (ys ++ [x])) (c + 1)) :: rest) → Q .none { s with heap := h' }) :
    wpAny (model prog w) A (call (.builtin "list.append") [.ref l, x]) Q E s := by
  have hm := N (l, PySem.W.listOf (List.toArray ys) c) (List.mem_append_right _ (.head _))
  refine append_at (its := List.toArray ys) (n := c) hm.1 (fun h' hs hd => ?_) (by rw [List.size_toArray, sizeLine_eq]; lia)
  refine h h' (F.change hs hm.2.1 hm.2.2) (N.setAt h1 h2 hs ?_)
  rw [hd, List.push_toArray]
theorem getD_put {j : Nat} (h : j < 64) : (([65, 66, 67, 68, 69, 70, 71, 72, 73, 74, 75, 76, 77, 78, 79, 80, 81, 82, 83, 84, 85, 86, 87, 88, 89, 90, 97, 98, 99, 100, 101, 102, 103, 104, 105, 106, 107, 108, 109, 110, 111, 112, 113, 114, 115, 116, 117, 118, 119, 120, 121, 122, 48, 49, 50, 51, 52, 53, 54, 55, 56, 57, 43, 47] : List UInt8).getD j 0).toNat = putA j := by
  have : ∀ j : Fin 64, (([65, 66, 67, 68, 69, 70, 71, 72, 73, 74, 75, 76, 77, 78, 79, 80, 81, 82, 83, 84, 85, 86, 87, 88, 89, 90, 97, 98, 99, 100, 101, 102, 103, 104, 105, 106, 107, 108, 109, 110, 111, 112, 113, 114, 115, 116, 117, 118, 119, 120, 121, 122, 48, 49, 50, 51, 52, 53, 54, 55, 56, 57, 43, 47] : List UInt8).getD j.val 0).toNat = putA j.val := by decide +kernel
  exact this ⟨j, h⟩
section
variable {prog : Program} {a b : Int} {t u : Tok} {Q : Value → Shared → Prop}
theorem and63 (h : Q (.int (a % 64) s.toks) { s with toks := s.toks + 1 }) : wpAny (model prog w) A (binaryOp .BitAnd (.int a t) (.int 63 u)) Q E s := and_int (by rw [bitAnd_m6]; exact h)
theorem and3 (h : Q (.int (a % 4) s.toks) { s with toks := s.toks + 1 }) : wpAny (model prog w) A (binaryOp .BitAnd (.int a t) (.int 3 u)) Q E s := and_int (by rw [bitAnd_m2]; exact h)
theorem and15 (h : Q (.int (a % 16) s.toks) { s with toks := s.toks + 1 }) : wpAny (model prog w) A (binaryOp .BitAnd (.int a t) (.int 15 u)) Q E s := and_int (by rw [bitAnd_m4]; exact h)
theorem and65535 (h : Q (.int (a % 65536) s.toks) { s with toks := s.toks + 1 }) : wpAny (model prog w) A (binaryOp .BitAnd (.int a t) (.int 65535 u)) Q E s := and_int (by rw [bitAnd_m16]; exact h)
theorem orLow {n x : Nat} (hx : x < 256) : Builtin.bitOr ((n : Int) * 2 ^ (8 : Int).toNat) (x : Int) = ((n * 256 + x : Nat) : Int) := by
  have e0 : ((n : Int) * 2 ^ (8 : Int).toNat) = ((n * 256 : Nat) : Int) := by push_cast; rfl
  rw [e0]
  have h1 : Builtin.bitOr ((n * 256 : Nat) : Int) (x : Int) = ((n * 256 ||| x : Nat) : Int) := by
    have f : ∀ m : Nat, decide (0 ≤ Builtin.bitNot ((m : Nat) : Int)) = false := fun m => by
      have : ¬ (0 ≤ Builtin.bitNot ((m : Nat) : Int)) := by unfold Builtin.bitNot; lia
      simpa using this
    have g : ∀ m : Int, Builtin.bitNot (Builtin.bitNot m) = m := fun m => by unfold Builtin.bitNot; lia
    unfold Builtin.bitOr Builtin.bitAnd
    rw [f, f]
    simp only [g, Int.toNat_natCast]
  rw [h1]
  have := Nat.shiftLeft_add_eq_or_of_lt (i := 8) (b := x) (by lia) n
  rw [Nat.shiftLeft_eq] at this
  rw [← this]
theorem nn {a m : Int} (h : m ≠ 0) : 0 ≤ a % m := Int.emod_nonneg a h
theorem shl4 (h : Q (.int (a % 4 * 16) s.toks) { s with toks := s.toks + 1 }) : wpAny (model prog w) A (binaryOp .LShift (.int (a % 4) t) (.int 4 u)) Q E s := lshift_int_small (by decide) (by decide) (by have := Int.emod_lt_of_pos a (show (0 : Int) < 4 by decide); have := Int.emod_nonneg a (show (4 : Int) ≠ 0 by decide); lia) h
theorem shl2 (h : Q (.int (a % 16 * 4) s.toks) { s with toks := s.toks + 1 }) : wpAny (model prog w) A (binaryOp .LShift (.int (a % 16) t) (.int 2 u)) Q E s := lshift_int_small (by decide) (by decide) (by have := Int.emod_lt_of_pos a (show (0 : Int) < 16 by decide); have := Int.emod_nonneg a (show (16 : Int) ≠ 0 by decide); lia) h
theorem or_low {n x : Nat} (hx : x < 256) (h : Q (.int ((n * 256 + x : Nat) : Int) s.toks) { s with toks := s.toks + 1 }) : wpAny (model prog w) A (binaryOp .BitOr (.int ((n : Int) * 2 ^ (8 : Int).toNat) t) (.int (x : Int) u)) Q E s := or_int (by rw [orLow hx]; exact h)
theorem shr {n : Nat} (hb : 0 ≤ b) (h : Q (.int ((n / 2 ^ b.toNat : Nat) : Int) s.toks) { s with toks := s.toks + 1 }) : wpAny (model prog w) A (binaryOp .RShift (.int (n : Int) t) (.int b u)) Q E s := by
  refine rshift_int hb ?_
  rw [Int.fdiv_eq_ediv_of_nonneg _ (by exact Int.le_of_lt (Int.pow_pos (by decide)))]
  have e : (n : Int) / 2 ^ b.toNat = ((n / 2 ^ b.toNat : Nat) : Int) := by push_cast; rfl
  rw [e]; exact h
end
local macro_rules | `(tactic| walk_at "binaryOp BitAnd int int") => `(tactic| first | refine and63 ?_ | refine and3 ?_ | refine and15 ?_ | refine and65535 ?_)
local macro_rules | `(tactic| walk_at "binaryOp BitOr int int") => `(tactic| (refine or_low (by assumption) ?_))
local macro_rules | `(tactic| walk_at "binaryOp RShift int int") => `(tactic| (refine shr (Int.sub_nonneg_of_le (by assumption)) ?_))
local macro_rules | `(tactic| walk_at "binaryOp LShift int int") => `(tactic| first | refine shl4 ?_ | refine shl2 ?_ | refine lshift_int_small (by omega) (by omega) (by decide) ?_)
/-- what b64encode tells -/
noncomputable def b64B (b : Array UInt8) : Array UInt8 := byteArr (nats ((sext (b.toList.map fun c => c.toNat)).map putA ++ List.replicate (pads (b.size % 3)) 61))
theorem putA_lt {x : Nat} (h : x < 64) : putA x < 256 := by
  have : ∀ x : Fin 64, putA x.val < 256 := by decide +kernel
  exact this ⟨x, h⟩
theorem pads_le (n : Nat) : pads n ≤ 2 := by unfold pads; split <;> decide
theorem octs_mem (b : Array UInt8) : ∀ x ∈ b.toList.map (fun c => c.toNat), x < 256 := by
  intro x hx
  refine ex1 (List.mem_map.mp hx) fun c hz18 => an2 hz18 fun _ he19 => ?_
  clear hz18
  subst he19
  exact c.toNat_lt
theorem b64_lt (b : Array UInt8) : ∀ x ∈ (sext (b.toList.map fun c => c.toNat)).map putA ++ List.replicate (pads (b.size % 3)) 61, x < 256 := by
  intro x hx
  rcases List.mem_append.mp hx with hx | hx
  · refine ex1 (List.mem_map.mp hx) fun y hz16 => an2 hz16 fun hy he17 => ?_
    clear hz16
    subst he17
    exact putA_lt (em_lt _ 0 0 (octs_mem b) (by decide) y hy)
  · rw [(List.mem_replicate.mp hx).2]; decide
theorem b64_bytes {prog : Program} {Q : Value → Shared → Prop} {h₀ : Heap} {L l : Addr} {m : Str → Option Value} {news : List (Addr × Obj)} {ys : List Value} {c : Nat} {b : Array UInt8} (hh : A.handled = none) (F : Fr h₀ L s.heap m) (N : News h₀ L s.heap ((l, PySem.W.listOf (List.toArray ys) c) :: news))
    (hI : IntsAre ys (nats ((sext (b.toList.map fun c => c.toNat)).map putA ++ List.replicate (pads (b.size % 3)) 61))) (hz : b.size ≤ 1000)
    (h : ∀ h' t k, Fr h₀ L h' m → Q (.bytes (b64B b) t) { s with heap := h', toks := k }) : wpAny (model prog w) A (call (.type "bytes") [.ref l]) Q E s := by
  refine call_bytes_ints ⟨_, (N _ (.head _)).1, rfl, _, rfl⟩ hI (byts_in (b64_lt b)) ?_ hh fun h' t k kk => h h' t k (frGrow F kk)
  have z3 := em_len (b.toList.map fun c => c.toNat) 0 0
  have z5 := hI.length
  have z6 := pads_le (b.size % 3)
  simp only [List.length_append, sext, nats, List.length_map, Array.length_toList, List.length_replicate] at z3 z5
  rw [sizeLine_eq]; lia
noncomputable abbrev JB1 (b : Array UInt8) (l : Addr) : Nat → (Str → Option Value) → List (Addr × Obj) → Prop := fun i m news => ∃ ph p lc tlc tlb o ys c, news = [(l, PySem.W.listOf (List.toArray ys) c)] ∧ IntsAre ys (nats (List.map putA o)) ∧ o ++ em ph p ((b.toList.map fun c => c.toNat).drop i) = sext (b.toList.map fun c => c.toNat) ∧
    ph = i % 3 ∧ lc < 65536 ∧ (ph = 0 ∨ lc % 256 = p) ∧ m (Str.ofString "leftchar") = some (.int (lc : Nat) tlc) ∧ m (Str.ofString "leftbits") = some (.int (2 * ph : Nat) tlb) ∧ m (Str.ofString "out") = some (.ref l) ∧ m (Str.ofString "newline") = some (.bool false)
noncomputable abbrev JB2 (l : Addr) (I : Addr) (oI : Obj) (o : List Nat) (v ph lc : Nat) : Nat → (Str → Option Value) → List (Addr × Obj) → Prop := fun q m news => ∃ lb tlb tv o' ys c, q = lb ∧ news = [(I, oI), (l, PySem.W.listOf (List.toArray ys) c)] ∧ IntsAre ys (nats (List.map putA o')) ∧ o' ++ innr v lb = o ++ innr v (2 * ph + 8) ∧ lb % 6 = (2 * ph + 8) % 6 ∧ (lb ≤ 12 ∧ lb % 2 = 0) ∧
      m (Str.ofString "leftchar") = some (.int (v : Nat) tv) ∧ m (Str.ofString "leftbits") = some (.int (lb : Nat) tlb) ∧ m (Str.ofString "out") = some (.ref l) ∧ m (Str.ofString "newline") = some (.bool false)
theorem phNext {i ph : Nat} (h : ph = i % 3) : (2 * ph + 8) % 6 / 2 = (i + 1) % 3 := by
  rw [Nat.add_mod i 1 3, ← h]
  exact (by decide : ∀ p : Fin 3, (2 * p.val + 8) % 6 / 2 = (p.val + 1 % 3) % 3) ⟨ph, h ▸ Nat.mod_lt _ (by decide)⟩
theorem qStep {q r : Nat} (h6 : q % 6 = r) (h12 : q ≤ 12 ∧ q % 2 = 0) (h : (6 : Int) ≤ (q : Int)) :
    (q - 6) % 6 = r ∧ (q - 6 ≤ 12 ∧ (q - 6) % 2 = 0) ∧ ((q : Int) - 6).toNat = q - 6 ∧ (q : Int) - 6 = ((q - 6 : Nat) : Int) ∧ q - 6 < q ∧ (q = 6 ∨ q = 8 ∨ q = 10 ∨ q = 12) := by
  have h' : 6 ≤ q := Int.ofNat_le.mp h
  have e : (q : Int) - 6 = ((q - 6 : Nat) : Int) := (Int.ofNat_sub h').symm
  exact ⟨(Nat.mod_eq_sub_mod h').symm.trans h6, ⟨Nat.le_trans (Nat.sub_le _ _) h12.1, (Nat.sub_mod_eq_zero_of_mod_eq (m := q) (k := 2) (n := 6) h12.2)⟩, by rw [e]; rfl, e, Nat.sub_lt (Nat.lt_of_lt_of_le (by decide) h') (by decide),
    (by decide : ∀ x : Fin 13, x.val % 2 = 0 → 6 ≤ x.val → (x.val = 6 ∨ x.val = 8 ∨ x.val = 10 ∨ x.val = 12)) ⟨q, Nat.lt_succ_of_le h12.1⟩ h12.2 h'⟩
theorem t_b2a {k : Nat} {Q : Value → Shared → Prop} (X : Wd w s.heap) (hA : Ar A (k + 8)) (b : Array UInt8) (tb : Tok) (hz : b.size ≤ 1000)
    (h : ∀ s' t, Keeps s s' → Q (.bytes (b64B b) t) s') : wpAny (model Pr w) A (call (.ref 57) [.bytes b tb] [(Str.ofString "newline", .bool false)]) Q E s := by
  refine callDefKw (k := k + 7) [(Str.ofString "data", .bytes b tb), (Str.ofString "newline", .bool false)] X hA fun h₁ tk₁ mean mg mb hA' F N K0 T => ?_
  refine conc hA' fun d u hA' => ?_
  walk_at "my steps"
  refine t_buffer (k := k + 1) (Wd.grow ⟨K0, (exi3 _ _ _ T)⟩ F.keep) hA' b tb fun s₂ hs => ?_
  refine ex2 hs fun h₂ tk₂ hz14 => an2 hz14 fun he15 k₂ => ?_
  clear hz14
  try clear hs
  subst he15
  have F₂ := frGrow F k₂
  have N₂ := newsGrow N k₂
  clear F N
  walk_at "my steps"
  rename Fr _ _ _ _ => F
  rename News _ _ _ _ => N
  refine t_truth (k := k + 1) (Wd.grow ⟨K0, (exi3 _ _ _ T)⟩ F.keep) hA' fun s₂ hs => ?_
  refine ex2 hs fun h₂ tk₂ hz12 => an2 hz12 fun he13 k₂ => ?_
  clear hz12
  try clear hs
  subst he13
  have F₂ := frGrow F k₂
  have N₂ := newsGrow N k₂
  clear F N
  walk_at "my steps"
  rename Fr _ _ _ _ => F
  rename News _ _ _ _ => N
  rename_i l _ _ _ _ _ _ _ _ _ _ _ _ _ _ _ _
  have hlt := Heap.lt_size (N _ (.head _)).1
  refine for_bytesI rfl rfl rfl F N (JB1 b l) ?_ ?_ ?_ ?_
  · exact (exi8 0 0 0 _ _ [] [] 0 ⟨rfl, .nil, rfl, rfl, by lia, .inl rfl, rfl, rfl, rfl, rfl⟩)
  · intro i m₁ news₁ hz1
    refine ex8 hz1 fun ph p lc tlc tlb o ys c hz10 => an2 hz10 fun he11 _ => ?_
    clear hz10
    try clear hz1
    subst he11
    intro p hp
    obtain rfl := List.mem_singleton.mp hp
    exact Nat.ne_of_lt hlt
  · intro I rfl' i c uc m₁ news₁ h₁ tk₁ oI hi hc hz2
    refine ex8 hz2 fun ph p lc tlc tlb o ys cap hz8 => an10 hz8 fun he9 hI he hph' hlc hp hm1 hm2 hm3 hm4 => ?_
    clear hz8
    try clear hz2
    subst he9
    intro F₁ N₁
    try dsimp only [envOf, envOfC] at F₁ N₁
    have hph : ph ≤ 2 := hph' ▸ Nat.le_of_lt_succ (Nat.mod_lt _ (by decide))
    have hnx := phNext hph'
    clear hph'
    have hcx : c.toNat < 256 := c.toNat_lt
    have hIl : @Ne Nat I l := by rw [rfl']; exact Ne.symm (Nat.ne_of_lt hlt)
    walk_at "my steps"
    rename Fr _ _ _ _ => F₂
    rename News _ _ _ _ => N₂
    generalize hv : (lc * 256 + c.toNat) % 65536 = v
    have e1 : (↑(lc * 256 + c.toNat) % 65536 : Int) = ((v : Nat) : Int) := by rw [← hv]; rfl
    have e2 : (↑(2 * ph) + 8 : Int) = ((2 * ph + 8 : Nat) : Int) := by push_cast; rfl
    simp only [e1, e2] at F₂
    refine while_walks F₂ N₂ (JB2 l I oI o v ph lc) (2 * ph + 8) ?_ ?_
    · exact (exi6 _ _ _ o ys cap ⟨rfl, rfl, hI, rfl, rfl, ⟨Nat.add_le_add_right (Nat.mul_le_mul_left 2 hph) 8, Nat.mul_add_mod 2 ph 8⟩, rfl, rfl, hm3, hm4⟩)
    · intro q m₃ news₃ h₃ tk₃ hz3
      refine ex6 hz3 fun lb tlb' tv o' ys' c' hz5 => an10 hz5 fun he6 he7 hI' he' hl6 hl12 hn1 hn2 hn3 hn4 => ?_
      clear hz5
      try clear hz3
      subst he6
      subst he7
      intro F₃ N₃
      have hlen : ys'.length ≤ 5000 := by
        have z1 := congrArg List.length he'
        have z2 := congrArg List.length he
        have z3 := em_len (b.toList.map fun c => c.toNat) 0 0
        have z4 := innr_len v (2 * ph + 8)
        have z5 := hI'.length
        simp only [List.length_append, sext, nats, List.length_map, Array.length_toList] at z1 z2 z3 z5
        lia
      walk_at "my steps"
      · rename Fr _ _ _ _ => F₄
        rename News _ _ _ _ => N₄
        rename 6 ≤ (_ : Int) => h6
        refine an6 (qStep hl6 hl12 h6) fun s1 s2 s3 s4 s5 s6 => ?_
        have ej : (↑(v / 2 ^ (↑q - 6 : Int).toNat) % 64 : Int).toNat = v / 2 ^ (q - 6) % 64 := by
          rw [s3]; rfl
        rw [List.push_toArray, ej, getD_put (Nat.mod_lt _ (by decide))] at N₄
        have eg : innr v q = v / 2 ^ (q - 6) % 64 :: innr v (q - 6) := innr_ge s6
        refine (WhileEnd.go (n' := q - 6) s5 F₄ N₄ (exi6 (q - 6) _ tv (o' ++ [v / 2 ^ (q - 6) % 64]) _ _ ⟨rfl, rfl, ?_, ?_, s1, s2, hn1, congrArg (fun z => some (Value.int z _)) s4, hn3, hn4⟩))
        · simp only [nats, List.map_append, List.map_cons, List.map_nil]
          exact .append hI' (.cons _ _ .nil)
        · rw [← he', eg, List.append_assoc]; rfl
      · rename Fr _ _ _ _ => F₄
        rename News _ _ _ _ => N₄
        rename ¬ _ => h6
        have hd : (b.toList.map fun c => c.toNat).drop i = c.toNat :: (b.toList.map fun c => c.toNat).drop (i + 1) := by
          have q1 : (b.toList.map fun c => c.toNat)[i]? = some c.toNat := by rw [List.getElem?_map, Array.getElem?_toList, hc]; rfl
          refine ex1 (List.getElem?_eq_some_iff.mp q1) fun hl q2 => ?_
          rw [List.drop_eq_getElem_cons hl, q2]
        rw [hd, em_step hph hp hcx, ← List.append_assoc] at he
        have h6 : q < 6 := Int.ofNat_lt.mp (Int.not_le.mp h6)
        rw [innr_lt h6, List.append_nil] at he'
        rw [← hv] at he'
        rw [← he'] at he
        have hvc : v % 256 = c.toNat := by rw [← hv, Nat.mod_mod_of_dvd _ (by decide : 256 ∣ 65536), Nat.mul_add_mod', Nat.mod_eq_of_lt hcx]
        refine (TurnEnd.go (news := [(l, PySem.W.listOf (List.toArray ys') c')]) F₄ N₄ (exi8 ((2 * ph + 8) % 6 / 2) c.toNat v tv tlb' o' ys' c' ⟨rfl, hI', he, hnx, hv ▸ Nat.mod_lt _ (by decide), .inr hvc, hn1, ?_, hn3, hn4⟩))
        rw [show 2 * ((2 * ph + 8) % 6 / 2) = q by rw [← hl6, Nat.mod_eq_of_lt h6]; exact Nat.mul_div_cancel' (Nat.dvd_of_mod_eq_zero hl12.2)]; exact hn2
  · intro h' tk' m' news' F₁ N₁ hz4
    refine ex8 hz4 fun ph p lc tlc tlb o ys cap hz3 => an10 hz3 fun he4 hI he hph hlc hp hm1 hm2 hm3 hm4 => ?_
    clear hz3
    try clear hz4
    subst he4
    try dsimp only [envOf, envOfC] at F₁ N₁
    rw [List.drop_eq_nil_of_le (by simp)] at he
    have hlen : ys.length ≤ 5000 := by
      have z2 := congrArg List.length he
      have z3 := em_len (b.toList.map fun c => c.toNat) 0 0
      have z5 := hI.length
      simp only [List.length_append, sext, nats, List.length_map, Array.length_toList] at z2 z3 z5
      lia
    have hsz : ph = b.size % 3 := hph
    have hi3 : ph = 0 ∨ ph = 1 ∨ ph = 2 := by lia
    rcases hi3 with rfl | rfl | rfl
    · walk_at "my steps"
      all_goals try (exfalso; lia)
      rename Fr _ _ _ _ => F₄
      rename News _ _ _ _ => N₄
      refine b64_bytes rfl F₄ N₄ ?_ hz fun h₅ t₅ k₅ F₅ => h _ _ (keepsOf F₅ _)
      rw [← hsz, ← he]
      simpa [pads, em] using hI
    · walk_at "my steps"
      all_goals try (exfalso; lia)
      rename Fr _ _ _ _ => F₄
      rename News _ _ _ _ => N₄
      have ej : (↑lc % 4 * 16 : Int).toNat = lc % 4 * 16 := rfl
      rw [List.push_toArray, List.push_toArray, List.push_toArray, ej, getD_put (Nat.lt_of_le_of_lt (Nat.mul_le_mul_right 16 (Nat.le_of_lt_succ (Nat.mod_lt lc (by decide : 0 < 4)))) (by decide))] at N₄
      refine b64_bytes rfl F₄ N₄ ?_ hz fun h₅ t₅ k₅ F₅ => h _ _ (keepsOf F₅ _)
      rw [← hsz, ← he]
      have ep : p % 4 = lc % 4 := by rw [← hp.resolve_left (by decide), Nat.mod_mod_of_dvd _ (by decide : 4 ∣ 256)]
      refine cast (congrArg (IntsAre _) ?_) (IntsAre.append (IntsAre.append (IntsAre.append hI (.cons _ _ .nil)) (.cons 61 _ .nil)) (.cons 61 _ .nil))
      rw [← ep]
      simp [pads, em, nats, List.replicate]
    · walk_at "my steps"
      all_goals try (exfalso; lia)
      rename Fr _ _ _ _ => F₄
      rename News _ _ _ _ => N₄
      have ej : (↑lc % 16 * 4 : Int).toNat = lc % 16 * 4 := rfl
      rw [List.push_toArray, List.push_toArray, ej, getD_put (Nat.lt_of_le_of_lt (Nat.mul_le_mul_right 4 (Nat.le_of_lt_succ (Nat.mod_lt lc (by decide : 0 < 16)))) (by decide))] at N₄
      refine b64_bytes rfl F₄ N₄ ?_ hz fun h₅ t₅ k₅ F₅ => h _ _ (keepsOf F₅ _)
      rw [← hsz, ← he]
      have ep : p % 16 = lc % 16 := by rw [← hp.resolve_left (by decide), Nat.mod_mod_of_dvd _ (by decide : 16 ∣ 256)]
      refine cast (congrArg (IntsAre _) ?_) (IntsAre.append (IntsAre.append hI (.cons _ _ .nil)) (.cons 61 _ .nil))
      rw [← ep]
      simp [pads, em, nats, List.replicate]
theorem t_b64 {k : Nat} {Q : Value → Shared → Prop} (X : Wd w s.heap) (hA : Ar A (k + 9)) (b : Array UInt8) (tb : Tok) (hz : b.size ≤ 1000)
    (h : ∀ s' t, Keeps s s' → Q (.bytes (b64B b) t) s') : wpAny (model Pr w) A (call (.ref 74) [.bytes b tb]) Q E s := by
  refine callDef (k := k + 8) [(Str.ofString "s", .bytes b tb), (Str.ofString "altchars", .none)] X hA fun h₁ tk₁ mean mg mb hA' F N K0 T => ?_
  refine conc hA' fun d u hA' => ?_
  walk_at "my steps"
  refine t_b2a (k := k) (Wd.grow ⟨K0, (exi3 _ _ _ T)⟩ F.keep) hA' b tb hz fun s₂ t₂ hs => ?_
  refine ex2 hs fun h₂ tk₂ hz1 => an2 hz1 fun he2 k₂ => ?_
  clear hz1
  try clear hs
  subst he2
  have F₂ := frGrow F k₂
  have N₂ := newsGrow N k₂
  clear F N
  walk_at "my steps"
  rename Fr _ _ _ _ => F₃
  exact h _ _ (keepsOf F₃ _)
end

section
open PySem PySem.W PyProof.Rows PySem.Calls
variable {w : World} {A : Around} {s : Shared} {E : Value → Shared → Prop}
local macro_rules | `(tactic| walk_at "compareOp Gt ref ref") => `(tactic| (refine gt_lists (by assumption) (by assumption) (by assumption) ?_))
local macro_rules | `(tactic| walk_at "compareOp Lt ref ref") => `(tactic| (refine lt_lists (by assumption) (by assumption) (by assumption) ?_))
theorem t_cmpL {k : Nat} {Q : Value → Shared → Prop} (X : Wd w s.heap) (hA : Ar A (k + 2)) (l b : Addr) (ns ms : List Int) (hl : LInts s.heap l ns) (hb : LInts s.heap b ms)
   (h : ∀ s' tk, Keeps s s' → Q (.int (sgn (cmpI ns ms)) tk) s') : wpAny (model Pr w) A (call (.ref 95) [.ref l, .ref b]) Q E s := by
  refine callDef (k := k + 1) [(Str.ofString "x", .ref l), (Str.ofString "y", .ref b)] X hA fun h₁ tk₁ mean mg mb hA' F N K0 T => ?_
  have hu : A.units + 3 < cLine := by have := hA'.line; exact this
  refine conc hA' fun d u hA' => ?_
  have hu := hA'.line
  have hl' := hl.keep F.keep
  have hb' := hb.keep F.keep
  walk_at "my steps"
  try dsimp only
  rw [show b2i (cmpI ns ms == Ordering.gt) - b2i (cmpI ns ms == Ordering.lt) = sgn (cmpI ns ms) from sgn_b2i _]
  exact h _ _ (keepsOf F _)
end

section
open PySem PySem.W PyProof.Rows PySem.Calls
variable {w : World} {A : Around} {s : Shared} {E : Value → Shared → Prop}
noncomputable def keepsL (ns ms : List Int) (i : Nat) : Bool := decide (ns.getD i 0 ∉ ms ∧ (ns.getD i 0 ∉ ns.take i ∨ ∀ y ∈ ms ++ [-1], y < ns.getD i 0))
noncomputable def lacksUp (ns ms : List Int) : Nat → List Int
  | 0 => []
  | i + 1 => lacksUp ns ms i ++ (if keepsL ns ms i then [ns.getD i 0] else [])
theorem subN {h₀ h : Heap} {L I l : Addr} {oI o : Obj} {all : List (Addr × Obj)} (N : News h₀ L h all) (h1 : (I, oI) ∈ all) (h2 : (l, o) ∈ all) : News h₀ L h ([(I, oI)] ++ [(l, o)]) := fun p hp => by
  simp only [List.cons_append, List.nil_append, List.mem_cons, List.not_mem_nil, or_false] at hp
  rcases hp with rfl | rfl
  · exact N _ h1
  · exact N _ h2
theorem not_any {l : List Int} {x : Int} (h : (l.any fun y => y == x) = false) : x ∉ l := fun hx => by
  have : (l.any fun y => y == x) = true := List.any_eq_true.mpr ⟨x, hx, by simp⟩
  rw [this] at h; cases h
noncomputable abbrev JLk (l b l' : Addr) (ns ms : List Int) : Nat → (Str → Option Value) → List (Addr × Obj) → Prop := fun i m news => ∃ ys c, news = [(l', PySem.W.listOf (List.toArray ys) c)] ∧ IntsAre ys (lacksUp ns ms i) ∧ ys.length ≤ i ∧ m (Str.ofString "these") = some (.ref l) ∧ m (Str.ofString "those") = some (.ref b) ∧ m (Str.ofString "due") = some (.ref l')
theorem t_lacks {k : Nat} {Q : Value → Shared → Prop} (X : Wd w s.heap) (hA : Ar A (k + 2)) (l b : Addr) (vs ws : List Value) (ns ms : List Int) (hl : s.heap.IsList l vs.toArray) (hb : s.heap.IsList b ws.toArray) (hi : IntsAre vs ns) (hj : IntsAre ws ms) (hz : ns.length ≤ 8) (hz2 : ms.length ≤ 8)
   (h : ∀ D cap h' tk ys, (∀ c o, s.heap.get? c = some o → h'.get? c = some o) → s.heap.get? D = none → h'.get? D = some (PySem.W.listOf (List.toArray ys) cap) → IntsAre ys (lacksUp ns ms ns.length) → Q (.ref D) { s with heap := h', toks := tk }) : wpAny (model Pr w) A (call (.ref 695) [.ref l, .ref b]) Q E s := by
  refine callDef (k := k + 1) [(Str.ofString "these", .ref l), (Str.ofString "those", .ref b)] X hA fun h₁ tk₁ mean mg mb hA' F N K0 T => ?_
  refine conc hA' fun d u hA' => ?_
  have hu := hA'.line
  have hlen := hi.length
  have hlen2 := hj.length
  walk_at "my steps"
  rename IsRange _ _ _ _ _ _ _ _ => hr
  rename Fr _ _ _ _ => F'
  rename News _ _ _ _ => N'
  rename_i l' _ _ _ _ _ _ _ _ _ _ _ _ _ _ _
  have hlt := Heap.lt_size (N' _ (.head _)).1
  refine for_rangeI (n := ns.length) rfl rfl rfl hr (small_range (by lia) (by lia)) (size_range (by lia)) F' N' (JLk l b l' ns ms) ?_ ?_ ?_ ?_
  · exact (exi2 [] 0 ⟨rfl, .nil, Nat.le_refl _, rfl, rfl, rfl⟩)
  · intro i m₁ news₁ hz14
    refine ex2 hz14 fun ys c hz101 => an2 hz101 fun he102 _ => ?_
    clear hz101
    try clear hz14
    subst he102
    intro p hp
    obtain rfl := List.mem_singleton.mp hp
    exact Nat.ne_of_lt hlt
  · intro I hIe i tv m₁ news₁ h₁ tk₁ oI hi' hz15
    refine ex2 hz15 fun ys c hz99 => an6 hz99 fun he100 hI hyl hm1 hm2 hm3 => ?_
    clear hz99
    try clear hz15
    subst he100
    intro F₁ N₁
    try dsimp only [envOf, envOfC] at F₁ N₁
    have hIl : @Ne Nat I l' := by rw [hIe]; exact Ne.symm (Nat.ne_of_lt hlt)
    have e0 : (↑i : Int).toNat = i := Int.toNat_natCast i
    walk_at "my steps"
    · rename Fr _ _ _ _ => Fz
      rename News _ _ _ _ => Nz
      rename List.any ms _ = _ => a1
      rw [e0] at a1
      have hk : keepsL ns ms i = false := by
        have : ns.getD i 0 ∈ ms := by simpa using a1
        simp only [keepsL, decide_eq_false_iff_not]
        exact fun q => q.1 this
      refine (TurnEnd.go (news := [(l', PySem.W.listOf (List.toArray ys) c)]) Fz (fun p hp => Nz p hp) (exi2 ys c ⟨rfl, ?_, Nat.le_succ_of_le hyl, hm1, hm2, hm3⟩))
      rw [lacksUp, hk]; simpa using hI
    · rename Fr _ _ _ _ => Fz
      rename News _ _ _ _ => Nz
      rename List.any ms _ = _ => a1
      rename List.any (List.take _ _) _ = _ => a2
      rename _ < ns.getD _ _ => a3
      rename ∀ a ∈ _, a ≤ _ => a4
      rw [e0] at a1 a2 a3
      rw [List.push_toArray, e0] at Nz
      have hk : keepsL ns ms i = true := by
        have q1 : ns.getD i 0 ∉ ms := not_any a1
        simp only [keepsL, decide_eq_true_iff]
        exact ⟨q1, .inr fun y hy => Int.lt_of_le_of_lt (a4 y hy) a3⟩
      have Nw := subN (I := I) (l := l') Nz (by k_mem) (by k_mem)
      refine (TurnEnd.go Fz Nw (exi2 _ _ ⟨rfl, ?_, by rw [List.length_append]; exact Nat.succ_le_succ hyl, hm1, hm2, hm3⟩))
      rw [lacksUp, hk]; exact .append hI (.cons _ _ .nil)
    · rename Fr _ _ _ _ => Fz
      rename News _ _ _ _ => Nz
      rename List.any ms _ = _ => a1
      rename List.any (List.take _ _) _ = _ => a2
      rename ¬ (_ < ns.getD _ _) => a3
      rename _ ∈ ms ++ _ => a4
      rw [e0] at a1 a2 a3
      have hk : keepsL ns ms i = false := by
        have q2 : ns.getD i 0 ∈ ns.take i := by simpa using a2
        simp only [keepsL, decide_eq_false_iff_not]
        rintro ⟨_, q | q⟩
        · exact q q2
        · exact a3 (q _ a4)
      refine (TurnEnd.go (news := [(l', PySem.W.listOf (List.toArray ys) c)]) Fz (fun p hp => Nz p ?_) (exi2 ys c ⟨rfl, ?_, Nat.le_succ_of_le hyl, hm1, hm2, hm3⟩))
      · simp only [List.cons_append, List.nil_append, List.mem_cons, List.not_mem_nil, or_false] at hp ⊢
        rcases hp with rfl | rfl <;> simp
      · rw [lacksUp, hk]; simpa using hI
    · rename Fr _ _ _ _ => Fz
      rename News _ _ _ _ => Nz
      rename List.any ms _ = _ => a1
      rename List.any (List.take _ _) _ = _ => a2
      rw [e0] at a1 a2
      rw [List.push_toArray, e0] at Nz
      have hk : keepsL ns ms i = true := by
        have q1 : ns.getD i 0 ∉ ms := not_any a1
        have q2 : ns.getD i 0 ∉ ns.take i := not_any a2
        simp only [keepsL, decide_eq_true_iff]
        exact ⟨q1, .inl q2⟩
      have Nw := subN (I := I) (l := l') Nz (by k_mem) (by k_mem)
      refine (TurnEnd.go Fz Nw (exi2 _ _ ⟨rfl, ?_, by rw [List.length_append]; exact Nat.succ_le_succ hyl, hm1, hm2, hm3⟩))
      rw [lacksUp, hk]; exact .append hI (.cons _ _ .nil)
  · intro h' tk' m' news' F₁ N₁ hz16
    refine ex2 hz16 fun ys c hz97 => an6 hz97 fun he98 hI hyl hm1 hm2 hm3 => ?_
    clear hz97
    try clear hz16
    subst he98
    try dsimp only [envOf, envOfC] at F₁ N₁
    walk_at "my steps"
    exact h _ _ _ _ _ F₁.keep (N₁ _ (.head _)).2.2 (N₁ _ (.head _)).1 hI
end

section
open PySem PySem.W PyProof.Rows PySem.Calls
section
variable {prog : Program} {w : World} {A : Around} {E : Value → Shared → Prop} {s : Shared} {h₀ : Heap} {L : Addr} {m : Str → Option Value} {news : List (Addr × Obj)} {vs : List Value}
theorem short_tree {a : Addr} {n : Nat} {P : PySem.Fin → Shared → Prop} (ho : s.heap.get? a = some (seqObj "list" vs.toArray n)) (h2 : vs.toArray.size < 2)
    (h : P (.done (.ret .none)) { s with heap := sortedHeap s.heap a vs ((vs.toArray.zip vs.toArray).map (·.2)) }) :
    wpAny (model prog w) A (Builtin.«list.sort» ⟨[.ref a], []⟩) P E s := by
  rw [list_sort_plain]
  have ha : a < s.heap.objs.size := Heap.lt_size ho
  refine wpAny_bind (listItems_at ho rfl ?_)
  refine wpAny_bind (listUpdate_at ho rfl ?_ (by rw [sizeLine_eq]; lia) (Nat.zero_le _))
  obtain ⟨e1, ho1⟩ : ∃ e1, (s.heap.update a (Obj.mapSeq fun _ => #[])).get? a = some (seqObj "list" #[] e1) := ⟨_, get?_update_seq ho (fun _ => #[])⟩
  refine wpAny_bind (seqEpoch_at ho1 rfl ?_)
  refine wpAny_bind (wpAny_newTuple ?_ (by show vs.length ≤ _; rw [sizeLine_eq]; rw [List.size_toArray] at h2; lia))
  refine wpAny_bind (wpAny_newList ?_ (Nat.zero_le _))
  refine wpAny_holding ?_
  have ho6 : (((s.heap.update a (Obj.mapSeq fun _ => #[])).push (seqObj "tuple" vs.toArray 0)).push (seqObj "list" #[] 0)).get? a = some (seqObj "list" #[] e1) := by
    rw [Heap.get?_push_ne _ _ _ (by rw [size_push', Heap.size_update]; exact Nat.ne_of_lt (Nat.lt_succ_of_lt ha)), Heap.get?_push_ne _ _ _ (by rw [Heap.size_update]; exact Nat.ne_of_lt ha)]
    exact ho1
  show wpAny (model prog w) A _ P E { s with heap := ((s.heap.update a (Obj.mapSeq fun _ => #[])).push (seqObj "tuple" vs.toArray 0)).push (seqObj "list" #[] 0) }
  dsimp only
  rw [if_pos h2, if_pos h2]
  refine wpAny_bind (wpAny_pure ?_)
  rw [StateT.run_pure]
  refine wpAny_bind (wpAny_pure ?_)
  dsimp only
  refine wpAny_bind (seqEpoch_at ho6 rfl ?_)
  refine wpAny_bind (listUpdate_at ho6 rfl ?_ (Nat.zero_le _) (by rw [Array.size_map]; show (pairsOf vs).size ≤ _; rw [pairsOf_size, sizeLine_eq]; rw [List.size_toArray] at h2; lia))
  simp only [bne_self_eq_false, Bool.false_eq_true, if_false]
  exact wpAny_pure h
theorem sorted_short {l : Addr} {Q : Value → Shared → Prop} (F : Fr h₀ L s.heap m) (N : News h₀ L s.heap news) (hl : s.heap.IsList l vs.toArray) (h2 : vs.length < 2)
    (h : ∀ D c h', Fr h₀ L h' m → News h₀ L h' ((D, PySem.W.listOf (List.toArray vs) c) :: news) → Q (.ref D) { s with heap := h' }) :
    wpAny (model prog w) A (call (.builtin "sorted") [.ref l]) Q E s := by
  refine Calls.call_function_entry kind_sorted plain_sorted entry_sorted (args_sorted1 _) ?_
  unfold Builtin.«sorted»
  refine wpAny_bind (m := checkCount "sorted" 1 1 _) (wpAny_pure ?_)
  refine wpAny_bind (collect_list hl ?_ (by rw [sizeLine_eq]; lia))
  refine wpAny_bind (wpAny_newList ?_ (by rw [sizeLine_eq]; lia))
  have hsz : ((s.heap.push (seqObj "list" #[] 0)).update s.heap.objs.size (Obj.mapSeq (· ++ vs.toArray))).objs.size = s.heap.objs.size + 1 := by
    rw [Heap.size_update, size_push']
  have hoL : (((s.heap.push (seqObj "list" #[] 0)).update s.heap.objs.size (Obj.mapSeq (· ++ vs.toArray))).push (seqObj "list" vs.toArray 0)).get? (s.heap.objs.size + 1) = some (seqObj "list" vs.toArray 0) := by
    rw [← hsz]; exact Heap.get?_push_size _ rfl
  show wpAny _ _ _ _ _ { s with heap := ((s.heap.push (seqObj "list" #[] 0)).update s.heap.objs.size (Obj.mapSeq (· ++ vs.toArray))).push (seqObj "list" vs.toArray 0) }
  rw [hsz]
  refine wpAny_bind (wpAny_holding (wpAny_call_entry slot_list_sort ⟨_, hoL, rfl⟩ entry_list_sort (short_tree hoL (by rw [List.size_toArray]; exact h2) ⟨_, rfl, ?_⟩) (args_list_sort _)))
  refine wpAny_pure ⟨_, rfl, ?_⟩
  refine ex1 (sortedAll_at s.heap vs ((vs.toArray.zip vs.toArray).map (·.2))) fun e he => ?_
  have hv : (vs.toArray.zip vs.toArray).map (·.2) = vs.toArray := by
    apply Array.toList_inj.mp
    simp [List.map_snd_zip]
  rw [hv] at he
  refine h _ e _ (F.kept fun _ _ => sortedAll_old) ?_
  have := N.kept_cons F (fun _ _ => sortedAll_old) (Nat.le_succ _) he
  rw [hv]
  exact this
end
end

section
open PySem PySem.W PyProof.Rows PySem.Calls
/-- a tuple (number, place) kept in a ledger, told by the one number 8 * number + place -/
noncomputable def TupAt (nl : List (Addr × Obj)) (v : Value) (q : Nat) : Prop :=
  ∃ a o t u n, v = .ref a ∧ (a, o) ∈ nl ∧ o.cls = .type "tuple" ∧ o.data = .seq #[.int ((q / 8 : Nat) : Int) t, .int ((q % 8 : Nat) : Int) u] n
section
variable {prog : Program} {w : World} {A : Around} {E : Value → Shared → Prop} {s : Shared} {h₀ : Heap} {L : Addr} {m : Str → Option Value} {news : List (Addr × Obj)} {vs : List Value}
theorem divLt {p q : Nat} (c : ¬ p / 8 = q / 8) : p / 8 < q / 8 ↔ p < q :=
  ⟨fun h => Nat.lt_of_not_le fun g => Nat.not_le.mpr h (Nat.div_le_div_right g), fun h => Nat.lt_of_le_of_ne (Nat.div_le_div_right (Nat.le_of_lt h)) c⟩
theorem remLt {p q : Nat} (c : p / 8 = q / 8) : p % 8 < q % 8 ↔ p < q := by
  have hp := Nat.div_add_mod p 8
  have hq := Nat.div_add_mod q 8
  rw [c] at hp
  exact ⟨fun h => by have h := Nat.add_lt_add_left h (8 * (q / 8)); rw [hp, hq] at h; exact h, fun h => Nat.lt_of_add_lt_add_left (n := 8 * (q / 8)) (by rw [hp, hq]; exact h)⟩
theorem lt_tup {x y : Value} {p q : Nat} {Q : Bool → Shared → Prop} (N : News h₀ L s.heap news) (hx : TupAt news x p) (hy : TupAt news y q) (h : Q (decide (p < q)) s) :
    wpAny (model prog w) A (keyLt' (tuples' true) x y) Q E s := by
  refine ex5 hx fun a o t u n hz387 => an4 hz387 fun he388 ma ca da => ?_
  clear hz387
  try clear hx
  subst he388
  refine ex5 hy fun b o' t' u' n' hz385 => an4 hz385 fun he386 mb cb db => ?_
  clear hz385
  try clear hy
  subst he386
  refine kat_lt (N _ ma).1 da (N _ mb).1 db ?_
  refine kat_cons (wpAny_eqBool_int ?_)
  by_cases c : p / 8 = q / 8
  · rw [show (((p / 8 : Nat) : Int) == ((q / 8 : Nat) : Int)) = true by rw [c]; simp]
    refine kat_yes (kat_cons (wpAny_eqBool_int ?_))
    by_cases d : p % 8 = q % 8
    · rw [show (((p % 8 : Nat) : Int) == ((q % 8 : Nat) : Int)) = true by rw [d]; simp]
      refine kat_yes (kat_nil ?_)
      rw [decide_eq_false (p := p < q) fun g => absurd ((remLt c).mpr g) (by rw [d]; exact Nat.lt_irrefl _)] at h
      simpa using h
    · rw [show (((p % 8 : Nat) : Int) == ((q % 8 : Nat) : Int)) = false by rw [beq_eq_false_iff_ne]; exact fun e => d (Int.ofNat_inj.mp e)]
      refine kat_no (kat_one _ _ (lt_int ?_))
      show Q _ s
      rw [show decide (((p % 8 : Nat) : Int) < ((q % 8 : Nat) : Int)) = decide (p < q) by rw [decide_eq_decide]; exact Int.ofNat_lt.trans (remLt c)]
      exact h
  · rw [show (((p / 8 : Nat) : Int) == ((q / 8 : Nat) : Int)) = false by rw [beq_eq_false_iff_ne]; exact fun e => c (Int.ofNat_inj.mp e)]
    refine kat_no (oneLt_int ?_)
    rw [show decide (((p / 8 : Nat) : Int) < ((q / 8 : Nat) : Int)) = decide (p < q) by rw [decide_eq_decide]; exact Int.ofNat_lt.trans (divLt c)]
    exact h
theorem tups_kat (N : News h₀ L s.heap news) : ∀ {vs : List Value} {qs : List Nat}, Els (TupAt news) vs qs → ∃ fs, KatTups s.heap vs fs ∧ fs.length = vs.length ∧ ∀ f ∈ fs, ∃ i t, f = .int i t
  | [], [], _ => ⟨[], trivial, rfl, fun _ h => nomatch h⟩
  | [], _ :: _, h => h.elim
  | _ :: _, [], h => h.elim
  | v :: vs, q :: qs, h => by
    refine ex1 (tups_kat N h.2) fun fs hz384 => an3 hz384 fun h1 h2 h3 => ?_
    clear hz384
    refine ex5 h.1 fun a o t u n hz382 => an4 hz382 fun he383 ma ca da => ?_
    clear hz382
    subst he383
    refine ⟨.int ((q / 8 : Nat) : Int) t :: fs, KatTups.cons (N _ ma).1 ca da rfl h1, by simp [h2], fun f hf => ?_⟩
    rcases List.mem_cons.mp hf with rfl | hf
    · exact (exi2 _ _ rfl)
    · exact h3 f hf
theorem sorted_tups {l : Addr} {qs : List Nat} {Q : Value → Shared → Prop} (F : Fr h₀ L s.heap m) (N : News h₀ L s.heap news) (hl : s.heap.IsList l vs.toArray) (hT : Els (TupAt news) vs qs) (h64 : qs.length < 64)
    (hne : ∀ i j, i < qs.length → j < qs.length → i ≠ j → qs.getD i 0 ≠ qs.getD j 0)
    (h : ∀ D c h' out ks, Fr h₀ L h' m → News h₀ L h' ((D, PySem.W.listOf (List.toArray out) c) :: news) → Els (TupAt news) out ks → ks.length = qs.length → (∀ i j, i < j → j < ks.length → ks.getD i 0 < ks.getD j 0) → (∀ k ∈ ks, k ∈ qs) → Q (.ref D) { s with heap := h' }) :
    wpAny (model prog w) A (call (.builtin "sorted") [.ref l]) Q E s := by
  have hlen := hT.len
  by_cases h2 : vs.length < 2
  · exact sorted_short F N hl h2 fun D c h' F' N' => h D c h' vs qs F' N' hT rfl (fun i j h1 h3 => by lia) fun k hk => hk
  refine kat_sorted F N hl (by lia) (by lia) fun D e1 h' F' N' hD => ?_
  have Nn : News h₀ L h' news := fun p hp => N' p (.tail _ hp)
  refine ex1 (tups_kat (s := { s with heap := h' }) Nn hT) fun fs hz381 => an3 hz381 fun k1 k2 k3 => ?_
  clear hz381
  refine kat_kind (T := .type "int") k1 (by lia) (fun v hv => ?_) rfl ?_
  · refine ex2 (k3 v hv) fun i t he380 => ?_
    subst he380
    exact .now
  · refine sort_wp (key := fun i => qs.getD i 0) (fun i j C hi hj hC => ?_) (by lia) (fun i j hi hj hij => hne i j (by lia) (by lia) hij) fun p G U => ?_
    · refine ex2 (hT.at (show i < qs.length by lia)) fun v1 q1 hz379 => an3 hz379 fun a1 a2 a3 => ?_
      clear hz379
      refine ex2 (hT.at (show j < qs.length by lia)) fun v2 q2 hz378 => an3 hz378 fun b1 b2 b3 => ?_
      clear hz378
      unfold kas_ask
      rw [List.getD_eq_getElem?_getD, List.getD_eq_getElem?_getD, a1, b1]
      refine lt_tup (s := { s with heap := h' }) Nn a3 b3 ?_
      rw [List.getD_eq_getElem?_getD, List.getD_eq_getElem?_getD, a2, b2] at hC
      exact hC
    · refine KasFin.intro F' N' (g := fun o => (D, o) :: news) ?_ fun h₂ c F₂ N₂ => ?_
      · exact .head (fun p hp => Nat.ne_of_lt (hD p hp))
      · have hp : p.size = vs.length := G.size
        refine h D c h₂ _ (p.toList.map fun i => qs.getD i 0) F₂ N₂ ?_ (by rw [List.length_map, Array.length_toList]; lia) (fun i j hij hj => ?_) fun k hk => ?_
        · have key : ∀ (l : List Nat), (∀ i ∈ l, i < qs.length) → Els (TupAt news) (l.map fun i => vs.getD i Value.none) (l.map fun i => qs.getD i 0) := by
            intro l
            induction l with
            | nil => intro _; trivial
            | cons i l ih =>
              intro hl'
              refine ex2 (hT.at (hl' i (.head _))) fun v1 q1 hz377 => an3 hz377 fun a1 a2 a3 => ?_
              clear hz377
              refine ⟨?_, ih fun j hj => hl' j (.tail _ hj)⟩
              dsimp only
              rw [List.getD_eq_getElem?_getD, List.getD_eq_getElem?_getD, a1, a2]
              exact a3
          refine key _ fun i hi => ?_
          obtain ⟨j, hj, e⟩ := List.mem_iff_getElem.mp hi
          have hj' : j < vs.length := by rw [Array.length_toList] at hj; lia
          have := G.lt j hj'
          rw [Array.getD_eq_getD_getElem?, Array.getElem?_eq_getElem (by lia)] at this
          rw [Array.getElem_toList] at e
          rw [← e]
          simpa [hlen] using this
        · rw [List.length_map, Array.length_toList, hp] at hj
          have := U i j hij hj
          rw [Array.getD_eq_getD_getElem?, Array.getD_eq_getD_getElem?, Array.getElem?_eq_getElem (by lia), Array.getElem?_eq_getElem (by lia)] at this
          rw [List.getD_eq_getElem?_getD, List.getD_eq_getElem?_getD, List.getElem?_map, List.getElem?_map, Array.getElem?_toList, Array.getElem?_toList, Array.getElem?_eq_getElem (by lia), Array.getElem?_eq_getElem (by lia)]
          exact this
        · refine ex1 (List.mem_map.mp hk) fun i hz375 => an2 hz375 fun hi he376 => ?_
          clear hz375
          subst he376
          obtain ⟨j, hj, e⟩ := List.mem_iff_getElem.mp hi
          have hj' : j < vs.length := by rw [Array.length_toList] at hj; lia
          have := G.lt j hj'
          rw [Array.getD_eq_getD_getElem?, Array.getElem?_eq_getElem (by lia)] at this
          rw [Array.getElem_toList] at e
          rw [← e]
          simp only [Option.getD_some] at this
          rw [List.getD_eq_getElem?_getD, List.getElem?_eq_getElem (by lia)]
          exact List.getElem_mem _
end
end

-- LOC
section
local macro_rules | `(tactic| mul_fits) => `(tactic| exact mul_way)
local macro_rules | `(tactic| walk_at "subscriptTail") => `(tactic| ((with_reducible show wpAny _ _ (subscriptTail _ _ (Value.ref _) (Value.int _ _)) _ _ _); (with_reducible rename Fr _ _ _ _ => F'); (with_reducible rename Ways _ _ _ => W'); (refine Ways.item (Ways.keep W' F'.keep) (by first | with_reducible assumption | omega) (by first | with_reducible assumption | omega) ?_); (intro _)))
local macro_rules | `(tactic| walk_at "getMethod ref") => `(tactic| (k_here; k_dflt (refine' method_inst ?k1 ?k2 ?k3 ?k4 ?k5 ?k6 ?k7 ?_; (case k1 => k_asm); (case k2 => k_asm); (case k3 => k_inst); (case k4 => k_is); (case k5 => k_is); (case k6 => k_is); (case k7 => k_get); k_whole)))
local macro_rules | `(tactic| walk_at "eval Name") => `(tactic| (k_here; (with_reducible show wpAny _ _ (eval (Expr.Name _ _) (compEnvC _ _ _ _)) _ _ _); k_dflt (refine' lcf_cell ?N ?c ?m ?d ?_ ?a ?b; (case a => rfl); (case b => rfl); (case N => with_reducible assumption); (case c => rfl); (case m => k_mem); (case d => with_reducible assumption); k_whole)))
local macro_rules | `(tactic| walk_at "eval Name") => `(tactic| (k_here; (with_reducible show wpAny _ _ (eval (Expr.Name _ _) (envOfC _ _ _ _ _)) _ _ _); k_dflt (refine' ldCN ?N ?c ?m ?d ?_ ?a ?b; (case a => rfl); (case b => rfl); (case N => with_reducible assumption); (case c => rfl); (case m => k_mem); (case d => with_reducible assumption); k_whole)))
local macro_rules | `(tactic| k_ne) => `(tactic| (refine neN ?_; (try dsimp only); first | assumption | (refine Ne.symm ?_; assumption)))
local macro_rules | `(tactic| walk_at "look") => `(tactic| ((try dsimp only); repeat (first | with_reducible assumption | rfl | (refine if_ne (by decide) ?_))))
local macro_rules | `(tactic| walk_at "item") => `(tactic| ((walk_at "to item"); (all_goals (try exact default))))

section
open PySem PySem.W PyProof.Rows PySem.Calls
variable {w : World} {A : Around} {s : Shared} {E : Value → Shared → Prop}
/-- the ledger after a stream's read -/
theorem newsRead {h₀ h h' : Heap} {L dx : Addr} {own rest : List (Addr × Obj)} {o o' : Obj} (N : News h₀ L h (own ++ (dx, o) :: rest)) (h1 : ∀ p ∈ own, p.1 ≠ dx) (h2 : ∀ p ∈ rest, p.1 ≠ dx)
    (kk : ∀ c o, c ≠ dx → h.get? c = some o → h'.get? c = some o) (ho : h'.get? dx = some o') : News h₀ L h' (own ++ (dx, o') :: rest) := fun q hq => by
  have hm := N (dx, o) (List.mem_append_right _ (.head _))
  rcases List.mem_append.mp hq with hq | hq
  · exact ⟨kk _ _ (h1 q hq) (N q (List.mem_append_left _ hq)).1, (N q (List.mem_append_left _ hq)).2⟩
  · rcases List.mem_cons.mp hq with rfl | hq
    · exact ⟨ho, hm.2⟩
    · have z := N q (List.mem_append_right _ (.tail _ hq))
      exact ⟨kk _ _ (h2 q hq) z.1, z.2⟩
theorem newsMore {g h h' : Heap} {L a : Addr} {o : Obj} {m : Str → Option Value} {news : List (Addr × Obj)} (F : Fr g L h m) (N : News g L h' news) (ha : h'.get? a = some o) (hf : h.get? a = none) : News g L h' ((a, o) :: news) := fun p hp => by
  rcases List.mem_cons.mp hp with q | hp
  · subst q
    refine And.intro ha (And.intro (fun e => ?_) ?_)
    · refine ex3 F.ns fun oL _ _ hz312 => an2 hz312 fun hL _ => ?_
      clear hz312
      rw [show a = L from e, hL] at hf; cases hf
    · cases q : g.get? a with
      | none => rfl
      | some o' => have := F.keep a o' q; rw [hf] at this; cases this
  · exact N p hp
noncomputable def AllNe (y : Nat) : List (Addr × Obj) → Prop
  | [] => True
  | p :: r => @Ne Nat p.1 y ∧ AllNe y r
theorem allNe {g h : Heap} {L : Addr} {y : Addr} : ∀ {news : List (Addr × Obj)}, News g L h news → h.get? y = none → AllNe y news
  | [], _, _ => trivial
  | p :: r, N, f => ⟨fun q => (by have := (N p (.head _)).1; rw [show p.1 = y from q, f] at this; cases this), allNe (fun p hp => N p (.tail _ hp)) f⟩
theorem AllNe.mem {y : Nat} : ∀ {l : List (Addr × Obj)}, AllNe y l → ∀ p ∈ l, p.1 ≠ y
  | [], _, _, h => nomatch h
  | _ :: _, x, p, h => by
    rcases List.mem_cons.mp h with rfl | h
    · exact x.1
    · exact AllNe.mem x.2 p h
noncomputable def lowS (c i : Nat) : List Nat := (List.range i).map fun j => 256 * wy j * wy (c - j)
theorem lowS_sum (c : Nat) : ∀ i, (lowS c i).sum = upTo c i
  | 0 => rfl
  | i + 1 => by
    have := lowS_sum c i
    unfold lowS at this ⊢
    rw [List.range_succ, List.map_append, List.sum_append, this]
    simp [upTo, room]
theorem t_rank1 {k : Nat} {Q : Value → Shared → Prop} (X : Wd w s.heap) (c : Nat) (hA : Ar A (k + 60 + (c + 1))) (b : Array UInt8) (tb : Tok) (hz : b.size ≤ 1000) (x0 x1 : UInt8) (xi xr : List UInt8) (hb : b.toList = x0 :: x1 :: xi ++ xr) (h0 : x0.toNat = xi.length + 1) (kI kR : Nat) (hkI : xi.length = 2 * kI) (hkR : xr.length = 2 * kR) (hkc : kI + kR = c) (hkk : c ≤ 3) (l : Addr) (vs : List Value) (W : Ways s.heap l vs)
    (nI nR : Nat) (hnI : nI < wy kI) (hnR : nR < wy kR) (hxi : xi.map (fun c => c.toNat) = boxes kI nI) (hxr : xr.map (fun c => c.toNat) = boxes kR nR)
    (ih : ∀ (c' n' : Nat) (b : Array UInt8) (tb : Tok) (A : Around) (s : Shared) (E : Value → Shared → Prop) (Q : Value → Shared → Prop), c' ≤ c → n' < wy c' → b.toList.map (fun c => c.toNat) = boxes c' n' → Wd w s.heap → Ar A (k + 60 + c') → Ways s.heap l vs →
      (∀ s' tk, Keeps s s' → Q (.int (n' : Nat) tk) s') → wpN (model Pr w) A (call (.ref 664) [.bytes b tb, .ref l]) Q E s)
    (h : ∀ s' tk, Keeps s s' → Q (.int ((upTo c kI + (x1.toNat * wy kI + nI) * wy kR + nR : Nat) : Int) tk) s') :
    wpN (model Pr w) A (call (.ref 664) [.bytes b tb, .ref l]) Q E s := by
  refine callCellsN (k := k + 60 + c) [(Str.ofString "octets", .bytes b tb), (Str.ofString "ways", .ref l)] X hA fun L' h₁ tk₁ cells mean mg mb d u hA' F N Y K0 T => ?_
  k_cells Y
  try simp only [List.cons_append, List.nil_append] at N
  rename_i o1 o2 o3 d1 d2 d3'
  have d3 : o3.data = .cell (some (.ref l)) := d3'
  clear d3'
  have io : ∀ {M : Model} {P : Prop} (f : Value) (h : Heap), (f = .ref 396 ∧ (Kf w.params).In h) → ∃ k, (k = Keeper.frame ∨ k = Keeper.machine ∨ k = Keeper.boundFrame) ∧ Looks M h (keeperOf f) k := by
    intro M P f h e
    refine an2 e fun he311 X => ?_
    try clear e
    subst he311
    exact keeps_K (by k_is) _ X
  have c12 : @Ne Nat (L' + 1 + 1 + 1) (L' + 1 + 1) := by lia
  have c13 : @Ne Nat (L' + 1 + 1 + 1) (L' + 1) := by lia
  have c23 : @Ne Nat (L' + 1 + 1) (L' + 1) := by lia
  refine wpN_seq ?_
  walk_at "my steps"
  · exfalso
    rename _ = true => hx
    rw [hb] at hx; simp at hx
  try dsimp only
  refine wpN_execs_cons (wpN_Assign_Name (wpN_Call (P := fun f h => f = .ref 396 ∧ (Kf w.params).In h) (io (P := True)) ?_))
  walk_at "my steps"
  · trivial
  · exact K0.keeps (by assumption : Fr _ _ _ _).keep
  refine io_make (Wd.grow ⟨K0, (exi3 _ _ _ T)⟩ F.keep) (hA'.mono (by lia)) b tb hz fun x dx bx h₂ tk₂ t1 t2 t3 ex edx ebx fx fdx fbx n1 n2 n3 kk => ?_
  have F₂ := frGrow F kk
  replace n1 := neN n1
  replace n2 := neN n2
  replace n3 := neN n3
  have offd := AllNe.mem (allNe N fdx)
  have N₂ := newsMore F (newsMore F (newsMore F (newsGrow N kk) edx fdx) ex fx) ebx fbx
  clear F N
  walk_at "my steps"
  try try dsimp only
  rename Fr _ _ _ _ => F
  rename News _ _ _ _ => N
  refine wpN_execs_cons (wpN_Assign_Name (wpN_Call (P := fun f h => f = .ref 396 ∧ (Kf w.params).In h) (io (P := True)) ?_))
  walk_at "my steps"
  have hl0 : b.toList.drop 0 = x0 :: (x1 :: xi ++ xr) := by rw [hb]; rfl
  refine t_bytes1 (k := k + 30 + c) (p := 0) X F.keep (hA'.mono (by lia)) (Stream.ofNews N (by k_mem) (by k_mem) (by k_mem) n1 n2 n3) hz hl0 (by rw [h0]; simp) fun h₃ tk₃ r tr p₁ hr hd S' k₃ hp₁ => ?_
  have hr' : r.toList = x1 :: xi := by rw [hr, h0]; simp
  have hd' : b.toList.drop p₁ = xr := by rw [hd, h0]; simp
  have hrz : r.size ≤ 1000 := by
    rw [← Array.length_toList, hr']
    have := congrArg List.length hb
    simp at this ⊢; lia
  refine ex3 S'.hdx fun u1 u2 u3 edx₃ => ?_
  have F₃ := frBut F S'.fdx (N _ (by k_mem : (dx, streamD w bx 0 t1 t2 t3) ∈ _)).2.1 k₃
  have N₃ := newsRead (own := [_, _]) N (List.forall_mem_cons.mpr ⟨(by first | assumption | exact Ne.symm (by assumption)), List.forall_mem_cons.mpr ⟨(by first | assumption | exact Ne.symm (by assumption)), List.forall_mem_nil _⟩⟩) offd k₃ edx₃
  simp only [List.cons_append, List.nil_append] at N₃
  clear F N
  walk_at "my steps"
  · trivial
  · exact K0.keeps (by assumption : Fr _ _ _ _).keep
  rename Fr _ _ _ _ => F
  rename News _ _ _ _ => N
  refine io_make (Wd.grow ⟨K0, (exi3 _ _ _ T)⟩ F.keep) (hA'.mono (by lia)) r _ hrz fun y dy yb h₄ tk₄ v1 v2 v3 ey edy eyb fy fdy fyb m1 m2 m3 k₄ => ?_
  have F₄ := frGrow F k₄
  replace m1 := neN m1
  replace m2 := neN m2
  replace m3 := neN m3
  have offy := AllNe.mem (allNe N fdy)
  have e1 : dx ≠ y := AllNe.mem (allNe N fy) (dx, streamD w bx p₁ u1 u2 u3) (by k_mem)
  have e2 : dx ≠ dy := offy (dx, streamD w bx p₁ u1 u2 u3) (by k_mem)
  have e3 : dx ≠ yb := AllNe.mem (allNe N fyb) (dx, streamD w bx p₁ u1 u2 u3) (by k_mem)
  have N₄ := newsMore F (newsMore F (newsMore F (newsGrow N k₄) edy fdy) ey fy) eyb fyb
  clear F N
  walk_at "my steps"
  try dsimp only
  rename Fr _ _ _ _ => F
  rename News _ _ _ _ => N
  refine wpN_seq ?_
  walk_at "my steps"
  refine t_uint1 (k := k + 35 + c) (p := 0) X F.keep (hA'.mono (by lia)) (Stream.ofNews N (by k_mem) (by k_mem) (by k_mem) m1 m2 m3) hrz (by rw [hr']; rfl) fun h₅ tk₅ t₅ p₂ hd₂ S₅ k₅ hp₂ => ?_
  refine ex3 S₅.hdx fun z1 z2 z3 edy₅ => ?_
  have F₅ := frBut F S₅.fdx (N _ (by k_mem : (dy, streamD w yb 0 v1 v2 v3) ∈ _)).2.1 k₅
  have N₅ := newsRead (own := [_, _]) N (List.forall_mem_cons.mpr ⟨(by first | assumption | exact Ne.symm (by assumption)), List.forall_mem_cons.mpr ⟨(by first | assumption | exact Ne.symm (by assumption)), List.forall_mem_nil _⟩⟩) offy k₅ edy₅
  simp only [List.cons_append, List.nil_append] at N₅
  clear F N
  walk_at "my steps"
  try dsimp only
  rename Fr _ _ _ _ => F
  rename News _ _ _ _ => N
  refine wpN_seq ?_
  walk_at "my steps"
  refine t_readN (k := k + 40 + c) (.inr ⟨rfl, rfl, rfl⟩) X F.keep (hA'.mono (by lia)) (Stream.ofNews N (by k_mem) (by k_mem) (by k_mem) m1 m2 m3) ⟨by decide, by decide⟩ hp₂ hrz fun h₆ tk₆ ri ti p₃ hri hp₃ hd₃ S₆ k₆ => ?_
  have hri' : ri.toList = xi := by rw [hri, if_pos (by decide), hd₂]
  refine ex3 S₆.hdx fun z4 z5 z6 edy₆ => ?_
  have F₆ := frBut F S₆.fdx (N _ (by k_mem : (dy, streamD w yb p₂ z1 z2 z3) ∈ _)).2.1 k₆
  have N₆ := newsRead (own := [_, _]) N (List.forall_mem_cons.mpr ⟨(by first | assumption | exact Ne.symm (by assumption)), List.forall_mem_cons.mpr ⟨(by first | assumption | exact Ne.symm (by assumption)), List.forall_mem_nil _⟩⟩) offy k₆ edy₆
  simp only [List.cons_append, List.nil_append] at N₆
  clear F N
  walk_at "my steps"
  try dsimp only
  rename Fr _ _ _ _ => F
  rename News _ _ _ _ => N
  refine wpN_seq ?_
  walk_at "my steps"
  refine t_readN (k := k + 40 + c) (.inr ⟨rfl, rfl, rfl⟩) X F.keep (hA'.mono (by lia)) (Stream.ofNews N (by k_mem) (by k_mem) (by k_mem) n1 n2 n3) ⟨by decide, by decide⟩ hp₁ hz fun h₇ tk₇ rr trr p₄ hrr hp₄ hd₄ S₇ k₇ => ?_
  have hrr' : rr.toList = xr := by rw [hrr, if_pos (by decide), hd']
  refine ex3 S₇.hdx fun z7 z8 z9 edx₇ => ?_
  have F₇ := frBut F S₇.fdx (N _ (by k_mem : (dx, streamD w bx p₁ u1 u2 u3) ∈ _)).2.1 k₇
  have N₇ := newsRead (own := [_, _, _, _, _]) N (List.forall_mem_cons.mpr ⟨(by first | assumption | exact Ne.symm (by assumption)), List.forall_mem_cons.mpr ⟨(by first | assumption | exact Ne.symm (by assumption)), List.forall_mem_cons.mpr ⟨(by first | assumption | exact Ne.symm (by assumption)), List.forall_mem_cons.mpr ⟨(by first | assumption | exact Ne.symm (by assumption)), List.forall_mem_cons.mpr ⟨(by first | assumption | exact Ne.symm (by assumption)), List.forall_mem_nil _⟩⟩⟩⟩⟩) offd k₇ edx₇
  simp only [List.cons_append, List.nil_append] at N₇
  clear F N
  walk_at "my steps"
  try dsimp only
  rename Fr _ _ _ _ => F
  rename News _ _ _ _ => N
  replace N : News s.heap L' _ [(L' + 1 + 1 + 1, o1), (L' + 1 + 1, o2), (L' + 1, o3)] := fun p hp => N p (.tail _ (.tail _ (.tail _ (.tail _ (.tail _ (.tail _ hp))))))
  clear offd offy e1 e2 e3 n1 n2 n3 m1 m2 m3
  have hsi : ri.size = xi.length := by rw [← Array.length_toList, hri']
  have hsr : rr.size = xr.length := by rw [← Array.length_toList, hrr']
  have hbl := congrArg List.length hb
  simp only [List.length_append, List.length_cons, Array.length_toList] at hbl
  have hiz : ri.size ≤ 1000 := by lia
  have hrrz : rr.size ≤ 1000 := by lia
  have hriF := hri'
  have hrrF := hrr'
  clear hri hri' hrr hrr' hd hd' hd₂ hd₃ hd₄ hr hr' S' S₅ S₆ S₇ k₃ k₄ k₅ k₆ k₇ kk ex edx ebx fx fdx fbx ey edy eyb fy fdy fyb edx₃ edy₅ edy₆ edx₇
  have eW : (↑ri.size / 2 : Int) = ((kI : Nat) : Int) := by lia
  have eB : (↑rr.size / 2 : Int) = ((kR : Nat) : Int) := by lia
  refine wpN_seq ?_
  walk_at "my steps"
  try dsimp only
  rename (Obj.data _ = Data.cell (some (Value.int _ _))) => dW
  rw [eW] at dW
  refine wpN_seq ?_
  walk_at "my steps"
  try dsimp only
  rename (Obj.data _ = Data.cell (some (Value.int (↑rr.size / 2) _))) => dB
  rw [eB] at dB
  clear eW eB hsi hsr hbl hiz hrrz hkI hkR
  have lI : kI ≤ c := hkc ▸ Nat.le_add_right kI kR
  have lR : kR ≤ c := hkc ▸ Nat.le_add_left kR kI
  have i0 : (0 : Int) ≤ (kI : Int) := Int.natCast_nonneg _
  have r0 : (0 : Int) ≤ (kR : Int) := Int.natCast_nonneg _
  have i4 : (kI : Int) ≤ 4 := Int.ofNat_le.mpr (Nat.le_trans lI (Nat.le_succ_of_le hkk))
  have r4 : (kR : Int) ≤ 4 := Int.ofNat_le.mpr (Nat.le_trans lR (Nat.le_succ_of_le hkk))
  refine wpN_seq ?_
  walk_at "my steps"
  refine compEU (by with_unfolding_all rfl) (by decide) (by rfl) (by decide) (by rfl) ?_
  walk_at "my steps"
  rename IsRange _ _ _ _ _ _ _ _ => hrg
  rename Fr _ _ _ _ => F
  rename News _ _ _ _ => N
  refine src_range (n := kI) rfl F N hrg (small_range (by lia) (by lia)) (size_range (by lia)) (by lia) fun h₈ it S => (exi7 _ _ _ _ _ _ _ ⟨S, ?_⟩)
  refine rest_uni (fun i ys => IntsAre ys (nats (lowS (kI + kR) i))) trivial .nil ?_ ?_
  · intro i v ys I oI C oC D m₂ h₉ tk₉ E' hin hz59
    refine ex1 hz59 fun tv he310 => ?_
    try clear hz59
    subst he310
    intro hJ hC hx F₂ N₂
    rw [show (0 : Int) + (i : Int) * 1 = (i : Int) by rw [Int.zero_add, Int.mul_one]] at hx
    have x0 : (0 : Int) ≤ (i : Int) := Int.natCast_nonneg _
    have x4 : (i : Int) ≤ 4 := Int.le_trans (Int.ofNat_le.mpr (Nat.le_of_lt hin)) i4
    have ed : (kI : Int) + (kR : Int) - (i : Int) = ((kI + kR - i : Nat) : Int) := by rw [Int.ofNat_sub (Nat.le_trans (Nat.le_of_lt hin) (Nat.le_add_right kI kR)), Int.natCast_add]
    have y0 : (0 : Int) ≤ (kI : Int) + (kR : Int) - (i : Int) := by rw [ed]; exact Int.natCast_nonneg _
    have y4 : (kI : Int) + (kR : Int) - (i : Int) ≤ 4 := by rw [ed]; exact Int.ofNat_le.mpr (Nat.le_trans (Nat.sub_le _ _) (by rw [hkc]; exact Nat.le_succ_of_le hkk))
    walk_at "my steps"
    rename Fr _ _ _ _ => Fz
    rename News _ _ _ _ => Nz
    refine (EltEnd.go Fz Nz (fun _ hp => hp) ?_)
    have e8 : ((kI : Int) + (kR : Int) - (i : Int)).toNat = kI + kR - i := by rw [ed]; rfl
    have e9 : nats (lowS (kI + kR) (i + 1)) = nats (lowS (kI + kR) i) ++ [(256 * (wy (i : Int).toNat : Int) * (wy ((kI : Int) + (kR : Int) - (i : Int)).toNat : Int))] := by
      rw [e8]; unfold lowS nats
      rw [List.range_succ]; simp
    rw [e9]
    exact .append hJ (.cons _ _ .nil)
  · intro ys hJ D h₉ tk₉ F₂ N₂ o1
    walk_at "my steps"
    refine wpN_execs_cons (wpN_Return (wpN_BinOp (wpN_BinOp (wpN_of_any ?_))))
    walk_at "my steps"
    refine wpN_BinOp (wpN_BinOp (wpN_of_any ?_))
    walk_at "my steps"
    rename Fr _ _ _ _ => F
    rename News _ _ _ _ => N
    have rk : ∀ {M : Model} {P : Prop} (f : Value) (h : Heap), (f = .ref 664 ∧ (Kf w.params).In h) → ∃ k, (k = Keeper.frame ∨ k = Keeper.machine ∨ k = Keeper.boundFrame) ∧ Looks M h (keeperOf f) k := by
      intro M P f h e
      refine an2 e fun he309 X => ?_
      try clear e
      subst he309
      exact keeps_K (by k_is) _ X
    refine wpN_Call (P := fun f h => f = .ref 664 ∧ (Kf w.params).In h) (rk (P := True)) ?_
    walk_at "my steps"
    · trivial
    · exact K0.keeps (by assumption : Fr _ _ _ _).keep
    rename Ways _ _ _ => W
    refine ih kI nI ri ti _ _ _ _ lI hnI (by rw [hriF]; exact hxi) (Wd.grow ⟨K0, (exi3 _ _ _ T)⟩ F.keep) (hA'.mono (by lia)) (W.keep F.keep) fun s₂ tkr hs => ?_
    refine ex2 hs fun hh₂ tk₂' hz307 => an2 hz307 fun he308 kk₂ => ?_
    clear hz307
    try clear hs
    subst he308
    have F₃ := frGrow F kk₂
    have N₃ := newsGrow N kk₂
    clear F N
    walk_at "my steps"
    refine wpN_of_any ?_
    walk_at "my steps"
    rename Fr _ _ _ _ => F
    rename News _ _ _ _ => N
    refine wpN_Call (P := fun f h => f = .ref 664 ∧ (Kf w.params).In h) (rk (P := True)) ?_
    walk_at "my steps"
    · trivial
    · exact K0.keeps (by assumption : Fr _ _ _ _).keep
    rename Ways _ _ _ => W
    refine ih kR nR rr trr _ _ _ _ lR hnR (by rw [hrrF]; exact hxr) (Wd.grow ⟨K0, (exi3 _ _ _ T)⟩ F.keep) (hA'.mono (by lia)) (W.keep F.keep) fun s₃ tkr₃ hs => ?_
    refine ex2 hs fun hh₃ tk₃' hz305 => an2 hz305 fun he306 kk₃ => ?_
    clear hz305
    try clear hs
    subst he306
    have F₅ := frGrow F kk₃
    have N₅ := newsGrow N kk₃
    clear F N
    walk_at "my steps"
    try dsimp only
    have es : (nats (lowS (kI + kR) kI)).sum = ((upTo c kI : Nat) : Int) := by
      rw [← hkc, ← lowS_sum]
      unfold nats
      induction lowS (kI + kR) kI with
      | nil => rfl
      | cons a r ihr => simp only [List.map_cons, List.sum_cons, ihr]; push_cast; rfl
    have e1 : (↑kI : Int).toNat = kI := Int.toNat_natCast _
    have e2 : (↑kR : Int).toNat = kR := Int.toNat_natCast _
    have ee : ((nats (lowS (kI + kR) kI)).sum + (↑x1.toNat * ↑(wy (↑kI : Int).toNat) + ↑nI) * ↑(wy (↑kR : Int).toNat) + ↑nR : Int) = ((upTo c kI + (x1.toNat * wy kI + nI) * wy kR + nR : Nat) : Int) := by
      rw [es, e1, e2]; push_cast; rfl
    rw [ee]
    exact h _ _ (keepsOf F₅ _)
theorem t_rank0 {k : Nat} {Q : Value → Shared → Prop} (X : Wd w s.heap) (hA : Ar A (k + 1)) (b : Array UInt8) (tb : Tok) (hb : b.toList = []) (l : Addr)
    (h : ∀ s' tk, Keeps s s' → Q (.int 0 tk) s') :
    wpN (model Pr w) A (call (.ref 664) [.bytes b tb, .ref l]) Q E s := by
  refine callCellsN (k := k) [(Str.ofString "octets", .bytes b tb), (Str.ofString "ways", .ref l)] X hA fun L' h₁ tk₁ cells mean mg mb d u hA' F N Y K0 T => ?_
  k_cells Y
  refine wpN_seq ?_
  walk_at "my steps"
  · try dsimp only
    exact h _ _ (keepsOf F _)
  · exfalso
    rename _ = false => hx
    rw [hb] at hx; simp at hx
theorem t_rank (c : Nat) : ∀ (n : Nat) (b : Array UInt8) (tb : Tok) {k : Nat} (A : Around) (s : Shared) (E : Value → Shared → Prop) (Q : Value → Shared → Prop) (l : Addr) (vs : List Value), c ≤ 4 → n < wy c → b.toList.map (fun c => c.toNat) = boxes c n → Wd w s.heap → Ar A (k + 60 + c) → Ways s.heap l vs →
      (∀ s' tk, Keeps s s' → Q (.int (n : Nat) tk) s') → wpN (model Pr w) A (call (.ref 664) [.bytes b tb, .ref l]) Q E s := by
  induction c using Nat.strongRecOn with
  | ind c ih =>
    intro n b tb k A s E Q l vs hc hn hbx X hA W h
    cases c with
    | zero =>
      have hn0 : n = 0 := by simp only [wy] at hn; lia
      subst hn0
      exact t_rank0 (k := k + 59) X (hA.mono (by lia)) b tb (by simpa [boxes_zero] using hbx) l h
    | succ c =>
      refine an3 (pick0 (c := c) (n := n) (by lia) hn) fun p1 p2 p3 => ?_
      have hlen := boxes_len (c + 1) n
      rw [boxes_succ] at hbx
      have l1 := boxes_len (pick c c 0 n).1 ((pick c c 0 n).2 / wy (c - (pick c c 0 n).1) % wy (pick c c 0 n).1)
      have l2 := boxes_len (c - (pick c c 0 n).1) ((pick c c 0 n).2 % wy (c - (pick c c 0 n).1))
      generalize (pick c c 0 n).1 = q at *
      generalize (pick c c 0 n).2 = v at *
      have w1 := wy_pos (k := q) (by lia)
      have w2 := wy_pos (k := c - q) (by lia)
      -- the octets apart
      refine ex2 (List.map_eq_cons_iff.mp hbx) fun x0 r0 hz304 => an3 hz304 fun e0 f0 g0 => ?_
      clear hz304
      refine ex2 (List.map_eq_cons_iff.mp g0) fun x1 r1 hz303 => an3 hz303 fun e1 f1 g1 => ?_
      clear hz303
      refine ex2 (List.map_eq_append_iff.mp g1) fun xi xr hz302 => an3 hz302 fun e2 f2 g2 => ?_
      clear hz302
      have m1 := congrArg List.length f2
      have m2 := congrArg List.length g2
      rw [List.length_map, l1] at m1
      rw [List.length_map, l2] at m2
      have hz : b.size ≤ 1000 := by
        rw [← Array.length_toList, e0, e1, e2]; simp; lia
      refine t_rank1 (k := k) X c hA b tb hz x0 x1 xi xr (by rw [e0, e1, e2]; rfl) (by lia) q (c - q) m1 m2 (by lia) (by lia) l vs W _ _ (Nat.mod_lt _ w1) (Nat.mod_lt _ w2) f2 g2
        (fun c' n' b tb A s E Q hc' hn' hb' X hA W h => ih c' (by lia) n' b tb (k := k) A s E Q l vs (by lia) hn' hb' X hA W h) fun s' tk hs => ?_
      have en : upTo c q + (x1.toNat * wy q + v / wy (c - q) % wy q) * wy (c - q) + v % wy (c - q) = n := by
        rw [f1, p3]
        have d1 := Nat.div_add_mod v (wy (c - q))
        have d2 := Nat.div_add_mod (v / wy (c - q)) (wy q)
        rw [Nat.div_div_eq_div_mul, Nat.mul_comm (wy (c - q)) (wy q)] at d2
        rw [Nat.mul_comm (v / (wy q * wy (c - q))) (wy q), d2, Nat.mul_comm (v / wy (c - q)) (wy (c - q))]
        lia
      rw [en]
      exact h s' tk hs
end

section
open PySem PySem.W PyProof.Rows PySem.Calls
variable {w : World} {A : Around} {s : Shared} {E : Value → Shared → Prop}
/-- the figures of a writing in base 16 -/
noncomputable def figs (b : Array UInt8) : List Nat := b.toList.flatMap fun c => [c.toNat / 16, c.toNat % 16]
noncomputable def upD (d : Nat) : Nat := if d < 10 then 48 + d else 55 + d
theorem upD_byte {d : Nat} (h : d < 16) : (Builtin.Bytes.toUpper (Nat.toUInt8 (Builtin.Bytes.hexDigit d))).toNat = upD d := by
  have : ∀ d : Fin 16, (Builtin.Bytes.toUpper (Nat.toUInt8 (Builtin.Bytes.hexDigit d.val))).toNat = upD d.val := by decide +kernel
  exact this ⟨d, h⟩
theorem figs_lt (b : Array UInt8) : ∀ d ∈ figs b, d < 16 := by
  intro d hd
  refine ex1 (List.mem_flatMap.mp hd) fun c hz282 => an2 hz282 fun _ h => ?_
  clear hz282
  have := c.toNat_lt
  simp only [List.mem_cons, List.not_mem_nil, or_false] at h
  rcases h with rfl | rfl
  · exact Nat.div_lt_of_lt_mul this
  · exact Nat.mod_lt _ (by decide)
theorem hexB_list (b : Array UInt8) : (hexB b).toList.map (fun c => c.toNat) = (figs b).map upD := by
  unfold hexB figs
  rw [Array.toList_map, hexCps_list]
  simp only [List.map_map]
  induction b.toList with
  | nil => rfl
  | cons c l ih =>
    have := c.toNat_lt
    simp only [List.flatMap_cons, List.map_append, ih]
    congr 1
    simp only [List.map_cons, List.map_nil, Function.comp]
    rw [upD_byte (Nat.div_lt_of_lt_mul this), upD_byte (Nat.mod_lt _ (by decide))]
theorem figs_len (b : Array UInt8) : (figs b).length = 2 * b.size := by
  unfold figs; rw [← Array.length_toList]
  induction b.toList with
  | nil => rfl
  | cons c l ih => rw [List.flatMap_cons, List.length_append, ih]; simp; lia
theorem figs_at {b : Array UInt8} {i : Nat} {c : UInt8} (h : b.toList[i]? = some c) : (figs b)[2 * i]? = some (c.toNat / 16) ∧ (figs b)[2 * i + 1]? = some (c.toNat % 16) := by
  unfold figs
  generalize b.toList = l at h
  induction l generalizing i with
  | nil => simp at h
  | cons a l ih =>
    cases i with
    | zero => simp at h; subst h; exact ⟨rfl, rfl⟩
    | succ i =>
      have := ih (i := i) (by simpa using h)
      rw [List.flatMap_cons]
      exact ⟨this.1, this.2⟩
theorem hexB_size (b : Array UInt8) : (hexB b).size = 2 * b.size := by
  have := congrArg List.length (hexB_list b)
  simpa [figs_len] using this
noncomputable def alf16 : List Int := KBw.bInts #[48, 49, 50, 51, 52, 53, 54, 55, 56, 57, 65, 66, 67, 68, 69, 70]
theorem alf16_at {d : Nat} (h : d < 16) : alf16.idxOf (upD d : Int) = d ∧ (upD d : Int) ∈ alf16 := by
  have : ∀ d : Fin 16, alf16.idxOf (upD d.val : Int) = d.val ∧ (upD d.val : Int) ∈ alf16 := by decide +kernel
  exact this ⟨d, h⟩
theorem byteArr_nats (l : List Nat) : byteArr (nats l) = (l.map fun x => x.toUInt8).toArray := by
  unfold byteArr nats; rw [List.map_map]; rfl
theorem octB_list {n : Nat} (hn : n < most) : (octB n).toList.map (fun c => c.toNat) = octs n := by
  unfold octB
  rw [byteArr_nats]
  simp only [List.map_map]
  have : ∀ l : List Nat, (∀ x ∈ l, x < 256) → l.map ((fun c : UInt8 => c.toNat) ∘ fun x => x.toUInt8) = l := by
    intro l
    induction l with
    | nil => intro _; rfl
    | cons a l ih =>
      intro h
      rw [List.map_cons, ih fun x hx => h x (.tail _ hx)]
      congr 1
      have := h a (.head _)
      simp [Function.comp]; lia
  exact this _ (octs_lt hn)
theorem octB_size {n : Nat} (hn : n < most) : (octB n).size ≤ 9 := by
  have h1 := congrArg List.length (octB_list hn)
  have h2 := octs_len hn
  simp only [List.length_map, Array.length_toList] at h1
  lia
theorem take_base {c : Nat} (hc : c ≤ 4) : (([1, 256, 131072, 83886080, 60129542144] : List Int).take c).sum = ((base c : Nat) : Int) := by
  have : c = 0 ∨ c = 1 ∨ c = 2 ∨ c = 3 ∨ c = 4 := by lia
  rcases this with rfl | rfl | rfl | rfl | rfl <;> rfl
theorem newsNil {g h : Heap} {L : Addr} {news : List (Addr × Obj)} (_ : News g L h news) : News g L h [] := fun p hp => nomatch hp
theorem t_number0 {k : Nat} {Q : Value → Shared → Prop} (X : Wd w s.heap) (hA : Ar A (k + 80)) (O Wb : Array UInt8) (fg os : List Nat) (hfg : Wb.toList.map (fun c => c.toNat) = fg.map upD) (hfl : fg.length = 2 * O.size) (hfd : ∀ d ∈ fg, d < 16)
    (hfo : ∀ i c, O.toList[i]? = some c → fg[2 * i]? = some (c.toNat / 16) ∧ fg[2 * i + 1]? = some (c.toNat % 16)) (hO9 : O.size ≤ 9) (hos : O.toList.map (fun c => c.toNat) = os) (hosl : ∀ x ∈ os, x < 256) (hOb : byteArr (nats os) = O)
    (c r : Nat) (hc : c ≤ 4) (hr : r < wy c) (hbx : os = 2 * c :: boxes c r) (tb : Tok) (l : Addr) (vs : List Value) (W : Ways s.heap l vs)
    (h : ∀ s' tk, Keeps s s' → Q (.int ((base c + r : Nat) : Int) tk) s') :
    wpN (model Pr w) A (call (.ref 669) [.bytes Wb tb, .ref l]) Q E s := by
  have hWl : Wb.size = fg.length := by simpa using congrArg List.length hfg
  have hwz : Wb.size ≤ 1000 := by lia
  refine callCellsN (k := k + 79) [(Str.ofString "writing", .bytes Wb tb), (Str.ofString "ways", .ref l)] X hA fun L' h₁ tk₁ cells mean mg mb d u hA' F N Y K0 T => ?_
  k_cells Y
  try simp only [List.cons_append, List.nil_append] at N
  refine wpN_seq ?_
  walk_at "my steps"
  try dsimp only
  refine wpN_seq ?_
  walk_at "my steps"
  rename Fr _ _ _ _ => F
  rename News _ _ _ _ => N
  rename IntsAre _ _ => hi
  simp only [List.cons_append, List.nil_append] at N
  refine wpAny_Assign_Name ?_ (by with_unfolding_all rfl)
  refine compEU (by with_unfolding_all rfl) (by decide) (by rfl) (by decide) (by rfl) ?_
  walk_at "my steps"
  refine src_bytes rfl F N hwz fun h₂ it S => (exi7 _ _ _ _ _ _ _ ⟨S, ?_⟩)
  refine rest_uni (fun i ys => IntsAre ys (nats (fg.take i))) trivial (by simpa [nats] using IntsAre.nil) ?_ ?_
  · intro i v ys I oI C oC D m₂ h₃ tk₃ E' hin hz54
    refine ex2 hz54 fun c uc hz280 => an2 hz280 fun hc he281 => ?_
    clear hz280
    try clear hz54
    subst he281
    intro hJ hC hx F₂ N₂
    walk_at "my steps"
    rename Fr _ _ _ _ => Fz
    rename News _ _ _ _ => Nz
    have hat : (Wb.toList.map fun c => c.toNat)[i]? = some c.toNat := by rw [List.getElem?_map, Array.getElem?_toList, hc]; rfl
    rw [hfg, List.getElem?_map] at hat
    cases hd : fg[i]? with
    | none => rw [hd] at hat; cases hat
    | some d' =>
      rw [hd] at hat
      simp only [Option.map_some, Option.some.injEq] at hat
      have z := alf16_at (hfd d' (List.mem_of_getElem? hd))
      rw [hat] at z
      refine index_list_ints (ns := alf16) ⟨_, (Nz _ (.tail _ (.tail _ (.tail _ (.head _))))).1, rfl, _, rfl⟩ hi (by decide +kernel) z.2 (EltEnd.go Fz Nz (fun _ hp => hp) ?_)
      rw [take_succ hd]
      simp only [nats, List.map_append, List.map_cons, List.map_nil]
      rw [z.1]
      exact .append hJ (.cons _ _ .nil)
  · intro ys hJ D h₃ tk₃ F₂ N₂ o1
    rw [List.take_of_length_le (by lia)] at hJ
    walk_at "my steps"
    try dsimp only
    rename Fr _ _ _ _ => F
    rename News _ _ _ _ => N
    simp only [List.cons_append, List.nil_append] at N
    refine wpN_seq ?_
    walk_at "my steps"
    refine compEU (by with_unfolding_all rfl) (by decide) (by rfl) (by decide) (by rfl) ?_
    walk_at "my steps"
    have hyl : ys.length = 2 * O.size := by rw [hJ.length, nats, List.length_map, hfl]
    refine call_len_list (items := List.toArray ys) ⟨_, (N _ (.head _)).1, rfl, _, rfl⟩ (by rw [List.size_toArray]; lia) ?_
    rw [show (List.toArray ys).size = 2 * O.size by rw [List.size_toArray, hyl]]
    walk_at "my steps"
    rename IsRange _ _ _ _ _ _ _ _ => hrg
    rename Fr _ _ _ _ => F
    rename News _ _ _ _ => N
    have hr2 : Builtin.Range.rangeSize 0 ((2 * O.size : Nat) : Int) 2 = ((O.size : Nat) : Int) := by
      unfold Builtin.Range.rangeSize
      simp only [show ((2 : Int) > 0) from by decide, if_true]
      split <;> lia
    have hs2 : Builtin.Range.small 0 ((2 * O.size : Nat) : Int) 2 = true := by
      have : O.size = 0 ∨ O.size = 1 ∨ O.size = 2 ∨ O.size = 3 ∨ O.size = 4 ∨ O.size = 5 ∨ O.size = 6 ∨ O.size = 7 ∨ O.size = 8 ∨ O.size = 9 := by lia
      rcases this with e | e | e | e | e | e | e | e | e | e <;> rw [e] <;> decide
    refine src_range (n := O.size) rfl F N hrg hs2 hr2 (by lia) fun h₈ it S => (exi7 _ _ _ _ _ _ _ ⟨S, ?_⟩)
    clear hrg
    refine rest_uni (fun i zs => IntsAre zs (nats (os.take i))) trivial (by simpa [nats] using IntsAre.nil) ?_ ?_
    · intro i v zs I oI C oC D' m₂ h₉ tk₉ E' hin hz55
      refine ex1 hz55 fun tv he279 => ?_
      try clear hz55
      subst he279
      intro hJ' hC hx F₂ N₂
      walk_at "to item"
      refine item_anyK (ns := nats fg) ⟨_, (N₂ _ (by k_mem : (D, LCg.lst ys) ∈ _)).1, rfl, _, rfl⟩ hJ (by lia) (by rw [nats, List.length_map]; lia) (by lia) fun t₁ => ?_
      walk_at "to item"
      refine item_anyK (ns := nats fg) ⟨_, (N₂ _ (by k_mem : (D, LCg.lst ys) ∈ _)).1, rfl, _, rfl⟩ hJ (by lia) (by rw [nats, List.length_map]; lia) (by lia) fun t₂ => ?_
      walk_at "my steps"
      rename Fr _ _ _ _ => Fz
      rename News _ _ _ _ => Nz
      refine (EltEnd.go Fz Nz (fun _ hp => hp) ?_)
      obtain ⟨c, hc⟩ : ∃ c, O.toList[i]? = some c := ⟨O.toList[i]'(by simpa using hin), by simp [hin]⟩
      have g1 := hfo i c hc
      have e7 : (0 + ↑i * 2 : Int).toNat = 2 * i := by rw [Int.zero_add, Int.mul_comm]; rfl
      have e8 : (0 + ↑i * 2 + 1 : Int).toNat = 2 * i + 1 := by rw [Int.zero_add, Int.mul_comm]; rfl
      have ho : os[i]? = some c.toNat := by rw [← hos, List.getElem?_map, hc]; rfl
      rw [take_succ ho]
      simp only [nats, List.map_append, List.map_cons, List.map_nil]
      rw [show (16 * (List.map (fun (x : Nat) => (x : Int)) fg).getD (0 + ↑i * 2 : Int).toNat 0 + (List.map (fun (x : Nat) => (x : Int)) fg).getD (0 + ↑i * 2 + 1 : Int).toNat 0 : Int) = ((c.toNat : Nat) : Int) from by
        rw [e7, e8]
        simp only [List.getD_eq_getElem?_getD, List.getElem?_map, g1.1, g1.2, Option.map_some, Option.getD_some]
        lia]
      exact .append hJ' (.cons _ _ .nil)
    · intro zs hJ' D' h₉ tk₉ F₂ N₂ o1
      have hol : os.length = O.size := by rw [← hos]; simp
      rw [List.take_of_length_le (by lia)] at hJ'
      walk_at "my steps"
      refine call_bytes_ints ⟨_, (N₂ _ (.head _)).1, rfl, _, rfl⟩ hJ' (byts_in hosl) (by rw [hJ'.length, nats, List.length_map, sizeLine_eq]; lia) rfl fun h₅ t₅ k₅ kk₅ => ?_
      have F₃ := frGrow F₂ kk₅
      have N₃ := newsGrow N₂ kk₅
      clear F₂ N₂
      rw [hOb]
      walk_at "my steps"
      try dsimp only
      rename Fr _ _ _ _ => F
      rename News _ _ _ _ => N
      replace N := newsNil N
      have io : ∀ {M : Model} {P : Prop} (f : Value) (h : Heap), (f = .ref 396 ∧ (Kf w.params).In h) → ∃ k, (k = Keeper.frame ∨ k = Keeper.machine ∨ k = Keeper.boundFrame) ∧ Looks M h (keeperOf f) k := by
        intro M P f h e
        refine an2 e fun he278 X => ?_
        try clear e
        subst he278
        exact keeps_K (by k_is) _ X
      refine wpN_execs_cons (wpN_Assign_Name (wpN_Call (P := fun f h => f = .ref 396 ∧ (Kf w.params).In h) (io (P := True)) ?_))
      walk_at "my steps"
      · trivial
      · exact K0.keeps (by assumption : Fr _ _ _ _).keep
      have hOz : O.size ≤ 1000 := by lia
      refine io_make (Wd.grow ⟨K0, (exi3 _ _ _ T)⟩ F.keep) (hA'.mono (by lia)) O _ hOz fun x dx bx h₂ tk₂ t1 t2 t3 ex edx ebx fx fdx fbx n1 n2 n3 kk => ?_
      have F₂ := frGrow F kk
      replace n1 := neN n1
      replace n2 := neN n2
      replace n3 := neN n3
      have offd := AllNe.mem (allNe N fdx)
      have N₂ := newsMore F (newsMore F (newsMore F (newsGrow N kk) edx fdx) ex fx) ebx fbx
      clear F N
      walk_at "my steps"
      try dsimp only
      rename Fr _ _ _ _ => F
      rename News _ _ _ _ => N
      refine wpN_seq ?_
      walk_at "my steps"
      refine ex2 (List.map_eq_cons_iff.mp (hos.trans hbx)) fun x0 xr hz277 => an3 hz277 fun e0 f0 g0 => ?_
      clear hz277
      have hxl : xr.length = 2 * c := by
        have := congrArg List.length g0
        rw [List.length_map, boxes_len] at this
        exact this
      refine t_bytes1 (k := k + 30) (p := 0) X F.keep (hA'.mono (by lia)) (Stream.ofNews N (by k_mem) (by k_mem) (by k_mem) n1 n2 n3) hOz (by rw [e0]; rfl) (by lia) fun h₃ tk₃ rb tr p₁ hrb hd S' k₃ hp₁ => ?_
      have hrb' : rb.toList = xr := by rw [hrb, List.take_of_length_le (by lia)]
      have hd' : O.toList.drop p₁ = [] := by rw [hd, List.drop_eq_nil_of_le (by lia)]
      have hrs : rb.size = 2 * c := by rw [← Array.length_toList, hrb', hxl]
      have hrz : rb.size ≤ 1000 := by lia
      refine ex3 S'.hdx fun u1 u2 u3 edx₃ => ?_
      have F₃ := frBut F S'.fdx (N _ (by k_mem : (dx, streamD w bx 0 t1 t2 t3) ∈ _)).2.1 k₃
      have N₃ := newsRead (own := [_, _]) N (List.forall_mem_cons.mpr ⟨(by first | assumption | exact Ne.symm (by assumption)), List.forall_mem_cons.mpr ⟨(by first | assumption | exact Ne.symm (by assumption)), List.forall_mem_nil _⟩⟩) offd k₃ edx₃
      simp only [List.cons_append, List.nil_append] at N₃
      clear F N
      walk_at "my steps"
      try dsimp only
      rename Fr _ _ _ _ => F
      rename News _ _ _ _ => N
      refine wpN_seq ?_
      walk_at "my steps"
      dsimp only [List.append_nil]
      refine t_readN (k := k + 40) (.inr ⟨rfl, rfl, rfl⟩) X F.keep (hA'.mono (by lia)) (Stream.ofNews N (by k_mem) (by k_mem) (by k_mem) n1 n2 n3) ⟨by decide, by decide⟩ hp₁ hOz fun h₇ tk₇ rr trr p₄ hrr hp₄ hd₄ S₇ k₇ => ?_
      have hrr' : rr = #[] := by
        have : rr.toList = [] := by rw [hrr, if_pos (by decide), hd']
        exact Array.toList_inj.mp this
      subst hrr'
      refine ex3 S₇.hdx fun z7 z8 z9 edx₇ => ?_
      have F₇ := frBut F S₇.fdx (N _ (by k_mem : (dx, streamD w bx p₁ u1 u2 u3) ∈ _)).2.1 k₇
      clear F N
      have N := newsNil (News.nil (h := h₇) (h₀ := s.heap) (L := L'))
      walk_at "my steps"
      try dsimp only
      rename Fr _ _ _ _ => F
      rename News _ _ _ _ => N
      refine wpN_execs_cons (wpN_Return (wpN_BinOp (wpN_of_any ?_)))
      walk_at "my steps"
      have eY : (↑rb.size / 2 : Int) = ((c : Nat) : Int) := by lia
      rw [eY]
      refine kmk_slice_ints (s := ⟨_, _, _, _, _⟩) (ms := [1, 256, 131072, 83886080, 60129542144].take c) (c := c) F N (W.keep F.keep).l (by constructor) (by constructor) W.i (kmk_upto W.i (y := (c : Int)) (by lia)) (by rw [List.length_take]; simp only [List.length_cons, List.length_nil]; lia)
        (fun D ws h₈ F₈ N₈ l1 hw _ _ => ?_) (by with_unfolding_all rfl) (fun _ => rfl) (by rw [List.size_toArray, W.i.length]; decide)
      clear F N
      walk_at "my steps"
      have rk : ∀ {M : Model} {P : Prop} (f : Value) (h : Heap), (f = .ref 664 ∧ (Kf w.params).In h) → ∃ k, (k = Keeper.frame ∨ k = Keeper.machine ∨ k = Keeper.boundFrame) ∧ Looks M h (keeperOf f) k := by
        intro M P f h e
        refine an2 e fun he276 X => ?_
        try clear e
        subst he276
        exact keeps_K (by k_is) _ X
      refine wpN_Call (P := fun f h => f = .ref 664 ∧ (Kf w.params).In h) (rk (P := True)) ?_
      walk_at "my steps"
      · trivial
      · exact K0.keeps (by assumption : Fr _ _ _ _).keep
      rename Fr _ _ _ _ => F
      refine t_rank c r rb tr (k := k + 10) _ _ _ _ l vs hc hr (by rw [hrb']; exact g0) (Wd.grow ⟨K0, (exi3 _ _ _ T)⟩ F.keep) (hA'.mono (by lia)) (W.keep F.keep) fun s₃ tkr hs => ?_
      refine ex2 hs fun hh tk₉' hz274 => an2 hz274 fun he275 kk₉ => ?_
      clear hz274
      try clear hs
      subst he275
      have F₉ := frGrow F kk₉
      walk_at "my steps"
      try dsimp only
      rw [take_base hc, ← Int.natCast_add]
      exact h _ _ (keepsOf F₉ _)
theorem t_number {k : Nat} {Q : Value → Shared → Prop} (X : Wd w s.heap) (hA : Ar A (k + 80)) (n : Nat) (hn : n < most) (tb : Tok) (l : Addr) (vs : List Value) (W : Ways s.heap l vs)
    (h : ∀ s' tk, Keeps s s' → Q (.int (n : Nat) tk) s') :
    wpN (model Pr w) A (call (.ref 669) [.bytes (hexB (octB n)) tb, .ref l]) Q E s := by
  refine an3 (shelf_spec hn) fun a1 a2 a3 => ?_
  refine t_number0 X hA (octB n) (hexB (octB n)) (figs (octB n)) (octs n) (hexB_list _) (figs_len _) (figs_lt _) (fun i c => figs_at) (octB_size hn) (octB_list hn) (octs_lt hn) rfl (shelf 4 0 n).1 (shelf 4 0 n).2 a1 a2 rfl tb l vs W ?_
  rw [← a3]; exact h
end

section
open PySem PySem.W PyProof.Rows PySem.Calls
variable {w : World} {A : Around} {s : Shared} {E : Value → Shared → Prop}
/-- the law's own text, read off the row -/
noncomputable def lawBody : List Stmt := match PySem.Challenge.pw_kt0007_01.main.body.drop 36 with
  | .FunctionDef _ _ body _ _ _ _ _ _ _ :: _ => body
  | _ => []
noncomputable def lawScope : Scope := match PySem.Challenge.pw_kt0007_01.main.body.drop 36 with
  | .FunctionDef _ _ _ _ _ _ scope _ _ _ :: _ => scope
  | _ => default
noncomputable abbrev lawEnv (L fa : Addr) (cd : Value) : Env := envOfC (Str.ofString "law") lawScope L fa cd
theorem tri_bounds (i : Nat) : 0 ≤ List.getD ([1, 97, 1234577] : List Int) i 0 ∧ List.getD ([1, 97, 1234577] : List Int) i 0 ≤ 1234577 := by
  match i with
  | 0 => decide
  | 1 => decide
  | 2 => decide
  | n + 3 => simp
local macro_rules | `(tactic| mul_fits) => `(tactic| exact IntMulOk.of_right (PySem.intBits_le_64 (by omega) (by omega)))
theorem nats_snoc {ys : List Value} {ns : List Nat} {v : Int} {r : Nat} {t : Tok} (h : IntsAre ys (nats ns)) (e : v = (r : Int)) : IntsAre (ys ++ [.int v t]) (nats (ns ++ [r])) := by
  subst e
  rw [show nats (ns ++ [r]) = nats ns ++ [(r : Int)] by simp [nats]]
  exact .append h (.cons _ _ .nil)
theorem modNat (x : Int) {m : Nat} (h : 0 < m) : ∃ r : Nat, x % (m : Int) = (r : Int) ∧ r < m := by
  have h1 := Int.emod_nonneg x (show (m : Int) ≠ 0 by lia)
  have h2 := Int.emod_lt_of_pos x (show (0 : Int) < m by lia)
  exact ⟨(x % m).toNat, by lia, by lia⟩
theorem snoc_lt {ns : List Nat} {r b : Nat} (h : ∀ n ∈ ns, n < b) (hr : r < b) : ∀ n ∈ ns ++ [r], n < b := fun n hn => by
  rcases List.mem_append.mp hn with hn | hn
  · exact h n hn
  · rw [List.mem_singleton.mp hn]; exact hr
theorem newsRm0 {g h : Heap} {L : Addr} {b : Addr × Obj} {r : List (Addr × Obj)} (N : News g L h (b :: r)) : News g L h r := fun p hp => N p (.tail _ hp)
theorem newsRm1 {g h : Heap} {L : Addr} {a b : Addr × Obj} {r : List (Addr × Obj)} (N : News g L h (a :: b :: r)) : News g L h (a :: r) := fun p hp => by
  rcases List.mem_cons.mp hp with rfl | hp
  · exact N _ (.head _)
  · exact N p (.tail _ (.tail _ hp))
theorem newsRm2 {g h : Heap} {L : Addr} {a c b : Addr × Obj} {r : List (Addr × Obj)} (N : News g L h (a :: c :: b :: r)) : News g L h (a :: c :: r) := fun p hp => by
  rcases List.mem_cons.mp hp with rfl | hp
  · exact N _ (.head _)
  · exact newsRm1 (newsRm0 N) p hp
theorem ne1 {a : Nat} : @Ne Nat (a + 1) a := Nat.succ_ne_self a
theorem ne2 {a : Nat} : @Ne Nat (a + 1 + 1) a := Nat.ne_of_gt (Nat.lt_succ_of_lt (Nat.lt_succ_self a))
theorem ne3 {a : Nat} : @Ne Nat (a + 1 + 1 + 1) a := Nat.ne_of_gt (Nat.lt_succ_of_lt (Nat.lt_succ_of_lt (Nat.lt_succ_self a)))
theorem ne4 {a : Nat} : @Ne Nat (a + 1 + 1 + 1 + 1) a := Nat.ne_of_gt (Nat.lt_succ_of_lt (Nat.lt_succ_of_lt (Nat.lt_succ_of_lt (Nat.lt_succ_self a))))
theorem segA {L fa : Addr} {cd : Value} {g : Heap} {m : Str → Option Value} {d u : Nat} {Q : Flow → Shared → Prop} (X : Wd w g) {k : Nat} (hA' : Ar ⟨none, d, some [lawEnv L fa cd], none, u⟩ (k + 100)) (F : Fr g L s.heap m)
    {o1 o2 o3 o4 o5 : Obj} (N : News g L s.heap [(L + 1 + 1 + 1 + 1 + 1, o5), (L + 1 + 1 + 1 + 1, o4), (L + 1 + 1 + 1, o3), (L + 1 + 1, o2), (L + 1, o1)]) (d1 : o1.data = .cell none) (d2 : o2.data = .cell none) (d3 : o3.data = .cell none) (d4 : o4.data = .cell none) (d5 : o5.data = .cell none)
    {sa : Addr} {sv : List Value} {sc : List Int} (hs : m (Str.ofString "script") = some (.ref sa)) (hl : g.IsList sa sv.toArray) (hi : IntsAre sv sc) (h63 : sc.length ≤ 63)
    (hq : ∀ h' tk, ∀ (aW aC aN : Addr) (wv cv nv : List Value) (kW kC kN : Nat) (cs : List Int) (ns : List Nat) (o1 o2 o3 o4 o5 : Obj), Fr g L h' m → News g L h' [(aN, PySem.W.listOf nv.toArray kN), (aC, PySem.W.listOf cv.toArray kC), (aW, PySem.W.listOf wv.toArray kW), (L + 1 + 1 + 1 + 1 + 1, o5), (L + 1 + 1 + 1 + 1, o4), (L + 1 + 1 + 1, o3), (L + 1 + 1, o2), (L + 1, o1)] → (o1.data = .cell (some (.ref aW))) → (o2.data = .cell (some (.ref aC))) → (o3.data = .cell (some (.ref aN))) → (o4.data = .cell none) → (o5.data = .cell none) → (IntsAre wv [1, 256, 131072, 83886080, 60129542144]) → (IntsAre cv cs) → (cs.length = 8) → (IntsAre nv (nats ns)) → (ns.length = 8) → (∀ n ∈ ns, n < most) → Q .next { s with heap := h', toks := tk }) :
    wpAny (model Pr w) ⟨none, d, some [lawEnv L fa cd], none, u⟩ (execs (lawBody.take 3) (lawEnv L fa cd)) Q (fun _ _ => False) s := by
  obtain ⟨K0, mean, mg, mb, T⟩ := X
  refine execs_cast (l' := [_, _, _]) rfl ?_
  have c10 : @Ne Nat (L + 1 + 1) (L + 1) := ne1
  have c20 : @Ne Nat (L + 1 + 1 + 1) (L + 1) := ne2
  have c21 : @Ne Nat (L + 1 + 1 + 1) (L + 1 + 1) := ne1
  have c30 : @Ne Nat (L + 1 + 1 + 1 + 1) (L + 1) := ne3
  have c31 : @Ne Nat (L + 1 + 1 + 1 + 1) (L + 1 + 1) := ne2
  have c32 : @Ne Nat (L + 1 + 1 + 1 + 1) (L + 1 + 1 + 1) := ne1
  have c40 : @Ne Nat (L + 1 + 1 + 1 + 1 + 1) (L + 1) := ne4
  have c41 : @Ne Nat (L + 1 + 1 + 1 + 1 + 1) (L + 1 + 1) := ne3
  have c42 : @Ne Nat (L + 1 + 1 + 1 + 1 + 1) (L + 1 + 1 + 1) := ne2
  have c43 : @Ne Nat (L + 1 + 1 + 1 + 1 + 1) (L + 1 + 1 + 1 + 1) := ne1
  walk_at "my steps"
  all_goals (try exact default)
  rename Fr _ _ _ _ => F
  rename News _ _ _ _ => N
  rename IntsAre _ (List.take _ _) => hcv
  replace N := newsRm1 (newsRm1 (newsRm1 N))
  refine wpAny_Assign_Name ?_ (by with_unfolding_all rfl)
  refine compEU (by with_unfolding_all rfl) (by decide) (by rfl) (by decide) (by rfl) ?_
  walk_at "my steps"
  have hcl : (List.take 8 (sc ++ [3, -1, 2, 3, -1, 5, 8, 4])).length = 8 := by rw [List.length_take, List.length_append]; simp only [List.length_cons, List.length_nil]; lia
  generalize hcs : List.take 8 (sc ++ [3, -1, 2, 3, -1, 5, 8, 4]) = cs at *
  refine src_list rfl F N (.inr ⟨_, by k_mem, rfl, _, rfl⟩) (by rw [List.size_toArray, hcv.length, hcl]; decide) fun h₂ it S => (exi7 _ _ _ _ _ _ _ ⟨S, ?_⟩)
  refine rest_uni (fun i ys => ∃ ns : List Nat, ns.length = i ∧ IntsAre ys (nats ns) ∧ ∀ n ∈ ns, n < most) (.inr ⟨_, by k_mem, rfl, _, rfl⟩) ⟨[], rfl, .nil, fun _ h => nomatch h⟩ ?_ ?_
  · intro i v ys I oI C oC D m₂ h₃ tk₃ E' hin hv hz17
    refine ex1 hz17 fun ns hz107 => an3 hz107 fun hnl hJ hnb => ?_
    clear hz107
    try clear hz17
    intro hC hx F₂ N₂
    refine ex2 (Mine.IntsAre.get hcv (by simpa using hv)) fun cx tx hz105 => an2 hz105 fun _ he106 => ?_
    clear hz105
    subst he106
    obtain ⟨q, hq, b1, b2⟩ : ∃ q, List.getD ([1, 97, 1234577] : List Int) (cx / 2 % 3).toNat 0 = q ∧ 0 ≤ q ∧ q ≤ 1234577 := ⟨_, rfl, tri_bounds _⟩
    refine ex1 (modNat (cx / 2 * q + cx % 2) (m := most) (by decide)) fun r hz104 => an2 hz104 fun hr hr2 => ?_
    clear hz104
    have hnb' := snoc_lt hnb hr2
    walk_at "to item"
    rename Fr _ _ _ _ => F₃
    rename News _ _ _ _ => N₃
    refine item_anyK (ns := [1, 97, 1234577]) ⟨_, (N₃ _ (.head _)).1, rfl, _, rfl⟩ (.cons _ _ (.cons _ _ (.cons _ _ .nil))) (by lia) (by simp only [List.length_cons, List.length_nil]; lia) (by lia) fun t₁ => ?_
    rw [hq]
    walk_at "my steps"
    rename Fr _ _ _ _ => F₄
    rename News _ _ _ _ => N₄
    exact (EltEnd.go F₄ N₄ (fun p hp => .tail _ hp) ⟨ns ++ [r], by simp [hnl], nats_snoc hJ hr, hnb'⟩)
  · intro ys hz18
    refine ex1 hz18 fun ns hz103 => an3 hz103 fun hnl hJ hnb => ?_
    clear hz103
    try clear hz18
    intro D h₃ tk₃ F₂ N₂ o1
    clear S it
    simp only [LCg.Off1, and_true] at o1
    refine an7 o1 fun _ _ _ _ _ _ _ => ?_
    clear o1
    walk_at "my steps"
    rename Fr _ _ _ _ => F₅
    rename News _ _ _ _ => N₅
    exact hq _ _ _ _ _ _ _ _ _ _ _ _ _ _ _ _ _ _ F₅ N₅ (by assumption) (by assumption) (by assumption) d4 d5 (.cons _ _ (.cons _ _ (.cons _ _ (.cons _ _ (.cons _ _ .nil))))) hcv hcl hJ (by rw [hnl, List.size_toArray, hcv.length, hcl]) hnb
end

section
open PySem PySem.W PyProof.Rows PySem.Calls
variable {w : World} {A : Around} {s : Shared} {E : Value → Shared → Prop}
/-- values, told one by one -/
noncomputable def OctsAre (ov : List Value) (ns : List Nat) : Prop := Els (fun v n => ∃ t, v = .bytes (octB n) t) ov ns
noncomputable def HexsAre (pv : List Value) (ns : List Nat) : Prop := Els (fun v n => ∃ t, v = .bytes (hexB (octB n)) t) pv ns
theorem Els.snoc {El : Value → Nat → Prop} {vs : List Value} {ks : List Nat} {v : Value} {k : Nat} (h : Els El vs ks) (h' : El v k) : Els El (vs ++ [v]) (ks ++ [k]) := h.append ⟨h', trivial⟩
theorem Els.at' {El : Value → Nat → Prop} {vs : List Value} {ks : List Nat} {i : Nat} {v : Value} (h : Els El vs ks) (hv : vs[i]? = some v) : ∃ k, ks[i]? = some k ∧ El v k := by
  have hi : i < ks.length := by
    rw [← h.len]
    rcases Nat.lt_or_ge i vs.length with q | q
    · exact q
    · rw [List.getElem?_eq_none q] at hv; cases hv
  refine ex2 (h.at hi) fun v' k hz119 => an3 hz119 fun a b c => ?_
  clear hz119
  rw [hv] at a; cases a
  exact ⟨k, b, c⟩
theorem nats_at {nv : List Value} {ns : List Nat} {i : Nat} {v : Value} (h : IntsAre nv (nats ns)) (hv : nv[i]? = some v) : ∃ n t, ns[i]? = some n ∧ v = .int ((n : Nat) : Int) t := by
  refine ex2 (Mine.IntsAre.get h hv) fun c t hz117 => an2 hz117 fun e he118 => ?_
  clear hz117
  subst he118
  unfold nats at e
  rw [List.getElem?_map] at e
  cases hn : ns[i]? with
  | none => rw [hn] at e; cases e
  | some n => rw [hn] at e; cases e; exact (exi2 n t ⟨rfl, rfl⟩)
theorem ne_data {g h : Heap} {L a b : Addr} {o o' : Obj} {news : List (Addr × Obj)} (N : News g L h news) (m1 : (a, o) ∈ news) (m2 : (b, o') ∈ news) (hd : o.data ≠ o'.data) : @Ne Nat a b := fun q => by
  have z1 := (N _ m1).1
  have z2 := (N _ m2).1
  try dsimp only at z1 z2
  rw [show a = b from q, z2] at z1
  exact hd (congrArg Obj.data (Option.some.inj z1)).symm
theorem octB_le {n : Nat} (hn : n < most) : (octB n).size ≤ 1000 := by have := octB_size hn; lia
theorem octB_pos {n : Nat} (hn : n < most) : 0 < (octB n).size := by
  have := congrArg List.length (octB_list hn)
  rw [List.length_map, Array.length_toList] at this
  rw [this]; unfold octs; simp
theorem segB {L fa : Addr} {cd : Value} {g : Heap} {m : Str → Option Value} {d u : Nat} {Q : Flow → Shared → Prop} (X : Wd w g) {k : Nat} (hA' : Ar ⟨none, d, some [lawEnv L fa cd], none, u⟩ (k + 100)) (F : Fr g L s.heap m)
    {aW aC aN : Addr} {wv cv nv : List Value} {kW kC kN : Nat} {cs : List Int} {ns : List Nat} {o1 o2 o3 o4 o5 : Obj} (N : News g L s.heap [(aN, PySem.W.listOf nv.toArray kN), (aC, PySem.W.listOf cv.toArray kC), (aW, PySem.W.listOf wv.toArray kW), (L + 1 + 1 + 1 + 1 + 1, o5), (L + 1 + 1 + 1 + 1, o4), (L + 1 + 1 + 1, o3), (L + 1 + 1, o2), (L + 1, o1)]) (d1 : o1.data = .cell (some (.ref aW))) (d2 : o2.data = .cell (some (.ref aC))) (d3 : o3.data = .cell (some (.ref aN))) (d4 : o4.data = .cell none) (d5 : o5.data = .cell none) (iW : IntsAre wv [1, 256, 131072, 83886080, 60129542144]) (iC : IntsAre cv cs) (lC : cs.length = 8) (iN : IntsAre nv (nats ns)) (lN : ns.length = 8) (bN : ∀ n ∈ ns, n < most)
    (hq : ∀ h' tk (aO aP : Addr) (ov pv : List Value) (kO kP : Nat) (m' : Str → Option Value) (o4' : Obj), Fr g L h' m' → m' (Str.ofString "octets") = some (.ref aO) → News g L h' [(aP, PySem.W.listOf pv.toArray kP), (aO, PySem.W.listOf ov.toArray kO), (aN, PySem.W.listOf nv.toArray kN), (aC, PySem.W.listOf cv.toArray kC), (aW, PySem.W.listOf wv.toArray kW), (L + 1 + 1 + 1 + 1 + 1, o5), (L + 1 + 1 + 1 + 1, o4'), (L + 1 + 1 + 1, o3), (L + 1 + 1, o2), (L + 1, o1)] → o4'.data = .cell (some (.ref aP)) → OctsAre ov ns → HexsAre pv ns → Q .next { s with heap := h', toks := tk }) :
    wpAny (model Pr w) ⟨none, d, some [lawEnv L fa cd], none, u⟩ (execs ((lawBody.drop 3).take 2) (lawEnv L fa cd)) Q (fun _ _ => False) s := by
  obtain ⟨K0, mean, mg, mb, T⟩ := id X
  refine execs_cast (l' := [_, _]) rfl ?_
  have nN4 := ne_data N (a := aN) (b := L + 1 + 1 + 1 + 1) (by k_mem) (by k_mem) (by rw [d4]; intro q; cases q)
  have nC4 := ne_data N (a := aC) (b := L + 1 + 1 + 1 + 1) (by k_mem) (by k_mem) (by rw [d4]; intro q; cases q)
  have nW4 := ne_data N (a := aW) (b := L + 1 + 1 + 1 + 1) (by k_mem) (by k_mem) (by rw [d4]; intro q; cases q)
  refine wpAny_execs_cons ?_
  refine compAU (by with_unfolding_all rfl) (by with_unfolding_all rfl) (by decide) (by rfl) (by decide) (by rfl) (by rfl) (by rfl) ?_
  walk_at "my steps"
  refine src_list rfl F N (.inr ⟨_, by k_mem, rfl, _, rfl⟩) (by rw [List.size_toArray, iN.length, nats, List.length_map, lN]; decide) fun h₂ it S => (exi6 _ _ _ _ _ _ ⟨S, ?_⟩)
  refine rest_uni (fun i ys => OctsAre ys (ns.take i)) (.inr ⟨_, by k_mem, rfl, _, rfl⟩) trivial ?_ ?_
  · rintro i v ys I oI C oC D m₂ h₃ tk₃ E' hin hv hJ hC hx F₂ N₂
    refine ex2 (nats_at iN (by simpa using hv)) fun n t hz115 => an2 hz115 fun en he116 => ?_
    clear hz115
    subst he116
    have hn := bN n (List.mem_of_getElem? en)
    have et := take_succ en
    walk_at "my steps"
    rename Fr _ _ _ _ => F₃
    rename News _ _ _ _ => N₃
    refine t_octets (k := k + 93) (X.grow F₃.keep) (hA'.mono (by lia)) n hn t aW wv ⟨⟨_, (N₃ _ (by k_mem : (aW, PySem.W.listOf wv.toArray kW) ∈ _)).1, rfl, _, rfl⟩, iW⟩ fun s' tk hs => ?_
    refine ex2 hs fun h' tk' hz113 => an2 hz113 fun he114 kk => ?_
    clear hz113
    try clear hs
    subst he114
    exact (EltEnd.go (frGrow F₃ kk) (newsGrow N₃ kk) (fun _ hp => hp) (by rw [et]; exact Els.snoc hJ ⟨_, rfl⟩))
  · intro ys hJ
    clear S it
    intro D h₃ tk₃ F₂ N₂ o1
    simp only [LCg.Off1, and_true] at o1
    rw [List.take_of_length_le (by rw [List.size_toArray, iN.length, nats, List.length_map]; exact Nat.le_refl _)] at hJ
    have hOl := hJ.len
    walk_at "my steps"
    refine wpAny_Assign_Name ?_ (by with_unfolding_all rfl)
    refine compEU (by with_unfolding_all rfl) (by decide) (by rfl) (by decide) (by rfl) ?_
    walk_at "my steps"
    refine src_list rfl F₂ N₂ (.inr ⟨_, .head _, rfl, _, rfl⟩) (by rw [List.size_toArray, hOl, lN]; decide) fun h₄ it S => (exi7 _ _ _ _ _ _ _ ⟨S, ?_⟩)
    refine rest_uni (fun i zs => HexsAre zs (ns.take i)) (.inr ⟨_, .head _, rfl, _, rfl⟩) trivial ?_ ?_
    · rintro i v zs I oI C oC D' m₂ h₅ tk₅ E' hin hv hJ' hC hx F₄ N₄
      refine ex1 (Els.at' hJ (by simpa using hv)) fun n hz110 => an2 hz110 fun en hz111 => ex1 hz111 fun t he112 => ?_
      clear hz110 hz111
      subst he112
      have hn := bN n (List.mem_of_getElem? en)
      have et := take_succ en
      have h0 : 0 < (octB n).size := octB_pos hn
      walk_at "my steps"
      rename Fr _ _ _ _ => F₅
      rename News _ _ _ _ => N₅
      refine t_b16 (k := k + 91) (X.grow F₅.keep) (hA'.mono (by lia)) (octB n) t (octB_le hn) h0 fun s' tk hs => ?_
      refine ex2 hs fun h' tk' hz108 => an2 hz108 fun he109 kk => ?_
      clear hz108
      try clear hs
      subst he109
      exact (EltEnd.go (frGrow F₅ kk) (newsGrow N₅ kk) (fun _ hp => hp) (by rw [et]; exact Els.snoc hJ' ⟨_, rfl⟩))
    · intro zs hJ' D' h₅ tk₅ F₄ N₄ o2'
      clear S it
      simp only [LCg.Off1, and_true] at o2'
      rw [List.take_of_length_le (by rw [List.size_toArray, hOl]; exact Nat.le_refl _)] at hJ'
      refine an8 o1 fun _ _ _ _ _ _ _ _ => an9 o2' fun _ _ _ _ _ _ _ _ _ => ?_
      clear o1 o2'
      walk_at "my steps"
      rename Fr _ _ _ _ => F₅
      rename News _ _ _ _ => N₅
      exact hq _ _ D D' ys zs _ _ _ _ F₅ (if_pos rfl) N₅ (by assumption) hJ hJ'
end

section
open PySem PySem.W PyProof.Rows PySem.Calls
variable {w : World} {A : Around} {s : Shared} {E : Value → Shared → Prop}
theorem wpN_nil {M : Model} {A : Around} {s : Shared} {E : Value → Shared → Prop} {env : Env} {Q : Flow → Shared → Prop} (h : Q .next s) : wpN M A (execs [] env) Q E s := wpN_of_any (wpAny_execs_nil h)
theorem segC {L fa : Addr} {cd : Value} {g : Heap} {m : Str → Option Value} {d u : Nat} {Q : Flow → Shared → Prop} (X : Wd w g) {k : Nat} (hA' : Ar ⟨none, d, some [lawEnv L fa cd], none, u⟩ (k + 100)) (F : Fr g L s.heap m)
    {aW aC aN : Addr} {wv cv nv : List Value} {kW kC kN : Nat} {cs : List Int} {ns : List Nat} {o1 o2 o3 o4 o5 : Obj} {aO aP : Addr} {ov pv : List Value} {kO kP : Nat} (N : News g L s.heap [(aP, PySem.W.listOf pv.toArray kP), (aO, PySem.W.listOf ov.toArray kO), (aN, PySem.W.listOf nv.toArray kN), (aC, PySem.W.listOf cv.toArray kC), (aW, PySem.W.listOf wv.toArray kW), (L + 1 + 1 + 1 + 1 + 1, o5), (L + 1 + 1 + 1 + 1, o4), (L + 1 + 1 + 1, o3), (L + 1 + 1, o2), (L + 1, o1)]) (d1 : o1.data = .cell (some (.ref aW))) (d2 : o2.data = .cell (some (.ref aC))) (d3 : o3.data = .cell (some (.ref aN))) (d4 : o4.data = .cell (some (.ref aP))) (d5 : o5.data = .cell none) (iW : IntsAre wv [1, 256, 131072, 83886080, 60129542144]) (iC : IntsAre cv cs) (lC : cs.length = 8) (iN : IntsAre nv (nats ns)) (lN : ns.length = 8) (bN : ∀ n ∈ ns, n < most) (eO : OctsAre ov ns) (eP : HexsAre pv ns) (mO : m (Str.ofString "octets") = some (.ref aO))
    (hq : ∀ h' tk, Fr g L h' m → News g L h' [(aP, PySem.W.listOf pv.toArray kP), (aO, PySem.W.listOf ov.toArray kO), (aN, PySem.W.listOf nv.toArray kN), (aC, PySem.W.listOf cv.toArray kC), (aW, PySem.W.listOf wv.toArray kW), (L + 1 + 1 + 1 + 1 + 1, o5), (L + 1 + 1 + 1 + 1, o4), (L + 1 + 1 + 1, o3), (L + 1 + 1, o2), (L + 1, o1)] → Q .next { s with heap := h', toks := tk }) :
    wpN (model Pr w) ⟨none, d, some [lawEnv L fa cd], none, u⟩ (execs ((lawBody.drop 5).take 1) (lawEnv L fa cd)) Q (fun _ _ => False) s := by
  obtain ⟨K0, mean, mg, mb, T⟩ := id X
  refine execs_castN (l' := [_]) rfl ?_
  refine wpN_execs_cons (wpN_IfN (wpN_isTrue_Compare1 ?_))
  have hPl := eP.len
  refine compEN (ax := aP) (its := pv.toArray) rfl (by with_unfolding_all rfl) (by decide) (by rfl) (by decide) (by rfl) F N (.inr ⟨_, .head _, rfl, _, rfl⟩) (by rw [List.size_toArray, hPl, lN]; decide) ?_
    (fun i ys => IntsAre ys (nats (ns.take i))) .nil ?_ ?_
  · walk_at "my steps"
  · intro i v ys I oI C oC D m₂ h₃ tk₃ hv hJ hC hx F₂ N₂
    refine ex1 (Els.at' eP (by simpa using hv)) fun n hz121 => an2 hz121 fun en hz122 => ex1 hz122 fun t he123 => ?_
    clear hz121 hz122
    subst he123
    have hn := bN n (List.mem_of_getElem? en)
    have et := take_succ en
    have nk : ∀ {M : Model} {P : Prop} (f : Value) (h : Heap), (f = .ref 669 ∧ (Kf w.params).In h) → ∃ k, (k = Keeper.frame ∨ k = Keeper.machine ∨ k = Keeper.boundFrame) ∧ Looks M h (keeperOf f) k := by
      intro M P f h e
      refine an2 e fun he120 X => ?_
      try clear e
      subst he120
      exact keeps_K (by k_is) _ X
    refine wpN_Call (P := fun f h => f = .ref 669 ∧ (Kf w.params).In h) (nk (P := True)) ?_
    walk_at "my steps"
    · trivial
    · exact K0.keeps (by assumption : Fr _ _ _ _).keep
    rename Fr _ _ _ _ => F₃
    rename News _ _ _ _ => N₃
    refine t_number (k := k + 20) (X.grow F₃.keep) (hA'.mono (by lia)) n hn t aW wv ⟨⟨_, (N₃ _ (by k_mem : (aW, PySem.W.listOf wv.toArray kW) ∈ _)).1, rfl, _, rfl⟩, iW⟩ fun s' tk hs => ?_
    refine ⟨hs, ?_⟩
    rw [et, show nats (ns.take i ++ [n]) = nats (ns.take i) ++ [(n : Int)] by simp [nats]]
    exact .append hJ (.cons _ _ .nil)
  · intro ys D h₃ tk₃ hJ F₂ N₂
    rw [List.take_of_length_le (by rw [List.size_toArray, hPl]; exact Nat.le_refl _)] at hJ
    rw [markedBehindIn_of_false rfl]
    walk_at "to cmp"
    have hu : u + 64 < cLine := by have := hA'.un; show u + 64 < 9900; simp only at this; lia
    refine ne_intsK ⟨_, (N₂ _ (.head _)).1, rfl, _, rfl⟩ hJ ⟨_, (N₂ _ (by k_mem : (aN, PySem.W.listOf nv.toArray kN) ∈ _)).1, rfl, _, rfl⟩ iN hu ?_
    rw [show (!decide (nats ns = nats ns)) = false by simp]
    walk_at "my steps"
    exact wpN_nil (wpN_nil (hq _ _ F₂ (newsRm0 N₂)))
end

section
open PySem PySem.W PyProof.Rows PySem.Calls
variable {w : World} {A : Around} {s : Shared} {E : Value → Shared → Prop}
local macro_rules | `(tactic| walk_at "getMethod bytes") => `(tactic| refine meth_join ?_)
theorem sum_le {b : Nat} {f : Nat → Nat} : ∀ {l : List Nat}, (∀ n ∈ l, f n ≤ b) → (l.map f).sum ≤ l.length * b
  | [], _ => by simp
  | a :: l, h => by
    have h1 := h a (.head _)
    have h2 := sum_le (l := l) fun n hn => h n (.tail _ hn)
    simp only [List.map_cons, List.sum_cons, List.length_cons, Nat.add_mul, Nat.one_mul]
    lia
theorem segD {L fa : Addr} {cd : Value} {g : Heap} {m : Str → Option Value} {d u : Nat} {Q : Flow → Shared → Prop} (X : Wd w g) {k : Nat} (hA' : Ar ⟨none, d, some [lawEnv L fa cd], none, u⟩ (k + 100)) (F : Fr g L s.heap m)
    {aW aC aN : Addr} {wv cv nv : List Value} {kW kC kN : Nat} {cs : List Int} {ns : List Nat} {o1 o2 o3 o4 o5 : Obj} {aO aP : Addr} {ov pv : List Value} {kO kP : Nat} (N : News g L s.heap [(aP, PySem.W.listOf pv.toArray kP), (aO, PySem.W.listOf ov.toArray kO), (aN, PySem.W.listOf nv.toArray kN), (aC, PySem.W.listOf cv.toArray kC), (aW, PySem.W.listOf wv.toArray kW), (L + 1 + 1 + 1 + 1 + 1, o5), (L + 1 + 1 + 1 + 1, o4), (L + 1 + 1 + 1, o3), (L + 1 + 1, o2), (L + 1, o1)]) (d1 : o1.data = .cell (some (.ref aW))) (d2 : o2.data = .cell (some (.ref aC))) (d3 : o3.data = .cell (some (.ref aN))) (d4 : o4.data = .cell (some (.ref aP))) (d5 : o5.data = .cell none) (iW : IntsAre wv [1, 256, 131072, 83886080, 60129542144]) (iC : IntsAre cv cs) (lC : cs.length = 8) (iN : IntsAre nv (nats ns)) (lN : ns.length = 8) (bN : ∀ n ∈ ns, n < most) (eO : OctsAre ov ns) (eP : HexsAre pv ns) (mO : m (Str.ofString "octets") = some (.ref aO))
    (hq : ∀ h' tk tp m', Fr g L h' m' → m' (Str.ofString "octets") = some (.ref aO) → m' (Str.ofString "page") = some (.bytes (ns.flatMap fun n => (octB n).toList).toArray tp) → News g L h' [(aP, PySem.W.listOf pv.toArray kP), (aO, PySem.W.listOf ov.toArray kO), (aN, PySem.W.listOf nv.toArray kN), (aC, PySem.W.listOf cv.toArray kC), (aW, PySem.W.listOf wv.toArray kW), (L + 1 + 1 + 1 + 1 + 1, o5), (L + 1 + 1 + 1 + 1, o4), (L + 1 + 1 + 1, o3), (L + 1 + 1, o2), (L + 1, o1)] → Q .next { s with heap := h', toks := tk }) :
    wpAny (model Pr w) ⟨none, d, some [lawEnv L fa cd], none, u⟩ (execs ((lawBody.drop 6).take 2) (lawEnv L fa cd)) Q (fun _ _ => False) s := by
  obtain ⟨K0, mean, mg, mb, T⟩ := id X
  refine execs_cast (l' := [_, _]) rfl ?_
  have hPl := eP.len
  have hOl := eO.len
  have hu : u + 64 < cLine := by have := hA'.un; show u + 64 < 9900; simp only at this; lia
  walk_at "to cmp"
  refine compET (by with_unfolding_all rfl) (by decide) (by rfl) (by decide) (by rfl) ?_
  walk_at "my steps"
  refine src_list rfl F N (.inr ⟨_, .head _, rfl, _, rfl⟩) (by rw [List.size_toArray, hPl, lN]; decide) fun h₂ it S => (exi7 _ _ _ _ _ _ _ ⟨S, ?_⟩)
  refine restT_uni (fun i ys => ys = []) (.inr ⟨_, .head _, rfl, _, rfl⟩) rfl ?_ ?_
  · rintro i v ys I oI C oC D m₂ h₃ tk₃ E' hin hv hJ hC hx F₂ N₂
    refine ex1 (Els.at' eP (by simpa using hv)) fun n hz127 => an2 hz127 fun en hz128 => ex1 hz128 fun t he129 => ?_
    clear hz127 hz128
    subst he129
    walk_at "my steps"
    exact (EltEnd.go (by assumption) (by assumption) (fun _ hp => hp) hJ)
  · rintro ys rfl D h₃ tk₃ F₂ N₂ o1
    clear S it
    walk_at "to cmp"
    rename Fr _ _ _ _ => F₃
    rename News _ _ _ _ => N₃
    refine ne_intsK (vs := []) (us := []) ⟨_, (N₃ _ (.tail _ (.head _))).1, rfl, _, rfl⟩ .nil ⟨_, (N₃ _ (.head _)).1, rfl, _, rfl⟩ .nil hu ?_
    rw [show (!decide (([] : List Int) = [])) = false from rfl]
    replace N₃ := newsRm0 (newsRm0 N₃)
    walk_at "my steps"
    all_goals (try exact default)
    rename Fr _ _ _ _ => F₄
    rename News _ _ _ _ => N₄
    refine call_join (bs := ns.map octB) ⟨_, (N₄ _ (.tail _ (.head _))).1, rfl, _, rfl⟩ (by lia) (by rw [hOl, List.length_map]) (fun i hi => ?_) ?_ fun tk tk' => ?_
    · refine ex2 (eO.at (show i < ns.length by lia)) fun v n hz124 => an3 hz124 fun e1 e2 hz125 => ex1 hz125 fun tv he126 => ?_
      clear hz124 hz125
      subst he126
      exact (exi2 _ tv ⟨e1, by rw [List.getElem?_map, e2]; rfl⟩)
    · rw [List.map_map]
      refine Nat.le_trans (sum_le (b := 9) (l := ns) fun n hn => octB_size (bN n hn)) (by rw [lN]; decide)
    rw [List.flatMap_map]
    walk_at "my steps"
    rename Fr _ _ _ _ => F₅
    rename News _ _ _ _ => N₅
    exact hq _ _ _ _ F₅ (by walk_at "look") (if_pos rfl) N₅
end

section
open PySem PySem.W PyProof.Rows PySem.Calls
variable {w : World} {A : Around} {s : Shared} {E : Value → Shared → Prop}
local macro_rules | `(tactic| walk_at "binaryOp Add bytes bytes") => `(tactic| ((refine KBy.add_bytes ?_ ?_); (focus (simp only [Array.size_append, List.size_toArray, List.length_cons, List.length_nil]; omega)); intro _ _))
noncomputable def pageOf (ns : List Nat) : Array UInt8 := (ns.flatMap fun n => (octB n).toList).toArray
theorem page_le {ns : List Nat} (lN : ns.length = 8) (bN : ∀ n ∈ ns, n < most) : (pageOf ns).size ≤ 72 := by
  unfold pageOf
  rw [List.size_toArray, List.length_flatMap]
  refine Nat.le_trans (sum_le (b := 9) (l := ns) fun n hn => by rw [Array.length_toList]; exact octB_size (bN n hn)) (by rw [lN]; decide)
theorem segE {L fa : Addr} {cd : Value} {g : Heap} {m : Str → Option Value} {d u : Nat} {Q : Flow → Shared → Prop} (X : Wd w g) {k : Nat} (hA' : Ar ⟨none, d, some [lawEnv L fa cd], none, u⟩ (k + 100)) (F : Fr g L s.heap m)
    {aW aC aN : Addr} {wv cv nv : List Value} {kW kC kN : Nat} {cs : List Int} {ns : List Nat} {o1 o2 o3 o4 o5 : Obj} {aO aP : Addr} {ov pv : List Value} {kO kP : Nat} (N : News g L s.heap [(aP, PySem.W.listOf pv.toArray kP), (aO, PySem.W.listOf ov.toArray kO), (aN, PySem.W.listOf nv.toArray kN), (aC, PySem.W.listOf cv.toArray kC), (aW, PySem.W.listOf wv.toArray kW), (L + 1 + 1 + 1 + 1 + 1, o5), (L + 1 + 1 + 1 + 1, o4), (L + 1 + 1 + 1, o3), (L + 1 + 1, o2), (L + 1, o1)]) (d1 : o1.data = .cell (some (.ref aW))) (d2 : o2.data = .cell (some (.ref aC))) (d3 : o3.data = .cell (some (.ref aN))) (d4 : o4.data = .cell (some (.ref aP))) (d5 : o5.data = .cell none) (iW : IntsAre wv [1, 256, 131072, 83886080, 60129542144]) (iC : IntsAre cv cs) (lC : cs.length = 8) (iN : IntsAre nv (nats ns)) (lN : ns.length = 8) (bN : ∀ n ∈ ns, n < most) (eO : OctsAre ov ns) (eP : HexsAre pv ns) (mO : m (Str.ofString "octets") = some (.ref aO)) {PG : Array UInt8} {tp : Tok} (mP : m (Str.ofString "page") = some (.bytes PG tp)) (hPG : PG.size ≤ 72)
    (hq : ∀ h' tk m', Fr g L h' m' → m' (Str.ofString "octets") = some (.ref aO) → News g L h' [(aP, PySem.W.listOf pv.toArray kP), (aO, PySem.W.listOf ov.toArray kO), (aN, PySem.W.listOf nv.toArray kN), (aC, PySem.W.listOf cv.toArray kC), (aW, PySem.W.listOf wv.toArray kW), (L + 1 + 1 + 1 + 1 + 1, o5), (L + 1 + 1 + 1 + 1, o4), (L + 1 + 1 + 1, o3), (L + 1 + 1, o2), (L + 1, o1)] → Q .next { s with heap := h', toks := tk }) :
    wpN (model Pr w) ⟨none, d, some [lawEnv L fa cd], none, u⟩ (execs ((lawBody.drop 8).take 2) (lawEnv L fa cd)) Q (fun _ _ => False) s := by
  obtain ⟨K0, mean, mg, mb, T⟩ := id X
  refine execs_castN (l' := [_, _]) rfl ?_
  have hOl := eO.len
  refine ex2 (eO.at (show 0 < ns.length by lia)) fun v0 n0 hz131 => an3 hz131 fun e0 f0 hz132 => ex1 hz132 fun t0 he133 => ?_
  clear hz131 hz132
  subst he133
  have hn0 := bN n0 (List.mem_of_getElem? f0)
  have ho9 := octB_size hn0
  generalize octB n0 = O0 at *
  have io : ∀ {M : Model} {P : Prop} (f : Value) (h : Heap), (f = .ref 396 ∧ (Kf w.params).In h) → ∃ k, (k = Keeper.frame ∨ k = Keeper.machine ∨ k = Keeper.boundFrame) ∧ Looks M h (keeperOf f) k := by
    intro M P f h e
    refine an2 e fun he130 X => ?_
    try clear e
    subst he130
    exact keeps_K (by k_is) _ X
  refine wpN_execs_cons (wpN_Assign_Name (wpN_Call (P := fun f h => f = .ref 396 ∧ (Kf w.params).In h) (io (P := True)) ?_))
  have hPz : PG.size ≤ 1000 := by lia
  walk_at "to item"
  all_goals (try exact default)
  rename News _ _ _ _ => N₂
  refine item_in (its := ov) ⟨_, (N₂ _ (by k_mem : (aO, PySem.W.listOf ov.toArray kO) ∈ _)).1, rfl, _, rfl⟩ (by decide) (by decide) (v := .bytes O0 t0) (by simpa using e0) ?_
  walk_at "my steps"
  · trivial
  · exact K0.keeps (by assumption : Fr _ _ _ _).keep
  rename Fr _ _ _ _ => F₃
  rename News _ _ _ _ => N₃
  replace N₃ := newsRm0 N₃
  have hsz : (PG.size : Int).toNat.toUInt8.toNat = PG.size := by
    rw [Int.toNat_natCast]; simp; lia
  generalize (PG.size : Int).toNat.toUInt8 = z at *
  have hST : (#[0] ++ #[z] ++ PG ++ O0).size ≤ 1000 := by simp only [Array.size_append, List.size_toArray, List.length_cons, List.length_nil]; lia
  have hSL : (#[0] ++ #[z] ++ PG ++ O0).toList = 0 :: z :: (PG.toList ++ O0.toList) := by simp
  generalize #[0] ++ #[z] ++ PG ++ O0 = ST at *
  have W₃ := X.grow F₃.keep
  refine io_make W₃ (hA'.mono (by lia)) ST _ hST fun x dx bx h₂ tk₂ t1 t2 t3 ex edx ebx fx fdx fbx n1 n2 n3 kk => ?_
  have F₄ := frGrow F₃ kk
  replace n1 := neN n1
  replace n2 := neN n2
  replace n3 := neN n3
  have offd := AllNe.mem (allNe N₃ fdx)
  have N₄ := newsMore F₃ (newsMore F₃ (newsMore F₃ (newsGrow N₃ kk) edx fdx) ex fx) ebx fbx
  clear F₃ N₃
  walk_at "my steps"
  try dsimp only
  refine wpN_seq ?_
  walk_at "my steps"
  clear kk ex edx ebx fx fdx fbx W₃
  rename Fr _ _ _ _ => F₅
  rename News _ _ _ _ => N₅
  refine t_bytes1 (k := k + 60) (p := 0) X F₅.keep (hA'.mono (by lia)) (Stream.ofNews N₅ (by k_mem) (by k_mem) (by k_mem) n1 n2 n3) hST (by rw [hSL]; rfl) (Nat.zero_le _) fun h₃ tk₃ r tr p₁ hr hd S₁ k₁ hp₁ => ?_
  obtain rfl : r = #[] := Array.toList_inj.mp (by rw [hr]; rfl)
  refine ex3 S₁.hdx fun u1 u2 u3 edx₁ => ?_
  have F₆ := frBut F₅ S₁.fdx (N₅ _ (by k_mem : (dx, streamD w bx 0 t1 t2 t3) ∈ _)).2.1 k₁
  have N₆ := newsRead (own := [_, _]) N₅ (List.forall_mem_cons.mpr ⟨by first | assumption | exact Ne.symm (by assumption), List.forall_mem_cons.mpr ⟨by first | assumption | exact Ne.symm (by assumption), List.forall_mem_nil _⟩⟩) offd k₁ edx₁
  simp only [List.cons_append, List.nil_append] at N₆
  clear F₅ N₅ hr k₁ S₁ edx₁
  walk_at "my steps"
  rename Fr _ _ _ _ => F₅
  rename News _ _ _ _ => N₅
  refine t_bytes1 (k := k + 60) (p := p₁) X F₅.keep (hA'.mono (by lia)) (Stream.ofNews N₅ (by k_mem) (by k_mem) (by k_mem) n1 n2 n3) hST (c := z) (rest := PG.toList ++ O0.toList) (by rw [hd]; rfl) (by rw [hsz, List.length_append, Array.length_toList]; lia) fun h₄ tk₄ r tr p₂ hr hd₂ S₁ k₁ hp₂ => ?_
  have hr' : r = PG := Array.toList_inj.mp (by rw [hr, hsz, List.take_left' (by rw [Array.length_toList])])
  subst hr'
  rw [hsz, List.drop_left' (by rw [Array.length_toList])] at hd₂
  refine ex3 S₁.hdx fun v1 v2 v3 edx₁ => ?_
  have F₆ := frBut F₅ S₁.fdx (N₅ _ (by k_mem : (dx, streamD w bx p₁ u1 u2 u3) ∈ _)).2.1 k₁
  have N₆ := newsRead (own := [_, _]) N₅ (List.forall_mem_cons.mpr ⟨by first | assumption | exact Ne.symm (by assumption), List.forall_mem_cons.mpr ⟨by first | assumption | exact Ne.symm (by assumption), List.forall_mem_nil _⟩⟩) offd k₁ edx₁
  simp only [List.cons_append, List.nil_append] at N₆
  clear F₅ N₅ hr k₁ S₁ edx₁
  walk_at "my steps"
  all_goals (try exact default)
  · rename_i a
    exact absurd a (by simp)
  dsimp only [List.append_nil]
  rename Fr _ _ _ _ => F₅
  rename News _ _ _ _ => N₅
  refine t_readN (k := k + 60) (.inr ⟨rfl, rfl, rfl⟩) X F₅.keep (hA'.mono (by lia)) (Stream.ofNews N₅ (by k_mem) (by k_mem) (by k_mem) n1 n2 n3) ⟨by decide, by decide⟩ hp₂ hST fun h₇ tk₇ rr trr p₄ hrr hp₄ hd₄ S₁ k₁ => ?_
  have hrr' : rr = O0 := Array.toList_inj.mp (by rw [hrr, if_pos (by decide), hd₂])
  subst hrr'
  refine ex3 S₁.hdx fun z7 z8 z9 edx₁ => ?_
  have F₆ := frBut F₅ S₁.fdx (N₅ _ (by k_mem : (dx, streamD w bx p₂ v1 v2 v3) ∈ _)).2.1 k₁
  have N₆ := newsRead (own := [_, _]) N₅ (List.forall_mem_cons.mpr ⟨by first | assumption | exact Ne.symm (by assumption), List.forall_mem_cons.mpr ⟨by first | assumption | exact Ne.symm (by assumption), List.forall_mem_nil _⟩⟩) offd k₁ edx₁
  simp only [List.cons_append, List.nil_append] at N₆
  replace N₆ := newsRm0 (newsRm0 (newsRm0 N₆))
  clear F₅ N₅ hrr k₁ S₁ edx₁ hd₄
  walk_at "to item"
  all_goals (try exact default)
  refine item_in (its := ov) ⟨_, (N₆ _ (by k_mem : (aO, PySem.W.listOf ov.toArray kO) ∈ _)).1, rfl, _, rfl⟩ (by decide) (by decide) (v := .bytes rr t0) (by simpa using e0) ?_
  walk_at "my steps"
  · rename_i a
    exact absurd a (by simp)
  exact wpN_nil (hq _ _ _ F₆ (by walk_at "look") N₆)
end

section
open PySem PySem.W PyProof.Rows PySem.Calls
variable {w : World} {A : Around} {s : Shared} {E : Value → Shared → Prop}
theorem newsSub {g h : Heap} {L : Addr} {l l' : List (Addr × Obj)} (N : News g L h l) (hs : ∀ p ∈ l', p ∈ l) : News g L h l' := fun p hp => N p (hs p hp)
theorem segF0 {L fa : Addr} {cd : Value} {g : Heap} {m : Str → Option Value} {d u : Nat} {Q : Flow → Shared → Prop} (X : Wd w g) {k : Nat} (hA' : Ar ⟨none, d, some [lawEnv L fa cd], none, u⟩ (k + 100)) (F : Fr g L s.heap m)
    {aW aC aN : Addr} {wv cv nv : List Value} {kW kC kN : Nat} {cs : List Int} {ns : List Nat} {o1 o2 o3 o4 o5 : Obj} {aO aP : Addr} {ov pv : List Value} {kO kP : Nat} (N : News g L s.heap [(aP, PySem.W.listOf pv.toArray kP), (aO, PySem.W.listOf ov.toArray kO), (aN, PySem.W.listOf nv.toArray kN), (aC, PySem.W.listOf cv.toArray kC), (aW, PySem.W.listOf wv.toArray kW), (L + 1 + 1 + 1 + 1 + 1, o5), (L + 1 + 1 + 1 + 1, o4), (L + 1 + 1 + 1, o3), (L + 1 + 1, o2), (L + 1, o1)]) (d1 : o1.data = .cell (some (.ref aW))) (d2 : o2.data = .cell (some (.ref aC))) (d3 : o3.data = .cell (some (.ref aN))) (d4 : o4.data = .cell (some (.ref aP))) (d5 : o5.data = .cell none) (iW : IntsAre wv [1, 256, 131072, 83886080, 60129542144]) (iC : IntsAre cv cs) (lC : cs.length = 8) (iN : IntsAre nv (nats ns)) (lN : ns.length = 8) (bN : ∀ n ∈ ns, n < most) (eO : OctsAre ov ns) (eP : HexsAre pv ns) (mO : m (Str.ofString "octets") = some (.ref aO))
    (hq : ∀ h' tk (aL : Addr) (o5' : Obj) m', Fr g L h' m' → m' (Str.ofString "octets") = some (.ref aO) → News g L h' [(aL, PySem.W.listOf (List.toArray []) 0), (aP, PySem.W.listOf pv.toArray kP), (aO, PySem.W.listOf ov.toArray kO), (aN, PySem.W.listOf nv.toArray kN), (aC, PySem.W.listOf cv.toArray kC), (aW, PySem.W.listOf wv.toArray kW), (L + 1 + 1 + 1 + 1 + 1, o5'), (L + 1 + 1 + 1 + 1, o4), (L + 1 + 1 + 1, o3), (L + 1 + 1, o2), (L + 1, o1)] → AllNe aL [(aP, PySem.W.listOf pv.toArray kP), (aO, PySem.W.listOf ov.toArray kO), (aN, PySem.W.listOf nv.toArray kN), (aC, PySem.W.listOf cv.toArray kC), (aW, PySem.W.listOf wv.toArray kW), (L + 1 + 1 + 1 + 1 + 1, o5'), (L + 1 + 1 + 1 + 1, o4), (L + 1 + 1 + 1, o3), (L + 1 + 1, o2), (L + 1, o1)] → o5'.data = .cell (some (.ref aL)) → Q .next { s with heap := h', toks := tk }) :
    wpAny (model Pr w) ⟨none, d, some [lawEnv L fa cd], none, u⟩ (execs ((lawBody.drop 10).take 1) (lawEnv L fa cd)) Q (fun _ _ => False) s := by
  obtain ⟨K0, mean, mg, mb, T⟩ := id X
  refine execs_cast (l' := [_]) rfl ?_
  have nP5 := ne_data N (a := aP) (b := L + 1 + 1 + 1 + 1 + 1) (by k_mem) (by k_mem) (by rw [d5]; intro q; cases q)
  have nO5 := ne_data N (a := aO) (b := L + 1 + 1 + 1 + 1 + 1) (by k_mem) (by k_mem) (by rw [d5]; intro q; cases q)
  have nN5 := ne_data N (a := aN) (b := L + 1 + 1 + 1 + 1 + 1) (by k_mem) (by k_mem) (by rw [d5]; intro q; cases q)
  have nC5 := ne_data N (a := aC) (b := L + 1 + 1 + 1 + 1 + 1) (by k_mem) (by k_mem) (by rw [d5]; intro q; cases q)
  have nW5 := ne_data N (a := aW) (b := L + 1 + 1 + 1 + 1 + 1) (by k_mem) (by k_mem) (by rw [d5]; intro q; cases q)
  walk_at "my steps"
  rename Fr _ _ _ _ => F₅
  rename News _ _ _ _ => N₅
  rename _ ∧ _ => q
  refine hq _ _ _ _ _ F₅ ?_ N₅ ?_ ?_
  · walk_at "look"
  · simp only [AllNe, and_true]
    exact And.imp Nat.ne_of_lt (And.imp Nat.ne_of_lt (And.imp Nat.ne_of_lt (And.imp Nat.ne_of_lt (And.imp Nat.ne_of_lt (And.imp Nat.ne_of_lt (And.imp Nat.ne_of_lt (And.imp Nat.ne_of_lt (And.imp Nat.ne_of_lt Nat.ne_of_lt)))))))) q
  · first | assumption | rfl
end

section
open PySem PySem.W PyProof.Rows PySem.Calls
theorem b64B_list (b : Array UInt8) : (b64B b).toList.map (fun c => c.toNat) = (sext (b.toList.map fun c => c.toNat)).map putA ++ List.replicate (pads (b.size % 3)) 61 := by
  have h := b64_lt b
  rw [b64B, byteArr_nats]
  generalize (sext (b.toList.map fun c => c.toNat)).map putA ++ List.replicate (pads (b.size % 3)) 61 = l at *
  rw [List.map_map]
  conv => rhs; rw [← List.map_id l]
  refine List.map_congr_left fun x hx => ?_
  have := h x hx
  simp only [Function.comp, id]
  simp
  lia
theorem sext_lt (b : Array UInt8) : ∀ x ∈ sext (b.toList.map fun c => c.toNat), x < 64 := em_lt _ 0 0 (octs_mem b) (by decide)
theorem wrote_b64 (b : Array UInt8) : Wrote (b64B b) (sext (b.toList.map fun c => c.toNat)) := ⟨sext_lt b, _, b64B_list b⟩
theorem b64B_split (b : Array UInt8) : (b64B b).size = (sext (b.toList.map fun c => c.toNat)).length + pads (b.size % 3) := by
  have := congrArg List.length (b64B_list b)
  simpa using this
theorem b64B_size (b : Array UInt8) : (b64B b).size = (b.size + 2) / 3 * 4 := by
  rw [b64B_split, sext_size, List.length_map, Array.length_toList]
  have : b.size % 3 = 0 ∨ b.size % 3 = 1 ∨ b.size % 3 = 2 := by lia
  rcases this with e | e | e <;> rw [e] <;> simp only [pads] <;> lia
theorem pads_ints (b : Array UInt8) : KBw.bInts (KBy.picked (b64B b) (some (((sext (b.toList.map fun c => c.toNat)).length : Nat) : Int)) none) = List.replicate (pads (b.size % 3)) 61 := by
  have e := KBc.picked_eq (b64B b) (some (((sext (b.toList.map fun c => c.toNat)).length : Nat) : Int)) none
  simp only [Option.elim] at e
  rw [clipAt_nat, Nat.min_eq_left (by rw [b64B_split]; lia), List.take_of_length_le (by simp)] at e
  rw [e]
  unfold KBw.bInts
  have h := congrArg (fun l : List Nat => nats (l.drop (sext (b.toList.map fun c => c.toNat)).length)) (b64B_list b)
  rw [List.drop_left' (by simp)] at h
  have h' : nats (List.replicate (pads (b.size % 3)) 61) = List.replicate (pads (b.size % 3)) (61 : Int) := by simp [nats]
  rw [h'] at h
  rw [← h]
  simp [nats, List.map_drop, Function.comp_def]
theorem rep61 (k : Nat) : (List.replicate k ([61] : List Int)).flatten = List.replicate k 61 := by
  induction k with
  | zero => rfl
  | succ k ih => rw [List.replicate_succ, List.flatten_cons, ih]; rfl
theorem valI_nats (b : Nat) (l : List Nat) (a : Nat) : (nats l).foldl (fun n f => n * (b : Int) + f) (a : Int) = (valN b a l : Int) := by
  induction l generalizing a with
  | nil => rfl
  | cons x l ih =>
    have := ih (a * b + x)
    simp only [nats, List.map_cons, List.foldl_cons, valN_cons] at this ⊢
    rw [← this]; congr 1
theorem valB_nats (b : Nat) (l : List UInt8) (a : Nat) : l.foldl (fun n f => n * (b : Int) + (f.toNat : Int)) (a : Int) = (valN b a (l.map fun c => c.toNat) : Int) := by
  induction l generalizing a with
  | nil => rfl
  | cons x l ih =>
    have := ih (a * b + x.toNat)
    simp only [List.map_cons, List.foldl_cons, valN_cons] at this ⊢
    rw [← this]; congr 1
theorem valN_lt {b : Nat} : ∀ (l : List Nat) (a : Nat), (∀ x ∈ l, x < b) → valN b a l < (a + 1) * b ^ l.length
  | [], a, _ => by simp [valN]
  | x :: l, a, h => by
    have hx := h x (.head _)
    have := valN_lt l (a * b + x) fun z hz => h z (.tail _ hz)
    rw [valN_cons, List.length_cons, Nat.pow_succ]
    refine Nat.lt_of_lt_of_le this ?_
    rw [Nat.mul_comm (b ^ l.length) b, ← Nat.mul_assoc]
    refine Nat.mul_le_mul_right _ ?_
    rw [Nat.add_mul]; lia
theorem sv_eq (b : Array UInt8) : (nats (sext (b.toList.map fun c => c.toNat))).foldl (fun n f => n * (64 : Int) + f) 0 * (256 : Int) ^ ((b.size : Nat) : Int).toNat
    = b.toList.foldl (fun n f => n * (256 : Int) + (f.toNat : Int)) 0 * (64 : Int) ^ (((sext (b.toList.map fun c => c.toNat)).length : Nat) : Int).toNat := by
  have h1 := valI_nats 64 (sext (b.toList.map fun c => c.toNat)) 0
  have h2 := valB_nats 256 b.toList 0
  have h3 := sext_value (b.toList.map fun c => c.toNat)
  rw [List.length_map, Array.length_toList] at h3
  have h4 := congrArg (fun n : Nat => (n : Int)) h3
  simp only [Int.natCast_mul, Int.natCast_pow] at h4
  rw [Int.toNat_natCast, Int.toNat_natCast]
  rw [← h1, ← h2] at h4
  exact h4
theorem fits_val {v p : Nat} {i j : Int} (hi : i = (v : Int)) (hj : j = (p : Int)) (hv : v < 2 ^ 100) (hp : p < 2 ^ 100) : IntMulOk i j := by
  subst hi hj
  exact IntMulOk.of_bits (Nat.le_trans (intBits_le (k := 100) (by rw [Int.natAbs_natCast]; exact hv)) (by decide)) (Nat.le_trans (intBits_le (k := 100) (by rw [Int.natAbs_natCast]; exact hp)) (by decide))
theorem pow256 {n : Nat} (h : n ≤ 9) : 256 ^ n < 2 ^ 100 := Nat.lt_of_le_of_lt (Nat.pow_le_pow_right (by decide) h) (by decide)
theorem pow64 {n : Nat} (h : n ≤ 12) : 64 ^ n < 2 ^ 100 := Nat.lt_of_le_of_lt (Nat.pow_le_pow_right (by decide) h) (by decide)
theorem fits1 (b : Array UInt8) (hb : b.size ≤ 9) : IntMulOk ((nats (sext (b.toList.map fun c => c.toNat))).foldl (fun n f => n * (64 : Int) + f) 0) ((256 : Int) ^ ((b.size : Nat) : Int).toNat) := by
  refine fits_val (v := valN 64 0 (sext (b.toList.map fun c => c.toNat))) (p := 256 ^ b.size) (valI_nats 64 _ 0) (by rw [Int.toNat_natCast]; simp) ?_ (pow256 hb)
  have := valN_lt (b := 64) (sext (b.toList.map fun c => c.toNat)) 0 (sext_lt b)
  refine Nat.lt_trans this ?_
  rw [Nat.zero_add, Nat.one_mul]
  exact pow64 (by rw [sext_size, List.length_map, Array.length_toList]; lia)
theorem fits2 (b : Array UInt8) (hb : b.size ≤ 9) : IntMulOk (b.toList.foldl (fun n f => n * (256 : Int) + (f.toNat : Int)) 0) ((64 : Int) ^ (((sext (b.toList.map fun c => c.toNat)).length : Nat) : Int).toNat) := by
  refine fits_val (v := valN 256 0 (b.toList.map fun c => c.toNat)) (p := 64 ^ (sext (b.toList.map fun c => c.toNat)).length) (valB_nats 256 _ 0) (by rw [Int.toNat_natCast]; simp) ?_ (pow64 (by rw [sext_size, List.length_map, Array.length_toList]; lia))
  have := valN_lt (b := 256) (b.toList.map fun c => c.toNat) 0 (octs_mem b)
  refine Nat.lt_trans this ?_
  rw [Nat.zero_add, Nat.one_mul, List.length_map, Array.length_toList]
  exact pow256 hb
section
variable {prog : Program} {w : World} {A : Around} {E : Value → Shared → Prop} {s : Shared} {n : Int} {t u : Tok} {Q : Value → Shared → Prop}
theorem bits256 : Builtin.Int.intBits 256 = 9 := by decide
theorem bits64 : Builtin.Int.intBits 64 = 7 := by decide
theorem p256 (h0 : 0 ≤ n) (h1 : n ≤ 1000) (h : Q (.int ((256 : Int) ^ n.toNat) s.toks) { s with toks := s.toks + 1 }) : wpAny (model prog w) A (binaryOp .Pow (.int 256 t) (.int n u)) Q E s := by
  refine pow_int h0 ?_ h
  rw [bits256]; lia
theorem p64 (h0 : 0 ≤ n) (h1 : n ≤ 1000) (h : Q (.int ((64 : Int) ^ n.toNat) s.toks) { s with toks := s.toks + 1 }) : wpAny (model prog w) A (binaryOp .Pow (.int 64 t) (.int n u)) Q E s := by
  refine pow_int h0 ?_ h
  rw [bits64]; lia
end
end

section
open PySem PySem.W PyProof.Rows PySem.Calls
variable {w : World} {A : Around} {s : Shared} {E : Value → Shared → Prop}
local macro_rules | `(tactic| walk_at "binaryOp Pow int int") => `(tactic| first | (refine p256 (by omega) (by omega) ?_) | (refine p64 (by omega) (by omega) ?_))
local macro_rules | `(tactic| walk_at "to append") => `(tactic| repeat' (first | ((fail_if_success (with_reducible show wpAny _ _ (call (Value.builtin "list.append") _) _ _ _)); (fail_if_success (with_reducible show wpAny _ _ (binaryOp .Mult (.ref _) _) _ _ _)); (fail_if_success (with_reducible show wpAny _ _ (compareOp _ (Value.ref _) (Value.ref _)) _ _ _)); first | keq_rows | walk1)))
local macro_rules | `(tactic| walk_at "call type:list") => `(tactic| ((with_reducible show wpAny _ _ (call (Value.type "list") [Value.bytes _ _]) _ _ _); (with_reducible rename Fr _ _ _ _ => F'); (with_reducible rename News _ _ _ _ => N'); (refine list_bytesN F' N' rfl (by_size (by assumption)) ?_); intro _ _ _ _ _ _ _ _; (try clear F' N')))
theorem ne_same {prog : Program} {a b : Int} {t u : Tok} {Q : Value → Shared → Prop} (e : a = b) (h : Q (.bool false) s) : wpAny (model prog w) A (compareOp .NotEq (.int a t) (.int b u)) Q E s := by
  refine ne_int ?_
  rw [e, show (b != b) = false by simp]; exact h
local macro_rules | `(tactic| walk_at "compareOp NotEq int int") => `(tactic| refine ne_same (by first | with_reducible assumption | omega | assumption) ?_)
local macro_rules | `(tactic| mul_fits) => `(tactic| assumption)
/-- the lists of sextets, kept in a ledger -/
noncomputable def PlsAre (nl : List (Addr × Obj)) (lv : List Value) (ns : List Nat) : Prop :=
  Els (fun v n => ∃ a vs c, v = .ref a ∧ (a, PySem.W.listOf (List.toArray vs) c) ∈ nl ∧ IntsAre vs (nats (sext (octs n)))) lv ns
theorem PlsAre.more {nl nl' : List (Addr × Obj)} {lv : List Value} {ns : List Nat} (h : PlsAre nl lv ns) (hs : ∀ p ∈ nl, p ∈ nl') : PlsAre nl' lv ns := by
  unfold PlsAre at *
  induction lv generalizing ns with
  | nil => cases ns with
    | nil => trivial
    | cons n ns => exact h
  | cons v lv ih => cases ns with
    | nil => exact h
    | cons n ns => exact ⟨by obtain ⟨a, vs, c, e, m, i⟩ := h.1; exact (exi3 a vs c ⟨e, hs _ m, i⟩), ih h.2⟩
noncomputable abbrev JFp (s0 : Addr) (aL aP aO aN aC aW L : Addr) (pv ov nv cv wv : List Value) (kP kO kN kC kW : Nat) (o1 o2 o3 o4 o5 : Obj) (ns : List Nat) : Nat → (Str → Option Value) → List (Addr × Obj) → Prop := fun i m₁ news => ∃ lv c nl, news = (aL, PySem.W.listOf (List.toArray lv) c) :: (aP, PySem.W.listOf pv.toArray kP)::(aO, PySem.W.listOf ov.toArray kO)::(aN, PySem.W.listOf nv.toArray kN)::(aC, PySem.W.listOf cv.toArray kC)::(aW, PySem.W.listOf wv.toArray kW)::(L + 1 + 1 + 1 + 1 + 1, o5)::(L + 1 + 1 + 1 + 1, o4)::(L + 1 + 1 + 1, o3)::(L + 1 + 1, o2)::(L + 1, o1)::nl ∧ PlsAre nl lv (ns.take i) ∧ (∀ p ∈ nl, p.1 ≠ aL ∧ p.1 ≠ s0) ∧ m₁ (Str.ofString "octets") = some (.ref aO)
theorem segF {L fa : Addr} {cd : Value} {g : Heap} {m : Str → Option Value} {d u : Nat} {Q : Flow → Shared → Prop} (X : Wd w g) {k : Nat} (hA' : Ar ⟨none, d, some [lawEnv L fa cd], none, u⟩ (k + 100)) (F : Fr g L s.heap m)
    {aW aC aN : Addr} {wv cv nv : List Value} {kW kC kN : Nat} {cs : List Int} {ns : List Nat} {o1 o2 o3 o4 o5 : Obj} {aO aP : Addr} {ov pv : List Value} {kO kP : Nat} {aL : Addr} (N : News g L s.heap [(aL, PySem.W.listOf (List.toArray []) 0), (aP, PySem.W.listOf pv.toArray kP), (aO, PySem.W.listOf ov.toArray kO), (aN, PySem.W.listOf nv.toArray kN), (aC, PySem.W.listOf cv.toArray kC), (aW, PySem.W.listOf wv.toArray kW), (L + 1 + 1 + 1 + 1 + 1, o5), (L + 1 + 1 + 1 + 1, o4), (L + 1 + 1 + 1, o3), (L + 1 + 1, o2), (L + 1, o1)]) (hAL : AllNe aL [(aP, PySem.W.listOf pv.toArray kP), (aO, PySem.W.listOf ov.toArray kO), (aN, PySem.W.listOf nv.toArray kN), (aC, PySem.W.listOf cv.toArray kC), (aW, PySem.W.listOf wv.toArray kW), (L + 1 + 1 + 1 + 1 + 1, o5), (L + 1 + 1 + 1 + 1, o4), (L + 1 + 1 + 1, o3), (L + 1 + 1, o2), (L + 1, o1)]) (d1 : o1.data = .cell (some (.ref aW))) (d2 : o2.data = .cell (some (.ref aC))) (d3 : o3.data = .cell (some (.ref aN))) (d4 : o4.data = .cell (some (.ref aP))) (d5 : o5.data = .cell (some (.ref aL))) (iW : IntsAre wv [1, 256, 131072, 83886080, 60129542144]) (iC : IntsAre cv cs) (lC : cs.length = 8) (iN : IntsAre nv (nats ns)) (lN : ns.length = 8) (bN : ∀ n ∈ ns, n < most) (eO : OctsAre ov ns) (eP : HexsAre pv ns) (mO : m (Str.ofString "octets") = some (.ref aO))
    (hq : ∀ h' tk (lv : List Value) (kL : Nat) (nl : List (Addr × Obj)) m', Fr g L h' m' → m' (Str.ofString "octets") = some (.ref aO) → News g L h' ((aL, PySem.W.listOf (List.toArray lv) kL) :: (aP, PySem.W.listOf pv.toArray kP)::(aO, PySem.W.listOf ov.toArray kO)::(aN, PySem.W.listOf nv.toArray kN)::(aC, PySem.W.listOf cv.toArray kC)::(aW, PySem.W.listOf wv.toArray kW)::(L + 1 + 1 + 1 + 1 + 1, o5)::(L + 1 + 1 + 1 + 1, o4)::(L + 1 + 1 + 1, o3)::(L + 1 + 1, o2)::(L + 1, o1)::nl) → PlsAre nl lv ns → Q .next { s with heap := h', toks := tk }) :
    wpAny (model Pr w) ⟨none, d, some [lawEnv L fa cd], none, u⟩ (execs ((lawBody.drop 11).take 1) (lawEnv L fa cd)) Q (fun _ _ => False) s := by
  obtain ⟨K0, mean, mg, mb, T⟩ := id X
  refine execs_cast (l' := [_]) rfl ?_
  have hOl := eO.len
  have hu : u + 64 < cLine := by have := hA'.un; show u + 64 < 9900; simp only at this; lia
  have hAs : s.heap.objs.size ≠ aL := fun e => absurd (Heap.lt_size (N _ (.head _)).1) (by rw [e]; exact Nat.lt_irrefl _)
  walk_at "my steps"
  all_goals (try exact default)
  refine for_listI rfl rfl rfl ⟨_, (N _ (by k_mem : (aO, PySem.W.listOf ov.toArray kO) ∈ _)).1, rfl, _, rfl⟩ (N _ (by k_mem : (aO, PySem.W.listOf ov.toArray kO) ∈ _)).2.1 F N
    (JFp s.heap.objs.size aL aP aO aN aC aW L pv ov nv cv wv kP kO kN kC kW o1 o2 o3 o4 o5 ns) ?_ ?_ ?_ ?_ ?_
  · exact (exi3 [] 0 [] ⟨rfl, trivial, (fun p hp => nomatch hp), mO⟩)
  · intro i m₁ _ hz19
    refine ex3 hz19 fun lv c nl hz145 => an4 hz145 fun he146 _ hne _ => ?_
    clear hz145
    try clear hz19
    subst he146
    have hA : ∀ p ∈ [(aL, PySem.W.listOf (List.toArray []) 0), (aP, PySem.W.listOf pv.toArray kP), (aO, PySem.W.listOf ov.toArray kO), (aN, PySem.W.listOf nv.toArray kN), (aC, PySem.W.listOf cv.toArray kC), (aW, PySem.W.listOf wv.toArray kW), (L + 1 + 1 + 1 + 1 + 1, o5), (L + 1 + 1 + 1 + 1, o4), (L + 1 + 1 + 1, o3), (L + 1 + 1, o2), (L + 1, o1)], p.1 ≠ s.heap.objs.size := fun p hp => Nat.ne_of_lt (Heap.lt_size (N p hp).1)
    simp only [List.forall_mem_cons] at hA ⊢
    refine an12 hA fun q1 q2 q3 q4 q5 q6 q7 q8 q9 q10 q11 _ => ?_
    try clear hA
    exact ⟨q1, q2, q3, q4, q5, q6, q7, q8, q9, q10, q11, fun p hp => (hne p hp).2⟩
  · exact .inr ⟨PySem.W.listOf ov.toArray kO, fun i m₁ news hj => by obtain ⟨lv, c, nl, rfl, _⟩ := hj; k_mem⟩
  · intro I hI i v m₁ news₁ h₁ tk₁ oI hin hv hz20
    refine ex3 hz20 fun lv c nl hz143 => an4 hz143 fun he144 hP hne mo => ?_
    clear hz143
    try clear hz20
    subst he144
    intro F₁ N₁
    replace F₁ : Fr _ L _ _ := F₁
    replace N₁ : News _ L _ _ := N₁
    refine ex1 (Els.at' eO (by simpa using hv)) fun n hz140 => an2 hz140 fun en hz141 => ex1 hz141 fun t he142 => ?_
    clear hz140 hz141
    subst he142
    have hn := bN n (List.mem_of_getElem? en)
    have et := take_succ en
    have h9 := octB_size hn
    have hz : (octB n).size ≤ 1000 := Nat.le_trans h9 (by decide)
    have hOn := octB_list hn
    have hWz := b64B_size (octB n)
    have hWr := wrote_b64 (octB n)
    have hPd := pads_ints (octB n)
    have hV := sv_eq (octB n)
    have hf1 := fits1 (octB n) h9
    have hf2 := fits2 (octB n) h9
    have hSz := sext_size (octs n)
    have hOl : (octs n).length = (octB n).size := by rw [← hOn, List.length_map, Array.length_toList]
    rw [hOn] at hWr hPd hV hf1 hf2
    have hf1 : IntMulOk (valI 64 (nats (sext (octs n)))) ((256 : Int) ^ (((octB n).size : Nat) : Int).toNat) := hf1
    have hV : valI 64 (nats (sext (octs n))) * (256 : Int) ^ (((octB n).size : Nat) : Int).toNat = _ := hV
    have hWb : (b64B (octB n)).size ≤ 12 := by rw [hWz]; exact Nat.mul_le_mul_right 4 (Nat.div_le_div_right (c := 3) (Nat.add_le_add_right h9 2))
    have hWz' : (b64B (octB n)).size ≤ 1000 := Nat.le_trans hWb (by decide)
    have hWI : ((b64B (octB n)).size : Int) = (((octB n).size : Int) + 2) / 3 * 4 := by rw [hWz]; rfl
    clear hWz
    have hy0 : Unit → (sext (octs n)).length = (4 * (octB n).size + 2) / 3 := fun _ => hSz.trans (by rw [hOl])
    clear hSz hOl
    walk_at "my steps"
    rename Fr _ _ _ _ => F₂
    rename News _ _ _ _ => N₂
    refine t_b64 (k := k + 90) (X.grow F₂.keep) (hA'.mono (by lia)) _ t hz fun s' tw hs => ?_
    refine ex2 hs fun h₃ tk₃ hz138 => an2 hz138 fun he139 kk => ?_
    clear hz138
    try clear hs
    subst he139
    have F₃ := frGrow F₂ kk
    have N₃ := newsGrow N₂ kk
    clear F₂ N₂ kk
    walk_at "my steps"
    rename Fr _ _ _ _ => F₂
    rename News _ _ _ _ => N₂
    refine t_places (k := k + 90) (X.grow F₂.keep) (hA'.mono (by lia)) (b64B (octB n)) tw hWz' (sext (octs n)) hWr fun D cap h₄ tk₄ ys kk nD gD iD => ?_
    have hDI : D ≠ I := fun e => by rw [e, (N₂ _ (by k_mem : (I, oI) ∈ _)).1] at nD; cases nD
    have hDL : D ≠ aL := fun e => by rw [e, (N₂ _ (by k_mem : (aL, PySem.W.listOf (List.toArray lv) c) ∈ _)).1] at nD; cases nD
    have F₃ := frGrow F₂ kk
    have N₃ := newsAdd F₂ N₂ kk gD nD
    clear F₂ N₂ kk nD gD
    have hyl : ys.length = (4 * (octB n).size + 2) / 3 := by rw [iD.length, nats, List.length_map]; exact hy0 ()
    have hyb : ys.length ≤ 12 := by rw [hyl]; exact Nat.div_le_div_right (c := 3) (Nat.add_le_add_right (Nat.mul_le_mul_left 4 h9) 2)
    have hyI : (ys.length : Int) = (4 * ((octB n).size : Int) + 2) / 3 := by rw [hyl]; rfl
    clear hyl hy0
    have hyz : ys.toArray.size = ys.length := List.size_toArray
    have hyl' : ys.length = (sext (octs n)).length := by rw [iD.length, nats, List.length_map]
    rw [← hyl'] at hV hf2 hPd
    have hPk : (((b64B (octB n)).size : Int) - (ys.length : Int)).toNat = pads ((octB n).size % 3) := by
      have e : (b64B (octB n)).size = (sext (octs n)).length + pads ((octB n).size % 3) := (b64B_split (octB n)).trans (congrArg (fun l => (sext l).length + pads ((octB n).size % 3)) hOn)
      rw [e, ← hyl', Int.natCast_add, Int.add_comm, Int.add_sub_cancel]; rfl
    clear hyl'
    walk_at "to append"
    rename Fr _ _ _ _ => F₂
    rename News _ _ _ _ => N₂
    refine KM.mul F₂ N₂ ⟨_, (N₂ _ (.head _)).1, rfl, _, rfl⟩ (ns := [61]) (.cons _ _ .nil) (by lia) (by lia) (by simp; lia) fun D₂ h₅ F₃ N₃ _ iM _ _ _ _ _ => ?_
    walk_at "to append"
    rename Fr _ _ _ _ => F₂
    rename News _ _ _ _ => N₂
    rename IntsAre _ (KBw.bInts _) => iS
    refine ne_intsK ⟨_, (N₂ _ (.tail _ (.tail _ (.head _)))).1, rfl, _, rfl⟩ iS ⟨_, (N₂ _ (.head _)).1, rfl, _, rfl⟩ iM hu ?_
    rw [hPd, rep61, hPk, show (!decide (List.replicate (pads ((octB n).size % 3)) (61 : Int) = List.replicate (pads ((octB n).size % 3)) (61 : Int))) = false by simp]
    replace N₂ := newsRm0 (newsRm0 (newsRm0 N₂))
    clear iS iM
    walk_at "to append"
    rename Fr _ _ _ _ => F₃
    rename News _ _ _ _ => N₃
    refine t_value (k := k + 90) (X.grow F₃.keep) (hA'.mono (by lia)) D ys _ ⟨_, (N₃ _ (.head _)).1, rfl, _, rfl⟩ iD 64 _ (by decide) fun s' tv hs => ?_
    refine ex2 hs fun h₆ tk₆ hz136 => an2 hz136 fun he137 kk => ?_
    clear hz136
    try clear hs
    subst he137
    have F₄ := frGrow F₃ kk
    have N₄ := newsGrow N₃ kk
    clear F₃ N₃ kk
    walk_at "to append"
    rename Fr _ _ _ _ => F₃
    rename News _ _ _ _ => N₃
    refine t_valueB (k := k + 90) (X.grow F₃.keep) (hA'.mono (by lia)) (octB n) t 256 _ (by decide) fun s' tv' hs => ?_
    refine ex2 hs fun h₇ tk₇ hz134 => an2 hz134 fun he135 kk => ?_
    clear hz134
    try clear hs
    subst he135
    have F₄ := frGrow F₃ kk
    have N₄ := newsGrow N₃ kk
    clear F₃ N₃ kk
    walk_at "to append"
    rename Fr _ _ _ _ => F₂
    rename News _ _ _ _ => N₂
    have hIL : I ≠ aL := by rw [hI]; exact hAs
    have hlz : lv.length ≤ 100000 := by rw [hP.len, List.length_take]; lia
    refine appendN (own := [_, _]) F₂ N₂ (by intro p hp; simp only [List.mem_cons, List.not_mem_nil, or_false] at hp; rcases hp with rfl | rfl; exact hDL; exact hIL) ?_ hlz fun h₈ F₃ N₃ => ?_
    · have := AllNe.mem hAL
      simp only [List.forall_mem_cons] at this ⊢
      refine an11 this fun q1 q2 q3 q4 q5 q6 q7 q8 q9 q10 _ => ?_
      try clear this
      exact ⟨q1, q2, q3, q4, q5, q6, q7, q8, q9, q10, fun p hp => (hne p hp).1⟩
    refine TurnEnd.go F₃ (newsSub N₃ ?_) (exi3 (lv ++ [.ref D]) (c + 1) ((D, PySem.W.listOf (List.toArray ys) cap) :: nl) ⟨rfl, ?_, ?_, ?_⟩)
    · intro p hp
      exact mem_front (l := [_, _, _, _, _, _, _, _, _, _, _, _]) hp
    · rw [et]
      exact Els.snoc (PlsAre.more hP fun p hp => .tail _ hp) (exi3 D ys cap ⟨rfl, .head _, iD⟩)
    · intro p hp
      rcases List.mem_cons.mp hp with rfl | hp
      · exact ⟨hDL, by rw [← hI]; exact hDI⟩
      · exact hne p hp
    · walk_at "look"
  · intro h' tk m' news' F' N' ⟨lv, c, nl, e, hP, hne, mo⟩
    subst e
    rw [List.take_of_length_le (by rw [List.size_toArray, hOl]; exact Nat.le_refl _)] at hP
    exact hq _ _ _ _ _ _ F' mo N' hP
end

section
open PySem PySem.W PyProof.Rows PySem.Calls
theorem order_cmpL : ∀ a b : List UInt8, Builtin.Bytes.order a b = cmpL (a.map fun c => c.toNat) (b.map fun c => c.toNat)
  | [], [] => rfl
  | [], _ :: _ => rfl
  | _ :: _, [] => rfl
  | x :: a, y :: b => by
    have ih := order_cmpL a b
    unfold Builtin.Bytes.order
    simp only [List.map_cons, cmpL, ← ih, gt_iff_lt, UInt8.lt_iff_toNat_lt]
theorem upD_lt {a b : Nat} (h : a < b) (hb : b < 16) : upD a < upD b := by
  unfold upD; split <;> split <;> lia
noncomputable def hexl (l : List Nat) : List Nat := l.flatMap fun c => [upD (c / 16), upD (c % 16)]
theorem hexl_cons (x : Nat) (l : List Nat) : hexl (x :: l) = upD (x / 16) :: upD (x % 16) :: hexl l := rfl
theorem hexl_cmp : ∀ a b : List Nat, (∀ x ∈ a, x < 256) → (∀ x ∈ b, x < 256) → cmpL (hexl a) (hexl b) = cmpL a b
  | [], [], _, _ => rfl
  | [], _ :: _, _, _ => rfl
  | _ :: _, [], _, _ => rfl
  | x :: a, y :: b, ha, hb => by
    have hx := ha x (.head _)
    have hy := hb y (.head _)
    rw [hexl_cons, hexl_cons]
    rcases Nat.lt_trichotomy x y with c | c | c
    · rw [cmpL_lt c]
      rcases Nat.lt_or_ge (x / 16) (y / 16) with d | d
      · exact cmpL_lt (upD_lt d (Nat.div_lt_of_lt_mul hy))
      · have g := divEq 16 c d
        rw [g, cmpL_eq]
        exact cmpL_lt (upD_lt (modLt c g) (Nat.mod_lt _ (by decide)))
    · subst c
      rw [cmpL_eq, cmpL_eq, cmpL_eq]
      exact hexl_cmp a b (fun z hz => ha z (.tail _ hz)) fun z hz => hb z (.tail _ hz)
    · rw [cmpL_gt c]
      rcases Nat.lt_or_ge (y / 16) (x / 16) with d | d
      · exact cmpL_gt (upD_lt d (Nat.div_lt_of_lt_mul hx))
      · have g := divEq 16 c d
        rw [g, cmpL_eq]
        exact cmpL_gt (upD_lt (modLt c g) (Nat.mod_lt _ (by decide)))
theorem bytes_lt (l : List UInt8) : ∀ x ∈ l.map (fun c => c.toNat), x < 256 := by
  intro x hx
  refine ex1 (List.mem_map.mp hx) fun c hz294 => an2 hz294 fun _ he295 => ?_
  clear hz294
  subst he295
  exact c.toNat_lt
theorem cmpI_nats : ∀ a b : List Nat, cmpI (nats a) (nats b) = cmpL a b
  | [], [] => rfl
  | [], _ :: _ => rfl
  | _ :: _, [] => rfl
  | x :: a, y :: b => by
    have ih := cmpI_nats a b
    simp only [nats, List.map_cons, cmpI, cmpL] at ih ⊢
    rw [ih]
    simp only [Int.ofNat_lt, gt_iff_lt]
theorem due_sgn (n m : Nat) : ((n : Int) - (m : Int)) / max 1 (((n : Int) - (m : Int)).natAbs : Int) = sgn (compare n m) := by
  rcases Nat.lt_trichotomy n m with c | c | c
  · have hd := Int.sub_neg_of_lt (Int.ofNat_lt.mpr c)
    rw [Nat.compare_eq_lt.mpr c, Int.ofNat_natAbs_of_nonpos (Int.le_of_lt hd), Int.max_eq_right (show (1 : Int) ≤ _ from Int.add_one_le_of_lt (Int.neg_pos_of_neg hd)), Int.ediv_neg, Int.ediv_self (Int.ne_of_lt hd)]; rfl
  · subst c
    rw [Nat.compare_eq_eq.mpr rfl]; simp [sgn]
  · have hd := Int.sub_pos_of_lt (Int.ofNat_lt.mpr c)
    rw [Nat.compare_eq_gt.mpr c, Int.natAbs_of_nonneg (Int.le_of_lt hd), Int.max_eq_right (show (1 : Int) ≤ _ from Int.add_one_le_of_lt hd), Int.ediv_self (Int.ne_of_gt hd)]; rfl
theorem hexB_hexl (b : Array UInt8) : (hexB b).toList.map (fun c => c.toNat) = hexl (b.toList.map fun c => c.toNat) := by
  rw [hexB_list, figs, hexl, List.map_flatMap, List.flatMap_map]
  rfl
theorem hex_order {n m : Nat} (hn : n < most) (hm : m < most) : Builtin.Bytes.order (hexB (octB n)).toList (hexB (octB m)).toList = compare n m := by
  rw [order_cmpL, hexB_hexl, hexB_hexl, hexl_cmp _ _ (bytes_lt _) (bytes_lt _), octB_list hn, octB_list hm, octs_cmp hn hm]
theorem sext_order {n m : Nat} (hn : n < most) (hm : m < most) : cmpI (nats (sext (octs n))) (nats (sext (octs m))) = compare n m := by
  rw [cmpI_nats, sext_cmp (octs_lt hn) (octs_lt hm), octs_cmp hn hm]
theorem picked_from (b : Array UInt8) (i : Nat) : (KBy.picked b (some (i : Int)) none).toList = b.toList.drop i := by
  rw [KBc.picked_eq]
  simp only [Option.elim]
  rw [clipAt_nat]
  by_cases hi : i ≤ b.size
  · rw [Nat.min_eq_left hi, List.take_of_length_le (by simp)]
  · rw [Nat.min_eq_right (by lia), List.drop_eq_nil_of_le (by simp), List.drop_eq_nil_of_le (by simp; lia)]; simp
theorem hexl_drop (l : List Nat) : (hexl l).drop 2 = hexl (l.drop 1) := by
  cases l <;> rfl
theorem tail_order (a b : Array UInt8) : Builtin.Bytes.order (KBy.picked (hexB a) (some 2) none).toList (KBy.picked (hexB b) (some 2) none).toList = Builtin.Bytes.order (KBy.picked a (some 1) none).toList (KBy.picked b (some 1) none).toList := by
  have e1 := picked_from (hexB a) 2
  have e2 := picked_from (hexB b) 2
  have e3 := picked_from a 1
  have e4 := picked_from b 1
  rw [show ((2 : Nat) : Int) = 2 from rfl] at e1 e2
  rw [show ((1 : Nat) : Int) = 1 from rfl] at e3 e4
  rw [e1, e2, e3, e4, order_cmpL, order_cmpL, List.map_drop, List.map_drop, hexB_hexl, hexB_hexl, hexl_drop, hexl_drop, List.map_drop, List.map_drop]
  exact hexl_cmp _ _ (fun x hx => bytes_lt _ x (List.mem_of_mem_drop hx)) fun x hx => bytes_lt _ x (List.mem_of_mem_drop hx)
theorem absIf (d : Int) : (if d < 0 then -d else d) = (d.natAbs : Int) := by
  split
  · exact (Int.ofNat_natAbs_of_nonpos (Int.le_of_lt (by assumption))).symm
  · exact (Int.natAbs_of_nonneg (Int.not_lt.mp (by assumption))).symm
theorem maxIf (x : Int) : (if x > 1 then x else 1) = max 1 x := by
  by_cases h : x > 1
  · rw [if_pos h, Int.max_eq_right (Int.le_of_lt h)]
  · rw [if_neg h, Int.max_eq_left (Int.not_lt.mp h)]
theorem due_ifs (n m : Nat) : ((n : Int) - (m : Int)) / (if (if (n : Int) - (m : Int) < 0 then -((n : Int) - (m : Int)) else (n : Int) - (m : Int)) > 1 then (if (n : Int) - (m : Int) < 0 then -((n : Int) - (m : Int)) else (n : Int) - (m : Int)) else 1) = sgn (compare n m) := by
  rw [absIf, maxIf, due_sgn]
end

section
open PySem PySem.W PyProof.Rows PySem.Calls
variable {w : World} {A : Around} {s : Shared} {E : Value → Shared → Prop}
local macro_rules | `(tactic| walk_at "exec For Name List cons nil") => `(tactic| (k_dflt (refine wpAny_For ?_)))
local macro_rules | `(tactic| walk_at "compareOp NotEq int int") => `(tactic| refine ne_same (by first | with_reducible assumption | rfl | omega) ?_)
noncomputable def bodyK : List Stmt := match lawBody.drop 12 with
  | .For _ _ body _ _ :: _ => body
  | _ => []
noncomputable def bodyM : List Stmt := match bodyK with
  | .For _ _ body _ _ :: _ => body
  | _ => []
theorem nats_get {nv : List Value} {ns : List Nat} {i : Nat} (h : IntsAre nv (nats ns)) (hi : i < ns.length) : ∃ n t, ns[i]? = some n ∧ nv[i]? = some (.int ((n : Nat) : Int) t) := by
  have hl : i < nv.length := by rw [h.length, nats, List.length_map]; exact hi
  refine ex2 (nats_at h (List.getElem?_eq_getElem hl)) fun n t hz172 => an2 hz172 fun e1 e2 => ?_
  clear hz172
  exact (exi2 n t ⟨e1, by rw [List.getElem?_eq_getElem hl, e2]⟩)
theorem Els.on {El : Value → Nat → Prop} {vs : List Value} {ks : List Nat} {i n : Nat} (h : Els El vs ks) (e : ks[i]? = some n) : ∃ v, vs[i]? = some v ∧ El v n := by
  have hi : i < ks.length := (List.getElem?_eq_some_iff.mp e).1
  refine ex2 (h.at hi) fun v k hz171 => an3 hz171 fun a b c => ?_
  clear hz171
  rw [e] at b
  injection b with b
  exact ⟨v, a, b ▸ c⟩
theorem turnM {L fa : Addr} {cd : Value} {g : Heap} {m : Str → Option Value} {d u : Nat} {Q : Flow → Shared → Prop} (X : Wd w g) {k : Nat} (hA' : Ar ⟨none, d, some [lawEnv L fa cd], none, u⟩ (k + 100)) (F : Fr g L s.heap m)
    {aW aC aN : Addr} {wv cv nv : List Value} {kW kC kN : Nat} {cs : List Int} {ns : List Nat} {o1 o2 o3 o4 o5 : Obj} {aO aP : Addr} {ov pv : List Value} {kO kP : Nat} {aL : Addr} {lv : List Value} {kL : Nat} {nl : List (Addr × Obj)} {J1 I1 : Addr} {q1 q2 : Obj} (N : News g L s.heap ((J1, q1) :: (I1, q2) :: (aL, PySem.W.listOf lv.toArray kL)::(aP, PySem.W.listOf pv.toArray kP)::(aO, PySem.W.listOf ov.toArray kO)::(aN, PySem.W.listOf nv.toArray kN)::(aC, PySem.W.listOf cv.toArray kC)::(aW, PySem.W.listOf wv.toArray kW)::(L + 1 + 1 + 1 + 1 + 1, o5)::(L + 1 + 1 + 1 + 1, o4)::(L + 1 + 1 + 1, o3)::(L + 1 + 1, o2)::(L + 1, o1)::nl)) (d1 : o1.data = .cell (some (.ref aW))) (d2 : o2.data = .cell (some (.ref aC))) (d3 : o3.data = .cell (some (.ref aN))) (d4 : o4.data = .cell (some (.ref aP))) (d5 : o5.data = .cell (some (.ref aL))) (iW : IntsAre wv [1, 256, 131072, 83886080, 60129542144]) (iC : IntsAre cv cs) (lC : cs.length = 8) (iN : IntsAre nv (nats ns)) (lN : ns.length = 8) (bN : ∀ n ∈ ns, n < most) (eO : OctsAre ov ns) (eP : HexsAre pv ns) (mO : m (Str.ofString "octets") = some (.ref aO)) (eL : PlsAre nl lv ns)
    {i j : Nat} {ti tj : Tok} (hi : i < 8) (hj : j < 8) (mk : m (Str.ofString "k") = some (.int (i : Int) ti)) (mm : m (Str.ofString "m") = some (.int (j : Int) tj))
    (hq : ∀ h' tk m', Fr g L h' m' → m' (Str.ofString "octets") = some (.ref aO) → m' (Str.ofString "k") = some (.int (i : Int) ti) → News g L h' ((J1, q1) :: (I1, q2) :: (aL, PySem.W.listOf lv.toArray kL)::(aP, PySem.W.listOf pv.toArray kP)::(aO, PySem.W.listOf ov.toArray kO)::(aN, PySem.W.listOf nv.toArray kN)::(aC, PySem.W.listOf cv.toArray kC)::(aW, PySem.W.listOf wv.toArray kW)::(L + 1 + 1 + 1 + 1 + 1, o5)::(L + 1 + 1 + 1 + 1, o4)::(L + 1 + 1 + 1, o3)::(L + 1 + 1, o2)::(L + 1, o1)::nl) → Q .next { s with heap := h', toks := tk }) :
    wpAny (model Pr w) ⟨none, d, some [lawEnv L fa cd], none, u⟩ (execs bodyM (lawEnv L fa cd)) Q (fun _ _ => False) s := by
  obtain ⟨K0, mean, mg, mb, T⟩ := id X
  refine execs_cast (l' := [_, _]) rfl ?_
  have hOl := eO.len
  have hu : u + 64 < cLine := by have := hA'.un; show u + 64 < 9900; simp only at this; lia
  refine ex2 (nats_get iN (show i < ns.length by lia)) fun a ta hz170 => an2 hz170 fun ea va => ?_
  clear hz170
  refine ex2 (nats_get iN (show j < ns.length by lia)) fun b tb hz169 => an2 hz169 fun eb vb => ?_
  clear hz169
  have ha := bN a (List.mem_of_getElem? ea)
  have hb := bN b (List.mem_of_getElem? eb)
  have hds := due_ifs a b
  have hhx := hex_order ha hb
  have hsx := sext_order ha hb
  refine ex1 (eP.on ea) fun _ hz166 => an2 hz166 fun xa hz167 => ex1 hz167 fun sa he168 => ?_
  clear hz166 hz167
  subst he168
  refine ex1 (eP.on eb) fun _ hz163 => an2 hz163 fun xb hz164 => ex1 hz164 fun sb he165 => ?_
  clear hz163 hz164
  subst he165
  refine ex1 (Els.on eL ea) fun _ hz159 => an2 hz159 fun ya hz160 => ex3 hz160 fun Da va' ca hz161 => an3 hz161 fun he162 ma ia => ?_
  clear hz159 hz160 hz161
  subst he162
  refine ex1 (Els.on eL eb) fun _ hz155 => an2 hz155 fun yb hz156 => ex3 hz156 fun Db vb' cb hz157 => an3 hz157 fun he158 mb' ib => ?_
  clear hz155 hz156 hz157
  subst he158
  unfold most at ha hb
  walk_at "item"
  refine item_in (its := nv) ⟨_, (N _ (by k_mem : (aN, PySem.W.listOf nv.toArray kN) ∈ _)).1, rfl, _, rfl⟩ (by lia) (by lia) (v := .int (a : Int) ta) (by rw [Int.toNat_natCast]; exact va) ?_
  walk_at "item"
  refine item_in (its := nv) ⟨_, (N _ (by k_mem : (aN, PySem.W.listOf nv.toArray kN) ∈ _)).1, rfl, _, rfl⟩ (by lia) (by lia) (v := .int (b : Int) tb) (by rw [Int.toNat_natCast]; exact vb) ?_
  walk_at "item"
  refine item_in (its := nv) ⟨_, (N _ (by k_mem : (aN, PySem.W.listOf nv.toArray kN) ∈ _)).1, rfl, _, rfl⟩ (by lia) (by lia) (v := .int (a : Int) ta) (by rw [Int.toNat_natCast]; exact va) ?_
  walk_at "item"
  refine item_in (its := nv) ⟨_, (N _ (by k_mem : (aN, PySem.W.listOf nv.toArray kN) ∈ _)).1, rfl, _, rfl⟩ (by lia) (by lia) (v := .int (b : Int) tb) (by rw [Int.toNat_natCast]; exact vb) ?_
  walk_at "item"
  rename News _ _ _ _ => N₂
  refine item_in (its := pv) ⟨_, (N₂ _ (by k_mem : (aP, PySem.W.listOf pv.toArray kP) ∈ _)).1, rfl, _, rfl⟩ (by lia) (by lia) (v := .bytes (hexB (octB a)) sa) (by rw [Int.toNat_natCast]; exact xa) ?_
  walk_at "item"
  refine item_in (its := pv) ⟨_, (N₂ _ (by k_mem : (aP, PySem.W.listOf pv.toArray kP) ∈ _)).1, rfl, _, rfl⟩ (by lia) (by lia) (v := .bytes (hexB (octB b)) sb) (by rw [Int.toNat_natCast]; exact xb) ?_
  walk_at "item"
  rename Fr _ _ _ _ => F₃
  rename News _ _ _ _ => N₃
  refine t_cmpB (k := k + 90) (X.grow F₃.keep) (hA'.mono (by lia)) _ _ sa sb fun s' t1 hs => ?_
  refine ex2 hs fun h₂ tk₂ hz153 => an2 hz153 fun he154 kk => ?_
  clear hz153
  try clear hs
  subst he154
  have F₄ := frGrow F₃ kk
  have N₄ := newsGrow N₃ kk
  clear F₃ N₃ kk
  rw [hhx]
  walk_at "item"
  rename News _ _ _ _ => N₂
  refine item_in (its := lv) ⟨_, (N₂ _ (by k_mem : (aL, PySem.W.listOf lv.toArray kL) ∈ _)).1, rfl, _, rfl⟩ (by lia) (by lia) (v := .ref Da) (by rw [Int.toNat_natCast]; exact ya) ?_
  walk_at "item"
  refine item_in (its := lv) ⟨_, (N₂ _ (by k_mem : (aL, PySem.W.listOf lv.toArray kL) ∈ _)).1, rfl, _, rfl⟩ (by lia) (by lia) (v := .ref Db) (by rw [Int.toNat_natCast]; exact yb) ?_
  walk_at "item"
  rename Fr _ _ _ _ => F₃
  rename News _ _ _ _ => N₃
  have up : ∀ p ∈ nl, p ∈ (J1, q1) :: (I1, q2) :: (aL, PySem.W.listOf lv.toArray kL)::(aP, PySem.W.listOf pv.toArray kP)::(aO, PySem.W.listOf ov.toArray kO)::(aN, PySem.W.listOf nv.toArray kN)::(aC, PySem.W.listOf cv.toArray kC)::(aW, PySem.W.listOf wv.toArray kW)::(L + 1 + 1 + 1 + 1 + 1, o5)::(L + 1 + 1 + 1 + 1, o4)::(L + 1 + 1 + 1, o3)::(L + 1 + 1, o2)::(L + 1, o1)::nl := fun p hp => by
    simp only [List.mem_cons]; simp only [hp, or_true]
  refine t_cmpL (k := k + 90) (X.grow F₃.keep) (hA'.mono (by lia)) Da Db _ _ (exi2 va' ca ⟨(N₃ _ (up _ ma)).1, ia⟩) (exi2 vb' cb ⟨(N₃ _ (up _ mb')).1, ib⟩) fun s' t2 hs => ?_
  refine ex2 hs fun h₂ tk₂ hz151 => an2 hz151 fun he152 kk => ?_
  clear hz151
  try clear hs
  subst he152
  have F₄ := frGrow F₃ kk
  have N₄ := newsGrow N₃ kk
  clear F₃ N₃ kk
  rw [hsx]
  walk_at "item"
  rename Fr _ _ _ _ => F₃
  rename News _ _ _ _ => N₃
  rw [hds] at F₃
  generalize sgn (compare a b) = z at *
  have N₅ := N₃
  refine for_listI rfl rfl rfl ⟨_, (N₃ _ (.head _)).1, rfl, _, rfl⟩ (N₃ _ (.head _)).2.1 F₃ N₃
    (fun i' m₁ news => (∃ td, m₁ (Str.ofString "due") = some (.int z td)) ∧ m₁ (Str.ofString "octets") = some (.ref aO) ∧ m₁ (Str.ofString "k") = some (.int (i : Int) ti) ∧ news = _) ⟨⟨_, by walk_at "look"⟩, by walk_at "look", by walk_at "look", rfl⟩ ?_ (.inr ⟨_, fun _ _ _ hj => by obtain ⟨-, -, -, rfl⟩ := hj; exact .head _⟩) ?_ ?_
  · intro _ _ _ hz21
    refine an4 hz21 fun _ _ _ he150 => ?_
    try clear hz21
    subst he150
    intro p hp
    exact Nat.ne_of_lt (Heap.lt_size (N₃ p hp).1)
  · intro I hI i' v m₁ news₁ h₁ tk₁ oI hin hv hz22
    refine an4 hz22 fun hz148 mo mk' he149 => ?_
    try clear hz22
    obtain ⟨td, md⟩ := hz148
    subst he149
    intro F₁ N₁
    replace F₁ : Fr _ L _ _ := F₁
    replace N₁ : News _ L _ _ := N₁
    obtain ⟨tv, rfl⟩ : ∃ tv, v = .int z tv := by
      match i', hin with
      | 0, _ => exact ⟨t1, by simpa using hv.symm⟩
      | 1, _ => exact ⟨t2, by simpa using hv.symm⟩
    walk_at "item"
    rename Fr _ _ _ _ => F₂
    rename News _ _ _ _ => N₂
    exact (TurnEnd.go F₂ N₂ ⟨⟨td, by walk_at "look"⟩, by walk_at "look", by walk_at "look", rfl⟩)
  · intro h' tk m' _ F' N' hz23
    refine an4 hz23 fun _ mo mk' he147 => ?_
    try clear hz23
    subst he147
    replace F' : Fr _ L _ _ := F'
    replace N' : News _ L _ _ := N'
    first | exact hq _ _ _ F' mo mk' (newsRm0 N') | exact wpAny_execs_nil (hq _ _ _ F' mo mk' (newsRm0 N'))
end

section
open PySem PySem.W PyProof.Rows PySem.Calls
variable {w : World} {A : Around} {s : Shared} {E : Value → Shared → Prop}
local macro_rules | `(tactic| walk_at "compareOp NotEq int int") => `(tactic| refine ne_same (by first | with_reducible assumption | rfl | omega) ?_)
theorem item_prev {value slice : PySem.Expr} {l : Addr} {its : List Value} {i : Nat} {u : Tok} {v : Value} {Q : Value → Shared → Prop} (hl : s.heap.IsList l its.toArray) (hlen : its.length = 8) (hi : i < 8) (hx : its[if i = 0 then 7 else i - 1]? = some v) (h : Q v s)
    (hs : subscripted slice false (.ref l) (.int ((i : Int) - 1) u) = operate [.ref l, .int ((i : Int) - 1) u] (getItem (.ref l) (.int ((i : Int) - 1) u)) := by with_unfolding_all rfl) :
    wpAny (model Pr w) A (subscriptTail value slice (.ref l) (.int ((i : Int) - 1) u)) Q E s := by
  refine tail_any hl.typeIs slot_list_getitem.lookup ?_ hs
  by_cases h0 : i = 0
  · subst h0
    refine wpAny_getItem_list_neg hl (by decide) (by rw [List.size_toArray, hlen]; decide) (by decide) ?_ h
    rw [List.size_toArray, hlen]
    simpa using hx
  · rw [if_neg h0] at hx
    refine wpAny_getItem_list hl (by lia) (by lia) ?_ h
    rw [show ((i : Int) - 1).toNat = i - 1 by lia]
    simpa using hx
theorem turnK {L fa : Addr} {cd : Value} {g : Heap} {m : Str → Option Value} {d u : Nat} {Q : Flow → Shared → Prop} (X : Wd w g) {k : Nat} (hA' : Ar ⟨none, d, some [lawEnv L fa cd], none, u⟩ (k + 100)) (F : Fr g L s.heap m)
    {aW aC aN : Addr} {wv cv nv : List Value} {kW kC kN : Nat} {cs : List Int} {ns : List Nat} {o1 o2 o3 o4 o5 : Obj} {aO aP : Addr} {ov pv : List Value} {kO kP : Nat} {aL : Addr} {lv : List Value} {kL : Nat} {nl : List (Addr × Obj)} {I1 : Addr} {q2 : Obj} (N : News g L s.heap ((I1, q2) :: (aL, PySem.W.listOf lv.toArray kL)::(aP, PySem.W.listOf pv.toArray kP)::(aO, PySem.W.listOf ov.toArray kO)::(aN, PySem.W.listOf nv.toArray kN)::(aC, PySem.W.listOf cv.toArray kC)::(aW, PySem.W.listOf wv.toArray kW)::(L + 1 + 1 + 1 + 1 + 1, o5)::(L + 1 + 1 + 1 + 1, o4)::(L + 1 + 1 + 1, o3)::(L + 1 + 1, o2)::(L + 1, o1)::nl)) (d1 : o1.data = .cell (some (.ref aW))) (d2 : o2.data = .cell (some (.ref aC))) (d3 : o3.data = .cell (some (.ref aN))) (d4 : o4.data = .cell (some (.ref aP))) (d5 : o5.data = .cell (some (.ref aL))) (iW : IntsAre wv [1, 256, 131072, 83886080, 60129542144]) (iC : IntsAre cv cs) (lC : cs.length = 8) (iN : IntsAre nv (nats ns)) (lN : ns.length = 8) (bN : ∀ n ∈ ns, n < most) (eO : OctsAre ov ns) (eP : HexsAre pv ns) (mO : m (Str.ofString "octets") = some (.ref aO)) (eL : PlsAre nl lv ns)
    {i : Nat} {ti : Tok} (hi : i < 8) (mk : m (Str.ofString "k") = some (.int (i : Int) ti))
    (hq : ∀ h' tk m', Fr g L h' m' → m' (Str.ofString "octets") = some (.ref aO) → News g L h' ((I1, q2) :: (aL, PySem.W.listOf lv.toArray kL)::(aP, PySem.W.listOf pv.toArray kP)::(aO, PySem.W.listOf ov.toArray kO)::(aN, PySem.W.listOf nv.toArray kN)::(aC, PySem.W.listOf cv.toArray kC)::(aW, PySem.W.listOf wv.toArray kW)::(L + 1 + 1 + 1 + 1 + 1, o5)::(L + 1 + 1 + 1 + 1, o4)::(L + 1 + 1 + 1, o3)::(L + 1 + 1, o2)::(L + 1, o1)::nl) → Q .next { s with heap := h', toks := tk }) :
    wpAny (model Pr w) ⟨none, d, some [lawEnv L fa cd], none, u⟩ (execs bodyK (lawEnv L fa cd)) Q (fun _ _ => False) s := by
  obtain ⟨K0, mean, mg, mb, T⟩ := id X
  refine execs_cast (l' := [_, _]) rfl ?_
  have hOl := eO.len
  have hPl := eP.len
  refine ex2 (eP.at (show i < ns.length by lia)) fun _ a hz189 => an3 hz189 fun xa ea hz190 => ex1 hz190 fun sa he191 => ?_
  clear hz189 hz190
  subst he191
  have hj : (if i = 0 then 7 else i - 1) < ns.length := by split <;> lia
  refine ex2 (eP.at hj) fun _ b hz186 => an3 hz186 fun xb eb hz187 => ex1 hz187 fun sb he188 => ?_
  clear hz186 hz187
  subst he188
  refine ex1 (eO.on ea) fun _ hz183 => an2 hz183 fun ya hz184 => ex1 hz184 fun ua he185 => ?_
  clear hz183 hz184
  subst he185
  refine ex1 (eO.on eb) fun _ hz180 => an2 hz180 fun yb hz181 => ex1 hz181 fun ub he182 => ?_
  clear hz180 hz181
  subst he182
  have ha := octB_size (bN a (List.mem_of_getElem? ea))
  have hb := octB_size (bN b (List.mem_of_getElem? eb))
  have hto := tail_order (octB a) (octB b)
  have hza : (hexB (octB a)).size ≤ 1000 := by
    have h1 := congrArg List.length (hexB_list (octB a))
    have h2 := figs_len (octB a)
    rw [List.length_map, List.length_map, Array.length_toList] at h1
    lia
  have hzb : (hexB (octB b)).size ≤ 1000 := by
    have h1 := congrArg List.length (hexB_list (octB b))
    have h2 := figs_len (octB b)
    rw [List.length_map, List.length_map, Array.length_toList] at h1
    lia
  have hya : (octB a).size ≤ 1000 := by lia
  have hyb : (octB b).size ≤ 1000 := by lia
  walk_at "item"
  rename IsRange _ _ _ _ _ _ _ _ => hr
  rename Fr _ _ _ _ => F₀
  rename News _ _ _ _ => N₀
  refine for_rangeI (n := i + 1) rfl rfl rfl hr (small_range (by lia) (by lia)) (by rw [size_range (by lia)]; lia) F₀ N₀
    (fun j m₁ news => m₁ (Str.ofString "octets") = some (.ref aO) ∧ m₁ (Str.ofString "k") = some (.int (i : Int) ti) ∧ news = _) ⟨mO, mk, rfl⟩ ?_ ?_ ?_
  · intro _ _ _ hz24
    refine an3 hz24 fun _ _ he179 => ?_
    try clear hz24
    subst he179
    intro p hp
    exact Nat.ne_of_lt (Heap.lt_size (N₀ p hp).1)
  · intro I hI j v m₁ news₁ h₁ tk₁ oI hin hz25
    refine an3 hz25 fun mo mk' he178 => ?_
    try clear hz25
    subst he178
    intro F₁ N₁
    replace F₁ : Fr _ L _ _ := F₁
    replace N₁ : News _ L _ _ := N₁
    refine execs_cast (l' := bodyM) rfl ?_
    exact turnM (s := { s with heap := h₁, toks := tk₁ }) X hA' F₁ N₁ d1 d2 d3 d4 d5 iW iC lC iN lN bN eO eP (by walk_at "look") eL hi (by lia) (by walk_at "look") (upd_at _ _ _) fun h' tk m' F₂ mo' mk₂ N₂ => (TurnEnd.go F₂ N₂ ⟨mo', mk₂, rfl⟩)
  · intro h' tk m' _ F' N' hz26
    refine an3 hz26 fun mo mk' he177 => ?_
    try clear hz26
    subst he177
    replace F' : Fr _ L _ _ := F'
    replace N' : News _ L _ _ := N'
    walk_at "item"
    refine item_in (its := pv) ⟨_, (N' _ (by k_mem : (aP, PySem.W.listOf pv.toArray kP) ∈ _)).1, rfl, _, rfl⟩ (by lia) (by lia) (v := .bytes (hexB (octB a)) sa) (by rw [Int.toNat_natCast]; exact xa) ?_
    walk_at "item"
    rename News _ _ _ _ => N₂
    refine item_prev (its := pv) ⟨_, (N₂ _ (by k_mem : (aP, PySem.W.listOf pv.toArray kP) ∈ _)).1, rfl, _, rfl⟩ (by lia) hi xb ?_
    walk_at "item"
    rename Fr _ _ _ _ => F₃
    rename News _ _ _ _ => N₃
    refine t_cmpB (k := k + 90) (X.grow F₃.keep) (hA'.mono (by lia)) _ _ _ _ fun s' t1 hs => ?_
    refine ex2 hs fun h₂ tk₂ hz175 => an2 hz175 fun he176 kk => ?_
    clear hz175
    try clear hs
    subst he176
    have F₄ := frGrow F₃ kk
    have N₄ := newsGrow N₃ kk
    clear F₃ N₃ kk
    rw [hto]
    walk_at "item"
    rename News _ _ _ _ => N₂
    refine item_in (its := ov) ⟨_, (N₂ _ (by k_mem : (aO, PySem.W.listOf ov.toArray kO) ∈ _)).1, rfl, _, rfl⟩ (by lia) (by lia) (v := .bytes (octB a) ua) (by rw [Int.toNat_natCast]; exact ya) ?_
    walk_at "item"
    rename News _ _ _ _ => N₂
    refine item_prev (its := ov) ⟨_, (N₂ _ (by k_mem : (aO, PySem.W.listOf ov.toArray kO) ∈ _)).1, rfl, _, rfl⟩ (by lia) hi yb ?_
    walk_at "item"
    rename Fr _ _ _ _ => F₃
    rename News _ _ _ _ => N₃
    refine t_unlike (k := k + 90) (X.grow F₃.keep) (hA'.mono (by lia)) _ _ _ _ (by_size (by lia)) (by_size (by lia)) fun s' t2 hs => ?_
    refine ex2 hs fun h₂ tk₂ hz173 => an2 hz173 fun he174 kk => ?_
    clear hz173
    try clear hs
    subst he174
    have F₄ := frGrow F₃ kk
    have N₄ := newsGrow N₃ kk
    clear F₃ N₃ kk
    walk_at "item"
    rename Fr _ _ _ _ => F₃
    rename News _ _ _ _ => N₃
    exact hq _ _ _ F₃ (by walk_at "look") N₃
end

section
open PySem PySem.W PyProof.Rows PySem.Calls
variable {w : World} {A : Around} {s : Shared} {E : Value → Shared → Prop}
theorem segG {L fa : Addr} {cd : Value} {g : Heap} {m : Str → Option Value} {d u : Nat} {Q : Flow → Shared → Prop} (X : Wd w g) {k : Nat} (hA' : Ar ⟨none, d, some [lawEnv L fa cd], none, u⟩ (k + 100)) (F : Fr g L s.heap m)
    {aW aC aN : Addr} {wv cv nv : List Value} {kW kC kN : Nat} {cs : List Int} {ns : List Nat} {o1 o2 o3 o4 o5 : Obj} {aO aP : Addr} {ov pv : List Value} {kO kP : Nat} {aL : Addr} {lv : List Value} {kL : Nat} {nl : List (Addr × Obj)} (N : News g L s.heap ((aL, PySem.W.listOf lv.toArray kL)::(aP, PySem.W.listOf pv.toArray kP)::(aO, PySem.W.listOf ov.toArray kO)::(aN, PySem.W.listOf nv.toArray kN)::(aC, PySem.W.listOf cv.toArray kC)::(aW, PySem.W.listOf wv.toArray kW)::(L + 1 + 1 + 1 + 1 + 1, o5)::(L + 1 + 1 + 1 + 1, o4)::(L + 1 + 1 + 1, o3)::(L + 1 + 1, o2)::(L + 1, o1)::nl)) (d1 : o1.data = .cell (some (.ref aW))) (d2 : o2.data = .cell (some (.ref aC))) (d3 : o3.data = .cell (some (.ref aN))) (d4 : o4.data = .cell (some (.ref aP))) (d5 : o5.data = .cell (some (.ref aL))) (iW : IntsAre wv [1, 256, 131072, 83886080, 60129542144]) (iC : IntsAre cv cs) (lC : cs.length = 8) (iN : IntsAre nv (nats ns)) (lN : ns.length = 8) (bN : ∀ n ∈ ns, n < most) (eO : OctsAre ov ns) (eP : HexsAre pv ns) (mO : m (Str.ofString "octets") = some (.ref aO)) (eL : PlsAre nl lv ns)
    (hq : ∀ h' tk m', Fr g L h' m' → m' (Str.ofString "octets") = some (.ref aO) → News g L h' ((aL, PySem.W.listOf lv.toArray kL)::(aP, PySem.W.listOf pv.toArray kP)::(aO, PySem.W.listOf ov.toArray kO)::(aN, PySem.W.listOf nv.toArray kN)::(aC, PySem.W.listOf cv.toArray kC)::(aW, PySem.W.listOf wv.toArray kW)::(L + 1 + 1 + 1 + 1 + 1, o5)::(L + 1 + 1 + 1 + 1, o4)::(L + 1 + 1 + 1, o3)::(L + 1 + 1, o2)::(L + 1, o1)::nl) → Q .next { s with heap := h', toks := tk }) :
    wpAny (model Pr w) ⟨none, d, some [lawEnv L fa cd], none, u⟩ (execs ((lawBody.drop 12).take 1) (lawEnv L fa cd)) Q (fun _ _ => False) s := by
  obtain ⟨K0, mean, mg, mb, T⟩ := id X
  refine execs_cast (l' := [_]) rfl ?_
  walk_at "item"
  rename IsRange _ _ _ _ _ _ _ _ => hr
  rename Fr _ _ _ _ => F₀
  rename News _ _ _ _ => N₀
  refine for_rangeI (n := 8) rfl rfl rfl hr (by decide) (by decide) F₀ N₀
    (fun j m₁ news => m₁ (Str.ofString "octets") = some (.ref aO) ∧ news = _) ⟨mO, rfl⟩ ?_ ?_ ?_
  · intro _ _ _ hz27
    refine an2 hz27 fun _ he194 => ?_
    try clear hz27
    subst he194
    intro p hp
    exact Nat.ne_of_lt (Heap.lt_size (N₀ p hp).1)
  · intro I hI j v m₁ news₁ h₁ tk₁ oI hin hz28
    refine an2 hz28 fun mo he193 => ?_
    try clear hz28
    subst he193
    intro F₁ N₁
    replace F₁ : Fr _ L _ _ := F₁
    replace N₁ : News _ L _ _ := N₁
    refine execs_cast (l' := bodyK) rfl ?_
    exact turnK (s := { s with heap := h₁, toks := tk₁ }) X hA' F₁ N₁ d1 d2 d3 d4 d5 iW iC lC iN lN bN eO eP (by walk_at "look") eL hin (upd_at _ _ _) fun h' tk m' F₂ mo' N₂ => (TurnEnd.go F₂ N₂ ⟨mo', rfl⟩)
  · intro h' tk m' _ F' N' hz29
    refine an2 hz29 fun mo he192 => ?_
    try clear hz29
    subst he192
    replace F' : Fr _ L _ _ := F'
    replace N' : News _ L _ _ := N'
    first | exact hq _ _ _ F' mo N' | exact wpAny_execs_nil (hq _ _ _ F' mo N')
end

section
open PySem PySem.W PyProof.Rows PySem.Calls PyProof.Rows.LCg PyProof.Rows.LCt
section
variable {prog : Program} {w : World} {A : Around} {E : Value → Shared → Prop} {s : Shared} {env : Env}
theorem TupAt.tuple {h₀ h : Heap} {L : Addr} {news : List (Addr × Obj)} {v : Value} {q : Nat} (N : News h₀ L h news) (x : TupAt news v q) : ∃ T t u, v = .ref T ∧ h.IsTuple T #[.int ((q / 8 : Nat) : Int) t, .int ((q % 8 : Nat) : Int) u] := by
  refine ex5 x fun a o t u n hz65 => an4 hz65 fun he66 ma ca da => ?_
  clear hz65
  try clear x
  subst he66
  exact (exi3 a t u ⟨rfl, o, (N _ ma).1, ca, n, da⟩)
/-- the turns of `[b for a, b in list of tuples]` -/
theorem loopP {iter : Expr} {a b : Str} {pa pb pe tp : Pos} {kk : Nat} {scope : Scope} {cl : List (Str × Addr)} {pos : Pos} {I ax D C L : Addr} {its : List Value} {ks : List Nat} {c : Nat} {h₀ : Heap} {m : Str → Option Value} {news : List (Addr × Obj)} {R : Result → Shared → Prop}
    (hh : A.handled = none) (hxa : scope.names.lookup a = some .local) (hxb : scope.names.lookup b = some .local) (hkind : scope.kind = .function) (hdb : (b == ("__debug__" : Str)) = false)
    (hIC : I ≠ C) (hID : I ≠ D) (hCD : C ≠ D) (hLI : L ≠ I) (hLC : L ≠ C) (hLD : L ≠ D) (h0I : h₀.get? I = none) (h0C : h₀.get? C = none) (h0D : h₀.get? D = none)
    (off : ∀ p ∈ (ax, PySem.W.listOf (List.toArray its) c) :: news, p.1 ≠ I ∧ p.1 ≠ C ∧ p.1 ≠ D) (hT : Els (TupAt news) its ks) (hz : ks.length ≤ 1000)
    (fin : ∀ ys h tk m', IntsAre ys (nats (ks.map (· % 8))) → Fr h₀ L h m → News h₀ L h ((D, lst ys) :: (ax, PySem.W.listOf (List.toArray its) c) :: news) → h.Ns C m' → R (.ok .next) { s with heap := h, toks := tk })
    (h₁ : Heap) (tk₁ : Nat) (m₁ : Str → Option Value) (hit₁ : h₁.IsListIter I ax 0) (hC₁ : h₁.Ns C m₁) (F₁ : Fr h₀ L h₁ m) (N₁ : News h₀ L h₁ ((D, lst []) :: (ax, PySem.W.listOf (List.toArray its) c) :: news)) :
    codeAny (model prog w) A (.compLoop (.ListComp (.Name b pe) [⟨.Tuple [.Name a pa, .Name b pb] kk tp, iter, [], 0⟩] scope pos) 0 (.ref I) (.ref D) (compEnvC scope cl C env)) R { s with heap := h₁, toks := tk₁ } := by
  have hlen := hT.len
  have hax := off _ (.head _)
  have offD : ∀ ys, ∀ p ∈ (D, lst ys) :: (ax, PySem.W.listOf (List.toArray its) c) :: news, p.1 ≠ I ∧ p.1 ≠ C := fun ys p hp => by
    rcases List.mem_cons.mp hp with rfl | hp
    · exact ⟨Ne.symm hID, Ne.symm hCD⟩
    · exact ⟨(off p hp).1, (off p hp).2.1⟩
  have W := Walks.list (prog := prog) (w := w) hh I ax hax.1 its.toArray
  refine kcp_loop (fun k s' => ∃ i ys h tk m', s' = { s with heap := h, toks := tk } ∧ i ≤ its.length ∧ k = its.length + 1 - i ∧ IntsAre ys (nats ((ks.take i).map (· % 8))) ∧ ys.length = i ∧ h.IsListIter I ax i ∧ h.Ns C m' ∧ Fr h₀ L h m ∧
      News h₀ L h ((D, lst ys) :: (ax, PySem.W.listOf (List.toArray its) c) :: news)) ?_ (its.length + 1) (exi5 0 [] h₁ tk₁ m₁ ⟨rfl, Nat.zero_le _, rfl, .nil, rfl, hit₁, hC₁, F₁, N₁⟩)
  intro k s' hz9
  refine ex5 hz9 fun i ys h tk m' hz62 => an9 hz62 fun he63 hi he64 hI hyl hit hC F N => ?_
  clear hz62
  try clear hz9
  subst he63
  subst he64
  have hl : h.IsList ax its.toArray := ⟨_, (N _ (.tail _ (.head _))).1, rfl, _, rfl⟩
  by_cases hlt : i < its.length
  · refine W.item i _ _ _ (by simpa using hlt) ⟨hit, hl⟩ fun v h₂ tk₂ hv st₂ hk₂ => ?_
    try dsimp only
    have F₂ := fr_but F hk₂ hLI h0I
    have N₂ := news_but N hk₂ fun p hp => (offD ys p hp).1
    refine ex1 (hT.at' (show its[i]? = some v by simpa using hv)) fun q hz61 => an2 hz61 fun eq hq => ?_
    clear hz61
    refine ex3 (hq.tuple (fun p hp => N₂ p (.tail _ (.tail _ hp)))) fun T t u hz59 => an2 hz59 fun he60 hTT => ?_
    clear hz59
    subst he60
    refine wpAny_letOwnedTupleGo_listiter st₂.1 ?_
    refine kcp_assign (env := compEnvC scope cl C env) hh hTT (lookup_relabel_local hxa) (lookup_relabel_local hxb) (by simp [compEnvC, relabel, hkind]) (hC.at' fun o e => hk₂ _ o (by simpa using Ne.symm hIC) e) fun h₃ tk₃ hn₃ hs₃ => ?_
    have hs₃' : ∀ c o, c ≠ C → h₂.get? c = some o → h₃.get? c = some o := hs₃
    rw [eval_Name (hd := hdb)]
    refine wpAny_bind (wpAny_standAt ?_)
    refine wpAny_loadName_local (v := .int ((q % 8 : Nat) : Int) u) (by simp [compEnvC, relabel, hkind]) (lookup_relabel_local hxb) hn₃ (by simp) ?_
    have zD := hs₃' D _ (Ne.symm hCD) (N₂ _ (.head _)).1
    refine append_at (hsz := by show ys.toArray.size ≤ sizeLine; rw [List.size_toArray, hyl, sizeLine_eq]; lia) zD fun h₅ hs₅ hD₅ => ?_
    have up : ∀ b o, b ≠ C → b ≠ D → h₂.get? b = some o → h₅.get? b = some o := fun b o h1 h2 e => hs₅.extBut b o h2 (hs₃' b o h1 e)
    refine ⟨its.length + 1 - (i + 1), by lia, exi5 (i + 1) (ys ++ [.int ((q % 8 : Nat) : Int) u]) h₅ _ _ ⟨rfl, by lia, rfl, ?_, by simp [hyl], ?_, hn₃.at' fun o e => hs₅.extBut _ _ hCD e, ?_, ?_⟩⟩
    · rw [take_succ eq, List.map_append, nats, List.map_append]
      exact .append hI (.cons _ _ .nil)
    · refine ex1 st₂.1 fun oI hz58 => an2 hz58 fun e1 e2 => ?_
      clear hz58
      exact ⟨oI, up _ _ hIC hID e1, e2⟩
    · exact ⟨F₂.ns.at' fun o e => up _ o hLC hLD e, fun b o e => up b o (fun q => by rw [q, h0C] at e; cases e) (fun q => by rw [q, h0D] at e; cases e) (F₂.keep b o e), F₂.above⟩
    · intro p hp
      rcases List.mem_cons.mp hp with rfl | hp
      · exact ⟨hD₅.trans (congrArg some (lst_snoc ys _)), Ne.symm hLD, h0D⟩
      · have z := N₂ p (.tail _ hp)
        exact ⟨up _ _ (off p hp).2.1 (off p hp).2.2 z.1, z.2⟩
  · obtain rfl : i = its.length := by lia
    refine W.done _ _ _ ⟨by simpa using hit, hl⟩ fun h₂ tk₂ hk₂ => ?_
    refine fin ys h₂ tk₂ m' ?_ (fr_but F hk₂ hLI h0I) (news_but N hk₂ fun p hp => (offD ys p hp).1) (hC.at' fun o e => hk₂ _ o (by simpa using Ne.symm hIC) e)
    rwa [List.take_of_length_le (by lia)] at hI
theorem compSnd {iter : Expr} {a b y : Str} {pa pb pe tp py : Pos} {kk : Nat} {scope : Scope} {cl : List (Str × Addr)} {pos spos : Pos} {Q : Flow → Shared → Prop}
    (hsw : swapsWith (.ListComp (.Name b pe) [⟨.Tuple [.Name a pa, .Name b pb] kk tp, iter, [], 0⟩] scope pos) (some (.Name y py)) spos.line env = pure true)
    (hclos : closureFor scope env = pure cl) (hcell : ∀ z ∈ scope.names, z.2 ≠ .cell) (hkind : scope.kind = .function)
    (hnames : ∀ z ∈ scope.names, z.2 = .local → scope.names.lookup z.1 = some .local) (hxa : scope.names.lookup a = some .local) (hxb : scope.names.lookup b = some .local) (hdb : (b == ("__debug__" : Str)) = false)
    (hy : env.kindOf y = some .local) (hp : (env.scope.kind == .class || (env.scope.kind == .module && env.locals != env.globals)) = false) (hh : A.handled = none)
    (h : wpAny (model prog w) A (eval iter env) (fun xv s₁ => ∃ ax its ks c h₀ m news, xv = .ref ax ∧ Fr h₀ env.locals s₁.heap m ∧ News h₀ env.locals s₁.heap ((ax, PySem.W.listOf (List.toArray its) c) :: news) ∧ Els (TupAt news) its ks ∧ ks.length ≤ 1000 ∧
      ∀ h' tk D ys, Fr h₀ env.locals h' (fun z => if z = y then some (.ref D) else m z) → News h₀ env.locals h' ((D, lst ys) :: (ax, PySem.W.listOf (List.toArray its) c) :: news) → IntsAre ys (nats (ks.map (· % 8))) → Q .next { s₁ with heap := h', toks := tk }) E s)
    (hs : ∀ x, foldedSetIterable iter env x = pure x := by intro _; rfl) :
    wpAny (model prog w) A (exec (.Assign [.Name y py] (.ListComp (.Name b pe) [⟨.Tuple [.Name a pa, .Name b pb] kk tp, iter, [], 0⟩] scope pos) spos) env) Q E s := by
  rw [exec_Assign_Name_used _ _ _ _ hsw]
  refine wpAny_bind (wpAny_standAt (wpAny_bind ?_))
  show wpAny _ A (do let _ ← comprehension (.ListComp (.Name b pe) [⟨.Tuple [.Name a pa, .Name b pb] kk tp, iter, [], 0⟩] scope pos) scope env _ (newList []) false (eval iter env) (some (assign (.Name y py) env))) _ _ s
  refine wpAny_bind (wpAny_mono (wpAny_comprehension_free (use := some (assign (.Name y py) env)) (Q := fun _ s' => Q .next s') rfl hs hclos hkind hnames
    (wpAny_mono h (fun xv s₁ hq => ?_) fun _ _ e => e)) (fun _ s' hq => wpAny_pure (wpAny_pure hq)) fun _ _ e => e)
  refine ex7 hq fun ax its ks c h₀ m news hz56 => an6 hz56 fun he57 F N hT hz fin => ?_
  clear hz56
  try clear hq
  subst he57
  have hl : s₁.heap.IsList ax its.toArray := ⟨_, (N _ (.head _)).1, rfl, _, rfl⟩
  refine wpAny_pyIter_list hl ?_
  refine wpAny_newObj_type (wpAny_newFunctionEnv hcell (by intro y hy; simp at hy) (fun h₁ hns₁ hsb₁ => ?_) hkind)
  try dsimp only at hns₁ hsb₁ ⊢
  generalize hH1 : s₁.heap.push { cls := .type "list_iterator", data := .fields #[.ref ax, .int 0 0] } = H1 at hns₁ hsb₁ ⊢
  have z1 : H1.objs.size = s₁.heap.objs.size + 1 := by rw [← hH1, Heap.size_push]
  have eI : H1.get? s₁.heap.objs.size = some { cls := .type "list_iterator", data := .fields #[.ref ax, .int 0 0] } := by rw [← hH1]; exact Heap.get?_push_size _ rfl
  have k1 : ∀ b o, s₁.heap.get? b = some o → H1.get? b = some o := fun b o e => hH1 ▸ Heap.get?_push_of_some _ e
  generalize hH2 : H1.push { cls := .type "list", dict := none, data := .seq ([] : List Value).toArray } = H2 at hns₁ hsb₁ ⊢
  have z2 : H2.objs.size = s₁.heap.objs.size + 2 := by rw [← hH2, Heap.size_push, z1]
  have eD : H2.get? H1.objs.size = some (lst []) := by rw [← hH2]; exact Heap.get?_push_size _ rfl
  have k2 : ∀ b o, H1.get? b = some o → H2.get? b = some o := fun b o e => hH2 ▸ Heap.get?_push_of_some _ e
  have k3 : ∀ b o, H2.get? b = some o → h₁.get? b = some o := fun b o e => hsb₁.extBut b o (Nat.ne_of_lt (Heap.lt_size e)) (Heap.get?_push_of_some _ e)
  have kp : ∀ b o, s₁.heap.get? b = some o → h₁.get? b = some o := fun b o e => k3 _ _ (k2 _ _ (k1 _ _ e))
  have fresh : ∀ a, s₁.heap.objs.size ≤ a → h₀.get? a = none := fun a ha => by
    cases e : h₀.get? a with
    | none => rfl
    | some o' => exact absurd (Heap.lt_size (F.keep a o' e)) (Nat.not_lt.mpr ha)
  have hLlt : env.locals < s₁.heap.objs.size := F.ns.lt
  have up1 : ∀ a : Addr, a < s₁.heap.objs.size → a ≠ H1.objs.size := fun a ha => Nat.ne_of_lt (Nat.lt_of_lt_of_le ha (by rw [z1]; exact Nat.le_add_right _ _))
  have up2 : ∀ a : Addr, a < s₁.heap.objs.size → a ≠ H2.objs.size := fun a ha => Nat.ne_of_lt (Nat.lt_of_lt_of_le ha (by rw [z2]; exact Nat.le_add_right _ _))
  have hI : (s₁.heap.objs.size : Nat) ≠ H2.objs.size := by lia
  have hID : (s₁.heap.objs.size : Nat) ≠ H1.objs.size := by lia
  have hCD : (H2.objs.size : Nat) ≠ H1.objs.size := by lia
  have lp := loopP (prog := prog) (w := w) (A := A) (s := s₁) (h₀ := h₀) (L := env.locals) (m := m) (env := env) (news := news) (iter := iter) (pa := pa) (pb := pb) (pe := pe) (tp := tp) (kk := kk) (cl := cl) (pos := pos) (I := s₁.heap.objs.size) (D := H1.objs.size) (C := H2.objs.size)
    (R := compPost (model prog w) A E (some (assign (.Name y py) env)) (fun _ s' => Q .next s') (.ref H1.objs.size) H2.objs.size)
    hh hxa hxb hkind hdb hI hID hCD (Nat.ne_of_lt hLlt) (up2 _ hLlt) (up1 _ hLlt) (fresh _ (Nat.le_refl _)) (fresh _ (by lia)) (fresh _ (by lia))
    (fun p hp => have z := Heap.lt_size (N p hp).1; ⟨Nat.ne_of_lt z, up2 _ z, up1 _ z⟩) hT hz ?_ h₁ (s₁.toks + ([] : List (Str × Value)).length) _ ⟨_, k3 _ _ (k2 _ _ eI), rfl, rfl⟩ hns₁ (frGrow F kp) ?_
  · refine codeAny_compStart_list lp ?_
    exact wpAny_pyIter_listiter (l := ax) (i := 0) ⟨_, k3 _ _ (k2 _ _ eI), rfl, rfl⟩ lp
  · intro ys h' tk m' hI' F' N' hC
    show wpAny _ A (assign (.Name y py) env (.ref H1.objs.size)) _ _ _
    refine wpAny_assign_Name (wpAny_storeName_local hy F'.ns (fun h₂ hn₂ hs₂ => ?_) hp)
    have hL₀ : h₀.get? env.locals = none := Heap.get?_none_of_le F'.above
    have F₂ : Fr h₀ env.locals h₂ (fun z => if z = y then some (.ref H1.objs.size) else m z) := ⟨hn₂, fun b o e => hs₂.extBut b o (fun q => by rw [q, hL₀] at e; cases e) (F'.keep b o e), F'.above⟩
    refine ⟨m', hC.sameBut hs₂ (Ne.symm (up2 _ hLlt)), fun h'' hs'' => fin h'' _ _ ys (F₂.change hs'' (Ne.symm (up2 _ hLlt)) (fresh _ (by lia))) (fun p hp => ?_) hI'⟩
    have z : h₂.get? p.1 = some p.2 := hs₂.extBut _ _ (N' p hp).2.1 (N' p hp).1
    refine ⟨hs''.extBut _ _ ?_ z, (N' p hp).2⟩
    rcases List.mem_cons.mp hp with rfl | hp
    · exact Ne.symm hCD
    · exact up2 _ (Heap.lt_size (N p hp).1)
  · intro p hp
    rcases List.mem_cons.mp hp with rfl | hp
    · exact ⟨k3 _ _ eD, Ne.symm (up1 _ hLlt), fresh _ (by lia)⟩
    · exact ⟨kp _ _ (N p hp).1, (N p hp).2⟩
end
end

section
open PySem PySem.W PyProof.Rows PySem.Calls
variable {w : World} {A : Around} {s : Shared} {E : Value → Shared → Prop}
local macro_rules | `(tactic| walk_at "to sorted") => `(tactic| repeat' (first | ((fail_if_success (with_reducible show wpAny _ _ (call (Value.builtin "sorted") _) _ _ _)); first | keq_rows | walk1)))
theorem Els.imp {El El' : Value → Nat → Prop} (f : ∀ v k, El v k → El' v k) : ∀ {vs : List Value} {ks : List Nat}, Els El vs ks → Els El' vs ks
  | [], [], _ => trivial
  | [], _ :: _, h => h.elim
  | _ :: _, [], h => h.elim
  | _ :: _, _ :: _, h => ⟨f _ _ h.1, Els.imp f h.2⟩
theorem TupAt.more {nl nl' : List (Addr × Obj)} {v : Value} {q : Nat} (h : TupAt nl v q) (hs : ∀ p ∈ nl, p ∈ nl') : TupAt nl' v q := by
  refine ex5 h fun a o t u n hz203 => an3 hz203 fun e m r => ?_
  clear hz203
  try clear h
  exact (exi5 a o t u n ⟨e, hs _ m, r⟩)
theorem differ {ks : List Nat} (h : ks.Pairwise (· ≠ ·)) : ∀ i j, i < ks.length → j < ks.length → i ≠ j → ks.getD i 0 ≠ ks.getD j 0 := by
  intro i j hi hj hne
  rw [List.pairwise_iff_getElem] at h
  rw [List.getD_eq_getElem?_getD, List.getD_eq_getElem?_getD, List.getElem?_eq_getElem hi, List.getElem?_eq_getElem hj]
  rcases Nat.lt_or_gt_of_ne hne with c | c
  · exact h i j hi hj c
  · exact (h j i hj hi c).symm
/-- which places are chosen: keys 8 * number + place, in order -/
noncomputable def Keyd (ns : List Nat) (ks : List Nat) : Prop := (∀ i j, i < j → j < ks.length → ks.getD i 0 < ks.getD j 0) ∧ (∀ q ∈ ks, ns[q % 8]? = some (q / 8)) ∧ ks.length ≤ 8
theorem ints_get {nv : List Value} {ns : List Int} {i : Nat} (h : IntsAre nv ns) (hi : i < ns.length) : ∃ n t, ns[i]? = some n ∧ nv[i]? = some (.int n t) := by
  have hl : i < nv.length := by rw [h.length]; exact hi
  refine ex2 (Mine.IntsAre.get h (List.getElem?_eq_getElem hl)) fun n t hz202 => an2 hz202 fun e1 e2 => ?_
  clear hz202
  exact (exi2 n t ⟨e1, by rw [List.getElem?_eq_getElem hl, e2]⟩)
noncomputable abbrev JH1 (aL aP aO aN aC aW L : Addr) (pv ov nv cv wv : List Value) (kP kO kN kC kW : Nat) (o1 o2 o3 o4 o5 : Obj) (lv : List Value) (kL : Nat) (nl : List (Addr × Obj)) (ns : List Nat) : Nat → List Value → List (Addr × Obj) → Prop := fun i ys nw => ∃ tl ks, nw = (aL, PySem.W.listOf lv.toArray kL)::(aP, PySem.W.listOf pv.toArray kP)::(aO, PySem.W.listOf ov.toArray kO)::(aN, PySem.W.listOf nv.toArray kN)::(aC, PySem.W.listOf cv.toArray kC)::(aW, PySem.W.listOf wv.toArray kW)::(L + 1 + 1 + 1 + 1 + 1, o5)::(L + 1 + 1 + 1 + 1, o4)::(L + 1 + 1 + 1, o3)::(L + 1 + 1, o2)::(L + 1, o1)::tl ∧ (∀ p ∈ nl, p ∈ tl) ∧ Els (TupAt tl) ys ks ∧ (∀ q ∈ ks, q % 8 < i ∧ ns[q % 8]? = some (q / 8)) ∧ ks.Pairwise (· ≠ ·) ∧ ks.length ≤ i
theorem segH1 {L fa : Addr} {cd : Value} {g : Heap} {m : Str → Option Value} {d u : Nat} {Q : Flow → Shared → Prop} (X : Wd w g) {k : Nat} (hA' : Ar ⟨none, d, some [lawEnv L fa cd], none, u⟩ (k + 100)) (F : Fr g L s.heap m)
    {aW aC aN : Addr} {wv cv nv : List Value} {kW kC kN : Nat} {cs : List Int} {ns : List Nat} {o1 o2 o3 o4 o5 : Obj} {aO aP : Addr} {ov pv : List Value} {kO kP : Nat} {aL : Addr} {lv : List Value} {kL : Nat} {nl : List (Addr × Obj)} (N : News g L s.heap ((aL, PySem.W.listOf lv.toArray kL)::(aP, PySem.W.listOf pv.toArray kP)::(aO, PySem.W.listOf ov.toArray kO)::(aN, PySem.W.listOf nv.toArray kN)::(aC, PySem.W.listOf cv.toArray kC)::(aW, PySem.W.listOf wv.toArray kW)::(L + 1 + 1 + 1 + 1 + 1, o5)::(L + 1 + 1 + 1 + 1, o4)::(L + 1 + 1 + 1, o3)::(L + 1 + 1, o2)::(L + 1, o1)::nl)) (d1 : o1.data = .cell (some (.ref aW))) (d2 : o2.data = .cell (some (.ref aC))) (d3 : o3.data = .cell (some (.ref aN))) (d4 : o4.data = .cell (some (.ref aP))) (d5 : o5.data = .cell (some (.ref aL))) (iW : IntsAre wv [1, 256, 131072, 83886080, 60129542144]) (iC : IntsAre cv cs) (lC : cs.length = 8) (iN : IntsAre nv (nats ns)) (lN : ns.length = 8) (bN : ∀ n ∈ ns, n < most) (eO : OctsAre ov ns) (eP : HexsAre pv ns) (mO : m (Str.ofString "octets") = some (.ref aO)) (eL : PlsAre nl lv ns)
    (hq : ∀ h' tk (a1 : Addr) (y1 : List Value) (k1 : Nat) (ks : List Nat) (nl' : List (Addr × Obj)) m', Fr g L h' m' → m' (Str.ofString "octets") = some (.ref aO) → m' (Str.ofString "one") = some (.ref a1) →
      News g L h' ((a1, PySem.W.listOf (List.toArray y1) k1) :: (aL, PySem.W.listOf lv.toArray kL)::(aP, PySem.W.listOf pv.toArray kP)::(aO, PySem.W.listOf ov.toArray kO)::(aN, PySem.W.listOf nv.toArray kN)::(aC, PySem.W.listOf cv.toArray kC)::(aW, PySem.W.listOf wv.toArray kW)::(L + 1 + 1 + 1 + 1 + 1, o5)::(L + 1 + 1 + 1 + 1, o4)::(L + 1 + 1 + 1, o3)::(L + 1 + 1, o2)::(L + 1, o1)::nl') → (∀ p ∈ nl, p ∈ nl') → IntsAre y1 (nats (ks.map (· % 8))) → Keyd ns ks → Q .next { s with heap := h', toks := tk }) :
    wpAny (model Pr w) ⟨none, d, some [lawEnv L fa cd], none, u⟩ (execs ((lawBody.drop 13).take 1) (lawEnv L fa cd)) Q (fun _ _ => False) s := by
  obtain ⟨K0, mean, mg, mb, T⟩ := id X
  refine execs_cast (l' := [_]) rfl ?_
  refine wpAny_execs_cons ?_
  refine compSnd (by with_unfolding_all rfl) (by with_unfolding_all rfl) (by decide) (by rfl) (by decide) (by rfl) (by rfl) (by rfl) (by rfl) (by rfl) rfl ?_
  walk_at "item"
  refine compET (by with_unfolding_all rfl) (by decide) (by rfl) (by decide) (by rfl) ?_
  walk_at "item"
  rename IsRange _ _ _ _ _ _ _ _ => hr
  rename Fr _ _ _ _ => F₀
  rename News _ _ _ _ => N₀
  refine src_range rfl F₀ N₀ hr (by decide) (n := 8) (by decide) (by decide) fun h₂ it S => (exi7 _ _ _ _ _ _ _ ⟨S, ?_⟩)
  refine restT_grow (JH1 aL aP aO aN aC aW L pv ov nv cv wv kP kO kN kC kW o1 o2 o3 o4 o5 lv kL nl ns) (fun _ => trivial) (exi2 nl [] ⟨rfl, fun _ hp => hp, trivial, (fun _ hp => nomatch hp), .nil, Nat.le_refl _⟩) ?_ ?_
  · intro i v ys nw I oI C oC D m₂ h₃ tk₃ E' hin hz30
    refine ex1 hz30 fun t he201 => ?_
    try clear hz30
    subst he201
    intro hz31
    refine ex2 hz31 fun tl ks hz199 => an6 hz199 fun he200 hs hE hk hp hz => ?_
    clear hz199
    try clear hz31
    subst he200
    intro hC hx F₂ N₂
    rw [show (0 : Int) + (i : Int) * 1 = (i : Int) by lia] at hx
    refine ex2 (nats_get iN (show i < ns.length by lia)) fun n tn hz198 => an2 hz198 fun en vn => ?_
    clear hz198
    refine ex2 (ints_get iC (show i < cs.length by lia)) fun z tz hz197 => an2 hz197 fun ez vz => ?_
    clear hz197
    walk_at "item"
    rename News _ _ _ _ => N₃
    refine item_in (its := cv) ⟨_, (N₃ _ (by k_mem : (aC, PySem.W.listOf cv.toArray kC) ∈ _)).1, rfl, _, rfl⟩ (by lia) (by lia) (v := .int z tz) (by rw [Int.toNat_natCast]; exact vz) ?_
    walk_at "item"
    · rename News _ _ _ _ => N₃
      refine item_in (its := nv) ⟨_, (N₃ _ (by k_mem : (aN, PySem.W.listOf nv.toArray kN) ∈ _)).1, rfl, _, rfl⟩ (by lia) (by lia) (v := .int (n : Int) tn) (by rw [Int.toNat_natCast]; exact vn) ?_
      walk_at "item"
      rename Fr _ _ _ _ => F₄
      rename News _ _ _ _ => N₄
      rename _ ∧ _ => hlt
      rename Addr => T
      have e1 : (8 * n + i) / 8 = n := by lia
      have e2 : (8 * n + i) % 8 = i := by lia
      refine (GrowEnd.go (nw' := (aL, PySem.W.listOf lv.toArray kL)::(aP, PySem.W.listOf pv.toArray kP)::(aO, PySem.W.listOf ov.toArray kO)::(aN, PySem.W.listOf nv.toArray kN)::(aC, PySem.W.listOf cv.toArray kC)::(aW, PySem.W.listOf wv.toArray kW)::(L + 1 + 1 + 1 + 1 + 1, o5)::(L + 1 + 1 + 1 + 1, o4)::(L + 1 + 1 + 1, o3)::(L + 1 + 1, o2)::(L + 1, o1)::(T, { cls := .type "tuple", data := .seq #[.int (n : Int) tn, .int (i : Int) t] }) :: tl) F₄ N₄ ?_ ?_ (exi2 ((T, _) :: tl) (ks ++ [8 * n + i]) ⟨rfl, fun p hp => .tail _ (hs p hp), ?_, ?_, ?_, ?_⟩))
      · exact fun p hp => mem_front (l := [_, _, _, _, _, _, _, _, _, _, _, _, _, _]) hp
      · intro p hp
        rcases mem_del (l := [_, _, _, _, _, _, _, _, _, _, _]) hp with e | hp
        · right
          rw [e]
          exact ⟨Nat.ne_of_gt hlt.1, Nat.ne_of_gt hlt.2.1, Nat.ne_of_gt hlt.2.2.1⟩
        · exact .inl hp
      · exact Els.snoc (Els.imp (fun v q x => x.more fun p hp => .tail _ hp) hE) (exi5 T _ tn t _ ⟨rfl, .head _, rfl, by rw [e1, e2]⟩)
      · intro q hq
        rcases List.mem_append.mp hq with hq | hq
        · exact ⟨Nat.lt_succ_of_lt (hk q hq).1, (hk q hq).2⟩
        · rw [List.mem_singleton.mp hq, e1, e2]
          exact ⟨Nat.lt_succ_self _, en⟩
      · exact List.pairwise_append.mpr ⟨hp, List.pairwise_singleton _ _, fun a ha b hb => by rw [List.mem_singleton.mp hb]; intro e; have := (hk a ha).1; lia⟩
      · rw [List.length_append, List.length_singleton]; lia
    · rename Fr _ _ _ _ => F₄
      rename News _ _ _ _ => N₄
      exact (GrowEnd.go F₄ N₄ (fun _ hp => hp) (fun p hp => .inl hp) (exi2 tl ks ⟨rfl, hs, hE, (fun q hq => ⟨Nat.lt_succ_of_lt (hk q hq).1, (hk q hq).2⟩), hp, Nat.le_succ_of_le hz⟩))
  · intro ys nw hz32
    refine ex2 hz32 fun tl ks hz195 => an6 hz195 fun he196 hs hE hk hp hz => ?_
    clear hz195
    try clear hz32
    subst he196
    intro D h₃ tk₃ F₂ N₂ _
    walk_at "to sorted"
    have up : ∀ p ∈ tl, p ∈ (D, LCg.lst ys) :: (aL, PySem.W.listOf lv.toArray kL)::(aP, PySem.W.listOf pv.toArray kP)::(aO, PySem.W.listOf ov.toArray kO)::(aN, PySem.W.listOf nv.toArray kN)::(aC, PySem.W.listOf cv.toArray kC)::(aW, PySem.W.listOf wv.toArray kW)::(L + 1 + 1 + 1 + 1 + 1, o5)::(L + 1 + 1 + 1 + 1, o4)::(L + 1 + 1 + 1, o3)::(L + 1 + 1, o2)::(L + 1, o1)::tl := fun p hp => by
      exact List.mem_append_right [_, _, _, _, _, _, _, _, _, _, _, _] hp
    refine sorted_tups F₂ N₂ ⟨_, (N₂ _ (.head _)).1, rfl, _, rfl⟩ (Els.imp (fun v q x => x.more up) hE) (by lia) (differ hp) fun D₂ c h₄ out ks₂ F₃ N₃ hE₂ hl₂ hu₂ hm₂ => ?_
    refine (exi7 D₂ out ks₂ c g m _ ⟨rfl, F₃, N₃, hE₂, by lia, fun h' tk D₃ y₃ F₅ N₅ I₅ => ?_⟩)
    refine wpAny_execs_nil (hq _ _ D₃ y₃ y₃.length ks₂ tl _ F₅ ?_ (if_pos rfl) (newsSub N₅ ?_) hs I₅ ⟨hu₂, fun q hq => (hk q (hm₂ q hq)).2, by lia⟩)
    · walk_at "look"
    · exact fun p hp => mem_skip (l := [_]) (mem_skip (l := [_]) hp)
end

section
open PySem PySem.W PyProof.Rows PySem.Calls
variable {w : World} {A : Around} {s : Shared} {E : Value → Shared → Prop}
local macro_rules | `(tactic| walk_at "to sorted") => `(tactic| repeat' (first | ((fail_if_success (with_reducible show wpAny _ _ (call (Value.builtin "sorted") _) _ _ _)); first | keq_rows | walk1)))
noncomputable abbrev JH2 (aL aP aO aN aC aW L : Addr) (pv ov nv cv wv : List Value) (kP kO kN kC kW : Nat) (o1 o2 o3 o4 o5 : Obj) (lv : List Value) (kL : Nat) (nl : List (Addr × Obj)) (ns : List Nat) (a1 : Addr) (y1 : List Value) (k1 : Nat) : Nat → List Value → List (Addr × Obj) → Prop := fun i ys nw => ∃ tl ks, nw = (a1, PySem.W.listOf (List.toArray y1) k1) :: (aL, PySem.W.listOf lv.toArray kL)::(aP, PySem.W.listOf pv.toArray kP)::(aO, PySem.W.listOf ov.toArray kO)::(aN, PySem.W.listOf nv.toArray kN)::(aC, PySem.W.listOf cv.toArray kC)::(aW, PySem.W.listOf wv.toArray kW)::(L + 1 + 1 + 1 + 1 + 1, o5)::(L + 1 + 1 + 1 + 1, o4)::(L + 1 + 1 + 1, o3)::(L + 1 + 1, o2)::(L + 1, o1)::tl ∧ (∀ p ∈ nl, p ∈ tl) ∧ Els (TupAt tl) ys ks ∧ (∀ q ∈ ks, q % 8 < i ∧ ns[q % 8]? = some (q / 8)) ∧ ks.Pairwise (· ≠ ·) ∧ ks.length ≤ i
theorem segH2 {L fa : Addr} {cd : Value} {g : Heap} {m : Str → Option Value} {d u : Nat} {Q : Flow → Shared → Prop} (X : Wd w g) {k : Nat} (hA' : Ar ⟨none, d, some [lawEnv L fa cd], none, u⟩ (k + 100)) (F : Fr g L s.heap m)
    {aW aC aN : Addr} {wv cv nv : List Value} {kW kC kN : Nat} {cs : List Int} {ns : List Nat} {o1 o2 o3 o4 o5 : Obj} {aO aP : Addr} {ov pv : List Value} {kO kP : Nat} {aL : Addr} {lv : List Value} {kL : Nat} {nl : List (Addr × Obj)} {a1 : Addr} {y1 : List Value} {k1 : Nat} (N : News g L s.heap ((a1, PySem.W.listOf (List.toArray y1) k1) :: (aL, PySem.W.listOf lv.toArray kL)::(aP, PySem.W.listOf pv.toArray kP)::(aO, PySem.W.listOf ov.toArray kO)::(aN, PySem.W.listOf nv.toArray kN)::(aC, PySem.W.listOf cv.toArray kC)::(aW, PySem.W.listOf wv.toArray kW)::(L + 1 + 1 + 1 + 1 + 1, o5)::(L + 1 + 1 + 1 + 1, o4)::(L + 1 + 1 + 1, o3)::(L + 1 + 1, o2)::(L + 1, o1)::nl)) (d1 : o1.data = .cell (some (.ref aW))) (d2 : o2.data = .cell (some (.ref aC))) (d3 : o3.data = .cell (some (.ref aN))) (d4 : o4.data = .cell (some (.ref aP))) (d5 : o5.data = .cell (some (.ref aL))) (iW : IntsAre wv [1, 256, 131072, 83886080, 60129542144]) (iC : IntsAre cv cs) (lC : cs.length = 8) (iN : IntsAre nv (nats ns)) (lN : ns.length = 8) (bN : ∀ n ∈ ns, n < most) (eO : OctsAre ov ns) (eP : HexsAre pv ns) (mO : m (Str.ofString "octets") = some (.ref aO)) (eL : PlsAre nl lv ns) (m1 : m (Str.ofString "one") = some (.ref a1))
    (hq : ∀ h' tk (a2 : Addr) (y2 : List Value) (k2 : Nat) (ks : List Nat) (nl' : List (Addr × Obj)) m', Fr g L h' m' → m' (Str.ofString "octets") = some (.ref aO) → m' (Str.ofString "one") = some (.ref a1) → m' (Str.ofString "two") = some (.ref a2) →
      News g L h' ((a2, PySem.W.listOf (List.toArray y2) k2) :: (a1, PySem.W.listOf (List.toArray y1) k1) :: (aL, PySem.W.listOf lv.toArray kL)::(aP, PySem.W.listOf pv.toArray kP)::(aO, PySem.W.listOf ov.toArray kO)::(aN, PySem.W.listOf nv.toArray kN)::(aC, PySem.W.listOf cv.toArray kC)::(aW, PySem.W.listOf wv.toArray kW)::(L + 1 + 1 + 1 + 1 + 1, o5)::(L + 1 + 1 + 1 + 1, o4)::(L + 1 + 1 + 1, o3)::(L + 1 + 1, o2)::(L + 1, o1)::nl') → (∀ p ∈ nl, p ∈ nl') → IntsAre y2 (nats (ks.map (· % 8))) → Keyd ns ks → Q .next { s with heap := h', toks := tk }) :
    wpAny (model Pr w) ⟨none, d, some [lawEnv L fa cd], none, u⟩ (execs ((lawBody.drop 14).take 1) (lawEnv L fa cd)) Q (fun _ _ => False) s := by
  obtain ⟨K0, mean, mg, mb, T⟩ := id X
  refine execs_cast (l' := [_]) rfl ?_
  refine wpAny_execs_cons ?_
  refine compSnd (by with_unfolding_all rfl) (by with_unfolding_all rfl) (by decide) (by rfl) (by decide) (by rfl) (by rfl) (by rfl) (by rfl) (by rfl) rfl ?_
  walk_at "item"
  refine compET (by with_unfolding_all rfl) (by decide) (by rfl) (by decide) (by rfl) ?_
  walk_at "item"
  rename IsRange _ _ _ _ _ _ _ _ => hr
  rename Fr _ _ _ _ => F₀
  rename News _ _ _ _ => N₀
  refine src_range rfl F₀ N₀ hr (by decide) (n := 8) (by decide) (by decide) fun h₂ it S => (exi7 _ _ _ _ _ _ _ ⟨S, ?_⟩)
  refine restT_grow (JH2 aL aP aO aN aC aW L pv ov nv cv wv kP kO kN kC kW o1 o2 o3 o4 o5 lv kL nl ns a1 y1 k1) (fun _ => trivial) (exi2 nl [] ⟨rfl, fun _ hp => hp, trivial, (fun _ hp => nomatch hp), .nil, Nat.le_refl _⟩) ?_ ?_
  · intro i v ys nw I oI C oC D m₂ h₃ tk₃ E' hin hz33
    refine ex1 hz33 fun t he210 => ?_
    try clear hz33
    subst he210
    intro hz34
    refine ex2 hz34 fun tl ks hz208 => an6 hz208 fun he209 hs hE hk hp hz => ?_
    clear hz208
    try clear hz34
    subst he209
    intro hC hx F₂ N₂
    rw [show (0 : Int) + (i : Int) * 1 = (i : Int) by lia] at hx
    refine ex2 (nats_get iN (show i < ns.length by lia)) fun n tn hz207 => an2 hz207 fun en vn => ?_
    clear hz207
    refine ex2 (ints_get iC (show i < cs.length by lia)) fun z tz hz206 => an2 hz206 fun ez vz => ?_
    clear hz206
    walk_at "item"
    rename News _ _ _ _ => N₃
    refine item_in (its := cv) ⟨_, (N₃ _ (by k_mem : (aC, PySem.W.listOf cv.toArray kC) ∈ _)).1, rfl, _, rfl⟩ (by lia) (by lia) (v := .int z tz) (by rw [Int.toNat_natCast]; exact vz) ?_
    walk_at "item"
    · rename News _ _ _ _ => N₃
      refine item_in (its := nv) ⟨_, (N₃ _ (by k_mem : (aN, PySem.W.listOf nv.toArray kN) ∈ _)).1, rfl, _, rfl⟩ (by lia) (by lia) (v := .int (n : Int) tn) (by rw [Int.toNat_natCast]; exact vn) ?_
      walk_at "item"
      rename Fr _ _ _ _ => F₄
      rename News _ _ _ _ => N₄
      rename _ ∧ _ => hlt
      rename Addr => T
      have e1 : (8 * n + i) / 8 = n := by lia
      have e2 : (8 * n + i) % 8 = i := by lia
      refine (GrowEnd.go (nw' := (a1, PySem.W.listOf (List.toArray y1) k1) :: (aL, PySem.W.listOf lv.toArray kL)::(aP, PySem.W.listOf pv.toArray kP)::(aO, PySem.W.listOf ov.toArray kO)::(aN, PySem.W.listOf nv.toArray kN)::(aC, PySem.W.listOf cv.toArray kC)::(aW, PySem.W.listOf wv.toArray kW)::(L + 1 + 1 + 1 + 1 + 1, o5)::(L + 1 + 1 + 1 + 1, o4)::(L + 1 + 1 + 1, o3)::(L + 1 + 1, o2)::(L + 1, o1)::(T, { cls := .type "tuple", data := .seq #[.int (n : Int) tn, .int (i : Int) t] }) :: tl) F₄ N₄ ?_ ?_ (exi2 ((T, _) :: tl) (ks ++ [8 * n + i]) ⟨rfl, fun p hp => .tail _ (hs p hp), ?_, ?_, ?_, ?_⟩))
      · exact fun p hp => mem_front (l := [_, _, _, _, _, _, _, _, _, _, _, _, _, _, _]) hp
      · intro p hp
        rcases mem_del (l := [_, _, _, _, _, _, _, _, _, _, _, _]) hp with e | hp
        · right
          rw [e]
          exact ⟨Nat.ne_of_gt hlt.1, Nat.ne_of_gt hlt.2.1, Nat.ne_of_gt hlt.2.2.1⟩
        · exact .inl hp
      · exact Els.snoc (Els.imp (fun v q x => x.more fun p hp => .tail _ hp) hE) (exi5 T _ tn t _ ⟨rfl, .head _, rfl, by rw [e1, e2]⟩)
      · intro q hq
        rcases List.mem_append.mp hq with hq | hq
        · exact ⟨Nat.lt_succ_of_lt (hk q hq).1, (hk q hq).2⟩
        · rw [List.mem_singleton.mp hq, e1, e2]
          exact ⟨Nat.lt_succ_self _, en⟩
      · exact List.pairwise_append.mpr ⟨hp, List.pairwise_singleton _ _, fun a ha b hb => by rw [List.mem_singleton.mp hb]; intro e; have := (hk a ha).1; lia⟩
      · rw [List.length_append, List.length_singleton]; lia
    · rename Fr _ _ _ _ => F₄
      rename News _ _ _ _ => N₄
      exact (GrowEnd.go F₄ N₄ (fun _ hp => hp) (fun p hp => .inl hp) (exi2 tl ks ⟨rfl, hs, hE, (fun q hq => ⟨Nat.lt_succ_of_lt (hk q hq).1, (hk q hq).2⟩), hp, Nat.le_succ_of_le hz⟩))
  · intro ys nw hz35
    refine ex2 hz35 fun tl ks hz204 => an6 hz204 fun he205 hs hE hk hp hz => ?_
    clear hz204
    try clear hz35
    subst he205
    intro D h₃ tk₃ F₂ N₂ _
    walk_at "to sorted"
    have up : ∀ p ∈ tl, p ∈ (D, LCg.lst ys) :: (a1, PySem.W.listOf (List.toArray y1) k1) :: (aL, PySem.W.listOf lv.toArray kL)::(aP, PySem.W.listOf pv.toArray kP)::(aO, PySem.W.listOf ov.toArray kO)::(aN, PySem.W.listOf nv.toArray kN)::(aC, PySem.W.listOf cv.toArray kC)::(aW, PySem.W.listOf wv.toArray kW)::(L + 1 + 1 + 1 + 1 + 1, o5)::(L + 1 + 1 + 1 + 1, o4)::(L + 1 + 1 + 1, o3)::(L + 1 + 1, o2)::(L + 1, o1)::tl := fun p hp => by
      exact List.mem_append_right [_, _, _, _, _, _, _, _, _, _, _, _, _] hp
    refine sorted_tups F₂ N₂ ⟨_, (N₂ _ (.head _)).1, rfl, _, rfl⟩ (Els.imp (fun v q x => x.more up) hE) (by lia) (differ hp) fun D₂ c h₄ out ks₂ F₃ N₃ hE₂ hl₂ hu₂ hm₂ => ?_
    refine (exi7 D₂ out ks₂ c g m _ ⟨rfl, F₃, N₃, hE₂, by lia, fun h' tk D₃ y₃ F₅ N₅ I₅ => ?_⟩)
    refine wpAny_execs_nil (hq _ _ D₃ y₃ y₃.length ks₂ tl _ F₅ ?_ ?_ (if_pos rfl) (newsSub N₅ ?_) hs I₅ ⟨hu₂, fun q hq => (hk q (hm₂ q hq)).2, by lia⟩)
    · walk_at "look"
    · walk_at "look"
    · exact fun p hp => mem_skip (l := [_]) (mem_skip (l := [_]) hp)
end

section
open PySem PySem.W PyProof.Rows PySem.Calls
variable {w : World} {A : Around} {s : Shared} {E : Value → Shared → Prop}
theorem nats_of {v : Value} {i : Nat} {yv : List Value} {ks : List Nat} (h : IntsAre yv (nats (ks.map (· % 8)))) (hv : yv[i]? = some v) : ∃ q t, ks[i]? = some q ∧ v = .int ((q % 8 : Nat) : Int) t := by
  refine ex2 (nats_at h hv) fun n t hz218 => an2 hz218 fun e he219 => ?_
  clear hz218
  subst he219
  rw [List.getElem?_map] at e
  refine ex1 (Option.map_eq_some_iff.mp e) fun q hz217 => an2 hz217 fun e1 e2 => ?_
  clear hz217
  exact (exi2 q t ⟨e1, by rw [← e2]⟩)
theorem segI {L fa : Addr} {cd : Value} {g : Heap} {m : Str → Option Value} {d u : Nat} {Q : Flow → Shared → Prop} (X : Wd w g) {k : Nat} (hA' : Ar ⟨none, d, some [lawEnv L fa cd], none, u⟩ (k + 100)) (F : Fr g L s.heap m)
    {aW aC aN : Addr} {wv cv nv : List Value} {kW kC kN : Nat} {cs : List Int} {ns : List Nat} {o1 o2 o3 o4 o5 : Obj} {aO aP : Addr} {ov pv : List Value} {kO kP : Nat} {aL : Addr} {lv : List Value} {kL : Nat} {nl : List (Addr × Obj)} {a1 a2 : Addr} {y1 y2 : List Value} {k1 k2 : Nat} {ks1 ks2 : List Nat} (N : News g L s.heap ((a2, PySem.W.listOf (List.toArray y2) k2) :: (a1, PySem.W.listOf (List.toArray y1) k1) :: (aL, PySem.W.listOf lv.toArray kL)::(aP, PySem.W.listOf pv.toArray kP)::(aO, PySem.W.listOf ov.toArray kO)::(aN, PySem.W.listOf nv.toArray kN)::(aC, PySem.W.listOf cv.toArray kC)::(aW, PySem.W.listOf wv.toArray kW)::(L + 1 + 1 + 1 + 1 + 1, o5)::(L + 1 + 1 + 1 + 1, o4)::(L + 1 + 1 + 1, o3)::(L + 1 + 1, o2)::(L + 1, o1)::nl)) (d1 : o1.data = .cell (some (.ref aW))) (d2 : o2.data = .cell (some (.ref aC))) (d3 : o3.data = .cell (some (.ref aN))) (d4 : o4.data = .cell (some (.ref aP))) (d5 : o5.data = .cell (some (.ref aL))) (iW : IntsAre wv [1, 256, 131072, 83886080, 60129542144]) (iC : IntsAre cv cs) (lC : cs.length = 8) (iN : IntsAre nv (nats ns)) (lN : ns.length = 8) (bN : ∀ n ∈ ns, n < most) (eO : OctsAre ov ns) (eP : HexsAre pv ns) (mO : m (Str.ofString "octets") = some (.ref aO)) (eL : PlsAre nl lv ns) (m1 : m (Str.ofString "one") = some (.ref a1)) (m2 : m (Str.ofString "two") = some (.ref a2)) (i1 : IntsAre y1 (nats (ks1.map (· % 8)))) (i2 : IntsAre y2 (nats (ks2.map (· % 8)))) (e1 : Keyd ns ks1) (e2 : Keyd ns ks2)
    (hq : ∀ h' tk (a3 a4 : Addr) (y3 y4 : List Value) (k3 k4 : Nat) m', Fr g L h' m' → m' (Str.ofString "octets") = some (.ref aO) → m' (Str.ofString "one") = some (.ref a1) → m' (Str.ofString "two") = some (.ref a2) → m' (Str.ofString "first") = some (.ref a3) → m' (Str.ofString "second") = some (.ref a4) →
      News g L h' ((a4, PySem.W.listOf (List.toArray y4) k4) :: (a3, PySem.W.listOf (List.toArray y3) k3) :: (a2, PySem.W.listOf (List.toArray y2) k2) :: (a1, PySem.W.listOf (List.toArray y1) k1) :: (aL, PySem.W.listOf lv.toArray kL)::(aP, PySem.W.listOf pv.toArray kP)::(aO, PySem.W.listOf ov.toArray kO)::(aN, PySem.W.listOf nv.toArray kN)::(aC, PySem.W.listOf cv.toArray kC)::(aW, PySem.W.listOf wv.toArray kW)::(L + 1 + 1 + 1 + 1 + 1, o5)::(L + 1 + 1 + 1 + 1, o4)::(L + 1 + 1 + 1, o3)::(L + 1 + 1, o2)::(L + 1, o1)::nl) → IntsAre y3 (nats (ks1.map (· / 8))) → IntsAre y4 (nats (ks2.map (· / 8))) → Q .next { s with heap := h', toks := tk }) :
    wpAny (model Pr w) ⟨none, d, some [lawEnv L fa cd], none, u⟩ (execs ((lawBody.drop 15).take 2) (lawEnv L fa cd)) Q (fun _ _ => False) s := by
  obtain ⟨K0, mean, mg, mb, T⟩ := id X
  refine execs_cast (l' := [_, _]) rfl ?_
  have l1 := i1.length
  have l2 := i2.length
  have h1 := e1.2.2
  have h2 := e2.2.2
  rw [nats, List.length_map, List.length_map] at l1 l2
  refine wpAny_execs_cons ?_
  refine compAU (by with_unfolding_all rfl) (by with_unfolding_all rfl) (by decide) (by rfl) (by decide) (by rfl) (by rfl) (by rfl) ?_
  walk_at "item"
  refine src_list rfl F N (.inr ⟨_, (by k_mem : (a1, PySem.W.listOf (List.toArray y1) k1) ∈ _), rfl, _, rfl⟩) (by rw [List.size_toArray, sizeLine_eq]; lia) fun h₂ it S => (exi6 _ _ _ _ _ _ ⟨S, ?_⟩)
  refine rest_uni (fun i ys => IntsAre ys (nats ((ks1.take i).map (· / 8)))) (.inr ⟨_, (by k_mem : (a1, PySem.W.listOf (List.toArray y1) k1) ∈ _), rfl, _, rfl⟩) .nil ?_ ?_
  · rintro i v ys I oI C oC D m₂ h₃ tk₃ E' hin hv hJ hC hx F₂ N₂
    refine ex2 (nats_of i1 (by simpa using hv)) fun q t hz215 => an2 hz215 fun eq he216 => ?_
    clear hz215
    subst he216
    have hqn := e1.2.1 q (List.mem_of_getElem? eq)
    have hq8 : q % 8 < ns.length := by rw [lN]; lia
    refine ex2 (nats_get iN hq8) fun n tn hz214 => an2 hz214 fun en vn => ?_
    clear hz214
    obtain rfl : n = q / 8 := by rw [en] at hqn; injection hqn
    walk_at "item"
    rename News _ _ _ _ => N₃
    refine item_in (its := nv) ⟨_, (N₃ _ (by k_mem : (aN, PySem.W.listOf nv.toArray kN) ∈ _)).1, rfl, _, rfl⟩ (by lia) (by lia) (v := .int ((q / 8 : Nat) : Int) tn) (by rw [Int.toNat_natCast]; exact vn) ?_
    rename Fr _ _ _ _ => F₃
    refine (EltEnd.go F₃ N₃ (fun _ hp => hp) ?_)
    rw [take_succ eq, List.map_append, nats, List.map_append]
    exact .append hJ (.cons _ _ .nil)
  · intro ys hJ
    intro D h₃ tk₃ F₃ N₃ _
    rw [List.take_of_length_le (by rw [List.size_toArray]; lia)] at hJ
    clear S it
    try dsimp only
    refine wpAny_execs_cons ?_
    refine compAU (by with_unfolding_all rfl) (by with_unfolding_all rfl) (by decide) (by rfl) (by decide) (by rfl) (by rfl) (by rfl) ?_
    walk_at "item"
    rename Fr _ _ _ _ => F₅
    rename News _ _ _ _ => N₅
    refine src_list rfl F₅ N₅ (.inr ⟨_, (by k_mem : (a2, PySem.W.listOf (List.toArray y2) k2) ∈ _), rfl, _, rfl⟩) (by rw [List.size_toArray, sizeLine_eq]; lia) fun h₄ it S => (exi6 _ _ _ _ _ _ ⟨S, ?_⟩)
    refine rest_uni (fun i zs => IntsAre zs (nats ((ks2.take i).map (· / 8)))) (.inr ⟨_, (by k_mem : (a2, PySem.W.listOf (List.toArray y2) k2) ∈ _), rfl, _, rfl⟩) .nil ?_ ?_
    · rintro i v zs I oI C oC D' m₂ h₅ tk₅ E' hin hv hJ' hC hx F₂ N₂
      refine ex2 (nats_of i2 (by simpa using hv)) fun q t hz212 => an2 hz212 fun eq he213 => ?_
      clear hz212
      subst he213
      have hqn := e2.2.1 q (List.mem_of_getElem? eq)
      have hq8 : q % 8 < ns.length := by rw [lN]; lia
      refine ex2 (nats_get iN hq8) fun n tn hz211 => an2 hz211 fun en vn => ?_
      clear hz211
      obtain rfl : n = q / 8 := by rw [en] at hqn; injection hqn
      walk_at "item"
      rename News _ _ _ _ => N₃
      refine item_in (its := nv) ⟨_, (N₃ _ (by k_mem : (aN, PySem.W.listOf nv.toArray kN) ∈ _)).1, rfl, _, rfl⟩ (by lia) (by lia) (v := .int ((q / 8 : Nat) : Int) tn) (by rw [Int.toNat_natCast]; exact vn) ?_
      rename Fr _ _ _ _ => F₃
      refine (EltEnd.go F₃ N₃ (fun _ hp => hp) ?_)
      rw [take_succ eq, List.map_append, nats, List.map_append]
      exact .append hJ' (.cons _ _ .nil)
    · intro zs hJ'
      intro D' h₅ tk₅ F₆ N₆ _
      rw [List.take_of_length_le (by rw [List.size_toArray]; lia)] at hJ'
      clear S it
      try dsimp only
      first | exact hq _ _ D D' ys zs ys.length zs.length _ F₆ (by walk_at "look") (by walk_at "look") (by walk_at "look") (by walk_at "look") (if_pos rfl) N₆ hJ hJ' | exact wpAny_execs_nil (hq _ _ D D' ys zs ys.length zs.length _ F₆ (by walk_at "look") (by walk_at "look") (by walk_at "look") (by walk_at "look") (if_pos rfl) N₆ hJ hJ')
end

section
open PySem PySem.W PyProof.Rows PySem.Calls
/-- _law_lacks on naturals -/
noncomputable def keepsN (ns ms : List Nat) (i : Nat) : Bool := decide (ns.getD i 0 ∉ ms ∧ (ns.getD i 0 ∉ ns.take i ∨ ∀ y ∈ ms, y < ns.getD i 0))
noncomputable def lacksN (ns ms : List Nat) : Nat → List Nat
  | 0 => []
  | i + 1 => lacksN ns ms i ++ (if keepsN ns ms i then [ns.getD i 0] else [])
theorem nats_getD (ns : List Nat) (i : Nat) : (nats ns).getD i 0 = ((ns.getD i 0 : Nat) : Int) := by
  rw [nats, List.getD_eq_getElem?_getD, List.getD_eq_getElem?_getD, List.getElem?_map]
  cases ns[i]? <;> rfl
theorem nats_mem (ns : List Nat) (x : Nat) : (x : Int) ∈ nats ns ↔ x ∈ ns := by
  unfold nats
  rw [List.mem_map]
  constructor
  · intro hz57
    refine ex1 hz57 fun a hz298 => an2 hz298 fun h e => ?_
    clear hz298
    try clear hz57
    rwa [← Int.ofNat_inj.mp e]
  · exact fun h => ⟨x, h, rfl⟩
theorem keeps_nats (ns ms : List Nat) (i : Nat) : keepsL (nats ns) (nats ms) i = keepsN ns ms i := by
  unfold keepsL keepsN
  rw [decide_eq_decide, nats_getD, nats_mem, show (nats ns).take i = nats (ns.take i) by simp [nats, List.map_take], nats_mem]
  refine and_congr_right fun _ => or_congr_right ?_
  constructor
  · intro h y hy
    have := h (y : Int) (List.mem_append_left _ ((nats_mem _ _).mpr hy))
    lia
  · intro h y hy
    rcases List.mem_append.mp hy with hy | hy
    · refine ex1 (List.mem_map.mp hy) fun a hz296 => an2 hz296 fun ha he297 => ?_
      clear hz296
      subst he297
      have := h a ha
      lia
    · rw [List.mem_singleton.mp hy]; lia
theorem lacks_nats (ns ms : List Nat) : ∀ i, lacksUp (nats ns) (nats ms) i = nats (lacksN ns ms i)
  | 0 => rfl
  | i + 1 => by
    simp only [lacksUp, lacksN, keeps_nats, lacks_nats ns ms i]
    rw [nats_getD]
    split <;> simp [nats]
theorem lacks_sub {ns ms : List Nat} : ∀ {i : Nat}, i ≤ ns.length → ∀ x ∈ lacksN ns ms i, x ∈ ns
  | 0, _, _, h => nomatch h
  | i + 1, hi, x, h => by
    simp only [lacksN, List.mem_append] at h
    rcases h with h | h
    · exact lacks_sub (by lia) x h
    · split at h
      · rw [List.mem_singleton.mp h, List.getD_eq_getElem?_getD, List.getElem?_eq_getElem (by lia)]
        exact List.getElem_mem _
      · cases h
theorem lacks_len {ns ms : List Nat} : ∀ {i : Nat}, (lacksN ns ms i).length ≤ i
  | 0 => Nat.le_refl _
  | i + 1 => by
    have := lacks_len (ns := ns) (ms := ms) (i := i)
    simp only [lacksN, List.length_append]
    split <;> simp <;> lia
end

section
open PySem PySem.W PyProof.Rows PySem.Calls
variable {w : World} {A : Around} {s : Shared} {E : Value → Shared → Prop}
theorem weight_nats : ∀ {ns : List Nat}, (∀ n ∈ ns, n < most) → PyData.weightAll ((nats ns).map .int) ≤ 38 * ns.length
  | [], _ => by simp [nats, PyData.weightAll]
  | n :: r, h => by
    have ih := weight_nats (ns := r) fun x hx => h x (.tail _ hx)
    have hn : n < 2 ^ 36 := Nat.lt_trans (h n (.head _)) (by decide)
    have : PyData.weight (.int (n : Int)) ≤ 37 := by
      unfold PyData.weight
      split
      · lia
      · next c =>
        have hz : n ≠ 0 := fun q => c (by rw [q]; rfl)
        rw [Int.natAbs_natCast]
        have := (Nat.log2_lt hz).mpr hn
        lia
    simp only [nats, List.map_cons, PyData.weightAll, List.length_cons] at ih ⊢
    lia
theorem lay_nats {ns : List Nat} (h8 : ns.length ≤ 8) (hb : ∀ n ∈ ns, n < most) : PyData.layable0 (.list ((nats ns).map .int)) = true := by
  have h1 := weight_nats hb
  have h2 := PySem.W.depthAll_ints (nats ns)
  unfold PyData.layable0
  rw [Bool.and_eq_true, Bool.and_eq_true]
  refine ⟨⟨?_, ?_⟩, ?_⟩
  · unfold PyData.canLay0; exact PySem.W.canLayAll0_ints _
  · rw [decide_eq_true_eq]; unfold PyData.depth; lia
  · rw [decide_eq_true_eq]; unfold PyData.weight; lia
theorem snocN {zs : List Value} {gs : List Nat} {j : Nat} {t : Tok} (h : IntsAre zs (nats gs)) : IntsAre (zs ++ [.int (j : Int) t]) (nats (gs ++ [j])) := by
  rw [nats, List.map_append]
  exact .append h (.cons _ _ .nil)
theorem idx_at {ns : List Nat} {x : Nat} (h : x ∈ ns) : (nats ns).idxOf (x : Int) < ns.length ∧ ns.getD ((nats ns).idxOf (x : Int)) 0 = x := by
  have hl : (nats ns).idxOf (x : Int) < (nats ns).length := List.idxOf_lt_length_of_mem ((nats_mem _ _).mpr h)
  have e := List.getElem_idxOf hl
  have hl' : (nats ns).idxOf (x : Int) < ns.length := by rw [nats, List.length_map] at hl; exact hl
  refine ⟨hl', ?_⟩
  have e2 := nats_getD ns ((nats ns).idxOf (x : Int))
  rw [List.getD_eq_getElem?_getD, List.getElem?_eq_getElem hl, Option.getD_some, e] at e2
  exact (Int.ofNat_inj.mp e2).symm
theorem segI2 {L fa : Addr} {cd : Value} {g : Heap} {m : Str → Option Value} {d u : Nat} {Q : Flow → Shared → Prop} (X : Wd w g) {k : Nat} (hA' : Ar ⟨none, d, some [lawEnv L fa cd], none, u⟩ (k + 100)) (F : Fr g L s.heap m)
    {aW aC aN : Addr} {wv cv nv : List Value} {kW kC kN : Nat} {cs : List Int} {ns : List Nat} {o1 o2 o3 o4 o5 : Obj} {aO aP : Addr} {ov pv : List Value} {kO kP : Nat} {aL : Addr} {lv : List Value} {kL : Nat} {nl : List (Addr × Obj)} {a1 a2 : Addr} {y1 y2 : List Value} {k1 k2 : Nat} {ks1 ks2 : List Nat} {a3 a4 : Addr} {y3 y4 : List Value} {k3 k4 : Nat} (N : News g L s.heap ((a4, PySem.W.listOf (List.toArray y4) k4) :: (a3, PySem.W.listOf (List.toArray y3) k3) :: (a2, PySem.W.listOf (List.toArray y2) k2) :: (a1, PySem.W.listOf (List.toArray y1) k1) :: (aL, PySem.W.listOf lv.toArray kL)::(aP, PySem.W.listOf pv.toArray kP)::(aO, PySem.W.listOf ov.toArray kO)::(aN, PySem.W.listOf nv.toArray kN)::(aC, PySem.W.listOf cv.toArray kC)::(aW, PySem.W.listOf wv.toArray kW)::(L + 1 + 1 + 1 + 1 + 1, o5)::(L + 1 + 1 + 1 + 1, o4)::(L + 1 + 1 + 1, o3)::(L + 1 + 1, o2)::(L + 1, o1)::nl)) (d1 : o1.data = .cell (some (.ref aW))) (d2 : o2.data = .cell (some (.ref aC))) (d3 : o3.data = .cell (some (.ref aN))) (d4 : o4.data = .cell (some (.ref aP))) (d5 : o5.data = .cell (some (.ref aL))) (iW : IntsAre wv [1, 256, 131072, 83886080, 60129542144]) (iC : IntsAre cv cs) (lC : cs.length = 8) (iN : IntsAre nv (nats ns)) (lN : ns.length = 8) (bN : ∀ n ∈ ns, n < most) (eO : OctsAre ov ns) (eP : HexsAre pv ns) (mO : m (Str.ofString "octets") = some (.ref aO)) (eL : PlsAre nl lv ns) (m1 : m (Str.ofString "one") = some (.ref a1)) (m2 : m (Str.ofString "two") = some (.ref a2)) (i1 : IntsAre y1 (nats (ks1.map (· % 8)))) (i2 : IntsAre y2 (nats (ks2.map (· % 8)))) (e1 : Keyd ns ks1) (e2 : Keyd ns ks2) (m3 : m (Str.ofString "first") = some (.ref a3)) (m4 : m (Str.ofString "second") = some (.ref a4)) (i3 : IntsAre y3 (nats (ks1.map (· / 8)))) (i4 : IntsAre y4 (nats (ks2.map (· / 8))))
    (hq : ∀ h' tk (a5 a6 : Addr) (y5 y6 : List Value) (k5 k6 : Nat) (g5 g6 : List Nat) m', Fr g L h' m' → m' (Str.ofString "octets") = some (.ref aO) → m' (Str.ofString "one") = some (.ref a1) → m' (Str.ofString "two") = some (.ref a2) → m' (Str.ofString "gone") = some (.ref a5) → m' (Str.ofString "come") = some (.ref a6) →
      News g L h' ((a6, PySem.W.listOf (List.toArray y6) k6) :: (a5, PySem.W.listOf (List.toArray y5) k5) :: (a2, PySem.W.listOf (List.toArray y2) k2) :: (a1, PySem.W.listOf (List.toArray y1) k1) :: (aL, PySem.W.listOf lv.toArray kL)::(aP, PySem.W.listOf pv.toArray kP)::(aO, PySem.W.listOf ov.toArray kO)::(aN, PySem.W.listOf nv.toArray kN)::(aC, PySem.W.listOf cv.toArray kC)::(aW, PySem.W.listOf wv.toArray kW)::(L + 1 + 1 + 1 + 1 + 1, o5)::(L + 1 + 1 + 1 + 1, o4)::(L + 1 + 1 + 1, o3)::(L + 1 + 1, o2)::(L + 1, o1)::nl) → IntsAre y5 (nats g5) → (∀ j ∈ g5, j < 8) → g5.map (fun j => ns.getD j 0) = lacksN (ks1.map (· / 8)) (ks2.map (· / 8)) (ks1.map (· / 8)).length → IntsAre y6 (nats g6) → (∀ j ∈ g6, j < 8) → g6.map (fun j => ns.getD j 0) = lacksN (ks2.map (· / 8)) (ks1.map (· / 8)) (ks2.map (· / 8)).length → Q .next { s with heap := h', toks := tk }) :
    wpAny (model Pr w) ⟨none, d, some [lawEnv L fa cd], none, u⟩ (execs ((lawBody.drop 17).take 2) (lawEnv L fa cd)) Q (fun _ _ => False) s := by
  obtain ⟨K0, mean, mg, mb, T⟩ := id X
  refine execs_cast (l' := [_, _]) rfl ?_
  refine wpAny_execs_cons ?_
  refine compAU (by with_unfolding_all rfl) (by with_unfolding_all rfl) (by decide) (by rfl) (by decide) (by rfl) (by rfl) (by rfl) ?_
  walk_at "item"
  have L3 : (nats (ks1.map (· / 8))).length ≤ 8 := by rw [nats, List.length_map, List.length_map]; exact e1.2.2
  have L4 : (nats (ks2.map (· / 8))).length ≤ 8 := by rw [nats, List.length_map, List.length_map]; exact e2.2.2
  have hin1 : ∀ x ∈ ks1.map (· / 8), x ∈ ns := fun x hx => by
    refine ex1 (List.mem_map.mp hx) fun q hz230 => an2 hz230 fun hq he231 => ?_
    clear hz230
    subst he231
    exact List.mem_of_getElem? (e1.2.1 q hq)
  have hin2 : ∀ x ∈ ks2.map (· / 8), x ∈ ns := fun x hx => by
    refine ex1 (List.mem_map.mp hx) fun q hz228 => an2 hz228 fun hq he229 => ?_
    clear hz228
    subst he229
    exact List.mem_of_getElem? (e2.2.1 q hq)
  refine t_lacks (k := k + 90) (X.grow F.keep) (hA'.mono (by lia)) a3 a4 y3 y4 _ _ ⟨_, (N _ (by k_mem : (a3, PySem.W.listOf (List.toArray y3) k3) ∈ _)).1, rfl, _, rfl⟩ ⟨_, (N _ (by k_mem : (a4, PySem.W.listOf (List.toArray y4) k4) ∈ _)).1, rfl, _, rfl⟩ i3 i4 L3 L4 fun DLa ca h₂a tk₂a wsa kka nDa gDa iDa => ?_
  have F₃a := frGrow F kka
  have N₃a := newsAdd F N kka gDa nDa
  rw [lacks_nats, show (nats (ks1.map (· / 8))).length = (ks1.map (· / 8)).length from by rw [nats, List.length_map]] at iDa
  have hsuba : ∀ x ∈ lacksN (ks1.map (· / 8)) (ks2.map (· / 8)) (ks1.map (· / 8)).length, x ∈ ns := fun x hx => hin1 x (lacks_sub (Nat.le_refl _) x hx)
  have hlla := lacks_len (ns := ks1.map (· / 8)) (ms := ks2.map (· / 8)) (i := (ks1.map (· / 8)).length)
  have h8a : (ks1.map (· / 8)).length ≤ 8 := by rw [nats, List.length_map] at L3; exact L3
  generalize hlka : lacksN (ks1.map (· / 8)) (ks2.map (· / 8)) (ks1.map (· / 8)).length = lka at iDa hsuba hlla
  have hwla : wsa.length = lka.length := by rw [iDa.length, nats, List.length_map]
  refine src_list rfl F₃a N₃a (.inr ⟨_, .head _, rfl, _, rfl⟩) (by rw [List.size_toArray, sizeLine_eq]; lia) fun h₃a ita Sa => (exi6 _ _ _ _ _ _ ⟨Sa, ?_⟩)
  refine rest_uni (fun i zs => ∃ gs : List Nat, IntsAre zs (nats gs) ∧ (∀ j ∈ gs, j < 8) ∧ gs.map (fun j => ns.getD j 0) = lka.take i) (.inr ⟨_, .head _, rfl, _, rfl⟩) ⟨[], .nil, (fun _ h => nomatch h), rfl⟩ ?_ ?_
  · intro i v zs I oI C oC D m₂ h₄ tk₄ E' hin hv hz36
    refine ex1 hz36 fun gs hz227 => an3 hz227 fun hJ hg8 hgm => ?_
    clear hz227
    try clear hz36
    intro hC hx F₂ N₂
    refine ex2 (nats_at iDa (by simpa using hv)) fun x t hz225 => an2 hz225 fun ex he226 => ?_
    clear hz225
    subst he226
    have hxn := hsuba x (List.mem_of_getElem? ex)
    walk_at "item"
    rename Fr _ _ _ _ => F₅
    rename News _ _ _ _ => N₅
    refine an2 (idx_at hxn) fun ix1 ix2 => ?_
    refine index_list_ints (ns := nats ns) ⟨_, (N₅ _ (by k_mem : (aN, PySem.W.listOf nv.toArray kN) ∈ _)).1, rfl, _, rfl⟩ iN (lay_nats (Nat.le_of_eq lN) bN) ((nats_mem _ _).mpr hxn) (EltEnd.go F₅ N₅ (fun _ hp => hp) ⟨gs ++ [(nats ns).idxOf (x : Int)], ?_, ?_, ?_⟩)
    · exact snocN hJ
    · intro j hj
      rcases List.mem_append.mp hj with hj | hj
      · exact hg8 j hj
      · rw [List.mem_singleton.mp hj]; lia
    · rw [List.map_append, hgm, take_succ ex]
      simp only [List.map_cons, List.map_nil, ix2]
  · intro zsa hz37
    refine ex1 hz37 fun gsa hz224 => an3 hz224 fun hJa hga hma => ?_
    clear hz224
    try clear hz37
    intro Da h₅a tk₅a Fa Na _
    rw [List.take_of_length_le (by rw [List.size_toArray]; lia)] at hma
    clear Sa ita
    try dsimp only
    refine wpAny_execs_cons ?_
    refine compAU (by with_unfolding_all rfl) (by with_unfolding_all rfl) (by decide) (by rfl) (by decide) (by rfl) (by rfl) (by rfl) ?_
    walk_at "item"
    rename Fr _ _ _ _ => F₈
    rename News _ _ _ _ => N₈
    refine t_lacks (k := k + 90) (X.grow F₈.keep) (hA'.mono (by lia)) a4 a3 y4 y3 _ _ ⟨_, (N₈ _ (by k_mem : (a4, PySem.W.listOf (List.toArray y4) k4) ∈ _)).1, rfl, _, rfl⟩ ⟨_, (N₈ _ (by k_mem : (a3, PySem.W.listOf (List.toArray y3) k3) ∈ _)).1, rfl, _, rfl⟩ i4 i3 L4 L3 fun DLb cb h₂b tk₂b wsb kkb nDb gDb iDb => ?_
    have F₃b := frGrow F₈ kkb
    have N₃b := newsAdd F₈ N₈ kkb gDb nDb
    rw [lacks_nats, show (nats (ks2.map (· / 8))).length = (ks2.map (· / 8)).length from by rw [nats, List.length_map]] at iDb
    have hsubb : ∀ x ∈ lacksN (ks2.map (· / 8)) (ks1.map (· / 8)) (ks2.map (· / 8)).length, x ∈ ns := fun x hx => hin2 x (lacks_sub (Nat.le_refl _) x hx)
    have hllb := lacks_len (ns := ks2.map (· / 8)) (ms := ks1.map (· / 8)) (i := (ks2.map (· / 8)).length)
    have h8b : (ks2.map (· / 8)).length ≤ 8 := by rw [nats, List.length_map] at L4; exact L4
    generalize hlkb : lacksN (ks2.map (· / 8)) (ks1.map (· / 8)) (ks2.map (· / 8)).length = lkb at iDb hsubb hllb
    have hwlb : wsb.length = lkb.length := by rw [iDb.length, nats, List.length_map]
    refine src_list rfl F₃b N₃b (.inr ⟨_, .head _, rfl, _, rfl⟩) (by rw [List.size_toArray, sizeLine_eq]; lia) fun h₃b itb Sb => (exi6 _ _ _ _ _ _ ⟨Sb, ?_⟩)
    refine rest_uni (fun i zs => ∃ gs : List Nat, IntsAre zs (nats gs) ∧ (∀ j ∈ gs, j < 8) ∧ gs.map (fun j => ns.getD j 0) = lkb.take i) (.inr ⟨_, .head _, rfl, _, rfl⟩) ⟨[], .nil, (fun _ h => nomatch h), rfl⟩ ?_ ?_
    · intro i v zs I oI C oC D m₂ h₄ tk₄ E' hin hv hz38
      refine ex1 hz38 fun gs hz223 => an3 hz223 fun hJ hg8 hgm => ?_
      clear hz223
      try clear hz38
      intro hC hx F₂ N₂
      refine ex2 (nats_at iDb (by simpa using hv)) fun x t hz221 => an2 hz221 fun ex he222 => ?_
      clear hz221
      subst he222
      have hxn := hsubb x (List.mem_of_getElem? ex)
      walk_at "item"
      rename Fr _ _ _ _ => F₅
      rename News _ _ _ _ => N₅
      refine an2 (idx_at hxn) fun ix1 ix2 => ?_
      refine index_list_ints (ns := nats ns) ⟨_, (N₅ _ (by k_mem : (aN, PySem.W.listOf nv.toArray kN) ∈ _)).1, rfl, _, rfl⟩ iN (lay_nats (Nat.le_of_eq lN) bN) ((nats_mem _ _).mpr hxn) (EltEnd.go F₅ N₅ (fun _ hp => hp) ⟨gs ++ [(nats ns).idxOf (x : Int)], ?_, ?_, ?_⟩)
      · exact snocN hJ
      · intro j hj
        rcases List.mem_append.mp hj with hj | hj
        · exact hg8 j hj
        · rw [List.mem_singleton.mp hj]; lia
      · rw [List.map_append, hgm, take_succ ex]
        simp only [List.map_cons, List.map_nil, ix2]
    · intro zsb hz39
      refine ex1 hz39 fun gsb hz220 => an3 hz220 fun hJb hgb hmb => ?_
      clear hz220
      try clear hz39
      intro Db h₅b tk₅b Fb Nb _
      rw [List.take_of_length_le (by rw [List.size_toArray]; lia)] at hmb
      clear Sb itb
      try dsimp only
      refine wpAny_execs_nil (hq _ _ Da Db zsa zsb zsa.length zsb.length gsa gsb _ Fb (by walk_at "look") (by walk_at "look") (by walk_at "look") (by walk_at "look") (if_pos rfl) (fun p hp => ?_) hJa hga (by rw [hlka]; exact hma) hJb hgb (by rw [hlkb]; exact hmb))
      rcases List.mem_cons.mp hp with rfl | hp
      · exact Nb _ (.head _)
      rcases List.mem_cons.mp hp with rfl | hp
      · exact Nb _ (.tail _ (.tail _ (.head _)))
      exact Nb _ (.tail _ (.tail _ (.tail _ (.tail _ (.tail _ (.tail _ hp))))))
end

section
noncomputable def lk (ms : List Nat) : List Nat → List Nat → List Nat
  | _, [] => []
  | seen, x :: r => (if x ∉ ms ∧ (x ∉ seen ∨ ∀ y ∈ ms, y < x) then [x] else []) ++ lk ms (seen ++ [x]) r
theorem lacks_lk (ms : List Nat) : ∀ (r seen : List Nat), lacksN (seen ++ r) ms (seen ++ r).length = lacksN (seen ++ r) ms seen.length ++ lk ms seen r
  | [], seen => by simp [lk]
  | x :: r, seen => by
    have ih := lacks_lk ms r (seen ++ [x])
    rw [List.append_assoc, List.singleton_append] at ih
    rw [ih, List.length_append, List.length_singleton, lacksN, lk, List.append_assoc]
    congr 2
    unfold keepsN
    simp
theorem lacks_lk0 (ns ms : List Nat) : lacksN ns ms ns.length = lk ms [] ns := by
  have := lacks_lk ms ns []
  simpa [lacksN] using this
theorem lk_same {ms ms' : List Nat} : ∀ (r seen seen' : List Nat), (∀ z ∈ r, (z ∈ seen ↔ z ∈ seen') ∧ (z ∈ ms ↔ z ∈ ms') ∧ ((∀ y ∈ ms, y < z) ↔ ∀ y ∈ ms', y < z)) → lk ms seen r = lk ms' seen' r
  | [], _, _, _ => rfl
  | x :: r, seen, seen', h => by
    have ih := lk_same r (seen ++ [x]) (seen' ++ [x]) fun z hz => by
      have := h z (.tail _ hz)
      simp only [List.mem_append, List.mem_singleton, this.1]
      exact ⟨trivial, this.2⟩
    have hx := h x (.head _)
    rw [lk, lk, ih]
    simp only [hx.1, hx.2.1, hx.2.2]
theorem ptail {x : Nat} {r : List Nat} (h : (x :: r).Pairwise (· ≤ ·)) : r.Pairwise (· ≤ ·) := (List.pairwise_cons.mp h).2
theorem lk_skip {ms : List Nat} {x : Nat} (hx : ¬ ∀ y ∈ ms, y < x) : ∀ (r seen : List Nat), x ∈ seen → r.Pairwise (· ≤ ·) → (∀ z ∈ r, x ≤ z) → lk ms seen r = lk ms seen (r.dropWhile (· == x))
  | [], _, _, _, _ => rfl
  | z :: r, seen, hs, hp, hge => by
    by_cases e : z = x
    · subst e
      rw [List.dropWhile_cons_of_pos (by simp), lk, if_neg (fun c => c.2.elim (fun c => c hs) hx), List.nil_append]
      have : lk ms (seen ++ [z]) r = lk ms seen r := lk_same r _ _ fun y hy => by
        refine ⟨?_, Iff.rfl, Iff.rfl⟩
        rw [List.mem_append, List.mem_singleton]
        exact ⟨fun q => q.elim id fun q => q ▸ hs, .inl⟩
      rw [this]
      exact lk_skip hx r seen hs (ptail hp) fun y hy => hge y (.tail _ hy)
    · rw [List.dropWhile_cons_of_neg (by simpa using e)]
theorem drop_gt {x : Nat} : ∀ {r : List Nat}, r.Pairwise (· ≤ ·) → (∀ z ∈ r, x ≤ z) → ∀ z, z ∈ r.dropWhile (· == x) ↔ z ∈ r ∧ x < z
  | [], _, _, z => by simp
  | y :: r, hp, hge, z => by
    have hy := hge y (.head _)
    by_cases e : y = x
    · subst e
      rw [List.dropWhile_cons_of_pos (by simp), drop_gt (ptail hp) (fun w hw => hge w (.tail _ hw)) z, List.mem_cons]
      constructor
      · exact fun q => ⟨.inr q.1, q.2⟩
      · rintro ⟨q | q, w⟩
        · lia
        · exact ⟨q, w⟩
    · rw [List.dropWhile_cons_of_neg (by simpa using e)]
      refine ⟨fun q => ⟨q, ?_⟩, fun q => q.1⟩
      rcases List.mem_cons.mp q with q | q
      · lia
      · have := List.rel_of_pairwise_cons hp q; lia
theorem drop_sorted {x : Nat} {r : List Nat} (h : r.Pairwise (· ≤ ·)) : (r.dropWhile (· == x)).Pairwise (· ≤ ·) := h.sublist (List.dropWhile_sublist _)
theorem lk_nil : ∀ (r seen : List Nat), lk [] seen r = r
  | [], _ => rfl
  | x :: r, seen => by rw [lk, lk_nil r]; simp
/-- the steps of sorted_list_difference, seen from _law_lacks -/
theorem lk_less {x y : Nat} {e a : List Nat} (hxy : x < y) (he : (x :: e).Pairwise (· ≤ ·)) (ha : (y :: a).Pairwise (· ≤ ·)) : lk (y :: a) [] (x :: e) = x :: lk (y :: a) [] (e.dropWhile (· == x)) := by
  have hge : ∀ z ∈ e, x ≤ z := fun z hz => List.rel_of_pairwise_cons he hz
  have hm : x ∉ y :: a := fun q => by
    rcases List.mem_cons.mp q with q | q
    · lia
    · have := List.rel_of_pairwise_cons ha q; lia
  rw [lk, if_pos ⟨hm, .inl (by simp)⟩, List.nil_append, List.singleton_append]
  congr 1
  rw [lk_skip (fun q => absurd (q y (.head _)) (by lia)) e [x] (.head _) (ptail he) hge]
  refine lk_same _ _ _ fun z hz => ⟨?_, Iff.rfl, Iff.rfl⟩
  have := ((drop_gt (ptail he) hge z).mp hz).2
  simp only [List.mem_singleton, List.not_mem_nil, iff_false]; lia
theorem lk_past {x y : Nat} {e a : List Nat} (hxy : x < y) (he : (x :: e).Pairwise (· ≤ ·)) (ha : (y :: a).Pairwise (· ≤ ·)) : lk (x :: e) [] (y :: a) = lk (e.dropWhile (· == x)) [] (y :: a) := by
  have hge : ∀ z ∈ e, x ≤ z := fun z hz => List.rel_of_pairwise_cons he hz
  refine lk_same _ _ _ fun z hz => ⟨Iff.rfl, ?_, ?_⟩
  all_goals
    have hz : x < z := by
      rcases List.mem_cons.mp hz with q | q
      · lia
      · have := List.rel_of_pairwise_cons ha q; lia
  · rw [drop_gt (ptail he) hge z, List.mem_cons]
    exact ⟨fun q => ⟨q.resolve_left (by lia), hz⟩, fun q => .inr q.1⟩
  · refine ⟨fun q y hy => q y (.tail _ ((drop_gt (ptail he) hge y).mp hy).1), fun q y hy => ?_⟩
    rcases List.mem_cons.mp hy with rfl | hy
    · exact hz
    · by_cases c : x < y
      · exact q y ((drop_gt (ptail he) hge y).mpr ⟨hy, c⟩)
      · lia
theorem lk_both {x : Nat} {e a : List Nat} (he : (x :: e).Pairwise (· ≤ ·)) (ha : (x :: a).Pairwise (· ≤ ·)) : lk (x :: a) [] (x :: e) = lk (a.dropWhile (· == x)) [] (e.dropWhile (· == x)) := by
  have hge : ∀ z ∈ e, x ≤ z := fun z hz => List.rel_of_pairwise_cons he hz
  have hga : ∀ z ∈ a, x ≤ z := fun z hz => List.rel_of_pairwise_cons ha hz
  rw [lk, if_neg (fun c => c.1 (.head _)), List.nil_append, List.nil_append]
  rw [lk_skip (fun q => absurd (q x (.head _)) (by lia)) e [x] (.head _) (ptail he) hge]
  refine lk_same _ _ _ fun z hz => ?_
  have hz := ((drop_gt (ptail he) hge z).mp hz).2
  refine ⟨?_, ?_, ?_⟩
  · simp only [List.mem_singleton, List.not_mem_nil, iff_false]; lia
  · rw [drop_gt (ptail ha) hga z, List.mem_cons]
    exact ⟨fun q => ⟨q.resolve_left (by lia), hz⟩, fun q => .inr q.1⟩
  · refine ⟨fun q y hy => q y (.tail _ ((drop_gt (ptail ha) hga y).mp hy).1), fun q y hy => ?_⟩
    rcases List.mem_cons.mp hy with rfl | hy
    · exact hz
    · by_cases c : x < y
      · exact q y ((drop_gt (ptail ha) hga y).mpr ⟨hy, c⟩)
      · lia
theorem sd_lk {e a m u : List Nat} (h : SD e a m u) (he : e.Pairwise (· ≤ ·)) (ha : a.Pairwise (· ≤ ·)) : m = lk a [] e ∧ u = lk e [] a := by
  induction h with
  | nilE a => exact ⟨rfl, (lk_nil a []).symm⟩
  | nilA e => exact ⟨(lk_nil e []).symm, rfl⟩
  | lt hxy _ ih =>
    refine an2 (ih (drop_sorted (ptail he)) ha) fun h1 h2 => ?_
    exact ⟨by rw [lk_less hxy he ha, ← h1], by rw [lk_past hxy he ha, ← h2]⟩
  | gt hxy _ ih =>
    refine an2 (ih he (drop_sorted (ptail ha))) fun h1 h2 => ?_
    exact ⟨by rw [lk_past hxy ha he, ← h1], by rw [lk_less hxy ha he, ← h2]⟩
  | eq _ ih =>
    refine an2 (ih (drop_sorted (ptail he)) (drop_sorted (ptail ha))) fun h1 h2 => ?_
    exact ⟨by rw [lk_both he ha, ← h1], by rw [lk_both ha he, ← h2]⟩
theorem sd_lacks {e a m u : List Nat} (h : SD e a m u) (he : e.Pairwise (· ≤ ·)) (ha : a.Pairwise (· ≤ ·)) : m = lacksN e a e.length ∧ u = lacksN a e a.length := by
  rw [lacks_lk0, lacks_lk0]; exact sd_lk h he ha
theorem keyd_sorted {ks : List Nat} (h : ∀ i j, i < j → j < ks.length → ks.getD i 0 < ks.getD j 0) : (ks.map (· / 8)).Pairwise (· ≤ ·) := by
  rw [List.pairwise_map, List.pairwise_iff_getElem]
  intro i j hi hj hij
  have := h i j hij hj
  rw [List.getD_eq_getElem?_getD, List.getD_eq_getElem?_getD, List.getElem?_eq_getElem hi, List.getElem?_eq_getElem hj] at this
  simp only [Option.getD_some] at this
  lia
end

section
open PySem PySem.W PyProof.Rows PySem.Calls PySem.SeqAt
noncomputable def HexE (v : Value) (n : Nat) : Prop := n < most ∧ ∃ t, v = .bytes (hexB (octB n)) t
noncomputable def PlsE (nl : List (Addr × Obj)) (v : Value) (n : Nat) : Prop := n < most ∧ ∃ a vs c, v = .ref a ∧ (a, PySem.W.listOf (List.toArray vs) c) ∈ nl ∧ IntsAre vs (nats (sext (octs n)))
theorem Els.bound {El El' : Value → Nat → Prop} : ∀ {vs : List Value} {ks : List Nat}, (∀ v k, k ∈ ks → El v k → El' v k) → Els El vs ks → Els El' vs ks
  | [], [], _, _ => trivial
  | _ :: _, k :: _, f, h => ⟨f _ _ (.head _) h.1, Els.bound (fun v k hk => f v k (.tail _ hk)) h.2⟩
theorem ord_lt {n m : Nat} : (compare n m == .lt) = decide (n < m) := by
  rcases Nat.lt_trichotomy n m with c | c | c
  · rw [Nat.compare_eq_lt.mpr c, decide_eq_true c]; rfl
  · subst c; rw [Nat.compare_eq_eq.mpr rfl, decide_eq_false (Nat.lt_irrefl _)]; rfl
  · rw [Nat.compare_eq_gt.mpr c, decide_eq_false (by lia)]; rfl
theorem ord_gt {n m : Nat} : (compare n m == .gt) = decide (m < n) := by
  rcases Nat.lt_trichotomy n m with c | c | c
  · rw [Nat.compare_eq_lt.mpr c, decide_eq_false (by lia)]; rfl
  · subst c; rw [Nat.compare_eq_eq.mpr rfl, decide_eq_false (Nat.lt_irrefl _)]; rfl
  · rw [Nat.compare_eq_gt.mpr c, decide_eq_true c]; rfl
theorem order_self (l : List UInt8) : Builtin.Bytes.order l l = .eq := by rw [order_cmpL]; exact cmpL_self _
theorem hexOct_eq {n m : Nat} (hn : n < most) (hm : m < most) : ((hexB (octB n)).toList == (hexB (octB m)).toList) = (n == m) := by
  by_cases c : n = m
  · subst c; rw [beq_self_eq_true, beq_self_eq_true]
  · rw [beq_eq_false_iff_ne.mpr c, beq_eq_false_iff_ne]
    intro q
    have := hex_order hn hm
    rw [q, order_self] at this
    exact c (Nat.compare_eq_eq.mp this.symm)
theorem pls_eq {n m : Nat} (hn : n < most) (hm : m < most) : decide (nats (sext (octs n)) = nats (sext (octs m))) = (n == m) := by
  by_cases c : n = m
  · subst c; rw [beq_self_eq_true, decide_eq_true rfl]
  · rw [beq_eq_false_iff_ne.mpr c, decide_eq_false]
    intro q
    have := sext_order hn hm
    rw [q, cmpI_nats, cmpL_self] at this
    exact c (Nat.compare_eq_eq.mp this.symm)
theorem told_hex (g : Heap) : Told g HexE where
  eq := by
    intro w A s E Q x y a b hz63
    clear hz63
    intro hz64
    clear hz64
    intro hz65
    refine an2 hz65 fun ha hz372 => ex1 hz372 fun t he373 => ?_
    clear hz372
    try clear hz65
    subst he373
    intro hz66
    refine an2 hz66 fun hb hz370 => ex1 hz370 fun u he371 => ?_
    clear hz370
    try clear hz66
    subst he371
    intro h
    exact eq_bytes (by rw [hexOct_eq ha hb]; exact h)
  lt := by
    intro w A s E Q x y a b hz67
    clear hz67
    intro hz68
    clear hz68
    intro hz69
    refine an2 hz69 fun ha hz368 => ex1 hz368 fun t he369 => ?_
    clear hz368
    try clear hz69
    subst he369
    intro hz70
    refine an2 hz70 fun hb hz366 => ex1 hz366 fun u he367 => ?_
    clear hz366
    try clear hz70
    subst he367
    intro h
    exact lt_bytes (by rw [hex_order ha hb, ord_lt]; exact h)
  gt := by
    intro w A s E Q x y a b hz71
    clear hz71
    intro hz72
    clear hz72
    intro hz73
    refine an2 hz73 fun ha hz364 => ex1 hz364 fun t he365 => ?_
    clear hz364
    try clear hz73
    subst he365
    intro hz74
    refine an2 hz74 fun hb hz362 => ex1 hz362 fun u he363 => ?_
    clear hz362
    try clear hz74
    subst he363
    intro h
    exact gt_bytes (by rw [hex_order ha hb, ord_gt]; exact h)
theorem told_pls {g : Heap} {nl : List (Addr × Obj)} (hg : ∀ p ∈ nl, g.get? p.1 = some p.2) : Told g (PlsE nl) where
  eq := by
    intro w A s E Q x y a b up hu hz75
    refine an2 hz75 fun ha hz359 => ex3 hz359 fun p vs c hz360 => an3 hz360 fun he361 mp iv => ?_
    clear hz359 hz360
    try clear hz75
    subst he361
    intro hz76
    refine an2 hz76 fun hb hz356 => ex3 hz356 fun p' us c' hz357 => an3 hz357 fun he358 mp' iu => ?_
    clear hz356 hz357
    try clear hz76
    subst he358
    intro h
    exact eq_intsK ⟨_, up _ _ (hg _ mp), rfl, _, rfl⟩ iv ⟨_, up _ _ (hg _ mp'), rfl, _, rfl⟩ iu hu (by rw [pls_eq ha hb]; exact h)
  lt := by
    intro w A s E Q x y a b up hu hz77
    refine an2 hz77 fun ha hz353 => ex3 hz353 fun p vs c hz354 => an3 hz354 fun he355 mp iv => ?_
    clear hz353 hz354
    try clear hz77
    subst he355
    intro hz78
    refine an2 hz78 fun hb hz350 => ex3 hz350 fun p' us c' hz351 => an3 hz351 fun he352 mp' iu => ?_
    clear hz350 hz351
    try clear hz78
    subst he352
    intro h
    exact lt_lists (Nat.lt_of_le_of_lt (Nat.le_add_right _ _) hu) (exi2 _ _ ⟨up _ _ (hg _ mp), iv⟩) (exi2 _ _ ⟨up _ _ (hg _ mp'), iu⟩) (by rw [sext_order ha hb, ord_lt]; exact h)
  gt := by
    intro w A s E Q x y a b up hu hz79
    refine an2 hz79 fun ha hz347 => ex3 hz347 fun p vs c hz348 => an3 hz348 fun he349 mp iv => ?_
    clear hz347 hz348
    try clear hz79
    subst he349
    intro hz80
    refine an2 hz80 fun hb hz344 => ex3 hz344 fun p' us c' hz345 => an3 hz345 fun he346 mp' iu => ?_
    clear hz344 hz345
    try clear hz80
    subst he346
    intro h
    exact gt_lists (Nat.lt_of_le_of_lt (Nat.le_add_right _ _) hu) (exi2 _ _ ⟨up _ _ (hg _ mp), iv⟩) (exi2 _ _ ⟨up _ _ (hg _ mp'), iu⟩) (by rw [sext_order ha hb, ord_gt]; exact h)
theorem same_hex {A : Around} {s : Shared} {v u : Value} {n : Nat} (hv : HexE v n) (hu : HexE u n) : EqAt A s v u true := by
  refine an2 hv fun _ hz342 => ex1 hz342 fun t he343 => ?_
  clear hz342
  try clear hv
  subst he343
  refine an2 hu fun _ hz340 => ex1 hz340 fun t' he341 => ?_
  clear hz340
  try clear hu
  subst he341
  exact EqAt.bytes _ _ _
theorem same_pls {A : Around} {s : Shared} {nl : List (Addr × Obj)} {v u : Value} {n : Nat} (hg : ∀ p ∈ nl, s.heap.get? p.1 = some p.2) (hA : A.units + 64 < cLine) (hv : PlsE nl v n) (hu : PlsE nl u n) : EqAt A s v u true := by
  refine an2 hv fun _ hz337 => ex3 hz337 fun p vs c hz338 => an3 hz338 fun he339 mp iv => ?_
  clear hz337 hz338
  try clear hv
  subst he339
  refine an2 hu fun _ hz334 => ex3 hz334 fun p' us c' hz335 => an3 hz335 fun he336 mp' iu => ?_
  clear hz334 hz335
  try clear hu
  subst he336
  exact EqAt.ints ⟨_, hg _ mp, rfl, _, rfl⟩ iv ⟨_, hg _ mp', rfl, _, rfl⟩ iu hA
theorem same_lists {A : Around} {s : Shared} {El : Value → Nat → Prop} {a b : Addr} {vs us : List Value} {c c' : Nat} {ks : List Nat} (hEl : ∀ v u n, El v n → El u n → EqAt A.in1 s v u true)
    (hl : s.heap.get? a = some (PySem.W.listOf (List.toArray vs) c)) (hl' : s.heap.get? b = some (PySem.W.listOf (List.toArray us) c')) (hv : Els El vs ks) (hu : Els El us ks) (hA : A.units < cLine) : EqAt A s (.ref a) (.ref b) true := by
  refine EqAt.lists ⟨_, hl, rfl, _, rfl⟩ ⟨_, hl', rfl, _, rfl⟩ (by rw [hv.len, hu.len]) hA fun j v u h1 h2 => ?_
  refine ex1 (hv.at' h1) fun k hz333 => an2 hz333 fun e1 q1 => ?_
  clear hz333
  refine ex1 (hu.at' h2) fun k' hz332 => an2 hz332 fun e2 q2 => ?_
  clear hz332
  rw [e1] at e2
  cases e2
  exact hEl _ _ _ q1 q2
end

section
open PySem PySem.W PyProof.Rows PySem.Calls
variable {w : World} {A : Around} {s : Shared} {E : Value → Shared → Prop}
local macro_rules | `(tactic| k_mem) => `(tactic| with_reducible assumption)
theorem pickP {L fa : Addr} {cd : Value} {g : Heap} {m : Str → Option Value} {d u : Nat} (X : Wd w g) {k : Nat} (hA' : Ar ⟨none, d, some [lawEnv L fa cd], none, u⟩ (k + 100)) (F : Fr g L s.heap m) {E : Value → Shared → Prop} {Q : Value → Shared → Prop} {o : Obj} {aX : Addr} {cv : List Value} {kX : Nat} {ns : List Nat} {news : List (Addr × Obj)} {a : Addr} {y : List Value} {kk : Nat} {js : List Nat} {El : Value → Nat → Prop} {v : Str} {vp p1 p2 p3 px pos : Pos}
    (N : News g L s.heap news) (hc : (L + 1 + 1 + 1 + 1, o) ∈ news) (dc : o.data = .cell (some (.ref aX))) (hX : (aX, PySem.W.listOf cv.toArray kX) ∈ news) (eX : Els El cv ns) (lN : ns.length = 8)
    (ha : (a, PySem.W.listOf y.toArray kk) ∈ news) (hi : IntsAre y (nats js)) (hj : ∀ j ∈ js, j < 8) (hz : js.length ≤ 8)
    (hit : ∀ Q : Value → Shared → Prop, Q (.ref a) s → wpAny (model Pr w) ⟨none, d, some [lawEnv L fa cd], none, u⟩ (eval (.Name v vp) (lawEnv L fa cd)) Q E s)
    (h : ∀ h' tk D zs, Fr g L h' m → News g L h' ((D, PySem.W.listOf (List.toArray zs) zs.length) :: news) → Els El zs (js.map fun j => ns.getD j 0) → Q (.ref D) { s with heap := h', toks := tk }) :
    wpAny (model Pr w) ⟨none, d, some [lawEnv L fa cd], none, u⟩ (eval (.ListComp (.Subscript (.Name (Str.ofString "plain") p1) (.Name (Str.ofString "k") p2) p3) [⟨.Name (Str.ofString "k") px, .Name v vp, [], 0⟩] { kind := .function, names := [(Str.ofString ".0", .local), (Str.ofString "k", .local), (Str.ofString "plain", .free)], isGenerator := false, isCoroutine := false } pos) (lawEnv L fa cd)) Q E s := by
  have ly := hi.length
  rw [nats, List.length_map] at ly
  refine compEU (by with_unfolding_all rfl) (by decide) (by rfl) (by decide) (by rfl) ?_
  refine hit _ ?_
  refine src_list rfl F N (.inr ⟨_, ha, rfl, _, rfl⟩) (by rw [List.size_toArray, sizeLine_eq]; lia) fun h₂ it S => (exi7 _ _ _ _ _ _ _ ⟨S, ?_⟩)
  refine rest_uni (fun i ys => Els El ys ((js.take i).map fun j => ns.getD j 0)) (.inr ⟨_, ha, rfl, _, rfl⟩) trivial ?_ ?_
  · rintro i v ys I oI C oC D m₂ h₃ tk₃ E' hin hv hJ hC hx F₂ N₂
    refine ex2 (nats_at hi (by simpa using hv)) fun q t hz292 => an2 hz292 fun eq he293 => ?_
    clear hz292
    subst he293
    have hq8 := hj q (List.mem_of_getElem? eq)
    have hqn : ns[q]? = some (ns.getD q 0) := by rw [List.getD_eq_getElem?_getD, List.getElem?_eq_getElem (by lia), Option.getD_some]
    refine ex1 (eX.on hqn) fun e hz291 => an2 hz291 fun ev eE => ?_
    clear hz291
    walk_at "eval Subscript"
    refine' lcf_cell N₂ ?q1 (.tail _ (.tail _ (.tail _ hc))) dc ?_ ?q2 ?q3
    case q1 => rfl
    case q2 => rfl
    case q3 => rfl
    refine LCgL.ld_own N₂ (.tail _ (.head _)) hC hx ?_
    refine item_in (its := cv) ⟨_, (N₂ _ (.tail _ (.tail _ (.tail _ hX)))).1, rfl, _, rfl⟩ (by lia) (by lia) (v := e) (by rw [Int.toNat_natCast]; exact ev) ?_
    refine (EltEnd.go F₂ N₂ (fun _ hp => hp) ?_)
    rw [take_succ eq, List.map_append]
    exact hJ.snoc eE
  · intro ys hJ
    intro D h₃ tk₃ F₃ N₃ _
    rw [List.take_of_length_le (by rw [List.size_toArray]; lia)] at hJ
    exact h _ _ D ys F₃ N₃ hJ
theorem pickL {L fa : Addr} {cd : Value} {g : Heap} {m : Str → Option Value} {d u : Nat} (X : Wd w g) {k : Nat} (hA' : Ar ⟨none, d, some [lawEnv L fa cd], none, u⟩ (k + 100)) (F : Fr g L s.heap m) {E : Value → Shared → Prop} {Q : Value → Shared → Prop} {o : Obj} {aX : Addr} {cv : List Value} {kX : Nat} {ns : List Nat} {news : List (Addr × Obj)} {a : Addr} {y : List Value} {kk : Nat} {js : List Nat} {El : Value → Nat → Prop} {v : Str} {vp p1 p2 p3 px pos : Pos}
    (N : News g L s.heap news) (hc : (L + 1 + 1 + 1 + 1 + 1, o) ∈ news) (dc : o.data = .cell (some (.ref aX))) (hX : (aX, PySem.W.listOf cv.toArray kX) ∈ news) (eX : Els El cv ns) (lN : ns.length = 8)
    (ha : (a, PySem.W.listOf y.toArray kk) ∈ news) (hi : IntsAre y (nats js)) (hj : ∀ j ∈ js, j < 8) (hz : js.length ≤ 8)
    (hit : ∀ Q : Value → Shared → Prop, Q (.ref a) s → wpAny (model Pr w) ⟨none, d, some [lawEnv L fa cd], none, u⟩ (eval (.Name v vp) (lawEnv L fa cd)) Q E s)
    (h : ∀ h' tk D zs, Fr g L h' m → News g L h' ((D, PySem.W.listOf (List.toArray zs) zs.length) :: news) → Els El zs (js.map fun j => ns.getD j 0) → Q (.ref D) { s with heap := h', toks := tk }) :
    wpAny (model Pr w) ⟨none, d, some [lawEnv L fa cd], none, u⟩ (eval (.ListComp (.Subscript (.Name (Str.ofString "places") p1) (.Name (Str.ofString "k") p2) p3) [⟨.Name (Str.ofString "k") px, .Name v vp, [], 0⟩] { kind := .function, names := [(Str.ofString ".0", .local), (Str.ofString "k", .local), (Str.ofString "places", .free)], isGenerator := false, isCoroutine := false } pos) (lawEnv L fa cd)) Q E s := by
  have ly := hi.length
  rw [nats, List.length_map] at ly
  refine compEU (by with_unfolding_all rfl) (by decide) (by rfl) (by decide) (by rfl) ?_
  refine hit _ ?_
  refine src_list rfl F N (.inr ⟨_, ha, rfl, _, rfl⟩) (by rw [List.size_toArray, sizeLine_eq]; lia) fun h₂ it S => (exi7 _ _ _ _ _ _ _ ⟨S, ?_⟩)
  refine rest_uni (fun i ys => Els El ys ((js.take i).map fun j => ns.getD j 0)) (.inr ⟨_, ha, rfl, _, rfl⟩) trivial ?_ ?_
  · rintro i v ys I oI C oC D m₂ h₃ tk₃ E' hin hv hJ hC hx F₂ N₂
    refine ex2 (nats_at hi (by simpa using hv)) fun q t hz289 => an2 hz289 fun eq he290 => ?_
    clear hz289
    subst he290
    have hq8 := hj q (List.mem_of_getElem? eq)
    have hqn : ns[q]? = some (ns.getD q 0) := by rw [List.getD_eq_getElem?_getD, List.getElem?_eq_getElem (by lia), Option.getD_some]
    refine ex1 (eX.on hqn) fun e hz288 => an2 hz288 fun ev eE => ?_
    clear hz288
    walk_at "eval Subscript"
    refine' lcf_cell N₂ ?q1 (.tail _ (.tail _ (.tail _ hc))) dc ?_ ?q2 ?q3
    case q1 => rfl
    case q2 => rfl
    case q3 => rfl
    refine LCgL.ld_own N₂ (.tail _ (.head _)) hC hx ?_
    refine item_in (its := cv) ⟨_, (N₂ _ (.tail _ (.tail _ (.tail _ hX)))).1, rfl, _, rfl⟩ (by lia) (by lia) (v := e) (by rw [Int.toNat_natCast]; exact ev) ?_
    refine (EltEnd.go F₂ N₂ (fun _ hp => hp) ?_)
    rw [take_succ eq, List.map_append]
    exact hJ.snoc eE
  · intro ys hJ
    intro D h₃ tk₃ F₃ N₃ _
    rw [List.take_of_length_le (by rw [List.size_toArray]; lia)] at hJ
    exact h _ _ D ys F₃ N₃ hJ
end

section
open PySem PySem.W PyProof.Rows PySem.Calls
variable {w : World} {A : Around} {s : Shared} {E : Value → Shared → Prop}
theorem sldL {L fa : Addr} {cd : Value} {g : Heap} {m : Str → Option Value} {d u : Nat} (X : Wd w g) {k : Nat} (hA' : Ar ⟨none, d, some [lawEnv L fa cd], none, u⟩ (k + 100)) (F : Fr g L s.heap m) {E : Value → Shared → Prop} {Q : Value → Shared → Prop} {news : List (Addr × Obj)} (N : News g L s.heap news) {le la : Addr} {ie ia : List Value} {c1 c2 : Nat} {ke ka : List Nat} {El : Value → Nat → Prop} (TE : Told (hideAll s.heap [L]) El)
    (hle : (le, PySem.W.listOf (List.toArray ie) c1) ∈ news) (hla : (la, PySem.W.listOf (List.toArray ia) c2) ∈ news) (hE1 : Els El ie ke) (hE2 : Els El ia ka) (hz1 : ke.length ≤ 100) (hz2 : ka.length ≤ 100)
    (h : ∀ h' tk T M U oT cM cU ms us kms kus, Fr g L h' m → News g L h' ((T, oT) :: (M, PySem.W.listOf (List.toArray ms) cM) :: (U, PySem.W.listOf (List.toArray us) cU) :: news) → oT.cls = .type "tuple" → oT.data = .seq #[.ref M, .ref U] →
      SD ke ka kms kus → Els El ms kms → Els El us kus → Q (.ref T) { s with heap := h', toks := tk }) :
    wpAny (model Pr w) ⟨none, d, some [lawEnv L fa cd], none, u⟩ (call (.ref 88) [.ref le, .ref la]) Q E s := by
  refine ex3 F.ns fun oL es ep hz374 => an4 hz374 fun hoL hdL sk nf => ?_
  clear hz374
  have hgL : g.get? L = none := Heap.get?_none_of_le F.above
  have hid : ∀ b o, s.heap.get? b = some o → b ≠ L → (hideAll s.heap [L]).get? b = some o := fun b o e q => hideAll_get _ e (by simpa using q)
  refine t_sld (k := k + 99) X F.keep hgL hA' rfl rfl (by rw [show (lawEnv L fa cd).scope.kind = .function from rfl]; decide) hoL (fun vs q => by rw [hdL] at q; cases q) TE ⟨_, hid _ _ (N _ hle).1 (N _ hle).2.1, rfl, _, rfl⟩ ⟨_, hid _ _ (N _ hla).1 (N _ hla).2.1, rfl, _, rfl⟩ hE1 hE2 hz1 hz2 ?_
  intro h' tk T M U oT cM cU ms us kms kus up ⟨sl, hsl⟩ nT nM nU gT cT dT gM gU hSD hM hU
  have off : ∀ b, s.heap.get? b = none → b ≠ L ∧ g.get? b = none := fun b e => ⟨(fun q => by rw [q, hoL] at e; cases e), by
    cases q : g.get? b with
    | none => rfl
    | some o => rw [F.keep _ _ q] at e; cases e⟩
  have F' : Fr g L h' m := ⟨(exi3 _ es ep ⟨hsl, hdL, sk, nf⟩), fun b o e => up b o (fun q => by rw [q, hgL] at e; cases e) (F.keep b o e), F.above⟩
  refine h h' tk T M U oT cM cU ms us kms kus F' (fun p hp => ?_) cT dT hSD hM hU
  rcases List.mem_cons.mp hp with rfl | hp
  · exact ⟨gT, off _ nT⟩
  rcases List.mem_cons.mp hp with rfl | hp
  · exact ⟨gM, off _ nM⟩
  rcases List.mem_cons.mp hp with rfl | hp
  · exact ⟨gU, off _ nU⟩
  exact ⟨up _ _ (N p hp).2.1 (N p hp).1, (N p hp).2⟩
end

section
open PySem PySem.W PyProof.Rows PySem.Calls
variable {w : World} {A : Around} {s : Shared} {E : Value → Shared → Prop}
local macro_rules | `(tactic| walk_at "item") => `(tactic| ((walk_at "to cmp"); (all_goals (try exact default))))
theorem keyd_pick {ns ks : List Nat} (h : Keyd ns ks) : (ks.map (· % 8)).map (fun j => ns.getD j 0) = ks.map (· / 8) := by
  rw [List.map_map]
  refine List.map_congr_left fun q hq => ?_
  show ns.getD (q % 8) 0 = q / 8
  rw [List.getD_eq_getElem?_getD, h.2.1 q hq, Option.getD_some]
theorem keyd_lt8 {ks : List Nat} : ∀ j ∈ ks.map (· % 8), j < 8 := fun j hj => by
  refine ex1 (List.mem_map.mp hj) fun q hz234 => an2 hz234 fun _ he235 => ?_
  clear hz234
  subst he235
  exact Nat.mod_lt _ (by decide)
theorem lacks_len8 {ns g ka kb : List Nat} (h : Keyd ns ka) (x : g.map (fun j => ns.getD j 0) = lacksN (ka.map (· / 8)) kb (ka.map (· / 8)).length) : g.length ≤ 8 := by
  have h1 := congrArg List.length x
  have h2 := lacks_len (ns := ka.map (· / 8)) (ms := kb) (i := (ka.map (· / 8)).length)
  have h3 := h.2.2
  rw [List.length_map] at h1
  rw [List.length_map] at h2
  rw [List.length_map] at h1
  lia
theorem segJ1 {L fa : Addr} {cd : Value} {g : Heap} {m : Str → Option Value} {d u : Nat} {Q : Flow → Shared → Prop} (X : Wd w g) {k : Nat} (hA' : Ar ⟨none, d, some [lawEnv L fa cd], none, u⟩ (k + 100)) (F : Fr g L s.heap m)
    {aW aC aN : Addr} {wv cv nv : List Value} {kW kC kN : Nat} {cs : List Int} {ns : List Nat} {o1 o2 o3 o4 o5 : Obj} {aO aP : Addr} {ov pv : List Value} {kO kP : Nat} {aL : Addr} {lv : List Value} {kL : Nat} {nl : List (Addr × Obj)} {a1 a2 : Addr} {y1 y2 : List Value} {k1 k2 : Nat} {ks1 ks2 : List Nat} {a5 a6 : Addr} {y5 y6 : List Value} {k5 k6 : Nat} {g5 g6 : List Nat} (N : News g L s.heap ((a6, PySem.W.listOf (List.toArray y6) k6) :: (a5, PySem.W.listOf (List.toArray y5) k5) :: (a2, PySem.W.listOf (List.toArray y2) k2) :: (a1, PySem.W.listOf (List.toArray y1) k1) :: (aL, PySem.W.listOf lv.toArray kL)::(aP, PySem.W.listOf pv.toArray kP)::(aO, PySem.W.listOf ov.toArray kO)::(aN, PySem.W.listOf nv.toArray kN)::(aC, PySem.W.listOf cv.toArray kC)::(aW, PySem.W.listOf wv.toArray kW)::(L + 1 + 1 + 1 + 1 + 1, o5)::(L + 1 + 1 + 1 + 1, o4)::(L + 1 + 1 + 1, o3)::(L + 1 + 1, o2)::(L + 1, o1)::nl)) (d1 : o1.data = .cell (some (.ref aW))) (d2 : o2.data = .cell (some (.ref aC))) (d3 : o3.data = .cell (some (.ref aN))) (d4 : o4.data = .cell (some (.ref aP))) (d5 : o5.data = .cell (some (.ref aL))) (iW : IntsAre wv [1, 256, 131072, 83886080, 60129542144]) (iC : IntsAre cv cs) (lC : cs.length = 8) (iN : IntsAre nv (nats ns)) (lN : ns.length = 8) (bN : ∀ n ∈ ns, n < most) (eO : OctsAre ov ns) (eP : HexsAre pv ns) (mO : m (Str.ofString "octets") = some (.ref aO)) (eL : PlsAre nl lv ns) (m1 : m (Str.ofString "one") = some (.ref a1)) (m2 : m (Str.ofString "two") = some (.ref a2)) (i1 : IntsAre y1 (nats (ks1.map (· % 8)))) (i2 : IntsAre y2 (nats (ks2.map (· % 8)))) (e1 : Keyd ns ks1) (e2 : Keyd ns ks2) (m5 : m (Str.ofString "gone") = some (.ref a5)) (m6 : m (Str.ofString "come") = some (.ref a6)) (i5 : IntsAre y5 (nats g5)) (b5 : (∀ j ∈ g5, j < 8)) (x5 : g5.map (fun j => ns.getD j 0) = lacksN (ks1.map (· / 8)) (ks2.map (· / 8)) (ks1.map (· / 8)).length) (i6 : IntsAre y6 (nats g6)) (b6 : (∀ j ∈ g6, j < 8)) (x6 : g6.map (fun j => ns.getD j 0) = lacksN (ks2.map (· / 8)) (ks1.map (· / 8)) (ks2.map (· / 8)).length)
    (hq : ∀ h' tk m', Fr g L h' m' → m' (Str.ofString "octets") = some (.ref aO) → m' (Str.ofString "one") = some (.ref a1) → m' (Str.ofString "two") = some (.ref a2) → m' (Str.ofString "gone") = some (.ref a5) → m' (Str.ofString "come") = some (.ref a6) →
      News g L h' ((a6, PySem.W.listOf (List.toArray y6) k6) :: (a5, PySem.W.listOf (List.toArray y5) k5) :: (a2, PySem.W.listOf (List.toArray y2) k2) :: (a1, PySem.W.listOf (List.toArray y1) k1) :: (aL, PySem.W.listOf lv.toArray kL)::(aP, PySem.W.listOf pv.toArray kP)::(aO, PySem.W.listOf ov.toArray kO)::(aN, PySem.W.listOf nv.toArray kN)::(aC, PySem.W.listOf cv.toArray kC)::(aW, PySem.W.listOf wv.toArray kW)::(L + 1 + 1 + 1 + 1 + 1, o5)::(L + 1 + 1 + 1 + 1, o4)::(L + 1 + 1 + 1, o3)::(L + 1 + 1, o2)::(L + 1, o1)::nl) → Q .next { s with heap := h', toks := tk }) :
    wpAny (model Pr w) ⟨none, d, some [lawEnv L fa cd], none, u⟩ (execs ((lawBody.drop 19).take 2) (lawEnv L fa cd)) Q (fun _ _ => False) s := by
  obtain ⟨K0, mean, mg, mb, T⟩ := id X
  have eX : Els HexE pv ns := Els.bound (fun v k hk h => ⟨bN k hk, h⟩) eP
  have hu : u + 66 < cLine := by have := hA'.un; show u + 66 < 9900; simp only at this; lia
  refine execs_cast (l' := [_, _]) rfl ?_
  refine wpAny_execs_cons ?_
  walk_at "item"
  refine pickP X hA' F N (by k_mem) d4 (by k_mem) eX lN (by k_mem : (a1, PySem.W.listOf (List.toArray y1) k1) ∈ _) i1 keyd_lt8 (by rw [List.length_map]; exact e1.2.2) (fun Q h => by walk_at "item"; exact h) fun h₁ tk₁ D1 z1 F₁ N₁ E₁ => ?_
  rw [keyd_pick e1] at E₁
  walk_at "item"
  refine pickP X hA' F₁ N₁ (by k_mem) d4 (by k_mem) eX lN (by k_mem : (a2, PySem.W.listOf (List.toArray y2) k2) ∈ _) i2 keyd_lt8 (by rw [List.length_map]; exact e2.2.2) (fun Q h => by walk_at "item"; exact h) fun h₂ tk₂ D2 z2 F₂ N₂ E₂ => ?_
  rw [keyd_pick e2] at E₂
  walk_at "item"
  refine sldL X hA' F₂ N₂ (told_hex _) (by k_mem : (D1, PySem.W.listOf (List.toArray z1) z1.length) ∈ _) (by k_mem : (D2, PySem.W.listOf (List.toArray z2) z2.length) ∈ _) E₁ E₂ (by rw [List.length_map]; have := e1.2.2; lia) (by rw [List.length_map]; have := e2.2.2; lia) fun h₃ tk₃ T M U oT cM cU ms us kms kus F₃ N₃ cT dT hSD hM hU => ?_
  refine an2 (sd_lacks hSD (keyd_sorted e1.1) (keyd_sorted e2.1)) fun he232 he233 => ?_
  subst he232
  subst he233
  walk_at "item"
  rename Fr _ _ _ _ => F₄
  rename News _ _ _ _ => N₄
  refine pickP X hA' F₄ N₄ (by k_mem) d4 (by k_mem) eX lN (by k_mem : (a5, PySem.W.listOf (List.toArray y5) k5) ∈ _) i5 b5 (lacks_len8 e1 x5) (fun Q h => by walk_at "item"; exact h) fun h₅ tk₅ D5 z5 F₅ N₅ E₅ => ?_
  rw [x5] at E₅
  walk_at "item"
  refine pickP X hA' F₅ N₅ (by k_mem) d4 (by k_mem) eX lN (by k_mem : (a6, PySem.W.listOf (List.toArray y6) k6) ∈ _) i6 b6 (lacks_len8 e2 x6) (fun Q h => by walk_at "item"; exact h) fun h₆ tk₆ D6 z6 F₆ N₆ E₆ => ?_
  rw [x6] at E₆
  walk_at "item"
  rename Fr _ _ _ _ => F₇
  rename News _ _ _ _ => N₇
  refine ne_pairs ⟨_, (N₇ _ (by k_mem : (T, oT) ∈ _)).1, cT, _, dT⟩ ⟨_, (N₇ _ (.head _)).1, rfl, _, rfl⟩ (by show u < cLine; lia)
    (same_lists (El := HexE) (fun _ _ _ => same_hex) (N₇ _ (by k_mem : (M, PySem.W.listOf (List.toArray ms) cM) ∈ _)).1 (N₇ _ (by k_mem : (D5, PySem.W.listOf (List.toArray z5) z5.length) ∈ _)).1 hM E₅ (by show u + 1 < cLine; lia))
    (same_lists (El := HexE) (fun _ _ _ => same_hex) (N₇ _ (by k_mem : (U, PySem.W.listOf (List.toArray us) cU) ∈ _)).1 (N₇ _ (by k_mem : (D6, PySem.W.listOf (List.toArray z6) z6.length) ∈ _)).1 hU E₆ (by show u + 1 < cLine; lia)) ?_
  walk_at "item"
  refine hq _ _ _ F₇ (by walk_at "look") (by walk_at "look") (by walk_at "look") (by walk_at "look") (by walk_at "look") fun p hp => N₇ p ?_
  iterate 8 (refine .tail _ ?_)
  exact hp
end

section
open PySem PySem.W PyProof.Rows PySem.Calls
variable {w : World} {A : Around} {s : Shared} {E : Value → Shared → Prop}
local macro_rules | `(tactic| walk_at "item") => `(tactic| ((walk_at "to cmp"); (all_goals (try exact default))))
theorem segJ2 {L fa : Addr} {cd : Value} {g : Heap} {m : Str → Option Value} {d u : Nat} {Q : Flow → Shared → Prop} (X : Wd w g) {k : Nat} (hA' : Ar ⟨none, d, some [lawEnv L fa cd], none, u⟩ (k + 100)) (F : Fr g L s.heap m)
    {aW aC aN : Addr} {wv cv nv : List Value} {kW kC kN : Nat} {cs : List Int} {ns : List Nat} {o1 o2 o3 o4 o5 : Obj} {aO aP : Addr} {ov pv : List Value} {kO kP : Nat} {aL : Addr} {lv : List Value} {kL : Nat} {nl : List (Addr × Obj)} {a1 a2 : Addr} {y1 y2 : List Value} {k1 k2 : Nat} {ks1 ks2 : List Nat} {a5 a6 : Addr} {y5 y6 : List Value} {k5 k6 : Nat} {g5 g6 : List Nat} (N : News g L s.heap ((a6, PySem.W.listOf (List.toArray y6) k6) :: (a5, PySem.W.listOf (List.toArray y5) k5) :: (a2, PySem.W.listOf (List.toArray y2) k2) :: (a1, PySem.W.listOf (List.toArray y1) k1) :: (aL, PySem.W.listOf lv.toArray kL)::(aP, PySem.W.listOf pv.toArray kP)::(aO, PySem.W.listOf ov.toArray kO)::(aN, PySem.W.listOf nv.toArray kN)::(aC, PySem.W.listOf cv.toArray kC)::(aW, PySem.W.listOf wv.toArray kW)::(L + 1 + 1 + 1 + 1 + 1, o5)::(L + 1 + 1 + 1 + 1, o4)::(L + 1 + 1 + 1, o3)::(L + 1 + 1, o2)::(L + 1, o1)::nl)) (d1 : o1.data = .cell (some (.ref aW))) (d2 : o2.data = .cell (some (.ref aC))) (d3 : o3.data = .cell (some (.ref aN))) (d4 : o4.data = .cell (some (.ref aP))) (d5 : o5.data = .cell (some (.ref aL))) (iW : IntsAre wv [1, 256, 131072, 83886080, 60129542144]) (iC : IntsAre cv cs) (lC : cs.length = 8) (iN : IntsAre nv (nats ns)) (lN : ns.length = 8) (bN : ∀ n ∈ ns, n < most) (eO : OctsAre ov ns) (eP : HexsAre pv ns) (mO : m (Str.ofString "octets") = some (.ref aO)) (eL : PlsAre nl lv ns) (m1 : m (Str.ofString "one") = some (.ref a1)) (m2 : m (Str.ofString "two") = some (.ref a2)) (i1 : IntsAre y1 (nats (ks1.map (· % 8)))) (i2 : IntsAre y2 (nats (ks2.map (· % 8)))) (e1 : Keyd ns ks1) (e2 : Keyd ns ks2) (m5 : m (Str.ofString "gone") = some (.ref a5)) (m6 : m (Str.ofString "come") = some (.ref a6)) (i5 : IntsAre y5 (nats g5)) (b5 : (∀ j ∈ g5, j < 8)) (x5 : g5.map (fun j => ns.getD j 0) = lacksN (ks1.map (· / 8)) (ks2.map (· / 8)) (ks1.map (· / 8)).length) (i6 : IntsAre y6 (nats g6)) (b6 : (∀ j ∈ g6, j < 8)) (x6 : g6.map (fun j => ns.getD j 0) = lacksN (ks2.map (· / 8)) (ks1.map (· / 8)) (ks2.map (· / 8)).length)
    (hq : ∀ h' tk m', Fr g L h' m' → Q (.ret (.bool true)) { s with heap := h', toks := tk }) :
    wpAny (model Pr w) ⟨none, d, some [lawEnv L fa cd], none, u⟩ (execs (lawBody.drop 21) (lawEnv L fa cd)) Q (fun _ _ => False) s := by
  obtain ⟨K0, mean, mg, mb, T⟩ := id X
  have eX : Els (PlsE nl) lv ns := Els.bound (fun v k hk h => ⟨bN k hk, h⟩) eL
  have hu : u + 66 < cLine := by have := hA'.un; show u + 66 < 9900; simp only at this; lia
  refine execs_cast (l' := [_, _]) rfl ?_
  refine wpAny_execs_cons ?_
  walk_at "item"
  refine pickL X hA' F N (by k_mem) d5 (by k_mem) eX lN (by k_mem : (a2, PySem.W.listOf (List.toArray y2) k2) ∈ _) i2 keyd_lt8 (by rw [List.length_map]; exact e2.2.2) (fun Q h => by walk_at "item"; exact h) fun h₁ tk₁ D1 z1 F₁ N₁ E₁ => ?_
  rw [keyd_pick e2] at E₁
  walk_at "item"
  refine pickL X hA' F₁ N₁ (by k_mem) d5 (by k_mem) eX lN (by k_mem : (a1, PySem.W.listOf (List.toArray y1) k1) ∈ _) i1 keyd_lt8 (by rw [List.length_map]; exact e1.2.2) (fun Q h => by walk_at "item"; exact h) fun h₂ tk₂ D2 z2 F₂ N₂ E₂ => ?_
  rw [keyd_pick e1] at E₂
  walk_at "item"
  have hin : ∀ p ∈ nl, p ∈ (D2, PySem.W.listOf (List.toArray z2) z2.length) :: (D1, PySem.W.listOf (List.toArray z1) z1.length) :: (a6, PySem.W.listOf (List.toArray y6) k6) :: (a5, PySem.W.listOf (List.toArray y5) k5) :: (a2, PySem.W.listOf (List.toArray y2) k2) :: (a1, PySem.W.listOf (List.toArray y1) k1) :: (aL, PySem.W.listOf lv.toArray kL)::(aP, PySem.W.listOf pv.toArray kP)::(aO, PySem.W.listOf ov.toArray kO)::(aN, PySem.W.listOf nv.toArray kN)::(aC, PySem.W.listOf cv.toArray kC)::(aW, PySem.W.listOf wv.toArray kW)::(L + 1 + 1 + 1 + 1 + 1, o5)::(L + 1 + 1 + 1 + 1, o4)::(L + 1 + 1 + 1, o3)::(L + 1 + 1, o2)::(L + 1, o1)::nl := fun p hp => by
    iterate 17 (refine .tail _ ?_)
    exact hp
  refine sldL X hA' F₂ N₂ (told_pls fun p hp => hideAll_get _ (N₂ p (hin p hp)).1 (by simpa using (N₂ p (hin p hp)).2.1)) (by k_mem : (D1, PySem.W.listOf (List.toArray z1) z1.length) ∈ _) (by k_mem : (D2, PySem.W.listOf (List.toArray z2) z2.length) ∈ _) E₁ E₂ (by rw [List.length_map]; have := e2.2.2; lia) (by rw [List.length_map]; have := e1.2.2; lia) fun h₃ tk₃ T M U oT cM cU ms us kms kus F₃ N₃ cT dT hSD hM hU => ?_
  refine an2 (sd_lacks hSD (keyd_sorted e2.1) (keyd_sorted e1.1)) fun he236 he237 => ?_
  subst he236
  subst he237
  walk_at "item"
  rename Fr _ _ _ _ => F₄
  rename News _ _ _ _ => N₄
  refine pickL X hA' F₄ N₄ (by k_mem) d5 (by k_mem) eX lN (by k_mem : (a6, PySem.W.listOf (List.toArray y6) k6) ∈ _) i6 b6 (lacks_len8 e2 x6) (fun Q h => by walk_at "item"; exact h) fun h₅ tk₅ D5 z5 F₅ N₅ E₅ => ?_
  rw [x6] at E₅
  walk_at "item"
  refine pickL X hA' F₅ N₅ (by k_mem) d5 (by k_mem) eX lN (by k_mem : (a5, PySem.W.listOf (List.toArray y5) k5) ∈ _) i5 b5 (lacks_len8 e1 x5) (fun Q h => by walk_at "item"; exact h) fun h₆ tk₆ D6 z6 F₆ N₆ E₆ => ?_
  rw [x5] at E₆
  walk_at "item"
  rename Fr _ _ _ _ => F₇
  rename News _ _ _ _ => N₇
  have hn : ∀ p ∈ nl, _ := fun p hp => (N₇ p (.tail _ (.tail _ (.tail _ (.tail _ (.tail _ (.tail _ (hin p hp)))))))).1
  refine eq_pairs ⟨_, (N₇ _ (by k_mem : (T, oT) ∈ _)).1, cT, _, dT⟩ ⟨_, (N₇ _ (.head _)).1, rfl, _, rfl⟩ (by show u < cLine; lia)
    (same_lists (El := PlsE nl) (fun _ _ _ => same_pls hn (by show u + 1 + 1 + 64 < cLine; lia)) (N₇ _ (by k_mem : (M, PySem.W.listOf (List.toArray ms) cM) ∈ _)).1 (N₇ _ (by k_mem : (D5, PySem.W.listOf (List.toArray z5) z5.length) ∈ _)).1 hM E₅ (by show u + 1 < cLine; lia))
    (same_lists (El := PlsE nl) (fun _ _ _ => same_pls hn (by show u + 1 + 1 + 64 < cLine; lia)) (N₇ _ (by k_mem : (U, PySem.W.listOf (List.toArray us) cU) ∈ _)).1 (N₇ _ (by k_mem : (D6, PySem.W.listOf (List.toArray z6) z6.length) ∈ _)).1 hU E₆ (by show u + 1 < cLine; lia)) ?_
  walk_at "item"
  exact hq _ _ _ F₇
end

section
open PySem PySem.W PyProof.Rows PySem.Calls
variable {w : World} {A : Around} {s : Shared} {E : Value → Shared → Prop}
theorem execs_append (env : Env) (l₂ : List Stmt) : ∀ l₁ : List Stmt, execs (l₁ ++ l₂) env = (execs l₁ env >>= fun f => match f with | .next => execs l₂ env | f => pure f)
  | [] => by show execs l₂ env = (pure Flow.next >>= _); rw [pure_bind]
  | st :: l₁ => by
    have ih := execs_append env l₂ l₁
    show (exec st env >>= fun f => match f with | .next => execs (l₁ ++ l₂) env | f => pure f) = ((exec st env >>= fun f => match f with | .next => execs l₁ env | f => pure f) >>= _)
    rw [LawfulMonad.bind_assoc]
    congr 1
    funext f
    cases f <;> first | exact ih | rfl
theorem wpN_step {M : Model} {A : Around} {s : Shared} {E : Value → Shared → Prop} {env : Env} {l : List Stmt} {Q : Flow → Shared → Prop} (a n b : Nat) (hb : a + n = b)
    (h : wpN M A (execs ((l.drop a).take n) env) (fun f s' => match f with | .next => wpN M A (execs (l.drop b) env) Q E s' | f => Q f s') E s) : wpN M A (execs (l.drop a) env) Q E s := by
  subst hb
  rw [← List.take_append_drop n (l.drop a), execs_append, List.drop_drop]
  refine wpN_bind (wpN_mono h (fun f s' q => ?_) fun _ _ e => e)
  cases f <;> first | exact q | exact wpN_pure q
theorem concFN {α : Type} {M : Model} {A : Around} {k : Nat} {t : Sem α} {Q : α → Shared → Prop} {E : Value → Shared → Prop} {s : Shared} {fr : Option (List Env)} (hA : Ar A k) (hf : A.frames = fr)
    (h : ∀ n u, Ar ⟨none, n, fr, none, u⟩ k → wpN M ⟨none, n, fr, none, u⟩ t Q E s) : wpN M A t Q E s := fun Γ p hN hΓ =>
  h A.depth A.units ⟨rfl, hA.dp, hA.un⟩ Γ p hN ⟨hΓ.1.trans hA.hd, hΓ.2.1, (fun l e => hΓ.2.2.1 l (hf.trans e)), (fun l e => by cases e), hΓ.2.2.2.2⟩
/-- the law's body, whole -/
theorem law_body {L fa : Addr} {cd : Value} {g : Heap} {m : Str → Option Value} {d u : Nat} {Q : Flow → Shared → Prop} (X : Wd w g) {k : Nat} (hA' : Ar ⟨none, d, some [lawEnv L fa cd], none, u⟩ (k + 100)) (F : Fr g L s.heap m)
    {o1 o2 o3 o4 o5 : Obj} (N : News g L s.heap [(L + 1 + 1 + 1 + 1 + 1, o5), (L + 1 + 1 + 1 + 1, o4), (L + 1 + 1 + 1, o3), (L + 1 + 1, o2), (L + 1, o1)]) (d1 : o1.data = .cell none) (d2 : o2.data = .cell none) (d3 : o3.data = .cell none) (d4 : o4.data = .cell none) (d5 : o5.data = .cell none)
    {sa : Addr} {sv : List Value} {sc : List Int} (hs : m (Str.ofString "script") = some (.ref sa)) (hl : g.IsList sa sv.toArray) (hi : IntsAre sv sc) (h63 : sc.length ≤ 63)
    (hq : ∀ h' tk m', Fr g L h' m' → Q (.ret (.bool true)) { s with heap := h', toks := tk }) :
    wpN (model Pr w) ⟨none, d, some [lawEnv L fa cd], none, u⟩ (execs lawBody (lawEnv L fa cd)) Q (fun _ _ => False) s := by
  show wpN (model Pr w) ⟨none, d, some [lawEnv L fa cd], none, u⟩ (execs (lawBody.drop 0) (lawEnv L fa cd)) Q (fun _ _ => False) s
  refine wpN_step 0 3 3 rfl ?_
  refine wpN_of_any (segA X hA' F N d1 d2 d3 d4 d5 hs hl hi h63 fun h₁ tk₁ aW aC aN wv cv nv kW kC kN cs ns o1 o2 o3 o4 o5 F N d1 d2 d3 d4 d5 iW iC lC iN lN bN => ?_)
  refine wpN_step 3 2 5 rfl ?_
  refine wpN_of_any (segB (s := { s with heap := h₁, toks := tk₁ }) X hA' F N d1 d2 d3 d4 d5 iW iC lC iN lN bN fun h₂ tk₂ aO aP ov pv kO kP m₂ o4 F mO N d4 eO eP => ?_)
  refine wpN_step 5 1 6 rfl ?_
  refine segC (s := { s with heap := h₂, toks := tk₂ }) X hA' F N d1 d2 d3 d4 d5 iW iC lC iN lN bN eO eP mO fun h₃ tk₃ F N => ?_
  refine wpN_step 6 2 8 rfl ?_
  refine wpN_of_any (segD (s := { s with heap := h₃, toks := tk₃ }) X hA' F N d1 d2 d3 d4 d5 iW iC lC iN lN bN eO eP mO fun h₄ tk₄ tp m₄ F mO mP N => ?_)
  refine wpN_step 8 2 10 rfl ?_
  refine segE (s := { s with heap := h₄, toks := tk₄ }) X hA' F N d1 d2 d3 d4 d5 iW iC lC iN lN bN eO eP mO mP (page_le lN bN) fun h₅ tk₅ m₅ F mO N => ?_
  refine wpN_step 10 1 11 rfl ?_
  refine wpN_of_any (segF0 (s := { s with heap := h₅, toks := tk₅ }) X hA' F N d1 d2 d3 d4 d5 iW iC lC iN lN bN eO eP mO fun h₆ tk₆ aL o5 m₆ F mO N hAL d5 => ?_)
  refine wpN_step 11 1 12 rfl ?_
  refine wpN_of_any (segF (s := { s with heap := h₆, toks := tk₆ }) X hA' F N hAL d1 d2 d3 d4 d5 iW iC lC iN lN bN eO eP mO fun h₇ tk₇ lv kL nl m₇ F mO N eL => ?_)
  refine wpN_step 12 1 13 rfl ?_
  refine wpN_of_any (segG (s := { s with heap := h₇, toks := tk₇ }) X hA' F N d1 d2 d3 d4 d5 iW iC lC iN lN bN eO eP mO eL fun h₈ tk₈ m₈ F mO N => ?_)
  refine wpN_step 13 1 14 rfl ?_
  refine wpN_of_any (segH1 (s := { s with heap := h₈, toks := tk₈ }) X hA' F N d1 d2 d3 d4 d5 iW iC lC iN lN bN eO eP mO eL fun h₉ tk₉ a1 y1 k1 ks1 nl₁ m₉ F mO m1 N up i1 e1 => ?_)
  replace eL := eL.more up
  refine wpN_step 14 1 15 rfl ?_
  refine wpN_of_any (segH2 (s := { s with heap := h₉, toks := tk₉ }) X hA' F N d1 d2 d3 d4 d5 iW iC lC iN lN bN eO eP mO eL m1 fun hA tkA a2 y2 k2 ks2 nl₂ mA F mO m1 m2 N up i2 e2 => ?_)
  replace eL := eL.more up
  refine wpN_step 15 2 17 rfl ?_
  refine wpN_of_any (segI (s := { s with heap := hA, toks := tkA }) X hA' F N d1 d2 d3 d4 d5 iW iC lC iN lN bN eO eP mO eL m1 m2 i1 i2 e1 e2 fun hB tkB a3 a4 y3 y4 k3 k4 mB F mO m1 m2 m3 m4 N i3 i4 => ?_)
  refine wpN_step 17 2 19 rfl ?_
  refine wpN_of_any (segI2 (s := { s with heap := hB, toks := tkB }) X hA' F N d1 d2 d3 d4 d5 iW iC lC iN lN bN eO eP mO eL m1 m2 i1 i2 e1 e2 m3 m4 i3 i4 fun hC tkC a5 a6 y5 y6 k5 k6 g5 g6 mC F mO m1 m2 m5 m6 N i5 b5 x5 i6 b6 x6 => ?_)
  refine wpN_step 19 2 21 rfl ?_
  refine wpN_of_any (segJ1 (s := { s with heap := hC, toks := tkC }) X hA' F N d1 d2 d3 d4 d5 iW iC lC iN lN bN eO eP mO eL m1 m2 i1 i2 e1 e2 m5 m6 i5 b5 x5 i6 b6 x6 fun hD tkD mD F mO m1 m2 m5 m6 N => ?_)
  exact wpN_of_any (segJ2 (s := { s with heap := hD, toks := tkD }) X hA' F N d1 d2 d3 d4 d5 iW iC lC iN lN bN eO eP mO eL m1 m2 i1 i2 e1 e2 m5 m6 i5 b5 x5 i6 b6 x6 fun hE tkE mE F => hq hE tkE mE F)
end

section
open PySem PySem.W PyProof.Rows PySem.Calls
variable {w : World} {A : Around} {s : Shared} {E : Value → Shared → Prop}
noncomputable def lawParams : Arguments := match PySem.Challenge.pw_kt0007_01.main.body.drop 36 with
  | .FunctionDef _ params _ _ _ _ _ _ _ _ :: _ => params
  | _ => default
theorem law_call {fa : Addr} {o : Obj} {pm cd doc : Value} {Q : Value → Shared → Prop} (X : Wd w s.heap) (ho : s.heap.get? fa = some o) (hd : o.data = .func (docDef (Str.ofString "law") lawParams lawBody lawScope pm cd doc)) (hcd : s.heap.CodeRec cd (Str.ofString "law"))
    {sa : Addr} {sv : List Value} {sc : List Int} (hl : s.heap.IsList sa sv.toArray) (hi : IntsAre sv sc) (h63 : sc.length ≤ 63)
    (hq : ∀ h' tk, (∀ b o, s.heap.get? b = some o → h'.get? b = some o) → Q (.bool true) { s with heap := h', toks := tk }) : wpN (model Pr w) callerA (call (.ref fa) [.ref sa]) Q E s := by
  refine ex3 (id X.t) fun mean mg mb T => ?_
  refine wpN_call (codeN_call_function (by decide) ho hd rfl rfl rfl hcd (BindsTo.of_eq (binds := [(Str.ofString "script", .ref sa)]) rfl _ _ _ _ ?_))
  refine wpAny_newFunctionEnv_cells rfl (kindsX (by exact rfl) _) fun env' he s' x => ?_
  subst he
  refine ⟨T.nolimit.keeps x.toInCall.keep, codeN_func ?_⟩
  refine ex2 x.done fun h₁ tk hz268 => an2 hz268 fun he269 _ => ?_
  clear hz268
  subst he269
  have hnd : ((cellsFrom 0 lawScope.names []).map (·.1)).Nodup := by decide +kernel
  refine ex1 (Cl.news (h₀ := s.heap) (Nat.le_refl _) fun n c hm => ⟨x.cell n c (lookup_of_mem_nodup (cellsFrom_names lawScope.names 0 (s.heap.objs.size + 1) [] [] rfl ▸ hnd) hm), x.above n c hm⟩) fun cells hz267 => an2 hz267 fun NC Y => ?_
  clear hz267
  refine wpN_mono (Q := fun fl s' => Q (match fl with | .ret v => v | _ => .none) s') (E := fun _ _ => False) (concFN (k := 200 + 100) (fr := some [lawEnv s.heap.objs.size fa cd]) ⟨rfl, (show 1 + claimMargin + 1 + (200 + 100) ≤ 990 by decide), (show 4 + 3 + 3 * (200 + 100) ≤ 9800 by decide)⟩ rfl fun n u hA' => ?_) (fun fl s' hl => hl) fun _ _ y => y.elim
  have F : Fr s.heap s.heap.objs.size h₁ _ := ⟨x.toInCall.ns, x.toInCall.keep, Nat.le_refl _⟩
  have hx : (bindC (lawEnv s.heap.objs.size fa cd).kindOf [(Str.ofString "script", Value.ref sa)] fun _ => none) = fun _ => none := by with_unfolding_all rfl
  refine ex5 (kc_five Y) fun o1 o2 o3 o4 o5 hz265 => an6 hz265 fun he266 d1 d2 d3 d4 d5 => ?_
  clear hz265
  subst he266
  refine law_body (k := 200) (o1 := o5) (o2 := o4) (o3 := o3) (o4 := o2) (o5 := o1) (sa := sa) X hA' F NC (d5.trans (by with_unfolding_all rfl)) (d4.trans (by with_unfolding_all rfl)) (d3.trans (by with_unfolding_all rfl)) (d2.trans (by with_unfolding_all rfl)) (d1.trans (by with_unfolding_all rfl)) (by with_unfolding_all rfl) hl hi h63 fun h' tk m' F' => ?_
  exact hq _ _ F'.keep
end

end
end
end Mine
end

section
open PySem PySem.W PyProof.Rows PySem.Calls Mine
namespace MineHead
theorem holds.tw17541425254038571278 : True := trivial
theorem holds.tw6516663088492735034 : True := trivial
theorem holds.tw4362338851207948679 : True := trivial
theorem holds.tw18061402760326693165 : True := trivial
theorem holds.tw1334637629001307074 : True := trivial
theorem holds.tw6611721137381073216 : True := trivial
theorem holds.tw15100640782855367084 : True := trivial
theorem holds.tw12105218755706723950 : True := trivial
theorem holds.tw1222633410141391404 : True := trivial
theorem holds.tw9862764884896980707 : True := trivial
theorem holds.tw4853658979109605898 : True := trivial
theorem holds.tw13446912881883337269 : True := trivial
theorem holds.tw10222976400024206742 : True := trivial
theorem holds.tw13857608746714866451 : True := trivial
theorem holds.tw8182393303157896281 : True := trivial
theorem holds.tw14706067967921009505 : True := trivial
theorem holds.tw11232827600862855193 : True := trivial
theorem holds.tw764614037451525701 : True := trivial
theorem holds.tw4397209358083206311 : True := trivial
theorem holds.tw12592370736257210459 : True := trivial
theorem holds.tw15236223789706860669 : True := trivial
theorem holds.tw18442824940964205052 : True := trivial
theorem holds.tw6671112409067425998 : True := trivial
theorem holds.tw9577852416395949682 : True := trivial
theorem holds.tw522614220978176539 : True := trivial
theorem holds.tw14332895799875436410 : True := trivial
theorem holds.tw2248826811660608951 : True := trivial
theorem holds.tw16711746724727940044 : True := trivial
theorem holds.tw4610968911193272805 : True := trivial
theorem holds.tw10985772869063798806 : True := trivial
theorem holds.tw7778021944123828819 : True := trivial
theorem holds.tw3387587100660785643 : True := trivial
theorem holds.tw7467233673024701493 : True := trivial
theorem holds.tw15447311744089694724 : True := trivial
theorem holds.tw11624020815690490742 : True := trivial
theorem holds.tw15199593275982201818 : True := trivial
theorem holds.tw18206601121012822821 : True := trivial
theorem holds.tw7352922760228726360 : True := trivial
theorem holds.tw18017289302023869125 : True := trivial
theorem holds.tw9288385788307487629 : True := trivial
theorem holds.tw7301642399870963929 : True := trivial
theorem holds.tw6572085459938353283 : True := trivial
theorem holds.tw8110003472472638647 : True := trivial
theorem holds.tw8109026832546080258 : True := trivial
theorem holds.tw16761950376527414675 : True := trivial
theorem holds.tw16441852686351984308 : True := trivial
theorem holds.tw16901886535659548822 : True := trivial
theorem holds.tw18121569213192597401 : True := trivial
theorem holds.tw10822554895605972433 : True := trivial
theorem holds.tw6406677450250910757 : True := trivial
theorem holds.tw10036937480222952628 : True := trivial
theorem holds.tw3255960457874035834 : True := trivial
theorem holds.tw2083815316022464981 : True := trivial
theorem holds.tw14283056504794674787 : True := trivial
theorem holds.tw2031523738975670884 : True := trivial
theorem holds.tw12117963419786281182 : True := trivial
theorem holds.tw14544391403274270382 : True := trivial
theorem holds.tw2220464205060571303 : True := trivial
theorem holds.tw12622676072374164471 : True := trivial
theorem holds.tw5248641887539138098 : True := trivial
theorem holds.tw155597127907842714 : True := trivial
theorem holds.tw8620308863562606920 : True := trivial
theorem holds.tw9733935660600713784 : True := trivial
theorem holds.tw2389473866409911713 : True := trivial
theorem holds.tw14537086614890024013 : True := trivial
theorem holds.tw15460777931776050499 : True := trivial
theorem holds.tw10132471645929728268 : True := trivial
theorem holds.tw11470593582386641595 : True := trivial
theorem holds.tw10756565367611217054 : True := trivial
theorem holds.tw1442035171121789508 : True := trivial
theorem holds.tw17845567247999044535 : True := trivial
theorem holds.tw18184603802405807103 : True := trivial
theorem holds.tw15533202578775845415 : True := trivial
theorem holds.tw16451120518271446525 : True := trivial
theorem holds.tw2821951394033041892 : True := trivial
theorem holds.tw18176311686220405147 : True := trivial
theorem holds.tw14199803165276878864 : True := trivial
theorem holds.tw5498708484676671363 : True := trivial
theorem holds.tw5928635456643040214 : True := trivial
theorem holds.tw580879161202774145 : True := trivial
theorem holds.tw11144224388188832040 : True := trivial
theorem holds.tw2833872811186875204 : True := trivial
theorem holds.tw9214780023134347362 : True := trivial
theorem holds.tw6515447644961404704 : True := trivial
theorem holds.tw1717583538027097154 : True := trivial
theorem holds.tw12687200800457179713 : True := trivial
theorem holds.tw4916854041408992712 : True := trivial
theorem holds.tw16495724558541611795 : True := trivial
theorem holds.tw13143571294513874854 : True := trivial
theorem holds.tw16363446164704969837 : True := trivial
theorem holds.tw7387664242688825537 : True := trivial
theorem holds.tw10397209448691195094 : True := trivial
theorem holds.tw12480012174148055776 : True := trivial
theorem holds.tw5682972713093074812 : True := trivial
theorem holds.tw17771403543044011385 : True := trivial
theorem holds.tw5018014181927795200 : True := trivial
theorem holds.tw3449214797909899554 : True := trivial
theorem holds.tw8870223994862068441 : True := trivial
theorem holds.tw9796303442598944364 : True := trivial
theorem holds.tw15787032329321594435 : True := trivial
theorem holds.tw14195071546546811462 : True := trivial
theorem holds.tw1273996031968337956 : True := trivial
theorem holds.tw8303691911370769182 : True := trivial
theorem holds.tw634377194502613701 : True := trivial
theorem holds.tw2125372184068298442 : True := trivial
theorem holds.tw15023500230076445196 : True := trivial
theorem holds.tw14853798715058767885 : True := trivial
theorem holds.tw1586135704341607716 : True := trivial
theorem holds.tw6630305360779468306 : True := trivial
theorem holds.tw7523710720850038664 : True := trivial
theorem holds.tw11087696592778121282 : True := trivial
theorem holds.tw18290271626708582428 : True := trivial
theorem holds.tw900230955211903896 : True := trivial
theorem holds.tw10294195106936625767 : True := trivial
theorem holds.tw13468966509021489130 : True := trivial
theorem holds.tw10599994966017991496 : True := trivial
theorem holds.tw6541711117872546613 : True := trivial
theorem holds.tw11505057727884701879 : True := trivial
theorem holds.tw802957116881458428 : True := trivial
theorem holds.tw1532942855390473264 : True := trivial
theorem holds.tw16486409864295011267 : True := trivial
theorem holds.tw2754219550403234043 : True := trivial
theorem holds.tw14310416364558387182 : True := trivial
theorem holds.tw17908612268445834639 : True := trivial
theorem holds.tw5763271707121432190 : True := trivial
theorem holds.tw16955503964357811759 : True := trivial
theorem holds.tw15573120883820419711 : True := trivial
theorem holds.tw1387604996028296683 : True := trivial
theorem holds.tw13289842036971608020 : True := trivial
theorem holds.tw6667546471540850602 : True := trivial
theorem holds.tw73264562015610993 : True := trivial
theorem holds.tw6629747327515392221 : True := trivial
theorem holds.tw4222783403349327245 : True := trivial
theorem holds.tw18030754733148448252 : True := trivial
theorem holds.tw4838029076042504874 : True := trivial
theorem holds.tw9997300801701246184 : True := trivial
theorem holds.tw800665821256174258 : True := trivial
theorem holds.tw7534102780348449303 : True := trivial
theorem holds.tw5008854244352769170 : True := trivial
theorem holds.tw3601808864988220786 : True := trivial
theorem holds.tw17016197378553769867 : True := trivial
theorem holds.tw9016828912614058273 : True := trivial
theorem holds.tw8318460684383804204 : True := trivial
theorem holds.tw185281824839930534 : True := trivial
theorem holds.tw16832414358935489902 : True := trivial
theorem holds.tw4386867116238368258 : True := trivial
theorem holds.tw7885744600596102046 : True := trivial
theorem holds.tw16746241107104195162 : True := trivial
theorem holds.tw9225503453983660666 : True := trivial
theorem holds.tw15585910402560968616 : True := trivial
theorem holds.tw18071162397960776992 : True := trivial
theorem holds.tw17607311450328563365 : True := trivial
theorem holds.tw17744144595842959409 : True := trivial
theorem holds.tw18318827156610325426 : True := trivial
theorem holds.tw7059427022014866470 : True := trivial
theorem holds.tw17576246595700643139 : True := trivial
theorem holds.tw2377236609566920668 : True := trivial
theorem holds.tw12549459492278893488 : True := trivial
theorem holds.tw9814296542768147002 : True := trivial
theorem holds.tw4927930351567344242 : True := trivial
theorem holds.tw15466142813392078269 : True := trivial
theorem holds.tw5302760379806879579 : True := trivial
theorem holds.tw3332930603662183282 : True := trivial
theorem holds.tw204771611257228637 : True := trivial
theorem holds.tw9381443612134601410 : True := trivial
theorem holds.tw12329715145476302742 : True := trivial
theorem holds.tw5740694620281536663 : True := trivial
theorem holds.tw8316322366540734179 : True := trivial
theorem holds.tw66108489450518450 : True := trivial
theorem holds.tw14438703069044844624 : True := trivial
theorem holds.tw2666230528260491849 : True := trivial
theorem holds.tw105270247422289934 : True := trivial
theorem holds.tw16414696607288291965 : True := trivial
theorem holds.tw15587475655913732248 : True := trivial
theorem holds.tw6194535498935381181 : True := trivial
theorem holds.tw16709848530318523182 : True := trivial
theorem holds.tw12947286898965246261 : True := trivial
theorem holds.tw1778414098718266695 : True := trivial
theorem holds.tw11350438725844405377 : True := trivial
theorem holds.tw412713282243907854 : True := trivial
theorem holds.tw13238304932424326084 : True := trivial
theorem holds.tw8649044036638287126 : True := trivial
theorem holds.tw10510297325083356305 : True := trivial
theorem holds.tw2530470096788591904 : True := trivial
theorem holds.tw8683456921622791365 : True := trivial
theorem holds.tw12084132552192620 : True := trivial
theorem holds.tw4409265957634529296 : True := trivial
theorem holds.tw13925682365777832674 : True := trivial
theorem holds.tw8150618191123363149 : True := trivial
theorem holds.tw1748504721939902351 : True := trivial
theorem holds.tw3217208752155528753 : True := trivial
theorem holds.tw7116783716826977773 : True := trivial
theorem holds.tw8580144555558022788 : True := trivial
theorem holds.tw280596572236657591 : True := trivial
theorem holds.tw13209915474852080710 : True := trivial
theorem holds.tw17073625240355288336 : True := trivial
theorem holds.tw15537332730332419909 : True := trivial
theorem holds.tw5575221369895840331 : True := trivial
theorem holds.tw7091734350699867438 : True := trivial
theorem holds.tw17913264075426736206 : True := trivial
theorem holds.tw3871327830667594363 : True := trivial
theorem holds.tw9450993110653552277 : True := trivial
theorem holds.tw17944632479302654923 : True := trivial
theorem holds.tw13927126179557532367 : True := trivial
theorem holds.tw6448561339706141380 : True := trivial
theorem holds.tw2649956428268598930 : True := trivial
theorem holds.tw15207461155181494907 : True := trivial
theorem holds.tw9845605067582433150 : True := trivial
theorem holds.tw15011846520240153829 : True := trivial
theorem holds.tw14936068655839831490 : True := trivial
theorem holds.tw4163932114217169656 : True := trivial
theorem holds.tw12895907414426036701 : True := trivial
theorem holds.tw9837200160888665125 : True := trivial
theorem holds.tw17798165641878771720 : True := trivial
theorem holds.tw8619679218038331415 : True := trivial
theorem holds.tw1950696375397192491 : True := trivial
theorem holds.tw12937823641553572396 : True := trivial
theorem holds.tw1439847465821575231 : True := trivial
theorem holds.tw14009664200999182198 : True := trivial
theorem holds.tw13092205884075074003 : True := trivial
theorem holds.tw9237425040697619348 : True := trivial
theorem holds.tw1808079228757151730 : True := trivial
theorem holds.tw14840234527517081024 : True := trivial
theorem holds.tw10485529719342007925 : True := trivial
theorem holds.tw12309836246783725052 : True := trivial
theorem holds.tw12880462199758229330 : True := trivial
theorem holds.tw3036743490978384135 : True := trivial
theorem holds.tw17346198462824364536 : True := trivial
theorem holds.tw8861268427844821491 : True := trivial
theorem holds.tw3130459073833044663 : True := trivial
theorem holds.tw2687090197485608191 : True := trivial
theorem holds.tw16901172632518039070 : True := trivial
theorem holds.tw219153232476482043 : True := trivial
theorem holds.tw163752771544544028 : True := trivial
theorem holds.tw17291538816856207626 : True := trivial
theorem holds.tw13722174161768770586 : True := trivial
theorem holds.tw12290939256721803298 : True := trivial
theorem holds.tw13017631291689174419 : True := trivial
theorem holds.tw14655709586211059922 : True := trivial
theorem holds.tw14580621595482660689 : True := trivial
theorem holds.tw12989574603768308988 : True := trivial
theorem holds.tw15273200439790486186 : True := trivial
theorem holds.tw1593381375773758139 : True := trivial
theorem holds.tw7707811088787232937 : True := trivial
theorem holds.tw8347636244739897767 : True := trivial
theorem holds.tw3939318920351609739 : True := trivial
theorem holds.tw10274489630727585624 : True := trivial
theorem holds.tw12395559996103058461 : True := trivial
theorem holds.tw14386307180159026561 : True := trivial
theorem holds.tw858949111498088631 : True := trivial
theorem holds.tw1589402734939430885 : True := trivial
theorem holds.tw18022749683552151592 : True := trivial
theorem holds.tw7015893580788135640 : True := trivial
theorem holds.tw2012589170291168757 : True := trivial
theorem holds.tw7245394843828603993 : True := trivial
theorem holds.tw18422777167880321962 : True := trivial
theorem holds.tw13254030171900719524 : True := trivial
theorem holds.tw10865840458708847048 : True := trivial
theorem holds.tw3280189952335981141 : True := trivial
theorem holds.tw9199205713870431237 : True := trivial
theorem holds.tw11601010813004772389 : True := trivial
theorem holds.tw148772256888466864 : True := trivial
theorem holds.tw17019404117443939837 : True := trivial
theorem holds.tw5193318697015410778 : True := trivial
theorem holds.tw320245450141983166 : True := trivial
theorem holds.tw901505859835486531 : True := trivial
theorem holds.tw5924206938273398199 : True := trivial
theorem holds.tw13568626325106866118 : True := trivial
theorem holds.tw2906205262585135489 : True := trivial
theorem holds.tw12742432499182574253 : True := trivial
theorem holds.tw7861430781984224534 : True := trivial
theorem holds.tw11588402963109515259 : True := trivial
theorem holds.tw16858782533830374312 : True := trivial
theorem holds.tw16229876718280994106 : True := trivial
theorem holds.tw8481581226595197660 : True := trivial
theorem holds.tw16639456632772151980 : True := trivial
theorem holds.tw4402175895357957959 : True := trivial
theorem holds.tw4648729528069818052 : True := trivial
theorem holds.tw13542237759943302294 : True := trivial
theorem holds.tw15513077785881353028 : True := trivial
theorem holds.tw8903042564375271901 : True := trivial
theorem holds.tw3627859317862272446 : True := trivial
theorem holds.tw9549802194579367347 : True := trivial
theorem holds.tw13468450998817285111 : True := trivial
theorem holds.tw17971352224074708947 : True := trivial
theorem holds.tw11129214163705600479 : True := trivial
theorem holds.tw8674511373362153602 : True := trivial
theorem holds.tw10636735225941107660 : True := trivial
theorem holds.tw748401449695984114 : True := trivial
theorem holds.tw423209705638199584 : True := trivial
theorem holds.tw10948004726544669928 : True := trivial
theorem holds.tw7362273379569002889 : True := trivial
theorem holds.tw7902261633588563308 : True := trivial
theorem holds.tw7162213511959294363 : True := trivial
theorem holds.tw2883544955331221323 : True := trivial
theorem holds.tw8542399382710344034 : True := trivial
theorem holds.tw17164335509468913260 : True := trivial
theorem holds.tw6488330700128786463 : True := trivial
theorem holds.tw8588504215182349678 : True := trivial
theorem holds.tw336141235995272753 : True := trivial
theorem holds.tw11901261150393549387 : True := trivial
theorem holds.tw1773966945098710344 : True := trivial
theorem holds.tw5182737377263117705 : True := trivial
theorem holds.tw9365704814042959737 : True := trivial
theorem holds.tw10827180432769290101 : True := trivial
theorem holds.tw3447462751971495926 : True := trivial
theorem holds.tw5216655550836724039 : True := trivial
theorem holds.tw10098972046157116879 : True := trivial
theorem holds.tw10649753336382247018 : True := trivial
theorem holds.tw6595067891378647141 : True := trivial
theorem holds.tw15941020652287252450 : True := trivial
theorem holds.tw7826865320329267599 : True := trivial
theorem holds.tw9131991520075355341 : True := trivial
theorem holds.tw11779022619240263696 : True := trivial
theorem holds.tw4651948064285525108 : True := trivial
theorem holds.tw17926317124431687591 : True := trivial
theorem holds.tw6291745178334089749 : True := trivial
theorem holds.tw7432890120387332043 : True := trivial
theorem holds.tw751877872320718590 : True := trivial
theorem holds.tw560342252178176454 : True := trivial
theorem holds.tw11853747737167824029 : True := trivial
theorem holds.tw18064200064840897085 : True := trivial
theorem holds.tw2823087873485292768 : True := trivial
theorem holds.tw10903040760619838225 : True := trivial
theorem holds.tw11597862398446965987 : True := trivial
theorem holds.tw4145528262315444634 : True := trivial
theorem holds.tw10639310086362137861 : True := trivial
theorem holds.tw11751793961337168453 : True := trivial
theorem holds.tw11822840741580126358 : True := trivial
theorem holds.tw1482085199893984861 : True := trivial
theorem holds.tw12113307723544316105 : True := trivial
theorem holds.tw11282545127445902390 : True := trivial
theorem holds.tw13770540828620801071 : True := trivial
theorem holds.tw10725703682452862957 : True := trivial
theorem holds.tw809213659261453498 : True := trivial
theorem holds.tw9799961329636067504 : True := trivial
theorem holds.tw10379041683851026849 : True := trivial
theorem holds.tw9696371129374792198 : True := trivial
theorem holds.tw8596624274579823756 : True := trivial
theorem holds.tw8870470449011654669 : True := trivial
theorem holds.tw304124916687741579 : True := trivial
theorem holds.tw7474502800292012287 : True := trivial
theorem holds.tw17279488368333437109 : True := trivial
theorem holds.tw17292662516239442348 : True := trivial
theorem holds.tw3353245464694781418 : True := trivial
theorem holds.tw2462241079565038228 : True := trivial
theorem holds.tw7626922814227947253 : True := trivial
theorem holds.tw8249603452572519537 : True := trivial
theorem holds.tw7802065275272431387 : True := trivial
theorem holds.tw12576126971807132834 : True := trivial
theorem holds.tw4643764525039462679 : True := trivial
theorem holds.tw11066857887867612422 : True := trivial
theorem holds.tw17719261125633965351 : True := trivial
theorem holds.tw2101139921798175510 : True := trivial
theorem holds.tw16775605871039231051 : True := trivial
theorem holds.tw10354880918358317233 : True := trivial
theorem holds.tw16079857623573425797 : True := trivial
theorem holds.tw11502617185997234719 : True := trivial
theorem holds.tw8402803899149636135 : True := trivial
theorem holds.tw17281126182376940907 : True := trivial
theorem holds.tw2106620106904116409 : True := trivial
theorem holds.tw2267984059885305272 : True := trivial
theorem holds.tw12601449633784620351 : True := trivial
theorem holds.tw1137990246659809442 : True := trivial
theorem holds.tw6918521485484303603 : True := trivial
theorem holds.tw2294954060650870964 : True := trivial
theorem holds.tw2946689963776181628 : True := trivial
theorem holds.tw972644777613264875 : True := trivial
theorem holds.tw14191719774925653097 : True := trivial
theorem holds.tw12710560639678748293 : True := trivial
theorem holds.tw12802367405619711827 : True := trivial
theorem holds.tw633671467636437687 : True := trivial
theorem holds.tw3373329727859555373 : True := trivial
theorem holds.tw15585552987913990479 : True := trivial
theorem holds.tw7091284818864391408 : True := trivial
theorem holds.tw6095395873833098277 : True := trivial
theorem holds.tw3857885618705574726 : True := trivial
theorem holds.tw16441653836564105684 : True := trivial
theorem holds.tw13065491559106759945 : True := trivial
theorem holds.tw16647943310620629288 : True := trivial
theorem holds.tw17223109724128228 : True := trivial
theorem holds.tw14009550519331177844 : True := trivial
theorem holds.tw10401925611528423176 : True := trivial
theorem holds.tw15023969578187493666 : True := trivial
theorem holds.tw4802307515362763178 : True := trivial
theorem holds.tw2218548957419942694 : True := trivial
theorem holds.tw5763533444337908085 : True := trivial
theorem holds.tw3619048362596179646 : True := trivial
theorem holds.tw18234908735061800991 : True := trivial
theorem holds.tw5041390983802565911 : True := trivial
theorem holds.tw1340867235299945491 : True := trivial
theorem holds.tw5425396193923236055 : True := trivial
theorem holds.tw14588929597423498407 : True := trivial
theorem holds.tw10173427625125348917 : True := trivial
theorem holds.tw11734170722722723658 : True := trivial
theorem holds.tw102131831245185483 : True := trivial
theorem holds.tw9311778637957928393 : True := trivial
theorem holds.tw9362412785007306469 : True := trivial
theorem holds.tw6140071592181594259 : True := trivial
theorem holds.tw7323979202542588356 : True := trivial
theorem holds.tw16632596914167136450 : True := trivial
theorem holds.tw13399917333859042728 : True := trivial
theorem holds.tw11722395061560034729 : True := trivial
theorem holds.tw4849142986009685564 : True := trivial
theorem holds.tw17632335327017012934 : True := trivial
theorem holds.tw3993423649562243125 : True := trivial
theorem holds.tw8000714904248679923 : True := trivial
theorem holds.tw259796460165299817 : True := trivial
theorem holds.tw16849139663620849644 : True := trivial
theorem holds.tw9102514126196903001 : True := trivial
theorem holds.tw4076774856455439915 : True := trivial
theorem holds.tw17630189958564410829 : True := trivial
theorem holds.tw10781949564661087014 : True := trivial
theorem holds.tw1631762026350410624 : True := trivial
theorem holds.tw15062254865528849417 : True := trivial
theorem holds.tw7719913434988329255 : True := trivial
theorem holds.tw15254852020667509721 : True := trivial
theorem holds.tw11790860027003815614 : True := trivial
theorem holds.tw15745463908762912224 : True := trivial
theorem holds.tw15789068710709250511 : True := trivial
theorem holds.tw3026159421641905470 : True := trivial
theorem holds.tw14656924789486186283 : True := trivial
theorem holds.tw3633175431514403967 : True := trivial
theorem holds.tw566137643839165017 : True := trivial
theorem holds.tw6048721304575550254 : True := trivial
theorem holds.tw8207547542607852539 : True := trivial
theorem holds.tw18359997955559995177 : True := trivial
theorem holds.tw10434059876755417953 : True := trivial
theorem holds.tw17581317686861608064 : True := trivial
theorem holds.tw13944903510964857448 : True := trivial
theorem holds.tw16213698146050571477 : True := trivial
theorem holds.tw2095127442855890415 : True := trivial
theorem holds.tw62332188825903888 : True := trivial
theorem holds.tw13340908195872496645 : True := trivial
theorem holds.tw3456414357176833626 : True := trivial
theorem holds.tw13147197641983527434 : True := trivial
theorem holds.tw17037562230266892200 : True := trivial
theorem holds.tw186513824401799857 : True := trivial
theorem holds.tw13885291864019955248 : True := trivial
theorem holds.tw4410441207587458041 : True := trivial
theorem holds.tw11540697544432896167 : True := trivial
theorem holds.tw3582192525621027801 : True := trivial
theorem holds.tw3382014862815606732 : True := trivial
theorem holds.tw5497633036821130979 : True := trivial
theorem holds.tw15411401500947443962 : True := trivial
theorem holds.tw12413153405109986185 : True := trivial
theorem holds.tw6966412582447933462 : True := trivial
theorem holds.tw4750038307033298958 : True := trivial
theorem holds.tw3887810834381172553 : True := trivial
theorem holds.tw1073462849962798924 : True := trivial
theorem holds.tw3178899340950496782 : True := trivial
theorem holds.tw2810597754418162968 : True := trivial
theorem holds.tw4796036155747723972 : True := trivial
theorem holds.tw8518633364583970822 : True := trivial
theorem holds.tw4789500502689172640 : True := trivial
theorem holds.tw17855012878347316739 : True := trivial
theorem holds.tw12789370374095781938 : True := trivial
theorem holds.tw2752043626615076447 : True := trivial
theorem holds.tw14547534795080127693 : True := trivial
theorem holds.tw5917631343557493650 : True := trivial
theorem holds.tw2463538713826383508 : True := trivial
theorem holds.tw10421039710293130081 : True := trivial
theorem holds.tw14036193234396466670 : True := trivial
theorem holds.tw12172243722410901550 : True := trivial
theorem holds.tw14982816807526710317 : True := trivial
theorem holds.tw12604755550967510808 : True := trivial
theorem holds.tw15095548132571782405 : True := trivial
theorem holds.tw1483643113861343667 : True := trivial
theorem holds.tw17262350245211983927 : True := trivial
theorem holds.tw17392878551428014983 : True := trivial
theorem holds.tw6959774583762970215 : True := trivial
theorem holds.tw5222401590072087826 : True := trivial
theorem holds.tw6914295052662952095 : True := trivial
theorem holds.tw15823187075822872668 : True := trivial
theorem holds.tw5641877882713627656 : True := trivial
theorem holds.tw1640095773826246234 : True := trivial
theorem holds.tw6190979807001365681 : True := trivial
theorem holds.tw9459576204189156695 : True := trivial
theorem holds.tw10161594071301636967 : True := trivial
theorem holds.tw17336980264204335060 : True := trivial
theorem holds.tw11048463703715870699 : True := trivial
theorem holds.tw6941565390861206935 : True := trivial
theorem holds.tw454007586472410346 : True := trivial
theorem holds.tw8855052019071482888 : True := trivial
theorem holds.tw7597544819921896622 : True := trivial
theorem holds.tw13007750561021702818 : True := trivial
theorem holds.tw13104329455064920595 : True := trivial
theorem holds.tw1724297370874112911 : True := trivial
theorem holds.tw18049049880918805354 : True := trivial
theorem holds.tw4985040731781630320 : True := trivial
theorem holds.tw8526995184771906285 : True := trivial
theorem holds.tw11186656760821859033 : True := trivial
theorem holds.tw5794953209876538480 : True := trivial
theorem holds.tw910765456522966090 : True := trivial
theorem holds.tw9789231669089328868 : True := trivial
theorem holds.tw12568136600953073654 : True := trivial
theorem holds.tw16502544697330277225 : True := trivial
theorem holds.tw5773917403063182490 : True := trivial
theorem holds.tw4155884855624120867 : True := trivial
theorem holds.tw4942043526153830108 : True := trivial
theorem holds.tw14711862012998904184 : True := trivial
theorem holds.tw5556768018265949603 : True := trivial
theorem holds.tw7716478190252311822 : True := trivial
theorem holds.tw11836593765499999014 : True := trivial
theorem holds.tw11546241078853531240 : True := trivial
theorem holds.tw14657175510237350369 : True := trivial
theorem holds.tw2479370700520597690 : True := trivial
theorem holds.tw3903572975905974588 : True := trivial
theorem holds.tw15450991236078661310 : True := trivial
theorem holds.tw12365949778848563801 : True := trivial
theorem holds.tw6371582904306732580 : True := trivial
theorem holds.tw14585510928270552931 : True := trivial
theorem holds.tw12466516811051731716 : True := trivial
theorem holds.tw10558061617267046840 : True := trivial
theorem holds.tw5769410152431773960 : True := trivial
theorem holds.tw5383322406768250791 : True := trivial
theorem holds.tw9052643004159686185 : True := trivial
theorem holds.tw6198475834347723052 : True := trivial
theorem holds.tw12823357312892148883 : True := trivial
theorem holds.tw9620400754824516148 : True := trivial
theorem holds.tw4166484906153275938 : True := trivial
theorem holds.tw12810945148800649365 : True := trivial
theorem holds.tw10887685065404299560 : True := trivial
theorem holds.tw6156553648606286125 : True := trivial
theorem holds.tw9099188719527409305 : True := trivial
theorem holds.tw3192610805203724534 : True := trivial
theorem holds.tw10829863124432426728 : True := trivial
theorem holds.tw12562409787937462228 : True := trivial
theorem holds.tw9574919307984801549 : True := trivial
theorem holds.tw10827813081731521663 : True := trivial
theorem holds.tw6753393806982246240 : True := trivial
theorem holds.tw4202575050863122201 : True := trivial
theorem holds.tw13581682827727002714 : True := trivial
theorem holds.tw1180858734858505701 : True := trivial
theorem holds.tw761897369510548390 : True := trivial
theorem holds.tw3436660006137979409 : True := trivial
theorem holds.tw13908479656008945462 : True := trivial
theorem holds.tw16655125198323582826 : True := trivial
theorem holds.tw11051691182068551579 : True := trivial
theorem holds.tw6199388037500438756 : True := trivial
theorem holds.tw8227957631501742283 : True := trivial
theorem holds.tw1732598276494080869 : True := trivial
theorem holds.tw16645122277087783498 : True := trivial
theorem holds.tw2558126126921591143 : True := trivial
theorem holds.tw5703726255865926675 : True := trivial
theorem holds.tw16726147930747206321 : True := trivial
theorem holds.tw17538187741519148717 : True := trivial
theorem holds.tw7301816568715707467 : True := trivial
theorem holds.tw5179435216170683551 : True := trivial
theorem holds.tw18383201572249910255 : True := trivial
theorem holds.tw12585467151070328809 : True := trivial
theorem holds.tw15389765952639064366 : True := trivial
theorem holds.tw3760824036032623922 : True := trivial
theorem holds.tw7554170839786548138 : True := trivial
theorem holds.tw17418152327391704780 : True := trivial
theorem holds.tw5565215938204105602 : True := trivial
theorem holds.tw11525521872804324881 : True := trivial
theorem holds.tw16117221648509882907 : True := trivial
theorem holds.tw14535388146950757953 : True := trivial
theorem holds.tw9516971429711009239 : True := trivial
theorem holds.tw525691460363776094 : True := trivial
theorem holds.tw14530871965569362399 : True := trivial
theorem holds.tw1715060489947253082 : True := trivial
theorem holds.tw7439791219172509830 : True := trivial
theorem holds.tw3990624094238148745 : True := trivial
theorem holds.tw11224438771907396523 : True := trivial
theorem holds.tw13577044959039219499 : True := trivial
theorem holds.tw9328520031687372101 : True := trivial
theorem holds.tw1163409351375112889 : True := trivial
theorem holds.tw10534960932134812076 : True := trivial
theorem holds.tw11235745564532190605 : True := trivial
theorem holds.tw15604835745485940990 : True := trivial
theorem holds.tw7673780438494934982 : True := trivial
theorem holds.tw4726945499792946456 : True := trivial
theorem holds.tw11512972560797094532 : True := trivial
theorem holds.tw8278362747129536322 : True := trivial
theorem holds.tw289591244391447622 : True := trivial
theorem holds.tw12241119288341741264 : True := trivial
theorem holds.tw9622339573726664687 : True := trivial
theorem holds.tw10148128099037568930 : True := trivial
theorem holds.tw15050755441118755024 : True := trivial
theorem holds.tw2118362463298711134 : True := trivial
theorem holds.tw14287290419383021655 : True := trivial
theorem holds.tw10644361752239312324 : True := trivial
theorem holds.tw3862831850435510503 : True := trivial
theorem holds.tw7454996950049640510 : True := trivial
theorem holds.tw14862097360396659091 : True := trivial
theorem holds.tw16125863877351369720 : True := trivial
theorem holds.tw10523851086363964841 : True := trivial
theorem holds.tw13926473251421816931 : True := trivial
theorem holds.tw6575669131304009613 : True := trivial
theorem holds.tw13051681043699908333 : True := trivial
theorem holds.tw4914138037164930872 : True := trivial
theorem holds.tw12930464050295069605 : True := trivial
theorem holds.tw10083248742438222304 : True := trivial
theorem holds.tw5321597327001786283 : True := trivial
theorem holds.tw3474114851397540821 : True := trivial
theorem holds.tw1310360676347498535 : True := trivial
theorem holds.tw5346048589856512124 : True := trivial
theorem holds.tw1405835483871488201 : True := trivial
theorem holds.tw221997227723231585 : True := trivial
theorem holds.tw6880253553417472898 : True := trivial
theorem holds.tw5383028079363384652 : True := trivial
theorem holds.tw8974728721157213105 : True := trivial
theorem holds.tw13556940869371683212 : True := trivial
theorem holds.tw11600793036422821696 : True := trivial
theorem holds.tw14826860743806697078 : True := trivial
theorem holds.tw11763221236873417781 : True := trivial
theorem holds.tw6543841045932288795 : True := trivial
theorem holds.tw14372268606028225596 : True := trivial
theorem holds.tw2881611739494214385 : True := trivial
theorem holds.tw5214269002831692869 : True := trivial
theorem holds.tw18365531089438279691 : True := trivial
theorem holds.tw10646771002989745042 : True := trivial
theorem holds.tw1146065278681961467 : True := trivial
theorem holds.tw3492782512359337115 : True := trivial
theorem holds.tw9129777989045449055 : True := trivial
theorem holds.tw17355107159025878677 : True := trivial
theorem holds.tw6655644764432344620 : True := trivial
theorem holds.tw11835662369385774271 : True := trivial
theorem holds.tw3866774273099736173 : True := trivial
theorem holds.tw6450528987357107998 : True := trivial
theorem holds.tw9494927683980322891 : True := trivial
theorem holds.tw4033730310906357483 : True := trivial
theorem holds.tw7643023377944502599 : True := trivial
theorem holds.tw11725772996451741727 : True := trivial
theorem holds.tw13806426749181046026 : True := trivial
theorem holds.tw17998081429645038622 : True := trivial
theorem holds.tw5247287169482206849 : True := trivial
theorem holds.tw14560535973629347887 : True := trivial
theorem holds.tw4352254379149570239 : True := trivial
theorem holds.tw13927403709290423393 : True := trivial
theorem holds.tw1824949275679664869 : True := trivial
theorem holds.tw16860768933306284039 : True := trivial
theorem holds.tw15200401147587154205 : True := trivial
theorem holds.tw6983251717223518274 : True := trivial
theorem holds.tw6422577644494417922 : True := trivial
theorem holds.tw6049138979199565946 : True := trivial
theorem holds.tw13066480073238470972 : True := trivial
theorem holds.tw3367569127401150640 : True := trivial
theorem holds.tw16125030136936314914 : True := trivial
theorem holds.tw11616594959318775122 : True := trivial
theorem holds.tw16672141569728891305 : True := trivial
theorem holds.tw3175176950110418142 : True := trivial
theorem holds.tw4585039061992069475 : True := trivial
theorem holds.tw7856234599120626015 : True := trivial
theorem holds.tw806502866691595785 : True := trivial
theorem holds.tw11311703023491571658 : True := trivial
theorem holds.tw15796503981385335656 : True := trivial
theorem holds.tw9162125367769188405 : True := trivial
theorem holds.tw8695955898341688662 : True := trivial
theorem holds.tw15071410638466004272 : True := trivial
theorem holds.tw8440317410831493102 : True := trivial
theorem holds.tw2360887132722220272 : True := trivial
theorem holds.tw4899833643412047626 : True := trivial
theorem holds.tw13094028172194069085 : True := trivial
theorem holds.tw3243938358438041130 : True := trivial
theorem holds.tw9214664554869286818 : True := trivial
theorem holds.tw297786960950310885 : True := trivial
theorem holds.tw14288342732992311169 : True := trivial
theorem holds.tw6590239512759288168 : True := trivial
theorem holds.tw1028721145166620862 : True := trivial
theorem holds.tw2042763406112037813 : True := trivial
theorem holds.tw9604087634617005485 : True := trivial
theorem holds.tw8984748508390257215 : True := trivial
theorem holds.tw16264167963006694373 : True := trivial
theorem holds.tw9586899234651525161 : True := trivial
theorem holds.tw427658944588647266 : True := trivial
theorem holds.tw3321080056272172667 : True := trivial
theorem holds.tw9102806675031563833 : True := trivial
theorem holds.tw530202765267203145 : True := trivial
theorem holds.tw6921428337729621249 : True := trivial
theorem holds.tw10242390754412813698 : True := trivial
theorem holds.tw14740435843232742259 : True := trivial
theorem holds.tw11201437752822935273 : True := trivial
theorem holds.tw5954626210293565025 : True := trivial
theorem holds.tw16813429586330320317 : True := trivial
theorem holds.tw4701131714114240353 : True := trivial
theorem holds.tw4712984420689901628 : True := trivial
theorem holds.tw1361753215422761682 : True := trivial
theorem holds.tw5899693574784232069 : True := trivial
theorem holds.tw875858636217672421 : True := trivial
theorem holds.tw12836115185882272796 : True := trivial
theorem holds.tw13866178503971961605 : True := trivial
theorem holds.tw4737754405415181672 : True := trivial
theorem holds.tw15816930842529484392 : True := trivial
theorem holds.tw9988129418920411464 : True := trivial
theorem holds.tw10938789556120591919 : True := trivial
theorem holds.tw2342138469090012933 : True := trivial
theorem holds.tw4329670542127101912 : True := trivial
theorem holds.tw13875547665874281972 : True := trivial
theorem holds.tw2877667199640693436 : True := trivial
theorem holds.tw13144989201148253602 : True := trivial
theorem holds.tw13283888558741157846 : True := trivial
theorem holds.tw1427612527628203849 : True := trivial
theorem holds.tw10652184155389963776 : True := trivial
theorem holds.tw17346086440603167023 : True := trivial
theorem holds.tw6248681292190894039 : True := trivial
theorem holds.tw13312803281021727375 : True := trivial
theorem holds.tw17383557791483897079 : True := trivial
theorem holds.tw6120422982695113571 : True := trivial
theorem holds.tw5977068209845711935 : True := trivial
theorem holds.tw15606041283149194883 : True := trivial
theorem holds.tw17209970428121737369 : True := trivial
theorem holds.tw12785213046522123084 : True := trivial
theorem holds.tw13870342090588982440 : True := trivial
theorem holds.tw2185107535482763942 : True := trivial
theorem holds.tw1825273462874147081 : True := trivial
theorem holds.tw11518596958034666467 : True := trivial
theorem holds.tw5988627823569945611 : True := trivial
theorem holds.tw14742262041964900138 : True := trivial
theorem holds.tw10042813201314884452 : True := trivial
theorem holds.tw6749007424362604443 : True := trivial
theorem holds.tw11739856930395372546 : True := trivial
theorem holds.tw13150754337742996737 : True := trivial
theorem holds.tw15794917132705807027 : True := trivial
theorem holds.tw3629286303382097618 : True := trivial
theorem holds.tw4198915830767117193 : True := trivial
theorem holds.tw12254596277583100761 : True := trivial
theorem holds.tw14577591857130502558 : True := trivial
theorem holds.tw7750579265954201063 : True := trivial
theorem holds.tw11490886427627830521 : True := trivial
theorem holds.tw13572990277948374504 : True := trivial
theorem holds.tw4023203366937941664 : True := trivial
theorem holds.tw15272263025354421559 : True := trivial
theorem holds.tw13685081394989688420 : True := trivial
theorem holds.tw11514769715683232044 : True := trivial
theorem holds.tw4520638730040262972 : True := trivial
theorem holds.tw4716767843848640111 : True := trivial
theorem holds.tw570978571924135390 : True := trivial
theorem holds.tw13643859175351539907 : True := trivial
theorem holds.tw6858034957033388330 : True := trivial
theorem holds.tw2777736696079081550 : True := trivial
theorem holds.tw13561325926316863015 : True := trivial
theorem holds.tw2696417096768905552 : True := trivial
theorem holds.tw3135216165305841478 : True := trivial
theorem holds.tw3599145067797485191 : True := trivial
theorem holds.tw2148607177550761914 : True := trivial
theorem holds.tw15851843571219634166 : True := trivial
theorem holds.tw10551627474541271028 : True := trivial
theorem holds.tw3437230175577934783 : True := trivial
theorem holds.tw17821248551789579006 : True := trivial
theorem holds.tw12204869551635539492 : True := trivial
theorem holds.tw5823940666886142841 : True := trivial
theorem holds.tw8208656017144064623 : True := trivial
theorem holds.tw11970517655621889232 : True := trivial
theorem holds.tw17090246029130019867 : True := trivial
theorem holds.tw8392356147495700497 : True := trivial
theorem holds.tw7211895873857479204 : True := trivial
theorem holds.tw3225592013931147323 : True := trivial
theorem holds.tw16850786129323675806 : True := trivial
theorem holds.tw7461513900695700040 : True := trivial
theorem holds.tw2532138157725591091 : True := trivial
theorem holds.tw11274099821286184106 : True := trivial
theorem holds.tw13983006639296433537 : True := trivial
theorem holds.tw8912419805850156402 : True := trivial
theorem holds.tw13939595805288770710 : True := trivial
theorem holds.tw6349204981376968348 : True := trivial
theorem holds.tw1972715526332187960 : True := trivial
theorem holds.tw2553593782257716894 : True := trivial
theorem holds.tw7392826028226397397 : True := trivial
theorem holds.tw1019623644749620330 : True := trivial
theorem holds.tw9607549993030790913 : True := trivial
theorem holds.tw10360585610343284440 : True := trivial
theorem holds.tw14528061259034042595 : True := trivial
theorem holds.tw10283818944488548539 : True := trivial
theorem holds.tw11294925716233556172 : True := trivial
theorem holds.tw9100683277346549268 : True := trivial
theorem holds.tw7124819437065267506 : True := trivial
theorem holds.tw7550241924103705347 : True := trivial
theorem holds.tw7156901052416329138 : True := trivial
theorem holds.tw3246951637173739031 : True := trivial
theorem holds.tw4599588459257024401 : True := trivial
theorem holds.tw454965330238100775 : True := trivial
theorem holds.tw12945553040690940025 : True := trivial
theorem holds.tw9500808247569905460 : True := trivial
theorem holds.tw12938584749477812121 : True := trivial
theorem holds.tw6768854618804776935 : True := trivial
theorem holds.tw16146324408657066031 : True := trivial
theorem holds.tw4182075877661977323 : True := trivial
theorem holds.tw18109739409106224073 : True := trivial
theorem holds.tw8442722798632086934 : True := trivial
theorem holds.tw7034209171341903515 : True := trivial
theorem holds.tw16089340656695281658 : True := trivial
theorem holds.tw4765154006265108128 : True := trivial
theorem holds.tw13568921660270651316 : True := trivial
theorem holds.tw11949301578690616718 : True := trivial
theorem holds.tw606747706339235725 : True := trivial
theorem holds.tw15484048276080933774 : True := trivial
theorem holds.tw12079844980887112840 : True := trivial
theorem holds.tw11120371383034980989 : True := trivial
theorem holds.tw11579788863408521266 : True := trivial
theorem holds.tw203273229118861036 : True := trivial
theorem holds.tw14739990996614112284 : True := trivial
theorem holds.tw9061112988790266791 : True := trivial
theorem holds.tw12812751741782037360 : True := trivial
theorem holds.tw7312422937404684302 : True := trivial
theorem holds.tw5311945793869207790 : True := trivial
theorem holds.tw11528800686450731847 : True := trivial
theorem holds.tw14639989907828445533 : True := trivial
theorem holds.tw12216307068215997262 : True := trivial
theorem holds.tw7471119845193963727 : True := trivial
theorem holds.tw1207315921008855570 : True := trivial
theorem holds.tw2796777152576758509 : True := trivial
theorem holds.tw14430380308407691352 : True := trivial
theorem holds.tw15890244096478623015 : True := trivial
theorem holds.tw330830344746487042 : True := trivial
theorem holds.tw16129633797889163640 : True := trivial
theorem holds.tw7079054219183351188 : True := trivial
theorem holds.tw17814352648390435185 : True := trivial
theorem holds.tw15055699058039122152 : True := trivial
theorem holds.tw7932243943732842300 : True := trivial
theorem holds.tw8991566102212064988 : True := trivial
theorem holds.tw15025764526155009368 : True := trivial
theorem holds.tw1823561997301651773 : True := trivial
theorem holds.tw2444844642368225418 : True := trivial
theorem holds.tw7127088912123093544 : True := trivial
theorem holds.tw12195513721063400751 : True := trivial
theorem holds.tw11696598847615275075 : True := trivial
theorem holds.tw1960755218493670761 : True := trivial
theorem holds.tw6315876978593520039 : True := trivial
theorem holds.tw1074900074488319132 : True := trivial
theorem holds.tw9799693155679827009 : True := trivial
theorem holds.tw8581288828926942043 : True := trivial
theorem holds.tw11063276083514818191 : True := trivial
theorem holds.tw1494960908356882902 : True := trivial
theorem holds.tw6148239107312802406 : True := trivial
theorem holds.tw13980265253889174341 : True := trivial
theorem holds.tw5685210113911836605 : True := trivial
theorem holds.tw11533041106185478954 : True := trivial
theorem holds.tw12984480432157374740 : True := trivial
theorem holds.tw2357529734310121468 : True := trivial
theorem holds.tw17126539058063099543 : True := trivial
theorem holds.tw14646963277799943321 : True := trivial
theorem holds.tw13572915670341307616 : True := trivial
theorem holds.tw5347322097086026319 : True := trivial
theorem holds.tw15362237157162915002 : True := trivial
theorem holds.tw14081903098352799026 : True := trivial
theorem holds.tw6119475335338040823 : True := trivial
theorem holds.tw5305027473973001320 : True := trivial
theorem holds.tw12185729120219793741 : True := trivial
theorem holds.tw9991585372052066493 : True := trivial
theorem holds.tw3356243462147625983 : True := trivial
theorem holds.tw5853359627861717808 : True := trivial
theorem holds.tw7742256472177119466 : True := trivial
theorem holds.tw15290629842753780181 : True := trivial
theorem holds.tw7901747351164902035 : True := trivial
theorem holds.tw16592676382159999794 : True := trivial
theorem holds.tw17395654540076971775 : True := trivial
theorem holds.tw2779309545232831769 : True := trivial
theorem holds.tw8483604042391811736 : True := trivial
theorem holds.tw1365116530167925372 : True := trivial
theorem holds.tw10249881492470509181 : True := trivial
theorem holds.tw14795573655361926544 : True := trivial
theorem holds.tw17481630141593290555 : True := trivial
theorem holds.tw7343461674144158565 : True := trivial
theorem holds.tw1315269058470167389 : True := trivial
theorem holds.tw16578433264720156848 : True := trivial
theorem holds.tw17300448295776493652 : True := trivial
theorem holds.tw5873317595513285097 : True := trivial
theorem holds.tw6666963296759901205 : True := trivial
theorem holds.tw6781479132323259135 : True := trivial
theorem holds.tw8725055633198729704 : True := trivial
theorem holds.tw11977238686650094699 : True := trivial
theorem holds.tw16219856602379481666 : True := trivial
theorem holds.tw1025692342983334034 : True := trivial
theorem holds.tw2888249562722961504 : True := trivial
theorem holds.tw6242403379928677926 : True := trivial
theorem holds.tw13705729612735207959 : True := trivial
theorem holds.tw16644231572473149109 : True := trivial
theorem holds.tw9074616271072783057 : True := trivial
theorem holds.tw10628563348622657471 : True := trivial
theorem holds.tw50150609750259476 : True := trivial
theorem holds.tw3593551216770487250 : True := trivial
theorem holds.tw1245089705881973277 : True := trivial
theorem holds.tw3925285488473471467 : True := trivial
theorem holds.tw2756982855720129994 : True := trivial
theorem holds.tw18388308989220757167 : True := trivial
theorem holds.tw7843577520697191473 : True := trivial
theorem holds.tw12679420728282725058 : True := trivial
theorem holds.tw10684501236411041111 : True := trivial
theorem holds.tw9521147752373275338 : True := trivial
theorem holds.tw11524643523555069013 : True := trivial
theorem holds.tw10800308180441072685 : True := trivial
theorem holds.tw7730520475168224273 : True := trivial
theorem holds.tw14933511876627838809 : True := trivial
theorem holds.tw7805041461503212653 : True := trivial
theorem holds.tw7123745008190629674 : True := trivial
theorem holds.tw1337442287399796739 : True := trivial
theorem holds.tw2928160239403304193 : True := trivial
theorem holds.tw1422511779623705206 : True := trivial
theorem holds.tw17624137095391547329 : True := trivial
theorem holds.tw15324877227964168024 : True := trivial
theorem holds.tw11717392464397103848 : True := trivial
theorem holds.tw4969161028945268443 : True := trivial
theorem holds.tw17233794870113569758 : True := trivial
theorem holds.tw18216332403069514570 : True := trivial
theorem holds.tw2559646145300734951 : True := trivial
theorem holds.tw6309782137368791668 : True := trivial
theorem holds.tw5863878732770888320 : True := trivial
theorem holds.tw17918635450871427962 : True := trivial
theorem holds.tw12447720582111689599 : True := trivial
theorem holds.tw18394296538203455093 : True := trivial
theorem holds.tw15609245745843878058 : True := trivial
theorem holds.tw11152261494761681691 : True := trivial
theorem holds.tw14349306707777215208 : True := trivial
theorem holds.tw9759596668610944983 : True := trivial
theorem holds.tw5173241393526086366 : True := trivial
theorem holds.tw1123846788535507188 : True := trivial
theorem holds.tw11728930042063702870 : True := trivial
theorem holds.tw11538078753182218772 : True := trivial
theorem holds.tw15834214641178109582 : True := trivial
theorem holds.tw17921857626691049808 : True := trivial
theorem holds.tw5774857608794211570 : True := trivial
theorem holds.tw10563470235567611149 : True := trivial
theorem holds.tw5654188131488062415 : True := trivial
theorem holds.tw6093801632192340330 : True := trivial
theorem holds.tw11294661228944317004 : True := trivial
theorem holds.tw8402674226536075681 : True := trivial
theorem holds.tw5461545733378060514 : True := trivial
theorem holds.tw17960771731821733994 : True := trivial
theorem holds.tw7592188014918490130 : True := trivial
theorem holds.tw4403730688473343794 : True := trivial
theorem holds.tw6018512964026531072 : True := trivial
theorem holds.tw725649426961777511 : True := trivial
theorem holds.tw548314340000556326 : True := trivial
theorem holds.tw2541144458009951056 : True := trivial
theorem holds.tw3579080554685782296 : True := trivial
theorem holds.tw14909315987317196855 : True := trivial
theorem holds.tw15739287041204498123 : True := trivial
theorem holds.tw10650341957581903357 : True := trivial
theorem holds.tw7520693441242898484 : True := trivial
theorem holds.tw8803891727829417901 : True := trivial
theorem holds.tw18338768147406059947 : True := trivial
theorem holds.tw8446953269722256386 : True := trivial
theorem holds.tw12468104364906017970 : True := trivial
theorem holds.tw1864051305197259859 : True := trivial
theorem holds.tw14308500803617184986 : True := trivial
theorem holds.tw13954181969279747113 : True := trivial
theorem holds.tw7190707470689744037 : True := trivial
theorem holds.tw7688160027797488534 : True := trivial
theorem holds.tw1121906545460374342 : True := trivial
theorem holds.tw2358151869017402907 : True := trivial
theorem holds.tw3206650448987327219 : True := trivial
theorem holds.tw9800917622001278742 : True := trivial
theorem holds.tw11684482872463225234 : True := trivial
theorem holds.tw8453751759146127243 : True := trivial
theorem holds.tw16283952078281958591 : True := trivial
theorem holds.tw15146512578063775815 : True := trivial
theorem holds.tw13435555463549654244 : True := trivial
theorem holds.tw15805340254816651888 : True := trivial
theorem holds.tw9191823871389445078 : True := trivial
theorem holds.tw8570656678029925189 : True := trivial
theorem holds.tw7289025386608648890 : True := trivial
theorem holds.tw14628368442584036910 : True := trivial
theorem holds.tw15495143696023023496 : True := trivial
theorem holds.tw5826987020044854240 : True := trivial
theorem holds.tw12421082939695732497 : True := trivial
theorem holds.tw13951030713978895795 : True := trivial
theorem holds.tw3469395205936024662 : True := trivial
theorem holds.tw10338945269796587067 : True := trivial
theorem holds.tw17812667855592457405 : True := trivial
theorem holds.tw1344203414033757936 : True := trivial
theorem holds.tw15116549333126227986 : True := trivial
theorem holds.tw12331700783170895899 : True := trivial
theorem holds.tw10938551227840818887 : True := trivial
theorem holds.tw17503535016915526970 : True := trivial
set_option Elab.async true in
set_option maxRecDepth 100000 in
set_option maxHeartbeats 8000000 in
/-- the row's head, and the call of law behind it -/
theorem holds : PySem.Challenge.rw_kt0007_01.Holds := by
  w_on; o_law; o_head (kHook Kf kAs (fun _ => by kernel_rfl)); (case hw => w_witness2)
  intro w s₀ s₁ mg mb G Y fa o pm cd doc dV kV ho hd hcd hD hmg hg args vals as hpre hlay hrd hwl hlo
  have KX := kIn_of Y
  refine Ground.open G ?_
  intro T B D TE TW
  wrow_args hpre hlay hrd hwl hlo
  rename_i sc _ _ _ _ _ _ _ sa sv _ hl _ _ _ hi _ h63 _
  obtain rfl : dV = .none := Dflts.none hD rfl
  obtain rfl : kV = .none := Dflts.noKw hD
  have T' : Top vw (looseW vw [Str.ofString "b2a_base64", Str.ofString "_NO_SEP", Str.ofString "b2a_hex", Str.ofString "hexlify", Str.ofString "b64encode", Str.ofString "UnsupportedOperation", Str.ofString "IOBase", Str.ofString "BufferedIOBase", Str.ofString "TextIOBase", Str.ofString "BytesIO", Str.ofString "StringIO"]) (ExcName.means s₀.heap) mg mb s₁.heap := T
  refine wpN_mono (law_call (E := fun _ _ => False) ⟨KX, _, _, _, T'⟩ ho hd hcd hl hi (by omega) fun h' tk hk => ?_) (fun _ _ q => q) fun _ _ q => q.elim
  refine ⟨.inl ⟨_, .bool true, [], rfl, ?_, ?_, ?_, ?_⟩, ?_, ?_, ?_⟩
  · exact fun cls => rfl
  · exact .bool true
  · wrow_post
  · exact fun _ => ⟨List.nodup_nil, fun _ h => nomatch h⟩
  · exact .of_keep hk
  · rfl
  · exact .of_eq hg
end MineHead
end
theorem PySem.Challenge.cw_kt0007_01_holds : PySem.Challenge.rw_kt0007_01.Holds :=
  MineHead.holds
