import PyProof.Rows.All
import Wide.All
import KE.KCallOwn
import KE.KSliceW
import KE.KBytesCut
import KE.KSuper
import KE.KxDecode
import KE.KWords
import KE.KNest
import KE.KStar
import OpenK.ZHead
import KE.IntBitsLaws
import KE.KRevIter
import Wide.FinOn
import Lean
import PySem.Challenge.RW_zo0040_01
open PySem.Str (ofString)
open PySem PySem.Calls PyProof.Rows PySem.W PySem.Spec
set_option Elab.async false
set_option maxRecDepth 100000
set_option maxHeartbeats 2000000
set_option linter.all false
set_option compiler.extract_closed false
namespace Mine
theorem Zae {P0 P1 P2 : Prop} {G : Prop} (h : P0 ∧ P1 ∧ P2) (k : P0 → P1 → P2 → G) : G := h.elim fun x0 h => h.elim fun x1 h => k x0 x1 h
theorem Zlp {α0 : Sort _} {P0 : Prop} {P1 : α0 → Prop} {G : Prop} (h : P0 ∧ (∃ a0, P1 a0)) (k : P0 → (∀ a0, P1 a0 → G)) : G := h.elim fun x0 h => h.elim fun x1 h => k x0 x1 h
theorem Zo {α0 : Sort _} {P0 P1 : α0 → Prop} {G : Prop} (h : ∃ a0, P0 a0 ∧ P1 a0) (k : ∀ a0, P0 a0 → P1 a0 → G) : G := h.elim fun x0 h => h.elim fun x1 h => k x0 x1 h
theorem Zcv {α0 : Sort _} {α1 : Sort _} {P0 : α0 → α1 → Prop} {G : Prop} (h : ∃ a0, ∃ a1, P0 a0 a1) (k : ∀ a0, ∀ a1, P0 a0 a1 → G) : G := h.elim fun x0 h => h.elim fun x1 h => k x0 x1 h
theorem Zlj {P0 P1 P2 P3 : Prop} {G : Prop} (h : P0 ∧ P1 ∧ P2 ∧ P3) (k : P0 → P1 → P2 → P3 → G) : G := h.elim fun x0 h => h.elim fun x1 h => h.elim fun x2 h => k x0 x1 x2 h
theorem Z1 {α0 : Sort _} {P0 P1 P2 : α0 → Prop} {G : Prop} (h : ∃ a0, P0 a0 ∧ P1 a0 ∧ P2 a0) (k : ∀ a0, P0 a0 → P1 a0 → P2 a0 → G) : G := h.elim fun x0 h => h.elim fun x1 h => h.elim fun x2 h => k x0 x1 x2 h
theorem Zqd {α0 : Sort _} {α1 : Sort _} {P0 : α0 → Prop} {P1 : α0 → α1 → Prop} {G : Prop} (h : ∃ a0, P0 a0 ∧ (∃ a1, P1 a0 a1)) (k : ∀ a0, P0 a0 → (∀ a1, P1 a0 a1 → G)) : G := h.elim fun x0 h => h.elim fun x1 h => h.elim fun x2 h => k x0 x1 x2 h
theorem Z9 {α0 : Sort _} {α1 : Sort _} {P0 P1 : α0 → α1 → Prop} {G : Prop} (h : ∃ a0, ∃ a1, P0 a0 a1 ∧ P1 a0 a1) (k : ∀ a0, ∀ a1, P0 a0 a1 → P1 a0 a1 → G) : G := h.elim fun x0 h => h.elim fun x1 h => h.elim fun x2 h => k x0 x1 x2 h
theorem Zrd {α0 : Sort _} {α1 : Sort _} {α2 : Sort _} {P0 : α0 → α1 → α2 → Prop} {G : Prop} (h : ∃ a0, ∃ a1, ∃ a2, P0 a0 a1 a2) (k : ∀ a0, ∀ a1, ∀ a2, P0 a0 a1 a2 → G) : G := h.elim fun x0 h => h.elim fun x1 h => h.elim fun x2 h => k x0 x1 x2 h
theorem Z6 {P0 P1 P2 P3 P4 : Prop} {G : Prop} (h : P0 ∧ P1 ∧ P2 ∧ P3 ∧ P4) (k : P0 → P1 → P2 → P3 → P4 → G) : G := h.elim fun x0 h => h.elim fun x1 h => h.elim fun x2 h => h.elim fun x3 h => k x0 x1 x2 x3 h
theorem Zcs {α0 : Sort _} {α1 : Sort _} {P0 : Prop} {P1 P2 : α0 → α1 → Prop} {G : Prop} (h : P0 ∧ (∃ a0, ∃ a1, P1 a0 a1 ∧ P2 a0 a1)) (k : P0 → (∀ a0, ∀ a1, P1 a0 a1 → P2 a0 a1 → G)) : G := h.elim fun x0 h => h.elim fun x1 h => h.elim fun x2 h => h.elim fun x3 h => k x0 x1 x2 x3 h
theorem Zof {α0 : Sort _} {α1 : Sort _} {P0 P1 : α0 → Prop} {P2 : α0 → α1 → Prop} {G : Prop} (h : ∃ a0, P0 a0 ∧ P1 a0 ∧ (∃ a1, P2 a0 a1)) (k : ∀ a0, P0 a0 → P1 a0 → (∀ a1, P2 a0 a1 → G)) : G := h.elim fun x0 h => h.elim fun x1 h => h.elim fun x2 h => h.elim fun x3 h => k x0 x1 x2 x3 h
theorem Zch {α0 : Sort _} {α1 : Sort _} {P0 P1 P2 : α0 → α1 → Prop} {G : Prop} (h : ∃ a0, ∃ a1, P0 a0 a1 ∧ P1 a0 a1 ∧ P2 a0 a1) (k : ∀ a0, ∀ a1, P0 a0 a1 → P1 a0 a1 → P2 a0 a1 → G) : G := h.elim fun x0 h => h.elim fun x1 h => h.elim fun x2 h => h.elim fun x3 h => k x0 x1 x2 x3 h
theorem Zax {α0 : Sort _} {α1 : Sort _} {α2 : Sort _} {P0 P1 : α0 → α1 → α2 → Prop} {G : Prop} (h : ∃ a0, ∃ a1, ∃ a2, P0 a0 a1 a2 ∧ P1 a0 a1 a2) (k : ∀ a0, ∀ a1, ∀ a2, P0 a0 a1 a2 → P1 a0 a1 a2 → G) : G := h.elim fun x0 h => h.elim fun x1 h => h.elim fun x2 h => h.elim fun x3 h => k x0 x1 x2 x3 h
theorem Zq2 {α0 : Sort _} {α1 : Sort _} {α2 : Sort _} {α3 : Sort _} {P0 : α0 → α1 → α2 → α3 → Prop} {G : Prop} (h : ∃ a0, ∃ a1, ∃ a2, ∃ a3, P0 a0 a1 a2 a3) (k : ∀ a0, ∀ a1, ∀ a2, ∀ a3, P0 a0 a1 a2 a3 → G) : G := h.elim fun x0 h => h.elim fun x1 h => h.elim fun x2 h => h.elim fun x3 h => k x0 x1 x2 x3 h
theorem Zd3 {P0 P1 P2 P3 P4 P5 : Prop} {G : Prop} (h : P0 ∧ P1 ∧ P2 ∧ P3 ∧ P4 ∧ P5) (k : P0 → P1 → P2 → P3 → P4 → P5 → G) : G := h.elim fun x0 h => h.elim fun x1 h => h.elim fun x2 h => h.elim fun x3 h => h.elim fun x4 h => k x0 x1 x2 x3 x4 h
theorem Zic {α0 : Sort _} {α1 : Sort _} {P0 P1 P2 P3 : α0 → α1 → Prop} {G : Prop} (h : ∃ a0, ∃ a1, P0 a0 a1 ∧ P1 a0 a1 ∧ P2 a0 a1 ∧ P3 a0 a1) (k : ∀ a0, ∀ a1, P0 a0 a1 → P1 a0 a1 → P2 a0 a1 → P3 a0 a1 → G) : G := h.elim fun x0 h => h.elim fun x1 h => h.elim fun x2 h => h.elim fun x3 h => h.elim fun x4 h => k x0 x1 x2 x3 x4 h
theorem Zlm {α0 : Sort _} {α1 : Sort _} {α2 : Sort _} {P0 P1 P2 : α0 → α1 → α2 → Prop} {G : Prop} (h : ∃ a0, ∃ a1, ∃ a2, P0 a0 a1 a2 ∧ P1 a0 a1 a2 ∧ P2 a0 a1 a2) (k : ∀ a0, ∀ a1, ∀ a2, P0 a0 a1 a2 → P1 a0 a1 a2 → P2 a0 a1 a2 → G) : G := h.elim fun x0 h => h.elim fun x1 h => h.elim fun x2 h => h.elim fun x3 h => h.elim fun x4 h => k x0 x1 x2 x3 x4 h
theorem Za4 {α0 : Sort _} {α1 : Sort _} {α2 : Sort _} {α3 : Sort _} {P0 P1 : α0 → α1 → α2 → α3 → Prop} {G : Prop} (h : ∃ a0, ∃ a1, ∃ a2, ∃ a3, P0 a0 a1 a2 a3 ∧ P1 a0 a1 a2 a3) (k : ∀ a0, ∀ a1, ∀ a2, ∀ a3, P0 a0 a1 a2 a3 → P1 a0 a1 a2 a3 → G) : G := h.elim fun x0 h => h.elim fun x1 h => h.elim fun x2 h => h.elim fun x3 h => h.elim fun x4 h => k x0 x1 x2 x3 x4 h
theorem Znk {P0 P1 P2 P3 P4 P5 P6 : Prop} {G : Prop} (h : P0 ∧ P1 ∧ P2 ∧ P3 ∧ P4 ∧ P5 ∧ P6) (k : P0 → P1 → P2 → P3 → P4 → P5 → P6 → G) : G := h.elim fun x0 h => h.elim fun x1 h => h.elim fun x2 h => h.elim fun x3 h => h.elim fun x4 h => h.elim fun x5 h => k x0 x1 x2 x3 x4 x5 h
theorem Zbx {α0 : Sort _} {α1 : Sort _} {α2 : Sort _} {P0 P1 P2 P3 : α0 → α1 → α2 → Prop} {G : Prop} (h : ∃ a0, ∃ a1, ∃ a2, P0 a0 a1 a2 ∧ P1 a0 a1 a2 ∧ P2 a0 a1 a2 ∧ P3 a0 a1 a2) (k : ∀ a0, ∀ a1, ∀ a2, P0 a0 a1 a2 → P1 a0 a1 a2 → P2 a0 a1 a2 → P3 a0 a1 a2 → G) : G := h.elim fun x0 h => h.elim fun x1 h => h.elim fun x2 h => h.elim fun x3 h => h.elim fun x4 h => h.elim fun x5 h => k x0 x1 x2 x3 x4 x5 h
theorem Zmw {P0 P1 P2 P3 P4 P5 P6 P7 : Prop} {G : Prop} (h : P0 ∧ P1 ∧ P2 ∧ P3 ∧ P4 ∧ P5 ∧ P6 ∧ P7) (k : P0 → P1 → P2 → P3 → P4 → P5 → P6 → P7 → G) : G := h.elim fun x0 h => h.elim fun x1 h => h.elim fun x2 h => h.elim fun x3 h => h.elim fun x4 h => h.elim fun x5 h => h.elim fun x6 h => k x0 x1 x2 x3 x4 x5 x6 h
theorem Zhp {α0 : Sort _} {P0 P1 P2 P3 P4 P5 P6 : α0 → Prop} {G : Prop} (h : ∃ a0, P0 a0 ∧ P1 a0 ∧ P2 a0 ∧ P3 a0 ∧ P4 a0 ∧ P5 a0 ∧ P6 a0) (k : ∀ a0, P0 a0 → P1 a0 → P2 a0 → P3 a0 → P4 a0 → P5 a0 → P6 a0 → G) : G := h.elim fun x0 h => h.elim fun x1 h => h.elim fun x2 h => h.elim fun x3 h => h.elim fun x4 h => h.elim fun x5 h => h.elim fun x6 h => k x0 x1 x2 x3 x4 x5 x6 h
theorem Zmj {α0 : Sort _} {α1 : Sort _} {P0 P1 P2 P3 P4 P5 : α0 → α1 → Prop} {G : Prop} (h : ∃ a0, ∃ a1, P0 a0 a1 ∧ P1 a0 a1 ∧ P2 a0 a1 ∧ P3 a0 a1 ∧ P4 a0 a1 ∧ P5 a0 a1) (k : ∀ a0, ∀ a1, P0 a0 a1 → P1 a0 a1 → P2 a0 a1 → P3 a0 a1 → P4 a0 a1 → P5 a0 a1 → G) : G := h.elim fun x0 h => h.elim fun x1 h => h.elim fun x2 h => h.elim fun x3 h => h.elim fun x4 h => h.elim fun x5 h => h.elim fun x6 h => k x0 x1 x2 x3 x4 x5 x6 h
theorem Zlz {α0 : Sort _} {α1 : Sort _} {α2 : Sort _} {α3 : Sort _} {P0 P1 P2 P3 : α0 → α1 → α2 → α3 → Prop} {G : Prop} (h : ∃ a0, ∃ a1, ∃ a2, ∃ a3, P0 a0 a1 a2 a3 ∧ P1 a0 a1 a2 a3 ∧ P2 a0 a1 a2 a3 ∧ P3 a0 a1 a2 a3) (k : ∀ a0, ∀ a1, ∀ a2, ∀ a3, P0 a0 a1 a2 a3 → P1 a0 a1 a2 a3 → P2 a0 a1 a2 a3 → P3 a0 a1 a2 a3 → G) : G := h.elim fun x0 h => h.elim fun x1 h => h.elim fun x2 h => h.elim fun x3 h => h.elim fun x4 h => h.elim fun x5 h => h.elim fun x6 h => k x0 x1 x2 x3 x4 x5 x6 h
theorem Zca {P0 P1 P2 P3 P4 P5 P6 P7 P8 : Prop} {G : Prop} (h : P0 ∧ P1 ∧ P2 ∧ P3 ∧ P4 ∧ P5 ∧ P6 ∧ P7 ∧ P8) (k : P0 → P1 → P2 → P3 → P4 → P5 → P6 → P7 → P8 → G) : G := h.elim fun x0 h => h.elim fun x1 h => h.elim fun x2 h => h.elim fun x3 h => h.elim fun x4 h => h.elim fun x5 h => h.elim fun x6 h => h.elim fun x7 h => k x0 x1 x2 x3 x4 x5 x6 x7 h
theorem Zeh {α0 : Sort _} {α1 : Sort _} {P0 P1 P2 P3 P4 P5 P6 : α0 → α1 → Prop} {G : Prop} (h : ∃ a0, ∃ a1, P0 a0 a1 ∧ P1 a0 a1 ∧ P2 a0 a1 ∧ P3 a0 a1 ∧ P4 a0 a1 ∧ P5 a0 a1 ∧ P6 a0 a1) (k : ∀ a0, ∀ a1, P0 a0 a1 → P1 a0 a1 → P2 a0 a1 → P3 a0 a1 → P4 a0 a1 → P5 a0 a1 → P6 a0 a1 → G) : G := h.elim fun x0 h => h.elim fun x1 h => h.elim fun x2 h => h.elim fun x3 h => h.elim fun x4 h => h.elim fun x5 h => h.elim fun x6 h => h.elim fun x7 h => k x0 x1 x2 x3 x4 x5 x6 x7 h
theorem Zjp {P0 P1 P2 P3 P4 P5 P6 P7 P8 P9 : Prop} {G : Prop} (h : P0 ∧ P1 ∧ P2 ∧ P3 ∧ P4 ∧ P5 ∧ P6 ∧ P7 ∧ P8 ∧ P9) (k : P0 → P1 → P2 → P3 → P4 → P5 → P6 → P7 → P8 → P9 → G) : G := h.elim fun x0 h => h.elim fun x1 h => h.elim fun x2 h => h.elim fun x3 h => h.elim fun x4 h => h.elim fun x5 h => h.elim fun x6 h => h.elim fun x7 h => h.elim fun x8 h => k x0 x1 x2 x3 x4 x5 x6 x7 x8 h
theorem Zjs {α0 : Sort _} {α1 : Sort _} {α2 : Sort _} {α3 : Sort _} {α4 : Sort _} {α5 : Sort _} {P0 P1 P2 P3 : α0 → α1 → α2 → α3 → α4 → α5 → Prop} {G : Prop} (h : ∃ a0, ∃ a1, ∃ a2, ∃ a3, ∃ a4, ∃ a5, P0 a0 a1 a2 a3 a4 a5 ∧ P1 a0 a1 a2 a3 a4 a5 ∧ P2 a0 a1 a2 a3 a4 a5 ∧ P3 a0 a1 a2 a3 a4 a5) (k : ∀ a0, ∀ a1, ∀ a2, ∀ a3, ∀ a4, ∀ a5, P0 a0 a1 a2 a3 a4 a5 → P1 a0 a1 a2 a3 a4 a5 → P2 a0 a1 a2 a3 a4 a5 → P3 a0 a1 a2 a3 a4 a5 → G) : G := h.elim fun x0 h => h.elim fun x1 h => h.elim fun x2 h => h.elim fun x3 h => h.elim fun x4 h => h.elim fun x5 h => h.elim fun x6 h => h.elim fun x7 h => h.elim fun x8 h => k x0 x1 x2 x3 x4 x5 x6 x7 x8 h
theorem Zbv {α0 : Sort _} {α1 : Sort _} {α2 : Sort _} {α3 : Sort _} {α4 : Sort _} {α5 : Sort _} {α6 : Sort _} {α7 : Sort _} {P0 P1 : α0 → α1 → α2 → α3 → α4 → α5 → α6 → α7 → Prop} {G : Prop} (h : ∃ a0, ∃ a1, ∃ a2, ∃ a3, ∃ a4, ∃ a5, ∃ a6, ∃ a7, P0 a0 a1 a2 a3 a4 a5 a6 a7 ∧ P1 a0 a1 a2 a3 a4 a5 a6 a7) (k : ∀ a0, ∀ a1, ∀ a2, ∀ a3, ∀ a4, ∀ a5, ∀ a6, ∀ a7, P0 a0 a1 a2 a3 a4 a5 a6 a7 → P1 a0 a1 a2 a3 a4 a5 a6 a7 → G) : G := h.elim fun x0 h => h.elim fun x1 h => h.elim fun x2 h => h.elim fun x3 h => h.elim fun x4 h => h.elim fun x5 h => h.elim fun x6 h => h.elim fun x7 h => h.elim fun x8 h => k x0 x1 x2 x3 x4 x5 x6 x7 x8 h
theorem Zir {α0 : Sort _} {α1 : Sort _} {α2 : Sort _} {α3 : Sort _} {α4 : Sort _} {α5 : Sort _} {α6 : Sort _} {α7 : Sort _} {α8 : Sort _} {P0 P1 : α0 → α1 → α2 → α3 → α4 → α5 → α6 → α7 → α8 → Prop} {G : Prop} (h : ∃ a0, ∃ a1, ∃ a2, ∃ a3, ∃ a4, ∃ a5, ∃ a6, ∃ a7, ∃ a8, P0 a0 a1 a2 a3 a4 a5 a6 a7 a8 ∧ P1 a0 a1 a2 a3 a4 a5 a6 a7 a8) (k : ∀ a0, ∀ a1, ∀ a2, ∀ a3, ∀ a4, ∀ a5, ∀ a6, ∀ a7, ∀ a8, P0 a0 a1 a2 a3 a4 a5 a6 a7 a8 → P1 a0 a1 a2 a3 a4 a5 a6 a7 a8 → G) : G := h.elim fun x0 h => h.elim fun x1 h => h.elim fun x2 h => h.elim fun x3 h => h.elim fun x4 h => h.elim fun x5 h => h.elim fun x6 h => h.elim fun x7 h => h.elim fun x8 h => h.elim fun x9 h => k x0 x1 x2 x3 x4 x5 x6 x7 x8 x9 h
theorem Zhi {P0 P1 P2 P3 P4 P5 P6 P7 P8 P9 P10 P11 : Prop} {G : Prop} (h : P0 ∧ P1 ∧ P2 ∧ P3 ∧ P4 ∧ P5 ∧ P6 ∧ P7 ∧ P8 ∧ P9 ∧ P10 ∧ P11) (k : P0 → P1 → P2 → P3 → P4 → P5 → P6 → P7 → P8 → P9 → P10 → P11 → G) : G := h.elim fun x0 h => h.elim fun x1 h => h.elim fun x2 h => h.elim fun x3 h => h.elim fun x4 h => h.elim fun x5 h => h.elim fun x6 h => h.elim fun x7 h => h.elim fun x8 h => h.elim fun x9 h => h.elim fun x10 h => k x0 x1 x2 x3 x4 x5 x6 x7 x8 x9 x10 h
theorem Zdz {α0 : Sort _} {α1 : Sort _} {α2 : Sort _} {P0 P1 P2 P3 P4 P5 P6 P7 P8 P9 : α0 → α1 → α2 → Prop} {G : Prop} (h : ∃ a0, ∃ a1, ∃ a2, P0 a0 a1 a2 ∧ P1 a0 a1 a2 ∧ P2 a0 a1 a2 ∧ P3 a0 a1 a2 ∧ P4 a0 a1 a2 ∧ P5 a0 a1 a2 ∧ P6 a0 a1 a2 ∧ P7 a0 a1 a2 ∧ P8 a0 a1 a2 ∧ P9 a0 a1 a2) (k : ∀ a0, ∀ a1, ∀ a2, P0 a0 a1 a2 → P1 a0 a1 a2 → P2 a0 a1 a2 → P3 a0 a1 a2 → P4 a0 a1 a2 → P5 a0 a1 a2 → P6 a0 a1 a2 → P7 a0 a1 a2 → P8 a0 a1 a2 → P9 a0 a1 a2 → G) : G := h.elim fun x0 h => h.elim fun x1 h => h.elim fun x2 h => h.elim fun x3 h => h.elim fun x4 h => h.elim fun x5 h => h.elim fun x6 h => h.elim fun x7 h => h.elim fun x8 h => h.elim fun x9 h => h.elim fun x10 h => h.elim fun x11 h => k x0 x1 x2 x3 x4 x5 x6 x7 x8 x9 x10 x11 h
theorem Zee {P0 P1 P2 P3 P4 P5 P6 P7 P8 P9 P10 P11 P12 P13 P14 P15 P16 : Prop} {G : Prop} (h : P0 ∧ P1 ∧ P2 ∧ P3 ∧ P4 ∧ P5 ∧ P6 ∧ P7 ∧ P8 ∧ P9 ∧ P10 ∧ P11 ∧ P12 ∧ P13 ∧ P14 ∧ P15 ∧ P16) (k : P0 → P1 → P2 → P3 → P4 → P5 → P6 → P7 → P8 → P9 → P10 → P11 → P12 → P13 → P14 → P15 → P16 → G) : G := h.elim fun x0 h => h.elim fun x1 h => h.elim fun x2 h => h.elim fun x3 h => h.elim fun x4 h => h.elim fun x5 h => h.elim fun x6 h => h.elim fun x7 h => h.elim fun x8 h => h.elim fun x9 h => h.elim fun x10 h => h.elim fun x11 h => h.elim fun x12 h => h.elim fun x13 h => h.elim fun x14 h => h.elim fun x15 h => k x0 x1 x2 x3 x4 x5 x6 x7 x8 x9 x10 x11 x12 x13 x14 x15 h
theorem Zbu {α0 : Sort _} {α1 : Sort _} {α2 : Sort _} {α3 : Sort _} {α4 : Sort _} {α5 : Sort _} {α6 : Sort _} {α7 : Sort _} {α8 : Sort _} {α9 : Sort _} {P0 P1 P2 P3 P4 P5 P6 P7 P8 : α0 → α1 → α2 → α3 → α4 → α5 → α6 → α7 → α8 → α9 → Prop} {G : Prop} (h : ∃ a0, ∃ a1, ∃ a2, ∃ a3, ∃ a4, ∃ a5, ∃ a6, ∃ a7, ∃ a8, ∃ a9, P0 a0 a1 a2 a3 a4 a5 a6 a7 a8 a9 ∧ P1 a0 a1 a2 a3 a4 a5 a6 a7 a8 a9 ∧ P2 a0 a1 a2 a3 a4 a5 a6 a7 a8 a9 ∧ P3 a0 a1 a2 a3 a4 a5 a6 a7 a8 a9 ∧ P4 a0 a1 a2 a3 a4 a5 a6 a7 a8 a9 ∧ P5 a0 a1 a2 a3 a4 a5 a6 a7 a8 a9 ∧ P6 a0 a1 a2 a3 a4 a5 a6 a7 a8 a9 ∧ P7 a0 a1 a2 a3 a4 a5 a6 a7 a8 a9 ∧ P8 a0 a1 a2 a3 a4 a5 a6 a7 a8 a9) (k : ∀ a0, ∀ a1, ∀ a2, ∀ a3, ∀ a4, ∀ a5, ∀ a6, ∀ a7, ∀ a8, ∀ a9, P0 a0 a1 a2 a3 a4 a5 a6 a7 a8 a9 → P1 a0 a1 a2 a3 a4 a5 a6 a7 a8 a9 → P2 a0 a1 a2 a3 a4 a5 a6 a7 a8 a9 → P3 a0 a1 a2 a3 a4 a5 a6 a7 a8 a9 → P4 a0 a1 a2 a3 a4 a5 a6 a7 a8 a9 → P5 a0 a1 a2 a3 a4 a5 a6 a7 a8 a9 → P6 a0 a1 a2 a3 a4 a5 a6 a7 a8 a9 → P7 a0 a1 a2 a3 a4 a5 a6 a7 a8 a9 → P8 a0 a1 a2 a3 a4 a5 a6 a7 a8 a9 → G) : G := h.elim fun x0 h => h.elim fun x1 h => h.elim fun x2 h => h.elim fun x3 h => h.elim fun x4 h => h.elim fun x5 h => h.elim fun x6 h => h.elim fun x7 h => h.elim fun x8 h => h.elim fun x9 h => h.elim fun x10 h => h.elim fun x11 h => h.elim fun x12 h => h.elim fun x13 h => h.elim fun x14 h => h.elim fun x15 h => h.elim fun x16 h => h.elim fun x17 h => k x0 x1 x2 x3 x4 x5 x6 x7 x8 x9 x10 x11 x12 x13 x14 x15 x16 x17 h
theorem Zbf {α0 : Sort _} {α1 : Sort _} {α2 : Sort _} {α3 : Sort _} {α4 : Sort _} {α5 : Sort _} {α6 : Sort _} {α7 : Sort _} {α8 : Sort _} {α9 : Sort _} {P0 P1 P2 P3 P4 P5 P6 P7 P8 P9 P10 : α0 → α1 → α2 → α3 → α4 → α5 → α6 → α7 → α8 → α9 → Prop} {G : Prop} (h : ∃ a0, ∃ a1, ∃ a2, ∃ a3, ∃ a4, ∃ a5, ∃ a6, ∃ a7, ∃ a8, ∃ a9, P0 a0 a1 a2 a3 a4 a5 a6 a7 a8 a9 ∧ P1 a0 a1 a2 a3 a4 a5 a6 a7 a8 a9 ∧ P2 a0 a1 a2 a3 a4 a5 a6 a7 a8 a9 ∧ P3 a0 a1 a2 a3 a4 a5 a6 a7 a8 a9 ∧ P4 a0 a1 a2 a3 a4 a5 a6 a7 a8 a9 ∧ P5 a0 a1 a2 a3 a4 a5 a6 a7 a8 a9 ∧ P6 a0 a1 a2 a3 a4 a5 a6 a7 a8 a9 ∧ P7 a0 a1 a2 a3 a4 a5 a6 a7 a8 a9 ∧ P8 a0 a1 a2 a3 a4 a5 a6 a7 a8 a9 ∧ P9 a0 a1 a2 a3 a4 a5 a6 a7 a8 a9 ∧ P10 a0 a1 a2 a3 a4 a5 a6 a7 a8 a9) (k : ∀ a0, ∀ a1, ∀ a2, ∀ a3, ∀ a4, ∀ a5, ∀ a6, ∀ a7, ∀ a8, ∀ a9, P0 a0 a1 a2 a3 a4 a5 a6 a7 a8 a9 → P1 a0 a1 a2 a3 a4 a5 a6 a7 a8 a9 → P2 a0 a1 a2 a3 a4 a5 a6 a7 a8 a9 → P3 a0 a1 a2 a3 a4 a5 a6 a7 a8 a9 → P4 a0 a1 a2 a3 a4 a5 a6 a7 a8 a9 → P5 a0 a1 a2 a3 a4 a5 a6 a7 a8 a9 → P6 a0 a1 a2 a3 a4 a5 a6 a7 a8 a9 → P7 a0 a1 a2 a3 a4 a5 a6 a7 a8 a9 → P8 a0 a1 a2 a3 a4 a5 a6 a7 a8 a9 → P9 a0 a1 a2 a3 a4 a5 a6 a7 a8 a9 → P10 a0 a1 a2 a3 a4 a5 a6 a7 a8 a9 → G) : G := h.elim fun x0 h => h.elim fun x1 h => h.elim fun x2 h => h.elim fun x3 h => h.elim fun x4 h => h.elim fun x5 h => h.elim fun x6 h => h.elim fun x7 h => h.elim fun x8 h => h.elim fun x9 h => h.elim fun x10 h => h.elim fun x11 h => h.elim fun x12 h => h.elim fun x13 h => h.elim fun x14 h => h.elim fun x15 h => h.elim fun x16 h => h.elim fun x17 h => h.elim fun x18 h => h.elim fun x19 h => k x0 x1 x2 x3 x4 x5 x6 x7 x8 x9 x10 x11 x12 x13 x14 x15 x16 x17 x18 x19 h
theorem x_A {P0 P1 : Prop} {G : Prop} (h : P0 ∧ P1) (k : P0 → P1 → G) : G := h.elim k
universe u
theorem M0 {α : Type u} {a : α} {l : List α} : a ∈ a :: l := .head _
theorem M1 {α : Type u} {a b : α} {l : List α} : a ∈ b :: a :: l := .tail _ (.head _)
theorem M2 {α : Type u} {a b c : α} {l : List α} : a ∈ b :: c :: a :: l := .tail _ (.tail _ (.head _))
theorem M3 {α : Type u} {a b c d : α} {l : List α} : a ∈ b :: c :: d :: a :: l := .tail _ (.tail _ (.tail _ (.head _)))
theorem M4 {α : Type u} {a b c d e : α} {l : List α} : a ∈ b :: c :: d :: e :: a :: l := .tail _ (.tail _ (.tail _ (.tail _ (.head _))))
theorem M5 {α : Type u} {a b c d e f : α} {l : List α} : a ∈ b :: c :: d :: e :: f :: a :: l := .tail _ (.tail _ (.tail _ (.tail _ (.tail _ (.head _)))))
theorem M6 {α : Type u} {a b c d e f g : α} {l : List α} : a ∈ b :: c :: d :: e :: f :: g :: a :: l := .tail _ (.tail _ (.tail _ (.tail _ (.tail _ (.tail _ (.head _))))))
theorem Mn {α : Type u} {a b c d e : α} {l : List α} (h : a ∈ l) : a ∈ b :: c :: d :: e :: l := .tail _ (.tail _ (.tail _ (.tail _ h)))
theorem pE2 {α0 α1 : Type} {P : α0 × α1 → Prop} (h : ∀ a0 a1, P (a0, a1)) : ∀ p, P p := fun p => h p.1 p.2
theorem pE3 {α0 α1 α2 : Type} {P : α0 × α1 × α2 → Prop} (h : ∀ a0 a1 a2, P (a0, a1, a2)) : ∀ p, P p := fun p => h p.1 p.2.1 p.2.2
theorem pE4 {α0 α1 α2 α3 : Type} {P : α0 × α1 × α2 × α3 → Prop} (h : ∀ a0 a1 a2 a3, P (a0, a1, a2, a3)) : ∀ p, P p := fun p => h p.1 p.2.1 p.2.2.1 p.2.2.2
theorem pE5 {α0 α1 α2 α3 α4 : Type} {P : α0 × α1 × α2 × α3 × α4 → Prop} (h : ∀ a0 a1 a2 a3 a4, P (a0, a1, a2, a3, a4)) : ∀ p, P p := fun p => h p.1 p.2.1 p.2.2.1 p.2.2.2.1 p.2.2.2.2
theorem pE7 {α0 α1 α2 α3 α4 α5 α6 : Type} {P : α0 × α1 × α2 × α3 × α4 × α5 × α6 → Prop} (h : ∀ a0 a1 a2 a3 a4 a5 a6, P (a0, a1, a2, a3, a4, a5, a6)) : ∀ p, P p := fun p => h p.1 p.2.1 p.2.2.1 p.2.2.2.1 p.2.2.2.2.1 p.2.2.2.2.2.1 p.2.2.2.2.2.2
noncomputable def Zsl : List Stmt := PySem.Challenge.pw_zo0040_01.main.body
noncomputable def top (i : Nat) : Stmt := Zsl.getD i (.Pass default)
noncomputable def Zl : Stmt → List Stmt
 | .FunctionDef _ _ b _ _ _ _ _ _ _ => b
 | .ClassDef _ _ _ b _ _ _ _ _ _ _ => b
 | _ => []
noncomputable def Zaj : Stmt → Arguments
 | .FunctionDef _ a _ _ _ _ _ _ _ _ => a
 | _ => { posonlyargs := [], args := [], vararg := none, kwonlyargs := [], kw_defaults := [], kwarg := none, defaults := [] }
noncomputable def Zb : Stmt → Scope
 | .FunctionDef _ _ _ _ _ _ sc _ _ _ => sc
 | _ => default
noncomputable def Z8 (i j : Nat) : Stmt := (Zl (top i)).getD j (.Pass default)
@[reducible] noncomputable def Zi1 : List (String × Value) := [("_prepare_tag", .ref 28), ("_SelectorContext", .ref 45), ("_DIV_LIMIT", .int 4000 243), ("_div2n1n", .ref 56), ("_int2digits", .ref 70), ("_digits2int", .ref 77), ("_divmod_pos", .ref 84), ("int_divmod", .ref 91),
 ("NL", .str (ofString "\n") 325), ("EMPTYSTRING", .str (ofString "") 327), ("_ValueFormatter", .ref 164), ("_Accumulator", .ref 248), ("Int2AP", .ref 259), ("_law_cards", .ref 264), ("_law_name", .ref 269), ("_law_text", .ref 276), ("_law_lines", .ref 281),
 ("_law_thing", .ref 288), ("_law_picks", .ref 293), ("_law_sound", .ref 298), ("_law_sign", .ref 305), ("_law_symbol", .ref 310)]
@[reducible] noncomputable def Zhq : List (String × Value) := [("len", .builtin "len"), ("range", .type "range"), ("isinstance", .builtin "isinstance"), ("str", .type "str"), ("slice", .type "slice"), ("int", .type "int"), ("abs", .builtin "abs"), ("divmod", .builtin "divmod"), ("chr", .builtin "chr"),
 ("sum", .builtin "sum"), ("sorted", .builtin "sorted"), ("set", .type "set"), ("list", .type "list"), ("max", .builtin "max"), ("reversed", .type "reversed"), ("super", .type "super")]
noncomputable abbrev ent (w : World) (n : String) (t : Tok) (v : Value) : DictEntry := ⟨PyData.keyHash w.params (ofString n), .str (ofString n) t, v⟩
noncomputable abbrev Zeo (es : List DictEntry) (n : Nat) : Obj := { cls := .type "dict", data := .dict es.toArray n }
noncomputable def Zew (K : Frag) (C : Addr) : Bool := match K.lookup C with
 | some ⟨_, _, .cls cd, sl⟩ => !cd.abstract && !cd.hasDel && (sl.toList[4]?).join == some (.builtin "list.__new__") && !cd.mro.isEmpty && cd.mro.contains (.ref C) && cd.mro.contains (.type "list") &&
   specialIn K (.ref C) "__call__" == some (some (.builtin "type.__call__")) && instIn K (.ref C) (.type "type") == some true
 | _ => false
noncomputable def Zhv : Value → Str × Tok × Int × Bool
 | .str s t => (s, t, 0, false)
 | .int i t => (ofString "", t, i, false)
 | .bool b => (ofString "", 0, 0, b)
 | _ => (ofString "", 0, 0, false)
noncomputable def Zbe : Data → Nat × FuncData × Array Value × Option Value × Nat
 | .func f => (1, f, #[], none, 0)
 | .fields v => (2, default, v, none, 0)
 | .cell v => (3, default, #[], v, 0)
 | .seq v n => (4, default, v, none, n)
 | _ => (0, default, #[], none, 0)
noncomputable def Ziv (vs : Array Value) (i : Nat) : Str × Tok := ((Zhv (vs[i]?.getD .none)).1, (Zhv (vs[i]?.getD .none)).2.1)
@[reducible] noncomputable def Zdy : List (String × Addr) := [("push", 192), ("pop_from", 200), ("pop", 208), ("reset", 230), ("is_onlyws", 237), ("part_count", 245), ("__len__", 215), ("__str__", 222), ("__init__", 185)]
noncomputable abbrev Zay (w : World) (t t' : Tok) : Obj := Zeo [ent w "_initial_size" t (.int 0 t')] 1
@[reducible] noncomputable def Ze9 : List (String × Addr) := [("_str", 112), ("newline", 126), ("add_transition", 133), ("_append_chunk", 161)]
@[reducible] noncomputable def Zdl : List String := ["_maxlen", "_continuation_ws", "_continuation_ws_len", "_splitchars", "_lines", "_current_line"]
noncomputable def Zb2 (K : Frag) : Frag := K.filter fun p => !(Nat.beq p.1 23 || Nat.beq p.1 65 || Nat.beq p.1 72 || Nat.beq p.1 210 || Nat.beq p.1 217)
noncomputable def Zhn (vs : Array Value) (i : Nat) : Int × Tok := ((Zhv (vs[i]?.getD .none)).2.2.1, (Zhv (vs[i]?.getD .none)).2.1)
noncomputable def Zn3 (vs : Array Value) (i : Nat) : Bool := (Zhv (vs[i]?.getD .none)).2.2.2
noncomputable def Zai (h : Heap) : Frag := (List.range 316).filterMap fun a => (h.get? a).map fun o => (a, o)
structure FnE where
 f : Addr
 name : Str
 qual : Str
 st : Stmt
 cl : List (Str × Addr)
 dV : Value
 c : Addr
noncomputable def Za9 : List FnE := [⟨105, ofString "__init__", ofString "_ValueFormatter.__init__", Z8 15 0, [], .none, 104⟩, ⟨112, ofString "_str", ofString "_ValueFormatter._str", Z8 15 1, [], .none, 111⟩, ⟨126, ofString "newline", ofString "_ValueFormatter.newline", Z8 15 3, [], .none, 125⟩,
 ⟨133, ofString "add_transition", ofString "_ValueFormatter.add_transition", Z8 15 4, [], .none, 132⟩, ⟨161, ofString "_append_chunk", ofString "_ValueFormatter._append_chunk", Z8 15 8, [], .none, 160⟩,
 ⟨185, ofString "__init__", ofString "_Accumulator.__init__", Z8 16 0, [(ofString "__class__", 172)], .ref 177, 184⟩, ⟨192, ofString "push", ofString "_Accumulator.push", Z8 16 1, [], .none, 191⟩, ⟨200, ofString "pop_from", ofString "_Accumulator.pop_from", Z8 16 2, [], .ref 193, 199⟩,
 ⟨208, ofString "pop", ofString "_Accumulator.pop", Z8 16 3, [(ofString "__class__", 172)], .none, 207⟩, ⟨215, ofString "__len__", ofString "_Accumulator.__len__", Z8 16 4, [], .none, 214⟩, ⟨222, ofString "__str__", ofString "_Accumulator.__str__", Z8 16 5, [], .none, 221⟩,
 ⟨230, ofString "reset", ofString "_Accumulator.reset", Z8 16 6, [], .ref 223, 229⟩, ⟨237, ofString "is_onlyws", ofString "_Accumulator.is_onlyws", Z8 16 7, [], .none, 236⟩, ⟨245, ofString "part_count", ofString "_Accumulator.part_count", Z8 16 8, [(ofString "__class__", 172)], .none, 244⟩,
 ⟨259, ofString "Int2AP", ofString "Int2AP", top 18, [], .none, 258⟩, ⟨264, ofString "_law_cards", ofString "_law_cards", top 20, [], .none, 263⟩, ⟨269, ofString "_law_name", ofString "_law_name", top 21, [], .none, 268⟩, ⟨276, ofString "_law_text", ofString "_law_text", top 22, [], .none, 275⟩,
 ⟨281, ofString "_law_lines", ofString "_law_lines", top 23, [], .none, 280⟩, ⟨288, ofString "_law_thing", ofString "_law_thing", top 24, [], .none, 287⟩, ⟨293, ofString "_law_picks", ofString "_law_picks", top 25, [], .none, 292⟩, ⟨298, ofString "_law_sound", ofString "_law_sound", top 26, [], .none, 297⟩,
 ⟨305, ofString "_law_sign", ofString "_law_sign", top 27, [], .none, 304⟩, ⟨310, ofString "_law_symbol", ofString "_law_symbol", top 28, [], .none, 309⟩, ⟨315, ofString "law", ofString "law", top 29, [], .none, 314⟩, ⟨28, ofString "_prepare_tag", ofString "_prepare_tag", top 2, [], .none, 27⟩,
 ⟨42, ofString "__init__", ofString "_SelectorContext.__init__", Z8 3 1, [], .none, 41⟩, ⟨56, ofString "_div2n1n", ofString "_div2n1n", top 6, [], .none, 55⟩, ⟨70, ofString "_int2digits", ofString "_int2digits", top 8, [], .none, 69⟩, ⟨77, ofString "_digits2int", ofString "_digits2int", top 9, [], .none, 76⟩,
 ⟨84, ofString "_divmod_pos", ofString "_divmod_pos", top 10, [], .none, 83⟩, ⟨91, ofString "int_divmod", ofString "int_divmod", top 11, [], .none, 90⟩]
noncomputable def er (K : Frag) (a : Addr) : Option FuncData := (K.lookup a).bind fun o => (cond ((Zbe o.data).1 == 1) (some (Zbe o.data).2.1) none).map fun f => { f with kwdefaults := .none, doc := .none, pyModule := .none, annotations := none, closureTuple := .none }
noncomputable def erE (e : FnE) : Option FuncData := some (fnX e.name e.qual (Zaj e.st) (Zl e.st) (Zb e.st) e.cl e.dV .none .none .none none (.ref e.c) .none)
noncomputable def Znw (K : Frag) (C : Addr) (mro : List Value) : Bool := ((clsIn K C).elim false fun cd => cd.hasDict && cd.mro == mro) && (findIn K (.ref C) "__setattr__" == some (some (.builtin "object.__setattr__"))) && (findIn K (.ref C) "__getattr__" == some none)
noncomputable def Zha (K : Frag) (C : Addr) : ClassData := (clsIn K C).getD default
noncomputable def Zql (vs : Array Value) (i : Nat) : Bool := vs[i]? == some (.str (Ziv vs i).1 (Ziv vs i).2)
noncomputable def Zqt (vs : Array Value) (i : Nat) : Bool := vs[i]? == some (.int (Zhn vs i).1 (Zhn vs i).2)
noncomputable def Zp8 (vs : Array Value) (i : Nat) : Bool := vs[i]? == some (.bool (Zn3 vs i))
noncomputable def Znx (o : Obj) (f : Array Value → Bool) : Bool := (Zbe o.data).1 == 2 && f (Zbe o.data).2.2.1
noncomputable def Zkf (K : Frag) (c P : Addr) : Bool := ((K.lookup c).elim false fun o => o.cls == .type "code" && Znx o fun vs => vs[11]? == some (.ref P) && (Zql vs 18 && (Zqt vs 7 && (Zp8 vs 9 && Zqt vs 10)))) &&
 ((K.lookup P).elim false fun o => o.cls == .none && (o.dict == none && (o.slots == #[] && Znx o fun vs => vs == #[])))
noncomputable def Zll (prog : Program) (K : Frag) (c : Addr) : Bool := (K.lookup c).elim false fun o => Znx o fun vs => Zql vs 2 && (prog.main.file : Str) == (Ziv vs 2).1
noncomputable def Zqe (K : Frag) : Bool := (K.lookup 172).elim false fun o => (Zbe o.data).1 == 3 && (Zbe o.data).2.2.2.1 == some (.ref 248)
noncomputable def Zlv (K : Frag) (a : Addr) (z : Bool) : Bool := (K.lookup a).elim false fun o => (Zbe o.data).1 == 4 && (Zbe o.data).2.2.1 == cond z #[.int 0 (Zhv ((Zbe o.data).2.2.1[0]?.getD .none)).2.1] #[.none]
noncomputable def fB1 (K : Frag) : Bool := Znw K 248 [.ref 248, .type "list", .type "object"] && ((findIn K (.ref 248) "__getattribute__" == some (some (.builtin "list.__getattribute__"))) && ((mroIn K 248 (.type "list") == some true) && ((mroIn K 248 (.type "collections.deque") == some false) &&
 ((findIn K (.ref 248) "__getitem__" == some (some (.builtin "list.__getitem__"))) && ((findIn K (.ref 248) "__setitem__" == some (some (.builtin "list.__setitem__"))) && (Zew K 248 && ((findIn K (.ref 248) "__init__" == some (some (.ref 185))) && (Zqe K && ((mroIn K 248 (.ref 248) == some true) &&
 ((mroIn K 248 (.type "module") == some false) && (((Zha K 248).qualname.toString == "_Accumulator") && ((typeIn K (.ref 248) == some (.type "type")) && ((nsIn K cStatics "thirdparty.any" == some none) && ((ks_superIn K 248 248 "__init__" == some (some (.builtin "list.__init__"))) &&
 ((ks_superIn K 248 248 "__len__" == some (some (.builtin "list.__len__"))) && (ks_superIn K 248 248 "pop" == some (some (.builtin "list.pop"))))))))))))))))))
noncomputable def fB2 (prog : Program) (K : Frag) : Bool := Zdy.all (fun q => findIn K (.ref 248) (ofString q.1) == some (some (.ref q.2)) && typeIn K (.ref q.2) == some (.type "function") && keepIn K (.ref q.2)) && ((findIn K (.ref 248) (ofString "append") == some (some (.builtin "list.append"))) && ((findIn K (.ref 248) (ofString "__iter__") == some (some (.builtin "list.__iter__"))) &&
 ((findIn K (.ref 248) (ofString "__bool__") == some none) && ((takerIn K 248 (ofString "_initial_size") == some none) && ((findIn K (.ref 248) (ofString "_initial_size") == some none) && (keepIn K (.ref 248) && (Zll prog K 184 && (Zll prog K 207 && (Zll prog K 244 && (Zlv K 177 true && (Zlv K 193 true && Zlv K 223 false)))))))))))
noncomputable def fB3 (K : Frag) : Bool := Znw K 164 [.ref 164, .type "object"] && ((findIn K (.ref 164) "__getattribute__" == some (some (.builtin "object.__getattribute__"))) && (makesIn K 164 && ((findIn K (.ref 164) "__init__" == some (some (.ref 105))) && ((typeIn K (.ref 105) == some (.type "function")) && (keepIn K (.ref 164) &&
 (Ze9.all (fun q => findIn K (.ref 164) (ofString q.1) == some (some (.ref q.2)) && typeIn K (.ref q.2) == some (.type "function") && keepIn K (.ref q.2)) && Zdl.all (fun q => takerIn K 164 (ofString q) == some none && findIn K (.ref 164) (ofString q) == some none)))))))
noncomputable def fB4 (K : Frag) : Bool := Znw K 45 [.ref 45, .type "object"] && ((findIn K (.ref 45) "__getattribute__" == some (some (.builtin "object.__getattribute__"))) && (makesIn K 45 && ((findIn K (.ref 45) "__init__" == some (some (.ref 42))) && ((typeIn K (.ref 42) == some (.type "function")) && (keepIn K (.ref 45) &&
 ((takerIn K 45 (ofString "root") == some none) && ((takerIn K 45 (ofString "tag") == some none) && ((findIn K (.ref 45) (ofString "root") == some none) && (findIn K (.ref 45) (ofString "tag") == some none)))))))))
noncomputable def fB5 (K : Frag) : Bool := Zi1.all (fun q => nsIn K mainGlobals (ofString q.1) == some (some q.2)) && (Zhq.all (fun q => nsIn K mainGlobals (ofString q.1) == some none) && ((nsIn K mainGlobals "__builtins__" == some (some (.ref 4))) && ((nsIn K mainGlobals (ofString "law") == some (some (.ref 315))) && Za9.all (fun e => codeIn K (.ref e.c) e.qual))))
noncomputable def fB6 (K : Frag) : Bool := Zkf K 27 23 && (Zkf K 69 65 && (Zkf K 76 72 && (Zkf K 214 210 && Zkf K 221 217)))
noncomputable abbrev Zmh : Type := Bool × List (Option FuncData) × (World → Tok → Tok → Option PySem.Builtin.ObjectAttr.Found)
noncomputable def Zse (prog : Program) (h : Heap) (K : Frag) : Zmh :=
 (Nat.beq h.objs.size 316 && (fB6 K && (fB1 (Zb2 K) && (fB2 prog (Zb2 K) && (fB3 (Zb2 K) && (fB4 (Zb2 K) && fB5 (Zb2 K)))))), Za9.map (fun e => er (Zb2 K) e.f), fun w t t' => findObj (Zb2 K) 248 (some (Zay w t t')) (ofString "push"))
noncomputable def Zq5 (s : Shared) : Zmh := Zse PySem.Challenge.pw_zo0040_01 s.heap (Zai s.heap)
noncomputable def Zrw : Zmh := (true, Za9.map erE, fun _ _ _ => some (.bind (.builtin "function.__get__") (.ref 192)))
open PySem.W.X in
noncomputable abbrev qV : Program := view PySem.Challenge.pw_zo0040_01 [0, 2, 3, 5, 6, 7, 8, 9, 10, 11, 13, 14, 15, 16, 18, 20, 21, 22, 23, 24, 25, 26, 27, 28, 29]
open PySem.W.X in
noncomputable abbrev xtV : Shared → Bool := fun s => xlAt qV [] s && recOk PySem.Challenge.rw_zo0040_01.row.records s
open PySem.W.X in
theorem saidM : PySem.Challenge.rw_zo0040_01.wellSaid = true := (congrFun PySem.W.Fast.te9446332074065402090 _).trans (by kernel_rfl)
open PySem.W.X in
theorem leftM : LeftO PySem.Challenge.rw_zo0040_01.row.prog qV [ofString "_SelectorContext", ofString "_Accumulator"] xtV Zq5 (fun _ => Zrw) 3906 := fun w => by kernel_rfl
@[reducible] def tN (k : Lean.Name) (a : Array Lean.Syntax) : Lean.Syntax := .node .none k a
@[reducible] def tA (x : String) : Lean.Syntax := .atom .none x
@[reducible] def tT (a : Array Lean.Syntax) : Lean.Syntax := tN `Lean.Parser.Tactic.tacticSeq #[tN `Lean.Parser.Tactic.tacticSeq1Indented #[tN `null a]]
@[reducible] def tR : Lean.Syntax := tN `Lean.Parser.Tactic.tacticRfl #[tA "rfl"]
@[reducible] def tH : Lean.Syntax := tN `Lean.Parser.Term.hole #[tA "_"]
@[reducible] def tI (a : Array Lean.Syntax) : Lean.Syntax := tT #[tN `Lean.Parser.Tactic.intro #[tA "intro", tN `null a], tA ";", tR]
@[reducible] def aR : Lean.Syntax := tT #[tR]
@[reducible] def aK : Lean.Syntax := tT #[tN `tacticKernel_rfl #[tA "kernel_rfl"]]
@[reducible] def aI : Lean.Syntax := tI #[tH]
@[reducible] def aJ : Lean.Syntax := tI #[tH, tH]
@[reducible] def aD : Lean.Syntax := (Lean.Unhygienic.run `(Lean.Parser.Tactic.tacticSeq| first | decide | lia)).raw
@[reducible] def aU : Lean.Syntax := tT #[tN `Lean.Parser.Tactic.withUnfoldingAll #[tA "with_unfolding_all", aR]]
noncomputable def Zac : List (Addr × Addr) := [(27, 23), (69, 65), (76, 72), (214, 210), (221, 217)]
noncomputable def Zbn : List Addr := [23, 65, 72, 210, 217]
noncomputable def Zd8 (c : Addr) : Str := if c = 27 then ofString "_prepare_tag.<locals>.select" else if c = 69 then ofString "_int2digits.<locals>.inner" else if c = 76 then ofString "_digits2int.<locals>.inner"
 else if c = 214 then ofString "_Accumulator.__len__.<locals>.<genexpr>" else ofString "_Accumulator.__str__.<locals>.<genexpr>"
noncomputable def Zs (o : Obj) : Prop := (∀ vs q t, o.data = .fields vs → vs[1]? ≠ some (.str q t)) ∧ ∀ fd, o.data ≠ .func fd
theorem Zbm {o : Obj} (h : ∀ vs, o.data ≠ .fields vs) (h2 : ∀ fd, o.data ≠ .func fd) : Zs o := ⟨fun vs _ _ e => absurd e (h vs), h2⟩
noncomputable def Zap (h : Heap) : Prop := ∀ q ∈ Zac, ∃ ps, h.IsCode q.1 q.2 ps ∧ h.TableAt q.1 q.2 ps ∧ ∀ pos cv, codeAmong pos ps.toList = some cv → h.CodeRec cv (Zd8 q.1)
theorem Zap.keeps {h h' : Heap} (x : Zap h) (k : ∀ b o, h.get? b = some o → h'.get? b = some o) : Zap h' := fun q hq =>
 Z1 (x q hq) fun ps a b c => ⟨ps, a.keeps k, b.keeps k, fun pos cv e => (c pos cv e).keeps k⟩
theorem Zas {h h' : Heap} {cv : Value} {q : Str} {a : Addr} (x : h.CodeRec cv q) (hn : ∀ o, h.get? a = some o → Zs o) (k : ∀ b o, b ≠ a → h.get? b = some o → h'.get? b = some o) : h'.CodeRec cv q := by
 obtain ⟨c, o, vs, t, e, g, d, r⟩ := x
 exact ⟨c, o, vs, t, e, k c o (fun ca => (hn o (ca ▸ g)).1 vs q t d r) g, d, r⟩
theorem Zah {a b : String} : ofString a = ofString b ↔ a = b := by
 constructor
 ·intro h
  rw [Str.ofString_eq_toList, Str.ofString_eq_toList] at h
  have h2 : (a.toList.map Char.toNat) = (b.toList.map Char.toNat) := by
   have := congrArg (fun s : Str => s.cps.toList) h
   simpa using this
  have h3 : a.toList = b.toList := (List.map_inj_right (fun x y e => Char.ext (UInt32.toNat_inj.mp e))).mp h2
  exact String.toList_inj.mp h3
 ·rintro rfl; rfl
structure Ext (X : List Addr) (G : List Nat) (s s' : Shared) : Prop where
 keep : ∀ b o, b ∉ X → b ∉ Zbn → s.heap.get? b = some o → s'.heap.get? b = some o
 lowk : ∀ b o, b < 316 → b ∉ Zbn → s.heap.get? b = some o → s'.heap.get? b = some o
 al : ∀ b o, b ∉ X → s.heap.get? b = some o → ∃ o', s'.heap.get? b = some o'
 tab : Zap s.heap → Zap s'.heap
 sz : 316 ≤ s.heap.objs.size → 316 ≤ s'.heap.objs.size
 dr : s'.drawn = s.drawn
 os : s'.os = s.os
 gsz : s.gens.size ≤ s'.gens.size
 gk : ∀ g gs, g ∉ G → s.gens[g]? = some gs → s'.gens[g]? = some gs
 gb : AllBare s.gens → AllBare s'.gens
 cr : ∀ cv q, s.heap.CodeRec cv q → s'.heap.CodeRec cv q
theorem Ext.refl (X : List Addr) (G : List Nat) (s : Shared) : Ext X G s s := ⟨fun _ _ _ _ e => e, fun _ _ _ _ e => e, fun _ o _ e => ⟨o, e⟩, id, id, rfl, rfl, Nat.le_refl _, fun _ _ _ e => e, id, fun _ _ x => x⟩
theorem Ext.trans {X : List Addr} {G : List Nat} {a b c : Shared} (x : Ext X G a b) (y : Ext X G b c) : Ext X G a c :=
 ⟨fun p o h1 h2 e => y.keep p o h1 h2 (x.keep p o h1 h2 e), fun p o h1 h2 e => y.lowk p o h1 h2 (x.lowk p o h1 h2 e), fun p o h e => (x.al p o h e).elim fun o' e' => y.al p o' h e', fun t => y.tab (x.tab t), fun t => y.sz (x.sz t), y.dr.trans x.dr, y.os.trans x.os, Nat.le_trans x.gsz y.gsz,
  fun g gs h e => y.gk g gs h (x.gk g gs h e), fun h => y.gb (x.gb h), fun cv q h => y.cr cv q (x.cr cv q h)⟩
theorem Ext.trans' {X Y : List Addr} {G H : List Nat} {a b c : Shared} (x : Ext X G a b) (y : Ext Y H b c) (hY : ∀ p ∈ Y, p ∈ X ∨ a.heap.get? p = none) (hH : ∀ g ∈ H, g ∈ G ∨ a.gens.size ≤ g) : Ext X G a c :=
 ⟨fun p o h1 h2 e => y.keep p o (fun q => by
   rcases hY p q with r | r
   ·exact h1 r
   ·rw [r] at e; cases e) h2 (x.keep p o h1 h2 e), fun p o h1 h2 e => y.lowk p o h1 h2 (x.lowk p o h1 h2 e), fun p o h e => (x.al p o h e).elim fun o' e' => y.al p o' (fun q => by
   rcases hY p q with r | r
   ·exact h r
   ·rw [r] at e; cases e) e', fun t => y.tab (x.tab t), fun t => y.sz (x.sz t), y.dr.trans x.dr, y.os.trans x.os, Nat.le_trans x.gsz y.gsz,
  fun g gs h e => y.gk g gs (fun q => by
   rcases hH g q with r | r
   ·exact h r
   ·obtain ⟨h', _⟩ := Array.getElem?_eq_some_iff.mp e
    exact absurd h' (Nat.not_lt.mpr r)) (x.gk g gs h e), fun h => y.gb (x.gb h), fun cv q h => y.cr cv q (x.cr cv q h)⟩
theorem Ext.mono {X Y : List Addr} {G H : List Nat} {a b : Shared} (x : Ext X G a b) (h : ∀ p ∈ X, p ∈ Y) (hG : ∀ p ∈ G, p ∈ H) : Ext Y H a b :=
 ⟨fun p o h1 h2 e => x.keep p o (fun q => h1 (h p q)) h2 e, x.lowk, fun b o q e => x.al b o (fun r => q (h b r)) e, x.tab, x.sz, x.dr, x.os, x.gsz, fun g gs n e => x.gk g gs (fun q => n (hG g q)) e, x.gb, x.cr⟩
theorem Ext.keeps {X : List Addr} {G : List Nat} {s : Shared} {h' : Heap} {tk : Nat} (k : ∀ b o, s.heap.get? b = some o → h'.get? b = some o) (hs : 316 ≤ s.heap.objs.size → 316 ≤ h'.objs.size) : Ext X G s { s with heap := h', toks := tk } :=
 ⟨fun b o _ _ e => k b o e, fun b o _ _ e => k b o e, fun b o _ e => ⟨o, k b o e⟩, fun t => t.keeps k, hs, rfl, rfl, Nat.le_refl _, fun _ _ _ e => e, id, fun _ _ x => x.keeps k⟩
theorem Ext.tok {X : List Addr} {G : List Nat} {s : Shared} {tk : Nat} : Ext X G s { s with toks := tk } := Ext.keeps (h' := s.heap) (fun _ _ e => e) id
theorem Zz : ∀ b ∈ Zbn, b < 316 := by decide
theorem Z7 : ∀ q ∈ Zac, q.1 ∉ Zbn ∧ q.2 ∈ Zbn ∧ q.1 < 316 ∧ q.2 < 316 ∧ q.2 ≠ cStatics ∧ q.1 ≠ q.2 := by decide +kernel
theorem Zap.same {h h' : Heap} {a : Addr} (x : Zap h) (ha : 316 ≤ a) (hn : ∀ o, h.get? a = some o → Zs o) (hs : Heap.SameBut a h h') : Zap h' := fun q hq => by
 obtain ⟨ps, c1, c2, c3⟩ := x q hq
 obtain ⟨_, _, h3, h4, _⟩ := Z7 q hq
 have n1 : q.1 ≠ a := Nat.ne_of_lt (Nat.lt_of_lt_of_le h3 ha)
 have n2 : q.2 ≠ a := Nat.ne_of_lt (Nat.lt_of_lt_of_le h4 ha)
 refine ⟨ps, ?_, c2.sameBut hs n1 n2, fun pos cv e => Zas (c3 pos cv e) hn fun b o hb e => (hs.2 b hb).trans e⟩
 obtain ⟨o, vs, file, tf, flags, tg, inF, text, tt, op, e1, r1, r2, r3, r4, r5, r6, e2, r⟩ := c1
 exact ⟨o, vs, file, tf, flags, tg, inF, text, tt, op, (hs.2 _ n1).trans e1, r1, r2, r3, r4, r5, r6, (hs.2 _ n2).trans e2, r⟩
theorem Ext.same {X : List Addr} {G : List Nat} {s : Shared} {h' : Heap} {tk : Nat} {a : Addr} (ha : 316 ≤ a) (hn : ∀ o, s.heap.get? a = some o → Zs o) (hX : a ∈ X) (hs : Heap.SameBut a s.heap h') (hal : ∃ o', h'.get? a = some o') : Ext X G s { s with heap := h', toks := tk } :=
 ⟨fun b o h1 _ e => (hs.2 b (fun q => h1 (q ▸ hX))).trans e, fun b o h1 _ e => (hs.2 b (Nat.ne_of_lt (Nat.lt_of_lt_of_le h1 ha))).trans e, fun b o _ e => if q : b = a then q ▸ hal else ⟨o, (hs.2 b q).trans e⟩, fun t => t.same ha hn hs, fun t => hs.1 ▸ t, rfl, rfl, Nat.le_refl _, fun _ _ _ e => e, id, fun cv q x => Zas x hn fun b o hb e => (hs.2 b hb).trans e⟩
structure Wd (K : Frag) (h : Heap) : Prop where
 k : K.In h
 lt : ∀ a o, K.lookup a = some o → a < 316 ∧ a ∉ Zbn
 g : ∃ mg, h.Ns mainGlobals mg ∧ (∀ x v, nsIn K mainGlobals x = some (some v) → mg x = some v) ∧ (∀ x, nsIn K mainGlobals x = some none → mg x = none)
 b : ∃ mb, h.Ns builtinsNs mb ∧ ∀ x : Str, x ≠ "__name__" → mb x = bootBuiltins x
 lim : h.NoLimit
 dig : ∃ mc, h.Ns cStatics mc ∧ mc "sys.int_max_str_digits" = none
 tab : Zap h
 big : 316 ≤ h.objs.size
 bm : ∃ mg bm o, h.Ns mainGlobals mg ∧ mg "__builtins__" = some (.ref bm) ∧ bm ≠ builtinsNs ∧ bm ≠ mainGlobals ∧ bm < 316 ∧ bm ∉ Zbn ∧ h.get? bm = some o ∧ o.cls = .type "module" ∧ o.dict = some builtinsNs ∧ o.data = .plain
theorem Zgq {h h' : Heap} {a : Addr} {m : Str → Option Value} (ha : a < 316) (ht : a ∉ Zbn) (k : ∀ b o, b < 316 → b ∉ Zbn → h.get? b = some o → h'.get? b = some o) (x : h.Ns a m) : h'.Ns a m :=
 Zax x fun o es ep e r => ⟨o, es, ep, k _ _ ha ht e, r⟩
theorem Wd.low {K : Frag} {h h' : Heap} (W : Wd K h) (k : ∀ b o, b < 316 → b ∉ Zbn → h.get? b = some o → h'.get? b = some o) (ht : Zap h') (hb : 316 ≤ h'.objs.size) : Wd K h' where
 k := fun a o e => k a o (W.lt a o e).1 (W.lt a o e).2 (W.k a o e)
 lt := W.lt
 g := W.g.imp fun _ => And.imp_left (Zgq (by decide) (by decide) k)
 b := W.b.imp fun _ => And.imp_left (Zgq (by decide) (by decide) k)
 lim := Exists.imp (fun _ => And.imp_left (Zgq (by decide) (by decide) k)) W.lim
 dig := W.dig.imp fun _ => And.imp_left (Zgq (by decide) (by decide) k)
 tab := ht
 big := hb
 bm := W.bm.imp fun _ => Exists.imp fun _ => Exists.imp fun _ x => ⟨Zgq (by decide) (by decide) k x.1, x.2.imp_right fun x => x.imp_right fun x => x.imp_right fun x => ⟨x.1, x.2.1, x.2.2.imp_left (k _ _ x.1 x.2.1)⟩⟩
theorem Wd.ext {K : Frag} {X : List Addr} {G : List Nat} {s s' : Shared} (W : Wd K s.heap) (x : Ext X G s s') : Wd K s'.heap := W.low x.lowk (x.tab W.tab) (x.sz W.big)
theorem ifN {c : Prop} [Decidable c] {a b : Prop} (h : ¬c) (hb : b) : if c then a else b := by rw [if_neg h]; exact hb
theorem ifP {c : Prop} [Decidable c] {a b : Prop} (h : c) (ha : a) : if c then a else b := by rw [if_pos h]; exact ha
theorem ifF {x : Bool} {a b : Prop} (h : x = false) (hb : b) : if x = true then a else b := by rw [h]; exact hb
theorem ifT {x : Bool} {a b : Prop} (h : x = true) (ha : a) : if x = true then a else b := by rw [h]; exact ha
noncomputable def Zdo : List String → Bool
 | [] => true
 | x :: r => !(r.contains x) && Zdo r
theorem Zc0 : ∀ {l : List String}, Zdo l = true → l.Nodup
 | [], _ => List.nodup_nil
 | x :: r, h => by
  unfold Zdo at h
  rw [Bool.and_eq_true, Bool.not_eq_true'] at h
  rw [List.nodup_cons]
  exact ⟨fun q => by rw [List.contains_iff_mem.mpr q] at h; exact absurd h.1 (by decide), Zc0 h.2⟩
theorem nD {n i : Nat} (h : i < n) : n + 1 - (i + 1) < n + 1 - i := by rw [Nat.succ_sub_succ, Nat.succ_sub (Nat.le_of_lt h)]; exact Nat.lt_succ_self _
theorem nS {n i k : Nat} (h : n - i = k + 1) : n - (i + 1) = k := by rw [Nat.sub_add_eq, h]; rfl
theorem nL {n i k : Nat} (h : n - i = k + 1) : i < n := Nat.lt_of_sub_eq_succ h
theorem n0 {k : Nat} (h : 0 < k) : k = k - 1 + 1 := (Nat.sub_add_cancel h).symm
theorem n1 {k : Nat} (h : ¬ k = 0) : k = k - 1 + 1 := n0 (Nat.pos_of_ne_zero h)
theorem nP {n i : Nat} (h : i < n) : n - i = n - i - 1 + 1 := n0 (Nat.sub_pos_of_lt h)
theorem nQ {n i : Nat} (h : i < n) : n - i = n - 1 - i + 1 := by rw [Nat.sub_right_comm]; exact nP h
theorem nI {n i : Nat} (h : i < n) : ((n : Int) - 1 - (i : Int)) = ((n - 1 - i : Nat) : Int) := by rw [Int.natCast_sub (Nat.le_sub_one_of_lt h), Int.natCast_sub (Nat.zero_lt_of_lt h)]; rfl
theorem nC {n i : Nat} (h : i < n) : ((n : Int) - 1 + (i : Int) * -1) = ((n - 1 - i : Nat) : Int) := by rw [Int.mul_neg, Int.mul_one, ← Int.sub_eq_add_neg]; exact nI h
theorem nU {n i : Nat} (h : i < n) : n - 1 - i < n := Nat.lt_of_le_of_lt (Nat.sub_le _ _) (Nat.sub_lt (Nat.zero_lt_of_lt h) Nat.one_pos)
theorem nZ {k : Nat} (h : 0 < k) : ((k : Nat) : Int) ≠ 0 := fun e => Nat.ne_of_gt h (Int.ofNat.inj e)
theorem nz {k : Nat} (h : 0 < k) : (0 : Int) < (k : Nat) := Int.ofNat_lt.mpr h
theorem nM {j m n : Nat} (h : j * m + m ≤ n * m) : min m (n * m - j * m) = m := Nat.min_eq_left (Nat.le_sub_of_add_le (Nat.add_comm _ _ ▸ h))
theorem nT {x : Int} (h : 0 ≤ x) : x = ((x.toNat : Nat) : Int) := (Int.toNat_of_nonneg h).symm
theorem nA {a b c : Nat} (h : a + b ≤ c) : a ≤ c := Nat.le_trans (Nat.le_add_right _ _) h
theorem nB {a b c : Nat} (h : a + b ≤ c) : b ≤ c := Nat.le_trans (Nat.le_add_left _ _) h
theorem szl {a n : Nat} (h : a ≤ n) (h2 : n ≤ 16777216) : a ≤ sizeLine := by rw [sizeLine_eq]; exact Nat.le_trans h h2
theorem kA {a b c : Nat} (h : a ≤ b) (e : Nat.ble b c = true) : a ≤ c := Nat.le_trans h (Nat.le_of_ble_eq_true e)
theorem kB {a b c : Nat} (h : a ≤ b) (e : Nat.ble b.succ c = true) : a < c := Nat.lt_of_le_of_lt h (Nat.le_of_ble_eq_true e)
theorem kC {a b c : Nat} (h : a < b) (e : Nat.ble b c = true) : a < c := Nat.lt_of_lt_of_le h (Nat.le_of_ble_eq_true e)
theorem kD {a b c : Nat} (h : a < b) (e : Nat.ble b c.succ = true) : a ≤ c := Nat.le_of_lt_succ (Nat.lt_of_lt_of_le h (Nat.le_of_ble_eq_true e))
theorem kF {a b c : Nat} (h : b ≤ c) (e : Nat.ble a.succ b = true) : a < c := Nat.lt_of_lt_of_le (Nat.le_of_ble_eq_true e) h
theorem kZ {b c : Nat} (h : b ≤ c) (e : Nat.ble 1 b = true) : ((c : Nat) : Int) ≠ 0 := nZ (kF h e)
theorem kz {b c : Nat} (h : b ≤ c) (e : Nat.ble 1 b = true) : (0 : Int) < (c : Nat) := nz (kF h e)
theorem nV {a b c : Nat} (h : a + (b + 1) ≤ c) : a < c := Nat.lt_of_lt_of_le (Nat.lt_add_of_pos_right (Nat.succ_pos b)) h
theorem Zqb {m : Nat} (h : ¬ m = 0) : ∃ k1 k2, m + 1 = k1 + k2 ∧ 1 ≤ k1 ∧ 1 ≤ k2 ∧ (m + 1) / 2 = k1 :=
 ⟨(m + 1) / 2, m + 1 - (m + 1) / 2, (Nat.add_sub_cancel' (Nat.div_le_self _ _)).symm, Nat.div_pos (Nat.succ_le_succ (Nat.pos_of_ne_zero h)) (by decide), Nat.sub_pos_of_lt (Nat.div_lt_self (Nat.succ_pos m) (by decide)), rfl⟩
theorem iL {a : Nat} (b : Nat) (h : a ≤ b) : (a : Int) ≤ (b : Int) := Int.ofNat_le.mpr h
theorem Zij {h : Heap} {a : Addr} {m m' : Str → Option Value} (x : h.Ns a m) (y : h.Ns a m') : m = m' := by
 refine Zbx x fun o es ep e d _ r => ?_
 refine Zbx y fun o' es' ep' e' d' _ r' => ?_
 rw [e] at e'; cases e'
 rw [d] at d'; cases d'
 funext k
 rw [← r, ← r']
theorem Zbh {h : Heap} {a : Addr} {m : Str → Option Value} (x : h.Ns a m) : ∀ o, h.get? a = some o → Zs o := fun o e => by
 refine Zlm x fun o' es ep e' d _ => ?_
 rw [e] at e'; cases e'
 exact Zbm (fun vs q => by rw [d] at q; cases q) (fun vs q => by rw [d] at q; cases q)
theorem Zpx {h : Heap} {a : Addr} {v : Option Value} (x : h.IsCell a v) : ∀ o, h.get? a = some o → Zs o := fun o e => by
 refine Zo x fun o' e' d => ?_
 rw [e] at e'; cases e'
 exact Zbm (fun vs q => by rw [d] at q; cases q) (fun vs q => by rw [d] at q; cases q)
structure Zd1 (env : Env) (h : Heap) : Prop where
 ns : ∃ ρ, h.Ns env.locals ρ
 cel : ∀ x c, env.cells.lookup x = some c → c ≠ env.locals ∧ ∃ v, h.IsCell c v
 inj : ∀ x y c, env.cells.lookup x = some c → env.cells.lookup y = some c → x = y
 hiL : 316 ≤ env.locals
 nt : ∀ b, b = env.locals ∨ (∃ x, env.cells.lookup x = some b) → b ∉ Zbn
 kind : env.scope.kind = .function
 gl : env.globals = mainGlobals
 bu : env.builtins = builtinsNs
noncomputable def Bd (env : Env) (h : Heap) (k : Str) (v : Value) : Prop :=
 (env.kindOf k = some .local ∧ ∃ ρ, h.Ns env.locals ρ ∧ ρ k = some v) ∨
 (∃ c, (env.kindOf k = some .cell ∨ env.kindOf k = some .free) ∧ env.cells.lookup k = some c ∧ h.IsCell c (some v))
structure Loc (env : Env) (s₀ : Shared) (X : List Addr) (vs : List (String × Value)) (l : List (Addr × Obj)) (s : Shared) : Prop where
 ext : Ext X [] s₀ s
 fr : Zd1 env s.heap
 bd : ∀ p ∈ vs, Bd env s.heap (ofString p.1) p.2
 led : ∀ p ∈ l, s.heap.get? p.1 = some p.2
 own : ∀ p ∈ l, (p.1 ∈ X ∨ s₀.heap.get? p.1 = none) ∧ 316 ≤ p.1
 off : ∀ p ∈ l, p.1 ≠ env.locals ∧ ∀ x, env.cells.lookup x ≠ some p.1
 nd : (l.map (·.1)).Nodup
 fc : ∀ p ∈ l, ∀ fd, p.2.data = .func fd → s.heap.CodeRec fd.code fd.qualname
noncomputable def Zbw (env : Env) (s₀ : Shared) : Prop := s₀.heap.get? env.locals = none ∧ 316 ≤ env.locals ∧ ∀ x c, env.kindOf x = some .cell → env.cells.lookup x = some c → s₀.heap.get? c = none ∧ 316 ≤ c
variable {env : Env} {s₀ s s' : Shared} {X Y : List Addr} {H : List Nat} {vs vs' : List (String × Value)} {l l' : List (Addr × Obj)}
theorem Zd1.step {h h' : Heap} (F : Zd1 env h) (k : ∀ b o, b = env.locals ∨ (∃ x, env.cells.lookup x = some b) → h.get? b = some o → h'.get? b = some o) : Zd1 env h' where
 ns := Za4 F.ns fun ρ o es ep e r => ⟨ρ, o, es, ep, k _ _ (.inl rfl) e, r⟩
 cel := fun x c e => Zcs (F.cel x c e) fun a v o e1 r => ⟨a, v, o, k _ _ (.inr ⟨x, e⟩) e1, r⟩
 inj := F.inj
 hiL := F.hiL
 nt := F.nt
 kind := F.kind
 gl := F.gl
 bu := F.bu
theorem Bd.step {h h' : Heap} {x : Str} {v : Value} (B : Bd env h x v) (k : ∀ b o, b = env.locals ∨ (∃ x, env.cells.lookup x = some b) → h.get? b = some o → h'.get? b = some o) : Bd env h' x v := by
 rcases B with ⟨a, ρ, ⟨o, es, ep, e, r⟩, e2⟩ | ⟨c, a, b, o, e, r⟩
 ·exact .inl ⟨a, ρ, ⟨o, es, ep, k _ _ (.inl rfl) e, r⟩, e2⟩
 ·exact .inr ⟨c, a, b, o, k _ _ (.inr ⟨x, b⟩) e, r⟩
theorem Zd1.lt {h : Heap} (F : Zd1 env h) {b : Addr} (hb : b = env.locals ∨ (∃ x, env.cells.lookup x = some b)) : b < h.objs.size := by
 rcases hb with rfl | ⟨x, e⟩
 ·obtain ⟨ρ, n⟩ := F.ns; exact n.lt
 ·obtain ⟨_, v, c⟩ := F.cel x b e; exact c.lt
theorem Loc.step (C : Loc env s₀ X vs l s) (x : Ext Y H s s') (hY : ∀ p ∈ Y, (p ∈ X ∨ s₀.heap.get? p = none) ∧ p ≠ env.locals ∧ (∀ x, env.cells.lookup x ≠ some p) ∧ p ∉ l.map (·.1))
  (hH : ∀ g ∈ H, s₀.gens.size ≤ g) : Loc env s₀ X vs l s' := by
 have k : ∀ b o, b = env.locals ∨ (∃ x, env.cells.lookup x = some b) → s.heap.get? b = some o → s'.heap.get? b = some o := fun b o hb e =>
  x.keep b o (fun hm => by
   refine Zlj (hY b hm) fun _ h1 h2 _ => ?_
   rcases hb with h | ⟨y, h⟩
   ·exact h1 h
   ·exact h2 y h) (C.fr.nt b hb) e
 refine ⟨C.ext.trans' x (fun p hp => (hY p hp).1) (fun g hg => .inr (hH g hg)), C.fr.step k, fun p hp => (C.bd p hp).step k, fun p hp => ?_, C.own, C.off, C.nd, fun p hp fd e => x.cr _ _ (C.fc p hp fd e)⟩
 exact x.keep _ _ (fun hm => (hY _ hm).2.2.2 (List.mem_map_of_mem hp)) (fun ht => absurd (C.own p hp).2 (Nat.not_le.mpr (Zz _ ht))) (C.led p hp)
theorem Loc.pure (C : Loc env s₀ X vs l s) (x : Ext [] [] s s') : Loc env s₀ X vs l s' := C.step x (fun _ h => nomatch h) (fun _ h => nomatch h)
theorem Loc.tok (C : Loc env s₀ X vs l s) {tk : Nat} : Loc env s₀ X vs l { s with toks := tk } := C.pure Ext.tok
theorem Loc.big (C : Loc env s₀ X vs l s) : 316 ≤ s.heap.objs.size := Nat.le_trans C.fr.hiL (Nat.le_of_lt (C.fr.lt (.inl rfl)))
theorem Loc.extK (C : Loc env s₀ X vs l s) {Y : List Addr} {G : List Nat} {h' : Heap} {tk : Nat} (k : ∀ b o, s.heap.get? b = some o → h'.get? b = some o) : Ext Y G s { s with heap := h', toks := tk } := Ext.keeps k (fun _ => by
 refine Za4 C.fr.ns fun ρ o es ep e _ => ?_
 exact Nat.le_trans C.fr.hiL (Nat.le_of_lt (Heap.lt_size (k _ _ e))))
theorem Loc.keeps (C : Loc env s₀ X vs l s) {h' : Heap} {tk : Nat} (k : ∀ b o, s.heap.get? b = some o → h'.get? b = some o) : Loc env s₀ X vs l { s with heap := h', toks := tk } := C.pure (C.extK k)
theorem Loc.noneAt (C : Loc env s₀ X vs l s) {a : Addr} (ha : s.heap.get? a = none) (hX : a ∉ X) : s₀.heap.get? a = none := by
 cases e : s₀.heap.get? a with
 | none => rfl
 | some o =>
  obtain ⟨o', e'⟩ := C.ext.al a o hX e
  rw [ha] at e'; cases e'
theorem Loc.sub (C : Loc env s₀ X vs l s) (h : l'.Sublist l) : Loc env s₀ X vs l' s :=
 ⟨C.ext, C.fr, C.bd, fun p hp => C.led p (h.subset hp), fun p hp => C.own p (h.subset hp), fun p hp => C.off p (h.subset hp), (h.map _).nodup C.nd, fun p hp => C.fc p (h.subset hp)⟩
theorem Loc.perm (C : Loc env s₀ X vs l s) (h : l'.Perm l) : Loc env s₀ X vs l' s :=
 ⟨C.ext, C.fr, C.bd, fun p hp => C.led p (h.subset hp), fun p hp => C.own p (h.subset hp), fun p hp => C.off p (h.subset hp), ((h.map _).nodup_iff).mpr C.nd, fun p hp => C.fc p (h.subset hp)⟩
theorem Loc.vsub (C : Loc env s₀ X vs l s) (h : ∀ p ∈ vs', p ∈ vs) : Loc env s₀ X vs' l s := ⟨C.ext, C.fr, fun p hp => C.bd p (h p hp), C.led, C.own, C.off, C.nd, C.fc⟩
theorem Loc.add (C : Loc env s₀ X vs l s) (x : Ext [] [] s s') {a : Addr} {o : Obj} (ha : s.heap.get? a = none) (h3 : 316 ≤ a) (ho : s'.heap.get? a = some o) (hf : ∀ fd, o.data = .func fd → s'.heap.CodeRec fd.code fd.qualname := by intro fd h; cases h) : Loc env s₀ X vs ((a, o) :: l) s' := by
 have C' := C.pure x
 have h0 : a ∈ X ∨ s₀.heap.get? a = none := if q : a ∈ X then .inl q else .inr (C.noneAt ha q)
 refine ⟨C'.ext, C'.fr, C'.bd, ?_, ?_, ?_, ?_, fun p hp => ?_⟩
 ·intro p hp
  rcases List.mem_cons.mp hp with rfl | hp
  ·exact ho
  ·exact C'.led p hp
 ·intro p hp
  rcases List.mem_cons.mp hp with rfl | hp
  ·exact ⟨h0, h3⟩
  ·exact C'.own p hp
 ·intro p hp
  rcases List.mem_cons.mp hp with rfl | hp
  ·refine ⟨fun e => ?_, fun y e => ?_⟩
   ·refine Za4 C.fr.ns fun ρ o' _ _ e' _ => ?_
    have e : a = env.locals := e
    rw [← e, ha] at e'; cases e'
   ·refine Zcs (C.fr.cel y _ e) fun _ v o' e' _ => ?_
    rw [ha] at e'; cases e'
  ·exact C'.off p hp
 ·rw [List.map_cons, List.nodup_cons]
  refine ⟨fun hm => ?_, C'.nd⟩
  refine Zo (List.mem_map.mp hm) fun p hp e => ?_
  have e : p.1 = a := e
  have := C.led p hp
  rw [e, ha] at this
  cases this
 ·rcases List.mem_cons.mp hp with rfl | hp
  ·exact hf
  ·exact C'.fc p hp
inductive Put (a : Addr) (o o' : Obj) : List (Addr × Obj) → List (Addr × Obj) → Prop
 | head (l : List (Addr × Obj)) : Put a o o' ((a, o) :: l) ((a, o') :: l)
 | tail (p : Addr × Obj) {l l' : List (Addr × Obj)} (h : Put a o o' l l') : Put a o o' (p :: l) (p :: l')
theorem J0 {a : Addr} {o o' : Obj} {l : List (Addr × Obj)} : Put a o o' ((a, o) :: l) ((a, o') :: l) := .head _
theorem J1 {a : Addr} {o o' : Obj} {b : Addr × Obj} {l : List (Addr × Obj)} : Put a o o' (b :: (a, o) :: l) (b :: (a, o') :: l) := .tail _ (.head _)
theorem J2 {a : Addr} {o o' : Obj} {b c : Addr × Obj} {l : List (Addr × Obj)} : Put a o o' (b :: c :: (a, o) :: l) (b :: c :: (a, o') :: l) := .tail _ (.tail _ (.head _))
theorem J3 {a : Addr} {o o' : Obj} {b c d : Addr × Obj} {l : List (Addr × Obj)} : Put a o o' (b :: c :: d :: (a, o) :: l) (b :: c :: d :: (a, o') :: l) := .tail _ (.tail _ (.tail _ (.head _)))
theorem J4 {a : Addr} {o o' : Obj} {b c d e : Addr × Obj} {l : List (Addr × Obj)} : Put a o o' (b :: c :: d :: e :: (a, o) :: l) (b :: c :: d :: e :: (a, o') :: l) := .tail _ (.tail _ (.tail _ (.tail _ (.head _))))
theorem Put.keys {a : Addr} {o o' : Obj} (P : Put a o o' l l') : l'.map (·.1) = l.map (·.1) := by
 induction P with
 | head => rfl
 | tail p h ih => rw [List.map_cons, List.map_cons, ih]
theorem Put.mem {a : Addr} {o o' : Obj} (P : Put a o o' l l') : (a, o) ∈ l := by
 induction P with
 | head => exact M0
 | tail p h ih => exact .tail _ ih
theorem Put.of {a : Addr} {o o' : Obj} (P : Put a o o' l l') : ∀ p ∈ l', p = (a, o') ∨ (p ∈ l ∧ (p.1 ≠ a ∨ ¬ (l.map (·.1)).Nodup)) := by
 induction P with
 | head l =>
  intro p hp
  rcases List.mem_cons.mp hp with rfl | hp
  ·exact .inl rfl
  ·refine .inr ⟨.tail _ hp, ?_⟩
   by_cases e : p.1 = a
   ·right
    rw [List.map_cons, List.nodup_cons]
    exact fun h => h.1 (List.mem_map.mpr ⟨p, hp, e⟩)
   ·exact .inl e
 | tail q h ih =>
  intro p hp
  rcases List.mem_cons.mp hp with rfl | hp
  ·right
   refine ⟨M0, ?_⟩
   by_cases e : p.1 = a
   ·right
    rw [List.map_cons, List.nodup_cons]
    exact fun hh => hh.1 (List.mem_map.mpr ⟨_, h.mem, e.symm⟩)
   ·exact .inl e
  ·rcases ih p hp with e | ⟨h1, h2⟩
   ·exact .inl e
   ·refine .inr ⟨.tail _ h1, h2.imp id fun n => ?_⟩
    rw [List.map_cons, List.nodup_cons]
    exact fun hh => n hh.2
theorem Loc.put (C : Loc env s₀ X vs l s) {a : Addr} {o o' : Obj} (x : Ext [a] [] s s') (P : Put a o o' l l') (ho : s'.heap.get? a = some o') (hf : ∀ fd, o'.data ≠ .func fd := by intro fd h; cases h) : Loc env s₀ X vs l' s' := by
 have ha := P.mem
 obtain ⟨o1, o2⟩ := C.own _ ha
 obtain ⟨f1, f2⟩ := C.off _ ha
 have k : ∀ b o, b = env.locals ∨ (∃ x, env.cells.lookup x = some b) → s.heap.get? b = some o → s'.heap.get? b = some o := fun b o hb e =>
  x.keep b o (fun hm => by
   have hm := List.mem_singleton.mp hm
   rcases hb with h | ⟨y, h⟩
   ·exact f1 (hm.symm.trans h)
   ·exact f2 y (hm ▸ h)) (C.fr.nt b hb) e
 have keys := P.keys
 have mem1 : ∀ p ∈ l', ∃ q ∈ l, q.1 = p.1 := fun p hp => by
  have : p.1 ∈ l.map (·.1) := keys ▸ List.mem_map_of_mem hp
  refine Zo (List.mem_map.mp this) fun q hq e => ?_
  exact ⟨q, hq, e⟩
 refine ⟨C.ext.trans' x (fun p hp => by rw [List.mem_singleton.mp hp]; exact o1) (fun _ h => nomatch h), C.fr.step k, fun p hp => (C.bd p hp).step k, fun p hp => ?_, fun p hp => ?_, fun p hp => ?_, keys ▸ C.nd, fun p hp fd q => ?_⟩
 ·rcases P.of p hp with e | ⟨h1, h2⟩
  ·rw [e]; exact ho
  ·rcases h2 with h2 | h2
   ·exact x.keep _ _ (fun hm => h2 (List.mem_singleton.mp hm)) (fun ht => absurd (C.own p h1).2 (Nat.not_le.mpr (Zz _ ht))) (C.led p h1)
   ·exact absurd C.nd h2
 ·obtain ⟨q, hq, e⟩ := mem1 p hp; rw [← e]; exact C.own q hq
 ·obtain ⟨q, hq, e⟩ := mem1 p hp; rw [← e]; exact C.off q hq
 ·rcases P.of p hp with e | ⟨h1, h2⟩
  ·rw [e] at q; exact absurd q (hf fd)
  ·exact x.cr _ _ (C.fc p h1 fd q)
noncomputable def Zbd (x : String) (v : Value) : List (String × Value) → List (String × Value)
 | [] => [(x, v)]
 | p :: r => if p.1 = x then (x, v) :: r.filter (fun q => q.1 ≠ x) else p :: Zbd x v r
theorem Zgj {x : String} {v : Value} {q : String × Value} {r : List (String × Value)} (h : q.1 = x) : Zbd x v (q :: r) = (x, v) :: r.filter (fun q => q.1 ≠ x) := if_pos h
theorem Zgw {x : String} {v : Value} {q : String × Value} {r : List (String × Value)} (h : ¬ q.1 = x) : Zbd x v (q :: r) = q :: Zbd x v r := if_neg h
theorem Zez {x : String} {v : Value} {vs : List (String × Value)} {p : String × Value} (h : p ∈ Zbd x v vs) : p = (x, v) ∨ (p ∈ vs ∧ p.1 ≠ x) := by
 induction vs with
 | nil => exact .inl (List.mem_singleton.mp h)
 | cons q r ih =>
  by_cases hq : q.1 = x
  ·rw [Zgj hq] at h
   refine (List.mem_cons.mp h).imp_right fun h => ?_
   exact ⟨.tail _ (List.mem_filter.mp h).1, of_decide_eq_true (List.mem_filter.mp h).2⟩
  ·rw [Zgw hq] at h
   exact (List.mem_cons.mp h).elim (fun e => .inr ⟨by rw [e]; exact M0, by rw [e]; exact hq⟩) fun h => (ih h).imp_right (And.imp_left (.tail _))
theorem Zt {x : String} {v : Value} {vs : List (String × Value)} {p : String × Value} (h : p ∈ vs) (hn : p.1 ≠ x) : p ∈ Zbd x v vs := by
 induction vs with
 | nil => cases h
 | cons q r ih =>
  by_cases hq : q.1 = x
  ·rw [Zgj hq]
   exact (List.mem_cons.mp h).elim (fun e => absurd (by rw [e]; exact hq) hn) fun h => .tail _ (List.mem_filter.mpr ⟨h, decide_eq_true hn⟩)
  ·rw [Zgw hq]
   exact (List.mem_cons.mp h).elim (fun e => by rw [e]; exact M0) fun h => .tail _ (ih h)
theorem Zab {x : String} {v : Value} {vs : List (String × Value)} : (x, v) ∈ Zbd x v vs := by
 induction vs with
 | nil => exact M0
 | cons q r ih =>
  by_cases hq : q.1 = x
  ·rw [Zgj hq]; exact M0
  ·rw [Zgw hq]; exact .tail _ ih
inductive Zec (x : String) (v : Value) : List (String × Value) → List (String × Value) → Prop
 | nil : Zec x v [] [(x, v)]
 | head (u : Value) (r : List (String × Value)) : Zec x v ((x, u) :: r) ((x, v) :: r)
 | tail (p : String × Value) {r r' : List (String × Value)} (h : Zec x v r r') : Zec x v (p :: r) (p :: r')
noncomputable def okN (x : String) (vs : List (String × Value)) : Bool := (vs.filter fun p => p.1 == x).length == 1
noncomputable def Za3 (x : String) (v : Value) (vs vs' : List (String × Value)) : Prop := ∀ p ∈ vs', p ∈ Zbd x v vs
theorem Za3.raw {x : String} {v : Value} {vs : List (String × Value)} : Za3 x v vs (Zbd x v vs) := fun _ h => h
theorem Zec.mem {x : String} {v : Value} {vs vs' : List (String × Value)} (h : Zec x v vs vs') : (x, v) ∈ vs' ∧ ∀ p ∈ vs', p = (x, v) ∨ p ∈ vs := by
 induction h with
 | nil => exact ⟨M0, fun p hp => .inl (List.mem_singleton.mp hp)⟩
 | head u r => exact ⟨M0, fun p hp => (List.mem_cons.mp hp).imp id fun q => .tail _ q⟩
 | tail q h ih => exact ⟨.tail _ ih.1, fun p hp => (List.mem_cons.mp hp).elim (fun e => .inr (e ▸ M0)) fun e => (ih.2 p e).imp id fun z => .tail _ z⟩
theorem Za3.of {x : String} {v : Value} {vs vs' : List (String × Value)} (h : Zec x v vs vs') (ok : okN x vs' = true) : Za3 x v vs vs' := fun p hp => by
 by_cases hx : p.1 = x
 ·have h1 : p ∈ vs'.filter fun p => p.1 == x := List.mem_filter.mpr ⟨hp, by simpa using hx⟩
  have h2 : (x, v) ∈ vs'.filter fun p => p.1 == x := List.mem_filter.mpr ⟨h.mem.1, by simp⟩
  unfold okN at ok
  obtain ⟨q, hq⟩ := List.length_eq_one_iff.mp (by simpa using ok)
  rw [hq] at h1 h2
  rw [List.mem_singleton.mp h1, ← List.mem_singleton.mp h2]
  exact Zab
 ·rcases h.mem.2 p hp with e | e
  ·exact absurd (by rw [e]) hx
  ·exact Zt e hx
theorem Loc.sv {x : String} {v : Value} (C : Loc env s₀ X (Zbd x v vs) l s) (h : Za3 x v vs vs') : Loc env s₀ X vs' l s := C.vsub h
theorem Loc.vsb (C : Loc env s₀ X vs l s) (h : vs'.Sublist vs) : Loc env s₀ X vs' l s := C.vsub fun _ q => h.subset q
variable {prog : Program} {w : World} {A : Around} {E : Value → Shared → Prop} {K : Frag}
theorem Loc.storeL (C : Loc env s₀ X vs l s) (O : Zbw env s₀) {x : String} {v : Value} {Q : Unit → Shared → Prop} (hk : env.kindOf (ofString x) = some .local)
  (h : ∀ s', Loc env s₀ X (Zbd x v vs) l s' → Q () s') : wpAny (model prog w) A (storeName env (ofString x) v) Q E s := by
 obtain ⟨ρ, hρ⟩ := C.fr.ns
 refine wpAny_storeName_local hk hρ (fun h' hn hs => h _ ?_) (by rw [C.fr.kind]; rfl)
 have e : Ext [env.locals] [] s { s with heap := h', toks := s.toks + 1 } := Ext.same O.2.1 (Zbh hρ) M0 hs (Zax hn fun o _ _ q _ => ⟨o, q⟩)
 have cells : ∀ y c v, env.cells.lookup y = some c → s.heap.IsCell c v → h'.IsCell c v := fun y c v hc hv => hv.sameBut hs (C.fr.cel y c hc).1
 refine ⟨C.ext.trans' e (fun p hp => .inr (List.mem_singleton.mp hp ▸ O.1)) (fun _ h => nomatch h), ⟨⟨_, hn⟩, fun y c hc => ?_, C.fr.inj, C.fr.hiL, C.fr.nt, C.fr.kind, C.fr.gl, C.fr.bu⟩, fun p hp => ?_, fun p hp => ?_, C.own, C.off, C.nd, fun p hp fd q => e.cr _ _ (C.fc p hp fd q)⟩
 ·refine Zlp (C.fr.cel y c hc) fun a v b => ?_
  exact ⟨a, v, cells y c v hc b⟩
 ·rcases Zez hp with rfl | ⟨h1, h2⟩
  ·exact .inl ⟨hk, _, hn, by simp⟩
  ·rcases C.bd p h1 with ⟨a, ρ', b, c⟩ | ⟨c, a, b, d⟩
   ·refine .inl ⟨a, _, hn, ?_⟩
    rw [Zij b hρ] at c
    have : ofString p.1 ≠ ofString x := fun q => h2 (Zah.mp q)
    simpa [this] using c
   ·exact .inr ⟨c, a, b, cells _ _ _ b d⟩
 ·exact (hs.2 _ (C.off p hp).1).trans (C.led p hp)
theorem Loc.storeC (C : Loc env s₀ X vs l s) (O : Zbw env s₀) {x : String} {v : Value} {Q : Unit → Shared → Prop} (hk : env.kindOf (ofString x) = some .cell) {c : Addr} (hc : env.cells.lookup (ofString x) = some c)
  (h : ∀ s', Loc env s₀ X (Zbd x v vs) l s' → Q () s') : wpAny (model prog w) A (storeName env (ofString x) v) Q E s := by
 refine Zlp (C.fr.cel _ _ hc) fun hcl v₀ hv => ?_
 obtain ⟨c0, c1⟩ := O.2.2 _ _ hk hc
 refine wpAny_storeName_cell C.fr.kind hk hc hv (fun h' hn hs => h _ ?_)
 have e : Ext [c] [] s { s with heap := h' } := Ext.same (tk := s.toks) c1 (Zpx hv) M0 hs (Zo hn fun o q _ => ⟨o, q⟩)
 obtain ⟨ρ, hρ⟩ := C.fr.ns
 have fr : h'.Ns env.locals ρ := hρ.sameBut hs hcl.symm
 refine ⟨C.ext.trans' e (fun p hp => .inr (List.mem_singleton.mp hp ▸ c0)) (fun _ h => nomatch h), ⟨⟨_, fr⟩, fun y d hd => ?_, C.fr.inj, C.fr.hiL, C.fr.nt, C.fr.kind, C.fr.gl, C.fr.bu⟩, fun p hp => ?_, fun p hp => ?_, C.own, C.off, C.nd, fun p hp fd q => e.cr _ _ (C.fc p hp fd q)⟩
 ·refine Zlp (C.fr.cel y d hd) fun a v' b => ?_
  by_cases q : d = c
  ·exact ⟨a, _, q ▸ hn⟩
  ·exact ⟨a, v', b.sameBut hs q⟩
 ·rcases Zez hp with rfl | ⟨h1, h2⟩
  ·exact .inr ⟨c, .inl hk, hc, hn⟩
  ·rcases C.bd p h1 with ⟨a, ρ', b, d⟩ | ⟨d, a, b, e⟩
   ·exact .inl ⟨a, ρ', b.sameBut hs hcl.symm, d⟩
   ·refine .inr ⟨d, a, b, e.sameBut hs fun q => h2 ?_⟩
    exact Zah.mp (C.fr.inj _ _ c (q ▸ b) hc)
 ·exact (hs.2 _ fun q => (C.off p hp).2 _ (q ▸ hc)).trans (C.led p hp)
theorem Loc.name (C : Loc env s₀ X vs l s) {x : String} {v : Value} {pos : Pos} {Q : Value → Shared → Prop} (hm : (x, v) ∈ vs) (h : Q v s)
  (hd : (ofString x == ("__debug__" : Str)) = false := by decide) (hn : (ofString x == ("__classdict__" : Str)) = false := by decide) : wpAny (model prog w) A (eval (.Name (ofString x) pos) env) Q E s := by
 refine wpAny_Name ?_ hd
 rcases C.bd _ hm with ⟨a, ρ, b, c⟩ | ⟨c, a, b, d⟩
 ·exact wpAny_loadName_local C.fr.kind a b c h
 ·rcases a with a | a
  ·exact wpAny_loadName_cell C.fr.kind a b d h
  ·exact wpAny_loadName_free C.fr.kind a b d h hn
theorem Loc.gname (C : Loc env s₀ X vs l s) (W : Wd K s₀.heap) {x : Str} {v : Value} {pos : Pos} {Q : Value → Shared → Prop} (hk : env.kindOf x = some .globalImplicit) (hg : nsIn K mainGlobals x = some (some v)) (h : Q v s)
  (hd : (x == ("__debug__" : Str)) = false := by decide) : wpAny (model prog w) A (eval (.Name x pos) env) Q E s := by
 refine Z1 ((W.ext C.ext).g) fun mg g1 g2 _ => ?_
 exact Name_function_global C.fr.kind hk (loadGlobal_global (C.fr.gl.symm ▸ g1) (g2 _ _ hg) h) hd
theorem Loc.bname (C : Loc env s₀ X vs l s) (W : Wd K s₀.heap) {x : Str} {v : Value} {pos : Pos} {Q : Value → Shared → Prop} (hk : env.kindOf x = some .globalImplicit) (hg : nsIn K mainGlobals x = some none) (hb : bootBuiltins x = some v) (h : Q v s)
  (hn : x ≠ "__name__" := by decide) (hd : (x == ("__debug__" : Str)) = false := by decide) : wpAny (model prog w) A (eval (.Name x pos) env) Q E s := by
 refine Z1 ((W.ext C.ext).g) fun mg g1 _ g3 => ?_
 refine Zo ((W.ext C.ext).b) fun mb b1 b2 => ?_
 exact Name_function_global C.fr.kind hk (loadGlobal_builtin (C.fr.gl.symm ▸ g1) (g3 _ hg) (C.fr.bu.symm ▸ b1) ((b2 x hn).trans hb) h) hd
noncomputable def Zaf (vs : List (String × Value)) : List (Str × Value) := vs.map fun p => (ofString p.1, p.2)
theorem Zm0 {kindOf : Str → Option NameKind} {binds : List (Str × Value)} {m : Str → Option Value} {k : Str} (h : k ∉ binds.map (·.1)) : bindL kindOf binds m k = m k := by
 induction binds generalizing m with
 | nil => rfl
 | cons p r ih =>
  rw [List.map_cons, List.mem_cons, not_or] at h
  refine (ih h.2).trans ?_
  by_cases hk : kindOf p.1 = some .local
  ·exact (congrFun (if_pos hk) k).trans (if_neg h.1)
  ·exact congrFun (if_neg hk) k
theorem Zmp {kindOf : Str → Option NameKind} {binds : List (Str × Value)} {m : Str → Option Value} {k : Str} {v : Value} (hn : (binds.map (·.1)).Nodup) (hm : (k, v) ∈ binds) (hk : kindOf k = some .local) : bindL kindOf binds m k = some v := by
 induction binds generalizing m with
 | nil => cases hm
 | cons p r ih =>
  rw [List.map_cons, List.nodup_cons] at hn
  refine (List.mem_cons.mp hm).elim (fun e => ?_) fun hm => ih hn.2 hm
  subst e
  exact (Zm0 hn.1).trans ((congrFun (if_pos hk) k).trans (if_pos rfl))
theorem Zmt {kindOf : Str → Option NameKind} {binds : List (Str × Value)} {m : Str → Option Value} {k : Str} (h : k ∉ binds.map (·.1)) : bindC kindOf binds m k = m k := by
 induction binds generalizing m with
 | nil => rfl
 | cons p r ih =>
  rw [List.map_cons, List.mem_cons, not_or] at h
  refine (ih h.2).trans ?_
  by_cases hk : kindOf p.1 = some .local
  ·exact congrFun (if_pos hk) k
  ·exact (congrFun (if_neg hk) k).trans (if_neg h.1)
theorem Zls {kindOf : Str → Option NameKind} {binds : List (Str × Value)} {m : Str → Option Value} {k : Str} {v : Value} (hn : (binds.map (·.1)).Nodup) (hm : (k, v) ∈ binds) (hk : kindOf k ≠ some .local) : bindC kindOf binds m k = some v := by
 induction binds generalizing m with
 | nil => cases hm
 | cons p r ih =>
  rw [List.map_cons, List.nodup_cons] at hn
  refine (List.mem_cons.mp hm).elim (fun e => ?_) fun hm => ih hn.2 hm
  subst e
  exact (Zmt hn.1).trans ((congrFun (if_neg hk) k).trans (if_pos rfl))
theorem Zcg {vs : List (String × Value)} (h : (vs.map (·.1)).Nodup) : ((Zaf vs).map (·.1)).Nodup := by
 unfold Zaf
 rw [List.map_map]
 rw [show ((fun x : Str × Value => x.1) ∘ fun p : String × Value => (ofString p.1, p.2)) = ofString ∘ (fun p : String × Value => p.1) from rfl, ← List.map_map]
 exact List.Pairwise.map _ (fun a b (hab : a ≠ b) e => hab (Zah.mp e)) h
theorem Zcb {vs : List (String × Value)} {p : String × Value} (h : p ∈ vs) : (ofString p.1, p.2) ∈ Zaf vs := List.mem_map_of_mem (f := fun p : String × Value => (ofString p.1, p.2)) h
structure Za2 (env : Env) (scope : Scope) (qual : Str) (f : Addr) (cd : Value) : Prop where
 scope : env.scope = scope
 qual : env.qual = qual ++ ".<locals>."
 func : env.func = some f
 code : env.code = cd
 frame : env.frame = some env.locals
 gl : env.globals = mainGlobals
 bu : env.builtins = builtinsNs
variable {R : Result → Shared → Prop} {f : Addr} {o : Obj} {name qual : Str} {params : Arguments} {body : List Stmt} {scope : Scope} {cl : List (Str × Addr)} {dV kV doc pm cdv ct : Value} {an : Option Addr} {args : List Value}
theorem Znl (W : Wd K s.heap) (hA : A.depth < recursionLimit) (ho : s.heap.get? f = some o) (hd : o.data = .func (fnX name qual params body scope [] dV kV doc pm an cdv ct)) (hcd : s.heap.CodeRec cdv qual)
  (hbind : BindsTo s (fnX name qual params body scope [] dV kV doc pm an cdv ct) ⟨args, []⟩ (Zaf vs)) (hnd : (vs.map (·.1)).Nodup)
  (hkind : ((Zaf vs).all fun y => scope.names.lookup y.1 == some .local || scope.names.lookup y.1 == some .cell) = true)
  (h : ∀ env s₁, Za2 env scope qual f cdv → env.cells = cellsFrom (env.locals + 1) scope.names [] → env.locals = s.heap.objs.size → Zbw env s → (∀ x, env.kindOf x = some .cell → ∃ c, env.cells.lookup x = some c) → Loc env s [] vs [] s₁ →
   wpAny (model prog w) (A.deeper env) (execs body env) (fun fl s' => R (.ok (.ret (match fl with | .ret v => v | _ => .none))) s') (fun _ _ => False) s₁)
  (hco : autoParam (scope.isCoroutine = false) aK) (hgen : autoParam (scope.isGenerator = false) aK) (hk : autoParam (scope.kind = .function) aK) :
  codeAny (model prog w) A (.call (.ref f) ⟨args, []⟩) R s := by
 refine codeAny_call_function hA ho hd hco hgen rfl hcd (hbind _ _ _ _ ?_)
 refine wpAny_newFunctionEnv_cells hk (kindsX hkind _) fun env' he s' x => ?_
 refine ⟨W.lim.keeps x.toInCall.keep, codeAny_func ?_⟩
 have cells : env'.cells = cellsFrom (s.heap.objs.size + 1) scope.names [] := by rw [he]; rfl
 have loc : env'.locals = s.heap.objs.size := by rw [he]; rfl
 have sc : env'.scope = scope := by rw [he]; rfl
 have hi : ∀ b, b = env'.locals ∨ (∃ x, env'.cells.lookup x = some b) → s.heap.objs.size ≤ b := by
  rintro b (rfl | ⟨y, e⟩)
  ·exact Nat.le_of_eq loc.symm
  ·exact Nat.le_of_lt (loc ▸ x.above y b (mem_of_lookup e))
 have some' : ∀ x, env'.kindOf x = some .cell → ∃ c, env'.cells.lookup x = some c := fun y hy => by
  have := cellsFrom_some (x := y) scope.names (s.heap.objs.size + 1) [] (.inl (by rw [← sc]; exact hy))
  rw [← cells] at this
  exact Option.isSome_iff_exists.mp this
 refine Z9 x.done fun h₁ tk e1 e2 => ?_
 have hsz : s.heap.objs.size < s'.heap.objs.size := by have := x.toInCall.ns.lt; rw [loc] at this; exact this
 have L : Loc env' s [] vs [] s' := by
  refine ⟨?_, ⟨⟨_, x.toInCall.ns⟩, fun y c e => ⟨?_, _, x.cell y c e⟩, fun y z c e1 e2 => name_of_addr x.apart (mem_of_lookup e1) (mem_of_lookup e2), loc ▸ W.big, fun b hb ht => ?_, by rw [sc]; exact hk, by rw [he]; rfl, by rw [he]; rfl⟩, fun p hp => ?_, fun _ h => (nomatch h), fun _ h => (nomatch h), fun _ h => (nomatch h), List.nodup_nil, fun _ h => (nomatch h)⟩
  ·rw [e1]
   rw [e1] at hsz
   exact Ext.keeps e2 (fun t => Nat.le_trans t (Nat.le_of_lt hsz))
  ·exact Nat.ne_of_gt (x.above y c (mem_of_lookup e))
  ·exact absurd (Nat.le_trans W.big (hi b hb)) (Nat.not_le.mpr (Zz _ ht))
  ·have hm := Zcb hp
   have q := List.all_eq_true.mp hkind _ hm
   have q : scope.names.lookup (ofString p.1) = some .local ∨ scope.names.lookup (ofString p.1) = some .cell := by simpa using q
   rw [← sc] at q
   rcases q with q | q
   ·exact .inl ⟨q, _, x.toInCall.ns, Zmp (Zcg hnd) hm q⟩
   ·obtain ⟨c, hc⟩ := some' _ q
    refine .inr ⟨c, .inl q, hc, ?_⟩
    have := x.cell _ _ hc
    rwa [Zls (Zcg hnd) hm (fun e => by rw [show env'.kindOf (ofString p.1) = some .cell from q] at e; cases e)] at this
 have hfin := h env' s' ⟨sc, by rw [he]; rfl, by rw [he]; rfl, by rw [he]; rfl, by rw [he]; rfl, by rw [he]; rfl, by rw [he]; rfl⟩ (by rw [cells, loc]) loc ⟨Heap.get?_none_of_le (hi _ (.inl rfl)), Nat.le_trans W.big (hi _ (.inl rfl)), fun y c _ e => ⟨Heap.get?_none_of_le (hi _ (.inr ⟨y, e⟩)), Nat.le_trans W.big (hi _ (.inr ⟨y, e⟩))⟩⟩ some' L
 exact wpAny_mono hfin (fun _ _ z => z) (fun _ _ z => z.elim)
theorem Zqs (W : Wd K s.heap) (hA : A.depth < recursionLimit) (ho : s.heap.get? f = some o) (hd : o.data = .func (fnX name qual params body scope cl dV kV doc pm an cdv ct)) (hcd : s.heap.CodeRec cdv qual)
  (hbind : BindsTo s (fnX name qual params body scope cl dV kV doc pm an cdv ct) ⟨args, []⟩ (Zaf vs)) (hnd : (vs.map (·.1)).Nodup)
  (hkind : ((Zaf vs).all fun y => scope.names.lookup y.1 == some .local) = true) (hcell : ∀ x ∈ scope.names, x.2 ≠ .cell)
  (hcl : ∀ x c, cl.lookup x = some c → ∃ v, s.heap.IsCell c v) (hci : ∀ x y c, cl.lookup x = some c → cl.lookup y = some c → x = y) (hct : ∀ x c, cl.lookup x = some c → c ∉ Zbn)
  (h : ∀ env s₁, Za2 env scope qual f cdv → env.cells = cl → env.locals = s.heap.objs.size → Zbw env s → Loc env s [] vs [] s₁ →
   wpAny (model prog w) (A.deeper env) (execs body env) (fun fl s' => R (.ok (.ret (match fl with | .ret v => v | _ => .none))) s') (fun _ _ => False) s₁)
  (hco : autoParam (scope.isCoroutine = false) aK) (hgen : autoParam (scope.isGenerator = false) aK) (hk : autoParam (scope.kind = .function) aK) :
  codeAny (model prog w) A (.call (.ref f) ⟨args, []⟩) R s := by
 refine codeAny_call_def (fd := fnX name qual params body scope cl dV kV doc pm an cdv ct) (body := body) (binds := Zaf vs) hA ho hd W.lim hcd rfl hbind hcell (fun x hx => by simpa using List.all_eq_true.mp hkind x hx) (fun h₁ hns hk₁ => ?_) hco hgen hk
 have nocell : ∀ x, scope.names.lookup x = some .cell → False := fun x e => hcell _ (mem_of_lookup e) rfl
 have rev : ∀ p ∈ Zaf vs, (Zaf vs).reverse.lookup p.1 = some p.2 := fun p hp => by
  have nd := Zcg hnd
  have : ∀ (l : List (Str × Value)), (l.map (·.1)).Nodup → ∀ p ∈ l, l.lookup p.1 = some p.2 := by
   intro l
   induction l with
   | nil => intro _ p hp; cases hp
   | cons q r ih =>
    intro nd p hp
    rw [List.map_cons, List.nodup_cons] at nd
    rw [List.lookup_cons]
    rcases List.mem_cons.mp hp with rfl | hp
    ·simp
    ·have : (p.1 == q.1) = false := by
      rw [beq_eq_false_iff_ne]
      intro e
      exact nd.1 (e ▸ List.mem_map_of_mem hp)
     rw [this]; exact ih nd.2 p hp
  refine this _ ?_ p (List.mem_reverse.mpr hp)
  rw [List.map_reverse]; exact (List.pairwise_reverse.mpr (nd.imp fun h => h.symm))
 have old : ∀ x c, cl.lookup x = some c → c < s.heap.objs.size := fun x c e => (hcl x c e).elim fun _ hv => hv.lt
 have L : Loc (callEnv (fnX name qual params body scope cl dV kV doc pm an cdv ct) s.heap.objs.size f) s [] vs [] { s with heap := h₁, toks := s.toks + (Zaf vs).length } := by
  refine ⟨Ext.keeps hk₁ (fun t => Nat.le_trans t (Nat.le_of_lt hns.lt)), ⟨⟨_, hns⟩, fun y c e => ⟨Nat.ne_of_lt (old y c e), ?_⟩, hci, W.big, fun b hb ht => ?_, hk, rfl, rfl⟩, fun p hp => ?_, fun _ h => (nomatch h), fun _ h => (nomatch h), fun _ h => (nomatch h), List.nodup_nil, fun _ h => (nomatch h)⟩
  ·obtain ⟨v, hv⟩ := hcl y c e
   exact ⟨v, hv.keeps hk₁⟩
  ·rcases hb with rfl | ⟨y, e⟩
   ·exact absurd W.big (Nat.not_le.mpr (Zz _ ht))
   ·exact hct y b e ht
  ·have q : scope.names.lookup (ofString p.1) = some .local := by simpa using List.all_eq_true.mp hkind _ (Zcb hp)
   exact .inl ⟨q, _, hns, rev _ (Zcb hp)⟩
 have hfin := h (callEnv (fnX name qual params body scope cl dV kV doc pm an cdv ct) s.heap.objs.size f) _ ⟨rfl, rfl, rfl, rfl, rfl, rfl, rfl⟩ rfl rfl ⟨Heap.get?_none_of_le (Nat.le_refl _), W.big, fun y c (q : scope.names.lookup y = some .cell) _ => (nocell y q).elim⟩ L
 exact wpAny_mono hfin (fun _ _ z => z) (fun _ _ z => z.elim)
noncomputable abbrev Zaw (us : List Value) : Obj := { cls := .type "tuple", data := .seq us.toArray }
noncomputable abbrev Zu (us : List Value) : Obj := { cls := .type "list", data := .seq us.toArray }
theorem Zd {h : Heap} {o : Obj} : ∀ b o', h.get? b = some o' → (h.push o).get? b = some o' := fun _ _ e => Heap.get?_push_of_some _ e
theorem Zc {h : Heap} : h.get? h.objs.size = none := Heap.get?_none_of_le (Nat.le_refl _)
theorem Loc.fresh {o : Obj} {a : Addr} (C : Loc env s₀ [] vs l s) (hm : (a, o) ∈ l) : s₀.heap.get? a = none ∧ 316 ≤ a ∧ s.heap.get? a = some o :=
 ⟨(C.own _ hm).1.resolve_left (fun h => nomatch h), (C.own _ hm).2, C.led _ hm⟩
theorem Loc.cint (C : Loc env s₀ X vs l s) {i : Int} {k : Nat} {pos : Pos} {Q : Value → Shared → Prop} (h : ∀ s' t, Loc env s₀ X vs l s' → Q (.int i t) s') : wpAny (model prog w) A (eval (.Constant (.int i) k pos) env) Q E s := wpAny_Constant_int (h _ _ C.tok)
theorem Loc.cstr (C : Loc env s₀ X vs l s) {i : Str} {k : Nat} {pos : Pos} {Q : Value → Shared → Prop} (h : ∀ s' t, Loc env s₀ X vs l s' → Q (.str i t) s') : wpAny (model prog w) A (eval (.Constant (.str i) k pos) env) Q E s := wpAny_Constant_str (h _ _ C.tok)
theorem Loc.cbytes (C : Loc env s₀ X vs l s) {i : List UInt8} {k : Nat} {pos : Pos} {Q : Value → Shared → Prop} (h : ∀ s' t, Loc env s₀ X vs l s' → Q (.bytes i.toArray t) s') : wpAny (model prog w) A (eval (.Constant (.bytes i) k pos) env) Q E s := by
 show wpAny (model prog w) A (do standAt pos; constValue env (.bytes i)) Q E s
 exact wpAny_bind (wpAny_standAt (wpAny_mkTextBytes (h _ _ C.tok)))
theorem Loc.iadd (C : Loc env s₀ X vs l s) {a b : Int} {t u : Tok} {Q : Value → Shared → Prop} (h : ∀ s' t', Loc env s₀ X vs l s' → Q (.int (a + b) t') s') : wpAny (model prog w) A (binaryOp .Add (.int a t) (.int b u)) Q E s := add_int (h _ _ C.tok)
theorem Loc.isub (C : Loc env s₀ X vs l s) {a b : Int} {t u : Tok} {Q : Value → Shared → Prop} (h : ∀ s' t', Loc env s₀ X vs l s' → Q (.int (a - b) t') s') : wpAny (model prog w) A (binaryOp .Sub (.int a t) (.int b u)) Q E s := sub_int (h _ _ C.tok)
theorem Loc.imul (C : Loc env s₀ X vs l s) {a b : Int} {t u : Tok} {Q : Value → Shared → Prop} (hm : IntMulOk a b) (h : ∀ s' t', Loc env s₀ X vs l s' → Q (.int (a * b) t') s') : wpAny (model prog w) A (binaryOp .Mult (.int a t) (.int b u)) Q E s := mul_int (h _ _ C.tok) hm
theorem Loc.idiv (C : Loc env s₀ X vs l s) {a b : Int} {t u : Tok} {Q : Value → Shared → Prop} (hb : b ≠ 0) (hp : Builtin.divisionGoesByPylong a b = false) (h : ∀ s' t', Loc env s₀ X vs l s' → Q (.int (a.fdiv b) t') s') : wpAny (model prog w) A (binaryOp .FloorDiv (.int a t) (.int b u)) Q E s := floordiv_int hb (h _ _ C.tok) (.inl hp)
theorem Loc.imod (C : Loc env s₀ X vs l s) {a b : Int} {t u : Tok} {Q : Value → Shared → Prop} (hb : b ≠ 0) (h : ∀ s' t', Loc env s₀ X vs l s' → Q (.int (a.fmod b) t') s') : wpAny (model prog w) A (binaryOp .Mod (.int a t) (.int b u)) Q E s := mod_int' hb (h _ _ C.tok)
theorem Loc.ishl (C : Loc env s₀ X vs l s) {a n : Int} {t u : Tok} {Q : Value → Shared → Prop} (h0 : 0 ≤ n) (h1 : n ≤ 1000000) (ha : a.natAbs < 2 ^ 64) (h : ∀ s' t', Loc env s₀ X vs l s' → Q (.int (a * 2 ^ n.toNat) t') s') : wpAny (model prog w) A (binaryOp .LShift (.int a t) (.int n u)) Q E s := lshift_int_small h0 h1 ha (h _ _ C.tok)
theorem Loc.ishr (C : Loc env s₀ X vs l s) {a n : Int} {t u : Tok} {Q : Value → Shared → Prop} (h0 : 0 ≤ n) (h : ∀ s' t', Loc env s₀ X vs l s' → Q (.int (a.fdiv (2 ^ n.toNat)) t') s') : wpAny (model prog w) A (binaryOp .RShift (.int a t) (.int n u)) Q E s := rshift_int h0 (h _ _ C.tok)
theorem Loc.ixor (C : Loc env s₀ X vs l s) {a b : Int} {t u : Tok} {Q : Value → Shared → Prop} (h : ∀ s' t', Loc env s₀ X vs l s' → Q (.int (Builtin.bitXor a b) t') s') : wpAny (model prog w) A (binaryOp .BitXor (.int a t) (.int b u)) Q E s := xor_int (h _ _ C.tok)
theorem Loc.ineg (C : Loc env s₀ X vs l s) {a : Int} {t : Tok} {Q : Value → Shared → Prop} (h : ∀ s' t', Loc env s₀ X vs l s' → Q (.int (-a) t') s') : wpAny (model prog w) A (unaryOp .USub (.int a t)) Q E s := neg_int (h _ _ C.tok)
theorem Loc.iinv (C : Loc env s₀ X vs l s) {a : Int} {t : Tok} {Q : Value → Shared → Prop} (h : ∀ s' t', Loc env s₀ X vs l s' → Q (.int (Builtin.bitNot a) t') s') : wpAny (model prog w) A (unaryOp .Invert (.int a t)) Q E s := invert_int (h _ _ C.tok)
theorem Loc.tup (C : Loc env s₀ X vs l s) {us : List Value} {Q : Value → Shared → Prop} (hsz : us.length ≤ sizeLine) (h : ∀ a s', Loc env s₀ X vs ((a, Zaw us) :: l) s' → Q (.ref a) s') : wpAny (model prog w) A (newTuple us) Q E s :=
 have e : Ext [] [] s { s with heap := s.heap.push (Zaw us) } := C.extK (tk := s.toks) Zd
 wpAny_newTuple (h _ _ (C.add e Zc C.big (Heap.get?_push_size _ rfl))) hsz
theorem Loc.lst (C : Loc env s₀ X vs l s) {us : List Value} {Q : Value → Shared → Prop} (hsz : us.length ≤ sizeLine) (h : ∀ a s', Loc env s₀ X vs ((a, Zu us) :: l) s' → Q (.ref a) s') : wpAny (model prog w) A (newList us) Q E s :=
 have e : Ext [] [] s { s with heap := s.heap.push (Zu us) } := C.extK (tk := s.toks) Zd
 wpAny_newList (h _ _ (C.add e Zc C.big (Heap.get?_push_size _ rfl))) hsz
theorem Loc.store (C : Loc env s₀ X vs l s) (O : Zbw env s₀) (hc : ∀ x, env.kindOf x = some .cell → ∃ c, env.cells.lookup x = some c) {x : String} {v : Value} {Q : Unit → Shared → Prop} (hk : env.kindOf (ofString x) = some .local ∨ env.kindOf (ofString x) = some .cell)
  (h : ∀ s', Loc env s₀ X (Zbd x v vs) l s' → Q () s') : wpAny (model prog w) A (storeName env (ofString x) v) Q E s := by
 rcases hk with hk | hk
 ·exact C.storeL O hk h
 ·obtain ⟨c, e⟩ := hc _ hk
  exact C.storeC O hk e h
theorem Zld {M : Model} {e1 e2 : Expr} {u v : Value} {Q : Unit → Shared → Prop} (h : wpAny M A (assign e1 env u) (fun _ s₁ => wpAny M A (assign e2 env v) Q E s₁) E s) :
  wpAny M A (assignInOrder [assign e1 env, assign e2 env] [u, v]) Q E s := by
 show wpAny M A (do holding [v] (assign e1 env u); (do holding [] (assign e2 env v); pure ())) Q E s
 refine wpAny_bind (wpAny_holding (wpAny_mono h (fun _ s₁ h₁ => ?_) fun _ _ x => x))
 exact wpAny_bind (wpAny_holding (wpAny_mono h₁ (fun _ _ q => wpAny_pure q) fun _ _ x => x))
theorem Loc.untup2 (C : Loc env s₀ X vs l s) (hh : A.handled = none) {x y : Str} {p1 p2 pos : Pos} {k : Nat} {t : Addr} {u v : Value} {Q : Unit → Shared → Prop} (hm : (t, Zaw [u, v]) ∈ l)
  (h : ∀ s', Loc env s₀ X vs l s' → wpAny (model prog w) A (storeName env x u) (fun _ s₁ => wpAny (model prog w) A (storeName env y v) Q E s₁) E s') :
  wpAny (model prog w) A (assign (.Tuple [.Name x p1, .Name y p2] k pos) env (.ref t)) Q E s := by
 refine wpAny_assign_Tuple hh ⟨_, C.led _ hm, rfl, _, rfl⟩ rfl rfl fun h' hx => ?_
 have k' : ∀ b o, s.heap.get? b = some o → h'.get? b = some o := fun b o e => hx b o (Nat.ne_of_lt (Heap.lt_size e)) e
 refine Zld (wpAny_assign_Name ?_)
 exact wpAny_mono (h _ (C.keeps (tk := s.toks) k')) (fun _ _ q => wpAny_mono (wpAny_assign_Name q) (fun _ _ z => z) fun _ _ z => z) fun _ _ z => z
theorem Zq6 {k : Option NameKind} (h : (k == some .local || k == some .cell) = true) : k = some .local ∨ k = some .cell := by simpa using h
theorem Zr1 {k : Option NameKind} (h : (k != some .local) = true) : k ≠ some .local := by simpa using h
theorem Zqk {env : Env} {sc : Scope} {q : Str} {f : Addr} {cd : Value} {x : Str} (E : Za2 env sc q f cd) (h : (sc.names.lookup x == some .local || sc.names.lookup x == some .cell) = true) : env.kindOf x = some .local ∨ env.kindOf x = some .cell := Zq6 (by unfold Env.kindOf; rw [E.scope]; exact h)
theorem Zqr {env : Env} {sc : Scope} {q : Str} {f : Addr} {cd : Value} {x : Str} (E : Za2 env sc q f cd) (h : (sc.names.lookup x != some .local) = true) : env.kindOf x ≠ some .local := Zr1 (by unfold Env.kindOf; rw [E.scope]; exact h)
theorem Zqj {env : Env} {sc : Scope} {q : Str} {f : Addr} {cd : Value} {x : Str} {k : Option NameKind} (E : Za2 env sc q f cd) (h : sc.names.lookup x = k) : env.kindOf x = k := by unfold Env.kindOf; rw [E.scope]; exact h
noncomputable def Zjd : Flow → Value
 | .ret v => v
 | _ => .none
noncomputable def FnK (K : Frag) (f : Addr) (name qual : Str) (st : Stmt) (cl : List (Str × Addr)) (dV : Value) (c : Addr) : Prop :=
 ∃ oc od osl kV doc pm an ct, K.lookup f = some ⟨oc, od, .func (fnX name qual (Zaj st) (Zl st) (Zb st) cl dV kV doc pm an (.ref c) ct), osl⟩ ∧ codeIn K (.ref c) qual = true
structure Zk (A : Around) (n : Nat) : Prop where
 hd : A.handled = none
 dp : A.depth + n < 900
 un : A.units + 20 * n < 9000
 fr : ∃ fr, A.frames = some fr
 gd : ∃ gd, A.guards = some gd
theorem Zk.deeper {A : Around} {n : Nat} {env : Env} (R : Zk A (n + 1)) : Zk (A.deeper env) n :=
 ⟨R.hd, by have := R.dp; simp only [Around.deeper]; lia, by have := R.un; simp only [Around.deeper]; lia, let ⟨fr, e⟩ := R.fr; ⟨env :: fr, by simp [Around.deeper, e]⟩, R.gd⟩
theorem Zk.in1 {A : Around} {n : Nat} (R : Zk A (n + 1)) : Zk A.in1 n :=
 ⟨R.hd, by have := R.dp; simp only [Around.in1]; exact Nat.le_of_lt ‹_›, by have := R.un; simp only [Around.in1]; lia, R.fr, R.gd⟩
theorem Zk.le {A : Around} {n m : Nat} (R : Zk A n) (h : autoParam (m ≤ n) aD) : Zk A m := ⟨R.hd, by have := R.dp; lia, by have := R.un; lia, R.fr, R.gd⟩
theorem Zk.lt {A : Around} {n : Nat} (R : Zk A n) : A.depth < recursionLimit := by have := R.dp; simp only [recursionLimit]; lia
theorem Zk.ul {A : Around} {n : Nat} (R : Zk A n) : A.units < cLine := by have := R.un; simp only [cLine]; lia
theorem Zw (W : Wd K s.heap) {n : Nat} (R : Zk A n) {f c : Addr} {name qual : Str} {st : Stmt} {dV : Value} (hf : FnK K f name qual st [] dV c) {args : List Value} (vs : List (String × Value)) {Q : Value → Shared → Prop}
  (hbind : ∀ kV doc pm an ct, BindsTo s (fnX name qual (Zaj st) (Zl st) (Zb st) [] dV kV doc pm an (.ref c) ct) ⟨args, []⟩ (Zaf vs))
  (h : ∀ env s₁, Za2 env (Zb st) qual f (.ref c) → Zbw env s → (∀ x, env.kindOf x = some .cell → ∃ c, env.cells.lookup x = some c) → Loc env s [] vs [] s₁ →
   wpAny (model prog w) (A.deeper env) (execs (Zl st) env) (fun fl s' => Q (Zjd fl) s') (fun _ _ => False) s₁)
  (hnd : autoParam (Zdo (vs.map (·.1)) = true) aK)
  (hkind : autoParam (((Zaf vs).all fun y => (Zb st).names.lookup y.1 == some .local || (Zb st).names.lookup y.1 == some .cell) = true) aK)
  (hco : autoParam ((Zb st).isCoroutine = false) aK) (hgen : autoParam ((Zb st).isGenerator = false) aK) (hk : autoParam ((Zb st).kind = .function) aK) :
  wpAny (model prog w) A (call (.ref f) args) Q E s := by
 obtain ⟨oc, od, osl, kV, doc, pm, an, ct, e1, e2⟩ := hf
 refine wpAny_call (Znl W R.lt (W.k _ _ e1) rfl (codeRec_of W.k e2) (hbind kV doc pm an ct) (Zc0 hnd) hkind (fun env s₁ h1 _ _ h2 h3 C => wpAny_mono (h env s₁ h1 h2 h3 C) (fun fl s' q => ?_) fun _ _ q => q) hco hgen hk)
 cases fl <;> exact q
theorem Zg3 {M : Model} {b : List Stmt} {st : Stmt} {rest : List Stmt} {Q : Flow → Shared → Prop} (hb : b = st :: rest) (h : wpAny M A (execs (st :: rest) env) Q E s) : wpAny M A (execs b env) Q E s := hb ▸ h
noncomputable def Zb0 (env : Env) (names : List (Str × NameKind)) : List (Str × Addr) := names.foldl (fun cs p => if p.2 == .free then (p.1, (env.cells.lookup p.1).getD 0) :: cs else cs) []
structure Zcm (cenv env : Env) (sc : Scope) : Prop where
 scope : cenv.scope = relabel sc env
 cells : cenv.cells = Zb0 env sc.names
 gl : cenv.globals = env.globals
 bu : cenv.builtins = env.builtins
 code : cenv.code = env.code
 frame : cenv.frame = env.frame
 func : cenv.func = none
 qual : cenv.qual = env.qual
theorem Zdt {env : Env} {k0 : NameKind} (hk0 : k0 ≠ .free) {names : List (Str × NameKind)} {x : Str} (h : names.lookup x = some k0) :
  (names.map fun (n, k) => if (k == NameKind.free && env.scope.kind == .function && env.kindOf n == some .cell) then (n, NameKind.cell) else (n, k)).lookup x = some k0 := by
 induction names with
 | nil => cases h
 | cons p r ih =>
  obtain ⟨n, k⟩ := p
  show List.lookup x ((if (k == NameKind.free && env.scope.kind == .function && env.kindOf n == some .cell) = true then (n, NameKind.cell) else (n, k)) :: _) = _
  cases hx : x == n with
  | true =>
   simp only [List.lookup_cons, hx] at h
   cases h
   have e : (k0 == NameKind.free) = false := by simpa using hk0
   simp only [e, Bool.false_and, Bool.false_eq_true, if_false, List.lookup_cons, hx]
  | false =>
   simp only [List.lookup_cons, hx] at h
   split <;> simp only [List.lookup_cons, hx] <;> exact ih h
theorem Zcm.kindG {cenv env : Env} {sc : Scope} (ce : Zcm cenv env sc) {x : Str} (h : sc.names.lookup x = some .globalImplicit) : cenv.kindOf x = some .globalImplicit := by
 unfold Env.kindOf
 rw [ce.scope]
 exact Zdt (by decide) h
local macro_rules | `(tactic| walk_at "M") => `(tactic| first | (with_reducible first | exact M0 | exact M1 | exact M2 | exact M3 | (refine Mn ?_; walk_at "M")) | (with_reducible refine List.mem_append_right _ ?_; walk_at "M") | (with_reducible refine List.mem_append_left _ ?_; walk_at "M") | assumption)
local macro_rules | `(tactic| walk_at "K") => `(tactic| ((first | refine Zqj (by assumption) ?_ | refine Zqk (by assumption) ?_ | refine Zqr (by assumption) ?_ | refine Zcm.kindG (by assumption) ?_); kernel_rfl))
local macro_rules | `(tactic| walk_at "N") => `(tactic| (refine Loc.name (by assumption) (by walk_at "M") ?_))
local macro_rules | `(tactic| walk_at "A") => `(tactic| first | exact List.forall_mem_nil _ | (refine List.forall_mem_cons.mpr ⟨?_, ?_⟩ <;> walk_at "A") | (refine ⟨?_, ?_⟩ <;> walk_at "A") | walk_at "K" | walk_at "M" | (refine List.mem_of_elem_eq_true ?_; kernel_rfl))
local macro_rules | `(tactic| walk_at "T") => `(tactic| first | (with_reducible exact Zec.head _ _) | (with_reducible exact Zec.nil) | (with_reducible apply Zec.tail; walk_at "T"))
local macro_rules | `(tactic| walk_at "U") => `(tactic| first | (with_reducible exact List.Sublist.refl _) | (with_reducible exact List.nil_sublist _) | (with_reducible refine List.Sublist.cons_cons _ ?_; walk_at "U") | (with_reducible refine List.Sublist.cons _ ?_; walk_at "U") | (with_reducible refine List.Sublist.trans ?_ (List.sublist_append_right _ _); walk_at "U"))
theorem Zc6 : ∀ p ∈ Zhq, bootBuiltins (ofString p.1) = some p.2 ∧ ofString p.1 ≠ "__name__" ∧ (ofString p.1 == ("__debug__" : Str)) = false := by decide +kernel
theorem Zm3 : ∀ p ∈ Zi1, (ofString p.1 == ("__debug__" : Str)) = false := by decide +kernel
structure KG (K : Frag) : Prop where
 fn : ∀ p ∈ Zi1, nsIn K mainGlobals (ofString p.1) = some (some p.2)
 bn : ∀ p ∈ Zhq, nsIn K mainGlobals (ofString p.1) = some none
theorem Loc.gn (C : Loc env s₀ X vs l s) (W : Wd K s₀.heap) (G : KG K) {x : String} {v : Value} {pos : Pos} {Q : Value → Shared → Prop} (hm : (x, v) ∈ Zi1) (hk : env.kindOf (ofString x) = some .globalImplicit) (h : Q v s) :
  wpAny (model prog w) A (eval (.Name (ofString x) pos) env) Q E s := C.gname W hk (G.fn _ hm) h (Zm3 _ hm)
theorem Loc.bn (C : Loc env s₀ X vs l s) (W : Wd K s₀.heap) (G : KG K) {x : String} {v : Value} {pos : Pos} {Q : Value → Shared → Prop} (hm : (x, v) ∈ Zhq) (hk : env.kindOf (ofString x) = some .globalImplicit) (h : Q v s) :
  wpAny (model prog w) A (eval (.Name (ofString x) pos) env) Q E s := C.bname W hk (G.bn _ hm) (Zc6 _ hm).1 h (Zc6 _ hm).2.1 (Zc6 _ hm).2.2
theorem Zlc (C : Loc env s₀ X vs l s) {a b : Int} {t u : Tok} {Q : Value → Shared → Prop} (hb : b ≠ 0) (hp : Builtin.divisionGoesByPylong a b = false)
  (h : ∀ p t1 t2 s', Loc env s₀ X vs ((p, Zaw [.int (a.fdiv b) t1, .int (a.fmod b) t2]) :: l) s' → Q (.ref p) s') : wpAny (model prog w) A (call (.builtin "divmod") [.int a t, .int b u]) Q E s :=
 have e : Ext [] [] s { s with toks := s.toks + 1 + 1, heap := s.heap.push (Zaw [.int (a.fdiv b) s.toks, .int (a.fmod b) (s.toks + 1)]) } := C.extK Zd
 PyProof.Rows.divmod_int hb (h _ _ _ _ (C.add e Zc C.big (Heap.get?_push_size _ rfl))) (.inl hp)
theorem Zip (C : Loc env s₀ X vs l s) {a : Int} {t : Tok} {Q : Value → Shared → Prop} (h : ∀ s' t', Loc env s₀ X vs l s' → Q (.int (Builtin.Int.intBits a) t') s') : wpAny (model prog w) A (call (.builtin "int.bit_length") [.int a t]) Q E s :=
 PyProof.Rows.call_int_bit_length (h _ _ C.tok)
theorem Zbt {name : Str} {ov : Value} {pos : Pos} {args : List (Bool × Sem Value)} {Q : Value → Shared → Prop} (T id : String) (pa : PlainAttrs T) (sl : Slot T name id) (hty : typeOf (.builtin id) = pure (.type "method_descriptor")) (hT : s.TypeIs ov T)
  (hd : ∀ a, ov = .ref a → ∃ ob, s.heap.get? a = some ob ∧ ob.dict = none) (h : wpAny (model prog w) A (callWith pos (.builtin id) [ov] args []) Q E s) : MethodOnS prog w A E name ov pos args Q s := ⟨T, id, pa, sl, hty, hT, hd, h⟩
variable {M : Model}
noncomputable abbrev Zlo (M : Model) (A : Around) (rest : List Stmt) (env : Env) (Q : Flow → Shared → Prop) (E : Value → Shared → Prop) : Flow → Shared → Prop := fun f s' => match f with | .next => wpAny M A (execs rest env) Q E s' | f => Q f s'
theorem Zi {st : Stmt} {rest : List Stmt} {Q : Flow → Shared → Prop} (h : wpAny M A (exec st env) (Zlo M A rest env Q E) E s) : wpAny M A (execs (st :: rest) env) Q E s := wpAny_execs_cons h
noncomputable abbrev nx (Q : Flow → Shared → Prop) : Unit → Shared → Prop := fun _ => Q .next
noncomputable abbrev Zr4 (M : Model) (A : Around) (env : Env) (x : Str) (Q : Flow → Shared → Prop) (E : Value → Shared → Prop) : Value → Shared → Prop := fun v s₁ => wpAny M A (storeName env x v) (nx Q) E s₁
theorem Zmz {x : Str} {pos' pos : Pos} {value : Expr} {Q : Flow → Shared → Prop} (h : wpAny M A (eval value env) (Zr4 M A env x Q E) E s) (hs : autoParam (swapsWith value (some (.Name x pos')) pos.line env = Pure.pure false) aR) : wpAny M A (exec (.Assign [.Name x pos'] value pos) env) Q E s := wpAny_Assign_Name h hs
noncomputable abbrev Zso (M : Model) (A : Around) (op : Operator) (a : Value) (Q : Value → Shared → Prop) (E : Value → Shared → Prop) : Value → Shared → Prop := fun b s₂ => wpAny M A (binaryOp op a b) Q E s₂
noncomputable abbrev Zsa (M : Model) (A : Around) (r : Expr) (env : Env) (op : Operator) (Q : Value → Shared → Prop) (E : Value → Shared → Prop) : Value → Shared → Prop := fun a s₁ => wpAny M A (eval r env) (Zso M A op a Q E) E s₁
theorem Zn {l r : Expr} {op : Operator} {pos : Pos} {Q : Value → Shared → Prop} (h : wpAny M A (eval l env) (Zsa M A r env op Q E) E s) : wpAny M A (eval (.BinOp l op r pos) env) Q E s := wpAny_BinOp h
noncomputable abbrev Zsg (v : Value) (Q : List Value → Shared → Prop) : List Value → Shared → Prop := fun vs s₂ => Q (v :: vs) s₂
noncomputable abbrev Zr8 (M : Model) (A : Around) (rest : List Expr) (env : Env) (pos : Pos) (Q : List Value → Shared → Prop) (E : Value → Shared → Prop) : Value → Shared → Prop := fun v s₁ => wpAny M A (spliced (backTo pos (starEach rest env))) (Zsg v Q) E s₁
theorem Za {e : Expr} {rest : List Expr} {pos : Pos} {Q : List Value → Shared → Prop} (h : wpAny M A (eval e env) (Zr8 M A rest env pos Q E) E s) (he : autoParam (starEach (e :: rest) env = (false, eval e env) :: starEach rest env) aR) :
  wpAny M A (spliced (backTo pos (starEach (e :: rest) env))) Q E s := spliced_more h he
noncomputable abbrev Zr2 (M : Model) (A : Around) (pos : Pos) (args : List Expr) (env : Env) (Q : Value → Shared → Prop) (E : Value → Shared → Prop) : Value → Shared → Prop := fun f s₁ => wpAny M A (callWith pos f [] (backTo pos (starEach args env)) []) Q E s₁
theorem Zf {id : Str} {p pos : Pos} {args : List Expr} {Q : Value → Shared → Prop} (h : wpAny M A (eval (.Name id p) env) (Zr2 M A pos args env Q E) E s) : wpAny M A (eval (.Call (.Name id p) args [] pos) env) Q E s := wpAny_Call_NameR h
noncomputable abbrev if1 (M : Model) (A : Around) (body orelse : List Stmt) (env : Env) (Q : Flow → Shared → Prop) (E : Value → Shared → Prop) : Bool → Shared → Prop := fun b s₁ => if b then wpAny M A (execs body env) Q E s₁ else wpAny M A (execs orelse env) Q E s₁
theorem xif {test : Expr} {body orelse : List Stmt} {pos : Pos} {Q : Flow → Shared → Prop} (h : wpAny M A (isTrue test env (eval test env)) (if1 M A body orelse env Q E) E s) : wpAny M A (exec (.If test body orelse pos) env) Q E s := wpAny_If h
noncomputable abbrev tr1 (M : Model) (A : Around) (Q : Bool → Shared → Prop) (E : Value → Shared → Prop) : Value → Shared → Prop := fun c s₃ => wpAny M A (truthy c) Q E s₃
noncomputable abbrev Zr9 (M : Model) (A : Around) (op : CmpOp) (a : Value) (Q : Bool → Shared → Prop) (E : Value → Shared → Prop) : Value → Shared → Prop := fun b s₂ => wpAny M A (compareOp op a b) (tr1 M A Q E) E s₂
noncomputable abbrev Zsk (M : Model) (A : Around) (r : Expr) (env : Env) (op : CmpOp) (Q : Bool → Shared → Prop) (E : Value → Shared → Prop) : Value → Shared → Prop := fun a s₁ => wpAny M A (eval r env) (Zr9 M A op a Q E) E s₁
theorem Z0 {l r : Expr} {op : CmpOp} {pos : Pos} {whole : Sem Value} {Q : Bool → Shared → Prop} (h : wpAny (model prog w) A (eval l env) (Zsk (model prog w) A r env op Q E) E s) (hb : autoParam (behindInMarks op r = false) aU) :
  wpAny (model prog w) A (isTrue (.Compare l [op] [r] pos) env whole) Q E s := wpAny_isTrue_Compare1 h hb
theorem Zb1 {e : Expr} {whole : Sem Value} {Q : Bool → Shared → Prop} (h : wpAny (model prog w) A whole (tr1 (model prog w) A Q E) E s) (he : autoParam (isTrue e env whole = (do let v ← whole; standAt e.pos; holding [v] (truthy v))) aR) : wpAny (model prog w) A (isTrue e env whole) Q E s := isTrue_plain h he
noncomputable abbrev vsQ (M : Model) (A : Around) (f : Value) (Q : Value → Shared → Prop) (E : Value → Shared → Prop) : List Value → Shared → Prop := fun vs s₁ => wpAny M A (call f vs) Q E s₁
theorem xb1 {pos : Pos} {id : String} {e : Expr} {rest : List Expr} {Q : Value → Shared → Prop} (h : wpAny (model prog w) A (spliced (backTo pos (starEach (e :: rest) env))) (vsQ (model prog w) A (.builtin id) Q E) E s)
  (he : autoParam (starEach (e :: rest) env = (false, eval e env) :: starEach rest env) aR) (hplain : autoParam ((backTo pos (starEach rest env)).any (·.1) = false) aR) :
  wpAny (model prog w) A (callWith pos (.builtin id) [] (backTo pos (starEach (e :: rest) env)) []) Q E s := PyProof.Rows.callWith_builtin1 h he hplain
theorem xt1 {pos : Pos} {T : String} {e : Expr} {rest : List Expr} {Q : Value → Shared → Prop} (h : wpAny (model prog w) A (spliced (backTo pos (starEach (e :: rest) env))) (vsQ (model prog w) A (.type T) Q E) E s)
  (he : autoParam (starEach (e :: rest) env = (false, eval e env) :: starEach rest env) aR) (hplain : autoParam ((backTo pos (starEach rest env)).any (·.1) = false) aR) :
  wpAny (model prog w) A (callWith pos (.type T) [] (backTo pos (starEach (e :: rest) env)) []) Q E s := PyProof.Rows.callWith_type1 h he hplain
noncomputable abbrev Zrp (Q : Flow → Shared → Prop) : Value → Shared → Prop := fun v => Q (.ret v)
theorem Zpr {e : Expr} {pos : Pos} {Q : Flow → Shared → Prop} (h : wpAny M A (eval e env) (Zrp Q) E s) : wpAny M A (exec (.Return (some e) pos) env) Q E s := wpAny_Return_some h
noncomputable abbrev Zrq (M : Model) (A : Around) (env : Env) (Q : Flow → Shared → Prop) (E : Value → Shared → Prop) : Result → Shared → Prop := fun r s' => match r with | .ok f => Q f s' | .error e => cameBackBy M A env E e s'
noncomputable abbrev Zr6 (M : Model) (A : Around) (target : Expr) (body orelse : List Stmt) (env : Env) (Q : Flow → Shared → Prop) (E : Value → Shared → Prop) : Value → Shared → Prop := fun it s₂ => codeAny M A (.forLoop target it body orelse env) (Zrq M A env Q E) s₂
noncomputable abbrev Zrh (M : Model) (A : Around) (target : Expr) (body orelse : List Stmt) (env : Env) (Q : Flow → Shared → Prop) (E : Value → Shared → Prop) : Value → Shared → Prop := fun x s₁ => wpAny M A (pyIter x) (Zr6 M A target body orelse env Q E) E s₁
theorem Zrr {target iter : Expr} {body orelse : List Stmt} {pos : Pos} {Q : Flow → Shared → Prop} (h : wpAny M A (eval iter env) (Zrh M A target body orelse env Q E) E s) (hs : autoParam (∀ x, foldedSetIterable iter env x = Pure.pure x) aI) :
  wpAny M A (exec (.For target iter body orelse pos) env) Q E s := wpAny_For h hs
theorem Zkq {test : Expr} {body orelse : List Stmt} {pos : Pos} {Q : Flow → Shared → Prop} (h : codeAny M A (.whileLoop test body orelse env) (Zrq M A env Q E) s) : wpAny M A (exec (.While test body orelse pos) env) Q E s := wpAny_While h
noncomputable abbrev un1 (M : Model) (A : Around) (op : UnaryOp) (Q : Value → Shared → Prop) (E : Value → Shared → Prop) : Value → Shared → Prop := fun v s₁ => wpAny M A (unaryOp op v) Q E s₁
theorem xun {op : UnaryOp} {x : Expr} {pos : Pos} {Q : Value → Shared → Prop} (h : wpAny (model prog w) A (eval x env) (un1 (model prog w) A op Q E) E s) : wpAny (model prog w) A (eval (.UnaryOp op x pos) env) Q E s := wpAny_UnaryOp h
noncomputable abbrev kQ (K : Frag) (M : Model) (A : Around) (f : Value) (Q : Value → Shared → Prop) (E : Value → Shared → Prop) : List Value → Shared → Prop := fun vs s₁ => K.In s₁.heap ∧ wpAny M A (call f vs) Q E s₁
noncomputable abbrev noE : Value → Shared → Prop := fun _ _ => False
noncomputable abbrev Zrt {α : Type} (env : Env) (s₀ : Shared) (X : List Addr) (P : α → Prop) (V : α → List (String × Value)) (Ld : α → List (Addr × Obj)) (I : Addr) (oI : Obj) (R : Result → Shared → Prop) : Flow → Shared → Prop := fun f s₂ => match f with
 | .next | .cont => ∃ d', P d' ∧ Loc env s₀ X (V d') ((I, oI) :: Ld d') s₂
 | .brk => R (.ok .next) s₂
 | .ret v => R (.ok (.ret v)) s₂
noncomputable abbrev Zrk (M : Model) (A : Around) (body : List Stmt) (env : Env) (Q : Flow → Shared → Prop) : Unit → Shared → Prop := fun _ s₁ => wpAny M A (execs body env) Q noE s₁
noncomputable abbrev Zra {α : Type} (env : Env) (s₀ : Shared) (X : List Addr) (μ : α → Nat) (n : Nat) (P : α → Prop) (V : α → List (String × Value)) (Ld : α → List (Addr × Obj)) (R : Result → Shared → Prop) : Flow → Shared → Prop := fun f s₂ => match f with
 | .next | .cont => ∃ d', μ d' < n ∧ P d' ∧ Loc env s₀ X (V d') (Ld d') s₂
 | .brk => R (.ok .next) s₂
 | .ret v => R (.ok (.ret v)) s₂
noncomputable abbrev okR (R : Result → Shared → Prop) : Flow → Shared → Prop := fun f s₂ => R (.ok f) s₂
noncomputable abbrev Zrj (M : Model) (A : Around) (body orelse : List Stmt) (env : Env) (T : Flow → Shared → Prop) (R : Result → Shared → Prop) : Bool → Shared → Prop := fun b s₁ => if b = true then wpAny M A (execs body env) T noE s₁ else wpAny M A (execs orelse env) (okR R) noE s₁
theorem xca {x : Str} {pos' pos : Pos} {value : Expr} {rest : List Stmt} {Q : Flow → Shared → Prop} (h : wpAny M A (eval value env) (Zr4 M A env x (Zlo M A rest env Q E) E) E s) (hs : autoParam (swapsWith value (some (.Name x pos')) pos.line env = Pure.pure false) aR) : wpAny M A (execs (.Assign [.Name x pos'] value pos :: rest) env) Q E s := Zi (Zmz h hs)
theorem xci {test : Expr} {body orelse rest : List Stmt} {pos : Pos} {Q : Flow → Shared → Prop} (h : wpAny M A (isTrue test env (eval test env)) (if1 M A body orelse env (Zlo M A rest env Q E) E) E s) : wpAny M A (execs (.If test body orelse pos :: rest) env) Q E s := Zi (xif h)
theorem xcr {e : Expr} {pos : Pos} {rest : List Stmt} {Q : Flow → Shared → Prop} (h : wpAny M A (eval e env) (Zrp Q) E s) : wpAny M A (execs (.Return (some e) pos :: rest) env) Q E s := Zi (Zpr h)
theorem xcf {target iter : Expr} {body orelse rest : List Stmt} {pos : Pos} {Q : Flow → Shared → Prop} (h : wpAny M A (eval iter env) (Zrh M A target body orelse env (Zlo M A rest env Q E) E) E s) (hs : autoParam (∀ x, foldedSetIterable iter env x = Pure.pure x) aI) :
  wpAny M A (execs (.For target iter body orelse pos :: rest) env) Q E s := Zi (Zrr h hs)
theorem ifS {c : Prop} [Decidable c] {a b : Prop} (ha : c → a) (hb : ¬c → b) : if c then a else b := if h : c then ifP h (ha h) else ifN h (hb h)
local macro_rules | `(tactic| walk_at "G") => `(tactic| (refine Loc.gn (by assumption) (by assumption) (by assumption) (by walk_at "M") (by walk_at "K") ?_))
local macro_rules | `(tactic| walk_at "B") => `(tactic| (refine Loc.bn (by assumption) (by assumption) (by assumption) (by walk_at "M") (by walk_at "K") ?_))
theorem Ziq (W : Wd K s.heap) (G : KG K) (R : Zk A 10) (hf : FnK K 56 (ofString "_div2n1n") (ofString "_div2n1n") (top 6) [] .none 55) {a b n : Int} {t1 t2 t3 : Tok} {Q : Value → Shared → Prop}
  (hb : b ≠ 0) (hn : (Builtin.Int.intBits a : Int) - n ≤ 4000) (hp : Builtin.divisionGoesByPylong a b = false)
  (h : ∀ p u v s', s.heap.get? p = none → 316 ≤ p → Ext [] [] s s' → s'.heap.get? p = some (Zaw [.int (a.fdiv b) u, .int (a.fmod b) v]) → Q (.ref p) s') :
  wpAny (model prog w) A (call (.ref 56) [.int a t1, .int b t2, .int n t3]) Q E s := by
 refine Zw W R hf [("a", .int a t1), ("b", .int b t2), ("n", .int n t3)] (fun _ _ _ _ _ => BindsTo.of_eq rfl) fun env s₁ hE hO hc C => ?_
 refine Zg3 rfl ?_
 refine Zi (xif ?_)
 refine Z0 ?_
 refine Zn ?_
 refine wpAny_Call_method_lateS rfl rfl rfl ?_
 walk_at "N"
 refine Zbt "int" "int.bit_length" F.plainAttrs_int F.slot_int_bit_length F.type_int_bit_length (typeIs_int _ _ _) (fun _ x => by cases x) (callWith_method0 ?_)
 refine Zip C fun s₂ t₄ C => ?_
 walk_at "N"
 refine C.isub ?_; clear C; intro s₃ t₅ C
 walk_at "G"
 refine le_int (wpAny_truthy_bool ?_)
 rw [decide_eq_true hn]
 refine Zi (Zpr (Zf ?_))
 walk_at "B"
 refine xb1 (Za ?_)
 walk_at "N"
 refine Za ?_
 walk_at "N"
 refine spliced_none ?_
 refine Zlc C hb hp fun p u v s₄ C => ?_
 refine Zae (C.fresh M0) fun f1 f2 f3 => ?_
 exact h p u v s₄ f1 f2 C.ext f3
noncomputable def Zy (o : Obj) (us : List Value) : Prop := o.cls = .type "list" ∧ ∃ n, o.data = .seq us.toArray n
noncomputable def Zjo (o : Obj) (a : Addr) (i : Nat) : Prop := o.cls = .type "list_iterator" ∧ o.data = .fields #[.ref a, .int i 0]
theorem Zm (us : List Value) : Zy (Zu us) us := ⟨rfl, _, rfl⟩
theorem Zy.at {h : Heap} {a : Addr} {o : Obj} {us : List Value} (x : Zy o us) (e : h.get? a = some o) : h.IsList a us.toArray := ⟨o, e, x.1, x.2⟩
theorem Zap.but {h h' : Heap} {a : Addr} (x : Zap h) (ha : 316 ≤ a) (hn : ∀ o, h.get? a = some o → Zs o) (k : ∀ b o, b ≠ a → h.get? b = some o → h'.get? b = some o) : Zap h' := fun q hq => by
 refine Z1 (x q hq) fun ps c1 c2 c3 => ?_
 refine Z6 (Z7 q hq) fun _ _ h3 h4 _ => ?_
 have n1 : q.1 ≠ a := Nat.ne_of_lt (Nat.lt_of_lt_of_le h3 ha)
 have n2 : q.2 ≠ a := Nat.ne_of_lt (Nat.lt_of_lt_of_le h4 ha)
 refine ⟨ps, ?_, ?_, fun pos cv e => Zas (c3 pos cv e) hn k⟩
 ·refine Zbu c1 fun o vs file tf flags tg inF text tt op e1 r1 r2 r3 r4 r5 r6 e2 r => ?_
  exact ⟨o, vs, file, tf, flags, tg, inF, text, tt, op, k _ _ n1 e1, r1, r2, r3, r4, r5, r6, k _ _ n2 e2, r⟩
 ·obtain ⟨⟨o, vs, e, r⟩, t⟩ := c2
  exact ⟨⟨o, vs, k _ _ n1 e, r⟩, k _ _ n2 t⟩
theorem Z5 {h : Heap} {a : Addr} {o : Obj} (e : h.get? a = some o) (n : Zs o) : ∀ o', h.get? a = some o' → Zs o' := fun o' e' => by
 rw [e] at e'; cases e'; exact n
theorem Zau {o : Obj} {us : List Value} (x : Zy o us) : Zs o := by
 refine Zlp x fun _ n d => ?_
 exact Zbm (fun vs q => by rw [d] at q; cases q) (fun vs q => by rw [d] at q; cases q)
theorem Loc.die (C : Loc env s₀ X vs l s) {I : Addr} {oI : Obj} {l' : List (Addr × Obj)} (hl : l = (I, oI) :: l') (h0 : s₀.heap.get? I = none) (hn : Zs oI) {h' : Heap} {tk : Nat} (k : ∀ b o, b ≠ I → s.heap.get? b = some o → h'.get? b = some o) :
  Loc env s₀ X vs l' { s with heap := h', toks := tk } := by
 subst hl
 have hI := C.off _ M0
 have h3 := (C.own _ M0).2
 have hn' : ∀ o, s.heap.get? I = some o → Zs o := fun o e => by
  have := C.led _ M0
  rw [e] at this; cases this; exact hn
 have fr : ∀ b o, b = env.locals ∨ (∃ x, env.cells.lookup x = some b) → s.heap.get? b = some o → h'.get? b = some o := fun b o hb e => k b o (fun q => by
  subst q
  rcases hb with q | ⟨x, q⟩
  ·exact hI.1 q
  ·exact hI.2 x q) e
 have ne0 : ∀ b o, s₀.heap.get? b = some o → b ≠ I := fun b o e q => by rw [q, h0] at e; cases e
 have nd := C.nd
 rw [List.map_cons, List.nodup_cons] at nd
 refine ⟨⟨fun b o h1 h2 e => k b o (ne0 b o e) (C.ext.keep b o h1 h2 e), fun b o h1 h2 e => k b o (ne0 b o e) (C.ext.lowk b o h1 h2 e), fun b o hX e => ?_, fun t => (C.ext.tab t).but h3 hn' k, fun t => ?_, C.ext.dr, C.ext.os, C.ext.gsz, C.ext.gk, C.ext.gb, fun cv q x => Zas (C.ext.cr cv q x) hn' k⟩,
  C.fr.step fr, fun p hp => (C.bd p hp).step fr, fun p hp => ?_, fun p hp => C.own p (.tail _ hp), fun p hp => C.off p (.tail _ hp), nd.2, fun p hp fd e => Zas (C.fc p (.tail _ hp) fd e) hn' k⟩
 ·obtain ⟨o', e'⟩ := C.ext.al b o hX e
  exact ⟨o', k b o' (ne0 b o e) e'⟩
 ·refine Za4 C.fr.ns fun ρ o es ep e _ => ?_
  exact Nat.le_trans C.fr.hiL (Nat.le_of_lt (Heap.lt_size (fr _ _ (.inl rfl) e)))
 ·exact k _ _ (fun q => nd.1 (List.mem_map.mpr ⟨p, hp, q⟩)) (C.led p (.tail _ hp))
structure Zdr (prog : Program) (w : World) (A : Around) (n : Nat) (O : Nat → Obj → Prop) (P : Nat → Value → Prop) (side : Heap → Prop) : Prop where
 item : ∀ i I (s : Shared) (Q : Option Value → Shared → Prop) (E : Value → Shared → Prop), i < n → (∃ o, s.heap.get? I = some o ∧ O i o) → side s.heap →
  (∀ v h' tk, P i v → (∃ o, h'.get? I = some o ∧ O (i + 1) o) → Heap.SameBut I s.heap h' → Q (some v) { s with heap := h', toks := tk }) → wpAny (model prog w) A (pyNext (.ref I)) Q E s
 done : ∀ I (s : Shared) (Q : Option Value → Shared → Prop) (E : Value → Shared → Prop), (∃ o, s.heap.get? I = some o ∧ O n o) → side s.heap →
  (∀ h' tk, (∀ b o, b ≠ I → s.heap.get? b = some o → h'.get? b = some o) → Q none { s with heap := h', toks := tk }) → wpAny (model prog w) A (pyNext (.ref I)) Q E s
 nc : ∀ i o, O i o → Zs o
 self : ∀ i I (s : Shared) (Q : Value → Shared → Prop) (E : Value → Shared → Prop), (∃ o, s.heap.get? I = some o ∧ O i o) → Q (.ref I) s → wpAny (model prog w) A (pyIter (.ref I)) Q E s
theorem Zbl (hA : A.handled = none) (a : Addr) (us : List Value) : Zdr prog w A us.length (fun i o => Zjo o a i) (fun i v => us[i]? = some v) (fun h => h.IsList a us.toArray) where
 item := fun i I s Q E hi ⟨o, e, h1, h2⟩ hs k => by
  obtain ⟨u, hu⟩ : ∃ u, us[i]? = some u := ⟨us[i], by simp [hi]⟩
  exact wpAny_pyNext_list_item ⟨o, e, h1, h2⟩ hs (by simpa using hu) fun h' hit hsb => k u h' s.toks hu (Z1 hit fun o' a b c => ⟨o', a, b, c⟩) hsb
 done := fun I s Q E ⟨o, e, h1, h2⟩ hs k => wpAny_pyNext_list_end hA ⟨o, e, h1, h2⟩ hs (by simp) fun h' hx => k h' s.toks hx
 nc := fun i o ⟨_, h2⟩ => by
  refine ⟨fun vs q t e => ?_, fun fd e => ?_⟩
  ·rw [h2] at e; cases e
   intro x; cases x
  ·rw [h2] at e; cases e
 self := fun i I s Q E ⟨o, e, h1, h2⟩ q => wpAny_pyIter_listiter ⟨o, e, h1, h2⟩ q
noncomputable abbrev Zfh (x left step : Int) : Obj := { cls := .type "range_iterator", dict := none, data := .fields #[rawInt x, rawInt left, rawInt step], slots := #[] }
theorem Zcz (hA : A.handled = none) (a c : Int) (n : Nat) : Zdr prog w A n (fun i o => o = Zfh (a + i * c) ((n : Int) - i) c) (fun i v => ∃ t, v = .int (a + i * c) t) (fun _ => True) where
 item := fun i I s Q E hi ⟨o, e, h1⟩ hs k => by
  subst h1
  refine wpAny_pyNext_range_item e (by simp +arith [*]) fun h' hit hsb => k _ h' _ ⟨_, rfl⟩ ⟨_, hit, ?_⟩ hsb
  have e1 : a + (i : Int) * c + c = a + ((i + 1 : Nat) : Int) * c := by rw [Int.natCast_succ, Int.add_mul]; simp +arith
  have e2 : (n : Int) - i - 1 = (n : Int) - ((i + 1 : Nat) : Int) := by simp +arith
  rw [e1, e2]
 done := fun I s Q E ⟨o, e, h1⟩ hs k => by
  subst h1
  exact wpAny_pyNext_range_end hA e (by simp +arith [*]) fun h' hx => k h' s.toks hx
 nc := fun i o h1 => by
  subst h1
  refine ⟨fun vs q t e => ?_, fun fd e => ?_⟩
  ·cases e
   intro x; cases x
  ·cases e
 self := fun i I s Q E ⟨o, e, h1⟩ q => by
  subst h1
  exact wpAny_pyIter_rangeiter e q
theorem Loc.pyIterL (C : Loc env s₀ [] vs l s) {a : Addr} {us : List Value} {Q : Value → Shared → Prop} (hl : s.heap.IsList a us.toArray)
  (h : ∀ I oI s', s₀.heap.get? I = none → Zjo oI a 0 → Loc env s₀ [] vs ((I, oI) :: l) s' → Q (.ref I) s') : wpAny (model prog w) A (pyIter (.ref a)) Q E s := by
 refine wpAny_pyIter_list hl ?_
 have e : Ext [] [] s { s with heap := s.heap.push { cls := .type "list_iterator", data := .fields #[.ref a, .int 0 0] } } := C.extK (tk := s.toks) Zd
 exact h _ _ _ (C.noneAt Zc (fun h => nomatch h)) ⟨rfl, rfl⟩ (C.add e Zc C.big (Heap.get?_push_size _ rfl))
theorem Loc.pyIterR (C : Loc env s₀ [] vs l s) {r : Addr} {a b c : Int} {t u v : Tok} {Q : Value → Shared → Prop} (hr : IsRange s.heap r a b c t u v) (hs : Builtin.Range.small a b c = true) (n : Nat) (hn : Builtin.Range.rangeSize a b c = n)
  (h : ∀ I s', s₀.heap.get? I = none → Loc env s₀ [] vs ((I, Zfh a n c) :: l) s' → Q (.ref I) s') : wpAny (model prog w) A (pyIter (.ref r)) Q E s := by
 refine wpAny_pyIter_range hr hs ?_
 rw [hn]
 have e : Ext [] [] s { s with heap := s.heap.push (Zfh a n c) } := C.extK (tk := s.toks) Zd
 exact h _ _ (C.noneAt Zc (fun h => nomatch h)) (C.add e Zc C.big (Heap.get?_push_size _ rfl))
theorem Loc.forI {α : Type} (P : Nat → α → Prop) (V : Nat → α → List (String × Value)) (Ld : Nat → α → List (Addr × Obj)) {target : Expr} {body orelse : List Stmt} {R : Result → Shared → Prop} {n : Nat} {O : Nat → Obj → Prop} {Pv : Nat → Value → Prop} {side : Heap → Prop} {d0 : α} {I : Addr} {oI : Obj}
  (S : Zdr prog w A n O Pv side) (hI : s₀.heap.get? I = none) (hO : O 0 oI) (C : Loc env s₀ X (V 0 d0) ((I, oI) :: Ld 0 d0) s) (h0 : P 0 d0)
  (hl : ∀ i d oI s', P i d → Loc env s₀ X (V i d) ((I, oI) :: Ld i d) s' → side s'.heap)
  (turn : ∀ i d oI u s', i < n → Pv i u → P i d → Loc env s₀ X (V i d) ((I, oI) :: Ld i d) s' →
   wpAny (model prog w) A (assign target env u) (Zrk (model prog w) A body env (Zrt env s₀ X (P (i + 1)) (V (i + 1)) (Ld (i + 1)) I oI R)) noE s')
  (done : ∀ d s', P n d → Loc env s₀ X (V n d) (Ld n d) s' → wpAny (model prog w) A (execs orelse env) (okR R) noE s')
  (ht : autoParam (∀ I v, letOwnedTupleGo target I v = Pure.pure ()) aJ) :
  codeAny (model prog w) A (.forLoop target (.ref I) body orelse env) R s := by
 refine codeAny_forLoop_any (fun k s' => ∀ T_ : Prop, (∀ i d oI, k = n + 1 - i → i ≤ n → P i d → O i oI → Loc env s₀ X (V i d) ((I, oI) :: Ld i d) s' → T_) → T_) ?_ (n + 1) (fun _ kk => kk 0 d0 _ (Eq.refl (n + 1)) (Nat.zero_le _) h0 hO C)
 intro k s' hh
 refine hh _ fun i d oI eK hi hP hO CI => ?_; clear hh; subst eK
 have sd := hl i d oI s' hP CI
 have it := CI.led _ M0
 by_cases hlt : i < n
 ·refine S.item i I s' _ _ hlt ⟨oI, it, hO⟩ sd fun u h' tk hu hit hs => ?_
  refine Zo hit fun oJ q1 q2 => ?_
  have x1 : Ext [I] [] s' { s' with heap := h', toks := tk } := Ext.same (CI.own _ M0).2 (Z5 it (S.nc _ _ hO)) M0 hs ⟨oJ, q1⟩
  have CJ := CI.put x1 J0 q1 (S.nc _ _ q2).2
  refine wpAny_of_eq (ht _ _) ?_
  refine wpAny_mono (turn i d oJ u _ hlt hu hP CJ) (fun _ s₁ h₁ => wpAny_mono h₁ (fun f s₂ h₂ => ?_) fun _ _ q => q.elim) fun _ _ q => q.elim
  cases f with
  | next =>
   refine Zo h₂ fun d' hP' C' => ?_
   exact ⟨_, nD hlt, fun _ kk => kk (i + 1) d' oJ rfl hlt hP' q2 C'⟩
  | cont =>
   refine Zo h₂ fun d' hP' C' => ?_
   exact ⟨_, nD hlt, fun _ kk => kk (i + 1) d' oJ rfl hlt hP' q2 C'⟩
  | brk => exact h₂
  | ret v => exact h₂
 ·have : i = n := by lia
  subst this
  refine S.done I s' _ _ ⟨oI, it, hO⟩ sd fun h' tk hx => ?_
  exact wpAny_mono (done d _ hP (CI.die rfl hI (S.nc _ _ hO) hx)) (fun _ _ q => q) (fun _ _ q => q.elim)
theorem Loc.whileI {α : Type} (P : α → Prop) (μ : α → Nat) (V : α → List (String × Value)) (Ld : α → List (Addr × Obj)) {test : Expr} {body orelse : List Stmt} {R : Result → Shared → Prop} {d0 : α} (C : Loc env s₀ X (V d0) (Ld d0) s) (h0 : P d0)
  (turn : ∀ d s', P d → Loc env s₀ X (V d) (Ld d) s' → wpAny (model prog w) A (isTrue test env (eval test env)) (Zrj (model prog w) A body orelse env (Zra env s₀ X μ (μ d) P V Ld R) R) noE s') :
  codeAny (model prog w) A (.whileLoop test body orelse env) R s := by
 refine codeAny_whileLoop (fun k s' => ∃ d, k = μ d ∧ P d ∧ Loc env s₀ X (V d) (Ld d) s') ?_ (μ d0) ⟨d0, rfl, h0, C⟩
 rintro k s' ⟨d, rfl, hP, C'⟩
 refine wpAny_mono (turn d s' hP C') (fun b s₁ h₁ => ?_) fun _ _ q => q.elim
 cases b with
 | true =>
  simp only [if_true] at h₁ ⊢
  refine wpAny_mono h₁ (fun f s₂ h₂ => ?_) fun _ _ q => q.elim
  cases f with
  | next =>
   refine Z1 h₂ fun d' hm hP' C'' => ?_
   exact ⟨_, hm, d', rfl, hP', C''⟩
  | cont =>
   refine Z1 h₂ fun d' hm hP' C'' => ?_
   exact ⟨_, hm, d', rfl, hP', C''⟩
  | brk => exact h₂
  | ret v => exact h₂
 | false =>
  simp only [Bool.false_eq_true, if_false] at h₁ ⊢
  exact wpAny_mono h₁ (fun _ _ q => q) fun _ _ q => q.elim
noncomputable def Zan (s s' : Shared) (new : List (Addr × Obj)) : Prop := (∀ p ∈ new, s.heap.get? p.1 = none ∧ 316 ≤ p.1 ∧ s'.heap.get? p.1 = some p.2) ∧ (new.map (·.1)).Nodup ∧ ∀ p ∈ new, ∀ fd, p.2.data = .func fd → s'.heap.CodeRec fd.code fd.qualname
theorem Zan.nil {s s' : Shared} : Zan s s' [] := ⟨fun _ h => (nomatch h), List.nodup_nil, fun _ h => (nomatch h)⟩
theorem Zan.one {s s' : Shared} {a : Addr} {o : Obj} (h1 : s.heap.get? a = none) (h2 : 316 ≤ a) (h3 : s'.heap.get? a = some o) (hf : ∀ fd, o.data = .func fd → s'.heap.CodeRec fd.code fd.qualname := by intro fd h; cases h) : Zan s s' [(a, o)] := ⟨fun p hp => by rw [List.mem_singleton.mp hp]; exact ⟨h1, h2, h3⟩, by simp, fun p hp => by rw [List.mem_singleton.mp hp]; exact hf⟩
theorem Zx {scope : Scope} {env : Env} (h : ∀ p ∈ scope.names, p.2 = .free → (env.cells.lookup p.1).isSome = true) : closureFor scope env = Pure.pure (Zb0 env scope.names) := by
 unfold closureFor Zb0
 have key : ∀ (names : List (Str × NameKind)) (acc : List (Str × Addr)), (∀ p ∈ names, p.2 = .free → (env.cells.lookup p.1).isSome = true) →
   (forIn names acc fun x r => match x with | (name, kind) => (if kind == NameKind.free then do let a ← cellOf env name; Pure.pure (ForInStep.yield ((name, a) :: r)) else Pure.pure (ForInStep.yield r) : Sem _)) = (Pure.pure (names.foldl (fun cs p => if p.2 == .free then (p.1, (env.cells.lookup p.1).getD 0) :: cs else cs) acc) : Sem _) := by
  intro names
  induction names with
  | nil => intro acc _; rfl
  | cons p r ih =>
   intro acc hp
   obtain ⟨n, k⟩ := p
   rw [List.forIn_cons, List.foldl_cons]
   by_cases hk : k = .free
   ·subst hk
    obtain ⟨c, hc⟩ := Option.isSome_iff_exists.mp (hp _ M0 rfl)
    have e : cellOf env n = Pure.pure c := by unfold cellOf; rw [hc]
    simp only [beq_self_eq_true, if_true, e, hc, Option.getD_some]
    exact ih _ fun q hq => hp q (.tail _ hq)
   ·have e : (k == NameKind.free) = false := by simpa using hk
    simp only [e, Bool.false_eq_true, if_false]
    exact ih _ fun q hq => hp q (.tail _ hq)
 have := key scope.names [] h
 simp only [bind_pure]
 first
  | exact this
  | (rw [← this]; rfl)
  | (refine Eq.trans ?_ this; rfl)
theorem Zfe {env : Env} (names : List (Str × NameKind)) : ∀ (acc : List (Str × Addr)), (∀ p ∈ names, p.2 = .free → (env.cells.lookup p.1).isSome = true) → (∀ x c, acc.lookup x = some c → env.cells.lookup x = some c) →
  (∀ x c, (names.foldl (fun cs p => if p.2 == NameKind.free then (p.1, (env.cells.lookup p.1).getD 0) :: cs else cs) acc).lookup x = some c → env.cells.lookup x = some c) ∧
  (∀ x, ((x, NameKind.free) ∈ names ∨ (acc.lookup x).isSome = true) → ((names.foldl (fun cs p => if p.2 == NameKind.free then (p.1, (env.cells.lookup p.1).getD 0) :: cs else cs) acc).lookup x).isSome = true) := by
 induction names with
 | nil => exact fun acc _ h2 => ⟨h2, fun x h => h.elim (fun q => nomatch q) id⟩
 | cons p r ih =>
  intro acc h1 h2
  by_cases hk : p.2 = .free
  ·refine (Option.isSome_iff_exists.mp (h1 _ M0 hk)).elim fun c hc => ?_
   have e0 : (if p.2 == NameKind.free then (p.1, (env.cells.lookup p.1).getD 0) :: acc else acc) = (p.1, c) :: acc := (if_pos (beq_iff_eq.mpr hk)).trans (by rw [hc]; rfl)
   rw [List.foldl_cons, e0]
   refine x_A (ih ((p.1, c) :: acc) (fun q hq => h1 q (.tail _ hq)) fun x d e => ?_) fun i1 i2 => ⟨i1, fun x h => i2 x ?_⟩
   ·rw [List.lookup_cons] at e
    cases hb : x == p.1 with
    | true => rw [hb] at e; rw [eq_of_beq hb, hc]; exact e
    | false => rw [hb] at e; exact h2 x d e
   ·rw [List.lookup_cons]
    refine h.elim (fun h => (List.mem_cons.mp h).elim (fun e => .inr ?_) .inl) fun h => .inr ?_
    ·rw [← e]; rw [beq_self_eq_true]; rfl
    ·cases x == p.1 with
     | true => rfl
     | false => exact h
  ·rw [List.foldl_cons, if_neg (fun e => hk (beq_iff_eq.mp e))]
   refine x_A (ih acc (fun q hq => h1 q (.tail _ hq)) h2) fun i1 i2 => ⟨i1, fun x h => i2 x (h.imp_left fun h => (List.mem_cons.mp h).resolve_left fun e => hk (by rw [← e]))⟩
theorem Zd6 {env : Env} {names : List (Str × NameKind)} {x : Str} (h : names.lookup x = some .free) :
  (names.map fun (n, k) => if (k == NameKind.free && env.scope.kind == .function && env.kindOf n == some .cell) then (n, NameKind.cell) else (n, k)).lookup x = some .cell ∨
  (names.map fun (n, k) => if (k == NameKind.free && env.scope.kind == .function && env.kindOf n == some .cell) then (n, NameKind.cell) else (n, k)).lookup x = some .free := by
 induction names with
 | nil => cases h
 | cons p r ih =>
  rw [List.lookup_cons] at h
  obtain ⟨n, k⟩ := p
  show List.lookup x ((if (k == NameKind.free && env.scope.kind == .function && env.kindOf n == some .cell) = true then (n, NameKind.cell) else (n, k)) :: _) = _ ∨ List.lookup x ((if (k == NameKind.free && env.scope.kind == .function && env.kindOf n == some .cell) = true then (n, NameKind.cell) else (n, k)) :: _) = _
  by_cases hc : (k == NameKind.free && env.scope.kind == .function && env.kindOf n == some .cell) = true
  ·rw [if_pos hc, List.lookup_cons]
   cases hx : x == n with
   | true => exact .inl rfl
   | false => rw [hx] at h; exact ih h
  ·rw [if_neg hc, List.lookup_cons]
   cases hx : x == n with
   | true => rw [hx] at h; exact .inr h
   | false => rw [hx] at h; exact ih h
theorem Loc.addN (C : Loc env s₀ X vs l s) (x : Ext [] [] s s') {new : List (Addr × Obj)} (N : Zan s s' new) : Loc env s₀ X vs (new ++ l) s' := by
 have C' := C.pure x
 refine ⟨C'.ext, C'.fr, C'.bd, ?_, ?_, ?_, ?_, fun p hp fd e => ?_⟩
 ·intro p hp
  rcases List.mem_append.mp hp with hp | hp
  ·exact (N.1 p hp).2.2
  ·exact C'.led p hp
 ·intro p hp
  rcases List.mem_append.mp hp with hp | hp
  ·exact ⟨if q : p.1 ∈ X then .inl q else .inr (C.noneAt (N.1 p hp).1 q), (N.1 p hp).2.1⟩
  ·exact C'.own p hp
 ·intro p hp
  rcases List.mem_append.mp hp with hp | hp
  ·have ha := (N.1 p hp).1
   refine ⟨fun e => ?_, fun y e => ?_⟩
   ·refine Za4 C.fr.ns fun ρ o' _ _ e' _ => ?_
    rw [← e, ha] at e'; cases e'
   ·refine Zcs (C.fr.cel y _ e) fun _ v o' e' _ => ?_
    rw [ha] at e'; cases e'
  ·exact C'.off p hp
 ·rw [List.map_append, List.nodup_append]
  refine ⟨N.2.1, C'.nd, fun a ha b hb e => ?_⟩
  subst e
  refine Zo (List.mem_map.mp ha) fun p hp e => ?_
  refine Zo (List.mem_map.mp hb) fun q hq e' => ?_
  have h1 := (N.1 p hp).1
  have h2 := C.led q hq
  have e : p.1 = a := e
  have e' : q.1 = a := e'
  rw [e', ← e, h1] at h2; cases h2
 ·rcases List.mem_append.mp hp with hp | hp
  ·exact N.2.2 p hp fd e
  ·exact C'.fc p hp fd e
structure Z4 (env : Env) (scope : Scope) (x : Str) (vs fvs : List (String × Value)) : Prop where
 free : ∀ p ∈ scope.names, p.2 = .free → ∃ q ∈ vs, ofString q.1 = p.1 ∧ env.kindOf p.1 ≠ some .local
 cell : ∀ p ∈ scope.names, p.2 ≠ .cell
 kind : scope.kind = .function
 names : ∀ p ∈ scope.names, p.2 = .local → scope.names.lookup p.1 = some .local
 hx : scope.names.lookup x = some .local
 fv : ∀ p ∈ fvs, p ∈ vs ∧ scope.names.lookup (ofString p.1) = some .free
theorem Z4.some {scope : Scope} {x : Str} {fvs : List (String × Value)} (S : Z4 env scope x vs fvs) (C : Loc env s₀ X vs l s) : ∀ p ∈ scope.names, p.2 = .free → (env.cells.lookup p.1).isSome = true := fun p hp hk => by
 refine Z1 (S.free p hp hk) fun q hq e hn => ?_
 rcases C.bd q hq with ⟨a, _⟩ | ⟨c, _, b, _⟩
 ·rw [e] at a; exact absurd a hn
 ·rw [e] at b; rw [b]; rfl
theorem Z4.loc {scope : Scope} {x : String} {fvs : List (String × Value)} (S : Z4 env scope (ofString x) vs fvs) {cenv : Env} (ce : Zcm cenv env scope) {oC : Obj} (C : Loc env s₀ X vs l s) (hC : (cenv.locals, oC) ∈ l) {ρ : Str → Option Value} (hn : s.heap.Ns cenv.locals ρ) {v : Value} (hv : ρ (ofString x) = .some v) :
  Loc cenv s [] ((x, v) :: fvs) [] s := by
 have sm := S.some C
 obtain ⟨l1, l2⟩ := Zfe (env := env) scope.names [] sm (fun _ _ e => by cases e)
 have l1 : ∀ x c, cenv.cells.lookup x = .some c → env.cells.lookup x = .some c := fun x c e => l1 x c (by rw [ce.cells] at e; exact e)
 have hk : cenv.scope.kind = .function := by rw [ce.scope]; exact S.kind
 have kx : ∀ y, scope.names.lookup y = .some .local → cenv.kindOf y = .some .local := fun y e => by unfold Env.kindOf; rw [ce.scope]; exact lookup_relabel_local e
 refine ⟨Ext.refl _ _ _, ⟨⟨ρ, hn⟩, fun y c e => ?_, fun y z c e1 e2 => C.fr.inj y z c (l1 _ _ e1) (l1 _ _ e2), (C.own _ hC).2, fun b hb ht => ?_, hk, ce.gl.trans C.fr.gl, ce.bu.trans C.fr.bu⟩, fun p hp => ?_, fun _ h => (nomatch h), fun _ h => (nomatch h), fun _ h => (nomatch h), List.nodup_nil, fun _ h => (nomatch h)⟩
 ·have e' := l1 _ _ e
  exact ⟨fun q => (C.off _ hC).2 y (q ▸ e'), (C.fr.cel y c e').2⟩
 ·rcases hb with q | ⟨y, e⟩
  ·rw [q] at ht
   exact absurd (C.own _ hC).2 (Nat.not_le.mpr (Zz _ ht))
  ·exact C.fr.nt b (.inr ⟨y, l1 _ _ e⟩) ht
 ·rcases List.mem_cons.mp hp with rfl | hp
  ·exact .inl ⟨kx _ S.hx, ρ, hn, hv⟩
  ·obtain ⟨h1, h2⟩ := S.fv p hp
   have hm : (ofString p.1, NameKind.free) ∈ scope.names := mem_of_lookup h2
   refine Z1 (S.free _ hm rfl) fun q hq e hnl => ?_
   rcases C.bd p h1 with ⟨a, _⟩ | ⟨c, _, b, d⟩
   ·exact absurd a hnl
   ·obtain ⟨c', hc'⟩ := Option.isSome_iff_exists.mp (l2 (ofString p.1) (.inl hm))
    have hc' : cenv.cells.lookup (ofString p.1) = .some c' := by rw [ce.cells]; exact hc'
    have := l1 _ _ hc'
    rw [b] at this
    cases this
    refine .inr ⟨c, ?_, hc', d⟩
    unfold Env.kindOf
    rw [ce.scope]
    exact Zd6 h2
noncomputable def Got (G : Nat → Value → List (Addr × Obj) → Prop) (idx : List Nat) (rs : List (Value × List (Addr × Obj))) : Prop :=
 rs.length = idx.length ∧ ∀ (j i : Nat) (r : Value × List (Addr × Obj)), idx[j]? = some i → rs[j]? = some r → G i r.1 r.2
theorem Got.snoc {G : Nat → Value → List (Addr × Obj) → Prop} {idx : List Nat} {rs : List (Value × List (Addr × Obj))} (g : Got G idx rs) {i : Nat} {y : Value} {new : List (Addr × Obj)} (h : G i y new) : Got G (idx ++ [i]) (rs ++ [(y, new)]) := by
 refine ⟨by simp [g.1], fun j k (r : Value × List (Addr × Obj)) e1 e2 => ?_⟩
 by_cases hj : j < idx.length
 ·rw [List.getElem?_append_left hj] at e1
  rw [List.getElem?_append_left (g.1 ▸ hj)] at e2
  exact g.2 j k r e1 e2
 ·rw [List.getElem?_append_right (Nat.le_of_not_lt hj)] at e1
  rw [List.getElem?_append_right (by rw [g.1]; exact Nat.le_of_not_lt hj), g.1] at e2
  have : j - idx.length = 0 := by
   cases q : j - idx.length with
   | zero => rfl
   | succ m => rw [q] at e1; simp at e1
  rw [this] at e1 e2
  simp at e1 e2
  subst e1 e2
  exact h
variable {fvs : List (String × Value)}
theorem Zp {h h' : Heap} {a : Addr} {o : Obj} {ρ : Str → Option Value} (n : h.Ns a ρ) (e : h.get? a = some o) (e' : h'.get? a = some o) : h'.Ns a ρ := by
 refine Zax n fun o' es ep e1 r => ?_
 rw [e] at e1; cases e1
 exact ⟨_, es, ep, e', r⟩
theorem Loc.compR {x : String} {elt iter : Expr} {px pos : Pos} {ifs : List Expr} {scope : Scope} {n : Nat} {O : Nat → Obj → Prop} {Pv : Nat → Value → Prop} {side : Heap → Prop} {I : Addr} {oI : Obj}
  (S : Zdr prog w A n O Pv side) (cs : Z4 env scope (ofString x) vs fvs) (hI : s₀.heap.get? I = none) (hO : O 0 oI) (C : Loc env s₀ [] vs ((I, oI) :: l) s) (hsz : n ≤ sizeLine) (p : Nat → Bool) (G : Nat → Value → List (Addr × Obj) → Prop)
  (hside : ∀ s' l', Loc env s₀ [] vs (l' ++ l) s' → side s'.heap)
  (htest : ∀ i v cenv s₃ N', i < n → Pv i v → Zcm cenv env scope → Loc cenv s₃ [] ((x, v) :: fvs) [] s₃ → Loc env s₀ [] vs (N' ++ l) s₃ →
   wpAny (model prog w) A (forIn ifs true fun c r => if r = true then do let ok ← isTrue c cenv (eval c cenv); Pure.pure (ForInStep.yield ok) else Pure.pure (ForInStep.yield r)) (fun ok s₄ => ok = p i ∧ Ext [] [] s₃ s₄) (fun _ _ => False) s₃)
  (helt : ∀ i v cenv s₃ N', i < n → Pv i v → p i = true → Zcm cenv env scope → Loc cenv s₃ [] ((x, v) :: fvs) [] s₃ → Loc env s₀ [] vs (N' ++ l) s₃ →
   wpAny (model prog w) A (eval elt cenv) (fun y s₄ => ∃ new, G i y new ∧ Ext [] [] s₃ s₄ ∧ Zan s₃ s₄ new) (fun _ _ => False) s₃)
  {RR : Value → Addr → Result → Shared → Prop}
  (hRR : ∀ D oD Cc oC ρ s' (rs : List (Value × List (Addr × Obj))), s₀.heap.get? Cc = none → s'.heap.Ns Cc ρ → Zy oD (rs.map (·.1)) → Got G ((List.range n).filter p) rs → Loc env s₀ [] vs ((Cc, oC) :: (D, oD) :: (rs.flatMap (·.2) ++ l)) s' → RR (.ref D) Cc (.ok .next) s') :
  wpAny (model prog w) A (newList []) (fun acc s₃ => wpAny (model prog w) A (newFunctionEnv scope env.globals (Zb0 env scope.names) [] env.qual none .none (some env)) (fun cenv s₄ =>
   codeAny (model prog w) A (.compStart (.ListComp elt [⟨.Name (ofString x) px, iter, ifs, 0⟩] scope pos) 0 (.ref I) acc { cenv with scope := relabel scope env }) (RR acc cenv.locals) s₄) E s₃) E s := by
 refine C.lst (by simp) ?_; clear C; intro D s₃ C
 refine wpAny_newFunctionEnv cs.cell (by intro y hy; simp at hy) (fun h₁ hns hsb => ?_) cs.kind
 generalize hCc : s₃.heap.objs.size = Cc at hns hsb
 have k0 : ∀ b o, s₃.heap.get? b = some o → h₁.get? b = some o := fun b o e => (hsb.2 b (hCc ▸ Nat.ne_of_lt (Heap.lt_size e))).trans (Zd b o e)
 have e0 : Ext [] [] s₃ { s₃ with heap := h₁, toks := s₃.toks + ([] : List (Str × Value)).length } := C.extK k0
 have hn0 : s₃.heap.get? Cc = none := hCc ▸ Zc
 have hC0 : s₀.heap.get? Cc = none := C.noneAt hn0 (fun h => nomatch h)
 refine Zax (id hns) fun oC es ep hoC r => ?_
 replace C := C.add e0 hn0 (hCc ▸ C.big) hoC (fun fd q => by have r0 := r.1; rw [r0] at q; cases q)
 have ce : ∀ L, Zcm ({ newEnv scope L env.globals (Zb0 env scope.names) env.qual none Value.none (some env) builtinsNs with scope := relabel scope env } : Env) env scope := fun L => ⟨rfl, rfl, rfl, rfl, rfl, rfl, rfl, rfl⟩
 have perm3 : ∀ {a b c : Addr × Obj} {m : List (Addr × Obj)}, (c :: a :: b :: m).Perm (a :: b :: c :: m) := fun {a b c m} => (List.Perm.swap a c (b :: m)).trans (List.Perm.cons a (List.Perm.swap b c m))
 replace C : Loc env s₀ [] vs ((I, oI) :: (Cc, oC) :: (D, Zu []) :: l) _ := C.perm perm3
 generalize hs4 : ({ s₃ with heap := h₁, toks := s₃.toks + ([] : List (Str × Value)).length } : Shared) = s₄ at *
 have hns : s₄.heap.Ns Cc (fun x => ([] : List (Str × Value)).reverse.lookup x) := by rw [← hs4]; exact hns
 have loop : codeAny (model prog w) A (.compLoop (.ListComp elt [⟨.Name (ofString x) px, iter, ifs, 0⟩] scope pos) 0 (.ref I) (.ref D) ({ newEnv scope Cc env.globals (Zb0 env scope.names) env.qual none Value.none (some env) builtinsNs with scope := relabel scope env } : Env)) (RR (.ref D) Cc) s₄ := by
  generalize hce : ({ newEnv scope Cc env.globals (Zb0 env scope.names) env.qual none Value.none (some env) builtinsNs with scope := relabel scope env } : Env) = cenv
  have ce : Zcm cenv env scope := hce ▸ ce Cc
  have hloc : cenv.locals = Cc := by rw [← hce]; rfl
  have hkx : cenv.kindOf (ofString x) = some .local := by unfold Env.kindOf; rw [ce.scope]; exact lookup_relabel_local cs.hx
  have hkk : cenv.scope.kind = .function := by rw [ce.scope]; exact cs.kind
  refine codeAny_compLoop_tests (fun k s' => ∀ T_ : Prop, (∀ i oI oC oD ρ rs, k = n + 1 - i → i ≤ n → O i oI → s'.heap.Ns Cc ρ → Zy oD (rs.map (·.1)) → Got G ((List.range i).filter p) rs → Loc env s₀ [] vs ((I, oI) :: (Cc, oC) :: (D, oD) :: (rs.flatMap (·.2) ++ l)) s' → T_) → T_) ?_ (n + 1)
   (fun _ kk => kk 0 oI oC (Zu []) _ [] (Eq.refl (n + 1)) (Nat.zero_le _) hO hns (Zm []) ⟨rfl, fun j i r e => by simp at e⟩ C)
  intro k s' hh
  refine hh _ fun i oI oC oD ρ rs eK hi hO hρ hD hG C => ?_; clear hh; subst eK
  have sd := hside s' _ (show Loc env s₀ [] vs ((((I, oI) :: (Cc, oC) :: (D, oD) :: rs.flatMap (·.2)) ++ l)) s' from C)
  by_cases hlt : i < n
  ·refine S.item i I s' _ _ hlt ⟨oI, C.led _ M0, hO⟩ sd fun u h' tk hu hit hs => ?_
   refine Zo hit fun oJ q1 q2 => ?_
   have x1 : Ext [I] [] s' { s' with heap := h', toks := tk } := Ext.same (C.own _ M0).2 (Z5 (C.led _ M0) (S.nc _ _ hO)) M0 hs ⟨oJ, q1⟩
   have eC : s'.heap.get? Cc = some oC := C.led _ M1
   replace C := C.put x1 J0 q1 (S.nc _ _ q2).2
   have hρ := Zp hρ eC (C.led _ M1)
   refine wpAny_assign_Name (wpAny_storeName_local hkx (by rw [hloc]; exact hρ) (fun h₂ hn₂ hs₂ => ?_) (by rw [hkk]; rfl))
   rw [hloc] at hn₂ hs₂
   refine Zax (id hn₂) fun oC₂ es₂ ep₂ eC₂ _ => ?_
   have x2 : Ext [Cc] [] ({ s' with heap := h', toks := tk } : Shared) { s' with heap := h₂, toks := tk + 1 } := Ext.same (s := { s' with heap := h', toks := tk }) (C.own (Cc, oC) M1).2 (Zbh hρ) M0 hs₂ ⟨_, eC₂⟩
   replace C := C.put x2 J1 eC₂ (Zbh hn₂ _ eC₂).2
   generalize ({ s' with heap := h₂, toks := tk + 1 } : Shared) = s₅ at *
   have eC₅ : s₅.heap.get? Cc = some oC₂ := C.led _ M1
   have hn₂ : s₅.heap.Ns Cc _ := Zp hn₂ eC₂ eC₅
   have CL := cs.loc ce C (by rw [hloc]; exact M1) (by rw [hloc]; exact hn₂) (v := u) (by simp)
   refine wpAny_mono (htest i u cenv s₅ ((I, oJ) :: (Cc, oC₂) :: (D, oD) :: rs.flatMap (fun r : Value × List (Addr × Obj) => r.2)) hlt hu ce CL C) (fun ok s₆ h₆ => ?_) fun _ _ q => q.elim
   obtain ⟨hok, x3⟩ := h₆
   replace C := C.pure x3
   have eC₆ : s₆.heap.get? Cc = some oC₂ := C.led _ M1
   have hn₂ := Zp hn₂ eC₅ eC₆
   have rng : (List.range (i + 1)).filter p = (List.range i).filter p ++ (if p i then [i] else []) := by
    rw [List.range_succ, List.filter_append]
    cases h : p i <;> simp [h]
   cases hp : p i with
   | false =>
    rw [hok, hp, if_neg (by simp)]
    rw [hp] at rng
    refine ⟨_, nD hlt, fun _ kk => kk (i + 1) oJ oC₂ oD _ rs rfl hlt q2 hn₂ hD ?_ C⟩
    rw [rng]; simpa using hG
   | true =>
    rw [hok, hp, if_pos rfl]
    rw [hp] at rng
    have CL := cs.loc ce C (by rw [hloc]; exact M1) (by rw [hloc]; exact hn₂) (v := u) (by simp)
    refine wpAny_mono (helt i u cenv s₆ ((I, oJ) :: (Cc, oC₂) :: (D, oD) :: rs.flatMap (fun r : Value × List (Addr × Obj) => r.2)) hlt hu hp ce CL C) (fun y s₇ h₇ => ?_) fun _ _ q => q.elim
    refine Z1 h₇ fun new hg x4 N => ?_
    replace C := C.addN x4 N
    replace C : Loc env s₀ [] vs ((I, oJ) :: (Cc, oC₂) :: (D, oD) :: ((rs ++ [(y, new)]).flatMap (·.2) ++ l)) s₇ := C.perm (by
     rw [List.flatMap_append]
     simp only [List.flatMap_cons, List.flatMap_nil, List.append_nil]
     refine List.Perm.trans ?_ (List.perm_append_comm (l₁ := (I, oJ) :: (Cc, oC₂) :: (D, oD) :: (rs.flatMap (fun r : Value × List (Addr × Obj) => r.2) ++ l)) (l₂ := new))
     simp only [List.cons_append, List.append_assoc]
     exact ((((List.perm_append_comm (l₁ := new) (l₂ := l)).append_left _).cons _).cons _).cons _)
    have eC₇ : s₇.heap.get? Cc = some oC₂ := C.led _ M1
    have hn₂ := Zp hn₂ eC₆ eC₇
    have eD := C.led (D, oD) M2
    have hlen : (rs.map (·.1)).length ≤ sizeLine := by
     rw [List.length_map, hG.1]
     exact Nat.le_trans (List.length_filter_le _ _) (by rw [List.length_range]; exact kA (Nat.le_trans ‹_› ‹_›) rfl)
    refine wpAny_list_append (hD.at eD) (fun h₈ hl₈ hs₈ => ?_) (by simpa using hlen)
    refine Z1 hl₈ fun oD₈ q3 q4 q5 => ?_
    have x5 : Ext [D] [] s₇ { s₇ with heap := h₈ } := Ext.same (tk := s₇.toks) (C.own (D, oD) M2).2 (Z5 eD (Zau hD)) M0 hs₈ ⟨_, q3⟩
    replace C := C.put x5 J2 q3 (fun fd e => by obtain ⟨n, d⟩ := q5; rw [d] at e; cases e)
    refine ⟨_, nD hlt, fun _ kk => kk (i + 1) oJ oC₂ oD₈ _ (rs ++ [(y, new)]) rfl hlt q2 (Zp hn₂ eC₇ (C.led _ M1)) ⟨q4, ?_⟩ ?_ C⟩
    ·obtain ⟨m, hm⟩ := q5
     exact ⟨m, by rw [hm]; simp⟩
    ·rw [rng, if_pos rfl]
     exact hG.snoc hg
  ·have : i = n := by lia
   subst this
   refine S.done I s' _ _ ⟨oI, C.led _ M0, hO⟩ sd fun h' tk hx => ?_
   have eC : s'.heap.get? Cc = some oC := C.led _ M1
   replace C := C.die (tk := tk) rfl hI (S.nc _ _ hO) hx
   exact hRR D oD Cc oC ρ _ rs hC0 (Zp hρ eC (C.led _ M0)) hD hG C
 have fin := codeAny_compStart_list loop (S.self 0 I s₄ _ _ ⟨oI, C.led _ M0, hO⟩ loop)
 exact fin
noncomputable def Zal (prog : Program) (w : World) (A : Around) (env : Env) (s₀ : Shared) (X : List Addr) (vs : List (String × Value)) (x : String) (elt : Expr) (ifs : List Expr) (scope : Scope)
  (Fin : List (Addr × Obj) → Addr → Obj → Shared → Prop) (it : Value) (s₂ : Shared) : Prop :=
 ∀ T_ : Prop, (∀ (l : List (Addr × Obj)) (fvs : List (String × Value)) (I : Addr) (oI : Obj) (n : Nat) (O : Nat → Obj → Prop) (Pv : Nat → Value → Prop) (side : Heap → Prop) (p : Nat → Bool) (G : Nat → Value → List (Addr × Obj) → Prop),
  it = .ref I →
  Zdr prog w A n O Pv side →
  Z4 env scope (ofString x) vs fvs →
  s₀.heap.get? I = none →
  O 0 oI →
  Loc env s₀ [] vs ((I, oI) :: l) s₂ →
  n ≤ sizeLine →
  (∀ s' l', Loc env s₀ [] vs (l' ++ l) s' → side s'.heap) →
  (∀ i v cenv s₃ N', i < n → Pv i v → Zcm cenv env scope → Loc cenv s₃ [] ((x, v) :: fvs) [] s₃ → Loc env s₀ [] vs (N' ++ l) s₃ →
   wpAny (model prog w) A (forIn ifs true fun c r => if r = true then do let ok ← isTrue c cenv (eval c cenv); Pure.pure (ForInStep.yield ok) else Pure.pure (ForInStep.yield r)) (fun ok s₄ => ok = p i ∧ Ext [] [] s₃ s₄) (fun _ _ => False) s₃) →
  (∀ i v cenv s₃ N', i < n → Pv i v → p i = true → Zcm cenv env scope → Loc cenv s₃ [] ((x, v) :: fvs) [] s₃ → Loc env s₀ [] vs (N' ++ l) s₃ →
   wpAny (model prog w) A (eval elt cenv) (fun y s₄ => ∃ new, G i y new ∧ Ext [] [] s₃ s₄ ∧ Zan s₃ s₄ new) (fun _ _ => False) s₃) →
  (∀ D oD s' (rs : List (Value × List (Addr × Obj))), Zy oD (rs.map (·.1)) → Got G ((List.range n).filter p) rs → Loc env s₀ [] vs ((D, oD) :: (rs.flatMap (·.2) ++ l)) s' → Fin (rs.flatMap (·.2) ++ l) D oD s') → T_) → T_
theorem Loc.lc {x : String} {elt iter : Expr} {px pos : Pos} {ifs : List Expr} {scope : Scope} {Q : Value → Shared → Prop} (cs : ∃ fvs, Z4 env scope (ofString x) vs fvs) (C : Loc env s₀ [] vs l s)
  (h : wpAny (model prog w) A (eval iter env) (fun xv s₁ => wpAny (model prog w) A (pyIter xv) (Zal prog w A env s₀ [] vs x elt ifs scope (fun l' D oD s' => Q (.ref D) s')) E s₁) E s)
  (hs : autoParam (∀ x, foldedSetIterable iter env x = Pure.pure x) aI) :
  wpAny (model prog w) A (eval (.ListComp elt [⟨.Name (ofString x) px, iter, ifs, 0⟩] scope pos) env) Q E s := by
 obtain ⟨_, cs⟩ := cs
 rw [eval_ListComp]
 refine wpAny_comprehension_free (use := none) rfl hs (Zx (cs.some C)) cs.kind cs.names (wpAny_mono h (fun xv s₁ h₁ => wpAny_mono h₁ (fun it s₂ h₂ => ?_) fun _ _ e => e) fun _ _ e => e)
 refine h₂ _ fun l fvs I oI n O Pv side p G e S cs hI hO C hsz hside htest helt hfin => ?_; clear h₂; subst e
 refine C.compR S cs hI hO hsz p G hside htest helt (RR := fun acc C => compPost (model prog w) A E none Q acc C) ?_
 intro D oD Cc oC ρ s' rs h0 hn hD hG C
 exact ⟨ρ, hn, fun h' hs' => hfin D oD _ rs hD hG (C.die (tk := s'.toks) rfl h0 (Zbh hn _ (C.led _ M0)) fun b o hb e => (hs'.2 b hb).trans e)⟩
theorem Loc.lcA (O : Zbw env s₀) {x y : String} {elt iter : Expr} {px py pos spos : Pos} {ifs : List Expr} {scope : Scope} {Q : Flow → Shared → Prop} (cs : ∃ fvs, Z4 env scope (ofString x) vs fvs) (C : Loc env s₀ [] vs l s)
  (hsw : swapsWith (.ListComp elt [⟨.Name (ofString x) px, iter, ifs, 0⟩] scope pos) (some (.Name (ofString y) py)) spos.line env = Pure.pure true) (hy : env.kindOf (ofString y) = some .local)
  (h : wpAny (model prog w) A (eval iter env) (fun xv s₁ => wpAny (model prog w) A (pyIter xv) (Zal prog w A env s₀ [] vs x elt ifs scope (fun l' D oD s' => ∀ s'', Loc env s₀ [] (Zbd y (.ref D) vs) ((D, oD) :: l') s'' → Q .next s'')) E s₁) E s)
  (hs : autoParam (∀ x, foldedSetIterable iter env x = Pure.pure x) aI) :
  wpAny (model prog w) A (exec (.Assign [.Name (ofString y) py] (.ListComp elt [⟨.Name (ofString x) px, iter, ifs, 0⟩] scope pos) spos) env) Q E s := by
 obtain ⟨_, cs⟩ := cs
 rw [exec_Assign_Name_used _ _ _ _ hsw]
 refine wpAny_bind (wpAny_standAt (wpAny_bind ?_))
 show wpAny (model prog w) A (do let _ ← comprehension (.ListComp elt [⟨.Name (ofString x) px, iter, ifs, 0⟩] scope pos) scope env _ (newList []) false (eval iter env) (some (assign (.Name (ofString y) py) env))) _ E s
 refine wpAny_bind (wpAny_mono (wpAny_comprehension_free (use := some (assign (.Name (ofString y) py) env)) (Q := fun _ s' => Q .next s') rfl hs (Zx (cs.some C)) cs.kind cs.names
  (wpAny_mono h (fun xv s₁ h₁ => wpAny_mono h₁ (fun it s₂ h₂ => ?_) fun _ _ e => e) fun _ _ e => e)) (fun _ s' hq => wpAny_pure (wpAny_pure hq)) fun _ _ e => e)
 refine h₂ _ fun l fvs I oI n O' Pv side p G e S cs hI hO C hsz hside htest helt hfin => ?_; clear h₂; subst e
 refine C.compR S cs hI hO hsz p G hside htest helt (RR := fun acc C => compPost (model prog w) A E (some (assign (.Name (ofString y) py) env)) (fun _ s' => Q .next s') acc C) ?_
 intro D oD Cc oC ρ s' rs h0 hn hD hG C
 have eC := C.led _ M0
 show wpAny (model prog w) A (assign (.Name (ofString y) py) env (.ref D)) _ E s'
 refine wpAny_assign_Name (C.storeL O hy fun s'' C'' => ?_)
 refine ⟨ρ, Zp hn eC (C''.led _ M0), fun h' hs' => ?_⟩
 have C0 : Loc env s₀ [] vs ((Cc, oC) :: (D, oD) :: (rs.flatMap (·.2) ++ l)) s' := C
 have C3 := C''.die (tk := s''.toks) rfl h0 (Zbh hn _ eC) (h' := h') (fun b o hb e => (hs'.2 b hb).trans e)
 have C4 := C0.die (tk := s'.toks) rfl h0 (Zbh hn _ eC) (h' := s'.heap) (fun b o hb e => e)
 exact hfin D oD _ rs hD hG C4 _ C3
theorem Loc.st (C : Loc env s₀ X vs l s) (O : Zbw env s₀) (hc : ∀ x, env.kindOf x = some .cell → ∃ c, env.cells.lookup x = some c) {x : String} {v : Value} {Q : Unit → Shared → Prop} (hk : env.kindOf (ofString x) = some .local ∨ env.kindOf (ofString x) = some .cell)
  (h : ∀ s', Loc env s₀ X vs' l s' → Q () s')
  (hv : Za3 x v vs vs' := by first | exact Za3.of (by walk_at "T") (by kernel_rfl) | exact Za3.raw) :
  wpAny (model prog w) A (storeName env (ofString x) v) Q E s := C.store O hc hk fun s' C' => h s' (C'.sv hv)
theorem Loc.absR (C : Loc env s₀ X vs l s) {a : Int} {t : Tok} {Q : Value → Shared → Prop} (h : ∀ s' t', Loc env s₀ X vs l s' → Q (.int (a.natAbs : Nat) t') s') : wpAny (model prog w) A (call (.builtin "abs") [.int a t]) Q E s :=
 PyProof.Rows.call_abs_int fun u tk => by
  have e : (if a < 0 then -a else a) = ((a.natAbs : Nat) : Int) := by split <;> grind
  rw [e]
  exact h _ _ C.tok
theorem Loc.badd (C : Loc env s₀ X vs l s) {b c : List UInt8} {t u : Tok} {Q : Value → Shared → Prop} (hsz : b.length + c.length ≤ 16777216) (h : ∀ s' t', Loc env s₀ X vs l s' → Q (.bytes (b ++ c).toArray t') s') : wpAny (model prog w) A (binaryOp .Add (.bytes b.toArray t) (.bytes c.toArray u)) Q E s :=
 KBy.add_bytes (by simpa using hsz) fun t' k => by
  rw [List.append_toArray]
  exact h _ _ C.tok
theorem Loc.sliceO (C : Loc env s₀ X vs l s) {lo up : Option Expr} {p : Pos} {Q : Value → Shared → Prop}
  (h : wpAny (model prog w) A (evalPart lo env) (fun a s₁ => wpAny (model prog w) A (evalPart up env) (fun b s₂ => ∃ (vs : List (String × Value)) (l : List (Addr × Obj)), Loc env s₀ X vs l s₂ ∧ ∀ r s', s'.heap.IsSliceOf r a b .none → Loc env s₀ X vs l s' → Q (.ref r) s') E s₁) E s) :
  wpAny (model prog w) A (eval (.Slice lo up none p) env) Q E s := by
 refine wpAny_Slice (wpAny_mono h (fun a s₁ h₁ => wpAny_mono h₁ (fun b s₂ h₂ => wpAny_evalPart_none ?_) fun _ _ q => q) fun _ _ q => q)
 refine Z9 h₂ fun vs l C h => ?_
 refine h _ _ ⟨_, Heap.get?_push_size _ rfl, rfl, rfl⟩ (C.keeps (tk := s₂.toks) Zd)
noncomputable def apF (f : Nat) : Nat → List UInt8 := Nat.rec (fun _ => []) (fun _ ih n => if n = 0 then [] else ih (n / 16) ++ [UInt8.ofNat (65 + n % 16)]) f
noncomputable def apL (n : Nat) : List UInt8 := apF n n
theorem Zdn : apL 0 = [] := rfl
theorem Zex : ∀ f, apF f 0 = [] := fun f => Nat.casesOn f rfl fun _ => rfl
theorem Zqm (f : Nat) : ∀ g n, n ≤ f → n ≤ g → apF f n = apF g n := by
 induction f with
 | zero => intro g n h _; rw [Nat.le_zero.mp h, Zex, Zex]
 | succ f ih =>
  intro g n h k
  by_cases h0 : n = 0
  ·rw [h0, Zex, Zex]
  cases g with
  | zero => exact absurd (Nat.le_zero.mp k) h0
  | succ g =>
   have d : n / 16 < n := Nat.div_lt_self (Nat.pos_of_ne_zero h0) (by decide)
   exact (if_neg h0).trans ((congrArg (· ++ _) (ih g (n / 16) (Nat.le_of_lt_succ (Nat.lt_of_lt_of_le d h)) (Nat.le_of_lt_succ (Nat.lt_of_lt_of_le d k)))).trans (if_neg h0).symm)
theorem Zes {n : Nat} (h : n ≠ 0) : apL n = apL (n / 16) ++ [UInt8.ofNat (65 + n % 16)] := by
 have d : n / 16 < n := Nat.div_lt_self (Nat.pos_of_ne_zero h) (by decide)
 cases n with
 | zero => exact absurd rfl h
 | succ m => exact (if_neg h : (if m + 1 = 0 then [] else apF m ((m + 1) / 16) ++ [UInt8.ofNat (65 + (m + 1) % 16)]) = _).trans (congrArg (· ++ _) (Zqm m _ _ (Nat.le_of_lt_succ d) (Nat.le_refl _)))
theorem Zhy : ∀ m : Nat, m < 16 → KBy.picked ([65, 66, 67, 68, 69, 70, 71, 72, 73, 74, 75, 76, 77, 78, 79, 80] : List UInt8).toArray (some (m : Int)) (some ((m : Int) + 1)) = [UInt8.ofNat (65 + m)].toArray := by decide +kernel
theorem Zig : ∀ n k : Nat, n < 16 ^ k → (apL n).length ≤ k
 | n, 0, h => by
  have : n = 0 := by simpa using h
  rw [this, Zdn]; simp
 | n, k + 1, h => by
  by_cases e : n = 0
  ·rw [e, Zdn]; simp
  ·rw [Zes e, List.length_append]
   have := Zig (n / 16) k (by rw [Nat.pow_succ] at h; lia)
   simp; assumption
theorem Zki (k : Nat) : ((k : Int)).fdiv 16 = ((k / 16 : Nat) : Int) := by rw [Int.fdiv_eq_ediv_of_nonneg _ (by decide)]; rfl
theorem Zg0 (k : Nat) : ((k : Int)).fmod 16 = ((k % 16 : Nat) : Int) := by rw [Int.fmod_eq_emod_of_nonneg _ (by decide)]; rfl
theorem Zjz (W : Wd K s.heap) (G : KG K) (R : Zk A 10) (hf : FnK K 259 (ofString "Int2AP") (ofString "Int2AP") (top 18) [] .none 258) {x : Int} {t1 : Tok} {Q : Value → Shared → Prop}
  (hx : x.natAbs < 65536) (h : ∀ u s', Ext [] [] s s' → Q (.bytes (apL x.natAbs).toArray u) s') :
  wpAny (model prog w) A (call (.ref 259) [.int x t1]) Q E s := by
 refine Zw W R hf [("num", .int x t1)] (fun _ _ _ _ _ => BindsTo.of_eq rfl) fun env s₁ hE hO hc C => ?_
 refine Zg3 rfl ?_
 refine Zi (Zmz ?_ (by rfl))
 refine C.cbytes ?_; clear C; intro s t C
 refine C.st hO hc (by walk_at "K") ?_; clear C; intro s C
 refine Zi (Zmz ?_ (by rfl))
 refine C.cbytes ?_; clear C; intro s tA C
 refine C.st hO hc (by walk_at "K") ?_; clear C; intro s C
 refine Zi (Zmz ?_ (by rfl))
 refine Zf ?_
 walk_at "B"
 refine xt1 (Za (Zf ?_))
 walk_at "B"
 refine xb1 (Za ?_)
 walk_at "N"
 refine spliced_none (C.absR fun s tN C => spliced_none (call_int_int ?_))
 refine C.st hO hc (by walk_at "K") ?_; clear C; intro s C
 refine Zi (Zkq ?_)
 refine Loc.whileI (α := Nat × List UInt8 × Tok × Tok) (fun d => apL d.1 ++ d.2.1 = apL x.natAbs ∧ d.1 < 65536) (fun d => d.1)
  (fun d => [("num", .int (d.1 : Nat) d.2.2.1), ("val", .bytes d.2.1.toArray d.2.2.2), ("AP", .bytes #[65, 66, 67, 68, 69, 70, 71, 72, 73, 74, 75, 76, 77, 78, 79, 80] tA)]) (fun _ => []) (d0 := (x.natAbs, [], tN, t)) C ⟨by simp, hx⟩ ?_
 refine pE4 fun k bs t1 t2 s hPP C => ?_; refine x_A hPP fun hP hk => ?_; clear hPP
 refine Zb1 ?_
 walk_at "N"
 refine truthy_int ?_
 by_cases h0 : k = 0
 ·subst h0
  refine ifN (by simp) ?_
  refine wpAny_execs_nil (Zi (Zpr ?_))
  walk_at "N"
  rw [Zdn] at hP
  simp only [List.nil_append] at hP
  rw [hP]
  exact h _ _ C.ext
 refine ifP (by simpa using h0) ?_
 refine Zi (Assign_Tuple ?_)
 refine Zf ?_
 walk_at "B"
 refine xb1 (Za ?_)
 walk_at "N"
 refine Za (C.cint fun s t C => ?_)
 refine spliced_none ?_
 refine Zlc C (by decide) (PyProof.noPylong_small (by decide)) fun p t3 t4 s C => ?_
 rw [Zki, Zg0] at C
 refine C.untup2 R.deeper.hd M0 ?_; clear C; intro s C
 replace C := C.sub (List.nil_sublist _)
 refine C.st hO hc (by walk_at "K") ?_; clear C; intro s C
 refine C.st hO hc (by walk_at "K") ?_; clear C; intro s C
 refine Zi (Zmz ?_ (by rfl))
 refine Zn ?_
 refine wpAny_Subscript_Slice FB.slot_bytes_getitem.lookup ?_
 walk_at "N"
 refine C.sliceO ?_
 refine wpAny_evalPart_some ?_
 walk_at "N"
 refine wpAny_evalPart_some (Zn ?_)
 walk_at "N"
 refine C.cint ?_; clear C; intro s t C
 refine C.iadd fun s t C => ⟨_, _, C, fun r s hr C => ⟨typeIs_bytes _ _ _, ?_⟩⟩
 have hm : k % 16 < 16 := Nat.mod_lt _ (by decide)
 refine getItem_meets (typeIs_bytes _ _ _) (by decide) FB.slot_bytes_getitem FB.entry_bytes_getitem (FB.args_bytes_getitem_2 _ _) (KBc.meets_slice2 _ _ _ (lo := some ((k % 16 : Nat) : Int)) (hi := some (((k % 16 : Nat) : Int) + 1)) (IsPart.int _ _) (IsPart.int _ _)) ⟨hr, ?_, fun t' k' => ?_⟩
 ·rw [Zhy _ hm]; simp [sizeLine_eq]
 rw [Zhy _ hm]
 replace C := C.tok (tk := k')
 walk_at "N"
 refine C.badd ?_ fun s t C => ?_
 ·have : (apL k ++ bs).length = _ := congrArg List.length hP
  rw [List.length_append] at this
  have h2 := Zig x.natAbs 4 (by simpa using hx)
  simp; lia
 refine C.st hO hc (by walk_at "K") ?_; clear C; intro s C
 refine wpAny_execs_nil ⟨(k / 16, UInt8.ofNat (65 + k % 16) :: bs, t3, t), Nat.div_lt_self (Nat.pos_of_ne_zero h0) (by decide), ⟨?_, ?_⟩, C.vsub ?_⟩
 ·rw [← hP, Zes h0, List.append_assoc]; rfl
 ·exact Nat.lt_of_le_of_lt (Nat.div_le_self _ _) hk
 ·intro p hp
  simp only [List.mem_cons, List.not_mem_nil, or_false] at hp ⊢
  rcases hp with rfl | rfl | rfl <;> simp
theorem Zgi {α σ : Type} {bs : List UInt8} {f : α → Nat × Array Nat × σ → Sem (ForInStep (Nat × Array Nat × σ))} {st : σ}
  (hf : ∀ x p, p < bs.length → f x (p, ((bs.take p).map (·.toNat)).toArray, st) = pure (.yield (p + 1, ((bs.take (p + 1)).map (·.toNat)).toArray, st))) :
  ∀ (l : List α) (p : Nat), p + l.length = bs.length → forIn l (p, ((bs.take p).map (·.toNat)).toArray, st) f = (pure (bs.length, (bs.map (·.toNat)).toArray, st) : Sem _)
 | [], p, h => by
  have e : p = bs.length := by simpa using h
  subst e
  rw [List.take_length]; rfl
 | x :: l, p, h => by
  rw [List.forIn_cons, hf x p (by rw [List.length_cons] at h; lia)]
  exact Zgi hf l (p + 1) (by rw [List.length_cons] at h; lia)
open Builtin in
theorem Znd {id : String} (bs : List UInt8) (h : ∀ b ∈ bs, b.toNat < 128) (hsz : bs.length ≤ sizeLine) : _codecs.runDecoder id _codecs.asciiDecoder none true bs.toArray 0 [] = pure ((bs.map (·.toNat)).toArray, bs.length) := by
 unfold _codecs.runDecoder
 simp only [Std.Legacy.Range.forIn_eq_forIn_range']
 have e : ([:bs.toArray.size] : Std.Legacy.Range).size = bs.length := by simp [Std.Legacy.Range.size]
 rw [e]
 have key : ∀ (m : Sem (Nat × Array Nat × _codecs.Faults)), m = pure (bs.length, (bs.map (·.toNat)).toArray, { held := [] }) → (m >>= fun s => pure (s.2.1, s.1)) = (pure ((bs.map (·.toNat)).toArray, bs.length) : Sem _) := fun m q => by rw [q]; rfl
 refine key _ (Zgi (bs := bs) (st := ({ held := [] } : _codecs.Faults)) (fun x p hp => ?_) (List.range' 0 bs.length) 0 (by simp))
 have e1 : ¬ ((List.map (fun x : UInt8 => x.toNat) (List.take p bs)).toArray.size > sizeLine) := by simp; grind
 have e2 : ¬ (p ≥ bs.toArray.size) := by simpa using hp
 have hb : bs.toArray.getD p 0 = bs[p] := by simp [Array.getD, hp]
 have e3 : _codecs.asciiDecoder.find true bs.toArray p = _codecs.Found.text [bs[p].toNat] (p + 1) := by
  show (if (bs.toArray.getD p 0).toNat < 128 then _ else _) = _
  rw [hb, if_pos (h _ (List.getElem_mem hp))]
  rfl
 show (if _ > sizeLine then _ else _) = _
 rw [if_neg e1, if_neg e2]
 simp only [e3]
 have e4 : ((bs.take (p + 1)).map (·.toNat)).toArray = ((bs.take p).map (·.toNat)).toArray ++ [bs[p].toNat].toArray := by
  rw [List.take_succ_eq_append_getElem hp, List.map_append, List.append_toArray]; rfl
 rw [e4]
namespace Dec
open Builtin
theorem Zp3 {id : String} {b : Array UInt8} : _codecs.decodeRoad id b (PySem.Str.ofString "ascii") none [] = (_codecs.runDecoder id _codecs.asciiDecoder none true b 0 [] >>= fun r => mkStr ⟨r.1⟩) := by kernel_rfl
theorem Zkt {bs : List UInt8} (hb : ∀ b ∈ bs, b.toNat < 128) {t t1 t2 : Tok} {d : PySem.Str} :
  Meets («_codecs.decode.text» ⟨[.bytes bs.toArray t, .str (PySem.Str.ofString "ascii") t1, .none, .str d t2], []⟩) (fun _ R s => bs.length ≤ sizeLine ∧ R (.ok (.ret (.str ⟨(bs.map (·.toNat)).toArray⟩ s.toks))) { s with toks := s.toks + 1 }) := by
 refine .of_wp fun prog w A R s hS => ?_
 obtain ⟨hsz, h⟩ := hS
 show wpAny _ _ (Bytes.bytesLike _ (.bytes bs.toArray t) >>= fun r => _) _ _ s
 refine wpAny_bind (wpAny_of_eq PySem.W.KBd.like_eq ?_)
 refine wpAny_bind (wpAny_of_eq PySem.W.KBd.held_eq ?_)
 show wpAny _ _ (_codecs.decodeRoad _ bs.toArray (PySem.Str.ofString "ascii") none [] >>= fun v => _) _ _ s
 rw [Zp3, Znd bs hb hsz]
 refine wpAny_bind (wpAny_bind (wpAny_pure ?_))
 exact wpAny_mkStr (wpAny_pure ⟨_, rfl, h⟩) (by simpa [PySem.Str.length] using hsz)
theorem Zoi {c : UInt8} {cs : List UInt8} {t t1 : Tok} : «bytes.decode» ⟨[.bytes (c :: cs).toArray t, .str (PySem.Str.ofString "ascii") t1], []⟩ = (mkStr (PySem.Str.ofString "utf-8") >>= fun _ => mkStr (PySem.Str.ofString "ascii") >>= fun e => mkStr (PySem.Str.ofString "bytes.decode") >>= fun d =>
  call (.builtin "_codecs.decode.text") [.bytes (c :: cs).toArray t, e, .none, d] >>= fun v => ret v) := by kernel_rfl
theorem Znp {t t1 : Tok} : «bytes.decode» ⟨[.bytes #[] t, .str (PySem.Str.ofString "ascii") t1], []⟩ = (rule "bytes.decode.empty" >>= fun _ => retStr Str.empty) := by kernel_rfl
theorem meets {bs : List UInt8} (hb : ∀ b ∈ bs, b.toNat < 128) {t t1 : Tok} : Meets («bytes.decode» ⟨[.bytes bs.toArray t, .str (PySem.Str.ofString "ascii") t1], []⟩) (fun _ R s => bs.length ≤ sizeLine ∧ ∀ t' k, R (.ok (.ret (.str ⟨(bs.map (·.toNat)).toArray⟩ t'))) { s with toks := k }) := by
 refine .of_wp fun prog w A R s hS => ?_
 obtain ⟨hsz, h⟩ := hS
 cases bs with
 | nil =>
  rw [Znp]
  refine wpAny_bind (wpAny_rule ?_)
  exact wpAny_bind (wpAny_mkStr (wpAny_pure ⟨_, rfl, h _ _⟩) (by decide))
 | cons c cs =>
  rw [Zoi]
  refine wpAny_bind (wpAny_mkStr ?_ (by decide))
  refine wpAny_bind (wpAny_mkStr ?_ (by decide))
  refine wpAny_bind (wpAny_mkStr ?_ (by decide))
  exact wpAny_bind (call_function_meets PySem.W.KBd.kind_text PySem.W.KBd.plain_text PySem.W.KBd.entry_text (PySem.W.KBd.args_text _ _ _ _) (Zkt hb) ⟨hsz, wpAny_pure ⟨_, rfl, h _ _⟩⟩)
end Dec
theorem Loc.decode (C : Loc env s₀ X vs l s) {bs : List UInt8} {t t1 : Tok} {Q : Value → Shared → Prop} (hb : ∀ b ∈ bs, b.toNat < 128) (hsz : bs.length ≤ 16777216) (h : ∀ s' t', Loc env s₀ X vs l s' → Q (.str ⟨(bs.map (·.toNat)).toArray⟩ t') s') :
  wpAny (model prog w) A (call (.builtin "bytes.decode") [.bytes bs.toArray t, .str (ofString "ascii") t1]) Q E s :=
 call_meets FB.slot_bytes_decode (typeIs_bytes _ _ _) FB.entry_bytes_decode (by unfold argsOk; kernel_rfl) (Dec.meets hb) ⟨by rw [sizeLine_eq]; exact hsz, fun t' k => h _ _ C.tok⟩
noncomputable def Zrn (scope sc0 : Scope) (x : Str) (vs fvs : List Str) : Bool :=
 scope.names.all (fun p => p.2 != .cell && (p.2 != .free || (vs.any (· == p.1) && sc0.names.lookup p.1 != some .local)) && (p.2 != .local || scope.names.lookup p.1 == some .local)) && scope.kind == .function && scope.names.lookup x == some .local
 && fvs.all (fun p => scope.names.lookup p == some .free)
theorem Z4.of {env : Env} {scope sc0 : Scope} {x : Str} {vs fvs : List (String × Value)} (hs : env.scope = sc0) (hf : ∀ p ∈ fvs, p ∈ vs) (hc : Zrn scope sc0 x (vs.map fun p => ofString p.1) (fvs.map fun p => ofString p.1) = true) : Z4 env scope x vs fvs := by
 unfold Zrn at hc
 simp only [Bool.and_eq_true, List.all_eq_true, beq_iff_eq, Bool.or_eq_true, bne_iff_ne, List.any_eq_true, List.mem_map] at hc
 obtain ⟨⟨⟨h1, h2⟩, h3⟩, h4⟩ := hc
 refine ⟨fun p hp hk => ?_, fun p hp => (h1 p hp).1.1, h2, fun p hp hk => ?_, h3, fun p hp => ⟨hf p hp, h4 _ ⟨p, hp, rfl⟩⟩⟩
 ·rcases (h1 p hp).1.2 with h | ⟨⟨q, ⟨r, hr, e⟩, e2⟩, h⟩
  ·exact absurd hk h
  ·refine ⟨r, hr, e.trans e2, ?_⟩
   unfold Env.kindOf; rw [hs]; exact h
 ·rcases (h1 p hp).2 with h | h
  ·exact absurd hk h
  ·exact h
noncomputable def mkS (l : List Nat) : Str := ⟨l.toArray⟩
theorem Zv (l : List Nat) : (mkS l).length = l.length := by simp [mkS, PySem.Str.length]
theorem Zc5 {a b : List Nat} : mkS a = mkS b ↔ a = b := by
 constructor
 ·intro h
  have := congrArg (fun s : Str => s.cps.toList) h
  simpa [mkS] using this
 ·rintro rfl; rfl
noncomputable abbrev Zj9 (a b c : Int) (t u v : Tok) : Obj := { cls := .type "range", data := .fields #[.int a t, .int b u, .int c v] }
theorem Loc.range3 (C : Loc env s₀ X vs l s) {a b c : Int} {t u v : Tok} {Q : Value → Shared → Prop} (hc : c ≠ 0) (hp : c.natAbs < 1073741824) (h : ∀ r t u v s', Loc env s₀ X vs ((r, Zj9 a b c t u v) :: l) s' → Q (.ref r) s') :
  wpAny (model prog w) A (call (.type "range") [.int a t, .int b u, .int c v]) Q E s :=
 have e : Ext [] [] s { s with heap := s.heap.push (Zj9 a b c t u v) } := C.extK (tk := s.toks) Zd
 call_range_3 hc (h _ _ _ _ _ (C.add e Zc C.big (Heap.get?_push_size _ rfl))) (.inl (PyProof.noPylong_small hp))
theorem Loc.range2 (C : Loc env s₀ X vs l s) {a b : Int} {t u : Tok} {Q : Value → Shared → Prop} (h : ∀ r t u v s', Loc env s₀ X vs ((r, Zj9 a b 1 t u v) :: l) s' → Q (.ref r) s') :
  wpAny (model prog w) A (call (.type "range") [.int a t, .int b u]) Q E s :=
 have e : Ext [] [] s { s with heap := s.heap.push (Zj9 a b 1 t u s.toks), toks := s.toks + 1 } := C.extK Zd
 call_range_2 (h _ _ _ _ _ (C.add e Zc C.big (Heap.get?_push_size _ rfl)))
theorem Loc.range1 (C : Loc env s₀ X vs l s) {b : Int} {u : Tok} {Q : Value → Shared → Prop} (h : ∀ r t u v s', Loc env s₀ X vs ((r, Zj9 0 b 1 t u v) :: l) s' → Q (.ref r) s') :
  wpAny (model prog w) A (call (.type "range") [.int b u]) Q E s :=
 have e : Ext [] [] s { s with heap := s.heap.push (Zj9 0 b 1 s.toks u (s.toks + 1)), toks := s.toks + 1 + 1 } := C.extK Zd
 call_range_1 (h _ _ _ _ _ (C.add e Zc C.big (Heap.get?_push_size _ rfl)))
theorem Loc.pyIterR1 (C : Loc env s₀ [] vs l s) {r : Addr} {a : Int} {n : Nat} {t u v : Tok} {Q : Value → Shared → Prop} (hr : (r, Zj9 a (a + n) 1 t u v) ∈ l) (ha : a.natAbs < 1000000) (hn : n < 1000000)
  (h : ∀ I s', s₀.heap.get? I = none → Loc env s₀ [] vs ((I, Zfh a n 1) :: l) s' → Q (.ref I) s') : wpAny (model prog w) A (pyIter (.ref r)) Q E s :=
 C.pyIterR (C.led _ hr) (small_one (by lia) (by lia) (by lia) (by lia)) n (by rw [rangeSize_one]; split <;> lia) h
theorem Loc.ipow (C : Loc env s₀ X vs l s) {a n : Int} {t u : Tok} {Q : Value → Shared → Prop} (h0 : 0 ≤ n) (h1 : n ≤ 1000000) (ha : a.natAbs < 2 ^ 64) (h : ∀ s' t', Loc env s₀ X vs l s' → Q (.int (a ^ n.toNat) t') s') : wpAny (model prog w) A (binaryOp .Pow (.int a t) (.int n u)) Q E s := pow_int_small h0 h1 ha (h _ _ C.tok)
theorem Loc.chrR (C : Loc env s₀ X vs l s) {a : Int} {t : Tok} {Q : Value → Shared → Prop} (h0 : 0 ≤ a) (h1 : a ≤ 1114111) (h : ∀ s' t', Loc env s₀ X vs l s' → Q (.str (mkS [a.toNat]) t') s') : wpAny (model prog w) A (call (.builtin "chr") [.int a t]) Q E s := chr_of_range h0 h1 (h _ _ C.tok)
theorem Loc.joinR (C : Loc env s₀ X vs l s) {D : Addr} {oD : Obj} {us : List Value} {ys : List Str} {x : Str} {t : Tok} {Q : Value → Shared → Prop} (hm : (D, oD) ∈ l) (hD : Zy oD us) (hi : StrsAre us ys) (hok : (ys.map (·.length)).sum + ys.length * x.length ≤ 16777216)
  (h : ∀ s' t', Loc env s₀ X vs l s' → Q (.str (Txt.join x ys) t') s') : wpAny (model prog w) A (call (.builtin "str.join") [.str x t, .ref D]) Q E s :=
 join_list (hD.at (C.led _ hm)) (by simpa using hi) hok fun t' k => h _ _ C.tok
theorem Got.tail {G : Nat → Value → List (Addr × Obj) → Prop} {i : Nat} {idx : List Nat} {rs : List (Value × List (Addr × Obj))} (h : Got G (i :: idx) rs) : ∃ r rs', rs = r :: rs' ∧ G i r.1 r.2 ∧ Got G idx rs' := by
 obtain ⟨h1, h2⟩ := h
 cases rs with
 | nil => simp at h1
 | cons r rs => exact ⟨r, rs, rfl, h2 0 i r rfl rfl, by simpa using h1, fun j k q e1 e2 => h2 (j + 1) k q (by simpa using e1) (by simpa using e2)⟩
theorem Got.strs {g : Nat → Str} : ∀ {idx : List Nat} {rs : List (Value × List (Addr × Obj))}, Got (fun i y new => (∃ t, y = .str (g i) t) ∧ new = []) idx rs → StrsAre (rs.map (·.1)) (idx.map g) ∧ rs.flatMap (·.2) = []
 | [], rs, h => by
  have : rs = [] := List.eq_nil_of_length_eq_zero h.1
  subst this
  exact ⟨.nil, rfl⟩
 | i :: idx, rs, h => by
  obtain ⟨r, rs', rfl, ⟨⟨t, e⟩, e2⟩, h'⟩ := h.tail
  obtain ⟨h1, h2⟩ := Got.strs h'
  rw [List.map_cons, List.flatMap_cons, e, e2, h2]
  exact ⟨.cons _ _ h1, rfl⟩
theorem Got.strs' {g : Nat → Str} {P : Nat → Value → List (Addr × Obj) → Prop} : ∀ {idx : List Nat} {rs : List (Value × List (Addr × Obj))}, Got (fun i y new => (∃ t, y = .str (g i) t) ∧ P i y new) idx rs → StrsAre (rs.map (·.1)) (idx.map g)
 | [], rs, h => by
  have : rs = [] := List.eq_nil_of_length_eq_zero h.1
  subst this
  exact .nil
 | i :: idx, rs, h => by
  obtain ⟨r, rs', rfl, ⟨⟨t, e⟩, e2⟩, h'⟩ := h.tail
  rw [List.map_cons, e]
  exact .cons _ _ (Got.strs' h')
theorem Got.ints' {g : Nat → Int} {P : Nat → Value → List (Addr × Obj) → Prop} : ∀ {idx : List Nat} {rs : List (Value × List (Addr × Obj))}, Got (fun i y new => (∃ t, y = .int (g i) t) ∧ P i y new) idx rs → IntsAre (rs.map (·.1)) (idx.map g)
 | [], rs, h => by
  have : rs = [] := List.eq_nil_of_length_eq_zero h.1
  subst this
  exact .nil
 | i :: idx, rs, h => by
  obtain ⟨r, rs', rfl, ⟨⟨t, e⟩, e2⟩, h'⟩ := h.tail
  rw [List.map_cons, e]
  exact .cons _ _ (Got.ints' h')
theorem Got.ints {g : Nat → Int} : ∀ {idx : List Nat} {rs : List (Value × List (Addr × Obj))}, Got (fun i y new => (∃ t, y = .int (g i) t) ∧ new = []) idx rs → IntsAre (rs.map (·.1)) (idx.map g) ∧ rs.flatMap (·.2) = []
 | [], rs, h => by
  have : rs = [] := List.eq_nil_of_length_eq_zero h.1
  subst this
  exact ⟨.nil, rfl⟩
 | i :: idx, rs, h => by
  obtain ⟨r, rs', rfl, ⟨⟨t, e⟩, e2⟩, h'⟩ := h.tail
  obtain ⟨h1, h2⟩ := Got.ints h'
  rw [List.map_cons, List.flatMap_cons, e, e2, h2]
  exact ⟨.cons _ _ h1, rfl⟩
theorem Zal.all {x : String} {elt : Expr} {scope : Scope} {n : Nat} {O : Nat → Obj → Prop} {Pv : Nat → Value → Prop} {side : Heap → Prop} {I : Addr} {oI : Obj} {s₂ : Shared} {Fin : List (Addr × Obj) → Addr → Obj → Shared → Prop}
  (S : Zdr prog w A n O Pv side) (cs : Z4 env scope (ofString x) vs fvs) (hI : s₀.heap.get? I = none) (hO : O 0 oI) (C : Loc env s₀ [] vs ((I, oI) :: l) s₂) (hsz : n ≤ sizeLine)
  (hside : ∀ s' l', Loc env s₀ [] vs (l' ++ l) s' → side s'.heap) (G : Nat → Value → List (Addr × Obj) → Prop)
  (helt : ∀ i v cenv s₃ N', i < n → Pv i v → Zcm cenv env scope → Loc cenv s₃ [] ((x, v) :: fvs) [] s₃ → Loc env s₀ [] vs (N' ++ l) s₃ →
   wpAny (model prog w) A (eval elt cenv) (fun y s₄ => ∃ new, G i y new ∧ Ext [] [] s₃ s₄ ∧ Zan s₃ s₄ new) (fun _ _ => False) s₃)
  (hfin : ∀ D oD s' (rs : List (Value × List (Addr × Obj))), Zy oD (rs.map (·.1)) → Got G (List.range n) rs → Loc env s₀ [] vs ((D, oD) :: (rs.flatMap (·.2) ++ l)) s' → Fin (rs.flatMap (·.2) ++ l) D oD s') :
  Zal prog w A env s₀ [] vs x elt [] scope Fin (.ref I) s₂ :=
 fun _ k => k l fvs I oI n O Pv side (fun _ => true) G rfl S cs hI hO C hsz hside (fun i v cenv s₃ N' _ _ _ _ _ => wpAny_pure ⟨rfl, Ext.refl _ _ _⟩) (fun i v cenv s₃ N' h1 h2 _ => helt i v cenv s₃ N' h1 h2)
  fun D oD s' rs h1 h2 h3 => hfin D oD s' rs h1 ((List.filter_eq_self.mpr (fun _ _ => rfl) : (List.range n).filter (fun _ => true) = List.range n) ▸ h2) h3
theorem Loc.eltS (C : Loc env s [] vs l s₀) {P : Prop} (h : P) : ∃ new, (P ∧ new = []) ∧ Ext [] [] s s₀ ∧ Zan s s₀ new := ⟨[], ⟨h, rfl⟩, C.ext, Zan.nil⟩
noncomputable def jn (sep : List Nat) : List (List Nat) → List Nat
 | [] => []
 | x :: r => x ++ r.flatMap fun p => sep ++ p
theorem Zja (sep : List Nat) : ∀ (r : List (List Nat)) (x : List Nat), (r.map mkS).foldl (fun acc p => acc ++ (mkS sep).cps ++ p.cps) x.toArray = (x ++ r.flatMap fun p => sep ++ p).toArray
 | [], x => by simp
 | p :: r, x => by
  rw [List.map_cons, List.foldl_cons, List.flatMap_cons]
  have e : x.toArray ++ (mkS sep).cps ++ (mkS p).cps = (x ++ (sep ++ p)).toArray := by simp [mkS]
  rw [e, Zja sep r, List.append_assoc]
theorem Zgc (sep : List Nat) (ls : List (List Nat)) : Txt.join (mkS sep) (ls.map mkS) = mkS (jn sep ls) := by
 cases ls with
 | nil => rfl
 | cons x r => exact congrArg Str.mk (Zja sep r x)
theorem Zcq (a c : Int) (n : Nat) : Zfh a n c = Zfh (a + ((0 : Nat) : Int) * c) ((n : Int) - ((0 : Nat) : Int)) c := by
 have e1 : a + ((0 : Nat) : Int) * c = a := by simp
 have e2 : (n : Int) - ((0 : Nat) : Int) = n := by simp
 rw [e1, e2]
theorem Zq {M : Model} {b : List Stmt} {st : Stmt} {rest : List Stmt} {Q : Flow → Shared → Prop} (h : wpAny M A (execs (st :: rest) env) Q E s) (hb : autoParam (b = st :: rest) aR) : wpAny M A (execs b env) Q E s := hb ▸ h
noncomputable abbrev Zsj (prog : Program) (w : World) (A : Around) (E : Value → Shared → Prop) (name : Str) (pos : Pos) (args : List Expr) (env : Env) (Q : Value → Shared → Prop) : Value → Shared → Prop := fun ov s₁ => MethodOnS prog w A E name ov pos (backTo pos (starEach args env)) Q s₁
theorem Zbk {o : Expr} {name : Str} {apos pos : Pos} {args : List Expr} {Q : Value → Shared → Prop}
  (h : wpAny (model prog w) A (eval o env) (Zsj prog w A E name pos args env Q) E s)
  (hbase : autoParam (∀ x, attributeBase o name env x = x) aI)
  (hfew : autoParam (((backTo pos (starEach args env)).all (fun x => !x.1) && (backToKw pos (keywordEach [] env)).all (fun x => x.1.isSome)
   && decide (args.length + ([] : List Keyword).length + (if ([] : List Keyword).isEmpty then 0 else 1) < 30)) = true) aK)
  (hline : autoParam ((apos.endLine == pos.line) = true) aK) :
  wpAny (model prog w) A (eval (.Call (.Attribute o name apos) args [] pos) env) Q E s := wpAny_Call_method_lateS (hbase _) hfew hline h
local macro_rules | `(tactic| walk_at "S") => `(tactic| (refine Z4.of (Za2.scope (by assumption)) (by walk_at "A") (by kernel_rfl)))
noncomputable def lnm (k L : Nat) : List Nat := (List.range L).map fun i => 65 + k / 16 ^ (L - 1 - i) % 16
theorem Zkw {ys : List Str} {B : Nat} (h : ∀ y ∈ ys, y.length ≤ B) : (ys.map (·.length)).sum ≤ ys.length * B := StrLaws.sumLen_le ys h
theorem Zby (k m : Nat) : ((k : Int)).fdiv (m : Int) = ((k / m : Nat) : Int) := by rw [Int.fdiv_eq_ediv_of_nonneg _ (Int.natCast_nonneg _)]; rfl
theorem Zam (k m : Nat) : ((k : Int)).fmod (m : Int) = ((k % m : Nat) : Int) := by rw [Int.fmod_eq_emod_of_nonneg _ (Int.natCast_nonneg _)]; rfl
theorem Zh8 (l : List Nat) : Txt.join (ofString "") (l.map fun c => mkS [c]) = mkS l := by
 have h := Zgc [] (l.map fun c => [c])
 rw [List.map_map] at h
 have e : jn [] (l.map fun c => [c]) = l := by
  cases l with
  | nil => rfl
  | cons a r =>
   show [a] ++ _ = _
   rw [List.flatMap_map]
   simp
 rw [e] at h
 exact h
theorem Zk3 (W : Wd K s.heap) (G : KG K) (R : Zk A 10) (hf : FnK K 269 (ofString "_law_name") (ofString "_law_name") (top 21) [] .none 268) {x : Int} {L : Nat} {t1 t2 : Tok} {Q : Value → Shared → Prop}
  (hL : L = 2 ∨ L = 3 ∨ L = 4) (h : ∀ u s', Ext [] [] s s' → Q (.str (mkS (lnm x.natAbs L)) u) s') :
  wpAny (model prog w) A (call (.ref 269) [.int x t1, .int L t2]) Q E s := by
 refine Zw W R hf [("number", .int x t1), ("letters", .int L t2)] (fun _ _ _ _ _ => BindsTo.of_eq rfl) fun env s₁ hE hO hc C => ?_
 have RD := R.deeper (env := env)
 refine Zq ?_
 refine Zi (Zpr ?_)
 refine Zbk ?_
 refine C.cstr ?_; clear C; intro s t C
 refine Zbt "str" "str.join" F.plainAttrs_str F.slot_str_join F.type_str_join (typeIs_str _ _ _) (fun _ x => by cases x) (callWith_method1 ?_)
 refine Za (Loc.lc ⟨[("number", .int x t1)], by walk_at "S"⟩ C ?_)
 refine Zf ?_
 walk_at "B"
 refine xt1 (Za (Zn ?_))
 walk_at "N"
 refine C.cint fun s t C => C.isub ?_; clear C; intro s t C
 refine Za (xun (C.cint fun s t C => C.ineg fun s t C => ?_))
 refine Za (xun (C.cint fun s t C => C.ineg fun s t C => spliced_none ?_))
 refine C.range3 (by decide) (by decide) ?_; clear C; intro r _ _ _ s C
 refine C.pyIterR (C.led _ M0) ?_ L ?_ fun I s hI C => ?_
 ·rcases hL with rfl | rfl | rfl <;> decide
 ·rcases hL with rfl | rfl | rfl <;> decide
 have hL4 : L ≤ 4 := by rcases hL with e | e | e <;> rw [e] <;> decide
 refine Zal.all (fvs := [("number", .int x t1)]) (Zcz RD.hd ((L : Int) - 1) (-1) L) (by walk_at "S") hI (Zcq _ _ _) C (szl hL4 (by decide)) (fun _ _ _ => trivial) (fun i y new => (∃ t, y = .str (mkS [65 + x.natAbs / 16 ^ (L - 1 - i) % 16]) t) ∧ new = []) ?_ ?_
 ·intro i v cenv s N' hi hv ce C CO
  obtain ⟨t, rfl⟩ := hv
  have W := W.ext CO.ext
  refine Zf ?_
  walk_at "B"
  refine xb1 (Za (Zn (C.cint fun s t C => Zn (Zn (Zf ?_)))))
  walk_at "B"
  refine xb1 (Za ?_)
  walk_at "N"
  refine spliced_none (C.absR fun s t C => ?_)
  refine Zn (C.cint fun s t C => ?_)
  walk_at "N"
  have e : ((L : Int) - 1 + (i : Int) * -1) = ((L - 1 - i : Nat) : Int) := nC hi
  rw [e]
  have hLi : L - 1 - i ≤ 4 := Nat.le_trans (Nat.sub_le _ _) (Nat.le_trans (Nat.sub_le _ _) hL4)
  refine C.ipow (Int.natCast_nonneg _) (iL 1000000 (kA hLi rfl)) (by decide) ?_; clear C; intro s t C
  have e2 : ((16 : Int) ^ (((L - 1 - i : Nat) : Int)).toNat) = ((16 ^ (L - 1 - i) : Nat) : Int) := by rw [Int.toNat_natCast]; norm_cast
  rw [e2]
  refine C.idiv (by have : 0 < 16 ^ (L - 1 - i) := Nat.pow_pos (by decide); exact nZ this) (PyProof.noPylong_small ?_) fun s t C => ?_
  ·have : 16 ^ (L - 1 - i) ≤ 16 ^ 4 := Nat.pow_le_pow_right (by decide) hLi
   rw [Int.natAbs_natCast]
   exact Nat.lt_of_le_of_lt this (by decide)
  refine C.cint fun s t C => C.imod (by decide) fun s t C => C.iadd fun s t C => spliced_none ?_
  rw [Zby, Zg0]
  have : x.natAbs / 16 ^ (L - 1 - i) % 16 < 16 := Nat.mod_lt _ (by decide)
  refine C.chrR (Int.natCast_nonneg _) (iL 1114111 (kA (Nat.add_le_add_left (Nat.le_of_lt this) 65) rfl)) fun s t C => C.eltS ⟨t, ?_⟩
  have e3 : ((65 : Int) + ((x.natAbs / 16 ^ (L - 1 - i) % 16 : Nat) : Int)).toNat = 65 + x.natAbs / 16 ^ (L - 1 - i) % 16 := rfl
  rw [e3]
 ·intro D oD s rs hD hG C
  obtain ⟨h1, h2⟩ := hG.strs
  rw [h2] at C
  have hys : ∀ y ∈ (List.range L).map (fun i => mkS [65 + x.natAbs / 16 ^ (L - 1 - i) % 16]), y.length ≤ 1 := by
   intro y hy
   obtain ⟨i, _, rfl⟩ := List.mem_map.mp hy
   rw [Zv]; simp
  refine spliced_none (C.joinR M0 hD h1 ?_ fun s t C => ?_)
  ·have := Zkw hys
   have e : (ofString "").length = 0 := by decide
   rw [e]
   simp only [List.length_map, List.length_range] at this ⊢
   lia
  have e := Zh8 (lnm x.natAbs L)
  unfold lnm at e
  rw [List.map_map] at e
  have e : Txt.join (ofString "") ((List.range L).map (fun i => mkS [65 + x.natAbs / 16 ^ (L - 1 - i) % 16])) = mkS (lnm x.natAbs L) := e
  rw [e]
  exact h _ _ C.ext
noncomputable def Zgz (prog : Program) (w : World) (A : Around) (E : Value → Shared → Prop) (slice : Expr) (Q : Value → Shared → Prop) (o i : Value) (s : Shared) : Prop :=
 ∃ (T id : String) (ops : List Value), s.TypeIs o T ∧ typeLookup (.type T) "__getitem__" = pure (some (.builtin id)) ∧ subscripted slice false o i = operate ops (getItem o i) ∧ wpAny (model prog w) A (getItem o i) Q E s
noncomputable abbrev Zsf (prog : Program) (w : World) (A : Around) (E : Value → Shared → Prop) (slice : Expr) (Q : Value → Shared → Prop) (o : Value) : Value → Shared → Prop := fun i s₂ => Zgz prog w A E slice Q o i s₂
noncomputable abbrev Zsp (prog : Program) (w : World) (A : Around) (E : Value → Shared → Prop) (slice : Expr) (env : Env) (Q : Value → Shared → Prop) : Value → Shared → Prop := fun o s₁ => wpAny (model prog w) A (eval slice env) (Zsf prog w A E slice Q o) E s₁
theorem Zad {value slice : Expr} {pos : Pos} {Q : Value → Shared → Prop} (h : wpAny (model prog w) A (eval value env) (Zsp prog w A E slice env Q) E s) :
  wpAny (model prog w) A (eval (.Subscript value slice pos) env) Q E s := by
 rw [eval_Subscript]
 refine wpAny_bind (wpAny_mono h (fun o s₁ h₁ => wpAny_bind (wpAny_holding (wpAny_mono h₁ (fun i s₂ h₂ => wpAny_bind (wpAny_standAt ?_)) fun _ _ x => x)))
  fun _ _ x => x)
 refine Zbx h₂ fun T id ops hT hl hs hg => ?_
 exact tail_any (value := value) (slice := slice) hT hl hg hs
theorem Loc.subL {slice : Expr} {a : Addr} {us : List Value} {k : Int} {u : Tok} {x : Value} {Q : Value → Shared → Prop} (hl : s.heap.IsList a us.toArray) (h0 : 0 ≤ k) (h1 : k < 1000000) (hx : us[k.toNat]? = some x) (h : Q x s)
  (hs : autoParam (subscripted slice false (.ref a) (.int k u) = operate [.ref a, .int k u] (getItem (.ref a) (.int k u))) aU) : Zgz prog w A E slice Q (.ref a) (.int k u) s :=
 ⟨"list", _, _, hl.typeIs, slot_list_getitem.lookup, hs, wpAny_getItem_list hl h0 (by lia) (by simpa using hx) h⟩
theorem Loc.subT {slice : Expr} {a : Addr} {us : List Value} {k : Int} {u : Tok} {x : Value} {Q : Value → Shared → Prop} (hl : IsTup s.heap a us.toArray) (h0 : 0 ≤ k) (h1 : k < 1000000) (hx : us[k.toNat]? = some x) (h : Q x s)
  (hs : autoParam (subscripted slice false (.ref a) (.int k u) = operate [.ref a, .int k u] (getItem (.ref a) (.int k u))) aU) : Zgz prog w A E slice Q (.ref a) (.int k u) s := by
 have hlt : k.toNat < us.length := by
  rw [List.getElem?_eq_some_iff] at hx
  exact hx.1
 refine ⟨"tuple", _, _, hl.typeIs, slot_tuple_getitem.lookup, hs, getItem_tuple hl (by lia) (by lia) (j := k.toNat) ?_ (by simpa using hx) h⟩
 unfold seqIndex?
 simp
 rw [if_neg (Int.not_lt.mpr h0)]
 exact ⟨⟨h0, (Int.toNat_lt h0).mp hlt⟩, rfl⟩
theorem Loc.subLS (C : Loc env s₀ X vs l s) {slice : Expr} {a r : Addr} {us : List Value} {vl vu : Value} {lo hi : Option Int} {Q : Value → Shared → Prop} (hl : s.heap.IsList a us.toArray) (hr : s.heap.IsSliceOf r vl vu .none) (pl : IsPart vl lo) (pu : IsPart vu hi) (hsz : us.length ≤ 1000000)
  (h : ∀ D s', Loc env s₀ X vs ((D, Zu (kms_pick us lo hi)) :: l) s' → Q (.ref D) s')
  (hs : autoParam (subscripted slice false (.ref a) (.ref r) = operate [.ref r, .ref a] (getItem (.ref a) (.ref r))) aU) : Zgz prog w A E slice Q (.ref a) (.ref r) s := by
 refine ⟨"list", _, _, hl.typeIs, slot_list_getitem.lookup, hs, wpAny_getItem_list_slice hl hr pl pu .none (by simp) ?_ (by simp [sizeLine_eq]; exact kA ‹_› rfl)⟩
 rw [kms_pick_eq]
 have e : Ext [] [] s { s with heap := s.heap.push (Zu (kms_pick us lo hi)) } := C.extK (tk := s.toks) Zd
 exact h _ _ (C.add e Zc C.big (Heap.get?_push_size _ rfl))
theorem Loc.ladd (C : Loc env s₀ X vs l s) {a b : Addr} {us ws : List Value} {Q : Value → Shared → Prop} (ha : s.heap.IsList a us.toArray) (hb : s.heap.IsList b ws.toArray) (hsz : us.length + ws.length ≤ 1000000)
  (h : ∀ D s', Loc env s₀ X vs ((D, Zu (us ++ ws)) :: l) s' → Q (.ref D) s') : wpAny (model prog w) A (binaryOp .Add (.ref a) (.ref b)) Q E s := by
 obtain ⟨⟨cls, dd, data, sl⟩, ho, hc, n, hd⟩ := id ha
 obtain ⟨⟨cls2, dd2, data2, sl2⟩, ho2, hc2, n2, hd2⟩ := id hb
 simp only at hc hd hc2 hd2
 subst hc hd hc2 hd2
 have e : us.toArray ++ ws.toArray = (us ++ ws).toArray := by simp
 refine concat_meets ⟨_, ho, rfl⟩ ⟨_, ho2, rfl⟩ noFill_list_add seq_list_add PySem.F.slot_list_add PySem.F.entry_list_add (PySem.F.args_list_add_2 _ _) (list_addW a b us.toArray ws.toArray n n2 dd dd2 sl sl2 (by simp [sizeLine_eq]; exact kA ‹_› rfl)) ⟨ho, ho2, ?_⟩
 rw [e]
 have e : Ext [] [] s { s with heap := s.heap.push (Zu (us ++ ws)) } := C.extK (tk := s.toks) Zd
 exact h _ _ (C.add e Zc C.big (Heap.get?_push_size _ rfl))
theorem Loc.lenL (C : Loc env s₀ X vs l s) {a : Addr} {us : List Value} {Q : Value → Shared → Prop} (hl : s.heap.IsList a us.toArray) (hsz : us.length ≤ 1000000) (h : ∀ s' t, Loc env s₀ X vs l s' → Q (.int (us.length : Nat) t) s') :
  wpAny (model prog w) A (call (.builtin "len") [.ref a]) Q E s := call_len_list hl (by simp; lia) (by simpa using h _ _ C.tok)
theorem Loc.sumL (C : Loc env s₀ X vs l s) (hh : A.handled = none) {a : Addr} {us : List Value} {ns : List Int} {Q : Value → Shared → Prop} (hl : s.heap.IsList a us.toArray) (hi : IntsAre us ns) (h : ∀ s' t, Loc env s₀ X vs l s' → Q (.int ns.sum t) s') :
  wpAny (model prog w) A (call (.builtin "sum") [.ref a]) Q E s := by
 obtain ⟨xs, e⟩ := hi.allInts.items
 have hns : xs.toList.map (·.1) = ns := by rw [← hi.numsOf, ← nums_intItems, ← e]
 rw [e] at hl
 refine sum_intListG hh hl fun h' tk t' hk => ?_
 have h2 := h _ t' (C.keeps (tk := tk) hk)
 rw [preSum_eq, List.take_of_length_le (by simp), hns]
 exact h2
theorem Zhs {it a : Addr} {items : Array Value} : ∀ (n i : Nat) (s : Shared) (Q : List Value → Shared → Prop), s.heap.IsListIter it a i → s.heap.IsList a items → i + n ≤ items.size → a ≠ it →
  (∀ h', h'.IsListIter it a (i + n) → Heap.SameBut it s.heap h' → Q ((items.toList.drop i).take n) { s with heap := h' }) → wpAny (model prog w) A (draw (.ref it) n) Q E s
 | 0, i, s, Q, hit, _, _, _, hQ => by
  show wpAny _ _ (pure []) Q E s
  exact wpAny_pure (by simpa using hQ s.heap hit (Heap.SameBut.refl ..))
 | n + 1, i, s, Q, hit, ht, hle, hne, hQ => by
  have hlt : i < items.size := nV hle
  show wpAny _ _ (pyNext (.ref it) >>= _) Q E s
  refine wpAny_bind (wpAny_pyNext_list_item hit ht (x := items[i]) (by simp [hlt]) fun h₁ hit₁ hs₁ => ?_)
  have ht₁ : h₁.IsList a items := by
   refine Zo ht fun o e r => ?_
   exact ⟨o, (hs₁.2 a hne).trans e, r⟩
  refine wpAny_bind (wpAny_holding (Zhs n (i + 1) _ _ hit₁ ht₁ (by lia) hne fun h₂ hit₂ hs₂ => wpAny_pure ?_))
  have hd : items.toList.drop i = items[i] :: items.toList.drop (i + 1) := by simp [List.drop_eq_getElem_cons, hlt]
  have := hQ h₂ (by rw [show i + (n + 1) = i + 1 + n by simp +arith]; exact hit₂) (hs₁.trans hs₂)
  rw [hd, List.take_succ_cons] at this
  exact this
theorem Zfn {a : Addr} {items : Array Value} {Q : List Value → Shared → Prop} (hh : A.handled = none) (ht : s.heap.IsList a items)
  (hQ : ∀ h', Heap.ExtBut s.heap.objs.size s.heap h' → Q items.toList { s with heap := h' }) : wpAny (model prog w) A (unpackItems (.ref a) items.size none) Q E s := by
 have hlt : a ≠ s.heap.objs.size := by obtain ⟨o, ho, _⟩ := ht; exact Nat.ne_of_lt (Heap.lt_size ho)
 unfold unpackItems
 refine wpAny_bind ?_
 unfold notIterableAtAll
 refine wpAny_bind (wpAny_specialOf ht.typeIs slot_list_iter.lookup ?_)
 refine wpAny_pure ?_
 simp only [Bool.false_eq_true, if_false]
 refine wpAny_bind (wpAny_holding (wpAny_pyIter_list ht ?_))
 have lift : ∀ {h' : Heap}, Heap.SameBut s.heap.objs.size (s.heap.push { cls := .type "list_iterator", data := .fields #[.ref a, .int 0 0] }) h' → h'.IsList a items := fun {h'} hs => by
  refine Zo ht fun o e r => ?_
  exact ⟨o, (hs.2 a hlt).trans (Zd _ _ e), r⟩
 refine wpAny_bind (wpAny_holding (Zhs items.size 0 _ _ ⟨_, Heap.get?_push_size _ rfl, rfl, rfl⟩ (lift (Heap.SameBut.refl ..)) (by simp +arith) hlt fun h₁ hit₁ hs₁ => ?_))
 have hall : List.take items.size (List.drop 0 items.toList) = items.toList := by
  rw [List.drop_zero]; exact List.take_of_length_le (by simp)
 rw [hall]
 rw [if_neg (by simp)]
 refine wpAny_bind (wpAny_holding (wpAny_pyNext_list_end hh hit₁ (lift hs₁) (by simp) fun h₂ he₂ => ?_))
 simp only [Option.isSome_none, Bool.false_eq_true, if_false]
 exact wpAny_pure (hQ h₂ fun b o hb e => he₂ b o hb ((hs₁.2 b hb).trans (Zd _ _ e)))
theorem Zi7 {t : Addr} {items : Array Value} {targets : List (Bool × (Value → Sem Unit))} {Q : Unit → Shared → Prop} (hh : A.handled = none) (ht : s.heap.IsList t items)
  (hn : targets.length = items.size) (hstar : targets.findIdx? (·.1) = none)
  (h : ∀ h', Heap.ExtBut s.heap.objs.size s.heap h' → wpAny (model prog w) A (assignInOrder (targets.map (·.2)) items.toList) Q E { s with heap := h' }) :
  wpAny (model prog w) A (unpack (.ref t) targets) Q E s := by
 unfold unpack
 rw [hn, hstar]
 exact wpAny_bind (wpAny_holding (Zfn hh ht h))
theorem Ze3 {elts : List Expr} {x1} {pos : Pos} {t : Addr} {items : Array Value} {Q : Unit → Shared → Prop} (hh : A.handled = none) (ht : s.heap.IsList t items)
  (hn : (assignEach elts env).length = items.size) (hstar : (assignEach elts env).findIdx? (·.1) = none)
  (h : ∀ h', Heap.ExtBut s.heap.objs.size s.heap h' → wpAny (model prog w) A (assignInOrder ((assignEach elts env).map (·.2)) items.toList) Q E { s with heap := h' }) :
  wpAny (model prog w) A (assign (.Tuple elts x1 pos) env (.ref t)) Q E s := by
 rw [arm_assign_Tuple]
 exact wpAny_bind (wpAny_standAt (Zi7 hh ht hn hstar h))
theorem Loc.unlst2 (C : Loc env s₀ X vs l s) (hh : A.handled = none) {x y : Str} {p1 p2 pos : Pos} {k : Nat} {a : Addr} {u v : Value} {Q : Unit → Shared → Prop} (hm : s.heap.IsList a [u, v].toArray)
  (h : ∀ s', Loc env s₀ X vs l s' → wpAny (model prog w) A (storeName env x u) (fun _ s₁ => wpAny (model prog w) A (storeName env y v) Q E s₁) E s') :
  wpAny (model prog w) A (assign (.Tuple [.Name x p1, .Name y p2] k pos) env (.ref a)) Q E s := by
 refine Ze3 hh hm rfl rfl fun h' hx => ?_
 have k' : ∀ b o, s.heap.get? b = some o → h'.get? b = some o := fun b o e => hx b o (Nat.ne_of_lt (Heap.lt_size e)) e
 refine Zld (wpAny_assign_Name ?_)
 exact wpAny_mono (h _ (C.keeps (tk := s.toks) k')) (fun _ _ q => wpAny_mono (wpAny_assign_Name q) (fun _ _ z => z) fun _ _ z => z) fun _ _ z => z
theorem Zao {elt : Expr} {gens : List Comprehension} {sc : Scope} {pos p : Pos} {t : Str} {line : Nat} (hb : env.blockKind = .function) (hk : env.kindOf t = some .local)
  (hc : (p.line == pos.line && !(sc.names.any fun (n, k) => n == t && (k == .local || k == .cell))) = true) : swapsWith (.ListComp elt gens sc pos) (some (.Name t p)) line env = Pure.pure true := by
 show (Pure.pure (env.blockKind == .function && env.kindOf t == some .local && p.line == pos.line && !(sc.names.any fun (n, k) => n == t && (k == .local || k == .cell))) : Sem Bool) = _
 have e : (env.blockKind == .function && env.kindOf t == some .local && p.line == pos.line && !(sc.names.any fun (n, k) => n == t && (k == .local || k == .cell))) = true := by
  rw [Bool.and_assoc, hc, hb, hk]; rfl
 rw [e]
theorem Zfu {elt : Expr} {gens : List Comprehension} {sc : Scope} {pos p : Pos} {t : Str} {line : Nat} {k : NameKind} (hk : env.kindOf t = some k) (hn : k ≠ .local) : swapsWith (.ListComp elt gens sc pos) (some (.Name t p)) line env = Pure.pure false := by
 show (Pure.pure (env.blockKind == .function && env.kindOf t == some .local && p.line == pos.line && !(sc.names.any fun (n, k) => n == t && (k == .local || k == .cell))) : Sem Bool) = _
 have e : (env.kindOf t == some NameKind.local) = false := by rw [hk]; simpa using hn
 rw [e]; simp
theorem Loc.block (C : Loc env s₀ X vs l s) : env.blockKind = .function := by
 unfold Env.blockKind
 rw [C.fr.kind]
 rfl
theorem Zaz {vs : List Value} {ns : List Int} (h : IntsAre vs ns) {i : Nat} {v : Value} (e : vs[i]? = some v) : ∃ t, v = .int (ns.getD i 0) t ∧ i < ns.length := by
 induction h generalizing i with
 | nil => simp at e
 | cons n t r ih =>
  cases i with
  | zero => simp at e; exact ⟨t, by rw [← e]; rfl, by simp⟩
  | succ i =>
   refine Zo (ih (i := i) (by simpa using e)) fun t' h1 h2 => ?_
   exact ⟨t', by simpa using h1, by simpa using h2⟩
theorem Zid {a b : Int} (h : a.natAbs < 2 ^ 64) : IntMulOk a b := .of_left (intBits_le_iff.mpr h)
theorem Zqo {ud : List Value} {ds : List Int} (hd : IntsAre ud ds) (a b : Int) (ta tb : Tok) : ∃ x y t1 t2, kms_pick (ud ++ kms_pick [.int a ta, .int b tb] (some (ud.length : Nat)) none) none (some 2) = [.int x t1, .int y t2] := by
 cases hd with
 | nil => exact ⟨_, _, _, _, rfl⟩
 | cons x t r =>
  cases r with
  | nil => exact ⟨_, _, _, _, rfl⟩
  | cons y u r =>
   refine ⟨x, y, t, u, ?_⟩
   simp [kms_pick, kms_lo, kms_hi]
theorem Zgm (us : List Value) (lo hi : Option Int) : (kms_pick us lo hi).length ≤ us.length := by
 exact ((List.take_sublist _ _).trans (List.drop_sublist _ _)).length_le
theorem Zgn (x : Int) (k : Nat) (hk : 0 < k) : ∃ a : Nat, a < k ∧ x.fmod (k : Nat) = a :=
 ⟨(x.fmod k).toNat, by have := Int.fmod_lt_of_pos x (b := k) (nz hk); have := Int.fmod_nonneg_of_pos x (b := k) (nz hk); simp +arith [*], by have := Int.fmod_nonneg_of_pos x (b := k) (nz hk); exact nT this⟩
noncomputable def Zg : List (Nat × Nat) := [(3, 3), (3, 5), (3, 7), (3, 9), (5, 3), (5, 5), (7, 3)]
structure Za8 (m n L : Nat) (st : Int) : Prop where
 mn : (m, n) ∈ Zg
 hL : L = 2 ∨ L = 3 ∨ L = 4
 rng : ((16 : Int) ^ (L - 1) ≤ st ∧ st + m * n ≤ 16 ^ L) ∨ (-(16 : Int) ^ L + 1 ≤ st ∧ st + m * n + 16 ^ (L - 1) ≤ 1)
theorem Zji (W : Wd K s.heap) (G : KG K) (R : Zk A 10) (hf : FnK K 264 (ofString "_law_cards") (ofString "_law_cards") (top 20) [] .none 263) {a : Addr} {us : List Value} {ns : List Int} {Q : Value → Shared → Prop}
  (hl : s.heap.IsList a us.toArray) (hi : IntsAre us ns) (hlen : ns.length ≤ 1000) (ha : 316 ≤ a)
  (h : ∀ p m n L st t1 t2 t3 t4 s', Za8 m n L st → s.heap.get? p = none → 316 ≤ p → Ext [] [] s s' → s'.heap.get? p = some (Zaw [.int (m : Nat) t1, .int (n : Nat) t2, .int (L : Nat) t3, .int st t4]) → Q (.ref p) s') :
  wpAny (model prog w) A (call (.ref 264) [.ref a]) Q E s := by
 refine Zw W R hf [("script", .ref a)] (fun _ _ _ _ _ => BindsTo.of_eq rfl) fun env s₁ hE hO hc C => ?_
 have RD := R.deeper (env := env)
 have hlk : ∀ {s'}, Ext [] [] s s' → s'.heap.IsList a us.toArray := fun {s'} x => by
  refine Zo hl fun o e r => ?_
  exact ⟨o, x.keep _ _ (fun h => nomatch h) (fun ht => absurd ha (Nat.not_le.mpr (Zz _ ht))) e, r⟩
 refine Zq ?_
 refine Zi ?_
 refine Loc.lcA hO ⟨[], by walk_at "S"⟩ C (Zao C.block (by walk_at "K") (by kernel_rfl)) (by walk_at "K") ?_
 refine Zad ?_
 walk_at "N"
 refine C.sliceO ?_
 refine wpAny_evalPart_none ?_
 refine wpAny_evalPart_some (C.cint fun s t C => ⟨_, _, C, fun r s hr C => ?_⟩)
 refine C.subLS (hlk C.ext) hr .none (.int _ _) (by rw [hi.length]; exact kA ‹_› rfl) ?_; clear C; intro D s C
 have hip : IntsAre (kms_pick us none (some 60)) (pickNums ns none (some 60) none) := by
  have := IntsAre.pick hi none (some 60) none
  rw [kms_pick_eq] at this
  simpa using this
 have hul : (kms_pick us none (some 60)).length ≤ 1000 := Nat.le_trans (Zgm _ _ _) (by rw [hi.length]; exact hlen)
 generalize kms_pick us none (some 60) = us1 at *
 generalize pickNums ns none (some 60) none = ns1 at *
 refine C.pyIterL ((Zm _).at (C.led _ M0)) ?_; clear C; intro I oI s hI hoI C
 refine Zal.all (fvs := []) (Zbl RD.hd D us1) (by walk_at "S") hI hoI C (by rw [sizeLine_eq]; exact kA ‹_› rfl) (fun s' l' C => (Zm _).at (C.led (D, Zu us1) (by simp))) (fun i y new => (∃ t, y = .int ((ns1.getD i 0).fmod (10 ^ 6)) t) ∧ new = []) ?_ ?_
 ·intro i v cenv s N' hi hv ce C CO
  obtain ⟨t, rfl, hlt⟩ := Zaz hip hv
  refine Zn ?_
  walk_at "N"
  refine Zn (C.cint fun s t C => C.cint fun s t C => C.ipow (by decide) (by decide) (by decide) fun s t C => ?_)
  refine C.imod (by decide) fun s t C => C.eltS ⟨t, ?_⟩
  rfl
 intro D1 o1 s rs hD hG C s C
 replace C := C.sv (Za3.of (by walk_at "T") (by kernel_rfl))
 obtain ⟨hds, hfl⟩ := hG.ints
 rw [hfl] at C
 have hdl : (rs.map (·.1)).length ≤ 1000 := by rw [hds.length, List.length_map, List.length_range]; exact hul
 generalize rs.map (·.1) = ud at *
 generalize (List.range us1.length).map (fun i => (ns1.getD i 0).fmod (10 ^ 6)) = ds at *
 replace C := C.sub (l' := [(D1, o1)]) (by first | walk_at "U" | simp)
 have hD1 : ∀ {s₀ s'} {vs'} {l'} (_ : Loc env s₀ [] vs' (l' ++ [(D1, o1)]) s'), s'.heap.IsList D1 ud.toArray := fun C => hD.at (C.led (D1, o1) (by first | walk_at "M" | simp))
 refine Zi ?_
 refine Assign_Tuple ?_
 refine Zad ?_
 refine Zn ?_
 walk_at "N"
 refine Zad ?_
 refine List_ ?_
 refine Za ?_
 refine C.cint ?_; clear C; intro s ta C
 refine Za ?_
 refine C.cint ?_; clear C; intro s tb C
 refine spliced_none ?_
 refine C.lst (by simp [sizeLine_eq]) ?_; clear C; intro L1 s C
 refine C.sliceO ?_
 refine wpAny_evalPart_some ?_
 refine Zf ?_
 walk_at "B"
 refine xb1 ?_
 refine Za ?_
 walk_at "N"
 refine spliced_none ?_
 refine C.lenL (hD1 (l' := [_]) C) (kA ‹_› rfl) ?_; clear C; intro s t C
 refine wpAny_evalPart_none ⟨_, _, C, fun r s hr C => ?_⟩
 refine C.subLS ((Zm _).at (C.led _ M0)) hr (.int _ _) .none (by simp) ?_; clear C; intro L2 s C
 refine C.ladd (hD1 (l' := [_, _]) C) ((Zm _).at (C.led _ M0)) ?_ fun L3 s C => ?_
 ·have := Zgm [Value.int 0 ta, Value.int 2 tb] (some (ud.length : Nat)) none
  simp only [List.length_cons, List.length_nil] at this
  lia
 refine C.sliceO ?_
 refine wpAny_evalPart_none ?_
 refine wpAny_evalPart_some ?_
 refine C.cint fun s t C => ⟨_, _, C, fun r s hr C => ?_⟩
 refine C.subLS ((Zm _).at (C.led _ M0)) hr .none (.int _ _) ?_ fun L4 s C => ?_
 ·have := Zgm [Value.int 0 ta, Value.int 2 tb] (some (ud.length : Nat)) none
  simp only [List.length_cons, List.length_nil, List.length_append] at this ⊢
  lia
 refine Zq2 (Zqo hds 0 2 ta tb) fun x y tx ty e2 => ?_
 rw [e2] at C
 refine C.unlst2 RD.hd ((Zm _).at (C.led _ M0)) ?_; clear C; intro s C
 replace C := C.sub (l' := [(D1, o1)]) (by first | walk_at "U" | simp)
 refine C.st hO hc (by walk_at "K") ?_; clear C; intro s C
 refine C.st hO hc (by walk_at "K") ?_; clear C; intro s C
 refine xca ?_
 refine Zn ?_
 refine C.cint ?_; clear C; intro s t C
 refine Zn ?_
 refine C.cint ?_; clear C; intro s t C
 refine Zn ?_
 walk_at "N"
 refine C.cint ?_; clear C; intro s t C
 refine C.imod (by decide) ?_; clear C; intro s t C
 refine Zo (Zgn x 3 (by decide)) fun a3 ha3 e3 => ?_
 have hm9 : 3 + 2 * a3 ≤ 9 := Nat.add_le_add_left (Nat.mul_le_mul_left 2 (Nat.le_of_lt ha3)) 3
 have hm0 : (3 + 2 * (a3 : Int)) ≠ 0 := nZ (k := 3 + 2 * a3) (Nat.lt_of_lt_of_le (by decide) (Nat.le_add_right 3 _))
 rw [show (x.fmod 3) = (a3 : Int) from e3]
 refine C.imul (Zid (by decide)) fun s t C => C.iadd ?_; clear C; intro s t C
 refine C.st hO hc (by walk_at "K") ?_; clear C; intro s C
 refine xca ?_
 refine Zn ?_
 refine C.cint ?_; clear C; intro s t C
 refine Zn ?_
 refine C.cint ?_; clear C; intro s t C
 refine Zn ?_
 walk_at "N"
 refine Zn ?_
 refine Zn ?_
 refine Zn ?_
 refine C.cint ?_; clear C; intro s t C
 walk_at "N"
 refine C.idiv hm0 (PyProof.noPylong_small (kB hm9 rfl)) ?_; clear C; intro s t C
 refine C.cint ?_; clear C; intro s t C
 refine C.isub ?_; clear C; intro s t C
 refine C.cint ?_; clear C; intro s t C
 refine C.idiv (by decide) (PyProof.noPylong_small (by decide)) ?_; clear C; intro s t C
 obtain ⟨c, hc4, e4⟩ : ∃ c : Nat, (a3, c) ∈ [(0, 4), (1, 2), (2, 1)] ∧ ((27 : Int).fdiv (3 + 2 * (a3 : Int)) - 1).fdiv 2 = c := by
  have : a3 = 0 ∨ a3 = 1 ∨ a3 = 2 := by lia
  rcases this with rfl | rfl | rfl
  ·exact ⟨4, by decide, by decide⟩
  ·exact ⟨2, by decide, by decide⟩
  ·exact ⟨1, by decide, by decide⟩
 have hc0 : 0 < c := by
  simp only [List.mem_cons, Prod.mk.injEq, List.not_mem_nil, or_false] at hc4
  lia
 rw [e4]
 refine C.imod (nZ hc0) ?_; clear C; intro s t C
 refine Zo (Zgn y c hc0) fun b hb e5 => ?_
 rw [e5]
 refine C.imul (Zid (by decide)) fun s t C => C.iadd ?_; clear C; intro s t C
 refine C.st hO hc (by walk_at "K") ?_; clear C; intro s C
 refine xca ?_
 refine Zn ?_
 refine Zf ?_
 walk_at "B"
 refine xb1 ?_
 refine Za ?_
 walk_at "N"
 refine spliced_none ?_
 refine C.sumL RD.hd (hD1 (l' := []) C) hds ?_; clear C; intro s t C
 refine C.cint ?_; clear C; intro s t C
 refine C.iadd ?_; clear C; intro s t C
 generalize ds.sum + 81 = tot
 refine C.st hO hc (by walk_at "K") ?_; clear C; intro s C
 refine xca ?_
 refine Zn ?_
 refine C.cint ?_; clear C; intro s t C
 refine Zn ?_
 walk_at "N"
 refine C.cint ?_; clear C; intro s t C
 refine C.imod (by decide) ?_; clear C; intro s t C
 refine Zo (Zgn tot 3 (by decide)) fun d hd e6 => ?_
 rw [show (tot.fmod 3) = (d : Int) from e6]
 refine C.iadd ?_; clear C; intro s t C
 refine C.st hO hc (by walk_at "K") ?_; clear C; intro s C
 refine xca ?_
 refine Zn ?_
 refine C.cint ?_; clear C; intro s t C
 refine Zn ?_
 walk_at "N"
 refine C.cint ?_; clear C; intro s t C
 refine C.isub ?_; clear C; intro s t C
 refine C.ipow (by lia) (by lia) (by decide) ?_; clear C; intro s t C
 have e7 : (2 + (d : Int) - 1).toNat = d + 1 := by simp +arith
 rw [e7]
 have hlow : (16 : Int) ^ (d + 1) = 16 ∨ (16 : Int) ^ (d + 1) = 256 ∨ (16 : Int) ^ (d + 1) = 4096 := by
  have : d = 0 ∨ d = 1 ∨ d = 2 := by lia
  rcases this with rfl | rfl | rfl <;> decide
 generalize hlw : (16 : Int) ^ (d + 1) = low at *
 refine C.st hO hc (by walk_at "K") ?_; clear C; intro s C
 refine xca ?_
 refine Zn ?_
 walk_at "N"
 refine Zn ?_
 refine Zn ?_
 walk_at "N"
 refine C.cint ?_; clear C; intro s t C
 refine C.idiv (by decide) (PyProof.noPylong_small (by decide)) ?_; clear C; intro s t C
 refine Zn ?_
 refine Zn ?_
 refine C.cint ?_; clear C; intro s t C
 walk_at "N"
 refine C.imul (Zid (by decide)) ?_; clear C; intro s t C
 refine C.cint ?_; clear C; intro s t C
 refine C.isub ?_; clear C; intro s t C
 refine C.imod (by lia) ?_; clear C; intro s t C
 refine C.iadd ?_; clear C; intro s t C
 have hl0 : 0 < 15 * low - 26 := by rcases hlow with h | h | h <;> rw [h] <;> decide
 have hr0 : 0 ≤ (tot.fdiv 6).fmod (15 * low - 26) := Int.fmod_nonneg_of_pos _ hl0
 have hr1 : (tot.fdiv 6).fmod (15 * low - 26) < 15 * low - 26 := Int.fmod_lt_of_pos _ hl0
 generalize (tot.fdiv 6).fmod (15 * low - 26) = rr at *
 have hmn : (3 + 2 * a3, 3 + 2 * b) ∈ Zg ∧ (3 + 2 * (a3 : Int)) * (3 + 2 * (b : Int)) ≤ 27 ∧ 0 ≤ (3 + 2 * (a3 : Int)) * (3 + 2 * (b : Int)) := by
  simp only [List.mem_cons, Prod.mk.injEq, List.not_mem_nil, or_false] at hc4
  rcases hc4 with ⟨rfl, rfl⟩ | ⟨rfl, rfl⟩ | ⟨rfl, rfl⟩
  ·have : b = 0 ∨ b = 1 ∨ b = 2 ∨ b = 3 := by lia
   rcases this with rfl | rfl | rfl | rfl <;> decide
  ·have : b = 0 ∨ b = 1 := by lia
   rcases this with rfl | rfl <;> decide
  ·have : b = 0 := by lia
   subst this; decide
 refine Zae hmn fun hmn hmn1 hmn0 => ?_
 refine C.st hO hc (by walk_at "K") ?_; clear C; intro s C
 refine xci ?_
 refine Z0 ?_
 refine Zn ?_
 refine Zn ?_
 walk_at "N"
 refine C.cint ?_; clear C; intro s t C
 refine C.idiv (by decide) (PyProof.noPylong_small (by decide)) ?_; clear C; intro s t C
 refine C.cint ?_; clear C; intro s t C
 refine C.imod (by decide) ?_; clear C; intro s t C
 refine C.cint ?_; clear C; intro s t C
 refine eq_int (wpAny_truthy_bool ?_)
 have hpow : (16 : Int) ^ (2 + d) = 16 * low := by rw [← hlw, ← Int.pow_succ']; congr 1; simp +arith
 refine ifS (fun _ => ?_) (fun _ => ?_)
 ·refine xca ?_
  refine Zn ?_
  refine Zn ?_
  refine C.cint ?_; clear C; intro s t C
  refine Zn ?_
  walk_at "N"
  walk_at "N"
  refine C.imul (Zid (kB hm9 rfl)) ?_; clear C; intro s t C
  refine C.isub ?_; clear C; intro s t C
  walk_at "N"
  refine C.isub ?_; clear C; intro s t C
  refine C.st hO hc (by walk_at "K") ?_; clear C; intro s C
  refine wpAny_execs_nil ?_
  have hrng : ((16 : Int) ^ (2 + d - 1) ≤ 1 - (3 + 2 * (a3 : Int)) * (3 + 2 * (b : Int)) - (low + rr) ∧ 1 - (3 + 2 * (a3 : Int)) * (3 + 2 * (b : Int)) - (low + rr) + (3 + 2 * (a3 : Int)) * (3 + 2 * (b : Int)) ≤ 16 ^ (2 + d)) ∨
    (-(16 : Int) ^ (2 + d) + 1 ≤ 1 - (3 + 2 * (a3 : Int)) * (3 + 2 * (b : Int)) - (low + rr) ∧ 1 - (3 + 2 * (a3 : Int)) * (3 + 2 * (b : Int)) - (low + rr) + (3 + 2 * (a3 : Int)) * (3 + 2 * (b : Int)) + 16 ^ (2 + d - 1) ≤ 1) := by
   rw [hpow, show 2 + d - 1 = d + 1 by simp +arith, hlw]
   right; lia
  generalize 1 - (3 + 2 * (a3 : Int)) * (3 + 2 * (b : Int)) - (low + rr) = st at C hrng
  refine xcr ?_
  refine Tuple_ ?_
  refine Za ?_
  walk_at "N"
  refine Za ?_
  walk_at "N"
  refine Za ?_
  walk_at "N"
  refine Za ?_
  walk_at "N"
  refine spliced_none ?_
  refine C.tup (by simp [sizeLine_eq]) ?_; clear C; intro p s C
  refine Zae (C.fresh M0) fun f1 f2 f3 => ?_
  have e1 : (3 + 2 * (a3 : Int)) = ((3 + 2 * a3 : Nat) : Int) := rfl
  have e2 : (3 + 2 * (b : Int)) = ((3 + 2 * b : Nat) : Int) := rfl
  have e3 : (2 + (d : Int)) = ((2 + d : Nat) : Int) := rfl
  rw [e1, e2] at hrng
  rw [e1, e2, e3] at f3
  exact h p _ _ _ st _ _ _ _ s ⟨hmn, by lia, hrng⟩ f1 f2 C.ext f3
 ·refine wpAny_execs_nil ?_
  have hrng : ((16 : Int) ^ (2 + d - 1) ≤ low + rr ∧ low + rr + (3 + 2 * (a3 : Int)) * (3 + 2 * (b : Int)) ≤ 16 ^ (2 + d)) ∨
    (-(16 : Int) ^ (2 + d) + 1 ≤ low + rr ∧ low + rr + (3 + 2 * (a3 : Int)) * (3 + 2 * (b : Int)) + 16 ^ (2 + d - 1) ≤ 1) := by
   rw [hpow, show 2 + d - 1 = d + 1 by simp +arith, hlw]
   left; lia
  generalize low + rr = st at C hrng
  refine xcr ?_
  refine Tuple_ ?_
  refine Za ?_
  walk_at "N"
  refine Za ?_
  walk_at "N"
  refine Za ?_
  walk_at "N"
  refine Za ?_
  walk_at "N"
  refine spliced_none ?_
  refine C.tup (by simp [sizeLine_eq]) ?_; clear C; intro p s C
  refine Zae (C.fresh M0) fun f1 f2 f3 => ?_
  have e1 : (3 + 2 * (a3 : Int)) = ((3 + 2 * a3 : Nat) : Int) := rfl
  have e2 : (3 + 2 * (b : Int)) = ((3 + 2 * b : Nat) : Int) := rfl
  have e3 : (2 + (d : Int)) = ((2 + d : Nat) : Int) := rfl
  rw [e1, e2] at hrng
  rw [e1, e2, e3] at f3
  exact h p _ _ _ st _ _ _ _ s ⟨hmn, by lia, hrng⟩ f1 f2 C.ext f3
theorem Ext.get {s s' : Shared} (x : Ext [] [] s s') {a : Addr} {o : Obj} (ha : 316 ≤ a) (e : s.heap.get? a = some o) : s'.heap.get? a = some o :=
 x.keep _ _ (fun h => nomatch h) (fun ht => absurd ha (Nat.not_le.mpr (Zz _ ht))) e
theorem Ext.list {s s' : Shared} (x : Ext [] [] s s') {a : Addr} {its : Array Value} (ha : 316 ≤ a) (hl : s.heap.IsList a its) : s'.heap.IsList a its := by
 refine Zo hl fun o e r => ?_
 exact ⟨o, x.get ha e, r⟩
theorem Zdb (a b : List Nat) : mkS a ++ mkS b = mkS (a ++ b) := by
 show (⟨(mkS a).cps ++ (mkS b).cps⟩ : Str) = _
 simp [mkS]
theorem Zer {us : List Value} {ss : List Str} (h : StrsAre us ss) : ∀ n, StrsAre (us.take n) (ss.take n) := by
 induction h with
 | nil => intro n; simp; exact .nil
 | cons x t r ih =>
  intro n
  cases n with
  | zero => simp; exact .nil
  | succ n => rw [List.take_succ_cons, List.take_succ_cons]; exact .cons _ _ (ih n)
theorem Zii {us : List Value} {ss : List Str} (h : StrsAre us ss) : ∀ n, StrsAre (us.drop n) (ss.drop n) := by
 induction h with
 | nil => intro n; simp; exact .nil
 | cons x t r ih =>
  intro n
  cases n with
  | zero => exact .cons _ _ r
  | succ n => rw [List.drop_succ_cons, List.drop_succ_cons]; exact ih n
theorem Zgx {us : List Value} {ss : List Str} (h : StrsAre us ss) {i : Nat} {v : Value} (e : us[i]? = some v) : ∃ x t, v = .str x t ∧ ss[i]? = some x := by
 induction h generalizing i with
 | nil => simp at e
 | cons x t r ih =>
  cases i with
  | zero => simp at e; exact ⟨x, t, e.symm, rfl⟩
  | succ i => exact ih (by simpa using e)
theorem Zb7 {us : List Value} {ss : List Str} (h : StrsAre us ss) {i : Nat} {x : Str} (e : ss[i]? = some x) : ∃ t, us[i]? = some (.str x t) := by
 induction h generalizing i with
 | nil => simp at e
 | cons y t r ih =>
  cases i with
  | zero => simp at e; exact ⟨t, by rw [← e]; rfl⟩
  | succ i =>
   obtain ⟨t', e'⟩ := ih (i := i) (by simpa using e)
   exact ⟨t', by simpa using e'⟩
theorem Zhk {us : List Value} {ss : List Str} (h : StrsAre us ss) (i w : Nat) (hiw : i + w ≤ us.length) : StrsAre (kms_pick us (some (i : Int)) (some ((i : Int) + w))) ((ss.drop i).take w) := by
 have e1 : kms_lo (some (i : Int)) us.length = i := by
  unfold kms_lo
  simp only []
  rw [if_neg (Int.not_lt.mpr (Int.natCast_nonneg i))]; exact Nat.min_eq_left (nA hiw)
 have e2 : kms_hi (some ((i : Int) + w)) us.length = i + w := by
  unfold kms_hi
  simp only []
  rw [if_neg (Int.not_lt.mpr (Int.add_nonneg (Int.natCast_nonneg i) (Int.natCast_nonneg w)))]; exact Nat.min_eq_left hiw
 unfold kms_pick
 rw [e1, e2, show i + w - i = w by simp +arith]
 exact Zer (Zii h i) w
theorem Zh3 (sep : List Nat) : ∀ ls : List (List Nat), (jn sep ls).length ≤ (ls.map List.length).sum + ls.length * sep.length := by
 intro ls
 cases ls with
 | nil => simp [jn]
 | cons x r =>
  show (x ++ r.flatMap fun p => sep ++ p).length ≤ _
  rw [List.length_append, List.length_flatMap]
  have : ∀ r : List (List Nat), (r.map fun p => (sep ++ p).length).sum = (r.map List.length).sum + r.length * sep.length := by
   intro r
   induction r with
   | nil => simp
   | cons y r ih =>
    rw [List.map_cons, List.sum_cons, ih, List.map_cons, List.sum_cons, List.length_append, List.length_cons, Nat.succ_mul]; simp +arith
  rw [this]
  simp only [List.map_cons, List.sum_cons, List.length_cons, Nat.succ_mul]
  simp +arith
theorem Zcy {ls : List (List Nat)} {B : Nat} (h : ∀ x ∈ ls, x.length ≤ B) : (ls.map List.length).sum ≤ ls.length * B := by
 induction ls with
 | nil => simp
 | cons x r ih =>
  have := h x M0
  have := ih fun y hy => h y (.tail _ hy)
  simp only [List.map_cons, List.sum_cons, List.length_cons, Nat.succ_mul]
  lia
theorem Zp2 {ls : List (List Nat)} {B : Nat} (h : ∀ x ∈ ls, x.length ≤ B) : ((ls.map mkS).map (·.length)).sum ≤ ls.length * B := by
 rw [List.map_map]
 have e : ((fun x : Str => x.length) ∘ mkS) = (List.length : List Nat → Nat) := by funext x; exact Zv x
 rw [e]; exact Zcy h
noncomputable def Zbb (nms : List (List Nat)) (rows width : Nat) : List Nat := jn [10] ((List.range rows).map fun i => 32 :: jn [32] ((nms.drop (i * width)).take width))
theorem Loc.sadd (C : Loc env s₀ X vs l s) {a b : List Nat} {t u : Tok} {Q : Value → Shared → Prop} (hsz : a.length + b.length ≤ 1000000) (h : ∀ s' t', Loc env s₀ X vs l s' → Q (.str (mkS (a ++ b)) t') s') : wpAny (model prog w) A (binaryOp .Add (.str (mkS a) t) (.str (mkS b) u)) Q E s :=
 PyProof.Rows.add_str (fun t' tk => by rw [Zdb]; exact h _ _ C.tok) (by rw [Zv, Zv, sizeLine_eq]; exact kA ‹_› rfl)
theorem Loc.joinM (C : Loc env s₀ X vs l s) {D : Addr} {oD : Obj} {us : List Value} {ls : List (List Nat)} {x : List Nat} {t : Tok} {Q : Value → Shared → Prop} (hm : (D, oD) ∈ l) (hD : Zy oD us) (hi : StrsAre us (ls.map mkS)) {B : Nat} (hB : ∀ y ∈ ls, y.length ≤ B) (hok : ls.length * B + ls.length * x.length ≤ 1000000)
  (h : ∀ s' t', Loc env s₀ X vs l s' → Q (.str (mkS (jn x ls)) t') s') : wpAny (model prog w) A (call (.builtin "str.join") [.str (mkS x) t, .ref D]) Q E s := by
 refine C.joinR hm hD hi ?_ fun s t C => ?_
 ·have := Zp2 hB
  rw [List.length_map, Zv]
  lia
 ·rw [Zgc]; exact h _ _ C
theorem Zfp {rows width : Nat} (h : (rows, width) ∈ Zg ∨ (width, rows) ∈ Zg) : Builtin.Range.rangeSize 0 ((rows * width : Nat) : Int) (width : Int) = rows ∧ Builtin.Range.small 0 ((rows * width : Nat) : Int) (width : Int) = true ∧ 0 < width ∧ width ≤ 9 ∧ rows ≤ 9 ∧ rows * width ≤ 27 := by
 have k1 : ∀ p ∈ Zg, Builtin.Range.rangeSize 0 ((p.1 * p.2 : Nat) : Int) (p.2 : Int) = p.1 ∧ Builtin.Range.small 0 ((p.1 * p.2 : Nat) : Int) (p.2 : Int) = true ∧ 0 < p.2 ∧ p.2 ≤ 9 ∧ p.1 ≤ 9 ∧ p.1 * p.2 ≤ 27 := by decide
 have k2 : ∀ p ∈ Zg, Builtin.Range.rangeSize 0 ((p.2 * p.1 : Nat) : Int) (p.1 : Int) = p.2 ∧ Builtin.Range.small 0 ((p.2 * p.1 : Nat) : Int) (p.1 : Int) = true ∧ 0 < p.1 ∧ p.1 ≤ 9 ∧ p.2 ≤ 9 ∧ p.2 * p.1 ≤ 27 := by decide
 exact h.elim (k1 _) (k2 _)
theorem Zft (W : Wd K s.heap) (G : KG K) (R : Zk A 10) (hf : FnK K 281 (ofString "_law_lines") (ofString "_law_lines") (top 23) [] .none 280) {a : Addr} {us : List Value} {nms : List (List Nat)} {rows width : Nat} {t1 : Tok} {Q : Value → Shared → Prop}
  (hl : s.heap.IsList a us.toArray) (hi : StrsAre us (nms.map mkS)) (ha : 316 ≤ a) (hp : (rows, width) ∈ Zg ∨ (width, rows) ∈ Zg) (hlen : nms.length = rows * width) (hB : ∀ x ∈ nms, x.length ≤ 4)
  (h : ∀ u s', Ext [] [] s s' → Q (.str (mkS (Zbb nms rows width)) u) s') :
  wpAny (model prog w) A (call (.ref 281) [.ref a, .int (width : Nat) t1]) Q E s := by
 refine Zd3 (Zfp hp) fun hr1 hr2 hw0 hw9 hr9 hrw => ?_
 have hul : us.length = rows * width := by rw [hi.length, List.length_map, hlen]
 refine Zw W R hf [("names", .ref a), ("width", .int width t1)] (fun _ _ _ _ _ => BindsTo.of_eq rfl) fun env s₁ hE hO hc C => ?_
 have RD := R.deeper (env := env)
 refine Zq ?_
 refine xcr ?_
 refine Zbk ?_
 refine C.cstr ?_; clear C; intro s t C
 refine Zbt "str" "str.join" F.plainAttrs_str F.slot_str_join F.type_str_join (typeIs_str _ _ _) (fun _ x => by cases x) (callWith_method1 ?_)
 refine Za ?_
 refine Loc.lc ⟨[("names", .ref a), ("width", .int width t1)], by walk_at "S"⟩ C ?_
 refine Zf ?_
 walk_at "B"
 refine xt1 ?_
 refine Za ?_
 refine C.cint ?_; clear C; intro s t C
 refine Za ?_
 refine Zf ?_
 walk_at "B"
 refine xb1 ?_
 refine Za ?_
 walk_at "N"
 refine spliced_none ?_
 refine C.lenL (C.ext.list ha hl) (by lia) ?_; clear C; intro s t C
 rw [hul]
 refine Za ?_
 walk_at "N"
 refine spliced_none ?_
 refine C.range3 (nZ hw0) (kB ‹_› rfl) ?_; clear C; intro r _ _ _ s C
 refine C.pyIterR (C.led _ M0) hr2 rows hr1 ?_; clear C; intro I s hI C
 refine Zal.all (fvs := [("names", .ref a), ("width", .int width t1)]) (Zcz RD.hd 0 (width : Int) rows) (by walk_at "S") hI (Zcq _ _ _) C (by rw [sizeLine_eq]; exact kA ‹_› rfl) (fun _ _ _ => trivial)
  (fun i y new => (∃ t, y = .str (mkS (32 :: jn [32] ((nms.drop (i * width)).take width))) t) ∧ ∃ D oD, new = [(D, oD)]) ?_ ?_
 ·intro i v cenv s N' hi' hv ce C CO
  obtain ⟨t, rfl⟩ := hv
  have W := W.ext CO.ext
  have hq : i * width + width ≤ rows * width := by rw [← Nat.succ_mul]; exact Nat.mul_le_mul_right _ hi'
  have e0 : (0 + (i : Int) * (width : Int)) = ((i * width : Nat) : Int) := by rw [Int.natCast_mul]; simp +arith
  rw [e0] at C
  refine Zn ?_
  refine C.cstr ?_; clear C; intro s t C
  refine Zbk ?_
  refine C.cstr ?_; clear C; intro s t C
  refine Zbt "str" "str.join" F.plainAttrs_str F.slot_str_join F.type_str_join (typeIs_str _ _ _) (fun _ x => by cases x) (callWith_method1 ?_)
  refine Za ?_
  refine Zad ?_
  walk_at "N"
  refine C.sliceO ?_
  refine wpAny_evalPart_some ?_
  walk_at "N"
  refine wpAny_evalPart_some ?_
  refine Zn ?_
  walk_at "N"
  walk_at "N"
  refine C.iadd fun s t C => ⟨_, _, C, fun r s hr C => ?_⟩
  refine C.subLS (C.ext.list ha (CO.ext.list ha hl)) hr (.int _ _) (.int _ _) (by lia) ?_; clear C; intro D s C
  refine spliced_none ?_
  have hp := Zhk hi (i * width) width (by simp +arith [*])
  rw [← List.map_drop, ← List.map_take] at hp
  have hB' : ∀ y ∈ (nms.drop (i * width)).take width, y.length ≤ 4 := fun y hy => hB y (List.mem_of_mem_drop (List.mem_of_mem_take hy))
  have hlt : ((nms.drop (i * width)).take width).length ≤ 9 := Nat.le_trans (List.length_take_le _ _) ‹width ≤ 9›
  refine C.joinM (x := [32]) M0 (Zm _) hp hB' (by simp; grind) ?_; clear C; intro s t C
  refine C.sadd (a := [32]) ?_ fun s t C => ?_
  ·have h1 := Zh3 [32] ((nms.drop (i * width)).take width)
   have h2 := Zcy hB'
   simp at h1 h2 ⊢
   grind
  refine Zae (C.fresh (a := D) M0) fun f1 f2 f3 => ?_
  exact ⟨_, ⟨⟨_, rfl⟩, D, _, rfl⟩, C.ext, Zan.one f1 f2 f3⟩
 ·intro D oD s rs hD hG C
  have hs : StrsAre (rs.map (·.1)) ((List.range rows).map fun i => mkS (32 :: jn [32] ((nms.drop (i * width)).take width))) := hG.strs'
  rw [show ((List.range rows).map fun i => mkS (32 :: jn [32] ((nms.drop (i * width)).take width))) = ((List.range rows).map fun i => 32 :: jn [32] ((nms.drop (i * width)).take width)).map mkS by rw [List.map_map]; rfl] at hs
  refine spliced_none ?_
  refine C.joinM (x := [10]) (B := 60) M0 hD hs ?_ ?_ fun s t C => ?_
  ·intro y hy
   obtain ⟨i, hi, rfl⟩ := List.mem_map.mp hy
   have hB' : ∀ y ∈ (nms.drop (i * width)).take width, y.length ≤ 4 := fun y hy => hB y (List.mem_of_mem_drop (List.mem_of_mem_take hy))
   have hlt : ((nms.drop (i * width)).take width).length ≤ 9 := Nat.le_trans (List.length_take_le _ _) ‹width ≤ 9›
   have h1 := Zh3 [32] ((nms.drop (i * width)).take width)
   have h2 := Zcy hB'
   simp only [List.length_cons, List.length_nil] at h1 ⊢
   lia
  ·rw [List.length_map, List.length_range]; simp only [List.length_cons, List.length_nil]; lia
  ·exact h _ _ C.ext
theorem Zhc {pos' : Pos} {a b : Int} {c cv : Value} (l : List Value) (h : TriplesOk l) (e : codeAmong pos' (l ++ [rawInt a, rawInt b, c]) = some cv) : codeAmong pos' l = some cv ∨ cv = c := by
 fun_induction TriplesOk l with
 | case1 =>
  simp only [List.nil_append, rawInt, codeAmong] at e
  split at e
  ·cases e; exact .inr rfl
  ·cases e
 | case2 a' t b' u x rest ih =>
  simp only [List.cons_append, codeAmong] at e ⊢
  split at e
  ·rename_i hc; rw [if_pos hc]; exact .inl e
  ·rename_i hc; rw [if_neg hc]; exact ih h e
 | case3 l h1 h2 => exact h.elim
theorem Zqx {ps : Array Value} (h : TriplesOk ps.toList) : Zs (tabObj ps) := by
 refine ⟨fun vs q t e => ?_, fun fd e => by cases e⟩
 cases e
 intro x
 have x : ps.toList[1]? = some (.str q t) := by simpa using x
 generalize ps.toList = l at h x
 fun_induction TriplesOk l with
 | case1 => cases x
 | case2 => simp at x
 | case3 => exact h
theorem Ext.grow {s : Shared} {c P : Addr} {ps : Array Value} {pos : Pos} {c' : Addr} {h' : Heap} {tk : Nat} (hq : (c, P) ∈ Zac) (hI : s.heap.IsCode c P ps) (hT : s.heap.TableAt c P ps) (hR : ∀ pos cv, codeAmong pos ps.toList = some cv → s.heap.CodeRec cv (Zd8 c))
  (hx : Heap.ExtBut P s.heap h') (hsz : 316 ≤ h'.objs.size) (hrec : h'.CodeRec (.ref c') (Zd8 c)) (hP : h'.get? P = some (tabObj (ps ++ #[rawInt pos.line, rawInt pos.col, .ref c']))) : Ext [] [] s { s with heap := h', toks := tk } := by
 have htr : TriplesOk ps.toList := by
  refine Zbf hI fun o vs file tf flags tg inF text tt op e1 r1 r2 r3 r4 r5 e2 e3 e4 e5 e6 => ?_
  exact e5
 have hP0 := hT.2
 have nc : ∀ o, s.heap.get? P = some o → Zs o := fun o e => by
  rw [hP0] at e; cases e; exact Zqx htr
 have hPt : P ∈ Zbn := (Z7 _ hq).2.1
 have cr : ∀ cv q, s.heap.CodeRec cv q → h'.CodeRec cv q := fun cv q x => Zas x nc hx
 have hd := CodeHd.of hI hT
 have hl : (ps ++ #[rawInt pos.line, rawInt pos.col, Value.ref c']).toList = ps.toList ++ [rawInt pos.line, rawInt pos.col, .ref c'] := by simp
 refine ⟨fun b o _ h2 e => hx b o (fun q => h2 (q ▸ hPt)) e, fun b o _ h2 e => hx b o (fun q => h2 (q ▸ hPt)) e, fun b o _ e => ?_, fun t q hq' => ?_, fun _ => hsz, rfl, rfl, Nat.le_refl _, fun _ _ _ e => e, id, cr⟩
 ·by_cases q : b = P
  ·exact ⟨_, q ▸ hP⟩
  ·exact ⟨o, hx b o q e⟩
 ·by_cases hqe : q.2 = P
  ·have : q = (c, P) := by
    have key : ∀ a ∈ Zac, ∀ b ∈ Zac, a.2 = b.2 → a = b := by decide
    exact key _ hq' _ hq hqe
   subst this
   have hd' : CodeHd h' c P := by
    refine Zir hd fun o vs file tf flags tg inF text tt e r => ?_
    exact ⟨o, vs, file, tf, flags, tg, inF, text, tt, hx _ _ (Z7 _ hq).2.2.2.2.2 e, r⟩
   refine ⟨_, hd'.code hP (by rw [hl]; exact TriplesOk_snoc _ _ _ _ htr), hd'.tab hP, fun pos' cv e => ?_⟩
   rw [hl] at e
   rcases Zhc _ htr e with e | e
   ·exact cr _ _ (hR _ _ e)
   ·rw [e]; exact hrec
  ·refine Z1 (t q hq') fun ps' a b d => ?_
   have hne : q.1 ≠ P := by
    have key : ∀ a ∈ Zac, ∀ b ∈ Zac, a.1 ≠ b.2 := by decide
    exact key _ hq' _ hq
   exact ⟨ps', a.extBut hx hne hqe, b.extBut hx hne hqe, fun pos cv e => cr _ _ (d pos cv e)⟩
noncomputable abbrev fnO (name qual : Str) (params : Arguments) (body : List Stmt) (scope : Scope) (clos : List (Str × Addr)) (doc pm : Value) (cv ctv : Value) : Obj :=
 { cls := .type "function", data := .func (fnX name qual params body scope clos .none .none doc pm none cv ctv) }
theorem Loc.defn (C : Loc env s₀ X vs l s) (W : Wd K s₀.heap) {c P : Addr} (hcd : env.code = .ref c) (hq : (c, P) ∈ Zac) {name : Str} {params : Arguments} {body : List Stmt} {scope : Scope} {pos : Pos} {Q : Flow → Shared → Prop}
  (hqn : qualnameIn env name name = Zd8 c) (hcl : ∀ p ∈ scope.names, p.2 = .free → (env.cells.lookup p.1).isSome = true) (hd0 : params.defaults = []) (hk0 : params.kw_defaults = []) (ha : annTrees params none env = [])
  (h : ∀ f cv doc pm ctv s', Loc env s₀ X vs ((f, fnO name (Zd8 c) params body scope (Zb0 env scope.names) doc pm cv ctv) :: l) s' →
   wpAny (model prog w) A (storeName env name (.ref f)) (fun _ s'' => Q .next s'') E s') :
  wpAny (model prog w) A (exec (.FunctionDef name params body [] none [] scope none name pos) env) Q E s := by
 refine nestDef_K hd0 hk0 ha ?_
 rw [hqn]
 have W' := W.ext C.ext
 refine Z1 (W'.tab _ hq) fun ps c1 c2 c3 => ?_
 refine Zdz W'.bm fun mg bm ob b0 b1 b2 b3 b4 b5 b6 b7 b8 b9 => ?_
 have htr : TriplesOk ps.toList := by
  refine Zbf c1 fun o vs file tf flags tg inF text tt op e1 r1 r2 r3 r4 r5 e2 e3 e4 e5 e6 => ?_
  exact e5
 have hPt : P ∈ Zbn := (Z7 _ hq).2.1
 have hb : s.heap.BuiltinsAt mg P := ⟨bm, ob, b1, b2, b3, fun q => b5 (q ▸ hPt), b6, b7, b8, b9⟩
 cases hf : codeAmong pos ps.toList with
 | none =>
  refine makeFunction_K (Zx hcl) C.fr.gl b0 hcd (CodeHd.of c1 c2) c2.2 htr hf (fun q => by
   have q : mainGlobals = P := q
   rw [← q] at hPt; revert hPt; decide) hb fun c' ctv doc h' tk hx hge hlt hrec htb => ?_
  have x1 : Ext [] [] s { s with heap := h', toks := tk } := Ext.grow hq c1 c2 c3 hx (Nat.le_trans W'.big (Nat.le_trans hge (Nat.le_of_lt hlt))) hrec htb
  replace C := C.pure x1
  have x2 : Ext [] [] ({ s with heap := h', toks := tk } : Shared) { s with heap := h'.push (fnO name (Zd8 c) params body scope (Zb0 env scope.names) doc ((mg "__name__").getD .none) (.ref c') ctv), toks := tk } := C.extK Zd
  exact h _ _ _ _ _ _ (C.add x2 Zc C.big (Heap.get?_push_size _ rfl) (fun fd e => by cases e; exact x2.cr _ _ hrec))
 | some cv =>
  refine makeFunction_hit (Zx hcl) C.fr.gl b0 hcd (CodeHd.of c1 c2) c2.2 htr hf hb fun ctv doc h' tk hk hsz => ?_
  have x1 : Ext [] [] s { s with heap := h', toks := tk } := C.extK hk
  replace C := C.pure x1
  have x2 : Ext [] [] ({ s with heap := h', toks := tk } : Shared) { s with heap := h'.push (fnO name (Zd8 c) params body scope (Zb0 env scope.names) doc ((mg "__name__").getD .none) cv ctv), toks := tk } := C.extK Zd
  exact h _ _ _ _ _ _ (C.add x2 Zc C.big (Heap.get?_push_size _ rfl) (fun fd e => by cases e; exact x2.cr _ _ (x1.cr _ _ (c3 _ _ hf))))
theorem Loc.take (C : Loc env s [] vs [] s₀) (O : Zbw env s) {D : Addr} {o : Obj} (e : s.heap.get? D = some o) (h3 : 316 ≤ D) (hd : ∀ v, o.data ≠ .cell v) (hf : ∀ fd, o.data ≠ .func fd) : Loc env s [D] vs [(D, o)] s₀ := by
 have e' := C.ext.get h3 e
 refine ⟨C.ext.mono (fun _ h => nomatch h) (fun _ h => nomatch h), C.fr, C.bd, fun p hp => ?_, fun p hp => ?_, fun p hp => ?_, by simp, fun p hp fd q => by rw [List.mem_singleton.mp hp] at q; exact absurd q (hf fd)⟩
 ·rw [List.mem_singleton.mp hp]; exact e'
 ·rw [List.mem_singleton.mp hp]; exact ⟨.inl M0, h3⟩
 ·rw [List.mem_singleton.mp hp]
  refine ⟨fun q => ?_, fun x q => ?_⟩
  ·have := O.1
   rw [← q, e] at this; cases this
  ·refine Zcs (C.fr.cel _ _ q) fun _ v o' q1 q2 => ?_
   rw [e'] at q1; cases q1
   exact hd _ q2
structure Clo (cl : List (Str × Addr)) (kn : List (String × Value)) (h : Heap) : Prop where
 cel : ∀ x c, cl.lookup x = some c → c ∉ Zbn ∧ ∃ v, h.IsCell c v
 inj : ∀ x y c, cl.lookup x = some c → cl.lookup y = some c → x = y
 kn : ∀ p ∈ kn, ∃ c, cl.lookup (ofString p.1) = some c ∧ h.IsCell c (some p.2)
variable {kn : List (String × Value)}
theorem Clo.ofSelf (C : Loc env s₀ X vs l s) (h : ∀ p ∈ kn, p ∈ vs ∧ env.kindOf (ofString p.1) ≠ some .local) : Clo env.cells kn s.heap where
 cel := fun x c e => ⟨C.fr.nt c (.inr ⟨x, e⟩), (C.fr.cel x c e).2⟩
 inj := C.fr.inj
 kn := fun p hp => by
  obtain ⟨h1, h2⟩ := h p hp
  rcases C.bd p h1 with ⟨a, _⟩ | ⟨c, a, b, d⟩
  ·exact absurd a h2
  ·exact ⟨c, b, d⟩
theorem Clo.ofOuter (C : Loc env s₀ X vs l s) {names : List (Str × NameKind)} (hcl : ∀ p ∈ names, p.2 = .free → (env.cells.lookup p.1).isSome = true)
  (h : ∀ p ∈ kn, p ∈ vs ∧ env.kindOf (ofString p.1) ≠ some .local ∧ (ofString p.1, NameKind.free) ∈ names) : Clo (Zb0 env names) kn s.heap := by
 obtain ⟨l1, l2⟩ := Zfe (env := env) names [] hcl (fun _ _ e => by cases e)
 refine ⟨fun x c e => ?_, fun x y c e1 e2 => C.fr.inj x y c (l1 _ _ e1) (l1 _ _ e2), fun p hp => ?_⟩
 ·have e := l1 x c e
  exact ⟨C.fr.nt c (.inr ⟨x, e⟩), (C.fr.cel x c e).2⟩
 ·refine Zae (h p hp) fun h1 h2 h3 => ?_
  rcases C.bd p h1 with ⟨a, _⟩ | ⟨c, a, b, d⟩
  ·exact absurd a h2
  ·obtain ⟨c', hc'⟩ := Option.isSome_iff_exists.mp (l2 (ofString p.1) (.inl h3))
   have := l1 _ _ hc'
   rw [b] at this; cases this
   exact ⟨c, hc', d⟩
theorem Loc.know (C : Loc env s₀ X vs l s) (h : ∀ p ∈ kn, Bd env s.heap (ofString p.1) p.2) : Loc env s₀ X (vs ++ kn) l s :=
 ⟨C.ext, C.fr, fun p hp => (List.mem_append.mp hp).elim (C.bd p) (h p), C.led, C.own, C.off, C.nd, C.fc⟩
theorem Zi9 (W : Wd K s.heap) {n : Nat} (R : Zk A n) {f : Addr} {name q : Str} {st : Stmt} {cl : List (Str × Addr)} {doc pm cv ctv : Value} (ho : s.heap.get? f = some (fnO name q (Zaj st) (Zl st) (Zb st) cl doc pm cv ctv)) (hcr : s.heap.CodeRec cv q) (hC : Clo cl kn s.heap)
  {args : List Value} (vs : List (String × Value)) {Q : Value → Shared → Prop} (hbind : BindsTo s (fnX name q (Zaj st) (Zl st) (Zb st) cl .none .none doc pm none cv ctv) ⟨args, []⟩ (Zaf vs))
  (h : ∀ env s₁, Za2 env (Zb st) q f cv → env.cells = cl → Zbw env s → (∀ x, env.kindOf x = some .cell → ∃ c, env.cells.lookup x = some c) → Loc env s [] (vs ++ kn) [] s₁ →
   wpAny (model prog w) (A.deeper env) (execs (Zl st) env) (fun fl s' => Q (Zjd fl) s') (fun _ _ => False) s₁)
  (hnd : autoParam (Zdo (vs.map (·.1)) = true) aK)
  (hkind : autoParam (((Zaf vs).all fun y => (Zb st).names.lookup y.1 == some .local) = true) aK)
  (hcell : autoParam (((Zb st).names.all fun x => x.2 != .cell) = true) aK)
  (hfree : autoParam ((kn.all fun p => (Zb st).names.lookup (ofString p.1) == some .free) = true) aK)
  (hco : autoParam ((Zb st).isCoroutine = false) aK) (hgen : autoParam ((Zb st).isGenerator = false) aK) (hk : autoParam ((Zb st).kind = .function) aK) :
  wpAny (model prog w) A (call (.ref f) args) Q E s := by
 have hcell' : ∀ x ∈ (Zb st).names, x.2 ≠ .cell := fun x hx => by simpa using List.all_eq_true.mp hcell x hx
 refine wpAny_call (Zqs W R.lt ho rfl hcr hbind (Zc0 hnd) hkind hcell' (fun x c e => (hC.cel x c e).2) hC.inj (fun x c e => (hC.cel x c e).1) (fun env s₁ h1 h2 _ h3 C => ?_) hco hgen hk)
 have nocell : ∀ x, env.kindOf x = some .cell → ∃ c, env.cells.lookup x = some c := fun x e => by
  unfold Env.kindOf at e
  rw [h1.scope] at e
  exact absurd rfl (hcell' _ (mem_of_lookup e))
 replace C := C.know (kn := kn) fun p hp => by
  refine Zo (hC.kn p hp) fun c e1 e2 => ?_
  refine .inr ⟨c, .inr ?_, h2 ▸ e1, ?_⟩
  ·unfold Env.kindOf
   rw [h1.scope]
   simpa using List.all_eq_true.mp hfree p hp
  ·refine Zo e2 fun o e3 e4 => ?_
   exact ⟨o, C.ext.keep _ _ (fun h => nomatch h) (hC.cel _ _ e1).1 e3, e4⟩
 refine wpAny_mono (h env s₁ h1 h2 h3 nocell C) (fun fl s' q => ?_) fun _ _ q => q
 cases fl <;> exact q
theorem Loc.inter (C : Loc env s₀ X vs l s) : interactive env = false := by
 unfold interactive
 rw [C.fr.kind]
 rfl
theorem Loc.expr (C : Loc env s₀ X vs l s) {e : Expr} {pos : Pos} {Q : Flow → Shared → Prop} (h : wpAny (model prog w) A (eval e env) (fun v s' => match v with | .ref _ => False | _ => Q .next s') E s) (hs : autoParam (swapsWith e none pos.line env = Pure.pure false) aR) :
  wpAny (model prog w) A (exec (.Expr e pos) env) Q E s := wpAny_Expr h C.inter hs
theorem Loc.setL (C : Loc env s₀ X vs l s) {D : Addr} {o : Obj} {us : List Value} {L' : Obj → List (Addr × Obj)} (P : ∀ o', Put D o o' l (L' o')) (hD : Zy o us) {k : Int} {t : Tok} {v : Value} {Q : Unit → Shared → Prop} (h0 : 0 ≤ k) (hn : k < us.length) (hsz : us.length < 1000000)
  (h : ∀ o' s', Zy o' (us.set k.toNat v) → Loc env s₀ X vs (L' o') s' → Q () s') : wpAny (model prog w) A (setItem (.ref D) (.int k t) v) Q E s := by
 have hm := (P o).mem
 refine wpAny_setItem_list (hD.at (C.led _ hm)) h0 (by lia) (by simpa using hn) fun h' hl hs => ?_
 refine Zof hl fun o' e' c' n' d' => ?_
 have x : Ext [D] [] s { s with heap := h' } := Ext.same (tk := s.toks) (C.own _ hm).2 (Z5 (C.led _ hm) (Zau hD)) M0 hs ⟨o', e'⟩
 exact h o' _ ⟨c', n', by rw [d']; simp⟩ (C.put x (P o') e' (fun fd q => by rw [d'] at q; cases q))
theorem Zo8 (x k : Nat) : Builtin.bitXor (x : Int) (((x / 2 ^ k * 2 ^ k : Nat) : Int)) = ((x % 2 ^ k : Nat) : Int) := by
 have e1 : x ||| (x / 2 ^ k * 2 ^ k) = x := by
  apply Nat.eq_of_testBit_eq
  intro i
  rw [Nat.testBit_or, Nat.testBit_mul_two_pow, Nat.testBit_div_two_pow]
  by_cases h : k ≤ i
  ·simp [h, Nat.sub_add_cancel h]
  ·simp [h]
 have e2 : x &&& (x / 2 ^ k * 2 ^ k) = x / 2 ^ k * 2 ^ k := by
  apply Nat.eq_of_testBit_eq
  intro i
  rw [Nat.testBit_and, Nat.testBit_mul_two_pow, Nat.testBit_div_two_pow]
  by_cases h : k ≤ i
  ·simp [h, Nat.sub_add_cancel h]
  ·simp [h]
 have hor : ∀ a b : Nat, Builtin.bitOr (a : Int) (b : Int) = ((a ||| b : Nat) : Int) := fun a b => by
  unfold Builtin.bitOr Builtin.bitAnd Builtin.bitNot
  have h1 : decide (0 ≤ -(a : Int) - 1) = false := by simp; simp +arith
  have h2 : decide (0 ≤ -(b : Int) - 1) = false := by simp; simp +arith
  rw [h1, h2]
  simp only []
  have h3 : (-(-(a : Int) - 1) - 1).toNat = a := by simp +arith
  have h4 : (-(-(b : Int) - 1) - 1).toNat = b := by simp +arith
  rw [h3, h4]; simp +arith
 have hand : ∀ a b : Nat, Builtin.bitAnd (a : Int) (b : Int) = ((a &&& b : Nat) : Int) := fun a b => by
  unfold Builtin.bitAnd
  have h1 : decide (0 ≤ (a : Int)) = true := by simp
  have h2 : decide (0 ≤ (b : Int)) = true := by simp
  rw [h1, h2]
  simp
 unfold Builtin.bitXor
 rw [hor, hand, e1, e2]
 have := Nat.div_add_mod x (2 ^ k)
 rw [Nat.mul_comm] at this
 lia
noncomputable def Zel (us us' : List Value) (x n L k : Nat) : Prop := us'.length = us.length ∧ (∀ i, i < L ∨ L + k ≤ i → us'[i]? = us[i]?) ∧ ∀ j, j < k → ∃ t, us'[L + j]? = some (.int ((x / 2 ^ (n * j) % 2 ^ n : Nat) : Int) t)
theorem Zel.join {us u1 u2 : List Value} {x n L k1 k2 : Nat} (h1 : Zel us u1 (x % 2 ^ (n * k1)) n L k1) (h2 : Zel u1 u2 (x / 2 ^ (n * k1)) n (L + k1) k2) : Zel us u2 x n L (k1 + k2) := by
 refine ⟨h2.1.trans h1.1, fun i hi => ?_, fun j hj => ?_⟩
 ·rw [h2.2.1 i (by lia), h1.2.1 i (by lia)]
 ·by_cases hlt : j < k1
  ·obtain ⟨t, e⟩ := h1.2.2 j hlt
   refine ⟨t, ?_⟩
   rw [h2.2.1 (L + j) (by simp +arith [*]), e]
   have : x % 2 ^ (n * k1) / 2 ^ (n * j) % 2 ^ n = x / 2 ^ (n * j) % 2 ^ n := by
    obtain ⟨d, rfl⟩ : ∃ d, k1 = j + 1 + d := ⟨k1 - (j + 1), by grind⟩
    have e1 : 2 ^ (n * (j + 1 + d)) = 2 ^ (n * j) * (2 ^ n * 2 ^ (n * d)) := by rw [← Nat.pow_add, ← Nat.pow_add]; congr 1; rw [Nat.mul_add, Nat.mul_add]; simp +arith
    rw [e1, Nat.mod_mul_right_div_self, Nat.mod_mul_right_mod]
   rw [this]
  ·obtain ⟨t, e⟩ := h2.2.2 (j - k1) (by grind)
   refine ⟨t, ?_⟩
   rw [show L + j = L + k1 + (j - k1) by grind, e, Nat.div_div_eq_div_mul, ← Nat.pow_add, show n * k1 + n * (j - k1) = n * j by rw [← Nat.mul_add]; congr 1; grind]
theorem Zik (x k : Nat) : ((x : Int)).fdiv (2 ^ k) = ((x / 2 ^ k : Nat) : Int) := by
 have := Zby x (2 ^ k)
 rwa [show (((2 ^ k : Nat) : Nat) : Int) = (2 : Int) ^ k by norm_cast] at this
theorem Zmc {n : Nat} (hn : 1 ≤ n) {D f : Addr} {tn : Tok} {cl : List (Str × Addr)} {doc pm cv ctv : Value} (hD3 : 316 ≤ D) (hf3 : 316 ≤ f) (hDf : D ≠ f) : ∀ k, 1 ≤ k → ∀ (A : Around) (E : Value → Shared → Prop) (s : Shared) (x L R : Nat) (us : List Value) (o : Obj) (t1 t2 t3 : Tok) (Q : Value → Shared → Prop),
  R = L + k → Wd K s.heap → KG K → Zk A k → s.heap.get? f = some (fnO (ofString "inner") (Zd8 69) (Zaj (Z8 8 1)) (Zl (Z8 8 1)) (Zb (Z8 8 1)) cl doc pm cv ctv) → s.heap.CodeRec cv (Zd8 69) →
  Clo cl [("a_digits", .ref D), ("n", .int n tn), ("inner", .ref f)] s.heap → s.heap.get? D = some o → Zy o us → L + k ≤ us.length → us.length ≤ 1000 → x < 2 ^ (n * k) → n * k ≤ 40 →
  (∀ s' o' us', Ext [D] [] s s' → s'.heap.get? D = some o' → Zy o' us' → Zel us us' x n L k → Q .none s') →
  wpAny (model prog w) A (call (.ref f) [.int x t1, .int L t2, .int R t3]) Q E s := by
 intro k
 induction k using Nat.strongRecOn with
 | _ k ih =>
  intro hk A E s x L R us o t1 t2 t3 Q hR W G RM hf hcr hC hD hO1 hLk hul hx hnk h
  obtain ⟨m, rfl⟩ : ∃ m, k = m + 1 := ⟨k - 1, by exact n0 hk⟩
  refine Zi9 W RM hf hcr hC [("x", .int x t1), ("L", .int L t2), ("R", .int R t3)] (BindsTo.of_eq rfl) fun env s₁ hE hcells hO hc C => ?_
  have RD := RM.deeper (env := env)
  replace C : Loc env s [D] [("x", .int x t1), ("L", .int L t2), ("R", .int R t3), ("a_digits", .ref D), ("n", .int n tn), ("inner", .ref f)] [(D, o)] s₁ := C.take hO hD hD3 (fun v q => by obtain ⟨_, m, e⟩ := hO1; rw [e] at q; cases q) (Zau hO1).2
  have hfo : ∀ {s'}, Ext [D] [] s s' → s'.heap.get? f = some (fnO (ofString "inner") (Zd8 69) (Zaj (Z8 8 1)) (Zl (Z8 8 1)) (Zb (Z8 8 1)) cl doc pm cv ctv) := fun {s'} x => x.keep _ _ (fun q => hDf (List.mem_singleton.mp q).symm) (fun ht => absurd hf3 (Nat.not_le.mpr (Zz _ ht))) hf
  refine Zq ?_
  refine xci ?_
  refine Z0 ?_
  refine Zn ?_
  walk_at "N"
  refine C.cint ?_; clear C; intro s t C
  refine C.iadd ?_; clear C; intro s t C
  walk_at "N"
  refine eq_int (wpAny_truthy_bool ?_)
  by_cases hm : m = 0
  ·subst hm
   refine ifP (by simp; simp +arith [*]) ?_
   refine Zi ?_
   refine wpAny_Assign_Subscript ?_ (by rfl)
   walk_at "N"
   walk_at "N"
   walk_at "N"
   refine C.setL (L' := fun o' => [(D, o')]) (fun o' => J0) hO1 (Int.natCast_nonneg _) (Int.ofNat_le.mpr hLk) (kB ‹_› rfl) ?_; clear C; intro o' s hO' C
   refine Zi ?_
   refine wpAny_Return_none ?_
   refine h s o' _ C.ext (C.led _ M0) hO' ⟨by simp, fun i hi => ?_, fun j hj => ?_⟩
   ·rw [List.getElem?_set_ne]; lia
   ·have : j = 0 := by lia
    subst this
    refine ⟨t1, ?_⟩
    have e : x / 2 ^ (n * 0) % 2 ^ n = x := by
     rw [Nat.mul_zero, Nat.pow_zero, Nat.div_one, Nat.mod_eq_of_lt]
     simpa using hx
    rw [e, List.getElem?_set]
    simp
    assumption
  refine ifN (by simp; simp +arith [*]) ?_
  refine wpAny_execs_nil ?_
  refine Zic (Zqb hm) fun k1 k2 hk12 hk1 hk2 hle => ?_
  refine xca ?_
  refine Zn ?_
  refine Zn ?_
  walk_at "N"
  walk_at "N"
  refine C.iadd ?_; clear C; intro s t C
  refine C.cint ?_; clear C; intro s t C
  refine C.ishr (by decide) ?_; clear C; intro s t C
  have e1 : ((L : Int) + (R : Int)).fdiv (2 ^ (1 : Int).toNat) = ((L + k1 : Nat) : Int) := by
   have := Zik (L + R) 1
   rw [show (((L + R : Nat) : Nat) : Int) = (L : Int) + (R : Int) by rfl] at this
   rw [show (1 : Int).toNat = 1 from rfl, this]
   congr 1
   lia
  rw [e1]
  refine C.st hO hc (by walk_at "K") ?_; clear C; intro s C
  refine xca ?_
  refine Zn ?_
  refine Zn ?_
  walk_at "N"
  walk_at "N"
  refine C.isub ?_; clear C; intro s t C
  rw [show (((L + k1 : Nat) : Int) - (L : Int)) = ((k1 : Nat) : Int) by simp +arith]
  walk_at "N"
  have hk140 : n * k1 ≤ 40 := Nat.le_trans (Nat.mul_le_mul_left n (by simp +arith [*])) hnk
  have hk1m : k1 ≤ 40 := Nat.le_trans (Nat.le_mul_of_pos_left k1 hn) hk140
  refine C.imul (Zid (kB ‹_› rfl)) ?_; clear C; intro s t C
  rw [show ((k1 : Int) * (n : Int)) = ((n * k1 : Nat) : Int) by rw [Int.natCast_mul, Int.mul_comm]]
  refine C.st hO hc (by walk_at "K") ?_; clear C; intro s C
  refine xca ?_
  refine Zn ?_
  walk_at "N"
  walk_at "N"
  refine C.ishr (Int.natCast_nonneg _) ?_; clear C; intro s t C
  rw [Int.toNat_natCast, Zik]
  refine C.st hO hc (by walk_at "K") ?_; clear C; intro s C
  refine xca ?_
  refine Zn ?_
  walk_at "N"
  refine Zn ?_
  walk_at "N"
  walk_at "N"
  have hx40 : x < 2 ^ 40 := Nat.lt_of_lt_of_le hx (Nat.pow_le_pow_right (by decide) hnk)
  refine C.ishl (Int.natCast_nonneg _) (by lia) ?_ fun s t C => ?_
  ·have : x / 2 ^ (n * k1) ≤ x := Nat.div_le_self _ _
   rw [Int.natAbs_natCast]
   lia
  rw [Int.toNat_natCast, show (((x / 2 ^ (n * k1) : Nat) : Int) * 2 ^ (n * k1)) = ((x / 2 ^ (n * k1) * 2 ^ (n * k1) : Nat) : Int) by norm_cast]
  refine C.ixor ?_; clear C; intro s t C
  rw [Zo8]
  refine C.st hO hc (by walk_at "K") ?_; clear C; intro s C
  have hpk : 2 ^ (n * (m + 1)) = 2 ^ (n * k1) * 2 ^ (n * k2) := by rw [← Nat.pow_add, ← Nat.mul_add, hk12]
  refine Zi ?_
  refine C.expr ?_
  refine Zf ?_
  walk_at "N"
  refine callWith_F ⟨_, _, _, _, hfo C.ext⟩ ?_
  refine Za ?_
  walk_at "N"
  refine Za ?_
  walk_at "N"
  refine Za ?_
  walk_at "N"
  refine spliced_none ?_
  refine ⟨⟨_, _, _, _, hfo C.ext⟩, ?_⟩
  refine ih k1 (by simp +arith [*]) hk1 (A.deeper env) _ s (x % 2 ^ (n * k1)) L (L + k1) us o _ _ _ _ rfl (W.ext C.ext) G RD.le (hfo C.ext) (C.ext.cr _ _ hcr) (hcells ▸ Clo.ofSelf C (by walk_at "A")) (C.led _ M0) hO1 (by lia) hul (Nat.mod_lt _ (Nat.pow_pos (by decide))) hk140 ?_
  intro s' o' u1 x1 hl1 hO' hd1
  replace C : Loc env _ [D] _ [(D, o')] s' := C.put x1 J0 hl1 (Zau hO').2
  refine Zi ?_
  refine C.expr ?_
  refine Zf ?_
  walk_at "N"
  refine callWith_F ⟨_, _, _, _, hfo C.ext⟩ ?_
  refine Za ?_
  walk_at "N"
  refine Za ?_
  walk_at "N"
  refine Za ?_
  walk_at "N"
  refine spliced_none ?_
  refine ⟨⟨_, _, _, _, hfo C.ext⟩, ?_⟩
  have hk240 : n * k2 ≤ 40 := Nat.le_trans (Nat.mul_le_mul_left n (by simp +arith [*])) hnk
  refine ih k2 (by simp +arith [*]) hk2 (A.deeper env) _ s' (x / 2 ^ (n * k1)) (L + k1) R u1 o' _ _ _ _ (by simp +arith [*]) (W.ext C.ext) G RD.le (hfo C.ext) (C.ext.cr _ _ hcr) (hcells ▸ Clo.ofSelf C (by walk_at "A")) (C.led _ M0) hO' (by rw [hd1.1]; lia) (by rw [hd1.1]; exact hul) ?_ hk240 ?_
  ·rw [Nat.div_lt_iff_lt_mul (Nat.pow_pos (by decide))]
   rw [hpk, Nat.mul_comm] at hx
   exact hx
  intro s' o'' u2 x2 hl2 hO'' hd2
  replace C : Loc env _ [D] _ [(D, o'')] s' := C.put x2 J0 hl2 (Zau hO'').2
  refine wpAny_execs_nil ?_
  rw [hk12] at h
  exact h s' o'' u2 C.ext hl2 hO'' (hd1.join hd2)
theorem Zak {env : Env} {sc0 : Scope} {names : List (Str × NameKind)} (hs : env.scope = sc0) (hc : ∀ x, env.kindOf x = some .cell → ∃ c, env.cells.lookup x = some c)
  (chk : (names.all fun p => p.2 != .free || sc0.names.lookup p.1 == some .cell) = true) : ∀ p ∈ names, p.2 = .free → (env.cells.lookup p.1).isSome = true := fun p hp hk => by
 have := List.all_eq_true.mp chk p hp
 rw [hk] at this
 have e : sc0.names.lookup p.1 = some .cell := by simpa using this
 obtain ⟨c, hc⟩ := hc p.1 (by unfold Env.kindOf; rw [hs]; exact e)
 rw [hc]; rfl
theorem Loc.lmul (C : Loc env s₀ X vs l s) {a : Addr} {us : List Value} {k : Nat} {u : Tok} {Q : Value → Shared → Prop} (ha : s.heap.IsList a us.toArray) (hsz : us.length * k ≤ 10000) (hk : k ≤ 10000)
  (h : ∀ D s', Loc env s₀ X vs ((D, Zu (List.replicate k us).flatten) :: l) s' → Q (.ref D) s') : wpAny (model prog w) A (binaryOp .Mult (.ref a) (.int (k : Nat) u)) Q E s := by
 obtain ⟨⟨cls, d, data, sl⟩, ho, hcl, n, hd⟩ := id ha
 simp only at hcl hd
 subst hcl hd
 have hxk : ((k : Nat) : Int).toNat = k := Int.toNat_natCast k
 have hlo : -(2 ^ 63 : Int) ≤ ((k : Nat) : Int) := Int.NonNeg.mk (k + Nat.succ 9223372036854775807)
 have hhi : ((k : Nat) : Int) < 2 ^ 63 := by lia
 generalize ((k : Nat) : Int) = x at *
 have hsz' : us.toArray.size * x.toNat ≤ 2 ^ 24 := by rw [hxk, List.size_toArray]; exact kA ‹_› rfl
 refine wpAny_binaryOp_repeat_ref (T := "list") (U := "int") (by decide) ⟨_, ho, rfl⟩ (fun s' => typeIs_int s' x u) noFill_list_mul F.fills_int_mul F.slot_int_rmul repeat_list F.slot_int_index.lookup
  (call_meets F.slot_int_rmul (typeIs_int s x u) F.entry_int_rmul (F.args_int_rmul_2 _ _) (lm_int_rmul_list_any x u a us.toArray n d sl)
   ⟨ho, rfl, ⟨_, ho, rfl⟩, call_meets F.slot_list_mul ⟨_, ho, rfl⟩ F.entry_list_mul (F.args_list_mul_2 _ _)
    (lm_list_mul_any a us.toArray n d sl x u (by simp [Builtin.List.listFitsIndex]; lia) (by lia) (by simp [Builtin.List.listTooLong, sizeLine]; assumption))
    ⟨ho, ?_⟩⟩)
 rw [listMul_foldl_if, hxk]
 have e : Ext [] [] s { s with heap := s.heap.push (Zu (List.replicate k us).flatten) } := C.extK (tk := s.toks) Zd
 exact h _ _ (C.add e Zc C.big (Heap.get?_push_size _ rfl))
noncomputable def Ziz (a n cnt : Nat) : List Int := (List.range cnt).map fun j => ((a / 2 ^ (n * j) % 2 ^ n : Nat) : Int)
theorem Zi5 {us : List Value} {ns : List Int} (hl : us.length = ns.length) (h : ∀ i, i < ns.length → ∃ t, us[i]? = some (.int (ns.getD i 0) t)) : IntsAre us ns := by
 induction ns generalizing us with
 | nil => rw [List.eq_nil_of_length_eq_zero hl]; exact .nil
 | cons n r ih =>
  cases us with
  | nil => simp at hl
  | cons u us =>
   obtain ⟨t, e⟩ := h 0 (by simp)
   simp at e
   subst e
   exact .cons _ _ (ih (by simpa using hl) fun i hi => by simpa using h (i + 1) (by simpa using hi))
theorem Zel.ints {us us' : List Value} {a n cnt : Nat} (h : Zel us us' a n 0 cnt) (hl : us.length = cnt) : IntsAre us' (Ziz a n cnt) := by
 refine Zi5 (by rw [h.1, hl]; simp [Ziz]) fun i hi => ?_
 simp only [Ziz, List.length_map, List.length_range] at hi
 obtain ⟨t, e⟩ := h.2.2 i hi
 refine ⟨t, ?_⟩
 rw [Nat.zero_add] at e
 rw [e]
 simp [Ziz, List.getD, hi]
noncomputable def Zbs (a n : Nat) : Nat := (Builtin.Int.intBits (a : Int) + n - 1) / n
theorem Zin {a n : Nat} (hn : 1 ≤ n) : a < 2 ^ (n * Zbs a n) := by
 have h1 : ((a : Int)).natAbs < 2 ^ Builtin.Int.intBits (a : Int) := intBits_le_iff.mp (Nat.le_refl _)
 rw [Int.natAbs_natCast] at h1
 refine Nat.lt_of_lt_of_le h1 (Nat.pow_le_pow_right (by decide) ?_)
 unfold Zbs
 generalize Builtin.Int.intBits (a : Int) = b
 have := Nat.div_add_mod (b + n - 1) n
 have h3 := Nat.mod_lt (b + n - 1) (show 0 < n by assumption)
 exact Nat.le_of_add_le_add_right (Nat.le_of_pred_lt (Nat.lt_of_le_of_lt (Nat.le_of_eq this.symm) (Nat.add_lt_add_left h3 _)))
theorem Zni {a n : Nat} (hn : 1 ≤ n) (ha : a < 2 ^ 20) (hn2 : n ≤ 20) : n * Zbs a n ≤ 40 ∧ Zbs a n ≤ 40 := by
 have h1 : Builtin.Int.intBits (a : Int) ≤ 20 := intBits_le_iff.mpr (by rw [Int.natAbs_natCast]; exact ha)
 have h2 : n * Zbs a n ≤ Builtin.Int.intBits (a : Int) + n - 1 := Nat.mul_div_le _ _
 exact ⟨by lia, Nat.le_trans (Nat.le_mul_of_pos_left _ hn) (by lia)⟩
theorem Zf3 (W : Wd K s.heap) (G : KG K) (R : Zk A 60) (hf : FnK K 70 (ofString "_int2digits") (ofString "_int2digits") (top 8) [] .none 69) {a n : Nat} {t1 t2 : Tok} {Q : Value → Shared → Prop}
  (hn : 1 ≤ n) (hn2 : n ≤ 20) (ha : a < 2 ^ 20) (h : ∀ D o us s', s.heap.get? D = none → 316 ≤ D → Ext [] [] s s' → s'.heap.get? D = some o → Zy o us → IntsAre us (Ziz a n (Zbs a n)) → Q (.ref D) s') :
  wpAny (model prog w) A (call (.ref 70) [.int (a : Nat) t1, .int (n : Nat) t2]) Q E s := by
 obtain ⟨hc40, hcn⟩ := Zni hn ha hn2
 refine Zw W R hf [("a", .int (a : Nat) t1), ("n", .int (n : Nat) t2)] (fun _ _ _ _ _ => BindsTo.of_eq rfl) fun env s₁ hE hO hc C => ?_
 have RD := R.deeper (env := env)
 refine Zq ?_
 refine xca ?_
 refine Zn ?_
 refine List_ ?_
 refine Za ?_
 refine C.cint ?_; clear C; intro s tz C
 refine spliced_none ?_
 refine C.lst (by simp [sizeLine_eq]) ?_; clear C; intro D0 s C
 refine Zn ?_
 refine Zn ?_
 refine Zn ?_
 refine Zbk ?_
 walk_at "N"
 refine Zbt "int" "int.bit_length" F.plainAttrs_int F.slot_int_bit_length F.type_int_bit_length (typeIs_int _ _ _) (fun _ x => by cases x) (callWith_method0 ?_)
 refine Zip C fun s₂ t₄ C => ?_
 walk_at "N"
 refine C.iadd ?_; clear C; intro s t C
 refine C.cint ?_; clear C; intro s t C
 refine C.isub ?_; clear C; intro s t C
 walk_at "N"
 refine C.idiv (nZ hn) (PyProof.noPylong_small (kB ‹_› rfl)) ?_; clear C; intro s t C
 have e1 : ((Builtin.Int.intBits (a : Int) : Int) + (n : Int) - 1).fdiv (n : Int) = ((Zbs a n : Nat) : Int) := by
  rw [show ((Builtin.Int.intBits (a : Int) : Int) + (n : Int) - 1) = ((Builtin.Int.intBits (a : Int) + n - 1 : Nat) : Int) from (Int.natCast_sub (n := 1) (Nat.le_trans hn (Nat.le_add_left _ _))).symm, Zby]
  rfl
 rw [e1]
 refine C.lmul ((Zm _).at (C.led _ M0)) (by simp; exact kA ‹_› rfl) (kA ‹_› rfl) ?_; clear C; intro D s C
 refine C.st hO hc (by walk_at "K") ?_; clear C; intro s C
 refine Zi ?_
 refine C.defn W (P := 65) hE.code (by decide) (by unfold qualnameIn; rw [hE.qual, show (env.kindOf (ofString "inner") == some NameKind.globalExplicit) = false by (unfold Env.kindOf; rw [hE.scope]; kernel_rfl)]; kernel_rfl) (Zak hE.scope hc (by kernel_rfl)) rfl rfl rfl ?_
 intro f cv doc pm ctv s C
 refine C.st hO hc (by walk_at "K") ?_; clear C; intro s C
 have hul : (List.replicate (Zbs a n) [Value.int 0 tz]).flatten.length = Zbs a n := by simp
 generalize (List.replicate (Zbs a n) [Value.int 0 tz]).flatten = us at *
 have hfD : D ≠ f := fun q => by
  have h1 := C.led (f, _) M0
  have h2 := C.led (D, Zu us) M1
  rw [q] at h2
  rw [h1] at h2
  have h3 := congrArg (fun o : Option Obj => o.map (·.cls)) h2
  simp at h3
 refine xci ?_
 refine Zb1 ?_
 walk_at "N"
 refine truthy_int ?_
 by_cases ha0 : a = 0
 ·subst ha0
  have hc0 : Zbs 0 n = 0 := by
   unfold Zbs
   rw [show Builtin.Int.intBits ((0 : Nat) : Int) = 0 from rfl]
   exact Nat.div_eq_of_lt (by lia)
  refine ifN (by simp) ?_
  refine wpAny_execs_nil ?_
  refine xcr ?_
  walk_at "N"
  refine Zae (C.fresh (a := D) M1) fun f1 f2 f3 => ?_
  rw [hc0] at hul
  have : us = [] := List.eq_nil_of_length_eq_zero hul
  subst this
  exact h D _ [] s f1 f2 C.ext f3 (Zm _) (by rw [hc0]; exact .nil)
 refine ifP (by simpa using ha0) ?_
 have hcnt : 1 ≤ Zbs a n := by
  rcases Nat.eq_zero_or_pos (Zbs a n) with q | q
  ·have := Zin (a := a) hn
   rw [q] at this
   simp at this
   exact absurd this ha0
  ·exact q
 refine Zi ?_
 refine C.expr ?_
 refine Zf ?_
 walk_at "N"
 refine callWith_F ⟨_, _, _, _, C.led (f, _) M0⟩ ?_
 refine Za ?_
 walk_at "N"
 refine Za ?_
 refine C.cint ?_; clear C; intro s t C
 refine Za ?_
 refine Zf ?_
 walk_at "B"
 refine xb1 ?_
 refine Za ?_
 walk_at "N"
 refine spliced_none ?_
 refine C.lenL ((Zm us).at (C.led _ M1)) (by lia) ?_; clear C; intro s t C
 rw [hul]
 refine spliced_none ?_
 refine ⟨⟨_, _, _, _, C.led (f, _) M0⟩, ?_⟩
 refine Zmc hn (C.fresh (a := D) M1).2.1 (C.fresh (a := f) M0).2.1 hfD (Zbs a n) hcnt (A.deeper env) _ s a 0 (Zbs a n) us (Zu us) _ _ _ _ (by simp +arith) (W.ext C.ext) G (RD.le (by first | decide | exact kA ‹_› rfl)) (C.led (f, _) M0) (C.fc (f, _) M0 _ rfl)
  (Clo.ofOuter C (Zak hE.scope hc (by kernel_rfl)) (by walk_at "A")) (C.led _ M1) (Zm us) (by simp +arith [*]) (by lia) (Zin hn) hc40 ?_
 intro s' o' u1 x1 hl1 hO' hd1
 replace C : Loc env _ [] _ [(f, _), (D, o'), (D0, _)] s' := C.put x1 J1 hl1 (Zau hO').2
 refine wpAny_execs_nil ?_
 refine xcr ?_
 walk_at "N"
 refine Zae (C.fresh (a := D) M1) fun f1 f2 f3 => ?_
 exact h D o' u1 s' f1 f2 C.ext f3 hO' (hd1.ints hul)
noncomputable def Zcf (n : Nat) : List Nat → Nat
 | [] => 0
 | d :: r => d + 2 ^ n * Zcf n r
theorem Zjm (n : Nat) : ∀ xs ys : List Nat, Zcf n (xs ++ ys) = Zcf n xs + 2 ^ (n * xs.length) * Zcf n ys
 | [], ys => by simp [Zcf]
 | x :: xs, ys => by
  rw [List.cons_append]
  show x + 2 ^ n * Zcf n (xs ++ ys) = x + 2 ^ n * Zcf n xs + 2 ^ (n * (xs.length + 1)) * Zcf n ys
  rw [Zjm n xs ys, Nat.mul_add, ← Nat.mul_assoc, ← Nat.pow_add, show n + n * xs.length = n * (xs.length + 1) by rw [Nat.mul_add]; simp +arith]
  simp +arith
theorem Zk9 {n : Nat} : ∀ ds : List Nat, (∀ d ∈ ds, d < 2 ^ n) → Zcf n ds < 2 ^ (n * ds.length)
 | [], _ => by simp [Zcf]
 | d :: r, h => by
  have h1 := Zk9 r fun x hx => h x (.tail _ hx)
  have h2 := h d M0
  show d + 2 ^ n * Zcf n r < 2 ^ (n * (r.length + 1))
  rw [Nat.mul_add, Nat.pow_add, Nat.mul_one, Nat.mul_comm (2 ^ (n * r.length))]
  have : 2 ^ n * (Zcf n r + 1) ≤ 2 ^ n * 2 ^ (n * r.length) := Nat.mul_le_mul_left _ h1
  rw [Nat.mul_add] at this
  lia
theorem Zmg {n : Nat} (hn : 1 ≤ n) {D f : Addr} {tn : Tok} {cl : List (Str × Addr)} {doc pm cv ctv : Value} {us : List Value} {ds : List Nat} (hD3 : 316 ≤ D) (hf3 : 316 ≤ f) (hI : IntsAre us (ds.map fun d : Nat => (d : Int))) (hds : ∀ d ∈ ds, d < 2 ^ n) (hdl : ds.length ≤ 1000) :
  ∀ k, 1 ≤ k → ∀ (A : Around) (E : Value → Shared → Prop) (s : Shared) (L R : Nat) (t2 t3 : Tok) (Q : Value → Shared → Prop),
  R = L + k → Wd K s.heap → KG K → Zk A k → s.heap.get? f = some (fnO (ofString "inner") (Zd8 76) (Zaj (Z8 9 0)) (Zl (Z8 9 0)) (Zb (Z8 9 0)) cl doc pm cv ctv) → s.heap.CodeRec cv (Zd8 76) →
  Clo cl [("digits", .ref D), ("n", .int n tn), ("inner", .ref f)] s.heap → s.heap.IsList D us.toArray → L + k ≤ ds.length → n * k ≤ 40 →
  (∀ s' t, Ext [] [] s s' → Q (.int (Zcf n ((ds.drop L).take k) : Nat) t) s') →
  wpAny (model prog w) A (call (.ref f) [.int L t2, .int R t3]) Q E s := by
 intro k
 induction k using Nat.strongRecOn with
 | _ k ih =>
  intro hk A E s L R t2 t3 Q hR W G RM hf hcr hC hD hLk hnk h
  obtain ⟨m, rfl⟩ : ∃ m, k = m + 1 := ⟨k - 1, by exact n0 hk⟩
  refine Zi9 W RM hf hcr hC [("L", .int L t2), ("R", .int R t3)] (BindsTo.of_eq rfl) fun env s₁ hE hcells hO hc C => ?_
  have RD := RM.deeper (env := env)
  replace C : Loc env s [] [("L", .int L t2), ("R", .int R t3), ("digits", .ref D), ("n", .int n tn), ("inner", .ref f)] [] s₁ := C
  have hfo : ∀ {s'}, Ext [] [] s s' → s'.heap.get? f = some (fnO (ofString "inner") (Zd8 76) (Zaj (Z8 9 0)) (Zl (Z8 9 0)) (Zb (Z8 9 0)) cl doc pm cv ctv) := fun {s'} x => x.get hf3 hf
  refine Zq ?_
  refine xci ?_
  refine Z0 ?_
  refine Zn ?_
  walk_at "N"
  refine C.cint ?_; clear C; intro s t C
  refine C.iadd ?_; clear C; intro s t C
  walk_at "N"
  refine eq_int (wpAny_truthy_bool ?_)
  by_cases hm : m = 0
  ·subst hm
   refine ifP (by simp; simp +arith [*]) ?_
   refine xcr ?_
   refine Zad ?_
   walk_at "N"
   walk_at "N"
   have hlt : L < ds.length := by assumption
   obtain ⟨u, hu⟩ : ∃ u, us[L]? = some u := ⟨us[L]'(by rw [hI.length, List.length_map]; exact hlt), by rw [List.getElem?_eq_getElem]⟩
   obtain ⟨t, rfl, _⟩ := Zaz hI hu
   have e2 : (ds.drop L).take (0 + 1) = [ds[L]] := by rw [List.drop_eq_getElem_cons hlt]; rfl
   have e : (ds.map fun d : Nat => (d : Int)).getD L 0 = ((Zcf n ((ds.drop L).take (0 + 1)) : Nat) : Int) := by
    rw [e2]
    simp [List.getD, hlt, Zcf]
   rw [e] at hu
   refine Loc.subL (C.ext.list hD3 hD) (Int.natCast_nonneg _) (by lia) (by rw [Int.toNat_natCast]; exact hu) ?_
   exact h _ _ C.ext
  refine ifN (by simp; simp +arith [*]) ?_
  refine wpAny_execs_nil ?_
  refine Zic (Zqb hm) fun k1 k2 hk12 hk1 hk2 hle => ?_
  refine xca ?_
  refine Zn ?_
  refine Zn ?_
  walk_at "N"
  walk_at "N"
  refine C.iadd ?_; clear C; intro s t C
  refine C.cint ?_; clear C; intro s t C
  refine C.ishr (by decide) ?_; clear C; intro s t C
  have e1 : ((L : Int) + (R : Int)).fdiv (2 ^ (1 : Int).toNat) = ((L + k1 : Nat) : Int) := by
   have := Zik (L + R) 1
   rw [show (((L + R : Nat) : Nat) : Int) = (L : Int) + (R : Int) by rfl] at this
   rw [show (1 : Int).toNat = 1 from rfl, this]
   congr 1
   lia
  rw [e1]
  refine C.st hO hc (by walk_at "K") ?_; clear C; intro s C
  refine xca ?_
  refine Zn ?_
  refine Zn ?_
  walk_at "N"
  walk_at "N"
  refine C.isub ?_; clear C; intro s t C
  rw [show (((L + k1 : Nat) : Int) - (L : Int)) = ((k1 : Nat) : Int) by simp +arith]
  walk_at "N"
  have hk140 : n * k1 ≤ 40 := Nat.le_trans (Nat.mul_le_mul_left n (by simp +arith [*])) hnk
  have hk240 : n * k2 ≤ 40 := Nat.le_trans (Nat.mul_le_mul_left n (by simp +arith [*])) hnk
  have hk1m : k1 ≤ 40 := Nat.le_trans (Nat.le_mul_of_pos_left k1 hn) hk140
  refine C.imul (Zid (kB ‹_› rfl)) ?_; clear C; intro s t C
  rw [show ((k1 : Int) * (n : Int)) = ((n * k1 : Nat) : Int) by rw [Int.natCast_mul, Int.mul_comm]]
  refine C.st hO hc (by walk_at "K") ?_; clear C; intro s C
  refine xcr ?_
  refine Zn ?_
  refine Zn ?_
  refine Zf ?_
  walk_at "N"
  refine callWith_F ⟨_, _, _, _, hfo C.ext⟩ ?_
  refine Za ?_
  walk_at "N"
  refine Za ?_
  walk_at "N"
  refine spliced_none ?_
  refine ⟨⟨_, _, _, _, hfo C.ext⟩, ?_⟩
  refine ih k2 (by simp +arith [*]) hk2 (A.deeper env) _ s (L + k1) R _ _ _ (by simp +arith [*]) (W.ext C.ext) G RD.le (hfo C.ext) (C.ext.cr _ _ hcr) (hcells ▸ Clo.ofSelf C (by walk_at "A")) (C.ext.list hD3 hD) (by lia) hk240 ?_
  intro s' t x1
  replace C := C.pure x1
  walk_at "N"
  have hv2 : Zcf n ((ds.drop (L + k1)).take k2) < 2 ^ 40 := by
   refine Nat.lt_of_lt_of_le (Zk9 _ fun d hd => hds d (List.mem_of_mem_drop (List.mem_of_mem_take hd))) (Nat.pow_le_pow_right (by decide) ?_)
   rw [List.length_take]
   exact Nat.le_trans (Nat.mul_le_mul_left n (Nat.min_le_left _ _)) hk240
  refine C.ishl (Int.natCast_nonneg _) (by lia) (by rw [Int.natAbs_natCast]; exact kC ‹_› rfl) ?_; clear C; intro s t C
  rw [Int.toNat_natCast]
  refine Zf ?_
  walk_at "N"
  refine callWith_F ⟨_, _, _, _, hfo C.ext⟩ ?_
  refine Za ?_
  walk_at "N"
  refine Za ?_
  walk_at "N"
  refine spliced_none ?_
  refine ⟨⟨_, _, _, _, hfo C.ext⟩, ?_⟩
  refine ih k1 (by simp +arith [*]) hk1 (A.deeper env) _ s L (L + k1) _ _ _ rfl (W.ext C.ext) G RD.le (hfo C.ext) (C.ext.cr _ _ hcr) (hcells ▸ Clo.ofSelf C (by walk_at "A")) (C.ext.list hD3 hD) (by lia) hk140 ?_
  intro s' t x1
  replace C := C.pure x1
  refine C.iadd ?_; clear C; intro s t C
  have e : ((Zcf n ((ds.drop (L + k1)).take k2) : Nat) : Int) * 2 ^ (n * k1) + ((Zcf n ((ds.drop L).take k1) : Nat) : Int) = ((Zcf n ((ds.drop L).take (m + 1)) : Nat) : Int) := by
   rw [hk12, List.take_add, List.drop_drop, Zjm, List.length_take, List.length_drop, Nat.min_eq_left (by lia)]
   push_cast
   rw [Int.mul_comm, Int.add_comm]
  rw [e]
  exact h _ _ C.ext
theorem Zf6 (W : Wd K s.heap) (G : KG K) (R : Zk A 60) (hf : FnK K 77 (ofString "_digits2int") (ofString "_digits2int") (top 9) [] .none 76) {D : Addr} {us : List Value} {ds : List Nat} {n : Nat} {t2 : Tok} {Q : Value → Shared → Prop}
  (hn : 1 ≤ n) (hD3 : 316 ≤ D) (hD : s.heap.IsList D us.toArray) (hI : IntsAre us (ds.map fun d : Nat => (d : Int))) (hds : ∀ d ∈ ds, d < 2 ^ n) (hnk : n * ds.length ≤ 40) (h : ∀ s' t, Ext [] [] s s' → Q (.int (Zcf n ds : Nat) t) s') :
  wpAny (model prog w) A (call (.ref 77) [.ref D, .int (n : Nat) t2]) Q E s := by
 have hdl : ds.length ≤ 40 := Nat.le_trans (Nat.le_mul_of_pos_left _ hn) hnk
 have hul : us.length = ds.length := by rw [hI.length, List.length_map]
 refine Zw W R hf [("digits", .ref D), ("n", .int (n : Nat) t2)] (fun _ _ _ _ _ => BindsTo.of_eq rfl) fun env s₁ hE hO hc C => ?_
 have RD := R.deeper (env := env)
 refine Zq ?_
 refine Zi ?_
 refine C.defn W (P := 72) hE.code (by decide) (by unfold qualnameIn; rw [hE.qual, show (env.kindOf (ofString "inner") == some NameKind.globalExplicit) = false by (unfold Env.kindOf; rw [hE.scope]; kernel_rfl)]; kernel_rfl) (Zak hE.scope hc (by kernel_rfl)) rfl rfl rfl ?_
 intro f cv doc pm ctv s C
 refine C.st hO hc (by walk_at "K") ?_; clear C; intro s C
 refine xcr ?_
 refine wpAny_IfExp ?_
 refine Zb1 ?_
 walk_at "N"
 refine wpAny_truthy_list (C.ext.list hD3 hD) (by simp; lia) ?_
 replace C := C.tok (tk := s.toks + 1 + 1)
 generalize ({ s with toks := s.toks + 1 + 1 } : Shared) = s at *
 by_cases h0 : ds = []
 ·subst h0
  have : us = [] := List.eq_nil_of_length_eq_zero hul
  subst this
  refine ifN (by simp) ?_
  refine C.cint ?_; clear C; intro s t C
  exact h _ _ C.ext
 have hne : us ≠ [] := fun q => h0 (List.eq_nil_of_length_eq_zero (by rw [← hul, q]; rfl))
 refine ifP (by simpa using hne) ?_
 refine Zf ?_
 walk_at "N"
 refine callWith_F ⟨_, _, _, _, C.led (f, _) M0⟩ ?_
 refine Za ?_
 refine C.cint ?_; clear C; intro s t C
 refine Za ?_
 refine Zf ?_
 walk_at "B"
 refine xb1 ?_
 refine Za ?_
 walk_at "N"
 refine spliced_none ?_
 refine C.lenL (C.ext.list hD3 hD) (by lia) ?_; clear C; intro s t C
 refine spliced_none ?_
 refine ⟨⟨_, _, _, _, C.led (f, _) M0⟩, ?_⟩
 have hpos : 1 ≤ ds.length := Nat.pos_of_ne_zero fun q => h0 (List.eq_nil_of_length_eq_zero q)
 refine Zmg hn hD3 (C.fresh (a := f) M0).2.1 hI hds (kA ‹_› rfl) ds.length hpos (A.deeper env) _ s 0 us.length _ _ _ (by simp +arith [*]) (W.ext C.ext) G (RD.le (by first | decide | exact kA ‹_› rfl)) (C.led (f, _) M0) (C.fc (f, _) M0 _ rfl)
  (Clo.ofOuter C (Zak hE.scope hc (by kernel_rfl)) (by walk_at "A")) (C.ext.list hD3 hD) (by simp +arith) hnk ?_
 intro s' t x1
 rw [List.drop_zero, List.take_length]
 exact h _ _ (C.pure x1).ext
noncomputable def Zce (o : Obj) (us : List Value) : Prop := ∃ n, o = { cls := .type "list", data := .seq us.toArray n }
theorem Zce.lo {o : Obj} {us : List Value} (x : Zce o us) : Zy o us := by
 obtain ⟨n, rfl⟩ := x
 exact ⟨rfl, n, rfl⟩
theorem Zc2 (us : List Value) : Zce (Zu us) us := ⟨_, rfl⟩
theorem Loc.appendP (C : Loc env s₀ X vs l s) {D : Addr} {o : Obj} {us : List Value} {L' : Obj → List (Addr × Obj)} (P : ∀ o', Put D o o' l (L' o')) (hD : Zce o us) {v : Value} {Q : Value → Shared → Prop} (hsz : us.length < 1000000)
  (h : ∀ o' s', Zce o' (us ++ [v]) → Loc env s₀ X vs (L' o') s' → Q .none s') : wpAny (model prog w) A (call (.builtin "list.append") [.ref D, v]) Q E s := by
 have hm := (P o).mem
 have hDl := hD.lo
 obtain ⟨n, rfl⟩ := hD
 refine wpAny_list_append_plain ⟨n, C.led _ hm⟩ (fun h' hl hs => ?_) (by simp [sizeLine_eq]; exact kD ‹_› rfl)
 obtain ⟨n', e'⟩ := hl
 rw [List.push_toArray] at e'
 have x : Ext [D] [] s { s with heap := h' } := Ext.same (tk := s.toks) (C.own _ hm).2 (Z5 (C.led _ hm) (Zau hDl)) M0 hs ⟨_, e'⟩
 exact h _ _ ⟨n', rfl⟩ (C.put x (P _) e')
theorem Loc.reverseP (C : Loc env s₀ X vs l s) {D : Addr} {o : Obj} {us : List Value} {pos : Pos} {L' : Obj → List (Addr × Obj)} (P : ∀ o', Put D o o' l (L' o')) (hD : Zce o us) {Q : Value → Shared → Prop} (hsz : us.length < 1000000)
  (h : ∀ o' s', Zce o' us.reverse → Loc env s₀ X vs (L' o') s' → Q .none s') : wpAny (model prog w) A (callWith pos (.builtin "list.reverse") [.ref D] [] []) Q E s := by
 have hm := (P o).mem
 have hDl := hD.lo
 obtain ⟨n, rfl⟩ := hD
 refine PySem.P.reverse_list (C.led _ hm) ?_ (by simp [sizeLine_eq]; exact kD ‹_› rfl)
 have e := IsL.update (show IsL s.heap D us.toArray n from C.led _ hm) (fun x => x.reverse)
 unfold IsL at e
 rw [List.reverse_toArray] at e
 have x : Ext [D] [] s { s with heap := s.heap.update D (Obj.mapSeq fun x => x.reverse) } := Ext.same (tk := s.toks) (C.own _ hm).2 (Z5 (C.led _ hm) (Zau hDl)) M0 (Heap.SameBut.update ..) ⟨_, e⟩
 exact h _ _ ⟨_, rfl⟩ (C.put x (P _) e)
noncomputable def Zry (o : Obj) (a : Addr) (i : Int) : Prop := o.cls = .type "list_reverseiterator" ∧ o.data = .fields #[.ref a, rawInt i]
theorem Zrl (hA : A.handled = none) (a : Addr) (us : List Value) : Zdr prog w A us.length (fun i o => Zry o a ((us.length : Int) - 1 - i)) (fun i v => us[us.length - 1 - i]? = some v) (fun h => h.IsList a us.toArray) where
 item := fun i I s Q E hi ⟨o, e, h1, h2⟩ hs k => by
  obtain ⟨u, hu⟩ : ∃ u, us[us.length - 1 - i]? = some u := ⟨us[us.length - 1 - i]'(nU hi), by rw [List.getElem?_eq_getElem]⟩
  have e1 : (us.length : Int) - 1 - (i : Int) = ((us.length - 1 - i : Nat) : Int) := nI hi
  rw [e1] at h2
  refine wpAny_pyNext_rev_item (i := us.length - 1 - i) ⟨o, e, h1, h2⟩ hs (by simpa using hu) fun h' hit hsb => ?_
  refine Z1 hit fun o' a' b' c' => ?_
  refine k u h' s.toks hu ⟨o', a', b', ?_⟩ hsb
  rw [c', show ((us.length - 1 - i : Nat) : Int) - 1 = (us.length : Int) - 1 - ((i + 1 : Nat) : Int) by rw [← nI hi]; exact Int.sub_sub _ _ _]
 done := fun I s Q E ⟨o, e, h1, h2⟩ hs k => by
  have e1 : (us.length : Int) - 1 - (us.length : Int) = -1 := by simp +arith
  rw [e1] at h2
  exact wpAny_pyNext_rev_end hA ⟨o, e, h1, h2⟩ fun h' hx => k h' s.toks hx
 nc := fun i o ⟨_, h2⟩ => by
  refine ⟨fun vs q t e => ?_, fun fd e => ?_⟩
  ·rw [h2] at e; cases e
   intro x; cases x
  ·rw [h2] at e; cases e
 self := fun i I s Q E ⟨o, e, h1, h2⟩ q => wpAny_pyIter_revIter ⟨o, e, h1, h2⟩ q
theorem Loc.reversed (C : Loc env s₀ [] vs l s) {a : Addr} {us : List Value} {Q : Value → Shared → Prop} (hl : s.heap.IsList a us.toArray)
  (h : ∀ I oI s', s₀.heap.get? I = none → Zry oI a ((us.length : Int) - 1 - (0 : Nat)) → Loc env s₀ [] vs ((I, oI) :: l) s' → Q (.ref I) s') : wpAny (model prog w) A (call (.type "reversed") [.ref a]) Q E s := by
 refine call_reversed_list hl ?_
 have e : Ext [] [] s { s with heap := s.heap.push (revObj a ((us.toArray.size : Int) - 1)) } := C.extK (tk := s.toks) Zd
 refine h _ _ _ (C.noneAt Zc (fun h => nomatch h)) ⟨rfl, ?_⟩ (C.add e Zc C.big (Heap.get?_push_size _ rfl) (by intro fd h; cases h))
 show Data.fields #[.ref a, rawInt ((us.toArray.size : Int) - 1)] = _
 simp
noncomputable def msv (n : Nat) (qs : List Nat) : Nat := qs.foldl (fun acc q => acc * 2 ^ n + q) 0
theorem Zj5 (n : Nat) (qs : List Nat) (q : Nat) : msv n (qs ++ [q]) = msv n qs * 2 ^ n + q := by
 unfold msv
 rw [List.foldl_append]; rfl
theorem Zjn (n : Nat) : ∀ l : List Nat, Zcf n l = msv n l.reverse
 | [] => rfl
 | d :: r => by
  rw [List.reverse_cons, Zj5, ← Zjn n r]
  show d + 2 ^ n * Zcf n r = _
  rw [Nat.mul_comm]; simp +arith
theorem Znq (n : Nat) (qs : List Nat) : Zcf n qs.reverse = msv n qs := by rw [Zjn, List.reverse_reverse]
theorem Zpw (a n cnt i : Nat) (hi : i < cnt) : a / 2 ^ (n * (cnt - (i + 1))) = a / 2 ^ (n * (cnt - i)) * 2 ^ n + a / 2 ^ (n * (cnt - 1 - i)) % 2 ^ n := by
 have e1 : cnt - (i + 1) = cnt - 1 - i := by lia
 have e2 : n * (cnt - i) = n * (cnt - 1 - i) + n := by
  rw [show cnt - i = cnt - 1 - i + 1 by exact nQ hi, Nat.mul_add, Nat.mul_one]
 rw [e1, e2, Nat.pow_add, ← Nat.div_div_eq_div_mul]
 have := Nat.div_add_mod (a / 2 ^ (n * (cnt - 1 - i))) (2 ^ n)
 rw [Nat.mul_comm] at this
 exact id (Eq.symm this)
theorem FnK.keep {f c : Addr} {name qual : Str} {st : Stmt} {cl : List (Str × Addr)} {dV : Value} (hf : FnK K f name qual st cl dV c) : keepIn K (.ref f) = true := by
 refine Zbv hf fun oc od osl kV doc pm an ct e1 _ => ?_
 unfold keepIn
 simp only [e1]
theorem Zaa {f c : Addr} {name qual : Str} {st : Stmt} {cl : List (Str × Addr)} {dV : Value} {pos : Pos} {Q : Value → Shared → Prop} (hf : FnK K f name qual st cl dV c) (W : Wd K s.heap) {e : Expr} {rest : List Expr}
  (h : wpAny (model prog w) A (spliced (backTo pos (starEach (e :: rest) env))) (kQ K (model prog w) A (.ref f) Q E) E s)
  (he : autoParam (starEach (e :: rest) env = (false, eval e env) :: starEach rest env) aR) (hplain : autoParam ((backTo pos (starEach rest env)).any (·.1) = false) aR) :
  wpAny (model prog w) A (callWith pos (.ref f) [] (backTo pos (starEach (e :: rest) env)) []) Q E s := callWith_K W.k hf.keep h he hplain
theorem Zje (W : Wd K s.heap) (G : KG K) (R : Zk A 70) (hf : FnK K 84 (ofString "_divmod_pos") (ofString "_divmod_pos") (top 10) [] .none 83)
  (f1 : FnK K 70 (ofString "_int2digits") (ofString "_int2digits") (top 8) [] .none 69) (f2 : FnK K 77 (ofString "_digits2int") (ofString "_digits2int") (top 9) [] .none 76) (f3 : FnK K 56 (ofString "_div2n1n") (ofString "_div2n1n") (top 6) [] .none 55)
  {a b : Nat} {t1 t2 : Tok} {Q : Value → Shared → Prop} (hb : 0 < b) (hb9 : b ≤ 1000) (ha : a < 2 ^ 20)
  (h : ∀ p u v s', s.heap.get? p = none → 316 ≤ p → Ext [] [] s s' → s'.heap.get? p = some (Zaw [.int (a / b : Nat) u, .int (a % b : Nat) v]) → Q (.ref p) s') :
  wpAny (model prog w) A (call (.ref 84) [.int (a : Nat) t1, .int (b : Nat) t2]) Q E s := by
 obtain ⟨n, hn⟩ : ∃ n, Builtin.Int.intBits (b : Int) = n := ⟨_, rfl⟩
 have hbn : b < 2 ^ n := by
  have := intBits_le_iff.mp (Nat.le_of_eq hn)
  rwa [Int.natAbs_natCast] at this
 have hn1 : 1 ≤ n := by
  rcases Nat.eq_zero_or_pos n with q | q
  ·rw [q] at hbn; simp at hbn; lia
  ·exact q
 have hn10 : n ≤ 10 := by rw [← hn]; exact intBits_le_iff.mpr (by rw [Int.natAbs_natCast]; exact kB ‹_› rfl)
 obtain ⟨hc40, hcn⟩ := Zni hn1 ha (Nat.le_trans hn10 (by decide))
 have hfit := Zin (a := a) hn1
 generalize hcnt : Zbs a n = cnt at *
 refine Zw W R hf [("a", .int (a : Nat) t1), ("b", .int (b : Nat) t2)] (fun _ _ _ _ _ => BindsTo.of_eq rfl) fun env s₁ hE hO hc C => ?_
 have RD := R.deeper (env := env)
 refine Zq ?_
 refine xca ?_
 refine Zbk ?_
 walk_at "N"
 refine Zbt "int" "int.bit_length" F.plainAttrs_int F.slot_int_bit_length F.type_int_bit_length (typeIs_int _ _ _) (fun _ x => by cases x) (callWith_method0 ?_)
 refine Zip C fun s t C => ?_
 rw [hn]
 refine C.st hO hc (by walk_at "K") ?_; clear C; intro s C
 refine xca ?_
 refine Zf ?_
 walk_at "G"
 refine Zaa f1 (W.ext C.ext) ?_
 refine Za ?_
 walk_at "N"
 refine Za ?_
 walk_at "N"
 refine spliced_none ?_
 refine ⟨(W.ext C.ext).k, ?_⟩
 refine Zf3 (W.ext C.ext) G RD.le f1 hn1 (kA ‹_› rfl) ha fun D o us s' q1 q2 x1 q3 hOu hI => ?_
 rw [hcnt] at hI
 replace C := C.add x1 q1 q2 q3 (fun fd e => absurd e ((Zau hOu).2 fd))
 refine C.st hO hc (by walk_at "K") ?_; clear C; intro s C
 refine xca ?_
 refine C.cint ?_; clear C; intro s tr C
 refine C.st hO hc (by walk_at "K") ?_; clear C; intro s C
 refine xca ?_
 refine List_ ?_
 refine spliced_none ?_
 refine C.lst (by simp [sizeLine_eq]) ?_; clear C; intro D2 s C
 refine C.st hO hc (by walk_at "K") ?_; clear C; intro s C
 have hul : us.length = cnt := by rw [hI.length]; simp [Ziz]
 refine xcf ?_
 refine Zf ?_
 walk_at "B"
 refine xt1 ?_
 refine Za ?_
 walk_at "N"
 refine spliced_none ?_
 refine C.reversed (hOu.at (C.led _ M1)) ?_; clear C; intro I oI s hI0 hoI C
 refine wpAny_pyIter_revIter ⟨oI, C.led _ M0, hoI⟩ ?_
 refine Loc.forI (α := List Nat × Nat × List Value × Obj × Tok)
  (fun i d => d.2.1 = a / 2 ^ (n * (cnt - i)) % b ∧ msv n d.1 = a / 2 ^ (n * (cnt - i)) / b ∧ IntsAre d.2.2.1 (d.1.map fun q : Nat => (q : Int)) ∧ Zce d.2.2.2.1 d.2.2.1 ∧ d.1.length = i ∧ ∀ q ∈ d.1, q < 2 ^ n)
  (fun _ d => [("a", .int (a : Nat) t1), ("b", .int (b : Nat) t2), ("n", .int (n : Nat) t), ("a_digits", .ref D), ("r", .int (d.2.1 : Nat) d.2.2.2.2), ("q_digits", .ref D2)])
  (fun _ d => [(D2, d.2.2.2.1), (D, o)]) (d0 := ([], 0, [], Zu [], tr)) (Zrl RD.hd D us) hI0 hoI C ⟨?_, ?_, .nil, Zc2 _, rfl, by simp⟩ (fun i d oI s' _ C => hOu.at (C.led (D, o) (by first | walk_at "M" | simp))) ?_ ?_
 ·rw [Nat.sub_zero, Nat.div_eq_of_lt hfit, Nat.zero_mod]
 ·rw [Nat.sub_zero, Nat.div_eq_of_lt hfit, Nat.zero_div]; rfl
 ·intro i; refine pE5 fun qs r uq oq tr' oI u s hi hu hPP C => ?_; refine Zd3 hPP fun hP1 hP2 hP3 hP4 hP5 hP6 => ?_; clear hPP
  dsimp only at hP1 hP2 hP3 hP4 hP5 hP6 C
  rw [hul] at hi hu
  obtain ⟨tu, rfl, _⟩ := Zaz hI hu
  have hdg : (Ziz a n cnt).getD (cnt - 1 - i) 0 = ((a / 2 ^ (n * (cnt - 1 - i)) % 2 ^ n : Nat) : Int) := by
   simp [Ziz, List.getD, show cnt - 1 - i < cnt by exact nU hi]
  rw [hdg]
  have hstep := Zpw a n cnt i hi
  have hdlt : a / 2 ^ (n * (cnt - 1 - i)) % 2 ^ n < 2 ^ n := Nat.mod_lt _ (Nat.pow_pos (by decide))
  generalize a / 2 ^ (n * (cnt - 1 - i)) % 2 ^ n = dg at *
  generalize a / 2 ^ (n * (cnt - i)) = T at *
  have hrb : r < b := by rw [hP1]; exact Nat.mod_lt _ hb
  have h2n : 2 ^ n ≤ 2 ^ 10 := Nat.pow_le_pow_right (by decide) hn10
  have hrn : r * 2 ^ n ≤ 1000 * 2 ^ 10 := Nat.mul_le_mul (by lia) h2n
  refine wpAny_assign_Name ?_
  refine C.st hO hc (by walk_at "K") ?_; clear C; intro s C
  refine Zi ?_
  refine Assign_Tuple ?_
  refine Zf ?_
  walk_at "G"
  refine Zaa f3 (W.ext C.ext) ?_
  refine Za ?_
  refine Zn ?_
  refine Zn ?_
  walk_at "N"
  walk_at "N"
  refine C.ishl (Int.natCast_nonneg _) (by lia) (by rw [Int.natAbs_natCast]; exact kA (Nat.le_trans ‹_› ‹_›) rfl) ?_; clear C; intro s t C
  rw [Int.toNat_natCast, show ((r : Int) * 2 ^ n) = ((r * 2 ^ n : Nat) : Int) by norm_cast]
  walk_at "N"
  refine C.iadd ?_; clear C; intro s t C
  rw [show (((r * 2 ^ n : Nat) : Int) + (dg : Int)) = ((r * 2 ^ n + dg : Nat) : Int) by norm_cast]
  refine Za ?_
  walk_at "N"
  refine Za ?_
  walk_at "N"
  refine spliced_none ?_
  refine ⟨(W.ext C.ext).k, ?_⟩
  refine Ziq (W.ext C.ext) G RD.le f3 (nZ hb) ?_ (PyProof.noPylong_small (kB ‹_› rfl)) fun p t3 t4 s' q1 q2 x1 q3 => ?_
  ·have : Builtin.Int.intBits ((r * 2 ^ n + dg : Nat) : Int) ≤ 40 := intBits_le_iff.mpr (by rw [Int.natAbs_natCast]; lia)
   lia
  replace C := C.add x1 q1 q2 q3
  rw [Zby, Zam] at C
  refine C.untup2 RD.hd M0 ?_; clear C; intro s C
  refine C.st hO hc (by walk_at "K") ?_; clear C; intro s C
  refine C.st hO hc (by walk_at "K") ?_; clear C; intro s C
  replace C := C.sub (List.sublist_cons_self _ _)
  refine Zi ?_
  refine C.expr ?_
  refine Zbk ?_
  walk_at "N"
  refine Zbt "list" "list.append" F.plainAttrs_list F.slot_list_append F.type_list_append (hP4.lo.at (C.led (D2, oq) M1)).typeIs (fun a' x => ?_) (callWith_method1 ?_)
  ·cases x
   refine ⟨oq, C.led (D2, oq) M1, ?_⟩
   obtain ⟨_, rfl⟩ := hP4; rfl
  refine Za ?_
  walk_at "N"
  refine spliced_none ?_
  have hql : uq.length < 1000000 := by rw [hP3.length, List.length_map, hP5]; exact kA (Nat.le_trans ‹_› ‹_›) rfl
  refine C.appendP (L' := fun o' => [(I, oI), (D2, o'), (D, o)]) (fun o' => J1) hP4 hql ?_; clear C; intro oq' s hP4' C
  refine wpAny_execs_nil ⟨(qs ++ [(r * 2 ^ n + dg) / b], (r * 2 ^ n + dg) % b, uq ++ [.int ((r * 2 ^ n + dg) / b : Nat) t3], oq', t4), ⟨?_, ?_, ?_, hP4', ?_, ?_⟩, C.vsub ?_⟩
  ·show (r * 2 ^ n + dg) % b = _
   rw [hstep, hP1, Nat.add_mod, Nat.mod_mul_mod, ← Nat.add_mod]
  ·show msv n (qs ++ [(r * 2 ^ n + dg) / b]) = _
   rw [Zj5, hP2, hstep, hP1]
   have h1 := Nat.div_add_mod T b
   have h2 : T * 2 ^ n + dg = b * (T / b * 2 ^ n) + (T % b * 2 ^ n + dg) := by
    rw [← Nat.mul_assoc, ← Nat.add_assoc, ← Nat.add_mul, h1]
   rw [h2, Nat.mul_add_div hb]
  ·show IntsAre (uq ++ [_]) ((qs ++ [_]).map _)
   rw [List.map_append]
   exact intsAre_append hP3 (.cons _ _ .nil)
  ·simp [hP5]
  ·intro q hq
   rcases List.mem_append.mp hq with hq | hq
   ·exact hP6 q hq
   ·rw [List.mem_singleton.mp hq, Nat.div_lt_iff_lt_mul hb]
    have : (r + 1) * 2 ^ n ≤ b * 2 ^ n := Nat.mul_le_mul_right _ hrb
    rw [Nat.add_mul, Nat.one_mul] at this
    rw [Nat.mul_comm (2 ^ n) b]
    lia
  · walk_at "A"
 ·refine pE5 fun qs r uq oq tr' s hPP C => ?_; refine Zd3 hPP fun hP1 hP2 hP3 hP4 hP5 hP6 => ?_; clear hPP
  dsimp only at hP1 hP2 hP3 hP4 hP5 hP6 C
  rw [hul] at hP1 hP2 hP5
  rw [Nat.sub_self, Nat.mul_zero, Nat.pow_zero, Nat.div_one] at hP1 hP2
  subst hP1
  have hql : uq.length = cnt := by rw [hP3.length, List.length_map, hP5]
  refine wpAny_execs_nil ?_
  refine Zi ?_
  refine C.expr ?_
  refine Zbk ?_
  walk_at "N"
  refine Zbt "list" "list.reverse" F.plainAttrs_list F.slot_list_reverse F.type_list_reverse (hP4.lo.at (C.led (D2, oq) M0)).typeIs (fun a' x => ?_) ?_
  ·cases x
   refine ⟨oq, C.led (D2, oq) M0, ?_⟩
   obtain ⟨_, rfl⟩ := hP4; rfl
  refine C.reverseP (L' := fun o' => [(D2, o'), (D, o)]) (fun o' => J0) hP4 (by lia) ?_; clear C; intro oq' s hP4' C
  refine xca ?_
  refine Zf ?_
  walk_at "G"
  refine Zaa f2 (W.ext C.ext) ?_
  refine Za ?_
  walk_at "N"
  refine Za ?_
  walk_at "N"
  refine spliced_none ?_
  refine ⟨(W.ext C.ext).k, ?_⟩
  have hIr : IntsAre uq.reverse (qs.reverse.map fun q : Nat => (q : Int)) := by
   rw [List.map_reverse]; exact hP3.reverse
  refine Zf6 (W.ext C.ext) G RD.le f2 hn1 (C.fresh (a := D2) M0).2.1 (hP4'.lo.at (C.led (D2, oq') M0)) hIr (fun q hq => hP6 q (List.mem_reverse.mp hq)) (by rw [List.length_reverse, hP5]; exact hc40) fun s' t5 x1 => ?_
  replace C := C.pure x1
  rw [Znq, hP2]
  refine C.st hO hc (by walk_at "K") ?_; clear C; intro s C
  refine xcr ?_
  refine Tuple_ ?_
  refine Za ?_
  walk_at "N"
  refine Za ?_
  walk_at "N"
  refine spliced_none ?_
  refine C.tup (by simp [sizeLine_eq]) ?_; clear C; intro p s C
  refine Zae (C.fresh (a := p) M0) fun g1 g2 g3 => ?_
  exact h p _ _ s g1 g2 C.ext g3
structure KD (K : Frag) : Prop where
 f56 : FnK K 56 (ofString "_div2n1n") (ofString "_div2n1n") (top 6) [] .none 55
 f70 : FnK K 70 (ofString "_int2digits") (ofString "_int2digits") (top 8) [] .none 69
 f77 : FnK K 77 (ofString "_digits2int") (ofString "_digits2int") (top 9) [] .none 76
 f84 : FnK K 84 (ofString "_divmod_pos") (ofString "_divmod_pos") (top 10) [] .none 83
 f91 : FnK K 91 (ofString "int_divmod") (ofString "int_divmod") (top 11) [] .none 90
theorem Zle (W : Wd K s.heap) (G : KG K) (R : Zk A 80) (D : KD K) {a b : Nat} {t1 t2 : Tok} {Q : Value → Shared → Prop} (hb : 0 < b) (hb9 : b ≤ 1000) (ha : a < 2 ^ 20)
  (h : ∀ p u v s', s.heap.get? p = none → 316 ≤ p → Ext [] [] s s' → s'.heap.get? p = some (Zaw [.int (a / b : Nat) u, .int (a % b : Nat) v]) → Q (.ref p) s') :
  wpAny (model prog w) A (call (.ref 91) [.int (a : Nat) t1, .int (b : Nat) t2]) Q E s := by
 refine Zw W R D.f91 [("a", .int (a : Nat) t1), ("b", .int (b : Nat) t2)] (fun _ _ _ _ _ => BindsTo.of_eq rfl) fun env s₁ hE hO hc C => ?_
 have RD := R.deeper (env := env)
 refine Zq ?_
 refine xci ?_
 refine Z0 ?_
 walk_at "N"
 refine C.cint ?_; clear C; intro s t C
 refine eq_int (wpAny_truthy_bool ?_)
 refine ifN (by simp; exact Nat.ne_of_gt hb) ?_
 refine xci ?_
 refine Z0 ?_
 walk_at "N"
 refine C.cint ?_; clear C; intro s t C
 refine lt_int (wpAny_truthy_bool ?_)
 refine ifN (by simp) ?_
 refine xci ?_
 refine Z0 ?_
 walk_at "N"
 refine C.cint ?_; clear C; intro s t C
 refine lt_int (wpAny_truthy_bool ?_)
 refine ifN (by simp) ?_
 refine xcr ?_
 refine Zf ?_
 walk_at "G"
 refine Zaa D.f84 (W.ext C.ext) ?_
 refine Za ?_
 walk_at "N"
 refine Za ?_
 walk_at "N"
 refine spliced_none ?_
 refine ⟨(W.ext C.ext).k, ?_⟩
 refine Zje (W.ext C.ext) G RD.le D.f84 D.f70 D.f77 D.f56 hb hb9 ha fun p u v s' q1 q2 x1 q3 => ?_
 exact h p u v s' (C.noneAt q1 (fun h => nomatch h)) q2 (C.pure x1).ext q3
theorem Zc3 (W : Wd K s.heap) (G : KG K) (R : Zk A 90) (D : KD K) {a b : Int} {t1 t2 : Tok} {Q : Value → Shared → Prop} (hb : 0 < b) (hb9 : b ≤ 1000) (ha : a.natAbs < 2 ^ 19)
  (h : ∀ p u v s', s.heap.get? p = none → 316 ≤ p → Ext [] [] s s' → s'.heap.get? p = some (Zaw [.int (a.fdiv b) u, .int (a.fmod b) v]) → Q (.ref p) s') :
  wpAny (model prog w) A (call (.ref 91) [.int a t1, .int b t2]) Q E s := by
 obtain ⟨b', rfl⟩ : ∃ b' : Nat, b = b' := ⟨b.toNat, nT (Int.le_of_lt hb)⟩
 by_cases ha0 : 0 ≤ a
 ·obtain ⟨a', rfl⟩ : ∃ a' : Nat, a = a' := ⟨a.toNat, by exact nT ha0⟩
  refine Zle W G R.le D (Int.ofNat_lt.mp hb) (Int.ofNat_le.mp hb9) (kC ‹_› rfl) fun p u v s' q1 q2 x1 q3 => h p u v s' q1 q2 x1 ?_
  rw [Zby, Zam]; exact q3
 refine Zw W R D.f91 [("a", .int a t1), ("b", .int (b' : Nat) t2)] (fun _ _ _ _ _ => BindsTo.of_eq rfl) fun env s₁ hE hO hc C => ?_
 have RD := R.deeper (env := env)
 refine Zq ?_
 refine xci ?_
 refine Z0 ?_
 walk_at "N"
 refine C.cint ?_; clear C; intro s t C
 refine eq_int (wpAny_truthy_bool ?_)
 refine ifN (by simp; lia) ?_
 refine xci ?_
 refine Z0 ?_
 walk_at "N"
 refine C.cint ?_; clear C; intro s t C
 refine lt_int (wpAny_truthy_bool ?_)
 refine ifN (by simp) ?_
 refine xci ?_
 refine Z0 ?_
 walk_at "N"
 refine C.cint ?_; clear C; intro s t C
 refine lt_int (wpAny_truthy_bool ?_)
 refine ifP (by simp; grind) ?_
 refine Zi ?_
 refine Assign_Tuple ?_
 refine Zf ?_
 walk_at "G"
 refine Zaa D.f91 (W.ext C.ext) ?_
 refine Za ?_
 refine xun ?_
 walk_at "N"
 refine C.iinv ?_; clear C; intro s t C
 refine Za ?_
 walk_at "N"
 refine spliced_none ?_
 refine ⟨(W.ext C.ext).k, ?_⟩
 obtain ⟨a', ha'⟩ : ∃ a' : Nat, Builtin.bitNot a = a' := ⟨(-a - 1).toNat, nT (Int.le_sub_one_of_lt (Int.neg_pos_of_neg (Int.not_le.mp ha0)))⟩
 have ha2 : a = -(a' : Int) - 1 := by unfold Builtin.bitNot at ha'; grind
 rw [ha']
 refine Zle (W.ext C.ext) G RD.le D (Int.ofNat_lt.mp hb) (Int.ofNat_le.mp hb9) (by grind) fun p u v s' q1 q2 x1 q3 => ?_
 replace C := C.add x1 q1 q2 q3
 refine C.untup2 RD.hd M0 ?_; clear C; intro s C
 refine C.st hO hc (by walk_at "K") ?_; clear C; intro s C
 refine C.st hO hc (by walk_at "K") ?_; clear C; intro s C
 refine xcr ?_
 refine Tuple_ ?_
 refine Za ?_
 refine xun ?_
 walk_at "N"
 refine C.iinv ?_; clear C; intro s t C
 refine Za ?_
 refine Zn ?_
 walk_at "N"
 refine xun ?_
 walk_at "N"
 refine C.iinv ?_; clear C; intro s t C
 refine C.iadd ?_; clear C; intro s t C
 refine spliced_none ?_
 refine C.tup (by simp [sizeLine_eq]) ?_; clear C; intro p s C
 refine Zae (C.fresh (a := p) M0) fun g1 g2 g3 => ?_
 have hm := Nat.mod_lt a' (show b' > 0 from Int.ofNat_lt.mp ‹(0 : Int) < (b' : Int)›)
 have key := (Int.ediv_emod_unique (a := -(a' : Int) - 1) (b := (b' : Int)) (r := (b' : Int) - 1 - ((a' % b' : Nat) : Int)) (q := -((a' / b' : Nat) : Int) - 1) (by assumption)).mpr ⟨by
  have h2 : (b' : Int) * ((a' / b' : Nat) : Int) + ((a' % b' : Nat) : Int) = a' := by exact_mod_cast Nat.div_add_mod a' b'
  rw [Int.mul_sub, Int.mul_neg]
  lia, Int.sub_nonneg_of_le (Int.le_sub_one_of_lt (Int.ofNat_lt.mpr hm)), Int.lt_of_le_of_lt (Int.sub_le_self _ (Int.natCast_nonneg _)) (Int.sub_lt_self _ (by decide))⟩
 have e1 : Builtin.bitNot ((a' / b' : Nat) : Int) = a.fdiv b' := by
  rw [ha2, Int.fdiv_eq_ediv_of_nonneg _ (Int.natCast_nonneg _)]
  exact key.1.symm
 have e2 : (b' : Int) + Builtin.bitNot ((a' % b' : Nat) : Int) = a.fmod b' := by
  unfold Builtin.bitNot
  rw [ha2, Int.fmod_eq_emod_of_nonneg _ (Int.natCast_nonneg _), key.2]
  simp +arith
 rw [e1, e2] at g3
 exact h p _ _ s g1 g2 C.ext g3
theorem Loc.loadN (C : Loc env s₀ X vs l s) {x : String} {v : Value} {Q : Value → Shared → Prop} (hm : (x, v) ∈ vs) (h : Q v s) (hn : (ofString x == ("__classdict__" : Str)) = false := by decide) : wpAny (model prog w) A (loadName env (ofString x)) Q E s := by
 rcases C.bd _ hm with ⟨a, ρ, b, c⟩ | ⟨c, a, b, d⟩
 ·exact wpAny_loadName_local C.fr.kind a b c h
 ·rcases a with a | a
  ·exact wpAny_loadName_cell C.fr.kind a b d h
  ·exact wpAny_loadName_free C.fr.kind a b d h hn
theorem Loc.iiadd (C : Loc env s₀ X vs l s) {a b : Int} {t u : Tok} {Q : Value → Shared → Prop} (h : ∀ s' t', Loc env s₀ X vs l s' → Q (.int (a + b) t') s') : wpAny (model prog w) A (inplaceOp .Add (.int a t) (.int b u)) Q E s := PySem.P.iadd_int (h _ _ C.tok)
theorem Zff {h : Heap} {p : Addr} {us : List Value} (e : h.get? p = some (Zaw us)) : IsTup h p us.toArray := ⟨_, e, rfl, _, rfl⟩
noncomputable def Zf8 : Nat → Nat → Nat → Nat → Int → Int
 | 0, _, _, _, sym => sym
 | k + 1, a, m, p, sym => if m % p > 0 then Zf8 k a m (p + 2) sym else if a % p = 0 then 0 else Zf8 k a (m / p) p (if ((List.range (p / 2)).map fun j => ((j + 1) * (j + 1) % p)).contains (a % p) then sym else -sym)
noncomputable def Zkv : List (Nat × Nat × Nat) := [(1, 3, 0), (1, 5, 0), (1, 7, 0), (3, 3, 1), (5, 5, 1), (5, 3, 2), (7, 7, 1), (7, 5, 2), (7, 3, 3), (9, 3, 2)]
theorem Zl4 : ∀ d ∈ Zkv, 3 ≤ d.2.1 ∧ d.2.1 ≤ 7 ∧ d.1 ≤ 9 ∧ (d.2.2 = 0 → d.1 = 1) ∧ (0 < d.2.2 → 1 < d.1 ∧ ((0 < d.1 % d.2.1 ∧ (d.1, d.2.1 + 2, d.2.2 - 1) ∈ Zkv) ∨ (d.1 % d.2.1 = 0 ∧ (d.1 / d.2.1, d.2.1, d.2.2 - 1) ∈ Zkv))) := by decide
theorem Zf1 (W : Wd K s.heap) (G : KG K) (R : Zk A 100) (D : KD K) (hf : FnK K 310 (ofString "_law_symbol") (ofString "_law_symbol") (top 28) [] .none 309) {a m k : Nat} {t1 t2 : Tok} {Q : Value → Shared → Prop}
  (ha : a ≤ 9) (hm : (m, 3, k) ∈ Zkv) (h : ∀ u s', Ext [] [] s s' → Q (.int (Zf8 k a m 3 1) u) s') :
  wpAny (model prog w) A (call (.ref 310) [.int (a : Nat) t1, .int (m : Nat) t2]) Q E s := by
 refine Zw W R hf [("a", .int (a : Nat) t1), ("m", .int (m : Nat) t2)] (fun _ _ _ _ _ => BindsTo.of_eq rfl) fun env s₁ hE hO hc C => ?_
 have RD := R.deeper (env := env)
 refine Zq ?_
 refine xca ?_
 refine C.cint ?_; clear C; intro s ts C
 refine C.st hO hc (by walk_at "K") ?_; clear C; intro s C
 refine xca ?_
 refine C.cint ?_; clear C; intro s tp C
 refine C.st hO hc (by walk_at "K") ?_; clear C; intro s C
 refine Zi ?_
 refine Zkq ?_
 refine Loc.whileI (α := Nat × Nat × Nat × Int × Tok × Tok × Tok) (fun d => (d.1, d.2.1, d.2.2.1) ∈ Zkv ∧ Zf8 d.2.2.1 a d.1 d.2.1 d.2.2.2.1 = Zf8 k a m 3 1) (fun d => d.2.2.1)
  (fun d => [("a", .int (a : Nat) t1), ("m", .int (d.1 : Nat) d.2.2.2.2.1), ("symbol", .int d.2.2.2.1 d.2.2.2.2.2.1), ("p", .int (d.2.1 : Nat) d.2.2.2.2.2.2)]) (fun _ => []) (d0 := (m, 3, k, 1, t2, ts, tp)) C ⟨hm, rfl⟩ ?_
 refine pE7 fun m' p k' sy tm' ts' tp' s hPP C => ?_; refine x_A hPP fun hP1 hP2 => ?_; clear hPP
 dsimp only at hP1 hP2 C
 refine Z6 (Zl4 _ hP1) fun hp3 hp7 hm9 hz hs => ?_
 simp only at hp3 hp7 hm9 hz hs
 refine Z0 ?_
 walk_at "N"
 refine C.cint ?_; clear C; intro s t C
 refine gt_int (wpAny_truthy_bool ?_)
 by_cases hk : k' = 0
 ·subst hk
  refine ifN (by simp; have := hz rfl; simp +arith [*]) ?_
  refine wpAny_execs_nil ?_
  refine xcr ?_
  walk_at "N"
  have hP2 : sy = _ := hP2
  rw [hP2]
  exact h _ _ C.ext
 obtain ⟨hm1, hs⟩ := hs (Nat.pos_of_ne_zero hk)
 refine ifP (by simp; exact Int.ofNat_le.mpr hm1) ?_
 obtain ⟨k'', rfl⟩ : ∃ k'', k' = k'' + 1 := ⟨k' - 1, by exact n1 hk⟩
 refine xci ?_
 refine Z0 ?_
 refine Zn ?_
 walk_at "N"
 walk_at "N"
 refine C.imod (kZ ‹_› rfl) ?_; clear C; intro s t C
 rw [Zam]
 refine C.cint ?_; clear C; intro s t C
 refine gt_int (wpAny_truthy_bool ?_)
 rcases hs with ⟨h1, h2⟩ | ⟨h1, h2⟩
 ·refine ifP (by simp; exact nz h1) ?_
  refine Zi ?_
  refine wpAny_AugAssign_Name ?_
  refine C.loadN (by walk_at "M") ?_
  refine C.cint ?_; clear C; intro s t C
  refine C.iiadd ?_; clear C; intro s t C
  refine C.st hO hc (by walk_at "K") ?_; clear C; intro s C
  refine wpAny_execs_nil ?_
  refine wpAny_execs_nil ⟨(m', p + 2, k'', sy, tm', ts', t), by simp, ⟨h2, ?_⟩, C⟩
  rw [← hP2]
  exact (if_pos h1).symm
 ·refine ifN (by simp; lia) ?_
  refine xca ?_
  refine Zn ?_
  walk_at "N"
  walk_at "N"
  refine C.idiv (kZ ‹_› rfl) (PyProof.noPylong_small (kB ‹_› rfl)) ?_; clear C; intro s tm2 C
  rw [Zby]
  refine C.st hO hc (by walk_at "K") ?_; clear C; intro s C
  refine xca ?_
  refine Zad ?_
  refine Zf ?_
  walk_at "G"
  refine Zaa D.f91 (W.ext C.ext) ?_
  refine Za ?_
  walk_at "N"
  refine Za ?_
  walk_at "N"
  refine spliced_none ?_
  refine ⟨(W.ext C.ext).k, ?_⟩
  refine Zc3 (W.ext C.ext) G RD.le D (kz ‹_› rfl) (by lia) (kB ‹_› rfl) fun q u v s' q1 q2 x1 q3 => ?_
  replace C := C.add x1 q1 q2 q3
  refine C.cint ?_; clear C; intro s t C
  refine Loc.subT (Zff (C.led _ M0)) (by decide) (by decide) rfl ?_
  rw [Zam]
  replace C := C.sub (List.nil_sublist _)
  refine C.st hO hc (by walk_at "K") ?_; clear C; intro s C
  refine xci ?_
  refine Z0 ?_
  walk_at "N"
  refine C.cint ?_; clear C; intro s t C
  refine eq_int (wpAny_truthy_bool ?_)
  have hstep : Zf8 (k'' + 1) a m' p sy = if a % p = 0 then 0 else Zf8 k'' a (m' / p) p (if ((List.range (p / 2)).map fun j => ((j + 1) * (j + 1) % p)).contains (a % p) then sy else -sy) := by
   show (if m' % p > 0 then _ else _) = _
   rw [if_neg (by simp +arith [*])]
  rw [hP2] at hstep
  by_cases hr0 : a % p = 0
  ·refine ifP (by simp; lia) ?_
   refine xcr ?_
   refine C.cint ?_; clear C; intro s t C
   rw [if_pos hr0] at hstep
   rw [hstep] at h
   exact h _ _ C.ext
  refine ifN (by simp; lia) ?_
  rw [if_neg hr0] at hstep
  refine wpAny_execs_nil ?_
  refine xci ?_
  refine Z0 ?_
  walk_at "N"
  refine Loc.lc ⟨[("p", .int (p : Nat) tp')], by walk_at "S"⟩ C ?_
  refine Zf ?_
  walk_at "B"
  refine xt1 ?_
  refine Za ?_
  refine C.cint ?_; clear C; intro s t C
  refine Za ?_
  refine Zn ?_
  refine Zn ?_
  walk_at "N"
  refine C.cint ?_; clear C; intro s t C
  refine C.idiv (by decide) (PyProof.noPylong_small (by decide)) ?_; clear C; intro s t C
  refine C.cint ?_; clear C; intro s t C
  refine C.iadd ?_; clear C; intro s t C
  rw [show ((p : Int)).fdiv 2 = ((p / 2 : Nat) : Int) from Zby p 2, Int.add_comm]
  refine spliced_none ?_
  refine C.range2 ?_; clear C; intro r _ _ _ s C
  refine C.pyIterR1 M0 (by decide) (by lia) ?_; clear C; intro I s hI C
  refine Zal.all (fvs := [("p", .int (p : Nat) tp')]) (Zcz RD.hd 1 1 (p / 2)) (by walk_at "S") hI (Zcq _ _ _) C (by rw [sizeLine_eq]; lia) (fun _ _ _ => trivial)
   (fun i y new => (∃ t, y = .int (((i + 1) * (i + 1) % p : Nat) : Int) t) ∧ ∃ D, new = [D]) ?_ ?_
  ·intro i v cenv s N' hi hv ce C CO
   obtain ⟨t, rfl⟩ := hv
   have W := W.ext CO.ext
   have e1 : (1 + (i : Int) * 1) = ((i + 1 : Nat) : Int) := by simp +arith
   rw [e1] at C
   refine Zad ?_
   refine Zf ?_
   walk_at "G"
   refine Zaa D.f91 (W.ext C.ext) ?_
   refine Za ?_
   refine Zn ?_
   walk_at "N"
   walk_at "N"
   have hi3 : i + 1 ≤ 4 := Nat.le_trans hi (Nat.le_trans (Nat.div_le_div_right (c := 2) ‹p ≤ 7›) (by decide))
   refine C.imul (Zid (kB hi3 rfl)) ?_; clear C; intro s t C
   rw [← Int.natCast_mul]
   refine Za ?_
   walk_at "N"
   refine spliced_none ?_
   refine ⟨(W.ext C.ext).k, ?_⟩
   have hi4 : (i + 1) * (i + 1) ≤ 4 * 4 := Nat.mul_le_mul hi3 hi3
   refine Zc3 (W.ext C.ext) G RD.le D (kz ‹_› rfl) (by lia) (kB ‹_› rfl) fun q u v s' q1 q2 x1 q3 => ?_
   replace C := C.add x1 q1 q2 q3
   refine C.cint ?_; clear C; intro s t C
   refine Loc.subT (Zff (C.led _ M0)) (by decide) (by decide) rfl ?_
   rw [Zam]
   refine Zae (C.fresh (a := q) M0) fun g1 g2 g3 => ?_
   exact ⟨_, ⟨⟨_, rfl⟩, _, rfl⟩, C.ext, Zan.one g1 g2 g3⟩
  intro D1 oD s rs hD hG C
  have hints : IntsAre (rs.map (·.1)) ((List.range (p / 2)).map fun i => (((i + 1) * (i + 1) % p : Nat) : Int)) := hG.ints'
  refine notin_list_ints (hD.at (C.led _ M0)) hints ?_
  replace C := C.sub (List.nil_sublist _)
  have hany : ((List.range (p / 2)).map fun i => (((i + 1) * (i + 1) % p : Nat) : Int)).any (· == ((a % p : Nat) : Int)) = ((List.range (p / 2)).map fun j => ((j + 1) * (j + 1) % p)).contains (a % p) := by
   rw [List.contains_eq_any_beq, List.any_map, List.any_map]
   congr 1
   funext j
   simp only [Function.comp]
   rw [Bool.eq_iff_iff]
   simp only [beq_iff_eq]
   lia
  rw [hany]
  refine wpAny_truthy_bool ?_
  by_cases hct : ((List.range (p / 2)).map fun j => ((j + 1) * (j + 1) % p)).contains (a % p) = true
  ·rw [hct, if_pos rfl] at hstep
   refine ifF (by rw [hct]; rfl) ?_
   refine wpAny_execs_nil ?_
   refine wpAny_execs_nil ?_
   refine wpAny_execs_nil ⟨(m' / p, p, k'', sy, tm2, ts', tp'), by simp, ⟨h2, hstep.symm⟩, C.vsub ?_⟩
   walk_at "A"
  ·have hct : ((List.range (p / 2)).map fun j => ((j + 1) * (j + 1) % p)).contains (a % p) = false := by simpa using hct
   rw [hct, if_neg (by simp)] at hstep
   refine ifT (by rw [hct]; rfl) ?_
   refine xca ?_
   refine xun ?_
   walk_at "N"
   refine C.ineg ?_; clear C; intro s t C
   refine C.st hO hc (by walk_at "K") ?_; clear C; intro s C
   refine wpAny_execs_nil ?_
   refine wpAny_execs_nil ?_
   refine wpAny_execs_nil ⟨(m' / p, p, k'', -sy, tm2, t, tp'), by simp, ⟨h2, hstep.symm⟩, C.vsub ?_⟩
   walk_at "A"
structure ClsS (K : Frag) (C : Addr) (cd : ClassData) : Prop where
 cls : clsIn K C = some cd
 dct : cd.hasDict = true
 mt : cd.mro.isEmpty = false
 ob : cd.mro.contains (.type "object") = true
 rf : ∀ self, refuseLoop self "__setattr__" cd.mro = Pure.pure ()
 sa : findIn K (.ref C) "__setattr__" = some (some (.builtin "object.__setattr__"))
 gt : findIn K (.ref C) "__getattr__" = some none
structure Zq0 (K : Frag) (C : Addr) (cd : ClassData) : Prop extends ClsS K C cd where
 ga : findIn K (.ref C) "__getattribute__" = some (some (.builtin "object.__getattribute__"))
theorem Zkr {o : Obj} {es : Array DictEntry} {n : Nat} (q : o.data = .dict es n) : o.isFreed = false := by
 obtain ⟨_, _, _, _⟩ := o
 cases q; rfl
variable {x C dx : Addr} {ox od : Obj} {cd : ClassData} {v : Value}
theorem Zsi {od' : Tok → Obj} {tk : Tok} {R : Result → Shared → Prop} (X : K.In s.heap) (I : InstAt s.heap x ox C (some od)) (hd : ox.dict = some dx) (Y : ClsS K C cd) (ht : takerIn K C name = some none) (hl : (lookIn name od).isSome = true)
  (e : ∀ t, Obj.putName name (PyData.keyHash w.params name) (.str name t) v od = od' t) (e' : ∀ t, ∃ es n, (od' t).data = .dict (List.toArray es) n ∧ es.length ≤ 1000)
  (h : ∀ t h' k, h'.get? dx = some (od' t) → Heap.SameBut dx s.heap h' → R (.ok (.ret .none)) { s with heap := h', toks := k }) :
  codeAny (model prog w) A (.call (.builtin "object.__setattr__") ⟨[.ref x, .str name tk, v], []⟩) R s := by
 have SF := PySem.F.store_object
 have sub : Looks (model prog w) s.heap (isInstance (.ref x) (.type "object")) true := I.type.andThen (looks_mroIn X (by unfold mroIn; rw [Y.cls, Option.bind_some, if_neg (by rw [Y.mt]; decide), Y.ob]))
 refine codeAny_call_builtin SF.slot.plain SF.entry (@check_slot (model prog w) _ _ s "object.__setattr__" "object" "__setattr__" (.ref x) [.str name tk, v] [] _ SF.kind SF.split sub (SF.args (.ref x) (.str name tk) v) ?_)
 refine Zo (Option.bind_eq_some_iff.mp ht) fun attr ha hr => ?_
 have hm : Looks (model prog w) s.heap (mroOf (.ref C)) cd.mro := (looks_clsIn X Y.cls).andThen .now
 have L3 : Looks (model prog w) s.heap (Builtin.ObjectAttr.storeTaker? attr) none := by
  cases attr with
  | none => exact .now
  | some a =>
   refine Zo (Option.map_eq_some_iff.mp hr) fun b hb q => ?_
   refine (looks_takesIn X hb).andThen ?_
   cases b with
   | true => cases q
   | false => exact .now
 rw [osa_eq, refuse_eq]
 refine wpAny_bind (wpAny_bind (I.type.here (wpAny_bind (hm.here ?_))))
 rw [Y.rf]
 refine wpAny_pure (wpAny_bind (I.type.here (wpAny_bind ((looks_findIn X ha).here (wpAny_bind (L3.here ?_))))))
 have D : s.heap.get? dx = some od := by
  have := I.dict
  rw [hd] at this
  exact this
 obtain ⟨hx, hcl, hn, -⟩ := I
 obtain ⟨oc, odi, oda, osl⟩ := ox
 dsimp only at hcl hd
 subst hcl hd
 refine wpAny_bind (wpAny_pure (wpAny_bind (wpAny_bind (wpAny_loadPart hx (wpAny_bind ((looks_clsIn X Y.cls).here ?_))))))
 rw [Y.dct]
 refine wpAny_pure (a := some dx) (wpAny_bind (wpAny_pure (wpAny_bind ?_)))
 unfold nsSet
 refine wpAny_bind (wpAny_bind (wpAny_askSetting (wpAny_pure (wpAny_bind (wpAny_mkText (wpAny_bind (wpAny_loadPart D ?_)))))))
 unfold lookIn at hl
 split at hl
 ·rename_i es₀ n₀ q
  rw [q]
  dsimp only
  have c : (!es₀.any (·.key.isStr name) && es₀.any (·.refKey)) = false := by
   rw [← Array.any_toList, ← Array.any_toList]
   split at hl
   ·rename_i en he
    rw [List.any_eq_true.mpr ⟨en, List.mem_of_find?_eq_some he, List.find?_some he⟩]; rfl
   ·split at hl
    ·cases hl
    ·rename_i z; rw [Bool.not_eq_true] at z; rw [z, Bool.and_false]
  rw [aRefKeyMayBeTheName_at, c]
  refine wpAny_updatePart D ?_
  refine Z9 (e' s.toks) fun es' n' e1 e2 => ?_
  have D' := Heap.get?_update_self (h := s.heap) (Obj.putName name (PyData.keyHash w.params name) (.str name s.toks) v) D (by rw [e]; exact Zkr e1)
  rw [e] at D'
  refine wpAny_bind (wpAny_lookBehind D' (by rw [e1]; exact pastItsLine_dict (by rw [List.size_toArray, sizeLine_eq]; exact kA ‹_› rfl)) ?_)
  exact wpAny_pure (h _ _ _ D' (Heap.SameBut.update ..))
 ·cases hl
theorem Zj4 {name : Str} {od : Obj} (h : (lookIn name od).isSome = true) : ∃ es n, od.data = .dict es n := by
 unfold lookIn at h
 split at h
 ·rename_i es n q; exact ⟨es, n, q⟩
 ·cases h
theorem Zis {o : Obj} {es : Array DictEntry} {n : Nat} (q : o.data = .dict es n) : Zs o := Zbm (fun vs e => by rw [q] at e; cases e) (fun vs e => by rw [q] at e; cases e)
variable {Cc : Addr}
theorem Loc.setA (C : Loc env s₀ X vs l s) (W : Wd K s₀.heap) {L' : Obj → List (Addr × Obj)} (P : ∀ o', Put dx od o' l (L' o')) (hx : s.heap.get? x = some ox) (hcls : ox.cls = .ref Cc) (hno : notCls ox = true) (hd : ox.dict = some dx) (Y : ClsS K Cc cd) (ht : takerIn K Cc name = some none)
  {od' : Tok → Obj} {Q : Unit → Shared → Prop} (hl : (lookIn name od).isSome = true) (e : ∀ t, Obj.putName name (PyData.keyHash w.params name) (.str name t) v od = od' t) (e' : ∀ t, ∃ es n, (od' t).data = .dict (List.toArray es) n ∧ es.length ≤ 1000)
  (h : ∀ t s', Loc env s₀ X vs (L' (od' t)) s' → Q () s') : wpAny (model prog w) A (setAttr (.ref x) name v) Q E s := by
 have hm := (P od).mem
 have I : InstAt s.heap x ox Cc (some od) := ⟨hx, hcls, hno, by rw [hd]; exact C.led _ hm⟩
 have X' := (W.ext C.ext).k
 refine set_plain X' I Y.sa ?_
 have C1 := C.tok (tk := s.toks + 1)
 refine Zsi (s := { s with toks := s.toks + 1 }) X' I hd Y ht hl e e' fun t h' k hg hs => ?_
 refine Zcv (Zj4 hl) fun es n hod => ?_
 refine Z9 (e' t) fun es' n' hod' _ => ?_
 have x1 : Ext [dx] [] s { s with heap := h', toks := k } := Ext.same (C.own _ hm).2 (Z5 (C.led _ hm) (Zis hod)) M0 hs ⟨_, hg⟩
 exact h t _ (C.put x1 (P _) hg (Zis hod').2)
theorem Loc.getA (C : Loc env s₀ X vs l s) (W : Wd K s₀.heap) (hx : s.heap.get? x = some ox) (hdx : s.heap.get? dx = some od) (hcls : ox.cls = .ref Cc) (hno : notCls ox = true) (hd : ox.dict = some dx) (Y : Zq0 K Cc cd) {expr : Bool} {Q : Value → Shared → Prop}
  (hfr : findIn K (.ref Cc) name = some none) (hl : lookIn name od = some (some v)) (hh : handedIn v = true) (h : ∀ s', Loc env s₀ X vs l s' → Q v s') : wpAny (model prog w) A (getAttr (.ref x) name expr) Q E s := by
 have I : InstAt s.heap x ox Cc (some od) := ⟨hx, hcls, hno, by rw [hd]; exact hdx⟩
 refine get_value (W.ext C.ext).k I Y.ga ?_ hh (h _ C.tok)
 unfold findObj
 rw [Y.cls, Option.bind_some, hfr, Option.bind_some]
 simp only [Option.bind_some]
 unfold PySem.W.ownOf
 rw [if_pos Y.dct]
 simp only [hl, Option.bind_some]
theorem Zaq {o : Expr} {pos : Pos} {Q : Value → Shared → Prop} (h : wpAny (model prog w) A (eval o env) (fun ov s₁ => wpAny (model prog w) A (getAttr ov name true) Q E s₁) E s) (hb : autoParam (∀ y, attributeBase o name env y = y) aI) :
  wpAny (model prog w) A (eval (.Attribute o name pos) env) Q E s := by
 rw [arm_eval_Attribute, hb]
 exact wpAny_bind (wpAny_mono h (fun o s₁ h₁ => wpAny_bind (wpAny_standAt (wpAny_bind (wpAny_holding (wpAny_mono h₁ (fun r s₂ h₂ => wpAny_bind (wpAny_letTemporaryGo (wpAny_pure h₂))) fun _ _ y => y))))) fun _ _ y => y)
theorem Zk.under {A : Around} {n : Nat} {C : Addr} {rest : List Value} (R : Zk A (n + 1)) : Zk (A.under (.builtin "type.__call__" ⟨.ref C :: rest, []⟩)) n := by
 have w1 : Code.weight (.builtin "type.__call__" ⟨.ref C :: rest, []⟩) = 1 := by kernel_rfl
 have w2 : Code.cUnits (.builtin "type.__call__" ⟨.ref C :: rest, []⟩) = 1 := by kernel_rfl
 have w3 : Code.envs (.builtin "type.__call__" ⟨.ref C :: rest, []⟩) = [] := by kernel_rfl
 have w4 : Code.guards (.builtin "type.__call__" ⟨.ref C :: rest, []⟩) = [] := by kernel_rfl
 obtain ⟨hd, dp, un, ⟨fr, hfr⟩, ⟨gd, hgd⟩⟩ := R
 refine ⟨hd, ?_, ?_, ⟨fr, ?_⟩, ⟨gd, ?_⟩⟩
 ·show A.depth + Code.weight _ + n < 900; rw [w1]; lia
 ·show A.units + Code.cUnits _ + 20 * n < 9000; rw [w2]; lia
 ·simp only [Around.under]; rw [w3]; exact hfr
 ·simp only [Around.under]; rw [w4]; exact hgd
theorem Zie (W : Wd K s.heap) {n : Nat} (R : Zk A n) {f c : Addr} {name qual : Str} {st : Stmt} {dV : Value} (hf : FnK K f name qual st [] dV c) {args : List Value} (vs : List (String × Value)) {RR : Result → Shared → Prop}
  (hbind : ∀ kV doc pm an ct, BindsTo s (fnX name qual (Zaj st) (Zl st) (Zb st) [] dV kV doc pm an (.ref c) ct) ⟨args, []⟩ (Zaf vs))
  (h : ∀ env s₁, Za2 env (Zb st) qual f (.ref c) → Zbw env s → (∀ x, env.kindOf x = some .cell → ∃ c, env.cells.lookup x = some c) → Loc env s [] vs [] s₁ →
   wpAny (model prog w) (A.deeper env) (execs (Zl st) env) (fun fl s' => RR (.ok (.ret (Zjd fl))) s') (fun _ _ => False) s₁)
  (hnd : autoParam (Zdo (vs.map (·.1)) = true) aK)
  (hkind : autoParam (((Zaf vs).all fun y => (Zb st).names.lookup y.1 == some .local || (Zb st).names.lookup y.1 == some .cell) = true) aK)
  (hco : autoParam ((Zb st).isCoroutine = false) aK) (hgen : autoParam ((Zb st).isGenerator = false) aK) (hk : autoParam ((Zb st).kind = .function) aK) :
  codeAny (model prog w) A (.call (.ref f) ⟨args, []⟩) RR s := by
 refine Zbv hf fun oc od osl kV doc pm an ct e1 e2 => ?_
 refine Znl W R.lt (W.k _ _ e1) rfl (codeRec_of W.k e2) (hbind kV doc pm an ct) (Zc0 hnd) hkind (fun env s₁ h1 _ _ h2 h3 C => wpAny_mono (h env s₁ h1 h2 h3 C) (fun fl s' q => ?_) fun _ _ q => q) hco hgen hk
 cases fl <;> exact q
theorem Loc.make (C : Loc env s₀ X vs l s) (W : Wd K s₀.heap) {n : Nat} (R : Zk A (n + 1)) {Cc fI : Addr} (hm : makesIn K Cc = true) (hi : findIn K (.ref Cc) "__init__" = some (some (.ref fI))) (hf : typeIn K (.ref fI) = some (.type "function")) {args : List Value} {Q : Value → Shared → Prop}
  (h : ∀ x dx A' s', Zk A' n → Loc env s₀ X vs ((x, instObj Cc dx) :: (dx, emptyDict) :: l) s' →
   codeAny (model prog w) A' (.call (.ref fI) ⟨.ref x :: args, []⟩) (fun r s'' => match r with | .ok (.ret v) => v = .none ∧ Q (.ref x) s'' | _ => False) s') :
  wpAny (model prog w) A (call (.ref Cc) args) Q E s := by
 have X' := (W.ext C.ext).k
 refine wpAny_call ?_
 obtain ⟨hh, g, d, t, os⟩ := s
 have e1 : Ext [] [] (⟨hh, g, d, t, os⟩ : Shared) ⟨hh.push emptyDict, g, d, t, os⟩ := C.extK (tk := t) Zd
 have C1 := C.add e1 Zc C.big (Heap.get?_push_size _ rfl)
 have e2 : Ext [] [] (⟨hh.push emptyDict, g, d, t, os⟩ : Shared) ⟨(hh.push emptyDict).push (instObj Cc hh.objs.size), g, d, t, os⟩ := C1.extK (tk := t) Zd
 have C2 := C1.add e2 Zc C1.big (Heap.get?_push_size _ rfl)
 refine make_core (makes_of X' hm) (looks_findIn X' hi) (fun self => bind_fn X' self hf) (.inl rfl) ?_
 rw [Heap.size_push] at C2
 refine codeAny_mono (h (hh.objs.size + 1) hh.objs.size _ _ R.under C2) fun r s'' z => ?_
 rcases r with e | (v | _ | _ | _) <;> first | exact z | exact z.elim
noncomputable def Zg5 (left right : List Nat) : List Nat := if left = [] then right else 123 :: left ++ 125 :: right
theorem Zon (W : Wd K s.heap) {n : Nat} (R : Zk A n) {cd : ClassData} (Y : ClsS K 45 cd) (ht : takerIn K 45 (ofString "root") = some none) (hf : FnK K 42 (ofString "__init__") (ofString "_SelectorContext.__init__") (Z8 3 1) [] .none 41)
  {x dx : Addr} {v : Value} {RR : Result → Shared → Prop} (hx3 : 316 ≤ x) (hdx3 : 316 ≤ dx) (hne : x ≠ dx) (hx : s.heap.get? x = some (instObj 45 dx)) (hdx : s.heap.get? dx = some emptyDict)
  (h : ∀ t s', Ext [dx] [] s s' → s'.heap.get? dx = some (Zeo [ent w "root" t v] 1) → RR (.ok (.ret .none)) s') :
  codeAny (model prog w) A (.call (.ref 42) ⟨[.ref x, v], []⟩) RR s := by
 refine Zie W R hf [("self", .ref x), ("root", v)] (fun _ _ _ _ _ => BindsTo.of_eq rfl) fun env s₁ hE hO hc C => ?_
 have RD := R.le (m := n) (Nat.le.refl)
 replace C : Loc env s [dx] [("self", .ref x), ("root", v)] [(dx, emptyDict)] s₁ := C.take hO hdx hdx3 (fun _ q => by cases q) (fun _ q => by cases q)
 have hxk : ∀ {s'}, Ext [dx] [] s s' → s'.heap.get? x = some (instObj 45 dx) := fun {s'} e => e.keep _ _ (fun q => hne (List.mem_singleton.mp q)) (fun ht => absurd hx3 (Nat.not_le.mpr (Zz _ ht))) hx
 refine Zq ?_
 refine Zi ?_
 refine plainObj_wpAny_Assign_Attribute ?_ (by rfl)
 walk_at "N"
 walk_at "N"
 refine C.setA W (L' := fun o' => [(dx, o')]) (fun o' => J0) (hxk C.ext) rfl rfl rfl Y ht (od' := fun t => Zeo [ent w "root" t v] 1) rfl (fun t => rfl) (fun t => ⟨_, _, rfl, by simp⟩) ?_; clear C; intro t s' C
 refine wpAny_execs_nil ?_
 exact h t s' C.ext (C.led _ M0)
structure KT (K : Frag) (cd : ClassData) : Prop where
 ci : Zq0 K 45 cd
 mks : makesIn K 45 = true
 i : findIn K (.ref 45) "__init__" = some (some (.ref 42))
 ty : typeIn K (.ref 42) = some (.type "function")
 kp : keepIn K (.ref 45) = true
 f42 : FnK K 42 (ofString "__init__") (ofString "_SelectorContext.__init__") (Z8 3 1) [] .none 41
 f288 : FnK K 288 (ofString "_law_thing") (ofString "_law_thing") (top 24) [] .none 287
 tr : takerIn K 45 (ofString "root") = some none
 tt : takerIn K 45 (ofString "tag") = some none
 fr : findIn K (.ref 45) (ofString "root") = some none
 ft : findIn K (.ref 45) (ofString "tag") = some none
theorem Zi2 (W : Wd K s.heap) (G : KG K) (R : Zk A 10) {cd : ClassData} (T : KT K cd) {v : Value} {left right : List Nat} {t1 t2 : Tok} {Q : Value → Shared → Prop} (hl : left.length ≤ 100) (hr : right.length ≤ 100)
  (h : ∀ x dx ta tb tc s', s.heap.get? x = none → s.heap.get? dx = none → 316 ≤ x → 316 ≤ dx → x ≠ dx → Ext [] [] s s' → s'.heap.get? x = some (instObj 45 dx) → s'.heap.get? dx = some (Zeo [ent w "root" ta v, ent w "tag" tb (.str (mkS (Zg5 left right)) tc)] 2) → Q (.ref x) s') :
  wpAny (model prog w) A (call (.ref 288) [v, .str (mkS left) t1, .str (mkS right) t2]) Q E s := by
 refine Zw W R T.f288 [("name", v), ("left", .str (mkS left) t1), ("right", .str (mkS right) t2)] (fun _ _ _ _ _ => BindsTo.of_eq rfl) fun env s₁ hE hO hc C => ?_
 have RD := R.deeper (env := env)
 refine Zq ?_
 refine xca ?_
 refine Zf ?_
 walk_at "G"
 refine callWith_K (W.ext C.ext).k T.kp ?_
 refine Za ?_
 walk_at "N"
 refine spliced_none ?_
 refine ⟨(W.ext C.ext).k, ?_⟩
 refine C.make W RD T.mks T.i T.ty ?_; clear C; intro x dx A' s' R' C
 have hne : x ≠ dx := by
  have := C.nd
  simp at this
  exact this
 refine Zae (C.fresh (a := x) M0) fun g1 g2 g3 => ?_
 refine Zae (C.fresh (a := dx) M1) fun g4 g5 g6 => ?_
 refine Zon (W.ext C.ext) R' T.ci.toClsS T.tr T.f42 g2 g5 hne g3 g6 fun ta s' x1 hd => ⟨rfl, ?_⟩
 replace C := C.put x1 J1 hd
 refine C.st hO hc (by walk_at "K") ?_; clear C; intro s C
 refine Zi ?_
 refine plainObj_wpAny_Assign_Attribute ?_ (by rfl)
 refine wpAny_IfExp ?_
 refine Z0 ?_
 walk_at "N"
 refine C.cstr ?_; clear C; intro s t C
 refine ne_str (wpAny_truthy_bool ?_)
 have hce : (mkS left != ofString "") = !decide (left = []) := by
  by_cases h0 : left = []
  ·subst h0; decide
  ·have : mkS left ≠ ofString "" := fun q => h0 (Zc5.mp (q.trans (show ofString "" = mkS [] from rfl)))
   rw [decide_eq_false h0, bne_iff_ne.mpr this]; rfl
 rw [hce]
 by_cases hle : left = []
 ·rw [decide_eq_true hle]
  simp only [Bool.not_true, Bool.false_eq_true, if_false]
  walk_at "N"
  walk_at "N"
  refine C.setA W (L' := fun o' => [(x, instObj 45 dx), (dx, o')]) (fun o' => J1) (C.led _ M0) rfl rfl rfl T.ci.toClsS T.tt (od' := fun t => Zeo [ent w "root" ta v, ent w "tag" t (.str (mkS right) t2)] 2) rfl (fun t => rfl) (fun t => ⟨_, _, rfl, by simp⟩) ?_; clear C; intro tb s' C
  refine xcr ?_
  walk_at "N"
  have e : Zg5 left right = right := if_pos hle
  rw [← e] at C
  refine h x dx ta tb t2 s' g1 g4 g2 g5 hne C.ext (C.led _ M0) ?_
  rw [e] at C ⊢
  exact C.led (dx, _) M1
 ·rw [decide_eq_false hle]
  simp only [Bool.not_false, if_true]
  refine Zn ?_
  refine Zn ?_
  refine Zn ?_
  refine C.cstr ?_; clear C; intro s t C
  walk_at "N"
  refine C.sadd (a := [123]) (by simp; lia) ?_; clear C; intro s t C
  refine C.cstr ?_; clear C; intro s t C
  refine C.sadd (b := [125]) (by simp; exact kA ‹_› rfl) ?_; clear C; intro s t C
  walk_at "N"
  refine C.sadd (by simp; lia) ?_; clear C; intro s tc C
  have e : Zg5 left right = [123] ++ left ++ [125] ++ right := by
   unfold Zg5
   rw [if_neg hle]
   simp
  rw [← e]
  walk_at "N"
  refine C.setA W (L' := fun o' => [(x, instObj 45 dx), (dx, o')]) (fun o' => J1) (C.led _ M0) rfl rfl rfl T.ci.toClsS T.tt (od' := fun t => Zeo [ent w "root" ta v, ent w "tag" t (.str (mkS (Zg5 left right)) tc)] 2) rfl (fun t => rfl) (fun t => ⟨_, _, rfl, by simp⟩) ?_; clear C; intro tb s' C
  refine xcr ?_
  walk_at "N"
  exact h x dx ta tb tc s' g1 g4 g2 g5 hne C.ext (C.led _ M0) (C.led (dx, _) M1)
variable {R : GenEnd} {Y : Protocol} {n : Nat} {c : Code} {fs : List Frame} {K : Flow → Sem Fin} {H : Value → Sem Fin} {gd : Bool → Bool} {lv : List Value → List Value}
theorem Zmv {m : Sem Flow} (h : wpAny (model prog w) (A.over c fs) m (fun f s' => Seg (model prog w) A R Y n s₀ c (K f) fs s') (fun _ _ => False) s) :
  Seg (model prog w) A R Y n s₀ c (m.wrap K H gd lv) fs s := seg_wrap (wpAny_mono h (fun _ _ q => q) fun _ _ q => q.elim)
theorem Zqn {test : Expr} {body orelse : List Stmt} {pos : Pos}
  (h : wpAny (model prog w) (A.over c fs) (isTrue test env (eval test env)) (fun b s' => if b = true then Seg (model prog w) A R Y n s₀ c ((execs body env).wrap K H gd lv) fs s' else Seg (model prog w) A R Y n s₀ c ((execs orelse env).wrap K H gd lv) fs s') (fun _ _ => False) s) :
  Seg (model prog w) A R Y n s₀ c ((exec (.If test body orelse pos) env).wrap K H gd lv) fs s := by
 rw [PySem.exec_If]
 show Seg _ A R Y n s₀ c (.at pos fun _ => ((isTrue test env (eval test env) >>= fun b => if b = true then execs body env else execs orelse env)).wrap K H gd lv) fs s
 refine seg_at ?_
 rw [Sem.bind_eq_wrap', Sem.wrap_wrap]
 refine seg_wrap (wpAny_mono h (fun b s' h' => ?_) fun _ _ q => q.elim)
 cases b with
 | true => exact h'
 | false => exact h'
theorem Zpo {target iter : Expr} {body orelse : List Stmt} {pos : Pos}
  (h : wpAny (model prog w) (A.over c fs) (eval iter env) (fun x s₁ => wpAny (model prog w) (A.over c fs) (pyIter x) (fun it s₂ => ∀ p, Seg (model prog w) A R Y n s₀ (.forLoop target it body orelse env) ((model prog w).den (.forLoop target it body orelse env))
   (.ret (fun r => ((match r with | .ok f => (.pure f : Sem Flow) | .error e => .raise e).onRaise fun (x : Value) => do
    if (← field x 1) == Value.none then unsupported "frame.own-activation:exception-without-traceback"
    setFlight x env.frame).wrap K H gd lv) none (gd false) (lv []) c p [] :: fs) s₂) (fun _ _ => False) s₁) (fun _ _ => False) s)
  (hs : autoParam (∀ x, foldedSetIterable iter env x = Pure.pure x) aI) :
  Seg (model prog w) A R Y n s₀ c ((exec (.For target iter body orelse pos) env).wrap K H gd lv) fs s := by
 rw [PySem.exec_For]
 show Seg _ A R Y n s₀ c (.at pos fun _ => ((eval iter env >>= fun v => foldedSetIterable iter env v >>= fun x => standAt iter.pos >>= fun _ => holding [x] (pyIter x) >>= fun it => runOwn (.forLoop target it body orelse env) env)).wrap K H gd lv) fs s
 refine seg_at ?_
 simp only [hs, pure_bind]
 rw [Sem.bind_eq_wrap', Sem.wrap_wrap]
 refine seg_wrap (wpAny_mono h (fun x s₁ h₁ => ?_) fun _ _ q => q.elim)
 show Seg _ A R Y n s₀ c (.at iter.pos fun _ => (holding [x] (pyIter x) >>= fun it => runOwn (.forLoop target it body orelse env) env).wrap K H gd lv) fs s₁
 refine seg_at ?_
 rw [Sem.bind_eq_wrap', Sem.wrap_wrap]
 refine seg_wrap (wpAny_holding (wpAny_mono h₁ (fun it s₂ h₂ => ?_) fun _ _ q => q.elim))
 exact seg_call h₂
noncomputable def Zqf (target : Expr) (it : Value) (body orelse : List Stmt) (env : Env) : Flow → Sem Fin := fun f => match f with
 | .next | .cont => .pure (.again (.forLoop target it body orelse env))
 | .brk => .pure (.done .next)
 | .ret v => .pure (.done (.ret v))
noncomputable def Zqa (env : Env) : Value → Sem Fin := fun e => (do noteFrame e env; theTreesLotGoes e : Sem Unit).wrap (fun _ => .raise e) .raise id id
theorem Zfq {target : Expr} {it : Value} {body orelse : List Stmt} (ht : ∀ v, letOwnedTupleGo target it v = Pure.pure ())
  (h : wpAny (model prog w) (A.over (.forLoop target it body orelse env) fs) (pyNext it) (fun r s₁ => match r with
   | none => Seg (model prog w) A R Y n s₀ (.block orelse env) ((model prog w).den (.block orelse env)) fs s₁
   | some v => wpAny (model prog w) (A.over (.forLoop target it body orelse env) fs) (assign target env v) (fun _ s₂ =>
     Seg (model prog w) A R Y n s₀ (.forLoop target it body orelse env) ((execs body env).wrap (Zqf target it body orelse env) (Zqa env) id id) fs s₂) (fun _ _ => False) s₁) (fun _ _ => False) s) :
  Seg (model prog w) A R Y n s₀ (.forLoop target it body orelse env) ((model prog w).den (.forLoop target it body orelse env)) fs s := by
 show Seg _ A R Y n s₀ _ ((forTurn target it body orelse env).onRaise (fun x => do noteFrame x env; theTreesLotGoes x)) fs s
 unfold forTurn
 rw [Sem.onRaise_eq_wrap]
 show Seg _ A R Y n s₀ _ (.at target.pos fun _ => (((pyNext it).onRaise (fun _ => standAt { target.pos with line := 0 }) >>= fun r => match r with
  | none => again (.block orelse env)
  | some v => (do
   letOwnedTupleGo target it v
   assign target env v
   match ← execs body env with
   | .next | .cont => again (.forLoop target it body orelse env)
   | .brk => Pure.pure (.done .next)
   | .ret v => Pure.pure (.done (.ret v)) : Sem Fin)).wrap .pure (fun e => (do noteFrame e env; theTreesLotGoes e : Sem Unit).bind fun _ => .raise e) id id)) fs s
 refine seg_at ?_
 rw [Sem.bind_eq_wrap', Sem.wrap_wrap]
 refine seg_wrap (wpAny_onRaise (wpAny_mono h (fun r s₁ h₁ => ?_) fun _ _ q => q.elim))
 cases r with
 | none => exact seg_again rfl h₁
 | some v =>
  simp only [ht, pure_bind]
  rw [Sem.bind_eq_wrap', Sem.wrap_wrap]
  refine seg_wrap (wpAny_mono h₁ (fun _ s₂ h₂ => ?_) fun _ _ q => q.elim)
  rw [Sem.bind_eq_wrap', Sem.wrap_wrap]
  rw [Sem.wrap_congr (execs body env) _ _ (K' := Zqf target it body orelse env) (H' := Zqa env) (fun f => by cases f <;> rfl)
   (fun e => by first | exact Sem.bind_eq_wrap _ _ | rfl)]
  exact h₂
theorem Zkc {p : Pos} {g : Bool} {l : List Value} (h : Seg (model prog w) A R Y n s₀ c (K .next) fs s) :
  Seg (model prog w) A R Y n s₀ (.block [] env) ((model prog w).den (.block [] env))
   (.ret (fun r => ((match r with | .ok f => (.pure f : Sem Flow) | .error e => .raise e).onRaise fun (x : Value) => do
    if (← field x 1) == Value.none then unsupported "frame.own-activation:exception-without-traceback"
    setFlight x env.frame).wrap K H gd lv) none g l c p [] :: fs) s := by
 have e : (model prog w).den (.block [] env) = leafOf (.ok .next) := rfl
 rw [e]
 exact seg_leaf (.ok .next) h
variable {K : Frag}
theorem Loc.storeG (C : Loc env s₀ X vs l s) (hX : env.locals ∈ X) {x : String} {v : Value} {Q : Unit → Shared → Prop} (hk : env.kindOf (ofString x) = some .local)
  (h : ∀ s', Loc env s₀ X vs' l s' → Q () s')
  (hv : Za3 x v vs vs' := by first | exact Za3.of (by walk_at "T") (by kernel_rfl) | exact Za3.raw) :
  wpAny (model prog w) A (storeName env (ofString x) v) Q E s := by
 obtain ⟨ρ, hρ⟩ := C.fr.ns
 refine wpAny_storeName_local hk hρ (fun h' hn hs => h _ (Loc.sv (x := x) (v := v) (vs := vs) ?_ hv)) (by rw [C.fr.kind]; rfl)
 have e : Ext [env.locals] [] s { s with heap := h', toks := s.toks + 1 } := Ext.same C.fr.hiL (Zbh hρ) M0 hs (Zax hn fun o _ _ q _ => ⟨o, q⟩)
 have cells : ∀ y c v, env.cells.lookup y = some c → s.heap.IsCell c v → h'.IsCell c v := fun y c v hc hv => hv.sameBut hs (C.fr.cel y c hc).1
 refine ⟨C.ext.trans' e (fun p hp => .inl (List.mem_singleton.mp hp ▸ hX)) (fun _ h => nomatch h), ⟨⟨_, hn⟩, fun y c hc => ?_, C.fr.inj, C.fr.hiL, C.fr.nt, C.fr.kind, C.fr.gl, C.fr.bu⟩, fun p hp => ?_, fun p hp => ?_, C.own, C.off, C.nd, fun p hp fd q => e.cr _ _ (C.fc p hp fd q)⟩
 ·refine Zlp (C.fr.cel y c hc) fun a v b => ?_
  exact ⟨a, v, cells y c v hc b⟩
 ·rcases Zez hp with rfl | ⟨h1, h2⟩
  ·exact .inl ⟨hk, _, hn, by simp⟩
  ·rcases C.bd p h1 with ⟨a, ρ', b, c⟩ | ⟨c, a, b, d⟩
   ·refine .inl ⟨a, _, hn, ?_⟩
    rw [Zij b hρ] at c
    have : ofString p.1 ≠ ofString x := fun q => h2 (Zah.mp q)
    simpa [this] using c
   ·exact .inr ⟨c, a, b, cells _ _ _ b d⟩
 ·exact (hs.2 _ (C.off p hp).1).trans (C.led p hp)
noncomputable def Zcu (foot : List Addr) (g : Nat) (s s' : Shared) : Prop := ∃ Z H, Ext Z H s s' ∧ (∀ b ∈ foot, b ∉ Z) ∧ g ∉ H
theorem Zcu.refl {foot : List Addr} {g : Nat} {s : Shared} : Zcu foot g s s := ⟨[], [], Ext.refl _ _ _, fun _ _ h => (nomatch h), fun h => (nomatch h)⟩
theorem Zcu.trans {foot : List Addr} {g : Nat} {a b c : Shared} (x : Zcu foot g a b) (y : Zcu foot g b c) : Zcu foot g a c := by
 refine Zch x fun Z H x1 x2 x3 => ?_
 refine Zch y fun Z' H' y1 y2 y3 => ?_
 refine ⟨Z ++ Z', H ++ H', (x1.mono (fun p hp => List.mem_append_left _ hp) (fun p hp => List.mem_append_left _ hp)).trans (y1.mono (fun p hp => List.mem_append_right _ hp) (fun p hp => List.mem_append_right _ hp)), fun b hb h => ?_, fun h => ?_⟩
 ·rcases List.mem_append.mp h with h | h
  ·exact x2 b hb h
  ·exact y2 b hb h
 ·rcases List.mem_append.mp h with h | h
  ·exact x3 h
  ·exact y3 h
theorem Zcu.get {foot : List Addr} {g : Nat} {s s' : Shared} (x : Zcu foot g s s') {b : Addr} {o : Obj} (hb : b ∈ foot) (h3 : 316 ≤ b) (e : s.heap.get? b = some o) : s'.heap.get? b = some o := by
 refine Zch x fun Z H x1 x2 _ => ?_
 exact x1.keep _ _ (x2 b hb) (fun ht => absurd h3 (Nat.not_le.mpr (Zz _ ht))) e
theorem Zcu.gen {foot : List Addr} {g : Nat} {s s' : Shared} (x : Zcu foot g s s') {gs : GenState} (e : s.gens[g]? = some gs) : s'.gens[g]? = some gs := by
 refine Zch x fun Z H x1 _ x3 => ?_
 exact x1.gk _ _ x3 e
theorem Loc.rest (C : Loc env s₀ X vs l s) {foot : List Addr} {g : Nat} (x : Zcu foot g s s') (hL : env.locals ∈ foot) (hc : ∀ y c, env.cells.lookup y = some c → c ∈ foot) (hl : ∀ p ∈ l, p.1 ∈ foot ∧ p.1 ∈ X) : Loc env s' X vs l s' := by
 refine Zch x fun Z H x1 x2 _ => ?_
 have k : ∀ b o, b = env.locals ∨ (∃ x, env.cells.lookup x = some b) → s.heap.get? b = some o → s'.heap.get? b = some o := fun b o hb e => by
  refine x1.keep b o ?_ (C.fr.nt b hb) e
  rcases hb with q | ⟨y, q⟩
  ·exact x2 _ (q ▸ hL)
  ·exact x2 _ (hc _ _ q)
 refine ⟨Ext.refl _ _ _, C.fr.step k, fun p hp => (C.bd p hp).step k, fun p hp => ?_, fun p hp => ⟨.inl (hl p hp).2, (C.own p hp).2⟩, C.off, C.nd, fun p hp fd e => x1.cr _ _ (C.fc p hp fd e)⟩
 exact x1.keep _ _ (x2 _ (hl p hp).1) (fun ht => absurd (C.own p hp).2 (Nat.not_le.mpr (Zz _ ht))) (C.led p hp)
theorem Ext.but {X : List Addr} {G : List Nat} {s : Shared} {h' : Heap} {tk : Nat} {a : Addr} (ha : 316 ≤ a) (hn : ∀ o, s.heap.get? a = some o → Zs o) (hX : a ∈ X) (k : ∀ b o, b ≠ a → s.heap.get? b = some o → h'.get? b = some o) (hsz : 316 ≤ h'.objs.size) : Ext X G s { s with heap := h', toks := tk } :=
 ⟨fun b o h1 _ e => k b o (fun q => h1 (q ▸ hX)) e, fun b o h1 _ e => k b o (Nat.ne_of_lt (Nat.lt_of_lt_of_le h1 ha)) e, fun b o h1 e => ⟨o, k b o (fun q => h1 (q ▸ hX)) e⟩, fun t => t.but ha hn k, fun _ => hsz, rfl, rfl, Nat.le_refl _, fun _ _ _ e => e, id, fun cv q x => Zas x hn k⟩
structure Zbc (h : Heap) (xa da : Nat → Addr) (od : Nat → Obj) (tg : Nat → Value) (len : Nat) : Prop where
 x : ∀ i, i < len → h.get? (xa i) = some (instObj 45 (da i)) ∧ 316 ≤ xa i
 d : ∀ i, i < len → h.get? (da i) = some (od i) ∧ 316 ≤ da i
 t : ∀ i, i < len → lookIn (ofString "tag") (od i) = some (some (tg i)) ∧ handedIn (tg i) = true
noncomputable def Zci (p : Nat → Bool) (len i : Nat) : Nat := ((List.range' i (len - i)).filter p).length
theorem Zl0 {p : Nat → Bool} {len i : Nat} (h : i < len) : Zci p len i = (if p i then 1 else 0) + Zci p len (i + 1) := by
 unfold Zci
 obtain ⟨d, hd⟩ : ∃ d, len - i = d + 1 := ⟨len - i - 1, by exact nP h⟩
 rw [hd, List.range'_succ, List.filter_cons, show len - (i + 1) = d by exact nS hd]
 cases p i <;> simp [Nat.add_comm]
theorem Zna {p : Nat → Bool} {len : Nat} : Zci p len len = 0 := by simp [Zci]
noncomputable def Zo1 (us : List Value) (p : Nat → Bool) (foot : List Addr) (g Lg I : Nat) : Protocol := fun m s₀ v s' kap =>
 ∃ i, i < us.length ∧ p i = true ∧ Zci p us.length (i + 1) = m ∧ us[i]? = some v ∧ Ext [Lg, I] [] s₀ s' ∧ (∀ b ∈ [Lg, I], ∃ o, s'.heap.get? b = some o) ∧ ∀ s'', Zcu foot g s' s'' → kap (.send .none) s''
noncomputable def Znz (Lg I : Nat) : GenEnd := fun m s₀ r s₁ => r = .ok (.ret .none) ∧ (m = 0 ∧ Ext [Lg, I] [] s₀ s₁)
theorem Zdk {o : Obj} {a : Addr} {i : Nat} (x : Zjo o a i) : Zs o := by
 obtain ⟨_, h2⟩ := x
 refine ⟨fun vs q t e => ?_, fun fd e => ?_⟩
 ·rw [h2] at e; cases e
  intro x; cases x
 ·rw [h2] at e; cases e
theorem Zm6 {cd : ClassData} (T : KT K cd) {us : List Value} {p : Nat → Bool} {foot : List Addr} {g Lg I D : Nat} {xa da : Nat → Addr} {od : Nat → Obj} {tg : Nat → Value} {bs : List (String × Value)} (ex : List (Addr × Obj)) {test : Expr} {q1 q2 q3 q4 q5 q6 q7 q8 q9 : Pos} {fs : List Frame}
  (hLg : env.locals = Lg) (hI3 : 316 ≤ I) (hD3 : 316 ≤ D) (hDI : D ≠ I) (hDL : D ≠ Lg) (hus : ∀ i, i < us.length → us[i]? = some (.ref (xa i))) (hb : ∀ q ∈ bs, q.1 ≠ "elem" ∧ q.1 ≠ "el_tag")
  (hke : env.kindOf (ofString "elem") = some .local) (hkt : env.kindOf (ofString "el_tag") = some .local) (hco : env.scope.isCoroutine = false)
  (hxa : ∀ i, i < us.length → xa i ∉ [Lg, I] ∧ da i ∉ [Lg, I]) (hex : ∀ p ∈ ex, 316 ≤ p.1 ∧ p.1 ∉ [Lg, I] ∧ p.1 ∈ foot) (hfs : splitAtGen fs = none) (hfg : fs.any Frame.guarded = false)
  (hroom : (A.over (.forLoop (.Name (ofString "elem") q1) (.ref I) [.Assign [.Name (ofString "el_tag") q2] (.Attribute (.Name (ofString "elem") q3) (ofString "tag") q4) q5, .If test [.Expr (.Yield (some (.Name (ofString "elem") q6)) q7) q8] [] q9] [] env) fs).handled = none)
  (hft : Lg ∈ foot ∧ I ∈ foot ∧ D ∈ foot ∧ (∀ i, i < us.length → xa i ∈ foot ∧ da i ∈ foot) ∧ ∀ y c, env.cells.lookup y = some c → c ∈ foot)
  (htest : ∀ i s₀ s vs, i < us.length → Loc env s₀ [Lg, I] vs [] s → Wd K s₀.heap → (∀ p ∈ ex, s.heap.get? p.1 = some p.2) → (∀ q ∈ bs, q ∈ vs) → ("el_tag", tg i) ∈ vs →
   wpAny (model prog w) (A.over (.forLoop (.Name (ofString "elem") q1) (.ref I) [.Assign [.Name (ofString "el_tag") q2] (.Attribute (.Name (ofString "elem") q3) (ofString "tag") q4) q5, .If test [.Expr (.Yield (some (.Name (ofString "elem") q6)) q7) q8] [] q9] [] env) fs)
    (isTrue test env (eval test env)) (fun b s' => b = p i ∧ Ext [] [] s s') (fun _ _ => False) s)
  (hend : ∀ s₀ s, Ext [Lg, I] [] s₀ s → Seg (model prog w) A (Znz Lg I) (Zo1 us p foot g Lg I) 0 s₀ (.block [] env) ((model prog w).den (.block [] env)) fs s) :
  ∀ k i, k + i = us.length → ∀ s₀ s oI, Loc env s₀ [Lg, I] bs [(I, oI)] s → Zjo oI D i → Wd K s₀.heap → Zbc s₀.heap xa da od tg us.length → s₀.heap.IsList D us.toArray → (∀ p ∈ ex, s₀.heap.get? p.1 = some p.2) →
   Seg (model prog w) A (Znz Lg I) (Zo1 us p foot g Lg I) (Zci p us.length i) s₀ (.forLoop (.Name (ofString "elem") q1) (.ref I) [.Assign [.Name (ofString "el_tag") q2] (.Attribute (.Name (ofString "elem") q3) (ofString "tag") q4) q5, .If test [.Expr (.Yield (some (.Name (ofString "elem") q6)) q7) q8] [] q9] [] env)
    ((model prog w).den (.forLoop (.Name (ofString "elem") q1) (.ref I) [.Assign [.Name (ofString "el_tag") q2] (.Attribute (.Name (ofString "elem") q3) (ofString "tag") q4) q5, .If test [.Expr (.Yield (some (.Name (ofString "elem") q6)) q7) q8] [] q9] [] env)) fs s := by
 have keep : ∀ {s₀ s : Shared}, Ext [Lg, I] [] s₀ s → ∀ {b o}, b ∉ [Lg, I] → 316 ≤ b → s₀.heap.get? b = some o → s.heap.get? b = some o := fun x b o h1 h2 e => x.keep _ _ h1 (fun ht => absurd h2 (Nat.not_le.mpr (Zz _ ht))) e
 have klist : ∀ {s₀ s : Shared}, Ext [Lg, I] [] s₀ s → s₀.heap.IsList D us.toArray → s.heap.IsList D us.toArray := fun x hl => by
  refine Zo hl fun o e r => ?_
  exact ⟨o, keep x (by simp [hDI, hDL]) hD3 e, r⟩
 intro k
 induction k with
 | zero =>
  intro i hi s₀ s oI C hO W hT hl hE
  have : i = us.length := by lia
  subst this
  rw [Zna]
  refine Zfq (fun v => rfl) ?_
  refine (Zbl hroom D us).done I s _ _ ⟨oI, C.led _ M0, hO⟩ (klist C.ext hl) fun h' tk hx => ?_
  have e := C.led _ M0
  have x1 : Ext [Lg, I] [] s { s with heap := h', toks := tk } := Ext.but hI3 (Z5 e ((Zbl (prog := prog) (w := w) (A := A.over (.block [] env) fs) hroom D us).nc _ _ hO)) M1 hx
   (by
    refine Za4 C.fr.ns fun ρ o es ep e1 _ => ?_
    exact Nat.le_trans C.fr.hiL (Nat.le_of_lt (Heap.lt_size (hx _ _ (fun q => (C.off _ M0).1 q.symm) e1))))
  exact hend s₀ _ (C.ext.trans x1)
 | succ k ih =>
  intro i hi s₀ s oI C hO W hT hl hE
  have hlt : i < us.length := by lia
  refine Zfq (fun v => rfl) ?_
  refine (Zbl hroom D us).item i I s _ _ hlt ⟨oI, C.led _ M0, hO⟩ (klist C.ext hl) fun u h' tk hu hit hs => ?_
  refine Zo hit fun oJ j1 j2 => ?_
  have hu2 : us[i]? = some u := hu
  rw [hus i hlt] at hu2
  cases hu2
  have x1 : Ext [I] [] s { s with heap := h', toks := tk } := Ext.same hI3 (Z5 (C.led _ M0) (Zdk hO)) M0 hs ⟨oJ, j1⟩
  replace C := C.put x1 J0 j1 (Zdk j2).2
  refine wpAny_assign_Name (C.storeG (by rw [hLg]; exact M0) hke (fun s C => ?_) Za3.raw)
  refine seg_execs_cons (Zmv ?_)
  refine Zmz ?_
  refine Zaq ?_
  refine C.name Zab ?_
  obtain ⟨hx1, hx2⟩ := hT.x i hlt
  obtain ⟨hd1, hd2⟩ := hT.d i hlt
  obtain ⟨ht1, ht2⟩ := hT.t i hlt
  refine C.getA W (keep C.ext (hxa i hlt).1 hx2 hx1) (keep C.ext (hxa i hlt).2 hd2 hd1) rfl rfl rfl T.ci T.ft ht1 ht2 ?_; clear C; intro s C
  refine C.storeG (by rw [hLg]; exact M0) hkt (fun s C => ?_) Za3.raw
  refine seg_execs_cons (Zqn ?_)
  refine wpAny_mono (htest i s₀ s _ hlt (C.sub (List.nil_sublist _)) W (fun p hp => keep C.ext (hex p hp).2.1 (hex p hp).1 (hE p hp)) (fun q hq => Zt (Zt hq (hb q hq).1) (hb q hq).2) Zab) (fun b s' h' => ?_) fun _ _ q => q.elim
  obtain ⟨rfl, x2⟩ := h'
  replace C := C.pure x2
  have C0 : Loc env s₀ [Lg, I] bs [(I, oJ)] s' := C.vsub fun q hq => Zt (Zt hq (hb q hq).1) (hb q hq).2
  rw [Zl0 hlt]
  cases hp : p i with
  | false =>
   simp only [Bool.false_eq_true, if_false, Nat.zero_add]
   refine seg_execs_nil (seg_execs_nil (seg_again rfl ?_))
   exact ih (i + 1) (by lia) s₀ s' oJ C0 j2 W hT hl hE
  | true =>
   simp only [if_true]
   rw [Nat.add_comm]
   refine seg_execs_cons (seg_Expr_Yield hfs rfl hfg ?_ hco C.inter)
   refine C.name (Zt Zab (show "elem" ≠ "el_tag" by decide)) ?_
   intro kap hkap
   refine ⟨i, hlt, hp, rfl, hus i hlt, C.ext, (fun b hb => by
    rcases List.mem_cons.mp hb with rfl | hb
    ·refine Za4 C.fr.ns fun ρ o _ _ e _ => ?_
     exact ⟨o, hLg ▸ e⟩
    ·rw [List.mem_singleton.mp hb]; exact ⟨_, C.led _ M0⟩), fun s'' hst => hkap .none s'' ?_⟩
   refine seg_execs_nil (seg_execs_nil (seg_again rfl ?_))
   have Cr : Loc env s'' [Lg, I] bs [(I, oJ)] s'' := C0.rest hst (by rw [hLg]; exact hft.1) hft.2.2.2.2 (fun q hq => by rw [List.mem_singleton.mp hq]; exact ⟨hft.2.1, M1⟩)
   have W'' : Wd K s''.heap := by
    refine Z9 hst fun Z H y1 _ => ?_
    exact (W.ext C0.ext).ext y1
   refine ih (i + 1) (by lia) s'' s'' oJ Cr j2 W'' ⟨fun j hj => ⟨hst.get (hft.2.2.2.1 j hj).1 (hT.x j hj).2 (keep C0.ext (hxa j hj).1 (hT.x j hj).2 (hT.x j hj).1), (hT.x j hj).2⟩, fun j hj => ⟨hst.get (hft.2.2.2.1 j hj).2 (hT.d j hj).2 (keep C0.ext (hxa j hj).2 (hT.d j hj).2 (hT.d j hj).1), (hT.d j hj).2⟩, hT.t⟩ ?_ fun p hp => hst.get (hex p hp).2.2 (hex p hp).1 (keep C0.ext (hex p hp).2.1 (hex p hp).1 (hE p hp))
   refine Zo (klist C0.ext hl) fun o e r => ?_
   exact ⟨o, hst.get hft.2.2.1 hD3 e, r⟩
theorem Zfz {a : Addr} {g n : Nat} {gs : GenState} {P : Nat → Shared → Shared → Prop} {Y : Protocol} {Q : Option Value → Shared → Prop} (hh : A.handled = none)
  (hl : s.heap.NoLimit) (hroom : A.depth < recursionLimit) (hg : s.heap.IsGen a g) (hgs : s.gens[g]? = some gs)
  (hgo : gs.Goes (model prog w) A.in1 (fun n s₀ r s₁ => r = .ok (.ret .none) ∧ P n s₀ s₁) Y n (.send .none) (s.setGen g .running))
  (hY : ∀ v s₁ gs', gs'.bare = true → Y (n - 1) (s.setGen g .running) v s₁ (fun r' s'' => match n with
    | 0 => False
    | m + 1 => gs'.Goes (model prog w) A.in1 (fun n s₀ r s₁ => r = .ok (.ret .none) ∧ P n s₀ s₁) Y m r' s'') → Q (some v) (s₁.setGen g gs'))
  (hP : ∀ s₁, P n (s.setGen g .running) s₁ → ∀ h', (∀ b o, s₁.heap.get? b = some o → h'.get? b = some o) → Q none { s₁.setGen g .finished with heap := h' }) :
  wpAny (model prog w) A (pyNext (.ref a)) Q E s := by
 unfold pyNext
 refine wpAny_bind (wpAny_attempt (wpAny_callSpecial?_slot (name := ofString "__next__") hg.typeIs slot_gen_next (wpAny_call_entry slot_gen_next hg.typeIs entry_gen_next ?_ (args_gen_next _))))
 show wpAny _ A.in1 (Builtin.Generator.genWake (.ref a) (.send .none)) _ _ s
 unfold Builtin.Generator.genWake
 refine wpAny_bind (wpAny_holding (wpAny_genNumber hg (wpAny_bind (wpAny_genState hgs ?_))))
 cases gs with
 | running => exact hgo.elim
 | finished => exact hgo.elim
 | _ =>
  refine wpAny_bind (wpAny_roomToWake hl hroom ?_)
  refine wpAny_resumeQ hgs hgo (fun x s₁ hx => ?_) (fun v s₁ gs' hb hv => ?_)
  ·obtain ⟨rfl, hp⟩ := hx
   show wpAny _ A.in1 (newExc (.type "StopIteration") [] >>= _) _ _ _
   refine wpAny_bind ?_
   simp only [newExc, newTuple]
   refine wpAny_bind (wpAny_newObj_type ?_ (by size_fits))
   refine wpAny_bind (m := firstArgMember _ _) (wpAny_of_eq (a := Value.none) (by first | rfl | (simp only [firstArgMember]; rfl)) ?_)
   refine wpAny_newObj_type ?_ (by size_fits)
   simp only [raiseNew]
   refine wpAny_bind (wpAny_bind (wpAny_handled ?_))
   rw [show A.in1.handled = none from hh]
   refine wpAny_throw ?_
   refine wpAny_bind (wpAny_isInstance (T := "StopIteration") (b := true) ⟨_, Heap.get?_push_size _ rfl, rfl⟩ isSubtype_stop ?_)
   exact wpAny_pure (hP s₁ hp _ fun b o hb => Heap.get?_push_of_some _ (Heap.get?_push_of_some _ hb))
  ·exact wpAny_pure ⟨v, rfl, wpAny_pure (hY v s₁ gs' hb hv)⟩
structure Zg1 (prog : Program) (w : World) (A : Around) (a : Addr) (g n : Nat) (P : Nat → Value → Prop) (St : Nat → List Addr → List Addr → Shared → Prop) : Prop where
 item : ∀ i Y F (s : Shared) (Q : Option Value → Shared → Prop) (E : Value → Shared → Prop), i < n → St i Y F s →
  (∀ v Y' F' s', P i v → Ext Y' [g] s s' → St (i + 1) Y' F' s' → (∀ y ∈ Y', y ∈ Y ∨ s.heap.get? y = none) → (∀ y ∈ F', y ∈ F ∨ s.heap.get? y = none) → Q (some v) s') → wpAny (model prog w) A (pyNext (.ref a)) Q E s
 done : ∀ Y F (s : Shared) (Q : Option Value → Shared → Prop) (E : Value → Shared → Prop), St n Y F s →
  (∀ Y' s', Ext Y' [g] s s' → (∀ y ∈ Y', y ∈ Y ∨ s.heap.get? y = none) → Q none s') → wpAny (model prog w) A (pyNext (.ref a)) Q E s
 stab : ∀ i Y F s s', St i Y F s → Zcu F g s s' → St i Y F s'
 sub : ∀ i Y F s, St i Y F s → ∀ y ∈ Y, y ∈ F
 live : ∀ i Y F s, St i Y F s → ∀ y ∈ F, ∃ o, s.heap.get? y = some o
 self : ∀ i Y F (s : Shared) (Q : Value → Shared → Prop) (E : Value → Shared → Prop), St i Y F s → Q (.ref a) s → wpAny (model prog w) A (pyIter (.ref a)) Q E s
 typ : ∀ i Y F s, St i Y F s → s.TypeIs (.ref a) "generator"
theorem Zcp {s : Shared} {g k : Nat} {x : GenState} (h : k ≠ g) : (s.setGen g x).gens[k]? = s.gens[k]? := by
 simp [Shared.setGen, Ne.symm h]
theorem Zcj {s : Shared} {g : Nat} {x : GenState} (h : AllBare s.gens) (hx : x.bare = true) : AllBare (s.setGen g x).gens := by
 intro y hy
 obtain ⟨i, hi, rfl⟩ := Array.mem_iff_getElem.mp hy
 have e : (s.setGen g x).gens[i]? = some (s.setGen g x).gens[i] := Array.getElem?_eq_getElem hi
 generalize (s.setGen g x).gens[i] = y at e
 by_cases q : i = g
 ·subst q
  obtain ⟨h1, h2⟩ := Array.getElem?_eq_some_iff.mp e
  have h1 : i < s.gens.size := by simpa [Shared.setGen] using h1
  have : s.gens[i]? = some s.gens[i] := Array.getElem?_eq_getElem h1
  rw [setGen_self this] at e
  cases e; exact hx
 ·rw [Zcp q] at e
  obtain ⟨h1, h2⟩ := Array.getElem?_eq_some_iff.mp e
  exact h2 ▸ h _ (Array.getElem_mem _)
theorem Ext.setG {X : List Addr} {G : List Nat} {s : Shared} {g : Nat} {x : GenState} (hg : g ∈ G) (hx : x.bare = true) : Ext X G s (s.setGen g x) :=
 ⟨fun _ _ _ _ e => e, fun _ _ _ _ e => e, fun _ o _ e => ⟨o, e⟩, id, id, rfl, rfl, by simp [Shared.setGen], fun k gs hk e => (Zcp (fun q => hk (by rw [q]; exact hg))).trans e, fun h => Zcj h hx, fun _ _ y => y⟩
theorem Zl9 {p : Nat → Bool} {len i k : Nat} (hk : k < len) (hp : p k = true) (h : Zci p len (k + 1) + i + 1 = Zci p len 0) : ((List.range len).filter p)[i]? = some k := by
 unfold Zci at h
 rw [Nat.sub_zero] at h
 have e : List.range' 0 len = List.range' 0 k ++ k :: List.range' (k + 1) (len - (k + 1)) := by
  have e1 : len = k + (len - (k + 1) + 1) := by grind
  conv => lhs; rw [e1]
  rw [← List.range'_append_1, List.range'_succ, Nat.zero_add]
 rw [List.range_eq_range', e, List.filter_append, List.filter_cons, if_pos hp]
 rw [e, List.filter_append, List.filter_cons, if_pos hp, List.length_append, List.length_cons] at h
 have h2 : ((List.range' 0 k).filter p).length = i := by lia
 rw [List.getElem?_append_right (by simp +arith [*]), h2, Nat.sub_self]
 rfl
noncomputable def Zgl (prog : Program) (w : World) (A : Around) (K : Frag) (us : List Value) (p : Nat → Bool) (a g Lg : Addr) (F0 : List Addr) (i : Nat) (Y F : List Addr) (s : Shared) : Prop :=
 s.heap.IsGen a g ∧ a ∈ F0 ∧ Lg ∈ F0 ∧ a ≠ Lg ∧ 316 ≤ a ∧ Wd K s.heap ∧ (∀ y ∈ F, ∃ o, s.heap.get? y = some o) ∧ (∀ y ∈ F, y ∉ Zbn) ∧
 ((i = 0 ∧ Y = [Lg] ∧ F = F0 ∧ ∃ gs, s.gens[g]? = some gs ∧ ∀ s'', Zcu F0 g s s'' → gs.Goes (model prog w) A.in1 (Znz Lg s''.heap.objs.size) (Zo1 us p (s''.heap.objs.size :: F0) g Lg s''.heap.objs.size) (Zci p us.length 0) (.send .none) (s''.setGen g .running)) ∨
 (∃ I, Y = [Lg, I] ∧ F = I :: F0 ∧ a ≠ I ∧ ∃ gs, s.gens[g]? = some gs ∧ ∀ s'', Zcu (I :: F0) g s s'' → gs.Goes (model prog w) A.in1 (Znz Lg I) (Zo1 us p (I :: F0) g Lg I) (Zci p us.length 0 - i) (.send .none) (s''.setGen g .running)))
theorem Zcu.get' {foot : List Addr} {g : Nat} {s s' : Shared} (x : Zcu foot g s s') {b : Addr} {o : Obj} (hb : b ∈ foot) (ht : b ∉ Zbn) (e : s.heap.get? b = some o) : s'.heap.get? b = some o := by
 refine Zch x fun Z H x1 x2 _ => ?_
 exact x1.keep _ _ (x2 b hb) ht e
variable {us : List Value} {p : Nat → Bool} {a g Lg : Addr} {F0 : List Addr}
theorem Zgl.now {i : Nat} {Y F : List Addr} {s : Shared} (h : Zgl prog w A K us p a g Lg F0 i Y F s) : ∃ I gs, (∀ y ∈ [Lg, I], y ∈ Y ∨ s.heap.get? y = none) ∧ (∀ y ∈ I :: F0, y ∈ F ∨ s.heap.get? y = none) ∧ (∀ y ∈ F0, y ∈ F) ∧ I ∉ Zbn ∧ a ≠ I ∧ s.gens[g]? = some gs ∧
  gs.Goes (model prog w) A.in1 (Znz Lg I) (Zo1 us p (I :: F0) g Lg I) (Zci p us.length 0 - i) (.send .none) (s.setGen g .running) := by
 obtain ⟨hg, haF, hLF, haL, ha3, W, hlive, h3, h | h⟩ := h
 ·obtain ⟨rfl, rfl, rfl, gs, hgs, hgo⟩ := h
  refine ⟨s.heap.objs.size, gs, fun y hy => ?_, fun y hy => ?_, fun _ h => h, fun ht => absurd W.big (Nat.not_le.mpr (Zz _ ht)), fun e => ?_, hgs, hgo s Zcu.refl⟩
  ·rcases List.mem_cons.mp hy with rfl | hy
   ·exact .inl M0
   ·rw [List.mem_singleton.mp hy]; exact .inr Zc
  ·rcases List.mem_cons.mp hy with rfl | hy
   ·exact .inr Zc
   ·exact .inl hy
  ·obtain ⟨o, e'⟩ := hlive a haF
   rw [e, Zc] at e'; cases e'
 ·obtain ⟨I, rfl, rfl, hne, gs, hgs, hgo⟩ := h
  exact ⟨I, gs, fun y hy => .inl hy, fun y hy => .inl hy, fun y hy => .tail _ hy, h3 _ M0, hne, hgs, hgo s Zcu.refl⟩
theorem IsGen.at {h h' : Heap} {a g : Nat} (x : h.IsGen a g) (k : ∀ o, h.get? a = some o → h'.get? a = some o) : h'.IsGen a g :=
 Zax x fun o nm qn ho r => ⟨o, nm, qn, k _ ho, r⟩
theorem Zpz (hh : A.handled = none) (hroom : A.depth < recursionLimit) : Zg1 prog w A a g (Zci p us.length 0) (fun i v => ∃ k, k < us.length ∧ ((List.range us.length).filter p)[i]? = some k ∧ us[k]? = some v) (Zgl prog w A K us p a g Lg F0) where
 item := by
  intro i Y F s Q E hi hst hQ
  refine Zeh hst.now fun I gs hY hF hsub hI3 haI hgs hgo => ?_
  refine Zca hst fun hg haF hLF haL ha3 W hlive h3 _ => ?_
  refine Zfz (n := Zci p us.length 0 - i) (P := fun m s₀ s₁ => m = 0 ∧ Ext [Lg, I] [] s₀ s₁) hh W.lim hroom hg hgs hgo (fun v s₁ gs' hb hv => ?_) (fun s₁ hp => absurd hp.1 (by grind))
  obtain ⟨m, hm⟩ : ∃ m, Zci p us.length 0 - i = m + 1 := ⟨Zci p us.length 0 - i - 1, by exact nP hi⟩
  rw [hm] at hv
  refine Zhp hv fun k hk hp hrem hus x hal hkap => ?_
  rw [Nat.add_sub_cancel] at hrem
  have x1 : Ext [Lg, I] [g] s s₁ := (Ext.setG M0 rfl).trans (x.mono (fun _ h => h) (fun _ h => nomatch h))
  have x2 : Ext [Lg, I] [g] s₁ (s₁.setGen g gs') := Ext.setG M0 hb
  have run : s₁.gens[g]? = some .running := x.gk _ _ (fun h => nomatch h) (setGen_self hgs)
  refine hQ v [Lg, I] (I :: F0) _ ⟨k, hk, Zl9 hk hp (by grind), hus⟩ (x1.trans x2) ?_ hY hF
  refine ⟨IsGen.at hg fun o e => x1.keep _ _ (by simp [haL, haI]) (h3 _ (hsub _ haF)) e, haF, hLF, haL, ha3, W.ext (x1.trans x2), fun y hy => ?_, fun y hy => ?_, .inr ⟨I, rfl, rfl, haI, gs', setGen_self run, fun s'' hs => ?_⟩⟩
  ·by_cases q : y ∈ [Lg, I]
   ·exact hal y q
   ·have hyF : y ∈ F := by
     rcases List.mem_cons.mp hy with rfl | hy
     ·exact absurd (by simp) q
     ·exact hsub _ hy
    obtain ⟨o, e⟩ := hlive y hyF
    exact x1.al y o q e
  ·rcases List.mem_cons.mp hy with rfl | hy
   ·exact hI3
   ·exact h3 _ (hsub _ hy)
  ·have := hkap (s''.setGen g .running) ?_
   ·have e : Zci p us.length 0 - (i + 1) = m := by exact nS hm
    rw [e]
    exact this
   ·refine Zch hs fun Z H e hz hgH => ?_
    refine ⟨Z, H, ⟨e.keep, e.lowk, e.al, e.tab, e.sz, e.dr, e.os, Nat.le_trans (by simpa [Shared.setGen] using e.gsz) (by simp [Shared.setGen]), fun k gs hk q => ?_, fun q => Zcj (e.gb (Zcj q hb)) rfl, e.cr⟩, hz, hgH⟩
    by_cases hkg : k = g
    ·subst hkg
     rw [run] at q
     cases q
     exact setGen_self (e.gk _ _ hk (setGen_self run))
    ·rw [Zcp hkg]
     exact e.gk _ _ hk ((Zcp hkg).trans q)
 done := by
  intro Y F s Q E hst hQ
  refine Zeh hst.now fun I gs hY hF hsub hI3 haI hgs hgo => ?_
  refine Zca hst fun hg haF hLF haL ha3 W hlive h3 _ => ?_
  rw [Nat.sub_self] at hgo
  refine Zfz (n := 0) (P := fun m s₀ s₁ => m = 0 ∧ Ext [Lg, I] [] s₀ s₁) hh W.lim hroom hg hgs hgo (fun v s₁ gs' hb hv => ?_) (fun s₁ hp h' hk => ?_)
  ·refine Zhp hv fun k _ _ _ _ _ _ hkap => ?_
   exact (hkap _ Zcu.refl).elim
  ·have x1 : Ext [Lg, I] [g] s s₁ := (Ext.setG M0 rfl).trans (hp.2.mono (fun _ h => h) (fun _ h => nomatch h))
   have x2 : Ext [Lg, I] [g] s₁ (s₁.setGen g .finished) := Ext.setG M0 rfl
   have W' := W.ext (x1.trans x2)
   have x3 : Ext [Lg, I] [g] (s₁.setGen g .finished) { s₁.setGen g .finished with heap := h' } := Ext.keeps (tk := (s₁.setGen g .finished).toks) hk (fun _ => by
    obtain ⟨o, e⟩ := hlive _ (hsub _ haF)
    exact Nat.le_trans ha3 (Nat.le_of_lt (Heap.lt_size (hk _ _ (x1.keep _ _ (by simp [haL, haI]) (h3 _ (hsub _ haF)) e)))))
   exact hQ [Lg, I] _ ((x1.trans x2).trans x3) hY
 stab := by
  intro i Y F s s' hst hs
  have hst0 := hst
  refine Zca hst fun hg haF hLF haL ha3 W hlive h3 hor => ?_
  have hsub : ∀ y ∈ F0, y ∈ F := Zeh hst0.now fun _ _ _ _ h _ _ _ _ => h
  refine ⟨IsGen.at hg fun o e => hs.get' (hsub _ haF) (h3 _ (hsub _ haF)) e, haF, hLF, haL, ha3, Z9 hs fun _ _ e _ => W.ext e, fun y hy => (hlive y hy).elim fun o e => ⟨o, hs.get' hy (h3 y hy) e⟩, h3, ?_⟩
  rcases hor with ⟨h1, h2, rfl, gs, h4, h5⟩ | ⟨I, h1, rfl, h2, gs, h4, h5⟩
  ·exact .inl ⟨h1, h2, rfl, gs, hs.gen h4, fun s'' h => h5 s'' (hs.trans h)⟩
  ·exact .inr ⟨I, h1, rfl, h2, gs, hs.gen h4, fun s'' h => h5 s'' (hs.trans h)⟩
 sub := by
  intro i Y F s h y hy
  refine Zca h fun hg haF hLF haL ha3 W hlive h3 hor => ?_
  rcases hor with ⟨rfl, rfl, rfl, -⟩ | ⟨I, rfl, rfl, -⟩
  ·rw [List.mem_singleton.mp hy]; exact hLF
  ·rcases List.mem_cons.mp hy with rfl | hy
   ·exact .tail _ hLF
   ·rw [List.mem_singleton.mp hy]; exact M0
 live := fun i Y F s h => Zca h fun _ _ _ _ _ _ h _ _ => h
 self := fun i Y F s Q E h q => wpAny_pyIter_gen (And.left h) q
 typ := fun i Y F s h => (And.left h).typeIs
noncomputable def Zd7 (env : Env) (s₀ : Shared) (l : List (Addr × Obj)) (y : Addr) : Prop := s₀.heap.get? y = none ∧ y ≠ env.locals ∧ (∀ x, env.cells.lookup x ≠ some y) ∧ y ∉ l.map (·.1)
variable {a g : Nat} {P : Nat → Value → Prop} {St : Nat → List Addr → List Addr → Shared → Prop} {Y F : List Addr}
theorem Loc.offNew (C : Loc env s₀ [] vs l s) {y : Addr} (h : s.heap.get? y = none) : Zd7 env s₀ l y := by
 refine ⟨C.noneAt h (fun h => nomatch h), fun e => ?_, fun x e => ?_, fun hm => ?_⟩
 ·refine Za4 C.fr.ns fun ρ o _ _ e' _ => ?_
  rw [← e, h] at e'; cases e'
 ·refine Zcs (C.fr.cel x _ e) fun _ v o e' _ => ?_
  rw [h] at e'; cases e'
 ·refine Zo (List.mem_map.mp hm) fun p hp e => ?_
  have e : p.1 = y := e
  have := C.led p hp
  rw [e, h] at this; cases this
theorem Zd7.led {y : Addr} (h : Zd7 env s₀ l y) (hl : ∀ k ∈ l'.map (·.1), k ∈ l.map (·.1) ∨ k ≠ y) : Zd7 env s₀ l' y :=
 ⟨h.1, h.2.1, h.2.2.1, fun hm => (hl _ hm).elim h.2.2.2 (fun q => q rfl)⟩
theorem Loc.gstep {s' : Shared} (C : Loc env s₀ [] vs l s) (hY : ∀ y ∈ Y, Zd7 env s₀ l y) (hg : s₀.gens.size ≤ g) {Y' : List Addr} (x : Ext Y' [g] s s') (hY' : ∀ y ∈ Y', y ∈ Y ∨ s.heap.get? y = none) : Loc env s₀ [] vs l s' ∧ ∀ y ∈ Y', Zd7 env s₀ l y := by
 have h : ∀ y ∈ Y', Zd7 env s₀ l y := fun y hy => (hY' y hy).elim (hY y) fun q => C.offNew q
 exact ⟨C.step x (fun p hp => ⟨.inr (h p hp).1, (h p hp).2⟩) (fun k hk => List.mem_singleton.mp hk ▸ hg), h⟩
theorem Zbr {s s' : Shared} {Z : List Addr} (x : Ext Z [] s s') (h : ∀ y ∈ F, y ∉ Z) : Zcu F g s s' := ⟨Z, [], x, h, fun h => nomatch h⟩
theorem Loc.updP (C : Loc env s₀ X vs l s) {D : Addr} {o : Obj} {us us' : List Value} {L' : Obj → List (Addr × Obj)} (Pt : ∀ o', Put D o o' l (L' o')) (hD : Zce o us) {f : Array Value → Array Value} (hf : f us.toArray = us'.toArray) {Q : Unit → Shared → Prop} (hsz : us.length < 1000000) (hsz' : us'.length < 1000000)
  (h : ∀ o' s', Zce o' us' → Ext [D] [] s s' → Loc env s₀ X vs (L' o') s' → Q () s') : wpAny (model prog w) A (updateSeq D f) Q E s := by
 have hm := (Pt o).mem
 have hDl := hD.lo
 obtain ⟨n, rfl⟩ := hD
 refine wpAny_updateSeq (C.led _ hm) rfl ?_ (by simp [sizeLine_eq]; exact kD ‹_› rfl) (by rw [hf]; simp [sizeLine_eq]; exact kD ‹_› rfl)
 have e := IsL.update (show IsL s.heap D us.toArray n from C.led _ hm) f
 unfold IsL at e
 rw [hf] at e
 have x : Ext [D] [] s { s with heap := s.heap.update D (Obj.mapSeq f) } := Ext.same (tk := s.toks) (C.own _ hm).2 (Z5 (C.led _ hm) (Zau hDl)) M0 (Heap.SameBut.update ..) ⟨_, e⟩
 exact h _ _ ⟨_, rfl⟩ x (C.put x (Pt _) e)
theorem Zpm (IG : Zg1 prog w A.in1 a g n P St) (hn : n ≤ 1000) (hgs : s₀.gens.size ≤ g) {S : Addr} {res : Value} {R : Result → Shared → Prop}
  (fin : ∀ rs oD s', Zce oD rs → rs.length = n → (∀ i r, rs[i]? = some r → P i r) → Loc env s₀ [] vs ((S, oD) :: l) s' → R (.ok (.ret res)) s') :
  ∀ k i s Y F rs oD, n - i = k → i ≤ n → St i Y F s → Loc env s₀ [] vs ((S, oD) :: l) s → Zce oD rs → S ∉ F → (∀ y ∈ Y, Zd7 env s₀ ((S, oD) :: l) y) → rs.length = i → (∀ i r, rs[i]? = some r → P i r) →
   codeAny (model prog w) A (.builtin "list.extend.loop" ⟨[.ref S, .ref a, res], []⟩) R s := by
 intro k
 induction k with
 | zero =>
  intro i s Y F rs oD hk hi hst C hD hSF hY hrs hP
  have : i = n := by grind
  subst this
  refine codeAny_builtin PySem.F.entry_extend_loop ?_
  rw [Around.under_plainId PySem.F.plain_extend_loop _]
  show wpAny _ A.in1 (pyNext (.ref a) >>= _) _ _ s
  refine wpAny_bind (IG.done Y F s _ _ hst fun Y' s' x hY' => ?_)
  obtain ⟨C, _⟩ := C.gstep hY hgs x hY'
  exact wpAny_pure (fin rs oD s' hD hrs hP C)
 | succ k ih =>
  intro i s Y F rs oD hk hi hst C hD hSF hY hrs hP
  have hlt : i < n := nL hk
  refine codeAny_builtin PySem.F.entry_extend_loop ?_
  rw [Around.under_plainId PySem.F.plain_extend_loop _]
  show wpAny _ A.in1 (pyNext (.ref a) >>= _) _ _ s
  refine wpAny_bind (IG.item i Y F s _ _ hlt hst fun v Y' F' s' hv x hst' hY' hF' => ?_)
  have hSF' : S ∉ F' := fun hm => (hF' S hm).elim hSF fun q => by
   have := C.led _ M0
   rw [q] at this; cases this
  obtain ⟨C, hYo⟩ := C.gstep hY hgs x hY'
  show wpAny _ A.in1 (updateSeq S (·.push v) >>= _) _ _ _
  refine wpAny_bind (C.updP (us' := rs ++ [v]) (L' := fun o' => (S, o') :: l) (fun o' => J0) hD (by simp) (by lia) (by simp; lia) fun o' s'' hD' x' C' => ?_)
  refine wpAny_pure ⟨plainId_quiet PySem.F.plain_extend_loop _, ih (i + 1) s'' Y' F' (rs ++ [v]) o' (nS hk) (by assumption) (IG.stab _ _ _ _ _ hst' (Zbr x' fun y hy q => hSF' (List.mem_singleton.mp q ▸ hy))) C' hD' hSF' hYo (by simp [hrs]) fun j r e => ?_⟩
  by_cases q : j < rs.length
  ·rw [List.getElem?_append_left q] at e; exact hP j r e
  ·rw [List.getElem?_append_right (Nat.le_of_not_lt q)] at e
   have q2 : j = i := by
    cases h : j - rs.length with
    | zero => lia
    | succ m => rw [h] at e; simp at e
   subst q2
   rw [hrs, Nat.sub_self] at e
   cases e; exact hv
theorem Loc.listG (C : Loc env s₀ [] vs l s) (IG : Zg1 prog w A.in1.in1 a g n P St) (hst : St 0 Y F s) (hY : ∀ y ∈ Y, Zd7 env s₀ l y) (hgs : s₀.gens.size ≤ g) (hn : n ≤ 1000) {Q : Value → Shared → Prop}
  (h : ∀ D oD rs s', Zce oD rs → rs.length = n → (∀ i r, rs[i]? = some r → P i r) → Loc env s₀ [] vs ((D, oD) :: l) s' → Q (.ref D) s') : wpAny (model prog w) A (call (.type "list") [.ref a]) Q E s := by
 refine callType_codes (Q₁ := fun obj s₁ => obj = .ref s.heap.objs.size ∧ s₁ = { s with heap := s.heap.push { cls := .type "list", data := .seq #[] } }) PySem.F.called_list (PySem.F.typeCall_list_1 _) PySem.F.entry_list_init (code_list_new _ ⟨rfl, rfl⟩) fun obj s₁ h₁ => ?_
 obtain ⟨rfl, rfl⟩ := h₁
 have hSF : s.heap.objs.size ∉ F := fun hm => by
  obtain ⟨o, e⟩ := IG.live _ _ _ _ hst _ hm
  rw [Zc] at e; cases e
 have hS : (s.heap.push { cls := .type "list", data := .seq #[] }).get? s.heap.objs.size = some (Zu []) := Heap.get?_push_size _ rfl
 have e : Ext [] [] s { s with heap := s.heap.push (Zu []) } := C.extK (tk := s.toks) Zd
 replace C := C.add e Zc C.big hS
 refine ⟨⟨_, hS, rfl⟩, PySem.F.args_list_init_2 _ _, ?_⟩
 have hst := IG.stab _ _ _ _ _ hst (Zbr e fun y _ q => nomatch q)
 have hY : ∀ y ∈ Y, Zd7 env s₀ ((s.heap.objs.size, Zu []) :: l) y := fun y hy => (hY y hy).led fun k hk => by
  rcases List.mem_cons.mp hk with rfl | hk
  ·exact .inr fun q => hSF (by rw [show s.heap.objs.size = y from q]; exact IG.sub _ _ _ _ hst _ hy)
  ·exact .inl hk
 generalize s.heap.objs.size = S at *
 generalize ({ s with heap := s.heap.push { cls := Value.type "list", data := .seq #[] } } : Shared) = s₁ at *
 show wpAny _ A.in1.in1 (do let old ← Builtin.List.listItems (.ref S); Builtin.List.listUpdate (.ref S) (fun _ => #[]); letGo old.toList.reverse; Builtin.List.listExtendWith (.ref S) (.ref a) .none) _ _ s₁
 refine wpAny_bind ?_
 unfold Builtin.List.listItems
 refine wpAny_bind (wpAny_seqItems (C.led _ M0) rfl (wpAny_pure ?_))
 show wpAny _ A.in1.in1 (updateSeq S (fun _ => #[]) >>= fun _ => letGo (#[] : Array Value).toList.reverse >>= fun _ => Builtin.List.listExtendWith (.ref S) (.ref a) .none) _ _ s₁
 refine wpAny_bind (C.updP (us' := []) (L' := fun o' => (S, o') :: l) (fun o' => J0) (Zc2 []) rfl (by simp) (by simp) fun o1 s₂ hD1 x1 C => ?_)
 have hst := IG.stab _ _ _ _ _ hst (Zbr x1 fun y hy q => hSF (List.mem_singleton.mp q ▸ hy))
 refine wpAny_bind (wpAny_letGo ?_)
 have hSa : S ≠ a := fun q => by
  refine Zo (IG.typ _ _ _ _ hst) fun o e1 e2 => ?_
  have := C.led _ M0
  obtain ⟨n, rfl⟩ := hD1
  rw [q] at this
  rw [this] at e1; cases e1; exact absurd (show ("list" : String) = "generator" by injection e2) (by decide)
 unfold Builtin.List.listExtendWith
 refine wpAny_bind (wpAny_typeOf (IG.typ _ _ _ _ hst) ?_)
 have h1 : Builtin.List.listSameRef (.ref S) (.ref a) = false := by simp [Builtin.List.listSameRef, hSa]
 have h2 : (Value.type "generator" == Value.type "list") = false := by decide
 have h3 : (Value.type "generator" == Value.type "tuple") = false := by decide
 simp only [h1, h2, h3, Bool.or_false, Bool.false_eq_true, if_false]
 refine wpAny_bind (IG.self _ _ _ _ _ _ hst ?_)
 refine wpAny_bind (wpAny_holding ?_)
 unfold Builtin.List.listLengthHint
 refine wpAny_bind (wpAny_specialOf (IG.typ _ _ _ _ hst) PySem.F.gen_no_len ?_)
 show wpAny _ A.in1.in1 (specialOf (Value.ref a) (ofString "__length_hint__") >>= _) _ _ _
 refine wpAny_bind (wpAny_specialOf (IG.typ _ _ _ _ hst) PySem.F.gen_no_hint ?_)
 refine wpAny_pure ?_
 show wpAny _ A.in1.in1 (rule "list.extend.makes-room" >>= fun _ => Builtin.List.listTouch (.ref S) >>= fun _ =>
  again (.builtin "list.extend.loop" ⟨[.ref S, .ref a, .none], []⟩)) _ _ _
 refine wpAny_bind (wpAny_rule ?_)
 refine wpAny_bind ?_
 show wpAny _ A.in1.in1 (updateSeq S (·.push .none) >>= fun _ => updateSeq S (·.pop)) _ _ _
 refine wpAny_bind (C.updP (us' := [.none]) (L' := fun o' => (S, o') :: l) (fun o' => J0) hD1 rfl (by simp) (by simp) fun o2 s₃ hD2 x2 C => ?_)
 have hst := IG.stab _ _ _ _ _ hst (Zbr x2 fun y hy q => hSF (List.mem_singleton.mp q ▸ hy))
 refine C.updP (us' := []) (L' := fun o' => (S, o') :: l) (fun o' => J0) hD2 rfl (by simp) (by simp) ?_; clear C; intro o3 s₄ hD3 x3 C
 have hst := IG.stab _ _ _ _ _ hst (Zbr x3 fun y hy q => hSF (List.mem_singleton.mp q ▸ hy))
 refine wpAny_pure ⟨plainId_quiet PySem.F.plain_extend_loop _, ?_⟩
 exact Zpm IG hn hgs (fun rs oD s' h1 h2 h3 C => ⟨rfl, h S oD rs s' h1 h2 h3 C⟩) n 0 s₄ Y F [] o3 rfl (Nat.zero_le _) hst C hD3 hSF hY rfl (fun i r e => by simp at e)
theorem Loc.compG {x : String} {elt iter : Expr} {px pos : Pos} {scope : Scope}
  (IG : Zg1 prog w A a g n P St) (cs : Z4 env scope (ofString x) vs fvs) (hst : St 0 Y F s) (hY : ∀ y ∈ Y, Zd7 env s₀ l y) (hgs : s₀.gens.size ≤ g) (C : Loc env s₀ [] vs l s) (hsz : n ≤ sizeLine) (G : Nat → Value → Prop)
  (helt : ∀ i v cenv s₃ N', i < n → P i v → Zcm cenv env scope → Loc cenv s₃ [] ((x, v) :: fvs) [] s₃ → Loc env s₀ [] vs (N' ++ l) s₃ →
   wpAny (model prog w) A (eval elt cenv) (fun y s₄ => G i y ∧ Ext [] [] s₃ s₄) (fun _ _ => False) s₃)
  {RR : Value → Addr → Result → Shared → Prop}
  (hRR : ∀ D oD Cc oC ρ s' (rs : List Value), s₀.heap.get? Cc = none → s'.heap.Ns Cc ρ → Zy oD rs → rs.length = n → (∀ i r, rs[i]? = some r → G i r) → Loc env s₀ [] vs ((Cc, oC) :: (D, oD) :: l) s' → RR (.ref D) Cc (.ok .next) s') :
  wpAny (model prog w) A (newList []) (fun acc s₃ => wpAny (model prog w) A (newFunctionEnv scope env.globals (Zb0 env scope.names) [] env.qual none .none (some env)) (fun cenv s₄ =>
   codeAny (model prog w) A (.compStart (.ListComp elt [⟨.Name (ofString x) px, iter, [], 0⟩] scope pos) 0 (.ref a) acc { cenv with scope := relabel scope env }) (RR acc cenv.locals) s₄) E s₃) E s := by
 have out : ∀ {s' : Shared}, (∀ y ∈ F, ∃ o, s'.heap.get? y = some o) → s'.heap.objs.size ∉ F := fun h hm => by
  obtain ⟨o, e⟩ := h _ hm
  rw [Zc] at e; cases e
 have e1 : Ext [] [] s { s with heap := s.heap.push (Zu []) } := C.extK (tk := s.toks) Zd
 refine wpAny_newList ?_ (by simp)
 have hDF := out (IG.live _ _ _ _ hst)
 replace C := C.add e1 Zc C.big (Heap.get?_push_size _ rfl)
 have hst := IG.stab _ _ _ _ _ hst (Zbr e1 fun y _ q => nomatch q)
 have hY : ∀ y ∈ Y, Zd7 env s₀ ((s.heap.objs.size, Zu []) :: l) y := fun y hy => (hY y hy).led fun k hk => by
  rcases List.mem_cons.mp hk with rfl | hk
  ·exact .inr fun q => hDF (by rw [show s.heap.objs.size = y from q]; exact IG.sub _ _ _ _ hst _ hy)
  ·exact .inl hk
 show wpAny _ A _ _ E ({ s with heap := s.heap.push (Zu []) } : Shared)
 generalize s.heap.objs.size = D at *
 generalize ({ s with heap := s.heap.push (Zu []) } : Shared) = s₃ at *
 refine wpAny_newFunctionEnv cs.cell (by intro y hy; simp at hy) (fun h₁ hns hsb => ?_) cs.kind
 have hCF := out (IG.live _ _ _ _ hst)
 generalize hCc : s₃.heap.objs.size = Cc at hns hsb hCF
 have k0 : ∀ b o, s₃.heap.get? b = some o → h₁.get? b = some o := fun b o e => (hsb.2 b (hCc ▸ Nat.ne_of_lt (Heap.lt_size e))).trans (Zd b o e)
 have e0 : Ext [] [] s₃ { s₃ with heap := h₁, toks := s₃.toks + ([] : List (Str × Value)).length } := C.extK k0
 have hn0 : s₃.heap.get? Cc = none := hCc ▸ Zc
 have hC0 : s₀.heap.get? Cc = none := C.noneAt hn0 (fun h => nomatch h)
 refine Zax (id hns) fun oC es ep hoC r => ?_
 replace C := C.add e0 hn0 (hCc ▸ C.big) hoC (fun fd q => by have r0 := r.1; rw [r0] at q; cases q)
 have hst := IG.stab _ _ _ _ _ hst (Zbr e0 fun y _ q => nomatch q)
 have hY : ∀ y ∈ Y, Zd7 env s₀ ((Cc, oC) :: (D, Zu []) :: l) y := fun y hy => (hY y hy).led fun k hk => by
  rcases List.mem_cons.mp hk with e | hk
  ·exact .inr fun q => hCF (by rw [show Cc = y from (show k = Cc from e).symm.trans q]; exact IG.sub _ _ _ _ hst _ hy)
  ·exact .inl hk
 have ce : ∀ L, Zcm ({ newEnv scope L env.globals (Zb0 env scope.names) env.qual none Value.none (some env) builtinsNs with scope := relabel scope env } : Env) env scope := fun L => ⟨rfl, rfl, rfl, rfl, rfl, rfl, rfl, rfl⟩
 generalize hs4 : ({ s₃ with heap := h₁, toks := s₃.toks + ([] : List (Str × Value)).length } : Shared) = s₄ at *
 have hns : s₄.heap.Ns Cc (fun x => ([] : List (Str × Value)).reverse.lookup x) := by rw [← hs4]; exact hns
 have offF : ∀ {Z : List Addr} {F' : List Addr}, (∀ z ∈ Z, z = Cc ∨ z = D) → Cc ∉ F' → D ∉ F' → ∀ y ∈ F', y ∉ Z := fun hZ h1 h2 y hy hz => by
  rcases hZ y hz with rfl | rfl
  ·exact h1 hy
  ·exact h2 hy
 have loop : codeAny (model prog w) A (.compLoop (.ListComp elt [⟨.Name (ofString x) px, iter, [], 0⟩] scope pos) 0 (.ref a) (.ref D) ({ newEnv scope Cc env.globals (Zb0 env scope.names) env.qual none Value.none (some env) builtinsNs with scope := relabel scope env } : Env)) (RR (.ref D) Cc) s₄ := by
  generalize hce : ({ newEnv scope Cc env.globals (Zb0 env scope.names) env.qual none Value.none (some env) builtinsNs with scope := relabel scope env } : Env) = cenv
  have ce : Zcm cenv env scope := hce ▸ ce Cc
  have hloc : cenv.locals = Cc := by rw [← hce]; rfl
  have hkx : cenv.kindOf (ofString x) = some .local := by unfold Env.kindOf; rw [ce.scope]; exact lookup_relabel_local cs.hx
  have hkk : cenv.scope.kind = .function := by rw [ce.scope]; exact cs.kind
  refine codeAny_compLoop_tests (fun k s' => ∀ T_ : Prop, (∀ i oC oD ρ rs Y F, k = n + 1 - i → i ≤ n → St i Y F s' → s'.heap.Ns Cc ρ → Zy oD rs → rs.length = i → (∀ j r, rs[j]? = some r → G j r) → (∀ y ∈ Y, Zd7 env s₀ ((Cc, oC) :: (D, oD) :: l) y) → Cc ∉ F → D ∉ F → Loc env s₀ [] vs ((Cc, oC) :: (D, oD) :: l) s' → T_) → T_) ?_ (n + 1)
   (fun _ kk => kk 0 oC (Zu []) _ [] Y F (Eq.refl (n + 1)) (Nat.zero_le _) hst hns (Zm []) rfl (fun j r e => by simp at e) hY hCF hDF C)
  intro k s' hh
  refine hh _ fun i oC oD ρ rs Y F eK hi hst hρ hD hlen hG hY hCF hDF C => ?_; clear hh; subst eK
  have alive : ∀ {b : Addr}, b = Cc ∨ b = D → s'.heap.get? b ≠ none := fun {b} hb q => by
   rcases hb with rfl | rfl
   ·have := C.led _ M0; rw [q] at this; cases this
   ·have := C.led _ M1; rw [q] at this; cases this
  by_cases hlt : i < n
  ·refine IG.item i Y F s' _ _ hlt hst fun u Y' F' s₁ hu x1 hst hY' hF' => ?_
   have hCF : Cc ∉ F' := fun hm => (hF' _ hm).elim hCF fun q => alive (.inl rfl) q
   have hDF : D ∉ F' := fun hm => (hF' _ hm).elim hDF fun q => alive (.inr rfl) q
   have eC : s'.heap.get? Cc = some oC := C.led _ M0
   obtain ⟨C, hY⟩ := C.gstep hY hgs x1 hY'
   have hρ := Zp hρ eC (C.led _ M0)
   refine wpAny_assign_Name (wpAny_storeName_local hkx (by rw [hloc]; exact hρ) (fun h₂ hn₂ hs₂ => ?_) (by rw [hkk]; rfl))
   rw [hloc] at hn₂ hs₂
   refine Zax (id hn₂) fun oC₂ es₂ ep₂ eC₂ _ => ?_
   have x2 : Ext [Cc] [] s₁ { s₁ with heap := h₂, toks := s₁.toks + 1 } := Ext.same (C.own (Cc, oC) M0).2 (Zbh hρ) M0 hs₂ ⟨_, eC₂⟩
   replace C := C.put x2 J0 eC₂ (Zbh hn₂ _ eC₂).2
   have hst := IG.stab _ _ _ _ _ hst (Zbr x2 (offF (fun z hz => .inl (List.mem_singleton.mp hz)) hCF hDF))
   have hY : ∀ y ∈ Y', Zd7 env s₀ ((Cc, oC₂) :: (D, oD) :: l) y := fun y hy => hY y hy
   generalize ({ s₁ with heap := h₂, toks := s₁.toks + 1 } : Shared) = s₅ at *
   have eC₅ : s₅.heap.get? Cc = some oC₂ := C.led _ M0
   have hn₂ : s₅.heap.Ns Cc _ := Zp hn₂ eC₂ eC₅
   have CL := cs.loc ce C (by rw [hloc]; exact M0) (by rw [hloc]; exact hn₂) (v := u) (by simp)
   refine wpAny_pure ?_
   refine ifP rfl ?_
   refine wpAny_mono (helt i u cenv s₅ ((Cc, oC₂) :: [(D, oD)]) hlt hu ce CL C) (fun y s₇ h₇ => ?_) fun _ _ q => q.elim
   obtain ⟨hg, x4⟩ := h₇
   replace C := C.pure x4
   have hst := IG.stab _ _ _ _ _ hst (Zbr x4 fun y _ q => nomatch q)
   have eC₇ : s₇.heap.get? Cc = some oC₂ := C.led _ M0
   have hn₂ := Zp hn₂ eC₅ eC₇
   have eD := C.led (D, oD) M1
   refine wpAny_list_append (hD.at eD) (fun h₈ hl₈ hs₈ => ?_) (by simp; lia)
   refine Z1 hl₈ fun oD₈ q3 q4 q5 => ?_
   have x5 : Ext [D] [] s₇ { s₇ with heap := h₈ } := Ext.same (tk := s₇.toks) (C.own (D, oD) M1).2 (Z5 eD (Zau hD)) M0 hs₈ ⟨_, q3⟩
   replace C := C.put x5 J1 q3 (fun fd e => by obtain ⟨n, d⟩ := q5; rw [d] at e; cases e)
   have hst := IG.stab _ _ _ _ _ hst (Zbr x5 (offF (fun z hz => .inr (List.mem_singleton.mp hz)) hCF hDF))
   refine ⟨_, nD hlt, fun _ kk => kk (i + 1) oC₂ oD₈ _ (rs ++ [y]) Y' F' rfl hlt hst (Zp hn₂ eC₇ (C.led _ M0)) ⟨q4, ?_⟩ (by simp [hlen]) (fun j r e => ?_) (fun y hy => hY y hy) hCF hDF C⟩
   ·obtain ⟨m, hm⟩ := q5
    exact ⟨m, by rw [hm]; simp⟩
   ·by_cases q : j < rs.length
    ·rw [List.getElem?_append_left q] at e; exact hG j r e
    ·rw [List.getElem?_append_right (Nat.le_of_not_lt q)] at e
     have q2 : j = i := by
      cases h : j - rs.length with
      | zero => grind
      | succ m => rw [h] at e; simp at e
     subst q2
     rw [hlen, Nat.sub_self] at e
     cases e; exact hg
  ·have : i = n := by lia
   subst this
   refine IG.done Y F s' _ _ hst fun Y' s₁ x1 hY' => ?_
   have eC : s'.heap.get? Cc = some oC := C.led _ M0
   obtain ⟨C, hY⟩ := C.gstep hY hgs x1 hY'
   exact hRR D oD Cc oC ρ _ rs hC0 (Zp hρ eC (C.led _ M0)) hD hlen hG C
 have fin := codeAny_compStart_list loop (IG.self 0 Y F s₄ _ _ hst loop)
 exact fin
noncomputable def Zph (prog : Program) (w : World) (A : Around) (env : Env) (s₀ : Shared) (vs : List (String × Value)) (x : String) (elt : Expr) (scope : Scope)
  (Fin : List (Addr × Obj) → Addr → Obj → Shared → Prop) (it : Value) (s₂ : Shared) : Prop :=
 ∀ T_ : Prop, (∀ (l : List (Addr × Obj)) (fvs : List (String × Value)) (a g n : Nat) (P : Nat → Value → Prop) (St : Nat → List Addr → List Addr → Shared → Prop) (Y F : List Addr) (G : Nat → Value → Prop),
  it = .ref a →
  Zg1 prog w A a g n P St →
  Z4 env scope (ofString x) vs fvs →
  St 0 Y F s₂ →
  (∀ y ∈ Y, Zd7 env s₀ l y) →
  s₀.gens.size ≤ g →
  Loc env s₀ [] vs l s₂ →
  n ≤ sizeLine →
  (∀ i v cenv s₃ N', i < n → P i v → Zcm cenv env scope → Loc cenv s₃ [] ((x, v) :: fvs) [] s₃ → Loc env s₀ [] vs (N' ++ l) s₃ →
   wpAny (model prog w) A (eval elt cenv) (fun y s₄ => G i y ∧ Ext [] [] s₃ s₄) (fun _ _ => False) s₃) →
  (∀ D oD s' (rs : List Value), Zy oD rs → rs.length = n → (∀ i r, rs[i]? = some r → G i r) → Loc env s₀ [] vs ((D, oD) :: l) s' → Fin l D oD s') → T_) → T_
theorem Loc.lcG {x : String} {elt iter : Expr} {px pos : Pos} {scope : Scope} {Q : Value → Shared → Prop} (cs : ∃ fvs, Z4 env scope (ofString x) vs fvs) (C : Loc env s₀ [] vs l s)
  (h : wpAny (model prog w) A (eval iter env) (fun xv s₁ => wpAny (model prog w) A (pyIter xv) (Zph prog w A env s₀ vs x elt scope (fun l' D oD s' => Q (.ref D) s')) E s₁) E s)
  (hs : autoParam (∀ x, foldedSetIterable iter env x = Pure.pure x) aI) :
  wpAny (model prog w) A (eval (.ListComp elt [⟨.Name (ofString x) px, iter, [], 0⟩] scope pos) env) Q E s := by
 obtain ⟨_, cs⟩ := cs
 rw [eval_ListComp]
 refine wpAny_comprehension_free (use := none) rfl hs (Zx (cs.some C)) cs.kind cs.names (wpAny_mono h (fun xv s₁ h₁ => wpAny_mono h₁ (fun it s₂ h₂ => ?_) fun _ _ e => e) fun _ _ e => e)
 refine h₂ _ fun l fvs a g n P St Y F G e IG cs hst hY hgs C hsz helt hfin => ?_; clear h₂; subst e
 refine C.compG IG cs hst hY hgs hsz G helt (RR := fun acc C => compPost (model prog w) A E none Q acc C) ?_
 intro D oD Cc oC ρ s' rs h0 hn hD hlen hG C
 exact ⟨ρ, hn, fun h' hs' => hfin D oD _ rs hD hlen hG (C.die (tk := s'.toks) rfl h0 (Zbh hn _ (C.led _ M0)) fun b o hb e => (hs'.2 b hb).trans e)⟩
theorem Zk.gen {A : Around} {n : Nat} (R : Zk A (n + 3)) {t : Expr} {it : Value} {b o body : List Stmt} {e env : Env} {k : Result → Sem Fin} {l : List Value} {p : Pos} {kp : List Value} :
  Zk (A.in1.over (.forLoop t it b o e) [.ret k none false l (.func body env) p kp]) n := by
 obtain ⟨hd, dp, un, ⟨fr, hfr⟩, ⟨gd, hgd⟩⟩ := R
 have w1 : Code.weight (.forLoop t it b o e) = 0 := rfl
 have w2 : Code.weight (.func body env) = 1 := rfl
 have u1 : Code.cUnits (.forLoop t it b o e) = 0 := rfl
 have u2 : Code.cUnits (.func body env) = 3 := rfl
 refine ⟨?_, ?_, ?_, ⟨env :: fr, ?_⟩, ⟨gd, ?_⟩⟩
 ·show A.handled = none; exact hd
 ·show A.in1.depth + frameCount [(Code.func body env, p)] + Code.weight _ + n < 900
  rw [w1, frameCount_cons, w2]
  have : frameCount ([] : List (Code × Pos)) = 0 := rfl
  simp only [Around.in1]
  lia
 ·show A.in1.units + unitsOf [(Code.func body env, p)] + Code.cUnits _ + 20 * n < 9000
  have : unitsOf [(Code.func body env, p)] = 3 := rfl
  rw [u1, this]
  simp only [Around.in1]
  lia
 ·show pushEnvs (Code.envs (.forLoop t it b o e)) (pushEnvs (envsOf [(Code.func body env, p)]) A.in1.frames) = some (env :: fr)
  have e1 : Code.envs (.forLoop t it b o e) = [] := rfl
  have e2 : envsOf [(Code.func body env, p)] = [env] := rfl
  rw [e1, e2]
  show Option.map _ A.frames = _
  rw [hfr]; rfl
 ·show pushGuards (Code.guards (.forLoop t it b o e)) (pushGuards (guardsOf [(Code.func body env, p)]) A.in1.guards) = some gd
  exact hgd
theorem Ext.newG {X : List Addr} {G : List Nat} {s : Shared} {c : Code} : Ext X G s { s with gens := s.gens.push (.fresh c) } :=
 ⟨fun _ _ _ _ e => e, fun _ _ _ _ e => e, fun _ o _ e => ⟨o, e⟩, id, id, rfl, rfl, by simp, fun g gs _ e => by
  obtain ⟨h1, h2⟩ := Array.getElem?_eq_some_iff.mp e
  rw [Array.getElem?_push, if_neg (Nat.ne_of_lt h1)]; exact e, fun h => h.push rfl, fun _ _ y => y⟩
theorem Loc.monoX (C : Loc env s₀ X vs l s) (h : ∀ p ∈ X, p ∈ Y) : Loc env s₀ Y vs l s :=
 ⟨C.ext.mono h (fun _ h => nomatch h), C.fr, C.bd, C.led, fun p hp => ⟨(C.own p hp).1.imp (h _) id, (C.own p hp).2⟩, C.off, C.nd, C.fc⟩
theorem Loc.reheap (C : Loc env s X vs [] s) (h : s'.heap = s.heap) : Loc env s' Y vs [] s' :=
 ⟨Ext.refl _ _ _, h ▸ C.fr, h ▸ C.bd, fun _ h => (nomatch h), fun _ h => (nomatch h), fun _ h => (nomatch h), List.nodup_nil, fun _ h => (nomatch h)⟩
theorem Zo9 (W : Wd K s.heap) {n : Nat} (R : Zk A n) {f : Addr} {name q : Str} {st : Stmt} {cl : List (Str × Addr)} {doc pm cv ctv : Value} (ho : s.heap.get? f = some (fnO name q (Zaj st) (Zl st) (Zb st) cl doc pm cv ctv)) (hcr : s.heap.CodeRec cv q) (hC : Clo cl kn s.heap)
  {args : List Value} (vs : List (String × Value)) {Q : Value → Shared → Prop} (hbind : BindsTo s (fnX name q (Zaj st) (Zl st) (Zb st) cl .none .none doc pm none cv ctv) ⟨args, []⟩ (Zaf vs))
  (h : ∀ env a og s₁, Za2 env (Zb st) q f cv → env.cells = cl → env.locals = s.heap.objs.size → Zbw env s → s₁.heap.IsGen a s.gens.size → s₁.gens[s.gens.size]? = some (.fresh (.func (Zl st) env)) → Loc env s [] (vs ++ kn) [(a, og)] s₁ → Q (.ref a) s₁)
  (hnd : autoParam (Zdo (vs.map (·.1)) = true) aK)
  (hkind : autoParam (((Zaf vs).all fun y => (Zb st).names.lookup y.1 == some .local) = true) aK)
  (hcell : autoParam (((Zb st).names.all fun x => x.2 != .cell) = true) aK)
  (hfree : autoParam ((kn.all fun p => (Zb st).names.lookup (ofString p.1) == some .free) = true) aK)
  (hco : autoParam ((Zb st).isCoroutine = false) aK) (hgen : autoParam ((Zb st).isGenerator = true) aK) (hk : autoParam ((Zb st).kind = .function) aK) :
  wpAny (model prog w) A (call (.ref f) args) Q E s := by
 have hcell' : ∀ x ∈ (Zb st).names, x.2 ≠ .cell := fun x hx => by simpa using List.all_eq_true.mp hcell x hx
 refine wpAny_call (codeAny_call_generator R.lt ho rfl hco hgen rfl hcr (hbind _ _ _ _ ?_))
 refine wpAny_newFunctionEnv hcell' (fun x hx => by simpa using List.all_eq_true.mp hkind x hx) (fun h₁ hns hsb => ?_) hk
 have hk₁ : ∀ b o, s.heap.get? b = some o → h₁.get? b = some o := fun b o e => hsb.extBut b o (Nat.ne_of_lt (Heap.lt_size e)) (Heap.get?_push_of_some _ e)
 refine ⟨W.lim.keeps hk₁, ?_⟩
 have rev : ∀ p ∈ Zaf vs, (Zaf vs).reverse.lookup p.1 = some p.2 := fun p hp => by
  have nd := Zcg (Zc0 hnd)
  have : ∀ (l : List (Str × Value)), (l.map (·.1)).Nodup → ∀ p ∈ l, l.lookup p.1 = some p.2 := by
   intro l
   induction l with
   | nil => intro _ p hp; cases hp
   | cons q r ih =>
    intro nd p hp
    rw [List.map_cons, List.nodup_cons] at nd
    rw [List.lookup_cons]
    rcases List.mem_cons.mp hp with rfl | hp
    ·simp
    ·have : (p.1 == q.1) = false := by
      rw [beq_eq_false_iff_ne]
      intro e
      exact nd.1 (e ▸ List.mem_map_of_mem hp)
     rw [this]; exact ih nd.2 p hp
  refine this _ ?_ p (List.mem_reverse.mpr hp)
  rw [List.map_reverse]; exact (List.pairwise_reverse.mpr (nd.imp fun h => h.symm))
 have old : ∀ x c, cl.lookup x = some c → c < s.heap.objs.size := fun x c e => (hC.cel x c e).2.elim fun _ hv => hv.lt
 generalize henv : newEnv (Zb st) s.heap.objs.size mainGlobals cl (q ++ ".<locals>.") (some f) cv none builtinsNs = env
 have hEnv : Za2 env (Zb st) q f cv := by subst henv; exact ⟨rfl, rfl, rfl, rfl, rfl, rfl, rfl⟩
 have hcel : env.cells = cl := by subst henv; rfl
 have hloc : env.locals = s.heap.objs.size := by subst henv; rfl
 have L : Loc env s [] vs [] { s with heap := h₁, toks := s.toks + (Zaf vs).length } := by
  subst henv
  refine ⟨Ext.keeps hk₁ (fun t => Nat.le_trans t (Nat.le_of_lt hns.lt)), ⟨⟨_, hns⟩, fun y c e => ⟨Nat.ne_of_lt (old y c e), ?_⟩, hC.inj, W.big, fun b hb ht => ?_, hk, rfl, rfl⟩, fun p hp => ?_, fun _ h => (nomatch h), fun _ h => (nomatch h), fun _ h => (nomatch h), List.nodup_nil, fun _ h => (nomatch h)⟩
  ·obtain ⟨v, hv⟩ := (hC.cel y c e).2
   exact ⟨v, hv.keeps hk₁⟩
  ·rcases hb with rfl | ⟨y, e⟩
   ·exact absurd W.big (Nat.not_le.mpr (Zz _ ht))
   ·exact (hC.cel y b e).1 ht
  ·have q : (Zb st).names.lookup (ofString p.1) = some .local := by simpa using List.all_eq_true.mp hkind _ (Zcb hp)
   exact .inl ⟨q, _, hns, rev _ (Zcb hp)⟩
 have L := L.know (kn := kn) fun p hp => by
  refine Zo (hC.kn p hp) fun c e1 e2 => ?_
  refine .inr ⟨c, .inr ?_, hcel ▸ e1, e2.keeps hk₁⟩
  unfold Env.kindOf
  rw [hEnv.scope]
  simpa using List.all_eq_true.mp hfree p hp
 have x1 : Ext [] [] ({ s with heap := h₁, toks := s.toks + (Zaf vs).length } : Shared) { s with heap := h₁, toks := s.toks + (Zaf vs).length, gens := s.gens.push (.fresh (.func (Zl st) env)) } := Ext.newG (s := { s with heap := h₁, toks := s.toks + (Zaf vs).length })
 have L := L.pure x1
 have x2 : Ext [] [] ({ s with heap := h₁, toks := s.toks + (Zaf vs).length, gens := s.gens.push (.fresh (.func (Zl st) env)) } : Shared) { s with heap := h₁.push { cls := .type "generator", data := .fields #[.int s.gens.size 0, .str name (s.toks + (Zaf vs).length), .str q (s.toks + (Zaf vs).length + 1)] }, toks := s.toks + (Zaf vs).length + 1 + 1, gens := s.gens.push (.fresh (.func (Zl st) env)) } := L.extK Zd
 have L := L.add x2 Zc L.big (Heap.get?_push_size _ rfl)
 exact h env _ _ _ hEnv hcel hloc ⟨by rw [hloc]; exact Zc, by rw [hloc]; exact W.big, fun x c e1 e2 => by
  unfold Env.kindOf at e1
  rw [hEnv.scope] at e1
  exact absurd rfl (hcell' _ (mem_of_lookup e1))⟩ ⟨_, _, _, Heap.get?_push_size _ rfl, rfl, rfl, rfl⟩ (Array.getElem?_push_size ..) L
theorem Zbc.to {h h' : Heap} {xa da : Nat → Addr} {od : Nat → Obj} {tg : Nat → Value} {len : Nat} (x : Zbc h xa da od tg len) (k : ∀ b o, 316 ≤ b → ((∃ i, i < len ∧ (b = xa i ∨ b = da i))) → h.get? b = some o → h'.get? b = some o) : Zbc h' xa da od tg len :=
 ⟨fun i hi => ⟨k _ _ (x.x i hi).2 ⟨i, hi, .inl rfl⟩ (x.x i hi).1, (x.x i hi).2⟩, fun i hi => ⟨k _ _ (x.d i hi).2 ⟨i, hi, .inr rfl⟩ (x.d i hi).1, (x.d i hi).2⟩, x.t⟩
theorem Zqu (W : Wd K s.heap) {n : Nat} (R : Zk A n) {cd : ClassData} (T : KT K cd) {f : Addr} {name q : Str} {st : Stmt} {cl : List (Str × Addr)} {doc pm cv ctv : Value} (ho : s.heap.get? f = some (fnO name q (Zaj st) (Zl st) (Zb st) cl doc pm cv ctv)) (hcr : s.heap.CodeRec cv q) (hC : Clo cl kn s.heap)
  {us : List Value} {p : Nat → Bool} {D : Addr} {xa da : Nat → Addr} {od : Nat → Obj} {tg : Nat → Value} (ex : List (Addr × Obj)) (hex : ∀ p ∈ ex, 316 ≤ p.1 ∧ s.heap.get? p.1 = some p.2) {test : Expr} {q1 q2 q3 q4 q5 q6 q7 q8 q9 r1 r2 : Pos} {Q : Value → Shared → Prop}
  (hbind : BindsTo s (fnX name q (Zaj st) (Zl st) (Zb st) cl .none .none doc pm none cv ctv) ⟨[.none, .ref D], []⟩ (Zaf [("context", .none), ("result", .ref D)]))
  (hbody : Zl st = [.For (.Name (ofString "elem") q1) (.Name (ofString "result") r1) [.Assign [.Name (ofString "el_tag") q2] (.Attribute (.Name (ofString "elem") q3) (ofString "tag") q4) q5, .If test [.Expr (.Yield (some (.Name (ofString "elem") q6)) q7) q8] [] q9] [] r2])
  (hD3 : 316 ≤ D) (hus : ∀ i, i < us.length → us[i]? = some (.ref (xa i))) (hkn : ∀ q ∈ kn, q.1 ≠ "elem" ∧ q.1 ≠ "el_tag") (hT : Zbc s.heap xa da od tg us.length) (hl : s.heap.IsList D us.toArray)
  (htest : ∀ env (A' : Around) Lg I i s₀ s vs, Za2 env (Zb st) q f cv → Zk A' 3 → i < us.length → Loc env s₀ [Lg, I] vs [] s → Wd K s₀.heap → (∀ p ∈ ex, s.heap.get? p.1 = some p.2) → (∀ q ∈ kn, q ∈ vs) → ("el_tag", tg i) ∈ vs →
   wpAny (model prog w) A' (isTrue test env (eval test env)) (fun b s' => b = p i ∧ Ext [] [] s s') (fun _ _ => False) s)
  (h : ∀ a g Lg F0 s₁, (∀ A', Zk A' 6 → Zg1 prog w A' a g (Zci p us.length 0) (fun i v => ∃ k, k < us.length ∧ ((List.range us.length).filter p)[i]? = some k ∧ us[k]? = some v) (Zgl prog w A' K us p a g Lg F0) ∧ Zgl prog w A' K us p a g Lg F0 0 [Lg] F0 s₁) →
   s.heap.get? Lg = none → g = s.gens.size → Ext [] [] s s₁ → Q (.ref a) s₁)
  (hke : autoParam ((Zb st).names.lookup (ofString "elem") = some .local) aK) (hkt : autoParam ((Zb st).names.lookup (ofString "el_tag") = some .local) aK)
  (hkind : autoParam (((Zaf [("context", .none), ("result", .ref D)]).all fun y => (Zb st).names.lookup y.1 == some .local) = true) aK)
  (hcell : autoParam (((Zb st).names.all fun x => x.2 != .cell) = true) aK)
  (hfree : autoParam ((kn.all fun p => (Zb st).names.lookup (ofString p.1) == some .free) = true) aK)
  (hco : autoParam ((Zb st).isCoroutine = false) aK) (hgen : autoParam ((Zb st).isGenerator = true) aK) (hk : autoParam ((Zb st).kind = .function) aK) :
  wpAny (model prog w) A (call (.ref f) [.none, .ref D]) Q E s := by
 refine Zo9 W R ho hcr hC [("context", .none), ("result", .ref D)] hbind (fun env a og s₁ hEnv hcel hloc hO hg hgs C => ?_) (by kernel_rfl) hkind hcell hfree hco hgen hk
 have hke : env.kindOf (ofString "elem") = some .local := by unfold Env.kindOf; rw [hEnv.scope]; exact hke
 have hkt : env.kindOf (ofString "el_tag") = some .local := by unfold Env.kindOf; rw [hEnv.scope]; exact hkt
 have hco : env.scope.isCoroutine = false := by rw [hEnv.scope]; exact hco
 have W₁ := W.ext C.ext
 have hT₁ : Zbc s₁.heap xa da od tg us.length := hT.to fun b o h3 _ e => C.ext.get h3 e
 have hl₁ := C.ext.list hD3 hl
 refine Zo (id hl₁) fun oD eD _ => ?_
 have a3 := (C.own _ M0).2
 have a1 := C.led _ M0
 have aL := (C.off _ M0).1
 refine Za4 C.fr.ns fun ρ oL _ _ eL _ => ?_
 have nt : ∀ {b : Addr}, 316 ≤ b → b ∉ Zbn := fun h3 ht => absurd h3 (Nat.not_le.mpr (Zz _ ht))
 generalize hF0 : (a :: env.locals :: D :: ((List.range us.length).map xa ++ ((List.range us.length).map da ++ (cl.filterMap (fun p => cl.lookup p.1) ++ ex.map (·.1))))) = F0
 have inF : ∀ {b : Addr}, b ∈ F0 ↔ b = a ∨ b = env.locals ∨ b = D ∨ (∃ i, i < us.length ∧ (b = xa i ∨ b = da i)) ∨ b ∈ cl.filterMap (fun p => cl.lookup p.1) ++ ex.map (·.1) := by
  intro b
  subst hF0
  rw [List.mem_cons, List.mem_cons, List.mem_cons, List.mem_append, List.mem_append, List.mem_map, List.mem_map]
  simp only [List.mem_range]
  constructor
  ·rintro (h | h | h | ⟨i, hi, h⟩ | ⟨i, hi, h⟩ | h)
   ·exact .inl h
   ·exact .inr (.inl h)
   ·exact .inr (.inr (.inl h))
   ·exact .inr (.inr (.inr (.inl ⟨i, hi, .inl h.symm⟩)))
   ·exact .inr (.inr (.inr (.inl ⟨i, hi, .inr h.symm⟩)))
   ·exact .inr (.inr (.inr (.inr h)))
  ·rintro (h | h | h | ⟨i, hi, h | h⟩ | h)
   ·exact .inl h
   ·exact .inr (.inl h)
   ·exact .inr (.inr (.inl h))
   ·exact .inr (.inr (.inr (.inl ⟨i, hi, h.symm⟩)))
   ·exact .inr (.inr (.inr (.inr (.inl ⟨i, hi, h.symm⟩))))
   ·exact .inr (.inr (.inr (.inr (.inr h))))
 have cel : ∀ {c : Addr}, c ∈ cl.filterMap (fun p => cl.lookup p.1) ++ ex.map (·.1) → c ∉ Zbn ∧ ∃ o, s₁.heap.get? c = some o := fun {c} hc => by
  rcases List.mem_append.mp hc with hc | hc
  case inr =>
   obtain ⟨p, hp, rfl⟩ := List.mem_map.mp hc
   exact ⟨nt (hex p hp).1, _, C.ext.get (hex p hp).1 (hex p hp).2⟩
  refine Zo (List.mem_filterMap.mp hc) fun p _ e => ?_
  refine Zcs (hC.cel _ _ e) fun h1 v o h2 _ => ?_
  exact ⟨h1, o, C.ext.keep _ _ (fun h => nomatch h) h1 h2⟩
 have F0 : ∀ y ∈ F0, y ∉ Zbn ∧ ∃ o, s₁.heap.get? y = some o := fun y hy => by
  rcases inF.mp hy with rfl | rfl | rfl | ⟨i, hi, rfl | rfl⟩ | hc
  ·exact ⟨nt a3, _, a1⟩
  ·exact ⟨nt hO.2.1, _, eL⟩
  ·exact ⟨nt hD3, _, eD⟩
  ·exact ⟨nt (hT₁.x i hi).2, _, (hT₁.x i hi).1⟩
  ·exact ⟨nt (hT₁.d i hi).2, _, (hT₁.d i hi).1⟩
  ·exact cel hc
 refine h a s.gens.size env.locals _ s₁ (fun A' R' => ⟨Zpz R'.hd R'.lt, hg, inF.mpr (.inl rfl), inF.mpr (.inr (.inl rfl)), aL, a3, W₁, fun y hy => (F0 y hy).2, fun y hy => (F0 y hy).1, .inl ⟨rfl, rfl, rfl, _, hgs, fun s'' hst => ⟨rfl, ?_⟩⟩⟩) hO.1 rfl C.ext
 have hIF : ∀ {y o}, y ∈ _ → s₁.heap.get? y = some o → s''.heap.get? y = some o := fun {y o} hy e => hst.get' hy (F0 y hy).1 e
 have hLg : env.locals ≠ s''.heap.objs.size := fun q => by
  have := hIF (inF.mpr (.inr (.inl rfl))) eL
  rw [q, Zc] at this; cases this
 have W₂ : Wd K s''.heap := Z9 hst fun _ _ e _ => W₁.ext e
 have C2 := (C.sub (List.nil_sublist _)).rest hst (inF.mpr (.inr (.inl rfl))) (fun y c e => inF.mpr (.inr (.inr (.inr (.inr (by rw [hcel] at e; exact List.mem_append_left _ (List.mem_filterMap.mpr ⟨_, mem_of_lookup e, e⟩))))))) (fun _ h => nomatch h)
 have C3 : Loc env (s''.setGen s.gens.size .running) [env.locals, s''.heap.objs.size] ([("context", .none), ("result", .ref D)] ++ kn) [] (s''.setGen s.gens.size .running) := C2.reheap (by rfl)
 have hT₂ : Zbc s''.heap xa da od tg us.length := hT₁.to fun b o h3 hb e => hIF (inF.mpr (.inr (.inr (.inr (.inl hb))))) e
 have hl₂ : s''.heap.IsList D us.toArray := Zo hl₁ fun o e r => ⟨o, hIF (inF.mpr (.inr (.inr (.inl rfl)))) e, r⟩
 generalize hs3 : s''.setGen s.gens.size .running = s₃ at *
 have hh : s₃.heap = s''.heap := by rw [← hs3]; rfl
 rw [← hh] at W₂ hT₂ hl₂ hLg C3 ⊢
 rw [hbody]
 refine seg_func ?_
 refine seg_execs_cons (Zpo ?_)
 refine C3.name M1 ?_
 refine wpAny_pyIter_list hl₂ fun pp => ?_
 have e : Ext [] [] s₃ { s₃ with heap := s₃.heap.push { cls := .type "list_iterator", data := .fields #[.ref D, .int 0 0] } } := C3.extK (tk := s₃.toks) Zd
 have hI0 : s₃.heap.get? s₃.heap.objs.size = none := Zc
 have C4 := C3.add e hI0 C3.big (Heap.get?_push_size _ rfl)
 have hIF3 : ∀ {y o}, y ∈ _ → s₁.heap.get? y = some o → s₃.heap.get? y = some o := fun {y o} hy e => by rw [hh]; exact hIF hy e
 have hex₁ : ∀ p ∈ ex, s₁.heap.get? p.1 = some p.2 := fun p hp => C.ext.get (hex p hp).1 (hex p hp).2
 have hexF : ∀ p ∈ ex, p.1 ∈ cl.filterMap (fun p => cl.lookup p.1) ++ ex.map (·.1) := fun p hp => List.mem_append_right _ (List.mem_map_of_mem hp)
 have hex₃ : ∀ p ∈ ex, s₃.heap.get? p.1 = some p.2 := fun p hp => hIF3 (inF.mpr (.inr (.inr (.inr (.inr (hexF p hp)))))) (hex₁ p hp)
 generalize s₃.heap.objs.size = I at *
 have hDL : D ≠ env.locals := fun q => by
  refine Zo hl fun o e _ => ?_
  rw [q, hO.1] at e; cases e
 have hIn : ∀ y o, s₃.heap.get? y = some o → y ≠ I := fun y o e q => by rw [q, hI0] at e; cases e
 refine Zm6 T ex (us := us) (p := p) (xa := xa) (da := da) (od := od) (tg := tg) (bs := [("context", .none), ("result", .ref D)] ++ kn) rfl (C4.own _ M0).2 hD3 (hIn _ _ (hIF3 (inF.mpr (.inr (.inr (.inl rfl)))) eD)) hDL hus ?_ hke hkt hco ?_ ?_ rfl rfl ?_ ?_ ?_ ?_ us.length 0 (by simp +arith) s₃ _ _ C4 ⟨rfl, rfl⟩ W₂ hT₂ hl₂ hex₃
 ·intro q hq
  rcases List.mem_append.mp hq with hq | hq
  ·rcases List.mem_cons.mp hq with rfl | hq
   ·exact ⟨by decide, by decide⟩
   ·rw [List.mem_singleton.mp hq]; exact ⟨show "result" ≠ "elem" by decide, show "result" ≠ "el_tag" by decide⟩
  ·exact hkn q hq
 ·intro i hi
  refine ⟨fun hm => ?_, fun hm => ?_⟩
  ·rcases List.mem_cons.mp hm with q | hm
   ·have := (hT.x i hi).1
    rw [q, hO.1] at this; cases this
   ·exact hIn _ _ (hT₂.x i hi).1 (List.mem_singleton.mp hm)
  ·rcases List.mem_cons.mp hm with q | hm
   ·have := (hT.d i hi).1
    rw [q, hO.1] at this; cases this
   ·exact hIn _ _ (hT₂.d i hi).1 (List.mem_singleton.mp hm)
 ·intro p hp
  refine ⟨(hex p hp).1, fun hm => ?_, .tail _ (inF.mpr (.inr (.inr (.inr (.inr (hexF p hp))))))⟩
  rcases List.mem_cons.mp hm with q | hm
  ·have := (hex p hp).2
   rw [q, hO.1] at this; cases this
  ·exact hIn _ _ (hex₃ p hp) (List.mem_singleton.mp hm)
 ·exact (Zk.gen (n := 3) R').hd
 ·exact ⟨.tail _ (inF.mpr (.inr (.inl rfl))), M0, .tail _ (inF.mpr (.inr (.inr (.inl rfl)))), fun i hi => ⟨.tail _ (inF.mpr (.inr (.inr (.inr (.inl ⟨i, hi, .inl rfl⟩))))), .tail _ (inF.mpr (.inr (.inr (.inr (.inl ⟨i, hi, .inr rfl⟩)))))⟩,
   fun y c e => .tail _ (inF.mpr (.inr (.inr (.inr (.inr (by rw [hcel] at e; exact List.mem_append_left _ (List.mem_filterMap.mpr ⟨_, mem_of_lookup e, e⟩)))))))⟩
 ·intro i s₀ s vs hi C W hE hbs ht
  exact htest env _ _ _ i s₀ s vs hEnv (Zk.gen (n := 3) R') hi C W hE (fun q hq => hbs q (List.mem_append_right _ hq)) ht
 ·intro s₀ s x
  refine Zkc ?_
  refine seg_execs_nil ?_
  exact seg_end (.ok (.ret .none)) ⟨rfl, rfl, x⟩
theorem Zhr : mroOf (.type "slice") = pure [.type "slice", .type "object"] := by rw [mroOf_type]; kernel_rfl
theorem Zfo : typeLookup (.type "slice") "__new__" = pure (some (.builtin "slice.__new__")) := by rw [typeLookup_type, builtinLookup_eq_fast]; kernel_rfl
theorem Zmy : isSubtype (.type "slice") (.type "slice") = pure true := by rw [isSubtype_type]; kernel_rfl
theorem Zga : Slot "slice" "__init__" "object.__init__" :=
 .of (owner := "object") (n := "__init__") (by rw [typeLookup_type, builtinLookup_eq_fast]; kernel_rfl) (by decide +kernel) (by decide +kernel) (by decide +kernel)
  (by first | exact .inl (by decide +kernel) | exact .inr (by decide +kernel)) (by rw [isSubtype_type]; kernel_rfl)
theorem Zit : TypeCalled "slice" "slice.__new__" "object.__init__" :=
 ⟨by decide +kernel, by decide +kernel, ⟨_, _, Zhr⟩, madeBy_type Zhr Zfo (by decide +kernel), by decide +kernel, by rw [isSubtype_type]; kernel_rfl, Zga⟩
theorem Zgy (a b : Value) : checkTypeCall "slice" ⟨[a, b], []⟩ = pure () := by kernel_rfl
theorem Zhj (a b : Value) : checkBuiltinCall "slice.__new__" ⟨[.type "slice", a, b], []⟩ = pure () := by kernel_rfl
theorem Zf2 : entryFor table "slice.__new__" = some Builtin.«slice.__new__» := entryFor_of_tree (by kernel_rfl)
theorem Zmq (a b : Value) :
  Meets (Builtin.«slice.__new__» ⟨[.type "slice", a, b], []⟩) (fun _ R s => R (.ok (.ret (Value.ref s.heap.objs.size))) { s with heap := s.heap.push { cls := Value.type "slice", data := Data.fields #[a, b, .none] } }) :=
 .of_wp fun prog w A R s h => by
  have hsub := Zmy
  obtain ⟨hp, g, d, tk, os⟩ := s; wp_walk; exact ⟨_, rfl, h⟩
noncomputable abbrev Zml (a b : Value) : Obj := { cls := .type "slice", data := .fields #[a, b, .none] }
noncomputable def Zeq (v : Option Int) (dflt n : Int) : Int := match v with
 | none => dflt
 | some i => max 0 (min (if i < 0 then i + n else i) n)
theorem Zib {T : List Nat} {lo hi : Option Int} {a b : Nat} (hA : Zeq lo 0 T.length = a) (hB : Zeq hi T.length T.length = b) (ha : a ≤ T.length) (hb : b ≤ T.length) : Txt.slice (mkS T) lo hi = mkS ((T.drop a).take (b - a)) := by
 have e : Builtin.Str.strSliceIndices lo hi 1 T.length = (List.range (b - a)).map (a + ·) := by
  have e1 : Builtin.Str.strSliceIndices lo hi 1 T.length = sliceRange (Zeq lo 0 T.length) (Zeq hi T.length T.length) 1 := by
   unfold Builtin.Str.strSliceIndices Zeq
   cases lo <;> cases hi <;> simp
  rw [e1, hA, hB]
  unfold sliceRange
  have e2 : (if (1 : Int) > 0 then (if (a : Int) < b then ((b : Int) - a + 1 - 1) / 1 else 0) else (if (a : Int) > b then ((a : Int) - b - 1 - 1) / (-1) else 0)).toNat = b - a := by
   rw [if_pos (by decide)]
   split
   ·rw [Int.ediv_one, Int.add_sub_cancel]; exact Int.toNat_sub b a
   ·exact (Nat.sub_eq_zero_of_le (Int.ofNat_le.mp (Int.not_lt.mp ‹_›))).symm
  show (List.map (fun k : Nat => ((a : Int) + 1 * (k : Int)).toNat) (List.range (if (1 : Int) > 0 then (if (a : Int) < b then ((b : Int) - a + 1 - 1) / 1 else 0) else (if (a : Int) > b then ((a : Int) - b - 1 - 1) / (-1) else 0)).toNat)) = _
  rw [e2]
  refine List.map_congr_left fun k _ => ?_
  rw [Int.one_mul]; rfl
 have e3 : (mkS T).length = T.length := Zv T
 unfold Txt.slice
 rw [e3, e]
 have e4 : (((List.range (b - a)).map (a + ·)).filterMap ((mkS T).cps[·]?)) = (T.drop a).take (b - a) := by
  have : ∀ i : Nat, (mkS T).cps[i]? = T[i]? := fun i => by simp [mkS]
  simp only [this]
  by_cases hab : a ≤ b
  ·exact StrLaws.picks T (b - a) a (by simp +arith [*])
  ·have : b - a = 0 := Nat.sub_eq_zero_of_le (Nat.le_of_not_le hab)
   rw [this]; simp
 rw [e4]
 split
 ·rename_i h
  simp at h
  have e5 : a = 0 ∧ b = T.length ∨ T.length = 0 := by lia
  rcases e5 with ⟨rfl, rfl⟩ | h0
  ·simp
  ·have : T = [] := List.eq_nil_of_length_eq_zero h0
   subst this
   simp
 ·rfl
theorem mxk (k n : Nat) : max 0 (min (k : Int) n) = ((min k n : Nat) : Int) := by
 rcases Nat.le_total k n with h | h
 ·rw [Nat.min_eq_left h, Int.min_eq_left (Int.ofNat_le.mpr h)]; exact Int.max_eq_right (Int.natCast_nonneg _)
 ·rw [Nat.min_eq_right h, Int.min_eq_right (Int.ofNat_le.mpr h)]; exact Int.max_eq_right (Int.natCast_nonneg _)
theorem mxn (k n : Nat) : max 0 (min (-(k : Int) + n) n) = ((n - k : Nat) : Int) := by
 rw [Int.min_eq_left (by have := Int.add_le_add_right (Int.neg_nonpos_of_nonneg (Int.natCast_nonneg k)) (n : Int); rwa [Int.zero_add] at this), Int.max_comm, ← Int.toNat_eq_max, Int.add_comm, ← Int.sub_eq_add_neg, Int.toNat_sub]
theorem Zfx {T : List Nat} {k : Nat} (hk : 1 ≤ k) : Txt.slice (mkS T) (some (-(k : Int))) none = mkS (T.drop (T.length - k)) := by
 rw [Zib (a := T.length - k) (b := T.length) (by unfold Zeq; simp only; rw [if_pos (Int.neg_neg_of_pos (nz hk))]; exact mxn k _) rfl (Nat.sub_le T.length k) (Nat.le.refl)]
 congr 1
 exact List.take_of_length_le (by simp)
theorem Zfi {T : List Nat} {k : Nat} : Txt.slice (mkS T) none (some (k : Int)) = mkS (T.take k) := by
 rw [Zib (a := 0) (b := min k T.length) rfl (by unfold Zeq; simp only; rw [if_neg (Int.not_lt.mpr (Int.natCast_nonneg _))]; exact mxk k _) (Nat.le_add_left 0 T.length) (Nat.min_le_right k T.length)]
 congr 1
 simp [List.take_eq_take_iff]
theorem Zfy {T : List Nat} {k : Nat} : Txt.slice (mkS T) (some (k : Int)) none = mkS (T.drop k) := by
 rw [Zib (a := min k T.length) (b := T.length) (by unfold Zeq; simp only; rw [if_neg (Int.not_lt.mpr (Int.natCast_nonneg _))]; exact mxk k _) rfl (Nat.min_le_right k T.length) (Nat.le.refl)]
 congr 1
 by_cases h : k ≤ T.length
 ·rw [Nat.min_eq_left h]; exact List.take_of_length_le (by simp)
 ·rw [List.drop_eq_nil_of_le (by first | decide | grind), List.drop_eq_nil_of_le (by first | decide | lia)]; simp
theorem Zk0 {T : List Nat} {k : Nat} (hk : 1 ≤ k) : Txt.slice (mkS T) none (some (-(k : Int))) = mkS (T.take (T.length - k)) := by
 rw [Zib (a := 0) (b := T.length - k) rfl (by unfold Zeq; simp only; rw [if_pos (Int.neg_neg_of_pos (nz hk))]; exact mxn k _) (Nat.le_add_left 0 T.length) (Nat.sub_le T.length k)]
 congr 1
theorem Loc.lenS (C : Loc env s₀ X vs l s) {T : List Nat} {t : Tok} {Q : Value → Shared → Prop} (hsz : T.length ≤ 1000000) (h : ∀ s' t', Loc env s₀ X vs l s' → Q (.int (T.length : Nat) t') s') : wpAny (model prog w) A (call (.builtin "len") [.str (mkS T) t]) Q E s := by
 refine PySem.P.len_str (by rw [Zv]; lia) ?_
 rw [Zv]
 exact h _ _ C.tok
theorem Loc.sliceC (C : Loc env s₀ X vs l s) {a b : Value} {Q : Value → Shared → Prop} (h : ∀ r s', Loc env s₀ X vs ((r, Zml a b) :: l) s' → Q (.ref r) s') : wpAny (model prog w) A (call (.type "slice") [a, b]) Q E s := by
 have e : Ext [] [] s { s with heap := s.heap.push (Zml a b) } := C.extK (tk := s.toks) Zd
 exact callType_new Zit (by decide) (Zgy _ _) (Zhj _ _) (fun obj => PySem.F.initArgs_range_2 obj _ _) Zf2 (Zmq a b) ⟨⟨_, Heap.get?_push_size _ rfl, rfl⟩, h _ _ (C.add e Zc C.big (Heap.get?_push_size _ rfl))⟩
theorem Loc.subS (C : Loc env s₀ X vs l s) {slice : Expr} {T : List Nat} {k : Nat} {t u : Tok} {c : Nat} {Q : Value → Shared → Prop} (hk : k < 1000000) (hc : T[k]? = some c) (h : ∀ s' t', Loc env s₀ X vs l s' → Q (.str (mkS [c]) t') s')
  (hs : ∀ k : Int, subscripted slice false (.str (mkS T) t) (.int k u) = operate [.str (mkS T) t, .int k u] (getItem (.str (mkS T) t) (.int k u)) := by with_unfolding_all exact fun _ => rfl) : Zgz prog w A E slice Q (.str (mkS T) t) (.int k u) s := by
 have hlt : k < T.length := (List.getElem?_eq_some_iff.mp hc).1
 refine ⟨"str", _, _, typeIs_str _ _ _, PySem.F.slot_str_getitem.lookup, hs k, PySem.P.getItem_str (c := c) ?_ ?_ (h _ _ C.tok)⟩
 ·simp only [Bool.or_eq_false_iff, decide_eq_false_iff_not]; lia
 ·rw [Zv]
  unfold seqIndex?
  have : ¬ ((k : Int) < 0) := by lia
  simp [this, hlt, mkS]
  have := hc
  rw [List.getElem?_eq_some_iff] at this
  exact this.2
theorem Loc.subSS (C : Loc env s₀ X vs l s) {slice : Expr} {T : List Nat} {r : Addr} {t : Tok} {lo hi : Option (Int × Tok)} {vl vh : Value} {Q : Value → Shared → Prop} (hr : s.heap.IsSliceOf r vl vh .none) (hl : vl = partValue lo) (hh : vh = partValue hi) (hsz : T.length ≤ 1000000)
  {T' : List Nat} (hT : Txt.slice (mkS T) (lo.map (·.1)) (hi.map (·.1)) = mkS T') (h : ∀ s' t', Loc env s₀ X vs l s' → Q (.str (mkS T') t') s')
  (hs : autoParam (subscripted slice false (.str (mkS T) t) (.ref r) = operate [.str (mkS T) t, .ref r] (getItem (.str (mkS T) t) (.ref r))) aU) : Zgz prog w A E slice Q (.str (mkS T) t) (.ref r) s := by
 subst hl hh
 refine Z1 hr fun oS hr1 hr2 hr3 => ?_
 refine ⟨"str", _, _, typeIs_str _ _ _, PySem.F.slot_str_getitem.lookup, hs, wpAny_getItem_str_slice (l := lo) (u := hi) (st := none) ⟨oS, hr1, hr2, hr3⟩ rfl ?_⟩
 have e : Txt.slice (mkS T) (lo.map (·.1)) (hi.map (·.1)) = (if ((((none : Option (Int × Tok)).map (·.1)).getD 1 : Int) == 1 && (slicePicked (mkS T) lo hi none).length == (mkS T).length) = true then mkS T else ⟨((slicePicked (mkS T) lo hi none).filterMap ((mkS T).cps[·]?)).toArray⟩) := rfl
 refine post_val_or_str ?_
 rw [← e, hT]
 refine ⟨?_, fun t' k => h _ t' (C.tok (tk := k))⟩
 have := Txt.slice_le (mkS T) (lo.map (·.1)) (hi.map (·.1))
 rw [hT, Zv, Zv] at this
 rw [sizeLine_eq, Zv]; exact kA (Nat.le_trans ‹_› ‹_›) rfl
noncomputable def noP (T : List Nat) : Bool := T.headD 123 != 123
noncomputable def Znb (tag suf T : List Nat) : Bool := T == tag || T.drop (T.length - suf.length) == suf
noncomputable def Zpf (ns T : List Nat) : Bool := T.take ns.length == ns
theorem Zbp (a b : List Nat) : (mkS a == mkS b) = (a == b) := by
 by_cases h : a = b
 ·subst h; simp
 ·rw [beq_false_of_ne h, beq_false_of_ne (fun q => h (Zc5.mp q))]
theorem Loc.base (C : Loc env s₀ X vs l s) : Loc env s [] vs [] s :=
 ⟨Ext.refl _ _ _, C.fr, C.bd, fun _ h => (nomatch h), fun _ h => (nomatch h), fun _ h => (nomatch h), List.nodup_nil, fun _ h => (nomatch h)⟩
theorem Zh0 (C : Loc env s₀ X vs l s) {T : List Nat} {t : Tok} (h1 : ("_isinstance", Value.builtin "isinstance") ∈ vs) (h2 : ("_str", Value.type "str") ∈ vs) (h3 : ("el_tag", Value.str (mkS T) t) ∈ vs) {p1 p2 p3 p4 : Pos} {Q : Bool → Shared → Prop} (h : Q true s) :
  wpAny (model prog w) A (isTrue (.Call (.Name (ofString "_isinstance") p1) [.Name (ofString "el_tag") p2, .Name (ofString "_str") p3] [] p4) env (eval (.Call (.Name (ofString "_isinstance") p1) [.Name (ofString "el_tag") p2, .Name (ofString "_str") p3] [] p4) env)) Q E s := by
 refine Zb1 ?_
 refine Zf ?_
 refine C.name h1 ?_
 refine xb1 ?_
 refine Za ?_
 refine C.name h3 ?_
 refine Za ?_
 refine C.name h2 ?_
 refine spliced_none ?_
 exact IsiPair.str_str (wpAny_truthy_bool h)
theorem Zpq (C : Loc env s₀ X vs [] s) {T : List Nat} {t : Tok} (h1 : ("_isinstance", Value.builtin "isinstance") ∈ vs) (h2 : ("_str", Value.type "str") ∈ vs) (h3 : ("el_tag", Value.str (mkS T) t) ∈ vs) (hT : T ≠ [])
  {p1 p2 p3 p4 p5 p6 p7 p8 p9 p10 : Pos} {k1 k2 : Nat} :
  wpAny (model prog w) A (isTrue (.BoolOp .And [.Call (.Name (ofString "_isinstance") p1) [.Name (ofString "el_tag") p2, .Name (ofString "_str") p3] [] p4,
   .Compare (.Subscript (.Name (ofString "el_tag") p5) (.Constant (.int 0) k1 p6) p7) [.NotEq] [.Constant (.str (ofString "{")) k2 p8] p9] p10) env (eval (.BoolOp .And [.Call (.Name (ofString "_isinstance") p1) [.Name (ofString "el_tag") p2, .Name (ofString "_str") p3] [] p4,
   .Compare (.Subscript (.Name (ofString "el_tag") p5) (.Constant (.int 0) k1 p6) p7) [.NotEq] [.Constant (.str (ofString "{")) k2 p8] p9] p10) env)) (fun b s' => b = noP T ∧ Ext [] [] s s') (fun _ _ => False) s := by
 replace C := C.base
 refine isTrue_and (Zh0 C h1 h2 h3 ?_)
 refine ifP rfl ?_
 refine isTrue_and ?_
 refine Z0 ?_
 refine Zad ?_
 refine C.name h3 ?_
 obtain ⟨c, r, rfl⟩ : ∃ c r, T = c :: r := by
  cases T with
  | nil => exact absurd rfl hT
  | cons c r => exact ⟨c, r, rfl⟩
 refine C.cint ?_; clear C; intro s t C
 refine C.subS (k := 0) (c := c) (by decide) rfl ?_; clear C; intro s t C
 refine C.cstr ?_; clear C; intro s t C
 refine ne_str (wpAny_truthy_bool ?_)
 have e : (mkS [c] != ofString "{") = noP (c :: r) := by
  show (!(mkS [c] == mkS [123])) = (c != 123)
  rw [Zbp]
  simp [bne]
 rw [e]
 cases h : noP (c :: r) with
 | true => exact isTrue_and_nil ⟨rfl, C.ext⟩
 | false => exact ⟨rfl, C.ext⟩
theorem Zn5 (C : Loc env s₀ X vs [] s) {T ns : List Nat} {t tn tk : Tok} {r : Addr} (h1 : ("_isinstance", Value.builtin "isinstance") ∈ vs) (h2 : ("_str", Value.type "str") ∈ vs) (h3 : ("el_tag", Value.str (mkS T) t) ∈ vs) (h4 : ("ns", Value.str (mkS ns) tn) ∈ vs) (h5 : ("ns_only", Value.ref r) ∈ vs)
  (hr : s.heap.get? r = some (Zml .none (.int (ns.length : Nat) tk))) (hT : T.length ≤ 1000)
  {p1 p2 p3 p4 p5 p6 p7 p8 p9 p10 : Pos} :
  wpAny (model prog w) A (isTrue (.BoolOp .And [.Call (.Name (ofString "_isinstance") p1) [.Name (ofString "el_tag") p2, .Name (ofString "_str") p3] [] p4,
   .Compare (.Subscript (.Name (ofString "el_tag") p5) (.Name (ofString "ns_only") p6) p7) [.Eq] [.Name (ofString "ns") p8] p9] p10) env (eval (.BoolOp .And [.Call (.Name (ofString "_isinstance") p1) [.Name (ofString "el_tag") p2, .Name (ofString "_str") p3] [] p4,
   .Compare (.Subscript (.Name (ofString "el_tag") p5) (.Name (ofString "ns_only") p6) p7) [.Eq] [.Name (ofString "ns") p8] p9] p10) env)) (fun b s' => b = Zpf ns T ∧ Ext [] [] s s') (fun _ _ => False) s := by
 replace C := C.base
 refine isTrue_and (Zh0 C h1 h2 h3 ?_)
 refine ifP rfl ?_
 refine isTrue_and ?_
 refine Z0 ?_
 refine Zad ?_
 refine C.name h3 ?_
 refine C.name h5 ?_
 refine C.subSS (lo := none) (hi := some ((ns.length : Nat), tk)) ⟨_, hr, rfl, rfl⟩ rfl rfl (kA ‹_› rfl) Zfi ?_; clear C; intro s t C
 refine C.name h4 ?_
 refine eq_str (wpAny_truthy_bool ?_)
 rw [Zbp]
 cases h : T.take ns.length == ns with
 | true => exact isTrue_and_nil ⟨h.symm, C.ext⟩
 | false => exact ⟨h.symm, C.ext⟩
theorem Zn6 (C : Loc env s₀ X vs [] s) {T tag suf : List Nat} {t tn tm tk : Tok} {r : Addr} (h1 : ("_isinstance", Value.builtin "isinstance") ∈ vs) (h2 : ("_str", Value.type "str") ∈ vs) (h3 : ("el_tag", Value.str (mkS T) t) ∈ vs) (h4 : ("suffix", Value.str (mkS suf) tn) ∈ vs) (h5 : ("no_ns", Value.ref r) ∈ vs) (h6 : ("tag", Value.str (mkS tag) tm) ∈ vs)
  (hr : s.heap.get? r = some (Zml (.int (-((suf.length : Nat) : Int)) tk) .none)) (hT : T.length ≤ 1000) (hsuf : 1 ≤ suf.length)
  {p1 p2 p3 p4 p5 p6 p7 p8 p9 p10 p11 p12 p13 p14 : Pos} :
  wpAny (model prog w) A (isTrue (.BoolOp .Or [.Compare (.Name (ofString "el_tag") p11) [.Eq] [.Name (ofString "tag") p12] p13, .BoolOp .And [.Call (.Name (ofString "_isinstance") p1) [.Name (ofString "el_tag") p2, .Name (ofString "_str") p3] [] p4,
   .Compare (.Subscript (.Name (ofString "el_tag") p5) (.Name (ofString "no_ns") p6) p7) [.Eq] [.Name (ofString "suffix") p8] p9] p10] p14) env (eval (.BoolOp .Or [.Compare (.Name (ofString "el_tag") p11) [.Eq] [.Name (ofString "tag") p12] p13, .BoolOp .And [.Call (.Name (ofString "_isinstance") p1) [.Name (ofString "el_tag") p2, .Name (ofString "_str") p3] [] p4,
   .Compare (.Subscript (.Name (ofString "el_tag") p5) (.Name (ofString "no_ns") p6) p7) [.Eq] [.Name (ofString "suffix") p8] p9] p10] p14) env)) (fun b s' => b = Znb tag suf T ∧ Ext [] [] s s') (fun _ _ => False) s := by
 replace C := C.base
 refine isTrue_or (Z0 ?_)
 refine C.name h3 ?_
 refine C.name h6 ?_
 refine eq_str (wpAny_truthy_bool ?_)
 rw [Zbp]
 unfold Znb
 cases h : T == tag with
 | true => exact ⟨rfl, C.ext⟩
 | false =>
  rw [if_neg (by decide), Bool.false_or]
  refine isTrue_or ?_
  refine isTrue_and (Zh0 C h1 h2 h3 ?_)
  refine ifP rfl ?_
  refine isTrue_and ?_
  refine Z0 ?_
  refine Zad ?_
  refine C.name h3 ?_
  refine C.name h5 ?_
  refine C.subSS (lo := some (-((suf.length : Nat) : Int), tk)) (hi := none) ⟨_, hr, rfl, rfl⟩ rfl rfl (kA ‹_› rfl) (Zfx hsuf) ?_; clear C; intro s t C
  refine C.name h4 ?_
  refine eq_str (wpAny_truthy_bool ?_)
  rw [Zbp]
  cases h : T.drop (T.length - suf.length) == suf with
  | true => exact isTrue_and_nil ⟨rfl, C.ext⟩
  | false => exact isTrue_or_nil ⟨rfl, C.ext⟩
theorem Zsh {α : Type} {c1 c2 c3 : Prop} {d1 : Decidable c1} {d2 : Decidable c2} {d3 : Decidable c3} {x r : α} (h : c3) : (if c1 then x else if c2 then x else if c3 then x else r) = x := by
 rw [if_pos h]
 by_cases a : c1
 ·exact if_pos a
 ·rw [if_neg a]
  by_cases b : c2
  ·exact if_pos b
  ·exact if_neg b
theorem fm0 {f : Expr → Option Str} {a b : Expr} (ha : f a = none) (hb : f b = none) : (((List.filterMap f [a, b]).length != 2 || (List.filterMap f [a, b]).eraseDups.length != (List.filterMap f [a, b]).length)) = true := by
 rw [List.filterMap_cons_none ha, List.filterMap_cons_none hb]; rfl
theorem Zcr {env : Env} {x y : Str} {p1 p2 p3 p4 : Pos} {k1 k2 : Nat} {a b : Expr} (hx : env.kindOf x ≠ some .local) (hy : env.kindOf y ≠ some .local) :
  swappedStores [.Tuple [.Name x p1, .Name y p2] k1 p3] (.Tuple [a, b] k2 p4) env = Pure.pure none := by
 have hx' : (env.kindOf x == some NameKind.local) = false := beq_eq_false_iff_ne.mpr hx
 have hy' : (env.kindOf y == some NameKind.local) = false := beq_eq_false_iff_ne.mpr hy
 have nx : ∀ b : Bool, ¬ (env.kindOf x == some NameKind.local && b) = true := fun b => by rw [hx']; exact Bool.false_ne_true
 have ny : ∀ b : Bool, ¬ (env.kindOf y == some NameKind.local && b) = true := fun b => by rw [hy']; exact Bool.false_ne_true
 refine Zsh (fm0 ?_ ?_)
 ·exact if_neg (nx _)
 ·exact if_neg (ny _)
theorem Zl5 {env : Env} (names : List (Str × NameKind)) : ∀ (acc : List (Str × Addr)) (x : Str) (c : Addr), (names.foldl (fun cs p => if p.2 == NameKind.free then (p.1, (env.cells.lookup p.1).getD 0) :: cs else cs) acc).lookup x = some c → (x, NameKind.free) ∈ names ∨ (acc.lookup x).isSome = true := by
 induction names with
 | nil => exact fun acc x c h => .inr (by rw [show acc.lookup x = some c from h]; rfl)
 | cons p r ih =>
  intro acc x c h
  refine (ih _ x c h).elim (fun h => .inl (.tail _ h)) fun h => ?_
  dsimp only at h
  by_cases hk : (p.2 == NameKind.free) = true
  ·rw [if_pos hk, List.lookup_cons] at h
   cases hx : x == p.1 with
   | true => exact .inl (by rw [eq_of_beq hx, ← eq_of_beq hk]; exact M0)
   | false => rw [hx] at h; exact .inr h
  ·rw [if_neg hk] at h; exact .inr h
variable {xs : List (String × Value)}
theorem Loc.toNew (C : Loc env s [] vs l s') (O : Zbw env s) (xs : List (String × Value)) : (∀ p ∈ xs, p ∈ vs ∧ env.kindOf (ofString p.1) = some .cell) → (xs.map (·.1)).Nodup →
  ∃ cs : List (Addr × Obj), Zan s s' (cs ++ l) ∧ (∀ q ∈ cs, ∃ p ∈ xs, env.cells.lookup (ofString p.1) = some q.1) ∧ ∀ h : Heap, (∀ q ∈ cs, h.get? q.1 = some q.2) → ∀ p ∈ xs, ∃ c, env.cells.lookup (ofString p.1) = some c ∧ h.IsCell c (some p.2) := by
 induction xs with
 | nil => exact fun _ _ => ⟨[], ⟨fun p hp => ⟨(C.own p hp).1.resolve_left (fun h => nomatch h), (C.own p hp).2, C.led p hp⟩, C.nd, C.fc⟩, fun _ h => (nomatch h), fun _ _ _ h => (nomatch h)⟩
 | cons p r ih =>
  intro hx hnd
  rw [List.map_cons, List.nodup_cons] at hnd
  refine Z1 (ih (fun q hq => hx q (.tail _ hq)) hnd.2) fun cs N hc hh => ?_
  obtain ⟨h1, h2⟩ := hx p M0
  obtain ⟨c, e1, e2⟩ : ∃ c, env.cells.lookup (ofString p.1) = some c ∧ s'.heap.IsCell c (some p.2) := by
   rcases C.bd p h1 with ⟨a, _⟩ | ⟨c, _, a, b⟩
   ·rw [h2] at a; cases a
   ·exact ⟨c, a, b⟩
  refine Zo e2 fun o e3 e4 => ?_
  obtain ⟨n1, n2⟩ := O.2.2 _ _ h2 e1
  refine ⟨(c, o) :: cs, ⟨fun q hq => ?_, ?_, fun q hq fd e => ?_⟩, fun q hq => ?_, fun h hh' q hq => ?_⟩
  ·rcases List.mem_cons.mp hq with rfl | hq
   ·exact ⟨n1, n2, e3⟩
   ·exact N.1 q hq
  ·show (c :: (cs ++ l).map (·.1)).Nodup
   rw [List.nodup_cons]
   refine ⟨fun hm => ?_, N.2.1⟩
   rw [List.map_append] at hm
   rcases List.mem_append.mp hm with hm | hm
   ·refine Zo (List.mem_map.mp hm) fun q hq e => ?_
    refine Zo (hc q hq) fun p' hp' e' => ?_
    have e : q.1 = c := e
    rw [e] at e'
    have := Zah.mp (C.fr.inj _ _ c e' e1)
    exact hnd.1 (List.mem_map.mpr ⟨p', hp', this⟩)
   ·refine Zo (List.mem_map.mp hm) fun q hq e => ?_
    have e : q.1 = c := e
    exact (C.off q hq).2 _ (e ▸ e1)
  ·rcases List.mem_cons.mp hq with rfl | hq
   ·rw [show o.data = .cell (some p.2) from e4] at e; cases e
   ·exact N.2.2 q hq fd e
  ·rcases List.mem_cons.mp hq with rfl | hq
   ·exact ⟨p, M0, e1⟩
   ·refine Zo (hc q hq) fun p' hp' e' => ?_
    exact ⟨p', .tail _ hp', e'⟩
  ·rcases List.mem_cons.mp hq with rfl | hq
   ·exact ⟨c, e1, o, hh' (c, o) M0, e4⟩
   ·exact hh h (fun q' hq' => hh' q' (.tail _ hq')) q hq
theorem Clo.ofCells (C : Loc env s₀ X vs l s) {names : List (Str × NameKind)} {h : Heap} (hcl : ∀ p ∈ names, p.2 = .free → (env.cells.lookup p.1).isSome = true) (hall : (names.all fun p => p.2 != .free || (xs.map fun q => ofString q.1).contains p.1) = true)
  (hk : (xs.all fun p => names.contains (ofString p.1, NameKind.free)) = true)
  (hc : ∀ p ∈ xs, ∃ c, env.cells.lookup (ofString p.1) = some c ∧ h.IsCell c (some p.2)) : Clo (Zb0 env names) xs h := by
 obtain ⟨l1, l2⟩ := Zfe (env := env) names [] hcl (fun _ _ e => by cases e)
 refine ⟨fun x c e => ?_, fun x y c e1 e2 => C.fr.inj x y c (l1 _ _ e1) (l1 _ _ e2), fun p hp => ?_⟩
 ·have e' := l1 x c e
  refine ⟨C.fr.nt c (.inr ⟨x, e'⟩), ?_⟩
  rcases Zl5 names [] x c e with hm | hm
  ·have := List.all_eq_true.mp hall _ hm
   have : x ∈ xs.map fun q => ofString q.1 := by simpa using this
   obtain ⟨q, hq, rfl⟩ := List.mem_map.mp this
   refine Zo (hc q hq) fun c' e1 e2 => ?_
   rw [e'] at e1; cases e1
   exact ⟨_, e2⟩
  ·cases hm
 ·refine Zo (hc p hp) fun c e1 e2 => ?_
  have hm : (ofString p.1, NameKind.free) ∈ names := by simpa using List.all_eq_true.mp hk _ hp
  obtain ⟨c', hc'⟩ := Option.isSome_iff_exists.mp (l2 (ofString p.1) (.inl hm))
  have := l1 _ _ hc'
  rw [e1] at this; cases this
  exact ⟨c, hc', e2⟩
noncomputable def Zov : Stmt → List Stmt
 | .If _ b _ _ => b
 | _ => []
noncomputable def Zoy : Stmt → List Stmt
 | .If _ _ b _ => b
 | _ => []
noncomputable def pt1 : Stmt := (Zl (top 2)).getD 1 (.Pass default)
noncomputable def pt2 : Stmt := (Zoy pt1).getD 0 (.Pass default)
noncomputable def pt3 : Stmt := (Zoy pt2).getD 0 (.Pass default)
noncomputable def pt4 : Stmt := (Zoy pt3).getD 0 (.Pass default)
noncomputable def Zsd : Stmt := (Zov pt2).getD 0 (.Pass default)
noncomputable def Zsm : Stmt := (Zov pt3).getD 3 (.Pass default)
noncomputable def Zsq : Stmt := (Zov pt4).getD 2 (.Pass default)
theorem Znn (T : List Nat) (a b : Nat) : (T ++ [a, b]).drop ((T ++ [a, b]).length - 2) = [a, b] := by
 have e : (T ++ [a, b]).length - 2 = T.length := by simp
 rw [e]; exact List.drop_left
theorem Znu (T : List Nat) (a b : Nat) : (T ++ [a, b]).take ((T ++ [a, b]).length - 1) = T ++ [a] := by
 have e : (T ++ [a, b]).length - 1 = (T ++ [a]).length := by simp
 have e2 : T ++ [a, b] = (T ++ [a]) ++ [b] := by simp
 rw [e, e2]; exact List.take_left
noncomputable def Zc4 (prog : Program) (w : World) (K : Frag) (new : List (Addr × Obj)) (f : Addr) (P : List Nat → Bool) : Prop :=
 (∀ h : Heap, (∀ p ∈ new, h.get? p.1 = some p.2) → FnAt f h) ∧
 ∀ (A : Around) (E : Value → Shared → Prop) (s : Shared) (us : List Value) (D : Addr) (xa da : Nat → Addr) (od : Nat → Obj) (tgs : Nat → List Nat) (tts : Nat → Tok) (Q : Value → Shared → Prop), Wd K s.heap → Zk A 10 → (∀ p ∈ new, s.heap.get? p.1 = some p.2) →
  (∀ p ∈ new, ∀ fd, p.2.data = .func fd → s.heap.CodeRec fd.code fd.qualname) → 316 ≤ D → (∀ i, i < us.length → us[i]? = some (.ref (xa i))) → Zbc s.heap xa da od (fun i => .str (mkS (tgs i)) (tts i)) us.length → s.heap.IsList D us.toArray →
  (∀ i, i < us.length → tgs i ≠ [] ∧ (tgs i).length ≤ 1000) →
  (∀ a g Lg F0 s₁, (∀ A', Zk A' 6 → Zg1 prog w A' a g (Zci (fun i => P (tgs i)) us.length 0) (fun i v => ∃ k, k < us.length ∧ ((List.range us.length).filter fun i => P (tgs i))[i]? = some k ∧ us[k]? = some v) (Zgl prog w A' K us (fun i => P (tgs i)) a g Lg F0) ∧ Zgl prog w A' K us (fun i => P (tgs i)) a g Lg F0 0 [Lg] F0 s₁) →
   s.heap.get? Lg = none → g = s.gens.size → Ext [] [] s s₁ → Q (.ref a) s₁) →
  wpAny (model prog w) A (call (.ref f) [.none, .ref D]) Q E s
theorem Zeg {cd : ClassData} (Th : KT K cd) (C : Loc env s [] vs l s') (O : Zbw env s) {st : Stmt} {f : Addr} {name q : Str} {doc pm cv ctv : Value} {P : List Nat → Bool} (hm : (f, fnO name q (Zaj st) (Zl st) (Zb st) (Zb0 env (Zb st).names) doc pm cv ctv) ∈ l)
  (xs : List (String × Value)) (hx : ∀ p ∈ xs, p ∈ vs ∧ env.kindOf (ofString p.1) = some .cell) (hnd : (xs.map (·.1)).Nodup) (hcl : ∀ p ∈ (Zb st).names, p.2 = .free → (env.cells.lookup p.1).isSome = true)
  (ex : List (Addr × Obj)) (hex : ∀ p ∈ ex, p ∈ l) {test : Expr} {q1 q2 q3 q4 q5 q6 q7 q8 q9 r1 r2 : Pos}
  (hbind : ∀ s D, BindsTo s (fnX name q (Zaj st) (Zl st) (Zb st) (Zb0 env (Zb st).names) .none .none doc pm none cv ctv) ⟨[.none, .ref D], []⟩ (Zaf [("context", .none), ("result", .ref D)]))
  (hbody : Zl st = [.For (.Name (ofString "elem") q1) (.Name (ofString "result") r1) [.Assign [.Name (ofString "el_tag") q2] (.Attribute (.Name (ofString "elem") q3) (ofString "tag") q4) q5, .If test [.Expr (.Yield (some (.Name (ofString "elem") q6)) q7) q8] [] q9] [] r2])
  (hkn : ∀ q ∈ xs, q.1 ≠ "elem" ∧ q.1 ≠ "el_tag")
  (htest : ∀ env (A' : Around) X s₀ s vs T t, Zk A' 3 → T ≠ [] → T.length ≤ 1000 → Loc env s₀ X vs [] s → (∀ p ∈ ex, s.heap.get? p.1 = some p.2) → (∀ q ∈ xs, q ∈ vs) → ("el_tag", Value.str (mkS T) t) ∈ vs →
   wpAny (model prog w) A' (isTrue test env (eval test env)) (fun b s' => b = P T ∧ Ext [] [] s s') (fun _ _ => False) s)
  (hall : autoParam (((Zb st).names.all fun p => p.2 != .free || (xs.map fun q => ofString q.1).contains p.1) = true) aK)
  (hk : autoParam ((xs.all fun p => (Zb st).names.contains (ofString p.1, NameKind.free)) = true) aK)
  (hke : autoParam ((Zb st).names.lookup (ofString "elem") = some .local) aK) (hkt : autoParam ((Zb st).names.lookup (ofString "el_tag") = some .local) aK)
  (hkind : ∀ D, ((Zaf [("context", .none), ("result", .ref D)]).all fun y => (Zb st).names.lookup y.1 == some .local) = true := by exact fun _ => by kernel_rfl)
  (hcell : autoParam (((Zb st).names.all fun x => x.2 != .cell) = true) aK)
  (hfree : autoParam ((xs.all fun p => (Zb st).names.lookup (ofString p.1) == some .free) = true) aK)
  (hco : autoParam ((Zb st).isCoroutine = false) aK) (hgen : autoParam ((Zb st).isGenerator = true) aK) (hkk : autoParam ((Zb st).kind = .function) aK) :
  ∃ new, Zc4 prog w K new f P ∧ Zan s s' new := by
 refine Z1 (C.toNew O xs hx hnd) fun cs N _ hcs => ?_
 refine ⟨cs ++ l, ⟨fun h hh => ⟨_, _, _, _, hh _ (List.mem_append_right _ hm)⟩, fun A E s us D xa da od tgs tts Q W R hh hfd hD3 hus hT hl htg hQ => ?_⟩, N⟩
 refine Zqu W R Th (hh _ (List.mem_append_right _ hm)) (hfd _ (List.mem_append_right _ hm) _ rfl) (Clo.ofCells C hcl hall hk (hcs _ fun q hq => hh q (List.mem_append_left _ hq))) ex (fun p hp => ⟨(C.own p (hex p hp)).2, hh p (List.mem_append_right _ (hex p hp))⟩) (hbind s D) hbody hD3 hus hkn hT hl ?_ hQ hke hkt (hkind D) hcell hfree hco hgen hkk
 intro env A' Lg I i s₀ s vs _ R' hi C' _ he hkn' ht
 exact htest env A' _ s₀ s vs (tgs i) (tts i) R' (htg i hi).1 (htg i hi).2 C' he hkn' ht
theorem Zpa (W : Wd K s.heap) (G : KG K) (R : Zk A 10) {cd : ClassData} (T : KT K cd) (hf : FnK K 28 (ofString "_prepare_tag") (ofString "_prepare_tag") (top 2) [] .none 27) {t : Tok} {Q : Value → Shared → Prop}
  (h : ∀ f new s', Zc4 prog w K new f noP → Ext [] [] s s' → Zan s s' new → Q (.ref f) s') : wpAny (model prog w) A (call (.ref 28) [.str (mkS [123, 125, 42]) t]) Q E s := by
 refine Zw W R hf [("tag", .str (mkS [123, 125, 42]) t)] (fun _ _ _ _ _ => BindsTo.of_eq rfl) fun env s₁ hE hO hc C => ?_
 have RD := R.deeper (env := env)
 refine Zq ?_
 refine Zi ?_
 refine Assign_Tuple ?_ (by rfl) (Zcr (by walk_at "K") (by walk_at "K"))
 refine Tuple_ ?_
 refine Za ?_
 walk_at "B"
 refine Za ?_
 walk_at "B"
 refine spliced_none ?_
 refine C.tup (by simp [sizeLine_eq]) ?_; clear C; intro tp s C
 refine C.untup2 RD.hd M0 ?_; clear C; intro s C
 refine C.st hO hc (by walk_at "K") ?_; clear C; intro s C
 refine C.st hO hc (by walk_at "K") ?_; clear C; intro s C
 replace C := C.sub (List.nil_sublist _)
 refine xci ?_
 refine Z0 ?_
 walk_at "N"
 refine C.cstr ?_; clear C; intro s _ C
 refine eq_str (wpAny_truthy_bool ?_)
 refine ifN (by decide) ?_
 refine xci ?_
 refine Z0 ?_
 walk_at "N"
 refine C.cstr ?_; clear C; intro s _ C
 refine eq_str (wpAny_truthy_bool ?_)
 refine ifP (by decide) ?_
 refine Zi ?_
 refine C.defn W (P := 23) hE.code (by decide) (by unfold qualnameIn; rw [hE.qual, show (env.kindOf (ofString "select") == some NameKind.globalExplicit) = false by (unfold Env.kindOf; rw [hE.scope]; kernel_rfl)]; kernel_rfl) (Zak hE.scope hc (by kernel_rfl)) rfl rfl rfl ?_
 intro f cv doc pm ctv s C
 refine C.st hO hc (by walk_at "K") ?_; clear C; intro s C
 refine wpAny_execs_nil ?_
 refine wpAny_execs_nil ?_
 refine xcr ?_
 walk_at "N"
 obtain ⟨new, h1, h2⟩ := Zeg (st := Zsd) (prog := prog) (w := w) (P := noP) T C hO M0 [("_isinstance", .builtin "isinstance"), ("_str", .type "str")] (by walk_at "A") (by simp) (Zak hE.scope hc (by kernel_rfl)) [] (fun _ h => nomatch h) (fun _ _ => BindsTo.of_eq rfl) rfl (by simp)
  (fun env A' X s₀ s vs T t R' hT _ C _ hk ht => Zpq C (hk _ M0) (hk _ M1) ht hT)
 exact h f new _ h1 C.ext h2
theorem Zng (W : Wd K s.heap) (G : KG K) (R : Zk A 10) {cd : ClassData} (T : KT K cd) (hf : FnK K 28 (ofString "_prepare_tag") (ofString "_prepare_tag") (top 2) [] .none 27) {word : List Nat} {t : Tok} {Q : Value → Shared → Prop} (hw : word ≠ [42]) (hlen : word.length ≤ 100)
  (h : ∀ f new s', Zc4 prog w K new f (Znb word (125 :: word)) → Ext [] [] s s' → Zan s s' new → Q (.ref f) s') : wpAny (model prog w) A (call (.ref 28) [.str (mkS (123 :: 42 :: 125 :: word)) t]) Q E s := by
 refine Zw W R hf [("tag", .str (mkS (123 :: 42 :: 125 :: word)) t)] (fun _ _ _ _ _ => BindsTo.of_eq rfl) fun env s₁ hE hO hc C => ?_
 have RD := R.deeper (env := env)
 refine Zq ?_
 refine Zi ?_
 refine Assign_Tuple ?_ (by rfl) (Zcr (by walk_at "K") (by walk_at "K"))
 refine Tuple_ ?_
 refine Za ?_
 walk_at "B"
 refine Za ?_
 walk_at "B"
 refine spliced_none ?_
 refine C.tup (by simp [sizeLine_eq]) ?_; clear C; intro tp s C
 refine C.untup2 RD.hd M0 ?_; clear C; intro s C
 refine C.st hO hc (by walk_at "K") ?_; clear C; intro s C
 refine C.st hO hc (by walk_at "K") ?_; clear C; intro s C
 replace C := C.sub (List.nil_sublist _)
 refine xci ?_
 refine Z0 ?_
 walk_at "N"
 refine C.cstr ?_; clear C; intro s _ C
 refine eq_str (wpAny_truthy_bool ?_)
 refine ifN (by rw [show ofString "{*}*" = mkS [123, 42, 125, 42] from rfl, Zbp]; simpa using hw) ?_
 refine xci ?_
 refine Z0 ?_
 walk_at "N"
 refine C.cstr ?_; clear C; intro s _ C
 refine eq_str (wpAny_truthy_bool ?_)
 refine ifN (by rw [show ofString "{}*" = mkS [123, 125, 42] from rfl, Zbp]; simp) ?_
 refine xci ?_
 refine Z0 ?_
 refine Zad ?_
 walk_at "N"
 refine C.sliceO ?_
 refine wpAny_evalPart_none ?_
 refine wpAny_evalPart_some ?_
 refine C.cint fun s t3 C => ⟨_, _, C, fun r s hr C => ?_⟩
 refine C.subSS (lo := none) (hi := some (3, t3)) hr rfl rfl (by simp; exact kA ‹_› rfl) (Zfi (k := 3)) ?_; clear C; intro s _ C
 refine C.cstr ?_; clear C; intro s _ C
 refine eq_str (wpAny_truthy_bool ?_)
 refine ifP (by rw [show ofString "{*}" = mkS [123, 42, 125] from rfl, Zbp]; rfl) ?_
 refine xca ?_
 refine Zad ?_
 walk_at "N"
 refine C.sliceO ?_
 refine wpAny_evalPart_some ?_
 refine C.cint ?_; clear C; intro s t3 C
 refine wpAny_evalPart_none ⟨_, _, C, fun r s hr C => ?_⟩
 refine C.subSS (lo := some (2, t3)) (hi := none) hr rfl rfl (by simp; exact kA ‹_› rfl) (T' := 125 :: word) (Zfy (k := 2)) ?_; clear C; intro s ts C
 refine C.st hO hc (by walk_at "K") ?_; clear C; intro s C
 refine xca ?_
 refine Zf ?_
 walk_at "B"
 refine xt1 ?_
 refine Za ?_
 refine xun ?_
 refine Zf ?_
 walk_at "B"
 refine xb1 ?_
 refine Za ?_
 walk_at "N"
 refine spliced_none ?_
 refine C.lenS (by simp; exact kA ‹_› rfl) ?_; clear C; intro s _ C
 refine C.ineg ?_; clear C; intro s tn C
 refine Za ?_
 refine wpAny_Constant_none ?_
 refine spliced_none ?_
 refine C.sliceC ?_; clear C; intro r s C
 refine C.st hO hc (by walk_at "K") ?_; clear C; intro s C
 refine xca ?_
 refine Zad ?_
 walk_at "N"
 refine C.sliceO ?_
 refine wpAny_evalPart_some ?_
 refine C.cint ?_; clear C; intro s t3 C
 refine wpAny_evalPart_none ⟨_, _, C, fun r' s hr C => ?_⟩
 refine C.subSS (lo := some (3, t3)) (hi := none) hr rfl rfl (by simp; exact kA ‹_› rfl) (T' := word) (Zfy (k := 3)) ?_; clear C; intro s tt C
 refine C.st hO hc (by walk_at "K") ?_; clear C; intro s C
 refine Zi ?_
 refine C.defn W (P := 23) hE.code (by decide) (by unfold qualnameIn; rw [hE.qual, show (env.kindOf (ofString "select") == some NameKind.globalExplicit) = false by (unfold Env.kindOf; rw [hE.scope]; kernel_rfl)]; kernel_rfl) (Zak hE.scope hc (by kernel_rfl)) rfl rfl rfl ?_
 intro f cv doc pm ctv s C
 refine C.st hO hc (by walk_at "K") ?_; clear C; intro s C
 refine wpAny_execs_nil ?_
 refine wpAny_execs_nil ?_
 refine wpAny_execs_nil ?_
 refine xcr ?_
 walk_at "N"
 obtain ⟨new, h1, h2⟩ := Zeg (st := Zsm) (prog := prog) (w := w) (P := Znb word (125 :: word)) T C hO M0 [("_isinstance", .builtin "isinstance"), ("_str", .type "str"), ("no_ns", .ref r), ("suffix", .str (mkS (125 :: word)) ts), ("tag", .str (mkS word) tt)] (by walk_at "A") (by simp) (Zak hE.scope hc (by kernel_rfl)) [(r, Zml (.int (-(((125 :: word).length : Nat) : Int)) tn) .none)] (fun p hp => by rw [List.mem_singleton.mp hp]; exact M1) (fun _ _ => BindsTo.of_eq rfl) rfl (by simp)
  (fun env A' X s₀ s vs T t R' hT hT2 C he hk ht => Zn6 C (hk _ M0) (hk _ M1) ht (hk _ M3) (hk _ M2) (hk _ M4) (he _ M0) hT2 (by simp))
 exact h f new _ h1 C.ext h2
theorem Znr (W : Wd K s.heap) (G : KG K) (R : Zk A 10) {cd : ClassData} (T : KT K cd) (hf : FnK K 28 (ofString "_prepare_tag") (ofString "_prepare_tag") (top 2) [] .none 27) {c : Nat} {word : List Nat} {t : Tok} {Q : Value → Shared → Prop} (hw : c ≠ 42) (hlen : word.length ≤ 100)
  (h : ∀ f new s', Zc4 prog w K new f (Zpf (123 :: c :: word ++ [125])) → Ext [] [] s s' → Zan s s' new → Q (.ref f) s') : wpAny (model prog w) A (call (.ref 28) [.str (mkS (123 :: c :: word ++ [125, 42])) t]) Q E s := by
 refine Zw W R hf [("tag", .str (mkS (123 :: c :: word ++ [125, 42])) t)] (fun _ _ _ _ _ => BindsTo.of_eq rfl) fun env s₁ hE hO hc C => ?_
 have RD := R.deeper (env := env)
 refine Zq ?_
 refine Zi ?_
 refine Assign_Tuple ?_ (by rfl) (Zcr (by walk_at "K") (by walk_at "K"))
 refine Tuple_ ?_
 refine Za ?_
 walk_at "B"
 refine Za ?_
 walk_at "B"
 refine spliced_none ?_
 refine C.tup (by simp [sizeLine_eq]) ?_; clear C; intro tp s C
 refine C.untup2 RD.hd M0 ?_; clear C; intro s C
 refine C.st hO hc (by walk_at "K") ?_; clear C; intro s C
 refine C.st hO hc (by walk_at "K") ?_; clear C; intro s C
 replace C := C.sub (List.nil_sublist _)
 refine xci ?_
 refine Z0 ?_
 walk_at "N"
 refine C.cstr ?_; clear C; intro s _ C
 refine eq_str (wpAny_truthy_bool ?_)
 refine ifN (by rw [show ofString "{*}*" = mkS [123, 42, 125, 42] from rfl, Zbp]; simp [hw]) ?_
 refine xci ?_
 refine Z0 ?_
 walk_at "N"
 refine C.cstr ?_; clear C; intro s _ C
 refine eq_str (wpAny_truthy_bool ?_)
 refine ifN (by rw [show ofString "{}*" = mkS [123, 125, 42] from rfl, Zbp]; cases word <;> simp) ?_
 refine xci ?_
 refine Z0 ?_
 refine Zad ?_
 walk_at "N"
 refine C.sliceO ?_
 refine wpAny_evalPart_none ?_
 refine wpAny_evalPart_some ?_
 refine C.cint fun s t3 C => ⟨_, _, C, fun r s hr C => ?_⟩
 refine C.subSS (lo := none) (hi := some (3, t3)) hr rfl rfl (by simp; exact kA ‹_› rfl) (Zfi (k := 3)) ?_; clear C; intro s _ C
 refine C.cstr ?_; clear C; intro s _ C
 refine eq_str (wpAny_truthy_bool ?_)
 refine ifN (by rw [show ofString "{*}" = mkS [123, 42, 125] from rfl, Zbp]; cases word <;> simp [hw]) ?_
 refine xci ?_
 refine Z0 ?_
 refine Zad ?_
 walk_at "N"
 refine C.sliceO ?_
 refine wpAny_evalPart_some ?_
 refine xun (C.cint fun s t C => C.ineg fun s t3 C => ?_)
 refine wpAny_evalPart_none ⟨_, _, C, fun r s hr C => ?_⟩
 refine C.subSS (lo := some (-2, t3)) (hi := none) hr rfl rfl (by simp; exact kA ‹_› rfl) (Zfx (k := 2) (by decide)) ?_; clear C; intro s _ C
 have e2 := Znn (123 :: c :: word) 125 42
 rw [e2]
 refine C.cstr ?_; clear C; intro s _ C
 refine eq_str (wpAny_truthy_bool ?_)
 refine ifP (by decide) ?_
 refine xca ?_
 refine Zad ?_
 walk_at "N"
 refine C.sliceO ?_
 refine wpAny_evalPart_none ?_
 refine wpAny_evalPart_some ?_
 refine xun (C.cint fun s t C => C.ineg fun s t3 C => ⟨_, _, C, fun r s hr C => ?_⟩)
 refine C.subSS (lo := none) (hi := some (-1, t3)) hr rfl rfl (by simp; exact kA ‹_› rfl) (Zk0 (k := 1) (by decide)) ?_; clear C; intro s ts C
 have e3 := Znu (123 :: c :: word) 125 42
 rw [e3]
 refine C.st hO hc (by walk_at "K") ?_; clear C; intro s C
 refine xca ?_
 refine Zf ?_
 walk_at "B"
 refine xt1 ?_
 refine Za ?_
 refine wpAny_Constant_none ?_
 refine Za ?_
 refine Zf ?_
 walk_at "B"
 refine xb1 ?_
 refine Za ?_
 walk_at "N"
 refine spliced_none ?_
 refine C.lenS (by simp; exact kA ‹_› rfl) ?_; clear C; intro s tn C
 refine spliced_none ?_
 refine C.sliceC ?_; clear C; intro r s C
 refine C.st hO hc (by walk_at "K") ?_; clear C; intro s C
 refine Zi ?_
 refine C.defn W (P := 23) hE.code (by decide) (by unfold qualnameIn; rw [hE.qual, show (env.kindOf (ofString "select") == some NameKind.globalExplicit) = false by (unfold Env.kindOf; rw [hE.scope]; kernel_rfl)]; kernel_rfl) (Zak hE.scope hc (by kernel_rfl)) rfl rfl rfl ?_
 intro f cv doc pm ctv s C
 refine C.st hO hc (by walk_at "K") ?_; clear C; intro s C
 refine wpAny_execs_nil ?_
 refine wpAny_execs_nil ?_
 refine wpAny_execs_nil ?_
 refine wpAny_execs_nil ?_
 refine xcr ?_
 walk_at "N"
 obtain ⟨new, h1, h2⟩ := Zeg (st := Zsq) (prog := prog) (w := w) (P := Zpf (123 :: c :: word ++ [125])) T C hO M0 [("_isinstance", .builtin "isinstance"), ("_str", .type "str"), ("ns", .str (mkS (123 :: c :: word ++ [125])) ts), ("ns_only", .ref r)] (by walk_at "A") (by simp) (Zak hE.scope hc (by kernel_rfl)) [(r, Zml .none (.int ((123 :: c :: word ++ [125]).length : Nat) tn))] (fun p hp => by rw [List.mem_singleton.mp hp]; exact M1) (fun _ _ => BindsTo.of_eq rfl) rfl (by simp)
  (fun env A' X s₀ s vs T t R' hT hT2 C he hk ht => Zn5 C (hk _ M0) (hk _ M1) ht (hk _ M2) (hk _ M3) (he _ M0) hT2)
 exact h f new _ h1 C.ext h2
theorem Ze7 {p : Nat → Bool} {len : Nat} : Zci p len 0 = ((List.range len).filter p).length := by
 unfold Zci
 rw [Nat.sub_zero, List.range_eq_range']
theorem Zfc {α β : Type} {F : α → β} {idx : List α} {rs : List β} (hl : rs.length = idx.length) (h : ∀ (i : Nat) r, rs[i]? = some r → ∃ k, idx[i]? = some k ∧ r = F k) : rs = idx.map F := by
 refine List.ext_getElem? fun i => ?_
 rw [List.getElem?_map]
 cases e : rs[i]? with
 | none =>
  rw [List.getElem?_eq_none_iff] at e
  rw [List.getElem?_eq_none (by lia)]
  rfl
 | some r =>
  refine Zo (h i r e) fun k e1 e2 => ?_
  rw [e1, e2]; rfl
theorem Zc9 {α : Type} (d : α) (l : List α) : (List.range l.length).map (fun i => l.getD i d) = l := by
 refine List.ext_getElem? fun i => ?_
 rw [List.getElem?_map]
 by_cases h : i < l.length
 ·rw [List.getElem?_range h]; simp [List.getD, h]
 ·rw [List.getElem?_eq_none (by simpa using h), List.getElem?_eq_none (by simpa using h)]; rfl
theorem Zjv {α : Type} (d : α) (q : α → Bool) (l : List α) : ((List.range l.length).filter fun i => q (l.getD i d)).map (fun i => l.getD i d) = l.filter q := by
 have := List.filter_map (f := fun i => l.getD i d) (p := q) (l := List.range l.length)
 rw [Zc9] at this
 rw [this]; rfl
noncomputable def Zdx : List Nat → List Nat → Bool
 | [] => noP
 | c :: r => Zpf (123 :: c :: r ++ [125])
noncomputable def Zfm (w : List Nat) : List Nat → Bool := Znb w (125 :: w)
noncomputable def Zd4 (PL PR : List Nat → Bool) (tgs : Nat → List Nat) (len : Nat) : List Nat := ((List.range len).filter fun i => PL (tgs i)).filter fun i => PR (tgs i)
noncomputable def Zjy (rt : Nat → Value) (inner : List (Addr × Obj)) (rows : List (List Nat)) : Prop :=
 inner.length = rows.length ∧ ∀ (j : Nat) (p : Addr × Obj) r, inner[j]? = some p → rows[j]? = some r → Zy p.2 (r.map rt)
theorem Zjy.snoc {rt : Nat → Value} {inner : List (Addr × Obj)} {rows : List (List Nat)} (g : Zjy rt inner rows) {p : Addr × Obj} {r : List Nat} (h : Zy p.2 (r.map rt)) : Zjy rt (inner ++ [p]) (rows ++ [r]) := by
 refine ⟨by simp [g.1], fun j q t e1 e2 => ?_⟩
 by_cases hj : j < inner.length
 ·rw [List.getElem?_append_left hj] at e1
  rw [List.getElem?_append_left (g.1 ▸ hj)] at e2
  exact g.2 j q t e1 e2
 ·rw [List.getElem?_append_right (Nat.le_of_not_lt hj)] at e1
  rw [List.getElem?_append_right (by rw [← g.1]; exact Nat.le_of_not_lt hj), ← g.1] at e2
  have : j - inner.length = 0 := by
   cases q : j - inner.length with
   | zero => rfl
   | succ m => rw [q] at e1; simp at e1
  rw [this] at e1 e2
  simp at e1 e2
  subst e1 e2
  exact h
theorem Zf9 {M : Model} {f : Expr} {fa : List Expr} {fk : List Keyword} {p pos : Pos} {args : List Expr} {Q : Value → Shared → Prop}
  (h : wpAny M A (eval (.Call f fa fk p) env) (fun f s₁ => wpAny M A (callWith pos f [] (backTo pos (starEach args env)) []) Q E s₁) E s) :
  wpAny M A (eval (.Call (.Call f fa fk p) args [] pos) env) Q E s := by
 show wpAny M A (do callWith pos (← eval (.Call f fa fk p) env) [] (backTo pos (starEach args env)) (backToKw pos (keywordEach [] env))) Q E s
 exact wpAny_bind h
theorem Zl6 (W : Wd K s.heap) (G : KG K) (R : Zk A 10) {cd : ClassData} (T : KT K cd) (hf : FnK K 28 (ofString "_prepare_tag") (ofString "_prepare_tag") (top 2) [] .none 27) {word : List Nat} {t : Tok} {Q : Value → Shared → Prop} (hw : word.head? ≠ some 42) (hlen : word.length ≤ 100)
  (h : ∀ f new s', Zc4 prog w K new f (Zdx word) → Ext [] [] s s' → Zan s s' new → Q (.ref f) s') : wpAny (model prog w) A (call (.ref 28) [.str (mkS (123 :: word ++ [125, 42])) t]) Q E s := by
 cases word with
 | nil => exact Zpa W G R T hf h
 | cons c r => exact Znr W G R T hf (by simpa using hw) (by simp at hlen; exact Nat.le.step hlen) h
structure Zl7 (h : Heap) (xa da : Nat → Addr) (od : Nat → Obj) (tgs : Nat → List Nat) (tts : Nat → Tok) (rt : Nat → Value) (len : Nat) : Prop where
 t : Zbc h xa da od (fun i => .str (mkS (tgs i)) (tts i)) len
 r : ∀ i, i < len → lookIn (ofString "root") (od i) = some (some (rt i)) ∧ handedIn (rt i) = true
 g : ∀ i, i < len → tgs i ≠ [] ∧ (tgs i).length ≤ 1000
theorem Zl7.ext {H : List Nat} {xa da : Nat → Addr} {od : Nat → Obj} {tgs : Nat → List Nat} {tts : Nat → Tok} {rt : Nat → Value} {len : Nat} (d : Zl7 s.heap xa da od tgs tts rt len) (x : Ext [] H s s') : Zl7 s'.heap xa da od tgs tts rt len :=
 ⟨d.t.to fun b o h3 _ e => x.keep _ _ (fun h => nomatch h) (fun ht => absurd h3 (Nat.not_le.mpr (Zz _ ht))) e, d.r, d.g⟩
theorem Zep {fnd : List Nat} {len i : Nat} (h : ∀ k ∈ fnd, k < len) (hi : i < fnd.length) : fnd.getD i 0 < len := by
 have e : fnd[i]? = some fnd[i] := List.getElem?_eq_getElem hi
 rw [List.getD, e]
 exact h _ (List.getElem_mem hi)
theorem Loc.pickC (C : Loc env s₀ [] vs l s) (W : Wd K s₀.heap) (R : Zk A 12) {cd : ClassData} (T : KT K cd) {f DF : Addr} {oF : Obj} {uf : List Value} {new : List (Addr × Obj)} {PR : List Nat → Bool} (h1 : ("sieve", Value.ref f) ∈ vs) (h2 : ("found", Value.ref DF) ∈ vs)
  (hS : Zc4 prog w K new f PR) (hnew : ∀ p ∈ new, p ∈ l) (hF : (DF, oF) ∈ l) (hoF : Zy oF uf) {fnd : List Nat} {len : Nat} {xa da : Nat → Addr} {od : Nat → Obj} {tgs : Nat → List Nat} {tts : Nat → Tok} {rt : Nat → Value} (D : Zl7 s₀.heap xa da od tgs tts rt len)
  (huf : uf = fnd.map fun k => .ref (xa k)) (hfnd : ∀ k ∈ fnd, k < len) (hlen : fnd.length ≤ 1000) {scope : Scope} {p1 p2 p3 p4 p5 p6 p7 pos : Pos} {k1 : Nat} (cs : Z4 env scope (ofString "thing") vs []) {Q : Value → Shared → Prop}
  (h : ∀ D oD s', Zy oD ((fnd.filter fun k => PR (tgs k)).map rt) → Loc env s₀ [] vs ((D, oD) :: l) s' → Q (.ref D) s') :
  wpAny (model prog w) A (eval (.ListComp (.Attribute (.Name (ofString "thing") p1) (ofString "root") p2) [⟨.Name (ofString "thing") p3, .Call (.Name (ofString "sieve") p4) [.Constant .none k1 p5, .Name (ofString "found") p6] [] p7, [], 0⟩] scope pos) env) Q E s := by
 refine Loc.lcG ⟨[], cs⟩ C ?_
 refine Zf ?_
 refine C.name h1 ?_
 refine callWith_F (hS.1 _ fun p hp => C.led p (hnew p hp)) ?_
 refine Za ?_
 refine wpAny_Constant_none ?_
 refine Za ?_
 refine C.name h2 ?_
 refine spliced_none ?_
 refine ⟨hS.1 _ fun p hp => C.led p (hnew p hp), ?_⟩
 have hul : uf.length = fnd.length := by rw [huf, List.length_map]
 have D' := D.ext C.ext
 refine hS.2 A E s uf DF (fun i => xa (fnd.getD i 0)) (fun i => da (fnd.getD i 0)) (fun i => od (fnd.getD i 0)) (fun i => tgs (fnd.getD i 0)) (fun i => tts (fnd.getD i 0)) _ (W.ext C.ext) R.le (fun p hp => C.led p (hnew p hp)) (fun p hp fd e => C.fc p (hnew p hp) fd e) (C.own _ hF).2
  (fun i hi => ?_) ⟨fun i hi => D'.t.x _ (Zep hfnd (hul ▸ hi)), fun i hi => D'.t.d _ (Zep hfnd (hul ▸ hi)), fun i hi => D'.t.t _ (Zep hfnd (hul ▸ hi))⟩ (hoF.at (C.led _ hF)) (fun i hi => D'.g _ (Zep hfnd (hul ▸ hi))) fun a g Lg F0 s₁ hI hL hg x => ?_
 ·rw [huf, List.getElem?_map, List.getElem?_eq_getElem (hul ▸ hi)]
  simp [List.getD, hul ▸ hi]
 obtain ⟨IG, hst⟩ := hI A R.le
 refine IG.self 0 [Lg] F0 s₁ _ _ hst ?_
 have C₁ := C.pure x
 refine fun _ kk => kk l [] a g _ _ _ [Lg] F0 (fun i y => ∃ k, ((List.range uf.length).filter fun i => PR (tgs (fnd.getD i 0)))[i]? = some k ∧ y = rt (fnd.getD k 0)) rfl IG cs hst (fun y hy => by rw [List.mem_singleton.mp hy]; exact C.offNew hL) (by rw [hg]; exact C.ext.gsz) C₁ ?_ ?_ ?_
 ·rw [Ze7, sizeLine_eq]
  have := List.length_filter_le (fun i => PR (tgs (fnd.getD i 0))) (List.range uf.length)
  rw [List.length_range] at this
  lia
 ·rintro i v cenv s₃ N' hi ⟨k, hk, hfi, hv⟩ ce CL CO
  have hkl := Zep hfnd (hul ▸ hk)
  have e : v = .ref (xa (fnd.getD k 0)) := by
   rw [huf, List.getElem?_map, List.getElem?_eq_getElem (hul ▸ hk)] at hv
   cases hv
   simp [List.getD, hul ▸ hk]
  subst e
  have D₃ := D.ext CO.ext
  refine Zaq ?_
  refine CL.name M0 ?_
  refine CL.getA (W.ext CO.ext) (D₃.t.x _ hkl).1 (D₃.t.d _ hkl).1 rfl rfl rfl T.ci T.fr (D.r _ hkl).1 (D.r _ hkl).2 fun s' CL => ⟨⟨k, hfi, rfl⟩, CL.ext⟩
 ·intro D oD s' rs hD hl hG C
  refine h D oD s' ?_ C
  rw [Ze7] at hl
  have e := Zfc (F := fun k => rt (fnd.getD k 0)) hl hG
  have e2 : ((List.range fnd.length).filter fun i => PR (tgs (fnd.getD i 0))).map (fun k => rt (fnd.getD k 0)) = (fnd.filter fun k => PR (tgs k)).map rt := by
   rw [← Zjv 0 (fun k => PR (tgs k)) fnd, List.map_map]; rfl
  rw [e, hul, e2] at hD
  exact hD
theorem Zfb {us : List Value} {ws : List (List Nat)} (h : StrsAre us (ws.map mkS)) {i : Nat} {v : Value} (e : us[i]? = some v) : ∃ x t, v = .str (mkS x) t ∧ ws[i]? = some x := by
 obtain ⟨x, t, rfl, e2⟩ := Zgx h e
 rw [List.getElem?_map] at e2
 cases q : ws[i]? with
 | none => rw [q] at e2; cases e2
 | some y => rw [q] at e2; cases e2; exact ⟨y, t, rfl, rfl⟩
theorem Got.at {G : Nat → Value → List (Addr × Obj) → Prop} {n : Nat} {rs : List (Value × List (Addr × Obj))} (h : Got G (List.range n) rs) {i : Nat} {v : Value} (e : (rs.map (·.1))[i]? = some v) : ∃ new, G i v new ∧ ∀ p ∈ new, p ∈ rs.flatMap (·.2) := by
 rw [List.getElem?_map] at e
 cases q : rs[i]? with
 | none => rw [q] at e; cases e
 | some r =>
  rw [q] at e; cases e
  have hlt : i < n := by
   have := (List.getElem?_eq_some_iff.mp q).1
   rw [h.1, List.length_range] at this; exact this
  refine ⟨r.2, h.2 i i r (List.getElem?_range hlt) q, fun p hp => List.mem_flatMap.mpr ⟨r, List.mem_of_getElem? q, hp⟩⟩
theorem Zqh {α : Type} {a b c : α} {xs ys : List α} : (c :: (xs ++ (b :: a :: ys))).Perm (a :: b :: c :: (xs ++ ys)) := by
 have h1 : (xs ++ (b :: a :: ys)).Perm (b :: a :: (xs ++ ys)) := List.perm_middle.trans (List.perm_middle.cons _)
 exact (h1.cons c).trans (((List.Perm.swap b c _).trans ((List.Perm.swap a c _).cons b)).trans (List.Perm.swap a b _))
theorem Zrc {α : Type} {d i p : α} {xs ys : List α} : (i :: p :: ((xs ++ [d]) ++ ys)).Perm (d :: i :: p :: (xs ++ ys)) := by
 have h1 : ((xs ++ [d]) ++ ys).Perm (d :: (xs ++ ys)) := by
  rw [List.append_assoc]; exact List.perm_middle
 exact ((h1.cons p).cons i).trans (((List.Perm.swap d p _).cons i).trans (List.Perm.swap d i _))
theorem Zj6 {α : Type} {i d p : α} {xs ys : List α} : (d :: i :: p :: (xs ++ ys)).Perm (p :: (xs ++ (i :: d :: ys))) := Zqh.symm
noncomputable def Zct (tgs : Nat → List Nat) (len : Nat) (lw rw : List (List Nat)) : List (List Nat) := lw.flatMap fun x => rw.map fun y => Zd4 (Zdx x) (Zfm y) tgs len
theorem Zgh (tgs : Nat → List Nat) (len : Nat) (rw : List (List Nat)) : ∀ lw, (Zct tgs len lw rw).length = lw.length * rw.length
 | [] => by simp [Zct]
 | x :: r => by
  have := Zgh tgs len rw r
  unfold Zct at this ⊢
  rw [List.flatMap_cons, List.length_append, this, List.length_map, List.length_cons, Nat.succ_mul, Nat.add_comm]
theorem Zko (W : Wd K s.heap) (G : KG K) (R : Zk A 20) {cd : ClassData} (T : KT K cd) (hp : FnK K 28 (ofString "_prepare_tag") (ofString "_prepare_tag") (top 2) [] .none 27) (hf : FnK K 293 (ofString "_law_picks") (ofString "_law_picks") (top 25) [] .none 292)
  {TA LA RA : Addr} {us ul ur : List Value} {lw rw : List (List Nat)} {xa da : Nat → Addr} {od : Nat → Obj} {tgs : Nat → List Nat} {tts : Nat → Tok} {rt : Nat → Value} (D : Zl7 s.heap xa da od tgs tts rt us.length)
  (hT3 : 316 ≤ TA) (hL3 : 316 ≤ LA) (hR3 : 316 ≤ RA) (hT : s.heap.IsList TA us.toArray) (hL : s.heap.IsList LA ul.toArray) (hR : s.heap.IsList RA ur.toArray) (hus : ∀ i, i < us.length → us[i]? = some (.ref (xa i))) (hl : StrsAre ul (lw.map mkS)) (hr : StrsAre ur (rw.map mkS))
  (hlw : ∀ x ∈ lw, x.head? ≠ some 42 ∧ x.length ≤ 100) (hrw : ∀ x ∈ rw, x ≠ [42] ∧ x.length ≤ 100) (hlen : us.length ≤ 1000) (hll : lw.length ≤ 10) (hrl : rw.length ≤ 10) {Q : Value → Shared → Prop}
  (h : ∀ D oD inner s', Zan s s' ((D, oD) :: inner) → Ext [] [] s s' → Zce oD (inner.map fun p => .ref p.1) → Zjy rt inner (Zct tgs us.length lw rw) → Q (.ref D) s') :
  wpAny (model prog w) A (call (.ref 293) [.ref TA, .ref LA, .ref RA]) Q E s := by
 refine Zw W R hf [("things", .ref TA), ("lefts", .ref LA), ("rights", .ref RA)] (fun _ _ _ _ _ => BindsTo.of_eq rfl) fun env s₁ hE hO hc C => ?_
 have RD := R.deeper (env := env)
 refine Zq ?_
 refine Zi ?_
 refine Loc.lcA hO ⟨[], by walk_at "S"⟩ C (Zao C.block (by walk_at "K") (by kernel_rfl)) (by walk_at "K") ?_
 walk_at "N"
 refine C.pyIterL (C.ext.list hR3 hR) ?_; clear C; intro I oI s hI hoI C
 have hurl : ur.length = rw.length := by rw [hr.length, List.length_map]
 have hull : ul.length = lw.length := by rw [hl.length, List.length_map]
 refine Zal.all (fvs := []) (Zbl RD.hd RA ur) (by walk_at "S") hI hoI C (by rw [sizeLine_eq]; lia) (fun s' l' C => C.ext.list hR3 hR) (fun i y new => ∃ f x, y = .ref f ∧ rw[i]? = some x ∧ Zc4 prog w K new f (Zfm x)) ?_ ?_
 ·intro i v cenv s N' hi hv ce C CO
  obtain ⟨x, t, rfl, hx⟩ := Zfb hr hv
  have W := W.ext CO.ext
  obtain ⟨hx1, hx2⟩ := hrw x (List.mem_of_getElem? hx)
  refine Zf ?_
  walk_at "G"
  refine Zaa hp (W.ext C.ext) ?_
  refine Za ?_
  refine Zn ?_
  refine C.cstr ?_; clear C; intro s t C
  walk_at "N"
  refine C.sadd (a := [123, 42, 125]) (by simp; lia) ?_; clear C; intro s t C
  refine spliced_none ?_
  refine ⟨(W.ext C.ext).k, ?_⟩
  refine Zng (W.ext C.ext) G RD.le T hp hx1 hx2 fun f new s' hS x1 hN => ?_
  have hN' : Zan _ s' new := ⟨fun p hp => ⟨C.noneAt (hN.1 p hp).1 (fun h => nomatch h), (hN.1 p hp).2⟩, hN.2⟩
  exact ⟨new, ⟨f, x, rfl, hx, hS⟩, C.ext.trans x1, hN'⟩
 intro DS oS s rs hDS hG C s C
 replace C := C.sv (Za3.of (by walk_at "T") (by kernel_rfl))
 refine xca ?_
 refine List_ ?_
 refine spliced_none ?_
 refine C.lst (by simp [sizeLine_eq]) ?_; clear C; intro DP s C
 refine C.st hO hc (by walk_at "K") ?_; clear C; intro s C
 generalize hLs : (DS, oS) :: (rs.flatMap (fun x => x.2) ++ []) = Ls at C
 have hLS : (DS, oS) ∈ Ls := by rw [← hLs]; exact M0
 have hLR : ∀ p ∈ rs.flatMap (fun x => x.2), p ∈ Ls := fun p hp => by rw [← hLs]; exact .tail _ (List.mem_append_left _ hp)
 refine xcf ?_
 walk_at "N"
 refine C.pyIterL (C.ext.list hL3 hL) ?_; clear C; intro I oI s hI hoI C
 refine Loc.forI (α := List (Addr × Obj) × Obj)
  (fun i d => Zce d.2 (d.1.map fun p => .ref p.1) ∧ Zjy rt d.1 (Zct tgs us.length (lw.take i) rw))
  (fun _ d => [("things", .ref TA), ("lefts", .ref LA), ("rights", .ref RA), ("sieves", .ref DS), ("picks", .ref DP)])
  (fun _ d => (DP, d.2) :: (d.1 ++ Ls)) (d0 := ([], Zu [])) (Zbl RD.hd LA ul) hI hoI C ⟨Zc2 [], rfl, fun j p r e => by simp at e⟩ (fun i d oI s' _ C => C.ext.list hL3 hL) ?_ ?_
 ·intro i; refine pE2 fun inner op oI u s hi hu hPP C => ?_; refine x_A hPP fun hP1 hP2 => ?_; clear hPP
  dsimp only at hP1 hP2 C
  obtain ⟨x, t, rfl, hx⟩ := Zfb hl hu
  obtain ⟨hx1, hx2⟩ := hlw x (List.mem_of_getElem? hx)
  refine wpAny_assign_Name ?_
  refine C.st hO hc (by walk_at "K") ?_; clear C; intro s C
  refine xca ?_
  refine Zf ?_
  walk_at "B"
  refine xt1 ?_
  refine Za ?_
  refine Zf9 ?_
  refine Zf ?_
  walk_at "G"
  refine Zaa hp (W.ext C.ext) ?_
  refine Za ?_
  refine Zn ?_
  refine Zn ?_
  refine C.cstr ?_; clear C; intro s t C
  walk_at "N"
  refine C.sadd (a := [123]) (by simp; lia) ?_; clear C; intro s t C
  refine C.cstr ?_; clear C; intro s t C
  refine C.sadd (b := [125, 42]) (by simp; exact kA ‹_› rfl) ?_; clear C; intro s t C
  refine spliced_none ?_
  refine ⟨(W.ext C.ext).k, ?_⟩
  refine Zl6 (W.ext C.ext) G RD.le T hp hx1 hx2 fun f new s' hS x1 hN => ?_
  replace C := C.addN x1 hN
  refine callWith_F (hS.1 _ fun p hp => C.led p (List.mem_append_left _ hp)) ?_
  refine Za ?_
  refine wpAny_Constant_none ?_
  refine Za ?_
  walk_at "N"
  refine spliced_none ?_
  refine ⟨hS.1 _ fun p hp => C.led p (List.mem_append_left _ hp), ?_⟩
  refine hS.2 _ _ s' us TA xa da od tgs tts _ (W.ext C.ext) RD.le (fun p hp => C.led p (List.mem_append_left _ hp)) (fun p hp fd e => C.fc p (List.mem_append_left _ hp) fd e) hT3 hus (D.ext C.ext).t (C.ext.list hT3 hT) D.g fun a g Lg F0 s₁ hI' hLg hg x2 => ?_
  refine spliced_none ?_
  obtain ⟨IG, hst⟩ := hI' (A.deeper env).in1.in1 ((RD.le (m := 8) (Nat.le_of_lt (Nat.le_add_left (Nat.succ 8) 10))).in1.in1)
  have hn : Zci (fun i => Zdx x (tgs i)) us.length 0 ≤ 1000 := by
   rw [Ze7]
   have := List.length_filter_le (fun i => Zdx x (tgs i)) (List.range us.length)
   rw [List.length_range] at this
   exact kA (Nat.le_trans ‹_› ‹_›) rfl
  refine (C.pure x2).listG IG hst (fun y hy => by rw [List.mem_singleton.mp hy]; exact C.offNew hLg) (by rw [hg]; exact C.ext.gsz) hn fun DF oF rf s hoF hfl hfr C => ?_
  rw [Ze7] at hfl
  have hfe : rf = ((List.range us.length).filter fun i => Zdx x (tgs i)).map fun k => .ref (xa k) := Zfc hfl fun i r e => by
   refine Z1 (hfr i r e) fun k hk e1 e2 => ?_
   rw [hus k hk] at e2
   cases e2
   exact ⟨k, e1, rfl⟩
  generalize hfnd : ((List.range us.length).filter fun i => Zdx x (tgs i)) = fnd at hfe
  have hfnd1 : ∀ k ∈ fnd, k < us.length := fun k hk => by
   rw [← hfnd] at hk
   exact List.mem_range.mp (List.mem_filter.mp hk).1
  have hfnd2 : fnd.length ≤ 1000 := by
   have := List.length_filter_le (fun i => Zdx x (tgs i)) (List.range us.length)
   rw [List.length_range, hfnd] at this
   exact kA (Nat.le_trans ‹_› ‹_›) rfl
  refine C.st hO hc (by walk_at "K") ?_; clear C; intro s C
  replace C := C.sub (l' := (DF, oF) :: (I, oI) :: (DP, op) :: (inner ++ Ls)) (List.Sublist.cons_cons _ (List.sublist_append_right _ _))
  replace C := C.perm (l' := (DP, op) :: (inner ++ ((I, oI) :: (DF, oF) :: Ls))) Zqh
  refine xcf ?_
  walk_at "N"
  have hLS' : ∀ {inner' : List (Addr × Obj)} {q}, (DS, oS) ∈ q :: (inner' ++ ((I, oI) :: (DF, oF) :: Ls)) := .tail _ (List.mem_append_right _ (.tail _ (.tail _ hLS)))
  refine C.pyIterL (hDS.at (C.led _ hLS')) ?_; clear C; intro I2 oI2 s hI2 hoI2 C
  refine Loc.forI (α := List (Addr × Obj) × Obj)
   (fun j d => Zce d.2 (d.1.map fun p => .ref p.1) ∧ Zjy rt d.1 (Zct tgs us.length (lw.take i) rw ++ (rw.take j).map fun y => Zd4 (Zdx x) (Zfm y) tgs us.length))
   (fun _ d => [("things", .ref TA), ("lefts", .ref LA), ("rights", .ref RA), ("sieves", .ref DS), ("picks", .ref DP), ("found", .ref DF)])
   (fun _ d => (DP, d.2) :: (d.1 ++ ((I, oI) :: (DF, oF) :: Ls))) (d0 := (inner, op)) (Zbl RD.hd DS (rs.map (·.1))) hI2 hoI2 (C.vsb (by first | walk_at "U" | exact (List.Sublist.refl _))) ⟨hP1, by simpa using hP2⟩ (fun i d oI s' _ C => hDS.at (C.led _ (.tail _ hLS'))) ?_ ?_
  ·intro j; refine pE2 fun inner' op' oI2 u s hj hu hPP C => ?_; refine x_A hPP fun hP1 hP2 => ?_; clear hPP
   dsimp only at hP1 hP2 C
   obtain ⟨newj, ⟨fj, y, rfl, hy, hSj⟩, hmj⟩ := hG.at hu
   refine wpAny_assign_Name ?_
   refine C.st hO hc (by walk_at "K") ?_; clear C; intro s C
   refine Zi ?_
   refine C.expr ?_
   refine Zbk ?_
   walk_at "N"
   have hDPm : (DP, op') ∈ (I2, oI2) :: (DP, op') :: (inner' ++ ((I, oI) :: (DF, oF) :: Ls)) := M1
   refine Zbt "list" "list.append" F.plainAttrs_list F.slot_list_append F.type_list_append (hP1.lo.at (C.led _ hDPm)).typeIs (fun a' x => ?_) (callWith_method1 ?_)
   ·cases x
    refine ⟨op', C.led _ hDPm, ?_⟩
    obtain ⟨_, rfl⟩ := hP1; rfl
   refine Za ?_
   refine C.pickC W RD.le T (by walk_at "M") (by walk_at "M") hSj (fun p hp => .tail _ (.tail _ (List.mem_append_right _ (.tail _ (.tail _ (hLR p (hmj p hp))))))) (.tail _ (.tail _ (List.mem_append_right _ M1))) hoF.lo D hfe hfnd1 hfnd2 (by walk_at "S") ?_; clear C; intro DR oR s hoR C
   refine spliced_none ?_
   have hsz : (inner'.map fun p : Addr × Obj => Value.ref p.1).length < 1000000 := by
    rw [List.length_map, hP2.1, List.length_append, Zgh, List.length_map, List.length_take, List.length_take]
    have h1 : min i lw.length * rw.length ≤ 10 * 10 := Nat.mul_le_mul (Nat.le_trans (Nat.min_le_right _ _) ‹lw.length ≤ 10›) hrl
    exact kB (Nat.add_le_add h1 (Nat.le_trans (Nat.min_le_right _ _) hrl)) rfl
   refine C.appendP (L' := fun o' => (DR, oR) :: (I2, oI2) :: (DP, o') :: (inner' ++ ((I, oI) :: (DF, oF) :: Ls))) (fun o' => J2) hP1 hsz ?_; clear C; intro oq s hP1' C
   refine wpAny_execs_nil ⟨(inner' ++ [(DR, oR)], oq), ⟨by simpa using hP1', ?_⟩, (C.perm Zrc).vsb (by first | walk_at "U" | exact (List.Sublist.refl _))⟩
   have := hP2.snoc (p := (DR, oR)) (r := Zd4 (Zdx x) (Zfm y) tgs us.length) (by
    show Zy oR _
    unfold Zd4
    rw [hfnd]; exact hoR)
   rw [List.append_assoc] at this
   have e : rw.take (j + 1) = rw.take j ++ [y] := by rw [List.take_succ, hy]; rfl
   rw [e, List.map_append]
   exact this
  ·refine pE2 fun inner' op' s hPP C => ?_; refine x_A hPP fun hP1 hP2 => ?_; clear hPP
   dsimp only at hP1 hP2 C
   refine wpAny_execs_nil ?_
   refine wpAny_execs_nil ⟨(inner', op'), ⟨hP1, ?_⟩, ?_⟩
   ·have e : lw.take (i + 1) = lw.take i ++ [x] := by rw [List.take_succ, hx]; rfl
    have hrs : rs.length = rw.length := by rw [hG.1, List.length_range, hurl]
    rw [List.length_map, hrs, List.take_of_length_le (Nat.le_refl _)] at hP2
    rw [e]
    unfold Zct at hP2 ⊢
    rw [List.flatMap_append]
    simpa using hP2
   ·exact ((C.perm Zj6).sub (l' := (I, oI) :: (DP, op') :: (inner' ++ Ls)) (List.sublist_cons_self _ _)).vsb (by first | walk_at "U" | exact (List.Sublist.refl _))
 ·refine pE2 fun inner op s hPP C => ?_; refine x_A hPP fun hP1 hP2 => ?_; clear hPP
  dsimp only at hP1 hP2 C
  rw [hull, List.take_of_length_le (Nat.le_refl _)] at hP2
  refine wpAny_execs_nil ?_
  refine xcr ?_
  walk_at "N"
  have C2 := C.sub (l' := (DP, op) :: inner) (List.Sublist.cons_cons _ (List.sublist_append_left _ _))
  exact h DP op inner s ⟨fun p hp => ⟨(C2.own p hp).1.resolve_left (fun h => nomatch h), (C2.own p hp).2, C2.led p hp⟩, C2.nd, C2.fc⟩ C.ext hP1 hP2
noncomputable def Zhd (prog : Program) (w : World) (o : Obj) (kvs : List (Str × Value)) : Prop := o.IsDictOf (strKind prog w) kvs
theorem Zhd.nc {prog : Program} {w : World} {o : Obj} {kvs : List (Str × Value)} (h : Zhd prog w o kvs) : Zs o := by
 refine Zch h fun es ep _ d _ => ?_
 exact Zis d
theorem Zjh {kvs : List (Str × Value)} {k : Str} {v : Value} (hn : (kvs.map (·.1)).Nodup) (hm : (k, v) ∈ kvs) : valueAt kvs k = some v := by
 unfold valueAt
 induction kvs with
 | nil => cases hm
 | cons p r ih =>
  rw [List.map_cons, List.nodup_cons] at hn
  rw [List.find?_cons]
  rcases List.mem_cons.mp hm with rfl | hm
  ·simp
  ·have : p.1 ≠ k := fun e => hn.1 (List.mem_map.mpr ⟨_, hm, e.symm⟩)
   simp [this]
   have := ih hn.2 hm
   simpa using this
theorem Zks {kvs : List (Str × Value)} {k : Str} {v : Value} (h : k ∉ kvs.map (·.1)) : stored kvs k v = kvs ++ [(k, v)] := by
 unfold stored
 rw [if_neg]
 rw [Bool.not_eq_true, List.any_eq_false]
 intro p hp e
 exact h (List.mem_map.mpr ⟨p, hp, by simpa using e⟩)
theorem Loc.dnew (C : Loc env s₀ X vs l s) {pos : Pos} {Q : Value → Shared → Prop} (h : ∀ d o s', Zhd prog w o [] → Loc env s₀ X vs ((d, o) :: l) s' → Q (.ref d) s') : wpAny (model prog w) A (eval (.Dict [] [] pos) env) Q E s := by
 refine wpAny_Dict_empty ?_
 have e : Ext [] [] s { s with heap := s.heap.push { cls := .type "dict", data := .dict #[] } } := C.extK (tk := s.toks) Zd
 refine h _ _ _ ?_ (C.add e Zc C.big (Heap.get?_push_size _ rfl))
 refine Zo (Heap.dictOf_iff.mp (Heap.DictOf.new (knd := strKind prog w) s.heap)) fun o ho hd => ?_
 rw [Heap.get?_push_size _ rfl] at ho
 exact (Option.some.inj ho) ▸ hd
theorem Loc.dset (C : Loc env s₀ X vs l s) {d : Addr} {o : Obj} {kvs : List (Str × Value)} {L' : Obj → List (Addr × Obj)} (P : ∀ o', Put d o o' l (L' o')) (hD : Zhd prog w o kvs) {x : Str} {t : Tok} {v : Value} {Q : Unit → Shared → Prop} (hsz : kvs.length ≤ 1000)
  (h : ∀ o' s', Zhd prog w o' (stored kvs x v) → Loc env s₀ X vs (L' o') s' → Q () s') : wpAny (model prog w) A (setItem (.ref d) (.str x t) v) Q E s := by
 have hm := (P o).mem
 refine wpAny_setItem_pairs (knd := strKind prog w) (k := x) (strKind_is prog w x t) (Heap.dictOf_iff.mpr ⟨o, C.led _ hm, hD⟩) (fun h' hd hs => ?_) (by rw [sizeLine_eq]; exact kA ‹_› rfl)
 refine Zo (Heap.dictOf_iff.mp hd) fun o' e hD' => ?_
 have x1 : Ext [d] [] s { s with heap := h', toks := s.toks + 1 } := Ext.same (C.own _ hm).2 (Z5 (C.led _ hm) hD.nc) M0 hs ⟨_, e⟩
 exact h o' _ hD' (C.put x1 (P o') e (Zhd.nc hD').2)
theorem Loc.subD (C : Loc env s₀ X vs l s) {slice : Expr} {d : Addr} {o : Obj} {kvs : List (Str × Value)} (hm : s.heap.get? d = some o) (hD : Zhd prog w o kvs) {x : Str} {t : Tok} {v : Value} {Q : Value → Shared → Prop} (hv : valueAt kvs x = some v) (h : ∀ s', Loc env s₀ X vs l s' → Q v s')
  (hs : autoParam (subscripted slice false (.ref d) (.str x t) = operate [.ref d, .str x t] (getItem (.ref d) (.str x t))) aU) : Zgz prog w A E slice Q (.ref d) (.str x t) s := by
 have hd : s.heap.DictOf (strKind prog w) d kvs := Heap.dictOf_iff.mpr ⟨o, hm, hD⟩
 exact ⟨"dict", _, _, hd.typeIs, slot_dict_getitem.lookup, hs, wpAny_getItem_of (strKind_is prog w x t) hd.mapOf hv (h _ C.tok)⟩
theorem Zil {α : Type} {l : List α} (hd : l.Nodup) {i : Nat} {y : α} (e : l[i]? = some y) : y ∉ l.take i := by
 obtain ⟨hlt, e2⟩ := List.getElem?_eq_some_iff.mp e
 have h : l = l.take i ++ y :: l.drop (i + 1) := by
  rw [← e2, ← List.drop_eq_getElem_cons hlt, List.take_append_drop]
 rw [h, List.nodup_append] at hd
 exact fun hm => hd.2.2 y hm y M0 rfl
noncomputable def Zfj (kvs : List (Str × Value)) (nms : List (List Nat)) (n : Nat) : Prop := kvs.length = n ∧ ∀ j, j < n → ∃ t, kvs[j]? = some (mkS (nms.getD j []), .int (j : Nat) t)
theorem Zfj.keys {kvs : List (Str × Value)} {nms : List (List Nat)} {n : Nat} (h : Zfj kvs nms n) (hn : n ≤ nms.length) : kvs.map (·.1) = (nms.take n).map mkS := by
 refine List.ext_getElem? fun i => ?_
 rw [List.getElem?_map, List.getElem?_map]
 by_cases hi : i < n
 ·obtain ⟨t, e⟩ := h.2 i hi
  rw [e, List.getElem?_take_of_lt hi, List.getElem?_eq_getElem (by lia)]
  simp [List.getD, show i < nms.length by lia]
 ·rw [List.getElem?_eq_none (by rw [h.1]; exact Nat.le_of_not_lt hi), List.getElem?_eq_none (by rw [List.length_take]; lia)]
  rfl
theorem Zfj.at {kvs : List (Str × Value)} {nms : List (List Nat)} {n j : Nat} (h : Zfj kvs nms n) (hn : n ≤ nms.length) (hd : nms.Nodup) (hj : j < n) : ∃ t, valueAt kvs (mkS (nms.getD j [])) = some (.int (j : Nat) t) := by
 obtain ⟨t, e⟩ := h.2 j hj
 refine ⟨t, Zjh ?_ (List.mem_of_getElem? e)⟩
 rw [h.keys hn]
 have : (nms.take n).Nodup := hd.sublist (List.take_sublist _ _)
 exact List.Pairwise.map _ (fun a b (hab : a ≠ b) e => hab (Zc5.mp e)) this
theorem Loc.fillD {d : Addr} {o : Obj} (C : Loc env s₀ [] vs ((d, o) :: l) s) (O : Zbw env s₀) (W : Wd K s₀.heap) (G : KG K) (hh : A.handled = none) {xk nm dn : String} {NA : Addr} {us : List Value} {nms : List (List Nat)} {p1 p2 p3 p4 p5 p6 p7 p8 p9 p10 p11 p12 p13 p14 : Pos}
  (hk : env.kindOf (ofString xk) = some .local) (hkr : env.kindOf (ofString "range") = some .globalImplicit) (hkl : env.kindOf (ofString "len") = some .globalImplicit) (h1 : (nm, Value.ref NA) ∈ vs) (h2 : (dn, Value.ref d) ∈ vs) (hx : ∀ p ∈ vs, p.1 ≠ xk)
  (hl : s₀.heap.IsList NA us.toArray) (ha : 316 ≤ NA) (hi : StrsAre us (nms.map mkS)) (hd : nms.Nodup) (hlen : nms.length ≤ 100) (hD : Zhd prog w o []) {Q : Flow → Shared → Prop}
  (h : ∀ o' kvs s', Zhd prog w o' kvs → Zfj kvs nms nms.length → Loc env s₀ [] vs ((d, o') :: l) s' → Q .next s')
  (d1 : ∀ x ∈ [xk, nm, dn], (ofString x == ("__debug__" : Str)) = false ∧ (ofString x == ("__classdict__" : Str)) = false) :
  wpAny (model prog w) A (exec (.For (.Name (ofString xk) p1) (.Call (.Name (ofString "range") p2) [.Call (.Name (ofString "len") p3) [.Name (ofString nm) p4] [] p5] [] p6)
   [.Assign [.Subscript (.Name (ofString dn) p7) (.Subscript (.Name (ofString nm) p8) (.Name (ofString xk) p9) p10) p11] (.Name (ofString xk) p12) p13] [] p14) env) Q E s := by
 have hul : us.length = nms.length := by rw [hi.length, List.length_map]
 have dk := d1 xk (by simp)
 have dm := d1 nm (by simp)
 have dd := d1 dn (by simp)
 refine Zrr ?_
 refine Zf ?_
 refine C.bn W G (by walk_at "M") hkr ?_
 refine xt1 ?_
 refine Za ?_
 refine Zf ?_
 refine C.bn W G (by walk_at "M") hkl ?_
 refine xb1 ?_
 refine Za ?_
 refine C.name h1 ?_ dm.1 dm.2
 refine spliced_none ?_
 refine C.lenL (C.ext.list ha hl) (by lia) ?_; clear C; intro s t C
 refine spliced_none ?_
 refine C.range1 ?_; clear C; intro r _ _ _ s C
 refine C.pyIterR1 (a := 0) (n := us.length) (by rw [Int.zero_add]; exact M0) (by decide) (by lia) ?_; clear C; intro I s hI C
 refine Loc.forI (α := Obj × List (Str × Value)) (fun i p => Zhd prog w p.1 p.2 ∧ Zfj p.2 nms i) (fun _ _ => vs) (fun _ p => (d, p.1) :: l) (d0 := (o, [])) (Zcz hh 0 1 us.length) hI (Zcq _ _ _) (C.sub (List.Sublist.cons_cons _ (List.sublist_cons_self _ _))) ⟨hD, rfl, fun j hj => by lia⟩ (fun _ _ _ _ _ _ => trivial) ?_ ?_
 ·intro i; refine pE2 fun o' kvs oI u s hi' hu hPP C => ?_; refine x_A hPP fun hP1 hP2 => ?_; clear hPP
  dsimp only at hP1 hP2 C
  obtain ⟨tu, rfl⟩ := hu
  have e0 : (0 + (i : Int) * 1) = ((i : Nat) : Int) := by simp +arith
  rw [e0]
  refine wpAny_assign_Name ?_
  refine C.storeL O hk ?_; clear C; intro s C
  have h1' : (nm, Value.ref NA) ∈ Zbd xk (.int (i : Nat) tu) vs := Zt h1 (hx _ h1)
  have h2' : (dn, Value.ref d) ∈ Zbd xk (.int (i : Nat) tu) vs := Zt h2 (hx _ h2)
  refine Zi ?_
  refine wpAny_Assign_Subscript ?_ (by rfl)
  refine C.name Zab ?_ dk.1 dk.2
  refine C.name h2' ?_ dd.1 dd.2
  refine Zad ?_
  refine C.name h1' ?_ dm.1 dm.2
  refine C.name Zab ?_ dk.1 dk.2
  have hgi : nms[i]? = some (nms.getD i []) := by
   rw [List.getElem?_eq_getElem (by lia)]; simp [List.getD, show i < nms.length by lia]
  obtain ⟨t2, e2⟩ := Zb7 hi (i := i) (x := mkS (nms.getD i [])) (by rw [List.getElem?_map, hgi]; rfl)
  refine Loc.subL (C.ext.list ha hl) (Int.natCast_nonneg _) (by lia) (by rw [Int.toNat_natCast]; exact e2) ?_
  refine C.dset (L' := fun o' => (I, oI) :: (d, o') :: l) (fun o' => J1) hP1 (by rw [hP2.1]; lia) ?_; clear C; intro o2 s hD2 C
  have hnew : mkS (nms.getD i []) ∉ kvs.map (·.1) := by
   rw [hP2.keys (by lia)]
   intro hm
   refine Zo (List.mem_map.mp hm) fun y hy e => ?_
   have e := Zc5.mp e
   subst e
   exact Zil hd hgi hy
  rw [Zks hnew] at hD2
  refine wpAny_execs_nil ⟨(o2, kvs ++ [(mkS (nms.getD i []), .int (i : Nat) tu)]), ⟨hD2, by simp [hP2.1], fun j hj => ?_⟩, C.vsub fun p hp => Zt hp (hx p hp)⟩
  show ∃ t, (kvs ++ [(mkS (nms.getD i []), Value.int (i : Nat) tu)])[j]? = _
  by_cases hji : j < i
  ·obtain ⟨t, e⟩ := hP2.2 j hji
   exact ⟨t, by rw [List.getElem?_append_left (by rw [hP2.1]; exact hji)]; exact e⟩
  ·have : j = i := by lia
   subst this
   exact ⟨tu, by rw [List.getElem?_append_right (by rw [hP2.1]; exact Nat.le.refl), hP2.1, Nat.sub_self]; rfl⟩
 ·refine pE2 fun o' kvs s hPP C => ?_; refine x_A hPP fun hP1 hP2 => ?_; clear hPP
  dsimp only at hP1 hP2 C
  rw [hul] at hP2
  refine wpAny_execs_nil ?_
  exact h o' kvs s hP1 hP2 C
theorem Zg6 : ∀ (l : List Str) (p : Str), risingS p l = true → (p :: l).Pairwise fun a b => a.cps.toList ≤ b.cps.toList
 | [], p, _ => by simp
 | x :: r, p, h => by
  unfold risingS at h
  rw [Bool.and_eq_true, ltCps_eq, Bool.not_eq_true', decide_eq_false_iff_not, List.not_lt] at h
  have ih := Zg6 r x h.2
  rw [List.pairwise_cons]
  refine ⟨fun b hb => ?_, ih⟩
  rcases List.mem_cons.mp hb with rfl | hb
  ·exact h.1
  ·exact List.le_trans h.1 ((List.pairwise_cons.mp ih).1 b hb)
theorem Zg7 : ∀ (l : List Str), sortedS l = true → l.Pairwise fun a b => a.cps.toList ≤ b.cps.toList
 | [], _ => .nil
 | x :: r, h => Zg6 r x h
theorem Zia {a b : List Str} (ha : sortedS a = true) (hb : sortedS b = true) (p : a.Perm b) : a = b := by
 refine List.Perm.eq_of_pairwise (le := fun a b : Str => a.cps.toList ≤ b.cps.toList) (fun x y _ _ h1 h2 => ?_) (Zg7 a ha) (Zg7 b hb) p
 have := List.le_antisymm h1 h2
 obtain ⟨x⟩ := x
 obtain ⟨y⟩ := y
 simp at this
 rw [this]
theorem Zhe {a b : List Int} (ha : a.Pairwise (· ≤ ·)) (hb : b.Pairwise (· ≤ ·)) (p : a.Perm b) : a = b := List.Perm.eq_of_pairwise (fun x y _ _ h1 h2 => Int.le_antisymm h1 h2) ha hb p
theorem Zdv {α : Type} [BEq α] [LawfulBEq α] (d : α) {a b : List α} (hl : a.length = b.length) : ((List.range a.length).all fun j => a.getD j d == b.getD j d) = (a == b) := by
 rw [Bool.eq_iff_iff, List.all_eq_true]
 constructor
 ·intro h
  rw [beq_iff_eq]
  refine List.ext_getElem? fun i => ?_
  by_cases hi : i < a.length
  ·have := h i (List.mem_range.mpr hi)
   rw [beq_iff_eq] at this
   rw [List.getElem?_eq_getElem hi, List.getElem?_eq_getElem (by lia)]
   simpa [List.getD, hi, show i < b.length by lia] using this
  ·rw [List.getElem?_eq_none (Nat.le_of_not_lt hi), List.getElem?_eq_none (by lia)]
 ·intro h j _
  rw [beq_iff_eq] at h
  rw [h]; simp
theorem Zhx {us : List Value} {ss : List Str} (h : StrsAre us ss) {i : Nat} (hi : i < us.length) : ∃ t, us[i] = .str (ss.getD i Str.empty) t := by
 refine Z9 (Zgx h (List.getElem?_eq_getElem hi)) fun x t e1 e2 => ?_
 exact ⟨t, by rw [e1, List.getD, e2]; rfl⟩
theorem Zc1 {us : List Value} {ss : List Int} (h : IntsAre us ss) {i : Nat} (hi : i < us.length) : ∃ t, us[i] = .int (ss.getD i 0) t := by
 refine Zo (Zaz h (List.getElem?_eq_getElem hi)) fun t e1 e2 => ?_
 exact ⟨t, e1⟩
theorem Zkm {a b : Addr} {us ws : List Value} {ss tt : List Str} {Q : Value → Shared → Prop} (ha : s.heap.IsList a us.toArray) (hb : s.heap.IsList b ws.toArray) (h1 : StrsAre us ss) (h2 : StrsAre ws tt) (hu : A.units < cLine) (h : Q (.bool (ss != tt)) s) :
  wpAny (model prog w) A (compareOp .NotEq (.ref a) (.ref b)) Q E s := by
 by_cases hl : us.length = ws.length
 ·have := SeqAt.RcNeAt.lists (A := A) (e := fun j => ss.getD j Str.empty == tt.getD j Str.empty) ha hb (by simpa using hl) hu (fun j h3 h4 => by
   obtain ⟨t, e1⟩ := Zhx h1 (i := j) (by simpa using h3)
   obtain ⟨t', e2⟩ := Zhx h2 (i := j) (by simpa using h4)
   simp only [List.getElem_toArray]
   rw [e1, e2]
   exact SeqAt.EqAt.str_str _ _ _ _)
  refine this prog w E Q ?_
  rw [List.size_toArray, h1.length, Zdv _ (by rw [← h1.length, ← h2.length]; exact hl)]
  exact h
 ·refine SeqAt.RcNeAt.lists_lengths ha hb (by simpa using hl) hu prog w E Q ?_
  have : (ss != tt) = true := by
   rw [bne_iff_ne]
   intro e
   rw [e] at h1
   exact hl (by rw [h1.length, h2.length])
  rwa [this] at h
theorem Znj {a b : Addr} {us ws : List Value} {ss tt : List Int} {Q : Value → Shared → Prop} (ha : s.heap.IsList a us.toArray) (hb : s.heap.IsList b ws.toArray) (h1 : IntsAre us ss) (h2 : IntsAre ws tt) (hu : A.units < cLine) (h : Q (.bool (ss != tt)) s) :
  wpAny (model prog w) A (compareOp .NotEq (.ref a) (.ref b)) Q E s := by
 by_cases hl : us.length = ws.length
 ·have := SeqAt.RcNeAt.lists (A := A) (e := fun j => ss.getD j 0 == tt.getD j 0) ha hb (by simpa using hl) hu (fun j h3 h4 => by
   obtain ⟨t, e1⟩ := Zc1 h1 (i := j) (by simpa using h3)
   obtain ⟨t', e2⟩ := Zc1 h2 (i := j) (by simpa using h4)
   simp only [List.getElem_toArray]
   rw [e1, e2]
   exact SeqAt.EqAt.int_int _ _ _ _)
  refine this prog w E Q ?_
  rw [List.size_toArray, h1.length, Zdv _ (by rw [← h1.length, ← h2.length]; exact hl)]
  exact h
 ·refine SeqAt.RcNeAt.lists_lengths ha hb (by simpa using hl) hu prog w E Q ?_
  have : (ss != tt) = true := by
   rw [bne_iff_ne]
   intro e
   rw [e] at h1
   exact hl (by rw [h1.length, h2.length])
  rwa [this] at h
theorem Zm5 {a b : Addr} {us ws : List Value} {ss tt : List Int} {Q : Value → Shared → Prop} (ha : s.heap.IsList a us.toArray) (hb : s.heap.IsList b ws.toArray) (h1 : IntsAre us ss) (h2 : IntsAre ws tt) (hu : A.units < cLine) (h : Q (.bool (ss == tt)) s) :
  wpAny (model prog w) A (compareOp .Eq (.ref a) (.ref b)) Q E s := by
 by_cases hl : us.length = ws.length
 ·have := SeqAt.RcAt.lists (A := A) (e := fun j => ss.getD j 0 == tt.getD j 0) ha hb (by simpa using hl) hu (fun j h3 h4 => by
   obtain ⟨t, e1⟩ := Zc1 h1 (i := j) (by simpa using h3)
   obtain ⟨t', e2⟩ := Zc1 h2 (i := j) (by simpa using h4)
   simp only [List.getElem_toArray]
   rw [e1, e2]
   exact SeqAt.EqAt.int_int _ _ _ _)
  refine this prog w E Q ?_
  rw [List.size_toArray, h1.length, Zdv _ (by rw [← h1.length, ← h2.length]; exact hl)]
  exact h
 ·refine SeqAt.RcAt.lists_lengths ha hb (by simpa using hl) hu prog w E Q ?_
  have : (ss == tt) = false := by
   rw [beq_eq_false_iff_ne]
   intro e
   rw [e] at h1
   exact hl (by rw [h1.length, h2.length])
  rwa [this] at h
theorem Loc.sortedS (C : Loc env s₀ X vs l s) {a : Addr} {us : List Value} {ss : List Str} {Q : Value → Shared → Prop} (hl : s.heap.IsList a us.toArray) (hi : StrsAre us ss) (h64 : us.length < 64)
  (h : ∀ D oD us' ss' s', Zy oD us' → StrsAre us' ss' → ss'.Perm ss → PyProof.Rows.sortedS ss' = true → Loc env s₀ X vs ((D, oD) :: l) s' → Q (.ref D) s') : wpAny (model prog w) A (call (.builtin "sorted") [.ref a]) Q E s := by
 refine sorted_strs hl hi h64 fun out ss' h1 h2 h3 => ?_
 obtain ⟨e, he⟩ := sortedAll_at s.heap us out
 have x : Ext [] [] s { s with heap := sortedAll s.heap us out } := C.extK (tk := s.toks) fun _ _ => sortedAll_old
 exact h _ _ out.toList ss' _ ⟨rfl, _, rfl⟩ h1 h2 h3 (C.add x (Heap.get?_none_of_le (Nat.le_succ _)) (Nat.le_succ_of_le C.big) he)
noncomputable def Zea : Nat → List Nat → List Bool → Nat → Int → List Bool × Int
 | 0, _, seen, _, sg => (seen, sg)
 | k + 1, f, seen, q, sg => if seen.getD q true then (seen, sg) else Zea k f (seen.set q true) (f.getD q 0) (-sg)
noncomputable def Zba (f : List Nat) (st : List Bool × Int) (p : Nat) : List Bool × Int := if st.1.getD p true then st else Zea (f.length + 1) f st.1 p (-st.2)
noncomputable def Zed (f : List Nat) : Int := ((List.range f.length).foldl (Zba f) (List.replicate f.length false, 1)).2
theorem Zht : ∀ (k : Nat) (f : List Nat) (seen : List Bool) (q : Nat) (sg : Int), (Zea k f seen q sg).1.length = seen.length
 | 0, _, _, _, _ => rfl
 | k + 1, f, seen, q, sg => by
  unfold Zea
  split
  ·rfl
  ·rw [Zht k]; simp
theorem Zh7 (f : List Nat) (st : List Bool × Int) (p : Nat) : (Zba f st p).1.length = st.1.length := by
 unfold Zba
 split
 ·rfl
 ·exact Zht _ _ _ _ _
theorem Zhw : ∀ (l : List Bool) (i : Nat), l[i]? = some false → (l.set i true).count false + 1 = l.count false
 | [], i, h => by simp at h
 | b :: r, 0, h => by
  have : b = false := by simpa using h
  subst this
  simp
 | b :: r, i + 1, h => by
  have ih := Zhw r i (by simpa using h)
  rw [List.set_cons_succ, List.count_cons, List.count_cons]
  simp +arith [*]
theorem Zef (W : Wd K s.heap) (G : KG K) (R : Zk A 20) (hf : FnK K 305 (ofString "_law_sign") (ofString "_law_sign") (top 27) [] .none 304) {OA TA : Addr} {uo ut : List Value} {no nt : List (List Nat)} {Q : Value → Shared → Prop}
  (hO3 : 316 ≤ OA) (hT3 : 316 ≤ TA) (hlo : s.heap.IsList OA uo.toArray) (hlt : s.heap.IsList TA ut.toArray) (hio : StrsAre uo (no.map mkS)) (hit : StrsAre ut (nt.map mkS)) (hnt : nt.Nodup) (hno60 : no.length ≤ 60) (hnt60 : nt.length ≤ 60) (hcase : no.Perm nt ∨ no.length ≠ nt.length)
  (h : ∀ u s', Ext [] [] s s' → Q (.int (if no.length = nt.length then Zed (no.map fun x => nt.idxOf x) else 0) u) s') :
  wpAny (model prog w) A (call (.ref 305) [.ref OA, .ref TA]) Q E s := by
 have hol : uo.length = no.length := by rw [hio.length, List.length_map]
 have htl : ut.length = nt.length := by rw [hit.length, List.length_map]
 refine Zw W R hf [("one", .ref OA), ("other", .ref TA)] (fun _ _ _ _ _ => BindsTo.of_eq rfl) fun env s₁ hE hO hc C => ?_
 have RD := R.deeper (env := env)
 refine Zq ?_
 refine xci ?_
 refine Z0 ?_
 refine Zf ?_
 walk_at "B"
 refine xb1 ?_
 refine Za ?_
 walk_at "N"
 refine spliced_none ?_
 refine C.sortedS (C.ext.list hO3 hlo) hio (by lia) ?_; clear C; intro D1 o1 u1 ss1 s hD1 hS1 hp1 hs1 C
 refine Zf ?_
 walk_at "B"
 refine xb1 ?_
 refine Za ?_
 walk_at "N"
 refine spliced_none ?_
 refine C.sortedS (C.ext.list hT3 hlt) hit (by lia) ?_; clear C; intro D2 o2 u2 ss2 s hD2 hS2 hp2 hs2 C
 refine Zkm (hD1.at (C.led _ M1)) (hD2.at (C.led _ M0)) hS1 hS2 RD.ul (wpAny_truthy_bool ?_)
 rcases hcase with hperm | hlen
 case inr =>
  have : (ss1 != ss2) = true := by
   rw [bne_iff_ne]
   intro e
   rw [e] at hp1
   have := hp1.length_eq
   rw [hp2.length_eq, List.length_map, List.length_map] at this
   exact hlen this.symm
  refine ifP this ?_
  refine xcr ?_
  refine C.cint ?_; clear C; intro s t C
  rw [if_neg hlen] at h
  exact h _ _ C.ext
 have hn : no.length = nt.length := hperm.length_eq
 have : ss1 = ss2 := Zia hs1 hs2 (hp1.trans ((hperm.map mkS).trans hp2.symm))
 refine ifF (by rw [this]; simp) ?_
 rw [if_pos hn] at h
 refine wpAny_execs_nil ?_
 replace C := C.sub (List.nil_sublist _)
 refine xca ?_
 refine C.dnew ?_; clear C; intro d o s hD C
 refine C.st hO hc (by walk_at "K") ?_; clear C; intro s C
 refine Zi ?_
 refine C.fillD hO W G RD.hd (xk := "p") (nm := "other") (dn := "place") (by walk_at "K") (by walk_at "K") (by walk_at "K") (by walk_at "M") (by walk_at "M") (by simp) hlt hT3 hit hnt (kA ‹_› rfl) hD ?_ (by decide)
 intro o kvs s hD hkv C
 refine xca ?_
 refine Zn ?_
 refine List_ ?_
 refine Za ?_
 refine wpAny_Constant_bool ?_
 refine spliced_none ?_
 refine C.lst (by simp [sizeLine_eq]) ?_; clear C; intro D0 s C
 refine Zf ?_
 walk_at "B"
 refine xb1 ?_
 refine Za ?_
 walk_at "N"
 refine spliced_none ?_
 refine C.lenL (C.ext.list hO3 hlo) (by grind) ?_; clear C; intro s t C
 refine C.lmul ((Zm _).at (C.led _ M0)) (by simp; grind) (by grind) ?_; clear C; intro DS s C
 refine C.st hO hc (by walk_at "K") ?_; clear C; intro s C
 refine xca ?_
 refine C.cint ?_; clear C; intro s ts C
 refine C.st hO hc (by walk_at "K") ?_; clear C; intro s C
 have hrep : (List.replicate uo.length [Value.bool false]).flatten = (List.replicate no.length false).map Value.bool := by
  rw [hol]; simp
 rw [hrep] at C
 replace C := C.sub (l' := (DS, _) :: (d, o) :: []) (List.Sublist.cons_cons _ (List.sublist_cons_self _ _))
 generalize hfd : (no.map fun x => nt.idxOf x) = f at h
 have hfl : f.length = no.length := by rw [← hfd, List.length_map]
 have hff : ∀ q, q < no.length → f.getD q 0 < nt.length ∧ nt.getD (f.getD q 0) [] = no.getD q [] := fun q hq => by
  have e1 : no[q]? = some no[q] := List.getElem?_eq_getElem hq
  have hm : no[q] ∈ nt := hperm.mem_iff.mp (List.getElem_mem hq)
  have h1 := List.idxOf_lt_length_of_mem hm
  have e2 : f.getD q 0 = nt.idxOf no[q] := by
   rw [← hfd, List.getD, List.getElem?_map, e1]; rfl
  rw [e2]
  refine ⟨h1, ?_⟩
  rw [List.getD, List.getElem?_eq_getElem h1, List.getD, e1]
  simp [List.getElem_idxOf h1]
 refine xcf ?_
 refine Zf ?_
 walk_at "B"
 refine xt1 ?_
 refine Za ?_
 refine Zf ?_
 walk_at "B"
 refine xb1 ?_
 refine Za ?_
 walk_at "N"
 refine spliced_none ?_
 refine C.lenL (C.ext.list hO3 hlo) (by grind) ?_; clear C; intro s t C
 refine spliced_none ?_
 refine C.range1 ?_; clear C; intro r _ _ _ s C
 refine C.pyIterR1 (a := 0) (n := uo.length) (by rw [Int.zero_add]; exact M0) (by decide) (by lia) ?_; clear C; intro I s hI C
 refine Loc.forI (α := Obj × List Bool × Int × Tok)
  (fun i d' => Zy d'.1 (d'.2.1.map Value.bool) ∧ (d'.2.1, d'.2.2.1) = (List.range i).foldl (Zba f) (List.replicate f.length false, 1))
  (fun _ d' => [("one", .ref OA), ("other", .ref TA), ("place", .ref d), ("seen", .ref DS), ("sign", .int d'.2.2.1 d'.2.2.2)])
  (fun _ d' => [(DS, d'.1), (d, o)]) (d0 := (Zu ((List.replicate no.length false).map Value.bool), List.replicate no.length false, 1, ts)) (Zcz RD.hd 0 1 uo.length) hI (Zcq _ _ _) (C.sub (List.Sublist.cons_cons _ (List.sublist_cons_self _ _))) ⟨Zm _, by rw [hfl]; rfl⟩ (fun _ _ _ _ _ _ => trivial) ?_ ?_
 ·intro i; refine pE4 fun oS seen sg tsg oI u s hi' hu hPP C => ?_; refine x_A hPP fun hP1 hP2 => ?_; clear hPP
  dsimp only at hP1 hP2 C
  obtain ⟨tu, rfl⟩ := hu
  rw [show (0 + (i : Int) * 1) = ((i : Nat) : Int) by simp +arith [*]]
  have hslen : seen.length = no.length := by
   have : ∀ m, ((List.range m).foldl (Zba f) (List.replicate f.length false, 1)).1.length = f.length := by
    intro m
    induction m with
    | zero => simp
    | succ m ih => rw [List.range_succ, List.foldl_append, List.foldl_cons, List.foldl_nil, Zh7, ih]
   have := this i
   rw [← hP2, hfl] at this
   exact this
  have hstep : ∀ r : List Bool × Int, r = Zba f (seen, sg) i → r = (List.range (i + 1)).foldl (Zba f) (List.replicate f.length false, 1) := fun r hr => by
   rw [List.range_succ, List.foldl_append, ← hP2]
   exact hr
  have hsub : ∀ {q : Nat}, q < no.length → (seen.map Value.bool)[q]? = some (.bool (seen.getD q true)) := fun {q} hq => by
   rw [List.getElem?_map, List.getElem?_eq_getElem (by grind)]
   simp [List.getD, show q < seen.length by lia]
  refine wpAny_assign_Name ?_
  refine C.st hO hc (by walk_at "K") ?_; clear C; intro s C
  refine xci ?_
  refine isTrue_not (Zb1 ?_)
  refine Zad ?_
  walk_at "N"
  walk_at "N"
  refine Loc.subL (hP1.at (C.led _ M1)) (Int.natCast_nonneg _) (by lia) (by rw [Int.toNat_natCast]; exact hsub (by grind)) (wpAny_truthy_bool ?_)
  cases hsi : seen.getD i true with
  | true =>
   refine ifN (by simp) ?_
   refine wpAny_execs_nil (wpAny_execs_nil ⟨(oS, seen, sg, tsg), ⟨hP1, hstep (seen, sg) ?_⟩, C.vsb (by first | walk_at "U" | exact (List.Sublist.refl _))⟩)
   unfold Zba
   rw [hsi]; rfl
  | false =>
   refine ifP (by simp) ?_
   refine xca ?_
   refine xun ?_
   walk_at "N"
   refine C.ineg ?_; clear C; intro s tn C
   refine C.st hO hc (by walk_at "K") ?_; clear C; intro s C
   refine xca ?_
   walk_at "N"
   refine C.st hO hc (by walk_at "K") ?_; clear C; intro s C
   refine Zi ?_
   refine Zkq ?_
   refine Loc.whileI (α := Nat × Obj × List Bool × Nat × Int × Tok × Tok)
    (fun e => Zea e.1 f e.2.2.1 e.2.2.2.1 e.2.2.2.2.1 = Zea (f.length + 1) f seen i (-sg) ∧ e.2.2.1.count false < e.1 ∧ e.2.2.1.length = no.length ∧ e.2.2.2.1 < no.length ∧ Zy e.2.1 (e.2.2.1.map Value.bool)) (fun e => e.1)
    (fun e => [("one", .ref OA), ("other", .ref TA), ("place", .ref d), ("seen", .ref DS), ("sign", .int e.2.2.2.2.1 e.2.2.2.2.2.1), ("p", .int (i : Nat) tu), ("q", .int (e.2.2.2.1 : Nat) e.2.2.2.2.2.2)])
    (fun e => [(I, oI), (DS, e.2.1), (d, o)]) (d0 := (f.length + 1, oS, seen, i, -sg, tn, tu)) C ⟨rfl, ?_, hslen, (by lia : i < no.length), hP1⟩ ?_
   ·have := List.count_le_length (a := false) (l := seen)
    show seen.count false < f.length + 1
    grind
   refine pE7 fun k oS2 sn2 q sg2 tg2 tq s hPP C => ?_; refine Z6 hPP fun hQ1 hQ2 hQ3 hQ4 hQ5 => ?_; clear hPP
   dsimp only at hQ1 hQ2 hQ3 hQ4 hQ5 C
   obtain ⟨k, rfl⟩ : ∃ k', k = k' + 1 := ⟨k - 1, by lia⟩
   have hsub2 : sn2[q]? = some (sn2.getD q true) := by
    rw [List.getElem?_eq_getElem (by grind)]
    simp [List.getD, show q < sn2.length by lia]
   refine isTrue_not (Zb1 ?_)
   refine Zad ?_
   walk_at "N"
   walk_at "N"
   refine Loc.subL (hQ5.at (C.led _ M1)) (Int.natCast_nonneg _) (by lia) (by rw [Int.toNat_natCast, List.getElem?_map, hsub2]; rfl) (wpAny_truthy_bool ?_)
   cases hsq : sn2.getD q true with
   | true =>
    refine ifN (by simp) ?_
    refine wpAny_execs_nil ?_
    refine wpAny_execs_nil (wpAny_execs_nil ⟨(oS2, sn2, sg2, tg2), ⟨hQ5, hstep (sn2, sg2) ?_⟩, C.vsb (by first | walk_at "U" | exact (List.Sublist.refl _))⟩)
    unfold Zba
    rw [hsi, if_neg (by simp)]
    show (sn2, sg2) = Zea (f.length + 1) f seen i (-sg)
    rw [← hQ1]
    unfold Zea
    rw [hsq, if_pos rfl]
   | false =>
    refine ifP (by simp) ?_
    rw [hsq] at hsub2
    have hlt2 := Zhw sn2 q hsub2
    refine Zi ?_
    refine wpAny_Assign_Subscript ?_ (by rfl)
    refine wpAny_Constant_bool ?_
    walk_at "N"
    walk_at "N"
    refine C.setL (L' := fun o' => [(I, oI), (DS, o'), (d, o)]) (fun o' => J1) hQ5 (Int.natCast_nonneg _) (by rw [List.length_map]; grind) (by rw [List.length_map]; grind) ?_; clear C; intro oS3 s hO3' C
    refine xca ?_
    refine Zad ?_
    walk_at "N"
    refine Zad ?_
    walk_at "N"
    walk_at "N"
    obtain ⟨hq1, hq2⟩ := hff q hQ4
    obtain ⟨t2, e2⟩ := Zb7 hio (i := q) (x := mkS (no.getD q [])) (by
     rw [List.getElem?_map, List.getElem?_eq_getElem hQ4]
     simp [List.getD, hQ4])
    refine Loc.subL (C.ext.list hO3 hlo) (Int.natCast_nonneg _) (by lia) (by rw [Int.toNat_natCast]; exact e2) ?_
    obtain ⟨tv, ev⟩ := hkv.at (Nat.le_refl _) hnt hq1
    rw [hq2] at ev
    refine C.subD (C.led (d, o) M2) hD ev ?_; clear C; intro s C
    refine C.st hO hc (by walk_at "K") ?_; clear C; intro s C
    refine xca ?_
    refine xun ?_
    walk_at "N"
    refine C.ineg ?_; clear C; intro s tn3 C
    refine C.st hO hc (by walk_at "K") ?_; clear C; intro s C
    refine wpAny_execs_nil ⟨(k, oS3, sn2.set q true, f.getD q 0, -sg2, tn3, tv), Nat.lt_succ_self _, ⟨?_, ?_, ?_, ?_, ?_⟩, C.vsb (by first | walk_at "U" | exact (List.Sublist.refl _))⟩
    ·rw [← hQ1]
     show _ = Zea (k + 1) f sn2 q sg2
     conv => rhs; unfold Zea
     rw [hsq, if_neg (by simp)]
    ·show (sn2.set q true).count false < k
     lia
    ·show (sn2.set q true).length = no.length
     simp [hQ3]
    ·show f.getD q 0 < no.length
     lia
    ·show Zy oS3 _
     rw [List.map_set]
     rw [Int.toNat_natCast] at hO3'
     exact hO3'
 ·refine pE4 fun oS seen sg tsg s hPP C => ?_; refine x_A hPP fun hP1 hP2 => ?_; clear hPP
  dsimp only at hP1 hP2 C
  refine wpAny_execs_nil ?_
  refine xcr ?_
  walk_at "N"
  have e : sg = Zed f := by
   unfold Zed
   rw [hfl, ← hol]
   rw [hfl, ← hol] at hP2
   exact congrArg Prod.snd hP2
  rw [e]
  exact h _ _ C.ext
noncomputable def Zei (t : SetTable) (hs : Array Int) (h : Int) : Array Int × SetTable × Bool × Bool :=
 match t.freeSlot h with
 | some (slot, wasDummy) => (SetTable.insertAt hs (t.put slot).2 h, (t.put slot).1.orStandIn (SetTable.insertAt hs (t.put slot).2 h).size, wasDummy, !(t.put slot).1.fits (SetTable.insertAt hs (t.put slot).2 h).size)
 | none => (hs.push h, t.standIn (hs.size + 1), false, true)
noncomputable def Zck (t : SetTable) (hs : Array Int) (wanted : Nat) : Array Int × SetTable × Bool :=
 match t.relaid hs wanted with
 | some (t', order) => if coversAll order hs.size && t'.fits (order.filterMap (hs[·]?)).size then (order.filterMap (hs[·]?), t', false) else (hs, t.standIn hs.size, true)
 | none => (hs, t.standIn hs.size, true)
noncomputable def Zhg (st : Array Int × SetTable) (h : Int) : Array Int × SetTable :=
 if !(Zei st.2 st.1 h).2.2.1 && (Zei st.2 st.1 h).2.1.tooFull then ((Zck (Zei st.2 st.1 h).2.1 (Zei st.2 st.1 h).1 (SetTable.grown (Zei st.2 st.1 h).1.size)).1, (Zck (Zei st.2 st.1 h).2.1 (Zei st.2 st.1 h).1 (SetTable.grown (Zei st.2 st.1 h).1.size)).2.1)
 else ((Zei st.2 st.1 h).1, (Zei st.2 st.1 h).2.1)
noncomputable def Zek (b : Bool) (ns : List Int) : Array Int × SetTable := ns.foldl Zhg (#[], .fresh 0 0 b)
theorem Zey (es : Array (Int × Value)) (p : Nat) (e : Int × Value) : (SetTable.insertAt es p e).map (·.1) = SetTable.insertAt (es.map (·.1)) p e.1 := by
 apply Array.toList_inj.mp
 rw [Array.toList_map, SetTable.toList_insertAt, SetTable.toList_insertAt, List.map_append, List.map_cons, List.map_take, List.map_drop, Array.toList_map]
theorem Zm4 (t : SetTable) (es : Array (Int × Value)) (h : Int) (x : Value) : (layNew t es h x).1.map (·.1) = (Zei t (es.map (·.1)) h).1 ∧ (layNew t es h x).2 = (Zei t (es.map (·.1)) h).2 := by
 unfold layNew Zei
 have hs : ∀ p, (SetTable.insertAt (es.map (·.1)) p h).size = (SetTable.insertAt es p (h, x)).size := fun p => by
  rw [← Zey es p (h, x), Array.size_map]
 cases t.freeSlot h with
 | none => simp
 | some r =>
  obtain ⟨slot, wd⟩ := r
  simp only [hs]
  exact ⟨Zey _ _ _, trivial⟩
theorem Zpp (t : SetTable) (es : Array (Int × Value)) (wanted : Nat) : (relayAll t es wanted).1.map (·.1) = (Zck t (es.map (·.1)) wanted).1 ∧ (relayAll t es wanted).2 = (Zck t (es.map (·.1)) wanted).2 := by
 unfold relayAll Zck
 cases hr : t.relaid (es.map (·.1)) wanted with
 | none => simp
 | some r =>
  obtain ⟨t', order⟩ := r
  have hm : (order.filterMap (es[·]?)).map (·.1) = order.filterMap ((es.map (·.1))[·]?) := by
   apply Array.toList_inj.mp
   rw [Array.toList_map, Array.toList_filterMap, Array.toList_filterMap, List.map_filterMap]
   refine congrArg (fun f => List.filterMap f order.toList) (funext fun i => ?_)
   rw [Array.getElem?_map]
  have hs : (order.filterMap ((es.map (·.1))[·]?)).size = (order.filterMap (es[·]?)).size := by rw [← hm, Array.size_map]
  have hz : (es.map (·.1)).size = es.size := Array.size_map
  simp only [hs, hz]
  split <;> simp [hm]
noncomputable def Zhu (b : Bool) (ns : List Int) : Bool :=
 (List.range ns.length).all (fun i => !(ns.take i).contains (ns.getD i 0) && decide (0 ≤ ns.getD i 0) && decide (ns.getD i 0 < 1000)) &&
 (Zek b ns).2.plain && ((Zek b ns).2.led == b) && ((Zek b ns).2.place.size == ns.length) &&
 (List.range ns.length).all (fun i => decide (SetTable.below (Zek b ns).2.place (if i = 0 then 0 else (Zek b ns).2.place.getD (i - 1) 0 + 1) = i)) &&
 decide (SetTable.below (Zek b ns).2.place (if ns.length = 0 then 0 else (Zek b ns).2.place.getD (ns.length - 1) 0 + 1) = ns.length)
noncomputable def Za6 : List (List Int) := [] :: ((List.range 27).map fun k : Nat => [(k : Int)]) ++ ((List.range 3).map fun k : Nat => [(k : Int), k + 3, k + 6]) ++ ((List.range 9).map fun k : Nat => [(k : Int), k + 9, k + 18]) ++ ((List.range 5).map fun k : Nat => [(k : Int), k + 5, k + 10, k + 15, k + 20])
theorem Zmo : ∀ b : Bool, ∀ ns ∈ Za6, Zhu b ns = true := by decide +kernel
noncomputable def Zif (o : Obj) (st : Array Int × SetTable) : Prop := ∃ es ep, o = { cls := .type "set", dict := none, data := .set es ep st.2, slots := #[] } ∧ es.map (·.1) = st.1 ∧ (∀ e ∈ es.toList, ∃ tok, e.2 = .int e.1 tok) ∧ st.2.fits es.size = true
theorem Zif.nc {o : Obj} {st : Array Int × SetTable} (h : Zif o st) : Zs o := by
 obtain ⟨es, ep, rfl, _⟩ := h
 exact Zbm (fun vs q => by cases q) (fun vs q => by cases q)
theorem Zd9 : ∀ n : Nat, n < 1000 → hashInt (n : Int) = n := by decide +kernel
theorem Zod {S : Addr} {o : Obj} {st : Array Int × SetTable} {h : Int} {tok : Tok} {Q : Bool → Shared → Prop} (ho : s.heap.get? S = some o) (hI : Zif o st) (h0 : 0 ≤ h) (h1 : h < 1000) (hall : ∀ x ∈ st.1.toList, 0 ≤ x ∧ x < 1000) (hnew : h ∉ st.1.toList) (hsz : st.1.size < 100)
  (hQ : ∀ o' h', Zif o' (Zhg st h) → h'.get? S = some o' → Heap.SameBut S s.heap h' → Q true { s with heap := h' }) :
  wpAny (model prog w) A (setAddHashed S (.int h tok) h) Q E s := by
 obtain ⟨hs, t⟩ := st
 obtain ⟨es, ep, rfl, hm, hel, hf⟩ := hI
 dsimp only at ho hm hf hall hnew hsz
 have hes : es.size = hs.size := by rw [← hm]; simp
 have hH : ∀ e ∈ es.toList, 0 ≤ e.1 ∧ e.1 < 1000 := fun e he => hall e.1 (by
  show e.1 ∈ hs.toList
  rw [← hm, Array.toList_map]; exact List.mem_map_of_mem he)
 have hHI : ∀ x : Int, 0 ≤ x → x < 1000 → hashInt x = x := fun x a b => by
  have := Zd9 x.toNat (by simp +arith [*])
  rwa [show ((x.toNat : Nat) : Int) = x by lia] at this
 have helk : ElemsOf (intKind prog w) es.toList := fun e he => by
  obtain ⟨tok, q⟩ := hel e he
  refine ⟨⟨e.1, by rw [q]; exact intKind_is _ _ _ _, ?_⟩, by rw [q]; rfl⟩
  show e.1 = hashInt e.1
  rw [hHI _ (hH e he).1 (hH e he).2]
 unfold setAddHashed setAddHashedIn
 refine wpAny_holding (wpAny_bind (wpAny_setState_of ho rfl hf ?_))
 dsimp only
 rw [byScan_of (knd := intKind prog w) rfl (by unfold scanBound; lia) helk]
 simp only [↓reduceIte]
 unfold setAddByScan
 refine wpAny_bind ?_
 refine wpAny_bind (wpAny_rule ?_)
 have hscan := fun (Q' : ScanMet → Shared → Prop) => wpAny_setScan_of (A := A) (E := E) (s := s) (Q := Q') (knd := intKind prog w) (k := h) (x := .int h tok) (adding := true) (intKind_is prog w h tok) ho rfl hf helk
 rw [show (intKind prog w).hash h = h from hHI h h0 h1] at hscan
 refine wpAny_bind (hscan _ ?_)
 have hno : es.toList.findIdx? (fun e => (intKind prog w).is h e.2) = none := by
  rw [List.findIdx?_eq_none_iff]
  intro e he
  obtain ⟨tk, q⟩ := hel e he
  rw [q]
  have hne : h ≠ e.1 := fun q2 => hnew (by
   show h ∈ hs.toList
   rw [← hm, Array.toList_map, q2]; exact List.mem_map_of_mem he)
  rw [KeyKind.is_eq_decide (intKind_is prog w e.1 tk) h]
  exact decide_eq_false hne
 rw [hno]
 dsimp only
 have hgw : ∀ (b : Bool) {s₁ : Shared} {Q' : Unit → Shared → Prop}, Q' () s₁ → wpAny (model prog w) A (match b with | true => rule "set.scan.the-table-gave-way" | false => pure ()) Q' E s₁ :=
  fun b s₁ Q' hq => by cases b <;> first | exact wpAny_pure hq | exact wpAny_rule hq
 have hperm := layNew_perm t es h (.int h tok)
 have hfits := layNew_fits t es h (.int h tok)
 have hlay := Zm4 t es h (.int h tok)
 rw [hm] at hlay
 generalize layNew t es h (.int h tok) = L at hperm hfits hlay ⊢
 obtain ⟨es1, t1, wasDummy, gave⟩ := L
 dsimp only at hperm hfits hlay ⊢
 obtain ⟨hl1, hl2⟩ := hlay
 rw [Array.toList_push] at hperm
 have hel1 : ∀ e ∈ es1.toList, ∃ tok, e.2 = .int e.1 tok := fun e he => by
  rcases List.mem_append.mp (hperm.mem_iff.mp he) with he | he
  ·exact hel e he
  ·rw [List.mem_singleton.mp he]; exact ⟨tok, rfl⟩
 have hsz1 : es1.size = hs.size + 1 := by rw [← Array.length_toList, hperm.length_eq, List.length_append, Array.length_toList, hes]; rfl
 have hadd : Zhg (hs, t) h = (if !wasDummy && t1.tooFull then ((Zck t1 (es1.map (·.1)) (SetTable.grown (es1.map (·.1)).size)).1, (Zck t1 (es1.map (·.1)) (SetTable.grown (es1.map (·.1)).size)).2.1) else (es1.map (·.1), t1)) := by
  unfold Zhg
  rw [← hl1, ← hl2]
 refine wpAny_bind (hgw _ ?_)
 have tail : wpAny (model prog w) A (do
    storeSet S es1 t1
    if (!wasDummy && t1.tooFull) = true then do
      (match (relayAll t1 es1 (SetTable.grown es1.size)).2.2 with | true => rule "set.scan.the-table-gave-way" | false => pure ())
      storeSet S (relayAll t1 es1 (SetTable.grown es1.size)).1 (relayAll t1 es1 (SetTable.grown es1.size)).2.1
      pure (some true)
     else pure (some true)) (fun r s' => r = some true ∧ Q true s') E s := by
  refine wpAny_bind (wpAny_storeSet_of ho rfl ?_ (by rw [sizeLine_eq]; lia))
  have ho1 : (s.heap.update S (Obj.putSet es1 t1)).get? S = some { cls := .type "set", dict := none, data := .set es1 (ep + 1) t1, slots := #[] } := by
   have := Heap.get?_update_self (h := s.heap) (Obj.putSet es1 t1) ho (by rfl)
   rw [this]; rfl
  have hsb1 := Heap.SameBut.update s.heap S (Obj.putSet es1 t1)
  split
  ·rename_i hc
   have hp := relayAll_perm t1 es1 (SetTable.grown es1.size)
   have hfr := relayAll_fits t1 es1 (SetTable.grown es1.size)
   have hrl := Zpp t1 es1 (SetTable.grown es1.size)
   generalize relayAll t1 es1 (SetTable.grown es1.size) = Rl at hp hfr hrl ⊢
   obtain ⟨es2, t3, gave2⟩ := Rl
   dsimp only at hp hfr hrl ⊢
   have hel2 : ∀ e ∈ es2.toList, ∃ tok, e.2 = .int e.1 tok := fun e he => hel1 e (hp.mem_iff.mp he)
   have hsz2 : es2.size = es1.size := by rw [← Array.length_toList, hp.length_eq, Array.length_toList]
   refine wpAny_bind (hgw _ ?_)
   refine wpAny_bind (wpAny_storeSet_of ho1 rfl ?_ (by rw [sizeLine_eq]; lia))
   refine wpAny_pure ⟨rfl, hQ { cls := .type "set", dict := none, data := .set es2 (ep + 1 + 1) t3, slots := #[] } _ ?_ ?_ (hsb1.trans (Heap.SameBut.update _ S _))⟩
   ·rw [hadd, if_pos hc]
    refine ⟨es2, ep + 1 + 1, ?_, ?_, hel2, ?_⟩
    ·show _ = ({ cls := Value.type "set", dict := none, data := .set es2 (ep + 1 + 1) (Zck t1 (es1.map (·.1)) (SetTable.grown (es1.map (·.1)).size)).2.1, slots := #[] } : Obj)
     rw [Array.size_map, ← hrl.2]
    ·rw [Array.size_map]; exact hrl.1
    ·show (Zck t1 (es1.map (·.1)) (SetTable.grown (es1.map (·.1)).size)).2.1.fits es2.size = true
     rw [Array.size_map, ← hrl.2]; exact hfr
   ·have := Heap.get?_update_self (h := s.heap.update S (Obj.putSet es1 t1)) (Obj.putSet es2 t3) ho1 (by rfl)
    rw [this]; rfl
  ·rename_i hc
   refine wpAny_pure ⟨rfl, hQ { cls := .type "set", dict := none, data := .set es1 (ep + 1) t1, slots := #[] } _ ?_ ho1 hsb1⟩
   rw [hadd, if_neg hc]
   exact ⟨es1, ep + 1, rfl, rfl, hel1, hfits⟩
 have fin : wpAny (model prog w) A (do
    storeSet S es1 t1
    if (!wasDummy && t1.tooFull) = true then do
      (match (relayAll t1 es1 (SetTable.grown es1.size)).2.2 with | true => rule "set.scan.the-table-gave-way" | false => pure ())
      storeSet S (relayAll t1 es1 (SetTable.grown es1.size)).1 (relayAll t1 es1 (SetTable.grown es1.size)).2.1
      pure (some true)
     else pure (some true)) (fun r s' => wpAny (model prog w) A (match r with | some added => pure added | none => setAddHashedIn S (.int h tok) h 99999) Q E s') E s :=
  wpAny_mono tail (fun r s' hq => by obtain ⟨rfl, hq⟩ := hq; exact wpAny_pure hq) fun _ _ x => x
 split
 ·refine wpAny_bind ?_
  rw [hashByValue_scannable 8 (by rfl)]
  refine wpAny_pure ?_
  exact fin
 ·refine wpAny_bind (wpAny_pure ?_)
  exact fin
noncomputable def Zet (w : World) : Bool := !w.params.followText "set-order"
noncomputable abbrev Zdu (b : Bool) : Obj := { cls := .type "set", dict := none, data := .set #[] 0 (.fresh 0 0 b), slots := #[] }
theorem Zk2 (b : Bool) : Zif (Zdu b) (#[], .fresh 0 0 b) := ⟨#[], 0, rfl, by simp, fun e he => by simp at he, by cases b <;> rfl⟩
theorem Zg8 (a : Value) {Q₁ : Value → Shared → Prop} (h : Q₁ (.ref s.heap.objs.size) { s with heap := s.heap.push (Zdu (Zet w)) }) :
  codeAny (model prog w) A (.call (.builtin "set.__new__") ⟨[.type "set", a], []⟩) (wants Q₁ E) s := by
 refine codeAny_of_tree ?_
 show wpAny _ A.in1 (do checkBuiltinCall "set.__new__" ⟨[.type "set", a], []⟩; again (.builtin "set.__new__" ⟨[.type "set", a], []⟩)) _ _ s
 refine wpAny_bind (wpAny_of_eq (PySem.F.newCall_set_1 a) (wpAny_pure ⟨plainId_quiet PySem.F.plain_set_new _, codeAny_builtin PySem.F.entry_set_new ?_⟩))
 rw [Around.under_plainId PySem.F.plain_set_new _]
 unfold Builtin.«set.__new__» Builtin.Frozenset.newClass
 have hsub := sub_set_self
 obtain ⟨hp, g, d, tk, os⟩ := s
 dsimp only
 wp_walk
 refine wpAny_askSetting (wpAny_pure ?_)
 dsimp only
 simp only [newObj]
 refine wpAny_bind (wpAny_alloc (wpAny_pure ?_))
 exact wpAny_pure h
theorem Zk4 {β γ : Type} (f : β → γ → β) (b : β) (l : List γ) (i : Nat) (x : γ) (h : l[i]? = some x) : (l.take (i + 1)).foldl f b = f ((l.take i).foldl f b) x := by
 rw [List.take_succ, h, List.foldl_append]; rfl
theorem Zlq (st : Array Int × SetTable) (h : Int) : (Zhg st h).1.toList.Perm (st.1.toList ++ [h]) := by
 have k1 : ∀ t hs, (Zei t hs h).1.toList.Perm (hs.toList ++ [h]) := fun t hs => by
  unfold Zei
  split
  ·exact (SetTable.insertAt_perm _ _ _).trans (by rw [Array.toList_push])
  ·simp
 have k2 : ∀ t hs w, (Zck t hs w).1.toList.Perm hs.toList := fun t hs w => by
  unfold Zck
  split
  ·rename_i t' order _
   split
   ·rename_i hc
    have hp : List.Perm order.toList (List.range hs.size) := List.isPerm_iff.mp (by simp [coversAll] at hc; exact hc.1)
    show (order.filterMap (hs[·]?)).toList.Perm _
    rw [Array.toList_filterMap]
    exact (hp.filterMap _).trans (by rw [filterMap_getElem?_range])
   ·exact .rfl
  ·exact .rfl
 unfold Zhg
 split
 ·exact (k2 _ _ _).trans (k1 _ _)
 ·exact k1 _ _
theorem Zfl (b : Bool) (ns : List Int) : (Zek b ns).1.toList.Perm ns := by
 have : ∀ (ns : List Int) (st : Array Int × SetTable), (ns.foldl Zhg st).1.toList.Perm (st.1.toList ++ ns) := by
  intro ns
  induction ns with
  | nil => intro st; simp
  | cons x r ih =>
   intro st
   rw [List.foldl_cons]
   refine (ih _).trans ?_
   have := (Zlq st x).append_right r
   simpa using this
 have := this ns (#[], .fresh 0 0 b)
 simpa [Zek] using this
theorem Zpe (hh : A.handled = none) {S a : Addr} {us : List Value} {ns : List Int} (hi : IntsAre us ns) (hns : ∀ i, i < ns.length → 0 ≤ ns.getD i 0 ∧ ns.getD i 0 < 1000 ∧ ns.getD i 0 ∉ ns.take i) (hlen : ns.length ≤ 50) (b : Bool) (hl : ∀ s' l', Loc env s₀ [] vs (l' ++ l) s' → s'.heap.IsList a us.toArray) {I : Addr} (hI0 : s₀.heap.get? I = none) {R : Result → Shared → Prop}
  (fin : ∀ o s', Zif o (Zek b ns) → Loc env s₀ [] vs ((S, o) :: l) s' → R (.ok (.ret .none)) s') :
  ∀ k i s oI o, us.length - i = k → i ≤ us.length → Zjo oI a i → Zif o ((ns.take i).foldl Zhg (#[], .fresh 0 0 b)) → Loc env s₀ [] vs ((I, oI) :: (S, o) :: l) s →
   codeAny (model prog w) A (.builtin "set.update.loop" ⟨[.ref S, .ref I], []⟩) R s := by
 have hul : us.length = ns.length := hi.length
 intro k
 induction k with
 | zero =>
  intro i s oI o hk hi' hO hS C
  have : i = us.length := by grind
  subst this
  refine codeAny_builtin PyProof.Rows.F.entry_set_update_loop ?_
  rw [Around.under_plainId PyProof.Rows.F.plain_set_update_loop _]
  show wpAny _ A.in1 (pyNext (.ref I) >>= _) _ _ s
  refine wpAny_bind ((Zbl (A := A.in1) hh a us).done I s _ _ ⟨oI, C.led _ M0, hO⟩ (hl _ [_, _] C) fun h' tk hx => ?_)
  replace C := C.die (tk := tk) rfl hI0 (Zdk hO) hx
  show wpAny _ A.in1 (ret Value.none) _ _ _
  rw [hul, List.take_of_length_le (Nat.le_refl _)] at hS
  exact wpAny_pure (fin o _ hS C)
 | succ k ih =>
  intro i s oI o hk hi' hO hS C
  have hlt : i < us.length := nL hk
  refine codeAny_builtin PyProof.Rows.F.entry_set_update_loop ?_
  rw [Around.under_plainId PyProof.Rows.F.plain_set_update_loop _]
  show wpAny _ A.in1 (pyNext (.ref I) >>= _) _ _ s
  refine wpAny_bind ((Zbl (A := A.in1) hh a us).item i I s _ _ hlt ⟨oI, C.led _ M0, hO⟩ (hl _ [_, _] C) fun u h' tk hu hit hs => ?_)
  refine Zo hit fun oJ q1 q2 => ?_
  have x1 : Ext [I] [] s { s with heap := h', toks := tk } := Ext.same (C.own _ M0).2 (Z5 (C.led _ M0) (Zdk hO)) M0 hs ⟨oJ, q1⟩
  replace C := C.put x1 J0 q1 (Zdk q2).2
  obtain ⟨tu, rfl, _⟩ := Zaz hi hu
  refine Zae (hns i (by assumption)) fun h0 h1 h2 => ?_
  show wpAny _ A.in1 (holding [Value.int (ns.getD i 0) tu] (setAdd S (.int (ns.getD i 0) tu)) >>= _) _ _ _
  refine wpAny_bind (wpAny_holding ?_)
  unfold setAdd
  refine wpAny_holding ?_
  refine wpAny_bind (wpAny_pyHash_int ?_)
  have hh2 : hashInt (ns.getD i 0) = ns.getD i 0 := by
   have := Zd9 (ns.getD i 0).toNat (by lia)
   rwa [show (((ns.getD i 0).toNat : Nat) : Int) = ns.getD i 0 by grind] at this
  rw [hh2]
  have hpm : ((ns.take i).foldl Zhg (#[], .fresh 0 0 b)).1.toList.Perm (ns.take i) := Zfl b (ns.take i)
  replace C := C.tok (tk := tk + 1)
  refine Zod (C.led (S, o) M1) hS h0 h1 (fun x hx => ?_) (fun hm => h2 (hpm.mem_iff.mp hm)) ?_ fun o' h'' hS' ho' hsb => ?_
  ·have hx := hpm.mem_iff.mp hx
   obtain ⟨j, hj, e⟩ := List.mem_iff_getElem.mp hx
   rw [List.length_take] at hj
   rw [List.getElem_take] at e
   refine Zae (hns j (by grind)) fun j0 j1 _ => ?_
   have e2 : ns.getD j 0 = x := by
    rw [← e]; simp [List.getD, show j < ns.length by grind]
   rw [e2] at j0 j1
   exact ⟨j0, j1⟩
  ·rw [← Array.length_toList, hpm.length_eq, List.length_take]; lia
  ·have x2 : Ext [S] [] ({ s with heap := h', toks := tk + 1 } : Shared) { s with heap := h'', toks := tk + 1 } := Ext.same (s := { s with heap := h', toks := tk + 1 }) (C.own (S, o) M1).2 (Z5 (C.led (S, o) M1) hS.nc) M0 hsb ⟨o', ho'⟩
   replace C := C.put x2 J1 ho' hS'.nc.2
   refine wpAny_pure ⟨plainId_quiet PyProof.Rows.F.plain_set_update_loop _, ih (i + 1) _ oJ o' (nS hk) hlt q2 ?_ C⟩
   rw [Zk4 Zhg _ ns i (ns.getD i 0) (by rw [List.getElem?_eq_getElem (by assumption)]; simp [List.getD, show i < ns.length by assumption])]
   exact hS'
theorem Zf7 {T newId initId : String} {args : List Value} {Q Q₁ : Value → Shared → Prop} (ft : TypeCalled T newId initId) (hct : checkTypeCall T ⟨args, []⟩ = pure ())
  (hnew : codeAny (model prog w) A.in1 (.call (.builtin newId) ⟨.type T :: args, []⟩) (wants Q₁ E) s)
  (hnext : ∀ obj s₁, Q₁ obj s₁ → s₁.TypeIs obj T ∧ codeAny (model prog w) A.in1 (.call (.builtin initId) ⟨obj :: args, []⟩) (wants (fun r s₂ => r = .none ∧ Q obj s₂) E) s₁) :
  wpAny (model prog w) A (call (.type T) args) Q E s := by
 refine Zcv ft.mro fun c tl hmro => ?_
 have hmade := ft.made
 have hsub := ft.sub
 refine wpAny_call (codeAny_of_tree ?_)
 show wpAny _ _ (callAny (.type T) _) _ _ _
 refine wpAny_pure ⟨Code.quiet_builtin _ (by decide +kernel), codeAny_builtin PySem.F.entry_type_call ?_⟩
 rw [Around.under_plain (weight_type_call_type T args []) rfl]
 have h1 := ft.notType
 have h2 := ft.canCreate
 repeat (any_goals (first | assumption | wp_step))
 refine codeAny_mono hnew fun r s₁ hr => ?_
 cases r with
 | error e => exact hr
 | ok fl =>
  cases fl with
  | ret obj =>
   obtain ⟨hT, hini⟩ := hnext _ _ hr
   have hli := ft.init.lookup
   have hbi := ft.init.bind obj
   clear hnew hnext hr
   repeat (any_goals (first | assumption | wp_step))
   refine codeAny_mono hini fun r₂ s₂ hr₂ => ?_
   clear hini
   cases r₂ with
   | error e => exact hr₂
   | ok fl₂ =>
    cases fl₂ with
    | ret r =>
     obtain ⟨rfl, hq⟩ := hr₂
     repeat (any_goals (first | assumption | wp_step))
    | _ => exact hr₂.elim
  | _ => exact hr.elim
theorem Zo4 {S a : Addr} {b : Bool} {us : List Value} {R : Result → Shared → Prop} (hS : s.heap.get? S = some (Zdu b)) (hl : s.heap.IsList a us.toArray)
  (h : wpAny (model prog w) A.in1 (pyIter (.ref a)) (fun it s' => codeAny (model prog w) A.in1 (.builtin "set.update.loop" ⟨[.ref S, it], []⟩) (fun r s'' => r = .ok (.ret .none) ∧ R r s'') s') (fun _ _ => False) s) :
  wpAny (model prog w) A.in1 (Builtin.«set.__init__» ⟨[.ref S, .ref a], []⟩) (fun fin s' => match fin with | .done f => R (.ok f) s' | .again c' => c'.quiet = true ∧ codeAny (model prog w) A c' R s') (fun e s' => R (.error e) s') s := by
 obtain ⟨⟨ocls, odict, odata, oslots⟩, hol, hcl, nl, hdl⟩ := hl
 simp only at hcl hdl
 subst hcl; subst hdl
 have hsls := PySem.F.sub_list_set
 have hslf := PySem.F.sub_list_frozenset
 have hne : (Value.type "list" == Value.type "dict") = false := by decide
 obtain ⟨hp, g, d, tk, os⟩ := s
 unfold Builtin.«set.__init__» noKeywords Builtin.Frozenset.updateFrom
 generalize hPI : pyIter = PI at h ⊢
 wp_walk
 subst hPI
 refine wpAny_mono h (fun it s' h' => ?_) fun _ _ q => q.elim
 refine wpAny_bind (wpAny_runValue (codeAny_mono h' fun r s'' hr => ?_))
 obtain ⟨rfl, hr⟩ := hr
 refine wpAny_pure ?_
 show wpAny _ _ (ret Value.none) _ _ _
 exact wpAny_pure hr
theorem Loc.setNew (C : Loc env s₀ [] vs l s) (hh : A.handled = none) {a : Addr} {us : List Value} {ns : List Int} (hi : IntsAre us ns) (hns : ∀ i, i < ns.length → 0 ≤ ns.getD i 0 ∧ ns.getD i 0 < 1000 ∧ ns.getD i 0 ∉ ns.take i) (hlen : ns.length ≤ 50) (hl : ∀ s' l', Loc env s₀ [] vs (l' ++ l) s' → s'.heap.IsList a us.toArray) {Q : Value → Shared → Prop}
  (h : ∀ S o s', Zif o (Zek (Zet w) ns) → Loc env s₀ [] vs ((S, o) :: l) s' → Q (.ref S) s') : wpAny (model prog w) A (call (.type "set") [.ref a]) Q E s := by
 refine Zf7 (Q₁ := fun obj s₁ => obj = .ref s.heap.objs.size ∧ s₁ = { s with heap := s.heap.push (Zdu (Zet w)) }) PySem.F.called_set (PySem.F.typeCall_set_1 _) (Zg8 _ ⟨rfl, rfl⟩) fun obj s₁ h₁ => ?_
 obtain ⟨rfl, rfl⟩ := h₁
 have hS : (s.heap.push (Zdu (Zet w))).get? s.heap.objs.size = some (Zdu (Zet w)) := Heap.get?_push_size _ rfl
 have hT : Shared.TypeIs { s with heap := s.heap.push (Zdu (Zet w)) } (.ref s.heap.objs.size) "set" := ⟨_, hS, rfl⟩
 have x0 : Ext [] [] s { s with heap := s.heap.push (Zdu (Zet w)) } := C.extK (tk := s.toks) Zd
 have C1 := C.add x0 Zc C.big hS
 have ha1 := hl _ [_] C1
 refine ⟨hT, codeAny_call_builtin PySem.F.called_set.init.plain PySem.F.entry_set_init (check_set_init_1 hT ?_)⟩
 refine Zo4 hS ha1 ?_
 refine C1.pyIterL ha1 fun I oI s₃ hI0 hoI C2 => ?_
 exact Zpe (A := A.in1.in1) hh hi hns hlen (Zet w) hl hI0 (fun o s' hS' C3 => ⟨rfl, rfl, h _ o s' hS' C3⟩) us.length 0 s₃ oI _ rfl (Nat.zero_le _) hoI (Zk2 (Zet w)) C2
theorem Zd5 {Q : Bool → Shared → Prop} (h : Q (w.params.followText "set-order") s) : wpAny (model prog w) A setsByText Q E s := by
 unfold setsByText
 exact wpAny_bind (wpAny_askSetting (wpAny_pure h))
theorem Zih {S slot i ep : Nat} {es : Array (Int × Value)} {t : SetTable} {o : Obj} {Q : Option (Value × Nat) → Shared → Prop} (hb : w.params.followText "set-order" = true) (ho : s.heap.get? S = some o) (hd : o.data = .set es ep t) (hf : t.fits es.size = true)
  (h : Q (((pickOrder (w.params.setOrder S ep) es)[i]?).map fun e => (e.2, slot)) s) : wpAny (model prog w) A (setNext S slot i ep) Q E s := by
 unfold setNext
 refine wpAny_bind (wpAny_setState_of ho hd hf ?_)
 dsimp only
 refine wpAny_bind (Zd5 ?_)
 rw [hb]
 simp only [↓reduceIte, bne_self_eq_false, Bool.false_eq_true]
 refine wpAny_bind ?_
 unfold setWalk
 refine wpAny_bind (wpAny_setState_of ho hd hf ?_)
 dsimp only
 refine wpAny_bind (Zd5 ?_)
 rw [hb]
 simp only [↓reduceIte]
 exact wpAny_bind (wpAny_askSetting (wpAny_pure (wpAny_pure h)))
theorem Zj7 {S slot i ep : Nat} {es : Array (Int × Value)} {t : SetTable} {o : Obj} {Q : Option (Value × Nat) → Shared → Prop} (hb : w.params.followText "set-order" = false) (ho : s.heap.get? S = some o) (hd : o.data = .set es ep t) (hf : t.fits es.size = true)
  (hp : t.plain = true) (hl : t.led = true)
  (h : Q (match es[SetTable.below t.place slot]?, t.place[SetTable.below t.place slot]? with | some (_, x), some j => some (x, j + 1) | _, _ => none) s) : wpAny (model prog w) A (setNext S slot i ep) Q E s := by
 unfold setNext
 refine wpAny_bind (wpAny_setState_of ho hd hf ?_)
 dsimp only
 refine wpAny_bind (Zd5 ?_)
 rw [hb]
 simp only [↓reduceIte, Bool.false_eq_true]
 split
 ·rename_i hc
  refine absurd hc ?_
  show ¬ ((!t.plain && decide (es.size > 1)) = true)
  rw [hp]; simp
 ·refine wpAny_bind (wpAny_of_eq (a := ()) (by
   show (if (!t.led && !es.isEmpty) = true then _ else _) = _
   rw [hl]; rfl) ?_)
  exact wpAny_pure h
theorem Zcc {α : Type} (next : Nat → Nat) (xs : Array α) : (pickOrder next xs).toList.Perm xs.toList := by
 have key : ∀ (fuel k : Nat) (left : List α) (out : Array α), left.length ≤ fuel → (pickOrder.go next fuel k left out).toList.Perm (out.toList ++ left) := by
  intro fuel
  induction fuel with
  | zero =>
   intro k left out h
   have : left = [] := List.eq_nil_of_length_eq_zero (by lia)
   subst this
   unfold pickOrder.go
   simp
  | succ n ih =>
   intro k left out h
   unfold pickOrder.go
   by_cases h0 : left.length = 0
   ·have : left = [] := List.eq_nil_of_length_eq_zero h0
    subst this
    simp
   ·have hlt : next k % left.length < left.length := Nat.mod_lt _ (Nat.pos_of_ne_zero h0)
    rw [List.getElem?_eq_getElem hlt]
    dsimp only
    refine (ih (k + 1) _ _ (by rw [List.length_eraseIdx]; split <;> lia)).trans ?_
    rw [Array.toList_push, List.append_assoc]
    refine List.Perm.append_left _ ?_
    show (left[next k % left.length] :: left.eraseIdx (next k % left.length)).Perm left
    rw [List.eraseIdx_eq_take_drop_succ]
    have e : left.take (next k % left.length) ++ left[next k % left.length] :: left.drop (next k % left.length + 1) = left := by
     rw [← List.drop_eq_getElem_cons hlt, List.take_append_drop]
    refine List.perm_middle.symm.trans ?_
    rw [e]
 have := key xs.size 0 xs.toList #[] (by simp)
 simpa [pickOrder] using this
theorem Zat : Slot "set_iterator" "__next__" "set_iterator.__next__" :=
 .of (owner := "set_iterator") (n := "__next__") (by rw [typeLookup_type, builtinLookup_eq_fast]; kernel_rfl) (by decide +kernel) (by decide +kernel) (by decide +kernel)
  (by first | exact .inl (by decide +kernel) | exact .inr (by decide +kernel)) (by rw [isSubtype_type]; kernel_rfl)
theorem Zde : entryFor table "set_iterator.__next__" = some Builtin.«set_iterator.__next__» := entryFor_of_tree (by kernel_rfl)
theorem Zgs : entryFor table "set.__iter__" = some Builtin.«frozenset.__iter__» :=
 entryFor_alias (id' := "frozenset.__iter__") (by kernel_rfl) rfl (by decide +kernel) (by kernel_rfl)
theorem Zkj : Manifest.owners.lookup (String.ofList ['r', 'o', 't', 'a', 'r', 'e', 't', 'i', '_', 't', 'e', 's'].reverse) = some Manifest.sig_set_iterator := by kernel_rfl
theorem Zdw (a : Value) : argsOk "set_iterator.__next__" ⟨[a], []⟩ := by
 unfold argsOk; rw [signature?_of (id := "set_iterator.__next__") (n := ['_', '_', 't', 'x', 'e', 'n', '_', '_']) (o := ['r', 'o', 't', 'a', 'r', 'e', 't', 'i', '_', 't', 'e', 's']) (by kernel_rfl) Zkj]; kernel_rfl
noncomputable abbrev Zjq (first i : Nat) (S : Addr) (n ep : Nat) : Obj := { cls := .type "set_iterator", data := .fields #[rawInt first, rawInt i, .ref S, rawInt n, rawInt ep] }
noncomputable abbrev Zmb (es : Array (Int × Value)) (ep : Nat) (t : SetTable) : Obj := { cls := .type "set", dict := none, data := .set es ep t, slots := #[] }
noncomputable def Za1 (w : World) (S ep : Nat) (es : Array (Int × Value)) : Array (Int × Value) := if w.params.followText "set-order" then pickOrder (w.params.setOrder S ep) es else es
noncomputable def Zbi (w : World) (t : SetTable) (i : Nat) : Nat := if w.params.followText "set-order" then 0 else if i = 0 then 0 else t.place.getD (i - 1) 0 + 1
structure Zqc (prog : Program) (w : World) (A : Around) (n : Nat) (O : Nat → Obj → Prop) (P : Nat → Value → Prop) (side : Heap → Prop) : Prop where
 item : ∀ i I (s : Shared) (Q : Option Value → Shared → Prop) (E : Value → Shared → Prop), i < n → (∃ o, s.heap.get? I = some o ∧ O i o) → side s.heap →
  (∀ v h' tk, P i v → (∃ o, h'.get? I = some o ∧ O (i + 1) o) → Heap.SameBut I s.heap h' → Q (some v) { s with heap := h', toks := tk }) → wpAny (model prog w) A (pyNext (.ref I)) Q E s
 done : ∀ I (s : Shared) (Q : Option Value → Shared → Prop) (E : Value → Shared → Prop), (∃ o, s.heap.get? I = some o ∧ O n o) → side s.heap →
  (∀ h' tk, (∀ b o, b ≠ I → s.heap.get? b = some o → h'.get? b = some o) → Q none { s with heap := h', toks := tk }) → wpAny (model prog w) A (pyNext (.ref I)) Q E s
 nc : ∀ i o, O i o → Zs o
structure Ze5 (w : World) (es : Array (Int × Value)) (t : SetTable) : Prop where
 fit : t.fits es.size = true
 tab : w.params.followText "set-order" = false → t.plain = true ∧ t.led = true ∧ t.place.size = es.size ∧ ∀ i, i ≤ es.size → SetTable.below t.place (if i = 0 then 0 else t.place.getD (i - 1) 0 + 1) = i
theorem Ze2 (w : World) (S ep : Nat) (es : Array (Int × Value)) : (Za1 w S ep es).size = es.size := by
 unfold Za1
 split
 ·rw [← Array.length_toList, (Zcc _ _).length_eq, Array.length_toList]
 ·rfl
theorem Zjk {S ep i : Nat} {es : Array (Int × Value)} {t : SetTable} (g : Ze5 w es t) (ho : s.heap.get? S = some (Zmb es ep t)) (hi : i ≤ es.size) {Q : Option (Value × Nat) → Shared → Prop}
  (h : Q (match (Za1 w S ep es)[i]? with | some e => some (e.2, Zbi w t (i + 1)) | none => none) s) : wpAny (model prog w) A (setNext S (Zbi w t i) i ep) Q E s := by
 cases hb : w.params.followText "set-order" with
 | true =>
  refine Zih hb ho rfl g.fit ?_
  unfold Za1 Zbi at h
  rw [hb] at h
  simp only [if_true] at h
  unfold Zbi
  rw [hb]
  simp only [if_true]
  cases hq : (pickOrder (w.params.setOrder S ep) es)[i]? with
  | none => rw [hq] at h; exact h
  | some e => rw [hq] at h; exact h
 | false =>
  refine Zlj (g.tab hb) fun h1 h2 h3 h4 => ?_
  refine Zj7 hb ho rfl g.fit h1 h2 ?_
  unfold Za1 Zbi at h
  rw [hb] at h
  simp only [Bool.false_eq_true, if_false, Nat.add_one_ne_zero, Nat.add_sub_cancel] at h
  unfold Zbi
  rw [hb]
  simp only [Bool.false_eq_true, if_false]
  rw [h4 i hi]
  by_cases hlt : i < es.size
  ·rw [Array.getElem?_eq_getElem hlt] at h ⊢
   rw [Array.getElem?_eq_getElem (by rw [h3]; exact hlt)]
   have : t.place.getD i 0 = t.place[i]'(by rw [h3]; exact hlt) := by
    simp [Array.getD, show i < t.place.size by rw [h3]; exact hlt]
   rw [this] at h
   exact h
  ·rw [Array.getElem?_eq_none (Nat.le_of_not_lt hlt)] at h ⊢
   exact h
theorem Zps (hA : A.handled = none) {S ep : Nat} {es : Array (Int × Value)} {t : SetTable} (g : Ze5 w es t) : Zqc prog w A es.size (fun i o => o = Zjq (Zbi w t i) i S es.size ep) (fun i v => ∃ e, (Za1 w S ep es)[i]? = some e ∧ v = e.2) (fun h => h.get? S = some (Zmb es ep t)) where
 item := fun i I s Q E hi ⟨o, ho, h1⟩ hs k => by
  subst h1
  have hT : s.TypeIs (.ref I) "set_iterator" := ⟨_, ho, rfl⟩
  unfold pyNext
  refine wpAny_bind (wpAny_attempt (wpAny_callSpecial?_slot (name := ofString "__next__") hT Zat (wpAny_call_entry Zat hT Zde ?_ (Zdw _))))
  show wpAny _ A.in1 (fieldsOf (.ref I) >>= _) _ _ s
  refine wpAny_bind (wpAny_fieldsOf ho rfl ?_)
  show wpAny _ A.in1 (setEntries S >>= _) _ _ s
  refine wpAny_bind (wpAny_setEntries_of hs rfl g.fit ?_)
  rw [if_neg (by simp)]
  show wpAny _ A.in1 (setNext S (Zbi w t i) i ep >>= _) _ _ s
  refine wpAny_bind (Zjk g hs (Nat.le_of_lt hi) ?_)
  have e1 : (Za1 w S ep es)[i]? = some ((Za1 w S ep es)[i]'(by rw [Ze2]; exact hi)) := Array.getElem?_eq_getElem _
  rw [e1]
  dsimp only
  refine wpAny_bind (wpAny_setField ho rfl (by simp) ?_)
  have ho1 := Heap.get?_update_self (h := s.heap) (Obj.mapFields (·.setIfInBounds 0 (rawInt (Zbi w t (i + 1) : Nat)))) ho (by rfl)
  refine wpAny_bind (wpAny_setField ho1 rfl (by simp [Obj.mapFields]) ?_)
  have ho2 := Heap.get?_update_self (h := s.heap.update I (Obj.mapFields (·.setIfInBounds 0 (rawInt (Zbi w t (i + 1) : Nat))))) (Obj.mapFields (·.setIfInBounds 1 (rawInt ((i : Int) + 1)))) ho1 (by rfl)
  refine wpAny_pure ⟨_, rfl, wpAny_pure (k _ _ _ ⟨_, e1, rfl⟩ ⟨_, ho2, ?_⟩ ((Heap.SameBut.update ..).trans (Heap.SameBut.update ..)))⟩
  simp [Obj.mapFields, Int.natCast_succ]
 done := fun I s Q E ⟨o, ho, h1⟩ hs k => by
  subst h1
  have hT : s.TypeIs (.ref I) "set_iterator" := ⟨_, ho, rfl⟩
  unfold pyNext
  refine wpAny_bind (wpAny_attempt (wpAny_callSpecial?_slot (name := ofString "__next__") hT Zat (wpAny_call_entry Zat hT Zde ?_ (Zdw _))))
  show wpAny _ A.in1 (fieldsOf (.ref I) >>= _) _ _ s
  refine wpAny_bind (wpAny_fieldsOf ho rfl ?_)
  show wpAny _ A.in1 (setEntries S >>= _) _ _ s
  refine wpAny_bind (wpAny_setEntries_of hs rfl g.fit ?_)
  rw [if_neg (by simp)]
  show wpAny _ A.in1 (setNext S (Zbi w t es.size) es.size ep >>= _) _ _ s
  refine wpAny_bind (Zjk g hs (Nat.le_refl _) ?_)
  rw [Array.getElem?_eq_none (by rw [Ze2]; exact Nat.le_refl _)]
  dsimp only
  refine wpAny_bind (wpAny_setField ho rfl (by simp) ?_)
  have oth : ∀ b o, b ≠ I → s.heap.get? b = some o → (s.heap.update I (Obj.mapFields (·.setIfInBounds 2 Value.none))).get? b = some o := fun b o hb e => (Heap.get?_update_other _ _ (Ne.symm hb)).trans e
  show wpAny _ A.in1 (newExc (.type "StopIteration") [] >>= _) _ _ _
  refine wpAny_bind ?_
  simp only [newExc, newTuple]
  refine wpAny_bind (wpAny_newObj_type ?_ (by size_fits))
  refine wpAny_bind (m := firstArgMember _ _) (wpAny_of_eq (a := Value.none) (by first | rfl | (simp only [firstArgMember]; rfl)) ?_)
  refine wpAny_newObj_type ?_ (by size_fits)
  simp only [raiseNew]
  refine wpAny_bind (wpAny_handled ?_)
  first | rw [show A.in1.handled = none from hA] | rw [hA]
  refine wpAny_bind (wpAny_pure (wpAny_throw ?_))
  refine wpAny_bind (wpAny_isInstance (T := "StopIteration") (b := true) ⟨_, Heap.get?_push_size _ rfl, rfl⟩ isSubtype_stop ?_)
  exact wpAny_pure (k _ _ fun b o hb e => Heap.get?_push_of_some _ (Heap.get?_push_of_some _ (oth b o hb e)))
 nc := fun i o h1 => by
  subst h1
  refine ⟨fun vs q t e => ?_, fun fd e => by cases e⟩
  cases e
  intro x; cases x
theorem Loc.pyIterSet (C : Loc env s₀ [] vs l s) {S ep : Nat} {es : Array (Int × Value)} {t : SetTable} (g : Ze5 w es t) (ho : s.heap.get? S = some (Zmb es ep t)) {Q : Value → Shared → Prop}
  (h : ∀ I s', s₀.heap.get? I = none → Loc env s₀ [] vs ((I, Zjq (Zbi w t 0) 0 S es.size ep) :: l) s' → Q (.ref I) s') : wpAny (model prog w) A (pyIter (.ref S)) Q E s := by
 have hT : s.TypeIs (.ref S) "set" := ⟨_, ho, rfl⟩
 refine wpAny_pyIter_slot hT PySem.F.slot_set_iter (wpAny_call_entry PySem.F.slot_set_iter hT Zgs ?_ (PySem.F.args_set_iter_1 _))
 show wpAny _ A.in1 (Builtin.Frozenset.sizeOf S >>= _) _ _ s
 unfold Builtin.Frozenset.sizeOf
 refine wpAny_bind (wpAny_bind (wpAny_setEntries_of ho rfl g.fit (wpAny_pure ?_)))
 have hdr : wpAny (model prog w) A.in1 (setDrawn S) (fun b s' => b = false ∧ s' = s) (fun _ _ => False) s := by
  unfold setDrawn
  refine wpAny_bind (wpAny_setState_of ho rfl g.fit ?_)
  dsimp only
  refine wpAny_bind (Zd5 (wpAny_pure ⟨?_, rfl⟩))
  cases hb : w.params.followText "set-order" with
  | true => rfl
  | false =>
   obtain ⟨h1, _⟩ := g.tab hb
   show (!false && (!t.plain && decide (es.size > 1))) = false
   rw [h1]; rfl
 refine wpAny_bind (wpAny_mono hdr (fun b s' hq => ?_) fun _ _ q => q.elim)
 obtain ⟨rfl, rfl⟩ := hq
 rw [if_neg (by decide)]
 refine wpAny_bind (wpAny_pure ?_)
 refine wpAny_bind (wpAny_setEpoch_of ho rfl g.fit ?_)
 simp only [newFields]
 refine wpAny_bind (wpAny_newObj_type ?_ (by size_fits))
 refine wpAny_pure ⟨_, rfl, "set_iterator", _, ⟨_, Heap.get?_push_size _ rfl, rfl⟩, Zat.lookup, ?_⟩
 have hz : (0 : Int) = ((Zbi w t 0 : Nat) : Int) := by
  unfold Zbi
  split <;> simp
 have e : Ext [] [] s' { s' with heap := s'.heap.push (Zjq (Zbi w t 0) 0 S es.size ep) } := C.extK (tk := s'.toks) Zd
 have := h _ _ (C.noneAt Zc (fun h => nomatch h)) (C.add e Zc C.big (Heap.get?_push_size _ rfl))
 have e2 : (Zjq (Zbi w t 0) 0 S es.size ep : Obj) = { cls := .type "set_iterator", data := .fields #[rawInt 0, rawInt 0, .ref S, rawInt es.size, rawInt ep] } := by
  show ({ cls := Value.type "set_iterator", data := .fields #[rawInt ((Zbi w t 0 : Nat) : Int), rawInt ((0 : Nat) : Int), .ref S, rawInt es.size, rawInt ep] } : Obj) = _
  rw [← hz]; rfl
 rw [e2] at this
 exact this
variable {O : Nat → Obj → Prop} {side : Heap → Prop}
theorem Znf {r : Addr} {Q : Bool → Shared → Prop} (hT : s.TypeIs (.ref r) "set") (h : Q false s) : wpAny (model prog w) A (Builtin.List.listLengthHint (.ref r)) Q E s := by
 unfold Builtin.List.listLengthHint
 refine wpAny_bind (wpAny_specialOf hT PySem.F.slot_set_len.lookup ?_)
 generalize hid : ("set.__len__" : String) = id0
 wp_delta
 rw [show splitId id0 = some ("set", "__len__") from by subst hid; decide +kernel]
 subst hid
 refine wpAny_bind (wpAny_isInstance (T := "set") (b := true) hT (by rw [isSubtype_type]; kernel_rfl) ?_)
 refine wpAny_ite_split (fun hab => absurd hab (by decide)) (fun _ => ?_)
 refine wpAny_ite_split (fun _ => ?_) (fun hab => absurd (by decide +kernel) hab)
 refine wpAny_bind (wpAny_typeOf hT ?_)
 exact wpAny_pure h
theorem Zob (IT : Zqc prog w A.in1 n O P side) (hn : n ≤ 1000) {D I : Addr} {res : Value} (hI0 : s₀.heap.get? I = none) {R : Result → Shared → Prop} (hside : ∀ s' l', Loc env s₀ [] vs (l' ++ l) s' → side s'.heap)
  (fin : ∀ rs oD s', Zce oD rs → rs.length = n → (∀ i r, rs[i]? = some r → P i r) → Loc env s₀ [] vs ((D, oD) :: l) s' → R (.ok (.ret res)) s') :
  ∀ k i s rs oI oD, n - i = k → i ≤ n → O i oI → Loc env s₀ [] vs ((I, oI) :: (D, oD) :: l) s → Zce oD rs → rs.length = i → (∀ i r, rs[i]? = some r → P i r) →
   codeAny (model prog w) A (.builtin "list.extend.loop" ⟨[.ref D, .ref I, res], []⟩) R s := by
 intro k
 induction k with
 | zero =>
  intro i s rs oI oD hk hi hO C hD hrs hP
  have : i = n := by grind
  subst this
  refine codeAny_builtin PySem.F.entry_extend_loop ?_
  rw [Around.under_plainId PySem.F.plain_extend_loop _]
  show wpAny _ A.in1 (pyNext (.ref I) >>= _) _ _ s
  refine wpAny_bind (IT.done I s _ _ ⟨oI, C.led _ M0, hO⟩ (hside _ [_, _] C) fun h' tk hx => ?_)
  exact wpAny_pure (fin rs oD _ hD hrs hP (C.die (tk := tk) rfl hI0 (IT.nc _ _ hO) hx))
 | succ k ih =>
  intro i s rs oI oD hk hi hO C hD hrs hP
  have hlt : i < n := nL hk
  refine codeAny_builtin PySem.F.entry_extend_loop ?_
  rw [Around.under_plainId PySem.F.plain_extend_loop _]
  show wpAny _ A.in1 (pyNext (.ref I) >>= _) _ _ s
  refine wpAny_bind (IT.item i I s _ _ hlt ⟨oI, C.led _ M0, hO⟩ (hside _ [_, _] C) fun v h' tk hv hit hs => ?_)
  refine Zo hit fun oJ q1 q2 => ?_
  have x1 : Ext [I] [] s { s with heap := h', toks := tk } := Ext.same (C.own _ M0).2 (Z5 (C.led _ M0) (IT.nc _ _ hO)) M0 hs ⟨oJ, q1⟩
  replace C := C.put x1 J0 q1 (IT.nc _ _ q2).2
  show wpAny _ A.in1 (updateSeq D (·.push v) >>= _) _ _ _
  refine wpAny_bind (C.updP (us' := rs ++ [v]) (L' := fun o' => (I, oJ) :: (D, o') :: l) (fun o' => J1) hD (by simp) (by lia) (by simp; lia) fun o' s'' hD' x' C' => ?_)
  refine wpAny_pure ⟨plainId_quiet PySem.F.plain_extend_loop _, ih (i + 1) s'' (rs ++ [v]) oJ o' (nS hk) (by assumption) q2 C' hD' (by simp [hrs]) fun j r e => ?_⟩
  by_cases q : j < rs.length
  ·rw [List.getElem?_append_left q] at e; exact hP j r e
  ·rw [List.getElem?_append_right (Nat.le_of_not_lt q)] at e
   have q2 : j = i := by
    cases h : j - rs.length with
    | zero => lia
    | succ m => rw [h] at e; simp at e
   subst q2
   rw [hrs, Nat.sub_self] at e
   cases e; exact hv
theorem Loc.collectSet (C : Loc env s₀ [] vs l s) (hA : A.handled = none) {S ep : Nat} {es : Array (Int × Value)} {t : SetTable} (g : Ze5 w es t) (hm : (S, Zmb es ep t) ∈ l) (hsz : es.size ≤ 100) {Q : List Value → Shared → Prop}
  (h : ∀ s', Loc env s₀ [] vs l s' → Q ((Za1 w S ep es).toList.map (·.2)) s') : wpAny (model prog w) A (collect (.ref S)) Q E s := by
 unfold collect
 refine wpAny_bind (wpAny_runValue (codeAny_builtin PySem.F.entry_proto_collect ?_))
 rw [Around.under_plainId PySem.F.plain_proto_collect _]
 show wpAny _ A.in1 (newList [] >>= fun l => again (.builtin "list.__iadd__" ⟨[l, .ref S], []⟩)) _ _ s
 refine wpAny_bind (C.lst (by simp) fun D s C => ?_)
 refine wpAny_pure ⟨plainId_quiet PySem.F.plain_list_iadd _, codeAny_builtin PySem.F.entry_list_iadd ?_⟩
 rw [Around.under_plainId PySem.F.plain_list_iadd _]
 show wpAny _ A.in1 (Builtin.List.listExtendWith (.ref D) (.ref S) (.ref D)) _ _ _
 have hSl : s.heap.get? S = some (Zmb es ep t) := C.led _ (.tail _ hm)
 have hT : s.TypeIs (.ref S) "set" := ⟨_, hSl, rfl⟩
 have hDS : D ≠ S := fun q => by
  have := C.led _ M0
  rw [q, hSl] at this
  have := congrArg (fun o : Option Obj => o.map (·.cls)) this
  exact absurd (show Value.type "set" = Value.type "list" from Option.some.inj this) (by decide)
 unfold Builtin.List.listExtendWith
 refine wpAny_bind (wpAny_typeOf hT ?_)
 have h1 : Builtin.List.listSameRef (.ref D) (.ref S) = false := by simp [Builtin.List.listSameRef, hDS]
 have h2 : (Value.type "set" == Value.type "list") = false := by decide
 have h3 : (Value.type "set" == Value.type "tuple") = false := by decide
 simp only [h1, h2, h3, Bool.or_false, Bool.false_eq_true, if_false]
 refine wpAny_bind (C.pyIterSet g hSl fun I s hI0 C => ?_)
 have hSl : s.heap.get? S = some (Zmb es ep t) := C.led _ (.tail _ (.tail _ hm))
 have hT : s.TypeIs (.ref S) "set" := ⟨_, hSl, rfl⟩
 refine wpAny_bind (wpAny_holding ?_)
 refine Znf hT ?_
 have loop : ∀ s' oD, Loc env s₀ [] vs ((I, Zjq (Zbi w t 0) 0 S es.size ep) :: (D, oD) :: l) s' → Zce oD [] → codeAny (model prog w) A (.builtin "list.extend.loop" ⟨[.ref D, .ref I, .ref D], []⟩) (fun r s' => match r with
   | .ok (.ret v) => wpAny (model prog w) A (match v with
     | .ref a => do
      match (← load a).data with
      | .seq xs _ => Pure.pure xs.toList
      | _ => unsupported "internal:collect"
     | _ => unsupported "internal:collect") Q E s'
   | .ok _ => False
   | .error e => E e s') s' := fun s' oD C hD => by
  refine Zob (Zps (A := A.in1) hA g) (kA ‹_› rfl) hI0 (fun s' l' C => C.led _ (List.mem_append_right _ hm)) (fun rs oD s' hD hl hP C => ?_) es.size 0 s' [] _ oD rfl (Nat.zero_le _) rfl C hD rfl (fun i r e => by simp at e)
  have e1 : rs = (Za1 w S ep es).toList.map (·.2) := by
   have := Zfc (F := fun e : Int × Value => e.2) (idx := (Za1 w S ep es).toList) (rs := rs) (by rw [hl, Array.length_toList, Ze2]) (fun i r e => by
    refine Zo (hP i r e) fun k e2 e3 => ?_
    exact ⟨k, by rw [Array.getElem?_toList]; exact e2, e3⟩)
   exact this
  obtain ⟨c, rfl⟩ := hD
  show wpAny _ A (load D >>= _) _ _ s'
  refine wpAny_bind (wpAny_load (C.led _ M0) ?_)
  refine wpAny_pure ?_
  rw [List.toList_toArray, e1]
  exact h s' (C.sub (List.sublist_cons_self _ _))
 refine wpAny_ite_split (fun _ => ?_) (fun _ => wpAny_pure ⟨plainId_quiet PySem.F.plain_extend_loop _, loop _ _ C (Zc2 [])⟩)
 refine wpAny_bind (wpAny_rule ?_)
 refine wpAny_bind ?_
 show wpAny _ _ (updateSeq D (·.push .none) >>= fun _ => updateSeq D (·.pop)) _ _ _
 refine wpAny_bind (C.updP (us' := [.none]) (L' := fun o' => (I, _) :: (D, o') :: l) (fun o' => J1) (Zc2 []) rfl (by simp) (by simp) fun o2 s₃ hD2 x2 C => ?_)
 refine C.updP (us' := []) (L' := fun o' => (I, _) :: (D, o') :: l) (fun o' => J1) hD2 rfl (by simp) (by simp) ?_; clear C; intro o3 s₄ hD3 x3 C
 exact wpAny_pure ⟨plainId_quiet PySem.F.plain_extend_loop _, loop _ _ C hD3⟩
theorem Zkk {b : Bool} {ns : List Int} {es : Array (Int × Value)} (hb : b = Zet w) (hok : Zhu b ns = true) (hm : es.map (·.1) = (Zek b ns).1) (hf : (Zek b ns).2.fits es.size = true) : Ze5 w es (Zek b ns).2 := by
 unfold Zhu at hok
 simp only [Bool.and_eq_true, List.all_eq_true, decide_eq_true_eq, beq_iff_eq, List.mem_range] at hok
 obtain ⟨⟨⟨⟨⟨h1, h2⟩, h3⟩, h4⟩, h5⟩, h6⟩ := hok
 have hsz : es.size = ns.length := by
  have := (Zfl b ns).length_eq
  rw [← hm] at this
  simpa using this
 refine ⟨hf, fun ht => ⟨h2, ?_, by rw [h4, hsz], fun i hi => ?_⟩⟩
 ·rw [h3, hb]; unfold Zet; rw [ht]; rfl
 ·by_cases hlt : i < ns.length
  ·exact h5 i hlt
  ·have : i = ns.length := by lia
   subst this
   exact h6
theorem Znh {b : Bool} {ns : List Int} (hok : Zhu b ns = true) : ∀ i, i < ns.length → 0 ≤ ns.getD i 0 ∧ ns.getD i 0 < 1000 ∧ ns.getD i 0 ∉ ns.take i := by
 unfold Zhu at hok
 simp only [Bool.and_eq_true, List.all_eq_true, decide_eq_true_eq, beq_iff_eq, List.mem_range] at hok
 intro i hi
 obtain ⟨⟨h1, h2⟩, h3⟩ := hok.1.1.1.1.1 i hi
 refine ⟨h2, h3, ?_⟩
 simpa using h1
theorem Loc.sortedSet (C : Loc env s₀ [] vs l s) (hA : A.handled = none) {S : Addr} {o : Obj} {ns : List Int} (hm : (S, o) ∈ l) (hS : Zif o (Zek (Zet w) ns)) (hok : Zhu (Zet w) ns = true) (hlen : ns.length ≤ 50) {Q : Value → Shared → Prop}
  (h : ∀ D oD us' ss' s', Zy oD us' → IntsAre us' ss' → ss'.Perm ns → ss'.Pairwise (· ≤ ·) → Loc env s₀ [] vs ((D, oD) :: l) s' → Q (.ref D) s') : wpAny (model prog w) A (call (.builtin "sorted") [.ref S]) Q E s := by
 obtain ⟨es, ep, rfl, hm1, hel, hf⟩ := hS
 have g := Zkk (w := w) rfl hok hm1 hf
 have hpm : ((Za1 w S ep es).toList.map (·.1)).Perm ns := by
  have h1 : (Za1 w S ep es).toList.Perm es.toList := by
   unfold Za1
   split
   ·exact Zcc _ _
   ·exact .rfl
  refine (h1.map _).trans ?_
  rw [← Array.toList_map, hm1]
  exact Zfl _ _
 have hint : ∀ l : List (Int × Value), (∀ e ∈ l, ∃ tok, e.2 = .int e.1 tok) → IntsAre (l.map (·.2)) (l.map (·.1)) := by
  intro l
  induction l with
  | nil => intro _; exact .nil
  | cons e r ih =>
   intro hl
   obtain ⟨tok, q⟩ := hl e M0
   rw [List.map_cons, List.map_cons, q]
   exact .cons _ _ (ih fun e he => hl e (.tail _ he))
 have hIn : IntsAre ((Za1 w S ep es).toList.map (·.2)) ((Za1 w S ep es).toList.map (·.1)) := hint _ fun e he => hel e (by
  have h1 : (Za1 w S ep es).toList.Perm es.toList := by
   unfold Za1
   split
   ·exact Zcc _ _
   ·exact .rfl
  exact h1.mem_iff.mp he)
 have hl2 : ((Za1 w S ep es).toList.map (·.2)).length = ns.length := by
  have := hpm.length_eq
  rw [List.length_map] at this ⊢
  exact this
 have hes : es.size = ns.length := by
  rw [List.length_map, Array.length_toList, Ze2] at hl2
  exact hl2
 refine Calls.call_function_entry kind_sorted plain_sorted entry_sorted (args_sorted1 _) ?_
 unfold Builtin.«sorted»
 refine wpAny_bind (m := checkCount "sorted" 1 1 _) (wpAny_pure ?_)
 show wpAny _ A.in1 (collect (.ref S) >>= _) _ _ s
 refine wpAny_bind (C.collectSet (A := A.in1) hA g hm (by lia) fun s C => ?_)
 generalize (Za1 w S ep es).toList.map (·.2) = us at hIn hl2
 generalize (Za1 w S ep es).toList.map (·.1) = ks at hIn hpm
 refine wpAny_bind (C.lst (by rw [sizeLine_eq]; lia) fun D s C => ?_)
 have hoL : s.heap.get? D = some (seqObj "list" us.toArray 0) := C.led _ M0
 refine wpAny_bind (wpAny_holding (wpAny_call_entry slot_list_sort ⟨_, hoL, rfl⟩ entry_list_sort (list_sort_tree hoL hIn (by lia) fun out ns' a1 a2 a3 => ⟨_, rfl, ?_⟩) (args_list_sort _)))
 obtain ⟨e, he⟩ := sortedHeap_at (out := out) hoL
 have x : Ext [D] [] s { s with heap := sortedHeap s.heap D us out } := Ext.but (tk := s.toks) (C.own _ M0).2 (Z5 hoL (Zau (us := us) ⟨rfl, 0, rfl⟩)) M0 (fun b o hb e => (sortedHeap_old hb (Heap.lt_size e)).trans e) (Nat.le_trans (C.own _ M0).2 (Nat.le_of_lt (Heap.lt_size he)))
 replace C := C.put x J0 he (fun fd q => by cases q)
 exact wpAny_pure ⟨_, rfl, h D _ out.toList ns' _ ⟨rfl, _, rfl⟩ a1 (a2.trans hpm) a3 C⟩
theorem Zh1 {c : Expr} {cenv : Env} {b : Bool} (h : wpAny (model prog w) A (isTrue c cenv (eval c cenv)) (fun ok s₄ => ok = b ∧ Ext [] [] s s₄) (fun _ _ => False) s) :
  wpAny (model prog w) A (forIn [c] true fun c r => if r = true then do let ok ← isTrue c cenv (eval c cenv); Pure.pure (ForInStep.yield ok) else Pure.pure (ForInStep.yield r)) (fun ok s₄ => ok = b ∧ Ext [] [] s s₄) (fun _ _ => False) s := by
 rw [List.forIn_cons, if_pos rfl]
 refine wpAny_bind (wpAny_bind (wpAny_mono h (fun ok s₄ hq => wpAny_pure ?_) fun _ _ q => q))
 dsimp only
 rw [List.forIn_nil]
 exact wpAny_pure hq
theorem Zp6 {us : List Value} {ns : List Int} (h : IntsAre us ns) {i : Nat} (hi : i < ns.length) : ∃ t, us[i]? = some (.int (ns.getD i 0) t) := by
 have hl : i < us.length := by rw [h.length]; exact hi
 obtain ⟨t, e⟩ := Zc1 h hl
 exact ⟨t, by rw [List.getElem?_eq_getElem hl, e]⟩
theorem Zeb : ∀ ns ∈ Za6, ns.Pairwise (· ≤ ·) ∧ ns.length ≤ 5 := by decide
theorem Zjg (W : Wd K s.heap) (G : KG K) (R : Zk A 20) (hf : FnK K 298 (ofString "_law_sound") (ofString "_law_sound") (top 26) [] .none 297) {PA NA UA : Addr} {up un uu : List Value} {nms : List (List Nat)} {nums : List Int} {rows : List (List Nat)} {m n : Nat} {t1 t2 : Tok} {Q : Value → Shared → Prop}
  (hP3 : 316 ≤ PA) (hN3 : 316 ≤ NA) (hU3 : 316 ≤ UA) (hlP : s.heap.IsList PA up.toArray) (hlN : s.heap.IsList NA un.toArray) (hlU : s.heap.IsList UA uu.toArray) (hin : StrsAre un (nms.map mkS)) (hiu : IntsAre uu nums) (hnd : nms.Nodup) (hlen : nms.length ≤ 60) (hnum : nums.length = nms.length) (hm : 0 < m) (hn : 0 < n) (hm9 : m ≤ 100) (hn9 : n ≤ 100) (hrl : rows.length ≤ 100)
  (hup : up.length = rows.length) (hpk : ∀ p, p < rows.length → ∃ a us, up[p]? = some (.ref a) ∧ 316 ≤ a ∧ s.heap.IsList a us.toArray ∧ StrsAre us ((rows.getD p []).map fun k => mkS (nms.getD k [])))
  (hpl : ∀ p, p < rows.length → (rows.getD p []).map (fun k : Nat => (k : Int)) ∈ Za6) (hk : ∀ p, p < rows.length → ∀ k ∈ rows.getD p [], k < nms.length ∧ (nums.getD k 0).fmod (m : Nat) = ((p / n : Nat) : Int) ∧ (nums.getD k 0).fmod (n : Nat) = ((p % n : Nat) : Int))
  (h : ∀ s', Ext [] [] s s' → Q (.bool true) s') :
  wpAny (model prog w) A (call (.ref 298) [.ref PA, .ref NA, .ref UA, .int (m : Nat) t1, .int (n : Nat) t2]) Q E s := by
 refine Zw W R hf [("picks", .ref PA), ("names", .ref NA), ("numbers", .ref UA), ("m", .int (m : Nat) t1), ("n", .int (n : Nat) t2)] (fun _ _ _ _ _ => BindsTo.of_eq rfl) fun env s₁ hE hO hc C => ?_
 have RD := R.deeper (env := env)
 refine Zq ?_
 refine xca ?_
 refine C.dnew ?_; clear C; intro d o s hD C
 refine C.st hO hc (by walk_at "K") ?_; clear C; intro s C
 refine Zi ?_
 refine C.fillD hO W G RD.hd (xk := "k") (nm := "names") (dn := "spot") (by walk_at "K") (by walk_at "K") (by walk_at "K") (by walk_at "M") (by walk_at "M") (by simp) hlN hN3 hin hnd (kA ‹_› rfl) hD ?_ (by decide)
 intro o kvs s hD hkv C
 refine xcf ?_
 refine Zf ?_
 walk_at "B"
 refine xt1 ?_
 refine Za ?_
 refine Zf ?_
 walk_at "B"
 refine xb1 ?_
 refine Za ?_
 walk_at "N"
 refine spliced_none ?_
 refine C.lenL (C.ext.list hP3 hlP) (by lia) ?_; clear C; intro s t C
 refine spliced_none ?_
 refine C.range1 ?_; clear C; intro r _ _ _ s C
 refine C.pyIterR1 (a := 0) (n := up.length) (by rw [Int.zero_add]; exact M0) (by decide) (by lia) ?_; clear C; intro I s hI C
 refine Loc.forI (α := Unit) (fun i d' => True) (fun _ d' => [("picks", .ref PA), ("names", .ref NA), ("numbers", .ref UA), ("m", .int (m : Nat) t1), ("n", .int (n : Nat) t2), ("spot", .ref d)])
  (fun _ d' => [(d, o)]) (d0 := ()) (Zcz RD.hd 0 1 up.length) hI (Zcq _ _ _) (C.sub (List.Sublist.cons_cons _ (List.sublist_cons_self _ _))) trivial (fun _ _ _ _ _ _ => trivial) ?_ ?_
 ·rintro p ⟨⟩ oI u s hi' hu - C
  obtain ⟨tu, rfl⟩ := hu
  rw [show (0 + (p : Int) * 1) = ((p : Nat) : Int) by simp +arith [*]]
  have hpr : p < rows.length := by lia
  refine Zic (hpk p hpr) fun a us e1 ha3 hla hsa => ?_
  have hrow := hpl p hpr
  have hkp := hk p hpr
  obtain ⟨hpw, hl5⟩ := Zeb _ hrow
  have hok := Zmo (Zet w) _ hrow
  generalize rows.getD p [] = row at *
  rw [List.length_map] at hl5
  have hul : us.length = row.length := by rw [hsa.length, List.length_map]
  refine wpAny_assign_Name ?_
  refine C.st hO hc (by walk_at "K") ?_; clear C; intro s C
  refine Zi ?_
  refine Loc.lcA hO ⟨[("spot", .ref d)], by walk_at "S"⟩ C (Zao C.block (by walk_at "K") (by kernel_rfl)) (by walk_at "K") ?_
  refine Zad ?_
  walk_at "N"
  walk_at "N"
  refine Loc.subL (C.ext.list hP3 hlP) (Int.natCast_nonneg _) (by lia) (by rw [Int.toNat_natCast]; exact e1) ?_
  refine C.pyIterL (C.ext.list ha3 hla) ?_; clear C; intro I2 oI2 s hI2 hoI2 C
  refine Zal.all (fvs := [("spot", .ref d)]) (Zbl RD.hd a us) (by walk_at "S") hI2 hoI2 C (by rw [sizeLine_eq]; lia) (fun s' l' C => C.ext.list ha3 hla) (fun i y new => (∃ t, y = .int (row.getD i 0 : Nat) t) ∧ new = []) ?_ ?_
  ·intro i v cenv s N' hi hv ce C CO
   obtain ⟨x, t, rfl, hx⟩ := Zgx hsa hv
   rw [List.getElem?_map] at hx
   have hir : i < row.length := by lia
   have e2 : row[i]? = some (row.getD i 0) := by
    rw [List.getElem?_eq_getElem hir]; simp [List.getD, hir]
   rw [e2] at hx
   cases hx
   refine Zae (hkp (row.getD i 0) (List.mem_of_getElem? e2)) fun hk1 _ _ => ?_
   obtain ⟨tv, ev⟩ := hkv.at (Nat.le_refl _) hnd hk1
   refine Zad ?_
   walk_at "N"
   walk_at "N"
   exact C.subD (CO.led (d, o) (List.mem_append_right _ (by simp))) hD ev fun s C => C.eltS ⟨_, rfl⟩
  intro D1 o1 s rs hD1 hG C s C
  replace C := C.sv (Za3.of (by walk_at "T") (by kernel_rfl))
  obtain ⟨hpi, hfl⟩ := hG.ints
  rw [hfl] at C
  have hpe : (List.range us.length).map (fun i => ((row.getD i 0 : Nat) : Int)) = row.map fun k : Nat => (k : Int) := by
   rw [hul]
   have := congrArg (List.map fun k : Nat => (k : Int)) (Zc9 0 row)
   rw [List.map_map] at this
   exact this
  rw [hpe] at hpi
  generalize rs.map (·.1) = pv at *
  have hplen : (row.map fun k : Nat => (k : Int)).length ≤ 50 := by rw [List.length_map]; exact kA ‹_› rfl
  refine xci ?_
  refine Z0 ?_
  refine Loc.lc ⟨[("numbers", .ref UA), ("m", .int (m : Nat) t1), ("n", .int (n : Nat) t2), ("p", .int (p : Nat) tu)], by walk_at "S"⟩ C ?_
  refine Zf ?_
  walk_at "B"
  refine xb1 ?_
  refine Za ?_
  refine Zf ?_
  walk_at "B"
  refine xt1 ?_
  refine Za ?_
  walk_at "N"
  refine spliced_none ?_
  refine C.setNew RD.hd hpi (Znh hok) hplen (fun s' l' C => hD1.at (C.led (D1, o1) (List.mem_append_right _ M0))) ?_; clear C; intro S oS s hS C
  refine spliced_none ?_
  refine C.sortedSet RD.hd M0 hS hok hplen ?_; clear C; intro D2 o2 us2 ss2 s hD2 hi2 hp2 hw2 C
  have he2 := Zhe hw2 hpw hp2
  subst he2
  refine C.pyIterL (hD2.at (C.led _ M0)) ?_; clear C; intro I3 oI3 s hI3 hoI3 C
  have hu2 : us2.length = row.length := by rw [hi2.length, List.length_map]
  refine fun _ kk => kk _ [("numbers", .ref UA), ("m", .int (m : Nat) t1), ("n", .int (n : Nat) t2), ("p", .int (p : Nat) tu)] I3 oI3 us2.length _ _ _ (fun _ => true) (fun i y new => (∃ t, y = .int (row.getD i 0 : Nat) t) ∧ new = []) rfl (Zbl RD.hd D2 us2) (by walk_at "S") hI3 hoI3 C (by rw [sizeLine_eq]; lia) (fun s' l' C => hD2.at (C.led (D2, o2) (List.mem_append_right _ M0))) ?_ ?_ ?_
  ·intro i v cenv s N' hi hv ce C CO
   obtain ⟨tv, rfl, hil⟩ := Zaz hi2 hv
   rw [List.length_map] at hil
   have e2 : row[i]? = some (row.getD i 0) := by
    rw [List.getElem?_eq_getElem hil]; simp [List.getD, hil]
   have e3 : (row.map fun k : Nat => (k : Int)).getD i 0 = ((row.getD i 0 : Nat) : Int) := by
    rw [List.getD, List.getElem?_map, e2]; rfl
   rw [e3] at C
   refine Zae (hkp (row.getD i 0) (List.mem_of_getElem? e2)) fun hk1 hk2 hk3 => ?_
   obtain ⟨tn, en⟩ := Zp6 hiu (i := row.getD i 0) (by simp +arith [*])
   have hUl := CO.ext.list hU3 hlU
   refine Zh1 ?_
   refine isTrue_and (Z0 ?_)
   refine Zn ?_
   refine Zad ?_
   walk_at "N"
   walk_at "N"
   refine Loc.subL (C.ext.list hU3 hUl) (Int.natCast_nonneg _) (by lia) (by rw [Int.toNat_natCast]; exact en) ?_
   walk_at "N"
   refine C.imod (nZ hm) ?_; clear C; intro s t C
   rw [hk2]
   refine Zn ?_
   walk_at "N"
   walk_at "N"
   refine C.idiv (nZ hn) (PyProof.noPylong_small (kB ‹_› rfl)) ?_; clear C; intro s t C
   rw [Zby]
   refine eq_int (wpAny_truthy_bool ?_)
   refine ifP (by simp) ?_
   refine isTrue_and (Z0 ?_)
   refine Zn ?_
   refine Zad ?_
   walk_at "N"
   walk_at "N"
   refine Loc.subL (C.ext.list hU3 hUl) (Int.natCast_nonneg _) (by lia) (by rw [Int.toNat_natCast]; exact en) ?_
   walk_at "N"
   refine C.imod (nZ hn) ?_; clear C; intro s t C
   rw [hk3]
   refine Zn ?_
   walk_at "N"
   walk_at "N"
   refine C.imod (nZ hn) ?_; clear C; intro s t C
   rw [Zam]
   refine eq_int (wpAny_truthy_bool ?_)
   refine ifP (by simp) ?_
   exact isTrue_and_nil ⟨rfl, C.ext⟩
  ·intro i v cenv s N' hi hv _ ce C CO
   obtain ⟨tv, rfl, hil⟩ := Zaz hi2 hv
   rw [List.length_map] at hil
   have e2 : row[i]? = some (row.getD i 0) := by
    rw [List.getElem?_eq_getElem hil]; simp [List.getD, hil]
   have e3 : (row.map fun k : Nat => (k : Int)).getD i 0 = ((row.getD i 0 : Nat) : Int) := by
    rw [List.getD, List.getElem?_map, e2]; rfl
   walk_at "N"
   exact C.eltS ⟨tv, by rw [e3]⟩
  intro D3 o3 s rs3 hD3 hG3 C
  have hfr : (List.range us2.length).filter (fun _ => true) = List.range us2.length := List.filter_eq_self.mpr (fun _ _ => rfl)
  rw [hfr] at hG3
  obtain ⟨hp3, hfl3⟩ := hG3.ints
  rw [hfl3] at C
  have hpe3 : (List.range us2.length).map (fun i => ((row.getD i 0 : Nat) : Int)) = row.map fun k : Nat => (k : Int) := by
   rw [hu2]
   have := congrArg (List.map fun k : Nat => (k : Int)) (Zc9 0 row)
   rw [List.map_map] at this
   exact this
  rw [hpe3] at hp3
  walk_at "N"
  refine Znj (hD3.at (C.led _ M0)) (hD1.at (C.led (D1, o1) (by first | walk_at "M" | simp))) hp3 hpi RD.ul (wpAny_truthy_bool ?_)
  refine ifN (by simp) ?_
  refine wpAny_execs_nil ?_
  refine wpAny_execs_nil ⟨(), trivial, (C.sub ?_).vsb (by first | walk_at "U" | exact (List.Sublist.refl _))⟩
  exact .cons _ (.cons _ (.cons _ (.cons _ (List.Sublist.refl _))))
 ·rintro ⟨⟩ s - C
  refine wpAny_execs_nil ?_
  refine xcr ?_
  refine wpAny_Constant_bool ?_
  exact h _ C.ext
structure Zj8 (M : Model) (h : Heap) (C : Addr) : Prop where
 obj : ∃ oc od cd sl, h.get? C = some ⟨oc, od, .cls cd, sl⟩ ∧ cd.abstract = false ∧ cd.hasDel = false ∧ cd.mro.isEmpty = false
 made : Looks M h (Bind.madeBy (.ref C)) (some "list.__new__")
 base : Looks M h (Bind.staticBase (.ref C)) (.ref C)
 self : Looks M h (isSubtype (.ref C) (.ref C)) true
 top : Looks M h (isSubtype (.ref C) (.type "list")) true
 call : Looks M h (specialOf (.ref C) "__call__") (some (.builtin "type.__call__"))
 typ : Looks M h (isInstance (.ref C) (.type "type")) true
theorem Zmn {K : Frag} {M : Model} {h : Heap} (X : K.In h) {C : Addr} (e : Zew K C = true) : Zj8 M h C := by
 unfold Zew at e
 split at e
 ·rename_i oc od cd sl ho
  simp only [Bool.and_eq_true, Bool.not_eq_true', beq_iff_eq] at e
  obtain ⟨⟨⟨⟨⟨⟨⟨e1, e2⟩, e3⟩, e4⟩, e5⟩, e6⟩, e7⟩, e8⟩ := e
  have hc : clsIn K C = some cd := by unfold clsIn; rw [ho]
  have hm : Looks M h (mroOf (.ref C)) cd.mro := (looks_clsIn X hc).andThen .now
  refine Zcv (show ∃ c l, cd.mro = c :: l from by cases q : cd.mro with | nil => rw [q] at e4; cases e4 | cons c l => exact ⟨c, l, rfl⟩) fun c l hl => ?_
  have made : Looks M h (Bind.madeBy (.ref C)) (some "list.__new__") := by
   intro A Q E s k q
   unfold Bind.madeBy
   refine wpAny_bind (hm A _ E s k ?_)
   rw [hl, List.forIn_cons]
   refine wpAny_bind (wpAny_bind (wpAny_bind (wpAny_bind (wpAny_loadPart (k _ _ (X _ _ ho)) (wpAny_pure ?_)))))
   dsimp only
   rw [← Array.getElem?_toList, e3]
   exact wpAny_pure (wpAny_pure (wpAny_pure q))
  refine ⟨⟨oc, od, cd, sl, X _ _ ho, e1, e2, e4⟩, made, ?_, looks_mroIn X ?_, looks_mroIn X ?_, looks_specialIn X e7, looks_instIn X e8⟩
  ·intro A Q E s k q
   unfold Bind.staticBase
   refine wpAny_bind (hm A _ E s k ?_)
   rw [hl, List.forIn_cons]
   exact wpAny_bind (wpAny_bind (wpAny_bind (made A _ E s k (wpAny_pure (wpAny_pure (wpAny_pure q))))))
  ·unfold mroIn; rw [hc, Option.bind_some, if_neg (by rw [e4]; decide), e5]
  ·unfold mroIn; rw [hc, Option.bind_some, if_neg (by rw [e4]; decide), e6]
 ·cases e
noncomputable abbrev Zh (C dx : Addr) (us : List Value) (n : Nat) : Obj := { cls := .ref C, dict := some dx, data := .seq us.toArray n }
variable {R : Result → Shared → Prop} {h : Heap} {g : Array GenState} {d : Drawn} {t : Nat} {os : OsState}
theorem Zro {rest : List Value} (Y : Zj8 (model prog w) h C) (hq : R (.ok (.ret (.ref (h.objs.size + 1)))) ⟨(h.push emptyDict).push (Zh C h.objs.size [] 0), g, d, t, os⟩) :
  codeAny (model prog w) A (.call (.builtin "list.__new__") ⟨.ref C :: rest, []⟩) R ⟨h, g, d, t, os⟩ := by
 obtain ⟨⟨oc, od, cd, sl, hC, e1, e2, e4⟩, made, base, self, top, call, typ⟩ := Y
 refine codeAny_call_builtin_code (Code.quiet_builtin _ (by decide +kernel)) ?_
 have hk : builtinKind "list.__new__" = some .builtinFn := by kernel_rfl
 have hs : splitId "list.__new__" = some ("list", "__new__") := by kernel_rfl
 have hsig : Manifest.signature? "list.__new__" = some ⟨.any, "list", "list", .cls, [⟨"args", .varPos, false⟩, ⟨"kwargs", .varKw, false⟩]⟩ := by kernel_rfl
 simp only [checkBuiltinCall, hk, hs, hsig]
 have isT : Looks (model prog w) h (isType (.ref C)) true := (Looks.ld hC).andThen .now
 have args : Bind.checkArgs "list.__new__" ⟨.any, "list", "list", .cls, [⟨"args", .varPos, false⟩, ⟨"kwargs", .varKw, false⟩]⟩ ⟨.ref C :: rest, []⟩ = pure () := by kernel_rfl
 rw [args]
 repeat (first | simp only [bne_self_eq_false, Bool.false_eq_true, if_false] | lk)
 refine codeAny_builtin_stack PySem.F.entry_list_new rfl fun p st => ?_
 simp only [owner_list_new]
 refine wpAny_bind (isT.at ?_)
 rw [if_neg (by decide)]
 refine wpAny_bind (top.at ?_)
 rw [if_neg (by decide)]
 refine wpAny_bind (wpAny_pure ?_)
 rw [if_neg (show ¬ ((!typeHasDict (Value.ref C)) = true) from fun q => by cases q)]
 refine wpAny_bind ?_
 show wpAny _ _ (newObj (.type "dict") (.dict #[])) _ _ _
 refine wpAny_newObj_type ?_ (by size_fits)
 dsimp only
 refine wpAny_bind ?_
 unfold newObj
 show wpAny _ _ (newObjAsIs _ _ _) _ _ _
 unfold newObjAsIs classHasDel
 refine wpAny_bind (wpAny_alloc (wpAny_bind (wpAny_bind (wpAny_load (Heap.get?_push_of_some _ (Heap.get?_push_of_some _ hC)) (wpAny_pure ?_)))))
 rw [e2]
 refine wpAny_pure (wpAny_pure ?_)
 show R _ _
 rw [Heap.size_push]
 exact hq
theorem Zk5 {rest : List Value} {init : Value} (Y : Zj8 (model prog w) h C) (hi : Looks (model prog w) h (typeLookup (.ref C) "__init__") (some init))
  (hb : ∀ self, Looks (model prog w) h (bindSpecial init self) (init, [self]))
  (hq : codeAny (model prog w) (A.under (.builtin "type.__call__" ⟨.ref C :: rest, []⟩)) (.call init ⟨.ref (h.objs.size + 1) :: rest, []⟩) (InitBack (h.objs.size + 1) R) ⟨(h.push emptyDict).push (Zh C h.objs.size [] 0), g, d, t, os⟩) :
  codeAny (model prog w) A (.call (.ref C) ⟨rest, []⟩) R ⟨h, g, d, t, os⟩ := by
 have Y' := Y
 obtain ⟨⟨oc, od, cd, sl, hC, e1, e2, e4⟩, made, base, self, top, call, typ⟩ := Y
 refine codeAny_of_tree ?_
 show wpAny _ _ (callAny (.ref C) _) _ _ _
 refine nd_load hC ?_
 show wpAny _ _ (callAny.viaDunder (.ref C) _) _ _ _
 unfold callAny.viaDunder
 refine wpAny_bind (call.at ?_)
 dsimp only
 rw [tc_bind]
 refine wpAny_bind (wpAny_pure (wpAny_bind (wpAny_pure ?_)))
 refine wpAny_pure (a := Fin.again (.call (.builtin "type.__call__") ⟨.ref C :: rest, []⟩)) (And.intro rfl ?_)
 refine codeAny_call_builtin_at (Code.quiet_builtin _ (by decide +kernel)) entry_typeCall (check_slot tc_kind tc_split typ (tc_args _ _ _) ?_)
 unfold Builtin.«type.__call__»
 have hm : Looks (model prog w) h (mroOf (.ref C)) cd.mro := ((Looks.ld (part := none) hC).andThen .now).andThen .now
 repeat (first | simp only [e4, Bool.false_eq_true, if_false] | with_reducible refine wpAny_call ?_ | lk)
 refine Zro Y' ?_
 have k : ∀ b o, h.get? b = some o → ((h.push emptyDict).push (Zh C h.objs.size [] 0)).get? b = some o := fun b o e => Heap.get?_push_of_some _ (Heap.get?_push_of_some _ e)
 have hx : ((h.push emptyDict).push (Zh C h.objs.size [] 0)).get? (h.objs.size + 1) = some (Zh C h.objs.size [] 0) := by
  have := Heap.get?_push_size (h := h.push emptyDict) (o := Zh C h.objs.size [] 0) rfl
  rwa [Heap.size_push] at this
 have t1 : Looks (model prog w) ((h.push emptyDict).push (Zh C h.objs.size [] 0)) (typeOf (.ref (h.objs.size + 1))) (.ref C) := (Looks.ld hx).andThen .now
 have s1 := self.keeps k
 have i1 := hi.keeps k
 have b1 := (hb (.ref (h.objs.size + 1))).keeps k
 unfold isInstance callSpecial? specialOf
 repeat (first | with_reducible refine wpAny_call ?_ | lk)
 refine codeAny_mono hq fun r s' z => ?_
 rcases r with e | (v | _ | _ | _) <;> first | exact z | exact z.elim | skip
 obtain ⟨rfl, z⟩ := z
 exact wpAny_pure (wpAny_pure z)
theorem Zda {h : Heap} (X : K.In h) (hx : h.get? x = some (Zh C dx us n)) (hm : mroIn K C (.type "list") = some true) : Looks (model prog w) h (isInstance (.ref x) (.type "list")) true :=
 have t1 : Looks (model prog w) h (typeOf (.ref x)) (.ref C) := (Looks.ld hx).andThen .now
 t1.andThen (looks_mroIn X hm)
theorem Zkl {M : Model} {i owner n : String} {self : Value} {rest : List Value} {kw : List (Str × Value)} {Q : Unit → Shared → Prop}
  (hk : builtinKind i = some .method ∨ builtinKind i = some .slot) (hs : splitId i = some (owner, n)) (hi : Looks M s.heap (isInstance self (.type owner)) true) (ha : argsOk i ⟨self :: rest, kw⟩) (q : Q () s) :
  wpAny M A (checkBuiltinCall i ⟨self :: rest, kw⟩) Q E s := by
 rcases hk with hk | hk
 ·simp only [checkBuiltinCall, hk, hs]
  refine wpAny_bind (hi.here ?_)
  simp only [Bool.not_true, Bool.false_eq_true, if_false]
  cases hsig : Manifest.signature? i with
  | none => exact wpAny_pure q
  | some sig =>
   simp only [argsOk, hsig] at ha
   have h2 : Bind.checkArgs i sig ⟨self :: rest, kw⟩ = pure () := ha
   show wpAny M A (Bind.checkArgs i sig ⟨self :: rest, kw⟩) Q E s
   rw [h2]; exact wpAny_pure q
 ·exact check_slot hk hs hi ha q
theorem Zgp (nm : String) {id : String} {b : Builtin} {rest : List Value} {Q : Value → Shared → Prop} (hk : builtinKind id = some .method ∨ builtinKind id = some .slot) (hs : splitId id = some ("list", nm)) (hp : plainId id = true) (hb : entryFor table id = some b)
  (hsub : Looks (model prog w) s.heap (isInstance (.ref x) (.type "list")) true) (ha : argsOk id ⟨.ref x :: rest, []⟩)
  (hc : wpAny (model prog w) A.in1 (b ⟨.ref x :: rest, []⟩) (fun fin s' => ∃ v, fin = .done (.ret v) ∧ Q v s') E s) : wpAny (model prog w) A (call (.builtin id) (.ref x :: rest)) Q E s := by
 refine wpAny_call (codeAny_call_builtin hp hb (Zkl hk hs hsub ha (wpAny_mono hc (fun fin s' h' => ?_) fun _ _ h' => h')))
 obtain ⟨v, rfl, hv⟩ := h'; exact hv
theorem Zp4 {f : Array Value → Array Value} {us' : List Value} (hf : f us.toArray = us'.toArray) : ∃ n', Obj.mapSeq f (Zh C dx us n) = Zh C dx us' n' := ⟨_, by unfold Obj.mapSeq; simp only []; rw [hf]⟩
theorem Zgd {Q : Unit → Shared → Prop} {f : Array Value → Array Value} {us' : List Value} (ho : s.heap.get? x = some (Zh C dx us n)) (hf : f us.toArray = us'.toArray) (h1 : us.length ≤ 1000000) (h2 : us'.length ≤ 1000000)
  (h : ∀ h' n', Heap.SameBut x s.heap h' → h'.get? x = some (Zh C dx us' n') → Q () { s with heap := h' }) : wpAny (model prog w) A (updateSeq x f) Q E s := by
 refine wpAny_updateSeq ho rfl ?_ (by rw [List.size_toArray, sizeLine_eq]; exact kA ‹_› rfl) (by rw [hf, List.size_toArray, sizeLine_eq]; exact kA ‹_› rfl)
 obtain ⟨n', e⟩ := Zp4 (C := C) (dx := dx) (n := n) hf
 refine h _ n' (Heap.SameBut.update ..) ?_
 rw [Heap.get?_update_self _ ho (by rw [e]; rfl), e]
theorem Zla {v : Value} {Q : Value → Shared → Prop} (hsub : Looks (model prog w) s.heap (isInstance (.ref x) (.type "list")) true) (ho : s.heap.get? x = some (Zh C dx us n)) (h1 : us.length ≤ 1000)
  (h : ∀ h' n', Heap.SameBut x s.heap h' → h'.get? x = some (Zh C dx (us ++ [v]) n') → Q .none { s with heap := h' }) : wpAny (model prog w) A (call (.builtin "list.append") [.ref x, v]) Q E s := by
 refine Zgp "append" (.inl (by kernel_rfl)) (by kernel_rfl) PySem.F.slot_list_append.plain PySem.F.entry_list_append hsub (PySem.F.args_list_append_2 _ _) ?_
 show wpAny _ _ (updateSeq x (·.push v) >>= fun _ => ret .none) _ _ s
 refine wpAny_bind (Zgd (us' := us ++ [v]) ho (by simp) (kA ‹_› rfl) (by simp; exact kA ‹_› rfl) fun h' n' hs hg => ?_)
 exact wpAny_pure ⟨.none, rfl, h _ _ hs hg⟩
theorem Zsb {Q : Value → Shared → Prop} (ho : s.heap.get? x = some (Zh C dx us n))
  (h : ∀ t tk, Q (.int (us.length : Nat) t) { s with toks := tk }) : wpAny (model prog w) A (Builtin.«list.__len__» ⟨[.ref x], []⟩) (fun fin s' => ∃ v, fin = .done (.ret v) ∧ Q v s') E s := by
 show wpAny _ _ (seqSize x >>= fun k => retInt k) _ _ s
 unfold seqSize
 refine wpAny_bind (wpAny_bind (wpAny_load ho ?_))
 dsimp only
 refine wpAny_pure ?_
 refine wpAny_bind (wpAny_mkInt (wpAny_pure ⟨_, rfl, ?_⟩))
 rw [List.size_toArray]
 exact h _ _
theorem Zsn {u : Value} {Q : Value → Shared → Prop} (ho : s.heap.get? x = some (Zh C dx (us ++ [u]) n)) (h1 : us.length ≤ 1000)
  (h : ∀ h' n', Heap.SameBut x s.heap h' → h'.get? x = some (Zh C dx us n') → Q u { s with heap := h' }) : wpAny (model prog w) A (Builtin.«list.pop» ⟨[.ref x], []⟩) (fun fin s' => ∃ v, fin = .done (.ret v) ∧ Q v s') E s := by
 unfold Builtin.«list.pop»
 refine wpAny_bind (wpAny_pure ?_)
 dsimp only
 refine wpAny_bind (wpAny_pure ?_)
 rw [if_neg (by decide)]
 unfold Builtin.List.listItems
 refine wpAny_bind (wpAny_bind (wpAny_seqItems ho rfl (wpAny_pure ?_)))
 rw [if_neg (by simp)]
 have e1 : seqIndex? (-1) (us ++ [u]).toArray.size = some us.length := by
  unfold seqIndex?
  simp
  simp +arith
 rw [e1]
 have e2 : (us ++ [u]).toArray[us.length]? = some u := by simp
 simp only [Option.bind_some, e2, Option.map_some]
 refine wpAny_bind (Zgd (us' := us) ho (by simp [Array.eraseIdxIfInBounds, List.eraseIdx_append_of_length_le]) (by simp; exact kA ‹_› rfl) (kA ‹_› rfl) fun h' n' hs hg => ?_)
 exact wpAny_pure ⟨u, rfl, h _ _ hs hg⟩
theorem Zq9 {Q : Value → Shared → Prop} (ho : s.heap.get? x = some (Zh C dx [] n))
  (h : ∀ h' n', Heap.SameBut x s.heap h' → h'.get? x = some (Zh C dx [] n') → Q .none { s with heap := h' }) : wpAny (model prog w) A (Builtin.«list.__init__» ⟨[.ref x], []⟩) (fun fin s' => ∃ v, fin = .done (.ret v) ∧ Q v s') E s := by
 unfold Builtin.«list.__init__»
 dsimp only
 rw [if_neg (by decide), if_neg (by decide)]
 unfold Builtin.List.listItems
 refine wpAny_bind (wpAny_bind (wpAny_seqItems ho rfl (wpAny_pure ?_)))
 refine wpAny_bind (Zgd (us' := []) ho rfl (by simp) (by simp) fun h' n' hs hg => ?_)
 exact wpAny_bind (wpAny_letGo (wpAny_pure ⟨.none, rfl, h _ _ hs hg⟩))
structure KL (K : Frag) (C : Addr) : Prop where
 sub : mroIn K C (.type "list") = some true
 deq : mroIn K C (.type "collections.deque") = some false
 gi : findIn K (.ref C) "__getitem__" = some (some (.builtin "list.__getitem__"))
 si : findIn K (.ref C) "__setitem__" = some (some (.builtin "list.__setitem__"))
theorem Zpb {h : Heap} (hx : h.get? x = some (Zh C dx us n)) : Looks (model prog w) h (typeOf (.ref x)) (.ref C) := (Looks.ld hx).andThen .now
theorem Ziw {h : Heap} (X : K.In h) (hx : h.get? x = some (Zh C dx us n)) {name : Str} {r : Option Value} (e : findIn K (.ref C) name = some r) : Looks (model prog w) h (specialOf (.ref x) name) r := (Zpb hx).andThen (looks_findIn X e)
theorem Zlg {h : Heap} (X : K.In h) (Y : KL K C) (hx : h.get? x = some (Zh C dx us n)) {k : Value} {name : Str} : Looks (model prog w) h (sequenceKey (.ref x) k name) k := by
 intro A Q E s kp q
 unfold sequenceKey seqItemTypes
 refine wpAny_bind ((Zpb hx) A _ E s kp ?_)
 dsimp only
 rw [List.anyM_cons]
 refine wpAny_bind (wpAny_bind ((looks_mroIn X Y.deq) A _ E s kp ?_))
 exact wpAny_pure (wpAny_pure q)
theorem Zrg {i : Value} {Q : Value → Shared → Prop} (X : K.In s.heap) (Y : KL K C) (hx : s.heap.get? x = some (Zh C dx us n)) (h : wpAny (model prog w) A (call (.builtin "list.__getitem__") [.ref x, i]) Q E s) :
  wpAny (model prog w) A (getItem (.ref x) i) Q E s := by
 unfold getItem
 refine wpAny_holding ?_
 refine wpAny_bind ((Zlg X Y hx).at ?_)
 refine wpAny_bind ?_
 unfold callSpecial?
 refine wpAny_bind ((Ziw X hx Y.gi).at ?_)
 dsimp only
 rw [PySem.F.slot_list_getitem.bind]
 refine wpAny_holding (wpAny_bind (wpAny_pure (wpAny_bind (wpAny_mono h (fun v s' h' => wpAny_pure (wpAny_pure h')) fun _ _ q => q))))
theorem Zsc {i v : Value} {Q : Unit → Shared → Prop} (X : K.In s.heap) (Y : KL K C) (hx : s.heap.get? x = some (Zh C dx us n)) (h : wpAny (model prog w) A (call (.builtin "list.__setitem__") [.ref x, i, v]) (fun _ s' => Q () s') E s) :
  wpAny (model prog w) A (setItem (.ref x) i v) Q E s := by
 unfold setItem
 refine wpAny_holding ?_
 refine wpAny_bind ((Zlg X Y hx).at ?_)
 refine wpAny_bind ?_
 unfold callSpecial?
 refine wpAny_bind ((Ziw X hx Y.si).at ?_)
 dsimp only
 rw [PySem.F.slot_list_setitem.bind]
 refine wpAny_holding (wpAny_bind (wpAny_pure (wpAny_bind (wpAny_mono h (fun v s' h' => wpAny_pure (wpAny_pure h')) fun _ _ q => q))))
theorem Zru {k : Int} {t : Tok} {u : Value} {Q : Value → Shared → Prop} (X : K.In s.heap) (Y : KL K C) (hx : s.heap.get? x = some (Zh C dx us n)) (h0 : 0 ≤ k) (h1 : k < 1000000) (hu : us[k.toNat]? = some u) (h : Q u s) :
  wpAny (model prog w) A (getItem (.ref x) (.int k t)) Q E s := by
 refine Zrg X Y hx ?_
 refine Zgp "__getitem__" (.inl (by kernel_rfl)) (by kernel_rfl) PySem.F.slot_list_getitem.plain PySem.F.entry_list_getitem (Zda X hx Y.sub) (PySem.F.args_list_getitem_2 _ _) ?_
 show wpAny _ _ (Builtin.List.listSubscript? (.int k t) >>= _) _ _ s
 refine wpAny_bind (wpAny_listSubscript_int (fitsIndex_of h0 (by lia)) ?_)
 obtain ⟨j, rfl⟩ := Int.eq_ofNat_of_zero_le h0
 have hx' : us.toArray[j]? = some u := by simpa using hu
 show wpAny _ _ ((seqItemAt x j >>= fun r => pure (r.map (j, ·))) >>= _) _ _ s
 refine wpAny_bind (wpAny_bind (wpAny_seqItemAt hx rfl (wpAny_pure ?_)))
 rw [hx']
 exact wpAny_bind (wpAny_pure (wpAny_pure ⟨u, rfl, h⟩))
theorem Zm8 {β : Type} {r : Addr} {vl vu : Value} {lo hi : Option Int} {f : Value × Value × Value → Sem β} {Q : β → Shared → Prop} (hr : s.heap.IsSliceOf r vl vu .none) (pl : IsPart vl lo) (pu : IsPart vu hi) (h : wpAny (model prog w) A (f (rawPart lo, rawPart hi, rawPart none)) Q E s) :
  wpAny (model prog w) A (Builtin.List.listSliceParts (.ref r) >>= f) Q E s := by
 refine Z1 (id hr) fun os hos hcs hds => ?_
 rw [listSliceParts_eq]
 refine wpAny_bind (wpAny_bind (wpAny_field hos hds (x := .none) rfl (wpAny_bind (wpAny_listPart .none ?_))))
 rw [if_neg (show ¬ ((rawPart none == rawInt 0) = true) from Bool.false_ne_true)]
 refine wpAny_bind (wpAny_field hos hds (x := vl) rfl (wpAny_bind (wpAny_listPart pl ?_)))
 exact wpAny_bind (wpAny_field hos hds (x := vu) rfl (wpAny_bind (wpAny_listPart pu (wpAny_pure h))))
theorem Zqv {r : Addr} {vl vu : Value} {lo hi : Option Int} {Q : Value → Shared → Prop} (X : K.In s.heap) (Y : KL K C) (hx : s.heap.get? x = some (Zh C dx us n)) (hr : s.heap.IsSliceOf r vl vu .none) (pl : IsPart vl lo) (pu : IsPart vu hi) (hsz : us.length ≤ 1000000)
  (h : Q (.ref s.heap.objs.size) { s with heap := s.heap.push (Zu (kms_pick us lo hi)) }) : wpAny (model prog w) A (getItem (.ref x) (.ref r)) Q E s := by
 refine Zrg X Y hx ?_
 have hTs : s.TypeIs (.ref r) "slice" := Z1 hr fun os hos hcs _ => ⟨os, hos, hcs⟩
 refine Zgp "__getitem__" (.inl (by kernel_rfl)) (by kernel_rfl) PySem.F.slot_list_getitem.plain PySem.F.entry_list_getitem (Zda X hx Y.sub) (PySem.F.args_list_getitem_2 _ _) ?_
 show wpAny _ _ (Builtin.List.listSubscript? (.ref r) >>= _) _ _ s
 refine wpAny_bind ?_
 unfold Builtin.List.listSubscript?
 refine wpAny_bind (wpAny_specialOf hTs slice_no_index ?_)
 simp only [Option.isNone_none, if_true]
 refine wpAny_pure ?_
 show wpAny _ _ (typeOf (.ref r) >>= _) _ _ s
 refine wpAny_bind (wpAny_typeOf hTs ?_)
 rw [if_neg (by decide)]
 refine Zm8 hr pl pu ?_
 refine wpAny_bind (m := Builtin.List.listItems (.ref x)) ?_
 unfold Builtin.List.listItems
 refine wpAny_bind (wpAny_seqItems hx rfl (wpAny_pure ?_))
 refine wpAny_bind (wpAny_of_eq (sliceIndices_raw lo hi none us.toArray.size (by simp)) ?_)
 refine wpAny_bind (wpAny_newObj_type (wpAny_pure ⟨_, rfl, ?_⟩) (Nat.le_trans (slicePick_size_le us.toArray lo hi none) (by rw [List.size_toArray, sizeLine_eq]; exact kA ‹_› rfl)))
 rw [show ((sliceRange (sliceBounds lo hi none us.toArray.size).1 (sliceBounds lo hi none us.toArray.size).2.1 (sliceBounds lo hi none us.toArray.size).2.2).filterMap (us.toArray[·]?)).toArray = slicePick us.toArray lo hi none from rfl, kms_pick_eq]
 exact h
theorem Zhm {r D : Addr} {ws : List Value} {vl : Value} {lo : Option Int} {k : Nat} {Q : Unit → Shared → Prop} (X : K.In s.heap) (Y : KL K C) (hx : s.heap.get? x = some (Zh C dx us n)) (hr : s.heap.IsSliceOf r vl .none .none) (pl : IsPart vl lo) (hlo : lo = none ∧ k = 0 ∨ lo = some (k : Int)) (hk : k ≤ us.length)
  (hD : s.heap.IsList D ws.toArray) (hne : x ≠ D) (hsz : us.length + ws.length ≤ 1000000)
  (h : ∀ h' n', Heap.SameBut x s.heap h' → h'.get? x = some (Zh C dx (us.take k ++ ws) n') → Q () { s with heap := h' }) : wpAny (model prog w) A (setItem (.ref x) (.ref r) (.ref D)) Q E s := by
 refine Zsc X Y hx ?_
 have hTs : s.TypeIs (.ref r) "slice" := Z1 hr fun os hos hcs _ => ⟨os, hos, hcs⟩
 refine Zgp "__setitem__" (.inr (by kernel_rfl)) (by kernel_rfl) PySem.F.slot_list_setitem.plain PySem.F.entry_list_setitem (Zda X hx Y.sub) (PySem.F.args_list_setitem_3 _ _ _) ?_
 show wpAny _ _ (Builtin.List.listSubscript? (.ref r) >>= _) _ _ s
 refine wpAny_bind ?_
 unfold Builtin.List.listSubscript?
 refine wpAny_bind (wpAny_specialOf hTs slice_no_index ?_)
 simp only [Option.isNone_none, if_true]
 refine wpAny_pure ?_
 show wpAny _ _ (typeOf (.ref r) >>= _) _ _ s
 refine wpAny_bind (wpAny_typeOf hTs ?_)
 rw [if_neg (by decide)]
 refine Zm8 hr pl .none ?_
 refine Zof (id hD) fun oD hoD hcD nD hdD => ?_
 have hsr : Builtin.List.listSameRef (.ref x) (.ref D) = false := by
  show (x == D) = false
  simpa using hne
 rw [hsr]
 simp only [Bool.false_eq_true, if_false]
 refine wpAny_bind ?_
 unfold Builtin.List.listAllItems
 refine wpAny_bind (wpAny_typeOf (T := "list") ⟨oD, hoD, hcD⟩ ?_)
 rw [if_pos (by decide)]
 unfold Builtin.List.listItems
 refine wpAny_bind (wpAny_seqItems hoD hdD (wpAny_pure ?_))
 refine wpAny_bind (wpAny_bind (wpAny_seqItems hx rfl (wpAny_pure ?_)))
 refine wpAny_bind (wpAny_of_eq (sliceIndices_raw lo none none us.toArray.size (by simp)) ?_)
 have e : sliceBounds lo none none us.toArray.size = ((k : Int), (us.length : Int), 1) := by
  unfold sliceBounds
  rcases hlo with ⟨rfl, rfl⟩ | rfl
  ·simp
  ·simp
   rw [if_neg (Int.not_lt.mpr (Int.natCast_nonneg k)), mxk, Nat.min_eq_left ‹k ≤ us.length›]
 rw [e]
 dsimp only
 rw [if_pos (by decide)]
 refine wpAny_bind (wpAny_rule ?_)
 have e2 : Builtin.List.listTooLong (us.toArray.size + ws.toArray.size) = false := by
  unfold Builtin.List.listTooLong
  rw [List.size_toArray, List.size_toArray, sizeLine_eq, decide_eq_false_iff_not]
  lia
 rw [e2]
 simp only [Bool.false_eq_true, if_false]
 have hm : (max (k : Int) (us.length : Int)).toNat = us.length := by rw [Int.max_eq_right (Int.ofNat_le.mpr ‹k ≤ us.length›)]; rfl
 refine wpAny_bind (Zgd (us' := us.take k ++ ws) hx ?_ (nA hsz) (by simp; lia) fun h' n' hs hg => ?_)
 ·rw [hm]
  simp
 ·exact wpAny_bind (wpAny_letGo (wpAny_pure ⟨.none, rfl, h h' n' hs hg⟩))
namespace F
theorem slot_wd_get : Slot "wrapper_descriptor" "__get__" "wrapper_descriptor.__get__" := .of (owner := "wrapper_descriptor") (n := "__get__") (by rw [typeLookup_type, builtinLookup_eq_fast]; kernel_rfl) (by decide +kernel) (by decide +kernel) (by decide +kernel)
 (by first | exact .inl (by decide +kernel) | exact .inr (by decide +kernel)) (by rw [isSubtype_type]; kernel_rfl)
theorem entry_wd_get : entryFor table "wrapper_descriptor.__get__" = some Builtin.«wrapper_descriptor.__get__» := entryFor_of_tree (by kernel_rfl)
theorem args_wd_get (a b c : Value) : argsOk "wrapper_descriptor.__get__" ⟨[a, b, c], []⟩ := by unfold argsOk; kernel_rfl
theorem slot_md_get : Slot "method_descriptor" "__get__" "method_descriptor.__get__" := .of (owner := "method_descriptor") (n := "__get__") (by rw [typeLookup_type, builtinLookup_eq_fast]; kernel_rfl) (by decide +kernel) (by decide +kernel) (by decide +kernel)
 (by first | exact .inl (by decide +kernel) | exact .inr (by decide +kernel)) (by rw [isSubtype_type]; kernel_rfl)
theorem entry_md_get : entryFor table "method_descriptor.__get__" = some Builtin.«method_descriptor.__get__» := entryFor_of_tree (by kernel_rfl)
theorem args_md_get (a b c : Value) : argsOk "method_descriptor.__get__" ⟨[a, b, c], []⟩ := by unfold argsOk; kernel_rfl
theorem type_li : typeOf (.builtin "list.__init__") = pure (.type "wrapper_descriptor") := by show builtinType _ = _; rw [builtinType_eq_fast]; kernel_rfl
theorem type_ll : typeOf (.builtin "list.__len__") = pure (.type "wrapper_descriptor") := by show builtinType _ = _; rw [builtinType_eq_fast]; kernel_rfl
end F
noncomputable abbrev Zdc (ty id : String) (x : Addr) : Obj := { cls := .type ty, dict := none, data := .fields #[.builtin id, .ref x], slots := #[] }
theorem Zqq {Q : Value → Shared → Prop} (hsub : Looks (model prog w) h (isInstance (.ref x) (.type "list")) true) (hq : Q (.ref h.objs.size) ⟨h.push (Zdc "method-wrapper" "list.__len__" x), g, d, t, os⟩) :
  wpAny (model prog w) A (call (.builtin "wrapper_descriptor.__get__") [.builtin "list.__len__", .ref x, .ref C]) Q E ⟨h, g, d, t, os⟩ := by
 refine wpAny_call_entry F.slot_wd_get F.type_ll F.entry_wd_get ?_ (F.args_wd_get _ _ _)
 unfold Builtin.«wrapper_descriptor.__get__»
 refine wpAny_bind (wpAny_pure (wpAny_bind (wpAny_bind ?_)))
 refine wpAny_of_eq (a := (ofString "__len__", Value.type "list")) (by kernel_rfl) ?_
 refine wpAny_bind (hsub.at ?_)
 refine wpAny_pure ?_
 unfold newFields
 refine wpAny_bind (wpAny_newObj_type ?_ (by size_fits))
 exact wpAny_pure ⟨_, rfl, hq⟩
theorem Zpy {Q : Value → Shared → Prop} (hsub : Looks (model prog w) h (isInstance (.ref x) (.type "list")) true) (hq : Q (.ref h.objs.size) ⟨h.push (Zdc "method-wrapper" "list.__init__" x), g, d, t, os⟩) :
  wpAny (model prog w) A (call (.builtin "wrapper_descriptor.__get__") [.builtin "list.__init__", .ref x, .ref C]) Q E ⟨h, g, d, t, os⟩ := by
 refine wpAny_call_entry F.slot_wd_get F.type_li F.entry_wd_get ?_ (F.args_wd_get _ _ _)
 unfold Builtin.«wrapper_descriptor.__get__»
 refine wpAny_bind (wpAny_pure (wpAny_bind (wpAny_bind ?_)))
 refine wpAny_of_eq (a := (ofString "__init__", Value.type "list")) (by kernel_rfl) ?_
 refine wpAny_bind (hsub.at ?_)
 refine wpAny_pure ?_
 unfold newFields
 refine wpAny_bind (wpAny_newObj_type ?_ (by size_fits))
 exact wpAny_pure ⟨_, rfl, hq⟩
theorem Zq4 {Q : Value → Shared → Prop} (hsub : Looks (model prog w) h (isInstance (.ref x) (.type "list")) true) (hq : Q (.ref h.objs.size) ⟨h.push (Zdc "builtin_function_or_method" "list.pop" x), g, d, t, os⟩) :
  wpAny (model prog w) A (call (.builtin "method_descriptor.__get__") [.builtin "list.pop", .ref x, .ref C]) Q E ⟨h, g, d, t, os⟩ := by
 refine wpAny_call_entry F.slot_md_get PySem.F.type_list_pop F.entry_md_get ?_ (F.args_md_get _ _ _)
 unfold Builtin.«method_descriptor.__get__»
 refine wpAny_bind (wpAny_pure ?_)
 simp only [show (Value.ref x == Value.none) = false from rfl, show (Value.ref C == Value.none) = false from rfl, Bool.false_eq_true, if_false]
 rw [if_neg (show ¬ (Manifest.toldItsClass.contains "list.pop" = true) by decide +kernel)]
 refine wpAny_bind (wpAny_bind ?_)
 refine wpAny_of_eq (a := (ofString "pop", Value.type "list")) (by kernel_rfl) ?_
 refine wpAny_bind (hsub.at ?_)
 refine wpAny_pure ?_
 unfold newFields
 refine wpAny_bind (wpAny_newObj_type ?_ (by size_fits))
 exact wpAny_pure ⟨_, rfl, hq⟩
theorem Zmm {so D : Addr} {l₀ l : List Value} {name : Str} {tk : Tok} {id gid td : String} {Q : Fin → Shared → Prop}
  (hso : h.get? so = some { cls := .type "super", dict := none, data := .fields #[.ref D, .ref x, .ref C], slots := #[] }) (hno : Looks (model prog w) h (opaqueClassAbove (.ref C)) none)
  (hC : Looks (model prog w) h (mroOf (.ref C)) l₀) (hl : (l₀.dropWhile (· != .ref D)).drop 1 = l) (X : K.In h)
  (hf : alongIn K name l = some (some (.builtin id))) (htd : typeOf (.builtin id) = pure (.type td)) (hlk : typeLookup (.type td) "__get__" = pure (some (.builtin gid))) (hxC : x ≠ C) (hn : (name == ("__class__" : Str)) = false)
  (hq : wpAny (model prog w) A (call (.builtin gid) [.builtin id, .ref x, .ref C]) (fun v s' => Q (.done (.ret v)) s') E ⟨h, g, d, t, os⟩) :
  wpAny (model prog w) A (Builtin.«super.__getattribute__» ⟨[.ref so, .str name tk], []⟩) Q E ⟨h, g, d, t, os⟩ := by
 have hne : (Value.ref x == Value.ref C) = false := by simp [hxC]
 have hTf : (⟨h, g, d, t, os⟩ : Shared).TypeIs (.builtin id) td := htd
 have hdt : ({ cls := .type "super", dict := none, data := .fields #[.ref D, .ref x, .ref C], slots := #[] } : Obj).data = .fields #[.ref D, .ref x, .ref C] := rfl
 have f0 : (#[.ref D, .ref x, .ref C] : Array Value)[0]? = some (.ref D) := rfl
 have f1 : (#[.ref D, .ref x, .ref C] : Array Value)[1]? = some (.ref x) := rfl
 have f2 : (#[.ref D, .ref x, .ref C] : Array Value)[2]? = some (.ref C) := rfl
 have hq' : wpAny (model prog w) A (do let v ← call (.builtin gid) [.builtin id, .ref x, .ref C]; ret v) Q E ⟨h, g, d, t, os⟩ := wpAny_bind (wpAny_mono hq (fun _ _ z => wpAny_pure z) fun _ _ z => z)
 unfold Builtin.«super.__getattribute__»
 repeat (first
  | (with_reducible refine wpAny_field hso hdt f0 ?_) | (with_reducible refine wpAny_field hso hdt f1 ?_) | (with_reducible refine wpAny_field hso hdt f2 ?_)
  | (with_reducible refine ks_wpAny_notOpaque hno ?_)
  | (with_reducible refine Looks.at hC ?_; rw [hl])
  | (refine ks_forIn_along X (fun _ _ => rfl) rfl ?_ hf)
  | (with_reducible refine wpAny_typeOf hTf ?_)
  | (with_reducible refine wpAny_of_eq hlk ?_)
  | (with_reducible refine wpAny_mono hq (fun v s' z => ?_) (fun _ _ z => z))
  | (simp only [hn, hne, Bool.or_false, Bool.false_eq_true, if_false])
  | wp_step
  | dsimp only)
 all_goals exact z
theorem Zmf {so D : Addr} {l₀ l : List Value} {name : Str} {id gid td : String} {pl : Sem Bool} {bo : Obj} {Q : Value × List Value → Shared → Prop}
  (hso : h.get? so = some { cls := .type "super", dict := none, data := .fields #[.ref D, .ref x, .ref C], slots := #[] }) (hno : Looks (model prog w) h (opaqueClassAbove (.ref C)) none)
  (hC : Looks (model prog w) h (mroOf (.ref C)) l₀) (hl : (l₀.dropWhile (· != .ref D)).drop 1 = l) (X : K.In h)
  (hf : alongIn K name l = some (some (.builtin id))) (htd : typeOf (.builtin id) = pure (.type td)) (hlk : typeLookup (.type td) "__get__" = pure (some (.builtin gid))) (hxC : x ≠ C) (hn : (name == ("__class__" : Str)) = false)
  (hget : ∀ {A' : Around} {E' : Value → Shared → Prop} {Q' : Value → Shared → Prop}, Q' (.ref h.objs.size) ⟨h.push bo, g, d, t + 1, os⟩ → wpAny (model prog w) A' (call (.builtin gid) [.builtin id, .ref x, .ref C]) Q' E' ⟨h, g, d, t + 1, os⟩)
  (hq : Q (.ref h.objs.size, []) ⟨h.push bo, g, d, t + 1, os⟩) :
  wpAny (model prog w) A (getMethod (.ref so) name pl) Q E ⟨h, g, d, t, os⟩ := by
 have hlk' := PySem.F.ks_slot_super_ga.lookup
 have hcan := PySem.F.ks_canon_super_ga
 have hT : ∀ t', (⟨h, g, d, t', os⟩ : Shared).TypeIs (.ref so) "super" := fun _ => ⟨_, hso, rfl⟩
 unfold getMethod
 refine wpAny_bind (wpAny_specialOf (hT _) hlk' ?_)
 show wpAny _ _ (if (Manifest.canonical "super.__getattribute__" != "object.__getattribute__") = true then _ else _) _ _ _
 rw [if_pos hcan]
 unfold getAttr getAttrBy
 refine wpAny_bind (wpAny_bind (wpAny_mkText (wpAny_holding (wpAny_bind (wpAny_typeOf (hT _) (wpAny_bind (wpAny_of_eq hlk' ?_)))))))
 show wpAny _ _ (getAttrByItsOwn (.ref so) (.str name t) (.type "super") (.builtin "super.__getattribute__") true false) _ _ _
 unfold getAttrByItsOwn hookBefore callGetattribute boundAndCalled
 refine wpAny_bind (wpAny_of_eq (show (if onTheHeap (.type "super") then typeLookup (.type "super") "__getattr__" else pure none) = pure none from rfl) ?_)
 refine wpAny_bind (wpAny_attempt (wpAny_holding ?_))
 show wpAny _ _ (bindSpecial (.builtin "super.__getattribute__") (.ref so) >>= _) _ _ _
 refine wpAny_bind (wpAny_of_eq (PySem.F.ks_slot_super_ga.bind _) ?_)
 refine wpAny_mono (Q := fun v s' => v = .ref h.objs.size ∧ s' = ⟨h.push bo, g, d, t + 1, os⟩) (E := fun _ _ => False)
  (wpAny_call_entry PySem.F.ks_slot_super_ga (hT _) PySem.F.ks_entry_super_ga (Zmm hso hno hC hl X hf htd hlk hxC hn (hget ⟨_, rfl, rfl, rfl⟩)) (PySem.F.ks_gaArgs_super _ _)) (fun v s' hv => ?_) fun _ _ z => z.elim
 obtain ⟨rfl, rfl⟩ := hv
 exact wpAny_pure (wpAny_pure hq)
theorem Zj3 {b : Addr} {ty id : String} {B : Builtin} {Q : Value → Shared → Prop} (hb : s.heap.get? b = some (Zdc ty id x)) (hty : ty = "method-wrapper" ∨ ty = "builtin_function_or_method") (hck : ∀ {A' : Around} {E' : Value → Shared → Prop} {Q' : Unit → Shared → Prop}, Q' () s → wpAny (model prog w) A' (checkBoundCall id ⟨[.ref x], []⟩) Q' E' s)
  (hp : plainId id = true) (he : entryFor table id = some B) (hc : wpAny (model prog w) A.in1 (B ⟨[.ref x], []⟩) (fun fin s' => ∃ v, fin = .done (.ret v) ∧ Q v s') E s) : wpAny (model prog w) A (call (.ref b) []) Q E s := by
 refine wpAny_call (codeAny_of_tree ?_)
 show wpAny _ A.in1 (callAny (.ref b) _) _ _ _
 unfold callAny
 refine wpAny_bind (wpAny_load hb ?_)
 dsimp only
 have e1 : (Value.type ty == Value.type "method" || Value.type ty == Value.type "builtin_function_or_method" || Value.type ty == Value.type "method-wrapper") = true := by rcases hty with rfl | rfl <;> decide
 have e2 : (Value.type ty != Value.type "method") = true := by rcases hty with rfl | rfl <;> decide
 rw [if_pos e1]
 show wpAny _ _ (if (Value.type ty != Value.type "method") = true then _ else _) _ _ _
 rw [if_pos e2]
 refine wpAny_bind (hck ?_)
 refine wpAny_pure ⟨plainId_quiet hp _, codeAny_builtin he ?_⟩
 rw [Around.under_plainId hp _]
 refine wpAny_mono hc (fun fin s' h' => ?_) fun _ _ z => z
 obtain ⟨v, rfl, hv⟩ := h'; exact hv
theorem Zny {a : Value} : checkBoundCall "list.__init__" ⟨[a], []⟩ = pure () := by kernel_rfl
theorem Zpn {a : Value} : checkBoundCall "list.__len__" ⟨[a], []⟩ = pure () := by kernel_rfl
noncomputable def Zho (prog : Program) (K : Frag) (c : Addr) : Prop := ∃ oc od vs os file tf, K.lookup c = some ⟨oc, od, .fields vs, os⟩ ∧ vs[2]? = some (.str file tf) ∧ ((prog.main.file : Str) == file) = true ∧ (prog.main.scope.names.lookup ("super" : Str)).isSome = false
structure KA (prog : Program) (K : Frag) (cd : ClassData) : Prop where
 ci : ClsS K 248 cd
 ga : findIn K (.ref 248) "__getattribute__" = some (some (.builtin "list.__getattribute__"))
 kl : KL K 248
 mks : Zew K 248 = true
 ini : findIn K (.ref 248) "__init__" = some (some (.ref 185))
 cell : ∃ a b c, K.lookup 172 = some ⟨a, b, .cell (some (.ref 248)), c⟩
 self : mroIn K 248 (.ref 248) = some true
 nom : mroIn K 248 (.type "module") = some false
 qn : cd.qualname.toString = "_Accumulator"
 typ : typeIn K (.ref 248) = some (.type "type")
 op : nsIn K cStatics "thirdparty.any" = some none
 s1 : ks_superIn K 248 248 "__init__" = some (some (.builtin "list.__init__"))
 s2 : ks_superIn K 248 248 "__len__" = some (some (.builtin "list.__len__"))
 s3 : ks_superIn K 248 248 "pop" = some (some (.builtin "list.pop"))
theorem Zpj (T : KA prog K cd) (X' : K.In s.heap) (hx : s.heap.get? x = some (Zh 248 dx us n)) {Q : Unit → Shared → Prop} (hq : Q () s) : wpAny (model prog w) A (checkBoundCall "list.pop" ⟨[.ref x], []⟩) Q E s := by
 have hk : builtinKind "list.pop" = some .method := by kernel_rfl
 have hsig : Manifest.signature? "list.pop" = some ⟨.positional, "list.pop", "pop", .self, [⟨"index", .posOnly, false⟩]⟩ := by kernel_rfl
 have nm : Looks (model prog w) s.heap (isInstance (.ref x) (.type "module")) false := (Zpb hx).andThen (looks_mroIn X' T.nom)
 have isT : Looks (model prog w) s.heap (isType (.ref x)) false := (Looks.ld hx).andThen .now
 have cdt : Looks (model prog w) s.heap (classData 248) cd := (looks_clsIn X' T.ci.cls)
 have a1 : Bind.checkArgs "list.pop" ⟨.positional, "_Accumulator.pop", "pop", .self, [⟨"index", .posOnly, false⟩]⟩ ⟨[.ref x], []⟩ = pure () := by kernel_rfl
 have hv : Manifest.varargsMethods.contains "list.pop" = false := by kernel_rfl
 unfold checkBoundCall
 simp only [hsig, hk]
 rw [if_neg (by decide)]
 refine wpAny_bind (nm.at ?_)
 rw [hv, if_neg (by decide)]
 refine wpAny_bind (isT.at ?_)
 rw [if_neg (by decide)]
 refine wpAny_bind ((Zpb hx).at ?_)
 dsimp only
 refine wpAny_bind (cdt.at ?_)
 rw [T.qn]
 refine wpAny_bind ((looks_typeIn X' T.typ).at ?_)
 rw [if_pos (by decide)]
 have e : (toString "_Accumulator" ++ toString "." ++ toString (Bind.lastOf "list.pop")) = "_Accumulator.pop" := by kernel_rfl
 rw [e, a1]
 exact wpAny_pure hq
theorem Zkp (W : Wd K s.heap) {n : Nat} (R : Zk A n) {f c : Addr} {name qual : Str} {st : Stmt} {dV : Value} (hf : FnK K f name qual st [(ofString "__class__", 172)] dV c) (T : KA prog K cd) {args : List Value} (vs : List (String × Value)) {RR : Result → Shared → Prop}
  (hbind : ∀ kV doc pm an ct, BindsTo s (fnX name qual (Zaj st) (Zl st) (Zb st) [(ofString "__class__", 172)] dV kV doc pm an (.ref c) ct) ⟨args, []⟩ (Zaf vs))
  (h : ∀ env s₁, Za2 env (Zb st) qual f (.ref c) → Zbw env s → (∀ x, env.kindOf x = some .cell → ∃ c, env.cells.lookup x = some c) → Loc env s [] (vs ++ [("__class__", .ref 248)]) [] s₁ →
   _root_.PySem.wpAt (model prog w) (A.deeper env) (.func (Zl st) env) (execs (Zl st) env) (fun fl s' => RR (.ok (.ret (Zjd fl))) s') (fun _ _ => False) s₁)
  (hnd : autoParam (Zdo (vs.map (·.1)) = true) aK)
  (hkind : autoParam (((Zaf vs).all fun y => (Zb st).names.lookup y.1 == some .local) = true) aK)
  (hcell : autoParam (((Zb st).names.all fun x => x.2 != .cell) = true) aK)
  (hfree : autoParam (((Zb st).names.lookup (ofString "__class__") == some .free) = true) aK)
  (hco : autoParam ((Zb st).isCoroutine = false) aK) (hgen : autoParam ((Zb st).isGenerator = false) aK) (hk : autoParam ((Zb st).kind = .function) aK) :
  codeAny (model prog w) A (.call (.ref f) ⟨args, []⟩) RR s := by
 refine Zbv hf fun oc od osl kV doc pm an ct e1 e2 => ?_
 refine Zrd T.cell fun c1 c2 c3 hc172 => ?_
 have hcell' : ∀ x ∈ (Zb st).names, x.2 ≠ .cell := fun x hx => by simpa using List.all_eq_true.mp hcell x hx
 have hC : s.heap.IsCell 172 (some (.ref 248)) := ⟨_, W.k _ _ hc172, rfl⟩
 refine ks_codeAny_call_defAt (fd := fnX name qual (Zaj st) (Zl st) (Zb st) [(ofString "__class__", 172)] dV kV doc pm an (.ref c) ct) (body := Zl st) (binds := Zaf vs) R.lt (W.k _ _ e1) rfl W.lim (codeRec_of W.k e2) rfl (hbind kV doc pm an ct) hcell'
  (fun x hx => by simpa using List.all_eq_true.mp hkind x hx) (fun h₁ hns hk₁ => ?_) hco hgen hk
 have nocell : ∀ x, (Zb st).names.lookup x = some .cell → False := fun x e => hcell' _ (mem_of_lookup e) rfl
 have rev : ∀ p ∈ Zaf vs, (Zaf vs).reverse.lookup p.1 = some p.2 := fun p hp => by
  have nd := Zcg (Zc0 hnd)
  have : ∀ (l : List (Str × Value)), (l.map (·.1)).Nodup → ∀ p ∈ l, l.lookup p.1 = some p.2 := by
   intro l
   induction l with
   | nil => intro _ p hp; cases hp
   | cons q r ih =>
    intro nd p hp
    rw [List.map_cons, List.nodup_cons] at nd
    rw [List.lookup_cons]
    rcases List.mem_cons.mp hp with rfl | hp
    ·simp
    ·have : (p.1 == q.1) = false := by
      rw [beq_eq_false_iff_ne]
      intro e
      exact nd.1 (e ▸ List.mem_map_of_mem hp)
     rw [this]; exact ih nd.2 p hp
  refine this _ ?_ p (List.mem_reverse.mpr hp)
  rw [List.map_reverse]; exact (List.pairwise_reverse.mpr (nd.imp fun h => h.symm))
 have one : ∀ x c, ([(ofString "__class__", 172)] : List (Str × Addr)).lookup x = some c → x = ofString "__class__" ∧ c = 172 := fun x c e => by
  rw [List.lookup_cons] at e
  split at e
  ·rename_i q
   exact ⟨by simpa using q, (Option.some.inj e).symm⟩
  ·cases e
 have L : Loc (callEnv (fnX name qual (Zaj st) (Zl st) (Zb st) [(ofString "__class__", 172)] dV kV doc pm an (.ref c) ct) s.heap.objs.size f) s [] vs [] { s with heap := h₁, toks := s.toks + (Zaf vs).length } := by
  refine ⟨Ext.keeps hk₁ (fun t => Nat.le_trans t (Nat.le_of_lt hns.lt)), ⟨⟨_, hns⟩, fun y c e => ?_, fun x y c e1 e2 => (one _ _ e1).1.trans (one _ _ e2).1.symm, W.big, fun b hb ht => ?_, hk, rfl, rfl⟩, fun p hp => ?_, fun _ h => (nomatch h), fun _ h => (nomatch h), fun _ h => (nomatch h), List.nodup_nil, fun _ h => (nomatch h)⟩
  ·obtain ⟨_, rfl⟩ := one _ _ e
   exact ⟨Nat.ne_of_lt hC.lt, _, hC.keeps hk₁⟩
  ·rcases hb with rfl | ⟨y, e⟩
   ·exact absurd W.big (Nat.not_le.mpr (Zz _ ht))
   ·obtain ⟨_, rfl⟩ := one _ _ e
    revert ht; decide
  ·have q : (Zb st).names.lookup (ofString p.1) = some .local := by simpa using List.all_eq_true.mp hkind _ (Zcb hp)
   exact .inl ⟨q, _, hns, rev _ (Zcb hp)⟩
 have L := L.know (kn := [("__class__", .ref 248)]) fun p hp => by
  obtain rfl := List.mem_singleton.mp hp
  have hfree' : (Zb st).names.lookup (ofString "__class__") = some .free := by simpa using hfree
  exact .inr ⟨172, .inr hfree', by show List.lookup _ [(ofString "__class__", 172)] = _; simp, hC.keeps hk₁⟩
 have hfin := h (callEnv (fnX name qual (Zaj st) (Zl st) (Zb st) [(ofString "__class__", 172)] dV kV doc pm an (.ref c) ct) s.heap.objs.size f) _ ⟨rfl, rfl, rfl, rfl, rfl, rfl, rfl⟩ ⟨Heap.get?_none_of_le (Nat.le_refl _), W.big, fun y c (q : (Zb st).names.lookup y = some .cell) _ => (nocell y q).elim⟩
  (fun x e => absurd e fun q => nocell x q) L
 exact ks_wpAt_mono hfin (fun fl _ z => by cases fl <;> exact z) (fun _ _ z => z.elim)
theorem Loc.lname (C : Loc env s₀ X vs l s) {x : String} {v : Value} {Q : Value → Shared → Prop} (hm : (x, v) ∈ vs) (h : Q v s) (hn : (ofString x == ("__classdict__" : Str)) = false := by decide) : wpAny (model prog w) A (loadName env (ofString x)) Q E s := by
 rcases C.bd _ hm with ⟨a, ρ, b, c⟩ | ⟨c, a, b, d⟩
 ·exact wpAny_loadName_local C.fr.kind a b c h
 ·rcases a with a | a
  ·exact wpAny_loadName_cell C.fr.kind a b d h
  ·exact wpAny_loadName_free C.fr.kind a b d h hn
theorem Loc.superB (C : Loc env s₀ X vs l s) (W : Wd K s₀.heap) (G : KG K) (T : KA prog K cd) {body : List Stmt} {p0 p1 : Pos} {attr : Str} {whole : Sem Value} {f c : Addr} {name qual : Str} {st : Stmt} {dV : Value} {Q : Value → Shared → Prop} (hE : Za2 env (Zb st) qual f (.ref c))
  (hf : FnK K f name qual st [(ofString "__class__", 172)] dV c) (hP : Zho prog K c) (hx : s.heap.get? x = some (Zh 248 dx us n)) (hs : ("self", .ref x) ∈ vs) (hc : ("__class__", .ref 248) ∈ vs)
  (hp : (((Zaj st).posonlyargs ++ (Zaj st).args).head?.map (·.arg)) = some (ofString "self")) (hat : (attr == ("__class__" : Str)) = false)
  (hks : (Zb st).names.lookup (ofString "super") = some .globalImplicit) (hkc : (Zb st).names.lookup (ofString "__class__") = some .free)
  (h : ∀ so s', Loc env s₀ X vs ((so, ks_superObj 248 x 248) :: l) s' → Q (.ref so) s') :
  _root_.PySem.wpAt (model prog w) A (.func body env) (attributeBase (.Call (.Name "super" p0) [] [] p1) attr env whole) Q E s := by
 refine Zbv hf fun oc od osl kV doc pm an ct e1 e2 => ?_
 refine Zjs hP fun oc' od' vs' os' file tf p1' p2' p3' p4' => ?_
 refine Zo (Option.map_eq_some_iff.mp hp) fun ar ha1 ha2 => ?_
 have X' := (W.ext C.ext).k
 have k1 : env.kindOf (ofString "super") = some .globalImplicit := by unfold Env.kindOf; rw [hE.scope]; exact hks
 have k2 : env.kindOf (ofString "__class__") = some .free := by unfold Env.kindOf; rw [hE.scope]; exact hkc
 refine ks_wpAt_super_base k1 k2 hat hE.func (X' _ _ e1) rfl ha1 hE.code (X' _ _ p1') rfl p2' p3' p4' ?_
 refine Z1 ((W.ext C.ext).g) fun mg g1 _ g3 => ?_
 refine Zo ((W.ext C.ext).b) fun mb b1 b2 => ?_
 refine ks_loadName_global C.fr.kind k1 (loadGlobal_builtin (C.fr.gl.symm ▸ g1) (g3 _ (G.bn ("super", .type "super") (by walk_at "M"))) (C.fr.bu.symm ▸ b1) ((b2 _ (by decide)).trans (Zc6 ("super", .type "super") (by simp [Zhq])).1) ⟨rfl, ?_⟩)
 refine C.lname (x := "__class__") hc ?_
 rw [ha2]
 refine C.lname (x := "self") hs ?_
 have hcl := T.ci.cls
 obtain ⟨oD, hD1, hD2⟩ : ∃ oD, s.heap.get? 248 = some oD ∧ oD.data = .cls cd := by
  unfold clsIn at hcl
  split at hcl
  ·rename_i ho
   cases hcl
   exact ⟨_, X' _ _ ho, rfl⟩
  ·cases hcl
 obtain ⟨hh, g, d, t, os⟩ := s
 refine ks_wpAny_isType_cls hD1 hD2 ⟨rfl, ?_⟩
 refine ks_wpAny_call_super hD1 hD2 hx rfl (fun c e => by cases e) (looks_mroIn X' T.self) (fun h' e k => ?_)
 have x1 : Ext [] [] (⟨hh, g, d, t, os⟩ : Shared) ⟨h', g, d, t, os⟩ := C.extK (tk := t) k
 exact h _ _ (C.add x1 Zc C.big e)
theorem Loc.takeM (C : Loc env s X vs l s₀) (O : Zbw env s) {D : Addr} {o : Obj} (e : s.heap.get? D = some o) (e' : s₀.heap.get? D = some o) (h3 : 316 ≤ D) (hl : D ∉ l.map (·.1)) (hd : ∀ v, o.data ≠ .cell v) (hf : ∀ fd, o.data ≠ .func fd) : Loc env s (D :: X) vs ((D, o) :: l) s₀ := by
 refine ⟨C.ext.mono (fun _ h => .tail _ h) (fun _ h => h), C.fr, C.bd, fun p hp => ?_, fun p hp => ?_, fun p hp => ?_, ?_, fun p hp fd q => ?_⟩
 ·rcases List.mem_cons.mp hp with rfl | hp
  ·exact e'
  ·exact C.led p hp
 ·rcases List.mem_cons.mp hp with rfl | hp
  ·exact ⟨.inl M0, h3⟩
  ·exact ⟨(C.own p hp).1.imp (fun h => .tail _ h) id, (C.own p hp).2⟩
 ·rcases List.mem_cons.mp hp with rfl | hp
  ·refine ⟨fun q => ?_, fun x q => ?_⟩
   ·have := O.1
    rw [← q, e] at this; cases this
   ·refine Zcs (C.fr.cel _ _ q) fun _ v o' q1 q2 => ?_
    rw [e'] at q1; cases q1
    exact hd _ q2
  ·exact C.off p hp
 ·rw [List.map_cons, List.nodup_cons]; exact ⟨hl, C.nd⟩
 ·rcases List.mem_cons.mp hp with rfl | hp
  ·exact absurd q (hf fd)
  ·exact C.fc p hp fd q
theorem Loc.superCall (C : Loc env s₀ X vs l s) (W : Wd K s₀.heap) (G : KG K) (T : KA prog K cd) {body : List Stmt} {p0 p1 pos : Pos} {name : Str} {whole : Sem Value} {pl : Sem Bool} {f c : Addr} {fname qual : Str} {st : Stmt} {dV : Value} {Q : Value → Shared → Prop} (hE : Za2 env (Zb st) qual f (.ref c))
  (hf : FnK K f fname qual st [(ofString "__class__", 172)] dV c) (hP : Zho prog K c) (hx : (x, Zh 248 dx us n) ∈ l) (hs : ("self", .ref x) ∈ vs) (hc : ("__class__", .ref 248) ∈ vs)
  (hp : (((Zaj st).posonlyargs ++ (Zaj st).args).head?.map (·.arg)) = some (ofString "self")) (hat : (name == ("__class__" : Str)) = false)
  (hks : (Zb st).names.lookup (ofString "super") = some .globalImplicit) (hkc : (Zb st).names.lookup (ofString "__class__") = some .free)
  {id gid td ty : String} {B : Builtin} (hsup : ks_superIn K 248 248 name = some (some (.builtin id))) (htd : typeOf (.builtin id) = Pure.pure (.type td)) (hlk : typeLookup (.type td) "__get__" = Pure.pure (some (.builtin gid)))
  (hget : ∀ {h : Heap} {g : Array GenState} {d : Drawn} {t : Nat} {os : OsState} {A' : Around} {E' : Value → Shared → Prop} {Q' : Value → Shared → Prop}, Looks (model prog w) h (isInstance (.ref x) (.type "list")) true → Q' (.ref h.objs.size) ⟨h.push (Zdc ty id x), g, d, t, os⟩ →
   wpAny (model prog w) A' (call (.builtin gid) [.builtin id, .ref x, .ref 248]) Q' E' ⟨h, g, d, t, os⟩)
  (hty : ty = "method-wrapper" ∨ ty = "builtin_function_or_method")
  (hck : ∀ {s' : Shared} {A' : Around} {E' : Value → Shared → Prop} {Q' : Unit → Shared → Prop}, K.In s'.heap → s'.heap.get? x = some (Zh 248 dx us n) → Q' () s' → wpAny (model prog w) A' (checkBoundCall id ⟨[.ref x], []⟩) Q' E' s')
  (hpl : plainId id = true) (he : entryFor table id = some B)
  (h : ∀ b so s', Loc env s₀ X vs ((b, Zdc ty id x) :: (so, ks_superObj 248 x 248) :: l) s' → wpAny (model prog w) A.in1 (B ⟨[.ref x], []⟩) (fun fin s' => ∃ v, fin = .done (.ret v) ∧ Q v s') E s') :
  _root_.PySem.wpAt (model prog w) A (.func body env) (attributeBase (.Call (.Name "super" p0) [] [] p1) name env whole) (fun ov s₁ => wpAny (model prog w) A (getMethod ov name pl) (fun fx s₂ => wpAny (model prog w) A (callWith pos fx.1 fx.2 (backTo pos (starEach [] env)) []) Q E s₂) E s₁) E s := by
 refine C.superB W G T hE hf hP (C.led _ hx) hs hc hp hat hks hkc ?_; clear C; intro so s C
 have X' := (W.ext C.ext).k
 have hxs := C.led _ (.tail _ hx)
 have hcl := T.ci.cls
 have hne : x ≠ 248 := fun q => absurd (C.own _ (.tail _ hx)).2 (by rw [show (x, Zh 248 dx us n).1 = x from rfl, q]; decide)
 have hsup' : alongIn K name ((cd.mro.dropWhile (· != Value.ref 248)).drop 1) = some (some (.builtin id)) := by
  unfold ks_superIn at hsup
  rw [hcl] at hsup; exact hsup
 obtain ⟨hh, g, d, t, os⟩ := s
 refine Zmf (bo := Zdc ty id x) (C.led _ M0) (looks_opaque X' T.op) (l₀ := cd.mro) ?_ rfl X' hsup' htd hlk hne hat (fun {A' E' Q'} q => hget (Zda X' hxs T.kl.sub) q) ?_
 ·exact fun A Q E s k q => wpAny_bind ((looks_clsIn X' hcl) A _ E s k (wpAny_pure q))
 ·have e1 : Ext [] [] (⟨hh, g, d, t, os⟩ : Shared) ⟨hh.push (Zdc ty id x), g, d, t + 1, os⟩ := C.extK (tk := t + 1) Zd
  replace C := C.add e1 Zc C.big (Heap.get?_push_size _ rfl)
  have hb := C.led _ M0
  refine callWith_of (P := fun h => h.get? hh.objs.size = some (Zdc ty id x)) rfl (fun h hb => ⟨.machine, .inr (.inl rfl), (Looks.ld (part := none) hb).andThen ?_⟩) (evalArgs_nil3 ⟨hb, ?_⟩)
  ·rcases hty with rfl | rfl <;> exact .now
  ·exact Zj3 hb hty (fun {A' E' Q'} q => hck (W.ext C.ext).k (C.led _ (.tail _ (.tail _ hx))) q) hpl he (h _ _ _ C)
noncomputable def Zns (K : Frag) (a : Addr) : Obj := (K.lookup a).getD emptyDict
noncomputable def Zkx (p : Nat × FuncData × Array Value × Option Value × Nat) : Data := Nat.rec .plain (fun k _ => Nat.rec (.func p.2.1) (fun k _ => Nat.rec (.fields p.2.2.1) (fun k _ => Nat.rec (.cell p.2.2.2.1) (fun _ _ => .seq p.2.2.1 p.2.2.2.2) k) k) k) p.1
theorem Zpu {d : Data} (h : (Zbe d).1 ≠ 0) : d = Zkx (Zbe d) := by cases d <;> first | rfl | exact absurd rfl h
theorem Zge {d : Data} {k : Nat} (h : (Zbe d).1 = k + 1) : d = Zkx (k + 1, (Zbe d).2) := (Zpu (h ▸ Nat.succ_ne_zero k)).trans (congrArg (fun n => Zkx (n, (Zbe d).2)) h)
noncomputable def Za5 (K : Frag) (a : Addr) : Array Value := (Zbe (Zns K a).data).2.2.1
structure KM (prog : Program) (K : Frag) : Prop where
 m : ∀ q ∈ Zdy, findIn K (.ref 248) (ofString q.1) = some (some (.ref q.2)) ∧ typeIn K (.ref q.2) = some (.type "function") ∧ keepIn K (.ref q.2) = true
 app : findIn K (.ref 248) (ofString "append") = some (some (.builtin "list.append"))
 it : findIn K (.ref 248) (ofString "__iter__") = some (some (.builtin "list.__iter__"))
 bo : findIn K (.ref 248) (ofString "__bool__") = some none
 ist : takerIn K 248 (ofString "_initial_size") = some none
 isf : findIn K (.ref 248) (ofString "_initial_size") = some none
 kp : keepIn K (.ref 248) = true
 f185 : FnK K 185 (ofString "__init__") (ofString "_Accumulator.__init__") (Z8 16 0) [(ofString "__class__", 172)] (.ref 177) 184
 f192 : FnK K 192 (ofString "push") (ofString "_Accumulator.push") (Z8 16 1) [] .none 191
 f200 : FnK K 200 (ofString "pop_from") (ofString "_Accumulator.pop_from") (Z8 16 2) [] (.ref 193) 199
 f208 : FnK K 208 (ofString "pop") (ofString "_Accumulator.pop") (Z8 16 3) [(ofString "__class__", 172)] .none 207
 f215 : FnK K 215 (ofString "__len__") (ofString "_Accumulator.__len__") (Z8 16 4) [] .none 214
 f222 : FnK K 222 (ofString "__str__") (ofString "_Accumulator.__str__") (Z8 16 5) [] .none 221
 f230 : FnK K 230 (ofString "reset") (ofString "_Accumulator.reset") (Z8 16 6) [] (.ref 223) 229
 f237 : FnK K 237 (ofString "is_onlyws") (ofString "_Accumulator.is_onlyws") (Z8 16 7) [] .none 236
 f245 : FnK K 245 (ofString "part_count") (ofString "_Accumulator.part_count") (Z8 16 8) [(ofString "__class__", 172)] .none 244
 p184 : Zho prog K 184
 p207 : Zho prog K 207
 p244 : Zho prog K 244
 d177 : ∃ o t n, K.lookup 177 = some o ∧ o.data = .seq #[.int 0 t] n
 d193 : ∃ o t n, K.lookup 193 = some o ∧ o.data = .seq #[.int 0 t] n
 d223 : ∃ o n, K.lookup 223 = some o ∧ o.data = .seq #[.none] n
namespace F
theorem slot_list_ga : Slot "list" "__getattribute__" "list.__getattribute__" := .of (owner := "list") (n := "__getattribute__") (by rw [typeLookup_type, builtinLookup_eq_fast]; kernel_rfl) (by decide +kernel) (by decide +kernel) (by decide +kernel)
 (by first | exact .inl (by decide +kernel) | exact .inr (by decide +kernel)) (by rw [isSubtype_type]; kernel_rfl)
theorem entry_list_ga : entryFor table "list.__getattribute__" = some Builtin.«object.__getattribute__» :=
 entryFor_alias (id' := "object.__getattribute__") (by kernel_rfl) (by first | rfl | decide +kernel) (by decide +kernel) (by kernel_rfl)
theorem args_list_ga (a b : Value) : argsOk "list.__getattribute__" ⟨[a, b], []⟩ := by unfold argsOk; kernel_rfl
theorem canon_list_ga : (Manifest.canonical "list.__getattribute__" != "object.__getattribute__") = false := by decide +kernel
end F
theorem Zc7 {h : Heap} (hx : h.get? x = some (Zh 248 dx us n)) (hdx : h.get? dx = some od) : InstAt h x (Zh 248 dx us n) 248 (some od) := ⟨hx, rfl, rfl, hdx⟩
theorem Zn4 (X' : K.In s.heap) (T : KA prog K cd) (hx : s.heap.get? x = some (Zh 248 dx us n)) (hdx : s.heap.get? dx = some od) {expr : Bool} {Q : Value → Shared → Prop}
  (hfr : findIn K (.ref 248) name = some none) (hl : lookIn name od = some (some v)) (hh : handedIn v = true) (h : Q v { s with toks := s.toks + 1 }) : wpAny (model prog w) A (getAttr (.ref x) name expr) Q E s := by
 have I := Zc7 hx hdx
 have L0 := I.type (M := model prog w)
 have L1 := looks_findIn (M := model prog w) X' T.ga
 have L2 := looks_findIn (M := model prog w) X' T.ci.gt
 have hf : findObj K 248 (some od) name = some (.value v) := by
  unfold findObj
  rw [T.ci.cls, Option.bind_some, hfr, Option.bind_some]
  simp only [Option.bind_some]
  unfold PySem.W.ownOf
  rw [if_pos T.ci.dct]
  simp only [hl, Option.bind_some]
 have L3 := looks_find (M := model prog w) X' I hf
 obtain ⟨hp, g, d, t, os⟩ := s
 unfold getAttr getAttrBy
 refine wpAny_bind (wpAny_mkText (wpAny_holding (wpAny_bind (L0.at (wpAny_bind (L1.at ?_))))))
 show wpAny _ _ (getAttrByItsOwn (.ref x) (.str name t) (.ref 248) (.builtin "list.__getattribute__") true expr) _ _ _
 unfold getAttrByItsOwn hookBefore callGetattribute boundAndCalled
 refine wpAny_bind ?_
 show wpAny _ _ (typeLookup (.ref 248) "__getattr__") _ _ _
 refine L2.at ?_
 refine wpAny_bind (wpAny_attempt (wpAny_holding ?_))
 rw [show (expr && onTheHeap (Value.builtin "list.__getattribute__")) = false by cases expr <;> rfl]
 simp only [Bool.false_eq_true, if_false]
 refine wpAny_bind (wpAny_of_eq (F.slot_list_ga.bind _) ?_)
 refine wpAny_mono (Q := fun r s' => r = v ∧ s' = ⟨hp, g, d, t + 1, os⟩) (E := fun _ _ => False) ?_ (fun r s' hv => ?_) fun _ _ z => z.elim
 ·show wpAny _ _ (call (.builtin "list.__getattribute__") [.ref x, .str name t]) _ _ _
  refine Zgp "__getattribute__" (.inr (by kernel_rfl)) (by kernel_rfl) F.slot_list_ga.plain F.entry_list_ga (Zda X' hx T.kl.sub) (F.args_list_ga _ _) ?_
  unfold Builtin.«object.__getattribute__»
  refine wpAny_bind (wpAny_pure ?_)
  dsimp only
  refine wpAny_bind (wpAny_pure ?_)
  refine wpAny_bind (L0.at (wpAny_bind (L3.at ?_)))
  exact wpAny_pure ⟨_, rfl, rfl, rfl⟩
 ·obtain ⟨rfl, rfl⟩ := hv
  show wpAny _ _ (handedOut r) _ _ _
  rw [handedOut_of hh]
  exact wpAny_pure h
theorem Loc.getAL (C : Loc env s₀ X vs l s) (W : Wd K s₀.heap) (T : KA prog K cd) (hx : s.heap.get? x = some (Zh 248 dx us n)) (hdx : s.heap.get? dx = some od) {expr : Bool} {Q : Value → Shared → Prop}
  (hfr : findIn K (.ref 248) name = some none) (hl : lookIn name od = some (some v)) (hh : handedIn v = true) (h : ∀ s', Loc env s₀ X vs l s' → Q v s') : wpAny (model prog w) A (getAttr (.ref x) name expr) Q E s :=
 Zn4 (W.ext C.ext).k T hx hdx hfr hl hh (h _ C.tok)
theorem Zb4 {f : Addr} {pl : Sem Bool} {Q : Value × List Value → Shared → Prop} (X' : K.In s.heap) (T : KA prog K cd) (hx : s.heap.get? x = some (Zh 248 dx us n)) (hdx : s.heap.get? dx = some od)
  (hf : findIn K (.ref 248) name = some (some (.ref f))) (ht : typeIn K (.ref f) = some (.type "function")) (hs : shadowIn (some od) name = some false) (h : Q (.ref f, [.ref x]) s) :
  wpAny (model prog w) A (getMethod (.ref x) name pl) Q E s := by
 have I := Zc7 hx hdx
 unfold getMethod specialOf
 refine wpAny_bind (wpAny_bind (I.type.here ((looks_findIn X' T.ga).here ?_)))
 dsimp only
 rw [F.canon_list_ga, if_neg (by decide)]
 refine wpAny_bind (wpAny_bind (I.type.here ((looks_findIn X' T.ci.gt).here ?_)))
 refine wpAny_bind (wpAny_bind (I.type.here ((looks_findIn X' hf).here (wpAny_bind ((looks_typeIn X' ht).here ?_)))))
 rw [if_neg (by decide +kernel)]
 refine wpAny_bind (wpAny_loadPart I.at_ ?_)
 refine Zo (Option.map_eq_some_iff.mp hs) fun r a b => ?_
 refine wpAny_bind (wpAny_bind (wpAny_loadPart hdx ?_))
 rw [nsLook_of a]
 refine wpAny_pure ?_
 rw [b]
 exact wpAny_bind (wpAny_rule (wpAny_pure h))
theorem Ze4 {pl : Sem Bool} {Q : Value × List Value → Shared → Prop} (X' : K.In s.heap) (T : KA prog K cd) (hx : s.heap.get? x = some (Zh 248 dx us n)) (hdx : s.heap.get? dx = some od)
  (hf : findIn K (.ref 248) name = some (some (.builtin "list.append"))) (hs : shadowIn (some od) name = some false) (h : Q (.builtin "list.append", [.ref x]) s) :
  wpAny (model prog w) A (getMethod (.ref x) name pl) Q E s := by
 have I := Zc7 hx hdx
 unfold getMethod specialOf
 refine wpAny_bind (wpAny_bind (I.type.here ((looks_findIn X' T.ga).here ?_)))
 dsimp only
 rw [F.canon_list_ga, if_neg (by decide)]
 refine wpAny_bind (wpAny_bind (I.type.here ((looks_findIn X' T.ci.gt).here ?_)))
 refine wpAny_bind (wpAny_bind (I.type.here ((looks_findIn X' hf).here (wpAny_bind (wpAny_of_eq PySem.F.type_list_append ?_)))))
 rw [if_neg (by decide +kernel)]
 refine wpAny_bind (wpAny_loadPart I.at_ ?_)
 refine Zo (Option.map_eq_some_iff.mp hs) fun r a b => ?_
 refine wpAny_bind (wpAny_bind (wpAny_loadPart hdx ?_))
 rw [nsLook_of a]
 refine wpAny_pure ?_
 rw [b]
 exact wpAny_bind (wpAny_rule (wpAny_pure h))
theorem Ext.at1 {s s' : Shared} {x a : Addr} {o : Obj} (e : Ext [x] [] s s') (hne : a ≠ x) (h3 : 316 ≤ a) (h : s.heap.get? a = some o) : s'.heap.get? a = some o :=
 e.keep _ _ (fun q => hne (List.mem_singleton.mp q)) (fun ht => absurd h3 (Nat.not_le.mpr (Zz _ ht))) h
theorem Zm9 {C dx : Addr} {us : List Value} {n : Nat} : Zs (Zh C dx us n) := Zbm (fun vs e => by cases e) (fun vs e => by cases e)
variable {us' : List Value} {t t' : Tok}
theorem Loc.putL (C : Loc env s₀ X vs l s) {n' : Nat} {h' : Heap} {tk : Nat} (P : Put x (Zh 248 dx us n) (Zh 248 dx us' n') l l') (hs : Heap.SameBut x s.heap h') (hg : h'.get? x = some (Zh 248 dx us' n')) : Loc env s₀ X vs l' { s with heap := h', toks := tk } :=
 C.put (Ext.same (C.own _ P.mem).2 (Z5 (C.led _ P.mem) Zm9) M0 hs ⟨_, hg⟩) P hg
theorem Zhz (W : Wd K s.heap) (R : Zk A 2) (T : KA prog K cd) (N : KM prog K) {a b : Value} {Q : Value → Shared → Prop} (hx : s.heap.get? x = some (Zh 248 dx us n)) (hx3 : 316 ≤ x) (hd : s.heap.get? dx = some (Zay w t t')) (hd3 : 316 ≤ dx) (hne : dx ≠ x) (hsz : us.length ≤ 100)
  (h : ∀ p n' s', s.heap.get? p = none → 316 ≤ p → Ext [x] [] s s' → s'.heap.get? p = some (Zaw [a, b]) → s'.heap.get? x = some (Zh 248 dx (us ++ [.ref p]) n') → Q .none s') :
  wpAny (model prog w) A (call (.ref 192) [.ref x, a, b]) Q E s := by
 refine Zw W R N.f192 [("self", .ref x), ("fws", a), ("string", b)] (fun _ _ _ _ _ => BindsTo.of_eq rfl) fun env s₁ hE hO hc C => ?_
 have RD := R.deeper (env := env)
 replace C := C.take hO hx hx3 (fun _ q => by cases q) (fun _ q => by cases q)
 refine Zq ?_
 refine Zi ?_
 refine C.expr ?_
 refine methodCall_KW ?_
 walk_at "N"
 refine Ze4 (W.ext C.ext).k T (C.led _ M0) (C.ext.at1 hne hd3 hd) N.app rfl ?_
 refine callWith_method1 ?_
 refine Za ?_
 refine Tuple_ ?_
 refine Za ?_
 walk_at "N"
 refine Za ?_
 walk_at "N"
 refine spliced_none ?_
 refine C.tup (by simp [sizeLine_eq]) ?_; clear C; intro p s C
 refine spliced_none ?_
 refine Zla (Zda (W.ext C.ext).k (C.led _ M1) T.kl.sub) (C.led _ M1) (kA ‹_› rfl) fun h' n' hs hg => ?_
 replace C := C.putL (tk := s.toks) J1 hs hg
 obtain ⟨o1, o2⟩ := C.own _ M0
 refine wpAny_execs_nil ?_
 have hp : p ≠ x := by
  have := C.nd
  simp at this
  exact this
 exact h p n' _ (o1.resolve_left fun q => hp (List.mem_singleton.mp q)) o2 C.ext (C.led _ M0) (C.led _ M1)
variable {k : Nat}
theorem Zoj {c : Code} {b : List Stmt} {st : Stmt} {rest : List Stmt} {Q : Flow → Shared → Prop} (h : _root_.PySem.wpAt M A c (execs (st :: rest) env) Q E s) (hb : autoParam (b = st :: rest) aR) : _root_.PySem.wpAt M A c (execs b env) Q E s := hb ▸ h
theorem Zdf (W : Wd K s.heap) (G : KG K) (R : Zk A 2) (T : KA prog K cd) (N : KM prog K) {Q : Value → Shared → Prop} (hx : s.heap.get? x = some (Zh 248 dx us n)) (hx3 : 316 ≤ x)
  (h : ∀ t s', Ext [x] [] s s' → s'.heap.get? x = some (Zh 248 dx us n) → Q (.int (us.length : Nat) t) s') : wpAny (model prog w) A (call (.ref 245) [.ref x]) Q E s := by
 refine wpAny_call (Zkp W R N.f245 T [("self", .ref x)] (fun _ _ _ _ _ => BindsTo.of_eq rfl) fun env s₁ hE hO hc C => ?_)
 simp only [List.cons_append, List.nil_append] at C
 replace C := C.take hO hx hx3 (fun _ q => by cases q) (fun _ q => by cases q)
 refine Zoj ?_
 refine ks_wpAt_execs_cons ?_
 refine ks_wpAt_Return_some ?_
 refine ks_wpAt_MethodCall ?_
 refine C.superCall W G T hE N.f245 N.p244 M0 M0 M1 (by rfl) rfl (by kernel_rfl) (by kernel_rfl) T.s2 F.type_ll F.slot_wd_get.lookup (fun hs q => Zqq hs q) (.inl rfl) (fun _ _ q => wpAny_of_eq Zpn q)
  PySem.F.slot_list_len.plain PySem.F.entry_list_len fun b so s C => ?_
 refine Zsb (C.led _ M2) fun t tk => ?_
 replace C := C.tok (tk := tk)
 exact h _ _ C.ext (C.led _ M2)
theorem Zoh (W : Wd K s.heap) (G : KG K) (R : Zk A 2) (T : KA prog K cd) (N : KM prog K) {RR : Result → Shared → Prop} (hx : s.heap.get? x = some (Zh 248 dx [] n)) (hx3 : 316 ≤ x) (hd : s.heap.get? dx = some emptyDict) (hd3 : 316 ≤ dx) (hne : dx ≠ x)
  (h : ∀ ta n' s', Ext [dx, x] [] s s' → s'.heap.get? dx = some (Zay w ta t) → s'.heap.get? x = some (Zh 248 dx [] n') → RR (.ok (.ret .none)) s') :
  codeAny (model prog w) A (.call (.ref 185) ⟨[.ref x, .int 0 t], []⟩) RR s := by
 refine Zax N.d177 fun o177 t177 n177 h177 e177 => ?_
 refine Zkp W R N.f185 T [("self", .ref x), ("initial_size", .int 0 t)] (fun _ _ _ _ _ => binds_K W.k rfl h177 e177 rfl rfl) fun env s₁ hE hO hc C => ?_
 simp only [List.cons_append, List.nil_append] at C
 replace C := C.take hO hx hx3 (fun _ q => by cases q) (fun _ q => by cases q)
 replace C := C.takeM hO hd (C.ext.at1 hne hd3 hd) hd3 (by simpa using hne) (fun _ q => by cases q) (fun _ q => by cases q)
 refine Zoj ?_
 refine ks_wpAt_execs_cons ?_
 refine wpAt_of_wpAny ?_
 refine plainObj_wpAny_Assign_Attribute ?_ (by rfl)
 walk_at "N"
 walk_at "N"
 refine C.setA W (L' := fun o' => [(dx, o'), (x, Zh 248 dx [] n)]) (fun o' => J0) (C.led _ M1) rfl rfl rfl T.ci N.ist (od' := fun ta => Zay w ta t) rfl (fun t => rfl) (fun t => ⟨_, _, rfl, by simp⟩) ?_; clear C; intro ta s C
 refine ks_wpAt_execs_cons ?_
 refine ks_wpAt_Expr_any ?_ C.inter (by rfl)
 refine ks_wpAt_MethodCall ?_
 refine C.superCall W G T hE N.f185 N.p184 M1 M0 M2 (by rfl) rfl (by kernel_rfl) (by kernel_rfl) T.s1 F.type_li F.slot_wd_get.lookup (fun hs q => Zpy hs q) (.inl rfl) (fun _ _ q => wpAny_of_eq Zny q)
  PySem.F.slot_list_init.plain PySem.F.entry_list_init fun b so s C => ?_
 refine Zq9 (C.led _ M3) fun h' n' hs hg => ?_
 replace C := C.putL (tk := s.toks) J3 hs hg
 refine wpAt_of_wpAny ?_
 refine wpAny_execs_nil ?_
 exact h ta n' _ C.ext (C.led _ M2) (C.led _ M3)
theorem Zbg {q : String × Addr} (N : KM prog K) (h : q ∈ Zdy) : findIn K (.ref 248) (ofString q.1) = some (some (.ref q.2)) ∧ typeIn K (.ref q.2) = some (.type "function") ∧ keepIn K (.ref q.2) = true := N.m q h
theorem Zog (W : Wd K s.heap) (G : KG K) (R : Zk A 4) (T : KA prog K cd) (N : KM prog K) {u : Value} {Q : Value → Shared → Prop} (hx : s.heap.get? x = some (Zh 248 dx (us ++ [u]) n)) (hx3 : 316 ≤ x) (hd : s.heap.get? dx = some (Zay w t t')) (hd3 : 316 ≤ dx) (hne : dx ≠ x) (hsz : us.length ≤ 100)
  (h : ∀ n' s', Ext [x] [] s s' → s'.heap.get? x = some (Zh 248 dx us n') → Q u s') : wpAny (model prog w) A (call (.ref 208) [.ref x]) Q E s := by
 refine Zae (Zbg N (q := ("part_count", 245)) (by walk_at "M")) fun m1 m2 m3 => ?_
 refine wpAny_call (Zkp W R N.f208 T [("self", .ref x)] (fun _ _ _ _ _ => BindsTo.of_eq rfl) fun env s₁ hE hO hc C => ?_)
 simp only [List.cons_append, List.nil_append] at C
 have RD := R.deeper (env := env) (n := 3)
 replace C := C.take hO hx hx3 (fun _ q => by cases q) (fun _ q => by cases q)
 refine Zoj ?_
 refine ks_wpAt_execs_cons ?_
 refine wpAt_of_wpAny ?_
 refine xif ?_
 refine Z0 ?_
 refine methodCall_KW ?_
 walk_at "N"
 refine Zb4 (W.ext C.ext).k T (C.led _ M0) (C.ext.at1 hne hd3 hd) m1 m2 rfl ?_
 refine callWith_K0 (W.ext C.ext).k m3 ?_
 refine Zdf (W.ext C.ext) G RD.le T N (C.led _ M0) hx3 fun t1 s2 x2 g2 => ?_
 replace C := C.put x2 J0 g2
 refine C.cint ?_; clear C; intro s t C
 refine eq_int (wpAny_truthy_bool ?_)
 refine ifN (by simp; exact nZ (Nat.le_add_left (Nat.succ 0) us.length)) ?_
 refine wpAny_execs_nil ?_
 refine ks_wpAt_execs_cons ?_
 refine ks_wpAt_Return_some ?_
 refine ks_wpAt_MethodCall ?_
 refine C.superCall W G T hE N.f208 N.p207 M0 M0 M1 (by rfl) rfl (by kernel_rfl) (by kernel_rfl) T.s3 PySem.F.type_list_pop F.slot_md_get.lookup (fun hs q => Zq4 hs q) (.inr rfl) (fun X' hx q => Zpj T X' hx q)
  PySem.F.slot_list_pop.plain PySem.F.entry_list_pop fun b so s C => ?_
 refine Zsn (C.led _ M2) (kA ‹_› rfl) fun h' n' hs hg => ?_
 replace C := C.putL (tk := s.toks) J2 hs hg
 exact h n' _ C.ext (C.led _ M2)
theorem Zqg {value slice : Expr} {pos : Pos} {Q : Value → Shared → Prop} (h : wpAny (model prog w) A (eval value env) (fun o s₁ => wpAny (model prog w) A (eval slice env) (fun i s₂ =>
   ∃ ops dx us n, K.In s₂.heap ∧ KL K 248 ∧ o = .ref x ∧ s₂.heap.get? x = some (Zh 248 dx us n) ∧ subscripted slice false o i = operate ops (getItem o i) ∧ wpAny (model prog w) A (getItem o i) Q E s₂) E s₁) E s) :
  wpAny (model prog w) A (eval (.Subscript value slice pos) env) Q E s := by
 rw [eval_Subscript]
 refine wpAny_bind (wpAny_mono h (fun o s₁ h₁ => wpAny_bind (wpAny_holding (wpAny_mono h₁ (fun i s₂ h₂ => wpAny_bind (wpAny_standAt ?_)) fun _ _ x => x)))
  fun _ _ x => x)
 obtain ⟨ops, dx, us, n, X', Y, rfl, hx, hs, hg⟩ := h₂
 refine wpAny_bind ?_
 rw [getitemInPython_of_ne (by intro q; cases q)]
 refine wpAny_bind ((Ziw X' hx Y.gi).at ?_)
 refine wpAny_pure ?_
 refine wpAny_bind ?_
 rw [hs]
 exact wpAny_operating (wpAny_mono hg (fun r s₃ h₃ => wpAny_bind (wpAny_letTemporaryGo (wpAny_pure h₃))) fun _ _ x => x)
theorem Zmi {us : List Value} {k : Nat} (hk : k ≤ us.length) : kms_pick us (some (k : Int)) none = us.drop k := by
 unfold kms_pick kms_lo kms_hi
 simp
 rw [Nat.min_eq_left hk]
 exact List.take_of_length_le (by simp)
theorem Loc.pickX (C : Loc env s₀ X vs l s) (W : Wd K s₀.heap) (T : KA prog K cd) (hx : (x, Zh 248 dx us n) ∈ l) {r : Addr} {k : Nat} {tk : Tok} {Q : Value → Shared → Prop} (hr : s.heap.IsSliceOf r (.int k tk) .none .none) (hk : k ≤ us.length) (hsz : us.length ≤ 1000)
  (h : ∀ D s', Loc env s₀ X vs ((D, Zu (us.drop k)) :: l) s' → Q (.ref D) s') : wpAny (model prog w) A (getItem (.ref x) (.ref r)) Q E s := by
 refine Zqv (W.ext C.ext).k T.kl (C.led _ hx) hr (.int _ _) .none (kA ‹_› rfl) ?_
 rw [Zmi hk]
 have x1 : Ext [] [] s { s with heap := s.heap.push (Zu (us.drop k)) } := C.extK (tk := s.toks) Zd
 exact h _ _ (C.add x1 Zc C.big (Heap.get?_push_size _ rfl))
theorem Zhf (W : Wd K s.heap) (G : KG K) (R : Zk A 4) (T : KA prog K cd) (N : KM prog K) {k : Nat} {tk : Tok} {Q : Value → Shared → Prop} (hx : s.heap.get? x = some (Zh 248 dx us n)) (hx3 : 316 ≤ x) (hsz : us.length ≤ 100) (hk : k ≤ us.length)
  (h : ∀ D n' s', s.heap.get? D = none → 316 ≤ D → Ext [x] [] s s' → s'.heap.get? D = some (Zu (us.drop k)) → s'.heap.get? x = some (Zh 248 dx (us.take k) n') → Q (.ref D) s') : wpAny (model prog w) A (call (.ref 200) [.ref x, .int k tk]) Q E s := by
 refine Zax N.d193 fun o193 t193 n193 h193 e193 => ?_
 refine Zw W R N.f200 [("self", .ref x), ("i", .int k tk)] (fun _ _ _ _ _ => binds_K W.k rfl h193 e193 rfl rfl) fun env s₁ hE hO hc C => ?_
 have RD := R.deeper (env := env) (n := 3)
 replace C := C.take hO hx hx3 (fun _ q => by cases q) (fun _ q => by cases q)
 refine Zq ?_
 refine xca ?_
 refine Zqg (K := K) (x := x) ?_
 walk_at "N"
 refine C.sliceO ?_
 refine wpAny_evalPart_some ?_
 walk_at "N"
 refine wpAny_evalPart_none ?_
 refine ⟨_, _, C, fun r s hr C => ?_⟩
 refine ⟨_, _, _, _, (W.ext C.ext).k, T.kl, rfl, C.led _ M0, rfl, ?_⟩
 refine C.pickX W T M0 hr hk (kA ‹_› rfl) ?_; clear C; intro D s C
 refine C.st hO hc (by walk_at "K") ?_; clear C; intro s C
 refine Zi ?_
 refine wpAny_Assign_Subscript ?_ (by rfl)
 refine List_ ?_
 refine spliced_none ?_
 refine C.lst (by simp [sizeLine_eq]) ?_; clear C; intro D2 s C
 walk_at "N"
 refine C.sliceO ?_
 refine wpAny_evalPart_some ?_
 walk_at "N"
 refine wpAny_evalPart_none ?_
 refine ⟨_, _, C, fun r s hr C => ?_⟩
 have hne2 : x ≠ D2 ∧ x ≠ D := by
  have := C.nd
  simp at this
  exact ⟨fun q => this.1.2 q.symm, fun q => this.2 q.symm⟩
 refine Zhm (W.ext C.ext).k T.kl (C.led _ M2) hr (.int _ _) (.inr rfl) hk ((Zm []).at (C.led _ M0)) hne2.1 (by simp; exact kA ‹_› rfl) fun h' n' hs hg => ?_
 rw [List.append_nil] at hg
 replace C := C.putL (tk := s.toks) J2 hs hg
 refine xcr ?_
 walk_at "N"
 obtain ⟨o1, o2⟩ := C.own _ M1
 exact h D n' _ (o1.resolve_left fun q => hne2.2 (List.mem_singleton.mp q).symm) o2 C.ext (C.led _ M1) (C.led _ M2)
theorem Zka (W : Wd K s.heap) (G : KG K) (R : Zk A 2) (T : KA prog K cd) (N : KM prog K) {args : List Value} {sv : Value} {ws : List Value} {Q : Value → Shared → Prop} (ha : args = [.ref x] ∧ sv = .none ∨ args = [.ref x, sv])
  (hsv : sv = .none ∧ ws = [] ∨ ∃ D, sv = .ref D ∧ s.heap.IsList D ws.toArray ∧ D ≠ x ∧ 316 ≤ D ∧ D ≠ dx)
  (hx : s.heap.get? x = some (Zh 248 dx us n)) (hx3 : 316 ≤ x) (hd : s.heap.get? dx = some (Zay w t t')) (hd3 : 316 ≤ dx) (hne : dx ≠ x) (hsz : us.length ≤ 100) (hwz : ws.length ≤ 100)
  (h : ∀ ta tb n' s', Ext [dx, x] [] s s' → s'.heap.get? dx = some (Zay w ta tb) → s'.heap.get? x = some (Zh 248 dx ws n') → Q .none s') : wpAny (model prog w) A (call (.ref 230) args) Q E s := by
 refine Z9 N.d223 fun o223 n223 h223 e223 => ?_
 refine Zw W R N.f230 [("self", .ref x), ("startval", sv)] (fun _ _ _ _ _ => ?_) fun env s₁ hE hO hc C => ?_
 ·rcases ha with ⟨rfl, rfl⟩ | rfl
  ·exact binds_K W.k rfl h223 e223 rfl rfl
  ·exact binds_K W.k rfl h223 e223 rfl rfl
 replace C := C.take hO hx hx3 (fun _ q => by cases q) (fun _ q => by cases q)
 replace C := C.takeM hO hd (C.ext.at1 hne hd3 hd) hd3 (by simpa using hne) (fun _ q => by cases q) (fun _ q => by cases q)
 refine Zq ?_
 refine Zi ?_
 refine wpAny_mono (Q := fun f s' => f = .next ∧ ∃ D vs', ("self", .ref x) ∈ vs' ∧ ("startval", .ref D) ∈ vs' ∧ D ≠ x ∧ ∃ l'', (∀ s2 vs2 l2, Loc env s [dx, x] vs2 l2 s2 → (∀ p ∈ l'', p ∈ l2) → s2.heap.IsList D ws.toArray) ∧ Loc env s [dx, x] vs' ((dx, Zay w t t') :: (x, Zh 248 dx us n) :: l'') s') ?_ (fun f s' z => ?_) (fun _ _ z => z)
 ·refine xif ?_
  refine Z0 ?_
  walk_at "N"
  refine wpAny_Constant_none ?_
  refine is_none_gen (wpAny_truthy_bool ?_)
  rcases hsv with ⟨rfl, rfl⟩ | ⟨D, rfl, hD, h1, h2, h3⟩
  ·refine ifP (by decide) ?_
   refine xca ?_
   refine List_ ?_
   refine spliced_none ?_
   refine C.lst (by simp [sizeLine_eq]) ?_; clear C; intro D2 s C
   refine C.st hO hc (by walk_at "K") ?_; clear C; intro s C
   refine wpAny_execs_nil ?_
   have hne2 : D2 ≠ x := by
    have := C.nd
    simp at this
    exact this.1.2
   exact ⟨rfl, D2, _, M0, M1, hne2, [(D2, Zu [])], fun s2 vs2 l2 C2 h2 => (Zm []).at (C2.led _ (h2 _ M0)), C.perm (by
    exact ((List.Perm.swap _ _ _).trans (List.Perm.cons _ (List.Perm.swap _ _ _))).symm)⟩
  ·refine ifN (by simp) ?_
   refine wpAny_execs_nil ?_
   refine ⟨rfl, D, _, M0, M1, h1, [], fun s2 vs2 l2 C2 _ => ?_, C⟩
   refine Zo hD fun o e r => ?_
   exact ⟨o, C2.ext.keep _ _ (by simp [h1, h3]) (fun ht => absurd h2 (Nat.not_le.mpr (Zz _ ht))) e, r⟩
 ·obtain ⟨rfl, D, vs', m1, m2, hDx, l'', hD, C⟩ := z
  refine Zi ?_
  refine wpAny_Assign_Subscript ?_ (by rfl)
  refine C.name (x := "startval") m2 ?_
  refine C.name (x := "self") m1 ?_
  refine C.sliceO ?_
  refine wpAny_evalPart_none ?_
  refine wpAny_evalPart_none ?_
  refine ⟨_, _, C, fun r s hr C => ?_⟩
  have hD1 := hD _ _ _ C (fun p hp => .tail _ (.tail _ hp))
  refine Zhm (W.ext C.ext).k T.kl (C.led _ M1) hr .none (.inl ⟨rfl, rfl⟩) (Nat.zero_le _) hD1 (fun q => hDx q.symm) (by lia) fun h' n' hs hg => ?_
  rw [List.take_zero, List.nil_append] at hg
  replace C := C.putL (tk := s.toks) J1 hs hg
  refine Zi ?_
  refine plainObj_wpAny_Assign_Attribute ?_ (by rfl)
  refine C.cint ?_; clear C; intro s tb C
  refine C.name (x := "self") m1 ?_
  refine C.setA W (L' := fun o' => (dx, o') :: (x, Zh 248 dx ws n') :: l'') (fun o' => J0) (C.led _ M1) rfl rfl rfl T.ci N.ist (od' := fun _ => Zay w t tb) rfl (fun _ => rfl) (fun t => ⟨_, _, rfl, by simp⟩) ?_; clear C; intro ta s C
  refine wpAny_execs_nil ?_
  exact h t tb n' _ C.ext (C.led _ M0) (C.led _ M1)
theorem Zr3 {Q : Value → Shared → Prop} (X' : K.In s.heap) (hsub : mroIn K C (.type "list") = some true) (hit : findIn K (.ref C) "__iter__" = some (some (.builtin "list.__iter__"))) (hx : s.heap.get? x = some (Zh C dx us n))
  (hQ : Q (.ref s.heap.objs.size) { s with heap := s.heap.push { cls := .type "list_iterator", data := .fields #[.ref x, .int 0 0] } }) : wpAny (model prog w) A (pyIter (.ref x)) Q E s := by
 unfold pyIter
 refine wpAny_bind ((Ziw X' hx hit).at ?_)
 show wpAny _ A (callSpecialIfBoundUnlessNone? (.ref x) "__iter__" _ >>= _) Q E s
 refine wpAny_bind ?_
 unfold callSpecialIfBoundUnlessNone? bindSpecialIfBound?
 refine wpAny_holding (wpAny_bind (wpAny_bind ((Ziw X' hx hit).at ?_)))
 simp only [PySem.F.slot_list_iter.bind]
 have fin : ∀ {A : Around} {R : Option Value → Shared → Prop}, R (some (.ref s.heap.objs.size)) { s with heap := s.heap.push { cls := .type "list_iterator", data := .fields #[.ref x, .int 0 0] } } → wpAny (model prog w) A (call (.builtin "list.__iter__") [.ref x] >>= fun v => pure (some v)) R E s := by
  intro A R hR
  refine wpAny_bind (Zgp "__iter__" (.inr (by kernel_rfl)) (by kernel_rfl) PySem.F.slot_list_iter.plain PySem.F.entry_list_iter (Zda X' hx hsub) (PySem.F.args_list_iter_1 _) ?_)
  show wpAny _ _ (do ret (← newFields "list_iterator" [.ref x, rawInt 0])) _ _ s
  exact wpAny_bind (wpAny_newObj_type (wpAny_pure ⟨_, rfl, wpAny_pure hR⟩))
 have hR : wpAny (model prog w) A (specialOf (.ref s.heap.objs.size) "__next__" >>= fun r => match r with
   | none => do rule "iter.non-iterator"; raiseError "TypeError" s!"iter() returned non-iterator of type '{← PySem.typeNameOf (.ref s.heap.objs.size)}'"
   | some _ => pure (.ref s.heap.objs.size)) Q E { s with heap := s.heap.push { cls := .type "list_iterator", data := .fields #[.ref x, .int 0 0] } } :=
  wpAny_bind (wpAny_specialOf (T := "list_iterator") ⟨_, Heap.get?_push_size _ rfl, rfl⟩ slot_listiter_next.lookup (wpAny_pure hQ))
 refine wpAny_bind (wpAny_askSetting (wpAny_ite ?_))
 split
 ·refine wpAny_bind (wpAny_pure (wpAny_pure ?_))
  exact fin hR
 ·refine wpAny_tryCatch (wpAny_bind (wpAny_pure (wpAny_pure ?_)))
  exact fin hR
theorem Zrx {it : Addr} {i : Nat} {v : Value} {Q : Option Value → Shared → Prop} (hit : s.heap.IsListIter it x i) (hx : s.heap.get? x = some (Zh C dx us n)) (hv : us[i]? = some v)
  (hQ : ∀ h', h'.IsListIter it x (i + 1) → Heap.SameBut it s.heap h' → Q (some v) { s with heap := h' }) : wpAny (model prog w) A (pyNext (.ref it)) Q E s := by
 refine Z1 (id hit) fun o ho hc hd => ?_
 unfold pyNext
 refine wpAny_bind (wpAny_attempt (wpAny_callSpecial?_slot (name := ofString "__next__") hit.typeIs slot_listiter_next
  (wpAny_call_entry slot_listiter_next hit.typeIs entry_listiter_next ?_ (args_listiter_next _))))
 show wpAny _ _ (field (.ref it) 0 >>= _) _ _ s
 refine wpAny_bind (wpAny_field ho hd (x := .ref x) rfl ?_)
 show wpAny _ _ (if (Value.ref x == Value.none) = true then _ else _) _ _ s
 rw [if_neg (show ¬ ((Value.ref x == Value.none) = true) from Bool.false_ne_true)]
 show wpAny _ _ (field (.ref it) 1 >>= _) _ _ s
 refine wpAny_bind (wpAny_field ho hd (x := .int i 0) rfl ?_)
 show wpAny _ _ (seqItems? (.ref x) >>= _) _ _ s
 refine wpAny_bind (wpAny_seqItems hx rfl ?_)
 simp only [Int.toNat_natCast, List.getElem?_toArray, hv]
 refine wpAny_bind (wpAny_setField ho hd (by simp) (wpAny_pure ⟨v, rfl, wpAny_pure (hQ _ ?_ (Heap.SameBut.update ..))⟩))
 exact ⟨_, Heap.get?_update_self _ ho (Obj.isFreed_of_fields (Obj.data_mapFields hd _)), (Obj.cls_mapFields ..).trans hc, by
  rw [Obj.data_mapFields hd]; simp [rawInt]⟩
theorem Zr7 {it : Addr} {i : Nat} {Q : Option Value → Shared → Prop} (hh : A.handled = none) (hit : s.heap.IsListIter it x i) (hx : s.heap.get? x = some (Zh C dx us n)) (hv : us[i]? = none)
  (hQ : ∀ h', Heap.ExtBut it s.heap h' → Q none { s with heap := h' }) : wpAny (model prog w) A (pyNext (.ref it)) Q E s := by
 refine Z1 (id hit) fun o ho hc hd => ?_
 unfold pyNext
 refine wpAny_bind (wpAny_attempt (wpAny_callSpecial?_slot (name := ofString "__next__") hit.typeIs slot_listiter_next
  (wpAny_call_entry slot_listiter_next hit.typeIs entry_listiter_next ?_ (args_listiter_next _))))
 show wpAny _ _ (field (.ref it) 0 >>= _) _ _ s
 refine wpAny_bind (wpAny_field ho hd (x := .ref x) rfl ?_)
 show wpAny _ _ (if (Value.ref x == Value.none) = true then _ else _) _ _ s
 rw [if_neg (show ¬ ((Value.ref x == Value.none) = true) from Bool.false_ne_true)]
 show wpAny _ _ (field (.ref it) 1 >>= _) _ _ s
 refine wpAny_bind (wpAny_field ho hd (x := .int i 0) rfl ?_)
 show wpAny _ _ (seqItems? (.ref x) >>= _) _ _ s
 refine wpAny_bind (wpAny_seqItems hx rfl ?_)
 simp only [Int.toNat_natCast, List.getElem?_toArray, hv]
 refine wpAny_bind (wpAny_rule (wpAny_bind (wpAny_setField ho hd (by simp) ?_)))
 show wpAny _ _ (newExc (.type "StopIteration") [] >>= _) _ _ _
 refine wpAny_bind ?_
 simp only [newExc, newTuple]
 refine wpAny_bind (wpAny_newObj_type ?_ (by size_fits))
 refine wpAny_bind (m := firstArgMember _ _) (wpAny_of_eq (a := Value.none) (by first | rfl | (simp only [firstArgMember]; rfl)) ?_)
 refine wpAny_newObj_type ?_ (by size_fits)
 simp only [raiseNew]
 refine wpAny_bind (wpAny_handled ?_)
 rw [show A.in1.handled = none from hh]
 refine wpAny_bind (wpAny_pure (wpAny_throw ?_))
 refine wpAny_bind (wpAny_isInstance (T := "StopIteration") (b := true) ⟨_, Heap.get?_push_size _ rfl, rfl⟩ isSubtype_stop ?_)
 exact wpAny_pure (hQ _ (((Heap.SameBut.update ..).extBut.push _).push _))
theorem Zq1 {prog : Program} {w : World} {A : Around} {C dx : Addr} {us : List Value} {n : Nat} (hh : A.handled = none) (I ax : Addr) (hne : ax ≠ I) (Ts : Nat → Addr) (vals : Nat → Array Value)
  (hit : ∀ j, j < us.length → us[j]? = some (.ref (Ts j))) (hTI : ∀ j, j < us.length → Ts j ≠ I) :
  WalksU prog w A I (I :: ax :: (List.range us.length).map Ts) [I] us.length (fun j v => v = vals j ∧ j < us.length)
   (fun j h => h.IsListIter I ax j ∧ h.get? ax = some (Zh C dx us n) ∧ ∀ k, k < us.length → h.IsTuple (Ts k) (vals k))
   (fun j T h => (j < us.length ∧ T = Ts j) ∧ h.IsListIter I ax (j + 1) ∧ h.get? ax = some (Zh C dx us n) ∧ ∀ k, k < us.length → h.IsTuple (Ts k) (vals k)) where
 sub := fun b hb => by simp at hb; simp [hb]
 frame := fun _ _ _ st hk => ⟨st.1.at fun o e => hk I (by simp) o e, hk ax (by simp) _ st.2.1,
  fun k hk' => (st.2.2 k hk').at fun o e => hk (Ts k) (List.mem_cons_of_mem _ (List.mem_cons_of_mem _ (List.mem_map.mpr ⟨k, List.mem_range.mpr hk', rfl⟩))) o e⟩
 item := fun i s Q E hi st hQ => by
  refine Zrx st.1 st.2.1 (v := .ref (Ts i)) (hit i hi) fun h' hit' hs' => ?_
  have tup : ∀ k, k < us.length → h'.IsTuple (Ts k) (vals k) := fun k hk' => (st.2.2 k hk').extBut hs'.extBut (hTI k hk')
  exact hQ (Ts i) (vals i) h' s.toks ⟨rfl, hi⟩ (tup i hi) ⟨⟨hi, rfl⟩, hit', (hs'.2 _ hne).trans st.2.1, tup⟩ fun b o hb e => hs'.extBut b o (fun h => hb (by simp [h])) e
 go := fun _ _ _ _ _ s Q _ hm hQ => wpAny_letOwnedTupleGo_listiter hm.2.1 (hQ s.heap hm.2 fun _ _ _ e => e)
 apart := fun j T _ hm hmem => by
  rcases List.mem_cons.mp hmem with e | e
  ·exact hTI j hm.1.1 (hm.1.2 ▸ e)
  ·cases e
 done := fun s Q E st hQ => Zr7 hh st.1 st.2.1 (by simp) fun h' he' => hQ h' s.toks fun b o hb e => he' b o (fun h => hb (by simp [h])) e
 self := fun _ _ _ _ st hQ => wpAny_pyIter_listiter st.1 hQ
theorem Zfr {h h' : Heap} {cv : Value} {q : Str} {wr : List Addr} (x : h.CodeRec cv q) (hn : ∀ p ∈ wr, ∀ o, h.get? p = some o → Zs o) (k : ∀ b o, b ∉ wr → h.get? b = some o → h'.get? b = some o) : h'.CodeRec cv q := by
 refine Zlz x fun c o vs t e g d r => ?_
 exact ⟨c, o, vs, t, e, k c o (fun ca => (hn c ca o g).1 vs q t d r) g, d, r⟩
theorem Zap.off {h h' : Heap} {wr : List Addr} (x : Zap h) (ha : ∀ p ∈ wr, 316 ≤ p) (hn : ∀ p ∈ wr, ∀ o, h.get? p = some o → Zs o) (k : ∀ b o, b ∉ wr → h.get? b = some o → h'.get? b = some o) : Zap h' := fun q hq => by
 refine Z1 (x q hq) fun ps c1 c2 c3 => ?_
 refine Z6 (Z7 q hq) fun _ _ h3 h4 _ => ?_
 have n1 : q.1 ∉ wr := fun m => absurd (ha _ m) (Nat.not_le.mpr h3)
 have n2 : q.2 ∉ wr := fun m => absurd (ha _ m) (Nat.not_le.mpr h4)
 refine Zbu c1 fun o vs file tf flags tg inF text tt op e1 r1 r2 r3 r4 r5 r6 e2 r => ?_
 obtain ⟨⟨o', vs', t1, t3⟩, t2⟩ := c2
 refine ⟨ps, ⟨o, vs, file, tf, flags, tg, inF, text, tt, op, k _ _ n1 e1, r1, r2, r3, r4, r5, r6, k _ _ n2 e2, r⟩, ⟨⟨o', vs', k _ _ n1 t1, t3⟩, k _ _ n2 t2⟩, fun pos cv e => Zfr (c3 pos cv e) hn k⟩
theorem Wd.off {K : Frag} {h h' : Heap} {wr : List Addr} (W : Wd K h) (ha : ∀ p ∈ wr, 316 ≤ p) (hn : ∀ p ∈ wr, ∀ o, h.get? p = some o → Zs o) (k : ∀ b o, b ∉ wr → h.get? b = some o → h'.get? b = some o) (hb : 316 ≤ h'.objs.size) : Wd K h' := by
 have low : ∀ b o, b < 316 → b ∉ Zbn → h.get? b = some o → h'.get? b = some o := fun b o h1 _ e => k b o (fun q => absurd (ha b q) (Nat.not_le.mpr h1)) e
 exact W.low low (W.tab.off ha hn k) hb
theorem Ext.genM {s s' s'' : Shared} {I : Addr} {gs : GenState} (hI : 316 ≤ I) (hn : ∀ o, s.heap.get? I = some o → Zs o) (hk : ∀ b o, s.heap.get? b = some o → s'.heap.get? b = some o) (hg : s'.gens = s.gens.push gs) (hb : gs.bare = true) (hd : s'.drawn = s.drawn) (ho : s'.os = s.os)
  (m : Moved (s.heap.objs.size :: [I]) (GenOnlyQ s.gens.size) s' s'') (hz : 316 ≤ s''.heap.objs.size) : Ext [I] [] s s'' := by
 have k : ∀ b o, b ∉ [I] → s.heap.get? b = some o → s''.heap.get? b = some o := fun b o h1 e => m.heap b o (fun q => (List.mem_cons.mp q).elim (fun q => absurd (Heap.lt_size e) (by rw [q]; exact Nat.lt_irrefl _)) h1) (hk b o e)
 have hw : ∀ p ∈ [I], 316 ≤ p := fun p hp => by rw [List.mem_singleton.mp hp]; exact hI
 have hn' : ∀ p ∈ [I], ∀ o, s.heap.get? p = some o → Zs o := fun p hp => by rw [List.mem_singleton.mp hp]; exact hn
 refine ⟨fun b o h1 _ e => k b o h1 e, fun b o h1 _ e => k b o (fun q => absurd (hw b q) (Nat.not_le.mpr h1)) e, fun b o h1 e => ⟨o, k b o h1 e⟩, fun t => t.off hw hn' k, fun _ => hz, m.drawn.trans hd, m.os.trans ho, ?_, ?_, ?_, fun cv q x => Zfr x hn' k⟩
 ·rcases m.gens with e | ⟨⟨e, _⟩, _⟩ <;> rw [e, hg, Array.size_push] <;> exact Nat.le_succ _
 ·intro g' x _ e
  have hlt : g' < s.gens.size := (Array.getElem?_eq_some_iff.mp e).1
  have e2 : s'.gens[g']? = some x := by rw [hg, Array.getElem?_push_lt hlt]; rw [Array.getElem?_eq_getElem hlt] at e; exact e
  rcases m.gens with q | ⟨⟨_, q⟩, _⟩
  ·rw [q]; exact e2
  ·rw [q g' (Nat.ne_of_lt hlt)]; exact e2
 ·intro h
  have h' : AllBare s'.gens := by rw [hg]; exact h.push hb
  rcases m.gens with q | ⟨⟨q1, q2⟩, q3⟩
  ·rw [q]; exact h'
  ·intro x hx
   obtain ⟨k, e⟩ := Array.mem_iff_getElem?.mp hx
   by_cases hg : k = s.gens.size
   ·subst hg; exact q3 x e
   ·rw [q2 k hg] at e; exact h' x (Array.mem_iff_getElem?.mpr ⟨k, e⟩)
theorem Zf0 (n : Nat) : passing (fun _ => true) n 0 = List.range n := by
 unfold passing
 rw [List.drop_zero]
 exact List.filter_eq_self.mpr fun _ _ => rfl
theorem Loc.gcode (C : Loc env s₀ X vs l s) (W : Wd K s₀.heap) {c P : Addr} (hcd : env.code = .ref c) (hq : (c, P) ∈ Zac) {pos : Pos} {scope : Scope} {Q : Value → Shared → Prop} (h : ∀ cv s', Loc env s₀ X vs l s' → Ext [] [] s s' → Q cv s') :
  wpAny (model prog w) A (genexprCode env pos (Zd8 c) scope) Q E s := by
 have W' := W.ext C.ext
 refine Z1 (W'.tab _ hq) fun ps c1 c2 c3 => ?_
 cases hf : codeAmong pos ps.toList with
 | some cv => exact wpAny_genexprCode_hit hcd c1 hf (h _ _ C (Ext.refl _ _ _))
 | none =>
  refine wpAny_genexprCodeX hcd c1 c2 hf fun c' h' tk hx hge hlt hcode hrec htab _ => ?_
  have x1 : Ext [] [] s { s with heap := h', toks := tk } := Ext.grow hq c1 c2 c3 hx (Nat.le_trans W'.big (Nat.le_trans hge (Nat.le_of_lt hlt))) hrec htab.2
  exact h _ _ (C.pure x1) x1
theorem Loc.genX (C : Loc env s₀ X vs l s) (W : Wd K s₀.heap) {m : Nat} (R : Zk A m) (T : KA prog K cd) (N : KM prog K) {c P : Addr} (hcd : env.code = .ref c) (hq : (c, P) ∈ Zac) (hql : env.qual ++ ofString "<genexpr>" = Zd8 c)
  {elt : Expr} {xa xb : String} {pa pb pt ps pos : Pos} {kt : Nat} {scope : Scope} {Q : Value → Shared → Prop}
  (hs : ("self", .ref x) ∈ vs) (hx : s.heap.get? x = some (Zh 248 dx us n)) (hx3 : 316 ≤ x) (Ts : Nat → Addr) (vals : Nat → Value × Value)
  (hit : ∀ j, j < us.length → us[j]? = some (.ref (Ts j)) ∧ s.heap.get? (Ts j) = some (Zaw [(vals j).1, (vals j).2]) ∧ 316 ≤ Ts j)
  (hco : scope.isCoroutine = false) (hcell : ∀ y ∈ scope.names, y.2 ≠ .cell) (hfree : ∀ y ∈ scope.names, y.2 ≠ .free) (h0 : scope.names.lookup (".0" : Str) = some NameKind.local)
  (hxa : scope.names.lookup (ofString xa) = some .local) (hxb : scope.names.lookup (ofString xb) = some .local) (hab : ofString xa ≠ ofString xb) (hkind : scope.kind = .function)
  (F : Nat → Value → Prop)
  (helt : ∀ (A' : Around) E' i s₂ cenv, A'.handled = none → A'.depth ≤ A.depth + 1 → A'.units ≤ A.units + 8 → i < us.length → Wd K s₂.heap → cenv.scope = scope → Loc cenv s₂ [] [(xa, (vals i).1), (xb, (vals i).2)] [] s₂ →
   wpAny (model prog w) A' (eval elt cenv) (fun y s₃ => F i y ∧ Keeps s₂ s₃) E' s₂)
  (h : ∀ a s' fp wr G (St : Nat → Shared → Prop), Loc env s₀ X vs l s' → WalksS prog w A.in4 a fp wr G us.length F St → St 0 s' → (∀ b ∈ fp, b < s'.heap.objs.size) → a ∈ fp → (∀ i s, St i s → s.TypeIs (.ref a) "generator") →
   (∀ s'', Moved wr G s' s'' → Loc env s₀ X vs l s'') → Q (.ref a) s') :
  wpAny (model prog w) A (eval (.GeneratorExp elt [⟨.Tuple [.Name (ofString xa) pa, .Name (ofString xb) pb] kt pt, .Name (ofString "self") ps, [], 0⟩] scope pos) env) Q E s := by
 have hcl : closureFor scope env = Pure.pure (Zb0 env scope.names) := Zx fun p hp e => absurd e (hfree p hp)
 have hcl0 : Zb0 env scope.names = [] := by
  unfold Zb0
  have : ∀ (names : List (Str × NameKind)) (acc : List (Str × Addr)), (∀ y ∈ names, y.2 ≠ .free) → names.foldl (fun cs p => if p.2 == .free then (p.1, (env.cells.lookup p.1).getD 0) :: cs else cs) acc = acc := by
   intro names
   induction names with
   | nil => intro acc _; rfl
   | cons y r ih =>
    intro acc hy
    rw [List.foldl_cons, if_neg (by simpa using hy y M0)]
    exact ih acc fun z hz => hy z (.tail _ hz)
  exact this _ _ hfree
 rw [hcl0] at hcl
 refine wpAny_GeneratorExp_walksQTD R.hd hco hcl hcell h0 hxa hxb hab hkind R.lt (C.name (x := "self") hs ?_) (by intro v; rfl)
 refine Zr3 (W.ext C.ext).k T.kl.sub N.it hx ?_
 have x1 : Ext [] [] s { s with heap := s.heap.push { cls := .type "list_iterator", data := .fields #[.ref x, .int 0 0] } } := C.extK (tk := s.toks) Zd
 have hxs : x < s.heap.objs.size := Heap.lt_size hx
 have hTs : ∀ j, j < us.length → Ts j < s.heap.objs.size := fun j hj => Heap.lt_size (hit j hj).2.1
 have hbig := C.big
 have C1 := C.add x1 Zc hbig (Heap.get?_push_size _ rfl)
 have kx : ∀ {s'}, Ext [] [] s s' → s'.heap.get? x = some (Zh 248 dx us n) := fun {s'} e => e.get hx3 hx
 have kT : ∀ {s'}, Ext [] [] s s' → ∀ j, j < us.length → s'.heap.IsTuple (Ts j) #[(vals j).1, (vals j).2] := fun {s'} e j hj => ⟨_, e.get (hit j hj).2.2 (hit j hj).2.1, rfl, _, rfl⟩
 refine ⟨((W.ext C1.ext).lim), ?_⟩
 rw [show (env.qual ++ ofString "<genexpr>") = Zd8 c from hql]
 refine C1.gcode W hcd hq fun cv s4 C4 x4 => ?_
 have x14 : Ext [] [] s s4 := x1.trans x4
 have W4 := W.ext C4.ext
 refine Zdz W4.bm fun mg bm ob b0 b1 b2 b3 b4 b5 b6 b7 b8 b9 => ?_
 refine wpAny_builtinsFor (C.fr.gl.symm ▸ b0) b1 b2 b6 b7 b8 b9 ?_
 have hI4 := C4.led _ M0
 have hI3 := hbig
 have hIn : ∀ o, s4.heap.get? s.heap.objs.size = some o → Zs o := Z5 hI4 ⟨fun vs q t e => (by cases e; intro q; cases q), fun fd e => (by cases e)⟩
 have hlen : (passing (fun _ => true) us.length 0).length = us.length := by rw [Zf0, List.length_range]
 refine ⟨s.heap.objs.size, s.heap.objs.size :: x :: (List.range us.length).map Ts, [s.heap.objs.size], us.length, _, _, _, fun _ => true, F, rfl,
  fun A' hA => Zq1 (C := 248) (dx := dx) (n := n) hA s.heap.objs.size x (Nat.ne_of_lt hxs) Ts (fun j => #[(vals j).1, (vals j).2]) (fun j hj => (hit j hj).1) (fun j hj => Nat.ne_of_lt (hTs j hj)),
  fun i v hv => ⟨_, _, hv.1⟩, ⟨⟨_, hI4, rfl, rfl⟩, kx x14, kT x14⟩, ?_, W4.lim, ?_, ?_, ?_⟩
 ·intro b hb
  rcases List.mem_cons.mp hb with rfl | hb
  ·exact Heap.lt_size hI4
  ·rcases List.mem_cons.mp hb with rfl | hb
   ·exact Heap.lt_size (kx x14)
   ·obtain ⟨j, hj, rfl⟩ := List.mem_map.mp hb
    refine Zo (kT x14 j (List.mem_range.mp hj)) fun o e _ => ?_
    exact Heap.lt_size e
 ·intro q
  have q : cStatics = s.heap.objs.size := List.mem_singleton.mp q
  have : cStatics < 316 := by decide
  exact absurd hbig (Nat.not_le.mpr (q ▸ this))
 ·intro href hh
  refine ⟨fun A' E' i va vb s5 m5 hA hd hu hP hns ha hb keep => wpAny_pure ⟨rfl, s5.heap, s5.toks, rfl, fun _ _ e => e⟩, fun A' E' i va vb s5 m5 hA hd hu hP _ hns ha hb keep => ?_⟩
  obtain ⟨e, hi⟩ := hP
  have e := congrArg Array.toList e
  simp only [List.cons.injEq, and_true] at e
  obtain ⟨rfl, rfl⟩ := e
  have hk5 : ∀ b o, b ∉ [s.heap.objs.size] → s4.heap.get? b = some o → s5.heap.get? b = some o := fun b o hb e => keep b (List.mem_range.mpr (Heap.lt_size e)) hb o (hh b o e)
  have hz4 : 316 ≤ s4.heap.objs.size := C4.big
  have W5 : Wd K s5.heap := W4.off (fun p hp => by rw [List.mem_singleton.mp hp]; exact hI3) (fun p hp => by rw [List.mem_singleton.mp hp]; exact hIn) hk5 (Nat.le_of_lt (Nat.lt_of_le_of_lt hz4 hns.lt))
  refine helt A' E' i s5 (genEnv scope [] s4.heap.objs.size cv builtinsNs env) hA hd hu hi W5 rfl ⟨Ext.refl _ _ _, ⟨⟨m5, hns⟩, fun y c q => (by cases q), fun y z c q => (by cases q), hz4, fun b hb ht => ?_, hkind, C.fr.gl, rfl⟩, fun p hp => ?_, fun _ h => (nomatch h), fun _ h => (nomatch h), fun _ h => (nomatch h), List.nodup_nil, fun _ h => (nomatch h)⟩
  ·rcases hb with rfl | ⟨y, q⟩
   ·exact absurd hz4 (Nat.not_le.mpr (Zz _ ht))
   ·cases q
  ·rcases List.mem_cons.mp hp with rfl | hp
   ·exact .inl ⟨hxa, m5, hns, ha⟩
   ·rw [List.mem_singleton.mp hp]; exact .inl ⟨hxb, m5, hns, hb⟩
 ·intro a h5 tk gs hgs hlt hsz hk WS hG
  have hoff := C4.off _ M0
  have hown := C4.own _ M0
  have hnd := C4.nd
  rw [List.map_cons, List.nodup_cons] at hnd
  have CL : ∀ s'', Moved (s4.heap.objs.size :: [s.heap.objs.size]) (GenOnlyQ s4.gens.size) { s4 with gens := s4.gens.push gs, toks := tk, heap := h5 } s'' → Loc env s₀ X vs l s'' := by
   intro s'' hm
   have hz : 316 ≤ s''.heap.objs.size := by
    refine Za4 C4.fr.ns fun ρ oL _ _ eL _ => ?_
    have : s''.heap.get? env.locals = some oL := hm.heap _ _ (fun q => by
     rcases List.mem_cons.mp q with q | q
     ·have := Heap.lt_size eL
      rw [q] at this
      exact absurd this (Nat.lt_irrefl _)
     ·exact hoff.1 (List.mem_singleton.mp q).symm) (hk _ _ eL)
    exact Nat.le_trans C4.fr.hiL (Nat.le_of_lt (Heap.lt_size this))
   have xm := Ext.genM (I := s.heap.objs.size) (s' := { s4 with gens := s4.gens.push gs, toks := tk, heap := h5 }) hI3 hIn hk rfl hgs rfl rfl hm hz
   exact (C4.sub (List.sublist_cons_self _ _)).step xm (fun p hp => by rw [List.mem_singleton.mp hp]; exact ⟨hown.1, hoff.1, hoff.2, hnd.1⟩) (fun _ h => nomatch h)
  have WS2 : WalksS prog w A.in4 a (a :: s4.heap.objs.size :: List.range s4.heap.objs.size) (s4.heap.objs.size :: [s.heap.objs.size]) (GenOnlyQ s4.gens.size) us.length F (GenAt prog w A.in4 a s4.gens.size s4.heap.objs.size (List.range s4.heap.objs.size) [s.heap.objs.size] (fun _ => true) us.length F) := by
   rw [hlen] at WS
   refine ⟨WS.sub, WS.grefl, WS.gtrans, WS.frame, fun i s Q E hi st hQ => WS.item i s Q E hi st fun v s' hP st' hm => hQ v s' ?_ st' hm, WS.done, WS.self⟩
   refine Zo hP fun i' e1 e2 => ?_
   rw [Zf0, List.getElem?_range hi] at e1
   cases e1
   exact e2
  refine h a _ _ _ _ _ (CL _ (Moved.refl WS.grefl)) WS2 hG ?_ M0 (fun i s hs => ?_) CL
  ·intro b hb
   show b < h5.objs.size
   rw [hsz]
   rcases List.mem_cons.mp hb with rfl | hb
   ·exact Nat.lt_succ_self _
   ·rcases List.mem_cons.mp hb with rfl | hb
    ·exact Nat.lt_succ_of_lt hlt
    ·exact Nat.lt_succ_of_lt (Nat.lt_trans (List.mem_range.mp hb) hlt)
  ·refine Zlm hs.1 fun o nm qn ho hc _ => ?_
   exact ⟨o, ho, hc⟩
noncomputable abbrev Za7 := Addr × (List Nat × Tok) × (List Nat × Tok)
noncomputable def Zb6 (h : Heap) (us : List Value) (ps : List Za7) : Prop := us = ps.map (fun q => .ref q.1) ∧ ∀ q ∈ ps, 316 ≤ q.1 ∧ h.get? q.1 = some (Zaw [.str (mkS q.2.1.1) q.2.1.2, .str (mkS q.2.2.1) q.2.2.2])
noncomputable def Z2 (ps : List Za7) : Nat := (ps.map fun q => q.2.1.1.length + q.2.2.1.length).sum
noncomputable def Zav (ps : List Za7) : List Nat := ps.flatMap fun q => q.2.1.1 ++ q.2.2.1
theorem Zfw (l : List Nat) : ∀ k, k ≤ l.length → preSum (fun i => ((l.getD i 0 : Nat) : Int)) k = (((l.take k).sum : Nat) : Int) := by
 intro k
 induction k with
 | zero => intro _; rfl
 | succ k ih =>
  intro hk
  show preSum _ k + _ = _
  rw [ih (Nat.le_of_lt ‹_›), List.take_succ_eq_append_getElem (by assumption), List.sum_append, List.sum_singleton]
  show _ + ((l.getD k 0 : Nat) : Int) = _
  rw [List.getD_eq_getElem?_getD, List.getElem?_eq_getElem (by assumption), Option.getD_some, Int.natCast_add]
theorem Zfs (l : List Nat) (k : Nat) : (l.take k).sum ≤ l.sum := by
 conv => rhs; rw [← List.take_append_drop k l, List.sum_append]
 exact Nat.le_add_right (List.take k l).sum (List.drop k l).sum
theorem Zcn (l : List Nat) (k : Nat) : l.getD k 0 ≤ l.sum := by
 by_cases h : k < l.length
 ·have h1 := Zfs l (k + 1)
  rw [List.take_succ_eq_append_getElem h, List.sum_append, List.sum_singleton] at h1
  rw [List.getD_eq_getElem?_getD, List.getElem?_eq_getElem h, Option.getD_some]
  exact nB h1
 ·rw [List.getD_eq_getElem?_getD, List.getElem?_eq_none (Nat.le_of_not_lt h)]; simp
theorem Zmr {I : Addr} {fp wr : List Addr} {G : Array GenState → Array GenState → Prop} {n : Nat} {P : Nat → Value → Prop} {St : Nat → Shared → Prop} {val : Nat → Int} {t : Tok} {Q : Value → Shared → Prop}
  (W : WalksS prog w A.in1 I fp wr G n P St) (hst : St 0 s) (hfp : ∀ b ∈ fp, b < s.heap.objs.size) (hval : ∀ i v, P i v → ∃ t, v = .int (val i) t) (hfit : ∀ j, j < n → InLong (val j) ∧ InLong (preSum val (j + 1)))
  (hQ : ∀ s' t', Moved wr G s s' → Q (.int (preSum val n) t') s') : wpAny (model prog w) A (call (.builtin "sum") [.ref I, .int 0 t]) Q E s := by
 refine call_function_tree F.kind_sum F.plain_sum F.entry_sum (show argsOk "sum" ⟨[.ref I, .int 0 t], []⟩ by unfold argsOk; kernel_rfl) ?_
 unfold Builtin.«sum»
 simp only [List.length_cons, List.length_nil]
 rw [if_neg (by decide)]
 refine wpAny_bind (wpAny_of_eq (show Builtin.Builtins.bindParams "sum" ["start"] 0 ⟨[.int 0 t], []⟩ = pure [some (.int 0 t)] from rfl) ?_)
 refine wpAny_bind (W.self 0 s _ _ hst ?_)
 dsimp only
 refine wpAny_bind ?_
 refine wpAny_rule ?_
 refine wpAny_bind (wpAny_mkInt ?_)
 refine wpAny_bind (wpAny_pure ?_)
 simp only [List.forIn_cons, List.forIn_nil]
 refine wpAny_bind (wpAny_bind (wpAny_bind (wpAny_isInstance (T := "int") (b := false) (typeIs_int _ _ _) _root_.PySem.sub_int_str ?_)))
 simp only [Bool.false_eq_true, if_false]
 refine wpAny_pure (wpAny_bind (wpAny_bind (wpAny_isInstance (T := "int") (b := false) (typeIs_int _ _ _) _root_.PySem.sub_int_bytes ?_)))
 simp only [Bool.false_eq_true, if_false]
 refine wpAny_pure (wpAny_bind (wpAny_bind (wpAny_isInstance (T := "int") (b := false) (typeIs_int _ _ _) _root_.PySem.sub_int_bytearray ?_)))
 simp only [Bool.false_eq_true, if_false]
 refine wpAny_pure (wpAny_pure ?_)
 refine wpAny_bind (wpAny_newObj_type ?_)
 have hSf : s.heap.objs.size ∉ fp := fun hm => Nat.lt_irrefl _ (hfp _ hm)
 refine wpAny_pure ⟨plainId_quiet F.plain_sum_loop _, codeAny_sum_loopS W val hval hfit s.heap.objs.size hSf n 0 _ s.toks 0 rfl (Nat.zero_le _)
  (W.frame 0 s _ _ hst (by first | exact Nat.le_refl _ | exact Nat.le_succ _ | lia) fun b _ o e => Heap.get?_push_of_some _ e) (Heap.get?_push_size _ rfl) fun s' t' hm => ?_⟩
 exact hQ s' t' (hm.drop_new (by first | exact Nat.le_refl _ | exact Nat.le_succ _ | lia))
theorem Zjb (W : Wd K s.heap) (G : KG K) (R : Zk A 6) (T : KA prog K cd) (N : KM prog K) {ps : List Za7} {Q : Value → Shared → Prop} (hx : s.heap.get? x = some (Zh 248 dx us n)) (hx3 : 316 ≤ x) (hd : s.heap.get? dx = some (Zay w t t')) (hd3 : 316 ≤ dx) (hps : Zb6 s.heap us ps) (hb : Z2 ps ≤ 100000)
  (h : ∀ u s', Ext [] [] s s' → Q (.int (Z2 ps : Nat) u) s') : wpAny (model prog w) A (call (.ref 215) [.ref x]) Q E s := by
 obtain ⟨rfl, hp⟩ := hps
 refine Zw W R N.f215 [("self", .ref x)] (fun _ _ _ _ _ => BindsTo.of_eq rfl) fun env s₁ hE hO hc C => ?_
 have RD := R.deeper (env := env) (n := 5)
 refine Zq ?_
 refine xcr ?_
 refine Zf ?_
 walk_at "B"
 refine xb1 ?_
 refine Za ?_
 have hat : ∀ j, j < (ps.map fun q => Value.ref q.1).length → ∃ q, ps[j]? = some q := fun j hj => ⟨_, List.getElem?_eq_getElem (by simpa using hj)⟩
 refine C.genX (P := 210) W RD T N hE.code (List.mem_of_elem_eq_true (by decide +kernel)) (by rw [hE.qual]; kernel_rfl) M0 (C.ext.get hx3 hx) hx3 (fun j => ((ps[j]?).map (·.1)).getD 0) (fun j => ((ps[j]?).map fun q => ((.str (mkS q.2.1.1) q.2.1.2 : Value), (.str (mkS q.2.2.1) q.2.2.2 : Value))).getD (.none, .none))
  (fun j hj => ?_) (by kernel_rfl) ?_ ?_ (by kernel_rfl) (by kernel_rfl) (by kernel_rfl) (by decide) (by kernel_rfl) (fun j y => ∃ t, y = .int (((ps.map fun q => q.2.1.1.length + q.2.2.1.length).getD j 0 : Nat) : Int) t) ?_ ?_
 ·obtain ⟨q, hq⟩ := hat j hj
  obtain ⟨h1, h2⟩ := hp q (List.mem_of_getElem? hq)
  simp only [hq, List.getElem?_map, Option.map_some, Option.getD_some]
  exact ⟨trivial, C.ext.get h1 h2, h1⟩
 ·decide
 ·decide
 ·intro A' E' i s2 cenv hA hdp hun hi W2 hsc C2
  obtain ⟨q, hq⟩ := hat i hi
  simp only [hq, Option.map_some, Option.getD_some] at C2
  have hbi : (ps.map fun q => q.2.1.1.length + q.2.2.1.length).getD i 0 = q.2.1.1.length + q.2.2.1.length := by
   rw [List.getD_eq_getElem?_getD, List.getElem?_map, hq]; rfl
  have hle := Zcn (ps.map fun q => q.2.1.1.length + q.2.2.1.length) i
  rw [hbi] at hle ⊢
  have hle : q.2.1.1.length + q.2.2.1.length ≤ 100000 := Nat.le_trans hle hb
  refine Zn ?_
  refine Zf ?_
  refine C2.bn W2 G (x := "len") (v := .builtin "len") M0 (by unfold Env.kindOf; rw [hsc]; kernel_rfl) ?_
  refine xb1 ?_
  refine Za ?_
  refine C2.name (x := "fws") M0 ?_
  refine spliced_none ?_
  refine PySem.P.len_str (by rw [Zv]; lia) ?_
  have C2 := C2.tok (tk := s2.toks + 1 + 1)
  refine Zf ?_
  refine C2.bn W2 G (x := "len") (v := .builtin "len") M0 (by unfold Env.kindOf; rw [hsc]; kernel_rfl) ?_
  refine xb1 ?_
  refine Za ?_
  refine C2.name (x := "part") M1 ?_
  refine spliced_none ?_
  refine PySem.P.len_str (by rw [Zv]; lia) ?_
  refine add_int ?_
  rw [Zv, Zv]
  exact ⟨⟨_, by rw [Int.natCast_add]⟩, s2.heap, _, rfl, fun _ _ e => e⟩
 ·intro a s' fp wr G' St C' WS hst hfp ha hty hmv
  have hx' : s'.heap.get? x = some (Zh 248 dx (ps.map fun q => Value.ref q.1) n) := C'.ext.get hx3 hx
  have hd' : s'.heap.get? dx = some (Zay w t t') := C'.ext.get hd3 hd
  refine Za ?_
  refine Zaq ?_
  refine C'.name (x := "self") M0 ?_
  refine Zn4 (W.ext C'.ext).k T hx' hd' N.isf rfl rfl ?_
  refine spliced_none ?_
  have WS1 : WalksS prog w (A.deeper env).in1 a fp wr G' (ps.map fun q => Value.ref q.1).length _ St := WS.of_in1.of_in1.of_in1
  refine Zmr (s := { s' with toks := s'.toks + 1 }) WS1 (WS.frame 0 s' s'.heap (s'.toks + 1) hst (Nat.le_succ _) fun _ _ _ e => e) hfp (val := fun i => (((ps.map fun q => q.2.1.1.length + q.2.2.1.length).getD i 0 : Nat) : Int)) (fun i v hv => hv) (fun j hj => ?_) (fun s'' u hm => ?_)
  ·have h1 := Zcn (ps.map fun q => q.2.1.1.length + q.2.2.1.length) j
   have h2 := Zfs (ps.map fun q => q.2.1.1.length + q.2.2.1.length) (j + 1)
   have hb' : (ps.map fun q => q.2.1.1.length + q.2.2.1.length).sum ≤ 100000 := hb
   rw [List.length_map] at hj
   rw [Zfw _ _ (by rw [List.length_map]; assumption)]
   unfold InLong
   constructor <;> constructor <;> lia
  ·have hl : (ps.map fun q => Value.ref q.1).length = (ps.map fun q => q.2.1.1.length + q.2.2.1.length).length := by simp
   rw [hl, Zfw _ _ (Nat.le_refl _), List.take_length]
   exact h _ _ (hmv s'' ⟨hm.heap, hm.gens, hm.drawn, hm.os, Nat.le_trans (Nat.le_succ _) hm.toks⟩).ext
theorem Zoa (ls : List (List Nat)) : jn [] ls = ls.flatten := by
 cases ls with
 | nil => rfl
 | cons x r =>
  show x ++ r.flatMap (fun p => [] ++ p) = _
  simp [List.flatMap_def]
theorem Zop (W : Wd K s.heap) (G : KG K) (R : Zk A 6) (T : KA prog K cd) (N : KM prog K) {ps : List Za7} {Q : Value → Shared → Prop} (hx : s.heap.get? x = some (Zh 248 dx us n)) (hx3 : 316 ≤ x) (hps : Zb6 s.heap us ps) (hb : Z2 ps ≤ 100000) (hn : ps.length ≤ 100)
  (h : ∀ u s', Ext [] [] s s' → Q (.str (mkS (Zav ps)) u) s') : wpAny (model prog w) A (call (.ref 222) [.ref x]) Q E s := by
 obtain ⟨rfl, hp⟩ := hps
 refine Zw W R N.f222 [("self", .ref x)] (fun _ _ _ _ _ => BindsTo.of_eq rfl) fun env s₁ hE hO hc C => ?_
 have RD := R.deeper (env := env) (n := 5)
 refine Zq ?_
 refine xcr ?_
 refine Zbk ?_
 walk_at "G"
 refine Zbt "str" "str.join" PySem.F.plainAttrs_str PySem.F.slot_str_join PySem.F.type_str_join (typeIs_str _ _ _) (fun _ x => by cases x) (callWith_method1 ?_)
 refine Za ?_
 have hat : ∀ j, j < (ps.map fun q => Value.ref q.1).length → ∃ q, ps[j]? = some q := fun j hj => ⟨_, List.getElem?_eq_getElem (by simpa using hj)⟩
 refine C.genX (P := 217) W RD T N hE.code (List.mem_of_elem_eq_true (by decide +kernel)) (by rw [hE.qual]; kernel_rfl) M0 (C.ext.get hx3 hx) hx3 (fun j => ((ps[j]?).map (·.1)).getD 0) (fun j => ((ps[j]?).map fun q => ((.str (mkS q.2.1.1) q.2.1.2 : Value), (.str (mkS q.2.2.1) q.2.2.2 : Value))).getD (.none, .none))
  (fun j hj => ?_) (by kernel_rfl) ?_ ?_ (by kernel_rfl) (by kernel_rfl) (by kernel_rfl) (by decide) (by kernel_rfl) (fun j y => ∃ q t, ps[j]? = some q ∧ y = .str (mkS (q.2.1.1 ++ q.2.2.1)) t) ?_ ?_
 ·obtain ⟨q, hq⟩ := hat j hj
  obtain ⟨h1, h2⟩ := hp q (List.mem_of_getElem? hq)
  simp only [hq, List.getElem?_map, Option.map_some, Option.getD_some]
  exact ⟨trivial, C.ext.get h1 h2, h1⟩
 ·decide
 ·decide
 ·intro A' E' i s2 cenv hA hdp hun hi W2 hsc C2
  obtain ⟨q, hq⟩ := hat i hi
  simp only [hq, Option.map_some, Option.getD_some] at C2
  have hle := Zcn (ps.map fun q => q.2.1.1.length + q.2.2.1.length) i
  rw [show (ps.map fun q => q.2.1.1.length + q.2.2.1.length).getD i 0 = q.2.1.1.length + q.2.2.1.length by rw [List.getD_eq_getElem?_getD, List.getElem?_map, hq]; rfl] at hle
  have hle : q.2.1.1.length + q.2.2.1.length ≤ 100000 := Nat.le_trans hle hb
  refine Zbk ?_
  refine C2.gn W2 G (x := "EMPTYSTRING") (v := .str (ofString "") 327) (by walk_at "M") (by unfold Env.kindOf; rw [hsc]; kernel_rfl) ?_
  refine Zbt "str" "str.join" PySem.F.plainAttrs_str PySem.F.slot_str_join PySem.F.type_str_join (typeIs_str _ _ _) (fun _ x => by cases x) (callWith_method1 ?_)
  refine Za ?_
  refine Tuple_ ?_
  refine Za ?_
  refine C2.name (x := "fws") M0 ?_
  refine Za ?_
  refine C2.name (x := "part") M1 ?_
  refine spliced_none ?_
  refine wpAny_newTuple ?_ (by simp [sizeLine_eq])
  refine spliced_none ?_
  refine join_tuple (ys := [mkS q.2.1.1, mkS q.2.2.1]) ⟨_, Heap.get?_push_size _ rfl, rfl, _, rfl⟩ (.cons _ _ (.cons _ _ .nil)) ?_ (fun t' k => ?_)
  ·simp [Zv]
   have : (ofString "").length = 0 := by decide
   exact kA ‹_› rfl
  ·have e : Txt.join (ofString "") [mkS q.2.1.1, mkS q.2.2.1] = mkS (q.2.1.1 ++ q.2.2.1) := by
    have := Zgc [] [q.2.1.1, q.2.2.1]
    rw [Zoa] at this
    rw [show ofString "" = mkS [] from rfl]
    simpa using this
   rw [e]
   exact ⟨⟨q, _, hq, rfl⟩, _, k, rfl, fun _ _ e => Zd _ _ e⟩
 ·intro a s' fp wr G' St C' WS hst hfp ha hty hmv
  refine spliced_none ?_
  have WS1 : WalksS prog w (A.deeper env).in1.in1 a fp wr G' (ps.map fun q => Value.ref q.1).length _ St := WS.of_in1.of_in1
  refine SC.joinGen WS1 hty hst hfp ha (fun i v ⟨q, t, _, e⟩ => ⟨_, _, e⟩) (fun s'' l hm hl => ?_) (by rw [List.length_map, sizeLine_eq]; exact kA ‹_› rfl)
  have hlen : l.length = ps.length := by
   have := hl.1
   simpa [strValues] using this
  have hl2 : l.map (·.1) = (ps.map fun q => q.2.1.1 ++ q.2.2.1).map mkS := by
   apply List.ext_getElem?
   intro j
   rw [List.getElem?_map, List.getElem?_map, List.getElem?_map]
   by_cases hj : j < l.length
   ·have e := hl.2 j (.str (l[j]).1 (l[j]).2) (by simp [strValues, hj])
    refine Z9 e fun q u e1 e2 => ?_
    simp only [Value.str.injEq] at e2
    rw [List.getElem?_eq_getElem hj, e1]
    simp [e2.1]
   ·rw [List.getElem?_eq_none (Nat.le_of_not_lt hj), List.getElem?_eq_none (by lia)]; rfl
  rw [hl2]
  have hsum : (((ps.map fun q => q.2.1.1 ++ q.2.2.1).map mkS).map (·.length)).sum = Z2 ps := by
   unfold Z2
   rw [List.map_map, List.map_map]
   congr 1
   apply List.map_congr_left
   intro q _
   show (mkS _).length = _
   rw [Zv, List.length_append]
  refine ⟨joinOk_of ?_, fun t' k => ?_⟩
  ·rw [hsum]
   have : (ofString "").length = 0 := by decide
   rw [this]
   exact kA ‹_› rfl
  ·have e : Txt.join (ofString "") ((ps.map fun q => q.2.1.1 ++ q.2.2.1).map mkS) = mkS (Zav ps) := by
    have := Zgc [] (ps.map fun q => q.2.1.1 ++ q.2.2.1)
    rw [Zoa, ← List.flatMap_def] at this
    exact this
   rw [e]
   exact h _ _ ((hmv s'' hm).tok (tk := k)).ext
variable {ps : List Za7}
structure Acu (w : World) (h : Heap) (x dx : Addr) (ps : List Za7) : Prop where
 hx : ∃ us n, h.get? x = some (Zh 248 dx us n) ∧ Zb6 h us ps
 hd : ∃ t t', h.get? dx = some (Zay w t t')
 x3 : 316 ≤ x
 d3 : 316 ≤ dx
 ne : dx ≠ x
theorem Zb6.ext {s s' : Shared} (e : Ext [] [] s s') (h : Zb6 s.heap us ps) : Zb6 s'.heap us ps := ⟨h.1, fun q hq => ⟨(h.2 q hq).1, e.get (h.2 q hq).1 (h.2 q hq).2⟩⟩
theorem Acu.ext {s s' : Shared} (e : Ext [] [] s s') (h : Acu w s.heap x dx ps) : Acu w s'.heap x dx ps :=
 ⟨Z9 h.hx fun us n a b => ⟨us, n, e.get h.x3 a, b.ext e⟩, Zcv h.hd fun t t' a => ⟨t, t', e.get h.d3 a⟩, h.x3, h.d3, h.ne⟩
theorem Znt (X' : K.In s.heap) (T : KA prog K cd) (N : KM prog K) (H : Acu w s.heap x dx ps) {Q : Value → Shared → Prop}
  (h : wpAny (model prog w) A (call (.ref 215) [.ref x]) (fun r s' => match r with | .int n _ => (0 ≤ n ∧ n < 2 ^ 63) ∧ Q (.int n s'.toks) { s' with toks := s'.toks + 1 } | _ => False) E s) :
  wpAny (model prog w) A (Builtin.«len» ⟨[.ref x], []⟩) (fun fin s' => ∃ v, fin = .done (.ret v) ∧ Q v s') E s := by
 refine Z9 H.hx fun us n hx _ => ?_
 refine Zcv H.hd fun t t' hd => ?_
 have I := Zc7 hx hd
 refine Zae (Zbg N (q := ("__len__", 215)) (by walk_at "M")) fun m1 m2 m3 => ?_
 unfold Builtin.«len»
 refine wpAny_bind (m := oneArg "len" _) (wpAny_pure ?_)
 refine wpAny_bind (m := callSpecial? (.ref x) (ofString "__len__")) (special_fn X' I m1 m2 (wpAny_mono h (fun r s' hr => ?_) fun _ _ y => y))
 cases r <;> first | exact hr.elim | skip
 rename_i n u
 obtain ⟨⟨h0, h1⟩, hq⟩ := hr
 refine wpAny_bind (wpAny_holding (wpAny_pure ?_))
 refine wpAny_bind (wpAny_letGo ?_)
 show wpAny _ _ (if n < 0 then _ else _) _ _ _
 rw [if_neg (by lia)]
 show wpAny _ _ (if n ≥ 2 ^ 63 then _ else _) _ _ _
 rw [if_neg (by lia)]
 exact wpAny_bind (wpAny_mkInt (wpAny_pure ⟨_, rfl, hq⟩))
theorem Loc.lenAcc (C : Loc env s₀ X vs l s) (W : Wd K s₀.heap) (G : KG K) (R : Zk A 8) (T : KA prog K cd) (N : KM prog K) (H : Acu w s.heap x dx ps) (hb : Z2 ps ≤ 100000) {Q : Value → Shared → Prop}
  (h : ∀ u s', Ext [] [] s s' → Loc env s₀ X vs l s' → Q (.int (Z2 ps : Nat) u) s') : wpAny (model prog w) A (call (.builtin "len") [.ref x]) Q E s := by
 refine Calls.call_function_entry kind_len plain_len entry_len (args_len1 _) ?_
 refine Z9 H.hx fun us n hx hp => ?_
 refine Zcv H.hd fun t t' hd => ?_
 refine Znt (W.ext C.ext).k T N H (Zjb (W.ext C.ext) G R.in1.le T N hx H.x3 hd H.d3 hp hb fun u s' e => ⟨by constructor <;> lia, ?_⟩)
 have e2 : Ext [] [] s { s' with toks := s'.toks + 1 } := e.trans Ext.tok
 exact h _ _ e2 (C.pure e2)
theorem Loc.truthAcc (C : Loc env s₀ X vs l s) (W : Wd K s₀.heap) (G : KG K) (R : Zk A 8) (T : KA prog K cd) (N : KM prog K) (H : Acu w s.heap x dx ps) (hb : Z2 ps ≤ 100000) {Q : Bool → Shared → Prop}
  (h : ∀ s', Ext [] [] s s' → Loc env s₀ X vs l s' → Q (Z2 ps != 0) s') : wpAny (model prog w) A (truthy (.ref x)) Q E s := by
 refine Z9 H.hx fun us n hx hp => ?_
 refine Zcv H.hd fun t t' hd => ?_
 have I := Zc7 hx hd
 have X' := (W.ext C.ext).k
 refine Zae (Zbg N (q := ("__len__", 215)) (by walk_at "M")) fun m1 m2 m3 => ?_
 unfold truthy
 refine wpAny_bind (m := callSpecial? (.ref x) (ofString "__bool__")) (wpAny_bind (wpAny_bind (I.type.here ((looks_findIn X' N.bo).here (wpAny_pure ?_)))))
 refine wpAny_bind (wpAny_bind (I.type.here ((looks_findIn X' m1).here ?_)))
 show wpAny _ _ (runValue _ >>= _) _ _ _
 refine wpAny_bind (wpAny_runValue (codeAny_builtin entry_len ?_))
 rw [Around.under_plainId plain_len _]
 refine wpAny_mono (Znt (Q := fun v s' => ∃ u, v = .int (Z2 ps : Nat) u ∧ Ext [] [] s s') X' T N H (Zjb (W.ext C.ext) G R.in1.le T N hx H.x3 hd H.d3 hp hb fun u s' e => ⟨by constructor <;> lia, _, rfl, e.trans Ext.tok⟩)) (fun fin s' hf => ?_) fun _ _ z => z
 obtain ⟨v, rfl, u, rfl, e⟩ := hf
 refine wpAny_pure ?_
 have := h s' e (C.pure e)
 have hc : ((Z2 ps : Nat) : Int) != 0 ↔ Z2 ps != 0 := by simp
 have hc : (((Z2 ps : Nat) : Int) != 0) = (Z2 ps != 0) := by
  rw [Bool.eq_iff_iff]; exact hc
 rw [hc]
 exact this
theorem Loc.strAcc (C : Loc env s₀ X vs l s) (W : Wd K s₀.heap) (G : KG K) (R : Zk A 9) (T : KA prog K cd) (N : KM prog K) (H : Acu w s.heap x dx ps) (hb : Z2 ps ≤ 100000) (hn : ps.length ≤ 100) {Q : Value → Shared → Prop}
  (h : ∀ u s', Ext [] [] s s' → Loc env s₀ X vs l s' → Q (.str (mkS (Zav ps)) u) s') : wpAny (model prog w) A (call (.type "str") [.ref x]) Q E s := by
 refine Z9 H.hx fun us n hx hp => ?_
 refine Zcv H.hd fun t t' hd => ?_
 refine Zae (Zbg N (q := ("__str__", 222)) (by walk_at "M")) fun m1 m2 m3 => ?_
 have R2 : Zk A.in1.in1 7 := R.in1.in1
 refine kso_call R2.ul (W.ext C.ext).k (Zc7 hx hd) m1 (beq_iff_eq.mpr m2) ?_
 exact Zop (W.ext C.ext) G R2.le T N hx H.x3 hp hb hn fun u s' e => h _ _ e (C.pure e)
theorem Zi3 {L : List Nat} (h : ∃ c ∈ L, Unicode.isSpace c = false) : Txt.isspace (mkS L) = false := by
 refine Zo h fun c hc e => ?_
 unfold Txt.isspace
 rw [Bool.and_eq_false_iff]
 right
 rw [Bool.eq_false_iff]
 intro q
 rw [← Array.all_toList, List.all_eq_true] at q
 have : c ∈ (mkS L).cps.toList := by simpa [mkS] using hc
 rw [q c this] at e
 cases e
theorem Zi0 (W : Wd K s.heap) (G : KG K) (R : Zk A 12) (T : KA prog K cd) (N : KM prog K) (H : Acu w s.heap x dx ps) (hb : Z2 ps ≤ 100000) (hn : ps.length ≤ 100) (h0 : Z2 ps ≠ 0) (hs : ∃ c ∈ Zav ps, Unicode.isSpace c = false) {Q : Value → Shared → Prop}
  (h : ∀ s', Ext [] [] s s' → Q (.bool false) s') : wpAny (model prog w) A (call (.ref 237) [.ref x]) Q E s := by
 refine Zw W R N.f237 [("self", .ref x)] (fun _ _ _ _ _ => BindsTo.of_eq rfl) fun env s₁ hE hO hc C => ?_
 have RD := R.deeper (env := env) (n := 11)
 refine Zq ?_
 refine xcr ?_
 refine BoolOp_and ?_
 refine wpAny_Compare1 ?_
 refine Zaq ?_
 walk_at "N"
 refine Z9 H.hx fun us n hx hp => ?_
 refine Zcv H.hd fun t t' hd => ?_
 refine C.getAL W T (C.ext.get H.x3 hx) (C.ext.get H.d3 hd) N.isf rfl rfl ?_; clear C; intro s C
 refine C.cint ?_; clear C; intro s t C
 refine eq_int (wpAny_truthy_bool ?_)
 refine ifP (by decide) ?_
 refine BoolOp_one ?_
 refine BoolOp_or ?_
 refine xun ?_
 walk_at "N"
 refine not_of ?_
 refine C.truthAcc W G RD.le T N (H.ext C.ext) hb ?_; clear C; intro s e C
 rw [show (Z2 ps != 0) = true by simpa using h0]
 refine wpAny_truthy_bool ?_
 refine ifN (by decide) ?_
 refine BoolOp_one ?_
 refine Zbk ?_
 refine Zf ?_
 walk_at "B"
 refine xt1 ?_
 refine Za ?_
 walk_at "N"
 refine spliced_none ?_
 refine C.strAcc W G RD.le T N (H.ext C.ext) hb hn ?_; clear C; intro u s e C
 refine PySem.SB.isspace ?_
 rw [Zi3 hs]
 exact h _ C.ext
theorem Zln {h : Heap} {a x : Addr} {us vs : List Value} {C dx : Addr} {n : Nat} (h1 : h.get? a = some (Zaw vs)) (h2 : h.get? x = some (Zh C dx us n)) : a ≠ x := by
 rintro rfl
 rw [h1] at h2
 cases h2
theorem Zi4 {h : Heap} {a x : Addr} {us : List Value} {es : List DictEntry} {n : Nat} (h1 : h.get? a = some (Zaw us)) (h2 : h.get? x = some (Zeo es n)) : a ≠ x := by
 rintro rfl
 rw [h1] at h2
 have := congrArg Obj.cls (Option.some.inj h2)
 simp at this
theorem Zb6.keep {h h' : Heap} (H : Zb6 h us ps) (k : ∀ q ∈ ps, ∀ o, h.get? q.1 = some o → h'.get? q.1 = some o) : Zb6 h' us ps := ⟨H.1, fun q hq => ⟨(H.2 q hq).1, k q hq _ (H.2 q hq).2⟩⟩
theorem Ext.keepX {Y : List Addr} (e : Ext Y [] s s') {a : Addr} {o : Obj} (hY : a ∉ Y) (h3 : 316 ≤ a) (h : s.heap.get? a = some o) : s'.heap.get? a = some o :=
 e.keep _ _ hY (fun ht => absurd h3 (Nat.not_le.mpr (Zz _ ht))) h
theorem Acu.notin (H : Acu w s.heap x dx ps) : ∀ q ∈ ps, q.1 ≠ x ∧ q.1 ≠ dx := fun q hq => by
 refine Z9 H.hx fun us n hx hp => ?_
 refine Zcv H.hd fun t t' hd => ?_
 exact ⟨Zln (hp.2 q hq).2 hx, Zi4 (hp.2 q hq).2 hd⟩
theorem Acu.keepX {Y : List Addr} (e : Ext Y [] s s') (H : Acu w s.heap x dx ps) (h1 : x ∉ Y) (h2 : dx ∉ Y) (h3 : ∀ q ∈ ps, q.1 ∉ Y) : Acu w s'.heap x dx ps :=
 ⟨Z9 H.hx fun us n a b => ⟨us, n, e.keepX h1 H.x3 a, b.keep fun q hq o ho => e.keepX (h3 q hq) (b.2 q hq).1 ho⟩, Zcv H.hd fun t t' a => ⟨t, t', e.keepX h2 H.d3 a⟩, H.x3, H.d3, H.ne⟩
theorem Zrf (W : Wd K s.heap) (R : Zk A 2) (T : KA prog K cd) (N : KM prog K) {f p : List Nat} {tf tp : Tok} {Q : Value → Shared → Prop} (H : Acu w s.heap x dx ps) (hn : ps.length ≤ 100)
  (h : ∀ q s', s.heap.get? q = none → Ext [x] [] s s' → Acu w s'.heap x dx (ps ++ [(q, (f, tf), (p, tp))]) → Q .none s') : wpAny (model prog w) A (call (.ref 192) [.ref x, .str (mkS f) tf, .str (mkS p) tp]) Q E s := by
 refine Z9 H.hx fun us n hx hp => ?_
 refine Zcv H.hd fun t t' hd => ?_
 have hl : us.length ≤ 100 := by rw [hp.1, List.length_map]; exact hn
 refine Zhz W R T N hx H.x3 hd H.d3 H.ne hl fun q n' s' h0 h3 e g1 g2 => ?_
 have hq := H.notin
 refine h q s' h0 e ⟨⟨_, n', g2, ?_, ?_⟩, ⟨t, t', e.at1 H.ne H.d3 hd⟩, H.x3, H.d3, H.ne⟩
 ·rw [hp.1, List.map_append]; rfl
 ·intro r hr
  rcases List.mem_append.mp hr with hr | hr
  ·exact ⟨(hp.2 r hr).1, e.at1 (hq r hr).1 (hp.2 r hr).1 (hp.2 r hr).2⟩
  ·rw [List.mem_singleton.mp hr]; exact ⟨h3, g1⟩
theorem Znv (W : Wd K s.heap) (G : KG K) (R : Zk A 2) (T : KA prog K cd) (N : KM prog K) {args : List Value} {sv : Value} {rs : List Za7} {Q : Value → Shared → Prop} (H : Acu w s.heap x dx ps) (hn : ps.length ≤ 100) (hm : rs.length ≤ 100) (ha : args = [.ref x] ∧ sv = .none ∨ args = [.ref x, sv])
  (hsv : sv = .none ∧ rs = [] ∨ ∃ D, sv = .ref D ∧ s.heap.get? D = some (Zu (rs.map fun q => .ref q.1)) ∧ 316 ≤ D)
  (hr : ∀ q ∈ rs, 316 ≤ q.1 ∧ s.heap.get? q.1 = some (Zaw [.str (mkS q.2.1.1) q.2.1.2, .str (mkS q.2.2.1) q.2.2.2]))
  (h : ∀ s', Ext [dx, x] [] s s' → Acu w s'.heap x dx rs → Q .none s') : wpAny (model prog w) A (call (.ref 230) args) Q E s := by
 refine Z9 H.hx fun us n hx hp => ?_
 refine Zcv H.hd fun t t' hd => ?_
 have hl : us.length ≤ 100 := by rw [hp.1, List.length_map]; exact hn
 refine Zka W G R T N (ws := rs.map fun q => Value.ref q.1) ha ?_ hx H.x3 hd H.d3 H.ne hl (by rw [List.length_map]; exact hm) fun ta tb n' s' e g1 g2 => ?_
 ·rcases hsv with ⟨h1, rfl⟩ | ⟨D, h1, h2, h3⟩
  ·exact .inl ⟨h1, rfl⟩
  ·refine .inr ⟨D, h1, (Zm _).at h2, ?_, h3, ?_⟩
   ·rintro rfl; rw [h2] at hx; cases hx
   ·rintro rfl; rw [h2] at hd; have := congrArg Obj.cls (Option.some.inj hd); simp at this
 ·refine h s' e ⟨⟨_, n', g2, rfl, fun q hq => ⟨(hr q hq).1, e.keepX ?_ (hr q hq).1 (hr q hq).2⟩⟩, ⟨ta, tb, g1⟩, H.x3, H.d3, H.ne⟩
  have n1 := Zln (hr q hq).2 hx
  have n2 := Zi4 (hr q hq).2 hd
  simp [n1, n2]
structure KF (K : Frag) (cd : ClassData) : Prop where
 ci : Zq0 K 164 cd
 mks : makesIn K 164 = true
 i : findIn K (.ref 164) "__init__" = some (some (.ref 105))
 ty : typeIn K (.ref 105) = some (.type "function")
 kp : keepIn K (.ref 164) = true
 m : ∀ q ∈ Ze9, findIn K (.ref 164) (ofString q.1) = some (some (.ref q.2)) ∧ typeIn K (.ref q.2) = some (.type "function") ∧ keepIn K (.ref q.2) = true
 a : ∀ q ∈ Zdl, takerIn K 164 (ofString q) = some none ∧ findIn K (.ref 164) (ofString q) = some none
 f105 : FnK K 105 (ofString "__init__") (ofString "_ValueFormatter.__init__") (Z8 15 0) [] .none 104
 f112 : FnK K 112 (ofString "_str") (ofString "_ValueFormatter._str") (Z8 15 1) [] .none 111
 f126 : FnK K 126 (ofString "newline") (ofString "_ValueFormatter.newline") (Z8 15 3) [] .none 125
 f133 : FnK K 133 (ofString "add_transition") (ofString "_ValueFormatter.add_transition") (Z8 15 4) [] .none 132
 f161 : FnK K 161 (ofString "_append_chunk") (ofString "_ValueFormatter._append_chunk") (Z8 15 8) [] .none 160
noncomputable abbrev Zh2 (w : World) (k : Nat → Tok) (ml : Int) (Ls x : Addr) : Obj := Zeo [ent w "_maxlen" (k 1) (.int ml (k 11)), ent w "_continuation_ws" (k 2) (.str (mkS [32]) (k 12)), ent w "_continuation_ws_len" (k 3) (.int 1 (k 13)),
 ent w "_splitchars" (k 4) (.str (mkS [32]) (k 14)), ent w "_lines" (k 5) (.ref Ls), ent w "_current_line" (k 6) (.ref x)] 6
variable {cdF : ClassData} {dF : Addr}
theorem Loc.learn (C : Loc env s₀ X vs l s) {a : Addr} {o : Obj} (e : s.heap.get? a = some o) (own : (a ∈ X ∨ s₀.heap.get? a = none) ∧ 316 ≤ a) (off : a ≠ env.locals ∧ ∀ x, env.cells.lookup x ≠ some a) (hn : a ∉ l.map (·.1)) (hf : ∀ fd, o.data ≠ .func fd) : Loc env s₀ X vs ((a, o) :: l) s := by
 refine ⟨C.ext, C.fr, C.bd, fun p hp => ?_, fun p hp => ?_, fun p hp => ?_, ?_, fun p hp fd q => ?_⟩
 ·rcases List.mem_cons.mp hp with rfl | hp
  ·exact e
  ·exact C.led p hp
 ·rcases List.mem_cons.mp hp with rfl | hp
  ·exact own
  ·exact C.own p hp
 ·rcases List.mem_cons.mp hp with rfl | hp
  ·exact off
  ·exact C.off p hp
 ·rw [List.map_cons, List.nodup_cons]; exact ⟨hn, C.nd⟩
 ·rcases List.mem_cons.mp hp with rfl | hp
  ·exact absurd q (hf fd)
  ·exact C.fc p hp fd q
theorem Loc.makeL (C : Loc env s₀ X vs l s) (W : Wd K s₀.heap) (G : KG K) {m : Nat} (R : Zk A (m + 3)) (T : KA prog K cd) (N : KM prog K) {t : Tok} {Q : Value → Shared → Prop}
  (h : ∀ x dx n' ta s', s.heap.get? x = none → s.heap.get? dx = none → Loc env s₀ X vs ((x, Zh 248 dx [] n') :: (dx, Zay w ta t) :: l) s' → Q (.ref x) s') : wpAny (model prog w) A (call (.ref 248) [.int 0 t]) Q E s := by
 have X' := (W.ext C.ext).k
 refine Zae (Zbg N (q := ("__init__", 185)) (by walk_at "M")) fun m1 m2 m3 => ?_
 refine wpAny_call ?_
 obtain ⟨hh, g, d, tk, os⟩ := s
 have e1 : Ext [] [] (⟨hh, g, d, tk, os⟩ : Shared) ⟨hh.push emptyDict, g, d, tk, os⟩ := C.extK (tk := tk) Zd
 have C1 := C.add e1 Zc C.big (Heap.get?_push_size _ rfl)
 have e2 : Ext [] [] (⟨hh.push emptyDict, g, d, tk, os⟩ : Shared) ⟨(hh.push emptyDict).push (Zh 248 hh.objs.size [] 0), g, d, tk, os⟩ := C1.extK (tk := tk) Zd
 have C2 := C1.add e2 Zc C1.big (Heap.get?_push_size _ rfl)
 refine Zk5 (Zmn X' T.mks) (looks_findIn X' T.ini) (fun self => bind_fn X' self m2) ?_
 rw [Heap.size_push] at C2
 have hx2 := C2.led _ M0
 have hd2 := C2.led _ M1
 have ox := C2.own _ M0
 have od := C2.own _ M1
 have fx := C2.off _ M0
 have fd := C2.off _ M1
 have hnd := C2.nd
 simp only [List.map_cons, List.nodup_cons, List.mem_cons, not_or] at hnd
 refine Zoh (W.ext C2.ext) G (Zk.under (n := 2) (R.le (by first | decide | exact Nat.le_add_left (2 + 1) m))) T N hx2 ox.2 hd2 od.2 (by simp) fun ta n' s' e g1 g2 => ⟨rfl, ?_⟩
 have hsx : hh.get? (hh.objs.size + 1) = none := Heap.get?_none_of_le (Nat.le_succ _)
 have hsd : hh.get? hh.objs.size = none := Zc
 have C3 := (C2.sub ((List.sublist_cons_self _ _).trans (List.sublist_cons_self _ _))).step e (fun p hp => by
  rcases List.mem_cons.mp hp with rfl | hp
  ·exact ⟨od.1, fd.1, fd.2, hnd.2.1⟩
  ·rw [List.mem_singleton.mp hp]; exact ⟨ox.1, fx.1, fx.2, hnd.1.2⟩) (fun _ q => nomatch q)
 have C4 := C3.learn g1 od fd hnd.2.1 (fun _ q => by cases q)
 have C5 := C4.learn g2 ox fx (by
  rw [List.map_cons, List.mem_cons, not_or]
  exact ⟨hnd.1.1, hnd.1.2⟩) (fun _ q => by cases q)
 exact h _ _ _ _ s' hsx hsd C5
noncomputable def Zr5 (k1 k2 k3 k4 k5 k6 t2 t3 t5 t4 : Tok) (i : Nat) : Tok := if i = 1 then k1 else if i = 2 then k2 else if i = 3 then k3 else if i = 4 then k4 else if i = 5 then k5 else if i = 6 then k6 else if i = 11 then t2 else if i = 12 then t3 else if i = 13 then t5 else t4
structure Fmt (w : World) (h : Heap) (f dF Ls x dx : Addr) (ml : Int) (lines : List (List Nat)) (ps : List Za7) : Prop where
 hf : h.get? f = some (instObj 164 dF)
 hd : ∃ k, h.get? dF = some (Zh2 w k ml Ls x)
 hl : ∃ o us, h.get? Ls = some o ∧ Zce o us ∧ StrsAre us (lines.map mkS)
 ac : Acu w h x dx ps
 f3 : 316 ≤ f
 d3 : 316 ≤ dF
 l3 : 316 ≤ Ls
 nd : [f, dF, Ls, x, dx].Nodup
theorem Zoe {σ : Shared} (W : Wd K σ.heap) (G : KG K) {m : Nat} (R : Zk A (m + 5)) (T : KA prog K cd) (N : KM prog K) (Y : KF K cdF) {ml : Int} {t1 t2 t3 t4 : Tok} {RR : Result → Shared → Prop} (hf3 : 316 ≤ f) (hd3 : 316 ≤ dF) (hne : f ≠ dF) (hf : σ.heap.get? f = some (instObj 164 dF)) (hd : σ.heap.get? dF = some emptyDict)
  (h : ∀ Ls x dx s', σ.heap.get? Ls = none → σ.heap.get? x = none → σ.heap.get? dx = none → Ext [dF] [] σ s' → Fmt w s'.heap f dF Ls x dx ml [] [] → RR (.ok (.ret .none)) s') :
  codeAny (model prog w) A (.call (.ref 105) ⟨[.ref f, .int 0 t1, .int ml t2, .str (mkS [32]) t3, .str (mkS [32]) t4], []⟩) RR σ := by
 refine Zie W R Y.f105 [("self", .ref f), ("headerlen", .int 0 t1), ("maxlen", .int ml t2), ("continuation_ws", .str (mkS [32]) t3), ("splitchars", .str (mkS [32]) t4)] (fun _ _ _ _ _ => BindsTo.of_eq rfl) fun env s₁ hE hO hc C => ?_
 have RD := R.deeper (env := env) (n := m + 4)
 replace C := C.take hO hd hd3 (fun _ q => by cases q) (fun _ q => by cases q)
 have hfk : ∀ {s'}, Ext [dF] [] σ s' → s'.heap.get? f = some (instObj 164 dF) := fun {s'} e => e.at1 hne hf3 hf
 have at1 := fun q hq => (Y.a q hq).1
 have CC := Y.ci.toClsS
 refine Zq ?_
 refine Zi ?_
 refine plainObj_wpAny_Assign_Attribute ?_ (by rfl)
 walk_at "N"
 walk_at "N"
 refine C.setA W (L' := fun o' => [(dF, o')]) (fun o' => J0) (hfk C.ext) rfl rfl rfl CC (at1 _ (by walk_at "M")) (od' := fun k1 => Zeo [ent w "_maxlen" k1 (.int ml t2)] 1) rfl (fun t => rfl) (fun t => ⟨_, _, rfl, by simp⟩) ?_; clear C; intro k1 s C
 refine Zi ?_
 refine plainObj_wpAny_Assign_Attribute ?_ (by rfl)
 walk_at "N"
 walk_at "N"
 refine C.setA W (L' := fun o' => [(dF, o')]) (fun o' => J0) (hfk C.ext) rfl rfl rfl CC (at1 _ (by walk_at "M")) (od' := fun k2 => Zeo [ent w "_maxlen" k1 (.int ml t2), ent w "_continuation_ws" k2 (.str (mkS [32]) t3)] 2) rfl (fun t => rfl) (fun t => ⟨_, _, rfl, by simp⟩) ?_; clear C; intro k2 s C
 refine Zi ?_
 refine plainObj_wpAny_Assign_Attribute ?_ (by rfl)
 refine Zf ?_
 walk_at "B"
 refine xb1 ?_
 refine Za ?_
 walk_at "N"
 refine spliced_none ?_
 refine C.lenS (T := [32]) (by decide) ?_; clear C; intro s t5 C
 walk_at "N"
 refine C.setA W (L' := fun o' => [(dF, o')]) (fun o' => J0) (hfk C.ext) rfl rfl rfl CC (at1 _ (by walk_at "M")) (od' := fun k3 => Zeo [ent w "_maxlen" k1 (.int ml t2), ent w "_continuation_ws" k2 (.str (mkS [32]) t3), ent w "_continuation_ws_len" k3 (.int 1 t5)] 3) rfl (fun t => rfl) (fun t => ⟨_, _, rfl, by simp⟩) ?_; clear C; intro k3 s C
 refine Zi ?_
 refine plainObj_wpAny_Assign_Attribute ?_ (by rfl)
 walk_at "N"
 walk_at "N"
 refine C.setA W (L' := fun o' => [(dF, o')]) (fun o' => J0) (hfk C.ext) rfl rfl rfl CC (at1 _ (by walk_at "M")) (od' := fun k4 => Zeo [ent w "_maxlen" k1 (.int ml t2), ent w "_continuation_ws" k2 (.str (mkS [32]) t3), ent w "_continuation_ws_len" k3 (.int 1 t5), ent w "_splitchars" k4 (.str (mkS [32]) t4)] 4) rfl (fun t => rfl) (fun t => ⟨_, _, rfl, by simp⟩) ?_; clear C; intro k4 s C
 refine Zi ?_
 refine plainObj_wpAny_Assign_Attribute ?_ (by rfl)
 refine List_ ?_
 refine spliced_none ?_
 refine C.lst (by simp [sizeLine_eq]) ?_; clear C; intro Ls s C
 walk_at "N"
 refine C.setA W (L' := fun o' => [(Ls, Zu []), (dF, o')]) (fun o' => J1) (hfk C.ext) rfl rfl rfl CC (at1 _ (by walk_at "M")) (od' := fun k5 => Zeo [ent w "_maxlen" k1 (.int ml t2), ent w "_continuation_ws" k2 (.str (mkS [32]) t3), ent w "_continuation_ws_len" k3 (.int 1 t5), ent w "_splitchars" k4 (.str (mkS [32]) t4), ent w "_lines" k5 (.ref Ls)] 5) rfl (fun t => rfl) (fun t => ⟨_, _, rfl, by simp⟩) ?_; clear C; intro k5 s C
 refine Zi ?_
 refine plainObj_wpAny_Assign_Attribute ?_ (by rfl)
 refine Zf ?_
 walk_at "G"
 refine callWith_K (W.ext C.ext).k N.kp ?_
 refine Za ?_
 walk_at "N"
 refine spliced_none ?_
 refine ⟨(W.ext C.ext).k, ?_⟩
 have hfn := (hfk C.ext)
 refine C.makeL (m := m) W G (RD.le (by first | decide | exact Nat.le_of_lt Nat.le.refl)) T N ?_; clear C; intro x dx n' ta s hx0 hdx0 C
 walk_at "N"
 refine C.setA W (L' := fun o' => [(x, Zh 248 dx [] n'), (dx, Zay w ta t1), (Ls, Zu []), (dF, o')]) (fun o' => J3) (hfk C.ext) rfl rfl rfl CC (at1 _ (by walk_at "M"))
  (od' := fun k6 => Zh2 w (Zr5 k1 k2 k3 k4 k5 k6 t2 t3 t5 t4) ml Ls x) rfl (fun t => rfl) (fun t => ⟨_, _, rfl, by simp⟩) fun k6 s C => ?_
 refine wpAny_execs_nil ?_
 have nd := C.nd
 simp only [List.map_cons, List.map_nil, List.nodup_cons, List.mem_cons, List.not_mem_nil, or_false, not_or] at nd
 have ox := C.own _ M0
 have od := C.own _ M1
 have ol := C.own _ M2
 have nf : ∀ {a : Addr}, (a ∈ [dF] ∨ σ.heap.get? a = none) → a ≠ dF → σ.heap.get? a = none := fun h n => h.resolve_left fun q => n (List.mem_singleton.mp q)
 have nx := nf ox.1 (fun q => nd.1.2.2 q)
 have ndx := nf od.1 (fun q => nd.2.1.2 q)
 have nl := nf ol.1 (fun q => nd.2.2.1 q)
 have fne : ∀ {a : Addr}, σ.heap.get? a = none → f ≠ a := fun e q => by rw [← q, hf] at e; cases e
 refine h Ls x dx s nl nx ndx C.ext ⟨hfk C.ext, ⟨Zr5 k1 k2 k3 k4 k5 k6 t2 t3 t5 t4, C.led (dF, _) M3⟩, ⟨Zu [], [], C.led (Ls, _) M2, Zc2 [], .nil⟩,
  ⟨⟨[], n', C.led (x, _) M0, rfl, fun _ q => nomatch q⟩, ⟨ta, t1, C.led (dx, _) M1⟩, ox.2, od.2, fun q => nd.1.1 q.symm⟩, hf3, hd3, ol.2, ?_⟩
 simp only [List.nodup_cons, List.mem_cons, List.not_mem_nil, or_false, not_or, not_false_eq_true, List.nodup_nil, and_true]
 exact ⟨⟨hne, fne nl, fne nx, fne ndx⟩, ⟨fun q => nd.2.2.1 q.symm, fun q => nd.1.2.2 q.symm, fun q => nd.2.1.2 q.symm⟩, ⟨fun q => nd.1.2.1 q.symm, fun q => nd.2.1.1 q.symm⟩, nd.1.1⟩
variable {Ls : Addr} {ml : Int} {lines : List (List Nat)}
theorem Loc.learnNew (C : Loc env s₀ X vs l s) (C' : Loc env s₀ X vs l' s') (hl : ∀ q, q ∈ l'.map (·.1) → q ∈ l.map (·.1)) {a : Addr} {o : Obj} (hn : s.heap.get? a = none) (hX : ∀ p ∈ X, ∃ o, s.heap.get? p = some o) (h3 : 316 ≤ a) (e : s'.heap.get? a = some o) (hf : ∀ fd, o.data ≠ .func fd) : Loc env s₀ X vs ((a, o) :: l') s' := by
 have ne : ∀ {b o}, s.heap.get? b = some o → a ≠ b := fun q r => by rw [← r, hn] at q; cases q
 refine C'.learn e ⟨.inr (C.noneAt hn fun q => ?_), h3⟩ ⟨?_, fun y q => ?_⟩ (fun q => ?_) hf
 ·obtain ⟨o, e⟩ := hX a q
  rw [hn] at e; cases e
 ·refine Za4 C.fr.ns fun ρ o es ep e _ => ?_
  exact ne e
 ·refine Zcs (C.fr.cel y a q) fun _ v o e _ => ?_
  exact ne e rfl
 ·obtain ⟨p, hp, rfl⟩ := List.mem_map.mp (hl a q)
  exact ne (C.led p hp) rfl
theorem Loc.acu (C : Loc env s₀ X vs l s) (hx : (x, Zh 248 dx (ps.map fun q => Value.ref q.1) n) ∈ l) (hd : (dx, Zay w t t') ∈ l) (hne : dx ≠ x)
  (hp : ∀ q ∈ ps, 316 ≤ q.1 ∧ (s₀.heap.get? q.1 = some (Zaw [.str (mkS q.2.1.1) q.2.1.2, .str (mkS q.2.2.1) q.2.2.2]) ∧ q.1 ∉ X ∨ (q.1, Zaw [.str (mkS q.2.1.1) q.2.1.2, .str (mkS q.2.2.1) q.2.2.2]) ∈ l)) : Acu w s.heap x dx ps :=
 ⟨⟨_, n, C.led _ hx, rfl, fun q hq => ⟨(hp q hq).1, (hp q hq).2.elim (fun h => C.ext.keepX h.2 (hp q hq).1 h.1) fun h => C.led _ h⟩⟩, ⟨t, t', C.led _ hd⟩, (C.own _ hx).2, (C.own _ hd).2, hne⟩
theorem Loc.pyIterX (C : Loc env s₀ X vs l s) {r : Addr} {a b c : Int} {t u v : Tok} {Q : Value → Shared → Prop} (hX : ∀ p ∈ X, ∃ o, s₀.heap.get? p = some o) (hX2 : ∀ p ∈ X, ∃ o, s.heap.get? p = some o) (hr : IsRange s.heap r a b c t u v) (hs : Builtin.Range.small a b c = true) (n : Nat) (hn : Builtin.Range.rangeSize a b c = n)
  (h : ∀ I s', s₀.heap.get? I = none → Loc env s₀ X vs ((I, Zfh a n c) :: l) s' → Q (.ref I) s') : wpAny (model prog w) A (pyIter (.ref r)) Q E s := by
 refine wpAny_pyIter_range hr hs ?_
 rw [hn]
 have e : Ext [] [] s { s with heap := s.heap.push (Zfh a n c) } := C.extK (tk := s.toks) Zd
 refine h _ _ (C.noneAt Zc (fun q => ?_)) (C.add e Zc C.big (Heap.get?_push_size _ rfl))
 obtain ⟨o, e⟩ := hX2 _ q
 exact absurd (Heap.lt_size e) (Nat.lt_irrefl _)
theorem Zrv (hA : A.handled = none) (x : Str) (t : Tok) : Zdr prog w A x.cps.size (fun i o => o.cls = .type "str_ascii_iterator" ∧ o.data = .fields #[.str x t, .int i 0]) (fun i v => ∃ c u, x.cps[i]? = some c ∧ v = .str ⟨#[c]⟩ u) (fun _ => True) where
 item := fun i I s Q E hi ⟨o, e, h1, h2⟩ hs k => by
  refine wpAny_pyNext_ascii_item ⟨o, e, h1, h2⟩ (c := x.cps[i]) (by simp [hi]) fun h' hit hsb => k _ h' _ ⟨_, _, by simp [hi], rfl⟩ ?_ hsb
  refine Z1 hit fun o' a b c => ?_
  exact ⟨o', a, b, c⟩
 done := fun I s Q E ⟨o, e, h1, h2⟩ hs k => wpAny_pyNext_ascii_end hA ⟨o, e, h1, h2⟩ (by simp) fun h' hx => k h' s.toks hx
 nc := fun i o ⟨_, h2⟩ => by
  refine ⟨fun vs q t e => ?_, fun fd e => ?_⟩
  ·rw [h2] at e; cases e
   intro x; cases x
  ·rw [h2] at e; cases e
 self := fun i I s Q E ⟨o, e, h1, h2⟩ q => wpAny_pyIter_striter_ascii ⟨o, e, h1, h2⟩ q
theorem Loc.pyIterA (C : Loc env s₀ X vs l s) {y : Str} {t : Tok} {Q : Value → Shared → Prop} (hX2 : ∀ p ∈ X, ∃ o, s.heap.get? p = some o) (ha : y.cps.all (· < 128) = true)
  (h : ∀ I oI s', s₀.heap.get? I = none → oI.cls = .type "str_ascii_iterator" → oI.data = .fields #[.str y t, .int 0 0] → Loc env s₀ X vs ((I, oI) :: l) s' → Q (.ref I) s') : wpAny (model prog w) A (pyIter (.str y t)) Q E s := by
 refine wpAny_pyIter_ascii ha ?_
 have e : Ext [] [] s { s with heap := s.heap.push { cls := .type "str_ascii_iterator", data := .fields #[.str y t, .int 0 0] } } := C.extK (tk := s.toks) Zd
 refine h _ _ _ (C.noneAt Zc (fun q => ?_)) rfl rfl (C.add e Zc C.big (Heap.get?_push_size _ rfl))
 obtain ⟨o, e⟩ := hX2 _ q
 exact absurd (Heap.lt_size e) (Nat.lt_irrefl _)
theorem Loc.getF (C : Loc env s₀ X vs l s) (W : Wd K s₀.heap) (Y : KF K cdF) {k : Nat → Tok} {q : String} {v : Value} {Q : Value → Shared → Prop} (hf : s₀.heap.get? f = some (instObj 164 dF)) (hd : s₀.heap.get? dF = some (Zh2 w k ml Ls x)) (f3 : 316 ≤ f) (d3 : 316 ≤ dF) (nf : f ∉ X) (nd : dF ∉ X) (hq : q ∈ Zdl) (hl : lookIn (ofString q) (Zh2 w k ml Ls x) = some (some v)) (hh : handedIn v = true) {expr : Bool}
  (h : ∀ s', Loc env s₀ X vs l s' → Q v s') : wpAny (model prog w) A (getAttr (.ref f) (ofString q) expr) Q E s :=
 C.getA W (C.ext.keepX nf f3 hf) (C.ext.keepX nd d3 hd) rfl rfl rfl Y.ci (Y.a q hq).2 hl hh h
noncomputable abbrev oPd (P : Za7) : Obj := Zaw [.str (mkS P.2.1.1) P.2.1.2, .str (mkS P.2.2.1) P.2.2.2]
noncomputable abbrev oXd (dx : Addr) (ps : List Za7) (n : Nat) : Obj := Zh 248 dx (ps.map fun q => Value.ref q.1) n
noncomputable abbrev oLd (us : List Value) (n : Nat) : Obj := { cls := .type "list", data := .seq us.toArray n }
theorem Loc.truthS (C : Loc env s₀ X vs l s) {T : List Nat} {t : Tok} {Q : Bool → Shared → Prop} (hsz : T.length ≤ 1000000) (h : ∀ s', Loc env s₀ X vs l s' → Q (!decide (T = [])) s') : wpAny (model prog w) A (truthy (.str (mkS T) t)) Q E s := by
 refine PySem.P.truthy_str (by rw [Zv]; lia) ?_
 rw [Zv]
 have e : (((T.length : Nat) : Int) != 0) = !decide (T = []) := by cases T <;> simp <;> lia
 rw [e]
 exact h _ C.tok
theorem Loc.curAt (C : Loc env s₀ X vs l s) (W : Wd K s₀.heap) (Y : KF K cdF) (T : KA prog K cd) {k : Nat → Tok} (hf : s₀.heap.get? f = some (instObj 164 dF)) (hd : s₀.heap.get? dF = some (Zh2 w k ml Ls x)) (f3 : 316 ≤ f) (d3 : 316 ≤ dF) (nf : f ∉ X) (nd : dF ∉ X)
  (hself : ("self", .ref f) ∈ vs) (H : ∀ s, Loc env s₀ X vs l s → Acu w s.heap x dx ps) {j : Nat} {r : Za7} (hj : ps[j]? = some r) (hj2 : j < 1000) {e : Expr} {p1 p2 p3 p4 p5 : Pos} {kk c : Nat} {v : Value} {Q : Value → Shared → Prop}
  (he : ∀ s (Q' : Value → Shared → Prop), Loc env s₀ X vs l s → (∀ s' t, Loc env s₀ X vs l s' → Q' (.int (j : Nat) t) s') → wpAny (model prog w) A (eval e env) Q' E s)
  (hns : ∀ i, subscripted e false (.ref x) i = operate [.ref x, i] (getItem (.ref x) i))
  (hv : ([.str (mkS r.2.1.1) r.2.1.2, .str (mkS r.2.2.1) r.2.2.2] : List Value)[c]? = some v)
  (h : ∀ s', Loc env s₀ X vs l s' → Q v s') :
  wpAny (model prog w) A (eval (.Subscript (.Subscript (.Attribute (.Name (ofString "self") p1) (ofString "_current_line") p2) e p3) (.Constant (.int (c : Nat)) kk p4) p5) env) Q E s := by
 refine Zad ?_
 refine Zqg (K := K) (x := x) ?_
 refine Zaq ?_
 refine C.name (x := "self") hself ?_
 refine C.getF W Y hf hd f3 d3 nf nd (by walk_at "M") rfl rfl ?_; clear C; intro s C
 refine he s _ C fun s t C => ?_
 refine Z9 ((H s C).hx) fun us n hx hp => ?_
 refine ⟨_, dx, us, n, (W.ext C.ext).k, T.kl, rfl, hx, hns _, ?_⟩
 refine Zru (u := .ref r.1) (W.ext C.ext).k T.kl hx (Int.natCast_nonneg _) (by lia) ?_ ?_
 ·rw [hp.1]; simp [hj]
 ·refine C.cint ?_; clear C; intro s t C
  refine Z9 ((H s C).hx) fun us n hx hp => ?_
  have hc : c < 2 := (List.getElem?_eq_some_iff.mp hv).1
  exact Loc.subT (us := [.str (mkS r.2.1.1) r.2.1.2, .str (mkS r.2.2.1) r.2.2.2]) ⟨_, (hp.2 r (List.mem_of_getElem? hj)).2, rfl, _, rfl⟩ (Int.natCast_nonneg _) (by lia) (by simpa using hv) (h _ C)
theorem Zke : ∀ m : Fin 101, Builtin.Range.small ((m.val : Nat) : Int) 0 (-1) = true ∧ Builtin.Range.rangeSize ((m.val : Nat) : Int) 0 (-1) = ((m.val : Nat) : Int) := by decide
noncomputable def Zh4 (ml : Nat) (lines : List (List Nat)) (ps : List Za7) (lines' : List (List Nat)) (ps' : List Za7) : Prop :=
 (Z2 ps ≤ ml ∧ lines' = lines ∧ ps' = ps) ∨
 (ml < Z2 ps ∧ ∃ pre, pre ≠ [] ∧ ps = pre ++ ps' ∧ lines' = lines ++ [Zav pre] ∧ ((∃ q, ps' = [q] ∧ q.2.1.1 = [32]) ∨ ∃ q r, ps' = [q, r] ∧ q.2.1.1 = [32] ∧ q.2.2.1 = [] ∧ r.2.1.1 = []))
variable {ml : Nat}
theorem Zkd {σ : Shared} (W : Wd K σ.heap) (G : KG K) (R : Zk A 16) (T : KA prog K cd) (N : KM prog K) (Y : KF K cdF) {b p : List Nat} {tb tp : Tok} {Q : Value → Shared → Prop} (F : Fmt w σ.heap f dF Ls x dx (ml : Nat) lines ps) (hn : ps.length ≤ 90) (hb : Z2 ps + b.length + p.length ≤ 100000) (hml : ml ≤ 100000) (hln : lines.length ≤ 90)
  (hpost : ∀ P : Za7, P.2 = ((b, tb), (p, tp)) → ∃ lines' ps', Zh4 ml lines (ps ++ [P]) lines' ps')
  (h : ∀ P lines' ps' s', P.2 = ((b, tb), (p, tp)) → σ.heap.get? P.1 = none → Zh4 ml lines (ps ++ [P]) lines' ps' → Ext [dx, x, Ls] [] σ s' → Fmt w s'.heap f dF Ls x dx (ml : Nat) lines' ps' → Q .none s') :
  wpAny (model prog w) A (call (.ref 161) [.ref f, .str (mkS b) tb, .str (mkS p) tp]) Q E σ := by
 obtain ⟨hf, ⟨k, hd⟩, ⟨oL, uL, hL, hLp, hLs⟩, ac, f3, d3, l3, nd⟩ := F
 refine Z9 ac.hx fun us n hx hpp => ?_
 refine Zcv ac.hd fun τ t' hdx => ?_
 have hnot := ac.notin
 have x3 := ac.x3
 have dx3 := ac.d3
 have hus := hpp.1
 subst hus
 simp only [List.nodup_cons, List.mem_cons, List.not_mem_nil, or_false, not_or, not_false_eq_true, List.nodup_nil, and_true] at nd
 obtain ⟨⟨n1, n2, n3, n4⟩, ⟨n5, n6, n7⟩, ⟨n8, n9⟩, n10⟩ := nd
 have nfX : f ∉ [dx, x, Ls] := by simp [n4, n3, n2]
 have ndX : dF ∉ [dx, x, Ls] := by simp [n7, n6, n5]
 have hLo := hLp
 obtain ⟨nL, rfl⟩ := hLo
 have hpL : ∀ q ∈ ps, q.1 ≠ Ls := fun q hq e => by
  have h1 := (hpp.2 q hq).2
  rw [e, hL] at h1
  have := congrArg Obj.cls (Option.some.inj h1)
  simp at this
 have pX : ∀ q ∈ ps, q.1 ∉ [dx, x, Ls] := fun q hq => by simp [(hnot q hq).1, (hnot q hq).2, hpL q hq]
 have hX0 : ∀ p ∈ [dx, x, Ls], ∃ o, σ.heap.get? p = some o := fun p hp => by
  rcases List.mem_cons.mp hp with rfl | hp
  ·exact ⟨_, hdx⟩
  ·rcases List.mem_cons.mp hp with rfl | hp
   ·exact ⟨_, hx⟩
   ·rw [List.mem_singleton.mp hp]; exact ⟨_, hL⟩
 refine Zw W R Y.f161 [("self", .ref f), ("fws", .str (mkS b) tb), ("string", .str (mkS p) tp)] (fun _ _ _ _ _ => BindsTo.of_eq rfl) fun env s₁ hE hO hc C => ?_
 have RD := R.deeper (env := env) (n := 15)
 have C0 := C.ext
 replace C := C.take hO hL l3 (fun _ q => by cases q) (fun _ q => by cases q)
 replace C := C.takeM hO hx (C0.get x3 hx) x3 (by simpa using Ne.symm n8) (fun _ q => by cases q) (fun _ q => by cases q)
 replace C := C.takeM hO hdx (C0.get dx3 hdx) dx3 (by simpa using ⟨Ne.symm n10, Ne.symm n9⟩) (fun _ q => by cases q) (fun _ q => by cases q)
 refine Zq ?_
 refine Zi ?_
 refine C.expr ?_
 refine methodCall_KW ?_
 refine Zaq ?_
 walk_at "N"
 refine C.getF W Y hf hd f3 d3 nfX ndX (by walk_at "M") rfl rfl ?_; clear C; intro s C
 refine Zae (Zbg N (q := ("push", 192)) (by walk_at "M")) fun m1 m2 m3 => ?_
 refine Zb4 (W.ext C.ext).k T (C.led _ M1) (C.led _ M0) m1 m2 rfl ?_
 refine callWith_K (W.ext C.ext).k m3 ?_
 refine Za ?_
 walk_at "N"
 refine Za ?_
 walk_at "N"
 refine spliced_none ?_
 refine ⟨(W.ext C.ext).k, ?_⟩
 refine Zhz (W.ext C.ext) RD.le T N (C.led _ M1) x3 (C.led _ M0) dx3 (Ne.symm n10) (by rw [List.length_map]; exact kA ‹_› rfl) fun q n' s2 q0 q3 e2 g1 g2 => ?_
 have C2 := C.put e2 J1 g2
 have hXs : ∀ p ∈ [dx, x, Ls], ∃ o, s.heap.get? p = some o := fun p hp => by
  rcases List.mem_cons.mp hp with rfl | hp
  ·exact ⟨_, C.led _ M0⟩
  ·rcases List.mem_cons.mp hp with rfl | hp
   ·exact ⟨_, C.led _ M1⟩
   ·rw [List.mem_singleton.mp hp]; exact ⟨_, C.led _ M2⟩
 have hPn : σ.heap.get? q = none := C.noneAt q0 (fun hq => by obtain ⟨o, e⟩ := hXs q hq; rw [q0] at e; cases e)
 replace C := C.learnNew C2 (fun a ha => ha) q0 hXs q3 g1 (fun _ q => by cases q)
 obtain ⟨P, hP⟩ : ∃ P : Za7, P = (q, (b, tb), (p, tp)) := ⟨_, rfl⟩
 have hmap : (ps.map fun q => Value.ref q.1) ++ [Value.ref q] = (ps ++ [P]).map fun q => Value.ref q.1 := by rw [hP]; simp
 rw [hmap] at C
 have htup : Zaw [Value.str (mkS b) tb, .str (mkS p) tp] = oPd P := by rw [hP]
 have hq1 : q = P.1 := by rw [hP]
 rw [htup, hq1] at C
 replace C : Loc env σ [dx, x, Ls] _ [(P.1, oPd P), (dx, Zay w τ t'), (x, oXd dx (ps ++ [P]) n'), (Ls, oLd uL nL)] _ := C
 have hlP : Z2 (ps ++ [P]) = Z2 ps + (b.length + p.length) := by rw [hP]; simp [Z2]
 refine Zcv (hpost P (by rw [hP])) fun lines' ps' hch => ?_
 have acu : ∀ {vs s l4}, Loc env σ [dx, x, Ls] vs ((P.1, oPd P) :: (dx, Zay w τ t') :: (x, oXd dx (ps ++ [P]) n') :: l4) s → Acu w s.heap x dx (ps ++ [P]) := fun {vs s l4} C =>
  C.acu M2 M1 (Ne.symm n10) fun r hr => by
   rcases List.mem_append.mp hr with hr | hr
   ·exact ⟨(hpp.2 r hr).1, .inl ⟨(hpp.2 r hr).2, pX r hr⟩⟩
   ·rw [List.mem_singleton.mp hr]; exact ⟨hq1 ▸ q3, .inr M0⟩
 have hb2 : Z2 (ps ++ [P]) ≤ 100000 := by lia
 refine xci ?_
 refine Z0 ?_
 refine Zf ?_
 walk_at "B"
 refine xb1 ?_
 refine Za ?_
 refine Zaq ?_
 walk_at "N"
 refine C.getF W Y hf hd f3 d3 nfX ndX (by walk_at "M") rfl rfl ?_; clear C; intro s C
 refine spliced_none ?_
 refine C.lenAcc W G RD.le T N (acu C) hb2 ?_; clear C; intro u s e C
 refine Zaq ?_
 walk_at "N"
 refine C.getF W Y hf hd f3 d3 nfX ndX (by walk_at "M") rfl rfl ?_; clear C; intro s C
 refine gt_int (wpAny_truthy_bool ?_)
 rcases hch with ⟨c1, rfl, rfl⟩ | ⟨c1, pre, c2, c3, c4, c5⟩
 ·refine ifN (by simp; assumption) ?_
  refine wpAny_execs_nil ?_
  refine wpAny_execs_nil ?_
  exact h P _ _ _ (by rw [hP]) (hq1 ▸ hPn) (.inl ⟨c1, rfl, rfl⟩) C.ext ⟨C.ext.keepX nfX f3 hf, ⟨k, C.ext.keepX ndX d3 hd⟩, ⟨_, uL, C.led (Ls, _) M3, ⟨nL, rfl⟩, hLs⟩, acu C, f3, d3, l3, by simp [n1, n2, n3, n4, n5, n6, n7, n8, n9, n10]⟩
 ·refine ifP (by simp; assumption) ?_
  have hXs2 : ∀ {vs s l4 p1 o1 o2 o3}, Loc env σ [dx, x, Ls] vs (p1 :: (dx, o1) :: (x, o2) :: (Ls, o3) :: l4) s → ∀ p ∈ [dx, x, Ls], ∃ o, s.heap.get? p = some o := fun {vs s l4 p1 o1 o2 o3} C p hp => by
   rcases List.mem_cons.mp hp with rfl | hp
   ·exact ⟨_, C.led _ M1⟩
   ·rcases List.mem_cons.mp hp with rfl | hp
    ·exact ⟨_, C.led _ M2⟩
    ·rw [List.mem_singleton.mp hp]; exact ⟨_, C.led _ M3⟩
  refine xcf ?_
  refine Zaq ?_
  walk_at "N"
  refine C.getF W Y hf hd f3 d3 nfX ndX (by walk_at "M") rfl rfl ?_; clear C; intro s C
  refine C.pyIterA (hXs2 C) (by decide +kernel) ?_; clear C; intro I oI s hI hI1 hI2 C
  have hNl : (ps ++ [P]).length ≤ 100 := by rw [List.length_append]; simp; exact kA ‹_› rfl
  refine Loc.forI (α := Unit) (fun i _ => i = 0) (fun _ _ => [("self", .ref f), ("fws", .str (mkS b) tb), ("string", .str (mkS p) tp)])
   (fun _ _ => [(P.1, oPd P), (dx, Zay w τ t'), (x, oXd dx (ps ++ [P]) n'), (Ls, oLd uL nL)]) (d0 := ())
   (Zrv RD.hd (mkS [32]) (k 14)) hI ⟨hI1, hI2⟩ C rfl (fun _ _ _ _ _ _ => trivial) ?_ (fun d s' hz _ => absurd hz (by decide))
  rintro i ⟨⟩ oI u s hi ⟨c, tc, hc1, rfl⟩ rfl C
  have hc32 : c = 32 := by simpa [mkS] using hc1.symm
  subst hc32
  rw [show (⟨#[32]⟩ : Str) = mkS [32] from rfl]
  refine wpAny_assign_Name ?_
  refine C.st hO hc (by walk_at "K") ?_; clear C; intro s C
  refine xcf ?_
  refine Zf ?_
  walk_at "B"
  refine xt1 ?_
  refine Za ?_
  refine Zn ?_
  refine methodCall_KW ?_
  refine Zaq ?_
  walk_at "N"
  refine C.getF W Y hf hd f3 d3 nfX ndX (by walk_at "M") rfl rfl ?_; clear C; intro s C
  refine Zae (Zbg N (q := ("part_count", 245)) (by walk_at "M")) fun m4 m5 m6 => ?_
  refine Zb4 (W.ext C.ext).k T (C.led _ M3) (C.led _ M2) m4 m5 rfl ?_
  refine callWith_K0 (W.ext C.ext).k m6 ?_
  refine Zdf (W.ext C.ext) G RD.le T N (C.led _ M3) x3 fun t1 s2 x2 g2 => ?_
  replace C := C.put x2 J3 g2
  refine C.cint ?_; clear C; intro s t C
  refine C.isub ?_; clear C; intro s t2 C
  refine Za ?_
  refine C.cint ?_; clear C; intro s t C
  refine Za ?_
  refine xun ?_
  refine C.cint ?_; clear C; intro s t C
  refine C.ineg ?_; clear C; intro s t3 C
  refine spliced_none ?_
  rw [List.length_map]
  obtain ⟨m, hm⟩ : ∃ m, (ps ++ [P]).length = m + 1 := ⟨ps.length, by simp⟩
  rw [hm]
  rw [show (((m + 1 : Nat) : Int) - 1) = (m : Int) by simp +arith [*]]
  refine C.range3 (by decide) (by decide) ?_; clear C; intro r _ _ _ s C
  have hpl := congrArg List.length c3
  have hprl : 1 ≤ pre.length := by cases pre with
   | nil => exact absurd rfl c2
   | cons _ _ => simp
  rw [hm, List.length_append] at hpl
  have hm100 : m ≤ 100 := by lia
  obtain ⟨r1, r2⟩ := Zke ⟨m, by exact kB ‹_› rfl⟩
  refine C.pyIterX hX0 (fun p hp => ?_) (C.led _ M0) r1 m r2 fun I2 s hI2n C => ?_
  ·rcases List.mem_cons.mp hp with rfl | hp
   ·exact ⟨_, C.led _ M3⟩
   ·rcases List.mem_cons.mp hp with rfl | hp
    ·exact ⟨_, C.led _ M4⟩
    ·rw [List.mem_singleton.mp hp]; exact ⟨_, C.led _ M5⟩
  replace C := C.sub (l' := [(I2, Zfh (m : Int) m (-1)), (P.1, oPd P), (dx, Zay w τ t'), (x, oXd dx (ps ++ [P]) n'), (Ls, oLd uL nL)]) (List.Sublist.cons_cons _ ((List.sublist_cons_self _ _).trans (List.sublist_cons_self _ _)))
  have acu2 : ∀ {vs s p1 l4}, Loc env σ [dx, x, Ls] vs (p1 :: (P.1, oPd P) :: (dx, Zay w τ t') :: (x, oXd dx (ps ++ [P]) n') :: l4) s → Acu w s.heap x dx (ps ++ [P]) := fun {vs s p1 l4} C => acu (C.sub (List.sublist_cons_self _ _))
  refine Loc.forI (α := List (String × Value)) (fun i d => ("self", .ref f) ∈ d ∧ ("ch", .str (mkS [32]) tc) ∈ d ∧ (i = 0 ∨ i = 1 ∧ ∃ q r, ps' = [q, r]))
   (fun _ d => d) (fun _ _ => [(P.1, oPd P), (dx, Zay w τ t'), (x, oXd dx (ps ++ [P]) n'), (Ls, oLd uL nL)])
   (Zcz RD.hd (m : Int) (-1) m) hI2n (Zcq _ _ _) C ⟨M0, by simp, .inl rfl⟩ (fun _ _ _ _ _ _ => trivial) ?_ (fun d s' hz _ => ?_)
  rotate_left
  ·exfalso
   obtain ⟨_, _, hz | ⟨hz, q, r, hz2⟩⟩ := hz
   ·rcases c5 with ⟨q, e, _⟩ | ⟨q, r, e, _⟩ <;> rw [e] at hpl <;> simp only [List.length_cons, List.length_nil] at hpl <;> lia
   ·rw [hz2] at hpl; simp only [List.length_cons, List.length_nil] at hpl; lia
  intro i d oI2 u s hi' hu hPP C; refine Zae hPP fun hd1 hd2 hd3 => ?_; clear hPP
  obtain ⟨tu, rfl⟩ := hu
  have hidx : (m : Int) + (i : Int) * -1 = ((m - i : Nat) : Int) := by grind
  rw [hidx]
  refine wpAny_assign_Name ?_
  refine C.store hO hc (by walk_at "K") ?_; clear C; intro s C
  have ei : ("i", Value.int ((m - i : Nat) : Int) tu) ∈ Zbd "i" (Value.int ((m - i : Nat) : Int) tu) d := Zab
  have hd1 := Zt (x := "i") (v := Value.int ((m - i : Nat) : Int) tu) hd1 (by simp)
  have hd2 := Zt (x := "i") (v := Value.int ((m - i : Nat) : Int) tu) hd2 (by simp)
  generalize Zbd "i" (Value.int ((m - i : Nat) : Int) tu) d = d1 at C ei hd1 hd2
  obtain ⟨r, hr⟩ : ∃ r, (ps ++ [P])[m - i]? = some r := ⟨_, List.getElem?_eq_getElem (by lia)⟩
  refine xci ?_
  refine Zb1 ?_
  refine Zbk ?_
  refine C.name (x := "ch") hd2 ?_
  refine PySem.SB.isspace ?_
  rw [show Txt.isspace (mkS [32]) = true by decide +kernel]
  refine wpAny_truthy_bool ?_
  refine ifP rfl ?_
  refine xca ?_
  refine C.curAt (c := 0) W Y T hf hd f3 d3 nfX ndX hd1 (fun s C => acu2 C) hr (by lia) (fun s Q' C h => C.name (x := "i") ei (h s _ C)) (fun i => rfl) rfl ?_; clear C; intro s C
  refine C.store hO hc (by walk_at "K") ?_; clear C; intro s C
  have ef : ("fws", Value.str (mkS r.2.1.1) r.2.1.2) ∈ Zbd "fws" (Value.str (mkS r.2.1.1) r.2.1.2) d1 := Zab
  have ei := Zt (x := "fws") (v := Value.str (mkS r.2.1.1) r.2.1.2) ei (by simp)
  have hd1 := Zt (x := "fws") (v := Value.str (mkS r.2.1.1) r.2.1.2) hd1 (by simp)
  have hd2 := Zt (x := "fws") (v := Value.str (mkS r.2.1.1) r.2.1.2) hd2 (by simp)
  generalize Zbd "fws" (Value.str (mkS r.2.1.1) r.2.1.2) d1 = d2 at C ef ei hd1 hd2
  have hlens : ∀ q ∈ ps ++ [P], q.2.1.1.length ≤ 100000 ∧ q.2.2.1.length ≤ 100000 := fun q hq => by
   obtain ⟨a, ha⟩ := List.getElem?_of_mem hq
   have := Zcn ((ps ++ [P]).map fun q => q.2.1.1.length + q.2.2.1.length) a
   rw [List.getD_eq_getElem?_getD, List.getElem?_map, ha] at this
   have h2 : ((ps ++ [P]).map fun q => q.2.1.1.length + q.2.2.1.length).sum ≤ 100000 := hb2
   simp only [Option.map_some, Option.getD_some] at this
   lia
  have hrm := List.mem_of_getElem? hr
  refine xci ?_
  refine isTrue_and ?_
  refine Zb1 ?_
  refine C.name (x := "fws") ef ?_
  refine C.truthS (by have := (hlens r hrm).1; exact kA ‹_› rfl) ?_; clear C; intro s C
  by_cases hbr : m - i = pre.length
  ·have hr32 : r.2.1.1 = [32] := by
    rw [c3, hbr, List.getElem?_append_right (Nat.le_refl _), Nat.sub_self] at hr
    rcases c5 with ⟨q, e, hq⟩ | ⟨q, r2, e, hq, _⟩ <;> rw [e] at hr <;> cases hr <;> exact hq
   rw [hr32] at ef ⊢
   refine ifP (by decide) ?_
   refine isTrue_and ?_
   refine Z0 ?_
   refine Zad ?_
   refine C.name (x := "fws") ef ?_
   refine C.cint ?_; clear C; intro s _ C
   refine C.subS (k := 0) (T := [32]) (by decide) rfl ?_; clear C; intro s _ C
   refine C.name (x := "ch") hd2 ?_
   refine eq_str (wpAny_truthy_bool ?_)
   refine ifP (beq_self_eq_true _) ?_
   refine isTrue_and_nil ?_
   refine ifP rfl ?_
   refine Zi ?_
   refine wpAny_Break ?_
   refine Zi ?_
   refine wpAny_Break ?_
   replace C := C.sub (List.sublist_cons_self _ _)
   refine xca ?_
   refine methodCall_KW ?_
   refine Zaq ?_
   refine C.name (x := "self") hd1 ?_
   refine C.getF W Y hf hd f3 d3 nfX ndX (by walk_at "M") rfl rfl ?_; clear C; intro s C
   refine Zae (Zbg N (q := ("pop_from", 200)) (by walk_at "M")) fun m7 m8 m9 => ?_
   refine Zb4 (W.ext C.ext).k T (C.led _ M2) (C.led _ M1) m7 m8 rfl ?_
   refine callWith_K (W.ext C.ext).k m9 ?_
   refine Za ?_
   refine C.name (x := "i") ei ?_
   refine spliced_none ?_
   refine ⟨(W.ext C.ext).k, ?_⟩
   rw [hbr]
   have hple : pre.length ≤ ((ps ++ [P]).map fun q => Value.ref q.1).length := by rw [List.length_map, c3, List.length_append]; simp +arith
   refine Zhf (W.ext C.ext) G RD.le T N (C.led _ M2) x3 (by rw [List.length_map]; exact hNl) hple fun D n3' s3 D0 D3 e3 g3 g4 => ?_
   have tk1 : ((ps ++ [P]).map fun q => Value.ref q.1).take pre.length = pre.map fun q => Value.ref q.1 := by rw [c3, List.map_append, List.take_append_of_le_length (by simp), List.take_of_length_le (by simp)]
   have dr1 : ((ps ++ [P]).map fun q => Value.ref q.1).drop pre.length = ps'.map fun q => Value.ref q.1 := by
    rw [c3, List.map_append, show pre.length = (pre.map fun q => Value.ref q.1).length by simp, List.drop_left]
   rw [tk1] at g4
   rw [dr1] at g3
   have Cq := C.put e3 J2 g4
   replace C := C.learnNew Cq (fun a h => h) D0 (hXs2 C) D3 g3 (fun _ q => by cases q)
   replace C : Loc env σ [dx, x, Ls] _ [(D, Zu (ps'.map fun q => Value.ref q.1)), (P.1, oPd P), (dx, Zay w τ t'), (x, oXd dx pre n3'), (Ls, oLd uL nL)] _ := C
   have allp : ∀ {vs s l5}, Loc env σ [dx, x, Ls] vs l5 s → (P.1, oPd P) ∈ l5 → ∀ r ∈ ps ++ [P], 316 ≤ r.1 ∧ (σ.heap.get? r.1 = some (oPd r) ∧ r.1 ∉ [dx, x, Ls] ∨ (r.1, oPd r) ∈ l5) := fun {vs s l5} C hm r hr => by
    rcases List.mem_append.mp hr with hr | hr
    ·exact ⟨(hpp.2 r hr).1, .inl ⟨(hpp.2 r hr).2, pX r hr⟩⟩
    ·rw [List.mem_singleton.mp hr]; exact ⟨hq1 ▸ q3, .inr hm⟩
   have inpre : ∀ r ∈ pre, r ∈ ps ++ [P] := fun r hr => by rw [c3]; exact List.mem_append_left _ hr
   have inps : ∀ r ∈ ps', r ∈ ps ++ [P] := fun r hr => by rw [c3]; exact List.mem_append_right _ hr
   have acu3 : ∀ {vs s l4}, Loc env σ [dx, x, Ls] vs ((D, Zu (ps'.map fun q => Value.ref q.1)) :: (P.1, oPd P) :: (dx, Zay w τ t') :: (x, oXd dx pre n3') :: l4) s → Acu w s.heap x dx pre := fun {vs s l4} C =>
    C.acu M3 M2 (Ne.symm n10) fun r hr => allp C M1 r (inpre r hr)
   refine C.store hO hc (by walk_at "K") ?_; clear C; intro s C
   have er : ("remainder", Value.ref D) ∈ Zbd "remainder" (Value.ref D) d2 := Zab
   have hd1 := Zt (x := "remainder") (v := Value.ref D) hd1 (by simp)
   generalize Zbd "remainder" (Value.ref D) d2 = d3' at C er hd1
   have hbpre : Z2 pre ≤ 100000 := by
    have : Z2 (ps ++ [P]) = Z2 pre + Z2 ps' := by rw [c3]; simp [Z2]
    lia
   refine Zi ?_
   refine C.expr ?_
   refine Zbk ?_
   refine Zaq ?_
   refine C.name (x := "self") hd1 ?_
   refine C.getF W Y hf hd f3 d3 nfX ndX (by walk_at "M") rfl rfl ?_; clear C; intro s C
   have hLn : Zce (oLd uL nL) uL := ⟨nL, rfl⟩
   refine Zbt "list" "list.append" PySem.F.plainAttrs_list PySem.F.slot_list_append PySem.F.type_list_append (hLn.lo.at (C.led (Ls, _) M4)).typeIs (fun a' x => ?_) (callWith_method1 ?_)
   ·cases x
    exact ⟨_, C.led (Ls, _) M4, rfl⟩
   refine Za ?_
   refine Zf ?_
   walk_at "B"
   refine xt1 ?_
   refine Za ?_
   refine Zaq ?_
   refine C.name (x := "self") hd1 ?_
   refine C.getF W Y hf hd f3 d3 nfX ndX (by walk_at "M") rfl rfl ?_; clear C; intro s C
   refine spliced_none ?_
   refine C.strAcc W G RD.le T N (acu3 C) hbpre (by lia) ?_; clear C; intro tS s _ C
   refine spliced_none ?_
   have hul : uL.length ≤ 90 := by rw [hLs.length, List.length_map]; exact hln
   refine C.appendP (L' := fun o' => [(D, Zu (ps'.map fun q => Value.ref q.1)), (P.1, oPd P), (dx, Zay w τ t'), (x, oXd dx pre n3'), (Ls, o')]) (fun o' => J4) hLn (kB ‹_› rfl) ?_; clear C; intro oL' s hoL C
   refine Zi ?_
   refine C.expr ?_
   refine methodCall_KW ?_
   refine Zaq ?_
   refine C.name (x := "self") hd1 ?_
   refine C.getF W Y hf hd f3 d3 nfX ndX (by walk_at "M") rfl rfl ?_; clear C; intro s C
   refine Zae (Zbg N (q := ("reset", 230)) (by walk_at "M")) fun ma mb mc => ?_
   refine Zb4 (W.ext C.ext).k T (C.led _ M3) (C.led _ M2) ma mb rfl ?_
   refine callWith_K (W.ext C.ext).k mc ?_
   refine Za ?_
   refine C.name (x := "remainder") er ?_
   refine spliced_none ?_
   refine ⟨(W.ext C.ext).k, ?_⟩
   have hpslen : ps'.length ≤ 100 := by lia
   refine Znv (W.ext C.ext) G RD.le T N (acu3 C) (by lia) hpslen (.inr rfl) (.inr ⟨D, rfl, C.led _ M0, D3⟩) (fun r hr => ⟨(allp C M1 r (inps r hr)).1, ?_⟩) fun s4 e4 H4 => ?_
   ·exact (allp C M1 r (inps r hr)).2.elim (fun hh => C.ext.keepX hh.2 (allp C M1 r (inps r hr)).1 hh.1) fun hh => C.led _ hh
   refine wpAny_execs_nil ?_
   refine wpAny_execs_nil ?_
   have e4' : Ext [dx, x, Ls] [] s s4 := e4.mono (fun _ hp => by
    simp only [List.mem_cons, List.not_mem_nil, or_false] at hp ⊢
    exact hp.elim .inl fun q => .inr (.inl q)) (fun _ q => q)
   have eA := C.ext.trans e4'
   refine h P _ _ _ (by rw [hP]) (hq1 ▸ hPn) (.inr ⟨c1, pre, c2, c3, c4, c5⟩) eA ⟨eA.keepX nfX f3 hf, ⟨k, eA.keepX ndX d3 hd⟩, ⟨oL', uL ++ [.str (mkS (Zav pre)) tS], e4.keepX (by simp [n8, n9]) l3 (C.led (Ls, _) M4), hoL, ?_⟩, H4, f3, d3, l3, by simp [n1, n2, n3, n4, n5, n6, n7, n8, n9, n10]⟩
   rw [c4, List.map_append]
   exact strsAre_append hLs (.cons _ _ .nil)
  ·obtain ⟨q, r2, e, hq1', hq2', hq3'⟩ : ∃ q r2, ps' = [q, r2] ∧ q.2.1.1 = [32] ∧ q.2.2.1 = [] ∧ r2.2.1.1 = [] := by
    rcases c5 with ⟨q, e, _⟩ | c5
    ·exfalso
     rw [e] at hpl
     simp only [List.length_cons, List.length_nil] at hpl
     rcases hd3 with h0 | ⟨_, q', r', e'⟩
     ·exact hbr (by lia)
     ·rw [e] at e'; cases e'
    ·exact c5
   rw [e] at hpl
   simp only [List.length_cons, List.length_nil] at hpl
   have hi0 : i = 0 := by
    rcases hd3 with h0 | ⟨h1, _⟩
    ·exact h0
    ·exact absurd (by lia) hbr
   subst hi0
   have hr0 : r = r2 := by
    rw [c3, e, show m - 0 = pre.length + 1 by lia, List.getElem?_append_right (Nat.le_of_lt Nat.le.refl)] at hr
    rw [show pre.length + 1 - pre.length = 1 by simp +arith] at hr
    simp at hr
    exact hr.symm
   subst hr0
   rw [hq3']
   refine ifN (by decide) ?_
   refine ifN (by decide) ?_
   refine wpAny_execs_nil ?_
   refine wpAny_execs_nil ?_
   have hqat : (ps ++ [P])[m - 0 - 1]? = some q := by
    rw [c3, e, show m - 0 - 1 = pre.length by grind, List.getElem?_append_right (Nat.le_refl _), Nat.sub_self]; rfl
   refine xca ?_
   refine C.curAt (c := 1) W Y T hf hd f3 d3 nfX ndX hd1 (fun s C => acu2 C) hqat (by grind) (fun s Q' C h => ?_) (fun i => rfl) rfl fun s C => ?_
   ·refine Zn ?_
    refine C.name (x := "i") ei ?_
    refine C.cint ?_; clear C; intro s _ C
    refine C.isub ?_; clear C; intro s ti C
    rw [show ((m - 0 : Nat) : Int) - 1 = ((m - 0 - 1 : Nat) : Int) by grind]
    exact h s ti C
   refine C.store hO hc (by walk_at "K") ?_; clear C; intro s C
   have ep : ("prevpart", Value.str (mkS q.2.2.1) q.2.2.2) ∈ Zbd "prevpart" (Value.str (mkS q.2.2.1) q.2.2.2) d2 := Zab
   have hd1 := Zt (x := "prevpart") (v := Value.str (mkS q.2.2.1) q.2.2.2) hd1 (by simp)
   have hd2 := Zt (x := "prevpart") (v := Value.str (mkS q.2.2.1) q.2.2.2) hd2 (by simp)
   generalize Zbd "prevpart" (Value.str (mkS q.2.2.1) q.2.2.2) d2 = d3' at C ep hd1 hd2
   refine xci ?_
   refine isTrue_and ?_
   refine Zb1 ?_
   refine C.name (x := "prevpart") ep ?_
   rw [hq2'] at ep ⊢
   refine C.truthS (by decide) ?_; clear C; intro s C
   refine ifN (by decide) ?_
   refine ifN (by decide) ?_
   refine wpAny_execs_nil ?_
   refine wpAny_execs_nil ?_
   exact ⟨d3', ⟨hd1, hd2, .inr ⟨rfl, q, r, e⟩⟩, C⟩
theorem Loc.starT (C : Loc env s₀ X vs l s) {a : Addr} {ws : List Value} {Q : List Value → Shared → Prop} (hm : s.heap.get? a = some (Zaw ws)) (hz : ws.length ≤ 1000) (h : ∀ s', Loc env s₀ X vs l s' → Q ws s') : StarOf (model prog w) A E (.ref a) Q s := by
 have hT' : s.TypeIs (.ref a) "tuple" := ⟨_, hm, rfl⟩
 have z : wpAny (model prog w) A (collect (.ref a)) Q E s := by
  have := wpAny_collect_seq (prog := prog) (w := w) (A := A) (E := E) (Q := Q) a (.inr rfl) hm rfl rfl (fun h' hk => h _ (C.keeps (tk := s.toks) hk)) (by rw [List.size_toArray, sizeLine_eq]; exact kA ‹_› rfl)
  exact this
 unfold StarOf notIterableAtAll
 exact wpAny_bind (wpAny_specialOf hT' PySem.F.slot_tuple_iter.lookup (wpAny_pure ⟨rfl, z⟩))
theorem Zrb {a b : Addr} {f p g q : List Nat} {tf tp tg tq : Tok} {Q : Value → Shared → Prop} (ha : s.heap.get? a = some (Zaw [.str (mkS f) tf, .str (mkS p) tp])) (hb : s.heap.get? b = some (Zaw [.str (mkS g) tg, .str (mkS q) tq])) (hu : A.units < cLine)
  (h : Q (.bool (!(f == g && p == q))) s) : wpAny (model prog w) A (compareOp .NotEq (.ref a) (.ref b)) Q E s := by
 have := SeqAt.RcNeAt.tuples (A := A) (e := fun j => if j = 0 then mkS f == mkS g else mkS p == mkS q) (⟨_, ha, rfl, _, rfl⟩ : s.heap.IsTuple a [Value.str (mkS f) tf, .str (mkS p) tp].toArray) (⟨_, hb, rfl, _, rfl⟩ : s.heap.IsTuple b [Value.str (mkS g) tg, .str (mkS q) tq].toArray) hu (fun j h1 h2 => by
  have : j < 2 := h1
  rcases j with _ | _ | j
  ·exact SeqAt.EqAt.str_str _ _ _ _
  ·exact SeqAt.EqAt.str_str _ _ _ _
  ·lia)
 refine this prog w E Q ?_
 have e : (!((List.range (min [Value.str (mkS f) tf, .str (mkS p) tp].toArray.size [Value.str (mkS g) tg, .str (mkS q) tq].toArray.size)).all (fun j => if j = 0 then mkS f == mkS g else mkS p == mkS q) && [Value.str (mkS f) tf, .str (mkS p) tp].toArray.size == [Value.str (mkS g) tg, .str (mkS q) tq].toArray.size)) = !(f == g && p == q) := by
  have e1 : (mkS f == mkS g) = (f == g) := by rw [Bool.eq_iff_iff, beq_iff_eq, beq_iff_eq]; exact Zc5
  have e2 : (mkS p == mkS q) = (p == q) := by rw [Bool.eq_iff_iff, beq_iff_eq, beq_iff_eq]; exact Zc5
  rw [← e1, ← e2]
  simp [List.range_succ]
 rw [e]
 exact h
theorem Zkz {σ : Shared} (W : Wd K σ.heap) (G : KG K) (R : Zk A 4) (T : KA prog K cd) (N : KM prog K) (Y : KF K cdF) {Q : Value → Shared → Prop} (F : Fmt w σ.heap f dF Ls x dx (ml : Nat) lines ps) (hn : ps.length ≤ 90)
  (h : ∀ P s', P.2.1.1 = [32] → P.2.2.1 = [] → σ.heap.get? P.1 = none → Ext [dx, x, Ls] [] σ s' → Fmt w s'.heap f dF Ls x dx (ml : Nat) lines (ps ++ [P]) → Q .none s') : wpAny (model prog w) A (call (.ref 133) [.ref f]) Q E σ := by
 obtain ⟨hf, ⟨k, hd⟩, ⟨oL, uL, hL, hLp, hLs⟩, ac, f3, d3, l3, nd⟩ := F
 have nd0 := nd
 simp only [List.nodup_cons, List.mem_cons, List.not_mem_nil, or_false, not_or, not_false_eq_true, List.nodup_nil, and_true] at nd
 obtain ⟨⟨n1, n2, n3, n4⟩, ⟨n5, n6, n7⟩, ⟨n8, n9⟩, n10⟩ := nd
 refine Zw W R Y.f133 [("self", .ref f)] (fun _ _ _ _ _ => BindsTo.of_eq rfl) fun env s₁ hE hO hc C => ?_
 have RD := R.deeper (env := env) (n := 3)
 refine Zq ?_
 refine Zi ?_
 refine C.expr ?_
 refine methodCall_KW ?_
 refine Zaq ?_
 walk_at "N"
 refine C.getF W Y hf hd f3 d3 (by simp) (by simp) (by walk_at "M") rfl rfl ?_; clear C; intro s C
 refine Zae (Zbg N (q := ("push", 192)) (by walk_at "M")) fun m1 m2 m3 => ?_
 refine Z9 ((ac.ext C.ext).hx) fun us n hx hpp => ?_
 refine Zcv ((ac.ext C.ext).hd) fun τ t' hdx => ?_
 refine Zb4 (W.ext C.ext).k T hx hdx m1 m2 rfl ?_
 refine callWith_K (W.ext C.ext).k m3 ?_
 refine Za ?_
 refine C.cstr ?_; clear C; intro s tf C
 refine Za ?_
 refine C.cstr ?_; clear C; intro s tp C
 refine spliced_none ?_
 refine ⟨(W.ext C.ext).k, ?_⟩
 refine Zrf (f := [32]) (p := []) (W.ext C.ext) RD.le T N (ac.ext C.ext) (kA ‹_› rfl) fun q s' q0 e H => ?_
 refine wpAny_execs_nil ?_
 have eA : Ext [x] [] σ s' := (C.ext.mono (fun _ q => nomatch q) (fun _ q => q)).trans e
 refine h _ s' rfl rfl (C.noneAt q0 (by simp)) (eA.mono (fun p hp => by rw [List.mem_singleton.mp hp]; simp) (fun _ q => q)) ⟨eA.keepX (by simp [n3]) f3 hf, ⟨k, eA.keepX (by simp [n6]) d3 hd⟩, ⟨oL, uL, eA.keepX (by simp [n8]) l3 hL, hLp, hLs⟩, H, f3, d3, l3, nd0⟩
theorem Zm1 {RR : Result → Shared → Prop} (W : Wd K s.heap) (R : Zk A 2) (T : KA prog K cd) (N : KM prog K) {a b : Value} (hx : s.heap.get? x = some (Zh 248 dx us n)) (hx3 : 316 ≤ x) (hd : s.heap.get? dx = some (Zay w t t')) (hd3 : 316 ≤ dx) (hne : dx ≠ x) (hsz : us.length ≤ 100)
  (h : ∀ p n' s', s.heap.get? p = none → 316 ≤ p → Ext [x] [] s s' → s'.heap.get? p = some (Zaw [a, b]) → s'.heap.get? x = some (Zh 248 dx (us ++ [.ref p]) n') → RR (.ok (.ret .none)) s') :
  codeAny (model prog w) A (.call (.ref 192) ⟨[.ref x, a, b], []⟩) RR s := by
 refine Zie W R N.f192 [("self", .ref x), ("fws", a), ("string", b)] (fun _ _ _ _ _ => BindsTo.of_eq rfl) fun env s₁ hE hO hc C => ?_
 have RD := R.deeper (env := env)
 replace C := C.take hO hx hx3 (fun _ q => by cases q) (fun _ q => by cases q)
 refine Zq ?_
 refine Zi ?_
 refine C.expr ?_
 refine methodCall_KW ?_
 walk_at "N"
 refine Ze4 (W.ext C.ext).k T (C.led _ M0) (C.ext.at1 hne hd3 hd) N.app rfl ?_
 refine callWith_method1 ?_
 refine Za ?_
 refine Tuple_ ?_
 refine Za ?_
 walk_at "N"
 refine Za ?_
 walk_at "N"
 refine spliced_none ?_
 refine C.tup (by simp [sizeLine_eq]) ?_; clear C; intro p s C
 refine spliced_none ?_
 refine Zla (Zda (W.ext C.ext).k (C.led _ M1) T.kl.sub) (C.led _ M1) (kA ‹_› rfl) fun h' n' hs hg => ?_
 replace C := C.putL (tk := s.toks) J1 hs hg
 obtain ⟨o1, o2⟩ := C.own _ M0
 refine wpAny_execs_nil ?_
 have hp : p ≠ x := by
  have := C.nd
  simp at this
  exact this
 exact h p n' _ (o1.resolve_left fun q => hp (List.mem_singleton.mp q)) o2 C.ext (C.led _ M0) (C.led _ M1)
theorem Zh9 {M : Model} {o : Expr} {apos pos : Pos} {args : List Expr} {Q : Value → Shared → Prop}
  (h : wpAny M A (eval o env) (fun ov s₁ => wpAny M A (getAttr ov name true) (fun fv s₂ => wpAny M A (callWith pos fv [] (backTo pos (starEach args env)) []) Q E s₂) E s₁) E s)
  (hb : autoParam (∀ y, attributeBase o name env y = y) aI) (hfew : autoParam (methodCallForm (args.length + ([] : List Keyword).length) (backTo pos (starEach args env)) (backToKw pos (keywordEach [] env)) = false) aR) :
  wpAny M A (eval (.Call (.Attribute o name apos) args [] pos) env) Q E s := by
 show wpAny M A (do let ov ← attributeBase o name env (eval o env); standAt apos.atName; methodCall o name apos pos env ov (args.length + ([] : List Keyword).length) (backTo pos (starEach args env)) (backToKw pos (keywordEach [] env))) Q E s
 rw [hb]
 refine wpAny_bind (wpAny_mono h (fun ov s₁ h₁ => wpAny_bind (wpAny_standAt ?_)) fun _ _ x => x)
 unfold methodCall calleeOf methodCallPos
 rw [hfew]
 simp only [Bool.false_eq_true, if_false, Bool.not_false, Bool.true_or, if_true]
 refine wpAny_bind (wpAny_holding (wpAny_bind (wpAny_mono h₁ (fun fv s₂ h₂ => wpAny_pure ?_) fun _ _ x => x)))
 exact wpAny_bind (wpAny_pure h₂)
theorem Zoz {g : Addr} {expr : Bool} {Q : Value → Shared → Prop} (X' : K.In s.heap) (T : KA prog K cd) (hx : s.heap.get? x = some (Zh 248 dx us n)) (hdx : s.heap.get? dx = some od) (hf : findObj K 248 (some od) name = some (.bind (.builtin "function.__get__") (.ref g))) (hg : typeIn K (.ref g) = some (.type "function"))
  (h : Q (.ref s.heap.objs.size) { s with toks := s.toks + 1, heap := s.heap.push (methodObj (.ref g) (.ref x)) }) : wpAny (model prog w) A (getAttr (.ref x) name expr) Q E s := by
 have I := Zc7 hx hdx
 have L0 := I.type (M := model prog w)
 have L1 := looks_findIn (M := model prog w) X' T.ga
 have L2 := looks_findIn (M := model prog w) X' T.ci.gt
 have L3 := looks_find (M := model prog w) X' I hf
 obtain ⟨of, hof, hofc⟩ : ∃ of, s.heap.get? g = some of ∧ of.cls = .type "function" := by
  have ht' : (K.lookup g).map (·.cls) = some (.type "function") := hg
  cases z : K.lookup g with
  | none => rw [z] at ht'; cases ht'
  | some of => rw [z] at ht'; exact ⟨of, X' _ _ z, Option.some.inj ht'⟩
 obtain ⟨hp, gg, d, t, os⟩ := s
 unfold getAttr getAttrBy
 refine wpAny_bind (wpAny_mkText (wpAny_holding (wpAny_bind (L0.at (wpAny_bind (L1.at ?_))))))
 show wpAny _ _ (getAttrByItsOwn (.ref x) (.str name t) (.ref 248) (.builtin "list.__getattribute__") true expr) _ _ _
 unfold getAttrByItsOwn hookBefore callGetattribute boundAndCalled
 refine wpAny_bind ?_
 show wpAny _ _ (typeLookup (.ref 248) "__getattr__") _ _ _
 refine L2.at ?_
 refine wpAny_bind (wpAny_attempt (wpAny_holding ?_))
 rw [show (expr && onTheHeap (Value.builtin "list.__getattribute__")) = false by cases expr <;> rfl]
 simp only [Bool.false_eq_true, if_false]
 refine wpAny_bind (wpAny_of_eq (F.slot_list_ga.bind _) ?_)
 refine wpAny_mono (Q := fun r s' => r = .ref hp.objs.size ∧ s' = ⟨hp.push (methodObj (.ref g) (.ref x)), gg, d, t + 1, os⟩) (E := fun _ _ => False) ?_ (fun r s' hv => ?_) fun _ _ z => z.elim
 ·show wpAny _ _ (call (.builtin "list.__getattribute__") [.ref x, .str name t]) _ _ _
  refine Zgp "__getattribute__" (.inr (by kernel_rfl)) (by kernel_rfl) F.slot_list_ga.plain F.entry_list_ga (Zda X' hx T.kl.sub) (F.args_list_ga _ _) ?_
  unfold Builtin.«object.__getattribute__»
  refine wpAny_bind (wpAny_pure ?_)
  dsimp only
  refine wpAny_bind (wpAny_pure ?_)
  refine wpAny_bind (L0.at (wpAny_bind (L3.at ?_)))
  show wpAny _ _ (holding [.ref g] (call (.builtin "function.__get__") [.ref g, .ref x, .ref 248]) >>= ret) _ _ _
  refine wpAny_bind (wpAny_holding ?_)
  have hTf : (⟨hp, gg, d, t + 1, os⟩ : Shared).TypeIs (.ref g) "function" := ⟨_, hof, hofc⟩
  refine wpAny_call_entry PySem.F.ks_slot_function_get hTf PySem.F.ks_entry_function_get ?_ (PySem.F.ks_getArgs_function _ _ _)
  unfold Builtin.«function.__get__»
  refine wpAny_bind (wpAny_pure ?_)
  show wpAny _ _ (newFields "method" [.ref g, .ref x] >>= ret) _ _ _
  unfold newFields
  refine wpAny_bind (wpAny_newObj_type ?_ (by size_fits))
  exact wpAny_pure ⟨_, rfl, wpAny_pure ⟨_, rfl, rfl, rfl⟩⟩
 ·obtain ⟨rfl, rfl⟩ := hv
  show wpAny _ _ (handedOut _) _ _ _
  rw [handedOut_of rfl]
  exact wpAny_pure h
theorem Zjf {b g : Addr} {self : Value} {e : Expr} {p pos : Pos} {Q : Value → Shared → Prop} (hf : fnIn K g = true)
  (h : wpAny (model prog w) A (eval e env) (fun v s₁ => StarOf (model prog w) A E v (fun vs s₂ => MethP K b g self s₂.heap ∧ wpAny (model prog w) A (call (.ref b) ([] ++ vs)) Q E s₂) s₁) E s)
  (he : autoParam (starEach [.Starred e p] env = [(true, eval e env)]) aR) : wpAny (model prog w) A (callWith pos (.ref b) [] (backTo pos (starEach [.Starred e p] env)) []) Q E s := by
 rw [he]
 exact ks_call rfl (keeps_M hf) (ks_lone h)
theorem FnK.fnIn {f c : Addr} {qual : Str} {st : Stmt} {cl : List (Str × Addr)} {dV : Value} (h : FnK K f name qual st cl dV c) : fnIn K f = true := by
 refine Zbv h fun oc od osl kV doc pm an ct e1 e2 => ?_
 unfold PySem.W.fnIn
 rw [e1]
theorem Zio {σ : Shared} (W : Wd K σ.heap) (G : KG K) (R : Zk A 16) (T : KA prog K cd) (N : KM prog K) (Y : KF K cdF) (hbp : ∀ t t', findObj K 248 (some (Zay w t t')) (ofString "push") = some (.bind (.builtin "function.__get__") (.ref 192))) {q : Za7} {Q : Value → Shared → Prop} (F : Fmt w σ.heap f dF Ls x dx (ml : Nat) lines (ps ++ [q])) (hn : ps.length ≤ 90) (hb : Z2 (ps ++ [q]) ≤ 100000) (hln : lines.length ≤ 90)
  (hq : ¬ (q.2.1.1 = [32] ∧ q.2.2.1 = [])) (h0 : Z2 (ps ++ [q]) ≠ 0) (hs : ∃ c ∈ Zav (ps ++ [q]), Unicode.isSpace c = false)
  (h : ∀ s', Ext [dx, x, Ls] [] σ s' → Fmt w s'.heap f dF Ls x dx (ml : Nat) (lines ++ [Zav (ps ++ [q])]) [] → Q .none s') :
  wpAny (model prog w) A (call (.ref 126) [.ref f]) Q E σ := by
 obtain ⟨hf, ⟨k, hd⟩, ⟨oL, uL, hL, hLp, hLs⟩, ac, f3, d3, l3, nd⟩ := F
 refine Z9 ac.hx fun us n hx hpp => ?_
 refine Zcv ac.hd fun τ t' hdx => ?_
 have hnot := ac.notin
 have x3 := ac.x3
 have dx3 := ac.d3
 have hus := hpp.1
 subst hus
 have nd0 := nd
 simp only [List.nodup_cons, List.mem_cons, List.not_mem_nil, or_false, not_or, not_false_eq_true, List.nodup_nil, and_true] at nd
 obtain ⟨⟨n1, n2, n3, n4⟩, ⟨n5, n6, n7⟩, ⟨n8, n9⟩, n10⟩ := nd
 have nfX : f ∉ [dx, x, Ls] := by simp [n4, n3, n2]
 have ndX : dF ∉ [dx, x, Ls] := by simp [n7, n6, n5]
 have hLo := hLp
 obtain ⟨nL, rfl⟩ := hLo
 have hpL : ∀ q' ∈ ps ++ [q], q'.1 ≠ Ls := fun q' hq e => by
  have h1 := (hpp.2 q' hq).2
  rw [e, hL] at h1
  have := congrArg Obj.cls (Option.some.inj h1)
  simp at this
 have pX : ∀ q' ∈ ps ++ [q], q'.1 ∉ [dx, x, Ls] := fun q' hq => by simp [(hnot q' hq).1, (hnot q' hq).2, hpL q' hq]
 refine Zw W R Y.f126 [("self", .ref f)] (fun _ _ _ _ _ => BindsTo.of_eq rfl) fun env s₁ hE hO hc C => ?_
 have RD := R.deeper (env := env) (n := 15)
 have C0 := C.ext
 replace C := C.take hO hL l3 (fun _ q => by cases q) (fun _ q => by cases q)
 replace C := C.takeM hO hx (C0.get x3 hx) x3 (by simpa using Ne.symm n8) (fun _ q => by cases q) (fun _ q => by cases q)
 replace C := C.takeM hO hdx (C0.get dx3 hdx) dx3 (by simpa using ⟨Ne.symm n10, Ne.symm n9⟩) (fun _ q => by cases q) (fun _ q => by cases q)
 refine Zq ?_
 refine xca ?_
 refine methodCall_KW ?_
 refine Zaq ?_
 walk_at "N"
 refine C.getF W Y hf hd f3 d3 nfX ndX (by walk_at "M") rfl rfl ?_; clear C; intro s C
 refine Zae (Zbg N (q := ("pop", 208)) (by walk_at "M")) fun m1 m2 m3 => ?_
 refine Zb4 (W.ext C.ext).k T (C.led _ M1) (C.led _ M0) m1 m2 rfl ?_
 refine callWith_K0 (W.ext C.ext).k m3 ?_
 have hum : ((ps ++ [q]).map fun q => Value.ref q.1) = (ps.map fun q => Value.ref q.1) ++ [.ref q.1] := by simp
 rw [hum] at C
 refine Zog (W.ext C.ext) G RD.le T N (C.led _ M1) x3 (C.led _ M0) dx3 (Ne.symm n10) (by rw [List.length_map]; exact kA ‹_› rfl) fun n1' s1 e1 g1 => ?_
 replace C := C.put e1 J1 g1
 refine C.st hO hc (by walk_at "K") ?_; clear C; intro s C
 have tupq : ∀ {vs s l}, Loc env σ [dx, x, Ls] vs l s → s.heap.get? q.1 = some (oPd q) := fun {vs s l} C => C.ext.keepX (pX q (by simp)) (hpp.2 q (by simp)).1 (hpp.2 q (by simp)).2
 refine xci ?_
 refine Z0 ?_
 walk_at "N"
 refine Tuple_ ?_
 refine Za ?_
 refine C.cstr ?_; clear C; intro s _ C
 refine Za ?_
 refine C.cstr ?_; clear C; intro s _ C
 refine spliced_none ?_
 refine C.tup (by simp [sizeLine_eq]) ?_; clear C; intro b s C
 refine Zrb (g := [32]) (q := []) (tupq C) (C.led _ M0) RD.ul (wpAny_truthy_bool ?_)
 have hqb : (!(q.2.1.1 == [32] && q.2.2.1 == [])) = true := by
  rw [Bool.not_eq_true', Bool.and_eq_false_iff]
  by_cases h1 : q.2.1.1 = [32]
  ·right; rw [beq_eq_false_iff_ne]; exact fun h2 => hq ⟨h1, h2⟩
  ·left; rw [beq_eq_false_iff_ne]; exact h1
 refine ifT hqb ?_
 replace C := C.sub (List.sublist_cons_self _ _)
 refine Zi ?_
 refine C.expr ?_
 refine Zh9 ?_
 refine Zaq ?_
 walk_at "N"
 refine C.getF W Y hf hd f3 d3 nfX ndX (by walk_at "M") rfl rfl ?_; clear C; intro s C
 refine Zae (Zbg N (q := ("push", 192)) (by walk_at "M")) fun m4 m5 m6 => ?_
 refine Zoz (W.ext C.ext).k T (C.led _ M1) (C.led _ M0) (hbp τ t') m5 ?_
 have xm : Ext [] [] s { s with toks := s.toks + 1, heap := s.heap.push (methodObj (.ref 192) (.ref x)) } := C.extK Zd
 replace C := C.add xm Zc C.big (Heap.get?_push_size _ rfl)
 refine Zjf (self := .ref x) N.f192.fnIn ?_
 walk_at "N"
 refine C.starT (tupq C) (by simp) ?_; clear C; intro s' C
 refine ⟨⟨C.led _ M0, (W.ext C.ext).k⟩, ?_⟩
 refine wpAny_call (ks_codeAny_call_bound (C.led _ M0) ?_)
 refine Zm1 (W.ext C.ext) RD.le T N (C.led _ M2) x3 (C.led _ M1) dx3 (Ne.symm n10) (by rw [List.length_map]; exact kA ‹_› rfl) fun a n2' s2 q0 q3 e2 g1 g2 => ?_
 replace C := C.sub (List.sublist_cons_self _ _)
 have C2 := C.put e2 J1 g2
 have hXs : ∀ p ∈ [dx, x, Ls], ∃ o, s'.heap.get? p = some o := fun p hp => by
  rcases List.mem_cons.mp hp with rfl | hp
  ·exact ⟨_, C.led _ M0⟩
  ·rcases List.mem_cons.mp hp with rfl | hp
   ·exact ⟨_, C.led _ M1⟩
   ·rw [List.mem_singleton.mp hp]; exact ⟨_, C.led _ M2⟩
 replace C := C.learnNew C2 (fun a ha => ha) q0 hXs q3 g1 (fun _ q => by cases q)
 obtain ⟨P, hP⟩ : ∃ P : Za7, P = (a, q.2) := ⟨_, rfl⟩
 have hmap : (ps.map fun q => Value.ref q.1) ++ [Value.ref a] = (ps ++ [P]).map fun q => Value.ref q.1 := by rw [hP]; simp
 rw [hmap] at C
 have htup : Zaw [Value.str (mkS q.2.1.1) q.2.1.2, .str (mkS q.2.2.1) q.2.2.2] = oPd P := by rw [hP]
 have hq1 : a = P.1 := by rw [hP]
 rw [htup, hq1] at C
 replace C : Loc env σ [dx, x, Ls] _ [(P.1, oPd P), (dx, Zay w τ t'), (x, oXd dx (ps ++ [P]) n2'), (Ls, oLd uL nL)] _ := C
 have hlP : Z2 (ps ++ [P]) = Z2 (ps ++ [q]) := by rw [hP]; simp [Z2]
 have htP : Zav (ps ++ [P]) = Zav (ps ++ [q]) := by rw [hP]; simp [Zav]
 have acu : ∀ {vs s l4}, Loc env σ [dx, x, Ls] vs ((P.1, oPd P) :: (dx, Zay w τ t') :: (x, oXd dx (ps ++ [P]) n2') :: l4) s → Acu w s.heap x dx (ps ++ [P]) := fun {vs s l4} C =>
  C.acu M2 M1 (Ne.symm n10) fun r hr => by
   rcases List.mem_append.mp hr with hr | hr
   ·exact ⟨(hpp.2 r (List.mem_append_left _ hr)).1, .inl ⟨(hpp.2 r (List.mem_append_left _ hr)).2, pX r (List.mem_append_left _ hr)⟩⟩
   ·rw [List.mem_singleton.mp hr]; exact ⟨hq1 ▸ q3, .inr M0⟩
 rw [← hlP] at hb h0
 rw [← htP] at hs h
 have hpl : (ps ++ [P]).length ≤ 100 := by rw [List.length_append]; simp; exact kA ‹_› rfl
 refine wpAny_execs_nil ?_
 refine xci ?_
 refine Z0 ?_
 refine Zf ?_
 walk_at "B"
 refine xb1 ?_
 refine Za ?_
 refine Zaq ?_
 walk_at "N"
 refine C.getF W Y hf hd f3 d3 nfX ndX (by walk_at "M") rfl rfl ?_; clear C; intro s C
 refine spliced_none ?_
 refine C.lenAcc W G RD.le T N (acu C) hb ?_; clear C; intro u s e C
 refine C.cint ?_; clear C; intro s t C
 refine gt_int (wpAny_truthy_bool ?_)
 refine ifP (by simp; exact Nat.pos_of_ne_zero h0) ?_
 refine xci ?_
 refine isTrue_and ?_
 refine Zb1 ?_
 refine methodCall_KW ?_
 refine Zaq ?_
 walk_at "N"
 refine C.getF W Y hf hd f3 d3 nfX ndX (by walk_at "M") rfl rfl ?_; clear C; intro s C
 refine Zae (Zbg N (q := ("is_onlyws", 237)) (by walk_at "M")) fun m7 m8 m9 => ?_
 refine Zb4 (W.ext C.ext).k T (C.led _ M2) (C.led _ M1) m7 m8 rfl ?_
 refine callWith_K0 (W.ext C.ext).k m9 ?_
 refine Zi0 (W.ext C.ext) G RD.le T N (acu C) hb hpl h0 hs fun s' e => ?_
 replace C := C.pure e
 refine wpAny_truthy_bool ?_
 refine ifN (by decide) ?_
 refine ifN (by decide) ?_
 refine Zi ?_
 refine C.expr ?_
 refine Zbk ?_
 refine Zaq ?_
 walk_at "N"
 refine C.getF W Y hf hd f3 d3 nfX ndX (by walk_at "M") rfl rfl ?_; clear C; intro s C
 have hLn : Zce (oLd uL nL) uL := ⟨nL, rfl⟩
 refine Zbt "list" "list.append" PySem.F.plainAttrs_list PySem.F.slot_list_append PySem.F.type_list_append (hLn.lo.at (C.led (Ls, _) M3)).typeIs (fun a' x => ?_) (callWith_method1 ?_)
 ·cases x
  exact ⟨_, C.led (Ls, _) M3, rfl⟩
 refine Za ?_
 refine Zf ?_
 walk_at "B"
 refine xt1 ?_
 refine Za ?_
 refine Zaq ?_
 walk_at "N"
 refine C.getF W Y hf hd f3 d3 nfX ndX (by walk_at "M") rfl rfl ?_; clear C; intro s C
 refine spliced_none ?_
 refine C.strAcc W G RD.le T N (acu C) hb hpl ?_; clear C; intro tS s _ C
 refine spliced_none ?_
 have hul : uL.length ≤ 90 := by rw [hLs.length, List.length_map]; exact hln
 refine C.appendP (L' := fun o' => [(P.1, oPd P), (dx, Zay w τ t'), (x, oXd dx (ps ++ [P]) n2'), (Ls, o')]) (fun o' => J3) hLn (kB ‹_› rfl) ?_; clear C; intro oL' s hoL C
 refine wpAny_execs_nil ?_
 refine wpAny_execs_nil ?_
 refine Zi ?_
 refine C.expr ?_
 refine methodCall_KW ?_
 refine Zaq ?_
 walk_at "N"
 refine C.getF W Y hf hd f3 d3 nfX ndX (by walk_at "M") rfl rfl ?_; clear C; intro s C
 refine Zae (Zbg N (q := ("reset", 230)) (by walk_at "M")) fun ma mb mc => ?_
 refine Zb4 (W.ext C.ext).k T (C.led _ M2) (C.led _ M1) ma mb rfl ?_
 refine callWith_K0 (W.ext C.ext).k mc ?_
 refine Znv (W.ext C.ext) G RD.le T N (acu C) hpl (rs := []) (by simp) (.inl ⟨rfl, rfl⟩) (.inl ⟨rfl, rfl⟩) (fun _ q => nomatch q) fun s4 e4 H4 => ?_
 refine wpAny_execs_nil ?_
 have e4' : Ext [dx, x, Ls] [] s s4 := e4.mono (fun _ hp => by
  simp only [List.mem_cons, List.not_mem_nil, or_false] at hp ⊢
  exact hp.elim .inl fun q => .inr (.inl q)) (fun _ q => q)
 have eA := C.ext.trans e4'
 refine h _ eA ⟨eA.keepX nfX f3 hf, ⟨k, eA.keepX ndX d3 hd⟩, ⟨oL', uL ++ [.str (mkS (Zav (ps ++ [P]))) tS], e4.keepX (by simp [n8, n9]) l3 (C.led (Ls, _) M3), hoL, ?_⟩, H4, f3, d3, l3, nd0⟩
 rw [List.map_append]
 exact strsAre_append hLs (.cons _ _ .nil)
theorem Loc.apart (C : Loc env s₀ X vs l s) (O : Zbw env s₀) {p : Addr} (h0 : ∃ o, s₀.heap.get? p = some o) (h1 : ∃ o, s.heap.get? p = some o ∧ ∀ v, o.data ≠ .cell v) : p ≠ env.locals ∧ ∀ x, env.cells.lookup x ≠ some p := by
 refine ⟨fun q => ?_, fun y q => ?_⟩
 ·obtain ⟨o, e⟩ := h0
  rw [q, O.1] at e; cases e
 ·refine Zo h1 fun o e hn => ?_
  refine Zcs (C.fr.cel y p q) fun _ v o' e' d => ?_
  rw [e] at e'; cases e'
  exact hn v d
theorem Loc.stepX (C : Loc env s₀ X vs l s) (O : Zbw env s₀) (hY : ∀ p ∈ Y, p ∈ X ∧ (∃ o, s₀.heap.get? p = some o) ∧ (∃ o, s.heap.get? p = some o ∧ ∀ v, o.data ≠ .cell v) ∧ p ∉ l.map (·.1)) (e : Ext Y [] s s') : Loc env s₀ X vs l s' :=
 C.step e (fun p hp => ⟨.inl (hY p hp).1, (C.apart O (hY p hp).2.1 (hY p hp).2.2.1).1, (C.apart O (hY p hp).2.1 (hY p hp).2.2.1).2, (hY p hp).2.2.2⟩) (fun _ h => nomatch h)
theorem Fmt.objs (F : Fmt w s.heap f dF Ls x dx (ml : Nat) lines ps) : ∀ p ∈ [dx, x, Ls], ∃ o, s.heap.get? p = some o ∧ ∀ v, o.data ≠ .cell v := by
 obtain ⟨hf, hd, ⟨oL, uL, hL, ⟨nL, rfl⟩, hLs⟩, ac, _⟩ := F
 refine Z9 ac.hx fun us n hx hpp => ?_
 refine Zcv ac.hd fun τ t' hdx => ?_
 intro p hp
 rcases List.mem_cons.mp hp with rfl | hp
 ·exact ⟨_, hdx, fun v q => by cases q⟩
 ·rcases List.mem_cons.mp hp with rfl | hp
  ·exact ⟨_, hx, fun v q => by cases q⟩
  ·rw [List.mem_singleton.mp hp]; exact ⟨_, hL, fun v q => by cases q⟩
theorem Fmt.ext {s s' : Shared} (e : Ext [] [] s s') (F : Fmt w s.heap f dF Ls x dx (ml : Nat) lines ps) : Fmt w s'.heap f dF Ls x dx (ml : Nat) lines ps :=
 ⟨e.get F.f3 F.hf, F.hd.elim fun k h => ⟨k, e.get F.d3 h⟩, Zch F.hl fun o us a b c => ⟨o, us, e.get F.l3 a, b, c⟩, F.ac.ext e, F.f3, F.d3, F.l3, F.nd⟩
theorem Zlu {σ : Shared} (W : Wd K σ.heap) (G : KG K) (R : Zk A 18) (T : KA prog K cd) (N : KM prog K) (Y : KF K cdF) (hbp : ∀ t t', findObj K 248 (some (Zay w t t')) (ofString "push") = some (.bind (.builtin "function.__get__") (.ref 192))) {q : Za7} {sep : List Nat} {ts : Tok} {Q : Value → Shared → Prop}
  (F : Fmt w σ.heap f dF Ls x dx (ml : Nat) lines (ps ++ [q])) (hn : ps.length ≤ 90) (hb : Z2 (ps ++ [q]) ≤ 100000) (hln : lines.length ≤ 90) (hsep : sep.length ≤ 10) (hll : ∀ y ∈ lines, y.length ≤ 1000) (htl : (Zav (ps ++ [q])).length ≤ 1000)
  (hq : ¬ (q.2.1.1 = [32] ∧ q.2.2.1 = [])) (h0 : Z2 (ps ++ [q]) ≠ 0) (hs : ∃ c ∈ Zav (ps ++ [q]), Unicode.isSpace c = false)
  (h : ∀ u s', Ext [dx, x, Ls] [] σ s' → Q (.str (mkS (jn sep (lines ++ [Zav (ps ++ [q])]))) u) s') :
  wpAny (model prog w) A (call (.ref 112) [.ref f, .str (mkS sep) ts]) Q E σ := by
 refine Zw W R Y.f112 [("self", .ref f), ("linesep", .str (mkS sep) ts)] (fun _ _ _ _ _ => BindsTo.of_eq rfl) fun env s₁ hE hO hc C => ?_
 have RD := R.deeper (env := env) (n := 17)
 refine Zq ?_
 refine Zi ?_
 refine C.expr ?_
 refine methodCall_KW ?_
 walk_at "N"
 refine Zae (Y.m ("newline", 126) (by walk_at "M")) fun m1 m2 m3 => ?_
 obtain ⟨k, hd⟩ := (F.ext C.ext).hd
 refine method_fn (od := some (Zh2 w k (ml : Nat) Ls x)) (W.ext C.ext).k ⟨(F.ext C.ext).hf, rfl, rfl, hd⟩ Y.ci.ga Y.ci.gt m1 m2 rfl ?_
 refine callWith_K0 (W.ext C.ext).k m3 ?_
 refine Zio (W.ext C.ext) G RD.le T N Y hbp (F.ext C.ext) hn hb hln hq h0 hs fun s2 e2 F2 => ?_
 replace C := (C.monoX (Y := [dx, x, Ls]) (fun _ q => nomatch q)).stepX hO (fun p hp => ⟨hp, Zo (F.objs p hp) fun o e _ => ⟨o, e⟩, (F.ext C.ext).objs p hp, by simp⟩) e2
 refine Zch F2.hl fun oL uL hL hLp hLs => ?_
 refine Zch F.hl fun oL0 uL0 hL0 hLp0 hLs0 => ?_
 replace C := C.learn hL ⟨.inl (by simp), F2.l3⟩ (C.apart hO ⟨_, hL0⟩ (F2.objs Ls (by simp))) (by simp) (fun fd q => by obtain ⟨_, rfl⟩ := hLp; cases q)
 obtain ⟨k0, hd0⟩ := F.hd
 have nd := F.nd
 simp only [List.nodup_cons, List.mem_cons, List.not_mem_nil, or_false, not_or, not_false_eq_true, List.nodup_nil, and_true] at nd
 obtain ⟨⟨n1, n2, n3, n4⟩, ⟨n5, n6, n7⟩, ⟨n8, n9⟩, n10⟩ := nd
 refine xcr ?_
 refine Zbk ?_
 walk_at "N"
 refine Zbt "str" "str.join" PySem.F.plainAttrs_str PySem.F.slot_str_join PySem.F.type_str_join (typeIs_str _ _ _) (fun _ x => by cases x) (callWith_method1 ?_)
 refine Za ?_
 refine Zaq ?_
 walk_at "N"
 refine C.getF W Y F.hf hd0 F.f3 F.d3 (by simp [n4, n3, n2]) (by simp [n7, n6, n5]) (by walk_at "M") rfl rfl ?_; clear C; intro s C
 refine spliced_none ?_
 refine C.joinM M0 hLp.lo hLs (B := 1000) (fun y hy => ?_) ?_ fun s u C => ?_
 ·rcases List.mem_append.mp hy with hy | hy
  ·exact hll y hy
  ·rw [List.mem_singleton.mp hy]; exact htl
 ·rw [List.length_append]
  have h1 : lines.length + [Zav (ps ++ [q])].length ≤ 91 := by simp; lia
  have h2 : (lines.length + [Zav (ps ++ [q])].length) * 1000 ≤ 91 * 1000 := Nat.mul_le_mul_right _ h1
  have h3 : (lines.length + [Zav (ps ++ [q])].length) * sep.length ≤ 91 * 10 := Nat.mul_le_mul h1 hsep
  lia
 ·exact h u _ C.ext
theorem Loc.forS {α : Type} (P : Nat → α → Shared → Prop) (V : Nat → α → List (String × Value)) (Ld : Nat → α → List (Addr × Obj)) {target : Expr} {body orelse : List Stmt} {R : Result → Shared → Prop} {n : Nat} {O : Nat → Obj → Prop} {Pv : Nat → Value → Prop} {side : Heap → Prop} {d0 : α} {I : Addr} {oI : Obj}
  (S : Zdr prog w A n O Pv side) (hI : s₀.heap.get? I = none) (hO : O 0 oI) (C : Loc env s₀ X (V 0 d0) ((I, oI) :: Ld 0 d0) s) (h0 : P 0 d0 s)
  (hst : ∀ i d s h' tk, P i d s → (∀ b o, b ≠ I → s.heap.get? b = some o → h'.get? b = some o) → P i d { s with heap := h', toks := tk })
  (hl : ∀ i d oI s', P i d s' → Loc env s₀ X (V i d) ((I, oI) :: Ld i d) s' → side s'.heap)
  (turn : ∀ i d oI u s', i < n → Pv i u → P i d s' → Loc env s₀ X (V i d) ((I, oI) :: Ld i d) s' →
   wpAny (model prog w) A (assign target env u) (fun _ s₁ => wpAny (model prog w) A (execs body env) (fun f s₂ => match f with
    | .next | .cont => ∃ d', P (i + 1) d' s₂ ∧ Loc env s₀ X (V (i + 1) d') ((I, oI) :: Ld (i + 1) d') s₂
    | .brk => R (.ok .next) s₂
    | .ret v => R (.ok (.ret v)) s₂) (fun _ _ => False) s₁) (fun _ _ => False) s')
  (done : ∀ d s', P n d s' → Loc env s₀ X (V n d) (Ld n d) s' → wpAny (model prog w) A (execs orelse env) (fun f s₂ => R (.ok f) s₂) (fun _ _ => False) s')
  (ht : autoParam (∀ I v, letOwnedTupleGo target I v = Pure.pure ()) aJ) :
  codeAny (model prog w) A (.forLoop target (.ref I) body orelse env) R s := by
 refine codeAny_forLoop_any (fun k s' => ∀ T_ : Prop, (∀ i d oI, k = n + 1 - i → i ≤ n → P i d s' → O i oI → Loc env s₀ X (V i d) ((I, oI) :: Ld i d) s' → T_) → T_) ?_ (n + 1) (fun _ kk => kk 0 d0 _ (by lia) (Nat.zero_le _) h0 hO C)
 intro k s' hh
 refine hh _ fun i d oI eK hi hP hO CI => ?_; clear hh; subst eK
 have sd := hl i d oI s' hP CI
 have it := CI.led _ M0
 by_cases hlt : i < n
 ·refine S.item i I s' _ _ hlt ⟨oI, it, hO⟩ sd fun u h' tk hu hit hs => ?_
  refine Zo hit fun oJ q1 q2 => ?_
  have x1 : Ext [I] [] s' { s' with heap := h', toks := tk } := Ext.same (CI.own _ M0).2 (Z5 it (S.nc _ _ hO)) M0 hs ⟨oJ, q1⟩
  have CJ := CI.put x1 J0 q1 (S.nc _ _ q2).2
  refine wpAny_of_eq (ht _ _) ?_
  refine wpAny_mono (turn i d oJ u _ hlt hu (hst i d s' h' tk hP fun b o hb e => (hs.2 b hb).trans e) CJ) (fun _ s₁ h₁ => wpAny_mono h₁ (fun f s₂ h₂ => ?_) fun _ _ q => q.elim) fun _ _ q => q.elim
  cases f with
  | next =>
   refine Zo h₂ fun d' hP' C' => ?_
   exact ⟨_, nD hlt, fun _ kk => kk (i + 1) d' oJ rfl hlt hP' q2 C'⟩
  | cont =>
   refine Zo h₂ fun d' hP' C' => ?_
   exact ⟨_, nD hlt, fun _ kk => kk (i + 1) d' oJ rfl hlt hP' q2 C'⟩
  | brk => exact h₂
  | ret v => exact h₂
 ·have : i = n := by lia
  subst this
  refine S.done I s' _ _ ⟨oI, it, hO⟩ sd fun h' tk hx => ?_
  exact wpAny_mono (done d _ (hst i d s' h' tk hP hx) (CI.die rfl hI (S.nc _ _ hO) hx)) (fun _ _ q => q) (fun _ _ q => q.elim)
theorem Zot {α : Type} {l : List α} {i d w : Nat} (h : i ≤ d + w) : ((l.take i).drop d).length ≤ w := by
 rw [List.length_drop, List.length_take]; exact Nat.sub_le_of_le_add (Nat.le_trans (Nat.min_le_left _ _) (Nat.add_comm d w ▸ h))
noncomputable def Zr (ps : List Za7) : List (List Nat × List Nat) := ps.map fun q => (q.2.1.1, q.2.2.1)
noncomputable def Zj (apart : Bool) (l : List (List Nat)) : List (List Nat × List Nat) := if apart then l.flatMap fun nm => [([32], []), ([], nm)] else l.map fun nm => ([32], nm)
noncomputable def Ze6 (nms : List (List Nat)) (w i : Nat) : List Nat := ((nms.drop (i * w)).take w).flatMap fun nm => 32 :: nm
structure Zco (apart : Bool) (nms : List (List Nat)) (w j : Nat) (lines : List (List Nat)) (ps : List Za7) : Prop where
 li : lines = (List.range ((j - 1) / w)).map (Ze6 nms w)
 co : Zr ps = Zj apart ((nms.take j).drop ((j - 1) / w * w))
theorem Zb5 (ps : List Za7) : Z2 ps = ((Zr ps).map fun q => q.1.length + q.2.length).sum := by
 unfold Z2 Zr
 rw [List.map_map]; rfl
theorem Zcw (ps : List Za7) : Zav ps = (Zr ps).flatMap fun q => q.1 ++ q.2 := by
 unfold Zav Zr
 rw [List.flatMap_map]
theorem Zbq (apart : Bool) {l : List (List Nat)} {L : Nat} (h : ∀ x ∈ l, x.length = L) : ((Zj apart l).map fun q => q.1.length + q.2.length).sum = l.length * (L + 1) := by
 induction l with
 | nil => cases apart <;> simp [Zj]
 | cons x r ih =>
  have ih := ih fun y hy => h y (.tail _ hy)
  have hx := h x M0
  cases apart
  ·simp only [Zj, Bool.false_eq_true, if_false, List.map_cons, List.sum_cons, List.length_cons, List.length_nil] at ih ⊢
   rw [ih, hx, Nat.succ_mul]; lia
  ·simp only [Zj, if_true, List.flatMap_cons, List.map_append, List.sum_append, List.map_cons, List.sum_cons, List.map_nil, List.sum_nil, List.length_cons, List.length_nil] at ih ⊢
   rw [ih, hx, Nat.succ_mul]; lia
theorem Zcl (apart : Bool) (l : List (List Nat)) : ((Zj apart l).flatMap fun q => q.1 ++ q.2) = l.flatMap fun nm => 32 :: nm := by
 cases apart
 ·simp only [Zj, Bool.false_eq_true, if_false, List.flatMap_map]; rfl
 ·simp only [Zj, if_true, List.flatMap_assoc]
  congr 1
  funext nm
  simp
theorem Zbo (apart : Bool) (a b : List (List Nat)) : Zj apart (a ++ b) = Zj apart a ++ Zj apart b := by
 cases apart <;> simp [Zj]
theorem Zdg (apart : Bool) (l : List (List Nat)) : (Zj apart l).length ≤ 2 * l.length := by
 cases apart
 ·simp [Zj]; simp +arith
 ·simp only [Zj, if_true]
  rw [List.length_flatMap]
  induction l with
  | nil => simp
  | cons x r ih =>
   rw [List.map_cons, List.sum_cons, List.length_cons]
   simp only [List.length_cons, List.length_nil] at ih ⊢
   simp +arith [*]
theorem Zqi {l : List (List Nat)} (h : l ≠ []) : 32 :: jn [32] l = l.flatMap fun nm => 32 :: nm := by
 cases l with
 | nil => exact absurd rfl h
 | cons x r => simp [jn]
theorem Zh6 {nms : List (List Nat)} {rows w : Nat} (hw : 0 < w) (h : nms.length = rows * w) : Zbb nms rows w = jn [10] ((List.range rows).map (Ze6 nms w)) := by
 unfold Zbb
 congr 1
 apply List.map_congr_left
 intro i hi
 have hi := List.mem_range.mp hi
 refine Zqi (fun e => ?_)
 have := congrArg List.length e
 rw [List.length_take, List.length_drop, h] at this
 have h2 : (i + 1) * w ≤ rows * w := Nat.mul_le_mul_right _ hi
 rw [Nat.succ_mul] at h2
 simp at this
 exact this.elim (Nat.ne_of_gt hw) (Nat.ne_of_gt (Nat.sub_pos_of_lt (Nat.lt_of_lt_of_le (Nat.lt_add_of_pos_right hw) h2)))
theorem Zow (apart : Bool) (nms : List (List Nat)) (w : Nat) : Zco apart nms w 0 [] [] := by
 refine ⟨?_, ?_⟩
 ·simp
 ·cases apart <;> simp [Zr, Zj]
theorem Zdd {w j : Nat} (hw : 0 < w) : (j - 1) / w * w ≤ j ∧ j ≤ (j - 1) / w * w + w := by
 have h1 := Nat.div_mul_le_self (j - 1) w
 have h2 := Nat.lt_div_mul_add hw (a := j - 1)
 exact ⟨Nat.le_trans h1 (Nat.sub_le _ _), Nat.le_of_pred_lt h2⟩
theorem Znm {apart : Bool} {nms : List (List Nat)} {w j : Nat} {lines : List (List Nat)} {ps ps2 : List Za7} {nm : List Nat} (hw : 0 < w) (I : Zco apart nms w j lines ps) (hj : nms[j]? = some nm) (h2 : Zr ps2 = Zr ps ++ Zj apart [nm]) :
  Zr ps2 = Zj apart ((nms.take (j + 1)).drop ((j - 1) / w * w)) ∧ ((nms.take (j + 1)).drop ((j - 1) / w * w)).length = j - (j - 1) / w * w + 1 := by
 have hlt : j < nms.length := (List.getElem?_eq_some_iff.mp hj).1
 have hb := (Zdd (w := w) (j := j) hw).1
 have e : (nms.take (j + 1)).drop ((j - 1) / w * w) = (nms.take j).drop ((j - 1) / w * w) ++ [nm] := by
  rw [List.take_add_one, hj, List.drop_append_of_le_length (by rw [List.length_take]; exact Nat.le_min.mpr ⟨hb, Nat.le_trans hb (Nat.le_of_lt hlt)⟩)]; rfl
 refine ⟨?_, ?_⟩
 ·rw [h2, I.co, e, Zbo]
 ·rw [List.length_drop, List.length_take, Nat.min_eq_left hlt, Nat.succ_sub hb]
theorem Zos {apart : Bool} {nms : List (List Nat)} {w j L : Nat} {lines lines' : List (List Nat)} {ps ps2 ps' : List Za7} {nm : List Nat} (hw : 0 < w) (hL : ∀ x ∈ nms, x.length = L) (I : Zco apart nms w j lines ps) (hj : nms[j]? = some nm) (h2 : Zr ps2 = Zr ps ++ Zj apart [nm])
  (hc : Zh4 (w * (L + 1)) lines ps2 lines' ps') : Zco apart nms w (j + 1) lines' ps' := by
 obtain ⟨c2, l2⟩ := Znm hw I hj h2
 obtain ⟨b1, b2⟩ := Zdd (w := w) (j := j) hw
 have hlt : j < nms.length := (List.getElem?_eq_some_iff.mp hj).1
 have hlen : Z2 ps2 = (j - (j - 1) / w * w + 1) * (L + 1) := by
  rw [Zb5, c2, Zbq apart (L := L) fun x hx => hL x (List.mem_of_mem_take (List.mem_of_mem_drop hx)), l2]
 have hli := I.li
 have hco := I.co
 generalize hr : (j - 1) / w = r at *
 rcases hc with ⟨h, rfl, rfl⟩ | ⟨h, pre, hne, e, rfl, hsh⟩
 ·rw [hlen] at h
  have h := Nat.le_of_mul_le_mul_right h (Nat.succ_pos L)
  have hdiv : (j + 1 - 1) / w = r := by
   rw [Nat.add_sub_cancel]
   refine Nat.div_eq_of_lt_le b1 ?_
   rw [Nat.succ_mul]; exact Nat.lt_of_not_le fun q => Nat.not_le.mpr h (Nat.le_sub_of_add_le (Nat.add_comm _ _ ▸ q))
  exact ⟨by rw [hdiv]; exact hli, by rw [hdiv]; exact c2⟩
 ·rw [hlen] at h
  have h := Nat.lt_of_mul_lt_mul_right h
  have hjr : j = r * w + w := Nat.le_antisymm b2 (Nat.add_comm w _ ▸ Nat.add_le_of_le_sub b1 (Nat.le_of_lt_succ h))
  have hdiv : (j + 1 - 1) / w = r + 1 := by
   rw [Nat.add_sub_cancel]
   refine Nat.div_eq_of_lt_le ?_ ?_
   ·rw [Nat.succ_mul]; simp +arith [*]
   ·rw [Nat.succ_mul, Nat.succ_mul]; simp +arith [*]
  have hcc : Zr pre ++ Zr ps' = Zr ps ++ Zj apart [nm] := by rw [← h2, e]; simp [Zr]
  obtain ⟨hpre, hps⟩ : Zr pre = Zr ps ∧ Zr ps' = Zj apart [nm] := by
   cases apart
   ·rcases hsh with ⟨q, rfl, _⟩ | ⟨q, r2, rfl, _, _, hr2⟩
    ·exact List.append_inj' hcc rfl
    ·exfalso
     have := congrArg List.getLast? hcc
     simp [Zr, Zj] at this
     rw [hr2] at this
     simp at this
   ·rcases hsh with ⟨q, rfl, hq⟩ | ⟨q, r2, rfl, _, _, hr2⟩
    ·exfalso
     have := congrArg List.getLast? hcc
     simp [Zr, Zj] at this
     rw [hq] at this
     simp at this
    ·exact List.append_inj' hcc rfl
  refine ⟨?_, ?_⟩
  ·rw [hdiv, List.range_succ, List.map_append, ← hli]
   congr 1
   rw [List.map_singleton, Zcw, hpre, hco, Zcl]
   unfold Ze6
   rw [List.drop_take, hjr, Nat.add_sub_cancel_left]
  ·rw [hps, hdiv]
   congr 1
   rw [List.take_add_one, hj, show (r + 1) * w = j by rw [Nat.succ_mul]; exact id (Eq.symm hjr), List.drop_append_of_le_length (by rw [List.length_take]; exact Nat.le_min.mpr ⟨Nat.le_refl _, Nat.le_of_lt hlt⟩), List.drop_of_length_le (by rw [List.length_take]; exact Nat.min_le_left j nms.length)]
   rfl
theorem Zpi {apart : Bool} {nms : List (List Nat)} {w rows : Nat} {lines : List (List Nat)} {ps : List Za7} (hw : 0 < w) (hrows : 0 < rows) (hn : nms.length = rows * w) (I : Zco apart nms w nms.length lines ps) : jn [10] (lines ++ [Zav ps]) = Zbb nms rows w := by
 obtain ⟨m, rfl⟩ : ∃ m, rows = m + 1 := ⟨rows - 1, by exact n0 hrows⟩
 have hd : (nms.length - 1) / w = m := by
  rw [hn]
  refine Nat.div_eq_of_lt_le ?_ ?_
  ·rw [Nat.succ_mul]; exact Nat.le_pred_of_lt (Nat.lt_add_of_pos_right hw)
  ·have : 0 < (m + 1) * w := Nat.mul_pos (Nat.succ_pos _) hw
   exact Nat.sub_lt this Nat.one_pos
 have h1 := I.li
 have h2 := I.co
 rw [hd] at h1 h2
 rw [Zh6 hw hn, List.range_succ, List.map_append, ← h1]
 congr 2
 rw [List.map_singleton, Zcw, h2, Zcl, List.take_length]
 unfold Ze6
 rw [List.take_of_length_le]
 rw [List.length_drop, hn, Nat.succ_mul]; simp +arith
theorem Loc.rebaseX (C : Loc env s₀ X vs l s) : Loc env s [] vs [] s := ⟨Ext.refl _ _ _, C.fr, C.bd, fun _ h => (nomatch h), fun _ h => (nomatch h), fun _ h => (nomatch h), List.nodup_nil, fun _ h => (nomatch h)⟩
theorem Loc.freshApart (C : Loc env s₀ X vs l s) {a : Addr} (hn : s.heap.get? a = none) : a ≠ env.locals ∧ ∀ y, env.cells.lookup y ≠ some a := by
 refine ⟨fun q => ?_, fun y q => ?_⟩
 ·refine Za4 C.fr.ns fun ρ o es ep e _ => ?_
  rw [← q, hn] at e; cases e
 ·refine Zcs (C.fr.cel y a q) fun _ v o e _ => ?_
  rw [hn] at e; cases e
theorem Loc.storeK (C : Loc env s₀ X vs l s) (O : Zbw env s₀) {y : String} {v : Value} {Q : Unit → Shared → Prop} (hk : env.kindOf (ofString y) = some .local)
  (h : ∀ s', Loc env s₀ X (Zbd y v vs) l s' → Ext [env.locals] [] s s' → Q () s') : wpAny (model prog w) A (storeName env (ofString y) v) Q E s := by
 obtain ⟨ρ, hρ⟩ := C.fr.ns
 refine wpAny_storeName_local hk hρ (fun h' hn hs => ?_) (by rw [C.fr.kind]; rfl)
 have e : Ext [env.locals] [] s { s with heap := h', toks := s.toks + 1 } := Ext.same O.2.1 (Zbh hρ) M0 hs (Zax hn fun o _ _ q _ => ⟨o, q⟩)
 refine h _ ?_ e
 have cells : ∀ y c v, env.cells.lookup y = some c → s.heap.IsCell c v → h'.IsCell c v := fun y c v hc hv => hv.sameBut hs (C.fr.cel y c hc).1
 refine ⟨C.ext.trans' e (fun p hp => .inr (List.mem_singleton.mp hp ▸ O.1)) (fun _ h => nomatch h), ⟨⟨_, hn⟩, fun y c hc => ?_, C.fr.inj, C.fr.hiL, C.fr.nt, C.fr.kind, C.fr.gl, C.fr.bu⟩, fun p hp => ?_, fun p hp => ?_, C.own, C.off, C.nd, fun p hp fd q => e.cr _ _ (C.fc p hp fd q)⟩
 ·refine Zlp (C.fr.cel y c hc) fun a v b => ?_
  exact ⟨a, v, cells y c v hc b⟩
 ·rcases Zez hp with rfl | ⟨h1, h2⟩
  ·exact .inl ⟨hk, _, hn, by simp⟩
  ·rcases C.bd p h1 with ⟨a, ρ', b, c⟩ | ⟨c, a, b, d⟩
   ·refine .inl ⟨a, _, hn, ?_⟩
    rw [Zij b hρ] at c
    have : ofString p.1 ≠ ofString y := fun q => h2 (Zah.mp q)
    simpa [this] using c
   ·exact .inr ⟨c, a, b, cells _ _ _ b d⟩
 ·exact (hs.2 _ (C.off p hp).1).trans (C.led p hp)
theorem Fmt.keepB {I : Addr} {h h' : Heap} (F : Fmt w h f dF Ls x dx (ml : Nat) lines ps) (hI : I ≠ f ∧ I ≠ dF ∧ I ≠ Ls ∧ I ≠ x ∧ I ≠ dx) (hp : ∀ q ∈ ps, q.1 ≠ I) (k : ∀ b o, b ≠ I → h.get? b = some o → h'.get? b = some o) : Fmt w h' f dF Ls x dx (ml : Nat) lines ps := by
 obtain ⟨hf, ⟨k', hd⟩, ⟨oL, uL, hL, hLp⟩, ac, f3, d3, l3, nd⟩ := F
 refine Z9 ac.hx fun us n hx hpp => ?_
 refine Zcv ac.hd fun τ t' hdx => ?_
 refine Z6 hI fun i1 i2 i3 i4 i5 => ?_
 exact ⟨k _ _ (Ne.symm i1) hf, ⟨k', k _ _ (Ne.symm i2) hd⟩, ⟨oL, uL, k _ _ (Ne.symm i3) hL, hLp⟩, ⟨⟨us, n, k _ _ (Ne.symm i4) hx, hpp.keep fun q hq o ho => k _ _ (hp q hq) ho⟩, ⟨τ, t', k _ _ (Ne.symm i5) hdx⟩, ac.x3, ac.d3, ac.ne⟩, f3, d3, l3, nd⟩
theorem Fmt.keepE {Y : List Addr} {s s' : Shared} (F : Fmt w s.heap f dF Ls x dx (ml : Nat) lines ps) (e : Ext Y [] s s') (hI : f ∉ Y ∧ dF ∉ Y ∧ Ls ∉ Y ∧ x ∉ Y ∧ dx ∉ Y) (hp : ∀ q ∈ ps, q.1 ∉ Y) : Fmt w s'.heap f dF Ls x dx (ml : Nat) lines ps := by
 obtain ⟨hf, ⟨k', hd⟩, ⟨oL, uL, hL, hLp⟩, ac, f3, d3, l3, nd⟩ := F
 refine Z6 hI fun i1 i2 i3 i4 i5 => ?_
 exact ⟨e.keepX i1 f3 hf, ⟨k', e.keepX i2 d3 hd⟩, ⟨oL, uL, e.keepX i3 l3 hL, hLp⟩, ac.keepX e i4 i5 hp, f3, d3, l3, nd⟩
theorem Zg2 {σ : Shared} (W : Wd K σ.heap) (G : KG K) (R : Zk A 24) (T : KA prog K cd) (N : KM prog K) (Y : KF K cdF) (hbp : ∀ t t', findObj K 248 (some (Zay w t t')) (ofString "push") = some (.bind (.builtin "function.__get__") (.ref 192))) (hfn : FnK K 276 (ofString "_law_text") (ofString "_law_text") (top 22) [] .none 275)
  {a : Addr} {us : List Value} {nms : List (List Nat)} {rows width L : Nat} {apart : Bool} {t1 : Tok} {Q : Value → Shared → Prop}
  (hl : σ.heap.IsList a us.toArray) (hi : StrsAre us (nms.map mkS)) (ha : 316 ≤ a) (hp : (rows, width) ∈ Zg ∨ (width, rows) ∈ Zg) (hlen : nms.length = rows * width) (hL : ∀ x ∈ nms, x.length = L) (h1 : 1 ≤ L) (h4 : L ≤ 4) (hns : ∀ x ∈ nms, ∀ c ∈ x, Unicode.isSpace c = false)
  (h : ∀ u s', Ext [] [] σ s' → Q (.str (mkS (Zbb nms rows width)) u) s') :
  wpAny (model prog w) A (call (.ref 276) [.ref a, .int (width : Nat) t1, .bool apart]) Q E σ := by
 refine Zd3 (Zfp hp) fun hr1 hr2 hw0 hw9 hr9 hrw => ?_
 have hrows : 0 < rows := by
  rcases hp with hp | hp
  ·exact (by decide : ∀ p ∈ Zg, 0 < p.1 ∧ 0 < p.2) _ hp |>.1
  ·exact (by decide : ∀ p ∈ Zg, 0 < p.1 ∧ 0 < p.2) _ hp |>.2
 have hN0 : 0 < nms.length := by rw [hlen]; exact Nat.mul_pos hrows hw0
 have hul : us.length = nms.length := by rw [hi.length, List.length_map]
 refine Zw W R hfn [("names", .ref a), ("width", .int (width : Nat) t1), ("apart", .bool apart)] (fun _ _ _ _ _ => BindsTo.of_eq rfl) fun env s₁ hE hO hc C => ?_
 have RD := R.deeper (env := env) (n := 23)
 refine Zq ?_
 refine xca ?_
 refine Zf ?_
 walk_at "G"
 refine callWith_K (W.ext C.ext).k Y.kp ?_
 refine Za ?_
 refine C.cint ?_; clear C; intro s t C
 refine Za ?_
 refine Zn ?_
 walk_at "N"
 refine Zn ?_
 refine Zf ?_
 walk_at "B"
 refine xb1 ?_
 refine Za ?_
 refine Zad ?_
 walk_at "N"
 refine C.cint ?_; clear C; intro s t C
 obtain ⟨nm0, hnm0⟩ : ∃ x, nms[0]? = some x := ⟨_, List.getElem?_eq_getElem hN0⟩
 obtain ⟨t0, ht0⟩ := Zb7 hi (i := 0) (x := mkS nm0) (by rw [List.getElem?_map, hnm0]; rfl)
 refine Loc.subL (C.ext.list ha hl) (by decide) (by decide) ht0 ?_
 refine spliced_none ?_
 have hnmL : nm0.length = L := hL nm0 (List.mem_of_getElem? hnm0)
 refine C.lenS (by lia) ?_; clear C; intro s _ C
 rw [hnmL]
 refine C.cint ?_; clear C; intro s t C
 refine C.iadd ?_; clear C; intro s _ C
 have hwl : ((width : Nat) : Int) * ((L : Nat) + 1) = ((width * (L + 1) : Nat) : Int) := by simp
 refine C.imul (Zid (by simp; exact kB ‹_› rfl)) ?_; clear C; intro s _ C
 rw [hwl]
 refine Za ?_
 refine C.cstr ?_; clear C; intro s _ C
 refine Za ?_
 refine C.cstr ?_; clear C; intro s _ C
 refine spliced_none ?_
 refine ⟨(W.ext C.ext).k, ?_⟩
 refine C.make W (n := 22) RD Y.mks Y.i Y.ty ?_; clear C; intro f dF A' s R' C
 have hnd := C.nd
 simp only [List.map_cons, List.map_nil, List.nodup_cons, List.mem_cons, List.not_mem_nil, or_false, not_or] at hnd
 have hfl := C.led _ M0
 have hdl := C.led _ M1
 have hfo := C.own _ M0
 have hdo := C.own _ M1
 have hfa := C.off _ M0
 have hda := C.off _ M1
 refine Zoe (m := 10) (W.ext C.ext) G R'.le T N Y hfo.2 hdo.2 hnd.1 hfl hdl fun Ls x dx s2 l0 x0 dx0 e2 F => ⟨rfl, ?_⟩
 have st : ∀ p ∈ [dx, x, Ls], (p ∈ ([] : List Addr) ∨ σ.heap.get? p = none) ∧ p ≠ env.locals ∧ (∀ y, env.cells.lookup y ≠ some p) := fun p hp => by
  have hp0 : s.heap.get? p = none := by
   rcases List.mem_cons.mp hp with rfl | hp
   ·exact dx0
   ·rcases List.mem_cons.mp hp with rfl | hp
    ·exact x0
    ·rw [List.mem_singleton.mp hp]; exact l0
  exact ⟨.inr (C.noneAt hp0 (fun q => nomatch q)), (C.freshApart hp0).1, (C.freshApart hp0).2⟩
 have hloc : ∀ p ∈ [f, dF, Ls, x, dx], p ≠ env.locals := fun p hp => by
  simp only [List.mem_cons, List.not_mem_nil, or_false] at hp
  rcases hp with rfl | rfl | rfl | rfl | rfl
  ·exact hfa.1
  ·exact hda.1
  ·exact (st _ (by simp)).2.1
  ·exact (st _ (by simp)).2.1
  ·exact (st _ (by simp)).2.1
 replace C := (C.sub (l' := []) (List.nil_sublist _)).step e2 (fun p hp => by rw [List.mem_singleton.mp hp]; exact ⟨hdo.1, hda.1, hda.2, by simp⟩) (fun _ q => nomatch q)
 refine C.storeK hO (by walk_at "K") fun s C e => ?_
 have hlo : ∀ p ∈ [f, dF, Ls, x, dx], p ∉ [env.locals] := fun p hp q => hloc p hp (List.mem_singleton.mp q)
 have hloA : f ∉ [env.locals] ∧ dF ∉ [env.locals] ∧ Ls ∉ [env.locals] ∧ x ∉ [env.locals] ∧ dx ∉ [env.locals] := ⟨hlo f M0, hlo dF M1, hlo Ls M2, hlo x M3, hlo dx M4⟩
 have F := F.keepE e hloA (fun _ q => nomatch q)
 simp only [Zbd, reduceIte, String.reduceEq] at C
 refine xcf ?_
 walk_at "N"
 refine wpAny_pyIter_list (C.ext.list ha hl) ?_
 have xI : Ext [] [] s { s with heap := s.heap.push { cls := .type "list_iterator", data := .fields #[.ref a, .int 0 0] } } := C.extK (tk := s.toks) Zd
 obtain ⟨I, hI⟩ : ∃ I, I = s.heap.objs.size := ⟨_, rfl⟩
 have ne : ∀ {b o}, s.heap.get? b = some o → I ≠ b := fun e q => by have := Heap.lt_size e; rw [← q, hI] at this; exact Nat.lt_irrefl _ this
 have hIn : s.heap.get? I = none := by rw [hI]; exact Zc
 refine Zcv F.ac.hx fun us0 n0 hx0 => ?_
 refine Zcv F.ac.hd fun τ0 τ0' hdx0 => ?_
 obtain ⟨k0, hdF0⟩ := F.hd
 refine Z9 F.hl fun oL0 uL0 hL0 _ => ?_
 have hIne : I ≠ f ∧ I ≠ dF ∧ I ≠ Ls ∧ I ≠ x ∧ I ≠ dx := ⟨ne F.hf, ne hdF0, ne hL0, ne hx0.1, ne hdx0⟩
 have hIX : ∀ p ∈ [dx, x, Ls], p ≠ I := List.forall_mem_cons.mpr ⟨Ne.symm hIne.2.2.2.2, List.forall_mem_cons.mpr ⟨Ne.symm hIne.2.2.2.1, List.forall_mem_cons.mpr ⟨Ne.symm hIne.2.2.1, List.forall_mem_nil _⟩⟩⟩
 have hI0 : σ.heap.get? I = none := C.noneAt hIn (fun q => nomatch q)
 have hIl : I ≠ env.locals := (C.freshApart hIn).1
 have F := F.ext xI
 replace C := C.add xI Zc C.big (Heap.get?_push_size _ rfl)
 rw [← hI] at C ⊢
 generalize ({ s with heap := s.heap.push { cls := .type "list_iterator", data := .fields #[.ref a, .int 0 0] } } : Shared) = s3 at C F ⊢
 refine Loc.forS (α := List (List Nat) × List Za7 × List (String × Value))
  (fun i d s => Fmt w s.heap f dF Ls x dx ((width * (L + 1) : Nat) : Int) d.1 d.2.1 ∧ Zco apart nms width i d.1 d.2.1 ∧ (∀ q ∈ d.2.1, q.1 ≠ I ∧ q.1 ≠ env.locals) ∧ ("maker", .ref f) ∈ d.2.2 ∧ ("apart", .bool apart) ∈ d.2.2)
  (fun _ d => d.2.2) (fun _ _ => []) (d0 := ([], [], [("names", .ref a), ("width", .int (width : Nat) t1), ("apart", .bool apart), ("maker", .ref f)])) (Zbl RD.hd a us) hI0 ⟨rfl, rfl⟩ C ⟨F, Zow apart nms width, fun _ q => (nomatch q), by simp, by simp⟩ ?_ ?_ ?_ ?_
 ·intro i; refine pE3 fun lines ps d s h' tk hPP k => ?_; refine Zlj hPP fun F TI hps hm => ?_; clear hPP
  exact ⟨F.keepB hIne (fun q hq => (hps q hq).1) k, TI, hps, hm⟩
 ·intro i d oI s' _ C
  exact C.ext.list ha hl
 ·intro i; refine pE3 fun lines ps d oI u s hi' hu hPP C => ?_; refine Z6 hPP fun F TI hps hm1 hm2 => ?_; clear hPP
  dsimp only at F TI hps hm1 hm2 C
  obtain ⟨nm, hnm⟩ : ∃ x, nms[i]? = some x := ⟨_, List.getElem?_eq_getElem (hul ▸ hi')⟩
  obtain ⟨tn, htn⟩ := Zb7 hi (i := i) (x := mkS nm) (by rw [List.getElem?_map, hnm]; rfl)
  rw [htn] at hu
  cases hu
  refine wpAny_assign_Name ?_
  refine C.storeK hO (by walk_at "K") fun s C e => ?_
  have F := F.keepE e hloA (fun q hq => by rw [List.mem_singleton]; exact (hps q hq).2)
  have hm0 : ("name", Value.str (mkS nm) tn) ∈ Zbd "name" (Value.str (mkS nm) tn) d := Zab
  have hm1 := Zt (x := "name") (v := Value.str (mkS nm) tn) hm1 (by simp)
  have hm2 := Zt (x := "name") (v := Value.str (mkS nm) tn) hm2 (by simp)
  generalize Zbd "name" (Value.str (mkS nm) tn) d = d1 at C hm0 hm1 hm2
  have hnmL : nm.length = L := hL nm (List.mem_of_getElem? hnm)
  obtain ⟨rb1, rb2⟩ := Zdd (w := width) (j := i) hw0
  have hcl : ((nms.take i).drop ((i - 1) / width * width)).length ≤ width := Zot rb2
  have hpsl : ps.length ≤ 18 := by
   have h2 := Zdg apart ((nms.take i).drop ((i - 1) / width * width))
   rw [← TI.co] at h2
   simp only [Zr, List.length_map] at h2
   lia
  have hwL : width * (L + 1) ≤ 9 * 5 := Nat.mul_le_mul hw9 (kB ‹_› rfl)
  have hlP : Z2 ps ≤ 45 := by
   rw [Zb5, TI.co, Zbq apart (L := L) fun y hy => hL y (List.mem_of_mem_take (List.mem_of_mem_drop hy))]
   exact Nat.le_trans (Nat.mul_le_mul_right _ hcl) hwL
  have hll : lines.length ≤ 9 := by
   rw [TI.li, List.length_map, List.length_range]
   have : (i - 1) / width < rows := (Nat.div_lt_iff_lt_mul hw0).mpr (Nat.lt_of_le_of_lt (Nat.sub_le _ _) (by rw [← hlen, ← hul]; exact hi'))
   lia
  have step : ∀ (s5 : Shared) (ps1 : List Za7) (b : List Nat) (tb : Tok) (Q' : Value → Shared → Prop), Loc env σ [] d1 [(I, oI)] s5 → Fmt w s5.heap f dF Ls x dx ((width * (L + 1) : Nat) : Int) lines ps1 → (apart = false ∧ ps1 = ps ∧ b = [32] ∨ apart = true ∧ b = [] ∧ ∃ q, ps1 = ps ++ [q] ∧ q.2.1.1 = [32] ∧ q.2.2.1 = []) → (∀ q ∈ ps1, q.1 ≠ I ∧ q.1 ≠ env.locals) →
    (∀ lines' ps' s7, Fmt w s7.heap f dF Ls x dx ((width * (L + 1) : Nat) : Int) lines' ps' → Zco apart nms width (i + 1) lines' ps' → (∀ q ∈ ps', q.1 ≠ I ∧ q.1 ≠ env.locals) → Loc env σ [] d1 [(I, oI)] s7 → Q' .none s7) →
    wpAny (model prog w) (A.deeper env) (call (.ref 161) [.ref f, .str (mkS b) tb, .str (mkS nm) tn]) Q' (fun _ _ => False) s5 := by
   intro s5 ps1 b tb Q' C5 F5 hsh hq1 hQ
   have hcont : ∀ P : Za7, P.2 = ((b, tb), (nm, tn)) → Zr (ps1 ++ [P]) = Zr ps ++ Zj apart [nm] := fun P hP => by
    rcases hsh with ⟨rfl, rfl, rfl⟩ | ⟨rfl, rfl, q, rfl, hqa, hqb⟩
    ·simp [Zr, Zj, hP]
    ·simp [Zr, Zj, hP, hqa, hqb]
   have hps1 : ps1.length ≤ 19 := by
    rcases hsh with ⟨_, rfl, _⟩ | ⟨_, _, q, rfl, _⟩
    ·exact Nat.le.step hpsl
    ·rw [List.length_append, List.length_singleton]; exact kB ‹_› rfl
   have hlp1 : Z2 ps1 + b.length ≤ 46 := by
    rcases hsh with ⟨_, rfl, rfl⟩ | ⟨_, rfl, q, rfl, hqa, hqb⟩
    ·simp; assumption
    ·simp [Z2, hqa, hqb] at hlP ⊢; assumption
   refine Zkd (ml := width * (L + 1)) (W.ext C5.ext) G RD.le T N Y F5 (kA ‹_› rfl) (by lia) (kA ‹_› rfl) (kA ‹_› rfl) (fun P hP => ?_) fun P lines' ps' s7 hP hPn hch e7 F7 => ?_
   ·by_cases hle : Z2 (ps1 ++ [P]) ≤ width * (L + 1)
    ·exact ⟨_, _, .inl ⟨hle, rfl, rfl⟩⟩
    ·have hps0 : ps ≠ [] := by
      rintro rfl
      apply hle
      rw [Zb5, hcont P hP, show Zr ([] : List Za7) = [] from rfl, List.nil_append, Zbq apart (L := L) (fun y hy => by rw [List.mem_singleton.mp hy]; exact hnmL)]
      exact Nat.mul_le_mul_right _ (by simp; assumption)
     rcases hsh with ⟨_, rfl, rfl⟩ | ⟨_, rfl, q, rfl, hqa, hqb⟩
     ·exact ⟨_, [P], .inr ⟨by grind, ps1, hps0, rfl, rfl, .inl ⟨P, rfl, by rw [hP]⟩⟩⟩
     ·exact ⟨_, [q, P], .inr ⟨by grind, ps, hps0, by simp, rfl, .inr ⟨q, P, rfl, hqa, hqb, by rw [hP]⟩⟩⟩
   ·have hPne : P.1 ≠ I ∧ P.1 ≠ env.locals := ⟨fun q => (by have := C5.led _ M0; rw [show (I, oI).1 = P.1 from q.symm, hPn] at this; cases this), (C5.freshApart hPn).1⟩
    have hin : ∀ q ∈ ps', q ∈ ps1 ++ [P] := fun q hq => by
     rcases hch with ⟨_, _, rfl⟩ | ⟨_, pre, _, e, _, _⟩
     ·exact hq
     ·rw [e]; exact List.mem_append_right _ hq
    refine hQ lines' ps' s7 F7 (Zos hw0 hL TI hnm (hcont P hP) hch) (fun q hq => ?_) (C5.step e7 (fun p hp => ⟨(st p hp).1, (st p hp).2.1, (st p hp).2.2, ?_⟩) (fun _ q => nomatch q))
    ·rcases List.mem_append.mp (hin q hq) with h | h
     ·exact hq1 q h
     ·rw [List.mem_singleton.mp h]; exact hPne
    ·exact fun q => hIX p hp (List.mem_singleton.mp q)
  refine xci ?_
  refine Zb1 ?_
  refine C.name (x := "apart") hm2 ?_
  refine wpAny_truthy_bool ?_
  refine Zae (Y.m ("_append_chunk", 161) (by walk_at "M")) fun m1 m2 m3 => ?_
  have chunkE : ∀ (s5 : Shared) (ps1 : List Za7) (Q' : Value → Shared → Prop) (b : List Nat) (pl : Sem Bool) (cst : Str) (kk : Nat) (p3 p4 p5 : Pos), cst = mkS b → Loc env σ [] d1 [(I, oI)] s5 → Fmt w s5.heap f dF Ls x dx ((width * (L + 1) : Nat) : Int) lines ps1 → (apart = false ∧ ps1 = ps ∧ b = [32] ∨ apart = true ∧ b = [] ∧ ∃ q, ps1 = ps ++ [q] ∧ q.2.1.1 = [32] ∧ q.2.2.1 = []) → (∀ q ∈ ps1, q.1 ≠ I ∧ q.1 ≠ env.locals) →
    (∀ lines' ps' s7, Fmt w s7.heap f dF Ls x dx ((width * (L + 1) : Nat) : Int) lines' ps' → Zco apart nms width (i + 1) lines' ps' → (∀ q ∈ ps', q.1 ≠ I ∧ q.1 ≠ env.locals) → Loc env σ [] d1 [(I, oI)] s7 → Q' .none s7) →
    wpAny (model prog w) (A.deeper env) (getMethod (.ref f) (ofString "_append_chunk") pl) (fun fx s₂ => wpAny (model prog w) (A.deeper env) (callWith p5 fx.1 fx.2 (backTo p5 (starEach [.Constant (.str cst) kk p3, .Name (ofString "name") p4] env)) []) Q' (fun _ _ => False) s₂) (fun _ _ => False) s5 := by
   intro s5 ps1 Q' b pl cst kk p3 p4 p5 hcst C5 F5 hsh hq1 hQ
   have Cb := C5.rebaseX
   have Wb := W.ext C5.ext
   obtain ⟨k, hd⟩ := F5.hd
   refine method_fn (od := some (Zh2 w k ((width * (L + 1) : Nat) : Int) Ls x)) Wb.k ⟨F5.hf, rfl, rfl, hd⟩ Y.ci.ga Y.ci.gt m1 m2 rfl ?_
   refine callWith_K Wb.k m3 ?_
   refine Za ?_
   refine Cb.cstr fun s6 tb Cb => ?_
   refine Za ?_
   refine Cb.name (x := "name") hm0 ?_
   refine spliced_none ?_
   refine ⟨(Wb.ext Cb.ext).k, ?_⟩
   subst hcst
   exact step s6 ps1 b tb Q' (C5.pure Cb.ext) (F5.ext Cb.ext) hsh hq1 hQ
  have CC := C
  cases apart with
  | false =>
   refine ifN (by decide) ?_
   refine Zi ?_
   refine CC.expr ?_
   refine methodCall_KW ?_
   refine CC.name (x := "maker") hm1 ?_
   refine chunkE s ps _ [32] _ _ _ _ _ _ rfl CC F (.inl ⟨rfl, rfl, rfl⟩) hps fun lines' ps' s7 F7 T7 hq7 C7 => ?_
   refine wpAny_execs_nil ?_
   refine wpAny_execs_nil ?_
   exact ⟨(lines', ps', d1), ⟨F7, T7, hq7, hm1, hm2⟩, C7⟩
  | true =>
   refine ifP rfl ?_
   refine Zi ?_
   refine CC.expr ?_
   refine methodCall_KW ?_
   refine CC.name (x := "maker") hm1 ?_
   refine Zae (Y.m ("add_transition", 133) (by walk_at "M")) fun m4 m5 m6 => ?_
   obtain ⟨k, hd⟩ := F.hd
   refine method_fn (od := some (Zh2 w k ((width * (L + 1) : Nat) : Int) Ls x)) (W.ext CC.ext).k ⟨F.hf, rfl, rfl, hd⟩ Y.ci.ga Y.ci.gt m4 m5 rfl ?_
   refine callWith_K0 (W.ext CC.ext).k m6 ?_
   refine Zkz (ml := width * (L + 1)) (W.ext CC.ext) G RD.le T N Y F (kA ‹_› rfl) fun P s7 hP1 hP2 hPn e7 F7 => ?_
   have hPne : P.1 ≠ I ∧ P.1 ≠ env.locals := ⟨fun q => (by have := CC.led _ M0; rw [show (I, oI).1 = P.1 from q.symm, hPn] at this; cases this), (CC.freshApart hPn).1⟩
   have C7 := CC.step e7 (fun p hp => ⟨(st p hp).1, (st p hp).2.1, (st p hp).2.2, fun q => hIX p hp (List.mem_singleton.mp q)⟩) (fun _ q => nomatch q)
   refine Zi ?_
   refine C7.expr ?_
   refine methodCall_KW ?_
   refine C7.name (x := "maker") hm1 ?_
   refine chunkE s7 (ps ++ [P]) _ [] _ _ _ _ _ _ rfl C7 F7 (.inr ⟨rfl, rfl, P, rfl, hP1, hP2⟩) (fun q hq => by
    rcases List.mem_append.mp hq with h | h
    ·exact hps q h
    ·rw [List.mem_singleton.mp h]; exact hPne) fun lines' ps' s8 F8 T8 hq8 C8 => ?_
   refine wpAny_execs_nil ?_
   refine wpAny_execs_nil ?_
   exact ⟨(lines', ps', d1), ⟨F8, T8, hq8, hm1, hm2⟩, C8⟩
 ·refine pE3 fun lines ps d s hPP C => ?_; refine Z6 hPP fun F TI hps hm1 hm2 => ?_; clear hPP
  dsimp only at F TI hps hm1 hm2 C
  rw [hul] at TI
  obtain ⟨rb1, rb2⟩ := Zdd (w := width) (j := nms.length) hw0
  have hdlt : (nms.length - 1) / width * width ≤ nms.length - 1 := Nat.div_mul_le_self _ _
  have hco := TI.co
  have hcur : (nms.take nms.length).drop ((nms.length - 1) / width * width) ≠ [] := fun e => by
   have := congrArg List.length e
   rw [List.length_drop, List.length_take] at this
   simp at this
   exact Nat.ne_of_gt (Nat.sub_pos_of_lt (Nat.lt_of_le_of_lt hdlt (Nat.sub_lt hN0 Nat.one_pos))) this
  have hmem : ∀ y ∈ (nms.take nms.length).drop ((nms.length - 1) / width * width), y ∈ nms := fun y hy => List.mem_of_mem_take (List.mem_of_mem_drop hy)
  have hcl : ((nms.take nms.length).drop ((nms.length - 1) / width * width)).length ≤ width := Zot rb2
  generalize hcd : (nms.take nms.length).drop ((nms.length - 1) / width * width) = cur at hco hcur hmem hcl
  obtain ⟨cur0, nm, rfl⟩ : ∃ c0 nm, cur = c0 ++ [nm] := ⟨_, _, (List.dropLast_concat_getLast hcur).symm⟩
  have hps0 : ps ≠ [] := by
   rintro rfl
   have := congrArg List.length hco
   rw [Zbo, List.length_append] at this
   cases apart <;> simp [Zr, Zj] at this
  obtain ⟨ps0, q, rfl⟩ : ∃ p0 q, ps = p0 ++ [q] := ⟨_, _, (List.dropLast_concat_getLast hps0).symm⟩
  have hqnm : q.2.2.1 = nm := by
   have := congrArg List.getLast? hco
   rw [Zbo] at this
   cases apart
   ·simp [Zr, Zj] at this; exact this.2
   ·simp [Zr, Zj] at this; exact this.2
  have hnm : nm ∈ nms := hmem nm (by simp)
  have hnmL : nm.length = L := hL nm hnm
  have hwL : width * (L + 1) ≤ 9 * 5 := Nat.mul_le_mul hw9 (kB ‹_› rfl)
  have hlp : Z2 (ps0 ++ [q]) ≤ 45 := by
   rw [Zb5, hco, Zbq apart (L := L) fun y hy => hL y (hmem y hy)]
   exact Nat.le_trans (Nat.mul_le_mul_right _ hcl) hwL
  have hpsl : ps0.length ≤ 18 := by
   have h2 := Zdg apart (cur0 ++ [nm])
   rw [← hco] at h2
   simp only [Zr, List.length_map, List.length_append, List.length_singleton] at h2 hcl
   lia
  have htx : Zav (ps0 ++ [q]) = (cur0 ++ [nm]).flatMap fun nm => 32 :: nm := by rw [Zcw, hco, Zcl]
  have hlenT : ∀ c : List (List Nat), (∀ y ∈ c, y.length = L) → (c.flatMap fun nm => 32 :: nm).length = c.length * (L + 1) := by
   intro c hc
   induction c with
   | nil => simp
   | cons y r ih => rw [List.flatMap_cons, List.length_append, ih (fun z hz => hc z (.tail _ hz)), List.length_cons, List.length_cons, hc y M0, Nat.succ_mul]; simp +arith
  have hll : lines.length ≤ 9 := by
   rw [TI.li, List.length_map, List.length_range]
   have : (nms.length - 1) / width < rows := (Nat.div_lt_iff_lt_mul hw0).mpr (by rw [← hlen]; exact Nat.sub_lt hN0 Nat.one_pos)
   lia
  refine wpAny_execs_nil ?_
  refine xcr ?_
  refine methodCall_KW ?_
  refine C.name (x := "maker") hm1 ?_
  refine Zae (Y.m ("_str", 112) (by walk_at "M")) fun m1 m2 m3 => ?_
  obtain ⟨k, hd⟩ := F.hd
  refine method_fn (od := some (Zh2 w k ((width * (L + 1) : Nat) : Int) Ls x)) (W.ext C.ext).k ⟨F.hf, rfl, rfl, hd⟩ Y.ci.ga Y.ci.gt m1 m2 rfl ?_
  have Cb := C.rebaseX
  have Wb := W.ext C.ext
  refine callWith_K Wb.k m3 ?_
  refine Za ?_
  refine Cb.cstr fun s6 tb Cb => ?_
  refine spliced_none ?_
  refine ⟨(Wb.ext Cb.ext).k, ?_⟩
  refine Zlu (ml := width * (L + 1)) (sep := [10]) (Wb.ext Cb.ext) G RD.le T N Y hbp (F.ext Cb.ext) (kA ‹_› rfl) (kA ‹_› rfl) (kA ‹_› rfl) (by simp) (fun y hy => ?_) ?_ ?_ ?_ ?_ fun u s' e7 => ?_
  ·rw [TI.li] at hy
   obtain ⟨i, _, rfl⟩ := List.mem_map.mp hy
   unfold Ze6
   rw [hlenT _ fun z hz => hL z (List.mem_of_mem_drop (List.mem_of_mem_take hz))]
   have : ((nms.drop (i * width)).take width).length ≤ width := by rw [List.length_take]; exact Nat.min_le_left width (List.drop (i * width) nms).length
   have := Nat.le_trans (Nat.mul_le_mul_right (L + 1) this) hwL
   exact kA ‹_› rfl
  ·rw [htx, hlenT _ fun y hy => hL y (hmem y hy)]
   have := Nat.le_trans (Nat.mul_le_mul_right (L + 1) hcl) hwL
   exact kA ‹_› rfl
  ·rintro ⟨_, e⟩
   rw [hqnm] at e
   rw [e] at hnmL
   simp at hnmL
   lia
  ·intro e
   have : Z2 (ps0 ++ [q]) = Z2 ps0 + (q.2.1.1.length + q.2.2.1.length) := by simp [Z2]
   rw [hqnm, hnmL] at this
   lia
  ·obtain ⟨c, r, hc⟩ : ∃ c r, nm = c :: r := by
    cases hh : nm with
    | nil => rw [hh] at hnmL; simp at hnmL; lia
    | cons c r => exact ⟨c, r, rfl⟩
   refine ⟨c, ?_, hns nm hnm c (by rw [hc]; exact M0)⟩
   rw [htx, List.flatMap_append]
   refine List.mem_append_right _ ?_
   rw [hc]; simp
  ·rw [Zpi hw0 hrows hlen TI]
   exact h u s' ((C.ext.trans Cb.ext).trans' e7 (fun p hp => (st p hp).1) (fun _ q => nomatch q))
structure KW (K : Frag) (cdT : ClassData) : Prop where
 law : FnK K 315 (ofString "law") (ofString "law") (top 29) [] .none 314
 cards : FnK K 264 (ofString "_law_cards") (ofString "_law_cards") (top 20) [] .none 263
 int2ap : FnK K 259 (ofString "Int2AP") (ofString "Int2AP") (top 18) [] .none 258
 lname : FnK K 269 (ofString "_law_name") (ofString "_law_name") (top 21) [] .none 268
 ltext : FnK K 276 (ofString "_law_text") (ofString "_law_text") (top 22) [] .none 275
 llines : FnK K 281 (ofString "_law_lines") (ofString "_law_lines") (top 23) [] .none 280
theorem Zpc {M : Model} {e1 e2 e3 e4 : Expr} {u v x y : Value} {Q : Unit → Shared → Prop} (h : wpAny M A (assign e1 env u) (fun _ s₁ => wpAny M A (assign e2 env v) (fun _ s₂ => wpAny M A (assign e3 env x) (fun _ s₃ => wpAny M A (assign e4 env y) Q E s₃) E s₂) E s₁) E s) :
  wpAny M A (assignInOrder [assign e1 env, assign e2 env, assign e3 env, assign e4 env] [u, v, x, y]) Q E s := by
 show wpAny M A (do holding [v, x, y] (assign e1 env u); (do holding [x, y] (assign e2 env v); (do holding [y] (assign e3 env x); (do holding [] (assign e4 env y); pure ())))) Q E s
 refine wpAny_bind (wpAny_holding (wpAny_mono h (fun _ s₁ h₁ => ?_) fun _ _ x => x))
 refine wpAny_bind (wpAny_holding (wpAny_mono h₁ (fun _ s₂ h₂ => ?_) fun _ _ x => x))
 refine wpAny_bind (wpAny_holding (wpAny_mono h₂ (fun _ s₃ h₃ => ?_) fun _ _ x => x))
 exact wpAny_bind (wpAny_holding (wpAny_mono h₃ (fun _ _ q => wpAny_pure q) fun _ _ x => x))
theorem Loc.untup4 (C : Loc env s₀ X vs l s) (hh : A.handled = none) {a b c d : Str} {p1 p2 p3 p4 pos : Pos} {k : Nat} {t : Addr} {u v x y : Value} {Q : Unit → Shared → Prop} (hm : s.heap.get? t = some (Zaw [u, v, x, y]))
  (h : ∀ s', Loc env s₀ X vs l s' → wpAny (model prog w) A (storeName env a u) (fun _ s₁ => wpAny (model prog w) A (storeName env b v) (fun _ s₂ => wpAny (model prog w) A (storeName env c x) (fun _ s₃ => wpAny (model prog w) A (storeName env d y) Q E s₃) E s₂) E s₁) E s') :
  wpAny (model prog w) A (assign (.Tuple [.Name a p1, .Name b p2, .Name c p3, .Name d p4] k pos) env (.ref t)) Q E s := by
 refine wpAny_assign_Tuple hh ⟨_, hm, rfl, _, rfl⟩ rfl rfl fun h' hx => ?_
 have k' : ∀ b o, s.heap.get? b = some o → h'.get? b = some o := fun b o e => hx b o (Nat.ne_of_lt (Heap.lt_size e)) e
 refine Zpc (wpAny_assign_Name ?_)
 refine wpAny_mono (h _ (C.keeps (tk := s.toks) k')) (fun _ _ q => ?_) fun _ _ z => z
 refine wpAny_mono (wpAny_assign_Name q) (fun _ _ q => ?_) fun _ _ z => z
 refine wpAny_mono (wpAny_assign_Name q) (fun _ _ q => ?_) fun _ _ z => z
 exact wpAny_mono (wpAny_assign_Name q) (fun _ _ q => q) fun _ _ z => z
theorem Zmd {σ : Shared} (W : Wd K σ.heap) (G : KG K) (R : Zk A 30) {cdT : ClassData} (L : KW K cdT) {a : Addr} {us : List Value} {ns : List Int} {Q : Value → Shared → Prop}
  (hl : σ.heap.IsList a us.toArray) (hi : IntsAre us ns) (hlen : ns.length ≤ 1000) (ha : 316 ≤ a)
  (h : ∀ env st m n Lt t1 t2 t3 t4 s', Za8 m n Lt st → Zbw env σ → (∀ x, env.kindOf x = some .cell → ∃ c, env.cells.lookup x = some c) → Za2 env (Zb (top 29)) (ofString "law") 315 (.ref 314) →
   Loc env σ [] [("script", .ref a), ("m", .int (m : Nat) t1), ("n", .int (n : Nat) t2), ("letters", .int (Lt : Nat) t3), ("start", .int st t4)] [] s' →
   wpAny (model prog w) (A.deeper env) (execs ((Zl (top 29)).drop 1) env) (fun fl s' => Q (Zjd fl) s') (fun _ _ => False) s') :
  wpAny (model prog w) A (call (.ref 315) [.ref a]) Q E σ := by
 refine Zw W R L.law [("script", .ref a)] (fun _ _ _ _ _ => BindsTo.of_eq rfl) fun env s₁ hE hO hc C => ?_
 have RD := R.deeper (env := env) (n := 29)
 refine Zq ?_
 refine Zi ?_
 refine Assign_Tuple ?_
 refine Zf ?_
 walk_at "G"
 refine Zaa L.cards (W.ext C.ext) ?_
 refine Za ?_
 walk_at "N"
 refine spliced_none ?_
 refine ⟨(W.ext C.ext).k, ?_⟩
 refine Zji (W.ext C.ext) G RD.le L.cards (C.ext.list ha hl) hi hlen ha fun p m n Lt st t1 t2 t3 t4 s' hok p0 p3 e hp => ?_
 replace C := C.pure e
 refine C.untup4 RD.hd hp ?_; clear C; intro s C
 refine C.st hO hc (by walk_at "K") ?_; clear C; intro s C
 refine C.st hO hc (by walk_at "K") ?_; clear C; intro s C
 refine C.st hO hc (by walk_at "K") ?_; clear C; intro s C
 refine C.st hO hc (by walk_at "K") ?_; clear C; intro s C
 exact h env st m n Lt t1 t2 t3 t4 s hok hO hc hE C
theorem Zox {σ : Shared} (W : Wd K σ.heap) (G : KG K) (R : Zk A 29) {a : Addr} {st : Int} {m n Lt : Nat} {t1 t2 t3 t4 : Tok} (hok : Za8 m n Lt st) {Q : Flow → Shared → Prop}
  (hO : Zbw env σ) (hc : ∀ x, env.kindOf x = some .cell → ∃ c, env.cells.lookup x = some c) (hE : Za2 env (Zb (top 29)) (ofString "law") 315 (.ref 314))
  (C : Loc env σ [] [("script", .ref a), ("m", .int (m : Nat) t1), ("n", .int (n : Nat) t2), ("letters", .int (Lt : Nat) t3), ("start", .int st t4)] [] s)
  (h : ∀ D oD us t5 s', Zy oD us → IntsAre us ((List.range (m * n)).map fun k : Nat => st + (k : Int)) →
   Loc env σ [] [("script", .ref a), ("m", .int (m : Nat) t1), ("n", .int (n : Nat) t2), ("letters", .int (Lt : Nat) t3), ("start", .int st t4), ("count", .int ((m * n : Nat) : Int) t5), ("numbers", .ref D)] [(D, oD)] s' →
   wpAny (model prog w) A (execs ((Zl (top 29)).drop 3) env) Q E s') :
  wpAny (model prog w) A (execs ((Zl (top 29)).drop 1) env) Q E s := by
 have hm27 : m * n ≤ 27 := by
  have k : ∀ p ∈ Zg, p.1 * p.2 ≤ 27 := by decide
  exact k _ hok.mn
 refine Zq ?_
 refine xca ?_
 refine Zn ?_
 walk_at "N"
 walk_at "N"
 have hmm : m ≤ 9 := by
  have k : ∀ p ∈ Zg, p.1 ≤ 9 := by decide
  exact k _ hok.mn
 refine C.imul (Zid (by simp; exact kB ‹_› rfl)) ?_; clear C; intro s t5 C
 rw [show ((m : Nat) : Int) * ((n : Nat) : Int) = ((m * n : Nat) : Int) by simp]
 refine C.st hO hc (by walk_at "K") ?_; clear C; intro s C
 refine Zi ?_
 refine Loc.lcA hO ⟨[("start", .int st t4)], by walk_at "S"⟩ C (Zao C.block (by walk_at "K") (by kernel_rfl)) (by walk_at "K") ?_
 refine Zf ?_
 walk_at "B"
 refine xt1 ?_
 refine Za ?_
 walk_at "N"
 refine spliced_none ?_
 refine C.range1 ?_; clear C; intro r _ _ _ s C
 refine C.pyIterR1 (a := 0) (n := m * n) (by rw [Int.zero_add]; exact M0) (by decide) (kB ‹_› rfl) ?_; clear C; intro I s hI C
 refine Zal.all (fvs := [("start", .int st t4)]) (Zcz R.hd 0 1 (m * n)) (by walk_at "S") hI (Zcq _ _ _) C (by rw [sizeLine_eq]; exact kA ‹_› rfl) (fun _ _ _ => trivial) (fun i y new => (∃ t, y = .int (st + (i : Int)) t) ∧ new = []) ?_ ?_
 ·intro i v cenv s N' hi' hv ce C CO
  obtain ⟨t, rfl⟩ := hv
  rw [show (0 + (i : Int) * 1) = ((i : Nat) : Int) by simp +arith] at C
  refine Zn ?_
  walk_at "N"
  walk_at "N"
  refine C.iadd ?_; clear C; intro s t C
  exact C.eltS ⟨_, rfl⟩
 ·intro D oD s rs hD hG C s C
  replace C := C.sv (Za3.of (by walk_at "T") (by kernel_rfl))
  obtain ⟨hds, hfl⟩ := hG.ints
  rw [hfl] at C
  replace C := C.sub (l' := [(D, oD)]) (by first | walk_at "U" | simp)
  exact h D oD _ t5 s hD hds C
theorem Zfa (k L : Nat) : lnm k (L + 1) = lnm (k / 16) L ++ [65 + k % 16] := by
 unfold lnm
 rw [List.range_succ, List.map_append]
 congr 1
 ·apply List.map_congr_left
  intro i hi
  have hi := List.mem_range.mp hi
  have e : L + 1 - 1 - i = (L - 1 - i) + 1 := nQ hi
  rw [e, Nat.pow_succ, Nat.mul_comm, ← Nat.div_div_eq_div_mul]
 ·simp
theorem Zno : ∀ (L k : Nat), 16 ^ L ≤ k → k < 16 ^ (L + 1) → (apL k).map (·.toNat) = lnm k (L + 1)
 | 0, k, h1, h2 => by
  have hk : k ≠ 0 := by simp at h1; exact Nat.ne_of_gt h1
  have hk2 : k < 16 := by simpa using h2
  rw [Zes hk, Zfa, show k / 16 = 0 by simp +arith [*], Zdn]
  simp [lnm]
  grind
 | L + 1, k, h1, h2 => by
  have hk : k ≠ 0 := by
   have : 0 < 16 ^ (L + 1) := Nat.pow_pos (by decide)
   lia
  rw [Zes hk, Zfa, List.map_append, Zno L (k / 16) ?_ ?_]
  ·congr 1
   simp
   grind
  ·rw [Nat.le_div_iff_mul_le (by decide)]
   rw [Nat.pow_succ] at h1; exact h1
  ·rw [Nat.div_lt_iff_lt_mul (by decide)]
   rw [Nat.pow_succ] at h2; exact h2
theorem Zl3 : ∀ n : Nat, ∀ b ∈ apL n, b.toNat < 128 := by
 intro n
 induction n using Nat.strongRecOn with
 | _ n ih =>
  by_cases h : n = 0
  ·subst h; rw [Zdn]; intro b hb; cases hb
  ·rw [Zes h]
   intro b hb
   rcases List.mem_append.mp hb with hb | hb
   ·exact ih (n / 16) (by lia) b hb
   ·rw [List.mem_singleton.mp hb]; simp; lia
theorem Loc.apE (C : Loc env s₀ X vs l s) (W : Wd K s₀.heap) (G : KG K) {m : Nat} (R : Zk A (m + 10)) {cdT : ClassData} (L : KW K cdT) {x : Int} {tx : Tok} {p0 p1 p2 p3 p4 p5 : Pos} {kk : Nat} {Q : Value → Shared → Prop} (hk : env.kindOf (ofString "Int2AP") = some .globalImplicit) (hm : ("x", .int x tx) ∈ vs) (hx : x.natAbs < 65536)
  (h : ∀ u s', Loc env s₀ X vs l s' → Q (.str (mkS ((apL x.natAbs).map (·.toNat))) u) s') (hl : (p2.endLine == p5.line) = true) :
  wpAny (model prog w) A (eval (.Call (.Attribute (.Call (.Name (ofString "Int2AP") p0) [.Name (ofString "x") p1] [] p3) (ofString "decode") p2) [.Constant (.str (ofString "ascii")) kk p4] [] p5) env) Q E s := by
 refine Zbk (hline := hl) ?_
 refine Zf ?_
 refine C.gn W G (x := "Int2AP") (v := .ref 259) (by walk_at "M") hk ?_
 refine Zaa L.int2ap (W.ext C.ext) ?_
 refine Za ?_
 refine C.name (x := "x") hm ?_
 refine spliced_none ?_
 refine ⟨(W.ext C.ext).k, ?_⟩
 refine Zjz (W.ext C.ext) G (R.le (by first | decide | exact Nat.le_add_left 10 m)) L.int2ap hx fun u s' e => ?_
 replace C := C.pure e
 refine Zbt "bytes" "bytes.decode" FB.plainAttrs_bytes FB.slot_bytes_decode FB.type_bytes_decode (typeIs_bytes _ _ _) (fun _ x => by cases x) (callWith_method1 ?_)
 refine Za ?_
 refine C.cstr ?_; clear C; intro s ta C
 refine spliced_none ?_
 have hlen : (apL x.natAbs).length ≤ 4 := Zig _ 4 (by assumption)
 refine C.decode (Zl3 _) (kA ‹_› rfl) fun s' t' C' => h _ _ C'
theorem Za8.N {m n Lt : Nat} {st : Int} (hok : Za8 m n Lt st) : (((16 ^ (Lt - 1) : Nat) : Int) ≤ st ∧ st + ((m * n : Nat) : Int) ≤ ((16 ^ Lt : Nat) : Int)) ∨ (-((16 ^ Lt : Nat) : Int) + 1 ≤ st ∧ st + ((m * n : Nat) : Int) + ((16 ^ (Lt - 1) : Nat) : Int) ≤ 1) := by
 rw [Int.natCast_pow, Int.natCast_pow, Int.natCast_mul]; exact hok.rng
theorem Zqw {st : Int} {N k lo hi : Nat} (h : (lo : Int) ≤ st ∧ st + (N : Int) ≤ (hi : Int)) (hk : k < N) : (lo : Int) ≤ st + (k : Int) ∧ st + (k : Int) < (hi : Int) :=
 ⟨Int.le_trans h.1 (Int.le_add_of_nonneg_right (Int.natCast_nonneg k)), Int.lt_of_lt_of_le (Int.add_lt_add_left (Int.ofNat_lt.mpr hk) st) h.2⟩
theorem Zq8 {st : Int} {N k lo hi : Nat} (h : -(hi : Int) + 1 ≤ st ∧ st + (N : Int) + (lo : Int) ≤ 1) (hk : k < N) : -(hi : Int) < st + (k : Int) ∧ st + (k : Int) ≤ -(lo : Int) := by
 refine ⟨Int.lt_of_lt_of_le (Int.lt_of_add_one_le h.1) (Int.le_add_of_nonneg_right (Int.natCast_nonneg k)), ?_⟩
 have h1 : st + (k : Int) < st + (N : Int) := Int.add_lt_add_left (Int.ofNat_lt.mpr hk) st
 have h2 := Int.lt_of_lt_of_le (Int.add_lt_add_right h1 (lo : Int)) h.2
 have h3 := Int.sub_nonneg_of_le (Int.lt_add_one_iff.mp (Int.zero_add 1 ▸ h2))
 exact Int.le_of_sub_nonneg (by rw [Int.zero_sub, Int.neg_add, Int.add_comm] at h3; rw [Int.sub_eq_add_neg]; exact h3)
theorem Zqz {st : Int} {N k lo hi : Nat} (h : ((lo : Int) ≤ st ∧ st + (N : Int) ≤ (hi : Int)) ∨ (-(hi : Int) + 1 ≤ st ∧ st + (N : Int) + (lo : Int) ≤ 1)) (hk : k < N) : lo ≤ (st + (k : Int)).natAbs ∧ (st + (k : Int)).natAbs < hi := by
 rcases h with h | h
 ·have a := Zqw h hk
  have e := Int.natAbs_of_nonneg (Int.le_trans (Int.natCast_nonneg lo) a.1)
  exact ⟨Int.ofNat_le.mp (by rw [e]; exact a.1), Int.ofNat_lt.mp (by rw [e]; exact a.2)⟩
 ·have a := Zq8 h hk
  have e := Int.ofNat_natAbs_of_nonpos (Int.le_trans a.2 (Int.neg_nonpos_of_nonneg (Int.natCast_nonneg lo)))
  exact ⟨Int.ofNat_le.mp (by rw [e]; exact Int.le_neg_of_le_neg a.2), Int.ofNat_lt.mp (by rw [e]; exact Int.neg_lt_of_neg_lt a.1)⟩
theorem Zrs {st : Int} {N i j lo hi : Nat} (h : ((lo : Int) ≤ st ∧ st + (N : Int) ≤ (hi : Int)) ∨ (-(hi : Int) + 1 ≤ st ∧ st + (N : Int) + (lo : Int) ≤ 1)) (hi : i < N) (hj : j < N) (e : (st + (i : Int)).natAbs = (st + (j : Int)).natAbs) : i = j := by
 refine Int.ofNat.inj (Int.add_left_cancel (a := st) ?_)
 have e := congrArg Int.ofNat e
 rcases h with h | h
 ·exact (Int.natAbs_of_nonneg (Int.le_trans (Int.natCast_nonneg lo) (Zqw h hi).1)).symm.trans (e.trans (Int.natAbs_of_nonneg (Int.le_trans (Int.natCast_nonneg lo) (Zqw h hj).1)))
 ·have z := fun {k : Nat} (hk : k < N) => Int.ofNat_natAbs_of_nonpos (Int.le_trans (Zq8 h hk).2 (Int.neg_nonpos_of_nonneg (Int.natCast_nonneg lo)))
  exact Int.neg_inj.mp ((z hi).symm.trans (e.trans (z hj)))
theorem Zd2 {m n Lt : Nat} {st : Int} (hok : Za8 m n Lt st) {k : Nat} (hk : k < m * n) : (st + (k : Int)).natAbs < 65536 ∧ 16 ^ (Lt - 1) ≤ (st + (k : Int)).natAbs ∧ (st + (k : Int)).natAbs < 16 ^ Lt :=
 have h := Zqz hok.N hk
 ⟨Nat.lt_of_lt_of_le h.2 (Nat.pow_le_pow_right (j := 4) (by decide) (by rcases hok.hL with e | e | e <;> rw [e] <;> decide)), h⟩
theorem Zl1 {σ : Shared} (W : Wd K σ.heap) (G : KG K) (R : Zk A 29) {cdT : ClassData} (L : KW K cdT) {a D : Addr} {oD : Obj} {us : List Value} {st : Int} {m n Lt : Nat} {t1 t2 t3 t4 t5 : Tok} (hok : Za8 m n Lt st) {Q : Flow → Shared → Prop}
  (hO : Zbw env σ) (hc : ∀ x, env.kindOf x = some .cell → ∃ c, env.cells.lookup x = some c) (hE : Za2 env (Zb (top 29)) (ofString "law") 315 (.ref 314)) (hD : Zy oD us) (hi : IntsAre us ((List.range (m * n)).map fun k : Nat => st + (k : Int)))
  (C : Loc env σ [] [("script", .ref a), ("m", .int (m : Nat) t1), ("n", .int (n : Nat) t2), ("letters", .int (Lt : Nat) t3), ("start", .int st t4), ("count", .int ((m * n : Nat) : Int) t5), ("numbers", .ref D)] [(D, oD)] s)
  (h : ∀ D2 oD2 us2 s', Zy oD2 us2 → StrsAre us2 ((List.range (m * n)).map fun k : Nat => mkS (lnm (st + (k : Int)).natAbs Lt)) →
   Loc env σ [] [("script", .ref a), ("m", .int (m : Nat) t1), ("n", .int (n : Nat) t2), ("letters", .int (Lt : Nat) t3), ("start", .int st t4), ("count", .int ((m * n : Nat) : Int) t5), ("numbers", .ref D), ("names", .ref D2)] [(D2, oD2), (D, oD)] s' →
   wpAny (model prog w) A (execs ((Zl (top 29)).drop 4) env) Q E s') :
  wpAny (model prog w) A (execs ((Zl (top 29)).drop 3) env) Q E s := by
 have hm27 : m * n ≤ 27 := (by decide : ∀ p ∈ Zg, p.1 * p.2 ≤ 27) _ hok.mn
 have hul : us.length = m * n := by rw [hi.length, List.length_map, List.length_range]
 refine Zq ?_
 refine xca ?_ (Zfu (k := .cell) (by walk_at "K") (by decide))
 refine Loc.lc ⟨[], by walk_at "S"⟩ C ?_
 walk_at "N"
 refine C.pyIterL (hD.at (C.led _ M0)) ?_; clear C; intro I oI s hI hoI C
 refine Zal.all (fvs := []) (Zbl R.hd D us) (by walk_at "S") hI hoI C (by rw [sizeLine_eq]; lia) (fun s' l' C => hD.at (C.led (D, oD) (by first | walk_at "M" | simp))) (fun i y new => (∃ t, y = .str (mkS (lnm (st + (i : Int)).natAbs Lt)) t) ∧ new = []) ?_ ?_
 ·intro i v cenv s N' hi' hv ce C CO
  obtain ⟨t, rfl, hlt⟩ := Zaz hi hv
  have hg : (((List.range (m * n)).map fun k : Nat => st + (k : Int)).getD i 0) = st + (i : Int) := by
   rw [List.getD_eq_getElem?_getD, List.getElem?_map, List.getElem?_range (by lia)]; rfl
  rw [hg] at C
  refine Zae (Zd2 hok (k := i) (by lia)) fun b1 b2 b3 => ?_
  refine C.apE (W.ext CO.ext) G (m := 19) R L (by walk_at "K") M0 b1 (fun u s C => ?_) (by kernel_rfl)
  have e : (apL (st + (i : Int)).natAbs).map (·.toNat) = lnm (st + (i : Int)).natAbs Lt := by
   obtain ⟨q, hq⟩ : ∃ q, Lt = q + 1 := ⟨Lt - 1, by rcases hok.hL with h | h | h <;> simp +arith [*]⟩
   rw [hq] at b2 b3 ⊢
   exact Zno q _ b2 b3
  rw [e]
  exact C.eltS ⟨_, rfl⟩
 ·intro D2 oD2 s rs hD2 hG C
  obtain ⟨hds, hfl⟩ := hG.strs
  rw [hfl] at C
  rw [hul] at hds
  replace C := C.sub (l' := [(D2, oD2), (D, oD)]) (by first | walk_at "U" | simp)
  refine C.st hO hc (by walk_at "K") ?_; clear C; intro s C
  exact h D2 oD2 _ s hD2 hds C
theorem Zl2 {σ : Shared} (W : Wd K σ.heap) (G : KG K) (R : Zk A 29) {cdT : ClassData} (L : KW K cdT) {a D D2 : Addr} {oD oD2 : Obj} {us us2 : List Value} {st : Int} {m n Lt : Nat} {t1 t2 t3 t4 t5 : Tok} (hok : Za8 m n Lt st) {Q : Flow → Shared → Prop}
  (hE : Za2 env (Zb (top 29)) (ofString "law") 315 (.ref 314)) (hD : Zy oD us) (hi : IntsAre us ((List.range (m * n)).map fun k : Nat => st + (k : Int))) (hD2 : Zy oD2 us2) (hi2 : StrsAre us2 ((List.range (m * n)).map fun k : Nat => mkS (lnm (st + (k : Int)).natAbs Lt)))
  (C : Loc env σ [] [("script", .ref a), ("m", .int (m : Nat) t1), ("n", .int (n : Nat) t2), ("letters", .int (Lt : Nat) t3), ("start", .int st t4), ("count", .int ((m * n : Nat) : Int) t5), ("numbers", .ref D), ("names", .ref D2)] [(D2, oD2), (D, oD)] s)
  (h : ∀ s', Loc env σ [] [("script", .ref a), ("m", .int (m : Nat) t1), ("n", .int (n : Nat) t2), ("letters", .int (Lt : Nat) t3), ("start", .int st t4), ("count", .int ((m * n : Nat) : Int) t5), ("numbers", .ref D), ("names", .ref D2)] [(D2, oD2), (D, oD)] s' →
   wpAny (model prog w) A (execs ((Zl (top 29)).drop 5) env) Q E s') :
  wpAny (model prog w) A (execs ((Zl (top 29)).drop 4) env) Q E s := by
 have hm27 : m * n ≤ 27 := (by decide : ∀ p ∈ Zg, p.1 * p.2 ≤ 27) _ hok.mn
 have hul : us.length = m * n := by rw [hi.length, List.length_map, List.length_range]
 refine Zq ?_
 refine xci ?_
 refine Z0 ?_
 walk_at "N"
 refine Loc.lc ⟨[("letters", .int (Lt : Nat) t3)], by walk_at "S"⟩ C ?_
 walk_at "N"
 refine C.pyIterL (hD.at (C.led _ M1)) ?_; clear C; intro I oI s hI hoI C
 refine Zal.all (fvs := [("letters", .int (Lt : Nat) t3)]) (Zbl R.hd D us) (by walk_at "S") hI hoI C (by rw [sizeLine_eq]; lia) (fun s' l' C => hD.at (C.led (D, oD) (by first | walk_at "M" | simp))) (fun i y new => (∃ t, y = .str (mkS (lnm (st + (i : Int)).natAbs Lt)) t) ∧ new = []) ?_ ?_
 ·intro i v cenv s N' hi' hv ce C CO
  obtain ⟨t, rfl, hlt⟩ := Zaz hi hv
  have hg : (((List.range (m * n)).map fun k : Nat => st + (k : Int)).getD i 0) = st + (i : Int) := by
   rw [List.getD_eq_getElem?_getD, List.getElem?_map, List.getElem?_range (by lia)]; rfl
  rw [hg] at C
  have W := W.ext CO.ext
  refine Zf ?_
  walk_at "G"
  refine Zaa L.lname (W.ext C.ext) ?_
  refine Za ?_
  walk_at "N"
  refine Za ?_
  walk_at "N"
  refine spliced_none ?_
  refine ⟨(W.ext C.ext).k, ?_⟩
  refine Zk3 (W.ext C.ext) G R.le L.lname hok.hL fun u s' e => ?_
  replace C := C.pure e
  exact C.eltS ⟨_, rfl⟩
 ·intro D3 oD3 s rs hD3 hG C
  obtain ⟨hds, hfl⟩ := hG.strs
  rw [hfl] at C
  rw [hul] at hds
  refine Zkm (hD2.at (C.led (D2, oD2) (by first | walk_at "M" | simp))) (hD3.at (C.led (D3, oD3) (by first | walk_at "M" | simp))) hi2 hds R.ul (wpAny_truthy_bool ?_)
  refine ifF (bne_self_eq_false _) ?_
  refine wpAny_execs_nil ?_
  exact h s (C.sub (l' := [(D2, oD2), (D, oD)]) (by first | walk_at "U" | simp))
noncomputable def Ze0 : List Int := [0, 1, 17, 2, 34, 3, 51, 4, 68, 5]
noncomputable def Ze : List (List Nat) := [[], [66], [66, 66], [67], [67, 67], [68], [68, 68], [69], [69, 69], [70]]
theorem Zmk : ∀ i : Fin 10, (apL (Ze0.getD i.val 0).natAbs).map (·.toNat) = Ze.getD i.val [] := by decide +kernel
theorem Zlt {σ : Shared} (W : Wd K σ.heap) (G : KG K) (R : Zk A 29) {cdT : ClassData} (L : KW K cdT) {a D D2 : Addr} {oD oD2 : Obj} {st : Int} {m n Lt : Nat} {t1 t2 t3 t4 t5 : Tok} {Q : Flow → Shared → Prop}
  (hO : Zbw env σ) (hc : ∀ x, env.kindOf x = some .cell → ∃ c, env.cells.lookup x = some c) (hE : Za2 env (Zb (top 29)) (ofString "law") 315 (.ref 314))
  (C : Loc env σ [] [("script", .ref a), ("m", .int (m : Nat) t1), ("n", .int (n : Nat) t2), ("letters", .int (Lt : Nat) t3), ("start", .int st t4), ("count", .int ((m * n : Nat) : Int) t5), ("numbers", .ref D), ("names", .ref D2)] [(D2, oD2), (D, oD)] s)
  (h : ∀ D3 oD3 us3 s', Zy oD3 us3 → StrsAre us3 ((List.range 10).map fun i => mkS (Ze.getD i [])) →
   Loc env σ [] [("script", .ref a), ("m", .int (m : Nat) t1), ("n", .int (n : Nat) t2), ("letters", .int (Lt : Nat) t3), ("start", .int st t4), ("count", .int ((m * n : Nat) : Int) t5), ("numbers", .ref D), ("names", .ref D2), ("words", .ref D3)] [(D3, oD3), (D2, oD2), (D, oD)] s' →
   wpAny (model prog w) A (execs ((Zl (top 29)).drop 6) env) Q E s') :
  wpAny (model prog w) A (execs ((Zl (top 29)).drop 5) env) Q E s := by
 refine Zq ?_
 refine Zi ?_
 refine Loc.lcA hO ⟨[], by walk_at "S"⟩ C (Zao C.block (by walk_at "K") (by kernel_rfl)) (by walk_at "K") ?_
 refine List_ ?_
 refine Za ?_
 refine C.cint ?_; clear C; intro s u0 C
 refine Za ?_
 refine C.cint ?_; clear C; intro s u1 C
 refine Za ?_
 refine C.cint ?_; clear C; intro s u2 C
 refine Za ?_
 refine C.cint ?_; clear C; intro s u3 C
 refine Za ?_
 refine C.cint ?_; clear C; intro s u4 C
 refine Za ?_
 refine C.cint ?_; clear C; intro s u5 C
 refine Za ?_
 refine C.cint ?_; clear C; intro s u6 C
 refine Za ?_
 refine C.cint ?_; clear C; intro s u7 C
 refine Za ?_
 refine C.cint ?_; clear C; intro s u8 C
 refine Za ?_
 refine C.cint ?_; clear C; intro s u9 C
 refine spliced_none ?_
 refine C.lst (by simp [sizeLine_eq]) ?_; clear C; intro DL s C
 have hint : IntsAre [Value.int 0 u0, .int 1 u1, .int 17 u2, .int 2 u3, .int 34 u4, .int 3 u5, .int 51 u6, .int 4 u7, .int 68 u8, .int 5 u9] Ze0 := .cons _ _ (.cons _ _ (.cons _ _ (.cons _ _ (.cons _ _ (.cons _ _ (.cons _ _ (.cons _ _ (.cons _ _ (.cons _ _ .nil)))))))))
 obtain ⟨uL, hUL⟩ : ∃ uL, uL = [Value.int 0 u0, .int 1 u1, .int 17 u2, .int 2 u3, .int 34 u4, .int 3 u5, .int 51 u6, .int 4 u7, .int 68 u8, .int 5 u9] := ⟨_, rfl⟩
 have hUlen : uL.length = 10 := by rw [hUL]; rfl
 rw [← hUL] at C hint
 refine C.pyIterL ((Zm uL).at (C.led _ M0)) ?_; clear C; intro I oI s hI hoI C
 refine Zal.all (fvs := []) (Zbl R.hd DL uL) (by walk_at "S") hI hoI C (by rw [sizeLine_eq, hUlen]; decide) (fun s' l' C => (Zm uL).at (C.led (DL, Zu uL) (by simp))) (fun i y new => (∃ t, y = .str (mkS (Ze.getD i [])) t) ∧ new = []) ?_ ?_
 ·intro i v cenv s N' hi' hv ce C CO
  obtain ⟨t, rfl, hlt⟩ := Zaz hint hv
  have hi10 : i < 10 := by rw [← hUlen]; exact hi'
  have hx : (Ze0.getD i 0).natAbs < 65536 := (by decide : ∀ i : Fin 10, (Ze0.getD i.val 0).natAbs < 65536) ⟨i, hi10⟩
  refine C.apE (W.ext CO.ext) G (m := 19) R L (by walk_at "K") M0 hx (fun u s C => ?_) (by kernel_rfl)
  rw [Zmk ⟨i, hi10⟩]
  exact C.eltS ⟨_, rfl⟩
 ·intro D3 oD3 s rs hD3 hG C s C
  obtain ⟨hds, hfl⟩ := hG.strs
  rw [hfl] at C
  rw [hUlen] at hds
  replace C := C.sv (Za3.of (by walk_at "T") (by kernel_rfl))
  exact h D3 oD3 _ s hD3 hds (C.sub (l' := [(D3, oD3), (D2, oD2), (D, oD)]) (by first | walk_at "U" | simp))
theorem Zly {σ : Shared} (W : Wd K σ.heap) {m : Nat} (R : Zk A m) {D3 : Addr} {oD3 : Obj} {us3 : List Value} {Q : Flow → Shared → Prop} (hm : ("words", .ref D3) ∈ vs) (hD3 : Zy oD3 us3) (hi3 : StrsAre us3 ((List.range 10).map fun i => mkS (Ze.getD i [])))
  (C : Loc env σ [] vs ((D3, oD3) :: l) s)
  (h : ∀ s', Loc env σ [] vs ((D3, oD3) :: l) s' → wpAny (model prog w) A (execs ((Zl (top 29)).drop 7) env) Q E s') :
  wpAny (model prog w) A (execs ((Zl (top 29)).drop 6) env) Q E s := by
 refine Zq ?_
 refine xci ?_
 refine Z0 ?_
 refine C.name (x := "words") hm ?_
 refine List_ ?_
 refine Za ?_
 refine C.cstr ?_; clear C; intro s u0 C
 refine Za ?_
 refine C.cstr ?_; clear C; intro s u1 C
 refine Za ?_
 refine C.cstr ?_; clear C; intro s u2 C
 refine Za ?_
 refine C.cstr ?_; clear C; intro s u3 C
 refine Za ?_
 refine C.cstr ?_; clear C; intro s u4 C
 refine Za ?_
 refine C.cstr ?_; clear C; intro s u5 C
 refine Za ?_
 refine C.cstr ?_; clear C; intro s u6 C
 refine Za ?_
 refine C.cstr ?_; clear C; intro s u7 C
 refine Za ?_
 refine C.cstr ?_; clear C; intro s u8 C
 refine Za ?_
 refine C.cstr ?_; clear C; intro s u9 C
 refine spliced_none ?_
 refine C.lst (by simp [sizeLine_eq]) ?_; clear C; intro DL s C
 refine Zkm (tt := (List.range 10).map fun i => mkS (Ze.getD i [])) (hD3.at (C.led _ M1)) ((Zm _).at (C.led _ M0)) hi3 (.cons _ _ (.cons _ _ (.cons _ _ (.cons _ _ (.cons _ _ (.cons _ _ (.cons _ _ (.cons _ _ (.cons _ _ (.cons _ _ .nil)))))))))) R.ul (wpAny_truthy_bool ?_)
 refine ifF (bne_self_eq_false _) ?_
 refine wpAny_execs_nil ?_
 exact h s (C.sub (List.sublist_cons_self _ _))
theorem Zp7 (k L : Nat) : (lnm k L).length = L := by unfold lnm; simp
theorem Zjx (k L : Nat) : ∀ c ∈ lnm k L, Unicode.isSpace c = false := by
 intro c hc
 unfold lnm at hc
 obtain ⟨i, _, rfl⟩ := List.mem_map.mp hc
 have h : k / 16 ^ (L - 1 - i) % 16 < 16 := Nat.mod_lt _ (by decide)
 generalize k / 16 ^ (L - 1 - i) % 16 = d at h
 exact (by decide +kernel : ∀ d : Fin 16, Unicode.isSpace (65 + d.val) = false) ⟨d, h⟩
noncomputable def Zdp (st : Int) (N Lt : Nat) : List (List Nat) := (List.range N).map fun k : Nat => lnm (st + (k : Int)).natAbs Lt
theorem Zhl (st : Int) (N Lt : Nat) : (Zdp st N Lt).length = N := by unfold Zdp; simp
theorem Zm2 (st : Int) (N Lt : Nat) : ((List.range N).map fun k : Nat => mkS (lnm (st + (k : Int)).natAbs Lt)) = (Zdp st N Lt).map mkS := by unfold Zdp; rw [List.map_map]; rfl
theorem Zb8 {st : Int} {N Lt : Nat} : ∀ x ∈ Zdp st N Lt, x.length = Lt ∧ ∀ c ∈ x, Unicode.isSpace c = false := by
 intro x hx
 obtain ⟨k, _, rfl⟩ := List.mem_map.mp hx
 exact ⟨Zp7 _ _, Zjx _ _⟩
structure KX (prog : Program) (w : World) (K : Frag) (cdT cdA cdF : ClassData) : Prop where
 kw : KW K cdT
 kd : KD K
 kt : KT K cdT
 ka : KA prog K cdA
 km : KM prog K
 kf : KF K cdF
 bp : ∀ t t', findObj K 248 (some (Zay w t t')) (ofString "push") = some (.bind (.builtin "function.__get__") (.ref 192))
 prep : FnK K 28 (ofString "_prepare_tag") (ofString "_prepare_tag") (top 2) [] .none 27
 picks : FnK K 293 (ofString "_law_picks") (ofString "_law_picks") (top 25) [] .none 292
 sound : FnK K 298 (ofString "_law_sound") (ofString "_law_sound") (top 26) [] .none 297
 sign : FnK K 305 (ofString "_law_sign") (ofString "_law_sign") (top 27) [] .none 304
 symb : FnK K 310 (ofString "_law_symbol") (ofString "_law_symbol") (top 28) [] .none 309
structure Zf5 (env : Env) (σ : Shared) : Prop where
 o : Zbw env σ
 c : ∀ x, env.kindOf x = some .cell → ∃ c, env.cells.lookup x = some c
 e : Za2 env (Zb (top 29)) (ofString "law") 315 (.ref 314)
variable {cdT cdA : ClassData}
theorem Zlw {σ : Shared} (W : Wd K σ.heap) (G : KG K) (R : Zk A 110) (Kx : KX prog w K cdT cdA cdF) (he : Zf5 env σ) {a D D2 D3 : Addr} {oD2 : Obj} {us2 : List Value} {ls : List (Addr × Obj)} {st : Int} {m n Lt : Nat} {t1 t2 t3 t4 t5 : Tok} (hok : Za8 m n Lt st) {Q : Flow → Shared → Prop}
  (hD2 : Zy oD2 us2) (hi2 : StrsAre us2 ((Zdp st (m * n) Lt).map mkS)) (h2m : (D2, oD2) ∈ ls)
  (C : Loc env σ [] [("script", .ref a), ("m", .int (m : Nat) t1), ("n", .int (n : Nat) t2), ("letters", .int (Lt : Nat) t3), ("start", .int st t4), ("count", .int ((m * n : Nat) : Int) t5), ("numbers", .ref D), ("names", .ref D2), ("words", .ref D3)] ls s)
  (h : ∀ t7 s', Loc env σ [] [("m", .int (m : Nat) t1), ("n", .int (n : Nat) t2), ("start", .int st t4), ("count", .int ((m * n : Nat) : Int) t5), ("numbers", .ref D), ("names", .ref D2), ("words", .ref D3), ("tall", .str (mkS (Zbb (Zdp st (m * n) Lt) n m)) t7)] ls s' →
   wpAny (model prog w) A (execs ((Zl (top 29)).drop 10) env) Q E s') :
  wpAny (model prog w) A (execs ((Zl (top 29)).drop 7) env) Q E s := by
 obtain ⟨hO, hc, hE⟩ := he
 have h316 : 316 ≤ D2 := (C.own _ h2m).2
 have hl4 : 1 ≤ Lt ∧ Lt ≤ 4 := by have := hok.hL; lia
 have hB : ∀ x ∈ Zdp st (m * n) Lt, x.length ≤ 4 := fun x hx => by have := (Zb8 x hx).1; simp +arith [*]
 have hlen := Zhl st (m * n) Lt
 have hlen' : (Zdp st (m * n) Lt).length = n * m := by rw [hlen, Nat.mul_comm]
 refine Zq ?_
 refine xca ?_
 refine Zf ?_
 walk_at "G"
 refine Zaa Kx.kw.ltext (W.ext C.ext) ?_
 refine Za ?_
 walk_at "N"
 refine Za ?_
 walk_at "N"
 refine Za ?_
 refine wpAny_Constant_bool ?_
 refine spliced_none ?_
 refine ⟨(W.ext C.ext).k, ?_⟩
 refine Zg2 (rows := m) (W.ext C.ext) G R.le Kx.ka Kx.km Kx.kf Kx.bp Kx.kw.ltext (hD2.at (C.led _ h2m)) hi2 h316 (.inl hok.mn) hlen (fun x hx => (Zb8 x hx).1) hl4.1 hl4.2 (fun x hx => (Zb8 x hx).2) fun t6 s' e => ?_
 replace C := C.pure e
 refine C.st hO hc (by walk_at "K") ?_; clear C; intro s C
 refine xca ?_
 refine Zf ?_
 walk_at "G"
 refine Zaa Kx.kw.ltext (W.ext C.ext) ?_
 refine Za ?_
 walk_at "N"
 refine Za ?_
 walk_at "N"
 refine Za ?_
 refine wpAny_Constant_bool ?_
 refine spliced_none ?_
 refine ⟨(W.ext C.ext).k, ?_⟩
 refine Zg2 (rows := n) (W.ext C.ext) G R.le Kx.ka Kx.km Kx.kf Kx.bp Kx.kw.ltext (hD2.at (C.led _ h2m)) hi2 h316 (.inr hok.mn) hlen' (fun x hx => (Zb8 x hx).1) hl4.1 hl4.2 (fun x hx => (Zb8 x hx).2) fun t7 s' e => ?_
 replace C := C.pure e
 refine C.st hO hc (by walk_at "K") ?_; clear C; intro s C
 refine xci ?_
 refine isTrue_or (Z0 ?_)
 walk_at "N"
 refine Zf ?_
 walk_at "G"
 refine Zaa Kx.kw.llines (W.ext C.ext) ?_
 refine Za ?_
 walk_at "N"
 refine Za ?_
 walk_at "N"
 refine spliced_none ?_
 refine ⟨(W.ext C.ext).k, ?_⟩
 refine Zft (rows := m) (W.ext C.ext) G R.le Kx.kw.llines (hD2.at (C.led _ h2m)) hi2 h316 (.inl hok.mn) hlen hB fun t8 s' e => ?_
 replace C := C.pure e
 refine ne_str (wpAny_truthy_bool ?_)
 refine ifF (bne_self_eq_false _) ?_
 refine isTrue_or (Z0 ?_)
 walk_at "N"
 refine Zf ?_
 walk_at "G"
 refine Zaa Kx.kw.llines (W.ext C.ext) ?_
 refine Za ?_
 walk_at "N"
 refine Za ?_
 walk_at "N"
 refine spliced_none ?_
 refine ⟨(W.ext C.ext).k, ?_⟩
 refine Zft (rows := n) (W.ext C.ext) G R.le Kx.kw.llines (hD2.at (C.led _ h2m)) hi2 h316 (.inr hok.mn) hlen' hB fun t9 s' e => ?_
 replace C := C.pure e
 refine ne_str (wpAny_truthy_bool ?_)
 refine ifF (bne_self_eq_false _) ?_
 refine isTrue_or_nil ?_
 refine ifN (by decide) ?_
 refine wpAny_execs_nil ?_
 exact h t7 _ (C.vsb (by first | walk_at "U" | exact (List.Sublist.refl _)))
noncomputable abbrev Zej (elt t0 i0 t1 i1 : Expr) (scope : Scope) (pos : Pos) : Expr := .ListComp elt [⟨t0, i0, [], 0⟩, ⟨t1, i1, [], 0⟩] scope pos
theorem Zhh (elt t0 i0 t1 i1 : Expr) (scope : Scope) (pos : Pos) (it acc : Value) (env : Env) :
  compTurn (Zej elt t0 i0 t1 i1 scope pos) 0 it acc env = (standAt i0.pos >>= fun _ => pyNext it >>= fun r => match r with
   | none => pure (.done .next)
   | some v => letOwnedTupleGo t0 it v >>= fun _ => assign t0 env v >>= fun _ =>
    eval i1 env >>= fun x => standAt i1.pos >>= fun _ => foldedSetIterable i1 env x >>= fun x => holding [x] (pyIter x) >>= fun jt => runOwn (.compStart (Zej elt t0 i0 t1 i1 scope pos) 1 jt acc env) env >>= fun _ =>
     again (.compLoop (Zej elt t0 i0 t1 i1 scope pos) 0 it acc env)) := by rfl
theorem Zg9 (elt t0 i0 t1 i1 : Expr) (scope : Scope) (pos : Pos) (it acc : Value) (env : Env) :
  compTurn (Zej elt t0 i0 t1 i1 scope pos) 1 it acc env = (standAt i1.pos >>= fun _ => pyNext it >>= fun r => match r with
   | none => pure (.done .next)
   | some v => letOwnedTupleGo t1 it v >>= fun _ => assign t1 env v >>= fun _ =>
    (eval elt env >>= fun x => call (.builtin "list.append") [acc, x] >>= fun _ => pure ()) >>= fun _ =>
     again (.compLoop (Zej elt t0 i0 t1 i1 scope pos) 1 it acc env)) := by rfl
theorem Zdj {elt t0 i0 t1 i1 : Expr} {scope : Scope} {pos : Pos} {it acc : Value} {env : Env} (I : Nat → Shared → Prop)
  (turn : ∀ n s, I n s → wpAny (model prog w) A (pyNext it) (fun r s₁ => match r with
   | none => R (.ok .next) s₁
   | some v => wpAny (model prog w) A (assign t1 env v) (fun _ s₂ => wpAny (model prog w) A (eval elt env) (fun x s₃ =>
     wpAny (model prog w) A (call (.builtin "list.append") [acc, x]) (fun _ s₄ => ∃ m, m < n ∧ I m s₄) (fun _ _ => False) s₃)
     (fun _ _ => False) s₂) (fun _ _ => False) s₁) (fun _ _ => False) s)
  (n : Nat) (h : I n s) (ht : autoParam (∀ v, letOwnedTupleGo t1 it v = pure ()) aI) :
  codeAny (model prog w) A (.compLoop (Zej elt t0 i0 t1 i1 scope pos) 1 it acc env) R s := by
 refine codeAny_loop rfl I (fun n s hI => ?_) n h
 show wpAny _ _ ((compTurn (Zej elt t0 i0 t1 i1 scope pos) 1 it acc env).onRaise (fun x => do noteFrame x env; theTreesLotGoes x)) _ _ s
 refine wpAny_noted ?_
 rw [Zg9]
 refine wpAny_bind (wpAny_standAt (wpAny_bind (wpAny_mono (turn n s hI) (fun r s₁ h₁ => ?_) fun _ _ h' => h'.elim)))
 cases r with
 | none => exact wpAny_pure h₁
 | some v =>
  refine wpAny_bind (wpAny_of_eq (ht v) ?_)
  exact wpAny_bind (wpAny_mono h₁ (fun _ s₂ h₂ => wpAny_bind (wpAny_bind (wpAny_mono h₂ (fun x s₃ h₃ => wpAny_bind (wpAny_mono h₃
   (fun _ s₄ h₄ => wpAny_pure (wpAny_pure ⟨rfl, h₄⟩)) fun _ _ h' => h'.elim)) fun _ _ h' => h'.elim))) fun _ _ h' => h'.elim)
theorem Zc8 {elt t0 i0 t1 i1 : Expr} {scope : Scope} {pos : Pos} {it acc : Value} {env : Env}
  (h0 : codeAny (model prog w) A (.compLoop (Zej elt t0 i0 t1 i1 scope pos) 1 it acc env) R s)
  (h : wpAny (model prog w) A (pyIter it) (fun it' s' => codeAny (model prog w) A (.compLoop (Zej elt t0 i0 t1 i1 scope pos) 1 it' acc env) R s') (fun _ _ => False) s) :
  codeAny (model prog w) A (.compStart (Zej elt t0 i0 t1 i1 scope pos) 1 it acc env) R s := by
 refine codeAny_of_tree ?_
 show wpAny _ _ ((compStart (Zej elt t0 i0 t1 i1 scope pos) 1 it acc env).onRaise (fun x => do noteFrame x env; standAt theWindowsPlace)) _ _ s
 refine wpAny_notedAt ?_
 unfold compStart
 show wpAny _ _ (ask >>= _) _ _ s
 refine wpAny_bind (wpAny_askSetting (wpAny_ite ?_))
 split
 ·first
   | exact wpAny_bind (wpAny_pure (wpAny_pure (And.intro rfl h0)))
   | exact wpAny_pure (And.intro rfl h0)
 ·first
   | exact wpAny_bind (wpAny_rule (wpAny_bind (wpAny_standAt (wpAny_bind (wpAny_mono h (fun it' s' h' => wpAny_pure (And.intro rfl h')) fun _ _ x => x.elim)))))
   | (refine wpAny_bind (wpAny_rule ?_); show wpAny _ _ (standAt i1.pos >>= _) _ _ s; exact wpAny_bind (wpAny_standAt (wpAny_bind (wpAny_mono h (fun it' s' h' => wpAny_pure (And.intro rfl h')) fun _ _ x => x.elim))))
theorem Zdi {elt t0 i0 t1 i1 : Expr} {scope : Scope} {pos : Pos} {it acc : Value} {env : Env} (I : Nat → Shared → Prop)
  (turn : ∀ n s, I n s → wpAny (model prog w) A (pyNext it) (fun r s₁ => match r with
   | none => R (.ok .next) s₁
   | some v => wpAny (model prog w) A (assign t0 env v) (fun _ s₂ => wpAny (model prog w) A (eval i1 env) (fun x s₃ =>
     wpAny (model prog w) A (pyIter x) (fun jt s₄ => codeAny (model prog w) A (.compStart (Zej elt t0 i0 t1 i1 scope pos) 1 jt acc env) (fun r s₅ => match r with
      | .ok _ => ∃ m, m < n ∧ I m s₅
      | .error _ => False) s₄) (fun _ _ => False) s₃) (fun _ _ => False) s₂) (fun _ _ => False) s₁) (fun _ _ => False) s)
  (n : Nat) (h : I n s) (ht : autoParam (∀ v, letOwnedTupleGo t0 it v = pure ()) aI) (hs : autoParam (∀ x, foldedSetIterable i1 env x = Pure.pure x) aI) :
  codeAny (model prog w) A (.compLoop (Zej elt t0 i0 t1 i1 scope pos) 0 it acc env) R s := by
 refine codeAny_loop rfl I (fun n s hI => ?_) n h
 show wpAny _ _ ((compTurn (Zej elt t0 i0 t1 i1 scope pos) 0 it acc env).onRaise (fun x => do noteFrame x env; theTreesLotGoes x)) _ _ s
 refine wpAny_noted ?_
 rw [Zhh]
 refine wpAny_bind (wpAny_standAt (wpAny_bind (wpAny_mono (turn n s hI) (fun r s₁ h₁ => ?_) fun _ _ h' => h'.elim)))
 cases r with
 | none => exact wpAny_pure h₁
 | some v =>
  refine wpAny_bind (wpAny_of_eq (ht v) ?_)
  refine wpAny_bind (wpAny_mono h₁ (fun _ s₂ h₂ => wpAny_bind (wpAny_mono h₂ (fun x s₃ h₃ => wpAny_bind (wpAny_standAt ?_)) fun _ _ h' => h'.elim)) fun _ _ h' => h'.elim)
  refine wpAny_bind (wpAny_of_eq (hs x) ?_)
  refine wpAny_bind (wpAny_holding (wpAny_mono h₃ (fun jt s₄ h₄ => ?_) fun _ _ h' => h'.elim))
  refine wpAny_bind (wpAny_runOwn (codeAny_mono h₄ fun r s₅ h₅ => ?_))
  cases r with
  | ok f => exact wpAny_pure ⟨rfl, h₅⟩
  | error e => exact h₅.elim
noncomputable def Zbj (G : Nat → Nat → Value → Prop) (m k : Nat) (zs : List Value) : Prop := zs.length = k ∧ ∀ p, p < k → ∃ z, zs[p]? = some z ∧ G (p / m) (p % m) z
theorem Zbj.nil {G : Nat → Nat → Value → Prop} {m : Nat} : Zbj G m 0 [] := ⟨rfl, fun p h => by lia⟩
theorem Zbj.snoc {G : Nat → Nat → Value → Prop} {m k : Nat} {zs : List Value} (h : Zbj G m k zs) {z : Value} (hz : G (k / m) (k % m) z) : Zbj G m (k + 1) (zs ++ [z]) := by
 refine ⟨by simp [h.1], fun p hp => ?_⟩
 by_cases hk : p < k
 ·refine Zo (h.2 p hk) fun z' e g => ?_
  exact ⟨z', by rw [List.getElem?_append_left (by rw [h.1]; exact hk)]; exact e, g⟩
 ·have : p = k := by lia
  subst this
  refine ⟨z, ?_, hz⟩
  rw [List.getElem?_append_right (by rw [h.1]; exact Nat.le.refl), h.1]; simp
theorem Z4.loc2 {scope : Scope} {x y : String} {fvs : List (String × Value)} (S : Z4 env scope (ofString x) vs fvs) (hy : scope.names.lookup (ofString y) = .some .local) {cenv : Env} (ce : Zcm cenv env scope) {oC : Obj} (C : Loc env s₀ X vs l s) (hC : (cenv.locals, oC) ∈ l) {ρ : Str → Option Value} (hn : s.heap.Ns cenv.locals ρ) {v u : Value} (hv : ρ (ofString x) = .some v) (hu : ρ (ofString y) = .some u) :
  Loc cenv s [] ((y, u) :: (x, v) :: fvs) [] s := by
 have L := S.loc ce C hC hn hv
 refine ⟨L.ext, L.fr, fun p hp => ?_, L.led, L.own, L.off, L.nd, L.fc⟩
 rcases List.mem_cons.mp hp with rfl | hp
 ·refine .inl ⟨?_, ρ, hn, hu⟩
  unfold Env.kindOf
  rw [ce.scope]
  exact lookup_relabel_local hy
 ·exact L.bd p hp
noncomputable abbrev Zkg (elt i0 i1 : Expr) (x y : String) (px py : Pos) (scope : Scope) (pos : Pos) : Expr := Zej elt (.Name (ofString x) px) i0 (.Name (ofString y) py) i1 scope pos
theorem Loc.compR2 {x y : String} {elt i0 i1 : Expr} {px py pos : Pos} {scope : Scope} {n m : Nat} {O : Nat → Obj → Prop} {Pv : Nat → Value → Prop} {side : Heap → Prop} {I : Addr} {oI : Obj} (hh : A.handled = none)
  (S : Zdr prog w A n O Pv side) (cs : Z4 env scope (ofString x) vs fvs) (hy : scope.names.lookup (ofString y) = some .local) (hxy : x ≠ y) (hI : s₀.heap.get? I = none) (hO : O 0 oI) (C : Loc env s₀ [] vs ((I, oI) :: l) s) (hsz : n * m ≤ sizeLine) (G : Nat → Nat → Value → Prop)
  (hside : ∀ s' l', Loc env s₀ [] vs (l' ++ l) s' → side s'.heap)
  (hin : ∀ i v cenv s₃ N', i < n → Pv i v → Zcm cenv env scope → Loc cenv s₃ [] ((x, v) :: fvs) [] s₃ → Loc env s₀ [] vs (N' ++ l) s₃ →
   wpAny (model prog w) A (eval i1 cenv) (fun xv s₄ => wpAny (model prog w) A (pyIter xv) (fun jt s₅ => ∃ J new, jt = .ref J ∧ Ext [] [] s₃ s₅ ∧ Zan s₃ s₅ ((J, Zfh 0 m 1) :: new)) (fun _ _ => False) s₄) (fun _ _ => False) s₃)
  (helt : ∀ i j v t cenv s₃ N', i < n → j < m → Pv i v → Zcm cenv env scope → Loc cenv s₃ [] ((y, .int (j : Nat) t) :: (x, v) :: fvs) [] s₃ → Loc env s₀ [] vs (N' ++ l) s₃ →
   wpAny (model prog w) A (eval elt cenv) (fun z s₄ => G i j z ∧ Ext [] [] s₃ s₄) (fun _ _ => False) s₃)
  {RR : Value → Addr → Result → Shared → Prop}
  (hRR : ∀ D oD Cc oC ρ s' (zs : List Value), s₀.heap.get? Cc = none → s'.heap.Ns Cc ρ → Zy oD zs → Zbj G m (n * m) zs → Loc env s₀ [] vs ((Cc, oC) :: (D, oD) :: l) s' → RR (.ref D) Cc (.ok .next) s')
  (hs1 : autoParam (∀ cenv x, foldedSetIterable i1 cenv x = Pure.pure x) aJ) :
  wpAny (model prog w) A (newList []) (fun acc s₃ => wpAny (model prog w) A (newFunctionEnv scope env.globals (Zb0 env scope.names) [] env.qual none .none (some env)) (fun cenv s₄ =>
   codeAny (model prog w) A (.compStart (Zkg elt i0 i1 x y px py scope pos) 0 (.ref I) acc { cenv with scope := relabel scope env }) (RR acc cenv.locals) s₄) E s₃) E s := by
 refine C.lst (by simp) ?_; clear C; intro D s₃ C
 refine wpAny_newFunctionEnv cs.cell (by intro y hy; simp at hy) (fun h₁ hns hsb => ?_) cs.kind
 generalize hCc : s₃.heap.objs.size = Cc at hns hsb
 have k0 : ∀ b o, s₃.heap.get? b = some o → h₁.get? b = some o := fun b o e => (hsb.2 b (hCc ▸ Nat.ne_of_lt (Heap.lt_size e))).trans (Zd b o e)
 have e0 : Ext [] [] s₃ { s₃ with heap := h₁, toks := s₃.toks + ([] : List (Str × Value)).length } := C.extK k0
 have hn0 : s₃.heap.get? Cc = none := hCc ▸ Zc
 have hC0 : s₀.heap.get? Cc = none := C.noneAt hn0 (fun h => nomatch h)
 refine Zax (id hns) fun oC es ep hoC r => ?_
 replace C := C.add e0 hn0 (hCc ▸ C.big) hoC (fun fd q => by have r0 := r.1; rw [r0] at q; cases q)
 have perm3 : ∀ {a b c : Addr × Obj} {m : List (Addr × Obj)}, (c :: a :: b :: m).Perm (a :: b :: c :: m) := fun {a b c m} => (List.Perm.swap a c (b :: m)).trans (List.Perm.cons a (List.Perm.swap b c m))
 replace C : Loc env s₀ [] vs ((I, oI) :: (Cc, oC) :: (D, Zu []) :: l) _ := C.perm perm3
 generalize hs4 : ({ s₃ with heap := h₁, toks := s₃.toks + ([] : List (Str × Value)).length } : Shared) = s₄ at *
 have hns : s₄.heap.Ns Cc (fun x => ([] : List (Str × Value)).reverse.lookup x) := by rw [← hs4]; exact hns
 have loop : codeAny (model prog w) A (.compLoop (Zkg elt i0 i1 x y px py scope pos) 0 (.ref I) (.ref D) ({ newEnv scope Cc env.globals (Zb0 env scope.names) env.qual none Value.none (some env) builtinsNs with scope := relabel scope env } : Env)) (RR (.ref D) Cc) s₄ := by
  generalize hce : ({ newEnv scope Cc env.globals (Zb0 env scope.names) env.qual none Value.none (some env) builtinsNs with scope := relabel scope env } : Env) = cenv
  have ce : Zcm cenv env scope := hce ▸ (⟨rfl, rfl, rfl, rfl, rfl, rfl, rfl, rfl⟩ : Zcm ({ newEnv scope Cc env.globals (Zb0 env scope.names) env.qual none Value.none (some env) builtinsNs with scope := relabel scope env } : Env) env scope)
  have hloc : cenv.locals = Cc := by rw [← hce]; rfl
  have hkx : cenv.kindOf (ofString x) = some .local := by unfold Env.kindOf; rw [ce.scope]; exact lookup_relabel_local cs.hx
  have hky : cenv.kindOf (ofString y) = some .local := by unfold Env.kindOf; rw [ce.scope]; exact lookup_relabel_local hy
  have hkk : cenv.scope.kind = .function := by rw [ce.scope]; exact cs.kind
  have hne : ofString x ≠ ofString y := fun e => hxy (Zah.mp e)
  refine Zdi (fun k s' => ∀ T_ : Prop, (∀ i oI oC oD ρ zs, k = n + 1 - i → i ≤ n → O i oI → s'.heap.Ns Cc ρ → Zy oD zs → Zbj G m (i * m) zs → Loc env s₀ [] vs ((I, oI) :: (Cc, oC) :: (D, oD) :: l) s' → T_) → T_) ?_ (n + 1)
   (fun _ kk => kk 0 oI oC (Zu []) _ [] (Eq.refl (n + 1)) (Nat.zero_le _) hO hns (Zm []) (by rw [Nat.zero_mul]; exact .nil) C) (hs := hs1 cenv)
  intro k s' hh
  refine hh _ fun i oI oC oD ρ zs eK hi hO hρ hD hG C => ?_; clear hh; subst eK
  have sd := hside s' _ (show Loc env s₀ [] vs ([(I, oI), (Cc, oC), (D, oD)] ++ l) s' from C)
  by_cases hlt : i < n
  ·refine S.item i I s' _ _ hlt ⟨oI, C.led _ M0, hO⟩ sd fun u h' tk hu hit hs => ?_
   refine Zo hit fun oJ q1 q2 => ?_
   have x1 : Ext [I] [] s' { s' with heap := h', toks := tk } := Ext.same (C.own _ M0).2 (Z5 (C.led _ M0) (S.nc _ _ hO)) M0 hs ⟨oJ, q1⟩
   have eC : s'.heap.get? Cc = some oC := C.led _ M1
   replace C := C.put x1 J0 q1 (S.nc _ _ q2).2
   have hρ := Zp hρ eC (C.led _ M1)
   refine wpAny_assign_Name (wpAny_storeName_local hkx (by rw [hloc]; exact hρ) (fun h₂ hn₂ hs₂ => ?_) (by rw [hkk]; rfl))
   rw [hloc] at hn₂ hs₂
   refine Zax (id hn₂) fun oC₂ es₂ ep₂ eC₂ _ => ?_
   have x2 : Ext [Cc] [] ({ s' with heap := h', toks := tk } : Shared) { s' with heap := h₂, toks := tk + 1 } := Ext.same (s := { s' with heap := h', toks := tk }) (C.own (Cc, oC) M1).2 (Zbh hρ) M0 hs₂ ⟨_, eC₂⟩
   replace C := C.put x2 J1 eC₂ (Zbh hn₂ _ eC₂).2
   generalize ({ s' with heap := h₂, toks := tk + 1 } : Shared) = s₅ at *
   have eC₅ : s₅.heap.get? Cc = some oC₂ := C.led _ M1
   have hn₂ := Zp hn₂ eC₂ eC₅
   generalize hρ₂ : (fun k => if k = ofString x then some u else ρ k) = ρ₂ at hn₂
   have hvx : ρ₂ (ofString x) = some u := by rw [← hρ₂]; simp
   have CL := cs.loc ce C (by rw [hloc]; exact M1) (by rw [hloc]; exact hn₂) hvx
   refine wpAny_mono (hin i u cenv s₅ [(I, oJ), (Cc, oC₂), (D, oD)] hlt hu ce CL C) (fun xv s₆ h₆ => wpAny_mono h₆ (fun jt s₇ h₇ => ?_) fun _ _ q => q) fun _ _ q => q
   obtain ⟨J, new, rfl, x3, N⟩ := h₇
   have hJ0 : s₀.heap.get? J = none := C.noneAt (N.1 _ M0).1 (fun h => nomatch h)
   replace C := C.addN x3 N
   replace C : Loc env s₀ [] vs ((J, Zfh 0 m 1) :: (I, oJ) :: (Cc, oC₂) :: (D, oD) :: l) s₇ := C.sub (List.Sublist.cons_cons _ (List.sublist_append_right _ _))
   have eC₇ : s₇.heap.get? Cc = some oC₂ := C.led _ M2
   have hn₇ := Zp hn₂ eC₅ eC₇
   have SJ := Zcz (prog := prog) (w := w) hh 0 1 m
   have inner : codeAny (model prog w) A (.compLoop (Zkg elt i0 i1 x y px py scope pos) 1 (.ref J) (.ref D) cenv) (fun r s₅ => match r with
      | .ok _ => ∃ m_1, m_1 < n + 1 - i ∧ ∀ T_ : Prop, (∀ i oI oC oD ρ zs, m_1 = n + 1 - i → i ≤ n → O i oI → s₅.heap.Ns Cc ρ → Zy oD zs → Zbj G m (i * m) zs → Loc env s₀ [] vs ((I, oI) :: (Cc, oC) :: (D, oD) :: l) s₅ → T_) → T_
      | .error _ => False) s₇ := by
    refine Zdj (fun k s' => ∀ T_ : Prop, (∀ j oR oC oD ρ zs, k = m + 1 - j → j ≤ m → oR = Zfh (0 + (j : Int) * 1) ((m : Int) - j) 1 → s'.heap.Ns Cc ρ → ρ (ofString x) = some u → Zy oD zs → Zbj G m (i * m + j) zs → Loc env s₀ [] vs ((J, oR) :: (I, oJ) :: (Cc, oC) :: (D, oD) :: l) s' → T_) → T_) ?_ (m + 1)
     (fun _ kk => kk 0 _ oC₂ oD _ zs (Eq.refl (m + 1)) (Nat.zero_le _) (Zcq _ _ _) hn₇ hvx hD hG C)
    clear C hG hD hn₇ eC₇ h₆ N x3 CL hn₂ eC₅
    intro k s₈ hh
    refine hh _ fun j oR oC oD ρ zs eK hj hR hρ hρx hD hG C => ?_; clear hh; subst eK
    by_cases hjl : j < m
    ·refine SJ.item j J s₈ _ _ hjl ⟨oR, C.led _ M0, hR⟩ trivial fun v h' tk hv hit hs => ?_
     obtain ⟨t, rfl⟩ := hv
     refine Zo hit fun oR' q1 q2' => ?_
     have x1 : Ext [J] [] s₈ { s₈ with heap := h', toks := tk } := Ext.same (C.own _ M0).2 (Z5 (C.led _ M0) (SJ.nc _ _ hR)) M0 hs ⟨oR', q1⟩
     have eC : s₈.heap.get? Cc = some oC := C.led _ M2
     replace C := C.put x1 J0 q1 (SJ.nc _ _ q2').2
     have hρ := Zp hρ eC (C.led _ M2)
     refine wpAny_assign_Name (wpAny_storeName_local hky (by rw [hloc]; exact hρ) (fun h₂ hn₂ hs₂ => ?_) (by rw [hkk]; rfl))
     rw [hloc] at hn₂ hs₂
     refine Zax (id hn₂) fun oC₂ es₂ ep₂ eC₂ _ => ?_
     have x2 : Ext [Cc] [] ({ s₈ with heap := h', toks := tk } : Shared) { s₈ with heap := h₂, toks := tk + 1 } := Ext.same (s := { s₈ with heap := h', toks := tk }) (C.own (Cc, oC) M2).2 (Zbh hρ) M0 hs₂ ⟨_, eC₂⟩
     replace C := C.put x2 J2 eC₂ (Zbh hn₂ _ eC₂).2
     generalize ({ s₈ with heap := h₂, toks := tk + 1 } : Shared) = s₉ at *
     have eC₉ : s₉.heap.get? Cc = some oC₂ := C.led _ M2
     have hn₂ := Zp hn₂ eC₂ eC₉
     have hej : (0 + (j : Int) * 1) = ((j : Nat) : Int) := by simp +arith
     rw [hej] at hn₂
     have hv2 : (fun k => if k = ofString y then some (Value.int (j : Nat) t) else ρ k) (ofString x) = some u := by simp [hne, hρx]
     have CL := cs.loc2 hy ce C (by rw [hloc]; exact M2) (by rw [hloc]; exact hn₂) hv2 (u := Value.int (j : Nat) t) (y := y) (x := x) (by simp)
     refine wpAny_mono (helt i j u t cenv s₉ [(J, oR'), (I, oJ), (Cc, oC₂), (D, oD)] hlt hjl hu ce CL C) (fun z s₁₀ h₁₀ => ?_) fun _ _ q => q
     obtain ⟨hg, x4⟩ := h₁₀
     replace C := C.pure x4
     have eC₁₀ : s₁₀.heap.get? Cc = some oC₂ := C.led _ M2
     have hn₂ := Zp hn₂ eC₉ eC₁₀
     have eD := C.led (D, oD) M3
     have hlen : zs.length ≤ sizeLine := by
      rw [hG.1]
      have : i * m + m ≤ n * m := by rw [← Nat.succ_mul]; exact Nat.mul_le_mul_right _ hlt
      grind
     refine wpAny_list_append (hD.at eD) (fun h₈ hl₈ hs₈ => ?_) (by simpa using hlen)
     refine Z1 hl₈ fun oD₈ q3 q4 q5 => ?_
     have x5 : Ext [D] [] s₁₀ { s₁₀ with heap := h₈ } := Ext.same (tk := s₁₀.toks) (C.own (D, oD) M3).2 (Z5 eD (Zau hD)) M0 hs₈ ⟨_, q3⟩
     replace C := C.put x5 J3 q3 (fun fd e => by obtain ⟨n, d⟩ := q5; rw [d] at e; cases e)
     refine ⟨_, nD hjl, fun _ kk => kk (j + 1) oR' oC₂ oD₈ _ (zs ++ [z]) rfl hjl q2' (Zp hn₂ eC₁₀ (C.led _ M2)) hv2 ⟨q4, ?_⟩ ?_ C⟩
     ·obtain ⟨m, hm⟩ := q5
      exact ⟨m, by rw [hm]; simp⟩
     ·refine hG.snoc ?_
      have e1 : (i * m + j) / m = i := by rw [Nat.mul_comm, Nat.mul_add_div (nB hjl), Nat.div_eq_of_lt hjl]; rfl
      have e2 : (i * m + j) % m = j := by rw [Nat.mul_comm, Nat.mul_add_mod, Nat.mod_eq_of_lt hjl]
      rw [e1, e2]; exact hg
    ·have hjm : j = m := by lia
     rw [hjm] at hR hG
     refine SJ.done J s₈ _ _ ⟨oR, C.led _ M0, hR⟩ trivial fun h' tk hx => ?_
     have eC : s₈.heap.get? Cc = some oC := C.led _ M2
     replace C := C.die (tk := tk) rfl hJ0 (SJ.nc _ _ hR) hx
     exact ⟨_, nD hlt, fun _ kk => kk (i + 1) oJ oC oD ρ zs rfl hlt q2 (Zp hρ eC (C.led _ M1)) hD (by rw [Nat.succ_mul]; exact hG) C⟩
   exact Zc8 inner (SJ.self 0 J s₇ _ _ ⟨_, C.led _ M0, Zcq _ _ _⟩ inner)
  ·have : i = n := by lia
   subst this
   refine S.done I s' _ _ ⟨oI, C.led _ M0, hO⟩ sd fun h' tk hx => ?_
   have eC : s'.heap.get? Cc = some oC := C.led _ M1
   replace C := C.die (tk := tk) rfl hI (S.nc _ _ hO) hx
   exact hRR D oD Cc oC ρ _ zs hC0 (Zp hρ eC (C.led _ M0)) hD hG C
 have fin := codeAny_compStart_list loop (S.self 0 I s₄ _ _ ⟨oI, C.led _ M0, hO⟩ loop)
 exact fin
noncomputable def Zli (prog : Program) (w : World) (A : Around) (env : Env) (s₀ : Shared) (vs : List (String × Value)) (x y : String) (elt i1 : Expr) (scope : Scope)
  (Fin : List (Addr × Obj) → Addr → Obj → Shared → Prop) (it : Value) (s₂ : Shared) : Prop :=
 ∀ T_ : Prop, (∀ (l : List (Addr × Obj)) (fvs : List (String × Value)) (I : Addr) (oI : Obj) (n m : Nat) (O : Nat → Obj → Prop) (Pv : Nat → Value → Prop) (side : Heap → Prop) (G : Nat → Nat → Value → Prop),
  it = .ref I →
  Zdr prog w A n O Pv side →
  Z4 env scope (ofString x) vs fvs →
  scope.names.lookup (ofString y) = some .local →
  x ≠ y →
  s₀.heap.get? I = none →
  O 0 oI →
  Loc env s₀ [] vs ((I, oI) :: l) s₂ →
  n * m ≤ sizeLine →
  (∀ s' l', Loc env s₀ [] vs (l' ++ l) s' → side s'.heap) →
  (∀ i v cenv s₃ N', i < n → Pv i v → Zcm cenv env scope → Loc cenv s₃ [] ((x, v) :: fvs) [] s₃ → Loc env s₀ [] vs (N' ++ l) s₃ →
   wpAny (model prog w) A (eval i1 cenv) (fun xv s₄ => wpAny (model prog w) A (pyIter xv) (fun jt s₅ => ∃ J new, jt = .ref J ∧ Ext [] [] s₃ s₅ ∧ Zan s₃ s₅ ((J, Zfh 0 m 1) :: new)) (fun _ _ => False) s₄) (fun _ _ => False) s₃) →
  (∀ i j v t cenv s₃ N', i < n → j < m → Pv i v → Zcm cenv env scope → Loc cenv s₃ [] ((y, .int (j : Nat) t) :: (x, v) :: fvs) [] s₃ → Loc env s₀ [] vs (N' ++ l) s₃ →
   wpAny (model prog w) A (eval elt cenv) (fun z s₄ => G i j z ∧ Ext [] [] s₃ s₄) (fun _ _ => False) s₃) →
  (∀ D oD s' (zs : List Value), Zy oD zs → Zbj G m (n * m) zs → Loc env s₀ [] vs ((D, oD) :: l) s' → Fin l D oD s') → T_) → T_
theorem Loc.lc2 (hh : A.handled = none) {x y : String} {elt i0 i1 : Expr} {px py pos : Pos} {scope : Scope} {Q : Value → Shared → Prop} (cs : ∃ fvs, Z4 env scope (ofString x) vs fvs) (C : Loc env s₀ [] vs l s)
  (h : wpAny (model prog w) A (eval i0 env) (fun xv s₁ => wpAny (model prog w) A (pyIter xv) (Zli prog w A env s₀ vs x y elt i1 scope (fun l' D oD s' => Q (.ref D) s')) E s₁) E s)
  (hs : autoParam (∀ x, foldedSetIterable i0 env x = Pure.pure x) aI) (hs1 : autoParam (∀ cenv x, foldedSetIterable i1 cenv x = Pure.pure x) aJ) :
  wpAny (model prog w) A (eval (Zkg elt i0 i1 x y px py scope pos) env) Q E s := by
 obtain ⟨_, cs⟩ := cs
 rw [eval_ListComp]
 refine wpAny_comprehension_free (use := none) rfl hs (Zx (cs.some C)) cs.kind cs.names (wpAny_mono h (fun xv s₁ h₁ => wpAny_mono h₁ (fun it s₂ h₂ => ?_) fun _ _ e => e) fun _ _ e => e)
 refine h₂ _ fun l fvs I oI n m O Pv side G e S cs hy hxy hI hO C hsz hside hin helt hfin => ?_; clear h₂; subst e
 refine C.compR2 hh S cs hy hxy hI hO hsz G hside hin helt (RR := fun acc C => compPost (model prog w) A E none Q acc C) ?_ hs1
 intro D oD Cc oC ρ s' zs h0 hn hD hG C
 exact ⟨ρ, hn, fun h' hs' => hfin D oD _ zs hD hG (C.die (tk := s'.toks) rfl h0 (Zbh hn _ (C.led _ M0)) fun b o hb e => (hs'.2 b hb).trans e)⟩
theorem Loc.lcA2 (O : Zbw env s₀) (hh : A.handled = none) {x y z : String} {elt i0 i1 : Expr} {px py pz pos spos : Pos} {scope : Scope} {Q : Flow → Shared → Prop} (cs : ∃ fvs, Z4 env scope (ofString x) vs fvs) (C : Loc env s₀ [] vs l s)
  (hsw : swapsWith (Zkg elt i0 i1 x y px py scope pos) (some (.Name (ofString z) pz)) spos.line env = Pure.pure true) (hz : env.kindOf (ofString z) = some .local)
  (h : wpAny (model prog w) A (eval i0 env) (fun xv s₁ => wpAny (model prog w) A (pyIter xv) (Zli prog w A env s₀ vs x y elt i1 scope (fun l' D oD s' => ∀ s'', Loc env s₀ [] (Zbd z (.ref D) vs) ((D, oD) :: l') s'' → Q .next s'')) E s₁) E s)
  (hs : autoParam (∀ x, foldedSetIterable i0 env x = Pure.pure x) aI) (hs1 : autoParam (∀ cenv x, foldedSetIterable i1 cenv x = Pure.pure x) aJ) :
  wpAny (model prog w) A (exec (.Assign [.Name (ofString z) pz] (Zkg elt i0 i1 x y px py scope pos) spos) env) Q E s := by
 obtain ⟨_, cs⟩ := cs
 rw [exec_Assign_Name_used _ _ _ _ hsw]
 refine wpAny_bind (wpAny_standAt (wpAny_bind ?_))
 show wpAny (model prog w) A (do let _ ← comprehension (Zkg elt i0 i1 x y px py scope pos) scope env _ (newList []) false (eval i0 env) (some (assign (.Name (ofString z) pz) env))) _ E s
 refine wpAny_bind (wpAny_mono (wpAny_comprehension_free (use := some (assign (.Name (ofString z) pz) env)) (Q := fun _ s' => Q .next s') rfl hs (Zx (cs.some C)) cs.kind cs.names
  (wpAny_mono h (fun xv s₁ h₁ => wpAny_mono h₁ (fun it s₂ h₂ => ?_) fun _ _ e => e) fun _ _ e => e)) (fun _ s' hq => wpAny_pure (wpAny_pure hq)) fun _ _ e => e)
 refine h₂ _ fun l fvs I oI n m O' Pv side G e S cs hy hxy hI hO C hsz hside hin helt hfin => ?_; clear h₂; subst e
 refine C.compR2 hh S cs hy hxy hI hO hsz G hside hin helt (RR := fun acc C => compPost (model prog w) A E (some (assign (.Name (ofString z) pz) env)) (fun _ s' => Q .next s') acc C) ?_ hs1
 intro D oD Cc oC ρ s' zs h0 hn hD hG C
 have eC := C.led _ M0
 show wpAny (model prog w) A (assign (.Name (ofString z) pz) env (.ref D)) _ E s'
 refine wpAny_assign_Name (C.storeL O hz fun s'' C'' => ?_)
 refine ⟨ρ, Zp hn eC (C''.led _ M0), fun h' hs' => ?_⟩
 have C0 : Loc env s₀ [] vs ((Cc, oC) :: (D, oD) :: l) s' := C
 have C3 := C''.die (tk := s''.toks) rfl h0 (Zbh hn _ eC) (h' := h') (fun b o hb e => (hs'.2 b hb).trans e)
 have C4 := C0.die (tk := s'.toks) rfl h0 (Zbh hn _ eC) (h' := s'.heap) (fun b o hb e => e)
 exact hfin D oD _ zs hD hG C4 _ C3
theorem Zbj.strs {f : Nat → Nat → Str} {m k : Nat} {zs : List Value} (h : Zbj (fun i j z => ∃ t, z = .str (f i j) t) m k zs) : StrsAre zs ((List.range k).map fun p => f (p / m) (p % m)) := by
 have key : ∀ (k : Nat) (zs : List Value), Zbj (fun i j z => ∃ t, z = .str (f i j) t) m k zs → StrsAre zs ((List.range k).map fun p => f (p / m) (p % m)) := by
  intro k
  induction k with
  | zero =>
   intro zs h
   have := List.eq_nil_of_length_eq_zero h.1
   subst this; exact .nil
  | succ k ih =>
   intro zs h
   refine Zqd (h.2 k (Nat.lt_succ_self k)) fun z e t ez => ?_
   have hz : zs = zs.take k ++ [z] := by
    have h1 := List.take_append_drop k zs
    have h2 : zs.drop k = [z] := by
     rw [List.drop_eq_getElem_cons (by rw [h.1]; exact Nat.le.refl)]
     have : zs[k]'(by rw [h.1]; exact Nat.le.refl) = z := by
      rw [List.getElem?_eq_getElem (by rw [h.1]; exact Nat.le.refl)] at e
      exact Option.some.inj e
     rw [this, List.drop_eq_nil_of_le (by rw [h.1]; exact Nat.le.refl)]
    rw [h2] at h1; exact h1.symm
   have hg : Zbj (fun i j z => ∃ t, z = .str (f i j) t) m k (zs.take k) := ⟨by rw [List.length_take, h.1]; simp +arith, fun p hp => by
    refine Zo (h.2 p (Nat.le.step hp)) fun z' e' g => ?_
    exact ⟨z', by rw [List.getElem?_take_of_lt hp]; exact e', g⟩⟩
   have i1 := ih _ hg
   rw [hz, List.range_succ, List.map_append, ez]
   clear hz h e ez hg
   generalize zs.take k = a at i1
   generalize (List.range k).map (fun p => f (p / m) (p % m)) = b at i1
   induction i1 with
   | nil => exact .cons _ _ .nil
   | cons x t r ih2 => exact .cons _ _ ih2
 exact key k zs h
theorem Zbj.ints {f : Nat → Nat → Int} {m k : Nat} {zs : List Value} (h : Zbj (fun i j z => ∃ t, z = .int (f i j) t) m k zs) : IntsAre zs ((List.range k).map fun p => f (p / m) (p % m)) := by
 have key : ∀ (k : Nat) (zs : List Value), Zbj (fun i j z => ∃ t, z = .int (f i j) t) m k zs → IntsAre zs ((List.range k).map fun p => f (p / m) (p % m)) := by
  intro k
  induction k with
  | zero =>
   intro zs h
   have := List.eq_nil_of_length_eq_zero h.1
   subst this; exact .nil
  | succ k ih =>
   intro zs h
   refine Zqd (h.2 k (Nat.lt_succ_self k)) fun z e t ez => ?_
   have hz : zs = zs.take k ++ [z] := by
    have h1 := List.take_append_drop k zs
    have h2 : zs.drop k = [z] := by
     rw [List.drop_eq_getElem_cons (by rw [h.1]; exact Nat.le.refl)]
     have : zs[k]'(by rw [h.1]; exact Nat.le.refl) = z := by
      rw [List.getElem?_eq_getElem (by rw [h.1]; exact Nat.le.refl)] at e
      exact Option.some.inj e
     rw [this, List.drop_eq_nil_of_le (by rw [h.1]; exact Nat.le.refl)]
    rw [h2] at h1; exact h1.symm
   have hg : Zbj (fun i j z => ∃ t, z = .int (f i j) t) m k (zs.take k) := ⟨by rw [List.length_take, h.1]; simp +arith, fun p hp => by
    refine Zo (h.2 p (Nat.le.step hp)) fun z' e' g => ?_
    exact ⟨z', by rw [List.getElem?_take_of_lt hp]; exact e', g⟩⟩
   have i1 := ih _ hg
   rw [hz, List.range_succ, List.map_append, ez]
   clear hz h e ez hg
   generalize zs.take k = a at i1
   generalize (List.range k).map (fun p => f (p / m) (p % m)) = b at i1
   induction i1 with
   | nil => exact .cons _ _ .nil
   | cons x t r ih2 => exact .cons _ _ ih2
 exact key k zs h
theorem Zds (c : List Nat) (x y : List Nat) (r : List (List Nat)) : jn c (x :: y :: r) = x ++ (c ++ jn c (y :: r)) := by
 show x ++ ((c ++ y) ++ r.flatMap fun p => c ++ p) = _
 rw [List.append_assoc]; rfl
theorem Zgu (c : List Nat) (x : List Nat) : jn c [x] = x := by show x ++ [] = x; simp
theorem Zfv {c : Nat} : ∀ {x y a b : List Nat}, c ∉ x → c ∉ y → x ++ c :: a = y ++ c :: b → x = y ∧ a = b
 | [], [], a, b, _, _, h => ⟨rfl, by simpa using h⟩
 | [], e :: y, a, b, _, hy, h => by
  have : c = e := (List.cons.inj h).1
  exact absurd (this ▸ List.mem_cons_self) hy
 | e :: x, [], a, b, hx, _, h => by
  have : e = c := (List.cons.inj h).1
  exact absurd (this ▸ List.mem_cons_self) hx
 | e :: x, f :: y, a, b, hx, hy, h => by
  obtain ⟨h1, h2⟩ := List.cons.inj h
  obtain ⟨h3, h4⟩ := Zfv (fun q => hx (.tail _ q)) (fun q => hy (.tail _ q)) h2
  exact ⟨by rw [h1, h3], h4⟩
theorem Zn2 {c : Nat} : ∀ {A B : List (List Nat)}, A ≠ [] → B ≠ [] → (∀ x ∈ A, c ∉ x) → (∀ x ∈ B, c ∉ x) → jn [c] A = jn [c] B → A = B
 | [], _, h, _, _, _, _ => absurd rfl h
 | _, [], _, h, _, _, _ => absurd rfl h
 | [x], [y], _, _, _, _, h => by rw [Zgu, Zgu] at h; rw [h]
 | [x], y :: z :: r, _, _, hA, _, h => by
  rw [Zgu, Zds] at h
  exact absurd (h ▸ List.mem_append_right _ (List.mem_append_left _ M0)) (hA x M0)
 | x :: z :: r, [y], _, _, _, hB, h => by
  rw [Zgu, Zds] at h
  exact absurd (h ▸ List.mem_append_right _ (List.mem_append_left _ M0)) (hB y M0)
 | x :: z :: r, y :: u :: q, _, _, hA, hB, h => by
  rw [Zds, Zds] at h
  obtain ⟨h1, h2⟩ := Zfv (hA x M0) (hB y M0) (by simpa using h)
  rw [h1, Zn2 (c := c) (A := z :: r) (B := u :: q) (by simp) (by simp) (fun w hw => hA w (.tail _ hw)) (fun w hw => hB w (.tail _ hw)) h2]
theorem Zen (x : Str) : mkS x.cps.toList = x := by simp [mkS]
theorem Zgg (c : List Nat) : ∀ B : List Str, Str.join (mkS c) B = mkS (jn c (B.map (·.cps.toList)))
 | [] => rfl
 | [x] => by rw [List.map_cons, List.map_nil, Zgu, Zen]; rfl
 | x :: y :: r => by
  rw [List.map_cons, List.map_cons, Zds, ← Zdb, ← Zdb, Zen, ← List.map_cons (f := fun z : Str => z.cps.toList), ← Zgg c (y :: r)]
  show x ++ mkS c ++ Str.join (mkS c) (y :: r) = _
  exact Str.append_assoc _ _ _
theorem Zne {c : Nat} {A : List (List Nat)} (hA : A ≠ []) (hf : ∀ x ∈ A, c ∉ x) : Txt.split (mkS (jn [c] A)) (mkS [c]) = A.map mkS := by
 have h1 := StrLaws.join_split (mkS (jn [c] A)) (mkS [c])
 have h2 := StrLaws.split_free (mkS (jn [c] A)) c
 have h3 := split_pos (mkS (jn [c] A)) (mkS [c])
 have h2 : ∀ p ∈ Txt.split (mkS (jn [c] A)) (mkS [c]), c ∉ p.cps.toList := h2
 generalize Txt.split (mkS (jn [c] A)) (mkS [c]) = B at h1 h2 h3
 rw [Zgg] at h1
 have h4 := Zc5.mp h1
 have e := Zn2 (fun q => by rw [List.map_eq_nil_iff] at q; rw [q] at h3; simp at h3) hA (fun x hx => by
  obtain ⟨p, hp, rfl⟩ := List.mem_map.mp hx
  exact h2 p hp) hf h4
 rw [← e, List.map_map]
 have : (mkS ∘ fun z : Str => z.cps.toList) = id := by funext z; exact Zen z
 rw [this, List.map_id]
theorem Zfg : ∀ (x : List Nat) (ws : List Str) (r : List Nat), (∀ c ∈ x, Unicode.isSpace c = false) → x.foldl KWd.step (ws, mkS r) = (ws, mkS (r ++ x))
 | [], ws, r, _ => by simp
 | c :: x, ws, r, h => by
  have hc := h c M0
  have e : KWd.step (ws, mkS r) c = (ws, mkS (r ++ [c])) := by
   unfold KWd.step
   rw [if_neg (by rw [hc]; exact Bool.false_ne_true)]
   show (ws, mkS r ++ mkS [c]) = _
   rw [Zdb]
  rw [List.foldl_cons, e, Zfg x ws (r ++ [c]) (fun d hd => h d (.tail _ hd)), List.append_assoc]
  rfl
theorem Zgr : ∀ (W : List (List Nat)) (ws : List Str) (r : List Nat), r ≠ [] → (∀ x ∈ W, x ≠ [] ∧ ∀ c ∈ x, Unicode.isSpace c = false) →
  KWd.fin ((W.flatMap fun x => [32] ++ x).foldl KWd.step (ws, mkS r)) = ws ++ (r :: W).map mkS
 | [], ws, r, hr, _ => by
  show (if (mkS r).length = 0 then ws else ws ++ [mkS r]) = _
  rw [if_neg (by rw [Zv]; exact fun q => hr (List.eq_nil_of_length_eq_zero q))]
  rfl
 | x :: W, ws, r, hr, h => by
  obtain ⟨h1, h2⟩ := h x M0
  have e : KWd.step (ws, mkS r) 32 = (ws ++ [mkS r], mkS []) := by
   unfold KWd.step
   rw [if_pos (by decide +kernel), if_neg (by rw [Zv]; exact fun q => hr (List.eq_nil_of_length_eq_zero q))]
   rfl
  rw [List.flatMap_cons, List.foldl_append, List.foldl_append, List.foldl_cons, List.foldl_nil, e, Zfg x _ [] h2, List.nil_append, Zgr W _ x h1 (fun y hy => h y (.tail _ hy))]
  simp
theorem Zku {W : List (List Nat)} (h : ∀ x ∈ W, x ≠ [] ∧ ∀ c ∈ x, Unicode.isSpace c = false) (hW : W ≠ []) : Txt.words (mkS (32 :: jn [32] W)) = W.map mkS := by
 rw [KWd.words_scan]
 cases W with
 | nil => exact absurd rfl hW
 | cons x W =>
  obtain ⟨h1, h2⟩ := h x M0
  have e : KWd.scan (mkS (32 :: jn [32] (x :: W))) = (W.flatMap fun x => [32] ++ x).foldl KWd.step ([], mkS x) := by
   show (32 :: (x ++ W.flatMap fun p => [32] ++ p)).foldl KWd.step ([], mkS []) = _
   have e : KWd.step ([], mkS []) 32 = ([], mkS []) := by
    unfold KWd.step
    rw [if_pos (by decide +kernel), if_pos (by decide)]
   rw [List.foldl_cons, e, List.foldl_append, Zfg x _ [] h2, List.nil_append]
  rw [e, Zgr W [] x h1 (fun y hy => h y (.tail _ hy))]
  rfl
theorem Loc.split0 (C : Loc env s₀ X vs l s) {x : Str} {t : Tok} {Q : Value → Shared → Prop} (hsz : x.length ≤ 100000)
  (h : ∀ D us s', StrsAre us (Txt.words x) → Loc env s₀ X vs ((D, Zu us) :: l) s' → Q (.ref D) s') : wpAny (model prog w) A (call (.builtin "str.split") [.str x t]) Q E s := by
 have hn : (Builtin.Str.spaceWords x (x.length + 1)).length ≤ sizeLine := by
  have e1 := (StrLaws.sw_weight x).1
  have e2 := StrLaws.len_le_wsum (Builtin.Str.spaceWords x (x.length + 1))
  rw [sizeLine_eq]; lia
 have add : ∀ us tk, Loc env s₀ X vs ((s.heap.objs.size, Zu us) :: l) { s with heap := s.heap.push (Zu us), toks := tk } := fun us tk => C.add (C.extK Zd) Zc C.big (Heap.get?_push_size _ rfl)
 refine call_meets F.slot_str_split (typeIs_str _ _ _) F.entry_str_split (F.args_str_split_1 _) (meets_str_split_space x t (by rw [sizeLine_eq]; exact kA ‹_› rfl) hn) ?_
 cases hw : Builtin.Str.spaceWords x (x.length + 1) == [(0, x.length)]
 ·simp only [Bool.false_eq_true, if_false]
  rw [strsFrom_eq]
  refine h _ _ _ ?_ (add _ _)
  have e : ((numbered s.toks (PySem.wordsOf x)).map (·.1)) = Txt.words x := (numbered_texts _ _).trans (if_neg (ne_true_of_eq_false hw)).symm
  rw [← e]
  exact strsAre_of_values _
 ·simp only [if_true]
  have e : Txt.words x = [x] := if_pos hw
  refine h _ _ _ ?_ (add [.str x t] s.toks)
  rw [e]
  exact .cons _ _ .nil
theorem Loc.split1 (C : Loc env s₀ X vs l s) {x y : Str} {t u : Tok} {Q : Value → Shared → Prop} (hsz : x.length ≤ 100000) (hy : (y.length == 0) = false)
  (h : ∀ D us s', StrsAre us (Txt.split x y) → Loc env s₀ X vs ((D, Zu us) :: l) s' → Q (.ref D) s') : wpAny (model prog w) A (call (.builtin "str.split") [.str x t, .str y u]) Q E s := by
 have hn : (Builtin.Str.partsBetween x (Builtin.Str.occurrences x y 0 x.length (x.length + 1)) y.length).length ≤ sizeLine := by
  have e1 := StrLaws.occ_length_le x y 0 x.length (x.length + 1)
  rw [length_partsBetween, sizeLine_eq]; lia
 have add : ∀ us tk, Loc env s₀ X vs ((s.heap.objs.size, Zu us) :: l) { s with heap := s.heap.push (Zu us), toks := tk } := fun us tk => C.add (C.extK Zd) Zc C.big (Heap.get?_push_size _ rfl)
 cases h1 : (decide (x.length < y.length) || decide (Builtin.Str.strKind x < Builtin.Str.strKind y))
 ·cases hf : (Builtin.Str.occurrences x y 0 x.length (x.length + 1)).isEmpty
  ·refine call_meets F.slot_str_split (typeIs_str _ _ _) F.entry_str_split (F.args_str_split_2 _ _) (meets_str_split_sep x y t u h1 hy hf (by rw [sizeLine_eq]; exact kA ‹_› rfl) hn) ?_
   show wants Q E _ { s with toks := _, heap := s.heap.push { cls := .type "list", data := .seq (strsFrom s.toks (Builtin.Str.partsBetween x (Builtin.Str.occurrences x y 0 x.length (x.length + 1)) y.length)).toArray } }
   rw [strsFrom_eq]
   refine h _ _ _ ?_ (add _ _)
   have e : ((numbered s.toks (Builtin.Str.partsBetween x (Builtin.Str.occurrences x y 0 x.length (x.length + 1)) y.length)).map (·.1)) = Txt.split x y := (numbered_texts _ _).trans ((if_neg (ne_true_of_eq_false h1)).trans (if_neg (ne_true_of_eq_false hf))).symm
   rw [← e]
   exact strsAre_of_values _
  ·refine call_meets F.slot_str_split (typeIs_str _ _ _) F.entry_str_split (F.args_str_split_2 _ _) (meets_str_split_not_found x y t u h1 hy hf) ?_
   have e : Txt.split x y = [x] := (if_neg (ne_true_of_eq_false h1)).trans (if_pos hf)
   refine h _ _ _ ?_ (add [.str x t] s.toks)
   rw [e]
   exact .cons _ _ .nil
 ·refine call_meets F.slot_str_split (typeIs_str _ _ _) F.entry_str_split (F.args_str_split_2 _ _) (meets_str_split_cannot_occur x y t u h1) ?_
  have e : Txt.split x y = [x] := if_pos h1
  refine h _ _ _ ?_ (add [.str x t] s.toks)
  rw [e]
  exact .cons _ _ .nil
theorem Zp1 {nms : List (List Nat)} {m n i j : Nat} (hlen : nms.length = m * n) (hi : i < m) (hj : j < n) : ((nms.drop (j * m)).take m)[i]? = some (nms.getD (j * m + i) []) := by
 have h1 : j * m + m ≤ n * m := by rw [← Nat.succ_mul]; exact Nat.mul_le_mul_right _ hj
 have h2 : j * m + i < nms.length := by rw [hlen, Nat.mul_comm m n]; lia
 rw [List.getElem?_take_of_lt hi, List.getElem?_drop, List.getElem?_eq_getElem h2]
 simp [List.getD, h2]
noncomputable def Zag (m n : Nat) : List Nat := (List.range (m * n)).map fun p => p % n * m + p / n
theorem Loc.newIn (C : Loc env s₀ [] vs l s) : Zan s₀ s l := ⟨fun p hp => ⟨(C.own p hp).1.resolve_left (fun h => nomatch h), (C.own p hp).2, C.led p hp⟩, C.nd, C.fc⟩
theorem Zor {σ : Shared} (W : Wd K σ.heap) (G : KG K) (R : Zk A 110) (he : Zf5 env σ) {D D2 D3 : Addr} {ls : List (Addr × Obj)} {st : Int} {m n Lt : Nat} {nms : List (List Nat)} {t1 t2 t4 t5 t7 : Tok} {Q : Flow → Shared → Prop}
  (hp : (m, n) ∈ Zg) (hlen : nms.length = m * n) (hnm : ∀ x ∈ nms, 1 ≤ x.length ∧ x.length ≤ 4 ∧ ∀ c ∈ x, Unicode.isSpace c = false)
  (C : Loc env σ [] [("m", .int (m : Nat) t1), ("n", .int (n : Nat) t2), ("start", .int st t4), ("count", .int ((m * n : Nat) : Int) t5), ("numbers", .ref D), ("names", .ref D2), ("words", .ref D3), ("tall", .str (mkS (Zbb nms n m)) t7)] ls s)
  (h : ∀ DC oC uC s', Zy oC uC → StrsAre uC (((Zag m n).map fun k => nms.getD k []).map mkS) → Loc env σ [] [("m", .int (m : Nat) t1), ("n", .int (n : Nat) t2), ("start", .int st t4), ("count", .int ((m * n : Nat) : Int) t5), ("numbers", .ref D), ("names", .ref D2), ("words", .ref D3), ("columns", .ref DC)] ((DC, oC) :: ls) s' →
   wpAny (model prog w) A (execs ((Zl (top 29)).drop 12) env) Q E s') :
  wpAny (model prog w) A (execs ((Zl (top 29)).drop 10) env) Q E s := by
 obtain ⟨hO, hc, hE⟩ := he
 refine Z6 ((by decide : ∀ p ∈ Zg, 3 ≤ p.1 ∧ p.1 ≤ 9 ∧ 3 ≤ p.2 ∧ p.2 ≤ 9 ∧ p.1 * p.2 ≤ 27) _ hp) fun hm3 hm9 hn3 hn9 hmn => ?_
 simp only at hm3 hm9 hn3 hn9 hmn
 have hrow : ∀ j, j < n → ∀ x ∈ (nms.drop (j * m)).take m, x ∈ nms := fun j _ x hx => List.mem_of_mem_drop (List.mem_of_mem_take hx)
 have hrl : ∀ j, j < n → ((nms.drop (j * m)).take m).length = m := fun j hj => by
  have h1 : j * m + m ≤ n * m := by rw [← Nat.succ_mul]; exact Nat.mul_le_mul_right _ hj
  rw [List.length_take, List.length_drop, hlen, Nat.mul_comm m n]; exact nM h1
 have hlin : ∀ j, j < n → (32 :: jn [32] ((nms.drop (j * m)).take m)).length ≤ 60 ∧ 10 ∉ 32 :: jn [32] ((nms.drop (j * m)).take m) := fun j hj => by
  refine ⟨?_, fun hm => ?_⟩
  ·have h1 := Zh3 [32] ((nms.drop (j * m)).take m)
   have h2 := Zcy (fun x hx => (hnm x (hrow j hj x hx)).2.1)
   rw [hrl j hj] at h1 h2
   simp only [List.length_cons, List.length_nil] at h1 ⊢
   lia
  ·rcases List.mem_cons.mp hm with h | h
   ·cases h
   ·have key : ∀ W : List (List Nat), (∀ x ∈ W, (10 : Nat) ∉ x) → 10 ∉ jn [32] W := by
     intro W hW hm
     cases W with
     | nil => cases hm
     | cons x r =>
      rcases List.mem_append.mp hm with h | h
      ·exact hW x M0 h
      ·refine Zo (List.mem_flatMap.mp h) fun y hy h => ?_
       rcases List.mem_append.mp h with h | h
       ·cases List.mem_singleton.mp h
       ·exact hW y (.tail _ hy) h
    refine key _ (fun x hx hm => ?_) h
    have := (hnm x (hrow j hj x hx)).2.2 10 hm
    exact absurd this (by decide +kernel)
 have hsplit : Txt.split (mkS (Zbb nms n m)) (mkS [10]) = ((List.range n).map fun i => 32 :: jn [32] ((nms.drop (i * m)).take m)).map mkS := by
  refine Zne (by rw [Ne, List.map_eq_nil_iff, List.range_eq_nil]; lia) fun x hx => ?_
  obtain ⟨j, hj, rfl⟩ := List.mem_map.mp hx
  exact (hlin j (List.mem_range.mp hj)).2
 have htl : (mkS (Zbb nms n m)).length ≤ 100000 := by
  rw [Zv]
  have h1 := Zh3 [10] ((List.range n).map fun i => 32 :: jn [32] ((nms.drop (i * m)).take m))
  have h2 := Zcy (ls := (List.range n).map fun i => 32 :: jn [32] ((nms.drop (i * m)).take m)) (B := 60) (fun x hx => by
   obtain ⟨j, hj, rfl⟩ := List.mem_map.mp hx
   exact (hlin j (List.mem_range.mp hj)).1)
  simp only [List.length_map, List.length_range, List.length_cons, List.length_nil] at h1 h2
  unfold Zbb
  lia
 refine Zq ?_
 refine xca ?_ (Zfu (k := .cell) (by walk_at "K") (by decide))
 refine Loc.lc ⟨[], by walk_at "S"⟩ C ?_
 refine Zbk ?_
 walk_at "N"
 refine Zbt "str" "str.split" F.plainAttrs_str F.slot_str_split F.type_str_split (typeIs_str _ _ _) (fun _ x => by cases x) (callWith_method1 ?_)
 refine Za ?_
 refine C.cstr ?_; clear C; intro s t C
 refine spliced_none ?_
 refine C.split1 htl (by decide) ?_; clear C; intro DL uL s hL C
 have hL : StrsAre uL (Txt.split (mkS (Zbb nms n m)) (mkS [10])) := hL
 rw [hsplit] at hL
 have hLl : uL.length = n := by rw [hL.length, List.length_map, List.length_map, List.length_range]
 refine C.pyIterL ((Zm uL).at (C.led _ M0)) ?_; clear C; intro I oI s hI hoI C
 refine Zal.all (fvs := []) (Zbl R.hd DL uL) (by walk_at "S") hI hoI C (by rw [sizeLine_eq, hLl]; exact kA ‹_› rfl) (fun s' l' C => (Zm uL).at (C.led (DL, Zu uL) (by simp)))
  (fun i y new => ∃ a us, y = .ref a ∧ new = [(a, Zu us)] ∧ StrsAre us (((nms.drop (i * m)).take m).map mkS)) ?_ ?_
 ·intro i v cenv s N' hi' hv ce C CO
  rw [hLl] at hi'
  obtain ⟨x, t, rfl, hx⟩ := Zfb hL hv
  rw [List.getElem?_map, List.getElem?_range hi'] at hx
  cases hx
  refine Zbk ?_
  walk_at "N"
  refine Zbt "str" "str.split" F.plainAttrs_str F.slot_str_split F.type_str_split (typeIs_str _ _ _) (fun _ x => by cases x) (callWith_method0 ?_)
  refine C.split0 (by rw [Zv]; exact Nat.le_trans (hlin i hi').1 (by decide)) ?_; clear C; intro DW uW s hW C
  rw [Zku (fun x hx => ⟨fun q => by have := (hnm x (hrow i hi' x hx)).1; rw [q] at this; simp at this, (hnm x (hrow i hi' x hx)).2.2⟩) (fun q => by have := hrl i hi'; rw [q] at this; simp at this; lia)] at hW
  exact ⟨_, ⟨DW, uW, rfl, rfl, hW⟩, C.ext, C.newIn⟩
 intro TD oT s rs hoT hG C
 rw [hLl] at hG
 refine C.st hO hc (by walk_at "K") ?_; clear C; intro s C
 generalize hLs : (TD, oT) :: (rs.flatMap (fun x => x.2) ++ (DL, Zu uL) :: ls) = Ls at C
 have hLT : (TD, oT) ∈ Ls := by rw [← hLs]; exact M0
 have hLR : ∀ p ∈ rs.flatMap (fun x => x.2), p ∈ Ls := fun p hp => by rw [← hLs]; exact .tail _ (List.mem_append_left _ hp)
 have hLsub : ls.Sublist Ls := by rw [← hLs]; exact .cons _ ((List.sublist_cons_self _ _).trans (List.sublist_append_right _ _))
 refine Zq ?_
 refine Zi ?_
 refine Loc.lcA2 hO R.hd ⟨[("turned", .ref TD), ("n", .int (n : Nat) t2)], by walk_at "S"⟩ C (Zao C.block (by walk_at "K") (by kernel_rfl)) (by walk_at "K") ?_
 refine Zf ?_
 walk_at "B"
 refine xt1 ?_
 refine Za ?_
 walk_at "N"
 refine spliced_none ?_
 refine C.range1 ?_; clear C; intro r _ _ _ s C
 refine C.pyIterR1 (a := 0) (n := m) (by rw [Int.zero_add]; exact M0) (by decide) (kB ‹_› rfl) ?_; clear C; intro I s hI C
 replace C := C.sub (l' := (I, _) :: Ls) (List.Sublist.cons_cons _ (List.sublist_cons_self _ _))
 refine fun _ kk => kk Ls [("turned", .ref TD), ("n", .int (n : Nat) t2)] I _ m n _ _ _ (fun i j z => ∃ t, z = .str (mkS (nms.getD (j * m + i) [])) t) rfl (Zcz R.hd 0 1 m) (by walk_at "S") (by kernel_rfl) (by decide) hI (Zcq _ _ _) C (by rw [sizeLine_eq]; exact kA ‹_› rfl) (fun _ _ _ => trivial) ?_ ?_ ?_
 ·intro i v cenv s N' hi' hv ce C CO
  have W := W.ext CO.ext
  refine Zf ?_
  walk_at "B"
  refine xt1 ?_
  refine Za ?_
  walk_at "N"
  refine spliced_none ?_
  refine C.range1 ?_; clear C; intro r _ _ _ s C
  refine C.pyIterR1 (a := 0) (n := n) (by rw [Int.zero_add]; exact M0) (by decide) (kB ‹_› rfl) ?_; clear C; intro J s hJ C
  exact ⟨J, _, rfl, C.ext, C.newIn⟩
 ·intro i j v t cenv s N' hi' hj hv ce C CO
  obtain ⟨tv, rfl⟩ := hv
  rw [show (0 + (i : Int) * 1) = ((i : Nat) : Int) by simp +arith [*]] at C
  have hjr : j < rs.length := by rw [hG.1, List.length_range]; exact hj
  have ej : (rs.map (·.1))[j]? = some (rs[j]).1 := by rw [List.getElem?_map, List.getElem?_eq_getElem hjr]; rfl
  obtain ⟨new, ⟨a, us, ey, en, hus⟩, hmem⟩ := hG.at ej
  subst en
  rw [ey] at ej
  have hma : (a, Zu us) ∈ N' ++ Ls := List.mem_append_right _ (hLR _ (hmem _ M0))
  have hla : s.heap.IsList a us.toArray := (Zm us).at (CO.led _ hma)
  obtain ⟨tz, ez⟩ := Zb7 hus (i := i) (x := mkS (nms.getD (j * m + i) [])) (by rw [List.getElem?_map, Zp1 hlen hi' hj]; rfl)
  refine Zad ?_
  refine Zad ?_
  walk_at "N"
  walk_at "N"
  refine Loc.subL (hoT.at (CO.led (TD, oT) (List.mem_append_right _ hLT))) (Int.natCast_nonneg _) (by lia) (by rw [Int.toNat_natCast]; exact ej) ?_
  walk_at "N"
  refine Loc.subL hla (Int.natCast_nonneg _) (by lia) (by rw [Int.toNat_natCast]; exact ez) ?_
  exact ⟨⟨tz, rfl⟩, Ext.refl _ _ _⟩
 ·intro DC oC s zs hoC hz C s C
  replace C := C.sv (Za3.of (by walk_at "T") (by kernel_rfl))
  have hz := hz.strs (f := fun i j => mkS (nms.getD (j * m + i) []))
  have e : (List.range (m * n)).map (fun p => mkS (nms.getD (p % n * m + p / n) [])) = ((Zag m n).map fun k => nms.getD k []).map mkS := by unfold Zag; rw [List.map_map, List.map_map]; rfl
  rw [e] at hz
  exact h DC oC zs s hoC hz ((C.sub (List.Sublist.cons_cons _ hLsub)).vsb (by first | walk_at "U" | exact (List.Sublist.refl _)))
theorem Zoc {a b : Addr} {x y : Int} {tx ty ux uy : Tok} {Q : Value → Shared → Prop} (ha : s.heap.get? a = some (Zaw [.int x tx, .int y ty])) (hb : s.heap.get? b = some (Zaw [.int x ux, .int y uy])) (hu : A.units < cLine)
  (h : Q (.bool false) s) : wpAny (model prog w) A (compareOp .NotEq (.ref a) (.ref b)) Q E s := by
 have := SeqAt.RcNeAt.tuples (A := A) (e := fun j => if j = 0 then x == x else y == y) (⟨_, ha, rfl, _, rfl⟩ : s.heap.IsTuple a [Value.int x tx, .int y ty].toArray) (⟨_, hb, rfl, _, rfl⟩ : s.heap.IsTuple b [Value.int x ux, .int y uy].toArray) hu (fun j h1 h2 => by
  have : j < 2 := h1
  rcases j with _ | _ | j
  ·exact SeqAt.EqAt.int_int _ _ _ _
  ·exact SeqAt.EqAt.int_int _ _ _ _
  ·lia)
 refine this prog w E Q ?_
 have e : (!((List.range (min [Value.int x tx, .int y ty].toArray.size [Value.int x ux, .int y uy].toArray.size)).all (fun j => if j = 0 then x == x else y == y) && [Value.int x tx, .int y ty].toArray.size == [Value.int x ux, .int y uy].toArray.size)) = false := by
  simp [List.range_succ]
 rw [e]
 exact h
theorem Zou {σ : Shared} (W : Wd K σ.heap) (G : KG K) (R : Zk A 110) (Kd : KD K) (he : Zf5 env σ) {D D2 D3 DC : Addr} {ls : List (Addr × Obj)} {st : Int} {m n Lt : Nat} {t1 t2 t4 t5 : Tok} {Q : Flow → Shared → Prop} (hok : Za8 m n Lt st)
  (C : Loc env σ [] [("m", .int (m : Nat) t1), ("n", .int (n : Nat) t2), ("start", .int st t4), ("count", .int ((m * n : Nat) : Int) t5), ("numbers", .ref D), ("names", .ref D2), ("words", .ref D3), ("columns", .ref DC)] ls s)
  (h : ∀ PL PR u1 v1 u2 v2 s', Loc env σ [] [("m", .int (m : Nat) t1), ("n", .int (n : Nat) t2), ("count", .int ((m * n : Nat) : Int) t5), ("numbers", .ref D), ("names", .ref D2), ("words", .ref D3), ("columns", .ref DC), ("left", .ref PL), ("right", .ref PR)]
    ((PL, Zaw [.int (st.fdiv m) u1, .int (st.fmod m) v1]) :: (PR, Zaw [.int (st.fdiv n) u2, .int (st.fmod n) v2]) :: ls) s' →
   wpAny (model prog w) A (execs ((Zl (top 29)).drop 15) env) Q E s') :
  wpAny (model prog w) A (execs ((Zl (top 29)).drop 12) env) Q E s := by
 obtain ⟨hO, hc, hE⟩ := he
 refine Z6 ((by decide : ∀ p ∈ Zg, 3 ≤ p.1 ∧ p.1 ≤ 9 ∧ 3 ≤ p.2 ∧ p.2 ≤ 9 ∧ p.1 * p.2 ≤ 27) _ hok.mn) fun hm3 hm9 hn3 hn9 hmn => ?_
 simp only at hm3 hm9 hn3 hn9 hmn
 have hst : st.natAbs < 2 ^ 19 := by
  have := (Zd2 hok (k := 0) (Nat.mul_pos (nB hm3) (nB hn3))).1
  simp only [Int.natCast_zero, Int.add_zero] at this
  exact kC ‹_› rfl
 refine Zq ?_
 refine xca ?_
 refine Zf ?_
 walk_at "G"
 refine Zaa Kd.f91 (W.ext C.ext) ?_
 refine Za ?_
 walk_at "N"
 refine Za ?_
 walk_at "N"
 refine spliced_none ?_
 refine ⟨(W.ext C.ext).k, ?_⟩
 refine Zc3 (W.ext C.ext) G R.le Kd (kz ‹_› rfl) (by lia) hst fun PL u1 v1 s' q1 q2 x1 q3 => ?_
 replace C := C.add x1 q1 q2 q3
 refine C.st hO hc (by walk_at "K") ?_; clear C; intro s C
 refine xca ?_
 refine Zf ?_
 walk_at "G"
 refine Zaa Kd.f91 (W.ext C.ext) ?_
 refine Za ?_
 walk_at "N"
 refine Za ?_
 walk_at "N"
 refine spliced_none ?_
 refine ⟨(W.ext C.ext).k, ?_⟩
 refine Zc3 (W.ext C.ext) G R.le Kd (kz ‹_› rfl) (by lia) hst fun PR u2 v2 s' q1 q2 x1 q3 => ?_
 replace C := C.add x1 q1 q2 q3
 refine C.st hO hc (by walk_at "K") ?_; clear C; intro s C
 refine xci ?_
 refine isTrue_or (Z0 ?_)
 walk_at "N"
 refine Tuple_ ?_
 refine Za ?_
 refine Zn ?_
 walk_at "N"
 walk_at "N"
 refine C.idiv (kZ ‹_› rfl) (PyProof.noPylong_small (kB ‹_› rfl)) ?_; clear C; intro s t C
 refine Za ?_
 refine Zn ?_
 walk_at "N"
 walk_at "N"
 refine C.imod (kZ ‹_› rfl) ?_; clear C; intro s t C
 refine spliced_none ?_
 refine C.tup (by simp [sizeLine_eq]) ?_; clear C; intro P1 s C
 refine Zoc (C.led (PL, _) M2) (C.led _ M0) R.ul (wpAny_truthy_bool ?_)
 refine ifN (by decide) ?_
 refine isTrue_or (Z0 ?_)
 walk_at "N"
 refine Tuple_ ?_
 refine Za ?_
 refine Zn ?_
 walk_at "N"
 walk_at "N"
 refine C.idiv (kZ ‹_› rfl) (PyProof.noPylong_small (kB ‹_› rfl)) ?_; clear C; intro s t C
 refine Za ?_
 refine Zn ?_
 walk_at "N"
 walk_at "N"
 refine C.imod (kZ ‹_› rfl) ?_; clear C; intro s t C
 refine spliced_none ?_
 refine C.tup (by simp [sizeLine_eq]) ?_; clear C; intro P2 s C
 refine Zoc (C.led (PR, _) M2) (C.led _ M0) R.ul (wpAny_truthy_bool ?_)
 refine ifN (by decide) ?_
 refine isTrue_or_nil ?_
 refine ifN (by decide) ?_
 refine wpAny_execs_nil ?_
 replace C := C.sub (l' := (PR, _) :: (PL, _) :: ls) (.cons _ (.cons _ (List.Sublist.refl _)))
 exact h PL PR u1 v1 u2 v2 _ ((C.perm (List.Perm.swap _ _ _)).vsb (by first | walk_at "U" | exact (List.Sublist.refl _)))
theorem Zj2 : ((List.range 10).map fun i => mkS (Ze.getD i [])) = Ze.map mkS := by decide +kernel
theorem Zme {σ : Shared} (R : Zk A 110) (he : Zf5 env σ) {D D2 D3 DC PL PR : Addr} {oD3 : Obj} {us3 : List Value} {ls : List (Addr × Obj)} {m n : Nat} {t1 t2 t5 : Tok} {Q : Flow → Shared → Prop} (hp : (m, n) ∈ Zg)
  (hD3 : Zy oD3 us3) (hi3 : StrsAre us3 ((List.range 10).map fun i => mkS (Ze.getD i []))) (h3m : (D3, oD3) ∈ ls)
  (C : Loc env σ [] [("m", .int (m : Nat) t1), ("n", .int (n : Nat) t2), ("count", .int ((m * n : Nat) : Int) t5), ("numbers", .ref D), ("names", .ref D2), ("words", .ref D3), ("columns", .ref DC), ("left", .ref PL), ("right", .ref PR)] ls s)
  (h : ∀ DL DR ul ur s', StrsAre ul ((Ze.take m).map mkS) → StrsAre ur (((Ze.drop 1).take n).map mkS) →
   Loc env σ [] [("m", .int (m : Nat) t1), ("n", .int (n : Nat) t2), ("count", .int ((m * n : Nat) : Int) t5), ("numbers", .ref D), ("names", .ref D2), ("columns", .ref DC), ("left", .ref PL), ("right", .ref PR), ("lefts", .ref DL), ("rights", .ref DR)] ((DR, Zu ur) :: (DL, Zu ul) :: ls) s' →
   wpAny (model prog w) A (execs ((Zl (top 29)).drop 17) env) Q E s') :
  wpAny (model prog w) A (execs ((Zl (top 29)).drop 15) env) Q E s := by
 obtain ⟨hO, hc, hE⟩ := he
 refine Z6 ((by decide : ∀ p ∈ Zg, 3 ≤ p.1 ∧ p.1 ≤ 9 ∧ 3 ≤ p.2 ∧ p.2 ≤ 9 ∧ p.1 * p.2 ≤ 27) _ hp) fun hm3 hm9 hn3 hn9 hmn => ?_
 simp only at hm3 hm9 hn3 hn9 hmn
 rw [Zj2] at hi3
 have h3l : us3.length = 10 := by rw [hi3.length]; rfl
 refine Zq ?_
 refine xca ?_
 refine Zad ?_
 walk_at "N"
 refine C.sliceO ?_
 refine wpAny_evalPart_none ?_
 refine wpAny_evalPart_some ?_
 walk_at "N"
 refine ⟨_, _, C, fun r s hr C => ?_⟩
 refine C.subLS (hD3.at (C.led _ h3m)) hr .none (.int _ _) (by simp +arith [*]) ?_; clear C; intro DL s C
 have hul : StrsAre (kms_pick us3 none (some (m : Int))) ((Ze.take m).map mkS) := by
  have e : kms_pick us3 none (some (m : Int)) = us3.take m := by
   unfold kms_pick kms_lo kms_hi
   simp only [List.drop_zero]
   congr 1
   split <;> lia
  rw [e, List.map_take]
  exact Zer hi3 m
 generalize kms_pick us3 none (some (m : Int)) = ul at C hul
 refine C.st hO hc (by walk_at "K") ?_; clear C; intro s C
 refine xca ?_
 refine Zad ?_
 walk_at "N"
 refine C.sliceO ?_
 refine wpAny_evalPart_some ?_
 refine C.cint ?_; clear C; intro s t C
 refine wpAny_evalPart_some ?_
 refine Zn ?_
 walk_at "N"
 refine C.cint ?_; clear C; intro s t C
 refine C.iadd fun s t C => ⟨_, _, C, fun r s hr C => ?_⟩
 refine C.subLS (hD3.at (C.led _ (.tail _ h3m))) hr (.int _ _) (.int _ _) (by simp +arith [*]) ?_; clear C; intro DR s C
 have hur : StrsAre (kms_pick us3 (some 1) (some ((n : Int) + 1))) (((Ze.drop 1).take n).map mkS) := by
  have := Zhk hi3 1 n (by simp +arith [*])
  rw [show ((1 : Nat) : Int) = 1 from rfl, Int.add_comm] at this
  rw [List.map_take, List.map_drop]
  exact this
 generalize kms_pick us3 (some 1) (some ((n : Int) + 1)) = ur at C hur
 refine C.st hO hc (by walk_at "K") ?_; clear C; intro s C
 exact h DL DR ul ur s hul hur (C.vsb (by first | walk_at "U" | exact (List.Sublist.refl _)))
noncomputable def Ze8 (m n a b k : Nat) : List Nat := Zg5 (Ze.getD ((a + k) % m) []) (Ze.getD (1 + (b + k) % n) [])
noncomputable abbrev thO (w : World) (nm tg : List Nat) (d : Addr × Addr × Tok × Tok × Tok × Tok) : Obj := Zeo [ent w "root" d.2.2.1 (.str (mkS nm) d.2.2.2.2.2), ent w "tag" d.2.2.2.1 (.str (mkS tg) d.2.2.2.2.1)] 2
theorem Zar : ∀ i : Fin 10, (Ze.getD i.val []).length ≤ 2 ∧ (Ze.getD i.val []).head? ≠ some 42 ∧ (0 < i.val → Ze.getD i.val [] ≠ []) := by decide +kernel
theorem Zp5 {l r : List Nat} (h : r ≠ []) : Zg5 l r ≠ [] ∧ (Zg5 l r).length ≤ l.length + r.length + 2 := by
 unfold Zg5
 split
 ·exact ⟨h, by lia⟩
 ·refine ⟨by simp, ?_⟩
  simp; lia
theorem Zgv {st : Int} {m a k : Nat} (hm : 0 < m) (h : st.fmod (m : Int) = (a : Int)) : ((a : Int) + (k : Int)).fmod (m : Int) = (((a + k) % m : Nat) : Int) := by
 rw [show ((a : Int) + (k : Int)) = ((a + k : Nat) : Int) by simp]
 exact Zam _ _
theorem Zms {σ : Shared} (W : Wd K σ.heap) (G : KG K) (R : Zk A 110) (Kx : KX prog w K cdT cdA cdF) (he : Zf5 env σ) {D D2 DC PL PR DL DR : Addr} {oD2 : Obj} {us2 ul ur : List Value} {ls : List (Addr × Obj)} {st q1 q2 : Int} {m n a b : Nat} {nms : List (List Nat)} {t1 t2 t5 u1 v1 u2 v2 : Tok} {Q : Flow → Shared → Prop} (hp : (m, n) ∈ Zg)
  (ha : a < m) (hb : b < n) (hea : st.fmod (m : Int) = (a : Int)) (heb : st.fmod (n : Int) = (b : Int))
  (hlen : nms.length = m * n) (hD2 : Zy oD2 us2) (hi2 : StrsAre us2 (nms.map mkS)) (h2m : (D2, oD2) ∈ ls) (hul : StrsAre ul ((Ze.take m).map mkS)) (hur : StrsAre ur (((Ze.drop 1).take n).map mkS)) (hlm : (DL, Zu ul) ∈ ls) (hrm : (DR, Zu ur) ∈ ls)
  (hPL : (PL, Zaw [.int q1 u1, .int (st.fmod m) v1]) ∈ ls) (hPR : (PR, Zaw [.int q2 u2, .int (st.fmod n) v2]) ∈ ls)
  (C : Loc env σ [] [("m", .int (m : Nat) t1), ("n", .int (n : Nat) t2), ("count", .int ((m * n : Nat) : Int) t5), ("numbers", .ref D), ("names", .ref D2), ("columns", .ref DC), ("left", .ref PL), ("right", .ref PR), ("lefts", .ref DL), ("rights", .ref DR)] ls s)
  (h : ∀ PD oP inner (tv : Nat → Tok) s', Zce oP (inner.map fun p => .ref p.1) → Zjy (fun i => .str (mkS (nms.getD i [])) (tv i)) inner (Zct (Ze8 m n a b) (m * n) (Ze.take m) ((Ze.drop 1).take n)) →
   Loc env σ [] [("m", .int (m : Nat) t1), ("n", .int (n : Nat) t2), ("numbers", .ref D), ("names", .ref D2), ("columns", .ref DC), ("picks", .ref PD)] (((PD, oP) :: inner) ++ ls) s' →
   wpAny (model prog w) A (execs ((Zl (top 29)).drop 19) env) Q E s') :
  wpAny (model prog w) A (execs ((Zl (top 29)).drop 17) env) Q E s := by
 obtain ⟨hO, hc, hE⟩ := he
 refine Z6 ((by decide : ∀ p ∈ Zg, 3 ≤ p.1 ∧ p.1 ≤ 9 ∧ 3 ≤ p.2 ∧ p.2 ≤ 9 ∧ p.1 * p.2 ≤ 27) _ hp) fun hm3 hm9 hn3 hn9 hmn => ?_
 simp only at hm3 hm9 hn3 hn9 hmn
 rw [hea] at hPL
 rw [heb] at hPR
 have h2l : us2.length = m * n := by rw [hi2.length, List.length_map, hlen]
 refine Zq ?_
 refine Zi ?_
 refine Loc.lcA hO ⟨[("names", .ref D2), ("lefts", .ref DL), ("left", .ref PL), ("m", .int (m : Nat) t1), ("rights", .ref DR), ("right", .ref PR), ("n", .int (n : Nat) t2)], by walk_at "S"⟩ C (Zao C.block (by walk_at "K") (by kernel_rfl)) (by walk_at "K") ?_
 refine Zf ?_
 walk_at "B"
 refine xt1 ?_
 refine Za ?_
 walk_at "N"
 refine spliced_none ?_
 refine C.range1 ?_; clear C; intro r _ _ _ s C
 refine C.pyIterR1 (a := 0) (n := m * n) (by rw [Int.zero_add]; exact M0) (by decide) (by lia) ?_; clear C; intro I s hI C
 replace C := C.sub (l' := (I, _) :: ls) (List.Sublist.cons_cons _ (List.sublist_cons_self _ _))
 refine Zal.all (fvs := [("names", .ref D2), ("lefts", .ref DL), ("left", .ref PL), ("m", .int (m : Nat) t1), ("rights", .ref DR), ("right", .ref PR), ("n", .int (n : Nat) t2)]) (Zcz R.hd 0 1 (m * n)) (by walk_at "S") hI (Zcq _ _ _) C (by rw [sizeLine_eq]; lia) (fun _ _ _ => trivial)
  (fun i y new => ∃ d : Addr × Addr × Tok × Tok × Tok × Tok, y = .ref d.1 ∧ new = [(d.1, instObj 45 d.2.1), (d.2.1, thO w (nms.getD i []) (Ze8 m n a b i) d)]) ?_ ?_
 ·intro i v cenv s N' hi' hv ce C CO
  obtain ⟨t, rfl⟩ := hv
  rw [show (0 + (i : Int) * 1) = ((i : Nat) : Int) by lia] at C
  have W := W.ext CO.ext
  have hmem : ∀ p ∈ ls, p ∈ N' ++ ls := fun p hp => List.mem_append_right _ hp
  have li : (a + i) % m < 10 := Nat.lt_of_lt_of_le (Nat.mod_lt _ (by lia)) (by lia)
  have lm : (a + i) % m < m := Nat.mod_lt _ (by lia)
  have ri : (b + i) % n < n := Nat.mod_lt _ (by lia)
  refine Zf ?_
  walk_at "G"
  refine Zaa Kx.kt.f288 (W.ext C.ext) ?_
  refine Za ?_
  refine Zad ?_
  walk_at "N"
  walk_at "N"
  obtain ⟨tn, en⟩ := Zb7 hi2 (i := i) (x := mkS (nms.getD i [])) (by rw [List.getElem?_map, List.getElem?_eq_getElem (by lia)]; simp [List.getD, show i < nms.length by lia])
  refine Loc.subL (C.ext.list (CO.own _ (hmem _ h2m)).2 (hD2.at (CO.led _ (hmem _ h2m)))) (by lia) (by lia) (by rw [Int.toNat_natCast]; exact en) ?_
  refine Za ?_
  refine Zad ?_
  walk_at "N"
  refine Zn ?_
  refine Zn ?_
  refine Zad ?_
  walk_at "N"
  refine C.cint ?_; clear C; intro s t C
  refine Loc.subT (Zff (C.ext.get (CO.own _ (hmem _ hPL)).2 (CO.led _ (hmem _ hPL)))) (by decide) (by decide) rfl ?_
  walk_at "N"
  refine C.iadd ?_; clear C; intro s t C
  walk_at "N"
  refine C.imod (by lia) ?_; clear C; intro s t C
  rw [Zgv (by lia) hea]
  obtain ⟨tl, el⟩ := Zb7 hul (i := (a + i) % m) (x := mkS (Ze.getD ((a + i) % m) [])) (by rw [List.getElem?_map, List.getElem?_take_of_lt lm, List.getElem?_eq_getElem (show _ < Ze.length from li)]; simp [List.getD, show (a + i) % m < Ze.length from li])
  refine Loc.subL (C.ext.list (CO.own _ (hmem _ hlm)).2 ((Zm ul).at (CO.led _ (hmem _ hlm)))) (by lia) (by lia) (by rw [Int.toNat_natCast]; exact el) ?_
  refine Za ?_
  refine Zad ?_
  walk_at "N"
  refine Zn ?_
  refine Zn ?_
  refine Zad ?_
  walk_at "N"
  refine C.cint ?_; clear C; intro s t C
  refine Loc.subT (Zff (C.ext.get (CO.own _ (hmem _ hPR)).2 (CO.led _ (hmem _ hPR)))) (by decide) (by decide) rfl ?_
  walk_at "N"
  refine C.iadd ?_; clear C; intro s t C
  walk_at "N"
  refine C.imod (by lia) ?_; clear C; intro s t C
  rw [Zgv (by lia) heb]
  have r10 : 1 + (b + i) % n < 10 := by lia
  obtain ⟨tr, er⟩ := Zb7 hur (i := (b + i) % n) (x := mkS (Ze.getD (1 + (b + i) % n) [])) (by rw [List.getElem?_map, List.getElem?_take_of_lt ri, List.getElem?_drop, List.getElem?_eq_getElem (show _ < Ze.length from r10)]; simp [List.getD, show 1 + (b + i) % n < Ze.length from r10])
  refine Loc.subL (C.ext.list (CO.own _ (hmem _ hrm)).2 ((Zm ur).at (CO.led _ (hmem _ hrm)))) (by lia) (by lia) (by rw [Int.toNat_natCast]; exact er) ?_
  refine spliced_none ?_
  refine ⟨(W.ext C.ext).k, ?_⟩
  have f1 := (Zar ⟨_, li⟩).1
  have f2 := (Zar ⟨_, r10⟩).1
  refine Zi2 (W.ext C.ext) G R.le Kx.kt (Nat.le_trans f1 (by decide)) (Nat.le_trans f2 (by decide)) fun x dx ta tb tc s' g1 g2 g3 g4 g5 x1 g6 g7 => ?_
  refine ⟨_, ⟨(x, dx, ta, tb, tc, tn), rfl, rfl⟩, C.ext.trans x1, ⟨fun p hp => ?_, ?_, fun p hp fd e => ?_⟩⟩
  ·rcases List.mem_cons.mp hp with rfl | hp
   ·exact ⟨C.noneAt g1 (fun h => nomatch h), g3, g6⟩
   ·rw [List.mem_singleton.mp hp]
    exact ⟨C.noneAt g2 (fun h => nomatch h), g4, g7⟩
  ·simp [g5]
  ·rcases List.mem_cons.mp hp with rfl | hp
   ·cases e
   ·rw [List.mem_singleton.mp hp] at e
    cases e
 intro TA oT s rs hoT hG C s C
 replace C := C.sv (Za3.of (by walk_at "T") (by kernel_rfl))
 have hrl : (rs.map (·.1)).length = m * n := by rw [List.length_map, hG.1, List.length_range]
 have hall : ∀ i : Nat, ∃ d : Addr × Addr × Tok × Tok × Tok × Tok, i < m * n → (rs.map (·.1))[i]? = some (.ref d.1) ∧ (d.1, instObj 45 d.2.1) ∈ rs.flatMap (·.2) ∧ (d.2.1, thO w (nms.getD i []) (Ze8 m n a b i) d) ∈ rs.flatMap (·.2) := by
  intro i
  by_cases hi : i < m * n
  ·have e : (rs.map (·.1))[i]? = some ((rs.map (·.1))[i]'(by lia)) := List.getElem?_eq_getElem (by lia)
   obtain ⟨new, ⟨d, e1, rfl⟩, hm⟩ := hG.at e
   exact ⟨d, fun _ => ⟨by rw [e, e1], hm _ M0, hm _ M1⟩⟩
  ·exact ⟨(0, 0, 0, 0, 0, 0), fun h => absurd h hi⟩
 obtain ⟨d, hd⟩ := Classical.axiomOfChoice hall
 generalize hus : rs.map (·.1) = us at hoT hrl hd
 generalize hLs : (TA, oT) :: (rs.flatMap (fun x => x.2) ++ ls) = Ls at C
 have hLT : (TA, oT) ∈ Ls := by rw [← hLs]; exact M0
 have hLR : ∀ p ∈ rs.flatMap (fun x => x.2), p ∈ Ls := fun p hp => by rw [← hLs]; exact .tail _ (List.mem_append_left _ hp)
 have hLl : ∀ p ∈ ls, p ∈ Ls := fun p hp => by rw [← hLs]; exact .tail _ (List.mem_append_right _ hp)
 have hLsub : ls.Sublist Ls := by rw [← hLs]; exact .cons _ (List.sublist_append_right _ _)
 have deck : ∀ {s'}, Ext [] [] s s' → Zl7 s'.heap (fun i => (d i).1) (fun i => (d i).2.1) (fun i => thO w (nms.getD i []) (Ze8 m n a b i) (d i)) (Ze8 m n a b) (fun i => (d i).2.2.2.2.1) (fun i => .str (mkS (nms.getD i [])) (d i).2.2.2.2.2) us.length := fun {s'} x => by
  rw [hrl]
  refine ⟨⟨fun i hi => ?_, fun i hi => ?_, fun i hi => ⟨rfl, rfl⟩⟩, fun i hi => ⟨rfl, rfl⟩, fun i hi => ?_⟩
  ·have hm := hLR _ (hd i hi).2.1
   exact ⟨x.get (C.own _ hm).2 (C.led _ hm), (C.own _ hm).2⟩
  ·have hm := hLR _ (hd i hi).2.2
   exact ⟨x.get (C.own _ hm).2 (C.led _ hm), (C.own _ hm).2⟩
  ·have li : (a + i) % m < 10 := Nat.lt_of_lt_of_le (Nat.mod_lt _ (by lia)) (by lia)
   have ri : (b + i) % n < n := Nat.mod_lt _ (by lia)
   have r10 : 1 + (b + i) % n < 10 := by lia
   have f1 := (Zar ⟨_, li⟩).1
   have f2 := (Zar ⟨_, r10⟩).1
   have f3 : Ze.getD (1 + (b + i) % n) [] ≠ [] := (Zar ⟨_, r10⟩).2.2 (by show 0 < 1 + (b + i) % n; lia)
   have f4 := Zp5 (l := Ze.getD ((a + i) % m) []) f3
   simp only at f1 f2
   exact ⟨f4.1, by have := f4.2; unfold Ze8; lia⟩
 refine Zq ?_
 refine xca ?_
 refine Zf ?_
 walk_at "G"
 refine Zaa Kx.picks (W.ext C.ext) ?_
 refine Za ?_
 walk_at "N"
 refine Za ?_
 walk_at "N"
 refine Za ?_
 walk_at "N"
 refine spliced_none ?_
 refine ⟨(W.ext C.ext).k, ?_⟩
 refine Zko (lw := Ze.take m) (rw := (Ze.drop 1).take n) (W.ext C.ext) G R.le Kx.kt Kx.prep Kx.picks (deck (Ext.refl _ _ _)) (C.own _ hLT).2 (C.own _ (hLl _ hlm)).2 (C.own _ (hLl _ hrm)).2 (hoT.at (C.led _ hLT)) ((Zm ul).at (C.led _ (hLl _ hlm))) ((Zm ur).at (C.led _ (hLl _ hrm)))
  (fun i hi => (hd i (by lia)).1) hul hur (fun x hx => ?_) (fun x hx => ?_) (by lia) (by rw [List.length_take]; lia) (by rw [List.length_take]; lia) fun PD oP inner s' hN x1 hP hGR => ?_
 ·have hx := List.mem_of_mem_take hx
  exact (by decide +kernel : ∀ x ∈ Ze, x.head? ≠ some 42 ∧ x.length ≤ 100) x hx
 ·have hx := List.mem_of_mem_drop (List.mem_of_mem_take hx)
  exact (by decide +kernel : ∀ x ∈ Ze, x ≠ [42] ∧ x.length ≤ 100) x hx
 replace C := C.addN x1 hN
 refine C.st hO hc (by walk_at "K") ?_; clear C; intro s C
 rw [hrl] at hGR
 exact h PD oP inner _ s hP hGR ((C.sub (List.Sublist.append_left hLsub _)).vsb (by first | walk_at "U" | exact (List.Sublist.refl _)))
structure Zgb (ls : List (Addr × Obj)) (up : List Value) (rows nms : List (List Nat)) : Prop where
 len : up.length = rows.length
 at' : ∀ p, p < rows.length → ∃ a o us, up[p]? = some (.ref a) ∧ (a, o) ∈ ls ∧ Zy o us ∧ StrsAre us ((rows.getD p []).map fun k => mkS (nms.getD k []))
theorem Zlh {nms : List (List Nat)} {tv : Nat → Tok} : ∀ r : List Nat, StrsAre (r.map fun i => Value.str (mkS (nms.getD i [])) (tv i)) (r.map fun k => mkS (nms.getD k []))
 | [] => .nil
 | _ :: r => .cons _ _ (Zlh r)
theorem Zkb {ls inner : List (Addr × Obj)} {rows nms : List (List Nat)} {tv : Nat → Tok} (h : Zjy (fun i => .str (mkS (nms.getD i [])) (tv i)) inner rows) (hm : ∀ p ∈ inner, p ∈ ls) : Zgb ls (inner.map fun p => .ref p.1) rows nms := by
 refine ⟨by rw [List.length_map, h.1], fun p hp => ?_⟩
 have hi : p < inner.length := by rw [h.1]; exact hp
 refine ⟨inner[p].1, inner[p].2, _, by rw [List.getElem?_map, List.getElem?_eq_getElem hi]; rfl, hm _ (List.getElem_mem hi), h.2 p inner[p] rows[p] (List.getElem?_eq_getElem hi) (List.getElem?_eq_getElem hp), ?_⟩
 have e : rows.getD p [] = rows[p] := by simp [List.getD, hp]
 rw [e]
 exact Zlh _
theorem Loc.maxL (C : Loc env s₀ X vs l s) (hh : A.handled = none) {a : Addr} {us : List Value} {ns : List Int} {Q : Value → Shared → Prop} (hl : s.heap.IsList a us.toArray) (hi : IntsAre us ns) (hne : 0 < ns.length)
  (h : ∀ s' M t, M ∈ ns → (∀ a ∈ ns, a ≤ M) → Loc env s₀ X vs l s' → Q (.int M t) s') : wpAny (model prog w) A (call (.builtin "max") [.ref a]) Q E s := by
 obtain ⟨xs, e⟩ := hi.allInts.items
 have hns : xs.toList.map (·.1) = ns := by rw [← hi.numsOf, ← nums_intItems, ← e]
 have hxl : xs.size = ns.length := by rw [← hns, List.length_map, Array.length_toList]
 rw [e] at hl
 refine max_intList hh hl (by simp +arith [*]) fun v h' tk hv hk => ?_
 obtain ⟨t, rfl⟩ := intItems_at hv
 obtain ⟨h1, h2⟩ := argBest_gt (numAt xs) (xs.size - 1)
 refine h _ _ t ?_ (fun a ha => ?_) (C.keeps (tk := tk) hk)
 ·rw [← hns, numAt_eq]; exact getD_mem (by rw [List.length_map, Array.length_toList]; grind)
 ·rw [← hns] at ha
  obtain ⟨j, hj, rfl⟩ := mem_getD ha
  rw [List.length_map, Array.length_toList] at hj
  rw [← numAt_eq]; exact h2 j (by grind)
theorem Zlx {σ : Shared} (W : Wd K σ.heap) (G : KG K) (R : Zk A 110) (Kx : KX prog w K cdT cdA cdF) (he : Zf5 env σ) {D D2 DC PD : Addr} {oD oD2 oP : Obj} {us us2 up : List Value} {ls : List (Addr × Obj)} {st : Int} {m n : Nat} {nms rows : List (List Nat)} {t1 t2 : Tok} {Q : Flow → Shared → Prop} (hp : (m, n) ∈ Zg)
  (hlen : nms.length = m * n) (hnd : nms.Nodup) (hD : Zy oD us) (hi : IntsAre us ((List.range (m * n)).map fun k : Nat => st + (k : Int))) (h1m : (D, oD) ∈ ls) (hD2 : Zy oD2 us2) (hi2 : StrsAre us2 (nms.map mkS)) (h2m : (D2, oD2) ∈ ls)
  (hP : Zy oP up) (hPm : (PD, oP) ∈ ls) (hpk : Zgb ls up rows nms) (hrl : rows.length = m * n)
  (hpl : ∀ p, p < m * n → (rows.getD p []).map (fun k : Nat => (k : Int)) ∈ Za6) (hk : ∀ p, p < m * n → ∀ k ∈ rows.getD p [], k < m * n ∧ (st + (k : Int)).fmod (m : Nat) = ((p / n : Nat) : Int) ∧ (st + (k : Int)).fmod (n : Nat) = ((p % n : Nat) : Int))
  (C : Loc env σ [] [("m", .int (m : Nat) t1), ("n", .int (n : Nat) t2), ("numbers", .ref D), ("names", .ref D2), ("columns", .ref DC), ("picks", .ref PD)] ls s)
  (h : ∀ s', Loc env σ [] [("m", .int (m : Nat) t1), ("n", .int (n : Nat) t2), ("names", .ref D2), ("columns", .ref DC), ("picks", .ref PD)] ls s' → wpAny (model prog w) A (execs ((Zl (top 29)).drop 20) env) Q E s') :
  wpAny (model prog w) A (execs ((Zl (top 29)).drop 19) env) Q E s := by
 obtain ⟨hO, hc, hE⟩ := he
 refine Z6 ((by decide : ∀ p ∈ Zg, 3 ≤ p.1 ∧ p.1 ≤ 9 ∧ 3 ≤ p.2 ∧ p.2 ≤ 9 ∧ p.1 * p.2 ≤ 27) _ hp) fun hm3 hm9 hn3 hn9 hmn => ?_
 simp only at hm3 hm9 hn3 hn9 hmn
 refine Zq ?_
 refine xci ?_
 refine isTrue_not (Zb1 ?_)
 refine Zf ?_
 walk_at "G"
 refine Zaa Kx.sound (W.ext C.ext) ?_
 refine Za ?_
 walk_at "N"
 refine Za ?_
 walk_at "N"
 refine Za ?_
 walk_at "N"
 refine Za ?_
 walk_at "N"
 refine Za ?_
 walk_at "N"
 refine spliced_none ?_
 refine ⟨(W.ext C.ext).k, ?_⟩
 have hnum : ∀ k, k < m * n → ((List.range (m * n)).map fun k : Nat => st + (k : Int)).getD k 0 = st + (k : Int) := fun k hk => by
  rw [List.getD_eq_getElem?_getD, List.getElem?_map, List.getElem?_range hk]; rfl
 refine Zjg (nms := nms) (rows := rows) (W.ext C.ext) G R.le Kx.sound (C.own _ hPm).2 (C.own _ h2m).2 (C.own _ h1m).2 (hP.at (C.led _ hPm)) (hD2.at (C.led _ h2m)) (hD.at (C.led _ h1m)) hi2 hi hnd (by lia) (by rw [List.length_map, List.length_range, hlen]) (nB hm3) (nB hn3) (kA ‹_› rfl) (kA ‹_› rfl) (by lia) hpk.len
  (fun p hp => ?_) (fun p hp => hpl p (by lia)) (fun p hp k hkk => ?_) fun s' e => ?_
 ·refine Zbx (hpk.at' p hp) fun a o us h1 h2 h3 h4 => ?_
  exact ⟨a, us, h1, (C.own _ h2).2, h3.at (C.led _ h2), h4⟩
 ·refine Zae (hk p (by lia) k hkk) fun h1 h2 h3 => ?_
  rw [hnum k h1, hlen]
  exact ⟨h1, h2, h3⟩
 replace C := C.pure e
 refine wpAny_truthy_bool ?_
 refine ifN (by decide) ?_
 refine wpAny_execs_nil ?_
 exact h _ (C.vsb (by first | walk_at "U" | exact (List.Sublist.refl _)))
noncomputable def Zfd (m n i : Nat) : Bool := m % (i + 1) == 0 && n % (i + 1) == 0
noncomputable def Zb3 (m n : Nat) : Nat := Nat.gcd m n
theorem Zgo : ∀ p ∈ Zg, ((Zb3 p.1 p.2 : Nat) : Int) ∈ ((List.range p.1).filter (Zfd p.1 p.2)).map (fun i : Nat => ((i + 1 : Nat) : Int)) ∧ (∀ a ∈ ((List.range p.1).filter (Zfd p.1 p.2)).map (fun i : Nat => ((i + 1 : Nat) : Int)), a ≤ ((Zb3 p.1 p.2 : Nat) : Int)) ∧ 1 ≤ Zb3 p.1 p.2 := by decide +kernel
noncomputable def Z3 (rows : List (List Nat)) : List Nat := ((List.range rows.length).filter fun i => (rows.getD i []).length == 1).map fun i => (rows.getD i []).getD 0 0
theorem Zk6 {σ : Shared} (W : Wd K σ.heap) (G : KG K) (R : Zk A 110) (he : Zf5 env σ) {D2 DC PD : Addr} {ls : List (Addr × Obj)} {m n : Nat} {t1 t2 : Tok} {Q : Flow → Shared → Prop} (hp : (m, n) ∈ Zg)
  (C : Loc env σ [] [("m", .int (m : Nat) t1), ("n", .int (n : Nat) t2), ("names", .ref D2), ("columns", .ref DC), ("picks", .ref PD)] ls s)
  (h : ∀ t3 s', Loc env σ [] [("m", .int (m : Nat) t1), ("n", .int (n : Nat) t2), ("names", .ref D2), ("columns", .ref DC), ("picks", .ref PD), ("shared", .int (Zb3 m n : Nat) t3)] ls s' → wpAny (model prog w) A (execs ((Zl (top 29)).drop 21) env) Q E s') :
  wpAny (model prog w) A (execs ((Zl (top 29)).drop 20) env) Q E s := by
 obtain ⟨hO, hc, hE⟩ := he
 refine Z6 ((by decide : ∀ p ∈ Zg, 3 ≤ p.1 ∧ p.1 ≤ 9 ∧ 3 ≤ p.2 ∧ p.2 ≤ 9 ∧ p.1 * p.2 ≤ 27) _ hp) fun hm3 hm9 hn3 hn9 hmn => ?_
 simp only at hm3 hm9 hn3 hn9 hmn
 refine Zq ?_
 refine xca ?_
 refine Zf ?_
 walk_at "B"
 refine xb1 ?_
 refine Za ?_
 refine Loc.lc ⟨[("m", .int (m : Nat) t1), ("n", .int (n : Nat) t2)], by walk_at "S"⟩ C ?_
 refine Zf ?_
 walk_at "B"
 refine xt1 ?_
 refine Za ?_
 refine C.cint ?_; clear C; intro s t C
 refine Za ?_
 refine Zn ?_
 walk_at "N"
 refine C.cint ?_; clear C; intro s t C
 refine C.iadd ?_; clear C; intro s t C
 rw [Int.add_comm]
 refine spliced_none ?_
 refine C.range2 ?_; clear C; intro r _ _ _ s C
 refine C.pyIterR1 M0 (by decide) (by lia) ?_; clear C; intro I s hI C
 refine fun _ kk => kk _ [("m", .int (m : Nat) t1), ("n", .int (n : Nat) t2)] I _ m _ _ _ (Zfd m n) (fun i y new => (∃ t, y = .int ((i + 1 : Nat) : Int) t) ∧ new = []) rfl (Zcz R.hd 1 1 m) (by walk_at "S") hI (Zcq _ _ _) C (by rw [sizeLine_eq]; lia) (fun _ _ _ => trivial) ?_ ?_ ?_
 ·intro i v cenv s N' hi hv ce C CO
  obtain ⟨t, rfl⟩ := hv
  have e1 : (1 + (i : Int) * 1) = ((i + 1 : Nat) : Int) := by lia
  rw [e1] at C
  refine Zh1 ?_
  refine isTrue_and (Z0 ?_)
  refine Zn ?_
  walk_at "N"
  walk_at "N"
  refine C.imod (by lia) ?_; clear C; intro s t C
  rw [Zam]
  refine C.cint ?_; clear C; intro s t C
  refine eq_int (wpAny_truthy_bool ?_)
  by_cases h1 : m % (i + 1) = 0
  ·refine ifP (by rw [h1]; decide) ?_
   refine isTrue_and (Z0 ?_)
   refine Zn ?_
   walk_at "N"
   walk_at "N"
   refine C.imod (by lia) ?_; clear C; intro s t C
   rw [Zam]
   refine C.cint ?_; clear C; intro s t C
   refine eq_int (wpAny_truthy_bool ?_)
   by_cases h2 : n % (i + 1) = 0
   ·refine ifP (by rw [h2]; decide) ?_
    exact isTrue_and_nil ⟨by unfold Zfd; rw [h1, h2]; rfl, C.ext⟩
   ·have hz : (((n % (i + 1) : Nat) : Int) == 0) = false := by rw [beq_eq_false_iff_ne]; lia
    refine ifF hz ?_
    exact ⟨by unfold Zfd; simp [h2], C.ext⟩
  ·have hz : (((m % (i + 1) : Nat) : Int) == 0) = false := by rw [beq_eq_false_iff_ne]; lia
   refine ifF hz ?_
   exact ⟨by unfold Zfd; simp [h1], C.ext⟩
 ·intro i v cenv s N' hi hv _ ce C CO
  obtain ⟨t, rfl⟩ := hv
  walk_at "N"
  exact C.eltS ⟨t, by rw [show (1 + (i : Int) * 1) = ((i + 1 : Nat) : Int) by lia]⟩
 intro D oD s rs hD hG C
 obtain ⟨hds, hfl⟩ := hG.ints
 refine Zae (Zgo _ hp) fun c1 c2 c3 => ?_
 simp only at c1 c2 c3
 refine spliced_none ?_
 refine C.maxL R.hd (hD.at (C.led _ M0)) hds (List.length_pos_of_mem c1) ?_; clear C; intro s M t3 hM1 hM2 C
 have hM : M = ((Zb3 m n : Nat) : Int) := Int.le_antisymm (c2 _ hM1) (hM2 _ c1)
 rw [hM]
 refine C.st hO hc (by walk_at "K") ?_; clear C; intro s C
 refine h t3 s (C.sub ?_)
 exact .cons _ ((List.sublist_cons_self _ _).trans (List.sublist_append_right _ _))
theorem Zkh {σ : Shared} (W : Wd K σ.heap) (G : KG K) (R : Zk A 110) (he : Zf5 env σ) {D2 DC PD : Addr} {oP : Obj} {up : List Value} {rows nms : List (List Nat)} {ls : List (Addr × Obj)} {m n g : Nat} {t1 t2 t3 : Tok} {Q : Flow → Shared → Prop} (hp : (m, n) ∈ Zg) (hg : 0 < g)
  (hP : Zy oP up) (hPm : (PD, oP) ∈ ls) (hpk : Zgb ls up rows nms) (hrl : rows.length = m * n) (hr9 : ∀ p, p < m * n → (rows.getD p []).length ≤ 100)
  (hcn : ∀ p, p < m * n → (((rows.getD p []).length : Nat) : Int) = if (((p / n : Nat) : Int) - ((p % n : Nat) : Int)).fmod (g : Int) = 0 then (g : Int) else 0)
  (C : Loc env σ [] [("m", .int (m : Nat) t1), ("n", .int (n : Nat) t2), ("names", .ref D2), ("columns", .ref DC), ("picks", .ref PD), ("shared", .int (g : Nat) t3)] ls s)
  (h : ∀ s', Loc env σ [] [("m", .int (m : Nat) t1), ("n", .int (n : Nat) t2), ("names", .ref D2), ("columns", .ref DC), ("picks", .ref PD)] ls s' → wpAny (model prog w) A (execs ((Zl (top 29)).drop 22) env) Q E s') :
  wpAny (model prog w) A (execs ((Zl (top 29)).drop 21) env) Q E s := by
 obtain ⟨hO, hc, hE⟩ := he
 refine Z6 ((by decide : ∀ p ∈ Zg, 3 ≤ p.1 ∧ p.1 ≤ 9 ∧ 3 ≤ p.2 ∧ p.2 ≤ 9 ∧ p.1 * p.2 ≤ 27) _ hp) fun hm3 hm9 hn3 hn9 hmn => ?_
 simp only at hm3 hm9 hn3 hn9 hmn
 have hul : up.length = m * n := by rw [hpk.len, hrl]
 refine Zq ?_
 refine xci ?_
 refine Z0 ?_
 refine Loc.lc ⟨[], by walk_at "S"⟩ C ?_
 walk_at "N"
 refine C.pyIterL (hP.at (C.led _ hPm)) ?_; clear C; intro I oI s hI hoI C
 refine Zal.all (fvs := []) (Zbl R.hd PD up) (by walk_at "S") hI hoI C (by rw [sizeLine_eq]; lia) (fun s' l' C => hP.at (C.led (PD, oP) (List.mem_append_right _ hPm))) (fun i y new => (∃ t, y = .int (((rows.getD i []).length : Nat) : Int) t) ∧ new = []) ?_ ?_
 ·intro i v cenv s N' hi hv ce C CO
  have W := W.ext CO.ext
  refine Zbx (hpk.at' i (by lia)) fun a o us e1 e2 e3 e4 => ?_
  rw [e1] at hv
  cases hv
  refine Zf ?_
  walk_at "B"
  refine xb1 ?_
  refine Za ?_
  walk_at "N"
  refine spliced_none ?_
  have hr := hr9 i (by lia)
  have hus : us.length = (rows.getD i []).length := by rw [e4.length, List.length_map]
  refine C.lenL (e3.at (CO.led _ (List.mem_append_right _ e2))) (by lia) ?_; clear C; intro s t C
  rw [hus]
  exact C.eltS ⟨_, rfl⟩
 intro D1 o1 s rs hD1 hG C
 obtain ⟨h1i, hfl⟩ := hG.ints
 rw [hfl] at C
 replace C := C.sub (l' := (D1, o1) :: ls) (by simp)
 refine Loc.lc2 R.hd ⟨[("n", .int (n : Nat) t2), ("shared", .int (g : Nat) t3)], by walk_at "S"⟩ C ?_
 refine Zf ?_
 walk_at "B"
 refine xt1 ?_
 refine Za ?_
 walk_at "N"
 refine spliced_none ?_
 refine C.range1 ?_; clear C; intro r _ _ _ s C
 refine C.pyIterR1 (a := 0) (n := m) (by rw [Int.zero_add]; exact M0) (by decide) (by lia) ?_; clear C; intro I s hI C
 refine fun _ kk => kk _ [("n", .int (n : Nat) t2), ("shared", .int (g : Nat) t3)] I _ m n _ _ _ (fun i j z => ∃ t, z = .int (if ((i : Int) - (j : Int)).fmod (g : Int) = 0 then (g : Int) else 0) t) rfl (Zcz R.hd 0 1 m) (by walk_at "S") (by kernel_rfl) (by decide) hI (Zcq _ _ _) C (by rw [sizeLine_eq]; lia) (fun _ _ _ => trivial) ?_ ?_ ?_
 ·intro i v cenv s N' hi' hv ce C CO
  have W := W.ext CO.ext
  refine Zf ?_
  walk_at "B"
  refine xt1 ?_
  refine Za ?_
  walk_at "N"
  refine spliced_none ?_
  refine C.range1 ?_; clear C; intro r _ _ _ s C
  refine C.pyIterR1 (a := 0) (n := n) (by rw [Int.zero_add]; exact M0) (by decide) (by lia) ?_; clear C; intro J s hJ C
  exact ⟨J, _, rfl, C.ext, C.newIn⟩
 ·intro i j v t cenv s N' hi' hj hv ce C CO
  obtain ⟨tv, rfl⟩ := hv
  rw [show (0 + (i : Int) * 1) = ((i : Nat) : Int) by lia] at C
  refine wpAny_IfExp ?_
  refine Z0 ?_
  refine Zn ?_
  refine Zn ?_
  walk_at "N"
  walk_at "N"
  refine C.isub ?_; clear C; intro s t C
  walk_at "N"
  refine C.imod (by lia) ?_; clear C; intro s t C
  refine C.cint ?_; clear C; intro s t C
  refine eq_int (wpAny_truthy_bool ?_)
  by_cases h0 : ((i : Int) - (j : Int)).fmod (g : Int) = 0
  ·refine ifP (by rw [h0]; decide) ?_
   walk_at "N"
   exact ⟨⟨t3, by rw [if_pos h0]⟩, C.ext⟩
  ·have hz : (((i : Int) - (j : Int)).fmod (g : Int) == 0) = false := by rw [beq_eq_false_iff_ne]; exact h0
   refine ifF hz ?_
   refine C.cint ?_; clear C; intro s t C
   exact ⟨⟨t, by rw [if_neg h0]⟩, C.ext⟩
 intro D4 o4 s zs hD4 hz C
 have hz := hz.ints (f := fun i j => if ((i : Int) - (j : Int)).fmod (g : Int) = 0 then (g : Int) else 0)
 rw [hul] at h1i
 have e : (List.range (m * n)).map (fun p : Nat => if (((p / n : Nat) : Int) - ((p % n : Nat) : Int)).fmod (g : Int) = 0 then (g : Int) else 0) = (List.range (m * n)).map (fun i => (((rows.getD i []).length : Nat) : Int)) :=
  List.map_congr_left fun p hp => (hcn p (List.mem_range.mp hp)).symm
 rw [e] at hz
 refine Znj (hD1.at (C.led (D1, o1) (by first | walk_at "M" | simp))) (hD4.at (C.led (D4, o4) (by first | walk_at "M" | simp))) h1i hz R.ul (wpAny_truthy_bool ?_)
 refine ifF (bne_self_eq_false _) ?_
 refine wpAny_execs_nil ?_
 exact h s ((C.sub (.cons _ (.cons _ (.cons _ (List.Sublist.refl _))))).vsb (by first | walk_at "U" | exact (List.Sublist.refl _)))
noncomputable def sgn (no nt : List (List Nat)) : Int := if no.length = nt.length then Zed (no.map fun x => nt.idxOf x) else 0
noncomputable def Zky (m : Nat) : Nat := if m = 3 then 1 else if m = 7 then 3 else 2
noncomputable def Zf4 (a m : Nat) : Int := Zf8 (Zky m) a m 3 1
theorem Zo2 {σ : Shared} (W : Wd K σ.heap) (G : KG K) (R : Zk A 110) (he : Zf5 env σ) {D2 DC PD : Addr} {oP : Obj} {up : List Value} {rows nms : List (List Nat)} {ls : List (Addr × Obj)} {m n : Nat} {t1 t2 : Tok} {Q : Flow → Shared → Prop}
  (hP : Zy oP up) (hPm : (PD, oP) ∈ ls) (hpk : Zgb ls up rows nms) (hrl : rows.length ≤ 100) (hr9 : ∀ p, p < rows.length → (rows.getD p []).length ≤ 100)
  (C : Loc env σ [] [("m", .int (m : Nat) t1), ("n", .int (n : Nat) t2), ("names", .ref D2), ("columns", .ref DC), ("picks", .ref PD)] ls s)
  (h : ∀ DG oG uG s', Zy oG uG → StrsAre uG (((Z3 rows).map fun k => nms.getD k []).map mkS) → Loc env σ [] [("m", .int (m : Nat) t1), ("n", .int (n : Nat) t2), ("names", .ref D2), ("columns", .ref DC), ("diagonal", .ref DG)] ((DG, oG) :: ls) s' →
   wpAny (model prog w) A (execs ((Zl (top 29)).drop 23) env) Q E s') :
  wpAny (model prog w) A (execs ((Zl (top 29)).drop 22) env) Q E s := by
 obtain ⟨hO, hc, hE⟩ := he
 have hul := hpk.len
 refine Zq ?_
 refine Zi ?_
 refine Loc.lcA hO ⟨[], by walk_at "S"⟩ C (Zao C.block (by walk_at "K") (by kernel_rfl)) (by walk_at "K") ?_
 walk_at "N"
 refine C.pyIterL (hP.at (C.led _ hPm)) ?_; clear C; intro I oI s hI hoI C
 refine fun _ kk => kk ls [] I oI up.length _ _ _ (fun i => (rows.getD i []).length == 1) (fun i y new => (∃ t, y = .str (mkS (nms.getD ((rows.getD i []).getD 0 0) [])) t) ∧ new = []) rfl (Zbl R.hd PD up) (by walk_at "S") hI hoI C (by rw [sizeLine_eq]; lia) (fun s' l' C => hP.at (C.led (PD, oP) (List.mem_append_right _ hPm))) ?_ ?_ ?_
 ·intro i v cenv s N' hi hv ce C CO
  have W := W.ext CO.ext
  refine Zbx (hpk.at' i (by lia)) fun a o us e1 e2 e3 e4 => ?_
  rw [e1] at hv
  cases hv
  refine Zh1 ?_
  refine Z0 ?_
  refine Zf ?_
  walk_at "B"
  refine xb1 ?_
  refine Za ?_
  walk_at "N"
  refine spliced_none ?_
  have hr := hr9 i (by lia)
  have hus : us.length = (rows.getD i []).length := by rw [e4.length, List.length_map]
  refine C.lenL (e3.at (CO.led _ (List.mem_append_right _ e2))) (by lia) ?_; clear C; intro s t C
  rw [hus]
  refine C.cint ?_; clear C; intro s t C
  refine eq_int (wpAny_truthy_bool ⟨?_, C.ext⟩)
  rw [Bool.eq_iff_iff, beq_iff_eq, beq_iff_eq]
  lia
 ·intro i v cenv s N' hi hv hp1 ce C CO
  have W := W.ext CO.ext
  refine Zbx (hpk.at' i (by lia)) fun a o us e1 e2 e3 e4 => ?_
  rw [e1] at hv
  cases hv
  have hp1 : (rows.getD i []).length = 1 := by simpa using hp1
  obtain ⟨tz, ez⟩ := Zb7 e4 (i := 0) (x := mkS (nms.getD ((rows.getD i []).getD 0 0) [])) (by
   obtain ⟨k, hk⟩ := List.length_eq_one_iff.mp hp1
   rw [hk]; rfl)
  refine Zad ?_
  walk_at "N"
  refine C.cint ?_; clear C; intro s t C
  refine Loc.subL (C.ext.list (CO.own _ (List.mem_append_right _ e2)).2 (e3.at (CO.led _ (List.mem_append_right _ e2)))) (by decide) (by decide) ez ?_
  exact C.eltS ⟨tz, rfl⟩
 ·intro DG oG s rs hoG hG C s C
  replace C := C.sv (Za3.of (by walk_at "T") (by kernel_rfl))
  obtain ⟨hds, hfl⟩ := hG.strs
  rw [hfl] at C
  have e : ((List.range up.length).filter fun i => (rows.getD i []).length == 1).map (fun i => mkS (nms.getD ((rows.getD i []).getD 0 0) [])) = ((Z3 rows).map fun k => nms.getD k []).map mkS := by
   unfold Z3
   rw [List.map_map, List.map_map, hul]; rfl
  rw [e] at hds
  exact h DG oG _ s hoG hds ((C.sub (by first | walk_at "U" | simp)).vsb (by first | walk_at "U" | exact (List.Sublist.refl _)))
theorem Zo3 {σ : Shared} (W : Wd K σ.heap) (G : KG K) (R : Zk A 110) (Kx : KX prog w K cdT cdA cdF) (he : Zf5 env σ) {D2 DC DG : Addr} {o2 oC oG : Obj} {u2 uC uG : List Value} {n2 nC nG : List (List Nat)} {ls : List (Addr × Obj)} {m n : Nat} {t1 t2 : Tok} {Q : Flow → Shared → Prop}
  (hD2 : Zy o2 u2) (hi2 : StrsAre u2 (n2.map mkS)) (h2m : (D2, o2) ∈ ls) (hDC : Zy oC uC) (hiC : StrsAre uC (nC.map mkS)) (hCm : (DC, oC) ∈ ls) (hDG : Zy oG uG) (hiG : StrsAre uG (nG.map mkS)) (hGm : (DG, oG) ∈ ls)
  (hndC : nC.Nodup) (hndG : nG.Nodup) (h60 : n2.length ≤ 60) (hC60 : nC.length ≤ 60) (hG60 : nG.length ≤ 60) (hc1 : n2.Perm nG ∨ n2.length ≠ nG.length) (hc2 : nC.Perm nG ∨ nC.length ≠ nG.length) (hc3 : n2.Perm nC ∨ n2.length ≠ nC.length)
  (C : Loc env σ [] [("m", .int (m : Nat) t1), ("n", .int (n : Nat) t2), ("names", .ref D2), ("columns", .ref DC), ("diagonal", .ref DG)] ls s)
  (h : ∀ DT x y z s', Loc env σ [] [("m", .int (m : Nat) t1), ("n", .int (n : Nat) t2), ("told", .ref DT)] [(DT, Zu [.int (sgn n2 nG) x, .int (sgn nC nG) y, .int (sgn n2 nC) z])] s' →
   wpAny (model prog w) A (execs ((Zl (top 29)).drop 24) env) Q E s') :
  wpAny (model prog w) A (execs ((Zl (top 29)).drop 23) env) Q E s := by
 obtain ⟨hO, hc, hE⟩ := he
 have p2 := (C.own _ h2m).2
 have pC := (C.own _ hCm).2
 have pG := (C.own _ hGm).2
 refine Zq ?_
 refine xca ?_
 refine List_ ?_
 refine Za ?_
 refine Zf ?_
 walk_at "G"
 refine Zaa Kx.sign (W.ext C.ext) ?_
 refine Za ?_
 walk_at "N"
 refine Za ?_
 walk_at "N"
 refine spliced_none ?_
 refine ⟨(W.ext C.ext).k, ?_⟩
 refine Zef (W.ext C.ext) G R.le Kx.sign p2 pG (hD2.at (C.led _ h2m)) (hDG.at (C.led _ hGm)) hi2 hiG hndG h60 hG60 hc1 fun x s' e => ?_
 replace C := C.pure e
 refine Za ?_
 refine Zf ?_
 walk_at "G"
 refine Zaa Kx.sign (W.ext C.ext) ?_
 refine Za ?_
 walk_at "N"
 refine Za ?_
 walk_at "N"
 refine spliced_none ?_
 refine ⟨(W.ext C.ext).k, ?_⟩
 refine Zef (W.ext C.ext) G R.le Kx.sign pC pG (hDC.at (C.led _ hCm)) (hDG.at (C.led _ hGm)) hiC hiG hndG hC60 hG60 hc2 fun y s' e => ?_
 replace C := C.pure e
 refine Za ?_
 refine Zf ?_
 walk_at "G"
 refine Zaa Kx.sign (W.ext C.ext) ?_
 refine Za ?_
 walk_at "N"
 refine Za ?_
 walk_at "N"
 refine spliced_none ?_
 refine ⟨(W.ext C.ext).k, ?_⟩
 refine Zef (W.ext C.ext) G R.le Kx.sign p2 pC (hD2.at (C.led _ h2m)) (hDC.at (C.led _ hCm)) hi2 hiC hndC h60 hC60 hc3 fun z s' e => ?_
 replace C := C.pure e
 refine spliced_none ?_
 refine C.lst (by simp [sizeLine_eq]) ?_; clear C; intro DT s C
 refine C.st hO hc (by walk_at "K") ?_; clear C; intro s C
 exact h DT x y z s ((C.sub (List.Sublist.cons_cons _ (List.nil_sublist _))).vsb (by first | walk_at "U" | exact (List.Sublist.refl _)))
theorem Zpt {σ : Shared} (W : Wd K σ.heap) (G : KG K) (R : Zk A 110) (Kx : KX prog w K cdT cdA cdF) (he : Zf5 env σ) {DT : Addr} {x y z : Tok} {v1 v2 v3 : Int} {m n : Nat} {t1 t2 : Tok} {Q : Flow → Shared → Prop} (hp : (m, n) ∈ Zg)
  (hv : [v1, v2, v3] = [Zf4 n m, Zf4 m n, if m % 4 = 3 ∧ n % 4 = 3 then -1 else 1])
  (C : Loc env σ [] [("m", .int (m : Nat) t1), ("n", .int (n : Nat) t2), ("told", .ref DT)] [(DT, Zu [.int v1 x, .int v2 y, .int v3 z])] s)
  (h : ∀ s', Ext [] [] σ s' → Q (.ret (.bool true)) s') :
  wpAny (model prog w) A (execs ((Zl (top 29)).drop 24) env) Q E s := by
 obtain ⟨hO, hc, hE⟩ := he
 refine Z6 ((by decide : ∀ p ∈ Zg, 3 ≤ p.1 ∧ p.1 ≤ 9 ∧ 3 ≤ p.2 ∧ p.2 ≤ 9 ∧ p.1 * p.2 ≤ 27) _ hp) fun hm3 hm9 hn3 hn9 hmn => ?_
 obtain ⟨hs1, hs2⟩ := (by decide : ∀ p ∈ Zg, (p.1, 3, Zky p.1) ∈ Zkv ∧ (p.2, 3, Zky p.2) ∈ Zkv) _ hp
 simp only at hm3 hm9 hn3 hn9 hmn hs1 hs2
 refine Zq ?_
 refine xca ?_
 refine List_ ?_
 refine Za ?_
 refine Zad ?_
 refine Zf ?_
 walk_at "G"
 refine Zaa Kx.kd.f91 (W.ext C.ext) ?_
 refine Za ?_
 walk_at "N"
 refine Za ?_
 refine C.cint ?_; clear C; intro s t C
 refine spliced_none ?_
 refine ⟨(W.ext C.ext).k, ?_⟩
 refine Zc3 (W.ext C.ext) G R.le Kx.kd (by decide) (by decide) (by lia) fun P1 a1 b1 s' q1 q2 x1 q3 => ?_
 replace C := C.add x1 q1 q2 q3
 refine C.cint ?_; clear C; intro s t C
 refine Loc.subT (Zff (C.led _ M0)) (by decide) (by decide) rfl ?_
 refine Za ?_
 refine Zad ?_
 refine Zf ?_
 walk_at "G"
 refine Zaa Kx.kd.f91 (W.ext C.ext) ?_
 refine Za ?_
 walk_at "N"
 refine Za ?_
 refine C.cint ?_; clear C; intro s t C
 refine spliced_none ?_
 refine ⟨(W.ext C.ext).k, ?_⟩
 refine Zc3 (W.ext C.ext) G R.le Kx.kd (by decide) (by decide) (by lia) fun P2 a2 b2 s' q1 q2 x1 q3 => ?_
 replace C := C.add x1 q1 q2 q3
 refine C.cint ?_; clear C; intro s t C
 refine Loc.subT (Zff (C.led _ M0)) (by decide) (by decide) rfl ?_
 refine spliced_none ?_
 have e1 : ((m : Int)).fmod 4 = ((m % 4 : Nat) : Int) := Zam m 4
 have e2 : ((n : Int)).fmod 4 = ((n % 4 : Nat) : Int) := Zam n 4
 rw [e1, e2]
 refine C.lst (by simp [sizeLine_eq]) ?_; clear C; intro DB s C
 refine C.st hO hc (by walk_at "K") ?_; clear C; intro s C
 replace C := C.sub (l' := [(DB, Zu [.int ((m % 4 : Nat) : Int) b1, .int ((n % 4 : Nat) : Int) b2]), (DT, Zu [.int v1 x, .int v2 y, .int v3 z])]) (.cons_cons _ (.cons _ (.cons _ (List.Sublist.refl _))))
 refine xcr ?_
 refine wpAny_Compare1 ?_
 walk_at "N"
 refine List_ ?_
 refine Za ?_
 refine Zf ?_
 walk_at "G"
 refine Zaa Kx.symb (W.ext C.ext) ?_
 refine Za ?_
 walk_at "N"
 refine Za ?_
 walk_at "N"
 refine spliced_none ?_
 refine ⟨(W.ext C.ext).k, ?_⟩
 refine Zf1 (W.ext C.ext) G R.le Kx.kd Kx.symb hn9 hs1 fun c1 s' e => ?_
 replace C := C.pure e
 refine Za ?_
 refine Zf ?_
 walk_at "G"
 refine Zaa Kx.symb (W.ext C.ext) ?_
 refine Za ?_
 walk_at "N"
 refine Za ?_
 walk_at "N"
 refine spliced_none ?_
 refine ⟨(W.ext C.ext).k, ?_⟩
 refine Zf1 (W.ext C.ext) G R.le Kx.kd Kx.symb hm9 hs2 fun c2 s' e => ?_
 replace C := C.pure e
 refine Za ?_
 refine wpAny_IfExp ?_
 refine Z0 ?_
 walk_at "N"
 refine List_ ?_
 refine Za ?_
 refine C.cint ?_; clear C; intro s t C
 refine Za ?_
 refine C.cint ?_; clear C; intro s c4 C
 refine spliced_none ?_
 refine C.lst (by simp [sizeLine_eq]) ?_; clear C; intro D3 s C
 refine Zm5 ((Zm _).at (C.led (DB, _) M1)) ((Zm _).at (C.led _ M0)) (.cons _ _ (.cons _ _ .nil)) (.cons _ _ (.cons _ _ .nil)) R.ul (wpAny_truthy_bool ?_)
 have fin : ∀ (v : Int) (c3 : Tok) (s : Shared), v = (if m % 4 = 3 ∧ n % 4 = 3 then -1 else 1) → Loc env σ [] [("m", .int (m : Nat) t1), ("n", .int (n : Nat) t2), ("told", .ref DT), ("both", .ref DB)] [(DT, Zu [.int v1 x, .int v2 y, .int v3 z])] s →
   wpAny (model prog w) A (newList [.int (Zf8 (Zky m) n m 3 1) c1, .int (Zf8 (Zky n) m n 3 1) c2, .int v c3]) (fun v s => wpAny (model prog w) A (compareOp .Eq (.ref DT) v) (fun v s' => Q (.ret v) s') E s) E s := by
  intro v c3 s hv3 C
  refine C.lst (by simp [sizeLine_eq]) ?_; clear C; intro DE s C
  refine Zm5 ((Zm _).at (C.led (DT, _) M1)) ((Zm _).at (C.led _ M0)) (.cons _ _ (.cons _ _ (.cons _ _ .nil))) (.cons _ _ (.cons _ _ (.cons _ _ .nil))) R.ul ?_
  have e : ([v1, v2, v3] == [Zf8 (Zky m) n m 3 1, Zf8 (Zky n) m n 3 1, v]) = true := by
   rw [hv, hv3, beq_iff_eq]; rfl
  rw [e]
  exact h s C.ext
 by_cases h33 : m % 4 = 3 ∧ n % 4 = 3
 ·have hb : ([((m % 4 : Nat) : Int), ((n % 4 : Nat) : Int)] == [3, 3]) = true := by rw [h33.1, h33.2]; decide
  refine ifT hb ?_
  refine xun ?_
  refine C.cint ?_; clear C; intro s t C
  refine C.ineg ?_; clear C; intro s c3 C
  refine spliced_none ?_
  exact fin _ _ _ (by rw [if_pos h33]) (C.sub (.cons _ (.cons _ (List.Sublist.refl _))))
 ·have hb : ([((m % 4 : Nat) : Int), ((n % 4 : Nat) : Int)] == [3, 3]) = false := by
   rw [beq_eq_false_iff_ne]
   intro q
   simp only [List.cons.injEq, and_true] at q
   exact h33 (by lia)
  refine ifF hb ?_
  refine C.cint ?_; clear C; intro s c3 C
  refine spliced_none ?_
  exact fin _ _ _ (by rw [if_neg h33]) (C.sub (.cons _ (.cons _ (List.Sublist.refl _))))
noncomputable def Zbz (m n r k : Nat) : Nat := Nat.add (Nat.mul (Nat.mod (Nat.add r k) m) n) (Nat.mod (Nat.add r k) n)
noncomputable def Zdh (m n r p : Nat) : List Nat := (List.range (m * n)).filter fun k => Nat.beq (Zbz m n r k) p
noncomputable def Za0 (m n r : Nat) : List (List Nat) := (List.range (m * n)).map (Zdh m n r)
noncomputable def Zol : List (List Nat) := [] :: ((List.range 27).map fun k => [k]) ++ ((List.range 3).map fun k => [k, k + 3, k + 6]) ++ ((List.range 9).map fun k => [k, k + 9, k + 18]) ++ ((List.range 5).map fun k => [k, k + 5, k + 10, k + 15, k + 20])
theorem Zlr : Zol.map (List.map fun k : Nat => (k : Int)) = Za6 := by decide +kernel
noncomputable def Zp9 (row : List Nat) : Bool := Zol.elem row
noncomputable def Zok (m n g p : Nat) : Nat := cond (Nat.beq (Nat.mod (Nat.sub (Nat.add (Nat.div p n) (Nat.mul 9 n)) (Nat.mod p n)) g) 0) g 0
noncomputable def Zoo (m n g : Nat) (p : Nat) (row : List Nat) : Bool := Zp9 row && (Nat.beq row.length (Zok m n g p))
noncomputable def Zpv (m n r : Nat) : Bool := (List.range (m * n)).all fun p => Zoo m n (Zb3 m n) p (Zdh m n r p)
theorem Ziy : (Zg.all fun p => (List.range (p.1 * p.2)).all fun r => Zpv p.1 p.2 r) = true := by decide +kernel
theorem Zm7 {a b : Nat} (h : Nat.blt a b = true) : a < b := by
 unfold Nat.blt at h
 exact Nat.le_of_ble_eq_true h
theorem Zjt {row : List Nat} (h : Zp9 row = true) : row.map (fun k : Nat => (k : Int)) ∈ Za6 := Zlr ▸ List.mem_map_of_mem (List.mem_of_elem_eq_true h)
theorem Zcd {m n r p : Nat} (hp : (m, n) ∈ Zg) (hr : r < m * n) (hpp : p < m * n) : (Zdh m n r p).map (fun k : Nat => (k : Int)) ∈ Za6 ∧ (Zdh m n r p).length = Zok m n (Zb3 m n) p := by
 have h1 := List.all_eq_true.mp (List.all_eq_true.mp Ziy _ hp) r (List.mem_range.mpr hr)
 have h2 := List.all_eq_true.mp h1 p (List.mem_range.mpr hpp)
 unfold Zoo at h2
 rw [Bool.and_eq_true] at h2
 exact ⟨Zjt h2.1, Nat.eq_of_beq_eq_true h2.2⟩
theorem Zj1 {m n r k p : Nat} (hn : 0 < n) : Nat.beq (Zbz m n r k) p = ((r + k) % m == p / n && (r + k) % n == p % n) := by
 rw [Bool.eq_iff_iff, Bool.and_eq_true, beq_iff_eq, beq_iff_eq]
 have e : Zbz m n r k = (r + k) % m * n + (r + k) % n := rfl
 have hlt : (r + k) % n < n := Nat.mod_lt _ hn
 constructor
 ·intro h
  have h := Nat.eq_of_beq_eq_true h
  rw [e] at h
  rw [← h]
  refine ⟨?_, ?_⟩
  ·rw [Nat.mul_comm, Nat.mul_add_div hn, Nat.div_eq_of_lt hlt]; rfl
  ·rw [Nat.mul_comm, Nat.mul_add_mod, Nat.mod_eq_of_lt hlt]
 ·rintro ⟨h1, h2⟩
  have : Zbz m n r k = p := by rw [e, h1, h2, Nat.mul_comm]; exact Nat.div_add_mod p n
  rw [this]; exact Nat.beq_refl p
theorem Zk8 : ∀ i i' j j' : Fin 10, 0 < j.val → 0 < j'.val → Zdx (Ze.getD i.val []) (Zg5 (Ze.getD i'.val []) (Ze.getD j'.val [])) = Nat.beq i.val i'.val ∧ Zfm (Ze.getD j.val []) (Zg5 (Ze.getD i'.val []) (Ze.getD j'.val [])) = Nat.beq j.val j'.val := by decide +kernel
theorem Zjl : ∀ p ∈ Zg, Ze.take p.1 = (List.range p.1).map (fun i => Ze.getD i []) ∧ (Ze.drop 1).take p.2 = (List.range p.2).map (fun j => Ze.getD (1 + j) []) := by decide +kernel
theorem Zkn {α : Type} (F : Nat → Nat → α) {p : Nat × Nat} (hp : p ∈ Zg) : ((List.range p.1).flatMap fun i => (List.range p.2).map (F i)) = (List.range (p.1 * p.2)).map fun q => F (q / p.2) (q % p.2) := by
 simp only [Zg, List.mem_cons, List.not_mem_nil, or_false] at hp
 rcases hp with rfl | rfl | rfl | rfl | rfl | rfl | rfl <;> rfl
theorem Zo7 {m n r a b : Nat} (hp : (m, n) ∈ Zg) (ha : a = r % m) (hb : b = r % n) : Zct (Ze8 m n a b) (m * n) (Ze.take m) ((Ze.drop 1).take n) = Za0 m n r := by
 refine Z6 ((by decide : ∀ p ∈ Zg, 3 ≤ p.1 ∧ p.1 ≤ 9 ∧ 3 ≤ p.2 ∧ p.2 ≤ 9 ∧ p.1 * p.2 ≤ 27) _ hp) fun hm3 hm9 hn3 hn9 hmn => ?_
 simp only at hm3 hm9 hn3 hn9 hmn
 obtain ⟨w1, w2⟩ := Zjl _ hp
 simp only at w1 w2
 unfold Zct Za0
 rw [w1, w2, List.flatMap_map]
 simp only [List.map_map]
 have fl := Zkn (fun i j => Zd4 (Zdx (Ze.getD i [])) (Zfm (Ze.getD (1 + j) [])) (Ze8 m n a b) (m * n)) hp
 simp only at fl
 refine Eq.trans fl ?_
 refine List.map_congr_left fun p hpp => ?_
 have hpp := List.mem_range.mp hpp
 have hi : p / n < m := Nat.div_lt_of_lt_mul (by rw [Nat.mul_comm]; exact hpp)
 have hj : p % n < n := Nat.mod_lt _ (nB hn3)
 unfold Zd4 Zdh
 rw [List.filter_filter]
 refine List.filter_congr fun k _ => ?_
 rw [Zj1 (nB hn3)]
 have hi' : (a + k) % m < m := Nat.mod_lt _ (nB hm3)
 have hj' : (b + k) % n < n := Nat.mod_lt _ (nB hn3)
 have s := Zk8 ⟨p / n, by exact kA (Nat.le_trans ‹_› ‹_›) rfl⟩ ⟨(a + k) % m, by exact kA (Nat.le_trans ‹_› ‹_›) rfl⟩ ⟨1 + p % n, by lia⟩ ⟨1 + (b + k) % n, by lia⟩ (by show 0 < 1 + p % n; exact Nat.le_add_right (Nat.succ 0) (p % n)) (by show 0 < 1 + (b + k) % n; exact Nat.le_add_right (Nat.succ 0) ((b + k) % n))
 simp only at s
 unfold Ze8
 rw [s.1, s.2, ha, hb, Nat.mod_add_mod, Nat.mod_add_mod, Bool.and_comm]
 rw [Bool.eq_iff_iff, Bool.and_eq_true, Bool.and_eq_true, beq_iff_eq, beq_iff_eq]
 constructor
 ·rintro ⟨h1, h2⟩
  have h1 := Nat.eq_of_beq_eq_true h1
  have h2 := Nat.eq_of_beq_eq_true h2
  lia
 ·rintro ⟨h1, h2⟩
  rw [h1, h2]
  exact ⟨Nat.beq_refl _, Nat.beq_refl _⟩
noncomputable def Zo6 (a b : Int) : Bool := decide (a = b)
theorem Zix : (Zg.all fun p => !(Nat.beq (Zb3 p.1 p.2) 1) || (List.range (p.1 * p.2)).all fun r => Zo6 (Zed ((List.range (p.1 * p.2)).map (Zbz p.1 p.2 r))) (Zf4 p.2 p.1) && Zo6 (Zed ((Zag p.1 p.2).map (Zbz p.1 p.2 r))) (Zf4 p.1 p.2)) = true := by decide +kernel
theorem Zqp : ∀ p ∈ Zg, Zb3 p.1 p.2 ≠ 1 → Zf4 p.2 p.1 = 0 ∧ Zf4 p.1 p.2 = 0 := by decide +kernel
theorem Zqy : ∀ p ∈ Zg, Zed ((List.range (p.1 * p.2)).map fun k => k % p.1 * p.2 + k / p.1) = (if p.1 % 4 = 3 ∧ p.2 % 4 = 3 then -1 else 1) := by decide +kernel
theorem Zmu : ∀ p ∈ Zg, (Zag p.1 p.2).Nodup ∧ (∀ k ∈ Zag p.1 p.2, k < p.1 * p.2) ∧ (∀ k ∈ List.range (p.1 * p.2), k ∈ Zag p.1 p.2 ∧ (Zag p.1 p.2).idxOf k = k % p.1 * p.2 + k / p.1) := by decide +kernel
theorem Zlb {α : Type} [BEq α] [LawfulBEq α] {a b : List α} (ha : a.Nodup) (hb : b.Nodup) (h : ∀ x, x ∈ a ↔ x ∈ b) : a.Perm b := by
 rw [List.perm_iff_count]
 intro x
 rw [ha.count, hb.count]
 by_cases hx : x ∈ a
 ·rw [if_pos hx, if_pos ((h x).mp hx)]
 ·rw [if_neg hx, if_neg fun q => hx ((h x).mpr q)]
theorem Ziu : ∀ {l : List Nat} {i k : Nat}, l.Nodup → l[i]? = some k → l.idxOf k = i
 | [], _, _, _, h => by simp at h
 | x :: l, 0, k, _, h => by
  have : x = k := by simpa using h
  subst this
  simp
 | x :: l, i + 1, k, hn, h => by
  rw [List.nodup_cons] at hn
  have h : l[i]? = some k := by simpa using h
  have hne : x ≠ k := fun e => hn.1 (e ▸ List.mem_of_getElem? h)
  rw [List.idxOf_cons, beq_false_of_ne hne]
  show l.idxOf k + 1 = i + 1
  rw [Ziu hn.2 h]
variable {nms : List (List Nat)}
theorem Zoq (hnd : nms.Nodup) {i j : Nat} (hi : i < nms.length) (hj : j < nms.length) (h : nms.getD i [] = nms.getD j []) : i = j := by
 have e1 : nms.getD i [] = nms[i] := by simp [List.getD, hi]
 have e2 : nms.getD j [] = nms[j] := by simp [List.getD, hj]
 rw [e1, e2] at h
 have pw := List.pairwise_iff_getElem.mp hnd
 rcases Nat.lt_trichotomy i j with q | q | q
 ·exact absurd h (pw i j hi hj q)
 ·exact q
 ·exact absurd h.symm (pw j i hj hi q)
theorem Zjj (hnd : nms.Nodup) {k : Nat} (hk : k < nms.length) : ∀ l : List Nat, (∀ x ∈ l, x < nms.length) → (l.map fun x => nms.getD x []).idxOf (nms.getD k []) = l.idxOf k
 | [], _ => rfl
 | x :: l, h => by
  have hx := h x M0
  have ih := Zjj hnd hk l fun y hy => h y (.tail _ hy)
  rw [List.map_cons, List.idxOf_cons, List.idxOf_cons, ih]
  have e : (nms.getD x [] == nms.getD k []) = (x == k) := by
   rw [Bool.eq_iff_iff, beq_iff_eq, beq_iff_eq]
   exact ⟨Zoq hnd hx hk, fun q => by rw [q]⟩
  rw [e]
theorem Zjr (hnd : nms.Nodup) {l : List Nat} (hl : l.Nodup) (h : ∀ x ∈ l, x < nms.length) : (l.map fun x => nms.getD x []).Nodup := by
 unfold List.Nodup at hl ⊢
 rw [List.pairwise_map]
 exact hl.imp_of_mem fun ha hb hab e => hab (Zoq hnd (h _ ha) (h _ hb) e)
theorem Zk1 (hnd : nms.Nodup) {no nt : List Nat} (ho : ∀ x ∈ no, x < nms.length) (ht : ∀ x ∈ nt, x < nms.length) (hl : no.length = nt.length) :
  sgn (no.map fun x => nms.getD x []) (nt.map fun x => nms.getD x []) = Zed (no.map fun k => nt.idxOf k) := by
 unfold sgn
 rw [if_pos (by simp [hl]), List.map_map]
 congr 1
 exact List.map_congr_left fun k hk => Zjj hnd (ho k hk) nt ht
theorem Zd0 {m n r p : Nat} (hp : p < m * n) : (Za0 m n r).getD p [] = Zdh m n r p := by
 unfold Za0
 rw [List.getD_eq_getElem?_getD, List.getElem?_map, List.getElem?_range hp]; rfl
theorem Zfk (m n r : Nat) : (Za0 m n r).length = m * n := by unfold Za0; simp
theorem Zg4 {m n r p k : Nat} : k ∈ Zdh m n r p ↔ k < m * n ∧ Zbz m n r k = p := by
 unfold Zdh
 rw [List.mem_filter, List.mem_range]
 exact ⟨fun ⟨a, b⟩ => ⟨a, Nat.eq_of_beq_eq_true b⟩, fun ⟨a, b⟩ => ⟨a, by rw [b]; exact Nat.beq_refl _⟩⟩
theorem Zgk {m n r k : Nat} (hm : 0 < m) (hn : 0 < n) : Zbz m n r k < m * n := by
 show (r + k) % m * n + (r + k) % n < m * n
 have h1 : (r + k) % m < m := Nat.mod_lt _ hm
 have h2 : (r + k) % n < n := Nat.mod_lt _ hn
 have h3 : (r + k) % m * n + n ≤ m * n := by rw [← Nat.succ_mul]; exact Nat.mul_le_mul_right _ h1
 lia
theorem Zn0 {m n r : Nat} (hp : (m, n) ∈ Zg) (hr : r < m * n) (hg : Zb3 m n = 1) :
  Z3 (Za0 m n r) = (List.range (m * n)).map (fun p => (Zdh m n r p).getD 0 0) ∧ (Z3 (Za0 m n r)).Nodup ∧ (∀ k, k ∈ Z3 (Za0 m n r) ↔ k < m * n) ∧ ∀ k, k < m * n → (Z3 (Za0 m n r)).idxOf k = Zbz m n r k := by
 refine Z6 ((by decide : ∀ p ∈ Zg, 3 ≤ p.1 ∧ p.1 ≤ 9 ∧ 3 ≤ p.2 ∧ p.2 ≤ 9 ∧ p.1 * p.2 ≤ 27) _ hp) fun hm3 hm9 hn3 hn9 hmn => ?_
 simp only at hm3 hm9 hn3 hn9 hmn
 have h1 : ∀ p, p < m * n → (Zdh m n r p).length = 1 := fun p hpp => by
  rw [(Zcd hp hr hpp).2, hg]
  unfold Zok
  rw [show Nat.mod _ 1 = 0 from Nat.mod_one _]; rfl
 have hd : ∀ p, p < m * n → (Zdh m n r p).getD 0 0 < m * n ∧ Zbz m n r ((Zdh m n r p).getD 0 0) = p := fun p hpp => by
  obtain ⟨k, hk⟩ := List.length_eq_one_iff.mp (h1 p hpp)
  rw [hk]
  exact Zg4.mp (hk ▸ List.mem_singleton.mpr rfl : k ∈ Zdh m n r p)
 have hb : ∀ k, k < m * n → (Zdh m n r (Zbz m n r k)).getD 0 0 = k := fun k hk => by
  have hpp := Zgk (r := r) (k := k) (show 0 < m by exact nB hm3) (show 0 < n by exact nB hn3)
  obtain ⟨k', hk'⟩ := List.length_eq_one_iff.mp (h1 _ hpp)
  have : k ∈ Zdh m n r (Zbz m n r k) := Zg4.mpr ⟨hk, rfl⟩
  rw [hk'] at this ⊢
  exact (List.mem_singleton.mp this).symm
 have e : Z3 (Za0 m n r) = (List.range (m * n)).map (fun p => (Zdh m n r p).getD 0 0) := by
  unfold Z3
  rw [Zfk]
  rw [List.filter_eq_self.mpr fun p hpp => by
   have hpp := List.mem_range.mp hpp
   rw [Zd0 hpp, h1 p hpp]; rfl]
  exact List.map_congr_left fun p hpp => by rw [Zd0 (List.mem_range.mp hpp)]
 rw [e]
 have nd : ((List.range (m * n)).map (fun p => (Zdh m n r p).getD 0 0)).Nodup := by
  unfold List.Nodup
  rw [List.pairwise_map]
  exact (List.nodup_range (n := m * n)).imp_of_mem fun {a b} ha hb' hab q => hab (by
   rw [← (hd a (List.mem_range.mp ha)).2, ← (hd b (List.mem_range.mp hb')).2, q])
 refine ⟨rfl, nd, fun k => ⟨fun hk => ?_, fun hk => ?_⟩, fun k hk => ?_⟩
 ·obtain ⟨p, hpp, rfl⟩ := List.mem_map.mp hk
  exact (hd p (List.mem_range.mp hpp)).1
 ·exact List.mem_map.mpr ⟨_, List.mem_range.mpr (Zgk (nB hm3) (nB hn3)), hb k hk⟩
 ·refine Ziu nd ?_
  rw [List.getElem?_map, List.getElem?_range (Zgk (nB hm3) (nB hn3))]
  exact congrArg some (hb k hk)
theorem Zmx {m n r : Nat} (hp : (m, n) ∈ Zg) (hr : r < m * n) (hg : Zb3 m n ≠ 1) : Z3 (Za0 m n r) = [] := by
 unfold Z3
 rw [List.map_eq_nil_iff, List.filter_eq_nil_iff]
 intro p hpp
 rw [Zfk] at hpp
 have hpp := List.mem_range.mp hpp
 rw [Zd0 hpp, (Zcd hp hr hpp).2, beq_iff_eq]
 unfold Zok
 cases Nat.beq (Nat.mod (Nat.sub (Nat.add (Nat.div p n) (Nat.mul 9 n)) (Nat.mod p n)) (Zb3 m n)) 0
 ·show ¬ 0 = 1; decide
 ·exact hg
structure Zpd (m n r : Nat) (nms : List (List Nat)) (nC nG : List (List Nat)) : Prop where
 ndC : nC.Nodup
 ndG : nG.Nodup
 lC : nC.length = m * n
 lG : nG.length ≤ m * n
 c1 : nms.Perm nG ∨ nms.length ≠ nG.length
 c2 : nC.Perm nG ∨ nC.length ≠ nG.length
 c3 : nms.Perm nC
 v : [sgn nms nG, sgn nC nG, sgn nms nC] = [Zf4 n m, Zf4 m n, if m % 4 = 3 ∧ n % 4 = 3 then -1 else 1]
theorem Zri {m n r : Nat} (hp : (m, n) ∈ Zg) (hr : r < m * n) {nms : List (List Nat)} (hlen : nms.length = m * n) (hnd : nms.Nodup) :
  Zpd m n r nms ((Zag m n).map fun k => nms.getD k []) ((Z3 (Za0 m n r)).map fun k => nms.getD k []) := by
 refine Z6 ((by decide : ∀ p ∈ Zg, 3 ≤ p.1 ∧ p.1 ≤ 9 ∧ 3 ≤ p.2 ∧ p.2 ≤ 9 ∧ p.1 * p.2 ≤ 27) _ hp) fun hm3 hm9 hn3 hn9 hmn => ?_
 simp only at hm3 hm9 hn3 hn9 hmn
 refine Zae (Zmu _ hp) fun k1 k2 k3 => ?_
 simp only at k1 k2 k3
 have hcl : (Zag m n).length = m * n := by unfold Zag; simp
 have hself : nms = (List.range (m * n)).map fun k => nms.getD k [] := by rw [← hlen]; exact (Zc9 [] nms).symm
 have hcm : ∀ k, k ∈ Zag m n ↔ k < m * n := fun k => ⟨k2 k, fun h => (k3 k (List.mem_range.mpr h)).1⟩
 have pC : (List.range (m * n)).Perm (Zag m n) := Zlb List.nodup_range k1 fun k => by rw [List.mem_range, hcm]
 have s3 : sgn nms ((Zag m n).map fun k => nms.getD k []) = (if m % 4 = 3 ∧ n % 4 = 3 then -1 else 1) := by
  conv => lhs; arg 1; rw [hself]
  rw [Zk1 hnd (fun x hx => by rw [hlen]; exact List.mem_range.mp hx) (fun x hx => by rw [hlen]; exact k2 x hx) (by rw [List.length_range, hcl])]
  rw [List.map_congr_left (g := fun k => k % m * n + k / m) fun k hk => (k3 k hk).2]
  exact Zqy _ hp
 have ndC : ((Zag m n).map fun k => nms.getD k []).Nodup := Zjr hnd k1 fun x hx => by rw [hlen]; exact k2 x hx
 have Zj6 : nms.Perm ((Zag m n).map fun k => nms.getD k []) := by
  conv => lhs; rw [hself]
  exact pC.map _
 by_cases hg : Zb3 m n = 1
 ·refine Zlj (Zn0 hp hr hg) fun d1 d2 d3 d4 => ?_
  have hdl : (Z3 (Za0 m n r)).length = m * n := by rw [d1]; simp
  have pG : (List.range (m * n)).Perm (Z3 (Za0 m n r)) := Zlb List.nodup_range d2 fun k => by rw [List.mem_range, d3]
  have hlt : ∀ x ∈ Z3 (Za0 m n r), x < nms.length := fun x hx => by rw [hlen]; exact (d3 x).mp hx
  have ck := List.all_eq_true.mp Zix _ hp
  simp only [hg] at ck
  have ck : ((List.range (m * n)).all fun r => Zo6 (Zed ((List.range (m * n)).map (Zbz m n r))) (Zf4 n m) && Zo6 (Zed ((Zag m n).map (Zbz m n r))) (Zf4 m n)) = true := ck
  have ck := List.all_eq_true.mp ck r (List.mem_range.mpr hr)
  rw [Bool.and_eq_true] at ck
  have s1 : sgn nms ((Z3 (Za0 m n r)).map fun k => nms.getD k []) = Zf4 n m := by
   conv => lhs; arg 1; rw [hself]
   rw [Zk1 hnd (fun x hx => by rw [hlen]; exact List.mem_range.mp hx) hlt (by rw [List.length_range, hdl])]
   rw [List.map_congr_left (g := Zbz m n r) fun k hk => d4 k (List.mem_range.mp hk)]
   exact of_decide_eq_true ck.1
  have s2 : sgn ((Zag m n).map fun k => nms.getD k []) ((Z3 (Za0 m n r)).map fun k => nms.getD k []) = Zf4 m n := by
   rw [Zk1 hnd (fun x hx => by rw [hlen]; exact k2 x hx) hlt (by rw [hcl, hdl])]
   rw [List.map_congr_left (g := Zbz m n r) fun k hk => d4 k (k2 k hk)]
   exact of_decide_eq_true ck.2
  have permG : nms.Perm ((Z3 (Za0 m n r)).map fun k => nms.getD k []) := by
   conv => lhs; rw [hself]
   exact pG.map _
  exact ⟨ndC, Zjr hnd d2 hlt, by rw [List.length_map, hcl], by rw [List.length_map, hdl]; exact Nat.le_refl _, .inl permG, .inl (Zj6.symm.trans permG), Zj6, by rw [s1, s2, s3]⟩
 ·have d0 := Zmx hp hr hg
  rw [d0]
  obtain ⟨y1, y2⟩ := Zqp _ hp hg
  simp only at y1 y2
  have hN : 0 < m * n := Nat.mul_pos (nB hm3) (nB hn3)
  have s1 : sgn nms ([] : List (List Nat)) = 0 := by unfold sgn; rw [if_neg (by rw [hlen]; simp; exact Nat.ne_of_gt hN)]
  have s2 : sgn ((Zag m n).map fun k => nms.getD k []) ([] : List (List Nat)) = 0 := by unfold sgn; rw [if_neg (by rw [List.length_map, hcl]; simp; exact Nat.ne_of_gt hN)]
  refine ⟨ndC, List.nodup_nil, by rw [List.length_map, hcl], by simp, .inr (by rw [hlen]; simp; exact Nat.ne_of_gt hN), .inr (by rw [List.length_map, hcl]; simp; exact Nat.ne_of_gt hN), Zj6, ?_⟩
  show [sgn nms [], sgn _ [], _] = _
  rw [s1, s2, s3, y1, y2]
theorem Zlf : ∀ (L k k' : Nat), k < 16 ^ L → k' < 16 ^ L → lnm k L = lnm k' L → k = k'
 | 0, k, k', h1, h2, _ => by simp at h1 h2; simp +arith [*]
 | L + 1, k, k', h1, h2, h => by
  rw [Zfa, Zfa] at h
  obtain ⟨e1, e2⟩ := List.append_inj' h rfl
  have i1 := Zlf L (k / 16) (k' / 16) (Nat.div_lt_of_lt_mul (by rw [Nat.mul_comm]; exact h1)) (Nat.div_lt_of_lt_mul (by rw [Nat.mul_comm]; exact h2)) e1
  rw [← Nat.div_add_mod k 16, ← Nat.div_add_mod k' 16, i1, Nat.add_left_cancel (List.cons.inj e2).1]
theorem Zjc {m n Lt : Nat} {st : Int} (hok : Za8 m n Lt st) : (Zdp st (m * n) Lt).Nodup := by
 unfold Zdp List.Nodup
 rw [List.pairwise_map]
 refine (List.nodup_range (n := m * n)).imp_of_mem fun {i j} hi hj hij e => hij ?_
 have hi := List.mem_range.mp hi
 have hj := List.mem_range.mp hj
 have b1 := Zd2 hok hi
 have b2 := Zd2 hok hj
 have e := Zlf Lt _ _ b1.2.2 b2.2.2 e
 exact Zrs hok.N hi hj e
theorem Zn7 : ∀ pr ∈ Zg, ∀ p ∈ List.range (pr.1 * pr.2), ((Zok pr.1 pr.2 (Zb3 pr.1 pr.2) p : Nat) : Int) = if (((p / pr.2 : Nat) : Int) - ((p % pr.2 : Nat) : Int)).fmod ((Zb3 pr.1 pr.2 : Nat) : Int) = 0 then ((Zb3 pr.1 pr.2 : Nat) : Int) else 0 := by decide +kernel
theorem Ze1 {st : Int} {N m r : Nat} (hd : m ∣ N) (hr : st % (N : Int) = (r : Int)) (k : Nat) : (st + (k : Int)).fmod (m : Int) = (((r + k) % m : Nat) : Int) := by
 rw [Int.fmod_eq_emod_of_nonneg _ (Int.natCast_nonneg _)]
 have h1 : st % (m : Int) = (r : Int) % (m : Int) := by rw [← hr, Int.emod_emod_of_dvd _ (Int.natCast_dvd_natCast.mpr hd)]
 rw [Int.add_emod, h1, ← Int.add_emod]
 simp
theorem Zn1 {σ : Shared} (W : Wd K σ.heap) (G : KG K) (R : Zk A 111) (Kx : KX prog w K cdT cdA cdF) {a : Addr} {us : List Value} {ns : List Int} {Q : Value → Shared → Prop}
  (hl : σ.heap.IsList a us.toArray) (hi : IntsAre us ns) (hlen : ns.length ≤ 1000) (ha : 316 ≤ a) (h : ∀ s', Ext [] [] σ s' → Q (.bool true) s') :
  wpAny (model prog w) A (call (.ref 315) [.ref a]) Q E σ := by
 refine Zmd W G R.le Kx.kw hl hi hlen ha fun env st m n Lt t1 t2 t3 t4 s hok hO hc hE C => ?_
 have RD := R.deeper (env := env) (n := 110)
 have he : Zf5 env σ := ⟨hO, hc, hE⟩
 have hp := hok.mn
 refine Z6 ((by decide : ∀ p ∈ Zg, 3 ≤ p.1 ∧ p.1 ≤ 9 ∧ 3 ≤ p.2 ∧ p.2 ≤ 9 ∧ p.1 * p.2 ≤ 27) _ hp) fun hm3 hm9 hn3 hn9 hmn => ?_
 simp only at hm3 hm9 hn3 hn9 hmn
 have hN : 0 < m * n := Nat.mul_pos (nB hm3) (nB hn3)
 obtain ⟨r, hr⟩ : ∃ r : Nat, st % ((m * n : Nat) : Int) = (r : Int) := ⟨(st % ((m * n : Nat) : Int)).toNat, by have := Int.emod_nonneg st (b := ((m * n : Nat) : Int)) (nZ hN); exact nT this⟩
 have hrN : r < m * n := by have := Int.emod_lt_of_pos st (b := ((m * n : Nat) : Int)) (nz hN); grind
 have fm := fun k => Ze1 (st := st) (N := m * n) (Nat.dvd_mul_right m n) hr k
 have fn := fun k => Ze1 (st := st) (N := m * n) (Nat.dvd_mul_left n m) hr k
 have hea : st.fmod (m : Int) = ((r % m : Nat) : Int) := by have := fm 0; simpa using this
 have heb : st.fmod (n : Int) = ((r % n : Nat) : Int) := by have := fn 0; simpa using this
 have hlenN := Zhl st (m * n) Lt
 have hnd := Zjc hok
 refine Zox W G RD.le hok hO hc hE C fun D oD uD t5 s hD hiD C => ?_
 refine Zl1 W G RD.le Kx.kw hok hO hc hE hD hiD C fun D2 oD2 u2 s hD2 hi2 C => ?_
 refine Zl2 W G RD.le Kx.kw hok hE hD hiD hD2 hi2 C fun s C => ?_
 refine Zlt W G RD.le Kx.kw hO hc hE C fun D3 oD3 u3 s hD3 hi3 C => ?_
 refine Zly W RD (by walk_at "M") hD3 hi3 C fun s C => ?_
 rw [Zm2] at hi2
 refine Zlw W G RD Kx he hok hD2 hi2 M1 C fun t7 s C => ?_
 have hL4 := hok.hL
 refine Zor (Lt := Lt) W G RD he hp hlenN (fun x hx => by
  have := Zb8 x hx
  exact ⟨by lia, by lia, this.2⟩) C fun DC oC uC s hC hiC C => ?_
 refine Zou (Lt := Lt) W G RD Kx.kd he hok C fun PL PR u1 v1 u2' v2 s C => ?_
 refine Zme RD he hp hD3 hi3 M3 C fun DL DR ul ur s hul hur C => ?_
 refine Zms (st := st) W G RD Kx he hp (Nat.mod_lt r (nB hm3)) (Nat.mod_lt r (nB hn3)) hea heb hlenN hD2 hi2 M6 hul hur M1 M0 M2 M3 C fun PD oP inner tv s hP hGR C => ?_
 rw [Zo7 hp rfl rfl] at hGR
 generalize hLs : (DR, Zu ur) :: (DL, Zu ul) :: (PL, _) :: (PR, _) :: (DC, oC) :: (D3, oD3) :: (D2, oD2) :: (D, oD) :: [] = Ls at C
 have mD : (D, oD) ∈ (PD, oP) :: inner ++ Ls := List.mem_append_right _ (by rw [← hLs]; simp)
 have mD2 : (D2, oD2) ∈ (PD, oP) :: inner ++ Ls := List.mem_append_right _ (by rw [← hLs]; simp)
 have mC : (DC, oC) ∈ (PD, oP) :: inner ++ Ls := List.mem_append_right _ (by rw [← hLs]; simp)
 have mP : (PD, oP) ∈ (PD, oP) :: inner ++ Ls := M0
 have hpk := Zkb hGR (ls := (PD, oP) :: inner ++ Ls) fun p hp => .tail _ (List.mem_append_left _ hp)
 have hrl := Zfk m n r
 have hrow : ∀ p, p < m * n → (Za0 m n r).getD p [] = Zdh m n r p := fun p hp => Zd0 hp
 have hr5 : ∀ p, p < m * n → ((Za0 m n r).getD p []).length ≤ 100 := fun p hpp => by
  rw [hrow p hpp]
  have := (Zeb _ (Zcd hp hrN hpp).1).2
  rw [List.length_map] at this; exact kA ‹_› rfl
 refine Zlx W G RD Kx he hp hlenN hnd hD hiD mD hD2 hi2 mD2 hP.lo mP hpk hrl (fun p hpp => by rw [hrow p hpp]; exact (Zcd hp hrN hpp).1) (fun p hpp k hk => ?_) C fun s C => ?_
 ·rw [hrow p hpp] at hk
  obtain ⟨k1, k2⟩ := Zg4.mp hk
  have e : Nat.beq (Zbz m n r k) p = true := by rw [k2]; exact Nat.beq_refl p
  rw [Zj1 (nB hn3), Bool.and_eq_true, beq_iff_eq, beq_iff_eq] at e
  exact ⟨k1, by rw [fm k, e.1], by rw [fn k, e.2]⟩
 refine Zk6 W G RD he hp C fun t8 s C => ?_
 refine Zkh W G RD he hp (Zgo _ hp).2.2 hP.lo mP hpk hrl hr5 (fun p hpp => by
  rw [hrow p hpp, (Zcd hp hrN hpp).2]
  exact Zn7 _ hp p (List.mem_range.mpr hpp)) C fun s C => ?_
 refine Zo2 W G RD he hP.lo mP hpk (by lia) (fun p hpp => hr5 p (by lia)) C fun DG oG uG s hG hiG C => ?_
 have S := Zri hp hrN hlenN hnd
 refine Zo3 W G RD Kx he hD2 hi2 (.tail _ mD2) hC hiC (.tail _ mC) hG hiG M0 S.ndC S.ndG (by lia) (by rw [S.lC]; exact kA ‹_› rfl) (Nat.le_trans S.lG (kA ‹_› rfl)) S.c1 S.c2 (.inl S.c3) C fun DT x y z s C => ?_
 exact Zpt W G RD Kx he hp S.v C fun s' e => h s' e
theorem Zdm {α : Type} : ∀ {K : List (Addr × α)} {a : Addr} {o : α}, K.lookup a = some o → (a, o) ∈ K
 | [], _, _, h => by simp at h
 | (b, o') :: r, a, o, h => by
  rw [List.lookup_cons] at h
  split at h
  ·rename_i he
   have he := eq_of_beq he
   cases h; subst he
   exact M0
  ·exact .tail _ (Zdm h)
theorem Zcx {α : Type} {f : Addr × α → Bool} : ∀ {K : List (Addr × α)} {a : Addr} {o : α}, (∀ o o', f (a, o) = f (a, o')) → (K.filter f).lookup a = some o → K.lookup a = some o
 | [], _, _, _, h => by simp at h
 | (b, o') :: r, a, o, hf, h => by
  rw [List.filter_cons] at h
  rw [List.lookup_cons]
  split at h
  ·rw [List.lookup_cons] at h
   split at h
   ·exact h
   ·exact Zcx hf h
  ·rename_i hb
   have ih := Zcx hf h
   split
   ·rename_i he
    have he := eq_of_beq he
    subst he
    have hm := Zdm h
    have := (List.mem_filter.mp hm).2
    rw [hf o o'] at this
    exact absurd this hb
   ·exact ih
theorem Zgf {K : Frag} {a : Addr} {o : Obj} (h : (Zb2 K).lookup a = some o) : K.lookup a = some o := Zcx (fun _ _ => rfl) h
theorem Znc {K : Frag} {a : Addr} {o : Obj} (h : (Zb2 K).lookup a = some o) : a ∉ Zbn := fun ht => by
 have := (List.mem_filter.mp (Zdm h)).2
 simp only [Zbn, List.mem_cons, List.not_mem_nil, or_false] at ht
 rcases ht with rfl | rfl | rfl | rfl | rfl <;> exact Bool.noConfusion this
theorem Zk7 {K : Frag} (h : K.all (fun p => Nat.blt p.1 316) = true) {a : Addr} {o : Obj} (e : K.lookup a = some o) : a < 316 := Zm7 (List.all_eq_true.mp h _ (Zdm e))
theorem Zem {K : Frag} {h : Heap} {N : Addr} {mg : Str → Option Value} {n : Str} {v : Value} (X : K.In h) (G : h.Ns N mg) (e : nsIn K N n = some (some v)) : mg n = some v := by
 refine Zbx G fun o es ep ho hd _ hf => ?_
 unfold nsIn at e
 split at e
 ·rename_i c d es' n' sl q
  have := X _ _ q
  rw [ho] at this
  cases this
  cases hd
  split at e
  ·rename_i he
   have e := Option.some.inj (Option.some.inj e)
   rw [← hf]
   unfold nsFind findBy
   rw [← Array.find?_toList, he, ← e]
   rfl
  ·split at e <;> cases e
 ·cases e
structure Zhb (K : Frag) (c P : Addr) : Prop where
 lo : K.lookup c = some ⟨.type "code", (Zns K c).dict, .fields (Za5 K c), (Zns K c).slots⟩
 f11 : (Za5 K c)[11]? = some (.ref P)
 f18 : (Za5 K c)[18]? = some (.str (Ziv (Za5 K c) 18).1 (Ziv (Za5 K c) 18).2)
 f7 : (Za5 K c)[7]? = some (.int (Zhn (Za5 K c) 7).1 (Zhn (Za5 K c) 7).2)
 f9 : (Za5 K c)[9]? = some (.bool (Zn3 (Za5 K c) 9))
 f10 : (Za5 K c)[10]? = some (.int (Zhn (Za5 K c) 10).1 (Zhn (Za5 K c) 10).2)
 t : K.lookup P = some { cls := .none, data := .fields #[] }
theorem Zev {vs : Array Value} {i : Nat} {v : Value} (h : vs[i]? = some v) : vs.getD i .none = v := by
 rw [Array.getD_eq_getD_getElem?, h]; rfl
theorem Zhb.at {K : Frag} {h : Heap} (X : K.In h) {c P : Addr} (x : Zhb K c P) (hn : c ≠ P) : h.IsCode c P #[] ∧ h.TableAt c P #[] :=
 ⟨⟨_, _, _, _, _, _, _, _, _, _, X _ _ x.lo, rfl, Zev x.f11, Zev x.f18, Zev x.f7, Zev x.f9, Zev x.f10, X _ _ x.t, rfl, trivial, hn⟩, ⟨_, _, X _ _ x.lo, rfl, rfl, x.f11⟩, X _ _ x.t⟩
theorem Zju : Zk callerA 111 := ⟨rfl, by decide, by decide, ⟨[], rfl⟩, ⟨[], rfl⟩⟩
theorem Zn8 {σ : Shared} (KI : K.In σ.heap) (hlow : K.all (fun p => Nat.blt p.1 316) = true) (hT : ∀ q ∈ Zac, Zhb K q.1 q.2)
  {mg mb : Str → Option Value} (hg : σ.heap.Ns mainGlobals mg) (hb : σ.heap.Ns builtinsNs mb) (hbb : ∀ x : Str, x ≠ "__name__" → mb x = bootBuiltins x) (hnl : σ.heap.NoLimit) (hnd : ∃ mc, σ.heap.Ns cStatics mc ∧ mc "sys.int_max_str_digits" = none)
  (hbm : ∃ bm ob, mg "__builtins__" = some (.ref bm) ∧ bm ≠ builtinsNs ∧ σ.heap.get? bm = some ob ∧ ob.cls = .type "module" ∧ ob.dict = some builtinsNs ∧ ob.data = .plain)
  {b0 : Addr} (hb0 : nsIn (Zb2 K) mainGlobals "__builtins__" = some (some (.ref b0))) (hb1 : (Nat.blt b0 316 && !(Nat.beq b0 mainGlobals) && !(Zbn.contains b0)) = true)
  (G : KG (Zb2 K)) (Kx : KX prog w (Zb2 K) cdT cdA cdF) {us : List Value} {ns : List Int} (hl : σ.heap.IsList 316 us.toArray) (hi : IntsAre us ns) (hlen : ns.length ≤ 63) (hgb : AllBare σ.gens) {E : Value → Shared → Prop} {Q : Value → Shared → Prop}
  (h : ∀ s', OldK σ.heap s'.heap → s'.os = σ.os → AllBare s'.gens → Q (.bool true) s') :
  wpAny (model prog w) callerA (call (.ref 315) [.ref 316]) Q E σ := by
 have X' : (Zb2 K).In σ.heap := fun a o e => KI a o (Zgf e)
 have hsz : 316 ≤ σ.heap.objs.size := by
  refine Zo hl fun o e _ => ?_
  exact Nat.le_of_lt (Heap.lt_size e)
 have TI : Zap σ.heap := fun q hq => by
  refine Zd3 (Z7 q hq) fun _ _ _ _ _ h6 => ?_
  obtain ⟨t1, t2⟩ := (hT q hq).at KI h6
  exact ⟨#[], t1, t2, fun pos cv e => by cases e⟩
 rw [Bool.and_eq_true, Bool.and_eq_true] at hb1
 obtain ⟨⟨c1, c2⟩, c3⟩ := hb1
 have W : Wd (Zb2 K) σ.heap := {
  k := X'
  lt := fun a o e => ⟨Zk7 hlow (Zgf e), Znc e⟩
  g := ⟨mg, hg, fun x v e => Zem X' hg e, fun x e => ns_none_of X' hg e⟩
  b := ⟨mb, hb, hbb⟩
  lim := hnl
  dig := hnd
  tab := TI
  big := hsz
  bm := by
   refine Zmj hbm fun bm ob m1 m2 m3 m4 m5 m6 => ?_
   have e := Zem X' hg hb0
   rw [e] at m1
   cases m1
   refine ⟨mg, b0, ob, hg, e, m2, fun q => ?_, Zm7 c1, fun q => ?_, m3, m4, m5, m6⟩
   ·rw [q] at c2; exact absurd c2 (by decide)
   ·rw [List.contains_iff_mem.mpr q] at c3; exact absurd c3 (by decide) }
 refine wpAny_mono (E := fun _ _ => False) (Zn1 (Q := fun v s' => Q v s') W G Zju Kx hl hi (kA ‹_› rfl) (Nat.le_refl _) fun s' x => ?_) (fun _ _ q => q) fun _ _ q => q.elim
 refine h s' ⟨fun b o e => ?_, fun b o e => x.al b o (fun h => nomatch h) e⟩ x.os (x.gb hgb)
 by_cases hb : b ∈ Zbn
 ·obtain ⟨q, hq, rfl⟩ : ∃ q ∈ Zac, q.2 = b := by
   simp only [Zbn, List.mem_cons, List.not_mem_nil, or_false] at hb
   rcases hb with rfl | rfl | rfl | rfl | rfl
   ·exact ⟨(27, 23), by decide, rfl⟩
   ·exact ⟨(69, 65), by decide, rfl⟩
   ·exact ⟨(76, 72), by decide, rfl⟩
   ·exact ⟨(214, 210), by decide, rfl⟩
   ·exact ⟨(221, 217), by decide, rfl⟩
  refine Zd3 (Z7 q hq) fun _ _ _ _ _ h6 => ?_
  obtain ⟨_, t2⟩ := (hT q hq).at KI h6
  refine Z1 (x.tab TI q hq) fun ps _ t3 _ => ?_
  have e0 := t2.2
  rw [e] at e0
  cases e0
  exact .inr (.inl ⟨t2.isCodeTable, rfl, #[], ps, rfl, by rw [t3.2]; simp⟩)
 ·exact .inl (x.keep b o (fun h => nomatch h) hb e)
theorem Zpg {K : Frag} (e : Zdy.all (fun q => findIn K (.ref 248) (ofString q.1) == some (some (.ref q.2)) && typeIn K (.ref q.2) == some (.type "function") && keepIn K (.ref q.2)) = true) :
  ∀ q ∈ Zdy, findIn K (.ref 248) (ofString q.1) = some (some (.ref q.2)) ∧ typeIn K (.ref q.2) = some (.type "function") ∧ keepIn K (.ref q.2) = true := by
 intro q hq
 have := List.all_eq_true.mp e q hq
 simpa [and_assoc] using this
theorem Zpk {K : Frag} (e : Ze9.all (fun q => findIn K (.ref 164) (ofString q.1) == some (some (.ref q.2)) && typeIn K (.ref q.2) == some (.type "function") && keepIn K (.ref q.2)) = true) :
  ∀ q ∈ Ze9, findIn K (.ref 164) (ofString q.1) = some (some (.ref q.2)) ∧ typeIn K (.ref q.2) = some (.type "function") ∧ keepIn K (.ref q.2) = true := by
 intro q hq
 have := List.all_eq_true.mp e q hq
 simpa [and_assoc] using this
theorem Zp0 {K : Frag} (e : Zdl.all (fun q => takerIn K 164 (ofString q) == some none && findIn K (.ref 164) (ofString q) == some none) = true) :
  ∀ q ∈ Zdl, takerIn K 164 (ofString q) = some none ∧ findIn K (.ref 164) (ofString q) = some none := by
 intro q hq
 have := List.all_eq_true.mp e q hq
 simpa using this
theorem Zrz {K : Frag} (e : Zi1.all (fun q => nsIn K mainGlobals (ofString q.1) == some (some q.2)) = true) (e' : Zhq.all (fun q => nsIn K mainGlobals (ofString q.1) == some none) = true) : KG K :=
 ⟨fun q hq => by simpa using List.all_eq_true.mp e q hq, fun q hq => by simpa using List.all_eq_true.mp e' q hq⟩
theorem Zpl {K : Frag} (t1 : Zhb K 27 23) (t2 : Zhb K 69 65) (t3 : Zhb K 76 72) (t4 : Zhb K 214 210) (t5 : Zhb K 221 217) : ∀ q ∈ Zac, Zhb K q.1 q.2 := List.forall_mem_cons.mpr ⟨t1, List.forall_mem_cons.mpr ⟨t2, List.forall_mem_cons.mpr ⟨t3, List.forall_mem_cons.mpr ⟨t4, List.forall_mem_cons.mpr ⟨t5, List.forall_mem_nil _⟩⟩⟩⟩⟩
theorem Zi6 {h : Heap} {a : Addr} {o : Obj} (e : (Zai h).lookup a = some o) : a < 316 ∧ h.get? a = some o := by
 have hm := Zdm e
 unfold Zai at hm
 refine Zo (List.mem_filterMap.mp hm) fun b hb q => ?_
 refine Zo (Option.map_eq_some_iff.mp q) fun o' e' z => ?_
 cases z
 exact ⟨List.mem_range.mp hb, e'⟩
theorem Zj0 (h : Heap) : (Zai h).all (fun p => Nat.blt p.1 316) = true := by
 rw [List.all_eq_true]
 intro p hp
 unfold Zai at hp
 refine Zo (List.mem_filterMap.mp hp) fun b hb q => ?_
 refine Zo (Option.map_eq_some_iff.mp q) fun o' e' z => ?_
 cases z
 exact Nat.ble_eq_true_of_le (List.mem_range.mp hb)
theorem Zjw {o : Obj} {c : Value} {d : Data} (h1 : o.cls = c) (h2 : o.data = d) : o = ⟨c, o.dict, d, o.slots⟩ := by rw [← h1, ← h2]
theorem Zo5 {d : Data} {f : FuncData} (h : cond ((Zbe d).1 == 1) (some (Zbe d).2.1) none = some f) : d = .func f := by
 cases e : (Zbe d).1 == 1 with
 | false => rw [e] at h; cases h
 | true => rw [e] at h; exact (Zge (k := 0) (beq_iff_eq.mp e)).trans (congrArg Data.func (Option.some.inj h))
theorem Zq3 {K : Frag} {e : FnE} (h : er K e.f = erE e) (h2 : codeIn K (.ref e.c) e.qual = true) : FnK K e.f e.name e.qual e.st e.cl e.dV e.c := by
 refine Zo (Option.bind_eq_some_iff.mp h) fun o ho h => ?_
 refine Zo (Option.map_eq_some_iff.mp h) fun f hf h => ?_
 have ef : f = fnX e.name e.qual (Zaj e.st) (Zl e.st) (Zb e.st) e.cl e.dV f.kwdefaults f.doc f.pyModule f.annotations (.ref e.c) f.closureTuple :=
  congrArg (fun g : FuncData => { g with kwdefaults := f.kwdefaults, doc := f.doc, pyModule := f.pyModule, annotations := f.annotations, closureTuple := f.closureTuple }) h
 exact ⟨_, _, _, _, _, _, _, _, ho.trans (congrArg some (Zjw rfl ((Zo5 hf).trans (congrArg Data.func ef)))), h2⟩
theorem Zb9 {α : Type} {o : Option α} {f : α → Bool} (h : o.elim false f = true) : ∃ v, o = some v ∧ f v = true := by
 cases o with
 | none => cases h
 | some v => exact ⟨v, rfl, h⟩
theorem Zim {K : Frag} {C : Addr} {mro : List Value} (h : Znw K C mro = true) (hm : mro.isEmpty = false) (ho : mro.contains (.type "object") = true) (hr : ∀ self, refuseLoop self "__setattr__" mro = Pure.pure ()) : ClsS K C (Zha K C) := by
 unfold Znw at h
 rw [Bool.and_eq_true, Bool.and_eq_true, beq_iff_eq, beq_iff_eq] at h
 refine Zo (Zb9 h.1.1) fun cd hc h1 => ?_
 rw [Bool.and_eq_true, beq_iff_eq] at h1
 have e : Zha K C = cd := by unfold Zha; rw [hc]; rfl
 rw [e]
 exact ⟨hc, h1.1, by rw [h1.2]; exact hm, by rw [h1.2]; exact ho, by rw [h1.2]; exact hr, h.1.2, h.2⟩
theorem Zh5 {o : Obj} {f : Array Value → Bool} (h : Znx o f = true) : ∃ vs, o.data = .fields vs ∧ (Zbe o.data).2.2.1 = vs ∧ f vs = true := by
 unfold Znx at h
 rw [Bool.and_eq_true, beq_iff_eq] at h
 exact ⟨_, Zge (k := 1) h.1, rfl, h.2⟩
theorem Zeu {K : Frag} {c P : Addr} (h : Zkf K c P = true) : Zhb K c P := by
 unfold Zkf at h
 rw [Bool.and_eq_true] at h
 refine Zo (Zb9 h.1) fun o ho h1 => ?_
 refine Zo (Zb9 h.2) fun o2 ho2 h2 => ?_
 rw [Bool.and_eq_true, Bool.and_eq_true, Bool.and_eq_true, beq_iff_eq, beq_iff_eq, beq_iff_eq] at h2
 rw [Bool.and_eq_true, beq_iff_eq] at h1
 refine Z1 (Zh5 h1.2) fun vs hd hv h3 => ?_
 refine Z1 (Zh5 h2.2.2.2) fun v2 hd2 _ h4 => ?_
 unfold Zql Zqt Zp8 at h3
 rw [Bool.and_eq_true, Bool.and_eq_true, Bool.and_eq_true, Bool.and_eq_true, beq_iff_eq, beq_iff_eq, beq_iff_eq, beq_iff_eq, beq_iff_eq] at h3
 rw [beq_iff_eq.mp h4] at hd2
 have e : Zns K c = o := by unfold Zns; rw [ho]; rfl
 have hf : Za5 K c = vs := by unfold Za5; rw [e, hv]
 have eo : o2 = { cls := .none, data := .fields #[] } := by rw [Zjw h2.1 hd2, h2.2.1, h2.2.2.1]
 refine ⟨by rw [e, hf]; exact ho.trans (congrArg some (Zjw h1.1 hd)), ?_, ?_, ?_, ?_, ?_, ho2.trans (congrArg some eo)⟩ <;> rw [hf]
 ·exact h3.1
 ·exact h3.2.1
 ·exact h3.2.2.1
 ·exact h3.2.2.2.1
 ·exact h3.2.2.2.2
theorem Zgt {prog : Program} {K : Frag} {c : Addr} (h : Zll prog K c = true) (hs : (prog.main.scope.names.lookup ("super" : Str)).isSome = false) : Zho prog K c := by
 refine Zo (Zb9 h) fun o ho h => ?_
 refine Z1 (Zh5 h) fun vs hd _ h => ?_
 rw [Bool.and_eq_true] at h
 exact ⟨_, _, _, _, _, _, ho.trans (congrArg some (Zjw rfl hd)), beq_iff_eq.mp h.1, h.2, hs⟩
theorem Zn9 {K : Frag} (h : Zqe K = true) : ∃ a b c, K.lookup 172 = some ⟨a, b, .cell (some (.ref 248)), c⟩ := by
 refine Zo (Zb9 h) fun o ho h => ?_
 rw [Bool.and_eq_true, beq_iff_eq, beq_iff_eq] at h
 exact ⟨_, _, _, ho.trans (congrArg some (Zjw rfl ((Zge (k := 2) h.1).trans (congrArg Data.cell h.2))))⟩
theorem Zlk {K : Frag} {a : Addr} {z : Bool} (h : Zlv K a z = true) : ∃ o t n, K.lookup a = some o ∧ o.data = .seq (cond z #[.int 0 t] #[.none]) n := by
 refine Zo (Zb9 h) fun o ho h => ?_
 rw [Bool.and_eq_true, beq_iff_eq, beq_iff_eq] at h
 exact ⟨o, _, _, ho, (Zge (k := 3) h.1).trans (congrArg (Data.seq · _) h.2)⟩
theorem Zi8 {K : Frag} {a : Addr} (h : Zlv K a true = true) : ∃ o t n, K.lookup a = some o ∧ o.data = .seq #[.int 0 t] n := Zlk h
theorem Zo0 {K : Frag} {a : Addr} (h : Zlv K a false = true) : ∃ o n, K.lookup a = some o ∧ o.data = .seq #[.none] n := Zax (Zlk h) fun _ _ _ e h => ⟨_, _, e, h⟩
theorem Zom : ∀ self, refuseLoop self "__setattr__" [.ref 45, .type "object"] = Pure.pure () := fun _ => by kernel_rfl
theorem Zl8 : ∀ self, refuseLoop self "__setattr__" [.ref 164, .type "object"] = Pure.pure () := fun _ => by kernel_rfl
theorem Zma : ∀ self, refuseLoop self "__setattr__" [.ref 248, .type "list", .type "object"] = Pure.pure () := fun _ => by kernel_rfl
theorem Zrm (h : fB1 K = true) : KA prog K (Zha K 248) := by
 unfold fB1 at h
 simp only [Bool.and_eq_true, beq_iff_eq] at h
 refine Zee h fun h1 h2 h3 h4 h5 h6 h7 h8 h9 h10 h11 h12 h13 h14 h15 h16 h17 => ?_
 exact ⟨Zim h1 (by decide) (by decide) Zma, h2, ⟨h3, h4, h5, h6⟩, h7, h8, Zn9 h9, h10, h11, h12, h13, h14, h15, h16, h17⟩
theorem Zdq {h2 : Za9.map (fun e => er K e.f) = Za9.map erE} (h : Za9.all (fun e => codeIn K (.ref e.c) e.qual) = true) {i : Nat} {e : FnE} (hi : Za9[i]? = some e) : FnK K e.f e.name e.qual e.st e.cl e.dV e.c :=
 Zq3 (List.map_inj_left.mp h2 e (List.mem_of_getElem? hi)) (List.all_eq_true.mp h e (List.mem_of_getElem? hi))
theorem Zre (h : fB2 prog K = true) (hs : (prog.main.scope.names.lookup ("super" : Str)).isSome = false) (h2 : Za9.map (fun e => er K e.f) = Za9.map erE) (hc : Za9.all (fun e => codeIn K (.ref e.c) e.qual) = true) : KM prog K := by
 unfold fB2 at h
 rw [Bool.and_eq_true] at h
 obtain ⟨h0, h⟩ := h
 simp only [Bool.and_eq_true, beq_iff_eq] at h
 refine Zhi h fun h1 h3 h4 h5 h6 h7 p1 p2 p3 d1 d2 d3 => ?_
 exact ⟨Zpg h0, h1, h3, h4, h5, h6, h7, Zdq (h2 := h2) (i := 5) hc rfl, Zdq (h2 := h2) (i := 6) hc rfl, Zdq (h2 := h2) (i := 7) hc rfl, Zdq (h2 := h2) (i := 8) hc rfl, Zdq (h2 := h2) (i := 9) hc rfl, Zdq (h2 := h2) (i := 10) hc rfl, Zdq (h2 := h2) (i := 11) hc rfl, Zdq (h2 := h2) (i := 12) hc rfl, Zdq (h2 := h2) (i := 13) hc rfl,
  Zgt p1 hs, Zgt p2 hs, Zgt p3 hs, Zi8 d1, Zi8 d2, Zo0 d3⟩
theorem Zr0 (h : fB3 K = true) (h2 : Za9.map (fun e => er K e.f) = Za9.map erE) (hc : Za9.all (fun e => codeIn K (.ref e.c) e.qual) = true) : KF K (Zha K 164) := by
 unfold fB3 at h
 rw [Bool.and_eq_true, Bool.and_eq_true, Bool.and_eq_true, Bool.and_eq_true, Bool.and_eq_true, Bool.and_eq_true, Bool.and_eq_true, beq_iff_eq, beq_iff_eq, beq_iff_eq] at h
 refine Zmw h fun h1 h3 h4 h5 h6 h7 h8 h9 => ?_
 exact ⟨⟨Zim h1 (by decide) (by decide) Zl8, h3⟩, h4, h5, h6, h7, Zpk h8, Zp0 h9, Zdq (h2 := h2) (i := 0) hc rfl, Zdq (h2 := h2) (i := 1) hc rfl, Zdq (h2 := h2) (i := 2) hc rfl, Zdq (h2 := h2) (i := 3) hc rfl, Zdq (h2 := h2) (i := 4) hc rfl⟩
theorem Zq7 (h : fB4 K = true) (h2 : Za9.map (fun e => er K e.f) = Za9.map erE) (hc : Za9.all (fun e => codeIn K (.ref e.c) e.qual) = true) : KT K (Zha K 45) := by
 unfold fB4 at h
 simp only [Bool.and_eq_true, beq_iff_eq] at h
 refine Zjp h fun h1 h3 h4 h5 h6 h7 h8 h9 h10 h11 => ?_
 exact ⟨⟨Zim h1 (by decide) (by decide) Zom, h3⟩, h4, h5, h6, h7, Zdq (h2 := h2) (i := 26) hc rfl, Zdq (h2 := h2) (i := 19) hc rfl, h8, h9, h10, h11⟩
theorem law_seen {w : World} {s₀ σ : Shared} (y : Zq5 s₀ = Zrw) (hk : ∀ b o, s₀.heap.get? b = some o → σ.heap.get? b = some o)
  {mg mb : Str → Option Value} (hg : σ.heap.Ns mainGlobals mg) (hb : σ.heap.Ns builtinsNs mb) (hbb : ∀ x : Str, x ≠ "__name__" → mb x = bootBuiltins x) (hnl : σ.heap.NoLimit) (hnd : ∃ mc, σ.heap.Ns cStatics mc ∧ mc "sys.int_max_str_digits" = none)
  (hbm : ∃ bm ob, mg "__builtins__" = some (.ref bm) ∧ bm ≠ builtinsNs ∧ σ.heap.get? bm = some ob ∧ ob.cls = .type "module" ∧ ob.dict = some builtinsNs ∧ ob.data = .plain)
  {fa : Addr} (hfa : mg (ofString "law") = some (.ref fa)) {a : Addr} (ha : a = s₀.heap.objs.size)
  {us : List Value} {ns : List Int} (hl : σ.heap.IsList a us.toArray) (hi : IntsAre us ns) (hlen : ns.length ≤ 63) (hgb : σ.gens = #[]) {E : Value → Shared → Prop} {Q : Value → Shared → Prop}
  (h : ∀ s', OldK σ.heap s'.heap → s'.os = σ.os → AllBare s'.gens → Q (.bool true) s') :
  wpAny (model PySem.Challenge.pw_zo0040_01 w) callerA (call (.ref fa) [.ref a]) Q E σ := by
 have y1 : (Nat.beq s₀.heap.objs.size 316 && (fB6 (Zai s₀.heap) && (fB1 (Zb2 (Zai s₀.heap)) && (fB2 PySem.Challenge.pw_zo0040_01 (Zb2 (Zai s₀.heap)) && (fB3 (Zb2 (Zai s₀.heap)) && (fB4 (Zb2 (Zai s₀.heap)) && fB5 (Zb2 (Zai s₀.heap)))))))) = true := congrArg (fun x : Zmh => x.1) y
 have y2 : Za9.map (fun e => er (Zb2 (Zai s₀.heap)) e.f) = Za9.map erE := congrArg (fun x : Zmh => x.2.1) y
 have y3 : (fun w t t' => findObj (Zb2 (Zai s₀.heap)) 248 (some (Zay w t t')) (ofString "push")) = fun _ _ _ => some (.bind (.builtin "function.__get__") (.ref 192)) := congrArg (fun x : Zmh => x.2.2) y
 rw [Bool.and_eq_true, Bool.and_eq_true, Bool.and_eq_true, Bool.and_eq_true, Bool.and_eq_true, Bool.and_eq_true] at y1
 refine Znk y1 fun z0 z6 z1 z2 z3 z4 z5 => ?_
 have KI : (Zai s₀.heap).In σ.heap := fun b o e => hk b o (Zi6 e).2
 have hlow := Zj0 s₀.heap
 generalize Zai s₀.heap = K at *
 unfold fB6 at z6
 rw [Bool.and_eq_true, Bool.and_eq_true, Bool.and_eq_true, Bool.and_eq_true] at z6
 refine Z6 z6 fun t1 t2 t3 t4 t5 => ?_
 unfold fB5 at z5
 rw [Bool.and_eq_true, Bool.and_eq_true, Bool.and_eq_true, Bool.and_eq_true, beq_iff_eq, beq_iff_eq] at z5
 refine Z6 z5 fun g1 g2 g3 g4 hc => ?_
 have ha : a = 316 := ha.trans (Nat.eq_of_beq_eq_true z0)
 subst ha
 have e := Zem (fun a o e => KI a o (Zgf e)) hg g4
 rw [e] at hfa
 cases hfa
 refine Zn8 (prog := PySem.Challenge.pw_zo0040_01) (cdT := Zha (Zb2 K) 45) (cdA := Zha (Zb2 K) 248) (cdF := Zha (Zb2 K) 164) KI hlow (Zpl (Zeu t1) (Zeu t2) (Zeu t3) (Zeu t4) (Zeu t5)) hg hb hbb hnl hnd hbm g3 (by decide) (Zrz g1 g2) ?_ hl hi hlen (hgb ▸ AllBare.empty) h
 have F : ∀ {i : Nat} {e : FnE}, Za9[i]? = some e → FnK (Zb2 K) e.f e.name e.qual e.st e.cl e.dV e.c := fun {i e} hi => Zdq (h2 := y2) hc hi
 exact ⟨⟨F (i := 24) rfl, F (i := 15) rfl, F (i := 14) rfl, F (i := 16) rfl, F (i := 17) rfl, F (i := 18) rfl⟩, ⟨F (i := 27) rfl, F (i := 28) rfl, F (i := 29) rfl, F (i := 30) rfl, F (i := 31) rfl⟩, Zq7 z4 y2 hc, Zrm z1, Zre z2 (by decide +kernel) y2 hc, Zr0 z3 y2 hc,
  fun t t' => congrFun (congrFun (congrFun y3 w) t) t', F (i := 25) rfl, F (i := 20) rfl, F (i := 21) rfl, F (i := 22) rfl, F (i := 23) rfl⟩
end Mine
open PySem.W.X
set_option maxHeartbeats 8000000 in
theorem PySem.Challenge.cw_zo0040_01_holds : PySem.Challenge.rw_zo0040_01.Holds := by
  w_on
  refine holds_law Mine.saidM fun said => ?_
  refine holds_openX (q := Mine.qV) (Xt := Mine.xtV) (XP := XL Mine.qV []) Mine.leftM
    (fun s e => xl_of s (Bool.and_eq_true_iff.mp e).1) XL.keeps (by rfl) (by rfl) (by rfl) (fun s e => recFacts_of (Bool.and_eq_true_iff.mp e).2) (by rfl) said (by decide +kernel) ⟨rfl, rfl, rfl, rfl, rfl, by decide +kernel⟩ ?hw ?hc
  case hw => w_witness2
  case hc =>
    intro w s₀ s₁ mg mb G y fa o pm cd doc dV kV ho hd hcd hD hmg hg args vals as L hpre hlay hrd hwl hlo
    have hkeeps := Laid.keeps L
    refine Ground.open G ?_
    intro T B D TE TW
    wrow_args hpre hlay hrd hwl hlo
    obtain ⟨hat, hsz⟩ := script_at L
    refine Mine.law_seen y hkeeps T.g T.b T.builtins T.nolimit T.nodigits T.bmain hmg hat (by assumption) (by assumption) (by omega) hg ?fin
    intro s' hK hos hb
    exact ⟨.inl ⟨_, _, [], rfl, fun _ => rfl, ReadsW.bool true, by first | rfl | wrow_post, fun _ => ⟨List.nodup_nil, fun _ hm => (nomatch hm)⟩⟩, hK, hos, hb⟩
