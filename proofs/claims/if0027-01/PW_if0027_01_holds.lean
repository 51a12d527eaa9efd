import PyProof.Rows.All
import Wide.All
import OpenK.AllK
import Wide.FinOn
import PyProof.FactsAll.list
import PyProof.AttrMissHeap
import PyProof.AutoListH
import PyProof.CompMap
import PyProof.CompUse
import PyProof.Walks
import PyProof.StrWalks
import PyProof.CompFree
import PyProof.ListNew
import PyProof.ListIndexNeg
import PyProof.WalksPairs
import PyProof.Rows.SortStrRead
import Wide.BytesRules
import KE.BytesMake
import KE.KBytesWalk
import KE.KFromBytes
import KE.KSetAt
import KE.KSuperObj
import Lean
import PySem.Challenge.RW_if0027_01
set_option Elab.async false
set_option linter.all false
set_option rowWalk.seconds 0
set_option genInjectivity false
set_option genSizeOf false
set_option maxHeartbeats 40000000
set_option compiler.extract_closed false
open PySem PySem.W PyProof.Rows PySem.Calls
section
namespace Mine
theorem obA {p0 : Prop} {p1 : Prop} {G : Prop} (h : p0 ∧ p1) (k : p0 → p1 → G) : G := by
  obtain ⟨x0,x1⟩:=h
  exact k x0 x1
theorem obE {a0 : Type} {p1 : a0 → Prop} {G : Prop} (h : ∃ v0 : a0,p1 v0) (k : ∀ v0 : a0,p1 v0 → G) : G := by
  obtain ⟨x0,x1⟩:=h
  exact k x0 x1
theorem obAA {p0 : Prop} {p1 : Prop} {p2 : Prop} {G : Prop} (h : p0 ∧ p1 ∧ p2) (k : p0 → p1 → p2 → G) : G := by
  obtain ⟨x0,x1,x2⟩:=h
  exact k x0 x1 x2
theorem obAE {p0 : Prop} {a1 : Type} {p2 : a1 → Prop} {G : Prop} (h : p0 ∧ ∃ v1 : a1,p2 v1) (k : p0 → ∀ v1 : a1,p2 v1 → G) : G := by
  obtain ⟨x0,x1,x2⟩:=h
  exact k x0 x1 x2
theorem obEA {a0 : Type} {p1 : a0 → Prop} {p2 : a0 → Prop} {G : Prop} (h : ∃ v0 : a0,p1 v0 ∧ p2 v0) (k : ∀ v0 : a0,p1 v0 → p2 v0 → G) : G := by
  obtain ⟨x0,x1,x2⟩:=h
  exact k x0 x1 x2
theorem obEE {a0 : Type} {a1 : Type} {p2 : a0 → a1 → Prop} {G : Prop} (h : ∃ v0 : a0,∃ v1 : a1,p2 v0 v1) (k : ∀ v0 : a0,∀ v1 : a1,p2 v0 v1 → G) : G := by
  obtain ⟨x0,x1,x2⟩:=h
  exact k x0 x1 x2
theorem obAAA {p0 : Prop} {p1 : Prop} {p2 : Prop} {p3 : Prop} {G : Prop} (h : p0 ∧ p1 ∧ p2 ∧ p3) (k : p0 → p1 → p2 → p3 → G) : G := by
  obtain ⟨x0,x1,x2,x3⟩:=h
  exact k x0 x1 x2 x3
theorem obAEA {p0 : Prop} {a1 : Type} {p2 : a1 → Prop} {p3 : a1 → Prop} {G : Prop} (h : p0 ∧ ∃ v1 : a1,p2 v1 ∧ p3 v1) (k : p0 → ∀ v1 : a1,p2 v1 → p3 v1 → G) : G := by
  obtain ⟨x0,x1,x2,x3⟩:=h
  exact k x0 x1 x2 x3
theorem obEAA {a0 : Type} {p1 : a0 → Prop} {p2 : a0 → Prop} {p3 : a0 → Prop} {G : Prop} (h : ∃ v0 : a0,p1 v0 ∧ p2 v0 ∧ p3 v0) (k : ∀ v0 : a0,p1 v0 → p2 v0 → p3 v0 → G) : G := by
  obtain ⟨x0,x1,x2,x3⟩:=h
  exact k x0 x1 x2 x3
theorem obEAE {a0 : Type} {p1 : a0 → Prop} {a2 : Type} {p3 : a0 → a2 → Prop} {G : Prop} (h : ∃ v0 : a0,p1 v0 ∧ ∃ v2 : a2,p3 v0 v2) (k : ∀ v0 : a0,p1 v0 → ∀ v2 : a2,p3 v0 v2 → G) : G := by
  obtain ⟨x0,x1,x2,x3⟩:=h
  exact k x0 x1 x2 x3
theorem obEEA {a0 : Type} {a1 : Type} {p2 : a0 → a1 → Prop} {p3 : a0 → a1 → Prop} {G : Prop} (h : ∃ v0 : a0,∃ v1 : a1,p2 v0 v1 ∧ p3 v0 v1) (k : ∀ v0 : a0,∀ v1 : a1,p2 v0 v1 → p3 v0 v1 → G) : G := by
  obtain ⟨x0,x1,x2,x3⟩:=h
  exact k x0 x1 x2 x3
theorem obAAAA {p0 : Prop} {p1 : Prop} {p2 : Prop} {p3 : Prop} {p4 : Prop} {G : Prop} (h : p0 ∧ p1 ∧ p2 ∧ p3 ∧ p4) (k : p0 → p1 → p2 → p3 → p4 → G) : G := by
  obtain ⟨x0,x1,x2,x3,x4⟩:=h
  exact k x0 x1 x2 x3 x4
theorem obAEEA {p0 : Prop} {a1 : Type} {a2 : Type} {p3 : a1 → a2 → Prop} {p4 : a1 → a2 → Prop} {G : Prop} (h : p0 ∧ ∃ v1 : a1,∃ v2 : a2,p3 v1 v2 ∧ p4 v1 v2) (k : p0 → ∀ v1 : a1,∀ v2 : a2,p3 v1 v2 → p4 v1 v2 → G) : G := by
  obtain ⟨x0,x1,x2,x3,x4⟩:=h
  exact k x0 x1 x2 x3 x4
theorem obEAAA {a0 : Type} {p1 : a0 → Prop} {p2 : a0 → Prop} {p3 : a0 → Prop} {p4 : a0 → Prop} {G : Prop} (h : ∃ v0 : a0,p1 v0 ∧ p2 v0 ∧ p3 v0 ∧ p4 v0) (k : ∀ v0 : a0,p1 v0 → p2 v0 → p3 v0 → p4 v0 → G) : G := by
  obtain ⟨x0,x1,x2,x3,x4⟩:=h
  exact k x0 x1 x2 x3 x4
theorem obEAAE {a0 : Type} {p1 : a0 → Prop} {p2 : a0 → Prop} {a3 : Type} {p4 : a0 → a3 → Prop} {G : Prop} (h : ∃ v0 : a0,p1 v0 ∧ p2 v0 ∧ ∃ v3 : a3,p4 v0 v3) (k : ∀ v0 : a0,p1 v0 → p2 v0 → ∀ v3 : a3,p4 v0 v3 → G) : G := by
  obtain ⟨x0,x1,x2,x3,x4⟩:=h
  exact k x0 x1 x2 x3 x4
theorem obEEAA {a0 : Type} {a1 : Type} {p2 : a0 → a1 → Prop} {p3 : a0 → a1 → Prop} {p4 : a0 → a1 → Prop} {G : Prop} (h : ∃ v0 : a0,∃ v1 : a1,p2 v0 v1 ∧ p3 v0 v1 ∧ p4 v0 v1) (k : ∀ v0 : a0,∀ v1 : a1,p2 v0 v1 → p3 v0 v1 → p4 v0 v1 → G) : G := by
  obtain ⟨x0,x1,x2,x3,x4⟩:=h
  exact k x0 x1 x2 x3 x4
theorem obEEEA {a0 : Type} {a1 : Type} {a2 : Type} {p3 : a0 → a1 → a2 → Prop} {p4 : a0 → a1 → a2 → Prop} {G : Prop} (h : ∃ v0 : a0,∃ v1 : a1,∃ v2 : a2,p3 v0 v1 v2 ∧ p4 v0 v1 v2) (k : ∀ v0 : a0,∀ v1 : a1,∀ v2 : a2,p3 v0 v1 v2 → p4 v0 v1 v2 → G) : G := by
  obtain ⟨x0,x1,x2,x3,x4⟩:=h
  exact k x0 x1 x2 x3 x4
theorem obAAAAA {p0 : Prop} {p1 : Prop} {p2 : Prop} {p3 : Prop} {p4 : Prop} {p5 : Prop} {G : Prop} (h : p0 ∧ p1 ∧ p2 ∧ p3 ∧ p4 ∧ p5) (k : p0 → p1 → p2 → p3 → p4 → p5 → G) : G := by
  obtain ⟨x0,x1,x2,x3,x4,x5⟩:=h
  exact k x0 x1 x2 x3 x4 x5
theorem obEEAAA {a0 : Type} {a1 : Type} {p2 : a0 → a1 → Prop} {p3 : a0 → a1 → Prop} {p4 : a0 → a1 → Prop} {p5 : a0 → a1 → Prop} {G : Prop} (h : ∃ v0 : a0,∃ v1 : a1,p2 v0 v1 ∧ p3 v0 v1 ∧ p4 v0 v1 ∧ p5 v0 v1) (k : ∀ v0 : a0,∀ v1 : a1,p2 v0 v1 → p3 v0 v1 → p4 v0 v1 → p5 v0 v1 → G) : G := by
  obtain ⟨x0,x1,x2,x3,x4,x5⟩:=h
  exact k x0 x1 x2 x3 x4 x5
theorem obEEEAA {a0 : Type} {a1 : Type} {a2 : Type} {p3 : a0 → a1 → a2 → Prop} {p4 : a0 → a1 → a2 → Prop} {p5 : a0 → a1 → a2 → Prop} {G : Prop} (h : ∃ v0 : a0,∃ v1 : a1,∃ v2 : a2,p3 v0 v1 v2 ∧ p4 v0 v1 v2 ∧ p5 v0 v1 v2) (k : ∀ v0 : a0,∀ v1 : a1,∀ v2 : a2,p3 v0 v1 v2 → p4 v0 v1 v2 → p5 v0 v1 v2 → G) : G := by
  obtain ⟨x0,x1,x2,x3,x4,x5⟩:=h
  exact k x0 x1 x2 x3 x4 x5
theorem obEEEAAA {a0 : Type} {a1 : Type} {a2 : Type} {p3 : a0 → a1 → a2 → Prop} {p4 : a0 → a1 → a2 → Prop} {p5 : a0 → a1 → a2 → Prop} {p6 : a0 → a1 → a2 → Prop} {G : Prop} (h : ∃ v0 : a0,∃ v1 : a1,∃ v2 : a2,p3 v0 v1 v2 ∧ p4 v0 v1 v2 ∧ p5 v0 v1 v2 ∧ p6 v0 v1 v2) (k : ∀ v0 : a0,∀ v1 : a1,∀ v2 : a2,p3 v0 v1 v2 → p4 v0 v1 v2 → p5 v0 v1 v2 → p6 v0 v1 v2 → G) : G := by
  obtain ⟨x0,x1,x2,x3,x4,x5,x6⟩:=h
  exact k x0 x1 x2 x3 x4 x5 x6
theorem obAEEEAAA {p0 : Prop} {a1 : Type} {a2 : Type} {a3 : Type} {p4 : a1 → a2 → a3 → Prop} {p5 : a1 → a2 → a3 → Prop} {p6 : a1 → a2 → a3 → Prop} {p7 : a1 → a2 → a3 → Prop} {G : Prop} (h : p0 ∧ ∃ v1 : a1,∃ v2 : a2,∃ v3 : a3,p4 v1 v2 v3 ∧ p5 v1 v2 v3 ∧ p6 v1 v2 v3 ∧ p7 v1 v2 v3) (k : p0 → ∀ v1 : a1,∀ v2 : a2,∀ v3 : a3,p4 v1 v2 v3 → p5 v1 v2 v3 → p6 v1 v2 v3 → p7 v1 v2 v3 → G) : G := by
  obtain ⟨x0,x1,x2,x3,x4,x5,x6,x7⟩:=h
  exact k x0 x1 x2 x3 x4 x5 x6 x7
theorem obEEAAAAA {a0 : Type} {a1 : Type} {p2 : a0 → a1 → Prop} {p3 : a0 → a1 → Prop} {p4 : a0 → a1 → Prop} {p5 : a0 → a1 → Prop} {p6 : a0 → a1 → Prop} {p7 : a0 → a1 → Prop} {G : Prop} (h : ∃ v0 : a0,∃ v1 : a1,p2 v0 v1 ∧ p3 v0 v1 ∧ p4 v0 v1 ∧ p5 v0 v1 ∧ p6 v0 v1 ∧ p7 v0 v1) (k : ∀ v0 : a0,∀ v1 : a1,p2 v0 v1 → p3 v0 v1 → p4 v0 v1 → p5 v0 v1 → p6 v0 v1 → p7 v0 v1 → G) : G := by
  obtain ⟨x0,x1,x2,x3,x4,x5,x6,x7⟩:=h
  exact k x0 x1 x2 x3 x4 x5 x6 x7
theorem obEEEEAAA {a0 : Type} {a1 : Type} {a2 : Type} {a3 : Type} {p4 : a0 → a1 → a2 → a3 → Prop} {p5 : a0 → a1 → a2 → a3 → Prop} {p6 : a0 → a1 → a2 → a3 → Prop} {p7 : a0 → a1 → a2 → a3 → Prop} {G : Prop} (h : ∃ v0 : a0,∃ v1 : a1,∃ v2 : a2,∃ v3 : a3,p4 v0 v1 v2 v3 ∧ p5 v0 v1 v2 v3 ∧ p6 v0 v1 v2 v3 ∧ p7 v0 v1 v2 v3) (k : ∀ v0 : a0,∀ v1 : a1,∀ v2 : a2,∀ v3 : a3,p4 v0 v1 v2 v3 → p5 v0 v1 v2 v3 → p6 v0 v1 v2 v3 → p7 v0 v1 v2 v3 → G) : G := by
  obtain ⟨x0,x1,x2,x3,x4,x5,x6,x7⟩:=h
  exact k x0 x1 x2 x3 x4 x5 x6 x7
theorem obEEEEEEE {a0 : Type} {a1 : Type} {a2 : Type} {a3 : Type} {a4 : Type} {a5 : Type} {a6 : Type} {p7 : a0 → a1 → a2 → a3 → a4 → a5 → a6 → Prop} {G : Prop} (h : ∃ v0 : a0,∃ v1 : a1,∃ v2 : a2,∃ v3 : a3,∃ v4 : a4,∃ v5 : a5,∃ v6 : a6,p7 v0 v1 v2 v3 v4 v5 v6) (k : ∀ v0 : a0,∀ v1 : a1,∀ v2 : a2,∀ v3 : a3,∀ v4 : a4,∀ v5 : a5,∀ v6 : a6,p7 v0 v1 v2 v3 v4 v5 v6 → G) : G := by
  obtain ⟨x0,x1,x2,x3,x4,x5,x6,x7⟩:=h
  exact k x0 x1 x2 x3 x4 x5 x6 x7
theorem obAAAAAAAA {p0 : Prop} {p1 : Prop} {p2 : Prop} {p3 : Prop} {p4 : Prop} {p5 : Prop} {p6 : Prop} {p7 : Prop} {p8 : Prop} {G : Prop} (h : p0 ∧ p1 ∧ p2 ∧ p3 ∧ p4 ∧ p5 ∧ p6 ∧ p7 ∧ p8) (k : p0 → p1 → p2 → p3 → p4 → p5 → p6 → p7 → p8 → G) : G := by
  obtain ⟨x0,x1,x2,x3,x4,x5,x6,x7,x8⟩:=h
  exact k x0 x1 x2 x3 x4 x5 x6 x7 x8
theorem obEAAEAAAAA {a0 : Type} {p1 : a0 → Prop} {p2 : a0 → Prop} {a3 : Type} {p4 : a0 → a3 → Prop} {p5 : a0 → a3 → Prop} {p6 : a0 → a3 → Prop} {p7 : a0 → a3 → Prop} {p8 : a0 → a3 → Prop} {p9 : a0 → a3 → Prop} {G : Prop} (h : ∃ v0 : a0,p1 v0 ∧ p2 v0 ∧ ∃ v3 : a3,p4 v0 v3 ∧ p5 v0 v3 ∧ p6 v0 v3 ∧ p7 v0 v3 ∧ p8 v0 v3 ∧ p9 v0 v3) (k : ∀ v0 : a0,p1 v0 → p2 v0 → ∀ v3 : a3,p4 v0 v3 → p5 v0 v3 → p6 v0 v3 → p7 v0 v3 → p8 v0 v3 → p9 v0 v3 → G) : G := by
  obtain ⟨x0,x1,x2,x3,x4,x5,x6,x7,x8,x9⟩:=h
  exact k x0 x1 x2 x3 x4 x5 x6 x7 x8 x9
theorem obEEEEAAAAA {a0 : Type} {a1 : Type} {a2 : Type} {a3 : Type} {p4 : a0 → a1 → a2 → a3 → Prop} {p5 : a0 → a1 → a2 → a3 → Prop} {p6 : a0 → a1 → a2 → a3 → Prop} {p7 : a0 → a1 → a2 → a3 → Prop} {p8 : a0 → a1 → a2 → a3 → Prop} {p9 : a0 → a1 → a2 → a3 → Prop} {G : Prop} (h : ∃ v0 : a0,∃ v1 : a1,∃ v2 : a2,∃ v3 : a3,p4 v0 v1 v2 v3 ∧ p5 v0 v1 v2 v3 ∧ p6 v0 v1 v2 v3 ∧ p7 v0 v1 v2 v3 ∧ p8 v0 v1 v2 v3 ∧ p9 v0 v1 v2 v3) (k : ∀ v0 : a0,∀ v1 : a1,∀ v2 : a2,∀ v3 : a3,p4 v0 v1 v2 v3 → p5 v0 v1 v2 v3 → p6 v0 v1 v2 v3 → p7 v0 v1 v2 v3 → p8 v0 v1 v2 v3 → p9 v0 v1 v2 v3 → G) : G := by
  obtain ⟨x0,x1,x2,x3,x4,x5,x6,x7,x8,x9⟩:=h
  exact k x0 x1 x2 x3 x4 x5 x6 x7 x8 x9
theorem obAAAEEEEAAAA {p0 : Prop} {p1 : Prop} {p2 : Prop} {a3 : Type} {a4 : Type} {a5 : Type} {a6 : Type} {p7 : a3 → a4 → a5 → a6 → Prop} {p8 : a3 → a4 → a5 → a6 → Prop} {p9 : a3 → a4 → a5 → a6 → Prop} {p10 : a3 → a4 → a5 → a6 → Prop} {p11 : a3 → a4 → a5 → a6 → Prop} {G : Prop} (h : p0 ∧ p1 ∧ p2 ∧ ∃ v3 : a3,∃ v4 : a4,∃ v5 : a5,∃ v6 : a6,p7 v3 v4 v5 v6 ∧ p8 v3 v4 v5 v6 ∧ p9 v3 v4 v5 v6 ∧ p10 v3 v4 v5 v6 ∧ p11 v3 v4 v5 v6) (k : p0 → p1 → p2 → ∀ v3 : a3,∀ v4 : a4,∀ v5 : a5,∀ v6 : a6,p7 v3 v4 v5 v6 → p8 v3 v4 v5 v6 → p9 v3 v4 v5 v6 → p10 v3 v4 v5 v6 → p11 v3 v4 v5 v6 → G) : G := by
  obtain ⟨x0,x1,x2,x3,x4,x5,x6,x7,x8,x9,x10,x11⟩:=h
  exact k x0 x1 x2 x3 x4 x5 x6 x7 x8 x9 x10 x11
theorem obEEEEEEEAAAA {a0 : Type} {a1 : Type} {a2 : Type} {a3 : Type} {a4 : Type} {a5 : Type} {a6 : Type} {p7 : a0 → a1 → a2 → a3 → a4 → a5 → a6 → Prop} {p8 : a0 → a1 → a2 → a3 → a4 → a5 → a6 → Prop} {p9 : a0 → a1 → a2 → a3 → a4 → a5 → a6 → Prop} {p10 : a0 → a1 → a2 → a3 → a4 → a5 → a6 → Prop} {p11 : a0 → a1 → a2 → a3 → a4 → a5 → a6 → Prop} {G : Prop} (h : ∃ v0 : a0,∃ v1 : a1,∃ v2 : a2,∃ v3 : a3,∃ v4 : a4,∃ v5 : a5,∃ v6 : a6,p7 v0 v1 v2 v3 v4 v5 v6 ∧ p8 v0 v1 v2 v3 v4 v5 v6 ∧ p9 v0 v1 v2 v3 v4 v5 v6 ∧ p10 v0 v1 v2 v3 v4 v5 v6 ∧ p11 v0 v1 v2 v3 v4 v5 v6) (k : ∀ v0 : a0,∀ v1 : a1,∀ v2 : a2,∀ v3 : a3,∀ v4 : a4,∀ v5 : a5,∀ v6 : a6,p7 v0 v1 v2 v3 v4 v5 v6 → p8 v0 v1 v2 v3 v4 v5 v6 → p9 v0 v1 v2 v3 v4 v5 v6 → p10 v0 v1 v2 v3 v4 v5 v6 → p11 v0 v1 v2 v3 v4 v5 v6 → G) : G := by
  obtain ⟨x0,x1,x2,x3,x4,x5,x6,x7,x8,x9,x10,x11⟩:=h
  exact k x0 x1 x2 x3 x4 x5 x6 x7 x8 x9 x10 x11
theorem obEEEEEEAAAAAA {a0 : Type} {a1 : Type} {a2 : Type} {a3 : Type} {a4 : Type} {a5 : Type} {p6 : a0 → a1 → a2 → a3 → a4 → a5 → Prop} {p7 : a0 → a1 → a2 → a3 → a4 → a5 → Prop} {p8 : a0 → a1 → a2 → a3 → a4 → a5 → Prop} {p9 : a0 → a1 → a2 → a3 → a4 → a5 → Prop} {p10 : a0 → a1 → a2 → a3 → a4 → a5 → Prop} {p11 : a0 → a1 → a2 → a3 → a4 → a5 → Prop} {p12 : a0 → a1 → a2 → a3 → a4 → a5 → Prop} {G : Prop} (h : ∃ v0 : a0,∃ v1 : a1,∃ v2 : a2,∃ v3 : a3,∃ v4 : a4,∃ v5 : a5,p6 v0 v1 v2 v3 v4 v5 ∧ p7 v0 v1 v2 v3 v4 v5 ∧ p8 v0 v1 v2 v3 v4 v5 ∧ p9 v0 v1 v2 v3 v4 v5 ∧ p10 v0 v1 v2 v3 v4 v5 ∧ p11 v0 v1 v2 v3 v4 v5 ∧ p12 v0 v1 v2 v3 v4 v5) (k : ∀ v0 : a0,∀ v1 : a1,∀ v2 : a2,∀ v3 : a3,∀ v4 : a4,∀ v5 : a5,p6 v0 v1 v2 v3 v4 v5 → p7 v0 v1 v2 v3 v4 v5 → p8 v0 v1 v2 v3 v4 v5 → p9 v0 v1 v2 v3 v4 v5 → p10 v0 v1 v2 v3 v4 v5 → p11 v0 v1 v2 v3 v4 v5 → p12 v0 v1 v2 v3 v4 v5 → G) : G := by
  obtain ⟨x0,x1,x2,x3,x4,x5,x6,x7,x8,x9,x10,x11,x12⟩:=h
  exact k x0 x1 x2 x3 x4 x5 x6 x7 x8 x9 x10 x11 x12
theorem obEEEEEEEAAAAAAAA {a0 : Type} {a1 : Type} {a2 : Type} {a3 : Type} {a4 : Type} {a5 : Type} {a6 : Type} {p7 : a0 → a1 → a2 → a3 → a4 → a5 → a6 → Prop} {p8 : a0 → a1 → a2 → a3 → a4 → a5 → a6 → Prop} {p9 : a0 → a1 → a2 → a3 → a4 → a5 → a6 → Prop} {p10 : a0 → a1 → a2 → a3 → a4 → a5 → a6 → Prop} {p11 : a0 → a1 → a2 → a3 → a4 → a5 → a6 → Prop} {p12 : a0 → a1 → a2 → a3 → a4 → a5 → a6 → Prop} {p13 : a0 → a1 → a2 → a3 → a4 → a5 → a6 → Prop} {p14 : a0 → a1 → a2 → a3 → a4 → a5 → a6 → Prop} {p15 : a0 → a1 → a2 → a3 → a4 → a5 → a6 → Prop} {G : Prop} (h : ∃ v0 : a0,∃ v1 : a1,∃ v2 : a2,∃ v3 : a3,∃ v4 : a4,∃ v5 : a5,∃ v6 : a6,p7 v0 v1 v2 v3 v4 v5 v6 ∧ p8 v0 v1 v2 v3 v4 v5 v6 ∧ p9 v0 v1 v2 v3 v4 v5 v6 ∧ p10 v0 v1 v2 v3 v4 v5 v6 ∧ p11 v0 v1 v2 v3 v4 v5 v6 ∧ p12 v0 v1 v2 v3 v4 v5 v6 ∧ p13 v0 v1 v2 v3 v4 v5 v6 ∧ p14 v0 v1 v2 v3 v4 v5 v6 ∧ p15 v0 v1 v2 v3 v4 v5 v6) (k : ∀ v0 : a0,∀ v1 : a1,∀ v2 : a2,∀ v3 : a3,∀ v4 : a4,∀ v5 : a5,∀ v6 : a6,p7 v0 v1 v2 v3 v4 v5 v6 → p8 v0 v1 v2 v3 v4 v5 v6 → p9 v0 v1 v2 v3 v4 v5 v6 → p10 v0 v1 v2 v3 v4 v5 v6 → p11 v0 v1 v2 v3 v4 v5 v6 → p12 v0 v1 v2 v3 v4 v5 v6 → p13 v0 v1 v2 v3 v4 v5 v6 → p14 v0 v1 v2 v3 v4 v5 v6 → p15 v0 v1 v2 v3 v4 v5 v6 → G) : G := by
  obtain ⟨x0,x1,x2,x3,x4,x5,x6,x7,x8,x9,x10,x11,x12,x13,x14,x15⟩:=h
  exact k x0 x1 x2 x3 x4 x5 x6 x7 x8 x9 x10 x11 x12 x13 x14 x15
end Mine
end
section
namespace Mine
noncomputable def holdIds : List String := "bytearray.__contains__" :: "bytearray.__mod__" :: "bytearray.__rmod__" :: "_struct.pack_into.held" :: "bytearray.find.held" :: Builtin.Bytes.decodersThatHold
noncomputable def okC : Code → Bool
  | .builtin id _=>!holdIds.contains id
  | _=>true
noncomputable def Clean (l : List (Code × Pos)) : Prop := ∀ x ∈ l,okC x.1 = true
noncomputable def wpD {α : Type} (M : Model) (A : Around) (t : Sem α) (Q : α → Shared → Prop) (E : Value → Shared → Prop) (s : Shared) : Prop :=
  ∀ Γ p,Γ.In A → okC Γ.code = true → Clean Γ.below → Sem.wp M Γ t (fun a _ s'=>Q a s') (fun e _ s'=>E e s') p s
theorem D_bare {M : Model} {t : Sem Fin} {R : Result → Shared → Prop} {s : Shared}
    (h:wpD M callerA t (fun fin s'=>∃ f,fin = .done f ∧ R (.ok f) s') (fun e s'=>R (.error e) s') s) :
    Sem.wp M ⟨.builtin "claim.caller" {},none,none,[],none⟩ t (Sem.finPost M ⟨.builtin "claim.caller" {},none,none,[],none⟩ R) (fun e _ s'=>R (.error e) s') default s:=by
  refine Sem.wp_mono M _ t (fun fin p' s' h'=>?_) (fun _ _ _ h'=>h') default s (h _ default caller_in (by decide +kernel) fun _ h=>nomatch h)
  refine obEA h' ?_;clear h';intro f oR1 hf;subst oR1
  exact hf
theorem callFrom_D {c : ClaimW} {tree : List Value → Sem Fin} {w : World} {s : Shared} {free : Addr → Prop} {gens : Prop} {kept : Heap → Prop} (hz : s.asleep) (hgens : s.gens = #[])
    (hspec : ∀ args,c.pre args = true → WData.layableAll args = true → ∀ ord : List DictEntry → List DictEntry,(∀ l,(ord l).Perm l) →
      ∃ vs s₁, layAllW c.records (classAt s.heap) w.params ord args s = some (vs, s₁) ∧
        wpD (model c.prog w) callerA (tree vs) (fun fin s'=>∃ f,fin = .done f ∧ (c.Ends s args vs s₁ (.ok f) s' ∧ s'.os = s.os ∧ AllBare s'.gens ∧ kept s'.heap))
          (fun e s'=>c.Ends s args vs s₁ (.error e) s' ∧ s'.os = s.os ∧ AllBare s'.gens ∧ kept s'.heap) s₁) :
    c.CallFrom (fun vs=>⟨tree vs,.builtin "claim.caller" {},default,[]⟩) w free gens kept s:=by
  intro args hpre hlay ord hord
  refine Classical.byContradiction fun NG=>?_
  refine obEEA (hspec args hpre hlay ord hord) ?_;intro vs s₁ hlaid hcode
  refine obAAA (layAllW_rest _ _ _ hlaid) ?_;intro hl1 oC1 oC2 hl4;clear oC1;clear oC2
  have hwp:=D_bare (R:=fun r s'=>(c.Ends s args vs s₁ r s' ∧ s'.os = s.os ∧ kept s'.heap) ∧ leftWithCleanup s'.gens = false) (s:=s₁) (t:=tree vs) fun Γ p h1 h2 h3=>
    Sem.wp_mono _ Γ _ (fun fin _ s' ⟨f,e,a,b,d,k⟩=>⟨f,e,⟨a,b,k⟩,leftWithCleanup_false_of_bare d⟩) (fun _ _ s' ⟨a,b,d,k⟩=>⟨⟨a,b,k⟩,leftWithCleanup_false_of_bare d⟩) p s₁ (hcode Γ p h1 h2 h3)
  refine obEEEEAAAAA (wp_halts_full (M:=model c.prog w) (R:=fun r s'=>c.Ends s args vs s₁ r s' ∧ s'.os = s.os ∧ kept s'.heap) (Shared.asleep_of_life hl4 hz) hwp) ?_;intro k r s'' s' hsched hrun hfo hcase hos hkp
  refine obAAAA (Shared.forget_eq hfo) ?_;intro eh _ _ eo _
  have hcase2:=hcase.congr eh
  have hkp2 : kept s'.heap:=eh ▸ hkp
  refine NG ?_
  clear NG
  refine ⟨vs,s₁,hlaid,k,_,s',hsched,?_,(fun _ i x hx=>?_),hkp2,?_,Shared.rest_eq (eo.trans hos)⟩
  · refine Classical.byContradiction fun NG => ?_
    rcases hcase2 with ⟨v,rfl,d1,d2,d3,d4,d5⟩ | ⟨e,ob,cls,rfl,d1,d2,d3,d4,d5⟩
    · exact NG (.inl ⟨v,rfl,d1,d2,d3,fun b o y _=>d4 b o y,d5⟩)
    · exact NG (.inr ⟨e,ob,cls,rfl,d1,d2,d3,d4,fun b o y _=>d5 b o y⟩)
  · rw [hgens] at hx;simp at hx
  · have := (runN_life _ _ _ hrun).trans hl4
    rw [this]
end Mine
end
section
open PySem PySem.W PyProof.Rows PySem.Calls PySem.Spec
namespace Mine
noncomputable abbrev WalkD (q : Program) (loose : List Str) (XP : (Str → Option Value) → Heap → Prop) (YP : World → Heap → Prop) (r : RowW) (d : DefRec) (kwd : List (Str × PySem.Expr)) : Prop :=
  ∀ (w : World) (s₀ s₁ : Shared) (mg mb : Str → Option Value), Ground q loose r.records XP w s₀ mg mb s₁.heap → YP w s₁.heap → ∀ (a : Addr) (o : Obj) (pm cd doc dV kV : Value), s₁.heap.get? a = some o →
    o.data = .func { docDef d.name d.params d.body d.scope pm cd doc with defaults:=dV,kwdefaults:=kV } → s₁.heap.CodeRec cd d.name → Dflts mg s₁.heap d.params kwd dV kV → mg d.name = some (.ref a) → s₁.gens = #[] →
    ∀ (args : List WData) (vals : List Value) (as : List Addr), r.claim.pre args = true → WData.layableAll args = true → ReadsAllW r.records (classAt s₀.heap) s₁.heap vals args as → WellAll w.params s₁.heap vals args → (∀ a ∈ as, (a == sysModules) = false) →
      wpD (model r.prog w) callerA (PySem.call (.ref a) vals) (fun v s'=>GoodWG r.claim (classAt s₀.heap) (ExcName.means s₀.heap) args s₁ (.ok (.ret v)) s')
        (fun e s'=>GoodWG r.claim (classAt s₀.heap) (ExcName.means s₀.heap) args s₁ (.error e) s') s₁
noncomputable def callTree (n : Str) (vs : List Value) : Sem Fin := do
  match ← nsGet mainNs n with
  | some f=>do ret (← PySem.call f vs)
  | none=>unsupported "claim.caller:no-such-global"
theorem D_tree {M : Model} {n : Str} {vs : List Value} {s : Shared} {mg : Str → Option Value} {f : Value} {Q : Fin → Shared → Prop} {E : Value → Shared → Prop} (hg : s.heap.Ns mainGlobals mg) (hf : mg n = some f)
    (h:wpD M callerA (PySem.call f vs) (fun v s'=>Q (.done (.ret v)) s') E s) : wpD M callerA (callTree n vs) Q E s:=fun Γ p h1 h2 h3=>by
  unfold callTree
  rw [Sem.wp_bind']
  refine Sem.wp_mono M Γ _ (fun v p' s' hv=>?_) (fun _ _ _ x=>x) p s (wpAny_nsGet (A:=callerA) (E:=E) (Q:=fun v s'=>v = some f ∧ s' = s) hg ⟨hf,rfl⟩ Γ p h1)
  refine obA hv ?_;clear hv;intro oR0 oR1;subst oR0;subst oR1
  show Sem.wp M Γ (PySem.call f vs >>= fun v=>ret v) _ _ p' s'
  rw [Sem.wp_bind']
  exact Sem.wp_mono M Γ _ (fun v _ s' hv=>hv) (fun _ _ _ x=>x) p' s' (h Γ p' h1 h2 h3)
theorem holds_openE {r : OpenRow} {q : Program} {loose : List Str} {Xt : Shared → Bool} {XP : (Str → Option Value) → Heap → Prop} {α : Type} {Yf : Shared → α} {Ya : World → α} {YP : World → Heap → Prop} {d : DefRec} {kwd : List (Str × PySem.Expr)} {N : Nat}
    (hY : ∀ w s,Yf s = Ya w → YP w s.heap) (hYk : ∀ w h h',YP w h → (∀ b o,h.get? b = some o → h'.get? b = some o) → YP w h')
    (hX : ∀ s,Xt s = true → XP (s.heap.nsMap mainGlobals) s.heap) (hXk : ∀ mg h h',XP mg h → (∀ b o,h.get? b = some o → h'.get? b = some o) → XP mg h')
    (hdef : defOf q r.name = some (d,kwd)) (hp : r.prog.theDef r.name = some (d.params,d.body,d.scope)) (hk : kwWritten? d.params.kwonlyargs d.params.kw_defaults = some kwd) (hRf : ∀ s,Xt s = true → RecFacts r.records s.heap) (hwr : (!r.writes || r.records.isEmpty) = true)
    (k1 : r.wellSaid = true) (ok : (chainsOk q && opensWell r.prog && (frees r.toRowW && r.within.isEmpty)) = true) (hb : r.prog.bare) (hw : r.toRowW.promised)
    (both : LeftO r.prog q loose Xt Yf Ya N ∧ WalkD q loose XP YP r.toRowW d kwd) : r.Holds:=by
  refine obA both ?_;clear both;intro left walk
  refine obA (Bool.and_eq_true_iff.mp ok) ?_;intro ok1 ok2
  refine obA (Bool.and_eq_true_iff.mp ok1) ?_;intro hch hop
  refine obA (Bool.and_eq_true_iff.mp ok2) ?_;intro hfr hwi
  refine obAAAA (frees_parts hfr) ?_;intro hsame hu ha hap hm
  refine ⟨k1,hw,⟨⟨hb,hop,by show r.toRowW.makers.map _ = [];rw [hm];rfl⟩,hw.witness,fun w=>⟨(left.behind hX hch w).1,fun sx hsx=>?_⟩⟩⟩
  refine obEAAEAAAAA ((left.behind (XP:=fun mg h=>XP mg h ∧ RecFacts r.records h) (fun s hs=>⟨hX s hs,hRf s hs⟩) hch w).2 sx hsx) ?_;intro s₀ hf hg0 s hT hz hgens hg GG hy
  have RF:=GG.X.2
  have G0 : Ground q loose [] XP w s (s.heap.nsMap mainGlobals) (s.heap.nsMap builtinsNs) s.heap:={ GG with X:=GG.X.1 }
  have hgens0 : s.gens = #[]:=Array.eq_empty_of_size_eq_zero (beq_iff_eq.mp hgens)
  have G : Ground q loose r.records XP w s _ _ s.heap:=RF.ground G0
  refine ⟨s₀,hf,hg0,s,hT,fun n hn=>?_,RF.1,RF.2.1,?_⟩
  · obtain rfl : n = r.name := by split at hn <;> simp_all
    exact pinned_of_view hg G0 hdef hp hk
  refine callFrom_D (c:=r.toRowW.claim) (tree:=callTree r.name) hz hgens0 fun args hpre hlay ord hord=>?_
  refine obE (Option.isSome_iff_exists.mp (layAllW_isSome (P:=w.params) (ord:=ord) G.has args r.toRowW.args s (pre_splitW hpre).1)) ?_;intro oN0 hlaid;obtain ⟨vs,s₁⟩:=oN0
  have hk1:=layAllW_keeps _ _ _ hlaid
  have hk2:=layAllW_rest _ _ _ hlaid
  refine obEAA (reads_layAllW hord _ _ _ hlaid hlay s₁.heap (fun _ _ e=>e)) ?_;intro as hrd hin hold
  have L : Laid r.records w s s₁ args vs as:=⟨⟨ord,hord,hlaid⟩,hrd,hin,hold,hk1,hk2.1.trans hgens0,hk2.2.2.1⟩
  have G₁:=G.keeps hXk hk1
  refine obEEEEEEEAAAA (G₁.fn hdef) ?_;intro a o pm cd doc dV kV h1 h2 h3 h4 h5
  have hcall:=walk w s s₁ _ _ G₁ (hYk _ _ _ (hY w s hy) hk1) a o pm cd doc dV kV h2 h3 h4 h5 (defOf_name hdef ▸ h1) L.gens args vs as hpre hlay L.reads L.well (L.low G.low)
  have hi:=ident_freeW hu ha hap
  have hwi' : r.toRowW.claim.within = []:=List.isEmpty_iff.mp hwi
  have fin : ∀ res s',GoodWG r.toRowW.claim (classAt s.heap) (ExcName.means s.heap) args s₁ res s' → _:=fun res s' g=>g.laid (c:=r.toRowW.claim) hsame hwi' hi L
  exact ⟨vs,s₁,hlaid,D_tree G₁.T.g h1 fun Γ p q1 q2 q3=>Sem.wp_mono _ Γ _
    (fun v _ s' g=>⟨_,rfl,(fin _ _ g).1,(fin _ _ g).2.1,(fin _ _ g).2.2,fun q=>⟨namesKept_of hT hg _ hk1 g.2.1.old,noTable hwr q⟩⟩)
    (fun e _ s' g=>⟨(fin _ _ g).1,(fin _ _ g).2.1,(fin _ _ g).2.2,fun q=>⟨namesKept_of hT hg _ hk1 g.2.1.old,noTable hwr q⟩⟩) p s₁ (hcall Γ p q1 q2 q3)⟩
end Mine
namespace Mine
theorem map_both {α β γ : Type} {o : Option α} {f : α → β} {g : α → γ} {b : β} {c : γ} (h1 : o.map f = some b) (h2 : o.map g = some c) : o.map (fun s=>(f s,g s)) = some (b,c) := by
  cases o with
  | none=>cases h1
  | some a=>cases h1;cases h2;rfl
theorem left_rows {p q : Program} {loose : List Str} {Xt : Shared → Bool} {α : Type} {Yf : Shared → α} {Ya : World → α} {N : Nat} {g0 : Bool} (row : String)
    (h : ∀ (b:Bool) (w:World),(fencedOpening treeTable p w N).map (fun s₀=>(topFrom treeTable p (w.withFollow row b) N s₀).map (fun s=>(openSeen q loose (importedModules p.main.body) Xt g0 s,Yf s))) = some (some (openGood q loose,Ya (w.withFollow row b)))) :
    LeftO p q loose Xt Yf Ya N g0:=LeftO.of_split row fun w=>map_both (h false w) (h true w)
end Mine
end
section
open PySem PySem.W PyProof.Rows
namespace Mine
noncomputable abbrev Lz4 : List Str := [Str.ofString "_twin_re_1",Str.ofString "_namespace_map",Str.ofString "_looks_like_prefix_name",Str.ofString "C14NWriterTarget"]
noncomputable def viewBody (l : List Stmt) : List Stmt := [0,1,3,4,5,6,7,8,9,11,13,14,16,18,19,20,21,22,23,24,25,26,27].filterMap fun i=>l[i]?
noncomputable def view : Program := { PySem.Challenge.rw_if0027_01.row.prog with main := { PySem.Challenge.rw_if0027_01.row.prog.main with body := viewBody PySem.Challenge.rw_if0027_01.row.prog.main.body } }
set_option maxRecDepth 1000000 in
theorem said : PySem.Challenge.rw_if0027_01.wellSaid = true := by rw [PySem.W.Fast.te9446332074065402090];kernel_rfl
set_option maxRecDepth 1000000 in
theorem headOf (H : Hook) {d : DefRec} {kwd : List (Str × PySem.Expr)} (hh : defOf Mine.view PySem.Challenge.rw_if0027_01.row.name = some (d,kwd) ∧ PySem.Challenge.rw_if0027_01.row.prog.theDef PySem.Challenge.rw_if0027_01.row.name = some (d.params,d.body,d.scope) ∧ kwWritten? d.params.kwonlyargs d.params.kw_defaults = some kwd) (k1 : PySem.Challenge.rw_if0027_01.row.wellSaid = true) (hw : PySem.Challenge.rw_if0027_01.row.toRowW.promised)
    (hc : LeftO PySem.Challenge.rw_if0027_01.row.prog Mine.view Lz4 (fun s=>xlAt Mine.view [] s && recOk (RowW.records PySem.Challenge.rw_if0027_01.row.toRowW) s) (Hook.obs H) (Hook.val H) 4146 ∧ WalkD Mine.view Lz4 (XL Mine.view []) (Hook.says H) PySem.Challenge.rw_if0027_01.row.toRowW d kwd) : PySem.Challenge.rw_if0027_01.row.Holds:=
  Mine.holds_openE (Hook.of H) (Hook.keeps H) (fun s e=>xl_of s (Bool.and_eq_true_iff.mp e).1) XL.keeps hh.1 hh.2.1 hh.2.2 (fun s e=>recFacts_of (Bool.and_eq_true_iff.mp e).2) (by rfl) k1 (by decide +kernel) ⟨rfl,rfl,rfl,rfl,rfl,by decide +kernel⟩ hw hc
local macro_rules | `(tactic| o_law) => `(tactic| refine holds_law Mine.said fun said => ?_)
local macro_rules | `(tactic| o_head $H) => `(tactic| refine Mine.headOf $H ⟨rfl, rfl, rfl⟩ (by assumption) ?hw ?hc)
set_option maxRecDepth 1000000 in
set_option maxHeartbeats 0 in
open_top hd for PySem.Challenge.rw_if0027_01
noncomputable def asL : List Addr := [2,3,32,34,35,37,38,42,43,44,45,47,48,50,51,52,60,61,63,64,66,67,68,69,71,72,74,75,76,78,79,81,82,83,84,86,87,89,90,91,93,94,96,97,98,99,100,102,103,105,106,107,109,110,112,113,114,116,117,119,120,121,122,125,126,127,129,130,132,133,134,136,137,139,140,141,143,144,146,147,148,149,150,151,152,155,157,158,160,161,162,164,165,167,168,176,178,179,181,182,183,185,186,188,189,190,192,193,195,196,197,199,200,202,203,204,205,206,207,208,218,220,221,223,224,225,227,228,230,231,232,233,234,235,236,239,241,242,244,245,246,248,249,251,252,253,255,256,258,259,260,262,263,265,266,267,269,270,272,273,274,276,277,279,280,281,283,284,286,287,288,290,291,293,294,295,297,298,300,301,302,305,306,307,309,310,312,313,314,317,318]
theorem asOk : ∀ P,asL = (Mine.hd.heap_1 P).map (·.1) := fun P=>by kernel_rfl
noncomputable abbrev HK : Hook := kmHook Mine.hd.heap_1 asL asOk [289,123]
noncomputable abbrev rowX : Shared → Bool := fun s=>xlAt Mine.view [] s && recOk (RowW.records PySem.Challenge.rw_if0027_01.row.toRowW) s
set_option maxRecDepth 1000000 in
theorem row_f (w : World) : (fencedOpening treeTable PySem.Challenge.rw_if0027_01.row.prog w 4146).map (fun s₀=>(topFrom treeTable PySem.Challenge.rw_if0027_01.row.prog (w.withFollow "special-get-raises" false) 4146 s₀).map (fun s=>(openSeen Mine.view Lz4 (importedModules PySem.Challenge.rw_if0027_01.row.prog.main.body) rowX true s,(Hook.obs HK) s))) = some (some (openGood Mine.view Lz4,(Hook.val HK) (w.withFollow "special-get-raises" false))) := by
  unfold fencedOpening topFrom
  rw [PySem.W.Fast.te10274390034422433532,PySem.W.Fast.te14082659384304107361,PySem.W.Fast.te14364793385576792824,PySem.W.Fast.te1435165496053646825,PySem.W.Fast.te14289696077712309145,PySem.W.Fast.te4187177175401517315]
  kernel_rfl
set_option maxRecDepth 1000000 in
theorem row_t (w : World) : (fencedOpening treeTable PySem.Challenge.rw_if0027_01.row.prog w 4146).map (fun s₀=>(topFrom treeTable PySem.Challenge.rw_if0027_01.row.prog (w.withFollow "special-get-raises" true) 4146 s₀).map (fun s=>(openSeen Mine.view Lz4 (importedModules PySem.Challenge.rw_if0027_01.row.prog.main.body) rowX true s,(Hook.obs HK) s))) = some (some (openGood Mine.view Lz4,(Hook.val HK) (w.withFollow "special-get-raises" true))) := by
  unfold fencedOpening topFrom
  rw [PySem.W.Fast.te10274390034422433532,PySem.W.Fast.te14082659384304107361,PySem.W.Fast.te14364793385576792824,PySem.W.Fast.te1435165496053646825,PySem.W.Fast.te14289696077712309145,PySem.W.Fast.te4187177175401517315]
  kernel_rfl
theorem leftH : LeftO PySem.Challenge.rw_if0027_01.row.prog Mine.view Lz4 rowX (Hook.obs HK) (Hook.val HK) 4146 := left_rows "special-get-raises" fun b w=>by
  cases b
  · exact row_f w
  · exact row_t w
end Mine
end
namespace Mine
theorem topOff : True := by
  w_top off
  trivial
local macro_rules | `(tactic| omega) => `(tactic| first | lia | omega (config := {}))
local macro_rules | `(tactic| walk_at $s:str) => `(tactic| k_extra $s)
section

noncomputable abbrev P0 : Program := PySem.Challenge.rw_if0027_01.row.prog
noncomputable def Lz : List Str := looseW Mine.view Lz4 ++ (PyProof.Rows.recsOf Mine.view).map (·.name) ++ (PyProof.Rows.litsOf Mine.view).map (·.1) ++ (PyProof.Rows.clssOf Mine.view (looseW Mine.view Lz4)).map (·.name)
noncomputable abbrev Ar (dp : Nat) (fr : Option (List Env)) (gd : Option (List Code)) (un : Nat) : Around := { handled := none,depth := dp,frames := fr,guards := gd,units := un }

noncomputable def Keep (W : List Addr) (s s' : Shared) : Prop := ∀ b o,s.heap.get? b = some o → b ∉ W → s'.heap.get? b = some o

structure Cx (w : World) (mean : ExcName → Option Value) (mg mb : Str → Option Value) (h₀ : Heap) (s : Shared) (U : List (Addr × Obj)) : Prop where
  X : (Mine.hd.heap_1 w.params).In h₀
  T : Top topProg Lz mean mg mb h₀
  st : h₀.StaysIn s.heap
  U : ∀ p ∈ U,s.heap.get? p.1 = some p.2 ∧ h₀.get? p.1 = none

noncomputable def Leave (g : Heap) (L : Addr) (W : List Addr) (s : Shared) (R : Value → Shared → Prop) (v : Value) (s' : Shared) : Prop :=
  ∃ m,Fr g L s'.heap m ∧ (Keep W s s' → R v s')

section
variable {w : World} {mean : ExcName → Option Value} {mg mb : Str → Option Value} {h₀ h g : Heap} {s s' : Shared} {U new news : List (Addr × Obj)} {L : Addr} {m : Str → Option Value} {W : List Addr} {R : Value → Shared → Prop} {v : Value}

theorem Leave.intro (F : Fr g L s'.heap m) (k : Keep W s s' → R v s') : Leave g L W s R v s' := ⟨m,F,k⟩

theorem Cx.of (X : (Mine.hd.heap_1 w.params).In h₀) (T : Top topProg Lz mean mg mb h₀) (F : Fr h₀ L s.heap m) (N : News h₀ L s.heap news) (hs : ∀ p ∈ U,p ∈ news) : Cx w mean mg mb h₀ s U :=
  ⟨X,T,F.keep,fun p hp=>⟨(N p (hs p hp)).1,(N p (hs p hp)).2.2⟩⟩

theorem after_fr (F : Fr h₀ L s.heap m) (hW : ∀ a ∈ W,a ≠ L ∧ h₀.get? a = none) (k : Keep W s s') : Fr h₀ L s'.heap m := by
  refine obEEEA F.ns ?_;intro oL a1 a2 hL r
  exact ⟨⟨oL,a1,a2,k L oL hL fun q=>(hW L q).1 rfl,r⟩,(fun b o e=>k b o (F.keep b o e) fun q=>(by rw [(hW b q).2] at e;cases e)),F.above⟩
theorem after_news {rest : List (Addr × Obj)} (F : Fr h₀ L s.heap m) (N : News h₀ L s.heap news) (k : Keep W s s') (hr : ∀ p ∈ rest, p ∈ news ∧ p.1 ∉ W) (hn : ∀ p ∈ new, s'.heap.get? p.1 = some p.2 ∧ ((p.1 ≠ L ∧ h₀.get? p.1 = none) ∨ s.heap.get? p.1 = none)) :
    News h₀ L s'.heap (new ++ rest):=by
  intro p hp
  rcases List.mem_append.mp hp with hp | hp
  · refine obA (hn p hp) ?_; intro e q
    rcases q with q | q
    · exact ⟨e,q⟩
    · refine obEEEA F.ns ?_; intro oL _ _ hL _
      refine ⟨e,fun z=>?_,?_⟩
      · rw [z,hL] at q;cases q
      · cases z : h₀.get? p.1 with
        | none=>rfl
        | some o=>rw [F.keep _ _ z] at q;cases q
  · have z := N p (hr p hp).1
    exact ⟨k _ _ z.1 (hr p hp).2,z.2⟩
theorem fresh_of {a : Addr} {o : Obj} (N : News g L h news) (hm : (a,o) ∈ news) (kG : ∀ b o,s.heap.get? b = some o → b ∉ U.map (·.1) → g.get? b = some o) (hU : a ∉ U.map (·.1)) : s.heap.get? a = none := by
  cases z : s.heap.get? a with
  | none=>rfl
  | some x=>have:=kG a x z hU;rw [(N _ hm).2.2] at this;cases this
end

section
variable {w : World} {mean : ExcName → Option Value} {mg mb : Str → Option Value} {h₀ : Heap} {s : Shared} {U : List (Addr × Obj)} {dp un : Nat} {fr : Option (List Env)} {gd : Option (List Code)} {E : Value → Shared → Prop}
  {name qual : Str} {params : Arguments} {body : List Stmt} {scope : Scope} {dV kV doc pm cdv ct oc : Value} {an od : Option Addr} {osl : Array (Option Value)} {f:Addr} {args : Args} {binds : List (Str × Value)} {Q:Value → Shared → Prop}

theorem enter_code {R : Result → Shared → Prop} (C : Cx w mean mg mb h₀ s U)
    (ho : (Mine.hd.heap_1 w.params).lookup f = some ⟨oc,od,.func (fnOf name qual params body scope dV kV doc pm an cdv ct),osl⟩) (hcd : codeIn (Mine.hd.heap_1 w.params) cdv qual = true) (hroom : dp < recursionLimit)
    (hbind : BindsTo s (fnOf name qual params body scope dV kV doc pm an cdv ct) args binds) (hloc : ∀ y ∈ binds,scope.names.lookup y.1 = some .local)
    (h : ∀ g L' h₁,Fr g L' h₁ (fun y=>binds.reverse.lookup y) → News g L' h₁ U → (Mine.hd.heap_1 w.params).In g → Top topProg Lz mean mg mb g → (∀ b o,s.heap.get? b = some o → b ∉ U.map (·.1) → g.get? b = some o) → (∀ p ∈ U,p.1 < L') → L' = s.heap.objs.size →
      wpAny (model P0 w) ((Ar dp fr gd un).deeper (envOf qual scope L' f cdv)) (execs body (envOf qual scope L' f cdv))
        (fun fl s'=>Leave g L' (U.map (·.1)) s (fun v s'=>R (.ok (.ret v)) s') (match fl with | .ret v=>v | _=>.none) s')
        (fun _ _=>False) { s with heap:=h₁,toks:=s.toks + binds.length })
    (hco : scope.isCoroutine = false) (hgen : scope.isGenerator = false) (hk : scope.kind = .function)
    (hcell : ∀ x ∈ scope.names,x.2 ≠ .cell) : codeAny (model P0 w) (Ar dp fr gd un) (.call (.ref f) args) R s:=by
  have nm : ∀ b o,h₀.get? b = some o → b ∉ U.map (·.1):=fun b o e q=>by
    refine obEA (List.mem_map.mp q) ?_;intro p hp oR2;subst oR2
    rw [(C.U p hp).2] at e;cases e
  have st : h₀.StaysIn (hideAll s.heap (U.map (·.1))):=fun b o e=>hideAll_get _ (C.st b o e) (nm b o e)
  refine codeAny_call_def (fd:=fnOf name qual params body scope dV kV doc pm an cdv ct) (body:=body) (binds:=binds) hroom (C.st _ _ (C.X _ _ ho)) rfl (C.T.nolimit.keeps C.st) (codeRec_of (C.X.keeps C.st) hcd) rfl hbind hcell hloc (fun h₁ hns hk₁=>?_) hco hgen hk
  refine wpAny_mono (h (hideAll s.heap (U.map (·.1))) s.heap.objs.size h₁ ⟨hns,fun b o e=>hk₁ b o (of_hideAll _ e),Nat.le_of_eq (hideAll_size _ _)⟩ (fun p hp=>⟨hk₁ _ _ (C.U p hp).1,Nat.ne_of_lt (Heap.lt_size (C.U p hp).1),hideAll_none _ (List.mem_map_of_mem hp)⟩) (C.X.keeps fun b o e=>st b o e) (C.T.keeps fun b o e=>st b o e) (fun b o e q=>hideAll_get _ e q) (fun p hp=>Heap.lt_size (C.U p hp).1) rfl) (fun fl s' hl=>?_) fun _ _ x=>x.elim
  refine obEA hl ?_;clear hl;intro m F k
  exact k fun b o e q=>F.keep b o (hideAll_get _ e q)

theorem enter_def (C : Cx w mean mg mb h₀ s U) {vals : List Value}
    (ho : (Mine.hd.heap_1 w.params).lookup f = some ⟨oc,od,.func (fnOf name qual params body scope dV kV doc pm an cdv ct),osl⟩) (hcd : codeIn (Mine.hd.heap_1 w.params) cdv qual = true) (hroom : dp < recursionLimit)
    (hbind : BindsTo s (fnOf name qual params body scope dV kV doc pm an cdv ct) ⟨vals,[]⟩ binds) (hloc : ∀ y ∈ binds,scope.names.lookup y.1 = some .local)
    (h : ∀ g L' h₁,Fr g L' h₁ (fun y=>binds.reverse.lookup y) → News g L' h₁ U → (Mine.hd.heap_1 w.params).In g → Top topProg Lz mean mg mb g → (∀ b o,s.heap.get? b = some o → b ∉ U.map (·.1) → g.get? b = some o) → (∀ p ∈ U,p.1 < L') → L' = s.heap.objs.size →
      wpAny (model P0 w) ((Ar dp fr gd un).deeper (envOf qual scope L' f cdv)) (execs body (envOf qual scope L' f cdv))
        (fun fl s'=>Leave g L' (U.map (·.1)) s Q (match fl with | .ret v=>v | _=>.none) s')
        (fun _ _=>False) { s with heap:=h₁,toks:=s.toks + binds.length })
    (hco : scope.isCoroutine = false) (hgen : scope.isGenerator = false) (hk : scope.kind = .function)
    (hcell : ∀ x ∈ scope.names,x.2 ≠ .cell) : wpAny (model P0 w) (Ar dp fr gd un) (call (.ref f) vals) Q E s:=
  wpAny_call (enter_code C ho hcd hroom hbind hloc h hco hgen hk hcell)
end

end
section

noncomputable def TPost (T : Shared → Prop) (Q : Flow → Shared → Prop) (f : Flow) (s₂ : Shared) : Prop := match f with
  | .ret v=>Q (.ret v) s₂
  | .brk=>Q .next s₂
  | _=>T s₂
noncomputable def TEnd {σ : Type} (h₀ : Heap) (L : Addr) (Led : σ → List (Addr × Obj)) (ps : σ → List (Str × Value)) (x : Str) (stored : List Str) (m₀ : Str → Option Value) (P : σ → Prop) (own : List (Addr × Obj)) (s₁ s₂ : Shared) : Prop :=
  ∃ (c : σ) (h' : Heap) (tk : Nat) (m' : Str → Option Value) (news' : List (Addr × Obj)), s₂ = { s₁ with heap := h', toks := tk } ∧ Fr h₀ L h' m' ∧ News h₀ L h' news' ∧ (∀ p ∈ Led c, p ∈ news') ∧ (∀ p ∈ own, p ∈ news') ∧
    (∀ p ∈ ps c,m' p.1 = some p.2) ∧ (∀ z,z ≠ x → (∀ p ∈ ps c,z ≠ p.1) → stored.contains z = false → m' z = m₀ z) ∧ P c
section
variable {prog : Program} {w : World} {A : Around} {E : Value → Shared → Prop} {s : Shared} {env : Env} {h₀ : Heap} {x : Str} {body : List Stmt} {Q : Flow → Shared → Prop}

noncomputable def IterV (prog : Program) (w : World) (A : Around) (h₀ : Heap) (env : Env) (x : Str) (body : List Stmt) (Q : Flow → Shared → Prop) (E : Value → Shared → Prop) (xv : Value) (s : Shared) : Prop :=
  wpAny (model prog w) A (pyIter xv) (fun it s₂=>LoopAtV prog w A h₀ env x body Q E it s₂) E s
theorem for_V {m : Str → Option Value} {px pos : Pos} {iter : Expr} (F : Fr h₀ env.locals s.heap m) (hx : env.kindOf x = some .local)
    (hp : (env.scope.kind == .class || (env.scope.kind == .module && env.locals != env.globals)) = false)
    (h:wpAny (model prog w) A (eval iter env) (fun xv s₁=>IterV prog w A h₀ env x body Q E xv s₁) E s)
    (hs : ∀ x,foldedSetIterable iter env x = pure x)
    (hE : PassesOwn (model prog w) A env E) :
    wpAny (model prog w) A (exec (.For (.Name x px) iter body [] pos) env) Q E s:=For_invVF F hx hp h hs hE

theorem TEnd.intro {σ : Type} {L : Addr} {Led : σ → List (Addr × Obj)} {ps : σ → List (Str × Value)} {stored : List Str} {m₀ : Str → Option Value} {P : σ → Prop} {own : List (Addr × Obj)} {s₁ : Shared} {h' : Heap} {tk : Nat} {m' : Str → Option Value} {news' : List (Addr × Obj)} (c : σ)
    (F:Fr h₀ L h' m') (N:News h₀ L h' news') (hl : ∀ p ∈ Led c,p ∈ news') (ho : ∀ p ∈ own,p ∈ news') (hk : ∀ p ∈ ps c,m' p.1 = some p.2) (hr : ∀ z,z ≠ x → (∀ p ∈ ps c,z ≠ p.1) → stored.contains z = false → m' z = m₀ z) (hP : P c) :
    TEnd h₀ L Led ps x stored m₀ P own s₁ { s₁ with heap:=h',toks:=tk }:=⟨c,h',tk,m',news',rfl,F,N,hl,ho,hk,hr,hP⟩

theorem tpost_inv {σ : Type} {L : Addr} {Led : σ → List (Addr × Obj)} {ps : σ → List (Str × Value)} {stored : List Str} {m₀ : Str → Option Value} {P : σ → Prop} {own oth : List (Addr × Obj)} {s₁ s₂ : Shared} {f : Flow} {adr : List Addr} {J : (Str → Option Value) → List (Addr × Obj) → Prop}
    (ha : ∀ c,(Led c ++ oth).map (·.1) = adr) (hJ : ∀ c m',(∀ p ∈ ps c,m' p.1 = some p.2) → (∀ z,z ≠ x → (∀ p ∈ ps c,z ≠ p.1) → stored.contains z = false → m' z = m₀ z) → P c → J m' (Led c ++ oth))
    (t:TPost (TEnd h₀ L Led ps x stored m₀ P (oth ++ own) s₁) Q f s₂) : InvPostN h₀ L J own adr s₁ Q f s₂:=by
  have key : TEnd h₀ L Led ps x stored m₀ P (oth ++ own) s₁ s₂ → InvEndN h₀ L J own adr s₁ s₂:=by
    rintro ⟨c,h',tk,m',news',e,F',N',hl,ho,hk,hr,hp⟩
    exact ⟨h',tk,m',news',Led c ++ oth,e,F',N',fun p hp=>(List.mem_append.mp hp).elim (hl p) fun q=>ho p (List.mem_append_left _ q),fun p hp=>ho p (List.mem_append_right _ hp),ha c,hJ c m' hk hr hp⟩
  cases f with
  | ret v=>exact t
  | brk=>exact t
  | next=>exact key t
  | cont=>exact key t
theorem ownOff_app {own oth : List (Addr × Obj)} {adr adr' : List Addr} (h1 : OwnOff oth adr) (h2 : OwnOff own (adr ++ adr')) : OwnOff (oth ++ own) adr :=
  fun p hp b hb=>(List.mem_append.mp hp).elim (fun q=>h1 p q b hb) fun q=>h2 p q b (List.mem_append_left _ hb)

theorem loop_range {σ : Type} {r : Addr} {a₀ b₀ : Int} {t₀ u₀ v₀ : Tok} {n : Nat} {m₀ : Str → Option Value} {oth : List (Addr × Obj)} (Led : σ → List (Addr × Obj)) (ps : σ → List (Str × Value)) (stored : List Str) (P : Nat → σ → Prop) (c₀ : σ)
    (hh : A.handled = none) (hr : IsRange s.heap r a₀ b₀ 1 t₀ u₀ v₀) (hn : (b₀ - a₀).toNat = n) (hb : -1000000 < a₀ ∧ a₀ < 1000000 ∧ -1000000 < b₀ ∧ b₀ < 1000000) (F:Fr h₀ env.locals s.heap m₀) (N:News h₀ env.locals s.heap (Led c₀ ++ oth)) (ho : OwnOff oth ((Led c₀).map (·.1)))
    (ha : ∀ c,(Led c).map (·.1) = (Led c₀).map (·.1)) (hk : ∀ p ∈ ps c₀,m₀ p.1 = some p.2) (hp : P 0 c₀)
    (turn : ∀ (c:σ) (i:Nat) t (u:Str → Option Value) h tk own,i < n → OwnOff own ((Led c₀).map (·.1)) → P i c →
      Fr h₀ env.locals h (fun y=>if y = x then some (.int (a₀ + (i:Int)) t) else kstB (fun z=>if stored.contains z then u z else m₀ z) (ps c) y) → News h₀ env.locals h (Led c ++ own) →
      wpAny (model prog w) A (execs body env) (TPost (TEnd h₀ env.locals Led ps x stored m₀ (P (i + 1)) own { s with heap:=h,toks:=tk }) Q) E { s with heap:=h,toks:=tk })
    (done : ∀ (c:σ) (u:Str → Option Value) h tk,P n c → Fr h₀ env.locals h (fun y=>if y = x then u y else kstB (fun z=>if stored.contains z then u z else m₀ z) (ps c) y) → News h₀ env.locals h (Led c ++ oth) → Q .next { s with heap:=h,toks:=tk }) :
    IterV prog w A h₀ env x body Q E (.ref r) s:=by
  refine kst_range (fun c=>Led c ++ oth) ps (fun _=>True) stored (fun pre c=>P pre.length c) c₀ hh hr (small_one (by omega) (by omega) (by omega) (by omega)) (by rw [rangeSize_nat,hn]) F N trivial hk hp ?_ ?_
  · intro c pre k t u h tk own ek hlt hoff _ hP F₁ N₁
    subst ek
    rw [List.map_append] at hoff
    refine wpAny_mono (turn c pre.length t u h tk (oth ++ own) hlt (ownOff_app ho hoff) hP F₁ (by rw [← List.append_assoc];exact N₁)) (fun f s₂ q=>?_) fun _ _ e=>e
    exact tpost_inv (P:=P (pre.length + 1)) (fun c=>by rw [List.map_append,List.map_append,ha c]) (fun c m' h1 h2 h3=>⟨c,rfl,trivial,h1,h2,by show P (pre ++ [_]).length c;rw [List.length_append,List.length_singleton];exact h3⟩) q
  · intro c u h tk _ hP F₁ N₁
    rw [rangeKs_length] at hP
    exact done c u h tk hP F₁ N₁
theorem ownOff_nil {adr : List Addr} : OwnOff [] adr := fun _ h=>nomatch h
end
noncomputable def Ob (p : Prop) : Prop := p
section
variable {prog : Program} {w : World} {A : Around} {E : Value → Shared → Prop} {s : Shared}
theorem add_str_ob {x y : Str} {t u : Tok} {Q : Value → Shared → Prop} (h : ∀ t' tk,Q (.str (x ++ y) t') { s with toks := tk }) (hsz : Ob (x.length + y.length ≤ sizeLine)) : wpAny (model prog w) A (binaryOp .Add (.str x t) (.str y u)) Q E s :=
  PyProof.Rows.add_str h hsz
end
theorem str_len_append (x y : Str) : (x ++ y).length = x.length + y.length := by
  show (x.cps ++ y.cps).size = _
  rw [Array.size_append];rfl

end
section
noncomputable abbrev SV := List (Str × Tok)
noncomputable def svs (l : SV) : List Value := l.map fun p=>.str p.1 p.2
theorem svs_length (l : SV) : (svs l).length = l.length := by simp [svs]
theorem svs_append (l r : SV) : svs (l ++ r) = svs l ++ svs r := by simp [svs]
theorem svs_strs : ∀ l : SV,StrsAre (svs l) (l.map (·.1))
  | []=>.nil
  | p :: r=>.cons p.1 p.2 (svs_strs r)

section
variable {prog : Program} {w : World} {A : Around} {E : Value → Shared → Prop} {s : Shared} {h₀ h : Heap} {L D : Addr} {m : Str → Option Value} {news news' : List (Addr × Obj)} {n : Nat}

theorem append_svs {l : SV} {x : Str} {t : Tok} {Q : Value → Shared → Prop} (F : Fr h₀ L s.heap m) (N : News h₀ L s.heap news) (U : Upd D (listOf (svs l).toArray n) (listOf (svs (l ++ [(x,t)])).toArray (n + 1)) news news')
    (h : ∀ h',Fr h₀ L h' m → News h₀ L h' news' → Q .none { s with heap:=h' }) (hsz : Ob (l.length ≤ sizeLine)) : wpAny (model prog w) A (call (.builtin "list.append") [.ref D,.str x t]) Q E s:=by
  have e : (svs (l ++ [(x,t)])).toArray = (svs l).toArray.push (.str x t):=by rw [svs_append];simp [svs]
  rw [e] at U
  exact append_K F N U h (by rw [List.size_toArray,svs_length];exact hsz)

theorem pop_svs {l : SV} {Q : Value → Shared → Prop} (F : Fr h₀ L s.heap m) (N : News h₀ L s.heap news) (U : Upd D (listOf (svs l).toArray n) (listOf (svs l.dropLast).toArray (n + 1)) news news')
    (hne : Ob (l ≠ [])) (hsz : Ob (l.length ≤ sizeLine)) (h : ∀ h' t,Fr h₀ L h' m → News h₀ L h' news' → Q (.str ((l.map (·.1)).getLast?.getD Str.empty) t) { s with heap:=h' }) : wpAny (model prog w) A (call (.builtin "list.pop") [.ref D]) Q E s:=by
  obtain ⟨q,z,rfl⟩ : ∃ q z,l = q ++ [z]:=⟨l.dropLast,l.getLast hne,(List.dropLast_concat_getLast hne).symm⟩
  have e1 : svs (q ++ [z]) = svs q ++ [.str z.1 z.2]:=by rw [svs_append];rfl
  rw [List.dropLast_concat,e1] at U
  refine kl_pop F N (p:=svs q) (y:=.str z.1 z.2) (by simpa using kpa_last (.str z.1 z.2) (svs q)) U ?_ fun h' F' N'=>?_
  · have : (q ++ [z]).length ≤ sizeLine := hsz
    simpa [svs] using this
  · have e2 : ((q ++ [z]).map (·.1)).getLast?.getD Str.empty = z.1 := by simp
    rw [← e2]
    exact e2 ▸ h h' z.2 F' N'

theorem len_svs {l : SV} {Q : Value → Shared → Prop} (N : News h₀ L s.heap news) (hm : (D,listOf (svs l).toArray n) ∈ news) (hfit : Ob ((l.length : Int) < 2 ^ 63)) (h : ∀ t tk,Q (.int (l.length : Int) t) { s with toks := tk }) : wpAny (model prog w) A (call (.builtin "len") [.ref D]) Q E s :=
  kst_len N hm (svs_length l) hfit (h _ _)
theorem ne_nil_svs {l : SV} {b : Addr} {n2 : Nat} {Q : Value → Shared → Prop} (N : News h₀ L s.heap news) (hl : (D,listOf (svs l).toArray n) ∈ news) (hb : (b,listOf #[] n2) ∈ news) (hu : A.units < cLine)
    (h:Q (.bool (!l.isEmpty)) s) : wpAny (model prog w) A (compareOp .NotEq (.ref D) (.ref b)) Q E s:=by
  refine cmp_ofNotEq ?_
  have H1 : s.heap.IsList D (svs l).toArray:=N.isList hl
  have H2 : s.heap.IsList b #[]:=N.isList hb
  cases l with
  | nil=>exact PySem.SeqAt.RcNeAt.lists H1 H2 rfl hu (e:=fun _=>true) (fun j h1 _=>absurd h1 (Nat.not_lt_zero _)) _ _ _ _ h
  | cons p r=>exact PySem.SeqAt.RcNeAt.lists_lengths H1 H2 (by simp [svs]) hu _ _ _ _ h
end

section
variable {prog : Program} {w : World} {A : Around} {E : Value → Shared → Prop} {s : Shared} {env : Env} {body : List Stmt} {Q : Flow → Shared → Prop} {test : Expr}
noncomputable def WhileAt (prog : Program) (w : World) (A : Around) (env : Env) (test : Expr) (body : List Stmt) (Q : Flow → Shared → Prop) (E : Value → Shared → Prop) (s : Shared) : Prop :=
  ∃ (I:Nat → Shared → Prop) (n:Nat),I n s ∧ ∀ n s,I n s → wpAny (model prog w) A (isTrue test env (eval test env)) (fun b s₂=>
        if b then wpAny (model prog w) A (execs body env) (TPost (fun s₃=>∃ m,m < n ∧ I m s₃) Q) E s₂
        else Q .next s₂) E s
theorem while_rule {pos : Pos} (h : WhileAt prog w A env test body Q E s) (hE : PassesOwn (model prog w) A env E := by passes_own) :
    wpAny (model prog w) A (exec (.While test body [] pos) env) Q E s:=by
  refine obEEA h ?_;clear h;intro I n h0 turn
  refine wpAny_While (codeAny_whileLoop (R:=fun r s'=>match r with | .ok f=>Q f s' | .error e=>cameBackBy (model prog w) A env E e s') I (fun n s hI=>?_) n h0)
  refine wpAny_mono (wpAny_passesOwn hE (turn n s hI)) (fun b s₂ h₂=>?_) fun _ _ e=>e
  cases b with
  | true=>exact wpAny_mono (wpAny_passesOwn hE h₂) (fun f s₃ h₃=>by cases f <;> exact h₃) fun _ _ e=>e
  | false=>exact wpAny_execs_nil h₂
noncomputable def WEnd {σ : Type} (h₀ : Heap) (L : Addr) (Led : σ → List (Addr × Obj)) (ps : σ → List (Str × Value)) (stored : List Str) (m₀ : Str → Option Value) (P : σ → Prop) (oth : List (Addr × Obj)) (s₁ s₂ : Shared) : Prop :=
  ∃ (c : σ) (h' : Heap) (tk : Nat) (m' : Str → Option Value) (news' : List (Addr × Obj)), s₂ = { s₁ with heap := h', toks := tk } ∧ Fr h₀ L h' m' ∧ News h₀ L h' news' ∧ (∀ p ∈ Led c, p ∈ news') ∧ (∀ p ∈ oth, p ∈ news') ∧
    (∀ p ∈ ps c,m' p.1 = some p.2) ∧ (∀ z,(∀ p ∈ ps c,z ≠ p.1) → stored.contains z = false → m' z = m₀ z) ∧ P c
theorem WEnd.intro {σ : Type} {h₀ : Heap} {L : Addr} {Led : σ → List (Addr × Obj)} {ps : σ → List (Str × Value)} {stored : List Str} {m₀ : Str → Option Value} {P : σ → Prop} {oth : List (Addr × Obj)} {s₁ : Shared} {h' : Heap} {tk : Nat} {m' : Str → Option Value} {news' : List (Addr × Obj)} (c : σ)
    (F:Fr h₀ L h' m') (N:News h₀ L h' news') (hl : ∀ p ∈ Led c,p ∈ news') (ho : ∀ p ∈ oth,p ∈ news') (hk : ∀ p ∈ ps c,m' p.1 = some p.2) (hr : ∀ z,(∀ p ∈ ps c,z ≠ p.1) → stored.contains z = false → m' z = m₀ z) (hP : P c) :
    WEnd h₀ L Led ps stored m₀ P oth s₁ { s₁ with heap:=h',toks:=tk }:=⟨c,h',tk,m',news',rfl,F,N,hl,ho,hk,hr,hP⟩
theorem loop_while {σ : Type} {h₀ : Heap} {m₀ : Str → Option Value} {oth : List (Addr × Obj)} (Led : σ → List (Addr × Obj)) (ps : σ → List (Str × Value)) (stored : List Str) (P : Nat → σ → Prop) (n₀ : Nat) (c₀ : σ)
    (F:Fr h₀ env.locals s.heap m₀) (N:News h₀ env.locals s.heap (Led c₀ ++ oth)) (hk : ∀ p ∈ ps c₀,m₀ p.1 = some p.2) (hp : P n₀ c₀)
    (turn : ∀ (c:σ) (n:Nat) (u:Str → Option Value) h tk,P n c → Fr h₀ env.locals h (kstB (fun z=>if stored.contains z then u z else m₀ z) (ps c)) → News h₀ env.locals h (Led c ++ oth) →
      wpAny (model prog w) A (isTrue test env (eval test env)) (fun b s₂=>
        if b then wpAny (model prog w) A (execs body env) (TPost (WEnd h₀ env.locals Led ps stored m₀ (fun c=>∃ k,k < n ∧ P k c) oth { s with heap:=h,toks:=tk }) Q) E s₂
        else Q .next s₂) E { s with heap:=h,toks:=tk }) : WhileAt prog w A env test body Q E s:=by
  refine ⟨fun n s₁=>∃ (c:σ) (h:Heap) (tk : Nat) (m:Str → Option Value),s₁ = { s with heap:=h,toks:=tk } ∧ P n c ∧ Fr h₀ env.locals h m ∧ News h₀ env.locals h (Led c ++ oth) ∧ (∀ p ∈ ps c,m p.1 = some p.2) ∧ ∀ z,(∀ p ∈ ps c,z ≠ p.1) → stored.contains z = false → m z = m₀ z,n₀,⟨c₀,s.heap,s.toks,m₀,rfl,hp,F,N,hk,fun _ _ _=>rfl⟩,?_⟩
  rintro n s₁ ⟨c,h,tk,m,rfl,hP,F₁,N₁,h1,h2⟩
  have em : kstB (fun z=>if stored.contains z then m z else m₀ z) (ps c) = m:=by
    funext z
    refine kstB_eq h1 fun hn=>?_
    show (if stored.contains z = true then m z else m₀ z) = m z
    cases h3 : stored.contains z with
    | true=>simp
    | false=>simp only [Bool.false_eq_true,if_false];exact (h2 z hn h3).symm
  refine wpAny_mono (turn c n m h tk hP (by rw [em];exact F₁) N₁) (fun b s₂ hb=>?_) fun _ _ e=>e
  cases b with
  | false=>exact hb
  | true =>
    refine wpAny_mono hb (fun f s₃ hf=>?_) fun _ _ e=>e
    have key : WEnd h₀ env.locals Led ps stored m₀ (fun c=>∃ k,k < n ∧ P k c) oth { s with heap:=h,toks:=tk } s₃ → ∃ m,m < n ∧ ∃ (c:σ) (h:Heap) (tk : Nat) (m_1 : Str → Option Value),s₃ = { s with heap:=h,toks:=tk } ∧ P m c ∧ Fr h₀ env.locals h m_1 ∧ News h₀ env.locals h (Led c ++ oth) ∧ (∀ p ∈ ps c,m_1 p.1 = some p.2) ∧ ∀ z,(∀ p ∈ ps c,z ≠ p.1) → stored.contains z = false → m_1 z = m₀ z:=by
      rintro ⟨c',h',tk',m',news',e,F',N',hl,ho,hk',hr',k,hkn,hP'⟩
      exact ⟨k,hkn,c',h',tk',m',e,hP',F',fun p hp=>(List.mem_append.mp hp).elim (fun q=>N' p (hl p q)) fun q=>N' p (ho p q),hk',hr'⟩
    cases f with
    | ret v=>exact hf
    | brk=>exact hf
    | next=>exact key hf
    | cont=>exact key hf
end

end
section
set_option maxRecDepth 100000
open Builtin
theorem lookup_append : typeLookup (.type "list") "append" = pure (some (.builtin "list.append")) := by rw [typeLookup_type,builtinLookup_eq_fast];kernel_rfl
theorem slot_md_get : Slot "method_descriptor" "__get__" "method_descriptor.__get__" :=
  .of (owner := "method_descriptor") (n := "__get__") (by rw [typeLookup_type,builtinLookup_eq_fast];kernel_rfl) (by decide +kernel) (by decide +kernel) (by decide +kernel)
    (by first | exact .inl (by decide +kernel) | exact .inr (by decide +kernel)) (by rw [isSubtype_type];kernel_rfl)
theorem md_no_set : typeLookup (.type "method_descriptor") "__set__" = pure none := by rw [typeLookup_type,builtinLookup_eq_fast];kernel_rfl
theorem md_no_delete : typeLookup (.type "method_descriptor") "__delete__" = pure none := by rw [typeLookup_type,builtinLookup_eq_fast];kernel_rfl
theorem entry_md_get : entryFor table "method_descriptor.__get__" = some Builtin.«method_descriptor.__get__» := entryFor_of_tree (by kernel_rfl)
theorem args_md_get (a b c : Value) : argsOk "method_descriptor.__get__" ⟨[a,b,c],[]⟩ := by unfold argsOk;kernel_rfl
theorem sub_list_list : isSubtype (.type "list") (.type "list") = pure true := by rw [isSubtype_type];kernel_rfl
theorem append_not_told : Manifest.toldItsClass.contains "list.append" = false := by decide +kernel

noncomputable def boundAppend (l : Addr) : Obj := { cls := .type "builtin_function_or_method",data := .fields #[.builtin "list.append",.ref l] }

section
variable {prog : Program} {w : World} {M : Model} {A : Around} {E : Value → Shared → Prop} {s : Shared}
theorem run_md_get {l : Addr} {items : Array Value} {P : Fin → Shared → Prop} (hl : s.heap.IsList l items) (h : P (.done (.ret (.ref s.heap.objs.size))) { s with heap := s.heap.push (boundAppend l) }) :
    wpAny M A (Builtin.«method_descriptor.__get__» ⟨[.builtin "list.append",.ref l,.type "list"],[]⟩) P E s:=by
  unfold Builtin.«method_descriptor.__get__»
  refine wpAny_bind (wpAny_of_eq (a:=(.builtin "list.append",some (.ref l),some (.type "list"))) (by first | rfl | kernel_rfl) ?_)
  dsimp only
  rw [append_not_told,if_neg Bool.false_ne_true]
  show wpAny _ _ ((kfb_private% "checkInstance") (.builtin "list.append") (.ref l) >>= fun _=>newFields "builtin_function_or_method" [.builtin "list.append",.ref l] >>= fun v=>ret v) _ _ _
  refine wpAny_bind ?_
  refine wpAny_bind (wpAny_of_eq (a:=(Str.ofString "append",.type "list")) (by first | rfl | kernel_rfl) ?_)
  refine wpAny_bind (wpAny_isInstance (T := "list") (b:=true) hl.typeIs sub_list_list ?_)
  rw [if_neg (by decide)]
  refine wpAny_pure ?_
  exact wpAny_bind (wpAny_newObj_type (wpAny_pure h))

theorem meets_getattribute_append (a : Addr) (items : Array Value) (u : Tok) :
    Meets (Builtin.«object.__getattribute__» ⟨[.ref a,.str (Str.ofString "append") u],[]⟩) (fun A R s=>(∃ k sl,s.heap.get? a = some { cls:=.type "list",dict:=none,data:=.seq items k,slots:=sl }) ∧
      R (.ok (.ret (.ref s.heap.objs.size))) { s with heap:=s.heap.push (boundAppend a) }):=
  Meets.of_wp fun prog w A R s hs=>by
    obtain ⟨hp,g,d,tk,os⟩:=s
    refine obA hs ?_;clear hs;intro oN0 hs;obtain ⟨k,sl,hx⟩:=oN0
    have hT : (⟨hp,g,d,tk,os⟩ : Shared).TypeIs (.ref a) "list" := ⟨_,hx,rfl⟩
    have f1:=lookup_append
    have f2 : typeOf (.builtin "list.append") = pure (.type "method_descriptor"):=type_list_append
    have f3:=slot_md_get.lookup
    have f4:=md_no_set
    have f5:=md_no_delete
    unfold Builtin.«object.__getattribute__»
    repeat (any_goals (first | assumption | ((with_reducible show wpAny _ _ (call (Value.builtin "method_descriptor.__get__") _ _) _ _ _);refine wpAny_call_entry slot_md_get f2 entry_md_get (run_md_get (items:=items) ⟨_,hx,rfl,_,rfl⟩ ?_) (args_md_get _ _ _)) | wp_step))
    exact ⟨_,rfl,wpAny_pure ⟨_,rfl,hs⟩⟩

theorem getAttr_append {a : Addr} {items : Array Value} {Q : Value → Shared → Prop} {o : Obj} {k : Nat} (hx : s.heap.get? a = some o) (hc : o.cls = .type "list") (hdat : o.data = .seq items k) (hd : o.dict = none)
    (h : ∀ tk,Q (.ref s.heap.objs.size) { s with heap:=s.heap.push (boundAppend a),toks:=tk }) : wpAny (model prog w) A (getAttr (.ref a) (Str.ofString "append") true) Q E s:=by
  obtain ⟨c,dct,dat,sl⟩:=o
  simp only at hc hdat hd
  subst hc hdat hd
  obtain ⟨hp,g,d,tk,os⟩:=s
  have hT : ∀ tk',(⟨hp,g,d,tk',os⟩ : Shared).TypeIs (.ref a) "list" := fun _=>⟨_,hx,rfl⟩
  have f3:=F.slot_list_getattribute.lookup
  have f4:=F.slot_list_getattribute.bind (.ref a)
  have f5:=am_list_getattr_none
  unfold getAttr getAttrBy
  repeat (any_goals (first | assumption | exact hT _ | ((with_reducible show wpAny _ _ (call (Value.builtin "list.__getattribute__") _ _) _ _ _);refine call_meets F.slot_list_getattribute (hT _) am_entry_list_getattribute (F.args_list_getattribute_2 _ _) (meets_getattribute_append a items _) ⟨⟨k,sl,hx⟩,?_⟩) | wp_step))
  exact wpAny_pure (h _)

theorem sub_list_module : isSubtype (.type "list") (.type "module") = pure false := by rw [isSubtype_type];kernel_rfl
theorem check_append_args {l : Addr} {x : Str} {t : Tok} : (match Manifest.signature? "list.append" with
    | some sig=>Bind.checkArgs "list.append" { sig with full:=s!"{Bind.lastOf "list"}.{Bind.lastOf "list.append"}" } ⟨[.ref l,.str x t],[]⟩
    | none=>pure ()) = pure ():=by kernel_rfl
theorem check_append {l : Addr} {x : Str} {t : Tok} {items : Array Value} {Q : Unit → Shared → Prop} (hl : s.heap.IsList l items) (h : Q () s) : wpAny M A (checkBoundCall "list.append" ⟨[.ref l,.str x t],[]⟩) Q E s := by
  unfold checkBoundCall
  have key:=check_append_args (l:=l) (x:=x) (t:=t)
  cases hsig : Manifest.signature? "list.append" with
  | none=>exact wpAny_pure h
  | some sig =>
    rw [hsig] at key
    dsimp only at key ⊢
    rw [show builtinKind "list.append" = some .method by decide +kernel]
    dsimp only
    rw [if_neg (by decide)]
    refine wpAny_bind (wpAny_isInstance (T := "list") (b:=false) hl.typeIs sub_list_module ?_)
    rw [if_neg (by decide +kernel)]
    refine obEAAE hl ?_;intro ol hol hcl nl hdl
    obtain ⟨hp,g,d,tk,os⟩:=s
    refine wpAny_bind (ks_wpAny_isType_inst hol (fun c e=>by rw [hdl] at e;cases e) ?_)
    refine KFB.if_not rfl ?_
    refine wpAny_bind (wpAny_typeOf hl.typeIs ?_)
    exact wpAny_of_eq key h

theorem call_boundAppend {a l : Addr} {x : Str} {t : Tok} {Q : Value → Shared → Prop} {items : Array Value} {k : Nat} (ha : s.heap.get? a = some (boundAppend l)) (hl : s.heap.get? l = some (listOf items k))
    (h : ∀ h',Heap.SameBut l s.heap h' → h'.get? l = some (listOf (items.push (.str x t)) (k + 1)) → Q .none { s with heap:=h' }) (hsz : items.size ≤ sizeLine) : wpAny (model prog w) A (call (.ref a) [.str x t]) Q E s:=by
  refine wpAny_call (codeAny_of_tree ?_)
  show wpAny _ A.in1 (callAny (.ref a) ⟨[.str x t],[]⟩) _ _ s
  simp only [callAny]
  refine wpAny_bind (wpAny_load ha ?_)
  simp only [boundAppend,show (Value.type "builtin_function_or_method" == Value.type "method" || Value.type "builtin_function_or_method" == Value.type "builtin_function_or_method" || Value.type "builtin_function_or_method" == Value.type "method-wrapper") = true by decide,if_true]
  refine KFB.if_so (by decide) ?_
  refine wpAny_bind (check_append (items:=items) ⟨_,hl,rfl,_,rfl⟩ ?_)
  refine wpAny_bind (wpAny_pure (wpAny_pure ?_))
  refine ⟨Code.quiet_builtin _ (by decide +kernel),codeAny_builtin entry_list_append ?_⟩
  show wpAny _ _ (updateSeq l (·.push (.str x t)) >>= fun _=>ret .none) _ _ s
  refine wpAny_bind ?_
  refine wpAny_updateSeq hl rfl (wpAny_pure (h _ (Heap.SameBut.update ..) ?_))
  rw [Heap.get?_update_self _ hl (by show (Obj.mapSeq (·.push (.str x t)) { cls:=.type "list",data:=.seq items k }).isFreed = false;rw [Obj.mapSeq_push_plain];rfl)]
  exact congrArg some (Obj.mapSeq_push_plain ..)

theorem callWith_bd {pos : Pos} {u l : Addr} {first : List Value} {args : List (Bool × Sem Value)} {Q : Value → Shared → Prop} (hplain : args.any (·.1) = false)
    (h:wpAny M A (evalArgs (.ref u) true args []) (fun x s₁=>s₁.heap.get? u = some (boundAppend l) ∧ wpAny M A (call (.ref u) (first ++ x.pos) x.kw) Q E s₁) E s) : wpAny M A (callWith pos (.ref u) first args []) Q E s:=by
  unfold callWith
  refine wpAny_bind (wpAny_holding (wpAny_mono h (fun x s₁ h₁=>wpAny_bind (wpAny_standAt ?_)) fun _ _ x=>x))
  refine obA h₁ ?_;clear h₁;intro ho hcall
  simp only [hplain,List.any_nil,Bool.or_false]
  refine wpAny_bind (m:=keeperOf (.ref u)) ?_
  unfold keeperOf
  refine wpAny_bind (wpAny_load ho ?_)
  simp only [boundAppend,show (Value.type "builtin_function_or_method" != Value.type "method") = true by decide,show (Value.type "builtin_function_or_method" == Value.type "builtin_function_or_method" || Value.type "builtin_function_or_method" == Value.type "method-wrapper") = true by decide,if_true]
  refine wpAny_pure ?_
  exact wpAny_bind (wpAny_mono hcall (fun r s₂ hr=>wpAny_bind (wpAny_holding (wpAny_point (wpAny_pure hr)))) fun _ _ x=>x)
end
section
variable {prog : Program} {w : World} {M : Model} {A : Around} {E : Value → Shared → Prop} {s : Shared} {h₀ : Heap} {L D : Addr} {m : Str → Option Value} {news news' : List (Addr × Obj)} {n : Nat}
theorem append_bound_K {items : Array Value} {Q : Value → Shared → Prop} (F : Fr h₀ L s.heap m) (N : News h₀ L s.heap news) (hm : (D,listOf items n) ∈ news)
    (h : ∀ q h',Fr h₀ L h' m → News h₀ L h' ((q,boundAppend D) :: news) → (∀ p ∈ news,p.1 < q) → ∀ tk,Q (.ref q) { s with heap:=h',toks:=tk }) : wpAny (model prog w) A (getAttr (.ref D) (Str.ofString "append") true) Q E s:=
  getAttr_append (N _ hm).1 rfl rfl rfl fun tk=>h _ _ (F.push _) (N.push F _) (fun p hp=>Heap.lt_size (N p hp).1) tk
theorem callWith_bd_K {pos : Pos} {u l : Addr} {first : List Value} {env : Env} {e : Expr} {rest : List Expr} {Q : Value → Shared → Prop} (_N : News h₀ L s.heap news) (_hm : (u,boundAppend l) ∈ news)
    (h:wpAny M A (spliced (backTo pos (starEach (e :: rest) env))) (fun vs s₁=>s₁.heap.get? u = some (boundAppend l) ∧ wpAny M A (call (.ref u) (first ++ vs)) Q E s₁) E s)
    (he : starEach (e :: rest) env = (false,eval e env) :: starEach rest env:=by rfl) (hplain : (backTo pos (starEach rest env)).any (·.1) = false:=by rfl) :
    wpAny M A (callWith pos (.ref u) first (backTo pos (starEach (e :: rest) env)) []) Q E s:=by
  rw [he] at h ⊢
  refine callWith_bd (l:=l) (by show (false || (backTo pos (starEach rest env)).any (·.1)) = false;rw [hplain];rfl) ?_
  exact evalArgs_plain h
theorem at_bd {u l : Addr} {h : Heap} (N : News h₀ L h news) (hm : (u,boundAppend l) ∈ news) : h.get? u = some (boundAppend l) := (N _ hm).1
theorem call_bd_K {u : Addr} {l : SV} {x : Str} {t : Tok} {Q : Value → Shared → Prop} (F : Fr h₀ L s.heap m) (N : News h₀ L s.heap news) (hm : (u,boundAppend D) ∈ news) (U : Upd D (listOf (svs l).toArray n) (listOf (svs (l ++ [(x,t)])).toArray (n + 1)) news news')
    (h : ∀ h',Fr h₀ L h' m → News h₀ L h' news' → Q .none { s with heap:=h' }) (hsz : Ob (l.length ≤ sizeLine)) : wpAny (model prog w) A (call (.ref u) [.str x t]) Q E s:=by
  have e : (svs (l ++ [(x,t)])).toArray = (svs l).toArray.push (.str x t):=by rw [svs_append];simp [svs]
  rw [e] at U
  refine obEEAAA U.split ?_;intro pre post oR2 oR3 a b;subst oR2;subst oR3
  have z:=N (D,listOf (svs l).toArray n) (List.mem_append.mpr (.inr (.head _)))
  exact call_boundAppend (N _ hm).1 z.1 (fun h' hs ho'=>h h' (F.change hs z.2.1 z.2.2) (news_set N a b hs ho')) (by rw [List.size_toArray,svs_length];exact hsz)
end

end
section
set_option maxRecDepth 100000
noncomputable def keyStr (e : DictEntry) : Str := match e.key with | .str s _=>s | _=>Str.empty
theorem pairs_of {prog : Program} {w : World} : ∀ es : List DictEntry,(∀ e ∈ es,∃ s t,e.key = .str s t) → Pairs (PySem.strKind prog w) es (es.map fun e=>(keyStr e,e.val))
  | [],_=>.nil
  | e :: r, h => by
    refine .cons ?_ rfl (pairs_of r fun x hx=>h x (.tail _ hx))
    refine obEE (h e (.head _)) ?_;intro s t hk
    show Value.isStrOf (keyStr e) e.key = true
    unfold keyStr
    rw [hk]
    simp [Value.isStrOf]
theorem isStr_self (s : Str) (t : Tok) : Value.isStrOf s (.str s t) = true := by simp [Value.isStrOf]
theorem key_of {w : World} {e : DictEntry} (h : ∃ s t,e.key = .str s t ∧ e.hash = PyData.keyHash w.params s) : ∃ k,(PySem.strKind P0 w).is k e.key = true ∧ e.hash = (PySem.strKind P0 w).hash k := by
  refine obEEA h ?_;clear h;intro s t h1 h2
  exact ⟨s,by rw [h1];exact isStr_self s t,h2⟩
theorem ns_dict {w : World} {h : Heap} (X : (Mine.hd.heap_1 w.params).In h) : ∃ kvs ep,h.DictAt (PySem.strKind P0 w) 44 kvs ep ∧ kvs.length = 7 := by
  refine ⟨_,_,⟨_,_,X 44 _ rfl,⟨rfl,rfl,rfl⟩,rfl,?_,pairs_of _ ?_,?_⟩,rfl⟩
  · intro e he
    simp only [List.mem_toArray,List.mem_cons,List.not_mem_nil,or_false] at he
    rcases he with rfl | rfl | rfl | rfl | rfl | rfl | rfl <;> exact key_of ⟨_,_,rfl,rfl⟩
  · intro e he
    simp only [List.mem_cons,List.not_mem_nil,or_false] at he
    rcases he with rfl | rfl | rfl | rfl | rfl | rfl | rfl <;> exact ⟨_,_,rfl⟩
  · simp only [List.map,keyStr];decide +kernel

section
variable {w : World} {M : Model} {A : Around} {E : Value → Shared → Prop} {s : Shared} {h₀ : Heap} {L D : Addr} {m : Str → Option Value} {news news' : List (Addr × Obj)} {n : Nat}
theorem nsm_method {pl : Sem Bool} {Q : Value × List Value → Shared → Prop} (F : Fr h₀ L s.heap m) (X : (Mine.hd.heap_1 w.params).In h₀) (h : Q (.builtin "dict.items",[.ref 44]) s) : wpAny (model P0 w) A (getMethod (.ref 44) (Str.ofString "items") pl) Q E s := by
  refine obEEA (ns_dict (X.keeps F.keep)) ?_;intro kvs ep hD _
  refine obEEAA hD ?_;clear hD;intro o es ho hx hr
  have hD' : s.heap.DictOf (PySem.strKind P0 w) 44 kvs:=⟨o,es,ep,ho,hx,hr⟩
  exact getMethod_builtin hD'.typeIs PySem.F.plainAttrs_dict PySem.F.slot_dict_items PySem.F.type_dict_items hD'.mapOf.noDict h
theorem nsm_view {Q : Value → Shared → Prop} (F : Fr h₀ L s.heap m) (N : News h₀ L s.heap news) (X : (Mine.hd.heap_1 w.params).In h₀)
    (h : ∀ (D:Addr) h',Fr h₀ L h' m → News h₀ L h' ((D,{ cls:=.type "dict_items",data:=.fields #[.ref 44] }) :: news) → (∀ q ∈ news,q.1 < D) → Q (.ref D) { s with heap:=h' }) :
    wpAny (model P0 w) A (call (.builtin "dict.items") [.ref 44]) Q E s:=by
  refine obEEA (ns_dict (X.keeps F.keep)) ?_;intro kvs ep hD _
  refine obEEAA hD ?_;clear hD;intro o es ho hx hr
  have hD' : s.heap.DictOf (PySem.strKind P0 w) 44 kvs:=⟨o,es,ep,ho,hx,hr⟩
  exact call_meetsIn PySem.F.slot_dict_items hD'.typeIs PySem.F.entry_dict_items (PySem.F.args_dict_items_1 _) (meets_dict_items (PySem.strKind P0 w) 44 (by decide +kernel)) ⟨⟨kvs,hD'⟩,h _ _ (F.push _) (News.push F N _) fun q hq=>Heap.lt_size (N q hq).1⟩
theorem nsm_list {V : Addr} {Q : Value → Shared → Prop} (hh : A.handled = none) (F : Fr h₀ L s.heap m) (N : News h₀ L s.heap news) (X : (Mine.hd.heap_1 w.params).In h₀) (hV : (V,{ cls := .type "dict_items",data := .fields #[.ref 44] }) ∈ news)
    (h : ∀ (D:Addr) o h' tk,Fr h₀ L h' m → News h₀ L h' ((D,o) :: news) → (∀ q ∈ news,q.1 < D) → Q (.ref D) { s with heap:=h',toks:=tk }) :
    wpAny (model P0 w) A (call (.type "list") [.ref V]) Q E s:=by
  refine obEEA (ns_dict (X.keeps F.keep)) ?_;intro kvs ep hD hl
  refine kdx_call (knd:=PySem.strKind P0 w) hh ⟨_,(N _ hV).1,rfl,rfl⟩ hD (by rw [hl,sizeLine_eq];decide) fun h' tk acc c as hk hS _ _ _=>?_
  refine h s.heap.objs.size { cls:=.type "list",dict:=none,data:=.seq acc c,slots:=#[] } h' tk (F.keeps hk) ?_ fun q hq=>Heap.lt_size (N q hq).1
  intro p hp
  rcases List.mem_cons.mp hp with rfl | hp
  · exact ⟨hS,kdx_fresh F (Nat.le_refl _)⟩
  · exact ⟨hk _ _ (N p hp).1,(N p hp).2⟩
end

end
section
open PySem.Builtin in
section
variable {prog : Program} {w : World} {A : Around} {E : Value → Shared → Prop} {s : Shared}

theorem next_list_raises {it l : Addr} {i : Nat} {items : Array Value} {Q : Option Value → Shared → Prop} (hh : A.handled = none)
    (hit : s.heap.IsListIter it l i) (hl : s.heap.IsList l items) (hx : items[i]? = none)
    (hE : ∀ e h' a o,h'.get? e = some o → o.cls = .type "StopIteration" → o.data = .fields #[a,.none,.none,.none,.bool false,.none] → Heap.ExtBut it s.heap h' → E (.ref e) { s with heap:=h' }) :
    wpAny (model prog w) A (callSpecial? (.ref it) "__next__") Q E s:=by
  refine obEAA hit ?_;intro o ho hc hd
  refine obEAAE hl ?_;clear hl;intro ol hol _ nl hdl
  refine wpAny_callSpecial?_slot (name:=Str.ofString "__next__") hit.typeIs slot_listiter_next
    (wpAny_call_entry slot_listiter_next hit.typeIs entry_listiter_next ?_ (args_listiter_next _))
  show wpAny _ _ (field (.ref it) 0 >>= _) _ _ s
  refine wpAny_bind (wpAny_field ho hd (x:=.ref l) rfl ?_)
  show wpAny _ _ (if (Value.ref l == Value.none) = true then _ else _) _ _ s
  rw [if_neg (show ¬ ((Value.ref l == Value.none) = true) from Bool.false_ne_true)]
  show wpAny _ _ (field (.ref it) 1 >>= _) _ _ s
  refine wpAny_bind (wpAny_field ho hd (x:=.int i 0) rfl ?_)
  show wpAny _ _ (seqItems? (.ref l) >>= _) _ _ s
  refine wpAny_bind (wpAny_seqItems hol hdl ?_)
  simp only [Int.toNat_natCast,hx]
  refine wpAny_bind (wpAny_rule (wpAny_bind (wpAny_setField ho hd (by simp) ?_)))
  show wpAny _ _ (newExc (.type "StopIteration") [] >>= _) _ _ _
  refine wpAny_bind ?_
  simp only [newExc,newTuple]
  refine wpAny_bind (wpAny_newObj_type ?_ (by size_fits))
  refine wpAny_bind (m:=firstArgMember _ _) (wpAny_of_eq (a:=Value.none) (by first | rfl | (simp only [firstArgMember];rfl)) ?_)
  refine wpAny_newObj_type ?_ (by size_fits)
  simp only [raiseNew]
  refine wpAny_bind (wpAny_handled ?_)
  rw [show A.in1.handled = none from hh]
  refine wpAny_bind (wpAny_pure (wpAny_throw ?_))
  exact hE _ _ _ _ (Heap.get?_push_size _ rfl) rfl rfl (((Heap.SameBut.update ..).extBut.push _).push _)
end

section
variable {prog : Program} {w : World} {A : Around} {R : GenEnd} {Y : Protocol} {n : Nat} {s₀ : Shared} {c : Code} {fs : List Frame} {s : Shared} {env : Env}
  {K:Flow → Sem Fin} {H:Value → Sem Fin} {gd : Bool → Bool} {lv : List Value → List Value}

noncomputable def ownK (env : Env) (K : Flow → Sem Fin) (H : Value → Sem Fin) (gd : Bool → Bool) (lv : List Value → List Value) (r : Result) : Sem Fin :=
  ((match r with | .ok f=>(.pure f : Sem Flow) | .error e=>.raise e).onRaise fun (x:Value)=>do
        if (← field x 1) == Value.none then unsupported "frame.own-activation:exception-without-traceback"
        setFlight x env.frame).wrap K H gd lv

theorem seg_For {target iter : _} {body : List Stmt} {pos : Pos}
    (h:wpAny (model prog w) (A.over c fs) (eval iter env) (fun x s₁=>wpAny (model prog w) (A.over c fs) (pyIter x) (fun it s₂=>
      ∀ p,Seg (model prog w) A R Y n s₀ (.forLoop target it body [] env) ((model prog w).den (.forLoop target it body [] env)) (.ret (ownK env K H gd lv) none (gd false) (lv []) c p [] :: fs) s₂) (fun _ _=>False) s₁) (fun _ _=>False) s)
    (hs : ∀ x,foldedSetIterable iter env x = pure x) :
    Seg (model prog w) A R Y n s₀ c ((exec (.For target iter body [] pos) env).wrap K H gd lv) fs s:=by
  rw [exec_For]
  refine seg_bind_wrap (wpAny_standAt ?_)
  refine seg_bind_wrap (wpAny_mono h (fun x s₁ h₁=>?_) fun _ _ f=>f.elim)
  refine seg_bind_wrap (wpAny_of_eq (hs x) ?_)
  refine seg_bind_wrap (wpAny_standAt ?_)
  refine seg_bind_wrap (wpAny_holding (wpAny_mono h₁ (fun it s₂ h₂=>?_) fun _ _ f=>f.elim))
  exact seg_call h₂

noncomputable def forK (target : Expr) (it : Value) (body : List Stmt) (env : Env) : Flow → Sem Fin
  | .next | .cont=>.pure (.again (.forLoop target it body [] env))
  | .brk=>.pure (.done .next)
  | .ret v=>.pure (.done (.ret v))
noncomputable def forH (env : Env) (e : Value) : Sem Fin := (do noteFrame e env;theTreesLotGoes e : Sem Unit).bind fun _=>.raise e

theorem seg_forTurn {x : Str} {px : Pos} {it : Value} {body : List Stmt} (hx : env.kindOf x = some .local) (hp : (env.scope.kind == .class || (env.scope.kind == .module && env.locals != env.globals)) = false)
    (h:wpAny (model prog w) (A.over (.forLoop (.Name x px) it body [] env) fs) (pyNext it) (fun r s₁=>match r with
      | none=>Seg (model prog w) A R Y n s₀ (.block [] env) (.pure (.done .next)) fs s₁
      | some v=>∃ m,s₁.heap.Ns env.locals m ∧ ∀ h₂,h₂.Ns env.locals (fun y=>if y = x then some v else m y) → Heap.SameBut env.locals s₁.heap h₂ →
          Seg (model prog w) A R Y n s₀ (.forLoop (.Name x px) it body [] env) ((execs body env).wrap (forK (.Name x px) it body env) (forH env) id id) fs { s₁ with heap:=h₂,toks:=s₁.toks + 1 }) (fun _ _=>False) s) :
    Seg (model prog w) A R Y n s₀ (.forLoop (.Name x px) it body [] env) ((model prog w).den (.forLoop (.Name x px) it body [] env)) fs s:=by
  show Seg _ A R Y n s₀ _ ((forTurn (.Name x px) it body [] env).onRaise (fun x=>do noteFrame x env;theTreesLotGoes x)) fs s
  unfold forTurn
  rw [Sem.onRaise_eq_wrap]
  refine seg_bind_wrap (wpAny_standAt ?_)
  refine seg_bind_wrap (wpAny_onRaise (wpAny_mono h (fun r s₁ h₁=>?_) fun _ _ f=>f.elim))
  cases r with
  | none=>exact seg_again rfl h₁
  | some v =>
    refine obEA h₁ ?_;clear h₁;intro m hn k
    refine seg_bind_wrap (wpAny_of_eq (rfl : letOwnedTupleGo (.Name x px) it v = pure ()) ?_)
    refine seg_bind_wrap (wpAny_assign_Name (wpAny_storeName_local hx hn (fun h₂ hn₂ hs₂=>?_) hp))
    rw [Sem.bind_eq_wrap',Sem.wrap_wrap]
    rw [Sem.wrap_congr (execs body env) _ _ (K':=forK (.Name x px) it body env) (H':=forH env) (fun f=>by cases f <;> rfl) (fun e=>by rfl)]
    exact k h₂ hn₂ hs₂
end

end
section
theorem entry_yf : entryFor table "proto.yield_from" = some PySem.Builtin.«proto.yield_from» := entryFor_of_tree (by kernel_rfl)
theorem li_no_close : typeLookup (.type "list_iterator") "close" = pure none := by rw [typeLookup_type,builtinLookup_eq_fast];kernel_rfl

section
variable {prog : Program} {w : World} {A : Around} {R : GenEnd} {Y : Protocol} {n : Nat} {s₀ : Shared} {fs : List Frame} {s : Shared}
noncomputable abbrev yfC (it : Addr) : Code := .builtin "proto.yield_from" ⟨[.ref it,.bool false,.none],[]⟩

theorem den_builtin {id : String} {args : Args} {b : Builtin} (hb : entryFor table id = some b) : (model prog w).den (.builtin id args) = b args := by
  show (match entryFor table id with | some b=>b args | none=>unsupported ((withoutEnding? id "#data").getD id)) = _
  rw [hb]
theorem yf_den (it : Addr) : (model prog w).den (yfC it) = PySem.Builtin.«proto.yield_from» ⟨[.ref it,.bool false,.none],[]⟩ := den_builtin entry_yf

theorem wpAny_slept {it : Addr} {o : Obj} {b : Bool} {Q : Unit → Shared → Prop} {E : Value → Shared → Prop} (ho : s.heap.get? it = some o) (hc : o.cls = .type "list_iterator") (hQ : Q () s) :
    wpAny (model prog w) A (PySem.Builtin.Generator.sleptOver (.ref it) b) Q E s:=by
  unfold PySem.Builtin.Generator.sleptOver
  refine wpAny_bind (wpAny_load ho ?_)
  rw [hc,if_pos (by decide)]
  exact wpAny_pure hQ

theorem seg_yf_item {it l : Addr} {i : Nat} {items : Array Value} {v : Value} (hfs : splitAtGen fs = none) (hfg : fs.any Frame.guarded = false)
    (hit : s.heap.IsListIter it l i) (hl : s.heap.IsList l items) (hx : items[i]? = some v)
    (hQ : ∀ h',h'.IsListIter it l (i+1) → Heap.SameBut it s.heap h' → ∀ kap : Resume → Shared → Prop,
      (∀ s'' o,s''.heap.get? it = some o → o.cls = .type "list_iterator" → Seg (model prog w) A R Y n s'' (yfC it) ((model prog w).den (yfC it)) fs s'' → kap (.send .none) s'') → Y n s₀ v { s with heap:=h' } kap) :
    Seg (model prog w) A R Y (n+1) s₀ (yfC it) ((model prog w).den (yfC it)) fs s:=by
  rw [yf_den]
  unfold PySem.Builtin.«proto.yield_from»
  refine obEAA hit ?_;intro o ho hc hd
  refine obEAAE hl ?_;intro ol hol _ nl hdl
  dsimp only
  refine seg_bind (wpAny_pure ?_)
  refine seg_bind (wpAny_attempt (wpAny_holding ?_))
  rw [if_neg Bool.false_ne_true,if_pos (by rfl)]
  refine wpAny_bind (wpAny_rule ?_)
  refine wpAny_bind (wpAny_callSpecial?_slot (name:=Str.ofString "__next__") hit.typeIs slot_listiter_next
    (wpAny_call_entry slot_listiter_next hit.typeIs entry_listiter_next ?_ (args_listiter_next _)))
  show wpAny _ _ (field (.ref it) 0 >>= _) _ _ s
  refine wpAny_bind (wpAny_field ho hd (x:=.ref l) rfl ?_)
  show wpAny _ _ (if (Value.ref l == Value.none) = true then _ else _) _ _ s
  rw [if_neg (show ¬ ((Value.ref l == Value.none) = true) from Bool.false_ne_true)]
  show wpAny _ _ (field (.ref it) 1 >>= _) _ _ s
  refine wpAny_bind (wpAny_field ho hd (x:=.int i 0) rfl ?_)
  show wpAny _ _ (seqItems? (.ref l) >>= _) _ _ s
  refine wpAny_bind (wpAny_seqItems hol hdl ?_)
  simp only [Int.toNat_natCast,hx]
  refine wpAny_bind (wpAny_setField ho hd (by simp) (wpAny_pure ⟨v,rfl,wpAny_pure ?_⟩))
  have ho':=Heap.get?_update_self (fun o=>o.mapFields fun f=>f.setIfInBounds 1 (rawInt ((i:Int) + 1))) ho (Obj.isFreed_of_fields (Obj.data_mapFields hd _))
  refine seg_bind (wpAny_typeOf_ref ho' ?_)
  rw [(Obj.cls_mapFields ..).trans hc]
  dsimp only
  refine seg_bind (wpAny_of_eq li_no_close (seg_bind (wpAny_pure ?_)))
  have hc' : (Obj.mapFields (fun f=>f.setIfInBounds 1 (rawInt ((i:Int) + 1))) o).cls = .type "list_iterator" := (Obj.cls_mapFields ..).trans hc
  refine seg_bind (wpAny_slept ho' hc' ?_)
  refine seg_yield (g:=false) (l:=[]) hfs rfl hfg ?_
  refine hQ _ ?_ (Heap.SameBut.update ..) _ fun s'' o'' ho'' hc'' hs=>?_
  · exact ⟨_,ho',hc',by rw [Obj.data_mapFields hd];simp [rawInt]⟩
  · show Seg _ _ _ _ _ _ _ (PySem.Builtin.Generator.sleptOver (.ref it) false >>= _) _ _
    exact seg_bind (wpAny_slept ho'' hc'' (seg_bind (wpAny_pure (seg_again (Code.quiet_builtin _ (by decide +kernel)) hs))))

theorem seg_yf_end {it l : Addr} {i : Nat} {items : Array Value} {k h g le c₁ p₁ kp} (hh : (A.over (yfC it) (.ret k h g le c₁ p₁ kp :: fs)).handled = none)
    (hit : s.heap.IsListIter it l i) (hl : s.heap.IsList l items) (hx : items[i]? = none)
    (hQ : ∀ h',Heap.ExtBut it s.heap h' → Seg (model prog w) A R Y n s₀ c₁ (k (.ok (.ret .none))) fs { s with heap:=h' }) :
    Seg (model prog w) A R Y n s₀ (yfC it) ((model prog w).den (yfC it)) (.ret k h g le c₁ p₁ kp :: fs) s:=by
  rw [yf_den]
  unfold PySem.Builtin.«proto.yield_from»
  dsimp only
  refine seg_bind (wpAny_pure ?_)
  refine seg_bind (wpAny_attempt (wpAny_holding ?_))
  rw [if_neg Bool.false_ne_true,if_pos (by rfl)]
  refine wpAny_bind (wpAny_rule ?_)
  refine wpAny_bind (next_list_raises hh hit hl hx fun e h' a o ho hc hd hE=>?_)
  dsimp only
  refine seg_bind (m:=PySem.Builtin.Generator.endsTheTurnAsAValue false (.ref e)) ?_
  unfold PySem.Builtin.Generator.endsTheTurnAsAValue PySem.Builtin.Generator.isStopAndMetaclass
  refine wpAny_bind (wpAny_bind (wpAny_typeOf_ref ho ?_))
  rw [hc]
  dsimp only
  refine wpAny_bind (wpAny_of_eq isSubtype_stop (wpAny_bind (wpAny_of_eq (a:=.type "type") rfl (wpAny_pure ?_))))
  rw [if_neg Bool.false_ne_true]
  refine wpAny_pure ?_
  rw [if_pos rfl,if_neg Bool.false_ne_true]
  refine seg_bind (wpAny_rule ?_)
  refine seg_bind (wpAny_field ho hd (x:=.none) rfl ?_)
  exact seg_leaf (.ok (.ret .none)) (hQ _ hE)
end

end
section
section
variable {prog : Program} {w : World} {A : Around} {R : GenEnd} {Y : Protocol} {n : Nat} {s₀ : Shared} {c : Code} {fs : List Frame} {s : Shared} {env : Env}
  {K:Flow → Sem Fin} {H:Value → Sem Fin} {gd : Bool → Bool} {lv : List Value → List Value}

theorem seg_If {test : Expr} {body orelse : List Stmt} {pos : Pos}
    (h:wpAny (model prog w) (A.over c fs) (isTrue test env (eval test env)) (fun b s₁=>Seg (model prog w) A R Y n s₀ c ((execs (if b = true then body else orelse) env).wrap K H gd lv) fs s₁) (fun _ _=>False) s) :
    Seg (model prog w) A R Y n s₀ c ((exec (.If test body orelse pos) env).wrap K H gd lv) fs s:=by
  rw [exec_If]
  refine seg_bind_wrap (wpAny_standAt ?_)
  refine seg_bind_wrap (wpAny_mono h (fun b s₁ h₁=>?_) fun _ _ f=>f.elim)
  cases b <;> exact h₁

theorem seg_ExprYF {x : Str} {p2 p3 p4 : Pos} {l : Addr} {items : Array Value} {m : Str → Option Value} (hsc : env.scope.kind = .function) (hx : env.kindOf x = some .local) (hd : (x == ("__debug__" : Str)) = false)
    (hi : interactive env = false) (hn : s.heap.Ns env.locals m) (hm : m x = some (.ref l)) (hl : s.heap.IsList l items)
    (h : ∀ h',h'.IsListIter s.heap.objs.size l 0 → (∀ b o,s.heap.get? b = some o → h'.get? b = some o) → ∀ p k,k (.ok (.ret .none)) = K .next →
      Seg (model prog w) A R Y n s₀ (yfC s.heap.objs.size) ((model prog w).den (yfC s.heap.objs.size)) (.ret k none (gd false) (lv []) c p [] :: fs) { s with heap:=h' }) :
    Seg (model prog w) A R Y n s₀ c ((exec (.Expr (.YieldFrom (.Name x p2) p3) p4) env).wrap K H gd lv) fs s:=by
  rw [exec_Expr env _ p4 hi rfl]
  refine seg_bind_wrap (wpAny_standAt ?_)
  show Seg _ _ _ _ _ _ _ (((eval (.Name x p2) env >>= fun v=>standAt p3 >>= fun _=>yieldFrom env v) >>= fun v=>dropValue (.YieldFrom (.Name x p2) p3) p4 v).wrap K H gd lv) _ _
  rw [Sem.bind_eq_wrap',Sem.wrap_wrap,eval_Name env x p2 hd]
  refine seg_bind_wrap (wpAny_bind (wpAny_standAt (wpAny_loadName_local hsc hx hn hm ?_)))
  refine seg_bind_wrap (wpAny_standAt ?_)
  unfold yieldFrom
  refine seg_bind_wrap (wpAny_typeOf hl.typeIs ?_)
  rw [if_neg (by decide)]
  refine seg_bind_wrap (wpAny_holding (wpAny_pyIter_list hl ?_))
  refine seg_call fun p=>?_
  refine h _ ?_ ?_ _ _ ?_
  · exact ⟨_,Heap.get?_push_size _ rfl,rfl,rfl⟩
  · exact fun b o hb=>Heap.get?_push_of_some _ hb
  · rfl
end

end
section
section
variable {prog : Program} {w : World} {A : Around} {R : GenEnd} {Y : Protocol} {n : Nat} {s₀ : Shared} {c : Code} {fs : List Frame} {s : Shared} {env : Env}
  {K:Flow → Sem Fin} {H:Value → Sem Fin} {gd : Bool → Bool} {lv : List Value → List Value} {E:Value → Shared → Prop}

theorem eval_reversed_call {rv x : Str} {p p' pos : Pos} {m : Str → Option Value} {l : Addr} {items : Array Value} {Q : Value → Shared → Prop}
    (hsc : env.scope.kind = .function) (hr : env.kindOf rv = some .local) (hx : env.kindOf x = some .local) (hdr : (rv == ("__debug__" : Str)) = false) (hdx : (x == ("__debug__" : Str)) = false)
    (hn : s.heap.Ns env.locals m) (hmr : m rv = some (.type "reversed")) (hmx : m x = some (.ref l)) (hl : s.heap.IsList l items)
    (hQ : Q (.ref s.heap.objs.size) { s with heap:=s.heap.push (revObj l ((items.size : Int) - 1)) }) :
    wpAny (model prog w) A (eval (.Call (.Name rv p) [.Name x p'] [] pos) env) Q E s:=by
  rw [arm_eval_Call_Name',eval_Name env rv p hdr]
  refine wpAny_bind (wpAny_bind (wpAny_standAt (wpAny_loadName_local hsc hr hn hmr ?_)))
  refine PySem.callWith_type rfl ?_
  show wpAny _ _ (evalArgs (.type "reversed") true [(false,eval (.Name x p') env)] []) _ _ _
  refine evalArgs_plain (spliced_cons ?_)
  rw [eval_Name env x p' hdx]
  refine wpAny_bind (wpAny_standAt (wpAny_loadName_local hsc hx hn hmx ?_))
  refine spliced_nil ?_
  exact call_reversed_list hl hQ

structure GH (h : Heap) (C I l xl : Addr) (items : Array Value) (t : Value) : Prop where
  ls : h.IsList l items
  x0 : items[0]? = some (.ref xl)
  xs : h.IsList xl #[t]
  em : ∀ j,0 < j → j < items.size → ∃ e,items[j]? = some (.ref e) ∧ h.IsList e #[] ∧ e ≠ I ∧ e ≠ C
  lI : l ≠ I
  lC : l ≠ C
  xI : xl ≠ I
  xC : xl ≠ C
  IC : I ≠ C
theorem GH.keep {h h' : Heap} {C I l xl : Addr} {items : Array Value} {t : Value} (g : GH h C I l xl items t) (k : ∀ b o,b ≠ C → b ≠ I → h.get? b = some o → h'.get? b = some o) : GH h' C I l xl items t :=
  { g with
    ls:=g.ls.at fun o e=>k _ o g.lC g.lI e
    xs:=g.xs.at fun o e=>k _ o g.xC g.xI e
    em:=fun j h1 h2=>let ⟨e,a,b,c,d⟩:=g.em j h1 h2;⟨e,a,b.at fun o eo=>k _ o d c eo,c,d⟩ }

noncomputable def Kp (C I : Addr) (s s' : Shared) : Prop := ∃ h' tk,s' = { s with heap := h',toks := tk } ∧ ∀ b o,b ≠ C → b ≠ I → s.heap.get? b = some o → h'.get? b = some o
theorem Kp.refl (C I : Addr) (s : Shared) : Kp C I s s := ⟨s.heap,s.toks,rfl,fun _ _ _ _ e=>e⟩
variable {x : Str} {px p1 p2 p3 p4 p5 : Pos} {I l xl : Addr} {items : Array Value} {t : Value}
noncomputable abbrev gBody (x : Str) (p1 p2 p3 p4 p5 : Pos) : List Stmt := [.If (.Name x p1) [.Expr (.YieldFrom (.Name x p2) p3) p4] [] p5]
noncomputable abbrev gLoop (x : Str) (px p1 p2 p3 p4 p5 : Pos) (I : Addr) (env : Env) : Code := .forLoop (.Name x px) (.ref I) (gBody x p1 p2 p3 p4 p5) [] env

theorem seg_empties (hsc : env.scope.kind = .function) (hx : env.kindOf x = some .local) (hdx : (x == ("__debug__" : Str)) = false)
    :
    ∀ (j : Nat) (s : Shared) (m : Str → Option Value), j < items.size → (items.size : Int) < 2 ^ 63 → s.heap.Ns env.locals m → s.heap.IsRevIter I l (j : Int) → GH s.heap env.locals I l xl items t →
      (∀ s' m',Kp env.locals I s s' → s'.heap.Ns env.locals m' → s'.heap.IsRevIter I l ((0:Nat) : Int) → GH s'.heap env.locals I l xl items t →
        Seg (model prog w) A R Y n s₀ (gLoop x px p1 p2 p3 p4 p5 I env) ((model prog w).den (gLoop x px p1 p2 p3 p4 p5 I env)) fs s') →
      Seg (model prog w) A R Y n s₀ (gLoop x px p1 p2 p3 p4 p5 I env) ((model prog w).den (gLoop x px p1 p2 p3 p4 p5 I env)) fs s:=by
  have hp : (env.scope.kind == .class || (env.scope.kind == .module && env.locals != env.globals)) = false:=by rw [hsc];rfl
  intro j
  induction j with
  | zero=>intro s m _ _ hn hi g k;exact k s m (Kp.refl ..) hn hi g
  | succ j ih =>
    intro s m hj hfit hn hi g k
    refine obEAAA (g.em (j + 1) (by omega) hj) ?_;intro e hxe hle heI heC
    refine seg_forTurn hx hp (wpAny_pyNext_rev_item hi g.ls hxe fun h' hi' hs'=>?_)
    refine ⟨m,hn.at' fun o eo=>(hs'.2 _ g.IC.symm).trans eo,fun h₂ hn₂ hs₂=>?_⟩
    have k₂ : ∀ b o,b ≠ env.locals → b ≠ I → s.heap.get? b = some o → h₂.get? b = some o:=fun b o hC hI e=>(hs₂.2 b hC).trans ((hs'.2 b hI).trans e)
    refine seg_execs_cons (seg_If ?_)
    refine wpAny_isTrue_value ?_
    rw [eval_Name env x p1 hdx]
    refine wpAny_bind (wpAny_standAt (wpAny_loadName_local (v:=.ref e) hsc hx hn₂ (by simp) ?_))
    refine wpAny_truthy_list (hle.at fun o eo=>k₂ _ o heC heI eo) (by simp) ?_
    refine seg_execs_nil (seg_execs_nil (seg_again rfl ?_))
    have hi'' : ((j + 1 : Nat) : Int) - 1 = (j:Int):=by omega
    rw [hi''] at hi'
    refine ih _ _ (by omega) hfit hn₂ (hi'.at fun o eo=>(hs₂.2 _ g.IC).trans eo) (g.keep k₂) fun s' m' kp hn' hi' g'=>k s' m' ?_ hn' hi' g'
    refine obEEA kp ?_;clear kp;intro h₃ tk₃ oR2 hk₃;subst oR2
    exact ⟨h₃,tk₃,rfl,fun b o hC hI e=>hk₃ b o hC hI (k₂ b o hC hI e)⟩

noncomputable def gY (t : Value) (l xl z : Addr) (items : Array Value) (C : Addr) : Protocol := fun m s₀ v s kap=>v = t ∧ m = 0 ∧ (∃ h' tk,s = { s₀ with heap := h',toks := tk } ∧ ∀ b o,b ≠ C → s₀.heap.get? b = some o → h'.get? b = some o) ∧
  ∃ I oI J oJ,z ≤ I ∧ I < J ∧ s.heap.get? I = some oI ∧ s.heap.get? J = some oJ ∧
  ∀ s'' : Shared,s''.heap.get? I = some oI → s''.heap.get? J = some oJ → s''.heap.IsList l items → s''.heap.IsList xl #[t] → kap (.send .none) s''
noncomputable def gR (C z : Addr) : GenEnd := fun n s₀ r s₁=>r = .ok (.ret .none) ∧ (n = 0 ∧ ∃ h' tk,s₁ = { s₀ with heap := h',toks := tk } ∧ ∀ b o,b ≠ C → b < z → s₀.heap.get? b = some o → h'.get? b = some o)

theorem seg_last {z : Addr} {kf h₀ g₀ lf c₁ p₁ kp} {m : Str → Option Value} (hsc : env.scope.kind = .function) (hx : env.kindOf x = some .local) (hdx : (x == ("__debug__" : Str)) = false)
    (hit : interactive env = false) (hA : A.handled = none) (hz : z ≤ I)
    (hI0 : s₀.heap.get? I = none)
    (h₀e : h₀ = none) (hg₀ : g₀ = false)
    (hn : s.heap.Ns env.locals m) (hi : s.heap.IsRevIter I l ((0:Nat) : Int)) (g:GH s.heap env.locals I l xl items t)
    (hs : ∃ h' tk,s = { s₀ with heap:=h',toks:=tk } ∧ ∀ b o,b ≠ env.locals → s₀.heap.get? b = some o → h'.get? b = some o)
    (k : ∀ s₀ s',(∃ h' tk,s' = { s₀ with heap:=h',toks:=tk } ∧ ∀ b o,b ≠ env.locals → b < z → s₀.heap.get? b = some o → h'.get? b = some o) →
      Seg (model prog w) A (gR env.locals z) (gY t l xl z items env.locals) 0 s₀ c₁ (kf (.ok .next)) [] s') :
    Seg (model prog w) A (gR env.locals z) (gY t l xl z items env.locals) 1 s₀ (gLoop x px p1 p2 p3 p4 p5 I env) ((model prog w).den (gLoop x px p1 p2 p3 p4 p5 I env)) [.ret kf h₀ g₀ lf c₁ p₁ kp] s:=by
  have hp : (env.scope.kind == .class || (env.scope.kind == .module && env.locals != env.globals)) = false:=by rw [hsc];rfl
  subst h₀e hg₀
  refine seg_forTurn hx hp (wpAny_pyNext_rev_item hi g.ls g.x0 fun h' hi' hs'=>?_)
  refine ⟨m,hn.at' fun o eo=>(hs'.2 _ g.IC.symm).trans eo,fun h₂ hn₂ hs₂=>?_⟩
  have k₂ : ∀ b o,b ≠ env.locals → b ≠ I → s.heap.get? b = some o → h₂.get? b = some o:=fun b o hC hI e=>(hs₂.2 b hC).trans ((hs'.2 b hI).trans e)
  have g₂:=g.keep k₂
  refine seg_execs_cons (seg_If ?_)
  refine wpAny_isTrue_value ?_
  rw [eval_Name env x p1 hdx]
  refine wpAny_bind (wpAny_standAt (wpAny_loadName_local (v:=.ref xl) hsc hx hn₂ (by simp) ?_))
  refine wpAny_truthy_list g₂.xs (by simp) ?_
  refine seg_execs_cons (seg_ExprYF (l:=xl) hsc hx hdx hit hn₂ (by simp) g₂.xs fun h₃ hli hk₃ p' k' hk'=>?_)
  refine seg_yf_item (v:=t) rfl rfl hli (g₂.xs.at fun o e=>hk₃ _ o e) rfl fun h₄ hli₄ hs₄ kap hkap=>?_
  refine obEAA hi' ?_;intro oi hoi hci hdi
  have hoi₂ : h₂.get? I = some oi:=(hs₂.2 _ g.IC).trans hoi
  have hIlt:=Heap.lt_size hoi₂
  have hIL : I ≠ h₂.objs.size:=Nat.ne_of_lt hIlt
  refine obEAA hli₄ ?_;intro oj hoj hcj hdj
  refine ⟨rfl,rfl,?_,I,oi,h₂.objs.size,oj,hz,hIlt,(hs₄.2 I hIL).trans (hk₃ I oi hoi₂),hoj,fun s'' hI'' hJ'' hl'' hxl''=>?_⟩
  · refine obEEA hs ?_; clear hs; intro hX tkX oR2 hkX; subst oR2
    refine ⟨h₄,_,rfl,fun b o hbC hb=>?_⟩
    have hbI : b ≠ I:=fun e=>by rw [e,hI0] at hb;cases hb
    have hb₂:=k₂ b o hbC hbI (hkX b o hbC hb)
    exact (hs₄.2 b (fun e=>absurd (Heap.lt_size hb₂) (by rw [e];exact Nat.lt_irrefl _))).trans (hk₃ b o hb₂)
  · have hli'' : s''.heap.IsListIter h₂.objs.size xl 1 := ⟨oj, hJ'', hcj, hdj⟩
    have hi'' : s''.heap.IsRevIter I l (-1):=⟨oi,hI'',hci,hdi⟩
    refine hkap s'' oj hJ'' hcj (seg_yf_end (by exact hA) hli'' hxl'' rfl fun h₅ hk₅=>?_)
    rw [hk']
    refine seg_execs_nil (seg_execs_nil (seg_again rfl ?_))
    have hi₅ : h₅.IsRevIter I l (-1):=hi''.at fun o e=>hk₅ _ o hIL e
    refine seg_forTurn hx hp (wpAny_pyNext_rev_end (by exact hA) hi₅ fun h₆ hk₆=>?_)
    refine seg_leaf (.ok .next) (k s'' _ ⟨h₆,s''.toks,rfl,fun b o hbC hbz hb=>?_⟩)
    exact hk₆ b o (Nat.ne_of_lt (Nat.lt_of_lt_of_le hbz hz)) (hk₅ b o (Nat.ne_of_lt (Nat.lt_trans (Nat.lt_of_lt_of_le hbz hz) hIlt)) hb)
end

end
section
section
variable {prog : Program} {w : World} {A : Around} {s : Shared} {env : Env}
variable {x rv st : Str} {px pr pst pc pf p1 p2 p3 p4 p5 : Pos} {l xl : Addr} {items : Array Value} {t : Value}
noncomputable abbrev gFunc (x rv st : Str) (px pr pst pc pf p1 p2 p3 p4 p5 : Pos) : List Stmt := [.For (.Name x px) (.Call (.Name rv pr) [.Name st pst] [] pc) (gBody x p1 p2 p3 p4 p5) [] pf]

structure GS (h : Heap) (l xl : Addr) (items : Array Value) (t : Value) : Prop where
  ls : h.IsList l items
  x0 : items[0]? = some (.ref xl)
  xs : h.IsList xl #[t]
  em : ∀ j,0 < j → j < items.size → ∃ e,items[j]? = some (.ref e) ∧ h.IsList e #[]

structure GE (env : Env) (m : Str → Option Value) (x rv st : Str) (l : Addr) : Prop where
  sc : env.scope.kind = .function
  kx : env.kindOf x = some .local
  kr : env.kindOf rv = some .local
  ks : env.kindOf st = some .local
  dx : (x == ("__debug__" : Str)) = false
  dr : (rv == ("__debug__" : Str)) = false
  ds : (st == ("__debug__" : Str)) = false
  it : interactive env = false
  mr : m rv = some (.type "reversed")
  ms : m st = some (.ref l)

theorem ne_of_class {h : Heap} {l : Addr} {items : Array Value} {C : Addr} {m : Str → Option Value} (hl : h.IsList l items) (hn : h.Ns C m) : l ≠ C := by
  rintro rfl
  refine obEAAE hl ?_;clear hl;intro o ho hc k hd
  refine obEEEAA hn ?_;clear hn;intro o' es ep ho' hd' _
  rw [ho] at ho'
  cases ho'
  rw [hd] at hd'
  cases hd'

theorem get_size_none (h : Heap) : h.get? h.objs.size = none := by
  cases e : h.get? h.objs.size with
  | none=>rfl
  | some o=>exact absurd (Heap.lt_size e) (Nat.lt_irrefl _)

theorem seg_gen {m : Str → Option Value} (ge : GE env m x rv st l) (hA : A.handled = none) (hn : s.heap.Ns env.locals m) (g : GS s.heap l xl items t) (hfit : (items.size : Int) < 2 ^ 63) :
    Seg (model prog w) A (gR env.locals s.heap.objs.size) (gY t l xl s.heap.objs.size items env.locals) 1 s (.func (gFunc x rv st px pr pst pc pf p1 p2 p3 p4 p5) env)
      ((model prog w).den (.func (gFunc x rv st px pr pst pc pf p1 p2 p3 p4 p5) env)) [] s:=by
  refine seg_func (seg_execs_cons (seg_For ?_ fun x=>by rfl))
  refine eval_reversed_call ge.sc ge.kr ge.ks ge.dr ge.ds hn ge.mr ge.ms g.ls ?_
  have hI : (s.heap.push (revObj l ((items.size : Int) - 1))).IsRevIter s.heap.objs.size l ((items.size : Int) - 1):=⟨_,Heap.get?_push_size _ rfl,rfl,rfl⟩
  refine wpAny_pyIter_revIter hI fun p=>?_
  have hpos : 0 < items.size:=by
    rcases Nat.eq_zero_or_pos items.size with e | e
    · have := g.x0
      rw [Array.getElem?_eq_none (by omega)] at this
      cases this
    · exact e
  obtain ⟨j,hj⟩ : ∃ j,items.size = j + 1:=⟨items.size - 1,by omega⟩
  have hIe : ((items.size : Int) - 1) = (j:Int):=by omega
  have up : ∀ b o,s.heap.get? b = some o → (s.heap.push (revObj l ((items.size : Int) - 1))).get? b = some o:=fun b o h=>Heap.get?_push_of_some _ h
  have old : ∀ {e:Addr} {ys : Array Value},s.heap.IsList e ys → e ≠ s.heap.objs.size:=fun h=>let ⟨_,ho,_⟩:=h;Nat.ne_of_lt (Heap.lt_size ho)
  have gh : GH (s.heap.push (revObj l ((items.size : Int) - 1))) env.locals s.heap.objs.size l xl items t:=
    { ls := g.ls.at fun o e => up _ o e
      x0:=g.x0
      xs:=g.xs.at fun o e=>up _ o e
      em:=fun j h1 h2=>let ⟨e,a,b⟩:=g.em j h1 h2;⟨e,a,b.at fun o eo=>up _ o eo,old b,ne_of_class b hn⟩
      lI:=old g.ls
      lC:=ne_of_class g.ls hn
      xI:=old g.xs
      xC:=ne_of_class g.xs hn
      IC:=(Nat.ne_of_lt hn.lt).symm }
  rw [hIe] at hI gh ⊢
  refine seg_empties ge.sc ge.kx ge.dx j _ m (by omega) hfit (hn.at' fun o e=>Heap.get?_push_of_some _ e) hI gh fun s' m' kp hn' hi' g'=>?_
  refine obEEA kp ?_;clear kp;intro h' tk oR2 hk;subst oR2
  refine seg_last ge.sc ge.kx ge.dx ge.it hA (Nat.le_refl _) ?_ rfl rfl hn' hi' g' ?_ fun s₀ s' hs=>?_
  · exact get_size_none _
  · refine ⟨h',tk,rfl,fun b o hb e=>hk b o hb (Nat.ne_of_lt (Heap.lt_size e)) (Heap.get?_push_of_some _ e)⟩
  · exact seg_end (.ok (.ret .none)) ⟨rfl,rfl,hs⟩

noncomputable def GLast (prog : Program) (w : World) (A : Around) (C a z : Addr) (gi : Nat) (l xl : Addr) (items : Array Value) (t : Value) (I J : Addr) (oI oJ : Obj) (gs' : GenState) : Prop :=
  ∀ (s'' : Shared) (E : Value → Shared → Prop) (Q : Option Value → Shared → Prop), s''.heap.get? I = some oI → s''.heap.get? J = some oJ → s''.heap.IsList l items → s''.heap.IsList xl #[t] → s''.heap.IsGen a gi → s''.heap.NoLimit → s''.gens[gi]? = some gs' →
    (∀ h'' tk,(∀ b o,b ≠ C → b < z → s''.heap.get? b = some o → h''.get? b = some o) → Q none { s''.setGen gi .finished with heap:=h'',toks:=tk }) →
    wpAny (model prog w) A (pyNext (.ref a)) Q E s''

theorem next_first {m : Str → Option Value} {a : Addr} {gi : Nat} {E : Value → Shared → Prop} {Q : Option Value → Shared → Prop} (hA : A.handled = none) (hroom : A.depth < recursionLimit) (hl : s.heap.NoLimit)
    (hg : s.heap.IsGen a gi) (hgs : s.gens[gi]? = some (.fresh (.func (gFunc x rv st px pr pst pc pf p1 p2 p3 p4 p5) env))) (ge : GE env m x rv st l) (hn : s.heap.Ns env.locals m) (g:GS s.heap l xl items t) (hfit : (items.size : Int) < 2 ^ 63)
    (hQ : ∀ h' tk gs' I oI J oJ,(∀ b o,b ≠ env.locals → s.heap.get? b = some o → h'.get? b = some o) → s.heap.objs.size ≤ I → I < J → h'.get? I = some oI → h'.get? J = some oJ →
      GLast prog w A env.locals a s.heap.objs.size gi l xl items t I J oI oJ gs' → Q (some t) { s.setGen gi gs' with heap:=h',toks:=tk }) :
    wpAny (model prog w) A (pyNext (.ref a)) Q E s:=by
  have haC : a ≠ env.locals:=by
    rintro rfl
    refine obEEEAAA hg ?_;clear hg;intro o nm qn ho hc hd _
    refine obEEEAA hn ?_;clear hn;intro o' es ep ho' hd' _
    rw [ho] at ho';cases ho';rw [hd] at hd';cases hd'
  refine wpAny_pyNext_gen (P:=fun n s₀ s₁=>n = 0 ∧ ∃ h' tk,s₁ = { s₀ with heap:=h',toks:=tk } ∧ ∀ b o,b ≠ env.locals → b < s.heap.objs.size → s₀.heap.get? b = some o → h'.get? b = some o)
    (n:=1) hA hl hroom hg hgs ⟨rfl,seg_gen (A:=A.in1) (s:=s.setGen gi .running) ge hA hn g hfit⟩ (fun v s₁ gs' hv=>?_) (fun s₁ hp h' hk=>?_)
  · refine obAAAEEEEAAAA hv ?_; clear hv; intro oR0 _ oN2 I oI J oJ hzI hIJ hI hJ hal; subst oR0; obtain ⟨h', tk, rfl, hk⟩ := oN2
    have e : ({ s.setGen gi .running with heap:=h',toks:=tk } : Shared).setGen gi gs' = { s.setGen gi gs' with heap:=h',toks:=tk }:=by
      simp [Shared.setGen]
    rw [e]
    refine hQ h' tk gs' I oI J oJ hk hzI hIJ hI hJ fun s'' E Q hI'' hJ'' hL'' hX'' ha' hl'' hg'' hq=>?_
    refine wpAny_pyNext_gen (P:=fun n s₀ s₁=>n = 0 ∧ ∃ h' tk,s₁ = { s₀ with heap:=h',toks:=tk } ∧ ∀ b o,b ≠ env.locals → b < s.heap.objs.size → s₀.heap.get? b = some o → h'.get? b = some o)
      (n:=0) hA hl'' hroom ha' hg'' (hal (s''.setGen gi .running) hI'' hJ'' hL'' hX'') (fun v s₁ gs' hv=>?_) (fun s₁ hp h₃ hk₃=>?_)
    · refine obAAAEEEEAAAA hv ?_; clear hv; intro _ _ oN2 I' oI' J' oJ' _ _ hI' hJ' hal'; obtain ⟨h₂, tk₂, rfl, hk₂⟩ := oN2
      exact (hal' _ hI' hJ' (hL''.at fun o e=>hk₂ _ o (ne_of_class g.ls hn) e) (hX''.at fun o e=>hk₂ _ o (ne_of_class g.xs hn) e)).elim
    · refine obAEEA hp ?_; clear hp; intro _ h₂ tk₂ oR3 hk₂; subst oR3
      have e : ({ ({ s''.setGen gi .running with heap:=h₂,toks:=tk₂ } : Shared).setGen gi .finished with heap:=h₃ } : Shared) = { s''.setGen gi .finished with heap:=h₃,toks:=tk₂ }:=by
        simp [Shared.setGen]
      rw [e]
      exact hq h₃ tk₂ fun b o hC hz hb=>hk₃ b o (hk₂ b o hC hz hb)
  · exact absurd hp.1 (by decide)
end

end
section
set_option maxRecDepth 100000
structure WA where
  (P q dx x d tup x0 ns st im e0 pm ps : Addr)
structure WT where
  (t0 t1 t2 t3 t4 t5 t6 t7 t8 t9 t10 t11 t12 t13 t14 t15 t16 u a b : Tok)
structure WV where
  (pc : SV) (pn : Nat) (da : SV) (dn : Nat) (es : List Addr) (en : Nat) (sv : List Value) (sn : Nat) (k:Nat) (kn : Nat) (rs rd : Bool) (c:Nat) (mo : Obj)
noncomputable abbrev wEnts (p : Params) (A : WA) (T : WT) (rs rd : Bool) : List DictEntry :=
  [{ hash := PyData.keyHash p (Str.ofString "_write"), key := .str (Str.ofString "_write") T.t0, val := .ref A.q },
   { hash:=PyData.keyHash p (Str.ofString "_data"),key:=.str (Str.ofString "_data") T.t1,val:=.ref A.d },
   { hash:=PyData.keyHash p (Str.ofString "_with_comments"),key:=.str (Str.ofString "_with_comments") T.t2,val:=.bool false },
   { hash:=PyData.keyHash p (Str.ofString "_strip_text"),key:=.str (Str.ofString "_strip_text") T.t3,val:=.bool false },
   { hash:=PyData.keyHash p (Str.ofString "_exclude_attrs"),key:=.str (Str.ofString "_exclude_attrs") T.t4,val:=.none },
   { hash:=PyData.keyHash p (Str.ofString "_exclude_tags"),key:=.str (Str.ofString "_exclude_tags") T.t5,val:=.none },
   { hash:=PyData.keyHash p (Str.ofString "_rewrite_prefixes"),key:=.str (Str.ofString "_rewrite_prefixes") T.t6,val:=.bool false },
   { hash:=PyData.keyHash p (Str.ofString "_qname_aware_tags"),key:=.str (Str.ofString "_qname_aware_tags") T.t7,val:=.none },
   { hash:=PyData.keyHash p (Str.ofString "_find_qname_aware_attrs"),key:=.str (Str.ofString "_find_qname_aware_attrs") T.t8,val:=.none },
   { hash:=PyData.keyHash p (Str.ofString "_declared_ns_stack"),key:=.str (Str.ofString "_declared_ns_stack") T.t9,val:=.ref A.ns },
   { hash:=PyData.keyHash p (Str.ofString "_ns_stack"),key:=.str (Str.ofString "_ns_stack") T.t10,val:=.ref A.st },
   { hash:=PyData.keyHash p (Str.ofString "_prefix_map"),key:=.str (Str.ofString "_prefix_map") T.t11,val:=.ref A.pm },
   { hash:=PyData.keyHash p (Str.ofString "_preserve_space"),key:=.str (Str.ofString "_preserve_space") T.t12,val:=.ref A.ps },
   { hash:=PyData.keyHash p (Str.ofString "_pending_start"),key:=.str (Str.ofString "_pending_start") T.t13,val:=.none },
   { hash:=PyData.keyHash p (Str.ofString "_root_seen"),key:=.str (Str.ofString "_root_seen") T.t14,val:=.bool rs },
   { hash:=PyData.keyHash p (Str.ofString "_root_done"),key:=.str (Str.ofString "_root_done") T.t15,val:=.bool rd },
   { hash:=PyData.keyHash p (Str.ofString "_ignored_depth"),key:=.str (Str.ofString "_ignored_depth") T.t16,val:=.int 0 T.u }]
noncomputable abbrev xmlTup (T : WT) : Obj := { cls := .type "tuple",data := .seq #[.str (Str.ofString "http://www.w3.org/XML/1998/namespace") T.a,.str (Str.ofString "xml") T.b] }
noncomputable abbrev wLed (p : Params) (A : WA) (T : WT) (V : WV) : List (Addr × Obj) :=
  [(A.ps, listOf (List.replicate (V.k + 1) (Value.bool false)).toArray V.kn),
   (A.st,listOf V.sv.toArray V.sn),
   (A.ns,listOf (.ref A.x0 :: V.es.map Value.ref).toArray V.en),
   (A.x0,listOf #[.ref A.tup] 0),
   (A.tup,xmlTup T),
   (A.d,listOf (svs V.da).toArray V.dn),
   (A.x,instObj 150 A.dx),
   (A.dx,dictOf (wEnts p A T V.rs V.rd) V.c),
   (A.q,boundAppend A.P),
   (A.P,listOf (svs V.pc).toArray V.pn)]
noncomputable abbrev wAddrs (A : WA) : List Addr := [A.ps,A.st,A.ns,A.x0,A.tup,A.d,A.x,A.dx,A.q,A.P]
theorem at_of {h₀ h : Heap} {L a : Addr} {o : Obj} {news : List (Addr × Obj)} (N : News h₀ L h news) (hm : (a,o) ∈ news) : h.get? a = some o := (N _ hm).1
structure WOrd (A : WA) : Prop where
  o1 : A.P < A.q
  o2 : A.q < A.dx
  o3 : A.dx < A.x
  o4 : A.x < A.d
  o5 : A.d < A.tup
  o6 : A.tup < A.x0
  o7 : A.x0 < A.ns
  o8 : A.ns < A.st
  o9 : A.st < A.ps

end
section
set_option maxRecDepth 100000
noncomputable abbrev nsN : Str := Str.ofString "namespaces"
noncomputable abbrev rvN : Str := Str.ofString "_reversed"
noncomputable abbrev stN : Str := Str.ofString "ns_stack"
section
variable {w : World} {A : Around} {E : Value → Shared → Prop} {s : Shared}

theorem call_iterns {x l : Addr} {Q : Value → Shared → Prop} (hroom : A.depth < recursionLimit) (X : (Mine.hd.heap_1 w.params).In s.heap) (hl : s.heap.NoLimit)
  (h : ∀ (env : Env) (px pr pst pc pf p1 p2 p3 p4 p5 : Pos) (m:Str → Option Value) h' tk,env.locals = s.heap.objs.size → GE env m nsN rvN stN l → h'.Ns env.locals m → h'.IsGen (s.heap.objs.size + 1) s.gens.size →
    h'.objs.size = s.heap.objs.size + 2 → (∀ b o,s.heap.get? b = some o → h'.get? b = some o) →
    Q (.ref (s.heap.objs.size + 1)) { s with heap:=h',gens:=s.gens.push (.fresh (.func (gFunc nsN rvN stN px pr pst pc pf p1 p2 p3 p4 p5) env)),toks:=tk }) :
  wpAny (model P0 w) A (call (.ref 75) [.ref x,.ref l]) Q E s:=by
  refine wpAny_call (codeAny_call_generator hroom (X 75 _ rfl) rfl rfl rfl rfl (codeRec_of X (by rfl)) ?_)
  refine BindsTo.of_defaults (binds:=[(Str.ofString "self",.ref x),(stN,.ref l),(rvN,.type "reversed")]) rfl (X 68 _ rfl) rfl rfl rfl _ _ _ _ ?_
  refine wpAny_newFunctionEnv (by decide) (locs rfl) (fun h₁ hn hs=>⟨hl.fresh _ hs,?_⟩) rfl
  have sz : h₁.objs.size = s.heap.objs.size + 1:=by rw [hs.1,Heap.size_push]
  show Q (.ref h₁.objs.size) _
  rw [sz]
  refine h _ _ _ _ _ _ _ _ _ _ _ (fun y=>[(Str.ofString "self",.ref x),(stN,.ref l),(rvN,Value.type "reversed")].reverse.lookup y) _ _ rfl ?_ (hn.push _) ?_ ?_ ?_
  · exact ⟨rfl,rfl,rfl,rfl,by decide +kernel,by decide +kernel,by decide +kernel,rfl,by with_unfolding_all rfl,by with_unfolding_all rfl⟩
  · rw [← sz];exact ⟨_,_,_,Heap.get?_push_size _ rfl,rfl,rfl,rfl⟩
  · rw [Heap.size_push,sz]
  · exact fun b o e=>Heap.get?_push_of_some _ (hs.extBut b o (Nat.ne_of_lt (Heap.lt_size e)) (Heap.get?_push_of_some _ e))

structure GReady (s : Shared) (G gi : Nat) (genv : Env) (px pr pst pc pf p1 p2 p3 p4 p5 : Pos) (m : Str → Option Value) (l xl : Addr) (items : Array Value) (t : Value) : Prop where
  gen : s.heap.IsGen G gi
  fresh : s.gens[gi]? = some (.fresh (.func (gFunc nsN rvN stN px pr pst pc pf p1 p2 p3 p4 p5) genv))
  ge : GE genv m nsN rvN stN l
  ns : s.heap.Ns genv.locals m
  gs : GS s.heap l xl items t
  fit : (items.size : Int) < 2 ^ 63
  lim : s.heap.NoLimit
structure GEnd (Q : Flow → Shared → Prop) (s₁ : Shared) (G gi Cg l xl t : Nat) (items : Array Value) (gs' : GenState) (I : Addr) (oI : Obj) (J : Addr) (oJ : Obj) (f : Flow) (s₃ : Shared) : Prop where
  fl : f = .next
  hI : s₃.heap.get? I = some oI
  hJ : s₃.heap.get? J = some oJ
  hl : s₃.heap.IsList l items
  hx : s₃.heap.IsList xl #[.ref t]
  hG : s₃.heap.IsGen G gi
  hlim : s₃.heap.NoLimit
  hg : s₃.gens = (s₁.setGen gi gs').gens
  hq : ∀ h₄ tk',(∀ b o,b ≠ Cg → b < s₁.heap.objs.size → s₃.heap.get? b = some o → h₄.get? b = some o) → Q .next { s₃.setGen gi .finished with heap:=h₄,toks:=tk' }
noncomputable def GTurn (w : World) (A : Around) (env : Env) (target : Expr) (body : List Stmt) (Q : Flow → Shared → Prop) (xv : Value) (s₁ : Shared) : Prop :=
  ∃ (G : Addr) (gi : Nat) (genv : Env) (px pr pst pc pf p1 p2 p3 p4 p5 : Pos) (m : Str → Option Value) (l xl : Addr) (items : Array Value) (t : Addr), xv = .ref G ∧
    GReady s₁ G gi genv px pr pst pc pf p1 p2 p3 p4 p5 m l xl items (.ref t) ∧
    ∀ h₂ tk gs' I oI J oJ, (∀ b o, b ≠ genv.locals → s₁.heap.get? b = some o → h₂.get? b = some o) → s₁.heap.objs.size ≤ I → I < J → h₂.get? I = some oI → h₂.get? J = some oJ →
      wpAny (model P0 w) A (assign target env (.ref t)) (fun _ s₂=>wpAny (model P0 w) A (execs body env) (fun f s₃=>GEnd Q s₁ G gi genv.locals l xl t items gs' I oI J oJ f s₃) (fun _ _=>False) s₂) (fun _ _=>False) { s₁.setGen gi gs' with heap:=h₂,toks:=tk }

theorem GTurn.intro {env : Env} {target : Expr} {body : List Stmt} {Q : Flow → Shared → Prop} {s₁ : Shared} {G : Addr} {gi : Nat} {genv : Env} {px pr pst pc pf p1 p2 p3 p4 p5 : Pos} {m : Str → Option Value} {l xl : Addr} {items : Array Value} {t : Addr}
    (rd : GReady s₁ G gi genv px pr pst pc pf p1 p2 p3 p4 p5 m l xl items (.ref t))
    (turn : ∀ h₂ tk gs' I oI J oJ,(∀ b o,b ≠ genv.locals → s₁.heap.get? b = some o → h₂.get? b = some o) → s₁.heap.objs.size ≤ I → I < J → h₂.get? I = some oI → h₂.get? J = some oJ →
      wpAny (model P0 w) A (assign target env (.ref t)) (fun _ s₂=>wpAny (model P0 w) A (execs body env) (fun f s₃=>GEnd Q s₁ G gi genv.locals l xl t items gs' I oI J oJ f s₃) (fun _ _=>False) s₂) (fun _ _=>False) { s₁.setGen gi gs' with heap:=h₂,toks:=tk }) :
    GTurn w A env target body Q (.ref G) s₁:=⟨G,gi,genv,px,pr,pst,pc,pf,p1,p2,p3,p4,p5,m,l,xl,items,t,rfl,rd,turn⟩

theorem letGo_gen {elts : List Expr} {x1} {pos : Pos} {G gi a : Nat} {Q : Unit → Shared → Prop} (hg : s.heap.IsGen G gi) (hQ : Q () s) :
    wpAny (model P0 w) A (letOwnedTupleGo (.Tuple elts x1 pos) (.ref G) (.ref a)) Q E s:=by
  refine Classical.byContradiction fun NG=>?_
  refine obEEEAAA hg ?_;clear hg;intro o nm qn ho hc hd _
  refine NG ?_
  clear NG
  unfold letOwnedTupleGo
  refine wpAny_bind (wpAny_load ho ?_)
  rw [hc,hd]
  dsimp only
  rw [if_neg (by simp)]
  exact wpAny_pure hQ

theorem for_gen {env : Env} {elts : List Expr} {x1} {tpos pos : Pos} {iter : Expr} {body : List Stmt} {Q : Flow → Shared → Prop} (hA : A.handled = none) (hroom : A.depth < recursionLimit)
    (h:wpAny (model P0 w) A (eval iter env) (fun xv s₁=>GTurn w A env (.Tuple elts x1 tpos) body Q xv s₁) (fun _ _=>False) s) (hs : ∀ x,foldedSetIterable iter env x = pure x) :
    wpAny (model P0 w) A (exec (.For (.Tuple elts x1 tpos) iter body [] pos) env) Q (fun _ _=>False) s:=by
  refine wpAny_For (wpAny_mono h (fun xv s₁ ht=>?_) fun _ _ e=>e.elim) hs
  refine Classical.byContradiction fun NG=>?_
  obtain ⟨G,gi,genv,px,pr,pst,pc,pf,p1,p2,p3,p4,p5,m,l,xl,items,t,rfl,rd,turn⟩:=ht
  refine NG ?_
  clear NG
  have hGC : G ≠ genv.locals:=by
    intro e
    refine Classical.byContradiction fun NG=>?_
    refine obEEEAAA rd.gen ?_;intro o nm qn ho hc hd _
    refine obEEEAA rd.ns ?_;intro o' es ep ho' hd' _
    refine NG ?_
    clear NG
    rw [e,ho'] at ho;cases ho;rw [hd] at hd';cases hd'
  refine wpAny_pyIter_gen rd.gen ?_
  refine codeAny_forLoop_any (fun n s'=>(n = 1 ∧ s' = s₁) ∨ (n = 0 ∧ ∃ gs' I oI J oJ,GLast P0 w A genv.locals G s₁.heap.objs.size gi l xl items (.ref t) I J oI oJ gs' ∧ s'.heap.get? I = some oI ∧ s'.heap.get? J = some oJ ∧ s'.heap.IsList l items ∧ s'.heap.IsList xl #[.ref t] ∧ s'.heap.IsGen G gi ∧ s'.heap.NoLimit ∧ s'.gens = (s₁.setGen gi gs').gens ∧ gi < s₁.gens.size ∧
    ∀ h₄ tk',(∀ b o,b ≠ genv.locals → b < s₁.heap.objs.size → s'.heap.get? b = some o → h₄.get? b = some o) → Q .next { s'.setGen gi .finished with heap:=h₄,toks:=tk' })) (fun n s' hI=>?_) 1 (.inl ⟨rfl,rfl⟩)
  rcases hI with ⟨rfl,rfl⟩ | ⟨rfl,gs',I,oI,J,oJ,hl,hI,hJ,hL,hX,hG,hlim,hgens,hlt,hq⟩
  · refine next_first hA hroom rd.lim rd.gen rd.fresh rd.ge rd.ns rd.gs rd.fit fun h₂ tk gs' I oI J oJ hk hzI hIJ hI hJ hlast => ?_
    refine letGo_gen (gi:=gi) (let ⟨o,nm,qn,ho,r⟩:=rd.gen;⟨o,nm,qn,hk _ _ hGC ho,r⟩) ?_
    refine wpAny_mono (turn h₂ tk gs' I oI J oJ hk hzI hIJ hI hJ) (fun _ s₂ h2=>wpAny_mono h2 (fun f s₃ h3=>?_) fun _ _ e=>e.elim) fun _ _ e=>e.elim
    refine Classical.byContradiction fun NG=>?_
    obtain ⟨rfl,i3,j3,l3,x3,gg3,lim3,g3,q3⟩:=id h3
    refine NG ?_
    clear NG
    have hlt : gi < s'.gens.size:=by
      rcases Nat.lt_or_ge gi s'.gens.size with hh | hh
      · exact hh
      · have:=rd.fresh;rw [Array.getElem?_eq_none hh] at this;cases this
    exact ⟨0,Nat.zero_lt_one,.inr ⟨rfl,gs',I,oI,J,oJ,hlast,i3,j3,l3,x3,gg3,lim3,g3,hlt,q3⟩⟩
  · refine hl s' _ _ hI hJ hL hX hG hlim ?_ fun h₄ tk' hk4 => wpAny_pure (hq h₄ tk' hk4)
    rw [hgens]
    simp [Shared.setGen,hlt]

noncomputable def LtA (news : List (Addr × Obj)) (a : Addr) : Prop := ∀ p ∈ news,p.1 < a
theorem call_iterns_K {h₀ : Heap} {L : Addr} {ml : Str → Option Value} {news : List (Addr × Obj)} {x l : Addr} {Q : Value → Shared → Prop} (hroom : A.depth < recursionLimit) (F : Fr h₀ L s.heap ml) (N : News h₀ L s.heap news) (X : (Mine.hd.heap_1 w.params).In h₀) (hl : h₀.NoLimit)
  (h : ∀ (env : Env) (px pr pst pc pf p1 p2 p3 p4 p5 : Pos) (m:Str → Option Value) h' tk oG,GE env m nsN rvN stN l → h'.Ns env.locals m → (∀ h'' : Heap,h''.get? (env.locals + 1) = some oG → h''.IsGen (env.locals + 1) s.gens.size) →
    h'.objs.size = env.locals + 2 → Fr h₀ L h' ml → News h₀ L h' ((env.locals + 1,oG) :: news) → LtA news env.locals → L < env.locals →
    Q (.ref (env.locals + 1)) { s with heap:=h',gens:=s.gens.push (.fresh (.func (gFunc nsN rvN stN px pr pst pc pf p1 p2 p3 p4 p5) env)),toks:=tk }) :
  wpAny (model P0 w) A (call (.ref 75) [.ref x,.ref l]) Q E s:=by
  refine call_iterns hroom (X.keeps F.keep) (hl.keeps F.keep) fun env px pr pst pc pf p1 p2 p3 p4 p5 m h' tk e1 e2 e3 e4 e5 e6=>?_
  refine Classical.byContradiction fun NG=>?_
  refine obEEEA e4 ?_;clear e4;intro o nm qn ho r
  refine NG ?_
  clear NG
  rw [← e1] at ho e5 ⊢
  have hL : L < env.locals:=by rw [e1];exact F.ns.lt
  refine h env px pr pst pc pf p1 p2 p3 p4 p5 m h' tk o e2 e3 (fun h'' hh=>⟨o,nm,qn,hh,r⟩) e5 (F.keeps e6) (fun p hp=>?_) (fun p hp=>by rw [e1];exact Heap.lt_size (N p hp).1) hL
  rcases List.mem_cons.mp hp with rfl | hp
  · refine ⟨ho, (Nat.ne_of_lt (Nat.lt_succ_of_lt hL)).symm, ?_⟩
    cases z : h₀.get? (env.locals + 1) with
    | none=>rfl
    | some y=>exact absurd (Nat.lt_of_lt_of_le (Heap.lt_size z) F.above) (Nat.not_lt_of_le (Nat.le_succ_of_le (Nat.le_of_lt hL)))
  · exact ⟨e6 _ _ (N p hp).1,(N p hp).2⟩

theorem not_base {g h : Heap} {L : Addr} {m : Str → Option Value} (F : Fr g L h m) {a : Addr} (ha : L < a) : a ≠ L ∧ g.get? a = none := by
  refine ⟨(Nat.ne_of_lt ha).symm,?_⟩
  cases z : g.get? a with
  | none=>rfl
  | some y=>exact absurd (Nat.lt_of_lt_of_le (Heap.lt_size z) F.above) (Nat.not_lt_of_le (Nat.le_of_lt ha))

theorem turn_ledger {g h h₂ : Heap} {L Cg I J : Addr} {m : Str → Option Value} {news : List (Addr × Obj)} {oG oI oJ : Obj} (F : Fr g L h m) (N : News g L h ((Cg + 1,oG) :: news)) (hlt : ∀ p ∈ news,p.1 < Cg) (hL : L < Cg) (hsz : h.objs.size = Cg + 2)
    (hk : ∀ b o,b ≠ Cg → h.get? b = some o → h₂.get? b = some o) (hzI : h.objs.size ≤ I) (hIJ : I < J) (hI : h₂.get? I = some oI) (hJ : h₂.get? J = some oJ) :
    Fr g L h₂ m ∧ News g L h₂ ((J,oJ) :: (I,oI) :: (Cg + 1,oG) :: news):=by
  refine Classical.byContradiction fun NG=>?_
  refine obEEEA F.ns ?_;intro oL a1 a2 hL' r
  refine NG ?_
  clear NG
  have hLI : L < I:=Nat.lt_of_lt_of_le (Nat.lt_trans hL (by rw [hsz];exact Nat.lt_succ_of_lt (Nat.lt_succ_self _))) hzI
  refine ⟨⟨⟨oL,a1,a2,hk L oL (Nat.ne_of_lt hL) hL',r⟩,fun b o e=>hk b o (fun q=>by rw [q,(not_base F hL).2] at e;cases e) (F.keep b o e),F.above⟩,fun p hp=>?_⟩
  rcases List.mem_cons.mp hp with rfl | hp
  · exact ⟨hJ,not_base F (Nat.lt_trans hLI hIJ)⟩
  rcases List.mem_cons.mp hp with rfl | hp
  · exact ⟨hI,not_base F hLI⟩
  refine ⟨hk _ _ ?_ (N p hp).1,(N p hp).2⟩
  rcases List.mem_cons.mp hp with rfl | hp
  · exact Nat.succ_ne_self _
  · exact Nat.ne_of_lt (hlt p hp)

theorem done_ledger {g h₃ h₄ : Heap} {L Cg z : Addr} {m : Str → Option Value} {news rest : List (Addr × Obj)} (F : Fr g L h₃ m) (N : News g L h₃ news) (hL : L < Cg) (hz : Cg < z)
    (hk : ∀ b o,b ≠ Cg → b < z → h₃.get? b = some o → h₄.get? b = some o) (hr : ∀ p ∈ rest,p ∈ news ∧ p.1 < Cg) : Fr g L h₄ m ∧ News g L h₄ rest:=by
  refine Classical.byContradiction fun NG=>?_
  refine obEEEA F.ns ?_;intro oL a1 a2 hL' r
  refine NG ?_
  clear NG
  have hlz : ∀ b o,g.get? b = some o → b < L:=fun b o e=>Nat.lt_of_lt_of_le (Heap.lt_size e) F.above
  refine ⟨⟨⟨oL,a1,a2,hk L oL (Nat.ne_of_lt hL) (Nat.lt_trans hL hz) hL',r⟩,fun b o e=>hk b o (Nat.ne_of_lt (Nat.lt_trans (hlz b o e) hL)) (Nat.lt_trans (Nat.lt_trans (hlz b o e) hL) hz) (F.keep b o e),F.above⟩,fun p hp=>?_⟩
  exact ⟨hk _ _ (Nat.ne_of_lt (hr p hp).2) (Nat.lt_trans (hr p hp).2 hz) (N p (hr p hp).1).1,(N p (hr p hp).1).2⟩
theorem ltA_of {d : Addr} : ∀ {l : List (Addr × Obj)},AllLt d l → LtA l d
  | [],_=>fun _ h=>nomatch h
  | _ :: _,h=>fun p hp=>(List.mem_cons.mp hp).elim (fun e=>e ▸ h.1) (ltA_of h.2 p)
theorem done_ledger3 {g h₃ h₄ : Heap} {L Cg z : Addr} {m : Str → Option Value} {a b c : Addr × Obj} {rest : List (Addr × Obj)} (F : Fr g L h₃ m) (N : News g L h₃ (a :: b :: c :: rest)) (hL : L < Cg) (hz : z = Cg + 2)
    (hk : ∀ b o,b ≠ Cg → b < z → h₃.get? b = some o → h₄.get? b = some o) (hr : AllLt Cg rest) : Fr g L h₄ m ∧ News g L h₄ rest:=
  done_ledger F N hL (by rw [hz];exact Nat.lt_succ_of_lt (Nat.lt_succ_self _)) hk fun p hp=>⟨.tail _ (.tail _ (.tail _ hp)),ltA_of hr p hp⟩
theorem push_set_set (a : Array GenState) (x y z : GenState) : ((a.push x).setIfInBounds a.size y).setIfInBounds a.size z = a.push z := by
  apply Array.toList_inj.mp
  simp [List.set_append]
theorem bare_done {s : Shared} {x y : GenState} (h : AllBare s.gens) : AllBare (((s.gens.push x).setIfInBounds s.gens.size y).setIfInBounds s.gens.size .finished) := by
  rw [push_set_set];exact h.push rfl
end

end
section
set_option maxRecDepth 100000
noncomputable abbrev boundJoin : Obj := { cls := .type "builtin_function_or_method",data := .fields #[.builtin "str.join",.str (Str.ofString "") 437] }
section
variable {w : World} {M : Model} {A : Around} {E : Value → Shared → Prop} {s : Shared} {h₀ : Heap} {L D : Addr} {m : Str → Option Value} {news news' : List (Addr × Obj)} {n : Nat}
theorem check_join {a : Addr} : checkBoundCall "str.join" ⟨[.str (Str.ofString "") 437,.ref a],[]⟩ = pure () := by first | kernel_rfl | rfl
theorem call_join98 {l : SV} {Q : Value → Shared → Prop} (F : Fr h₀ L s.heap m) (N : News h₀ L s.heap news) (X : (Mine.hd.heap_1 w.params).In h₀) (hm : (D,listOf (svs l).toArray n) ∈ news) (hok : Ob (JoinOk (Str.ofString "") (l.map (·.1)) = true))
    (h : ∀ t tk,Q (.str (Txt.join (Str.ofString "") (l.map (·.1))) t) { s with toks:=tk }) : wpAny (model P0 w) A (call (.ref 98) [.ref D]) Q E s:=by
  have h98 : s.heap.get? 98 = some boundJoin:=X.keeps F.keep 98 _ rfl
  have hl : s.heap.IsList D (strValues l).toArray:=⟨_,(N _ hm).1,rfl,_,rfl⟩
  unfold Ob JoinOk at hok
  rw [Bool.not_eq_true'] at hok
  refine wpAny_call (codeAny_of_tree ?_)
  show wpAny _ A.in1 (callAny (.ref 98) ⟨[.ref D],[]⟩) _ _ s
  simp only [callAny]
  refine wpAny_bind (wpAny_load h98 ?_)
  simp only [boundJoin,show (Value.type "builtin_function_or_method" == Value.type "method" || Value.type "builtin_function_or_method" == Value.type "builtin_function_or_method" || Value.type "builtin_function_or_method" == Value.type "method-wrapper") = true by decide,if_true]
  refine KFB.if_so (by decide) ?_
  refine wpAny_bind (wpAny_of_eq (a:=()) check_join ?_)
  refine wpAny_bind (wpAny_pure (wpAny_pure ?_))
  refine ⟨Code.quiet_builtin _ (by decide +kernel),codeAny_builtin PySem.F.entry_str_join ?_⟩
  rw [Around.under_plainId (by decide +kernel) _]
  exact meets_str_join_list (Str.ofString "") 437 D l hok P0 w A (wants Q E) s ⟨hl,post_join l ⟨joinFit_length hok,h⟩⟩

theorem join_one (x : Str) : Txt.join (Str.ofString "") [x] = x := by first | rfl | (show PySem.Builtin.Str.glued _ _ = _;rw [StrLaws.glued_eq_join];rfl)
theorem call_join98_one {x : Str} {tx : Tok} {Q : Value → Shared → Prop} (F : Fr h₀ L s.heap m) (N : News h₀ L s.heap news) (X : (Mine.hd.heap_1 w.params).In h₀) (hm : (D,listOf (svs [(x,tx)]).toArray n) ∈ news) (hx : x.length ≤ 1000)
    (h : ∀ t tk,Q (.str x t) { s with toks:=tk }) : wpAny (model P0 w) A (call (.ref 98) [.ref D]) Q E s:=by
  refine call_join98 F N X hm ?_ fun t tk=>?_
  · show (!PySem.Builtin.Str.tooLong _) = true
    rw [Bool.not_eq_true']
    show decide ((0 + x.length + (Str.ofString "").length) > sizeLine) = false
    rw [show (Str.ofString "").length = 0 by decide +kernel,sizeLine_eq]
    exact decide_eq_false (by omega)
  · have := h t tk
    rw [← join_one x] at this
    exact this

theorem callWith_98' {pos : Pos} {first : List Value} {args : List (Bool × Sem Value)} {Q : Value → Shared → Prop} (hplain : args.any (·.1) = false)
    (h:wpAny M A (evalArgs (.ref 98) true args []) (fun x s₁=>s₁.heap.get? 98 = some boundJoin ∧ wpAny M A (call (.ref 98) (first ++ x.pos) x.kw) Q E s₁) E s) : wpAny M A (callWith pos (.ref 98) first args []) Q E s:=by
  unfold callWith
  refine wpAny_bind (wpAny_holding (wpAny_mono h (fun x s₁ h₁=>wpAny_bind (wpAny_standAt ?_)) fun _ _ x=>x))
  refine obA h₁ ?_;clear h₁;intro ho hcall
  simp only [hplain,List.any_nil,Bool.or_false]
  refine wpAny_bind (m:=keeperOf (.ref 98)) ?_
  unfold keeperOf
  refine wpAny_bind (wpAny_load ho ?_)
  simp only [boundJoin,show (Value.type "builtin_function_or_method" != Value.type "method") = true by decide,show (Value.type "builtin_function_or_method" == Value.type "builtin_function_or_method" || Value.type "builtin_function_or_method" == Value.type "method-wrapper") = true by decide,if_true]
  refine wpAny_pure ?_
  exact wpAny_bind (wpAny_mono hcall (fun r s₂ hr=>wpAny_bind (wpAny_holding (wpAny_point (wpAny_pure hr)))) fun _ _ x=>x)
theorem callWith_98 {pos : Pos} {first : List Value} {env : Env} {e : Expr} {rest : List Expr} {Q : Value → Shared → Prop}
    (h:wpAny M A (spliced (backTo pos (starEach (e :: rest) env))) (fun vs s₁=>s₁.heap.get? 98 = some boundJoin ∧ wpAny M A (call (.ref 98) (first ++ vs)) Q E s₁) E s)
    (he : starEach (e :: rest) env = (false,eval e env) :: starEach rest env:=by rfl) (hplain : (backTo pos (starEach rest env)).any (·.1) = false:=by rfl) :
    wpAny M A (callWith pos (.ref 98) first (backTo pos (starEach (e :: rest) env)) []) Q E s:=by
  rw [he] at h ⊢
  refine callWith_98' (by show (false || (backTo pos (starEach rest env)).any (·.1)) = false;rw [hplain];rfl) ?_
  exact evalArgs_plain h
theorem at_98 {h : Heap} (F : Fr h₀ L h m) (X : (Mine.hd.heap_1 w.params).In h₀) : h.get? 98 = some boundJoin := X.keeps F.keep 98 _ rfl
end

end
section
set_option maxRecDepth 100000
open Builtin
theorem slice_no_index : typeLookup (.type "slice") "__index__" = pure none := by rw [typeLookup_type,builtinLookup_eq_fast];kernel_rfl
section
variable {prog : Program} {w : World} {M : Model} {A : Around} {E : Value → Shared → Prop} {s : Shared} {h₀ : Heap} {L D : Addr} {m : Str → Option Value} {news news' : List (Addr × Obj)} {n : Nat}
theorem delItem_one {l sl : Addr} {v : Value} {Q : Unit → Shared → Prop} (hl : s.heap.get? l = some (listOf #[v] n)) (hs : s.heap.get? sl = some { cls := .type "slice",data := .fields #[.none,.none,.none] })
    (h : ∀ h',Heap.SameBut l s.heap h' → h'.get? l = some (listOf #[] (n + 1)) → Q () { s with heap:=h' }) : wpAny (model prog w) A (delItem (.ref l) (.ref sl)) Q E s:=by
  have hT : s.TypeIs (.ref l) "list" := ⟨_,hl,rfl⟩
  refine wpAny_delItem_slot hT (by decide) PySem.F.slot_list_delitem (wpAny_call_entry PySem.F.slot_list_delitem hT PySem.F.entry_list_delitem ?_ (PySem.F.args_list_delitem_2 _ _))
  obtain ⟨hp,g,d,tk,os⟩:=s
  have hTs : (⟨hp,g,d,tk,os⟩ : Shared).TypeIs (.ref sl) "slice" := ⟨_,hs,rfl⟩
  have f1:=slice_no_index
  unfold Builtin.«list.__delitem__»
  repeat (any_goals (first | assumption | wp_step))
  refine ⟨_,rfl,h _ (Heap.SameBut.update ..) ?_⟩
  rw [Heap.get?_update_self _ hl (by rfl)]
  exact congrArg some (by rfl)
theorem delItem_one_K {hp : Heap} {v : Value} {Q : Unit → Shared → Prop} (hs : s.heap = hp.push { cls := .type "slice",data := .fields #[.none,.none,.none] }) (F : Fr h₀ L hp m) (N : News h₀ L hp news) (U : Upd D (listOf #[v] n) (listOf #[] (n + 1)) news news')
    (h : ∀ h',Fr h₀ L h' m → News h₀ L h' news' → ∀ tk,Q () { s with heap:=h',toks:=tk }) :
    wpAny (model prog w) A (delItem (.ref D) (.ref hp.objs.size)) Q E s:=by
  refine obEEAAA U.split ?_;intro pre post oR2 oR3 a b;subst oR2;subst oR3
  have z:=N (D,listOf #[v] n) (List.mem_append.mpr (.inr (.head _)))
  refine delItem_one (n:=n) (v:=v) (by rw [hs];exact Heap.get?_push_of_some _ z.1) (by rw [hs];exact Heap.get?_push_size _ rfl) fun h' hs' ho'=>?_
  rw [hs] at hs'
  exact h h' ((F.push _).change hs' z.2.1 z.2.2) (news_set (fun p hp=>⟨Heap.get?_push_of_some _ (N p hp).1,(N p hp).2⟩) a b hs' ho') _
end

end
section
set_option maxRecDepth 100000
section
variable {w : World} {mean : ExcName → Option Value} {mg mb : Str → Option Value} {h₀ : Heap} {s : Shared} {U : List (Addr × Obj)} {dp un : Nat} {fr : Option (List Env)} {gd : Option (List Code)} {E : Value → Shared → Prop}
  {name qual : Str} {params : Arguments} {body : List Stmt} {scope : Scope} {dV kV doc pm cdv ct oc : Value} {an od : Option Addr} {osl : Array (Option Value)} {f:Addr} {args : Args} {binds : List (Str × Value)} {Q:Value → Shared → Prop}

theorem enter_codeC {R : Result → Shared → Prop} (C : Cx w mean mg mb h₀ s U)
    (ho : (Mine.hd.heap_1 w.params).lookup f = some ⟨oc,od,.func (fnOf name qual params body scope dV kV doc pm an cdv ct),osl⟩) (hcd : codeIn (Mine.hd.heap_1 w.params) cdv qual = true) (hroom : dp < recursionLimit)
    (hbind : BindsTo s (fnOf name qual params body scope dV kV doc pm an cdv ct) args binds) (hkind : (binds.all fun y=>scope.names.lookup y.1 == some .local || scope.names.lookup y.1 == some .cell) = true)
    (hnd : ((cellsFrom 0 scope.names []).map (·.1)).Nodup)
    (h : ∀ g L' h₁ tk cells,Fr g L' h₁ (bindL (envOfC qual scope L' f cdv).kindOf binds fun _=>none) → News g L' h₁ (cells ++ U) → CellsAre (bindC (envOfC qual scope L' f cdv).kindOf binds fun _=>none) (cellsFrom (L' + 1) scope.names []) cells →
      (Mine.hd.heap_1 w.params).In g → Top topProg Lz mean mg mb g → (∀ b o,s.heap.get? b = some o → b ∉ U.map (·.1) → g.get? b = some o) → (∀ p ∈ U,p.1 < L') → L' = s.heap.objs.size →
      wpAny (model P0 w) ((Ar dp fr gd un).deeper (envOfC qual scope L' f cdv)) (execs body (envOfC qual scope L' f cdv))
        (fun fl s'=>Leave g L' (U.map (·.1)) s (fun v s'=>R (.ok (.ret v)) s') (match fl with | .ret v=>v | _=>.none) s')
        (fun _ _=>False) { s with heap:=h₁,toks:=tk })
    (hco : scope.isCoroutine = false) (hgen : scope.isGenerator = false) (hk : scope.kind = .function) : codeAny (model P0 w) (Ar dp fr gd un) (.call (.ref f) args) R s:=by
  have nm : ∀ b o,h₀.get? b = some o → b ∉ U.map (·.1):=fun b o e q=>by
    refine obEA (List.mem_map.mp q) ?_;intro p hp oR2;subst oR2
    rw [(C.U p hp).2] at e;cases e
  have st : h₀.StaysIn (hideAll s.heap (U.map (·.1))):=fun b o e=>hideAll_get _ (C.st b o e) (nm b o e)
  refine codeAny_call_function hroom (C.st _ _ (C.X _ _ ho)) rfl hco hgen rfl (codeRec_of (C.X.keeps C.st) hcd) (hbind _ _ _ _ ?_)
  refine wpAny_newFunctionEnv_cells hk (kindsX hkind _) fun env' he s' x=>?_
  subst he
  refine ⟨(C.T.nolimit.keeps C.st).keeps x.toInCall.keep,codeAny_func ?_⟩
  refine obEEA x.done ?_;intro h₁ tk oR2 _;subst oR2
  have hk₁:=x.toInCall.keep
  refine obEA (Cl.news (h₀:=s.heap) (Nat.le_refl _) fun n c hm=>⟨x.cell n c (lookup_of_mem_nodup (cellsFrom_names scope.names 0 (s.heap.objs.size + 1) [] [] rfl ▸ hnd) hm),x.above n c hm⟩) ?_;intro cells NC Y
  refine wpAny_mono (h (hideAll s.heap (U.map (·.1))) s.heap.objs.size h₁ tk cells ⟨x.toInCall.ns,fun b o e=>hk₁ b o (of_hideAll _ e),Nat.le_of_eq (hideAll_size _ _)⟩ (fun p hp=>?_) Y (C.X.keeps fun b o e=>st b o e) (C.T.keeps fun b o e=>st b o e) (fun b o e q=>hideAll_get _ e q) (fun p hp=>Heap.lt_size (C.U p hp).1) rfl) (fun fl s' hl=>?_) fun _ _ x=>x.elim
  · rcases List.mem_append.mp hp with hp | hp
    · refine ⟨(NC p hp).1, (NC p hp).2.1, ?_⟩
      cases q : (hideAll s.heap (U.map (·.1))).get? p.1 with
      | none=>rfl
      | some o=>have:=of_hideAll _ q;rw [(NC p hp).2.2] at this;cases this
    · exact ⟨hk₁ _ _ (C.U p hp).1,Nat.ne_of_lt (Heap.lt_size (C.U p hp).1),hideAll_none _ (List.mem_map_of_mem hp)⟩
  · refine obEA hl ?_; clear hl; intro m F k
    exact k fun b o e q=>F.keep b o (hideAll_get _ e q)

theorem enter_defC (C : Cx w mean mg mb h₀ s U) {vals : List Value}
    (ho : (Mine.hd.heap_1 w.params).lookup f = some ⟨oc,od,.func (fnOf name qual params body scope dV kV doc pm an cdv ct),osl⟩) (hcd : codeIn (Mine.hd.heap_1 w.params) cdv qual = true) (hroom : dp < recursionLimit)
    (hbind : BindsTo s (fnOf name qual params body scope dV kV doc pm an cdv ct) ⟨vals,[]⟩ binds) (hkind : (binds.all fun y=>scope.names.lookup y.1 == some .local || scope.names.lookup y.1 == some .cell) = true)
    (hnd : ((cellsFrom 0 scope.names []).map (·.1)).Nodup)
    (h : ∀ g L' h₁ tk cells,Fr g L' h₁ (bindL (envOfC qual scope L' f cdv).kindOf binds fun _=>none) → News g L' h₁ (cells ++ U) → CellsAre (bindC (envOfC qual scope L' f cdv).kindOf binds fun _=>none) (cellsFrom (L' + 1) scope.names []) cells →
      (Mine.hd.heap_1 w.params).In g → Top topProg Lz mean mg mb g → (∀ b o,s.heap.get? b = some o → b ∉ U.map (·.1) → g.get? b = some o) → (∀ p ∈ U,p.1 < L') → L' = s.heap.objs.size →
      wpAny (model P0 w) ((Ar dp fr gd un).deeper (envOfC qual scope L' f cdv)) (execs body (envOfC qual scope L' f cdv))
        (fun fl s'=>Leave g L' (U.map (·.1)) s Q (match fl with | .ret v=>v | _=>.none) s')
        (fun _ _=>False) { s with heap:=h₁,toks:=tk })
    (hco : scope.isCoroutine = false) (hgen : scope.isGenerator = false) (hk : scope.kind = .function) : wpAny (model P0 w) (Ar dp fr gd un) (call (.ref f) vals) Q E s:=
  wpAny_call (enter_codeC C ho hcd hroom hbind hkind hnd h hco hgen hk)
end

end
section
@[irreducible] noncomputable def eps {α : Type} (d : α) (P : α → Prop) : α := open Classical in if h : ∃ x,¬ P x then h.choose else d
theorem eps_all {α : Type} {d : α} {P : α → Prop} (h : P (eps d P)) : ∀ x,P x := fun x=>Classical.byContradiction fun q=>by
  have e : ∃ x,¬ P x:=⟨x,q⟩
  unfold eps at h
  rw [dif_pos e] at h
  exact e.choose_spec h
noncomputable abbrev ucr {A B : Type} (f : A → B → Prop) (p : A × B) : Prop := f p.1 p.2
noncomputable abbrev w0 : World := { draws := fun _ _=>0,params := { strHash := fun _=>0,shareClass := fun a=>a,mergeTok := fun t=>t,idOf := fun _=>0,idOfShared := fun _ _=>0,followText := fun _=>false,idOfImm := fun _=>0 } }
noncomputable abbrev D0 : Type := World × (ExcName → Option Value) × (Str → Option Value) × (Str → Option Value) × Heap × Shared × Nat × Nat × Option (List Env) × Option (List Code) × (Value → Shared → Prop) × Heap × Addr × Heap × Tok
noncomputable abbrev d0 : D0 := (w0,fun _=>none,fun _=>none,fun _=>none,{},{},0,0,none,none,fun _ _=>True,{},0,{},0)

noncomputable abbrev D0R : Type := World × (ExcName → Option Value) × (Str → Option Value) × (Str → Option Value) × Heap × Shared × Nat × Nat × Option (List Env) × Option (List Code) × (Result → Shared → Prop) × Heap × Addr × Heap × Tok
noncomputable abbrev d0R : D0R := (w0,fun _=>none,fun _=>none,fun _=>none,{},{},0,0,none,none,fun _ _=>True,{},0,{},0)

section
variable {w : World} {mean : ExcName → Option Value} {mg mb : Str → Option Value} {h₀ : Heap} {s : Shared} {U : List (Addr × Obj)} {dp un : Nat} {fr : Option (List Env)} {gd : Option (List Code)} {E : Value → Shared → Prop}
  {name qual : Str} {params : Arguments} {body : List Stmt} {scope : Scope} {dV kV doc pm cdv ct oc : Value} {an od : Option Addr} {osl : Array (Option Value)} {f:Addr} {args : Args} {binds : List (Str × Value)} {Q:Value → Shared → Prop}
noncomputable def FnAt (w : World) (f : Addr) (G : Str → List Stmt → Scope → Value → Prop) : Prop :=
  ∀ (name qual : Str) (params : Arguments) (body : List Stmt) (scope : Scope) (dV kV doc pm cdv ct oc : Value) (an od : Option Addr) (osl : Array (Option Value)),(Mine.hd.heap_1 w.params).lookup f = some ⟨oc,od,.func (fnOf name qual params body scope dV kV doc pm an cdv ct),osl⟩ → G qual body scope cdv
theorem bg_use {G : Str → List Stmt → Scope → Value → Prop}
    (ho : (Mine.hd.heap_1 w.params).lookup f = some ⟨oc,od,.func (fnOf name qual params body scope dV kV doc pm an cdv ct),osl⟩) (h:G qual body scope cdv) : FnAt w f G:=by
  intro _ _ _ _ _ _ _ _ _ _ _ _ _ _ _ e
  rw [ho] at e
  cases e
  exact h
theorem fn_get {G : Str → List Stmt → Scope → Value → Prop} (h : FnAt w f G)
    (ho : (Mine.hd.heap_1 w.params).lookup f = some ⟨oc,od,.func (fnOf name qual params body scope dV kV doc pm an cdv ct),osl⟩) : G qual body scope cdv:=h _ _ _ _ _ _ _ _ _ _ _ _ _ _ _ ho
noncomputable abbrev WPk : Type := Model → Around → Sem Flow → (Flow → Shared → Prop) → (Value → Shared → Prop) → Shared → Prop
noncomputable def BGoal (wp : WPk) (w : World) (mean : ExcName → Option Value) (mg mb : Str → Option Value) (s : Shared) (U : List (Addr × Obj)) (dp un : Nat) (fr : Option (List Env)) (gd : Option (List Code)) (f : Addr) (binds : List (Str × Value)) (Q : Value → Shared → Prop) (g : Heap) (L : Addr) (h₁ : Heap) (tk : Tok) : Prop :=
  Fr g L h₁ (fun y=>binds.reverse.lookup y) → News g L h₁ U → (Mine.hd.heap_1 w.params).In g → Top topProg Lz mean mg mb g → (∀ b o,s.heap.get? b = some o → b ∉ U.map (·.1) → g.get? b = some o) → (∀ p ∈ U,p.1 < L) → L = s.heap.objs.size →
  FnAt w f fun qual body scope cdv=>
      wp (model P0 w) ((Ar dp fr gd un).deeper (envOf qual scope L f cdv)) (execs body (envOf qual scope L f cdv))
        (fun fl s'=>Leave g L (U.map (·.1)) s Q (match fl with | .ret v=>v | _=>.none) s')
        (fun _ _=>False) { s with heap:=h₁,toks:=tk }
noncomputable def BGoalC (wp : WPk) (w : World) (mean : ExcName → Option Value) (mg mb : Str → Option Value) (s : Shared) (U : List (Addr × Obj)) (dp un : Nat) (fr : Option (List Env)) (gd : Option (List Code)) (f : Addr) (binds : List (Str × Value)) (Q : Value → Shared → Prop) (g : Heap) (L : Addr) (h₁ : Heap) (tk : Tok) : Prop :=
  ∀ cells, FnAt w f fun qual body scope cdv =>
    Fr g L h₁ (bindL (envOfC qual scope L f cdv).kindOf binds fun _=>none) → News g L h₁ (cells ++ U) → CellsAre (bindC (envOfC qual scope L f cdv).kindOf binds fun _=>none) (cellsFrom (L + 1) scope.names []) cells →
      (Mine.hd.heap_1 w.params).In g → Top topProg Lz mean mg mb g → (∀ b o,s.heap.get? b = some o → b ∉ U.map (·.1) → g.get? b = some o) → (∀ p ∈ U,p.1 < L) → L = s.heap.objs.size →
      wp (model P0 w) ((Ar dp fr gd un).deeper (envOfC qual scope L f cdv)) (execs body (envOfC qual scope L f cdv))
        (fun fl s'=>Leave g L (U.map (·.1)) s Q (match fl with | .ret v=>v | _=>.none) s')
        (fun _ _=>False) { s with heap:=h₁,toks:=tk }
end

end
section
set_option maxRecDepth 100000
noncomputable def codeD (M : Model) (A : Around) (c : Code) (R : Result → Shared → Prop) (s : Shared) : Prop :=
  ∀ Γ p,Γ.code = c → Γ.Below A → Clean Γ.below → wpCode M Γ R p s
section
variable {α β : Type} {M : Model} {A : Around} {E : Value → Shared → Prop} {s : Shared}
theorem D_any {t : Sem α} {Q : α → Shared → Prop} (h : wpAny M A t Q E s) : wpD M A t Q E s := fun Γ p hΓ _ _=>h Γ p hΓ
theorem D_mono {t : Sem α} {Q Q' : α → Shared → Prop} {E' : Value → Shared → Prop} (h : wpD M A t Q E s) (hQ : ∀ a s,Q a s → Q' a s) (hE : ∀ e s,E e s → E' e s) : wpD M A t Q' E' s :=
  fun Γ p hΓ hk hb=>Sem.wp_mono M Γ t (fun a _ s=>hQ a s) (fun e _ s=>hE e s) p s (h Γ p hΓ hk hb)
theorem D_bind {m : Sem α} {f : α → Sem β} {Q : β → Shared → Prop} (h : wpD M A m (fun a s'=>wpD M A (f a) Q E s') E s) : wpD M A (m >>= f) Q E s := fun Γ p hΓ hk hb=>by
  rw [Sem.wp_bind']
  exact Sem.wp_mono M Γ m (fun a p' s' h'=>h' Γ p' hΓ hk hb) (fun _ _ _ h'=>h') p s (h Γ p hΓ hk hb)
theorem D_pre {m : Sem α} {f : α → Sem β} {Q : β → Shared → Prop} (h : wpAny M A m (fun a s'=>wpD M A (f a) Q E s') E s) : wpD M A (m >>= f) Q E s := D_bind (D_any h)
theorem D_pure {a : α} {Q : α → Shared → Prop} (h : Q a s) : wpD M A (pure a) Q E s := fun _ _ _ _ _=>h
theorem D_holding {vs : List Value} {m : Sem α} {Q : α → Shared → Prop} (h : wpD M A m Q E s) : wpD M A (holding vs m) Q E s := fun Γ p hΓ hk hb=>by rw [Sem.wp_holding];exact h Γ p hΓ hk hb
theorem D_keep {vs : List Value} {m : Sem α} {Q : α → Shared → Prop} (h : wpD M A m Q E s) : wpD M A (m.keep vs) Q E s := fun Γ p hΓ hk hb=>by rw [Sem.wp_keep];exact h Γ p hΓ hk hb
theorem D_operate {vs : List Value} {m : Sem Value} {Q : Value → Shared → Prop} (h : wpD M A m Q E s) : wpD M A (operate vs m) Q E s := fun Γ p hΓ hk hb=>by rw [Sem.wp_operate];exact h Γ p hΓ hk hb
theorem D_onRaise {m : Sem α} {k : Value → Sem Unit} {Q : α → Shared → Prop} (h : wpD M A m Q (fun e s'=>wpD M A (k e) (fun _ s''=>E e s'') E s') s) : wpD M A (m.onRaise k) Q E s := fun Γ p hΓ hk hb=>by
  rw [Sem.wp_onRaise]
  exact Sem.wp_mono M Γ m (fun _ _ _ h'=>h') (fun e p' s' h'=>h' Γ p' hΓ hk hb) p s (h Γ p hΓ hk hb)
theorem D_attempt {m : Sem α} {Q : Except Value α → Shared → Prop} (h : wpD M A m (fun a=>Q (.ok a)) (fun e=>Q (.error e)) s) : wpD M A m.attempt Q E s := fun Γ p hΓ hk hb=>by rw [Sem.wp_attempt];exact h Γ p hΓ hk hb
theorem cD_mono {c : Code} {R R' : Result → Shared → Prop} (h : codeD M A c R s) (hR : ∀ r s,R r s → R' r s) : codeD M A c R' s := fun Γ p hc hΓ hb=>wpCode_mono hR (h Γ p hc hΓ hb)
theorem clean_cons {c : Code} {p : Pos} {l : List (Code × Pos)} (h : okC c = true) (hl : Clean l) : Clean ((c,p) :: l) := fun x hx=>by
  rcases List.mem_cons.mp hx with rfl | hx
  · exact h
  · exact hl x hx
theorem D_run {c : Code} {h : Option Value} {Q : Flow → Shared → Prop} (hc : codeD M (A.mark h) c (fun r s'=>match r with | .ok f=>Q f s' | .error e=>E e s') s) (hnb : h ≠ some byPass) : wpD M A (run c h) Q E s :=
  fun Γ p hΓ hk hb=>by rw [Sem.wp_run];exact hc _ p rfl (hΓ.enter c h p hnb) (clean_cons hk hb)
theorem D_runValue {c : Code} {Q : Value → Shared → Prop} (hc : codeD M A c (fun r s'=>match r with | .ok (.ret v)=>Q v s' | .ok _=>False | .error e=>E e s') s) : wpD M A (runValue c) Q E s :=
  fun Γ p hΓ hk hb=>by rw [Sem.wp_runValue];exact hc _ p rfl (hΓ.enter c none p (by intro x;cases x)) (clean_cons hk hb)
theorem D_call {f : Value} {pos : List Value} {kw : List (Str × Value)} {Q : Value → Shared → Prop}
    (hc : codeD M A (.call f ⟨pos,kw⟩) (fun r s'=>match r with | .ok (.ret v)=>Q v s' | .ok _=>False | .error e=>E e s') s) : wpD M A (call f pos kw) Q E s:=D_runValue hc
noncomputable def treeD (M : Model) (A : Around) (R : Result → Shared → Prop) (fin : Fin) (s' : Shared) : Prop := match fin with | .done f=>R (.ok f) s' | .again c'=>c'.quiet = true ∧ codeD M A c' R s'
theorem cD_tree {c : Code} {R : Result → Shared → Prop} (hk : okC c = true) (h : wpD M (A.under c) (M.den c) (treeD M A R) (fun e s'=>R (.error e) s') s) : codeD M A c R s := fun Γ p hc hΓ hb=>by
  rw [wpCode_iff_wp,hc]
  refine Sem.wp_mono M Γ _ (fun fin p' s' h'=>?_) (fun _ _ _ h'=>h') p s (h Γ p (hc ▸ hΓ.in) (hc ▸ hk) hb)
  cases fin with
  | done f=>exact h'
  | again c'=>exact ⟨h'.1,h'.2 (Γ.goto c') p' rfl (hΓ.goto c') hb⟩
theorem cD_loop {c : Code} {R : Result → Shared → Prop} (hk : okC c = true) (hq : c.quiet = true) (I : Nat → Shared → Prop)
    (turn : ∀ n s,I n s → wpD M (A.under c) (M.den c) (fun fin s'=>match fin with | .done f=>R (.ok f) s' | .again c'=>c' = c ∧ ∃ m,m < n ∧ I m s') (fun e s'=>R (.error e) s') s)
    (n:Nat) (h:I n s) : codeD M A c R s:=by
  induction n using Nat.strongRecOn generalizing s with
  | ind n ih =>
    refine cD_tree hk (D_mono (turn n s h) (fun fin s' hf=>?_) fun _ _ h'=>h')
    cases fin with
    | done f=>exact hf
    | again c'=>refine obAEA hf ?_;clear hf;intro oR0 m hm hI;subst oR0;exact ⟨hq,ih m hm hI⟩
theorem exported_ok {l : List (Code × Pos)} {self : Value} (h : Clean l) : l.any (fun
    | (.builtin "bytearray.__contains__" ⟨v :: _,_⟩,_) | (.builtin "bytearray.__mod__" ⟨v :: _,_⟩,_)
    | (.builtin "bytearray.__rmod__" ⟨_ :: v :: _,_⟩,_) | (.builtin "_struct.pack_into.held" ⟨v :: _,_⟩,_)=>Builtin.Bytes.sameRef v self
    | (.builtin "bytearray.find.held" ⟨_ :: _ :: held,_⟩,_)=>held.any (Builtin.Bytes.sameRef self)
    | (.builtin id ⟨v :: _,_⟩,_)=>Builtin.Bytes.sameRef v self && Builtin.Bytes.decodersThatHold.contains id
    | _=>false) = false:=by
  rw [List.any_eq_false]
  rintro ⟨c,p⟩ hx
  have hc:=h _ hx
  dsimp only at hc
  cases c with
  | builtin id args =>
    simp only [okC,holdIds,List.contains_cons,Bool.not_eq_true',Bool.or_eq_false_iff,beq_eq_false_iff_ne,ne_eq] at hc
    refine obAAAAA hc ?_;clear hc;intro h1 h2 h3 h4 h5 h6
    obtain ⟨pos,kw⟩:=args
    unfold exported_ok.match_1
    have e : ∀ {P:Prop} (d:Decidable P) {a : ¬ P → Bool} {b:P → Bool} (hn : ¬ P),¬ (a hn = true) → ¬ (Decidable.rec (motive:=fun _=>Bool) a b d = true):=by
      intro P d a b hn hb
      cases d with
      | isFalse=>exact hb
      | isTrue h=>exact absurd h hn
    conv=>enter [1,1];whnf
    refine e _ h1 ?_
    dsimp only
    rw [dif_neg h2,dif_neg h3,dif_neg h4,dif_neg h5]
    cases pos with
    | nil=>exact Bool.false_ne_true
    | cons v tl =>
      show ¬ (Builtin.Bytes.sameRef v self && Builtin.Bytes.decodersThatHold.contains id) = true
      rw [h6,Bool.and_false]
      exact Bool.false_ne_true
  | _=>exact Bool.false_ne_true
theorem D_exported {self : Value} {Q : Bool → Shared → Prop} (h : Q false s) : wpD M A (Builtin.Bytes.exported self) Q E s := fun Γ p _ hk hb=>by
  have e:=exported_ok (self:=self) (clean_cons (p:=p) hk hb)
  exact (show ∀ b,b = false → Q b s from fun b e=>e ▸ h) _ e
end

end
section
set_option maxRecDepth 100000
section
variable {M : Model} {A : Around} {E : Value → Shared → Prop} {s : Shared} {env : Env}
theorem D_execs_cons {st : Stmt} {rest : List Stmt} {Q : Flow → Shared → Prop} (h : wpD M A (exec st env) (fun f s'=>match f with | .next=>wpD M A (execs rest env) Q E s' | f=>Q f s') E s) : wpD M A (execs (st :: rest) env) Q E s := by
  show wpD M A (exec st env >>= _) Q E s
  refine D_bind (D_mono h (fun f s' h'=>?_) fun _ _ h'=>h')
  cases f with
  | next=>exact h'
  | _=>exact D_pure h'
theorem execs_app (l : List Stmt) : ∀ (pre : List Stmt),execs (pre ++ l) env = execs pre env >>= fun f=>match f with | .next=>execs l env | f=>pure f := by
  intro pre
  induction pre with
  | nil=>rfl
  | cons st r ih =>
    show (exec st env >>= fun f=>match f with | .next=>execs (r ++ l) env | f=>pure f) = (exec st env >>= fun f=>match f with | .next=>execs r env | f=>pure f) >>= _
    rw [bind_assoc]
    congr 1
    funext f
    cases f <;> first | exact ih | rfl
theorem D_pre_execs {pre rest : List Stmt} {Q : Flow → Shared → Prop} (h : wpAny M A (execs pre env) (fun f s'=>match f with | .next=>wpD M A (execs rest env) Q E s' | f=>Q f s') E s) : wpD M A (execs (pre ++ rest) env) Q E s := by
  rw [execs_app]
  refine D_bind (D_mono (D_any h) (fun f s' h'=>?_) fun _ _ h'=>h')
  cases f with
  | next=>exact h'
  | _=>exact D_pure h'
theorem D_Assign_Name {x : Str} {pos' : Pos} {value : PySem.Expr} {pos : Pos} {Q : Flow → Shared → Prop} (h : wpD M A (eval value env) (fun v s₁=>wpAny M A (storeName env x v) (fun _=>Q .next) E s₁) E s)
    (hs : swapsWith value (some (.Name x pos')) pos.line env = pure false:=by rfl) : wpD M A (exec (.Assign [.Name x pos'] value pos) env) Q E s:=fun Γ p hΓ hk hb=>by
  simp only [exec_Assign_Name env x pos' value pos hs,Sem.wp_bind',Sem.wp_cmd_standAt,Sem.wp_bindName,Sem.wp_pure']
  exact Sem.wp_mono M Γ _ (fun v _ s₁ h₁=>h₁ Γ _ hΓ) (fun _ _ _ h'=>h') _ _ (h Γ _ hΓ hk hb)
theorem D_Return {e : PySem.Expr} {pos : Pos} {Q : Flow → Shared → Prop} (h : wpD M A (eval e env) (fun v=>Q (.ret v)) E s) : wpD M A (exec (.Return (some e) pos) env) Q E s := by
  rw [exec_Return_some]
  exact D_pre (wpAny_standAt (D_bind (D_mono h (fun _ _ q=>D_pure q) fun _ _ q=>q)))
theorem D_Compare1 {l r : PySem.Expr} {op : CmpOp} {pos : Pos} {Q : Value → Shared → Prop} (h : wpD M A (eval l env) (fun a s₁=>wpAny M A (eval r env) (fun b s₂=>wpAny M A (compareOp op a b) Q E s₂) E s₁) E s)
    (hm : behindInMarks op r = false) : wpD M A (eval (.Compare l [op] [r] pos) env) Q E s:=by
  rw [eval_Compare1,markedBehindIn_of_false hm]
  exact D_bind (D_mono h (fun a s₁ h₁=>D_pre (wpAny_holding (wpAny_mono h₁ (fun b s₂ h₂=>D_pre (wpAny_standAt (D_operate (D_any h₂)))) fun _ _ x=>x))) fun _ _ x=>x)
theorem D_And2 {x y : PySem.Expr} {pos : Pos} {Q : Value → Shared → Prop} (h : wpAny M A (eval x env) (fun v s₁=>wpAny M A (truthy v) (fun t s₂=>if t then wpD M A (eval y env) Q E s₂ else Q v s₂) E s₁) E s) :
    wpD M A (eval (.BoolOp .And [x,y] pos) env) Q E s:=by
  show wpD M A (do
    let v ← eval x env
    standAt pos
    let t ← holding [v] (truthy v)
    match BoolOp.And,t with
    | .And,false | .Or,true=>pure v
    | _,_=>boolOp pos .And [eval y env]) Q E s
  refine D_pre (wpAny_mono h (fun v s₁ h₁=>D_pre (wpAny_standAt (D_pre (wpAny_holding (wpAny_mono h₁ (fun t s₂ h₂=>?_) fun _ _ x=>x))))) fun _ _ x=>x)
  cases t with
  | true=>exact h₂
  | false=>exact D_pure h₂
theorem D_Call_Name {id : Str} {p pos : Pos} {args : List PySem.Expr} {Q : Value → Shared → Prop} (h : wpAny M A (eval (.Name id p) env) (fun f s₁=>wpD M A (callWith pos f [] (backTo pos (starEach args env)) []) Q E s₁) E s) :
    wpD M A (eval (.Call (.Name id p) args [] pos) env) Q E s:=by
  rw [arm_eval_Call_Name']
  exact D_pre h
theorem D_callWith_fn {pos : Pos} {a : Addr} {o : Obj} {fd : FuncData} {first : List Value} {args : List (Bool × Sem Value)} {Q : Value → Shared → Prop} (hd : o.data = .func fd) (hs : args.any (·.1) = false)
    (h:wpAny M A (evalArgs (.ref a) true args []) (fun x s₁=>s₁.heap.get? a = some o ∧ wpD M A (call (.ref a) (first ++ x.pos) x.kw) Q E s₁) E s) : wpD M A (callWith pos (.ref a) first args []) Q E s:=by
  unfold callWith
  refine D_pre (wpAny_holding (wpAny_mono h (fun x s₁ h₁=>D_pre (wpAny_standAt ?_)) fun _ _ x=>x))
  have tail : ∀ {t:Sem Value},wpD M A t Q E s₁ → wpD M A (t >>= fun r=>holding [r] point >>= fun _=>pure r) Q E s₁:=
    fun ht=>D_bind (D_mono ht (fun r s₂ hr=>D_pre (wpAny_holding (wpAny_point (D_pure hr)))) fun _ _ x=>x)
  simp only [hs,List.any_nil,Bool.or_false]
  refine D_pre (m:=keeperOf (.ref a)) ?_
  unfold keeperOf
  refine wpAny_bind (wpAny_load h₁.1 ?_)
  rw [hd]
  refine wpAny_pure ?_
  first
    | exact tail h₁.2
    | exact tail (by unfold callMarked;exact D_keep h₁.2)
    | (refine tail ?_;dsimp only;split <;> first | exact h₁.2 | (unfold callMarked;exact D_keep h₁.2))
    | (dsimp only;split <;> first | exact tail h₁.2 | (refine tail ?_;unfold callMarked;exact D_keep h₁.2))
theorem D_callWith_type {pos : Pos} {T : String} {first : List Value} {args : List (Bool × Sem Value)} {Q : Value → Shared → Prop} (hplain : args.any (·.1) = false)
    (h:wpAny M A (evalArgs (.type T) true args []) (fun a s₁=>wpD M A (call (.type T) (first ++ a.pos) a.kw) Q E s₁) E s) : wpD M A (callWith pos (.type T) first args []) Q E s:=by
  unfold callWith
  refine D_pre (wpAny_holding (wpAny_mono h (fun a s₁ h₁=>D_pre (wpAny_standAt ?_)) fun _ _ x=>x))
  simp only [hplain,List.any_nil,Bool.or_false]
  refine D_pre (wpAny_pure ?_)
  exact D_bind (D_mono h₁ (fun r s₂ hr=>D_pre (wpAny_holding (wpAny_point (D_pure hr)))) fun _ _ x=>x)
end
section
variable {prog : Program} {w : World} {A : Around} {s : Shared} {R : Result → Shared → Prop} {E : Value → Shared → Prop}
theorem cD_func {body : List Stmt} {env : Env} (h : wpD (model prog w) (A.deeper env) (execs body env) (fun f s'=>R (.ok (.ret (match f with | .ret v=>v | _=>.none))) s') (fun _ _=>False) s) :
    codeD (model prog w) A (.func body env) R s:=by
  refine cD_tree rfl ?_
  show wpD _ (A.deeper env) (do point;match ← (execs body env).onRaise (leaving env) with | .ret v=>ret v | _=>ret .none) _ _ s
  refine D_pre (wpAny_point (D_bind (D_onRaise (D_mono h (fun f s' h'=>?_) fun _ _ h'=>h'.elim))))
  cases f <;> exact D_pure h'
theorem cD_call_function {a : Addr} {args : Args} {o : Obj} {fd : FuncData} {body : List Stmt} (hroom : A.depth < recursionLimit) (ho : s.heap.get? a = some o)
    (hd' : o.data = .func fd) (hco : fd.scope.isCoroutine = false) (hgen : fd.scope.isGenerator = false) (hbody : fd.body = .stmts body) (hcd : s.heap.CodeRec fd.code fd.qualname)
    (h:wpAny (model prog w) A.in1 (bindArgs fd args) (fun binds s₁=>
      wpAny (model prog w) A.in1 (newFunctionEnv fd.scope fd.globals fd.closure binds (fd.qualname ++ ".<locals>.") (some a) fd.code none fd.builtins)
        (fun env s₂=>s₂.heap.NoLimit ∧ codeD (model prog w) A (.func body env) R s₂) (fun e s'=>R (.error e) s') s₁) (fun e s'=>R (.error e) s') s) :
    codeD (model prog w) A (.call (.ref a) args) R s:=by
  refine cD_tree rfl (D_any ?_)
  show wpAny _ A.in1 (callAny (.ref a) args) _ _ s
  simp only [callAny]
  refine wpAny_bind (wpAny_load ho ?_)
  refine obEEEEAAA hcd ?_;clear hcd;intro c oc vs tq hc hoc hdc hq
  simp only [hd',callFunction,hco,hgen,hbody,hc]
  rw [hc] at h
  refine wpAny_bind (m:=field (.ref c) 1) (wpAny_field hoc hdc hq (wpAny_bind (wpAny_pure ?_)))
  exact wpAny_bind (wpAny_mono h (fun binds s₁ h₁=>wpAny_bind (wpAny_mono h₁ (fun env s₂ h₂=>wpAny_bind (wpAny_enterFrame h₂.1 hroom
    (wpAny_pure (And.intro rfl h₂.2)))) fun _ _ h'=>h')) fun _ _ h'=>h')
end

end
section
set_option maxRecDepth 100000
noncomputable def none' : Value → Shared → Prop := fun _ _=>False
section
variable {prog : Program} {w : World} {A : Around} {s : Shared} {R : Result → Shared → Prop} {env : Env}
theorem D_noted {α : Type} {m : Sem α} {k : Value → Sem Unit} {Q : α → Shared → Prop} {E : Value → Shared → Prop} {M : Model} (h : wpD M A m Q none' s) : wpD M A (m.onRaise k) Q E s :=
  D_onRaise (D_mono h (fun _ _ q=>q) fun _ _ f=>f.elim)
theorem D_none {α : Type} {m : Sem α} {Q : α → Shared → Prop} {E : Value → Shared → Prop} {M : Model} (h : wpD M A m Q none' s) : wpD M A m Q E s := D_mono h (fun _ _ q=>q) fun _ _ f=>f.elim
theorem cD_compLoop {elt target iter : PySem.Expr} {scope : Scope} {pos : Pos} {it acc : Value} (I : Nat → Shared → Prop)
    (turn : ∀ n s, I n s → wpAny (model prog w) A (pyNext it) (fun r s₁ => match r with
      | none=>R (.ok .next) s₁
      | some v=>wpAny (model prog w) A (assign target env v) (fun _ s₂=>wpD (model prog w) A (eval elt env) (fun x s₃=>
          wpAny (model prog w) A (call (.builtin "list.append") [acc,x]) (fun _ s₄=>∃ m,m < n ∧ I m s₄) none' s₃) none' s₂) none' s₁) none' s)
    (n:Nat) (h:I n s) (ht : ∀ v,letOwnedTupleGo target it v = pure ():=by intro _;rfl) :
    codeD (model prog w) A (.compLoop (.ListComp elt [⟨target,iter,[],0⟩] scope pos) 0 it acc env) R s:=by
  refine cD_loop rfl rfl I (fun n s hI=>?_) n h
  show wpD _ A ((compTurn (.ListComp elt [⟨target,iter,[],0⟩] scope pos) 0 it acc env).onRaise (fun x=>do noteFrame x env;theTreesLotGoes x)) _ _ s
  refine D_noted ?_
  rw [compTurn_list1]
  refine D_pre (wpAny_standAt (D_pre (wpAny_mono (turn n s hI) (fun r s₁ h₁=>?_) fun _ _ h'=>h')))
  cases r with
  | none=>exact D_pure h₁
  | some v =>
    refine D_pre (wpAny_of_eq (ht v) ?_)
    exact D_pre (wpAny_mono h₁ (fun _ s₂ h₂=>D_bind (D_bind (D_mono h₂ (fun x s₃ h₃=>D_pre (wpAny_mono h₃
      (fun _ s₄ h₄=>D_pure (D_pure ⟨rfl,h₄⟩)) fun _ _ h'=>h')) fun _ _ h'=>h'))) fun _ _ h'=>h')
theorem cD_compStart {elt target iter : PySem.Expr} {scope : Scope} {pos : Pos} {it acc : Value}
    (h0 : codeD (model prog w) A (.compLoop (.ListComp elt [⟨target,iter,[],0⟩] scope pos) 0 it acc env) R s)
    (h:wpAny (model prog w) A (pyIter it) (fun it' s'=>codeD (model prog w) A (.compLoop (.ListComp elt [⟨target,iter,[],0⟩] scope pos) 0 it' acc env) R s') none' s) :
    codeD (model prog w) A (.compStart (.ListComp elt [⟨target,iter,[],0⟩] scope pos) 0 it acc env) R s:=by
  refine cD_tree rfl ?_
  show wpD _ A ((compStart (.ListComp elt [⟨target,iter,[],0⟩] scope pos) 0 it acc env).onRaise (fun x=>do noteFrame x env;standAt theWindowsPlace)) _ _ s
  refine D_noted ?_
  unfold compStart
  show wpD _ A (ask >>= _) _ _ s
  refine D_pre (wpAny_askSetting ?_)
  refine D_any ?_
  refine wpAny_ite ?_
  split
  · first
      | exact wpAny_bind (wpAny_pure (wpAny_pure (And.intro rfl h0)))
      | exact wpAny_pure (And.intro rfl h0)
  · first
      | exact wpAny_bind (wpAny_rule (wpAny_bind (wpAny_standAt (wpAny_bind (wpAny_mono h (fun it' s' h'=>wpAny_pure (And.intro rfl h')) fun _ _ x=>x)))))
      | (refine wpAny_bind (wpAny_rule ?_);show wpAny _ _ (standAt iter.pos >>= _) _ _ s;exact wpAny_bind (wpAny_standAt (wpAny_bind (wpAny_mono h (fun it' s' h'=>wpAny_pure (And.intro rfl h')) fun _ _ x=>x))))
end
section
variable {M : Model} {A : Around} {E : Value → Shared → Prop} {s : Shared} {env : Env}
end

end
section
set_option maxRecDepth 100000
section
variable {prog : Program} {w : World} {A : Around} {env : Env}
theorem D_compBlock {elt iter : PySem.Expr} {x : Str} {px : Pos} {scope : Scope} {pos : Pos} {s₂ : Shared} {I : Addr} {fp wr : List Addr} {n : Nat} {P : Nat → Value → Prop} {St : Nat → Heap → Prop}
    (W:Walks prog w A I fp wr n P St) (hsz : n ≤ sizeLine) (F:Value → Value → Prop) {RR : Value → Addr → Result → Shared → Prop}
    (hcell : ∀ y ∈ scope.names,y.2 ≠ .cell) (hkind : scope.kind = .function) (hx : scope.names.lookup x = some .local) (hst : St 0 s₂.heap) (hfp : ∀ b ∈ fp,b < s₂.heap.objs.size)
    (helt : ∀ C i v s₃ m₃,s₂.heap.objs.size ≤ C → P i v → s₃.heap.Ns C m₃ → m₃ x = some v → (∀ b o,b ∉ wr → s₂.heap.get? b = some o → s₃.heap.get? b = some o) →
        wpD (model prog w) A (eval elt (compEnv scope C env)) (fun y s₄=>F v y ∧ ∃ h' tk',s₄ = { s₃ with heap:=h',toks:=tk' } ∧ ∀ b o,s₃.heap.get? b = some o → h'.get? b = some o) none' s₃)
    (hRR : ∀ D C h' tk m' ys (vs : List Value),s₂.heap.get? D = none → s₂.heap.get? C = none → D ≠ C → h'.Ns C m' → h'.PlainList D ys → vs.length = n → (∀ j v,vs[j]? = some v → P j v) → Paired F vs ys.toList →
      (∀ b o,b ∉ wr → s₂.heap.get? b = some o → h'.get? b = some o) → RR (.ref D) C (.ok .next) { s₂ with heap:=h',toks:=tk }) :
    wpAny (model prog w) A (newList []) (fun acc s₃=>wpAny (model prog w) A (newFunctionEnv scope env.globals [] [] env.qual none .none (some env)) (fun cenv s₄=>
      codeD (model prog w) A (.compStart (.ListComp elt [⟨.Name x px,iter,[],0⟩] scope pos) 0 (.ref I) acc { cenv with scope:=scope }) (RR acc cenv.locals) s₄) none' s₃) none' s₂:=by
  refine wpAny_newObj_type (wpAny_newFunctionEnv hcell (by intro y hy;simp at hy) (fun h₁ hns₁ hsb₁=>?_) hkind)
  dsimp only at hns₁ hsb₁ ⊢
  generalize hH2 : s₂.heap.push { cls:=.type "list",dict:=none,data:=.seq ([] : List Value).toArray } = H2 at hns₁ hsb₁ ⊢
  have hC : H2.objs.size = s₂.heap.objs.size + 1:=by rw [← hH2,Heap.size_push]
  have hDC : s₂.heap.objs.size ≠ H2.objs.size:=by rw [hC];exact Nat.ne_of_lt (Nat.lt_succ_self _)
  have hCle : s₂.heap.objs.size ≤ H2.objs.size:=by rw [hC];exact Nat.le_succ _
  have below : ∀ b,b < s₂.heap.objs.size → b ≠ H2.objs.size ∧ b ≠ s₂.heap.objs.size:=fun b hb=>⟨by rw [hC];exact Nat.ne_of_lt (Nat.lt_succ_of_lt hb),Nat.ne_of_lt hb⟩
  have hDf : s₂.heap.objs.size ∉ fp:=fun hm=>Nat.lt_irrefl _ (hfp _ hm)
  have hCf : H2.objs.size ∉ fp:=fun hm=>by have:=hfp _ hm;rw [hC] at this;exact Nat.lt_irrefl _ (Nat.lt_of_succ_lt this)
  have old : ∀ b o,s₂.heap.get? b = some o → h₁.get? b = some o:=fun b o e=>hsb₁.extBut b o (below b (Heap.lt_size e)).1 (Heap.get?_push_of_some _ (hH2 ▸ Heap.get?_push_of_some _ e))
  have hacc : h₁.PlainList s₂.heap.objs.size #[]:=⟨_,hsb₁.extBut _ _ hDC (Heap.get?_push_of_some _ (hH2 ▸ Heap.get?_push_size _ rfl))⟩
  have hst₁ : St 0 h₁:=W.frame _ _ _ hst fun b _ o e=>old b o e
  have fresh : ∀ a,s₂.heap.objs.size ≤ a → s₂.heap.get? a = none:=fun a ha=>by
    cases e : s₂.heap.get? a with
    | none=>rfl
    | some o'=>exact absurd (Heap.lt_size e) (Nat.not_lt.mpr ha)
  have hfD:=fresh _ (Nat.le_refl _)
  have hfC:=fresh H2.objs.size hCle
  generalize hD : s₂.heap.objs.size = D at hDC hDf hacc hfD ⊢
  generalize hCC : H2.objs.size = C at hns₁ hsb₁ hDC hCf hfC ⊢
  have hCw : C ∉ wr:=fun h=>hCf (W.sub _ h)
  have hDw : D ∉ wr:=fun h=>hDf (W.sub _ h)
  have loop : ∀ s₃ : Shared,s₃ = { s₂ with heap:=h₁,toks:=s₂.toks + ([] : List (Str × Value)).length } →
      codeD (model prog w) A (.compLoop (.ListComp elt [⟨.Name x px,iter,[],0⟩] scope pos) 0 (.ref I) (.ref D) (compEnv scope C env))
        (RR (.ref D) C) s₃:=by
    rintro s₃ rfl
    refine cD_compLoop (fun k s'=>∃ h' tk m' ys,∃ vs : List Value,s' = { s₂ with heap:=h',toks:=tk } ∧ St vs.length h' ∧ h'.PlainList D ys ∧ h'.Ns C m' ∧ (∀ j v,vs[j]? = some v → P j v) ∧
      Paired F vs ys.toList ∧ vs.length ≤ n ∧ k = n + 1 - vs.length ∧ (∀ b o,b ∉ wr → s₂.heap.get? b = some o → h'.get? b = some o)) ?_ (n + 1)
      ⟨h₁,_,_,#[],[],rfl,hst₁,hacc,hns₁,by simp,Paired.nil,Nat.zero_le _,rfl,fun b o _ e=>old b o e⟩
    rintro k s' ⟨H,tk,m',ys,vs,rfl,hst',hacc',hn',hP,hF,hi,rfl,hk⟩
    by_cases hlt : vs.length < n
    · refine W.item vs.length _ _ _ hlt hst' fun v h₂ tk₂ hPv hst₂ hk₂ => ?_
      refine wpAny_assign_Name (wpAny_storeName_local (show Env.kindOf (compEnv scope C env) x = some .local from hx) (show h₂.Ns (compEnv scope C env).locals _ from hn'.at' fun o e=>hk₂ _ o hCw e) (fun h₃ hn₃ hs₃=>?_) (by simp [compEnv,hkind]))
      have up₃ : ∀ b o,b ≠ C → b ∉ wr → H.get? b = some o → h₃.get? b = some o:=fun b o hbC hbf e=>hs₃.extBut b o hbC (hk₂ b o hbf e)
      have hst₃ : St (vs.length + 1) h₃:=W.frame _ _ _ hst₂ fun b hb o e=>hs₃.extBut b o (fun h=>hCf ((show b = C from h) ▸ hb)) e
      have up : ∀ b o,b ∉ wr → s₂.heap.get? b = some o → h₃.get? b = some o:=fun b o hb e=>up₃ b o (fun q=>(below b (Heap.lt_size e)).1 (q.trans hCC.symm)) hb (hk b o hb e)
      refine D_mono (helt C vs.length v _ _ (hCC ▸ hCle) hPv hn₃ (by simp) up) (fun y s₄ h₄=>?_) fun _ _ e=>e
      refine Classical.byContradiction fun NG=>?_
      refine obAEEA h₄ ?_;clear h₄;intro hFy h₄ tk₄ oR3 hk₄;subst oR3
      refine NG ?_
      clear NG
      have hys : ys.size ≤ sizeLine:=by
        have e1:=hF.length
        have e4 : ys.toList.length = ys.size:=by simp
        omega
      refine wpAny_list_append_plain (hsz:=hys) (hacc'.at fun o e=>hk₄ _ o (up₃ D o hDC hDw e)) fun h₅ hl₅ hs₅=>?_
      refine ⟨n + 1 - (vs.length + 1),by omega,h₅,tk₄,_,ys.push y,vs ++ [v],rfl,?_,hl₅,(Heap.Ns.at' hn₃ fun o e=>hk₄ _ o e).sameBut hs₅ (Ne.symm hDC),fun j u hj=>?_,?_,(by rw [List.length_append,List.length_singleton];exact hlt),(by rw [List.length_append,List.length_singleton]),
        fun b o hbf e=>hs₅.extBut b o (fun q=>(below b (Heap.lt_size e)).2 (q.trans hD.symm)) (hk₄ b o (up b o hbf e))⟩
      · have := W.frame _ _ h₅ hst₃ fun b hb o e => hs₅.extBut b o (fun h => hDf (h ▸ hb)) (hk₄ b o e)
        simpa using this
      · rcases Nat.lt_trichotomy j vs.length with h | h | h
        · exact hP j u (by rwa [List.getElem?_append_left h] at hj)
        · subst h;simp at hj;subst hj;exact hPv
        · have hnone : (vs ++ [v])[j]? = none := List.getElem?_eq_none (by rw [List.length_append, List.length_singleton]; omega)
          rw [hnone] at hj;cases hj
      · rw [Array.toList_push];exact Paired.snoc hF hFy
    · have hin : vs.length = n := by omega
      refine W.done _ _ _ (hin ▸ hst') fun h₂ tk₂ hk₂=>?_
      exact hRR D C h₂ tk₂ m' ys vs hfD hfC hDC (hn'.at' fun o e=>hk₂ _ o hCw e) (hacc'.at fun o e=>hk₂ _ o hDw e) hin hP hF fun b o hb e=>hk₂ b o hb (hk b o hb e)
  exact cD_compStart (loop _ rfl) (W.self 0 _ _ _ hst₁ (loop _ rfl))
theorem D_comprehension_use {M : Model} {E : Value → Shared → Prop} {s : Shared} {e : PySem.Expr} {scope : Scope} {pos : Pos} {newAcc first : Sem Value} {g : Comprehension} {gs : List Comprehension} {u : Value → Sem Unit} {Q : Value → Shared → Prop}
    (hcl : clausesOf e = g :: gs) (hs : ∀ x,foldedSetIterable g.iter env x = pure x)
    (hfree : ∀ x ∈ scope.names,x.2 ≠ .free) (hkind : scope.kind = .function) (hnames : ∀ x ∈ scope.names,x.2 = .local → scope.names.lookup x.1 = some .local)
    (h:wpAny M A first (fun x s₁=>wpAny M A (pyIter x) (fun it s₂=>wpAny M A newAcc (fun acc s₃=>
      wpAny M A (newFunctionEnv scope env.globals [] [] env.qual none .none (some env)) (fun cenv s₄=>
        codeD M A (.compStart e 0 it acc { cenv with scope:=scope }) (fun r s'=>match r with
          | .ok _=>wpAny M A (u acc) (fun _ s''=>∃ m,s''.heap.Ns cenv.locals m ∧ ∀ h',Heap.SameBut cenv.locals s''.heap h' → Q .none { s'' with heap:=h' }) E s'
          | .error _=>False) s₄) E s₃) E s₂) E s₁) E s) :
    wpD M A (comprehension e scope env pos newAcc false first (some u)) Q E s:=by
  unfold comprehension
  rw [closureFor_none hfree,hcl]
  refine D_pre (wpAny_mono h (fun x s₁ h₁=>D_pre (wpAny_standAt (D_pre (wpAny_of_eq (hs x) (D_pre (wpAny_holding (wpAny_mono h₁ (fun it s₂ h₂=>
    ?_) fun _ _ h'=>h'))))))) fun _ _ h'=>h')
  show wpD M A (standAt e.pos >>= fun _=>newAcc >>= _) Q E s₂
  refine D_pre (wpAny_standAt (D_pre (wpAny_mono h₂ (fun acc s₃ h₃=>D_pre (wpAny_pure (D_pre (wpAny_mono h₃ (fun cenv s₄ h₄=>?_) fun _ _ h'=>h')))) fun _ _ h'=>h')))
  dsimp only
  rw [map_eq_self (l:=scope.names) (fun x hx=>by
    obtain ⟨n,k⟩:=x
    have : (k == NameKind.free) = false:=by simpa using hfree _ hx
    simp [this])]
  have hv : ∀ x ∈ (scope.names.filter fun x=>(x.2 == .local || x.2 == .cell) && x.1 != (".0" : Str)).reverse,x.2 = .local →
      Env.kindOf { cenv with scope:=scope } x.1 = some .local:=fun x hx hl=>hnames x (List.mem_filter.mp (List.mem_reverse.mp hx)).1 hl
  have hv' : ∀ x ∈ (scope.names.filter fun x=>(x.2 == .local || x.2 == .cell) && x.1 != (".0" : Str)).reverse.drop 1 ++ (scope.names.filter fun x=>(x.2 == .local || x.2 == .cell) && x.1 != (".0" : Str)).reverse.take 1,
      x.2 = .local → Env.kindOf { cenv with scope:=scope } x.1 = some .local:=fun x hx hl=>by
    rcases List.mem_append.mp hx with h1 | h1
    · exact hv x (List.mem_of_mem_drop h1) hl
    · exact hv x (List.mem_of_mem_take h1) hl
  refine D_holding (D_bind (D_attempt (D_holding (D_run (cD_mono h₄ fun r s' hr=>?_) (by intro x;cases x)))))
  cases r with
  | ok f =>
    refine D_pre (wpAny_rule (D_pre (wpAny_holding (wpAny_mono hr (fun _ s'' hr'=>?_) fun _ _ h'=>h'))))
    refine Classical.byContradiction fun NG=>?_
    refine obEA hr' ?_;clear hr';intro m hn hr'
    refine NG ?_
    clear NG
    exact D_pre (wpAny_comp_letGo (cenv:={ cenv with scope:=scope }) hkind _ s'' m hv' hn fun h' m' _ hs'=>D_pure (hr' h' hs'))
  | error x=>exact hr.elim
noncomputable def AsgD (prog : Program) (w : World) (A : Around) (elt : PySem.Expr) (scope : Scope) (env : Env) (x y : Str) (F : Value → Value → Prop) (Q : Flow → Shared → Prop) (it : Value) (s₂ : Shared) : Prop :=
  ∃ I fp wr n P St, it = .ref I ∧ Walks prog w A I fp wr n P St ∧ n ≤ sizeLine ∧ St 0 s₂.heap ∧ (∀ b ∈ fp, b < s₂.heap.objs.size) ∧
      (∀ C i v s₃ m₃,s₂.heap.objs.size ≤ C → P i v → s₃.heap.Ns C m₃ → m₃ x = some v → (∀ b o,b ∉ wr → s₂.heap.get? b = some o → s₃.heap.get? b = some o) →
        wpD (model prog w) A (eval elt (compEnv scope C env)) (fun y s₄=>F v y ∧ ∃ h' tk',s₄ = { s₃ with heap:=h',toks:=tk' } ∧ ∀ b o,s₃.heap.get? b = some o → h'.get? b = some o) none' s₃) ∧
      (∀ D h' tk ys (vs : List Value),s₂.heap.get? D = none → h'.PlainList D ys → vs.length = n → (∀ j v,vs[j]? = some v → P j v) → Paired F vs ys.toList →
        (∀ b o,b ∉ wr → s₂.heap.get? b = some o → h'.get? b = some o) → wpAny (model prog w) A (storeName env y (.ref D)) (fun _ s''=>(∃ o,s₂.heap.get? env.locals = some o) ∧ Heap.SameBut env.locals h' s''.heap ∧ ∀ h'',(∀ b o,s''.heap.get? b = some o → s₂.heap.get? b ≠ none ∨ b = D → h''.get? b = some o) → Q .next { s'' with heap:=h'' }) none' { s₂ with heap:=h',toks:=tk })
theorem AsgD.intro {elt : PySem.Expr} {scope : Scope} {x y : Str} {F : Value → Value → Prop} {Q : Flow → Shared → Prop} {it : Value} {s₂ : Shared} {I : Addr} {fp wr : List Addr} {n : Nat} {P : Nat → Value → Prop} {St : Nat → Heap → Prop}
    (h1 : it = .ref I) (h2 : Walks prog w A I fp wr n P St) (h3 : n ≤ sizeLine) (h4 : St 0 s₂.heap) (h5 : (∀ b ∈ fp,b < s₂.heap.objs.size))
    (h6 : (∀ C i v s₃ m₃, s₂.heap.objs.size ≤ C → P i v → s₃.heap.Ns C m₃ → m₃ x = some v → (∀ b o, b ∉ wr → s₂.heap.get? b = some o → s₃.heap.get? b = some o) →
        wpD (model prog w) A (eval elt (compEnv scope C env)) (fun y s₄=>F v y ∧ ∃ h' tk',s₄ = { s₃ with heap:=h',toks:=tk' } ∧ ∀ b o,s₃.heap.get? b = some o → h'.get? b = some o) none' s₃))
    (h7 : (∀ D h' tk ys (vs : List Value), s₂.heap.get? D = none → h'.PlainList D ys → vs.length = n → (∀ j v, vs[j]? = some v → P j v) → Paired F vs ys.toList →
        (∀ b o,b ∉ wr → s₂.heap.get? b = some o → h'.get? b = some o) → wpAny (model prog w) A (storeName env y (.ref D)) (fun _ s''=>(∃ o,s₂.heap.get? env.locals = some o) ∧ Heap.SameBut env.locals h' s''.heap ∧ ∀ h'',(∀ b o,s''.heap.get? b = some o → s₂.heap.get? b ≠ none ∨ b = D → h''.get? b = some o) → Q .next { s'' with heap:=h'' }) none' { s₂ with heap:=h',toks:=tk })) : AsgD prog w A elt scope env x y F Q it s₂:=⟨I,fp,wr,n,P,St,h1,h2,h3,h4,h5,h6,h7⟩
theorem D_Assign_ListComp {s : Shared} {elt iter : PySem.Expr} {x y : Str} {px py : Pos} {scope : Scope} {pos spos : Pos} {E : Value → Shared → Prop} {Q : Flow → Shared → Prop} (F : Value → Value → Prop)
    (hfree : ∀ y ∈ scope.names,y.2 ≠ .free) (hcell : ∀ y ∈ scope.names,y.2 ≠ .cell) (hkind : scope.kind = .function)
    (hnames : ∀ y ∈ scope.names,y.2 = .local → scope.names.lookup y.1 = some .local) (hx : scope.names.lookup x = some .local)
    (hsw : swapsWith (.ListComp elt [⟨.Name x px,iter,[],0⟩] scope pos) (some (.Name y py)) spos.line env = pure true)
    (h:wpAny (model prog w) A (eval iter env) (fun xv s₁=>wpAny (model prog w) A (pyIter xv) (fun it s₂=>AsgD prog w A elt scope env x y F Q it s₂) none' s₁) none' s)
    (hs : ∀ x,foldedSetIterable iter env x = pure x:=by intro _;rfl) :
    wpD (model prog w) A (exec (.Assign [.Name y py] (.ListComp elt [⟨.Name x px,iter,[],0⟩] scope pos) spos) env) Q E s:=by
  refine D_none ?_
  rw [exec_Assign_Name_used _ _ _ _ hsw]
  refine D_pre (wpAny_standAt (D_bind ?_))
  show wpD _ A (do let _ ← comprehension (.ListComp elt [⟨.Name x px,iter,[],0⟩] scope pos) scope env _ (newList []) false (eval iter env) (some (assign (.Name y py) env))) _ _ s
  refine D_bind (D_mono (D_comprehension_use (Q:=fun _ s'=>Q .next s') rfl hs hfree hkind hnames
    (wpAny_mono h (fun xv s₁ h₁=>wpAny_mono h₁ (fun it s₂ h₂=>?_) fun _ _ e=>e) fun _ _ e=>e)) (fun _ s' hq=>D_pure (D_pure hq)) fun _ _ e=>e)
  refine Classical.byContradiction fun NG=>?_
  refine obEEEEEEAAAAAA h₂ ?_;clear h₂;intro I fp wr n P St oR6 W hsz hst hfp helt hQ;subst oR6
  refine NG ?_
  clear NG
  refine D_compBlock (RR:=fun acc C r s'=>match r with
          | .ok _=>wpAny (model prog w) A (assign (.Name y py) env acc) (fun _ s''=>∃ m,s''.heap.Ns C m ∧ ∀ h',Heap.SameBut C s''.heap h' → Q .next { s'' with heap:=h' }) none' s'
          | .error _=>False) W hsz F hcell hkind hx hst hfp helt ?_
  intro D C h' tk m' ys vs hD hC hDC hn hpl hlen hP hF hk
  refine wpAny_assign_Name (wpAny_mono (hQ D h' tk ys vs hD hpl hlen hP hF hk) (fun _ s'' hq=>?_) fun _ _ e=>e)
  refine Classical.byContradiction fun NG=>?_
  refine obAA hq ?_;clear hq;intro oN0 hs2 hq;obtain ⟨oL,hoL⟩:=oN0
  refine NG ?_
  clear NG
  have hLC : C ≠ env.locals:=by rintro rfl;rw [hC] at hoL;cases hoL
  exact ⟨m',hn.sameBut hs2 hLC,fun h3 hs3=>hq h3 fun b o e hb=>hs3.extBut b o (by
    rintro rfl
    rcases hb with hb | hb
    · exact hb hC
    · exact hDC hb.symm) e⟩
end

end
section
set_option maxRecDepth 100000
noncomputable abbrev bytesObj (b : Array UInt8) : Obj := { cls := .type "bytearray",data := .bytearray b }
theorem ba_mro : mroOf (.type "bytearray") = pure [.type "bytearray",.type "object"] := by rw [mroOf_type];kernel_rfl
theorem ba_lookup_new : typeLookup (.type "bytearray") "__new__" = pure (some (.builtin "bytearray.__new__")) := by rw [typeLookup_type,builtinLookup_eq_fast];kernel_rfl
theorem ba_slot_init : Slot "bytearray" "__init__" "bytearray.__init__" :=
  .of (owner := "bytearray") (n := "__init__") (by rw [typeLookup_type,builtinLookup_eq_fast];kernel_rfl) (by decide +kernel) (by decide +kernel) (by decide +kernel)
    (by first | exact .inl (by decide +kernel) | exact .inr (by decide +kernel)) (by rw [isSubtype_type];kernel_rfl)
theorem ba_slot_set : Slot "bytearray" "__setitem__" "bytearray.__setitem__" :=
  .of (owner := "bytearray") (n := "__setitem__") (by rw [typeLookup_type,builtinLookup_eq_fast];kernel_rfl) (by decide +kernel) (by decide +kernel) (by decide +kernel)
    (by first | exact .inl (by decide +kernel) | exact .inr (by decide +kernel)) (by rw [isSubtype_type];kernel_rfl)
theorem ba_sub : isSubtype (.type "bytearray") (.type "bytearray") = pure true := by rw [isSubtype_type];kernel_rfl
theorem ba_called : TypeCalled "bytearray" "bytearray.__new__" "bytearray.__init__" :=
  ⟨by decide +kernel,by decide +kernel,⟨_,_,ba_mro⟩,madeBy_type ba_mro ba_lookup_new (by decide +kernel),by decide +kernel,ba_sub,ba_slot_init⟩
theorem ba_typeCall (a : Value) : checkTypeCall "bytearray" ⟨[a],[]⟩ = pure () := by kernel_rfl
theorem ba_newCall (a : Value) : checkBuiltinCall "bytearray.__new__" ⟨[.type "bytearray",a],[]⟩ = pure () := by kernel_rfl
theorem ba_entry_new : entryFor table "bytearray.__new__" = some Builtin.«list.__new__» := entryFor_alias (id' := "list.__new__") (by kernel_rfl) rfl (by decide +kernel) (by kernel_rfl)
theorem ba_entry_init : entryFor table "bytearray.__init__" = some Builtin.«bytearray.__init__» := by first | exact entryFor_of_fast (by kernel_rfl) | exact entryFor_of_tree (by kernel_rfl)
theorem ba_entry_set : entryFor table "bytearray.__setitem__" = some Builtin.«bytearray.__setitem__» := by first | exact entryFor_of_fast (by kernel_rfl) | exact entryFor_of_tree (by kernel_rfl)
theorem ba_plain_new : plainId "bytearray.__new__" = true := by decide +kernel
theorem ba_plain_init : plainId "bytearray.__init__" = true := by decide +kernel
theorem ba_args_init (a b : Value) : argsOk "bytearray.__init__" ⟨[a,b],[]⟩ := by unfold argsOk;kernel_rfl
theorem ba_args_set (a b c : Value) : argsOk "bytearray.__setitem__" ⟨[a,b,c],[]⟩ := by unfold argsOk;kernel_rfl
theorem ba_bind (v : Value) : Builtin.Bytes.bindOptional "bytearray.__init__" "bytearray" ["source", "encoding", "errors"] [v] [] = pure [some v,none,none] := by kernel_rfl
theorem ba_release : typeLookup (.type "bytearray") "__release_buffer__" = pure (some (.builtin "bytearray.__release_buffer__")) := by rw [typeLookup_type,builtinLookup_eq_fast];kernel_rfl
theorem ba_buffer : typeLookup (.type "bytearray") "__buffer__" = pure (some (.builtin "bytearray.__buffer__")) := by rw [typeLookup_type,builtinLookup_eq_fast];kernel_rfl
theorem ba_no_bytes : typeLookup (.type "bytearray") "__bytes__" = pure none := by rw [typeLookup_type,builtinLookup_eq_fast];kernel_rfl
theorem ba_no_index : typeLookup (.type "bytearray") "__index__" = pure none := by rw [typeLookup_type,builtinLookup_eq_fast];kernel_rfl
set_option maxRecDepth 1000000 in
theorem ba_owner : ("bytearray.__new__".splitOn ".__new__").headD "" = "bytearray" := by simp +decide [String.splitOn,String.splitOnAux]
section
variable {prog : Program} {w : World} {A : Around} {E : Value → Shared → Prop} {s : Shared}
theorem code_ba_new (a : Value) {Q₁ : Value → Shared → Prop} (h : Q₁ (.ref s.heap.objs.size) { s with heap := s.heap.push (bytesObj #[]) }) :
    codeAny (model prog w) A (.call (.builtin "bytearray.__new__") ⟨[.type "bytearray",a],[]⟩) (wants Q₁ E) s:=by
  refine codeAny_of_tree ?_
  show wpAny _ A.in1 (do checkBuiltinCall "bytearray.__new__" ⟨[.type "bytearray",a],[]⟩;again (.builtin "bytearray.__new__" ⟨[.type "bytearray",a],[]⟩)) _ _ s
  refine wpAny_bind (wpAny_of_eq (ba_newCall a) (wpAny_pure ⟨plainId_quiet ba_plain_new _,codeAny_builtin_stack ba_entry_new rfl fun p st=>?_⟩))
  rw [Around.under_plainId ba_plain_new _]
  have hsub:=ba_sub
  have hown:=ba_owner
  obtain ⟨hp,g,d,tk,os⟩:=s
  simp only [hown]
  wp_walk
  exact h
theorem releaseOk {D : Addr} {b : Array UInt8} {Q : Bool → Shared → Prop} (hD : s.heap.get? D = some (bytesObj b)) (h : Q false s) : wpAny (model prog w) A (Builtin.Bytes.ownRelease (.ref D)) Q E s := by
  have hT : s.TypeIs (.ref D) "bytearray" := ⟨_,hD,rfl⟩
  unfold Builtin.Bytes.ownRelease Builtin.Bytes.slotIsOwn
  refine wpAny_bind (wpAny_bind (wpAny_specialOf hT ba_release ?_))
  dsimp only
  refine wpAny_ite ?_
  rw [if_neg (by decide +kernel)]
  have e : ("bytearray.__release_buffer__".dropRight ("__release_buffer__".length + 1)) = "bytearray" := by decide +kernel
  rw [e]
  exact wpAny_isInstance hT ba_sub (wpAny_pure h)
end

end
section
set_option maxRecDepth 100000
section
variable {M : Model} {A : Around} {E : Value → Shared → Prop} {s : Shared}
theorem D_if_false {α : Type} {c : Bool} {a b : Sem α} {Q : α → Shared → Prop} (hc : c = false) (h : wpD M A b Q E s) : wpD M A (if c = true then a else b) Q E s := by subst hc;exact h
theorem D_callSpecial {self : Value} {T : String} {name : Str} {id : String} {args : List Value} {kw : List (Str × Value)} {Q : Option Value → Shared → Prop} (hT : s.TypeIs self T) (h : Slot T name id)
    (hc : wpD M A (call (.builtin id) (self :: args) kw) (fun v=>Q (some v)) E s) : wpD M A (callSpecial? self name args kw) Q E s:=by
  simp only [callSpecial?]
  refine D_pre (wpAny_specialOf hT h.lookup ?_)
  simp only [h.bind]
  exact D_holding (D_pre (wpAny_pure (D_bind (D_mono hc (fun v s' h'=>D_pure h') fun _ _ h'=>h'))))
end
section
variable {prog : Program} {w : World} {A : Around} {E : Value → Shared → Prop} {s : Shared} {R : Result → Shared → Prop}
theorem cD_builtin {id : String} {args : Args} {b : Builtin} (hk : okC (.builtin id args) = true) (hb : entryFor table id = some b)
    (h:wpD (model prog w) (A.under (.builtin id args)) (b args) (treeD (model prog w) A R) (fun e s'=>R (.error e) s') s) : codeD (model prog w) A (.builtin id args) R s:=by
  refine cD_tree hk ?_
  show wpD _ _ (match entryFor table id with | some b=>b args | none=>unsupported ((withoutEnding? id "#data").getD id)) _ _ s
  rw [hb];exact h
theorem cD_call_builtin {id : String} {args : Args} {b : Builtin} (hq : plainId id = true) (hk : okC (.builtin id args) = true) (hb : entryFor table id = some b)
    (h:wpAny (model prog w) A.in1 (checkBuiltinCall id args) (fun _ s₁=>wpD (model prog w) A.in1 (b args) (treeD (model prog w) A R) (fun e s'=>R (.error e) s') s₁)
      (fun e s'=>R (.error e) s') s) : codeD (model prog w) A (.call (.builtin id) args) R s:=by
  refine cD_tree rfl ?_
  show wpD _ A.in1 (do checkBuiltinCall id args;again (.builtin id args)) _ _ s
  refine D_pre (wpAny_mono h (fun _ s₁ h₁=>D_pure (And.intro (plainId_quiet hq args) (cD_builtin hk hb ?_))) fun _ _ h'=>h')
  rw [Around.under_plainId hq args];exact h₁
theorem asIndex_int (i : Int) (t : Tok) : asIndex (.int i t) = pure i := rfl
theorem typeOf_int' (i : Int) (t : Tok) : typeOf (.int i t) = pure (.type "int") := rfl
theorem asStr_int (i : Int) (t : Tok) : asStr? (.int i t) = pure none := rfl
theorem D_ba_init {A' : Around} {D : Addr} {n : Nat} {t : Tok} (hD : s.heap.get? D = some (bytesObj #[])) (hn : n ≤ sizeLine) (h0 : 0 < n)
    (h : ∀ h',h'.get? D = some (bytesObj (Array.replicate n 0)) → Heap.ExtBut D s.heap h' → R (.ok (.ret .none)) { s with heap:=h' }) :
    wpD (model prog w) A (Builtin.«bytearray.__init__» ⟨[.ref D,.int n t],[]⟩) (treeD (model prog w) A' R) E s:=by
  have hT : s.TypeIs (.ref D) "bytearray" := ⟨_,hD,rfl⟩
  unfold Builtin.«bytearray.__init__»
  show wpD _ _ (Builtin.Bytes.ownRelease (.ref D) >>= _) _ _ s
  refine D_pre (releaseOk hD ?_)
  refine D_if_false rfl ?_
  refine D_pre (wpAny_of_eq (ba_bind _) ?_)
  refine D_pre (wpAny_of_eq (a:=()) rfl ?_)
  refine D_pre (wpAny_of_eq (a:=()) rfl ?_)
  refine D_bind ?_
  show wpD _ _ (Builtin.Bytes.exported (.ref D) >>= _) _ _ s
  refine D_bind (D_exported ?_)
  show wpD _ _ (Builtin.Bytes.exportsOf (.ref D) >>= _) _ _ s
  refine D_any (wpAny_bind ?_)
  unfold Builtin.Bytes.exportsOf
  show wpAny _ _ (load D >>= _) _ _ s
  refine wpAny_bind (wpAny_load hD ?_)
  refine wpAny_pure (wpAny_pure ?_)
  refine D_any ?_
  refine bm_if_false rfl ?_
  have w1 : ∀ {Q:Unit → Shared → Prop} {s:Shared} {E:Value → Shared → Prop} {b:Array UInt8} (f:Array UInt8 → Array UInt8),s.heap.get? D = some (bytesObj b) → (f b).size ≤ sizeLine → Q () { s with heap:=s.heap.update D (Obj.mapBytearray f) } → wpAny (model prog w) A (Builtin.Bytes.write (.ref D) f) Q E s:=by
    intro Q s E b f hS hz hq
    show wpAny _ _ (updateBytearray D f) _ _ _
    unfold updateBytearray
    refine wpAny_bind (wpAny_load hS ?_)
    show wpAny _ _ (update D (Obj.mapBytearray f) >>= fun _=>lookBehind D) _ _ _
    refine wpAny_bind (wpAny_update hS ?_)
    refine wpAny_lookBehind (o:=bytesObj (f b)) (Heap.get?_update_self (Obj.mapBytearray f) hS rfl) ?_ hq
    show (if (f b).size > sizeLine then some "bytearray:memory" else none) = none
    rw [if_neg (by omega)]
  refine wpAny_bind (w1 (fun _=>#[]) hD (Nat.zero_le _) ?_)
  have hD2:=Heap.get?_update_self (Obj.mapBytearray fun _=>#[]) hD rfl
  show wpAny _ _ (asStr? (.int n t) >>= _) _ _ _
  refine wpAny_bind ?_
  rw [asStr_int]
  refine wpAny_pure ?_
  refine wpAny_ite ?_
  rw [if_neg (by decide)]
  refine wpAny_bind ?_
  refine wpAny_ite ?_
  rw [if_neg (by decide)]
  refine wpAny_ite ?_
  rw [if_neg (by decide)]
  refine wpAny_pure ?_
  show wpAny _ _ (specialOf (.int n t) _ >>= _) _ _ _
  refine wpAny_bind ?_
  have hTi : ∀ s : Shared,s.TypeIs (.int (n:Int) t) "int" := fun _=>rfl
  unfold specialOf
  refine wpAny_bind ?_
  rw [typeOf_int']
  refine wpAny_pure ?_
  rw [(PySem.F.slot_int_index).lookup]
  refine wpAny_pure ?_
  refine wpAny_ite ?_
  rw [if_pos (by rfl)]
  refine wpAny_bind ?_
  refine wpAny_attempt ?_
  rw [asIndex_int]
  refine wpAny_pure ?_
  have hfit : ¬(!Builtin.Bytes.fitsIndex (n:Int)) = true:=by
    have : Builtin.Bytes.fitsIndex (n:Int) = true:=by
      unfold Builtin.Bytes.fitsIndex
      rw [sizeLine_eq] at hn
      simp only [Bool.and_eq_true,decide_eq_true_eq]
      omega
    rw [this];decide
  refine wpAny_ite ?_
  rw [if_neg hfit]
  refine wpAny_ite ?_
  rw [if_neg (by omega)]
  refine wpAny_ite ?_
  rw [if_neg (by rw [sizeLine_eq] at hn;simp only [beq_iff_eq];omega)]
  refine wpAny_ite ?_
  rw [if_neg (by unfold Builtin.Bytes.tooLong;simp only [decide_eq_true_eq];omega)]
  refine wpAny_bind ?_
  refine wpAny_rule ?_
  refine wpAny_ite ?_
  rw [if_pos (by omega)]
  refine wpAny_bind ?_
  refine w1 _ hD2 ?_ ?_
  · rw [Array.size_replicate];omega
  have hD3:=Heap.get?_update_self (Obj.mapBytearray fun _=>Array.replicate (n:Int).toNat 0) hD2 rfl
  have e1 : (n:Int).toNat = n:=Int.toNat_natCast n
  rw [e1] at hD3 ⊢
  refine wpAny_pure ?_
  exact h _ hD3 (Heap.ExtBut.trans (Heap.SameBut.update ..).extBut (Heap.SameBut.update ..).extBut)
end

end
section
set_option maxRecDepth 100000
section
variable {prog : Program} {w : World} {A : Around} {E : Value → Shared → Prop} {s : Shared}
theorem D_ite {α : Type} {M : Model} {c : Prop} [Decidable c] {a b : Sem α} {Q : α → Shared → Prop} (h : if c then wpD M A a Q E s else wpD M A b Q E s) : wpD M A (if c then a else b) Q E s := by split <;> simp_all
theorem D_bytearray {n : Nat} {t : Tok} {Q : Value → Shared → Prop} (hn : n ≤ sizeLine) (h0 : 0 < n)
    (h : ∀ D h',s.heap.get? D = none → h'.get? D = some (bytesObj (Array.replicate n 0)) → (∀ b o,s.heap.get? b = some o → h'.get? b = some o) → Q (.ref D) { s with heap:=h' }) :
    wpD (model prog w) A (call (.type "bytearray") [.int n t]) Q E s:=by
  refine obEE ba_called.mro ?_;intro c tl hmro
  have hmade:=ba_called.made
  have hsub:=ba_called.sub
  refine D_call (cD_tree rfl ?_)
  show wpD _ _ (callAny (.type "bytearray") _) _ _ _
  refine D_pure ⟨Code.quiet_builtin _ (by decide +kernel),cD_builtin (show (!holdIds.contains "type.__call__") = true by decide +kernel) PySem.F.entry_type_call ?_⟩
  rw [Around.under_plain (weight_type_call_type "bytearray" [.int n t] []) rfl]
  have h1:=ba_called.notType
  have h2:=ba_called.canCreate
  have h3:=ba_typeCall (.int n t)
  unfold Builtin.«type.__call__»
  refine D_ite ?_
  rw [if_neg (fun q=>Bool.noConfusion (h1.symm.trans q))]
  refine D_ite ?_
  rw [if_neg (fun q=>Bool.noConfusion (h2.symm.trans q))]
  show wpD _ _ (checkTypeCall "bytearray" ⟨[.int n t],[]⟩ >>= _) _ _ _
  refine D_pre ?_
  rw [h3]
  refine wpAny_pure ?_
  show wpD _ _ (mroOf (.type "bytearray") >>= _) _ _ _
  refine D_pre ?_
  rw [hmro]
  refine wpAny_pure ?_
  refine D_ite ?_
  rw [if_neg (by simp)]
  show wpD _ _ (Bind.madeBy (.type "bytearray") >>= _) _ _ _
  refine D_pre ?_
  rw [hmade]
  refine wpAny_pure ?_
  refine D_pre ?_
  refine wpAny_pure ?_
  refine D_pre ?_
  refine wpAny_holding ?_
  refine wpAny_call (codeAny_mono (code_ba_new (.int n t) (Q₁:=fun v s'=>v = .ref s.heap.objs.size ∧ s' = { s with heap:=s.heap.push (bytesObj #[]) }) (E:=fun _ _=>False) ⟨rfl,rfl⟩) fun r s' hr=>?_)
  obtain ⟨v,rfl,rfl,rfl⟩ : ∃ v,r = .ok (.ret v) ∧ v = .ref s.heap.objs.size ∧ s' = { s with heap:=s.heap.push (bytesObj #[]) }:=by
    cases r with
    | error e=>exact hr.elim
    | ok f => cases f with
      | ret v=>exact ⟨v,rfl,hr⟩
      | _=>exact hr.elim
  have hD : (s.heap.push (bytesObj #[])).get? s.heap.objs.size = some (bytesObj #[]):=Heap.get?_push_size _ rfl
  have hT : Shared.TypeIs { s with heap:=s.heap.push (bytesObj #[]) } (.ref s.heap.objs.size) "bytearray" := ⟨_,hD,rfl⟩
  dsimp only
  show wpD _ _ (isInstance (.ref s.heap.objs.size) (.type "bytearray") >>= _) _ _ _
  refine D_pre ?_
  refine wpAny_isInstance hT ba_sub ?_
  refine D_ite ?_
  rw [if_neg (by decide)]
  refine D_bind ?_
  refine D_holding ?_
  refine D_callSpecial hT ba_slot_init ?_
  refine D_call (cD_call_builtin ba_plain_init (show (!holdIds.contains "bytearray.__init__") = true by decide +kernel) ba_entry_init ?_)
  refine (ba_slot_init.check _ _ _ _ _ _ _ _ hT (ba_args_init _ _) ?_)
  refine D_ba_init (s:={ s with heap:=s.heap.push (bytesObj #[]) }) hD hn h0 fun h' hD' hk=>?_
  dsimp only
  refine D_ite ?_
  rw [if_neg (by decide)]
  refine D_pure ?_
  exact h _ h' (Heap.get?_none_of_le (Nat.le_refl _)) hD' fun b o e=>hk b o (Nat.ne_of_lt (Heap.lt_size e)) (Heap.get?_push_of_some _ e)
end

end
section
set_option maxRecDepth 100000
section
variable {prog : Program} {w : World} {A : Around} {E : Value → Shared → Prop} {s : Shared}
theorem ba_setItem {D : Addr} {b : Array UInt8} {k x : Int} {t u : Tok} {Q : Unit → Shared → Prop} (hD : s.heap.get? D = some (bytesObj b)) (h0 : 0 ≤ k) (hk : k < b.size) (hb : b.size ≤ sizeLine) (hx : 0 ≤ x ∧ x < 256)
    (h : ∀ h',h'.get? D = some (bytesObj (b.setIfInBounds k.toNat x.toNat.toUInt8)) → Heap.SameBut D s.heap h' → Q () { s with heap:=h' }) :
    wpAny (model prog w) A (setItem (.ref D) (.int k t) (.int x u)) Q E s:=by
  have hT : s.TypeIs (.ref D) "bytearray" := ⟨_,hD,rfl⟩
  unfold setItem
  refine wpAny_holding ?_
  refine wpAny_bind (wpAny_sequenceKey hT (by decide) ?_)
  refine wpAny_bind (wpAny_callSpecial?_slot (name:=Str.ofString "__setitem__") hT ba_slot_set
    (wpAny_call_entry ba_slot_set hT ba_entry_set ?_ (ba_args_set _ _ _)))
  unfold Builtin.«bytearray.__setitem__»
  refine wpAny_ite ?_
  rw [if_neg (show ¬(!([] : List (Str × Value)).isEmpty) = true by decide)]
  refine wpAny_bind ?_
  unfold Builtin.Bytes.subscript?
  refine wpAny_bind ?_
  unfold specialOf
  refine wpAny_bind ?_
  rw [typeOf_int']
  refine wpAny_pure ?_
  rw [(PySem.F.slot_int_index).lookup]
  refine wpAny_pure ?_
  refine wpAny_ite ?_
  rw [if_neg (by decide)]
  refine wpAny_bind ?_
  rw [asIndex_int]
  refine wpAny_pure ?_
  have hfit : ¬(!Builtin.Bytes.fitsIndex k) = true:=by
    have : Builtin.Bytes.fitsIndex k = true:=by
      unfold Builtin.Bytes.fitsIndex
      rw [sizeLine_eq] at hb
      simp only [Bool.and_eq_true,decide_eq_true_eq]
      omega
    rw [this];decide
  refine wpAny_ite ?_
  rw [if_neg hfit]
  refine wpAny_pure ?_
  refine wpAny_bind ?_
  unfold Builtin.Bytes.byteValue
  refine wpAny_bind ?_
  rw [asIndex_int]
  refine wpAny_pure ?_
  refine wpAny_ite ?_
  rw [if_neg (by simp only [Bool.or_eq_true,decide_eq_true_eq];omega)]
  refine wpAny_pure ?_
  refine wpAny_bind ?_
  unfold Builtin.Bytes.payload Builtin.Bytes.payload?
  refine wpAny_bind (wpAny_bind (wpAny_load hD ?_))
  refine wpAny_pure (wpAny_pure ?_)
  have hix : seqIndex? k b.size = some k.toNat:=by
    unfold seqIndex?
    have e : ¬ k < 0:=by omega
    simp only [if_neg e,decide_eq_true h0,decide_eq_true hk,Bool.and_self,if_true]
  rw [hix]
  refine wpAny_bind ?_
  show wpAny _ _ (updateBytearray D (·.setIfInBounds k.toNat x.toNat.toUInt8)) _ _ _
  unfold updateBytearray
  refine wpAny_bind (wpAny_load hD ?_)
  show wpAny _ _ (update D (Obj.mapBytearray (·.setIfInBounds k.toNat x.toNat.toUInt8)) >>= fun _=>lookBehind D) _ _ _
  refine wpAny_bind (wpAny_update hD ?_)
  have hD2:=Heap.get?_update_self (Obj.mapBytearray (·.setIfInBounds k.toNat x.toNat.toUInt8)) hD rfl
  refine wpAny_lookBehind (o:=bytesObj (b.setIfInBounds k.toNat x.toNat.toUInt8)) hD2 ?_ ?_
  · show (if (b.setIfInBounds k.toNat x.toNat.toUInt8).size > sizeLine then some "bytearray:memory" else none) = none
    rw [Array.size_setIfInBounds,if_neg (by omega)]
  have fin:=h _ hD2 (Heap.SameBut.update ..)
  first
    | exact wpAny_pure ⟨.none,rfl,wpAny_pure fin⟩
    | exact wpAny_bind (wpAny_pure (wpAny_pure ⟨.none,rfl,wpAny_pure fin⟩))
theorem bytes_of_ba {D : Addr} {b : Array UInt8} {Q : Value → Shared → Prop} (hD : s.heap.get? D = some (bytesObj b)) (hb : b.size ≤ sizeLine)
    (h : ∀ t k,Q (.bytes b t) { s with toks:=k }) : wpAny (model prog w) A (call (.type "bytes") [.ref D]) Q E s:=by
  have hT : s.TypeIs (.ref D) "bytearray" := ⟨_,hD,rfl⟩
  refine callType_codes (Q₁:=fun obj s₁=>s₁.TypeIs obj "bytes" ∧ Q obj s₁) PySem.F.bm_called (PySem.F.bm_typeCall _) PySem.F.entry_object_init ?_ fun obj s₁ h₁=>
    ⟨h₁.1,PySem.F.args_object_init_2 obj _,object_init_meets PySem.F.bm_called.init.lookup PySem.F.bm_called.made (by decide) prog w A.in1 _ s₁ ⟨h₁.1,rfl,h₁.2⟩⟩
  refine codeAny_of_tree ?_
  show wpAny _ A.in1.in1 (do checkBuiltinCall "bytes.__new__" ⟨[.type "bytes",.ref D],[]⟩;again (.builtin "bytes.__new__" ⟨[.type "bytes",.ref D],[]⟩)) _ _ s
  refine wpAny_bind (wpAny_of_eq (PySem.F.bm_newCall _) (wpAny_pure ⟨plainId_quiet PySem.F.bm_plain _,codeAny_builtin PySem.F.bm_entry ?_⟩))
  rw [Around.under_plainId PySem.F.bm_plain _]
  unfold Builtin.«bytes.__new__»
  refine wpAny_bind (wpAny_of_eq (a:=true) rfl ?_)
  refine bm_if_false rfl ?_
  refine wpAny_bind (wpAny_of_eq PySem.F.bm_sub ?_)
  refine bm_if_false rfl ?_
  refine wpAny_bind (wpAny_of_eq (PySem.F.bm_bind _) ?_)
  refine wpAny_bind (wpAny_of_eq (a:=()) rfl ?_)
  refine wpAny_bind (wpAny_of_eq (a:=()) rfl ?_)
  refine bm_if_false rfl ?_
  refine wpAny_bind (wpAny_specialOf hT ba_no_bytes ?_)
  refine wpAny_bind (wpAny_bind ?_)
  show wpAny _ _ (load D >>= _) _ _ _
  refine wpAny_bind (wpAny_load hD ?_)
  refine wpAny_pure (wpAny_pure ?_)
  refine bm_if_false rfl ?_
  refine wpAny_bind (wpAny_specialOf hT ba_no_index ?_)
  refine bm_if_true rfl ?_
  first
    | show wpAny _ _ (Builtin.Bytes.buffer? "bytes.__new__" (.ref D) true >>= _) _ _ _
    | (refine wpAny_bind ?_;show wpAny _ _ (Builtin.Bytes.buffer? "bytes.__new__" (.ref D) true >>= _) _ _ _)
  refine wpAny_bind ?_
  unfold Builtin.Bytes.buffer?
  refine wpAny_bind (wpAny_specialOf hT ba_buffer ?_)
  have hown : ∀ {Q:Bool → Shared → Prop} {A:Around} {E:Value → Shared → Prop},Q true s → wpAny (model prog w) A (Builtin.Bytes.slotIsOwn (.ref D) "__buffer__") Q E s:=by
    intro Q A E hq
    unfold Builtin.Bytes.slotIsOwn
    refine wpAny_bind (wpAny_specialOf hT ba_buffer ?_)
    dsimp only
    refine wpAny_ite ?_
    rw [if_neg (by decide +kernel)]
    have e : ("bytearray.__buffer__".dropRight ("__buffer__".length + 1)) = "bytearray" := by decide +kernel
    rw [e]
    exact wpAny_isInstance hT ba_sub hq
  refine wpAny_bind (hown ?_)
  refine wpAny_ite ?_
  rw [if_neg (by decide)]
  refine wpAny_bind (wpAny_specialOf hT ba_buffer ?_)
  show wpAny _ _ (Builtin.Bytes.ownRelease (.ref D) >>= _) _ _ _
  refine wpAny_bind (releaseOk hD ?_)
  refine wpAny_ite ?_
  rw [if_neg (by decide)]
  refine wpAny_bind ?_
  unfold Builtin.Bytes.payload Builtin.Bytes.payload?
  refine wpAny_bind (wpAny_bind (wpAny_load hD ?_))
  refine wpAny_pure (wpAny_pure ?_)
  refine wpAny_pure ?_
  refine wpAny_bind (wpAny_rule ?_)
  refine wpAny_bind ?_
  refine wpAny_mkBytes ?_ hb
  show wpAny _ _ (if (Value.type "bytes" == Value.type "bytes") = true then _ else _) _ _ _
  refine bm_if_true (by decide) ?_
  first
    | exact wpAny_pure ⟨PySem.W.typeIs_bytes _ _ _,h _ _⟩
    | exact wpAny_bind (wpAny_pure (wpAny_pure ⟨PySem.W.typeIs_bytes _ _ _,h _ _⟩))
end

end
section
noncomputable def TEndG {σ : Type} (h₀ : Heap) (L : Addr) (Led : σ → List (Addr × Obj)) (ps : σ → List (Str × Value)) (x : Str) (stored : List Str) (m₀ : Str → Option Value) (P : σ → Array GenState → Prop) (I : Addr) (own : List (Addr × Obj)) (s₁ s₂ : Shared) : Prop :=
  ∃ (c : σ) (h' : Heap) (tk : Nat) (gs : Array GenState) (m' : Str → Option Value) (news' : List (Addr × Obj)), s₂ = { s₁ with heap := h', toks := tk, gens := gs } ∧ Fr h₀ L h' m' ∧ News h₀ L h' news' ∧ (∀ p ∈ Led c, p ∈ news' ∧ p.1 ≠ I) ∧ (∀ p ∈ own, p ∈ news') ∧
    (∀ p ∈ ps c,m' p.1 = some p.2) ∧ (∀ z,z ≠ x → (∀ p ∈ ps c,z ≠ p.1) → stored.contains z = false → m' z = m₀ z) ∧ P c gs
structure LoopAt {σ : Type} (h₀ : Heap) (L : Addr) (Led : σ → List (Addr × Obj)) (ps : σ → List (Str × Value)) (x : Str) (stored : List Str) (m₀ : Str → Option Value) (P : Nat → σ → Array GenState → Prop) (I : Addr) (oth : List (Addr × Obj)) (St : Nat → Heap → Prop) (s : Shared) (n i : Nat) (s' : Shared) : Prop where
  ok : ∃ c h tk gs m',s' = { s with heap:=h,toks:=tk,gens:=gs } ∧ St i h ∧ Fr h₀ L h m' ∧ News h₀ L h (Led c ++ oth) ∧ (∀ p ∈ Led c ++ oth,p.1 ≠ I) ∧
    (∀ p ∈ ps c,m' p.1 = some p.2) ∧ (∀ z,z ≠ x → (∀ p ∈ ps c,z ≠ p.1) → stored.contains z = false → m' z = m₀ z) ∧ P i c gs ∧ i ≤ n
section
variable {prog : Program} {w : World} {A : Around} {E : Value → Shared → Prop} {s : Shared} {env : Env} {h₀ : Heap} {x : Str} {px : Pos} {body : List Stmt} {Q : Flow → Shared → Prop}
theorem TEndG.intro {σ : Type} {L : Addr} {Led : σ → List (Addr × Obj)} {ps : σ → List (Str × Value)} {stored : List Str} {m₀ : Str → Option Value} {P : σ → Array GenState → Prop} {I : Addr} {own : List (Addr × Obj)} {s₁ : Shared} {h' : Heap} {tk : Nat} {gs : Array GenState} {m' : Str → Option Value} {news' : List (Addr × Obj)} (c : σ)
    (F:Fr h₀ L h' m') (N:News h₀ L h' news') (hl : ∀ p ∈ Led c,p ∈ news' ∧ p.1 ≠ I) (ho : ∀ p ∈ own,p ∈ news') (hk : ∀ p ∈ ps c,m' p.1 = some p.2) (hr : ∀ z,z ≠ x → (∀ p ∈ ps c,z ≠ p.1) → stored.contains z = false → m' z = m₀ z) (hP : P c gs) :
    TEndG h₀ L Led ps x stored m₀ P I own s₁ { s₁ with heap:=h',toks:=tk,gens:=gs }:=⟨c,h',tk,gs,m',news',rfl,F,N,hl,ho,hk,hr,hP⟩
noncomputable def IterG (prog : Program) (w : World) (A : Around) (env : Env) (x : Str) (px : Pos) (body : List Stmt) (Q : Flow → Shared → Prop) (E : Value → Shared → Prop) (xv : Value) (s : Shared) : Prop :=
  wpAny (model prog w) A (pyIter xv) (fun it s₂=>codeAny (model prog w) A (.forLoop (.Name x px) it body [] env) (fun r s'=>match r with | .ok f=>Q f s' | .error e=>cameBackBy (model prog w) A env E e s') s₂) E s
theorem for_G {pos : Pos} {iter : Expr} (h : wpAny (model prog w) A (eval iter env) (fun xv s₁=>IterG prog w A env x px body Q E xv s₁) E s)
    (hs : ∀ x,foldedSetIterable iter env x = pure x:=by intro _;rfl) :
    wpAny (model prog w) A (exec (.For (.Name x px) iter body [] pos) env) Q E s:=wpAny_For h hs

theorem loop_walks {σ : Type} {I : Addr} {n : Nat} {Pv : Nat → Value → Prop} {St : Nat → Heap → Prop} {m₀ : Str → Option Value} {oth : List (Addr × Obj)} (Led : σ → List (Addr × Obj)) (ps : σ → List (Str × Value)) (stored : List Str) (P : Nat → σ → Array GenState → Prop) (c₀ : σ)
    (hx : env.kindOf x = some .local) (hp' : (env.scope.kind == .class || (env.scope.kind == .module && env.locals != env.globals)) = false)
    (W:Walks prog w A I [I] [I] n Pv St) (hSt : ∀ i h,St i h → ∃ o,h.get? I = some o) (h0 : St 0 s.heap) (hIne : ∀ p ∈ Led c₀ ++ oth,p.1 ≠ I) (hI₀ : h₀.get? I = none) (hIL : env.locals ≠ I) (F:Fr h₀ env.locals s.heap m₀) (N:News h₀ env.locals s.heap (Led c₀ ++ oth))
    (hk : ∀ p ∈ ps c₀,m₀ p.1 = some p.2) (hp : P 0 c₀ s.gens)
    (turn : ∀ (c:σ) (i:Nat) (v:Value) (u:Str → Option Value) h tk gs oI,i < n → Pv i v → (∀ p ∈ Led c ++ oth,p.1 ≠ I) → P i c gs →
      Fr h₀ env.locals h (fun y=>if y = x then some v else kstB (fun z=>if stored.contains z then u z else m₀ z) (ps c) y) → News h₀ env.locals h (Led c ++ (I,oI) :: oth) →
      wpAny (model prog w) A (execs body env) (TPost (TEndG h₀ env.locals Led ps x stored m₀ (P (i + 1)) I ((I,oI) :: oth) { s with heap:=h,toks:=tk,gens:=gs }) Q) E { s with heap:=h,toks:=tk,gens:=gs })
    (done : ∀ (c:σ) (u:Str → Option Value) h tk gs,P n c gs → Fr h₀ env.locals h (fun y=>if y = x then u y else kstB (fun z=>if stored.contains z then u z else m₀ z) (ps c) y) → News h₀ env.locals h (Led c ++ oth) → Q .next { s with heap:=h,toks:=tk,gens:=gs })
    (hE : PassesOwn (model prog w) A env E:=by passes_own) :
    codeAny (model prog w) A (.forLoop (.Name x px) (.ref I) body [] env) (fun r s'=>match r with | .ok f=>Q f s' | .error e=>cameBackBy (model prog w) A env E e s') s:=by
  refine codeAny_forLoop (fun k s'=>∃ i,LoopAt h₀ env.locals Led ps x stored m₀ P I oth St s n i s' ∧ k = n + 1 - i) ?_ (n + 1) ⟨0,⟨⟨c₀,s.heap,s.toks,s.gens,m₀,rfl,h0,F,N,hIne,hk,fun _ _ _ _=>rfl,hp,Nat.zero_le _⟩⟩,rfl⟩
  rintro k s' ⟨i,⟨⟨c,h',tk,gs,m',rfl,hst,F',N',hne,h1,h2,hP,hi⟩⟩,rfl⟩
  have next : ∀ h₁ : Heap,(∀ b o,b ∉ [I] → h'.get? b = some o → h₁.get? b = some o) → Fr h₀ env.locals h₁ m' ∧ News h₀ env.locals h₁ (Led c ++ oth):=fun h₁ hk₁=>
    ⟨⟨F'.ns.at' fun o e=>hk₁ _ o (fun q=>hIL (List.mem_singleton.mp q)) e,fun b o e=>hk₁ b o (fun q=>by rw [List.mem_singleton.mp q,hI₀] at e;cases e) (F'.keep b o e),F'.above⟩,fun p hp=>⟨hk₁ _ _ (fun q=>hne p hp (List.mem_singleton.mp q)) (N' p hp).1,(N' p hp).2⟩⟩
  by_cases hlt : i < n
  · refine W.item i _ _ _ hlt hst fun v h₁ tk₁ hPv hst₁ hk₁ => ?_
    refine obA (next h₁ hk₁) ?_;intro F₁ N₁
    refine wpAny_assign_Name (wpAny_storeName_local hx F₁.ns (fun h₂ hn₂ hs₂=>?_) hp')
    have F₂:=F₁.set hn₂ hs₂
    have hst₂ : St (i + 1) h₂:=W.frame _ _ _ hst₁ fun b hb o e=>by
      rw [List.mem_singleton.mp hb] at e ⊢
      exact (hs₂.2 I (fun q=>hIL q.symm)).trans e
    refine obE (hSt _ _ hst₂) ?_;intro oI hoI₂
    have NI : News h₀ env.locals h₂ (Led c ++ (I,oI) :: oth):=fun p hp=>by
      rcases List.mem_append.mp hp with hp | hp
      · exact (N₁.set hs₂) p (List.mem_append_left _ hp)
      rcases List.mem_cons.mp hp with rfl | hp
      · exact ⟨hoI₂,fun q=>hIL q.symm,hI₀⟩
      · exact (N₁.set hs₂) p (List.mem_append_right _ hp)
    have key : ∀ s₃ tq,TEndG h₀ env.locals Led ps x stored m₀ (P (i + 1)) I ((I,oI) :: oth) { s with heap:=h₂,toks:=tq,gens:=gs } s₃ → ∃ m,m < n + 1 - i ∧ ∃ i,LoopAt h₀ env.locals Led ps x stored m₀ P I oth St s n i s₃ ∧ m = n + 1 - i:=by
      rintro s₃ tq ⟨c',h'',tk',gs',m'',news',e,F'',N'',hl,ho,hk',hr',hP'⟩
      refine ⟨n + 1 - (i + 1),by omega,i + 1,⟨⟨c',h'',tk',gs',m'',e,W.frame _ _ _ hst₂ fun b hb o e=>?_,F'',fun p hp=>?_,fun p hp=>?_,hk',hr',hP',hlt⟩⟩,rfl⟩
      · rw [List.mem_singleton.mp hb, hoI₂] at e
        cases e
        rw [List.mem_singleton.mp hb]
        exact (N'' _ (ho _ (.head _))).1
      · rcases List.mem_append.mp hp with hp | hp
        · exact N'' p (hl p hp).1
        · exact N'' p (ho p (.tail _ hp))
      · rcases List.mem_append.mp hp with hp | hp
        · exact (hl p hp).2
        · exact hne p (List.mem_append_right _ hp)
    refine wpAny_mono (wpAny_passesOwn hE (turn c i v m' _ _ gs oI hlt hPv hne hP (kst_fr h1 h2 F₂) NI)) (fun f s₃ h₃=>?_) fun _ _ e=>e
    cases f with
    | ret v=>exact h₃
    | brk=>exact h₃
    | cont=>exact key _ _ h₃
    | next=>exact key _ _ h₃
  · obtain rfl : i = n := by omega
    refine W.done _ _ _ hst fun h₁ tk₁ hk₁=>wpAny_execs_nil ?_
    refine obA (next h₁ hk₁) ?_;intro F₁ N₁
    exact done c m' h₁ tk₁ gs hP (kst_frOut h1 h2 F₁) N₁

theorem loop_range_S {σ : Type} {r : Addr} {a₀ b₀ c₁ : Int} {t₀ u₀ v₀ : Tok} {n : Nat} {m₀ : Str → Option Value} {oth : List (Addr × Obj)} (Led : σ → List (Addr × Obj)) (ps : σ → List (Str × Value)) (stored : List Str) (P : Nat → σ → Array GenState → Prop) (c₀ : σ)
    (hx : env.kindOf x = some .local) (hp' : (env.scope.kind == .class || (env.scope.kind == .module && env.locals != env.globals)) = false)
    (hh : A.handled = none) (hr : IsRange s.heap r a₀ b₀ c₁ t₀ u₀ v₀) (hsz : Builtin.Range.rangeSize a₀ b₀ c₁ = (n:Int)) (hb : Builtin.Range.small a₀ b₀ c₁ = true) (F:Fr h₀ env.locals s.heap m₀) (N:News h₀ env.locals s.heap (Led c₀ ++ oth))
    (hk : ∀ p ∈ ps c₀,m₀ p.1 = some p.2) (hp : P 0 c₀ s.gens)
    (turn : ∀ (c:σ) (i:Nat) t (u:Str → Option Value) h tk gs I oI,i < n → (∀ p ∈ Led c ++ oth,p.1 ≠ I) → P i c gs →
      Fr h₀ env.locals h (fun y=>if y = x then some (.int (a₀ + (i:Int) * c₁) t) else kstB (fun z=>if stored.contains z then u z else m₀ z) (ps c) y) → News h₀ env.locals h (Led c ++ (I,oI) :: oth) →
      wpAny (model prog w) A (execs body env) (TPost (TEndG h₀ env.locals Led ps x stored m₀ (P (i + 1)) I ((I,oI) :: oth) { s with heap:=h,toks:=tk,gens:=gs }) Q) E { s with heap:=h,toks:=tk,gens:=gs })
    (done : ∀ (c:σ) (u:Str → Option Value) h tk gs,P n c gs → Fr h₀ env.locals h (fun y=>if y = x then u y else kstB (fun z=>if stored.contains z then u z else m₀ z) (ps c) y) → News h₀ env.locals h (Led c ++ oth) → Q .next { s with heap:=h,toks:=tk,gens:=gs })
    (hE : PassesOwn (model prog w) A env E:=by passes_own) :
    IterG prog w A env x px body Q E (.ref r) s:=by
  refine wpAny_pyIter_range hr hb ?_
  refine loop_walks (s:={ s with heap:=_ }) Led ps stored P c₀ hx hp' (Walks.range (prog:=prog) (w:=w) hh _ a₀ c₁ n) (fun _ _ h=>⟨_,h⟩) ?_ (fun p hp=>Nat.ne_of_lt (Heap.lt_size (N p hp).1)) (next_is_new F) (Nat.ne_of_lt F.ns.lt) (F.push _) (fun p hp=>⟨Heap.get?_push_of_some _ (N p hp).1,(N p hp).2⟩) hk hp (fun c i v u h tk gs oI hi hv=>?_) done hE
  · show IsRangeIter _ _ _ _ _
    rw [hsz];simpa using Heap.get?_push_size _ rfl
  · refine obE hv ?_; clear hv; intro t oR1; subst oR1
    exact turn c i t u h tk gs _ oI hi
theorem loop_range_G {σ : Type} {r : Addr} {a₀ b₀ : Int} {t₀ u₀ v₀ : Tok} {n : Nat} {m₀ : Str → Option Value} {oth : List (Addr × Obj)} (Led : σ → List (Addr × Obj)) (ps : σ → List (Str × Value)) (stored : List Str) (P : Nat → σ → Array GenState → Prop) (c₀ : σ)
    (hx : env.kindOf x = some .local) (hp' : (env.scope.kind == .class || (env.scope.kind == .module && env.locals != env.globals)) = false)
    (hh : A.handled = none) (hr : IsRange s.heap r a₀ b₀ 1 t₀ u₀ v₀) (hn : (b₀ - a₀).toNat = n) (hb : -1000000 < a₀ ∧ a₀ < 1000000 ∧ -1000000 < b₀ ∧ b₀ < 1000000) (F:Fr h₀ env.locals s.heap m₀) (N:News h₀ env.locals s.heap (Led c₀ ++ oth))
    (hk : ∀ p ∈ ps c₀,m₀ p.1 = some p.2) (hp : P 0 c₀ s.gens)
    (turn : ∀ (c:σ) (i:Nat) t (u:Str → Option Value) h tk gs I oI,i < n → (∀ p ∈ Led c ++ oth,p.1 ≠ I) → P i c gs →
      Fr h₀ env.locals h (fun y=>if y = x then some (.int (a₀ + (i:Int)) t) else kstB (fun z=>if stored.contains z then u z else m₀ z) (ps c) y) → News h₀ env.locals h (Led c ++ (I,oI) :: oth) →
      wpAny (model prog w) A (execs body env) (TPost (TEndG h₀ env.locals Led ps x stored m₀ (P (i + 1)) I ((I,oI) :: oth) { s with heap:=h,toks:=tk,gens:=gs }) Q) E { s with heap:=h,toks:=tk,gens:=gs })
    (done : ∀ (c:σ) (u:Str → Option Value) h tk gs,P n c gs → Fr h₀ env.locals h (fun y=>if y = x then u y else kstB (fun z=>if stored.contains z then u z else m₀ z) (ps c) y) → News h₀ env.locals h (Led c ++ oth) → Q .next { s with heap:=h,toks:=tk,gens:=gs })
    (hE : PassesOwn (model prog w) A env E:=by passes_own) :
    IterG prog w A env x px body Q E (.ref r) s:=by
  refine loop_range_S Led ps stored P c₀ hx hp' hh hr (by rw [rangeSize_nat,hn]) (small_one (by omega) (by omega) (by omega) (by omega)) F N hk hp (fun c i t u h tk gs I oI hi=>?_) done hE
  rw [Int.mul_one]
  exact turn c i t u h tk gs I oI hi
end

end
section
set_option maxRecDepth 100000
section
variable {prog : Program} {w : World} {A : Around} {E : Value → Shared → Prop} {s : Shared} {env : Env} {h₀ : Heap} {x : Str} {px : Pos} {body : List Stmt} {Q : Flow → Shared → Prop}
end
section
variable {w : World} {mean : ExcName → Option Value} {mg mb : Str → Option Value} {h₀ : Heap} {s : Shared} {U : List (Addr × Obj)} {dp un : Nat} {fr : Option (List Env)} {gd : Option (List Code)} {E : Value → Shared → Prop}
  {name qual : Str} {params : Arguments} {body : List Stmt} {scope : Scope} {dV kV doc pm cdv ct oc : Value} {an od : Option Addr} {osl : Array (Option Value)} {f:Addr} {args : Args} {binds : List (Str × Value)} {Q:Value → Shared → Prop}
theorem enter_codeD {R : Result → Shared → Prop} (C : Cx w mean mg mb h₀ s U)
    (ho : (Mine.hd.heap_1 w.params).lookup f = some ⟨oc,od,.func (fnOf name qual params body scope dV kV doc pm an cdv ct),osl⟩) (hcd : codeIn (Mine.hd.heap_1 w.params) cdv qual = true) (hroom : dp < recursionLimit)
    (hbind : BindsTo s (fnOf name qual params body scope dV kV doc pm an cdv ct) args binds) (hkind : (binds.all fun y=>scope.names.lookup y.1 == some .local || scope.names.lookup y.1 == some .cell) = true)
    (hnd : ((cellsFrom 0 scope.names []).map (·.1)).Nodup)
    (h : ∀ g L' h₁ tk cells,Fr g L' h₁ (bindL (envOfC qual scope L' f cdv).kindOf binds fun _=>none) → News g L' h₁ (cells ++ U) → CellsAre (bindC (envOfC qual scope L' f cdv).kindOf binds fun _=>none) (cellsFrom (L' + 1) scope.names []) cells →
      (Mine.hd.heap_1 w.params).In g → Top topProg Lz mean mg mb g → (∀ b o,s.heap.get? b = some o → b ∉ U.map (·.1) → g.get? b = some o) → (∀ p ∈ U,p.1 < L') → L' = s.heap.objs.size →
      wpD (model P0 w) ((Ar dp fr gd un).deeper (envOfC qual scope L' f cdv)) (execs body (envOfC qual scope L' f cdv))
        (fun fl s'=>Leave g L' (U.map (·.1)) s (fun v s'=>R (.ok (.ret v)) s') (match fl with | .ret v=>v | _=>.none) s')
        (fun _ _=>False) { s with heap:=h₁,toks:=tk })
    (hco : scope.isCoroutine = false) (hgen : scope.isGenerator = false) (hk : scope.kind = .function) : codeD (model P0 w) (Ar dp fr gd un) (.call (.ref f) args) R s:=by
  have nm : ∀ b o,h₀.get? b = some o → b ∉ U.map (·.1):=fun b o e q=>by
    refine obEA (List.mem_map.mp q) ?_;intro p hp oR2;subst oR2
    rw [(C.U p hp).2] at e;cases e
  have st : h₀.StaysIn (hideAll s.heap (U.map (·.1))):=fun b o e=>hideAll_get _ (C.st b o e) (nm b o e)
  refine cD_call_function hroom (C.st _ _ (C.X _ _ ho)) rfl hco hgen rfl (codeRec_of (C.X.keeps C.st) hcd) (hbind _ _ _ _ ?_)
  refine wpAny_newFunctionEnv_cells hk (kindsX hkind _) fun env' he s' x=>?_
  subst he
  refine ⟨(C.T.nolimit.keeps C.st).keeps x.toInCall.keep,cD_func ?_⟩
  refine obEEA x.done ?_;intro h₁ tk oR2 _;subst oR2
  have hk₁:=x.toInCall.keep
  refine obEA (Cl.news (h₀:=s.heap) (Nat.le_refl _) fun n c hm=>⟨x.cell n c (lookup_of_mem_nodup (cellsFrom_names scope.names 0 (s.heap.objs.size + 1) [] [] rfl ▸ hnd) hm),x.above n c hm⟩) ?_;intro cells NC Y
  refine D_mono (h (hideAll s.heap (U.map (·.1))) s.heap.objs.size h₁ tk cells ⟨x.toInCall.ns,fun b o e=>hk₁ b o (of_hideAll _ e),Nat.le_of_eq (hideAll_size _ _)⟩ (fun p hp=>?_) Y (C.X.keeps fun b o e=>st b o e) (C.T.keeps fun b o e=>st b o e) (fun b o e q=>hideAll_get _ e q) (fun p hp=>Heap.lt_size (C.U p hp).1) rfl) (fun fl s' hl=>?_) fun _ _ x=>x.elim
  · rcases List.mem_append.mp hp with hp | hp
    · refine ⟨(NC p hp).1, (NC p hp).2.1, ?_⟩
      cases q : (hideAll s.heap (U.map (·.1))).get? p.1 with
      | none=>rfl
      | some o=>have:=of_hideAll _ q;rw [(NC p hp).2.2] at this;cases this
    · exact ⟨hk₁ _ _ (C.U p hp).1,Nat.ne_of_lt (Heap.lt_size (C.U p hp).1),hideAll_none _ (List.mem_map_of_mem hp)⟩
  · refine obEA hl ?_; clear hl; intro m F k
    exact k fun b o e q=>F.keep b o (hideAll_get _ e q)
theorem enter_defD (C : Cx w mean mg mb h₀ s U) {vals : List Value}
    (ho : (Mine.hd.heap_1 w.params).lookup f = some ⟨oc,od,.func (fnOf name qual params body scope dV kV doc pm an cdv ct),osl⟩) (hcd : codeIn (Mine.hd.heap_1 w.params) cdv qual = true) (hroom : dp < recursionLimit)
    (hbind : BindsTo s (fnOf name qual params body scope dV kV doc pm an cdv ct) ⟨vals,[]⟩ binds) (hloc : ∀ y ∈ binds,scope.names.lookup y.1 = some .local)
    (h : ∀ g L' h₁,Fr g L' h₁ (fun y=>binds.reverse.lookup y) → News g L' h₁ U → (Mine.hd.heap_1 w.params).In g → Top topProg Lz mean mg mb g → (∀ b o,s.heap.get? b = some o → b ∉ U.map (·.1) → g.get? b = some o) → (∀ p ∈ U,p.1 < L') → L' = s.heap.objs.size →
      wpD (model P0 w) ((Ar dp fr gd un).deeper (envOf qual scope L' f cdv)) (execs body (envOf qual scope L' f cdv))
        (fun fl s'=>Leave g L' (U.map (·.1)) s Q (match fl with | .ret v=>v | _=>.none) s')
        (fun _ _=>False) { s with heap:=h₁,toks:=s.toks + binds.length })
    (hco : scope.isCoroutine = false) (hgen : scope.isGenerator = false) (hk : scope.kind = .function)
    (hcell : ∀ x ∈ scope.names,x.2 ≠ .cell) : wpD (model P0 w) (Ar dp fr gd un) (call (.ref f) vals) Q E s:=by
  have nm : ∀ b o,h₀.get? b = some o → b ∉ U.map (·.1):=fun b o e q=>by
    refine obEA (List.mem_map.mp q) ?_;intro p hp oR2;subst oR2
    rw [(C.U p hp).2] at e;cases e
  have st : h₀.StaysIn (hideAll s.heap (U.map (·.1))):=fun b o e=>hideAll_get _ (C.st b o e) (nm b o e)
  refine D_call (cD_call_function hroom (C.st _ _ (C.X _ _ ho)) rfl hco hgen rfl (codeRec_of (C.X.keeps C.st) hcd) (hbind _ _ _ _ ?_))
  refine wpAny_newFunctionEnv hcell hloc (fun h₁ hns hsb=>⟨(C.T.nolimit.keeps C.st).fresh _ hsb,cD_func ?_⟩) hk
  have hk₁ : ∀ b o,s.heap.get? b = some o → h₁.get? b = some o:=fun b o e=>hsb.extBut b o (Nat.ne_of_lt (Heap.lt_size e)) (Heap.get?_push_of_some _ e)
  refine D_mono (h (hideAll s.heap (U.map (·.1))) s.heap.objs.size h₁ ⟨hns,fun b o e=>hk₁ b o (of_hideAll _ e),Nat.le_of_eq (hideAll_size _ _)⟩ (fun p hp=>⟨hk₁ _ _ (C.U p hp).1,Nat.ne_of_lt (Heap.lt_size (C.U p hp).1),hideAll_none _ (List.mem_map_of_mem hp)⟩) (C.X.keeps fun b o e=>st b o e) (C.T.keeps fun b o e=>st b o e) (fun b o e q=>hideAll_get _ e q) (fun p hp=>Heap.lt_size (C.U p hp).1) rfl) (fun fl s' hl=>?_) fun _ _ x=>x.elim
  refine obEA hl ?_;clear hl;intro m F k
  exact k fun b o e q=>F.keep b o (hideAll_get _ e q)
end

end
section
set_option maxRecDepth 100000
theorem layNew_fresh (led : Bool) (h : Int) (x : Value) : layNew (.fresh 0 0 led) #[] h x = (#[(h,x)],{ mask := 7,place := #[SetTable.bits h % 8],dummies := #[],finger := 0,led := led,moves := 0,plain := true },false,false) := by rfl
theorem e_sul : entryFor table "set.update.loop" = some Builtin.«set.update.loop» := entryFor_of_tree (by kernel_rfl)
theorem p_sul : plainId "set.update.loop" = true := by decide +kernel
noncomputable abbrev setT (p : Nat) (led : Bool) : SetTable := { mask := 7,place := #[p],dummies := #[],finger := 0,led := led,moves := 0,plain := false }
noncomputable abbrev ledOf (w : World) : Bool := !w.params.followText "set-order"
noncomputable abbrev set1 (h : Int) (v : Value) (p : Nat) (led : Bool) : Obj := { cls := .type "set",dict := none,data := .set #[(h,v)] 1 (setT p led) }
section
variable {prog : Program} {w : World} {A : Around} {E : Value → Shared → Prop} {s : Shared} {h₀ : Heap} {L D : Addr} {m : Str → Option Value} {news news' : List (Addr × Obj)} {n : Nat}
theorem newSet_led {Q : Value → Shared → Prop} (h : Q (.ref s.heap.objs.size) { s with heap := s.heap.push { cls := .type "set",dict := none,data := .set #[] 0 (.fresh 0 0 (ledOf w)) } }) :
    wpAny (model prog w) A (newSet (.type "set")) Q E s:=by
  unfold newSet setsByText
  refine wpAny_bind (wpAny_bind (wpAny_askSetting (wpAny_pure ?_)))
  dsimp only
  simp only [newObj]
  exact wpAny_bind (wpAny_alloc (wpAny_pure h))
theorem setAdd_fresh {a : Addr} {led : Bool} {x : Str} {t : Tok} {Q : Bool → Shared → Prop} (ho : s.heap.get? a = some { cls := .type "set",dict := none,data := .set #[] 0 (.fresh 0 0 led) })
    (h : ∀ h' hs p,Heap.SameBut a s.heap h' → h'.get? a = some (set1 hs (.str x t) p led) → Q true { s with heap:=h',toks:=s.toks + 1 }) :
    wpAny (model prog w) A (setAdd a (.str x t)) Q E s:=by
  have hkey : (PySem.strKind prog w).is x (.str x t) = true:=strKind_is prog w x t
  unfold setAdd
  refine wpAny_holding (wpAny_bind ((PySem.strKind prog w).pyHash hkey ?_))
  unfold setAddHashed setAddHashedIn
  refine wpAny_holding (wpAny_bind (wpAny_setState_of ho rfl (by rfl) ?_))
  dsimp only
  rw [byScan_of (knd:=PySem.strKind prog w) (by rfl) (by decide) (fun e he=>by simp at he),if_pos rfl]
  unfold setAddByScan
  refine wpAny_bind ?_
  refine wpAny_bind (wpAny_rule ?_)
  refine wpAny_bind (wpAny_setScan_of (knd:=PySem.strKind prog w) hkey ho rfl (by rfl) (fun e he=>by simp at he) ?_)
  dsimp only [List.findIdx?_nil]
  refine wpAny_bind (wpAny_pure ?_)
  rw [layNew_fresh]
  dsimp only
  rw [hashByValue_scannable 8 (by rfl)]
  refine wpAny_bind (wpAny_pure ?_)
  dsimp only [plainKind]
  rw [if_neg Bool.false_ne_true]
  refine wpAny_bind (wpAny_storeSet_of ho rfl ?_ (by rw [sizeLine_eq];show 1 ≤ _;omega))
  rw [if_neg (show ¬ (_ = true) from by simp [SetTable.tooFull,SetTable.fill])]
  refine wpAny_pure (wpAny_pure ?_)
  refine h _ ((PySem.strKind prog w).hash x) (SetTable.bits ((PySem.strKind prog w).hash x) % 8) (Heap.SameBut.update ..) ?_
  rw [Heap.get?_update_self _ ho (by rfl)]
  rfl

theorem displayStar_empty {a d : Addr} {hs : Int} {v : Value} {p : Nat} {led : Bool} {Q : Unit → Shared → Prop} (hh : A.handled = none) (ho : s.heap.get? a = some (set1 hs v p led)) (hd : s.heap.get? d = some (dictOf [] 0)) (hS : (d == sysModules) = false)
    (h : ∀ h' tk,(∀ b o,s.heap.get? b = some o → h'.get? b = some o) → Q () { s with heap:=h',toks:=tk }) : wpAny (model prog w) A (setDisplayStar a (.ref d)) Q E s:=by
  have hT : s.TypeIs (.ref d) "dict" := ⟨_,hd,rfl⟩
  have f1 : isSubtype (.type "dict") (.type "set") = pure false:=by rw [isSubtype_type];kernel_rfl
  have f2 : isSubtype (.type "dict") (.type "frozenset") = pure false:=by rw [isSubtype_type];kernel_rfl
  unfold setDisplayStar
  refine wpAny_bind (wpAny_isInstance (T := "dict") (b:=false) hT f1 ?_)
  rw [if_neg Bool.false_ne_true]
  refine wpAny_bind (wpAny_isInstance (T := "dict") (b:=false) hT f2 ?_)
  refine wpAny_bind (wpAny_askSetting ?_)
  dsimp only
  generalize (model prog w).w.params.followText "set-display-star-reads-storage" = b
  cases b
  · show wpAny _ _ (if false = true then _ else _) _ _ _
    rw [if_neg Bool.false_ne_true]
    refine wpAny_bind (wpAny_typeOf hT ?_)
    rw [if_pos (by decide)]
    refine wpAny_bind (wpAny_rule ?_)
    rw [hS,if_neg Bool.false_ne_true]
    refine wpAny_bind (wpAny_dictEpoch hd rfl ?_)
    refine wpAny_bind (wpAny_dictEntries hd rfl ?_)
    unfold setRoomFor
    refine wpAny_bind (wpAny_bind (wpAny_setState_of ho rfl (by rfl) ?_))
    show wpAny _ _ (pure ()) _ _ _
    refine wpAny_pure ?_
    refine wpAny_bind (wpAny_of_eq (a:=PUnit.unit) (by first | rfl | simp | decide) ?_)
    exact wpAny_pure (h s.heap s.toks fun _ _ e=>e)
  · show wpAny _ _ (pyIter (.ref d) >>= _) _ _ _
    have hD : s.heap.DictAt (PySem.strKind prog w) d [] 0:=⟨_,#[],hd,⟨rfl,rfl,rfl⟩,rfl,fun e he=>by simp at he,.nil,List.nodup_nil⟩
    refine wpAny_bind (wpAny_pyIter_dict (knd:=PySem.strKind prog w) hS hD ?_)
    refine wpAny_bind (wpAny_runValue (codeAny_builtin e_sul ?_))
    rw [Around.under_plainId p_sul _]
    show wpAny _ A.in1 (pyNext (.ref _) >>= _) _ _ _
    refine wpAny_bind (wpAny_pyNext_dict_end (knd:=PySem.strKind prog w) (kvs:=[]) (i:=0) hh ⟨_,Heap.get?_push_size _ rfl,rfl,rfl⟩ (hD.push _) rfl fun h' he=>?_)
    show wpAny _ A.in1 (ret Value.none) _ _ _
    refine wpAny_pure ?_
    show wpAny _ _ (pure ()) _ _ _
    exact wpAny_pure (h h' s.toks fun b o e=>he b o (Nat.ne_of_lt (Heap.lt_size e)) (Heap.get?_push_of_some _ e))
end

end
section
set_option maxRecDepth 100000
section
variable {w : World} {A : Around} {E : Value → Shared → Prop} {s : Shared} {h₀ : Heap} {L D : Addr} {m : Str → Option Value} {news news' : List (Addr × Obj)} {n : Nat}
theorem eval_set_star {env : Env} {x y : Str} {p1 p2 p3 pos : Pos} {tag : Str} {tt : Tok} {d : Addr} {Q : Value → Shared → Prop} (hL : env.locals = L) (hh : A.handled = none) (F : Fr h₀ L s.heap m) (N : News h₀ L s.heap news) (X : (Mine.hd.heap_1 w.params).In h₀) (hc : kdsCode (Mine.hd.heap_1 w.params) env.code = true)
    (hsc : env.scope.kind = .function) (hx : env.kindOf x = some .local) (hy : env.kindOf y = some .local) (hdx : (x == ("__debug__" : Str)) = false) (hdy : (y == ("__debug__" : Str)) = false)
    (hmx : m x = some (.str tag tt)) (hmy : m y = some (.ref d)) (hd : (d,dictOf [] 0) ∈ news) (hS : sysModules < d)
    (h : ∀ D hs p h' tk,Fr h₀ L h' m → News h₀ L h' ((D,set1 hs (.str tag tt) p (ledOf w)) :: news) → (∀ q ∈ news,q.1 < D) → Q (.ref D) { s with heap:=h',toks:=tk }) :
    wpAny (model P0 w) A (eval (.Set [.Name x p1,.Starred (.Name y p2) p3] 0 pos) env) Q E s:=by
  subst hL
  rw [arm_eval_Set]
  refine wpAny_bind (wpAny_standAt ?_)
  refine wpAny_bind (kds_main (X.keeps F.keep) hc fun b=>?_)
  show wpAny _ _ (setDisplay .oneByOne b [(false,(eval (.Name x p1) env >>= fun v=>standAt pos >>= fun _=>pure v)),(true,(eval (.Name y p2) env >>= fun v=>standAt pos >>= fun _=>pure v))]) _ _ _
  unfold setDisplay
  rw [if_neg (by decide)]
  refine wpAny_bind (newSet_led ?_)
  dsimp only
  refine wpAny_bind (wpAny_holding ?_)
  show wpAny _ _ (evalAll [(eval (.Name x p1) env >>= fun v=>standAt pos >>= fun _=>pure v)] >>= _) _ _ _
  refine wpAny_bind (wpAny_evalAll_cons ?_)
  rw [eval_Name env x p1 hdx]
  have F1:=F.push { cls:=.type "set",dict:=none,data:=.set #[] 0 (.fresh 0 0 (ledOf w)) }
  refine wpAny_bind (wpAny_bind (wpAny_standAt (wpAny_loadName_local hsc hx F1.ns hmx ?_)))
  refine wpAny_bind (wpAny_standAt (wpAny_pure (wpAny_evalAll_nil ?_)))
  refine wpAny_bind (wpAny_holding ?_)
  show wpAny _ _ (forIn [Value.str tag tt] PUnit.unit _ >>= _) _ _ _
  rw [List.forIn_cons]
  refine wpAny_bind (wpAny_bind (wpAny_bind (setAdd_fresh (led:=ledOf w) (Heap.get?_push_size _ rfl) fun h' hs p hsb ho=>?_)))
  refine wpAny_pure ?_
  dsimp only
  rw [List.forIn_nil]
  refine wpAny_pure ?_
  rw [if_neg (by decide)]
  refine wpAny_pure ?_
  show wpAny _ _ (forIn [(true,(eval (.Name y p2) env >>= fun v=>standAt pos >>= fun _=>pure v))] PUnit.unit _ >>= _) _ _ _
  rw [List.forIn_cons]
  rw [eval_Name env y p2 hdy]
  have hD:=Heap.size_push s.heap { cls:=.type "set",dict:=none,data:=.set #[] 0 (.fresh 0 0 (ledOf w)) }
  have hk : ∀ b o,s.heap.get? b = some o → h'.get? b = some o:=fun b o e=>hsb.extBut b o (Nat.ne_of_lt (Heap.lt_size e)) (Heap.get?_push_of_some _ e)
  have F2:=F.keeps hk
  refine wpAny_bind (wpAny_bind (wpAny_bind (wpAny_bind (wpAny_bind (wpAny_standAt (wpAny_loadName_local hsc hy F2.ns hmy ?_))))))
  refine wpAny_bind (wpAny_standAt (wpAny_pure ?_))
  rw [if_pos rfl]
  refine wpAny_bind (wpAny_holding (displayStar_empty hh ho (hk _ _ (N _ hd).1) (by rw [beq_eq_false_iff_ne];exact fun e=>absurd hS (by rw [e];exact Nat.lt_irrefl _)) fun h'' tk hk2=>?_))
  refine wpAny_pure ?_
  dsimp only
  rw [List.forIn_nil]
  refine wpAny_pure (wpAny_pure (wpAny_pure ?_))
  refine h _ hs p h'' tk (F2.keeps hk2) (fun q hq=>?_) (fun q hq=>Heap.lt_size (N q hq).1)
  rcases List.mem_cons.mp hq with rfl | hq
  · exact ⟨hk2 _ _ ho,kdx_fresh F (Nat.le_refl _)⟩
  · exact ⟨hk2 _ _ (hk _ _ (N q hq).1),(N q hq).2⟩
end

end
section
set_option maxRecDepth 100000
theorem slot_set_iter : Slot "set" "__iter__" "set.__iter__" :=
  .of (owner := "set") (n := "__iter__") (by rw [typeLookup_type,builtinLookup_eq_fast];kernel_rfl) (by decide +kernel) (by decide +kernel) (by decide +kernel)
    (by first | exact .inl (by decide +kernel) | exact .inr (by decide +kernel)) (by rw [isSubtype_type];kernel_rfl)
theorem entry_set_iter : entryFor table "set.__iter__" = some Builtin.«frozenset.__iter__» :=
  entryFor_alias (id' := "frozenset.__iter__") (by kernel_rfl) (by first | rfl | decide +kernel) (by decide +kernel) (by kernel_rfl)
theorem args_set_iter (a : Value) : argsOk "set.__iter__" ⟨[a],[]⟩ := by unfold argsOk;kernel_rfl
theorem slot_si_next : Slot "set_iterator" "__next__" "set_iterator.__next__" :=
  .of (owner := "set_iterator") (n := "__next__") (by rw [typeLookup_type,builtinLookup_eq_fast];kernel_rfl) (by decide +kernel) (by decide +kernel) (by decide +kernel)
    (by first | exact .inl (by decide +kernel) | exact .inr (by decide +kernel)) (by rw [isSubtype_type];kernel_rfl)
theorem entry_si_next : entryFor table "set_iterator.__next__" = some Builtin.«set_iterator.__next__» := entryFor_of_tree (by kernel_rfl)
theorem args_si_next (a : Value) : argsOk "set_iterator.__next__" ⟨[a],[]⟩ := by unfold argsOk;kernel_rfl
theorem set_len : typeLookup (.type "set") "__len__" = pure (some (.builtin "set.__len__")) := by rw [typeLookup_type,builtinLookup_eq_fast];kernel_rfl
theorem pickOrder_one {α : Type} (f : Nat → Nat) (x : α) : pickOrder f #[x] = #[x] := by
  simp [pickOrder,pickOrder.go,Nat.mod_one]
noncomputable abbrev siObj (S : Addr) (slot i : Int) : Obj := { cls := .type "set_iterator",data := .fields #[rawInt slot,rawInt i,.ref S,rawInt 1,rawInt 1] }
section
variable {prog : Program} {w : World} {A : Around} {E : Value → Shared → Prop} {s : Shared} {h₀ : Heap} {L D : Addr} {m : Str → Option Value} {news news' : List (Addr × Obj)} {n : Nat}
theorem pyIter_set1 {S : Addr} {hs : Int} {v : Value} {p : Nat} {led : Bool} {Q : Value → Shared → Prop} (ho : s.heap.get? S = some (set1 hs v p led))
    (h:Q (.ref s.heap.objs.size) { s with heap:=s.heap.push (siObj S 0 0) }) : wpAny (model prog w) A (pyIter (.ref S)) Q E s:=by
  have hT : s.TypeIs (.ref S) "set" := ⟨_,ho,rfl⟩
  refine wpAny_pyIter_slot hT slot_set_iter (wpAny_call_entry slot_set_iter hT entry_set_iter ?_ (args_set_iter _))
  unfold Builtin.«frozenset.__iter__»
  refine wpAny_bind (wpAny_of_eq (a:=S) (by rfl) ?_)
  unfold Builtin.Frozenset.sizeOf
  refine wpAny_bind (wpAny_bind (wpAny_setEntries_of ho rfl (by rfl) (wpAny_pure ?_)))
  unfold setDrawn setsByText
  refine wpAny_bind (wpAny_bind (wpAny_setState_of ho rfl (by rfl) ?_))
  refine wpAny_bind (wpAny_bind (wpAny_askSetting (wpAny_pure ?_)))
  refine wpAny_pure ?_
  refine wpAny_ite_split (fun hab=>absurd hab (fun e=>?_)) (fun _=>?_)
  · have e' : (!((model prog w).w.params.followText "set-order") && false) = true := e
    simp at e'
  refine wpAny_bind (wpAny_pure ?_)
  refine wpAny_bind (wpAny_setEpoch_of ho rfl (by rfl) ?_)
  exact wpAny_bind (wpAny_newObj_type (wpAny_pure ⟨_,rfl, "set_iterator",_,⟨_,Heap.get?_push_size _ rfl,rfl⟩,slot_si_next.lookup,h⟩))

theorem si_set {S I : Addr} {a b a0 b0 : Int} (hi : s.heap.get? I = some (siObj S a0 b0)) (v : Value) {P : PySem.Fin → Shared → Prop}
    (h : ∀ h₂,Heap.SameBut I s.heap h₂ → h₂.get? I = some (siObj S a b) → P (.done (.ret v)) { s with heap:=h₂ }) : wpAny (model prog w) A (setField (.ref I) 0 (rawInt a) >>= fun _=>setField (.ref I) 1 (rawInt b) >>= fun _=>ret v) P E s:=by
  refine wpAny_bind (wpAny_setField_rec hi (by simp) fun h₁ he₁ hs₁=>?_)
  refine wpAny_bind (wpAny_setField_rec he₁ (by simp) fun h₂ he₂ hs₂=>?_)
  refine wpAny_pure (h h₂ (hs₁.trans hs₂) ?_)
  simpa using he₂
theorem pyNext_set1_item {S I : Addr} {hs : Int} {v : Value} {p : Nat} {Q : Option Value → Shared → Prop} (hne : S ≠ I) (ho : s.heap.get? S = some (set1 hs v p (ledOf w))) (hi : s.heap.get? I = some (siObj S 0 0))
    (h : ∀ h',Heap.SameBut I s.heap h' → h'.get? I = some (siObj S (if w.params.followText "set-order" = true then 0 else ((p + 1 : Nat) : Int)) 1) → Q (some v) { s with heap:=h' }) : wpAny (model prog w) A (pyNext (.ref I)) Q E s:=by
  have hT : s.TypeIs (.ref I) "set_iterator" := ⟨_,hi,rfl⟩
  unfold pyNext
  refine wpAny_bind (wpAny_attempt (wpAny_callSpecial?_slot (name:=Str.ofString "__next__") hT slot_si_next (wpAny_call_entry slot_si_next hT entry_si_next ?_ (args_si_next _))))
  unfold Builtin.«set_iterator.__next__»
  refine wpAny_bind (wpAny_of_eq (a:=(Value.ref I,[])) (by rfl) ?_)
  refine wpAny_bind (wpAny_fieldsOf hi rfl ?_)
  show wpAny _ _ (setEntries S >>= _) _ _ _
  refine wpAny_bind (wpAny_setEntries_of ho rfl (by rfl) ?_)
  refine wpAny_ite_split (fun hab=>absurd hab (by show ¬ (((1:Int) != 1) = true);decide)) (fun _=>?_)
  show wpAny _ _ (setNext S 0 0 1 >>= _) _ _ _
  unfold setNext setsByText
  refine wpAny_bind (wpAny_bind (wpAny_setState_of ho rfl (by rfl) ?_))
  refine wpAny_bind (wpAny_bind (wpAny_askSetting (wpAny_pure ?_)))
  show wpAny _ _ (if w.params.followText "set-order" = true then _ else _) _ _ _
  cases hft : w.params.followText "set-order" with
  | true =>
    rw [if_pos rfl]
    refine wpAny_ite_split (fun hab=>absurd hab (by decide)) (fun _=>?_)
    unfold setWalk setsByText
    refine wpAny_bind (wpAny_bind (wpAny_setState_of ho rfl (by rfl) ?_))
    refine wpAny_bind (wpAny_bind (wpAny_askSetting (wpAny_pure ?_)))
    show wpAny _ _ (if w.params.followText "set-order" = true then _ else _) _ _ _
    rw [hft,if_pos rfl]
    refine wpAny_bind (wpAny_askSetting (wpAny_pure ?_))
    rw [pickOrder_one]
    refine wpAny_pure ?_
    refine si_set hi v fun h₂ hs₂ ho₂=>⟨_,rfl,wpAny_pure (h h₂ hs₂ ?_)⟩
    rw [hft];exact ho₂
  | false =>
    rw [if_neg Bool.false_ne_true]
    refine wpAny_ite_split (fun hab=>absurd hab (fun e=>?_)) (fun _=>?_)
    · have e' : (true && false) = true := e
      cases e'
    refine wpAny_bind (wpAny_of_eq (a:=()) ?_ ?_)
    · show (if (!(ledOf w) && !false) = true then _ else _) = _
      unfold ledOf
      rw [hft];rfl
    · refine wpAny_pure ?_
      refine si_set (a:=((p + 1 : Nat) : Int)) (b:=0 + 1) hi v fun h₂ hs₂ ho₂=>⟨_,rfl,wpAny_pure (h h₂ hs₂ ?_)⟩
      rw [hft];exact ho₂

theorem stop_raise {S I : Addr} {a b : Int} (hh : A.handled = none) (hi : s.heap.get? I = some (siObj S a b)) {P : PySem.Fin → Shared → Prop}
    (hE : ∀ e h' o,h'.get? e = some o → o.cls = .type "StopIteration" → Heap.ExtBut I s.heap h' → E (.ref e) { s with heap:=h' }) :
    wpAny (model prog w) A (setField (.ref I) 2 .none >>= fun _=>newExc (.type "StopIteration") [] >>= fun e=>raiseNew e) P E s:=by
  refine wpAny_bind (wpAny_setField hi rfl (by simp) ?_)
  refine wpAny_bind ?_
  simp only [newExc,newTuple]
  refine wpAny_bind (wpAny_newObj_type ?_ (by size_fits))
  refine wpAny_bind (m:=firstArgMember _ _) (wpAny_of_eq (a:=Value.none) (by first | rfl | (simp only [firstArgMember];rfl)) ?_)
  refine wpAny_newObj_type ?_ (by size_fits)
  simp only [raiseNew]
  refine wpAny_bind (wpAny_handled ?_)
  rw [hh]
  refine wpAny_bind (wpAny_pure (wpAny_throw ?_))
  exact hE _ _ _ (Heap.get?_push_size _ rfl) rfl (((Heap.SameBut.update ..).extBut.push _).push _)
theorem below_one (p : Nat) : SetTable.below #[p] (p + 1) = 1 := by
  simp [SetTable.below,SetTable.below.go]
theorem pyNext_set1_end {S I : Addr} {hs : Int} {v : Value} {p : Nat} {Q : Option Value → Shared → Prop} (hh : A.handled = none) (hne : S ≠ I) (ho : s.heap.get? S = some (set1 hs v p (ledOf w)))
    (hi : s.heap.get? I = some (siObj S (if w.params.followText "set-order" = true then 0 else ((p + 1 : Nat) : Int)) 1))
    (h : ∀ h',Heap.ExtBut I s.heap h' → Q none { s with heap:=h' }) : wpAny (model prog w) A (pyNext (.ref I)) Q E s:=by
  have hT : s.TypeIs (.ref I) "set_iterator" := ⟨_,hi,rfl⟩
  unfold pyNext
  refine wpAny_bind (wpAny_attempt (wpAny_callSpecial?_slot (name:=Str.ofString "__next__") hT slot_si_next (wpAny_call_entry slot_si_next hT entry_si_next ?_ (args_si_next _))))
  unfold Builtin.«set_iterator.__next__»
  refine wpAny_bind (wpAny_of_eq (a:=(Value.ref I,[])) (by rfl) ?_)
  refine wpAny_bind (wpAny_fieldsOf hi rfl ?_)
  show wpAny _ _ (setEntries S >>= _) _ _ _
  refine wpAny_bind (wpAny_setEntries_of ho rfl (by rfl) ?_)
  refine wpAny_ite_split (fun hab=>absurd hab (by show ¬ (((1:Int) != 1) = true);decide)) (fun _=>?_)
  cases hft : w.params.followText "set-order" with
  | true =>
    rw [hft] at hi
    show wpAny _ _ (setNext S 0 1 1 >>= _) _ _ _
    unfold setNext setsByText
    refine wpAny_bind (wpAny_bind (wpAny_setState_of ho rfl (by rfl) ?_))
    refine wpAny_bind (wpAny_bind (wpAny_askSetting (wpAny_pure ?_)))
    show wpAny _ _ (if w.params.followText "set-order" = true then _ else _) _ _ _
    rw [hft,if_pos rfl]
    refine wpAny_ite_split (fun hab=>absurd hab (by decide)) (fun _=>?_)
    unfold setWalk setsByText
    refine wpAny_bind (wpAny_bind (wpAny_setState_of ho rfl (by rfl) ?_))
    refine wpAny_bind (wpAny_bind (wpAny_askSetting (wpAny_pure ?_)))
    show wpAny _ _ (if w.params.followText "set-order" = true then _ else _) _ _ _
    rw [hft,if_pos rfl]
    refine wpAny_bind (wpAny_askSetting (wpAny_pure ?_))
    rw [pickOrder_one]
    refine wpAny_pure ?_
    refine stop_raise (A:=A.in1) hh hi fun e h' o he hc hx=>?_
    refine wpAny_bind (wpAny_isInstance (T := "StopIteration") (b:=true) ⟨_,he,hc⟩ isSubtype_stop ?_)
    exact wpAny_pure (h h' hx)
  | false =>
    rw [hft] at hi
    show wpAny _ _ (setNext S (p + 1) 1 1 >>= _) _ _ _
    unfold setNext setsByText
    refine wpAny_bind (wpAny_bind (wpAny_setState_of ho rfl (by rfl) ?_))
    refine wpAny_bind (wpAny_bind (wpAny_askSetting (wpAny_pure ?_)))
    show wpAny _ _ (if w.params.followText "set-order" = true then _ else _) _ _ _
    rw [hft,if_neg Bool.false_ne_true]
    refine wpAny_ite_split (fun hab=>absurd hab (fun e=>?_)) (fun _=>?_)
    · have e' : (true && false) = true := e
      cases e'
    refine wpAny_bind (wpAny_of_eq (a:=()) ?_ ?_)
    · show (if (!(ledOf w) && !false) = true then _ else _) = _
      unfold ledOf
      rw [hft];rfl
    · refine wpAny_pure ?_
      rw [below_one]
      refine stop_raise (A:=A.in1) hh hi fun e h' o he hc hx=>?_
      refine wpAny_bind (wpAny_isInstance (T := "StopIteration") (b:=true) ⟨_,he,hc⟩ isSubtype_stop ?_)
      exact wpAny_pure (h h' hx)
end

end
section
set_option maxRecDepth 100000
section
variable {prog : Program} {w : World} {A : Around} {E : Value → Shared → Prop} {s : Shared} {h₀ : Heap} {L D : Addr} {m : Str → Option Value} {news news' : List (Addr × Obj)} {n : Nat} {R : Result → Shared → Prop}
theorem set_hint {S : Addr} (hT : s.TypeIs (.ref S) "set") {Q : Bool → Shared → Prop} (h : Q false s) : wpAny (model prog w) A (Builtin.List.listLengthHint (.ref S)) Q E s := by
  unfold Builtin.List.listLengthHint
  refine wpAny_bind (wpAny_specialOf hT set_len ?_)
  generalize hid : ("set.__len__" : String) = id0
  wp_delta
  rw [show splitId id0 = some ("set", "__len__") from by subst hid;decide +kernel]
  subst hid
  refine wpAny_bind (wpAny_isInstance (T := "set") (b:=true) hT (by rw [isSubtype_type];kernel_rfl) ?_)
  refine wpAny_ite_split (fun hab=>absurd hab (by decide)) (fun _=>?_)
  refine wpAny_ite_split (fun _=>?_) (fun hab=>absurd (by decide +kernel) hab)
  refine wpAny_bind (wpAny_typeOf hT ?_)
  exact wpAny_pure h

theorem extend_loop_set1 {Sl S I : Addr} {hs : Int} {v : Value} {p c : Nat} {res : Value} (hh : A.handled = none) (h1 : S ≠ I) (h2 : Sl ≠ I) (h3 : S ≠ Sl) (hl : s.heap.get? Sl = some { cls := .type "list",data := .seq #[] c }) (ho : s.heap.get? S = some (set1 hs v p (ledOf w))) (hi : s.heap.get? I = some (siObj S 0 0))
    (h : ∀ h' c',(∀ b o,b ≠ Sl → b ≠ I → s.heap.get? b = some o → h'.get? b = some o) → h'.get? Sl = some { cls:=.type "list",data:=.seq #[v] c' } → R (.ok (.ret res)) { s with heap:=h' }) :
    codeAny (model prog w) A (.builtin "list.extend.loop" ⟨[.ref Sl,.ref I,res],[]⟩) R s:=by
  refine codeAny_builtin PySem.F.entry_extend_loop ?_
  rw [Around.under_plainId PySem.F.plain_extend_loop _]
  show wpAny _ A.in1 (pyNext (.ref I) >>= _) _ _ s
  refine wpAny_bind (pyNext_set1_item h1 ho hi fun h' hs' hi'=>?_)
  have hl' : h'.get? Sl = some { cls:=.type "list",data:=.seq #[] c }:=(hs'.2 _ h2).trans hl
  have ho':=(hs'.2 _ h1).trans ho
  show wpAny _ A.in1 (updateSeq Sl (·.push v) >>= _) _ _ _
  refine wpAny_bind (wpAny_updateSeq hl' rfl ?_ (by rw [sizeLine_eq];show 0 ≤ _;omega) (by rw [sizeLine_eq];show 1 ≤ _;omega))
  have hl2:=Heap.get?_update_self (Obj.mapSeq (·.push v)) hl' rfl
  have hs2:=Heap.SameBut.update h' Sl (Obj.mapSeq (·.push v))
  refine wpAny_pure ⟨plainId_quiet PySem.F.plain_extend_loop _,codeAny_builtin PySem.F.entry_extend_loop ?_⟩
  rw [Around.under_plainId PySem.F.plain_extend_loop _]
  show wpAny _ A.in1 (pyNext (.ref I) >>= _) _ _ _
  refine wpAny_bind (pyNext_set1_end (A:=A.in1) hh h1 ((hs2.2 _ h3).trans ho') ((hs2.2 _ h2.symm).trans hi') fun h'' he=>?_)
  show wpAny _ A.in1 (ret res) _ _ _
  refine wpAny_pure (h h'' (c + 1) (fun b o hb1 hb2 e=>he b o hb2 ((hs2.2 _ hb1).trans ((hs'.2 _ hb2).trans e))) (he _ _ h2 hl2))

theorem extend_set1 {Sl S : Addr} {hs : Int} {v : Value} {p c₀ : Nat} {res : Value} (hh : A.handled = none) (ho : s.heap.get? S = some (set1 hs v p (ledOf w))) (hl : s.heap.get? Sl = some { cls := .type "list",data := .seq #[] c₀ })
    (hR : ∀ h' c',(∀ b o,b ≠ Sl → s.heap.get? b = some o → h'.get? b = some o) → h'.get? Sl = some { cls:=.type "list",data:=.seq #[v] c' } → R (.ok (.ret res)) { s with heap:=h' }) :
    wpAny (model prog w) A.in1 (Builtin.List.listExtendWith (.ref Sl) (.ref S) res)
      (fun fin s'=>match fin with | .done f=>R (.ok f) s' | .again c'=>c'.quiet = true ∧ codeAny (model prog w) A c' R s') (fun e s'=>R (.error e) s') s:=by
  have hT : s.TypeIs (.ref S) "set" := ⟨_,ho,rfl⟩
  have hSl : S ≠ Sl:=fun e=>by rw [e,hl] at ho;injection ho with ho;injection ho with ho;injection ho with ho;exact absurd ho (by decide)
  have q1 : Builtin.List.listSameRef (.ref Sl) (.ref S) = false:=by simp [Builtin.List.listSameRef,Ne.symm hSl]
  have q2 : (Value.type "set" == Value.type "list") = false:=by decide
  have q3 : (Value.type "set" == Value.type "tuple") = false:=by decide
  have hSI : S ≠ s.heap.objs.size:=Nat.ne_of_lt (Heap.lt_size ho)
  have hlI : Sl ≠ s.heap.objs.size:=Nat.ne_of_lt (Heap.lt_size hl)
  unfold Builtin.List.listExtendWith
  refine wpAny_bind (wpAny_typeOf hT ?_)
  simp only [q1,q2,q3,Bool.or_false,Bool.false_eq_true,if_false]
  refine wpAny_bind (pyIter_set1 ho ?_)
  have ho2:=Heap.get?_push_of_some (siObj S 0 0) ho
  have hl2:=Heap.get?_push_of_some (siObj S 0 0) hl
  have hi2 : (s.heap.push (siObj S 0 0)).get? s.heap.objs.size = some (siObj S 0 0):=Heap.get?_push_size _ rfl
  refine wpAny_bind (wpAny_holding (set_hint ⟨_,ho2,rfl⟩ ?_))
  have key : ∀ (h₃ : Heap) (c:Nat),(∀ b o,b ≠ Sl → (s.heap.push (siObj S 0 0)).get? b = some o → h₃.get? b = some o) → h₃.get? Sl = some { cls:=.type "list",data:=.seq #[] c } →
      codeAny (model prog w) A (.builtin "list.extend.loop" ⟨[.ref Sl,.ref s.heap.objs.size,res],[]⟩) R { s with heap:=h₃ }:=fun h₃ c hk hl3=>
    extend_loop_set1 (s:={ s with heap:=h₃ }) hh hSI hlI hSl hl3 (hk _ _ hSl ho2) (hk _ _ hlI.symm hi2) fun h' c' hk' hl'=>
      hR h' c' (fun b o hb e=>hk' b o hb (Nat.ne_of_lt (Heap.lt_size e)) (hk b o hb (Heap.get?_push_of_some _ e))) hl'
  refine wpAny_ite_split (fun _=>?_) (fun _=>wpAny_pure ⟨plainId_quiet PySem.F.plain_extend_loop _,key _ c₀ (fun b o _ e=>e) hl2⟩)
  refine wpAny_bind (wpAny_rule ?_)
  refine wpAny_bind ?_
  show wpAny _ _ (updateSeq Sl (·.push .none) >>= fun _=>updateSeq Sl (·.pop)) _ _ _
  refine wpAny_bind (wpAny_updateSeq hl2 rfl ?_ (by rw [sizeLine_eq];show 0 ≤ _;omega) (by rw [sizeLine_eq];show 1 ≤ _;omega))
  have hl3:=Heap.get?_update_self (Obj.mapSeq (·.push Value.none)) hl2 rfl
  refine wpAny_updateSeq hl3 rfl ?_ (by rw [sizeLine_eq];show 1 ≤ _;omega) (by rw [sizeLine_eq];show 0 ≤ _;omega)
  have hl4:=Heap.get?_update_self (Obj.mapSeq (·.pop)) hl3 rfl
  refine wpAny_pure ⟨plainId_quiet PySem.F.plain_extend_loop _,key _ (c₀ + 1 + 1) (fun b o hb e=>?_) hl4⟩
  exact (Heap.get?_update_other _ _ (Ne.symm hb)).trans ((Heap.get?_update_other _ _ (Ne.symm hb)).trans e)

theorem iadd_set1 {Sl S : Addr} {hs : Int} {v : Value} {p c₀ : Nat} (hh : A.handled = none) (ho : s.heap.get? S = some (set1 hs v p (ledOf w))) (hl : s.heap.get? Sl = some { cls := .type "list",data := .seq #[] c₀ })
    (hR : ∀ h' c',(∀ b o,b ≠ Sl → s.heap.get? b = some o → h'.get? b = some o) → h'.get? Sl = some { cls:=.type "list",data:=.seq #[v] c' } → R (.ok (.ret (.ref Sl))) { s with heap:=h' }) :
    codeAny (model prog w) A (.builtin "list.__iadd__" ⟨[.ref Sl,.ref S],[]⟩) R s:=by
  refine codeAny_builtin PySem.F.entry_list_iadd ?_
  rw [Around.under_plainId PySem.F.plain_list_iadd _]
  show wpAny _ A.in1 (Builtin.List.listExtendWith (.ref Sl) (.ref S) (.ref Sl)) _ _ _
  exact extend_set1 (R:=R) hh ho hl hR

theorem collect_set1 {S : Addr} {hs : Int} {v : Value} {p : Nat} {Q : List Value → Shared → Prop} (hh : A.handled = none) (ho : s.heap.get? S = some (set1 hs v p (ledOf w)))
    (h : ∀ h',(∀ b o,s.heap.get? b = some o → h'.get? b = some o) → Q [v] { s with heap:=h' }) : wpAny (model prog w) A (collect (.ref S)) Q E s:=by
  have ho1 : (s.heap.push { cls:=.type "list",data:=.seq #[] }).get? S = some (set1 hs v p (ledOf w)):=Heap.get?_push_of_some _ ho
  have hl1 : (s.heap.push { cls:=.type "list",data:=.seq #[] }).get? s.heap.objs.size = some { cls:=.type "list",data:=.seq #[] 0 }:=Heap.get?_push_size _ rfl
  unfold collect
  refine wpAny_bind (wpAny_runValue (codeAny_builtin PySem.F.entry_proto_collect ?_))
  rw [Around.under_plainId PySem.F.plain_proto_collect _]
  show wpAny _ A.in1 (newList [] >>= fun l=>again (.builtin "list.__iadd__" ⟨[l,.ref S],[]⟩)) _ _ s
  refine wpAny_bind (wpAny_newObj_type ?_)
  refine wpAny_pure ⟨plainId_quiet PySem.F.plain_list_iadd _,iadd_set1 (s:={ s with heap:=s.heap.push { cls:=.type "list",data:=.seq #[] } }) hh ho1 hl1 fun h' c' hk hl=>?_⟩
  show wpAny _ A (load s.heap.objs.size >>= _) _ _ _
  refine wpAny_bind (wpAny_load hl ?_)
  exact wpAny_pure (h h' fun b o e=>hk b o (Nat.ne_of_lt (Heap.lt_size e)) (Heap.get?_push_of_some _ e))
end

end
section
set_option maxRecDepth 100000
section
variable {prog : Program} {w : World} {A : Around} {E : Value → Shared → Prop} {s : Shared} {h₀ : Heap} {L D : Addr} {m : Str → Option Value} {news news' : List (Addr × Obj)} {n : Nat} {R : Result → Shared → Prop}
noncomputable def KeepsAll (h h' : Heap) : Prop := ∀ b o,h.get? b = some o → h'.get? b = some o
theorem sort1_key {a q : Addr} {v : Value} {c : Nat} {P : PySem.Fin → Shared → Prop} (ho : s.heap.get? a = some (seqObj "list" #[v] c))
    (hf : ∀ (h:Heap),(∀ b o,b ≠ a → s.heap.get? b = some o → h.get? b = some o) → ∀ (Q' : Value → Shared → Prop) (E' : Value → Shared → Prop),(∀ k h'' tk,KeepsAll h h'' → Q' k { s with heap:=h'',toks:=tk }) → wpAny (model prog w) A (call (.ref q) [v]) Q' E' { s with heap:=h })
    (h : ∀ h' tk c',(∀ b o,b ≠ a → s.heap.get? b = some o → h'.get? b = some o) → h'.get? a = some (seqObj "list" #[v] c') → P (.done (.ret .none)) { s with heap:=h',toks:=tk }) :
    wpAny (model prog w) A (ksk_tree a (.ref q) false) P E s:=by
  have ha : a < s.heap.objs.size:=Heap.lt_size ho
  have s1:=Heap.SameBut.update s.heap a (Obj.mapSeq fun _=>(#[] : Array Value))
  obtain ⟨e1,ho1⟩ : ∃ e1,(s.heap.update a (Obj.mapSeq fun _=>(#[] : Array Value))).get? a = some (seqObj "list" #[] e1):=⟨_,get?_update_seq ho fun _=>#[]⟩
  unfold ksk_tree
  refine wpAny_bind (listItems_at ho rfl ?_)
  refine wpAny_bind (listUpdate_at ho rfl ?_ (by rw [sizeLine_eq];show 1 ≤ _;omega) (Nat.zero_le _))
  refine wpAny_bind (seqEpoch_at ho1 rfl ?_)
  refine wpAny_bind (wpAny_newTuple ?_ (by show 1 ≤ _;rw [sizeLine_eq];omega))
  refine wpAny_bind (wpAny_newList ?_ (Nat.zero_le _))
  refine wpAny_holding ?_
  have hz1 : ((s.heap.update a (Obj.mapSeq fun _=>(#[] : Array Value))).push (seqObj "tuple" #[v] 0)).objs.size = s.heap.objs.size + 1:=by rw [size_push',Heap.size_update]
  have k2 : ∀ b o,b ≠ a → s.heap.get? b = some o → (((s.heap.update a (Obj.mapSeq fun _=>(#[] : Array Value))).push (seqObj "tuple" #[v] 0)).push (seqObj "list" #[] 0)).get? b = some o:=
    fun b o hb e=>Heap.get?_push_of_some _ (Heap.get?_push_of_some _ ((s1.2 _ hb).trans e))
  have ha2 : (((s.heap.update a (Obj.mapSeq fun _=>(#[] : Array Value))).push (seqObj "tuple" #[v] 0)).push (seqObj "list" #[] 0)).get? a = some (seqObj "list" #[] e1):=Heap.get?_push_of_some _ (Heap.get?_push_of_some _ ho1)
  have hk2 : (((s.heap.update a (Obj.mapSeq fun _=>(#[] : Array Value))).push (seqObj "tuple" #[v] 0)).push (seqObj "list" #[] 0)).get? ((s.heap.update a (Obj.mapSeq fun _=>(#[] : Array Value))).push (seqObj "tuple" #[v] 0)).objs.size = some (seqObj "list" #[] 0):=Heap.get?_push_size _ rfl
  rw [hz1] at hk2
  show wpAny _ _ (ksk_rest a (.ref q) false #[v] e1 (.ref ((s.heap.update a (Obj.mapSeq fun _=>(#[] : Array Value))).push (seqObj "tuple" #[v] 0)).objs.size)) _ _ { s with heap:=((s.heap.update a (Obj.mapSeq fun _=>(#[] : Array Value))).push (seqObj "tuple" #[v] 0)).push (seqObj "list" #[] 0) }
  rw [hz1]
  generalize ((s.heap.update a (Obj.mapSeq fun _=>(#[] : Array Value))).push (seqObj "tuple" #[v] 0)).push (seqObj "list" #[] 0) = H at k2 ha2 hk2 ⊢
  have hak : a ≠ s.heap.objs.size + 1:=Nat.ne_of_lt (Nat.lt_succ_of_lt ha)
  unfold ksk_rest
  refine wpAny_bind (wpAny_rule ?_)
  rw [← Array.forIn_toList]
  show wpAny _ _ (forIn [v] PUnit.unit _ >>= _) _ _ _
  rw [List.forIn_cons]
  refine wpAny_bind (wpAny_bind (wpAny_bind (wpAny_attempt (hf H k2 _ _ fun k h'' tk hk=>?_))))
  dsimp only
  have hks:=hk _ _ hk2
  have has:=hk _ _ ha2
  refine wpAny_bind (listUpdate_at hks rfl ?_ (by rw [sizeLine_eq];show 0 ≤ _;omega) (by rw [sizeLine_eq];show 1 ≤ _;omega))
  have s2:=Heap.SameBut.update h'' (s.heap.objs.size + 1) (Obj.mapSeq (·.push k))
  obtain ⟨e2,hks2⟩ : ∃ e2,(h''.update (s.heap.objs.size + 1) (Obj.mapSeq (·.push k))).get? (s.heap.objs.size + 1) = some (seqObj "list" #[k] e2):=⟨_,get?_update_seq hks (·.push k)⟩
  refine wpAny_pure ?_
  dsimp only
  rw [List.forIn_nil]
  refine wpAny_pure ?_
  refine wpAny_bind (listItems_at hks2 rfl ?_)
  unfold ksk_end
  dsimp only
  rw [if_neg Bool.false_ne_true]
  rw [if_pos (show (#[v] : Array Value).size < 2 by show 1 < 2;omega),if_pos (show (#[v] : Array Value).size < 2 by show 1 < 2;omega)]
  refine wpAny_bind (wpAny_pure ?_)
  rw [StateT.run_pure]
  refine wpAny_bind (wpAny_pure ?_)
  have harr : arrOf (SortSt.mk' general' (if false = true then (#[k].zip #[v]).reverse else #[k].zip #[v]) #[] 7 none) = #[k].zip #[v]:=rfl
  have hfl : failedOf (SortSt.mk' general' (if false = true then (#[k].zip #[v]).reverse else #[k].zip #[v]) #[] 7 none) = none:=rfl
  have hmap : (#[k].zip #[v]).map (·.2) = #[v]:=by simp
  unfold ksk_tail
  rw [harr,hmap,hfl]
  simp only [Bool.false_eq_true,if_false]
  refine wpAny_bind (listUpdate_at hks2 rfl ?_ (by rw [sizeLine_eq];show 1 ≤ _;omega) (Nat.zero_le _))
  refine wpAny_bind (wpAny_letGo ?_)
  have s3:=Heap.SameBut.update (h''.update (s.heap.objs.size + 1) (Obj.mapSeq (·.push k))) (s.heap.objs.size + 1) (Obj.mapSeq fun _=>(#[] : Array Value))
  have has3:=(s3.2 _ hak).trans ((s2.2 _ hak).trans has)
  refine wpAny_bind (seqEpoch_at has3 rfl ?_)
  refine wpAny_bind (listUpdate_at has3 rfl ?_ (Nat.zero_le _) (by rw [sizeLine_eq];show 1 ≤ _;omega))
  simp only [bne_self_eq_false,Bool.false_eq_true,if_false]
  have s4:=Heap.SameBut.update ((h''.update (s.heap.objs.size + 1) (Obj.mapSeq (·.push k))).update (s.heap.objs.size + 1) (Obj.mapSeq fun _=>(#[] : Array Value))) a (Obj.mapSeq fun _=>(#[v] : Array Value))
  refine wpAny_pure (h _ _ _ (fun b o hb e=>?_) (get?_update_seq has3 fun _=>#[v]))
  have hb2 : b ≠ s.heap.objs.size + 1:=Nat.ne_of_lt (Nat.lt_succ_of_lt (Heap.lt_size e))
  exact (s4.2 _ hb).trans ((s3.2 _ hb2).trans ((s2.2 _ hb2).trans (hk _ _ (k2 b o hb e))))

theorem sorted_set1 {S q : Addr} {hs : Int} {v : Value} {p : Nat} {Q : Value → Shared → Prop} (hh : A.handled = none) (ho : s.heap.get? S = some (set1 hs v p (ledOf w)))
    (hf : ∀ (h:Heap),KeepsAll s.heap h → ∀ (Q' : Value → Shared → Prop) (E' : Value → Shared → Prop),(∀ k h'' tk,KeepsAll h h'' → Q' k { s with heap:=h'',toks:=tk }) → wpAny (model prog w) A.in1.in1 (call (.ref q) [v]) Q' E' { s with heap:=h })
    (h : ∀ D h' tk c',KeepsAll s.heap h' → (∀ b o,s.heap.get? b = some o → b < D) → h'.get? D = some (listOf #[v] c') → Q (.ref D) { s with heap:=h',toks:=tk }) :
    wpAny (model prog w) A (call (.builtin "sorted") [.ref S] [(Str.ofString "key",.ref q)]) Q E s:=by
  refine call_function_entry_kw kind_sorted plain_sorted entry_sorted (ksk_s1 _ _) ?_
  unfold Builtin.«sorted»
  refine wpAny_bind (m:=checkCount "sorted" 1 1 _) (wpAny_pure ?_)
  refine wpAny_bind (collect_set1 (A:=A.in1) hh ho fun h1 k1=>?_)
  refine wpAny_bind (wpAny_newList ?_ (by rw [sizeLine_eq];show 1 ≤ _;omega))
  have ho2 : (h1.push (seqObj "list" #[v] 0)).get? h1.objs.size = some (seqObj "list" #[v] 0):=Heap.get?_push_size _ rfl
  have k2 : KeepsAll s.heap (h1.push (seqObj "list" #[v] 0)):=fun b o e=>Heap.get?_push_of_some _ (k1 b o e)
  have hz : ∀ b o,s.heap.get? b = some o → b < h1.objs.size:=fun b o e=>Heap.lt_size (k1 b o e)
  refine wpAny_bind (wpAny_holding (wpAny_call_entry_kw slot_list_sort ⟨_,ho2,rfl⟩ entry_list_sort ?body (ksk_l1 _ _)))
  case body=>
    show wpAny (model prog w) A.in1.in1 (Builtin.«list.sort» ⟨[.ref h1.objs.size],[(Str.ofString "key",.ref q)]⟩) _ _ _
    rw [ksk_t1]
    refine sort1_key (s:={ s with heap:=h1.push (seqObj "list" #[v] 0) }) ho2 (fun h3 k3 Q' E' hq=>?_) fun h' tk c' k' hl=>⟨_,rfl,?_⟩
    · exact hf h3 (fun b o e=>k3 b o (Nat.ne_of_lt (hz b o e)) (k2 b o e)) Q' E' hq
    · exact wpAny_pure ⟨_,rfl,h _ h' tk c' (fun b o e=>k' b o (Nat.ne_of_lt (hz b o e)) (k2 b o e)) hz hl⟩
end

end
section

end
section
noncomputable abbrev lamParams : Arguments := { posonlyargs := [],args := [{ arg := Str.ofString "n",annotation := none,pos := { line := 135,col := 78,endLine := 135,endCol := 79 } }],vararg := none,kwonlyargs := [],kw_defaults := [],kwarg := none,defaults := [] }
noncomputable abbrev lamBody : Expr := .Call (.Attribute (.Name (Str.ofString "n") { line := 135,col := 81,endLine := 135,endCol := 82 }) (Str.ofString "split") { line := 135,col := 81,endLine := 135,endCol := 88 }) [.Constant (.str (Str.ofString "}")) 0 { line := 135,col := 89,endLine := 135,endCol := 92 },.Constant (.int 1) 0 { line := 135,col := 94,endLine := 135,endCol := 95 }] [] { line := 135,col := 81,endLine := 135,endCol := 96 }
noncomputable abbrev lamScope : Scope := { kind := .function,names := [(Str.ofString "n",.local)],isGenerator := false,isCoroutine := false }
noncomputable abbrev lamEnv (qual : Str) (L f c' : Addr) : Env := envOf qual lamScope L f (.ref c')
noncomputable def LamPost (g : Heap) (L : Addr) (s : Shared) (Q : Value → Shared → Prop) (v : Value) (s' : Shared) : Prop := ∃ m,Fr g L s'.heap m ∧ (KeepsAll s.heap s'.heap → Q v s')
section
variable {w : World} {mean : ExcName → Option Value} {mg mb : Str → Option Value} {h₀ : Heap} {s : Shared} {dp un : Nat} {fr : Option (List Env)} {gd : Option (List Code)} {E : Value → Shared → Prop} {Q : Value → Shared → Prop}
theorem enter_lam {qual : Str} {pm ctv : Value} {f c' : Addr} {tag : Str} {tt : Tok} (C : Cx w mean mg mb h₀ s []) (hroom : dp < recursionLimit)
    (ho : s.heap.get? f = some (kla_obj (Str.ofString "<lambda>") qual lamParams lamBody lamScope [] pm c' ctv)) (hcd : s.heap.CodeRec (.ref c') qual)
    (h : ∀ g L' h₁,Fr g L' h₁ (fun y=>[(Str.ofString "n",.str tag tt)].reverse.lookup y) → News g L' h₁ [] → (Mine.hd.heap_1 w.params).In g → Top topProg Lz mean mg mb g → KeepsAll s.heap g →
      wpAny (model P0 w) ((Ar dp fr gd un).deeper (lamEnv qual L' f c')) (eval lamBody (lamEnv qual L' f c')) (LamPost g L' s Q) (fun _ _=>False) { s with heap:=h₁,toks:=s.toks + 1 }) :
    wpAny (model P0 w) (Ar dp fr gd un) (call (.ref f) [.str tag tt]) Q E s:=by
  refine wpAny_call (kla_callFunE hroom ho rfl rfl rfl rfl hcd ?_)
  refine wpAny_of_eq (a:=[(Str.ofString "n",.str tag tt)]) rfl ?_
  refine wpAny_newFunctionEnv (show ∀ x ∈ lamScope.names,x.2 ≠ .cell by decide) (locs rfl) (fun h₁ hns hsb=>⟨(C.T.nolimit.keeps C.st).fresh _ hsb,?_⟩) rfl
  have hk₁ : ∀ b o,s.heap.get? b = some o → h₁.get? b = some o:=fun b o e=>hsb.extBut b o (Nat.ne_of_lt (Heap.lt_size e)) (Heap.get?_push_of_some _ e)
  refine kla_codeExpr (wpAny_mono (h s.heap s.heap.objs.size h₁ ⟨hns,hk₁,Nat.le_refl _⟩ (fun _ h=>nomatch h) (C.X.keeps C.st) (C.T.keeps C.st) fun _ _ e=>e) (fun v s' hv=>?_) fun _ _ e=>e.elim)
  refine obEA hv ?_;clear hv;intro m F k
  exact k F.keep

set_option maxRecDepth 100000 in
theorem lam_spec {qual : Str} {pm ctv : Value} {f c' : Addr} {tag : Str} {tt : Tok} (C : Cx w mean mg mb h₀ s []) (hroom : dp + 3 < recursionLimit) (hu : un + 8 < cLine) (htag : tag.length = 1)
    (ho : s.heap.get? f = some (kla_obj (Str.ofString "<lambda>") qual lamParams lamBody lamScope [] pm c' ctv)) (hcd : s.heap.CodeRec (.ref c') qual)
    (hret : ∀ k h' tk,KeepsAll s.heap h' → Q k { s with heap:=h',toks:=tk }) : wpAny (model P0 w) (Ar dp fr gd un) (call (.ref f) [.str tag tt]) Q E s:=by
  refine enter_lam C (by omega) ho hcd ?_
  have X0:=C.X.keeps C.st
  have k0 : PySem.Challenge.rw_if0027_01 = PySem.Challenge.rw_if0027_01:=rfl
  revert X0 k0;k_fill;intro X0 k0;clear k0
  intro g L h F N X T kG
  clear X0
  dsimp only [lamBody,lamEnv,lamScope,lamParams]
  k_steps
  all_goals exact ⟨_,by assumption,fun kp=>hret _ _ _ kp⟩
end

end
section
set_option maxRecDepth 100000
section
variable {w : World} {mean : ExcName → Option Value} {mg mb : Str → Option Value} {h₀ : Heap} {s : Shared} {dp un : Nat} {fr : Option (List Env)} {gd : Option (List Code)} {E : Value → Shared → Prop} {Q : Value → Shared → Prop}
  {L D : Addr} {m:Str → Option Value} {news news' : List (Addr × Obj)} {n:Nat}
theorem fr_all (F : Fr h₀ L s.heap m) {h' : Heap} (k : KeepsAll s.heap h') : Fr h₀ L h' m := F.keeps k
theorem news_all (N : News h₀ L s.heap news) {h' : Heap} (k : KeepsAll s.heap h') : News h₀ L h' news := fun p hp=>⟨k _ _ (N p hp).1,(N p hp).2⟩
theorem sorted_lam_K {S f c' : Addr} {hs : Int} {p : Nat} {tag : Str} {tt : Tok} {qual : Str} {pm ctv : Value} {oc : Obj} {vs : Array Value} {t : Tok} (X : (Mine.hd.heap_1 w.params).In h₀) (T : Top topProg Lz mean mg mb h₀) (F : Fr h₀ L s.heap m) (N : News h₀ L s.heap news)
    (hS : (S,set1 hs (.str tag tt) p (ledOf w)) ∈ news) (hf : (f,kla_obj (Str.ofString "<lambda>") qual lamParams lamBody lamScope [] pm c' ctv) ∈ news) (hoc : (c',oc) ∈ news) (hd : oc.data = .fields vs) (hv : vs[1]? = some (.str qual t))
    (htag : tag.length = 1) (hroom : dp + 6 < recursionLimit) (hu : un + 20 < cLine)
    (h : ∀ D h' tk c',Fr h₀ L h' m → News h₀ L h' ((D,listOf #[.str tag tt] c') :: news) → (∀ q ∈ news,q.1 < D) → Q (.ref D) { s with heap:=h',toks:=tk }) :
    wpAny (model P0 w) (Ar dp fr gd un) (call (.builtin "sorted") [.ref S] [(Str.ofString "key",.ref f)]) Q E s:=by
  refine sorted_set1 rfl (N _ hS).1 (fun h1 k1 Q' E' hq=>?_) fun D h' tk c'' k hlt hD=>?_
  · refine lam_spec (tag := tag) (tt := tt) (mean := mean) (mg := mg) (mb := mb) (h₀ := h₀) (s := { s with heap := h1 }) ⟨X, T, fun b o e => k1 b o (F.keep b o e), fun _ h => nomatch h⟩ ?_ ?_ htag (k1 _ _ (N _ hf).1) ⟨c', oc, vs, t, rfl, k1 _ _ (N _ hoc).1, hd, hv⟩ fun k h'' tk hk => hq k h'' tk hk
    · simp only [Around.in1];omega
    · simp only [Around.in1];omega
  · have hL : L < D := by refine obEEEA F.ns ?_; intro o _ _ ho _; exact hlt _ _ ho
    refine h D h' tk c'' (fr_all F k) (fun q hq=>?_) (fun q hq=>hlt _ _ (N q hq).1)
    rcases List.mem_cons.mp hq with rfl | hq
    · exact ⟨hD,not_base F hL⟩
    · exact news_all N k q hq
end

end
section
set_option maxRecDepth 100000
section
namespace W3k
noncomputable def PP (P : Addr) (q : Addr) (dx : Addr) (x : Addr) (d : Addr) (tup : Addr) (x0 : Addr) (ns : Addr) (st : Addr) (im : Addr) (e0 : Addr) (pm : Addr) (ps : Addr) (pc : SV) (pn : Nat) (da : SV) (dn : Nat) (es : List Addr) (en : Nat) (sv : List Value) (sn : Nat) (k : Nat) (kn : Nat) (rs : Bool) (rd : Bool) (c : Nat) (mo : Obj) (T : WT) (w : World) (mean : ExcName → Option Value) (mg : Str → Option Value) (mb : Str → Option Value) (h₀ : Heap) (s : Shared) (dp : Nat) (un : Nat) (fr : Option (List Env)) (gd : Option (List Code)) (R : Result → Shared → Prop) (g : Heap) (L : Addr) (h : Heap) (tk0 : Tok) : Prop :=
  ∀ (C : Cx w mean mg mb h₀ s (wLed w.params (⟨P, q, dx, x, d, tup, x0, ns, st, im, e0, pm, ps⟩ : WA) T (⟨pc, pn, da, dn, es, en, sv, sn, k, kn, rs, rd, c, mo⟩ : WV))) (hd : dp + 5 < recursionLimit) (hu : un + 8 < cLine) (hO : WOrd (⟨P, q, dx, x, d, tup, x0, ns, st, im, e0, pm, ps⟩ : WA)) (hes : ∀ e ∈ es, s.heap.get? e = some (listOf #[] 0) ∧ e ∉ wAddrs (⟨P, q, dx, x, d, tup, x0, ns, st, im, e0, pm, ps⟩ : WA)) (tag : Str) (tt : Tok) (htag : tag.length = 1) (hbr : (Txt.slice tag none (some 1) == Str.ofString "{") = false) (hfew : es.length < 1000) (hret : ∀ a t1 t2 t3 h' tk' gs', h'.get? a = some { cls := .type "tuple", data := .seq #[.str tag t1, .str tag t2, .str (Str.ofString "") t3] } → s.heap.get? a = none → (∀ p ∈ wLed w.params (⟨P, q, dx, x, d, tup, x0, ns, st, im, e0, pm, ps⟩ : WA) T (⟨pc, pn, da, dn, es, en, sv, sn, k, kn, rs, rd, c, mo⟩ : WV), h'.get? p.1 = some p.2) →
    (AllBare s.gens → AllBare gs') → Keep (wAddrs (⟨P,q,dx,x,d,tup,x0,ns,st,im,e0,pm,ps⟩ : WA)) s { s with heap:=h',gens:=gs',toks:=tk' } → R (.ok (.ret (.ref a))) { s with heap:=h',gens:=gs',toks:=tk' }),
  BGoal wpAny w mean mg mb s (wLed w.params (⟨P,q,dx,x,d,tup,x0,ns,st,im,e0,pm,ps⟩ : WA) T (⟨pc,pn,da,dn,es,en,sv,sn,k,kn,rs,rd,c,mo⟩ : WV)) dp un fr gd 90 [(Str.ofString "self",.ref x),(Str.ofString "qname",.str tag tt),(Str.ofString "uri",.none)] (fun v s'=>R (.ok (.ret v)) s') g L h tk0
noncomputable def F := ucr fun P=>ucr fun q=>ucr fun dx=>ucr fun x=>ucr fun d=>ucr fun tup=>ucr fun x0=>ucr fun ns=>ucr fun st=>ucr fun im=>ucr fun e0=>ucr fun pm=>ucr fun ps=>ucr fun pc=>ucr fun pn=>ucr fun da=>ucr fun dn=>ucr fun es=>ucr fun en=>ucr fun sv=>ucr fun sn=>ucr fun k=>ucr fun kn=>ucr fun rs=>ucr fun rd=>ucr fun c=>ucr fun mo=>ucr fun T=>ucr fun w=>ucr fun mean=>ucr fun mg=>ucr fun mb=>ucr fun h₀=>ucr fun s=>ucr fun dp=>ucr fun un=>ucr fun fr=>ucr fun gd=>ucr fun R=>ucr fun g=>ucr fun L=>ucr fun h tk0=>PP P q dx x d tup x0 ns st im e0 pm ps pc pn da dn es en sv sn k kn rs rd c mo T w mean mg mb h₀ s dp un fr gd R g L h tk0
noncomputable section
@[irreducible] def zz := eps ((0),(0),(0),(0),(0),(0),(0),(0),(0),(0),(0),(0),(0),([]),(0),([]),(0),([]),(0),([]),(0),(0),(0),(false),(false),(0),(listOf #[] 0),(⟨0,0,0,0,0,0,0,0,0,0,0,0,0,0,0,0,0,0,0,0⟩),d0R) F
@[irreducible] def P := zz.1
@[irreducible] def q := zz.2.1
@[irreducible] def dx := zz.2.2.1
@[irreducible] def x := zz.2.2.2.1
@[irreducible] def d := zz.2.2.2.2.1
@[irreducible] def tup := zz.2.2.2.2.2.1
@[irreducible] def x0 := zz.2.2.2.2.2.2.1
@[irreducible] def ns := zz.2.2.2.2.2.2.2.1
@[irreducible] def zz8 := zz.2.2.2.2.2.2.2.2
@[irreducible] def st := zz8.1
@[irreducible] def im := zz8.2.1
@[irreducible] def e0 := zz8.2.2.1
@[irreducible] def pm := zz8.2.2.2.1
@[irreducible] def ps := zz8.2.2.2.2.1
@[irreducible] def pc := zz8.2.2.2.2.2.1
@[irreducible] def pn := zz8.2.2.2.2.2.2.1
@[irreducible] def da := zz8.2.2.2.2.2.2.2.1
@[irreducible] def zz16 := zz8.2.2.2.2.2.2.2.2
@[irreducible] def dn := zz16.1
@[irreducible] def es := zz16.2.1
@[irreducible] def en := zz16.2.2.1
@[irreducible] def sv := zz16.2.2.2.1
@[irreducible] def sn := zz16.2.2.2.2.1
@[irreducible] def k := zz16.2.2.2.2.2.1
@[irreducible] def kn := zz16.2.2.2.2.2.2.1
@[irreducible] def rs := zz16.2.2.2.2.2.2.2.1
@[irreducible] def zz24 := zz16.2.2.2.2.2.2.2.2
@[irreducible] def rd := zz24.1
@[irreducible] def c := zz24.2.1
@[irreducible] def mo := zz24.2.2.1
@[irreducible] def T := zz24.2.2.2.1
@[irreducible] def w := zz24.2.2.2.2.1
@[irreducible] def mean := zz24.2.2.2.2.2.1
@[irreducible] def mg := zz24.2.2.2.2.2.2.1
@[irreducible] def mb := zz24.2.2.2.2.2.2.2.1
@[irreducible] def zz32 := zz24.2.2.2.2.2.2.2.2
@[irreducible] def h₀ := zz32.1
@[irreducible] def s := zz32.2.1
@[irreducible] def dp := zz32.2.2.1
@[irreducible] def un := zz32.2.2.2.1
@[irreducible] def fr := zz32.2.2.2.2.1
@[irreducible] def gd := zz32.2.2.2.2.2.1
@[irreducible] def R := zz32.2.2.2.2.2.2.1
@[irreducible] def g := zz32.2.2.2.2.2.2.2.1
@[irreducible] def zz40 := zz32.2.2.2.2.2.2.2.2
@[irreducible] def L := zz40.1
@[irreducible] def h := zz40.2.1
@[irreducible] def tk0 := zz40.2.2
end
theorem core : PP P q dx x d tup x0 ns st im e0 pm ps pc pn da dn es en sv sn k kn rs rd c mo T w mean mg mb h₀ s dp un fr gd R g L h tk0 := by
  k_with_none
  k_with "M.in" => ((case k1=>assumption);(case k6=>k_is);(case k7=>k_is);(case k8=>omega);(case k9=>first | exact BindsTo.of_eq rfl | exact binds_K (by k_in) rfl (by k_is) rfl rfl rfl | (refine' kp_binds (by k_in) (by exact fun _=>rfl)));(case c5=>decide);(case kB=>exact locs rfl);(case c2=>exact rfl);(case c3=>exact rfl);(case c4=>exact rfl);k_whole)
  k_with "execs cons" => (refine wpAny_execs_cons ?_;k_fold)
  k_with "exec For Tuple Call cons nil" => (k_dflt (refine' for_gen rfl (by (dsimp only [Around.deeper];omega)) ?_ (by intro _;rfl)))
  k_with "call ref" => ((with_reducible show wpAny _ _ (call (Value.ref 75) _) _ _ _);k_dflt (refine' call_iterns_K (by (dsimp only [Around.deeper];omega)) (by k_asm) (by k_asm) (by assumption) (by exact Top.nolimit (by assumption)) ?_;intro _ _ _ _ _ _ _ _ _ _ _ _ _ _ _ _ _ _ _ _ _ _ _;(try k_sweep)))
  intro C hd hu hO hes tag tt htag hbr hfew hret F N X T kG lG eL
  obtain ⟨o1,o2,o3,o4,o5,o6,o7,o8,o9⟩:=hO
  dsimp only [wLed,wAddrs] at C o1 o2 o3 o4 o5 o6 o7 o8 o9 hes hfew ⊢
  k_lt2 o1;k_lt2 o2;k_lt2 o3;k_lt2 o4;k_lt2 o5;k_lt2 o6;k_lt2 o7;k_lt2 o8;k_lt2 o9
  have k0 : PySem.Challenge.rw_if0027_01 = PySem.Challenge.rw_if0027_01:=rfl
  revert X k0;k_fill;intro X k0;clear k0
  k_dflt (refine' bg_use ?k6 ?_;(case k6=>k_is);k_whole)
  dsimp only [wLed,wAddrs] at N kG lG ⊢
  k_lt lG
  (try dsimp only)
  k_steps
  · (rename Fr _ _ _ _ => F2); (rename News _ _ _ _ => N2); (rename GE _ _ _ _ _ _ => hge); (rename Heap.Ns _ _ _ => hns); (rename ∀ h'' : Heap, _ → Heap.IsGen _ _ _ => hgen); (rename _ = _ + 2 => hsz); (rename LtA _ _ => hlt); (rename L < Env.locals _ => hLt)
    refine' GTurn.intro (l:=ns) (xl:=x0) (items:=(.ref x0 :: es.map Value.ref).toArray) (t:=tup) ?rd ?turn
    case rd=>
      refine ⟨hgen _ (at_of N2 (.head _)),Array.getElem?_push_size,hge,hns,⟨⟨_,at_of N2 (by k_mem),rfl,_,rfl⟩,rfl,⟨_,at_of N2 (by k_mem),rfl,_,rfl⟩,?_⟩,?_,(Top.nolimit (by assumption)).keeps F2.keep⟩
      · intro j h1 h2
        obtain ⟨j,rfl⟩ : ∃ i,j = i + 1:=⟨j - 1,by omega⟩
        simp only [List.size_toArray,List.length_cons,List.length_map] at h2
        have hj : j < es.length:=by omega
        refine ⟨es[j],by simp [hj],?_⟩
        refine obA (hes es[j] (List.getElem_mem hj)) ?_;intro a1 a2
        exact ⟨_,F2.keep _ _ (kG _ _ a1 a2),rfl,_,rfl⟩
      · simp only [List.size_toArray,List.length_cons,List.length_map];omega
    case turn=>
      intro h₂ tk₂ gs' I oI J oJ hk hzI hIJ hI hJ
      refine obA (turn_ledger F2 N2 hlt hLt hsz hk hzI hIJ hI hJ) ?_;intro F3 N3
      clear F2 N2
      have hzI2:=hzI
      dsimp only at hzI2
      rw [hsz] at hzI2
      k_lt2 hIJ
      have hlt2:=hlt
      unfold LtA at hlt2
      k_lt hlt2
      k_steps
      (rename Fr _ _ _ _=>F4);(rename News _ _ _ _=>N4)
      refine' ⟨rfl,?_,?_,?_,?_,?_,?_,rfl,?_⟩
      · exact at_of N4 (by k_mem)
      · exact at_of N4 (by k_mem)
      · exact ⟨_,at_of N4 (by k_mem),rfl,_,rfl⟩
      · exact ⟨_,at_of N4 (by k_mem),rfl,_,rfl⟩
      · exact hgen _ (at_of N4 (by k_mem))
      · exact (Top.nolimit (by assumption)).keeps F4.keep
      intro h₄ tk₄ hk4
      refine obA (done_ledger3 F4 N4 hLt hsz hk4 (by simp only [AllLt,and_true];exact hlt2)) ?_;intro F5 N5
      clear F4 N4
      k_steps
      (rename Fr _ _ _ _=>F6);(rename News _ _ _ _=>N6)
      refine Leave.intro F6 fun kp=>?_
      refine hret _ _ _ _ _ _ _ (at_of N6 (.head _)) (fresh_of N6 (.head _) kG ?_) ?_ ?_ kp
      · simp only [List.map_cons,List.map_nil,List.mem_cons,List.not_mem_nil,or_false,not_or];refine ⟨neN ?_,neN ?_,neN ?_,neN ?_,neN ?_,neN ?_,neN ?_,neN ?_,neN ?_,neN ?_⟩ <;> omega
      · intro p hp;exact (N6 p (.tail _ (.tail _ (.tail _ hp)))).1
      · intro h;exact bare_done h
theorem all : ∀ d,F d := eps_all (by with_unfolding_all exact core)
end W3k
theorem qname_code {w : World} {mean : ExcName → Option Value} {mg mb : Str → Option Value} {h₀ : Heap} {s : Shared} {dp un : Nat} {fr : Option (List Env)} {gd : Option (List Code)} {R : Result → Shared → Prop}
  {A:WA} {T:WT} {V:WV}
  (C:Cx w mean mg mb h₀ s (wLed w.params A T V)) (hd : dp + 5 < recursionLimit) (hu : un + 8 < cLine) (hO : WOrd A) 
  (hes : ∀ e ∈ V.es,s.heap.get? e = some (listOf #[] 0) ∧ e ∉ wAddrs A) {tag : Str} {tt : Tok} (htag : tag.length = 1) (hbr : (Txt.slice tag none (some 1) == Str.ofString "{") = false) (hfew : V.es.length < 1000)
  (hret : ∀ a t1 t2 t3 h' tk' gs',h'.get? a = some { cls:=.type "tuple",data:=.seq #[.str tag t1,.str tag t2,.str (Str.ofString "") t3] } → s.heap.get? a = none → (∀ p ∈ wLed w.params A T V,h'.get? p.1 = some p.2) →
    (AllBare s.gens → AllBare gs') → Keep (wAddrs A) s { s with heap:=h',gens:=gs',toks:=tk' } → R (.ok (.ret (.ref a))) { s with heap:=h',gens:=gs',toks:=tk' })
  :
  codeAny (model P0 w) (Ar dp fr gd un) (.call (.ref 90) ⟨[.ref A.x,.str tag tt],[]⟩) R s:=by
  have X0:=C.X.keeps C.st
  have k0 : PySem.Challenge.rw_if0027_01 = PySem.Challenge.rw_if0027_01:=rfl
  revert X0 k0;k_fill;intro X0 k0;clear k0
  k_dflt (refine' enter_code (binds:=[(Str.ofString "self",.ref A.x),(Str.ofString "qname",.str tag tt),(Str.ofString "uri",.none)]) ?k1 ?k6 ?k7 ?k8 ?k9 ?kB ?_ ?c2 ?c3 ?c4 ?c5;k_extra "M.in")
  intro g L h F N X TPx kG lG eL
  refine' fn_get (W3k.all (A.P,A.q,A.dx,A.x,A.d,A.tup,A.x0,A.ns,A.st,A.im,A.e0,A.pm,A.ps,V.pc,V.pn,V.da,V.dn,V.es,V.en,V.sv,V.sn,V.k,V.kn,V.rs,V.rd,V.c,V.mo,T,w,mean,mg,mb,h₀,s,dp,un,fr,gd,R,g,L,h,_) C hd hu hO hes tag tt htag hbr hfew hret F N X TPx kG lG eL) ?ko
  case ko=>k_is
noncomputable abbrev qTup (tag : Str) (t1 t2 t3 : Tok) : Obj := { cls := .type "tuple",data := .seq #[.str tag t1,.str tag t2,.str (Str.ofString "") t3] }
theorem qname_all {w : World} {mean : ExcName → Option Value} {mg mb : Str → Option Value} {h₀ : Heap} {s : Shared} {dp un : Nat} {fr : Option (List Env)} {gd : Option (List Code)} {R : Result → Shared → Prop} {A : WA} {T : WT} {V : WV}
    (C:Cx w mean mg mb h₀ s (wLed w.params A T V)) (hd : dp + 5 < recursionLimit) (hu : un + 8 < cLine) (hO : WOrd A)
    (hes : ∀ e ∈ V.es,s.heap.get? e = some (listOf #[] 0) ∧ e ∉ wAddrs A) {tag : Str} {tt : Tok} (htag : tag.length = 1) (hbr : (Txt.slice tag none (some 1) == Str.ofString "{") = false) (hfew : V.es.length < 1000)
    (h : ∀ a t1 t2 t3 h' tk' gs',(∀ b o,s.heap.get? b = some o → h'.get? b = some o) → h'.get? a = some (qTup tag t1 t2 t3) → s.heap.get? a = none → (AllBare s.gens → AllBare gs') → R (.ok (.ret (.ref a))) { s with heap:=h',gens:=gs',toks:=tk' }) :
    codeAny (model P0 w) (Ar dp fr gd un) (.call (.ref 90) ⟨[.ref A.x,.str tag tt],[]⟩) R s:=by
  refine qname_code C hd hu hO hes htag hbr hfew fun a t1 t2 t3 h' tk' gs' ha hn hw hb hk=>h a t1 t2 t3 h' tk' gs' (fun b o e=>?_) ha hn hb
  by_cases hm : b ∈ (wLed w.params A T V).map (·.1)
  · refine obEA (List.mem_map.mp hm) ?_; intro p hp oR2; subst oR2
    have:=(C.U p hp).1
    rw [e] at this;cases this
    exact hw p hp
  · exact hk b o e hm
end

end
section
set_option maxRecDepth 100000
noncomputable def AllNe (d : Nat) : List (Addr × Obj) → Prop
  | []=>True
  | p :: r=>@Ne Nat p.1 d ∧ AllNe d r
theorem allNe_of {d : Addr} : ∀ {l : List (Addr × Obj)},(∀ p ∈ l,p.1 ≠ d) → AllNe d l
  | [],_=>trivial
  | p :: _,h=>⟨h p (.head _),allNe_of fun q hq=>h q (.tail _ hq)⟩
structure PQ (w : World) (mean : ExcName → Option Value) (mg mb : Str → Option Value) (h₀ : Heap) (L : Addr) (y : Str) (cq : Addr) (A : WA) (T : WT) (V : WV) (tag : Str) (Q : Flow → Shared → Prop) (xv : Value) (s₁ : Shared) (m : Str → Option Value) (news : List (Addr × Obj)) (lst : Addr) (tt : Tok) (c : Nat) (ocq : Obj) (mq : Addr) : Prop where
  xv : xv = .ref lst
  F : Fr h₀ L s₁.heap m
  N : News h₀ L s₁.heap news
  xk : (Mine.hd.heap_1 w.params).In h₀
  tp : Top topProg Lz mean mg mb h₀
  hl : (lst,listOf #[.str tag tt] c) ∈ news
  hcq : (cq,ocq) ∈ news
  hcd : ocq.data = .cell (some (.ref mq))
  hmq : (mq,methodObj (.ref 90) (.ref A.x)) ∈ news
  hw : ∀ p ∈ wLed w.params A T V,p ∈ news
  hO : WOrd A
  hes : ∀ e ∈ V.es,s₁.heap.get? e = some (listOf #[] 0) ∧ e ∉ wAddrs A
  hfew : V.es.length < 1000
  cont : ∀ a t1 t2 t3 D oD h' tk' gs',Fr h₀ L h' (fun z=>if z = y then some (.ref D) else m z) → News h₀ L h' ((a,qTup tag t1 t2 t3) :: (D,oD) :: news) → oD.IsDictOf (PySem.strKind P0 w) [(tag,.ref a)] → (∀ p ∈ news,p.1 < D) → (∀ p ∈ news,p.1 ≠ a) → @Ne Nat D a → (AllBare s₁.gens → AllBare gs') →
    Q .next { s₁ with heap:=h',gens:=gs',toks:=tk' }

noncomputable abbrev dcE (n pq : Str) (px p1 p2 p3 pk : Pos) (iter : Expr) (cscope : Scope) (pos : Pos) : Expr := .DictComp (.Name n pk) (.Call (.Name pq p1) [.Name n p2] [] p3) [⟨.Name n px,iter,[],0⟩] cscope pos
namespace S9k
noncomputable def PP (w : World) (mean : ExcName → Option Value) (mg : Str → Option Value) (mb : Str → Option Value) (h₀ : Heap) (s : Shared) (dp : Nat) (un : Nat) (fr : Option (List Env)) (gd : Option (List Code)) (env : Env) (y : Str) (n : Str) (pq : Str) (py : Pos) (px : Pos) (p1 : Pos) (p2 : Pos) (p3 : Pos) (pk : Pos) (pos : Pos) (spos : Pos) (iter : Expr) (cscope : Scope) (cl : List (Str × Addr)) (cq : Addr) (A : WA) (T : WT) (V : WV) (tag : Str) (Q : Flow → Shared → Prop) : Prop :=
  ∀ (hsw : swapsWith (dcE n pq px p1 p2 p3 pk iter cscope pos) (some (.Name y py)) spos.line env = pure true) (hclos : closureFor cscope env = pure cl) (hcell : ∀ z ∈ cscope.names,z.2 ≠ .cell) (hkind : cscope.kind = .function) (hnames : ∀ z ∈ cscope.names,z.2 = .local → cscope.names.lookup z.1 = some .local) (hx : cscope.names.lookup n = some .local) (hpq : (relabel cscope env).names.lookup pq = some .cell) (hclq : cl.lookup pq = some cq) (hy : env.kindOf y = some .local) (hp : (env.scope.kind == .class || (env.scope.kind == .module && env.locals != env.globals)) = false) (hdn : (n == ("__debug__" : Str)) = false) (hdq : (pq == ("__debug__" : Str)) = false) (hd : dp + 6 < recursionLimit) (hu : un + 20 < cLine) (htag : tag.length = 1) (hbr : (Txt.slice tag none (some 1) == Str.ofString "{") = false) (hit : wpAny (model P0 w) (Ar dp fr gd un) (eval iter env) (fun xv s₁=>∃ m news lst tt c ocq mq,PQ w mean mg mb h₀ env.locals y cq A T V tag Q xv s₁ m news lst tt c ocq mq) (fun _ _=>False) s) (hs : ∀ x,foldedSetIterable iter env x = pure x),
  wpAny (model P0 w) (Ar dp fr gd un) (exec (.Assign [.Name y py] (dcE n pq px p1 p2 p3 pk iter cscope pos) spos) env) Q (fun _ _=>False) s
noncomputable def F := ucr fun w=>ucr fun mean=>ucr fun mg=>ucr fun mb=>ucr fun h₀=>ucr fun s=>ucr fun dp=>ucr fun un=>ucr fun fr=>ucr fun gd=>ucr fun env=>ucr fun y=>ucr fun n=>ucr fun pq=>ucr fun py=>ucr fun px=>ucr fun p1=>ucr fun p2=>ucr fun p3=>ucr fun pk=>ucr fun pos=>ucr fun spos=>ucr fun iter=>ucr fun cscope=>ucr fun cl=>ucr fun cq=>ucr fun A=>ucr fun T=>ucr fun V=>ucr fun tag Q=>PP w mean mg mb h₀ s dp un fr gd env y n pq py px p1 p2 p3 pk pos spos iter cscope cl cq A T V tag Q
noncomputable section
@[irreducible] def zz := eps ((w0),(fun _=>none),(fun _=>none),(fun _=>none),({}),({}),(0),(0),(none),(none),(default),(Str.empty),(Str.empty),(Str.empty),(default),(default),(default),(default),(default),(default),(default),(default),(default),(default),([]),(0),(⟨0,0,0,0,0,0,0,0,0,0,0,0,0⟩),(⟨0,0,0,0,0,0,0,0,0,0,0,0,0,0,0,0,0,0,0,0⟩),(⟨[],0,[],0,[],0,[],0,0,0,false,false,0,listOf #[] 0⟩),(Str.empty),(fun _ _=>True)) F
@[irreducible] def w := zz.1
@[irreducible] def mean := zz.2.1
@[irreducible] def mg := zz.2.2.1
@[irreducible] def mb := zz.2.2.2.1
@[irreducible] def h₀ := zz.2.2.2.2.1
@[irreducible] def s := zz.2.2.2.2.2.1
@[irreducible] def dp := zz.2.2.2.2.2.2.1
@[irreducible] def un := zz.2.2.2.2.2.2.2.1
@[irreducible] def zz8 := zz.2.2.2.2.2.2.2.2
@[irreducible] def fr := zz8.1
@[irreducible] def gd := zz8.2.1
@[irreducible] def env := zz8.2.2.1
@[irreducible] def y := zz8.2.2.2.1
@[irreducible] def n := zz8.2.2.2.2.1
@[irreducible] def pq := zz8.2.2.2.2.2.1
@[irreducible] def py := zz8.2.2.2.2.2.2.1
@[irreducible] def px := zz8.2.2.2.2.2.2.2.1
@[irreducible] def zz16 := zz8.2.2.2.2.2.2.2.2
@[irreducible] def p1 := zz16.1
@[irreducible] def p2 := zz16.2.1
@[irreducible] def p3 := zz16.2.2.1
@[irreducible] def pk := zz16.2.2.2.1
@[irreducible] def pos := zz16.2.2.2.2.1
@[irreducible] def spos := zz16.2.2.2.2.2.1
@[irreducible] def iter := zz16.2.2.2.2.2.2.1
@[irreducible] def cscope := zz16.2.2.2.2.2.2.2.1
@[irreducible] def zz24 := zz16.2.2.2.2.2.2.2.2
@[irreducible] def cl := zz24.1
@[irreducible] def cq := zz24.2.1
@[irreducible] def A := zz24.2.2.1
@[irreducible] def T := zz24.2.2.2.1
@[irreducible] def V := zz24.2.2.2.2.1
@[irreducible] def tag := zz24.2.2.2.2.2.1
@[irreducible] def Q := zz24.2.2.2.2.2.2
end
noncomputable def half : {M : Shared → (Str → Option Value) → (List (Addr × Obj)) → Addr → Tok → Nat → Obj → Addr → Heap → Heap → Heap → Heap → Prop // (∀ s₁ m news lst tt c ocq mq h₁ H2 h₂ h₃,M s₁ m news lst tt c ocq mq h₁ H2 h₂ h₃) → PP w mean mg mb h₀ s dp un fr gd env y n pq py px p1 p2 p3 pk pos spos iter cscope cl cq A T V tag Q} := ⟨_,fun TT=>by
  intro hsw hclos hcell hkind hnames hx hpq hclq hy hp hdn hdq hd hu htag hbr hit hs
  rw [exec_Assign_Name_used _ _ _ _ hsw]
  refine wpAny_bind (wpAny_standAt (wpAny_bind ?_))
  show wpAny _ _ (do let _ ← comprehension (dcE n pq px p1 p2 p3 pk iter cscope pos) cscope env _ newDict false (eval iter env) (some (assign (.Name y py) env))) _ _ s
  refine wpAny_bind (wpAny_mono (wpAny_comprehension_free (use:=some (assign (.Name y py) env)) (Q:=fun _ s'=>Q .next s') rfl hs hclos hkind hnames
    (wpAny_mono hit (fun xv s₁ h₁=>?_) fun _ _ e=>e)) (fun _ s' hq=>wpAny_pure (wpAny_pure hq)) fun _ _ e=>e)
  refine Classical.byContradiction fun NG=>?_
  refine obEEEEEEE h₁ ?_;clear h₁;intro m news lst tt c ocq mq P
  refine NG ?_
  clear NG
  have hP:=P.xv
  subst hP
  have hl : s₁.heap.IsList lst #[.str tag tt]:=⟨_,at_of P.N P.hl,rfl,_,rfl⟩
  refine wpAny_pyIter_list hl ?_
  refine wpAny_newObj_type (wpAny_newFunctionEnv hcell (by intro y hy;simp at hy) (fun h₁ hns₁ hsb₁=>?_) hkind)
  dsimp only at hns₁ hsb₁ ⊢
  have hz1 : (s₁.heap.push { cls:=.type "list_iterator",data:=.fields #[.ref lst,.int 0 0] }).objs.size = s₁.heap.objs.size + 1:=Heap.size_push _ _
  have hz2 : ((s₁.heap.push { cls:=.type "list_iterator",data:=.fields #[.ref lst,.int 0 0] }).push { cls:=.type "dict",data:=.dict #[] }).objs.size = s₁.heap.objs.size + 2:=by rw [Heap.size_push,hz1]
  have ka2 : KeepsAll s₁.heap ((s₁.heap.push { cls:=.type "list_iterator",data:=.fields #[.ref lst,.int 0 0] }).push { cls:=.type "dict",data:=.dict #[] }):=fun b o e=>Heap.get?_push_of_some _ (Heap.get?_push_of_some _ e)
  have hi2 : ((s₁.heap.push { cls:=.type "list_iterator",data:=.fields #[.ref lst,.int 0 0] }).push { cls:=.type "dict",data:=.dict #[] }).IsListIter s₁.heap.objs.size lst 0:=⟨_,Heap.get?_push_of_some _ (Heap.get?_push_size _ rfl),rfl,rfl⟩
  have hd2 : ((s₁.heap.push { cls:=.type "list_iterator",data:=.fields #[.ref lst,.int 0 0] }).push { cls:=.type "dict",data:=.dict #[] }).DictOf (PySem.strKind P0 w) (s₁.heap.push { cls:=.type "list_iterator",data:=.fields #[.ref lst,.int 0 0] }).objs.size []:=Heap.DictOf.new _
  rw [hz1] at hd2
  rw [hz2] at hns₁ hsb₁
  rw [hz1,hz2]
  generalize (s₁.heap.push { cls:=.type "list_iterator",data:=.fields #[.ref lst,.int 0 0] }).push { cls:=.type "dict",data:=.dict #[] } = H2 at hns₁ hsb₁ hz2 ka2 hi2 hd2
  have oth : ∀ b o,b ≠ s₁.heap.objs.size + 2 → H2.get? b = some o → h₁.get? b = some o:=fun b o hb e=>hsb₁.extBut b o hb (Heap.get?_push_of_some _ e)
  have KA : KeepsAll s₁.heap h₁:=fun b o e=>oth b o (Nat.ne_of_lt (Nat.lt_succ_of_lt (Nat.lt_succ_of_lt (Heap.lt_size e)))) (ka2 b o e)
  have hIL : h₁.IsListIter s₁.heap.objs.size lst 0:=hi2.at fun o e=>oth _ o (Nat.ne_of_lt (Nat.lt_succ_of_lt (Nat.lt_succ_self _))) e
  have hDO : h₁.DictOf (PySem.strKind P0 w) (s₁.heap.objs.size + 1) []:=hd2.at fun o e=>oth _ o (Nat.ne_of_lt (Nat.lt_succ_self _)) e
  clear hi2 hd2 ka2 oth hsb₁
  show codeAny _ _ (.compStart (dcE n pq px p1 p2 p3 pk iter cscope pos) 0 (.ref s₁.heap.objs.size) (.ref (s₁.heap.objs.size + 1)) (compEnvC cscope cl (s₁.heap.objs.size + 2) env)) (compPost (model P0 w) (Ar dp fr gd un) (fun _ _=>False) (some (assign (.Name y py) env)) (fun _ s'=>Q .next s') (.ref (s₁.heap.objs.size + 1)) (s₁.heap.objs.size + 2)) { s₁ with heap:=h₁,toks:=s₁.toks + 0 }
  have loop : codeAny (model P0 w) (Ar dp fr gd un) (.compLoop (dcE n pq px p1 p2 p3 pk iter cscope pos) 0 (.ref s₁.heap.objs.size) (.ref (s₁.heap.objs.size + 1)) (compEnvC cscope cl (s₁.heap.objs.size + 2) env)) (compPost (model P0 w) (Ar dp fr gd un) (fun _ _=>False) (some (assign (.Name y py) env)) (fun _ s'=>Q .next s') (.ref (s₁.heap.objs.size + 1)) (s₁.heap.objs.size + 2)) { s₁ with heap:=h₁,toks:=s₁.toks + 0 }:=by
    have hLs : env.locals < s₁.heap.objs.size:=P.F.ns.lt
    refine codeAny_compLoop_testsD (fun k s'=>(k = 1 ∧ s' = { s₁ with heap:=h₁,toks:=s₁.toks + 0 }) ∨ (k = 0 ∧ ∃ a t1 t2 t3 h₆ tk gs',s' = { s₁ with heap:=h₆,gens:=gs',toks:=tk } ∧ KeepsAll s₁.heap h₆ ∧ h₆.IsListIter s₁.heap.objs.size lst 1 ∧
      (∃ m',h₆.Ns (s₁.heap.objs.size + 2) m') ∧ h₆.DictOf (PySem.strKind P0 w) (s₁.heap.objs.size + 1) [(tag,.ref a)] ∧ h₆.get? a = some (qTup tag t1 t2 t3) ∧ h₁.get? a = none ∧ (AllBare s₁.gens → AllBare gs'))) (fun k s' hI=>?_) 1 (.inl ⟨rfl,rfl⟩)
    rcases hI with ⟨rfl,rfl⟩ | ⟨rfl,a,t1,t2,t3,h₆,tk,gs',rfl,K6,hit6,⟨m',hn6⟩,hd6,ha6,ha1ne,hb6⟩
    · refine wpAny_pyNext_list_item hIL (hl.at fun o e => KA _ o e) rfl fun h₂ hi₂ hs₂ => ?_
      have hne : s₁.heap.objs.size + 2 ≠ s₁.heap.objs.size:=by omega
      refine wpAny_assign_Name (wpAny_storeName_local (lookup_relabel_local hx) (hns₁.at' fun o e=>(hs₂.2 _ hne).trans e) (fun h₃ hn₃ hs₃=>?_) (by simp [compEnvC,relabel,hkind]))
      have K3 : KeepsAll s₁.heap h₃:=fun b o e=>(hs₃.2 _ (Nat.ne_of_lt (Nat.lt_succ_of_lt (Nat.lt_succ_of_lt (Heap.lt_size e))))).trans ((hs₂.2 _ (Nat.ne_of_lt (Heap.lt_size e))).trans (KA b o e))
      rw [List.forIn_nil]
      refine wpAny_pure ?_
      rw [if_pos rfl]
      have hsc : (compEnvC cscope cl (s₁.heap.objs.size + 2) env).scope.kind = .function:=hkind
      rw [eval_Name _ n pk hdn]
      refine wpAny_bind (wpAny_standAt (wpAny_loadName_local (v:=.str tag tt) hsc (lookup_relabel_local hx) hn₃ (by simp) ?_))
      rw [arm_eval_Call_Name',eval_Name _ pq p1 hdq]
      have hcell3 : h₃.IsCell cq (some (.ref mq)):=⟨_,K3 _ _ (at_of P.N P.hcq),P.hcd⟩
      refine wpAny_bind (wpAny_bind (wpAny_standAt (wpAny_loadName_cell hsc hpq hclq hcell3 ?_)))
      have N3:=news_all P.N K3
      have F3:=fr_all P.F K3
      clear hcell3 hLs hl
      revert hkind hx hdn hd hu htag hbr P KA hDO hi₂ hs₂ hne hn₃ hs₃ K3 hsc N3 F3
      exact TT s₁ m news lst tt c ocq mq h₁ H2 h₂ h₃
    · refine wpAny_pyNext_list_end rfl hit6 (hl.at fun o e => K6 _ o e) rfl fun h₇ hx7 => ?_
      have hsz : ∀ (b:Nat) o,s₁.heap.get? b = some o → b < s₁.heap.objs.size:=fun b o e=>Heap.lt_size e
      have hLsN:=ltN hLs
      have K7 : KeepsAll s₁.heap h₇:=fun b o e=>hx7 b o (Nat.ne_of_lt (hsz b o e)) (K6 b o e)
      have hLC : env.locals ≠ s₁.heap.objs.size + 2:=neN (by omega)
      show wpAny _ _ (assign (.Name y py) env (.ref (s₁.heap.objs.size + 1))) _ _ _
      refine wpAny_assign_Name (wpAny_storeName_local hy (P.F.ns.at' fun o e=>K7 _ o e) (fun h₈ hn₈ hs₈=>?_) hp)
      refine ⟨m',(hn6.at' fun o e=>hx7 _ o (neN (by omega)) e).sameBut hs₈ hLC.symm,fun h₉ hs₉=>?_⟩
      refine Classical.byContradiction fun NG=>?_
      refine obEA (Heap.dictOf_iff.mp hd6) ?_;intro oD hoD hisD
      refine NG ?_
      clear NG
      have up : ∀ b o,b ≠ env.locals → b ≠ s₁.heap.objs.size + 2 → b ≠ s₁.heap.objs.size → h₆.get? b = some o → h₉.get? b = some o:=fun b o h1 h2 h3 e=>(hs₉.2 _ h2).trans ((hs₈.2 _ h1).trans (hx7 b o h3 e))
      have up1 : ∀ b o,b ≠ env.locals → s₁.heap.get? b = some o → h₉.get? b = some o:=fun b o h1 e=>up b o h1 (neN (by have:=hsz b o e;omega)) (neN (by have:=hsz b o e;omega)) (K6 b o e)
      have haN : ∀ b o,s₁.heap.get? b = some o → b ≠ a:=fun b o e h=>by
        subst h
        have:=KA _ _ e
        rw [ha1ne] at this;cases this
      have hLa : env.locals ≠ a:=by
        refine Classical.byContradiction fun NG=>?_
        refine obEEEA P.F.ns ?_;intro o _ _ ho _
        refine NG ?_
        clear NG
        exact haN _ _ ho
      have ha2 : a ≠ s₁.heap.objs.size:=by
        rintro rfl
        refine Classical.byContradiction fun NG=>?_
        refine obEA hIL ?_;clear hIL;intro o ho _
        refine NG ?_
        clear NG
        rw [ha1ne] at ho;cases ho
      have ha3 : a ≠ s₁.heap.objs.size + 2:=by
        rintro rfl
        refine Classical.byContradiction fun NG=>?_
        refine obEEEA hns₁ ?_;clear hns₁;intro o _ _ ho _
        refine NG ?_
        clear NG
        rw [ha1ne] at ho;cases ho
      have ha4 : s₁.heap.objs.size + 1 ≠ a:=by
        rintro rfl
        refine Classical.byContradiction fun NG=>?_
        refine obEA (Heap.dictOf_iff.mp hDO) ?_;intro o ho _
        refine NG ?_
        clear NG
        rw [ha1ne] at ho;cases ho
      have base : ∀ b o,h₀.get? b = some o → b ≠ env.locals:=fun b o e=>Nat.ne_of_lt (Nat.lt_of_lt_of_le (Heap.lt_size e) P.F.above)
      refine P.cont a t1 t2 t3 (s₁.heap.objs.size + 1) oD h₉ _ gs' ⟨hn₈.sameBut hs₉ hLC,fun b o e=>up1 b o (base b o e) (P.F.keep b o e),P.F.above⟩ (fun q hq=>?_) hisD (fun q hq=>Nat.lt_succ_of_lt (hsz _ _ (P.N q hq).1)) (fun q hq=>haN _ _ (P.N q hq).1) ha4 hb6
      rcases List.mem_cons.mp hq with rfl | hq
      · refine ⟨up _ _ hLa.symm ha3 ha2 ha6, hLa.symm, ?_⟩
        cases e : h₀.get? a with
        | none=>rfl
        | some o=>exact absurd rfl (haN a o (P.F.keep _ _ e))
      rcases List.mem_cons.mp hq with rfl | hq
      · refine ⟨up _ _ (neN (by omega)) (neN (by omega)) (neN (by omega)) hoD, neN (by omega), ?_⟩
        cases e : h₀.get? (s₁.heap.objs.size + 1) with
        | none=>rfl
        | some o=>exact absurd (hsz _ _ (P.F.keep _ _ e)) (by omega)
      · exact ⟨up1 _ _ (P.N q hq).2.1 (P.N q hq).1,(P.N q hq).2⟩
  exact codeAny_compStart_dict loop (wpAny_pyIter_listiter hIL loop)⟩
namespace bq
noncomputable def F := ucr fun s₁=>ucr fun m=>ucr fun news=>ucr fun lst=>ucr fun tt=>ucr fun c=>ucr fun ocq=>ucr fun mq=>ucr fun h₁=>ucr fun H2=>ucr fun h₂ h₃=>half.1 s₁ m news lst tt c ocq mq h₁ H2 h₂ h₃
noncomputable section
@[irreducible] def zz := eps ({},(fun _=>none : Str → Option Value),[],0,0,0,listOf #[] 0,0,{},{},{},{}) F
@[irreducible] def s₁ := zz.1
@[irreducible] def m := zz.2.1
@[irreducible] def news := zz.2.2.1
@[irreducible] def lst := zz.2.2.2.1
@[irreducible] def tt := zz.2.2.2.2.1
@[irreducible] def c := zz.2.2.2.2.2.1
@[irreducible] def ocq := zz.2.2.2.2.2.2.1
@[irreducible] def mq := zz.2.2.2.2.2.2.2.1
@[irreducible] def zz8 := zz.2.2.2.2.2.2.2.2
@[irreducible] def h₁ := zz8.1
@[irreducible] def H2 := zz8.2.1
@[irreducible] def h₂ := zz8.2.2.1
@[irreducible] def h₃ := zz8.2.2.2
end
theorem core : half.1 s₁ m news lst tt c ocq mq h₁ H2 h₂ h₃ := by
  intro hkind hx hdn hd hu htag hbr P KA hDO hi₂ hs₂ hne hn₃ hs₃ K3 hsc N3 F3
  refine callWith_M P.xk N3 P.hmq (by rfl) ?_
  show wpAny _ _ (spliced [(false,eval (.Name n p2) _)]) _ _ _
  refine spliced_cons ?_
  rw [eval_Name _ n p2 hdn]
  refine wpAny_bind (wpAny_standAt (wpAny_loadName_local (v:=.str tag tt) hsc (lookup_relabel_local hx) hn₃ (by simp) ?_))
  refine spliced_nil ⟨methP N3 P.hmq (P.xk.keeps F3.keep),?_⟩
  refine call_meth N3 P.hmq ?_
  refine qname_all (tt:=tt) (V:=V) (Cx.of P.xk P.tp F3 N3 P.hw) (by omega) (by omega) P.hO (fun e he=>⟨K3 _ _ (P.hes e he).1,(P.hes e he).2⟩) htag hbr P.hfew fun a t1 t2 t3 h₄ tk₄ gs₄ k₄ ha₄ hn₄ hb₄=>?_
  have hDC : s₁.heap.objs.size + 1 ≠ s₁.heap.objs.size + 2:=by omega
  have hDI : s₁.heap.objs.size + 1 ≠ s₁.heap.objs.size:=by omega
  have hd4 : h₄.DictOf (PySem.strKind P0 w) (s₁.heap.objs.size + 1) []:=hDO.at fun o e=>k₄ _ o ((hs₃.2 _ hDC).trans ((hs₂.2 _ hDI).trans e))
  have haD : a ≠ s₁.heap.objs.size + 1:=by
    rintro rfl
    refine Classical.byContradiction fun NG=>?_
    refine obEA (Heap.dictOf_iff.mp hDO) ?_;intro o ho _
    refine NG ?_
    clear NG
    have:=(hs₃.2 _ hDC).trans ((hs₂.2 _ hDI).trans ho)
    rw [hn₄] at this;cases this
  have ha1 : h₁.get? a = none:=by
    cases e : h₁.get? a with
    | none=>rfl
    | some o =>
      by_cases h1 : a = s₁.heap.objs.size
      · subst h1
        refine Classical.byContradiction fun NG=>?_
        refine obEA hi₂ ?_;clear hi₂;intro oi hoi _
        refine NG ?_
        clear NG
        have:=(hs₃.2 _ hne.symm).trans hoi
        rw [hn₄] at this;cases this
      · by_cases h2 : a = s₁.heap.objs.size + 2
        · subst h2
          refine Classical.byContradiction fun NG=>?_
          refine obEEEA hn₃ ?_;clear hn₃;intro oi _ _ hoi _
          refine NG ?_
          clear NG
          have hn₄' : h₃.get? (s₁.heap.objs.size + 2) = none:=hn₄
          have hoi' : h₃.get? (s₁.heap.objs.size + 2) = some oi:=hoi
          rw [hn₄'] at hoi';cases hoi'
        · have := (hs₃.2 _ h2).trans ((hs₂.2 _ h1).trans e)
          rw [hn₄] at this;cases this
  refine wpAny_dictSet_pairs (knd:=PySem.strKind P0 w) (isStr_self tag tt) hd4 (fun h₅ hd5 hs₅=>?_) (Nat.zero_le _)
  refine ⟨0,Nat.zero_lt_one,.inr ⟨rfl,a,t1,t2,t3,h₅,_,gs₄,rfl,fun b o e=>?_,?_,?_,hd5,(hs₅.2 _ haD).trans ha₄,ha1,hb₄⟩⟩
  · exact (hs₅.2 _ (Nat.ne_of_lt (Nat.lt_succ_of_lt (Heap.lt_size e)))).trans (k₄ _ _ (K3 b o e))
  · exact hi₂.at fun o e=>(hs₅.2 _ hDI.symm).trans (k₄ _ _ ((hs₃.2 _ hne.symm).trans e))
  · exact ⟨_,(hn₃.at' fun o e=>k₄ _ o e).sameBut hs₅ hDC.symm⟩
theorem all : ∀ d,F d := eps_all (by with_unfolding_all exact core)
end bq
theorem core : PP w mean mg mb h₀ s dp un fr gd env y n pq py px p1 p2 p3 pk pos spos iter cscope cl cq A T V tag Q := half.2 fun s₁ m news lst tt c ocq mq h₁ H2 h₂ h₃=>bq.all (s₁,m,news,lst,tt,c,ocq,mq,h₁,H2,h₂,h₃)
theorem all : ∀ d,F d := eps_all (by with_unfolding_all exact core)
end S9k
section
variable {w : World} {mean : ExcName → Option Value} {mg mb : Str → Option Value} {h₀ : Heap} {s : Shared} {dp un : Nat} {fr : Option (List Env)} {gd : Option (List Code)} {L : Addr}

theorem assign_parsed {env : Env} {y n pq : Str} {py px p1 p2 p3 pk pos spos : Pos} {iter : Expr} {cscope : Scope} {cl : List (Str × Addr)} {cq : Addr} {A : WA} {T : WT} {V : WV} {tag : Str} {Q : Flow → Shared → Prop}
    (hsw : swapsWith (dcE n pq px p1 p2 p3 pk iter cscope pos) (some (.Name y py)) spos.line env = pure true) (hL : env.locals = L)
    (hclos : closureFor cscope env = pure cl) (hcell : ∀ z ∈ cscope.names,z.2 ≠ .cell) (hkind : cscope.kind = .function)
    (hnames : ∀ z ∈ cscope.names,z.2 = .local → cscope.names.lookup z.1 = some .local) (hx : cscope.names.lookup n = some .local)
    (hpq : (relabel cscope env).names.lookup pq = some .cell) (hclq : cl.lookup pq = some cq)
    (hy : env.kindOf y = some .local) (hp : (env.scope.kind == .class || (env.scope.kind == .module && env.locals != env.globals)) = false)
    (hdn : (n == ("__debug__" : Str)) = false) (hdq : (pq == ("__debug__" : Str)) = false)
    (hd : dp + 6 < recursionLimit) (hu : un + 20 < cLine) (htag : tag.length = 1) (hbr : (Txt.slice tag none (some 1) == Str.ofString "{") = false)
    (hit : wpAny (model P0 w) (Ar dp fr gd un) (eval iter env) (fun xv s₁=>∃ m news lst tt c ocq mq,PQ w mean mg mb h₀ L y cq A T V tag Q xv s₁ m news lst tt c ocq mq) (fun _ _=>False) s)
    (hs : ∀ x,foldedSetIterable iter env x = pure x) :
    wpAny (model P0 w) (Ar dp fr gd un) (exec (.Assign [.Name y py] (dcE n pq px p1 p2 p3 pk iter cscope pos) spos) env) Q (fun _ _=>False) s:=by
  subst hL
  exact S9k.all (w,mean,mg,mb,h₀,s,dp,un,fr,gd,env,y,n,pq,py,px,p1,p2,p3,pk,pos,spos,iter,cscope,cl,cq,A,T,V,tag,Q) hsw hclos hcell hkind hnames hx hpq hclq hy hp hdn hdq hd hu htag hbr hit hs
end

end
section
set_option maxRecDepth 100000
noncomputable def Hold (p : Prop) : Prop := p
theorem hold {p : Prop} (h : Hold p) : p := h
noncomputable def PQx (w : World) (mean : ExcName → Option Value) (mg mb : Str → Option Value) (h₀ : Heap) (L : Addr) (y : Str) (cq : Addr) (A : WA) (T : WT) (V : WV) (tag : Str) (Q : Flow → Shared → Prop) (xv : Value) (s₁ : Shared) : Prop :=
  ∃ m news lst tt c ocq mq,PQ w mean mg mb h₀ L y cq A T V tag Q xv s₁ m news lst tt c ocq mq
section
variable {w : World} {mean : ExcName → Option Value} {mg mb : Str → Option Value} {h₀ : Heap} {s : Shared} {dp un : Nat} {fr : Option (List Env)} {gd : Option (List Code)} {L D : Addr} {E : Value → Shared → Prop} {A : Around} {news news' : List (Addr × Obj)} {m : Str → Option Value} {n : Nat}
theorem append_vals {l : List Value} {x : Value} {Q : Value → Shared → Prop} (F : Fr h₀ L s.heap m) (N : News h₀ L s.heap news) (U : Upd D (listOf l.toArray n) (listOf (l ++ [x]).toArray (n + 1)) news news')
    (h : ∀ h',Fr h₀ L h' m → News h₀ L h' news' → Q .none { s with heap:=h' }) (hsz : Ob (l.length ≤ sizeLine)) : wpAny (model P0 w) A (call (.builtin "list.append") [.ref D,x]) Q E s:=by
  have e : (l ++ [x]).toArray = l.toArray.push x:=by simp
  rw [e] at U
  exact append_K F N U h (by rw [List.size_toArray];exact hsz)
theorem eval_lamA {cn : Str} {cs : Scope} {a : Addr} {cl : List (Str × Addr)} {pos : Pos} {g : Obj → List (Addr × Obj)} {Q : Value → Shared → Prop} (F : Fr h₀ L s.heap m) (N : News h₀ L s.heap news) (T : Top topProg Lz mean mg mb h₀) (C : CodeHd h₀ 125 123) (U : UpdF 123 (tabObj #[]) news g)
    (h : ∀ f c' oc vs t ctv h' tk,Fr h₀ L h' m →
      News h₀ L h' ((f,kla_obj (Str.ofString "<lambda>") (cn ++ ".<locals>." ++ "<lambda>") lamParams lamBody lamScope [] ((mg "__name__").getD .none) c' ctv) :: (c',oc) :: g (tabObj #[rawInt pos.line,rawInt pos.col,.ref c'])) →
      oc.data = .fields vs → vs[1]? = some (.str (cn ++ ".<locals>." ++ "<lambda>") t) → (∀ q ∈ news,q.1 < c') → c' < f → Q (.ref f) { s with heap:=h',toks:=tk }) :
    wpAny (model P0 w) A (eval (.Lambda lamParams lamBody lamScope pos) (envX cn cs L a (.ref 125) cl)) Q E s:=
  kla_eval (by rfl) (kla_nest F N T C rfl U trivial rfl (by rfl) h)
theorem eval_lamB {cn : Str} {cs : Scope} {a : Addr} {cl : List (Str × Addr)} {pos : Pos} {c' : Addr} {Q : Value → Shared → Prop} (F : Fr h₀ L s.heap m) (N : News h₀ L s.heap news) (T : Top topProg Lz mean mg mb h₀) (C : CodeHd h₀ 125 123) (hm : (123,tabObj #[rawInt pos.line,rawInt pos.col,.ref c']) ∈ news)
    (h : ∀ f ctv h' tk,Fr h₀ L h' m → News h₀ L h' ((f,kla_obj (Str.ofString "<lambda>") (cn ++ ".<locals>." ++ "<lambda>") lamParams lamBody lamScope [] ((mg "__name__").getD .none) c' ctv) :: news) → (∀ q ∈ news,q.1 < f) → Q (.ref f) { s with heap:=h',toks:=tk }) :
    wpAny (model P0 w) A (eval (.Lambda lamParams lamBody lamScope pos) (envX cn cs L a (.ref 125) cl)) Q E s:=
  kla_eval (by rfl) (kla_hit F N T C rfl hm trivial (by simp [codeAmong,rawInt]) (by rfl) h)
end

end
section
set_option maxRecDepth 100000
noncomputable def NdA : List Addr → Prop
  | []=>True
  | a :: r=>(∀ b ∈ r,b ≠ a) ∧ NdA r
inductive AtP (D : Addr) (o o' : Obj) : List (Addr × Obj) → List (Addr × Obj) → Prop
  | head {r:List (Addr × Obj)} : AtP D o o' ((D,o) :: r) ((D,o') :: r)
  | tail {p:Addr × Obj} {r r' : List (Addr × Obj)} : AtP D o o' r r' → AtP D o o' (p :: r) (p :: r')
inductive AtF (D : Addr) (o : Obj) : List (Addr × Obj) → (Obj → List (Addr × Obj)) → Prop
  | head {r:List (Addr × Obj)} : AtF D o ((D,o) :: r) (fun o'=>(D,o') :: r)
  | tail {p:Addr × Obj} {r:List (Addr × Obj)} {g:Obj → List (Addr × Obj)} : AtF D o r g → AtF D o (p :: r) (fun o'=>p :: g o')
section
variable {D a b : Addr} {o o' : Obj} {l l' r : List (Addr × Obj)} {as : List Addr}
theorem AtP.mem (h : AtP D o o' l l') : D ∈ l.map (·.1) := by
  induction h with
  | head=>exact List.Mem.head _
  | tail _ ih=>exact List.Mem.tail _ ih
theorem AtP.app (h : AtP D o o' l l') : AtP D o o' (l ++ r) (l' ++ r) := by
  induction h with
  | head=>exact .head
  | tail _ ih=>exact .tail ih
theorem upd_at (nd : NdA (l.map (·.1))) (h : AtP D o o' l l') : Upd D o o' l l' := by
  induction h with
  | head=>exact Upd.head fun p hp=>nd.1 _ (List.mem_map_of_mem hp)
  | tail h ih=>exact Upd.tail (fun e=>nd.1 _ h.mem e.symm) (ih nd.2)
theorem updF_at {g : Obj → List (Addr × Obj)} (nd : NdA (l.map (·.1))) (h : AtF D o l g) : UpdF D o l g := by
  have mem : ∀ {l:List (Addr × Obj)} {g:Obj → List (Addr × Obj)},AtF D o l g → D ∈ l.map (·.1):=fun h=>by
    induction h with
    | head=>exact List.Mem.head _
    | tail _ ih=>exact List.Mem.tail _ ih
  induction h with
  | head=>exact UpdF.head fun p hp=>nd.1 _ (List.mem_map_of_mem hp)
  | tail h ih=>exact UpdF.tail (fun e=>nd.1 _ (mem h) e.symm) (ih nd.2)
theorem nd_lt (h : ∀ p ∈ l,p.1 < D) (n : NdA (l.map (·.1))) : NdA (D :: l.map (·.1)) := ⟨fun b hb=>by
  refine obEA (List.mem_map.mp hb) ?_;intro p hp oR2;subst oR2
  exact Nat.ne_of_lt (h p hp),n⟩
theorem nd_lt2 (h : ∀ p ∈ l,p.1 < a) (h2 : a < D) (n : NdA (l.map (·.1))) : NdA (D :: a :: l.map (·.1)) := ⟨fun b hb=>by
  rcases List.mem_cons.mp hb with rfl | hb
  · exact Nat.ne_of_lt h2
  · refine obEA (List.mem_map.mp hb) ?_; intro p hp oR2; subst oR2
    exact Nat.ne_of_lt (Nat.lt_trans (h p hp) h2),nd_lt h n⟩
theorem nd_cells2 (h : ∀ p ∈ l,p.1 < D) (n : NdA (l.map (·.1))) : NdA ((D + 1 + 1) :: (D + 1) :: l.map (·.1)) :=
  nd_lt2 (a:=D + 1) (D:=D + 1 + 1) (fun p hp=>Nat.lt_succ_of_lt (h p hp)) (Nat.lt_succ_self _) n
theorem nd_two (h1 : ∀ p ∈ l,p.1 < a) (h2 : ∀ p ∈ l,p.1 ≠ D) (h3 : a ≠ D) (n : NdA (l.map (·.1))) : NdA (D :: a :: l.map (·.1)) := ⟨fun b hb=>by
  rcases List.mem_cons.mp hb with rfl | hb
  · exact h3
  · refine obEA (List.mem_map.mp hb) ?_; intro p hp oR2; subst oR2
    exact h2 p hp,nd_lt h1 n⟩
theorem nd_ne (h : ∀ p ∈ l,p.1 ≠ D) (n : NdA (l.map (·.1))) : NdA (D :: l.map (·.1)) := ⟨fun b hb=>by
  refine obEA (List.mem_map.mp hb) ?_;intro p hp oR2;subst oR2
  exact h p hp,n⟩
theorem nd_fresh {h : Heap} (hl : ∀ p ∈ l,h.get? p.1 = some p.2) (hn : h.get? D = none) (n : NdA (l.map (·.1))) : NdA (D :: l.map (·.1)) := nd_ne (fun p hp e=>by
  rw [← e,hl p hp] at hn;cases hn) n
theorem nd_hd (n : NdA (a :: as)) (h : b ∈ as) : b ≠ a := n.1 b h
theorem nd_not (n : NdA (a :: as)) : a ∉ as := fun h=>n.1 a h rfl
theorem nd_tl (n : NdA (a :: as)) : NdA as := n.2
theorem nd_app {l r : List Addr} (n : NdA l) (m : NdA r) (h : ∀ a ∈ l,a ∉ r) : NdA (l ++ r) := by
  induction l with
  | nil=>exact m
  | cons a l ih=>exact ⟨fun b hb e=>by
      subst e
      rcases List.mem_append.mp hb with hb | hb
      · exact n.1 _ hb rfl
      · exact h _ (List.Mem.head _) hb,ih n.2 fun c hc=>h c (List.Mem.tail _ hc)⟩
noncomputable def Desc : Addr → List Addr → Prop
  | _,[]=>True
  | a,b :: r=>b < a ∧ Desc b r
theorem desc_lt : ∀ {as : List Addr} {a : Addr},Desc a as → ∀ b ∈ as,b < a
  | [],_,_,_,h=>nomatch h
  | c :: r, a, d, b, h => by
    rcases List.mem_cons.mp h with rfl | h
    · exact d.1
    · exact Nat.lt_trans (desc_lt d.2 b h) d.1
theorem nd_desc : ∀ {as : List Addr} {a : Addr},Desc a as → NdA (a :: as)
  | [],_,_=>⟨fun _ h=>(nomatch h),trivial⟩
  | _ :: _,_,d=>⟨fun b hb=>Nat.ne_of_lt (desc_lt d b hb),nd_desc d.2⟩
theorem nd_lt3 {d : Addr} (h : ∀ p ∈ l,p.1 < a) (h2 : a < d) (n : NdA (l.map (·.1))) : NdA (d :: a :: l.map (·.1)) := nd_lt2 h h2 n
theorem ne_mem {d : Addr} (h : ∀ p ∈ l,p.1 < d) (hm : (a,o) ∈ l) : @Ne Nat a d := Nat.ne_of_lt (h _ hm)
theorem ne_mem2 {d : Addr} (h : ∀ p ∈ l,p.1 ≠ d) (hm : (a,o) ∈ l) : @Ne Nat a d := h _ hm
theorem lt_mem {d : Addr} (h : ∀ p ∈ l,p.1 < d) (hm : (a,o) ∈ l) : @LT.lt Nat _ a d := h _ hm
theorem ne_L {h₀ h : Heap} {L : Addr} (N : News h₀ L h l) (hm : (a,o) ∈ l) : @Ne Nat a L := (N _ hm).2.1
end
theorem lim1 {n a b X : Nat} (h : n + b < X) (e : a ≤ b) : n + a < X := Nat.lt_of_le_of_lt (Nat.add_le_add_left e n) h
theorem lim2 {n a b c X : Nat} (h : n + b < X) (e : a + c ≤ b) : n + a + c < X := by rw [Nat.add_assoc];exact lim1 h e
theorem lim3 {n a b c d X : Nat} (h : n + b < X) (e : a + c + d ≤ b) : n + a + c + d < X := by rw [Nat.add_assoc n,Nat.add_assoc n];exact lim1 h e
theorem lim0 {n b X : Nat} (h : n + b < X) : n < X := Nat.lt_of_le_of_lt (Nat.le_add_right n b) h

end
section
set_option maxRecDepth 100000
section
theorem w_desc {A : WA} (h : WOrd A) : Desc A.ps [A.st,A.ns,A.x0,A.tup,A.d,A.x,A.dx,A.q,A.P] := ⟨h.o9,h.o8,h.o7,h.o6,h.o5,h.o4,h.o3,h.o2,h.o1,trivial⟩
theorem nd_of {A : WA} (h : WOrd A) : NdA (wAddrs A) := nd_desc (w_desc h)
theorem ge_P {A : WA} (h : WOrd A) : ∀ a ∈ wAddrs A,A.P ≤ a := fun a ha=>by
  obtain ⟨o1,o2,o3,o4,o5,o6,o7,o8,o9⟩:=h
  have z : ∀ {a b c : Nat},a < b → b < c → a < c:=fun x y=>Nat.lt_trans x y
  have p1:=o1
  have p2:=z p1 o2
  have p3:=z p2 o3
  have p4:=z p3 o4
  have p5:=z p4 o5
  have p6:=z p5 o6
  have p7:=z p6 o7
  have p8:=z p7 o8
  have p9:=z p8 o9
  simp only [List.mem_cons,List.not_mem_nil,or_false] at ha
  rcases ha with rfl | rfl | rfl | rfl | rfl | rfl | rfl | rfl | rfl | rfl
  · exact Nat.le_of_lt p9
  · exact Nat.le_of_lt p8
  · exact Nat.le_of_lt p7
  · exact Nat.le_of_lt p6
  · exact Nat.le_of_lt p5
  · exact Nat.le_of_lt p4
  · exact Nat.le_of_lt p3
  · exact Nat.le_of_lt p2
  · exact Nat.le_of_lt p1
  · exact Nat.le_refl _
end
noncomputable def wL (p : Params) (A : WA) (T : WT) (V : WV) : List (Addr × Obj) := wLed p A T V
section
variable {p : Params} {A : WA} {T : WT} {pc pc' : SV} {pn pn' : Nat} {da da' : SV} {dn dn' : Nat} {es es' : List Addr} {en en' : Nat} {sv sv' : List Value} {sn sn' k k' kn kn' : Nat} {rs rs' rd rd' : Bool} {c : Nat} {mo : Obj}
theorem mW_ps : (A.ps,listOf (List.replicate (k + 1) (Value.bool false)).toArray kn) ∈ wL p A T ⟨pc,pn,da,dn,es,en,sv,sn,k,kn,rs,rd,c,mo⟩ := by unfold wL;(repeat (first | exact List.Mem.head _ | refine List.Mem.tail _ ?_))
theorem mW_st : (A.st,listOf sv.toArray sn) ∈ wL p A T ⟨pc,pn,da,dn,es,en,sv,sn,k,kn,rs,rd,c,mo⟩ := by unfold wL;(repeat (first | exact List.Mem.head _ | refine List.Mem.tail _ ?_))
theorem mW_ns : (A.ns,listOf (.ref A.x0 :: es.map Value.ref).toArray en) ∈ wL p A T ⟨pc,pn,da,dn,es,en,sv,sn,k,kn,rs,rd,c,mo⟩ := by unfold wL;(repeat (first | exact List.Mem.head _ | refine List.Mem.tail _ ?_))
theorem mW_x0 : (A.x0,listOf #[.ref A.tup] 0) ∈ wL p A T ⟨pc,pn,da,dn,es,en,sv,sn,k,kn,rs,rd,c,mo⟩ := by unfold wL;(repeat (first | exact List.Mem.head _ | refine List.Mem.tail _ ?_))
theorem mW_tup : (A.tup,xmlTup T) ∈ wL p A T ⟨pc,pn,da,dn,es,en,sv,sn,k,kn,rs,rd,c,mo⟩ := by unfold wL;(repeat (first | exact List.Mem.head _ | refine List.Mem.tail _ ?_))
theorem mW_d : (A.d,listOf (svs da).toArray dn) ∈ wL p A T ⟨pc,pn,da,dn,es,en,sv,sn,k,kn,rs,rd,c,mo⟩ := by unfold wL;(repeat (first | exact List.Mem.head _ | refine List.Mem.tail _ ?_))
theorem mW_x : (A.x,instObj 150 A.dx) ∈ wL p A T ⟨pc,pn,da,dn,es,en,sv,sn,k,kn,rs,rd,c,mo⟩ := by unfold wL;(repeat (first | exact List.Mem.head _ | refine List.Mem.tail _ ?_))
theorem mW_dx : (A.dx,dictOf (wEnts p A T rs rd) c) ∈ wL p A T ⟨pc,pn,da,dn,es,en,sv,sn,k,kn,rs,rd,c,mo⟩ := by unfold wL;(repeat (first | exact List.Mem.head _ | refine List.Mem.tail _ ?_))
theorem mW_q : (A.q,boundAppend A.P) ∈ wL p A T ⟨pc,pn,da,dn,es,en,sv,sn,k,kn,rs,rd,c,mo⟩ := by unfold wL;(repeat (first | exact List.Mem.head _ | refine List.Mem.tail _ ?_))
theorem mW_P : (A.P,listOf (svs pc).toArray pn) ∈ wL p A T ⟨pc,pn,da,dn,es,en,sv,sn,k,kn,rs,rd,c,mo⟩ := by unfold wL;(repeat (first | exact List.Mem.head _ | refine List.Mem.tail _ ?_))
theorem aW_ps : AtP A.ps (listOf (List.replicate (k + 1) (Value.bool false)).toArray kn) (listOf (List.replicate (k' + 1) (Value.bool false)).toArray kn') (wL p A T ⟨pc,pn,da,dn,es,en,sv,sn,k,kn,rs,rd,c,mo⟩) (wL p A T ⟨pc,pn,da,dn,es,en,sv,sn,k',kn',rs,rd,c,mo⟩) := by unfold wL;(repeat (first | exact AtP.head | refine AtP.tail ?_))
theorem aW_st : AtP A.st (listOf sv.toArray sn) (listOf sv'.toArray sn') (wL p A T ⟨pc,pn,da,dn,es,en,sv,sn,k,kn,rs,rd,c,mo⟩) (wL p A T ⟨pc,pn,da,dn,es,en,sv',sn',k,kn,rs,rd,c,mo⟩) := by unfold wL;(repeat (first | exact AtP.head | refine AtP.tail ?_))
theorem aW_ns : AtP A.ns (listOf (.ref A.x0 :: es.map Value.ref).toArray en) (listOf (.ref A.x0 :: es'.map Value.ref).toArray en') (wL p A T ⟨pc,pn,da,dn,es,en,sv,sn,k,kn,rs,rd,c,mo⟩) (wL p A T ⟨pc,pn,da,dn,es',en',sv,sn,k,kn,rs,rd,c,mo⟩) := by unfold wL;(repeat (first | exact AtP.head | refine AtP.tail ?_))
theorem aW_d : AtP A.d (listOf (svs da).toArray dn) (listOf (svs da').toArray dn') (wL p A T ⟨pc,pn,da,dn,es,en,sv,sn,k,kn,rs,rd,c,mo⟩) (wL p A T ⟨pc,pn,da',dn',es,en,sv,sn,k,kn,rs,rd,c,mo⟩) := by unfold wL;(repeat (first | exact AtP.head | refine AtP.tail ?_))
theorem aW_dx : AtP A.dx (dictOf (wEnts p A T rs rd) c) (dictOf (wEnts p A T rs' rd') c) (wL p A T ⟨pc,pn,da,dn,es,en,sv,sn,k,kn,rs,rd,c,mo⟩) (wL p A T ⟨pc,pn,da,dn,es,en,sv,sn,k,kn,rs',rd',c,mo⟩) := by unfold wL;(repeat (first | exact AtP.head | refine AtP.tail ?_))
theorem aW_P : AtP A.P (listOf (svs pc).toArray pn) (listOf (svs pc').toArray pn') (wL p A T ⟨pc,pn,da,dn,es,en,sv,sn,k,kn,rs,rd,c,mo⟩) (wL p A T ⟨pc',pn',da,dn,es,en,sv,sn,k,kn,rs,rd,c,mo⟩) := by unfold wL;(repeat (first | exact AtP.head | refine AtP.tail ?_))
end
section
variable {h₀ h : Heap} {s s' : Shared} {L : Addr} {m : Str → Option Value} {news new rest U : List (Addr × Obj)} {W : List Addr}
theorem News.addrs {h : Heap} (N : News h₀ L h news) : ∀ a ∈ news.map (·.1),a ≠ L ∧ h₀.get? a = none := fun a ha=>by
  refine obEA (List.mem_map.mp ha) ?_;intro p hp oR2;subst oR2
  exact (N p hp).2
theorem step_after (F : Fr h₀ L s.heap m) (N : News h₀ L s.heap news) (kp : Keep W s s') (hW : ∀ a ∈ W,a ∈ news.map (·.1)) (hr : ∀ p ∈ rest,p ∈ news ∧ p.1 ∉ W) (hn : ∀ p ∈ new,s'.heap.get? p.1 = some p.2) (hn' : ∀ a ∈ new.map (·.1),a ∈ news.map (·.1) ∨ s.heap.get? a = none) :
    Fr h₀ L s'.heap m ∧ News h₀ L s'.heap (new ++ rest):=
  ⟨after_fr F (fun a ha=>Mine.News.addrs N a (hW a ha)) kp,after_news F N kp hr fun p hp=>⟨hn p hp,(hn' p.1 (List.mem_map_of_mem hp)).imp (fun q=>Mine.News.addrs N _ q) id⟩⟩
theorem step_W (F : Fr h₀ L s.heap m) (N : News h₀ L s.heap news) (hU : ∀ p ∈ U,p ∈ news) (kp : Keep (U.map (·.1)) s s') (hr : ∀ p ∈ rest,p ∈ news ∧ p.1 ∉ U.map (·.1)) (hn : ∀ p ∈ new,s'.heap.get? p.1 = some p.2) (hn' : ∀ p ∈ new,p.1 ∈ U.map (·.1) ∨ s.heap.get? p.1 = none) :
    Fr h₀ L s'.heap m ∧ News h₀ L s'.heap (new ++ rest):=by
  have sub : ∀ a ∈ U.map (·.1),a ∈ news.map (·.1):=fun a ha=>by
    refine obEA (List.mem_map.mp ha) ?_;intro p hp oR2;subst oR2
    exact List.mem_map_of_mem (hU p hp)
  refine step_after F N kp sub hr hn fun a ha=>?_
  refine obEA (List.mem_map.mp ha) ?_;intro p hp oR2;subst oR2
  exact (hn' p hp).imp (sub _) id
end
section
variable {h₀ : Heap} {s s' : Shared} {L : Addr} {m : Str → Option Value} {news news' U l t t' blk blk' : List (Addr × Obj)} {c p : Addr × Obj} {W : List Addr}
inductive InB (blk blk' : List (Addr × Obj)) : List (Addr × Obj) → List (Addr × Obj) → Prop
  | here {t:List (Addr × Obj)} : InB blk blk' (blk ++ t) (blk' ++ t)
  | tail {c:Addr × Obj} {r r' : List (Addr × Obj)} : InB blk blk' r r' → InB blk blk' (c :: r) (c :: r')
inductive InT (t t' : List (Addr × Obj)) : List (Addr × Obj) → List (Addr × Obj) → Prop
  | here : InT t t' t t'
  | tail {c:Addr × Obj} {r r' : List (Addr × Obj)} : InT t t' r r' → InT t t' (c :: r) (c :: r')
  | app {b:List (Addr × Obj)} {r r' : List (Addr × Obj)} : InT t t' r r' → InT t t' (b ++ r) (b ++ r')
theorem sub_wL {p : Params} {A : WA} {T : WT} {V : WV} : ∀ q ∈ wLed p A T V,q ∈ wL p A T V ++ t := fun _ h=>List.mem_append_left _ h
theorem sub_tail (h : ∀ q ∈ U,q ∈ l) : ∀ q ∈ U,q ∈ c :: l := fun q hq=>List.Mem.tail _ (h q hq)
theorem InB.split (h : InB blk blk' news news') : ∃ f t,news = f ++ (blk ++ t) ∧ news' = f ++ (blk' ++ t) := by
  induction h with
  | here=>exact ⟨[],_,rfl,rfl⟩
  | tail _ ih=>refine obEEA ih ?_;clear ih;intro f t oR2 oR3;subst oR2;subst oR3;exact ⟨_ :: f,t,rfl,rfl⟩
theorem nd_mid {f b t : List (Addr × Obj)} (n : NdA ((f ++ (b ++ t)).map (·.1))) : ∀ p ∈ f ++ t,p.1 ∉ b.map (·.1) := by
  induction f with
  | nil =>
    simp only [List.nil_append] at n ⊢
    induction b with
    | nil=>exact fun _ _ h=>nomatch h
    | cons c b ih =>
      intro p hp hm
      rcases List.mem_cons.mp hm with e | hm
      · exact n.1 p.1 (List.mem_map_of_mem (List.mem_append_right _ hp)) e
      · exact ih n.2 p hp hm
  | cons c f ih =>
    intro p hp hm
    rcases List.mem_cons.mp hp with rfl | hp
    · refine obEA (List.mem_map.mp hm) ?_; intro q hq e
      exact n.1 q.1 (List.mem_map_of_mem (List.mem_append_right _ (List.mem_append_left _ hq))) e
    · exact ih n.2 p hp hm
theorem step_B (F : Fr h₀ L s.heap m) (N : News h₀ L s.heap news) (nd : NdA (news.map (·.1))) (hin : InB blk blk' news news') (he : blk'.map (·.1) = blk.map (·.1)) (kp : Keep (blk.map (·.1)) s s') (hw : ∀ p ∈ blk',s'.heap.get? p.1 = some p.2) :
    Fr h₀ L s'.heap m ∧ News h₀ L s'.heap news':=by
  refine obEEA hin.split ?_;intro f t oR2 oR3;subst oR2;subst oR3
  obtain ⟨F',N'⟩:=step_W (U:=blk) (new:=blk') (rest:=f ++ t) F N (fun p hp=>List.mem_append_right _ (List.mem_append_left _ hp)) kp (fun p hp=>⟨by
      rcases List.mem_append.mp hp with hp | hp
      · exact List.mem_append_left _ hp
      · exact List.mem_append_right _ (List.mem_append_right _ hp),nd_mid nd p hp⟩) hw (fun p hp=>.inl (he ▸ List.mem_map_of_mem hp))
  refine ⟨F',fun p hp=>N' p ?_⟩
  rcases List.mem_append.mp hp with hp | hp
  · exact List.mem_append_right _ (List.mem_append_left _ hp)
  · rcases List.mem_append.mp hp with hp | hp
    · exact List.mem_append_left _ hp
    · exact List.mem_append_right _ (List.mem_append_right _ hp)
theorem step_wL {pr : Params} {A : WA} {T : WT} {V V' : WV} (F : Fr h₀ L s.heap m) (N : News h₀ L s.heap news) (nd : NdA (news.map (·.1))) (hin : InB (wL pr A T V) (wL pr A T V') news news') (kp : Keep (wAddrs A) s s') (hw : ∀ p ∈ wLed pr A T V',s'.heap.get? p.1 = some p.2) :
    Fr h₀ L s'.heap m ∧ News h₀ L s'.heap news':=step_B F N nd hin rfl kp hw
end
section
variable {w : World} {h₀ : Heap} {s : Shared} {L D : Addr} {E : Value → Shared → Prop} {A : Around} {news : List (Addr × Obj)} {n : Nat}
theorem truthy_da0 {Q : Bool → Shared → Prop} (N : News h₀ L s.heap news) (hm : (D,listOf (svs []).toArray n) ∈ news) (h : Q false { s with toks := s.toks + 1 + 1 }) : wpAny (model P0 w) A (truthy (.ref D)) Q E s :=
  wpAny_truthy_list (items:=#[]) ⟨_,(N _ hm).1,rfl,n,rfl⟩ (by decide) h
theorem truthy_da1 {Q : Bool → Shared → Prop} {gt : Str} {tg : Tok} (N : News h₀ L s.heap news) (hm : (D,listOf (svs [(gt,tg)]).toArray n) ∈ news) (h : Q true { s with toks := s.toks + 1 + 1 }) : wpAny (model P0 w) A (truthy (.ref D)) Q E s :=
  wpAny_truthy_list (items:=#[.str gt tg]) ⟨_,(N _ hm).1,rfl,n,rfl⟩ (by show ((1:Nat) : Int) < 2 ^ 63;decide) h
end

end
section
set_option maxRecDepth 100000
section
variable {w : World} {h₀ : Heap} {s : Shared} {L a d : Addr} {E : Value → Shared → Prop} {A : Around} {news : List (Addr × Obj)}
theorem dict0_is : (dictOf [] 0).IsDictOf (PySem.strKind P0 w) [] := ⟨#[],0,⟨rfl,rfl,rfl⟩,rfl,fun _ he=>by simp at he,Pairs.nil,List.nodup_nil⟩
theorem truthy_dict0 {Q : Bool → Shared → Prop} (N : News h₀ L s.heap news) (hm : (a,dictOf [] 0) ∈ news) (lo : (a == sysModules) = false) (h : Q false { s with toks := s.toks + 1 + 1 }) : wpAny (model P0 w) A (truthy (.ref a)) Q E s :=
  wpAny_truthy_dict lo (kda_dict N hm (dict0_is (w:=w))) (by decide) h
theorem item_tag {value slice : PySem.Expr} {Q : Value → Shared → Prop} {tag : Str} {v : Value} {t : Tok} {o : Obj} (N : News h₀ L s.heap news) (hp : (d,o) ∈ news) (hd : o.IsDictOf (PySem.strKind P0 w) [(tag,v)]) (h : Q v { s with toks := s.toks + 1 })
    (hs : subscripted slice false (.ref d) (.str tag t) = operate [.ref d,.str tag t] (getItem (.ref d) (.str tag t)):=by with_unfolding_all rfl) (hg : ∀ r,letTemporaryGo value (.ref d) r = pure ():=by intro _;with_unfolding_all rfl) :
    wpAny (model P0 w) A (subscriptTail value slice (.ref d) (.str tag t)) Q E s:=
  kda_item (knd:=PySem.strKind _ _) (k:=tag) N hp hd (strKind_is _ _ _ _) (by simp [valueAt]) h hs hg
theorem last_false {value slice : PySem.Expr} {Q : Value → Shared → Prop} {k n : Nat} {t : Tok} (N : News h₀ L s.heap news) (hp : (d,listOf (List.replicate (k + 1) (Value.bool false)).toArray n) ∈ news) (hk : k < 1000) (h : Q (.bool false) s)
    (hs : subscripted slice false (.ref d) (.int (-1) t) = operate [.ref d,.int (-1) t] (getItem (.ref d) (.int (-1) t)):=by with_unfolding_all rfl) (hg : ∀ r,letTemporaryGo value (.ref d) r = pure ():=by intro _;with_unfolding_all rfl) :
    wpAny (model P0 w) A (subscriptTail value slice (.ref d) (.int (-1) t)) Q E s:=by
  have hl : s.heap.IsList d (List.replicate (k + 1) (Value.bool false)).toArray:=⟨_,(N _ hp).1,rfl,n,rfl⟩
  refine subscriptTail_builtin hl.typeIs slot_list_getitem.lookup (wpAny_getItem_list_neg hl (by decide) ?_ (by decide) ?_ h) hs hg
  · rw [List.size_toArray,List.length_replicate];omega
  · rw [List.size_toArray,List.length_replicate,show ((-1 : Int) + ((k + 1 : Nat) : Int)).toNat = k by omega,List.getElem?_toArray,List.getElem?_replicate,if_pos (Nat.lt_succ_self k)]
noncomputable def WTag (p : Params) (A : WA) (T : WT) (rs rd : Bool) (es : List DictEntry) : Prop := es = wEnts p A T rs rd
theorem WTag.mk {p : Params} {A : WA} {T : WT} {rs rd : Bool} : WTag p A T rs rd (wEnts p A T rs rd) := rfl
section
variable {m : Str → Option Value} {news' : List (Addr × Obj)} {B : WA} {T : WT} {rs rd b : Bool} {es : List DictEntry} {n : Nat} {x dx : Addr} {ox : Obj}
theorem set_rs {Q : Unit → Shared → Prop} (F : Fr h₀ L s.heap m) (X₀ : (Mine.hd.heap_1 w.params).In h₀) (N : News h₀ L s.heap news) (W : WTag w.params B T rs rd es) (I : InstAt s.heap x ox 150 (some (dictOf es n))) (hd : ox.dict = some dx) (hs : findIn (Mine.hd.heap_1 w.params) (.ref 150) "__setattr__" = some (some (.builtin "object.__setattr__"))) (hp : plainOver (Mine.hd.heap_1 w.params) 150 = true) (ht : takerIn (Mine.hd.heap_1 w.params) 150 (Str.ofString "_root_seen") = some none) (hh : hasDictIn (Mine.hd.heap_1 w.params) 150 = true)
    (U:Upd dx (dictOf es n) (dictOf (wEnts w.params B T b rd) n) news news') (h : ∀ h',Fr h₀ L h' m → News h₀ L h' news' → Q () { s with heap:=h',toks:=s.toks + 2 }) :
    wpAny (model P0 w) A (setAttr (.ref x) (Str.ofString "_root_seen") (.bool b)) Q E s:=by
  cases W
  exact set_dict F X₀ N I hd hs hp ht hh (by rfl) (by rfl) U (Nat.le_of_ble_eq_true rfl) h
theorem set_rd {Q : Unit → Shared → Prop} (F : Fr h₀ L s.heap m) (X₀ : (Mine.hd.heap_1 w.params).In h₀) (N : News h₀ L s.heap news) (W : WTag w.params B T rs rd es) (I : InstAt s.heap x ox 150 (some (dictOf es n))) (hd : ox.dict = some dx) (hs : findIn (Mine.hd.heap_1 w.params) (.ref 150) "__setattr__" = some (some (.builtin "object.__setattr__"))) (hp : plainOver (Mine.hd.heap_1 w.params) 150 = true) (ht : takerIn (Mine.hd.heap_1 w.params) 150 (Str.ofString "_root_done") = some none) (hh : hasDictIn (Mine.hd.heap_1 w.params) 150 = true)
    (U:Upd dx (dictOf es n) (dictOf (wEnts w.params B T rs b) n) news news') (h : ∀ h',Fr h₀ L h' m → News h₀ L h' news' → Q () { s with heap:=h',toks:=s.toks + 2 }) :
    wpAny (model P0 w) A (setAttr (.ref x) (Str.ofString "_root_done") (.bool b)) Q E s:=by
  cases W
  exact set_dict F X₀ N I hd hs hp ht hh (by rfl) (by rfl) U (Nat.le_of_ble_eq_true rfl) h
end
theorem map_snoc {es : List Addr} {l : Addr} : List.map Value.ref es ++ [Value.ref l] = List.map Value.ref (es ++ [l]) := by simp
end

end
section
section
variable {h₀ g : Heap} {s s1 : Shared} {L a d : Addr} {U news : List (Addr × Obj)} {m : Str → Option Value}
theorem fresh2 (F : Fr g L s1.heap m) (N : News g L s1.heap news) (kG : ∀ b o,s.heap.get? b = some o → b ∉ U.map (·.1) → g.get? b = some o) (hU : ∀ b ∈ U.map (·.1),b ∈ news.map (·.1)) (hn : s1.heap.get? a = none) : s.heap.get? a = none := by
  cases z : s.heap.get? a with
  | none=>rfl
  | some o =>
    exfalso
    by_cases hm : a ∈ U.map (·.1)
    · refine obEA (List.mem_map.mp (hU a hm)) ?_; intro p hp oR2; subst oR2
      rw [(N p hp).1] at hn;cases hn
    · rw [F.keep _ _ (kG a o z hm)] at hn;cases hn
theorem ne_of_fresh {h : Heap} {o : Obj} (h1 : h.get? a = some o) (h2 : h.get? d = none) : a ≠ d := fun e=>by subst e;rw [h1] at h2;cases h2
end

end
section
section
variable {w : World} {h₀ : Heap} {s : Shared} {L D : Addr} {E : Value → Shared → Prop} {A : Around} {news news' : List (Addr × Obj)} {m : Str → Option Value} {n : Nat}
theorem kl_last_snoc {l : List Value} {x : Value} : kl_last (l ++ [x]) = some (l,x) := by
  simpa using kpa_last x l
theorem pop_vals {l : List Value} {x : Value} {Q : Value → Shared → Prop} (F : Fr h₀ L s.heap m) (N : News h₀ L s.heap news) (U : Upd D (listOf (l ++ [x]).toArray n) (listOf l.toArray (n + 1)) news news')
    (h : ∀ h',Fr h₀ L h' m → News h₀ L h' news' → Q x { s with heap:=h' }) (hsz : Ob (l.length + 1 ≤ sizeLine)) : wpAny (model P0 w) A (call (.builtin "list.pop") [.ref D]) Q E s:=
  kl_pop F N (p:=l) (y:=x) (by simpa using kl_last_snoc) U (by have z : l.length + 1 ≤ sizeLine:=hsz;simpa using z) h
theorem news_add {g h' : Heap} {a : Addr} {o : Obj} (F : Fr g L s.heap m) (N : News g L h' news) (ha : h'.get? a = some o) (hn : s.heap.get? a = none) : News g L h' ((a,o) :: news) := by
  intro p hp
  rcases List.mem_cons.mp hp with rfl | hp
  · refine ⟨ha, fun z => ?_, ?_⟩
    · refine obEEEA F.ns ?_; intro oL _ _ hL _
      rw [← show _ = L from z,hn] at hL;cases hL
    · cases z : g.get? _ with
      | none=>rfl
      | some o=>rw [F.keep _ _ z] at hn;cases hn
  · exact N p hp
theorem len_vals {l : List Value} {Q : Value → Shared → Prop} (N : News h₀ L s.heap news) (hm : (D,listOf l.toArray n) ∈ news) (hl : l.length < 1000) (h : Q (.int (l.length : Int) (s.toks + 1)) { s with toks := s.toks + 1 + 1 }) : wpAny (model P0 w) A (call (.builtin "len") [.ref D]) Q E s :=
  call_len_list (items:=l.toArray) ⟨_,(N _ hm).1,rfl,n,rfl⟩ (by rw [List.size_toArray];omega) (by rw [List.size_toArray];exact h)
end

end
section
section
variable {prog : Program} {w : World} {A : Around} {E : Value → Shared → Prop} {s : Shared} {env : Env} {h₀ : Heap} {x : Str} {target : Expr} {body : List Stmt} {Q : Flow → Shared → Prop}
noncomputable def IterT (prog : Program) (w : World) (A : Around) (env : Env) (target : Expr) (body : List Stmt) (Q : Flow → Shared → Prop) (E : Value → Shared → Prop) (xv : Value) (s : Shared) : Prop :=
  wpAny (model prog w) A (pyIter xv) (fun it s₂=>codeAny (model prog w) A (.forLoop target it body [] env) (fun r s'=>match r with | .ok f=>Q f s' | .error e=>cameBackBy (model prog w) A env E e s') s₂) E s
theorem for_T {pos : Pos} {iter : Expr} (h : wpAny (model prog w) A (eval iter env) (fun xv s₁=>IterT prog w A env target body Q E xv s₁) E s)
    (hs : ∀ x,foldedSetIterable iter env x = pure x:=by intro _;rfl) :
    wpAny (model prog w) A (exec (.For target iter body [] pos) env) Q E s:=wpAny_For h hs
noncomputable def GoesBy (w : World) (prog : Program) (A : Around) (target : Expr) : Prop := ∀ (E : Value → Shared → Prop) (I l : Addr) (i : Nat) (s : Shared) (v : Value) (Q : Unit → Shared → Prop),s.heap.IsListIter I l i → Q () s → wpAny (model prog w) A (letOwnedTupleGo target (.ref I) v) Q E s
theorem GoesBy.name {px : Pos} : GoesBy w prog A (.Name x px) := fun _ _ _ _ _ _ _ _ h=>wpAny_pure h
theorem GoesBy.tup {elts : List Expr} {x1} {pos : Pos} : GoesBy w prog A (.Tuple elts x1 pos) := fun _ I l i s v Q hi h=>by
  cases v with
  | ref a=>exact wpAny_letOwnedTupleGo_listiter hi h
  | _=>exact wpAny_pure h

theorem loop_list_G {σ : Type} {l : Addr} {items : Array Value} {m₀ : Str → Option Value} {oth : List (Addr × Obj)} (Led : σ → List (Addr × Obj)) (ps : σ → List (Str × Value)) (x : Str) (stored : List Str) (P : Nat → σ → Array GenState → Prop) (c₀ : σ)
    (hgo : GoesBy w prog A target) (hh : A.handled = none) (hL : ∀ c h m,Fr h₀ env.locals h m → News h₀ env.locals h (Led c ++ oth) → h.IsList l items) (F:Fr h₀ env.locals s.heap m₀) (N:News h₀ env.locals s.heap (Led c₀ ++ oth))
    (hk : ∀ p ∈ ps c₀,m₀ p.1 = some p.2) (hp : P 0 c₀ s.gens)
    (turn : ∀ (c:σ) (i:Nat) (v:Value) (u:Str → Option Value) h tk gs I oI,i < items.size → items[i]? = some v → (∀ p ∈ Led c ++ oth,p.1 ≠ I) → P i c gs →
      Fr h₀ env.locals h (fun y=>if y = x then u y else kstB (fun z=>if stored.contains z then u z else m₀ z) (ps c) y) → News h₀ env.locals h (Led c ++ (I,oI) :: oth) →
      wpAny (model prog w) A (assign target env v) (fun _ s₂=>wpAny (model prog w) A (execs body env) (TPost (TEndG h₀ env.locals Led ps x stored m₀ (P (i + 1)) I ((I,oI) :: oth) { s with heap:=h,toks:=tk,gens:=gs }) Q) E s₂) E { s with heap:=h,toks:=tk,gens:=gs })
    (done : ∀ (c:σ) (u:Str → Option Value) h tk gs,P items.size c gs → Fr h₀ env.locals h (fun y=>if y = x then u y else kstB (fun z=>if stored.contains z then u z else m₀ z) (ps c) y) → News h₀ env.locals h (Led c ++ oth) → Q .next { s with heap:=h,toks:=tk,gens:=gs })
    (hE : PassesOwn (model prog w) A env E:=by passes_own) :
    IterT prog w A env target body Q E (.ref l) s:=by
  refine wpAny_pyIter_list (hL c₀ _ _ F N) ?_
  have hI₀ : h₀.get? s.heap.objs.size = none:=next_is_new F
  have hIL : env.locals ≠ s.heap.objs.size:=Nat.ne_of_lt F.ns.lt
  generalize hIe : s.heap.objs.size = I at hI₀ hIL ⊢
  refine codeAny_forLoop_any (fun k s'=>∃ i,LoopAt h₀ env.locals Led ps x stored m₀ P I oth (fun i h=>h.IsListIter I l i) s items.size i s' ∧ k = items.size + 1 - i) ?_ (items.size + 1)
    ⟨0,⟨⟨c₀,_,_,_,m₀,rfl,?_,F.push _,fun p hp=>⟨Heap.get?_push_of_some _ (N p hp).1,(N p hp).2⟩,?_,hk,fun _ _ _ _=>rfl,hp,Nat.zero_le _⟩⟩,rfl⟩
  rotate_left
  · rw [← hIe]
    exact ⟨_,Heap.get?_push_size _ rfl,rfl,rfl⟩
  · intro p hp e
    have:=Heap.lt_size (N p hp).1
    rw [e,hIe] at this
    exact absurd this (Nat.lt_irrefl _)
  rintro k s' ⟨i,⟨⟨c,h',tk,gs,m',rfl,hst,F',N',hne,h1,h2,hP,hi⟩⟩,rfl⟩
  have hlist:=hL c h' m' F' N'
  have next : ∀ h₁ : Heap,(∀ b o,b ≠ I → h'.get? b = some o → h₁.get? b = some o) → Fr h₀ env.locals h₁ m' ∧ News h₀ env.locals h₁ (Led c ++ oth):=fun h₁ hk₁=>
    ⟨⟨F'.ns.at' fun o e=>hk₁ _ o hIL e,fun b o e=>hk₁ b o (fun q=>by rw [q,hI₀] at e;cases e) (F'.keep b o e),F'.above⟩,fun p hp=>⟨hk₁ _ _ (hne p hp) (N' p hp).1,(N' p hp).2⟩⟩
  by_cases hlt : i < items.size
  · have hv : items[i]? = some items[i] := Array.getElem?_eq_getElem hlt
    refine wpAny_pyNext_list_item hst hlist hv fun h₁ hst₁ hs₁=>?_
    refine obA (next h₁ fun b o hb e=>(hs₁.2 b hb).trans e) ?_;intro F₁ N₁
    refine hgo _ I l (i + 1) _ _ _ hst₁ ?_
    refine obEAA hst₁ ?_;intro oI hoI hcI hdI
    have NI : News h₀ env.locals h₁ (Led c ++ (I,oI) :: oth):=fun p hp=>by
      rcases List.mem_append.mp hp with hp | hp
      · exact N₁ p (List.mem_append_left _ hp)
      rcases List.mem_cons.mp hp with rfl | hp
      · exact ⟨hoI,fun q=>hIL q.symm,hI₀⟩
      · exact N₁ p (List.mem_append_right _ hp)
    have key : ∀ s₃ tq,TEndG h₀ env.locals Led ps x stored m₀ (P (i + 1)) I ((I,oI) :: oth) { s with heap:=h₁,toks:=tq,gens:=gs } s₃ → ∃ m,m < items.size + 1 - i ∧ ∃ i,LoopAt h₀ env.locals Led ps x stored m₀ P I oth (fun i h=>h.IsListIter I l i) s items.size i s₃ ∧ m = items.size + 1 - i:=by
      rintro s₃ tq ⟨c',h'',tk',gs',m'',news',e,F'',N'',hl,ho,hk',hr',hP'⟩
      refine ⟨items.size + 1 - (i + 1),by omega,i + 1,⟨⟨c',h'',tk',gs',m'',e,⟨oI,(N'' _ (ho _ (.head _))).1,hcI,hdI⟩,F'',fun p hp=>?_,fun p hp=>?_,hk',hr',hP',hlt⟩⟩,rfl⟩
      · rcases List.mem_append.mp hp with hp | hp
        · exact N'' p (hl p hp).1
        · exact N'' p (ho p (.tail _ hp))
      · rcases List.mem_append.mp hp with hp | hp
        · exact (hl p hp).2
        · exact hne p (List.mem_append_right _ hp)
    refine wpAny_mono (wpAny_passesOwn hE (turn c i _ m' _ _ gs I oI hlt hv hne hP (kst_frOut h1 h2 F₁) NI)) (fun _ s₂ h₂=>?_) fun _ _ e=>e
    refine wpAny_mono (wpAny_passesOwn hE h₂) (fun f s₃ h₃=>?_) fun _ _ e=>e
    cases f with
    | ret v=>exact h₃
    | brk=>exact h₃
    | cont=>exact key _ _ h₃
    | next=>exact key _ _ h₃
  · have hin : i = items.size := by omega
    subst hin
    refine wpAny_pyNext_list_end hh hst hlist (Array.getElem?_eq_none (Nat.le_refl _)) fun h₁ hk₁=>wpAny_execs_nil ?_
    refine obA (next h₁ fun b o hb e=>hk₁ b o hb e) ?_;intro F₁ N₁
    exact done c m' h₁ _ gs hP (kst_frOut h1 h2 F₁) N₁
end

end
section
section
variable {prog : Program} {w : World} {A : Around} {E : Value → Shared → Prop} {s : Shared} {env : Env} {body : List Stmt} {Q : Flow → Shared → Prop} {test : Expr}
noncomputable def WOut {σ : Type} (h₀ : Heap) (L : Addr) (Led : σ → List (Addr × Obj)) (ps : σ → List (Str × Value)) (m₀ : Str → Option Value) (X : σ → Prop) (oth : List (Addr × Obj)) (s₁ s₂ : Shared) : Prop :=
  ∃ (c:σ) (h' : Heap) (tk : Nat),s₂ = { s₁ with heap:=h',toks:=tk } ∧ X c ∧ Fr h₀ L h' (kstB m₀ (ps c)) ∧ News h₀ L h' (Led c ++ oth)
theorem loop_while_to {σ : Type} {h₀ : Heap} {m₀ : Str → Option Value} {oth : List (Addr × Obj)} {pos : Pos} (Led : σ → List (Addr × Obj)) (ps : σ → List (Str × Value)) (P : Nat → σ → Prop) (X : σ → Prop) (n₀ : Nat) (c₀ : σ)
    (F:Fr h₀ env.locals s.heap m₀) (N:News h₀ env.locals s.heap (Led c₀ ++ oth)) (hk : ∀ p ∈ ps c₀,m₀ p.1 = some p.2) (hp : P n₀ c₀)
    (turn : ∀ (c:σ) (n:Nat) h tk,P n c → Fr h₀ env.locals h (kstB m₀ (ps c)) → News h₀ env.locals h (Led c ++ oth) →
      wpAny (model prog w) A (isTrue test env (eval test env)) (fun b s₂=>
        if b then wpAny (model prog w) A (execs body env) (TPost (WEnd h₀ env.locals Led ps [] m₀ (fun c=>∃ k,k < n ∧ P k c) oth { s with heap:=h,toks:=tk }) (fun f s'=>f = .next ∧ WOut h₀ env.locals Led ps m₀ X oth s s')) E s₂
        else WOut h₀ env.locals Led ps m₀ X oth s s₂) E { s with heap:=h,toks:=tk })
    (done : ∀ (c:σ) h tk,X c → Fr h₀ env.locals h (kstB m₀ (ps c)) → News h₀ env.locals h (Led c ++ oth) → Q .next { s with heap:=h,toks:=tk })
    (hE : PassesOwn (model prog w) A env E:=by passes_own) :
    wpAny (model prog w) A (exec (.While test body [] pos) env) Q E s:=by
  refine wpAny_mono (Q:=fun f s'=>f = .next ∧ WOut h₀ env.locals Led ps m₀ X oth s s') (while_rule (loop_while Led ps [] P n₀ c₀ F N hk hp ?_) hE) (fun f s' hq=>?_) fun _ _ e=>e
  · intro c n u h tk hP F1 N1
    have e : kstB (fun z=>if ([] : List Str).contains z then u z else m₀ z) (ps c) = kstB m₀ (ps c):=rfl
    rw [e] at F1
    refine wpAny_mono (turn c n h tk hP F1 N1) (fun b s₂ hb=>?_) fun _ _ e=>e
    cases b with
    | true=>exact hb
    | false=>exact ⟨rfl,hb⟩
  · refine obAEEEAAA hq ?_; clear hq; intro oR0 c h tk oR4 hX F1 N1; subst oR0; subst oR4
    exact done c h tk hX F1 N1
end

end
section
structure PlainTx (x : Str) : Prop where
  amp : (PySem.Builtin.Str.occurrences x (Str.ofString "&") 0 x.length 1).isEmpty = true
  lt : (PySem.Builtin.Str.occurrences x (Str.ofString "<") 0 x.length 1).isEmpty = true
  gt : (PySem.Builtin.Str.occurrences x (Str.ofString ">") 0 x.length 1).isEmpty = true
  cr : (PySem.Builtin.Str.occurrences x (Str.ofString "\r") 0 x.length 1).isEmpty = true
section
set_option maxRecDepth 100000 in
theorem escape_spec {w : World} {mean : ExcName → Option Value} {mg mb : Str → Option Value} {h₀ : Heap} {s : Shared} {dp un : Nat} {fr : Option (List Env)} {gd : Option (List Code)} {Q E : Value → Shared → Prop}
  (C:Cx w mean mg mb h₀ s []) (hd : dp + 5 < recursionLimit) (hu : un + 8 < cLine) {tx : Str} {tt : Tok} (hp : PlainTx tx)
  (hret : ∀ t h' tk',Keep [] s { s with heap:=h',toks:=tk' } → Q (.str tx t) { s with heap:=h',toks:=tk' })
  :
  wpAny (model P0 w) (Ar dp fr gd un) (call (.ref 161) [.str tx tt]) Q E s:=by
  k_with_none
  k_with "M.in" => ((case k1=>assumption);(case k6=>k_is);(case k7=>k_is);(case k8=>omega);(case k9=>first | exact BindsTo.of_eq rfl | exact binds_K (by k_in) rfl (by k_is) rfl rfl rfl | (refine' kp_binds (by k_in) (by exact fun _=>rfl)));(case c5=>decide);(case kB=>exact locs rfl);(case c2=>exact rfl);(case c3=>exact rfl);(case c4=>exact rfl);k_whole)
  obtain ⟨hp1,hp2,hp3,hp4⟩:=hp
  have X0:=C.X.keeps C.st
  have k0 : PySem.Challenge.rw_if0027_01 = PySem.Challenge.rw_if0027_01:=rfl
  revert X0 k0;k_fill;intro X0 k0;clear k0
  k_dflt (refine' enter_def (binds:=[(Str.ofString "text",.str tx tt)]) ?k1 ?k6 ?k7 ?k8 ?k9 ?kB ?_ ?c2 ?c3 ?c4 ?c5;k_extra "M.in")
  intro g L h F N X T kG lG eL
  clear X0
  (try dsimp only)
  (try k_fold)
  k_steps
  dsimp only
  refine Leave.intro (by assumption) fun kp=>?_
  exact hret _ _ _ kp
theorem escape_K {w : World} {mean : ExcName → Option Value} {mg mb : Str → Option Value} {h₀ : Heap} {s : Shared} {dp un : Nat} {fr : Option (List Env)} {gd : Option (List Code)} {Q E : Value → Shared → Prop} {L : Addr} {m : Str → Option Value} {news : List (Addr × Obj)} {tx : Str} {tt : Tok}
    (X : (Mine.hd.heap_1 w.params).In h₀) (T:Top topProg Lz mean mg mb h₀) (F:Fr h₀ L s.heap m) (N:News h₀ L s.heap news) (hd : dp + 5 < recursionLimit) (hu : un + 8 < cLine) (hp : PlainTx tx)
    (h : ∀ t h' tk',Fr h₀ L h' m → News h₀ L h' news → Q (.str tx t) { s with heap:=h',toks:=tk' }) : wpAny (model P0 w) (Ar dp fr gd un) (call (.ref 161) [.str tx tt]) Q E s:=
  escape_spec (Cx.of X T F N (by simp)) hd hu hp fun t h' tk' kp=>h t h' tk' (after_fr F (by simp) kp) (after_news (new:=[]) F N kp (fun p hp=>⟨hp,by simp⟩) (by simp))
end

end
section
set_option maxRecDepth 100000
section
variable {w : World} {h₀ : Heap} {s : Shared} {L D x0 : Addr} {E : Value → Shared → Prop} {A : Around} {news news' : List (Addr × Obj)} {m : Str → Option Value} {n : Nat}
theorem append_ps {k : Nat} {Q : Value → Shared → Prop} (F : Fr h₀ L s.heap m) (N : News h₀ L s.heap news) (U : Upd D (listOf (List.replicate (k + 1) (Value.bool false)).toArray n) (listOf (List.replicate (k + 1 + 1) (Value.bool false)).toArray (n + 1)) news news')
    (h : ∀ h',Fr h₀ L h' m → News h₀ L h' news' → Q .none { s with heap:=h' }) (hsz : Ob (k + 1 ≤ sizeLine)) : wpAny (model P0 w) A (call (.builtin "list.append") [.ref D,.bool false]) Q E s:=by
  rw [List.replicate_succ' (n:=k + 1)] at U
  exact append_vals F N U h (by show _ ≤ _;rw [List.length_replicate];exact hsz)
theorem append_es {es : List Addr} {e : Addr} {Q : Value → Shared → Prop} (F : Fr h₀ L s.heap m) (N : News h₀ L s.heap news) (U : Upd D (listOf (.ref x0 :: es.map Value.ref).toArray n) (listOf (.ref x0 :: (es ++ [e]).map Value.ref).toArray (n + 1)) news news')
    (h : ∀ h',Fr h₀ L h' m → News h₀ L h' news' → Q .none { s with heap:=h' }) (hsz : Ob (es.length + 1 ≤ sizeLine)) : wpAny (model P0 w) A (call (.builtin "list.append") [.ref D,.ref e]) Q E s:=by
  rw [← map_snoc,← List.cons_append] at U
  exact append_vals F N U h (by show _ ≤ _;rw [List.length_cons,List.length_map];exact hsz)
theorem pop_ps {k : Nat} {Q : Value → Shared → Prop} (F : Fr h₀ L s.heap m) (N : News h₀ L s.heap news) (U : Upd D (listOf (List.replicate (k + 1 + 1) (Value.bool false)).toArray n) (listOf (List.replicate (k + 1) (Value.bool false)).toArray (n + 1)) news news')
    (h : ∀ h',Fr h₀ L h' m → News h₀ L h' news' → Q (.bool false) { s with heap:=h' }) (hsz : Ob (k + 1 + 1 ≤ sizeLine)) : wpAny (model P0 w) A (call (.builtin "list.pop") [.ref D]) Q E s:=by
  rw [List.replicate_succ' (n:=k + 1)] at U
  exact pop_vals F N U h (by show _ ≤ _;rw [List.length_replicate];exact hsz)
theorem pop_es {es : List Addr} {e : Addr} {Q : Value → Shared → Prop} (F : Fr h₀ L s.heap m) (N : News h₀ L s.heap news) (U : Upd D (listOf (.ref x0 :: (es ++ [e]).map Value.ref).toArray n) (listOf (.ref x0 :: es.map Value.ref).toArray (n + 1)) news news')
    (h : ∀ h',Fr h₀ L h' m → News h₀ L h' news' → Q (.ref e) { s with heap:=h' }) (hsz : Ob (es.length + 2 ≤ sizeLine)) : wpAny (model P0 w) A (call (.builtin "list.pop") [.ref D]) Q E s:=by
  rw [← map_snoc,← List.cons_append] at U
  exact pop_vals F N U h (by show _ ≤ _;rw [List.length_cons,List.length_map];exact hsz)
theorem len_ps {k : Nat} {Q : Value → Shared → Prop} (N : News h₀ L s.heap news) (hm : (D,listOf (List.replicate (k + 1) (Value.bool false)).toArray n) ∈ news) (hl : k < 990) (h : Q (.int ((k + 1 : Nat) : Int) (s.toks + 1)) { s with toks := s.toks + 1 + 1 }) : wpAny (model P0 w) A (call (.builtin "len") [.ref D]) Q E s := by
  refine len_vals N hm (by rw [List.length_replicate];exact Nat.succ_lt_succ (Nat.lt_trans hl (by decide))) ?_
  rw [List.length_replicate];exact h
end

end
section
local macro_rules | `(tactic| k_upd) => `(tactic| (k_dflt (refine' upd_at ?kn ?ka; (case ka => k_extra "M.at"); (case kn => assumption))))
local macro_rules | `(tactic| k_updF) => `(tactic| (k_dflt (refine' updF_at ?kn ?ka; (case ka => k_extra "M.atF"); (case kn => assumption))))
local macro_rules | `(tactic| k_lt $h) => `(tactic| (try k_dflt (have ndX := nd_lt $h (by assumption))))
local macro_rules | `(tactic| k_lt2 $h) => `(tactic| (replace $h := ltN $h; (try k_dflt (have ndX := nd_lt3 (by assumption) $h (by assumption)))))
local macro_rules | `(tactic| omega) => `(tactic| k_extra "K.om")
local macro_rules | `(tactic| k_ne) => `(tactic| k_extra "K.ne")
local macro_rules | `(tactic| size_fits) => `(tactic| exact Nat.le_of_ble_eq_true rfl)
section
set_option maxRecDepth 100000

noncomputable def textN (words gaps : List Str) : Nat → Str
  | 0=>words.getD 0 Str.empty
  | k + 1=>textN words gaps k ++ gaps.getD k Str.empty ++ words.getD (k + 1) Str.empty
theorem textN_len {words gaps : List Str} (hw : ∀ k,(words.getD k Str.empty).length ≤ 4) (hg : ∀ k,(gaps.getD k Str.empty).length ≤ 1) : ∀ k,(textN words gaps k).length ≤ 5 * k + 4
  | 0=>hw 0
  | k + 1 => by
    have:=textN_len hw hg k
    have h1:=hg k
    have h2:=hw (k + 1)
    simp only [textN,str_len_append]
    omega
section
namespace T1k
noncomputable def PP (wA : Addr) (gA : Addr) (wv : List Value) (gv : List Value) (words : List Str) (gaps : List Str) (w : World) (mean : ExcName → Option Value) (mg : Str → Option Value) (mb : Str → Option Value) (h₀ : Heap) (s : Shared) (dp : Nat) (un : Nat) (fr : Option (List Env)) (gd : Option (List Code)) (Q : Value → Shared → Prop) (g : Heap) (L : Addr) (h : Heap) (tk0 : Tok) : Prop :=
  ∀ (C:Cx w mean mg mb h₀ s []) (hd : dp + 1 < recursionLimit) (hu : un + 8 < cLine) (hw : s.heap.IsList wA wv.toArray) (hg : s.heap.IsList gA gv.toArray) (hwv : StrsAre wv words) (hgv : StrsAre gv gaps) (hl1 : 0 < words.length) (hl2 : words.length ≤ gaps.length + 1) (hl3 : words.length < 1000) (h4 : ∀ k,(words.getD k Str.empty).length ≤ 4) (h1 : ∀ k,(gaps.getD k Str.empty).length ≤ 1) (hret : ∀ t h' tk',Keep [] s { s with heap:=h',toks:=tk' } → Q (.str (textN words gaps (words.length - 1)) t) { s with heap:=h',toks:=tk' }),
  BGoal wpAny w mean mg mb s ([]) dp un fr gd 280 [(Str.ofString "words",.ref wA),(Str.ofString "gaps",.ref gA)] Q g L h tk0
noncomputable def F := ucr fun wA=>ucr fun gA=>ucr fun wv=>ucr fun gv=>ucr fun words=>ucr fun gaps=>ucr fun w=>ucr fun mean=>ucr fun mg=>ucr fun mb=>ucr fun h₀=>ucr fun s=>ucr fun dp=>ucr fun un=>ucr fun fr=>ucr fun gd=>ucr fun Q=>ucr fun g=>ucr fun L=>ucr fun h tk0=>PP wA gA wv gv words gaps w mean mg mb h₀ s dp un fr gd Q g L h tk0
noncomputable section
@[irreducible] def zz := eps ((0),(0),([]),([]),([]),([]),d0) F
@[irreducible] def wA := zz.1
@[irreducible] def gA := zz.2.1
@[irreducible] def wv := zz.2.2.1
@[irreducible] def gv := zz.2.2.2.1
@[irreducible] def words := zz.2.2.2.2.1
@[irreducible] def gaps := zz.2.2.2.2.2.1
@[irreducible] def w := zz.2.2.2.2.2.2.1
@[irreducible] def mean := zz.2.2.2.2.2.2.2.1
@[irreducible] def zz8 := zz.2.2.2.2.2.2.2.2
@[irreducible] def mg := zz8.1
@[irreducible] def mb := zz8.2.1
@[irreducible] def h₀ := zz8.2.2.1
@[irreducible] def s := zz8.2.2.2.1
@[irreducible] def dp := zz8.2.2.2.2.1
@[irreducible] def un := zz8.2.2.2.2.2.1
@[irreducible] def fr := zz8.2.2.2.2.2.2.1
@[irreducible] def gd := zz8.2.2.2.2.2.2.2.1
@[irreducible] def zz16 := zz8.2.2.2.2.2.2.2.2
@[irreducible] def Q := zz16.1
@[irreducible] def g := zz16.2.1
@[irreducible] def L := zz16.2.2.1
@[irreducible] def h := zz16.2.2.2.1
@[irreducible] def tk0 := zz16.2.2.2.2
end
theorem core : PP wA gA wv gv words gaps w mean mg mb h₀ s dp un fr gd Q g L h tk0 := by
  k_with_none
  k_with "K.om" => first | exact lim1 (by assumption) (by decide) | exact lim2 (by assumption) (by decide) | exact lim3 (by assumption) (by decide) | exact lt_mem (by assumption) (by k_mem) | exact ne_mem (by assumption) (by k_mem) | exact Ne.symm (ne_mem (by assumption) (by k_mem)) | exact ne_mem2 (by assumption) (by k_mem) | exact Ne.symm (ne_mem2 (by assumption) (by k_mem)) | exact ne_L (by assumption) (by k_mem) | lia | omega (config:={}) | (k_extra "M.facts";omega (config:={}))
  k_with "K.ne" => (refine neN ?_;(try dsimp only);first | assumption | exact Ne.symm (by assumption) | exact ne_mem (by assumption) (by k_mem) | exact Ne.symm (ne_mem (by assumption) (by k_mem)) | exact ne_L (by assumption) (by k_mem) | exact Ne.symm (ne_L (by assumption) (by k_mem)) | omega)
  k_with "M.at" => first | exact AtP.head | (refine' AtP.tail ?kz;(case kz=>k_extra "M.at"))
  k_with "M.atF" => first | exact AtF.head | (refine' AtF.tail ?kz;(case kz=>k_extra "M.atF"))
  k_with "M.facts" => repeat (rename (∀ p ∈ (_:List (Addr × Obj)),p.1 < _)=>hraw;replace hraw:=allLt_of hraw;simp only [AllLt,and_true] at hraw)
  k_with "M.enter" => (refine' enter_def ?k1 ?k6 ?k7 ?k8 ?k9 ?kB ?_ ?c2 ?c3 ?c4 ?c5;(case k1=>assumption);(case k6=>k_is);(case k7=>k_is);(case k8=>omega);(case k9=>exact BindsTo.of_eq rfl);(case c5=>decide);(case kB=>exact locs rfl);(case c2=>exact rfl);(case c3=>exact rfl);(case c4=>exact rfl);k_whole)
  k_with "M.in" => ((case k1=>assumption);(case k6=>k_is);(case k7=>k_is);(case k8=>omega);(case k9=>exact BindsTo.of_eq rfl);(case c5=>decide);(case kB=>exact locs rfl);(case c2=>exact rfl);(case c3=>exact rfl);(case c4=>exact rfl);k_whole)
  k_with "M.for" => ((rename Fr _ _ _ _=>lF');(with_unfolding_all refine' for_V lF' (by exact rfl) (by exact rfl) ?_ (by intro _;rfl) (by passes_own);k_whole))
  k_with "execs cons" => (refine wpAny_execs_cons ?_;k_fold)
  k_with "subscriptTail Name Constant ref int" => (refine KTb.item_list (by is_list) (by assumption) (by decide) (by omega) (by decide) ?_;intro _ _)
  k_with "subscriptTail Name BinOp ref int" => (refine KTb.item_list (by is_list) (by assumption) (by omega) (by omega) (by omega) ?_;intro _ _)
  k_with "subscriptTail Name Name ref int" => (refine KTb.item_list (by is_list) (by assumption) (by omega) (by omega) (by omega) ?_;intro _ _)
  k_with "exec For Name Call cons nil" => k_extra "M.for"
  k_with "binaryOp Add str str" => (refine add_str_ob ?_ ?_;intro _ _)
  intro C hd hu hw hg hwv hgv hl1 hl2 hl3 h4 h1 hret F N X T kG lG eL
  have k0 : PySem.Challenge.rw_if0027_01 = PySem.Challenge.rw_if0027_01:=rfl
  revert X k0;k_fill;intro X k0;clear k0
  k_dflt (refine' bg_use ?k6 ?_;(case k6=>k_is);k_whole)
  have nd0 : NdA (List.map (·.1) ([] : List (Addr × Obj))):=trivial
  have hw' : g.IsList wA wv.toArray:=hw.at fun o e=>kG _ o e (by simp)
  have hg' : g.IsList gA gv.toArray:=hg.at fun o e=>kG _ o e (by simp)
  have hlw:=hwv.length
  (try dsimp only)
  k_steps
  refine' loop_range (σ:=Str × Tok) (n:=words.length - 1) (fun _=>[]) (fun c=>[(Str.ofString "text",.str c.1 c.2)]) [] (fun i c=>c.1 = textN words gaps i) (_,_) rfl ?hr ?hn ?hb ?hF ?hN ownOff_nil (fun _=>rfl) ?hk ?hp ?turn ?done
  case hr=>assumption
  case hF=>assumption
  case hk=>exact List.forall_mem_cons.mpr ⟨by with_unfolding_all rfl,by intro _ h;cases h⟩
  case hN=>assumption
  case hp=>rfl
  case hn=>omega
  case hb=>omega
  case turn=>
    rintro ⟨x,tx⟩ i t u hh1 tk own hi hoff hP F N
    dsimp only at hP F N ⊢
    subst hP
    k_steps
    · refine' TEnd.intro (_, _) ?F ?N (fun _ h => nomatch h) ?ho ?hk ?hr ?hP
      case F=>assumption
      case N=>assumption
      case ho=>intro p hp;exact hp
      case hk=>exact List.forall_mem_cons.mpr ⟨by with_unfolding_all rfl,by intro _ h;cases h⟩
      case hr=>intro z h1 h2 h3;have h2':=h2 _ (.head _);simp_all [kstB]
      case hP=>
        have e1 : (1 + (i:Int) - 1).toNat = i:=by omega
        have e2 : (1 + (i:Int)).toNat = i + 1:=by omega
        show _ ++ _ ++ _ = textN words gaps (i + 1)
        rw [e1,e2];rfl
    · have := textN_len h4 h1 i
      have a1:=h1 (1 + (i:Int) - 1).toNat
      have a2:=h4 (1 + (i:Int)).toNat
      show _ ≤ _
      rw [sizeLine_eq,str_len_append];omega
    · have := textN_len h4 h1 i
      have a1:=h1 (1 + (i:Int) - 1).toNat
      show _ ≤ _
      rw [sizeLine_eq];omega
  case done=>
    rintro ⟨x,tx⟩ u h1 tk hP F N
    dsimp only at hP F N ⊢
    k_steps
    refine Leave.intro (by assumption) fun kp=>?_
    subst hP
    exact hret _ _ _ kp
theorem all : ∀ d,F d := eps_all (by with_unfolding_all exact core)
end T1k
theorem text_spec {w : World} {mean : ExcName → Option Value} {mg mb : Str → Option Value} {h₀ : Heap} {s : Shared} {dp un : Nat} {fr : Option (List Env)} {gd : Option (List Code)} {Q E : Value → Shared → Prop}
  (C:Cx w mean mg mb h₀ s []) (hd : dp + 1 < recursionLimit) (hu : un + 8 < cLine)
  {wA gA : Addr} {wv gv : List Value} {words gaps : List Str}
  (hw : s.heap.IsList wA wv.toArray) (hg : s.heap.IsList gA gv.toArray) (hwv : StrsAre wv words) (hgv : StrsAre gv gaps)
  (hl1 : 0 < words.length) (hl2 : words.length ≤ gaps.length + 1) (hl3 : words.length < 1000) (h4 : ∀ k,(words.getD k Str.empty).length ≤ 4) (h1 : ∀ k,(gaps.getD k Str.empty).length ≤ 1)
  (hret : ∀ t h' tk',Keep [] s { s with heap:=h',toks:=tk' } → Q (.str (textN words gaps (words.length - 1)) t) { s with heap:=h',toks:=tk' }) :
  wpAny (model P0 w) (Ar dp fr gd un) (call (.ref 280) [.ref wA,.ref gA]) Q E s:=by
  have X0:=C.X
  have k0 : PySem.Challenge.rw_if0027_01 = PySem.Challenge.rw_if0027_01:=rfl
  revert X0 k0;k_fill;intro X0 k0;clear k0
  k_dflt (refine' enter_def (binds:=[(Str.ofString "words",.ref wA),(Str.ofString "gaps",.ref gA)]) ?k1 ?k6 ?k7 ?k8 ?k9 ?kB ?_ ?c2 ?c3 ?c4 ?c5;k_extra "M.in")
  intro g L h F N X T kG lG eL
  refine' fn_get (T1k.all (wA,gA,wv,gv,words,gaps,w,mean,mg,mb,h₀,s,dp,un,fr,gd,Q,g,L,h,_) C hd hu hw hg hwv hgv hl1 hl2 hl3 h4 h1 hret F N X T kG lG eL) ?ko
  case ko=>k_is
end

end
section
set_option maxRecDepth 100000
theorem str_append_assoc (a b c : Str) : a ++ b ++ c = a ++ (b ++ c) := by
  show Str.mk _ = Str.mk _
  exact congrArg Str.mk (Array.append_assoc ..)
theorem str_empty_append (a : Str) : Str.empty ++ a = a := by
  show Str.mk (#[] ++ a.cps) = a
  rw [Array.empty_append]
theorem str_append_empty (a : Str) : a ++ Str.empty = a := by
  show Str.mk (a.cps ++ #[]) = a
  rw [Array.append_empty]
theorem ofString_empty : Str.ofString "" = Str.empty := by decide +kernel
noncomputable def cat : List Str → Str
  | []=>Str.empty
  | x :: r=>x ++ cat r
theorem cat_append : ∀ a b,cat (a ++ b) = cat a ++ cat b
  | [],b=>(str_empty_append _).symm
  | x :: r,b=>by show x ++ cat (r ++ b) = x ++ cat r ++ cat b;rw [cat_append r b,str_append_assoc]
theorem join_cat : ∀ l : List Str,Str.join (Str.ofString "") l = cat l
  | []=>rfl
  | [x]=>(str_append_empty x).symm
  | x :: y :: r => by
    show x ++ Str.ofString "" ++ Str.join (Str.ofString "") (y :: r) = x ++ cat (y :: r)
    rw [join_cat (y :: r),ofString_empty,str_append_empty]
theorem txt_join_cat (l : List Str) : Txt.join (Str.ofString "") l = cat l := by
  rw [← join_cat]
  first | rfl | (show PySem.Builtin.Str.glued _ _ = _;rw [StrLaws.glued_eq_join])
noncomputable abbrev Ev := Bool × Str
noncomputable def wordOf (e : Ev) : Str := if e.1 then Str.ofString "<" ++ e.2 ++ Str.ofString ">" else Str.ofString "</" ++ e.2 ++ Str.ofString ">"
noncomputable def opensAt (ev : List Ev) : Nat → Nat
  | 0=>0
  | i + 1=>if (ev.getD i (true,Str.empty)).1 then opensAt ev i + 1 else opensAt ev i - 1
theorem opensAt_le (ev : List Ev) : ∀ i,opensAt ev i ≤ i
  | 0=>Nat.le_refl 0
  | i + 1 => by
    have:=opensAt_le ev i
    unfold opensAt
    split <;> omega
theorem one_of {x : Str} (h : x.length = 1) : ∃ c,x = ⟨#[c]⟩ := by
  obtain ⟨a⟩:=x
  have h' : a.size = 1:=h
  match a,h' with
  | ⟨[c]⟩,_=>exact ⟨c,rfl⟩
theorem item_open {n : Str} (h : n.length = 1) : Txt.item (Str.ofString "<" ++ n ++ Str.ofString ">") 1 = n := by
  refine obE (one_of h) ?_;intro c oR1;subst oR1
  have e1 : Str.ofString "<" = ⟨#[60]⟩:=by decide +kernel
  have e2 : Str.ofString ">" = ⟨#[62]⟩:=by decide +kernel
  rw [e1,e2];rfl
theorem item_close {n : Str} (h : n.length = 1) : Txt.item (Str.ofString "</" ++ n ++ Str.ofString ">") 1 = Str.ofString "/" := by
  refine obE (one_of h) ?_;intro c oR1;subst oR1
  have e1 : Str.ofString "</" = ⟨#[60,47]⟩:=by decide +kernel
  have e2 : Str.ofString ">" = ⟨#[62]⟩:=by decide +kernel
  have e3 : Str.ofString "/" = ⟨#[47]⟩:=by decide +kernel
  rw [e1,e2,e3];rfl
theorem item_close2 {n : Str} (h : n.length = 1) : Txt.item (Str.ofString "</" ++ n ++ Str.ofString ">") 2 = n := by
  refine obE (one_of h) ?_;intro c oR1;subst oR1
  have e1 : Str.ofString "</" = ⟨#[60,47]⟩:=by decide +kernel
  have e2 : Str.ofString ">" = ⟨#[62]⟩:=by decide +kernel
  rw [e1,e2];rfl
theorem len_open {n : Str} (h : n.length = 1) : (Str.ofString "<" ++ n ++ Str.ofString ">").length = 3 := by
  rw [str_len_append,str_len_append,h];decide +kernel
theorem len_close {n : Str} (h : n.length = 1) : (Str.ofString "</" ++ n ++ Str.ofString ">").length = 4 := by
  rw [str_len_append,str_len_append,h];decide +kernel
theorem word_len (e : Ev) (h : e.2.length = 1) : (wordOf e).length ≤ 4 ∧ 3 ≤ (wordOf e).length := by
  unfold wordOf
  split
  · rw [len_open h];omega
  · rw [len_close h];omega
structure NameTx (n : Str) : Prop where
  one : n.length = 1
  slash : (n == Str.ofString "/") = false
  brace : (Txt.slice n none (some 1) == Str.ofString "{") = false
section
variable {prog : Program} {w : World} {A : Around} {E : Value → Shared → Prop} {s : Shared} {value slice : PySem.Expr} {n : Str} {t u : Tok} {Q : Value → Shared → Prop}
theorem sub_open (hn : n.length = 1) (h : Q (.str n s.toks) { s with toks := s.toks + 1 })
    (hs : subscripted slice false (.str (Str.ofString "<" ++ n ++ Str.ofString ">") t) (.int 1 u) = operate [.str (Str.ofString "<" ++ n ++ Str.ofString ">") t,.int 1 u] (getItem (.str (Str.ofString "<" ++ n ++ Str.ofString ">") t) (.int 1 u)):=by with_unfolding_all rfl)
    (ht : ∀ r,letTemporaryGo value (.str (Str.ofString "<" ++ n ++ Str.ofString ">") t) r = pure ():=by intro _;with_unfolding_all rfl) :
    wpAny (model prog w) A (subscriptTail value slice (.str (Str.ofString "<" ++ n ++ Str.ofString ">") t) (.int 1 u)) Q E s:=by
  refine item_str (by decide) ?_ ?_ (fun _=>by rw [item_open hn];exact h) hs ht
  · rw [len_open hn];decide
  · rw [len_open hn];decide
theorem sub_close (hn : n.length = 1) (h : Q (.str (Str.ofString "/") s.toks) { s with toks := s.toks + 1 })
    (hs : subscripted slice false (.str (Str.ofString "</" ++ n ++ Str.ofString ">") t) (.int 1 u) = operate [.str (Str.ofString "</" ++ n ++ Str.ofString ">") t,.int 1 u] (getItem (.str (Str.ofString "</" ++ n ++ Str.ofString ">") t) (.int 1 u)):=by with_unfolding_all rfl)
    (ht : ∀ r,letTemporaryGo value (.str (Str.ofString "</" ++ n ++ Str.ofString ">") t) r = pure ():=by intro _;with_unfolding_all rfl) :
    wpAny (model prog w) A (subscriptTail value slice (.str (Str.ofString "</" ++ n ++ Str.ofString ">") t) (.int 1 u)) Q E s:=by
  refine item_str (by decide) ?_ ?_ (fun _=>by rw [item_close hn];exact h) hs ht
  · rw [len_close hn];decide
  · rw [len_close hn];decide
theorem sub_close2 (hn : n.length = 1) (h : Q (.str n s.toks) { s with toks := s.toks + 1 })
    (hs : subscripted slice false (.str (Str.ofString "</" ++ n ++ Str.ofString ">") t) (.int 2 u) = operate [.str (Str.ofString "</" ++ n ++ Str.ofString ">") t,.int 2 u] (getItem (.str (Str.ofString "</" ++ n ++ Str.ofString ">") t) (.int 2 u)):=by with_unfolding_all rfl)
    (ht : ∀ r,letTemporaryGo value (.str (Str.ofString "</" ++ n ++ Str.ofString ">") t) r = pure ():=by intro _;with_unfolding_all rfl) :
    wpAny (model prog w) A (subscriptTail value slice (.str (Str.ofString "</" ++ n ++ Str.ofString ">") t) (.int 2 u)) Q E s:=by
  refine item_str (by decide) ?_ ?_ (fun _=>by rw [item_close2 hn];exact h) hs ht
  · rw [len_close hn];decide
  · rw [len_close hn];decide
theorem sub_list {a : Addr} {vs : List Value} {ys : List Str} {i : Nat} {x : Str} (hl : s.heap.IsList a vs.toArray) (hv : StrsAre vs ys) (hx : ys[i]? = some x) (hi : i < 1000) (h : ∀ t',Q (.str x t') s)
    (hs : subscripted slice false (.ref a) (.int (0 + (i:Int)) u) = operate [.ref a,.int (0 + (i:Int)) u] (getItem (.ref a) (.int (0 + (i:Int)) u)):=by with_unfolding_all rfl) :
    wpAny (model prog w) A (subscriptTail value slice (.ref a) (.int (0 + (i:Int)) u)) Q E s:=by
  have hlt : i < ys.length:=(List.getElem?_eq_some_iff.mp hx).1
  refine KTb.item_list hl hv (by omega) (by omega) (by omega) (fun t' _=>?_) hs
  have e : (0 + (i:Int)).toNat = i:=by omega
  rw [e,List.getD_eq_getElem?_getD,hx]
  exact h t'
end
theorem textN_succ (words gaps : List Str) (k : Nat) : textN words gaps (k + 1) = textN words gaps k ++ gaps.getD k Str.empty ++ words.getD (k + 1) Str.empty := rfl

end
section
set_option maxRecDepth 100000
noncomputable abbrev LamQ : Str := Str.ofString "C14NWriterTarget._start" ++ ".<locals>." ++ "<lambda>"
structure TabOk (o : Obj) : Prop where
  ok : ∃ vs t,o.data = .fields vs ∧ vs[1]? = some (.str LamQ t)
noncomputable abbrev tabLed : Option (Addr × Obj) → List (Addr × Obj)
  | none=>[(123,tabObj #[])]
  | some p=>[(123,tabObj #[rawInt 135,rawInt 71,.ref p.1]),p]
structure LS where
  (V:WV) (tb : Option (Addr × Obj))
noncomputable def esLed (es : List Addr) : List (Addr × Obj) := es.map fun e=>(e,listOf #[] 0)
noncomputable abbrev ledLS (p : Params) (A : WA) (T : WT) (c : LS) : List (Addr × Obj) := (wL p A T c.V ++ tabLed c.tb) ++ esLed c.V.es
structure PW (A : WA) (ev : List Ev) (gaps : List Str) (gs₀ : Array GenState) (i : Nat) (c : LS) (gs : Array GenState) : Prop where
  k : c.V.k = opensAt ev i
  es : c.V.es.length = opensAt ev i
  sv : c.V.sv.length = opensAt ev i + 2
  pc : c.V.pc.length ≤ 3 * i
  z : i = 0 → c.V.pc = [] ∧ c.V.da = []
  tx : ∀ j,i = j + 1 → cat (c.V.pc.map (·.1)) = textN (ev.map wordOf) gaps j ∧ (∃ t,c.V.da = [(gaps.getD j Str.empty,t)]) ∧ c.V.rs = true ∧ c.tb ≠ none
  hes : ∀ e ∈ c.V.es,e ∉ wAddrs A ++ (tabLed c.tb).map (·.1)
  nd : NdA (wAddrs A ++ (tabLed c.tb).map (·.1))
  ok : ∀ p,c.tb = some p → TabOk p.2
  bare : AllBare gs₀ → AllBare gs
section
variable {A : WA} {ev : List Ev} {gaps : List Str} {gs₀ gs gs' : Array GenState} {pc : SV} {pn pn' : Nat} {da : SV} {dn dn' : Nat} {es : List Addr} {en en' : Nat} {sv : List Value} {sn sn' k k1 kn kn' : Nat} {rs rd rd' : Bool} {c c' : Nat} {mo mo' : Obj} {tb : Option (Addr × Obj)} {n : Str} {j : Nat} {t0 t1 t2 tg : Tok} {nn : Addr} {e v0 : Value} {p : Addr × Obj}
theorem getD_map_word {d : Str} (h : ev[j]? = some (true,n)) : (ev.map wordOf).getD j d = Str.ofString "<" ++ n ++ Str.ofString ">" := by
  rw [List.getD_eq_getElem?_getD,List.getElem?_map,h];rfl
theorem getD_map_word2 {d : Str} (h : ev[j]? = some (false,n)) : (ev.map wordOf).getD j d = Str.ofString "</" ++ n ++ Str.ofString ">" := by
  rw [List.getD_eq_getElem?_getD,List.getElem?_map,h];rfl
theorem opens_start (h : ev[j]? = some (true,n)) : opensAt ev (j + 1) = opensAt ev j + 1 := by
  rw [opensAt,List.getD_eq_getElem?_getD,h];rfl
theorem opens_end (h : ev[j]? = some (false,n)) : opensAt ev (j + 1) = opensAt ev j - 1 := by
  rw [opensAt,List.getD_eq_getElem?_getD,h];rfl
theorem PW.start {ex : SV} {i : Nat} (P : PW A ev gaps gs₀ i ⟨⟨pc, pn, da, dn, es, en, sv, sn, k, kn, rs, rd, c, mo⟩, tb⟩ gs) (he : ev[i]? = some (true, n)) (hb : AllBare gs → AllBare gs') (hex : ex.map (·.1) = da.map (·.1))
    (hnd : NdA (wAddrs A ++ (tabLed (some p)).map (·.1))) (hok : TabOk p.2) (hes : ∀ e ∈ es ++ [nn],e ∉ wAddrs A ++ (tabLed (some p)).map (·.1)) :
    PW A ev gaps gs₀ (i + 1) ⟨⟨pc ++ ex ++ [(Str.ofString "<" ++ n,t1)] ++ [(Str.ofString ">",t2)],pn',[] ++ [(gaps.getD i Str.empty,tg)],dn',es ++ [nn],en',sv ++ [e],sn',k + 1,kn',true,rd',c',mo'⟩,some p⟩ gs':=by
  obtain ⟨a1,a2,a3,a4,a5,a6,_,_,_,a9⟩:=P
  dsimp only at *
  have hel : ex.length = da.length:=by rw [← List.length_map (f:=(·.1)),hex,List.length_map]
  refine ⟨?_,?_,?_,?_,fun h=>by omega,?_,hes,hnd,(fun q hq=>by cases hq;exact hok),fun h=>hb (a9 h)⟩
  · rw [opens_start he];dsimp only;omega
  · rw [opens_start he];simp;omega
  · rw [opens_start he];simp;omega
  · have : da.length ≤ 1 := by
      rcases i with _ | j
      · rw [(a5 rfl).2];exact Nat.zero_le _
      · refine obAAA (a6 j rfl) ?_; intro _ oN1 _ _; obtain ⟨t, ht⟩ := oN1
        rw [ht];exact Nat.le_refl _
    simp;omega
  · intro j hj
    obtain rfl : i = j:=by omega
    refine ⟨?_,⟨_,rfl⟩,rfl,fun h=>by cases h⟩
    rcases i with _ | j
    · refine obA (a5 rfl) ?_; intro oR0 oR1; subst oR0; subst oR1
      obtain rfl : ex = []:=List.eq_nil_of_length_eq_zero hel
      show cat [Str.ofString "<" ++ n,Str.ofString ">"] = (ev.map wordOf).getD 0 Str.empty
      rw [getD_map_word he]
      show (Str.ofString "<" ++ n) ++ (Str.ofString ">" ++ Str.empty) = _
      rw [str_append_empty]
    · refine obAAA (a6 j rfl) ?_; intro b1 oN1 _ _; obtain ⟨t, rfl⟩ := oN1
      simp only [List.map_append,hex,cat_append,b1,textN_succ,getD_map_word he]
      simp only [List.map_cons,List.map_nil,cat,str_append_empty,str_append_assoc]
theorem PW.endN (P : PW A ev gaps gs₀ (j + 1) ⟨⟨pc,pn,da,dn,es ++ [nn],en,sv ++ [v0],sn,k1 + 1,kn,rs,rd,c,mo⟩,tb⟩ gs) (he : ev[j + 1]? = some (false,n)) (hb : AllBare gs → AllBare gs') :
    PW A ev gaps gs₀ (j + 1 + 1) ⟨⟨pc ++ [(gaps.getD j Str.empty,t0)] ++ [(Str.ofString "</" ++ n ++ Str.ofString ">",t1)],pn',[] ++ [(gaps.getD (j + 1) Str.empty,tg)],dn',es,en',sv,sn',k1,kn',true,rd',c',mo'⟩,tb⟩ gs':=by
  obtain ⟨a1,a2,a3,a4,a5,a6,a7,a8,aok,a9⟩:=P
  dsimp only at *
  refine obAAA (a6 j rfl) ?_;intro b1 oN1 oR2 b4;obtain ⟨t,rfl⟩:=oN1;subst oR2
  simp only [List.length_append,List.length_cons,List.length_nil] at a2 a3
  refine ⟨?_,?_,?_,?_,fun h=>by omega,?_,(fun x hx=>a7 x (List.mem_append_left _ hx)),a8,aok,fun h=>hb (a9 h)⟩
  · rw [opens_end he];dsimp only;omega
  · rw [opens_end he];dsimp only;omega
  · rw [opens_end he];dsimp only;omega
  · simp;omega
  · intro i hi
    have : i = j + 1:=by omega
    subst this
    refine ⟨?_,⟨_,rfl⟩,rfl,b4⟩
    simp only [List.map_append,cat_append,b1,textN_succ,getD_map_word2 he]
    simp only [List.map_cons,List.map_nil,cat,str_append_empty,str_append_assoc]
theorem snoc_of {α : Type} {l : List α} {m : Nat} (h : l.length = m + 1) : ∃ q z,l = q ++ [z] := by
  have hne : l ≠ []:=fun e=>by rw [e] at h;cases h
  exact ⟨l.dropLast,l.getLast hne,(List.dropLast_concat_getLast hne).symm⟩
end

end
section
set_option maxRecDepth 100000
section
noncomputable def MarkW : Prop := True
namespace W2k
noncomputable def PP (x : Addr) (dx : Addr) (q : Addr) (P : Addr) (pc : SV) (pn : Nat) (w : World) (mean : ExcName → Option Value) (mg : Str → Option Value) (mb : Str → Option Value) (h₀ : Heap) (s : Shared) (dp : Nat) (un : Nat) (fr : Option (List Env)) (gd : Option (List Code)) (R : Result → Shared → Prop) (g : Heap) (L : Addr) (h : Heap) (tk0 : Tok) : Prop :=
  ∀ (C : Cx w mean mg mb h₀ s [(x, instObj 150 dx), (dx, dictOf [] 0)]) (hd : dp + 1 < recursionLimit) (hu : un + 8 < cLine) (hxd : dx < x) (pn : Nat) (hret : ∀ (d tup x0 ns st im e0 pm ps : Addr) (T : WT) (dn en sn kn c : Nat) h' tk',
    h'.get? dx = some (dictOf (wEnts w.params ⟨P,q,dx,x,d,tup,x0,ns,st,im,e0,pm,ps⟩ T false false) c) → h'.get? x = some (instObj 150 dx) →
    h'.get? ps = some (listOf #[.bool false] kn) → h'.get? st = some (listOf #[.ref im,.ref e0] sn) → h'.get? ns = some (listOf #[.ref x0] en) → h'.get? x0 = some (listOf #[.ref tup] 0) → h'.get? tup = some (xmlTup T) → h'.get? d = some (listOf #[] dn) →
    (x < d ∧ d < tup ∧ tup < x0 ∧ x0 < ns ∧ ns < st ∧ st < ps) →
    (∀ a ∈ [ps,st,ns,x0,tup,d],s.heap.get? a = none) → Keep [x,dx] s { s with heap:=h',toks:=tk' } → R (.ok (.ret .none)) { s with heap:=h',toks:=tk' }),
  BGoal wpAny w mean mg mb s ([(x,instObj 150 dx),(dx,dictOf [] 0)]) dp un fr gd 67 [(Str.ofString "self",.ref x),(Str.ofString "write",.ref q),(Str.ofString "with_comments",.bool false),(Str.ofString "strip_text",.bool false),(Str.ofString "rewrite_prefixes",.bool false),(Str.ofString "qname_aware_tags",.none),(Str.ofString "qname_aware_attrs",.none),(Str.ofString "exclude_attrs",.none),(Str.ofString "exclude_tags",.none)] (fun v s'=>R (.ok (.ret v)) s') g L h tk0
noncomputable def F := ucr fun x=>ucr fun dx=>ucr fun q=>ucr fun P=>ucr fun pc=>ucr fun pn=>ucr fun w=>ucr fun mean=>ucr fun mg=>ucr fun mb=>ucr fun h₀=>ucr fun s=>ucr fun dp=>ucr fun un=>ucr fun fr=>ucr fun gd=>ucr fun R=>ucr fun g=>ucr fun L=>ucr fun h tk0=>PP x dx q P pc pn w mean mg mb h₀ s dp un fr gd R g L h tk0
noncomputable section
@[irreducible] def zz := eps ((0),(0),(0),(0),([]),(0),d0R) F
@[irreducible] def x := zz.1
@[irreducible] def dx := zz.2.1
@[irreducible] def q := zz.2.2.1
@[irreducible] def P := zz.2.2.2.1
@[irreducible] def pc := zz.2.2.2.2.1
@[irreducible] def pn := zz.2.2.2.2.2.1
@[irreducible] def w := zz.2.2.2.2.2.2.1
@[irreducible] def mean := zz.2.2.2.2.2.2.2.1
@[irreducible] def zz8 := zz.2.2.2.2.2.2.2.2
@[irreducible] def mg := zz8.1
@[irreducible] def mb := zz8.2.1
@[irreducible] def h₀ := zz8.2.2.1
@[irreducible] def s := zz8.2.2.2.1
@[irreducible] def dp := zz8.2.2.2.2.1
@[irreducible] def un := zz8.2.2.2.2.2.1
@[irreducible] def fr := zz8.2.2.2.2.2.2.1
@[irreducible] def gd := zz8.2.2.2.2.2.2.2.1
@[irreducible] def zz16 := zz8.2.2.2.2.2.2.2.2
@[irreducible] def R := zz16.1
@[irreducible] def g := zz16.2.1
@[irreducible] def L := zz16.2.2.1
@[irreducible] def h := zz16.2.2.2.1
@[irreducible] def tk0 := zz16.2.2.2.2
end
noncomputable def half : {M : Heap → Addr → Heap → Heap → Nat → Heap → Heap → Heap → Heap → Heap → Nat → Heap → Nat → Heap → Prop // (∀ i1 i2 i3 i6 i7 i8 i9 i10 i11 i12 i13 i14 tk i15,M i1 i2 i3 i6 i7 i8 i9 i10 i11 i12 i13 i14 tk i15) → PP x dx q P pc pn w mean mg mb h₀ s dp un fr gd R g L h tk0} := ⟨_,fun TT=>by
  k_with_none
  k_with "K.om" => first | exact lim1 (by assumption) (by decide) | exact lim2 (by assumption) (by decide) | exact lim3 (by assumption) (by decide) | exact lt_mem (by assumption) (by k_mem) | exact ne_mem (by assumption) (by k_mem) | exact Ne.symm (ne_mem (by assumption) (by k_mem)) | exact ne_mem2 (by assumption) (by k_mem) | exact Ne.symm (ne_mem2 (by assumption) (by k_mem)) | exact ne_L (by assumption) (by k_mem) | lia | omega (config:={}) | (k_extra "M.facts";omega (config:={}))
  k_with "K.ne" => (refine neN ?_;(try dsimp only);first | assumption | exact Ne.symm (by assumption) | exact ne_mem (by assumption) (by k_mem) | exact Ne.symm (ne_mem (by assumption) (by k_mem)) | exact ne_L (by assumption) (by k_mem) | exact Ne.symm (ne_L (by assumption) (by k_mem)) | omega)
  k_with "M.at" => first | exact AtP.head | (refine' AtP.tail ?kz;(case kz=>k_extra "M.at"))
  k_with "M.atF" => first | exact AtF.head | (refine' AtF.tail ?kz;(case kz=>k_extra "M.atF"))
  k_with "newTuple" => (have hm2 : MarkW:=(by assumption);clear hm2;refine hold ?_)
  k_with "M.facts" => repeat (rename (∀ p ∈ (_:List (Addr × Obj)),p.1 < _)=>hraw;replace hraw:=allLt_of hraw;simp only [AllLt,and_true] at hraw)
  k_with "getMethod ref" => ((with_reducible show wpAny _ _ (getMethod (Value.ref 44) _ _) _ _ _);k_dflt (refine' nsm_method (by k_asm) (by assumption) ?_))
  k_with "call builtin:dict.items" => ((with_reducible show wpAny _ _ (call (Value.builtin "dict.items") [Value.ref 44]) _ _ _);k_dflt (refine' nsm_view (by k_asm) (by k_asm) (by assumption) ?_;k_whole;intro _ _ _ _ l1;(try k_lt l1);(try k_sweep)))
  k_with "call type:list" => (k_dflt (refine' nsm_list rfl (by k_asm) (by k_asm) (by assumption) (by k_mem) ?_;k_whole;intro _ _ _ _ _ _ l1;(try k_lt l1);(try k_sweep)))
  intro C hd hu hxd pn hret F N X T kG lG eL
  have k0 : PySem.Challenge.rw_if0027_01 = PySem.Challenge.rw_if0027_01:=rfl
  revert X k0;k_fill;intro X k0;clear k0
  k_dflt (refine' bg_use ?k6 ?_;(case k6=>k_is);k_whole)
  have nd0 : NdA (List.map (·.1) [(x,instObj 150 dx),(dx,dictOf [] 0)]):=⟨fun b hb=>by rw [List.mem_singleton.mp hb];exact Nat.ne_of_lt hxd,⟨fun _ h=>(nomatch h),trivial⟩⟩
  k_lt lG
  k_lt2 hxd
  (try dsimp only)
  have hmk : MarkW:=trivial
  k_steps
  clear hmk
  show wpAny _ _ _ _ _ _
  rename_i i1 i2 i3 i4 i5 i6 i7 i8 i9 i10 i11 i12 i13 i14 i15 i16 i17
  revert hret T kG X nd0 i4 i5 i16 i17
  exact TT i1 i2 i3 i6 i7 i8 i9 i10 i11 i12 i13 i14 tk i15⟩
namespace b
noncomputable def F := ucr fun i1=>ucr fun i2=>ucr fun i3=>ucr fun i6=>ucr fun i7=>ucr fun i8=>ucr fun i9=>ucr fun i10=>ucr fun i11=>ucr fun i12=>ucr fun i13=>ucr fun i14=>ucr fun tk i15=>half.1 i1 i2 i3 i6 i7 i8 i9 i10 i11 i12 i13 i14 tk i15
noncomputable section
@[irreducible] def zz := eps ({},0,{},{},0,{},{},{},{},{},0,{},0,{}) F
@[irreducible] def i1 := zz.1
@[irreducible] def i2 := zz.2.1
@[irreducible] def i3 := zz.2.2.1
@[irreducible] def i6 := zz.2.2.2.1
@[irreducible] def i7 := zz.2.2.2.2.1
@[irreducible] def i8 := zz.2.2.2.2.2.1
@[irreducible] def i9 := zz.2.2.2.2.2.2.1
@[irreducible] def i10 := zz.2.2.2.2.2.2.2.1
@[irreducible] def zz8 := zz.2.2.2.2.2.2.2.2
@[irreducible] def i11 := zz8.1
@[irreducible] def i12 := zz8.2.1
@[irreducible] def i13 := zz8.2.2.1
@[irreducible] def i14 := zz8.2.2.2.1
@[irreducible] def tk := zz8.2.2.2.2.1
@[irreducible] def i15 := zz8.2.2.2.2.2
end
theorem core : half.1 i1 i2 i3 i6 i7 i8 i9 i10 i11 i12 i13 i14 tk i15 := by
  intro hret T kG X nd0 i4 i5 i16 i17
  k_steps
  refine Leave.intro (by assumption) fun kp=>?_
  (rename News _ _ _ _=>N2)
  show R (.ok (.ret .none)) _
  refine' hret _ _ _ _ _ _ _ _ _ ⟨_,_,_,_,_,_,_,_,_,_,_,_,_,_,_,_,_,_,_,_⟩ _ _ _ _ _ _ _ ?za ?zb ?zc ?zd ?ze ?zf ?zg ?zh ?zo ?zq kp
  case za=>exact at_of N2 (by k_mem)
  case zb=>exact at_of N2 (by k_mem)
  case zc=>exact at_of N2 (by k_mem)
  case zd=>exact at_of N2 (by k_mem)
  case ze=>exact at_of N2 (by k_mem)
  case zf=>exact at_of N2 (by k_mem)
  case zg=>exact at_of N2 (by k_mem)
  case zh=>exact at_of N2 (by k_mem)
  case zo=>refine ⟨ltN ?_,ltN ?_,ltN ?_,ltN ?_,ltN ?_,ltN ?_⟩ <;> omega
  case zq=>
    refine List.forall_mem_cons.mpr ⟨?_,List.forall_mem_cons.mpr ⟨?_,List.forall_mem_cons.mpr ⟨?_,List.forall_mem_cons.mpr ⟨?_,List.forall_mem_cons.mpr ⟨?_,List.forall_mem_cons.mpr ⟨?_,fun _ h=>nomatch h⟩⟩⟩⟩⟩⟩
    all_goals (refine fresh_of N2 (by k_mem) kG ?_;simp only [List.map_cons,List.map_nil,List.mem_cons,List.not_mem_nil,or_false,not_or];exact ⟨neN (by omega),neN (by omega)⟩)
theorem all : ∀ d,F d := eps_all (by with_unfolding_all exact core)
end b
theorem core : PP x dx q P pc pn w mean mg mb h₀ s dp un fr gd R g L h tk0 := half.2 fun i1 i2 i3 i6 i7 i8 i9 i10 i11 i12 i13 i14 tk i15=>b.all (i1,i2,i3,i6,i7,i8,i9,i10,i11,i12,i13,i14,tk,i15)
theorem all : ∀ d,F d := eps_all (by with_unfolding_all exact core)
end W2k
theorem init_code {w : World} {mean : ExcName → Option Value} {mg mb : Str → Option Value} {h₀ : Heap} {s : Shared} {dp un : Nat} {fr : Option (List Env)} {gd : Option (List Code)} {R : Result → Shared → Prop}
  {x dx q : Addr}
  (C:Cx w mean mg mb h₀ s [(x,instObj 150 dx),(dx,dictOf [] 0)]) (hd : dp + 1 < recursionLimit) (hu : un + 8 < cLine) (hxd : dx < x)
  (P:Addr) (pc : SV) (pn : Nat)
  (hret : ∀ (d tup x0 ns st im e0 pm ps : Addr) (T:WT) (dn en sn kn c : Nat) h' tk',
    h'.get? dx = some (dictOf (wEnts w.params ⟨P,q,dx,x,d,tup,x0,ns,st,im,e0,pm,ps⟩ T false false) c) → h'.get? x = some (instObj 150 dx) →
    h'.get? ps = some (listOf #[.bool false] kn) → h'.get? st = some (listOf #[.ref im,.ref e0] sn) → h'.get? ns = some (listOf #[.ref x0] en) → h'.get? x0 = some (listOf #[.ref tup] 0) → h'.get? tup = some (xmlTup T) → h'.get? d = some (listOf #[] dn) →
    (x < d ∧ d < tup ∧ tup < x0 ∧ x0 < ns ∧ ns < st ∧ st < ps) →
    (∀ a ∈ [ps,st,ns,x0,tup,d],s.heap.get? a = none) → Keep [x,dx] s { s with heap:=h',toks:=tk' } → R (.ok (.ret .none)) { s with heap:=h',toks:=tk' })
  :
  codeAny (model P0 w) (Ar dp fr gd un) (.call (.ref 67) ⟨[.ref x,.ref q],[]⟩) R s:=by
  have X0:=C.X.keeps C.st
  have k0 : PySem.Challenge.rw_if0027_01 = PySem.Challenge.rw_if0027_01:=rfl
  revert X0 k0;k_fill;intro X0 k0;clear k0
  k_dflt (refine' enter_code (binds:=[(Str.ofString "self",.ref x),(Str.ofString "write",.ref q),(Str.ofString "with_comments",.bool false),(Str.ofString "strip_text",.bool false),(Str.ofString "rewrite_prefixes",.bool false),(Str.ofString "qname_aware_tags",.none),(Str.ofString "qname_aware_attrs",.none),(Str.ofString "exclude_attrs",.none),(Str.ofString "exclude_tags",.none)]) ?k1 ?k6 ?k7 ?k8 ?k9 ?kB ?_ ?c2 ?c3 ?c4 ?c5)
  case k1=>assumption
  case k6=>k_is
  case k7=>k_is
  case k8=>omega
  case k9=>(refine' kp_binds ?kx ?ke;(case kx=>k_in);(case ke=>exact fun _=>rfl))
  case c5=>decide
  case kB=>exact locs rfl
  case c2=>exact rfl
  case c3=>exact rfl
  case c4=>exact rfl
  k_whole
  intro g L h F N X T kG lG eL
  refine' fn_get (W2k.all (x,dx,q,P,pc,pn,w,mean,mg,mb,h₀,s,dp,un,fr,gd,R,g,L,h,_) C hd hu hxd pn hret F N X T kG lG eL) ?ko
  case ko=>k_is
end

end
section
set_option maxRecDepth 100000
section
variable {w : World} {mean : ExcName → Option Value} {mg mb : Str → Option Value} {h₀ : Heap} {s : Shared} {dp un : Nat} {fr : Option (List Env)} {gd : Option (List Code)} {Q E : Value → Shared → Prop} {L P q : Addr} {m : Str → Option Value} {rest : List (Addr × Obj)}
theorem new_writer (X : (Mine.hd.heap_1 w.params).In h₀) (TP : Top topProg Lz mean mg mb h₀) (F : Fr h₀ L s.heap m) (N : News h₀ L s.heap ((q,boundAppend P) :: (P,listOf #[] 0) :: rest)) (hd : dp + 9 < recursionLimit) (hu : un + 20 < cLine) (hPq : P < q)
    (h : ∀ (A:WA) (T:WT) (dn en sn kn c : Nat) h' tk',Fr h₀ L h' m → News h₀ L h' (wLed w.params A T ⟨[],0,[],dn,[],en,[.ref A.im,.ref A.e0],sn,0,kn,false,false,c,instObj 150 A.dx⟩ ++ rest) → WOrd A → A.P = P → Q (.ref A.x) { s with heap:=h',toks:=tk' }) :
    wpAny (model P0 w) (Ar dp fr gd un) (call (.ref 150) [.ref q]) Q E s:=by
  have X0:=X.keeps F.keep
  refine call_cls (K:=Mine.hd.heap_1 w.params) (C:=150) (fI:=67) F X N (by k_is) (by k_is) (by k_is) ?_
  intro x dx h1 F1 N1 l1 l2
  show codeAny _ _ _ _ _
  have lq : q < dx:=l1 (q,boundAppend P) (List.Mem.head _)
  refine init_code (mean:=mean) (mg:=mg) (mb:=mb) (h₀:=h₀) (x:=x) (dx:=dx) (q:=q) (s:={ s with heap:=h1 }) (Cx.of X TP F1 N1 (U:=[(x,instObj 150 dx),(dx,dictOf [] 0)]) (fun p hp=>?_)) ?_ ?_ l2 P [] 0 ?_
  · simp only [List.mem_cons, List.not_mem_nil, or_false] at hp ⊢
    rcases hp with rfl | rfl <;> simp
  · show dp + _ + 1 < _
    have e : (Code.builtin "type.__call__" ⟨[.ref 150,.ref q],[]⟩).weight ≤ 5:=Nat.le_of_ble_eq_true (by rfl)
    omega
  · show un + _ + 8 < _
    have e : (Code.builtin "type.__call__" ⟨[.ref 150,.ref q],[]⟩).cUnits ≤ 5:=Nat.le_of_ble_eq_true (by rfl)
    omega
  intro d tup x0 ns st im e0 pm ps T dn en sn kn c h2 tk2 a1 a2 a3 a4 a5 a6 a7 a8 ord fresh kp
  refine ⟨rfl,?_⟩
  have F2:=after_fr F1 (W:=[x,dx]) (fun a ha=>by
    simp only [List.mem_cons,List.not_mem_nil,or_false] at ha
    rcases ha with rfl | rfl
    · exact (N1 (_,instObj 150 dx) (List.Mem.head _)).2
    · exact (N1 (_,dictOf [] 0) (List.Mem.tail _ (List.Mem.head _))).2) kp
  have N2:=after_news (rest:=(q,boundAppend P) :: (P,listOf #[] 0) :: rest) (new:=[(ps,listOf #[.bool false] kn),(st,listOf #[.ref im,.ref e0] sn),(ns,listOf #[.ref x0] en),(x0,listOf #[.ref tup] 0),(tup,xmlTup T),(d,listOf #[] dn),(x,instObj 150 dx),(dx,dictOf (wEnts w.params ⟨P,q,dx,x,d,tup,x0,ns,st,im,e0,pm,ps⟩ T false false) c)]) F1 N1 kp (fun p hp=>by
      have h3 : p.1 < dx:=l1 p hp
      refine ⟨List.Mem.tail _ (List.Mem.tail _ hp),?_⟩
      simp only [List.mem_cons,List.not_mem_nil,or_false,not_or]
      exact ⟨fun e=>absurd (e ▸ h3 : x < dx) (Nat.not_lt.mpr (Nat.le_of_lt l2)),fun e=>absurd (e ▸ h3 : dx < dx) (Nat.lt_irrefl _)⟩) (fun p hp=>by
      simp only [List.mem_cons,List.not_mem_nil,or_false] at hp
      rcases hp with rfl | rfl | rfl | rfl | rfl | rfl | rfl | rfl
      · exact ⟨a3,.inr (fresh _ (by simp))⟩
      · exact ⟨a4,.inr (fresh _ (by simp))⟩
      · exact ⟨a5,.inr (fresh _ (by simp))⟩
      · exact ⟨a6,.inr (fresh _ (by simp))⟩
      · exact ⟨a7,.inr (fresh _ (by simp))⟩
      · exact ⟨a8,.inr (fresh _ (by simp))⟩
      · exact ⟨a2,.inl (N1 (_,instObj 150 dx) (List.Mem.head _)).2⟩
      · exact ⟨a1,.inl (N1 (_,dictOf [] 0) (List.Mem.tail _ (List.Mem.head _))).2⟩)
  refine obAAAAA ord ?_;clear ord;intro r1 r2 r3 r4 r5 r6
  exact h ⟨P,q,dx,x,d,tup,x0,ns,st,im,e0,pm,ps⟩ T dn en sn kn c h2 tk2 F2 N2 ⟨hPq,lq,l2,r1,r2,r3,r4,r5,r6⟩ rfl
end

end
section
set_option maxRecDepth 100000
theorem esLed_snoc {es : List Addr} {nn : Addr} : esLed (es ++ [nn]) = esLed es ++ [(nn,listOf #[] 0)] := by simp [esLed]
theorem mem_esLed {es : List Addr} {e : Addr} (h : e ∈ es) : (e,listOf #[] 0) ∈ esLed es := List.mem_map_of_mem (f := fun e=>(e,listOf #[] 0)) h
theorem of_esLed {es : List Addr} {p : Addr × Obj} (h : p ∈ esLed es) : p.1 ∈ es ∧ p.2 = listOf #[] 0 := by
  refine obEA (List.mem_map.mp h) ?_;intro e he oR2;subst oR2
  exact ⟨he,rfl⟩
theorem all_app {α : Type} {P : α → Prop} {a b : List α} (ha : ∀ x ∈ a,P x) (hb : ∀ x ∈ b,P x) : ∀ x ∈ a ++ b,P x := fun x h=>(List.mem_append.mp h).elim (ha x) (hb x)
theorem all_cons {α : Type} {P : α → Prop} {a : α} {b : List α} (ha : P a) (hb : ∀ x ∈ b,P x) : ∀ x ∈ a :: b,P x := fun x h=>(List.mem_cons.mp h).elim (fun e=>e ▸ ha) (hb x)
theorem all_nil {α : Type} {P : α → Prop} : ∀ x ∈ ([] : List α),P x := fun _ h=>nomatch h
section
variable {h₀ : Heap} {s s' : Shared} {L : Addr} {m : Str → Option Value} {news new rest : List (Addr × Obj)} {W : List Addr}
end
section
variable {prog : Program} {w : World} {A : Around} {E : Value → Shared → Prop} {s : Shared} {h₀ : Heap} {L : Addr} {m : Str → Option Value} {news : List (Addr × Obj)}
theorem new_dict0 {env : Env} {pos : Pos} {Q : Value → Shared → Prop} (F : Fr h₀ L s.heap m) (N : News h₀ L s.heap news)
    (k : ∀ d h',Fr h₀ L h' m → News h₀ L h' ((d,dictOf [] 0) :: news) → (∀ p ∈ news,p.1 < d) → Q (.ref d) { s with heap:=h' }) : wpAny (model prog w) A (eval (.Dict [] [] pos) env) Q E s:=
  wpAny_Dict_empty (k _ _ (F.push _) (News.push F N _) (fun p hp=>Heap.lt_size (N p hp).1))
end
theorem cat_len : ∀ l : List Str,(cat l).length = (l.map (·.length)).sum
  | []=>rfl
  | x :: r => by
    show (x ++ cat r).length = _
    rw [str_len_append,cat_len r];simp
theorem joinOk_cat {l : List Str} (h : (cat l).length ≤ 10000) : JoinOk (Str.ofString "") l = true := by
  unfold JoinOk
  rw [Bool.not_eq_true']
  rw [show (l.toArray.foldl (· + ·.length + (Str.ofString "").length) 0) = (l.map (·.length)).sum + l.length * (Str.ofString "").length from StrLaws.joinTotal _ _]
  rw [← cat_len,show (Str.ofString "").length = 0 by decide +kernel,Nat.mul_zero,Nat.add_zero]
  show decide (_ > sizeLine) = false
  rw [sizeLine_eq]
  exact decide_eq_false (by omega)
theorem words_len {ev : List Ev} (h : ∀ e ∈ ev,NameTx e.2) (k : Nat) : ((ev.map wordOf).getD k Str.empty).length ≤ 4 := by
  rw [List.getD_eq_getElem?_getD,List.getElem?_map]
  cases he : ev[k]? with
  | none=>exact Nat.zero_le _
  | some e=>exact (word_len e (h e (List.mem_of_getElem? he)).one).1
theorem gaps_len {gaps : List Str} (h : ∀ x ∈ gaps,x.length = 1 ∧ PlainTx x) (k : Nat) : (gaps.getD k Str.empty).length ≤ 1 := by
  rw [List.getD_eq_getElem?_getD]
  cases he : gaps[k]? with
  | none=>exact Nat.zero_le _
  | some e=>exact Nat.le_of_eq (h e (List.mem_of_getElem? he)).1

end
section
set_option maxRecDepth 100000
section
variable {D a c : Addr} {o : Obj} {t t' l l' pre : List (Addr × Obj)} {as : List Addr}
theorem InT.split (h : InT t t' l l') : ∃ pre,l = pre ++ t ∧ l' = pre ++ t' := by
  induction h with
  | here=>exact ⟨[],rfl,rfl⟩
  | tail _ ih=>refine obEA ih ?_;clear ih;intro p oR1 oR2;subst oR1;subst oR2;exact ⟨_ :: p,rfl,rfl⟩
  | app _ ih=>refine obEA ih ?_;clear ih;intro p oR1 oR2;subst oR1;subst oR2;exact ⟨_ ++ p,(List.append_assoc ..).symm,(List.append_assoc ..).symm⟩
inductive InTF (tb : Option (Addr × Obj)) : List (Addr × Obj) → (Addr × Obj → List (Addr × Obj)) → Prop
  | here : InTF tb (tabLed tb) (fun p=>tabLed (some p))
  | tail {c:Addr × Obj} {r:List (Addr × Obj)} {g:Addr × Obj → List (Addr × Obj)} : InTF tb r g → InTF tb (c :: r) (fun p=>c :: g p)
  | app {b:List (Addr × Obj)} {r:List (Addr × Obj)} {g:Addr × Obj → List (Addr × Obj)} : InTF tb r g → InTF tb (b ++ r) (fun p=>b ++ g p)
theorem InTF.at {tb : Option (Addr × Obj)} {g : Addr × Obj → List (Addr × Obj)} (h : InTF tb l g) (p : Addr × Obj) : InT (tabLed tb) (tabLed (some p)) l (g p) := by
  induction h with
  | here=>exact .here
  | tail _ ih=>exact .tail ih
  | app _ ih=>exact .app ih
theorem updF_end : ∀ {pre : List (Addr × Obj)},(∀ p ∈ pre,p.1 ≠ D) → UpdF D o (pre ++ [(D,o)]) (fun o'=>pre ++ [(D,o')])
  | [],_=>.head fun _ h=>nomatch h
  | _ :: _,h=>.tail (h _ (List.Mem.head _)) (updF_end fun p hp=>h p (List.Mem.tail _ hp))
theorem nd_one (n : NdA (as ++ [a])) : ∀ b ∈ as,b ≠ a := by
  induction as with
  | nil=>exact fun _ h=>nomatch h
  | cons x r ih =>
    intro b hb
    rcases List.mem_cons.mp hb with rfl | hb
    · exact fun e=>n.1 a (List.mem_append_right _ (List.Mem.head _)) e.symm
    · exact ih n.2 b hb
theorem nd_snoc (n : NdA as) (h : ∀ b ∈ as,b ≠ c) : NdA (as ++ [c]) := by
  induction as with
  | nil=>exact ⟨fun _ h=>(nomatch h),trivial⟩
  | cons x r ih =>
    refine ⟨fun b hb=>?_,ih n.2 fun b hb=>h b (List.Mem.tail _ hb)⟩
    rcases List.mem_append.mp hb with hb | hb
    · exact n.1 b hb
    · rw [List.mem_singleton.mp hb];exact (h x (List.Mem.head _)).symm
end
section
variable {w : World} {mean : ExcName → Option Value} {mg mb : Str → Option Value} {h₀ : Heap} {s : Shared} {L D : Addr} {E : Value → Shared → Prop} {A : Around} {news : List (Addr × Obj)} {m : Str → Option Value}
theorem eval_lamG {cs : Scope} {a : Addr} {cl : List (Str × Addr)} {pos : Pos} {tb : Option (Addr × Obj)} {g : Addr × Obj → List (Addr × Obj)} {Q : Value → Shared → Prop} (F : Fr h₀ L s.heap m) (N : News h₀ L s.heap news) (T : Top topProg Lz mean mg mb h₀) (C : CodeHd h₀ 125 123) (nd : NdA (news.map (·.1)))
    (hpos : pos.line = 135 ∧ pos.col = 71) (hok : ∀ p,tb = some p → TabOk p.2) (hin : InTF tb news g)
    (h : ∀ f c' oc ctv h' tk,Fr h₀ L h' m →
      News h₀ L h' ((f,kla_obj (Str.ofString "<lambda>") LamQ lamParams lamBody lamScope [] ((mg "__name__").getD .none) c' ctv) :: g (c',oc)) →
      TabOk oc → NdA (f :: (g (c',oc)).map (·.1)) → (tb = some (c',oc) ∨ (tb = none ∧ c' ∉ news.map (·.1))) → Q (.ref f) { s with heap:=h',toks:=tk }) :
    wpAny (model P0 w) A (eval (.Lambda lamParams lamBody lamScope pos) (envX (Str.ofString "C14NWriterTarget._start") cs L a (.ref 125) cl)) Q E s:=by
  refine obA hpos ?_;clear hpos;intro p1 p2
  rcases tb with _ | ⟨c0,o0⟩
  · have hg : ∀ p, ∃ pre, news = pre ++ [(123, tabObj #[])] ∧ g p = pre ++ tabLed (some p) := fun p => (hin.at p).split
    refine obEA (hg (0,listOf #[] 0)) ?_;intro pre e1 _
    have e2 : ∀ p,g p = pre ++ tabLed (some p):=fun p=>by
      refine obEA (hg p) ?_;intro pre' h1 h2
      rw [e1] at h1
      rw [h2,← List.append_cancel_right h1]
    subst e1
    have nd':=nd
    rw [List.map_append] at nd'
    have hne:=nd_one nd'
    refine eval_lamA F N T C (updF_end fun p hp=>hne _ (List.mem_map_of_mem hp)) fun f c' oc vs t ctv h' tk F' N' d1 d2 l1 l2=>?_
    rw [p1,p2] at N'
    refine h f c' oc ctv h' tk F' (fun q hq=>N' q ?_) ⟨⟨vs,t,d1,d2⟩⟩ ?_ (.inr ⟨rfl,fun hm=>?_⟩)
    · rw [e2] at hq
      rcases List.mem_cons.mp hq with rfl | hq
      · exact List.Mem.head _
      refine List.Mem.tail _ ?_
      rcases List.mem_append.mp hq with hq | hq
      · exact List.Mem.tail _ (List.mem_append_left _ hq)
      rcases List.mem_cons.mp hq with rfl | hq
      · exact List.Mem.tail _ (List.mem_append_right _ (List.Mem.head _))
      · rw [List.mem_singleton.mp hq];exact List.Mem.head _
    · have n1 := nd_snoc (c := c') nd' fun b hb => by
        rw [← List.map_append (l₂:=[(123,tabObj #[])])] at hb
        refine obEA (List.mem_map.mp hb) ?_;intro q hq oR2;subst oR2
        exact Nat.ne_of_lt (l1 q hq)
      rw [e2,List.map_append]
      rw [List.append_assoc] at n1
      refine ⟨fun b hb=>Nat.ne_of_lt ?_,n1⟩
      rcases List.mem_append.mp hb with hb | hb
      · refine obEA (List.mem_map.mp hb) ?_; intro q hq oR2; subst oR2
        exact Nat.lt_trans (l1 q (List.mem_append_left _ hq)) l2
      rcases List.mem_cons.mp hb with rfl | hb
      · exact Nat.lt_trans (l1 (123,tabObj #[]) (List.mem_append_right _ (List.Mem.head _))) l2
      · rw [List.mem_singleton.mp hb];exact l2
    · refine obEA (List.mem_map.mp hm) ?_; intro q hq e
      exact Nat.lt_irrefl _ (e ▸ l1 q hq)
  · have hg : news = g (c0, o0) := by
      refine obEA ((hin.at (c0,o0)).split) ?_;intro pre h1 h2
      rw [h1,h2]
    refine obEEA ((hok _ rfl).ok) ?_;intro vs t d1 d2
    have hm : (123,tabObj #[rawInt pos.line,rawInt pos.col,.ref c0]) ∈ news:=by
      refine obEA ((hin.at (c0,o0)).split) ?_;intro pre h1 h2
      rw [h1,p1,p2]
      exact List.mem_append_right _ (List.Mem.head _)
    refine eval_lamB F N T C hm fun f ctv h' tk F' N' l1=>?_
    refine h f c0 o0 ctv h' tk F' (hg ▸ N') ⟨⟨vs,t,d1,d2⟩⟩ (hg ▸ nd_lt l1 nd) (.inl rfl)
end

end
section
local macro_rules | `(tactic| k_mem) => `(tactic| k_extra "M.mem")
local macro_rules | `(tactic| k_upd) => `(tactic| (k_dflt (refine' upd_at ?kn ?ka; (case ka => k_extra "X.at"); (case kn => assumption))))
local macro_rules | `(tactic| k_updF) => `(tactic| (k_dflt (refine' updF_at ?kn ?ka; (case ka => k_extra "X.atF"); (case kn => assumption))))
local macro_rules | `(tactic| k_lt $h) => `(tactic| (k_dflt (have ndX := nd_lt $h (by assumption); clear $h)))
local macro_rules | `(tactic| is_list) => `(tactic| k_extra "X.isl")
local macro_rules | `(tactic| k_allIn) => `(tactic| k_extra "X.all")
section
section
set_option maxRecDepth 100000 in
theorem data_spec {w : World} {mean : ExcName → Option Value} {mg mb : Str → Option Value} {h₀ : Heap} {s : Shared} {dp un : Nat} {fr : Option (List Env)} {gd : Option (List Code)} {Q E : Value → Shared → Prop}
  {A:WA} {T:WT} {V:WV}
  (C:Cx w mean mg mb h₀ s (wLed w.params A T V)) (hd : dp + 9 < recursionLimit) (hu : un + 8 < cLine) (hO : WOrd A)
  {gt : Str} {tg : Tok} (hn : V.da.length < 1000)
  (hret : ∀ h' tk' dn',(∀ p ∈ wLed w.params A T { V with da:=V.da ++ [(gt,tg)],dn:=dn' },h'.get? p.1 = some p.2) → Keep (wAddrs A) s { s with heap:=h',toks:=tk' } → Q .none { s with heap:=h',toks:=tk' }) :
  wpAny (model P0 w) (Ar dp fr gd un) (call (.ref 97) [.ref A.x,.str gt tg]) Q E s:=by
  k_with_none
  k_with "X.all" => first | with_reducible exact sub_wL | (with_reducible refine sub_tail ?_;k_allIn)
  k_with "M.mem" => first | ((with_reducible show _ ∈ _ :: _);first | exact List.Mem.head _ | (refine' List.Mem.tail _ ?kz;(case kz=>k_mem))) | (refine' List.mem_append_left _ ?kz;(case kz=>first | with_reducible exact mW_dx | with_reducible exact mW_P | with_reducible exact mW_q | with_reducible exact mW_ps | with_reducible exact mW_st | with_reducible exact mW_ns | with_reducible exact mW_d | with_reducible exact mW_x0 | with_reducible exact mW_tup | exact mW_x)) | with_reducible exact List.mem_append_right _ (List.Mem.tail _ (List.Mem.head _))
  k_with "X.at" => first | (with_reducible exact AtP.head) | (with_reducible refine' AtP.tail ?kz;(case kz=>k_extra "X.at")) | (with_reducible refine' AtP.app ?kz;(case kz=>first | with_reducible exact aW_P | with_reducible exact aW_d | with_reducible exact aW_ps | with_reducible exact aW_st | with_reducible exact aW_ns | with_reducible exact aW_dx | exact aW_P | exact aW_d | exact aW_ps | exact aW_st | exact aW_ns | exact aW_dx)) | ((with_reducible show AtP _ _ _ (_ :: _) _);exact AtP.head)
  k_with "M.inB" => first | with_reducible exact InB.here | (with_reducible refine' InB.tail ?kz;(case kz=>k_extra "M.inB"))
  k_with "M.in" => ((case k1=>assumption);(case k6=>k_is);(case k7=>k_is);(case k8=>omega);(case k9=>first | exact BindsTo.of_eq rfl | exact binds_K (by k_in) rfl (by k_is) rfl rfl rfl | (refine' kp_binds (by k_in) (by exact fun _=>rfl)));(case c5=>decide);(case kB=>exact locs rfl);(case c2=>exact rfl);(case c3=>exact rfl);(case c4=>exact rfl);k_whole)
  k_with "call builtin:list.append" => (k_dflt (refine' append_svs (by k_asm) (by k_asm) (by k_upd) ?_ ?_;intro _ _ _;(try k_sweep)))
  obtain ⟨pc,pn,da,dn,es,en,sv,sn,k,kn,rs,rd,c,mo⟩:=V
  have X0:=C.X.keeps C.st
  replace C : Cx w mean mg mb h₀ s (wL w.params A T ⟨pc,pn,da,dn,es,en,sv,sn,k,kn,rs,rd,c,mo⟩ ++ []):=C
  have nd0:=nd_of hO
  k_dflt (refine' enter_def (binds:=[(Str.ofString "self",.ref A.x),(Str.ofString "data",.str gt tg)]) ?k1 ?k6 ?k7 ?k8 ?k9 ?kB ?_ ?c2 ?c3 ?c4 ?c5;k_extra "M.in")
  intro g L h F N X T kG lG eL
  clear lG X0
  (try dsimp only)
  (try k_fold)
  k_steps
  · refine Leave.intro (by assumption) fun kp => ?_
    (rename News _ _ _ _=>N6)
    exact hret _ _ (dn + 1) (fun p hp=>(N6 p (sub_wL p hp)).1) kp
  · show _ ≤ _;rw [sizeLine_eq];dsimp only at hn;omega
end

end
section
set_option maxRecDepth 100000
section
variable {w : World} {mean : ExcName → Option Value} {mg mb : Str → Option Value} {h₀ : Heap} {s : Shared} {dp un : Nat} {fr : Option (List Env)} {gd : Option (List Code)} {Q E : Value → Shared → Prop}
theorem data_spec2 {A : WA} {T : WT} {V : WV}
  (C:Cx w mean mg mb h₀ s (wLed w.params A T V)) (hd : dp + 9 < recursionLimit) (hu : un + 8 < cLine) (hO : WOrd A)
  {gt : Str} {tg : Tok} (hn : V.da.length < 1000)
  (hret : ∀ h' tk' dn' tg',(∀ p ∈ wLed w.params A T { V with da:=V.da ++ [(gt,tg')],dn:=dn' },h'.get? p.1 = some p.2) → Keep (wAddrs A) s { s with heap:=h',toks:=tk' } → Q .none { s with heap:=h',toks:=tk' }) :
  wpAny (model P0 w) (Ar dp fr gd un) (call (.ref 97) [.ref A.x,.str gt tg]) Q E s:=
  data_spec C hd hu hO hn fun h' tk' dn'=>hret h' tk' dn' tg
variable {h₁ : Heap} {L D : Addr} {m : Str → Option Value} {news : List (Addr × Obj)} {n : Nat} {prog : Program} {A : Around}
theorem join_svs {l : SV} {t : Tok} (N : News h₁ L s.heap news) (hm : (D,listOf (svs l).toArray n) ∈ news) (hok : Ob (JoinOk (Str.ofString "") (l.map (·.1)) = true))
    (h : ∀ t tk,Q (.str (Txt.join (Str.ofString "") (l.map (·.1))) t) { s with toks:=tk }) : wpAny (model prog w) A (call (.builtin "str.join") [.str (Str.ofString "") t,.ref D]) Q E s:=
  SC.join (l:=l) ⟨_,(N _ hm).1,rfl,_,rfl⟩ rfl hok h
end

end
section
set_option maxRecDepth 100000
section
variable {h₀ h : Heap} {s s' : Shared} {L a b : Addr} {m : Str → Option Value} {news new rest U : List (Addr × Obj)} {l : List Addr}
theorem not_cons (h1 : a ≠ b) (h2 : a ∉ l) : a ∉ b :: l := fun hm=>(List.mem_cons.mp hm).elim h1 h2
noncomputable abbrev NewsMem (_ : News h₀ L h news) (p : Addr × Obj) : Prop := p ∈ news
theorem in_map : ∀ p ∈ U,p.1 ∈ U.map (·.1) := fun _ hp=>List.mem_map_of_mem hp
end

end
section
section
theorem delItem_da {w : World} {prog : Program} {A : Around} {s : Shared} {h₀ : Heap} {L D : Addr} {m : Str → Option Value} {news news' : List (Addr × Obj)} {n : Nat} {hp : Heap} {gt : Str} {tg : Tok} {E : Value → Shared → Prop} {Q : Unit → Shared → Prop} (hs : s.heap = hp.push { cls := .type "slice",data := .fields #[.none,.none,.none] }) (F : Fr h₀ L hp m) (N : News h₀ L hp news) (U : Upd D (listOf (svs [(gt,tg)]).toArray n) (listOf (svs []).toArray (n + 1)) news news')
    (h : ∀ h',Fr h₀ L h' m → News h₀ L h' news' → ∀ tk,Q () { s with heap:=h',toks:=tk }) :
    wpAny (model prog w) A (delItem (.ref D) (.ref hp.objs.size)) Q E s:=delItem_one_K (v:=.str gt tg) hs F N U h
set_option maxRecDepth 100000 in
theorem flush_spec {w : World} {mean : ExcName → Option Value} {mg mb : Str → Option Value} {h₀ : Heap} {s : Shared} {dp un : Nat} {fr : Option (List Env)} {gd : Option (List Code)} {Q E : Value → Shared → Prop}
  {A:WA} {T:WT} {V:WV}
  (C:Cx w mean mg mb h₀ s (wLed w.params A T V)) (hd : dp + 9 < recursionLimit) (hu : un + 20 < cLine) (hO : WOrd A)
  {gt : Str} {tg : Tok} (hg : gt.length = 1) (hpl : PlainTx gt) (hda : V.da = [(gt,tg)]) (hrs : V.rs = true) (hpc : V.pc.length < 1000)
  (hret : ∀ h' tk' dn' t,(∀ p ∈ wLed w.params A T { V with da:=[],dn:=dn',pc:=V.pc ++ [(gt,t)],pn:=V.pn + 1 },h'.get? p.1 = some p.2) → Keep (wAddrs A) s { s with heap:=h',toks:=tk' } → Q .none { s with heap:=h',toks:=tk' }) :
  wpAny (model P0 w) (Ar dp fr gd un) (call (.ref 106) [.ref A.x]) Q E s:=by
  k_with_none
  k_with "getMethod ref" => (k_dflt (refine' kmu_own (by k_asm) (by k_asm) (by k_inst) (by k_is) (by k_is) ?_;k_whole))
  k_with "X.all" => first | with_reducible exact sub_wL | (with_reducible refine sub_tail ?_;k_allIn)
  k_with "M.mem" => first | ((with_reducible show _ ∈ _ :: _);first | exact List.Mem.head _ | (refine' List.Mem.tail _ ?kz;(case kz=>k_mem))) | (refine' List.mem_append_left _ ?kz;(case kz=>first | with_reducible exact mW_dx | with_reducible exact mW_P | with_reducible exact mW_q | with_reducible exact mW_ps | with_reducible exact mW_st | with_reducible exact mW_ns | with_reducible exact mW_d | with_reducible exact mW_x0 | with_reducible exact mW_tup | exact mW_x)) | with_reducible exact List.mem_append_right _ (List.Mem.tail _ (List.Mem.head _))
  k_with "X.at" => first | (with_reducible exact AtP.head) | (with_reducible refine' AtP.tail ?kz;(case kz=>k_extra "X.at")) | (with_reducible refine' AtP.app ?kz;(case kz=>first | with_reducible exact aW_P | with_reducible exact aW_d | with_reducible exact aW_ps | with_reducible exact aW_st | with_reducible exact aW_ns | with_reducible exact aW_dx | exact aW_P | exact aW_d | exact aW_ps | exact aW_st | exact aW_ns | exact aW_dx)) | ((with_reducible show AtP _ _ _ (_ :: _) _);exact AtP.head)
  k_with "M.inB" => first | with_reducible exact InB.here | (with_reducible refine' InB.tail ?kz;(case kz=>k_extra "M.inB"))
  k_with "M.in" => ((case k1=>assumption);(case k6=>k_is);(case k7=>k_is);(case k8=>omega);(case k9=>first | exact BindsTo.of_eq rfl | exact binds_K (by k_in) rfl (by k_is) rfl rfl rfl | (refine' kp_binds (by k_in) (by exact fun _=>rfl)));(case c5=>decide);(case kB=>exact locs rfl);(case c2=>exact rfl);(case c3=>exact rfl);(case c4=>exact rfl);k_whole)
  k_with "callWith ref" => ((with_reducible show wpAny _ _ (callWith _ (Value.ref 98) _ _ _) _ _ _);k_dflt (refine callWith_98 ?_))
  k_with "And" => ((with_reducible show Heap.get? _ 98 = some boundJoin ∧ _);refine ⟨at_98 (by assumption) (by assumption),?_⟩;try dsimp only [List.nil_append,List.cons_append])
  k_with "call ref" => ((with_reducible show wpAny _ _ (call (Value.ref 98) _) _ _ _);k_dflt (refine' call_join98 (by k_asm) (by k_asm) (by assumption) (by k_mem) ?_ ?_;rotate_left;intro _ _))
  k_with "callWith ref" => (k_dflt (refine' callWith_bd_K (by k_asm) (by k_mem) ?_))
  k_with "And" => ((with_reducible show Heap.get? _ _ = some (boundAppend _) ∧ _);refine ⟨at_bd (by assumption) (by k_mem),?_⟩;try dsimp only [List.nil_append,List.cons_append])
  k_with "call ref" => ((with_reducible show wpAny _ _ (call (Value.ref _) [Value.str _ _]) _ _ _);k_dflt (refine' call_bd_K (by k_asm) (by k_asm) (by k_mem) (by k_upd) ?_ ?_;intro _ _ _;(try k_sweep)))
  k_with "call builtin:list.append" => (k_dflt (refine' append_svs (by k_asm) (by k_asm) (by k_upd) ?_ ?_;intro _ _ _;(try k_sweep)))
  k_with "call ref" => ((with_reducible show wpAny _ _ (call (Value.ref 98) _) _ _ _);k_dflt (refine' call_join98_one (by k_asm) (by k_asm) (by assumption) (by k_mem) (by omega) ?_;intro _ _))
  k_with "truthy str" => (refine KXt.truthy_pos (K:=1) (by omega) (by omega) (by decide) ?_;intro _)
  k_with "delItem" => (k_dflt (refine' delItem_da (by exact rfl) (by k_asm) (by k_asm) (by k_upd) ?_;intro _ _ _ _;(try k_sweep)))
  k_with "call ref" => ((with_reducible show wpAny _ _ (call (Value.ref 161) _) _ _ _);k_dflt (refine' escape_K (by assumption) (by assumption) (by k_asm) (by k_asm) (by (dsimp only [Around.deeper];omega)) (by (dsimp only [Around.deeper];omega)) (by assumption) ?_;intro _ _ _ _ _;(try k_sweep)))
  obtain ⟨pc,pn,da,dn,es,en,sv,sn,k,kn,rs,rd,c,mo⟩:=V
  have X0:=C.X.keeps C.st
  dsimp only at hda hrs hpc
  subst hda hrs
  replace C : Cx w mean mg mb h₀ s (wL w.params A T ⟨pc,pn,[(gt,tg)],dn,es,en,sv,sn,k,kn,true,rd,c,mo⟩ ++ []):=C
  have nd0:=nd_of hO
  k_dflt (refine' enter_def (binds:=[(Str.ofString "self",.ref A.x),(Str.ofString "_join_text",.ref 98)]) ?k1 ?k6 ?k7 ?k8 ?k9 ?kB ?_ ?c2 ?c3 ?c4 ?c5;k_extra "M.in")
  intro g L h F N X T kG lG eL
  clear lG X0
  (try dsimp only)
  (try k_fold)
  k_steps
  · refine Leave.intro (by assumption) fun kp => ?_
    (rename News _ _ _ _=>N6)
    exact hret _ _ (dn + 1) _ (fun p hp=>(N6 p (sub_wL p hp)).1) kp
  · show _ ≤ _;rw [sizeLine_eq];omega
end

end
section
set_option maxRecDepth 100000
theorem last_false2 {w : World} {A : Around} {E : Value → Shared → Prop} {s : Shared} {h₀ : Heap} {L d : Addr} {news : List (Addr × Obj)} {value slice : PySem.Expr} {Q : Value → Shared → Prop} {k n : Nat} {t : Tok} (N : News h₀ L s.heap news) (hp : (d,listOf (List.replicate (k + 1) (Value.bool false)).toArray n) ∈ news) (hk : k < 1000) (h : Q (.bool false) s)
    (hs : subscripted slice false (.ref d) (.int (-1) t) = operate [.ref d,.int (-1) t] (getItem (.ref d) (.int (-1) t)):=by with_unfolding_all rfl) :
    wpAny (model P0 w) A (subscriptTail value slice (.ref d) (.int (-1) t)) Q E s:=
  kba_turn (value':=PySem.Expr.Name (PySem.Str.ofString "_") ⟨0,0,0,0⟩) (fun _=>rfl) (last_false N hp hk h hs (fun _=>rfl))
theorem q_item0 {w : World} {A : Around} {E : Value → Shared → Prop} {s : Shared} {h₀ : Heap} {L a : Addr} {news : List (Addr × Obj)} {value slice : PySem.Expr} {Q : Value → Shared → Prop} {tag : Str} {t1 t2 t3 u : Tok} (N : News h₀ L s.heap news) (hp : (a,qTup tag t1 t2 t3) ∈ news) (h : Q (.str tag t1) s)
    (hs : subscripted slice false (.ref a) (.int 0 u) = operate [.ref a,.int 0 u] (getItem (.ref a) (.int 0 u)):=by with_unfolding_all rfl) :
    wpAny (model P0 w) A (subscriptTail value slice (.ref a) (.int 0 u)) Q E s:=
  kba_turn (value':=PySem.Expr.Name (PySem.Str.ofString "_") ⟨0,0,0,0⟩) (fun _=>rfl) (item_tupleL (l:=[.str tag t1,.str tag t2,.str (Str.ofString "") t3]) (News.isTup N hp) (by decide) (by decide) rfl rfl h hs (fun _=>rfl))
section
namespace W7k
noncomputable def PP (A : WA) (at_ : Addr) (nn : Addr) (T : WT) (pc : SV) (pn : Nat) (da : SV) (dn : Nat) (es0 : List Addr) (en : Nat) (sv : List Value) (sn : Nat) (k : Nat) (kn : Nat) (rs : Bool) (rd : Bool) (c : Nat) (mo : Obj) (tb : Option (Addr × Obj)) (tag : Str) (tt : Tok) (w : World) (mean : ExcName → Option Value) (mg : Str → Option Value) (mb : Str → Option Value) (h₀ : Heap) (s : Shared) (dp : Nat) (un : Nat) (fr : Option (List Env)) (gd : Option (List Code)) (Q : Value → Shared → Prop) (g : Heap) (L : Addr) (h : Heap) (tk0 : Tok) : Prop :=
  ∀ (C : Cx w mean mg mb h₀ s ((nn, listOf #[] 0) :: (at_, dictOf [] 0) :: (wL w.params A T ⟨pc, pn, da, dn, es0 ++ [nn], en, sv, sn, k, kn, rs, rd, c, mo⟩ ++ tabLed tb))) (hd : dp + 16 < recursionLimit) (hu : un + 40 < cLine) (hO : WOrd A) (nd : NdA (nn :: at_ :: (wAddrs A ++ (tabLed tb).map (·.1)))) (hok : ∀ p, tb = some p → TabOk p.2) (htag : tag.length = 1) (hbr : (Txt.slice tag none (some 1) == Str.ofString "{") = false) (hes : ∀ e ∈ es0, s.heap.get? e = some (listOf #[] 0) ∧ e ∉ nn :: at_ :: (wAddrs A ++ (tabLed tb).map (·.1))) (hfew : (es0 ++ [nn]).length < 1000) (hsys : sysModules < at_) (hk : k < 1000) (hpc : pc.length < 1000) (hsv : sv.length < 1000) (hCH : CodeHd h₀ 125 123) (hret : ∀ h' tk' gs' c' oc v t1 t2 pn' sn' kn', TabOk oc →
    (∀ p ∈ (nn,listOf #[] 0) :: (at_,dictOf [] 0) :: (wL w.params A T ⟨pc ++ [(Str.ofString "<" ++ tag,t1)] ++ [(Str.ofString ">",t2)],pn',da,dn,es0 ++ [nn],en,sv ++ [v],sn',k + 1,kn',true,rd,c,mo⟩ ++ tabLed (some (c',oc))),h'.get? p.1 = some p.2) →
    (tb = some (c',oc) ∨ (tb = none ∧ s.heap.get? c' = none)) →
    Keep (nn :: at_ :: (wAddrs A ++ (tabLed tb).map (·.1))) s { s with heap:=h',toks:=tk',gens:=gs' } → (AllBare s.gens → AllBare gs') → Q .none { s with heap:=h',toks:=tk',gens:=gs' }),
  BGoalC wpAny w mean mg mb s ((nn,listOf #[] 0) :: (at_,dictOf [] 0) :: (wL w.params A T ⟨pc,pn,da,dn,es0 ++ [nn],en,sv,sn,k,kn,rs,rd,c,mo⟩ ++ tabLed tb)) dp un fr gd 126 [(Str.ofString "self",.ref A.x),(Str.ofString "tag",.str tag tt),(Str.ofString "attrs",.ref at_),(Str.ofString "new_namespaces",.ref nn),(Str.ofString "qname_text",.none)] Q g L h tk0
noncomputable def F := ucr fun A=>ucr fun at_=>ucr fun nn=>ucr fun T=>ucr fun pc=>ucr fun pn=>ucr fun da=>ucr fun dn=>ucr fun es0=>ucr fun en=>ucr fun sv=>ucr fun sn=>ucr fun k=>ucr fun kn=>ucr fun rs=>ucr fun rd=>ucr fun c=>ucr fun mo=>ucr fun tb=>ucr fun tag=>ucr fun tt=>ucr fun w=>ucr fun mean=>ucr fun mg=>ucr fun mb=>ucr fun h₀=>ucr fun s=>ucr fun dp=>ucr fun un=>ucr fun fr=>ucr fun gd=>ucr fun Q=>ucr fun g=>ucr fun L=>ucr fun h tk0=>PP A at_ nn T pc pn da dn es0 en sv sn k kn rs rd c mo tb tag tt w mean mg mb h₀ s dp un fr gd Q g L h tk0
noncomputable section
@[irreducible] def zz := eps ((⟨0,0,0,0,0,0,0,0,0,0,0,0,0⟩),(0),(0),(⟨0,0,0,0,0,0,0,0,0,0,0,0,0,0,0,0,0,0,0,0⟩),([]),(0),([]),(0),([]),(0),([]),(0),(0),(0),(false),(false),(0),(listOf #[] 0),(none),(Str.empty),(0),d0) F
@[irreducible] def A := zz.1
@[irreducible] def at_ := zz.2.1
@[irreducible] def nn := zz.2.2.1
@[irreducible] def T := zz.2.2.2.1
@[irreducible] def pc := zz.2.2.2.2.1
@[irreducible] def pn := zz.2.2.2.2.2.1
@[irreducible] def da := zz.2.2.2.2.2.2.1
@[irreducible] def dn := zz.2.2.2.2.2.2.2.1
@[irreducible] def zz8 := zz.2.2.2.2.2.2.2.2
@[irreducible] def es0 := zz8.1
@[irreducible] def en := zz8.2.1
@[irreducible] def sv := zz8.2.2.1
@[irreducible] def sn := zz8.2.2.2.1
@[irreducible] def k := zz8.2.2.2.2.1
@[irreducible] def kn := zz8.2.2.2.2.2.1
@[irreducible] def rs := zz8.2.2.2.2.2.2.1
@[irreducible] def rd := zz8.2.2.2.2.2.2.2.1
@[irreducible] def zz16 := zz8.2.2.2.2.2.2.2.2
@[irreducible] def c := zz16.1
@[irreducible] def mo := zz16.2.1
@[irreducible] def tb := zz16.2.2.1
@[irreducible] def tag := zz16.2.2.2.1
@[irreducible] def tt := zz16.2.2.2.2.1
@[irreducible] def w := zz16.2.2.2.2.2.1
@[irreducible] def mean := zz16.2.2.2.2.2.2.1
@[irreducible] def mg := zz16.2.2.2.2.2.2.2.1
@[irreducible] def zz24 := zz16.2.2.2.2.2.2.2.2
@[irreducible] def mb := zz24.1
@[irreducible] def h₀ := zz24.2.1
@[irreducible] def s := zz24.2.2.1
@[irreducible] def dp := zz24.2.2.2.1
@[irreducible] def un := zz24.2.2.2.2.1
@[irreducible] def fr := zz24.2.2.2.2.2.1
@[irreducible] def gd := zz24.2.2.2.2.2.2.1
@[irreducible] def Q := zz24.2.2.2.2.2.2.2.1
@[irreducible] def zz32 := zz24.2.2.2.2.2.2.2.2
@[irreducible] def g := zz32.1
@[irreducible] def L := zz32.2.1
@[irreducible] def h := zz32.2.2.1
@[irreducible] def tk0 := zz32.2.2.2
end
theorem core : PP A at_ nn T pc pn da dn es0 en sv sn k kn rs rd c mo tb tag tt w mean mg mb h₀ s dp un fr gd Q g L h tk0 := by
  k_with_none
  k_with "X.all" => first | with_reducible exact sub_wL | (with_reducible refine sub_tail ?_;k_allIn)
  k_with "X.isl" => first | (with_reducible assumption) | exact News.isList (by assumption) (by k_mem)
  k_with "M.mem" => first | ((with_reducible show _ ∈ _ :: _);first | exact List.Mem.head _ | (refine' List.Mem.tail _ ?kz;(case kz=>k_mem))) | (refine' List.mem_append_left _ ?kz;(case kz=>first | with_reducible exact mW_dx | with_reducible exact mW_P | with_reducible exact mW_q | with_reducible exact mW_ps | with_reducible exact mW_st | with_reducible exact mW_ns | with_reducible exact mW_d | with_reducible exact mW_x0 | with_reducible exact mW_tup | exact mW_x)) | with_reducible exact List.mem_append_right _ (List.Mem.tail _ (List.Mem.head _))
  k_with "X.at" => first | (with_reducible exact AtP.head) | (with_reducible refine' AtP.tail ?kz;(case kz=>k_extra "X.at")) | (with_reducible refine' AtP.app ?kz;(case kz=>first | with_reducible exact aW_P | with_reducible exact aW_d | with_reducible exact aW_ps | with_reducible exact aW_st | with_reducible exact aW_ns | with_reducible exact aW_dx | exact aW_P | exact aW_d | exact aW_ps | exact aW_st | exact aW_ns | exact aW_dx)) | ((with_reducible show AtP _ _ _ (_ :: _) _);exact AtP.head)
  k_with "M.inB" => first | with_reducible exact InB.here | (with_reducible refine' InB.tail ?kz;(case kz=>k_extra "M.inB"))
  k_with "M.inT" => first | with_reducible exact InTF.here | (with_reducible refine' InTF.app ?kz;(case kz=>with_reducible exact InTF.here)) | (with_reducible refine' InTF.tail ?kz;(case kz=>k_extra "M.inT"))
  k_with "X.atF" => ((with_reducible show AtF _ _ (_ :: _) _);first | exact AtF.head | (refine' AtF.tail ?kz;(case kz=>k_extra "X.atF")))
  k_with "M.in" => ((case k1=>assumption);(case k6=>k_is);(case k7=>k_is);(case k8=>omega);(case k9=>first | exact BindsTo.of_eq rfl | exact binds_K (by k_in) rfl (by k_is) rfl rfl rfl | (refine' kp_binds (by k_in) (by exact fun _=>rfl)));(case c5=>decide);(case kB=>exact locs rfl);(case c2=>exact rfl);(case c3=>exact rfl);(case c4=>exact rfl);k_whole)
  k_with "callWith ref" => (k_dflt (refine' callWith_bd_K (by k_asm) (by k_mem) ?_))
  k_with "And" => ((with_reducible show Heap.get? _ _ = some (boundAppend _) ∧ _);refine ⟨at_bd (by assumption) (by k_mem),?_⟩;try dsimp only [List.nil_append,List.cons_append])
  k_with "call ref" => ((with_reducible show wpAny _ _ (call (Value.ref _) [Value.str _ _]) _ _ _);k_dflt (refine' call_bd_K (by k_asm) (by k_asm) (by k_mem) (by k_upd) ?_ ?_;intro _ _ _;(try k_sweep)))
  k_with "call builtin:list.append" => (k_dflt (refine' append_svs (by k_asm) (by k_asm) (by k_upd) ?_ ?_;intro _ _ _;(try k_sweep)))
  k_with "eval Set" => (k_dflt (refine' eval_set_star rfl rfl (by k_asm) (by k_asm) (by assumption) (by first | exact rfl | k_is) rfl rfl rfl (by decide +kernel) (by decide +kernel) (by with_unfolding_all rfl) (by with_unfolding_all rfl) (by k_mem) (by assumption) ?_;intro _ _ _ _ _ _ _ l1;(try k_lt l1);(try k_sweep)))
  k_with "exec Assign cons DictComp" => (refine hold ?_)
  k_with "call builtin:list.append" => (k_dflt (refine' append_vals (by k_asm) (by k_asm) (by k_upd) ?_ ?_;intro _ _ _;(try k_sweep)))
  k_with "call builtin:list.append" => (k_dflt (refine' append_ps (by k_asm) (by k_asm) (by k_upd) ?_ ?_;intro _ _ _;(try k_sweep)))
  k_with "eval Lambda" => (k_dflt (refine' eval_lamG (by k_asm) (by k_asm) (by assumption) (by assumption) (by assumption) (by exact ⟨rfl,rfl⟩) (by assumption) (by k_extra "M.inT") ?_;intro _ _ _ _ _ _ _ N' tok' nd' _;(try dsimp only at N' nd');(have tok2':=tok');(obtain ⟨⟨vs',t',d1',d2'⟩⟩:=tok2');(try k_sweep)))
  k_with "truthy ref" => ((with_reducible show wpAny _ _ (truthy (Value.ref _)) _ _ _);k_dflt (first | (refine' truthy_dict0 (by k_asm) (by k_mem) (by assumption) ?_) | (refine' truthy_da0 (by k_asm) (by k_mem) ?_)))
  k_with "setAttr ref" => (k_dflt (refine' set_rs (by k_asm) (by assumption) (by k_asm) (by assumption) (by k_inst) (by exact rfl) (by k_is) (by k_is) (by k_is) (by k_is) (by k_upd) ?_;intro _ _ _;(try k_sweep)))
  k_with "subscriptTail Subscript Name Name Constant ref int" => ((with_reducible show wpAny _ _ (subscriptTail _ _ (Value.ref _) (Value.int 0 _)) _ _ _);k_dflt (refine' q_item0 (by k_asm) (by k_mem) ?_))
  k_with "subscriptTail Attribute Name UnaryOp ref int" => ((with_reducible show wpAny _ _ (subscriptTail _ _ (Value.ref _) (Value.int (-1) _)) _ _ _);k_dflt (refine' last_false2 (by k_asm) (by k_mem) (by assumption) ?_))
  k_with "subscriptTail Name Name ref str" => ((with_reducible show wpAny _ _ (subscriptTail _ _ (Value.ref _) (Value.str _ _)) _ _ _);k_dflt (refine' item_tag (by k_asm) (by k_mem) (by assumption) ?_))
  k_with "call builtin:sorted" => (k_dflt (show wpAny _ _ (call (Value.builtin "sorted") [Value.ref _] [(Str.ofString "key",Value.ref _)]) _ _ _);k_dflt (refine' sorted_lam_K (by assumption) (by assumption) (by k_asm) (by k_asm) (by k_mem) (by k_mem) (by k_mem) (by assumption) (by assumption) (by assumption) (by ((try dsimp only [Around.deeper]);omega)) (by ((try dsimp only [Around.deeper]);omega)) ?_;intro _ _ _ _ _ _ l1;(try k_lt l1);(try k_sweep)))
  intro C hd hu hO nd hok htag hbr hes hfew hsys hk hpc hsv hCH hret cells
  have X0:=C.X.keeps C.st
  clear X0
  k_dflt (refine' bg_use ?k6 ?_;(case k6=>k_is);k_whole)
  intro F N Y X TP kG lG eL
  k_cells Y
  (try simp only [List.cons_append,List.nil_append] at N)
  have ndL:=nd_cells2 lG nd
  clear lG
  (try dsimp only)
  have hCH0:=hCH
  replace hCH : CodeHd g 125 123:=hCH.keeps fun b o e=>kG b o (C.st b o e) fun hb=>by
    refine obEA (List.mem_map.mp hb) ?_;intro p hp oR2;subst oR2
    rw [(C.U p hp).2] at e;cases e
  have hW : WTag w.params A T rs rd (wEnts w.params A T rs rd):=WTag.mk
  have hat : (at_ == sysModules) = false:=beq_false_of_ne fun e=>absurd (e ▸ hsys) (Nat.lt_irrefl _)
  have hd0 : (dictOf [] 0).IsDictOf (PySem.strKind P0 w) []:=dict0_is
  k_steps
  show wpAny _ _ _ _ _ _
  refine' assign_parsed (mean:=mean) (mg:=mg) (mb:=mb) (h₀:=g) (cq:=L + 2) (A:=A) (T:=T) (V:=⟨pc,pn,da,dn,es0 ++ [nn],en,sv,sn,k,kn,rs,rd,c,mo⟩) (tag:=tag) ?z1 rfl ?z2 ?z3 ?za ?z4 ?zb ?zc ?zd ?ze ?zf ?z5 ?z6 ?z7 ?z8 htag hbr ?z9 (fun _=>rfl)
  case z1=>rfl
  case z2=>rfl
  case z3=>decide
  case z4=>decide
  case za=>rfl
  case zb=>rfl
  case zc=>rfl
  case zd=>rfl
  case ze=>rfl
  case zf=>rfl
  case z5=>decide +kernel
  case z6=>decide +kernel
  case z7=>dsimp only [Around.deeper];omega
  case z8=>dsimp only [Around.deeper];omega
  case z9=>
    show wpAny _ _ _ (PQx _ _ _ _ _ _ _ _ _ _ _ _ _) _ _
    k_steps
    (rename Fr _ _ _ _=>F7)
    (rename News _ _ _ _=>N7)
    (rename TabOk _=>tok)
    (rename _ ∨ _=>hcx)
    refine ⟨_,_,_,_,_,_,_,⟨rfl,F7,N7,X,TP,by k_mem,by k_mem,?y1,by k_mem,by k_allIn,hO,?y2,hfew,?y3⟩⟩
    case y1=>assumption
    case y2=>
      intro e he
      rcases List.mem_append.mp he with he | he
      · refine obA (hes e he) ?_; intro a1 a2
        exact ⟨F7.keep e _ (kG e _ a1 a2),fun hm=>a2 (List.Mem.tail _ (List.Mem.tail _ (List.mem_append_left _ hm)))⟩
      · obtain rfl := List.mem_singleton.mp he
        exact ⟨at_of N7 (by k_mem),fun hm=>nd_not nd (List.Mem.tail _ (List.mem_append_left _ hm))⟩
    case y3=>
      intro a t1 t2 t3 D oD h' tk' gs' F' N' hisD hltD hneA hDa hb
      have ndA:=nd_two hltD hneA hDa (by assumption)
      clear hltD hneA hDa
      k_steps
      all_goals (try (exact at_of (by assumption) (by k_mem)))
      all_goals (try (show _ ≤ _;rw [sizeLine_eq];(try simp only [List.length_append,List.length_cons,List.length_nil]);omega))
      (rename News _ _ _ _=>N8)
      refine Leave.intro (by assumption) fun kp=>?_
      show Q Value.none _
      refine' hret _ _ _ _ _ _ _ _ _ _ _ tok ?w1 ?w2 kp (fun z=>hb z)
      case w1=>exact fun p hp=>(N8 p (by repeat (first | exact hp | refine List.Mem.tail _ ?_))).1
      case w2=>exact hcx.imp id fun hn=>⟨hn.1,fresh_of N8 (by k_mem) kG (fun hm=>hn.2 (by repeat (first | exact hm | refine List.Mem.tail _ ?_)))⟩
theorem all : ∀ d,F d := eps_all (by with_unfolding_all exact core)
end W7k
theorem start2_spec {w : World} {mean : ExcName → Option Value} {mg mb : Str → Option Value} {h₀ : Heap} {s : Shared} {dp un : Nat} {fr : Option (List Env)} {gd : Option (List Code)} {Q E : Value → Shared → Prop}
  {A:WA} {at_ nn : Addr} {T:WT} {pc : SV} {pn : Nat} {da : SV} {dn : Nat} {es0 : List Addr} {en : Nat} {sv : List Value} {sn k kn : Nat} {rs rd : Bool} {c:Nat} {mo : Obj} {tb : Option (Addr × Obj)}
  (C:Cx w mean mg mb h₀ s ((nn,listOf #[] 0) :: (at_,dictOf [] 0) :: (wL w.params A T ⟨pc,pn,da,dn,es0 ++ [nn],en,sv,sn,k,kn,rs,rd,c,mo⟩ ++ tabLed tb))) (hd : dp + 16 < recursionLimit) (hu : un + 40 < cLine) (hO : WOrd A)
  (nd : NdA (nn :: at_ :: (wAddrs A ++ (tabLed tb).map (·.1)))) (hok : ∀ p,tb = some p → TabOk p.2)
  {tag : Str} {tt : Tok} (htag : tag.length = 1) (hbr : (Txt.slice tag none (some 1) == Str.ofString "{") = false)
  (hes : ∀ e ∈ es0,s.heap.get? e = some (listOf #[] 0) ∧ e ∉ nn :: at_ :: (wAddrs A ++ (tabLed tb).map (·.1))) (hfew : (es0 ++ [nn]).length < 1000) (hsys : sysModules < at_) (hk : k < 1000) (hpc : pc.length < 1000) (hsv : sv.length < 1000) (hCH : CodeHd h₀ 125 123)
  (hret : ∀ h' tk' gs' c' oc v t1 t2 pn' sn' kn',TabOk oc →
    (∀ p ∈ (nn,listOf #[] 0) :: (at_,dictOf [] 0) :: (wL w.params A T ⟨pc ++ [(Str.ofString "<" ++ tag,t1)] ++ [(Str.ofString ">",t2)],pn',da,dn,es0 ++ [nn],en,sv ++ [v],sn',k + 1,kn',true,rd,c,mo⟩ ++ tabLed (some (c',oc))),h'.get? p.1 = some p.2) →
    (tb = some (c',oc) ∨ (tb = none ∧ s.heap.get? c' = none)) →
    Keep (nn :: at_ :: (wAddrs A ++ (tabLed tb).map (·.1))) s { s with heap:=h',toks:=tk',gens:=gs' } → (AllBare s.gens → AllBare gs') → Q .none { s with heap:=h',toks:=tk',gens:=gs' }) :
  wpAny (model P0 w) (Ar dp fr gd un) (call (.ref 126) [.ref A.x,.str tag tt,.ref at_,.ref nn]) Q E s:=by
  have X0:=C.X.keeps C.st
  k_dflt (refine' enter_defC (binds:=[(Str.ofString "self",.ref A.x),(Str.ofString "tag",.str tag tt),(Str.ofString "attrs",.ref at_),(Str.ofString "new_namespaces",.ref nn),(Str.ofString "qname_text",.none)]) ?k1 ?k6 ?k7 ?k8 ?k9 ?kB ?kD ?_ ?c2 ?c3 ?c4)
  case k1=>assumption
  case k6=>k_is
  case k7=>k_is
  case k8=>omega
  case k9=>first | exact BindsTo.of_eq rfl | exact binds_K (by k_in) rfl (by k_is) rfl rfl rfl
  case kB=>exact rfl
  case kD=>decide +kernel
  case c2=>exact rfl
  case c3=>exact rfl
  case c4=>exact rfl
  k_whole
  intro g L h tk0 cells F N Y X TP kG lG eL
  refine' fn_get (W7k.all (A,at_,nn,T,pc,pn,da,dn,es0,en,sv,sn,k,kn,rs,rd,c,mo,tb,tag,tt,w,mean,mg,mb,h₀,s,dp,un,fr,gd,Q,g,L,h,tk0) C hd hu hO nd hok htag hbr hes hfew hsys hk hpc hsv hCH hret cells) ?ko F N Y X TP kG lG eL
  case ko=>k_is
end

end
section
set_option maxRecDepth 100000
noncomputable def Mark : Prop := True
section
theorem tb_mem {tb : Option (Addr × Obj)} {c : Addr} (h : tb.map (·.1) = some c) : c ∈ (tabLed tb).map (·.1) := by
  cases tb with
  | none=>cases h
  | some p=>cases h;exact List.Mem.tail _ (List.Mem.head _)
namespace W8k
noncomputable def PP (A : WA) (at_ : Addr) (T : WT) (pc : SV) (pn : Nat) (dn : Nat) (es : List Addr) (en : Nat) (sv : List Value) (sn : Nat) (k : Nat) (kn : Nat) (rd : Bool) (c : Nat) (mo : Obj) (tag : Str) (tt : Tok) (w : World) (mean : ExcName → Option Value) (mg : Str → Option Value) (mb : Str → Option Value) (h₀ : Heap) (s : Shared) (dp : Nat) (un : Nat) (fr : Option (List Env)) (gd : Option (List Code)) (Q : Value → Shared → Prop) (g : Heap) (L : Addr) (h : Heap) (tk0 : Tok) : Prop :=
  ∀ (da : SV) (rs : Bool) (tb : Option (Addr × Obj)) (C : Cx w mean mg mb h₀ s ((at_, dictOf [] 0) :: (wL w.params A T ⟨pc, pn, da, dn, es, en, sv, sn, k, kn, rs, rd, c, mo⟩ ++ tabLed tb))) (hd : dp + 20 < recursionLimit) (hu : un + 60 < cLine) (hO : WOrd A) (nd : NdA (at_ :: (wAddrs A ++ (tabLed tb).map (·.1)))) (hok : ∀ p, tb = some p → TabOk p.2) (htag : tag.length = 1) (hbr : (Txt.slice tag none (some 1) == Str.ofString "{") = false) (hda : da = [] ∨ ∃ gt tg, da = [(gt, tg)] ∧ gt.length = 1 ∧ PlainTx gt ∧ rs = true) (hes : ∀ e ∈ es, s.heap.get? e = some (listOf #[] 0) ∧ e ∉ at_ :: (wAddrs A ++ (tabLed tb).map (·.1))) (hfew : es.length < 900) (hsys : sysModules < at_) (hk : k < 900) (hpc : pc.length < 900) (hsv : sv.length < 900) (hCH : CodeHd h₀ 125 123) (hret : ∀ h' tk' gs' c' oc nn v ex t1 t2 pn' dn' en' sn' kn', TabOk oc → ex.map (·.1) = da.map (·.1) →
    (∀ p ∈ (nn,listOf #[] 0) :: (at_,dictOf [] 0) :: (wL w.params A T ⟨pc ++ ex ++ [(Str.ofString "<" ++ tag,t1)] ++ [(Str.ofString ">",t2)],pn',[],dn',es ++ [nn],en',sv ++ [v],sn',k + 1,kn',true,rd,c,mo⟩ ++ tabLed (some (c',oc))),h'.get? p.1 = some p.2) →
    s.heap.get? nn = none → (tb = some (c',oc) ∨ (tb = none ∧ s.heap.get? c' = none)) → nn ≠ c' →
    Keep (at_ :: (wAddrs A ++ (tabLed tb).map (·.1))) s { s with heap:=h',toks:=tk',gens:=gs' } → (AllBare s.gens → AllBare gs') → Q .none { s with heap:=h',toks:=tk',gens:=gs' }),
  BGoal wpAny w mean mg mb s ((at_,dictOf [] 0) :: (wL w.params A T ⟨pc,pn,da,dn,es,en,sv,sn,k,kn,rs,rd,c,mo⟩ ++ tabLed tb)) dp un fr gd 120 [(Str.ofString "self",.ref A.x),(Str.ofString "tag",.str tag tt),(Str.ofString "attrs",.ref at_)] Q g L h tk0
noncomputable def F := ucr fun A=>ucr fun at_=>ucr fun T=>ucr fun pc=>ucr fun pn=>ucr fun dn=>ucr fun es=>ucr fun en=>ucr fun sv=>ucr fun sn=>ucr fun k=>ucr fun kn=>ucr fun rd=>ucr fun c=>ucr fun mo=>ucr fun tag=>ucr fun tt=>ucr fun w=>ucr fun mean=>ucr fun mg=>ucr fun mb=>ucr fun h₀=>ucr fun s=>ucr fun dp=>ucr fun un=>ucr fun fr=>ucr fun gd=>ucr fun Q=>ucr fun g=>ucr fun L=>ucr fun h tk0=>PP A at_ T pc pn dn es en sv sn k kn rd c mo tag tt w mean mg mb h₀ s dp un fr gd Q g L h tk0
noncomputable section
@[irreducible] def zz := eps ((⟨0,0,0,0,0,0,0,0,0,0,0,0,0⟩),(0),(⟨0,0,0,0,0,0,0,0,0,0,0,0,0,0,0,0,0,0,0,0⟩),([]),(0),(0),([]),(0),([]),(0),(0),(0),(false),(0),(listOf #[] 0),(Str.empty),(0),d0) F
@[irreducible] def A := zz.1
@[irreducible] def at_ := zz.2.1
@[irreducible] def T := zz.2.2.1
@[irreducible] def pc := zz.2.2.2.1
@[irreducible] def pn := zz.2.2.2.2.1
@[irreducible] def dn := zz.2.2.2.2.2.1
@[irreducible] def es := zz.2.2.2.2.2.2.1
@[irreducible] def en := zz.2.2.2.2.2.2.2.1
@[irreducible] def zz8 := zz.2.2.2.2.2.2.2.2
@[irreducible] def sv := zz8.1
@[irreducible] def sn := zz8.2.1
@[irreducible] def k := zz8.2.2.1
@[irreducible] def kn := zz8.2.2.2.1
@[irreducible] def rd := zz8.2.2.2.2.1
@[irreducible] def c := zz8.2.2.2.2.2.1
@[irreducible] def mo := zz8.2.2.2.2.2.2.1
@[irreducible] def tag := zz8.2.2.2.2.2.2.2.1
@[irreducible] def zz16 := zz8.2.2.2.2.2.2.2.2
@[irreducible] def tt := zz16.1
@[irreducible] def w := zz16.2.1
@[irreducible] def mean := zz16.2.2.1
@[irreducible] def mg := zz16.2.2.2.1
@[irreducible] def mb := zz16.2.2.2.2.1
@[irreducible] def h₀ := zz16.2.2.2.2.2.1
@[irreducible] def s := zz16.2.2.2.2.2.2.1
@[irreducible] def dp := zz16.2.2.2.2.2.2.2.1
@[irreducible] def zz24 := zz16.2.2.2.2.2.2.2.2
@[irreducible] def un := zz24.1
@[irreducible] def fr := zz24.2.1
@[irreducible] def gd := zz24.2.2.1
@[irreducible] def Q := zz24.2.2.2.1
@[irreducible] def g := zz24.2.2.2.2.1
@[irreducible] def L := zz24.2.2.2.2.2.1
@[irreducible] def h := zz24.2.2.2.2.2.2.1
@[irreducible] def tk0 := zz24.2.2.2.2.2.2.2
end
theorem core : PP A at_ T pc pn dn es en sv sn k kn rd c mo tag tt w mean mg mb h₀ s dp un fr gd Q g L h tk0 := by
  k_with_none
  k_with "X.all" => first | with_reducible exact sub_wL | (with_reducible refine sub_tail ?_;k_allIn)
  k_with "X.isl" => first | (with_reducible assumption) | exact News.isList (by assumption) (by k_mem)
  k_with "M.mem" => first | ((with_reducible show _ ∈ _ :: _);first | exact List.Mem.head _ | (refine' List.Mem.tail _ ?kz;(case kz=>k_mem))) | (refine' List.mem_append_left _ ?kz;(case kz=>first | with_reducible exact mW_dx | with_reducible exact mW_P | with_reducible exact mW_q | with_reducible exact mW_ps | with_reducible exact mW_st | with_reducible exact mW_ns | with_reducible exact mW_d | with_reducible exact mW_x0 | with_reducible exact mW_tup | exact mW_x)) | with_reducible exact List.mem_append_right _ (List.Mem.tail _ (List.Mem.head _))
  k_with "X.at" => first | (with_reducible exact AtP.head) | (with_reducible refine' AtP.tail ?kz;(case kz=>k_extra "X.at")) | (with_reducible refine' AtP.app ?kz;(case kz=>first | with_reducible exact aW_P | with_reducible exact aW_d | with_reducible exact aW_ps | with_reducible exact aW_st | with_reducible exact aW_ns | with_reducible exact aW_dx | exact aW_P | exact aW_d | exact aW_ps | exact aW_st | exact aW_ns | exact aW_dx)) | ((with_reducible show AtP _ _ _ (_ :: _) _);exact AtP.head)
  k_with "M.inB" => first | with_reducible exact InB.here | (with_reducible refine' InB.tail ?kz;(case kz=>k_extra "M.inB"))
  k_with "M.inT" => first | with_reducible exact InTF.here | (with_reducible refine' InTF.app ?kz;(case kz=>with_reducible exact InTF.here)) | (with_reducible refine' InTF.tail ?kz;(case kz=>k_extra "M.inT"))
  k_with "X.atF" => ((with_reducible show AtF _ _ (_ :: _) _);first | exact AtF.head | (refine' AtF.tail ?kz;(case kz=>k_extra "X.atF")))
  k_with "M.in" => ((case k1=>assumption);(case k6=>k_is);(case k7=>k_is);(case k8=>omega);(case k9=>first | exact BindsTo.of_eq rfl | exact binds_K (by k_in) rfl (by k_is) rfl rfl rfl | (refine' kp_binds (by k_in) (by exact fun _=>rfl)));(case c5=>decide);(case kB=>exact locs rfl);(case c2=>exact rfl);(case c3=>exact rfl);(case c4=>exact rfl);k_whole)
  k_with "call ref" => ((with_reducible show wpAny _ _ (call (Value.ref _) [Value.str _ _]) _ _ _);k_dflt (refine' call_bd_K (by k_asm) (by k_asm) (by k_mem) (by k_upd) ?_ ?_;intro _ _ _;(try k_sweep)))
  k_with "truthy ref" => ((with_reducible show wpAny _ _ (truthy (Value.ref _)) _ _ _);k_dflt (first | (refine' truthy_da1 (by k_asm) (by k_mem) ?_) | (refine' truthy_da0 (by k_asm) (by k_mem) ?_)))
  k_with "call builtin:list.append" => (k_dflt (refine' append_es (by k_asm) (by k_asm) (by k_upd) ?_ ?_;intro _ _ _;(try k_sweep)))
  k_with "call ref" => ((with_reducible show wpAny _ _ (call (Value.ref 106) _) _ _ _);refine hold ?_)
  k_with "call ref" => ((with_reducible show wpAny _ _ (call (Value.ref 126) _) _ _ _);refine hold ?_)
  k_with "exec If" => ((with_reducible show wpAny _ _ (exec (Stmt.If (Expr.Attribute _ _ _) _ _ _) _) _ _ _);have hm2 : Mark:=(by assumption);clear hm2;refine hold ?_)
  intro da rs tb C hd hu hO nd hok htag hbr hda hes hfew hsys hk hpc hsv hCH hret F N X TP kG lG eL
  k_dflt (refine' bg_use ?k6 ?_;(case k6=>k_is);k_whole)
  clear lG
  (try dsimp only)
  replace hCH : CodeHd g 125 123:=hCH.keeps fun b o e=>kG b o (C.st b o e) fun hb=>by
    refine obEA (List.mem_map.mp hb) ?_;intro p hp oR2;subst oR2
    rw [(C.U p hp).2] at e;cases e
  have hmk : Mark:=trivial
  k_steps
  (rename Fr _ _ _ _=>F5)
  (rename News _ _ _ _=>N5)
  show wpAny _ _ _ _ _ _
  k_fold
  (rename Flow → Shared → Prop=>qk2)
  have K : ∀ h' tk' pcX pn' dn',(∃ ex : SV,ex.map (·.1) = da.map (·.1) ∧ pcX = pc ++ ex) → List.length pcX < 1000 → Fr g L h' (fun y=>[(Str.ofString "self",Value.ref A.x),(Str.ofString "tag",Value.str tag tt),(Str.ofString "attrs",Value.ref at_)].reverse.lookup y) →
      News g L h' ((at_,dictOf [] 0) :: (wL w.params A T ⟨pcX,pn',[],dn',es,en,sv,sn,k,kn,rs,rd,c,mo⟩ ++ tabLed tb)) → qk2 Flow.next ⟨h',s.gens,s.drawn,tk',s.os⟩:=by
    intro h' tk' pcX pn' dn' hex hpX2 F6 N6
    clear F5 N5
    k_steps
    all_goals (try (show _ ≤ _;rw [sizeLine_eq];omega))
    (rename Fr _ _ _ _=>F7)
    (rename News _ _ _ _=>N7)
    show wpAny _ _ _ _ _ _
    refine obEA hex ?_;clear hex;intro ex hx1 hx2
    subst hx2
    have nd7:=nd_fresh (D:=_) (fun p hp=>(C.U p hp).1) (fresh_of N7 (List.Mem.head _) kG (nd_not (by assumption))) nd
    refine' start2_spec (mean:=mean) (mg:=mg) (mb:=mb) (h₀:=g) (Cx.of X TP F7 N7 (fun p hp=>hp)) ?d ?u hO nd7 hok htag hbr ?hes ?few hsys ?hk hpX2 ?hsv hCH ?ret
    case d=>(try dsimp only [Around.deeper]);omega
    case u=>(try dsimp only [Around.deeper]);omega
    case hes=>
      intro e he
      refine obA (hes e he) ?_;intro a1 a2
      have b1:=kG e _ a1 a2
      exact ⟨F7.keep e _ b1,fun hm=>(List.mem_cons.mp hm).elim (fun z=>by
        subst z
        rw [(N7 (_,listOf #[] 0) (List.Mem.head _)).2.2] at b1;cases b1) a2⟩
    case few=>simp only [List.length_append,List.length_cons,List.length_nil];omega
    case hk=>omega
    case hsv=>omega
    case ret=>
      intro h2 tk2 gs2 c' oc v t1 t2 pn2 sn2 kn2 tok hw hcx kp hb
      have F8:=after_fr F7 (fun a ha=>Mine.News.addrs N7 a ha) kp
      have hnn:=fresh_of N7 (List.Mem.head _) kG (nd_not nd7)
      have hcx2 : tb = some (c',oc) ∨ (tb = none ∧ s.heap.get? c' = none):=hcx.imp id fun hn=>⟨hn.1,fresh2 F7 N7 kG (fun b hb=>by show b ∈ _ :: at_ :: (wAddrs A ++ (tabLed tb).map (·.1));exact List.Mem.tail _ hb) hn.2⟩
      have hne : _ ≠ c':=hcx.elim (fun z e=>nd_not nd7 (by subst e;exact (List.Mem.tail _ (List.mem_append_right _ (tb_mem (by rw [z];rfl))) : _ ∈ at_ :: (wAddrs A ++ (tabLed tb).map (·.1))))) (fun hn=>ne_of_fresh (N7 (_,listOf #[] 0) (List.Mem.head _)).1 hn.2)
      clear N7 F7
      k_steps
      refine Leave.intro (by assumption) fun kp8=>?_
      show Q Value.none _
      exact hret _ _ _ _ _ _ _ ex _ _ _ _ _ _ _ tok hx1 hw hnn hcx2 hne kp8 (fun z=>hb z)
  clear_value qk2
  clear hmk
  rcases hda with hda0 | ⟨gt,tg,hda0,hg,hpl,hrs⟩
  · subst hda0
    k_steps
    exact K _ _ _ _ _ ⟨[],rfl,(List.append_nil _).symm⟩ (by omega) (by assumption) (by assumption)
  · subst hda0 hrs
    k_steps
    (rename Fr _ _ _ _=>F7)
    (rename News _ _ _ _=>N7)
    show wpAny _ _ _ _ _ _
    refine' flush_spec (mean:=mean) (mg:=mg) (mb:=mb) (h₀:=g) (A:=A) (T:=T) (V:=⟨pc,pn,[(gt,tg)],dn,es,en,sv,sn,k,kn,true,rd,c,mo⟩) (Cx.of X TP F7 N7 (sub_tail sub_wL)) ?d1 ?u1 hO hg hpl rfl rfl ?p1 ?r1
    case d1=>(try dsimp only [Around.deeper]);omega
    case u1=>(try dsimp only [Around.deeper]);omega
    case p1=>show pc.length < 1000;omega
    intro h1 tk1 dn1 t0 hw1 kp1
    refine obA (step_wL F7 N7 (by exact nd) (by k_extra "M.inB") kp1 hw1) ?_;intro F6 N6
    dsimp only at N6
    clear F7 N7 hw1 kp1
    k_steps
    exact K _ _ _ _ _ ⟨[(gt,t0)],rfl,rfl⟩ (by rw [List.length_append];show _ + 1 < _;omega) (by assumption) (by assumption)
theorem all : ∀ d,F d := eps_all (by with_unfolding_all exact core)
end W8k
theorem start_spec {w : World} {mean : ExcName → Option Value} {mg mb : Str → Option Value} {h₀ : Heap} {s : Shared} {dp un : Nat} {fr : Option (List Env)} {gd : Option (List Code)} {Q E : Value → Shared → Prop}
  {A:WA} {at_ : Addr} {T:WT} {pc : SV} {pn : Nat} {da : SV} {dn : Nat} {es : List Addr} {en : Nat} {sv : List Value} {sn k kn : Nat} {rs rd : Bool} {c:Nat} {mo : Obj} {tb : Option (Addr × Obj)}
  (C:Cx w mean mg mb h₀ s ((at_,dictOf [] 0) :: (wL w.params A T ⟨pc,pn,da,dn,es,en,sv,sn,k,kn,rs,rd,c,mo⟩ ++ tabLed tb))) (hd : dp + 20 < recursionLimit) (hu : un + 60 < cLine) (hO : WOrd A)
  (nd : NdA (at_ :: (wAddrs A ++ (tabLed tb).map (·.1)))) (hok : ∀ p,tb = some p → TabOk p.2)
  {tag : Str} {tt : Tok} (htag : tag.length = 1) (hbr : (Txt.slice tag none (some 1) == Str.ofString "{") = false)
  (hda : da = [] ∨ ∃ gt tg,da = [(gt,tg)] ∧ gt.length = 1 ∧ PlainTx gt ∧ rs = true)
  (hes : ∀ e ∈ es,s.heap.get? e = some (listOf #[] 0) ∧ e ∉ at_ :: (wAddrs A ++ (tabLed tb).map (·.1))) (hfew : es.length < 900) (hsys : sysModules < at_) (hk : k < 900) (hpc : pc.length < 900) (hsv : sv.length < 900) (hCH : CodeHd h₀ 125 123)
  (hret : ∀ h' tk' gs' c' oc nn v ex t1 t2 pn' dn' en' sn' kn',TabOk oc → ex.map (·.1) = da.map (·.1) →
    (∀ p ∈ (nn,listOf #[] 0) :: (at_,dictOf [] 0) :: (wL w.params A T ⟨pc ++ ex ++ [(Str.ofString "<" ++ tag,t1)] ++ [(Str.ofString ">",t2)],pn',[],dn',es ++ [nn],en',sv ++ [v],sn',k + 1,kn',true,rd,c,mo⟩ ++ tabLed (some (c',oc))),h'.get? p.1 = some p.2) →
    s.heap.get? nn = none → (tb = some (c',oc) ∨ (tb = none ∧ s.heap.get? c' = none)) → nn ≠ c' →
    Keep (at_ :: (wAddrs A ++ (tabLed tb).map (·.1))) s { s with heap:=h',toks:=tk',gens:=gs' } → (AllBare s.gens → AllBare gs') → Q .none { s with heap:=h',toks:=tk',gens:=gs' }) :
  wpAny (model P0 w) (Ar dp fr gd un) (call (.ref 120) [.ref A.x,.str tag tt,.ref at_]) Q E s:=by
  have X0:=C.X.keeps C.st
  k_dflt (refine' enter_def (binds:=[(Str.ofString "self",.ref A.x),(Str.ofString "tag",.str tag tt),(Str.ofString "attrs",.ref at_)]) ?k1 ?k6 ?k7 ?k8 ?k9 ?kB ?_ ?c2 ?c3 ?c4 ?c5;k_extra "M.in")
  intro g L h F N X TP kG lG eL
  refine' fn_get (W8k.all (A,at_,T,pc,pn,dn,es,en,sv,sn,k,kn,rd,c,mo,tag,tt,w,mean,mg,mb,h₀,s,dp,un,fr,gd,Q,g,L,h,_) da rs tb C hd hu hO nd hok htag hbr hda hes hfew hsys hk hpc hsv hCH hret F N X TP kG lG eL) ?ko
  case ko=>k_is
end

end
section
set_option maxRecDepth 100000
section
namespace W9k
noncomputable def PP (A : WA) (T : WT) (pc : SV) (pn : Nat) (gt : Str) (tg : Tok) (dn : Nat) (es0 : List Addr) (nn : Addr) (en : Nat) (sv0 : List Value) (v0 : Value) (sn : Nat) (k : Nat) (kn : Nat) (rd : Bool) (c : Nat) (mo : Obj) (tag : Str) (tt : Tok) (w : World) (mean : ExcName → Option Value) (mg : Str → Option Value) (mb : Str → Option Value) (h₀ : Heap) (s : Shared) (dp : Nat) (un : Nat) (fr : Option (List Env)) (gd : Option (List Code)) (Q : Value → Shared → Prop) (g : Heap) (L : Addr) (h : Heap) (tk0 : Tok) : Prop :=
  ∀ (C : Cx w mean mg mb h₀ s (wL w.params A T ⟨pc, pn, [(gt, tg)], dn, es0 ++ [nn], en, sv0 ++ [v0], sn, (k + 1), kn, true, rd, c, mo⟩ ++ [])) (hd : dp + 20 < recursionLimit) (hu : un + 60 < cLine) (hO : WOrd A) (htag : tag.length = 1) (hbr : (Txt.slice tag none (some 1) == Str.ofString "{") = false) (hg : gt.length = 1) (hpl : PlainTx gt) (hes : ∀ e ∈ es0 ++ [nn], s.heap.get? e = some (listOf #[] 0) ∧ e ∉ wAddrs A) (hfew : (es0 ++ [nn]).length < 900) (hpc : pc.length < 900) (hsv : (sv0 ++ [v0]).length < 900) (hk : k + 1 < 900) (hret : ∀ h' tk' gs' t0 t1 pn' dn' en' sn' kn' rd',
    (∀ p ∈ wL w.params A T ⟨pc ++ [(gt,t0)] ++ [(Str.ofString "</" ++ tag ++ Str.ofString ">",t1)],pn',[],dn',es0,en',sv0,sn',k,kn',true,rd',c,mo⟩,h'.get? p.1 = some p.2) →
    Keep (wAddrs A) s { s with heap:=h',toks:=tk',gens:=gs' } → (AllBare s.gens → AllBare gs') → Q .none { s with heap:=h',toks:=tk',gens:=gs' }),
  BGoal wpAny w mean mg mb s (wL w.params A T ⟨pc,pn,[(gt,tg)],dn,es0 ++ [nn],en,sv0 ++ [v0],sn,(k + 1),kn,true,rd,c,mo⟩ ++ []) dp un fr gd 133 [(Str.ofString "self",.ref A.x),(Str.ofString "tag",.str tag tt)] Q g L h tk0
noncomputable def F := ucr fun A=>ucr fun T=>ucr fun pc=>ucr fun pn=>ucr fun gt=>ucr fun tg=>ucr fun dn=>ucr fun es0=>ucr fun nn=>ucr fun en=>ucr fun sv0=>ucr fun v0=>ucr fun sn=>ucr fun k=>ucr fun kn=>ucr fun rd=>ucr fun c=>ucr fun mo=>ucr fun tag=>ucr fun tt=>ucr fun w=>ucr fun mean=>ucr fun mg=>ucr fun mb=>ucr fun h₀=>ucr fun s=>ucr fun dp=>ucr fun un=>ucr fun fr=>ucr fun gd=>ucr fun Q=>ucr fun g=>ucr fun L=>ucr fun h tk0=>PP A T pc pn gt tg dn es0 nn en sv0 v0 sn k kn rd c mo tag tt w mean mg mb h₀ s dp un fr gd Q g L h tk0
noncomputable section
@[irreducible] def zz := eps ((⟨0,0,0,0,0,0,0,0,0,0,0,0,0⟩),(⟨0,0,0,0,0,0,0,0,0,0,0,0,0,0,0,0,0,0,0,0⟩),([]),(0),(Str.empty),(0),(0),([]),(0),(0),([]),(.none),(0),(0),(0),(false),(0),(listOf #[] 0),(Str.empty),(0),d0) F
@[irreducible] def A := zz.1
@[irreducible] def T := zz.2.1
@[irreducible] def pc := zz.2.2.1
@[irreducible] def pn := zz.2.2.2.1
@[irreducible] def gt := zz.2.2.2.2.1
@[irreducible] def tg := zz.2.2.2.2.2.1
@[irreducible] def dn := zz.2.2.2.2.2.2.1
@[irreducible] def es0 := zz.2.2.2.2.2.2.2.1
@[irreducible] def zz8 := zz.2.2.2.2.2.2.2.2
@[irreducible] def nn := zz8.1
@[irreducible] def en := zz8.2.1
@[irreducible] def sv0 := zz8.2.2.1
@[irreducible] def v0 := zz8.2.2.2.1
@[irreducible] def sn := zz8.2.2.2.2.1
@[irreducible] def k := zz8.2.2.2.2.2.1
@[irreducible] def kn := zz8.2.2.2.2.2.2.1
@[irreducible] def rd := zz8.2.2.2.2.2.2.2.1
@[irreducible] def zz16 := zz8.2.2.2.2.2.2.2.2
@[irreducible] def c := zz16.1
@[irreducible] def mo := zz16.2.1
@[irreducible] def tag := zz16.2.2.1
@[irreducible] def tt := zz16.2.2.2.1
@[irreducible] def w := zz16.2.2.2.2.1
@[irreducible] def mean := zz16.2.2.2.2.2.1
@[irreducible] def mg := zz16.2.2.2.2.2.2.1
@[irreducible] def mb := zz16.2.2.2.2.2.2.2.1
@[irreducible] def zz24 := zz16.2.2.2.2.2.2.2.2
@[irreducible] def h₀ := zz24.1
@[irreducible] def s := zz24.2.1
@[irreducible] def dp := zz24.2.2.1
@[irreducible] def un := zz24.2.2.2.1
@[irreducible] def fr := zz24.2.2.2.2.1
@[irreducible] def gd := zz24.2.2.2.2.2.1
@[irreducible] def Q := zz24.2.2.2.2.2.2.1
@[irreducible] def g := zz24.2.2.2.2.2.2.2.1
@[irreducible] def zz32 := zz24.2.2.2.2.2.2.2.2
@[irreducible] def L := zz32.1
@[irreducible] def h := zz32.2.1
@[irreducible] def tk0 := zz32.2.2
end
theorem core : PP A T pc pn gt tg dn es0 nn en sv0 v0 sn k kn rd c mo tag tt w mean mg mb h₀ s dp un fr gd Q g L h tk0 := by
  k_with_none
  k_with "getMethod ref" => (k_dflt (refine' kmu_own (by k_asm) (by k_asm) (by k_inst) (by k_is) (by k_is) ?_;k_whole))
  k_with "X.all" => first | with_reducible exact sub_wL | (with_reducible refine sub_tail ?_;k_allIn)
  k_with "X.isl" => first | (with_reducible assumption) | exact News.isList (by assumption) (by k_mem)
  k_with "M.mem" => first | ((with_reducible show _ ∈ _ :: _);first | exact List.Mem.head _ | (refine' List.Mem.tail _ ?kz;(case kz=>k_mem))) | (refine' List.mem_append_left _ ?kz;(case kz=>first | with_reducible exact mW_dx | with_reducible exact mW_P | with_reducible exact mW_q | with_reducible exact mW_ps | with_reducible exact mW_st | with_reducible exact mW_ns | with_reducible exact mW_d | with_reducible exact mW_x0 | with_reducible exact mW_tup | exact mW_x)) | with_reducible exact List.mem_append_right _ (List.Mem.tail _ (List.Mem.head _))
  k_with "X.at" => first | (with_reducible exact AtP.head) | (with_reducible refine' AtP.tail ?kz;(case kz=>k_extra "X.at")) | (with_reducible refine' AtP.app ?kz;(case kz=>first | with_reducible exact aW_P | with_reducible exact aW_d | with_reducible exact aW_ps | with_reducible exact aW_st | with_reducible exact aW_ns | with_reducible exact aW_dx | exact aW_P | exact aW_d | exact aW_ps | exact aW_st | exact aW_ns | exact aW_dx)) | ((with_reducible show AtP _ _ _ (_ :: _) _);exact AtP.head)
  k_with "M.inB" => first | with_reducible exact InB.here | (with_reducible refine' InB.tail ?kz;(case kz=>k_extra "M.inB"))
  k_with "M.inT" => first | with_reducible exact InTF.here | (with_reducible refine' InTF.app ?kz;(case kz=>with_reducible exact InTF.here)) | (with_reducible refine' InTF.tail ?kz;(case kz=>k_extra "M.inT"))
  k_with "X.atF" => ((with_reducible show AtF _ _ (_ :: _) _);first | exact AtF.head | (refine' AtF.tail ?kz;(case kz=>k_extra "X.atF")))
  k_with "M.in" => ((case k1=>assumption);(case k6=>k_is);(case k7=>k_is);(case k8=>omega);(case k9=>first | exact BindsTo.of_eq rfl | exact binds_K (by k_in) rfl (by k_is) rfl rfl rfl | (refine' kp_binds (by k_in) (by exact fun _=>rfl)));(case c5=>decide);(case kB=>exact locs rfl);(case c2=>exact rfl);(case c3=>exact rfl);(case c4=>exact rfl);k_whole)
  k_with "call ref" => ((with_reducible show wpAny _ _ (call (Value.ref 98) _) _ _ _);k_dflt (refine' call_join98 (by k_asm) (by k_asm) (by assumption) (by k_mem) ?_ ?_;rotate_left;intro _ _))
  k_with "callWith ref" => (k_dflt (refine' callWith_bd_K (by k_asm) (by k_mem) ?_))
  k_with "And" => ((with_reducible show Heap.get? _ _ = some (boundAppend _) ∧ _);refine ⟨at_bd (by assumption) (by k_mem),?_⟩;try dsimp only [List.nil_append,List.cons_append])
  k_with "call ref" => ((with_reducible show wpAny _ _ (call (Value.ref _) [Value.str _ _]) _ _ _);k_dflt (refine' call_bd_K (by k_asm) (by k_asm) (by k_mem) (by k_upd) ?_ ?_;intro _ _ _;(try k_sweep)))
  k_with "truthy ref" => ((with_reducible show wpAny _ _ (truthy (Value.ref _)) _ _ _);k_dflt (first | (refine' truthy_da1 (by k_asm) (by k_mem) ?_) | (refine' truthy_da0 (by k_asm) (by k_mem) ?_)))
  k_with "call builtin:list.pop" => (k_dflt (refine' pop_vals (by k_asm) (by k_asm) (by k_upd) ?_ ?_;intro _ _ _;(try k_sweep)))
  k_with "call builtin:list.pop" => (k_dflt (refine' pop_es (by k_asm) (by k_asm) (by k_upd) ?_ ?_;intro _ _ _;(try k_sweep)))
  k_with "call builtin:list.pop" => (k_dflt (refine' pop_ps (by k_asm) (by k_asm) (by k_upd) ?_ ?_;intro _ _ _;(try k_sweep)))
  k_with "call builtin:len" => ((with_reducible show wpAny _ _ (call (Value.builtin "len") [Value.ref _]) _ _ _);k_dflt (refine' len_ps (by k_asm) (by k_mem) (by omega) ?_))
  k_with "setAttr ref" => (k_dflt (refine' set_rd (by k_asm) (by assumption) (by k_asm) (by assumption) (by k_inst) (by exact rfl) (by k_is) (by k_is) (by k_is) (by k_is) (by k_upd) ?_;intro _ _ _;(try k_sweep)))
  k_with "call ref" => ((with_reducible show wpAny _ _ (call (Value.ref 106) _) _ _ _);refine hold ?_)
  k_with "call ref" => ((with_reducible show wpAny _ _ (call (Value.ref 90) _) _ _ _);refine hold ?_)
  intro C hd hu hO htag hbr hg hpl hes hfew hpc hsv hk hret F N X TP kG lG eL
  k_dflt (refine' bg_use ?k6 ?_;(case k6=>k_is);k_whole)
  clear lG
  (try dsimp only)
  have nd:=nd_of hO
  have hW : WTag w.params A T true rd (wEnts w.params A T true rd):=WTag.mk
  k_steps
  (rename Fr _ _ _ _=>F5)
  (rename News _ _ _ _=>N5)
  show wpAny _ _ _ _ _ _
  refine' flush_spec (mean:=mean) (mg:=mg) (mb:=mb) (h₀:=g) (A:=A) (T:=T) (V:=⟨pc,pn,[(gt,tg)],dn,es0 ++ [nn],en,sv0 ++ [v0],sn,k + 1,kn,true,rd,c,mo⟩) (Cx.of X TP F5 N5 sub_wL) ?d1 ?u1 hO hg hpl rfl rfl ?p1 ?r1
  case d1=>(try dsimp only [Around.deeper]);omega
  case u1=>(try dsimp only [Around.deeper]);omega
  case p1=>show pc.length < 1000;omega
  intro h1 tk1 dn1 t0 hw1 kp1
  refine obA (step_wL F5 N5 (by exact nd) (by k_extra "M.inB") kp1 hw1) ?_;intro F6 N6
  dsimp only at N6
  clear hw1 N5 F5 kp1
  k_steps
  (rename Fr _ _ _ _=>F7)
  (rename News _ _ _ _=>N7)
  show wpAny _ _ _ _ _ _
  refine wpAny_call ?_
  refine' (qname_all (mean:=mean) (mg:=mg) (mb:=mb) (h₀:=g) (A:=A) (T:=T) (V:=⟨pc ++ [(gt,t0)],pn + 1,[],dn1,es0 ++ [nn],en,sv0 ++ [v0],sn,k + 1,kn,true,rd,c,mo⟩) ?cc2 ?d2 ?u2 hO ?he2 htag hbr ?few2 ?r2)
  case cc2=>exact Cx.of X TP F7 N7 sub_wL
  case d2=>(try dsimp only [Around.deeper]);omega
  case u2=>(try dsimp only [Around.deeper]);omega
  case few2=>exact Nat.lt_trans hfew (by decide)
  case he2=>
    intro e he
    refine obA (hes e he) ?_;intro a1 a2
    exact ⟨F7.keep e _ (kG e _ a1 a2),a2⟩
  intro a t1 t2 t3 h2 tk2 gs2 kp2 ha hn2 hb2
  have F8:=fr_all F7 kp2
  have N8:=news_add F7 (news_all N7 kp2) ha hn2
  have ndA:=nd_fresh (fun p hp=>(N7 p hp).1) hn2 (by exact nd)
  clear N7 F7 kp2 ha hn2
  simp only [List.length_append,List.length_cons,List.length_nil] at hsv hfew
  show wpAny _ _ _ _ _ _
  k_steps
  all_goals (try (exact at_of (by assumption) (by k_mem)))
  all_goals (try (show _ ≤ _;rw [sizeLine_eq];(try simp only [List.length_append,List.length_cons,List.length_nil]);omega))
  (rename News _ _ _ _=>N9)
  rw [show Str.empty ++ Str.ofString "</" = Str.ofString "</" by kernel_rfl] at N9
  refine Leave.intro (by assumption) fun kp9=>?_
  show Q Value.none _
  refine' hret _ _ _ _ _ _ _ _ _ _ _ ?w1 kp9 (fun z=>hb2 z)
  case w1=>exact fun p hp=>(N9 p (List.Mem.tail _ (List.mem_append_left _ (by with_unfolding_all exact hp)))).1
theorem all : ∀ d,F d := eps_all (by with_unfolding_all exact core)
end W9k
theorem end_spec {w : World} {mean : ExcName → Option Value} {mg mb : Str → Option Value} {h₀ : Heap} {s : Shared} {dp un : Nat} {fr : Option (List Env)} {gd : Option (List Code)} {Q E : Value → Shared → Prop}
  {A:WA} {T:WT} {pc : SV} {pn : Nat} {gt : Str} {tg : Tok} {dn : Nat} {es0 : List Addr} {nn : Addr} {en : Nat} {sv0 : List Value} {v0 : Value} {sn k kn : Nat} {rd : Bool} {c:Nat} {mo : Obj}
  (C:Cx w mean mg mb h₀ s (wL w.params A T ⟨pc,pn,[(gt,tg)],dn,es0 ++ [nn],en,sv0 ++ [v0],sn,(k + 1),kn,true,rd,c,mo⟩ ++ [])) (hd : dp + 20 < recursionLimit) (hu : un + 60 < cLine) (hO : WOrd A)
  {tag : Str} {tt : Tok} (htag : tag.length = 1) (hbr : (Txt.slice tag none (some 1) == Str.ofString "{") = false) (hg : gt.length = 1) (hpl : PlainTx gt)
  (hes : ∀ e ∈ es0 ++ [nn],s.heap.get? e = some (listOf #[] 0) ∧ e ∉ wAddrs A) (hfew : (es0 ++ [nn]).length < 900) (hpc : pc.length < 900) (hsv : (sv0 ++ [v0]).length < 900) (hk : k + 1 < 900)
  (hret : ∀ h' tk' gs' t0 t1 pn' dn' en' sn' kn' rd',
    (∀ p ∈ wL w.params A T ⟨pc ++ [(gt,t0)] ++ [(Str.ofString "</" ++ tag ++ Str.ofString ">",t1)],pn',[],dn',es0,en',sv0,sn',k,kn',true,rd',c,mo⟩,h'.get? p.1 = some p.2) →
    Keep (wAddrs A) s { s with heap:=h',toks:=tk',gens:=gs' } → (AllBare s.gens → AllBare gs') → Q .none { s with heap:=h',toks:=tk',gens:=gs' }) :
  wpAny (model P0 w) (Ar dp fr gd un) (call (.ref 133) [.ref A.x,.str tag tt]) Q E s:=by
  have X0:=C.X.keeps C.st
  k_dflt (refine' enter_def (binds:=[(Str.ofString "self",.ref A.x),(Str.ofString "tag",.str tag tt)]) ?k1 ?k6 ?k7 ?k8 ?k9 ?kB ?_ ?c2 ?c3 ?c4 ?c5;k_extra "M.in")
  intro g L h F N X TP kG lG eL
  refine' fn_get (W9k.all (A,T,pc,pn,gt,tg,dn,es0,nn,en,sv0,v0,sn,k,kn,rd,c,mo,tag,tt,w,mean,mg,mb,h₀,s,dp,un,fr,gd,Q,g,L,h,_) C hd hu hO htag hbr hg hpl hes hfew hpc hsv hk hret F N X TP kG lG eL) ?ko
  case ko=>k_is
end

end
section
set_option maxRecDepth 100000
section
variable {A : WA} {tb : Option (Addr × Obj)} {c' e : Addr} {oc : Obj} {h : Heap}
theorem nd_pre {l r : List Addr} (n : NdA (l ++ r)) : NdA l := by
  induction l with
  | nil=>trivial
  | cons a l ih=>exact ⟨fun b hb=>n.1 b (List.mem_append_left _ hb),ih n.2⟩
theorem tab_pre : ∃ r,wAddrs A ++ (tabLed tb).map (·.1) = (wAddrs A ++ [123]) ++ r := by
  cases tb with
  | none=>exact ⟨[],rfl⟩
  | some p=>exact ⟨[p.1],(List.append_assoc (wAddrs A) [123] [p.1]).symm⟩
theorem nd_newtab (nd : NdA (wAddrs A ++ (tabLed tb).map (·.1))) (hl : ∀ a ∈ wAddrs A ++ (tabLed tb).map (·.1),∃ o,h.get? a = some o) (hc : tb.map (·.1) = some c' ∨ h.get? c' = none) : NdA (wAddrs A ++ (tabLed (some (c',oc))).map (·.1)) := by
  rcases hc with hc | hc
  · cases tb with
    | none=>cases hc
    | some p=>cases hc;exact nd
  · refine obE (tab_pre (A := A) (tb := tb)) ?_; intro r hr
    rw [hr] at nd hl
    have n1:=nd_snoc (c:=c') (nd_pre nd) fun b hb q=>by
      refine obE (hl b (List.mem_append_left _ hb)) ?_;intro o ho
      rw [q,hc] at ho;cases ho
    rw [List.append_assoc] at n1
    exact n1
theorem not_newtab (hn : e ∉ wAddrs A ++ (tabLed tb).map (·.1)) (he : ∃ o,h.get? e = some o) (hc : tb.map (·.1) = some c' ∨ h.get? c' = none) : e ∉ wAddrs A ++ (tabLed (some (c',oc))).map (·.1) := by
  intro hm
  have hm2 : e ∈ (wAddrs A ++ [123]) ++ [c']:=by rw [List.append_assoc];exact hm
  refine obE (tab_pre (A:=A) (tb:=tb)) ?_;intro r hr
  rcases List.mem_append.mp hm2 with hm2 | hm2
  · rw [hr] at hn;exact hn (List.mem_append_left _ hm2)
  · obtain rfl := List.mem_singleton.mp hm2
    rcases hc with hc | hc
    · exact hn (List.mem_append_right _ (tb_mem hc))
    · refine obE he ?_; clear he; intro o ho
      rw [hc] at ho;cases ho
end
theorem nd_suf {l r : List Addr} (n : NdA (l ++ r)) : NdA r := by
  induction l with
  | nil=>exact n
  | cons a l ih=>exact ih n.2
theorem nd_disj {l r : List Addr} (n : NdA (l ++ r)) : ∀ a ∈ r,a ∉ l := by
  induction l with
  | nil=>exact fun _ _ h=>nomatch h
  | cons b l ih =>
    intro a ha hm
    rcases List.mem_cons.mp hm with rfl | hm
    · exact n.1 a (List.mem_append_right _ ha) rfl
    · exact ih n.2 a ha hm
theorem cons_sub {α : Type} {c : α} {U l : List α} (h : ∀ p ∈ U,p ∈ l) : ∀ p ∈ c :: U,p ∈ c :: l := fun p hp=>(List.mem_cons.mp hp).elim (fun e=>e ▸ List.Mem.head _) (fun q=>List.Mem.tail _ (h p q))
theorem tab_123 : ∀ {tb : Option (Addr × Obj)},∃ o,(123,o) ∈ tabLed tb
  | none=>⟨_,List.Mem.head _⟩
  | some _=>⟨_,List.Mem.head _⟩
noncomputable abbrev FrAt {h₀ : Heap} {L : Addr} {h : Heap} {m : Str → Option Value} (_ : Fr h₀ L h m) (h' : Heap) : Prop := Fr h₀ L h' m
section
local macro_rules | `(tactic| k_lt $h) => `(tactic| skip)
namespace W10k
noncomputable def PP (wA : Addr) (gA : Addr) (wv : List Value) (gv : List Value) (ev : List Ev) (gaps : List Str) (w : World) (mean : ExcName → Option Value) (mg : Str → Option Value) (mb : Str → Option Value) (h₀ : Heap) (s : Shared) (dp : Nat) (un : Nat) (fr : Option (List Env)) (gd : Option (List Code)) (Q : Value → Shared → Prop) (g : Heap) (L : Addr) (h : Heap) (tk0 : Tok) : Prop :=
  ∀ (tb₀ : Option (Addr × Obj)) (hok : ∀ p, tb₀ = some p → TabOk p.2 ∧ p.1 ≠ 123) (C : Cx w mean mg mb h₀ s (tabLed tb₀)) (hd : dp + 40 < recursionLimit) (hu : un + 120 < cLine) (hw : s.heap.IsList wA wv.toArray) (hg : s.heap.IsList gA gv.toArray) (hwv : StrsAre wv (ev.map wordOf)) (hgv : StrsAre gv gaps) (hwU : ∀ a ∈ (tabLed tb₀).map (·.1), wA ≠ a ∧ gA ≠ a) (hCH : CodeHd h₀ 125 123) (hl1 : 0 < ev.length) (hl2 : ev.length ≤ gaps.length) (hl3 : ev.length < 100) (hN : ∀ e ∈ ev, NameTx e.2) (hG : ∀ x ∈ gaps, x.length = 1 ∧ PlainTx x) (hop : ∀ j n, ev[j]? = some (false, n) → 0 < opensAt ev j) (hret : ∀ t h' tk' gs' tb, (tb ≠ none ∧ ∀ p, tb = some p → TabOk p.2 ∧ p.1 ≠ 123) → (tb₀ ≠ none → tb = tb₀) → (∀ p ∈ tabLed tb, h'.get? p.1 = some p.2) → (∀ p ∈ tabLed tb, p.1 ∈ (tabLed tb₀).map (·.1) ∨ s.heap.get? p.1 = none) →
    Keep ((tabLed tb₀).map (·.1)) s { s with heap:=h',toks:=tk',gens:=gs' } → (AllBare s.gens → AllBare gs') → Q (.str (textN (ev.map wordOf) gaps (ev.length - 1)) t) { s with heap:=h',toks:=tk',gens:=gs' }),
  BGoal wpAny w mean mg mb s (tabLed tb₀) dp un fr gd 287 [(Str.ofString "words",.ref wA),(Str.ofString "gaps",.ref gA)] Q g L h tk0
noncomputable def F := ucr fun wA=>ucr fun gA=>ucr fun wv=>ucr fun gv=>ucr fun ev=>ucr fun gaps=>ucr fun w=>ucr fun mean=>ucr fun mg=>ucr fun mb=>ucr fun h₀=>ucr fun s=>ucr fun dp=>ucr fun un=>ucr fun fr=>ucr fun gd=>ucr fun Q=>ucr fun g=>ucr fun L=>ucr fun h tk0=>PP wA gA wv gv ev gaps w mean mg mb h₀ s dp un fr gd Q g L h tk0
noncomputable section
@[irreducible] def zz := eps ((0),(0),([]),([]),([]),([]),d0) F
@[irreducible] def wA := zz.1
@[irreducible] def gA := zz.2.1
@[irreducible] def wv := zz.2.2.1
@[irreducible] def gv := zz.2.2.2.1
@[irreducible] def ev := zz.2.2.2.2.1
@[irreducible] def gaps := zz.2.2.2.2.2.1
@[irreducible] def w := zz.2.2.2.2.2.2.1
@[irreducible] def mean := zz.2.2.2.2.2.2.2.1
@[irreducible] def zz8 := zz.2.2.2.2.2.2.2.2
@[irreducible] def mg := zz8.1
@[irreducible] def mb := zz8.2.1
@[irreducible] def h₀ := zz8.2.2.1
@[irreducible] def s := zz8.2.2.2.1
@[irreducible] def dp := zz8.2.2.2.2.1
@[irreducible] def un := zz8.2.2.2.2.2.1
@[irreducible] def fr := zz8.2.2.2.2.2.2.1
@[irreducible] def gd := zz8.2.2.2.2.2.2.2.1
@[irreducible] def zz16 := zz8.2.2.2.2.2.2.2.2
@[irreducible] def Q := zz16.1
@[irreducible] def g := zz16.2.1
@[irreducible] def L := zz16.2.2.1
@[irreducible] def h := zz16.2.2.2.1
@[irreducible] def tk0 := zz16.2.2.2.2
end
theorem core : PP wA gA wv gv ev gaps w mean mg mb h₀ s dp un fr gd Q g L h tk0 := by
  k_with_none
  k_with "X.all" => first | with_reducible exact sub_wL | (with_reducible refine sub_tail ?_;k_allIn)
  k_with "X.isl" => first | (with_reducible assumption) | exact News.isList (by assumption) (by k_mem)
  k_with "M.mem" => first | ((with_reducible show _ ∈ _ :: _);first | exact List.Mem.head _ | (refine' List.Mem.tail _ ?kz;(case kz=>k_mem))) | (refine' List.mem_append_left _ ?kz;(case kz=>first | with_reducible exact mW_dx | with_reducible exact mW_P | with_reducible exact mW_q | with_reducible exact mW_ps | with_reducible exact mW_st | with_reducible exact mW_ns | with_reducible exact mW_d | with_reducible exact mW_x0 | with_reducible exact mW_tup | exact mW_x)) | with_reducible exact List.mem_append_right _ (List.Mem.tail _ (List.Mem.head _))
  k_with "X.at" => first | (with_reducible exact AtP.head) | (with_reducible refine' AtP.tail ?kz;(case kz=>k_extra "X.at")) | (with_reducible refine' AtP.app ?kz;(case kz=>first | with_reducible exact aW_P | with_reducible exact aW_d | with_reducible exact aW_ps | with_reducible exact aW_st | with_reducible exact aW_ns | with_reducible exact aW_dx | exact aW_P | exact aW_d | exact aW_ps | exact aW_st | exact aW_ns | exact aW_dx)) | ((with_reducible show AtP _ _ _ (_ :: _) _);exact AtP.head)
  k_with "M.inB" => first | with_reducible exact InB.here | (with_reducible refine' InB.tail ?kz;(case kz=>k_extra "M.inB"))
  k_with "M.inT" => first | with_reducible exact InTF.here | (with_reducible refine' InTF.app ?kz;(case kz=>with_reducible exact InTF.here)) | (with_reducible refine' InTF.tail ?kz;(case kz=>k_extra "M.inT"))
  k_with "X.atF" => ((with_reducible show AtF _ _ (_ :: _) _);first | exact AtF.head | (refine' AtF.tail ?kz;(case kz=>k_extra "X.atF")))
  k_with "M.mem" => first | ((with_reducible show _ ∈ wL _ _ _ _);first | with_reducible exact mW_dx | with_reducible exact mW_P | with_reducible exact mW_q | exact mW_x) | ((with_reducible show _ ∈ _ :: _);first | exact List.Mem.head _ | (refine' List.Mem.tail _ ?kz;(case kz=>k_mem))) | (with_reducible refine' List.mem_append_left _ ?kz;(case kz=>k_mem))
  k_with "M.in" => ((case k1=>assumption);(case k6=>k_is);(case k7=>k_is);(case k8=>omega);(case k9=>first | exact BindsTo.of_eq rfl | exact binds_K (by k_in) rfl (by k_is) rfl rfl rfl | (refine' kp_binds (by k_in) (by exact fun _=>rfl)));(case c5=>decide);(case kB=>exact locs rfl);(case c2=>exact rfl);(case c3=>exact rfl);(case c4=>exact rfl);k_whole)
  k_with "call ref" => ((with_reducible show wpAny _ _ (call (Value.ref 98) _) _ _ _);k_dflt (refine' call_join98 (by k_asm) (by k_asm) (by assumption) (by k_mem) ?_ ?_;rotate_left;intro _ _))
  k_with "And" => ((with_reducible show Heap.get? _ _ = some (boundAppend _) ∧ _);refine ⟨at_bd (by assumption) (by k_mem),?_⟩;try dsimp only [List.nil_append,List.cons_append])
  k_with "call ref" => ((with_reducible show wpAny _ _ (call (Value.ref _) [Value.str _ _]) _ _ _);k_dflt (refine' call_bd_K (by k_asm) (by k_asm) (by k_mem) (by k_upd) ?_ ?_;intro _ _ _;(try k_sweep)))
  k_with "getAttr ref" => (k_dflt (refine' append_bound_K (by k_asm) (by k_asm) (by k_mem) ?_;intro _ _ _ _ l1 _;(try k_lt l1);(try k_sweep)))
  k_with "subscriptTail Name Name ref int" => ((with_reducible show wpAny _ _ (subscriptTail _ _ (Value.ref _) (Value.int _ _)) _ _ _);k_dflt (refine sub_list (by is_list) (by assumption) (by assumption) (by omega) ?_;intro _))
  k_with "subscriptTail" => ((with_reducible show wpAny _ _ (subscriptTail _ _ (Value.str _ _) (Value.int _ _)) _ _ _);(first | refine sub_open (by assumption) ?_ | refine sub_close (by assumption) ?_ | refine sub_close2 (by assumption) ?_))
  k_with "call builtin:len" => ((with_reducible show wpAny _ _ (call (Value.builtin "len") [Value.ref _]) _ _ _);refine call_len_list (by is_list) (by simp only [List.size_toArray];omega) ?_)
  k_with "exec For Name Call cons nil" => (with_unfolding_all refine' for_G ?_;k_whole)
  k_with "eval Dict nil nil" => (k_dflt (refine' new_dict0 (by k_asm) (by k_asm) ?_);intro _ _ _ _ l1;(try k_lt l1);(try k_sweep))
  k_with "call builtin:str.join" => (k_dflt (refine' join_svs (by k_asm) (by k_mem) ?_ ?_;rotate_left;intro _ _))
  k_with "eval Dict nil nil" => (refine hold ?_)
  k_with "call ref" => ((with_reducible show wpAny _ _ (call (Value.ref 150) _) _ _ _);refine hold ?_)
  k_with "call ref" => ((with_reducible show wpAny _ _ (call (Value.ref 120) _) _ _ _);refine hold ?_)
  k_with "call ref" => ((with_reducible show wpAny _ _ (call (Value.ref 133) _) _ _ _);refine hold ?_)
  k_with "call ref" => ((with_reducible show wpAny _ _ (call (Value.ref 97) _) _ _ _);refine hold ?_)
  k_with "exec If" => ((with_reducible show wpAny _ _ (exec (Stmt.If _ _ _ _) _) _ _ _);have hm2 : Mark:=(by assumption);clear hm2;refine hold ?_)
  intro tb₀ hok C hd hu hw hg hwv hgv hwU hCH hl1 hl2 hl3 hN hG hop hret F N X TP kG lG eL
  k_dflt (refine' bg_use ?k6 ?_;(case k6=>k_is);k_whole)
  have hw' : g.IsList wA wv.toArray:=hw.at fun o e=>kG _ o e fun hb=>(hwU _ hb).1 rfl
  have hg' : g.IsList gA gv.toArray:=hg.at fun o e=>kG _ o e fun hb=>(hwU _ hb).2 rfl
  have hlw:=hwv.length
  rw [List.length_map] at hlw
  clear lG
  (try dsimp only)
  replace hCH : CodeHd g 125 123:=hCH.keeps fun b o e=>kG b o (C.st b o e) fun hb=>by
    refine obEA (List.mem_map.mp hb) ?_;intro p hp oR2;subst oR2
    rw [(C.U p hp).2] at e;cases e
  k_steps
  (rename Fr _ _ _ _=>F5)
  (rename News _ _ _ _=>N5)
  (rename ∀ p ∈ tabLed tb₀,p.1 < _=>lP)
  (rename ∀ p ∈ _ :: tabLed tb₀,p.1 < _=>lq)
  show wpAny _ _ _ _ _ _
  refine' new_writer X TP F5 N5 ?d1 ?u1 (lq _ (List.Mem.head _)) ?h1
  case d1=>(try dsimp only [Around.deeper]);omega
  case u1=>(try dsimp only [Around.deeper]);omega
  intro A T dn en sn kn c h2 tk2 F6 N6 hO hAP
  have ndT : NdA ((tabLed tb₀).map (·.1)):=by
    cases tb₀ with
    | none=>exact ⟨fun _ h=>(nomatch h),trivial⟩
    | some p=>exact ⟨fun b hb=>by rw [List.mem_singleton.mp hb];exact (hok p rfl).2,⟨fun _ h=>(nomatch h),trivial⟩⟩
  have nd0 : NdA (wAddrs A ++ (tabLed tb₀).map (·.1)):=nd_app (nd_of hO) ndT fun a ha hb=>by
    refine obEA (List.mem_map.mp hb) ?_;intro p hp oR2;subst oR2
    exact Nat.lt_irrefl _ (Nat.lt_of_lt_of_le (lP p hp) (hAP ▸ ge_P hO _ ha))
  replace N6 : News g L h2 (wL w.params A T ⟨[],0,[],dn,[],en,[.ref A.im,.ref A.e0],sn,0,kn,false,false,c,instObj 150 A.dx⟩ ++ tabLed tb₀):=N6
  clear F5 N5 lP lq ndT
  subst hAP
  k_steps
  (rename Fr _ _ _ _=>F7)
  (rename News _ _ _ _=>N7)
  refine' loop_range_G (σ:=LS) (n:=ev.length) (oth:=[]) (ledLS w.params A T) (fun _=>[]) [] (fun i c gs=>PW A ev gaps s.gens i c gs ∧ (tb₀ ≠ none → c.tb = tb₀)) ⟨⟨[],0,[],dn,[],en,[.ref A.im,.ref A.e0],sn,0,kn,false,false,c,instObj 150 A.dx⟩,tb₀⟩ (by rfl) (by rfl) rfl ?hr ?hn ?hb ?hF ?hN ?hk ?hp ?turn ?done
  case hr=>assumption
  case hF=>exact F7
  case hN=>
    intro p hp
    have hp' : p ∈ wL w.params A T ⟨[],0,[],dn,[],en,[.ref A.im,.ref A.e0],sn,0,kn,false,false,c,instObj 150 A.dx⟩ ++ tabLed tb₀:=by simpa only [ledLS,esLed,List.map_nil,List.append_nil] using hp
    exact N7 p (by repeat (first | exact hp' | refine List.Mem.tail _ ?_))
  case hk=>exact fun _ h=>nomatch h
  case hn=>simp only [List.size_toArray];omega
  case hb=>simp only [List.size_toArray];omega
  case hp=>exact ⟨⟨rfl,rfl,rfl,Nat.le_refl _,fun _=>⟨rfl,rfl⟩,(fun j hj=>by omega),(fun _ h=>nomatch h),nd0,(fun p hp=>(hok p hp).1),id⟩,fun _=>rfl⟩
  case done=>
    rintro ⟨⟨pc,pn,da,dn,es,en,sv,sn,k,kn,rs,rd,c,mo⟩,tb⟩ u h1 tk gs ⟨hP,hPt⟩ F8 N8
    obtain ⟨j,ej⟩ : ∃ j,ev.length = j + 1:=⟨ev.length - 1,by omega⟩
    refine obAAA (hP.tx j ej) ?_;intro t1 t2 t3 t4
    have hpcl:=hP.pc
    have hbare:=hP.bare
    have hokt0:=hP.ok
    have hndt:=hP.nd
    dsimp only at hokt0 hPt t1 hpcl hndt
    have hPn : tb ≠ none:=t4
    have hokt : ∀ p,tb = some p → TabOk p.2 ∧ p.1 ≠ 123:=fun p hp=>⟨hokt0 p hp,by
      subst hp
      have z:=nd_suf hndt
      exact z.1 _ (List.Mem.head _)⟩
    have hjn : cat (pc.map (·.1)) = textN (ev.map wordOf) gaps (ev.length - 1):=by rw [ej];exact t1
    have hjl:=textN_len (words_len hN) (gaps_len hG) (ev.length - 1)
    rw [← hjn] at hjl
    dsimp only [ledLS] at N8
    k_steps
    · refine Leave.intro (by assumption) fun kp => ?_
      (rename News _ _ _ _=>N9)
      rw [txt_join_cat,hjn]
      show Q _ _
      have hin : ∀ p ∈ tabLed tb,_:=fun p hp=>N9 p (List.mem_append_left _ (List.mem_append_left _ (List.mem_append_right _ hp)))
      refine' hret _ _ _ _ tb ⟨hPn,hokt⟩ hPt (fun p hp=>(hin p hp).1) (fun p hp=>?_) kp hbare
      by_cases hm : p.1 ∈ (tabLed tb₀).map (·.1)
      · exact .inl hm
      · refine .inr ?_
        cases z : s.heap.get? p.1 with
        | none=>rfl
        | some o=>have:=kG p.1 o z hm;rw [(hin p hp).2.2] at this;cases this
    · exact joinOk_cat (by omega)
  case turn =>
    rintro ⟨⟨pc,pn,da,dn,es,en,sv,sn,k,kn,rs,rd,c,mo⟩,tb⟩ i t u h1 tk1 gs I oI hi hneI ⟨hP,hPt⟩ F8 N8
    obtain ⟨⟨b,n⟩,he⟩ : ∃ e,ev[i]? = some e:=⟨ev[i],List.getElem?_eq_getElem hi⟩
    obtain ⟨hn1,hn2,hn3⟩:=hN _ (List.mem_of_getElem? he)
    dsimp only at hn1 hn2 hn3
    dsimp only [ledLS] at N8 hneI
    rw [List.append_nil] at hneI
    rw [List.append_assoc (wL w.params A T _ ++ tabLed tb)] at N8
    have hgi : gaps[i]? = some (gaps.getD i Str.empty):=by rw [List.getD_eq_getElem?_getD,List.getElem?_eq_getElem (Nat.lt_of_lt_of_le hi hl2)];rfl
    have hIw : I ∉ wAddrs A ++ (tabLed tb).map (·.1):=fun hm=>by
      have hm2 : I ∈ (wL w.params A T ⟨pc,pn,da,dn,es,en,sv,sn,k,kn,rs,rd,c,mo⟩ ++ tabLed tb).map (·.1):=by rw [List.map_append];exact hm
      refine obEA (List.mem_map.mp hm2) ?_;intro p hp e
      exact hneI p (List.mem_append_left _ hp) e
    have hIe : I ∉ es:=fun hm=>hneI _ (List.mem_append_right _ (mem_esLed hm)) rfl
    have hpcl:=hP.pc
    have hkk:=hP.k
    have hesl:=hP.es
    have hsvl:=hP.sv
    have hopl:=opensAt_le ev i
    have hesf:=hP.hes
    have hnd:=hP.nd
    have hokt:=hP.ok
    dsimp only at hpcl hkk hesl hsvl hesf hnd hokt
    have hmk : Mark:=trivial
    k_steps
    show wpAny _ _ _ _ _ _
    k_fold
    (rename Flow → Shared → Prop=>qk2)
    have K : ∀ h' tk' gs' pc' pn' dn' es' en' sv' sn' k' kn' rd' tb',(∀ dn2 tg,PW A ev gaps s.gens (i + 1) ⟨⟨pc',pn',[] ++ [(gaps.getD i Str.empty,tg)],dn2,es',en',sv',sn',k',kn',true,rd',c,mo⟩,tb'⟩ gs' ∧ (tb₀ ≠ none → tb' = tb₀)) → I ∉ wAddrs A ++ (tabLed tb').map (·.1) → I ∉ es' → FrAt F8 h' →
        News g L h' ((wL w.params A T ⟨pc',pn',[],dn',es',en',sv',sn',k',kn',true,rd',c,mo⟩ ++ tabLed tb') ++ (esLed es' ++ [(I,oI)])) → qk2 Flow.next ⟨h',gs',s.drawn,tk',s.os⟩:=by
      intro h' tk' gs' pc' pn' dn' es' en' sv' sn' k' kn' rd' tb' hPm hI1 hI2 F6 N6
      replace F6 : Fr g L h' _:=F6
      clear F8 N8
      have P1:=(hPm 0 0).1
      have z1:=P1.nd
      have z2:=P1.hes
      dsimp only at z1 z2
      k_steps
      (rename Fr _ _ _ _=>F7b)
      (rename News _ _ _ _=>N7b)
      show wpAny _ _ _ _ _ _
      have hU3 : ∀ p ∈ wLed w.params A T ⟨pc',pn',[],dn',es',en',sv',sn',k',kn',true,rd',c,mo⟩,NewsMem N7b p:=fun p hp=>List.mem_append_left _ (List.mem_append_left _ hp)
      refine' data_spec2 (mean:=mean) (mg:=mg) (mb:=mb) (h₀:=g) (A:=A) (T:=T) (V:=⟨pc',pn',[],dn',es',en',sv',sn',k',kn',true,rd',c,mo⟩) (Cx.of X TP F7b N7b hU3) ?d3x ?u3x hO (by show 0 < 1000;decide) ?r3x
      case d3x=>(try dsimp only [Around.deeper]);omega
      case u3x=>(try dsimp only [Around.deeper]);omega
      intro h3 tk3 dn3 tg3 hw3 kp3
      obtain ⟨F9,N9⟩:=step_W (U:=wLed w.params A T ⟨pc',pn',[],dn',es',en',sv',sn',k',kn',true,rd',c,mo⟩) (new:=wL w.params A T ⟨pc',pn',[] ++ [(gaps.getD i Str.empty,tg3)],dn3,es',en',sv',sn',k',kn',true,rd',c,mo⟩) (rest:=tabLed tb' ++ (esLed es' ++ [(I,oI)])) F7b N7b hU3 kp3
        (all_app (fun p hp=>⟨List.mem_append_left _ (List.mem_append_right _ hp),nd_disj z1 _ (List.mem_map_of_mem hp)⟩) (all_app (fun p hp=>⟨List.mem_append_right _ (List.mem_append_left _ hp),fun hm=>z2 _ (of_esLed hp).1 (List.mem_append_left _ hm)⟩) (fun p hp=>⟨List.mem_append_right _ (List.mem_append_right _ hp),fun hm=>hI1 (List.mem_append_left _ (by rw [List.mem_singleton.mp hp] at hm;exact hm))⟩)))
        hw3 (fun p hp=>.inl (in_map (U:=wLed w.params A T ⟨pc',pn',[] ++ [(gaps.getD i Str.empty,tg3)],dn3,es',en',sv',sn',k',kn',true,rd',c,mo⟩) p hp))
      clear hU3
      clear N7b F7b
      k_steps
      refine' TEndG.intro ⟨⟨pc',pn',[] ++ [(gaps.getD i Str.empty,tg3)],dn3,es',en',sv',sn',k',kn',true,rd',c,mo⟩,tb'⟩ F9 N9 ?hlx ?hox (fun _ h=>nomatch h) ?hrx (hPm _ _)
      case hrx=>
        intro z h1 h2 h3
        first | (show (if z = _ then _ else _) = _;rw [if_neg h1];rfl) | simp_all [kstB]
      case hox=>exact fun p hp=>List.mem_append_right _ (List.mem_append_right _ (List.mem_append_right _ hp))
      case hlx=>
        refine all_app (all_app (fun p hp=>⟨List.mem_append_left _ hp,fun e=>hI1 (List.mem_append_left _ (e ▸ in_map (U:=wL w.params A T ⟨pc',pn',[] ++ [(gaps.getD i Str.empty,tg3)],dn3,es',en',sv',sn',k',kn',true,rd',c,mo⟩) p hp))⟩) (fun p hp=>⟨List.mem_append_right _ (List.mem_append_left _ hp),fun e=>hI1 (List.mem_append_right _ (e ▸ List.mem_map_of_mem hp))⟩))
          (fun p hp=>⟨List.mem_append_right _ (List.mem_append_right _ (List.mem_append_left _ hp)),fun e=>hI2 (e ▸ (of_esLed hp).1)⟩)
    clear_value qk2
    dsimp only [FrAt] at K
    clear hmk
    cases b with
    | true =>
      have hx : (ev.map wordOf)[i]? = some (Str.ofString "<" ++ n ++ Str.ofString ">"):=by rw [List.getElem?_map,he];rfl
      have hda : da = [] ∨ ∃ gt tg,da = [(gt,tg)] ∧ gt.length = 1 ∧ PlainTx gt ∧ rs = true:=by
        rcases i with _ | j
        · exact .inl (hP.z rfl).2
        · refine obAAA (hP.tx j rfl) ?_; intro _ oN1 h3 _; obtain ⟨tg, h2⟩ := oN1
          obtain ⟨g1,g2⟩:=hG (gaps.getD j Str.empty) (by rw [List.getD_eq_getElem?_getD,List.getElem?_eq_getElem (by omega)];exact List.getElem_mem _)
          exact .inr ⟨_,tg,h2,g1,g2,h3⟩
      k_steps
      (rename Fr _ _ _ _=>F4)
      (rename News _ _ _ _=>N4)
      show wpAny _ _ _ _ _ _
      refine new_dict0 F4 N4 ?_
      intro at_ h4 F5 N5 l5
      clear F4 N4
      k_steps
      show wpAny _ _ _ _ _ _
      with_reducible show wpAny _ _ (call (Value.ref 120) [Value.ref A.x,Value.str n _,Value.ref at_]) _ _ _
      have hU2 : ∀ p ∈ (at_,dictOf [] 0) :: (wL w.params A T ⟨pc,pn,da,dn,es,en,sv,sn,k,kn,rs,rd,c,mo⟩ ++ tabLed tb),NewsMem N5 p:=cons_sub fun p hp=>List.mem_append_left _ hp
      have hlive : ∀ a ∈ wAddrs A ++ (tabLed tb).map (·.1),∃ o,h4.get? a = some o:=fun a ha=>by
        have hm2 : a ∈ (wL w.params A T ⟨pc,pn,da,dn,es,en,sv,sn,k,kn,rs,rd,c,mo⟩ ++ tabLed tb).map (·.1):=by rw [List.map_append];exact ha
        refine obEA (List.mem_map.mp hm2) ?_;intro p hp oR2;subst oR2
        exact ⟨_,(N5 p (hU2 p (List.Mem.tail _ hp))).1⟩
      have hel : ∀ e ∈ es,h4.get? e = some (listOf #[] 0) ∧ e ∉ at_ :: (wAddrs A ++ (tabLed tb).map (·.1)):=fun e he'=>⟨(N5 (e,listOf #[] 0) (List.Mem.tail _ (List.mem_append_right _ (List.mem_append_left _ (mem_esLed he'))))).1,not_cons (Nat.ne_of_lt (l5 (e,listOf #[] 0) (List.mem_append_right _ (List.mem_append_left _ (mem_esLed he'))))) (hesf e he')⟩
      have hIl : h4.get? I = some oI ∧ I ∉ at_ :: (wAddrs A ++ (tabLed tb).map (·.1)):=⟨(N5 (I,oI) (List.Mem.tail _ (List.mem_append_right _ (List.mem_append_right _ (List.Mem.head _))))).1,not_cons (Nat.ne_of_lt (l5 (I,oI) (List.mem_append_right _ (List.mem_append_right _ (List.Mem.head _))))) hIw⟩
      have hnd8 : NdA (at_ :: (wAddrs A ++ (tabLed tb).map (·.1))):=⟨fun b hb=>by
        have hm2 : b ∈ (wL w.params A T ⟨pc,pn,da,dn,es,en,sv,sn,k,kn,rs,rd,c,mo⟩ ++ tabLed tb).map (·.1):=by rw [List.map_append];exact hb
        refine obEA (List.mem_map.mp hm2) ?_;intro p hp oR2;subst oR2
        exact Nat.ne_of_lt (l5 p (List.mem_append_left _ hp)),hnd⟩
      have hsys : sysModules < at_:=by
        refine obE (tab_123 (tb:=tb)) ?_;intro o ho
        exact Nat.lt_of_le_of_lt (show sysModules ≤ 123 by decide) (l5 (123,o) (List.mem_append_left _ (List.mem_append_right _ ho)))
      refine' start_spec (mean:=mean) (mg:=mg) (mb:=mb) (h₀:=g) (Cx.of X TP F5 N5 hU2) ?d2x ?u2x hO hnd8 hokt hn1 hn3 hda hel ?few2x hsys ?k2x ?pc2x ?sv2x hCH ?ret2x
      case d2x=>(try dsimp only [Around.deeper]);omega
      case u2x=>(try dsimp only [Around.deeper]);omega
      case few2x=>omega
      case k2x=>omega
      case pc2x=>omega
      case sv2x=>omega
      case ret2x=>
        intro h' tk' gs' c' oc nn v ex t1 t2 pn' dn' en' sn' kn' tok hex hw2 hfn hcx0 hne kp hb
        have hcx : tb.map (·.1) = some c' ∨ h4.get? c' = none:=hcx0.imp (fun z=>by rw [z];rfl) (fun z=>z.2)
        have hnn : nn ∉ wAddrs A ++ (tabLed tb).map (·.1):=fun hm=>by
          refine obE (hlive nn hm) ?_;intro o ho
          have hfn' : h4.get? nn = none:=hfn
          rw [ho] at hfn';cases hfn'
        obtain ⟨F6,N6⟩:=step_W (U:=(at_,dictOf [] 0) :: (wL w.params A T ⟨pc,pn,da,dn,es,en,sv,sn,k,kn,rs,rd,c,mo⟩ ++ tabLed tb)) (new:=(nn,listOf #[] 0) :: (wL w.params A T ⟨pc ++ ex ++ [(Str.ofString "<" ++ n,t1)] ++ [(Str.ofString ">",t2)],pn',[],dn',es ++ [nn],en',sv ++ [v],sn',k + 1,kn',true,rd,c,mo⟩ ++ tabLed (some (c',oc)))) (rest:=esLed es ++ [(I,oI)]) F5 N5 hU2 (by show Keep (at_ :: (wL w.params A T ⟨pc,pn,da,dn,es,en,sv,sn,k,kn,rs,rd,c,mo⟩ ++ tabLed tb).map (·.1)) _ _;rw [List.map_append];exact kp)
          (fun p hp=>⟨List.Mem.tail _ (List.mem_append_right _ hp),by
            show p.1 ∉ at_ :: (wL w.params A T ⟨pc,pn,da,dn,es,en,sv,sn,k,kn,rs,rd,c,mo⟩ ++ tabLed tb).map (·.1)
            rw [List.map_append]
            rcases List.mem_append.mp hp with hp | hp
            · exact (hel _ (of_esLed hp).1).2
            · rw [List.mem_singleton.mp hp];exact hIl.2⟩)
          (fun p hp=>hw2 p ((List.mem_cons.mp hp).elim (fun e=>e ▸ List.Mem.head _) (fun q=>List.Mem.tail _ (List.Mem.tail _ q))))
          (fun p hp=>by
            show p.1 ∈ at_ :: (wL w.params A T ⟨pc,pn,da,dn,es,en,sv,sn,k,kn,rs,rd,c,mo⟩ ++ tabLed tb).map (·.1) ∨ _
            rw [List.map_append]
            rcases List.mem_cons.mp hp with rfl | hp
            · exact .inr hfn
            rcases List.mem_append.mp hp with hp | hp
            · exact .inl (List.Mem.tail _ (List.mem_append_left _ (in_map (U:=wL w.params A T ⟨pc ++ ex ++ [(Str.ofString "<" ++ n,t1)] ++ [(Str.ofString ">",t2)],pn',[],dn',es ++ [nn],en',sv ++ [v],sn',k + 1,kn',true,rd,c,mo⟩) p hp)))
            rcases List.mem_cons.mp hp with rfl | hp
            · refine obE (tab_123 (tb := tb)) ?_; intro o ho
              exact .inl (List.Mem.tail _ (List.mem_append_right _ (List.mem_map_of_mem (f:=(·.1)) ho)))
            · rw [List.mem_singleton.mp hp]
              exact hcx.imp (fun z=>List.Mem.tail _ (List.mem_append_right _ (tb_mem z))) id)
        clear hU2
        clear N5 F5 hw2 kp
        k_steps
        refine K _ _ _ (pc ++ ex ++ [(Str.ofString "<" ++ n,t1)] ++ [(Str.ofString ">",t2)]) pn' dn' (es ++ [nn]) en' (sv ++ [v]) sn' (k + 1) kn' rd (some (c',oc)) (fun dn2 tg=>⟨PW.start hP he (fun z=>hb z) hex (nd_newtab hnd hlive hcx) tok ?e1,?e0⟩) (not_newtab hIw ⟨_,hIl.1⟩ hcx) ?e2 F6 ?e3
        case e0=>
          intro hz
          rcases hcx0 with z | z
          · exact z ▸ hPt hz
          · exact absurd ((hPt hz).symm.trans z.1) hz
        case e1=>
          intro e he'
          rcases List.mem_append.mp he' with he' | he'
          · exact not_newtab (hesf e he') ⟨_,(hel e he').1⟩ hcx
          · rw [List.mem_singleton.mp he']
            intro hm
            rcases List.mem_append.mp hm with hm | hm
            · exact hnn (List.mem_append_left _ hm)
            rcases List.mem_cons.mp hm with hm | hm
            · refine obE (tab_123 (tb := tb)) ?_; intro o ho
              exact hnn (List.mem_append_right _ (by rw [hm];exact List.mem_map_of_mem (f:=(·.1)) ho))
            · exact hne (List.mem_singleton.mp hm)
        case e2=>
          intro hm
          rcases List.mem_append.mp hm with hm | hm
          · exact hIe hm
          · have hfn' : h4.get? nn = none := hfn
            rw [← List.mem_singleton.mp hm,hIl.1] at hfn';cases hfn'
        case e3=>
          intro p hp
          refine N6 p ?_
          rw [esLed_snoc] at hp
          rcases List.mem_append.mp hp with hp | hp
          · exact List.Mem.tail _ (List.mem_append_left _ hp)
          rcases List.mem_append.mp hp with hp | hp
          · rcases List.mem_append.mp hp with hp | hp
            · exact List.Mem.tail _ (List.mem_append_right _ (List.mem_append_left _ hp))
            · rw [List.mem_singleton.mp hp];exact List.Mem.head _
          · exact List.Mem.tail _ (List.mem_append_right _ (List.mem_append_right _ hp))
    | false =>
      have hx : (ev.map wordOf)[i]? = some (Str.ofString "</" ++ n ++ Str.ofString ">"):=by rw [List.getElem?_map,he];rfl
      obtain ⟨k1,ek1⟩ : ∃ k1,k = k1 + 1:=⟨k - 1,by have:=hop _ _ he;omega⟩
      obtain ⟨j,rfl⟩ : ∃ j,i = j + 1:=⟨i - 1,by
        rcases i with _ | j
        · exact absurd (hop _ _ he) (Nat.lt_irrefl _)
        · rfl⟩
      refine obAAA (hP.tx j rfl) ?_;intro _ oN1 ers _;obtain ⟨tg,eda⟩:=oN1
      obtain ⟨g1,g2⟩:=hG (gaps.getD j Str.empty) (by rw [List.getD_eq_getElem?_getD,List.getElem?_eq_getElem (by omega)];exact List.getElem_mem _)
      dsimp only at eda ers
      refine obEE (snoc_of (l:=es) (m:=k1) (by omega)) ?_;intro es0 nn ees
      refine obEE (snoc_of (l:=sv) (m:=k1 + 2) (by omega)) ?_;intro sv0 v0 esv
      subst ek1 ees esv eda ers
      k_steps
      (rename Fr _ _ _ _=>F5)
      (rename News _ _ _ _=>N5)
      show wpAny _ _ _ _ _ _
      with_reducible show wpAny _ _ (call (Value.ref 133) [Value.ref A.x,Value.str n _]) _ _ _
      have hU2 : ∀ p ∈ wL w.params A T ⟨pc,pn,[(gaps.getD j Str.empty,tg)],dn,es0 ++ [nn],en,sv0 ++ [v0],sn,k1 + 1,kn,true,rd,c,mo⟩,NewsMem N5 p:=fun p hp=>List.mem_append_left _ (List.mem_append_left _ hp)
      refine' end_spec (mean:=mean) (mg:=mg) (mb:=mb) (h₀:=g) (A:=A) (T:=T) (Cx.of X TP F5 N5 (fun p hp=>hU2 p (by rw [List.append_nil] at hp;exact hp))) ?d2z ?u2z hO hn1 hn3 g1 g2 ?hes2z ?few2z ?pc2z ?sv2z ?k2z ?ret2z
      case d2z=>(try dsimp only [Around.deeper]);omega
      case u2z=>(try dsimp only [Around.deeper]);omega
      case hes2z=>exact fun e he'=>⟨(N5 (e,listOf #[] 0) (List.mem_append_right _ (List.mem_append_left _ (mem_esLed he')))).1,fun hm=>hesf e he' (List.mem_append_left _ hm)⟩
      case few2z=>omega
      case k2z=>omega
      case pc2z=>omega
      case sv2z=>omega
      case ret2z=>
        intro h' tk' gs' t0 t1 pn' dn' en' sn' kn' rd' hw2 kp hb
        obtain ⟨F6,N6⟩:=step_W (U:=wL w.params A T ⟨pc,pn,[(gaps.getD j Str.empty,tg)],dn,es0 ++ [nn],en,sv0 ++ [v0],sn,k1 + 1,kn,true,rd,c,mo⟩) (new:=wL w.params A T ⟨pc ++ [(gaps.getD j Str.empty,t0)] ++ [(Str.ofString "</" ++ n ++ Str.ofString ">",t1)],pn',[],dn',es0,en',sv0,sn',k1,kn',true,rd',c,mo⟩) (rest:=tabLed tb ++ (esLed es0 ++ [(I,oI)])) F5 N5 hU2 kp
          (all_app (fun p hp=>⟨List.mem_append_left _ (List.mem_append_right _ hp),nd_disj hnd _ (List.mem_map_of_mem hp)⟩) (all_app (fun p hp=>⟨List.mem_append_right _ (List.mem_append_left _ (by rw [esLed_snoc];exact List.mem_append_left _ hp)),fun hm=>hesf _ (List.mem_append_left _ (of_esLed hp).1) (List.mem_append_left _ hm)⟩) (fun p hp=>⟨List.mem_append_right _ (List.mem_append_right _ hp),fun hm=>hIw (List.mem_append_left _ (by rw [List.mem_singleton.mp hp] at hm;exact hm))⟩)))
          hw2 (fun p hp=>.inl (in_map (U:=wL w.params A T ⟨pc ++ [(gaps.getD j Str.empty,t0)] ++ [(Str.ofString "</" ++ n ++ Str.ofString ">",t1)],pn',[],dn',es0,en',sv0,sn',k1,kn',true,rd',c,mo⟩) p hp))
        clear hU2
        clear N5 F5 hw2
        k_steps
        exact K _ _ _ (pc ++ [(gaps.getD j Str.empty,t0)] ++ [(Str.ofString "</" ++ n ++ Str.ofString ">",t1)]) pn' dn' es0 en' sv0 sn' k1 kn' rd' tb (fun dn2 tg=>⟨PW.endN hP he (fun z=>hb z),hPt⟩) hIw (fun hm=>hIe (List.mem_append_left _ hm)) F6 (fun p hp=>N6 p (by rw [List.append_assoc] at hp;exact hp))
theorem all : ∀ d,F d := eps_all (by with_unfolding_all exact core)
end W10k
theorem written {w : World} {mean : ExcName → Option Value} {mg mb : Str → Option Value} {h₀ : Heap} {s : Shared} {dp un : Nat} {fr : Option (List Env)} {gd : Option (List Code)} {Q E : Value → Shared → Prop}
  {tb₀ : Option (Addr × Obj)} (hok : ∀ p,tb₀ = some p → TabOk p.2 ∧ p.1 ≠ 123) (C:Cx w mean mg mb h₀ s (tabLed tb₀)) (hd : dp + 40 < recursionLimit) (hu : un + 120 < cLine)
  {wA gA : Addr} {wv gv : List Value} {ev : List Ev} {gaps : List Str}
  (hw : s.heap.IsList wA wv.toArray) (hg : s.heap.IsList gA gv.toArray) (hwv : StrsAre wv (ev.map wordOf)) (hgv : StrsAre gv gaps)
  (hwU : ∀ a ∈ (tabLed tb₀).map (·.1),wA ≠ a ∧ gA ≠ a) (hCH : CodeHd h₀ 125 123)
  (hl1 : 0 < ev.length) (hl2 : ev.length ≤ gaps.length) (hl3 : ev.length < 100) (hN : ∀ e ∈ ev,NameTx e.2) (hG : ∀ x ∈ gaps,x.length = 1 ∧ PlainTx x) (hop : ∀ j n,ev[j]? = some (false,n) → 0 < opensAt ev j)
  (hret : ∀ t h' tk' gs' tb,(tb ≠ none ∧ ∀ p,tb = some p → TabOk p.2 ∧ p.1 ≠ 123) → (tb₀ ≠ none → tb = tb₀) → (∀ p ∈ tabLed tb,h'.get? p.1 = some p.2) → (∀ p ∈ tabLed tb,p.1 ∈ (tabLed tb₀).map (·.1) ∨ s.heap.get? p.1 = none) →
    Keep ((tabLed tb₀).map (·.1)) s { s with heap:=h',toks:=tk',gens:=gs' } → (AllBare s.gens → AllBare gs') → Q (.str (textN (ev.map wordOf) gaps (ev.length - 1)) t) { s with heap:=h',toks:=tk',gens:=gs' }) :
  wpAny (model P0 w) (Ar dp fr gd un) (call (.ref 287) [.ref wA,.ref gA]) Q E s:=by
  have X0:=C.X.keeps C.st
  k_dflt (refine' enter_def (binds:=[(Str.ofString "words",.ref wA),(Str.ofString "gaps",.ref gA)]) ?k1 ?k6 ?k7 ?k8 ?k9 ?kB ?_ ?c2 ?c3 ?c4 ?c5;k_extra "M.in")
  intro g L h F N X TP kG lG eL
  refine' fn_get (W10k.all (wA,gA,wv,gv,ev,gaps,w,mean,mg,mb,h₀,s,dp,un,fr,gd,Q,g,L,h,_) tb₀ hok C hd hu hw hg hwv hgv hwU hCH hl1 hl2 hl3 hN hG hop hret F N X TP kG lG eL) ?ko
  case ko=>k_is
theorem writtenA {w : World} {mean : ExcName → Option Value} {mg mb : Str → Option Value} {h₀ : Heap} {s : Shared} {dp un : Nat} {fr : Option (List Env)} {gd : Option (List Code)} {Q E : Value → Shared → Prop}
  (C:Cx w mean mg mb h₀ s (tabLed (none))) (hd : dp + 40 < recursionLimit) (hu : un + 120 < cLine)
  {wA gA : Addr} {wv gv : List Value} {ev : List Ev} {gaps : List Str}
  (hw : s.heap.IsList wA wv.toArray) (hg : s.heap.IsList gA gv.toArray) (hwv : StrsAre wv (ev.map wordOf)) (hgv : StrsAre gv gaps)
  (hwU : ∀ a ∈ (tabLed (none)).map (·.1),wA ≠ a ∧ gA ≠ a) (hCH : CodeHd h₀ 125 123)
  (hl1 : 0 < ev.length) (hl2 : ev.length ≤ gaps.length) (hl3 : ev.length < 100) (hN : ∀ e ∈ ev,NameTx e.2) (hG : ∀ x ∈ gaps,x.length = 1 ∧ PlainTx x) (hop : ∀ j n,ev[j]? = some (false,n) → 0 < opensAt ev j)
  (hret : ∀ t h' tk' gs' cc occ,(∀ p ∈ tabLed (some (cc,occ)),h'.get? p.1 = some p.2) → TabOk occ → cc ≠ 123 → s.heap.get? cc = none →
    Keep [123] s { s with heap:=h',toks:=tk',gens:=gs' } → (AllBare s.gens → AllBare gs') → Q (.str (textN (ev.map wordOf) gaps (ev.length - 1)) t) { s with heap:=h',toks:=tk',gens:=gs' }) :
  wpAny (model P0 w) (Ar dp fr gd un) (call (.ref 287) [.ref wA,.ref gA]) Q E s:=
  written (tb₀:=none) (fun _ h=>nomatch h) C hd hu hw hg hwv hgv hwU hCH hl1 hl2 hl3 hN hG hop fun t h' tk' gs' tb htb _ h1 h2 kp hb=>by
    refine obE (Option.ne_none_iff_exists'.mp htb.1) ?_;intro p oR1;subst oR1
    refine hret t h' tk' gs' p.1 p.2 h1 (htb.2 p rfl).1 (htb.2 p rfl).2 ?_ kp hb
    exact (h2 p (List.Mem.tail _ (List.Mem.head _))).elim (fun z=>absurd (List.mem_singleton.mp z) (htb.2 p rfl).2) id
theorem writtenB {w : World} {mean : ExcName → Option Value} {mg mb : Str → Option Value} {h₀ : Heap} {s : Shared} {dp un : Nat} {fr : Option (List Env)} {gd : Option (List Code)} {Q E : Value → Shared → Prop}
  {cc : Addr} {occ : Obj} (hok : TabOk occ) (hc123 : cc ≠ 123) (C:Cx w mean mg mb h₀ s (tabLed (some (cc,occ)))) (hd : dp + 40 < recursionLimit) (hu : un + 120 < cLine)
  {wA gA : Addr} {wv gv : List Value} {ev : List Ev} {gaps : List Str}
  (hw : s.heap.IsList wA wv.toArray) (hg : s.heap.IsList gA gv.toArray) (hwv : StrsAre wv (ev.map wordOf)) (hgv : StrsAre gv gaps)
  (hwU : ∀ a ∈ (tabLed (some (cc,occ))).map (·.1),wA ≠ a ∧ gA ≠ a) (hCH : CodeHd h₀ 125 123)
  (hl1 : 0 < ev.length) (hl2 : ev.length ≤ gaps.length) (hl3 : ev.length < 100) (hN : ∀ e ∈ ev,NameTx e.2) (hG : ∀ x ∈ gaps,x.length = 1 ∧ PlainTx x) (hop : ∀ j n,ev[j]? = some (false,n) → 0 < opensAt ev j)
  (hret : ∀ t h' tk' gs' (_h : True),(∀ p ∈ tabLed (some (cc,occ)),h'.get? p.1 = some p.2) →
    Keep [123,cc] s { s with heap:=h',toks:=tk',gens:=gs' } → (AllBare s.gens → AllBare gs') → Q (.str (textN (ev.map wordOf) gaps (ev.length - 1)) t) { s with heap:=h',toks:=tk',gens:=gs' }) :
  wpAny (model P0 w) (Ar dp fr gd un) (call (.ref 287) [.ref wA,.ref gA]) Q E s:=
  written (tb₀:=some (cc,occ)) (fun p h=>by cases h;exact ⟨hok,hc123⟩) C hd hu hw hg hwv hgv hwU hCH hl1 hl2 hl3 hN hG hop fun t h' tk' gs' tb _ hpt h1 _ kp hb=>by
    obtain rfl:=hpt (fun h=>by cases h)
    exact hret t h' tk' gs' trivial h1 kp hb
end

end
end
section
set_option maxRecDepth 100000
open Builtin
noncomputable abbrev ciObj (f : Value) (ts : Tok) : Obj := { cls := .type "callable_iterator",data := .fields #[f,.str (Str.ofString "") ts,.bool false] }
noncomputable abbrev ciEnd : Obj := { cls := .type "callable_iterator",data := .fields #[.none,.none,.bool true] }
theorem slot_ci_next : Slot "callable_iterator" "__next__" "callable_iterator.__next__" :=
  .of (owner := "callable_iterator") (n := "__next__") (by rw [typeLookup_type,builtinLookup_eq_fast];kernel_rfl) (by decide +kernel) (by decide +kernel) (by decide +kernel)
    (by first | exact .inl (by decide +kernel) | exact .inr (by decide +kernel)) (by rw [isSubtype_type];kernel_rfl)
theorem entry_ci_next : entryFor table "callable_iterator.__next__" = some Builtin.«callable_iterator.__next__» := entryFor_of_tree (by kernel_rfl)
theorem args_ci_next (a : Value) : argsOk "callable_iterator.__next__" ⟨[a],[]⟩ := by unfold argsOk;kernel_rfl
theorem slot_ci_iter : Slot "callable_iterator" "__iter__" "callable_iterator.__iter__" :=
  .of (owner := "callable_iterator") (n := "__iter__") (by rw [typeLookup_type,builtinLookup_eq_fast];kernel_rfl) (by decide +kernel) (by decide +kernel) (by decide +kernel)
    (by first | exact .inl (by decide +kernel) | exact .inr (by decide +kernel)) (by rw [isSubtype_type];kernel_rfl)
theorem entry_ci_iter : entryFor table "callable_iterator.__iter__" = some Builtin.«dict_keyiterator.__iter__» :=
  entryFor_alias (id' := "dict_keyiterator.__iter__") (by kernel_rfl) rfl (by decide +kernel) (by kernel_rfl)
theorem args_ci_iter (a : Value) : argsOk "callable_iterator.__iter__" ⟨[a],[]⟩ := by unfold argsOk;kernel_rfl
theorem lookup_method_call : typeLookup (.type "method") "__call__" = pure (some (.builtin "method.__call__")) := by rw [typeLookup_type,builtinLookup_eq_fast];kernel_rfl
theorem kind_iter : builtinKind "iter" = none := by decide +kernel
theorem plain_iter : plainId "iter" = true := by decide +kernel
theorem entry_iter : entryFor table "iter" = some Builtin.«iter» := entryFor_of_tree (by kernel_rfl)
theorem args_iter_2 (a b : Value) : argsOk "iter" ⟨[a,b],[]⟩ := by unfold argsOk;kernel_rfl
section
variable {prog : Program} {w : World} {A : Around} {E : Value → Shared → Prop} {s : Shared} {h₀ : Heap} {L it bm f : Addr} {m : Str → Option Value} {news : List (Addr × Obj)} {t : Tok} {x : Value}
theorem pyIter_ci {o : Obj} {Q : Value → Shared → Prop} (ho : s.heap.get? it = some o) (hc : o.cls = .type "callable_iterator") (h : Q (.ref it) s) : wpAny (model prog w) A (pyIter (.ref it)) Q E s := by
  have hT : s.TypeIs (.ref it) "callable_iterator" := ⟨o,ho,hc⟩
  refine wpAny_pyIter_slot hT slot_ci_iter (wpAny_call_entry slot_ci_iter hT entry_ci_iter ?_ (args_ci_iter _))
  show wpAny _ _ (ret (.ref it)) _ _ s
  exact wpAny_pure ⟨_,rfl, "callable_iterator",_,hT,slot_ci_next.lookup,h⟩
theorem wpAny_callBorrowed {g : Value} {pos : List Value} {M : Model} {Q : Value → Shared → Prop}
    (hc : codeAny M A (.call g ⟨pos,[]⟩) (fun r s'=>match r with | .ok (.ret v)=>Q v s' | .ok _=>False | .error e=>E e s') s) :
    wpAny M A (callBorrowed g pos) Q E s:=fun Γ p hΓ=>by
  unfold callBorrowed
  rw [Sem.wp_call]
  have h1:=hc _ p rfl (hΓ.enter (.call g ⟨pos,[]⟩) none p (by intro x;cases x))
  have e : (fun r s'=>Sem.wp M Γ (match r with | .ok (.ret v)=>Sem.pure v | .ok _=>Sem.unsupported "internal:call-without-return-value" | .error e=>Sem.raise e) (fun a _ s'=>Q a s') (fun e _ s'=>E e s') p s') = (fun (r:Result) s'=>match r with | .ok (.ret v)=>Q v s' | .ok _=>False | .error e=>E e s'):=by
    funext r s'
    cases r with
    | error e=>rfl
    | ok f=>cases f <;> rfl
  rw [← e] at h1
  exact h1
theorem call_iter2 {self : Value} {Q : Value → Shared → Prop} (F : Fr h₀ L s.heap m) (N : News h₀ L s.heap news) (hm : (bm,methodObj (.ref f) self) ∈ news)
    (h : ∀ it h',Fr h₀ L h' m → News h₀ L h' ((it,ciObj (.ref bm) t) :: news) → (∀ p ∈ news,p.1 < it) → Q (.ref it) { s with heap:=h' }) :
    wpAny (model prog w) A (call (.builtin "iter") [.ref bm,.str (Str.ofString "") t]) Q E s:=by
  have hb:=(N _ hm).1
  refine call_function_entry kind_iter plain_iter entry_iter (args_iter_2 _ _) ?_
  unfold Builtin.«iter»
  refine wpAny_bind (wpAny_of_eq (a:=[.ref bm,.str (Str.ofString "") t]) (by first | rfl | kernel_rfl) ?_)
  dsimp only
  refine wpAny_bind (wpAny_specialOf (T := "method") ⟨_,hb,rfl⟩ lookup_method_call ?_)
  refine KFB.if_not rfl ?_
  refine wpAny_bind (wpAny_rule ?_)
  refine wpAny_bind ?_
  refine wpAny_newObj_type (wpAny_pure ⟨_,rfl,h _ _ (F.push _) (News.push F N _) fun p hp=>Heap.lt_size (N p hp).1⟩) (by size_fits)
theorem borrows_method {self : Value} {fd : FuncData} {of : Obj} {Q : Bool → Shared → Prop} (hb : s.heap.get? bm = some (methodObj (.ref f) self)) (hf : s.heap.get? f = some of) (hfd : of.data = .func fd) (h : Q true s) :
    wpAny (model prog w) A (borrowsExactly (.ref bm)) Q E s:=by
  unfold borrowsExactly
  dsimp only
  refine wpAny_bind (wpAny_load hb ?_)
  refine KFB.if_so rfl ?_
  show wpAny _ _ (load f >>= _) _ _ _
  refine wpAny_bind (wpAny_load hf ?_)
  rw [hfd]
  exact wpAny_pure h
theorem ci_end {who : String} {busy : Code → Bool} {self : Value} {fd : FuncData} {of : Obj} {Q : Unit → Shared → Prop} {ts : Tok} (hi : s.heap.get? it = some (ciObj (.ref bm) ts)) (hb : s.heap.get? bm = some (methodObj (.ref f) self)) (hf : s.heap.get? f = some of) (hfd : of.data = .func fd)
    (h : ∀ h',Heap.ExtBut it s.heap h' → h'.get? it = some ciEnd → Q () { s with heap:=h' }) : wpAny (model prog w) A (field (.ref it) 0 >>= fun x=>slotLetsGo who x busy >>= fun _=>setField (.ref it) 0 .none >>= fun _=>setField (.ref it) 1 .none >>= fun _=>setField (.ref it) 2 (.bool true)) Q E s:=by
  refine wpAny_bind (wpAny_field hi rfl (x:=.ref bm) rfl ?_)
  refine wpAny_bind ?_
  unfold slotLetsGo
  refine wpAny_bind (borrows_method hb hf hfd ?_)
  refine KFB.if_so rfl ?_
  refine wpAny_pure ?_
  refine wpAny_bind (wpAny_setField hi rfl (by show 0 < 3;decide) ?_)
  have g1 : (s.heap.update it (Obj.mapFields (·.setIfInBounds 0 Value.none))).get? it = some { cls:=.type "callable_iterator",data:=.fields #[.none,.str (Str.ofString "") ts,.bool false] }:=Heap.get?_update_self _ hi rfl
  refine wpAny_bind (wpAny_setField g1 rfl (by show 1 < 3;decide) ?_)
  have g2 : ((s.heap.update it (Obj.mapFields (·.setIfInBounds 0 Value.none))).update it (Obj.mapFields (·.setIfInBounds 1 Value.none))).get? it = some { cls:=.type "callable_iterator",data:=.fields #[.none,.none,.bool false] }:=Heap.get?_update_self _ g1 rfl
  refine wpAny_setField g2 rfl (by show 2 < 3;decide) ?_
  have g3 : (((s.heap.update it (Obj.mapFields (·.setIfInBounds 0 Value.none))).update it (Obj.mapFields (·.setIfInBounds 1 Value.none))).update it (Obj.mapFields (·.setIfInBounds 2 (Value.bool true)))).get? it = some ciEnd:=Heap.get?_update_self _ g2 rfl
  exact h _ (fun b o hb e=>((Heap.SameBut.update ..).2 b hb).trans (((Heap.SameBut.update ..).2 b hb).trans (((Heap.SameBut.update ..).2 b hb).trans e))) g3
theorem next_ci {self : Value} {fd : FuncData} {of : Obj} {Q : Option Value → Shared → Prop} {ts : Tok} (hh : A.handled = none) (hi : s.heap.get? it = some (ciObj (.ref bm) ts)) (hb : s.heap.get? bm = some (methodObj (.ref f) self)) (hf : s.heap.get? f = some of) (hfd : of.data = .func fd)
    (hc : codeAny (model prog w) A.in1 (.call (.ref f) ⟨[self],[]⟩) (fun r s'=>∃ c tc,r = .ok (.ret (.str c tc)) ∧ s'.heap.get? it = some (ciObj (.ref bm) ts) ∧ s'.heap.get? bm = some (methodObj (.ref f) self) ∧ s'.heap.get? f = some of ∧
      (c ≠ Str.empty → Q (some (.str c tc)) s') ∧ (c = Str.empty → ∀ h' tk',Heap.ExtBut it s'.heap h' → h'.get? it = some ciEnd → Q none { s' with heap:=h',toks:=tk' })) s) :
    wpAny (model prog w) A (pyNext (.ref it)) Q E s:=by
  have hT : s.TypeIs (.ref it) "callable_iterator" := ⟨_,hi,rfl⟩
  unfold pyNext
  refine wpAny_bind (wpAny_attempt (wpAny_callSpecial?_slot (name:=Str.ofString "__next__") hT slot_ci_next (wpAny_call_entry slot_ci_next hT entry_ci_next ?_ (args_ci_next _))))
  unfold Builtin.«callable_iterator.__next__»
  refine wpAny_bind (wpAny_pure ?_)
  dsimp only
  refine wpAny_bind (wpAny_field hi rfl (x:=.bool false) rfl ?_)
  refine KFB.if_not rfl ?_
  refine wpAny_bind (wpAny_field hi rfl (x:=.ref bm) rfl ?_)
  refine wpAny_bind (wpAny_attempt ?_)
  unfold callOutOfASlot
  refine wpAny_bind (borrows_method hb hf hfd ?_)
  refine KFB.if_so rfl ?_
  refine wpAny_callBorrowed (ks_codeAny_call_bound hb ?_)
  refine codeAny_mono hc fun r s' hr=>?_
  refine obEEAAAAA hr ?_;clear hr;intro c tc oR2 hi' hb' hf' hq1 hq2;subst oR2
  dsimp only
  refine wpAny_bind (wpAny_field hi' rfl (x:=.bool false) rfl ?_)
  refine KFB.if_not rfl ?_
  refine wpAny_bind (wpAny_field hi' rfl (x:=.str (Str.ofString "") ts) rfl ?_)
  refine wpAny_bind (wpAny_holding (wpAny_eqBool_str ?_))
  by_cases hce : c = Str.empty
  · rw [show decide (Str.ofString "" = c) = true by rw [decide_eq_true_eq, hce]; decide +kernel]
    refine KFB.if_not rfl ?_
    refine wpAny_bind (wpAny_rule ?_)
    refine wpAny_bind ?_
    refine ci_end hi' hb' hf' hfd fun h' hx he=>?_
    show wpAny _ _ (newExc (.type "StopIteration") [] >>= _) _ _ _
    refine wpAny_bind ?_
    simp only [newExc,newTuple]
    refine wpAny_bind (wpAny_newObj_type ?_ (by size_fits))
    refine wpAny_bind (m:=firstArgMember _ _) (wpAny_of_eq (a:=Value.none) (by first | rfl | (simp only [firstArgMember];rfl)) ?_)
    refine wpAny_newObj_type ?_ (by size_fits)
    simp only [raiseNew]
    refine wpAny_bind (wpAny_handled ?_)
    rw [show A.in1.handled = none from hh]
    refine wpAny_bind (wpAny_pure (wpAny_throw ?_))
    refine wpAny_bind (wpAny_isInstance (T := "StopIteration") (b:=true) ⟨_,Heap.get?_push_size _ rfl,rfl⟩ isSubtype_stop ?_)
    exact wpAny_pure (hq2 hce _ _ ((hx.push _).push _) (Heap.get?_push_of_some _ (Heap.get?_push_of_some _ he)))
  · rw [show decide (Str.ofString "" = c) = false by rw [decide_eq_false_iff_not, ofString_empty]; exact fun e => hce e.symm]
    refine KFB.if_so rfl ?_
    refine wpAny_bind (wpAny_pure ?_)
    refine wpAny_pure ⟨_,rfl,?_⟩
    exact wpAny_pure (hq1 hce)
theorem next_ci_dead {Q : Option Value → Shared → Prop} (hh : A.handled = none) (hi : s.heap.get? it = some ciEnd)
    (h : ∀ h',Heap.ExtBut it s.heap h' → h'.get? it = some ciEnd → Q none { s with heap:=h' }) : wpAny (model prog w) A (pyNext (.ref it)) Q E s:=by
  have hT : s.TypeIs (.ref it) "callable_iterator" := ⟨_,hi,rfl⟩
  unfold pyNext
  refine wpAny_bind (wpAny_attempt (wpAny_callSpecial?_slot (name:=Str.ofString "__next__") hT slot_ci_next (wpAny_call_entry slot_ci_next hT entry_ci_next ?_ (args_ci_next _))))
  unfold Builtin.«callable_iterator.__next__»
  refine wpAny_bind (wpAny_pure ?_)
  dsimp only
  refine wpAny_bind (wpAny_field hi rfl (x:=.bool true) rfl ?_)
  refine KFB.if_so rfl ?_
  refine wpAny_bind (wpAny_rule ?_)
  refine wpAny_bind ?_
  show wpAny _ _ (newExc (.type "StopIteration") [] >>= _) _ _ _
  refine wpAny_bind ?_
  simp only [newExc,newTuple]
  refine wpAny_bind (wpAny_newObj_type ?_ (by size_fits))
  refine wpAny_bind (m:=firstArgMember _ _) (wpAny_of_eq (a:=Value.none) (by first | rfl | (simp only [firstArgMember];rfl)) ?_)
  refine wpAny_newObj_type ?_ (by size_fits)
  simp only [raiseNew]
  refine wpAny_bind (wpAny_handled ?_)
  rw [show A.in1.handled = none from hh]
  refine wpAny_bind (wpAny_pure (wpAny_throw ?_))
  refine wpAny_bind (wpAny_isInstance (T := "StopIteration") (b:=true) ⟨_,Heap.get?_push_size _ rfl,rfl⟩ isSubtype_stop ?_)
  exact wpAny_pure (h _ (fun b o hb e=>Heap.get?_push_of_some _ (Heap.get?_push_of_some _ e)) (Heap.get?_push_of_some _ (Heap.get?_push_of_some _ hi)))
end

end
section
set_option maxRecDepth 100000
noncomputable def firstDef : List Stmt → Option (Str × Arguments × List Stmt × Scope)
  | []=>none
  | .FunctionDef n ps b _ _ _ sc _ _ _ :: _=>some (n,ps,b,sc)
  | _ :: r=>firstDef r
noncomputable def nestedObj (o : Obj) : Option (Str × Arguments × List Stmt × Scope) := match o with
  | ⟨_, _, .func fd, _⟩ => (match fd.body with
    | .stmts b=>firstDef b
    | _=>none)
  | _=>none
noncomputable def nestedIn (K : Frag) (f : Addr) : Option (Str × Arguments × List Stmt × Scope) := (K.lookup f).bind nestedObj
section
variable {w : World} {mean : ExcName → Option Value} {mg mb : Str → Option Value} {h₀ : Heap} {s : Shared} {U : List (Addr × Obj)} {dp un : Nat} {fr : Option (List Env)} {gd : Option (List Code)} {E : Value → Shared → Prop}
  {name qual : Str} {params : Arguments} {body : List Stmt} {scope : Scope} {cl : List (Str × Addr)} {doc pm ctv : Value} {c' : Addr} {f:Addr} {args : Args} {binds : List (Str × Value)} {Q:Value → Shared → Prop}
theorem enter_codeN {R : Result → Shared → Prop} (C : Cx w mean mg mb h₀ s U)
    (ho : (f,fnMade name qual params body scope cl doc pm c' ctv) ∈ U) (hcd : s.heap.CodeRec (.ref c') qual) (hroom : dp < recursionLimit)
    (hbind : BindsTo s (fnX name qual params body scope cl .none .none doc pm none (.ref c') ctv) args binds) (hloc : ∀ y ∈ binds,scope.names.lookup y.1 = some .local)
    (h : ∀ g L' h₁,Fr g L' h₁ (fun y=>binds.reverse.lookup y) → News g L' h₁ U → (Mine.hd.heap_1 w.params).In g → Top topProg Lz mean mg mb g → (∀ b o,s.heap.get? b = some o → b ∉ U.map (·.1) → g.get? b = some o) → (∀ p ∈ U,p.1 < L') → L' = s.heap.objs.size →
      wpAny (model P0 w) ((Ar dp fr gd un).deeper (envX qual scope L' f (.ref c') cl)) (execs body (envX qual scope L' f (.ref c') cl))
        (fun fl s'=>Leave g L' (U.map (·.1)) s (fun v s'=>R (.ok (.ret v)) s') (match fl with | .ret v=>v | _=>.none) s')
        (fun _ _=>False) { s with heap:=h₁,toks:=s.toks + binds.length })
    (hco : scope.isCoroutine = false) (hgen : scope.isGenerator = false) (hk : scope.kind = .function)
    (hcell : ∀ x ∈ scope.names,x.2 ≠ .cell) : codeAny (model P0 w) (Ar dp fr gd un) (.call (.ref f) args) R s:=by
  have nm : ∀ b o,h₀.get? b = some o → b ∉ U.map (·.1):=fun b o e q=>by
    refine obEA (List.mem_map.mp q) ?_;intro p hp oR2;subst oR2
    rw [(C.U p hp).2] at e;cases e
  have st : h₀.StaysIn (hideAll s.heap (U.map (·.1))):=fun b o e=>hideAll_get _ (C.st b o e) (nm b o e)
  refine codeAny_call_def (fd:=fnX name qual params body scope cl .none .none doc pm none (.ref c') ctv) (body:=body) (binds:=binds) hroom (C.U _ ho).1 rfl (C.T.nolimit.keeps C.st) hcd rfl hbind hcell hloc (fun h₁ hns hk₁=>?_) hco hgen hk
  refine wpAny_mono (h (hideAll s.heap (U.map (·.1))) s.heap.objs.size h₁ ⟨hns,fun b o e=>hk₁ b o (of_hideAll _ e),Nat.le_of_eq (hideAll_size _ _)⟩ (fun p hp=>⟨hk₁ _ _ (C.U p hp).1,Nat.ne_of_lt (Heap.lt_size (C.U p hp).1),hideAll_none _ (List.mem_map_of_mem hp)⟩) (C.X.keeps fun b o e=>st b o e) (C.T.keeps fun b o e=>st b o e) (fun b o e q=>hideAll_get _ e q) (fun p hp=>Heap.lt_size (C.U p hp).1) rfl) (fun fl s' hl=>?_) fun _ _ x=>x.elim
  refine obEA hl ?_;clear hl;intro m F k
  exact k fun b o e q=>F.keep b o (hideAll_get _ e q)
end
theorem nest_at {K : Frag} {f : Addr} {o : Obj} {x : Str × Arguments × List Stmt × Scope} {P : Prop} (ho : K.lookup f = some o) (hn : nestedIn K f = some x) (h : nestedObj o = some x → P) : P := by
  refine h ?_
  unfold nestedIn at hn
  rw [ho] at hn
  exact hn
theorem and4_of {α β γ δ : Type} {a a' : α} {b b' : β} {c c' : γ} {d d' : δ} (h : (a,b,c,d) = (a',b',c',d')) : a = a' ∧ b = b' ∧ c = c' ∧ d = d' := by
  injection h with h1 h;injection h with h2 h;injection h with h3 h4;exact ⟨h1,h2,h3,h4⟩
theorem keep_less {s s' : Shared} {U : List (Addr × Obj)} {W : List Addr} (hU : ∀ p ∈ U,s.heap.get? p.1 = some p.2) (hN : ∀ p ∈ U,p.1 ∉ W → s'.heap.get? p.1 = some p.2) (kp : Keep (U.map (·.1)) s s') : Keep W s s' := fun b o e hb=>by
  by_cases hm : b ∈ U.map (·.1)
  · refine obEA (List.mem_map.mp hm) ?_; intro p hp oR2; subst oR2
    rw [hU p hp] at e
    exact e ▸ hN p hp hb
  · exact kp b o e hm

end
section
set_option maxRecDepth 100000
section
noncomputable abbrev tup2 (a b : Value) : Obj := { cls := .type "tuple",data := .seq #[a,b] }
noncomputable abbrev tup3 (a b c : Value) : Obj := { cls := .type "tuple",data := .seq #[a,b,c] }
structure CA where
  (cx cdx cl ta tb : Addr) (t0 ti tj tk tl : Tok) (cn ln : Nat)
noncomputable abbrev cmpLed (p : Params) (A : CA) (d k : Int) : List (Addr × Obj) :=
  [(A.cx,instObj 234 A.cdx),(A.cdx,dictOf [{ hash:=PyData.keyHash p (Str.ofString "comp_select_list"),key:=.str (Str.ofString "comp_select_list") A.t0,val:=.ref A.cl }] A.cn),(A.cl,listOf #[.ref A.ta,.ref A.tb] A.ln),(A.ta,tup2 (.int 0 A.ti) (.int d A.tj)),(A.tb,tup2 (.int k A.tk) (.int 1 A.tl))]
structure Ent where
  (o:Str) (p:Nat) (n:Str)
noncomputable def sLt (a b : Str) : Bool := decide (a.cps.toList < b.cps.toList)
noncomputable def cmpE (d : Int) (bn : Bool) (a b : Ent) : Int :=
  if sLt a.o b.o then -d else if sLt b.o a.o then d else
  if bn then (if sLt a.n b.n then -1 else if sLt b.n a.n then 1 else 0) else (if a.p < b.p then -1 else if b.p < a.p then 1 else 0)
theorem sLt_t {a b : Str} (h : a.cps.toList < b.cps.toList) : sLt a b = true := decide_eq_true h
theorem sLt_f {a b : Str} (h : ¬ a.cps.toList < b.cps.toList) : sLt a b = false := decide_eq_false h
namespace Y1k
noncomputable def PA (cx : Addr) (cdx : Addr) (cl : Addr) (ta : Addr) (tb : Addr) (t0 : Tok) (ti : Tok) (tj : Tok) (tk : Tok) (tl : Tok) (cn : Nat) (ln : Nat) (e1 : Addr) (e2 : Addr) (x1 : Tok) (x2 : Tok) (x3 : Tok) (y1 : Tok) (y2 : Tok) (y3 : Tok) (d : Int) (a : Ent) (b : Ent) (w : World) (mean : ExcName → Option Value) (mg : Str → Option Value) (mb : Str → Option Value) (h₀ : Heap) (s : Shared) (dp : Nat) (un : Nat) (fr : Option (List Env)) (gd : Option (List Code)) (Q : Value → Shared → Prop) (g : Heap) (L : Addr) (h : Heap) (tk0 : Tok) : Prop :=
  ∀ (C:Cx w mean mg mb h₀ s (cmpLed w.params (⟨cx,cdx,cl,ta,tb,t0,ti,tj,tk,tl,cn,ln⟩ : CA) d 2 ++ [(e1,tup3 (.str a.o x1) (.int (a.p : Int) x2) (.str a.n x3)),(e2,tup3 (.str b.o y1) (.int (b.p : Int) y2) (.str b.n y3))])) (hd : dp + 10 < recursionLimit) (hu : un + 40 < cLine) (hdd : -2 < d ∧ d < 2) (hret : ∀ h' tk' t',Keep [] s { s with heap:=h',toks:=tk' } → Q (.int (cmpE d true a b) t') { s with heap:=h',toks:=tk' }),
  BGoal wpAny w mean mg mb s (cmpLed w.params (⟨cx,cdx,cl,ta,tb,t0,ti,tj,tk,tl,cn,ln⟩ : CA) d 2 ++ [(e1,tup3 (.str a.o x1) (.int (a.p : Int) x2) (.str a.n x3)),(e2,tup3 (.str b.o y1) (.int (b.p : Int) y2) (.str b.n y3))]) dp un fr gd 231 [(Str.ofString "self",.ref cx),(Str.ofString "left",.ref e1),(Str.ofString "right",.ref e2)] Q g L h tk0
noncomputable def PB (cx : Addr) (cdx : Addr) (cl : Addr) (ta : Addr) (tb : Addr) (t0 : Tok) (ti : Tok) (tj : Tok) (tk : Tok) (tl : Tok) (cn : Nat) (ln : Nat) (e1 : Addr) (e2 : Addr) (x1 : Tok) (x2 : Tok) (x3 : Tok) (y1 : Tok) (y2 : Tok) (y3 : Tok) (d : Int) (a : Ent) (b : Ent) (w : World) (mean : ExcName → Option Value) (mg : Str → Option Value) (mb : Str → Option Value) (h₀ : Heap) (s : Shared) (dp : Nat) (un : Nat) (fr : Option (List Env)) (gd : Option (List Code)) (Q : Value → Shared → Prop) (g : Heap) (L : Addr) (h : Heap) (tk0 : Tok) : Prop :=
  ∀ (C:Cx w mean mg mb h₀ s (cmpLed w.params (⟨cx,cdx,cl,ta,tb,t0,ti,tj,tk,tl,cn,ln⟩ : CA) d 1 ++ [(e1,tup3 (.str a.o x1) (.int (a.p : Int) x2) (.str a.n x3)),(e2,tup3 (.str b.o y1) (.int (b.p : Int) y2) (.str b.n y3))])) (hd : dp + 10 < recursionLimit) (hu : un + 40 < cLine) (hdd : -2 < d ∧ d < 2) (hret : ∀ h' tk' t',Keep [] s { s with heap:=h',toks:=tk' } → Q (.int (cmpE d false a b) t') { s with heap:=h',toks:=tk' }),
  BGoal wpAny w mean mg mb s (cmpLed w.params (⟨cx,cdx,cl,ta,tb,t0,ti,tj,tk,tl,cn,ln⟩ : CA) d 1 ++ [(e1,tup3 (.str a.o x1) (.int (a.p : Int) x2) (.str a.n x3)),(e2,tup3 (.str b.o y1) (.int (b.p : Int) y2) (.str b.n y3))]) dp un fr gd 231 [(Str.ofString "self",.ref cx),(Str.ofString "left",.ref e1),(Str.ofString "right",.ref e2)] Q g L h tk0
noncomputable def PP (cx : Addr) (cdx : Addr) (cl : Addr) (ta : Addr) (tb : Addr) (t0 : Tok) (ti : Tok) (tj : Tok) (tk : Tok) (tl : Tok) (cn : Nat) (ln : Nat) (e1 : Addr) (e2 : Addr) (x1 : Tok) (x2 : Tok) (x3 : Tok) (y1 : Tok) (y2 : Tok) (y3 : Tok) (d : Int) (a : Ent) (b : Ent) (w : World) (mean : ExcName → Option Value) (mg : Str → Option Value) (mb : Str → Option Value) (h₀ : Heap) (s : Shared) (dp : Nat) (un : Nat) (fr : Option (List Env)) (gd : Option (List Code)) (Q : Value → Shared → Prop) (g : Heap) (L : Addr) (h : Heap) (tk0 : Tok) : Prop := PA cx cdx cl ta tb t0 ti tj tk tl cn ln e1 e2 x1 x2 x3 y1 y2 y3 d a b w mean mg mb h₀ s dp un fr gd Q g L h tk0 ∧ PB cx cdx cl ta tb t0 ti tj tk tl cn ln e1 e2 x1 x2 x3 y1 y2 y3 d a b w mean mg mb h₀ s dp un fr gd Q g L h tk0
noncomputable def F := ucr fun cx=>ucr fun cdx=>ucr fun cl=>ucr fun ta=>ucr fun tb=>ucr fun t0=>ucr fun ti=>ucr fun tj=>ucr fun tk=>ucr fun tl=>ucr fun cn=>ucr fun ln=>ucr fun e1=>ucr fun e2=>ucr fun x1=>ucr fun x2=>ucr fun x3=>ucr fun y1=>ucr fun y2=>ucr fun y3=>ucr fun d=>ucr fun a=>ucr fun b=>ucr fun w=>ucr fun mean=>ucr fun mg=>ucr fun mb=>ucr fun h₀=>ucr fun s=>ucr fun dp=>ucr fun un=>ucr fun fr=>ucr fun gd=>ucr fun Q=>ucr fun g=>ucr fun L=>ucr fun h tk0=>PP cx cdx cl ta tb t0 ti tj tk tl cn ln e1 e2 x1 x2 x3 y1 y2 y3 d a b w mean mg mb h₀ s dp un fr gd Q g L h tk0
noncomputable section
@[irreducible] def zz := eps ((0),(0),(0),(0),(0),(0),(0),(0),(0),(0),(0),(0),(0),(0),(0),(0),(0),(0),(0),(0),(0),(⟨Str.empty,0,Str.empty⟩),(⟨Str.empty,0,Str.empty⟩),d0) F
@[irreducible] def cx := zz.1
@[irreducible] def cdx := zz.2.1
@[irreducible] def cl := zz.2.2.1
@[irreducible] def ta := zz.2.2.2.1
@[irreducible] def tb := zz.2.2.2.2.1
@[irreducible] def t0 := zz.2.2.2.2.2.1
@[irreducible] def ti := zz.2.2.2.2.2.2.1
@[irreducible] def tj := zz.2.2.2.2.2.2.2.1
@[irreducible] def zz8 := zz.2.2.2.2.2.2.2.2
@[irreducible] def tk := zz8.1
@[irreducible] def tl := zz8.2.1
@[irreducible] def cn := zz8.2.2.1
@[irreducible] def ln := zz8.2.2.2.1
@[irreducible] def e1 := zz8.2.2.2.2.1
@[irreducible] def e2 := zz8.2.2.2.2.2.1
@[irreducible] def x1 := zz8.2.2.2.2.2.2.1
@[irreducible] def x2 := zz8.2.2.2.2.2.2.2.1
@[irreducible] def zz16 := zz8.2.2.2.2.2.2.2.2
@[irreducible] def x3 := zz16.1
@[irreducible] def y1 := zz16.2.1
@[irreducible] def y2 := zz16.2.2.1
@[irreducible] def y3 := zz16.2.2.2.1
@[irreducible] def d := zz16.2.2.2.2.1
@[irreducible] def a := zz16.2.2.2.2.2.1
@[irreducible] def b := zz16.2.2.2.2.2.2.1
@[irreducible] def w := zz16.2.2.2.2.2.2.2.1
@[irreducible] def zz24 := zz16.2.2.2.2.2.2.2.2
@[irreducible] def mean := zz24.1
@[irreducible] def mg := zz24.2.1
@[irreducible] def mb := zz24.2.2.1
@[irreducible] def h₀ := zz24.2.2.2.1
@[irreducible] def s := zz24.2.2.2.2.1
@[irreducible] def dp := zz24.2.2.2.2.2.1
@[irreducible] def un := zz24.2.2.2.2.2.2.1
@[irreducible] def fr := zz24.2.2.2.2.2.2.2.1
@[irreducible] def zz32 := zz24.2.2.2.2.2.2.2.2
@[irreducible] def gd := zz32.1
@[irreducible] def Q := zz32.2.1
@[irreducible] def g := zz32.2.2.1
@[irreducible] def L := zz32.2.2.2.1
@[irreducible] def h := zz32.2.2.2.2.1
@[irreducible] def tk0 := zz32.2.2.2.2.2
end
theorem coreA : PA cx cdx cl ta tb t0 ti tj tk tl cn ln e1 e2 x1 x2 x3 y1 y2 y3 d a b w mean mg mb h₀ s dp un fr gd Q g L h tk0 := by
  k_with_none
  k_with "M.in" => ((case k1=>assumption);(case k6=>k_is);(case k7=>k_is);(case k8=>omega);(case k9=>first | exact BindsTo.of_eq rfl | exact binds_K (by k_in) rfl (by k_is) rfl rfl rfl | (refine' kp_binds (by k_in) (by exact fun _=>rfl)));(case c5=>decide);(case kB=>exact locs rfl);(case c2=>exact rfl);(case c3=>exact rfl);(case c4=>exact rfl);k_whole)
  k_with "execs cons" => (refine wpAny_execs_cons ?_;k_fold)
  k_with "call ref" => ((with_reducible show wpAny _ _ (call (Value.ref 98) _) _ _ _);k_dflt (refine' call_join98 (by k_asm) (by k_asm) (by assumption) (by k_mem) ?_ ?_;rotate_left;intro _ _))
  k_with "call ref" => ((with_reducible show wpAny _ _ (call (Value.ref _) [Value.str _ _]) _ _ _);k_dflt (refine' call_bd_K (by k_asm) (by k_asm) (by k_mem) (by k_upd) ?_ ?_;intro _ _ _;(try k_sweep)))
  k_with "call builtin:list.append" => (k_dflt (refine' append_svs (by k_asm) (by k_asm) (by k_upd) ?_ ?_;intro _ _ _;(try k_sweep)))
  k_with "exec For Tuple Attribute cons nil" => (with_unfolding_all refine' for_T ?_;k_whole)
  k_with "exec For" => (with_unfolding_all refine' for_T ?_;k_whole)
  intro C hd hu hdd hret F N X TP kG lG eL
  dsimp only [cmpLed,List.cons_append,List.nil_append] at C
  k_dflt (refine' bg_use ?k6 ?_;(case k6=>k_is);k_whole)
  dsimp only [cmpLed,List.cons_append,List.nil_append] at N kG lG ⊢
  k_lt lG
  (try dsimp only)
  k_steps
  (rename Fr _ _ _ _=>F5)
  (rename News _ _ _ _=>N5)
  refine' loop_list_G (σ:=Unit) (l:=cl) (items:=#[.ref ta,.ref tb]) (oth:=cmpLed w.params ⟨cx,cdx,cl,ta,tb,t0,ti,tj,tk,tl,cn,ln⟩ d 2 ++ [(e1,tup3 (.str a.o x1) (.int (a.p : Int) x2) (.str a.n x3)),(e2,tup3 (.str b.o y1) (.int (b.p : Int) y2) (.str b.n y3))]) (fun _=>[]) (fun _=>[]) (Str.ofString "index") [Str.ofString "index",Str.ofString "direction",Str.ofString "l",Str.ofString "r"] (fun i _ gs=>gs = s.gens ∧ (0 < i → ¬ a.o.cps.toList < b.o.cps.toList ∧ ¬ b.o.cps.toList < a.o.cps.toList) ∧ (1 < i → ¬ a.n.cps.toList < b.n.cps.toList ∧ ¬ b.n.cps.toList < a.n.cps.toList)) () GoesBy.tup rfl ?hL F5 ?hN (fun _ h=>nomatch h) ⟨rfl,fun h=>absurd h (by decide),fun h=>absurd h (by decide)⟩ ?turn ?done
  case hL=>exact fun _ h m F N=>⟨_,(N (cl,_) (List.Mem.tail _ (List.Mem.tail _ (List.Mem.head _)))).1,rfl,_,rfl⟩
  case hN=>exact N5
  case done=>
    rintro _ u h1 tk1 gs ⟨rfl,p1,p2⟩ F6 N6
    refine obA (p1 (show 0 < 2 by decide)) ?_;intro q1 q2
    refine obA (p2 (show 1 < 2 by decide)) ?_;intro q3 q4
    have hval : cmpE d true a b = 0:=by simp only [cmpE,sLt_f q1,sLt_f q2,sLt_f q3,sLt_f q4,Bool.false_eq_true,if_false,if_true]
    k_steps
    refine Leave.intro (by assumption) fun kp=>?_
    have hq:=fun t'=>hret h1 _ t' (keep_less (fun q hq=>(C.U q hq).1) (fun q hq _=>(N6 q hq).1) kp)
    simp only [hval] at hq
    exact hq _
  case turn=>
    rintro _ i v u h1 tk1 gs I oI hi hv hne ⟨rfl,p1,p2⟩ F6 N6
    dsimp only [cmpLed,List.cons_append,List.nil_append] at N6
    have hi2 : i = 0 ∨ i = 1:=by have : i < 2:=hi;omega
    rcases hi2 with rfl | rfl
    · obtain rfl : v = .ref ta := (Option.some.inj hv).symm
      k_steps
      · (rename (a.o.cps.toList < b.o.cps.toList) => q1)
        have hval : cmpE d true a b = -d:=by simp only [cmpE,sLt_t q1,if_true]
        (rename News _ _ _ _=>N7)
        refine Leave.intro (by assumption) fun kp=>?_
        have hq:=fun t'=>hret _ _ t' (keep_less (fun q hq=>(C.U q hq).1) (fun q hq _=>(N7 q (List.Mem.tail _ hq)).1) kp)
        simp only [hval] at hq
        exact hq _
      · (rename (b.o.cps.toList < a.o.cps.toList) => q2)
        (rename (¬ a.o.cps.toList < b.o.cps.toList)=>q1)
        have hval : cmpE d true a b = d:=by simp only [cmpE,sLt_f q1,sLt_t q2,Bool.false_eq_true,if_false,if_true]
        (rename News _ _ _ _=>N7)
        refine Leave.intro (by assumption) fun kp=>?_
        have hq:=fun t'=>hret _ _ t' (keep_less (fun q hq=>(C.U q hq).1) (fun q hq _=>(N7 q (List.Mem.tail _ hq)).1) kp)
        simp only [hval] at hq
        exact hq _
      · (rename (¬ b.o.cps.toList < a.o.cps.toList) => q2)
        (rename (¬ a.o.cps.toList < b.o.cps.toList)=>q1)
        (rename Fr _ _ _ _=>F7)
        (rename News _ _ _ _=>N7)
        refine' TEndG.intro () F7 N7 (fun _ h=>nomatch h) ?ho (fun _ h=>nomatch h) ?hr ⟨rfl,fun _=>⟨q1,q2⟩,fun h=>absurd h (by decide)⟩
        case ho=>exact fun q hq=>hq
        case hr=>intro z h1 h2 h3;simp_all [kstB]
    · obtain rfl : v = .ref tb := (Option.some.inj hv).symm
      refine obA (p1 (by decide)) ?_;intro q1 q2
      k_steps
      · (rename (a.n.cps.toList < b.n.cps.toList) => q3)
        have hval : cmpE d true a b = -1:=by simp only [cmpE,sLt_f q1,sLt_f q2,sLt_t q3,Bool.false_eq_true,if_false,if_true]
        (rename News _ _ _ _=>N7)
        refine Leave.intro (by assumption) fun kp=>?_
        have hq:=fun t'=>hret _ _ t' (keep_less (fun q hq=>(C.U q hq).1) (fun q hq _=>(N7 q (List.Mem.tail _ hq)).1) kp)
        simp only [hval] at hq
        exact hq _
      · (rename (b.n.cps.toList < a.n.cps.toList) => q4)
        (rename (¬ a.n.cps.toList < b.n.cps.toList)=>q3)
        have hval : cmpE d true a b = 1:=by simp only [cmpE,sLt_f q1,sLt_f q2,sLt_f q3,sLt_t q4,Bool.false_eq_true,if_false,if_true]
        (rename News _ _ _ _=>N7)
        refine Leave.intro (by assumption) fun kp=>?_
        have hq:=fun t'=>hret _ _ t' (keep_less (fun q hq=>(C.U q hq).1) (fun q hq _=>(N7 q (List.Mem.tail _ hq)).1) kp)
        simp only [hval] at hq
        exact hq _
      · (rename (¬ b.n.cps.toList < a.n.cps.toList) => q4)
        (rename (¬ a.n.cps.toList < b.n.cps.toList)=>q3)
        (rename Fr _ _ _ _=>F7)
        (rename News _ _ _ _=>N7)
        refine' TEndG.intro () F7 N7 (fun _ h=>nomatch h) ?ho2 (fun _ h=>nomatch h) ?hr2 ⟨rfl,fun _=>⟨q1,q2⟩,fun _=>⟨q3,q4⟩⟩
        case ho2=>exact fun q hq=>hq
        case hr2=>intro z h1 h2 h3;simp_all [kstB]
theorem coreB : PB cx cdx cl ta tb t0 ti tj tk tl cn ln e1 e2 x1 x2 x3 y1 y2 y3 d a b w mean mg mb h₀ s dp un fr gd Q g L h tk0 := by
  k_with_none
  k_with "M.in" => ((case k1=>assumption);(case k6=>k_is);(case k7=>k_is);(case k8=>omega);(case k9=>first | exact BindsTo.of_eq rfl | exact binds_K (by k_in) rfl (by k_is) rfl rfl rfl | (refine' kp_binds (by k_in) (by exact fun _=>rfl)));(case c5=>decide);(case kB=>exact locs rfl);(case c2=>exact rfl);(case c3=>exact rfl);(case c4=>exact rfl);k_whole)
  k_with "execs cons" => (refine wpAny_execs_cons ?_;k_fold)
  k_with "call ref" => ((with_reducible show wpAny _ _ (call (Value.ref 98) _) _ _ _);k_dflt (refine' call_join98 (by k_asm) (by k_asm) (by assumption) (by k_mem) ?_ ?_;rotate_left;intro _ _))
  k_with "call ref" => ((with_reducible show wpAny _ _ (call (Value.ref _) [Value.str _ _]) _ _ _);k_dflt (refine' call_bd_K (by k_asm) (by k_asm) (by k_mem) (by k_upd) ?_ ?_;intro _ _ _;(try k_sweep)))
  k_with "call builtin:list.append" => (k_dflt (refine' append_svs (by k_asm) (by k_asm) (by k_upd) ?_ ?_;intro _ _ _;(try k_sweep)))
  k_with "exec For Tuple Attribute cons nil" => (with_unfolding_all refine' for_T ?_;k_whole)
  k_with "exec For" => (with_unfolding_all refine' for_T ?_;k_whole)
  intro C hd hu hdd hret F N X TP kG lG eL
  dsimp only [cmpLed,List.cons_append,List.nil_append] at C
  k_dflt (refine' bg_use ?k6 ?_;(case k6=>k_is);k_whole)
  dsimp only [cmpLed,List.cons_append,List.nil_append] at N kG lG ⊢
  k_lt lG
  (try dsimp only)
  k_steps
  (rename Fr _ _ _ _=>F5)
  (rename News _ _ _ _=>N5)
  refine' loop_list_G (σ:=Unit) (l:=cl) (items:=#[.ref ta,.ref tb]) (oth:=cmpLed w.params ⟨cx,cdx,cl,ta,tb,t0,ti,tj,tk,tl,cn,ln⟩ d 1 ++ [(e1,tup3 (.str a.o x1) (.int (a.p : Int) x2) (.str a.n x3)),(e2,tup3 (.str b.o y1) (.int (b.p : Int) y2) (.str b.n y3))]) (fun _=>[]) (fun _=>[]) (Str.ofString "index") [Str.ofString "index",Str.ofString "direction",Str.ofString "l",Str.ofString "r"] (fun i _ gs=>gs = s.gens ∧ (0 < i → ¬ a.o.cps.toList < b.o.cps.toList ∧ ¬ b.o.cps.toList < a.o.cps.toList) ∧ (1 < i → ¬ a.p < b.p ∧ ¬ b.p < a.p)) () GoesBy.tup rfl ?hL F5 ?hN (fun _ h=>nomatch h) ⟨rfl,fun h=>absurd h (by decide),fun h=>absurd h (by decide)⟩ ?turn ?done
  case hL=>exact fun _ h m F N=>⟨_,(N (cl,_) (List.Mem.tail _ (List.Mem.tail _ (List.Mem.head _)))).1,rfl,_,rfl⟩
  case hN=>exact N5
  case done=>
    rintro _ u h1 tk1 gs ⟨rfl,p1,p2⟩ F6 N6
    refine obA (p1 (show 0 < 2 by decide)) ?_;intro q1 q2
    refine obA (p2 (show 1 < 2 by decide)) ?_;intro q3 q4
    have hval : cmpE d false a b = 0:=by simp only [cmpE,sLt_f q1,sLt_f q2,if_neg q3,if_neg q4,Bool.false_eq_true,if_false,if_true]
    k_steps
    refine Leave.intro (by assumption) fun kp=>?_
    have hq:=fun t'=>hret h1 _ t' (keep_less (fun q hq=>(C.U q hq).1) (fun q hq _=>(N6 q hq).1) kp)
    simp only [hval] at hq
    exact hq _
  case turn=>
    rintro _ i v u h1 tk1 gs I oI hi hv hne ⟨rfl,p1,p2⟩ F6 N6
    dsimp only [cmpLed,List.cons_append,List.nil_append] at N6
    have hi2 : i = 0 ∨ i = 1:=by have : i < 2:=hi;omega
    rcases hi2 with rfl | rfl
    · obtain rfl : v = .ref ta := (Option.some.inj hv).symm
      k_steps
      · (rename (a.o.cps.toList < b.o.cps.toList) => q1)
        have hval : cmpE d false a b = -d:=by simp only [cmpE,sLt_t q1,if_true]
        (rename News _ _ _ _=>N7)
        refine Leave.intro (by assumption) fun kp=>?_
        have hq:=fun t'=>hret _ _ t' (keep_less (fun q hq=>(C.U q hq).1) (fun q hq _=>(N7 q (List.Mem.tail _ hq)).1) kp)
        simp only [hval] at hq
        exact hq _
      · (rename (b.o.cps.toList < a.o.cps.toList) => q2)
        (rename (¬ a.o.cps.toList < b.o.cps.toList)=>q1)
        have hval : cmpE d false a b = d:=by simp only [cmpE,sLt_f q1,sLt_t q2,Bool.false_eq_true,if_false,if_true]
        (rename News _ _ _ _=>N7)
        refine Leave.intro (by assumption) fun kp=>?_
        have hq:=fun t'=>hret _ _ t' (keep_less (fun q hq=>(C.U q hq).1) (fun q hq _=>(N7 q (List.Mem.tail _ hq)).1) kp)
        simp only [hval] at hq
        exact hq _
      · (rename (¬ b.o.cps.toList < a.o.cps.toList) => q2)
        (rename (¬ a.o.cps.toList < b.o.cps.toList)=>q1)
        (rename Fr _ _ _ _=>F7)
        (rename News _ _ _ _=>N7)
        refine' TEndG.intro () F7 N7 (fun _ h=>nomatch h) ?ho (fun _ h=>nomatch h) ?hr ⟨rfl,fun _=>⟨q1,q2⟩,fun h=>absurd h (by decide)⟩
        case ho=>exact fun q hq=>hq
        case hr=>intro z h1 h2 h3;simp_all [kstB]
    · obtain rfl : v = .ref tb := (Option.some.inj hv).symm
      refine obA (p1 (by decide)) ?_;intro q1 q2
      k_steps
      · (rename ((a.p : Int) < (b.p : Int)) => q3)
        have hval : cmpE d false a b = -1:=by simp only [cmpE,sLt_f q1,sLt_f q2,if_pos (Int.ofNat_lt.mp q3),Bool.false_eq_true,if_false,if_true]
        (rename News _ _ _ _=>N7)
        refine Leave.intro (by assumption) fun kp=>?_
        have hq:=fun t'=>hret _ _ t' (keep_less (fun q hq=>(C.U q hq).1) (fun q hq _=>(N7 q (List.Mem.tail _ hq)).1) kp)
        simp only [hval] at hq
        exact hq _
      · (rename ((b.p : Int) < (a.p : Int)) => q4)
        (rename (¬ (a.p : Int) < (b.p : Int))=>q3)
        have hval : cmpE d false a b = 1:=by simp only [cmpE,sLt_f q1,sLt_f q2,if_neg (fun h=>q3 (Int.ofNat_lt.mpr h)),if_pos (Int.ofNat_lt.mp q4),Bool.false_eq_true,if_false,if_true]
        (rename News _ _ _ _=>N7)
        refine Leave.intro (by assumption) fun kp=>?_
        have hq:=fun t'=>hret _ _ t' (keep_less (fun q hq=>(C.U q hq).1) (fun q hq _=>(N7 q (List.Mem.tail _ hq)).1) kp)
        simp only [hval] at hq
        exact hq _
      · (rename (¬ (b.p : Int) < (a.p : Int)) => q4)
        (rename (¬ (a.p : Int) < (b.p : Int))=>q3)
        (rename Fr _ _ _ _=>F7)
        (rename News _ _ _ _=>N7)
        refine' TEndG.intro () F7 N7 (fun _ h=>nomatch h) ?ho2 (fun _ h=>nomatch h) ?hr2 ⟨rfl,fun _=>⟨q1,q2⟩,fun _=>⟨fun h=>q3 (Int.ofNat_lt.mpr h),fun h=>q4 (Int.ofNat_lt.mpr h)⟩⟩
        case ho2=>exact fun q hq=>hq
        case hr2=>intro z h1 h2 h3;simp_all [kstB]
theorem core : PP cx cdx cl ta tb t0 ti tj tk tl cn ln e1 e2 x1 x2 x3 y1 y2 y3 d a b w mean mg mb h₀ s dp un fr gd Q g L h tk0 := ⟨coreA,coreB⟩
theorem all : ∀ d,F d := eps_all (by with_unfolding_all exact core)
end Y1k
theorem compare_name {w : World} {mean : ExcName → Option Value} {mg mb : Str → Option Value} {h₀ : Heap} {s : Shared} {dp un : Nat} {fr : Option (List Env)} {gd : Option (List Code)} {Q E : Value → Shared → Prop}
  {A:CA} {e1 e2 : Addr} {x1 x2 x3 y1 y2 y3 : Tok} {d:Int} {a b : Ent}
  (C:Cx w mean mg mb h₀ s (cmpLed w.params A d 2 ++ [(e1,tup3 (.str a.o x1) (.int (a.p : Int) x2) (.str a.n x3)),(e2,tup3 (.str b.o y1) (.int (b.p : Int) y2) (.str b.n y3))])) (hd : dp + 10 < recursionLimit) (hu : un + 40 < cLine) (hdd : -2 < d ∧ d < 2)
  (hret : ∀ h' tk' t',Keep [] s { s with heap:=h',toks:=tk' } → Q (.int (cmpE d true a b) t') { s with heap:=h',toks:=tk' }) :
  wpAny (model P0 w) (Ar dp fr gd un) (call (.ref 231) [.ref A.cx,.ref e1,.ref e2]) Q E s:=by
  have X0:=C.X.keeps C.st
  k_dflt (refine' enter_def (binds:=[(Str.ofString "self",.ref A.cx),(Str.ofString "left",.ref e1),(Str.ofString "right",.ref e2)]) ?k1 ?k6 ?k7 ?k8 ?k9 ?kB ?_ ?c2 ?c3 ?c4 ?c5;k_extra "M.in")
  intro g L h F N X TP kG lG eL
  refine' fn_get ((Y1k.all (A.cx,A.cdx,A.cl,A.ta,A.tb,A.t0,A.ti,A.tj,A.tk,A.tl,A.cn,A.ln,e1,e2,x1,x2,x3,y1,y2,y3,d,a,b,w,mean,mg,mb,h₀,s,dp,un,fr,gd,Q,g,L,h,_)).1 C hd hu hdd hret F N X TP kG lG eL) ?ko
  case ko=>k_is
theorem compare_place {w : World} {mean : ExcName → Option Value} {mg mb : Str → Option Value} {h₀ : Heap} {s : Shared} {dp un : Nat} {fr : Option (List Env)} {gd : Option (List Code)} {Q E : Value → Shared → Prop}
  {A:CA} {e1 e2 : Addr} {x1 x2 x3 y1 y2 y3 : Tok} {d:Int} {a b : Ent}
  (C:Cx w mean mg mb h₀ s (cmpLed w.params A d 1 ++ [(e1,tup3 (.str a.o x1) (.int (a.p : Int) x2) (.str a.n x3)),(e2,tup3 (.str b.o y1) (.int (b.p : Int) y2) (.str b.n y3))])) (hd : dp + 10 < recursionLimit) (hu : un + 40 < cLine) (hdd : -2 < d ∧ d < 2)
  (hret : ∀ h' tk' t',Keep [] s { s with heap:=h',toks:=tk' } → Q (.int (cmpE d false a b) t') { s with heap:=h',toks:=tk' }) :
  wpAny (model P0 w) (Ar dp fr gd un) (call (.ref 231) [.ref A.cx,.ref e1,.ref e2]) Q E s:=by
  have X0:=C.X.keeps C.st
  k_dflt (refine' enter_def (binds:=[(Str.ofString "self",.ref A.cx),(Str.ofString "left",.ref e1),(Str.ofString "right",.ref e2)]) ?k1 ?k6 ?k7 ?k8 ?k9 ?kB ?_ ?c2 ?c3 ?c4 ?c5;k_extra "M.in")
  intro g L h F N X TP kG lG eL
  refine' fn_get ((Y1k.all (A.cx,A.cdx,A.cl,A.ta,A.tb,A.t0,A.ti,A.tj,A.tk,A.tl,A.cn,A.ln,e1,e2,x1,x2,x3,y1,y2,y3,d,a,b,w,mean,mg,mb,h₀,s,dp,un,fr,gd,Q,g,L,h,_)).2 C hd hu hdd hret F N X TP kG lG eL) ?ko
  case ko=>k_is
end

end
section
set_option maxRecDepth 100000
noncomputable def leS (a b : Str) : Prop := a.cps.toList ≤ b.cps.toList
theorem leS_trans {a b c : Str} (h1 : leS a b) (h2 : leS b c) : leS a c := List.le_trans h1 h2
theorem leS_anti {a b : Str} (h1 : leS a b) (h2 : leS b a) : a = b := by
  obtain ⟨⟨x⟩⟩:=a
  obtain ⟨⟨y⟩⟩:=b
  have : x = y:=List.le_antisymm h1 h2
  rw [this]
noncomputable def insS (x : Str) : List Str → List Str
  | []=>[x]
  | y :: r=>if sLt y x then y :: insS x r else x :: y :: r
noncomputable def sortS : List Str → List Str
  | []=>[]
  | x :: r=>insS x (sortS r)
theorem insS_perm (x : Str) : ∀ l,(insS x l).Perm (x :: l)
  | []=>List.Perm.refl _
  | y :: r => by
    unfold insS
    split
    · exact ((insS_perm x r).cons y).trans (List.Perm.swap x y r)
    · exact List.Perm.refl _
theorem sortS_perm : ∀ l,(sortS l).Perm l
  | []=>List.Perm.refl _
  | x :: r=>(insS_perm x (sortS r)).trans ((sortS_perm r).cons x)
theorem sLt_le {a b : Str} (h : sLt a b = true) : leS a b := List.le_of_lt (of_decide_eq_true h)
theorem sLt_ge {a b : Str} (h : ¬ sLt a b = true) : leS b a := fun q=>h (decide_eq_true q)
theorem insS_sorted (x : Str) : ∀ l,l.Pairwise leS → (insS x l).Pairwise leS
  | [],_=>List.pairwise_singleton _ _
  | y :: r, h => by
    refine obA (List.pairwise_cons.mp h) ?_;intro h1 h2
    unfold insS
    split
    · rename_i hy
      refine List.pairwise_cons.mpr ⟨fun z hz=>?_,insS_sorted x r h2⟩
      rcases List.mem_cons.mp ((insS_perm x r).mem_iff.mp hz) with rfl | hz
      · exact sLt_le hy
      · exact h1 z hz
    · rename_i hy
      refine List.pairwise_cons.mpr ⟨fun z hz=>?_,h⟩
      rcases List.mem_cons.mp hz with rfl | hz
      · exact sLt_ge hy
      · exact leS_trans (sLt_ge hy) (h1 z hz)
theorem sortS_sorted : ∀ l,(sortS l).Pairwise leS
  | []=>List.Pairwise.nil
  | x :: r=>insS_sorted x _ (sortS_sorted r)
theorem rising_pw : ∀ (l : List Str) (p : Str), risingS p l = true → (p :: l).Pairwise leS
  | [],p,_=>List.pairwise_singleton _ _
  | x :: r, p, h => by
    unfold risingS at h
    rw [Bool.and_eq_true] at h
    refine obA h ?_;clear h;intro h1 h2
    have hr:=rising_pw r x h2
    have hpx : leS p x:=fun q=>by
      have : Spec.ltCps x.cps.toList p.cps.toList = true:=by
        rw [ltCps_eq];exact decide_eq_true q
      rw [this] at h1;cases h1
    refine List.pairwise_cons.mpr ⟨fun z hz=>?_,hr⟩
    rcases List.mem_cons.mp hz with rfl | hz
    · exact hpx
    · exact leS_trans hpx ((List.pairwise_cons.mp hr).1 z hz)
theorem sorted_unique {a b : List Str} (hp : a.Perm b) (hs : sortedS a = true) : a = sortS b := by
  have h1 : a.Pairwise leS:=by
    cases a with
    | nil=>exact List.Pairwise.nil
    | cons x r=>exact rising_pw r x hs
  exact List.Perm.eq_of_pairwise (fun x y _ _=>leS_anti) h1 (sortS_sorted b) (hp.trans (sortS_perm b).symm)
section
variable {prog : Program} {w : World} {A : Around} {E : Value → Shared → Prop} {s : Shared} {h₀ : Heap} {L D : Addr} {m : Str → Option Value} {news news' : List (Addr × Obj)} {n : Nat}
theorem insert_vals {l1 l2 : List Value} {x : Value} {t : Tok} {k : Int} {Q : Value → Shared → Prop} (hk : k = (l1.length : Int)) (Fz : Fr h₀ L s.heap m) (N : News h₀ L s.heap news) (U : Upd D (listOf (l1 ++ l2).toArray n) (listOf (l1 ++ x :: l2).toArray (n + 1)) news news')
    (hz : (l1 ++ l2).length < 1000) (h : ∀ h',Fr h₀ L h' m → News h₀ L h' news' → Q .none { s with heap:=h' }) : wpAny (model prog w) A (call (.builtin "list.insert") [.ref D,.int k t,x]) Q E s:=by
  refine obEEAAA U.split ?_;intro pre post oR2 oR3 a b;subst oR2;subst oR3
  have z:=N (D,listOf (l1 ++ l2).toArray n) (List.mem_append.mpr (.inr (.head _)))
  have hl : l1.length ≤ (l1 ++ l2).length:=by rw [List.length_append];omega
  have hz' : (l1 ++ l2).toArray.size ≤ sizeLine:=by rw [List.size_toArray,sizeLine_eq];omega
  have hfit : ¬(!Builtin.List.listFitsIndex k) = true:=by
    subst hk
    have : Builtin.List.listFitsIndex (l1.length : Int) = true:=by
      unfold Builtin.List.listFitsIndex
      simp
      omega
    rw [this];decide
  refine call_meets PySem.F.slot_list_insert ⟨_,z.1,rfl⟩ PySem.F.entry_list_insert (PySem.F.args_list_insert_3 _ _ _) (PySem.AutoListH.list_insert_list_int_val_1 D _ n k t x hfit hz') ⟨z.1,h _ (Fz.change (Heap.SameBut.update ..) z.2.1 z.2.2) (kl_turn _ N a b ?_ ?_)⟩
  · subst hk
    dsimp only
    have e1 : (if (l1.length : Int) < 0 then ((l1.length : Int) + (((l1 ++ l2).toArray.size : Nat) : Int)).toNat else min (l1.length : Int).toNat (l1 ++ l2).toArray.size) = l1.length:=by
      rw [if_neg (by omega),List.size_toArray,Int.toNat_natCast];exact Nat.min_eq_left hl
    rw [e1]
    apply Array.toList_inj.mp
    simp
  · simp
theorem last_svs {value slice : PySem.Expr} {Q : Value → Shared → Prop} {l : SV} {t : Tok} (N : News h₀ L s.heap news) (hp : (D,listOf (svs l).toArray n) ∈ news) (hne : l ≠ []) (hk : l.length < 1000) (h : ∀ t',Q (.str ((l.map (·.1)).getLast?.getD Str.empty) t') s)
    (hs : subscripted slice false (.ref D) (.int (-1) t) = operate [.ref D,.int (-1) t] (getItem (.ref D) (.int (-1) t)):=by with_unfolding_all rfl) (hg : ∀ r,letTemporaryGo value (.ref D) r = pure ():=by intro _;with_unfolding_all rfl) :
    wpAny (model prog w) A (subscriptTail value slice (.ref D) (.int (-1) t)) Q E s:=by
  obtain ⟨q,z,rfl⟩ : ∃ q z,l = q ++ [z]:=⟨l.dropLast,l.getLast hne,(List.dropLast_concat_getLast hne).symm⟩
  have hl : s.heap.IsList D (svs (q ++ [z])).toArray:=⟨_,(N _ hp).1,rfl,n,rfl⟩
  have e2 : ((q ++ [z]).map (·.1)).getLast?.getD Str.empty = z.1:=by simp
  rw [e2] at h
  rw [List.length_append] at hk
  simp only [List.length_cons,List.length_nil] at hk
  refine subscriptTail_builtin hl.typeIs slot_list_getitem.lookup (wpAny_getItem_list_neg hl (by decide) ?_ (by decide) ?_ (h z.2)) hs hg
  · rw [List.size_toArray,svs_length,List.length_append];simp;omega
  · rw [List.size_toArray, svs_length, List.length_append, List.length_cons, List.length_nil, show ((-1 : Int) + ((q.length + (0 + 1) : Nat) : Int)).toNat = q.length by omega, svs_append]
    simp [svs]
end

end
section
set_option maxRecDepth 100000
section
noncomputable abbrev SVT := List (Str × Str × Tok)
noncomputable def mapV (l : SVT) : List (Str × Value) := l.map fun q=>(q.1,.str q.2.1 q.2.2)
noncomputable def putP (l : List (Str × Str)) (k v : Str) : List (Str × Str) := if l.any (fun q=>q.1 = k) then l.map (fun q=>if q.1 = k then (q.1,v) else q) else l ++ [(k,v)]
noncomputable def putT (l : SVT) (k v : Str) (t : Tok) : SVT := if l.any (fun q=>q.1 = k) then l.map (fun q=>if q.1 = k then (q.1,v,t) else q) else l ++ [(k,v,t)]
noncomputable def txs (l : SVT) : List (Str × Str) := l.map fun q=>(q.1,q.2.1)
theorem stored_mapV (l : SVT) (k v : Str) (t : Tok) : stored (mapV l) k (.str v t) = mapV (putT l k v t) := by
  have e : (mapV l).any (fun kv=>kv.1 = k) = l.any (fun q=>q.1 = k):=by unfold mapV;rw [List.any_map];rfl
  unfold stored putT
  rw [e]
  by_cases h : l.any (fun q=>q.1 = k) = true
  · rw [if_pos h, if_pos h]
    unfold mapV
    rw [List.map_map,List.map_map]
    refine List.map_congr_left fun q _=>?_
    by_cases hq : q.1 = k <;> simp [hq]
  · rw [if_neg h, if_neg h]
    simp [mapV]
theorem txs_putT (l : SVT) (k v : Str) (t : Tok) : txs (putT l k v t) = putP (txs l) k v := by
  have e : (txs l).any (fun kv=>kv.1 = k) = l.any (fun q=>q.1 = k):=by unfold txs;rw [List.any_map];rfl
  unfold putT putP
  rw [e]
  by_cases h : l.any (fun q=>q.1 = k) = true
  · rw [if_pos h, if_pos h]
    unfold txs
    rw [List.map_map,List.map_map]
    refine List.map_congr_left fun q _=>?_
    by_cases hq : q.1 = k <;> simp [hq]
  · rw [if_neg h, if_neg h]
    simp [txs]
theorem putT_le (l : SVT) (k v : Str) (t : Tok) : (putT l k v t).length ≤ l.length + 1 := by
  unfold putT
  split <;> simp
noncomputable def curI (b : Str) (k : Nat) : Str := Txt.item b (0 + (k : Int))
noncomputable def nxtI (b : Str) (k : Nat) : Str := Txt.item b (Int.fmod (0 + (k : Int) + 1) (b.length : Int))
noncomputable def blockP (l : List (Str × Str)) (b : Str) : Nat → List (Str × Str)
  | 0=>l
  | k + 1=>putP (blockP l b k) (curI b k) (nxtI b k)
noncomputable def stepsP (bl : List Str) : Nat → List (Str × Str)
  | 0=>[]
  | i + 1 => match bl[i]? with
    | some b=>blockP (stepsP bl i) b b.length
    | none=>stepsP bl i
theorem name_dict {w : World} {h₀ h : Heap} {L D : Addr} {o : Obj} {r : List (Addr × Obj)} {G : Prop} (N : News h₀ L h ((D,o) :: r)) (hs : o.IsDictOf (strKind P0 w) [])
    (k : ∀ D1 o1,D1 = D → News h₀ L h ((D1,o1) :: r) → o1.IsDictOf (strKind P0 w) (mapV []) → G) : G:=k D o rfl N hs
namespace V1k
noncomputable def PP (bA : Addr) (bv : List Value) (bl : List Str) (w : World) (mean : ExcName → Option Value) (mg : Str → Option Value) (mb : Str → Option Value) (h₀ : Heap) (s : Shared) (dp : Nat) (un : Nat) (fr : Option (List Env)) (gd : Option (List Code)) (Q : Value → Shared → Prop) (g : Heap) (L : Addr) (h : Heap) (tk0 : Tok) : Prop :=
  ∀ (C:Cx w mean mg mb h₀ s []) (hd : dp + 3 < recursionLimit) (hu : un + 20 < cLine) (hw : s.heap.IsList bA bv.toArray) (hbv : StrsAre bv bl) (hbl : bl.length ≤ 20) (hb : ∀ b ∈ bl,0 < b.length ∧ b.length ≤ 20) (hret : ∀ h' tk' D o l,h'.get? D = some o → o.IsDictOf (PySem.strKind P0 w) (mapV l) → txs l = stepsP bl bl.length → s.heap.get? D = none → Keep [] s { s with heap:=h',toks:=tk' } → Q (.ref D) { s with heap:=h',toks:=tk' }),
  BGoal wpAny w mean mg mb s ([]) dp un fr gd 313 [(Str.ofString "blocks",.ref bA)] Q g L h tk0
noncomputable def F := ucr fun bA=>ucr fun bv=>ucr fun bl=>ucr fun w=>ucr fun mean=>ucr fun mg=>ucr fun mb=>ucr fun h₀=>ucr fun s=>ucr fun dp=>ucr fun un=>ucr fun fr=>ucr fun gd=>ucr fun Q=>ucr fun g=>ucr fun L=>ucr fun h tk0=>PP bA bv bl w mean mg mb h₀ s dp un fr gd Q g L h tk0
noncomputable section
@[irreducible] def zz := eps ((0),([]),([]),d0) F
@[irreducible] def bA := zz.1
@[irreducible] def bv := zz.2.1
@[irreducible] def bl := zz.2.2.1
@[irreducible] def w := zz.2.2.2.1
@[irreducible] def mean := zz.2.2.2.2.1
@[irreducible] def mg := zz.2.2.2.2.2.1
@[irreducible] def mb := zz.2.2.2.2.2.2.1
@[irreducible] def h₀ := zz.2.2.2.2.2.2.2.1
@[irreducible] def zz8 := zz.2.2.2.2.2.2.2.2
@[irreducible] def s := zz8.1
@[irreducible] def dp := zz8.2.1
@[irreducible] def un := zz8.2.2.1
@[irreducible] def fr := zz8.2.2.2.1
@[irreducible] def gd := zz8.2.2.2.2.1
@[irreducible] def Q := zz8.2.2.2.2.2.1
@[irreducible] def g := zz8.2.2.2.2.2.2.1
@[irreducible] def L := zz8.2.2.2.2.2.2.2.1
@[irreducible] def zz16 := zz8.2.2.2.2.2.2.2.2
@[irreducible] def h := zz16.1
@[irreducible] def tk0 := zz16.2
end
theorem core : PP bA bv bl w mean mg mb h₀ s dp un fr gd Q g L h tk0 := by
  k_with_none
  k_with "K.om" => first | exact lim1 (by assumption) (by decide) | exact lim2 (by assumption) (by decide) | exact lim3 (by assumption) (by decide) | exact lt_mem (by assumption) (by k_mem) | exact ne_mem (by assumption) (by k_mem) | exact Ne.symm (ne_mem (by assumption) (by k_mem)) | exact ne_mem2 (by assumption) (by k_mem) | exact Ne.symm (ne_mem2 (by assumption) (by k_mem)) | exact ne_L (by assumption) (by k_mem) | lia | omega (config:={}) | (k_extra "M.facts";omega (config:={}))
  k_with "K.ne" => (refine neN ?_;(try dsimp only);first | assumption | exact Ne.symm (by assumption) | exact ne_mem (by assumption) (by k_mem) | exact Ne.symm (ne_mem (by assumption) (by k_mem)) | exact ne_L (by assumption) (by k_mem) | exact Ne.symm (ne_L (by assumption) (by k_mem)) | omega)
  k_with "M.at" => first | exact AtP.head | (refine' AtP.tail ?kz;(case kz=>k_extra "M.at"))
  k_with "M.atF" => first | exact AtF.head | (refine' AtF.tail ?kz;(case kz=>k_extra "M.atF"))
  k_with "M.facts" => repeat (rename (∀ p ∈ (_:List (Addr × Obj)),p.1 < _)=>hraw;replace hraw:=allLt_of hraw;simp only [AllLt,and_true] at hraw)
  k_with "M.in" => ((case k1=>assumption);(case k6=>k_is);(case k7=>k_is);(case k8=>omega);(case k9=>first | exact BindsTo.of_eq rfl | exact binds_K (by k_in) rfl (by k_is) rfl rfl rfl | (refine' kp_binds (by k_in) (by exact fun _=>rfl)));(case c5=>decide);(case kB=>exact locs rfl);(case c2=>exact rfl);(case c3=>exact rfl);(case c4=>exact rfl);k_whole)
  k_with "execs cons" => (refine wpAny_execs_cons ?_;k_fold)
  k_with "call ref" => ((with_reducible show wpAny _ _ (call (Value.ref 98) _) _ _ _);k_dflt (refine' call_join98 (by k_asm) (by k_asm) (by assumption) (by k_mem) ?_ ?_;rotate_left;intro _ _))
  k_with "call ref" => ((with_reducible show wpAny _ _ (call (Value.ref _) [Value.str _ _]) _ _ _);k_dflt (refine' call_bd_K (by k_asm) (by k_asm) (by k_mem) (by k_upd) ?_ ?_;intro _ _ _;(try k_sweep)))
  k_with "call builtin:list.append" => (k_dflt (refine' append_svs (by k_asm) (by k_asm) (by k_upd) ?_ ?_;intro _ _ _;(try k_sweep)))
  k_with "exec For Name Name cons nil" => (with_unfolding_all refine' for_T ?_;k_whole)
  k_with "exec For Name Call cons nil" => (with_unfolding_all refine' for_G ?_;k_whole)
  k_with "setItem ref str" => (refine hold ?_)
  k_with "subscriptTail Name BinOp str int" => (refine item_str (fitsSsize_of (N:=9223372036854775808) (by omega) (by omega) (Int.le_refl _)) (by omega) (by omega) ?_;intro _)
  k_with "subscriptTail Name Name str int" => (refine item_str (fitsSsize_of (N:=9223372036854775808) (by omega) (by omega) (Int.le_refl _)) (by omega) (by omega) ?_;intro _)
  intro C hd hu hw hbv hbl hb hret F N X TP kG lG eL
  k_dflt (refine' bg_use ?k6 ?_;(case k6=>k_is);k_whole)
  have nd0 : NdA (List.map (·.1) ([] : List (Addr × Obj))):=trivial
  have hw' : g.IsList bA bv.toArray:=hw.at fun o e=>kG _ o e (by simp)
  have hlw:=hbv.length
  (try dsimp only)
  k_steps
  (rename Fr _ _ _ _=>F5)
  (rename News _ _ _ _=>N5)
  (rename (Obj.IsDictOf (strKind P0 w) _ [])=>hs5)
  refine name_dict N5 hs5 ?_
  intro D o5 eD N6 hs6
  subst eD
  clear N5 hs5
  refine' loop_list_G (σ:=SVT × Obj) (l:=bA) (items:=bv.toArray) (oth:=[]) (fun c=>[(D,c.2)]) (fun _=>[]) (Str.ofString "block") [Str.ofString "block",Str.ofString "k"] (fun i c gs=>gs = s.gens ∧ c.2.IsDictOf (strKind P0 w) (mapV c.1) ∧ txs c.1 = stepsP bl i ∧ c.1.length ≤ 20 * i) ([],o5) GoesBy.name rfl ?hL F5 N6 (fun _ h=>nomatch h) ⟨rfl,hs6,rfl,Nat.zero_le _⟩ ?turn ?done
  case hL=>exact fun c h m F N=>hw'.at fun o e=>F.keep _ o e
  case done=>
    rintro ⟨l,o⟩ u h1 tk1 gs ⟨rfl,hS,hT,hl⟩ F7 N7
    rw [List.size_toArray,hlw] at hT
    dsimp only at hS hT hl F7 N7
    rw [List.cons_append,List.nil_append] at N7
    k_steps
    refine Leave.intro (by assumption) fun kp=>?_
    (rename News _ _ _ _=>N8)
    show Q _ _
    exact hret _ _ D o l (at_of N8 (List.Mem.head _)) hS hT (fresh_of N8 (List.Mem.head _) kG (fun h=>nomatch h)) kp
  case turn=>
    rintro ⟨l,o⟩ i v u h1 tk1 gs I oI hi hv hne ⟨rfl,hS,hT,hl⟩ F7 N7
    have hi' : i < bl.length:=by rw [List.size_toArray] at hi;omega
    obtain ⟨b,he⟩ : ∃ e,bl[i]? = some e:=⟨bl[i],List.getElem?_eq_getElem hi'⟩
    refine obE (hbv.get i b he) ?_;intro tv hvt
    obtain rfl : v = .str b tv:=by rw [List.getElem?_toArray,hvt] at hv;exact (Option.some.inj hv).symm
    refine obA (hb b (List.mem_of_getElem? he)) ?_;intro hb1 hb2
    dsimp only at hS hT hl F7 N7 hne
    simp only [List.cons_append,List.nil_append] at N7 hne
    have hDI : @Ne Nat D I:=hne _ (List.Mem.head _)
    k_steps
    (rename Fr _ _ _ _=>F8)
    (rename News _ _ _ _=>N8)
    refine' loop_range_G (σ:=SVT × Obj) (n:=b.length) (oth:=[(I,oI)]) (fun c=>[(D,c.2)]) (fun _=>[]) [Str.ofString "k"] (fun j c gs=>gs = s.gens ∧ c.2.IsDictOf (strKind P0 w) (mapV c.1) ∧ txs c.1 = blockP (stepsP bl i) b j ∧ c.1.length ≤ 20 * i + j) (l,o) (by rfl) (by rfl) rfl ?hr5 ?hn5 ?hb5 F8 ?hN5 (fun _ h=>nomatch h) ⟨rfl,hS,hT,hl⟩ ?turn5 ?done5
    case hr5=>assumption
    case hn5=>omega
    case hb5=>omega
    case hN5=>exact fun q hq=>N8 q (by revert q hq;k_allIn)
    case done5=>
      rintro ⟨l2,o2⟩ u2 h2 tk2 gs ⟨rfl,hS2,hT2,hl2⟩ F9 N9
      dsimp only at hS2 hT2 hl2 F9 N9
      rw [List.cons_append,List.nil_append] at N9
      k_steps
      (rename Fr _ _ _ _=>F10)
      (rename News _ _ _ _=>N10)
      refine' TEndG.intro (l2,o2) F10 N10 (all_cons ⟨by k_mem,hDI⟩ all_nil) (all_cons (by k_mem) all_nil) (fun _ h=>nomatch h) ?r2 ⟨rfl,hS2,?p2,?q2⟩
      case r2=>intro z h1 h2 h3;simp_all [kstB]
      case p2=>
        show txs l2 = stepsP bl (i + 1)
        rw [hT2,stepsP,he]
      case q2=>show l2.length ≤ _;omega
    case turn5=>
      rintro ⟨l2,o2⟩ j tt2 u2 h2 tk2 gs I2 oI2 hj hne2 ⟨rfl,hS2,hT2,hl2⟩ F9 N9
      dsimp only at hS2 hT2 hl2 F9 N9 hne2
      simp only [List.cons_append,List.nil_append] at N9 hne2
      have hDI2 : @Ne Nat D I2:=hne2 _ (List.Mem.head _)
      have hf1:=Int.fmod_nonneg_of_pos (0 + (j:Int) + 1) (b:=(b.length : Int)) (by omega)
      have hf2:=Int.fmod_lt_of_pos (0 + (j:Int) + 1) (b:=(b.length : Int)) (by omega)
      k_steps
      (rename Fr _ _ _ _=>F10)
      (rename News _ _ _ _=>N10)
      show wpAny _ _ _ _ _ _
      refine kda_set (knd:=PySem.strKind _ _) F10 N10 (UpdF.head ?_) hS2 (strKind_is _ _ _ _) (by rw [sizeLine_eq];unfold mapV;rw [List.length_map];omega) ?_
      · exact all_cons (fun q=>hDI2 q.symm) (all_cons (fun q=>hDI q.symm) all_nil)
      intro h3 o3 F11 N11 hS3
      rw [stored_mapV] at hS3
      clear F10 N10
      k_steps
      (rename Fr _ _ _ _=>F12)
      (rename News _ _ _ _=>N12)
      refine' TEndG.intro (putT l2 _ _ _,o3) F12 N12 (all_cons ⟨by k_mem,hDI2⟩ all_nil) (all_cons (by k_mem) (all_cons (by k_mem) all_nil)) (fun _ h=>nomatch h) ?r3 ⟨rfl,hS3,?p3,?q3⟩
      case r3=>intro z h1 h2 h3;simp_all [kstB]
      case p3=>
        show txs (putT l2 _ _ _) = _
        rw [txs_putT,hT2];rfl
      case q3=>
        have:=putT_le l2 (curI b j) (nxtI b j)
        show (putT l2 _ _ _).length ≤ _
        refine Nat.le_trans (putT_le _ _ _ _) ?_
        omega
theorem all : ∀ d,F d := eps_all (by with_unfolding_all exact core)
end V1k
theorem steps_spec {w : World} {mean : ExcName → Option Value} {mg mb : Str → Option Value} {h₀ : Heap} {s : Shared} {dp un : Nat} {fr : Option (List Env)} {gd : Option (List Code)} {Q E : Value → Shared → Prop}
  (C:Cx w mean mg mb h₀ s []) (hd : dp + 3 < recursionLimit) (hu : un + 20 < cLine)
  {bA : Addr} {bv : List Value} {bl : List Str} (hw : s.heap.IsList bA bv.toArray) (hbv : StrsAre bv bl) (hbl : bl.length ≤ 20) (hb : ∀ b ∈ bl,0 < b.length ∧ b.length ≤ 20)
  (hret : ∀ h' tk' D o l,h'.get? D = some o → o.IsDictOf (PySem.strKind P0 w) (mapV l) → txs l = stepsP bl bl.length → s.heap.get? D = none → Keep [] s { s with heap:=h',toks:=tk' } → Q (.ref D) { s with heap:=h',toks:=tk' }) :
  wpAny (model P0 w) (Ar dp fr gd un) (call (.ref 313) [.ref bA]) Q E s:=by
  have X0:=C.X
  k_dflt (refine' enter_def (binds:=[(Str.ofString "blocks",.ref bA)]) ?k1 ?k6 ?k7 ?k8 ?k9 ?kB ?_ ?c2 ?c3 ?c4 ?c5;k_extra "M.in")
  intro g L h F N X TP kG lG eL
  refine' fn_get (V1k.all (bA,bv,bl,w,mean,mg,mb,h₀,s,dp,un,fr,gd,Q,g,L,h,_) C hd hu hw hbv hbl hb hret F N X TP kG lG eL) ?ko
  case ko=>k_is
end

end
section
section
variable {prog : Program} {w : World} {A : Around} {E : Value → Shared → Prop} {s : Shared} {env : Env} {h₀ : Heap} {x : Str} {px : Pos} {body : List Stmt} {Q : Flow → Shared → Prop}
theorem loop_str_go {σ : Type} {cls : String} {tx : Str} {t0 : Tok} {I : Addr} {m₀ : Str → Option Value} {oth : List (Addr × Obj)} (Led : σ → List (Addr × Obj)) (ps : σ → List (Str × Value)) (stored : List Str) (P : Nat → σ → Array GenState → Prop) (c₀ : σ)
    (hx : env.kindOf x = some .local) (hp' : (env.scope.kind == .class || (env.scope.kind == .module && env.locals != env.globals)) = false)
    (hh : A.handled = none) (W:Walks prog w A I [I] [I] tx.cps.size (SignAt tx) (fun i h=>h.IsStrIter I cls tx t0 i)) (hI : s.heap.IsStrIter I cls tx t0 0) (hIne : ∀ p ∈ Led c₀ ++ oth,p.1 ≠ I) (hI₀ : h₀.get? I = none) (hIL : env.locals ≠ I) (F:Fr h₀ env.locals s.heap m₀) (N:News h₀ env.locals s.heap (Led c₀ ++ oth))
    (hk : ∀ p ∈ ps c₀,m₀ p.1 = some p.2) (hp : P 0 c₀ s.gens)
    (turn : ∀ (c:σ) (i:Nat) (ch : Nat) t (u:Str → Option Value) h tk gs oI,tx.cps[i]? = some ch → (∀ p ∈ Led c ++ oth,p.1 ≠ I) → P i c gs →
      Fr h₀ env.locals h (fun y=>if y = x then some (.str ⟨#[ch]⟩ t) else kstB (fun z=>if stored.contains z then u z else m₀ z) (ps c) y) → News h₀ env.locals h (Led c ++ (I,oI) :: oth) →
      wpAny (model prog w) A (execs body env) (TPost (TEndG h₀ env.locals Led ps x stored m₀ (P (i + 1)) I ((I,oI) :: oth) { s with heap:=h,toks:=tk,gens:=gs }) Q) E { s with heap:=h,toks:=tk,gens:=gs })
    (done : ∀ (c:σ) (u:Str → Option Value) h tk gs,P tx.cps.size c gs → Fr h₀ env.locals h (fun y=>if y = x then u y else kstB (fun z=>if stored.contains z then u z else m₀ z) (ps c) y) → News h₀ env.locals h (Led c ++ oth) → Q .next { s with heap:=h,toks:=tk,gens:=gs })
    (hE : PassesOwn (model prog w) A env E:=by passes_own) :
    codeAny (model prog w) A (.forLoop (.Name x px) (.ref I) body [] env) (fun r s'=>match r with | .ok f=>Q f s' | .error e=>cameBackBy (model prog w) A env E e s') s:=by
  refine loop_walks Led ps stored P c₀ hx hp' W (fun _ _ ⟨o,h,_⟩=>⟨o,h⟩) hI hIne hI₀ hIL F N hk hp (fun c i v u h tk gs oI _ hv=>?_) done hE
  refine obEEA hv ?_;clear hv;intro ch t hch oR3;subst oR3
  exact turn c i ch t u h tk gs oI hch
theorem loop_str_G {σ : Type} {tx : Str} {t0 : Tok} {m₀ : Str → Option Value} {oth : List (Addr × Obj)} (Led : σ → List (Addr × Obj)) (ps : σ → List (Str × Value)) (stored : List Str) (P : Nat → σ → Array GenState → Prop) (c₀ : σ)
    (hx : env.kindOf x = some .local) (hp' : (env.scope.kind == .class || (env.scope.kind == .module && env.locals != env.globals)) = false)
    (hh : A.handled = none) (F:Fr h₀ env.locals s.heap m₀) (N:News h₀ env.locals s.heap (Led c₀ ++ oth))
    (hk : ∀ p ∈ ps c₀,m₀ p.1 = some p.2) (hp : P 0 c₀ s.gens)
    (turn : ∀ (c:σ) (i:Nat) (ch : Nat) t (u:Str → Option Value) h tk gs I oI,tx.cps[i]? = some ch → (∀ p ∈ Led c ++ oth,p.1 ≠ I) → P i c gs →
      Fr h₀ env.locals h (fun y=>if y = x then some (.str ⟨#[ch]⟩ t) else kstB (fun z=>if stored.contains z then u z else m₀ z) (ps c) y) → News h₀ env.locals h (Led c ++ (I,oI) :: oth) →
      wpAny (model prog w) A (execs body env) (TPost (TEndG h₀ env.locals Led ps x stored m₀ (P (i + 1)) I ((I,oI) :: oth) { s with heap:=h,toks:=tk,gens:=gs }) Q) E { s with heap:=h,toks:=tk,gens:=gs })
    (done : ∀ (c:σ) (u:Str → Option Value) h tk gs,P tx.cps.size c gs → Fr h₀ env.locals h (fun y=>if y = x then u y else kstB (fun z=>if stored.contains z then u z else m₀ z) (ps c) y) → News h₀ env.locals h (Led c ++ oth) → Q .next { s with heap:=h,toks:=tk,gens:=gs })
    (hE : PassesOwn (model prog w) A env E:=by passes_own) :
    IterG prog w A env x px body Q E (.str tx t0) s:=by
  have hI₀ : h₀.get? s.heap.objs.size = none:=next_is_new F
  have hIL : env.locals ≠ s.heap.objs.size:=Nat.ne_of_lt F.ns.lt
  have hne : ∀ p ∈ Led c₀ ++ oth,p.1 ≠ s.heap.objs.size:=fun p hp=>Nat.ne_of_lt (Heap.lt_size (N p hp).1)
  have N' : ∀ o,News h₀ env.locals (s.heap.push o) (Led c₀ ++ oth):=fun o p hp=>⟨Heap.get?_push_of_some _ (N p hp).1,(N p hp).2⟩
  cases ha : tx.cps.all (· < 128)
  · exact wpAny_pyIter_wide ha (loop_str_go (s:={ s with heap:=_ }) Led ps stored P c₀ hx hp' hh (Walks.strWide hh _ tx t0) ⟨_,Heap.get?_push_size _ rfl,rfl,rfl⟩ hne hI₀ hIL (F.push _) (N' _) hk hp (fun c i ch t u h tk gs oI=>turn c i ch t u h tk gs _ oI) done hE)
  · exact wpAny_pyIter_ascii ha (loop_str_go (s:={ s with heap:=_ }) Led ps stored P c₀ hx hp' hh (Walks.strAscii hh _ tx t0) ⟨_,Heap.get?_push_size _ rfl,rfl,rfl⟩ hne hI₀ hIL (F.push _) (N' _) hk hp (fun c i ch t u h tk gs oI=>turn c i ch t u h tk gs _ oI) done hE)
end
section
variable {prog : Program} {w : World} {A : Around} {E : Value → Shared → Prop} {s : Shared} {h₀ : Heap} {L D b : Addr} {m : Str → Option Value} {news news' : List (Addr × Obj)} {n n2 : Nat}
theorem extend_svs {l l2 : SV} {Q : Value → Shared → Prop} (F : Fr h₀ L s.heap m) (N : News h₀ L s.heap news) (hb : (b,listOf (svs l2).toArray n2) ∈ news)
    (U:Upd D (listOf (svs l).toArray n) (listOf (svs (l ++ l2)).toArray (n + if l2.length = 0 then 0 else 1)) news news') (hz : l.length + l2.length ≤ 10000)
    (h : ∀ h',Fr h₀ L h' m → News h₀ L h' news' → Q .none { s with heap:=h' }) : wpAny (model prog w) A (call (.builtin "list.extend") [.ref D,.ref b]) Q E s:=by
  have hd : ¬(!(svs l).toArray.isEmpty && Builtin.List.listTooLong ((svs l).toArray.size + (svs l2).toArray.size)) = true:=by
    have : Builtin.List.listTooLong ((svs l).toArray.size + (svs l2).toArray.size) = false:=by
      unfold Builtin.List.listTooLong
      simp only [List.size_toArray,svs_length,decide_eq_false_iff_not]
      rw [sizeLine_eq]
      omega
    rw [this];simp
  have hz1 : (svs l).toArray.toList.length ≤ sizeLine:=by simp only [List.toList_toArray,svs_length];rw [sizeLine_eq];omega
  have hz2 : (svs l).toArray.size + (svs l2).toArray.size ≤ sizeLine + 1:=by simp only [List.size_toArray,svs_length];rw [sizeLine_eq];omega
  by_cases e0 : l2.length = 0
  · have e1 : l2 = [] := List.eq_nil_of_length_eq_zero e0
    subst e1
    simp only [List.length_nil,if_true,Nat.add_zero,List.append_nil] at U
    exact kxn_extend F N hb rfl U hd hz1 hz2 h
  · rw [if_neg e0] at U
    exact kl_extend F N hb (by simp [svs_append]) (by simpa [svs_length] using e0) U hd hz1 hz2 h
end

end
section
set_option maxRecDepth 100000
section
noncomputable def chS (c : Nat) : Str := ⟨#[c]⟩
noncomputable def nmW (rec : Nat → Option (List Str)) (w0 : List Str) (cs : List Nat) : Nat → Option (List Str)
  | 0=>some w0
  | j + 1 => match nmW rec w0 cs j with
    | none=>none
    | some ws => match cs[j]? with
      | none=>none
      | some c => match rec (c + 1) with
        | none=>none
        | some r=>if ws.length + r.length < 100 then some (((ws ++ [wordOf (true,chS c)]) ++ r) ++ [wordOf (false,chS c)]) else none
noncomputable def blW (rec : Nat → Option (List Str)) (bl : List Str) (hd : Nat) : Nat → Option (List Str)
  | 0=>some []
  | i + 1 => match blW rec bl hd i with
    | none=>none
    | some ws => match bl[i]? with
      | none=>none
      | some b=>if b.cps.toList.head? = some hd then nmW rec ws b.cps.toList b.cps.toList.length else some ws
noncomputable def laidS (bl : List Str) : Nat → Nat → Option (List Str)
  | 0,_=>none
  | f + 1,hd=>blW (laidS bl f) bl hd bl.length
theorem nmW_back {rec : Nat → Option (List Str)} {w0 : List Str} {cs : List Nat} {j k : Nat} (h : j ≤ k) {ws : List Str} (e : nmW rec w0 cs k = some ws) : ∃ w,nmW rec w0 cs j = some w := by
  induction k generalizing ws with
  | zero=>exact ⟨ws,by rw [Nat.le_zero.mp h];exact e⟩
  | succ k ih =>
    rcases Nat.lt_or_ge j (k + 1) with hl | hl
    · rw [nmW] at e
      cases e1 : nmW rec w0 cs k with
      | none=>rw [e1] at e;cases e
      | some w=>exact ih (by omega) e1
    · exact ⟨ws,by rw [show j = k + 1 by omega];exact e⟩
theorem blW_back {rec : Nat → Option (List Str)} {bl : List Str} {hd : Nat} {j k : Nat} (h : j ≤ k) {ws : List Str} (e : blW rec bl hd k = some ws) : ∃ w,blW rec bl hd j = some w := by
  induction k generalizing ws with
  | zero=>exact ⟨ws,by rw [Nat.le_zero.mp h];exact e⟩
  | succ k ih =>
    rcases Nat.lt_or_ge j (k + 1) with hl | hl
    · rw [blW] at e
      cases e1 : blW rec bl hd k with
      | none=>rw [e1] at e;cases e
      | some w=>exact ih (by omega) e1
    · exact ⟨ws,by rw [show j = k + 1 by omega];exact e⟩
theorem item_head {b : Str} {c : Nat} (h : b.cps.toList.head? = some c) : Txt.item b 0 = chS c := by
  obtain ⟨⟨l⟩⟩:=b
  cases l with
  | nil=>cases h
  | cons x r =>
    cases h
    have e : Txt.charAt ⟨⟨c :: r⟩⟩ 0 = some c:=by
      unfold Txt.charAt
      have : seqIndex? 0 (Str.length ⟨⟨c :: r⟩⟩) = some 0:=by
        show seqIndex? 0 (r.length + 1) = some 0
        unfold seqIndex?
        simp
      rw [this];rfl
    unfold Txt.item
    rw [e];rfl
theorem chS_inj {a b : Nat} (h : chS a = chS b) : a = b := by
  unfold chS at h;simpa using h
theorem name_nilL {h₀ h : Heap} {L D : Addr} {r : List (Addr × Obj)} {G : Prop} (N : News h₀ L h ((D,listOf #[] 0) :: r))
    (k : ∀ D1,D1 = D → News h₀ L h ((D1,listOf (svs []).toArray 0) :: r) → G) : G:=k D rfl N
theorem chr_ok {i : Int} (h1 : 0 ≤ i) (h2 : i < 2000) : (decide (i < 0) || decide (i > 0x10FFFF)) = false := by simp;omega
theorem keep_nilV {h₀ : Heap} {s s' : Shared} {L : Addr} {m : Str → Option Value} {news : List (Addr × Obj)} (Fz : Fr h₀ L s.heap m) (N : News h₀ L s.heap news) (kp : Keep [] s s') : Fr h₀ L s'.heap m ∧ News h₀ L s'.heap news :=
  ⟨after_fr Fz (W:=[]) (fun _ h=>nomatch h) kp,fun p hp=>⟨kp _ _ (N p hp).1 (fun h=>nomatch h),(N p hp).2⟩⟩
theorem new_list {h₀ : Heap} {s : Shared} {L D : Addr} {m : Str → Option Value} {h' : Heap} {o : Obj} {news : List (Addr × Obj)} (_F' : Fr h₀ L h' m) (N : News h₀ L h' news) (e : h'.get? D = some o) (hD : s.heap.get? D = none) (F : Fr h₀ L s.heap m) : News h₀ L h' ((D,o) :: news) := by
  intro p hp
  rcases List.mem_cons.mp hp with rfl | hp
  · refine ⟨e, fun q => ?_, ?_⟩
    · refine obEEEA F.ns ?_; intro oL _ _ hL _
      have q' : D = L:=q
      rw [q',hL] at hD;cases hD
    · cases z : h₀.get? D with
      | none=>rfl
      | some x=>rw [F.keep _ _ z] at hD;cases hD
  · exact N p hp
noncomputable def laidOk (w : World) (f : Nat) : Prop := ∀ (mean : ExcName → Option Value) (mg mb : Str → Option Value) (h₀ : Heap) (s : Shared) (dp un : Nat) (fr : Option (List Env)) (gd : Option (List Code)) (Q E : Value → Shared → Prop) (bA : Addr) (bv : List Value) (bl : List Str) (hc : Nat) (t : Tok) (ws : List Str),
  Cx w mean mg mb h₀ s [] → dp + 2 * f + 3 < recursionLimit → un + 10 * f + 20 < cLine → s.heap.IsList bA bv.toArray → StrsAre bv bl → bl.length ≤ 20 → (∀ b ∈ bl,0 < b.length ∧ b.length ≤ 20 ∧ ∀ c ∈ b.cps.toList,c < 1000) → laidS bl f hc = some ws →
  (∀ h' tk' D l n,h'.get? D = some (listOf (svs l).toArray n) → l.map (·.1) = ws → s.heap.get? D = none → Keep [] s { s with heap:=h',toks:=tk' } → Q (.ref D) { s with heap:=h',toks:=tk' }) →
  wpAny (model P0 w) (Ar dp fr gd un) (call (.ref 273) [.ref bA,.str (chS hc) t]) Q E s
namespace V3k
noncomputable def PP (f : Nat) (bA : Addr) (bv : List Value) (bl : List Str) (hc : Nat) (t0 : Tok) (ws : List Str) (w : World) (mean : ExcName → Option Value) (mg : Str → Option Value) (mb : Str → Option Value) (h₀ : Heap) (s : Shared) (dp : Nat) (un : Nat) (fr : Option (List Env)) (gd : Option (List Code)) (Q : Value → Shared → Prop) (g : Heap) (L : Addr) (h : Heap) (tk0 : Tok) : Prop :=
  ∀ (IH : laidOk w f) (C:Cx w mean mg mb h₀ s []) (hd : dp + 2 * (f + 1) + 3 < recursionLimit) (hu : un + 10 * (f + 1) + 20 < cLine) (hw : s.heap.IsList bA bv.toArray) (hbv : StrsAre bv bl) (hbl : bl.length ≤ 20) (hb : ∀ b ∈ bl,0 < b.length ∧ b.length ≤ 20 ∧ ∀ c ∈ b.cps.toList,c < 1000) (hW : laidS bl (f + 1) hc = some ws) (hret : ∀ h' tk' D l n,h'.get? D = some (listOf (svs l).toArray n) → l.map (·.1) = ws → s.heap.get? D = none → Keep [] s { s with heap:=h',toks:=tk' } → Q (.ref D) { s with heap:=h',toks:=tk' }),
  BGoal wpAny w mean mg mb s ([]) dp un fr gd 273 [(Str.ofString "blocks",.ref bA),(Str.ofString "head",.str (chS hc) t0)] Q g L h tk0
noncomputable def F := ucr fun f=>ucr fun bA=>ucr fun bv=>ucr fun bl=>ucr fun hc=>ucr fun t0=>ucr fun ws=>ucr fun w=>ucr fun mean=>ucr fun mg=>ucr fun mb=>ucr fun h₀=>ucr fun s=>ucr fun dp=>ucr fun un=>ucr fun fr=>ucr fun gd=>ucr fun Q=>ucr fun g=>ucr fun L=>ucr fun h tk0=>PP f bA bv bl hc t0 ws w mean mg mb h₀ s dp un fr gd Q g L h tk0
noncomputable section
@[irreducible] def zz := eps ((0),(0),([]),([]),(0),(0),([]),d0) F
@[irreducible] def f := zz.1
@[irreducible] def bA := zz.2.1
@[irreducible] def bv := zz.2.2.1
@[irreducible] def bl := zz.2.2.2.1
@[irreducible] def hc := zz.2.2.2.2.1
@[irreducible] def t0 := zz.2.2.2.2.2.1
@[irreducible] def ws := zz.2.2.2.2.2.2.1
@[irreducible] def w := zz.2.2.2.2.2.2.2.1
@[irreducible] def zz8 := zz.2.2.2.2.2.2.2.2
@[irreducible] def mean := zz8.1
@[irreducible] def mg := zz8.2.1
@[irreducible] def mb := zz8.2.2.1
@[irreducible] def h₀ := zz8.2.2.2.1
@[irreducible] def s := zz8.2.2.2.2.1
@[irreducible] def dp := zz8.2.2.2.2.2.1
@[irreducible] def un := zz8.2.2.2.2.2.2.1
@[irreducible] def fr := zz8.2.2.2.2.2.2.2.1
@[irreducible] def zz16 := zz8.2.2.2.2.2.2.2.2
@[irreducible] def gd := zz16.1
@[irreducible] def Q := zz16.2.1
@[irreducible] def g := zz16.2.2.1
@[irreducible] def L := zz16.2.2.2.1
@[irreducible] def h := zz16.2.2.2.2.1
@[irreducible] def tk0 := zz16.2.2.2.2.2
end
theorem core : PP f bA bv bl hc t0 ws w mean mg mb h₀ s dp un fr gd Q g L h tk0 := by
  k_with_none
  k_with "K.om" => first | exact lim1 (by assumption) (by decide) | exact lim2 (by assumption) (by decide) | exact lim3 (by assumption) (by decide) | exact lt_mem (by assumption) (by k_mem) | exact ne_mem (by assumption) (by k_mem) | exact Ne.symm (ne_mem (by assumption) (by k_mem)) | exact ne_mem2 (by assumption) (by k_mem) | exact Ne.symm (ne_mem2 (by assumption) (by k_mem)) | exact ne_L (by assumption) (by k_mem) | lia | omega (config:={}) | (k_extra "M.facts";omega (config:={}))
  k_with "K.ne" => (refine neN ?_;(try dsimp only);first | assumption | exact Ne.symm (by assumption) | exact ne_mem (by assumption) (by k_mem) | exact Ne.symm (ne_mem (by assumption) (by k_mem)) | exact ne_L (by assumption) (by k_mem) | exact Ne.symm (ne_L (by assumption) (by k_mem)) | omega)
  k_with "M.at" => first | exact AtP.head | (refine' AtP.tail ?kz;(case kz=>k_extra "M.at"))
  k_with "M.atF" => first | exact AtF.head | (refine' AtF.tail ?kz;(case kz=>k_extra "M.atF"))
  k_with "M.facts" => repeat (rename (∀ p ∈ (_:List (Addr × Obj)),p.1 < _)=>hraw;replace hraw:=allLt_of hraw;simp only [AllLt,and_true] at hraw)
  k_with "M.in" => ((case k1=>assumption);(case k6=>k_is);(case k7=>k_is);(case k8=>omega);(case k9=>first | exact BindsTo.of_eq rfl | exact binds_K (by k_in) rfl (by k_is) rfl rfl rfl | (refine' kp_binds (by k_in) (by exact fun _=>rfl)));(case c5=>decide);(case kB=>exact locs rfl);(case c2=>exact rfl);(case c3=>exact rfl);(case c4=>exact rfl);k_whole)
  k_with "execs cons" => (refine wpAny_execs_cons ?_;k_fold)
  k_with "call ref" => ((with_reducible show wpAny _ _ (call (Value.ref 98) _) _ _ _);k_dflt (refine' call_join98 (by k_asm) (by k_asm) (by assumption) (by k_mem) ?_ ?_;rotate_left;intro _ _))
  k_with "call ref" => ((with_reducible show wpAny _ _ (call (Value.ref _) [Value.str _ _]) _ _ _);k_dflt (refine' call_bd_K (by k_asm) (by k_asm) (by k_mem) (by first | k_upd | skip) ?_ ?_;intro _ _ _;(try k_sweep)))
  k_with "exec For Name Name cons nil" => (first | ((with_reducible show wpAny _ _ (exec (.For (.Name (PySem.Str.ofString "block") _) _ _ _ _) _) _ _ _);with_unfolding_all refine' for_T ?_;k_whole) | (with_unfolding_all refine' for_G ?_;k_whole))
  k_with "call ref" => ((with_reducible show wpAny _ _ (call (Value.ref 273) _) _ _ _);refine hold ?_)
  k_with "call builtin:list.extend" => (refine hold ?_)
  k_with "call builtin:ord" => (refine P.ord_of_char ?_)
  k_with "call builtin:chr" => (refine P.chr_of_int (chr_ok (by omega) (by omega)) ?_)
  k_with "binaryOp Add str str" => (refine add_str_ob ?_ ?_;intro _ _)
  k_with "call builtin:list.append" => (k_dflt (refine' append_svs (by k_asm) (by k_asm) (by first | k_upd | skip) ?_ ?_;intro _ _ _;(try k_sweep)))
  intro IH C hd hu hw hbv hbl hb hW hret F N X TP kG lG eL
  k_dflt (refine' bg_use ?k6 ?_;(case k6=>k_is);k_whole)
  have nd0 : NdA (List.map (·.1) ([] : List (Addr × Obj))):=trivial
  have hw' : g.IsList bA bv.toArray:=hw.at fun o e=>kG _ o e (by simp)
  have hlw:=hbv.length
  rw [laidS] at hW
  (try dsimp only)
  k_steps
  (rename Fr _ _ _ _=>F5)
  (rename News _ _ _ _=>N5)
  refine name_nilL N5 ?_
  intro D eD N6
  subst eD
  clear N5
  refine' loop_list_G (σ:=SV × Nat) (l:=bA) (items:=bv.toArray) (oth:=[]) (fun c=>[(D,listOf (svs c.1).toArray c.2)]) (fun _=>[]) (Str.ofString "block") [Str.ofString "block",Str.ofString "name"] (fun i c gs=>gs = s.gens ∧ blW (laidS bl f) bl hc i = some (c.1.map (·.1))) ([],0) GoesBy.name rfl ?hL F5 N6 (fun _ h=>nomatch h) ⟨rfl,rfl⟩ ?turn ?done
  case hL=>exact fun c h m F N=>hw'.at fun o e=>F.keep _ o e
  case done=>
    rintro ⟨l,n⟩ u h1 tk1 gs ⟨rfl,hT⟩ F7 N7
    rw [List.size_toArray,hlw] at hT
    dsimp only at hT F7 N7
    rw [List.cons_append,List.nil_append] at N7
    k_steps
    refine Leave.intro (by assumption) fun kp=>?_
    (rename News _ _ _ _=>N8)
    show Q _ _
    exact hret _ _ D l n (at_of N8 (List.Mem.head _)) (Option.some.inj (hT.symm.trans hW)) (fresh_of N8 (List.Mem.head _) kG (fun h=>nomatch h)) kp
  case turn =>
    rintro ⟨l,n⟩ i v u h1 tk1 gs I oI hi hv hne ⟨rfl,hT⟩ F7 N7
    have hi' : i < bl.length:=by rw [List.size_toArray] at hi;omega
    obtain ⟨b,he⟩ : ∃ e,bl[i]? = some e:=⟨bl[i],List.getElem?_eq_getElem hi'⟩
    refine obE (hbv.get i b he) ?_;intro tv hvt
    obtain rfl : v = .str b tv:=by rw [List.getElem?_toArray,hvt] at hv;exact (Option.some.inj hv).symm
    refine obAA (hb b (List.mem_of_getElem? he)) ?_;intro hb1 hb2 hb3
    dsimp only at hT F7 N7 hne
    simp only [List.cons_append,List.nil_append] at N7 hne
    have hDI : @Ne Nat D I:=hne _ (List.Mem.head _)
    obtain ⟨c0,hc0⟩ : ∃ c,b.cps.toList.head? = some c:=by
      cases hbl0 : b.cps.toList with
      | nil=>rw [Str.length,Array.size_eq_length_toList,hbl0] at hb1;exact absurd hb1 (Nat.lt_irrefl _)
      | cons x r=>exact ⟨x,rfl⟩
    have hi0:=item_head hc0
    refine obE (blW_back (show i + 1 ≤ bl.length by omega) hW) ?_;intro w1 hW1
    k_steps
    · (rename ((_ == _) = true) => heq)
      (rename Fr _ _ _ _=>F8)
      (rename News _ _ _ _=>N8)
      have hcc : c0 = hc:=chS_inj (hi0.symm.trans (eq_of_beq heq))
      have hnm : blW (laidS bl f) bl hc (i + 1) = nmW (laidS bl f) (l.map (·.1)) b.cps.toList b.cps.toList.length:=by
        rw [blW,hT];simp only [he];rw [if_pos (by rw [hc0,hcc])]
      refine' loop_str_G (σ:=SV × Nat) (oth:=[(I,oI)]) (fun c=>[(D,listOf (svs c.1).toArray c.2)]) (fun _=>[]) [Str.ofString "name"] (fun j c gs=>gs = s.gens ∧ nmW (laidS bl f) (l.map (·.1)) b.cps.toList j = some (c.1.map (·.1))) (l,n) (by rfl) (by rfl) rfl F8 ?hN5 (fun _ h=>nomatch h) ⟨rfl,rfl⟩ ?turn5 ?done5
      case hN5=>exact fun q hq=>N8 q (by revert q hq;k_allIn)
      case done5=>
        rintro ⟨l2,n2⟩ u2 h2 tk2 gs ⟨rfl,hT2⟩ F9 N9
        dsimp only at hT2 F9 N9
        rw [List.cons_append,List.nil_append] at N9
        k_steps
        (rename Fr _ _ _ _=>F10)
        (rename News _ _ _ _=>N10)
        refine' TEndG.intro (l2,n2) F10 N10 (all_cons ⟨by k_mem,hDI⟩ all_nil) (all_cons (by k_mem) all_nil) (fun _ h=>nomatch h) ?r2 ⟨rfl,?p2⟩
        case r2=>intro z h1 h2 h3;simp_all [kstB]
        case p2=>rw [hnm];exact hT2
      case turn5=>
        rintro ⟨l2,n2⟩ j ch tt2 u2 h2 tk2 gs I2 oI2 hj hne2 ⟨rfl,hT2⟩ F9 N9
        dsimp only at hT2 F9 N9 hne2
        simp only [List.cons_append,List.nil_append] at N9 hne2
        have hDI2 : @Ne Nat D I2:=hne2 _ (List.Mem.head _)
        have hjc : b.cps.toList[j]? = some ch:=by rw [Array.getElem?_toList];exact hj
        have hch:=hb3 ch (List.mem_of_getElem? hjc)
        have hjl : j + 1 ≤ b.cps.toList.length:=by
          have:=(List.getElem?_eq_some_iff.mp hjc).1
          omega
        have hchl : (⟨#[ch]⟩ : Str).length = 1:=rfl
        refine obE (nmW_back hjl (hnm.symm.trans hW1)) ?_;intro w2 hW2
        have hW3:=hW2
        rw [nmW,hT2] at hW3
        simp only [hjc] at hW3
        obtain ⟨r,hr,hlen,hw2⟩ : ∃ r,laidS bl f (ch + 1) = some r ∧ l2.length + r.length < 100 ∧ w2 = ((l2.map (·.1) ++ [wordOf (true,chS ch)]) ++ r) ++ [wordOf (false,chS ch)]:=by
          cases hr : laidS bl f (ch + 1) with
          | none=>rw [hr] at hW3;cases hW3
          | some r =>
            rw [hr] at hW3
            simp only [List.length_map] at hW3
            split at hW3
            · exact ⟨r,rfl,by assumption,(Option.some.inj hW3).symm⟩
            · cases hW3
        have hs1 : (Str.ofString "<").length = 1:=by decide +kernel
        have hs2 : (Str.ofString ">").length = 1:=by decide +kernel
        have hs3 : (Str.ofString "</").length = 2:=by decide +kernel
        k_steps
        any_goals
          show Ob (_ ≤ sizeLine)
          show _ ≤ _
          rw [sizeLine_eq]
          (try rw [str_len_append])
          (try rw [str_len_append])
          (try rw [str_len_append])
          omega
        (rename Fr _ _ _ _=>F10)
        (rename News _ _ _ _=>N10)
        show wpAny _ _ _ _ _ _
        refine IH mean mg mb g _ _ _ _ _ _ _ bA bv bl ((ch : Int) + 1).toNat _ r (Cx.of X TP F10 N10 (fun _ h=>nomatch h)) ?d5 ?u5 (hw'.at fun o e=>F10.keep _ o e) hbv hbl hb ?hr5 ?post5
        case d5=>(try dsimp only [Around.deeper]);omega
        case u5=>(try dsimp only [Around.deeper]);omega
        case hr5=>rw [show ((ch : Int) + 1).toNat = ch + 1 by omega];exact hr
        intro h3 tk3 D3 l3 n3 e3 hl3 hD3 kp3
        refine obA (keep_nilV F10 N10 kp3) ?_;intro F11 N11
        have hl3' : l3.length = r.length:=by rw [← hl3,List.length_map]
        have N12:=new_list F11 N11 e3 hD3 F10
        have hDD : ∀ a o,s.heap.get? a = some o → True:=fun _ _ _=>trivial
        have hne3 : @Ne Nat D D3:=fun q=>by
          have:=(N10 _ (List.Mem.head _)).1
          rw [q,hD3] at this;cases this
        clear F10 N10 N11 hDD
        k_steps
        (rename Fr _ _ _ _=>F13)
        (rename News _ _ _ _=>N13)
        show wpAny _ _ _ _ _ _
        refine extend_svs F13 N13 (List.Mem.head _) (Upd.tail (fun q=>hne3 q.symm) (Upd.head ?ups)) ?_ ?_
        case ups=>exact all_cons (fun q=>hDI2 q.symm) (all_cons (fun q=>hDI q.symm) all_nil)
        · simp only [List.length_append,List.length_cons,List.length_nil];omega
        intro h4 F14 N14
        clear F13 N13
        k_steps
        any_goals
          show Ob (_ ≤ sizeLine)
          show _ ≤ _
          rw [sizeLine_eq]
          (try rw [str_len_append])
          (try rw [str_len_append])
          (try rw [str_len_append])
          (try simp only [List.length_append,List.length_cons,List.length_nil])
          omega
        (rename Fr _ _ _ _=>F15)
        (rename News _ _ _ _=>N15)
        refine' TEndG.intro (_,_) F15 N15 (all_cons ⟨List.Mem.tail _ (List.Mem.head _),hDI2⟩ all_nil) ?o6 (fun _ h=>nomatch h) ?r6 ⟨rfl,?p6⟩
        case o6=>exact fun p hp=>List.Mem.tail _ (List.Mem.tail _ hp)
        case r6=>intro z h1 h2 h3;simp_all [kstB]
        case p6=>
          rw [hW2,hw2]
          simp only [List.map_append,List.map_cons,List.map_nil,hl3]
          rfl
    · (rename ((_ == _) = false) => heq)
      (rename Fr _ _ _ _=>F8)
      (rename News _ _ _ _=>N8)
      refine' TEndG.intro (l,n) F8 N8 (all_cons ⟨by k_mem,hDI⟩ all_nil) (all_cons (by k_mem) all_nil) (fun _ h=>nomatch h) ?r4 ⟨rfl,?p4⟩
      case r4=>intro z h1 h2 h3;simp_all [kstB]
      case p4=>
        rw [blW,hT];simp only [he];rw [if_neg]
        rw [hc0]
        intro q
        rw [Option.some.inj q] at hi0
        rw [hi0] at heq
        simp at heq
theorem all : ∀ d,F d := eps_all (by with_unfolding_all exact core)
end V3k
theorem laid_one {w : World} {mean : ExcName → Option Value} {mg mb : Str → Option Value} {h₀ : Heap} {s : Shared} {dp un : Nat} {fr : Option (List Env)} {gd : Option (List Code)} {Q E : Value → Shared → Prop}
  {f:Nat} (IH : laidOk w f) {bA : Addr} {bv : List Value} {bl : List Str} {hc : Nat} {t0 : Tok} {ws : List Str}
  (C:Cx w mean mg mb h₀ s []) (hd : dp + 2 * (f + 1) + 3 < recursionLimit) (hu : un + 10 * (f + 1) + 20 < cLine) (hw : s.heap.IsList bA bv.toArray) (hbv : StrsAre bv bl) (hbl : bl.length ≤ 20) (hb : ∀ b ∈ bl,0 < b.length ∧ b.length ≤ 20 ∧ ∀ c ∈ b.cps.toList,c < 1000) (hW : laidS bl (f + 1) hc = some ws)
  (hret : ∀ h' tk' D l n,h'.get? D = some (listOf (svs l).toArray n) → l.map (·.1) = ws → s.heap.get? D = none → Keep [] s { s with heap:=h',toks:=tk' } → Q (.ref D) { s with heap:=h',toks:=tk' }) :
  wpAny (model P0 w) (Ar dp fr gd un) (call (.ref 273) [.ref bA,.str (chS hc) t0]) Q E s:=by
  have X0:=C.X
  k_dflt (refine' enter_def (binds:=[(Str.ofString "blocks",.ref bA),(Str.ofString "head",.str (chS hc) t0)]) ?k1 ?k6 ?k7 ?k8 ?k9 ?kB ?_ ?c2 ?c3 ?c4 ?c5;k_extra "M.in")
  intro g L h F N X TP kG lG eL
  refine' fn_get (V3k.all (f,bA,bv,bl,hc,t0,ws,w,mean,mg,mb,h₀,s,dp,un,fr,gd,Q,g,L,h,_) IH C hd hu hw hbv hbl hb hW hret F N X TP kG lG eL) ?ko
  case ko=>k_is
theorem laid_step {w : World} {f : Nat} (IH : laidOk w f) : laidOk w (f + 1) := by
  intro mean mg mb h₀ s dp un fr gd Q E bA bv bl hc t0 ws C hd hu hw hbv hbl hb hW hret
  exact laid_one IH C hd hu hw hbv hbl hb hW hret
theorem laid_all {w : World} : ∀ f,laidOk w f
  | 0=>fun _ _ _ _ _ _ _ _ _ _ _ _ _ _ _ _ _ _ _ _ _ _ _ _ hW=>nomatch hW
  | f + 1=>laid_step (laid_all f)
end

end
section
set_option maxRecDepth 100000
section
theorem D_callWith_type1 {M : Model} {A : Around} {E : Value → Shared → Prop} {s : Shared} {env : Env} {pos : Pos} {T : String} {e : PySem.Expr} {rest : List PySem.Expr} {Q : Value → Shared → Prop}
    (h:wpAny M A (spliced (backTo pos (starEach (e :: rest) env))) (fun vs s₁=>wpD M A (call (.type T) vs) Q E s₁) E s)
    (he : starEach (e :: rest) env = (false,eval e env) :: starEach rest env:=by rfl) (hp : (backTo pos (starEach rest env)).any (·.1) = false:=by rfl) :
    wpD M A (callWith pos (.type T) [] (backTo pos (starEach (e :: rest) env)) []) Q E s:=by
  rw [he] at h ⊢
  exact D_callWith_type (by show (false || (backTo pos (starEach rest env)).any (·.1)) = false;rw [hp];rfl) (evalArgs_plain h)
theorem D_callWith_fn1 {M : Model} {A : Around} {E : Value → Shared → Prop} {s : Shared} {env : Env} {pos : Pos} {f : Addr} {o : Obj} {fd : FuncData} {e : PySem.Expr} {rest : List PySem.Expr} {Q : Value → Shared → Prop} (hd : o.data = .func fd)
    (h:wpAny M A (spliced (backTo pos (starEach (e :: rest) env))) (fun vs s₁=>s₁.heap.get? f = some o ∧ wpD M A (call (.ref f) vs) Q E s₁) E s)
    (he : starEach (e :: rest) env = (false,eval e env) :: starEach rest env:=by rfl) (hp : (backTo pos (starEach rest env)).any (·.1) = false:=by rfl) :
    wpD M A (callWith pos (.ref f) [] (backTo pos (starEach (e :: rest) env)) []) Q E s:=by
  rw [he] at h ⊢
  exact D_callWith_fn hd (by show (false || (backTo pos (starEach rest env)).any (·.1)) = false;rw [hp];rfl) (evalArgs_plain h)
noncomputable def baL (l : List UInt8) (j : Nat) : List UInt8 := List.replicate (l.length - j) 0 ++ (l.take j).reverse
theorem baL_len (l : List UInt8) (j : Nat) (h : j ≤ l.length) : (baL l j).length = l.length := by
  unfold baL;rw [List.length_append,List.length_replicate,List.length_reverse,List.length_take];omega
theorem baL_zero (l : List UInt8) : baL l 0 = List.replicate l.length 0 := by simp [baL]
theorem baL_all (l : List UInt8) : baL l l.length = l.reverse := by simp [baL]
theorem baL_step (l : List UInt8) (j : Nat) (h : j < l.length) : (baL l j).set (l.length - 1 - j) (l.getD j 0) = baL l (j + 1) := by
  unfold baL
  have e1 : l.length - j = (l.length - (j + 1)) + 1:=by omega
  have e2 : l.length - 1 - j = l.length - (j + 1):=by omega
  have e3 : l.take (j + 1) = l.take j ++ [l.getD j 0]:=by
    rw [List.take_add_one,List.getElem?_eq_getElem h,List.getD_eq_getElem?_getD,List.getElem?_eq_getElem h];rfl
  rw [e1,e2,e3,List.replicate_succ',List.reverse_append,List.append_assoc,List.set_append_right _ _ (by simp),List.length_replicate,Nat.sub_self]
  rfl
theorem u8_back (x : UInt8) : ((x.toNat : Int)).toNat.toUInt8 = x := by
  rw [Int.toNat_natCast]
  exact UInt8.ofNat_toNat
theorem size_full {n : Nat} (h : 0 < n) : Builtin.Range.rangeSize 0 (n : Int) (n : Int) = ((1 : Nat) : Int) := by
  unfold Builtin.Range.rangeSize
  rw [if_pos (by omega),if_pos (by omega),Int.sub_zero,Int.ediv_eq_zero_of_lt (by omega) (by omega)];rfl
theorem small_full {n : Nat} (h0 : 0 < n) (h : n < 1000) : Builtin.Range.small 0 (n : Int) (n : Int) = true := by
  unfold Builtin.Range.small
  rw [size_full h0]
  simp only [Builtin.Range.rangeFitsLong,Bool.and_eq_true,Bool.or_eq_true,decide_eq_true_eq,beq_iff_eq,show ((n:Int) > 0) by omega,if_true]
  omega
namespace V4k
noncomputable def PP (t0 : Tok) (t1 : Tok) (l : List UInt8) (w : World) (mean : ExcName → Option Value) (mg : Str → Option Value) (mb : Str → Option Value) (h₀ : Heap) (s : Shared) (dp : Nat) (un : Nat) (fr : Option (List Env)) (gd : Option (List Code)) (Q : Value → Shared → Prop) (g : Heap) (L : Addr) (h : Heap) (tk0 : Tok) : Prop :=
  ∀ (C:Cx w mean mg mb h₀ s []) (hd : dp + 3 < recursionLimit) (hu : un + 20 < cLine) (h0 : 0 < l.length) (h1 : l.length < 100) (hret : ∀ h' tk' t,Keep [] s { s with heap:=h',toks:=tk' } → Q (.bytes l.reverse.toArray t) { s with heap:=h',toks:=tk' }),
  BGoal wpD w mean mg mb s ([]) dp un fr gd 252 [(Str.ofString "data",.bytes l.toArray t0),(Str.ofString "width",.int (l.length : Int) t1)] Q g L h tk0
noncomputable def F := ucr fun t0=>ucr fun t1=>ucr fun l=>ucr fun w=>ucr fun mean=>ucr fun mg=>ucr fun mb=>ucr fun h₀=>ucr fun s=>ucr fun dp=>ucr fun un=>ucr fun fr=>ucr fun gd=>ucr fun Q=>ucr fun g=>ucr fun L=>ucr fun h tk0=>PP t0 t1 l w mean mg mb h₀ s dp un fr gd Q g L h tk0
noncomputable section
@[irreducible] def zz := eps ((0),(0),([]),d0) F
@[irreducible] def t0 := zz.1
@[irreducible] def t1 := zz.2.1
@[irreducible] def l := zz.2.2.1
@[irreducible] def w := zz.2.2.2.1
@[irreducible] def mean := zz.2.2.2.2.1
@[irreducible] def mg := zz.2.2.2.2.2.1
@[irreducible] def mb := zz.2.2.2.2.2.2.1
@[irreducible] def h₀ := zz.2.2.2.2.2.2.2.1
@[irreducible] def zz8 := zz.2.2.2.2.2.2.2.2
@[irreducible] def s := zz8.1
@[irreducible] def dp := zz8.2.1
@[irreducible] def un := zz8.2.2.1
@[irreducible] def fr := zz8.2.2.2.1
@[irreducible] def gd := zz8.2.2.2.2.1
@[irreducible] def Q := zz8.2.2.2.2.2.1
@[irreducible] def g := zz8.2.2.2.2.2.2.1
@[irreducible] def L := zz8.2.2.2.2.2.2.2.1
@[irreducible] def zz16 := zz8.2.2.2.2.2.2.2.2
@[irreducible] def h := zz16.1
@[irreducible] def tk0 := zz16.2
end
theorem core : PP t0 t1 l w mean mg mb h₀ s dp un fr gd Q g L h tk0 := by
  k_with_none
  k_with "K.om" => first | exact lim1 (by assumption) (by decide) | exact lim2 (by assumption) (by decide) | exact lim3 (by assumption) (by decide) | exact lt_mem (by assumption) (by k_mem) | exact ne_mem (by assumption) (by k_mem) | exact Ne.symm (ne_mem (by assumption) (by k_mem)) | exact ne_mem2 (by assumption) (by k_mem) | exact Ne.symm (ne_mem2 (by assumption) (by k_mem)) | exact ne_L (by assumption) (by k_mem) | lia | omega (config:={}) | (k_extra "M.facts";omega (config:={}))
  k_with "K.ne" => (refine neN ?_;(try dsimp only);first | assumption | exact Ne.symm (by assumption) | exact ne_mem (by assumption) (by k_mem) | exact Ne.symm (ne_mem (by assumption) (by k_mem)) | exact ne_L (by assumption) (by k_mem) | exact Ne.symm (ne_L (by assumption) (by k_mem)) | omega)
  k_with "M.at" => first | exact AtP.head | (refine' AtP.tail ?kz;(case kz=>k_extra "M.at"))
  k_with "M.atF" => first | exact AtF.head | (refine' AtF.tail ?kz;(case kz=>k_extra "M.atF"))
  k_with "M.facts" => repeat (rename (∀ p ∈ (_:List (Addr × Obj)),p.1 < _)=>hraw;replace hraw:=allLt_of hraw;simp only [AllLt,and_true] at hraw)
  k_with "M.in" => ((case k1=>assumption);(case k6=>k_is);(case k7=>k_is);(case k8=>omega);(case k9=>first | exact BindsTo.of_eq rfl | exact binds_K (by k_in) rfl (by k_is) rfl rfl rfl | (refine' kp_binds (by k_in) (by exact fun _=>rfl)));(case c5=>decide);(case kB=>exact locs rfl);(case c2=>exact rfl);(case c3=>exact rfl);(case c4=>exact rfl);k_whole)
  k_with "execs cons" => (refine wpAny_execs_cons ?_;k_fold)
  k_with "call ref" => ((with_reducible show wpAny _ _ (call (Value.ref 98) _) _ _ _);k_dflt (refine' call_join98 (by k_asm) (by k_asm) (by assumption) (by k_mem) ?_ ?_;rotate_left;intro _ _))
  k_with "call ref" => ((with_reducible show wpAny _ _ (call (Value.ref _) [Value.str _ _]) _ _ _);k_dflt (refine' call_bd_K (by k_asm) (by k_asm) (by k_mem) (by k_upd) ?_ ?_;intro _ _ _;(try k_sweep)))
  k_with "call builtin:list.append" => (k_dflt (refine' append_svs (by k_asm) (by k_asm) (by k_upd) ?_ ?_;intro _ _ _;(try k_sweep)))
  k_with "exec For Name Call cons nil" => (with_unfolding_all refine' for_G ?_;k_whole)
  k_with "setItem ref int" => (refine hold ?_)
  k_with "call type:bytes" => (refine hold ?_)
  k_with "call builtin:len" => ((with_reducible show wpAny _ _ (call (Value.builtin _) [Value.bytes _ _]) _ _ _);refine len_bytes (by rw [List.size_toArray];omega) ?_;rw [List.size_toArray])
  k_with "subscriptTail Name BinOp bytes int" => (refine subscriptTail_builtin (typeIs_bytes _ _ _) FB.slot_bytes_getitem.lookup (getItem_bytes (by omega) (by omega) (by omega) ?_))
  intro C hd hu h0 h1 hret F N X TP kG lG eL
  k_dflt (refine' bg_use ?k6 ?_;(case k6=>k_is);k_whole)
  have nd0 : NdA (List.map (·.1) ([] : List (Addr × Obj))):=trivial
  (try dsimp only)
  refine D_execs_cons (D_Assign_Name (D_Call_Name ?_))
  k_steps
  refine D_callWith_type1 ?_
  k_steps
  refine D_bytearray (by rw [sizeLine_eq];omega) h0 ?_
  (rename Fr _ _ _ _=>F1)
  intro D h2 hD0 e2 kp2
  have F2:=after_fr (s:={ s with heap:=h }) (s':={ s with heap:=h2 }) F1 (W:=[]) (fun _ h=>nomatch h) (fun b o e _=>kp2 b o e)
  have eb : Array.replicate l.length (0:UInt8) = (baL l 0).toArray:=by rw [baL_zero];simp
  rw [eb] at e2
  have N2 : News g L h2 [(D,bytesObj (baL l 0).toArray)]:=all_cons (new_list (s:={ s with heap:=h }) F2 (news:=[]) (fun _ h=>nomatch h) e2 hD0 F1 _ (List.Mem.head _)) all_nil
  clear F1 N e2 kp2 hD0
  k_steps
  refine D_any ?_
  k_steps
  (rename Fr _ _ _ _=>F5)
  (rename News _ _ _ _=>N5)
  refine' loop_range_S (σ:=List UInt8) (n:=1) (oth:=[]) (fun c=>[(D,bytesObj c.toArray)]) (fun _=>[]) [Str.ofString "i",Str.ofString "j"] (fun i c gs=>gs = s.gens ∧ c = baL l (i * l.length)) (baL l 0) (by rfl) (by rfl) rfl ?hr5 ?hn5 ?hb5 F5 ?hN5 (fun _ h=>nomatch h) ⟨rfl,by rw [Nat.zero_mul]⟩ ?turn5 ?done5
  case hr5=>assumption
  case hn5=>exact size_full h0
  case hb5=>exact small_full h0 (by omega)
  case hN5=>exact all_cons (N5 _ (by k_mem)) all_nil
  case done5=>
    rintro c u2 h3 tk3 gs ⟨rfl,rfl⟩ F9 N9
    rw [Nat.one_mul,baL_all] at N9
    rw [List.cons_append,List.nil_append] at N9
    k_steps
    show wpAny _ _ _ _ _ _
    refine bytes_of_ba (N9 _ (List.Mem.head _)).1 (by rw [List.size_toArray,List.length_reverse,sizeLine_eq];omega) ?_
    intro t' k'
    k_steps
    refine Leave.intro (by assumption) fun kp=>?_
    exact hret _ _ _ kp
  case turn5=>
    rintro c i tt2 u2 h3 tk3 gs I oI hi hne ⟨rfl,rfl⟩ F9 N9
    obtain rfl : i = 0:=by omega
    rw [Nat.zero_mul] at N9 hne
    simp only [List.cons_append,List.nil_append] at N9 hne
    have hDI : @Ne Nat D I:=hne _ (List.Mem.head _)
    k_steps
    (rename Fr _ _ _ _=>F10)
    (rename News _ _ _ _=>N10)
    refine' loop_range_G (σ:=List UInt8) (n:=l.length) (oth:=[(I,oI)]) (fun c=>[(D,bytesObj c.toArray)]) (fun _=>[]) [Str.ofString "j"] (fun j c gs=>gs = s.gens ∧ c = baL l j) (baL l 0) (by rfl) (by rfl) rfl ?hr6 ?hn6 ?hb6 F10 ?hN6 (fun _ h=>nomatch h) ⟨rfl,rfl⟩ ?turn6 ?done6
    case hr6=>assumption
    case hn6=>omega
    case hb6=>omega
    case hN6=>exact all_cons (N10 _ (by k_mem)) (all_cons (N10 _ (by k_mem)) all_nil)
    case done6=>
      rintro c u3 h4 tk4 gs ⟨rfl,rfl⟩ F11 N11
      rw [List.cons_append,List.nil_append] at N11
      k_steps
      (rename Fr _ _ _ _=>F12)
      (rename News _ _ _ _=>N12)
      refine' TEndG.intro (baL l l.length) F12 N12 (all_cons ⟨by k_mem,hDI⟩ all_nil) (all_cons (by k_mem) all_nil) (fun _ h=>nomatch h) ?r7 ⟨rfl,?p7⟩
      case r7=>intro z h1 h2 h3;simp_all [kstB]
      case p7=>rw [Nat.zero_add,Nat.one_mul]
    case turn6=>
      rintro c j tt3 u3 h4 tk4 gs I2 oI2 hj hne2 ⟨rfl,rfl⟩ F11 N11
      simp only [List.cons_append,List.nil_append] at N11 hne2
      have hDI2 : @Ne Nat D I2:=hne2 _ (List.Mem.head _)
      k_steps
      (rename Fr _ _ _ _=>F13)
      (rename News _ _ _ _=>N13)
      show wpAny _ _ _ _ _ _
      have hD13:=(N13 (D,_) (List.Mem.head _)).1
      have hbl:=baL_len l j (Nat.le_of_lt hj)
      have ez : 0 + ((0:Nat) : Int) * (l.length : Int) + (l.length : Int) - 1 - (0 + (j:Int)) = ((l.length - 1 - j : Nat) : Int):=by rw [Int.natCast_zero,Int.zero_mul];omega
      have eg : (0 + ((0:Nat) : Int) * (l.length : Int) + (0 + (j:Int))).toNat = j:=by rw [Int.natCast_zero,Int.zero_mul];omega
      refine ba_setItem hD13 (by omega) (by rw [List.size_toArray];omega) (by rw [List.size_toArray,sizeLine_eq];omega) ⟨by omega,?_⟩ ?_
      · have := UInt8.toNat_lt (l.getD (0 + ((0 : Nat) : Int) * (l.length : Int) + (0 + (j : Int))).toNat 0)
        omega
      intro h5 e5 sb5
      have F14:=F13.change sb5 (N13 (D,_) (List.Mem.head _)).2.1 (N13 (D,_) (List.Mem.head _)).2.2
      have e6 : (baL l j).toArray.setIfInBounds (((l.length - 1 - j : Nat) : Int)).toNat ((((l.getD j 0).toNat : Nat) : Int)).toNat.toUInt8 = (baL l (j + 1)).toArray:=by
        rw [u8_back,Int.toNat_natCast,← baL_step l j hj]
        simp
      rw [ez,eg,e6] at e5
      have N14 : News g L h5 [(D,bytesObj (baL l (j + 1)).toArray),(I2,oI2),(I,oI)]:=all_cons ⟨e5,(N13 (D,_) (List.Mem.head _)).2⟩ (all_cons ⟨(sb5.2 I2 (fun q=>hDI2 q.symm)).trans (N13 (I2,oI2) (by k_mem)).1,(N13 (I2,oI2) (by k_mem)).2⟩ (all_cons ⟨(sb5.2 I (fun q=>hDI q.symm)).trans (N13 (I,oI) (by k_mem)).1,(N13 (I,oI) (by k_mem)).2⟩ all_nil))
      clear F13 N13 hD13 sb5 e5
      k_steps
      (rename Fr _ _ _ _=>F15)
      (rename News _ _ _ _=>N15)
      refine' TEndG.intro (baL l (j + 1)) F15 N15 (all_cons ⟨by k_mem,hDI2⟩ all_nil) (all_cons (by k_mem) (all_cons (by k_mem) all_nil)) (fun _ h=>nomatch h) ?r8 ⟨rfl,rfl⟩
      case r8=>intro z h1 h2 h3;simp_all [kstB]
theorem all : ∀ d,F d := eps_all (by with_unfolding_all exact core)
end V4k
theorem byteswap_spec {w : World} {mean : ExcName → Option Value} {mg mb : Str → Option Value} {h₀ : Heap} {s : Shared} {dp un : Nat} {fr : Option (List Env)} {gd : Option (List Code)} {Q E : Value → Shared → Prop}
  (C:Cx w mean mg mb h₀ s []) (hd : dp + 3 < recursionLimit) (hu : un + 20 < cLine)
  {l:List UInt8} {t0 t1 : Tok} (h0 : 0 < l.length) (h1 : l.length < 100)
  (hret : ∀ h' tk' t,Keep [] s { s with heap:=h',toks:=tk' } → Q (.bytes l.reverse.toArray t) { s with heap:=h',toks:=tk' }) :
  wpD (model P0 w) (Ar dp fr gd un) (call (.ref 252) [.bytes l.toArray t0,.int (l.length : Int) t1]) Q E s:=by
  have X0:=C.X
  k_dflt (refine' enter_defD (binds:=[(Str.ofString "data",.bytes l.toArray t0),(Str.ofString "width",.int (l.length : Int) t1)]) ?k1 ?k6 ?k7 ?k8 ?k9 ?kB ?_ ?c2 ?c3 ?c4 ?c5;k_extra "M.in")
  intro g L h F N X TP kG lG eL
  refine' fn_get (V4k.all (t0,t1,l,w,mean,mg,mb,h₀,s,dp,un,fr,gd,Q,g,L,h,_) C hd hu h0 h1 hret F N X TP kG lG eL) ?ko
  case ko=>k_is
end

end
section
set_option maxRecDepth 100000
structure EltE (F : Value → Value → Prop) (v y : Value) (s s' : Shared) : Prop where
  f : F v y
  k : Keeps s s'
section
variable {prog : Program} {w : World} {A : Around} {E : Value → Shared → Prop} {env : Env}
noncomputable def CompAt (prog : Program) (w : World) (A : Around) (elt : PySem.Expr) (scope : Scope) (cl : List (Str × Addr)) (env : Env) (x : Str) (F : Value → Value → Prop) (Q : Value → Shared → Prop) (it : Value) (s₂ : Shared) : Prop :=
  ∃ I fp wr n P St, it = .ref I ∧ Walks prog w A I fp wr n P St ∧ n ≤ sizeLine ∧ St 0 s₂.heap ∧ (∀ b ∈ fp, b < s₂.heap.objs.size) ∧
      (∀ C i v s₃ m₃ E',s₂.heap.objs.size ≤ C → P i v → s₃.heap.Ns C m₃ → m₃ x = some v → (∀ b o,b ∉ wr → s₂.heap.get? b = some o → s₃.heap.get? b = some o) →
        wpAny (model prog w) A (eval elt (compEnvC scope cl C env)) (fun y s₄=>EltE F v y s₃ s₄) E' s₃) ∧
      (∀ D h' tk ys (vs : List Value),s₂.heap.get? D = none → h'.PlainList D ys → vs.length = n → (∀ j v,vs[j]? = some v → P j v) → Paired F vs ys.toList →
        (∀ b o,b ∉ wr → s₂.heap.get? b = some o → h'.get? b = some o) → Q (.ref D) { s₂ with heap:=h',toks:=tk })
theorem CompAt.intro {elt : PySem.Expr} {scope : Scope} {cl : List (Str × Addr)} {x : Str} {F : Value → Value → Prop} {Q : Value → Shared → Prop} {it : Value} {s₂ : Shared} {I : Addr} {fp wr : List Addr} {n : Nat} {P : Nat → Value → Prop} {St : Nat → Heap → Prop}
    (h1 : it = .ref I) (h2 : Walks prog w A I fp wr n P St) (h3 : n ≤ sizeLine) (h4 : St 0 s₂.heap) (h5 : (∀ b ∈ fp,b < s₂.heap.objs.size))
    (h6 : (∀ C i v s₃ m₃ E', s₂.heap.objs.size ≤ C → P i v → s₃.heap.Ns C m₃ → m₃ x = some v → (∀ b o, b ∉ wr → s₂.heap.get? b = some o → s₃.heap.get? b = some o) →
        wpAny (model prog w) A (eval elt (compEnvC scope cl C env)) (fun y s₄=>EltE F v y s₃ s₄) E' s₃))
    (h7 : (∀ D h' tk ys (vs : List Value), s₂.heap.get? D = none → h'.PlainList D ys → vs.length = n → (∀ j v, vs[j]? = some v → P j v) → Paired F vs ys.toList →
        (∀ b o,b ∉ wr → s₂.heap.get? b = some o → h'.get? b = some o) → Q (.ref D) { s₂ with heap:=h',toks:=tk })) : CompAt prog w A elt scope cl env x F Q it s₂:=⟨I,fp,wr,n,P,St,h1,h2,h3,h4,h5,h6,h7⟩
theorem A_ListCompC {s : Shared} {elt iter : PySem.Expr} {x : Str} {px : Pos} {scope : Scope} {cl : List (Str × Addr)} {pos : Pos} {Q : Value → Shared → Prop} (F : Value → Value → Prop)
    (hclos : closureFor scope env = pure cl) (hcell : ∀ y ∈ scope.names,y.2 ≠ .cell) (hkind : scope.kind = .function)
    (hnames : ∀ y ∈ scope.names,y.2 = .local → scope.names.lookup y.1 = some .local) (hx : scope.names.lookup x = some .local)
    (h:wpAny (model prog w) A (eval iter env) (fun xv s₁=>wpAny (model prog w) A (pyIter xv) (fun it s₂=>CompAt prog w A elt scope cl env x F Q it s₂) E s₁) E s)
    (hs : ∀ x,foldedSetIterable iter env x = pure x:=by intro _;rfl) :
    wpAny (model prog w) A (eval (.ListComp elt [⟨.Name x px,iter,[],0⟩] scope pos) env) Q E s:=by
  refine wpAny_ListComp_free (fun _=>true) F hclos hcell hkind hnames hx (wpAny_mono h (fun xv s₁ h₁=>wpAny_mono h₁ (fun it s₂ h₂=>?_) fun _ _ e=>e) fun _ _ e=>e) hs
  refine obEEEEEEAAAAAA h₂ ?_;clear h₂;intro I fp wr n P St e W hsz hst hfp hq hQ
  refine ⟨I,fp,wr,n,P,St,e,W,hsz,hst,hfp,⟨?_,?_⟩,?_⟩
  · intro C i v s₃ m₃ E' _ _ _ _ _ _
    exact wpAny_pure ⟨rfl,_,_,rfl,fun _ _ e=>e⟩
  · exact fun C i v s₃ m₃ E' hC hP _ hn hm hk _=>wpAny_mono (hq C i v s₃ m₃ E' hC hP hn hm hk) (fun _ _ q=>⟨q.f,q.k⟩) fun _ _ e=>e
  · intro D h' tk ys vs hD _ hpl hlen hP hF hk
    refine hQ D h' tk ys vs hD hpl hlen hP ?_ hk
    rw [List.filter_eq_self.mpr (fun _ _=>rfl)] at hF
    exact hF
theorem A_ListComp {s : Shared} {elt iter : PySem.Expr} {x : Str} {px : Pos} {scope : Scope} {pos : Pos} {Q : Value → Shared → Prop} (F : Value → Value → Prop)
    (hfree : ∀ y ∈ scope.names,y.2 ≠ .free) (hcell : ∀ y ∈ scope.names,y.2 ≠ .cell) (hkind : scope.kind = .function)
    (hnames : ∀ y ∈ scope.names,y.2 = .local → scope.names.lookup y.1 = some .local) (hx : scope.names.lookup x = some .local)
    (h:wpAny (model prog w) A (eval iter env) (fun xv s₁=>wpAny (model prog w) A (pyIter xv) (fun it s₂=>CompAt prog w A elt scope [] env x F Q it s₂) E s₁) E s)
    (hs : ∀ x,foldedSetIterable iter env x = pure x:=by intro _;rfl) :
    wpAny (model prog w) A (eval (.ListComp elt [⟨.Name x px,iter,[],0⟩] scope pos) env) Q E s:=by
  exact A_ListCompC F (closureFor_none hfree) hcell hkind hnames hx h hs
end
theorem comp_fr {h₀ h : Heap} {C : Addr} {m : Str → Option Value} (hn : h.Ns C m) (k : ∀ b o,h₀.get? b = some o → h.get? b = some o) (hC : h₀.objs.size ≤ C) : Fr h₀ C h m := ⟨hn,k,hC⟩

end
section
section
structure EA where
  (a:Addr) (e:Ent) (x1 x2 x3 : Tok)
noncomputable abbrev entObj (q : EA) : Obj := tup3 (.str q.e.o q.x1) (.int (q.e.p : Int) q.x2) (.str q.e.n q.x3)
noncomputable def entLed (es : List EA) : List (Addr × Obj) := es.map fun q=>(q.a,entObj q)
noncomputable def refs (es : List EA) : List Value := es.map fun q=>.ref q.a
theorem refs_length (es : List EA) : (refs es).length = es.length := by simp [refs]
theorem mem_entLed {es : List EA} {q : EA} (h : q ∈ es) : (q.a,entObj q) ∈ entLed es := List.mem_map_of_mem (f := fun q=>(q.a,entObj q)) h
theorem ent_ne {h₀ h : Heap} {L D : Addr} {news : List (Addr × Obj)} {es : List EA} {its : Array Value} {n : Nat} (N : News h₀ L h news) (hs : ∀ p ∈ entLed es,p ∈ news) (hD : (D,listOf its n) ∈ news) : ∀ p ∈ entLed es,p.1 ≠ D := fun p hp=>by
  refine obEA (List.mem_map.mp hp) ?_;intro q hq oR2;subst oR2
  intro e
  have g1:=(N _ (hs _ hp)).1
  rw [show (q.a,entObj q).1 = D from e,(N _ hD).1] at g1
  have e2 : Value.type "tuple" = Value.type "list" := (congrArg Obj.cls (Option.some.inj g1)).symm
  injection e2 with e3
  exact absurd e3 (by decide)
noncomputable def atOf (d : Int) (bn : Bool) (e : Ent) (l : List Ent) : Nat → Nat
  | 0=>0
  | j + 1=>if cmpE d bn e (l.getD j e) < 0 then atOf d bn e l j else j + 1
noncomputable def insE (d : Int) (bn : Bool) (e : Ent) (l : List Ent) : List Ent := l.take (atOf d bn e l l.length) ++ e :: l.drop (atOf d bn e l l.length)
noncomputable def famW (d : Int) (bn : Bool) (ev : List Ev) : Nat → List Str × List Ent
  | 0=>([Str.ofString ""],[])
  | i + 1 => let q := famW d bn ev i
    match ev.getD i (true,Str.empty) with
    | (false,_)=>(q.1.dropLast,q.2)
    | (true,n)=>(q.1 ++ [n],insE d bn ⟨q.1.getLast?.getD Str.empty,q.2.length,n⟩ q.2)
noncomputable def famsK (l : List Ent) : Nat → List Str
  | 0=>[]
  | k + 1 => let fs := famsK l k
    match l[k]? with
    | none=>fs
    | some e=>if (decide (0 < k) && (l.getD (k - 1) e).o == e.o) then fs.dropLast ++ [fs.getLast?.getD Str.empty ++ e.n] else fs ++ [e.n]
theorem atOf_le (d : Int) (bn : Bool) (e : Ent) (l : List Ent) : ∀ j,atOf d bn e l j ≤ j
  | 0=>Nat.le_refl 0
  | j + 1 => by
    unfold atOf
    split
    · exact Nat.le_succ_of_le (atOf_le d bn e l j)
    · exact Nat.le_refl _
set_option maxRecDepth 100000 in
theorem fname_spec {w : World} {mean : ExcName → Option Value} {mg mb : Str → Option Value} {h₀ : Heap} {s : Shared} {dp un : Nat} {fr : Option (List Env)} {gd : Option (List Code)} {Q E : Value → Shared → Prop}
  {q:EA} (C:Cx w mean mg mb h₀ s [(q.a,entObj q)]) (hd : dp + 3 < recursionLimit) (hu : un + 20 < cLine)
  (hret : ∀ h' tk',Keep [] s { s with heap:=h',toks:=tk' } → Q (.str q.e.n q.x3) { s with heap:=h',toks:=tk' }) :
  wpAny (model P0 w) (Ar dp fr gd un) (call (.ref 245) [.ref q.a]) Q E s:=by
  k_with_none
  k_with "M.in" => ((case k1=>assumption);(case k6=>k_is);(case k7=>k_is);(case k8=>omega);(case k9=>first | exact BindsTo.of_eq rfl | exact binds_K (by k_in) rfl (by k_is) rfl rfl rfl | (refine' kp_binds (by k_in) (by exact fun _=>rfl)));(case c5=>decide);(case kB=>exact locs rfl);(case c2=>exact rfl);(case c3=>exact rfl);(case c4=>exact rfl);k_whole)
  k_with "call ref" => ((with_reducible show wpAny _ _ (call (Value.ref 98) _) _ _ _);k_dflt (refine' call_join98 (by k_asm) (by k_asm) (by assumption) (by k_mem) ?_ ?_;rotate_left;intro _ _))
  k_with "call ref" => ((with_reducible show wpAny _ _ (call (Value.ref _) [Value.str _ _]) _ _ _);k_dflt (refine' call_bd_K (by k_asm) (by k_asm) (by k_mem) (by k_upd) ?_ ?_;intro _ _ _;(try k_sweep)))
  k_with "call builtin:list.append" => (k_dflt (refine' append_svs (by k_asm) (by k_asm) (by k_upd) ?_ ?_;intro _ _ _;(try k_sweep)))
  obtain ⟨a,⟨eo,ep,en⟩,x1,x2,x3⟩:=q
  dsimp only [entObj] at C ⊢
  have X0:=C.X.keeps C.st
  k_dflt (refine' enter_def (binds:=[(Str.ofString "func",.ref a)]) ?k1 ?k6 ?k7 ?k8 ?k9 ?kB ?_ ?c2 ?c3 ?c4 ?c5;k_extra "M.in")
  intro g L h F N X TP kG lG eL
  k_lt lG
  clear X0
  (try dsimp only)
  (try k_fold)
  k_steps
  refine Leave.intro (by assumption) fun kp=>?_
  (rename News _ _ _ _=>N2)
  exact hret _ _ (keep_less (fun q hq=>(C.U q hq).1) (fun q hq _=>(N2 q hq).1) kp)
end

end
section
set_option maxRecDepth 100000
section
variable {prog : Program} {w : World} {A : Around} {E : Value → Shared → Prop} {s : Shared}
theorem setItem_last {l : Addr} {items : Array Value} {t : Tok} {v : Value} {n : Nat} {Q : Unit → Shared → Prop} (ho : s.heap.get? l = some (listOf items n)) (hz : 0 < items.size)
    (hQ : Q () { s with heap:=s.heap.update l (Obj.mapSeq (·.setIfInBounds (items.size - 1) v)) }) :
    wpAny (model prog w) A (setItem (.ref l) (.int (-1) t) v) Q E s:=by
  have hl : s.heap.IsList l items:=⟨_,ho,rfl,_,rfl⟩
  unfold setItem
  try with_reducible refine wpAny_holding ?_
  first | refine wpAny_bind (wpAny_pure ?_) | skip
  refine wpAny_bind (wpAny_sequenceKey hl.typeIs (by decide) ?_)
  refine wpAny_bind (wpAny_callSpecial?_slot (name:=Str.ofString "__setitem__") hl.typeIs slot_list_setitem
    (wpAny_call_entry slot_list_setitem hl.typeIs entry_list_setitem ?_ (args_list_setitem _ _ _)))
  show wpAny _ _ (Builtin.List.listSubscript? (.int (-1) t) >>= _) _ _ s
  refine wpAny_bind (wpAny_listSubscript_int (fitsIndex_neg (by decide) (by decide)) ?_)
  have hidx:=seqIndex_neg (k:=-1) (n:=items.size) (by decide) (by omega)
  have hj : ((-1 : Int) + (items.size : Int)).toNat = items.size - 1:=by omega
  rw [hj] at hidx
  have hx : items[items.size - 1]? = some items[items.size - 1]:=Array.getElem?_eq_getElem (by omega)
  show wpAny _ _ ((Builtin.List.listItems (.ref l) >>= fun xs=>pure ((seqIndex? (-1) xs.size).bind fun i=>xs[i]?.map (i,·))) >>= _) _ _ s
  refine wpAny_bind (wpAny_bind ?_)
  show wpAny _ _ (seqItems? (.ref l) >>= _) _ _ s
  refine wpAny_bind (wpAny_seqItems ho rfl (wpAny_pure (wpAny_pure ?_)))
  rw [hidx]
  simp only [Option.bind_some,hx,Option.map_some]
  refine wpAny_bind (wpAny_setSeqItemAt ho rfl ?_)
  first
    | exact wpAny_bind (wpAny_pure (wpAny_pure ⟨.none,rfl,wpAny_pure hQ⟩))
    | exact wpAny_pure ⟨.none,rfl,wpAny_pure hQ⟩
end
section
variable {prog : Program} {w : World} {A : Around} {E : Value → Shared → Prop} {s : Shared} {h₀ : Heap} {L D : Addr} {m : Str → Option Value} {news news' : List (Addr × Obj)} {n : Nat}
theorem set_last_svs {l : SV} {x : Str} {t u : Tok} {Q : Unit → Shared → Prop} (Fz : Fr h₀ L s.heap m) (N : News h₀ L s.heap news) (U : Upd D (listOf (svs l).toArray n) (listOf (svs (l.dropLast ++ [(x,u)])).toArray n) news news') (hne : l ≠ [])
    (h : ∀ h',Fr h₀ L h' m → News h₀ L h' news' → Q () { s with heap:=h' }) : wpAny (model prog w) A (setItem (.ref D) (.int (-1) t) (.str x u)) Q E s:=by
  obtain ⟨q,z,rfl⟩ : ∃ q z,l = q ++ [z]:=⟨l.dropLast,l.getLast hne,(List.dropLast_concat_getLast hne).symm⟩
  rw [List.dropLast_concat] at U
  refine obEEAAA U.split ?_;intro pre post oR2 oR3 a b;subst oR2;subst oR3
  have zz:=N (D,listOf (svs (q ++ [z])).toArray n) (List.mem_append.mpr (.inr (.head _)))
  refine setItem_last zz.1 (by rw [List.size_toArray,svs_length];simp) (h _ (Fz.change (Heap.SameBut.update ..) zz.2.1 zz.2.2) (ki_turn _ N a b ?_ ?_))
  · apply Array.toList_inj.mp
    rw [List.size_toArray,svs_length,List.length_append]
    simp only [svs_append]
    simp [svs]
  · simp [svs]
theorem sub_refs {value slice : PySem.Expr} {es : List EA} {q : EA} {j : Nat} {k : Int} {t : Tok} {Q : Value → Shared → Prop} (hq : es[j]? = some q) (hk : k = (j : Int)) (hj : j < 1000) (N : News h₀ L s.heap news) (hp : (D,listOf (refs es).toArray n) ∈ news) (h : Q (.ref q.a) s)
    (hs : subscripted slice false (.ref D) (.int k t) = operate [.ref D,.int k t] (getItem (.ref D) (.int k t)):=by with_unfolding_all rfl) :
    wpAny (model prog w) A (subscriptTail value slice (.ref D) (.int k t)) Q E s:=by
  have hl : s.heap.IsList D (refs es).toArray:=⟨_,(N _ hp).1,rfl,n,rfl⟩
  refine tail_any hl.typeIs slot_list_getitem.lookup (wpAny_getItem_list hl (by omega) (by omega) (x:=.ref q.a) ?_ h) hs
  subst hk
  rw [Int.toNat_natCast,List.getElem?_toArray,refs,List.getElem?_map,hq];rfl
structure Cur (es : List EA) (j : Nat) (q : EA) : Prop where
  at_ : es[j]? = some q
structure Prv (es : List EA) (j : Nat) (q : EA) : Prop where
  at_ : es[j]? = some q
theorem sub_cur {value slice : PySem.Expr} {es : List EA} {q : EA} {j : Nat} {k : Int} {t : Tok} {Q : Value → Shared → Prop} (hq : Cur es j q) (hk : k = (j : Int)) (hj : j < 1000) (N : News h₀ L s.heap news) (hp : (D,listOf (refs es).toArray n) ∈ news) (h : Q (.ref q.a) s)
    (hs : subscripted slice false (.ref D) (.int k t) = operate [.ref D,.int k t] (getItem (.ref D) (.int k t)):=by with_unfolding_all rfl) :
    wpAny (model prog w) A (subscriptTail value slice (.ref D) (.int k t)) Q E s:=sub_refs hq.at_ hk hj N hp h hs
theorem sub_prv {value slice : PySem.Expr} {es : List EA} {q : EA} {j : Nat} {k : Int} {t : Tok} {Q : Value → Shared → Prop} (hq : Prv es j q) (hk : k = (j : Int)) (hj : j < 1000) (N : News h₀ L s.heap news) (hp : (D,listOf (refs es).toArray n) ∈ news) (h : Q (.ref q.a) s)
    (hs : subscripted slice false (.ref D) (.int k t) = operate [.ref D,.int k t] (getItem (.ref D) (.int k t)):=by with_unfolding_all rfl) :
    wpAny (model prog w) A (subscriptTail value slice (.ref D) (.int k t)) Q E s:=sub_refs hq.at_ hk hj N hp h hs
theorem name_fam {h : Heap} {fa : Addr} {r : List (Addr × Obj)} {G : Prop} (N : News h₀ L h ((fa,listOf #[] 0) :: r)) (k : ∀ fa1,fa1 = fa → News h₀ L h ((fa,listOf (svs []).toArray 0) :: r) → G) : G := k fa rfl N
theorem sorted_K {l : Addr} {vs : List Value} {ss : List Str} {Q : Value → Shared → Prop} (Fz : Fr h₀ L s.heap m) (N : News h₀ L s.heap news) (hl : s.heap.IsList l vs.toArray) (hS : StrsAre vs ss) (h64 : vs.length < 64)
    (h : ∀ D h' vs' e,@LT.lt Nat _ L D → Fr h₀ L h' m → News h₀ L h' ((D,seqObj "list" vs'.toArray e) :: news) → StrsAre vs' (sortS ss) → Q (.ref D) { s with heap:=h' }) :
    wpAny (model prog w) A (call (.builtin "sorted") [.ref l]) Q E s:=by
  refine sorted_N_str Fz N hl hS h64 fun h' vs' ss' e F' N' hS' hp hs=>?_
  have:=sorted_unique hp hs
  subst this
  exact h _ h' vs' e (Nat.lt_succ_of_lt Fz.ns.lt) F' N' hS'
theorem name_two {h : Heap} {pi od : Addr} {x : Str} {t0 : Tok} {r : List (Addr × Obj)} {G : Prop} (N : News h₀ L h ((od,listOf #[] 0) :: (pi,listOf #[.str x t0] 0) :: r))
    (k : ∀ pi1 od1 t01,pi1 = pi → od1 = od → News h₀ L h ((od,listOf (refs []).toArray 0) :: (pi,listOf (svs [(x,t01)]).toArray 0) :: r) → G) : G:=k pi od t0 rfl rfl N
theorem name_ent {h : Heap} {en : Addr} {o nm : Str} {p : Int} {p' : Nat} {x1 x2 x3 : Tok} {r : List (Addr × Obj)} {G : Prop} (N : News h₀ L h ((en,tup3 (.str o x1) (.int p x2) (.str nm x3)) :: r)) (hp : p = (p' : Int))
    (k : ∀ en1 y1 y2 y3,en1 = en → News h₀ L h ((en,entObj ⟨en1,⟨o,p',nm⟩,y1,y2,y3⟩) :: r) → G) : G:=by subst hp;exact k en x1 x2 x3 rfl N
end

end
section
set_option maxRecDepth 100000
noncomputable def bytesOf (x : Str) : List UInt8 := (x.cps.toList.map fun c : Nat=>(c : Int)).map fun n=>n.toNat.toUInt8
theorem fn_at {w : World} {g : Heap} {name qual : Str} {params : Arguments} {body : List Stmt} {scope : Scope} {dV kV doc pm cdv ct oc : Value} {an od : Option Addr} {osl : Array (Option Value)} {f : Addr} (X : (Mine.hd.heap_1 w.params).In g)
    (ho : (Mine.hd.heap_1 w.params).lookup f = some ⟨oc,od,.func (fnOf name qual params body scope dV kV doc pm an cdv ct),osl⟩) : ∃ o fd,o.data = Data.func fd ∧ g.get? f = some o:=⟨_,_,rfl,X _ _ ho⟩
theorem at_252 {w : World} {g : Heap} (X : (Mine.hd.heap_1 w.params).In g) : ∃ o fd,o.data = Data.func fd ∧ g.get? 252 = some o := by
  have X0:=X
  refine' fn_at X ?k6
  case k6=>k_is
theorem ords_of : ∀ {vs ys : List Value} {l : List Nat},Paired (fun v y=>∀ (c : Nat) t1,v = .str ⟨#[c]⟩ t1 → ∃ t',y = Value.int (c : Int) t') vs ys → vs.length = l.length → (∀ (j : Nat) v,vs[j]? = some v → ∃ (c : Nat) (u : Tok),l[j]? = some c ∧ v = .str ⟨#[c]⟩ u) → IntsAre ys (l.map fun c : Nat=>(c : Int))
  | _,_,[],.nil,_,_=>.nil
  | _, _, c :: l, .cons hf ht, hl, hP => by
    refine obEEA (hP 0 _ rfl) ?_;intro c' u e oR3;subst oR3
    cases e
    refine obE (hf c u rfl) ?_;intro t' oR1;subst oR1
    exact .cons _ _ (ords_of ht (Nat.succ.inj hl) fun j v e=>hP (j + 1) v e)
  | _,_,_ :: _,.nil,hl,_=>nomatch hl
  | _,_,[],.cons _ _,hl,_=>nomatch hl
theorem bytesOf_len (x : Str) : (bytesOf x).length = x.length := by simp [bytesOf,Str.length]
theorem bytesOf_arr (x : Str) : byteArr (x.cps.toList.map fun c : Nat=>(c : Int)) = (bytesOf x).toArray := rfl
noncomputable def revS (x : Str) : Str := ⟨x.cps.toList.reverse.toArray⟩
noncomputable def strOf (q : List UInt8) : Str := ⟨(q.map (·.toNat)).toArray⟩
theorem strOf_rev {x : Str} (h : ∀ c ∈ x.cps.toList,c < 128) : strOf (bytesOf x).reverse = revS x := by
  unfold strOf revS bytesOf
  rw [List.map_reverse,List.map_map,List.map_map]
  have e : x.cps.toList.map (((fun y : UInt8=>y.toNat) ∘ fun n : Int=>n.toNat.toUInt8) ∘ fun c : Nat=>(c:Int)) = x.cps.toList:=by
    conv=>rhs;rw [← List.map_id x.cps.toList]
    refine List.map_congr_left fun c hc=>?_
    have:=h c hc
    show ((c:Int).toNat.toUInt8).toNat = c
    rw [Int.toNat_natCast]
    show c % 256 = c
    omega
  rw [e]
theorem chrs_of : ∀ {vs ys : List Value} {q : List UInt8},Paired (fun v y=>∀ (n : Nat) t1,v = .int (n : Int) t1 → ∃ t',y = Value.str ⟨#[n]⟩ t') vs ys → vs.length = q.length → (∀ (j : Nat) v,vs[j]? = some v → ∃ (c : UInt8) (u : Tok),q[j]? = some c ∧ v = .int (c.toNat : Int) u) →
    ∃ l : SV,ys = svs l ∧ l.map (·.1) = q.map fun c=>(⟨#[c.toNat]⟩ : Str)
  | _,_,[],.nil,_,_=>⟨[],rfl,rfl⟩
  | _, _, c :: q, .cons hf ht, hl, hP => by
    refine obEEA (hP 0 _ rfl) ?_;intro c' u e oR3;subst oR3
    cases e
    refine obE (hf c.toNat u rfl) ?_;intro t' oR1;subst oR1
    refine obEA (chrs_of ht (Nat.succ.inj hl) fun j v e=>hP (j + 1) v e) ?_;intro l oR1 e;subst oR1
    exact ⟨(⟨#[c.toNat]⟩,t') :: l,rfl,by rw [List.map_cons,List.map_cons,e]⟩
  | _,_,_ :: _,.nil,hl,_=>nomatch hl
  | _,_,[],.cons _ _,hl,_=>nomatch hl
theorem cat_chrs : ∀ q : List UInt8,cat (q.map fun c=>(⟨#[c.toNat]⟩ : Str)) = strOf q
  | []=>rfl
  | c :: q => by
    show (⟨#[c.toNat]⟩ : Str) ++ cat (q.map _) = _
    rw [cat_chrs q]
    show (⟨#[c.toNat] ++ (q.map (·.toNat)).toArray⟩ : Str) = ⟨((c :: q).map (·.toNat)).toArray⟩
    congr 1
    simp
theorem strOf_len (q : List UInt8) : (strOf q).length = q.length := by simp [strOf,Str.length]
theorem bytes_of : ∀ {l : SV} {ys : List Value},Paired (fun v y=>∀ x t,v = .str x t → ∃ t',y = Value.bytes (bytesOf x).reverse.toArray t') (svs l) ys → ∀ y ∈ ys,∃ p ∈ l,∃ t',y = .bytes (bytesOf p.1).reverse.toArray t'
  | [],_,.nil,y,h=>nomatch h
  | p :: l, _, .cons hf ht, y, h => by
    rcases List.mem_cons.mp h with rfl | h
    · refine obE (hf p.1 p.2 rfl) ?_; intro t' e
      exact ⟨p,.head _,t',e⟩
    · refine obEA (bytes_of ht y h) ?_; intro q hq r
      exact ⟨q,.tail _ hq,r⟩
theorem turned_of : ∀ {l : SV} {ys zs : List Value}, Paired (fun v y => ∀ x t, v = .str x t → ∃ t', y = Value.bytes (bytesOf x).reverse.toArray t') (svs l) ys → Paired (fun v y => ∀ (q : List UInt8) t1, v = .bytes q.toArray t1 → ∃ t', y = Value.str (strOf q) t') ys zs →
    (∀ p ∈ l,∀ c ∈ p.1.cps.toList,c < 128) → StrsAre zs (l.map fun p=>revS p.1):=by
  intro l
  induction l with
  | nil=>intro ys zs h1 h2 _;cases h1;cases h2;exact .nil
  | cons p l ih =>
    intro ys zs h1 h2 h
    cases h1 with
    | cons hf ht =>
      cases h2 with
      | cons hg hu =>
        refine obE (hf p.1 p.2 rfl) ?_;intro t' e1
        refine obE (hg _ t' e1) ?_;intro t2 e2
        rw [e2,strOf_rev (h p (.head _))]
        exact .cons _ _ (ih ht hu fun q hq=>h q (.tail _ hq))
theorem own_C {M : Model} {A : Around} {E : Value → Shared → Prop} {s : Shared} {h₀ : Heap} {C : Addr} {m : Str → Option Value} {scope : Scope} {cl : List (Str × Addr)} {env : Env} {x : Str} {pos : Pos} {v : Value} {Q : Value → Shared → Prop} (F : Fr h₀ C s.heap m) (hx : m x = some v) (h : Q v s)
    (hk : (compEnvC scope cl C env).scope.kind = .function:=by rfl) (hl : (compEnvC scope cl C env).kindOf x = some .local:=by rfl) (hd : (x == ("__debug__" : Str)) = false:=by decide) :
    wpAny M A (eval (.Name x pos) (compEnvC scope cl C env)) Q E s:=ldVarK F.ns hx h hk hl hd
theorem D_compC {M : Model} {A : Around} {E : Value → Shared → Prop} {s : Shared} {C : Addr} {scope : Scope} {env : Env} {e : PySem.Expr} {Q : Value → Shared → Prop} (h : wpD M A (eval e (compEnvC scope [] C env)) Q E s)
    (hr : relabel scope env = scope:=by rfl) : wpD M A (eval e (compEnv scope C env)) Q E s:=by
  unfold compEnvC at h
  rw [hr] at h
  exact h

end
section
set_option maxRecDepth 100000
section
noncomputable def runsW (ev : List Ev) : Nat → List Str
  | 0=>[]
  | k + 1 => match ev[k]? with
    | some (false, n) => (match k with
      | 0=>runsW ev k ++ [n]
      | j + 1 => match ev[j]? with
        | some (false,_)=>(runsW ev k).dropLast ++ [(runsW ev k).getLast?.getD Str.empty ++ n]
        | _=>runsW ev k ++ [n])
    | _=>runsW ev k
theorem runsW_open {ev : List Ev} {k : Nat} {n : Str} (h : ev[k]? = some (true,n)) : runsW ev (k + 1) = runsW ev k := by rw [runsW,h]
theorem runsW_first {ev : List Ev} {j : Nat} {n n0 : Str} (h : ev[j + 1]? = some (false,n)) (h0 : ev[j]? = some (true,n0)) : runsW ev (j + 1 + 1) = runsW ev (j + 1) ++ [n] := by rw [runsW,h];simp only [h0]
theorem runsW_more {ev : List Ev} {j : Nat} {n n0 : Str} (h : ev[j + 1]? = some (false,n)) (h0 : ev[j]? = some (false,n0)) : runsW ev (j + 1 + 1) = (runsW ev (j + 1)).dropLast ++ [(runsW ev (j + 1)).getLast?.getD Str.empty ++ n] := by rw [runsW,h];simp only [h0]
theorem mem_app_cps {a b : Str} {x : Nat} (h : x ∈ (a ++ b).cps.toList) : x ∈ a.cps.toList ∨ x ∈ b.cps.toList := by
  have e : (a ++ b).cps = a.cps ++ b.cps:=rfl
  rw [e,Array.toList_append] at h
  exact List.mem_append.mp h
structure PrevAt (ys : List Str) (i : Nat) (x : Str) : Prop where
  at' : ys[i]? = some x
theorem sub_list_prev {prog : Program} {w : World} {A : Around} {E : Value → Shared → Prop} {s : Shared} {value slice : PySem.Expr} {u : Tok} {Q : Value → Shared → Prop} {a : Addr} {vs : List Value} {ys : List Str} {i : Nat} {x : Str} {k : Int} (hl : s.heap.IsList a vs.toArray) (hv : StrsAre vs ys) (hx : PrevAt ys i x) (hi : i < 1000) (hk : k = (i : Int)) (h : ∀ t',Q (.str x t') s)
    (hs : subscripted slice false (.ref a) (.int k u) = operate [.ref a,.int k u] (getItem (.ref a) (.int k u)):=by with_unfolding_all rfl) :
    wpAny (model prog w) A (subscriptTail value slice (.ref a) (.int k u)) Q E s:=by
  subst hk
  have hlt : i < ys.length:=(List.getElem?_eq_some_iff.mp hx.at').1
  refine KTb.item_list hl hv (by omega) (by omega) (by omega) (fun t' _=>?_) hs
  have e : ((i:Int)).toNat = i:=by omega
  rw [e,List.getD_eq_getElem?_getD,hx.at']
  exact h t'
namespace V5k
noncomputable def PP (wA : Addr) (wv : List Value) (ev : List Ev) (w : World) (mean : ExcName → Option Value) (mg : Str → Option Value) (mb : Str → Option Value) (h₀ : Heap) (s : Shared) (dp : Nat) (un : Nat) (fr : Option (List Env)) (gd : Option (List Code)) (Q : Value → Shared → Prop) (g : Heap) (L : Addr) (h : Heap) (tk0 : Tok) : Prop :=
  ∀ (C:Cx w mean mg mb h₀ s []) (hd : dp + 20 < recursionLimit) (hu : un + 60 < cLine) (hw : s.heap.IsList wA wv.toArray) (hwv : StrsAre wv (ev.map wordOf)) (hN : ∀ e ∈ ev,NameTx e.2) (hA : ∀ e ∈ ev,∀ x ∈ e.2.cps.toList,x < 128) (hop : ∀ j n,ev[j]? = some (false,n) → 0 < opensAt ev j) (hl : ev.length < 60) (hret : ∀ h' tk' D vs' n,h'.get? D = some (seqObj "list" vs'.toArray n) → StrsAre vs' (sortS ((runsW ev ev.length).map revS)) → s.heap.get? D = none → Keep [] s { s with heap:=h',toks:=tk' } → Q (.ref D) { s with heap:=h',toks:=tk' }),
  BGoal wpD w mean mg mb s ([]) dp un fr gd 306 [(Str.ofString "words",.ref wA)] Q g L h tk0
noncomputable def F := ucr fun wA=>ucr fun wv=>ucr fun ev=>ucr fun w=>ucr fun mean=>ucr fun mg=>ucr fun mb=>ucr fun h₀=>ucr fun s=>ucr fun dp=>ucr fun un=>ucr fun fr=>ucr fun gd=>ucr fun Q=>ucr fun g=>ucr fun L=>ucr fun h tk0=>PP wA wv ev w mean mg mb h₀ s dp un fr gd Q g L h tk0
noncomputable section
@[irreducible] def zz := eps ((0),([]),([]),d0) F
@[irreducible] def wA := zz.1
@[irreducible] def wv := zz.2.1
@[irreducible] def ev := zz.2.2.1
@[irreducible] def w := zz.2.2.2.1
@[irreducible] def mean := zz.2.2.2.2.1
@[irreducible] def mg := zz.2.2.2.2.2.1
@[irreducible] def mb := zz.2.2.2.2.2.2.1
@[irreducible] def h₀ := zz.2.2.2.2.2.2.2.1
@[irreducible] def zz8 := zz.2.2.2.2.2.2.2.2
@[irreducible] def s := zz8.1
@[irreducible] def dp := zz8.2.1
@[irreducible] def un := zz8.2.2.1
@[irreducible] def fr := zz8.2.2.2.1
@[irreducible] def gd := zz8.2.2.2.2.1
@[irreducible] def Q := zz8.2.2.2.2.2.1
@[irreducible] def g := zz8.2.2.2.2.2.2.1
@[irreducible] def L := zz8.2.2.2.2.2.2.2.1
@[irreducible] def zz16 := zz8.2.2.2.2.2.2.2.2
@[irreducible] def h := zz16.1
@[irreducible] def tk0 := zz16.2
end
theorem core : PP wA wv ev w mean mg mb h₀ s dp un fr gd Q g L h tk0 := by
  k_with_none
  k_with "K.om" => first | exact lim1 (by assumption) (by decide) | exact lim2 (by assumption) (by decide) | exact lim3 (by assumption) (by decide) | exact lt_mem (by assumption) (by k_mem) | exact ne_mem (by assumption) (by k_mem) | exact Ne.symm (ne_mem (by assumption) (by k_mem)) | exact ne_mem2 (by assumption) (by k_mem) | exact Ne.symm (ne_mem2 (by assumption) (by k_mem)) | exact ne_L (by assumption) (by k_mem) | lia | omega (config:={}) | (k_extra "M.facts";omega (config:={}))
  k_with "K.ne" => (refine neN ?_;(try dsimp only);first | assumption | exact Ne.symm (by assumption) | exact ne_mem (by assumption) (by k_mem) | exact Ne.symm (ne_mem (by assumption) (by k_mem)) | exact ne_L (by assumption) (by k_mem) | exact Ne.symm (ne_L (by assumption) (by k_mem)) | omega)
  k_with "M.at" => first | exact AtP.head | (refine' AtP.tail ?kz;(case kz=>k_extra "M.at"))
  k_with "M.atF" => first | exact AtF.head | (refine' AtF.tail ?kz;(case kz=>k_extra "M.atF"))
  k_with "M.facts" => repeat (rename (∀ p ∈ (_:List (Addr × Obj)),p.1 < _)=>hraw;replace hraw:=allLt_of hraw;simp only [AllLt,and_true] at hraw)
  k_with "M.in" => ((case k1=>assumption);(case k6=>k_is);(case k7=>k_is);(case k8=>omega);(case k9=>first | exact BindsTo.of_eq rfl | exact binds_K (by k_in) rfl (by k_is) rfl rfl rfl | (refine' kp_binds (by k_in) (by exact fun _=>rfl)));(case c5=>decide);(case kB=>exact locs rfl);(case c2=>exact rfl);(case c3=>exact rfl);(case c4=>exact rfl);k_whole)
  k_with "M.ne" => (repeat (first | assumption | exact all_nil | (refine all_cons (neN (by omega)) ?_)))
  k_with "execs cons" => (refine wpAny_execs_cons ?_;k_fold)
  k_with "call ref" => ((with_reducible show wpAny _ _ (call (Value.ref 98) _) _ _ _);k_dflt (refine' call_join98 (by k_asm) (by k_asm) (by assumption) (by k_mem) ?_ ?_;rotate_left;intro _ _))
  k_with "call ref" => ((with_reducible show wpAny _ _ (call (Value.ref _) [Value.str _ _]) _ _ _);k_dflt (refine' call_bd_K (by k_asm) (by k_asm) (by k_mem) (by k_upd) ?_ ?_;intro _ _ _;(try k_sweep)))
  k_with "call builtin:list.append" => (k_dflt (refine' append_svs (by k_asm) (by k_asm) (by k_upd) ?_ ?_;intro _ _ _;(try k_sweep)))
  k_with "subscriptTail Name Name ref int" => ((with_reducible show wpAny _ _ (subscriptTail _ _ (Value.ref _) (Value.int _ _)) _ _ _);k_dflt (refine sub_list (by is_list) (by assumption) (by assumption) (by omega) ?_;intro _))
  k_with "subscriptTail Name BinOp ref int" => ((with_reducible show wpAny _ _ (subscriptTail _ _ (Value.ref _) (Value.int _ _)) _ _ _);k_dflt (refine sub_list_prev (by is_list) (by assumption) (by assumption) (by omega) (by omega) ?_;intro _))
  k_with "subscriptTail Name Constant str int" => ((with_reducible show wpAny _ _ (subscriptTail _ _ (Value.str _ _) (Value.int _ _)) _ _ _);(first | refine sub_open (by assumption) ?_ | refine sub_close (by assumption) ?_ | refine sub_close2 (by assumption) ?_))
  k_with "subscriptTail Subscript Name Name Constant str int" => ((with_reducible show wpAny _ _ (subscriptTail _ _ (Value.str _ _) (Value.int _ _)) _ _ _);(first | refine sub_open (by assumption) ?_ | refine sub_close (by assumption) ?_ | refine sub_close2 (by assumption) ?_))
  k_with "subscriptTail Subscript Name BinOp Constant str int" => ((with_reducible show wpAny _ _ (subscriptTail _ _ (Value.str _ _) (Value.int _ _)) _ _ _);(first | refine sub_open (by assumption) ?_ | refine sub_close (by assumption) ?_ | refine sub_close2 (by assumption) ?_))
  k_with "call builtin:len" => ((with_reducible show wpAny _ _ (call (Value.builtin "len") [Value.ref _]) _ _ _);refine call_len_list (by is_list) (by simp only [List.size_toArray];omega) ?_)
  k_with "exec For Name Call cons nil" => (with_unfolding_all refine' for_G ?_;k_whole)
  k_with "setItem ref int" => (refine hold ?_)
  k_with "subscriptTail Name UnaryOp ref int" => ((with_reducible show wpAny _ _ (subscriptTail _ _ (Value.ref _) (Value.int (-1) _)) _ _ _);k_dflt (refine' last_svs (by k_asm) (by k_mem) (by assumption) (by omega) ?_;intro _))
  k_with "call builtin:list.append" => (refine hold ?_)
  k_with "binaryOp Add str str" => (refine add_str_ob ?_ ?_;intro _ _)
  k_with "pyIter ref" => (refine hold ?_)
  k_with "pyIter str" => (refine hold ?_)
  k_with "pyIter bytes" => (refine hold ?_)
  k_with "call builtin:str.join" => (refine hold ?_)
  k_with "call builtin:sorted" => (refine hold ?_)
  k_with "call type:bytes" => (refine hold ?_)
  k_with "eval Name" => ((with_reducible show wpAny _ _ (eval (Expr.Name _ _) (compEnvC _ _ _ _)) _ _ _);k_dflt (refine own_C (by k_asm) (by assumption) ?_))
  k_with "eval ListComp" => (refine hold ?_)
  intro C hd hu hw hwv hN hA hop hl hret F N X TP kG lG eL
  k_dflt (refine' bg_use ?k6 ?_;(case k6=>k_is);k_whole)
  have nd0 : NdA (List.map (·.1) ([] : List (Addr × Obj))):=trivial
  have hw' : g.IsList wA wv.toArray:=hw.at fun o e=>kG _ o e (by simp)
  have hlw:=hwv.length
  rw [List.length_map] at hlw
  (try dsimp only)
  refine D_pre_execs (pre:=[_,_]) ?_
  k_steps
  (rename Fr _ _ _ _=>F5)
  (rename News _ _ _ _=>N5)
  refine name_nilL N5 ?_
  intro D eD N6
  subst eD
  clear N5
  refine' loop_range_G (σ:=SV × Nat) (n:=ev.length) (oth:=[]) (fun c=>[(D,listOf (svs c.1).toArray c.2)]) (fun _=>[]) [Str.ofString "k"] (fun i c gs=>gs = s.gens ∧ c.1.map (·.1) = runsW ev i ∧ c.1.length ≤ i ∧ (∀ j n,i = j + 1 → ev[j]? = some (false,n) → c.1 ≠ []) ∧ ∀ p ∈ c.1,p.1.length ≤ i ∧ 0 < p.1.length ∧ ∀ x ∈ p.1.cps.toList,x < 128) ([],0) (by rfl) (by rfl) rfl ?hr5 ?hn5 ?hb5 F5 ?hN5 (fun _ h=>nomatch h) ⟨rfl,rfl,Nat.le_refl _,fun _ _ h=>absurd h (by omega),fun _ h=>nomatch h⟩ ?turn5 ?done5
  case hr5=>assumption
  case hn5=>rw [List.size_toArray];omega
  case hb5=>rw [List.size_toArray];omega
  case hN5=>exact all_cons (N6 _ (by k_mem)) all_nil
  case done5=>
    rintro ⟨l,n⟩ u2 h2 tk2 gs ⟨rfl,hT,hl1,hl2,hl3⟩ F9 N9
    dsimp only at hT hl1 hl2 hl3 F9 N9
    rw [List.cons_append,List.nil_append] at N9
    k_steps
    (rename Fr _ _ _ _=>F10)
    (rename News _ _ _ _=>N10)
    replace F10 : Fr g L h2 _:=F10
    replace N10 : News g L h2 _:=N10
    refine D_execs_cons ?_
    refine D_Assign_ListComp (fun v y=>∀ x t,v = .str x t → ∃ t',y = .bytes (bytesOf x).reverse.toArray t') (by decide) (by decide) rfl (by decide) rfl ?sw ?_
    case sw=>with_unfolding_all rfl
    k_steps
    show wpAny _ _ _ _ _ _
    have hlD : h2.IsList D (svs l).toArray:=⟨_,(N10 (D,_) (List.Mem.head _)).1,rfl,_,rfl⟩
    refine wpAny_pyIter_list (l:=D) (items:=(svs l).toArray) hlD ?_
    refine AsgD.intro rfl (Walks.list rfl _ D (Nat.ne_of_lt (Heap.lt_size (N10 (D,_) (List.Mem.head _)).1)) (svs l).toArray) ?sz ⟨⟨_,Heap.get?_push_size _ rfl,rfl,rfl⟩,hlD.at fun o e=>Heap.get?_push_of_some _ e⟩ ?fp ?elt ?fin
    case sz=>rw [List.size_toArray,svs_length,sizeLine_eq];omega
    case fp=>
      refine all_cons (P:=fun b=>b < _) ?_ (all_cons ?_ all_nil)
      · rw [Heap.size_push];exact Nat.lt_succ_self _
      · rw [Heap.size_push];exact Nat.lt_succ_of_lt (Heap.lt_size (N10 (D,_) (List.Mem.head _)).1)
    case elt=>
      intro Cx1 i v s₃ m₃ hC hv hn hm hk
      obtain ⟨p,hp,rfl⟩ : ∃ p ∈ l,v = .str p.1 p.2:=by
        rw [List.getElem?_toArray] at hv
        refine obEA (List.mem_map.mp (List.mem_of_getElem? hv)) ?_;intro p hp e
        exact ⟨p,hp,e.symm⟩
      obtain ⟨x,t⟩:=p
      refine obAA (hl3 _ hp) ?_;intro q1 q2 q3
      dsimp only at q1 q2 q3 hm
      rw [Heap.size_push] at hC
      have hgC : g.objs.size ≤ Cx1:=Nat.le_trans F10.above (Nat.le_trans (Nat.le_of_lt F10.ns.lt) (Nat.le_trans (Nat.le_succ _) hC))
      have F3 : Fr g Cx1 s₃.heap m₃:=comp_fr hn (fun b o e=>hk b o (fun q=>by
        have:=Heap.lt_size (F10.keep b o e);rw [List.mem_singleton.mp q] at this;exact Nat.lt_irrefl _ this) (Heap.get?_push_of_some _ (F10.keep b o e))) hgC
      refine D_compC ?_
      refine D_Call_Name ?_
      k_steps
      refine obEEA (at_252 X) ?_;intro o252 fd252 hd252 ho252
      refine D_callWith_fn1 hd252 ?_
      k_steps
      show wpAny _ _ _ _ _ _
      refine A_ListComp (fun v y=>∀ c t1,v = .str ⟨#[c]⟩ t1 → ∃ t',y = .int (c:Int) t') (by decide) (by decide) rfl (by decide) rfl ?_
      k_steps
      show wpAny _ _ _ _ _ _
      refine wpAny_pyIter_str fun o St hW hst=>?_
      refine CompAt.intro rfl (hW _ rfl) ?sz2 hst ?fp2 ?elt2 ?fin2
      case sz2=>show x.length ≤ _;rw [sizeLine_eq];omega
      case fp2=>exact all_cons (P:=fun b=>b < _) (by rw [Heap.size_push];exact Nat.lt_succ_self _) all_nil
      case elt2=>
        intro C2 i2 v2 s4 m4 E' hC2 hv2 hn2 hm2 hk2
        refine obEEA hv2 ?_;clear hv2;intro c u hc oR3;subst oR3
        rw [Heap.size_push] at hC2
        (rename Fr g Cx1 _ _=>F3)
        have F4 : Fr g C2 s4.heap m4:=comp_fr hn2 (fun b o e=>hk2 b o (fun q=>by
          have:=Heap.lt_size (F3.keep b o e);rw [List.mem_singleton.mp q] at this;exact Nat.lt_irrefl _ this) (Heap.get?_push_of_some _ (F3.keep b o e)))
          (Nat.le_trans hgC (Nat.le_trans (Nat.le_of_lt F3.ns.lt) (Nat.le_trans (Nat.le_succ _) hC2)))
        k_steps
        exact ⟨fun c1 t1 e=>by cases e;exact ⟨_,rfl⟩,_,_,rfl,fun _ _ e=>e⟩
      case fin2=>
        intro D2 h4 tk4 ys vs hD2 hpl hlen hP hF hk4
        k_steps
        show wpAny _ _ _ _ _ _
        (rename Fr g Cx1 _ _=>F3)
        have K4 : ∀ b o,s₃.heap.get? b = some o → h4.get? b = some o:=fun b o e=>hk4 b o (fun q=>by have:=Heap.lt_size e;rw [List.mem_singleton.mp q] at this;exact Nat.lt_irrefl _ this) (Heap.get?_push_of_some _ e)
        refine obE hpl ?_;clear hpl;intro n4 hn4
        have hi4:=ords_of (l:=x.cps.toList) hF (by rw [hlen];simp) (fun j v e=>by
          refine obEEA (hP j v e) ?_;intro c u e1 e2
          exact ⟨c,u,by simpa using e1,e2⟩)
        refine call_bytes_ints (l:=D2) (vs:=ys.toList) (ns:=x.cps.toList.map fun c : Nat=>(c:Int)) ⟨_,hn4,rfl,n4,by simp⟩ hi4 ?r4 ?z4 rfl ?_
        case r4=>
          intro n hn
          refine obEA (List.mem_map.mp hn) ?_;intro c hc oR2;subst oR2
          have:=q3 c hc
          omega
        case z4=>rw [← hF.length,hlen];show x.length ≤ _;rw [sizeLine_eq];omega
        intro h5 t5 tk5 K5
        rw [bytesOf_arr]
        have F5' : Fr g Cx1 h5 m₃:=(F3.keeps K4).keeps K5
        clear F3
        k_steps
        rw [← bytesOf_len x]
        (rename Fr g Cx1 _ _=>F6)
        refine byteswap_spec (mean:=mean) (mg:=mg) (mb:=mb) (h₀:=g) ?_ ?_ ?_ (by rw [bytesOf_len];exact q2) (by rw [bytesOf_len];omega) ?_
        · exact ⟨X,TP,F6.keep,fun _ h=>nomatch h⟩
        · (try dsimp only [Around.deeper]);omega
        · (try dsimp only [Around.deeper]);omega
        · intro h7 tk7 t7 K7
          exact ⟨fun x1 t1 e=>by cases e;exact ⟨_,rfl⟩,_,_,rfl,fun b o e=>K7 b o (K5 b o (K4 b o e)) (fun h=>nomatch h)⟩
    case fin=>
      intro Dt h4 tk4 ys vs hDt hpl hlen hP hF hk4
      have K4 : ∀ b o,h2.get? b = some o → h4.get? b = some o:=fun b o e=>hk4 b o (fun q=>by have:=Heap.lt_size e;rw [List.mem_singleton.mp q] at this;exact Nat.lt_irrefl _ this) (Heap.get?_push_of_some _ e)
      have hvs : vs = svs l:=by
        refine List.ext_getElem? fun j=>?_
        cases hj : vs[j]? with
        | none =>
          rw [List.getElem?_eq_none_iff] at hj
          rw [hlen,List.size_toArray] at hj
          exact (List.getElem?_eq_none hj).symm
        | some v =>
          have:=hP j v hj
          rw [List.getElem?_toArray] at this
          exact this.symm
      subst hvs
      have F11:=F10.keeps K4
      have N11 : News g L h4 _:=fun p hp=>⟨K4 _ _ (N10 p hp).1,(N10 p hp).2⟩
      refine obE hpl ?_;clear hpl;intro nt hnt
      refine wpAny_storeName_local (by rfl) F11.ns (fun h5 hn5 hs5=>?_) (by rfl)
      refine ⟨?oL,hs5,fun h6 hk6=>?_⟩
      case oL=>refine obEEEA F10.ns ?_;intro o _ _ e _;exact ⟨o,Heap.get?_push_of_some _ e⟩
      have s2ne : ∀ b o,h2.get? b = some o → (h2.push { cls:=.type "list_iterator",data:=.fields #[.ref D,.int 0 0] }).get? b ≠ none:=fun b o e=>by rw [Heap.get?_push_of_some _ e];exact fun q=>nomatch q
      have hL2 : h2.get? L ≠ none:=by refine obEEEA F10.ns ?_;intro o _ _ e _;rw [e];exact fun q=>nomatch q
      have hDL : Dt ≠ L:=by
        rintro rfl
        refine obEEEA F10.ns ?_;intro o _ _ e _
        have e2:=Heap.get?_push_of_some { cls:=.type "list_iterator",data:=.fields #[.ref D,.int 0 0] } e
        exact absurd (hDt.symm.trans e2) (fun q=>nomatch q)
      have hgD : g.get? Dt = none:=by
        cases e : g.get? Dt with
        | none=>rfl
        | some o=>have:=Heap.get?_push_of_some { cls:=.type "list_iterator",data:=.fields #[.ref D,.int 0 0] } (F10.keep _ _ e);exact absurd (hDt.symm.trans this) (fun q=>nomatch q)
      have old6 : ∀ b o,b ≠ L → h2.get? b = some o → h6.get? b = some o:=fun b o hb e=>hk6 b o (hs5.extBut b o hb (K4 b o e)) (.inl (s2ne _ _ e))
      have F12 : Fr g L h6 _:=⟨hn5.at' fun o e=>hk6 _ o e (.inl (by
        refine obEEEA F10.ns ?_;intro o2 _ _ e2 _
        exact s2ne _ _ e2)),fun b o e=>old6 b o (Nat.ne_of_lt (Nat.lt_of_lt_of_le (Heap.lt_size e) F10.above)) (F10.keep b o e),F10.above⟩
      have N12 : News g L h6 [(Dt,listOf ys nt),(D,listOf (svs l).toArray n)]:=all_cons ⟨hk6 _ _ (hs5.extBut _ _ hDL hnt) (.inr rfl),hDL,hgD⟩ (all_cons ⟨old6 _ _ (N10 (D,_) (List.Mem.head _)).2.1 (N10 (D,_) (List.Mem.head _)).1,(N10 (D,_) (List.Mem.head _)).2⟩ all_nil)
      clear F10 N10 F11 N11 hn5 hs5 hk6 K4 hk4 old6
      show wpD _ _ (execs _ _) _ _ _
      refine D_any ?_
      (try dsimp only)
      k_steps
      show wpAny _ _ _ _ _ _
      refine A_ListComp (fun v y=>∀ (q:List UInt8) t1,v = .bytes q.toArray t1 → ∃ t',y = .str (strOf q) t') (by decide) (by decide) rfl (by decide) rfl ?_
      k_steps
      show wpAny _ _ _ _ _ _
      (rename Fr g L h6 _=>F12)
      (rename News g L h6 _=>N12)
      have hlT : h6.IsList Dt ys:=⟨_,(N12 (Dt,_) (List.Mem.head _)).1,rfl,_,rfl⟩
      refine wpAny_pyIter_list (l:=Dt) (items:=ys) hlT ?_
      refine CompAt.intro rfl (Walks.list rfl _ Dt (Nat.ne_of_lt (Heap.lt_size (N12 (Dt,_) (List.Mem.head _)).1)) ys) ?sz3 ⟨⟨_,Heap.get?_push_size _ rfl,rfl,rfl⟩,hlT.at fun o e=>Heap.get?_push_of_some _ e⟩ ?fp3 ?elt3 ?fin3
      case sz3=>
        have h2 : ys.size = l.length:=by rw [← Array.length_toList,← hF.length,svs_length]
        exact Nat.le_trans (Nat.le_of_eq h2) (by rw [sizeLine_eq];omega)
      case fp3=>
        refine all_cons (P:=fun b=>b < _) ?_ (all_cons ?_ all_nil)
        · rw [Heap.size_push];exact Nat.lt_succ_self _
        · rw [Heap.size_push];exact Nat.lt_succ_of_lt (Heap.lt_size (N12 (Dt,_) (List.Mem.head _)).1)
      case elt3=>
        intro Cx1 i v s₃ m₃ E' hC hv hn hm hk
        refine obEAE (bytes_of hF v (by rw [Array.mem_toList_iff];exact Array.mem_of_getElem? hv)) ?_;intro p hp t oR3;subst oR3
        refine obAA (hl3 _ hp) ?_;intro q1 q2 q3
        rw [Heap.size_push] at hC
        have hgC : g.objs.size ≤ Cx1:=Nat.le_trans F12.above (Nat.le_trans (Nat.le_of_lt F12.ns.lt) (Nat.le_trans (Nat.le_succ _) hC))
        have F3 : Fr g Cx1 s₃.heap m₃:=comp_fr hn (fun b o e=>hk b o (fun q=>by
          have:=Heap.lt_size (F12.keep b o e);rw [List.mem_singleton.mp q] at this;exact Nat.lt_irrefl _ this) (Heap.get?_push_of_some _ (F12.keep b o e))) hgC
        generalize hqq : (bytesOf p.1).reverse = qq at hm ⊢
        have hql : qq.length = p.1.length:=by rw [← hqq,List.length_reverse,bytesOf_len]
        clear F12 N12
        k_steps
        show wpAny _ _ _ _ _ _
        refine A_ListComp (fun v y=>∀ (n:Nat) t1,v = .int (n:Int) t1 → ∃ t',y = .str ⟨#[n]⟩ t') (by decide) (by decide) rfl (by decide) rfl ?_
        k_steps
        show wpAny _ _ _ _ _ _
        refine KBw.pyIter_bytes ?_
        refine CompAt.intro rfl (KBw.walks rfl _ _ _) ?sz4 ⟨_,Heap.get?_push_size _ rfl,rfl,rfl⟩ ?fp4 ?elt4 ?fin4
        case sz4=>rw [List.size_toArray,hql,sizeLine_eq];omega
        case fp4=>exact all_cons (P:=fun b=>b < _) (by rw [Heap.size_push];exact Nat.lt_succ_self _) all_nil
        case elt4=>
          intro C2 i2 v2 s4 m4 E'' hC2 hv2 hn2 hm2 hk2
          refine obEEA hv2 ?_;clear hv2;intro c u hc oR3;subst oR3
          rw [Heap.size_push] at hC2
          (rename Fr g Cx1 _ _=>F3)
          have hcl:=c.toNat_lt
          have F4 : Fr g C2 s4.heap m4:=comp_fr hn2 (fun b o e=>hk2 b o (fun q=>by
            have:=Heap.lt_size (F3.keep b o e);rw [List.mem_singleton.mp q] at this;exact Nat.lt_irrefl _ this) (Heap.get?_push_of_some _ (F3.keep b o e)))
            (Nat.le_trans hgC (Nat.le_trans (Nat.le_of_lt F3.ns.lt) (Nat.le_trans (Nat.le_succ _) hC2)))
          k_steps
          exact ⟨fun c1 t1 e=>by cases e;exact ⟨_,rfl⟩,_,_,rfl,fun _ _ e=>e⟩
        case fin4=>
          intro D2 h7 tk7 zs ws hD2 hpl2 hlen2 hP2 hF2 hk5
          (rename Fr g Cx1 _ _=>F3)
          have K5 : ∀ b o,s₃.heap.get? b = some o → h7.get? b = some o:=fun b o e=>hk5 b o (fun q=>by have:=Heap.lt_size e;rw [List.mem_singleton.mp q] at this;exact Nat.lt_irrefl _ this) (Heap.get?_push_of_some _ e)
          refine obE hpl2 ?_;clear hpl2;intro n5 hn5
          k_steps
          show wpAny _ _ _ _ _ _
          obtain ⟨lz,ez,hz⟩:=chrs_of (q:=qq) hF2 (by rw [hlen2];simp) (fun j v e=>by
            refine obEEA (hP2 j v e) ?_;intro c u e1 e2
            exact ⟨c,u,by simpa using e1,e2⟩)
          have ez2 : zs = (svs lz).toArray:=by rw [← ez]
          subst ez2
          refine SC.join (l:=lz) ⟨_,hn5,rfl,n5,rfl⟩ rfl (joinOk_cat (by rw [hz,cat_chrs,strOf_len];omega)) ?_
          intro t9 tk9
          rw [txt_join_cat,hz,cat_chrs]
          k_steps
          exact ⟨fun q t1 e=>by cases e;exact ⟨_,rfl⟩,_,_,rfl,K5⟩
      case fin3=>
        intro D3 h7 tk7 zs ws hD3 hpl3 hlen3 hP3 hF3 hk5
        have K7 : ∀ b o,h6.get? b = some o → h7.get? b = some o:=fun b o e=>hk5 b o (fun q=>by have:=Heap.lt_size e;rw [List.mem_singleton.mp q] at this;exact Nat.lt_irrefl _ this) (Heap.get?_push_of_some _ e)
        have F13:=F12.keeps K7
        have N13 : News g L h7 _:=fun p hp=>⟨K7 _ _ (N12 p hp).1,(N12 p hp).2⟩
        refine obE hpl3 ?_;clear hpl3;intro n7 hn7
        have hws : ws = ys.toList:=by
          refine List.ext_getElem? fun j=>?_
          cases hj : ws[j]? with
          | none =>
            rw [List.getElem?_eq_none_iff] at hj
            rw [hlen3] at hj
            exact (List.getElem?_eq_none (by rw [Array.length_toList];exact hj)).symm
          | some v =>
            have:=hP3 j v hj
            rw [← Array.getElem?_toList] at this
            exact this.symm
        subst hws
        have hS:=turned_of hF hF3 fun p hp=>(hl3 p hp).2.2
        clear F12 N12
        k_steps
        show wpAny _ _ _ _ _ _
        refine sorted_K F13 N13 (vs:=zs.toList) ⟨_,hn7,rfl,n7,rfl⟩ hS (by rw [hS.length,List.length_map];omega) ?_
        intro D8 h8 vs8 e8 hlt8 F14 N14 hS8
        k_steps
        refine Leave.intro (by assumption) fun kp=>?_
        refine hret _ _ _ _ _ (N14 (D8,_) (List.Mem.head _)).1 ?_ (fresh_of N14 (List.Mem.head _) kG (fun h=>nomatch h)) kp
        rw [← hT,List.map_map]
        exact hS8
  case turn5=>
    rintro ⟨l,n⟩ j tt2 u2 h2 tk2 gs I oI hj hne ⟨rfl,hT,hl1,hl2,hl3⟩ F9 N9
    dsimp only at hT hl1 hl2 hl3 F9 N9 hne
    simp only [List.cons_append,List.nil_append] at N9 hne
    have hDI : @Ne Nat D I:=hne _ (List.Mem.head _)
    obtain ⟨⟨b,nm⟩,he⟩ : ∃ e,ev[j]? = some e:=⟨ev[j],List.getElem?_eq_getElem hj⟩
    obtain ⟨hn1,hn2,hn3⟩:=hN _ (List.mem_of_getElem? he)
    dsimp only at hn1 hn2 hn3
    have hna : ∀ x ∈ nm.cps.toList,x < 128:=hA _ (List.mem_of_getElem? he)
    cases b with
    | true =>
      have hx : (ev.map wordOf)[j]? = some (Str.ofString "<" ++ nm ++ Str.ofString ">"):=by rw [List.getElem?_map,he];rfl
      k_steps
      (rename Fr _ _ _ _=>F10)
      (rename News _ _ _ _=>N10)
      refine' TEndG.intro (l,n) F10 N10 (all_cons ⟨by k_mem,hDI⟩ all_nil) (all_cons (by k_mem) all_nil) (fun _ h=>nomatch h) ?r2 ⟨rfl,?p2,Nat.le_succ_of_le hl1,?q2,fun p hp=>⟨Nat.le_succ_of_le (hl3 p hp).1,(hl3 p hp).2⟩⟩
      case r2=>intro z h1 h2 h3;(try simp at h3);(try simp at h2);first | simp [kstB,h1,h2,h3] | simp [kstB,h1,h3] | simp [kstB,h1,h2] | simp [kstB,h1] | simp_all [kstB]
      case p2=>rw [runsW_open he];exact hT
      case q2=>
        intro j' n' e1 e2
        obtain rfl : j' = j:=by omega
        rw [he] at e2;cases e2
    | false =>
      have hx : (ev.map wordOf)[j]? = some (Str.ofString "</" ++ nm ++ Str.ofString ">"):=by rw [List.getElem?_map,he];rfl
      rcases j with _ | j
      · have:=hop 0 nm he;exact absurd this (by simp [opensAt])
      obtain ⟨⟨b0,nm0⟩,he0⟩ : ∃ e,ev[j]? = some e:=⟨ev[j],List.getElem?_eq_getElem (by omega)⟩
      obtain ⟨hm1,hm2,hm3⟩:=hN _ (List.mem_of_getElem? he0)
      dsimp only at hm1 hm2 hm3
      cases b0 with
      | true =>
        have hx0 : PrevAt (ev.map wordOf) j (Str.ofString "<" ++ nm0 ++ Str.ofString ">"):=⟨by rw [List.getElem?_map,he0];rfl⟩
        k_steps
        (rename Fr _ _ _ _=>F10)
        (rename News _ _ _ _=>N10)
        show wpAny _ _ _ _ _ _
        refine append_svs F10 N10 (Upd.head (by k_extra "M.ne")) ?_ (by show _ ≤ _;rw [sizeLine_eq];omega)
        intro h5 F11 N11
        clear F10 N10
        k_steps
        (rename Fr _ _ _ _=>F12)
        (rename News _ _ _ _=>N12)
        refine' TEndG.intro (l ++ [(nm,_)],n + 1) F12 N12 (all_cons ⟨by k_mem,hDI⟩ all_nil) (all_cons (by k_mem) all_nil) (fun _ h=>nomatch h) ?r3 ⟨rfl,?p3,?q3,fun _ _ _ _=>by simp,?t3⟩
        case r3=>intro z h1 h2 h3;(try simp at h3);(try simp at h2);first | simp [kstB,h1,h2,h3] | simp [kstB,h1,h3] | simp [kstB,h1,h2] | simp [kstB,h1] | simp_all [kstB]
        case p3=>rw [runsW_first he he0,List.map_append,hT];rfl
        case q3=>show (l ++ _).length ≤ _;rw [List.length_append,List.length_cons,List.length_nil];omega
        case t3=>
          refine all_app (fun p hp=>⟨Nat.le_succ_of_le (hl3 p hp).1,(hl3 p hp).2⟩) (all_cons ⟨?_,?_,hna⟩ all_nil)
          · show nm.length ≤ _;omega
          · show 0 < nm.length;omega
      | false =>
        have hx0 : PrevAt (ev.map wordOf) j (Str.ofString "</" ++ nm0 ++ Str.ofString ">"):=⟨by rw [List.getElem?_map,he0];rfl⟩
        have hlne:=hl2 j nm0 rfl he0
        have hlast : ((l.map (·.1)).getLast?.getD Str.empty).length ≤ j + 1 ∧ ∀ x ∈ ((l.map (·.1)).getLast?.getD Str.empty).cps.toList,x < 128:=by
          obtain ⟨q,z,rfl⟩ : ∃ q z,l = q ++ [z]:=⟨l.dropLast,l.getLast hlne,(List.dropLast_concat_getLast hlne).symm⟩
          have hz:=hl3 z (by simp)
          simp only [List.map_append,List.map_cons,List.map_nil,List.getLast?_append,List.getLast?_singleton,Option.some_or,Option.getD_some]
          exact ⟨hz.1,hz.2.2⟩
        refine obA hlast ?_;clear hlast;intro hla1 hla2
        generalize hlS : (l.map (·.1)).getLast?.getD Str.empty = lS at hla1 hla2
        k_steps
        · (rename Fr _ _ _ _ => F10)
          (rename News _ _ _ _=>N10)
          show wpAny _ _ _ _ _ _
          refine set_last_svs F10 N10 (Upd.head (by k_extra "M.ne")) hlne ?_
          intro h5 F11 N11
          clear F10 N10
          k_steps
          (rename Fr _ _ _ _=>F12)
          (rename News _ _ _ _=>N12)
          refine' TEndG.intro (l.dropLast ++ [_],n) F12 N12 (all_cons ⟨by k_mem,hDI⟩ all_nil) (all_cons (by k_mem) all_nil) (fun _ h=>nomatch h) ?r4 ⟨rfl,?p4,?q4,fun _ _ _ _=>by simp,?t4⟩
          case r4=>intro z h1 h2 h3;(try simp at h3);(try simp at h2);first | simp [kstB,h1,h2,h3] | simp [kstB,h1,h3] | simp [kstB,h1,h2] | simp [kstB,h1] | simp_all [kstB]
          case p4=>rw [runsW_more he he0,List.map_append,List.map_dropLast,hT];rfl
          case q4=>show (l.dropLast ++ _).length ≤ _;rw [List.length_append,List.length_dropLast,List.length_cons,List.length_nil];omega
          case t4=>
            refine all_app (fun p hp=>⟨Nat.le_succ_of_le (hl3 p (List.dropLast_subset _ hp)).1,(hl3 p (List.dropLast_subset _ hp)).2⟩) (all_cons ⟨?_,?_,?_⟩ all_nil)
            · show (_ ++ nm).length ≤ _
              rw [str_len_append,hlS];omega
            · show 0 < (_ ++ nm).length
              rw [str_len_append];omega
            · show ∀ x ∈ (_ ++ nm).cps.toList, x < 128
              rw [hlS]
              intro x hx
              rcases mem_app_cps hx with hx | hx
              · exact hla2 x hx
              · exact hna x hx
        · show _ ≤ _
          rw [hlS,sizeLine_eq];omega
theorem all : ∀ d,F d := eps_all (by with_unfolding_all exact core)
end V5k
theorem runs_spec {w : World} {mean : ExcName → Option Value} {mg mb : Str → Option Value} {h₀ : Heap} {s : Shared} {dp un : Nat} {fr : Option (List Env)} {gd : Option (List Code)} {Q E : Value → Shared → Prop}
  (C:Cx w mean mg mb h₀ s []) (hd : dp + 20 < recursionLimit) (hu : un + 60 < cLine)
  {wA : Addr} {wv : List Value} {ev : List Ev} (hw : s.heap.IsList wA wv.toArray) (hwv : StrsAre wv (ev.map wordOf))
  (hN : ∀ e ∈ ev,NameTx e.2) (hA : ∀ e ∈ ev,∀ x ∈ e.2.cps.toList,x < 128) (hop : ∀ j n,ev[j]? = some (false,n) → 0 < opensAt ev j) (hl : ev.length < 60)
  (hret : ∀ h' tk' D vs' n,h'.get? D = some (seqObj "list" vs'.toArray n) → StrsAre vs' (sortS ((runsW ev ev.length).map revS)) → s.heap.get? D = none → Keep [] s { s with heap:=h',toks:=tk' } → Q (.ref D) { s with heap:=h',toks:=tk' }) :
  wpD (model P0 w) (Ar dp fr gd un) (call (.ref 306) [.ref wA]) Q E s:=by
  have X0:=C.X
  k_dflt (refine' enter_defD (binds:=[(Str.ofString "words",.ref wA)]) ?k1 ?k6 ?k7 ?k8 ?k9 ?kB ?_ ?c2 ?c3 ?c4 ?c5;k_extra "M.in")
  intro g L h F N X TP kG lG eL
  refine' fn_get (V5k.all (wA,wv,ev,w,mean,mg,mb,h₀,s,dp,un,fr,gd,Q,g,L,h,_) C hd hu hw hwv hN hA hop hl hret F N X TP kG lG eL) ?ko
  case ko=>k_is
end

end
section
set_option maxRecDepth 100000
section
structure CellsOk (cs : List Int) : Prop where
  len : cs.length = 5
  all : ∀ c ∈ cs,0 ≤ c ∧ c < 1000000
theorem CellsOk.set {cs : List Int} (h : CellsOk cs) (i : Nat) {v : Int} (h0 : 0 ≤ v) (h1 : v < 1000000) : CellsOk (cs.set i v) :=
  ⟨by rw [List.length_set];exact h.len,fun c hc=>(List.mem_or_eq_of_mem_set hc).elim (h.all c) fun e=>e ▸ ⟨h0,h1⟩⟩
namespace T2k
noncomputable def PP (sA : Addr) (sv : List Value) (ns : List Int) (w : World) (mean : ExcName → Option Value) (mg : Str → Option Value) (mb : Str → Option Value) (h₀ : Heap) (s : Shared) (dp : Nat) (un : Nat) (fr : Option (List Env)) (gd : Option (List Code)) (Q : Value → Shared → Prop) (g : Heap) (L : Addr) (h : Heap) (tk0 : Tok) : Prop :=
  ∀ (C:Cx w mean mg mb h₀ s []) (hd : dp + 1 < recursionLimit) (hu : un + 8 < cLine) (hw : s.heap.IsList sA sv.toArray) (hi : IntsAre sv ns) (hl : ns.length ≤ 63) (hret : ∀ a cv cs n h' tk',CellsOk cs → IntsAre cv cs → s.heap.get? a = none → h'.get? a = some (listOf cv.toArray n) → Keep [] s { s with heap:=h',toks:=tk' } → Q (.ref a) { s with heap:=h',toks:=tk' }),
  BGoal wpAny w mean mg mb s ([]) dp un fr gd 259 [(Str.ofString "script",.ref sA)] Q g L h tk0
noncomputable def F := ucr fun sA=>ucr fun sv=>ucr fun ns=>ucr fun w=>ucr fun mean=>ucr fun mg=>ucr fun mb=>ucr fun h₀=>ucr fun s=>ucr fun dp=>ucr fun un=>ucr fun fr=>ucr fun gd=>ucr fun Q=>ucr fun g=>ucr fun L=>ucr fun h tk0=>PP sA sv ns w mean mg mb h₀ s dp un fr gd Q g L h tk0
noncomputable section
@[irreducible] def zz := eps ((0),([]),([]),d0) F
@[irreducible] def sA := zz.1
@[irreducible] def sv := zz.2.1
@[irreducible] def ns := zz.2.2.1
@[irreducible] def w := zz.2.2.2.1
@[irreducible] def mean := zz.2.2.2.2.1
@[irreducible] def mg := zz.2.2.2.2.2.1
@[irreducible] def mb := zz.2.2.2.2.2.2.1
@[irreducible] def h₀ := zz.2.2.2.2.2.2.2.1
@[irreducible] def zz8 := zz.2.2.2.2.2.2.2.2
@[irreducible] def s := zz8.1
@[irreducible] def dp := zz8.2.1
@[irreducible] def un := zz8.2.2.1
@[irreducible] def fr := zz8.2.2.2.1
@[irreducible] def gd := zz8.2.2.2.2.1
@[irreducible] def Q := zz8.2.2.2.2.2.1
@[irreducible] def g := zz8.2.2.2.2.2.2.1
@[irreducible] def L := zz8.2.2.2.2.2.2.2.1
@[irreducible] def zz16 := zz8.2.2.2.2.2.2.2.2
@[irreducible] def h := zz16.1
@[irreducible] def tk0 := zz16.2
end
theorem core : PP sA sv ns w mean mg mb h₀ s dp un fr gd Q g L h tk0 := by
  k_with_none
  k_with "K.om" => first | exact lim1 (by assumption) (by decide) | exact lim2 (by assumption) (by decide) | exact lim3 (by assumption) (by decide) | exact lt_mem (by assumption) (by k_mem) | exact ne_mem (by assumption) (by k_mem) | exact Ne.symm (ne_mem (by assumption) (by k_mem)) | exact ne_mem2 (by assumption) (by k_mem) | exact Ne.symm (ne_mem2 (by assumption) (by k_mem)) | exact ne_L (by assumption) (by k_mem) | lia | omega (config:={}) | (k_extra "M.facts";omega (config:={}))
  k_with "K.ne" => (refine neN ?_;(try dsimp only);first | assumption | exact Ne.symm (by assumption) | exact ne_mem (by assumption) (by k_mem) | exact Ne.symm (ne_mem (by assumption) (by k_mem)) | exact ne_L (by assumption) (by k_mem) | exact Ne.symm (ne_L (by assumption) (by k_mem)) | omega)
  k_with "M.at" => first | exact AtP.head | (refine' AtP.tail ?kz;(case kz=>k_extra "M.at"))
  k_with "M.atF" => first | exact AtF.head | (refine' AtF.tail ?kz;(case kz=>k_extra "M.atF"))
  k_with "M.facts" => repeat (rename (∀ p ∈ (_:List (Addr × Obj)),p.1 < _)=>hraw;replace hraw:=allLt_of hraw;simp only [AllLt,and_true] at hraw)
  k_with "M.in" => ((case k1=>assumption);(case k6=>k_is);(case k7=>k_is);(case k8=>omega);(case k9=>exact BindsTo.of_eq rfl);(case c5=>decide);(case kB=>exact locs rfl);(case c2=>exact rfl);(case c3=>exact rfl);(case c4=>exact rfl);k_whole)
  k_with "M.for" => ((rename Fr _ _ _ _=>lF');(with_unfolding_all refine' for_V lF' (by exact rfl) (by exact rfl) ?_ (by intro _;rfl) (by passes_own);k_whole))
  k_with "execs cons" => (refine wpAny_execs_cons ?_;k_fold)
  k_with "exec For Name Call cons nil" => k_extra "M.for"
  intro C hd hu hw hi hl hret F N X T kG lG eL
  k_dflt (refine' bg_use ?k6 ?_;(case k6=>k_is);k_whole)
  have nd0 : NdA (List.map (·.1) ([] : List (Addr × Obj))):=trivial
  have hw' : g.IsList sA sv.toArray:=hw.at fun o e=>kG _ o e (by simp)
  have hlw:=hi.length
  (try dsimp only)
  k_steps
  refine' loop_range (σ:=List Value × List Int × Nat) (n:=min 24 ns.length) (fun c=>[(_,listOf c.1.toArray c.2.2)]) (fun _=>[]) [] (fun _ c=>IntsAre c.1 c.2.1 ∧ CellsOk c.2.1) (_,[12,20,34,3,7],_) rfl ?hr ?hn ?hb ?hF ?hN ownOff_nil (fun _=>rfl) ?hk ?hp ?turn ?done
  case hr=>assumption
  case hF=>assumption
  case hN=>assumption
  case hk=>intro _ h;cases h
  case hp=>exact ⟨by l_ints,⟨rfl,by dsimp only;decide⟩⟩
  case hn=>split <;> omega
  case hb=>split <;> omega
  case turn=>
    rintro ⟨vs,cs,nn⟩ i t u hh1 tk own hi2 hoff ⟨hI,hC⟩ F N
    dsimp only at hI hC F N hoff ⊢
    have hcl:=hC.len
    have hil:=hI.length
    k_steps
    refine' TEnd.intro (_,_,_) ?F ?N ?hl ?ho ?hk ?hr ?hP
    case F=>assumption
    case N=>assumption
    case hl=>k_allIn
    case ho=>intro p hp;repeat (first | exact hp | apply List.Mem.tail)
    case hk=>intro _ h;cases h
    case hr=>intro z h1 h2 h3;simp_all [kstB]
    case hP=>exact ⟨by assumption,hC.set _ (fmod_lo _ (by decide)) (fmod_hi _ (by decide))⟩
  case done=>
    rintro ⟨vs,cs,nn⟩ u hh1 tk ⟨hI,hC⟩ F N
    dsimp only at hI hC F N ⊢
    k_steps
    refine Leave.intro (by assumption) fun kp=>?_
    have N0:=N _ (.head _)
    refine hret _ vs cs nn _ _ hC hI (fresh_of N (.head _) kG (by simp)) N0.1 kp
theorem all : ∀ d,F d := eps_all (by with_unfolding_all exact core)
end T2k
theorem cells_spec {w : World} {mean : ExcName → Option Value} {mg mb : Str → Option Value} {h₀ : Heap} {s : Shared} {dp un : Nat} {fr : Option (List Env)} {gd : Option (List Code)} {Q E : Value → Shared → Prop}
  (C:Cx w mean mg mb h₀ s []) (hd : dp + 1 < recursionLimit) (hu : un + 8 < cLine)
  {sA : Addr} {sv : List Value} {ns : List Int}
  (hw : s.heap.IsList sA sv.toArray) (hi : IntsAre sv ns) (hl : ns.length ≤ 63)
  (hret : ∀ a cv cs n h' tk',CellsOk cs → IntsAre cv cs → s.heap.get? a = none → h'.get? a = some (listOf cv.toArray n) → Keep [] s { s with heap:=h',toks:=tk' } → Q (.ref a) { s with heap:=h',toks:=tk' }) :
  wpAny (model P0 w) (Ar dp fr gd un) (call (.ref 259) [.ref sA]) Q E s:=by
  have X0:=C.X
  k_dflt (refine' enter_def (binds:=[(Str.ofString "script",.ref sA)]) ?k1 ?k6 ?k7 ?k8 ?k9 ?kB ?_ ?c2 ?c3 ?c4 ?c5;k_extra "M.in")
  intro g L h F N X T kG lG eL
  refine' fn_get (T2k.all (sA,sv,ns,w,mean,mg,mb,h₀,s,dp,un,fr,gd,Q,g,L,h,_) C hd hu hw hi hl hret F N X T kG lG eL) ?ko
  case ko=>k_is
end

end
section
set_option maxRecDepth 100000
noncomputable def cl (x : Str) : Str := Str.ofString "</" ++ x ++ Str.ofString ">"
noncomputable def op (x : Str) : Str := Str.ofString "<" ++ x ++ Str.ofString ">"
noncomputable abbrev WP := List Str × List Str
noncomputable def popW (p : WP) : Nat → WP
  | 0=>p
  | j + 1=>((popW p j).1 ++ [cl ((popW p j).2.getLast?.getD Str.empty)],(popW p j).2.dropLast)
noncomputable def drawW (nm : Nat → Str) (cs : List Int) : Nat → WP
  | 0=>([],[])
  | k + 1 =>
    let q:=popW (drawW nm cs k) (Int.fmod (cs.getD k 0) ((drawW nm cs k).2.length + 1)).toNat
    (q.1 ++ [op (nm k)],q.2 ++ [nm k])
noncomputable def drawnW (nm : Nat → Str) (cs : List Int) (n : Nat) : List Str := (popW (drawW nm cs n) (drawW nm cs n).2.length).1
section
theorem len_lc : (Str.ofString "</").length = 2 := by decide +kernel
theorem len_lt : (Str.ofString "<").length = 1 := by decide +kernel
theorem len_gt : (Str.ofString ">").length = 1 := by decide +kernel
namespace T3k
noncomputable def PP (cA : Addr) (cv : List Value) (cs : List Int) (names : Str) (nt : Tok) (w : World) (mean : ExcName → Option Value) (mg : Str → Option Value) (mb : Str → Option Value) (h₀ : Heap) (s : Shared) (dp : Nat) (un : Nat) (fr : Option (List Env)) (gd : Option (List Code)) (Q : Value → Shared → Prop) (g : Heap) (L : Addr) (h : Heap) (tk0 : Tok) : Prop :=
  ∀ (C:Cx w mean mg mb h₀ s []) (hd : dp + 1 < recursionLimit) (hu : un + 8 < cLine) (hw : s.heap.IsList cA cv.toArray) (hi : IntsAre cv cs) (hc : CellsOk cs) (hn : names.length ≤ 5) (hret : ∀ a ws n h' tk',ws.map (·.1) = drawnW (fun k=>Txt.item names (k:Int)) cs names.length → s.heap.get? a = none → h'.get? a = some (listOf (svs ws).toArray n) → Keep [] s { s with heap:=h',toks:=tk' } → Q (.ref a) { s with heap:=h',toks:=tk' }),
  BGoal wpAny w mean mg mb s ([]) dp un fr gd 266 [(Str.ofString "cells",.ref cA),(Str.ofString "names",.str names nt)] Q g L h tk0
noncomputable def F := ucr fun cA=>ucr fun cv=>ucr fun cs=>ucr fun names=>ucr fun nt=>ucr fun w=>ucr fun mean=>ucr fun mg=>ucr fun mb=>ucr fun h₀=>ucr fun s=>ucr fun dp=>ucr fun un=>ucr fun fr=>ucr fun gd=>ucr fun Q=>ucr fun g=>ucr fun L=>ucr fun h tk0=>PP cA cv cs names nt w mean mg mb h₀ s dp un fr gd Q g L h tk0
noncomputable section
@[irreducible] def zz := eps ((0),([]),([]),(Str.empty),(0),d0) F
@[irreducible] def cA := zz.1
@[irreducible] def cv := zz.2.1
@[irreducible] def cs := zz.2.2.1
@[irreducible] def names := zz.2.2.2.1
@[irreducible] def nt := zz.2.2.2.2.1
@[irreducible] def w := zz.2.2.2.2.2.1
@[irreducible] def mean := zz.2.2.2.2.2.2.1
@[irreducible] def mg := zz.2.2.2.2.2.2.2.1
@[irreducible] def zz8 := zz.2.2.2.2.2.2.2.2
@[irreducible] def mb := zz8.1
@[irreducible] def h₀ := zz8.2.1
@[irreducible] def s := zz8.2.2.1
@[irreducible] def dp := zz8.2.2.2.1
@[irreducible] def un := zz8.2.2.2.2.1
@[irreducible] def fr := zz8.2.2.2.2.2.1
@[irreducible] def gd := zz8.2.2.2.2.2.2.1
@[irreducible] def Q := zz8.2.2.2.2.2.2.2.1
@[irreducible] def zz16 := zz8.2.2.2.2.2.2.2.2
@[irreducible] def g := zz16.1
@[irreducible] def L := zz16.2.1
@[irreducible] def h := zz16.2.2.1
@[irreducible] def tk0 := zz16.2.2.2
end
noncomputable def half : {M : Addr → Addr → SV → Nat → SV → Nat → Nat → Tok → (Str → Option Value) → Heap → Nat → (List (Addr × Obj)) → Prop // (∀ i1 i2 pl pn ws wn i t u hh1 tk own,M i1 i2 pl pn ws wn i t u hh1 tk own) → PP cA cv cs names nt w mean mg mb h₀ s dp un fr gd Q g L h tk0} := ⟨_,fun TT=>by
  k_with_none
  k_with "K.om" => first | exact lim1 (by assumption) (by decide) | exact lim2 (by assumption) (by decide) | exact lim3 (by assumption) (by decide) | exact lt_mem (by assumption) (by k_mem) | exact ne_mem (by assumption) (by k_mem) | exact Ne.symm (ne_mem (by assumption) (by k_mem)) | exact ne_mem2 (by assumption) (by k_mem) | exact Ne.symm (ne_mem2 (by assumption) (by k_mem)) | exact ne_L (by assumption) (by k_mem) | lia | omega (config:={}) | (k_extra "M.facts";omega (config:={}))
  k_with "K.ne" => (refine neN ?_;(try dsimp only);first | assumption | exact Ne.symm (by assumption) | exact ne_mem (by assumption) (by k_mem) | exact Ne.symm (ne_mem (by assumption) (by k_mem)) | exact ne_L (by assumption) (by k_mem) | exact Ne.symm (ne_L (by assumption) (by k_mem)) | omega)
  k_with "M.at" => first | exact AtP.head | (refine' AtP.tail ?kz;(case kz=>k_extra "M.at"))
  k_with "M.atF" => first | exact AtF.head | (refine' AtF.tail ?kz;(case kz=>k_extra "M.atF"))
  k_with "M.facts" => repeat (rename (∀ p ∈ (_:List (Addr × Obj)),p.1 < _)=>hraw;replace hraw:=allLt_of hraw;simp only [AllLt,and_true] at hraw)
  k_with "M.in" => ((case k1=>assumption);(case k6=>k_is);(case k7=>k_is);(case k8=>omega);(case k9=>exact BindsTo.of_eq rfl);(case c5=>decide);(case kB=>exact locs rfl);(case c2=>exact rfl);(case c3=>exact rfl);(case c4=>exact rfl);k_whole)
  k_with "M.for" => ((rename Fr _ _ _ _=>lF');(with_unfolding_all refine' for_V lF' (by exact rfl) (by exact rfl) ?_ (by intro _;rfl) (by passes_own);k_whole))
  k_with "execs cons" => (refine wpAny_execs_cons ?_;k_fold)
  k_with "execs cons Assign cons" => (refine wpAny_execs_cons ?_)
  k_with "binaryOp Add str str" => (refine add_str_ob ?_ ?_;intro _ _)
  k_with "exec While Compare cons nil" => (refine while_rule ?_)
  k_with "exec For Name Call cons nil" => k_extra "M.for"
  k_with "call builtin:list.append" => (k_dflt (refine' append_svs (by k_asm) (by k_asm) (by first | k_upd | skip) ?_ ?_;intro _ _ _;(try k_sweep)))
  k_with "call builtin:list.pop" => (k_dflt (refine' pop_svs (by k_asm) (by k_asm) (by first | k_upd | skip) ?_ ?_ ?_;rotate_left 2;intro _ _ _ _;(try k_sweep)))
  k_with "call builtin:len" => (k_dflt ((with_reducible show wpAny _ _ (call (Value.builtin "len") [Value.ref _]) _ _ _);refine' len_svs (by k_asm) (by k_mem) ?_ ?_;rotate_left;intro _ _))
  k_with "compareOp NotEq ref ref" => (k_dflt (refine' ne_nil_svs (by k_asm) (by k_mem) (by k_mem) (by (dsimp only [Around.deeper];omega)) ?_))
  intro C hd hu hw hi hc hn hret F N X T kG lG eL
  have k0 : PySem.Challenge.rw_if0027_01 = PySem.Challenge.rw_if0027_01:=rfl
  revert X k0;k_fill;intro X k0;clear k0
  k_dflt (refine' bg_use ?k6 ?_;(case k6=>k_is);k_whole)
  have nd0 : NdA (List.map (·.1) ([] : List (Addr × Obj))):=trivial
  have hw' : g.IsList cA cv.toArray:=hw.at fun o e=>kG _ o e (by simp)
  have hlw:=hi.length
  have hcl:=hc.len
  (try dsimp only)
  k_steps
  refine' loop_range (σ:=SV × Nat × SV × Nat) (n:=names.length) (fun c=>[(_,listOf (svs c.1).toArray c.2.1),(_,listOf (svs c.2.2.1).toArray c.2.2.2)]) (fun _=>[]) [Str.ofString "j"] (fun i c=>(c.2.2.1.map (·.1),c.1.map (·.1)) = drawW (fun k=>Txt.item names (k:Int)) cs i ∧ c.1.length ≤ i ∧ c.2.2.1.length ≤ 6 * i ∧ ∀ p ∈ c.1,p.1.length ≤ 1) ([],0,[],0) rfl ?hr ?hn ?hb ?hF ?hN ownOff_nil (fun _=>rfl) ?hk ?hp ?turn ?done
  case hr=>assumption
  case hF=>assumption
  case hN=>assumption
  case hk=>intro _ h;cases h
  case hp=>exact ⟨rfl,Nat.le_refl _,Nat.le_refl _,fun _ h=>nomatch h⟩
  case hn=>omega
  case hb=>omega
  case turn=>
    rintro ⟨pl,pn,ws,wn⟩ i t u hh1 tk own hi2 hoff ⟨hP,hP2,hP3,hP4⟩ F N
    dsimp only at hP hP2 hP3 hP4 F N hoff ⊢
    have hpl : pl.length = (drawW (fun k=>Txt.item names (k:Int)) cs i).2.length:=by rw [← hP];simp
    have hf0:=fmod_lo (cs.getD (0 + (i:Int)).toNat 0) (n:=(pl.length : Int) + 1) (by omega)
    have hf1:=fmod_hi (cs.getD (0 + (i:Int)).toNat 0) (n:=(pl.length : Int) + 1) (by omega)
    rename_i i1 _ _ _ _ i2 _ i3 _ _ _ _ _ _ _ _ _ _ _ _ _
    revert hw hi hc hn T kG X hw' hcl i3 qk ek hi2 hoff hP hP2 hP3 hP4 F N hpl hf0 hf1
    exact TT i1 i2 pl pn ws wn i t u hh1 tk own
  case done =>
    rintro ⟨pl,pn,ws,wn⟩ u hh1 tk ⟨hP,hP2,hP3,hP4⟩ F N
    dsimp only at hP hP2 hP3 hP4 F N ⊢
    k_steps
    refine' loop_while (σ:=SV × Nat × SV × Nat) (oth:=[]) (fun c=>[(_,listOf (svs c.1).toArray c.2.1),(_,listOf (svs c.2.2.1).toArray c.2.2.2)]) (fun _=>[]) [] (fun n c=>∃ j,(c.2.2.1.map (·.1),c.1.map (·.1)) = popW (drawW (fun k=>Txt.item names (k:Int)) cs names.length) j ∧ j + c.1.length = pl.length ∧ n = c.1.length ∧ c.2.2.1.length = ws.length + j ∧ ∀ p ∈ c.1,p.1.length ≤ 1) pl.length (pl,_,ws,_) ?whF ?whN ?whk ?whp ?wturn
    case whF=>assumption
    case whN=>assumption
    case whk=>intro _ h;cases h
    case whp=>exact ⟨0,hP,Nat.zero_add _,rfl,rfl,hP4⟩
    case wturn=>
      rintro ⟨pl',pn',ws',wn'⟩ n uj hj tkj ⟨j,hPj,hPj1,hPj2,hPj3,hPj4⟩ F N
      dsimp only [List.append_nil] at hPj hPj1 hPj2 hPj3 hPj4 F N ⊢
      rw [List.append_nil] at N
      have hll : pl' ≠ [] → ((pl'.map (·.1)).getLast?.getD Str.empty).length ≤ 1:=by
        intro hne
        rw [List.getLast?_map,List.getLast?_eq_some_getLast hne]
        exact hPj4 _ (List.getLast_mem hne)
      k_steps
      · refine Leave.intro (by assumption) fun kp => ?_
        (rename News _ _ _ _=>N2)
        have hz : pl' = []:=by (rename List.isEmpty pl' = true=>hE);exact List.isEmpty_iff.mp hE
        subst hz
        have hj5 : j = (drawW (fun k=>Txt.item names (k:Int)) cs names.length).2.length:=by
          rw [← hP];simp only [List.length_nil] at hPj1;simp only [List.length_map];omega
        have e1:=congrArg Prod.fst hPj
        dsimp only at e1
        refine hret _ ws' wn' _ _ ?_ (fresh_of N2 (.tail _ (.tail _ (.head _))) kG (by simp)) (N2 _ (.tail _ (.tail _ (.head _)))).1 kp
        rw [e1,hj5];rfl
      · refine' WEnd.intro (_, _, _, _) ?F ?N ?hl ?ho ?hk ?hr ?hP
        case F=>assumption
        case N=>assumption
        case hl=>k_allIn
        case ho=>intro _ h;cases h
        case hk=>intro _ h;cases h
        case hr=>intro z h2 h3;(try simp at h3);(try simp at h2);first | simp [kstB,h2,h3] | simp [kstB,h3] | simp [kstB,h2] | simp_all [kstB]
        case hP=>
          have hne : pl' ≠ []:=by rintro rfl;(rename List.isEmpty [] = false=>hE);exact Bool.noConfusion hE
          have hpos : 0 < pl'.length:=List.length_pos_iff.mpr hne
          refine ⟨pl'.length - 1,by omega,j + 1,?_,?_,?_,?_,fun p hp=>hPj4 p (List.dropLast_subset _ hp)⟩
          · have e1 := congrArg Prod.fst hPj
            have e2:=congrArg Prod.snd hPj
            dsimp only at e1 e2
            show _ = ((popW (drawW (fun k=>Txt.item names (k:Int)) cs names.length) j).1 ++ [cl ((popW (drawW (fun k=>Txt.item names (k:Int)) cs names.length) j).2.getLast?.getD Str.empty)],(popW (drawW (fun k=>Txt.item names (k:Int)) cs names.length) j).2.dropLast)
            rw [← e1,← e2]
            simp [cl,List.map_dropLast]
          · simp only [List.length_dropLast];omega
          · simp only [List.length_dropLast]
          · simp only [List.length_append,List.length_singleton];omega
      · show _ ≤ _;rw [sizeLine_eq];omega
      · have:=hll (by rintro rfl;(rename List.isEmpty [] = false=>hE);exact Bool.noConfusion hE);show _ ≤ _;rw [sizeLine_eq,str_len_append,len_lc,len_gt];omega
      · have:=hll (by rintro rfl;(rename List.isEmpty [] = false=>hE);exact Bool.noConfusion hE);show _ ≤ _;rw [sizeLine_eq,len_lc];omega
      · show _ ≠ _;rintro rfl;(rename List.isEmpty [] = false=>hE);exact Bool.noConfusion hE
      · show _ ≤ _;rw [sizeLine_eq];omega⟩
namespace b
noncomputable def F := ucr fun i1=>ucr fun i2=>ucr fun pl=>ucr fun pn=>ucr fun ws=>ucr fun wn=>ucr fun i=>ucr fun t=>ucr fun u=>ucr fun hh1=>ucr fun tk own=>half.1 i1 i2 pl pn ws wn i t u hh1 tk own
noncomputable section
@[irreducible] def zz := eps (0,0,[],0,[],0,0,0,(fun _=>none : Str → Option Value),{},0,[]) F
@[irreducible] def i1 := zz.1
@[irreducible] def i2 := zz.2.1
@[irreducible] def pl := zz.2.2.1
@[irreducible] def pn := zz.2.2.2.1
@[irreducible] def ws := zz.2.2.2.2.1
@[irreducible] def wn := zz.2.2.2.2.2.1
@[irreducible] def i := zz.2.2.2.2.2.2.1
@[irreducible] def t := zz.2.2.2.2.2.2.2.1
@[irreducible] def zz8 := zz.2.2.2.2.2.2.2.2
@[irreducible] def u := zz8.1
@[irreducible] def hh1 := zz8.2.1
@[irreducible] def tk := zz8.2.2.1
@[irreducible] def own := zz8.2.2.2
end
theorem core : half.1 i1 i2 pl pn ws wn i t u hh1 tk own := by
  intro hw hi hc hn T kG X hw' hcl i3 qk ek hi2 hoff hP hP2 hP3 hP4 F N hpl hf0 hf1
  k_steps
  · refine' loop_range (σ := SV × Nat × SV × Nat) (n := (Int.fmod (cs.getD (0 + (i : Int)).toNat 0) ((pl.length : Int) + 1)).toNat) (fun c => [(_, listOf (svs c.1).toArray c.2.1), (_, listOf (svs c.2.2.1).toArray c.2.2.2)]) (fun _ => []) [] (fun j c => (c.2.2.1.map (·.1), c.1.map (·.1)) = popW (ws.map (·.1), pl.map (·.1)) j ∧ c.1.length + j = pl.length ∧ c.2.2.1.length = ws.length + j ∧ ∀ p ∈ c.1, p.1.length ≤ 1) (pl, _, ws, _) rfl ?jhr ?jhn ?jhb ?jhF ?jhN hoff (fun _ => rfl) ?jhk ?jhp ?jturn ?jdone
    case jhr=>assumption
    case jhF=>assumption
    case jhN=>assumption
    case jhk=>intro _ h;cases h
    case jhp=>exact ⟨rfl,rfl,rfl,hP4⟩
    case jhn=>rw [Int.sub_zero]
    case jhb=>omega
    case jturn=>
      rintro ⟨pl',pn',ws',wn'⟩ j tj uj hj tkj own2 hj2 hoff2 ⟨hPj,hPj2,hPj3,hPj4⟩ F N
      dsimp only at hPj hPj2 hPj3 hPj4 F N hoff2 ⊢
      have hne : pl' ≠ []:=by intro e;subst e;simp only [List.length_nil] at hPj2;omega
      have hll : ((pl'.map (·.1)).getLast?.getD Str.empty).length ≤ 1:=by
        rw [List.getLast?_map,List.getLast?_eq_some_getLast hne]
        exact hPj4 _ (List.getLast_mem hne)
      k_steps
      · refine' TEnd.intro (_, _, _, _) ?F ?N ?hl ?ho ?hk ?hr ?hP
        case F=>assumption
        case N=>assumption
        case hl=>k_allIn
        case ho=>intro p hp;repeat (first | exact hp | apply List.Mem.tail)
        case hk=>intro _ h;cases h
        case hr=>intro z h1 h2 h3;(try simp at h3);(try simp at h2);first | simp [kstB,h1,h2,h3] | simp [kstB,h1,h3] | simp [kstB,h1,h2] | simp [kstB,h1] | simp_all [kstB]
        case hP=>
          refine ⟨?_,?_,?_,fun p hp=>hPj4 p (List.dropLast_subset _ hp)⟩
          · have e1 := congrArg Prod.fst hPj
            have e2:=congrArg Prod.snd hPj
            dsimp only at e1 e2
            show _ = ((popW (ws.map (·.1),pl.map (·.1)) j).1 ++ [cl ((popW (ws.map (·.1),pl.map (·.1)) j).2.getLast?.getD Str.empty)],(popW (ws.map (·.1),pl.map (·.1)) j).2.dropLast)
            rw [← e1,← e2]
            simp [cl,List.map_dropLast]
          · simp only [List.length_dropLast];omega
          · simp only [List.length_append,List.length_singleton];omega
      · show _ ≤ _;rw [sizeLine_eq];omega
      · show _ ≤ _;rw [sizeLine_eq,str_len_append,len_lc,len_gt];omega
      · show _ ≤ _;rw [sizeLine_eq,len_lc];omega
      · exact hne
      · show _ ≤ _;rw [sizeLine_eq];omega
    case jdone=>
      rintro ⟨pl',pn',ws',wn'⟩ uj hj tkj ⟨hPj,hPj2,hPj3,hPj4⟩ F N
      dsimp only at hPj hPj2 hPj3 hPj4 F N ⊢
      k_steps
      · refine' TEnd.intro (_, _, _, _) ?F ?N ?hl ?ho ?hk ?hr ?hP
        case F=>assumption
        case N=>assumption
        case hl=>k_allIn
        case ho=>intro p hp;repeat (first | exact hp | apply List.Mem.tail)
        case hk=>intro _ h;cases h
        case hr=>intro z h1 h2 h3;(try simp at h3);(try simp at h2);first | simp [kstB,h1,h2,h3] | simp [kstB,h1,h3] | simp [kstB,h1,h2] | simp [kstB,h1] | simp_all [kstB]
        case hP=>
          have e0 : (0 + (i:Int)) = (i:Int):=by omega
          refine ⟨?_,?_,?_,?_⟩
          · have e1 := congrArg Prod.fst hPj
            have e2:=congrArg Prod.snd hPj
            dsimp only at e1 e2
            have e3 : (((drawW (fun k=>Txt.item names (k:Int)) cs i).2.length : Nat) : Int) = (pl.length : Int):=by rw [hpl]
            show _ = ((popW (drawW (fun k=>Txt.item names (k:Int)) cs i) _).1 ++ [op (Txt.item names (i:Int))],(popW (drawW (fun k=>Txt.item names (k:Int)) cs i) _).2 ++ [Txt.item names (i:Int)])
            rw [e3,← hP]
            rw [e0,Int.toNat_natCast] at e1 e2
            rw [← e1,← e2]
            simp [op,e0]
          · simp only [List.length_append,List.length_singleton];omega
          · simp only [List.length_append,List.length_singleton];omega
          · intro p hp
            rcases List.mem_append.mp hp with hp | hp
            · exact hPj4 p hp
            · rw [List.mem_singleton.mp hp];show (Txt.item names (0 + (i:Int))).length ≤ 1;omega
      · show _ ≤ _;rw [sizeLine_eq];omega
      · show _ ≤ _;rw [sizeLine_eq];omega
      · show _ ≤ _;rw [sizeLine_eq,str_len_append,len_lt,len_gt];omega
      · show _ ≤ _;rw [sizeLine_eq,len_lt];omega
  · show _ < _;omega
theorem all : ∀ d,F d := eps_all (by with_unfolding_all exact core)
end b
theorem core : PP cA cv cs names nt w mean mg mb h₀ s dp un fr gd Q g L h tk0 := half.2 fun i1 i2 pl pn ws wn i t u hh1 tk own=>b.all (i1,i2,pl,pn,ws,wn,i,t,u,hh1,tk,own)
theorem all : ∀ d,F d := eps_all (by with_unfolding_all exact core)
end T3k
theorem drawn_spec {w : World} {mean : ExcName → Option Value} {mg mb : Str → Option Value} {h₀ : Heap} {s : Shared} {dp un : Nat} {fr : Option (List Env)} {gd : Option (List Code)} {Q E : Value → Shared → Prop}
  (C:Cx w mean mg mb h₀ s []) (hd : dp + 1 < recursionLimit) (hu : un + 8 < cLine)
  {cA : Addr} {cv : List Value} {cs : List Int} {names : Str} {nt : Tok}
  (hw : s.heap.IsList cA cv.toArray) (hi : IntsAre cv cs) (hc : CellsOk cs) (hn : names.length ≤ 5)
  (hret : ∀ a ws n h' tk',ws.map (·.1) = drawnW (fun k=>Txt.item names (k:Int)) cs names.length → s.heap.get? a = none → h'.get? a = some (listOf (svs ws).toArray n) → Keep [] s { s with heap:=h',toks:=tk' } → Q (.ref a) { s with heap:=h',toks:=tk' }) :
  wpAny (model P0 w) (Ar dp fr gd un) (call (.ref 266) [.ref cA,.str names nt]) Q E s:=by
  have X0:=C.X
  have k0 : PySem.Challenge.rw_if0027_01 = PySem.Challenge.rw_if0027_01:=rfl
  revert X0 k0;k_fill;intro X0 k0;clear k0
  k_dflt (refine' enter_def (binds:=[(Str.ofString "cells",.ref cA),(Str.ofString "names",.str names nt)]) ?k1 ?k6 ?k7 ?k8 ?k9 ?kB ?_ ?c2 ?c3 ?c4 ?c5;k_extra "M.in")
  intro g L h F N X T kG lG eL
  refine' fn_get (T3k.all (cA,cv,cs,names,nt,w,mean,mg,mb,h₀,s,dp,un,fr,gd,Q,g,L,h,_) C hd hu hw hi hc hn hret F N X T kG lG eL) ?ko
  case ko=>k_is
end

end
section
section
set_option maxRecDepth 100000 in
theorem read_spec {w : World} {mean : ExcName → Option Value} {mg mb : Str → Option Value} {h₀ : Heap} {s : Shared} {dp un : Nat} {fr : Option (List Env)} {gd : Option (List Code)} {Q E : Value → Shared → Prop}
  {pl cp ct f c : Addr} {tx : Str} {tt tp : Tok} {p np : Nat} {oct ocp occ : Obj} {nm qual : Str} {ps : Arguments} {bd : List Stmt} {sc : Scope} {doc pm ctv : Value} {vs : Array Value} {tq : Tok} {u1 : Tok}
  (C:Cx w mean mg mb h₀ s [(pl,listOf #[.int (p:Int) tp] np),(cp,ocp),(ct,oct),(f,fnMade nm qual ps bd sc [(Str.ofString "text",ct),(Str.ofString "place",cp)] doc pm c ctv),(c,occ)]) (hd : dp + 4 < recursionLimit) (hu : un + 20 < cLine)
  (hCH : CodeHd h₀ 293 289) (hR : nestedIn (Mine.hd.heap_1 w.params) 294 = some (nm,ps,bd,sc)) (hct : oct.data = .cell (some (.str tx tt))) (hcp : ocp.data = .cell (some (.ref pl))) (hcc : occ.data = .fields vs) (hcv : vs[1]? = some (.str qual tq))
  (hne : pl ≠ cp ∧ pl ≠ ct ∧ pl ≠ f ∧ pl ≠ c) (hp : p < 100000) (hlen : tx.length < 100000)
  (hret : ∀ h' tk' t' tp' np',h'.get? pl = some (listOf #[.int ((p:Int) + ((Txt.slice tx (some (p:Int)) (some ((p:Int) + 1))).length : Int)) tp'] np') → Keep [pl] s { s with heap:=h',toks:=tk' } → Q (.str (Txt.slice tx (some (p:Int)) (some ((p:Int) + 1))) t') { s with heap:=h',toks:=tk' }) :
  wpAny (model P0 w) (Ar dp fr gd un) (call (.ref f) [.int 1 u1]) Q E s:=by
  k_with_none
  k_with "K.om" => first | exact lim1 (by assumption) (by decide) | exact lim2 (by assumption) (by decide) | exact lim3 (by assumption) (by decide) | exact lt_mem (by assumption) (by k_mem) | exact ne_mem (by assumption) (by k_mem) | exact Ne.symm (ne_mem (by assumption) (by k_mem)) | exact ne_mem2 (by assumption) (by k_mem) | exact Ne.symm (ne_mem2 (by assumption) (by k_mem)) | exact ne_L (by assumption) (by k_mem) | lia | omega (config:={}) | (k_extra "M.facts";omega (config:={}))
  k_with "K.ne" => (refine neN ?_;(try dsimp only);first | assumption | exact Ne.symm (by assumption) | exact ne_mem (by assumption) (by k_mem) | exact Ne.symm (ne_mem (by assumption) (by k_mem)) | exact ne_L (by assumption) (by k_mem) | exact Ne.symm (ne_L (by assumption) (by k_mem)) | omega)
  k_with "M.at" => first | exact AtP.head | (refine' AtP.tail ?kz;(case kz=>k_extra "M.at"))
  k_with "M.atF" => first | exact AtF.head | (refine' AtF.tail ?kz;(case kz=>k_extra "M.atF"))
  k_with "M.facts" => (k_dflt (repeat (rename (∀ p ∈ (_:List (Addr × Obj)),p.1 < _)=>hraw;replace hraw:=allLt_of hraw;(try simp only [AllLt,and_true] at hraw))))
  k_with "M.inN" => ((case k8=>omega);(case k9=>exact BindsTo.of_eq rfl);(case c5=>decide);(case kB=>exact locs rfl);(case c2=>exact rfl);(case c3=>exact rfl);(case c4=>exact rfl);k_whole)
  k_with "call ref" => ((with_reducible show wpAny _ _ (call (Value.ref 98) _) _ _ _);k_dflt (refine' call_join98 (by k_asm) (by k_asm) (by assumption) (by k_mem) ?_ ?_;rotate_left;intro _ _))
  k_with "call ref" => ((with_reducible show wpAny _ _ (call (Value.ref _) [Value.str _ _]) _ _ _);k_dflt (refine' call_bd_K (by k_asm) (by k_asm) (by k_mem) (by k_upd) ?_ ?_;intro _ _ _;(try k_sweep)))
  k_with "call builtin:list.append" => (k_dflt (refine' append_svs (by k_asm) (by k_asm) (by k_upd) ?_ ?_;intro _ _ _;(try k_sweep)))
  have X0:=C.X.keeps C.st
  refine' nest_at ?ka hR ?_
  case ka=>k_is
  intro hR2
  have hR3:=Option.some.inj (show some (_,_,_,_) = some (nm,ps,bd,sc) from hR2)
  refine obAAA (and4_of hR3) ?_;intro oR0 oR1 oR2 oR3;subst oR0;subst oR1;subst oR2;subst oR3
  clear hR hR2 hR3
  k_dflt (refine wpAny_call (enter_codeN (binds:=[(Str.ofString "size",.int 1 u1)]) C (List.Mem.tail _ (List.Mem.tail _ (List.Mem.tail _ (List.Mem.head _)))) ?k7 ?k8 ?k9 ?kB ?_ ?c2 ?c3 ?c4 ?c5);k_extra "M.inN")
  case k7=>exact ⟨c,occ,vs,tq,rfl,(C.U (c,occ) (List.Mem.tail _ (List.Mem.tail _ (List.Mem.tail _ (List.Mem.tail _ (List.Mem.head _)))))).1,hcc,hcv⟩
  intro g L h F N X TP kG lG eL
  k_lt lG
  refine obAAA hne ?_;clear hne;intro n1 n2 n3 n4
  replace n1:=neN n1;replace n2:=neN n2;replace n3:=neN n3;replace n4:=neN n4
  clear X0
  (try dsimp only)
  (try k_fold)
  replace hCH : CodeHd g 293 289:=hCH.keeps fun b o e=>kG b o (C.st b o e) fun hb=>by
    refine obEA (List.mem_map.mp hb) ?_;intro p hp oR2;subst oR2
    rw [(C.U p hp).2] at e;cases e
  k_steps
  refine Leave.intro (by assumption) fun kp=>?_
  (rename News _ _ _ _=>N2)
  exact hret _ _ _ _ _ (at_of N2 (List.Mem.head _)) (keep_less (fun p hp=>(C.U p hp).1) (fun p hp hw=>by
    rcases List.mem_cons.mp hp with rfl | hp
    · exact absurd (List.Mem.head _) hw
    · exact (N2 p (List.Mem.tail _ hp)).1) kp)
end

end
section
section
noncomputable abbrev nxEnts (p : Params) (t0 t1 t2 t3 tl tw : Tok) (ln : Int) (fp : Value) (pb : Addr) : List DictEntry :=
  [{ hash := PyData.keyHash p (Str.ofString "lineno"), key := .str (Str.ofString "lineno") t0, val := .int ln tl },
   { hash:=PyData.keyHash p (Str.ofString "instream"),key:=.str (Str.ofString "instream") t1,val:=fp },
   { hash:=PyData.keyHash p (Str.ofString "whitespace"),key:=.str (Str.ofString "whitespace") t2,val:=.str (Str.ofString "\n\t\r ") tw },
   { hash:=PyData.keyHash p (Str.ofString "pushback"),key:=.str (Str.ofString "pushback") t3,val:=.ref pb }]
set_option maxRecDepth 100000 in
theorem nx_init {w : World} {mean : ExcName → Option Value} {mg mb : Str → Option Value} {h₀ : Heap} {s : Shared} {dp un : Nat} {fr : Option (List Env)} {gd : Option (List Code)} {R : Result → Shared → Prop}
  {x dx : Addr} {fp : Value}
  (C:Cx w mean mg mb h₀ s [(x,instObj 206 dx),(dx,dictOf [] 0)]) (hd : dp + 1 < recursionLimit) (hu : un + 8 < cLine) (hxd : dx < x)
  (hret : ∀ (pb : Addr) (t0 t1 t2 t3 tl tw : Tok) (pn c : Nat) h' tk',
    h'.get? dx = some (dictOf (nxEnts w.params t0 t1 t2 t3 tl tw 1 fp pb) c) → h'.get? x = some (instObj 206 dx) → h'.get? pb = some (listOf #[] pn) → x < pb → s.heap.get? pb = none →
    Keep [x,dx] s { s with heap:=h',toks:=tk' } → R (.ok (.ret .none)) { s with heap:=h',toks:=tk' })
  :
  codeAny (model P0 w) (Ar dp fr gd un) (.call (.ref 182) ⟨[.ref x,fp],[]⟩) R s:=by
  k_with_none
  k_with "K.om" => first | exact lim1 (by assumption) (by decide) | exact lim2 (by assumption) (by decide) | exact lim3 (by assumption) (by decide) | exact lt_mem (by assumption) (by k_mem) | exact ne_mem (by assumption) (by k_mem) | exact Ne.symm (ne_mem (by assumption) (by k_mem)) | exact ne_mem2 (by assumption) (by k_mem) | exact Ne.symm (ne_mem2 (by assumption) (by k_mem)) | exact ne_L (by assumption) (by k_mem) | lia | omega (config:={}) | (k_extra "M.facts";omega (config:={}))
  k_with "K.ne" => (refine neN ?_;(try dsimp only);first | assumption | exact Ne.symm (by assumption) | exact ne_mem (by assumption) (by k_mem) | exact Ne.symm (ne_mem (by assumption) (by k_mem)) | exact ne_L (by assumption) (by k_mem) | exact Ne.symm (ne_L (by assumption) (by k_mem)) | omega)
  k_with "M.at" => first | exact AtP.head | (refine' AtP.tail ?kz;(case kz=>k_extra "M.at"))
  k_with "M.atF" => first | exact AtF.head | (refine' AtF.tail ?kz;(case kz=>k_extra "M.atF"))
  k_with "M.facts" => (k_dflt (repeat (rename (∀ p ∈ (_:List (Addr × Obj)),p.1 < _)=>hraw;replace hraw:=allLt_of hraw;(try simp only [AllLt,and_true] at hraw))))
  k_with "M.in" => ((case k1=>assumption);(case k6=>k_is);(case k7=>k_is);(case k8=>omega);(case k9=>first | exact BindsTo.of_eq rfl | exact binds_K (by k_in) rfl (by k_is) rfl rfl rfl | (refine' kp_binds (by k_in) (by exact fun _=>rfl)));(case c5=>decide);(case kB=>exact locs rfl);(case c2=>exact rfl);(case c3=>exact rfl);(case c4=>exact rfl);k_whole)
  k_with "call ref" => ((with_reducible show wpAny _ _ (call (Value.ref 98) _) _ _ _);k_dflt (refine' call_join98 (by k_asm) (by k_asm) (by assumption) (by k_mem) ?_ ?_;rotate_left;intro _ _))
  k_with "call ref" => ((with_reducible show wpAny _ _ (call (Value.ref _) [Value.str _ _]) _ _ _);k_dflt (refine' call_bd_K (by k_asm) (by k_asm) (by k_mem) (by k_upd) ?_ ?_;intro _ _ _;(try k_sweep)))
  k_with "call builtin:list.append" => (k_dflt (refine' append_svs (by k_asm) (by k_asm) (by k_upd) ?_ ?_;intro _ _ _;(try k_sweep)))
  have X0:=C.X.keeps C.st
  k_dflt (refine' enter_code (binds:=[(Str.ofString "self",.ref x),(Str.ofString "fp",fp)]) ?k1 ?k6 ?k7 ?k8 ?k9 ?kB ?_ ?c2 ?c3 ?c4 ?c5;k_extra "M.in")
  intro g L h F N X T kG lG eL
  k_lt lG
  k_lt2 hxd
  clear X0
  (try dsimp only)
  (try k_fold)
  k_steps
  refine Leave.intro (by assumption) fun kp=>?_
  (rename News _ _ _ _=>N2)
  show R (.ok (.ret .none)) _
  refine' hret _ _ _ _ _ _ _ _ _ _ _ ?za ?zb ?zc ?zo ?zq kp
  case za=>exact at_of N2 (by k_mem)
  case zb=>exact at_of N2 (by k_mem)
  case zc=>exact at_of N2 (by k_mem)
  case zo=>exact ltN (by omega)
  case zq=>
    refine fresh_of N2 (by k_mem) kG ?_;simp only [List.map_cons,List.map_nil,List.mem_cons,List.not_mem_nil,or_false,not_or];exact ⟨neN (by omega),neN (by omega)⟩
theorem new_lexer {w : World} {mean : ExcName → Option Value} {mg mb : Str → Option Value} {h₀ : Heap} {s : Shared} {dp un : Nat} {fr : Option (List Env)} {gd : Option (List Code)} {Q E : Value → Shared → Prop} {L : Addr} {m : Str → Option Value} {rest : List (Addr × Obj)} {fp : Value}
    (X : (Mine.hd.heap_1 w.params).In h₀) (TP : Top topProg Lz mean mg mb h₀) (F:Fr h₀ L s.heap m) (N:News h₀ L s.heap rest) (hd : dp + 9 < recursionLimit) (hu : un + 20 < cLine)
    (h : ∀ (x dx pb : Addr) (t0 t1 t2 t3 tl tw : Tok) (pn c : Nat) h' tk',Fr h₀ L h' m → News h₀ L h' ((pb,listOf #[] pn) :: (x,instObj 206 dx) :: (dx,dictOf (nxEnts w.params t0 t1 t2 t3 tl tw 1 fp pb) c) :: rest) → (∀ p ∈ rest,p.1 < dx) → dx < x → x < pb → Q (.ref x) { s with heap:=h',toks:=tk' }) :
    wpAny (model P0 w) (Ar dp fr gd un) (call (.ref 206) [fp]) Q E s:=by
  have X0:=X.keeps F.keep
  refine call_cls (K:=Mine.hd.heap_1 w.params) (C:=206) (fI:=182) F X N (by k_is) (by k_is) (by k_is) ?_
  intro x dx h1 F1 N1 l1 l2
  show codeAny _ _ _ _ _
  refine nx_init (mean:=mean) (mg:=mg) (mb:=mb) (h₀:=h₀) (x:=x) (dx:=dx) (s:={ s with heap:=h1 }) (Cx.of X TP F1 N1 (U:=[(x,instObj 206 dx),(dx,dictOf [] 0)]) (fun p hp=>?_)) ?_ ?_ l2 ?_
  · simp only [List.mem_cons, List.not_mem_nil, or_false] at hp ⊢
    rcases hp with rfl | rfl <;> simp
  · show dp + _ + 1 < _
    have e : (Code.builtin "type.__call__" ⟨[.ref 206,fp],[]⟩).weight ≤ 5:=Nat.le_of_ble_eq_true (by rfl)
    omega
  · show un + _ + 8 < _
    have e : (Code.builtin "type.__call__" ⟨[.ref 206,fp],[]⟩).cUnits ≤ 5:=Nat.le_of_ble_eq_true (by rfl)
    omega
  intro pb t0 t1 t2 t3 tl tw pn c h2 tk2 a1 a2 a3 ord fresh kp
  refine ⟨rfl,?_⟩
  have F2:=after_fr F1 (W:=[x,dx]) (fun a ha=>by
    simp only [List.mem_cons,List.not_mem_nil,or_false] at ha
    rcases ha with rfl | rfl
    · exact (N1 (_,instObj 206 dx) (List.Mem.head _)).2
    · exact (N1 (_,dictOf [] 0) (List.Mem.tail _ (List.Mem.head _))).2) kp
  have N2:=after_news (rest:=rest) (new:=[(pb,listOf #[] pn),(x,instObj 206 dx),(dx,dictOf (nxEnts w.params t0 t1 t2 t3 tl tw 1 fp pb) c)]) F1 N1 kp (fun p hp=>by
      have h3 : p.1 < dx:=l1 p hp
      refine ⟨List.Mem.tail _ (List.Mem.tail _ hp),?_⟩
      simp only [List.mem_cons,List.not_mem_nil,or_false,not_or]
      exact ⟨fun e=>absurd (e ▸ h3 : x < dx) (Nat.not_lt.mpr (Nat.le_of_lt l2)),fun e=>absurd (e ▸ h3 : dx < dx) (Nat.lt_irrefl _)⟩) (fun p hp=>by
      simp only [List.mem_cons,List.not_mem_nil,or_false] at hp
      rcases hp with rfl | rfl | rfl
      · exact ⟨a3,.inr fresh⟩
      · exact ⟨a2,.inl (N1 (_,instObj 206 dx) (List.Mem.head _)).2⟩
      · exact ⟨a1,.inl (N1 (_,dictOf [] 0) (List.Mem.tail _ (List.Mem.head _))).2⟩)
  exact h x dx pb t0 t1 t2 t3 tl tw pn c h2 tk2 F2 N2 l1 l2 ord
end

end
section
open PySem PySem.W PyProof.Rows PySem.Calls PySem.Builtin PySem.Builtin.Str
set_option maxRecDepth 100000
noncomputable def chAt (x : Str) (p : Nat) : Str := Txt.slice x (some (p : Int)) (some ((p : Int) + 1))
theorem range_one (p : Nat) : sliceRange (p : Int) ((p : Int) + 1) 1 = [p] := by
  unfold sliceRange
  have e1 : (if (1:Int) > 0 then (if (p:Int) < (p:Int) + 1 then ((p:Int) + 1 - (p:Int) + 1 - 1) / 1 else 0) else (if (p:Int) > (p:Int) + 1 then ((p:Int) - ((p:Int) + 1) - 1 - 1) / (-1) else 0)) = 1:=by
    rw [if_pos (by decide),if_pos (by omega),Int.ediv_one];omega
  simp only [e1]
  show List.map _ (List.range 1) = _
  show [((p:Int) + 1 * ((0:Nat) : Int)).toNat] = [p]
  congr 1
theorem range_nil {a b : Int} (h : b ≤ a) : sliceRange a b 1 = [] := by
  unfold sliceRange
  have e1 : (if (1:Int) > 0 then (if a < b then (b - a + 1 - 1) / 1 else 0) else (if a > b then (a - b - 1 - 1) / (-1) else 0)) = 0:=by
    rw [if_pos (by decide),if_neg (by omega)]
  simp only [e1]
  rfl
theorem idx_one (p n : Nat) : strSliceIndices (some (p : Int)) (some ((p : Int) + 1)) 1 n = if p < n then [p] else [] := by
  unfold strSliceIndices
  dsimp only
  rw [if_pos (by decide : (1:Int) > 0),if_pos (by decide : (1:Int) > 0),if_neg (by omega : ¬ ((p:Int) < 0)),if_neg (by omega : ¬ ((p:Int) + 1 < 0))]
  by_cases h : p < n
  · rw [if_pos h, show max 0 (min (p : Int) (n : Int)) = (p : Int) by omega, show max 0 (min ((p : Int) + 1) (n : Int)) = (p : Int) + 1 by omega]
    exact range_one p
  · rw [if_neg h]
    exact range_nil (by omega)
theorem chAt_some {x : Str} {p c : Nat} (h : x.cps[p]? = some c) : chAt x p = ⟨#[c]⟩ := by
  have hlt : p < x.length:=(Array.getElem?_eq_some_iff.mp h).1
  unfold chAt Txt.slice
  rw [idx_one,if_pos hlt]
  split
  · rename_i h1
    have h2 : x.length = 1:=(by simpa using h1.symm : _ = x.length).symm
    have hp : p = 0:=by omega
    subst hp
    refine obE (one_of h2) ?_;intro d oR1;subst oR1
    have : d = c:=by simpa using h
    rw [this]
  · have e : List.filterMap (fun i => x.cps[i]?) [p] = [c] := by simp [h]
    show Str.mk (List.filterMap (fun i=>x.cps[i]?) [p]).toArray = _
    rw [e]
theorem chAt_none {x : Str} {p : Nat} (h : x.cps[p]? = none) : chAt x p = Str.empty := by
  have hlt : ¬ p < x.length:=Nat.not_lt.mpr (Array.getElem?_eq_none_iff.mp h)
  unfold chAt Txt.slice
  rw [idx_one,if_neg hlt]
  split
  · rename_i h1
    have h2 : x.length = 0:=(by simpa using h1.symm : _ = x.length).symm
    obtain ⟨a⟩:=x
    have h3 : a = #[]:=Array.eq_empty_of_size_eq_zero h2
    rw [h3];rfl
  · rfl
theorem chAt_le (x : Str) (p : Nat) : (chAt x p).length ≤ 1 := by
  cases h : x.cps[p]? with
  | none=>rw [chAt_none h];exact Nat.zero_le _
  | some c=>rw [chAt_some h];exact Nat.le_refl _

end
section
set_option maxRecDepth 100000
section
structure NA where
  (ct cp pl c f sdx src ldx lex pb2 pb1 : Addr)
structure NT where
  (tx : Str) (tt : Tok) (oct ocp occ : Obj) (nm qual : Str) (ps : Arguments) (bd : List Stmt) (sc : Scope) (doc pm ctv : Value) (a0 a1 a2 a3 a4 al aw b0 b1 b2 b3 bw : Tok) (cs n2 : Nat)
structure NV where
  (p:Nat) (tp : Tok) (np : Nat) (ln : Int) (tl : Tok) (cl : Nat)
noncomputable abbrev srcEnts (p : Params) (A : NA) (T : NT) : List DictEntry :=
  [{ hash := PyData.keyHash p (Str.ofString "lineno"), key := .str (Str.ofString "lineno") T.a0, val := .int 1 T.al },
   { hash:=PyData.keyHash p (Str.ofString "instream"),key:=.str (Str.ofString "instream") T.a1,val:=.none },
   { hash:=PyData.keyHash p (Str.ofString "whitespace"),key:=.str (Str.ofString "whitespace") T.a2,val:=.str (Str.ofString "\n\t\r ") T.aw },
   { hash:=PyData.keyHash p (Str.ofString "pushback"),key:=.str (Str.ofString "pushback") T.a3,val:=.ref A.pb1 },
   { hash:=PyData.keyHash p (Str.ofString "read"),key:=.str (Str.ofString "read") T.a4,val:=.ref A.f }]
noncomputable abbrev lexEnts (p : Params) (A : NA) (T : NT) (V : NV) : List DictEntry := nxEnts p T.b0 T.b1 T.b2 T.b3 V.tl T.bw V.ln (.ref A.src) A.pb2
noncomputable abbrev nLed (p : Params) (A : NA) (T : NT) (V : NV) : List (Addr × Obj) :=
  [(A.pl, listOf #[.int (V.p : Int) V.tp] V.np), (A.ldx, dictOf (lexEnts p A T V) V.cl), (A.lex, instObj 206 A.ldx), (A.pb2, listOf #[] T.n2), (A.src, instObj 206 A.sdx), (A.sdx, dictOf (srcEnts p A T) T.cs),
   (A.cp,T.ocp),(A.ct,T.oct),(A.f,fnMade T.nm T.qual T.ps T.bd T.sc [(Str.ofString "text",A.ct),(Str.ofString "place",A.cp)] T.doc T.pm A.c T.ctv),(A.c,T.occ)]
structure NOrd (A : NA) : Prop where
  o1 : A.ct < A.cp
  o2 : A.cp < A.pl
  o3 : A.pl < A.f
  o5 : A.f < A.sdx
  o6 : A.sdx < A.src
  o7 : A.src < A.ldx
  o8 : A.ldx < A.lex
  o9 : A.lex < A.pb2
  nc : ∀ a ∈ [A.ct,A.cp,A.pl,A.f,A.sdx,A.src,A.ldx,A.lex,A.pb2],A.c ≠ a
structure NOk (w : World) (A : NA) (T : NT) : Prop where
  nest : nestedIn (Mine.hd.heap_1 w.params) 294 = some (T.nm,T.ps,T.bd,T.sc)
  ct : T.oct.data = .cell (some (.str T.tx T.tt))
  cp : T.ocp.data = .cell (some (.ref A.pl))
  cc : ∃ vs t,T.occ.data = .fields vs ∧ vs[1]? = some (.str T.qual t)
  len : T.tx.length < 1000
theorem set_ln {w : World} {h₀ : Heap} {s : Shared} {L : Addr} {E : Value → Shared → Prop} {A : Around} {news news' : List (Addr × Obj)} {m : Str → Option Value} {t0 t1 t2 t3 tl tl' tw : Tok} {ln ln' : Int} {fp : Value} {pb x dx : Addr} {ox : Obj} {n : Nat} {Q : Unit → Shared → Prop} (F : Fr h₀ L s.heap m) (X₀ : (Mine.hd.heap_1 w.params).In h₀) (N : News h₀ L s.heap news) (I : InstAt s.heap x ox 206 (some (dictOf (nxEnts w.params t0 t1 t2 t3 tl tw ln fp pb) n))) (hd : ox.dict = some dx) (hs : findIn (Mine.hd.heap_1 w.params) (.ref 206) "__setattr__" = some (some (.builtin "object.__setattr__"))) (hp : plainOver (Mine.hd.heap_1 w.params) 206 = true) (ht : takerIn (Mine.hd.heap_1 w.params) 206 (Str.ofString "lineno") = some none) (hh : hasDictIn (Mine.hd.heap_1 w.params) 206 = true)
    (U:Upd dx (dictOf (nxEnts w.params t0 t1 t2 t3 tl tw ln fp pb) n) (dictOf (nxEnts w.params t0 t1 t2 t3 tl' tw ln' fp pb) n) news news') (h : ∀ h',Fr h₀ L h' m → News h₀ L h' news' → Q () { s with heap:=h',toks:=s.toks + 2 }) :
    wpAny (model P0 w) A (setAttr (.ref x) (Str.ofString "lineno") (.int ln' tl')) Q E s:=
  set_dict F X₀ N I hd hs hp ht hh (by rfl) (by rfl) U (Nat.le_of_ble_eq_true rfl) h
namespace X6k
noncomputable def PP (ct : Addr) (cp : Addr) (pl : Addr) (c : Addr) (f : Addr) (sdx : Addr) (src : Addr) (ldx : Addr) (lex : Addr) (pb2 : Addr) (pb1 : Addr) (p : Nat) (tp : Tok) (np : Nat) (ln : Int) (tl : Tok) (cl : Nat) (T : NT) (w : World) (mean : ExcName → Option Value) (mg : Str → Option Value) (mb : Str → Option Value) (h₀ : Heap) (s : Shared) (dp : Nat) (un : Nat) (fr : Option (List Env)) (gd : Option (List Code)) (R : Result → Shared → Prop) (g : Heap) (L : Addr) (h : Heap) (tk0 : Tok) : Prop :=
  ∀ (C : Cx w mean mg mb h₀ s (nLed w.params (⟨ct, cp, pl, c, f, sdx, src, ldx, lex, pb2, pb1⟩ : NA) T (⟨p, tp, np, ln, tl, cl⟩ : NV))) (hd : dp + 8 < recursionLimit) (hu : un + 40 < cLine) (hO : NOrd (⟨ct, cp, pl, c, f, sdx, src, ldx, lex, pb2, pb1⟩ : NA)) (hK : NOk w (⟨ct, cp, pl, c, f, sdx, src, ldx, lex, pb2, pb1⟩ : NA) T) (hCH : CodeHd h₀ 293 289) (hp : p < 1000) (hln : 0 ≤ ln ∧ ln < 1000) (hret : ∀ h' tk' t' tp' np' tl' cl', (∀ q ∈ nLed w.params (⟨ct, cp, pl, c, f, sdx, src, ldx, lex, pb2, pb1⟩ : NA) T ⟨p + (chAt T.tx p).length, tp', np', ln + (if (chAt T.tx p == Str.ofString "\n") = true then 1 else 0), tl', cl'⟩, h'.get? q.1 = some q.2) →
    Keep [pl,ldx] s { s with heap:=h',toks:=tk' } → R (.ok (.ret (.str (chAt T.tx p) t'))) { s with heap:=h',toks:=tk' }),
  BGoal wpAny w mean mg mb s (nLed w.params (⟨ct,cp,pl,c,f,sdx,src,ldx,lex,pb2,pb1⟩ : NA) T (⟨p,tp,np,ln,tl,cl⟩ : NV)) dp un fr gd 189 [(Str.ofString "self",.ref lex)] (fun v s'=>R (.ok (.ret v)) s') g L h tk0
noncomputable def F := ucr fun ct=>ucr fun cp=>ucr fun pl=>ucr fun c=>ucr fun f=>ucr fun sdx=>ucr fun src=>ucr fun ldx=>ucr fun lex=>ucr fun pb2=>ucr fun pb1=>ucr fun p=>ucr fun tp=>ucr fun np=>ucr fun ln=>ucr fun tl=>ucr fun cl=>ucr fun T=>ucr fun w=>ucr fun mean=>ucr fun mg=>ucr fun mb=>ucr fun h₀=>ucr fun s=>ucr fun dp=>ucr fun un=>ucr fun fr=>ucr fun gd=>ucr fun R=>ucr fun g=>ucr fun L=>ucr fun h tk0=>PP ct cp pl c f sdx src ldx lex pb2 pb1 p tp np ln tl cl T w mean mg mb h₀ s dp un fr gd R g L h tk0
noncomputable section
@[irreducible] def zz := eps ((0),(0),(0),(0),(0),(0),(0),(0),(0),(0),(0),(0),(0),(0),(0),(0),(0),(⟨Str.empty,0,listOf #[] 0,listOf #[] 0,listOf #[] 0,Str.empty,Str.empty,⟨[],[],none,[],[],none,[]⟩,[],⟨.function,[],false,false,[]⟩,.none,.none,.none,0,0,0,0,0,0,0,0,0,0,0,0,0,0⟩),d0R) F
@[irreducible] def ct := zz.1
@[irreducible] def cp := zz.2.1
@[irreducible] def pl := zz.2.2.1
@[irreducible] def c := zz.2.2.2.1
@[irreducible] def f := zz.2.2.2.2.1
@[irreducible] def sdx := zz.2.2.2.2.2.1
@[irreducible] def src := zz.2.2.2.2.2.2.1
@[irreducible] def ldx := zz.2.2.2.2.2.2.2.1
@[irreducible] def zz8 := zz.2.2.2.2.2.2.2.2
@[irreducible] def lex := zz8.1
@[irreducible] def pb2 := zz8.2.1
@[irreducible] def pb1 := zz8.2.2.1
@[irreducible] def p := zz8.2.2.2.1
@[irreducible] def tp := zz8.2.2.2.2.1
@[irreducible] def np := zz8.2.2.2.2.2.1
@[irreducible] def ln := zz8.2.2.2.2.2.2.1
@[irreducible] def tl := zz8.2.2.2.2.2.2.2.1
@[irreducible] def zz16 := zz8.2.2.2.2.2.2.2.2
@[irreducible] def cl := zz16.1
@[irreducible] def T := zz16.2.1
@[irreducible] def w := zz16.2.2.1
@[irreducible] def mean := zz16.2.2.2.1
@[irreducible] def mg := zz16.2.2.2.2.1
@[irreducible] def mb := zz16.2.2.2.2.2.1
@[irreducible] def h₀ := zz16.2.2.2.2.2.2.1
@[irreducible] def s := zz16.2.2.2.2.2.2.2.1
@[irreducible] def zz24 := zz16.2.2.2.2.2.2.2.2
@[irreducible] def dp := zz24.1
@[irreducible] def un := zz24.2.1
@[irreducible] def fr := zz24.2.2.1
@[irreducible] def gd := zz24.2.2.2.1
@[irreducible] def R := zz24.2.2.2.2.1
@[irreducible] def g := zz24.2.2.2.2.2.1
@[irreducible] def L := zz24.2.2.2.2.2.2.1
@[irreducible] def h := zz24.2.2.2.2.2.2.2.1
@[irreducible] def zz32 := zz24.2.2.2.2.2.2.2.2
@[irreducible] def tk0 := zz32
end
theorem core : PP ct cp pl c f sdx src ldx lex pb2 pb1 p tp np ln tl cl T w mean mg mb h₀ s dp un fr gd R g L h tk0 := by
  k_with_none
  k_with "getMethod ref" => (k_dflt (refine' kmu_own (by k_asm) (by k_asm) (by k_inst) (by k_is) (by k_is) ?_;k_whole))
  k_with "K.om" => first | exact lim1 (by assumption) (by decide) | exact lim2 (by assumption) (by decide) | exact lim3 (by assumption) (by decide) | exact lt_mem (by assumption) (by k_mem) | exact ne_mem (by assumption) (by k_mem) | exact Ne.symm (ne_mem (by assumption) (by k_mem)) | exact ne_mem2 (by assumption) (by k_mem) | exact Ne.symm (ne_mem2 (by assumption) (by k_mem)) | exact ne_L (by assumption) (by k_mem) | lia | omega (config:={}) | (k_extra "M.facts";omega (config:={}))
  k_with "K.ne" => (refine neN ?_;(try dsimp only);first | assumption | exact Ne.symm (by assumption) | exact ne_mem (by assumption) (by k_mem) | exact Ne.symm (ne_mem (by assumption) (by k_mem)) | exact ne_L (by assumption) (by k_mem) | exact Ne.symm (ne_L (by assumption) (by k_mem)) | omega)
  k_with "M.at" => first | exact AtP.head | (refine' AtP.tail ?kz;(case kz=>k_extra "M.at"))
  k_with "M.atF" => first | exact AtF.head | (refine' AtF.tail ?kz;(case kz=>k_extra "M.atF"))
  k_with "M.facts" => repeat (rename (∀ p ∈ (_:List (Addr × Obj)),p.1 < _)=>hraw;replace hraw:=allLt_of hraw;simp only [AllLt,and_true] at hraw)
  k_with "M.in" => ((case k1=>assumption);(case k6=>k_is);(case k7=>k_is);(case k8=>omega);(case k9=>first | exact BindsTo.of_eq rfl | exact binds_K (by k_in) rfl (by k_is) rfl rfl rfl | (refine' kp_binds (by k_in) (by exact fun _=>rfl)));(case c5=>decide);(case kB=>exact locs rfl);(case c2=>exact rfl);(case c3=>exact rfl);(case c4=>exact rfl);k_whole)
  k_with "execs cons" => (refine wpAny_execs_cons ?_;k_fold)
  k_with "call ref" => ((with_reducible show wpAny _ _ (call (Value.ref 98) _) _ _ _);k_dflt (refine' call_join98 (by k_asm) (by k_asm) (by assumption) (by k_mem) ?_ ?_;rotate_left;intro _ _))
  k_with "call ref" => ((with_reducible show wpAny _ _ (call (Value.ref _) [Value.str _ _]) _ _ _);k_dflt (refine' call_bd_K (by k_asm) (by k_asm) (by k_mem) (by first | k_upd | skip) ?_ ?_;intro _ _ _;(try k_sweep)))
  k_with "call builtin:list.append" => (k_dflt (refine' append_svs (by k_asm) (by k_asm) (by first | k_upd | skip) ?_ ?_;intro _ _ _;(try k_sweep)))
  k_with "call ref" => ((with_reducible show wpAny _ _ (call (Value.ref _) [Value.int 1 _]) _ _ _);refine hold ?_)
  k_with "setAttr ref" => (k_dflt (refine' set_ln (by k_asm) (by assumption) (by k_asm) (by k_inst) (by exact rfl) (by k_is) (by k_is) (by k_is) (by k_is) (by first | k_upd | skip) ?_;intro _ _ _;(try k_sweep)))
  intro C hd hu hO hK hCH hp hln hret F N X TP kG lG eL
  obtain ⟨o1,o2,o3,o5,o6,o7,o8,o9,nc⟩:=hO
  obtain ⟨k1,k2,k3,⟨vs,tq,k4,k5⟩,k6⟩:=hK
  dsimp only [nLed,lexEnts,nxEnts,srcEnts] at *
  k_lt2 o1;k_lt2 o2;k_lt2 o3;k_lt2 o5;k_lt2 o6;k_lt2 o7;k_lt2 o8;k_lt2 o9
  simp only [List.mem_cons,List.not_mem_nil,or_false,forall_eq_or_imp,forall_eq] at nc
  refine obAAAAAAAA nc ?_;clear nc;intro u1 u2 u3 u4 u5 u6 u7 u8 u9
  replace u1:=neN u1;replace u2:=neN u2;replace u3:=neN u3;replace u4:=neN u4;replace u5:=neN u5;replace u6:=neN u6;replace u7:=neN u7;replace u8:=neN u8;replace u9:=neN u9
  k_dflt (refine' bg_use ?k6 ?_;(case k6=>k_is);k_whole)
  (try dsimp only [nLed,lexEnts,nxEnts,srcEnts] at N kG lG ⊢)
  k_lt lG
  (try dsimp only)
  replace hCH : CodeHd g 293 289:=hCH.keeps fun b o e=>kG b o (C.st b o e) fun hb=>by
    refine obEA (List.mem_map.mp hb) ?_;intro p hp oR2;subst oR2
    rw [(C.U p hp).2] at e;cases e
  k_steps
  (rename Fr _ _ _ _=>F5)
  (rename News _ _ _ _=>N5)
  show wpAny _ _ _ _ _ _
  have hU2 : ∀ q ∈ [(pl,listOf #[.int (p:Int) tp] np),(cp,T.ocp),(ct,T.oct),(f,fnMade T.nm T.qual T.ps T.bd T.sc [(Str.ofString "text",ct),(Str.ofString "place",cp)] T.doc T.pm c T.ctv),(c,T.occ)],NewsMem N5 q:=by dsimp only [NewsMem];k_allIn
  refine' read_spec (mean:=mean) (mg:=mg) (mb:=mb) (h₀:=g) (pl:=pl) (cp:=cp) (ct:=ct) (f:=f) (c:=c) (p:=p) (Cx.of X TP F5 N5 hU2) ?d2 ?u2 hCH k1 k2 k3 k4 k5 ⟨neN (by omega),neN (by omega),neN (by omega),neN (by omega)⟩ ?p2 ?l2 ?ret2
  case d2=>(try dsimp only [Around.deeper]);omega
  case u2=>(try dsimp only [Around.deeper]);omega
  case p2=>show p < 100000;omega
  case l2=>omega
  intro h' tk' t' tp' np' hpl kp
  obtain ⟨F6,N6⟩:=step_after (W:=[pl]) (new:=[(pl,listOf #[.int ((p:Int) + ((chAt T.tx p).length : Int)) tp'] np')]) (rest:=[(ldx,dictOf (nxEnts w.params T.b0 T.b1 T.b2 T.b3 tl T.bw ln (.ref src) pb2) cl),(lex,instObj 206 ldx),(pb2,listOf #[] T.n2),(src,instObj 206 sdx),(sdx,dictOf (srcEnts w.params ⟨ct,cp,pl,c,f,sdx,src,ldx,lex,pb2,pb1⟩ T) T.cs),
   (cp, T.ocp), (ct, T.oct), (f, fnMade T.nm T.qual T.ps T.bd T.sc [(Str.ofString "text", ct), (Str.ofString "place", cp)] T.doc T.pm c T.ctv), (c, T.occ)]) F5 N5 kp (by dsimp only [List.map]; intro a ha; obtain rfl := List.mem_singleton.mp ha; k_mem)
    (by
      intro q hq
      refine ⟨by revert q hq;k_allIn,?_⟩
      simp only [List.mem_cons,List.not_mem_nil,or_false] at hq ⊢
      rcases hq with rfl | rfl | rfl | rfl | rfl | rfl | rfl | rfl | rfl <;> exact neN (by omega))
    (fun q hq=>by obtain rfl:=List.mem_singleton.mp hq;exact hpl) (by dsimp only [List.map];intro a ha;obtain rfl:=List.mem_singleton.mp ha;exact .inl (by k_mem))
  dsimp only [nxEnts,srcEnts,List.cons_append,List.nil_append] at N6
  clear hU2
  clear N5 F5
  have ech : Txt.slice T.tx (some (p:Int)) (some ((p:Int) + 1)) = chAt T.tx p:=rfl
  rw [ech]
  have hcl : (chAt T.tx p).length ≤ 1:=chAt_le _ _
  k_steps
  · refine Leave.intro (by assumption) fun kp8 => ?_
    (rename News _ _ _ _=>N9)
    show R (.ok (.ret (.str (chAt T.tx p) t'))) _
    refine' hret _ _ _ _ _ _ _ ?w1 (keep_less (fun q hq=>(C.U q hq).1) ?w2 kp8)
    case w1=>
      rw [if_pos (by assumption)]
      exact fun q hq=>(N9 q (by revert q hq;k_allIn)).1
    case w2=>
      intro q hq hw
      simp only [List.mem_cons,List.not_mem_nil,or_false] at hq
      rcases hq with rfl | rfl | rfl | rfl | rfl | rfl | rfl | rfl | rfl | rfl <;> first | (exfalso;apply hw;simp;done) | exact at_of N9 (by k_mem)
  · refine Leave.intro (by assumption) fun kp8 => ?_
    (rename News _ _ _ _=>N9)
    show R (.ok (.ret (.str (chAt T.tx p) t'))) _
    refine' hret _ _ _ _ _ _ _ ?w3 (keep_less (fun q hq=>(C.U q hq).1) ?w4 kp8)
    case w3=>
      rw [if_neg (by simp_all),Int.add_zero]
      exact fun q hq=>(N9 q (by revert q hq;k_allIn)).1
    case w4=>
      intro q hq hw
      simp only [List.mem_cons,List.not_mem_nil,or_false] at hq
      rcases hq with rfl | rfl | rfl | rfl | rfl | rfl | rfl | rfl | rfl | rfl <;> first | (exfalso;apply hw;simp;done) | exact at_of N9 (by k_mem)
theorem all : ∀ d,F d := eps_all (by with_unfolding_all exact core)
end X6k
theorem read_char {w : World} {mean : ExcName → Option Value} {mg mb : Str → Option Value} {h₀ : Heap} {s : Shared} {dp un : Nat} {fr : Option (List Env)} {gd : Option (List Code)} {R : Result → Shared → Prop}
  {A:NA} {T:NT} {V:NV}
  (C:Cx w mean mg mb h₀ s (nLed w.params A T V)) (hd : dp + 8 < recursionLimit) (hu : un + 40 < cLine) (hO : NOrd A) (hK : NOk w A T) (hCH : CodeHd h₀ 293 289) (hp : V.p < 1000) (hln : 0 ≤ V.ln ∧ V.ln < 1000)
  (hret : ∀ h' tk' t' tp' np' tl' cl',(∀ q ∈ nLed w.params A T ⟨V.p + (chAt T.tx V.p).length,tp',np',V.ln + (if (chAt T.tx V.p == Str.ofString "\n") = true then 1 else 0),tl',cl'⟩,h'.get? q.1 = some q.2) →
    Keep [A.pl,A.ldx] s { s with heap:=h',toks:=tk' } → R (.ok (.ret (.str (chAt T.tx V.p) t'))) { s with heap:=h',toks:=tk' }) :
  codeAny (model P0 w) (Ar dp fr gd un) (.call (.ref 189) ⟨[.ref A.lex],[]⟩) R s:=by
  have X0:=C.X.keeps C.st
  k_dflt (refine' enter_code (binds:=[(Str.ofString "self",.ref A.lex)]) ?k1 ?k6 ?k7 ?k8 ?k9 ?kB ?_ ?c2 ?c3 ?c4 ?c5;k_extra "M.in")
  intro g L h F N X TP kG lG eL
  refine' fn_get (X6k.all (A.ct,A.cp,A.pl,A.c,A.f,A.sdx,A.src,A.ldx,A.lex,A.pb2,A.pb1,V.p,V.tp,V.np,V.ln,V.tl,V.cl,T,w,mean,mg,mb,h₀,s,dp,un,fr,gd,R,g,L,h,_) C hd hu hO hK hCH hp hln hret F N X TP kG lG eL) ?ko
  case ko=>k_is
end

end
section
set_option maxRecDepth 100000
section
variable {w : World} {mean : ExcName → Option Value} {mg mb : Str → Option Value} {h₀ : Heap} {s : Shared} {dp un : Nat} {fr : Option (List Env)} {gd : Option (List Code)} {E : Value → Shared → Prop} {L it bm : Addr} {m : Str → Option Value} {rest : List (Addr × Obj)} {A : NA} {T : NT} {V : NV} {ts : Tok} {Q : Option Value → Shared → Prop}
theorem fn189 {h : Heap} (X : (Mine.hd.heap_1 w.params).In h) : ∃ of fd,(Mine.hd.heap_1 w.params).lookup 189 = some of ∧ of.data = .func fd := by
  apply Exists.intro
  apply Exists.intro
  apply And.intro
  · k_is
  · exact rfl
theorem call_iter3 {P0' : Program} {A' : Around} {h₀ : Heap} {m : Str → Option Value} {news : List (Addr × Obj)} {f bm0 : Addr} {t : Tok} {self : Value} {Q : Value → Shared → Prop} (F : Fr h₀ L s.heap m) (N : News h₀ L s.heap news) (hm : (bm0,methodObj (.ref f) self) ∈ news)
    (h : ∀ bm it h',bm = bm0 → Fr h₀ L h' m → News h₀ L h' ((it,ciObj (.ref bm0) t) :: news) → (∀ p ∈ news,p.1 < it) → Q (.ref it) { s with heap:=h' }) :
    wpAny (model P0' w) A' (call (.builtin "iter") [.ref bm0,.str (Str.ofString "") t]) Q E s:=call_iter2 F N hm fun it h' F N l=>h bm0 it h' rfl F N l
noncomputable abbrev gLed (p : Params) (A : NA) (T : NT) (V : NV) (it bm : Addr) (ci : Obj) (rest : List (Addr × Obj)) : List (Addr × Obj) := (it,ci) :: (bm,methodObj (.ref 189) (.ref A.lex)) :: (nLed p A T V ++ rest)
theorem next_lx (X : (Mine.hd.heap_1 w.params).In h₀) (TP : Top topProg Lz mean mg mb h₀) (F : Fr h₀ L s.heap m) (N : News h₀ L s.heap (gLed w.params A T V it bm (ciObj (.ref bm) ts) rest))
    (hd : dp + 12 < recursionLimit) (hu : un + 60 < cLine) (hO : NOrd A) (hK : NOk w A T) (hCH : CodeHd h₀ 293 289) (hp : V.p < 1000) (hln : 0 ≤ V.ln ∧ V.ln < 1000)
    (hi : ∀ q ∈ (bm,methodObj (.ref 189) (.ref A.lex)) :: (nLed w.params A T V ++ rest),q.1 ≠ it) (hb : bm ≠ A.pl ∧ bm ≠ A.ldx) (hr : ∀ q ∈ rest,q.1 ≠ A.pl ∧ q.1 ≠ A.ldx)
    (h1 : ∀ c h' tk' tc V',T.tx.cps[V.p]? = some c → V'.p = V.p + 1 → V'.ln = V.ln + (if c = 10 then 1 else 0) → Fr h₀ L h' m → News h₀ L h' (gLed w.params A T V' it bm (ciObj (.ref bm) ts) rest) → Q (some (.str ⟨#[c]⟩ tc)) { s with heap:=h',toks:=tk' })
    (h2 : ∀ h' tk' V',T.tx.cps[V.p]? = none → V'.p = V.p → V'.ln = V.ln → Fr h₀ L h' m → News h₀ L h' (gLed w.params A T V' it bm ciEnd rest) → Q none { s with heap:=h',toks:=tk' }) :
    wpAny (model P0 w) (Ar dp fr gd un) (pyNext (.ref it)) Q E s:=by
  refine obEEA (fn189 X) ?_;intro of fd hf hfd
  have gi:=N _ (List.Mem.head _)
  have gb:=N _ (List.Mem.tail _ (List.Mem.head _))
  have hU : ∀ q ∈ nLed w.params A T V,NewsMem N q:=fun q hq=>List.Mem.tail _ (List.Mem.tail _ (List.mem_append_left _ hq))
  have gf : s.heap.get? 189 = some of:=F.keep _ _ (X _ _ hf)
  refine next_ci (f:=189) rfl gi.1 gb.1 gf hfd ?_
  show codeAny (model P0 w) (Ar dp fr gd (un + 1)) _ _ _
  refine read_char (mean:=mean) (mg:=mg) (mb:=mb) (h₀:=h₀) (A:=A) (T:=T) (V:=V) (Cx.of X TP F N hU) (by omega) (by omega) hO hK hCH hp hln ?_
  intro h' tk' t' tp' np' tl' cl' hw kp
  have hW : ∀ a ∈ [A.pl,A.ldx],a ∈ (gLed w.params A T V it bm (ciObj (.ref bm) ts) rest).map (·.1):=by
    intro a ha
    simp only [List.mem_cons,List.not_mem_nil,or_false] at ha
    rcases ha with rfl | rfl
    · exact List.Mem.tail _ (List.Mem.tail _ (List.Mem.head _))
    · exact List.Mem.tail _ (List.Mem.tail _ (List.Mem.tail _ (List.Mem.head _)))
  have iN : it ≠ A.pl ∧ it ≠ A.ldx:=⟨fun e=>hi (A.pl,_) (List.Mem.tail _ (List.Mem.head _)) e.symm,fun e=>hi (A.ldx,_) (List.Mem.tail _ (List.Mem.tail _ (List.Mem.head _))) e.symm⟩
  have two : ∀ {a:Addr},a ≠ A.pl ∧ a ≠ A.ldx → a ∉ [A.pl,A.ldx]:=fun h hm=>by
    simp only [List.mem_cons,List.not_mem_nil,or_false] at hm
    exact hm.elim h.1 h.2
  obtain ⟨F2,N2⟩:=step_after (s':={ s with heap:=h',toks:=tk' }) (W:=[A.pl,A.ldx]) (new:=nLed w.params A T ⟨V.p + (chAt T.tx V.p).length,tp',np',V.ln + (if (chAt T.tx V.p == Str.ofString "\n") = true then 1 else 0),tl',cl'⟩)
    (rest:=(it,ciObj (.ref bm) ts) :: (bm,methodObj (.ref 189) (.ref A.lex)) :: rest) F N kp hW
    (all_cons ⟨List.Mem.head _,two iN⟩ (all_cons ⟨List.Mem.tail _ (List.Mem.head _),two hb⟩ (fun q hq=>⟨List.Mem.tail _ (List.Mem.tail _ (List.mem_append_right _ hq)),two (hr q hq)⟩)))
    hw (fun a ha=>.inl (List.Mem.tail _ (List.Mem.tail _ (by
      rw [List.map_append]
      exact List.mem_append_left _ ha))))
  have mv : ∀ {V' : NV} {H:Heap},News h₀ L H (nLed w.params A T V' ++ ((it,ciObj (.ref bm) ts) :: (bm,methodObj (.ref 189) (.ref A.lex)) :: rest)) → News h₀ L H (gLed w.params A T V' it bm (ciObj (.ref bm) ts) rest):=fun M q hq=>M q (by
    rcases List.mem_cons.mp hq with rfl | hq
    · exact List.mem_append_right _ (List.Mem.head _)
    rcases List.mem_cons.mp hq with rfl | hq
    · exact List.mem_append_right _ (List.Mem.tail _ (List.Mem.head _))
    rcases List.mem_append.mp hq with hq | hq
    · exact List.mem_append_left _ hq
    · exact List.mem_append_right _ (List.Mem.tail _ (List.Mem.tail _ hq)))
  have N3:=mv N2
  refine ⟨_,_,rfl,(N3 _ (List.Mem.head _)).1,(N3 _ (List.Mem.tail _ (List.Mem.head _))).1,F2.keep _ _ (X _ _ hf),fun hne=>?_,fun he h'' tk'' hx hi''=>?_⟩
  · cases hc : T.tx.cps[V.p]? with
    | none=>exact absurd (chAt_none hc) hne
    | some c =>
      have e:=chAt_some hc
      have en : (if (chAt T.tx V.p == Str.ofString "\n") = true then (1:Int) else 0) = if c = 10 then 1 else 0:=by
        rw [e,show Str.ofString "\n" = ⟨#[10]⟩ by decide +kernel]
        by_cases h10 : c = 10
        · subst h10;rfl
        · rw [if_neg h10, if_neg]
          intro q
          have:=eq_of_beq q
          injection this with q2
          injection q2 with q3
          injection q3 with q4
          exact h10 q4
      rw [e]
      refine h1 c _ _ _ _ hc ?_ ?_ F2 N3
      · show V.p + _ = _;rw [e];rfl
      · show V.ln + _ = _;rw [en]
  · cases hc : T.tx.cps[V.p]? with
    | some c=>rw [chAt_some hc] at he;exact absurd (congrArg Str.length he) (by show ¬ (1 = 0);decide)
    | none =>
      have e:=chAt_none hc
      have hk3 : ∀ q ∈ (bm,methodObj (.ref 189) (.ref A.lex)) :: (nLed w.params A T ⟨V.p + (chAt T.tx V.p).length,tp',np',V.ln + (if (chAt T.tx V.p == Str.ofString "\n") = true then 1 else 0),tl',cl'⟩ ++ rest),q.1 ≠ it:=by
        intro q hq
        rcases List.mem_cons.mp hq with rfl | hq
        · exact hi _ (List.Mem.head _)
        rcases List.mem_append.mp hq with hq | hq
        · have : q.1 ∈ (nLed w.params A T V).map (·.1) := List.mem_map_of_mem (f := (·.1)) hq
          refine obEA (List.mem_map.mp this) ?_;intro q' hq' e'
          rw [← e']
          exact hi q' (List.Mem.tail _ (List.mem_append_left _ hq'))
        · exact hi q (List.Mem.tail _ (List.mem_append_right _ hq))
      refine h2 h'' _ _ hc ?_ ?_ ⟨F2.ns.at' fun o eo=>hx _ o (Ne.symm gi.2.1) eo,fun b o eo=>hx b o (fun q=>by rw [q,gi.2.2] at eo;cases eo) (F2.keep b o eo),F2.above⟩ (all_cons ⟨hi'',gi.2⟩ fun q hq=>⟨hx _ _ (hk3 q hq) (N3 q (List.Mem.tail _ hq)).1,(N3 q (List.Mem.tail _ hq)).2⟩)
      · show V.p + _ = _;rw [e];rfl
      · show V.ln + _ = _;rw [e,if_neg (by decide +kernel)];omega
theorem mkG {h : Heap} {news : List (Addr × Obj)} {ci : Obj} {p : Params} (N : News h₀ L h news) (h1 : (it,ci) ∈ news) (h2 : (bm,methodObj (.ref 189) (.ref A.lex)) ∈ news) (h3 : ∀ q ∈ nLed p A T V,q ∈ news) : News h₀ L h (gLed p A T V it bm ci []) := fun q hq=>N q (by
  rcases List.mem_cons.mp hq with rfl | hq
  · exact h1
  rcases List.mem_cons.mp hq with rfl | hq
  · exact h2
  exact h3 q (by rw [List.append_nil] at hq;exact hq))
theorem gN {h : Heap} {ci : Obj} {p : Params} (N : News h₀ L h (gLed p A T V it bm ci rest)) : ∀ q ∈ nLed p A T V,h.get? q.1 = some q.2 := fun q hq=>(N q (List.Mem.tail _ (List.Mem.tail _ (List.mem_append_left _ hq)))).1
theorem keep_nled {s' : Shared} {V' : NV} {p : Params} (hU : ∀ q ∈ nLed p A T V,s.heap.get? q.1 = some q.2) (hw : ∀ q ∈ nLed p A T V',s'.heap.get? q.1 = some q.2) (kp : Keep ((nLed p A T V).map (·.1)) s s') : Keep [A.pl,A.ldx] s s' := by
  refine keep_less hU (fun q hq hn=>?_) kp
  simp only [nLed,List.mem_cons,List.not_mem_nil,or_false] at hq
  rcases hq with rfl | rfl | hq
  · exact absurd (List.Mem.head _) hn
  · exact absurd (List.Mem.tail _ (List.Mem.head _)) hn
  · refine hw q ?_
    simp only [nLed,List.mem_cons,List.not_mem_nil,or_false]
    exact .inr (.inr hq)
end
section
variable {prog : Program} {w : World} {A : Around} {E : Value → Shared → Prop} {s : Shared} {env : Env} {x : Str} {px : Pos} {body : List Stmt} {Q : Flow → Shared → Prop} {it : Addr}
theorem loop_gen {J : Nat → Shared → Prop} {o : Obj} (ho : s.heap.get? it = some o) (hc : o.cls = .type "callable_iterator") (n₀ : Nat) (h0 : J n₀ s)
    (turn : ∀ n s,J n s → wpAny (model prog w) A (pyNext (.ref it)) (fun r s₁=>match r with
      | none=>Q .next s₁
      | some v=>wpAny (model prog w) A (storeName env x v) (fun _ s₂=>wpAny (model prog w) A (execs body env) (TPost (fun s₃=>∃ m,m < n ∧ J m s₃) Q) E s₂) E s₁) E s)
    (hE : PassesOwn (model prog w) A env E:=by passes_own) :
    IterG prog w A env x px body Q E (.ref it) s:=by
  refine pyIter_ci ho hc ?_
  refine codeAny_forLoop J ?_ n₀ h0
  intro n s hJ
  refine wpAny_mono (wpAny_passesOwn hE (turn n s hJ)) (fun r s₁ h₁=>?_) fun _ _ e=>e
  cases r with
  | none=>exact wpAny_execs_nil h₁
  | some v =>
    refine wpAny_assign_Name (wpAny_mono (wpAny_passesOwn hE h₁) (fun _ s₂ h₂=>?_) fun _ _ e=>e)
    refine wpAny_mono (wpAny_passesOwn hE h₂) (fun f s₃ h₃=>?_) fun _ _ e=>e
    cases f <;> exact h₃
theorem fr_kst {h₀ h : Heap} {L : Addr} {m : Str → Option Value} {ps : List (Str × Value)} (F : Fr h₀ L h m) (hk : ∀ p ∈ ps,m p.1 = some p.2) : Fr h₀ L h (kstB m ps) := by
  have e : kstB m ps = m:=funext fun z=>kstB_eq hk fun _=>rfl
  rw [e];exact F
end

end
section
set_option maxRecDepth 100000
section
namespace X8k
noncomputable def PP (ct : Addr) (cp : Addr) (pl : Addr) (c : Addr) (f : Addr) (sdx : Addr) (src : Addr) (ldx : Addr) (lex : Addr) (pb2 : Addr) (pb1 : Addr) (p : Nat) (tp : Tok) (np : Nat) (ln : Int) (tl : Tok) (cl : Nat) (T : NT) (w : World) (mean : ExcName → Option Value) (mg : Str → Option Value) (mb : Str → Option Value) (h₀ : Heap) (s : Shared) (dp : Nat) (un : Nat) (fr : Option (List Env)) (gd : Option (List Code)) (Q : Value → Shared → Prop) (g : Heap) (L : Addr) (h : Heap) (tk0 : Tok) : Prop :=
  ∀ (C : Cx w mean mg mb h₀ s (nLed w.params (⟨ct, cp, pl, c, f, sdx, src, ldx, lex, pb2, pb1⟩ : NA) T (⟨p, tp, np, ln, tl, cl⟩ : NV))) (hd : dp + 20 < recursionLimit) (hu : un + 100 < cLine) (hO : NOrd (⟨ct, cp, pl, c, f, sdx, src, ldx, lex, pb2, pb1⟩ : NA)) (hK : NOk w (⟨ct, cp, pl, c, f, sdx, src, ldx, lex, pb2, pb1⟩ : NA) T) (hCH : CodeHd h₀ 293 289) (hp : p < 500) (hln : 0 ≤ ln ∧ ln < 500) (hend : T.tx.cps[p]? = none) (hret : ∀ h' tk' t' V', V'.p = p → V'.ln = ln → (∀ q ∈ nLed w.params (⟨ct, cp, pl, c, f, sdx, src, ldx, lex, pb2, pb1⟩ : NA) T V', h'.get? q.1 = some q.2) →
    Keep [pl,ldx] s { s with heap:=h',toks:=tk' } → Q (.str (Str.ofString "") t') { s with heap:=h',toks:=tk' }),
  BGoal wpAny w mean mg mb s (nLed w.params (⟨ct,cp,pl,c,f,sdx,src,ldx,lex,pb2,pb1⟩ : NA) T (⟨p,tp,np,ln,tl,cl⟩ : NV)) dp un fr gd 196 [(Str.ofString "self",.ref lex)] Q g L h tk0
noncomputable def F := ucr fun ct=>ucr fun cp=>ucr fun pl=>ucr fun c=>ucr fun f=>ucr fun sdx=>ucr fun src=>ucr fun ldx=>ucr fun lex=>ucr fun pb2=>ucr fun pb1=>ucr fun p=>ucr fun tp=>ucr fun np=>ucr fun ln=>ucr fun tl=>ucr fun cl=>ucr fun T=>ucr fun w=>ucr fun mean=>ucr fun mg=>ucr fun mb=>ucr fun h₀=>ucr fun s=>ucr fun dp=>ucr fun un=>ucr fun fr=>ucr fun gd=>ucr fun Q=>ucr fun g=>ucr fun L=>ucr fun h tk0=>PP ct cp pl c f sdx src ldx lex pb2 pb1 p tp np ln tl cl T w mean mg mb h₀ s dp un fr gd Q g L h tk0
noncomputable section
@[irreducible] def zz := eps ((0),(0),(0),(0),(0),(0),(0),(0),(0),(0),(0),(0),(0),(0),(0),(0),(0),(⟨Str.empty,0,listOf #[] 0,listOf #[] 0,listOf #[] 0,Str.empty,Str.empty,⟨[],[],none,[],[],none,[]⟩,[],⟨.function,[],false,false,[]⟩,.none,.none,.none,0,0,0,0,0,0,0,0,0,0,0,0,0,0⟩),d0) F
@[irreducible] def ct := zz.1
@[irreducible] def cp := zz.2.1
@[irreducible] def pl := zz.2.2.1
@[irreducible] def c := zz.2.2.2.1
@[irreducible] def f := zz.2.2.2.2.1
@[irreducible] def sdx := zz.2.2.2.2.2.1
@[irreducible] def src := zz.2.2.2.2.2.2.1
@[irreducible] def ldx := zz.2.2.2.2.2.2.2.1
@[irreducible] def zz8 := zz.2.2.2.2.2.2.2.2
@[irreducible] def lex := zz8.1
@[irreducible] def pb2 := zz8.2.1
@[irreducible] def pb1 := zz8.2.2.1
@[irreducible] def p := zz8.2.2.2.1
@[irreducible] def tp := zz8.2.2.2.2.1
@[irreducible] def np := zz8.2.2.2.2.2.1
@[irreducible] def ln := zz8.2.2.2.2.2.2.1
@[irreducible] def tl := zz8.2.2.2.2.2.2.2.1
@[irreducible] def zz16 := zz8.2.2.2.2.2.2.2.2
@[irreducible] def cl := zz16.1
@[irreducible] def T := zz16.2.1
@[irreducible] def w := zz16.2.2.1
@[irreducible] def mean := zz16.2.2.2.1
@[irreducible] def mg := zz16.2.2.2.2.1
@[irreducible] def mb := zz16.2.2.2.2.2.1
@[irreducible] def h₀ := zz16.2.2.2.2.2.2.1
@[irreducible] def s := zz16.2.2.2.2.2.2.2.1
@[irreducible] def zz24 := zz16.2.2.2.2.2.2.2.2
@[irreducible] def dp := zz24.1
@[irreducible] def un := zz24.2.1
@[irreducible] def fr := zz24.2.2.1
@[irreducible] def gd := zz24.2.2.2.1
@[irreducible] def Q := zz24.2.2.2.2.1
@[irreducible] def g := zz24.2.2.2.2.2.1
@[irreducible] def L := zz24.2.2.2.2.2.2.1
@[irreducible] def h := zz24.2.2.2.2.2.2.2.1
@[irreducible] def zz32 := zz24.2.2.2.2.2.2.2.2
@[irreducible] def tk0 := zz32
end
theorem core : PP ct cp pl c f sdx src ldx lex pb2 pb1 p tp np ln tl cl T w mean mg mb h₀ s dp un fr gd Q g L h tk0 := by
  k_with_none
  k_with "K.om" => first | exact lim1 (by assumption) (by decide) | exact lim2 (by assumption) (by decide) | exact lim3 (by assumption) (by decide) | exact lt_mem (by assumption) (by k_mem) | exact ne_mem (by assumption) (by k_mem) | exact Ne.symm (ne_mem (by assumption) (by k_mem)) | exact ne_mem2 (by assumption) (by k_mem) | exact Ne.symm (ne_mem2 (by assumption) (by k_mem)) | exact ne_L (by assumption) (by k_mem) | lia | omega (config:={}) | (k_extra "M.facts";omega (config:={}))
  k_with "K.ne" => (refine neN ?_;(try dsimp only);first | assumption | exact Ne.symm (by assumption) | exact ne_mem (by assumption) (by k_mem) | exact Ne.symm (ne_mem (by assumption) (by k_mem)) | exact ne_L (by assumption) (by k_mem) | exact Ne.symm (ne_L (by assumption) (by k_mem)) | omega)
  k_with "M.at" => first | exact AtP.head | (refine' AtP.tail ?kz;(case kz=>k_extra "M.at"))
  k_with "M.atF" => first | exact AtF.head | (refine' AtF.tail ?kz;(case kz=>k_extra "M.atF"))
  k_with "M.facts" => (k_dflt (repeat (rename (∀ p ∈ (_:List (Addr × Obj)),p.1 < _)=>hraw;replace hraw:=allLt_of hraw;(try simp only [AllLt,and_true] at hraw))))
  k_with "M.in" => ((case k1=>assumption);(case k6=>k_is);(case k7=>k_is);(case k8=>omega);(case k9=>first | exact BindsTo.of_eq rfl | exact binds_K (by k_in) rfl (by k_is) rfl rfl rfl | (refine' kp_binds (by k_in) (by exact fun _=>rfl)));(case c5=>decide);(case kB=>exact locs rfl);(case c2=>exact rfl);(case c3=>exact rfl);(case c4=>exact rfl);k_whole)
  k_with "execs cons" => (refine wpAny_execs_cons ?_;k_fold)
  k_with "call ref" => ((with_reducible show wpAny _ _ (call (Value.ref 98) _) _ _ _);k_dflt (refine' call_join98 (by k_asm) (by k_asm) (by assumption) (by k_mem) ?_ ?_;rotate_left;intro _ _))
  k_with "call ref" => ((with_reducible show wpAny _ _ (call (Value.ref _) [Value.str _ _]) _ _ _);k_dflt (refine' call_bd_K (by k_asm) (by k_asm) (by k_mem) (by k_upd) ?_ ?_;intro _ _ _;(try k_sweep)))
  k_with "call builtin:list.append" => (k_dflt (refine' append_svs (by k_asm) (by k_asm) (by k_upd) ?_ ?_;intro _ _ _;(try k_sweep)))
  k_with "call builtin:iter" => ((with_reducible show wpAny _ _ (call (Value.builtin "iter") [Value.ref _,Value.str _ _]) _ _ _);refine hold ?_)
  k_with "exec For Name Name cons nil" => (with_unfolding_all refine' for_G ?_;k_whole)
  intro C hd hu hO hK hCH hp hln hend hret F N X TP kG lG eL
  have hO2:=hO
  have hK2:=hK
  obtain ⟨o1,o2,o3,o5,o6,o7,o8,o9,nc⟩:=hO
  obtain ⟨k1,k2,k3,⟨vs,tq,k4,k5⟩,k6⟩:=hK
  have C2:=C
  dsimp only [nLed,lexEnts,nxEnts,srcEnts] at C o1 o2 o3 o5 o6 o7 o8 o9 nc hp hln
  k_lt2 o1;k_lt2 o2;k_lt2 o3;k_lt2 o5;k_lt2 o6;k_lt2 o7;k_lt2 o8;k_lt2 o9
  simp only [List.mem_cons,List.not_mem_nil,or_false,forall_eq_or_imp,forall_eq] at nc
  refine obAAAAAAAA nc ?_;clear nc;intro u1 u2 u3 u4 u5 u6 u7 u8 u9
  replace u1:=neN u1;replace u2:=neN u2;replace u3:=neN u3;replace u4:=neN u4;replace u5:=neN u5;replace u6:=neN u6;replace u7:=neN u7;replace u8:=neN u8;replace u9:=neN u9
  k_dflt (refine' bg_use ?k6 ?_;(case k6=>k_is);k_whole)
  (try dsimp only [nLed,lexEnts,nxEnts,srcEnts] at N kG lG ⊢)
  k_lt lG
  (try dsimp only)
  replace hCH : CodeHd g 293 289:=hCH.keeps fun b o e=>kG b o (C.st b o e) fun hb=>by
    refine obEA (List.mem_map.mp hb) ?_;intro p hp oR2;subst oR2
    rw [(C.U p hp).2] at e;cases e
  k_steps
  (rename Fr _ _ _ _=>F4)
  (rename News _ _ _ _=>N4)
  show wpAny _ _ _ _ _ _
  refine' call_iter3 F4 N4 ?kk ?_
  case kk=>k_mem
  intro bm it h5 ebm F5 N5 l5
  subst ebm
  k_lt l5
  clear F4 N4
  k_steps
  (rename Fr _ _ _ _=>F5)
  (rename News _ _ _ _=>N5)
  have G:=mkG (A:=⟨ct,cp,pl,c,f,sdx,src,ldx,lex,pb2,pb1⟩) (T:=T) (V:=⟨p,tp,np,ln,tl,cl⟩) (p:=w.params) N5 (List.Mem.head _) (List.Mem.tail _ (List.Mem.head _)) (by dsimp only [nLed,lexEnts,nxEnts,srcEnts];k_allIn)
  have hI : ∀ q ∈ (bm,methodObj (.ref 189) (.ref lex)) :: (nLed w.params ⟨ct,cp,pl,c,f,sdx,src,ldx,lex,pb2,pb1⟩ T ⟨p,tp,np,ln,tl,cl⟩ ++ []),q.1 ≠ it:=by
    intro q hq
    simp only [nLed,List.cons_append,List.nil_append,List.mem_cons,List.not_mem_nil,or_false] at hq
    rcases hq with rfl | rfl | rfl | rfl | rfl | rfl | rfl | rfl | rfl | rfl | rfl <;> exact neN (by omega)
  have hB : bm ≠ pl ∧ bm ≠ ldx:=⟨neN (by omega),neN (by omega)⟩
  refine loop_gen (J:=fun _ s'=>s' = _) (N5 (_,ciObj _ _) (List.Mem.head _)).1 rfl 0 rfl ?_
  rintro n _ rfl
  refine next_lx (A:=⟨ct,cp,pl,c,f,sdx,src,ldx,lex,pb2,pb1⟩) (T:=T) (V:=⟨p,tp,np,ln,tl,cl⟩) X TP F5 G ?e3 ?e4 hO2 hK2 hCH ?e5 ?e6 hI hB (fun _ h=>nomatch h) ?e7 ?e8
  case e3=>(try dsimp only [Around.deeper]);omega
  case e4=>(try dsimp only [Around.deeper]);omega
  case e5=>show p < 1000;omega
  case e6=>show 0 ≤ ln ∧ ln < 1000;omega
  case e7=>intro c1 h' tk' tc V' hc1;rw [show T.tx.cps[p]? = none from hend] at hc1;cases hc1
  case e8=>
    intro h' tk' V' _ ep el F6 N6
    show wpAny _ _ _ _ _ _
    k_steps
    refine Leave.intro (by assumption) fun kp=>?_
    (rename News _ _ _ _=>N9)
    show Q (.str (Str.ofString "") _) _
    exact hret _ _ _ V' ep el (gN N9) (keep_nled (fun q hq=>(C2.U q hq).1) (gN N9) kp)
theorem all : ∀ d,F d := eps_all (by with_unfolding_all exact core)
end X8k
theorem get_end {w : World} {mean : ExcName → Option Value} {mg mb : Str → Option Value} {h₀ : Heap} {s : Shared} {dp un : Nat} {fr : Option (List Env)} {gd : Option (List Code)} {Q E : Value → Shared → Prop}
  {A:NA} {T:NT} {V:NV}
  (C:Cx w mean mg mb h₀ s (nLed w.params A T V)) (hd : dp + 20 < recursionLimit) (hu : un + 100 < cLine) (hO : NOrd A) (hK : NOk w A T) (hCH : CodeHd h₀ 293 289) (hp : V.p < 500) (hln : 0 ≤ V.ln ∧ V.ln < 500)
  (hend : T.tx.cps[V.p]? = none)
  (hret : ∀ h' tk' t' V',V'.p = V.p → V'.ln = V.ln → (∀ q ∈ nLed w.params A T V',h'.get? q.1 = some q.2) →
    Keep [A.pl,A.ldx] s { s with heap:=h',toks:=tk' } → Q (.str (Str.ofString "") t') { s with heap:=h',toks:=tk' }) :
  wpAny (model P0 w) (Ar dp fr gd un) (call (.ref 196) [.ref A.lex]) Q E s:=by
  have X0:=C.X.keeps C.st
  k_dflt (refine' enter_def (binds:=[(Str.ofString "self",.ref A.lex)]) ?k1 ?k6 ?k7 ?k8 ?k9 ?kB ?_ ?c2 ?c3 ?c4 ?c5;k_extra "M.in")
  intro g L h F N X TP kG lG eL
  refine' fn_get (X8k.all (A.ct,A.cp,A.pl,A.c,A.f,A.sdx,A.src,A.ldx,A.lex,A.pb2,A.pb1,V.p,V.tp,V.np,V.ln,V.tl,V.cl,T,w,mean,mg,mb,h₀,s,dp,un,fr,gd,Q,g,L,h,_) C hd hu hO hK hCH hp hln hend hret F N X TP kG lG eL) ?ko
  case ko=>k_is
end

end
section
set_option maxRecDepth 100000
section
section
variable {prog : Program} {w : World} {A : Around} {E : Value → Shared → Prop} {s : Shared} {x y : Str} {t u : Tok} {Q : Value → Shared → Prop}
theorem eq_str_f (hne : (x == y) = false) (h : Q (.bool false) s) : wpAny (model prog w) A (compareOp .Eq (.str x t) (.str y u)) Q E s := eq_str (by rw [hne];exact h)
theorem iadd_ob (h : ∀ t' tk,Q (.str (x ++ y) t') { s with toks := tk }) (hsz : Ob (x.length + y.length ≤ sizeLine)) : wpAny (model prog w) A (inplaceOp .Add (.str x t) (.str y u)) Q E s := PyProof.Rows.iadd_str h hsz
theorem in_str_f (he : (Builtin.Str.occurrences x y 0 x.length 1).isEmpty = true) (h : Q (.bool false) s) : wpAny (model prog w) A (compareOp .In (.str y u) (.str x t)) Q E s := in_str (by rw [he];exact h)
theorem in_str_t (he : (Builtin.Str.occurrences x y 0 x.length 1).isEmpty = false) (h : Q (.bool true) s) : wpAny (model prog w) A (compareOp .In (.str y u) (.str x t)) Q E s := in_str (by rw [he];exact h)
end
structure PlainCh (x : Nat) : Prop where
  ws : (Builtin.Str.occurrences (Str.ofString "\n\t\r ") ⟨#[x]⟩ 0 (Str.ofString "\n\t\r ").length 1).isEmpty = true
  q : ((⟨#[x]⟩ : Str) == Str.ofString "\"") = false
  b : ((⟨#[x]⟩ : Str) == Str.ofString "\\") = false
theorem ws_of {g : Nat} (h : g = 10 ∨ g = 9 ∨ g = 32) : (Builtin.Str.occurrences (Str.ofString "\n\t\r ") ⟨#[g]⟩ 0 (Str.ofString "\n\t\r ").length 1).isEmpty = false := by
  rcases h with rfl | rfl | rfl <;> decide +kernel
theorem take_snoc {cs : List Nat} {i c : Nat} (h : cs[i]? = some c) : (⟨(cs.take i).toArray⟩ : Str) ++ ⟨#[c]⟩ = ⟨(cs.take (i + 1)).toArray⟩ := by
  show Str.mk ((cs.take i).toArray ++ #[c]) = _
  rw [List.take_add_one,h]
  simp
theorem tk_next {g h : Heap} {L : Addr} {m : Str → Option Value} {t : Tok} {cs : List Nat} {i c : Nat} (F : Fr g L h m) (x : Str) (hc : cs[i]? = some c) (h : m x = some (.str (⟨(cs.take i).toArray⟩ ++ ⟨#[c]⟩) t)) : m x = some (.str ⟨(cs.take (i + 1)).toArray⟩ t) := take_snoc hc ▸ h
theorem tk_first {g h : Heap} {L : Addr} {m : Str → Option Value} {t : Tok} {cs : List Nat} {c : Nat} (F : Fr g L h m) (x : Str) (hc : cs[0]? = some c) (h : m x = some (.str (Str.ofString "" ++ ⟨#[c]⟩) t)) : m x = some (.str ⟨(cs.take 1).toArray⟩ t) :=
  tk_next (i:=0) F x hc (by rw [show Str.ofString "" = ⟨((cs.take 0)).toArray⟩ from ofString_empty] at h;exact h)
namespace X9k
noncomputable def PP (ct : Addr) (cp : Addr) (pl : Addr) (c : Addr) (f : Addr) (sdx : Addr) (src : Addr) (ldx : Addr) (lex : Addr) (pb2 : Addr) (pb1 : Addr) (p : Nat) (tp : Tok) (np : Nat) (ln : Int) (tl : Tok) (cl : Nat) (T : NT) (cs : List Nat) (w : World) (mean : ExcName → Option Value) (mg : Str → Option Value) (mb : Str → Option Value) (h₀ : Heap) (s : Shared) (dp : Nat) (un : Nat) (fr : Option (List Env)) (gd : Option (List Code)) (Q : Value → Shared → Prop) (g : Heap) (L : Addr) (h : Heap) (tk0 : Tok) : Prop :=
  ∀ (C : Cx w mean mg mb h₀ s (nLed w.params (⟨ct, cp, pl, c, f, sdx, src, ldx, lex, pb2, pb1⟩ : NA) T (⟨p, tp, np, ln, tl, cl⟩ : NV))) (hd : dp + 20 < recursionLimit) (hu : un + 100 < cLine) (hO : NOrd (⟨ct, cp, pl, c, f, sdx, src, ldx, lex, pb2, pb1⟩ : NA)) (hK : NOk w (⟨ct, cp, pl, c, f, sdx, src, ldx, lex, pb2, pb1⟩ : NA) T) (hCH : CodeHd h₀ 293 289) (hp : p < 500) (hln : 0 ≤ ln ∧ ln < 500) (o : Option Nat) (hcs : 0 < cs.length) (hcl : cs.length < 100) (hc : ∀ i, i < cs.length → T.tx.cps[p + i]? = cs[i]?) (hpl : ∀ x ∈ cs, PlainCh x) (ho : T.tx.cps[p + cs.length]? = o) (hw : ∀ g, o = some g → g = 10 ∨ g = 9 ∨ g = 32) (hret : ∀ h' tk' t' V', V'.p = p + cs.length + (if o.isSome then 1 else 0) → V'.ln = ln + (if o = some 10 then 1 else 0) → (∀ q ∈ nLed w.params (⟨ct, cp, pl, c, f, sdx, src, ldx, lex, pb2, pb1⟩ : NA) T V', h'.get? q.1 = some q.2) →
    Keep [pl,ldx] s { s with heap:=h',toks:=tk' } → Q (.str ⟨cs.toArray⟩ t') { s with heap:=h',toks:=tk' }),
  BGoal wpAny w mean mg mb s (nLed w.params (⟨ct,cp,pl,c,f,sdx,src,ldx,lex,pb2,pb1⟩ : NA) T (⟨p,tp,np,ln,tl,cl⟩ : NV)) dp un fr gd 196 [(Str.ofString "self",.ref lex)] Q g L h tk0
noncomputable def F := ucr fun ct=>ucr fun cp=>ucr fun pl=>ucr fun c=>ucr fun f=>ucr fun sdx=>ucr fun src=>ucr fun ldx=>ucr fun lex=>ucr fun pb2=>ucr fun pb1=>ucr fun p=>ucr fun tp=>ucr fun np=>ucr fun ln=>ucr fun tl=>ucr fun cl=>ucr fun T=>ucr fun cs=>ucr fun w=>ucr fun mean=>ucr fun mg=>ucr fun mb=>ucr fun h₀=>ucr fun s=>ucr fun dp=>ucr fun un=>ucr fun fr=>ucr fun gd=>ucr fun Q=>ucr fun g=>ucr fun L=>ucr fun h tk0=>PP ct cp pl c f sdx src ldx lex pb2 pb1 p tp np ln tl cl T cs w mean mg mb h₀ s dp un fr gd Q g L h tk0
noncomputable section
@[irreducible] def zz := eps ((0),(0),(0),(0),(0),(0),(0),(0),(0),(0),(0),(0),(0),(0),(0),(0),(0),(⟨Str.empty,0,listOf #[] 0,listOf #[] 0,listOf #[] 0,Str.empty,Str.empty,⟨[],[],none,[],[],none,[]⟩,[],⟨.function,[],false,false,[]⟩,.none,.none,.none,0,0,0,0,0,0,0,0,0,0,0,0,0,0⟩),([]),d0) F
@[irreducible] def ct := zz.1
@[irreducible] def cp := zz.2.1
@[irreducible] def pl := zz.2.2.1
@[irreducible] def c := zz.2.2.2.1
@[irreducible] def f := zz.2.2.2.2.1
@[irreducible] def sdx := zz.2.2.2.2.2.1
@[irreducible] def src := zz.2.2.2.2.2.2.1
@[irreducible] def ldx := zz.2.2.2.2.2.2.2.1
@[irreducible] def zz8 := zz.2.2.2.2.2.2.2.2
@[irreducible] def lex := zz8.1
@[irreducible] def pb2 := zz8.2.1
@[irreducible] def pb1 := zz8.2.2.1
@[irreducible] def p := zz8.2.2.2.1
@[irreducible] def tp := zz8.2.2.2.2.1
@[irreducible] def np := zz8.2.2.2.2.2.1
@[irreducible] def ln := zz8.2.2.2.2.2.2.1
@[irreducible] def tl := zz8.2.2.2.2.2.2.2.1
@[irreducible] def zz16 := zz8.2.2.2.2.2.2.2.2
@[irreducible] def cl := zz16.1
@[irreducible] def T := zz16.2.1
@[irreducible] def cs := zz16.2.2.1
@[irreducible] def w := zz16.2.2.2.1
@[irreducible] def mean := zz16.2.2.2.2.1
@[irreducible] def mg := zz16.2.2.2.2.2.1
@[irreducible] def mb := zz16.2.2.2.2.2.2.1
@[irreducible] def h₀ := zz16.2.2.2.2.2.2.2.1
@[irreducible] def zz24 := zz16.2.2.2.2.2.2.2.2
@[irreducible] def s := zz24.1
@[irreducible] def dp := zz24.2.1
@[irreducible] def un := zz24.2.2.1
@[irreducible] def fr := zz24.2.2.2.1
@[irreducible] def gd := zz24.2.2.2.2.1
@[irreducible] def Q := zz24.2.2.2.2.2.1
@[irreducible] def g := zz24.2.2.2.2.2.2.1
@[irreducible] def L := zz24.2.2.2.2.2.2.2.1
@[irreducible] def zz32 := zz24.2.2.2.2.2.2.2.2
@[irreducible] def h := zz32.1
@[irreducible] def tk0 := zz32.2
end
theorem core : PP ct cp pl c f sdx src ldx lex pb2 pb1 p tp np ln tl cl T cs w mean mg mb h₀ s dp un fr gd Q g L h tk0 := by
  k_with_none
  k_with "K.om" => first | exact lim1 (by assumption) (by decide) | exact lim2 (by assumption) (by decide) | exact lim3 (by assumption) (by decide) | exact lt_mem (by assumption) (by k_mem) | exact ne_mem (by assumption) (by k_mem) | exact Ne.symm (ne_mem (by assumption) (by k_mem)) | exact ne_mem2 (by assumption) (by k_mem) | exact Ne.symm (ne_mem2 (by assumption) (by k_mem)) | exact ne_L (by assumption) (by k_mem) | lia | omega (config:={}) | (k_extra "M.facts";omega (config:={}))
  k_with "K.ne" => (refine neN ?_;(try dsimp only);first | assumption | exact Ne.symm (by assumption) | exact ne_mem (by assumption) (by k_mem) | exact Ne.symm (ne_mem (by assumption) (by k_mem)) | exact ne_L (by assumption) (by k_mem) | exact Ne.symm (ne_L (by assumption) (by k_mem)) | omega)
  k_with "M.at" => first | exact AtP.head | (refine' AtP.tail ?kz;(case kz=>k_extra "M.at"))
  k_with "M.atF" => first | exact AtF.head | (refine' AtF.tail ?kz;(case kz=>k_extra "M.atF"))
  k_with "M.facts" => repeat (rename (∀ p ∈ (_:List (Addr × Obj)),p.1 < _)=>hraw;replace hraw:=allLt_of hraw;simp only [AllLt,and_true] at hraw)
  k_with "M.in" => ((case k1=>assumption);(case k6=>k_is);(case k7=>k_is);(case k8=>omega);(case k9=>first | exact BindsTo.of_eq rfl | exact binds_K (by k_in) rfl (by k_is) rfl rfl rfl | (refine' kp_binds (by k_in) (by exact fun _=>rfl)));(case c5=>decide);(case kB=>exact locs rfl);(case c2=>exact rfl);(case c3=>exact rfl);(case c4=>exact rfl);k_whole)
  k_with "execs cons" => (refine wpAny_execs_cons ?_;k_fold)
  k_with "call ref" => ((with_reducible show wpAny _ _ (call (Value.ref 98) _) _ _ _);k_dflt (refine' call_join98 (by k_asm) (by k_asm) (by assumption) (by k_mem) ?_ ?_;rotate_left;intro _ _))
  k_with "call ref" => ((with_reducible show wpAny _ _ (call (Value.ref _) [Value.str _ _]) _ _ _);k_dflt (refine' call_bd_K (by k_asm) (by k_asm) (by k_mem) (by k_upd) ?_ ?_;intro _ _ _;(try k_sweep)))
  k_with "call builtin:list.append" => (k_dflt (refine' append_svs (by k_asm) (by k_asm) (by k_upd) ?_ ?_;intro _ _ _;(try k_sweep)))
  k_with "call builtin:iter" => ((with_reducible show wpAny _ _ (call (Value.builtin "iter") [Value.ref _,Value.str _ _]) _ _ _);refine hold ?_)
  k_with "exec For Name Name cons nil" => (with_unfolding_all refine' for_G ?_;k_whole)
  k_with "compareOp Eq str str" => (refine eq_str_f (by assumption) ?_)
  k_with "inplaceOp Add str str" => (refine iadd_ob ?_ ?_;intro _ _)
  k_with "compareOp In str str" => first | (refine in_str_f (by assumption) ?_) | (refine in_str_t (by assumption) ?_)
  intro C hd hu hO hK hCH hp hln o hcs hcl hc hpl ho hw hret F N X TP kG lG eL
  have hO2:=hO
  have hK2:=hK
  obtain ⟨o1,o2,o3,o5,o6,o7,o8,o9,nc⟩:=hO
  obtain ⟨k1,k2,k3,⟨vs,tq,k4,k5⟩,k6⟩:=hK
  have C2:=C
  dsimp only [nLed,lexEnts,nxEnts,srcEnts] at C o1 o2 o3 o5 o6 o7 o8 o9 nc hp hln
  k_lt2 o1;k_lt2 o2;k_lt2 o3;k_lt2 o5;k_lt2 o6;k_lt2 o7;k_lt2 o8;k_lt2 o9
  simp only [List.mem_cons,List.not_mem_nil,or_false,forall_eq_or_imp,forall_eq] at nc
  refine obAAAAAAAA nc ?_;clear nc;intro u1 u2 u3 u4 u5 u6 u7 u8 u9
  replace u1:=neN u1;replace u2:=neN u2;replace u3:=neN u3;replace u4:=neN u4;replace u5:=neN u5;replace u6:=neN u6;replace u7:=neN u7;replace u8:=neN u8;replace u9:=neN u9
  k_dflt (refine' bg_use ?k6 ?_;(case k6=>k_is);k_whole)
  (try dsimp only [nLed,lexEnts,nxEnts,srcEnts] at N kG lG ⊢)
  k_lt lG
  (try dsimp only)
  replace hCH : CodeHd g 293 289:=hCH.keeps fun b o e=>kG b o (C.st b o e) fun hb=>by
    refine obEA (List.mem_map.mp hb) ?_;intro p hp oR2;subst oR2
    rw [(C.U p hp).2] at e;cases e
  k_steps
  (rename Fr _ _ _ _=>F4)
  (rename News _ _ _ _=>N4)
  show wpAny _ _ _ _ _ _
  refine' call_iter3 F4 N4 ?kk ?_
  case kk=>k_mem
  intro bm it h5 ebm F5 N5 l5
  subst ebm
  k_lt l5
  clear F4 N4
  k_steps
  (rename Fr _ _ _ _=>F5)
  (rename News _ _ _ _=>N5)
  have G:=mkG (A:=⟨ct,cp,pl,c,f,sdx,src,ldx,lex,pb2,pb1⟩) (T:=T) (V:=⟨p,tp,np,ln,tl,cl⟩) (p:=w.params) N5 (List.Mem.head _) (List.Mem.tail _ (List.Mem.head _)) (by dsimp only [nLed,lexEnts,nxEnts,srcEnts];k_allIn)
  have hI0 : ∀ V : NV,∀ q ∈ (bm,methodObj (.ref 189) (.ref lex)) :: (nLed w.params ⟨ct,cp,pl,c,f,sdx,src,ldx,lex,pb2,pb1⟩ T V ++ []),q.1 ≠ it:=by
    intro V q hq
    simp only [nLed,List.cons_append,List.nil_append,List.mem_cons,List.not_mem_nil,or_false] at hq
    rcases hq with rfl | rfl | rfl | rfl | rfl | rfl | rfl | rfl | rfl | rfl | rfl <;> exact neN (by omega)
  have hI:=hI0 ⟨p,tp,np,ln,tl,cl⟩
  have hB : bm ≠ pl ∧ bm ≠ ldx:=⟨neN (by omega),neN (by omega)⟩
  refine loop_gen (J:=fun n s'=>(n = 1 ∧ s' = _) ∨ (n = 0 ∧ ∃ h tk V' m t,s' = { s with heap:=h,toks:=tk } ∧ Fr g L h m ∧ m (Str.ofString "token") = some (.str ⟨cs.toArray⟩ t) ∧ News g L h (gLed w.params ⟨ct,cp,pl,c,f,sdx,src,ldx,lex,pb2,pb1⟩ T V' it bm ciEnd []) ∧ o = none ∧ V'.p = p + cs.length ∧ V'.ln = ln)) (N5 (_,ciObj _ _) (List.Mem.head _)).1 rfl 1 (.inl ⟨rfl,rfl⟩) ?_
  rintro n s9 (⟨rfl,rfl⟩ | ⟨rfl,h1,tk1,V1,m1,t1,rfl,F6,hm6,N6,e1,e2,e3⟩)
  rotate_left
  · refine next_ci_dead rfl (N6 _ (List.Mem.head _)).1 fun h2 hx he => ?_
    have F7 : Fr g L h2 (kstB m1 [(Str.ofString "token",.str ⟨cs.toArray⟩ t1)]):=fr_kst ⟨F6.ns.at' fun o eo=>hx _ o (Ne.symm (N6 _ (List.Mem.head _)).2.1) eo,fun b o eo=>hx b o (fun q=>by rw [q,(N6 _ (List.Mem.head _)).2.2] at eo;cases eo) (F6.keep b o eo),F6.above⟩ (all_cons hm6 all_nil)
    have N7 : News g L h2 (gLed w.params ⟨ct,cp,pl,c,f,sdx,src,ldx,lex,pb2,pb1⟩ T V1 it bm ciEnd []):=all_cons ⟨he,(N6 _ (List.Mem.head _)).2⟩ fun q hq=>⟨hx _ _ (hI0 V1 q hq) (N6 q (List.Mem.tail _ hq)).1,(N6 q (List.Mem.tail _ hq)).2⟩
    show wpAny _ _ _ _ _ _
    k_steps
    refine Leave.intro (by assumption) fun kp=>?_
    show Q (.str ⟨cs.toArray⟩ _) _
    subst e1
    exact hret _ _ _ V1 (by simp [e2]) (by simp [e3]) (gN N7) (keep_nled (fun q hq=>(C2.U q hq).1) (gN N7) kp)
  · obtain ⟨c0, hc0⟩ : ∃ c0, cs[0]? = some c0 := ⟨cs[0], List.getElem?_eq_getElem hcs⟩
    obtain ⟨hp1,hp2,hp3⟩:=hpl c0 (List.mem_of_getElem? hc0)
    refine next_lx (A:=⟨ct,cp,pl,c,f,sdx,src,ldx,lex,pb2,pb1⟩) (T:=T) (V:=⟨p,tp,np,ln,tl,cl⟩) X TP F5 G ?e3 ?e4 hO2 hK2 hCH ?e5 ?e6 (hI0 _) hB (fun _ h=>nomatch h) ?e7 ?e8
    case e3=>(try dsimp only [Around.deeper]);omega
    case e4=>(try dsimp only [Around.deeper]);omega
    case e5=>show p < 1000;omega
    case e6=>show 0 ≤ ln ∧ ln < 1000;omega
    case e8=>intro h' tk' V' hc1;have:=hc 0 hcs;rw [show T.tx.cps[p + 0]? = none from hc1,hc0] at this;cases this
    case e7 =>
      intro c1 h' tk' tc V' hc1 ep el F6 N6
      have e0:=hc 0 hcs
      rw [show T.tx.cps[p + 0]? = some c1 from hc1,hc0] at e0
      have e00 : c1 = c0:=by injection e0
      subst e00
      show wpAny _ _ _ _ _ _
      have hne10 : ¬ c1 = 10:=fun e=>by subst e;exact absurd hp1 (by decide +kernel)
      dsimp only at ep el
      rw [if_neg hne10,Int.add_zero] at el
      k_steps
      rotate_left
      · show _ ≤ _
        rw [sizeLine_eq]
        show (Str.ofString "").length + 1 ≤ _
        rw [show (Str.ofString "").length = 0 by decide +kernel];omega
      (rename Fr _ _ _ _=>F8)
      (rename News _ _ _ _=>N8)
      refine loop_gen (J:=fun n s'=>∃ i h tk V' m t ts,n = cs.length - i ∧ 1 ≤ i ∧ i ≤ cs.length ∧ s' = { s with heap:=h,toks:=tk } ∧ Fr g L h m ∧ m (Str.ofString "self") = some (.ref lex) ∧ m (Str.ofString "token") = some (.str ⟨(cs.take i).toArray⟩ t) ∧ m (Str.ofString "fiter") = some (.ref it) ∧ News g L h (gLed w.params ⟨ct,cp,pl,c,f,sdx,src,ldx,lex,pb2,pb1⟩ T V' it bm (ciObj (.ref bm) ts) []) ∧ V'.p = p + i ∧ V'.ln = ln) (N8 (_,ciObj _ _) (List.Mem.head _)).1 rfl (cs.length - 1) ⟨1,_,_,V',_,_,_,rfl,Nat.le_refl 1,hcs,rfl,F8,by with_unfolding_all rfl,tk_first F8 (Str.ofString "token") hc0 (by with_unfolding_all rfl),by with_unfolding_all rfl,N8,ep,el⟩ ?_
      rintro n s9 ⟨i,h1,tk1,V1,m1,t1,ts1,rfl,i1,i2,rfl,F9,a1,a2,a3,N9,b1,b2⟩
      have F10:=fr_kst (ps:=[(Str.ofString "self",.ref lex),(Str.ofString "token",.str ⟨(cs.take i).toArray⟩ t1),(Str.ofString "fiter",.ref it)]) F9 (all_cons a1 (all_cons a2 (all_cons a3 all_nil)))
      clear F9 a1 a2 a3
      by_cases hi : i < cs.length
      · obtain ⟨c2, hc2⟩ : ∃ c2, cs[i]? = some c2 := ⟨cs[i], List.getElem?_eq_getElem hi⟩
        obtain ⟨hp4,hp5,hp6⟩:=hpl c2 (List.mem_of_getElem? hc2)
        have hci:=hc i hi
        rw [hc2,show p + i = V1.p from b1.symm] at hci
        refine next_lx (A:=⟨ct,cp,pl,c,f,sdx,src,ldx,lex,pb2,pb1⟩) (T:=T) (V:=V1) X TP F10 N9 ?e3b ?e4b hO2 hK2 hCH ?e5b ?e6b (hI0 _) hB (fun _ h=>nomatch h) ?e7b ?e8b
        case e3b=>(try dsimp only [Around.deeper]);omega
        case e4b=>(try dsimp only [Around.deeper]);omega
        case e5b=>show V1.p < 1000;omega
        case e6b=>show 0 ≤ V1.ln ∧ V1.ln < 1000;omega
        case e8b=>intro h' tk' V' hc1;rw [hci] at hc1;cases hc1
        case e7b=>
          intro c3 h' tk' tc V2 hc3 ep2 el2 F11 N11
          have e00 : c3 = c2:=by rw [hci] at hc3;injection hc3 with q;exact q.symm
          subst e00
          have hne10 : ¬ c3 = 10:=fun e=>by subst e;exact absurd hp4 (by decide +kernel)
          rw [if_neg hne10,Int.add_zero] at el2
          show wpAny _ _ _ _ _ _
          k_steps
          · (rename Fr _ _ _ _ => F12)
            (rename News _ _ _ _=>N12)
            refine ⟨cs.length - (i + 1),by omega,i + 1,_,_,V2,_,_,_,rfl,by omega,by omega,rfl,F12,by with_unfolding_all rfl,tk_next F12 (Str.ofString "token") hc2 (by with_unfolding_all rfl),by with_unfolding_all rfl,N12,by omega,by omega⟩
          · show _ ≤ _
            rw [sizeLine_eq]
            show (cs.take i).toArray.size + 1 ≤ _
            rw [List.size_toArray,List.length_take];omega
      · have ei : i = cs.length := by omega
        subst ei
        have hci:=ho
        rw [show p + cs.length = V1.p from b1.symm] at hci
        rw [List.take_of_length_le (Nat.le_refl _)] at F10
        refine next_lx (A:=⟨ct,cp,pl,c,f,sdx,src,ldx,lex,pb2,pb1⟩) (T:=T) (V:=V1) X TP F10 N9 ?e3c ?e4c hO2 hK2 hCH ?e5c ?e6c (hI0 _) hB (fun _ h=>nomatch h) ?e7c ?e8c
        case e3c=>(try dsimp only [Around.deeper]);omega
        case e4c=>(try dsimp only [Around.deeper]);omega
        case e5c=>show V1.p < 1000;omega
        case e6c=>show 0 ≤ V1.ln ∧ V1.ln < 1000;omega
        case e8c=>
          intro h' tk' V2 hc3 ep2 el2 F11 N11
          have eo : o = none:=hci.symm.trans hc3
          show wpAny _ _ _ _ _ _
          k_steps
          refine ⟨0,by omega,.inr ⟨rfl,_,_,V2,_,_,rfl,F11,by with_unfolding_all rfl,N11,eo,by omega,by omega⟩⟩
        case e7c=>
          intro c3 h' tk' tc V2 hc3 ep2 el2 F11 N11
          have eo : o = some c3:=hci.symm.trans hc3
          have hws:=ws_of (hw c3 eo)
          show wpAny _ _ _ _ _ _
          k_steps
          refine Leave.intro (by assumption) fun kp=>?_
          (rename News _ _ _ _=>N12)
          show Q (.str ⟨cs.toArray⟩ _) _
          subst eo
          refine hret _ _ _ V2 ?_ ?_ (gN N12) (keep_nled (fun q hq=>(C2.U q hq).1) (gN N12) kp)
          · show V2.p = p + cs.length + 1;omega
          · show V2.ln = ln + _
            rw [el2,b2]
            by_cases h10 : c3 = 10
            · subst h10;rfl
            · rw [if_neg h10,if_neg (fun e=>h10 (Option.some.inj e))]
theorem all : ∀ d,F d := eps_all (by with_unfolding_all exact core)
end X9k
theorem get_word {w : World} {mean : ExcName → Option Value} {mg mb : Str → Option Value} {h₀ : Heap} {s : Shared} {dp un : Nat} {fr : Option (List Env)} {gd : Option (List Code)} {Q E : Value → Shared → Prop}
  {A:NA} {T:NT} {V:NV}
  (C:Cx w mean mg mb h₀ s (nLed w.params A T V)) (hd : dp + 20 < recursionLimit) (hu : un + 100 < cLine) (hO : NOrd A) (hK : NOk w A T) (hCH : CodeHd h₀ 293 289) (hp : V.p < 500) (hln : 0 ≤ V.ln ∧ V.ln < 500)
  {cs : List Nat} {o:Option Nat} (hcs : 0 < cs.length) (hcl : cs.length < 100) (hc : ∀ i,i < cs.length → T.tx.cps[V.p + i]? = cs[i]?) (hpl : ∀ x ∈ cs,PlainCh x) (ho : T.tx.cps[V.p + cs.length]? = o) (hw : ∀ g,o = some g → g = 10 ∨ g = 9 ∨ g = 32)
  (hret : ∀ h' tk' t' V',V'.p = V.p + cs.length + (if o.isSome then 1 else 0) → V'.ln = V.ln + (if o = some 10 then 1 else 0) → (∀ q ∈ nLed w.params A T V',h'.get? q.1 = some q.2) →
    Keep [A.pl,A.ldx] s { s with heap:=h',toks:=tk' } → Q (.str ⟨cs.toArray⟩ t') { s with heap:=h',toks:=tk' }) :
  wpAny (model P0 w) (Ar dp fr gd un) (call (.ref 196) [.ref A.lex]) Q E s:=by
  have X0:=C.X.keeps C.st
  k_dflt (refine' enter_def (binds:=[(Str.ofString "self",.ref A.lex)]) ?k1 ?k6 ?k7 ?k8 ?k9 ?kB ?_ ?c2 ?c3 ?c4 ?c5;k_extra "M.in")
  intro g L h F N X TP kG lG eL
  refine' fn_get (X9k.all (A.ct,A.cp,A.pl,A.c,A.f,A.sdx,A.src,A.ldx,A.lex,A.pb2,A.pb1,V.p,V.tp,V.np,V.ln,V.tl,V.cl,T,cs,w,mean,mg,mb,h₀,s,dp,un,fr,gd,Q,g,L,h,_) C hd hu hO hK hCH hp hln o hcs hcl hc hpl ho hw hret F N X TP kG lG eL) ?ko
  case ko=>k_is
end

end
section
set_option maxRecDepth 100000
noncomputable abbrev Seg := List Nat × Option Nat
noncomputable def flat : List Seg → List Nat
  | []=>[]
  | (w,o) :: r=>w ++ o.toList ++ flat r
noncomputable def nls : List Seg → Int
  | []=>0
  | (_,o) :: r=>(if o = some 10 then 1 else 0) + nls r
noncomputable def SegsOk : List Seg → Prop
  | []=>True
  | (w,o) :: r=>0 < w.length ∧ w.length < 100 ∧ (∀ x ∈ w,PlainCh x) ∧ (∀ g,o = some g → g = 10 ∨ g = 9 ∨ g = 32) ∧ (o = none → r = []) ∧ SegsOk r
theorem flat_app : ∀ a b,flat (a ++ b) = flat a ++ flat b
  | [],_=>rfl
  | (w, o) :: r, b => by
    show w ++ o.toList ++ flat (r ++ b) = w ++ o.toList ++ flat r ++ flat b
    rw [flat_app r b];simp only [List.append_assoc]
theorem nls_app : ∀ a b,nls (a ++ b) = nls a + nls b
  | [],b=>by simp [nls]
  | (w, o) :: r, b => by
    show (if o = some 10 then 1 else 0) + nls (r ++ b) = (if o = some 10 then 1 else 0) + nls r + nls b
    rw [nls_app r b];omega
theorem nls_nonneg : ∀ a,0 ≤ nls a
  | []=>Int.le_refl 0
  | (_, o) :: r => by
    have:=nls_nonneg r
    show 0 ≤ (if o = some 10 then 1 else 0) + nls r
    split <;> omega
theorem nls_le : ∀ a,nls a ≤ (flat a).length
  | []=>Int.le_refl 0
  | (w, o) :: r => by
    have:=nls_le r
    show (if o = some 10 then 1 else 0) + nls r ≤ ((w ++ o.toList ++ flat r).length : Int)
    rw [List.length_append,List.length_append]
    cases o with
    | none=>simp;omega
    | some g=>simp;split <;> omega
theorem SegsOk.right : ∀ {a b},SegsOk (a ++ b) → SegsOk b
  | [],_,h=>h
  | (_,_) :: r,b,h=>SegsOk.right (a:=r) h.2.2.2.2.2
noncomputable def NextTok (V V' : NV) (rest : List Seg) (wd : Str) : Prop := match rest with
  | []=>wd = Str.ofString "" ∧ V'.p = V.p ∧ V'.ln = V.ln
  | (w,o) :: _=>wd = ⟨w.toArray⟩ ∧ V'.p = V.p + w.length + o.toList.length ∧ V'.ln = V.ln + (if o = some 10 then 1 else 0)
theorem at_app {x : Str} {a b : List Nat} (h : x.cps.toList = a ++ b) (i : Nat) : x.cps[a.length + i]? = b[i]? := by
  rw [← Array.getElem?_toList,h,List.getElem?_append_right (Nat.le_add_right _ _)]
  congr 1;omega
theorem get_tok {w : World} {mean : ExcName → Option Value} {mg mb : Str → Option Value} {h₀ : Heap} {s : Shared} {dp un : Nat} {fr : Option (List Env)} {gd : Option (List Code)} {Q E : Value → Shared → Prop}
  {A:NA} {T:NT} {V:NV}
  (C:Cx w mean mg mb h₀ s (nLed w.params A T V)) (hd : dp + 20 < recursionLimit) (hu : un + 100 < cLine) (hO : NOrd A) (hK : NOk w A T) (hCH : CodeHd h₀ 293 289)
  {don rest : List Seg} (htx : T.tx.cps.toList = flat don ++ flat rest) (hok : SegsOk rest) (hp : V.p = (flat don).length) (hl : (flat don).length < 490) (hln : V.ln = 1 + nls don)
  (hret : ∀ h' tk' t' V' wd,NextTok V V' rest wd → (∀ q ∈ nLed w.params A T V',h'.get? q.1 = some q.2) →
    Keep [A.pl,A.ldx] s { s with heap:=h',toks:=tk' } → Q (.str wd t') { s with heap:=h',toks:=tk' }) :
  wpAny (model P0 w) (Ar dp fr gd un) (call (.ref 196) [.ref A.lex]) Q E s:=by
  have hn1:=nls_nonneg don
  have hn2:=nls_le don
  cases rest with
  | nil =>
    refine get_end C hd hu hO hK hCH (by omega) (by omega) ?_ (fun h' tk' t' V' e1 e2 hw kp=>hret h' tk' t' V' _ ⟨rfl,e1,e2⟩ hw kp)
    have:=at_app htx 0
    rw [Nat.add_zero,← hp] at this
    rw [this];rfl
  | cons q r =>
    obtain ⟨wd,o⟩:=q
    refine obAAAAA hok ?_;clear hok;intro a1 a2 a3 a4 a5 a6
    have htx2 : T.tx.cps.toList = flat don ++ (wd ++ (o.toList ++ flat r)):=by rw [htx];show flat don ++ (wd ++ o.toList ++ flat r) = _;rw [List.append_assoc]
    refine get_word (cs:=wd) (o:=o) C hd hu hO hK hCH (by omega) (by omega) a1 a2 (fun i hi=>?_) a3 ?_ a4 (fun h' tk' t' V' e1 e2 hw kp=>hret h' tk' t' V' _ ⟨rfl,?_,e2⟩ hw kp)
    · rw [hp,at_app htx2,List.getElem?_append_left hi]
    · rw [hp, at_app htx2, List.getElem?_append_right (Nat.le_refl _), Nat.sub_self]
      cases o with
      | none=>rw [a5 rfl];rfl
      | some g=>rfl
    · rw [e1]
      cases o <;> rfl

end
section
set_option maxRecDepth 100000
noncomputable def rdQual : Str := Str.ofString "_law_words" ++ ".<locals>." ++ Str.ofString "read"
theorem nest_mk {K : Frag} {f : Addr} {o : Obj} {x : Str × Arguments × List Stmt × Scope} (ho : K.lookup f = some o) (h : nestedObj o = some x) : nestedIn K f = some x := by
  unfold nestedIn
  rw [ho]
  exact h
theorem set_read {w : World} {h₀ : Heap} {s : Shared} {L : Addr} {E : Value → Shared → Prop} {A : Around} {news news' : List (Addr × Obj)} {m : Str → Option Value} {t0 t1 t2 t3 tl tw : Tok} {ln : Int} {fp v : Value} {pb x dx : Addr} {ox : Obj} {n : Nat} {Q : Unit → Shared → Prop} (F : Fr h₀ L s.heap m) (X₀ : (Mine.hd.heap_1 w.params).In h₀) (N : News h₀ L s.heap news) (I : InstAt s.heap x ox 206 (some (dictOf (nxEnts w.params t0 t1 t2 t3 tl tw ln fp pb) n))) (hd : ox.dict = some dx) (hs : findIn (Mine.hd.heap_1 w.params) (.ref 206) "__setattr__" = some (some (.builtin "object.__setattr__"))) (hp : plainOver (Mine.hd.heap_1 w.params) 206 = true) (ht : takerIn (Mine.hd.heap_1 w.params) 206 (Str.ofString "read") = some none) (hh : hasDictIn (Mine.hd.heap_1 w.params) 206 = true)
    (U:Upd dx (dictOf (nxEnts w.params t0 t1 t2 t3 tl tw ln fp pb) n) (dictOf [{ hash:=PyData.keyHash w.params (Str.ofString "lineno"),key:=.str (Str.ofString "lineno") t0,val:=.int ln tl },{ hash:=PyData.keyHash w.params (Str.ofString "instream"),key:=.str (Str.ofString "instream") t1,val:=fp },{ hash:=PyData.keyHash w.params (Str.ofString "whitespace"),key:=.str (Str.ofString "whitespace") t2,val:=.str (Str.ofString "\n\t\r ") tw },{ hash:=PyData.keyHash w.params (Str.ofString "pushback"),key:=.str (Str.ofString "pushback") t3,val:=.ref pb },{ hash:=PyData.keyHash w.params (Str.ofString "read"),key:=.str (Str.ofString "read") (s.toks + 1),val:=v }] (n + 1)) news news') (h : ∀ h',Fr h₀ L h' m → News h₀ L h' news' → Q () { s with heap:=h',toks:=s.toks + 2 }) :
    wpAny (model P0 w) A (setAttr (.ref x) (Str.ofString "read") v) Q E s:=
  set_dict F X₀ N I hd hs hp ht hh (by rfl) (by rfl) U (Nat.le_of_ble_eq_true rfl) h
theorem NextTok.congr {V W V' : NV} {rest : List Seg} {wd : Str} (h : NextTok V V' rest wd) (hp : V.p = W.p) (hl : V.ln = W.ln) : NextTok W V' rest wd := by
  cases rest with
  | nil=>refine obAA h ?_;clear h;intro a b c;exact ⟨a,b.trans hp,c.trans hl⟩
  | cons q r=>obtain ⟨w,o⟩:=q;refine obAA h ?_;clear h;intro a b c;exact ⟨a,by rw [b,hp],by rw [c,hl]⟩
section
variable {prog : Program} {w : World} {A : Around} {E : Value → Shared → Prop} {s : Shared} {x y : Str} {t u : Tok} {Q : Value → Shared → Prop}
theorem ne_str_f (hne : (x != y) = false) (h : Q (.bool false) s) : wpAny (model prog w) A (compareOp .NotEq (.str x t) (.str y u)) Q E s := ne_str (by rw [hne];exact h)
theorem ne_str_t (hne : (x != y) = true) (h : Q (.bool true) s) : wpAny (model prog w) A (compareOp .NotEq (.str x t) (.str y u)) Q E s := ne_str (by rw [hne];exact h)
end
theorem word_ne {w : List Nat} (h : 0 < w.length) : ((⟨w.toArray⟩ : Str) != Str.ofString "") = true := by
  rw [bne_iff_ne,ofString_empty]
  intro e
  have:=congrArg Str.length e
  have e2 : (⟨w.toArray⟩ : Str).length = w.length:=List.size_toArray
  rw [e2] at this
  rw [this] at h
  exact absurd h (by decide)
section
variable {h₀ h : Heap} {L f c pl cp ct : Addr} {nm qual : Str} {ps : Arguments} {bd : List Stmt} {sc : Scope} {cl : List (Str × Addr)} {doc pm ctv : Value} {oc ocp oct : Obj} {t0 : Tok} {r2 : List (Addr × Obj)} {G : Prop}
theorem name_lxA (N : News h₀ L h ((f,fnMade nm qual ps bd sc cl doc pm c ctv) :: (c,oc) :: (pl,listOf #[.int 0 t0] 0) :: (cp,ocp) :: (ct,oct) :: r2))
    (k : ∀ f1 c1 oc1 pl1 ocp1 oct1 nm1 qual1 ps1 bd1 sc1 doc1 pm1 ctv1,f1 = f → c1 = c → oc1 = oc → pl1 = pl → ocp1 = ocp → oct1 = oct → nm1 = nm → qual1 = qual → ps1 = ps → bd1 = bd → sc1 = sc → doc1 = doc → pm1 = pm → ctv1 = ctv →
      News h₀ L h ((f,fnMade nm1 qual1 ps1 bd1 sc1 cl doc1 pm1 c ctv1) :: (c,oc) :: (pl,listOf #[.int ((0:Nat) : Int) t0] 0) :: (cp,ocp) :: (ct,oct) :: r2) → G) : G:=
  k f c oc pl ocp oct nm qual ps bd sc doc pm ctv rfl rfl rfl rfl rfl rfl rfl rfl rfl rfl rfl rfl rfl rfl N
theorem name_lxB (N : News h₀ L h ((f,fnMade nm qual ps bd sc cl doc pm c ctv) :: (pl,listOf #[.int 0 t0] 0) :: (cp,ocp) :: (ct,oct) :: r2))
    (k : ∀ f1 pl1 ocp1 oct1 nm1 qual1 ps1 bd1 sc1 doc1 pm1 ctv1,f1 = f → pl1 = pl → ocp1 = ocp → oct1 = oct → nm1 = nm → qual1 = qual → ps1 = ps → bd1 = bd → sc1 = sc → doc1 = doc → pm1 = pm → ctv1 = ctv →
      News h₀ L h ((f,fnMade nm1 qual1 ps1 bd1 sc1 cl doc1 pm1 c ctv1) :: (pl,listOf #[.int ((0:Nat) : Int) t0] 0) :: (cp,ocp) :: (ct,oct) :: r2) → G) : G:=
  k f pl ocp oct nm qual ps bd sc doc pm ctv rfl rfl rfl rfl rfl rfl rfl rfl rfl rfl rfl rfl N
theorem name_told {e1 e2 e3 e4 : DictEntry} {hh : Int} {kk : Str} {a4 : Tok} {vv : Value} {told sdx : Addr} {lo : Obj} {r1 r2' r3 r4 r5 : Addr × Obj} {cs : Nat} (N : News h₀ L h ((told,lo) :: r1 :: r2' :: r3 :: r4 :: r5 :: (sdx,dictOf [e1,e2,e3,e4,{ hash := hh,key := .str kk a4,val := vv }] cs) :: r2))
    (k : ∀ told1 a41 cs1,told1 = told → News h₀ L h ((told,lo) :: r1 :: r2' :: r3 :: r4 :: r5 :: (sdx,dictOf [e1,e2,e3,e4,{ hash:=hh,key:=.str kk a41,val:=vv }] cs1) :: r2) → G) : G:=k told a4 cs rfl N
end
section
variable {h₀ : Heap} {s s' : Shared} {L told : Addr} {m : Str → Option Value} {A : NA} {T : NT} {V V' : NV} {lo : Obj} {oth : List (Addr × Obj)} {p : Params}
theorem step_tok (F : Fr h₀ L s.heap m) (N : News h₀ L s.heap ((told,lo) :: (nLed p A T V ++ oth))) (kp : Keep [A.pl,A.ldx] s s') (hw : ∀ q ∈ nLed p A T V',s'.heap.get? q.1 = some q.2) (ht : told ≠ A.pl ∧ told ≠ A.ldx) (ho : ∀ q ∈ oth,q.1 ≠ A.pl ∧ q.1 ≠ A.ldx) :
    Fr h₀ L s'.heap m ∧ News h₀ L s'.heap ((told,lo) :: (nLed p A T V' ++ oth)):=by
  have two : ∀ {a:Addr},a ≠ A.pl ∧ a ≠ A.ldx → a ∉ [A.pl,A.ldx]:=fun h hm=>by
    simp only [List.mem_cons,List.not_mem_nil,or_false] at hm
    exact hm.elim h.1 h.2
  have hW : ∀ a ∈ [A.pl,A.ldx],a ∈ ((told,lo) :: (nLed p A T V ++ oth)).map (·.1):=by
    intro a ha
    simp only [List.mem_cons,List.not_mem_nil,or_false] at ha
    rcases ha with rfl | rfl
    · exact List.Mem.tail _ (List.Mem.head _)
    · exact List.Mem.tail _ (List.Mem.tail _ (List.Mem.head _))
  obtain ⟨F2,N2⟩:=step_after (W:=[A.pl,A.ldx]) (new:=nLed p A T V') (rest:=(told,lo) :: oth) F N kp hW
    (all_cons ⟨List.Mem.head _,two ht⟩ (fun q hq=>⟨List.Mem.tail _ (List.mem_append_right _ hq),two (ho q hq)⟩))
    hw (fun a ha=>.inl (List.Mem.tail _ (by
      rw [List.map_append]
      exact List.mem_append_left _ ha)))
  refine ⟨F2,fun q hq=>N2 q ?_⟩
  rcases List.mem_cons.mp hq with rfl | hq
  · exact List.mem_append_right _ (List.Mem.head _)
  rcases List.mem_append.mp hq with hq | hq
  · exact List.mem_append_left _ hq
  · exact List.mem_append_right _ (List.Mem.tail _ hq)
end

end
section
set_option maxRecDepth 100000
section
theorem compare_spec {w : World} {mean : ExcName → Option Value} {mg mb : Str → Option Value} {h₀ : Heap} {s : Shared} {dp un : Nat} {fr : Option (List Env)} {gd : Option (List Code)} {Q E : Value → Shared → Prop}
  {A:CA} {q1 q2 : EA} {d k : Int} {bn : Bool} (hk : k = if bn then 2 else 1)
  (C:Cx w mean mg mb h₀ s (cmpLed w.params A d k ++ [(q1.a,entObj q1),(q2.a,entObj q2)])) (hd : dp + 10 < recursionLimit) (hu : un + 40 < cLine) (hdd : -2 < d ∧ d < 2)
  (hret : ∀ h' tk' t',Keep [] s { s with heap:=h',toks:=tk' } → Q (.int (cmpE d bn q1.e q2.e) t') { s with heap:=h',toks:=tk' }) :
  wpAny (model P0 w) (Ar dp fr gd un) (call (.ref 231) [.ref A.cx,.ref q1.a,.ref q2.a]) Q E s:=by
  cases bn with
  | true=>exact compare_name (a:=q1.e) (b:=q2.e) (by subst hk;exact C) hd hu hdd hret
  | false=>exact compare_place (a:=q1.e) (b:=q2.e) (by subst hk;exact C) hd hu hdd hret
theorem int_at {g h : Heap} {L : Addr} {m : Str → Option Value} {t : Tok} {k k' : Int} (_F : Fr g L h m) (x : Str) (h : m x = some (.int k t)) (e : k = k') : m x = some (.int k' t) := e ▸ h
theorem famW_start {d : Int} {bn : Bool} {ev : List Ev} {i : Nat} {n : Str} (he : ev[i]? = some (true,n)) : famW d bn ev (i + 1) = ((famW d bn ev i).1 ++ [n],insE d bn ⟨(famW d bn ev i).1.getLast?.getD Str.empty,(famW d bn ev i).2.length,n⟩ (famW d bn ev i).2) := by
  rw [famW,List.getD_eq_getElem?_getD,he];rfl
theorem famW_end {d : Int} {bn : Bool} {ev : List Ev} {i : Nat} {n : Str} (he : ev[i]? = some (false,n)) : famW d bn ev (i + 1) = ((famW d bn ev i).1.dropLast,(famW d bn ev i).2) := by
  rw [famW,List.getD_eq_getElem?_getD,he];rfl
theorem keep_nil {h₀ : Heap} {s s' : Shared} {L : Addr} {m : Str → Option Value} {news : List (Addr × Obj)} (Fz : Fr h₀ L s.heap m) (N : News h₀ L s.heap news) (kp : Keep [] s s') : Fr h₀ L s'.heap m ∧ News h₀ L s'.heap news :=
  ⟨after_fr Fz (W:=[]) (fun _ h=>nomatch h) kp,fun p hp=>⟨kp _ _ (N p hp).1 (fun h=>nomatch h),(N p hp).2⟩⟩
theorem name_tok {h₀ h : Heap} {L pi : Addr} {a1 a2 : Addr × Obj} {l : SV} {x : Str} {t : Tok} {k : Nat} {r : List (Addr × Obj)} {G : Prop} (N : News h₀ L h (a1 :: a2 :: (pi,listOf (svs (l ++ [(x,t)])).toArray k) :: r))
    (c : ∀ t1,News h₀ L h (a1 :: a2 :: (pi,listOf (svs (l ++ [(x,t1)])).toArray k) :: r) → G) : G:=c t N
theorem refs_app (a b : List EA) : refs (a ++ b) = refs a ++ refs b := by simp [refs]
theorem entLed_app (a b : List EA) : entLed (a ++ b) = entLed a ++ entLed b := by simp [entLed]
structure FS where
  (pl : SV) (pn : Nat) (es : List EA) (en : Nat) (pt : Tok)
namespace Y4k
noncomputable def P (cx : Addr) (cdx : Addr) (cl : Addr) (ta : Addr) (tb : Addr) (q0 : Tok) (qi : Tok) (qj : Tok) (qz : Tok) (ql : Tok) (cn : Nat) (ln : Nat) (d : Int) (k : Int) (bn : Bool) (wA : Addr) (wv : List Value) (ev : List Ev) (w : World) (mean : ExcName → Option Value) (mg : Str → Option Value) (mb : Str → Option Value) (h₀ : Heap) (s : Shared) (dp : Nat) (un : Nat) (fr : Option (List Env)) (gd : Option (List Code)) (Q : Value → Shared → Prop) (g : Heap) (L : Addr) (h : Heap) (tk0 : Tok) : Prop :=
  ∀ (hk : k = if bn then 2 else 1) (hdd : -2 < d ∧ d < 2) (C:Cx w mean mg mb h₀ s (cmpLed w.params (⟨cx,cdx,cl,ta,tb,q0,qi,qj,qz,ql,cn,ln⟩ : CA) d k)) (hd : dp + 30 < recursionLimit) (hu : un + 100 < cLine) (hw : s.heap.IsList wA wv.toArray) (hwv : StrsAre wv (ev.map wordOf)) (hwU : ∀ a ∈ (cmpLed w.params (⟨cx,cdx,cl,ta,tb,q0,qi,qj,qz,ql,cn,ln⟩ : CA) d k).map (·.1),wA ≠ a) (hN : ∀ e ∈ ev,NameTx e.2) (hop : ∀ j n,ev[j]? = some (false,n) → 0 < opensAt ev j) (hl : ev.length < 60) (hret : ∀ h' tk' D vs' n,h'.get? D = some (seqObj "list" vs'.toArray n) → StrsAre vs' (sortS (famsK (famW d bn ev ev.length).2 (famW d bn ev ev.length).2.length)) → s.heap.get? D = none → Keep [] s { s with heap:=h',toks:=tk' } → Q (.ref D) { s with heap:=h',toks:=tk' }),
  BGoal wpAny w mean mg mb s (cmpLed w.params (⟨cx,cdx,cl,ta,tb,q0,qi,qj,qz,ql,cn,ln⟩ : CA) d k) dp un fr gd 301 [(Str.ofString "words",.ref wA),(Str.ofString "comp",.ref cx)] Q g L h tk0
noncomputable def F := ucr fun cx=>ucr fun cdx=>ucr fun cl=>ucr fun ta=>ucr fun tb=>ucr fun q0=>ucr fun qi=>ucr fun qj=>ucr fun qz=>ucr fun ql=>ucr fun cn=>ucr fun ln=>ucr fun d=>ucr fun k=>ucr fun bn=>ucr fun wA=>ucr fun wv=>ucr fun ev=>ucr fun w=>ucr fun mean=>ucr fun mg=>ucr fun mb=>ucr fun h₀=>ucr fun s=>ucr fun dp=>ucr fun un=>ucr fun fr=>ucr fun gd=>ucr fun Q=>ucr fun g=>ucr fun L=>ucr fun h tk0=>P cx cdx cl ta tb q0 qi qj qz ql cn ln d k bn wA wv ev w mean mg mb h₀ s dp un fr gd Q g L h tk0
noncomputable section
@[irreducible] def zz := eps ((0),(0),(0),(0),(0),(0),(0),(0),(0),(0),(0),(0),(0),(0),(false),(0),([]),([]),d0) F
@[irreducible] def cx := zz.1
@[irreducible] def cdx := zz.2.1
@[irreducible] def cl := zz.2.2.1
@[irreducible] def ta := zz.2.2.2.1
@[irreducible] def tb := zz.2.2.2.2.1
@[irreducible] def q0 := zz.2.2.2.2.2.1
@[irreducible] def qi := zz.2.2.2.2.2.2.1
@[irreducible] def qj := zz.2.2.2.2.2.2.2.1
@[irreducible] def zz8 := zz.2.2.2.2.2.2.2.2
@[irreducible] def qz := zz8.1
@[irreducible] def ql := zz8.2.1
@[irreducible] def cn := zz8.2.2.1
@[irreducible] def ln := zz8.2.2.2.1
@[irreducible] def d := zz8.2.2.2.2.1
@[irreducible] def k := zz8.2.2.2.2.2.1
@[irreducible] def bn := zz8.2.2.2.2.2.2.1
@[irreducible] def wA := zz8.2.2.2.2.2.2.2.1
@[irreducible] def zz16 := zz8.2.2.2.2.2.2.2.2
@[irreducible] def wv := zz16.1
@[irreducible] def ev := zz16.2.1
@[irreducible] def w := zz16.2.2.1
@[irreducible] def mean := zz16.2.2.2.1
@[irreducible] def mg := zz16.2.2.2.2.1
@[irreducible] def mb := zz16.2.2.2.2.2.1
@[irreducible] def h₀ := zz16.2.2.2.2.2.2.1
@[irreducible] def s := zz16.2.2.2.2.2.2.2.1
@[irreducible] def zz24 := zz16.2.2.2.2.2.2.2.2
@[irreducible] def dp := zz24.1
@[irreducible] def un := zz24.2.1
@[irreducible] def fr := zz24.2.2.1
@[irreducible] def gd := zz24.2.2.2.1
@[irreducible] def Q := zz24.2.2.2.2.1
@[irreducible] def g := zz24.2.2.2.2.2.1
@[irreducible] def L := zz24.2.2.2.2.2.2.1
@[irreducible] def h := zz24.2.2.2.2.2.2.2.1
@[irreducible] def zz32 := zz24.2.2.2.2.2.2.2.2
@[irreducible] def tk0 := zz32
end
noncomputable def half : {M : Addr → Addr → SV → Nat → (List EA) → Nat → Tok → Nat → (Str → Option Value) → Heap → Nat → Addr → Obj → Str → Tok → Heap → Heap → Heap → Addr → Tok → Tok → Tok → Tok → Prop // (∀ pi od pl pn es en pt i u h1 tk1 I oI n tv i8 h2 i15 ea y1 y2 y3 tkn,M pi od pl pn es en pt i u h1 tk1 I oI n tv i8 h2 i15 ea y1 y2 y3 tkn) → P cx cdx cl ta tb q0 qi qj qz ql cn ln d k bn wA wv ev w mean mg mb h₀ s dp un fr gd Q g L h tk0} := ⟨_,fun TT=>by
  k_with_none
  k_with "K.om" => first | exact lim1 (by assumption) (by decide) | exact lim2 (by assumption) (by decide) | exact lim3 (by assumption) (by decide) | exact lt_mem (by assumption) (by k_mem) | exact ne_mem (by assumption) (by k_mem) | exact Ne.symm (ne_mem (by assumption) (by k_mem)) | exact ne_mem2 (by assumption) (by k_mem) | exact Ne.symm (ne_mem2 (by assumption) (by k_mem)) | exact ne_L (by assumption) (by k_mem) | lia | omega (config:={}) | (k_extra "M.facts";omega (config:={}))
  k_with "K.ne" => (refine neN ?_;(try dsimp only);first | assumption | exact Ne.symm (by assumption) | exact ne_mem (by assumption) (by k_mem) | exact Ne.symm (ne_mem (by assumption) (by k_mem)) | exact ne_L (by assumption) (by k_mem) | exact Ne.symm (ne_L (by assumption) (by k_mem)) | omega)
  k_with "M.at" => first | exact AtP.head | (refine' AtP.tail ?kz;(case kz=>k_extra "M.at"))
  k_with "M.atF" => first | exact AtF.head | (refine' AtF.tail ?kz;(case kz=>k_extra "M.atF"))
  k_with "M.facts" => repeat (rename (∀ p ∈ (_:List (Addr × Obj)),p.1 < _)=>hraw;replace hraw:=allLt_of hraw;(try simp only [AllLt,and_true] at hraw))
  k_with "M.in" => ((case k1=>assumption);(case k6=>k_is);(case k7=>k_is);(case k8=>omega);(case k9=>first | exact BindsTo.of_eq rfl | exact binds_K (by k_in) rfl (by k_is) rfl rfl rfl | (refine' kp_binds (by k_in) (by exact fun _=>rfl)));(case c5=>decide);(case kB=>exact locs rfl);(case c2=>exact rfl);(case c3=>exact rfl);(case c4=>exact rfl);k_whole)
  k_with "M.ne" => (repeat (first | assumption | exact all_nil | (refine all_app (by assumption) ?_) | (refine all_cons (neN (by omega)) ?_)))
  k_with "M.upd" => (first | k_upd | (repeat (first | (refine Upd.head ?_;k_extra "M.ne") | (refine Upd.tail (neN (by omega)) ?_))))
  k_with "execs cons" => (refine wpAny_execs_cons ?_;k_fold)
  k_with "call ref" => ((with_reducible show wpAny _ _ (call (Value.ref 98) _) _ _ _);k_dflt (refine' call_join98 (by k_asm) (by k_asm) (by assumption) (by k_mem) ?_ ?_;rotate_left;intro _ _))
  k_with "call ref" => ((with_reducible show wpAny _ _ (call (Value.ref _) [Value.str _ _]) _ _ _);k_dflt (refine' call_bd_K (by k_asm) (by k_asm) (by k_mem) (by k_upd) ?_ ?_;intro _ _ _;(try k_sweep)))
  k_with "call builtin:list.append" => (k_dflt (refine' append_svs (by k_asm) (by k_asm) (by k_upd) ?_ ?_;intro _ _ _;(try k_sweep)))
  k_with "exec For Name Name cons nil" => (with_unfolding_all refine' for_T ?_;k_whole)
  k_with "exec For Name Call cons nil" => (with_unfolding_all refine' for_G ?_;k_whole)
  k_with "exec While BoolOp cons nil" => (refine hold ?_)
  k_with "exec While" => (refine hold ?_)
  k_with "call builtin:list.insert" => (refine hold ?_)
  k_with "subscriptTail Name BinOp ref int" => (k_dflt (first | (refine' sub_refs (by assumption) (by omega) (by omega) (by k_asm) (by k_mem) ?_) | (refine' sub_prv (by assumption) (by omega) (by omega) (by k_asm) (by k_mem) ?_)))
  k_with "subscriptTail Name Name ref int" => (k_dflt (refine' sub_cur (by assumption) (by omega) (by omega) (by k_asm) (by k_mem) ?_))
  k_with "call builtin:sorted" => (refine hold ?_)
  k_with "setItem ref int" => (refine hold ?_)
  k_with "binaryOp Add str str" => (refine add_str_ob ?_ ?_;intro _ _)
  k_with "subscriptTail Name Constant str int" => ((first | refine sub_open (by assumption) ?_ | refine sub_close (by assumption) ?_ | refine sub_close2 (by assumption) ?_))
  k_with "subscriptTail Name UnaryOp ref int" => ((with_reducible show wpAny _ _ (subscriptTail _ _ (Value.ref _) (Value.int (-1) _)) _ _ _);k_dflt (refine' last_svs (by k_asm) (by k_mem) (by assumption) (by omega) ?_;intro _))
  k_with "call builtin:list.append" => (refine hold ?_)
  k_with "call builtin:list.pop" => (refine hold ?_)
  k_with "call builtin:len" => ((with_reducible show wpAny _ _ (call (Value.builtin "len") [Value.ref _]) _ _ _);k_dflt (refine' len_vals (by k_asm) (by k_mem) (by (rw [refs_length];omega)) ?_))
  k_with "call ref" => ((with_reducible show wpAny _ _ (call (Value.ref 231) _) _ _ _);refine hold ?_)
  k_with "call ref" => ((with_reducible show wpAny _ _ (call (Value.ref 245) _) _ _ _);refine hold ?_)
  intro hk hdd C hd hu hw hwv hwU hN hop hl hret F N X TP kG lG eL
  dsimp only [cmpLed] at C hwU ⊢
  have k0 : PySem.Challenge.rw_if0027_01 = PySem.Challenge.rw_if0027_01:=rfl
  revert X k0;k_fill;intro X k0;clear k0
  k_dflt (refine' bg_use ?k6 ?_;(case k6=>k_is);k_whole)
  dsimp only [cmpLed] at N kG lG ⊢
  have hw' : g.IsList wA wv.toArray:=hw.at fun o e=>kG _ o e fun hb=>hwU _ hb rfl
  have hlw:=hwv.length
  rw [List.length_map] at hlw
  k_lt lG
  (try dsimp only)
  k_steps
  (rename Fr _ _ _ _=>F5)
  (rename News _ _ _ _=>N5)
  refine name_two N5 ?_
  intro pi od tk0 epi eod N6
  subst epi eod
  clear N5
  refine' loop_list_G (σ:=FS) (l:=wA) (items:=wv.toArray) (oth:=[]) (fun c=>(od,listOf (refs c.es).toArray c.en) :: (pi,listOf (svs c.pl).toArray c.pn) :: ((cmpLed w.params ⟨cx,cdx,cl,ta,tb,q0,qi,qj,qz,ql,cn,ln⟩ d k) ++ entLed c.es)) (fun c=>[(Str.ofString "place",.int (c.es.length : Int) c.pt)]) (Str.ofString "word") [Str.ofString "word",Str.ofString "entry",Str.ofString "at"] (fun i c gs=>gs = s.gens ∧ (c.pl.map (·.1),c.es.map (·.e)) = famW d bn ev i ∧ c.pl.length = opensAt ev i + 1 ∧ c.es.length ≤ i ∧ ∀ q ∈ c.es,q.e.n.length = 1) ⟨[(Str.ofString "",tk0)],0,[],0,_⟩ GoesBy.name rfl ?hL F5 ?hN ?hk ?hp ?turn ?done
  case hL=>exact fun c h m F N=>hw'.at fun o e=>F.keep _ o e
  case hN=>exact fun q hq=>N6 q (by revert q hq;dsimp only [cmpLed,entLed,List.map,List.cons_append,List.nil_append,List.append_nil];k_allIn)
  case hk=>exact all_cons (by with_unfolding_all rfl) all_nil
  case hp=>exact ⟨rfl,rfl,rfl,Nat.le_refl _,fun _ h=>nomatch h⟩
  case done =>
    rintro ⟨pl,pn,es,en,pt⟩ u h1 tk1 gs ⟨rfl,hW,hpl,hel,he1⟩ F6 N7
    dsimp only at hW hpl hel F6 N7
    have hsz : wv.toArray.size = ev.length:=by rw [List.size_toArray];exact hlw
    rw [hsz] at hW hpl hel
    have hord : (famW d bn ev ev.length).2 = es.map (·.e):=(congrArg Prod.snd hW).symm
    rw [hord] at hret
    have hlen : (es.map (·.e)).length = es.length:=List.length_map _
    rw [hlen] at hret
    dsimp only [cmpLed] at N7
    simp only [List.append_assoc,List.cons_append,List.nil_append,List.append_nil] at N7
    have hsub : ∀ p ∈ entLed es,NewsMem N7 p:=fun p hp=>by
      show _ ∈ _
      repeat (first | exact hp | refine List.Mem.tail _ ?_)
    have hEod:=ent_ne N7 hsub (List.Mem.head _)
    have hEpi:=ent_ne N7 hsub (List.Mem.tail _ (List.Mem.head _))
    k_steps
    (rename Fr _ _ _ _=>F8)
    (rename News _ _ _ _=>N8)
    refine name_fam N8 ?_
    intro fa efa N9
    subst efa
    clear N8
    refine' loop_range_G (σ:=SV × Nat) (n:=es.length) (oth:=(od,listOf (refs es).toArray en) :: (cmpLed w.params ⟨cx,cdx,cl,ta,tb,q0,qi,qj,qz,ql,cn,ln⟩ d k ++ entLed es)) (fun c=>[(fa,listOf (svs c.1).toArray c.2)]) (fun _=>[]) [Str.ofString "name"] (fun i c gs=>gs = s.gens ∧ c.1.map (·.1) = famsK (es.map (·.e)) i ∧ c.1.length ≤ i ∧ (0 < i → c.1 ≠ []) ∧ ∀ p ∈ c.1,p.1.length ≤ i) ([],0) (by rfl) (by rfl) rfl ?hr5 ?hn5 ?hb5 F8 ?hN5 (fun _ h=>nomatch h) ⟨rfl,rfl,Nat.le_refl _,fun h=>absurd h (Nat.lt_irrefl _),fun _ h=>nomatch h⟩ ?turn5 ?done5
    case hr5=>assumption
    case hn5=>rw [refs_length];omega
    case hb5=>rw [refs_length];omega
    case hN5=>exact fun q hq=>N9 q (by
      rcases List.mem_cons.mp hq with rfl | hq
      · exact List.Mem.head _
      rcases List.mem_cons.mp hq with rfl | hq
      · exact List.Mem.tail _ (List.Mem.head _)
      exact List.Mem.tail _ (List.Mem.tail _ (List.Mem.tail _ hq)))
    case done5=>
      rintro ⟨fl,fn⟩ u2 h2 tk2 gs ⟨rfl,hF,hfl,hf0,hfb⟩ F10 N10
      dsimp only [cmpLed] at hF hfl F10 N10
      simp only [List.cons_append,List.nil_append] at N10
      k_steps
      (rename Fr _ _ _ _=>F11)
      (rename News _ _ _ _=>N11)
      show wpAny _ _ _ _ _ _
      refine sorted_K F11 N11 ⟨_,(N11 (fa,_) (List.Mem.head _)).1,rfl,_,rfl⟩ (svs_strs fl) (by rw [svs_length];omega) ?_
      intro D h3 vs' e3 hDL0 F12 N12 hS
      have hDL : @LT.lt Nat _ L D:=hDL0
      rw [hF] at hS
      k_steps
      refine Leave.intro (by assumption) fun kp=>?_
      (rename News _ _ _ _=>N13)
      show Q _ _
      exact hret _ _ _ vs' e3 (at_of N13 (List.Mem.head _)) hS (fresh_of N13 (List.Mem.head _) kG (fun hm=>by refine obEA (List.mem_map.mp hm) ?_;intro p hp e;exact Nat.lt_irrefl _ (Nat.lt_trans hDL (e ▸ lG p hp)))) (keep_less (fun q hq=>(C.U q hq).1) (fun q hq hn=>(N13 q (by clear hn;revert q hq;k_allIn)).1) kp)
    case turn5=>
      rintro ⟨fl,fn⟩ kk tt2 u2 h2 tk2 gs I oI hkk hne ⟨rfl,hF,hfl,hf0,hfb⟩ F10 N10
      dsimp only [cmpLed] at hF hfl hf0 hfb F10 N10 hne
      simp only [List.cons_append,List.nil_append] at N10 hne
      have hIfa : @Ne Nat fa I:=hne _ (List.Mem.head _)
      have hIod : @Ne Nat od I:=hne _ (List.Mem.tail _ (List.Mem.head _))
      have hsub2 : ∀ p ∈ entLed es,NewsMem N10 p:=fun p hp=>by
        show _ ∈ _
        repeat (first | exact hp | refine List.Mem.tail _ ?_)
      have hEfa:=ent_ne N10 hsub2 (List.Mem.head _)
      obtain ⟨q1,hq1⟩ : ∃ q,es[kk]? = some q:=⟨es[kk],List.getElem?_eq_getElem hkk⟩
      have hc1 : Cur es kk q1:=⟨hq1⟩
      have hm1:=mem_entLed (List.mem_of_getElem? hq1)
      have hz1 : @Ne Nat q1.a fa:=hEfa _ hm1
      have hn1:=he1 q1 (List.mem_of_getElem? hq1)
      have hl1 : (es.map (·.e))[kk]? = some q1.e:=by rw [List.getElem?_map,hq1];rfl
      have hfk : famsK (es.map (·.e)) (kk + 1) = (if (decide (0 < kk) && ((es.map (·.e)).getD (kk - 1) q1.e).o == q1.e.o) then (famsK (es.map (·.e)) kk).dropLast ++ [(famsK (es.map (·.e)) kk).getLast?.getD Str.empty ++ q1.e.n] else famsK (es.map (·.e)) kk ++ [q1.e.n]):=by
        rw [famsK];simp only [hl1]
      have N11 : News g L h2 ((q1.a,entObj q1) :: (fa,listOf (svs fl).toArray fn) :: (I,oI) :: (od,listOf (refs es).toArray en) :: (cx,instObj 234 cdx) :: (cdx,dictOf [{ hash:=PyData.keyHash w.params (Str.ofString "comp_select_list"),key:=.str (Str.ofString "comp_select_list") q0,val:=.ref cl }] cn) :: (cl,listOf #[.ref ta,.ref tb] ln) :: (ta,tup2 (.int 0 qi) (.int d qj)) :: (tb,tup2 (.int k qz) (.int 1 ql)) :: entLed es):=all_cons (N10 _ (hsub2 _ hm1)) N10
      rcases kk with _ | kk
      · clear hsub2
        clear N10
        k_steps
        (rename Fr _ _ _ _=>F13)
        (rename News _ _ _ _=>N13)
        show wpAny _ _ _ _ _ _
        refine' fname_spec (mean:=mean) (mg:=mg) (mb:=mb) (h₀:=g) (q:=q1) (Cx.of X TP F13 N13 (all_cons (by k_mem) all_nil)) ?dA ?uA ?rA
        case dA=>(try dsimp only [Around.deeper]);omega
        case uA=>(try dsimp only [Around.deeper]);omega
        intro h4 tk4 kp4
        refine obA (keep_nil F13 N13 kp4) ?_;intro F14 N14
        clear F13 N13
        k_steps
        (rename Fr _ _ _ _=>F15)
        (rename News _ _ _ _=>N15)
        show wpAny _ _ _ _ _ _
        refine append_svs F15 N15 (Upd.tail hz1 (Upd.head (by k_extra "M.ne"))) ?_ (by show _ ≤ _;rw [sizeLine_eq];omega)
        intro h5 F16 N16
        clear F15 N15
        k_steps
        (rename Fr _ _ _ _=>F17)
        (rename News _ _ _ _=>N17)
        refine' TEndG.intro (fl ++ [(q1.e.n,q1.x3)],fn + 1) F17 N17 (all_cons ⟨by k_mem,neN (by omega)⟩ all_nil) ?oA (fun _ h=>nomatch h) ?r2A ⟨rfl,?pA,?qA,?sA,?tA⟩
        case oA=>exact fun p hp=>(by repeat (first | exact hp | refine List.Mem.tail _ ?_))
        case r2A=>intro z h1 h2 h3;(try simp at h3);(try simp at h2);first | simp [kstB,h1,h2,h3] | simp [kstB,h1,h3] | simp [kstB,h1,h2] | simp [kstB,h1] | simp_all [kstB]
        case pA=>rw [hfk,if_neg (by simp),List.map_append,hF];rfl
        case qA=>show (fl ++ _).length ≤ _;rw [List.length_append,List.length_cons,List.length_nil];omega
        case sA=>exact fun _ h=>absurd h (by simp)
        case tA=>
          refine all_app (fun p hp=>Nat.le_succ_of_le (hfb p hp)) (all_cons ?_ all_nil)
          show q1.e.n.length ≤ _
          omega
      · obtain ⟨e0, hq0⟩ : ∃ q, es[kk]? = some q := ⟨es[kk], List.getElem?_eq_getElem (by omega)⟩
        have hc0 : Prv es kk e0:=⟨hq0⟩
        have hm0:=mem_entLed (List.mem_of_getElem? hq0)
        have hz0 : @Ne Nat e0.a fa:=hEfa _ hm0
        have N12 : News g L h2 ((e0.a,entObj e0) :: (q1.a,entObj q1) :: (fa,listOf (svs fl).toArray fn) :: (I,oI) :: (od,listOf (refs es).toArray en) :: (cx,instObj 234 cdx) :: (cdx,dictOf [{ hash:=PyData.keyHash w.params (Str.ofString "comp_select_list"),key:=.str (Str.ofString "comp_select_list") q0,val:=.ref cl }] cn) :: (cl,listOf #[.ref ta,.ref tb] ln) :: (ta,tup2 (.int 0 qi) (.int d qj)) :: (tb,tup2 (.int k qz) (.int 1 ql)) :: entLed es):=all_cons (N10 _ (hsub2 _ hm0)) N11
        have hg0 : (es.map (·.e)).getD (kk + 1 - 1) q1.e = e0.e:=by rw [Nat.add_sub_cancel,List.getD_eq_getElem?_getD,List.getElem?_map,hq0];rfl
        clear hsub2
        clear N10 N11
        clear hq1 hq0
        have hfne:=hf0 (Nat.succ_pos _)
        have hll : ((fl.map (·.1)).getLast?.getD Str.empty).length ≤ kk + 1:=by
          rw [List.getLast?_map,List.getLast?_eq_some_getLast hfne]
          exact hfb _ (List.getLast_mem hfne)
        k_steps
        (rename Fr _ _ _ _=>F13)
        (rename News _ _ _ _=>N13)
        show wpAny _ _ _ _ _ _
        refine' fname_spec (mean:=mean) (mg:=mg) (mb:=mb) (h₀:=g) (q:=q1) (Cx.of X TP F13 N13 (all_cons (by k_mem) all_nil)) ?dB ?uB ?rB
        case dB=>(try dsimp only [Around.deeper]);omega
        case uB=>(try dsimp only [Around.deeper]);omega
        intro h4 tk4 kp4
        refine obA (keep_nil F13 N13 kp4) ?_;intro F14 N14
        clear F13 N13
        k_steps
        · (rename ((e0.e.o == q1.e.o) = true) => heq)
          (rename Fr _ _ _ _=>F15)
          (rename News _ _ _ _=>N15)
          show wpAny _ _ _ _ _ _
          refine set_last_svs F15 N15 (Upd.tail hz0 (Upd.tail hz1 (Upd.head (by k_extra "M.ne")))) hfne ?_
          intro h5 F16 N16
          clear F15 N15
          k_steps
          (rename Fr _ _ _ _=>F17)
          (rename News _ _ _ _=>N17)
          refine' TEndG.intro (fl.dropLast ++ [_],fn) F17 N17 (all_cons ⟨by k_mem,neN (by omega)⟩ all_nil) ?oC (fun _ h=>nomatch h) ?r2C ⟨rfl,?pC,?qC,?sC,?tC⟩
          case oC=>exact fun p hp=>(by repeat (first | exact hp | refine List.Mem.tail _ ?_))
          case r2C=>intro z h1 h2 h3;(try simp at h3);(try simp at h2);first | simp [kstB,h1,h2,h3] | simp [kstB,h1,h3] | simp [kstB,h1,h2] | simp [kstB,h1] | simp_all [kstB]
          case pC=>rw [hfk,if_pos (by rw [hg0,heq];rfl),List.map_append,List.map_dropLast,hF];rfl
          case qC=>show (fl.dropLast ++ _).length ≤ _;rw [List.length_append,List.length_dropLast,List.length_cons,List.length_nil];omega
          case sC=>exact fun _ h=>absurd h (by simp)
          case tC=>
            refine all_app (fun p hp=>Nat.le_succ_of_le (hfb p (List.dropLast_subset _ hp))) (all_cons ?_ all_nil)
            show (_ ++ q1.e.n).length ≤ _
            rw [str_len_append];omega
        · show _ ≤ _
          rw [sizeLine_eq];omega
        · (rename ((e0.e.o == q1.e.o) = false) => heq)
          (rename Fr _ _ _ _=>F15)
          (rename News _ _ _ _=>N15)
          show wpAny _ _ _ _ _ _
          refine append_svs F15 N15 (Upd.tail hz0 (Upd.tail hz1 (Upd.head (by k_extra "M.ne")))) ?_ (by show _ ≤ _;rw [sizeLine_eq];omega)
          intro h5 F16 N16
          clear F15 N15
          k_steps
          (rename Fr _ _ _ _=>F17)
          (rename News _ _ _ _=>N17)
          refine' TEndG.intro (fl ++ [(q1.e.n,q1.x3)],fn + 1) F17 N17 (all_cons ⟨by k_mem,neN (by omega)⟩ all_nil) ?oD (fun _ h=>nomatch h) ?r2D ⟨rfl,?pD,?qD,?sD,?tD⟩
          case oD=>exact fun p hp=>(by repeat (first | exact hp | refine List.Mem.tail _ ?_))
          case r2D=>intro z h1 h2 h3;(try simp at h3);(try simp at h2);first | simp [kstB,h1,h2,h3] | simp [kstB,h1,h3] | simp [kstB,h1,h2] | simp [kstB,h1] | simp_all [kstB]
          case pD=>rw [hfk,if_neg (by rw [hg0,heq];simp),List.map_append,hF];rfl
          case qD=>show (fl ++ _).length ≤ _;rw [List.length_append,List.length_cons,List.length_nil];omega
          case sD=>exact fun _ h=>absurd h (by simp)
          case tD=>
            refine all_app (fun p hp=>Nat.le_succ_of_le (hfb p hp)) (all_cons ?_ all_nil)
            show q1.e.n.length ≤ _
            omega
  case turn=>
    rintro ⟨pl,pn,es,en,pt⟩ i v u h1 tk1 gs I oI hi hv hne ⟨rfl,hW,hpl,hel,he1⟩ F6 N7
    dsimp only at hW hpl hel F6 N7 hne
    have hi' : i < ev.length:=by rw [List.size_toArray] at hi;omega
    obtain ⟨⟨b,n⟩,he⟩ : ∃ e,ev[i]? = some e:=⟨ev[i],List.getElem?_eq_getElem hi'⟩
    obtain ⟨tv,hvt⟩:=hwv.get i (wordOf (b,n)) (by rw [List.getElem?_map,he];rfl)
    have hv2 : v = .str (wordOf (b,n)) tv:=by rw [List.getElem?_toArray,hvt] at hv;exact (Option.some.inj hv).symm
    obtain ⟨hn1,hn2,hn3⟩:=hN _ (List.mem_of_getElem? he)
    dsimp only at hn1 hn2
    have hopl:=opensAt_le ev i
    have hplne : pl ≠ []:=fun e=>by rw [e] at hpl;simp at hpl
    dsimp only [cmpLed] at N7 hne ⊢
    simp only [List.append_assoc,List.cons_append,List.nil_append,List.append_nil] at N7 hne
    have hneA:=allNe_of hne
    simp only [AllNe] at hneA
    replace N7 : News g L h1 ((od,listOf (refs es).toArray en) :: (pi,listOf (svs pl).toArray pn) :: (cx,instObj 234 cdx) :: (cdx,dictOf [{ hash:=PyData.keyHash w.params (Str.ofString "comp_select_list"),key:=.str (Str.ofString "comp_select_list") q0,val:=.ref cl }] cn) :: (cl,listOf #[.ref ta,.ref tb] ln) :: (ta,tup2 (.int 0 qi) (.int d qj)) :: (tb,tup2 (.int k qz) (.int 1 ql)) :: (I,oI) :: entLed es):=fun q hq=>N7 q (by
      revert q hq
      exact all_cons (by k_mem) (all_cons (by k_mem) (all_cons (by k_mem) (all_cons (by k_mem) (all_cons (by k_mem) (all_cons (by k_mem) (all_cons (by k_mem) (all_cons (by repeat (first | exact List.mem_append_right _ (List.Mem.head _) | refine List.Mem.tail _ ?_)) (fun p hp=>by repeat (first | exact List.mem_append_left _ hp | refine List.Mem.tail _ ?_)))))))))) 
    have hsub : ∀ p ∈ entLed es,NewsMem N7 p:=fun p hp=>by
      show _ ∈ _
      repeat (first | exact hp | refine List.Mem.tail _ ?_)
    have hEod:=ent_ne N7 hsub (List.Mem.head _)
    have hEpi:=ent_ne N7 hsub (List.Mem.tail _ (List.Mem.head _))
    have hEI : ∀ p ∈ entLed es,p.1 ≠ I:=fun p hp=>hne p (by repeat (first | exact hp | refine List.Mem.tail _ ?_))
    cases b with
    | false =>
      obtain rfl : v = .str (Str.ofString "</" ++ n ++ Str.ofString ">") tv:=hv2
      k_steps
      (rename Fr _ _ _ _=>F8)
      (rename News _ _ _ _=>N8)
      show wpAny _ _ _ _ _ _
      refine pop_svs F8 N8 (Upd.tail (neN (by omega)) (Upd.head (by k_extra "M.ne"))) hplne (by show _ ≤ _;rw [sizeLine_eq];omega) ?_
      intro h2 t2 F9 N9
      clear F8 N8
      k_steps
      (rename Fr _ _ _ _=>F10)
      (rename News _ _ _ _=>N10)
      refine' TEndG.intro ⟨pl.dropLast,pn + 1,es,en,pt⟩ F10 N10 ?hl1 ?ho1 ?hk1 ?hr1 ?hP1
      case hl1=>
        dsimp only [cmpLed]
        refine all_cons ⟨List.Mem.head _,neN (by omega)⟩ (all_cons ⟨List.Mem.tail _ (List.Mem.head _),neN (by omega)⟩ (all_app (fun p hp=>⟨by revert p hp;k_allIn,hne p ?_⟩) (fun p hp=>⟨?_,hEI p hp⟩)))
        · exact List.Mem.tail _ (List.Mem.tail _ (List.mem_append_left (entLed es) hp))
        · repeat (first | exact hp | refine List.Mem.tail _ ?_)
      case ho1=>exact all_cons (by k_mem) all_nil
      case hk1=>exact all_cons (by with_unfolding_all rfl) all_nil
      case hr1=>intro z h1 h2 h3;(try simp at h3);(try simp at h2);first | simp [kstB,h1,h2,h3] | simp [kstB,h1,h3] | simp [kstB,h1,h2] | simp [kstB,h1] | simp_all [kstB]
      case hP1=>
        refine ⟨rfl,?_,?_,(by show es.length ≤ i + 1;omega),he1⟩
        · rw [famW_end he,← hW];simp [List.map_dropLast]
        · show pl.dropLast.length = _
          rw [opens_end he,List.length_dropLast]
          have:=hop i n he
          omega
    | true =>
      obtain rfl : v = .str (Str.ofString "<" ++ n ++ Str.ofString ">") tv:=hv2
      k_steps
      (rename Fr _ _ _ _=>F8)
      (rename News _ _ _ _=>N8)
      show wpAny _ _ _ _ _ _
      refine append_svs F8 N8 (Upd.tail (neN (by omega)) (Upd.tail (neN (by omega)) (Upd.head (by k_extra "M.ne")))) ?_ (by show _ ≤ _;rw [sizeLine_eq];omega)
      intro h2 F9 N9
      clear F8 N8
      k_steps
      (rename Fr _ _ _ _=>F10)
      (rename News _ _ _ _=>N10)
      refine name_ent N10 rfl ?_
      intro ea y1 y2 y3 eea N11
      subst eea
      refine name_tok N11 ?_
      intro tkn N12
      clear N10 N11
      rename_i i1 i2 _ i3 _ i4 i5 i6 i7 _ _ i8 i9 i10 _ i11 i12 i13 i14 i15 i16
      clear i14 i13 i12 i11 i10 i9 i7 i6 hEpi
      revert hk hdd hd hu hl TP X hlw i1 i2 i3 hi hW hpl hel he1 hi' hn1 hne hneA N7 hsub hEod hEI he i4 i5 qk ek i16 F10 N12
      exact TT pi od pl pn es en pt i u h1 tk1 I oI n tv i8 h2 i15 ea y1 y2 y3 tkn⟩
namespace b
noncomputable def F := ucr fun pi=>ucr fun od=>ucr fun pl=>ucr fun pn=>ucr fun es=>ucr fun en=>ucr fun pt=>ucr fun i=>ucr fun u=>ucr fun h1=>ucr fun tk1=>ucr fun I=>ucr fun oI=>ucr fun n=>ucr fun tv=>ucr fun i8=>ucr fun h2=>ucr fun i15=>ucr fun ea=>ucr fun y1=>ucr fun y2=>ucr fun y3 tkn=>half.1 pi od pl pn es en pt i u h1 tk1 I oI n tv i8 h2 i15 ea y1 y2 y3 tkn
noncomputable section
@[irreducible] def zz := eps (0,0,[],0,[],0,0,0,(fun _=>none : Str → Option Value),{},0,0,listOf #[] 0,Str.empty,0,{},{},{},0,0,0,0,0) F
@[irreducible] def pi := zz.1
@[irreducible] def od := zz.2.1
@[irreducible] def pl := zz.2.2.1
@[irreducible] def pn := zz.2.2.2.1
@[irreducible] def es := zz.2.2.2.2.1
@[irreducible] def en := zz.2.2.2.2.2.1
@[irreducible] def pt := zz.2.2.2.2.2.2.1
@[irreducible] def i := zz.2.2.2.2.2.2.2.1
@[irreducible] def zz8 := zz.2.2.2.2.2.2.2.2
@[irreducible] def u := zz8.1
@[irreducible] def h1 := zz8.2.1
@[irreducible] def tk1 := zz8.2.2.1
@[irreducible] def I := zz8.2.2.2.1
@[irreducible] def oI := zz8.2.2.2.2.1
@[irreducible] def n := zz8.2.2.2.2.2.1
@[irreducible] def tv := zz8.2.2.2.2.2.2.1
@[irreducible] def i8 := zz8.2.2.2.2.2.2.2.1
@[irreducible] def zz16 := zz8.2.2.2.2.2.2.2.2
@[irreducible] def h2 := zz16.1
@[irreducible] def i15 := zz16.2.1
@[irreducible] def ea := zz16.2.2.1
@[irreducible] def y1 := zz16.2.2.2.1
@[irreducible] def y2 := zz16.2.2.2.2.1
@[irreducible] def y3 := zz16.2.2.2.2.2.1
@[irreducible] def tkn := zz16.2.2.2.2.2.2
end
theorem core : half.1 pi od pl pn es en pt i u h1 tk1 I oI n tv i8 h2 i15 ea y1 y2 y3 tkn := by
  intro hk hdd hd hu hl TP X hlw i1 i2 i3 hi hW hpl hel he1 hi' hn1 hne hneA N7 hsub hEod hEI he i4 i5 qk ek i16 F10 N12
  show wpAny _ _ _ _ _ _
  have hlen : (es.map (·.e)).length = es.length:=List.length_map _
  generalize hE0 : (⟨(pl.map (·.1)).getLast?.getD Str.empty,es.length,n⟩ : Ent) = E0 at N12
  refine' loop_while_to (σ:=Nat × Tok) (fun _=>[]) (fun c=>[(Str.ofString "at",.int (c.1 : Int) c.2)]) (fun nn c=>nn = c.1 ∧ c.1 ≤ es.length ∧ atOf d bn E0 (es.map (·.e)) es.length = atOf d bn E0 (es.map (·.e)) c.1) (fun c=>c.1 = atOf d bn E0 (es.map (·.e)) es.length) es.length (es.length,_) F10 N12 ?wk ?wp ?wturn ?wdone
  case wk=>exact all_cons (int_at F10 (Str.ofString "at") (by with_unfolding_all rfl) (by rw [refs_length])) all_nil
  case wp=>exact ⟨rfl,Nat.le_refl _,rfl⟩
  case wturn=>
    rintro ⟨j,tj⟩ nn h8 tk8 ⟨hnn,hj,hat⟩ F13 N13
    dsimp only at hnn hj hat F13 N13
    rw [List.nil_append] at N13
    rcases j with _ | j
    · k_steps
      (rename Fr _ _ _ _=>F14)
      (rename News _ _ _ _=>N14)
      exact ⟨(0,tj),_,_,rfl,hat.symm,F14,N14⟩
    · obtain ⟨q, hq⟩ : ∃ q, es[j]? = some q := ⟨es[j], List.getElem?_eq_getElem (by omega)⟩
      have hqe : (es.map (·.e)).getD j E0 = q.e:=by rw [List.getD_eq_getElem?_getD,List.getElem?_map,hq];rfl
      have hmq:=mem_entLed (List.mem_of_getElem? hq)
      k_steps
      (rename Fr _ _ _ _=>F14)
      (rename News _ _ _ _=>N14)
      show wpAny _ _ _ _ _ _
      have hU : ∀ p ∈ cmpLed w.params ⟨cx,cdx,cl,ta,tb,q0,qi,qj,qz,ql,cn,ln⟩ d k ++ [(ea,entObj ⟨ea,E0,y1,y2,y3⟩),(q.a,entObj q)],NewsMem N14 p:=by
        refine all_app ?_ (all_cons ?_ (all_cons ?_ all_nil))
        · dsimp only [cmpLed,NewsMem];k_allIn
        · exact List.Mem.head _
        · show _ ∈ _
          repeat (first | exact hmq | refine List.Mem.tail _ ?_)
      refine' compare_spec (mean:=mean) (mg:=mg) (mb:=mb) (h₀:=g) hk (q1:=⟨ea,E0,y1,y2,y3⟩) (q2:=q) (A:=⟨cx,cdx,cl,ta,tb,q0,qi,qj,qz,ql,cn,ln⟩) (Cx.of X TP F14 N14 hU) ?d2 ?u2 hdd ?r2
      case d2=>(try dsimp only [Around.deeper]);omega
      case u2=>(try dsimp only [Around.deeper]);omega
      intro h' tk' t' kp
      refine obA (keep_nil F14 N14 kp) ?_;intro F15 N15
      clear F14 N14 hU
      k_steps
      · (rename Fr _ _ _ _ => F16)
        (rename News _ _ _ _=>N16)
        (rename (cmpE d bn E0 q.e < 0)=>hlt)
        refine' WEnd.intro (j,_) F16 N16 (fun _ h=>nomatch h) (fun p hp=>hp) ?hkb ?hrb ?hPb
        case hkb=>exact all_cons (int_at F16 (Str.ofString "at") (by with_unfolding_all rfl) (by omega)) all_nil
        case hrb=>intro z h1 h2;(try simp at h2);(try simp at h1);first | simp [kstB,h1,h2] | simp [kstB,h2] | simp [kstB,h1] | simp_all [kstB]
        case hPb=>
          refine ⟨j,by omega,rfl,by show j ≤ es.length;omega,?_⟩
          show _ = atOf d bn E0 (es.map (·.e)) j
          rw [hat]
          show (if cmpE d bn E0 ((es.map (·.e)).getD j E0) < 0 then _ else _) = _
          rw [hqe,if_pos hlt]
      · (rename Fr _ _ _ _ => F16)
        (rename News _ _ _ _=>N16)
        (rename (¬ cmpE d bn E0 q.e < 0)=>hlt)
        refine ⟨(j + 1,tj),_,_,rfl,?_,F16,N16⟩
        show j + 1 = _
        rw [hat]
        show _ = (if cmpE d bn E0 ((es.map (·.e)).getD j E0) < 0 then _ else _)
        rw [hqe,if_neg hlt]
  case wdone=>
    rintro ⟨j,tj⟩ h8 tk8 hX F13 N13
    dsimp only at hX F13 N13
    rw [List.nil_append] at N13
    have hjl : j ≤ es.length:=hX ▸ atOf_le _ _ _ _ _
    k_steps
    (rename Fr _ _ _ _=>F14)
    (rename News _ _ _ _=>N14)
    show wpAny _ _ _ _ _ _
    have er : refs es = refs (es.take j) ++ refs (es.drop j):=by rw [← refs_app,List.take_append_drop]
    rw [er] at N14
    refine insert_vals (l1:=refs (es.take j)) (l2:=refs (es.drop j)) ?_ F14 N14 (Upd.tail (neN (by omega)) (Upd.head (by k_extra "M.ne"))) ?_ ?_
    · rw [refs_length,List.length_take,Nat.min_eq_left hjl]
    · rw [← refs_app,List.take_append_drop,refs_length];omega
    intro h9 F15 N15
    clear F14 N14
    k_steps
    (rename Fr _ _ _ _=>F16)
    (rename News _ _ _ _=>N16)
    have en2 : refs (es.take j) ++ Value.ref ea :: refs (es.drop j) = refs (es.take j ++ ⟨ea,E0,y1,y2,y3⟩ :: es.drop j):=by rw [refs_app];rfl
    rw [en2] at N16
    have hl2 : (es.take j ++ (⟨ea,E0,y1,y2,y3⟩ : EA) :: es.drop j).length = es.length + 1:=by
      rw [List.length_append,List.length_cons,List.length_take,List.length_drop];omega
    refine' TEndG.intro ⟨pl ++ [(n,tkn)],pn + 1,es.take j ++ ⟨ea,E0,y1,y2,y3⟩ :: es.drop j,en + 1,_⟩ F16 N16 ?hl2 ?ho2 ?hk2 ?hr2 ?hP2
    case hl2=>
      refine all_cons ⟨List.Mem.tail _ (List.Mem.head _),neN (by omega)⟩ (all_cons ⟨List.Mem.tail _ (List.Mem.tail _ (List.Mem.head _)),neN (by omega)⟩ (all_app (a:=cmpLed w.params ⟨cx,cdx,cl,ta,tb,q0,qi,qj,qz,ql,cn,ln⟩ d k) (b:=entLed (es.take j ++ ⟨ea,E0,y1,y2,y3⟩ :: es.drop j)) (fun p hp=>⟨by revert p hp;dsimp only [cmpLed];k_allIn,hne p ?_⟩) ?_))
      · exact List.Mem.tail _ (List.Mem.tail _ (List.mem_append_left (entLed es) hp))
      · rw [entLed_app]
        refine all_app (fun p hp=>?_) (all_cons ⟨List.Mem.head _,neN (by show @Ne Nat ea I;omega)⟩ (fun p hp=>?_))
        · have hp2 : p ∈ entLed es := by rw [← List.take_append_drop j es, entLed_app]; exact List.mem_append_left _ hp
          exact ⟨by repeat (first | exact hp2 | refine List.Mem.tail _ ?_),hEI p hp2⟩
        · have hp2 : p ∈ entLed es := by rw [← List.take_append_drop j es, entLed_app]; exact List.mem_append_right _ hp
          exact ⟨by repeat (first | exact hp2 | refine List.Mem.tail _ ?_),hEI p hp2⟩
    case ho2=>exact all_cons (by k_mem) all_nil
    case hk2=>exact all_cons (int_at F16 (Str.ofString "place") (by with_unfolding_all rfl) (by show _ = ((es.take j ++ (⟨ea,E0,y1,y2,y3⟩ : EA) :: es.drop j).length : Int);rw [hl2];omega)) all_nil
    case hr2=>intro z h1 h2 h3;(try simp at h3);(try simp at h2);first | simp [kstB,h1,h2,h3] | simp [kstB,h1,h3] | simp [kstB,h1,h2] | simp [kstB,h1] | simp_all [kstB]
    case hP2=>
      refine ⟨rfl,?_,?_,(by show (es.take j ++ (⟨ea,E0,y1,y2,y3⟩ : EA) :: es.drop j).length ≤ i + 1;omega),all_app (fun q hq=>he1 q (List.mem_of_mem_take hq)) (all_cons (by show E0.n.length = 1;rw [← hE0];exact hn1) (fun q hq=>he1 q (List.mem_of_mem_drop hq)))⟩
      · rw [famW_start he, ← hW]
        dsimp only
        rw [hlen,hE0]
        refine Prod.ext ?_ ?_
        · simp
        · show List.map _ (_ ++ _ :: _) = insE d bn E0 (es.map (·.e))
          unfold insE
          rw [hlen,← hX,List.map_append,List.map_cons,List.map_take,List.map_drop]
      · show (pl ++ [(n, tkn)]).length = _
        rw [opens_start he,List.length_append,List.length_cons,List.length_nil];omega
theorem all : ∀ d,F d := eps_all (by with_unfolding_all exact core)
end b
theorem core : P cx cdx cl ta tb q0 qi qj qz ql cn ln d k bn wA wv ev w mean mg mb h₀ s dp un fr gd Q g L h tk0 := half.2 fun pi od pl pn es en pt i u h1 tk1 I oI n tv i8 h2 i15 ea y1 y2 y3 tkn=>b.all (pi,od,pl,pn,es,en,pt,i,u,h1,tk1,I,oI,n,tv,i8,h2,i15,ea,y1,y2,y3,tkn)
theorem all : ∀ d,F d := eps_all (by with_unfolding_all exact core)
end Y4k
theorem families {w : World} {mean : ExcName → Option Value} {mg mb : Str → Option Value} {h₀ : Heap} {s : Shared} {dp un : Nat} {fr : Option (List Env)} {gd : Option (List Code)} {Q E : Value → Shared → Prop}
  {A:CA} {d k : Int} {bn : Bool} (hk : k = if bn then 2 else 1) (hdd : -2 < d ∧ d < 2)
  (C:Cx w mean mg mb h₀ s (cmpLed w.params A d k)) (hd : dp + 30 < recursionLimit) (hu : un + 100 < cLine)
  {wA : Addr} {wv : List Value} {ev : List Ev} (hw : s.heap.IsList wA wv.toArray) (hwv : StrsAre wv (ev.map wordOf)) (hwU : ∀ a ∈ (cmpLed w.params A d k).map (·.1),wA ≠ a)
  (hN : ∀ e ∈ ev,NameTx e.2) (hop : ∀ j n,ev[j]? = some (false,n) → 0 < opensAt ev j) (hl : ev.length < 60)
  (hret : ∀ h' tk' D vs' n,h'.get? D = some (seqObj "list" vs'.toArray n) → StrsAre vs' (sortS (famsK (famW d bn ev ev.length).2 (famW d bn ev ev.length).2.length)) → s.heap.get? D = none → Keep [] s { s with heap:=h',toks:=tk' } → Q (.ref D) { s with heap:=h',toks:=tk' }) :
  wpAny (model P0 w) (Ar dp fr gd un) (call (.ref 301) [.ref wA,.ref A.cx]) Q E s:=by
  have X0:=C.X.keeps C.st
  have k0 : PySem.Challenge.rw_if0027_01 = PySem.Challenge.rw_if0027_01:=rfl
  revert X0 k0;k_fill;intro X0 k0;clear k0
  k_dflt (refine' enter_def (binds:=[(Str.ofString "words",.ref wA),(Str.ofString "comp",.ref A.cx)]) ?k1 ?k6 ?k7 ?k8 ?k9 ?kB ?_ ?c2 ?c3 ?c4 ?c5;k_extra "M.in")
  intro g L h F N X TP kG lG eL
  refine' fn_get (Y4k.all (A.cx,A.cdx,A.cl,A.ta,A.tb,A.t0,A.ti,A.tj,A.tk,A.tl,A.cn,A.ln,d,k,bn,wA,wv,ev,w,mean,mg,mb,h₀,s,dp,un,fr,gd,Q,g,L,h,_) hk hdd C hd hu hw hwv hwU hN hop hl hret F N X TP kG lG eL) ?ko
  case ko=>k_is
end

end
section
set_option maxRecDepth 100000
section
local macro_rules | `(tactic| k_upd) => `(tactic| k_extra "X.upd")
local macro_rules | `(tactic| k_lt $h) => `(tactic| ((try k_dflt (have ndX := nd_lt $h (by assumption))); replace $h := allLt_of $h; simp only [AllLt, and_true] at $h:ident))
noncomputable def MarkD : Prop := True
structure RdOk (o : Obj) : Prop where
  ok : ∃ vs t,o.data = .fields vs ∧ vs[1]? = some (.str rdQual t)
noncomputable abbrev rdLed : Option (Addr × Obj) → List (Addr × Obj)
  | none=>[(289,tabObj #[])]
  | some p=>[(289,tabObj #[rawInt 318,rawInt 4,.ref p.1]),p]
noncomputable abbrev FrAtR {h₀ : Heap} {L : Addr} {h : Heap} {m : Str → Option Value} (_ : Fr h₀ L h m) (f : Addr) (h' : Heap) : Prop := Fr h₀ L h' (fun y=>if y = Str.ofString "read" then some (.ref f) else m y)
namespace X12k
noncomputable def PP (tx : Str) (tt : Tok) (segs : List Seg) (w : World) (mean : ExcName → Option Value) (mg : Str → Option Value) (mb : Str → Option Value) (h₀ : Heap) (s : Shared) (dp : Nat) (un : Nat) (fr : Option (List Env)) (gd : Option (List Code)) (Q : Value → Shared → Prop) (g : Heap) (L : Addr) (h : Heap) (tk0 : Tok) : Prop :=
  ∀ (tb : Option (Addr × Obj)) (hok0 : ∀ p, tb = some p → RdOk p.2 ∧ p.1 ≠ 289) (C : Cx w mean mg mb h₀ s (rdLed tb)) (hd : dp + 40 < recursionLimit) (hu : un + 200 < cLine) (hCH : CodeHd h₀ 293 289) (htx : tx.cps.toList = flat segs) (hok : SegsOk segs) (hl : (flat segs).length < 400) (hsl : segs.length < 100) (hret : ∀ (h' : Heap) (tk' : Tok) (D : Addr) (l : SV) (t : Tok) (n : Nat) (cc : Addr) (occ : Obj), h'.get? D = some (listOf (svs l ++ [Value.int (1 + nls segs) t]).toArray n) → l.map (·.1) = segs.map (fun q => (⟨q.1.toArray⟩ : Str)) → s.heap.get? D = none →
    h'.get? 289 = some (tabObj #[rawInt 318,rawInt 4,.ref cc]) → h'.get? cc = some occ → RdOk occ → (tb = some (cc,occ) ∨ (tb = none ∧ s.heap.get? cc = none)) → D ≠ cc →
    Keep ((rdLed tb).map (·.1)) s { s with heap:=h',toks:=tk' } → Q (.ref D) { s with heap:=h',toks:=tk' }),
  BGoalC wpAny w mean mg mb s (rdLed tb) dp un fr gd 294 [(Str.ofString "text",.str tx tt)] Q g L h tk0
noncomputable def F := ucr fun tx=>ucr fun tt=>ucr fun segs=>ucr fun w=>ucr fun mean=>ucr fun mg=>ucr fun mb=>ucr fun h₀=>ucr fun s=>ucr fun dp=>ucr fun un=>ucr fun fr=>ucr fun gd=>ucr fun Q=>ucr fun g=>ucr fun L=>ucr fun h tk0=>PP tx tt segs w mean mg mb h₀ s dp un fr gd Q g L h tk0
noncomputable section
@[irreducible] def zz := eps ((Str.empty),(0),([]),d0) F
@[irreducible] def tx := zz.1
@[irreducible] def tt := zz.2.1
@[irreducible] def segs := zz.2.2.1
@[irreducible] def w := zz.2.2.2.1
@[irreducible] def mean := zz.2.2.2.2.1
@[irreducible] def mg := zz.2.2.2.2.2.1
@[irreducible] def mb := zz.2.2.2.2.2.2.1
@[irreducible] def h₀ := zz.2.2.2.2.2.2.2.1
@[irreducible] def zz8 := zz.2.2.2.2.2.2.2.2
@[irreducible] def s := zz8.1
@[irreducible] def dp := zz8.2.1
@[irreducible] def un := zz8.2.2.1
@[irreducible] def fr := zz8.2.2.2.1
@[irreducible] def gd := zz8.2.2.2.2.1
@[irreducible] def Q := zz8.2.2.2.2.2.1
@[irreducible] def g := zz8.2.2.2.2.2.2.1
@[irreducible] def L := zz8.2.2.2.2.2.2.2.1
@[irreducible] def zz16 := zz8.2.2.2.2.2.2.2.2
@[irreducible] def h := zz16.1
@[irreducible] def tk0 := zz16.2
end
noncomputable def half : {M : (Option (Addr × Obj)) → Obj → Obj → Addr → Addr → Obj → Addr → Obj → Obj → Str → Str → Arguments → (List Stmt) → Scope → Value → Value → Value → Tok → Addr → Addr → Addr → Tok → Tok → Tok → Tok → Tok → Tok → Nat → Addr → Addr → Addr → Tok → Tok → Tok → Tok → Tok → Tok → Nat → Nat → Nat → Heap → Addr → Tok → Nat → Prop // (∀ tb i1 i2 f cc occ pl ocp oct nm qual ps bd sc doc pm ctv t0 src sdx pb1 a0 a1 a2 a3 al aw pn lex ldx pb2 b0 b1 b2 b3 bl bw n2 cl tk3 i3 told a4 cs,M tb i1 i2 f cc occ pl ocp oct nm qual ps bd sc doc pm ctv t0 src sdx pb1 a0 a1 a2 a3 al aw pn lex ldx pb2 b0 b1 b2 b3 bl bw n2 cl tk3 i3 told a4 cs) → PP tx tt segs w mean mg mb h₀ s dp un fr gd Q g L h tk0} := ⟨_,fun TT=>by
  k_with_none
  k_with "M.at" => first | exact AtP.head | (refine' AtP.tail ?kz;(case kz=>k_extra "M.at"))
  k_with "M.atF" => first | exact AtF.head | (refine' AtF.tail ?kz;(case kz=>k_extra "M.atF"))
  k_with "X.upd" => first | exact Upd.head (by k_all) | exact Upd.tail (by k_ne) (by k_extra "X.upd") | fail
  k_with "execs cons" => (refine wpAny_execs_cons ?_;k_fold)
  k_with "exec FunctionDef" => ((with_reducible show wpAny _ _ (exec (Stmt.FunctionDef _ _ _ _ _ _ _ _ _ _) _) _ _ _);have hm2 : MarkD:=(by assumption);clear hm2;refine hold ?_)
  k_with "call ref" => ((with_reducible show wpAny _ _ (call (Value.ref 98) _) _ _ _);k_dflt (refine' call_join98 (by k_asm) (by k_asm) (by assumption) (by k_mem) ?_ ?_;rotate_left;intro _ _))
  k_with "call ref" => ((with_reducible show wpAny _ _ (call (Value.ref _) [Value.str _ _]) _ _ _);k_dflt (refine' call_bd_K (by k_asm) (by k_asm) (by k_mem) (by k_upd) ?_ ?_;intro _ _ _;(try k_sweep)))
  k_with "call builtin:list.append" => (k_dflt (refine' append_svs (by k_asm) (by k_asm) (by k_upd) ?_ ?_;intro _ _ _;(try k_sweep)))
  k_with "call ref" => ((with_reducible show wpAny _ _ (call (Value.ref 206) _) _ _ _);refine hold ?_)
  k_with "call ref" => ((with_reducible show wpAny _ _ (call (Value.ref 196) _) _ _ _);refine hold ?_)
  k_with "compareOp NotEq str str" => first | (refine ne_str_t (by assumption) ?_) | (refine ne_str_f (by assumption) ?_)
  k_with "exec While Compare cons nil" => (refine while_rule ?_)
  k_with "call builtin:list.append" => ((with_reducible show wpAny _ _ (call (Value.builtin "list.append") [Value.ref _,Value.int _ _]) _ _ _);k_dflt (refine' append_vals (by k_asm) (by k_asm) (by k_upd) ?_ ?_;intro _ _ _;(try k_sweep)))
  k_with "setAttr ref" => (k_dflt (refine' set_read (by k_asm) (by assumption) (by k_asm) (by k_inst) (by exact rfl) (by k_is) (by k_is) (by k_is) (by k_is) (by k_upd) ?_;intro _ _ _;(try k_sweep)))
  intro tb hok0 C hd hu hCH htx hok hl hsl hret cells
  have X0:=C.X.keeps C.st
  have k0 : PySem.Challenge.rw_if0027_01 = PySem.Challenge.rw_if0027_01:=rfl
  revert X0 k0;k_fill;intro X0 k0;clear X0 k0
  k_dflt (refine' bg_use ?k6 ?_;(case k6=>k_is);k_whole)
  intro F N Y X TP kG lG eL
  k_cells Y
  (try simp only [List.cons_append,List.nil_append] at N)
  have h289 : @LT.lt Nat _ 289 L:=by
    cases tb with
    | none=>exact lG (289,_) (List.Mem.head _)
    | some p=>exact lG (289,_) (List.Mem.head _)
  (try dsimp only)
  replace hCH : CodeHd g 293 289:=hCH.keeps fun b o e=>kG b o (C.st b o e) fun hb=>by
    refine obEA (List.mem_map.mp hb) ?_;intro p hp oR2;subst oR2
    rw [(C.U p hp).2] at e;cases e
  have nd0 : NdA ((rdLed tb).map (·.1)):=by
    cases tb with
    | none=>exact ⟨fun _ h=>(nomatch h),trivial⟩
    | some p=>exact ⟨fun b hb=>by rw [List.mem_singleton.mp hb];exact (hok0 p rfl).2,⟨fun _ h=>(nomatch h),trivial⟩⟩
  have ndL:=nd_cells2 lG nd0
  have hmk : MarkD:=trivial
  k_steps
  (rename Fr _ _ _ _=>F5)
  show wpAny _ _ _ _ _ _
  try k_fold
  (rename Flow → Shared → Prop=>qk2)
  have K : ∀ (h' : Heap) (tk' : Nat) (f cc : Addr) (occ : Obj) (pl : Addr) (ocp oct : Obj) (nm qual : Str) (ps : Arguments) (bd : List Stmt) (sc : Scope) (doc pm ctv : Value) (t0 : Tok),nestedIn (Mine.hd.heap_1 w.params) 294 = some (nm,ps,bd,sc) → qual = rdQual → oct.data = .cell (some (.str tx tt)) → ocp.data = .cell (some (.ref pl)) → RdOk occ →
      @LT.lt Nat _ (L + 1 + 1) pl → @LT.lt Nat _ pl f → (@Ne Nat cc (L + 1) ∧ @Ne Nat cc (L + 1 + 1) ∧ @Ne Nat cc pl ∧ @Ne Nat cc f) → (tb = some (cc,occ) ∨ (tb = none ∧ s.heap.get? cc = none)) → FrAtR F5 f h' →
      News g L h' ((f,fnMade nm qual ps bd sc [(Str.ofString "text",L + 1),(Str.ofString "place",L + 1 + 1)] doc pm cc ctv) :: (cc,occ) :: (pl,listOf #[.int ((0:Nat) : Int) t0] 0) :: (L + 1 + 1,ocp) :: (L + 1,oct) :: [(289,tabObj #[rawInt 318,rawInt 4,.ref cc])]) → qk2 Flow.next ⟨h',s.gens,s.drawn,tk',s.os⟩:=by
    intro h' tk' f cc occ pl ocp oct nm qual ps bd sc doc pm ctv t0 hnest hq hct2 hcp hrd hlp hlf hcne hcc0 F6 N6
    replace F6 : Fr g L h' _:=F6
    have hcc : ∃ vs t,occ.data = .fields vs ∧ vs[1]? = some (.str qual t):=by rw [hq];exact hrd.ok
    refine obAAA hcne ?_;clear hcne;intro hc1 hc2 hc3 hc4
    k_steps
    (rename Fr _ _ _ _=>F6b)
    (rename News _ _ _ _=>N6b)
    show wpAny _ _ _ _ _ _
    refine' new_lexer X TP F6b N6b ?d1 ?u1 ?h1
    case d1=>(try dsimp only [Around.deeper]);omega
    case u1=>(try dsimp only [Around.deeper]);omega
    intro src sdx pb1 a0 a1 a2 a3 al aw pn cs h2 tk2 F7 N7 l1 l2 l3
    k_lt l1;k_lt2 l2;k_lt2 l3
    dsimp only [nxEnts] at N7
    clear N6b F6b
    k_steps
    (rename Fr _ _ _ _=>F8)
    (rename News _ _ _ _=>N8)
    show wpAny _ _ _ _ _ _
    refine' new_lexer X TP F8 N8 ?d2 ?u2 ?h2
    case d2=>(try dsimp only [Around.deeper]);omega
    case u2=>(try dsimp only [Around.deeper]);omega
    intro lex ldx pb2 b0 b1 b2 b3 bl bw n2 cl h3 tk3 F9 N9 l4 l5 l6
    k_lt l4;k_lt2 l5;k_lt2 l6
    dsimp only [nxEnts] at N9
    clear N8 F8
    k_steps
    (rename Fr _ _ _ _=>F10)
    (rename News _ _ _ _=>N10)
    refine name_told N10 ?_
    intro told a4 cs etold N11
    subst etold
    clear N10
    show wpAny _ _ _ _ _ _
    rename_i i1 i2 _ _ _ _ _ _ _ _ _ _ _ _ _ _ _ _ _ _ _ _ _ _ _ _ _ i3 i4
    revert hok0 C hd hu htx hok hl hsl hret X TP kG lG eL h289 hCH hnest hq hct2 hcp hrd hlp hlf hcc0 hcc hc1 hc2 hc3 hc4 l1 l2 l3 l4 l5 l6 qk ek i4 F10 N11
    exact TT tb i1 i2 f cc occ pl ocp oct nm qual ps bd sc doc pm ctv t0 src sdx pb1 a0 a1 a2 a3 al aw pn lex ldx pb2 b0 b1 b2 b3 bl bw n2 cl tk3 i3 told a4 cs
  clear_value qk2
  dsimp only [FrAtR] at K
  clear hmk
  rcases tb with _ | ⟨cc,occ⟩
  · dsimp only [rdLed] at *
    k_lt lG
    k_steps
    (rename Fr _ _ _ _=>F7)
    (rename News _ _ _ _=>N7)
    refine name_lxA N7 ?_
    intro f cc occ pl ocp oct nm qual ps bd sc doc pm ctv ef ecc eocc epl eocp eoct enm equal eps ebd esc edoc epm ectv N8
    subst ef ecc eocc epl eocp eoct
    clear N7
    (rename ocp.data = _=>hcp)
    (rename oct.data = _=>hct)
    refine K _ _ f cc occ pl ocp oct nm qual ps bd sc doc pm ctv tk0 ?n1 (equal.trans (by first | rfl | decide +kernel)) hct hcp ⟨_,_,by assumption,by rw [← equal.trans (show _ = rdQual by first | rfl | decide +kernel),equal];assumption⟩ (by omega) (by omega) ⟨by omega,by omega,by omega,by omega⟩ (.inr ⟨rfl,?n2⟩) F7 ?n3
    case n1=>
      rw [enm,eps,ebd,esc]
      apply nest_mk
      · k_is
      · rfl
    case n2=>exact fresh_of N8 (o:=occ) (by k_mem) kG (by simp only [List.map_cons,List.map_nil,List.mem_cons,List.not_mem_nil,or_false];exact neN (by omega))
    case n3=>exact N8
  · dsimp only [rdLed] at *
    refine obA (hok0 _ rfl) ?_;intro oN0 h9;obtain ⟨vcc,tcc,hv1,hv2⟩:=oN0
    have h9n:=neN h9
    have lG2:=lG (cc,occ) (List.Mem.tail _ (List.Mem.head _))
    dsimp only at lG2
    k_lt2 lG2
    k_lt lG
    k_steps
    (rename Fr _ _ _ _=>F7)
    (rename News _ _ _ _=>N7)
    refine name_lxB N7 ?_
    intro f pl ocp oct nm qual ps bd sc doc pm ctv ef epl eocp eoct enm equal eps ebd esc edoc epm ectv N8
    subst ef epl eocp eoct
    clear N7
    (rename ocp.data = _=>hcp)
    (rename oct.data = _=>hct)
    refine K _ _ f cc occ pl ocp oct nm qual ps bd sc doc pm ctv tk0 ?m1 (equal.trans (by first | rfl | decide +kernel)) hct hcp ⟨vcc,tcc,hv1,hv2⟩ (by omega) (by omega) ⟨by omega,by omega,by omega,by omega⟩ (.inl rfl) F7 ?m3
    case m1=>
      rw [enm,eps,ebd,esc]
      apply nest_mk
      · k_is
      · rfl
    case m3=>exact fun p hp=>N8 p (by revert p hp;k_allIn)⟩
namespace b
noncomputable def F := ucr fun tb=>ucr fun i1=>ucr fun i2=>ucr fun f=>ucr fun cc=>ucr fun occ=>ucr fun pl=>ucr fun ocp=>ucr fun oct=>ucr fun nm=>ucr fun qual=>ucr fun ps=>ucr fun bd=>ucr fun sc=>ucr fun doc=>ucr fun pm=>ucr fun ctv=>ucr fun t0=>ucr fun src=>ucr fun sdx=>ucr fun pb1=>ucr fun a0=>ucr fun a1=>ucr fun a2=>ucr fun a3=>ucr fun al=>ucr fun aw=>ucr fun pn=>ucr fun lex=>ucr fun ldx=>ucr fun pb2=>ucr fun b0=>ucr fun b1=>ucr fun b2=>ucr fun b3=>ucr fun bl=>ucr fun bw=>ucr fun n2=>ucr fun cl=>ucr fun tk3=>ucr fun i3=>ucr fun told=>ucr fun a4 cs=>half.1 tb i1 i2 f cc occ pl ocp oct nm qual ps bd sc doc pm ctv t0 src sdx pb1 a0 a1 a2 a3 al aw pn lex ldx pb2 b0 b1 b2 b3 bl bw n2 cl tk3 i3 told a4 cs
noncomputable section
@[irreducible] def zz := eps (none,listOf #[] 0,listOf #[] 0,0,0,listOf #[] 0,0,listOf #[] 0,listOf #[] 0,Str.empty,Str.empty,(default : Arguments),[],(default : Scope),(.none : Value),(.none : Value),(.none : Value),0,0,0,0,0,0,0,0,0,0,0,0,0,0,0,0,0,0,0,0,0,0,0,{},0,0,0) F
@[irreducible] def tb := zz.1
@[irreducible] def i1 := zz.2.1
@[irreducible] def i2 := zz.2.2.1
@[irreducible] def f := zz.2.2.2.1
@[irreducible] def cc := zz.2.2.2.2.1
@[irreducible] def occ := zz.2.2.2.2.2.1
@[irreducible] def pl := zz.2.2.2.2.2.2.1
@[irreducible] def ocp := zz.2.2.2.2.2.2.2.1
@[irreducible] def zz8 := zz.2.2.2.2.2.2.2.2
@[irreducible] def oct := zz8.1
@[irreducible] def nm := zz8.2.1
@[irreducible] def qual := zz8.2.2.1
@[irreducible] def ps := zz8.2.2.2.1
@[irreducible] def bd := zz8.2.2.2.2.1
@[irreducible] def sc := zz8.2.2.2.2.2.1
@[irreducible] def doc := zz8.2.2.2.2.2.2.1
@[irreducible] def pm := zz8.2.2.2.2.2.2.2.1
@[irreducible] def zz16 := zz8.2.2.2.2.2.2.2.2
@[irreducible] def ctv := zz16.1
@[irreducible] def t0 := zz16.2.1
@[irreducible] def src := zz16.2.2.1
@[irreducible] def sdx := zz16.2.2.2.1
@[irreducible] def pb1 := zz16.2.2.2.2.1
@[irreducible] def a0 := zz16.2.2.2.2.2.1
@[irreducible] def a1 := zz16.2.2.2.2.2.2.1
@[irreducible] def a2 := zz16.2.2.2.2.2.2.2.1
@[irreducible] def zz24 := zz16.2.2.2.2.2.2.2.2
@[irreducible] def a3 := zz24.1
@[irreducible] def al := zz24.2.1
@[irreducible] def aw := zz24.2.2.1
@[irreducible] def pn := zz24.2.2.2.1
@[irreducible] def lex := zz24.2.2.2.2.1
@[irreducible] def ldx := zz24.2.2.2.2.2.1
@[irreducible] def pb2 := zz24.2.2.2.2.2.2.1
@[irreducible] def b0 := zz24.2.2.2.2.2.2.2.1
@[irreducible] def zz32 := zz24.2.2.2.2.2.2.2.2
@[irreducible] def b1 := zz32.1
@[irreducible] def b2 := zz32.2.1
@[irreducible] def b3 := zz32.2.2.1
@[irreducible] def bl := zz32.2.2.2.1
@[irreducible] def bw := zz32.2.2.2.2.1
@[irreducible] def n2 := zz32.2.2.2.2.2.1
@[irreducible] def cl := zz32.2.2.2.2.2.2.1
@[irreducible] def tk3 := zz32.2.2.2.2.2.2.2.1
@[irreducible] def zz40 := zz32.2.2.2.2.2.2.2.2
@[irreducible] def i3 := zz40.1
@[irreducible] def told := zz40.2.1
@[irreducible] def a4 := zz40.2.2.1
@[irreducible] def cs := zz40.2.2.2
end
theorem core : half.1 tb i1 i2 f cc occ pl ocp oct nm qual ps bd sc doc pm ctv t0 src sdx pb1 a0 a1 a2 a3 al aw pn lex ldx pb2 b0 b1 b2 b3 bl bw n2 cl tk3 i3 told a4 cs := by
  intro hok0 C hd hu htx hok hl hsl hret X TP kG lG eL h289 hCH hnest hq hct2 hcp hrd hlp hlf hcc0 hcc hc1 hc2 hc3 hc4 l1 l2 l3 l4 l5 l6 qk ek i4 F10 N11
  have hNO : NOrd ⟨L + 1,L + 1 + 1,pl,cc,f,sdx,src,ldx,lex,pb2,pb1⟩:=⟨ltN (by show @LT.lt Nat _ (L + 1) (L + 1 + 1);omega),ltN (by show @LT.lt Nat _ (L + 1 + 1) pl;omega),ltN (by show @LT.lt Nat _ pl f;omega),ltN (by show @LT.lt Nat _ f sdx;omega),ltN (by show @LT.lt Nat _ sdx src;omega),ltN (by show @LT.lt Nat _ src ldx;omega),ltN (by show @LT.lt Nat _ ldx lex;omega),ltN (by show @LT.lt Nat _ lex pb2;omega),(show ∀ a ∈ [L + 1,L + 1 + 1,pl,f,sdx,src,ldx,lex,pb2],cc ≠ a from all_cons (neN (by omega)) (all_cons (neN (by omega)) (all_cons (neN (by omega)) (all_cons (neN (by omega)) (all_cons (neN (by omega)) (all_cons (neN (by omega)) (all_cons (neN (by omega)) (all_cons (neN (by omega)) (all_cons (neN (by omega)) (all_nil))))))))))⟩
  have hflen : tx.length = (flat segs).length:=by
    show tx.cps.size = _
    rw [← Array.length_toList,htx]
  have hNK : NOk w ⟨L + 1,L + 1 + 1,pl,cc,f,sdx,src,ldx,lex,pb2,pb1⟩ ⟨tx,tt,oct,ocp,occ,nm,qual,ps,bd,sc,doc,pm,ctv,a0,a1,a2,a3,a4,al,aw,b0,b1,b2,b3,bw,cs,n2⟩:=⟨hnest,hct2,hcp,hcc,by show tx.length < 1000;omega⟩
  have htl : told ≠ pl ∧ told ≠ ldx:=⟨neN (by omega),neN (by omega)⟩
  have hoth : ∀ q ∈ [(289,tabObj #[rawInt 318,rawInt 4,.ref cc])],q.1 ≠ pl ∧ q.1 ≠ ldx:=all_cons ⟨neN (by omega),neN (by omega)⟩ all_nil
  have N12 : News g L _ ((told,listOf (svs []).toArray 0) :: (nLed w.params ⟨L + 1,L + 1 + 1,pl,cc,f,sdx,src,ldx,lex,pb2,pb1⟩ ⟨tx,tt,oct,ocp,occ,nm,qual,ps,bd,sc,doc,pm,ctv,a0,a1,a2,a3,a4,al,aw,b0,b1,b2,b3,bw,cs,n2⟩ ⟨0,t0,0,1,bl,cl⟩ ++ [(289,tabObj #[rawInt 318,rawInt 4,.ref cc])])):=fun q hq=>N11 q (by revert q hq;dsimp only [nLed,lexEnts,nxEnts,srcEnts,List.cons_append,List.nil_append,svs,List.map];k_allIn)
  clear N11
  refine' get_tok (mean:=mean) (mg:=mg) (mb:=mb) (h₀:=g) (A:=⟨L + 1,L + 1 + 1,pl,cc,f,sdx,src,ldx,lex,pb2,pb1⟩) (T:=⟨tx,tt,oct,ocp,occ,nm,qual,ps,bd,sc,doc,pm,ctv,a0,a1,a2,a3,a4,al,aw,b0,b1,b2,b3,bw,cs,n2⟩) (V:=⟨0,t0,0,1,bl,cl⟩) (don:=[]) (rest:=segs) (Cx.of X TP F10 N12 (fun q hq=>List.Mem.tail _ (List.mem_append_left _ hq))) ?d4 ?u4 hNO hNK hCH htx hok rfl ?l4 rfl ?r4
  case d4=>(try dsimp only [Around.deeper]);omega
  case u4=>(try dsimp only [Around.deeper]);omega
  case l4=>show 0 < 490;decide
  intro h4 tk4 t4 V4 wd4 nt4 hw4 kp4
  refine obA (step_tok F10 N12 kp4 hw4 htl hoth) ?_;intro F13 N13
  clear N12 F10 hw4 kp4
  k_steps
  (rename Fr _ _ _ _=>F14)
  (rename News _ _ _ _=>N14)
  refine' loop_while (σ:=NV × SV × Nat × Str × Tok) (oth:=[(289,tabObj #[rawInt 318,rawInt 4,.ref cc])]) (fun c=>(told,listOf (svs c.2.1).toArray c.2.2.1) :: nLed w.params ⟨L + 1,L + 1 + 1,pl,cc,f,sdx,src,ldx,lex,pb2,pb1⟩ ⟨tx,tt,oct,ocp,occ,nm,qual,ps,bd,sc,doc,pm,ctv,a0,a1,a2,a3,a4,al,aw,b0,b1,b2,b3,bw,cs,n2⟩ c.1) (fun c=>[(Str.ofString "word",.str c.2.2.2.1 c.2.2.2.2)]) [] (fun n c=>∃ don rest,segs = don ++ rest ∧ n = rest.length ∧ c.2.1.map (·.1) = don.map (fun q=>(⟨q.1.toArray⟩ : Str)) ∧ NextTok ⟨(flat don).length,0,0,1 + nls don,0,0⟩ c.1 rest c.2.2.2.1) segs.length (V4,[],0,wd4,t4) F14 N14 ?lk ?lp ?lturn
  case lk=>exact all_cons (by with_unfolding_all rfl) all_nil
  case lp=>exact ⟨[],segs,rfl,rfl,rfl,nt4.congr rfl rfl⟩
  case lturn=>
    rintro ⟨V5,l5,n5,wd5,t5⟩ n u h5 tk5 ⟨don,rest,hs,hn,hl5,hnt⟩ F15 N15
    dsimp only at hl5 hnt F15 N15 ⊢
    have hlen5 : l5.length = don.length:=by have:=congrArg List.length hl5;simpa using this
    have hdl : don.length ≤ segs.length:=by rw [hs,List.length_append];omega
    cases rest with
    | nil =>
      refine obAA hnt ?_;clear hnt;intro ew ep el
      subst ew
      have hz : (Str.ofString "" != Str.ofString "") = false:=by decide +kernel
      dsimp only at ep el
      have hds : don = segs:=by rw [hs,List.append_nil]
      subst hds
      dsimp only [nLed,lexEnts,nxEnts,srcEnts,List.cons_append,List.nil_append] at N15
      k_steps
      · refine Leave.intro (by assumption) fun kp => ?_
        (rename News _ _ _ _=>N16)
        show Q (.ref told) _
        have etl:=at_of N16 (List.Mem.head _)
        rw [el] at etl
        have hns : ∀ a : Addr,@LT.lt Nat _ L a → a ∉ (rdLed tb).map (·.1):=fun a ha hm=>by
          refine obEA (List.mem_map.mp hm) ?_;intro p hp oR2;subst oR2
          exact Nat.lt_irrefl _ (Nat.lt_trans ha (lG p hp))
        refine' hret _ _ told l5 _ _ cc occ etl hl5 ?fr (at_of N16 (by k_mem)) (at_of N16 (by k_mem)) hrd hcc0 ?dcc kp
        case fr=>exact fresh_of N16 (List.Mem.head _) kG (hns _ (by omega))
        case dcc=>exact neN (by omega)
      · show _ ≤ _
        rw [sizeLine_eq];simp only [svs,List.length_map];omega
    | cons q r =>
      obtain ⟨w5,o5⟩:=q
      refine obAA hnt ?_;clear hnt;intro ew ep el
      subst ew
      have hok2 : SegsOk ((w5,o5) :: r):=SegsOk.right (a:=don) (hs ▸ hok)
      have hz:=word_ne hok2.1
      have hs2 : segs = (don ++ [(w5,o5)]) ++ r:=by rw [hs,List.append_assoc];rfl
      have hf2 : flat segs = flat (don ++ [(w5,o5)]) ++ flat r:=by rw [hs2,flat_app]
      have hfl : (flat (don ++ [(w5,o5)])).length = (flat don).length + w5.length + o5.toList.length:=by
        rw [flat_app,List.length_append]
        show _ + (w5 ++ o5.toList ++ []).length = _
        rw [List.append_nil,List.length_append];omega
      have hnl : nls (don ++ [(w5,o5)]) = nls don + (if o5 = some 10 then 1 else 0):=by
        rw [nls_app]
        show _ + ((if o5 = some 10 then 1 else 0) + 0) = _
        omega
      have hfle : (flat (don ++ [(w5,o5)])).length ≤ (flat segs).length:=by rw [hf2,List.length_append];omega
      dsimp only at ep el
      dsimp only [nLed,lexEnts,nxEnts,srcEnts,List.cons_append,List.nil_append] at N15
      k_steps
      rotate_left
      · show _ ≤ _
        rw [sizeLine_eq];omega
      (rename Fr _ _ _ _=>F16)
      (rename News _ _ _ _=>N16)
      show wpAny _ _ _ _ _ _
      have N17 : News g L _ ((told,listOf (svs (l5 ++ [(⟨w5.toArray⟩,t5)])).toArray (n5 + 1)) :: (nLed w.params ⟨L + 1,L + 1 + 1,pl,cc,f,sdx,src,ldx,lex,pb2,pb1⟩ ⟨tx,tt,oct,ocp,occ,nm,qual,ps,bd,sc,doc,pm,ctv,a0,a1,a2,a3,a4,al,aw,b0,b1,b2,b3,bw,cs,n2⟩ V5 ++ [(289,tabObj #[rawInt 318,rawInt 4,.ref cc])])):=N16
      clear N16
      refine' get_tok (mean:=mean) (mg:=mg) (mb:=mb) (h₀:=g) (A:=⟨L + 1,L + 1 + 1,pl,cc,f,sdx,src,ldx,lex,pb2,pb1⟩) (T:=⟨tx,tt,oct,ocp,occ,nm,qual,ps,bd,sc,doc,pm,ctv,a0,a1,a2,a3,a4,al,aw,b0,b1,b2,b3,bw,cs,n2⟩) (V:=V5) (don:=don ++ [(w5,o5)]) (rest:=r) (Cx.of X TP F16 N17 (fun q hq=>List.Mem.tail _ (List.mem_append_left _ hq))) ?d5 ?u5 hNO hNK hCH (htx.trans hf2) hok2.2.2.2.2.2 ?p5 ?l5 ?n5 ?r5
      case d5=>(try dsimp only [Around.deeper]);omega
      case u5=>(try dsimp only [Around.deeper]);omega
      case p5=>rw [ep,hfl]
      case l5=>omega
      case n5=>rw [el,hnl];omega
      intro h6 tk6 t6 V6 wd6 nt6 hw6 kp6
      refine obA (step_tok F16 N17 kp6 hw6 htl hoth) ?_;intro F18 N18
      clear N17 F16 hw6 kp6
      k_steps
      (rename Fr _ _ _ _=>F19)
      (rename News _ _ _ _=>N19)
      refine' WEnd.intro (V6,l5 ++ [(⟨w5.toArray⟩,t5)],n5 + 1,wd6,t6) F19 N19 ?wl ?wo ?wk ?wr ?wP
      case wl=>exact fun q hq=>(List.mem_cons.mp hq).elim (fun e=>e ▸ List.Mem.head _) fun hq=>List.Mem.tail _ (List.mem_append_left _ hq)
      case wo=>exact fun q hq=>List.Mem.tail _ (List.mem_append_right _ hq)
      case wk=>exact all_cons (by with_unfolding_all rfl) all_nil
      case wr=>
        intro z hz1 hz2
        have hz3:=hz1 _ (List.Mem.head _)
        simp_all [kstB]
      case wP=>
        refine ⟨r.length,by rw [hn];simp,don ++ [(w5,o5)],r,hs2,rfl,?_,nt6.congr ?_ ?_⟩
        · simp [hl5]
        · rw [ep];exact hfl.symm
        · rw [el];show _ = 1 + nls (don ++ [(w5,o5)]);rw [hnl];omega
theorem all : ∀ d,F d := eps_all (by with_unfolding_all exact core)
end b
theorem core : PP tx tt segs w mean mg mb h₀ s dp un fr gd Q g L h tk0 := half.2 fun tb i1 i2 f cc occ pl ocp oct nm qual ps bd sc doc pm ctv t0 src sdx pb1 a0 a1 a2 a3 al aw pn lex ldx pb2 b0 b1 b2 b3 bl bw n2 cl tk3 i3 told a4 cs=>b.all (tb,i1,i2,f,cc,occ,pl,ocp,oct,nm,qual,ps,bd,sc,doc,pm,ctv,t0,src,sdx,pb1,a0,a1,a2,a3,al,aw,pn,lex,ldx,pb2,b0,b1,b2,b3,bl,bw,n2,cl,tk3,i3,told,a4,cs)
theorem all : ∀ d,F d := eps_all (by with_unfolding_all exact core)
end X12k
theorem words {w : World} {mean : ExcName → Option Value} {mg mb : Str → Option Value} {h₀ : Heap} {s : Shared} {dp un : Nat} {fr : Option (List Env)} {gd : Option (List Code)} {Q E : Value → Shared → Prop}
  {tb : Option (Addr × Obj)} (hok0 : ∀ p,tb = some p → RdOk p.2 ∧ p.1 ≠ 289)
  (C:Cx w mean mg mb h₀ s (rdLed tb)) (hd : dp + 40 < recursionLimit) (hu : un + 200 < cLine) (hCH : CodeHd h₀ 293 289) {tx : Str} {tt : Tok}
  {segs : List Seg} (htx : tx.cps.toList = flat segs) (hok : SegsOk segs) (hl : (flat segs).length < 400) (hsl : segs.length < 100)
  (hret : ∀ (h' : Heap) (tk' : Tok) (D:Addr) (l:SV) (t:Tok) (n:Nat) (cc : Addr) (occ : Obj),h'.get? D = some (listOf (svs l ++ [Value.int (1 + nls segs) t]).toArray n) → l.map (·.1) = segs.map (fun q=>(⟨q.1.toArray⟩ : Str)) → s.heap.get? D = none →
    h'.get? 289 = some (tabObj #[rawInt 318,rawInt 4,.ref cc]) → h'.get? cc = some occ → RdOk occ → (tb = some (cc,occ) ∨ (tb = none ∧ s.heap.get? cc = none)) → D ≠ cc →
    Keep ((rdLed tb).map (·.1)) s { s with heap:=h',toks:=tk' } → Q (.ref D) { s with heap:=h',toks:=tk' }) :
  wpAny (model P0 w) (Ar dp fr gd un) (call (.ref 294) [.str tx tt]) Q E s:=by
  have X0:=C.X.keeps C.st
  have k0 : PySem.Challenge.rw_if0027_01 = PySem.Challenge.rw_if0027_01:=rfl
  revert X0 k0;k_fill;intro X0 k0;clear k0
  k_dflt (refine' enter_defC (binds:=[(Str.ofString "text",.str tx tt)]) ?k1 ?k6 ?k7 ?k8 ?k9 ?kB ?kD ?_ ?c2 ?c3 ?c4)
  case k1=>assumption
  case k6=>k_is
  case k7=>k_is
  case k8=>omega
  case k9=>first | exact BindsTo.of_eq rfl | exact binds_K (by k_in) rfl (by k_is) rfl rfl rfl
  case kB=>exact rfl
  case kD=>decide +kernel
  case c2=>exact rfl
  case c3=>exact rfl
  case c4=>exact rfl
  k_whole
  intro g L h tk0 cells F N Y X TP kG lG eL
  refine' fn_get (X12k.all (tx,tt,segs,w,mean,mg,mb,h₀,s,dp,un,fr,gd,Q,g,L,h,tk0) tb hok0 C hd hu hCH htx hok hl hsl hret cells) ?ko F N Y X TP kG lG eL
  case ko=>k_is
theorem wordsA {w : World} {mean : ExcName → Option Value} {mg mb : Str → Option Value} {h₀ : Heap} {s : Shared} {dp un : Nat} {fr : Option (List Env)} {gd : Option (List Code)} {Q E : Value → Shared → Prop}
  (C:Cx w mean mg mb h₀ s [(289,tabObj #[])]) (hd : dp + 40 < recursionLimit) (hu : un + 200 < cLine) (hCH : CodeHd h₀ 293 289) {tx : Str} {tt : Tok}
  {segs : List Seg} (htx : tx.cps.toList = flat segs) (hok : SegsOk segs) (hl : (flat segs).length < 400) (hsl : segs.length < 100)
  (hret : ∀ (h' : Heap) (tk' : Tok) (D:Addr) (l:SV) (t:Tok) (n:Nat) (cc : Addr) (occ : Obj) (vcc : Array Value) (tcc : Tok),h'.get? D = some (listOf (svs l ++ [Value.int (1 + nls segs) t]).toArray n) → l.map (·.1) = segs.map (fun q=>(⟨q.1.toArray⟩ : Str)) → s.heap.get? D = none →
    h'.get? 289 = some (tabObj #[rawInt 318,rawInt 4,.ref cc]) → h'.get? cc = some occ → occ.data = .fields vcc → vcc[1]? = some (.str rdQual tcc) → s.heap.get? cc = none → D ≠ cc →
    Keep [289] s { s with heap:=h',toks:=tk' } → Q (.ref D) { s with heap:=h',toks:=tk' }) :
  wpAny (model P0 w) (Ar dp fr gd un) (call (.ref 294) [.str tx tt]) Q E s:=
  words (tb:=none) (fun _ h=>nomatch h) C hd hu hCH htx hok hl hsl fun h' tk' D l t n cc occ a1 a2 a3 a4 a5 ⟨vcc,tcc,a6,a7⟩ a8 a9 kp=>
    hret h' tk' D l t n cc occ vcc tcc a1 a2 a3 a4 a5 a6 a7 (a8.elim (fun z=>nomatch z) (fun z=>z.2)) a9 kp
theorem wordsB {w : World} {mean : ExcName → Option Value} {mg mb : Str → Option Value} {h₀ : Heap} {s : Shared} {dp un : Nat} {fr : Option (List Env)} {gd : Option (List Code)} {Q E : Value → Shared → Prop}
  {cc : Addr} {occ : Obj} {vcc : Array Value} {tcc : Tok} (hcc : occ.data = .fields vcc) (hcv : vcc[1]? = some (.str rdQual tcc)) (hc289 : cc ≠ 289) (C:Cx w mean mg mb h₀ s [(289,tabObj #[rawInt 318,rawInt 4,.ref cc]),(cc,occ)]) (hd : dp + 40 < recursionLimit) (hu : un + 200 < cLine) (hCH : CodeHd h₀ 293 289) {tx : Str} {tt : Tok}
  {segs : List Seg} (htx : tx.cps.toList = flat segs) (hok : SegsOk segs) (hl : (flat segs).length < 400) (hsl : segs.length < 100)
  (hret : ∀ (h' : Heap) (tk' : Tok) (D:Addr) (l:SV) (t:Tok) (n:Nat) (_:True),h'.get? D = some (listOf (svs l ++ [Value.int (1 + nls segs) t]).toArray n) → l.map (·.1) = segs.map (fun q=>(⟨q.1.toArray⟩ : Str)) → s.heap.get? D = none →
    h'.get? 289 = some (tabObj #[rawInt 318,rawInt 4,.ref cc]) → h'.get? cc = some occ →
    Keep [289] s { s with heap:=h',toks:=tk' } → Q (.ref D) { s with heap:=h',toks:=tk' }) :
  wpAny (model P0 w) (Ar dp fr gd un) (call (.ref 294) [.str tx tt]) Q E s:=
  words (tb := some (cc, occ)) (fun p h => by cases h; exact ⟨⟨vcc, tcc, hcc, hcv⟩, hc289⟩) C hd hu hCH htx hok hl hsl fun h' tk' D l t n cc' occ' a1 a2 a3 a4 a5 _ a8 a9 kp => by
    rcases a8 with z | z
    · cases z
      exact hret h' tk' D l t n trivial a1 a2 a3 a4 a5 (keep_less (U:=[(289,tabObj #[rawInt 318,rawInt 4,.ref cc]),(cc,occ)]) (fun q hq=>(C.U q hq).1) (fun q hq hn=>by
        rcases List.mem_cons.mp hq with rfl | hq
        · exact absurd (List.Mem.head _) hn
        · obtain rfl:=List.mem_singleton.mp hq;exact a5) kp)
    · exact nomatch z.1
end

end
section
set_option maxRecDepth 100000
section
variable {g : Heap} {L D : Addr} {m : Str → Option Value} {s s' : Shared} {news rest new U : List (Addr × Obj)} {o : Obj}
theorem step_new (F : Fr g L s.heap m) (N : News g L s.heap news) (kp : Keep [] s s') (e : s'.heap.get? D = some o) (hD : s.heap.get? D = none) :
    Fr g L s'.heap m ∧ News g L s'.heap ((D,o) :: news) ∧ ∀ p ∈ news,@Ne Nat p.1 D:=by
  have F2:=after_fr F (W:=[]) (fun _ h=>nomatch h) kp
  refine ⟨F2,new_list F2 (fun p hp=>⟨kp _ _ (N p hp).1 (fun h=>nomatch h),(N p hp).2⟩) e hD F,fun p hp q=>?_⟩
  have q' : p.1 = D:=q
  have:=(N p hp).1
  rw [q',hD] at this;cases this
theorem fresh_ne (N : News g L s.heap news) (hD : s.heap.get? D = none) : ∀ p ∈ news,@Ne Nat p.1 D := fun p hp q=>by
  have q' : p.1 = D:=q
  have:=(N p hp).1
  rw [q',hD] at this;cases this
theorem not1 {a b : Addr} (h : a ≠ b) : a ∉ [b] := fun hm=>h (List.mem_singleton.mp hm)
theorem step_tab {P : Addr} {o' : Obj} {pre post : List (Addr × Obj)} (F : Fr g L s.heap m) (N : News g L s.heap (pre ++ (P, o) :: post)) (kp : Keep [P] s s') (h1 : s'.heap.get? P = some o') (hne : ∀ p ∈ pre ++ post, p.1 ≠ P) :
    Fr g L s'.heap m ∧ News g L s'.heap ((P,o') :: (pre ++ post)):=by
  have hP:=(N (P,o) (List.mem_append_right _ (List.Mem.head _))).2
  refine ⟨after_fr F (W:=[P]) (fun a ha=>?_) kp,fun p hp=>?_⟩
  · rw [List.mem_singleton.mp ha];exact hP
  · rcases List.mem_cons.mp hp with rfl | hp
    · exact ⟨h1,hP⟩
    · have hp2 : p ∈ pre ++ (P, o) :: post := by
        rcases List.mem_append.mp hp with q | q
        · exact List.mem_append_left _ q
        · exact List.mem_append_right _ (List.Mem.tail _ q)
      exact ⟨kp _ _ (N p hp2).1 (not1 (hne p hp)),(N p hp2).2⟩
theorem put_new (F : Fr g L s.heap m) (N' : News g L s'.heap news) (e : s'.heap.get? D = some o) (hD : s.heap.get? D = none) : News g L s'.heap ((D,o) :: news) := by
  intro p hp
  rcases List.mem_cons.mp hp with rfl | hp
  · refine ⟨e, fun q => ?_, ?_⟩
    · refine obEEEA F.ns ?_; intro oL _ _ hL _
      have q' : D = L:=q
      rw [q',hL] at hD;cases hD
    · cases z : g.get? D with
      | none=>rfl
      | some x=>rw [F.keep _ _ z] at hD;cases hD
  · exact N' p hp
theorem keep_all {W : List Addr} (kp : Keep W s s') (h : ∀ a ∈ W,∃ o,s.heap.get? a = some o ∧ s'.heap.get? a = some o) : Keep [] s s' := fun b o e _=>by
  by_cases hb : b ∈ W
  · refine obEA (h b hb) ?_; intro o2 h1 h2
    rw [h1] at e;cases e;exact h2
  · exact kp b o e hb
theorem step_none (F : Fr g L s.heap m) (N : News g L s.heap news) (kp : Keep [] s s') : Fr g L s'.heap m ∧ News g L s'.heap news :=
  ⟨after_fr F (W:=[]) (fun _ h=>nomatch h) kp,fun p hp=>⟨kp _ _ (N p hp).1 (fun h=>nomatch h),(N p hp).2⟩⟩
theorem cx_nil {w : World} {mean : ExcName → Option Value} {mg mb : Str → Option Value} (X : (Mine.hd.heap_1 w.params).In g) (T : Top topProg Lz mean mg mb g) (F : Fr g L s.heap m) : Cx w mean mg mb g s [] := ⟨X,T,F.keep,fun _ h=>nomatch h⟩
end
section
variable {prog : Program} {w : World} {A : Around} {E : Value → Shared → Prop} {env : Env}
noncomputable def AsgAt (prog : Program) (w : World) (A : Around) (elt : PySem.Expr) (scope : Scope) (cl : List (Str × Addr)) (env : Env) (x y : Str) (F : Value → Value → Prop) (Q : Flow → Shared → Prop) (it : Value) (s₂ : Shared) : Prop :=
  ∃ I fp wr n P St m, it = .ref I ∧ Walks prog w A I fp wr n P St ∧ n ≤ sizeLine ∧ St 0 s₂.heap ∧ (∀ b ∈ fp, b < s₂.heap.objs.size) ∧
      env.locals ∉ wr ∧ s₂.heap.Ns env.locals m ∧
      (∀ C i v s₃ m₃ E',s₂.heap.objs.size ≤ C → P i v → s₃.heap.Ns C m₃ → m₃ x = some v → (∀ b o,b ∉ wr → s₂.heap.get? b = some o → s₃.heap.get? b = some o) →
        wpAny (model prog w) A (eval elt (compEnvC scope cl C env)) (fun y s₄=>EltE F v y s₃ s₄) E' s₃) ∧
      (∀ D h' tk ys (vs : List Value),s₂.heap.get? D = none → h'.PlainList D ys → vs.length = n → (∀ j v,vs[j]? = some v → P j v) → Paired F vs ys.toList →
        h'.Ns env.locals (fun z=>if z = y then some (.ref D) else m z) → (∀ b o,b ≠ env.locals → b ∉ wr → s₂.heap.get? b = some o → h'.get? b = some o) → Q .next { s₂ with heap:=h',toks:=tk })
theorem AsgAt.intro {elt : PySem.Expr} {scope : Scope} {cl : List (Str × Addr)} {x y : Str} {F : Value → Value → Prop} {Q : Flow → Shared → Prop} {it : Value} {s₂ : Shared} {I : Addr} {fp wr : List Addr} {n : Nat} {P : Nat → Value → Prop} {St : Nat → Heap → Prop} {m : Str → Option Value}
    (h1 : it = .ref I) (h2 : Walks prog w A I fp wr n P St) (h3 : n ≤ sizeLine) (h4 : St 0 s₂.heap) (h5 : (∀ b ∈ fp,b < s₂.heap.objs.size)) (h6 : env.locals ∉ wr) (h7 : s₂.heap.Ns env.locals m)
    (h8 : (∀ C i v s₃ m₃ E', s₂.heap.objs.size ≤ C → P i v → s₃.heap.Ns C m₃ → m₃ x = some v → (∀ b o, b ∉ wr → s₂.heap.get? b = some o → s₃.heap.get? b = some o) →
        wpAny (model prog w) A (eval elt (compEnvC scope cl C env)) (fun y s₄=>EltE F v y s₃ s₄) E' s₃))
    (h9 : (∀ D h' tk ys (vs : List Value), s₂.heap.get? D = none → h'.PlainList D ys → vs.length = n → (∀ j v, vs[j]? = some v → P j v) → Paired F vs ys.toList →
        h'.Ns env.locals (fun z=>if z = y then some (.ref D) else m z) → (∀ b o,b ≠ env.locals → b ∉ wr → s₂.heap.get? b = some o → h'.get? b = some o) → Q .next { s₂ with heap:=h',toks:=tk })) : AsgAt prog w A elt scope cl env x y F Q it s₂:=⟨I,fp,wr,n,P,St,m,h1,h2,h3,h4,h5,h6,h7,h8,h9⟩
theorem A_Assign_ListComp {s : Shared} {elt iter : PySem.Expr} {x y : Str} {px py : Pos} {scope : Scope} {cl : List (Str × Addr)} {pos spos : Pos} {Q : Flow → Shared → Prop} (F : Value → Value → Prop)
    (hsw : swapsWith (.ListComp elt [⟨.Name x px,iter,[],0⟩] scope pos) (some (.Name y py)) spos.line env = pure true)
    (hclos : closureFor scope env = pure cl) (hcell : ∀ z ∈ scope.names,z.2 ≠ .cell) (hkind : scope.kind = .function)
    (hnames : ∀ z ∈ scope.names,z.2 = .local → scope.names.lookup z.1 = some .local) (hx : scope.names.lookup x = some .local)
    (hy : env.kindOf y = some .local) (hp : (env.scope.kind == .class || (env.scope.kind == .module && env.locals != env.globals)) = false)
    (h:wpAny (model prog w) A (eval iter env) (fun xv s₁=>wpAny (model prog w) A (pyIter xv) (fun it s₂=>AsgAt prog w A elt scope cl env x y F Q it s₂) E s₁) E s)
    (hs : ∀ x,foldedSetIterable iter env x = pure x:=by intro _;rfl) :
    wpAny (model prog w) A (exec (.Assign [.Name y py] (.ListComp elt [⟨.Name x px,iter,[],0⟩] scope pos) spos) env) Q E s:=by
  refine wpAny_Assign_ListComp_free (fun _=>true) F hsw hclos hcell hkind hnames hx hy hp (wpAny_mono h (fun xv s₁ h₁=>wpAny_mono h₁ (fun it s₂ h₂=>?_) fun _ _ e=>e) fun _ _ e=>e) hs
  refine obEEEEEEEAAAAAAAA h₂ ?_;clear h₂;intro I fp wr n P St m e W hsz hst hfp hL hn hq hQ
  refine ⟨I,fp,wr,n,P,St,m,e,W,hsz,hst,hfp,hL,hn,⟨?_,?_⟩,?_⟩
  · intro C i v s₃ m₃ E' _ _ _ _ _ _
    exact wpAny_pure ⟨rfl,_,_,rfl,fun _ _ e=>e⟩
  · exact fun C i v s₃ m₃ E' hC hP _ hn hm hk _=>wpAny_mono (hq C i v s₃ m₃ E' hC hP hn hm hk) (fun _ _ q=>⟨q.f,q.k⟩) fun _ _ e=>e
  · intro D h' tk ys vs hD _ hpl hlen hP hF hn' hk
    refine hQ D h' tk ys vs hD hpl hlen hP ?_ hn' hk
    rw [List.filter_eq_self.mpr (fun _ _=>rfl)] at hF
    exact hF
end
noncomputable def nmsN (n : Nat) : Str := if n = 4 then Str.ofString "abcd" else Str.ofString "abcde"
theorem names_are (t : Int) : ∃ n,(n = 4 ∨ n = 5) ∧ Txt.slice (Str.ofString "abcde") none (some (4 + t.fmod 2)) = nmsN n := by
  have h0:=Int.fmod_nonneg_of_pos t (show (0:Int) < 2 by decide)
  have h1:=Int.fmod_lt_of_pos t (show (0:Int) < 2 by decide)
  have : t.fmod 2 = 0 ∨ t.fmod 2 = 1:=by omega
  rcases this with e | e
  · exact ⟨4,.inl rfl,by rw [e];decide +kernel⟩
  · exact ⟨5,.inr rfl,by rw [e];decide +kernel⟩
theorem nmsN_len {n : Nat} (h : n = 4 ∨ n = 5) : (nmsN n).length = n := by rcases h with rfl | rfl <;> decide +kernel
theorem cell_at {cs : List Int} (h : CellsOk cs) (i : Nat) : 0 ≤ cs.getD i 0 ∧ cs.getD i 0 < 1000000 := by
  rw [List.getD_eq_getElem?_getD]
  cases e : cs[i]? with
  | none=>exact ⟨Int.le_refl 0,by decide⟩
  | some c=>exact h.all c (List.mem_of_getElem? e)
theorem walks_lt {prog : Program} {w : World} {A : Around} {I : Addr} {fp wr : List Addr} {n : Nat} {P : Nat → Value → Prop} {St : Nat → Heap → Prop} (W : Walks prog w A I fp wr n P St) : Walks prog w A I fp wr n (fun i v=>i < n ∧ P i v) St where
  sub:=W.sub
  frame:=W.frame
  item:=fun i s Q E hi st hQ=>W.item i s Q E hi st fun v h' tk hP st' hk=>hQ v h' tk ⟨hi,hP⟩ st' hk
  done:=W.done
  self:=W.self
theorem name_cl {g h : Heap} {L l D1 D2 : Addr} {n : Nat} {a b c d : Int} {ta tb tc td : Tok} {r : List (Addr × Obj)} {G : Prop} (N : News g L h ((l,listOf #[.ref D1,.ref D2] n) :: (D2,tup2 (.int a ta) (.int b tb)) :: (D1,tup2 (.int c tc) (.int d td)) :: r))
    (k : ∀ l' D1' D2' n' ta' tb' tc' td',l' = l → D1' = D1 → D2' = D2 → News g L h ((l',listOf #[.ref D1',.ref D2'] n') :: (D2',tup2 (.int a ta') (.int b tb')) :: (D1',tup2 (.int c tc') (.int d td')) :: r) → G) : G:=k l D1 D2 n ta tb tc td rfl rfl rfl N
theorem comp_args (t : Int) : ∃ (d k : Int) (bn : Bool),(d = 1 ∨ d = -1) ∧ 1 - 2 * (t.fdiv 2).fmod 2 = d ∧ 1 + (t.fdiv 4).fmod 2 = k ∧ k = if bn then 2 else 1 := by
  have h0:=Int.fmod_nonneg_of_pos (t.fdiv 2) (show (0:Int) < 2 by decide)
  have h1:=Int.fmod_lt_of_pos (t.fdiv 2) (show (0:Int) < 2 by decide)
  have h2:=Int.fmod_nonneg_of_pos (t.fdiv 4) (show (0:Int) < 2 by decide)
  have h3:=Int.fmod_lt_of_pos (t.fdiv 4) (show (0:Int) < 2 by decide)
  refine ⟨_,_,decide ((t.fdiv 4).fmod 2 = 1),?_,rfl,rfl,?_⟩
  · omega
  · by_cases e : (t.fdiv 4).fmod 2 = 1
    · rw [e];rfl
    · have : (t.fdiv 4).fmod 2 = 0 := by omega
      rw [this];rfl
theorem fmod_next {j n : Nat} {m : Nat} (h : m = n) : (0 + (j : Int) + 1).fmod (m : Int) = (((j + 1) % n : Nat) : Int) := by
  subst h
  rw [show (0 + (j:Int) + 1) = ((j + 1 : Nat) : Int) by omega]
  exact (Int.ofNat_fmod (j + 1) m).symm
theorem fits_nat {k : Nat} (h : k < 1000) : fitsSsize (k : Int) = true := by
  unfold fitsSsize
  simp
  omega
noncomputable def GapC (c : Nat) : Prop := c = 32 ∨ c = 9 ∨ c = 10
theorem gap_at {i : Int} (h0 : 0 ≤ i) (h1 : i < 3) : ∃ c,GapC c ∧ Txt.item (Str.ofString " \t\n") i = ⟨#[c]⟩ := by
  have : i = 0 ∨ i = 1 ∨ i = 2:=by omega
  rcases this with rfl | rfl | rfl
  · exact ⟨32,.inl rfl,by decide +kernel⟩
  · exact ⟨9,.inr (.inl rfl),by decide +kernel⟩
  · exact ⟨10,.inr (.inr rfl),by decide +kernel⟩
theorem gaps_of {vs ys : List Value} (h : Paired (fun (v y : Value)=>∃ c t',GapC c ∧ y = .str ⟨#[c]⟩ t') vs ys) : ∃ l : SV,ys = svs l ∧ ∀ x ∈ l.map (·.1),∃ c,GapC c ∧ x = ⟨#[c]⟩ := by
  induction h with
  | nil=>exact ⟨[],rfl,fun _ h=>nomatch h⟩
  | cons hf _ ih =>
    refine obEEA hf ?_;clear hf;intro c t' h1 e1
    refine obEA ih ?_;clear ih;intro l e2 h
    refine ⟨(⟨#[c]⟩,t') :: l,by rw [e1,e2];rfl,fun x hx=>?_⟩
    rcases List.mem_cons.mp hx with e | hx
    · exact ⟨c,h1,e⟩
    · exact h x hx

end
section
set_option maxRecDepth 100000
noncomputable def nm1 (k : Nat) : Str := ⟨#[97 + k]⟩
noncomputable abbrev EP := List Ev × List Str
noncomputable def popE (p : EP) : Nat → EP
  | 0=>p
  | j + 1=>((popE p j).1 ++ [(false,(popE p j).2.getLast?.getD Str.empty)],(popE p j).2.dropLast)
noncomputable def drawE (r : Nat → Nat) : Nat → EP
  | 0=>([],[])
  | k + 1 =>
    let q:=popE (drawE r k) (r k)
    (q.1 ++ [(true,nm1 k)],q.2 ++ [nm1 k])
noncomputable def drawnE (r : Nat → Nat) (n : Nat) : List Ev := (popE (drawE r n) (drawE r n).2.length).1
noncomputable def famsOf (d : Int) (bn : Bool) (ev : List Ev) : List Str := sortS (famsK (famW d bn ev ev.length).2 (famW d bn ev ev.length).2.length)
noncomputable def runsOf (ev : List Ev) : List Str := sortS ((runsW ev ev.length).map revS)
noncomputable def strEqs : List Str → List Str → Bool
  | [],[]=>true
  | a :: r,b :: t=>a.cps.toList == b.cps.toList && strEqs r t
  | _,_=>false
noncomputable def nmOk (n : Nat) (x : Str) : Bool := match x.cps.toList with
  | [c]=>Nat.ble 97 c && Nat.ble c (96 + n)
  | _=>false
noncomputable def evsOk (n : Nat) (ev : List Ev) : Bool := ev.length == 2 * n && ev.all (fun e=>nmOk n e.2) &&
  (List.range ev.length).all fun j=>match ev[j]? with | some (false,_)=>Nat.ble 1 (opensAt ev j) | _=>true
noncomputable def blOk (n : Nat) (bl : List Str) : Bool := Nat.ble bl.length 10 && bl.all fun b=>Nat.ble 1 b.cps.toList.length && Nat.ble b.cps.toList.length 10 && b.cps.toList.all fun c=>Nat.ble 97 c && Nat.ble c (96 + n)
noncomputable def lk : List (Str × Str) → List Nat → Option Str
  | [],_=>none
  | (k,v) :: r,x=>if k.cps.toList == x then some v else lk r x
noncomputable def stepOk (n : Nat) (run fam : List Str) : Bool :=
  let down:=stepsP run run.length
  let aside:=stepsP fam fam.length
  (List.range n).all fun k=>match lk down [97 + k] with
    | some y => match lk aside y.cps.toList with
      | some z=>z.cps.toList == [97 + (k + 1) % n]
      | none=>false
    | none=>false
noncomputable def evOf (x : Str) : Ev := match x.cps.toList with
  | [_,c,_]=>(true,chS c)
  | [_,_,c,_]=>(false,chS c)
  | _=>(true,Str.empty)
noncomputable def prevS (n c : Nat) : Str := if Nat.ble c 97 then nm1 (n - 1) else chS (c - 1)
noncomputable def earlierS (n : Nat) (b : Str) : Str := cat (sortS (b.cps.toList.map (prevS n)))
noncomputable def lawOk (n : Nat) (d : Int) (bn : Bool) (ev : List Ev) : Bool :=
  let fam:=famsOf d bn ev
  let run:=runsOf ev
  evsOk n ev && blOk n fam && blOk n run && stepOk n run fam && match laidS run 8 97 with
  | none=>false
  | some ws => let ev2 := ws.map evOf
    strEqs ws (ev2.map wordOf) && evsOk n ev2 && strEqs (famsOf d bn ev2) run && strEqs (runsOf ev2) (sortS (fam.map (earlierS n)))

end
section
set_option maxRecDepth 100000
theorem popE_len (p : EP) : ∀ j,(popE p j).2.length = p.2.length - j
  | 0=>rfl
  | j + 1 => by
    show ((popE p j).2.dropLast).length = _
    rw [List.length_dropLast,popE_len p j];omega
theorem drawE_len (r : Nat → Nat) : ∀ k,(drawE r k).2.length ≤ k
  | 0=>Nat.le_refl 0
  | k + 1 => by
    show ((popE (drawE r k) (r k)).2 ++ [nm1 k]).length ≤ _
    have:=drawE_len r k
    rw [List.length_append,popE_len,List.length_cons,List.length_nil];omega
theorem drawE_congr {r q : Nat → Nat} : ∀ k,(∀ j,j < k → r j = q j) → drawE r k = drawE q k
  | 0,_=>rfl
  | k + 1, h => by
    have e:=drawE_congr k fun j hj=>h j (Nat.lt_succ_of_lt hj)
    show ((popE (drawE r k) (r k)).1 ++ _,(popE (drawE r k) (r k)).2 ++ _) = ((popE (drawE q k) (q k)).1 ++ _,(popE (drawE q k) (q k)).2 ++ _)
    rw [e,h k (Nat.lt_succ_self k)]
noncomputable def at4 (a b c : Nat) : Nat → Nat := fun k=>[0,a,b,c].getD k 0
noncomputable def at5 (a b c e : Nat) : Nat → Nat := fun k=>[0,a,b,c,e].getD k 0
noncomputable def fits (r : Nat → Nat) (n : Nat) : Bool := (List.range n).all fun k=>Nat.ble (r k) (drawE r k).2.length
noncomputable def all4 (d : Int) (bn : Bool) : Bool := (List.range 2).all fun a=>(List.range 3).all fun b=>(List.range 4).all fun c=>if fits (at4 a b c) 4 then lawOk 4 d bn (drawnE (at4 a b c) 4) else true
noncomputable def all5 (d : Int) (bn : Bool) (a b : Nat) : Bool := (List.range 4).all fun c=>(List.range 5).all fun e=>if fits (at5 a b c e) 5 then lawOk 5 d bn (drawnE (at5 a b c e) 5) else true
theorem a4pt : all4 1 true = true := by decide +kernel
theorem a5pt00 : all5 1 true 0 0 = true := by decide +kernel
theorem a5pt01 : all5 1 true 0 1 = true := by decide +kernel
theorem a5pt02 : all5 1 true 0 2 = true := by decide +kernel
theorem a5pt10 : all5 1 true 1 0 = true := by decide +kernel
theorem a5pt11 : all5 1 true 1 1 = true := by decide +kernel
theorem a5pt12 : all5 1 true 1 2 = true := by decide +kernel
theorem a4pf : all4 1 false = true := by decide +kernel
theorem a5pf00 : all5 1 false 0 0 = true := by decide +kernel
theorem a5pf01 : all5 1 false 0 1 = true := by decide +kernel
theorem a5pf02 : all5 1 false 0 2 = true := by decide +kernel
theorem a5pf10 : all5 1 false 1 0 = true := by decide +kernel
theorem a5pf11 : all5 1 false 1 1 = true := by decide +kernel
theorem a5pf12 : all5 1 false 1 2 = true := by decide +kernel
theorem a4mt : all4 (-1) true = true := by decide +kernel
theorem a5mt00 : all5 (-1) true 0 0 = true := by decide +kernel
theorem a5mt01 : all5 (-1) true 0 1 = true := by decide +kernel
theorem a5mt02 : all5 (-1) true 0 2 = true := by decide +kernel
theorem a5mt10 : all5 (-1) true 1 0 = true := by decide +kernel
theorem a5mt11 : all5 (-1) true 1 1 = true := by decide +kernel
theorem a5mt12 : all5 (-1) true 1 2 = true := by decide +kernel
theorem a4mf : all4 (-1) false = true := by decide +kernel
theorem a5mf00 : all5 (-1) false 0 0 = true := by decide +kernel
theorem a5mf01 : all5 (-1) false 0 1 = true := by decide +kernel
theorem a5mf02 : all5 (-1) false 0 2 = true := by decide +kernel
theorem a5mf10 : all5 (-1) false 1 0 = true := by decide +kernel
theorem a5mf11 : all5 (-1) false 1 1 = true := by decide +kernel
theorem a5mf12 : all5 (-1) false 1 2 = true := by decide +kernel
theorem all4_of {d : Int} (hd : d = 1 ∨ d = -1) (bn : Bool) : all4 d bn = true := by
  rcases hd with rfl | rfl <;> cases bn
  · exact a4pf
  · exact a4pt
  · exact a4mf
  · exact a4mt
theorem all5_of {d : Int} (hd : d = 1 ∨ d = -1) (bn : Bool) {a b : Nat} (ha : a < 2) (hb : b < 3) : all5 d bn a b = true := by
  have ha' : a = 0 ∨ a = 1:=by omega
  have hb' : b = 0 ∨ b = 1 ∨ b = 2:=by omega
  rcases ha' with rfl | rfl <;> rcases hb' with rfl | rfl | rfl <;> rcases hd with rfl | rfl <;> cases bn
  · exact a5pf00
  · exact a5pt00
  · exact a5mf00
  · exact a5mt00
  · exact a5pf01
  · exact a5pt01
  · exact a5mf01
  · exact a5mt01
  · exact a5pf02
  · exact a5pt02
  · exact a5mf02
  · exact a5mt02
  · exact a5pf10
  · exact a5pt10
  · exact a5mf10
  · exact a5mt10
  · exact a5pf11
  · exact a5pt11
  · exact a5mf11
  · exact a5mt11
  · exact a5pf12
  · exact a5pt12
  · exact a5mf12
  · exact a5mt12
theorem fits_congr {r q : Nat → Nat} {n : Nat} (h : ∀ j,j < n → r j = q j) (hr : ∀ k,k < n → r k ≤ (drawE r k).2.length) : fits q n = true := by
  unfold fits
  rw [List.all_eq_true]
  intro k hk
  have hk':=List.mem_range.mp hk
  rw [Nat.ble_eq,← h k hk',← drawE_congr k fun j hj=>h j (Nat.lt_trans hj hk')]
  exact hr k hk'
theorem lawOk_all {n : Nat} (hn : n = 4 ∨ n = 5) {d : Int} (hd : d = 1 ∨ d = -1) (bn : Bool) {r : Nat → Nat} (hr : ∀ k,k < n → r k ≤ (drawE r k).2.length) : lawOk n d bn (drawnE r n) = true := by
  have hk : ∀ k,k < n → r k ≤ k:=fun k hk=>Nat.le_trans (hr k hk) (drawE_len r k)
  rcases hn with rfl | rfl
  · have h := all4_of hd bn
    have e : ∀ j,j < 4 → r j = at4 (r 1) (r 2) (r 3) j:=by
      intro j hj
      have : j = 0 ∨ j = 1 ∨ j = 2 ∨ j = 3:=by omega
      rcases this with rfl | rfl | rfl | rfl
      · exact Nat.le_zero.mp (hk 0 (by decide))
      · rfl
      · rfl
      · rfl
    unfold all4 at h
    have h1:=List.all_eq_true.mp h (r 1) (List.mem_range.mpr (Nat.lt_succ_of_le (hk 1 (by decide))))
    have h2:=List.all_eq_true.mp h1 (r 2) (List.mem_range.mpr (Nat.lt_succ_of_le (hk 2 (by decide))))
    have h3:=List.all_eq_true.mp h2 (r 3) (List.mem_range.mpr (Nat.lt_succ_of_le (hk 3 (by decide))))
    rw [if_pos (fits_congr e hr)] at h3
    unfold drawnE at h3 ⊢
    rw [drawE_congr 4 e]
    exact h3
  · have h := all5_of hd bn (Nat.lt_succ_of_le (hk 1 (by decide))) (Nat.lt_succ_of_le (hk 2 (by decide)))
    have e : ∀ j,j < 5 → r j = at5 (r 1) (r 2) (r 3) (r 4) j:=by
      intro j hj
      have : j = 0 ∨ j = 1 ∨ j = 2 ∨ j = 3 ∨ j = 4:=by omega
      rcases this with rfl | rfl | rfl | rfl | rfl
      · exact Nat.le_zero.mp (hk 0 (by decide))
      · rfl
      · rfl
      · rfl
      · rfl
    unfold all5 at h
    have h3:=List.all_eq_true.mp h (r 3) (List.mem_range.mpr (Nat.lt_succ_of_le (hk 3 (by decide))))
    have h4:=List.all_eq_true.mp h3 (r 4) (List.mem_range.mpr (Nat.lt_succ_of_le (hk 4 (by decide))))
    rw [if_pos (fits_congr e hr)] at h4
    unfold drawnE at h4 ⊢
    rw [drawE_congr 5 e]
    exact h4

end
section
set_option maxRecDepth 100000
theorem str_ext {a b : Str} (h : a.cps.toList = b.cps.toList) : a = b := by
  obtain ⟨⟨x⟩⟩:=a
  obtain ⟨⟨y⟩⟩:=b
  have : x = y:=h
  rw [this]
theorem strEqs_eq : ∀ {a b : List Str},strEqs a b = true → a = b
  | [],[],_=>rfl
  | [],_ :: _,h=>nomatch h
  | _ :: _,[],h=>nomatch h
  | x :: r, y :: t, h => by
    refine obA (Bool.and_eq_true_iff.mp h) ?_;intro h1 h2
    rw [str_ext (eq_of_beq h1),strEqs_eq h2]
structure EvGood (n : Nat) (ev : List Ev) : Prop where
  len : ev.length = 2 * n
  nm : ∀ e ∈ ev,∃ c,e.2 = ⟨#[c]⟩ ∧ 97 ≤ c ∧ c < 97 + n
  op : ∀ j x,ev[j]? = some (false,x) → 0 < opensAt ev j
theorem nmOk_eq {n : Nat} {x : Str} (h : nmOk n x = true) : ∃ c,x = ⟨#[c]⟩ ∧ 97 ≤ c ∧ c < 97 + n := by
  unfold nmOk at h
  split at h
  · rename_i c hc
    refine obA (Bool.and_eq_true_iff.mp h) ?_;intro h1 h2
    rw [Nat.ble_eq] at h1 h2
    exact ⟨c,str_ext hc,h1,by omega⟩
  · cases h
theorem evGood_of {n : Nat} {ev : List Ev} (h : evsOk n ev = true) : EvGood n ev := by
  unfold evsOk at h
  refine obA (Bool.and_eq_true_iff.mp h) ?_;intro h12 h3
  refine obA (Bool.and_eq_true_iff.mp h12) ?_;intro h1 h2
  refine ⟨eq_of_beq h1,fun e he=>nmOk_eq (List.all_eq_true.mp h2 e he),fun j x hj=>?_⟩
  have hl:=(List.getElem?_eq_some_iff.mp hj).1
  have:=List.all_eq_true.mp h3 j (List.mem_range.mpr hl)
  rw [hj] at this
  exact Nat.le_of_ble_eq_true this
theorem nameTx {c : Nat} (h1 : 97 ≤ c) (h2 : c < 97 + 5) : NameTx ⟨#[c]⟩ := by
  have key : ∀ i,i < 5 → ((⟨#[97 + i]⟩ : Str) == Str.ofString "/") = false ∧ (Txt.slice ⟨#[97 + i]⟩ none (some 1) == Str.ofString "{") = false:=by decide +kernel
  have e:=key (c - 97) (by omega)
  rw [Nat.add_sub_cancel' h1] at e
  exact ⟨rfl,e.1,e.2⟩
structure BlGood (n : Nat) (bl : List Str) : Prop where
  len : bl.length ≤ 10
  all : ∀ b ∈ bl,0 < b.length ∧ b.length ≤ 10 ∧ ∀ c ∈ b.cps.toList,97 ≤ c ∧ c < 97 + n
theorem blGood_of {n : Nat} {bl : List Str} (h : blOk n bl = true) : BlGood n bl := by
  unfold blOk at h
  refine obA (Bool.and_eq_true_iff.mp h) ?_;intro h1 h2
  refine ⟨Nat.le_of_ble_eq_true h1,fun b hb=>?_⟩
  have h3:=List.all_eq_true.mp h2 b hb
  refine obA (Bool.and_eq_true_iff.mp h3) ?_;intro h45 h6
  refine obA (Bool.and_eq_true_iff.mp h45) ?_;intro h4 h5
  have e : b.length = b.cps.toList.length:=by simp [Str.length]
  refine ⟨by rw [e];exact Nat.le_of_ble_eq_true h4,by rw [e];exact Nat.le_of_ble_eq_true h5,fun c hc=>?_⟩
  refine obA (Bool.and_eq_true_iff.mp (List.all_eq_true.mp h6 c hc)) ?_;intro h7 h8
  rw [Nat.ble_eq] at h7 h8
  exact ⟨h7,by omega⟩
theorem lk_value {x y : Str} : ∀ {l : SVT},lk (txs l) x.cps.toList = some y → ∃ t,valueAt (mapV l) x = some (.str y t)
  | [],h=>nomatch h
  | (k, v, t) :: r, h => by
    have h' : (if k.cps.toList == x.cps.toList then some v else lk (txs r) x.cps.toList) = some y:=h
    by_cases e : k.cps.toList = x.cps.toList
    · rw [if_pos (by rw [e]; exact beq_self_eq_true _)] at h'
      cases h'
      have ek:=str_ext e
      subst ek
      refine ⟨t,?_⟩
      unfold valueAt mapV
      simp
    · rw [if_neg (fun q => e (eq_of_beq q))] at h'
      refine obE (lk_value h') ?_;intro t' ht
      have ek : k ≠ x:=fun q=>e (by rw [q])
      refine ⟨t',?_⟩
      unfold valueAt mapV at ht ⊢
      rw [List.map_cons,List.find?_cons_of_neg (by simpa using ek)]
      exact ht
structure LawF (n : Nat) (d : Int) (bn : Bool) (ev ev2 : List Ev) : Prop where
  g1 : EvGood n ev
  g2 : EvGood n ev2
  bf : BlGood n (famsOf d bn ev)
  br : BlGood n (runsOf ev)
  st : ∀ k,k < n → ∃ y,lk (stepsP (runsOf ev) (runsOf ev).length) (nm1 k).cps.toList = some y ∧ lk (stepsP (famsOf d bn ev) (famsOf d bn ev).length) y.cps.toList = some (nm1 ((k + 1) % n))
  ld : laidS (runsOf ev) 8 97 = some (ev2.map wordOf)
  fr : famsOf d bn ev2 = runsOf ev
  rf : runsOf ev2 = sortS ((famsOf d bn ev).map (earlierS n))
theorem lawF_of {n : Nat} {d : Int} {bn : Bool} {ev : List Ev} (h : lawOk n d bn ev = true) : ∃ ev2, LawF n d bn ev ev2 := by
  unfold lawOk at h
  refine obA (Bool.and_eq_true_iff.mp h) ?_;intro h h5
  refine obA (Bool.and_eq_true_iff.mp h) ?_;intro h h4
  refine obA (Bool.and_eq_true_iff.mp h) ?_;intro h h3
  refine obA (Bool.and_eq_true_iff.mp h) ?_;intro h1 h2
  split at h5
  · cases h5
  · rename_i ws hws
    refine obA (Bool.and_eq_true_iff.mp h5) ?_;intro h5 h9
    refine obA (Bool.and_eq_true_iff.mp h5) ?_;intro h5 h8
    refine obA (Bool.and_eq_true_iff.mp h5) ?_;intro h6 h7
    refine ⟨ws.map evOf,evGood_of h1,evGood_of h7,blGood_of h2,blGood_of h3,fun k hk=>?_,?_,strEqs_eq h8,strEqs_eq h9⟩
    · unfold stepOk at h4
      have h4':=List.all_eq_true.mp h4 k (List.mem_range.mpr hk)
      split at h4'
      · rename_i y hy
        split at h4'
        · rename_i z hz
          refine ⟨y,hy,?_⟩
          have : z = nm1 ((k + 1) % n):=str_ext (eq_of_beq h4')
          rw [← this];exact hz
        · cases h4'
      · cases h4'
    · rw [hws];exact congrArg some (strEqs_eq h6)
theorem popW_E (p : EP) : ∀ j,popW (p.1.map wordOf,p.2) j = ((popE p j).1.map wordOf,(popE p j).2)
  | 0=>rfl
  | j + 1 => by
    show ((popW (p.1.map wordOf,p.2) j).1 ++ [cl ((popW (p.1.map wordOf,p.2) j).2.getLast?.getD Str.empty)],(popW (p.1.map wordOf,p.2) j).2.dropLast) = _
    rw [popW_E p j]
    show (_ ++ [cl _],_) = (((popE p j).1 ++ [(false,(popE p j).2.getLast?.getD Str.empty)]).map wordOf,_)
    rw [List.map_append];rfl
noncomputable def rOf (nm : Nat → Str) (cs : List Int) (k : Nat) : Nat := (Int.fmod (cs.getD k 0) ((drawW nm cs k).2.length + 1)).toNat
theorem drawW_E {nm : Nat → Str} {cs : List Int} {n : Nat} (hnm : ∀ k,k < n → nm k = nm1 k) : ∀ k,k ≤ n → drawW nm cs k = ((drawE (rOf nm cs) k).1.map wordOf,(drawE (rOf nm cs) k).2)
  | 0,_=>rfl
  | k + 1, h => by
    have ih:=drawW_E (cs:=cs) hnm k (Nat.le_of_succ_le h)
    show ((popW (drawW nm cs k) (rOf nm cs k)).1 ++ [op (nm k)],(popW (drawW nm cs k) (rOf nm cs k)).2 ++ [nm k]) = _
    rw [ih,popW_E,hnm k h]
    show _ = (((popE (drawE (rOf nm cs) k) (rOf nm cs k)).1 ++ [(true,nm1 k)]).map wordOf,(popE (drawE (rOf nm cs) k) (rOf nm cs k)).2 ++ [nm1 k])
    rw [List.map_append];rfl
theorem rOf_le {nm : Nat → Str} {cs : List Int} {n : Nat} (hnm : ∀ k,k < n → nm k = nm1 k) (k : Nat) (hk : k < n) : rOf nm cs k ≤ (drawE (rOf nm cs) k).2.length := by
  have e : (drawW nm cs k).2 = (drawE (rOf nm cs) k).2:=by rw [drawW_E (cs:=cs) hnm k (Nat.le_of_lt hk)]
  have h1 : rOf nm cs k = (Int.fmod (cs.getD k 0) ((drawW nm cs k).2.length + 1)).toNat:=rfl
  have h2:=Int.fmod_lt_of_pos (cs.getD k 0) (show (0:Int) < ((drawW nm cs k).2.length : Int) + 1 by omega)
  rw [h1,← e]
  omega
theorem drawnW_E {nm : Nat → Str} {cs : List Int} {n : Nat} (hnm : ∀ k,k < n → nm k = nm1 k) : drawnW nm cs n = (drawnE (rOf nm cs) n).map wordOf := by
  unfold drawnW drawnE
  rw [drawW_E (cs:=cs) hnm n (Nat.le_refl n),popW_E]
theorem nms_item {n : Nat} (hn : n = 4 ∨ n = 5) : ∀ k,k < n → Txt.item (nmsN n) (k : Int) = nm1 k := by
  rcases hn with rfl | rfl <;> decide +kernel
theorem first_ok {n : Nat} (hn : n = 4 ∨ n = 5) {d : Int} (hd : d = 1 ∨ d = -1) (bn : Bool) (cs : List Int) : ∃ ev ev2,drawnW (fun k=>Txt.item (nmsN n) (k : Int)) cs n = ev.map wordOf ∧ LawF n d bn ev ev2 := by
  have h:=lawOk_all hn hd bn (rOf_le (cs:=cs) (nms_item hn))
  refine obE (lawF_of h) ?_;intro ev2 h2
  exact ⟨_,ev2,drawnW_E (nms_item hn),h2⟩

end
section
section
set_option maxRecDepth 100000 in
theorem cp_init {w : World} {mean : ExcName → Option Value} {mg mb : Str → Option Value} {h₀ : Heap} {s : Shared} {dp un : Nat} {fr : Option (List Env)} {gd : Option (List Code)} {R : Result → Shared → Prop}
  {x dx cl : Addr}
  (C:Cx w mean mg mb h₀ s [(x,instObj 234 dx),(dx,dictOf [] 0)]) (hd : dp + 1 < recursionLimit) (hu : un + 8 < cLine) (hxd : dx < x)
  (hret : ∀ (t0 : Tok) (c:Nat) h' tk',
    h'.get? dx = some (dictOf [{ hash:=PyData.keyHash w.params (Str.ofString "comp_select_list"),key:=.str (Str.ofString "comp_select_list") t0,val:=.ref cl }] c) → h'.get? x = some (instObj 234 dx) →
    Keep [x,dx] s { s with heap:=h',toks:=tk' } → R (.ok (.ret .none)) { s with heap:=h',toks:=tk' })
  :
  codeAny (model P0 w) (Ar dp fr gd un) (.call (.ref 224) ⟨[.ref x,.ref cl],[]⟩) R s:=by
  k_with_none
  k_with "M.in" => ((case k1=>assumption);(case k6=>k_is);(case k7=>k_is);(case k8=>omega);(case k9=>first | exact BindsTo.of_eq rfl | exact binds_K (by k_in) rfl (by k_is) rfl rfl rfl | (refine' kp_binds (by k_in) (by exact fun _=>rfl)));(case c5=>decide);(case kB=>exact locs rfl);(case c2=>exact rfl);(case c3=>exact rfl);(case c4=>exact rfl);k_whole)
  k_with "call ref" => ((with_reducible show wpAny _ _ (call (Value.ref 98) _) _ _ _);k_dflt (refine' call_join98 (by k_asm) (by k_asm) (by assumption) (by k_mem) ?_ ?_;rotate_left;intro _ _))
  k_with "call ref" => ((with_reducible show wpAny _ _ (call (Value.ref _) [Value.str _ _]) _ _ _);k_dflt (refine' call_bd_K (by k_asm) (by k_asm) (by k_mem) (by k_upd) ?_ ?_;intro _ _ _;(try k_sweep)))
  k_with "call builtin:list.append" => (k_dflt (refine' append_svs (by k_asm) (by k_asm) (by k_upd) ?_ ?_;intro _ _ _;(try k_sweep)))
  have X0:=C.X.keeps C.st
  k_dflt (refine' enter_code (binds:=[(Str.ofString "self",.ref x),(Str.ofString "comp_select_list",.ref cl)]) ?k1 ?k6 ?k7 ?k8 ?k9 ?kB ?_ ?c2 ?c3 ?c4 ?c5;k_extra "M.in")
  intro g L h F N X T kG lG eL
  k_lt lG
  k_lt2 hxd
  clear X0
  (try dsimp only)
  (try k_fold)
  k_steps
  refine Leave.intro (by assumption) fun kp=>?_
  (rename News _ _ _ _=>N2)
  show R (.ok (.ret .none)) _
  refine' hret _ _ _ _ ?za ?zb kp
  case za=>exact at_of N2 (by k_mem)
  case zb=>exact at_of N2 (by k_mem)
theorem new_comp {w : World} {mean : ExcName → Option Value} {mg mb : Str → Option Value} {h₀ : Heap} {s : Shared} {dp un : Nat} {fr : Option (List Env)} {gd : Option (List Code)} {Q E : Value → Shared → Prop} {L cl : Addr} {m : Str → Option Value} {rest : List (Addr × Obj)}
    (X : (Mine.hd.heap_1 w.params).In h₀) (TP : Top topProg Lz mean mg mb h₀) (F:Fr h₀ L s.heap m) (N:News h₀ L s.heap rest) (hd : dp + 9 < recursionLimit) (hu : un + 20 < cLine)
    (h : ∀ (x dx : Addr) (t0 : Tok) (c:Nat) h' tk',Fr h₀ L h' m → News h₀ L h' ((x,instObj 234 dx) :: (dx,dictOf [{ hash:=PyData.keyHash w.params (Str.ofString "comp_select_list"),key:=.str (Str.ofString "comp_select_list") t0,val:=.ref cl }] c) :: rest) → (∀ p ∈ rest,p.1 < dx) → dx < x → Q (.ref x) { s with heap:=h',toks:=tk' }) :
    wpAny (model P0 w) (Ar dp fr gd un) (call (.ref 234) [.ref cl]) Q E s:=by
  have X0:=X.keeps F.keep
  refine call_cls (K:=Mine.hd.heap_1 w.params) (C:=234) (fI:=224) F X N (by k_is) (by k_is) (by k_is) ?_
  intro x dx h1 F1 N1 l1 l2
  show codeAny _ _ _ _ _
  refine cp_init (mean:=mean) (mg:=mg) (mb:=mb) (h₀:=h₀) (x:=x) (dx:=dx) (s:={ s with heap:=h1 }) (Cx.of X TP F1 N1 (U:=[(x,instObj 234 dx),(dx,dictOf [] 0)]) (fun p hp=>?_)) ?_ ?_ l2 ?_
  · simp only [List.mem_cons, List.not_mem_nil, or_false] at hp ⊢
    rcases hp with rfl | rfl <;> simp
  · show dp + _ + 1 < _
    have e : (Code.builtin "type.__call__" ⟨[.ref 234,.ref cl],[]⟩).weight ≤ 5:=Nat.le_of_ble_eq_true (by rfl)
    omega
  · show un + _ + 8 < _
    have e : (Code.builtin "type.__call__" ⟨[.ref 234,.ref cl],[]⟩).cUnits ≤ 5:=Nat.le_of_ble_eq_true (by rfl)
    omega
  intro t0 c h2 tk2 a1 a2 kp
  refine ⟨rfl,?_⟩
  have F2:=after_fr F1 (W:=[x,dx]) (fun a ha=>by
    simp only [List.mem_cons,List.not_mem_nil,or_false] at ha
    rcases ha with rfl | rfl
    · exact (N1 (_,instObj 234 dx) (List.Mem.head _)).2
    · exact (N1 (_,dictOf [] 0) (List.Mem.tail _ (List.Mem.head _))).2) kp
  have N2:=after_news (rest:=rest) (new:=[(x,instObj 234 dx),(dx,dictOf [{ hash:=PyData.keyHash w.params (Str.ofString "comp_select_list"),key:=.str (Str.ofString "comp_select_list") t0,val:=.ref cl }] c)]) F1 N1 kp (fun p hp=>by
      have h3 : p.1 < dx:=l1 p hp
      refine ⟨List.Mem.tail _ (List.Mem.tail _ hp),?_⟩
      simp only [List.mem_cons,List.not_mem_nil,or_false,not_or]
      exact ⟨fun e=>absurd (e ▸ h3 : x < dx) (Nat.not_lt.mpr (Nat.le_of_lt l2)),fun e=>absurd (e ▸ h3 : dx < dx) (Nat.lt_irrefl _)⟩) (fun p hp=>by
      simp only [List.mem_cons,List.not_mem_nil,or_false] at hp
      rcases hp with rfl | rfl
      · exact ⟨a2,.inl (N1 (_,instObj 234 dx) (List.Mem.head _)).2⟩
      · exact ⟨a1,.inl (N1 (_,dictOf [] 0) (List.Mem.tail _ (List.Mem.head _))).2⟩)
  exact h x dx t0 c h2 tk2 F2 N2 l1 l2
end

end
section
set_option maxRecDepth 100000
noncomputable def segsE : List Str → List Str → List Seg
  | [],_=>[]
  | [w],_=>[(w.cps.toList,none)]
  | w :: r,g=>(w.cps.toList,(g.getD 0 Str.empty).cps.toList.head?) :: segsE r (g.drop 1)
theorem textN_cons (w : Str) (ws gs : List Str) : ∀ k,textN (w :: ws) gs (k + 1) = w ++ gs.getD 0 Str.empty ++ textN ws (gs.drop 1) k
  | 0 => by
    show (w :: ws).getD 0 Str.empty ++ gs.getD 0 Str.empty ++ (w :: ws).getD 1 Str.empty = _
    rfl
  | k + 1 => by
    rw [textN_succ,textN_cons w ws gs k,textN_succ]
    have e1 : gs.getD (k + 1) Str.empty = (gs.drop 1).getD k Str.empty:=by
      rw [List.getD_eq_getElem?_getD,List.getD_eq_getElem?_getD,List.getElem?_drop,Nat.add_comm]
    have e2 : (w :: ws).getD (k + 1 + 1) Str.empty = ws.getD (k + 1) Str.empty:=rfl
    rw [e1,e2,str_append_assoc,str_append_assoc,str_append_assoc,str_append_assoc,str_append_assoc]
theorem app_cps (a b : Str) : (a ++ b).cps.toList = a.cps.toList ++ b.cps.toList := by
  have e : (a ++ b).cps = a.cps ++ b.cps:=rfl
  rw [e,Array.toList_append]
theorem text_flat : ∀ (ws gs : List Str),ws ≠ [] → (∀ x ∈ gs,∃ c,x = ⟨#[c]⟩) → ws.length ≤ gs.length + 1 → (textN ws gs (ws.length - 1)).cps.toList = flat (segsE ws gs)
  | [],_,h,_,_=>absurd rfl h
  | [w], gs, _, _, _ => by
    show w.cps.toList = w.cps.toList ++ [] ++ []
    simp
  | w :: v :: r, gs, _, hg, hl => by
    have hl0 : 0 < gs.length:=by simp only [List.length_cons] at hl;omega
    obtain ⟨c,hc⟩:=hg (gs.getD 0 Str.empty) (by rw [List.getD_eq_getElem?_getD,List.getElem?_eq_getElem hl0];exact List.getElem_mem hl0)
    show (textN (w :: v :: r) gs ((v :: r).length - 1 + 1)).cps.toList = _
    rw [textN_cons,app_cps,app_cps,text_flat (v :: r) (gs.drop 1) (by simp) (fun x hx=>hg x (List.mem_of_mem_drop hx)) (by simp only [List.length_cons,List.length_drop] at hl ⊢;omega)]
    show _ = w.cps.toList ++ ((gs.getD 0 Str.empty).cps.toList.head?).toList ++ flat (segsE (v :: r) (gs.drop 1))
    rw [hc];rfl
theorem segs_words : ∀ (ws gs : List Str),(segsE ws gs).map (fun q=>(⟨q.1.toArray⟩ : Str)) = ws
  | [],_=>rfl
  | [w],_=>rfl
  | w :: v :: r, gs => by
    show (⟨w.cps.toList.toArray⟩ : Str) :: (segsE (v :: r) (gs.drop 1)).map _ = _
    rw [segs_words (v :: r) (gs.drop 1)]
theorem segs_len : ∀ (ws gs : List Str),(segsE ws gs).length = ws.length
  | [],_=>rfl
  | [w],_=>rfl
  | w :: v :: r, gs => by
    show (segsE (v :: r) (gs.drop 1)).length + 1 = _
    rw [segs_len (v :: r) (gs.drop 1)];rfl
theorem gap_in {gs : List Str} (hg : ∀ x ∈ gs,∃ c,GapC c ∧ x = ⟨#[c]⟩) {g : Nat} (h : (gs.getD 0 Str.empty).cps.toList.head? = some g) : GapC g := by
  cases gs with
  | nil=>cases h
  | cons x r =>
    refine obEA (hg x (.head _)) ?_;intro c hc e
    have h' : x.cps.toList.head? = some g:=h
    rw [e] at h'
    cases h'
    exact hc
theorem segs_ok : ∀ (ws gs : List Str), (∀ w ∈ ws, 0 < w.length ∧ w.length < 100 ∧ ∀ c ∈ w.cps.toList, PlainCh c) → (∀ x ∈ gs, ∃ c, GapC c ∧ x = ⟨#[c]⟩) → ws.length ≤ gs.length + 1 → SegsOk (segsE ws gs)
  | [],_,_,_,_=>trivial
  | [w], _, hw, _, _ => by
    refine obAA (hw w (.head _)) ?_;intro h1 h2 h3
    have e : w.length = w.cps.toList.length:=by simp [Str.length]
    exact ⟨e ▸ h1,e ▸ h2,h3,(fun g h=>by cases h),(fun _=>rfl),trivial⟩
  | w :: v :: r, gs, hw, hg, hl => by
    refine obAA (hw w (.head _)) ?_;intro h1 h2 h3
    have e : w.length = w.cps.toList.length:=by simp [Str.length]
    refine ⟨e ▸ h1,e ▸ h2,h3,fun g h=>?_,fun h=>?_,segs_ok (v :: r) (gs.drop 1) (fun x hx=>hw x (.tail _ hx)) (fun x hx=>hg x (List.mem_of_mem_drop hx)) (by simp only [List.length_cons,List.length_drop] at hl ⊢;omega)⟩
    · rcases gap_in hg h with h | h | h
      · exact .inr (.inr h)
      · exact .inr (.inl h)
      · exact .inl h
    · cases gs with
      | nil=>simp only [List.length_cons,List.length_nil] at hl;omega
      | cons x t =>
        refine obEA (hg x (.head _)) ?_;intro c _ e2
        have h' : x.cps.toList.head? = none:=h
        rw [e2] at h'
        cases h'
theorem cnt_app (c : Nat) : ∀ a b : List Nat,cnt c (a ++ b) = cnt c a + cnt c b
  | [],b=>by rw [cnt_nil,List.nil_append];omega
  | x :: r,b=>by rw [List.cons_append,cnt_cons,cnt_cons,cnt_app c r b];omega
theorem cnt_none (c : Nat) : ∀ a : List Nat,(∀ x ∈ a,x ≠ c) → cnt c a = 0
  | [],_=>cnt_nil c
  | x :: r,h=>by rw [cnt_cons,if_neg (h x (.head _)),cnt_none c r fun y hy=>h y (.tail _ hy)];rfl
theorem cnt_segs : ∀ (l : List Seg),(∀ q ∈ l,∀ x ∈ q.1,x ≠ 10) → cnt 10 (flat l) = nls l
  | [],_=>cnt_nil 10
  | (w, o) :: r, h => by
    show cnt 10 (w ++ o.toList ++ flat r) = (if o = some 10 then 1 else 0) + nls r
    rw [cnt_app,cnt_app,cnt_none 10 w (h (w,o) (.head _)),cnt_segs r fun q hq=>h q (.tail _ hq)]
    cases o with
    | none=>simp [cnt_nil]
    | some g =>
      show 0 + cnt 10 [g] + nls r = _
      rw [cnt_cons,cnt_nil]
      by_cases e : g = 10
      · simp [e]
      · simp [e]
inductive SameV : Value → Value → Prop
  | str (x:Str) (t u : Tok) : SameV (.str x t) (.str x u)
  | int (i:Int) (t u : Tok) : SameV (.int i t) (.int i u)
theorem same_svs : ∀ {l r : SV},l.map (·.1) = r.map (·.1) → Paired SameV (svs l) (svs r)
  | [],[],_=>.nil
  | [],_ :: _,h=>nomatch h
  | _ :: _,[],h=>nomatch h
  | (x, t) :: l, (y, u) :: r, h => by
    have h1 : x = y:=(List.cons.inj h).1
    have h2:=(List.cons.inj h).2
    subst h1
    exact .cons (.str x t u) (same_svs h2)
theorem same_strs {vs ws : List Value} {xs : List Str} (h1 : StrsAre vs xs) (h2 : StrsAre ws xs) : Paired SameV vs ws := by
  induction h1 generalizing ws with
  | nil=>cases h2;exact .nil
  | cons x t _ ih =>
    cases h2 with
    | cons _ u h=>exact .cons (.str x t u) (ih h)
theorem paired_get {F : Value → Value → Prop} {l r : List Value} (h : Paired F l r) : ∀ (j : Nat) (h1 : j < l.length) (h2 : j < r.length),F l[j] r[j] := by
  induction h with
  | nil=>exact fun j h1=>absurd h1 (Nat.not_lt_zero _)
  | cons h _ ih =>
    intro j
    cases j with
    | zero=>exact fun _ _=>h
    | succ j=>exact fun h1 h2=>ih j (Nat.lt_of_succ_lt_succ h1) (Nat.lt_of_succ_lt_succ h2)
theorem eqAt_same {A : Around} {s : Shared} {v y : Value} (h : SameV v y) : PySem.SeqAt.EqAt A s v y true := by
  cases h with
  | str x t u=>have:=PySem.SeqAt.EqAt.str_str (A:=A) (s:=s) x t x u;rwa [beq_self_eq_true] at this
  | int i t u=>have:=PySem.SeqAt.EqAt.int_int (A:=A) (s:=s) i t i u;rwa [beq_self_eq_true] at this
theorem all_true (n : Nat) : (List.range n).all (fun _=>true) = true := by simp
section
variable {prog : Program} {w : World} {A : Around} {E : Value → Shared → Prop} {s : Shared} {Q : Value → Shared → Prop} {a b : Addr} {vs ws : List Value}
theorem ne_same (ha : s.heap.IsList a vs.toArray) (hb : s.heap.IsList b ws.toArray) (h : Paired SameV vs ws) (hu : A.units < cLine) (hQ : Q (.bool false) s) : wpAny (model prog w) A (compareOp .NotEq (.ref a) (.ref b)) Q E s := by
  refine cmp_ofNotEq ?_
  have:=PySem.SeqAt.RcNeAt.lists (e:=fun _=>true) ha hb (by rw [List.size_toArray,List.size_toArray,h.length]) hu (fun j h1 h2=>eqAt_same (by
    have:=paired_get h j (by simpa using h1) (by simpa using h2)
    simpa using this)) prog w E Q
  rw [all_true] at this
  exact this hQ
theorem eq_same (ha : s.heap.IsList a vs.toArray) (hb : s.heap.IsList b ws.toArray) (h : Paired SameV vs ws) (hu : A.units < cLine) (hQ : Q (.bool true) s) : wpAny (model prog w) A (compareOp .Eq (.ref a) (.ref b)) Q E s := by
  refine cmp_ofEq ?_
  have:=PySem.SeqAt.RcAt.lists (e:=fun _=>true) ha hb (by rw [List.size_toArray,List.size_toArray,h.length]) hu (fun j h1 h2=>eqAt_same (by
    have:=paired_get h j (by simpa using h1) (by simpa using h2)
    simpa using this)) prog w E Q
  rw [all_true] at this
  exact this hQ
end

end
section
set_option maxRecDepth 100000
theorem plain_ch {x : Nat} (h : x = 60 ∨ x = 62 ∨ x = 47 ∨ (97 ≤ x ∧ x < 102)) : PlainCh x ∧ x ≠ 10 := by
  have key : ∀ x,x < 102 → (x = 60 ∨ x = 62 ∨ x = 47 ∨ 97 ≤ x) → ((Builtin.Str.occurrences (Str.ofString "\n\t\r ") ⟨#[x]⟩ 0 (Str.ofString "\n\t\r ").length 1).isEmpty = true ∧ ((⟨#[x]⟩ : Str) == Str.ofString "\"") = false ∧ ((⟨#[x]⟩ : Str) == Str.ofString "\\") = false) ∧ x ≠ 10:=by decide +kernel
  have e:=key x (by omega) (by omega)
  exact ⟨⟨e.1.1,e.1.2.1,e.1.2.2⟩,e.2⟩
theorem word_cps {b : Bool} {c : Nat} : (wordOf (b,⟨#[c]⟩)).cps.toList = if b then [60,c,62] else [60,47,c,62] := by
  have e1 : Str.ofString "<" = ⟨#[60]⟩:=by decide +kernel
  have e2 : Str.ofString "</" = ⟨#[60,47]⟩:=by decide +kernel
  have e3 : Str.ofString ">" = ⟨#[62]⟩:=by decide +kernel
  cases b
  · show (Str.ofString "</" ++ ⟨#[c]⟩ ++ Str.ofString ">").cps.toList = _
    rw [e2,e3];rfl
  · show (Str.ofString "<" ++ ⟨#[c]⟩ ++ Str.ofString ">").cps.toList = _
    rw [e1,e3];rfl
theorem word_chars {e : Ev} {n : Nat} (hn : n ≤ 5) (h : ∃ c,e.2 = ⟨#[c]⟩ ∧ 97 ≤ c ∧ c < 97 + n) : ∀ x ∈ (wordOf e).cps.toList,x = 60 ∨ x = 62 ∨ x = 47 ∨ (97 ≤ x ∧ x < 102) := by
  obtain ⟨b,y⟩:=e
  refine obEAA h ?_;clear h;intro c oR1 h1 h2;subst oR1
  rw [word_cps]
  intro x hx
  cases b
  · simp at hx;omega
  · simp at hx;omega
theorem EvGood.name {n : Nat} {ev : List Ev} (g : EvGood n ev) (hn : n ≤ 5) : ∀ e ∈ ev,NameTx e.2 := fun e he=>by
  refine obEAA (g.nm e he) ?_;intro c h h1 h2
  rw [h];exact nameTx h1 (by omega)
theorem EvGood.ascii {n : Nat} {ev : List Ev} (g : EvGood n ev) (hn : n ≤ 5) : ∀ e ∈ ev,∀ x ∈ e.2.cps.toList,x < 128 := fun e he x hx=>by
  refine obEAA (g.nm e he) ?_;intro c h h1 h2
  rw [h] at hx
  simp at hx
  omega
theorem gap_plain {x : Str} (h : ∃ c,GapC c ∧ x = ⟨#[c]⟩) : x.length = 1 ∧ PlainTx x := by
  have key : ∀ c ∈ [32,9,10],((⟨#[c]⟩ : Str).length = 1 ∧ (PySem.Builtin.Str.occurrences ⟨#[c]⟩ (Str.ofString "&") 0 (⟨#[c]⟩ : Str).length 1).isEmpty = true ∧ (PySem.Builtin.Str.occurrences ⟨#[c]⟩ (Str.ofString "<") 0 (⟨#[c]⟩ : Str).length 1).isEmpty = true ∧ (PySem.Builtin.Str.occurrences ⟨#[c]⟩ (Str.ofString ">") 0 (⟨#[c]⟩ : Str).length 1).isEmpty = true ∧ (PySem.Builtin.Str.occurrences ⟨#[c]⟩ (Str.ofString "\r") 0 (⟨#[c]⟩ : Str).length 1).isEmpty = true):=by decide +kernel
  refine obEA h ?_;clear h;intro c hc e
  rw [e]
  have q:=key c (hc.elim (fun e=>e ▸ .head _) fun h=>h.elim (fun e=>e ▸ .tail _ (.head _)) fun e=>e ▸ .tail _ (.tail _ (.head _)))
  exact ⟨q.1,q.2.1,q.2.2.1,q.2.2.2.1,q.2.2.2.2⟩
theorem at_306 {w : World} {g : Heap} (X : (Mine.hd.heap_1 w.params).In g) : ∃ o fd,o.data = Data.func fd ∧ g.get? 306 = some o := by
  have X0:=X
  refine' fn_at X ?k6
  case k6=>k_is
theorem strsAre_get {vs : List Value} {xs : List Str} (h : StrsAre vs xs) : ∀ {i : Nat} {v : Value},vs[i]? = some v → ∃ x t,xs[i]? = some x ∧ v = .str x t := by
  induction h with
  | nil=>exact fun h=>by simp at h
  | cons x t _ ih =>
    intro i
    cases i with
    | zero=>exact fun h=>⟨x,t,rfl,by simpa using h.symm⟩
    | succ i=>exact fun h=>ih (i:=i) (by simpa using h)
theorem strsAre_svs {vs : List Value} {xs : List Str} (h : StrsAre vs xs) : ∃ l : SV,vs = svs l ∧ l.map (·.1) = xs := by
  induction h with
  | nil=>exact ⟨[],rfl,rfl⟩
  | cons x t _ ih =>
    refine obEA ih ?_;intro l e1 e2
    exact ⟨(x,t) :: l,by rw [e1];rfl,by rw [← e2];rfl⟩
theorem strs_paired {f : Nat → Str} : ∀ {vs ys : List Value} {l : List Nat},Paired (fun v y=>∀ (c : Nat) t1,v = .str ⟨#[c]⟩ t1 → ∃ t',y = Value.str (f c) t') vs ys → vs.length = l.length → (∀ (j : Nat) v,vs[j]? = some v → ∃ (c : Nat) (u : Tok),l[j]? = some c ∧ v = .str ⟨#[c]⟩ u) → StrsAre ys (l.map f)
  | _,_,[],.nil,_,_=>.nil
  | _, _, c :: l, .cons hf ht, hl, hP => by
    refine obEEA (hP 0 _ rfl) ?_;intro c' u e oR3;subst oR3
    cases e
    refine obE (hf c u rfl) ?_;intro t' oR1;subst oR1
    exact .cons _ _ (strs_paired ht (Nat.succ.inj hl) fun j v e=>hP (j + 1) v e)
  | _,_,_ :: _,.nil,hl,_=>nomatch hl
  | _,_,[],.cons _ _,hl,_=>nomatch hl
theorem prevS_len {n c : Nat} : (prevS n c).length = 1 := by unfold prevS;split <;> rfl
theorem cat_ones : ∀ {l : List Str},(∀ x ∈ l,x.length = 1) → (cat l).length = l.length
  | [],_=>rfl
  | x :: r, h => by
    show (x ++ cat r).length = _
    rw [str_len_append,h x (.head _),cat_ones fun y hy=>h y (.tail _ hy),List.length_cons];omega
theorem earlier_len {n : Nat} {b : Str} : (earlierS n b).length = b.length := by
  unfold earlierS
  rw [cat_ones fun x hx=>?_]
  · rw [(sortS_perm _).length_eq,List.length_map];simp [Str.length]
  · refine obEA (List.mem_map.mp ((sortS_perm _).mem_iff.mp hx)) ?_; intro c _ oR2; subst oR2
    exact prevS_len
structure PrevOk (n : Nat) (c : Nat) (z : Int) : Prop where
  fit : fitsSsize z = true
  lo : -((nmsN n).length : Int) ≤ z
  hi : z < (nmsN n).length
  it : (Txt.item (nmsN n) z).cps.toList = (prevS n c).cps.toList
theorem prev_at {n c : Nat} (hn : n = 4 ∨ n = 5) (h1 : 97 ≤ c) (h2 : c < 97 + n) : PrevOk n c (Txt.find (nmsN n) ⟨#[c]⟩ - 1) := by
  have key : ∀ n ∈ [4,5],∀ i,i < n → fitsSsize (Txt.find (nmsN n) ⟨#[97 + i]⟩ - 1) = true ∧ -((nmsN n).length : Int) ≤ Txt.find (nmsN n) ⟨#[97 + i]⟩ - 1 ∧ Txt.find (nmsN n) ⟨#[97 + i]⟩ - 1 < (nmsN n).length ∧ (Txt.item (nmsN n) (Txt.find (nmsN n) ⟨#[97 + i]⟩ - 1)).cps.toList = (prevS n (97 + i)).cps.toList:=by decide +kernel
  have e:=key n (hn.elim (fun e=>e ▸ .head _) fun e=>e ▸ .tail _ (.head _)) (c - 97) (by omega)
  rw [Nat.add_sub_cancel' h1] at e
  exact ⟨e.1,e.2.1,e.2.2.1,e.2.2.2⟩
theorem same_app {a b c d : List Value} (h : Paired SameV a b) (h2 : Paired SameV c d) : Paired SameV (a ++ c) (b ++ d) := by
  induction h with
  | nil=>exact h2
  | cons h _ ih=>exact .cons h ih
theorem words_le4 {n : Nat} (hn : n = 4 ∨ n = 5) {ev : List Ev} (g : EvGood n ev) (k : Nat) : ((ev.map wordOf).getD k Str.empty).length ≤ 4 := by
  rw [List.getD_eq_getElem?_getD]
  cases e : (ev.map wordOf)[k]? with
  | none=>exact Nat.zero_le _
  | some w =>
    refine obEA (List.mem_map.mp (List.mem_of_getElem? e)) ?_;intro e' he' oR2;subst oR2
    exact (word_len e' (g.name (by omega) e' he').one).1
theorem gaps_le1 {gl : List Str} (hg : ∀ x ∈ gl,∃ c,GapC c ∧ x = ⟨#[c]⟩) (k : Nat) : (gl.getD k Str.empty).length ≤ 1 := by
  rw [List.getD_eq_getElem?_getD]
  cases e : gl[k]? with
  | none=>exact Nat.zero_le _
  | some x=>exact Nat.le_of_eq (gap_plain (hg x (List.mem_of_getElem? e))).1
structure TextOk (tx : Str) (ws : List Str) (segs : List Seg) : Prop where
  flat : tx.cps.toList = flat segs
  ok : SegsOk segs
  len : (Mine.flat segs).length < 400
  few : segs.length < 100
  words : segs.map (fun q=>(⟨q.1.toArray⟩ : Str)) = ws
  cnt : Txt.count tx (Str.ofString "\n") = nls segs
theorem text_ok {n : Nat} (hn : n = 4 ∨ n = 5) {ev : List Ev} (g : EvGood n ev) {gl : List Str} (hg : ∀ x ∈ gl, ∃ c, GapC c ∧ x = ⟨#[c]⟩) (hl : gl.length = 2 * n) :
    TextOk (textN (ev.map wordOf) gl (ev.length - 1)) (ev.map wordOf) (segsE (ev.map wordOf) gl):=by
  have hlen:=g.len
  have hm : (ev.map wordOf).length = ev.length:=List.length_map ..
  have hne : ev.map wordOf ≠ []:=fun q=>by rw [q] at hm;simp at hm;omega
  have hf:=text_flat (ev.map wordOf) gl hne (fun x hx=>by refine obEA (hg x hx) ?_;intro c _ e;exact ⟨c,e⟩) (by omega)
  rw [hm] at hf
  have hw : ∀ w ∈ ev.map wordOf,0 < w.length ∧ w.length < 100 ∧ ∀ c ∈ w.cps.toList,PlainCh c ∧ c ≠ 10:=fun w hw=>by
    refine obEA (List.mem_map.mp hw) ?_;intro e he oR2;subst oR2
    have h1:=word_len e (g.name (by omega) e he).one
    refine ⟨by omega,by omega,fun c hc=>plain_ch (word_chars (n:=n) (by omega) (g.nm e he) c hc)⟩
  have hlt : (textN (ev.map wordOf) gl (ev.length - 1)).length ≤ 5 * (ev.length - 1) + 4:=by
    refine textN_len (fun k=>?_) (fun k=>?_) _
    · rw [List.getD_eq_getElem?_getD]
      cases e : (ev.map wordOf)[k]? with
      | none=>exact Nat.zero_le _
      | some w =>
        refine obEA (List.mem_map.mp (List.mem_of_getElem? e)) ?_;intro e' he' oR2;subst oR2
        exact (word_len e' (g.name (by omega) e' he').one).1
    · rw [List.getD_eq_getElem?_getD]
      cases e : gl[k]? with
      | none=>exact Nat.zero_le _
      | some x=>exact Nat.le_of_eq (gap_plain (hg x (List.mem_of_getElem? e))).1
  refine ⟨hf,segs_ok _ _ (fun w h=>⟨(hw w h).1,(hw w h).2.1,fun c hc=>((hw w h).2.2 c hc).1⟩) hg (by omega),?_,by rw [segs_len];omega,segs_words _ _,?_⟩
  · rw [← hf]
    have e : (textN (ev.map wordOf) gl (ev.length - 1)).length = (textN (ev.map wordOf) gl (ev.length - 1)).cps.toList.length:=by simp [Str.length]
    omega
  · have e : Str.ofString "\n" = ⟨#[10]⟩ := by decide +kernel
    rw [e,count_cnt,hf]
    refine cnt_segs _ fun q hq x hx=>?_
    have hmem : (⟨q.1.toArray⟩ : Str) ∈ ev.map wordOf:=by
      have:=segs_words (ev.map wordOf) gl
      rw [← this]
      exact List.mem_map_of_mem (f:=fun q : Seg=>(⟨q.1.toArray⟩ : Str)) hq
    exact ((hw _ hmem).2.2 x (by simpa using hx)).2

end
section
set_option maxRecDepth 100000
section
namespace LAk
noncomputable def P (sA : Addr) (sv : List Value) (ns : List Int) (w : World) (mean : ExcName → Option Value) (mg : Str → Option Value) (mb : Str → Option Value) (h₀ : Heap) (s : Shared) (dp : Nat) (un : Nat) (fr : Option (List Env)) (gd : Option (List Code)) (Q : Value → Shared → Prop) (g : Heap) (L : Addr) (h : Heap) (tk0 : Tok) : Prop :=
  ∀ (C:Cx w mean mg mb h₀ s [(123,tabObj #[]),(289,tabObj #[])]) (hd : dp + 100 < recursionLimit) (hu : un + 400 < cLine) (hCH1 : CodeHd h₀ 125 123) (hCH2 : CodeHd h₀ 293 289) (hw : s.heap.IsList sA sv.toArray) (hi : IntsAre sv ns) (hl : ns.length ≤ 63) (hsU : sA ≠ 123 ∧ sA ≠ 289) (hret : ∀ h' tk' gs' ps1 ps2,(AllBare s.gens → AllBare gs') → h'.get? 123 = some (tabObj ps1) → h'.get? 289 = some (tabObj ps2) → Keep [123,289] s { s with heap:=h',toks:=tk',gens:=gs' } → Q (.bool true) { s with heap:=h',toks:=tk',gens:=gs' }),
  BGoalC wpD w mean mg mb s ([(123,tabObj #[]),(289,tabObj #[])]) dp un fr gd 318 [(Str.ofString "script",.ref sA)] Q g L h tk0
noncomputable def F := ucr fun sA=>ucr fun sv=>ucr fun ns=>ucr fun w=>ucr fun mean=>ucr fun mg=>ucr fun mb=>ucr fun h₀=>ucr fun s=>ucr fun dp=>ucr fun un=>ucr fun fr=>ucr fun gd=>ucr fun Q=>ucr fun g=>ucr fun L=>ucr fun h tk0=>P sA sv ns w mean mg mb h₀ s dp un fr gd Q g L h tk0
noncomputable section
@[irreducible] def zz := eps ((0),([]),([]),d0) F
@[irreducible] def sA := zz.1
@[irreducible] def sv := zz.2.1
@[irreducible] def ns := zz.2.2.1
@[irreducible] def w := zz.2.2.2.1
@[irreducible] def mean := zz.2.2.2.2.1
@[irreducible] def mg := zz.2.2.2.2.2.1
@[irreducible] def mb := zz.2.2.2.2.2.2.1
@[irreducible] def h₀ := zz.2.2.2.2.2.2.2.1
@[irreducible] def zz8 := zz.2.2.2.2.2.2.2.2
@[irreducible] def s := zz8.1
@[irreducible] def dp := zz8.2.1
@[irreducible] def un := zz8.2.2.1
@[irreducible] def fr := zz8.2.2.2.1
@[irreducible] def gd := zz8.2.2.2.2.1
@[irreducible] def Q := zz8.2.2.2.2.2.1
@[irreducible] def g := zz8.2.2.2.2.2.2.1
@[irreducible] def L := zz8.2.2.2.2.2.2.2.1
@[irreducible] def zz16 := zz8.2.2.2.2.2.2.2.2
@[irreducible] def h := zz16.1
@[irreducible] def tk0 := zz16.2
end
noncomputable def half : {M : Addr → (List Value) → (List Int) → Nat → Obj → Tok → Tok → Nat → Heap → Obj → Nat → Heap → Nat → Addr → Nat → SV → Int → Int → Bool → Addr → Addr → Addr → Nat → Tok → Tok → Tok → Tok → Addr → Addr → Tok → Nat → (List Ev) → (List Ev) → Addr → SV → Nat → Nat → Heap → Tok → (Array GenState) → Addr → Obj → Heap → Nat → Heap → Nat → Addr → Obj → (Array Value) → Tok → Addr → (List Value) → Nat → Addr → (List Value) → Nat → Addr → Obj → Nat → Addr → Obj → Heap → Heap → Nat → Unit → (Str → Option Value) → Heap → Nat → (Array GenState) → Prop // (∀ cA cv cs nc i1 i3 i4 i5 i6 i7 n h4 i8 gA ng gl d kk bn cl t1 t2 ncl x1 x2 x3 x4 cx cdx x5 ncd ev ev2 fA wsv nf tk7 i9 ttx gs8 cc occ i10 i11 h9 tk9 c2 oc2 vc2 tc2 mA vsm nm rA vsr nr dnA odn tk15 asA oas i12 i13 i14 c u2 h16 tk16 gs,M cA cv cs nc i1 i3 i4 i5 i6 i7 n h4 i8 gA ng gl d kk bn cl t1 t2 ncl x1 x2 x3 x4 cx cdx x5 ncd ev ev2 fA wsv nf tk7 i9 ttx gs8 cc occ i10 i11 h9 tk9 c2 oc2 vc2 tc2 mA vsm nm rA vsr nr dnA odn tk15 asA oas i12 i13 i14 c u2 h16 tk16 gs) → P sA sv ns w mean mg mb h₀ s dp un fr gd Q g L h tk0} := ⟨_,fun TT=>by
  k_with_none
  k_with "K.om" => first | exact lim1 (by assumption) (by decide) | exact lim2 (by assumption) (by decide) | exact lim3 (by assumption) (by decide) | exact lt_mem (by assumption) (by k_mem) | exact ne_mem (by assumption) (by k_mem) | exact Ne.symm (ne_mem (by assumption) (by k_mem)) | exact ne_mem2 (by assumption) (by k_mem) | exact Ne.symm (ne_mem2 (by assumption) (by k_mem)) | exact ne_L (by assumption) (by k_mem) | lia | omega (config:={}) | (k_extra "M.facts";omega (config:={}))
  k_with "K.ne" => (refine neN ?_;(try dsimp only);first | assumption | exact Ne.symm (by assumption) | exact ne_mem (by assumption) (by k_mem) | exact Ne.symm (ne_mem (by assumption) (by k_mem)) | exact ne_L (by assumption) (by k_mem) | exact Ne.symm (ne_L (by assumption) (by k_mem)) | omega)
  k_with "M.at" => first | exact AtP.head | (refine' AtP.tail ?kz;(case kz=>k_extra "M.at"))
  k_with "M.atF" => first | exact AtF.head | (refine' AtF.tail ?kz;(case kz=>k_extra "M.atF"))
  k_with "M.facts" => (k_dflt (repeat (rename (∀ p ∈ (_:List (Addr × Obj)),p.1 < _)=>hraw;replace hraw:=allLt_of hraw;(try simp only [AllLt,and_true] at hraw))))
  k_with "call ref" => ((first | (with_reducible show wpAny _ _ (call (Value.ref 259) _) _ _ _) | (with_reducible show wpAny _ _ (call (Value.ref 266) _) _ _ _) | (with_reducible show wpAny _ _ (call (Value.ref 273) _) _ _ _) | (with_reducible show wpAny _ _ (call (Value.ref 280) _) _ _ _) | (with_reducible show wpAny _ _ (call (Value.ref 287) _) _ _ _) | (with_reducible show wpAny _ _ (call (Value.ref 294) _) _ _ _) | (with_reducible show wpAny _ _ (call (Value.ref 301) _) _ _ _) | (with_reducible show wpAny _ _ (call (Value.ref 313) _) _ _ _) | (with_reducible show wpAny _ _ (call (Value.ref 234) _) _ _ _));refine hold ?_)
  k_with "eval ListComp" => (refine hold ?_)
  k_with "exec Assign cons ListComp" => (refine hold ?_)
  k_with "pyIter ref" => (refine hold ?_)
  k_with "eval Name" => ((with_reducible show wpAny _ _ (eval (Expr.Name _ _) (compEnvC _ _ _ _)) _ _ _);k_dflt (refine own_C (by k_asm) (by assumption) ?_))
  k_with "subscriptTail Name BinOp ref int" => (refine hold ?_)
  k_with "subscriptTail Constant BinOp str int" => (refine hold ?_)
  k_with "compareOp NotEq str str" => (refine hold ?_)
  k_with "compareOp NotEq ref ref" => (refine hold ?_)
  k_with "compareOp Eq ref ref" => (refine hold ?_)
  k_with "callWith ref" => (refine' callWith_K (by k_dflt k_asm) (by k_dflt k_is) ?_ (by k_dflt rfl) (by k_dflt rfl);k_whole)
  k_with "exec For Name Call cons nil" => (with_unfolding_all refine' for_G ?_;k_whole)
  k_with "exec For Name Name cons nil" => (with_unfolding_all refine' for_T ?_;k_whole)
  k_with "subscriptTail Name Subscript ref str" => (refine hold ?_)
  k_with "subscriptTail Name Name str int" => (refine hold ?_)
  k_with "subscriptTail Name BinOp str int" => (refine hold ?_)
  k_with "binaryOp Add ref ref" => (refine hold ?_)
  k_with "pyIter str" => (refine hold ?_)
  k_with "call builtin:str.join" => (refine hold ?_)
  k_with "call builtin:sorted" => (refine hold ?_)
  k_with "call builtin:list.append" => (refine hold ?_)
  k_with "execs cons" => (refine wpAny_execs_cons ?_;k_fold)
  intro C hd hu hCH1 hCH2 hw hi hl hsU hret cells
  have X0:=C.X.keeps C.st
  have k0 : PySem.Challenge.rw_if0027_01 = PySem.Challenge.rw_if0027_01:=rfl
  revert X0 k0;k_fill;intro X0 k0;clear X0 k0
  k_dflt (refine' bg_use ?k6 ?_;(case k6=>k_is);k_whole)
  intro F N Y X TP kG lG eL
  k_cells Y
  (try simp only [List.cons_append,List.nil_append] at N)
  have hs1 : g.IsList sA sv.toArray:=hw.at fun o e=>kG _ o e (by simp [hsU.1,hsU.2])
  k_lt lG
  have hL1:=ltN (lG (123,tabObj #[]) (List.Mem.head _))
  have hL2:=ltN (lG (289,tabObj #[]) (List.Mem.tail _ (List.Mem.head _)))
  dsimp only at hL1 hL2
  (try dsimp only)
  have noU : ∀ b o,h₀.get? b = some o → g.get? b = some o:=fun b o e=>kG b o (C.st b o e) fun hb=>by
    refine obEA (List.mem_map.mp hb) ?_;intro p hp oR2;subst oR2
    rw [(C.U p hp).2] at e;cases e
  replace hCH1 : CodeHd g 125 123:=hCH1.keeps noU
  replace hCH2 : CodeHd g 293 289:=hCH2.keeps noU
  refine D_pre_execs (pre:=[_,_,_,_,_,_,_]) ?_
  k_steps
  (rename Fr _ _ _ _=>F1)
  (rename News _ _ _ _=>N1)
  show wpAny _ _ _ _ _ _
  refine' cells_spec (cx_nil X TP F1) ?d1 ?u1 (hs1.at fun o e=>F1.keep _ o e) hi hl ?r1
  case d1=>(try dsimp only [Around.deeper]);omega
  case u1=>(try dsimp only [Around.deeper]);omega
  intro cA cv cs nc h2 tk2 hcs hcv hc0 hc1 K1
  refine obAA (step_new F1 N1 K1 hc1 hc0) ?_;intro F2 N2 ne2
  clear F1 N1 K1 hc0 hc1
  have hcl:=hcs.len
  have hcvl:=hcv.length
  have n21 : @Ne Nat (L + 1 + 1) cA:=ne2 _ (List.Mem.head _)
  have n22 : @Ne Nat (L + 1) cA:=ne2 _ (List.Mem.tail _ (List.Mem.head _))
  k_steps
  clear n21 n22
  (rename Fr _ _ _ _=>F3)
  (rename News _ _ _ _=>N3)
  (rename Obj.data _ = Data.cell (some (Value.ref cA))=>dC)
  (rename Obj.data _ = Data.cell (some (Value.str _ _))=>dN)
  refine obEA (names_are cs.sum) ?_;intro n hn45 hnm
  rw [hnm] at dN
  have hnl:=nmsN_len hn45
  show wpAny _ _ _ _ _ _
  refine A_Assign_ListComp (cl:=[(Str.ofString "cells",L + 1)]) (fun v y=>∃ c t',GapC c ∧ y = .str ⟨#[c]⟩ t') (by with_unfolding_all rfl) (by with_unfolding_all rfl) (by decide) rfl (by decide) rfl rfl rfl ?_
  k_steps
  (rename Fr g L _ _=>F4)
  (rename News g L _ _=>N4)
  (rename IsRange _ _ _ _ _ _ _ _=>hr4)
  rename_i h4 _ _ _ _ _
  show wpAny _ _ _ _ _ _
  have hsz4 : Builtin.Range.rangeSize 0 (2 * ((nmsN n).length : Int)) 1 = ((2 * n : Nat) : Int):=by rw [rangeSize_nat];omega
  refine wpAny_pyIter_range hr4 (small_one (by omega) (by omega) (by omega) (by omega)) ?_
  refine AsgAt.intro rfl (walks_lt (Walks.range rfl _ 0 1 (2 * n))) ?sz4 ?st4 ?fp4 ?L4 (F4.ns.at' fun o e=>Heap.get?_push_of_some _ e) ?elt4 ?fin4
  case sz4=>rw [sizeLine_eq];omega
  case st4=>
    show IsRangeIter _ _ _ _ _
    rw [hsz4];simpa using Heap.get?_push_size _ rfl
  case fp4=>exact all_cons (P:=fun b=>b < _) (by rw [Heap.size_push];exact Nat.lt_succ_self _) all_nil
  case L4=>exact fun q=>Nat.ne_of_lt F4.ns.lt (List.mem_singleton.mp q)
  case elt4=>
    intro Cc i v s₃ m₃ E' hC hv hn hm hk
    refine obAE hv ?_;clear hv;intro hin tv oR2;subst oR2
    rw [Heap.size_push] at hC
    have hgC : g.objs.size ≤ Cc:=Nat.le_trans F4.above (Nat.le_trans (Nat.le_of_lt F4.ns.lt) (Nat.le_trans (Nat.le_succ _) hC))
    have old : ∀ b o,h4.get? b = some o → s₃.heap.get? b = some o:=fun b o e=>hk b o (fun q=>by
      have:=Heap.lt_size e;rw [List.mem_singleton.mp q] at this;exact Nat.lt_irrefl _ this) (Heap.get?_push_of_some _ e)
    have F5 : Fr g Cc s₃.heap m₃:=comp_fr hn (fun b o e=>old b o (F4.keep b o e)) hgC
    have N5 : News g L s₃.heap _:=fun p hp=>⟨old _ _ (N4 p hp).1,(N4 p hp).2⟩
    clear F4 N4
    k_steps
    show wpAny _ _ _ _ _ _
    have hb0:=Int.fmod_nonneg_of_pos (0 + (i:Int) * 1) (show (0:Int) < 5 by decide)
    have hb1:=Int.fmod_lt_of_pos (0 + (i:Int) * 1) (show (0:Int) < 5 by decide)
    refine item_list_ints ⟨_,(N5 (cA,_) (List.Mem.head _)).1,rfl,_,rfl⟩ hcv hb0 (by omega) (by omega) (fun t9=>?_)
    refine obA (cell_at hcs (((0 + (i:Int) * 1).fmod 5).toNat)) ?_;intro hc5 hc6
    generalize cs.getD (((0 + (i:Int) * 1).fmod 5).toNat) 0 = cc at hc5 hc6 ⊢
    k_steps
    refine obEA (gap_at (Int.fmod_nonneg_of_pos (cc.fdiv (0 + (i:Int) * 1 + 1)) (show (0:Int) < 3 by decide)) (Int.fmod_lt_of_pos (cc.fdiv (0 + (i:Int) * 1 + 1)) (show (0:Int) < 3 by decide))) ?_;intro c e1 e2
    rw [e2]
    exact ⟨⟨c,_,e1,rfl⟩,_,_,rfl,fun _ _ e=>e⟩
  case fin4=>
    intro gA h5 tk5 ys vs hgA hpl hlen hP hF hn5 hk5
    have K5 : ∀ b o,b ≠ L → h4.get? b = some o → h5.get? b = some o:=fun b o hb e=>hk5 b o hb (fun q=>by have:=Heap.lt_size e;rw [List.mem_singleton.mp q] at this;exact Nat.lt_irrefl _ this) (Heap.get?_push_of_some _ e)
    refine obE hpl ?_;clear hpl;intro ng hng
    have hgA2 : h4.get? gA = none:=by
      cases e : h4.get? gA with
      | none=>rfl
      | some o=>have:=Heap.get?_push_of_some { cls:=.type "range_iterator",data:=.fields #[rawInt 0,rawInt (Builtin.Range.rangeSize 0 (2 * ((nmsN n).length : Int)) 1),rawInt 1] } e;exact absurd (hgA.symm.trans this) (fun q=>nomatch q)
    have hgL : gA ≠ L:=fun q=>by refine obEEEA F4.ns ?_;intro o _ _ e _;rw [← q,hgA2] at e;cases e
    have hg0 : g.get? gA = none:=by
      cases e : g.get? gA with
      | none=>rfl
      | some o=>rw [F4.keep _ _ e] at hgA2;cases hgA2
    have ne5 : ∀ p ∈ [(cA,W.listOf cv.toArray nc),(L + 1 + 1,_),(L + 1,_),(123,tabObj #[]),(289,tabObj #[])],@Ne Nat p.1 gA:=fun p hp q=>by
      have q' : p.1 = gA:=q
      have:=(N4 p hp).1
      rw [q',hgA2] at this;cases this
    have F5 : Fr g L h5 _:=⟨hn5,fun b o e=>K5 b o (Nat.ne_of_lt (Nat.lt_of_lt_of_le (Heap.lt_size e) F4.above)) (F4.keep b o e),F4.above⟩
    have N5 : News g L h5 ((gA,listOf ys ng) :: _):=fun p hp=>by
      rcases List.mem_cons.mp hp with rfl | hp
      · exact ⟨hng,hgL,hg0⟩
      · exact ⟨K5 _ _ (N4 p hp).2.1 (N4 p hp).1,(N4 p hp).2⟩
    have hgl : ys.size = 2 * n:=by rw [← Array.length_toList,← hF.length,hlen]
    refine obEA (gaps_of hF) ?_;intro gl eg hgaps
    clear F4 N4 K5 hk5
    k_steps
    (rename Fr g L _ _=>F6)
    (rename News g L _ _=>N6)
    refine obEEEAAA (comp_args cs.sum) ?_;intro d kk bn hd1 hd2 hk1 hk2
    rw [hd2,hk1] at N6
    refine name_cl N6 ?_
    intro cl t1 t2 ncl x1 x2 x3 x4 ecl et1 et2 N7
    subst ecl et1 et2
    clear N6
    show wpAny _ _ _ _ _ _
    refine' new_comp X TP F6 N7 ?d6 ?u6 ?h6
    case d6=>(try dsimp only [Around.deeper]);omega
    case u6=>(try dsimp only [Around.deeper]);omega
    intro cx cdx x5 ncd h6 tk6 F8 N8 l8 l9
    k_lt l8;k_lt2 l9
    clear F6 N7
    k_steps
    (rename Fr g L _ _=>F9)
    (rename News g L _ _=>N9)
    refine obEEA (first_ok hn45 hd1 bn cs) ?_;intro ev ev2 hdr LF
    have egy : ys = (svs gl).toArray:=by rw [← eg]
    subst egy
    show wpAny _ _ _ _ _ _
    refine' drawn_spec (cx_nil X TP F9) ?d9 ?u9 ⟨_,(N9 (cA,_) (by k_mem)).1,rfl,_,rfl⟩ hcv hcs (by omega) ?r9
    case d9=>(try dsimp only [Around.deeper]);omega
    case u9=>(try dsimp only [Around.deeper]);omega
    intro fA wsv nf h7 tk7 hws hf0 hf1 K7
    rw [hnl,hdr] at hws
    refine obAA (step_new F9 N9 K7 hf1 hf0) ?_;intro F10 N10 ne10
    clear F9 N9 K7 hf0 hf1
    k_steps
    (rename Fr g L _ _=>F11)
    (rename News g L _ _=>N11)
    have hev:=LF.g1.len
    have hglen : (gl.map (·.1)).length = 2 * n:=by rw [List.length_map,← hgl,List.size_toArray,svs_length]
    show wpAny _ _ _ _ _ _
    refine' writtenA (Cx.of X TP F11 N11 (by k_allIn)) ?d11 ?u11 ⟨_,(N11 (fA,_) (List.Mem.head _)).1,rfl,_,rfl⟩ ⟨_,(N11 (gA,_) (by k_mem)).1,rfl,_,rfl⟩ (hws ▸ svs_strs wsv) (svs_strs gl) ?hwU11 hCH1 (by omega) (by omega) (by omega) (LF.g1.name (by omega)) (fun x hx=>gap_plain (hgaps x hx)) LF.g1.op ?r11
    case d11=>(try dsimp only [Around.deeper]);omega
    case u11=>(try dsimp only [Around.deeper]);omega
    case hwU11=>
      intro a ha
      have ha' : a = 123:=List.mem_singleton.mp ha
      subst ha'
      exact ⟨fun q=>ne10 (123,tabObj #[]) (by k_mem) q.symm,fun q=>ne5 (123,tabObj #[]) (by k_mem) q.symm⟩
    intro ttx h8 tk8 gs8 cc occ hnw8 tok8 hc123 hcc0 K8 hab8
    have ne11:=fresh_ne N11 hcc0
    refine obA (step_tab (pre:=[_,_,_,_,_,_,_,_,_,_]) F11 N11 K8 (hnw8 _ (List.Mem.head _)) (all_cons (fun q=>ne10 (123,tabObj #[]) (by k_mem) q.symm) (all_cons (neN (by omega)) (all_cons (neN (by omega)) (all_cons (neN (by omega)) (all_cons (neN (by omega)) (all_cons (neN (by omega)) (all_cons (fun q=>ne5 (123,tabObj #[]) (by k_mem) q.symm) (all_cons (fun q=>ne2 (123,tabObj #[]) (by k_mem) q.symm) (all_cons (neN (by omega)) (all_cons (neN (by omega)) (all_cons (by decide) all_nil)))))))))))) ?_;intro F12 N12
    have N13:=put_new F11 N12 (hnw8 _ (List.Mem.tail _ (List.Mem.head _))) hcc0
    simp only [List.cons_append,List.nil_append] at N13
    clear F11 N11 K8 hnw8 N12 hcc0
    k_steps
    show wpD _ _ (execs _ _) _ _ _
    refine D_pre_execs (pre:=[_,_]) ?_
    k_steps
    (rename Fr g L _ _=>F14)
    (rename News g L _ _=>N14)
    show wpAny _ _ _ _ _ _
    refine' text_spec (cx_nil X TP F14) ?d14 ?u14 ⟨_,(N14 (fA,_) (by k_mem)).1,rfl,_,rfl⟩ ⟨_,(N14 (gA,_) (by k_mem)).1,rfl,_,rfl⟩ (hws ▸ svs_strs wsv) (svs_strs gl) ?l14 ?m14 ?n14 (words_le4 hn45 LF.g1) (gaps_le1 hgaps) ?r14
    case d14=>(try dsimp only [Around.deeper]);omega
    case u14=>(try dsimp only [Around.deeper]);omega
    case l14=>rw [List.length_map];omega
    case m14=>rw [List.length_map,hglen];omega
    case n14=>rw [List.length_map];omega
    intro ttx2 h9 tk9 K9
    rw [List.length_map]
    refine obA (step_none F14 N14 K9) ?_;intro F15 N15
    clear F14 N14 K9
    k_steps
    show wpAny _ _ _ _ _ _
    refine ne_str_f (by simp) ?_
    k_steps
    (rename Fr g L _ _=>F16)
    (rename News g L _ _=>N16)
    have TX:=text_ok hn45 LF.g1 hgaps hglen
    show wpAny _ _ _ _ _ _
    refine' wordsA (Cx.of X TP F16 N16 (by k_allIn)) ?d16 ?u16 hCH2 TX.flat TX.ok TX.len TX.few ?r16
    case d16=>(try dsimp only [Around.deeper]);omega
    case u16=>(try dsimp only [Around.deeper]);omega
    intro h10 tk10 wA lw tw nw c2 oc2 vc2 tc2 hw1 hw2 hwf htab hc21 hc22 hc23 hc20 hwc K10
    rw [TX.words] at hw2
    have ne16:=fresh_ne N16 hwf
    have ne17:=fresh_ne N16 hc20
    refine obA (step_tab (pre:=[_,_,_,_,_,_,_,_,_,_,_,_]) (post:=[]) F16 N16 K10 htab (all_cons (fun q=>ne11 (289,tabObj #[]) (by k_mem) q.symm) (all_cons (show (123 : Nat) ≠ 289 by decide) (all_cons (fun q=>ne10 (289,tabObj #[]) (by k_mem) q.symm) (all_cons (neN (by omega)) (all_cons (neN (by omega)) (all_cons (neN (by omega)) (all_cons (neN (by omega)) (all_cons (neN (by omega)) (all_cons (fun q=>ne5 (289,tabObj #[]) (by k_mem) q.symm) (all_cons (fun q=>ne2 (289,tabObj #[]) (by k_mem) q.symm) (all_cons (neN (by omega)) (all_cons (neN (by omega)) all_nil))))))))))))) ?_;intro F17 N17
    have N18:=put_new F16 (put_new F16 N17 hc21 hc20) hw1 hwf
    simp only [List.cons_append,List.nil_append,List.append_nil] at N18
    clear F16 N16 N17 K10 hwf hw1 hc20 htab hc21
    k_steps
    (rename Fr g L _ _=>F19)
    (rename News g L _ _=>N19)
    show wpAny _ _ _ _ _ _
    refine kmk_add_lit (zs:=svs wsv ++ [_]) F19 N19 ⟨_,(N19 (fA,_) (by k_mem)).1,rfl,_,rfl⟩ ⟨_,(N19 _ (List.Mem.head _)).1,rfl,_,rfl⟩ rfl ?_ ?_
    rotate_left
    · show (svs wsv).length + 1 ≤ _
      have : wsv.length = ev.length:=by have:=congrArg List.length hws;simpa using this
      rw [svs_length,sizeLine_eq];omega
    intro D4 h11 F20 N20 l20
    k_lt l20
    clear F19 N19
    k_steps
    show wpAny _ _ _ _ _ _
    refine ne_same (vs:=svs lw ++ [_]) (ws:=svs wsv ++ [_]) ⟨_,(N20 (wA,_) (by k_mem)).1,rfl,_,rfl⟩ ⟨_,(N20 (D4,_) (List.Mem.head _)).1,rfl,_,rfl⟩ (same_app (same_svs (hw2.trans hws.symm)) (.cons (by rw [TX.cnt];exact .int _ _ _) .nil)) ?u20 ?_
    case u20=>(try dsimp only [Around.deeper]);omega
    k_steps
    (rename Fr g L _ _=>F21)
    (rename News g L _ _=>N21)
    replace N21 : News g L _ _:=fun p hp=>N21 p (List.Mem.tail _ (List.Mem.tail _ (List.Mem.tail _ hp)))
    clear l20
    show wpAny _ _ _ _ _ _
    refine' families (A:=⟨cx,cdx,cl,t1,t2,x5,x3,x4,x1,x2,ncd,ncl⟩) hk2 ?hdd (Cx.of X TP F21 N21 (by dsimp only [cmpLed];k_allIn)) ?d21 ?u21 ⟨_,(N21 (fA,_) (by k_mem)).1,rfl,_,rfl⟩ (hws ▸ svs_strs wsv) ?hwU21 (LF.g1.name (by omega)) LF.g1.op (by omega) ?r21
    case hdd=>omega
    case d21=>(try dsimp only [Around.deeper]);omega
    case u21=>(try dsimp only [Around.deeper]);omega
    case hwU21=>exact all_cons (P:=fun a=>fA ≠ a) (fun q=>ne10 (cx,_) (by k_mem) q.symm) (all_cons (fun q=>ne10 (cdx,_) (by k_mem) q.symm) (all_cons (fun q=>ne10 (cl,_) (by k_mem) q.symm) (all_cons (fun q=>ne10 (t1,_) (by k_mem) q.symm) (all_cons (fun q=>ne10 (t2,_) (by k_mem) q.symm) all_nil))))
    intro h12 tk12 mA vsm nm hm1 hm2 hm0 K12
    have hm3 : StrsAre vsm (famsOf d bn ev):=hm2
    refine obAA (step_new F21 N21 K12 hm1 hm0) ?_;intro F22 N22 ne22
    clear F21 N21 K12 hm1 hm0 hm2
    k_steps
    show wpD _ _ (execs _ _) _ _ _
    refine D_execs_cons (D_Assign_Name (D_Call_Name ?_))
    k_steps
    refine obEEA (at_306 X) ?_;intro o306 fd306 hd306 ho306
    refine D_callWith_fn1 hd306 ?_
    k_steps
    (rename Fr g L _ _=>F23)
    (rename News g L _ _=>N23)
    refine runs_spec (mean:=mean) (mg:=mg) (mb:=mb) (h₀:=g) (cx_nil X TP F23) ?_ ?_ (wv:=svs wsv) ⟨_,(N23 (fA,_) (by k_mem)).1,rfl,_,rfl⟩ (hws ▸ svs_strs wsv) (LF.g1.name (by omega)) (LF.g1.ascii (by omega)) LF.g1.op (by omega) ?_
    · (try dsimp only [Around.deeper]);omega
    · (try dsimp only [Around.deeper]);omega
    intro h13 tk13 rA vsr nr hr1 hr2 hr0 K13
    have hr3 : StrsAre vsr (runsOf ev):=hr2
    refine obAA (step_new F23 N23 K13 hr1 hr0) ?_;intro F24 N24 ne24
    clear F23 N23 K13 hr1 hr0 hr2 ho306 hd306 fd306 o306
    k_steps
    show wpD _ _ (execs _ _) _ _ _
    refine D_pre_execs (pre:=[_,_,_,_,_,_,_,_]) ?_
    k_steps
    (rename Fr g L _ _=>F25)
    (rename News g L _ _=>N25)
    show wpAny _ _ _ _ _ _
    refine' steps_spec (cx_nil X TP F25) ?d25 ?u25 (bv:=vsr) ⟨_,(N25 (rA,_) (by k_mem)).1,rfl,_,rfl⟩ hr3 ?l25 ?b25 ?r25
    case d25=>(try dsimp only [Around.deeper]);omega
    case u25=>(try dsimp only [Around.deeper]);omega
    case l25=>have:=LF.br.len;omega
    case b25=>intro b hb;refine obAA (LF.br.all b hb) ?_;intro b1 b2 _;exact ⟨b1,by omega⟩
    intro h14 tk14 dnA odn ldn hdn1 hdn2 hdn3 hdn0 K14
    refine obAA (step_new F25 N25 K14 hdn1 hdn0) ?_;intro F26 N26 ne26
    clear F25 N25 K14 hdn1 hdn0
    k_steps
    (rename Fr g L _ _=>F27)
    (rename News g L _ _=>N27)
    show wpAny _ _ _ _ _ _
    refine' steps_spec (cx_nil X TP F27) ?d27 ?u27 (bv:=vsm) ⟨_,(N27 (mA,_) (by k_mem)).1,rfl,_,rfl⟩ hm3 ?l27 ?b27 ?r27
    case d27=>(try dsimp only [Around.deeper]);omega
    case u27=>(try dsimp only [Around.deeper]);omega
    case l27=>have:=LF.bf.len;omega
    case b27=>intro b hb;refine obAA (LF.bf.all b hb) ?_;intro b1 b2 _;exact ⟨b1,by omega⟩
    intro h15 tk15 asA oas las has1 has2 has3 has0 K15
    refine obAA (step_new F27 N27 K15 has1 has0) ?_;intro F28 N28 ne28
    clear F27 N27 K15 has1 has0
    k_steps
    (rename Fr g L _ _=>F29)
    (rename News g L _ _=>N29)
    refine' loop_range_G (σ:=Unit) (n:=n) (oth:=_) (fun _=>[]) (fun _=>[]) [] (fun _ _ gs=>gs = gs8) () (by rfl) (by rfl) rfl ?hr29 ?hn29 ?hb29 F29 N29 (fun _ h=>nomatch h) rfl ?turn29 ?done29
    case hr29=>assumption
    case hn29=>omega
    case hb29=>omega
    case turn29=>
      rintro c j tt u2 h16 tk16 gs I oI hj hne hgs F30 N30
      rw [hgs]
      simp only [List.nil_append] at N30 hne
      clear F29 N29
      k_steps
      show wpAny _ _ _ _ _ _
      refine item_str (by simp [fitsSsize];omega) (by omega) (by omega) (fun _=>?_)
      rw [show (0 + (j:Int)) = (j:Int) by omega,nms_item hn45 j hj]
      k_steps
      show wpAny _ _ _ _ _ _
      refine obEA (LF.st j hj) ?_;intro y hy1 hy2
      refine obE (lk_value (l:=ldn) (x:=nm1 j) (by rw [hdn3];exact hy1)) ?_;intro ty hty
      refine kda_item N30 (by k_mem) hdn2 (by first | rfl | exact beq_self_eq_true _ | simp [PySem.strKind]) hty ?_
      k_steps
      show wpAny _ _ _ _ _ _
      refine obE (lk_value (l:=las) (x:=y) (by rw [has3];exact hy2)) ?_;intro tz htz
      refine kda_item N30 (by k_mem) has2 (by first | rfl | exact beq_self_eq_true _ | simp [PySem.strKind]) htz ?_
      k_steps
      show wpAny _ _ _ _ _ _
      have hfm:=fmod_next (j:=j) hnl
      have hml:=Nat.mod_lt (j + 1) (show 0 < n by omega)
      rw [hfm]
      refine item_str (fits_nat (by omega)) (by omega) (by omega) (fun _=>?_)
      rw [nms_item hn45 _ hml]
      k_steps
      show wpAny _ _ _ _ _ _
      refine ne_str_f (by simp) ?_
      k_steps
      (rename Fr g L _ _=>F31)
      (rename News g L _ _=>N31)
      refine' TEndG.intro () F31 N31 (fun _ h=>nomatch h) (fun p hp=>by first | exact hp | (revert p hp;k_allIn)) (fun _ h=>nomatch h) ?r31 rfl
      case r31=>
        intro z h1 h2 h3
        show (if z = Str.ofString "k" then _ else kstB _ [] z) = _
        rw [if_neg h1];rfl
    case done29=>
      rintro c u2 h16 tk16 gs hgs F30 N30
      rw [hgs]
      simp only [List.nil_append] at N30
      clear F29 N29
      rename_i i1 _ _ _ _ i3 _ _ _ _ i4 i5 i6 i7 _ _ i8 _ _ _ _ _ _ _ _ _ _ _ _ _ _ _ i9 _ _ i10 i11 _ _ _ _ _ _ _ _ _ _ _ _ _ _ _ i12 _ _ i13 i14 _ _ _ _ _
      revert C hd hu hi hret X TP kG noU hCH1 hCH2 dN hn45 hnl hgA hgA2 ne5 hgaps hd2 hk2 LF hgl hglen tok8 hc123 hab8 ne11 hc22 hc23 ne17 hm3 hr3 qk hgs F30 N30
      exact TT cA cv cs nc i1 i3 i4 i5 i6 i7 n h4 i8 gA ng gl d kk bn cl t1 t2 ncl x1 x2 x3 x4 cx cdx x5 ncd ev ev2 fA wsv nf tk7 i9 ttx gs8 cc occ i10 i11 h9 tk9 c2 oc2 vc2 tc2 mA vsm nm rA vsr nr dnA odn tk15 asA oas i12 i13 i14 c u2 h16 tk16 gs⟩
namespace b
noncomputable def F := ucr fun cA=>ucr fun cv=>ucr fun cs=>ucr fun nc=>ucr fun i1=>ucr fun i3=>ucr fun i4=>ucr fun i5=>ucr fun i6=>ucr fun i7=>ucr fun n=>ucr fun h4=>ucr fun i8=>ucr fun gA=>ucr fun ng=>ucr fun gl=>ucr fun d=>ucr fun kk=>ucr fun bn=>ucr fun cl=>ucr fun t1=>ucr fun t2=>ucr fun ncl=>ucr fun x1=>ucr fun x2=>ucr fun x3=>ucr fun x4=>ucr fun cx=>ucr fun cdx=>ucr fun x5=>ucr fun ncd=>ucr fun ev=>ucr fun ev2=>ucr fun fA=>ucr fun wsv=>ucr fun nf=>ucr fun tk7=>ucr fun i9=>ucr fun ttx=>ucr fun gs8=>ucr fun cc=>ucr fun occ=>ucr fun i10=>ucr fun i11=>ucr fun h9=>ucr fun tk9=>ucr fun c2=>ucr fun oc2=>ucr fun vc2=>ucr fun tc2=>ucr fun mA=>ucr fun vsm=>ucr fun nm=>ucr fun rA=>ucr fun vsr=>ucr fun nr=>ucr fun dnA=>ucr fun odn=>ucr fun tk15=>ucr fun asA=>ucr fun oas=>ucr fun i12=>ucr fun i13=>ucr fun i14=>ucr fun c=>ucr fun u2=>ucr fun h16=>ucr fun tk16 gs=>half.1 cA cv cs nc i1 i3 i4 i5 i6 i7 n h4 i8 gA ng gl d kk bn cl t1 t2 ncl x1 x2 x3 x4 cx cdx x5 ncd ev ev2 fA wsv nf tk7 i9 ttx gs8 cc occ i10 i11 h9 tk9 c2 oc2 vc2 tc2 mA vsm nm rA vsr nr dnA odn tk15 asA oas i12 i13 i14 c u2 h16 tk16 gs
noncomputable section
@[irreducible] def zz := eps (0,[],[],0,listOf #[] 0,0,0,0,{},listOf #[] 0,0,{},0,0,0,[],0,0,false,0,0,0,0,0,0,0,0,0,0,0,0,[],[],0,[],0,0,{},0,#[],0,listOf #[] 0,{},0,{},0,0,listOf #[] 0,#[],0,0,[],0,0,[],0,0,listOf #[] 0,0,0,listOf #[] 0,{},{},0,(),(fun _=>none : Str → Option Value),{},0,#[]) F
@[irreducible] def cA := zz.1
@[irreducible] def cv := zz.2.1
@[irreducible] def cs := zz.2.2.1
@[irreducible] def nc := zz.2.2.2.1
@[irreducible] def i1 := zz.2.2.2.2.1
@[irreducible] def i3 := zz.2.2.2.2.2.1
@[irreducible] def i4 := zz.2.2.2.2.2.2.1
@[irreducible] def i5 := zz.2.2.2.2.2.2.2.1
@[irreducible] def zz8 := zz.2.2.2.2.2.2.2.2
@[irreducible] def i6 := zz8.1
@[irreducible] def i7 := zz8.2.1
@[irreducible] def n := zz8.2.2.1
@[irreducible] def h4 := zz8.2.2.2.1
@[irreducible] def i8 := zz8.2.2.2.2.1
@[irreducible] def gA := zz8.2.2.2.2.2.1
@[irreducible] def ng := zz8.2.2.2.2.2.2.1
@[irreducible] def gl := zz8.2.2.2.2.2.2.2.1
@[irreducible] def zz16 := zz8.2.2.2.2.2.2.2.2
@[irreducible] def d := zz16.1
@[irreducible] def kk := zz16.2.1
@[irreducible] def bn := zz16.2.2.1
@[irreducible] def cl := zz16.2.2.2.1
@[irreducible] def t1 := zz16.2.2.2.2.1
@[irreducible] def t2 := zz16.2.2.2.2.2.1
@[irreducible] def ncl := zz16.2.2.2.2.2.2.1
@[irreducible] def x1 := zz16.2.2.2.2.2.2.2.1
@[irreducible] def zz24 := zz16.2.2.2.2.2.2.2.2
@[irreducible] def x2 := zz24.1
@[irreducible] def x3 := zz24.2.1
@[irreducible] def x4 := zz24.2.2.1
@[irreducible] def cx := zz24.2.2.2.1
@[irreducible] def cdx := zz24.2.2.2.2.1
@[irreducible] def x5 := zz24.2.2.2.2.2.1
@[irreducible] def ncd := zz24.2.2.2.2.2.2.1
@[irreducible] def ev := zz24.2.2.2.2.2.2.2.1
@[irreducible] def zz32 := zz24.2.2.2.2.2.2.2.2
@[irreducible] def ev2 := zz32.1
@[irreducible] def fA := zz32.2.1
@[irreducible] def wsv := zz32.2.2.1
@[irreducible] def nf := zz32.2.2.2.1
@[irreducible] def tk7 := zz32.2.2.2.2.1
@[irreducible] def i9 := zz32.2.2.2.2.2.1
@[irreducible] def ttx := zz32.2.2.2.2.2.2.1
@[irreducible] def gs8 := zz32.2.2.2.2.2.2.2.1
@[irreducible] def zz40 := zz32.2.2.2.2.2.2.2.2
@[irreducible] def cc := zz40.1
@[irreducible] def occ := zz40.2.1
@[irreducible] def i10 := zz40.2.2.1
@[irreducible] def i11 := zz40.2.2.2.1
@[irreducible] def h9 := zz40.2.2.2.2.1
@[irreducible] def tk9 := zz40.2.2.2.2.2.1
@[irreducible] def c2 := zz40.2.2.2.2.2.2.1
@[irreducible] def oc2 := zz40.2.2.2.2.2.2.2.1
@[irreducible] def zz48 := zz40.2.2.2.2.2.2.2.2
@[irreducible] def vc2 := zz48.1
@[irreducible] def tc2 := zz48.2.1
@[irreducible] def mA := zz48.2.2.1
@[irreducible] def vsm := zz48.2.2.2.1
@[irreducible] def nm := zz48.2.2.2.2.1
@[irreducible] def rA := zz48.2.2.2.2.2.1
@[irreducible] def vsr := zz48.2.2.2.2.2.2.1
@[irreducible] def nr := zz48.2.2.2.2.2.2.2.1
@[irreducible] def zz56 := zz48.2.2.2.2.2.2.2.2
@[irreducible] def dnA := zz56.1
@[irreducible] def odn := zz56.2.1
@[irreducible] def tk15 := zz56.2.2.1
@[irreducible] def asA := zz56.2.2.2.1
@[irreducible] def oas := zz56.2.2.2.2.1
@[irreducible] def i12 := zz56.2.2.2.2.2.1
@[irreducible] def i13 := zz56.2.2.2.2.2.2.1
@[irreducible] def i14 := zz56.2.2.2.2.2.2.2.1
@[irreducible] def zz64 := zz56.2.2.2.2.2.2.2.2
@[irreducible] def c := zz64.1
@[irreducible] def u2 := zz64.2.1
@[irreducible] def h16 := zz64.2.2.1
@[irreducible] def tk16 := zz64.2.2.2.1
@[irreducible] def gs := zz64.2.2.2.2
end
theorem core : half.1 cA cv cs nc i1 i3 i4 i5 i6 i7 n h4 i8 gA ng gl d kk bn cl t1 t2 ncl x1 x2 x3 x4 cx cdx x5 ncd ev ev2 fA wsv nf tk7 i9 ttx gs8 cc occ i10 i11 h9 tk9 c2 oc2 vc2 tc2 mA vsm nm rA vsr nr dnA odn tk15 asA oas i12 i13 i14 c u2 h16 tk16 gs := by
  intro C hd hu hi hret X TP kG noU hCH1 hCH2 dN hn45 hnl hgA hgA2 ne5 hgaps hd2 hk2 LF hgl hglen tok8 hc123 hab8 ne11 hc22 hc23 ne17 hm3 hr3 qk hgs F30 N30
  k_steps
  (rename Fr g L _ _=>F32)
  (rename News g L _ _=>N32)
  show wpAny _ _ _ _ _ _
  have e97 : Str.ofString "a" = chS 97:=by decide +kernel
  rw [e97]
  refine' laid_all 8 mean mg mb g _ _ _ _ _ _ _ rA vsr (runsOf ev) 97 _ _ (cx_nil X TP F32) ?d32 ?u32 ⟨_,(N32 (rA,_) (by k_mem)).1,rfl,_,rfl⟩ hr3 ?l32 ?b32 LF.ld ?r32
  case d32=>(try dsimp only [Around.deeper]);omega
  case u32=>(try dsimp only [Around.deeper]);omega
  case l32=>have:=LF.br.len;omega
  case b32=>intro b hb;refine obAA (LF.br.all b hb) ?_;intro b1 b2 b3;exact ⟨b1,by omega,fun c hc=>by have:=b3 c hc;omega⟩
  intro h17 tk17 sA2 ls nls2 hs2 hls hs0 K17
  refine obAA (step_new F32 N32 K17 hs2 hs0) ?_;intro F33 N33 ne33
  clear F32 N32 K17 hs2 hs0
  k_steps
  (rename Fr g L _ _=>F34)
  (rename News g L _ _=>N34)
  have hev2:=LF.g2.len
  show wpAny _ _ _ _ _ _
  refine' writtenB tok8 hc123 (Cx.of X TP F34 N34 (by k_allIn)) ?d34 ?u34 (wv:=svs ls) ⟨_,(N34 (sA2,_) (by k_mem)).1,rfl,_,rfl⟩ ⟨_,(N34 (gA,_) (by k_mem)).1,rfl,_,rfl⟩ (hls ▸ svs_strs ls) (svs_strs gl) ?hwU34 hCH1 (by omega) (by omega) (by omega) (LF.g2.name (by omega)) (fun x hx=>gap_plain (hgaps x hx)) LF.g2.op ?r34
  case d34=>(try dsimp only [Around.deeper]);omega
  case u34=>(try dsimp only [Around.deeper]);omega
  case hwU34=>exact all_cons (P:=fun a=>sA2 ≠ a ∧ gA ≠ a) ⟨fun q=>ne33 (123,_) (by k_mem) q.symm,fun q=>ne5 (123,tabObj #[]) (by k_mem) q.symm⟩ (all_cons ⟨fun q=>ne33 (cc,_) (by k_mem) q.symm,fun q=>ne11 (gA,_) (by k_mem) q⟩ all_nil)
  intro ttx3 h18 tk18 gs18 _ hnw18 K18 hab18
  have K18b:=keep_all K18 (all_cons ⟨_,(N34 (123,_) (by k_mem)).1,hnw18 _ (List.Mem.head _)⟩ (all_cons ⟨_,(N34 (cc,_) (by k_mem)).1,hnw18 _ (List.Mem.tail _ (List.Mem.head _))⟩ all_nil))
  refine obA (step_none F34 N34 K18b) ?_;intro F35 N35
  clear F34 N34 K18 K18b hnw18
  k_steps
  (rename Fr g L _ _=>F36)
  (rename News g L _ _=>N36)
  show wpAny _ _ _ _ _ _
  refine' text_spec (cx_nil X TP F36) ?d36 ?u36 (wv:=svs ls) ⟨_,(N36 (sA2,_) (by k_mem)).1,rfl,_,rfl⟩ ⟨_,(N36 (gA,_) (by k_mem)).1,rfl,_,rfl⟩ (hls ▸ svs_strs ls) (svs_strs gl) ?l36 ?m36 ?n36 (words_le4 hn45 LF.g2) (gaps_le1 hgaps) ?r36
  case d36=>(try dsimp only [Around.deeper]);omega
  case u36=>(try dsimp only [Around.deeper]);omega
  case l36=>rw [List.length_map];omega
  case m36=>rw [List.length_map,hglen];omega
  case n36=>rw [List.length_map];omega
  intro ttx4 h19 tk19 K19
  rw [List.length_map]
  refine obA (step_none F36 N36 K19) ?_;intro F37 N37
  clear F36 N36 K19
  k_steps
  show wpAny _ _ _ _ _ _
  refine ne_str_f (by simp) ?_
  k_steps
  (rename Fr g L _ _=>F38)
  (rename News g L _ _=>N38)
  have TX2:=text_ok hn45 LF.g2 hgaps hglen
  show wpAny _ _ _ _ _ _
  refine' wordsB hc22 hc23 (fun q=>ne17 (289,tabObj #[]) (by k_mem) q.symm) (Cx.of X TP F38 N38 (by k_allIn)) ?d38 ?u38 hCH2 TX2.flat TX2.ok TX2.len TX2.few ?r38
  case d38=>(try dsimp only [Around.deeper]);omega
  case u38=>(try dsimp only [Around.deeper]);omega
  intro h20 tk20 wB lw2 tw2 nw2 _ hx1 hx2 hxf htab2 hcc2 K20
  rw [TX2.words] at hx2
  have K20b:=keep_all K20 (all_cons ⟨_,(N38 (289,_) (by k_mem)).1,htab2⟩ all_nil)
  refine obAA (step_new F38 N38 K20b hx1 hxf) ?_;intro F39 N39 ne39
  clear F38 N38 K20 K20b hx1 hxf htab2 hcc2
  k_steps
  (rename Fr g L _ _=>F40)
  (rename News g L _ _=>N40)
  show wpAny _ _ _ _ _ _
  have hls2 : ls.length = ev2.length:=by have:=congrArg List.length hls;simpa using this
  refine kmk_add_lit (zs:=svs ls ++ [_]) F40 N40 ⟨_,(N40 (sA2,_) (by k_mem)).1,rfl,_,rfl⟩ ⟨_,(N40 _ (List.Mem.head _)).1,rfl,_,rfl⟩ rfl ?_ ?_
  rotate_left
  · show (svs ls).length + 1 ≤ _
    rw [svs_length,sizeLine_eq];omega
  intro D5 h21 F41 N41 l41
  k_lt l41
  clear F40 N40
  k_steps
  show wpAny _ _ _ _ _ _
  refine ne_same (vs:=svs lw2 ++ [_]) (ws:=svs ls ++ [_]) ⟨_,(N41 (wB,_) (by k_mem)).1,rfl,_,rfl⟩ ⟨_,(N41 (D5,_) (List.Mem.head _)).1,rfl,_,rfl⟩ (same_app (same_svs (hx2.trans hls.symm)) (.cons (by rw [TX2.cnt];exact .int _ _ _) .nil)) ?u41 ?_
  case u41=>(try dsimp only [Around.deeper]);omega
  replace N41 : News g L _ _:=fun p hp=>N41 p (List.Mem.tail _ (List.Mem.tail _ (List.Mem.tail _ hp)))
  clear l41
  k_steps
  (rename Fr g L _ _=>F42)
  (rename News g L _ _=>N42)
  refine name_nilL N42 ?_
  intro eA eeA N43
  subst eeA
  clear N42
  refine' loop_list_G (σ:=SV × Nat) (l:=mA) (items:=vsm.toArray) (oth:=_) (fun c=>[(eA,listOf (svs c.1).toArray c.2)]) (fun _=>[]) (Str.ofString "family") [] (fun i c gs=>gs = gs18 ∧ c.1.map (·.1) = ((famsOf d bn ev).take i).map (earlierS n) ∧ c.1.length = i) ([],0) GoesBy.name rfl ?hL43 F42 N43 (fun _ h=>nomatch h) ⟨rfl,rfl,rfl⟩ ?turn43 ?done43
  case hL43=>intro c h m _ N;exact ⟨_,(N (mA,_) (by k_mem)).1,rfl,_,rfl⟩
  case turn43=>
    rintro ⟨le,nle⟩ i v u3 h22 tk22 gs I oI hi hv hne ⟨hgs,hT,hle⟩ F44 N44
    rw [hgs]
    dsimp only at hT hle N44 hne
    simp only [List.cons_append,List.nil_append] at N44 hne
    have hEI : @Ne Nat eA I:=hne _ (List.Mem.head _)
    rw [List.getElem?_toArray] at hv
    refine obEEA (strsAre_get hm3 hv) ?_;intro b tb hb oR3;subst oR3
    refine obAA (LF.bf.all b (List.mem_of_getElem? hb)) ?_;intro b1 b2 b3
    clear F42 N43
    k_steps
    show wpAny _ _ _ _ _ _
    refine A_ListCompC (cl:=[(Str.ofString "names",L + 1 + 1)]) (fun v y=>∀ (c:Nat) t1,v = .str ⟨#[c]⟩ t1 → ∃ t',y = .str (prevS n c) t') (by with_unfolding_all rfl) (by decide) rfl (by decide) rfl ?_
    k_steps
    show wpAny _ _ _ _ _ _
    refine wpAny_pyIter_str fun o St hW hst=>?_
    refine CompAt.intro rfl (hW _ rfl) ?sz45 hst ?fp45 ?elt45 ?fin45
    case sz45=>show b.length ≤ _;rw [sizeLine_eq];omega
    case fp45=>exact all_cons (P:=fun b=>b < _) (by rw [Heap.size_push];exact Nat.lt_succ_self _) all_nil
    case elt45=>
      intro C2 i2 v2 s4 m4 E' hC2 hv2 hn2 hm2 hk2
      refine obEEA hv2 ?_;clear hv2;intro ch u hch oR3;subst oR3
      rw [Heap.size_push] at hC2
      have hcb:=b3 ch (by rw [← Array.getElem?_toList] at hch;exact List.mem_of_getElem? hch)
      (rename Fr g L _ _=>F46)
      (rename News g L _ _=>N46)
      have old : ∀ b o,(_:Heap).get? b = some o → s4.heap.get? b = some o:=fun b o e=>hk2 b o (fun q=>by
        have:=Heap.lt_size e;rw [List.mem_singleton.mp q] at this;exact Nat.lt_irrefl _ this) (Heap.get?_push_of_some _ e)
      have F47 : Fr g C2 s4.heap m4:=comp_fr hn2 (fun b o e=>old b o (F46.keep b o e))
        (Nat.le_trans F46.above (Nat.le_trans (Nat.le_of_lt F46.ns.lt) (Nat.le_trans (Nat.le_succ _) hC2)))
      have N47 : News g L s4.heap _:=fun p hp=>⟨old _ _ (N46 p hp).1,(N46 p hp).2⟩
      clear F46 N46
      k_steps
      show wpAny _ _ _ _ _ _
      have PO:=prev_at hn45 hcb.1 hcb.2
      refine item_str PO.fit PO.lo PO.hi (fun _=>?_)
      rw [str_ext PO.it]
      k_steps
      exact ⟨fun c1 t1 e=>by cases e;exact ⟨_,rfl⟩,_,_,rfl,fun _ _ e=>e⟩
    case fin45=>
      intro D2 h23 tk23 ys vs hD2 hpl2 hlen2 hP2 hF2 hk2
      (rename Fr g L _ _=>F46)
      (rename News g L _ _=>N46)
      have K23 : ∀ b o,(_:Heap).get? b = some o → h23.get? b = some o:=fun b o e=>hk2 b o (fun q=>by have:=Heap.lt_size e;rw [List.mem_singleton.mp q] at this;exact Nat.lt_irrefl _ this) (Heap.get?_push_of_some _ e)
      have F48:=F46.keeps K23
      have N48 : News g L h23 _:=fun p hp=>⟨K23 _ _ (N46 p hp).1,(N46 p hp).2⟩
      refine obE hpl2 ?_;clear hpl2;intro n23 hn23
      have hS23:=strs_paired (l:=b.cps.toList) hF2 (by rw [hlen2];simp) (fun j v e=>by
        refine obEEA (hP2 j v e) ?_;intro c u e1 e2
        exact ⟨c,u,by simpa using e1,e2⟩)
      clear F46 N46
      k_steps
      show wpAny _ _ _ _ _ _
      refine sorted_K F48 N48 (vs:=ys.toList) ⟨_,hn23,rfl,n23,rfl⟩ hS23 (by rw [hS23.length,List.length_map];have hbl : b.cps.toList.length = b.length:=(by simp [Str.length]);omega) ?_
      intro D8 h24 vs24 e24 hlt24 F49 N49 hS24
      refine obEA (strsAre_svs hS24) ?_;intro l24 oR1 hl24;subst oR1
      clear F48 N48
      k_steps
      show wpAny _ _ _ _ _ _
      have hcat : cat (l24.map (·.1)) = earlierS n b:=by rw [hl24];rfl
      refine SC.join (l:=l24) ⟨_,(N49 (D8,_) (List.Mem.head _)).1,rfl,_,rfl⟩ rfl (joinOk_cat (by rw [hcat,earlier_len];omega)) ?_
      intro t25 tk25
      rw [txt_join_cat,hcat]
      k_steps
      show wpAny _ _ _ _ _ _
      (rename Fr g L _ _=>F50)
      (rename News g L _ _=>N50)
      replace N50 : News g L _ _:=fun p hp=>N50 p (List.Mem.tail _ hp)
      refine append_svs F50 N50 (Upd.head (by repeat (first | exact all_nil | refine all_cons (neN (by omega)) ?_))) ?_ (by
        show le.length ≤ _
        have q1:=hm3.length
        have q2:=LF.bf.len
        rw [List.size_toArray] at hi
        rw [sizeLine_eq];omega)
      intro h26 F51 N51
      clear F50 N50
      k_steps
      (rename Fr g L _ _=>F52)
      (rename News g L _ _=>N52)
      refine' TEndG.intro (le ++ [(earlierS n b,_)],nle + 1) F52 N52 (all_cons ⟨by k_mem,hEI⟩ all_nil) (fun p hp=>List.Mem.tail _ hp) (fun _ h=>nomatch h) ?r52 ⟨rfl,?p52,?q52⟩
      case r52=>
        intro z h1 h2 h3
        show (if z = Str.ofString "family" then _ else if z = Str.ofString "family" then _ else kstB _ [] z) = _
        rw [if_neg h1,if_neg h1];rfl
      case p52=>
        rw [List.map_append,hT,List.take_add_one,hb,List.map_append];rfl
      case q52=>rw [List.length_append,List.length_cons,List.length_nil,hle]
  case done43=>
    rintro ⟨le,nle⟩ u3 h22 tk22 gs ⟨hgs,hT,hle⟩ F44 N44
    rw [hgs]
    dsimp only at hT hle N44
    simp only [List.cons_append,List.nil_append] at N44
    have hfl : vsm.toArray.size = (famsOf d bn ev).length:=by rw [List.size_toArray,hm3.length]
    rw [hfl] at hle
    rw [hfl,List.take_length] at hT
    clear F42 N43
    k_steps
    show wpD _ _ (execs _ _) _ _ _
    refine D_execs_cons (D_Return (D_And2 ?_))
    k_steps
    (rename Fr g L _ _=>F53)
    (rename News g L _ _=>N53)
    show wpAny _ _ _ _ _ _
    refine' families (A:=⟨cx,cdx,cl,t1,t2,x5,x3,x4,x1,x2,ncd,ncl⟩) hk2 ?hdd3 (Cx.of X TP F53 N53 (by dsimp only [cmpLed];k_allIn)) ?d53 ?u53 (wv:=svs ls) ⟨_,(N53 (sA2,_) (by k_mem)).1,rfl,_,rfl⟩ (hls ▸ svs_strs ls) ?hwU53 (LF.g2.name (by omega)) LF.g2.op (by omega) ?r53
    case hdd3=>omega
    case d53=>(try dsimp only [Around.deeper]);omega
    case u53=>(try dsimp only [Around.deeper]);omega
    case hwU53=>exact all_cons (P:=fun a=>sA2 ≠ a) (fun q=>ne33 (cx,_) (by k_mem) q.symm) (all_cons (fun q=>ne33 (cdx,_) (by k_mem) q.symm) (all_cons (fun q=>ne33 (cl,_) (by k_mem) q.symm) (all_cons (fun q=>ne33 (t1,_) (by k_mem) q.symm) (all_cons (fun q=>ne33 (t2,_) (by k_mem) q.symm) all_nil))))
    intro h27 tk27 mB vsm2 nm2 hp1 hp2 hp0 K27
    have hp3 : StrsAre vsm2 (famsOf d bn ev2):=hp2
    rw [LF.fr] at hp3
    refine obAA (step_new F53 N53 K27 hp1 hp0) ?_;intro F54 N54 ne54
    clear F53 N53 K27 hp1 hp0 hp2
    k_steps
    show wpAny _ _ _ _ _ _
    refine eq_same (vs:=vsm2) (ws:=vsr) ⟨_,(N54 (mB,_) (List.Mem.head _)).1,rfl,_,rfl⟩ ⟨_,(N54 (rA,_) (by k_mem)).1,rfl,_,rfl⟩ (same_strs hp3 hr3) ?u54 ?_
    case u54=>(try dsimp only [Around.deeper]);omega
    k_steps
    refine D_Compare1 (D_Call_Name ?_) (by with_unfolding_all rfl)
    k_steps
    refine obEEA (at_306 X) ?_;intro o306 fd306 hd306 ho306
    refine D_callWith_fn1 hd306 ?_
    k_steps
    (rename Fr g L _ _=>F55)
    (rename News g L _ _=>N55)
    refine runs_spec (mean:=mean) (mg:=mg) (mb:=mb) (h₀:=g) (cx_nil X TP F55) ?_ ?_ (wv:=svs ls) ⟨_,(N55 (sA2,_) (by k_mem)).1,rfl,_,rfl⟩ (hls ▸ svs_strs ls) (LF.g2.name (by omega)) (LF.g2.ascii (by omega)) LF.g2.op (by omega) ?_
    · (try dsimp only [Around.deeper]);omega
    · (try dsimp only [Around.deeper]);omega
    intro h28 tk28 rB vsr2 nr2 hq1 hq2 hq0 K28
    have hq3 : StrsAre vsr2 (runsOf ev2):=hq2
    rw [LF.rf] at hq3
    refine obAA (step_new F55 N55 K28 hq1 hq0) ?_;intro F56 N56 ne56
    clear F55 N55 K28 hq1 hq0 hq2 ho306 hd306 fd306 o306
    k_steps
    show wpAny _ _ _ _ _ _
    refine sorted_K F56 N56 (vs:=svs le) ⟨_,(N56 (eA,_) (by k_mem)).1,rfl,_,rfl⟩ (svs_strs le) (by rw [svs_length];have:=LF.bf.len;omega) ?_
    intro D9 h29 vs29 e29 hlt29 F57 N57 hS29
    rw [hT] at hS29
    clear F56 N56
    k_steps
    show wpAny _ _ _ _ _ _
    refine eq_same (vs:=vsr2) (ws:=vs29) ⟨_,(N57 (rB,_) (by k_mem)).1,rfl,_,rfl⟩ ⟨_,(N57 (D9,_) (List.Mem.head _)).1,rfl,_,rfl⟩ (same_strs hq3 hS29) ?u57 ?_
    case u57=>(try dsimp only [Around.deeper]);omega
    refine Leave.intro F57 fun kp=>?_
    exact hret _ _ _ _ _ (fun q=>hab18 (hab8 q)) (N57 (123,_) (by k_mem)).1 (N57 (289,_) (by k_mem)).1 kp
theorem all : ∀ d,F d := eps_all (by with_unfolding_all exact core)
end b
theorem core : P sA sv ns w mean mg mb h₀ s dp un fr gd Q g L h tk0 := half.2 fun cA cv cs nc i1 i3 i4 i5 i6 i7 n h4 i8 gA ng gl d kk bn cl t1 t2 ncl x1 x2 x3 x4 cx cdx x5 ncd ev ev2 fA wsv nf tk7 i9 ttx gs8 cc occ i10 i11 h9 tk9 c2 oc2 vc2 tc2 mA vsm nm rA vsr nr dnA odn tk15 asA oas i12 i13 i14 c u2 h16 tk16 gs=>b.all (cA,cv,cs,nc,i1,i3,i4,i5,i6,i7,n,h4,i8,gA,ng,gl,d,kk,bn,cl,t1,t2,ncl,x1,x2,x3,x4,cx,cdx,x5,ncd,ev,ev2,fA,wsv,nf,tk7,i9,ttx,gs8,cc,occ,i10,i11,h9,tk9,c2,oc2,vc2,tc2,mA,vsm,nm,rA,vsr,nr,dnA,odn,tk15,asA,oas,i12,i13,i14,c,u2,h16,tk16,gs)
theorem all : ∀ d,F d := eps_all (by with_unfolding_all exact core)
end LAk
theorem law_spec {w : World} {mean : ExcName → Option Value} {mg mb : Str → Option Value} {h₀ : Heap} {s : Shared} {dp un : Nat} {fr : Option (List Env)} {gd : Option (List Code)} {Q E : Value → Shared → Prop}
  (C:Cx w mean mg mb h₀ s [(123,tabObj #[]),(289,tabObj #[])]) (hd : dp + 100 < recursionLimit) (hu : un + 400 < cLine) (hCH1 : CodeHd h₀ 125 123) (hCH2 : CodeHd h₀ 293 289)
  {sA : Addr} {sv : List Value} {ns : List Int} (hw : s.heap.IsList sA sv.toArray) (hi : IntsAre sv ns) (hl : ns.length ≤ 63) (hsU : sA ≠ 123 ∧ sA ≠ 289)
  (hret : ∀ h' tk' gs' ps1 ps2,(AllBare s.gens → AllBare gs') → h'.get? 123 = some (tabObj ps1) → h'.get? 289 = some (tabObj ps2) → Keep [123,289] s { s with heap:=h',toks:=tk',gens:=gs' } → Q (.bool true) { s with heap:=h',toks:=tk',gens:=gs' }) :
  wpD (model P0 w) (Ar dp fr gd un) (call (.ref 318) [.ref sA]) Q E s:=by
  have X0:=C.X.keeps C.st
  have k0 : PySem.Challenge.rw_if0027_01 = PySem.Challenge.rw_if0027_01:=rfl
  revert X0 k0;k_fill;intro X0 k0;clear k0
  refine D_call ?_
  k_dflt (refine' enter_codeD (binds:=[(Str.ofString "script",.ref sA)]) C ?k6 ?k7 ?k8 ?k9 ?kB ?kD ?_ ?c2 ?c3 ?c4)
  case k6=>k_is
  case k7=>k_is
  case k8=>omega
  case k9=>first | exact BindsTo.of_eq rfl | exact binds_K (by k_in) rfl (by k_is) rfl rfl rfl
  case kB=>exact rfl
  case kD=>decide +kernel
  case c2=>exact rfl
  case c3=>exact rfl
  case c4=>exact rfl
  intro g L h tk0 cells F N Y X TP kG lG eL
  refine' fn_get (LAk.all (sA,sv,ns,w,mean,mg,mb,h₀,s,dp,un,fr,gd,Q,g,L,h,tk0) C hd hu hCH1 hCH2 hw hi hl hsU hret cells) ?ko F N Y X TP kG lG eL
  case ko=>k_is
end

end
end
end Mine
open PySem PySem.W PyProof.Rows PySem.Calls PySem.Spec
namespace Mine
/-- what stood before stands, but the two tables, which have grown -/
theorem oldK_of {h h' : Heap} {ps1 ps2 : Array Value} (hT : TabsAt [(125, 123), (293, 289)] h) (h1 : h'.get? 123 = some (tabObj ps1)) (h2 : h'.get? 289 = some (tabObj ps2))
    (k : ∀ b o,h.get? b = some o → b ∉ ([123,289] : List Addr) → h'.get? b = some o) : OldK h h':=by
  have t1:=hT (125,123) (List.Mem.head _)
  have t2:=hT (293,289) (List.Mem.tail _ (List.Mem.head _))
  refine ⟨fun b o e=>?_,fun b o e=>?_⟩
  · by_cases hb : b ∈ ([123, 289] : List Addr)
    · simp only [List.mem_cons, List.not_mem_nil, or_false] at hb
      rcases hb with rfl | rfl
      · have e2 : h.get? 123 = some (tabObj #[]) := t1.2
        rw [e] at e2
        cases e2
        exact .inr (.inl ⟨(t1.1.tab t1.2).isCodeTable,rfl,#[],ps1,rfl,by rw [Array.empty_append];exact h1⟩)
      · have e2 : h.get? 289 = some (tabObj #[]) := t2.2
        rw [e] at e2
        cases e2
        exact .inr (.inl ⟨(t2.1.tab t2.2).isCodeTable,rfl,#[],ps2,rfl,by rw [Array.empty_append];exact h2⟩)
    · exact .inl (k b o e hb)
  · by_cases hb : b ∈ ([123, 289] : List Addr)
    · simp only [List.mem_cons, List.not_mem_nil, or_false] at hb
      rcases hb with rfl | rfl
      · exact ⟨_,h1⟩
      · exact ⟨_,h2⟩
    · exact ⟨o,k b o e hb⟩
theorem list_ne_tab {h : Heap} {a b : Addr} {its : Array Value} (hl : h.IsList a its) (hb : h.get? b = some (tabObj #[])) : a ≠ b := fun e=>by
  obtain ⟨o,ho,hc,_⟩:=hl
  rw [e,hb] at ho
  cases ho
  cases hc
theorem cx_top {w : World} {mean : ExcName → Option Value} {mg mb : Str → Option Value} {s : Shared} (X : (Mine.hd.heap_1 w.params).In s.heap) (T : Top Mine.view (looseW Mine.view Lz4) mean mg mb s.heap) (hT : TabsAt [(125,123),(293,289)] s.heap) (hK : noTabs (Mine.hd.heap_1 w.params) = true) :
    Cx w mean mg mb (ghostOf s.heap [(125,123),(293,289)]) s [(123,tabObj #[]),(289,tabObj #[])]:=
  ⟨ghost_K hT X hK,ghost_top hT T,fun b o e=>of_hideAll _ e,fun p hp=>by
    simp only [List.mem_cons,List.not_mem_nil,or_false] at hp
    rcases hp with rfl | rfl
    · exact ⟨(hT (125,123) (List.Mem.head _)).2,hideAll_none _ (by simp)⟩
    · exact ⟨(hT (293,289) (List.Mem.tail _ (List.Mem.head _))).2,hideAll_none _ (by simp)⟩⟩
end Mine
set_option maxRecDepth 100000 in
theorem PySem.Challenge.cw_if0027_01_holds : PySem.Challenge.rw_if0027_01.Holds := by
  refine Mine.hd ⟨Mine.leftH,?_⟩
  k_fill
  intro w s₀ s₁ mg mb G Y fa o pm cd doc dV kV ho hd hcd hD hmg hg args vals as hpre hlay hrd hwl hlo
  have X : (Mine.hd.heap_1 w.params).In s₁.heap:=Y.1
  have hT8:=Y.2
  have T:=G.T
  clear Y ho hd hcd hD
  wrow_args hpre hlay hrd hwl hlo
  (rename Heap.IsList _ _ _=>hL)
  (rename IntsAre _ _=>hI)
  (rename ¬ _ < _=>hle)
  have hTT : TabsAt [(125,123),(293,289)] s₁.heap:=List.forall_mem_cons.mpr ⟨⟨codeHd_of_K X (by kernel_rfl),hT8 123 (by simp)⟩,List.forall_mem_cons.mpr ⟨⟨codeHd_of_K X (by kernel_rfl),hT8 289 (by simp)⟩,fun _ h=>nomatch h⟩⟩
  have e318 : mg (Str.ofString "law") = some (.ref 318):=mg_of X T.g (by k_is)
  have hmg2 : mg (Str.ofString "law") = some (.ref fa):=hmg
  rw [e318] at hmg2
  obtain rfl : (318 : Addr) = fa:=by injection hmg2 with q;injection q
  have hCC:=ghost_code hTT
  refine Mine.law_spec (dp:=1 + claimMargin) (un:=4) (fr:=some []) (gd:=some []) (Mine.cx_top X T hTT (by kernel_rfl)) (by decide +kernel) (by decide +kernel) hCC.1 hCC.2.1 hL hI (by lia) ⟨Mine.list_ne_tab hL (hT8 123 (by simp)),Mine.list_ne_tab hL (hT8 289 (by simp))⟩ ?_
  intro h' tk' gs' ps1 ps2 hab h1 h2 kp
  refine ⟨.inl ⟨_,_,[],rfl,fun _=>rfl,ReadsW.bool true,?_,fun _=>⟨List.nodup_nil,fun _ hm=>(nomatch hm)⟩⟩,Mine.oldK_of hTT h1 h2 kp,rfl,hab (AllBare.of_eq hg)⟩
  first
    | rfl
    | wrow_post
    | w_fin
