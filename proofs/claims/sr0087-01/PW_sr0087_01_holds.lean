import PyProof.Rows.All
import KE.BitLaws
import KE.KAssignIn
import KE.KCallOwn
import KE.KListMore
import KE.KDeep
import KE.KNest
import KE.KRevIter
import KE.KStar
import KE.KxSplit
import KE.KSuper
import Wide.FinOn
import OpenK.AllK
import Wide.All
import PySem.Challenge.RW_sr0087_01
open PySem PySem.W PySem.Calls PyProof.Rows
set_option Elab.async false
set_option maxRecDepth 100000
set_option maxHeartbeats 0
set_option exponentiation.threshold 5000
set_option genSizeOf false
set_option genInjectivity false
set_option bootstrap.genMatcherCode false
namespace Mine
theorem noneE {α : Type} {v : α} {P : Prop} (e : none = some v) : P := by cases e
theorem noneF {α : Type} {v : α} {P : Prop} (e : some v = none) : P := by cases e
theorem tfE {P : Prop} (e : true = false) : P := by cases e
theorem ftE {P : Prop} (e : false = true) : P := by cases e
theorem pairC {α β : Type} {a v : α} {b s : β} {P : Prop} (k : a = v → b = s → P) (e : some (a, b) = some (v, s)) : P := by cases e; exact k rfl rfl
theorem someC {α : Type} {a v : α} {P : Prop} (k : a = v → P) (e : some a = some v) : P := by cases e; exact k rfl
theorem bindE {α β : Type} {o : Option α} {f : α → Option β} {y : β} {P : Prop} (k : ∀ a, o = some a → f a = some y → P) (h : o.bind f = some y) : P := by
  cases o with
  | none => cases h
  | some a => exact k a rfl h
theorem ex0_2 {A0 A1 : Prop} {P : Prop} (h : A0 ∧ A1) (k : A0 → A1 → P) : P := by
  obtain ⟨a0, a1⟩ := h
  exact k a0 a1
theorem ex1_1 {α0 : Sort _} {A0 : α0 → Prop} {P : Prop} (h : ∃ x0, A0 x0) (k : ∀ x0, A0 x0 → P) : P := by
  obtain ⟨x0, a0⟩ := h
  exact k x0 a0
theorem ex0_3 {A0 A1 A2 : Prop} {P : Prop} (h : A0 ∧ A1 ∧ A2) (k : A0 → A1 → A2 → P) : P := by
  obtain ⟨a0, a1, a2⟩ := h
  exact k a0 a1 a2
theorem ex1_2 {α0 : Sort _} {A0 A1 : α0 → Prop} {P : Prop} (h : ∃ x0, A0 x0 ∧ A1 x0) (k : ∀ x0, A0 x0 → A1 x0 → P) : P := by
  obtain ⟨x0, a0, a1⟩ := h
  exact k x0 a0 a1
theorem ex2_1 {α0 α1 : Sort _} {A0 : α0 → α1 → Prop} {P : Prop} (h : ∃ x0 x1, A0 x0 x1) (k : ∀ x0 x1, A0 x0 x1 → P) : P := by
  obtain ⟨x0, x1, a0⟩ := h
  exact k x0 x1 a0
theorem ex0_4 {A0 A1 A2 A3 : Prop} {P : Prop} (h : A0 ∧ A1 ∧ A2 ∧ A3) (k : A0 → A1 → A2 → A3 → P) : P := by
  obtain ⟨a0, a1, a2, a3⟩ := h
  exact k a0 a1 a2 a3
theorem ex1_3 {α0 : Sort _} {A0 A1 A2 : α0 → Prop} {P : Prop} (h : ∃ x0, A0 x0 ∧ A1 x0 ∧ A2 x0) (k : ∀ x0, A0 x0 → A1 x0 → A2 x0 → P) : P := by
  obtain ⟨x0, a0, a1, a2⟩ := h
  exact k x0 a0 a1 a2
theorem ex2_2 {α0 α1 : Sort _} {A0 A1 : α0 → α1 → Prop} {P : Prop} (h : ∃ x0 x1, A0 x0 x1 ∧ A1 x0 x1) (k : ∀ x0 x1, A0 x0 x1 → A1 x0 x1 → P) : P := by
  obtain ⟨x0, x1, a0, a1⟩ := h
  exact k x0 x1 a0 a1
theorem ex3_1 {α0 α1 α2 : Sort _} {A0 : α0 → α1 → α2 → Prop} {P : Prop} (h : ∃ x0 x1 x2, A0 x0 x1 x2) (k : ∀ x0 x1 x2, A0 x0 x1 x2 → P) : P := by
  obtain ⟨x0, x1, x2, a0⟩ := h
  exact k x0 x1 x2 a0
theorem ex0_5 {A0 A1 A2 A3 A4 : Prop} {P : Prop} (h : A0 ∧ A1 ∧ A2 ∧ A3 ∧ A4) (k : A0 → A1 → A2 → A3 → A4 → P) : P := by
  obtain ⟨a0, a1, a2, a3, a4⟩ := h
  exact k a0 a1 a2 a3 a4
theorem ex1_4 {α0 : Sort _} {A0 A1 A2 A3 : α0 → Prop} {P : Prop} (h : ∃ x0, A0 x0 ∧ A1 x0 ∧ A2 x0 ∧ A3 x0) (k : ∀ x0, A0 x0 → A1 x0 → A2 x0 → A3 x0 → P) : P := by
  obtain ⟨x0, a0, a1, a2, a3⟩ := h
  exact k x0 a0 a1 a2 a3
theorem ex2_3 {α0 α1 : Sort _} {A0 A1 A2 : α0 → α1 → Prop} {P : Prop} (h : ∃ x0 x1, A0 x0 x1 ∧ A1 x0 x1 ∧ A2 x0 x1) (k : ∀ x0 x1, A0 x0 x1 → A1 x0 x1 → A2 x0 x1 → P) : P := by
  obtain ⟨x0, x1, a0, a1, a2⟩ := h
  exact k x0 x1 a0 a1 a2
theorem ex3_2 {α0 α1 α2 : Sort _} {A0 A1 : α0 → α1 → α2 → Prop} {P : Prop} (h : ∃ x0 x1 x2, A0 x0 x1 x2 ∧ A1 x0 x1 x2) (k : ∀ x0 x1 x2, A0 x0 x1 x2 → A1 x0 x1 x2 → P) : P := by
  obtain ⟨x0, x1, x2, a0, a1⟩ := h
  exact k x0 x1 x2 a0 a1
theorem ex4_1 {α0 α1 α2 α3 : Sort _} {A0 : α0 → α1 → α2 → α3 → Prop} {P : Prop} (h : ∃ x0 x1 x2 x3, A0 x0 x1 x2 x3) (k : ∀ x0 x1 x2 x3, A0 x0 x1 x2 x3 → P) : P := by
  obtain ⟨x0, x1, x2, x3, a0⟩ := h
  exact k x0 x1 x2 x3 a0
theorem ex0_6 {A0 A1 A2 A3 A4 A5 : Prop} {P : Prop} (h : A0 ∧ A1 ∧ A2 ∧ A3 ∧ A4 ∧ A5) (k : A0 → A1 → A2 → A3 → A4 → A5 → P) : P := by
  obtain ⟨a0, a1, a2, a3, a4, a5⟩ := h
  exact k a0 a1 a2 a3 a4 a5
theorem ex1_5 {α0 : Sort _} {A0 A1 A2 A3 A4 : α0 → Prop} {P : Prop} (h : ∃ x0, A0 x0 ∧ A1 x0 ∧ A2 x0 ∧ A3 x0 ∧ A4 x0) (k : ∀ x0, A0 x0 → A1 x0 → A2 x0 → A3 x0 → A4 x0 → P) : P := by
  obtain ⟨x0, a0, a1, a2, a3, a4⟩ := h
  exact k x0 a0 a1 a2 a3 a4
theorem ex2_4 {α0 α1 : Sort _} {A0 A1 A2 A3 : α0 → α1 → Prop} {P : Prop} (h : ∃ x0 x1, A0 x0 x1 ∧ A1 x0 x1 ∧ A2 x0 x1 ∧ A3 x0 x1) (k : ∀ x0 x1, A0 x0 x1 → A1 x0 x1 → A2 x0 x1 → A3 x0 x1 → P) : P := by
  obtain ⟨x0, x1, a0, a1, a2, a3⟩ := h
  exact k x0 x1 a0 a1 a2 a3
theorem ex3_3 {α0 α1 α2 : Sort _} {A0 A1 A2 : α0 → α1 → α2 → Prop} {P : Prop} (h : ∃ x0 x1 x2, A0 x0 x1 x2 ∧ A1 x0 x1 x2 ∧ A2 x0 x1 x2) (k : ∀ x0 x1 x2, A0 x0 x1 x2 → A1 x0 x1 x2 → A2 x0 x1 x2 → P) : P := by
  obtain ⟨x0, x1, x2, a0, a1, a2⟩ := h
  exact k x0 x1 x2 a0 a1 a2
theorem ex4_2 {α0 α1 α2 α3 : Sort _} {A0 A1 : α0 → α1 → α2 → α3 → Prop} {P : Prop} (h : ∃ x0 x1 x2 x3, A0 x0 x1 x2 x3 ∧ A1 x0 x1 x2 x3) (k : ∀ x0 x1 x2 x3, A0 x0 x1 x2 x3 → A1 x0 x1 x2 x3 → P) : P := by
  obtain ⟨x0, x1, x2, x3, a0, a1⟩ := h
  exact k x0 x1 x2 x3 a0 a1
theorem ex5_1 {α0 α1 α2 α3 α4 : Sort _} {A0 : α0 → α1 → α2 → α3 → α4 → Prop} {P : Prop} (h : ∃ x0 x1 x2 x3 x4, A0 x0 x1 x2 x3 x4) (k : ∀ x0 x1 x2 x3 x4, A0 x0 x1 x2 x3 x4 → P) : P := by
  obtain ⟨x0, x1, x2, x3, x4, a0⟩ := h
  exact k x0 x1 x2 x3 x4 a0
theorem ex0_7 {A0 A1 A2 A3 A4 A5 A6 : Prop} {P : Prop} (h : A0 ∧ A1 ∧ A2 ∧ A3 ∧ A4 ∧ A5 ∧ A6) (k : A0 → A1 → A2 → A3 → A4 → A5 → A6 → P) : P := by
  obtain ⟨a0, a1, a2, a3, a4, a5, a6⟩ := h
  exact k a0 a1 a2 a3 a4 a5 a6
theorem ex1_6 {α0 : Sort _} {A0 A1 A2 A3 A4 A5 : α0 → Prop} {P : Prop} (h : ∃ x0, A0 x0 ∧ A1 x0 ∧ A2 x0 ∧ A3 x0 ∧ A4 x0 ∧ A5 x0) (k : ∀ x0, A0 x0 → A1 x0 → A2 x0 → A3 x0 → A4 x0 → A5 x0 → P) : P := by
  obtain ⟨x0, a0, a1, a2, a3, a4, a5⟩ := h
  exact k x0 a0 a1 a2 a3 a4 a5
theorem ex2_5 {α0 α1 : Sort _} {A0 A1 A2 A3 A4 : α0 → α1 → Prop} {P : Prop} (h : ∃ x0 x1, A0 x0 x1 ∧ A1 x0 x1 ∧ A2 x0 x1 ∧ A3 x0 x1 ∧ A4 x0 x1) (k : ∀ x0 x1, A0 x0 x1 → A1 x0 x1 → A2 x0 x1 → A3 x0 x1 → A4 x0 x1 → P) : P := by
  obtain ⟨x0, x1, a0, a1, a2, a3, a4⟩ := h
  exact k x0 x1 a0 a1 a2 a3 a4
theorem ex3_4 {α0 α1 α2 : Sort _} {A0 A1 A2 A3 : α0 → α1 → α2 → Prop} {P : Prop} (h : ∃ x0 x1 x2, A0 x0 x1 x2 ∧ A1 x0 x1 x2 ∧ A2 x0 x1 x2 ∧ A3 x0 x1 x2) (k : ∀ x0 x1 x2, A0 x0 x1 x2 → A1 x0 x1 x2 → A2 x0 x1 x2 → A3 x0 x1 x2 → P) : P := by
  obtain ⟨x0, x1, x2, a0, a1, a2, a3⟩ := h
  exact k x0 x1 x2 a0 a1 a2 a3
theorem ex4_3 {α0 α1 α2 α3 : Sort _} {A0 A1 A2 : α0 → α1 → α2 → α3 → Prop} {P : Prop} (h : ∃ x0 x1 x2 x3, A0 x0 x1 x2 x3 ∧ A1 x0 x1 x2 x3 ∧ A2 x0 x1 x2 x3) (k : ∀ x0 x1 x2 x3, A0 x0 x1 x2 x3 → A1 x0 x1 x2 x3 → A2 x0 x1 x2 x3 → P) : P := by
  obtain ⟨x0, x1, x2, x3, a0, a1, a2⟩ := h
  exact k x0 x1 x2 x3 a0 a1 a2
theorem ex5_2 {α0 α1 α2 α3 α4 : Sort _} {A0 A1 : α0 → α1 → α2 → α3 → α4 → Prop} {P : Prop} (h : ∃ x0 x1 x2 x3 x4, A0 x0 x1 x2 x3 x4 ∧ A1 x0 x1 x2 x3 x4) (k : ∀ x0 x1 x2 x3 x4, A0 x0 x1 x2 x3 x4 → A1 x0 x1 x2 x3 x4 → P) : P := by
  obtain ⟨x0, x1, x2, x3, x4, a0, a1⟩ := h
  exact k x0 x1 x2 x3 x4 a0 a1
theorem ex6_1 {α0 α1 α2 α3 α4 α5 : Sort _} {A0 : α0 → α1 → α2 → α3 → α4 → α5 → Prop} {P : Prop} (h : ∃ x0 x1 x2 x3 x4 x5, A0 x0 x1 x2 x3 x4 x5) (k : ∀ x0 x1 x2 x3 x4 x5, A0 x0 x1 x2 x3 x4 x5 → P) : P := by
  obtain ⟨x0, x1, x2, x3, x4, x5, a0⟩ := h
  exact k x0 x1 x2 x3 x4 x5 a0
theorem list1 {α : Type} {P : List α → Prop} (k : ∀ v0, P [v0]) {vs : List α} (h : vs.length = 1) : P vs := by
  cases vs with
  | nil => cases h
  | cons v0 vs =>
    cases vs with
    | nil => exact k v0
    | cons _ _ => cases h
theorem list2 {α : Type} {P : List α → Prop} (k : ∀ v0 v1, P [v0, v1]) {vs : List α} (h : vs.length = 2) : P vs := by
  cases vs with
  | nil => cases h
  | cons v0 vs =>
    exact list1 (P := fun vs => P (v0 :: vs)) (fun v1 => k v0 v1) (Nat.succ.inj h)
theorem list3 {α : Type} {P : List α → Prop} (k : ∀ v0 v1 v2, P [v0, v1, v2]) {vs : List α} (h : vs.length = 3) : P vs := by
  cases vs with
  | nil => cases h
  | cons v0 vs =>
    exact list2 (P := fun vs => P (v0 :: vs)) (fun v1 v2 => k v0 v1 v2) (Nat.succ.inj h)
theorem list4 {α : Type} {P : List α → Prop} (k : ∀ v0 v1 v2 v3, P [v0, v1, v2, v3]) {vs : List α} (h : vs.length = 4) : P vs := by
  cases vs with
  | nil => cases h
  | cons v0 vs =>
    exact list3 (P := fun vs => P (v0 :: vs)) (fun v1 v2 v3 => k v0 v1 v2 v3) (Nat.succ.inj h)
theorem list5 {α : Type} {P : List α → Prop} (k : ∀ v0 v1 v2 v3 v4, P [v0, v1, v2, v3, v4]) {vs : List α} (h : vs.length = 5) : P vs := by
  cases vs with
  | nil => cases h
  | cons v0 vs =>
    exact list4 (P := fun vs => P (v0 :: vs)) (fun v1 v2 v3 v4 => k v0 v1 v2 v3 v4) (Nat.succ.inj h)
theorem list6 {α : Type} {P : List α → Prop} (k : ∀ v0 v1 v2 v3 v4 v5, P [v0, v1, v2, v3, v4, v5]) {vs : List α} (h : vs.length = 6) : P vs := by
  cases vs with
  | nil => cases h
  | cons v0 vs =>
    exact list5 (P := fun vs => P (v0 :: vs)) (fun v1 v2 v3 v4 v5 => k v0 v1 v2 v3 v4 v5) (Nat.succ.inj h)
theorem ex5_12 {α0 α1 α2 α3 α4 : Sort _} {A0 A1 A2 A3 A4 A5 A6 A7 A8 A9 A10 A11 : α0 → α1 → α2 → α3 → α4 → Prop} {P : Prop} (h : ∃ x0 x1 x2 x3 x4, A0 x0 x1 x2 x3 x4 ∧ A1 x0 x1 x2 x3 x4 ∧ A2 x0 x1 x2 x3 x4 ∧ A3 x0 x1 x2 x3 x4 ∧ A4 x0 x1 x2 x3 x4 ∧ A5 x0 x1 x2 x3 x4 ∧ A6 x0 x1 x2 x3 x4 ∧ A7 x0 x1 x2 x3 x4 ∧ A8 x0 x1 x2 x3 x4 ∧ A9 x0 x1 x2 x3 x4 ∧ A10 x0 x1 x2 x3 x4 ∧ A11 x0 x1 x2 x3 x4) (k : ∀ x0 x1 x2 x3 x4, A0 x0 x1 x2 x3 x4 → A1 x0 x1 x2 x3 x4 → A2 x0 x1 x2 x3 x4 → A3 x0 x1 x2 x3 x4 → A4 x0 x1 x2 x3 x4 → A5 x0 x1 x2 x3 x4 → A6 x0 x1 x2 x3 x4 → A7 x0 x1 x2 x3 x4 → A8 x0 x1 x2 x3 x4 → A9 x0 x1 x2 x3 x4 → A10 x0 x1 x2 x3 x4 → A11 x0 x1 x2 x3 x4 → P) : P := by
  obtain ⟨x0, x1, x2, x3, x4, a0, a1, a2, a3, a4, a5, a6, a7, a8, a9, a10, a11⟩ := h
  exact k x0 x1 x2 x3 x4 a0 a1 a2 a3 a4 a5 a6 a7 a8 a9 a10 a11
theorem ex5_6 {α0 α1 α2 α3 α4 : Sort _} {A0 A1 A2 A3 A4 A5 : α0 → α1 → α2 → α3 → α4 → Prop} {P : Prop} (h : ∃ x0 x1 x2 x3 x4, A0 x0 x1 x2 x3 x4 ∧ A1 x0 x1 x2 x3 x4 ∧ A2 x0 x1 x2 x3 x4 ∧ A3 x0 x1 x2 x3 x4 ∧ A4 x0 x1 x2 x3 x4 ∧ A5 x0 x1 x2 x3 x4) (k : ∀ x0 x1 x2 x3 x4, A0 x0 x1 x2 x3 x4 → A1 x0 x1 x2 x3 x4 → A2 x0 x1 x2 x3 x4 → A3 x0 x1 x2 x3 x4 → A4 x0 x1 x2 x3 x4 → A5 x0 x1 x2 x3 x4 → P) : P := by
  obtain ⟨x0, x1, x2, x3, x4, a0, a1, a2, a3, a4, a5⟩ := h
  exact k x0 x1 x2 x3 x4 a0 a1 a2 a3 a4 a5
theorem ex4_5 {α0 α1 α2 α3 : Sort _} {A0 A1 A2 A3 A4 : α0 → α1 → α2 → α3 → Prop} {P : Prop} (h : ∃ x0 x1 x2 x3, A0 x0 x1 x2 x3 ∧ A1 x0 x1 x2 x3 ∧ A2 x0 x1 x2 x3 ∧ A3 x0 x1 x2 x3 ∧ A4 x0 x1 x2 x3) (k : ∀ x0 x1 x2 x3, A0 x0 x1 x2 x3 → A1 x0 x1 x2 x3 → A2 x0 x1 x2 x3 → A3 x0 x1 x2 x3 → A4 x0 x1 x2 x3 → P) : P := by
  obtain ⟨x0, x1, x2, x3, a0, a1, a2, a3, a4⟩ := h
  exact k x0 x1 x2 x3 a0 a1 a2 a3 a4
theorem ex5_5 {α0 α1 α2 α3 α4 : Sort _} {A0 A1 A2 A3 A4 : α0 → α1 → α2 → α3 → α4 → Prop} {P : Prop} (h : ∃ x0 x1 x2 x3 x4, A0 x0 x1 x2 x3 x4 ∧ A1 x0 x1 x2 x3 x4 ∧ A2 x0 x1 x2 x3 x4 ∧ A3 x0 x1 x2 x3 x4 ∧ A4 x0 x1 x2 x3 x4) (k : ∀ x0 x1 x2 x3 x4, A0 x0 x1 x2 x3 x4 → A1 x0 x1 x2 x3 x4 → A2 x0 x1 x2 x3 x4 → A3 x0 x1 x2 x3 x4 → A4 x0 x1 x2 x3 x4 → P) : P := by
  obtain ⟨x0, x1, x2, x3, x4, a0, a1, a2, a3, a4⟩ := h
  exact k x0 x1 x2 x3 x4 a0 a1 a2 a3 a4
theorem ex2_6 {α0 α1 : Sort _} {A0 A1 A2 A3 A4 A5 : α0 → α1 → Prop} {P : Prop} (h : ∃ x0 x1, A0 x0 x1 ∧ A1 x0 x1 ∧ A2 x0 x1 ∧ A3 x0 x1 ∧ A4 x0 x1 ∧ A5 x0 x1) (k : ∀ x0 x1, A0 x0 x1 → A1 x0 x1 → A2 x0 x1 → A3 x0 x1 → A4 x0 x1 → A5 x0 x1 → P) : P := by
  obtain ⟨x0, x1, a0, a1, a2, a3, a4, a5⟩ := h
  exact k x0 x1 a0 a1 a2 a3 a4 a5
theorem condE {α : Type} {b : Bool} {x : Option α} {y : α} {P : Prop} (k : b = true → x = some y → P) (h : (bif b then x else none) = some y) : P := by
  cases b with
  | false => exact noneE h
  | true => exact k rfl h
theorem condE' {α : Type} {b : Bool} {x : Option α} {y : α} {P : Prop} (k : b = false → x = some y → P) (h : (bif b then none else x) = some y) : P := by
  cases b with
  | true => exact noneE h
  | false => exact k rfl h
theorem lt1 {P : Nat → Prop} (h0 : P 0) : ∀ n, n < 1 → P n := fun n h => by
  cases n with
  | zero => exact h0
  | succ n => exact absurd (Nat.lt_of_succ_lt_succ h) (Nat.not_lt_zero _)
theorem ltS {P : Nat → Prop} {k : Nat} (h0 : P 0) (t : ∀ n, n < k → P (n + 1)) : ∀ n, n < k + 1 → P n := fun n h => by
  cases n with
  | zero => exact h0
  | succ n => exact t n (Nat.lt_of_succ_lt_succ h)
theorem lt3 {P : Nat → Prop} (h0 : P 0) (h1 : P 1) (h2 : P 2) : ∀ n, n < 3 → P n := ltS h0 (ltS (P := fun n => P (n + 1)) h1 (lt1 (P := fun n => P (n + 2)) h2))
theorem lt4 {P : Nat → Prop} (h0 : P 0) (h1 : P 1) (h2 : P 2) (h3 : P 3) : ∀ n, n < 4 → P n := ltS h0 (lt3 (P := fun n => P (n + 1)) h1 h2 h3)
theorem lt5 {P : Nat → Prop} (h0 : P 0) (h1 : P 1) (h2 : P 2) (h3 : P 3) (h4 : P 4) : ∀ n, n < 5 → P n := ltS h0 (lt4 (P := fun n => P (n + 1)) h1 h2 h3 h4)
theorem lt6 {P : Nat → Prop} (h0 : P 0) (h1 : P 1) (h2 : P 2) (h3 : P 3) (h4 : P 4) (h5 : P 5) : ∀ n, n < 6 → P n := ltS h0 (lt5 (P := fun n => P (n + 1)) h1 h2 h3 h4 h5)
theorem lt9 {P : Nat → Prop} (h0 : P 0) (h1 : P 1) (h2 : P 2) (h3 : P 3) (h4 : P 4) (h5 : P 5) (h6 : P 6) (h7 : P 7) (h8 : P 8) : ∀ n, n < 9 → P n := ltS h0 (ltS (P := fun n => P (n + 1)) h1 (ltS (P := fun n => P (n + 2)) h2 (lt6 (P := fun n => P (n + 3)) h3 h4 h5 h6 h7 h8)))
theorem predE {K k : Nat} (h : K + 1 ≤ k) : ∃ j, k = j + 1 ∧ K ≤ j := by
  cases k with
  | zero => exact absurd h (Nat.not_succ_le_zero _)
  | succ j => exact ⟨j, rfl, Nat.le_of_succ_le_succ h⟩
theorem predE2 {K k : Nat} (h : K + 2 ≤ k) : ∃ j, k = j + 2 ∧ K ≤ j := by
  cases k with
  | zero => exact absurd h (Nat.not_succ_le_zero _)
  | succ k =>
    cases k with
    | zero => exact absurd (Nat.le_of_succ_le_succ h) (Nat.not_succ_le_zero _)
    | succ j => exact ⟨j, rfl, Nat.le_of_succ_le_succ (Nat.le_of_succ_le_succ h)⟩
theorem subS {k j : Nat} (h : k + 1 ≤ j) : j - k = (j - (k + 1)) + 1 := (Nat.succ_pred_eq_of_pos (Nat.sub_pos_of_lt h)).symm
theorem halfF {c P : Nat} (h : c ≤ P * 2) : c - c / 2 ≤ P := by omega
theorem midF {L R d : Nat} (h1 : L < R) (h2 : R - L ≤ 2 ^ (d + 1)) (h : ¬ L + 1 = R) : L < (L + R) / 2 ∧ (L + R) / 2 < R ∧ (L + R) / 2 - L ≤ 2 ^ d ∧ R - (L + R) / 2 ≤ 2 ^ d := by
  refine Exists.elim (Nat.exists_eq_add_of_le (Nat.le_of_lt h1)) fun c q => ?_
  subst q
  rw [Nat.add_sub_cancel_left, Nat.pow_succ] at h2
  have e : (L + (L + c)) / 2 = L + c / 2 := by rw [← Nat.add_assoc, ← Nat.two_mul, Nat.mul_add_div (by decide)]
  have hc : 1 < c := Nat.lt_of_le_of_ne (Nat.lt_add_right_iff_pos.mp h1) (fun q => h (by rw [q]))
  rw [e, Nat.add_sub_cancel_left, Nat.add_sub_add_left]
  exact ⟨Nat.lt_add_of_pos_right (Nat.div_pos hc (by decide)), Nat.add_lt_add_left (Nat.div_lt_self (Nat.lt_trans (by decide) hc) (by decide)) L, Nat.div_le_of_le_mul (by rw [Nat.mul_comm]; exact h2), halfF h2⟩
theorem subM {L m R : Nat} (h : L ≤ m) : R - L - (m - L) = R - m := by rw [Nat.sub_sub, Nat.add_sub_cancel' h]
end Mine
set_option tactic.hygienic false
namespace Mine
inductive BI where
  | len | divmod | max | sum | sorted | range | reversed | tuple | str | append | reverse | bitlen | isspace | join | split | lpop | llen | linit
noncomputable def BI.val : BI → Value
  | .len => .builtin "len"
  | .divmod => .builtin "divmod"
  | .max => .builtin "max"
  | .sum => .builtin "sum"
  | .sorted => .builtin "sorted"
  | .range => .type "range"
  | .reversed => .type "reversed"
  | .tuple => .type "tuple"
  | .str => .type "str"
  | .append => .builtin "list.append"
  | .reverse => .builtin "list.reverse"
  | .bitlen => .builtin "int.bit_length"
  | .isspace => .builtin "str.isspace"
  | .join => .builtin "str.join"
  | .split => .builtin "str.split"
  | .lpop => .builtin "list.pop"
  | .llen => .builtin "list.__len__"
  | .linit => .builtin "list.__init__"
inductive AV where
  | none
  | bool (b : Bool)
  | int (i : Int)
  | str (l : List Nat)
  | tup (l : List AV)
  | rng (a b c : Int)
  | ref (i : Nat)
  | fn (a : Addr)
  | cls (a : Addr)
  | bi (b : BI)
structure CRec where
  pars : List Str
  body : List Stmt
  scope : Scope
inductive AO where
  | list (l : List AV)
  | inst (C : Addr) (d : Nat) (its : Option (List AV))
  | dict (m : List (Str × AV))
  | cell (v : Option AV)
  | rit (l : Nat) (i : Int)
  | tab (P : Addr) (q : Option Str)
  | clos (r : CRec) (cs : List (Str × Nat))
noncomputable def theI : AV → Option Int
  | .int i => some i
  | _ => none
noncomputable def theS : AV → Option (List Nat)
  | .str l => some l
  | _ => none
noncomputable def theT : AV → Option (List AV)
  | .tup l => some l
  | _ => none
noncomputable def theR : AV → Option Nat
  | .ref i => some i
  | _ => none
noncomputable def isL : AO → Option (List AV)
  | .list l => some l
  | _ => none
noncomputable def isN : AO → Option (Nat × Nat × Option (List AV))
  | .inst C d its => some (C, d, its)
  | _ => none
noncomputable def isD : AO → Option (List (Str × AV))
  | .dict m => some m
  | _ => none
noncomputable def gO (hp : List AO) : Nat → Option AO := @List.rec AO (fun zz => Nat → Option AO) (fun zz => none) (fun a zz ih n => @Nat.rec (fun zz => Option AO) (some a) (fun m zz => ih m) n) hp
theorem gO_eq {hp : List AO} : ∀ {i : Nat}, gO hp i = hp[i]? := by
  induction hp with
  | nil => exact rfl
  | cons a l ih => intro i; cases i with
    | zero => rfl
    | succ i => exact ih
noncomputable def gL (hp : List AO) (i : Nat) : Option (List AV) := (gO hp i).bind isL
noncomputable def gN (hp : List AO) (i : Nat) : Option (Nat × Nat × Option (List AV)) := (gO hp i).bind isN
noncomputable def gD (hp : List AO) (i : Nat) : Option (List (Str × AV)) := (gO hp i).bind isD
noncomputable def theL (hp : List AO) (x : AV) : Option (Nat × List AV) := (theR x).bind fun r => (gL hp r).bind fun l => some (r, l)
noncomputable def theN (hp : List AO) (x : AV) : Option (Nat × Nat × Nat × Option (List AV)) := (theR x).bind fun r => (gN hp r).bind fun q => some (r, q)
noncomputable def theK (hp : List AO) (x : AV) : Option (Nat × Nat × Nat × List AV) := (theN hp x).bind fun q => q.2.2.2.bind fun l => some (q.1, q.2.1, q.2.2.1, l)
noncomputable def theII (x y : AV) : Option (Int × Int) := (theI x).bind fun a => (theI y).bind fun b => some (a, b)
theorem theI_ok {x : AV} {i : Int} (h : theI x = some i) : x = .int i := by cases x <;> first | exact noneE h | (revert h; refine someC fun h => ?_; subst h; rfl)
theorem theS_ok {x : AV} {i : List Nat} (h : theS x = some i) : x = .str i := by cases x <;> first | exact noneE h | (revert h; refine someC fun h => ?_; subst h; rfl)
theorem theT_ok {x : AV} {i : List AV} (h : theT x = some i) : x = .tup i := by cases x <;> first | exact noneE h | (revert h; refine someC fun h => ?_; subst h; rfl)
theorem theR_ok {x : AV} {i : Nat} (h : theR x = some i) : x = .ref i := by cases x <;> first | exact noneE h | (revert h; refine someC fun h => ?_; subst h; rfl)
theorem gL_ok {hp : List AO} {i : Nat} {l : List AV} (h : gL hp i = some l) : hp[i]? = some (.list l) := by
  revert h
  refine bindE fun o ho h => ?_
  rw [gO_eq] at ho
  cases o <;> first | exact noneE h | (revert h; refine someC fun h => ?_; subst h; exact ho)
theorem gN_ok {hp : List AO} {i : Nat} {q : Nat × Nat × Option (List AV)} (h : gN hp i = some q) : hp[i]? = some (.inst q.1 q.2.1 q.2.2) := by
  revert h
  refine bindE fun o ho h => ?_
  rw [gO_eq] at ho
  cases o <;> first | exact noneE h | (revert h; refine someC fun h => ?_; subst h; exact ho)
theorem gD_ok {hp : List AO} {i : Nat} {q : List (Str × AV)} (h : gD hp i = some q) : hp[i]? = some (.dict q) := by
  revert h
  refine bindE fun o ho h => ?_
  rw [gO_eq] at ho
  cases o <;> first | exact noneE h | (revert h; refine someC fun h => ?_; subst h; exact ho)
theorem theL_ok {hp : List AO} {x : AV} {q : Nat × List AV} (h : theL hp x = some q) : x = .ref q.1 ∧ hp[q.1]? = some (.list q.2) := by
  revert h
  refine bindE fun r hr h => ?_
  revert h
  refine bindE fun l hl h => ?_
  revert h; refine pairC fun h1 h2 => ?_; subst h1; subst h2
  exact ⟨theR_ok hr, gL_ok hl⟩
theorem theN_ok {hp : List AO} {x : AV} {q : Nat × Nat × Nat × Option (List AV)} (h : theN hp x = some q) : x = .ref q.1 ∧ hp[q.1]? = some (.inst q.2.1 q.2.2.1 q.2.2.2) := by
  revert h
  refine bindE fun r hr h => ?_
  revert h
  refine bindE fun l hl h => ?_
  revert h; refine pairC fun h1 h2 => ?_; subst h1; subst h2
  exact ⟨theR_ok hr, gN_ok hl⟩
theorem theK_ok {hp : List AO} {x : AV} {q : Nat × Nat × Nat × List AV} (h : theK hp x = some q) : x = .ref q.1 ∧ hp[q.1]? = some (.inst q.2.1 q.2.2.1 (some q.2.2.2)) := by
  revert h
  refine bindE fun r hr h => ?_
  revert h
  refine bindE fun l hl h => ?_
  revert h; refine someC fun h => ?_; subst h
  refine ex0_2 (theN_ok hr) fun h1 h2 => ⟨h1, ?_⟩
  rw [h2, hl]
theorem theII_ok {x y : AV} {q : Int × Int} (h : theII x y = some q) : x = .int q.1 ∧ y = .int q.2 := by
  revert h
  refine bindE fun r hr h => ?_
  revert h
  refine bindE fun l hl h => ?_
  revert h; refine pairC fun h1 h2 => ?_; subst h1; subst h2
  exact ⟨theI_ok hr, theI_ok hl⟩
structure St where
  hp : List AO
  loc : List (Str × AV)
inductive Fl where
  | next
  | brk
  | cont
  | ret (v : AV)
noncomputable def lk {α : Type} (x : Str) (l : List (Str × α)) : Option α :=
  @List.rec (Str × α) (fun zz => Option α) Option.none (fun p zz ih => @Bool.rec (fun zz => Option α) ih (some p.2) (W.Fast.sEq x p.1)) l
theorem lk_nil {α : Type} (x : Str) : lk x ([] : List (Str × α)) = Option.none := rfl
theorem lk_cons {α : Type} (x : Str) (p : Str × α) (r : List (Str × α)) : lk x (p :: r) = bif W.Fast.sEq x p.1 then some p.2 else lk x r := by
  show @Bool.rec (fun zz => Option α) (lk x r) (some p.2) (W.Fast.sEq x p.1) = _
  cases W.Fast.sEq x p.1 <;> rfl
theorem sEq_beq (x y : Str) : W.Fast.sEq x y = (x == y) := by
  cases h : W.Fast.sEq x y with
  | true => rw [W.Fast.sEq_iff.mp h]; simp
  | false =>
    cases q : (x == y) with
    | false => rfl
    | true => rw [W.Fast.sEq_iff.mpr (eq_of_beq q)] at h; exact tfE h
theorem lk_eq {α : Type} (x : Str) : ∀ l : List (Str × α), lk x l = l.lookup x
  | [] => rfl
  | (y, v) :: r => by
    rw [lk_cons, List.lookup_cons, sEq_beq]
    cases h : (x == y) <;> simp [lk_eq x r]
noncomputable def pt {α : Type} (x : Str) (v : α) (l : List (Str × α)) : List (Str × α) :=
  @List.rec (Str × α) (fun zz => List (Str × α)) [(x, v)] (fun p r ih => @Bool.rec (fun zz => List (Str × α)) (p :: ih) ((p.1, v) :: r) (W.Fast.sEq x p.1)) l
theorem pt_nil {α : Type} (x : Str) (v : α) : pt x v [] = [(x, v)] := rfl
theorem pt_cons {α : Type} (x : Str) (v : α) (p : Str × α) (r : List (Str × α)) : pt x v (p :: r) = bif W.Fast.sEq x p.1 then (p.1, v) :: r else p :: pt x v r := by
  show @Bool.rec (fun zz => List (Str × α)) (p :: pt x v r) ((p.1, v) :: r) (W.Fast.sEq x p.1) = _
  cases W.Fast.sEq x p.1 <;> rfl
theorem sEq_no {x y : Str} (h : ¬ x = y) : W.Fast.sEq x y = false := by
  cases q : W.Fast.sEq x y with
  | false => rfl
  | true => exact absurd (W.Fast.sEq_iff.mp q) h
theorem lk_pt {α : Type} (x : Str) (v : α) (y : Str) : ∀ l : List (Str × α), lk y (pt x v l) = if y = x then some v else lk y l
  | [] => by
    rw [pt_nil, lk_cons, lk_nil]
    by_cases h : y = x
    · subst h; rw [W.Fast.sEq_iff.mpr rfl]; simp
    · rw [sEq_no h]; simp [h]
  | (z, u) :: r => by
    rw [pt_cons]
    cases h : W.Fast.sEq x z with
    | true =>
      have e := W.Fast.sEq_iff.mp h
      subst e
      simp only [cond_true]
      rw [lk_cons, lk_cons]
      by_cases q : y = x
      · subst q; rw [h]; simp
      · rw [sEq_no q]; simp [q]
    | false =>
      simp only [cond_false]
      rw [lk_cons, lk_cons, lk_pt x v y r]
      cases q : W.Fast.sEq y z with
      | true =>
        have e := W.Fast.sEq_iff.mp q
        subst e
        have : ¬ y = x := by rintro rfl; rw [q] at h; exact tfE h
        simp [this]
      | false => rfl
noncomputable abbrev tupOf (vs : List Value) (n : Nat) : Obj := { cls := .type "tuple", data := .seq vs.toArray n }
mutual
inductive VR (ρ : List Addr) (h : Heap) : AV → Value → Prop
  | none : VR ρ h .none .none
  | bool (b : Bool) : VR ρ h (.bool b) (.bool b)
  | int (i : Int) (t : Tok) : VR ρ h (.int i) (.int i t)
  | str (l : List Nat) (t : Tok) : VR ρ h (.str l) (.str ⟨l.toArray⟩ t)
  | ref (i : Nat) (a : Addr) : ρ[i]? = some a → VR ρ h (.ref i) (.ref a)
  | fn (a : Addr) : VR ρ h (.fn a) (.ref a)
  | cls (a : Addr) : VR ρ h (.cls a) (.ref a)
  | bi (b : BI) : VR ρ h (.bi b) b.val
  | rng (a b c : Int) (x : Addr) (t u v : Tok) : IsRange h x a b c t u v → VR ρ h (.rng a b c) (.ref x)
  | tup (l : List AV) (vs : List Value) (a : Addr) (n : Nat) : h.get? a = some (tupOf vs n) → VRs ρ h l vs → VR ρ h (.tup l) (.ref a)
inductive VRs (ρ : List Addr) (h : Heap) : List AV → List Value → Prop
  | nil : VRs ρ h [] []
  | cons (x : AV) (v : Value) (l : List AV) (vs : List Value) : VR ρ h x v → VRs ρ h l vs → VRs ρ h (x :: l) (v :: vs)
end
noncomputable def Imm (o : Obj) : Prop := ((o.cls = .type "tuple" ∨ o.cls = .type "range") ∧ (∀ es n, o.data ≠ .dict es n) ∧ ∀ u, o.data ≠ .cell u) ∨ ∃ vs q t, o.data = .fields vs ∧ vs[1]? = some (.str q t)
noncomputable def CellR (ρ : List Addr) (cs : List (Str × Nat)) (cl : List (Str × Addr)) : Prop := ∀ x i, lk x cs = some i → ∃ c, ρ[i]? = some c ∧ cl.lookup x = some c
noncomputable def LR (ρ : List Addr) (h : Heap) (m : List (Str × AV)) (f : Str → Option Value) : Prop :=
  ∀ x, (∀ v, lk x m = some v → ∃ u, f x = some u ∧ VR ρ h v u) ∧ (lk x m = Option.none → f x = Option.none)
noncomputable def LW (ρ : List Addr) (h : Heap) (m : List (Str × AV)) (f : Str → Option Value) : Prop :=
  ∀ x v, lk x m = some v → ∃ u, f x = some u ∧ VR ρ h v u
theorem LR.w {ρ : List Addr} {h : Heap} {m : List (Str × AV)} {f : Str → Option Value} (x : LR ρ h m f) : LW ρ h m f := fun y => (x y).1
noncomputable def OR (ρ : List Addr) (h : Heap) (a : Addr) : AO → Prop
  | .list l => ∃ vs n, h.get? a = some (listOf vs.toArray n) ∧ VRs ρ h l vs
  | .inst C d Option.none => ∃ dx, ρ[d]? = some dx ∧ h.get? a = some ⟨.ref C, some dx, .plain, #[]⟩
  | .inst C d (some l) => ∃ dx vs n, ρ[d]? = some dx ∧ h.get? a = some ⟨.ref C, some dx, .seq vs.toArray n, #[]⟩ ∧ VRs ρ h l vs
  | .dict m => ∃ es n, h.get? a = some (dictOf es n) ∧ (∀ e ∈ es, ∃ x t, e.key = .str x t) ∧ es.length ≤ m.length ∧ LR ρ h m (fun x => (es.find? (·.key.isStr x)).map (·.val))
  | .cell v => ∃ u, h.IsCell a u ∧ (match v, u with | Option.none, Option.none => True | some x, some y => VR ρ h x y | _, _ => False)
  | .rit l i => ∃ x o, ρ[l]? = some x ∧ h.get? a = some o ∧ o.cls = .type "list_reverseiterator" ∧ o.data = .fields #[.ref x, rawInt i]
  | .tab P q => a = P ∧ ∃ ps, h.get? a = some { cls := .none, data := .fields ps } ∧ TriplesOk ps.toList ∧ ∀ nm, q = some nm → ∀ pos c, codeAmong pos ps.toList = some c → h.CodeRec c nm
  | .clos r cs => ∃ o fd, h.get? a = some o ∧ o.cls = .type "function" ∧ o.data = .func fd ∧ fd.scope = r.scope ∧ fd.body = .stmts r.body ∧ fd.globals = mainGlobals ∧ fd.builtins = builtinsNs ∧ CellR ρ cs fd.closure ∧ h.CodeRec fd.code fd.qualname ∧
      ∀ (s : Shared) (vs : List Value), vs.length = r.pars.length → BindsTo s fd ⟨vs, []⟩ (r.pars.zip vs)
structure Inv (ρ : List Addr) (hp : List AO) (h : Heap) : Prop where
  len : ρ.length = hp.length
  nd : ρ.Nodup
  at_ : ∀ (i : Nat) (o : AO) (a : Addr), hp[i]? = some o → ρ[i]? = some a → OR ρ h a o
theorem prefix_get {α : Type} {l m : List α} (h : l <+: m) {i : Nat} {a : α} (e : l[i]? = some a) : m[i]? = some a := by
  revert h; refine fun h0 => ex1_1 h0 fun t Z1 => ?_; clear h0; subst Z1
  refine ex1_1 (List.getElem?_eq_some_iff.mp e) fun hl zz => ?_
  rw [List.getElem?_append_left hl]; exact e
theorem VRs.ind {ρ : List Addr} {h : Heap} {P : List AV → List Value → Prop} (h0 : P [] []) (h1 : ∀ x v l vs, VR ρ h x v → VRs ρ h l vs → P l vs → P (x :: l) (v :: vs)) {l : List AV} {vs : List Value} (V : VRs ρ h l vs) : P l vs :=
  VRs.rec (motive_1 := fun zz zz zz => True) (motive_2 := fun l vs zz => P l vs) trivial (fun zz => trivial) (fun zz zz => trivial) (fun zz zz => trivial) (fun zz zz zz => trivial) (fun zz => trivial) (fun zz => trivial) (fun zz => trivial) (fun zz zz zz zz zz zz zz zz => trivial) (fun zz zz zz zz zz zz zz => trivial) h0 (fun x v l vs a r zz ih => h1 x v l vs a r ih) V
theorem VRs.length {ρ : List Addr} {h : Heap} {l : List AV} {vs : List Value} (V : VRs ρ h l vs) : l.length = vs.length := VRs.ind (P := fun l vs => l.length = vs.length) rfl (fun zz zz zz zz zz zz ih => congrArg Nat.succ ih) V
theorem imTup {vs : List Value} {n : Nat} : Imm (tupOf vs n) := .inl ⟨.inl rfl, fun zz zz q => (by cases q), fun zz q => (by cases q)⟩
theorem VR.mono {ρ ρ' : List Addr} {h h' : Heap} (p : ρ <+: ρ') (k : ∀ a o, h.get? a = some o → Imm o → h'.get? a = some o) {x : AV} {v : Value} (V : VR ρ h x v) : VR ρ' h' x v :=
  VR.rec (motive_1 := fun x v zz => VR ρ' h' x v) (motive_2 := fun l vs zz => VRs ρ' h' l vs) .none .bool .int .str (fun i a e => .ref i a (prefix_get p e)) .fn .cls .bi (fun a b c x t u v e => .rng a b c x t u v (k _ _ e (.inl ⟨.inr rfl, fun zz zz q => (by cases q), fun zz q => (by cases q)⟩)))
    (fun l vs a n e zz ih => .tup l vs a n (k _ _ e imTup) ih) .nil (fun x v l vs zz zz a b => .cons x v l vs a b) V
theorem VRs.mono {ρ ρ' : List Addr} {h h' : Heap} (p : ρ <+: ρ') (k : ∀ a o, h.get? a = some o → Imm o → h'.get? a = some o) {l : List AV} {vs : List Value} (V : VRs ρ h l vs) : VRs ρ' h' l vs :=
  VRs.ind (P := fun l vs => VRs ρ' h' l vs) .nil (fun x v l vs a zz b => .cons x v l vs (a.mono p k) b) V
theorem LR.mono {ρ ρ' : List Addr} {h h' : Heap} (p : ρ <+: ρ') (k : ∀ a o, h.get? a = some o → Imm o → h'.get? a = some o) {m : List (Str × AV)} {f : Str → Option Value} (x : LR ρ h m f) : LR ρ' h' m f :=
  fun y => ⟨fun v e => let ⟨u, a, b⟩ := (x y).1 v e; ⟨u, a, b.mono p k⟩, (x y).2⟩
theorem CodeRec.imm {h h' : Heap} (k : ∀ a o, h.get? a = some o → Imm o → h'.get? a = some o) {c : Value} {q : Str} (x : h.CodeRec c q) : h'.CodeRec c q :=
  let ⟨c', o, vs, t, e1, e2, e3, e4⟩ := x; ⟨c', o, vs, t, e1, k _ _ e2 (.inr ⟨vs, q, t, e3, e4⟩), e3, e4⟩
theorem CellR.mono {ρ ρ' : List Addr} (p : ρ <+: ρ') {cs : List (Str × Nat)} {cl : List (Str × Addr)} (x : CellR ρ cs cl) : CellR ρ' cs cl := fun y i e => let ⟨c, a, b⟩ := x y i e; ⟨c, prefix_get p a, b⟩
theorem LW.mono {ρ ρ' : List Addr} {h h' : Heap} (p : ρ <+: ρ') (k : ∀ a o, h.get? a = some o → Imm o → h'.get? a = some o) {m : List (Str × AV)} {f : Str → Option Value} (x : LW ρ h m f) : LW ρ' h' m f :=
  fun y v e => let ⟨u, a, b⟩ := x y v e; ⟨u, a, b.mono p k⟩
theorem OR.mono {ρ ρ' : List Addr} {h h' : Heap} (p : ρ <+: ρ') (k : ∀ a o, h.get? a = some o → Imm o → h'.get? a = some o) {a : Addr} (e : h'.get? a = h.get? a) {o : AO} (O : OR ρ h a o) : OR ρ' h' a o := by
  cases o with
  | list l => exact ex2_2 O fun vs n x y => ⟨vs, n, e.trans x, y.mono p k⟩
  | inst C d its =>
    cases its with
    | none => exact ex1_2 O fun dx x y => ⟨dx, prefix_get p x, e.trans y⟩
    | some l => exact ex3_3 O fun dx vs n x y z => ⟨dx, vs, n, prefix_get p x, e.trans y, z.mono p k⟩
  | dict m => exact ex2_4 O fun es n x y z u => ⟨es, n, e.trans x, y, z, u.mono p k⟩
  | cell v =>
    refine ex1_2 O fun u x y => ⟨u, ex1_2 x fun o p q => ⟨o, e.trans p, q⟩, ?_⟩
    cases v <;> cases u <;> first | exact y | exact VR.mono p k y
  | rit l i => exact ex2_3 O fun x o y z u => ⟨x, o, prefix_get p y, e.trans z, u⟩
  | tab P q => exact ex0_2 O fun ep r => ex1_3 r fun ps x y z => ⟨ep, ps, e.trans x, y, fun nm q pos c r => CodeRec.imm k (z nm q pos c r)⟩
  | clos r cs => exact ex2_6 O fun o fd x c d s1 s2 r => ex0_5 r fun s3 s4 cl cd b => ⟨o, fd, e.trans x, c, d, s1, s2, s3, s4, cl.mono p, CodeRec.imm k cd, b⟩
noncomputable def tyB (v : Value) : Bool := match v with
  | .type n => n == "tuple" || n == "range"
  | _ => false
noncomputable def strB (v : Option Value) : Bool := match v with
  | some (.str _ _) => true
  | _ => false
noncomputable def fldB (d : Data) : Bool := match d with
  | .fields vs => strB vs[1]?
  | _ => false
theorem notImmC {o : Obj} {c : Value} {d : Data} (hc : o.cls = c) (hd : o.data = d) (h1 : tyB c = false) (h2 : fldB d = false) : ¬ Imm o := fun q => by
  subst hc; subst hd
  rcases q with ⟨q, _⟩ | ⟨vs, q, t, e, r⟩
  · rcases q with q | q <;> rw [q] at h1 <;> exact tfE h1
  · rw [e] at h2
    change strB vs[1]? = false at h2
    rw [r] at h2
    exact tfE h2
theorem notImmB {c : Value} {k : Option Addr} {d : Data} {sl : Array (Option Value)} (h1 : tyB c = false) (h2 : fldB d = false) : ¬ Imm ⟨c, k, d, sl⟩ := notImmC rfl rfl h1 h2
theorem notImmE {h : Heap} {a : Addr} {o o' : Obj} (e : h.get? a = some o') (x : h.get? a = some o) (n : ¬ Imm o) : ¬ Imm o' := by
  cases e.symm.trans x
  exact n
theorem OR.noImm {ρ : List Addr} {h : Heap} {a : Addr} {o' : Obj} (e : h.get? a = some o') {o : AO} (O : OR ρ h a o) : ¬ Imm o' := by
  cases o with
  | list l => exact ex2_2 O fun vs n x zz => notImmE e x (notImmB rfl rfl)
  | inst C d its =>
    cases its with
    | none => exact ex1_2 O fun dx zz y => notImmE e y (notImmB rfl rfl)
    | some l => exact ex3_3 O fun dx vs n zz y zz => notImmE e y (notImmB rfl rfl)
  | dict m => exact ex2_4 O fun es n x zz zz zz => notImmE e x (notImmB rfl rfl)
  | cell v =>
    refine ex1_2 O fun u x zz => ex1_2 x fun o x y => notImmE e x fun q => ?_
    rcases q with q | ⟨_, _, _, q, _⟩
    · exact q.2.2 _ y
    · rw [y] at q; cases q
  | rit l i => exact ex2_4 O fun x o zz z c d => notImmE e z (notImmC c d rfl rfl)
  | tab P q =>
    refine ex0_2 O fun zz r => ex1_3 r fun ps x y zz => notImmE e x (notImmC rfl rfl rfl ?_)
    obtain ⟨l⟩ := ps
    rcases l with _ | ⟨v1, _ | ⟨v2, l⟩⟩
    · rfl
    · rfl
    · show strB (some v2) = false
      cases v2 <;> first | rfl | skip
      cases v1 <;> cases l <;> exact y.elim
  | clos r cs => exact ex2_4 O fun o fd x c d zz => notImmE e x (notImmC c d rfl rfl)
theorem OR.some {ρ : List Addr} {h : Heap} {a : Addr} {o : AO} (O : OR ρ h a o) : (h.get? a).isSome = true := by
  have k : ∀ {o'}, h.get? a = Option.some o' → (h.get? a).isSome = true := fun e => by rw [e]; rfl
  cases o with
  | list l => exact ex2_2 O fun vs n x zz => k x
  | inst C d its =>
    cases its with
    | none => exact ex1_2 O fun dx zz y => k y
    | some l => exact ex3_3 O fun dx vs n zz y zz => k y
  | dict m => exact ex2_4 O fun es n x zz zz zz => k x
  | cell v => exact ex1_2 O fun u x zz => ex1_2 x fun o x zz => k x
  | rit l i => exact ex2_4 O fun x o zz z zz zz => k z
  | tab P q => exact ex0_2 O fun zz r => ex1_3 r fun ps x zz zz => k x
  | clos r cs => exact ex2_4 O fun o fd x zz zz zz => k x
theorem Ns.noImm {h : Heap} {a : Addr} {f : Str → Option Value} {o : Obj} (N : h.Ns a f) (e : h.get? a = Option.some o) : ¬ Imm o := by
  revert N; refine fun h0 => ex3_3 h0 fun o' es ep ho hd zz => ?_; clear h0
  cases e.symm.trans ho
  rintro (q | ⟨_, _, _, q, _⟩)
  · exact q.2.1 _ _ hd
  · rw [hd] at q; cases q
theorem Inv.off {ρ : List Addr} {hp : List AO} {h : Heap} (I : Inv ρ hp h) {a : Addr} (ha : a ∈ ρ) : ∃ (i : Nat) (o : AO), ρ[i]? = Option.some a ∧ hp[i]? = Option.some o ∧ OR ρ h a o := by
  obtain ⟨i, hi, e⟩ := List.mem_iff_getElem.mp ha
  have hi' : i < hp.length := I.len ▸ hi
  exact ⟨i, hp[i], by rw [List.getElem?_eq_getElem hi, e], List.getElem?_eq_getElem hi', I.at_ i _ a (List.getElem?_eq_getElem hi') (by rw [List.getElem?_eq_getElem hi, e])⟩
theorem Inv.immOff {ρ : List Addr} {hp : List AO} {h : Heap} (I : Inv ρ hp h) {a : Addr} {o : Obj} (e : h.get? a = Option.some o) (im : Imm o) : a ∉ ρ := fun ha => by
  refine ex2_3 (I.off ha) fun zz zz zz zz x => ?_
  exact x.noImm e im
structure Rel (hT : Heap) (ρ : List Addr) (L : Addr) (σ : St) (h : Heap) : Prop where
  inv : Inv ρ σ.hp h
  ns : ∃ f, h.Ns L f ∧ LW ρ h σ.loc f
  keep : ∀ b o, hT.get? b = Option.some o → h.get? b = Option.some o
  off : ∀ a ∈ ρ, hT.get? a = Option.none
  offL : L ∉ ρ
  above : hT.objs.size ≤ L
structure Step (X : List Addr) (ρ : List Addr) (h : Heap) (ρ' : List Addr) (h' : Heap) : Prop where
  pre : ρ <+: ρ'
  fm : ∀ b o, h.get? b = Option.some o → b ∉ ρ → b ∉ X → h'.get? b = Option.some o
  live : ∀ b, (h.get? b).isSome = true → (h'.get? b).isSome = true
  fresh : ∀ a ∈ ρ', a ∉ ρ → h.get? a = Option.none
theorem Step.refl (X ρ : List Addr) (h : Heap) : Step X ρ h ρ h := ⟨List.prefix_refl _, fun zz zz e zz zz => e, fun zz e => e, fun zz a b => absurd a b⟩
theorem Step.trans {X ρ ρ₁ ρ₂ : List Addr} {h h₁ h₂ : Heap} (a : Step X ρ h ρ₁ h₁) (b : Step X ρ₁ h₁ ρ₂ h₂) : Step X ρ h ρ₂ h₂ where
  pre := a.pre.trans b.pre
  fm := fun x o e n1 n2 => b.fm x o (a.fm x o e n1 n2) (fun q => by have := a.fresh x q n1; rw [this] at e; exact noneE e) n2
  live := fun x e => b.live x (a.live x e)
  fresh := fun x hx n1 => by
    by_cases q : x ∈ ρ₁
    · exact a.fresh x q n1
    · have := b.fresh x hx q
      cases z : h.get? x with
      | none => rfl
      | some o => have y := a.live x (by rw [z]; rfl); rw [this] at y; exact ftE y
theorem Step.wide {X Y ρ ρ' : List Addr} {h h' : Heap} (a : Step X ρ h ρ' h') (s : ∀ b ∈ X, b ∈ Y) : Step Y ρ h ρ' h' :=
  ⟨a.pre, fun b o e n1 n2 => a.fm b o e n1 fun q => n2 (s b q), a.live, a.fresh⟩
theorem Step.drop {X Y ρ ρ' : List Addr} {h h' : Heap} (a : Step Y ρ h ρ' h') (s : ∀ b ∈ Y, b ∈ X ∨ h.get? b = Option.none) : Step X ρ h ρ' h' :=
  ⟨a.pre, fun b o e n1 n2 => a.fm b o e n1 fun q => (s b q).elim n2 fun z => (by rw [z] at e; exact noneE e), a.live, a.fresh⟩
theorem Rel.immOff {hT : Heap} {ρ : List Addr} {L : Addr} {σ : St} {h : Heap} (R : Rel hT ρ L σ h) {a : Addr} {o : Obj} (e : h.get? a = Option.some o) (im : Imm o) : a ∉ ρ ∧ a ≠ L :=
  ⟨R.inv.immOff e im, fun q => by refine ex1_2 R.ns fun f hf zz => ?_; exact Ns.noImm (q ▸ hf) e im⟩
theorem Step.imm {hT : Heap} {ρ ρ' : List Addr} {L : Addr} {σ : St} {h h' : Heap} (a : Step [L] ρ h ρ' h') (R : Rel hT ρ L σ h) {x : Addr} {o : Obj} (e : h.get? x = Option.some o) (im : Imm o) : h'.get? x = Option.some o :=
  a.fm _ _ e (R.immOff e im).1 (by simp only [List.mem_singleton]; exact (R.immOff e im).2)
theorem Step.vr {hT : Heap} {ρ ρ' : List Addr} {L : Addr} {σ : St} {h h' : Heap} (a : Step [L] ρ h ρ' h') (R : Rel hT ρ L σ h) {x : AV} {v : Value} (V : VR ρ h x v) : VR ρ' h' x v :=
  V.mono a.pre fun zz zz e im => a.imm R e im
theorem Step.vrs {hT : Heap} {ρ ρ' : List Addr} {L : Addr} {σ : St} {h h' : Heap} (a : Step [L] ρ h ρ' h') (R : Rel hT ρ L σ h) {x : List AV} {v : List Value} (V : VRs ρ h x v) : VRs ρ' h' x v :=
  V.mono a.pre fun zz zz e im => a.imm R e im
section
variable {hT : Heap} {ρ : List Addr} {L : Addr} {σ : St} {h h' : Heap}
theorem Step.grow (k : ∀ b o, h.get? b = Option.some o → b ≠ L → h'.get? b = Option.some o) (kl : (h'.get? L).isSome = true) : Step [L] ρ h ρ h' :=
  ⟨List.prefix_refl _, fun b o e zz n => k b o e fun q => n (by rw [q]; exact List.mem_singleton.mpr rfl), fun b e => by
    by_cases q : b = L
    · rw [q]; exact kl
    · cases z : h.get? b with
      | none => rw [z] at e; exact ftE e
      | some o => rw [k b o z q]; rfl, fun zz a b => absurd a b⟩
theorem Ns.live {h : Heap} {a : Addr} {f : Str → Option Value} (N : h.Ns a f) : (h.get? a).isSome = true := by
  revert N; refine fun h0 => ex3_2 h0 fun o zz zz ho zz => ?_; clear h0
  rw [ho]; rfl
theorem Rel.grow (R : Rel hT ρ L σ h) (k : ∀ b o, h.get? b = Option.some o → b ≠ L → h'.get? b = Option.some o) (kn : ∃ f, h'.Ns L f ∧ LW ρ h σ.loc f) : Rel hT ρ L σ h' where
  inv := ⟨R.inv.len, R.inv.nd, fun i o a e1 e2 => by
    have x := R.inv.at_ i o a e1 e2
    refine x.mono (List.prefix_refl _) (fun zz zz e im => k _ _ e (R.immOff e im).2) ?_
    cases z : h.get? a with
    | none => have := x.some; rw [z] at this; exact ftE this
    | some o => exact k _ _ z fun q => R.offL (q ▸ List.mem_of_getElem? e2)⟩
  ns := let ⟨f, a, b⟩ := kn; ⟨f, a, b.mono (List.prefix_refl _) fun zz zz e im => k _ _ e (R.immOff e im).2⟩
  keep := fun b o e => k _ _ (R.keep b o e) fun q => absurd (Heap.lt_size e) (Nat.not_lt.mpr (q ▸ R.above))
  off := R.off
  offL := R.offL
  above := R.above
theorem Step.new {D : Addr} (k : ∀ b o, h.get? b = Option.some o → b ≠ L → h'.get? b = Option.some o) (kl : (h'.get? L).isSome = true) (hD : h.get? D = Option.none) : Step [L] ρ h (ρ ++ [D]) h' :=
  ⟨⟨[D], rfl⟩, (Step.grow (L := L) (ρ := ρ) k kl).fm, (Step.grow (L := L) (ρ := ρ) k kl).live, fun a ha hn => by
    rcases List.mem_append.mp ha with q | q
    · exact absurd q hn
    · rw [List.mem_singleton.mp q]; exact hD⟩
set_option tactic.hygienic true in
theorem get_snoc {α : Type} {l : List α} {x : α} {i : Nat} {y : α} (e : (l ++ [x])[i]? = Option.some y) : l[i]? = Option.some y ∨ (i = l.length ∧ x = y) := by
  rw [List.getElem?_append] at e
  split at e
  · exact .inl e
  · rename_i hn
    right
    cases q : i - l.length with
    | zero => rw [q] at e; exact ⟨by omega, by simpa using e⟩
    | succ n => rw [q] at e; simp at e
theorem Rel.new (R : Rel hT ρ L σ h) {D : Addr} {o : AO} (k : ∀ b o, h.get? b = Option.some o → b ≠ L → h'.get? b = Option.some o) (kn : ∃ f, h'.Ns L f ∧ LW ρ h σ.loc f) (hD : h.get? D = Option.none) (ho : OR (ρ ++ [D]) h' D o) : Rel hT (ρ ++ [D]) L ⟨σ.hp ++ [o], σ.loc⟩ h' := by
  have nD : D ∉ ρ := fun q => by
    refine ex2_3 (R.inv.off q) fun zz zz zz zz x => ?_
    have := x.some; rw [hD] at this; exact ftE this
  refine ⟨⟨by simp [R.inv.len], ?_, fun i o' a e1 e2 => ?_⟩, ?_, (R.grow k kn).keep, fun a ha => ?_, fun q => ?_, R.above⟩
  · rw [List.nodup_append]
    exact ⟨R.inv.nd, by simp, fun x hx y hy => by rw [List.mem_singleton.mp hy]; rintro rfl; exact nD hx⟩
  · rcases get_snoc e1 with q1 | ⟨q1, rfl⟩
    · rcases get_snoc e2 with q2 | ⟨q2, rfl⟩
      · have x := R.inv.at_ i o' a q1 q2
        refine x.mono ⟨[D], rfl⟩ (fun zz zz e im => k _ _ e (R.immOff e im).2) ?_
        cases z : h.get? a with
        | none => have := x.some; rw [z] at this; exact ftE this
        | some o => exact k _ _ z fun q => R.offL (q ▸ List.mem_of_getElem? q2)
      · have hl := (List.getElem?_eq_some_iff.mp q1).1
        have := R.inv.len
        omega
    · rcases get_snoc e2 with q2 | ⟨_, rfl⟩
      · have hl := (List.getElem?_eq_some_iff.mp q2).1
        have := R.inv.len
        omega
      · exact ho
  · revert kn; refine fun h0 => ex1_2 h0 fun f a b => ?_; clear h0
    exact ⟨f, a, b.mono ⟨[D], rfl⟩ fun zz zz e im => k _ _ e (R.immOff e im).2⟩
  · rcases List.mem_append.mp ha with q | q
    · exact R.off a q
    · rw [List.mem_singleton.mp q]
      cases z : hT.get? D with
      | none => rfl
      | some o => have := R.keep _ _ z; rw [hD] at this; exact noneE this
  · rcases List.mem_append.mp q with q | q
    · exact R.offL q
    · obtain ⟨f, ⟨oL, _, _, hL, _⟩, _⟩ := R.ns
      rw [List.mem_singleton.mp q, hD] at hL; exact noneE hL
theorem Step.put {a : Addr} (ha : a ∈ ρ) (hs : Heap.SameBut a h h') (hl : (h'.get? a).isSome = true) : Step [L] ρ h ρ h' :=
  ⟨List.prefix_refl _, fun b o e n zz => (hs.2 b fun q => n (q ▸ ha)).trans e, fun b e => by
    by_cases q : b = a
    · rw [q]; exact hl
    · rw [hs.2 b q]; exact e, fun zz a b => absurd a b⟩
theorem Rel.put (R : Rel hT ρ L σ h) {i : Nat} {a : Addr} {o : AO} (ha : ρ[i]? = Option.some a) (hs : Heap.SameBut a h h') (ho : OR ρ h' a o) : Rel hT ρ L ⟨σ.hp.set i o, σ.loc⟩ h' := by
  have hm := List.mem_of_getElem? ha
  have tk : ∀ x o, h.get? x = Option.some o → Imm o → h'.get? x = Option.some o := fun x o e im => (hs.2 x fun q => R.inv.immOff e im (q ▸ hm)).trans e
  refine ⟨⟨by simp [R.inv.len], R.inv.nd, fun j o' b e1 e2 => ?_⟩, ?_, fun b o e => ?_, R.off, R.offL, R.above⟩
  · by_cases q : i = j
    · subst q
      obtain rfl : a = b := Option.some.inj (ha.symm.trans e2)
      have hl := (List.getElem?_eq_some_iff.mp e1).1
      rw [List.getElem?_set_self (by simpa using hl)] at e1
      revert e1; refine someC fun h => ?_; subst h
      exact ho
    · rw [List.getElem?_set_ne q] at e1
      have x := R.inv.at_ j o' b e1 e2
      have nb : b ≠ a := by
        rintro rfl
        exact q ((List.getElem?_inj (List.getElem?_eq_some_iff.mp ha).1 R.inv.nd).mp (ha.trans e2.symm))
      exact x.mono (List.prefix_refl _) tk (hs.2 b nb)
  · refine ex1_2 R.ns fun f x y => ?_
    exact ⟨f, x.sameBut hs fun q => R.offL (q ▸ hm), y.mono (List.prefix_refl _) tk⟩
  · exact (hs.2 b fun q => by rw [q, R.off a hm] at e; exact noneE e).trans (R.keep b o e)
theorem Step.loc (hs : Heap.SameBut L h h') (hl : (h'.get? L).isSome = true) : Step [L] ρ h ρ h' :=
  ⟨List.prefix_refl _, fun b o e zz n => (hs.2 b fun q => n (by rw [q]; exact List.mem_singleton.mpr rfl)).trans e, fun b e => by
    by_cases q : b = L
    · rw [q]; exact hl
    · rw [hs.2 b q]; exact e, fun zz a b => absurd a b⟩
theorem Rel.loc (R : Rel hT ρ L σ h) {x : Str} {v : AV} {u : Value} (V : VR ρ h v u) (hs : Heap.SameBut L h h') (hn : ∀ f, h.Ns L f → LW ρ h σ.loc f → h'.Ns L (fun y => if y = x then Option.some u else f y)) : Rel hT ρ L ⟨σ.hp, pt x v σ.loc⟩ h' := by
  refine ex1_2 R.ns fun f F G => ?_
  have tk : ∀ x o, h.get? x = Option.some o → Imm o → h'.get? x = Option.some o := fun x o e im => (hs.2 x (R.immOff e im).2).trans e
  refine ⟨⟨R.inv.len, R.inv.nd, fun i o a e1 e2 => ?_⟩, ⟨_, hn f F G, fun y => ?_⟩, fun b o e => ?_, R.off, R.offL, R.above⟩
  · have z := R.inv.at_ i o a e1 e2
    exact z.mono (List.prefix_refl _) tk (hs.2 a fun q => R.offL (q ▸ List.mem_of_getElem? e2))
  · rw [lk_pt]
    by_cases q : y = x
    · subst q
      rw [if_pos rfl, if_pos rfl]
      exact fun v' e => ⟨u, rfl, by revert e; refine someC fun h => ?_; subst h; exact V.mono (List.prefix_refl _) tk⟩
    · rw [if_neg q, if_neg q]
      exact G.mono (List.prefix_refl _) tk y
  · refine (hs.2 b fun q => ?_).trans (R.keep b o e)
    subst q
    exact absurd (Heap.lt_size e) (Nat.not_lt.mpr R.above)
noncomputable def allN (hT : Heap) (L : Addr) (h : Heap) : List (Addr × Obj) :=
  (List.range h.objs.size).filterMap fun a => if a = L ∨ (hT.get? a).isSome = true then Option.none else (h.get? a).map fun o => (a, o)
set_option tactic.hygienic true in
theorem mem_allN {p : Addr × Obj} : p ∈ allN hT L h ↔ h.get? p.1 = Option.some p.2 ∧ p.1 ≠ L ∧ hT.get? p.1 = Option.none := by
  unfold allN
  rw [List.mem_filterMap]
  constructor
  · rintro ⟨a, _, e⟩
    split at e
    · exact noneE e
    · rename_i n
      refine ex1_2 (Option.map_eq_some_iff.mp e) fun o ho Z1 => ?_; subst Z1
      refine ⟨ho, fun q => n (.inl q), ?_⟩
      cases z : hT.get? a with
      | none => rfl
      | some _ => exact absurd (.inr (by rw [z]; rfl)) n
  · rintro ⟨e, n1, n2⟩
    refine ⟨p.1, List.mem_range.mpr (Heap.lt_size e), ?_⟩
    rw [if_neg (by rintro (q | q); exact n1 q; rw [n2] at q; exact ftE q), e]
    rfl
theorem Rel.opened (R : Rel hT ρ L σ h) : ∃ f, Fr hT L h f ∧ News hT L h (allN hT L h) ∧ LW ρ h σ.loc f := by
  refine ex1_2 R.ns fun f F G => ?_
  exact ⟨f, ⟨F, R.keep, R.above⟩, fun p hp => mem_allN.mp hp, G⟩
theorem kept_of (R : Rel hT ρ L σ h) {f : Str → Option Value} {ns : List (Addr × Obj)} (F : Fr hT L h' f) (N : News hT L h' ns) (s : ∀ p ∈ allN hT L h, p ∈ ns) : ∀ b o, h.get? b = Option.some o → b ≠ L → h'.get? b = Option.some o := fun b o e n => by
  cases z : hT.get? b with
  | none => exact (N (b, o) (s _ (mem_allN.mpr ⟨e, n, z⟩))).1
  | some o' =>
    have := R.keep _ _ z
    rw [e] at this
    revert this; refine someC fun h => ?_; subst h
    exact F.keep _ _ z
theorem Rel.back (R : Rel hT ρ L σ h) {f : Str → Option Value} {ns : List (Addr × Obj)} (F : Fr hT L h' f) (G : LW ρ h σ.loc f) (N : News hT L h' ns) (s : ∀ p ∈ allN hT L h, p ∈ ns) : Step [L] ρ h ρ h' ∧ Rel hT ρ L σ h' :=
  ⟨Step.grow (kept_of R F N s) (Ns.live F.ns), R.grow (kept_of R F N s) ⟨f, F.ns, G⟩⟩
theorem Rel.backNew (R : Rel hT ρ L σ h) {f : Str → Option Value} {ns : List (Addr × Obj)} {D : Addr} {o : AO} (F : Fr hT L h' f) (G : LW ρ h σ.loc f) (N : News hT L h' ns) (s : ∀ p ∈ allN hT L h, p ∈ ns) (lt : ∀ p ∈ allN hT L h, p.1 < D)
    (hn : hT.get? D = Option.none) (hl : D ≠ L) (ho : OR (ρ ++ [D]) h' D o) : Step [L] ρ h (ρ ++ [D]) h' ∧ Rel hT (ρ ++ [D]) L ⟨σ.hp ++ [o], σ.loc⟩ h' := by
  have hD : h.get? D = Option.none := by
    cases z : h.get? D with
    | none => rfl
    | some x => exact absurd (lt (D, x) (mem_allN.mpr ⟨z, hl, hn⟩)) (Nat.lt_irrefl _)
  exact ⟨Step.new (kept_of R F N s) (Ns.live F.ns) hD, R.new (kept_of R F N s) ⟨f, F.ns, G⟩ hD ho⟩
end
end Mine
namespace Mine
section
variable {ρ : List Addr} {h : Heap} {v : Value} {P : Prop}
theorem vrNone (k : v = .none → P) (x : VR ρ h .none v) : P := by cases (x); exact k rfl
theorem vrBool {b : Bool} (k : v = .bool b → P) (x : VR ρ h (.bool b) v) : P := by cases (x); exact k rfl
theorem vrInt {i : Int} (k : ∀ t, v = .int i t → P) (x : VR ρ h (.int i) v) : P := by cases (x); exact k _ rfl
theorem vrStr {l : List Nat} (k : ∀ t, v = .str ⟨l.toArray⟩ t → P) (x : VR ρ h (.str l) v) : P := by cases (x); exact k _ rfl
theorem vrRef {i : Nat} (k : ∀ a, ρ[i]? = some a → v = .ref a → P) (x : VR ρ h (.ref i) v) : P := by cases (x); exact k _ ‹_› rfl
theorem vrRef' {i : Nat} (x : VR ρ h (.ref i) v) (k : ∀ a, ρ[i]? = some a → v = .ref a → P) : P := vrRef k x
theorem vrFn {a : Addr} (k : v = .ref a → P) (x : VR ρ h (.fn a) v) : P := by cases (x); exact k rfl
theorem vrCls {a : Addr} (k : v = .ref a → P) (x : VR ρ h (.cls a) v) : P := by cases (x); exact k rfl
theorem vrBi {b : BI} (k : v = b.val → P) (x : VR ρ h (.bi b) v) : P := by cases (x); exact k rfl
theorem vrRng {a b c : Int} (k : ∀ x t u w, IsRange h x a b c t u w → v = .ref x → P) (x : VR ρ h (.rng a b c) v) : P := by cases (x); exact k _ _ _ _ ‹_› rfl
theorem vrTup {l : List AV} (k : ∀ vs a n, h.get? a = some (tupOf vs n) → VRs ρ h l vs → v = .ref a → P) (x : VR ρ h (.tup l) v) : P := by cases (x); exact k _ _ _ ‹_› ‹_› rfl
theorem vrsNil {ws : List Value} (k : ws = [] → P) (x : VRs ρ h [] ws) : P := by cases (x); exact k rfl
theorem vrsCons {x : AV} {l : List AV} {ws : List Value} (k : ∀ v vs, VR ρ h x v → VRs ρ h l vs → ws = v :: vs → P) (z : VRs ρ h (x :: l) ws) : P := by cases (z); exact k _ _ ‹_› ‹_› rfl
end
end Mine
namespace Mine
structure Ok (s s' : Shared) : Prop where
  os : s'.os = s.os
  gens : AllBare s.gens → AllBare s'.gens
theorem Ok.refl (s : Shared) : Ok s s := ⟨rfl, id⟩
theorem Ok.trans {s s₁ s₂ : Shared} (a : Ok s s₁) (b : Ok s₁ s₂) : Ok s s₂ := ⟨b.os.trans a.os, fun x => b.gens (a.gens x)⟩
theorem Ok.heap (s : Shared) (h : Heap) (t : Nat) : Ok s { s with heap := h, toks := t } := ⟨rfl, id⟩
structure Cx (A : Around) (n : Nat) : Prop where
  depth : A.depth + 2 * n < recursionLimit
  units : A.units + 16 * n + 16 < cLine
  hd : A.handled = Option.none
theorem Cx.le {A : Around} {n k : Nat} (c : Cx A n) (h : k ≤ n) : Cx A k := ⟨by have := c.depth; omega, by have := c.units; omega, c.hd⟩
section
variable (prog : Program) (w : World) (hT : Heap)
noncomputable def Post {α : Type} (L : Addr) (ρ : List Addr) (s : Shared) (σ' : St) (P : List Addr → Heap → α → Prop) : α → Shared → Prop :=
  fun a s' => ∃ ρ', Step [L] ρ s.heap ρ' s'.heap ∧ Rel hT ρ' L σ' s'.heap ∧ Ok s s' ∧ P ρ' s'.heap a
theorem Post.mk {hT : Heap} {α : Type} {L : Addr} {ρ ρ' : List Addr} {s s' : Shared} {σ' : St} {P : List Addr → Heap → α → Prop} {a : α} (S : Step [L] ρ s.heap ρ' s'.heap) (R : Rel hT ρ' L σ' s'.heap) (O : Ok s s') (p : P ρ' s'.heap a) : Post hT L ρ s σ' P a s' := ⟨ρ', S, R, O, p⟩
theorem postE {hT : Heap} {α : Type} {L : Addr} {ρ : List Addr} {s s' : Shared} {σ' : St} {P : List Addr → Heap → α → Prop} {a : α} {Q : Prop} (k : ∀ ρ', Step [L] ρ s.heap ρ' s'.heap → Rel hT ρ' L σ' s'.heap → Ok s s' → P ρ' s'.heap a → Q) (h : Post hT L ρ s σ' P a s') : Q := by
  revert h; refine fun h0 => ex1_4 h0 fun ρ' S R O p => ?_; clear h0
  exact k ρ' S R O p
noncomputable def No : Value → Shared → Prop := fun zz zz => False
noncomputable abbrev Tri {α : Type} (A : Around) (L : Addr) (ρ : List Addr) (s : Shared) (t : Sem α) (σ' : St) (P : List Addr → Heap → α → Prop) : Prop :=
  wpAny (model prog w) A t (Post hT L ρ s σ' P) No s
end
section
variable {prog : Program} {w : World} {hT : Heap} {A : Around} {L : Addr} {ρ : List Addr} {s : Shared} {α β : Type} {σ σ' σ₁ : St}
theorem Tri.nx {t : Sem α} {P : List Addr → Heap → α → Prop} {Q : α → Shared → Prop} (x : Tri prog w hT A L ρ s t σ₁ P)
    (h : ∀ ρ₁ s₁ a, Step [L] ρ s.heap ρ₁ s₁.heap → Rel hT ρ₁ L σ₁ s₁.heap → Ok s s₁ → P ρ₁ s₁.heap a → Q a s₁) : wpAny (model prog w) A t Q No s :=
  wpAny_mono x (fun _ _ ⟨ρ₁, a, b, c, d⟩ => h ρ₁ _ _ a b c d) fun zz zz e => e
theorem Tri.lift {ρ₁ : List Addr} {s₁ : Shared} {t : Sem α} {P : List Addr → Heap → α → Prop} (S : Step [L] ρ s.heap ρ₁ s₁.heap) (O : Ok s s₁) (x : Tri prog w hT A L ρ₁ s₁ t σ' P) : wpAny (model prog w) A t (Post hT L ρ s σ' P) No s₁ :=
  wpAny_mono x (fun _ _ ⟨ρ₂, a, b, c, d⟩ => ⟨ρ₂, S.trans a, b, O.trans c, d⟩) fun zz zz e => e
theorem Post.same {P : List Addr → Heap → α → Prop} {a : α} (R : Rel hT ρ L σ s.heap) {t : Nat} (p : P ρ s.heap a) : Post hT L ρ s σ P a { s with toks := t } := ⟨ρ, Step.refl _ _ _, R, ⟨rfl, id⟩, p⟩
theorem Post.same' {P : List Addr → Heap → α → Prop} {a : α} (R : Rel hT ρ L σ s.heap) (p : P ρ s.heap a) : Post hT L ρ s σ P a s := ⟨ρ, Step.refl _ _ _, R, ⟨rfl, id⟩, p⟩
end
structure AE where
  sc : Scope
  cells : List (Str × Nat)
  me : Option (Addr × FuncData)
structure EnvR (ρ : List Addr) (L : Addr) (ae : AE) (env : Env) : Prop where
  sc : env.scope = ae.sc
  kind : ae.sc.kind = .function
  loc : env.locals = L
  gl : env.globals = mainGlobals
  bl : env.builtins = builtinsNs
  cells : ∀ x i, lk x ae.cells = some i → ∃ c, ρ[i]? = some c ∧ env.cells.lookup x = some c
  me : ∀ a fd, ae.me = some (a, fd) → env = callEnv fd L a ∨ env = callEnvC fd L a
theorem EnvR.mono {ρ ρ' : List Addr} {L : Addr} {ae : AE} {env : Env} (x : EnvR ρ L ae env) (p : ρ <+: ρ') : EnvR ρ' L ae env :=
  { x with cells := fun y i e => let ⟨c, a, b⟩ := x.cells y i e; ⟨c, prefix_get p a, b⟩ }
theorem EnvR.kindOf {ρ : List Addr} {L : Addr} {ae : AE} {env : Env} (x : EnvR ρ L ae env) (y : Str) : env.kindOf y = lk y ae.sc.names := by
  unfold Env.kindOf
  rw [x.sc, lk_eq]
end Mine
namespace Mine
structure FnRec where
  pars : List Str
  dflt : List AV
  body : List Stmt
  scope : Scope
  cellful : Bool
  fd : FuncData
structure Tab where
  G : List (Str × AV)
  fn : Addr → Option FnRec
noncomputable def GlobIs (h : Heap) (x : Str) (u : Value) : Prop := ∃ mg mb, h.Ns mainGlobals mg ∧ h.Ns builtinsNs mb ∧ (mg x = some u ∨ (mg x = none ∧ mb x = some u))
structure TabOk (T : Tab) (hT : Heap) : Prop where
  g : ∀ x v, lk x T.G = some v → ∃ u, VR [] hT v u ∧ GlobIs hT x u
  lim : hT.NoLimit
noncomputable def cellA (ae : AE) (x : Str) (σ : St) : Option AV :=
  match lk x ae.cells with
  | some i => match σ.hp[i]? with
    | some (.cell (some v)) => some v
    | _ => none
  | none => none
noncomputable def nameA (T : Tab) (ae : AE) (x : Str) (σ : St) : Option AV :=
  bif W.Fast.sEq x (Str.ofString "__debug__") then none else
  match lk x ae.sc.names with
  | some .local => lk x σ.loc
  | some .cell => cellA ae x σ
  | some .free => bif W.Fast.sEq x (Str.ofString "__classdict__") then none else cellA ae x σ
  | some .globalImplicit => lk x T.G
  | _ => none
noncomputable def storeA (ae : AE) (x : Str) (v : AV) (σ : St) : Option St :=
  match lk x ae.sc.names with
  | some .local => some ⟨σ.hp, pt x v σ.loc⟩
  | some .cell => match lk x ae.cells with
    | some i => match σ.hp[i]? with
      | some (.cell _) => some ⟨σ.hp.set i (.cell (some v)), σ.loc⟩
      | _ => none
    | none => none
  | _ => none
section
variable {prog : Program} {w : World} {hT : Heap} {A : Around} {L : Addr} {ρ : List Addr} {s : Shared} {σ σ' : St} {env : Env} {ae : AE} {T : Tab} {x : Str} {v : AV}
theorem sEq_beq_no {x y : Str} (h : W.Fast.sEq x y = false) : (x == y) = false := by rw [← sEq_beq]; exact h
theorem Inv.get {hp : List AO} {h : Heap} (I : Inv ρ hp h) {i : Nat} {o : AO} (e : hp[i]? = some o) : ∃ a, ρ[i]? = some a ∧ OR ρ h a o := by
  have hl := (List.getElem?_eq_some_iff.mp e).1
  have hl' : i < ρ.length := I.len ▸ hl
  exact ⟨ρ[i], List.getElem?_eq_getElem hl', I.at_ i o _ e (List.getElem?_eq_getElem hl')⟩
set_option tactic.hygienic true in
theorem cellA_at (R : Rel hT ρ L σ s.heap) (Ev : EnvR ρ L ae env) (e : cellA ae x σ = some v) : ∃ c u, env.cells.lookup x = some c ∧ s.heap.IsCell c (some u) ∧ VR ρ s.heap v u := by
  unfold cellA at e
  split at e
  · rename_i i hi
    split at e
    · rename_i y hy
      revert e; refine someC fun h => ?_; subst h
      refine ex1_2 (Ev.cells x i hi) fun c hc hl => ?_
      obtain ⟨a, ha, u, hu, r⟩ := R.inv.get hy
      cases hc.symm.trans ha
      cases u with
      | none => exact r.elim
      | some u => exact ⟨c, u, hl, hu, r⟩
    · exact noneE e
  · exact noneE e
set_option tactic.hygienic true in
theorem nameA_sound (TO : TabOk T hT) (R : Rel hT ρ L σ s.heap) (Ev : EnvR ρ L ae env) (e : nameA T ae x σ = some v) : Tri prog w hT A L ρ s (loadName env x) σ (fun ρ' h' u => VR ρ' h' v u) := by
  unfold nameA at e
  cases hd : W.Fast.sEq x (Str.ofString "__debug__") with
  | true => rw [hd] at e; exact noneE e
  | false =>
    rw [hd] at e
    simp only [cond_false] at e
    have hk : env.scope.kind = .function := by rw [Ev.sc]; exact Ev.kind
    split at e
    · rename_i hx
      refine ex1_2 R.ns fun f F G => ?_
      refine ex1_2 (G x v e) fun u hu V => ?_
      exact wpAny_loadName_local hk ((Ev.kindOf x).trans hx) (Ev.loc ▸ F) hu (Post.same' R V)
    · rename_i hx
      refine ex2_3 (cellA_at R Ev e) fun c u hl hc V => ?_
      exact wpAny_loadName_cell hk ((Ev.kindOf x).trans hx) hl hc (Post.same' R V)
    · rename_i hx
      cases hn : W.Fast.sEq x (Str.ofString "__classdict__") with
      | true => rw [hn] at e; exact noneE e
      | false =>
        rw [hn] at e
        simp only [cond_false] at e
        refine ex2_3 (cellA_at R Ev e) fun c u hl hc V => ?_
        exact wpAny_loadName_free hk ((Ev.kindOf x).trans hx) hl hc (Post.same' R V) (sEq_beq_no hn)
    · rename_i hx
      obtain ⟨u, V, mg, mb, hg, hb, q⟩ := TO.g x v e
      have V' : VR ρ s.heap v u := V.mono ⟨ρ, rfl⟩ fun zz zz q zz => R.keep _ _ q
      have main : wpAny (model prog w) A (loadGlobal env x) (Post hT L ρ s σ (fun ρ' h' u => VR ρ' h' v u)) No s := by
        rcases q with q | ⟨q1, q2⟩
        · exact loadGlobal_global (Ev.gl ▸ hg.keeps R.keep) q (Post.same' R V')
        · exact loadGlobal_builtin (Ev.gl ▸ hg.keeps R.keep) q1 (Ev.bl ▸ hb.keeps R.keep) q2 (Post.same' R V')
      unfold loadName
      simp only [Env.blockKind, hk, (Ev.kindOf x).trans hx, ScopeKind.isAnnotationScope, Bool.false_and, Bool.false_eq_true, if_false]
      exact main
    · exact noneE e
set_option tactic.hygienic true in
theorem storeA_sound (R : Rel hT ρ L σ s.heap) (Ev : EnvR ρ L ae env) {u : Value} (V : VR ρ s.heap v u) (e : storeA ae x v σ = some σ') : Tri prog w hT A L ρ s (storeName env x u) σ' (fun zz zz zz => True) := by
  have hk : env.scope.kind = .function := by rw [Ev.sc]; exact Ev.kind
  unfold storeA at e
  split at e
  · rename_i hx
    revert e; refine someC fun h => ?_; subst h
    refine ex1_2 R.ns fun f F G => ?_
    refine wpAny_storeName_local ((Ev.kindOf x).trans hx) (Ev.loc ▸ F) (fun h' hn hs => ?_) (by rw [hk]; rfl)
    rw [Ev.loc] at hn hs
    refine ⟨ρ, Step.loc hs (Ns.live hn), ?_, ⟨rfl, id⟩, trivial⟩
    refine R.loc V hs fun f' F' G' => ?_
    have : f' = f := by
      revert F; refine fun h0 => ex3_4 h0 fun o es ep a1 a2 a3 a4 => ?_; clear h0
      revert F'; refine fun h0 => ex3_4 h0 fun o' es' ep' b1 b2 b3 b4 => ?_; clear h0
      cases a1.symm.trans b1
      rw [a2] at b2
      cases b2
      funext y
      rw [← a4, ← b4]
    rw [this]; exact hn
  · rename_i hx
    split at e
    · rename_i i hi
      split at e
      · rename_i v₀ hy
        revert e; refine someC fun h => ?_; subst h
        refine ex1_2 (Ev.cells x i hi) fun c hc hl => ?_
        obtain ⟨a, ha, u₀, hu, r⟩ := R.inv.get hy
        cases hc.symm.trans ha
        refine wpAny_storeName_cell hk ((Ev.kindOf x).trans hx) hl (hu) fun h' hv hs => ?_
        have hl : (h'.get? c).isSome = true := by revert hv; refine fun h0 => ex1_2 h0 fun o ho zz => ?_; clear h0; rw [ho]; rfl
        refine ⟨ρ, Step.put (List.mem_of_getElem? hc) hs hl, R.put hc hs ?_, ⟨rfl, id⟩, trivial⟩
        exact ⟨some u, hv, V.mono (List.prefix_refl _) fun y o e im => (hs.2 y fun q => R.inv.immOff e im (q ▸ List.mem_of_getElem? hc)).trans e⟩
      · exact noneE e
    · exact noneE e
  · exact noneE e
end
end Mine
namespace Mine
noncomputable def intOk (i : Int) : Bool := Nat.blt i.natAbs (2 ^ 4000)
theorem intOk_bits {i : Int} (h : intOk i = true) : Builtin.Int.intBits i ≤ 4000 :=
  intBits_le_iff.mpr (Nat.le_of_ble_eq_true h)
noncomputable def lenOk (n : Nat) : Bool := Nat.ble n 100000
noncomputable def repList {α : Type} (l : List α) (n : Int) : List α := (List.replicate n.toNat l).flatten
noncomputable def intB (op : Operator) (a b : Int) : Option Int := match op with
  | .Add => some (a + b)
  | .Sub => some (a - b)
  | .Mult => bif intOk a && intOk b then some (a * b) else none
  | .Mod => bif W.Z.eqB b 0 then none else some (a.fmod b)
  | .FloorDiv => bif intOk b && !W.Z.eqB b 0 then some (a.fdiv b) else none
  | .Pow => bif intOk a && W.Z.leB 0 b && W.Z.leB b 1000 then some (a ^ b.toNat) else none
  | .LShift => bif intOk a && W.Z.leB 0 b && W.Z.leB b 100000 then some (a * 2 ^ b.toNat) else none
  | .RShift => bif W.Z.leB 0 b then some (a.fdiv (2 ^ b.toNat)) else none
  | .BitAnd => some (Builtin.bitAnd a b)
  | .BitXor => some (Builtin.bitXor a b)
  | .BitOr => some (Builtin.bitOr a b)
  | _ => none
noncomputable def binAdd (x y : AV) (hp : List AO) : Option (AV × List AO) := match theS x with
  | some l => (theS y).bind fun m => bif lenOk (l.length + m.length) then some (.str (l ++ m), hp) else none
  | none => (theL hp x).bind fun p => (theL hp y).bind fun q => bif lenOk (p.2.length + q.2.length) then some (.ref hp.length, hp ++ [.list (p.2 ++ q.2)]) else none
noncomputable def binMul (x y : AV) (hp : List AO) : Option (AV × List AO) := (theI y).bind fun n => match theS x with
  | some l => bif lenOk l.length && lenOk n.natAbs && lenOk (l.length * n.toNat) then some (.str (repList l n), hp) else none
  | none => (theL hp x).bind fun p => bif lenOk n.natAbs && Nat.ble (p.2.length * n.toNat) 256 then some (.ref hp.length, hp ++ [.list (repList p.2 n)]) else none
noncomputable def binO (op : Operator) (x y : AV) (hp : List AO) : Option (AV × List AO) := match op with
  | .Add => binAdd x y hp
  | .Mult => binMul x y hp
  | _ => none
noncomputable def binA (op : Operator) (x y : AV) (hp : List AO) : Option (AV × List AO) := match theII x y with
  | some q => (intB op q.1 q.2).bind fun r => some (.int r, hp)
  | none => binO op x y hp
theorem cond_some {α : Type} {b : Bool} {x : Option α} {y : α} (e : (bif b then x else none) = some y) : b = true ∧ x = some y := by
  cases b with
  | false => exact noneE e
  | true => exact ⟨rfl, e⟩
theorem cond_some' {α : Type} {b : Bool} {x : Option α} {y : α} (e : (bif b then none else x) = some y) : b = false ∧ x = some y := by
  cases b with
  | true => exact noneE e
  | false => exact ⟨rfl, e⟩
theorem str_app (l m : List Nat) : (⟨l.toArray⟩ : Str) ++ ⟨m.toArray⟩ = ⟨(l ++ m).toArray⟩ := by
  show (⟨l.toArray ++ m.toArray⟩ : Str) = _
  rw [List.append_toArray]
theorem str_len (l : List Nat) : (⟨l.toArray⟩ : Str).length = l.length := by
  show l.toArray.size = _
  simp
theorem foldl_app (l : List Nat) : ∀ (n : Nat) (a : List Nat), (List.replicate n l.toArray).foldl (· ++ ·) a.toArray = (a ++ (List.replicate n l).flatten).toArray
  | 0, a => by simp
  | n + 1, a => by
    rw [List.replicate_succ, List.foldl_cons, List.append_toArray, foldl_app l n (a ++ l), List.replicate_succ, List.flatten_cons, List.append_assoc]
set_option tactic.hygienic true in
theorem txt_mul (l : List Nat) (n : Int) : Txt.mul ⟨l.toArray⟩ n = ⟨(repList l n).toArray⟩ := by
  unfold Txt.mul repList
  by_cases h : n < 1
  · rw [if_pos h]
    have : n.toNat = 0 := by omega
    rw [this]
    rfl
  · rw [if_neg h]
    split
    · rename_i q
      rw [Bool.or_eq_true] at q
      rcases q with q | q
      · have : n = 1 := by simpa using q
        subst this
        simp
      · rw [str_len] at q
        have : l = [] := by simpa using q
        subst this
        have hf : ∀ k, (List.replicate k ([] : List Nat)).flatten = [] := fun k => by induction k with | zero => rfl | succ k ih => rw [List.replicate_succ, List.flatten_cons, ih]; rfl
        rw [hf]
    · have := foldl_app l n.toNat []
      rw [List.nil_append] at this
      exact congrArg Str.mk this
section
variable {prog : Program} {w : World} {hT : Heap} {A : Around} {L : Addr} {ρ : List Addr} {s : Shared} {σ σ' : St} {v : AV}
theorem list_at (R : Rel hT ρ L σ s.heap) {i : Nat} {l : List AV} (e : σ.hp[i]? = some (.list l)) {a : Addr} (ha : ρ[i]? = some a) : ∃ vs n, s.heap.get? a = some (listOf vs.toArray n) ∧ VRs ρ s.heap l vs := R.inv.at_ i _ a e ha
theorem isList_of {h : Heap} {a : Addr} {vs : List Value} {n : Nat} (e : h.get? a = some (listOf vs.toArray n)) : h.IsList a vs.toArray := ⟨_, e, rfl, n, rfl⟩
theorem VRs.append {h : Heap} {l m : List AV} {vs ws : List Value} (V : VRs ρ h l vs) (W : VRs ρ h m ws) : VRs ρ h (l ++ m) (vs ++ ws) := VRs.ind (P := fun l vs => VRs ρ h (l ++ m) (vs ++ ws)) W (fun zz zz zz zz a zz ih => .cons _ _ _ _ a ih) V
theorem VRs.flat {h : Heap} {l : List AV} {vs : List Value} (V : VRs ρ h l vs) : ∀ n, VRs ρ h (List.replicate n l).flatten (List.replicate n vs).flatten
  | 0 => .nil
  | n + 1 => by rw [List.replicate_succ, List.replicate_succ, List.flatten_cons, List.flatten_cons]; exact V.append (V.flat n)
theorem newList_end (R : Rel hT ρ L σ s.heap) {l : List AV} {vs : List Value} {f : Str → Option Value} {D : Addr} {n : Nat} {h' : Heap} {ns : List (Addr × Obj)} {t : Nat} (V : VRs ρ s.heap l vs) (G : LW ρ s.heap σ.loc f) (F : Fr hT L h' f) (N : News hT L h' ns)
    (hs : ∀ p ∈ allN hT L s.heap, p ∈ ns) (lt : ∀ p ∈ allN hT L s.heap, p.1 < D) (hD : (D, listOf vs.toArray n) ∈ ns) : Post hT L ρ s ⟨σ.hp ++ [.list l], σ.loc⟩ (fun ρ' h' u => VR ρ' h' (.ref σ.hp.length) u) (.ref D) { s with heap := h', toks := t } := by
  have x := N _ hD
  have st := (R.back F G N hs).1
  have V' : VRs (ρ ++ [D]) h' l vs := V.mono ⟨[D], rfl⟩ fun zz zz e im => st.imm R e im
  refine ex0_2 (R.backNew (o := .list l) F G N hs lt x.2.2 x.2.1 ⟨vs, n, x.1, V'⟩) fun S R' => ?_
  exact (Post.mk S R' ⟨rfl, id⟩ (.ref _ _ (by rw [← R.inv.len]; simp)))
theorem intB_sound {op : Operator} {a b r : Int} {t1 t2 : Tok} {E : Value → Shared → Prop} {Q : Value → Shared → Prop} (e : intB op a b = some r) (h : ∀ t, Q (.int r t) { s with toks := t + 1 }) : wpAny (model prog w) A (binaryOp op (.int a t1) (.int b t2)) Q E s := by
  cases op with
  | Add => revert e; refine someC fun h => ?_; subst h; exact add_int (h _)
  | Sub => revert e; refine someC fun h => ?_; subst h; exact sub_int (h _)
  | Mult =>
    change (bif intOk a && intOk b then some (a * b) else none) = _ at e
    refine ex0_2 (cond_some e) fun h1 e => ?_
    revert e; refine someC fun h => ?_; subst h
    refine ex0_2 (Bool.and_eq_true_iff.mp h1) fun h1 h2 => ?_
    exact mul_int (h _) (IntMulOk.of_le (intOk_bits h1) (intOk_bits h2) (by decide))
  | Mod =>
    change (bif W.Z.eqB b 0 then none else some (a.fmod b)) = _ at e
    refine ex0_2 (cond_some' e) fun h1 e => ?_
    revert e; refine someC fun h => ?_; subst h
    refine mod_int' (fun q => ?_) (h _)
    rw [(W.Z.eqB_iff _ _).mpr q] at h1; exact tfE h1
  | FloorDiv =>
    change (bif intOk b && !W.Z.eqB b 0 then some (a.fdiv b) else none) = _ at e
    refine ex0_2 (cond_some e) fun h1 e => ?_
    revert e; refine someC fun h => ?_; subst h
    refine ex0_2 (Bool.and_eq_true_iff.mp h1) fun h1 h2 => ?_
    refine floordiv_int (fun q => ?_) (h _) (.inl (PyProof.noPylong_of_log2 ?_))
    · rw [(W.Z.eqB_iff _ _).mpr q] at h2; exact ftE h2
    · have h3 := Nat.le_of_ble_eq_true h1
      by_cases h0 : b.natAbs = 0
      · rw [h0]; decide +kernel
      · have := (Nat.log2_lt h0).mpr h3
        omega
  | Pow =>
    change (bif intOk a && W.Z.leB 0 b && W.Z.leB b 1000 then some (a ^ b.toNat) else none) = _ at e
    refine ex0_2 (cond_some e) fun h1 e => ?_
    revert e; refine someC fun h => ?_; subst h
    refine ex0_2 (Bool.and_eq_true_iff.mp h1) fun h1 h3 => ?_
    refine ex0_2 (Bool.and_eq_true_iff.mp h1) fun h1 h2 => ?_
    have h2' := (W.Z.leB_iff _ _).mp h2
    have h3' := (W.Z.leB_iff _ _).mp h3
    have h4 := intOk_bits h1
    refine pow_int h2' ?_ (h _)
    have : (Builtin.Int.intBits a : Int) * b ≤ 4000 * 1000 := Int.mul_le_mul (by omega) h3' h2' (by omega)
    omega
  | LShift =>
    change (bif intOk a && W.Z.leB 0 b && W.Z.leB b 100000 then some (a * 2 ^ b.toNat) else none) = _ at e
    refine ex0_2 (cond_some e) fun h1 e => ?_
    revert e; refine someC fun h => ?_; subst h
    refine ex0_2 (Bool.and_eq_true_iff.mp h1) fun h1 h3 => ?_
    refine ex0_2 (Bool.and_eq_true_iff.mp h1) fun h1 h2 => ?_
    have h3' := (W.Z.leB_iff _ _).mp h3
    have h4 := intOk_bits h1
    exact lshift_int ((W.Z.leB_iff _ _).mp h2) (by omega) (h _)
  | RShift =>
    change (bif W.Z.leB 0 b then some (a.fdiv (2 ^ b.toNat)) else none) = _ at e
    refine ex0_2 (cond_some e) fun h1 e => ?_
    revert e; refine someC fun h => ?_; subst h
    exact rshift_int ((W.Z.leB_iff _ _).mp h1) (h _)
  | BitAnd => revert e; refine someC fun h => ?_; subst h; exact and_int (h _)
  | BitXor => revert e; refine someC fun h => ?_; subst h; exact xor_int (h _)
  | BitOr => revert e; refine someC fun h => ?_; subst h; exact or_int (h _)
  | _ => exact noneE e
theorem binAdd_sound (R : Rel hT ρ L σ s.heap) {x y : AV} {a b : Value} {hp' : List AO} (e : binAdd x y σ.hp = some (v, hp')) (X : VR ρ s.heap x a) (Y : VR ρ s.heap y b) :
    Tri prog w hT A L ρ s (binaryOp .Add a b) ⟨hp', σ.loc⟩ (fun ρ' h' u => VR ρ' h' v u) := by
  unfold binAdd at e
  cases hx : theS x with
  | some l =>
    rw [hx] at e
    revert e
    refine bindE fun m hm e => ?_
    refine ex0_2 (cond_some e) fun h1 e => ?_
    rw [theS_ok hx] at X
    rw [theS_ok hm] at Y
    revert e; refine pairC fun h1 h2 => ?_; subst h1; subst h2; revert X; refine vrStr ?_; intro _ h; subst h; revert Y; refine vrStr ?_; intro _ h; subst h
    have h1' := Nat.le_of_ble_eq_true h1
    refine add_str (fun t' tk => ?_) (by rw [str_len, str_len, sizeLine_eq]; omega)
    rw [str_app]; exact Post.same (σ := σ) R (.str _ _)
  | none =>
    rw [hx] at e
    revert e
    refine bindE fun p hp e => ?_
    revert e
    refine bindE fun q hq e => ?_
    refine ex0_2 (cond_some e) fun h1 e => ?_
    revert e; refine pairC fun h1 h2 => ?_; subst h1; subst h2
    have h1' := Nat.le_of_ble_eq_true h1
    refine ex0_2 (theL_ok hp) fun e1 hi => ex0_2 (theL_ok hq) fun e2 hj => ?_
    rw [e1] at X
    rw [e2] at Y
    refine vrRef' X fun a ha ea => vrRef' Y fun b hb eb => ?_
    subst ea; subst eb
    refine ex2_2 (list_at R hi ha) fun vs n g V => ?_
    refine ex2_2 (list_at R hj hb) fun ws n' g' W => ?_
    refine ex1_3 R.opened fun f F N G => ?_
    refine add_lists F N (isList_of g) (isList_of g') (fun h' F' N' => ?_) ?_
    · exact newList_end (n := 0) R (V.append W) G F' N' (fun p hp => .tail _ hp) (fun p hp => Heap.lt_size (mem_allN.mp hp).1) (.head _)
    · rw [← V.length, ← W.length, sizeLine_eq]; omega
theorem binMul_sound (R : Rel hT ρ L σ s.heap) {x y : AV} {a b : Value} {hp' : List AO} (e : binMul x y σ.hp = some (v, hp')) (X : VR ρ s.heap x a) (Y : VR ρ s.heap y b) :
    Tri prog w hT A L ρ s (binaryOp .Mult a b) ⟨hp', σ.loc⟩ (fun ρ' h' u => VR ρ' h' v u) := by
  revert e
  refine bindE fun n hn e => ?_
  rw [theI_ok hn] at Y
  revert Y; refine vrInt ?_; intro _ h; subst h
  cases hx : theS x with
  | some l =>
    rw [hx] at e
    refine ex0_2 (cond_some e) fun h1 e => ?_
    rw [theS_ok hx] at X
    revert e; refine pairC fun h1 h2 => ?_; subst h1; subst h2; revert X; refine vrStr ?_; intro _ h; subst h
    refine ex0_2 (Bool.and_eq_true_iff.mp h1) fun h1 h3 => ?_
    refine ex0_2 (Bool.and_eq_true_iff.mp h1) fun h1 h2 => ?_
    have h1' := Nat.le_of_ble_eq_true h1
    have h2' := Nat.le_of_ble_eq_true h2
    have h3' := Nat.le_of_ble_eq_true h3
    refine SB.mul ⟨?_, fun q zz => ?_, fun q zz => ?_⟩ fun t' k => by rw [txt_mul]; exact Post.same (σ := σ) R (.str _ _)
    · rw [Bool.or_eq_false_iff]; exact ⟨decide_eq_false (by omega), decide_eq_false (by omega)⟩
    · rw [str_len]
      have : (92233720368547 : Int) ≤ (2 ^ 63 - 1) / n := by
        rw [Int.le_ediv_iff_mul_le (by omega)]
        have : n ≤ 100000 := by omega
        omega
      omega
    · rw [str_len]
      exact decide_eq_false (by rw [sizeLine_eq]; omega)
  | none =>
    rw [hx] at e
    revert e
    refine bindE fun p hp e => ?_
    refine ex0_2 (cond_some e) fun h1 e => ?_
    revert e; refine pairC fun h1 h2 => ?_; subst h1; subst h2
    refine ex0_2 (Bool.and_eq_true_iff.mp h1) fun h1 h2 => ?_
    have h1' := Nat.le_of_ble_eq_true h1
    have h2' := Nat.le_of_ble_eq_true h2
    refine ex0_2 (theL_ok hp) fun e1 hi => ?_
    rw [e1] at X
    refine vrRef' X fun a ha ea => ?_
    subst ea
    refine ex2_2 (list_at R hi ha) fun vs k g V => ?_
    refine ex1_3 R.opened fun f F N G => ?_
    refine KMa.mul F N (isList_of g) (by omega) (by omega) (by rw [← V.length]; exact h2') rfl (fun D h' F' N' lt => ?_)
    exact newList_end (n := 0) R (V.flat _) G F' N' (fun p hp => .tail _ hp) lt (.head _)
theorem binA_sound (R : Rel hT ρ L σ s.heap) {op : Operator} {x y : AV} {a b : Value} {hp' : List AO} (e : binA op x y σ.hp = some (v, hp')) (X : VR ρ s.heap x a) (Y : VR ρ s.heap y b) :
    Tri prog w hT A L ρ s (binaryOp op a b) ⟨hp', σ.loc⟩ (fun ρ' h' u => VR ρ' h' v u) := by
  unfold binA at e
  cases hq : theII x y with
  | some q =>
    rw [hq] at e
    revert e
    refine bindE fun r hr e => ?_
    revert e; refine pairC fun h1 h2 => ?_; subst h1; subst h2
    refine ex0_2 (theII_ok hq) fun e1 e2 => ?_
    rw [e1] at X
    rw [e2] at Y
    revert X; refine vrInt ?_; intro _ h; subst h; revert Y; refine vrInt ?_; intro _ h; subst h
    exact intB_sound hr fun t => Post.same (σ := σ) R (.int _ _)
  | none =>
    rw [hq] at e
    cases op with
    | Add => exact binAdd_sound R e X Y
    | Mult => exact binMul_sound R e X Y
    | _ => exact noneE e
end
end Mine
section
open PySem.Spec
namespace Mine
noncomputable def atomD : AV → Option Dat
  | .none => some .none
  | .int i => some (.int i)
  | .str l => bif l.all (fun c => Nat.blt c 0x110000) then some (.str ⟨l.toArray⟩) else none
  | _ => none
noncomputable def mapD (f : AV → Option Dat) : List AV → Option (List Dat)
  | [] => some []
  | x :: r => (f x).bind fun d => (mapD f r).bind fun ds => some (d :: ds)
noncomputable def listD (hp : List AO) (f : AV → Option Dat) (i : Nat) : Option Dat := match hp[i]? with
  | some (.list l) => (mapD f l).bind fun ds => some (.list ds)
  | _ => none
noncomputable def stepD (hp : List AO) (f : AV → Option Dat) (x : AV) : Option Dat := match x with
  | .tup l => (mapD f l).bind fun ds => some (.tuple ds)
  | .ref i => listD hp f i
  | y => atomD y
noncomputable def dataD (hp : List AO) (x : AV) : Option Dat := stepD hp (stepD hp atomD) x
noncomputable def dat0 (d e : Dat) : Bool := match d with
  | .none => (match e with | .none => true | _ => false)
  | .int i => (match e with | .int j => W.Z.eqB i j | _ => false)
  | .str x => (match e with | .str y => W.Fast.sEq x y | _ => false)
  | _ => false
noncomputable def datL (f : Dat → Dat → Bool) : List Dat → List Dat → Bool
  | [], [] => true
  | x :: l, y :: m => bif f x y then datL f l m else false
  | _, _ => false
noncomputable def datN (f : Dat → Dat → Bool) (d e : Dat) : Bool := match d with
  | .tuple l => (match e with | .tuple m => datL f l m | _ => false)
  | .list l => (match e with | .list m => datL f l m | _ => false)
  | x => dat0 x e
noncomputable def dataEq (d e : Dat) : Bool := datN (datN dat0) d e
theorem dat0_eq {d e : Dat} (h : dat0 d e = true) : d = e := by
  cases d <;> first | exact ftE h | skip
  all_goals cases e <;> first | exact ftE h | skip
  · rfl
  · exact congrArg Dat.int ((W.Z.eqB_iff _ _).mp h)
  · exact congrArg Dat.str (W.Fast.sEq_iff.mp h)
theorem datL_eq {f : Dat → Dat → Bool} (hf : ∀ {d e}, f d e = true → d = e) {l m : List Dat} (h : datL f l m = true) : l = m := by
  induction l generalizing m with
  | nil => cases m with
    | nil => rfl
    | cons _ _ => exact ftE h
  | cons x l ih =>
    cases m with
    | nil => exact ftE h
    | cons y m =>
      change (bif f x y then datL f l m else false) = true at h
      cases k : f x y with
      | false => rw [k] at h; exact ftE h
      | true => rw [k] at h; rw [hf k, ih h]
theorem datN_eq {f : Dat → Dat → Bool} (hf : ∀ {d e}, f d e = true → d = e) {d e : Dat} (h : datN f d e = true) : d = e := by
  cases d with
  | tuple l => cases e <;> first | exact ftE h | exact congrArg Dat.tuple (datL_eq hf h)
  | list l => cases e <;> first | exact ftE h | exact congrArg Dat.list (datL_eq hf h)
  | _ => exact dat0_eq h
theorem dat0_refl {d : Dat} (h : kqdOk 0 d = true) : dat0 d d = true := by
  cases d <;> first | rfl | exact ftE h | exact (W.Z.eqB_iff _ _).mpr rfl | exact W.Fast.sEq_iff.mpr rfl
theorem datL_refl {f : Dat → Dat → Bool} {l : List Dat} (h : ∀ d ∈ l, f d d = true) : datL f l l = true := by
  induction l with
  | nil => rfl
  | cons x l ih =>
    show (bif f x x then datL f l l else false) = true
    rw [h x (.head _)]
    exact ih fun d hd => h d (.tail _ hd)
theorem datN_refl {n : Nat} {f : Dat → Dat → Bool} (hf : ∀ {d}, kqdOk n d = true → f d d = true) {d : Dat} (h : kqdOk (n + 1) d = true) : datN f d d = true := by
  cases d with
  | tuple l => exact datL_refl fun d hd => hf (List.all_eq_true.mp h d hd)
  | list l => exact datL_refl fun d hd => hf (List.all_eq_true.mp h d hd)
  | none => rfl
  | int i => exact (W.Z.eqB_iff _ _).mpr rfl
  | str x => exact W.Fast.sEq_iff.mpr rfl
  | bool b => exact ftE h
  | bytes b => exact ftE h
theorem dataEq_iff {d e : Dat} (h : kqdOk 2 d = true) : dataEq d e = true ↔ d = e :=
  ⟨datN_eq (datN_eq dat0_eq), fun q => q ▸ datN_refl (datN_refl dat0_refl) h⟩
section
variable {prog : Program} {w : World} {hT : Heap} {A : Around} {L : Addr} {ρ : List Addr} {s : Shared} {σ σ' : St} {v : AV} {h : Heap}
noncomputable def DatR (ρ : List Addr) (h : Heap) (n : Nat) (f : AV → Option Dat) : Prop := ∀ {x : AV} {d : Dat} {u : Value}, f x = some d → VR ρ h x u → (∃ as, Reads h u (kqdP d) as) ∧ kqdOk n d = true
theorem kqdOk_le : ∀ (n : Nat) (d : Dat), kqdOk 0 d = true → kqdOk n d = true := fun n d h => by
  cases n with
  | zero => exact h
  | succ n => cases d <;> first | exact h | exact ftE h
theorem atom_reads (n : Nat) : DatR ρ h n atomD := fun {x d u} e V => by
  have key : (∃ as, Reads h u (kqdP d) as) ∧ kqdOk 0 d = true := by
    cases V with
    | none => revert e; refine someC fun h => ?_; subst h; exact ⟨⟨_, .none⟩, rfl⟩
    | int i t => revert e; refine someC fun h => ?_; subst h; exact ⟨⟨_, .int i t⟩, rfl⟩
    | str l t =>
      revert e; refine condE fun k e => ?_
      revert e; refine someC fun h => ?_; subst h
      refine ⟨⟨_, .str _ t⟩, ?_⟩
      show PyData.strOk ⟨l.toArray⟩ = true
      unfold PyData.strOk
      rw [← Array.all_toList]
      rw [List.all_eq_true] at k ⊢
      intro c hc
      exact decide_eq_true (Nat.le_of_ble_eq_true (k c hc))
    | _ => exact noneE e
  exact ⟨key.1, kqdOk_le n d key.2⟩
set_option tactic.hygienic true in
theorem map_reads {n : Nat} {f : AV → Option Dat} (F : DatR ρ h n f) {l : List AV} {ds : List Dat} {us : List Value} (e : mapD f l = some ds) (V : VRs ρ h l us) : (∃ as, ReadsAll h us (kqdPs ds) as) ∧ ∀ d ∈ ds, kqdOk n d = true := by
  induction l generalizing ds us with
  | nil => revert e; refine someC fun h => ?_; subst h; revert V; refine vrsNil ?_; intro h; subst h; exact ⟨⟨_, .nil⟩, fun zz h => (nomatch h)⟩
  | cons x l ih =>
    revert e
    refine bindE fun d hd e => ?_
    revert e
    refine bindE fun ds' hds e => ?_
    revert e; refine someC fun h => ?_; subst h
    revert V; refine vrsCons ?_; intro _ _ _ _ h; subst h
    rename_i V r
    refine ex0_2 (F hd V) fun a b => ex1_1 a fun as a => ex0_2 (ih hds r) fun c k => ex1_1 c fun bs c => ⟨⟨_, .cons a c⟩, fun x hx => ?_⟩
    rcases List.mem_cons.mp hx with rfl | hx
    · exact b
    · exact k x hx
theorem list_reads {hp : List AO} (I : Inv ρ hp h) {i : Nat} {l : List AV} {u : Value} (hl : hp[i]? = some (.list l)) (V : VR ρ h (.ref i) u) : ∃ a vs n, u = .ref a ∧ h.get? a = some (listOf vs.toArray n) ∧ VRs ρ h l vs := by
  cases V with
  | ref _ a ha =>
    refine ex2_2 (I.at_ i _ a hl ha) fun vs n g W => ?_
    exact ⟨a, vs, n, rfl, g, W⟩
set_option tactic.hygienic true in
theorem step_reads {hp : List AO} (I : Inv ρ hp h) {n : Nat} {f : AV → Option Dat} (F : DatR ρ h n f) : DatR ρ h (n + 1) (stepD hp f) := fun {x d u} e V => by
  have atom : atomD x = some d → (∃ as, Reads h u (kqdP d) as) ∧ kqdOk (n + 1) d = true := fun e => atom_reads (n + 1) e V
  cases x with
  | tup l =>
    revert e
    refine bindE fun ds hds e => ?_
    revert e; refine someC fun h => ?_; subst h
    cases V with
    | tup _ vs a n g V =>
      refine ex0_2 (map_reads F hds V) fun c k => ex1_1 c fun as c => ⟨⟨as, ?_⟩, ?_⟩
      · rw [kqdP]; exact reads_tuple_at g rfl rfl (by simpa using c)
      · exact List.all_eq_true.mpr k
  | ref i =>
    change listD hp f i = _ at e
    unfold listD at e
    split at e
    · rename_i l hl
      revert e
      refine bindE fun ds hds e => ?_
      revert e; refine someC fun h => ?_; subst h
      refine ex3_3 (list_reads I hl V) fun a vs m Z1 g W => ?_; subst Z1
      refine ex0_2 (map_reads F hds W) fun c k => ex1_1 c fun as c => ⟨⟨a :: as, ?_⟩, ?_⟩
      · rw [kqdP]; exact reads_list_at g rfl rfl (by simpa using c)
      · exact List.all_eq_true.mpr k
    · exact noneE e
  | _ => exact atom e
theorem data_reads (R : Rel hT ρ L σ h) {x : AV} {d : Dat} {u : Value} (e : dataD σ.hp x = some d) (V : VR ρ h x u) : (∃ as, Reads h u (kqdP d) as) ∧ kqdOk 2 d = true :=
  step_reads R.inv (step_reads R.inv (atom_reads 0)) e V
open Classical in
theorem eqv_of {d e : Dat} (hd : kqdOk 2 d = true) (he : kqdOk 2 e = true) {b : Bool} (hb : b = true ↔ d = e) : PyData.eqv (kqdP d) (kqdP e) = b := by
  have q := kqd_eqv 2 d e 2 hd he
  cases b with
  | true => exact q.mpr (hb.mp rfl)
  | false => exact Bool.eq_false_iff.mpr fun x => by have := hb.mpr (q.mp x); exact ftE this
theorem shaped_of {d : Dat} (h : kqdOk 2 d = true) : PySem.SeqAt.shaped (kqdP d) = true := by
  have l := kqd_lay 2 d h
  unfold PySem.SeqAt.shaped
  rw [l.1, Bool.true_and]
  exact decide_eq_true (Nat.le_trans l.2 (by decide))
theorem eq_data (R : Rel hT ρ L σ s.heap) (hu : A.units + 64 < cLine) {x y : AV} {d e : Dat} {a b : Value} (hx : dataD σ.hp x = some d) (hy : dataD σ.hp y = some e) (X : VR ρ s.heap x a) (Y : VR ρ s.heap y b) {E : Value → Shared → Prop} {Q : Value → Shared → Prop}
    (h : Q (.bool (dataEq d e)) s) : wpAny (model prog w) A (compareOp .Eq a b) Q E s := by
  obtain ⟨⟨as, ra⟩, ka⟩ := data_reads R hx X
  obtain ⟨⟨bs, rb⟩, kb⟩ := data_reads R hy Y
  exact eq_dataH ra rb (shaped_of ka) (shaped_of kb) hu (by rw [eqv_of ka kb (dataEq_iff ka)]; exact h)
theorem ne_data (R : Rel hT ρ L σ s.heap) (hu : A.units + 64 < cLine) {x y : AV} {d e : Dat} {a b : Value} (hx : dataD σ.hp x = some d) (hy : dataD σ.hp y = some e) (X : VR ρ s.heap x a) (Y : VR ρ s.heap y b) {E : Value → Shared → Prop} {Q : Value → Shared → Prop}
    (h : Q (.bool (!dataEq d e)) s) : wpAny (model prog w) A (compareOp .NotEq a b) Q E s := by
  obtain ⟨⟨as, ra⟩, ka⟩ := data_reads R hx X
  obtain ⟨⟨bs, rb⟩, kb⟩ := data_reads R hy Y
  exact ne_dataH ra rb (shaped_of ka) (shaped_of kb) hu (by rw [eqv_of ka kb (dataEq_iff ka)]; exact h)
end
end Mine
end
namespace Mine
theorem bool_dec {b : Bool} {p : Prop} [Decidable p] (h : b = true ↔ p) : b = decide p := by
  cases b with
  | true => exact (decide_eq_true (h.mp rfl)).symm
  | false => exact (decide_eq_false fun q => by cases h.mpr q).symm
theorem ltB_dec (a b : Int) : W.Z.ltB a b = decide (a < b) := bool_dec (W.Z.ltB_iff a b)
theorem leB_dec (a b : Int) : W.Z.leB a b = decide (a ≤ b) := bool_dec (W.Z.leB_iff a b)
noncomputable def ordB (op : CmpOp) (a b : Int) : Option Bool := match op with
  | .Lt => some (W.Z.ltB a b)
  | .LtE => some (W.Z.leB a b)
  | .Gt => some (W.Z.ltB b a)
  | .GtE => some (W.Z.leB b a)
  | _ => none
noncomputable def isA (x y : AV) : Option Bool := match x with
  | .none => (match y with | .none => some true | _ => none)
  | .ref _ => (match y with | .none => some false | _ => none)
  | _ => none
noncomputable def eqA (x y : AV) (hp : List AO) : Option Bool := (dataD hp x).bind fun d => (dataD hp y).bind fun e => some (dataEq d e)
noncomputable def cmpA (op : CmpOp) (x y : AV) (hp : List AO) : Option Bool := match op with
  | .Eq => eqA x y hp
  | .NotEq => (eqA x y hp).bind fun b => some (!b)
  | .Is => isA x y
  | op => (theII x y).bind fun q => ordB op q.1 q.2
noncomputable def truthA (hp : List AO) : AV → Option Bool
  | .none => some false
  | .bool b => some b
  | .int i => some (!W.Z.eqB i 0)
  | .str l => bif lenOk l.length then some (!Nat.beq l.length 0) else none
  | .ref i => (gL hp i).bind fun l => bif lenOk l.length then some (!Nat.beq l.length 0) else none
  | _ => none
section
variable {prog : Program} {w : World} {hT : Heap} {A : Around} {L : Addr} {ρ : List Addr} {s : Shared} {σ σ' : St} {v : AV}
theorem cmpA_sound (R : Rel hT ρ L σ s.heap) (hu : A.units + 64 < cLine) {op : CmpOp} {x y : AV} {a b : Value} {r : Bool} (e : cmpA op x y σ.hp = some r) (X : VR ρ s.heap x a) (Y : VR ρ s.heap y b) :
    wpAny (model prog w) A (compareOp op a b) (fun u s' => u = .bool r ∧ s' = s) No s := by
  have ord : ∀ op, ((theII x y).bind fun q => ordB op q.1 q.2) = some r → wpAny (model prog w) A (compareOp op a b) (fun u s' => u = .bool r ∧ s' = s) No s := fun op => by
    refine bindE fun q hq e => ?_
    refine ex0_2 (theII_ok hq) fun e1 e2 => ?_
    rw [e1] at X
    rw [e2] at Y
    revert X; refine vrInt ?_; intro _ h; subst h; revert Y; refine vrInt ?_; intro _ h; subst h
    cases op <;> first | exact noneE e | skip
    · revert e; refine someC fun h => ?_; subst h; exact lt_int ⟨by rw [ltB_dec], rfl⟩
    · revert e; refine someC fun h => ?_; subst h; exact le_int ⟨by rw [leB_dec], rfl⟩
    · revert e; refine someC fun h => ?_; subst h; exact gt_int ⟨by rw [ltB_dec], rfl⟩
    · revert e; refine someC fun h => ?_; subst h; exact ge_int ⟨by rw [leB_dec], rfl⟩
  cases op with
  | Eq =>
    revert e
    refine bindE fun d hd e => ?_
    revert e
    refine bindE fun d' hd' e => ?_
    revert e; refine someC fun h => ?_; subst h
    exact eq_data R hu hd hd' X Y ⟨rfl, rfl⟩
  | NotEq =>
    revert e
    refine bindE fun q hq e => ?_
    revert e; refine someC fun h => ?_; subst h
    revert hq
    refine bindE fun d hd e => ?_
    revert e
    refine bindE fun d' hd' e => ?_
    revert e; refine someC fun h => ?_; subst h
    exact ne_data R hu hd hd' X Y ⟨rfl, rfl⟩
  | Is =>
    change isA x y = _ at e
    cases x <;> first | exact noneE e | skip
    · cases y <;> first | exact noneE e | skip
      revert e; refine someC fun h => ?_; subst h; revert X; refine vrNone ?_; intro h; subst h; revert Y; refine vrNone ?_; intro h; subst h
      exact wpAny_is_plain rfl ⟨rfl, rfl⟩
    · cases y <;> first | exact noneE e | skip
      revert e; refine someC fun h => ?_; subst h; revert X; refine vrRef ?_; intro _ _ h; subst h; revert Y; refine vrNone ?_; intro h; subst h
      exact is_ref_none ⟨rfl, rfl⟩
  | _ => exact ord _ e
set_option tactic.hygienic true in
theorem truthA_sound (R : Rel hT ρ L σ s.heap) {x : AV} {a : Value} {r : Bool} (e : truthA σ.hp x = some r) (X : VR ρ s.heap x a) :
    wpAny (model prog w) A (truthy a) (fun u s' => u = r ∧ ∃ t, s' = { s with toks := t }) No s := by
  unfold truthA at e
  split at e
  · revert e; refine someC fun h => ?_; subst h; revert X; refine vrNone ?_; intro h; subst h; exact truthy_none ⟨rfl, _, rfl⟩
  · revert e; refine someC fun h => ?_; subst h; revert X; refine vrBool ?_; intro h; subst h; exact wpAny_truthy_bool ⟨rfl, _, rfl⟩
  · rename_i i
    revert e; refine someC fun h => ?_; subst h; revert X; refine vrInt ?_; intro _ h; subst h
    refine truthy_int ⟨?_, _, rfl⟩
    cases h : W.Z.eqB i 0 with
    | true => rw [(W.Z.eqB_iff _ _).mp h]; rfl
    | false =>
      have : i ≠ 0 := fun q => by rw [(W.Z.eqB_iff _ _).mpr q] at h; exact tfE h
      simpa using this
  · rename_i l
    revert e; refine condE fun h1 e => ?_
    revert e; refine someC fun h => ?_; subst h; revert X; refine vrStr ?_; intro _ h; subst h
    have h1' := Nat.le_of_ble_eq_true h1
    refine PySem.P.truthy_str (by rw [str_len]; omega) ⟨?_, _, rfl⟩
    rw [str_len]
    cases h : Nat.beq l.length 0 with
    | true => rw [Nat.eq_of_beq_eq_true h]; rfl
    | false =>
      have := Nat.ne_of_beq_eq_false h
      have q : (l.length : Int) ≠ 0 := by omega
      simpa using q
  · rename_i i
    · revert e; refine bindE fun l hl e => ?_
      have hl := gL_ok hl
      revert e; refine condE fun h1 e => ?_
      revert e; refine someC fun h => ?_; subst h
      have h1' := Nat.le_of_ble_eq_true h1
      refine ex3_3 (list_reads R.inv hl X) fun a vs n Z1 g W => ?_; subst Z1
      refine wpAny_truthy_list (isList_of g) (by rw [List.size_toArray, ← W.length]; omega) ⟨?_, _, rfl⟩
      have q := W.length
      cases h : Nat.beq l.length 0 with
      | true =>
        rw [Nat.eq_of_beq_eq_true h] at q
        rw [List.eq_nil_of_length_eq_zero q.symm]; rfl
      | false =>
        have := Nat.ne_of_beq_eq_false h
        cases vs with
        | nil => exact absurd q this
        | cons _ _ => simp
  · exact noneE e
end
end Mine
namespace Mine
structure IH where
  ev : AE → Expr → St → Option (AV × St)
  tr : AE → Expr → St → Option (Bool × St)
  xs : AE → List Stmt → St → Option (Fl × St)
  fn : AV → List AV → List AO → Option (AV × List AO)
  tv : AV → List AO → Option (Bool × List AO)
noncomputable def RetR (P : Value → Shared → Prop) : Result → Shared → Prop := fun r s' => match r with
  | .ok (.ret u) => P u s'
  | _ => False
noncomputable def FlR (ρ : List Addr) (h : Heap) : Fl → Flow → Prop
  | .next, .next => True
  | .brk, .brk => True
  | .cont, .cont => True
  | .ret v, .ret u => VR ρ h v u
  | _, _ => False
structure IOk (prog : Program) (w : World) (hT : Heap) (n : Nat) (ih : IH) : Prop where
  ev : ∀ {A : Around} {L : Addr} {ρ : List Addr} {s : Shared} {σ σ' : St} {env : Env} {ae : AE} {e : Expr} {v : AV}, Cx A n → Rel hT ρ L σ s.heap → EnvR ρ L ae env → ih.ev ae e σ = some (v, σ') →
    Tri prog w hT A L ρ s (eval e env) σ' (fun ρ' h' u => VR ρ' h' v u)
  tr : ∀ {A : Around} {L : Addr} {ρ : List Addr} {s : Shared} {σ σ' : St} {env : Env} {ae : AE} {e : Expr} {b : Bool}, Cx A n → Rel hT ρ L σ s.heap → EnvR ρ L ae env → ih.tr ae e σ = some (b, σ') →
    Tri prog w hT A L ρ s (isTrue e env (eval e env)) σ' (fun zz zz c => c = b)
  xs : ∀ {A : Around} {L : Addr} {ρ : List Addr} {s : Shared} {σ σ' : St} {env : Env} {ae : AE} {l : List Stmt} {f : Fl}, Cx A n → Rel hT ρ L σ s.heap → EnvR ρ L ae env → ih.xs ae l σ = some (f, σ') →
    Tri prog w hT A L ρ s (execs l env) σ' (fun ρ' h' g => FlR ρ' h' f g)
  fn : ∀ {A : Around} {L : Addr} {ρ : List Addr} {s : Shared} {σ : St} {hp' : List AO} {f v : AV} {args : List AV} {fv : Value} {vs : List Value}, Cx A n → Rel hT ρ L σ s.heap → VR ρ s.heap f fv → VRs ρ s.heap args vs → ih.fn f args σ.hp = some (v, hp') →
    Tri prog w hT A L ρ s (call fv vs) ⟨hp', σ.loc⟩ (fun ρ' h' u => VR ρ' h' v u)
  fnc : ∀ {A : Around} {L : Addr} {ρ : List Addr} {s : Shared} {σ : St} {hp' : List AO} {a : Addr} {v : AV} {args : List AV} {vs : List Value}, Cx A n → Rel hT ρ L σ s.heap → VRs ρ s.heap args vs → ih.fn (.fn a) args σ.hp = some (v, hp') →
    codeAny (model prog w) A (.call (.ref a) ⟨vs, []⟩) (RetR (Post hT L ρ s ⟨hp', σ.loc⟩ (fun ρ' h' u => VR ρ' h' v u))) s
  tv : ∀ {A : Around} {L : Addr} {ρ : List Addr} {s : Shared} {σ : St} {hp' : List AO} {x : AV} {a : Value} {b : Bool}, Cx A n → Rel hT ρ L σ s.heap → VR ρ s.heap x a → ih.tv x σ.hp = some (b, hp') →
    Tri prog w hT A L ρ s (truthy a) ⟨hp', σ.loc⟩ (fun zz zz c => c = b)
section
variable {hT : Heap} {ρ : List Addr} {L : Addr} {σ : St} {h : Heap}
theorem Rel.liveL (R : Rel hT ρ L σ h) : (h.get? L).isSome = true := by refine ex1_2 R.ns fun f F zz => ?_; exact Ns.live F
theorem Rel.live (R : Rel hT ρ L σ h) {a : Addr} (ha : a ∈ ρ) : (h.get? a).isSome = true := by
  refine ex2_3 (R.inv.off ha) fun zz zz zz zz x => ?_
  exact x.some
theorem lt_of_live {a : Addr} (e : (h.get? a).isSome = true) : a < h.objs.size := by
  refine ex1_1 (Option.isSome_iff_exists.mp e) fun o e => ?_
  exact Heap.lt_size e
theorem get_size : h.get? h.objs.size = none := by
  cases e : h.get? h.objs.size with
  | none => rfl
  | some o => exact absurd (Heap.lt_size e) (Nat.lt_irrefl _)
end
theorem wpAny_of_code {prog : Program} {w : World} {A : Around} {f : Value} {vs : List Value} {P : Value → Shared → Prop} {s : Shared} (h : codeAny (model prog w) A (.call f ⟨vs, []⟩) (RetR P) s) : wpAny (model prog w) A (call f vs) P No s :=
  wpAny_call (codeAny_mono h fun r s' z => by
    rcases r with e | (v | _ | _ | _) <;> first | exact z | exact z.elim)
section
variable {hT : Heap} {ρ : List Addr} {L : Addr} {σ : St} {h : Heap} {o : Obj}
theorem push_keep : ∀ b o', h.get? b = some o' → (h.push o).get? b = some o' := fun zz zz e => Heap.get?_push_of_some _ e
theorem Step.push {X : List Addr} : Step X ρ h ρ (h.push o) :=
  ⟨List.prefix_refl _, fun b zz e zz zz => push_keep b _ e, fun b e => by
    cases z : h.get? b with
    | none => rw [z] at e; exact ftE e
    | some o' => rw [push_keep b o' z]; rfl, fun zz a b => absurd a b⟩
theorem Rel.push (R : Rel hT ρ L σ h) : Rel hT ρ L σ (h.push o) := by
  refine ex1_2 R.ns fun f F G => ?_
  exact R.grow (fun b o' e zz => push_keep b o' e) ⟨f, F.keeps push_keep, G⟩
end
section
variable {prog : Program} {w : World} {hT : Heap} {A : Around} {L : Addr} {ρ : List Addr} {s : Shared} {σ σ' : St} {env : Env} {ae : AE} {v : AV}
theorem Rel.toks (R : Rel hT ρ L σ s.heap) {t : Nat} : Rel hT ρ L σ ({ s with toks := t } : Shared).heap := R
theorem newTuple_A (R : Rel hT ρ L σ s.heap) {l : List AV} {vs : List Value} (V : VRs ρ s.heap l vs) (hl : lenOk l.length = true) :
    Tri prog w hT A L ρ s (newTuple vs) σ (fun ρ' h' u => VR ρ' h' (.tup l) u) := by
  have h1 := Nat.le_of_ble_eq_true hl
  refine wpAny_newTuple ?_ (by rw [← V.length, sizeLine_eq]; omega)
  refine (Post.mk Step.push R.push ⟨rfl, id⟩ (?_))
  exact .tup l vs _ 0 (Heap.get?_push_size _ rfl) (V.mono (List.prefix_refl _) fun b o e zz => push_keep b o e)
theorem newList_A (R : Rel hT ρ L σ s.heap) {l : List AV} {vs : List Value} (V : VRs ρ s.heap l vs) (hl : lenOk l.length = true) :
    Tri prog w hT A L ρ s (newList vs) ⟨σ.hp ++ [.list l], σ.loc⟩ (fun ρ' h' u => VR ρ' h' (.ref σ.hp.length) u) := by
  have h1 := Nat.le_of_ble_eq_true hl
  refine ex1_3 R.opened fun f F N G => ?_
  refine newList_K F N (fun D h' F' N' lt => ?_) (by rw [← V.length, sizeLine_eq]; omega)
  exact newList_end (n := 0) R V G F' N' (fun p hp => .tail _ hp) lt (.head _)
end
noncomputable def isStar : Expr → Bool
  | .Starred _ _ => true
  | _ => false
theorem starEach_cons {e : Expr} {rest : List Expr} {env : Env} (h : isStar e = false) : starEach (e :: rest) env = (false, eval e env) :: starEach rest env := by
  cases e <;> first | rfl | exact tfE h
noncomputable def evsA (ih : IH) (ae : AE) : List Expr → St → Option (List AV × St)
  | [], σ => some ([], σ)
  | e :: r, σ => bif isStar e then none else (ih.ev ae e σ).bind fun p => (evsA ih ae r p.2).bind fun q => some (p.1 :: q.1, q.2)
noncomputable def boolA (ih : IH) (ae : AE) (op : BoolOp) : List Expr → St → Option (AV × St)
  | [], _ => none
  | [e], σ => ih.ev ae e σ
  | e :: r, σ => (ih.ev ae e σ).bind fun p => (ih.tv p.1 p.2.hp).bind fun q => match op, q.1 with
    | .And, true => boolA ih ae op r ⟨q.2, p.2.loc⟩
    | .And, false => some (p.1, ⟨q.2, p.2.loc⟩)
    | .Or, true => some (p.1, ⟨q.2, p.2.loc⟩)
    | .Or, false => boolA ih ae op r ⟨q.2, p.2.loc⟩
noncomputable def allA (ih : IH) (ae : AE) (op : BoolOp) : List Expr → St → Option (Bool × St)
  | [], σ => match op with
    | .And => some (true, σ)
    | .Or => some (false, σ)
  | e :: r, σ => (ih.tr ae e σ).bind fun q => match op, q.1 with
    | .And, true => allA ih ae op r q.2
    | .And, false => some (false, q.2)
    | .Or, true => some (true, q.2)
    | .Or, false => allA ih ae op r q.2
section
variable {prog : Program} {w : World} {hT : Heap} {A : Around} {L : Addr} {ρ : List Addr} {s : Shared} {σ σ' : St} {env : Env} {ae : AE} {v : AV} {n : Nat} {ih : IH}
theorem Cx.u64 (c : Cx A (n + 3)) : A.units + 64 < cLine := by have := c.units; omega
theorem evsA_sound (I : IOk prog w hT n ih) (c : Cx A n) {pos : Pos} : ∀ {es : List Expr} {l : List AV} {ρ : List Addr} {s : Shared} {σ σ' : St}, Rel hT ρ L σ s.heap → EnvR ρ L ae env → evsA ih ae es σ = some (l, σ') →
    Tri prog w hT A L ρ s (spliced (backTo pos (starEach es env))) σ' (fun ρ' h' vs => VRs ρ' h' l vs)
  | [], l, ρ, s, σ, σ', R, Ev, e => by
    revert e; refine pairC fun h1 h2 => ?_; subst h1; subst h2
    exact spliced_nil (Post.same' R .nil)
  | x :: r, l, ρ, s, σ, σ', R, Ev, e => by
    unfold evsA at e
    revert e; refine condE' fun hx e => ?_
    revert e; refine bindE fun p hp e => ?_
    revert e; refine bindE fun q hq e => ?_
    revert e; refine pairC fun h1 h2 => ?_; subst h1; subst h2
    rw [starEach_cons hx]
    refine spliced_cons ?_
    refine (I.ev c R Ev hp).nx fun ρ₁ s₁ a S R₁ O p₁ => ?_
    refine (evsA_sound I c R₁ (Ev.mono S.pre) hq).nx fun ρ₂ s₂ b S₂ R₂ O₂ p₂ => ?_
    exact (Post.mk (S.trans S₂) R₂ (O.trans O₂) (.cons _ _ _ _ (S₂.vr R₁ p₁) p₂))
theorem boolA_sound (I : IOk prog w hT n ih) (c : Cx A n) {pos : Pos} {op : BoolOp} : ∀ {es : List Expr} {ρ : List Addr} {s : Shared} {σ σ' : St}, Rel hT ρ L σ s.heap → EnvR ρ L ae env → boolA ih ae op es σ = some (v, σ') →
    Tri prog w hT A L ρ s (eval (.BoolOp op es pos) env) σ' (fun ρ' h' u => VR ρ' h' v u)
  | [], ρ, s, σ, σ', R, Ev, e => by exact noneE e
  | [x], ρ, s, σ, σ', R, Ev, e => BoolOp_one (I.ev c R Ev e)
  | x :: y :: r, ρ, s, σ, σ', R, Ev, e => by
    unfold boolA at e
    revert e; refine bindE fun p hp e => ?_
    revert e; refine bindE fun q hq e => ?_
    cases op with
    | And =>
      refine BoolOp_and ?_
      refine (I.ev c R Ev hp).nx fun ρ₁ s₁ a S R₁ O p₁ => ?_
      refine (I.tv c R₁ p₁ hq).nx fun ρ₂ s₂ b S₂ R₂ O₂ p₂ => ?_
      subst p₂
      cases hb : q.1 with
      | true =>
        rw [hb] at e
        rw [if_pos rfl]
        exact Tri.lift (S.trans S₂) (O.trans O₂) (boolA_sound I c R₂ ((Ev.mono S.pre).mono S₂.pre) e)
      | false =>
        rw [hb] at e
        revert e; refine pairC fun h1 h2 => ?_; subst h1; subst h2
        rw [if_neg (by decide)]
        exact (Post.mk (S.trans S₂) R₂ (O.trans O₂) (S₂.vr R₁ p₁))
    | Or =>
      refine BoolOp_or ?_
      refine (I.ev c R Ev hp).nx fun ρ₁ s₁ a S R₁ O p₁ => ?_
      refine (I.tv c R₁ p₁ hq).nx fun ρ₂ s₂ b S₂ R₂ O₂ p₂ => ?_
      subst p₂
      cases hb : q.1 with
      | true =>
        rw [hb] at e
        revert e; refine pairC fun h1 h2 => ?_; subst h1; subst h2
        rw [if_pos rfl]
        exact (Post.mk (S.trans S₂) R₂ (O.trans O₂) (S₂.vr R₁ p₁))
      | false =>
        rw [hb] at e
        rw [if_neg (by decide)]
        exact Tri.lift (S.trans S₂) (O.trans O₂) (boolA_sound I c R₂ ((Ev.mono S.pre).mono S₂.pre) e)
theorem allA_sound (I : IOk prog w hT n ih) (c : Cx A n) {pos : Pos} {whole : Sem Value} {op : BoolOp} {b : Bool} : ∀ {es : List Expr} {ρ : List Addr} {s : Shared} {σ σ' : St}, Rel hT ρ L σ s.heap → EnvR ρ L ae env → allA ih ae op es σ = some (b, σ') →
    Tri prog w hT A L ρ s (isTrue (.BoolOp op es pos) env whole) σ' (fun zz zz c => c = b)
  | [], ρ, s, σ, σ', R, Ev, e => by
    cases op with
    | And => revert e; refine pairC fun h1 h2 => ?_; subst h1; subst h2; exact isTrue_and_nil (Post.same' R rfl)
    | Or => revert e; refine pairC fun h1 h2 => ?_; subst h1; subst h2; exact isTrue_or_nil (Post.same' R rfl)
  | x :: r, ρ, s, σ, σ', R, Ev, e => by
    unfold allA at e
    revert e; refine bindE fun q hq e => ?_
    cases op with
    | And =>
      refine isTrue_and ?_
      refine (I.tr c R Ev hq).nx fun ρ₂ s₂ b' S₂ R₂ O₂ p₂ => ?_
      subst p₂
      cases hb : q.1 with
      | true =>
        rw [hb] at e
        rw [if_pos rfl]
        exact Tri.lift S₂ O₂ (allA_sound I c R₂ (Ev.mono S₂.pre) e)
      | false =>
        rw [hb] at e
        revert e; refine pairC fun h1 h2 => ?_; subst h1; subst h2
        rw [if_neg (by decide)]
        exact (Post.mk S₂ R₂ O₂ rfl)
    | Or =>
      refine isTrue_or ?_
      refine (I.tr c R Ev hq).nx fun ρ₂ s₂ b' S₂ R₂ O₂ p₂ => ?_
      subst p₂
      cases hb : q.1 with
      | true =>
        rw [hb] at e
        revert e; refine pairC fun h1 h2 => ?_; subst h1; subst h2
        rw [if_pos rfl]
        exact (Post.mk S₂ R₂ O₂ rfl)
      | false =>
        rw [hb] at e
        rw [if_neg (by decide)]
        exact Tri.lift S₂ O₂ (allA_sound I c R₂ (Ev.mono S₂.pre) e)
end
inductive TV where
  | boolop (op : BoolOp) (es : List Expr)
  | nott (x : Expr)
  | cmp (op : CmpOp) (l r : Expr)
  | plain
  | const (b : Bool)
  | stop
noncomputable def viewT (e : Expr) : TV := match e with
  | .BoolOp op es _ => .boolop op es
  | .UnaryOp .Not x _ => .nott x
  | .Compare l [op] [r] _ => bif behindInMarks op r then .stop else .cmp op l r
  | .Name _ _ => .plain
  | .Attribute _ _ _ => .plain
  | .Call _ _ _ _ => .plain
  | .Constant (.bool b) _ _ => .const b
  | _ => .stop
inductive TVR : Expr → TV → Prop
  | boolop (op es p) : TVR (.BoolOp op es p) (.boolop op es)
  | nott (x p) : TVR (.UnaryOp .Not x p) (.nott x)
  | cmp (l op r p) : behindInMarks op r = false → TVR (.Compare l [op] [r] p) (.cmp op l r)
  | name (x k) : TVR (.Name x k) .plain
  | att (o x k) : TVR (.Attribute o x k) .plain
  | call (f as ks k) : TVR (.Call f as ks k) .plain
  | const (b k p) : TVR (.Constant (.bool b) k p) (.const b)
  | stop (e) : TVR e .stop
theorem viewT_r (e : Expr) : TVR e (viewT e) := by
  cases e with
  | BoolOp op es p => exact .boolop _ _ _
  | Name x k => exact .name _ _
  | Attribute o x k => exact .att _ _ _
  | Call f as ks k => exact .call _ _ _ _
  | UnaryOp op x p => cases op <;> first | exact .stop _ | exact .nott _ _
  | Compare l ops rs p =>
    rcases ops with _ | ⟨op, _ | ⟨_, _⟩⟩ <;> rcases rs with _ | ⟨r, _ | ⟨_, _⟩⟩ <;> first | exact .stop _ | skip
    show TVR _ (bif behindInMarks op r then .stop else .cmp op l r)
    cases h : behindInMarks op r with
    | true => exact .stop _
    | false => exact .cmp _ _ _ _ h
  | Constant c k p => cases c <;> first | exact .stop _ | exact .const _ _ _
  | _ => exact .stop _
noncomputable def trV (ih : IH) (ae : AE) (e : Expr) (σ : St) (x : TV) : Option (Bool × St) := match x with
  | .boolop op es => allA ih ae op es σ
  | .nott x => (ih.tr ae x σ).bind fun q => some (!q.1, q.2)
  | .cmp op l r => (ih.ev ae l σ).bind fun p => (ih.ev ae r p.2).bind fun q => (cmpA op p.1 q.1 q.2.hp).bind fun b => some (b, q.2)
  | .plain => (ih.ev ae e σ).bind fun p => (ih.tv p.1 p.2.hp).bind fun q => some (q.1, ⟨q.2, p.2.loc⟩)
  | .const b => some (b, σ)
  | .stop => none
noncomputable def trB (ih : IH) (ae : AE) (e : Expr) (σ : St) : Option (Bool × St) := trV ih ae e σ (viewT e)
section
variable {prog : Program} {w : World} {hT : Heap} {A : Around} {L : Addr} {ρ : List Addr} {s : Shared} {σ σ' : St} {env : Env} {ae : AE} {v : AV} {n : Nat} {ih : IH}
theorem trPlain (I : IOk prog w hT n ih) (c : Cx A n) (R : Rel hT ρ L σ s.heap) (Ev : EnvR ρ L ae env) {e : Expr} {b : Bool}
    (h : ((ih.ev ae e σ).bind fun p => (ih.tv p.1 p.2.hp).bind fun q => some (q.1, (⟨q.2, p.2.loc⟩ : St))) = some (b, σ'))
    (he : isTrue e env (eval e env) = (do let v ← eval e env; standAt e.pos; holding [v] (truthy v))) :
    Tri prog w hT A L ρ s (isTrue e env (eval e env)) σ' (fun zz zz c => c = b) := by
  revert h; refine bindE fun p hp h => ?_
  revert h; refine bindE fun q hq h => ?_
  revert h; refine pairC fun h1 h2 => ?_; subst h1; subst h2
  refine isTrue_plain ?_ he
  refine (I.ev c R Ev hp).nx fun ρ₁ s₁ a S R₁ O p₁ => ?_
  exact Tri.lift S O (I.tv c R₁ p₁ hq)
theorem trB_sound (I : IOk prog w hT (n + 3) ih) (c : Cx A (n + 3)) (R : Rel hT ρ L σ s.heap) (Ev : EnvR ρ L ae env) {e : Expr} {b : Bool} (h : trB ih ae e σ = some (b, σ')) :
    Tri prog w hT A L ρ s (isTrue e env (eval e env)) σ' (fun zz zz c => c = b) := by
  have V := viewT_r e
  change trV ih ae e σ (viewT e) = _ at h
  generalize viewT e = x at V h
  cases V with
  | boolop op es p => exact allA_sound I c R Ev h
  | nott x p =>
    revert h
    refine bindE fun q hq h => ?_
    revert h; refine pairC fun h1 h2 => ?_; subst h1; subst h2
    refine isTrue_not ?_
    refine (I.tr c R Ev hq).nx fun ρ₂ s₂ b' S₂ R₂ O₂ p₂ => ?_
    subst p₂
    exact (Post.mk S₂ R₂ O₂ rfl)
  | cmp l op r p hm =>
    revert h
    refine bindE fun p hp h => ?_
    revert h
    refine bindE fun q hq h => ?_
    revert h
    refine bindE fun d hd h => ?_
    revert h; refine pairC fun h1 h2 => ?_; subst h1; subst h2
    refine wpAny_isTrue_Compare1 ?_ hm
    refine (I.ev c R Ev hp).nx fun ρ₁ s₁ a S R₁ O p₁ => ?_
    refine (I.ev c R₁ (Ev.mono S.pre) hq).nx fun ρ₂ s₂ a₂ S₂ R₂ O₂ p₂ => ?_
    refine wpAny_mono (cmpA_sound R₂ c.u64 hd (S₂.vr R₁ p₁) p₂) (fun u s' hu => ?_) fun zz zz x => x
    revert hu; refine fun h0 => ex0_2 h0 fun Z1 Z2 => ?_; clear h0; subst Z1; subst Z2
    exact wpAny_truthy_bool (Post.mk (S.trans S₂) R₂ (O.trans O₂) rfl)
  | name x k => exact trPlain I c R Ev h rfl
  | att o x k => exact trPlain I c R Ev h rfl
  | call f as ks k => exact trPlain I c R Ev h rfl
  | const b k p =>
    revert h; refine pairC fun h1 h2 => ?_; subst h1; subst h2
    exact isTrue_plain (Constant_bool (wpAny_truthy_bool (Post.same' R rfl)))
  | stop => exact noneE h
end
end Mine
namespace Mine
noncomputable def ixA (n : Nat) (k : Int) : Option Nat :=
  bif W.Z.leB 0 k then (bif Nat.blt k.toNat n then some k.toNat else none) else (bif W.Z.leB 0 (k + (n : Int)) then some (k + (n : Int)).toNat else none)
theorem ixA_some {n j : Nat} {k : Int} (e : ixA n k = some j) : seqIndex? k n = some j ∧ j < n ∧ -(n : Int) ≤ k ∧ k < n := by
  unfold ixA at e
  cases h : W.Z.leB 0 k with
  | true =>
    have h0 := (W.Z.leB_iff _ _).mp h
    rw [h, cond_true] at e
    revert e; refine condE fun h1 e => ?_
    revert e; refine someC fun h => ?_; subst h
    have h2 := Nat.le_of_ble_eq_true h1
    refine ⟨?_, by omega, by omega, by omega⟩
    unfold seqIndex?
    have a : ¬ k < 0 := by omega
    have b : k < (n : Int) := by omega
    simp [a, b, h0]
  | false =>
    have h0 : ¬ 0 ≤ k := fun q => by rw [(W.Z.leB_iff _ _).mpr q] at h; exact tfE h
    rw [h, cond_false] at e
    revert e; refine condE fun h1 e => ?_
    have h2 := (W.Z.leB_iff _ _).mp h1
    revert e; refine someC fun h => ?_; subst h
    refine ⟨?_, by omega, by omega, by omega⟩
    unfold seqIndex?
    have a : k < 0 := by omega
    have b : k + (n : Int) < (n : Int) := by omega
    simp [a, b, h2]
theorem VRs.get {ρ : List Addr} {h : Heap} {l : List AV} {vs : List Value} (V : VRs ρ h l vs) : ∀ {j : Nat} {x : AV}, l[j]? = some x → ∃ u, vs[j]? = some u ∧ VR ρ h x u :=
  VRs.ind (P := fun l vs => ∀ {j : Nat} {x : AV}, l[j]? = some x → ∃ u, vs[j]? = some u ∧ VR ρ h x u) (fun e => noneE e) (fun x v l vs a zz ih j y e => by
    cases j with
    | zero => revert e; refine someC fun h => ?_; subst h; exact ⟨v, rfl, a⟩
    | succ j => exact ih e) V
noncomputable def atI (l : List AV) (k : Int) : Option AV := bif lenOk l.length then (ixA l.length k).bind fun j => l[j]? else none
noncomputable def atS (l : List Nat) (k : Int) : Option AV := bif lenOk l.length then (ixA l.length k).bind fun j => (l[j]?).bind fun c => some (.str [c]) else none
noncomputable def subX (x : AV) (k : Int) (hp : List AO) : Option AV := match x with
  | .ref r => (gL hp r).bind fun l => atI l k
  | .tup l => atI l k
  | .str l => atS l k
  | _ => none
noncomputable def subA (x i : AV) (hp : List AO) : Option AV := (theI i).bind fun k => subX x k hp
noncomputable def isNA : AV → Bool
  | .none => true
  | _ => false
theorem isNA_ok {x : AV} (h : isNA x = true) : x = .none := by cases x <;> first | exact ftE h | rfl
noncomputable def sliceL (l : List AV) (lo hi st : AV) : Option (List AV) := bif isNA hi then
  bif isNA lo then (theI st).bind fun k => bif W.Z.eqB k (-1) then some l.reverse else none
  else bif isNA st then (theI lo).bind fun a => bif W.Z.leB 0 a then some (l.drop a.toNat) else none else none
  else none
theorem filterMap_all {α β γ : Type} (f : α → β) (g : β → Option γ) (k : α → γ) : ∀ l : List α, (∀ x ∈ l, g (f x) = some (k x)) → (l.map f).filterMap g = l.map k
  | [], _ => rfl
  | x :: r, h => by
    rw [List.map_cons, List.filterMap_cons, h x (.head _), List.map_cons, filterMap_all f g k r fun y hy => h y (.tail _ hy)]
theorem range_rev (items : List Value) : ((List.range items.length).map fun (k : Nat) => ((items.length : Int) - 1 + -1 * (k : Int)).toNat).filterMap (items.toArray[·]?) = items.reverse := by
  apply List.ext_getElem?
  intro i
  have e : ((List.range items.length).map fun (k : Nat) => ((items.length : Int) - 1 + -1 * (k : Int)).toNat).filterMap (items.toArray[·]?) = (List.range items.length).map fun k => items[items.length - 1 - k]! := by
    refine filterMap_all _ _ _ _ fun k hk => ?_
    have := List.mem_range.mp hk
    have q : ((items.length : Int) - 1 + -1 * (k : Int)).toNat = items.length - 1 - k := by omega
    rw [q]
    have : items.length - 1 - k < items.length := by omega
    simp [this]
  rw [e]
  by_cases h : i < items.length
  · have h' : items.length - 1 - i < items.length := by omega
    rw [List.getElem?_map, List.getElem?_range h, List.getElem?_reverse h]
    simp [h']
  · rw [List.getElem?_eq_none (by simp; omega), List.getElem?_eq_none (by simp; omega)]
theorem slicePick_rev (items : List Value) : slicePick items.toArray none none (some (-1)) = items.reverse.toArray := by
  unfold slicePick
  have hb : sliceBounds none none (some (-1)) items.toArray.size = ((items.length : Int) - 1, -1, -1) := by
    rw [List.size_toArray]; rfl
  rw [hb]
  unfold sliceRange
  have : ((if (-1 : Int) > 0 then (if ((items.length : Int) - 1) < -1 then (-1 - ((items.length : Int) - 1) + -1 - 1) / -1 else 0)
                     else (if ((items.length : Int) - 1) > -1 then (((items.length : Int) - 1) - -1 - -1 - 1) / (-(-1)) else 0)) : Int).toNat = items.length := by
    rw [if_neg (by decide)]
    split
    · have : ((((items.length : Int) - 1) - -1 - -1 - 1) / (-(-1)) : Int) = items.length := by
        have e : (-(-1) : Int) = 1 := rfl
        rw [e, Int.ediv_one]; omega
      rw [this]; rfl
    · omega
  simp only [this]
  rw [range_rev]
theorem VRs.rev {ρ : List Addr} {h : Heap} {l : List AV} {vs : List Value} (V : VRs ρ h l vs) : VRs ρ h l.reverse vs.reverse :=
  VRs.ind (P := fun l vs => VRs ρ h l.reverse vs.reverse) .nil (fun x v l vs a zz ih => by rw [List.reverse_cons, List.reverse_cons]; exact ih.append (.cons _ _ _ _ a .nil)) V
theorem VRs.drop {ρ : List Addr} {h : Heap} {l : List AV} {vs : List Value} (n : Nat) (V : VRs ρ h l vs) : VRs ρ h (l.drop n) (vs.drop n) :=
  VRs.ind (P := fun l vs => ∀ n, VRs ρ h (l.drop n) (vs.drop n)) (fun n => by cases n <;> exact .nil) (fun x v l vs a r ih n => by
    cases n with
    | zero => exact .cons _ _ _ _ a r
    | succ n => exact ih n) V n
theorem VRs.take {ρ : List Addr} {h : Heap} {l : List AV} {vs : List Value} (n : Nat) (V : VRs ρ h l vs) : VRs ρ h (l.take n) (vs.take n) :=
  VRs.ind (P := fun l vs => ∀ n, VRs ρ h (l.take n) (vs.take n)) (fun n => by cases n <;> exact .nil) (fun x v l vs a r ih n => by
    cases n with
    | zero => exact .nil
    | succ n => exact .cons _ _ _ _ a (ih n)) V n
theorem sliceL_some {ρ : List Addr} {h : Heap} {l l' : List AV} {vs : List Value} {lo hi st : AV} {a b c : Value} (e : sliceL l lo hi st = some l') (V : VRs ρ h l vs) (X : VR ρ h lo a) (Y : VR ρ h hi b) (Z : VR ρ h st c) :
    ∃ lo' hi' st', IsPart a lo' ∧ IsPart b hi' ∧ IsPart c st' ∧ st' ≠ some 0 ∧ ∃ us : List Value, slicePick vs.toArray lo' hi' st' = us.toArray ∧ VRs ρ h l' us := by
  revert e
  refine condE fun h1 e => ?_
  cases isNA_ok h1
  revert Y; refine vrNone ?_; intro h; subst h
  cases k : isNA lo with
  | true =>
    rw [k] at e
    cases isNA_ok k
    revert X; refine vrNone ?_; intro h; subst h
    revert e
    refine bindE fun z hz e => ?_
    revert e
    refine condE fun h2 e => ?_
    cases theI_ok hz
    cases (W.Z.eqB_iff _ _).mp h2
    revert e; refine someC fun h => ?_; subst h; revert Z; refine vrInt ?_; intro _ h; subst h
    exact ⟨_, _, _, .none, .none, .int _ _, by decide, _, slicePick_rev vs, V.rev⟩
  | false =>
    rw [k] at e
    revert e
    refine condE fun h2 e => ?_
    cases isNA_ok h2
    revert Z; refine vrNone ?_; intro h; subst h
    revert e
    refine bindE fun z hz e => ?_
    revert e
    refine condE fun h2 e => ?_
    cases theI_ok hz
    revert e; refine someC fun h => ?_; subst h; revert X; refine vrInt ?_; intro _ h; subst h
    refine ex1_1 (Int.eq_ofNat_of_zero_le ((W.Z.leB_iff _ _).mp h2)) fun a Z1 => ?_; subst Z1
    exact ⟨_, _, _, .int _ _, .none, .none, by decide, _, slicePick_from' vs.toArray a, V.drop a⟩
section
variable {prog : Program} {w : World} {hT : Heap} {A : Around} {L : Addr} {ρ : List Addr} {s : Shared} {σ σ' : St} {env : Env} {ae : AE} {v : AV} {n : Nat} {ih : IH}
set_option tactic.hygienic true in
theorem getItem_A (R : Rel hT ρ L σ s.heap) {x i : AV} {a b : Value} (e : subA x i σ.hp = some v) (X : VR ρ s.heap x a) (Y : VR ρ s.heap i b) :
    ∃ T id, typeLookup (.type T) "__getitem__" = pure (some (.builtin id)) ∧ s.TypeIs a T ∧ Tri prog w hT A L ρ s (getItem a b) σ (fun ρ' h' u => VR ρ' h' v u) := by
  revert e
  refine bindE fun k hk e => ?_
  rw [theI_ok hk] at Y
  clear hk
  cases x <;> first | exact noneE e | skip
  rotate_right
  · rename_i r
    · revert e; refine bindE fun l hl e => ?_
      have hl := gL_ok hl
      revert e; refine condE fun h1 e => ?_
      revert e; refine bindE fun j hj e => ?_
      have h1' := Nat.le_of_ble_eq_true h1
      refine ex0_4 (ixA_some hj) fun q1 q2 q3 q4 => ?_
      refine ex3_3 (list_reads R.inv hl X) fun a' vs m Z1 g W => ?_; subst Z1
      revert Y; refine vrInt ?_; intro _ h; subst h
      refine ex1_2 (W.get e) fun u hu U => ?_
      have IL := isList_of g
      refine ⟨"list", _, list_getitem_lookup, IL.typeIs, ?_⟩
      have fin := Post.same' (σ := σ) (P := fun ρ' h' u => VR ρ' h' v u) R U
      by_cases h0 : 0 ≤ k
      · refine wpAny_getItem_list IL h0 (by omega) ?_ fin
        have : k.toNat = j := by
          unfold seqIndex? at q1
          have a : ¬ k < 0 := by omega
          simp [a, h0, q4] at q1; exact q1
        rw [this]; simpa using hu
      · refine wpAny_getItem_list_neg IL (by omega) (by rw [List.size_toArray, ← W.length]; omega) (by omega) ?_ fin
        rw [List.size_toArray, ← W.length]
        have : (k + (l.length : Int)).toNat = j := by
          unfold seqIndex? at q1
          have a : k < 0 := by omega
          have b : 0 ≤ k + (l.length : Int) := by omega
          simp [a, b] at q1; exact q1.2
        rw [this]; simpa using hu
  rotate_right
  · rename_i l
    revert e; refine condE fun h1 e => ?_
    revert e; refine bindE fun j hj e => ?_
    have h1' := Nat.le_of_ble_eq_true h1
    refine ex0_4 (ixA_some hj) fun q1 q2 q3 q4 => ?_
    revert Y; refine vrInt ?_; intro _ h; subst h
    cases X with
    | tup _ vs a m g W =>
      refine ex1_2 (W.get e) fun u hu U => ?_
      have IT : IsTup s.heap a vs.toArray := ⟨_, g, rfl, _, rfl⟩
      refine ⟨"tuple", _, slot_tuple_getitem.lookup, IT.typeIs, ?_⟩
      exact getItem_tuple IT (by omega) (by omega) (by rw [List.size_toArray, ← W.length]; exact q1) (by simpa using hu) (Post.same' R U)
  · rename_i l
    revert e; refine condE fun h1 e => ?_
    revert e; refine bindE fun j hj e => ?_
    revert e; refine bindE fun c hc e => ?_
    revert e; refine someC fun h => ?_; subst h
    have h1' := Nat.le_of_ble_eq_true h1
    refine ex0_4 (ixA_some hj) fun q1 q2 q3 q4 => ?_
    revert Y; refine vrInt ?_; intro _ h; subst h
    revert X; refine vrStr ?_; intro _ h; subst h
    refine ⟨"str", _, F.slot_str_getitem.lookup, typeIs_str _ _ _, ?_⟩
    refine getItem_str (c := c) ?_ ?_ (Post.same R (.str [c] _))
    · rw [Bool.or_eq_false_iff]; exact ⟨decide_eq_false (by omega), decide_eq_false (by omega)⟩
    · rw [str_len, q1]; simpa using hc
end
end Mine
namespace Mine
section
variable {prog : Program} {w : World} {A : Around} {E : Value → Shared → Prop} {s : Shared} {K : Frag} {x C : Addr} {ox : Obj} {od : Option Obj} {name : Str} {M : Model}
theorem check_L {i n : String} {self : Value} {rest : List Value} {Q : Unit → Shared → Prop} (hk : builtinKind i = some .slot ∨ builtinKind i = some .method) (hs : splitId i = some ("list", n)) (hi : Looks M s.heap (isInstance self (.type "list")) true) (ha : argsOk i ⟨self :: rest, []⟩) (q : Q () s) :
    wpAny M A (checkBuiltinCall i ⟨self :: rest, []⟩) Q E s := by
  have fin : wpAny M A (match Manifest.signature? i with | some sig => Bind.checkArgs i sig ⟨self :: rest, []⟩ | none => pure ()) Q E s := by
    unfold argsOk at ha
    cases hsig : Manifest.signature? i with
    | none => exact wpAny_pure q
    | some sig =>
      simp only [hsig] at ha
      show wpAny M A (Bind.checkArgs i sig ⟨self :: rest, []⟩) Q E s
      rw [ha]; exact wpAny_pure q
  rcases hk with hk | hk
  · simp only [checkBuiltinCall, hk, hs]
    refine wpAny_bind (hi.here ?_)
    first | exact fin | (cases hsig : Manifest.signature? i <;> simp only [hsig] at fin ⊢ <;> exact fin)
  · simp only [checkBuiltinCall, hk, hs]
    refine wpAny_bind (hi.here ?_)
    first | exact fin | (cases hsig : Manifest.signature? i <;> simp only [hsig] at fin ⊢ <;> exact fin)
structure ClsOk (K : Frag) (C : Addr) : Prop where
  ga : findIn K (.ref C) "__getattribute__" = some (some (.builtin "object.__getattribute__")) ∨ (findIn K (.ref C) "__getattribute__" = some (some (.builtin "list.__getattribute__")) ∧ subIn K (.ref C) (.type "list") = some true)
  hook : findIn K (.ref C) "__getattr__" = some none
theorem ga_kind : builtinKind "list.__getattribute__" = some .slot := by decide +kernel
theorem ga_split : splitId "list.__getattribute__" = some ("list", "__getattribute__") := by decide +kernel
theorem oga_eq (a : Value) (name : Str) (t : Tok) : ∃ k : Value → Builtin.ObjectAttr.Found → Sem Fin, (∀ tp v, k tp (.value v) = ret v) ∧ Builtin.«object.__getattribute__» ⟨[a, .str name t], []⟩ = (typeOf a >>= fun tp => Builtin.ObjectAttr.find a tp name >>= k tp) :=
  ⟨_, fun zz zz => rfl, rfl⟩
theorem get_ownA {expr : Bool} {v : Value} {Q : Value → Shared → Prop} (X : K.In s.heap) (I : InstAt s.heap x ox C od) (O : ClsOk K C) (hf : findObj K C od name = some (.value v)) (hh : handedIn v = true) (h : Q v { s with toks := s.toks + 1 }) :
    wpAny (model prog w) A (getAttr (.ref x) name expr) Q E s := by
  rcases O.ga with hga | ⟨hga, hsub⟩
  · exact get_value X I hga hf hh h
  · obtain ⟨hp, g, d, t, os⟩ := s
    have L0 := I.type (M := model prog w)
    have L1 := looks_findIn (M := model prog w) X hga
    have L2 := looks_findIn (M := model prog w) X O.hook
    have L3 := looks_find (M := model prog w) X I hf
    have Ls : Looks (model prog w) hp (isInstance (.ref x) (.type "list")) true := L0.andThen (looks_subIn X hsub)
    unfold getAttr getAttrBy
    refine wpAny_bind (wpAny_mkText (wpAny_holding (wpAny_bind (L0.at (wpAny_bind (L1.at ?_))))))
    show wpAny _ _ (getAttrByItsOwn _ _ _ _ _ _) _ _ _
    refine wpAny_bind (L2.at (wpAny_bind (wpAny_attempt (wpAny_holding ?_))))
    have hcall : wpAny (model prog w) A (call (.builtin "list.__getattribute__") [.ref x, .str name t]) (fun a s' => wpAny (model prog w) A (handedOut a) Q E s') (fun zz zz => False) ⟨hp, g, d, t + 1, os⟩ := by
      refine wpAny_call (codeAny_call_builtin PySem.F.slot_list_getattribute.plain PySem.F.entry_list_ga (check_L (M := model prog w) (s := ⟨hp, g, d, t + 1, os⟩) (i := "list.__getattribute__") (n := "__getattribute__") (self := .ref x) (rest := [.str name t]) (.inl ga_kind) ga_split Ls (PySem.F.args_list_getattribute_2 _ _) ?_))
      refine ex1_2 (oga_eq (.ref x) name t) fun k hk ek => ?_
      rw [ek]
      refine wpAny_bind (L0.at (wpAny_bind (L3.at ?_)))
      rw [hk]
      refine wpAny_pure ?_
      show wpAny _ _ (handedOut v) _ _ _
      rw [handedOut_of hh]; exact wpAny_pure h
    show wpAny _ _ (callGetattribute _ _ _ _) _ _ _
    unfold callGetattribute
    rw [if_neg (by simp [onTheHeap])]
    unfold boundAndCalled
    rw [PySem.F.slot_list_getattribute.bind]
    exact wpAny_bind (wpAny_pure (wpAny_mono hcall (fun a s' z => z) fun zz zz z => z.elim))
theorem canon_list : (Manifest.canonical "list.__getattribute__" != "object.__getattribute__") = false := by decide +kernel
theorem canon_ga {g : String} (h : g = "object.__getattribute__" ∨ g = "list.__getattribute__") : (Manifest.canonical g != "object.__getattribute__") = false := by
  rcases h with rfl | rfl
  · exact PySem.F.canon_object_ga
  · exact canon_list
theorem methodA {pl : Sem Bool} {f : Value} {tf : String} {Q : Value × List Value → Shared → Prop} (X : K.In s.heap) (I : InstAt s.heap x ox C od) (O : ClsOk K C) (hf : findIn K (.ref C) name = some (some f)) (ht : typeIn K f = some (.type tf)) (htf : tf = "function" ∨ tf = "method_descriptor")
    (hs : shadowIn od name = some false) (h : Q (f, [.ref x]) s) : wpAny (model prog w) A (getMethod (.ref x) name pl) Q E s := by
  have hga : ∃ g, (g = "object.__getattribute__" ∨ g = "list.__getattribute__") ∧ findIn K (.ref C) "__getattribute__" = some (some (.builtin g)) := by
    rcases O.ga with q | ⟨q, _⟩
    · exact ⟨_, .inl rfl, q⟩
    · exact ⟨_, .inr rfl, q⟩
  revert hga; refine fun h0 => ex1_2 h0 fun g hg hga => ?_; clear h0
  have hcan := canon_ga hg
  unfold getMethod specialOf
  refine wpAny_bind (wpAny_bind (I.type.here ((looks_findIn X hga).here ?_)))
  dsimp only
  rw [hcan, if_neg (by decide)]
  refine wpAny_bind (wpAny_bind (I.type.here ((looks_findIn X O.hook).here ?_)))
  refine wpAny_bind (wpAny_bind (I.type.here ((looks_findIn X hf).here (wpAny_bind ((looks_typeIn X ht).here ?_)))))
  rw [if_neg (by rcases htf with rfl | rfl <;> decide +kernel)]
  refine wpAny_bind (wpAny_loadPart I.at_ ?_)
  have hd := I.dict
  cases e : ox.dict with
  | none => exact wpAny_bind (wpAny_rule (wpAny_pure h))
  | some dx =>
    cases od with
    | none => rw [e] at hd; exact hd.elim
    | some o =>
      rw [e] at hd
      refine ex1_2 (Option.map_eq_some_iff.mp hs) fun r a b => ?_
      refine wpAny_bind (wpAny_bind (wpAny_loadPart hd ?_))
      rw [nsLook_of a]
      refine wpAny_pure ?_
      rw [b]
      exact wpAny_bind (wpAny_rule (wpAny_pure h))
end
end Mine
section
open PySem.Builtin.List
namespace Mine
theorem k_append : builtinKind "list.append" = some .method := by decide +kernel
theorem k_pop : builtinKind "list.pop" = some .method := by decide +kernel
theorem k_len : builtinKind "list.__len__" = some .slot := by decide +kernel
theorem k_getitem : builtinKind "list.__getitem__" = some .method := by decide +kernel
theorem k_setitem : builtinKind "list.__setitem__" = some .slot := by decide +kernel
theorem k_init : builtinKind "list.__init__" = some .slot := by decide +kernel
theorem p_append : splitId "list.append" = some ("list", "append") := by decide +kernel
theorem p_pop : splitId "list.pop" = some ("list", "pop") := by decide +kernel
theorem p_len : splitId "list.__len__" = some ("list", "__len__") := by decide +kernel
theorem p_getitem : splitId "list.__getitem__" = some ("list", "__getitem__") := by decide +kernel
theorem p_setitem : splitId "list.__setitem__" = some ("list", "__setitem__") := by decide +kernel
theorem p_init : splitId "list.__init__" = some ("list", "__init__") := by decide +kernel
section
variable {prog : Program} {w : World} {A : Around} {E : Value → Shared → Prop} {s : Shared} {K : Frag} {x C : Addr} {ox : Obj} {od : Option Obj} {name : Str} {M : Model}
theorem callL {id nm : String} {b : Builtin} {rest : List Value} {Q : Value → Shared → Prop} (X : K.In s.heap) (I : InstAt s.heap x ox C od) (hsub : subIn K (.ref C) (.type "list") = some true) (hq : plainId id = true) (hb : entryFor table id = some b)
    (hk : builtinKind id = some .slot ∨ builtinKind id = some .method) (hs : splitId id = some ("list", nm)) (ha : argsOk id ⟨.ref x :: rest, []⟩)
    (h : wpAny (model prog w) A.in1 (b ⟨.ref x :: rest, []⟩) (fun fin s' => ∃ v, fin = .done (.ret v) ∧ Q v s') E s) : wpAny (model prog w) A (call (.builtin id) (.ref x :: rest)) Q E s := by
  have Ls : Looks (model prog w) s.heap (isInstance (.ref x) (.type "list")) true := (I.type (M := model prog w)).andThen (looks_subIn X hsub)
  refine wpAny_call (codeAny_call_builtin hq hb (check_L (M := model prog w) (s := s) (i := id) (n := nm) (self := .ref x) (rest := rest) hk hs Ls ha ?_))
  refine wpAny_mono h (fun fin s' z => ?_) fun zz zz z => z
  revert z; refine fun h0 => ex1_2 h0 fun v Z1 q => ?_; clear h0; subst Z1
  exact q
theorem specL {T id : String} {args : List Value} {Q : Option Value → Shared → Prop} (X : K.In s.heap) (I : InstAt s.heap x ox C od) (hs : findIn K (.ref C) name = some (some (.builtin id))) (S : Slot T name id)
    (h : wpAny M A (call (.builtin id) (.ref x :: args)) (fun v => Q (some v)) E s) : wpAny M A (callSpecial? (.ref x) name args) Q E s := by
  refine wpAny_bind (wpAny_bind (I.type.here ((looks_findIn X hs).here (wpAny_holding ?_))))
  rw [S.bind]
  exact wpAny_bind (wpAny_pure (wpAny_bind (wpAny_mono h (fun zz zz z => wpAny_pure z) fun zz zz z => z)))
variable {items : Array Value} {n : Nat}
theorem b_len {Q : Value → Shared → Prop} (ho : s.heap.get? x = some ox) (hd : ox.data = .seq items n) (h : Q (.int items.size s.toks) { s with toks := s.toks + 1 }) :
    wpAny (model prog w) A (Builtin.«list.__len__» ⟨[.ref x], []⟩) (fun fin s' => ∃ v, fin = .done (.ret v) ∧ Q v s') E s := by
  show wpAny _ _ (seqSize x >>= fun k => retInt k) _ _ s
  unfold seqSize
  refine wpAny_bind (wpAny_bind (wpAny_loadPart ho ?_))
  rw [hd]
  exact wpAny_pure (wpAny_bind (wpAny_mkInt (wpAny_pure ⟨_, rfl, h⟩)))
theorem b_append {v : Value} {Q : Value → Shared → Prop} (ho : s.heap.get? x = some ox) (hd : ox.data = .seq items n) (hz : items.size ≤ sizeLine) (h : Q .none { s with heap := s.heap.update x (Obj.mapSeq (·.push v)) }) :
    wpAny (model prog w) A (Builtin.«list.append» ⟨[.ref x, v], []⟩) (fun fin s' => ∃ v, fin = .done (.ret v) ∧ Q v s') E s := by
  show wpAny _ _ (updateSeq x (·.push v) >>= fun zz => ret .none) _ _ s
  exact wpAny_bind (wpAny_updateSeq ho hd (wpAny_pure ⟨.none, rfl, h⟩) hz (by simp; omega))
theorem b_init {Q : Value → Shared → Prop} (ho : s.heap.get? x = some ox) (hd : ox.data = .seq #[] n) (h : Q .none { s with heap := s.heap.update x (Obj.mapSeq fun zz => #[]) }) :
    wpAny (model prog w) A (Builtin.«list.__init__» ⟨[.ref x], []⟩) (fun fin s' => ∃ v, fin = .done (.ret v) ∧ Q v s') E s := by
  show wpAny _ _ (listItems (.ref x) >>= fun old => listUpdate (.ref x) (fun zz => #[]) >>= fun zz => letGo old.toList.reverse >>= fun zz => ret .none) _ _ s
  unfold listItems
  refine wpAny_bind (wpAny_bind (wpAny_seqItems ho hd (wpAny_pure ?_)))
  exact wpAny_bind (wpAny_updateSeq ho hd (wpAny_bind (wpAny_pure (wpAny_pure ⟨.none, rfl, h⟩))) (by simp) (by simp))
theorem b_pop {l : List Value} {v : Value} {Q : Value → Shared → Prop} (ho : s.heap.get? x = some ox) (hd : ox.data = .seq (l ++ [v]).toArray n) (hz : l.length + 1 ≤ sizeLine)
    (h : Q v { s with heap := s.heap.update x (Obj.mapSeq (·.eraseIdxIfInBounds l.length)) }) :
    wpAny (model prog w) A (Builtin.«list.pop» ⟨[.ref x], []⟩) (fun fin s' => ∃ v, fin = .done (.ret v) ∧ Q v s') E s := by
  have e1 : selfAndSome "list.pop" "pop" 0 1 ⟨[.ref x], []⟩ = pure (Value.ref x, []) := rfl
  unfold Builtin.«list.pop»
  rw [e1]
  refine wpAny_bind (wpAny_pure (wpAny_bind (wpAny_pure ?_)))
  dsimp only
  rw [if_neg (by decide)]
  unfold listItems
  refine wpAny_bind (wpAny_bind (wpAny_seqItems ho hd (wpAny_pure ?_)))
  rw [if_neg (by simp)]
  have q : ((seqIndex? (-1) (l ++ [v]).toArray.size).bind fun k => (l ++ [v]).toArray[k]?.map (k, ·)) = some (l.length, v) := by
    have : seqIndex? (-1) (l ++ [v]).toArray.size = some l.length := by
      unfold seqIndex?
      simp
      have : (-1 + ((l.length : Int) + 1)) = l.length := by omega
      rw [this]; simp; omega
    rw [this]; simp
  rw [q]
  exact wpAny_bind (wpAny_updateSeq ho hd (wpAny_pure ⟨v, rfl, h⟩) (by simpa using hz) (Nat.le_trans (by simp [List.length_eraseIdx]) (Nat.le_succ_of_le hz)))
theorem b_item {k : Int} {tk : Tok} {v : Value} {Q : Value → Shared → Prop} (ho : s.heap.get? x = some ox) (hd : ox.data = .seq items n) (h0 : 0 ≤ k) (hfit : k < 2 ^ 63) (hx : items[k.toNat]? = some v) (h : Q v s) :
    wpAny (model prog w) A (Builtin.«list.__getitem__» ⟨[.ref x, .int k tk], []⟩) (fun fin s' => ∃ v, fin = .done (.ret v) ∧ Q v s') E s := by
  show wpAny _ _ (listSubscript? (.int k tk) >>= _) _ _ s
  refine wpAny_bind (wpAny_listSubscript_int (fitsIndex_of h0 hfit) ?_)
  clear hfit
  refine ex1_1 (Int.eq_ofNat_of_zero_le h0) fun j Z1 => ?_; subst Z1
  have hx' : items[j]? = some v := hx
  show wpAny _ _ ((seqItemAt x j >>= fun r => pure (r.map (j, ·))) >>= _) _ _ s
  refine wpAny_bind (wpAny_bind (wpAny_seqItemAt ho hd (wpAny_pure ?_)))
  rw [hx']
  exact wpAny_pure ⟨v, rfl, h⟩
theorem slice_opened {β : Type} {sl : Addr} {vl vu vs : Value} {lo hi st : Option Int} {Q : β → Shared → Prop} {k : Value × Value × Value → Sem β} (hs : s.heap.IsSliceOf sl vl vu vs) (pl : IsPart vl lo) (pu : IsPart vu hi) (ps : IsPart vs st) (h0 : st ≠ some 0)
    (h : wpAny M A (k (rawPart lo, rawPart hi, rawPart st)) Q E s) : wpAny M A (listSliceParts (.ref sl) >>= k) Q E s := by
  refine ex1_3 (id hs) fun os hos hcs hds => ?_
  rw [listSliceParts_eq]
  have hstep : ¬ ((rawPart st == rawInt 0) = true) := by
    cases st with
    | none => exact Bool.false_ne_true
    | some c =>
      intro hh
      have : c = 0 := by simpa [rawPart, rawInt] using hh
      exact h0 (by rw [this])
  refine wpAny_bind (wpAny_bind (wpAny_field hos hds (x := vs) rfl (wpAny_bind (wpAny_listPart ps ?_))))
  rw [if_neg hstep]
  refine wpAny_bind (wpAny_field hos hds (x := vl) rfl (wpAny_bind (wpAny_listPart pl ?_)))
  exact wpAny_bind (wpAny_field hos hds (x := vu) rfl (wpAny_bind (wpAny_listPart pu (wpAny_pure h))))
theorem b_slice {sl : Addr} {vl vu vs : Value} {lo hi st : Option Int} {Q : Value → Shared → Prop} (ho : s.heap.get? x = some ox) (hd : ox.data = .seq items n) (hs : s.heap.IsSliceOf sl vl vu vs) (pl : IsPart vl lo) (pu : IsPart vu hi) (ps : IsPart vs st) (h0 : st ≠ some 0)
    (h : Q (.ref s.heap.objs.size) { s with heap := s.heap.push { cls := .type "list", data := .seq (slicePick items lo hi st) } }) (hsz : items.size ≤ sizeLine) :
    wpAny (model prog w) A (Builtin.«list.__getitem__» ⟨[.ref x, .ref sl], []⟩) (fun fin s' => ∃ v, fin = .done (.ret v) ∧ Q v s') E s := by
  refine ex1_3 (id hs) fun os hos hcs hds => ?_
  have hTs : s.TypeIs (.ref sl) "slice" := ⟨os, hos, hcs⟩
  show wpAny _ _ (listSubscript? (.ref sl) >>= _) _ _ s
  refine wpAny_bind ?_
  unfold listSubscript?
  refine wpAny_bind (wpAny_specialOf hTs slice_no_index ?_)
  simp only [Option.isNone_none, if_true]
  refine wpAny_pure ?_
  show wpAny _ _ (typeOf (.ref sl) >>= _) _ _ s
  refine wpAny_bind (wpAny_typeOf hTs ?_)
  rw [if_neg (by decide)]
  refine slice_opened hs pl pu ps h0 ?_
  refine wpAny_bind (m := listItems (.ref x)) ?_
  unfold listItems
  refine wpAny_bind (wpAny_seqItems ho hd (wpAny_pure ?_))
  refine wpAny_bind (wpAny_of_eq (sliceIndices_raw lo hi st items.size h0) ?_)
  exact wpAny_bind (wpAny_newObj_type (wpAny_pure ⟨_, rfl, h⟩) (Nat.le_trans (slicePick_size_le items lo hi st) hsz))
theorem b_setslice {sl y : Addr} {vl : Value} {lo : Option Int} {a : Nat} {oy : Obj} {new : Array Value} {ny : Nat} {Q : Value → Shared → Prop} (ho : s.heap.get? x = some ox) (hd : ox.data = .seq items n) (hs : s.heap.IsSliceOf sl vl .none .none) (pl : IsPart vl lo)
    (hlo : lo = none ∧ a = 0 ∨ lo = some (a : Int)) (ha : a ≤ items.size)
    (hy : s.heap.get? y = some oy) (cy : oy.cls = .type "list") (dy : oy.data = .seq new ny) (hsz : items.size + new.size ≤ sizeLine)
    (h : Q .none { s with heap := s.heap.update x (Obj.mapSeq fun xs => xs.extract 0 a ++ new ++ xs.extract items.size xs.size) }) :
    wpAny (model prog w) A (Builtin.«list.__setitem__» ⟨[.ref x, .ref sl, .ref y], []⟩) (fun fin s' => ∃ v, fin = .done (.ret v) ∧ Q v s') E s := by
  refine ex1_3 (id hs) fun os hos hcs hds => ?_
  have hTs : s.TypeIs (.ref sl) "slice" := ⟨os, hos, hcs⟩
  show wpAny _ _ (listSubscript? (.ref sl) >>= _) _ _ s
  refine wpAny_bind ?_
  unfold listSubscript?
  refine wpAny_bind (wpAny_specialOf hTs slice_no_index ?_)
  simp only [Option.isNone_none, if_true]
  refine wpAny_pure ?_
  show wpAny _ _ (typeOf (.ref sl) >>= _) _ _ s
  refine wpAny_bind (wpAny_typeOf hTs ?_)
  rw [if_neg (by decide)]
  refine slice_opened hs pl .none .none (by decide) ?_
  have li : wpAny (model prog w) A (listItems (.ref y)) (fun z s' => z = new ∧ s' = s) E s := by
    unfold listItems
    exact wpAny_bind (wpAny_seqItems hy dy (wpAny_pure ⟨rfl, rfl⟩))
  have la : wpAny (model prog w) A (listAllItems (.ref y) "must assign iterable to extended slice") (fun z s' => z = new ∧ s' = s) E s := by
    unfold listAllItems
    have hTy : s.TypeIs (.ref y) "list" := ⟨oy, hy, cy⟩
    refine wpAny_bind (wpAny_typeOf hTy ?_)
    rw [if_pos (by decide)]
    exact wpAny_mono li (fun zz zz z => z) fun zz zz z => z
  have hb : sliceBounds lo none none items.size = ((a : Int), (items.size : Int), 1) := by
    unfold sliceBounds
    rcases hlo with ⟨rfl, rfl⟩ | rfl
    · simp
    · simp only [Option.getD_none]
      have e1 : ¬ (a : Int) < 0 := by omega
      have e2 : max 0 (min (a : Int) (items.size : Int)) = a := by omega
      simp [e1, e2]
  have lt : listTooLong (items.size + new.size) = false := by
    unfold listTooLong
    exact decide_eq_false (by omega)
  have e3 : (max (a : Int) (items.size : Int)).toNat = items.size := by omega
  split
  · refine wpAny_bind (wpAny_mono li (fun z s' q => ?_) fun zz zz z => z)
    revert q; refine fun h0 => ex0_2 h0 fun Z1 Z2 => ?_; clear h0; subst Z1; subst Z2
    refine wpAny_bind (m := listItems (.ref x)) ?_
    unfold listItems
    refine wpAny_bind (wpAny_seqItems ho hd (wpAny_pure ?_))
    refine wpAny_bind (wpAny_of_eq (sliceIndices_raw lo none none items.size (by decide)) ?_)
    rw [hb]
    dsimp only
    rw [if_pos (by decide)]
    refine wpAny_bind (wpAny_rule ?_)
    rw [lt, if_neg (by decide), e3]
    refine wpAny_bind (m := listUpdate (.ref x) _) (wpAny_updateSeq ho hd ?_ (by omega) (by simp; omega))
    exact wpAny_bind (wpAny_letGo (wpAny_pure ⟨.none, rfl, h⟩))
  · refine wpAny_bind (wpAny_mono la (fun z s' q => ?_) fun zz zz z => z)
    revert q; refine fun h0 => ex0_2 h0 fun Z1 Z2 => ?_; clear h0; subst Z1; subst Z2
    refine wpAny_bind (m := listItems (.ref x)) ?_
    unfold listItems
    refine wpAny_bind (wpAny_seqItems ho hd (wpAny_pure ?_))
    refine wpAny_bind (wpAny_of_eq (sliceIndices_raw lo none none items.size (by decide)) ?_)
    rw [hb]
    dsimp only
    rw [if_pos (by decide)]
    refine wpAny_bind (wpAny_rule ?_)
    rw [lt, if_neg (by decide), e3]
    refine wpAny_bind (m := listUpdate (.ref x) _) (wpAny_updateSeq ho hd ?_ (by omega) (by simp; omega))
    exact wpAny_bind (wpAny_letGo (wpAny_pure ⟨.none, rfl, h⟩))
end
end Mine
end
namespace Mine
noncomputable def hasB (l : List (Addr × Str)) (c : Addr) (x : Str) : Bool := match l with
  | [] => false
  | p :: r => bif Nat.beq p.1 c && W.Fast.sEq p.2 x then true else hasB r c x
noncomputable def atB {α : Type} (l : List ((Addr × Str) × α)) (c : Addr) (x : Str) : Option α := match l with
  | [] => none
  | p :: r => bif Nat.beq p.1.1 c && W.Fast.sEq p.1.2 x then some p.2 else atB r c x
theorem hasB_mem : ∀ {l : List (Addr × Str)} {c : Addr} {x : Str}, hasB l c x = true → (c, x) ∈ l
  | [], _, _, h => by exact ftE h
  | p :: r, c, x, h => by
    unfold hasB at h
    cases q : Nat.beq p.1 c && W.Fast.sEq p.2 x with
    | true =>
      refine ex0_2 (Bool.and_eq_true_iff.mp q) fun a b => ?_
      have : p = (c, x) := Prod.ext (Nat.eq_of_beq_eq_true a) (W.Fast.sEq_iff.mp b)
      rw [this]; exact .head _
    | false => rw [q] at h; exact .tail _ (hasB_mem h)
theorem atB_mem {α : Type} : ∀ {l : List ((Addr × Str) × α)} {c : Addr} {x : Str} {a : α}, atB l c x = some a → ((c, x), a) ∈ l
  | [], _, _, _, h => by exact noneE h
  | p :: r, c, x, a, h => by
    unfold atB at h
    cases q : Nat.beq p.1.1 c && W.Fast.sEq p.1.2 x with
    | true =>
      rw [q] at h
      revert h; refine someC fun h => ?_; subst h
      refine ex0_2 (Bool.and_eq_true_iff.mp q) fun a b => ?_
      have : p.1 = (c, x) := Prod.ext (Nat.eq_of_beq_eq_true a) (W.Fast.sEq_iff.mp b)
      rw [← this]; exact .head _
    | false => rw [q] at h; exact .tail _ (atB_mem h)
structure TabC where
  K : Frag
  own : List (Addr × Str)
  met : List ((Addr × Str) × AV)
  cat : List ((Addr × Str) × AV)
  lst : List Addr
  mak : List Addr
  nob : List Addr
structure OwnOk (K : Frag) (C : Addr) (name : Str) : Prop where
  get : ClsOk K C
  dict : hasDictIn K C = true
  find : findIn K (.ref C) name = some none
  set : findIn K (.ref C) "__setattr__" = some (some (.builtin "object.__setattr__"))
  mro : ∃ cd, clsIn K C = some cd ∧ cd.mro.isEmpty = false ∧ cd.mro.contains (.type "object") = true ∧ ∀ self, refuseLoop self "__setattr__" cd.mro = pure ()
structure MetOk (K : Frag) (C : Addr) (name : Str) (f : AV) : Prop where
  get : ClsOk K C
  fn : ∃ u tf, findIn K (.ref C) name = some (some u) ∧ typeIn K u = some (.type tf) ∧ (tf = "function" ∨ tf = "method_descriptor") ∧ ((∃ a, f = .fn a ∧ u = .ref a ∧ tf = "function") ∨ ∃ b : BI, f = .bi b ∧ u = b.val)
structure CatOk (K : Frag) (hT : Heap) (C : Addr) (name : Str) (v : AV) : Prop where
  ex : ∃ mc a, typeIn K (.ref C) = some mc ∧ readsIn K C mc = true ∧ findCls K (.ref C) mc name = some (.val a) ∧ handedIn a = true ∧ VR [] hT v a
structure ListOk (K : Frag) (C : Addr) : Prop where
  sub : subIn K (.ref C) (.type "list") = some true
  seq : noSeq K C = true
  get : findIn K (.ref C) "__getitem__" = some (some (.builtin "list.__getitem__"))
  set : findIn K (.ref C) "__setitem__" = some (some (.builtin "list.__setitem__"))
noncomputable def KeepOk (hT : Heap) (f : Value) : Prop := ∀ (M : Model) (h : Heap), (∀ b o, hT.get? b = some o → h.get? b = some o) → ∃ k, (k = Keeper.frame ∨ k = Keeper.machine ∨ k = Keeper.boundFrame) ∧ Looks M h (keeperOf f) k
structure TabCOk (T : TabC) (hT : Heap) : Prop where
  mak : ∀ C ∈ T.mak, KeepOk hT (.ref C)
  nob : ∀ C ∈ T.nob, findIn T.K (.ref C) "__bool__" = some none
  lst : ∀ C ∈ T.lst, ListOk T.K C
  inn : T.K.In hT
  own : ∀ p ∈ T.own, OwnOk T.K p.1 p.2
  met : ∀ p ∈ T.met, MetOk T.K p.1.1 p.1.2 p.2
  cat : ∀ p ∈ T.cat, CatOk T.K hT p.1.1 p.1.2 p.2
noncomputable def instD (hp : List AO) (x : AV) : Option ((Nat × Nat × Nat × Option (List AV)) × List (Str × AV)) := (theN hp x).bind fun q => (gD hp q.2.2.1).bind fun m => some (q, m)
theorem instD_ok {hp : List AO} {x : AV} {q : (Nat × Nat × Nat × Option (List AV)) × List (Str × AV)} (h : instD hp x = some q) : x = .ref q.1.1 ∧ hp[q.1.1]? = some (.inst q.1.2.1 q.1.2.2.1 q.1.2.2.2) ∧ hp[q.1.2.2.1]? = some (.dict q.2) := by
  revert h
  refine bindE fun k hk h => ?_
  revert h
  refine bindE fun m hm h => ?_
  revert h; refine pairC fun h1 h2 => ?_; subst h1; subst h2
  exact ex0_2 (theN_ok hk) fun h1 h2 => ⟨h1, h2, gD_ok hm⟩
noncomputable def atA (T : TabC) (x : AV) (name : Str) (hp : List AO) : Option AV := match x with
  | .cls C => atB T.cat C name
  | x => (instD hp x).bind fun q => bif hasB T.own q.1.2.1 name then lk name q.2 else none
noncomputable def saA (T : TabC) (x : AV) (name : Str) (v : AV) (hp : List AO) : Option (List AO) := (instD hp x).bind fun q => bif hasB T.own q.1.2.1 name && Nat.blt q.2.length 100 then some (hp.set q.1.2.2.1 (.dict (pt name v q.2))) else none
section
variable {prog : Program} {w : World} {hT : Heap} {A : Around} {L : Addr} {ρ : List Addr} {s : Shared} {σ σ' : St} {env : Env} {ae : AE} {v : AV} {n : Nat} {ih : IH} {T : TabC}
theorem inst_at (R : Rel hT ρ L σ s.heap) {i C d : Nat} {its : Option (List AV)} {m : List (Str × AV)} {a : Value} (e : σ.hp[i]? = some (.inst C d its)) (e' : σ.hp[d]? = some (.dict m)) (X : VR ρ s.heap (.ref i) a) :
    ∃ x dx ox es k, a = .ref x ∧ ρ[i]? = some x ∧ ρ[d]? = some dx ∧ s.heap.get? x = some ox ∧ ox.cls = .ref C ∧ ox.dict = some dx ∧ ox.slots = #[] ∧ notCls ox = true ∧ s.heap.get? dx = some (dictOf es k) ∧ (∀ e ∈ es, ∃ x t, e.key = .str x t) ∧ es.length ≤ m.length ∧
      LR ρ s.heap m (fun x => (es.find? (·.key.isStr x)).map (·.val)) := by
  cases X with
  | ref _ x hx =>
    have o := R.inv.at_ i _ x e hx
    refine ex1_2 (R.inv.get e') fun dx' hdx' od => ?_
    revert od; refine fun h0 => ex2_4 h0 fun es k g k1 k2 k3 => ?_; clear h0
    cases its with
    | none =>
      revert o; refine fun h0 => ex1_2 h0 fun dx hdx o => ?_; clear h0
      cases hdx.symm.trans hdx'
      exact ⟨x, _, _, es, k, rfl, hx, hdx, o, rfl, rfl, rfl, rfl, g, k1, k2, k3⟩
    | some l =>
      revert o; refine fun h0 => ex3_3 h0 fun dx vs q hdx o V => ?_; clear h0
      cases hdx.symm.trans hdx'
      exact ⟨x, _, _, es, k, rfl, hx, hdx, o, rfl, rfl, rfl, rfl, g, k1, k2, k3⟩
theorem instAt_of {x C dx : Addr} {ox od : Obj} {h : Heap} (a : h.get? x = some ox) (b : ox.cls = .ref C) (c : ox.dict = some dx) (d : notCls ox = true) (e : h.get? dx = some od) : InstAt h x ox C (some od) :=
  ⟨a, b, d, by rw [c]; exact e⟩
theorem noRef_of {es : List DictEntry} (h : ∀ e ∈ es, ∃ x t, e.key = .str x t) : es.any (·.refKey) = false := by
  rw [List.any_eq_false]
  intro e he
  refine ex2_1 (h e he) fun x t q => ?_
  unfold DictEntry.refKey
  rw [q]; exact Bool.false_ne_true
theorem getL_of {es : List DictEntry} (h : ∀ e ∈ es, ∃ x t, e.key = .str x t) (name : Str) : getL name es = some ((es.find? (·.key.isStr name)).map (·.val)) := by
  unfold getL
  cases es.find? (·.key.isStr name) with
  | some e => rfl
  | none => rw [noRef_of h]; rfl
theorem VR.handed {ρ : List Addr} {h : Heap} {x : AV} {u : Value} (V : VR ρ h x u) : handedIn u = true := by
  cases V with
  | bi b => cases b <;> rfl
  | _ => rfl
theorem atA_sound (TO : TabCOk T hT) (R : Rel hT ρ L σ s.heap) {x : AV} {a : Value} {name : Str} {expr : Bool} (e : atA T x name σ.hp = some v) (X : VR ρ s.heap x a) :
    Tri prog w hT A L ρ s (getAttr a name expr) σ (fun ρ' h' u => VR ρ' h' v u) := by
  refine ex1_3 R.opened fun f F N G => ?_
  have key : ((instD σ.hp x).bind fun q => bif hasB T.own q.1.2.1 name then lk name q.2 else none) = some v → Tri prog w hT A L ρ s (getAttr a name expr) σ (fun ρ' h' u => VR ρ' h' v u) := fun e => by
    revert e; refine bindE fun q hq e => ?_
    refine ex0_3 (instD_ok hq) fun ex hi hd => ?_
    rw [ex] at X
    · · revert e; refine condE fun ho e => ?_
        refine ex5_12 (inst_at R hi hd X) fun x dx ox es k Z1 hx hdx g1 g2 g3 g4 g5 g6 k1 k2 k3 => ?_; subst Z1
        have O := TO.own _ (hasB_mem ho)
        refine ex1_2 ((k3 name).1 v e) fun u hu U => ?_
        exact get_ownA (TO.inn.keeps R.keep) (instAt_of g1 g2 g3 g5 g6) O.get (findObj_own O.dict O.find rfl (by rw [lookIn_dict, getL_of k1]; exact congrArg some hu)) U.handed (Post.same R U)
  cases x with
  | cls C =>
    refine ex2_5 ((TO.cat _ (atB_mem e)).ex) fun mc a' h1 h2 h3 h4 V => ?_
    revert X; refine vrCls ?_; intro h; subst h
    exact cls_val F TO.inn h1 h2 h3 h4 (Post.same R (V.mono ⟨ρ, rfl⟩ fun zz zz q zz => R.keep _ _ q))
  | _ => exact key e
theorem putL_keys {name : Str} {hs : Int} {t : Tok} {v : Value} : ∀ {es : List DictEntry}, (∀ e ∈ es, ∃ x t, e.key = .str x t) → ∀ e ∈ putL name hs (.str name t) v es, ∃ x t, e.key = .str x t
  | [], _, e, he => by
    rcases List.mem_cons.mp he with rfl | he
    · exact ⟨_, _, rfl⟩
    · cases he
  | y :: r, h, e, he => by
    unfold putL at he
    split at he
    · rcases List.mem_cons.mp he with rfl | he
      · exact h y (.head _)
      · exact h e (.tail _ he)
    · rcases List.mem_cons.mp he with rfl | he
      · exact h _ (.head _)
      · exact putL_keys (fun e he => h e (.tail _ he)) e he
theorem isStr_str {x y : Str} {t : Tok} : (Value.str x t).isStr y = (x == y) := rfl
theorem putL_find_ {name : Str} {hs : Int} {t : Tok} {v : Value} (y : Str) : ∀ {es : List DictEntry}, (∀ e ∈ es, ∃ x t, e.key = .str x t) →
    ((putL name hs (.str name t) v es).find? (·.key.isStr y)).map (·.val) = if y = name then some v else (es.find? (·.key.isStr y)).map (·.val)
  | [], _ => by
    unfold putL
    by_cases h : y = name
    · subst h; simp [isStr_str]
    · have h' : ¬ name = y := fun q => h q.symm
      simp [isStr_str, h, h']
  | e :: r, h => by
    refine ex2_1 (h e (.head _)) fun x u q => ?_
    unfold putL
    have k : e.key.isStr name = (x == name) := by rw [q]; rfl
    have k' : e.key.isStr y = (x == y) := by rw [q]; rfl
    rw [k]
    by_cases hx : x = name
    · subst hx
      rw [if_pos (by simp)]
      by_cases hy : y = x
      · subst hy
        simp [k']
      · have hy' : ¬ x = y := fun z => hy z.symm
        rw [if_neg hy]
        simp [k', hy']
    · rw [if_neg (by simpa using hx)]
      by_cases hy : y = x
      · subst hy
        rw [if_neg hx]
        simp [k']
      · have hy' : ¬ x = y := fun z => hy z.symm
        have ih := putL_find_ (name := name) (hs := hs) (t := t) (v := v) y (fun e he => h e (.tail _ he))
        simp only [List.find?_cons, k']
        rw [show (x == y) = false by simpa using hy']
        exact ih
theorem putL_len {name : Str} {hs : Int} {key v : Value} : ∀ {es : List DictEntry}, (putL name hs key v es).length ≤ es.length + 1
  | [] => Nat.le_refl _
  | e :: r => by
    unfold putL
    split
    · simp
    · have := putL_len (name := name) (hs := hs) (key := key) (v := v) (es := r)
      simp only [List.length_cons]; omega
theorem pt_len {α : Type} (x : Str) (v : α) : ∀ l : List (Str × α), (pt x v l).length = if (lk x l).isSome then l.length else l.length + 1
  | [] => rfl
  | p :: r => by
    rw [pt_cons, lk_cons]
    cases h : W.Fast.sEq x p.1 with
    | true => simp
    | false =>
      simp only [cond_false, List.length_cons]
      rw [pt_len x v r]
      split <;> rfl
theorem putL_same {name : Str} {hs : Int} {key v : Value} : ∀ {es : List DictEntry}, (es.find? (·.key.isStr name)).isSome = true → (putL name hs key v es).length = es.length
  | [], h => by exact ftE h
  | e :: r, h => by
    unfold putL
    cases q : e.key.isStr name with
    | true => rw [if_pos rfl]; rfl
    | false =>
      rw [if_neg (by decide)]
      rw [List.find?_cons, q] at h
      simp only [List.length_cons]
      rw [putL_same h]
theorem osaA {K : Frag} {x C dx : Addr} {ox : Obj} {es : List DictEntry} {k : Nat} {name : Str} {tk : Tok} {u : Value} {P : Result → Shared → Prop} (Kn : K.In s.heap) (O : OwnOk K C name) (g1 : s.heap.get? x = some ox) (g2 : ox.cls = .ref C) (g3 : ox.dict = some dx)
    (g5 : notCls ox = true) (g6 : s.heap.get? dx = some (dictOf es k)) (k1 : ∀ e ∈ es, ∃ x t, e.key = .str x t) (hz : es.length ≤ 1000)
    (h : ∀ hs, P (.ok (.ret .none)) { s with heap := s.heap.update dx (Obj.putName name hs (.str name s.toks) u), toks := s.toks + 1 }) :
    codeAny (model prog w) A (.call (.builtin "object.__setattr__") ⟨[.ref x, .str name tk, u], []⟩) P s := by
  refine ex1_4 O.mro fun cd hc ne hobj hpass => ?_
  have In : InstAt s.heap x ox C (some (dictOf es k)) := instAt_of g1 g2 g3 g5 g6
  have SF := PySem.F.store_object
  have sub : Looks (model prog w) s.heap (isInstance (.ref x) (.type "object")) true := In.type.andThen (looks_mroIn Kn (by unfold mroIn; rw [hc, Option.bind_some, if_neg (by rw [ne]; decide), hobj]))
  refine codeAny_call_builtin SF.slot.plain SF.entry (@check_slot (model prog w) _ _ s "object.__setattr__" "object" "__setattr__" (.ref x) [.str name tk, u] [] _ SF.kind SF.split sub (SF.args (.ref x) (.str name tk) u) ?_)
  have hmr : Looks (model prog w) s.heap (mroOf (.ref C)) cd.mro := (looks_clsIn Kn hc).andThen .now
  have L3 : Looks (model prog w) s.heap (Builtin.ObjectAttr.storeTaker? none) none := .now
  rw [osa_eq, refuse_eq]
  refine wpAny_bind (wpAny_bind (In.type.here (wpAny_bind (hmr.here ?_))))
  rw [hpass]
  refine wpAny_pure (wpAny_bind (In.type.here (wpAny_bind ((looks_findIn Kn O.find).here (wpAny_bind (L3.here ?_))))))
  refine ex1_2 (any_some O.dict) fun cd' hc' hd' => ?_
  obtain ⟨oc, odi, oda, osl⟩ := ox
  dsimp only at g2 g3
  subst g2 g3
  refine wpAny_bind (wpAny_pure (wpAny_bind (wpAny_bind (wpAny_loadPart g1 (wpAny_bind ((looks_clsIn Kn hc').here ?_))))))
  rw [hd']
  refine wpAny_pure (a := some dx) (wpAny_bind (wpAny_pure (wpAny_bind ?_)))
  unfold nsSet
  refine wpAny_bind (wpAny_bind (wpAny_askSetting (wpAny_pure (wpAny_bind (wpAny_mkText (wpAny_bind (wpAny_loadPart g6 ?_)))))))
  dsimp only
  have c : (!es.toArray.any (·.key.isStr name) && es.toArray.any (·.refKey)) = false := by
    rw [← Array.any_toList, ← Array.any_toList, noRef_of k1, Bool.and_false]
  rw [aRefKeyMayBeTheName_at, c]
  refine wpAny_updatePart g6 ?_
  have D' : ∀ hs, (s.heap.update dx (Obj.putName name hs (.str name s.toks) u)).get? dx = some (dictOf (putL name hs (.str name s.toks) u es) (putN name es k)) := fun hs => by
    rw [← putName_dict]; exact Heap.get?_update_self _ g6 (by rw [putName_dict]; rfl)
  refine wpAny_bind (wpAny_lookBehind (D' _) (pastItsLine_dict (by rw [List.size_toArray, sizeLine_eq]; exact Nat.le_trans putL_len (by omega))) ?_)
  exact wpAny_pure (h _)
set_option tactic.hygienic true in
theorem saA_sound (TO : TabCOk T hT) (R : Rel hT ρ L σ s.heap) {x : AV} {a u : Value} {name : Str} {hp' : List AO} (e : saA T x name v σ.hp = some hp') (X : VR ρ s.heap x a) (V : VR ρ s.heap v u) :
    Tri prog w hT A L ρ s (setAttr a name u) ⟨hp', σ.loc⟩ (fun zz zz zz => True) := by
  refine ex1_3 R.opened fun f F N G => ?_
  revert e; refine bindE fun q hq e => ?_
  refine ex0_3 (instD_ok hq) fun ex hi hd => ?_
  rw [ex] at X
  obtain ⟨⟨i, C, d, its⟩, m⟩ := q
  clear hq
  dsimp only at *
  · · · revert e; refine condE fun ho e => ?_
        revert e; refine someC fun h => ?_; subst h
        refine ex0_2 (Bool.and_eq_true_iff.mp ho) fun ho hm => ?_
        have hm' := Nat.le_of_ble_eq_true hm
        refine ex5_12 (inst_at R hi hd X) fun x dx ox es k Z1 hx hdx g1 g2 g3 g4 g5 g6 k1 k2 k3 => ?_; subst Z1
        have O := TO.own _ (hasB_mem ho)
        have In : InstAt s.heap x ox C (some (dictOf es k)) := instAt_of g1 g2 g3 g5 g6
        have Kn : T.K.In s.heap := TO.inn.keeps R.keep
        refine set_plain Kn In O.set ?_
        refine osaA (s := { s with toks := s.toks + 1 }) Kn O g1 g2 g3 g5 g6 k1 (by omega) fun hs => ?_
        have hsb := Heap.SameBut.update s.heap dx (Obj.putName name hs (.str name (s.toks + 1)) u)
        have D' : (s.heap.update dx (Obj.putName name hs (.str name (s.toks + 1)) u)).get? dx = some (dictOf (putL name hs (.str name (s.toks + 1)) u es) (putN name es k)) := by
          rw [← putName_dict]; exact Heap.get?_update_self _ g6 (by rw [putName_dict]; rfl)
        have tk : ∀ b o, s.heap.get? b = some o → Imm o → (s.heap.update dx (Obj.putName name hs (.str name (s.toks + 1)) u)).get? b = some o := fun b o e im => (hsb.2 b fun q => R.inv.immOff e im (q ▸ List.mem_of_getElem? hdx)).trans e
        refine (Post.mk (Step.put (List.mem_of_getElem? hdx) hsb (by rw [D']; rfl)) (R.put hdx hsb ⟨_, _, D', putL_keys k1, ?_, fun y => ?_⟩) ⟨rfl, id⟩ trivial)
        · rw [pt_len]
          split
          · rename_i q
            refine ex1_1 (Option.isSome_iff_exists.mp q) fun v' q => ?_
            refine ex1_2 ((k3 name).1 v' q) fun u' hu' zz => ?_
            rw [putL_same (by refine ex1_2 (Option.map_eq_some_iff.mp hu') fun e he zz => ?_; rw [he]; rfl)]
            exact k2
          · have := putL_len (name := name) (hs := hs) (key := .str name (s.toks + 1)) (v := u) (es := es)
            omega
        · dsimp only
          rw [lk_pt, putL_find_ y k1]
          by_cases q : y = name
          · rw [if_pos q, if_pos q]
            exact ⟨fun v' e => ⟨u, rfl, by revert e; refine someC fun h => ?_; subst h; exact V.mono (List.prefix_refl _) tk⟩, fun e => by exact noneF e⟩
          · rw [if_neg q, if_neg q]
            exact k3.mono (List.prefix_refl _) tk y
noncomputable def meL (x : AV) (name : Str) : Option (AV × List AV) := bif W.Fast.sEq name (Str.ofString "append") then some (.bi .append, [x]) else bif W.Fast.sEq name (Str.ofString "reverse") then some (.bi .reverse, [x]) else none
noncomputable def meS (x : AV) (name : Str) : Option (AV × List AV) := bif W.Fast.sEq name (Str.ofString "isspace") then some (.bi .isspace, [x]) else bif W.Fast.sEq name (Str.ofString "join") then some (.bi .join, [x]) else bif W.Fast.sEq name (Str.ofString "split") then some (.bi .split, [x]) else none
noncomputable def meN (T : TabC) (x : AV) (name : Str) (hp : List AO) : Option (AV × List AV) := (instD hp x).bind fun q => bif (lk name q.2).isNone then (atB T.met q.1.2.1 name).bind fun f => some (f, [x]) else none
noncomputable def meA (T : TabC) (x : AV) (name : Str) (hp : List AO) : Option (AV × List AV) := match x with
  | .ref i => bif (gL hp i).isSome then meL x name else meN T x name hp
  | .str _ => meS x name
  | .int _ => bif W.Fast.sEq name (Str.ofString "bit_length") then some (.bi .bitlen, [x]) else none
  | _ => none
theorem meA_sound (TO : TabCOk T hT) (R : Rel hT ρ L σ s.heap) {x f : AV} {l : List AV} {a : Value} {name : Str} {pl : Sem Bool} {Q : Value × List Value → Shared → Prop} (e : meA T x name σ.hp = some (f, l)) (X : VR ρ s.heap x a)
    (h : ∀ fv vs, VR ρ s.heap f fv → VRs ρ s.heap l vs → Q (fv, vs) s) : wpAny (model prog w) A (getMethod a name pl) Q No s := by
  cases x with
  | ref i =>
    change (bif (gL σ.hp i).isSome then meL (.ref i) name else meN T (.ref i) name σ.hp) = _ at e
    cases hg : gL σ.hp i with
    | some l' =>
      rw [hg] at e
      have hi := gL_ok hg
      refine ex3_3 (list_reads R.inv hi X) fun a' vs n Z1 g zz => ?_; subst Z1
      change meL (.ref i) name = _ at e
      unfold meL at e
      cases q : W.Fast.sEq name (Str.ofString "append") with
      | true =>
        rw [q] at e; revert e; refine pairC fun h1 h2 => ?_; subst h1; subst h2
        rw [W.Fast.sEq_iff.mp q]
        exact Calls.getMethod_list_append g rfl rfl (h _ _ (.bi .append) (.cons _ _ _ _ X .nil))
      | false =>
        rw [q] at e
        revert e; refine condE fun q e => ?_
        revert e; refine pairC fun h1 h2 => ?_; subst h1; subst h2
        rw [W.Fast.sEq_iff.mp q]
        exact getMethod_list_of PySem.F.slot_list_reverse PySem.F.type_list_reverse (isList_of g) ⟨_, g, rfl⟩ (h _ _ (.bi .reverse) (.cons _ _ _ _ X .nil))
    | none =>
      rw [hg] at e
      revert e; refine bindE fun q hq e => ?_
      revert e; refine condE fun hn e => ?_
      revert e; refine bindE fun f' hf e => ?_
      revert e; refine pairC fun h1 h2 => ?_; subst h1; subst h2
      refine ex0_3 (instD_ok hq) fun ex hi hd => ?_
      cases ex
      refine ex5_12 (inst_at R hi hd X) fun x dx ox es k Z1 hx hdx g1 g2 g3 g4 g5 g6 k1 k2 k3 => ?_; subst Z1
      have O := TO.met _ (atB_mem hf)
      refine ex2_4 O.fn fun u tf h1 h2 h3 h4 => ?_
      have hl := (k3 name).2 (Option.isNone_iff_eq_none.mp hn)
      refine methodA (TO.inn.keeps R.keep) (instAt_of g1 g2 g3 g5 g6) O.get h1 h2 h3 (by show (lookIn name (dictOf es k)).map _ = _; rw [lookIn_dict, getL_of k1]; exact congrArg (fun z => some (Option.isSome z)) hl) (h _ _ ?_ (.cons _ _ _ _ X .nil))
      rcases h4 with ⟨a, q1, rfl, _⟩ | ⟨b, q1, rfl⟩
      · cases q1; exact .fn _
      · cases q1; exact .bi _
  | str l' =>
    change meS (.str l') name = _ at e
    unfold meS at e
    cases X with
    | str _ t =>
      cases q : W.Fast.sEq name (Str.ofString "isspace") with
      | true =>
        rw [q] at e; revert e; refine pairC fun h1 h2 => ?_; subst h1; subst h2
        rw [W.Fast.sEq_iff.mp q]
        exact GM.isspace (h _ _ (.bi .isspace) (.cons _ _ _ _ (.str _ t) .nil))
      | false =>
        rw [q] at e
        simp only [cond_false] at e
        cases q : W.Fast.sEq name (Str.ofString "join") with
        | true =>
          rw [q] at e; revert e; refine pairC fun h1 h2 => ?_; subst h1; subst h2
          rw [W.Fast.sEq_iff.mp q]
          exact GM.join (h _ _ (.bi .join) (.cons _ _ _ _ (.str _ t) .nil))
        | false =>
          rw [q] at e
          revert e; refine condE fun q e => ?_
          revert e; refine pairC fun h1 h2 => ?_; subst h1; subst h2
          rw [W.Fast.sEq_iff.mp q]
          exact GM.split (h _ _ (.bi .split) (.cons _ _ _ _ (.str _ t) .nil))
  | int i =>
    revert e; refine condE fun q e => ?_
    revert e; refine pairC fun h1 h2 => ?_; subst h1; subst h2
    rw [W.Fast.sEq_iff.mp q]
    cases X with
    | int _ t => exact getMethod_int_bit_length (h _ _ (.bi .bitlen) (.cons _ _ _ _ (.int _ t) .nil))
  | _ => exact noneE e
end
end Mine
namespace Mine
section
variable {prog : Program} {w : World} {hT : Heap} {A : Around} {L : Addr} {ρ : List Addr} {s : Shared} {σ σ' : St} {env : Env} {ae : AE} {v : AV} {n : Nat} {ih : IH} {T : TabC}
theorem instL_at (R : Rel hT ρ L σ s.heap) {i C d : Nat} {l : List AV} {a : Value} (e : σ.hp[i]? = some (.inst C d (some l))) (X : VR ρ s.heap (.ref i) a) :
    ∃ x dx od vs n, a = .ref x ∧ ρ[i]? = some x ∧ ρ[d]? = some dx ∧ s.heap.get? x = some ⟨.ref C, some dx, .seq vs.toArray n, #[]⟩ ∧ VRs ρ s.heap l vs ∧ InstAt s.heap x ⟨.ref C, some dx, .seq vs.toArray n, #[]⟩ C (some od) := by
  cases X with
  | ref _ x hx =>
    refine ex3_3 (R.inv.at_ i _ x e hx) fun dx vs q hdx o V => ?_
    have hl : (s.heap.get? dx).isSome = true := R.live (List.mem_of_getElem? hdx)
    refine ex1_1 (Option.isSome_iff_exists.mp hl) fun od ho => ?_
    exact ⟨x, dx, od, vs, q, rfl, hx, hdx, o, V, o, rfl, rfl, ho⟩
theorem sub_ops (e : Expr) (o i : Value) : ∃ ops, subscripted e false o i = operate ops (getItem o i) := by
  cases e with
  | Slice lo hi st p => cases st with
    | none => exact ⟨_, rfl⟩
    | some x => exact ⟨_, rfl⟩
  | _ => exact ⟨_, rfl⟩
theorem subTail' {value slice : Expr} {o i : Value} {E : Value → Shared → Prop} {Q : Value → Shared → Prop} (hg : wpAny (model prog w) A (getitemInPython o) (fun b s' => b = false ∧ s' = s) E s) (h : wpAny (model prog w) A (getItem o i) Q E s) :
    wpAny (model prog w) A (subscriptTail value slice o i) Q E s := by
  unfold subscriptTail
  refine wpAny_bind (wpAny_mono hg (fun b s' q => ?_) fun zz zz z => z)
  revert q; refine fun h0 => ex0_2 h0 fun Z1 Z2 => ?_; clear h0; subst Z1; subst Z2
  have op : ∀ ops, wpAny (model prog w) A (operate ops (getItem o i)) (fun r s₃ => wpAny (model prog w) A (letTemporaryGo value o r >>= fun zz => pure r) Q E s₃) E s' := fun ops =>
    wpAny_operate' (wpAny_mono h (fun r s₃ h₃ => wpAny_bind (wpAny_letTemporaryGo (wpAny_pure h₃))) fun zz zz x => x)
  refine wpAny_bind ?_
  refine ex1_1 (sub_ops slice o i) fun ops e => ?_
  rw [e]
  exact op ops
theorem notInPython_T {o : Value} {T' id : String} {E : Value → Shared → Prop} (hT : s.TypeIs o T') (hl : typeLookup (.type T') "__getitem__" = pure (some (.builtin id))) : wpAny (model prog w) A (getitemInPython o) (fun b s' => b = false ∧ s' = s) E s := by
  rw [getitemInPython_of_ne hT.not_modules]
  refine wpAny_bind (wpAny_specialOf hT hl ?_)
  exact wpAny_pure ⟨rfl, rfl⟩
theorem notInPython_L {K : Frag} {x C : Addr} {ox : Obj} {od : Option Obj} {E : Value → Shared → Prop} (X : K.In s.heap) (I : InstAt s.heap x ox C od) {id : String} (h : findIn K (.ref C) "__getitem__" = some (some (.builtin id))) : wpAny (model prog w) A (getitemInPython (.ref x)) (fun b s' => b = false ∧ s' = s) E s := by
  unfold getitemInPython
  refine wpAny_bind (wpAny_bind (I.type.here ((looks_findIn X h).here ?_)))
  exact wpAny_pure ⟨rfl, rfl⟩
theorem getItem_L {K : Frag} {x C : Addr} {ox : Obj} {od : Option Obj} {k : Value} {E : Value → Shared → Prop} {Q : Value → Shared → Prop} (X : K.In s.heap) (I : InstAt s.heap x ox C od) (O : ListOk K C)
    (h : wpAny (model prog w) A.in1 (Builtin.«list.__getitem__» ⟨[.ref x, k], []⟩) (fun fin s' => ∃ v, fin = .done (.ret v) ∧ Q v s') E s) : wpAny (model prog w) A (getItem (.ref x) k) Q E s := by
  unfold getItem sequenceKey
  refine wpAny_holding (wpAny_bind (wpAny_bind (I.type.here ?_)))
  refine wpAny_bind ((anyM_none X O.seq).here ?_)
  rw [if_pos (show (!false) = true from rfl)]
  refine wpAny_pure (wpAny_bind (specL X I O.get slot_list_getitem (wpAny_mono (callL X I O.sub slot_list_getitem.plain entry_list_getitem (.inr k_getitem) p_getitem (args_list_getitem _ _) h) (fun zz zz z => wpAny_pure z) fun zz zz z => z)))
theorem setItem_L {K : Frag} {x C : Addr} {ox : Obj} {od : Option Obj} {k u : Value} {E : Value → Shared → Prop} {Q : Unit → Shared → Prop} (X : K.In s.heap) (I : InstAt s.heap x ox C od) (O : ListOk K C)
    (h : wpAny (model prog w) A.in1 (Builtin.«list.__setitem__» ⟨[.ref x, k, u], []⟩) (fun fin s' => ∃ v, fin = .done (.ret v) ∧ Q () s') E s) : wpAny (model prog w) A (setItem (.ref x) k u) Q E s := by
  unfold setItem sequenceKey
  refine wpAny_holding (wpAny_bind (wpAny_bind (I.type.here ?_)))
  refine wpAny_bind ((anyM_none X O.seq).here ?_)
  rw [if_pos (show (!false) = true from rfl)]
  refine wpAny_pure (wpAny_bind (specL X I O.set slot_list_setitem (wpAny_mono (callL X I O.sub slot_list_setitem.plain entry_list_setitem (.inl k_setitem) p_setitem (args_list_setitem _ _ _) (wpAny_mono h (fun _ _ ⟨v, a, b⟩ => ⟨v, a, b⟩) fun zz zz z => z)) (fun zz zz z => wpAny_pure z) fun zz zz z => z)))
end
noncomputable def hasN : List Addr → Addr → Bool
  | [], _ => false
  | a :: r, c => bif Nat.beq a c then true else hasN r c
theorem hasN_mem : ∀ {l : List Addr} {c : Addr}, hasN l c = true → c ∈ l
  | [], _, h => by exact ftE h
  | a :: r, c, h => by
    unfold hasN at h
    cases q : Nat.beq a c with
    | true => rw [Nat.eq_of_beq_eq_true q]; exact .head _
    | false => rw [q] at h; exact .tail _ (hasN_mem h)
noncomputable def sub2A (T : TabC) (x i : AV) (hp : List AO) : Option AV := match theK hp x with
  | some q => (theI i).bind fun k => bif hasN T.lst q.2.1 && W.Z.leB 0 k && lenOk q.2.2.2.length then q.2.2.2[k.toNat]? else none
  | none => subA x i hp
noncomputable def sliceA (T : TabC) (x lo hi st : AV) (hp : List AO) : Option (AV × List AO) := match theL hp x with
  | some q => bif lenOk q.2.length then (sliceL q.2 lo hi st).bind fun l' => some (.ref hp.length, hp ++ [.list l']) else none
  | none => (theK hp x).bind fun q => bif hasN T.lst q.2.1 && lenOk q.2.2.2.length then (sliceL q.2.2.2 lo hi st).bind fun l' => some (.ref hp.length, hp ++ [.list l']) else none
noncomputable def fromS (lo hi : AV) (n : Nat) : Option Nat := bif isNA hi then bif isNA lo then some 0 else (theI lo).bind fun a => bif W.Z.leB 0 a && Nat.ble a.toNat n then some a.toNat else none else none
noncomputable def setSliceA (T : TabC) (x lo hi v : AV) (hp : List AO) : Option (List AO) := (theK hp x).bind fun q => (theL hp v).bind fun p => bif hasN T.lst q.2.1 && lenOk q.2.2.2.length && lenOk p.2.length then
  (fromS lo hi q.2.2.2.length).bind fun k => some (hp.set q.1 (.inst q.2.1 q.2.2.1 (some (q.2.2.2.take k ++ p.2)))) else none
section
variable {prog : Program} {w : World} {hT : Heap} {A : Around} {L : Addr} {ρ : List Addr} {s : Shared} {σ σ' : St} {env : Env} {ae : AE} {v : AV} {n : Nat} {ih : IH} {T : TabC}
theorem pushNew {h : Heap} (R : Rel hT ρ L σ h) {ob : Obj} {o : AO} (ho : OR (ρ ++ [h.objs.size]) (h.push ob) h.objs.size o) : Step [L] ρ h (ρ ++ [h.objs.size]) (h.push ob) ∧ Rel hT (ρ ++ [h.objs.size]) L ⟨σ.hp ++ [o], σ.loc⟩ (h.push ob) := by
  refine ex1_2 R.ns fun f F G => ?_
  have k : ∀ b o', h.get? b = some o' → b ≠ L → (h.push ob).get? b = some o' := fun b o' e zz => push_keep b o' e
  exact ⟨Step.new k (Ns.live (F.keeps push_keep)) get_size, R.new k ⟨f, F.keeps push_keep, G⟩ get_size ho⟩
theorem sub2A_sound (TO : TabCOk T hT) (R : Rel hT ρ L σ s.heap) {x i : AV} {a b : Value} {value slice : Expr} (e : sub2A T x i σ.hp = some v) (X : VR ρ s.heap x a) (Y : VR ρ s.heap i b) :
    Tri prog w hT A L ρ s (subscriptTail value slice a b) σ (fun ρ' h' u => VR ρ' h' v u) := by
  have plain : subA x i σ.hp = some v → Tri prog w hT A L ρ s (subscriptTail value slice a b) σ (fun ρ' h' u => VR ρ' h' v u) := fun e => by
    refine ex2_3 (getItem_A (prog := prog) (w := w) (A := A) R e X Y) fun T' id h1 h2 h3 => ?_
    exact subTail' (notInPython_T h2 h1) h3
  unfold sub2A at e
  cases hq : theK σ.hp x with
  | some q =>
    rw [hq] at e
    refine ex0_2 (theK_ok hq) fun ex hr => ?_
    rw [ex] at X
    revert e; refine bindE fun k hk e => ?_
    rw [theI_ok hk] at Y
    · · revert e; refine condE fun h1 e => ?_
        refine ex0_2 (Bool.and_eq_true_iff.mp h1) fun h1 h2 => ?_
        refine ex0_2 (Bool.and_eq_true_iff.mp h1) fun h0 h1 => ?_
        have h1' := (W.Z.leB_iff _ _).mp h1
        have h2' := Nat.le_of_ble_eq_true h2
        have O := TO.lst _ (hasN_mem h0)
        refine ex5_6 (instL_at R hr X) fun x dx od vs m Z1 hx hdx g V In => ?_; subst Z1
        revert Y; refine vrInt ?_; intro _ h; subst h
        have Kn : T.K.In s.heap := TO.inn.keeps R.keep
        refine ex1_2 (V.get e) fun u hu U => ?_
        have hl := (List.getElem?_eq_some_iff.mp e).1
        refine subTail' (notInPython_L Kn In O.get) (getItem_L Kn In O (b_item g rfl h1' (by omega) (by simpa using hu) ?_))
        exact Post.same' R U
  | none => rw [hq] at e; exact plain e
theorem sliceA_sound (TO : TabCOk T hT) (R : Rel hT ρ L σ s.heap) {x lo hi st : AV} {o a b c : Value} {value slice : Expr} {hp' : List AO} (e : sliceA T x lo hi st σ.hp = some (v, hp')) (X : VR ρ s.heap x o) (X1 : VR ρ s.heap lo a) (X2 : VR ρ s.heap hi b) (X3 : VR ρ s.heap st c) :
    wpAny (model prog w) A (subscriptTail value slice o (.ref s.heap.objs.size)) (Post hT L ρ s ⟨hp', σ.loc⟩ (fun ρ' h' u => VR ρ' h' v u)) No { s with heap := s.heap.push { cls := .type "slice", data := .fields #[a, b, c] } } := by
  have fin : ∀ {l' : List AV} {us : List Value}, VRs ρ s.heap l' us → v = .ref σ.hp.length → hp' = σ.hp ++ [.list l'] → Post hT L ρ s ⟨hp', σ.loc⟩ (fun ρ' h' u => VR ρ' h' v u) (.ref (s.heap.push { cls := .type "slice", data := .fields #[a, b, c] }).objs.size)
      { s with heap := (s.heap.push { cls := .type "slice", data := .fields #[a, b, c] }).push { cls := .type "list", data := .seq us.toArray } } := fun V e1 e2 => by
    subst e1 e2
    have R1 := R.push (o := { cls := .type "slice", data := .fields #[a, b, c] })
    have V1 := V.mono (List.prefix_refl _) fun b' o e zz => push_keep (o := { cls := .type "slice", data := .fields #[a, b, c] }) b' o e
    refine ex0_2 (pushNew R1 (ob := { cls := .type "list", data := .seq _ }) (o := .list _) ⟨_, 0, Heap.get?_push_size _ rfl, V1.mono ⟨_, rfl⟩ fun b' o e zz => push_keep b' o e⟩) fun S2 R2 => ?_
    exact ⟨_, (Step.push).trans S2, R2, ⟨rfl, id⟩, .ref _ _ (by rw [← R.inv.len]; simp)⟩
  unfold sliceA at e
  cases hq : theL σ.hp x with
  | some q =>
    rw [hq] at e
    refine ex0_2 (theL_ok hq) fun ex hr => ?_
    rw [ex] at X
    · revert e; refine condE fun h1 e => ?_
      revert e; refine bindE fun l' hl e => ?_
      revert e; refine pairC fun h1 h2 => ?_; subst h1; subst h2
      have h1' := Nat.le_of_ble_eq_true h1
      refine ex3_3 (list_reads R.inv hr X) fun x vs m Z1 g V => ?_; subst Z1
      obtain ⟨lo', hi', st', p1, p2, p3, q, us, hus, U⟩ := sliceL_some hl V X1 X2 X3
      have IL := (isList_of g).push { cls := .type "slice", data := .fields #[a, b, c] }
      refine subTail' (notInPython_T (Heap.IsList.typeIs (s := { s with heap := s.heap.push { cls := .type "slice", data := .fields #[a, b, c] } }) IL) list_getitem_lookup) ?_
      refine wpAny_getItem_list_slice (s := { s with heap := s.heap.push { cls := .type "slice", data := .fields #[a, b, c] } }) IL (Heap.IsSliceOf.new ..) p1 p2 p3 q ?_ (by rw [List.size_toArray, ← V.length, sizeLine_eq]; omega)
      rw [hus]
      exact fin U rfl rfl
  | none =>
    rw [hq] at e
    revert e; refine bindE fun q hk e => ?_
    refine ex0_2 (theK_ok hk) fun ex hr => ?_
    rw [ex] at X
    obtain ⟨r, C, d, l⟩ := q
    dsimp only at *
    · revert e; refine condE fun h1 e => ?_
      refine ex0_2 (Bool.and_eq_true_iff.mp h1) fun h0 h1 => ?_
      revert e; refine bindE fun l' hl e => ?_
      revert e; refine pairC fun h1 h2 => ?_; subst h1; subst h2
      have h1' := Nat.le_of_ble_eq_true h1
      have O := TO.lst _ (hasN_mem h0)
      refine ex5_6 (instL_at R hr X) fun x dx od vs m Z1 hx hdx g V In => ?_; subst Z1
      obtain ⟨lo', hi', st', p1, p2, p3, q, us, hus, U⟩ := sliceL_some hl V X1 X2 X3
      have Kn : T.K.In (s.heap.push { cls := .type "slice", data := .fields #[a, b, c] }) := TO.inn.keeps fun b' o e => push_keep b' o (R.keep b' o e)
      have In' : InstAt (s.heap.push { cls := .type "slice", data := .fields #[a, b, c] }) x ⟨.ref C, some dx, .seq vs.toArray m, #[]⟩ C (some od) := ⟨push_keep _ _ In.at_, rfl, rfl, push_keep _ _ In.dict⟩
      refine subTail' (notInPython_L (s := { s with heap := s.heap.push { cls := .type "slice", data := .fields #[a, b, c] } }) Kn In' O.get) ?_
      refine getItem_L (s := { s with heap := s.heap.push { cls := .type "slice", data := .fields #[a, b, c] } }) Kn In' O ?_
      refine b_slice (s := { s with heap := s.heap.push { cls := .type "slice", data := .fields #[a, b, c] } }) (push_keep _ _ g) rfl (Heap.IsSliceOf.new ..) p1 p2 p3 q ?_ (by rw [List.size_toArray, ← V.length, sizeLine_eq]; omega)
      rw [hus]
      exact fin U rfl rfl
theorem fromS_ok {ρ : List Addr} {h : Heap} {lo hi : AV} {n k : Nat} {a b : Value} (e : fromS lo hi n = some k) (X : VR ρ h lo a) (Y : VR ρ h hi b) : k ≤ n ∧ b = .none ∧ ((a = .none ∧ k = 0) ∨ ∃ t, a = .int k t) := by
  revert e
  refine condE fun h1 e => ?_
  cases isNA_ok h1
  revert Y; refine vrNone ?_; intro h; subst h
  cases q : isNA lo with
  | true =>
    rw [q] at e
    cases isNA_ok q
    revert X; refine vrNone ?_; intro h; subst h
    revert e; refine someC fun h => ?_; subst h
    exact ⟨Nat.zero_le _, rfl, .inl ⟨rfl, rfl⟩⟩
  | false =>
    rw [q] at e
    revert e
    refine bindE fun z hz e => ?_
    revert e
    refine condE fun h2 e => ?_
    refine ex0_2 (Bool.and_eq_true_iff.mp h2) fun h3 h4 => ?_
    cases theI_ok hz
    revert e; refine someC fun h => ?_; subst h
    revert X; refine vrInt ?_; intro _ h; subst h
    exact ⟨Nat.le_of_ble_eq_true h4, rfl, .inr ⟨_, congrArg (fun i => Value.int i _) (Int.toNat_of_nonneg ((W.Z.leB_iff _ _).mp h3)).symm⟩⟩
theorem setSliceA_sound (TO : TabCOk T hT) (R : Rel hT ρ L σ s.heap) {x lo hi : AV} {o a b u : Value} {hp' : List AO} (e : setSliceA T x lo hi v σ.hp = some hp') (X : VR ρ s.heap x o) (X1 : VR ρ s.heap lo a) (X2 : VR ρ s.heap hi b) (Xv : VR ρ s.heap v u) :
    wpAny (model prog w) A (setItem o (.ref s.heap.objs.size) u) (Post hT L ρ s ⟨hp', σ.loc⟩ (fun zz zz zz => True)) No { s with heap := s.heap.push { cls := .type "slice", data := .fields #[a, b, .none] } } := by
  revert e; refine bindE fun q hk e => ?_
  revert e; refine bindE fun p hv e => ?_
  refine ex0_2 (theK_ok hk) fun ex hr => ?_
  rw [ex] at X
  refine ex0_2 (theL_ok hv) fun ev hj => ?_
  rw [ev] at Xv
  obtain ⟨r, C, d, l⟩ := q
  obtain ⟨j, m⟩ := p
  clear hk hv
  dsimp only at *
  · · revert e; refine condE fun h1 e => ?_
      refine ex0_2 (Bool.and_eq_true_iff.mp h1) fun h1 h2 => ?_
      refine ex0_2 (Bool.and_eq_true_iff.mp h1) fun h0 h1 => ?_
      have h1' := Nat.le_of_ble_eq_true h1
      have h2' := Nat.le_of_ble_eq_true h2
      have O := TO.lst _ (hasN_mem h0)
      refine ex5_6 (instL_at R hr X) fun x dx od vs n₁ Z1 hx hdx g V In => ?_; subst Z1
      refine ex3_3 (list_reads R.inv hj Xv) fun y us n₂ Z1 gy U => ?_; subst Z1
      have Kn : T.K.In (s.heap.push { cls := .type "slice", data := .fields #[a, b, .none] }) := TO.inn.keeps fun b' o e => push_keep b' o (R.keep b' o e)
      have In' : InstAt (s.heap.push { cls := .type "slice", data := .fields #[a, b, .none] }) x ⟨.ref C, some dx, .seq vs.toArray n₁, #[]⟩ C (some od) := ⟨push_keep _ _ In.at_, rfl, rfl, push_keep _ _ In.dict⟩
      have fin : ∀ (k : Nat), k ≤ l.length → Post hT L ρ s ⟨σ.hp.set r (.inst C d (some (l.take k ++ m))), σ.loc⟩ (fun zz zz zz => True) ()
          { s with heap := (s.heap.push { cls := .type "slice", data := .fields #[a, b, .none] }).update x (Obj.mapSeq fun xs => xs.extract 0 k ++ us.toArray ++ xs.extract vs.toArray.size xs.size) } := fun k hk => by
        have R1 := R.push (o := { cls := .type "slice", data := .fields #[a, b, .none] })
        have hsb := Heap.SameBut.update (s.heap.push { cls := .type "slice", data := .fields #[a, b, .none] }) x (Obj.mapSeq fun xs => xs.extract 0 k ++ us.toArray ++ xs.extract vs.toArray.size xs.size)
        have ha : vs.toArray.extract 0 k ++ us.toArray ++ vs.toArray.extract vs.toArray.size vs.toArray.size = (vs.take k ++ us).toArray := by
          apply Array.ext'
          simp
        obtain ⟨n₃, hn⟩ : ∃ n₃, ((s.heap.push { cls := .type "slice", data := .fields #[a, b, .none] }).update x (Obj.mapSeq fun xs => xs.extract 0 k ++ us.toArray ++ xs.extract vs.toArray.size xs.size)).get? x = some ⟨.ref C, some dx, .seq (vs.take k ++ us).toArray n₃, #[]⟩ := by
          have hm : ∃ n₃, Obj.mapSeq (fun xs => xs.extract 0 k ++ us.toArray ++ xs.extract vs.toArray.size xs.size) ⟨.ref C, some dx, .seq vs.toArray n₁, #[]⟩ = ⟨.ref C, some dx, .seq (vs.take k ++ us).toArray n₃, #[]⟩ := by
            rw [← ha]
            exact ⟨_, rfl⟩
          revert hm; refine fun h0 => ex1_1 h0 fun n₃ hm => ?_; clear h0
          exact ⟨n₃, (Heap.get?_update_self _ (push_keep _ _ g) (by rw [hm]; rfl)).trans (congrArg some hm)⟩
        have tk : ∀ b' o, s.heap.get? b' = some o → Imm o → ((s.heap.push { cls := .type "slice", data := .fields #[a, b, .none] }).update x (Obj.mapSeq fun xs => xs.extract 0 k ++ us.toArray ++ xs.extract vs.toArray.size xs.size)).get? b' = some o := fun b' o e im =>
          (hsb.2 b' fun q => R.inv.immOff e im (q ▸ List.mem_of_getElem? hx)).trans (push_keep b' o e)
        refine (Post.mk ((Step.push).trans (Step.put (List.mem_of_getElem? hx) hsb (by rw [hn]; rfl))) (R1.put hx hsb ⟨dx, _, _, hdx, hn, ?_⟩) ⟨rfl, id⟩ trivial)
        exact ((V.take k).append U).mono (List.prefix_refl _) tk
      refine setItem_L (s := { s with heap := s.heap.push { cls := .type "slice", data := .fields #[a, b, .none] } }) Kn In' O ?_
      revert e; refine bindE fun k hk e => ?_
      revert e; refine someC fun h => ?_; subst h
      refine ex0_3 (fromS_ok hk X1 X2) fun hk' eb ea => ?_
      subst eb
      have hp : IsPart a (some (k : Int)) ∨ (IsPart a none ∧ k = 0) := by
        rcases ea with ⟨ea, ek⟩ | ⟨t, ea⟩
        · subst ea; exact .inr ⟨.none, ek⟩
        · subst ea; exact .inl (.int _ _)
      rcases hp with hp | ⟨hp, rfl⟩
      · refine b_setslice (s := { s with heap := s.heap.push { cls := .type "slice", data := .fields #[a, .none, .none] } }) (a := k) (push_keep _ _ g) rfl (Heap.IsSliceOf.new ..) hp (.inr rfl) (by rw [List.size_toArray, ← V.length]; exact hk') (push_keep _ _ gy) rfl rfl ?_ (fin k hk')
        rw [List.size_toArray, List.size_toArray, ← V.length, ← U.length, sizeLine_eq]; omega
      · refine b_setslice (s := { s with heap := s.heap.push { cls := .type "slice", data := .fields #[a, .none, .none] } }) (a := 0) (push_keep _ _ g) rfl (Heap.IsSliceOf.new ..) hp (.inl ⟨rfl, rfl⟩) (Nat.zero_le _) (push_keep _ _ gy) rfl rfl ?_ (fin 0 hk')
        rw [List.size_toArray, List.size_toArray, ← V.length, ← U.length, sizeLine_eq]; omega
end
end Mine
namespace Mine
noncomputable def bindsA (r : FnRec) (args : List AV) : Option (List (Str × AV)) :=
  bif Nat.ble args.length r.pars.length && Nat.ble r.pars.length (args.length + r.dflt.length) then some (r.pars.zip (args ++ r.dflt.drop (r.dflt.length + args.length - r.pars.length))) else none
noncomputable def isCellK : NameKind → Bool
  | .cell => true
  | _ => false
noncomputable def cnames : List (Str × NameKind) → List Str
  | [] => []
  | p :: r => bif isCellK p.2 then p.1 :: cnames r else cnames r
theorem isCellK_eq {k : NameKind} : isCellK k = (k == .cell) := by cases k <;> rfl
noncomputable def numbered {α : Type} : List α → Nat → List (α × Nat)
  | [], _ => []
  | x :: r, n => (x, n) :: numbered r (n + 1)
theorem cellsFrom_eq : ∀ (names : List (Str × NameKind)) (n : Nat) (acc : List (Str × Addr)), cellsFrom n names acc = (numbered (cnames names) n).reverse ++ acc
  | [], n, acc => rfl
  | (x, k) :: r, n, acc => by
    unfold cellsFrom cnames
    rw [← isCellK_eq]
    cases isCellK k with
    | true => simp only [if_true, cond_true, numbered, List.reverse_cons, List.append_assoc]; exact cellsFrom_eq r (n + 1) _
    | false => simp only [Bool.false_eq_true, if_false, cond_false]; exact cellsFrom_eq r n acc
structure FnOk (hT : Heap) (a : Addr) (r : FnRec) : Prop where
  keep : KeepOk hT (.ref a)
  at_ : ∃ o, hT.get? a = some o ∧ o.data = .func r.fd
  sc : r.fd.scope = r.scope
  body : r.fd.body = .stmts r.body
  gl : r.fd.globals = mainGlobals
  bl : r.fd.builtins = builtinsNs
  code : hT.CodeRec r.fd.code r.fd.qualname
  co : r.fd.scope.isCoroutine = false
  gen : r.fd.scope.isGenerator = false
  kind : r.fd.scope.kind = .function
  binds : ∃ dv : List Value, VRs [] hT r.dflt dv ∧ ∀ (s : Shared) (vs : List Value), (∀ b o, hT.get? b = some o → s.heap.get? b = some o) → vs.length ≤ r.pars.length → r.pars.length ≤ vs.length + dv.length →
    BindsTo s r.fd ⟨vs, []⟩ (r.pars.zip (vs ++ dv.drop (dv.length + vs.length - r.pars.length)))
  plain : r.cellful = false → (∀ x ∈ r.scope.names, x.2 ≠ .cell) ∧ ∀ x ∈ r.pars, r.scope.names.lookup x = some .local
  cells : r.cellful = true → r.dflt = [] ∧ r.fd.closure = [] ∧ (∀ x ∈ r.pars, r.scope.names.lookup x = some .local ∨ r.scope.names.lookup x = some .cell) ∧ (cnames r.scope.names).Nodup ∧ (∀ x ∈ cnames r.scope.names, r.scope.names.lookup x = some .cell) ∧
    ∀ vs : List Value, vs.length = r.pars.length → bindArgs r.fd ⟨vs, []⟩ = pure (r.pars.zip vs)
noncomputable def isLocK : Option NameKind → Bool
  | some .local => true
  | _ => false
noncomputable def filtA (names : List (Str × NameKind)) : List (Str × AV) → List (Str × AV)
  | [] => []
  | p :: r => bif isLocK (lk p.1 names) then p :: filtA names r else filtA names r
noncomputable def frameA (r : FnRec) (me : Addr) (bs : List (Str × AV)) (hp : List AO) : AE × St :=
  bif r.cellful then (⟨r.scope, (numbered (cnames r.scope.names) hp.length).reverse, some (me, r.fd)⟩, ⟨hp ++ (cnames r.scope.names).map (fun n => AO.cell (lk n bs.reverse)), filtA r.scope.names bs.reverse⟩)
  else (⟨r.scope, [], some (me, r.fd)⟩, ⟨hp, bs.reverse⟩)
noncomputable def BodyV (f : Fl) : Option AV := match f with
  | .ret v => some v
  | .next => some .none
  | _ => none
noncomputable def endA (p : Fl × St) : Option (AV × List AO) := (BodyV p.1).bind fun v => some (v, p.2.hp)
theorem endA_ok {p : Fl × St} {v : AV} {hp' : List AO} (e : endA p = some (v, hp')) : BodyV p.1 = some v ∧ hp' = p.2.hp := by
  revert e
  refine bindE fun u hu e => ?_
  revert e; refine pairC fun h1 h2 => ?_; subst h1; subst h2
  exact ⟨hu, rfl⟩
noncomputable def callA (T : Tab) (ih : IH) (a : Addr) (args : List AV) (hp : List AO) : Option (AV × List AO) :=
  (T.fn a).bind fun r => (bindsA r args).bind fun bs => (ih.xs (frameA r a bs hp).1 r.body (frameA r a bs hp).2).bind endA
section
variable {ρ : List Addr} {h : Heap}
theorem LR.cons {m : List (Str × AV)} {m' : List (Str × Value)} {x : Str} {v : AV} {u : Value} (V : VR ρ h v u) (G : LR ρ h m (fun y => m'.lookup y)) : LR ρ h ((x, v) :: m) (fun y => ((x, u) :: m').lookup y) := fun y => by
  rw [lk_cons]
  simp only [List.lookup_cons, sEq_beq]
  cases y == x with
  | true => exact ⟨fun zz e => ⟨u, rfl, by revert e; refine someC fun h => ?_; subst h; exact V⟩, fun e => by exact noneF e⟩
  | false => exact G y
theorem LR.nil : LR ρ h [] (fun y => ([] : List (Str × Value)).lookup y) := fun zz => ⟨fun zz e => (by exact noneE e), fun zz => rfl⟩
theorem LR.zip : ∀ {pars : List Str} {l : List AV} {vs : List Value} {m : List (Str × AV)} {m' : List (Str × Value)}, VRs ρ h l vs → LR ρ h m (fun y => m'.lookup y) → LR ρ h ((pars.zip l).reverse ++ m) (fun y => ((pars.zip vs).reverse ++ m').lookup y)
  | [], _, _, _, _, _, G => G
  | _ :: _, _, _, _, _, .nil, G => G
  | p :: pars, _, _, _, _, .cons x v l vs V r, G => by
    have := LR.zip (pars := pars) r (LR.cons (x := p) V G)
    simpa using this
theorem lk_filt (names : List (Str × NameKind)) (x : Str) : ∀ l : List (Str × AV), lk x (filtA names l) = if isLocK (lk x names) then lk x l else none
  | [] => by unfold filtA; rw [lk_nil]; split <;> rfl
  | p :: r => by
    unfold filtA
    cases q : isLocK (lk p.1 names) with
    | true =>
      rw [cond_true, lk_cons, lk_cons, lk_filt names x r]
      cases z : W.Fast.sEq x p.1 with
      | true => rw [W.Fast.sEq_iff.mp z, q]; rfl
      | false => rfl
    | false =>
      rw [cond_false, lk_filt names x r, lk_cons]
      cases z : W.Fast.sEq x p.1 with
      | true => rw [W.Fast.sEq_iff.mp z, q]; rfl
      | false => rfl
theorem lookup_one {x n : Str} {v : Value} (e : ¬ x = n) : List.lookup x [(n, v)] = none := by rw [List.lookup_cons, show (x == n) = false by simpa using e]; rfl
theorem bindL_eq (K : Str → Option NameKind) (x : Str) : ∀ (bs : List (Str × Value)) (m : Str → Option Value), bindL K bs m x = if isLocK (K x) then (bs.reverse.lookup x).or (m x) else m x
  | [], m => by unfold bindL; split <;> rfl
  | (n, v) :: r, m => by
    unfold bindL
    rw [bindL_eq K x r]
    by_cases hn : K n = some .local
    · rw [if_pos hn]
      by_cases e : x = n
      · subst e
        rw [hn]
        simp [isLocK, List.lookup_append]
      · simp [e, List.lookup_append, lookup_one e]
    · rw [if_neg hn]
      by_cases e : x = n
      · subst e
        have : isLocK (K x) = false := by cases q : K x with | none => rfl | some k => cases k <;> first | rfl | exact absurd q hn
        simp [this]
      · simp [List.lookup_append, lookup_one e]
theorem bindC_eq (K : Str → Option NameKind) (x : Str) (hx : K x = some .cell) : ∀ (bs : List (Str × Value)) (m : Str → Option Value), bindC K bs m x = (bs.reverse.lookup x).or (m x)
  | [], m => rfl
  | (n, v) :: r, m => by
    unfold bindC
    rw [bindC_eq K x hx r]
    by_cases hn : K n = some .local
    · rw [if_pos hn]
      have e : ¬ x = n := by rintro rfl; rw [hx] at hn; cases hn
      simp [List.lookup_append, lookup_one e]
    · rw [if_neg hn]
      by_cases e : x = n
      · subst e; simp [List.lookup_append]
      · simp [e, List.lookup_append, lookup_one e]
end
end Mine
namespace Mine
section
variable {hT : Heap} {ρ ρ₁ ρ₂ : List Addr} {L L' : Addr} {σ σ₂ : St} {h h₀ h₂ : Heap}
theorem Ns.at {f : Str → Option Value} (N : h.Ns L f) (e : ∀ o, h.get? L = some o → h₂.get? L = some o) : h₂.Ns L f := by
  revert N; refine fun h0 => ex3_2 h0 fun o es ep a r => ?_; clear h0
  exact ⟨o, es, ep, e o a, r⟩
theorem ret_back (R : Rel hT ρ L σ h) (k : ∀ b o, h.get? b = some o → h₀.get? b = some o) (n' : h.get? L' = none) (pre : ρ <+: ρ₁) (fr : ∀ a ∈ ρ₁, a ∉ ρ → h.get? a = none)
    (S : Step [L'] ρ₁ h₀ ρ₂ h₂) (R₂ : Rel hT ρ₂ L' σ₂ h₂) : Step [L] ρ h ρ₂ h₂ ∧ Rel hT ρ₂ L ⟨σ₂.hp, σ.loc⟩ h₂ := by
  have S0 : Step [L, L'] ρ h ρ₁ h₀ := ⟨pre, fun b o e zz zz => k b o e, fun b e => by
    refine ex1_1 (Option.isSome_iff_exists.mp e) fun o e => ?_
    rw [k b o e]; rfl, fr⟩
  have S1 : Step [L, L'] ρ h ρ₂ h₂ := S0.trans (S.wide fun b hb => .tail _ hb)
  have St : Step [L] ρ h ρ₂ h₂ := S1.drop fun b hb => by
    rcases List.mem_cons.mp hb with rfl | hb
    · exact .inl (.head _)
    · rcases List.mem_cons.mp hb with rfl | hb
      · exact .inr n'
      · cases hb
  refine ⟨St, R₂.inv, ?_, R₂.keep, R₂.off, ?_, R.above⟩
  · refine ex1_2 R.ns fun f F G => ?_
    refine ⟨f, Ns.at F fun o e => ?_, G.mono St.pre fun x o e im => St.imm R e im⟩
    refine S.fm L o (k _ _ e) (fun q => ?_) fun q => ?_
    · have := fr L q R.offL; rw [this] at e; exact noneE e
    · rw [List.mem_singleton.mp q, n'] at e; exact noneE e
  · intro q
    have := St.fresh L q R.offL
    have z := R.liveL
    rw [this] at z; exact ftE z
theorem Rel.enter (R : Rel hT ρ L σ h) (k : ∀ b o, h.get? b = some o → h₀.get? b = some o) {m : List (Str × AV)} {f : Str → Option Value} (N : h₀.Ns h.objs.size f) (G : LR ρ h₀ m f) : Rel hT ρ h.objs.size ⟨σ.hp, m⟩ h₀ := by
  refine ⟨⟨R.inv.len, R.inv.nd, fun i o a e1 e2 => ?_⟩, ⟨f, N, G.w⟩, fun b o e => k _ _ (R.keep b o e), R.off, fun q => ?_, Nat.le_trans R.above (Nat.le_of_lt (lt_of_live R.liveL))⟩
  · have x := R.inv.at_ i o a e1 e2
    refine ex1_1 (Option.isSome_iff_exists.mp x.some) fun o' e' => ?_
    exact x.mono (List.prefix_refl _) (fun b o e zz => k b o e) ((k a o' e').trans e'.symm)
  · exact absurd (lt_of_live (R.live q)) (Nat.lt_irrefl _)
end
section
variable {prog : Program} {w : World} {hT : Heap} {A : Around} {L : Addr} {ρ : List Addr} {s : Shared} {σ σ' : St} {env : Env} {ae : AE} {v : AV} {n : Nat} {ih : IH} {T : Tab}
theorem Cx.deeper (c : Cx A (n + 1)) (env : Env) : Cx (A.deeper env) n := ⟨by have := c.depth; show A.depth + 1 + 2 * n < recursionLimit; omega, by have := c.units; show A.units + 3 + 16 * n + 16 < cLine; omega, c.hd⟩
theorem bindsA_some {r : FnRec} {args : List AV} {bs : List (Str × AV)} (e : bindsA r args = some bs) : args.length ≤ r.pars.length ∧ r.pars.length ≤ args.length + r.dflt.length ∧ bs = r.pars.zip (args ++ r.dflt.drop (r.dflt.length + args.length - r.pars.length)) := by
  revert e; refine condE fun h e => ?_
  revert e; refine someC fun h => ?_; subst h
  refine ex0_2 (Bool.and_eq_true_iff.mp h) fun a b => ?_
  exact ⟨Nat.le_of_ble_eq_true a, Nat.le_of_ble_eq_true b, rfl⟩
theorem callA_plainX (c : Cx A (n + 1)) (lim : hT.NoLimit) (R : Rel hT ρ L σ s.heap) {a : Addr} {r : FnRec} (Fk : FnOk hT a r) (hc : r.cellful = false) {args : List AV} {vs : List Value} (V : VRs ρ s.heap args vs) {bs : List (Str × AV)}
    (hb : bindsA r args = some bs) {f : Fl} {σ₁ : St}
    (hx : ∀ {A' : Around} {L' : Addr} {ρ' : List Addr} {s' : Shared}, Cx A' n → Rel hT ρ' L' ⟨σ.hp, bs.reverse⟩ s'.heap → EnvR ρ' L' ⟨r.scope, [], some (a, r.fd)⟩ (callEnv r.fd L' a) → Tri prog w hT A' L' ρ' s' (execs r.body (callEnv r.fd L' a)) σ₁ (fun ρ' h' g => FlR ρ' h' f g)) (hv : BodyV f = some v) :
    codeAny (model prog w) A (.call (.ref a) ⟨vs, []⟩) (RetR (Post hT L ρ s ⟨σ₁.hp, σ.loc⟩ (fun ρ' h' u => VR ρ' h' v u))) s := by
  refine ex1_2 Fk.at_ fun o ho hd => ?_
  refine ex0_3 (bindsA_some hb) fun h1 h2 Z1 => ?_; subst Z1
  refine ex1_2 Fk.binds fun dv hdv hbind => ?_
  refine ex0_2 (Fk.plain hc) fun p1 p2 => ?_
  have la := V.length
  have ld := hdv.length
  have BT := hbind s vs R.keep (by omega) (by omega)
  rw [← Fk.sc] at p1 p2
  refine (codeAny_call_def (by have := c.depth; omega) (R.keep _ _ ho) hd (by revert lim; refine fun h0 => ex1_2 h0 fun mc a b => ?_; clear h0; exact ⟨mc, a.keeps R.keep, b⟩) (Fk.code.keeps R.keep) Fk.body BT p1 (fun x hx => p2 _ (List.of_mem_zip hx).1) (fun h₀ hns k => ?_) Fk.co Fk.gen Fk.kind)
  have Vd : VRs ρ h₀ (args ++ r.dflt.drop (r.dflt.length + args.length - r.pars.length)) (vs ++ dv.drop (dv.length + vs.length - r.pars.length)) := by
    refine (V.mono (List.prefix_refl _) fun b o e zz => k b o e).append ?_
    rw [la, ld]
    exact (hdv.drop _).mono ⟨ρ, rfl⟩ fun b o e zz => k _ _ (R.keep b o e)
  have R0 : Rel hT ρ s.heap.objs.size ⟨σ.hp, (r.pars.zip (args ++ r.dflt.drop (r.dflt.length + args.length - r.pars.length))).reverse⟩ h₀ := by
    refine R.enter k hns ?_
    have := LR.zip (pars := r.pars) Vd LR.nil
    rw [List.append_nil, List.append_nil] at this
    exact this
  have Ev : EnvR ρ s.heap.objs.size ⟨r.scope, [], some (a, r.fd)⟩ (callEnv r.fd s.heap.objs.size a) :=
    ⟨Fk.sc, by rw [← Fk.sc]; exact Fk.kind, rfl, Fk.gl, Fk.bl, fun zz zz e => (by exact noneE e), fun a' fd' e => by revert e; refine pairC fun h1 h2 => ?_; subst h1; subst h2; exact .inl rfl⟩
  refine wpAny_mono (hx (c.deeper _) (s' := { s with heap := h₀, toks := s.toks + _ }) R0 Ev) (fun g s' hg => ?_) fun zz zz x => x.elim
  revert hg; refine postE fun ρ₂ S R₂ O G => ?_
  refine ex0_2 (ret_back R k get_size (List.prefix_refl _) (fun zz a b => absurd a b) S R₂) fun S' R' => ?_
  have fin : ∀ u, VR ρ₂ s'.heap v u → Post hT L ρ s ⟨σ₁.hp, σ.loc⟩ (fun ρ' h' u => VR ρ' h' v u) u s' := fun u U => ⟨ρ₂, S', R', ⟨O.os, O.gens⟩, U⟩
  cases f <;> cases g <;> first | exact G.elim | skip
  · revert hv; refine someC fun h => ?_; subst h; exact fin _ .none
  · exact noneE hv
  · exact noneE hv
  · revert hv; refine someC fun h => ?_; subst h; exact fin _ G
theorem callA_plain (I : IOk prog w hT n ih) (c : Cx A (n + 1)) (lim : hT.NoLimit) (R : Rel hT ρ L σ s.heap) {a : Addr} {r : FnRec} (Fk : FnOk hT a r) (hc : r.cellful = false) {args : List AV} {vs : List Value} (V : VRs ρ s.heap args vs) {bs : List (Str × AV)}
    (hb : bindsA r args = some bs) {f : Fl} {σ₁ : St} (hx : ih.xs ⟨r.scope, [], some (a, r.fd)⟩ r.body ⟨σ.hp, bs.reverse⟩ = some (f, σ₁)) (hv : BodyV f = some v) :
    codeAny (model prog w) A (.call (.ref a) ⟨vs, []⟩) (RetR (Post hT L ρ s ⟨σ₁.hp, σ.loc⟩ (fun ρ' h' u => VR ρ' h' v u))) s :=
  callA_plainX c lim R Fk hc V hb (fun c' R' Ev' => I.xs c' R' Ev' hx) hv
end
end Mine
namespace Mine
theorem numbered_shift {α : Type} : ∀ (l : List α) (k a : Nat), numbered l (k + a) = (numbered l k).map fun p => (p.1, p.2 + a)
  | [], _, _ => rfl
  | x :: r, k, a => by
    unfold numbered
    rw [List.map_cons, show k + a + 1 = k + 1 + a by omega, numbered_shift r (k + 1) a]
theorem numbered_len {α : Type} : ∀ (l : List α) (k : Nat), (numbered l k).length = l.length
  | [], _ => rfl
  | x :: r, k => by unfold numbered; simp [numbered_len r]
theorem numbered_at {α : Type} : ∀ (l : List α) (k : Nat) {j : Nat} {x : α}, l[j]? = some x → (numbered l k)[j]? = some (x, k + j)
  | [], _, _, _, e => by exact noneE e
  | y :: r, k, 0, x, e => by revert e; refine someC fun h => ?_; subst h; rfl
  | y :: r, k, j + 1, x, e => by
    unfold numbered
    have := numbered_at r (k + 1) (j := j) (x := x) e
    rw [List.getElem?_cons_succ, this, show k + 1 + j = k + (j + 1) by omega]
theorem numbered_mem {α : Type} : ∀ (l : List α) (k : Nat) {p : α × Nat}, p ∈ numbered l k → k ≤ p.2 ∧ p.2 < k + l.length ∧ l[p.2 - k]? = some p.1
  | [], _, _, h => by cases h
  | x :: r, k, p, h => by
    unfold numbered at h
    rcases List.mem_cons.mp h with rfl | h
    · exact ⟨Nat.le_refl _, by simp, by simp⟩
    · refine ex0_3 (numbered_mem r (k + 1) h) fun a b c => ?_
      refine ⟨by omega, by simp only [List.length_cons]; omega, ?_⟩
      rw [subS a, List.getElem?_cons_succ]
      exact c
theorem lookup_map {α β : Type} (f : α → β) (x : Str) : ∀ l : List (Str × α), (l.map fun p => (p.1, f p.2)).lookup x = (l.lookup x).map f
  | [] => rfl
  | (y, v) :: r => by
    rw [List.map_cons, List.lookup_cons, List.lookup_cons, lookup_map f x r]
    cases x == y <;> rfl
theorem numbered_lookup {l : List Str} {x : Str} {a b i : Nat} (h : (numbered l a).reverse.lookup x = some i) : a ≤ i ∧ i < a + l.length ∧ l[i - a]? = some x ∧ (numbered l b).reverse.lookup x = some (i - a + b) := by
  have m := PySem.mem_of_lookup h
  refine ex0_3 (numbered_mem l a (List.mem_reverse.mp m)) fun h1 h2 h3 => ?_
  refine ⟨h1, h2, h3, ?_⟩
  have e1 : numbered l a = (numbered l 0).map fun p => (p.1, p.2 + a) := by have := numbered_shift l 0 a; rwa [Nat.zero_add] at this
  have e2 : numbered l b = (numbered l 0).map fun p => (p.1, p.2 + b) := by have := numbered_shift l 0 b; rwa [Nat.zero_add] at this
  rw [e1, ← List.map_reverse, lookup_map (fun i => i + a)] at h
  rw [e2, ← List.map_reverse, lookup_map (fun i => i + b)]
  refine ex1_2 (Option.map_eq_some_iff.mp h) fun j hj Z1 => ?_; subst Z1
  rw [hj]
  show some (j + b) = some (j + a - a + b)
  rw [Nat.add_sub_cancel]
theorem List.Nodup.reverse' {α : Type} {l : List α} (h : l.Nodup) : l.reverse.Nodup := by
  rw [List.Nodup, List.pairwise_reverse]
  exact List.Pairwise.imp (fun a => Ne.symm a) h
theorem lookup_of_nodup : ∀ {l : List (Str × Nat)} {x : Str} {i : Nat}, (l.map (·.1)).Nodup → (x, i) ∈ l → l.lookup x = some i
  | [], _, _, _, h => by cases h
  | (y, v) :: r, x, i, nd, h => by
    rw [List.map_cons, List.nodup_cons] at nd
    rw [List.lookup_cons]
    rcases List.mem_cons.mp h with e | h'
    · cases e; simp
    · have : ¬ x = y := fun q => nd.1 (List.mem_map.mpr ⟨(x, i), h', q⟩)
      rw [show (x == y) = false by simpa using this]
      exact lookup_of_nodup nd.2 h'
theorem numbered_fst : ∀ (l : List Str) (k : Nat), (numbered l k).map (·.1) = l
  | [], _ => rfl
  | x :: r, k => by unfold numbered; rw [List.map_cons, numbered_fst r]
theorem numbered_nodup {l : List Str} {k j : Nat} {x : Str} (nd : l.Nodup) (h : l[j]? = some x) : (numbered l k).reverse.lookup x = some (k + j) := by
  refine lookup_of_nodup ?_ (List.mem_reverse.mpr (List.mem_of_getElem? (numbered_at l k h)))
  rw [List.map_reverse, numbered_fst]
  exact List.Nodup.reverse' nd
section
variable {prog : Program} {w : World} {hT : Heap} {A : Around} {L : Addr} {ρ : List Addr} {s : Shared} {σ σ' : St} {env : Env} {ae : AE} {v : AV} {n : Nat} {ih : IH} {T : Tab}
end
section
variable {prog : Program} {w : World} {hT : Heap} {A : Around} {ρ : List Addr} {s : Shared} {hp : List AO} {n : Nat}
theorem callA_cells0 {Q : Value → Shared → Prop} (c : Cx A (n + 1)) (lim : hT.NoLimit) (I0 : Inv ρ hp s.heap) (K0 : ∀ b o, hT.get? b = some o → s.heap.get? b = some o) (Of : ∀ a ∈ ρ, hT.get? a = none) (sz : hT.objs.size ≤ s.heap.objs.size) {a : Addr} {r : FnRec} (Fk : FnOk hT a r) (hc : r.cellful = true) {args : List AV} {vs : List Value} (V : VRs ρ s.heap args vs) {bs : List (Str × AV)}
    (hb : bindsA r args = some bs)
    (hx : ∀ {A' : Around} {L' : Addr} {ρ' : List Addr} {s' : Shared}, Cx A' n → Rel hT ρ' L' ⟨hp ++ (cnames r.scope.names).map (fun n => AO.cell (lk n bs.reverse)), filtA r.scope.names bs.reverse⟩ s'.heap →
      EnvR ρ' L' ⟨r.scope, (numbered (cnames r.scope.names) hp.length).reverse, some (a, r.fd)⟩ (callEnvC r.fd L' a) → (∀ b o, s.heap.get? b = some o → s'.heap.get? b = some o) → s.heap.get? L' = none → ρ <+: ρ' → (∀ a ∈ ρ', a ∉ ρ → s.heap.get? a = none) → s'.os = s.os → s'.gens = s.gens →
      wpAny (model prog w) A' (execs r.body (callEnvC r.fd L' a)) (fun g s'' => Q (match g with | .ret v => v | _ => .none) s'') No s') :
    codeAny (model prog w) A (.call (.ref a) ⟨vs, []⟩) (RetR Q) s := by
  refine ex1_2 Fk.at_ fun o ho hd => ?_
  have live0 : ∀ {a : Addr}, a ∈ ρ → (s.heap.get? a).isSome = true := fun ha => by
    refine ex2_3 (I0.off ha) fun zz zz zz zz x => ?_
    exact x.some
  refine ex0_3 (bindsA_some hb) fun h1 h2 Z1 => ?_; subst Z1
  refine ex0_6 (Fk.cells hc) fun hdf p1 p2 nd p3 p4 => ?_
  rw [hdf, List.length_nil] at h2
  have ea : args ++ r.dflt.drop (r.dflt.length + args.length - r.pars.length) = args := by rw [hdf]; simp
  rw [ea] at hx hb
  have la := V.length
  have hbind := p4 vs (by omega)
  have lim' : s.heap.NoLimit := by revert lim; refine fun h0 => ex1_2 h0 fun mc a b => ?_; clear h0; exact ⟨mc, a.keeps K0, b⟩
  have ecs : ∀ k, cellsFrom k r.fd.scope.names [] = (numbered (cnames r.scope.names) k).reverse := fun k => by rw [cellsFrom_eq, List.append_nil, Fk.sc]
  have atLoc : ∀ x, isLocK (lk x r.scope.names) = isLocK (r.fd.scope.names.lookup x) := fun x => by rw [lk_eq, Fk.sc]
  refine (codeAny_call_cells (by have := c.depth; omega) (K0 _ _ ho) hd lim' (Fk.code.keeps K0) Fk.body hbind p1 (fun x hx => ?_) (fun s₁ X => ?_) Fk.co Fk.gen Fk.kind)
  · have hp := (List.of_mem_zip hx).1
    rw [Fk.sc]
    rcases p2 _ hp with q | q
    · exact .inl q
    · refine .inr ⟨q, ?_⟩
      rw [← Fk.sc, ecs]
      have hm : x.1 ∈ cnames r.scope.names := by
        have key : ∀ (names : List (Str × NameKind)), names.lookup x.1 = some .cell → x.1 ∈ cnames names := by
          intro names
          induction names with
          | nil => intro e; exact noneE e
          | cons p t ih =>
            obtain ⟨y, k⟩ := p
            intro e
            rw [List.lookup_cons] at e
            unfold cnames
            cases z : x.1 == y with
            | true =>
              rw [z] at e
              revert e; refine someC fun h => ?_; subst h
              rw [eq_of_beq z]
              exact .head _
            | false =>
              rw [z] at e
              cases isCellK k with
              | true => exact .tail _ (ih e)
              | false => exact ih e
        exact key _ q
      refine ex1_1 (List.mem_iff_getElem?.mp hm) fun j hj => ?_
      rw [numbered_nodup nd hj]; rfl
  · obtain ⟨⟨sm, ns, k, fr⟩, cell, apart, above⟩ := X
    revert sm; refine fun h0 => ex2_1 h0 fun h₁ tk Z1 => ?_; clear h0; subst Z1
    have hL : (callEnvC r.fd s.heap.objs.size a).locals = s.heap.objs.size := rfl
    have hC : (callEnvC r.fd s.heap.objs.size a).cells = (numbered (cnames r.scope.names) (s.heap.objs.size + 1)).reverse := ecs _
    rw [hL] at ns fr above
    rw [hC] at cell apart above
    have hK : ∀ x, (callEnvC r.fd s.heap.objs.size a).kindOf x = r.scope.names.lookup x := fun x => by show r.fd.scope.names.lookup x = _; rw [Fk.sc]
    have V1 : VRs ρ h₁ args vs := V.mono (List.prefix_refl _) fun b o e zz => k b o e
    have Z : LR ρ h₁ (r.pars.zip args).reverse (fun y => (r.pars.zip vs).reverse.lookup y) := by
      have := LR.zip (pars := r.pars) V1 LR.nil
      rwa [List.append_nil, List.append_nil] at this
    generalize hcn : cnames r.scope.names = cn at *
    have pre : ρ <+: ρ ++ (numbered cn (s.heap.objs.size + 1)).map (·.2) := ⟨_, rfl⟩
    have newc : ∀ b ∈ (numbered cn (s.heap.objs.size + 1)).map (·.2), s.heap.objs.size < b := fun b hb => by
      refine ex1_2 (List.mem_map.mp hb) fun p hp Z1 => ?_; subst Z1
      have := (numbered_mem cn _ hp).1
      omega
    have frc : ∀ b ∈ ρ ++ (numbered cn (s.heap.objs.size + 1)).map (·.2), b ∉ ρ → s.heap.get? b = none := fun b hb nb => by
      rcases List.mem_append.mp hb with q | q
      · exact absurd q nb
      · have := newc b q
        cases e : s.heap.get? b with
        | none => rfl
        | some o => exact absurd (Nat.lt_trans this (Heap.lt_size e)) (Nat.lt_irrefl _)
    have Vmono : ∀ {m : List (Str × AV)} {g}, LR ρ h₁ m g → LR (ρ ++ (numbered cn (s.heap.objs.size + 1)).map (·.2)) h₁ m g := fun x => x.mono pre fun zz zz e zz => e
    have R0 : Rel hT (ρ ++ (numbered cn (s.heap.objs.size + 1)).map (·.2)) s.heap.objs.size ⟨hp ++ cn.map (fun n => AO.cell (lk n (r.pars.zip args).reverse)), filtA r.scope.names (r.pars.zip args).reverse⟩ h₁ := by
      refine ⟨⟨?_, ?_, fun i o b e1 e2 => ?_⟩, ⟨_, ns, LR.w fun x => ?_⟩, fun b o e => k _ _ (K0 b o e), fun b hb => ?_, fun q => ?_, sz⟩
      · simp [I0.len, numbered_len]
      · refine List.nodup_append.mpr ⟨I0.nd, ?_, fun x hx y hy e => ?_⟩
        · have key : ∀ (l : List Str) (k : Nat), ((numbered l k).map (·.2)).Nodup := by
            intro l
            induction l with
            | nil => intro k; exact .nil
            | cons x t ih =>
              intro k
              unfold numbered
              rw [List.map_cons, List.nodup_cons]
              refine ⟨fun q => ?_, ih _⟩
              refine ex1_2 (List.mem_map.mp q) fun p hp e => ?_
              have := (numbered_mem t _ hp).1
              simp only at e
              omega
          exact key _ _
        · subst e
          exact absurd (Nat.lt_trans (newc _ hy) (lt_of_live (live0 hx))) (Nat.lt_irrefl _)
      · by_cases hi : i < hp.length
        · rw [List.getElem?_append_left hi] at e1
          rw [List.getElem?_append_left (by rw [I0.len]; exact hi)] at e2
          have x := I0.at_ i o b e1 e2
          refine ex1_1 (Option.isSome_iff_exists.mp x.some) fun o' e' => ?_
          exact x.mono pre (fun b o e zz => k b o e) ((k b o' e').trans e'.symm)
        · rw [List.getElem?_append_right (by omega)] at e1
          rw [List.getElem?_append_right (by rw [I0.len]; omega), I0.len] at e2
          rw [List.getElem?_map] at e1
          refine ex1_2 (Option.map_eq_some_iff.mp e1) fun nm hn Z1 => ?_; subst Z1
          have e3 := numbered_at cn (s.heap.objs.size + 1) hn
          rw [List.getElem?_map, e3] at e2
          revert e2; refine someC fun h => ?_; subst h
          have hlk := numbered_nodup (k := s.heap.objs.size + 1) nd hn
          have hcl := cell nm _ hlk
          have hkc : (callEnvC r.fd s.heap.objs.size a).kindOf nm = some .cell := by rw [hK]; exact p3 _ (List.mem_of_getElem? hn)
          rw [bindC_eq _ _ hkc, Option.or_none] at hcl
          refine ⟨_, hcl, ?_⟩
          have z := (Vmono Z) nm
          cases q : lk nm (r.pars.zip args).reverse with
          | none => rw [z.2 q]; trivial
          | some v' =>
            refine ex1_2 (z.1 v' q) fun u' hu' U => ?_
            rw [hu']; exact U
      · rw [lk_filt, bindL_eq, hK, atLoc, Fk.sc]
        have z := (Vmono Z) x
        cases q : isLocK (r.scope.names.lookup x) with
        | true => simp only [if_true, Option.or_none]; exact z
        | false => simp only [Bool.false_eq_true, if_false]; exact ⟨fun zz e => (by exact noneE e), fun zz => trivial⟩
      · rcases List.mem_append.mp hb with q | q
        · exact Of b q
        · have := newc b q
          cases e : hT.get? b with
          | none => rfl
          | some o => exact absurd (Nat.lt_trans this (Nat.lt_of_lt_of_le (Heap.lt_size e) sz)) (Nat.lt_irrefl _)
      · rcases List.mem_append.mp q with q | q
        · exact absurd (lt_of_live (live0 q)) (Nat.lt_irrefl _)
        · exact absurd (newc _ q) (Nat.lt_irrefl _)
    have Ev : EnvR (ρ ++ (numbered cn (s.heap.objs.size + 1)).map (·.2)) s.heap.objs.size ⟨r.scope, (numbered cn hp.length).reverse, some (a, r.fd)⟩ (callEnvC r.fd s.heap.objs.size a) := by
      refine ⟨Fk.sc, by rw [← Fk.sc]; exact Fk.kind, rfl, Fk.gl, Fk.bl, fun x i e => ?_, fun zz zz e => by revert e; refine pairC fun h1 h2 => ?_; subst h1; subst h2; exact .inr rfl⟩
      rw [lk_eq] at e
      refine ex0_4 (numbered_lookup (b := s.heap.objs.size + 1) e) fun q1 q2 q3 q4 => ?_
      refine ⟨i - hp.length + (s.heap.objs.size + 1), ?_, by rw [hC]; exact q4⟩
      rw [List.getElem?_append_right (by rw [I0.len]; omega), I0.len, List.getElem?_map, numbered_at cn _ q3]
      show some (s.heap.objs.size + 1 + (i - hp.length)) = _
      rw [Nat.add_comm]
    exact wpAny_mono (hx (c.deeper _) (s' := { s with heap := h₁, toks := tk }) R0 Ev k get_size pre frc rfl rfl) (fun g s' hg => hg) fun zz zz x => x.elim
end
section
variable {prog : Program} {w : World} {hT : Heap} {A : Around} {L : Addr} {ρ : List Addr} {s : Shared} {σ σ' : St} {env : Env} {ae : AE} {v : AV} {n : Nat} {ih : IH} {T : Tab}
theorem callA_cellsZ {Q : Value → Shared → Prop} (c : Cx A (n + 1)) (lim : hT.NoLimit) (R : Rel hT ρ L σ s.heap) {a : Addr} {r : FnRec} (Fk : FnOk hT a r) (hc : r.cellful = true) {args : List AV} {vs : List Value} (V : VRs ρ s.heap args vs) {bs : List (Str × AV)}
    (hb : bindsA r args = some bs)
    (hx : ∀ {A' : Around} {L' : Addr} {ρ' : List Addr} {s' : Shared}, Cx A' n → Rel hT ρ' L' ⟨σ.hp ++ (cnames r.scope.names).map (fun n => AO.cell (lk n bs.reverse)), filtA r.scope.names bs.reverse⟩ s'.heap →
      EnvR ρ' L' ⟨r.scope, (numbered (cnames r.scope.names) σ.hp.length).reverse, some (a, r.fd)⟩ (callEnvC r.fd L' a) → (∀ b o, s.heap.get? b = some o → s'.heap.get? b = some o) → s.heap.get? L' = none → ρ <+: ρ' → (∀ a ∈ ρ', a ∉ ρ → s.heap.get? a = none) → s'.os = s.os → s'.gens = s.gens →
      wpAny (model prog w) A' (execs r.body (callEnvC r.fd L' a)) (fun g s'' => Q (match g with | .ret v => v | _ => .none) s'') No s') :
    codeAny (model prog w) A (.call (.ref a) ⟨vs, []⟩) (RetR Q) s :=
  callA_cells0 c lim R.inv R.keep R.off (Nat.le_of_lt (Nat.lt_of_le_of_lt R.above (lt_of_live R.liveL))) Fk hc V hb hx
theorem callA_cellsX (c : Cx A (n + 1)) (lim : hT.NoLimit) (R : Rel hT ρ L σ s.heap) {a : Addr} {r : FnRec} (Fk : FnOk hT a r) (hc : r.cellful = true) {args : List AV} {vs : List Value} (V : VRs ρ s.heap args vs) {bs : List (Str × AV)}
    (hb : bindsA r args = some bs) {f : Fl} {σ₁ : St}
    (hx : ∀ {A' : Around} {L' : Addr} {ρ' : List Addr} {s' : Shared}, Cx A' n → Rel hT ρ' L' ⟨σ.hp ++ (cnames r.scope.names).map (fun n => AO.cell (lk n bs.reverse)), filtA r.scope.names bs.reverse⟩ s'.heap →
      EnvR ρ' L' ⟨r.scope, (numbered (cnames r.scope.names) σ.hp.length).reverse, some (a, r.fd)⟩ (callEnvC r.fd L' a) → Tri prog w hT A' L' ρ' s' (execs r.body (callEnvC r.fd L' a)) σ₁ (fun ρ' h' g => FlR ρ' h' f g)) (hv : BodyV f = some v) :
    codeAny (model prog w) A (.call (.ref a) ⟨vs, []⟩) (RetR (Post hT L ρ s ⟨σ₁.hp, σ.loc⟩ (fun ρ' h' u => VR ρ' h' v u))) s := by
  refine callA_cellsZ c lim R Fk hc V hb fun c' R0 Ev k hL pre frc hos hg => ?_
  refine wpAny_mono (hx c' R0 Ev) (fun g s' hg' => ?_) fun zz zz x => x
  revert hg'; refine postE fun ρ₂ S R₂ O G => ?_
  refine ex0_2 (ret_back R k hL pre frc S R₂) fun S' R' => ?_
  have fin : ∀ u, VR ρ₂ s'.heap v u → Post hT L ρ s ⟨σ₁.hp, σ.loc⟩ (fun ρ' h' u => VR ρ' h' v u) u s' := fun u U => ⟨ρ₂, S', R', ⟨O.os.trans hos, fun z => O.gens (by rw [hg]; exact z)⟩, U⟩
  cases f <;> cases g <;> first | exact G.elim | skip
  · revert hv; refine someC fun h => ?_; subst h; exact fin _ .none
  · exact noneE hv
  · exact noneE hv
  · revert hv; refine someC fun h => ?_; subst h; exact fin _ G
theorem callA_cells (I : IOk prog w hT n ih) (c : Cx A (n + 1)) (lim : hT.NoLimit) (R : Rel hT ρ L σ s.heap) {a : Addr} {r : FnRec} (Fk : FnOk hT a r) (hc : r.cellful = true) {args : List AV} {vs : List Value} (V : VRs ρ s.heap args vs) {bs : List (Str × AV)}
    (hb : bindsA r args = some bs) {f : Fl} {σ₁ : St}
    (hx : ih.xs ⟨r.scope, (numbered (cnames r.scope.names) σ.hp.length).reverse, some (a, r.fd)⟩ r.body ⟨σ.hp ++ (cnames r.scope.names).map (fun n => AO.cell (lk n bs.reverse)), filtA r.scope.names bs.reverse⟩ = some (f, σ₁)) (hv : BodyV f = some v) :
    codeAny (model prog w) A (.call (.ref a) ⟨vs, []⟩) (RetR (Post hT L ρ s ⟨σ₁.hp, σ.loc⟩ (fun ρ' h' u => VR ρ' h' v u))) s :=
  callA_cellsX c lim R Fk hc V hb (fun c' R' Ev' => I.xs c' R' Ev' hx) hv
structure TabFOk (T : Tab) (hT : Heap) : Prop where
  fn : ∀ a r, T.fn a = some r → FnOk hT a r
theorem callA_sound (TF : TabFOk T hT) (I : IOk prog w hT n ih) (c : Cx A (n + 1)) (lim : hT.NoLimit) (R : Rel hT ρ L σ s.heap) {a : Addr} {args : List AV} {vs : List Value} (V : VRs ρ s.heap args vs) {hp' : List AO} (e : callA T ih a args σ.hp = some (v, hp')) :
    codeAny (model prog w) A (.call (.ref a) ⟨vs, []⟩) (RetR (Post hT L ρ s ⟨hp', σ.loc⟩ (fun ρ' h' u => VR ρ' h' v u))) s := by
  unfold callA at e
  revert e; refine bindE fun r hr e => ?_
  revert e; refine bindE fun bs hb e => ?_
  revert e; refine bindE fun p hx e => ?_
  have Fk := TF.fn a r hr
  obtain ⟨f, σ₁⟩ := p
  refine ex0_2 (endA_ok e) fun hv Z1 => ?_; subst Z1
  unfold frameA at hx
  cases hc : r.cellful with
  | false => rw [hc] at hx; exact callA_plain I c lim R Fk hc V hb hx hv
  | true => rw [hc] at hx; exact callA_cells I c lim R Fk hc V hb hx hv
end
end Mine
namespace Mine
noncomputable def super0 : Expr → Bool
  | .Call (.Name _ _) [] [] _ => true
  | _ => false
theorem attrBase_plain {o : Expr} {a : Str} {env : Env} {whole : Sem Value} (h : super0 o = false) : attributeBase o a env whole = whole := by
  cases o with
  | Call f as ks p =>
    cases f with
    | Name n q =>
      cases as with
      | nil => cases ks with
        | nil => exact tfE h
        | cons x r => rfl
      | cons x r => rfl
    | _ => rfl
  | _ => rfl
noncomputable def keepA (T : Tab) (TC : TabC) : AV → Bool
  | .fn a => (T.fn a).isSome
  | .bi _ => true
  | .cls c => hasN TC.mak c
  | _ => false
noncomputable def partA (ih : IH) (ae : AE) (o : Option Expr) (σ : St) : Option (AV × St) := match o with
  | none => some (.none, σ)
  | some e => ih.ev ae e σ
inductive EV where
  | const (v : AV)
  | name (x : Str)
  | bin (op : Operator) (l r : Expr)
  | usub (x : Expr)
  | nott (x : Expr)
  | cmp (op : CmpOp) (l r : Expr)
  | boolop (op : BoolOp) (es : List Expr)
  | ite (t b o : Expr)
  | tup (es : List Expr)
  | list (es : List Expr)
  | slice (v : Expr) (lo hi st : Option Expr)
  | sub (v i : Expr)
  | att (v : Expr) (a : Str)
  | calln (f : Str) (as : List Expr)
  | callm (o : Expr) (m : Str) (as : List Expr)
  | stop
  | other
noncomputable def viewE (e : Expr) : EV := match e with
  | .Constant (.int i) _ _ => .const (.int i)
  | .Constant (.str x) _ _ => .const (.str x.cps.toList)
  | .Constant .none _ _ => .const .none
  | .Constant (.bool b) _ _ => .const (.bool b)
  | .Name x _ => .name x
  | .BinOp l op r _ => .bin op l r
  | .UnaryOp .USub x _ => .usub x
  | .UnaryOp .Not x _ => .nott x
  | .Compare l [op] [r] _ => bif behindInMarks op r then .stop else .cmp op l r
  | .BoolOp op es _ => .boolop op es
  | .IfExp t b o _ => .ite t b o
  | .Tuple es _ _ => .tup es
  | .List es _ => .list es
  | .Subscript v (.Slice lo hi st _) _ => .slice v lo hi st
  | .Subscript v i _ => .sub v i
  | .Attribute v a _ => bif super0 v then .stop else .att v a
  | .Call (.Name f _) as [] _ => bif as.any isStar then .stop else .calln f as
  | .Call (.Attribute o m apos) as [] pos => bif super0 o || as.any isStar then .other else bif Nat.blt as.length 30 && Nat.beq apos.endLine pos.line then .callm o m as else .stop
  | _ => .other
inductive EVR : Expr → EV → Prop
  | int (i k p) : EVR (.Constant (.int i) k p) (.const (.int i))
  | str (x k p) : EVR (.Constant (.str x) k p) (.const (.str x.cps.toList))
  | non (k p) : EVR (.Constant .none k p) (.const .none)
  | bool (b k p) : EVR (.Constant (.bool b) k p) (.const (.bool b))
  | name (x p) : EVR (.Name x p) (.name x)
  | bin (l op r p) : EVR (.BinOp l op r p) (.bin op l r)
  | usub (x p) : EVR (.UnaryOp .USub x p) (.usub x)
  | nott (x p) : EVR (.UnaryOp .Not x p) (.nott x)
  | cmp (l op r p) : behindInMarks op r = false → EVR (.Compare l [op] [r] p) (.cmp op l r)
  | boolop (op es p) : EVR (.BoolOp op es p) (.boolop op es)
  | ite (t b o p) : EVR (.IfExp t b o p) (.ite t b o)
  | tup (es k p) : EVR (.Tuple es k p) (.tup es)
  | list (es p) : EVR (.List es p) (.list es)
  | slice (v lo hi st q p) : EVR (.Subscript v (.Slice lo hi st q) p) (.slice v lo hi st)
  | sub (v i p) : EVR (.Subscript v i p) (.sub v i)
  | att (v a p) : super0 v = false → EVR (.Attribute v a p) (.att v a)
  | calln (f q as p) : as.any isStar = false → EVR (.Call (.Name f q) as [] p) (.calln f as)
  | callm (o m apos as pos) : super0 o = false → as.any isStar = false → (Nat.blt as.length 30 && Nat.beq apos.endLine pos.line) = true → EVR (.Call (.Attribute o m apos) as [] pos) (.callm o m as)
  | stop (e) : EVR e .stop
  | other (e) : EVR e .other
theorem viewE_r (e : Expr) : EVR e (viewE e) := by
  cases e with
  | Constant c k p => cases c <;> first | exact .other _ | exact .int _ _ _ | exact .str _ _ _ | exact .non _ _ | exact .bool _ _ _
  | Name x p => exact .name _ _
  | BinOp l op r p => exact .bin _ _ _ _
  | UnaryOp op x p => cases op <;> first | exact .other _ | exact .usub _ _ | exact .nott _ _
  | Compare l ops rs p =>
    rcases ops with _ | ⟨op, _ | ⟨_, _⟩⟩ <;> rcases rs with _ | ⟨r, _ | ⟨_, _⟩⟩ <;> first | exact .other _ | skip
    show EVR _ (bif behindInMarks op r then .stop else .cmp op l r)
    cases h : behindInMarks op r with
    | true => exact .stop _
    | false => exact .cmp _ _ _ _ h
  | BoolOp op es p => exact .boolop _ _ _
  | IfExp t b o p => exact .ite _ _ _ _
  | Tuple es k p => exact .tup _ _ _
  | List es p => exact .list _ _
  | Subscript v i p => cases i <;> first | exact .sub _ _ _ | exact .slice _ _ _ _ _ _
  | Attribute v a p =>
    show EVR _ (bif super0 v then .stop else .att v a)
    cases h : super0 v with
    | true => exact .stop _
    | false => exact .att _ _ _ h
  | Call f as ks pos =>
    cases ks with
    | cons _ _ => cases f <;> exact .other _
    | nil =>
      cases f with
      | Name f p =>
        show EVR _ (bif as.any isStar then .stop else .calln f as)
        cases h : as.any isStar with
        | true => exact .stop _
        | false => exact .calln _ _ _ _ h
      | Attribute o m apos =>
        show EVR _ (bif super0 o || as.any isStar then .other else bif Nat.blt as.length 30 && Nat.beq apos.endLine pos.line then .callm o m as else .stop)
        cases h : (super0 o || as.any isStar) with
        | true => exact .other _
        | false =>
          cases h' : (Nat.blt as.length 30 && Nat.beq apos.endLine pos.line) with
          | true => exact .callm _ _ _ _ _ (Bool.or_eq_false_iff.mp h).1 (Bool.or_eq_false_iff.mp h).2 h'
          | false => exact .stop _
      | _ => exact .other _
  | _ => exact .other _
noncomputable def callN (e : Expr) : Option (Str × List Expr) := match viewE e with
  | .calln f as => some (f, as)
  | _ => none
theorem callN_ok {e : Expr} {q : Str × List Expr} (h : callN e = some q) : ∃ p pos, e = .Call (.Name q.1 p) q.2 [] pos ∧ q.2.any isStar = false := by
  have V := viewE_r e
  unfold callN at h
  generalize viewE e = z at V h
  cases V with
  | calln f fp as pos hs => revert h; refine pairC fun h1 h2 => ?_; subst h1; subst h2; exact ⟨fp, pos, rfl, hs⟩
  | _ => exact noneE h
noncomputable def evName (T : Tab) (ae : AE) (x : Str) (σ : St) : Option (AV × St) := (nameA T ae x σ).bind fun v => some (v, σ)
noncomputable def evBin (ih : IH) (ae : AE) (op : Operator) (l r : Expr) (σ : St) : Option (AV × St) := (ih.ev ae l σ).bind fun p => (ih.ev ae r p.2).bind fun q => (binA op p.1 q.1 q.2.hp).bind fun u => some (u.1, ⟨u.2, q.2.loc⟩)
noncomputable def evUsub (ih : IH) (ae : AE) (x : Expr) (σ : St) : Option (AV × St) := (ih.ev ae x σ).bind fun p => match p.1 with
  | .int i => some (.int (-i), p.2)
  | _ => none
noncomputable def evNott (ih : IH) (ae : AE) (x : Expr) (σ : St) : Option (AV × St) := (ih.ev ae x σ).bind fun p => (ih.tv p.1 p.2.hp).bind fun q => some (.bool (!q.1), ⟨q.2, p.2.loc⟩)
noncomputable def evCmp (ih : IH) (ae : AE) (op : CmpOp) (l r : Expr) (σ : St) : Option (AV × St) := (ih.ev ae l σ).bind fun p => (ih.ev ae r p.2).bind fun q => (cmpA op p.1 q.1 q.2.hp).bind fun b => some (.bool b, q.2)
noncomputable def evIte (ih : IH) (ae : AE) (t b o : Expr) (σ : St) : Option (AV × St) := (ih.tr ae t σ).bind fun q => match q.1 with
  | true => ih.ev ae b q.2
  | false => ih.ev ae o q.2
noncomputable def evTup (ih : IH) (ae : AE) (es : List Expr) (σ : St) : Option (AV × St) := (evsA ih ae es σ).bind fun p => bif lenOk p.1.length then some (.tup p.1, p.2) else none
noncomputable def evList (ih : IH) (ae : AE) (es : List Expr) (σ : St) : Option (AV × St) := (evsA ih ae es σ).bind fun p => bif lenOk p.1.length then some (.ref p.2.hp.length, ⟨p.2.hp ++ [.list p.1], p.2.loc⟩) else none
noncomputable def evSlice (TC : TabC) (ih : IH) (ae : AE) (v : Expr) (lo hi st : Option Expr) (σ : St) : Option (AV × St) := (ih.ev ae v σ).bind fun p => (partA ih ae lo p.2).bind fun a => (partA ih ae hi a.2).bind fun b => (partA ih ae st b.2).bind fun c => (sliceA TC p.1 a.1 b.1 c.1 c.2.hp).bind fun u => some (u.1, ⟨u.2, c.2.loc⟩)
noncomputable def evSub (TC : TabC) (ih : IH) (ae : AE) (v i : Expr) (σ : St) : Option (AV × St) := (ih.ev ae v σ).bind fun p => (ih.ev ae i p.2).bind fun q => (sub2A TC p.1 q.1 q.2.hp).bind fun u => some (u, q.2)
noncomputable def evAtt (TC : TabC) (ih : IH) (ae : AE) (v : Expr) (a : Str) (σ : St) : Option (AV × St) := (ih.ev ae v σ).bind fun p => (atA TC p.1 a p.2.hp).bind fun u => some (u, p.2)
noncomputable def evCalln (T : Tab) (TC : TabC) (ih : IH) (xt : AE → Expr → St → Option (AV × St)) (ae : AE) (e : Expr) (f : Str) (as : List Expr) (σ : St) : Option (AV × St) := (nameA T ae f σ).bind fun g => bif keepA T TC g then (evsA ih ae as σ).bind fun q => (ih.fn g q.1 q.2.hp).bind fun u => some (u.1, ⟨u.2, q.2.loc⟩) else xt ae e σ
noncomputable def evCallm (T : Tab) (TC : TabC) (ih : IH) (ae : AE) (o : Expr) (m : Str) (as : List Expr) (σ : St) : Option (AV × St) := (ih.ev ae o σ).bind fun p => (meA TC p.1 m p.2.hp).bind fun g => bif keepA T TC g.1 then (evsA ih ae as p.2).bind fun q => (ih.fn g.1 (g.2 ++ q.1) q.2.hp).bind fun u => some (u.1, ⟨u.2, q.2.loc⟩) else none
noncomputable def evV (T : Tab) (TC : TabC) (ih : IH) (xt : AE → Expr → St → Option (AV × St)) (ae : AE) (e : Expr) (σ : St) (x : EV) : Option (AV × St) := match x with
  | .const v => some (v, σ)
  | .name x => evName T ae x σ
  | .bin op l r => evBin ih ae op l r σ
  | .usub x => evUsub ih ae x σ
  | .nott x => evNott ih ae x σ
  | .cmp op l r => evCmp ih ae op l r σ
  | .boolop op es => boolA ih ae op es σ
  | .ite t b o => evIte ih ae t b o σ
  | .tup es => evTup ih ae es σ
  | .list es => evList ih ae es σ
  | .slice v lo hi st => evSlice TC ih ae v lo hi st σ
  | .sub v i => evSub TC ih ae v i σ
  | .att v a => evAtt TC ih ae v a σ
  | .calln f as => evCalln T TC ih xt ae e f as σ
  | .callm o m as => evCallm T TC ih ae o m as σ
  | .stop => none
  | .other => xt ae e σ
noncomputable def evB (T : Tab) (TC : TabC) (ih : IH) (xt : AE → Expr → St → Option (AV × St)) (ae : AE) (e : Expr) (σ : St) : Option (AV × St) := evV T TC ih xt ae e σ (viewE e)
structure AllOk (T : Tab) (TC : TabC) (hT : Heap) : Prop where
  t : TabOk T hT
  f : TabFOk T hT
  c : TabCOk TC hT
noncomputable def XtOk (prog : Program) (w : World) (hT : Heap) (n : Nat) (xt : AE → Expr → St → Option (AV × St)) : Prop :=
  ∀ {A : Around} {L : Addr} {ρ : List Addr} {s : Shared} {σ σ' : St} {env : Env} {ae : AE} {e : Expr} {v : AV}, Cx A (n + 3) → Rel hT ρ L σ s.heap → EnvR ρ L ae env → xt ae e σ = some (v, σ') →
    Tri prog w hT A L ρ s (eval e env) σ' (fun ρ' h' u => VR ρ' h' v u)
section
variable {prog : Program} {w : World} {hT : Heap} {A : Around} {L : Addr} {ρ : List Addr} {s : Shared} {σ σ' : St} {env : Env} {ae : AE} {v : AV} {n : Nat} {ih : IH} {T : Tab} {TC : TabC} {xt : AE → Expr → St → Option (AV × St)}
set_option tactic.hygienic true in
theorem keepA_ok (O : AllOk T TC hT) {f : AV} {ρ : List Addr} {h : Heap} {fv : Value} (e : keepA T TC f = true) (V : VR ρ h f fv) : KeepOk hT fv := by
  unfold keepA at e
  split at e
  · rename_i a
    refine ex1_1 (Option.isSome_iff_exists.mp e) fun r hr => ?_
    revert V; refine vrFn ?_; intro h; subst h
    exact (O.f.fn a r hr).keep
  · rename_i b
    revert V; refine vrBi ?_; intro h; subst h
    intro M h _
    refine ⟨.machine, .inr (.inl rfl), ?_⟩
    cases b <;> exact Looks.now
  · revert V; refine vrCls ?_; intro h; subst h
    exact O.c.mak _ (hasN_mem e)
  · exact ftE e
theorem noStar {pos : Pos} : ∀ {es : List Expr}, es.any isStar = false → (backTo pos (starEach es env)).any (·.1) = false
  | [], _ => rfl
  | x :: r, h => by
    rw [List.any_cons, Bool.or_eq_false_iff] at h
    rw [starEach_cons h.1]
    show (false || (backTo pos (starEach r env)).any (·.1)) = false
    rw [noStar h.2]; rfl
theorem callEnd (O : AllOk T TC hT) (I : IOk prog w hT (n + 3) ih) (c : Cx A (n + 3)) (R : Rel hT ρ L σ s.heap) (Ev : EnvR ρ L ae env) {f : AV} {first args : List AV} {fv : Value} {fs : List Value} {es : List Expr} {pos pos' : Pos} {σ₁ : St} {hp' : List AO} (hk : keepA T TC f = true) (hs : es.any isStar = false)
    (V : VR ρ s.heap f fv) (W : VRs ρ s.heap first fs) (ha : evsA ih ae es σ = some (args, σ₁)) (hc : ih.fn f (first ++ args) σ₁.hp = some (v, hp')) :
    Tri prog w hT A L ρ s (callWith pos' fv fs (backTo pos (starEach es env)) []) ⟨hp', σ₁.loc⟩ (fun ρ' h' u => VR ρ' h' v u) := by
  refine callWith_of (P := fun h => ∀ b o, hT.get? b = some o → h.get? b = some o) (by rw [noStar hs]; rfl) (fun h P => keepA_ok O hk V _ h P) ?_
  have fin : ∀ ρ₁ s₁ vs, Step [L] ρ s.heap ρ₁ s₁.heap → Rel hT ρ₁ L σ₁ s₁.heap → Ok s s₁ → VRs ρ₁ s₁.heap args vs →
      (∀ b o, hT.get? b = some o → s₁.heap.get? b = some o) ∧ wpAny (model prog w) A (call fv (fs ++ vs) []) (Post hT L ρ s ⟨hp', σ₁.loc⟩ (fun ρ' h' u => VR ρ' h' v u)) No s₁ := fun ρ₁ s₁ vs S R₁ Ok₁ U =>
    ⟨R₁.keep, Tri.lift S Ok₁ (I.fn c R₁ (S.vr R V) ((S.vrs R W).append U) hc)⟩
  cases es with
  | nil =>
    revert ha; refine pairC fun h1 h2 => ?_; subst h1; subst h2
    exact evalArgs_kw_nil rfl (wpAny_evalAll_nil (fin ρ s [] (Step.refl _ _ _) R (Ok.refl _) .nil))
  | cons x r =>
    rw [List.any_cons, Bool.or_eq_false_iff] at hs
    have hE := (evsA_sound I c (pos := pos) R Ev ha).nx (fun ρ₁ s₁ vs S R₁ Ok₁ U => fin ρ₁ s₁ vs S R₁ Ok₁ U)
    rw [starEach_cons hs.1] at hE ⊢
    exact evalArgs_plain hE
theorem partA_sound (I : IOk prog w hT n ih) (c : Cx A n) (R : Rel hT ρ L σ s.heap) (Ev : EnvR ρ L ae env) {o : Option Expr} (e : partA ih ae o σ = some (v, σ')) :
    Tri prog w hT A L ρ s (evalPart o env) σ' (fun ρ' h' u => VR ρ' h' v u) := by
  cases o with
  | none => revert e; refine pairC fun h1 h2 => ?_; subst h1; subst h2; rw [evalPart_none]; exact wpAny_pure (Post.same' R .none)
  | some x => rw [evalPart_some]; exact I.ev c R Ev e
end
end Mine
namespace Mine
section
variable {prog : Program} {w : World} {hT : Heap} {A : Around} {L : Addr} {ρ : List Addr} {s : Shared} {σ σ' : St} {env : Env} {ae : AE} {v : AV} {n : Nat} {ih : IH} {T : Tab} {TC : TabC} {xt : AE → Expr → St → Option (AV × St)}
theorem str_back (x : Str) : (⟨x.cps.toList.toArray⟩ : Str) = x := by cases x; simp
theorem nameA_debug {x : Str} (hu : nameA T ae x σ = some v) : (x == ("__debug__" : Str)) = false := by
  refine sEq_beq_no ?_
  unfold nameA at hu
  cases q : W.Fast.sEq x (Str.ofString "__debug__") with
  | true => rw [q] at hu; exact noneE hu
  | false => rfl
theorem evB_sound (O : AllOk T TC hT) (I : IOk prog w hT (n + 3) ih) (c : Cx A (n + 3)) (X : XtOk prog w hT n xt) (R : Rel hT ρ L σ s.heap) (Ev : EnvR ρ L ae env) {e : Expr} (h : evB T TC ih xt ae e σ = some (v, σ')) :
    Tri prog w hT A L ρ s (eval e env) σ' (fun ρ' h' u => VR ρ' h' v u) := by
  have V := viewE_r e
  change evV T TC ih xt ae e σ (viewE e) = _ at h
  generalize viewE e = x at V h
  cases V with
  | int i k p =>
    revert h; refine pairC fun h1 h2 => ?_; subst h1; subst h2
    exact wpAny_Constant_int (Post.same R (.int _ _))
  | str x k p =>
    revert h; refine pairC fun h1 h2 => ?_; subst h1; subst h2
    refine Constant_str (Post.same R ?_)
    have := VR.str (ρ := ρ) (h := s.heap) x.cps.toList s.toks
    rw [str_back] at this
    exact this
  | non k p =>
    revert h; refine pairC fun h1 h2 => ?_; subst h1; subst h2; exact Constant_none (Post.same' R .none)
  | bool b k p =>
    revert h; refine pairC fun h1 h2 => ?_; subst h1; subst h2; exact Constant_bool (Post.same' R (.bool _))
  | name x p =>
    revert h
    refine bindE fun u hu h => ?_
    revert h; refine pairC fun h1 h2 => ?_; subst h1; subst h2
    exact wpAny_Name (nameA_sound O.t R Ev hu) (nameA_debug hu)
  | bin l op r p =>
    revert h
    refine bindE fun p hp h => ?_
    revert h; refine bindE fun q hq h => ?_
    revert h; refine bindE fun u hu h => ?_
    revert h; refine pairC fun h1 h2 => ?_; subst h1; subst h2
    refine wpAny_BinOp ?_
    refine (I.ev c R Ev hp).nx fun ρ₁ s₁ a S R₁ O₁ p₁ => ?_
    refine (I.ev c R₁ (Ev.mono S.pre) hq).nx fun ρ₂ s₂ b S₂ R₂ O₂ p₂ => ?_
    exact Tri.lift (S.trans S₂) (O₁.trans O₂) (binA_sound R₂ hu (S₂.vr R₁ p₁) p₂)
  | usub x p =>
    revert h
    refine bindE fun p hp h => ?_
    refine UnaryOp_ ?_
    refine (I.ev c R Ev hp).nx fun ρ₁ s₁ a S R₁ O₁ p₁ => ?_
    obtain ⟨y, σ₁⟩ := p
    cases y <;> first | first | (exact noneE h) | (revert h; refine pairC fun h1 h2 => ?_; subst h1; subst h2) | skip
    revert p₁; refine vrInt ?_; intro _ h; subst h
    exact neg_int (Post.mk S R₁ ⟨O₁.os, O₁.gens⟩ (.int _ _))
  | nott x p =>
    revert h
    refine bindE fun p hp h => ?_
    revert h; refine bindE fun q hq h => ?_
    revert h; refine pairC fun h1 h2 => ?_; subst h1; subst h2
    refine UnaryOp_ ?_
    refine (I.ev c R Ev hp).nx fun ρ₁ s₁ a S R₁ O₁ p₁ => ?_
    refine not_of ?_
    refine (I.tv c R₁ p₁ hq).nx fun ρ₂ s₂ b S₂ R₂ O₂ p₂ => ?_
    subst p₂
    exact (Post.mk (S.trans S₂) R₂ (O₁.trans O₂) (.bool _))
  | cmp l op r p hm =>
    revert h
    refine bindE fun p hp h => ?_
    revert h; refine bindE fun q hq h => ?_
    revert h; refine bindE fun d hd h => ?_
    revert h; refine pairC fun h1 h2 => ?_; subst h1; subst h2
    refine wpAny_Compare1 ?_ hm
    refine (I.ev c R Ev hp).nx fun ρ₁ s₁ a S R₁ O₁ p₁ => ?_
    refine (I.ev c R₁ (Ev.mono S.pre) hq).nx fun ρ₂ s₂ a₂ S₂ R₂ O₂ p₂ => ?_
    refine wpAny_mono (cmpA_sound R₂ c.u64 hd (S₂.vr R₁ p₁) p₂) (fun u s' hu => ?_) fun zz zz x => x
    revert hu; refine fun h0 => ex0_2 h0 fun Z1 Z2 => ?_; clear h0; subst Z1; subst Z2
    exact (Post.mk (S.trans S₂) R₂ (O₁.trans O₂) (.bool _))
  | boolop op es p =>
    exact boolA_sound I c R Ev h
  | ite t b o p =>
    revert h
    refine bindE fun q hq h => ?_
    refine IfExp_ ?_
    refine (I.tr c R Ev hq).nx fun ρ₁ s₁ b S R₁ O₁ p₁ => ?_
    subst p₁
    cases hb : q.1 with
    | true =>
      rw [hb] at h
      rw [if_pos rfl]
      exact Tri.lift S O₁ (I.ev c R₁ (Ev.mono S.pre) h)
    | false =>
      rw [hb] at h
      rw [if_neg (by decide)]
      exact Tri.lift S O₁ (I.ev c R₁ (Ev.mono S.pre) h)
  | tup es k p =>
    revert h
    refine bindE fun p hp h => ?_
    revert h; refine condE fun hl h => ?_
    revert h; refine pairC fun h1 h2 => ?_; subst h1; subst h2
    rw [arm_eval_Tuple]
    refine wpAny_bind (wpAny_standAt (wpAny_bind ?_))
    refine (evsA_sound I c R Ev hp).nx fun ρ₁ s₁ vs S R₁ O₁ p₁ => ?_
    exact Tri.lift S O₁ (newTuple_A R₁ p₁ hl)
  | list es p =>
    revert h
    refine bindE fun p hp h => ?_
    revert h; refine condE fun hl h => ?_
    revert h; refine pairC fun h1 h2 => ?_; subst h1; subst h2
    rw [arm_eval_List]
    refine wpAny_bind (wpAny_standAt (wpAny_bind ?_))
    refine (evsA_sound I c R Ev hp).nx fun ρ₁ s₁ vs S R₁ O₁ p₁ => ?_
    exact Tri.lift S O₁ (newList_A R₁ p₁ hl)
  | slice v lo hi st q p =>
    revert h
    refine bindE fun p hp h => ?_
    revert h; refine bindE fun a ha h => ?_
    revert h; refine bindE fun b hb h => ?_
    revert h; refine bindE fun d hd h => ?_
    revert h; refine bindE fun u hu h => ?_
    revert h; refine pairC fun h1 h2 => ?_; subst h1; subst h2
    refine Subscript_ ?_
    refine (I.ev c R Ev hp).nx fun ρ₁ s₁ o S R₁ O₁ p₁ => ?_
    refine wpAny_Slice ?_
    refine (partA_sound I c R₁ (Ev.mono S.pre) ha).nx fun ρ₂ s₂ a' S₂ R₂ O₂ p₂ => ?_
    refine (partA_sound I c R₂ ((Ev.mono S.pre).mono S₂.pre) hb).nx fun ρ₃ s₃ b' S₃ R₃ O₃ p₃ => ?_
    refine (partA_sound I c R₃ (((Ev.mono S.pre).mono S₂.pre).mono S₃.pre) hd).nx fun ρ₄ s₄ c' S₄ R₄ O₄ p₄ => ?_
    refine wpAny_mono (sliceA_sound O.c R₄ hu (S₄.vr R₃ (S₃.vr R₂ (S₂.vr R₁ p₁))) (S₄.vr R₃ (S₃.vr R₂ p₂)) (S₄.vr R₃ p₃) p₄) (fun zz zz z => ?_) fun zz zz z => z
    revert z; refine postE fun ρ₅ q1 q2 q3 q4 => ?_
    exact (Post.mk ((((S.trans S₂).trans S₃).trans S₄).trans q1) q2 ((((O₁.trans O₂).trans O₃).trans O₄).trans q3) q4)
  | sub v i p =>
    revert h
    refine bindE fun p hp h => ?_
    revert h; refine bindE fun q hq h => ?_
    revert h; refine bindE fun u hu h => ?_
    revert h; refine pairC fun h1 h2 => ?_; subst h1; subst h2
    refine Subscript_ ?_
    refine (I.ev c R Ev hp).nx fun ρ₁ s₁ a S R₁ O₁ p₁ => ?_
    refine (I.ev c R₁ (Ev.mono S.pre) hq).nx fun ρ₂ s₂ b S₂ R₂ O₂ p₂ => ?_
    exact Tri.lift (S.trans S₂) (O₁.trans O₂) (sub2A_sound O.c R₂ hu (S₂.vr R₁ p₁) p₂)
  | att v a p h0 =>
    revert h
    refine bindE fun p hp h => ?_
    revert h; refine bindE fun u hu h => ?_
    revert h; refine pairC fun h1 h2 => ?_; subst h1; subst h2
    rw [arm_eval_Attribute, attrBase_plain h0]
    refine wpAny_bind ?_
    refine (I.ev c R Ev hp).nx fun ρ₁ s₁ a S R₁ O₁ p₁ => ?_
    refine wpAny_bind (wpAny_standAt (wpAny_bind (wpAny_holding ?_)))
    refine (atA_sound O.c R₁ hu p₁).nx fun ρ₂ s₂ b S₂ R₂ O₂ p₂ => ?_
    exact wpAny_bind (wpAny_letTemporaryGo (wpAny_pure (Post.mk (S.trans S₂) R₂ (O₁.trans O₂) p₂)))
  | calln f q as p hs =>
    revert h
    refine bindE fun g hg h => ?_
    cases hk : keepA T TC g with
    | false => rw [hk, cond_false] at h; exact X c R Ev h
    | true =>
      rw [hk, cond_true] at h
      revert h; refine bindE fun q hq h => ?_
      revert h; refine bindE fun u hu h => ?_
      revert h; refine pairC fun h1 h2 => ?_; subst h1; subst h2
      refine wpAny_Call_Name_kw (wpAny_Name ?_ (nameA_debug hg))
      refine (nameA_sound O.t R Ev hg).nx fun ρ₁ s₁ a S R₁ O₁ p₁ => ?_
      exact Tri.lift S O₁ (callEnd (first := []) O I c R₁ (Ev.mono S.pre) hk hs p₁ .nil hq hu)
  | callm o m apos as pos h1 h2 h3 =>
    refine ex0_2 (Bool.and_eq_true_iff.mp h3) fun h3 h4 => ?_
    revert h
    refine bindE fun p hp h => ?_
    revert h; refine bindE fun g hg h => ?_
    revert h; refine condE fun hk h => ?_
    revert h; refine bindE fun q hq h => ?_
    revert h; refine bindE fun u hu h => ?_
    revert h; refine pairC fun h1 h2 => ?_; subst h1; subst h2
    rw [arm_eval_Call, attrBase_plain h1]
    refine wpAny_bind ?_
    refine (I.ev c R Ev hp).nx fun ρ₁ s₁ a S R₁ O₁ p₁ => ?_
    refine wpAny_bind (wpAny_standAt ?_)
    have form : methodCallForm (as.length + ([] : List Keyword).length) (backTo pos (starEach as env)) (backToKw pos (keywordEach [] env)) = true := by
      unfold methodCallForm
      have e1 : (backTo pos (starEach as env)).all (fun x => !x.1) = true := by
        rw [List.all_eq_true]
        intro x hx
        have := List.any_eq_false.mp (noStar (env := env) (pos := pos) h2) x hx
        simpa using this
      have e2 : (backToKw pos (keywordEach [] env)) = [] := rfl
      rw [e1, e2]
      have := Nat.le_of_ble_eq_true h3
      simp
      omega
    unfold methodCall
    rw [form]
    refine wpAny_bind (wpAny_holding ?_)
    refine meA_sound O.c R₁ hg p₁ fun fv vs V W => ?_
    have e4 : (methodCallPos true o env apos pos) = pure pos := by
      unfold methodCallPos
      rw [if_pos (by rw [Nat.eq_of_beq_eq_true h4]; simp)]
    dsimp only
    rw [e4]
    refine wpAny_bind (wpAny_pure ?_)
    exact Tri.lift S O₁ (callEnd O I c R₁ (Ev.mono S.pre) hk h2 V W hq hu)
  | other =>
    exact X c R Ev h
  | stop => exact noneE h
end
end Mine
namespace Mine
noncomputable def setItemA (x i v : AV) (hp : List AO) : Option (List AO) := (theL hp x).bind fun q => (theI i).bind fun k => bif W.Z.leB 0 k && Nat.blt k.toNat q.2.length && lenOk q.2.length then some (hp.set q.1 (.list (q.2.set k.toNat v))) else none
noncomputable def namesOf : List Expr → Option (List Str)
  | [] => some []
  | .Name x _ :: r => match namesOf r with
    | some l => some (x :: l)
    | none => none
  | _ => none
noncomputable def storesA (ae : AE) : List Str → List AV → St → Option St
  | [], [], σ => some σ
  | x :: r, v :: vs, σ => (storeA ae x v σ).bind fun σ₁ => storesA ae r vs σ₁
  | _, _, _ => none
inductive GV where
  | name (x : Str)
  | tup (xs : List Str)
  | att (o : Expr) (a : Str)
  | slice (o : Expr) (lo hi : Option Expr)
  | sub (o i : Expr)
  | stop
noncomputable def viewG (t : Expr) : GV := match t with
  | .Name x _ => .name x
  | .Tuple ts _ _ => match namesOf ts with
    | some xs => .tup xs
    | none => .stop
  | .Attribute o a _ => .att o a
  | .Subscript o (.Slice lo hi none _) _ => .slice o lo hi
  | .Subscript _ (.Slice _ _ (some _) _) _ => .stop
  | .Subscript o i _ => .sub o i
  | _ => .stop
inductive GVR : Expr → GV → Prop
  | name (x p) : GVR (.Name x p) (.name x)
  | tup (ts k p xs) : namesOf ts = some xs → GVR (.Tuple ts k p) (.tup xs)
  | att (o a p) : GVR (.Attribute o a p) (.att o a)
  | slice (o lo hi q p) : GVR (.Subscript o (.Slice lo hi none q) p) (.slice o lo hi)
  | sub (o i p) : GVR (.Subscript o i p) (.sub o i)
  | stop (t) : GVR t .stop
theorem viewG_r (t : Expr) : GVR t (viewG t) := by
  cases t with
  | Name x p => exact .name _ _
  | Tuple ts k p =>
    show GVR _ (match namesOf ts with | some xs => .tup xs | none => .stop)
    cases h : namesOf ts with
    | none => exact .stop _
    | some xs => exact .tup _ _ _ _ h
  | Attribute o a p => exact .att _ _ _
  | Subscript o i p =>
    cases i with
    | Slice lo hi st q => cases st <;> first | exact .stop _ | exact .slice _ _ _ _ _
    | _ => exact .sub _ _ _
  | _ => exact .stop _
noncomputable def asTup (ae : AE) (xs : List Str) (v : AV) (σ : St) : Option St := match v with
  | .tup l => storesA ae xs l σ
  | _ => none
noncomputable def asAtt (TC : TabC) (ih : IH) (ae : AE) (o : Expr) (a : Str) (v : AV) (σ : St) : Option St := (ih.ev ae o σ).bind fun p => (saA TC p.1 a v p.2.hp).bind fun hp => some ⟨hp, p.2.loc⟩
noncomputable def asSlice (TC : TabC) (ih : IH) (ae : AE) (o : Expr) (lo hi : Option Expr) (v : AV) (σ : St) : Option St := (ih.ev ae o σ).bind fun p => (partA ih ae lo p.2).bind fun a => (partA ih ae hi a.2).bind fun b => (setSliceA TC p.1 a.1 b.1 v b.2.hp).bind fun hp => some ⟨hp, b.2.loc⟩
noncomputable def asSub (ih : IH) (ae : AE) (o i : Expr) (v : AV) (σ : St) : Option St := (ih.ev ae o σ).bind fun p => (ih.ev ae i p.2).bind fun q => (setItemA p.1 q.1 v q.2.hp).bind fun hp => some ⟨hp, q.2.loc⟩
noncomputable def asgV (TC : TabC) (ih : IH) (ae : AE) (v : AV) (σ : St) (x : GV) : Option St := match x with
  | .name x => storeA ae x v σ
  | .tup xs => asTup ae xs v σ
  | .att o a => asAtt TC ih ae o a v σ
  | .slice o lo hi => asSlice TC ih ae o lo hi v σ
  | .sub o i => asSub ih ae o i v σ
  | .stop => none
noncomputable def asgB (TC : TabC) (ih : IH) (ae : AE) (t : Expr) (v : AV) (σ : St) : Option St := asgV TC ih ae v σ (viewG t)
section
variable {prog : Program} {w : World} {hT : Heap} {A : Around} {L : Addr} {ρ : List Addr} {s : Shared} {σ σ' : St} {env : Env} {ae : AE} {v : AV} {n : Nat} {ih : IH} {T : Tab} {TC : TabC}
theorem VRs.set {h : Heap} {l : List AV} {vs : List Value} {x : AV} {u : Value} (j : Nat) (V : VRs ρ h l vs) (X : VR ρ h x u) : VRs ρ h (l.set j x) (vs.set j u) :=
  VRs.ind (P := fun l vs => ∀ j, VRs ρ h (l.set j x) (vs.set j u)) (fun zz => .nil) (fun zz zz zz zz a r ih j => by
    cases j with
    | zero => exact .cons _ _ _ _ X r
    | succ j => exact .cons _ _ _ _ a (ih j)) V j
theorem mapSeq_list (f : Array Value → Array Value) (xs : Array Value) (m : Nat) : ∃ m', Obj.mapSeq f (listOf xs m) = listOf (f xs) m' := ⟨_, rfl⟩
theorem put_end (R : Rel hT ρ L σ s.heap) {r : Nat} {a : Addr} {o : AO} {f : Obj → Obj} (ha : ρ[r]? = some a) (ho : OR ρ (s.heap.update a f) a o) : Post hT L ρ s ⟨σ.hp.set r o, σ.loc⟩ (fun _ _ (_ : Unit) => True) () { s with heap := s.heap.update a f } :=
  (Post.mk (Step.put (List.mem_of_getElem? ha) (Heap.SameBut.update ..) ho.some) (R.put ha (Heap.SameBut.update ..) ho) ⟨rfl, id⟩ trivial)
theorem upd_mono (R : Rel hT ρ L σ s.heap) {r : Nat} {a : Addr} {f : Obj → Obj} (ha : ρ[r]? = some a) {x : AV} {u : Value} (V : VR ρ s.heap x u) : VR ρ (s.heap.update a f) x u :=
  V.mono (List.prefix_refl _) fun b o e im => ((Heap.SameBut.update s.heap a f).2 b fun q => R.inv.immOff e im (q ▸ List.mem_of_getElem? ha)).trans e
theorem upds_mono (R : Rel hT ρ L σ s.heap) {r : Nat} {a : Addr} {f : Obj → Obj} (ha : ρ[r]? = some a) {x : List AV} {u : List Value} (V : VRs ρ s.heap x u) : VRs ρ (s.heap.update a f) x u :=
  V.mono (List.prefix_refl _) fun b o e im => ((Heap.SameBut.update s.heap a f).2 b fun q => R.inv.immOff e im (q ▸ List.mem_of_getElem? ha)).trans e
theorem setItemA_sound (R : Rel hT ρ L σ s.heap) {x i : AV} {a b u : Value} {hp' : List AO} (e : setItemA x i v σ.hp = some hp') (X : VR ρ s.heap x a) (Y : VR ρ s.heap i b) (V : VR ρ s.heap v u) :
    Tri prog w hT A L ρ s (setItem a b u) ⟨hp', σ.loc⟩ (fun zz zz zz => True) := by
  revert e; refine bindE fun q hq e => ?_
  revert e; refine bindE fun k hk e => ?_
  refine ex0_2 (theL_ok hq) fun ex hr => ?_
  rw [ex] at X
  rw [theI_ok hk] at Y
  obtain ⟨r, l⟩ := q
  clear hq hk
  dsimp only at *
  · · revert e; refine condE fun h1 e => ?_
      revert e; refine someC fun h => ?_; subst h
      refine ex0_2 (Bool.and_eq_true_iff.mp h1) fun h1 h3 => ?_
      refine ex0_2 (Bool.and_eq_true_iff.mp h1) fun h1 h2 => ?_
      have h1' := (W.Z.leB_iff _ _).mp h1
      have h2' := Nat.le_of_ble_eq_true h2
      have h3' := Nat.le_of_ble_eq_true h3
      revert Y; refine vrInt ?_; intro _ h; subst h
      cases X with
      | ref _ a ha =>
        refine ex2_2 (R.inv.at_ r _ a hr ha) fun vs m g Wv => ?_
        have hl := isList_of g
        have hlen := Wv.length
        unfold setItem
        refine wpAny_holding ?_
        refine wpAny_bind (wpAny_sequenceKey hl.typeIs (by decide) ?_)
        refine wpAny_bind (wpAny_callSpecial?_slot (name := Str.ofString "__setitem__") hl.typeIs slot_list_setitem (wpAny_call_entry slot_list_setitem hl.typeIs entry_list_setitem ?_ (args_list_setitem _ _ _)))
        show wpAny _ _ (Builtin.List.listSubscript? (.int k _) >>= _) _ _ s
        refine wpAny_bind (wpAny_listSubscript_int (fitsIndex_of h1' (by omega)) ?_)
        refine ex1_1 (Int.eq_ofNat_of_zero_le h1') fun j Z1 => ?_; subst Z1
        have hj : j < vs.toArray.size := by simp; omega
        have hx' : vs.toArray[j]? = some vs.toArray[j] := Array.getElem?_eq_getElem hj
        show wpAny _ _ ((seqItemAt a j >>= fun r => pure (r.map (j, ·))) >>= _) _ _ s
        refine wpAny_bind (wpAny_bind (wpAny_seqItemAt g rfl (wpAny_pure ?_)))
        rw [hx']
        show wpAny _ _ (setSeqItemAt a j u >>= _) _ _ s
        refine wpAny_bind (wpAny_setSeqItemAt g rfl ?_)
        have fin : Post hT L ρ s ⟨σ.hp.set r (.list (l.set (j : Int).toNat v)), σ.loc⟩ (fun _ _ (_ : Unit) => True) () { s with heap := s.heap.update a (Obj.mapSeq (·.setIfInBounds j u)) } := by
          refine ex1_1 (mapSeq_list (fun xs => xs.setIfInBounds j u) vs.toArray m) fun n' hn => ?_
          refine put_end R ha ⟨vs.set j u, n', (Heap.get?_update_self _ g (by rw [hn]; rfl)).trans ?_, (upds_mono R ha Wv).set _ (upd_mono R ha V)⟩
          rw [hn]
          simp
        exact wpAny_pure ⟨.none, rfl, wpAny_pure fin⟩
theorem storesA_sound : ∀ {ts : List Expr} {xs : List Str} {vs : List AV} {us : List Value} {ρ : List Addr} {s : Shared} {σ σ' : St}, namesOf ts = some xs → Rel hT ρ L σ s.heap → EnvR ρ L ae env → VRs ρ s.heap vs us → storesA ae xs vs σ = some σ' →
    Tri prog w hT A L ρ s (assignInOrder ((assignEach ts env).map (·.2)) us) σ' (fun zz zz zz => True)
  | [], xs, vs, us, ρ, s, σ, σ', h, R, Ev, V, e => by
    revert h; refine someC fun h => ?_; subst h
    cases vs with
    | nil => revert e; refine someC fun h => ?_; subst h; revert V; refine vrsNil ?_; intro h; subst h; exact wpAny_pure (Post.same' R trivial)
    | cons _ _ => exact noneE e
  | t :: ts, xs, vs, us, ρ, s, σ, σ', h, R, Ev, V, e => by
    cases t with
    | Name x p =>
      unfold namesOf at h
      cases h' : namesOf ts with
      | none => rw [h'] at h; exact noneE h
      | some l =>
        rw [h'] at h
        revert h; refine someC fun h => ?_; subst h
        cases V with
        | nil => exact noneE e
        | cons y u vs us V W =>
          revert e; refine bindE fun σ₁ h1 e => ?_
          show wpAny _ _ (assignInOrder (assign (.Name x p) env :: (assignEach ts env).map (·.2)) (u :: us)) _ _ _
          unfold assignInOrder
          refine wpAny_bind (wpAny_holding (assign_Name ?_))
          refine (storeA_sound R Ev V h1).nx fun ρ₁ s₁ a S R₁ O₁ p₁ => ?_
          exact Tri.lift S O₁ (storesA_sound h' R₁ (Ev.mono S.pre) (S.vrs R W) e)
    | _ => exact noneE h
theorem namesOf_len : ∀ {ts : List Expr} {xs : List Str}, namesOf ts = some xs → (assignEach ts env).length = xs.length ∧ (assignEach ts env).findIdx? (·.1) = none
  | [], xs, h => by revert h; refine someC fun h => ?_; subst h; exact ⟨rfl, rfl⟩
  | t :: ts, xs, h => by
    cases t with
    | Name x p =>
      unfold namesOf at h
      cases h' : namesOf ts with
      | none => rw [h'] at h; exact noneE h
      | some l =>
        rw [h'] at h
        revert h; refine someC fun h => ?_; subst h
        refine ex0_2 (namesOf_len h') fun a b => ?_
        show ((false, assign (.Name x p) env) :: assignEach ts env).length = _ ∧ ((false, assign (.Name x p) env) :: assignEach ts env).findIdx? (·.1) = none
        refine ⟨by simp [a], ?_⟩
        rw [List.findIdx?_cons]
        simp [b]
    | _ => exact noneE h
theorem storesA_len : ∀ {xs : List Str} {vs : List AV} {σ σ' : St}, storesA ae xs vs σ = some σ' → xs.length = vs.length
  | [], [], _, _, _ => rfl
  | _ :: _, _ :: _, _, _, e => by
    refine ex1_2 (Option.bind_eq_some_iff.mp e) fun σ₁ zz e => ?_
    simp [storesA_len e]
  | [], _ :: _, _, _, e => by exact noneE e
  | _ :: _, [], _, _, e => by exact noneE e
theorem asgB_sound (O : AllOk T TC hT) (I : IOk prog w hT n ih) (c : Cx A n) (R : Rel hT ρ L σ s.heap) (Ev : EnvR ρ L ae env) {t : Expr} {u : Value} (V : VR ρ s.heap v u) (e : asgB TC ih ae t v σ = some σ') :
    Tri prog w hT A L ρ s (assign t env u) σ' (fun zz zz zz => True) := by
  have V' := viewG_r t
  change asgV TC ih ae v σ (viewG t) = _ at e
  generalize viewG t = x at V' e
  cases V' with
  | name x p =>
    exact assign_Name (storeA_sound R Ev V e)
  | tup ts k p xs hx =>
    cases v with
    | tup l =>
      change storesA ae xs l σ = _ at e
      refine ex1_3 R.opened fun f F N G => ?_
      cases V with
      | tup _ vs a m g W =>
        refine ex0_2 (namesOf_len (env := env) hx) fun n1 n2 => ?_
        have hl := storesA_len e
        rw [arm_assign_Tuple]
        refine wpAny_bind (wpAny_standAt ?_)
        unfold unpack
        rw [n1, n2]
        have IT : IsTup s.heap a vs.toArray := ⟨_, g, rfl, _, rfl⟩
        refine wpAny_bind (wpAny_holding (unpackItemsN_ F N IT c.hd (by rw [hl, List.size_toArray, W.length]) fun h' F' N' => ?_))
        refine ex0_2 (R.back F' G N' (fun p hp => hp)) fun S R' => ?_
        exact Tri.lift S ⟨rfl, id⟩ (storesA_sound (s := { s with heap := h' }) hx R' (Ev.mono S.pre) (S.vrs R W) e)
    | _ => exact noneE e
  | att o a p =>
    revert e
    refine bindE fun p hp e => ?_
    revert e; refine bindE fun hp' hs e => ?_
    revert e; refine someC fun h => ?_; subst h
    refine kas_attr ?_
    refine (I.ev c R Ev hp).nx fun ρ₁ s₁ a S R₁ O₁ p₁ => ?_
    exact Tri.lift S O₁ (saA_sound O.c R₁ hs p₁ (S.vr R V))
  | slice o lo hi q p =>
    revert e
    refine bindE fun p hp e => ?_
    revert e; refine bindE fun a ha e => ?_
    revert e; refine bindE fun b hb e => ?_
    revert e; refine bindE fun hp' hs e => ?_
    revert e; refine someC fun h => ?_; subst h
    refine kas_sub ?_
    refine (I.ev c R Ev hp).nx fun ρ₁ s₁ o S R₁ O₁ p₁ => ?_
    refine wpAny_Slice ?_
    refine (partA_sound I c R₁ (Ev.mono S.pre) ha).nx fun ρ₂ s₂ a' S₂ R₂ O₂ p₂ => ?_
    refine (partA_sound I c R₂ ((Ev.mono S.pre).mono S₂.pre) hb).nx fun ρ₃ s₃ b' S₃ R₃ O₃ p₃ => ?_
    refine wpAny_pure ?_
    refine wpAny_mono (setSliceA_sound O.c R₃ hs (S₃.vr R₂ (S₂.vr R₁ p₁)) (S₃.vr R₂ p₂) p₃ (S₃.vr R₂ (S₂.vr R₁ (S.vr R V)))) (fun zz zz z => ?_) fun zz zz z => z
    revert z; refine postE fun ρ₅ q1 q2 q3 q4 => ?_
    exact (Post.mk (((S.trans S₂).trans S₃).trans q1) q2 (((O₁.trans O₂).trans O₃).trans q3) q4)
  | sub o i p =>
    revert e
    refine bindE fun p hp e => ?_
    revert e; refine bindE fun q hq e => ?_
    revert e; refine bindE fun hp' hs e => ?_
    revert e; refine someC fun h => ?_; subst h
    refine kas_sub ?_
    refine (I.ev c R Ev hp).nx fun ρ₁ s₁ a S R₁ O₁ p₁ => ?_
    refine (I.ev c R₁ (Ev.mono S.pre) hq).nx fun ρ₂ s₂ b S₂ R₂ O₂ p₂ => ?_
    exact Tri.lift (S.trans S₂) (O₁.trans O₂) (setItemA_sound R₂ hs (S₂.vr R₁ p₁) p₂ (S₂.vr R₁ (S.vr R V)))
  | stop =>
    exact noneE e
end
end Mine
namespace Mine
inductive IT where
  | lst (r i : Nat)
  | rng (x left step : Int)
  | str (l : List Nat) (i : Nat)
  | rev (r : Nat) (i : Int)
structure Off (hT : Heap) (ρ : List Addr) (L : Addr) (h : Heap) (a : Addr) : Prop where
  ρ : a ∉ ρ
  L : a ≠ L
  T : hT.get? a = none
  im : ∀ o, h.get? a = some o → ¬ Imm o
  lv : (h.get? a).isSome = true
noncomputable def ItR (hT : Heap) (ρ : List Addr) (L : Addr) (h : Heap) (a : Addr) : IT → Prop
  | .lst r i => Off hT ρ L h a ∧ ∃ l, ρ[r]? = some l ∧ h.IsListIter a l i
  | .rng x left step => Off hT ρ L h a ∧ IsRangeIter h a x left step
  | .str l i => Off hT ρ L h a ∧ ∃ t, h.IsStrIter a "str_ascii_iterator" ⟨l.toArray⟩ t i
  | .rev r i => Off hT ρ L h a ∧ ∃ l, ρ[r]? = some l ∧ h.IsRevIter a l i
noncomputable def nextA (it : IT) (hp : List AO) : Option (Option (AV × IT)) := match it with
  | .lst r i => (gL hp r).bind fun l => some ((l[i]?).bind fun x => some (x, .lst r (i + 1)))
  | .rng x left step => bif W.Z.ltB 0 left then some (some (.int x, .rng (x + step) (left - 1) step)) else some none
  | .str l i => some ((l[i]?).bind fun ch => some (.str [ch], .str l (i + 1)))
  | .rev r i => match i with
    | .ofNat k => (gL hp r).bind fun l => (l[k]?).bind fun x => some (some (x, .rev r ((k : Int) - 1)))
    | .negSucc m => bif Nat.beq m 0 then some none else none
noncomputable def iterA (v : AV) (hp : List AO) : Option IT := match v with
  | .ref r => (gL hp r).bind fun zz => some (.lst r 0)
  | .rng a b c => bif Builtin.Range.small a b c then some (.rng a (Builtin.Range.rangeSize a b c) c) else none
  | .str l => bif l.all (fun c => Nat.blt c 128) then some (.str l 0) else none
  | _ => none
noncomputable def NextR (hT : Heap) (ρ : List Addr) (L : Addr) (σ : St) (s : Shared) (a : Addr) (r : Option (AV × IT)) (x : Option Value) (s' : Shared) : Prop :=
  Rel hT ρ L σ s'.heap ∧ Ok s s' ∧ (∀ b o, s.heap.get? b = some o → b ≠ a → s'.heap.get? b = some o) ∧ match r, x with
    | none, none => True
    | some (y, it'), some u => (s'.heap.get? a).isSome = true ∧ VR ρ s'.heap y u ∧ ItR hT ρ L s'.heap a it'
    | _, _ => False
section
variable {prog : Program} {w : World} {hT : Heap} {A : Around} {L : Addr} {ρ ρ' : List Addr} {s : Shared} {σ σ' : St} {env : Env} {ae : AE} {v : AV} {n : Nat} {ih : IH} {T : Tab} {TC : TabC} {h h' : Heap} {a : Addr}
theorem Off.step (O : Off hT ρ L h a) (S : Step [L] ρ h ρ' h') : Off hT ρ' L h' a := by
  refine ex1_1 (Option.isSome_iff_exists.mp O.lv) fun o ho => ?_
  have k := S.fm a o ho O.ρ (by simp only [List.mem_singleton]; exact O.L)
  refine ⟨fun q => ?_, O.L, O.T, fun o' e => ?_, by rw [k]; rfl⟩
  · have := S.fresh a q O.ρ; rw [this] at ho; exact noneE ho
  · rw [k] at e; revert e; refine someC fun h => ?_; subst h; exact O.im o ho
theorem Off.kept (O : Off hT ρ L h a) (S : Step [L] ρ h ρ' h') {o : Obj} (e : h.get? a = some o) : h'.get? a = some o := S.fm a o e O.ρ (by simp only [List.mem_singleton]; exact O.L)
theorem ItR.step {it : IT} (x : ItR hT ρ L h a it) (S : Step [L] ρ h ρ' h') : ItR hT ρ' L h' a it := by
  cases it with
  | lst r i =>
    obtain ⟨O, l, e, o, ho, q⟩ := x
    exact ⟨O.step S, l, prefix_get S.pre e, o, O.kept S ho, q⟩
  | rng y left step => exact ⟨x.1.step S, x.1.kept S x.2⟩
  | str l i =>
    obtain ⟨O, t, o, ho, q⟩ := x
    exact ⟨O.step S, t, o, O.kept S ho, q⟩
  | rev r i =>
    obtain ⟨O, l, e, o, ho, q⟩ := x
    exact ⟨O.step S, l, prefix_get S.pre e, o, O.kept S ho, q⟩
theorem Rel.other (R : Rel hT ρ L σ h) (O : Off hT ρ L h a) (k : ∀ b o, h.get? b = some o → b ≠ a → h'.get? b = some o) : Rel hT ρ L σ h' := by
  have tk : ∀ b o, h.get? b = some o → Imm o → h'.get? b = some o := fun b o e im => k b o e fun q => O.im o (q ▸ e) im
  refine ex1_2 R.ns fun f F G => ?_
  refine ⟨⟨R.inv.len, R.inv.nd, fun i o b e1 e2 => ?_⟩, ⟨f, ?_, G.mono (List.prefix_refl _) tk⟩, fun b o e => k b o (R.keep b o e) fun q => (by rw [q, O.T] at e; exact noneE e), R.off, R.offL, R.above⟩
  · have x := R.inv.at_ i o b e1 e2
    refine ex1_1 (Option.isSome_iff_exists.mp x.some) fun o' e' => ?_
    exact x.mono (List.prefix_refl _) tk ((k b o' e' fun q => O.ρ (q ▸ List.mem_of_getElem? e2)).trans e'.symm)
  · revert F; refine fun h0 => ex3_2 h0 fun oL es ep a1 r => ?_; clear h0
    exact ⟨oL, es, ep, k _ _ a1 fun q => O.L q.symm, r⟩
theorem Step.other {X : List Addr} (lv : (h'.get? a).isSome = true) (k : ∀ b o, h.get? b = some o → b ≠ a → h'.get? b = some o) : Step (a :: X) ρ h ρ h' :=
  ⟨List.prefix_refl _, fun b o e zz n => k b o e fun q => n (q ▸ .head _), fun b e => by
    by_cases q : b = a
    · rw [q]; exact lv
    · refine ex1_1 (Option.isSome_iff_exists.mp e) fun o e => ?_
      rw [k b o e q]; rfl, fun zz a b => absurd a b⟩
theorem Off.other (O : Off hT ρ L h a) {o : Obj} (e : h'.get? a = some o) (im : ¬ Imm o) : Off hT ρ L h' a := ⟨O.ρ, O.L, O.T, fun o' q => by rw [e] at q; revert q; refine someC fun h => ?_; subst h; exact im, by rw [e]; rfl⟩
theorem Step.ended {ρ₁ : List Addr} {h₁ : Heap} (S : Step [a, L] ρ h ρ₁ h₁) (n : h.get? a = none) (k : ∀ b o, h₁.get? b = some o → b ≠ a → h'.get? b = some o) : Step [L] ρ h ρ₁ h' := by
  have ne : ∀ b, (h.get? b).isSome = true → b ≠ a := fun b e q => by rw [q, n] at e; exact ftE e
  refine ⟨S.pre, fun b o e n1 n2 => k b o (S.fm b o e n1 fun q => ?_) (ne b (by rw [e]; rfl)), fun b e => ?_, S.fresh⟩
  · rcases List.mem_cons.mp q with q | q
    · exact ne b (by rw [e]; rfl) q
    · exact n2 q
  · refine ex1_1 (Option.isSome_iff_exists.mp (S.live b e)) fun o ho => ?_
    rw [k b o ho (ne b e)]; rfl
theorem NextR.endR (R : Rel hT ρ L σ s.heap) (O : Off hT ρ L s.heap a) {h' : Heap} {t : Nat} (k : Heap.ExtBut a s.heap h') : NextR hT ρ L σ s a none none { s with heap := h', toks := t } :=
  ⟨R.other O fun b o e n => k b o n e, ⟨rfl, id⟩, fun b o e n => k b o n e, trivial⟩
theorem NextR.itemR (R : Rel hT ρ L σ s.heap) (O : Off hT ρ L s.heap a) {h' : Heap} {t : Nat} {o : Obj} {y : AV} {u : Value} {it' : IT} (hs : Heap.SameBut a s.heap h') (ho : h'.get? a = some o) (V : VR ρ s.heap y u)
    (im : ¬ Imm o) (X : Off hT ρ L h' a → ItR hT ρ L h' a it') : NextR hT ρ L σ s a (some (y, it')) (some u) { s with heap := h', toks := t } := by
  have k : ∀ b o, s.heap.get? b = some o → b ≠ a → h'.get? b = some o := fun b o e n => (hs.2 b n).trans e
  exact ⟨R.other O k, ⟨rfl, id⟩, k, by rw [ho]; rfl, V.mono (List.prefix_refl _) fun b o e im => k b o e fun q => O.im o (q ▸ e) im, X (O.other ho im)⟩
theorem nextA_sound (hd : A.handled = none) (R : Rel hT ρ L σ s.heap) {it : IT} (X : ItR hT ρ L s.heap a it) {r : Option (AV × IT)} (e : nextA it σ.hp = some r) :
    wpAny (model prog w) A (pyNext (.ref a)) (NextR hT ρ L σ s a r) No s := by
  cases it with
  | lst r' i =>
    obtain ⟨O, l, el, X⟩ := X
    revert e; refine bindE fun items hr e => ?_
    have hr := gL_ok hr
    · refine ex2_2 (R.inv.at_ r' _ l hr el) fun vs m g V => ?_
      cases hx : items[i]? with
      | some x =>
        rw [hx] at e
        revert e; refine someC fun h => ?_; subst h
        refine ex1_2 (V.get hx) fun u hu U => ?_
        refine wpAny_pyNext_list_item X (isList_of g) (by simpa using hu) fun h' hi hs => ?_
        refine ex1_3 (id hi) fun o' ho' hc' hd' => ?_
        exact NextR.itemR R O hs ho' U (notImmC hc' hd' rfl rfl) fun O' => ⟨O', l, el, hi⟩
      | none =>
        rw [hx] at e
        revert e; refine someC fun h => ?_; subst h
        have hn : vs.toArray[i]? = none := by
          rw [List.getElem?_eq_none_iff] at hx
          rw [V.length] at hx
          simpa using hx
        exact wpAny_pyNext_list_end hd X (isList_of g) hn fun h' he => NextR.endR R O he
  | rng x left step =>
    revert X; refine fun h0 => ex0_2 h0 fun O X => ?_; clear h0
    unfold nextA at e
    dsimp only at e
    cases q : W.Z.ltB 0 left with
    | true =>
      rw [q] at e
      revert e; refine someC fun h => ?_; subst h
      refine wpAny_pyNext_range_item X ((W.Z.ltB_iff _ _).mp q) fun h' hi hs => ?_
      exact NextR.itemR R O hs hi (.int _ _) (notImmB rfl rfl) fun O' => ⟨O', hi⟩
    | false =>
      rw [q] at e
      revert e; refine someC fun h => ?_; subst h
      have : ¬ 0 < left := fun z => by rw [(W.Z.ltB_iff _ _).mpr z] at q; exact tfE q
      exact wpAny_pyNext_range_end hd X (by omega) fun h' he => NextR.endR R O he
  | str l i =>
    obtain ⟨O, t, X⟩ := X
    change some ((l[i]?).bind fun ch => some (AV.str [ch], IT.str l (i + 1))) = _ at e
    cases hx : l[i]? with
    | some ch =>
      rw [hx] at e
      revert e; refine someC fun h => ?_; subst h
      refine wpAny_pyNext_ascii_item X (c := ch) (by simpa using hx) fun h' hi hs => ?_
      refine ex1_3 (id hi) fun o' ho' hc' hd' => ?_
      exact NextR.itemR R O hs ho' (.str [ch] _) (notImmC hc' hd' rfl rfl) fun O' => ⟨O', t, hi⟩
    | none =>
      rw [hx] at e
      revert e; refine someC fun h => ?_; subst h
      exact wpAny_pyNext_ascii_end hd X (by rw [List.getElem?_eq_none_iff] at hx; simpa using hx) fun h' he => NextR.endR R O he
  | rev r' i =>
    obtain ⟨O, l, el, X⟩ := X
    cases i with
    | ofNat k =>
      revert e; refine bindE fun items hr e => ?_
      revert e; refine bindE fun x hx e => ?_
      have hr := gL_ok hr
      revert e; refine someC fun h => ?_; subst h
      refine ex2_2 (R.inv.at_ r' _ l hr el) fun vs m g V => ?_
      refine ex1_2 (V.get hx) fun u hu U => ?_
      refine wpAny_pyNext_rev_item X (isList_of g) (by simpa using hu) fun h' hi hs => ?_
      refine ex1_3 (id hi) fun o' ho' hc' hd' => ?_
      exact NextR.itemR R O hs ho' U (notImmC hc' hd' rfl rfl) fun O' => ⟨O', l, el, hi⟩
    | negSucc m =>
      revert e; refine condE fun h0 e => ?_
      cases Nat.eq_of_beq_eq_true h0
      revert e; refine someC fun h => ?_; subst h
      exact wpAny_pyNext_rev_end hd X fun h' he => NextR.endR R O he
end
end Mine
namespace Mine
noncomputable def forA (ih : IH) (ae : AE) (x : Str) (body orelse : List Stmt) : Nat → IT → St → Option (Fl × St)
  | 0, _, _ => none
  | k + 1, it, σ => (nextA it σ.hp).bind fun r => match r with
    | none => ih.xs ae orelse σ
    | some q => (storeA ae x q.1 σ).bind fun σ₁ => (ih.xs ae body σ₁).bind fun p => match p.1 with
      | .next => forA ih ae x body orelse k q.2 p.2
      | .cont => forA ih ae x body orelse k q.2 p.2
      | .brk => some (.next, p.2)
      | .ret u => some (.ret u, p.2)
noncomputable def whA (ih : IH) (ae : AE) (test : Expr) (body orelse : List Stmt) : Nat → St → Option (Fl × St)
  | 0, _ => none
  | k + 1, σ => (ih.tr ae test σ).bind fun q => match q.1 with
    | false => ih.xs ae orelse q.2
    | true => (ih.xs ae body q.2).bind fun p => match p.1 with
      | .next => whA ih ae test body orelse k p.2
      | .cont => whA ih ae test body orelse k p.2
      | .brk => some (.next, p.2)
      | .ret u => some (.ret u, p.2)
section
variable {prog : Program} {w : World} {hT : Heap} {A : Around} {L : Addr} {ρ ρ₀ : List Addr} {s s₀ : Shared} {σ σ' : St} {env : Env} {ae : AE} {v : AV} {n : Nat} {ih : IH} {T : Tab} {TC : TabC} {a : Addr} {x : Str} {px : Pos} {body orelse : List Stmt} {f : Fl} {test : Expr}
theorem Step.mid {X : List Addr} {ρ₁ : List Addr} {h h₁ h₂ : Heap} (S : Step X ρ h ρ₁ h₁) (n : a ∈ X) (lv : (h₂.get? a).isSome = true) (k : ∀ b o, h₁.get? b = some o → b ≠ a → h₂.get? b = some o) : Step X ρ h ρ₁ h₂ :=
  S.trans ((Step.other (X := []) (ρ := ρ₁) lv k).wide fun b hb => by rw [List.mem_singleton.mp hb]; exact n)
theorem forA_sound (I : IOk prog w hT n ih) (c : Cx A n) (h0 : s₀.heap.get? a = none) {E' : Value → Shared → Prop} {k : Nat} {it : IT} (e : forA ih ae x body orelse k it σ = some (f, σ')) (S : Step [a, L] ρ₀ s₀.heap ρ s.heap) (R : Rel hT ρ L σ s.heap) (O : Ok s₀ s) (Ev : EnvR ρ L ae env) (X : ItR hT ρ L s.heap a it) :
    codeAny (model prog w) A (.forLoop (.Name x px) (.ref a) body orelse env) (fun r s' => match r with
      | .ok g => Post hT L ρ₀ s₀ σ' (fun ρ' h' g => FlR ρ' h' f g) g s'
      | .error e => E' e s') s := by
  refine codeAny_forLoop_any (fun k s => ∃ it σ ρ, forA ih ae x body orelse k it σ = some (f, σ') ∧ Step [a, L] ρ₀ s₀.heap ρ s.heap ∧ Rel hT ρ L σ s.heap ∧ Ok s₀ s ∧ EnvR ρ L ae env ∧ ItR hT ρ L s.heap a it) ?_ k ⟨it, σ, ρ, e, S, R, O, Ev, X⟩
  clear e S R O Ev X
  rintro k s ⟨it, σ, ρ, e, S, R, O, Ev, X⟩
  cases k with
  | zero => exact noneE e
  | succ k =>
    unfold forA at e
    revert e; refine bindE fun r hr e => ?_
    refine wpAny_mono (nextA_sound c.hd R X hr) (fun y s₁ hy => ?_) fun zz zz z => z.elim
    revert hy; refine fun h0 => ex0_4 h0 fun R₁ O₁ k₁ hy => ?_; clear h0
    cases r with
    | none =>
      cases y with
      | some _ => exact hy.elim
      | none =>
        have S₁ := S.ended h0 k₁
        refine wpAny_mono (I.xs c R₁ Ev e) (fun g s₂ hg => ?_) fun zz zz z => z.elim
        revert hg; refine postE fun ρ₂ S₂ R₂ O₂ G => ?_
        exact (Post.mk (S₁.trans S₂) R₂ ((O.trans O₁).trans O₂) G)
    | some q =>
      cases y with
      | none => exact hy.elim
      | some u =>
        revert hy; refine fun h0 => ex0_3 h0 fun lv V X₁ => ?_; clear h0
        revert e; refine bindE fun σ₁ h1 e => ?_
        revert e; refine bindE fun p h2 e => ?_
        have S₁ := S.mid (.head _) lv k₁
        refine wpAny_pure ?_
        refine wpAny_mono (assign_Name (storeA_sound R₁ Ev V h1)) (fun zz s₂ hg => ?_) fun zz zz z => z.elim
        revert hg; refine fun h0 => ex1_4 h0 fun ρ₂ S₂ R₂ O₂ zz => ?_; clear h0
        refine wpAny_mono (I.xs c R₂ (Ev.mono S₂.pre) h2) (fun g s₃ hg => ?_) fun zz zz z => z.elim
        revert hg; refine postE fun ρ₃ S₃ R₃ O₃ G => ?_
        obtain ⟨fl, σ₂⟩ := p
        have Sx : Step [a, L] ρ₀ s₀.heap ρ₃ s₃.heap := (S₁.trans (S₂.wide fun b hb => .tail _ hb)).trans (S₃.wide fun b hb => .tail _ hb)
        have Ox : Ok s₀ s₃ := ((O.trans O₁).trans O₂).trans O₃
        have Sd : Step [L] ρ₀ s₀.heap ρ₃ s₃.heap := Sx.drop fun b hb => by
          rcases List.mem_cons.mp hb with rfl | hb
          · exact .inr h0
          · exact .inl hb
        cases fl <;> cases g <;> first | exact G.elim | skip
        · exact ⟨k, Nat.lt_succ_self k, q.2, σ₂, ρ₃, e, Sx, R₃, Ox, (Ev.mono S₂.pre).mono S₃.pre, (X₁.step S₂).step S₃⟩
        · revert e; refine pairC fun h1 h2 => ?_; subst h1; subst h2; exact (Post.mk Sd R₃ Ox trivial)
        · exact ⟨k, Nat.lt_succ_self k, q.2, σ₂, ρ₃, e, Sx, R₃, Ox, (Ev.mono S₂.pre).mono S₃.pre, (X₁.step S₂).step S₃⟩
        · revert e; refine pairC fun h1 h2 => ?_; subst h1; subst h2; exact (Post.mk Sd R₃ Ox G)
theorem whA_sound (I : IOk prog w hT n ih) (c : Cx A n) {E' : Value → Shared → Prop} {k : Nat} (e : whA ih ae test body orelse k σ = some (f, σ')) (R : Rel hT ρ₀ L σ s₀.heap) (Ev : EnvR ρ₀ L ae env) :
    codeAny (model prog w) A (.whileLoop test body orelse env) (fun r s' => match r with
      | .ok g => Post hT L ρ₀ s₀ σ' (fun ρ' h' g => FlR ρ' h' f g) g s'
      | .error e => E' e s') s₀ := by
  refine codeAny_whileLoop (fun k s => ∃ σ ρ, whA ih ae test body orelse k σ = some (f, σ') ∧ Step [L] ρ₀ s₀.heap ρ s.heap ∧ Rel hT ρ L σ s.heap ∧ Ok s₀ s ∧ EnvR ρ L ae env) ?_ k ⟨σ, ρ₀, e, Step.refl _ _ _, R, Ok.refl _, Ev⟩
  clear e R Ev
  rintro k s ⟨σ, ρ, e, S, R, O, Ev⟩
  cases k with
  | zero => exact noneE e
  | succ k =>
    unfold whA at e
    revert e; refine bindE fun q hq e => ?_
    refine wpAny_mono (I.tr c R Ev hq) (fun b s₁ hb => ?_) fun zz zz z => z.elim
    revert hb; refine fun h0 => ex1_4 h0 fun ρ₁ S₁ R₁ O₁ Z1 => ?_; clear h0; subst Z1
    obtain ⟨b, σ₁⟩ := q
    cases b with
    | false =>
      rw [if_neg Bool.false_ne_true]
      refine wpAny_mono (I.xs c R₁ (Ev.mono S₁.pre) e) (fun g s₂ hg => ?_) fun zz zz z => z.elim
      revert hg; refine postE fun ρ₂ S₂ R₂ O₂ G => ?_
      exact (Post.mk ((S.trans S₁).trans S₂) R₂ ((O.trans O₁).trans O₂) G)
    | true =>
      rw [if_pos rfl]
      revert e; refine bindE fun p h2 e => ?_
      refine wpAny_mono (I.xs c R₁ (Ev.mono S₁.pre) h2) (fun g s₃ hg => ?_) fun zz zz z => z.elim
      revert hg; refine postE fun ρ₃ S₃ R₃ O₃ G => ?_
      obtain ⟨fl, σ₂⟩ := p
      have Sx : Step [L] ρ₀ s₀.heap ρ₃ s₃.heap := (S.trans S₁).trans S₃
      have Ox : Ok s₀ s₃ := (O.trans O₁).trans O₃
      cases fl <;> cases g <;> first | exact G.elim | skip
      · exact ⟨k, Nat.lt_succ_self k, σ₂, ρ₃, e, Sx, R₃, Ox, (Ev.mono S₁.pre).mono S₃.pre⟩
      · revert e; refine pairC fun h1 h2 => ?_; subst h1; subst h2; exact (Post.mk Sx R₃ Ox trivial)
      · exact ⟨k, Nat.lt_succ_self k, σ₂, ρ₃, e, Sx, R₃, Ox, (Ev.mono S₁.pre).mono S₃.pre⟩
      · revert e; refine pairC fun h1 h2 => ?_; subst h1; subst h2; exact (Post.mk Sx R₃ Ox G)
end
end Mine
namespace Mine
noncomputable def isComp : Expr → Bool
  | .ListComp _ _ _ _ => true
  | .SetComp _ _ _ _ => true
  | .DictComp _ _ _ _ _ => true
  | _ => false
noncomputable def isTupE : Expr → Bool
  | .Tuple _ _ _ => true
  | .List _ _ => true
  | _ => false
noncomputable def isSetE : Expr → Bool
  | .Set _ _ _ => true
  | _ => false
noncomputable def isSliceE : Expr → Bool
  | .Slice _ _ _ _ => true
  | _ => false
theorem swapsWith_plain {v : Expr} {t : Option Expr} {l : Nat} {env : Env} (h : isComp v = false) : swapsWith v t l env = pure false := by
  cases v <;> first | rfl | exact tfE h
noncomputable def isCallE : Expr → Bool
  | .Call _ _ _ _ => true
  | _ => false
noncomputable def okT (t v : Expr) : Bool := match t with
  | .Name _ _ => true
  | .Attribute _ _ _ => true
  | .Subscript _ _ _ => true
  | .Tuple _ _ _ => isCallE v
  | _ => false
theorem swapped_plain {t v : Expr} {env : Env} (h : okT t v = true) : swappedStores [t] v env = pure none := by
  cases t <;> first | exact ftE h | rfl | (cases v <;> first | exact ftE h | rfl)
theorem folded_plain {e : Expr} {env : Env} (h : isSetE e = false) (x : Value) : foldedSetIterable e env x = pure x := by
  cases e <;> first | rfl | exact tfE h
theorem augStore_plain {i : Expr} (h : isSliceE i = false) (ov iv new : Value) : augStore i ov iv new = (do holding [new, ov, iv] (setItem ov iv new); release [new, ov, iv] []; pure .next) := by
  cases i <;> first | rfl | exact tfE h
noncomputable def inpI (op : Operator) (a b : Int) : Option AV := match op with
  | .Add => some (.int (a + b))
  | .Sub => some (.int (a - b))
  | _ => none
noncomputable def inpA (op : Operator) (x y : AV) : Option AV := (theII x y).bind fun q => inpI op q.1 q.2
noncomputable def startG (ih : IH) (ae : AE) (iter : Expr) (σ : St) : Option (IT × St) := (ih.ev ae iter σ).bind fun p => (iterA p.1 p.2.hp).bind fun it => some (it, p.2)
noncomputable def startRev (q : AV × St) : Option (IT × St) := match q.1 with
  | .ref r => match q.2.hp[r]? with
    | some (.list l) => some (.rev r ((l.length : Int) - 1), q.2)
    | _ => none
  | _ => none
noncomputable def isRev : AV → Bool
  | .bi .reversed => true
  | _ => false
noncomputable def one1 {α : Type} : List α → Option α
  | [x] => some x
  | _ => none
theorem one1_ok {α : Type} {l : List α} {x : α} (h : one1 l = some x) : l = [x] := by
  rcases l with _ | ⟨x, _ | ⟨_, _⟩⟩ <;> first | exact noneE h | (revert h; refine someC fun h => ?_; subst h; rfl)
noncomputable def revC (iter : Expr) : Option (Str × Expr) := (callN iter).bind fun q => (one1 q.2).bind fun e => some (q.1, e)
theorem revC_ok {iter : Expr} {q : Str × Expr} (h : revC iter = some q) : ∃ p pos, iter = .Call (.Name q.1 p) [q.2] [] pos ∧ [q.2].any isStar = false := by
  revert h
  refine bindE fun c hc h => ?_
  revert h
  refine bindE fun e he h => ?_
  revert h; refine someC fun h => ?_; subst h
  have := callN_ok hc
  rw [one1_ok he] at this
  exact this
noncomputable def startA (T : Tab) (ih : IH) (ae : AE) (iter : Expr) (σ : St) : Option (IT × St) := match revC iter with
  | some q => (nameA T ae q.1 σ).bind fun g => bif isRev g then (ih.ev ae q.2 σ).bind startRev else startG ih ae iter σ
  | none => startG ih ae iter σ
noncomputable def nameP : Expr → Option (Str × Pos)
  | .Name x p => some (x, p)
  | _ => none
noncomputable def attP : Expr → Option (Expr × Str × Pos)
  | .Attribute o a p => some (o, a, p)
  | _ => none
noncomputable def twoP {α : Type} (f : Expr → Option α) : List Expr → Option (α × α)
  | [a, b] => (f a).bind fun x => (f b).bind fun y => some (x, y)
  | _ => none
theorem nameP_ok {e : Expr} {q : Str × Pos} (h : nameP e = some q) : e = .Name q.1 q.2 := by
  cases e <;> first | exact noneE h | (revert h; refine pairC fun h1 h2 => ?_; subst h1; subst h2; rfl)
theorem attP_ok {e : Expr} {q : Expr × Str × Pos} (h : attP e = some q) : e = .Attribute q.1 q.2.1 q.2.2 := by
  cases e <;> first | exact noneE h | (revert h; refine someC fun h => ?_; subst h; rfl)
theorem twoP_ok {α : Type} {f : Expr → Option α} : ∀ {l : List Expr} {q : α × α}, twoP f l = some q → ∃ a b, l = [a, b] ∧ f a = some q.1 ∧ f b = some q.2
  | [], _, h => noneE h
  | [_], _, h => noneE h
  | _ :: _ :: _ :: _, _, h => noneE h
  | [a, b], q, h => by
    revert h
    refine bindE fun x hx h => ?_
    revert h
    refine bindE fun y hy h => ?_
    revert h; refine pairC fun h1 h2 => ?_; subst h1; subst h2
    exact ⟨a, b, rfl, hx, hy⟩
noncomputable def swapA (sc : Scope) (ts vs : List Expr) : Option (List Str) := (twoP nameP ts).bind fun q => (twoP attP vs).bind fun zz =>
  bif isLocK (sc.names.lookup q.1.1) && isLocK (sc.names.lookup q.2.1) && (q.2.2.line == q.1.2.line) && !(q.1.1 == q.2.1) then some [q.1.1, q.2.1] else none
inductive SV where
  | pass
  | brk
  | cont
  | expr (e : Expr)
  | ret (e : Expr)
  | retn
  | ifs (t : Expr) (b o : List Stmt)
  | whl (t : Expr) (b o : List Stmt)
  | fors (x : Str) (iter : Expr) (b o : List Stmt)
  | asg (t v : Expr)
  | swap (ts vs : List Expr) (v : Expr)
  | asg3 (t₁ t₂ t₃ v : Expr)
  | augn (x : Str) (op : Operator) (v : Expr)
  | augs (o i : Expr) (op : Operator) (v : Expr)
  | stop
  | other
noncomputable def viewS (st : Stmt) : SV := match st with
  | .Pass _ => .pass
  | .Break _ => .brk
  | .Continue _ => .cont
  | .Expr e _ => bif isComp e then .stop else .expr e
  | .Return (some e) _ => .ret e
  | .Return none _ => .retn
  | .If t b o _ => .ifs t b o
  | .While t b o _ => .whl t b o
  | .For (.Name x _) iter b o _ => bif isSetE iter then .stop else .fors x iter b o
  | .Assign [t] v _ => bif isComp v then .other else bif isTupE t && isTupE v then (match t, v with
      | .Tuple ts _ _, .Tuple vs k p => .swap ts vs (.Tuple vs k p)
      | _, _ => .stop) else bif okT t v then .asg t v else .stop
  | .Assign [t₁, t₂, t₃] v _ => .asg3 t₁ t₂ t₃ v
  | .AugAssign (.Name x _) op v _ => .augn x op v
  | .AugAssign (.Subscript o i _) op v _ => bif isSliceE i then .stop else .augs o i op v
  | _ => .other
inductive SVR : Stmt → SV → Prop
  | pass (p) : SVR (.Pass p) .pass
  | brk (p) : SVR (.Break p) .brk
  | cont (p) : SVR (.Continue p) .cont
  | expr (e p) : isComp e = false → SVR (.Expr e p) (.expr e)
  | ret (e p) : SVR (.Return (some e) p) (.ret e)
  | retn (p) : SVR (.Return none p) .retn
  | ifs (t b o p) : SVR (.If t b o p) (.ifs t b o)
  | whl (t b o p) : SVR (.While t b o p) (.whl t b o)
  | fors (x q iter b o p) : isSetE iter = false → SVR (.For (.Name x q) iter b o p) (.fors x iter b o)
  | asg (t v p) : isComp v = false → okT t v = true → SVR (.Assign [t] v p) (.asg t v)
  | swap (ts k p vs k' p' q) : SVR (.Assign [.Tuple ts k p] (.Tuple vs k' p') q) (.swap ts vs (.Tuple vs k' p'))
  | asg3 (t₁ t₂ t₃ v p) : SVR (.Assign [t₁, t₂, t₃] v p) (.asg3 t₁ t₂ t₃ v)
  | augn (x q op v p) : SVR (.AugAssign (.Name x q) op v p) (.augn x op v)
  | augs (o i q op v p) : isSliceE i = false → SVR (.AugAssign (.Subscript o i q) op v p) (.augs o i op v)
  | stop (st) : SVR st .stop
  | other (st) : SVR st .other
theorem viewS_r (st : Stmt) : SVR st (viewS st) := by
  cases st with
  | Pass p => exact .pass _
  | Break p => exact .brk _
  | Continue p => exact .cont _
  | Expr e p =>
    show SVR _ (bif isComp e then .stop else .expr e)
    cases h : isComp e with
    | true => exact .stop _
    | false => exact .expr _ _ h
  | Return e p =>
    cases e with
    | none => exact .retn _
    | some e => exact .ret _ _
  | If t b o p => exact .ifs _ _ _ _
  | While t b o p => exact .whl _ _ _ _
  | For t iter b o p =>
    cases t with
    | Name x q =>
      show SVR _ (bif isSetE iter then .stop else .fors x iter b o)
      cases h : isSetE iter with
      | true => exact .stop _
      | false => exact .fors _ _ _ _ _ _ h
    | _ => exact .other _
  | Assign ts v p =>
    rcases ts with _ | ⟨t, _ | ⟨t₂, _ | ⟨t₃, _ | ⟨_, _⟩⟩⟩⟩
    · exact .other _
    · show SVR _ (bif isComp v then .other else bif isTupE t && isTupE v then _ else bif okT t v then .asg t v else .stop)
      cases h : isComp v with
      | true => exact .other _
      | false =>
        cases h' : (isTupE t && isTupE v) with
        | false =>
          cases h2 : okT t v with
          | true => exact .asg _ _ _ h h2
          | false => exact .stop _
        | true => cases t <;> first | exact .stop _ | (cases v <;> first | exact .stop _ | exact .swap _ _ _ _ _ _ _)
    · exact .other _
    · exact .asg3 _ _ _ _ _
    · exact .other _
  | AugAssign t op v p =>
    cases t with
    | Name x q => exact .augn _ _ _ _ _
    | Subscript o i q =>
      show SVR _ (bif isSliceE i then .stop else .augs o i op v)
      cases h : isSliceE i with
      | true => exact .stop _
      | false => exact .augs _ _ _ _ _ _ h
    | _ => exact .other _
  | _ => exact .other _
noncomputable def exExpr (ih : IH) (ae : AE) (e : Expr) (σ : St) : Option (Fl × St) := (ih.ev ae e σ).bind fun p => match p.1 with
  | .none => some (.next, p.2)
  | _ => none
noncomputable def exRet (ih : IH) (ae : AE) (e : Expr) (σ : St) : Option (Fl × St) := (ih.ev ae e σ).bind fun p => some (.ret p.1, p.2)
noncomputable def exIf (ih : IH) (ae : AE) (t : Expr) (b o : List Stmt) (σ : St) : Option (Fl × St) := (ih.tr ae t σ).bind fun q => match q.1 with
  | true => ih.xs ae b q.2
  | false => ih.xs ae o q.2
noncomputable def exFor (T : Tab) (ih : IH) (ae : AE) (x : Str) (iter : Expr) (b o : List Stmt) (σ : St) : Option (Fl × St) := (startA T ih ae iter σ).bind fun q => forA ih ae x b o 400 q.1 q.2
noncomputable def exAsg (TC : TabC) (ih : IH) (ae : AE) (t v : Expr) (σ : St) : Option (Fl × St) := (ih.ev ae v σ).bind fun p => (asgB TC ih ae t p.1 p.2).bind fun σ₁ => some (.next, σ₁)
noncomputable def exSwap (ih : IH) (ae : AE) (ts vs : List Expr) (v : Expr) (σ : St) : Option (Fl × St) := (swapA ae.sc ts vs).bind fun xs => (ih.ev ae v σ).bind fun q => match q.1 with
  | .tup l => bif Nat.beq l.length xs.length then (storesA ae xs.reverse l.reverse q.2).bind fun σ₁ => some (.next, σ₁) else none
  | _ => none
noncomputable def exAsg3 (TC : TabC) (ih : IH) (ae : AE) (t₁ t₂ t₃ v : Expr) (σ : St) : Option (Fl × St) := (ih.ev ae v σ).bind fun p => (asgB TC ih ae t₁ p.1 p.2).bind fun σ₁ => (asgB TC ih ae t₂ p.1 σ₁).bind fun σ₂ => (asgB TC ih ae t₃ p.1 σ₂).bind fun σ₃ => some (.next, σ₃)
noncomputable def exAugn (T : Tab) (ih : IH) (ae : AE) (x : Str) (op : Operator) (v : Expr) (σ : St) : Option (Fl × St) := (nameA T ae x σ).bind fun a => (ih.ev ae v σ).bind fun p => (inpA op a p.1).bind fun r => (storeA ae x r p.2).bind fun σ₁ => some (.next, σ₁)
noncomputable def exAugs (ih : IH) (ae : AE) (o i : Expr) (op : Operator) (v : Expr) (σ : St) : Option (Fl × St) := (ih.ev ae o σ).bind fun p => (ih.ev ae i p.2).bind fun q => (subA p.1 q.1 q.2.hp).bind fun a => (ih.ev ae v q.2).bind fun y => (inpA op a y.1).bind fun r => (setItemA p.1 q.1 r y.2.hp).bind fun hp => some (.next, ⟨hp, y.2.loc⟩)
noncomputable def exV (T : Tab) (TC : TabC) (ih : IH) (xst : AE → Stmt → St → Option (Fl × St)) (ae : AE) (st : Stmt) (σ : St) (x : SV) : Option (Fl × St) := match x with
  | .pass => some (.next, σ)
  | .brk => some (.brk, σ)
  | .cont => some (.cont, σ)
  | .expr e => exExpr ih ae e σ
  | .ret e => exRet ih ae e σ
  | .retn => some (.ret .none, σ)
  | .ifs t b o => exIf ih ae t b o σ
  | .whl t b o => whA ih ae t b o 400 σ
  | .fors x iter b o => exFor T ih ae x iter b o σ
  | .asg t v => exAsg TC ih ae t v σ
  | .swap ts vs v => exSwap ih ae ts vs v σ
  | .asg3 t₁ t₂ t₃ v => exAsg3 TC ih ae t₁ t₂ t₃ v σ
  | .augn x op v => exAugn T ih ae x op v σ
  | .augs o i op v => exAugs ih ae o i op v σ
  | .stop => none
  | .other => xst ae st σ
noncomputable def exB (T : Tab) (TC : TabC) (ih : IH) (xst : AE → Stmt → St → Option (Fl × St)) (ae : AE) (st : Stmt) (σ : St) : Option (Fl × St) := exV T TC ih xst ae st σ (viewS st)
noncomputable def xsB (ex : Stmt → St → Option (Fl × St)) : List Stmt → St → Option (Fl × St)
  | [], σ => some (.next, σ)
  | st :: r, σ => (ex st σ).bind fun p => match p.1 with
    | .next => xsB ex r p.2
    | f => some (f, p.2)
noncomputable def XsOk (prog : Program) (w : World) (hT : Heap) (n : Nat) (xst : AE → Stmt → St → Option (Fl × St)) : Prop :=
  ∀ {A : Around} {L : Addr} {ρ : List Addr} {s : Shared} {σ σ' : St} {env : Env} {ae : AE} {st : Stmt} {f : Fl}, Cx A (n + 3) → Rel hT ρ L σ s.heap → EnvR ρ L ae env → xst ae st σ = some (f, σ') →
    Tri prog w hT A L ρ s (exec st env) σ' (fun ρ' h' g => FlR ρ' h' f g)
section
variable {prog : Program} {w : World} {hT : Heap} {A : Around} {L : Addr} {ρ ρ₀ : List Addr} {s s₀ : Shared} {σ σ' : St} {env : Env} {ae : AE} {v : AV} {n : Nat} {ih : IH} {T : Tab} {TC : TabC} {a : Addr} {x : Str} {f : Fl} {xst : AE → Stmt → St → Option (Fl × St)}
theorem EnvR.notI (Ev : EnvR ρ L ae env) : interactive env = false := by
  unfold interactive
  rw [Ev.sc, Ev.kind]; rfl
theorem EnvR.block (Ev : EnvR ρ L ae env) : env.blockKind = .function := by
  unfold Env.blockKind
  rw [Ev.sc, Ev.kind]; rfl
theorem inpA_sound (R : Rel hT ρ L σ s.heap) {op : Operator} {x y r : AV} {a b : Value} (e : inpA op x y = some r) (X : VR ρ s.heap x a) (Y : VR ρ s.heap y b) :
    Tri prog w hT A L ρ s (inplaceOp op a b) σ (fun ρ' h' u => VR ρ' h' r u) := by
  revert e
  refine bindE fun q hq e => ?_
  refine ex0_2 (theII_ok hq) fun e1 e2 => ?_
  rw [e1] at X
  rw [e2] at Y
  revert X; refine vrInt ?_; intro _ h; subst h; revert Y; refine vrInt ?_; intro _ h; subst h
  cases op <;> first | exact noneE e | skip
  · revert e; refine someC fun h => ?_; subst h; exact iadd_int (Post.same R (.int _ _))
  · revert e; refine someC fun h => ?_; subst h; exact isub_int (Post.same R (.int _ _))
theorem off_new {h : Heap} (R : Rel hT ρ L σ h) {o : Obj} (hf : o.isFreed = false) (im : ¬ Imm o) : Off hT ρ L (h.push o) h.objs.size := by
  refine ⟨fun q => ?_, fun q => ?_, ?_, fun o' e => ?_, ?_⟩
  · exact absurd (lt_of_live (R.live q)) (Nat.lt_irrefl _)
  · have := lt_of_live R.liveL; rw [← q] at this; exact Nat.lt_irrefl _ this
  · cases e : hT.get? h.objs.size with
    | none => rfl
    | some o' => exact absurd (Heap.lt_size (R.keep _ _ e)) (Nat.lt_irrefl _)
  · rw [Heap.get?_push_size _ hf] at e; revert e; refine someC fun h => ?_; subst h; exact im
  · rw [Heap.get?_push_size _ hf]; rfl
noncomputable def StartR (hT : Heap) (ρ₀ : List Addr) (L : Addr) (s₀ : Shared) (σ : St) (it : IT) (v : Value) (s : Shared) : Prop :=
  ∃ a ρ, v = .ref a ∧ s₀.heap.get? a = none ∧ Step [a, L] ρ₀ s₀.heap ρ s.heap ∧ Rel hT ρ L σ s.heap ∧ Ok s₀ s ∧ ItR hT ρ L s.heap a it
theorem StartR.mk' {ρ : List Addr} {s : Shared} (S : Step [L] ρ₀ s₀.heap ρ s.heap) (R : Rel hT ρ L σ s.heap) (O : Ok s₀ s) {o : Obj} (hf : o.isFreed = false) (im : ¬ Imm o) {it : IT} {t : Nat} (X : Off hT ρ L (s.heap.push o) s.heap.objs.size → ItR hT ρ L (s.heap.push o) s.heap.objs.size it) :
    StartR hT ρ₀ L s₀ σ it (.ref s.heap.objs.size) { s with heap := s.heap.push o, toks := t } := by
  refine ⟨_, ρ, rfl, ?_, (S.wide fun b hb => .tail _ hb).trans Step.push, R.push, ⟨O.os, O.gens⟩, X (off_new R hf im)⟩
  cases e : s₀.heap.get? s.heap.objs.size with
  | none => rfl
  | some o' => exact absurd (lt_of_live (S.live _ (by rw [e]; rfl))) (Nat.lt_irrefl _)
theorem iterA_sound {ρ : List Addr} {s : Shared} (S : Step [L] ρ₀ s₀.heap ρ s.heap) (R : Rel hT ρ L σ s.heap) (O : Ok s₀ s) {y : AV} {u : Value} {it : IT} (V : VR ρ s.heap y u) (e : iterA y σ.hp = some it) :
    wpAny (model prog w) A (pyIter u) (StartR hT ρ₀ L s₀ σ it) No s := by
  cases y with
  | ref r =>
    revert e; refine bindE fun l hr e => ?_
    have hr := gL_ok hr
    revert e; refine someC fun h => ?_; subst h
    cases V with
    | ref _ b hb =>
      refine ex2_2 (R.inv.at_ r _ b hr hb) fun vs m g W => ?_
      refine wpAny_pyIter_list (isList_of g) ?_
      exact StartR.mk' S R O rfl (notImmB rfl rfl) fun q => ⟨q, b, hb, _, Heap.get?_push_size _ rfl, rfl, rfl⟩
  | rng b c d =>
    revert e; refine condE fun h1 e => ?_
    revert e; refine someC fun h => ?_; subst h
    cases V with
    | rng _ _ _ z t1 t2 t3 g =>
      refine wpAny_pyIter_range g h1 ?_
      exact StartR.mk' S R O rfl (notImmB rfl rfl) fun q => ⟨q, Heap.get?_push_size _ rfl⟩
  | str l =>
    revert e; refine condE fun h1 e => ?_
    revert e; refine someC fun h => ?_; subst h
    cases V with
    | str _ t =>
      refine wpAny_pyIter_ascii ?_ ?_
      · rw [List.all_eq_true] at h1
        rw [← Array.all_toList]
        rw [List.all_eq_true]
        intro ch hch
        exact decide_eq_true (Nat.le_of_ble_eq_true (h1 ch (by simpa using hch)))
      · exact StartR.mk' S R O rfl (notImmB rfl rfl) fun q => ⟨q, t, _, Heap.get?_push_size _ rfl, rfl, rfl⟩
  | _ => exact noneE e
set_option tactic.hygienic true in
theorem startA_sound (O : AllOk T TC hT) (I : IOk prog w hT n ih) (c : Cx A n) (R : Rel hT ρ₀ L σ s₀.heap) (Ev : EnvR ρ₀ L ae env) {iter : Expr} {it : IT} (e : startA T ih ae iter σ = some (it, σ')) :
    wpAny (model prog w) A (eval iter env) (fun y s₁ => wpAny (model prog w) A (pyIter y) (StartR hT ρ₀ L s₀ σ' it) No s₁) No s₀ := by
  have gen : startG ih ae iter σ = some (it, σ') → wpAny (model prog w) A (eval iter env) (fun y s₁ => wpAny (model prog w) A (pyIter y) (StartR hT ρ₀ L s₀ σ' it) No s₁) No s₀ := by
    refine bindE fun p hp e => ?_
    revert e
    refine bindE fun it' hi e => ?_
    revert e; refine pairC fun h1 h2 => ?_; subst h1; subst h2
    refine (I.ev c R Ev hp).nx fun ρ₁ s₁ a S R₁ O₁ p₁ => ?_
    exact iterA_sound S R₁ O₁ p₁ hi
  unfold startA at e
  cases hrv : revC iter with
  | none => rw [hrv] at e; exact gen e
  | some q =>
    rw [hrv] at e
    obtain ⟨f, x⟩ := q
    refine ex2_2 (revC_ok hrv) fun fp pos e1 hs => ?_
    revert e
    refine bindE fun g hg e => ?_
    cases hr : isRev g with
    | false => rw [hr] at e; exact gen e
    | true =>
      rw [hr] at e
      clear gen
      dsimp only at e1
      subst e1
      revert e
      refine bindE fun q hq e => ?_
      obtain ⟨y, σ₁⟩ := q
      unfold startRev at e
      dsimp only at e
      split at e
      · rename_i r
        split at e
        · rename_i l hl
          revert e; refine pairC fun h1 h2 => ?_; subst h1; subst h2
          have hg' : g = .bi .reversed := by
            cases g <;> first | exact ftE hr | skip
            rename_i b
            cases b <;> first | exact ftE hr | rfl
          subst hg'
          refine wpAny_Call_Name_kw (wpAny_Name ?_ (nameA_debug hg))
          refine (nameA_sound O.t R Ev hg).nx fun ρ₁ s₁ fv S R₁ O₁ p₁ => ?_
          revert p₁; refine vrBi ?_; intro h; subst h
          refine callWith_of (P := fun zz => True) (by rw [noStar hs]; rfl) (fun h P => ⟨.machine, .inr (.inl rfl), Looks.now⟩) ?_
          rw [List.any_cons, Bool.or_eq_false_iff] at hs
          rw [starEach_cons hs.1]
          refine evalArgs_plain ?_
          refine spliced_cons ?_
          refine (I.ev c R₁ (Ev.mono S.pre) hq).nx fun ρ₂ s₂ b S₂ R₂ O₂ p₂ => ?_
          refine spliced_nil ⟨trivial, ?_⟩
          cases p₂ with
          | ref _ b hb =>
            refine ex2_2 (R₂.inv.at_ r _ b hl hb) fun vs m g W => ?_
            show wpAny (model prog w) A (call (.type "reversed") [.ref b]) _ _ _
            refine call_reversed_list (isList_of g) ?_
            have hx : (s₂.heap.push (revObj b ((vs.toArray.size : Int) - 1))).IsRevIter s₂.heap.objs.size b ((vs.toArray.size : Int) - 1) := ⟨_, Heap.get?_push_size _ rfl, rfl, rfl⟩
            refine wpAny_pyIter_revIter hx ?_
            refine StartR.mk' (t := s₂.toks) (S.trans S₂) R₂ (O₁.trans O₂) rfl (notImmB rfl rfl) fun q => ⟨q, b, hb, ?_⟩
            have el : (vs.toArray.size : Int) - 1 = (l.length : Int) - 1 := by rw [List.size_toArray, W.length]
            rw [← el]
            exact hx
        · exact noneE e
      · exact noneE e
theorem swap2 {x y : Str} {px py p p' : Pos} {k k' : Nat} {v1 v2 : Expr} {a1 a2 : Str} {q1 q2 : Pos} {env : Env} (kx : env.kindOf x = some .local) (ky : env.kindOf y = some .local) (b : env.blockKind = .function) (hpy : py.line = px.line) (nx : ([x, y] : List Str).eraseDups = [x, y]) :
   swappedStores [.Tuple [.Name x px, .Name y py] k p] (.Tuple [.Attribute v1 a1 q1, .Attribute v2 a2 q2] k' p') env = pure (some [x, y]) := by
  have hf : ∀ (f : Expr → Option Str) (u v : Expr), f u = some x → f v = some y → [u, v].filterMap f = [x, y] := fun f u v h1 h2 => by rw [List.filterMap_cons_some h1, List.filterMap_cons_some h2]; rfl
  have key : ∀ (ns : List Str) (z : Sem PUnit), ns = [x, y] → (if (ns.length != 2 || ns.eraseDups.length != ns.length) = true then pure none else if false = true then pure none else if false = true then z >>= fun zz => pure (some ns) else pure (some ns) : Sem (Option (List Str))) = pure (some [x, y]) := fun ns z e => by
    subst e; rw [nx]; rfl
  delta swappedStores
  refine (if_neg (c := (!true || false || env.blockKind != .function) = true) (by rw [b]; exact Bool.false_ne_true)).trans ?_
  refine (if_neg (fun q => Bool.false_ne_true q)).trans ?_
  exact key _ _ (hf _ _ _ (if_pos (by rw [kx]; exact beq_self_eq_true px.line)) (if_pos (by rw [ky, hpy]; exact beq_self_eq_true px.line)))
theorem swapA_ok (Ev : EnvR ρ L ae env) {ts vs : List Expr} {xs : List Str} {k k' : Nat} {p p' : Pos} (e : swapA ae.sc ts vs = some xs) : swappedStores [.Tuple ts k p] (.Tuple vs k' p') env = pure (some xs) ∧ ∀ l, swapsWithSole [.Tuple ts k p] (.Tuple vs k' p') l env = pure false := by
  refine ⟨?_, fun zz => rfl⟩
  revert e
  refine bindE fun q hq e => ?_
  revert e
  refine bindE fun q' hq' e => ?_
  refine ex2_3 (twoP_ok hq) fun ta tb Z1 ha hb => ?_; subst Z1
  refine ex2_3 (twoP_ok hq') fun va vb Z1 ha' hb' => ?_; subst Z1
  revert e; refine condE fun h e => ?_
  cases nameP_ok ha
  cases nameP_ok hb
  cases attP_ok ha'
  cases attP_ok hb'
  obtain ⟨⟨x, px⟩, y, py⟩ := q
  · revert e; refine someC fun h => ?_; subst h
    simp only [Bool.and_eq_true] at h
    obtain ⟨⟨⟨h1, h2⟩, h4⟩, h5⟩ := h
    have kx : env.kindOf x = some .local := by
      show env.scope.names.lookup x = _
      rw [Ev.sc]
      cases q : ae.sc.names.lookup x with
      | none => rw [q] at h1; exact ftE h1
      | some k => rw [q] at h1; cases k <;> first | rfl | exact ftE h1
    have ky : env.kindOf y = some .local := by
      show env.scope.names.lookup y = _
      rw [Ev.sc]
      cases q : ae.sc.names.lookup y with
      | none => rw [q] at h2; exact ftE h2
      | some k => rw [q] at h2; cases k <;> first | rfl | exact ftE h2
    have b := Ev.block
    have hyx : (y == x) = false := by
      have h5' : (x == y) = false := by simpa using h5
      cases q : (y == x) with
      | false => rfl
      | true => rw [eq_of_beq q] at h5'; simp at h5'
    have nx : ([x, y] : List Str).eraseDups = [x, y] := by
      simp [List.eraseDups_cons, hyx]
    have hpy : py.line = px.line := eq_of_beq h4
    exact swap2 kx ky b hpy nx
end
end Mine
namespace Mine
section
variable {prog : Program} {w : World} {hT : Heap} {A : Around} {L : Addr} {ρ ρ₀ : List Addr} {s s₀ : Shared} {σ σ' : St} {env : Env} {ae : AE} {v : AV} {n : Nat} {ih : IH} {T : Tab} {TC : TabC} {a : Addr} {x : Str} {f : Fl} {xst : AE → Stmt → St → Option (Fl × St)}
theorem storesV_sound : ∀ {xs : List Str} {vs : List AV} {us : List Value} {ρ : List Addr} {s : Shared} {σ σ' : St}, Rel hT ρ L σ s.heap → EnvR ρ L ae env → VRs ρ s.heap vs us → storesA ae xs vs σ = some σ' →
    Tri prog w hT A L ρ s (assignInOrder (xs.map fun n => bindName env n) us) σ' (fun zz zz zz => True)
  | [], [], us, ρ, s, σ, σ', R, Ev, V, e => by
    revert e; refine someC fun h => ?_; subst h; revert V; refine vrsNil ?_; intro h; subst h; exact wpAny_pure (Post.same' R trivial)
  | [], _ :: _, us, ρ, s, σ, σ', R, Ev, V, e => by exact noneE e
  | _ :: _, [], us, ρ, s, σ, σ', R, Ev, V, e => by exact noneE e
  | x :: xs, y :: vs, _, ρ, s, σ, σ', R, Ev, .cons _ u _ us V W, e => by
    revert e; refine bindE fun σ₁ h1 e => ?_
    show wpAny _ _ (assignInOrder (bindName env x :: xs.map fun n => bindName env n) (u :: us)) _ _ _
    unfold assignInOrder
    refine wpAny_bind (wpAny_holding (bindName_ ?_))
    refine (storeA_sound R Ev V h1).nx fun ρ₁ s₁ a S R₁ O₁ p₁ => ?_
    exact Tri.lift S O₁ (storesV_sound R₁ (Ev.mono S.pre) (S.vrs R W) e)
theorem asg_star {t : Expr} {τ τ' : St} {y : AV} (e : asgB TC ih ae t y τ = some τ') : isStar t = false := by cases t <;> first | rfl | exact noneE e
theorem each_cons {t : Expr} {r : List Expr} (h : isStar t = false) : assignEach (t :: r) env = (false, assign t env) :: assignEach r env := by cases t <;> first | rfl | exact tfE h
set_option tactic.hygienic true in
theorem exB_sound (O : AllOk T TC hT) (I : IOk prog w hT (n + 3) ih) (c : Cx A (n + 3)) (X : XsOk prog w hT n xst) (R : Rel hT ρ L σ s.heap) (Ev : EnvR ρ L ae env) {st : Stmt} (h : exB T TC ih xst ae st σ = some (f, σ')) :
    Tri prog w hT A L ρ s (exec st env) σ' (fun ρ' h' g => FlR ρ' h' f g) := by
  have V := viewS_r st
  change exV T TC ih xst ae st σ (viewS st) = _ at h
  generalize viewS st = x at V h
  cases V with
  | pass p =>
    revert h; refine pairC fun h1 h2 => ?_; subst h1; subst h2; exact wpAny_Pass (Post.same' R trivial)
  | brk p =>
    revert h; refine pairC fun h1 h2 => ?_; subst h1; subst h2; rw [arm_exec_Break]; exact wpAny_bind (wpAny_standAt (wpAny_pure (Post.same' R trivial)))
  | cont p =>
    revert h; refine pairC fun h1 h2 => ?_; subst h1; subst h2; rw [arm_exec_Continue]; exact wpAny_bind (wpAny_standAt (wpAny_pure (Post.same' R trivial)))
  | expr e p hc =>
    revert h
    refine bindE fun p hp h => ?_
    refine wpAny_Expr ?_ Ev.notI (swapsWith_plain hc)
    refine (I.ev c R Ev hp).nx fun ρ₁ s₁ u S R₁ O₁ p₁ => ?_
    obtain ⟨y, σ₁⟩ := p
    cases y <;> first | first | (exact noneE h) | (revert h; refine pairC fun h1 h2 => ?_; subst h1; subst h2) | skip
    revert p₁; refine vrNone ?_; intro h; subst h
    exact (Post.mk S R₁ O₁ trivial)
  | ret e p =>
    revert h
    refine bindE fun p hp h => ?_
    revert h; refine pairC fun h1 h2 => ?_; subst h1; subst h2
    refine wpAny_Return_some ?_
    refine (I.ev c R Ev hp).nx fun ρ₁ s₁ u S R₁ O₁ p₁ => ?_
    exact (Post.mk S R₁ O₁ p₁)
  | retn p =>
    revert h; refine pairC fun h1 h2 => ?_; subst h1; subst h2
    exact wpAny_Return_none (Post.same' R .none)
  | ifs t b o p =>
    revert h
    refine bindE fun q hq h => ?_
    refine wpAny_If ?_
    refine (I.tr c R Ev hq).nx fun ρ₁ s₁ b S R₁ O₁ p₁ => ?_
    subst p₁
    obtain ⟨b, σ₁⟩ := q
    cases b with
    | true => rw [if_pos rfl]; exact Tri.lift S O₁ (I.xs c R₁ (Ev.mono S.pre) h)
    | false => rw [if_neg Bool.false_ne_true]; exact Tri.lift S O₁ (I.xs c R₁ (Ev.mono S.pre) h)
  | whl t b o p =>
    refine wpAny_While ?_
    exact whA_sound I c h R Ev
  | fors x q iter b o p hs =>
    revert h
    refine bindE fun q hq h => ?_
    refine wpAny_For ?_ (folded_plain hs)
    refine wpAny_mono (startA_sound O I c R Ev hq) (fun y s₁ hy => wpAny_mono hy (fun z s₂ hz => ?_) fun zz zz z => z) fun zz zz z => z
    obtain ⟨a, ρ₁, rfl, h0, S, R₁, O₁, It⟩ := hz
    exact forA_sound I c h0 h S R₁ O₁ (Ev.mono S.pre) It
  | swap ts k p vs k' p' q =>
    revert h
    refine bindE fun xs hx h => ?_
    revert h; refine bindE fun q hq h => ?_
    obtain ⟨y, σ₁⟩ := q
    dsimp only at h
    split at h
    · rename_i l
      revert h; refine condE fun hl h => ?_
      revert h; refine bindE fun σ₂ hst h => ?_
      revert h; refine pairC fun h1 h2 => ?_; subst h1; subst h2
      obtain ⟨k1, k2⟩ := swapA_ok Ev hx
      refine Assign_Tuple_swapped ?_ (k2 _) k1
      refine (I.ev c R Ev hq).nx fun ρ₁ s₁ u S R₁ O₁ p₁ => ?_
      refine ex1_3 R₁.opened fun g F N G => ?_
      cases p₁ with
      | tup _ vs a m gg W =>
        have IT : IsTup s₁.heap a vs.toArray := ⟨_, gg, rfl, _, rfl⟩
        refine unpackItemsN_ F N IT c.hd (by rw [← Nat.eq_of_beq_eq_true hl, List.size_toArray, W.length]) fun h' F' N' => ?_
        refine ex0_2 (R₁.back F' G N' (fun p hp => hp)) fun S' R' => ?_
        have z := storesV_sound (prog := prog) (w := w) (A := A) (s := { s₁ with heap := h' }) R' ((Ev.mono S.pre).mono S'.pre) (S'.vrs R₁ W).rev hst
        refine z.nx fun ρ₂ s₂ u S₂ R₂ O₂ p₂ => ?_
        exact (Post.mk ((S.trans S').trans S₂) R₂ ⟨O₂.os.trans O₁.os, fun q => O₂.gens (O₁.gens q)⟩ trivial)
    · exact noneE h
  | asg t v p hc ht =>
    revert h
    refine bindE fun p hp h => ?_
    revert h; refine bindE fun σ₁ ha h => ?_
    revert h; refine pairC fun h1 h2 => ?_; subst h1; subst h2
    refine wpAny_Assign_stores ?_ (swapsWith_plain hc) (swapped_plain ht)
    refine (I.ev c R Ev hp).nx fun ρ₁ s₁ u S R₁ O₁ p₁ => ?_
    have e1 : (assignEach [t] env).map (·.2) = [assign t env] ∨ isStar t = true := by cases t <;> first | exact .inl rfl | exact .inr rfl
    rcases e1 with e1 | e1
    · rw [e1]
      show wpAny _ _ (assign t env u) _ _ _
      refine (asgB_sound O I c R₁ (Ev.mono S.pre) p₁ ha).nx fun ρ₂ s₂ u S₂ R₂ O₂ p₂ => ?_
      exact (Post.mk (S.trans S₂) R₂ (O₁.trans O₂) trivial)
    · cases (asg_star ha).symm.trans e1
  | asg3 t₁ t₂ t₃ v p =>
    revert h
    refine bindE fun p hp h => ?_
    revert h; refine bindE fun σ₁ h1 h => ?_
    revert h; refine bindE fun σ₂ h2 h => ?_
    revert h; refine bindE fun σ₃ h3 h => ?_
    revert h; refine pairC fun h1 h2 => ?_; subst h1; subst h2
    have e1 : (assignEach [t₁, t₂, t₃] env).map (·.2) = [assign t₁ env, assign t₂ env, assign t₃ env] := by
      rw [each_cons (asg_star h1), each_cons (asg_star h2), each_cons (asg_star h3)]; rfl
    refine wpAny_Assign_three ?_ e1 (by cases t₁ <;> rfl)
    refine (I.ev c R Ev hp).nx fun ρ₁ s₁ u S R₁ O₁ p₁ => ?_
    refine (asgB_sound O I c R₁ (Ev.mono S.pre) p₁ h1).nx fun ρ₂ s₂ zz S₂ R₂ O₂ zz => ?_
    refine (asgB_sound O I c R₂ ((Ev.mono S.pre).mono S₂.pre) (S₂.vr R₁ p₁) h2).nx fun ρ₃ s₃ zz S₃ R₃ O₃ zz => ?_
    refine (asgB_sound O I c R₃ (((Ev.mono S.pre).mono S₂.pre).mono S₃.pre) (S₃.vr R₂ (S₂.vr R₁ p₁)) h3).nx fun ρ₄ s₄ zz S₄ R₄ O₄ zz => ?_
    exact (Post.mk (((S.trans S₂).trans S₃).trans S₄) R₄ (((O₁.trans O₂).trans O₃).trans O₄) trivial)
  | augn x q op v p =>
    revert h
    refine bindE fun y hy h => ?_
    revert h; refine bindE fun p hp h => ?_
    revert h; refine bindE fun r hr h => ?_
    revert h; refine bindE fun σ₁ h1 h => ?_
    revert h; refine pairC fun h1 h2 => ?_; subst h1; subst h2
    refine wpAny_AugAssign_Name ?_
    refine (nameA_sound O.t R Ev hy).nx fun ρ₁ s₁ u S R₁ O₁ p₁ => ?_
    refine (I.ev c R₁ (Ev.mono S.pre) hp).nx fun ρ₂ s₂ u₂ S₂ R₂ O₂ p₂ => ?_
    refine (inpA_sound R₂ hr (S₂.vr R₁ p₁) p₂).nx fun ρ₃ s₃ u₃ S₃ R₃ O₃ p₃ => ?_
    refine (storeA_sound R₃ (((Ev.mono S.pre).mono S₂.pre).mono S₃.pre) p₃ h1).nx fun ρ₄ s₄ zz S₄ R₄ O₄ zz => ?_
    exact (Post.mk (((S.trans S₂).trans S₃).trans S₄) R₄ (((O₁.trans O₂).trans O₃).trans O₄) trivial)
  | augs o i q op v p hi =>
    revert h
    refine bindE fun p hp h => ?_
    revert h; refine bindE fun q hq h => ?_
    revert h; refine bindE fun y hy h => ?_
    revert h; refine bindE fun z hz h => ?_
    revert h; refine bindE fun r hr h => ?_
    revert h; refine bindE fun hp' hs h => ?_
    revert h; refine pairC fun h1 h2 => ?_; subst h1; subst h2
    refine wpAny_AugAssign_SubscriptAny ?_ (augStore_plain hi)
    refine (I.ev c R Ev hp).nx fun ρ₁ s₁ u₁ S R₁ O₁ p₁ => ?_
    refine (I.ev c R₁ (Ev.mono S.pre) hq).nx fun ρ₂ s₂ u₂ S₂ R₂ O₂ p₂ => ?_
    refine ex2_3 (getItem_A (prog := prog) (w := w) (A := A) R₂ hy (S₂.vr R₁ p₁) p₂) fun zz zz zz zz gi => ?_
    refine gi.nx fun ρ₃ s₃ u₃ S₃ R₃ O₃ p₃ => ?_
    refine (I.ev c R₃ (((Ev.mono S.pre).mono S₂.pre).mono S₃.pre) hz).nx fun ρ₄ s₄ u₄ S₄ R₄ O₄ p₄ => ?_
    refine (inpA_sound R₄ hr (S₄.vr R₃ p₃) p₄).nx fun ρ₅ s₅ u₅ S₅ R₅ O₅ p₅ => ?_
    refine (setItemA_sound R₅ hs (S₅.vr R₄ (S₄.vr R₃ (S₃.vr R₂ (S₂.vr R₁ p₁)))) (S₅.vr R₄ (S₄.vr R₃ (S₃.vr R₂ p₂))) p₅).nx fun ρ₆ s₆ zz S₆ R₆ O₆ zz => ?_
    exact (Post.mk (((((S.trans S₂).trans S₃).trans S₄).trans S₅).trans S₆) R₆ (((((O₁.trans O₂).trans O₃).trans O₄).trans O₅).trans O₆) trivial)
  | other =>
    exact X c R Ev h
  | stop => exact noneE h
theorem xsB_sound (O : AllOk T TC hT) (I : IOk prog w hT (n + 3) ih) (c : Cx A (n + 3)) (X : XsOk prog w hT n xst) : ∀ {l : List Stmt} {ρ : List Addr} {s : Shared} {σ σ' : St} {f : Fl}, Rel hT ρ L σ s.heap → EnvR ρ L ae env → xsB (exB T TC ih xst ae) l σ = some (f, σ') →
    Tri prog w hT A L ρ s (execs l env) σ' (fun ρ' h' g => FlR ρ' h' f g)
  | [], ρ, s, σ, σ', f, R, Ev, e => by revert e; refine pairC fun h1 h2 => ?_; subst h1; subst h2; exact wpAny_execs_nil (Post.same' R trivial)
  | st :: r, ρ, s, σ, σ', f, R, Ev, e => by
    unfold xsB at e
    revert e; refine bindE fun p hp e => ?_
    refine wpAny_execs_cons ?_
    refine (exB_sound O I c X R Ev hp).nx fun ρ₁ s₁ g S R₁ O₁ G => ?_
    obtain ⟨fl, σ₁⟩ := p
    cases fl <;> cases g <;> first | exact G.elim | skip
    · exact Tri.lift S O₁ (xsB_sound O I c X R₁ (Ev.mono S.pre) e)
    · revert e; refine pairC fun h1 h2 => ?_; subst h1; subst h2; exact (Post.mk S R₁ O₁ trivial)
    · revert e; refine pairC fun h1 h2 => ?_; subst h1; subst h2; exact (Post.mk S R₁ O₁ trivial)
    · revert e; refine pairC fun h1 h2 => ?_; subst h1; subst h2; exact (Post.mk S R₁ O₁ G)
end
end Mine
namespace Mine
noncomputable def intsOf : List AV → Option (List Int)
  | [] => some []
  | x :: r => (theI x).bind fun i => (intsOf r).bind fun l => some (i :: l)
noncomputable def strsOf : List AV → Option (List (List Nat))
  | [] => some []
  | x :: r => (theS x).bind fun i => (strsOf r).bind fun l => some (i :: l)
set_option tactic.hygienic true in
theorem intsOf_are {ρ : List Addr} {h : Heap} {l : List AV} {vs : List Value} {ns : List Int} (e : intsOf l = some ns) (V : VRs ρ h l vs) : IntsAre vs ns := by
  induction l generalizing vs ns with
  | nil => revert e; refine someC fun h => ?_; subst h; revert V; refine vrsNil ?_; intro h; subst h; exact .nil
  | cons x r ih =>
    revert e
    refine bindE fun i hi e => ?_
    revert e
    refine bindE fun l hl e => ?_
    revert e; refine someC fun h => ?_; subst h
    revert V; refine vrsCons ?_; intro _ _ _ _ h; subst h
    rename_i V W
    rw [theI_ok hi] at V
    revert V; refine vrInt ?_; intro _ h; subst h
    exact .cons _ _ (ih hl W)
set_option tactic.hygienic true in
theorem strsOf_are {ρ : List Addr} {h : Heap} {l : List AV} {vs : List Value} {ns : List (List Nat)} (e : strsOf l = some ns) (V : VRs ρ h l vs) : StrsAre vs (ns.map fun x => ⟨x.toArray⟩) := by
  induction l generalizing vs ns with
  | nil => revert e; refine someC fun h => ?_; subst h; revert V; refine vrsNil ?_; intro h; subst h; exact .nil
  | cons x r ih =>
    revert e
    refine bindE fun i hi e => ?_
    revert e
    refine bindE fun l hl e => ?_
    revert e; refine someC fun h => ?_; subst h
    revert V; refine vrsCons ?_; intro _ _ _ _ h; subst h
    rename_i V W
    rw [theS_ok hi] at V
    revert V; refine vrStr ?_; intro _ h; subst h
    exact .cons _ _ (ih hl W)
theorem ints_back {ρ : List Addr} {h : Heap} : ∀ {vs : List Value} {ns : List Int}, IntsAre vs ns → VRs ρ h (ns.map AV.int) vs
  | _, _, .nil => .nil
  | _, _, .cons n t r => .cons _ _ _ _ (.int n t) (ints_back r)
noncomputable def maxI : List Int → Option Int
  | [] => none
  | a :: r => match maxI r with
    | none => some a
    | some m => some (bif W.Z.ltB a m then m else a)
theorem maxI_spec : ∀ {l : List Int} {m : Int}, maxI l = some m → m ∈ l ∧ ∀ a ∈ l, a ≤ m
  | [], m, e => by exact noneE e
  | a :: r, m, e => by
    unfold maxI at e
    cases h : maxI r with
    | none =>
      rw [h] at e; revert e; refine someC fun h => ?_; subst h
      have : r = [] := by cases r with | nil => rfl | cons b t => unfold maxI at h; cases q : maxI t <;> rw [q] at h <;> exact noneF h
      subst this
      exact ⟨.head _, fun a h => by rcases List.mem_cons.mp h with rfl | h; exact Int.le_refl _; cases h⟩
    | some k =>
      rw [h] at e
      dsimp only at e
      refine ex0_2 (maxI_spec h) fun h1 h2 => ?_
      cases q : W.Z.ltB a k with
      | true =>
        rw [q, cond_true] at e; revert e; refine someC fun h => ?_; subst h
        have := (W.Z.ltB_iff _ _).mp q
        exact ⟨.tail _ h1, fun b hb => by rcases List.mem_cons.mp hb with rfl | hb; omega; exact h2 b hb⟩
      | false =>
        rw [q, cond_false] at e; revert e; refine someC fun h => ?_; subst h
        have : ¬ a < k := fun z => by rw [(W.Z.ltB_iff _ _).mpr z] at q; exact tfE q
        exact ⟨.head _, fun b hb => by rcases List.mem_cons.mp hb with rfl | hb; exact Int.le_refl _; have := h2 b hb; omega⟩
theorem max_unique {l : List Int} {m M : Int} (h : maxI l = some m) (h1 : M ∈ l) (h2 : ∀ a ∈ l, a ≤ M) : M = m := by
  refine ex0_2 (maxI_spec h) fun a b => ?_
  have := h2 _ a
  have := b _ h1
  omega
noncomputable def insI (a : Int) : List Int → List Int
  | [] => [a]
  | b :: r => bif W.Z.leB a b then a :: b :: r else b :: insI a r
noncomputable def sortI : List Int → List Int
  | [] => []
  | a :: r => insI a (sortI r)
theorem insI_perm (a : Int) : ∀ l : List Int, (insI a l).Perm (a :: l)
  | [] => .refl _
  | b :: r => by
    unfold insI
    cases W.Z.leB a b with
    | true => exact .refl _
    | false => exact (List.Perm.cons b (insI_perm a r)).trans (.swap a b r)
theorem sortI_perm : ∀ l : List Int, (sortI l).Perm l
  | [] => .refl _
  | a :: r => (insI_perm a _).trans (.cons a (sortI_perm r))
theorem insI_sorted (a : Int) : ∀ l : List Int, l.Pairwise (· ≤ ·) → (insI a l).Pairwise (· ≤ ·)
  | [], _ => by unfold insI; simp
  | b :: r, h => by
    unfold insI
    rw [List.pairwise_cons] at h
    cases q : W.Z.leB a b with
    | true =>
      have := (W.Z.leB_iff _ _).mp q
      rw [cond_true, List.pairwise_cons, List.pairwise_cons]
      exact ⟨fun c hc => by rcases List.mem_cons.mp hc with rfl | hc; exact this; exact Int.le_trans this (h.1 c hc), h⟩
    | false =>
      have : ¬ a ≤ b := fun z => by rw [(W.Z.leB_iff _ _).mpr z] at q; exact tfE q
      rw [cond_false, List.pairwise_cons]
      refine ⟨fun c hc => ?_, insI_sorted a r h.2⟩
      rcases List.mem_cons.mp ((insI_perm a r).mem_iff.mp hc) with rfl | hc
      · omega
      · exact h.1 c hc
theorem sortI_sorted : ∀ l : List Int, (sortI l).Pairwise (· ≤ ·)
  | [] => .nil
  | a :: r => insI_sorted a _ (sortI_sorted r)
theorem sorted_unique : ∀ {l m : List Int}, l.Perm m → l.Pairwise (· ≤ ·) → m.Pairwise (· ≤ ·) → l = m
  | [], m, p, _, _ => by rw [List.nil_perm.mp p]
  | a :: l, [], p, _, _ => by have := p.length_eq; simp at this
  | a :: l, b :: m, p, h, k => by
    rw [List.pairwise_cons] at h k
    have h1 : a ≤ b := by
      rcases List.mem_cons.mp (p.mem_iff.mpr (.head _ : b ∈ b :: m)) with rfl | q
      · exact Int.le_refl _
      · exact h.1 b q
    have h2 : b ≤ a := by
      rcases List.mem_cons.mp (p.mem_iff.mp (.head _ : a ∈ a :: l)) with rfl | q
      · exact Int.le_refl _
      · exact k.1 a q
    have : a = b := by omega
    subst this
    rw [sorted_unique (List.Perm.cons_inv p) h.2 k.2]
section
variable {prog : Program} {w : World} {hT : Heap} {A : Around} {L : Addr} {ρ ρ₀ : List Addr} {s s₀ : Shared} {σ σ' : St} {env : Env} {ae : AE} {v : AV} {n : Nat} {ih : IH} {T : Tab} {TC : TabC}
theorem Tri.backed (R : Rel hT ρ L σ s.heap) {f : Str → Option Value} {ns : List (Addr × Obj)} {h' : Heap} {t : Nat} {u : Value} (F : Fr hT L h' f) (G : LW ρ s.heap σ.loc f) (N : News hT L h' ns) (hs : ∀ p ∈ allN hT L s.heap, p ∈ ns) (V : ∀ ρ' h', VR ρ' h' v u) : Post hT L ρ s σ (fun ρ' h' u => VR ρ' h' v u) u { s with heap := h', toks := t } := by
  refine ex0_2 (R.back F G N hs) fun S R' => ?_
  exact ⟨ρ, S, R', ⟨rfl, id⟩, V _ _⟩
theorem max_A (hd : A.handled = none) (R : Rel hT ρ L σ s.heap) {r : Nat} {l : List AV} {ns : List Int} {m : Int} {a : Value} (hr : σ.hp[r]? = some (.list l)) (hi : intsOf l = some ns) (hm : maxI ns = some m) (X : VR ρ s.heap (.ref r) a) :
    Tri prog w hT A L ρ s (call (.builtin "max") [a]) σ (fun ρ' h' u => VR ρ' h' (.int m) u) := by
  refine ex3_3 (list_reads R.inv hr X) fun x vs k Z1 g V => ?_; subst Z1
  refine ex1_3 R.opened fun f F N G => ?_
  have hmem := (maxI_spec hm).1
  refine max_list_N hd F N (isList_of g) (intsOf_are hi V) (List.length_pos_of_mem hmem) fun h' M t tk F' N' h1 h2 => ?_
  have := max_unique hm h1 h2
  subst this
  exact Tri.backed R F' G N' (fun p hp => hp) fun zz zz => .int _ _
theorem sorted_A (R : Rel hT ρ L σ s.heap) {r : Nat} {l : List AV} {ns : List Int} {a : Value} (hr : σ.hp[r]? = some (.list l)) (hi : intsOf l = some ns) (hl : Nat.blt l.length 64 = true) (X : VR ρ s.heap (.ref r) a) :
    Tri prog w hT A L ρ s (call (.builtin "sorted") [a]) ⟨σ.hp ++ [.list ((sortI ns).map AV.int)], σ.loc⟩ (fun ρ' h' u => VR ρ' h' (.ref σ.hp.length) u) := by
  refine ex3_3 (list_reads R.inv hr X) fun x vs k Z1 g V => ?_; subst Z1
  refine ex1_3 R.opened fun f F N G => ?_
  have hl' := Nat.le_of_ble_eq_true hl
  refine sorted_N F N (isList_of g) (intsOf_are hi V) (by rw [← V.length]; exact hl') fun h' vs' ns' e F' N' h1 h2 h3 => ?_
  have := sorted_unique (h2.trans (sortI_perm ns).symm) h3 (sortI_sorted ns)
  subst this
  exact newList_end (n := e) R (ints_back h1) G F' N' (fun p hp => .tail _ hp) (fun p hp => Nat.lt_succ_of_lt (Heap.lt_size (mem_allN.mp hp).1)) (.head _)
end
end Mine
namespace Mine
theorem ints_items : ∀ {vs : List Value} {ns : List Int}, IntsAre vs ns → ∃ xs : List (Int × Tok), vs = xs.map (fun p => .int p.1 p.2) ∧ xs.map (·.1) = ns
  | _, _, .nil => ⟨[], rfl, rfl⟩
  | _, _, .cons n t r => by
    refine ex1_2 (ints_items r) fun xs Z1 Z2 => ?_; subst Z1; subst Z2
    exact ⟨(n, t) :: xs, rfl, rfl⟩
noncomputable def sumI : List Int → Int
  | [] => 0
  | a :: r => a + sumI r
theorem sumI_eq : ∀ l : List Int, sumI l = l.sum
  | [] => rfl
  | a :: r => by rw [List.sum_cons]; unfold sumI; rw [sumI_eq r]
noncomputable def joinL (sep : List Nat) : List (List Nat) → List Nat
  | [] => []
  | [x] => x
  | x :: r => x ++ sep ++ joinL sep r
theorem joinL_eq (sep : List Nat) : ∀ parts : List (List Nat), Str.join ⟨sep.toArray⟩ (parts.map fun x => ⟨x.toArray⟩) = ⟨(joinL sep parts).toArray⟩
  | [] => rfl
  | [x] => rfl
  | x :: y :: r => by
    show (⟨x.toArray⟩ : Str) ++ ⟨sep.toArray⟩ ++ Str.join ⟨sep.toArray⟩ ((y :: r).map fun x => ⟨x.toArray⟩) = _
    rw [joinL_eq sep (y :: r), str_app, str_app]; rfl
noncomputable def lensOk : List (List Nat) → Nat → Bool
  | [], k => Nat.ble k 500000
  | x :: r, k => lensOk r (x.length + k + 1)
theorem lensOk_sum : ∀ {l : List (List Nat)} {k : Nat}, lensOk l k = true → ((l.map fun x => (⟨x.toArray⟩ : Str)).map (·.length)).sum + l.length + k ≤ 500000
  | [], k, h => by have := Nat.le_of_ble_eq_true h; simpa using this
  | x :: r, k, h => by
    have := lensOk_sum (l := r) h
    simp only [List.map_cons, List.sum_cons, List.length_cons, str_len]
    simp only [List.map_map] at this ⊢
    omega
noncomputable def splitL (x sep : List Nat) : List (List Nat) := (Txt.split ⟨x.toArray⟩ ⟨sep.toArray⟩).map (·.cps.toList)
section
variable {prog : Program} {w : World} {hT : Heap} {A : Around} {L : Addr} {ρ ρ₀ : List Addr} {s s₀ : Shared} {σ σ' : St} {env : Env} {ae : AE} {v : AV} {n : Nat} {ih : IH} {T : Tab} {TC : TabC}
theorem sum_A (hd : A.handled = none) (R : Rel hT ρ L σ s.heap) {r : Nat} {l : List AV} {ns : List Int} {a : Value} (hr : σ.hp[r]? = some (.list l)) (hi : intsOf l = some ns) (X : VR ρ s.heap (.ref r) a) :
    Tri prog w hT A L ρ s (call (.builtin "sum") [a]) σ (fun ρ' h' u => VR ρ' h' (.int (sumI ns)) u) := by
  refine ex3_3 (list_reads R.inv hr X) fun x vs k Z1 g V => ?_; subst Z1
  refine ex1_2 (ints_items (intsOf_are hi V)) fun xs Z1 Z2 => ?_; subst Z1; subst Z2
  have e : (xs.map fun p => Value.int p.1 p.2).toArray = intItems xs.toArray := by unfold intItems; simp
  have hl := isList_of g
  rw [e] at hl
  refine sum_intListG hd hl fun h' tk t' k => ?_
  rw [preSum_eq]
  have e2 : ((xs.toArray.toList.map (·.1)).take xs.toArray.size).sum = sumI (xs.map (·.1)) := by
    rw [sumI_eq]; simp only [List.size_toArray]; rw [List.take_of_length_le (by simp)]
  rw [e2]
  have kk : ∀ b o, s.heap.get? b = some o → b ≠ L → h'.get? b = some o := fun b o e zz => k b o e
  refine ex1_2 R.ns fun f F G => ?_
  exact (Post.mk (Step.grow kk (Ns.live (F.keeps k))) (R.grow kk ⟨f, F.keeps k, G⟩) ⟨rfl, id⟩ (.int _ _))
theorem tuple_A (R : Rel hT ρ L σ s.heap) {r : Nat} {l : List AV} {a : Value} (hr : σ.hp[r]? = some (.list l)) (hl : Nat.ble l.length 16384 = true) (X : VR ρ s.heap (.ref r) a) :
    Tri prog w hT A L ρ s (call (.type "tuple") [a]) σ (fun ρ' h' u => VR ρ' h' (.tup l) u) := by
  refine ex3_3 (list_reads R.inv hr X) fun x vs k Z1 g V => ?_; subst Z1
  refine ex1_3 R.opened fun f F N G => ?_
  refine kde_tupleOf F N (isList_of g) (by rw [List.size_toArray, ← V.length]; exact Nat.le_of_ble_eq_true hl) rfl fun D h' F' N' lt => ?_
  refine ex0_2 (R.back F' G N' (fun p hp => .tail _ hp)) fun S R' => ?_
  have x := N' _ (.head _)
  exact (Post.mk S R' ⟨rfl, id⟩ (.tup _ _ _ 0 x.1 (S.vrs R V)))
theorem divmod_A (R : Rel hT ρ L σ s.heap) {x y : Int} {t u : Tok} (hx : intOk y = true) (h0 : W.Z.eqB y 0 = false) :
    Tri prog w hT A L ρ s (call (.builtin "divmod") [.int x t, .int y u]) σ (fun ρ' h' u => VR ρ' h' (.tup [.int (x.fdiv y), .int (x.fmod y)]) u) := by
  have hy : y ≠ 0 := fun q => by rw [(W.Z.eqB_iff _ _).mpr q] at h0; exact tfE h0
  refine ex1_3 R.opened fun f F N G => ?_
  refine divmod_N F N hy (fun h' F' N' => ?_) (.inl (PyProof.noPylong_of_log2 ?_))
  · refine ex0_2 (R.back F' G N' (fun p hp => .tail _ hp)) fun S R' => ?_
    have x := N' _ (.head _)
    exact (Post.mk S R' ⟨rfl, id⟩ (.tup _ [_, _] _ 0 x.1 (.cons _ _ _ _ (.int _ _) (.cons _ _ _ _ (.int _ _) .nil))))
  · have h1 := Nat.le_of_ble_eq_true hx
    have h2 : y.natAbs ≠ 0 := by omega
    have : y.natAbs.log2 < 4000 := (Nat.log2_lt h2).mpr h1
    omega
theorem range_end (R : Rel hT ρ L σ s.heap) {a b c : Int} {t u k : Tok} {tk : Nat} : Post hT L ρ s σ (fun ρ' h' u => VR ρ' h' (.rng a b c) u) (.ref s.heap.objs.size) { s with heap := s.heap.push { cls := .type "range", data := .fields #[.int a t, .int b u, .int c k] }, toks := tk } :=
  (Post.mk Step.push R.push ⟨rfl, id⟩ (.rng _ _ _ _ t u k (Heap.get?_push_size _ rfl)))
theorem append_A (R : Rel hT ρ L σ s.heap) {r : Nat} {l : List AV} {x : AV} {a u : Value} (hr : σ.hp[r]? = some (.list l)) (hl : lenOk l.length = true) (X : VR ρ s.heap (.ref r) a) (V : VR ρ s.heap x u) :
    Tri prog w hT A L ρ s (call (.builtin "list.append") [a, u]) ⟨σ.hp.set r (.list (l ++ [x])), σ.loc⟩ (fun ρ' h' u => VR ρ' h' .none u) := by
  have hl' := Nat.le_of_ble_eq_true hl
  cases X with
  | ref _ b hb =>
    refine ex2_2 (R.inv.at_ r _ b hr hb) fun vs m g W => ?_
    refine append_at g (fun h' hs ho => ?_) (by rw [List.size_toArray, ← W.length, sizeLine_eq]; omega)
    have tk : ∀ b' o, s.heap.get? b' = some o → Imm o → h'.get? b' = some o := fun b' o e im => (hs.2 b' fun q => R.inv.immOff e im (q ▸ List.mem_of_getElem? hb)).trans e
    refine (Post.mk (Step.put (List.mem_of_getElem? hb) hs (by rw [ho]; rfl)) (R.put hb hs ⟨vs ++ [u], m + 1, by rw [ho]; simp, ?_⟩) ⟨rfl, id⟩ .none)
    exact (W.append (.cons _ _ _ _ V .nil)).mono (List.prefix_refl _) tk
theorem isspace_A (R : Rel hT ρ L σ s.heap) {l : List Nat} {t : Tok} : Tri prog w hT A L ρ s (call (.builtin "str.isspace") [.str ⟨l.toArray⟩ t]) σ (fun ρ' h' u => VR ρ' h' (.bool (Txt.isspace ⟨l.toArray⟩)) u) :=
  PySem.SC.isspace (Post.same' R (.bool _))
theorem join_A (R : Rel hT ρ L σ s.heap) {sep : List Nat} {t : Tok} {D : Addr} {vs : List Value} {l : List AV} {parts : List (List Nat)} (hl : s.heap.IsList D vs.toArray ∨ IsTup s.heap D vs.toArray) (V : VRs ρ s.heap l vs) (hp : strsOf l = some parts) (h1 : Nat.ble sep.length 16 = true) (h2 : lensOk parts 0 = true) :
    Tri prog w hT A L ρ s (call (.builtin "str.join") [.str ⟨sep.toArray⟩ t, .ref D]) σ (fun ρ' h' u => VR ρ' h' (.str (joinL sep parts)) u) := by
  have q := strsOf_are hp V
  have w1 := lensOk_sum h2
  have w2 : ((parts.map fun x => (⟨x.toArray⟩ : Str)).map (·.length)).sum + (parts.map fun x => (⟨x.toArray⟩ : Str)).length ≤ 1048576 := by rw [List.length_map]; omega
  have w3 : (⟨sep.toArray⟩ : Str).length ≤ 16 := by rw [str_len]; exact Nat.le_of_ble_eq_true h1
  have e : Txt.join ⟨sep.toArray⟩ (parts.map fun x => (⟨x.toArray⟩ : Str)) = ⟨(joinL sep parts).toArray⟩ := by
    unfold Txt.join; rw [PySem.StrLaws.glued_eq_join, joinL_eq]
  have fin : ∀ t' k, Post hT L ρ s σ (fun ρ' h' u => VR ρ' h' (.str (joinL sep parts)) u) (.str (Txt.join ⟨sep.toArray⟩ (parts.map fun x => (⟨x.toArray⟩ : Str))) t') { s with toks := k } := fun t' k => by
    rw [e]; exact Post.same R (.str _ _)
  rcases hl with hl | hl
  · exact join_listW hl q w3 w2 fin
  · exact join_tupleW hl q w3 w2 fin
end
end Mine
namespace Mine
section
variable {prog : Program} {w : World} {hT : Heap} {A : Around} {L : Addr} {ρ ρ₀ : List Addr} {s s₀ : Shared} {σ σ' : St} {env : Env} {ae : AE} {v : AV} {n : Nat} {ih : IH} {T : Tab} {TC : TabC}
theorem Rel.put2 {h h' : Heap} (R : Rel hT ρ L σ h) {i : Nat} {a : Addr} {o : AO} (ha : ρ[i]? = some a) (k : ∀ b o, h.get? b = some o → b ≠ a → b ≠ L → h'.get? b = some o) (kn : ∃ f, h'.Ns L f ∧ ∀ h'', (∀ b o, h.get? b = some o → Imm o → h''.get? b = some o) → LW ρ h'' σ.loc f) (ho : OR ρ h' a o) :
    Step [L] ρ h ρ h' ∧ Rel hT ρ L ⟨σ.hp.set i o, σ.loc⟩ h' := by
  have hm := List.mem_of_getElem? ha
  have tk : ∀ x o, h.get? x = some o → Imm o → h'.get? x = some o := fun x o e im => k x o e (fun q => R.inv.immOff e im (q ▸ hm)) (R.immOff e im).2
  revert kn; refine fun h0 => ex1_2 h0 fun f F G => ?_; clear h0
  refine ⟨⟨List.prefix_refl _, fun b o e n1 n2 => k b o e (fun q => n1 (q ▸ hm)) fun q => n2 (by rw [q]; exact .head _), fun b e => ?_, fun zz a b => absurd a b⟩, ⟨⟨by simp [R.inv.len], R.inv.nd, fun j o' b e1 e2 => ?_⟩, ⟨f, F, G _ tk⟩, fun b o e => ?_, R.off, R.offL, R.above⟩⟩
  · by_cases q : b = a
    · rw [q]; exact ho.some
    · by_cases q' : b = L
      · rw [q']; exact Ns.live F
      · refine ex1_1 (Option.isSome_iff_exists.mp e) fun o e => ?_
        rw [k b o e q q']; rfl
  · by_cases q : i = j
    · subst q
      obtain rfl : a = b := Option.some.inj (ha.symm.trans e2)
      have hl := (List.getElem?_eq_some_iff.mp e1).1
      rw [List.getElem?_set_self (by simpa using hl)] at e1
      revert e1; refine someC fun h => ?_; subst h
      exact ho
    · rw [List.getElem?_set_ne q] at e1
      have x := R.inv.at_ j o' b e1 e2
      have nb : b ≠ a := by
        rintro rfl
        exact q ((List.getElem?_inj (List.getElem?_eq_some_iff.mp ha).1 R.inv.nd).mp (ha.trans e2.symm))
      refine ex1_1 (Option.isSome_iff_exists.mp x.some) fun ob eb => ?_
      exact x.mono (List.prefix_refl _) tk ((k b ob eb nb fun q => R.offL (q ▸ List.mem_of_getElem? e2)).trans eb.symm)
  · exact k b o (R.keep b o e) (fun q => by rw [q, R.off a hm] at e; exact noneE e) fun q => absurd (Heap.lt_size e) (Nat.not_lt.mpr (q ▸ R.above))
theorem reverse_A (R : Rel hT ρ L σ s.heap) {r : Nat} {l : List AV} {a : Value} (hr : σ.hp[r]? = some (.list l)) (hl : lenOk l.length = true) (X : VR ρ s.heap (.ref r) a) :
    Tri prog w hT A L ρ s (call (.builtin "list.reverse") [a]) ⟨σ.hp.set r (.list l.reverse), σ.loc⟩ (fun ρ' h' u => VR ρ' h' .none u) := by
  have hl' := Nat.le_of_ble_eq_true hl
  cases X with
  | ref _ b hb =>
    refine ex2_2 (R.inv.at_ r _ b hr hb) fun vs m g W => ?_
    refine ex1_3 R.opened fun f F N G => ?_
    have nb : b ≠ L := fun q => R.offL (q ▸ List.mem_of_getElem? hb)
    have tb : hT.get? b = none := R.off b (List.mem_of_getElem? hb)
    have N2 : News hT L s.heap ((b, listOf vs.toArray m) :: (allN hT L s.heap).filter (fun p => p.1 != b)) := fun p hp => by
      rcases List.mem_cons.mp hp with rfl | hp
      · exact ⟨g, nb, tb⟩
      · exact N p (List.mem_filter.mp hp).1
    refine kl_reverse (its := vs.toArray) F N2 rfl (.head fun p hp => by have := (List.mem_filter.mp hp).2; simpa using this) (by rw [← W.length, sizeLine_eq]; omega) fun h' F' N' => ?_
    have k : ∀ b' o, s.heap.get? b' = some o → b' ≠ b → b' ≠ L → h'.get? b' = some o := fun b' o e n1 n2 => by
      cases z : hT.get? b' with
      | none => exact (N' (b', o) (.tail _ (List.mem_filter.mpr ⟨mem_allN.mpr ⟨e, n2, z⟩, by simpa using n1⟩))).1
      | some o' =>
        have := R.keep _ _ z
        rw [e] at this; revert this; refine someC fun h => ?_; subst h
        exact F'.keep _ _ z
    have gD := (N' _ (.head _)).1
    have tk : ∀ b' o, s.heap.get? b' = some o → Imm o → h'.get? b' = some o := fun b' o e im => k b' o e (fun q => R.inv.immOff e im (q ▸ List.mem_of_getElem? hb)) (R.immOff e im).2
    refine ex0_2 (R.put2 (o := .list l.reverse) hb k ⟨f, F'.ns, fun h'' k' => G.mono (List.prefix_refl _) k'⟩ ⟨_, _, gD, (W.rev).mono (List.prefix_refl _) tk⟩) fun S R' => ?_
    exact (Post.mk S R' ⟨rfl, id⟩ .none)
theorem strs_vrs {h : Heap} : ∀ {vs : List Value} {ys : List Str}, StrsAre vs ys → VRs ρ h ((ys.map (·.cps.toList)).map AV.str) vs
  | _, _, .nil => .nil
  | _, _, .cons y t r => by
    refine .cons _ _ _ _ ?_ (strs_vrs r)
    have := VR.str (ρ := ρ) (h := h) y.cps.toList t
    rw [str_back] at this
    exact this
theorem split_A (R : Rel hT ρ L σ s.heap) {x sep : List Nat} {t u : Tok} (h1 : lenOk x.length = true) (h2 : Nat.beq sep.length 0 = false) :
    Tri prog w hT A L ρ s (call (.builtin "str.split") [.str ⟨x.toArray⟩ t, .str ⟨sep.toArray⟩ u]) ⟨σ.hp ++ [.list ((splitL x sep).map AV.str)], σ.loc⟩ (fun ρ' h' u => VR ρ' h' (.ref σ.hp.length) u) := by
  have h1' := Nat.le_of_ble_eq_true h1
  have h2' := Nat.ne_of_beq_eq_false h2
  refine ex1_3 R.opened fun f F N G => ?_
  refine KSpl.split1 F N (by rw [str_len]; simpa using h2') (fun D l h' k e q F' N' lt => ?_) (by rw [str_len, sizeLine_eq]; omega)
  have V := strs_vrs (ρ := ρ) (h := s.heap) q
  rw [e] at V
  exact newList_end (n := 0) R V G F' N' (fun p hp => .tail _ hp) lt (.head _)
theorem mapSeq_inst (f : Array Value → Array Value) (C dx : Addr) (xs : Array Value) (m : Nat) : ∃ m', Obj.mapSeq f ⟨.ref C, some dx, .seq xs m, #[]⟩ = ⟨.ref C, some dx, .seq (f xs) m', #[]⟩ := ⟨_, rfl⟩
theorem inst_put (R : Rel hT ρ L σ s.heap) {r C d : Nat} {x dx : Addr} {vs us : List Value} {m : Nat} {l : List AV} {f : Array Value → Array Value} {u : Value} {y : AV} (hx : ρ[r]? = some x) (hdx : ρ[d]? = some dx) (g : s.heap.get? x = some ⟨.ref C, some dx, .seq vs.toArray m, #[]⟩)
    (e : f vs.toArray = us.toArray) (V : VRs ρ s.heap l us) (U : VR ρ s.heap y u) : Post hT L ρ s ⟨σ.hp.set r (.inst C d (some l)), σ.loc⟩ (fun ρ' h' u => VR ρ' h' y u) u { s with heap := s.heap.update x (Obj.mapSeq f) } := by
  refine ex1_1 (mapSeq_inst f C dx vs.toArray m) fun m' hm => ?_
  rw [e] at hm
  have g' : (s.heap.update x (Obj.mapSeq f)).get? x = some ⟨.ref C, some dx, .seq us.toArray m', #[]⟩ := (Heap.get?_update_self _ g (by rw [hm]; rfl)).trans (congrArg some hm)
  refine ex1_4 (put_end (o := .inst C d (some l)) R hx ⟨dx, us, m', hdx, g', upds_mono R hx V⟩) fun ρ' S R' O zz => ?_
  exact (Post.mk (Step.put (List.mem_of_getElem? hx) (Heap.SameBut.update ..) (by rw [g']; rfl)) (R.put hx (Heap.SameBut.update ..) ⟨dx, us, m', hdx, g', upds_mono R hx V⟩) ⟨rfl, id⟩ (upd_mono R hx U))
theorem lappend_A (TO : TabCOk TC hT) (R : Rel hT ρ L σ s.heap) {r C d : Nat} {l : List AV} {y : AV} {a u : Value} (hr : σ.hp[r]? = some (.inst C d (some l))) (hC : hasN TC.lst C = true) (hl : lenOk l.length = true) (X : VR ρ s.heap (.ref r) a) (V : VR ρ s.heap y u) :
    Tri prog w hT A L ρ s (call (.builtin "list.append") [a, u]) ⟨σ.hp.set r (.inst C d (some (l ++ [y]))), σ.loc⟩ (fun ρ' h' u => VR ρ' h' .none u) := by
  have hl' := Nat.le_of_ble_eq_true hl
  have O := TO.lst _ (hasN_mem hC)
  refine ex5_6 (instL_at R hr X) fun x dx od vs m Z1 hx hdx g W In => ?_; subst Z1
  refine callL (TO.inn.keeps R.keep) In O.sub slot_list_append.plain entry_list_append (.inr k_append) p_append (args_list_append _ _) (b_append g rfl (by rw [List.size_toArray, ← W.length, sizeLine_eq]; omega) ?_)
  exact inst_put R hx hdx g (by simp) (W.append (.cons _ _ _ _ V .nil)) .none
theorem lpop_A (TO : TabCOk TC hT) (R : Rel hT ρ L σ s.heap) {r C d : Nat} {l : List AV} {y : AV} {a : Value} (hr : σ.hp[r]? = some (.inst C d (some (l ++ [y])))) (hC : hasN TC.lst C = true) (hl : lenOk l.length = true) (X : VR ρ s.heap (.ref r) a) :
    Tri prog w hT A L ρ s (call (.builtin "list.pop") [a]) ⟨σ.hp.set r (.inst C d (some l)), σ.loc⟩ (fun ρ' h' u => VR ρ' h' y u) := by
  have hl' := Nat.le_of_ble_eq_true hl
  have O := TO.lst _ (hasN_mem hC)
  refine ex5_6 (instL_at R hr X) fun x dx od vs m Z1 hx hdx g W In => ?_; subst Z1
  obtain ⟨us, u, rfl, U, V⟩ : ∃ us u, vs = us ++ [u] ∧ VRs ρ s.heap l us ∧ VR ρ s.heap y u := by
    have key : ∀ {l : List AV} {vs : List Value}, VRs ρ s.heap (l ++ [y]) vs → ∃ us u, vs = us ++ [u] ∧ VRs ρ s.heap l us ∧ VR ρ s.heap y u := by
      intro l
      induction l with
      | nil => intro vs W; cases W with | cons _ u _ _ V W => revert W; refine vrsNil ?_; intro h; subst h; exact ⟨[], u, rfl, .nil, V⟩
      | cons z t ih =>
        intro vs W
        cases W with
        | cons _ v _ vs Z W =>
          refine ex2_3 (ih W) fun us u Z1 U V => ?_; subst Z1
          exact ⟨v :: us, u, rfl, .cons _ _ _ _ Z U, V⟩
    exact key W
  refine callL (TO.inn.keeps R.keep) In O.sub PySem.F.slot_list_pop.plain PySem.F.entry_list_pop (.inr k_pop) p_pop (PySem.F.args_list_pop_1 _) (b_pop g rfl (by rw [← U.length, sizeLine_eq]; omega) ?_)
  refine inst_put R hx hdx g ?_ U V
  have : us.length < (us ++ [u]).toArray.size := by simp
  rw [Array.eraseIdxIfInBounds, dif_pos this]
  apply Array.ext'
  simp [List.eraseIdx_append_of_length_le (Nat.le_refl us.length)]
theorem llen_A (TO : TabCOk TC hT) (R : Rel hT ρ L σ s.heap) {r C d : Nat} {l : List AV} {a : Value} (hr : σ.hp[r]? = some (.inst C d (some l))) (hC : hasN TC.lst C = true) (X : VR ρ s.heap (.ref r) a) :
    Tri prog w hT A L ρ s (call (.builtin "list.__len__") [a]) σ (fun ρ' h' u => VR ρ' h' (.int l.length) u) := by
  have O := TO.lst _ (hasN_mem hC)
  refine ex5_6 (instL_at R hr X) fun x dx od vs m Z1 hx hdx g W In => ?_; subst Z1
  refine callL (TO.inn.keeps R.keep) In O.sub slot_list_len.plain entry_list_len (.inl k_len) p_len (args_list_len _) (b_len g rfl ?_)
  rw [List.size_toArray, ← W.length]
  exact Post.same R (.int _ _)
theorem linit_A (TO : TabCOk TC hT) (R : Rel hT ρ L σ s.heap) {r C d : Nat} {a : Value} (hr : σ.hp[r]? = some (.inst C d (some []))) (hC : hasN TC.lst C = true) (X : VR ρ s.heap (.ref r) a) :
    Tri prog w hT A L ρ s (call (.builtin "list.__init__") [a]) ⟨σ.hp.set r (.inst C d (some [])), σ.loc⟩ (fun ρ' h' u => VR ρ' h' .none u) := by
  have O := TO.lst _ (hasN_mem hC)
  refine ex5_6 (instL_at R hr X) fun x dx od vs m Z1 hx hdx g W In => ?_; subst Z1
  revert W; refine vrsNil ?_; intro h; subst h
  refine callL (TO.inn.keeps R.keep) In O.sub PySem.F.slot_list_init.plain PySem.F.entry_list_init (.inl k_init) p_init (PySem.F.args_list_init_1 _) (b_init g rfl ?_)
  exact inst_put (us := []) R hx hdx g rfl .nil .none
end
end Mine
namespace Mine
section
variable {prog : Program} {w : World} {hT : Heap} {A : Around} {L : Addr} {ρ ρ₀ : List Addr} {s s₀ : Shared} {σ σ' : St} {env : Env} {ae : AE} {v : AV} {n : Nat} {ih : IH} {T : Tab} {TC : TabC}
theorem Cx.in1 (c : Cx A (n + 1)) : Cx A.in1 n := ⟨by have := c.depth; show A.depth + 2 * n < _; omega, by have := c.units; show A.units + 1 + 16 * n + 16 < _; omega, c.hd⟩
theorem Cx.in2 (c : Cx A (n + 1)) : Cx A.in1.in1 n := ⟨by have := c.depth; show A.depth + 2 * n < _; omega, by have := c.units; show A.units + 1 + 1 + 16 * n + 16 < _; omega, c.hd⟩
theorem Cx.dn (c : Cx A (n + 1)) : Cx A n := c.le (Nat.le_succ n)
noncomputable def instC (x : AV) (hp : List AO) : Option Addr := (instD hp x).bind fun q => some q.1.2.1
theorem instC_at (R : Rel hT ρ L σ s.heap) {x : AV} {C : Addr} {a : Value} (e : instC x σ.hp = some C) (X : VR ρ s.heap x a) : ∃ y ox od, a = .ref y ∧ InstAt s.heap y ox C (some od) := by
  revert e
  refine bindE fun q hq e => ?_
  revert e; refine someC fun h => ?_; subst h
  refine ex0_3 (instD_ok hq) fun ex hi hd => ?_
  rw [ex] at X
  refine ex5_12 (inst_at R hi hd X) fun x dx ox es k e hx hdx g1 g2 g3 g4 g5 g6 k1 k2 k3 => ?_
  exact ⟨x, ox, _, e, instAt_of g1 g2 g3 g5 g6⟩
noncomputable def theF : AV → Option Addr
  | .fn a => some a
  | _ => none
theorem theF_ok {x : AV} {i : Addr} (h : theF x = some i) : x = .fn i := by cases x <;> first | exact noneE h | (revert h; refine someC fun h => ?_; subst h; rfl)
noncomputable def specA (TC : TabC) (x : AV) (name : Str) (hp : List AO) : Option Addr := (instC x hp).bind fun C => (atB TC.met C name).bind theF
theorem specA_at (TO : TabCOk TC hT) (R : Rel hT ρ L σ s.heap) {x : AV} {name : Str} {f : Addr} {a : Value} (e : specA TC x name σ.hp = some f) (X : VR ρ s.heap x a) :
    ∃ y C ox od, a = .ref y ∧ InstAt s.heap y ox C (some od) ∧ instC x σ.hp = some C ∧ findIn TC.K (.ref C) name = some (some (.ref f)) ∧ typeIn TC.K (.ref f) = some (.type "function") := by
  revert e; refine bindE fun C hC e => ?_
  revert e; refine bindE fun g hf e => ?_
  cases theF_ok e
  · refine ex3_2 (instC_at R hC X) fun y ox od Z1 In => ?_; subst Z1
    refine ex2_4 ((TO.met _ (atB_mem hf)).fn) fun u tf h1 h2 h3 h4 => ?_
    rcases h4 with ⟨a, q1, rfl, rfl⟩ | ⟨b, q1, _⟩
    · cases q1
      exact ⟨y, C, ox, od, rfl, In, hC, h1, h2⟩
    · cases q1
noncomputable def lenI (TC : TabC) (ih : IH) (x : AV) (hp : List AO) : Option (Int × List AO) := (specA TC x (Str.ofString "__len__") hp).bind fun f => (ih.fn (.fn f) [x] hp).bind fun p => (theI p.1).bind fun k => bif W.Z.leB 0 k && lenOk k.toNat then some (k, p.2) else none
theorem lenBody (TO : TabCOk TC hT) (I : IOk prog w hT n ih) (c : Cx A n) (R : Rel hT ρ L σ s.heap) {x : AV} {k : Int} {hp' : List AO} {a : Value} (e : lenI TC ih x σ.hp = some (k, hp')) (X : VR ρ s.heap x a) :
    wpAny (model prog w) A (Builtin.«len» ⟨[a], []⟩) (fun fin s' => ∃ u, fin = .done (.ret u) ∧ ∃ t, u = .int k t ∧ Post hT L ρ s ⟨hp', σ.loc⟩ (fun ρ' h' u => VR ρ' h' (.int k) u) u s') No s := by
  unfold lenI at e
  revert e; refine bindE fun f hf e => ?_
  revert e; refine bindE fun p hp e => ?_
  refine ex4_5 (specA_at TO R hf X) fun y C ox od Z1 In hC h1 h2 => ?_; subst Z1
  obtain ⟨r, hp₂⟩ := p
  revert e; refine bindE fun k' hr' e => ?_
  cases theI_ok hr'
  revert e; refine condE fun hk e => ?_
  cases (e)
  refine ex0_2 (Bool.and_eq_true_iff.mp hk) fun hk1 hk2 => ?_
  have q1 := (W.Z.leB_iff _ _).mp hk1
  have q2 := Nat.le_of_ble_eq_true hk2
  unfold Builtin.«len»
  refine wpAny_bind (m := oneArg "len" _) (wpAny_pure ?_)
  refine wpAny_bind (m := callSpecial? (.ref y) (Str.ofString "__len__")) (special_fn (TO.inn.keeps R.keep) In h1 h2 (wpAny_mono (I.fn c R (.fn f) (.cons _ _ _ _ X .nil) hp) (fun r s' hr => ?_) fun zz zz z => z))
  revert hr; refine postE fun ρ' S R' O V => ?_
  cases V with
  | int _ t =>
    refine wpAny_bind (wpAny_holding (wpAny_pure ?_))
    refine wpAny_bind (wpAny_letGo ?_)
    show wpAny _ _ (if k < 0 then _ else _) _ _ _
    rw [if_neg (by omega)]
    show wpAny _ _ (if k ≥ 2 ^ 63 then _ else _) _ _ _
    rw [if_neg (by omega)]
    exact wpAny_bind (wpAny_mkInt (wpAny_pure ⟨_, rfl, _, rfl, ρ', S, R', ⟨O.os, O.gens⟩, .int _ _⟩))
theorem lenI_sound (TO : TabCOk TC hT) (I : IOk prog w hT n ih) (c : Cx A (n + 1)) (R : Rel hT ρ L σ s.heap) {x : AV} {k : Int} {hp' : List AO} {a : Value} (e : lenI TC ih x σ.hp = some (k, hp')) (X : VR ρ s.heap x a) :
    Tri prog w hT A L ρ s (call (.builtin "len") [a]) ⟨hp', σ.loc⟩ (fun ρ' h' u => VR ρ' h' (.int k) u) := by
  refine Calls.call_function_entry kind_len plain_len entry_len (args_len1 _) ?_
  exact wpAny_mono (lenBody TO I c.in1 R e X) (fun fin s' ⟨u, a, _, _, c⟩ => ⟨u, a, c⟩) fun zz zz z => z
theorem truthI_sound (TO : TabCOk TC hT) (I : IOk prog w hT n ih) (c : Cx A (n + 1)) (R : Rel hT ρ L σ s.heap) {x : AV} {k : Int} {hp' : List AO} {a : Value} {C : Addr} (hC : instC x σ.hp = some C) (hb : hasN TC.nob C = true) (e : lenI TC ih x σ.hp = some (k, hp')) (X : VR ρ s.heap x a) :
    Tri prog w hT A L ρ s (truthy a) ⟨hp', σ.loc⟩ (fun zz zz c => c = !W.Z.eqB k 0) := by
  refine ex1_2 (Option.bind_eq_some_iff.mp e) fun f hf zz => ?_
  refine ex4_5 (specA_at TO R hf X) fun y C' ox od Z1 In hC' h1 h2 => ?_; subst Z1
  cases hC.symm.trans hC'
  have hnb := TO.nob _ (hasN_mem hb)
  have Kn := TO.inn.keeps R.keep
  unfold truthy
  refine wpAny_bind (m := callSpecial? (.ref y) (Str.ofString "__bool__")) (wpAny_bind (wpAny_bind (In.type.here ((looks_findIn Kn hnb).here (wpAny_pure ?_)))))
  refine wpAny_bind (m := specialOf (.ref y) (Str.ofString "__len__")) (wpAny_bind (In.type.here ((looks_findIn Kn h1).here ?_)))
  rw [if_neg (by simp)]
  refine wpAny_bind (wpAny_runValue (codeAny_builtin entry_len ?_))
  rw [Around.under_plainId plain_len _]
  refine wpAny_mono (lenBody TO I c.in1 R e X) (fun fin s' hz => ?_) fun zz zz z => z
  obtain ⟨u, rfl, t, rfl, ρ', S, R', O, V⟩ := hz
  refine wpAny_pure (Post.mk S R' O (?_))
  cases q : W.Z.eqB k 0 with
  | true => rw [(W.Z.eqB_iff _ _).mp q]; rfl
  | false =>
    have : k ≠ 0 := fun z => by rw [(W.Z.eqB_iff _ _).mpr z] at q; exact tfE q
    simpa using this
noncomputable def strI (TC : TabC) (ih : IH) (x : AV) (hp : List AO) : Option (List Nat × List AO) := (specA TC x (Str.ofString "__str__") hp).bind fun f => (ih.fn (.fn f) [x] hp).bind fun p => (theS p.1).bind fun l => some (l, p.2)
theorem strI_sound (TO : TabCOk TC hT) (I : IOk prog w hT n ih) (c : Cx A (n + 1)) (R : Rel hT ρ L σ s.heap) {x : AV} {l : List Nat} {hp' : List AO} {a : Value} (e : strI TC ih x σ.hp = some (l, hp')) (X : VR ρ s.heap x a) :
    Tri prog w hT A L ρ s (call (.type "str") [a]) ⟨hp', σ.loc⟩ (fun ρ' h' u => VR ρ' h' (.str l) u) := by
  unfold strI at e
  revert e; refine bindE fun f hf e => ?_
  revert e; refine bindE fun p hp e => ?_
  refine ex4_5 (specA_at TO R hf X) fun y C ox od Z1 In hC h1 h2 => ?_; subst Z1
  obtain ⟨r, hp₂⟩ := p
  revert e; refine bindE fun k' hr' e => ?_
  cases theS_ok hr'
  revert e; refine pairC fun h1 h2 => ?_; subst h1; subst h2
  refine kso_call (by have := c.units; show A.units + 1 + 1 < _; omega) (TO.inn.keeps R.keep) In h1 (beq_iff_eq.mpr h2) (wpAny_mono (I.fn c.in2 R (.fn f) (.cons _ _ _ _ X .nil) hp) (fun r s' hr => ?_) fun zz zz z => z)
  revert hr; refine postE fun ρ' S R' O V => ?_
  cases V with
  | str _ t => exact ⟨ρ', S, R', O, .str _ _⟩
end
end Mine
namespace Mine
noncomputable def arg1 : List AV → Option AV
  | [x] => some x
  | _ => none
noncomputable def arg2 : List AV → Option (AV × AV)
  | [x, y] => some (x, y)
  | _ => none
set_option tactic.hygienic true in
theorem arg1_vr {ρ : List Addr} {h : Heap} {args : List AV} {vs : List Value} {x : AV} (V : VRs ρ h args vs) (e : arg1 args = some x) : ∃ u, vs = [u] ∧ VR ρ h x u := by
  rcases args with _ | ⟨x, _ | ⟨_, _⟩⟩ <;> first | exact noneE e | skip
  revert e; refine someC fun h => ?_; subst h
  revert V; refine vrsCons ?_; intro _ _ _ _ h; subst h
  rename_i X W
  revert W; refine vrsNil ?_; intro h; subst h
  exact ⟨_, rfl, X⟩
set_option tactic.hygienic true in
theorem arg2_vr {ρ : List Addr} {h : Heap} {args : List AV} {vs : List Value} {x : AV × AV} (V : VRs ρ h args vs) (e : arg2 args = some x) : ∃ u w, vs = [u, w] ∧ VR ρ h x.1 u ∧ VR ρ h x.2 w := by
  rcases args with _ | ⟨x, _ | ⟨y, _ | ⟨_, _⟩⟩⟩ <;> first | exact noneE e | skip
  revert e; refine pairC fun h1 h2 => ?_; subst h1; subst h2
  revert V; refine vrsCons ?_; intro _ _ _ _ h; subst h
  rename_i X W
  revert W; refine vrsCons ?_; intro _ _ _ _ h; subst h
  rename_i Y W
  revert W; refine vrsNil ?_; intro h; subst h
  exact ⟨_, _, rfl, X, Y⟩
noncomputable def biLen (TC : TabC) (ih : IH) (x : AV) (hp : List AO) : Option (AV × List AO) := match x with
  | .str l => bif lenOk l.length then some (.int l.length, hp) else none
  | .tup l => bif lenOk l.length then some (.int l.length, hp) else none
  | .ref r => match hp[r]? with
    | some (.list l) => bif lenOk l.length then some (.int l.length, hp) else none
    | _ => (lenI TC ih (.ref r) hp).bind fun p => some (.int p.1, p.2)
  | _ => none
noncomputable def rangeI : List Int → Option (Int × Int × Int)
  | [] => none
  | n :: r => match r with
    | [] => some (0, n, 1)
    | b :: r => match r with
      | [] => some (n, b, 1)
      | c :: r => match r with
        | [] => bif W.Z.eqB c (-1) then some (n, b, c) else none
        | _ :: _ => none
noncomputable def rangeA (l : List AV) : Option (Int × Int × Int) := (intsOf l).bind rangeI
noncomputable def biDivmod (args : List AV) (hp : List AO) : Option (AV × List AO) := (arg2 args).bind fun p => (theI p.1).bind fun x => (theI p.2).bind fun y => bif intOk y && !W.Z.eqB y 0 then some (.tup [.int (x.fdiv y), .int (x.fmod y)], hp) else none
noncomputable def biMax (args : List AV) (hp : List AO) : Option (AV × List AO) := (arg1 args).bind fun x => (theL hp x).bind fun q => (intsOf q.2).bind fun ns => (maxI ns).bind fun m => some (.int m, hp)
noncomputable def biSum (args : List AV) (hp : List AO) : Option (AV × List AO) := (arg1 args).bind fun x => (theL hp x).bind fun q => (intsOf q.2).bind fun ns => some (.int (sumI ns), hp)
noncomputable def biSorted (args : List AV) (hp : List AO) : Option (AV × List AO) := (arg1 args).bind fun x => (theL hp x).bind fun q => (intsOf q.2).bind fun ns => bif Nat.blt q.2.length 64 then some (.ref hp.length, hp ++ [.list ((sortI ns).map AV.int)]) else none
noncomputable def biTuple (args : List AV) (hp : List AO) : Option (AV × List AO) := (arg1 args).bind fun x => (theL hp x).bind fun q => bif Nat.ble q.2.length 16384 then some (.tup q.2, hp) else none
noncomputable def biAppend (TC : TabC) (args : List AV) (hp : List AO) : Option (AV × List AO) := (arg2 args).bind fun p => match theL hp p.1 with
  | some q => bif lenOk q.2.length then some (.none, hp.set q.1 (.list (q.2 ++ [p.2]))) else none
  | none => (theK hp p.1).bind fun q => bif hasN TC.lst q.2.1 && lenOk q.2.2.2.length then some (.none, hp.set q.1 (.inst q.2.1 q.2.2.1 (some (q.2.2.2 ++ [p.2])))) else none
noncomputable def biReverse (args : List AV) (hp : List AO) : Option (AV × List AO) := (arg1 args).bind fun x => (theL hp x).bind fun q => bif lenOk q.2.length then some (.none, hp.set q.1 (.list q.2.reverse)) else none
noncomputable def biJoin (args : List AV) (hp : List AO) : Option (AV × List AO) := (arg2 args).bind fun p => (theS p.1).bind fun sep => (match p.2 with
  | .tup l => some l
  | y => (theL hp y).bind fun q => some q.2).bind fun l => (strsOf l).bind fun ps => bif Nat.ble sep.length 16 && lensOk ps 0 then some (.str (joinL sep ps), hp) else none
noncomputable def biSplit (args : List AV) (hp : List AO) : Option (AV × List AO) := (arg2 args).bind fun p => (theS p.1).bind fun x => (theS p.2).bind fun sep => bif lenOk x.length && !Nat.beq sep.length 0 then some (.ref hp.length, hp ++ [.list ((splitL x sep).map AV.str)]) else none
noncomputable def biLpop (TC : TabC) (args : List AV) (hp : List AO) : Option (AV × List AO) := (arg1 args).bind fun x => (theK hp x).bind fun q => (q.2.2.2.getLast?).bind fun y => bif hasN TC.lst q.2.1 && lenOk q.2.2.2.dropLast.length then some (y, hp.set q.1 (.inst q.2.1 q.2.2.1 (some q.2.2.2.dropLast))) else none
noncomputable def biLlen (TC : TabC) (args : List AV) (hp : List AO) : Option (AV × List AO) := (arg1 args).bind fun x => (theK hp x).bind fun q => bif hasN TC.lst q.2.1 then some (.int q.2.2.2.length, hp) else none
noncomputable def biLinit (TC : TabC) (args : List AV) (hp : List AO) : Option (AV × List AO) := (arg1 args).bind fun x => (theK hp x).bind fun q => bif q.2.2.2.isEmpty && hasN TC.lst q.2.1 then some (.none, hp.set q.1 (.inst q.2.1 q.2.2.1 (some []))) else none
noncomputable def biA (TC : TabC) (ih : IH) (b : BI) (args : List AV) (hp : List AO) : Option (AV × List AO) := match b with
  | .len => (arg1 args).bind fun x => biLen TC ih x hp
  | .divmod => biDivmod args hp
  | .max => biMax args hp
  | .sum => biSum args hp
  | .sorted => biSorted args hp
  | .range => (rangeA args).bind fun q => some (.rng q.1 q.2.1 q.2.2, hp)
  | .tuple => biTuple args hp
  | .str => (arg1 args).bind fun x => (strI TC ih x hp).bind fun p => some (.str p.1, p.2)
  | .append => biAppend TC args hp
  | .reverse => biReverse args hp
  | .bitlen => (arg1 args).bind fun x => (theI x).bind fun i => some (.int (Builtin.Int.intBits i), hp)
  | .isspace => (arg1 args).bind fun x => (theS x).bind fun l => some (.bool (Txt.isspace ⟨l.toArray⟩), hp)
  | .join => biJoin args hp
  | .split => biSplit args hp
  | .lpop => biLpop TC args hp
  | .llen => biLlen TC args hp
  | .linit => biLinit TC args hp
  | .reversed => none
section
variable {prog : Program} {w : World} {hT : Heap} {A : Around} {L : Addr} {ρ ρ₀ : List Addr} {s s₀ : Shared} {σ σ' : St} {env : Env} {ae : AE} {v : AV} {n : Nat} {ih : IH} {T : Tab} {TC : TabC}
set_option tactic.hygienic true in
theorem biLen_sound (TO : TabCOk TC hT) (I : IOk prog w hT n ih) (c : Cx A (n + 1)) (R : Rel hT ρ L σ s.heap) {x : AV} {u : Value} {hp' : List AO} (e : biLen TC ih x σ.hp = some (v, hp')) (X : VR ρ s.heap x u) :
    Tri prog w hT A L ρ s (call (.builtin "len") [u]) ⟨hp', σ.loc⟩ (fun ρ' h' u => VR ρ' h' v u) := by
  unfold biLen at e
  split at e
  · rename_i l
    revert e; refine condE fun h1 e => ?_
    revert e; refine pairC fun h1 h2 => ?_; subst h1; subst h2; revert X; refine vrStr ?_; intro _ h; subst h
    have h1' := Nat.le_of_ble_eq_true h1
    refine PySem.P.len_str (by rw [str_len]; omega) ?_
    rw [str_len]; exact Post.same R (.int _ _)
  · rename_i l
    revert e; refine condE fun h1 e => ?_
    revert e; refine pairC fun h1 h2 => ?_; subst h1; subst h2
    have h1' := Nat.le_of_ble_eq_true h1
    cases X with
    | tup _ us a m g W =>
      refine PySem.P.len_tuple g (by rw [List.size_toArray, ← W.length]; omega) ?_
      rw [List.size_toArray, ← W.length]; exact Post.same R (.int _ _)
  · split at e
    · rename_i l hr
      revert e; refine condE fun h1 e => ?_
      revert e; refine pairC fun h1 h2 => ?_; subst h1; subst h2
      have h1' := Nat.le_of_ble_eq_true h1
      refine ex3_3 (list_reads R.inv hr X) fun y us m Z1 g W => ?_; subst Z1
      refine Calls.call_len_list (isList_of g) (by rw [List.size_toArray, ← W.length]; omega) ?_
      rw [List.size_toArray, ← W.length]; exact Post.same R (.int _ _)
    · revert e; refine bindE fun p hp e => ?_
      revert e; refine pairC fun h1 h2 => ?_; subst h1; subst h2
      exact lenI_sound TO I c R hp X
  · exact noneE e
theorem isCons {vs : List Value} {a : Int} {l : List Int} (h : IntsAre vs (a :: l)) : ∃ t r, vs = .int a t :: r ∧ IntsAre r l := by
  cases h with | cons _ t W => exact ⟨t, _, rfl, W⟩
theorem isNil {vs : List Value} (h : IntsAre vs []) : vs = [] := by
  cases h; rfl
theorem range_sound (R : Rel hT ρ L σ s.heap) {args : List AV} {vs : List Value} {q : Int × Int × Int} (e : rangeA args = some q) (V : VRs ρ s.heap args vs) :
    Tri prog w hT A L ρ s (call (.type "range") vs) ⟨σ.hp, σ.loc⟩ (fun ρ' h' u => VR ρ' h' (.rng q.1 q.2.1 q.2.2) u) := by
  revert e; refine bindE fun ns hn e => ?_
  have W := intsOf_are hn V
  rcases ns with _ | ⟨a, _ | ⟨b, _ | ⟨c, _ | ⟨d, r⟩⟩⟩⟩
  · exact noneE e
  · revert e; refine someC fun h => ?_; subst h
    refine ex2_2 (isCons W) fun ta ra Z1 W1 => ?_; subst Z1; cases isNil W1; exact call_range_1 (range_end R)
  · revert e; refine someC fun h => ?_; subst h
    refine ex2_2 (isCons W) fun ta ra Z1 W1 => ?_; subst Z1; refine ex2_2 (isCons W1) fun tb rb Z1 W2 => ?_; subst Z1; cases isNil W2; exact call_range_2 (range_end R)
  · revert e; refine condE fun h1 e => ?_
    revert e; refine someC fun h => ?_; subst h
    have h1' := (PySem.W.Z.eqB_iff _ _).mp h1
    subst h1'
    refine ex2_2 (isCons W) fun ta ra Z1 W1 => ?_; subst Z1; refine ex2_2 (isCons W1) fun tb rb Z1 W2 => ?_; subst Z1; refine ex2_2 (isCons W2) fun tc rc Z1 W3 => ?_; subst Z1; cases isNil W3; exact call_range_3 (by decide) (range_end R) (.inl (PyProof.noPylong_of_log2 (by decide +kernel)))
  · exact noneE e
set_option tactic.hygienic true in
theorem biA_sound (TO : TabCOk TC hT) (I : IOk prog w hT n ih) (c : Cx A (n + 1)) (R : Rel hT ρ L σ s.heap) {b : BI} {args : List AV} {vs : List Value} {hp' : List AO} (e : biA TC ih b args σ.hp = some (v, hp')) (V : VRs ρ s.heap args vs) :
    Tri prog w hT A L ρ s (call b.val vs) ⟨hp', σ.loc⟩ (fun ρ' h' u => VR ρ' h' v u) := by
  have hd := c.hd
  revert e
  cases b with
  | len =>
    refine bindE fun x hx e => ?_
    refine ex1_2 (arg1_vr V hx) fun u hu X => ?_
    subst hu
    exact biLen_sound TO I c R e X
  | divmod =>
    refine bindE fun x hx e => ?_
    refine ex2_3 (arg2_vr V hx) fun u w hu X Y => ?_
    subst hu
    revert e
    refine bindE fun a ha e => ?_
    rw [theI_ok ha] at X
    revert X; refine vrInt ?_; intro _ h; subst h
    revert e
    refine bindE fun b hb e => ?_
    rw [theI_ok hb] at Y
    revert Y; refine vrInt ?_; intro _ h; subst h
    revert e; refine condE fun h1 e => ?_
    revert e; refine pairC fun h1 h2 => ?_; subst h1; subst h2
    refine ex0_2 (Bool.and_eq_true_iff.mp h1) fun h1 h2 => ?_
    exact divmod_A R h1 (by simpa using h2)
  | max =>
    refine bindE fun x hx e => ?_
    refine ex1_2 (arg1_vr V hx) fun u hu X => ?_
    subst hu
    revert e
    refine bindE fun q hq e => ?_
    refine ex0_2 (theL_ok hq) fun h1 hr => ?_
    rw [h1] at X
    revert e
    refine bindE fun ns hns e => ?_
    revert e
    refine bindE fun m hm e => ?_
    revert e; refine pairC fun h1 h2 => ?_; subst h1; subst h2
    exact max_A hd R hr hns hm X
  | sum =>
    refine bindE fun x hx e => ?_
    refine ex1_2 (arg1_vr V hx) fun u hu X => ?_
    subst hu
    revert e
    refine bindE fun q hq e => ?_
    refine ex0_2 (theL_ok hq) fun h1 hr => ?_
    rw [h1] at X
    revert e
    refine bindE fun ns hns e => ?_
    revert e; refine pairC fun h1 h2 => ?_; subst h1; subst h2
    exact sum_A hd R hr hns X
  | sorted =>
    refine bindE fun x hx e => ?_
    refine ex1_2 (arg1_vr V hx) fun u hu X => ?_
    subst hu
    revert e
    refine bindE fun q hq e => ?_
    refine ex0_2 (theL_ok hq) fun h1 hr => ?_
    rw [h1] at X
    revert e
    refine bindE fun ns hns e => ?_
    revert e; refine condE fun h2 e => ?_
    revert e; refine pairC fun h1 h2 => ?_; subst h1; subst h2
    exact sorted_A R hr hns h2 X
  | range =>
    refine bindE fun q hq e => ?_
    revert e; refine pairC fun h1 h2 => ?_; subst h1; subst h2
    exact range_sound R hq V
  | tuple =>
    refine bindE fun x hx e => ?_
    refine ex1_2 (arg1_vr V hx) fun u hu X => ?_
    subst hu
    revert e
    refine bindE fun q hq e => ?_
    refine ex0_2 (theL_ok hq) fun h1 hr => ?_
    rw [h1] at X
    revert e; refine condE fun h2 e => ?_
    revert e; refine pairC fun h1 h2 => ?_; subst h1; subst h2
    exact tuple_A R hr h2 X
  | str =>
    refine bindE fun x hx e => ?_
    refine ex1_2 (arg1_vr V hx) fun u hu X => ?_
    subst hu
    revert e
    refine bindE fun p hp e => ?_
    revert e; refine pairC fun h1 h2 => ?_; subst h1; subst h2
    exact strI_sound TO I c R hp X
  | append =>
    refine bindE fun x hx e => ?_
    refine ex2_3 (arg2_vr V hx) fun u w hu X Y => ?_
    subst hu
    cases hq : theL σ.hp x.1 with
    | some q =>
      rw [hq] at e
      refine ex0_2 (theL_ok hq) fun h1 hr => ?_
      rw [h1] at X
      revert e; refine condE fun h2 e => ?_
      revert e; refine pairC fun h1 h2 => ?_; subst h1; subst h2
      exact append_A R hr h2 X Y
    | none =>
      rw [hq] at e
      revert e
      refine bindE fun q hq e => ?_
      refine ex0_2 (theK_ok hq) fun h1 hr => ?_
      rw [h1] at X
      revert e; refine condE fun h2 e => ?_
      revert e; refine pairC fun h1 h2 => ?_; subst h1; subst h2
      refine ex0_2 (Bool.and_eq_true_iff.mp h2) fun h2 h3 => ?_
      exact lappend_A TO R hr h2 h3 X Y
  | reverse =>
    refine bindE fun x hx e => ?_
    refine ex1_2 (arg1_vr V hx) fun u hu X => ?_
    subst hu
    revert e
    refine bindE fun q hq e => ?_
    refine ex0_2 (theL_ok hq) fun h1 hr => ?_
    rw [h1] at X
    revert e; refine condE fun h2 e => ?_
    revert e; refine pairC fun h1 h2 => ?_; subst h1; subst h2
    exact reverse_A R hr h2 X
  | bitlen =>
    refine bindE fun x hx e => ?_
    refine ex1_2 (arg1_vr V hx) fun u hu X => ?_
    subst hu
    revert e
    refine bindE fun i hi e => ?_
    rw [theI_ok hi] at X
    revert X; refine vrInt ?_; intro _ h; subst h
    revert e; refine pairC fun h1 h2 => ?_; subst h1; subst h2
    exact call_int_bit_length (Post.same R (.int _ _))
  | isspace =>
    refine bindE fun x hx e => ?_
    refine ex1_2 (arg1_vr V hx) fun u hu X => ?_
    subst hu
    revert e
    refine bindE fun l hl e => ?_
    rw [theS_ok hl] at X
    revert e; refine pairC fun h1 h2 => ?_; subst h1; subst h2
    revert X; refine vrStr ?_; intro _ h; subst h
    exact isspace_A R
  | join =>
    refine bindE fun x hx e => ?_
    refine ex2_3 (arg2_vr V hx) fun u w hu X Y => ?_
    subst hu
    revert e
    refine bindE fun sep hsep e => ?_
    rw [theS_ok hsep] at X
    revert e
    refine bindE fun l hl e => ?_
    revert e
    refine bindE fun ps hps e => ?_
    revert e; refine condE fun h1 e => ?_
    revert e; refine pairC fun h1 h2 => ?_; subst h1; subst h2
    refine ex0_2 (Bool.and_eq_true_iff.mp h1) fun h1 h2 => ?_
    revert X; refine vrStr ?_; intro _ h; subst h
    split at hl
    · rename_i l' hl'
      revert hl; refine someC fun h => ?_; subst h
      rw [hl'] at Y
      cases Y with
      | tup _ us a m g W => exact join_A R (.inr ⟨_, g, rfl, _, rfl⟩) W hps h1 h2
    · revert hl
      refine bindE fun q hq hl => ?_
      revert hl; refine someC fun h => ?_; subst h
      refine ex0_2 (theL_ok hq) fun h3 hr => ?_
      rw [h3] at Y
      refine ex3_3 (list_reads R.inv hr Y) fun y us m Z1 g W => ?_; subst Z1
      exact join_A R (.inl (isList_of g)) W hps h1 h2
  | split =>
    refine bindE fun x hx e => ?_
    refine ex2_3 (arg2_vr V hx) fun u w hu X Y => ?_
    subst hu
    revert e
    refine bindE fun a ha e => ?_
    rw [theS_ok ha] at X
    revert e
    refine bindE fun b hb e => ?_
    rw [theS_ok hb] at Y
    revert e; refine condE fun h1 e => ?_
    revert e; refine pairC fun h1 h2 => ?_; subst h1; subst h2
    refine ex0_2 (Bool.and_eq_true_iff.mp h1) fun h1 h2 => ?_
    revert X; refine vrStr ?_; intro _ h; subst h; revert Y; refine vrStr ?_; intro _ h; subst h
    exact split_A R h1 (by simpa using h2)
  | lpop =>
    refine bindE fun x hx e => ?_
    refine ex1_2 (arg1_vr V hx) fun u hu X => ?_
    subst hu
    revert e
    refine bindE fun q hq e => ?_
    refine ex0_2 (theK_ok hq) fun h1 hr => ?_
    rw [h1] at X
    revert e
    refine bindE fun y hy e => ?_
    revert e; refine condE fun h2 e => ?_
    cases (e)
    refine ex0_2 (Bool.and_eq_true_iff.mp h2) fun h2 h3 => ?_
    have hl : q.2.2.2 = q.2.2.2.dropLast ++ [v] := by
      refine ex1_1 (List.getLast?_eq_some_iff.mp hy) fun t ht => ?_
      rw [ht, List.dropLast_concat]
    rw [hl] at hr
    exact lpop_A (prog := prog) (w := w) (A := A) TO R hr h2 h3 X
  | llen =>
    refine bindE fun x hx e => ?_
    refine ex1_2 (arg1_vr V hx) fun u hu X => ?_
    subst hu
    revert e
    refine bindE fun q hq e => ?_
    refine ex0_2 (theK_ok hq) fun h1 hr => ?_
    rw [h1] at X
    revert e; refine condE fun h2 e => ?_
    revert e; refine pairC fun h1 h2 => ?_; subst h1; subst h2
    exact llen_A TO R hr h2 X
  | linit =>
    refine bindE fun x hx e => ?_
    refine ex1_2 (arg1_vr V hx) fun u hu X => ?_
    subst hu
    revert e
    refine bindE fun q hq e => ?_
    refine ex0_2 (theK_ok hq) fun h1 hr => ?_
    rw [h1] at X
    revert e; refine condE fun h2 e => ?_
    revert e; refine pairC fun h1 h2 => ?_; subst h1; subst h2
    refine ex0_2 (Bool.and_eq_true_iff.mp h2) fun h2 h3 => ?_
    rw [List.isEmpty_iff.mp h2] at hr
    exact linit_A TO R hr h3 X
  | reversed => exact fun e => noneE e
end
end Mine
namespace Mine
structure Ext where
  xt : IH → AE → Expr → St → Option (AV × St)
  xst : IH → AE → Stmt → St → Option (Fl × St)
  mak : IH → Addr → List AV → List AO → Option (AV × List AO)
  cl : IH → Nat → List AV → List AO → Option (AV × List AO)
  orc : IH → Addr → List AV → List AO → Option (AV × List AO)
structure ExtOk (prog : Program) (w : World) (hT : Heap) (X : Ext) : Prop where
  xt : ∀ {n ih}, IOk prog w hT (n + 3) ih → XtOk prog w hT n (X.xt ih)
  xst : ∀ {n ih}, IOk prog w hT (n + 3) ih → XsOk prog w hT n (X.xst ih)
  mak : ∀ {n : Nat} {ih : IH} {A : Around} {L : Addr} {ρ : List Addr} {s : Shared} {σ : St} {C : Addr} {args : List AV} {vs : List Value} {v : AV} {hp' : List AO}, IOk prog w hT (n + 3) ih → Cx A (n + 4) → Rel hT ρ L σ s.heap → VRs ρ s.heap args vs → X.mak ih C args σ.hp = some (v, hp') →
    Tri prog w hT A L ρ s (call (.ref C) vs) ⟨hp', σ.loc⟩ (fun ρ' h' u => VR ρ' h' v u)
  cl : ∀ {n : Nat} {ih : IH} {A : Around} {L : Addr} {ρ : List Addr} {s : Shared} {σ : St} {r : Nat} {args : List AV} {fv : Value} {vs : List Value} {v : AV} {hp' : List AO}, IOk prog w hT (n + 3) ih → Cx A (n + 4) → Rel hT ρ L σ s.heap → VR ρ s.heap (.ref r) fv → VRs ρ s.heap args vs → X.cl ih r args σ.hp = some (v, hp') →
    Tri prog w hT A L ρ s (call fv vs) ⟨hp', σ.loc⟩ (fun ρ' h' u => VR ρ' h' v u)
structure OrcOk (prog : Program) (w : World) (hT : Heap) (X : Ext) (K0 : Nat) : Prop where
  orc : ∀ {n : Nat} {ih : IH} {A : Around} {L : Addr} {ρ : List Addr} {s : Shared} {σ : St} {a : Addr} {args : List AV} {vs : List Value} {v : AV} {hp' : List AO}, K0 ≤ n → IOk prog w hT (n + 3) ih → Cx A (n + 4) → Rel hT ρ L σ s.heap → VRs ρ s.heap args vs → X.orc ih a args σ.hp = some (v, hp') →
    codeAny (model prog w) A (.call (.ref a) ⟨vs, []⟩) (RetR (Post hT L ρ s ⟨hp', σ.loc⟩ (fun ρ' h' u => VR ρ' h' v u))) s
noncomputable def fnA (T : Tab) (TC : TabC) (X : Ext) (ih : IH) (f : AV) (args : List AV) (hp : List AO) : Option (AV × List AO) := match f with
  | .fn a => match X.orc ih a args hp with
    | some r => some r
    | none => callA T ih a args hp
  | .bi b => biA TC ih b args hp
  | .cls C => X.mak ih C args hp
  | .ref r => X.cl ih r args hp
  | _ => none
noncomputable def tvA (TC : TabC) (ih : IH) (x : AV) (hp : List AO) : Option (Bool × List AO) := match truthA hp x with
  | some b => some (b, hp)
  | none => (instC x hp).bind fun C => bif hasN TC.nob C then (lenI TC ih x hp).bind fun p => some (!W.Z.eqB p.1 0, p.2) else none
noncomputable def stepB (T : Tab) (TC : TabC) (X : Ext) (ih : IH) : IH where
  ev := evB T TC ih (X.xt ih)
  tr := trB ih
  xs := fun ae => xsB (exB T TC ih (X.xst ih) ae)
  fn := fnA T TC X ih
  tv := tvA TC ih
noncomputable def ih0 : IH := ⟨fun zz zz zz => none, fun zz zz zz => none, fun zz zz zz => none, fun zz zz zz => none, fun zz zz => none⟩
noncomputable def runF (T : Tab) (TC : TabC) (X : Ext) : Nat → IH := @Nat.rec (fun zz => IH) ih0 fun zz ih => stepB T TC X ih
section
variable {prog : Program} {w : World} {hT : Heap} {n : Nat} {ih : IH} {T : Tab} {TC : TabC} {X : Ext} {K0 : Nat}
set_option tactic.hygienic true in
theorem fnA_code (O : AllOk T TC hT) (XR : OrcOk prog w hT X K0) (hn : K0 ≤ n) (I : IOk prog w hT (n + 3) ih) {A : Around} {L : Addr} {ρ : List Addr} {s : Shared} {σ : St} {hp' : List AO} {a : Addr} {v : AV} {args : List AV} {vs : List Value} (c : Cx A (n + 4)) (R : Rel hT ρ L σ s.heap) (W : VRs ρ s.heap args vs)
    (e : fnA T TC X ih (.fn a) args σ.hp = some (v, hp')) : codeAny (model prog w) A (.call (.ref a) ⟨vs, []⟩) (RetR (Post hT L ρ s ⟨hp', σ.loc⟩ (fun ρ' h' u => VR ρ' h' v u))) s := by
  unfold fnA at e
  dsimp only at e
  split at e
  · rename_i r hr
    revert e; refine pairC fun h1 h2 => ?_; subst h1; subst h2
    exact XR.orc hn I c R W hr
  · exact callA_sound O.f I c O.t.lim R W e
set_option tactic.hygienic true in
theorem step_ok (O : AllOk T TC hT) (XO : ExtOk prog w hT X) (XR : OrcOk prog w hT X K0) (hn : K0 ≤ n) (I : IOk prog w hT (n + 3) ih) : IOk prog w hT (n + 4) (stepB T TC X ih) where
  ev := fun c R Ev e => evB_sound O I c.dn (XO.xt I) R Ev e
  tr := fun c R Ev e => trB_sound I c.dn R Ev e
  xs := fun c R Ev e => xsB_sound O I c.dn (XO.xst I) R Ev e
  fnc := fun c R W e => fnA_code O XR hn I c R W e
  fn := fun {A L ρ s σ hp' f v args fv vs} c R V W e => by
    change fnA T TC X ih f args σ.hp = _ at e
    cases f with
    | fn a => revert V; refine vrFn ?_; intro h; subst h; exact wpAny_of_code (fnA_code O XR hn I c R W e)
    | bi b => revert V; refine vrBi ?_; intro h; subst h; exact biA_sound O.c I c R e W
    | cls C => revert V; refine vrCls ?_; intro h; subst h; exact XO.mak I c R W e
    | ref r => exact XO.cl I c R V W e
    | _ => exact noneE e
  tv := fun {A L ρ s σ hp' x a b} c R V e => by
    change tvA TC ih x σ.hp = _ at e
    unfold tvA at e
    split at e
    · rename_i b' hb
      revert e; refine pairC fun h1 h2 => ?_; subst h1; subst h2
      refine wpAny_mono (truthA_sound R hb V) (fun u s' hu => ?_) fun zz zz z => z
      obtain ⟨rfl, t, rfl⟩ := hu
      exact Post.same R rfl
    · revert e; refine bindE fun C hC e => ?_
      revert e; refine condE fun hb e => ?_
      revert e; refine bindE fun p hp e => ?_
      revert e; refine pairC fun h1 h2 => ?_; subst h1; subst h2
      exact truthI_sound O.c I c R hC hb hp V
theorem run_ok (O : AllOk T TC hT) (XO : ExtOk prog w hT X) (XR : OrcOk prog w hT X K0) : ∀ k : Nat, IOk prog w hT (K0 + k + 3) (runF T TC X k)
  | 0 => ⟨fun zz zz zz e => (by exact noneE e), fun zz zz zz e => (by exact noneE e), fun zz zz zz e => (by exact noneE e), fun zz zz zz zz e => (by exact noneE e), fun zz zz zz e => (by exact noneE e), fun zz zz zz e => (by exact noneE e)⟩
  | k + 1 => step_ok (n := K0 + k) O XO XR (Nat.le_add_right ..) (run_ok O XO XR k)
end
end Mine
namespace Mine
structure MkOk (K : Frag) (C fI : Addr) : Prop where
  makes : makesIn K C = true
  init : findIn K (.ref C) "__init__" = some (some (.ref fI))
  fn : typeIn K (.ref fI) = some (.type "function")
noncomputable def mkP (ih : IH) (C fI : Addr) (args : List AV) (hp : List AO) : Option (AV × List AO) :=
  (ih.fn (.fn fI) (.ref (hp.length + 1) :: args) (hp ++ [.dict [], .inst C hp.length none])).bind fun p => match p.1 with
    | .none => some (.ref (hp.length + 1), p.2)
    | _ => none
section
variable {prog : Program} {w : World} {hT : Heap} {A : Around} {L : Addr} {ρ ρ₀ : List Addr} {s s₀ : Shared} {σ σ' : St} {env : Env} {ae : AE} {v : AV} {n : Nat} {ih : IH} {T : Tab} {TC : TabC} {h h' : Heap}
theorem Rel.news (R : Rel hT ρ L σ h) {ds : List Addr} {os : List AO} (k : ∀ b o, h.get? b = some o → b ≠ L → h'.get? b = some o) (kn : ∃ f, h'.Ns L f ∧ LW ρ h σ.loc f) (nd : ds.Nodup) (hD : ∀ d ∈ ds, h.get? d = none) (len : ds.length = os.length)
    (ho : ∀ (i : Nat) (o : AO) (d : Addr), os[i]? = some o → ds[i]? = some d → OR (ρ ++ ds) h' d o) : Step [L] ρ h (ρ ++ ds) h' ∧ Rel hT (ρ ++ ds) L ⟨σ.hp ++ os, σ.loc⟩ h' := by
  have nD : ∀ d ∈ ds, d ∉ ρ := fun d hd q => by
    have := R.live q
    rw [hD d hd] at this; exact ftE this
  have tk : ∀ x o, h.get? x = some o → Imm o → h'.get? x = some o := fun x o e im => k x o e (R.immOff e im).2
  revert kn; refine fun h0 => ex1_2 h0 fun f F G => ?_; clear h0
  have pre : ρ <+: ρ ++ ds := ⟨ds, rfl⟩
  refine ⟨⟨pre, fun b o e zz n => k b o e fun q => n (by rw [q]; exact .head _), fun b e => ?_, fun a ha hn => ?_⟩, ⟨⟨?_, ?_, fun i o a e1 e2 => ?_⟩, ⟨f, F, G.mono pre tk⟩, fun b o e => ?_, fun a ha => ?_, fun q => ?_, R.above⟩⟩
  · by_cases q : b = L
    · rw [q]; exact Ns.live F
    · refine ex1_1 (Option.isSome_iff_exists.mp e) fun o e => ?_
      rw [k b o e q]; rfl
  · rcases List.mem_append.mp ha with q | q
    · exact absurd q hn
    · exact hD a q
  · simp [R.inv.len, len]
  · exact List.nodup_append.mpr ⟨R.inv.nd, nd, fun x hx y hy e => nD y hy (e ▸ hx)⟩
  · by_cases hi : i < σ.hp.length
    · rw [List.getElem?_append_left hi] at e1
      rw [List.getElem?_append_left (by rw [R.inv.len]; exact hi)] at e2
      have x := R.inv.at_ i o a e1 e2
      refine ex1_1 (Option.isSome_iff_exists.mp x.some) fun o' e' => ?_
      exact x.mono pre tk ((k a o' e' fun q => R.offL (q ▸ List.mem_of_getElem? e2)).trans e'.symm)
    · rw [List.getElem?_append_right (by omega)] at e1
      rw [List.getElem?_append_right (by rw [R.inv.len]; omega), R.inv.len] at e2
      exact ho _ o a e1 e2
  · exact k b o (R.keep b o e) fun q => absurd (Heap.lt_size e) (Nat.not_lt.mpr (q ▸ R.above))
  · rcases List.mem_append.mp ha with q | q
    · exact R.off a q
    · cases e : hT.get? a with
      | none => rfl
      | some o => have := R.keep a o e; rw [hD a q] at this; exact noneE this
  · rcases List.mem_append.mp q with q | q
    · exact R.offL q
    · have := R.liveL; rw [hD L q] at this; exact ftE this
theorem Cx.made (c : Cx A (n + 1)) (C : Addr) (rest : List Value) : Cx (A.under (.builtin "type.__call__" ⟨.ref C :: rest, []⟩)) n := by
  refine ⟨?_, ?_, c.hd⟩
  · rw [depth_under_kw]; have := c.depth; omega
  · have : (A.under (.builtin "type.__call__" ⟨.ref C :: rest, []⟩)).units ≤ A.units + 16 := by
      show A.units + (Code.cUnits (.builtin "type.__call__" ⟨.ref C :: rest, []⟩)) ≤ _
      exact Nat.add_le_add_left (Nat.le_of_ble_eq_true (by kernel_rfl)) _
    have := c.units
    omega
theorem mkP_sound (TO : TabCOk TC hT) (I : IOk prog w hT n ih) (c : Cx A (n + 1)) {C fI : Addr} (M : MkOk TC.K C fI) (R : Rel hT ρ L σ s.heap) {args : List AV} {vs : List Value} (V : VRs ρ s.heap args vs) {hp' : List AO} (e : mkP ih C fI args σ.hp = some (v, hp')) :
    Tri prog w hT A L ρ s (call (.ref C) vs) ⟨hp', σ.loc⟩ (fun ρ' h' u => VR ρ' h' v u) := by
  unfold mkP at e
  revert e; refine bindE fun p hp e => ?_
  obtain ⟨y, hp₂⟩ := p
  cases y <;> first | first | (exact noneE e) | (revert e; refine pairC fun h1 h2 => ?_; subst h1; subst h2) | skip
  refine ex1_3 R.opened fun f F N G => ?_
  refine wpAny_of_code (make_K F N (TO.inn.keeps R.keep) M.makes M.init M.fn fun x dx h' F' N' lt dl => ?_)
  have N1 := N' _ (.head _)
  have N2 := N' _ (.tail _ (.head _))
  have kk := kept_of R F' N' (fun p hp => .tail _ (.tail _ hp))
  have hdx : s.heap.get? dx = none := by
    cases z : s.heap.get? dx with
    | none => rfl
    | some o => exact absurd (lt (dx, o) (mem_allN.mpr ⟨z, N2.2.1, N2.2.2⟩)) (Nat.lt_irrefl _)
  have hx : s.heap.get? x = none := by
    cases z : s.heap.get? x with
    | none => rfl
    | some o => exact absurd (Nat.lt_trans (lt (x, o) (mem_allN.mpr ⟨z, N1.2.1, N1.2.2⟩)) dl) (Nat.lt_irrefl _)
  have len := R.inv.len
  refine ex0_2 (R.news (h' := h') (ds := [dx, x]) (os := [.dict [], .inst C σ.hp.length none]) kk ⟨f, F'.ns, G⟩ (by simp; exact Nat.ne_of_lt dl) (fun d hd => by
    rcases List.mem_cons.mp hd with rfl | hd
    · exact hdx
    · rw [List.mem_singleton.mp hd]; exact hx) rfl (fun i o d e1 e2 => by
    match i with
    | 0 => revert e1; refine someC fun h => ?_; subst h; revert e2; refine someC fun h => ?_; subst h; exact ⟨[], 0, N2.1, fun zz h => (by cases h), Nat.le_refl _, fun y => ⟨fun zz e => (by exact noneE e), fun zz => rfl⟩⟩
    | 1 => revert e1; refine someC fun h => ?_; subst h; revert e2; refine someC fun h => ?_; subst h; exact ⟨dx, by rw [← len]; simp, N1.1⟩
    | i + 2 => exact noneE e1)) fun S R' => ?_
  have X : VR (ρ ++ [dx, x]) h' (.ref (σ.hp.length + 1)) (.ref x) := .ref _ _ (by rw [← len]; simp)
  have z := I.fnc (s := { s with heap := h' }) (c.made C vs) R' (.cons _ _ _ _ X (S.vrs R V)) hp
  refine codeAny_mono z fun r s' hr => ?_
  rcases r with e | (u | _ | _ | _) <;> first | exact hr.elim | skip
  revert hr; refine fun h0 => ex1_4 h0 fun ρ₂ S₂ R₂ O₂ U => ?_; clear h0
  revert U; refine vrNone ?_; intro h; subst h
  exact ⟨rfl, ρ₂, S.trans S₂, R₂, ⟨O₂.os, O₂.gens⟩, S₂.vr R' X⟩
end
end Mine
namespace Mine
structure LMakes (M : Model) (h : Heap) (C : Addr) : Prop where
  obj : ∃ oc od cd sl, h.get? C = some ⟨oc, od, .cls cd, sl⟩ ∧ cd.abstract = false ∧ cd.hasDel = false ∧ cd.mro.isEmpty = false
  made : Looks M h (Bind.madeBy (.ref C)) (some "list.__new__")
  base : Looks M h (Bind.staticBase (.ref C)) (.ref C)
  self : Looks M h (isSubtype (.ref C) (.ref C)) true
  top : Looks M h (isSubtype (.ref C) (.type "list")) true
  call : Looks M h (specialOf (.ref C) "__call__") (some (.builtin "type.__call__"))
  typ : Looks M h (isInstance (.ref C) (.type "type")) true
theorem lnew_split : splitId "list.__new__" = some ("list", "__new__") := by decide +kernel
theorem lnew_kind : builtinKind "list.__new__" = some .builtinFn := by decide +kernel
noncomputable abbrev listInst (C dx : Addr) : Obj := ⟨.ref C, some dx, .seq #[] 0, #[]⟩
section
variable {prog : Program} {w : World} {A : Around} {h : Heap} {C : Addr} {g : Array GenState} {d : Drawn} {t : Nat} {os : OsState} {R : Result → Shared → Prop}
theorem newL {rest : List Value} (Y : LMakes (model prog w) h C) (hsig : ∃ sig, Manifest.signature? "list.__new__" = sig ∧ ∀ a rest, (match sig with | some r => Bind.checkArgs "list.__new__" r ⟨a :: rest, []⟩ | none => pure ()) = pure ())
    (hq : R (.ok (.ret (.ref (h.objs.size + 1)))) ⟨(h.push emptyDict).push (listInst C h.objs.size), g, d, t, os⟩) :
    codeAny (model prog w) A (.call (.builtin "list.__new__") ⟨.ref C :: rest, []⟩) R ⟨h, g, d, t, os⟩ := by
  obtain ⟨⟨oc, od, cd, sl, hC, e1, e2, e4⟩, made, base, self, top, call, typ⟩ := Y
  revert hsig; refine fun h0 => ex1_2 h0 fun sig hs hargs => ?_; clear h0
  refine codeAny_call_builtin_code (Code.quiet_builtin _ (by decide +kernel)) ?_
  simp only [checkBuiltinCall, lnew_kind, lnew_split, hs]
  have here : Looks (model prog w) h (Bind.madeHere "list.__new__" (.ref C)) () := base.andThen (made.andThen (Looks.of_pure (by simp only [Option.map_some, bne_self_eq_false, Bool.false_eq_true, if_false])))
  have args := hargs (.ref C) rest
  repeat (first | simp only [bne_self_eq_false, Bool.false_eq_true, if_false] | lk)
  have fin : codeAny (model prog w) A (.builtin "list.__new__" ⟨.ref C :: rest, []⟩) R ⟨h, g, d, t, os⟩ := by
    refine codeAny_builtin_stack PySem.F.entry_list_new rfl fun p st => ?_
    rw [Around.under_plainId PySem.F.plain_list_new _]
    have hown := owner_list_new
    simp only [hown]
    have ht : Looks (model prog w) h (isType (.ref C)) true := (Looks.ld hC).andThen .now
    refine wpAny_bind (ht.here ?_)
    rw [if_neg (by decide)]
    refine wpAny_bind (top.here ?_)
    rw [if_neg (by decide)]
    refine wpAny_bind (wpAny_pure ?_)
    rw [if_neg (by simp [typeHasDict])]
    unfold newDict
    refine wpAny_bind ?_
    refine wpAny_newObj_type ?_ (by simp [sizeOk])
    dsimp only
    unfold newObj
    dsimp only
    rw [if_neg (by simp)]
    show wpAny _ _ (newObjAsIs _ _ _ >>= _) _ _ _
    unfold newObjAsIs classHasDel
    have hC' : ∀ o₁ o₂, ((h.push o₁).push o₂).get? C = _ := fun o₁ o₂ => Heap.get?_push_of_some o₂ (Heap.get?_push_of_some o₁ hC)
    refine wpAny_bind (wpAny_bind (wpAny_alloc (wpAny_bind (wpAny_bind (wpAny_load (hC' _ _) (wpAny_pure ?_))))))
    rw [e2]
    refine wpAny_pure (wpAny_pure ?_)
    show R _ _
    rw [Heap.size_push]
    exact hq
  cases sig with
  | none => exact wpAny_pure fin
  | some r => exact wpAny_of_eq args fin
theorem lsig : ∃ sig, Manifest.signature? "list.__new__" = sig ∧ ∀ a rest, (match sig with | some r => Bind.checkArgs "list.__new__" r ⟨a :: rest, []⟩ | none => pure ()) = pure () :=
  ⟨_, rfl, fun a rest => by kernel_rfl⟩
theorem makeL {rest : List Value} {init : Value} (Y : LMakes (model prog w) h C) (hi : Looks (model prog w) h (typeLookup (.ref C) "__init__") (some init)) (hb : ∀ self, Looks (model prog w) h (bindSpecial init self) (init, [self]))
    (hq : codeAny (model prog w) (A.under (.builtin "type.__call__" ⟨.ref C :: rest, []⟩)) (.call init ⟨.ref (h.objs.size + 1) :: rest, []⟩) (InitBack (h.objs.size + 1) R) ⟨(h.push emptyDict).push (listInst C h.objs.size), g, d, t, os⟩) :
    codeAny (model prog w) A (.call (.ref C) ⟨rest, []⟩) R ⟨h, g, d, t, os⟩ := by
  have Y' := Y
  obtain ⟨⟨oc, od, cd, sl, hC, e1, e2, e4⟩, made, base, self, top, call, typ⟩ := Y
  refine codeAny_of_tree ?_
  show wpAny _ _ (callAny (.ref C) _) _ _ _
  refine nd_load hC ?_
  show wpAny _ _ (callAny.viaDunder (.ref C) _) _ _ _
  unfold callAny.viaDunder
  refine wpAny_bind (call.at ?_)
  dsimp only
  rw [tc_bind]
  refine wpAny_bind (wpAny_pure (wpAny_bind (wpAny_pure ?_)))
  refine wpAny_pure (a := Fin.again (.call (.builtin "type.__call__") ⟨.ref C :: rest, []⟩)) (And.intro rfl ?_)
  refine codeAny_call_builtin_at (Code.quiet_builtin _ (by decide +kernel)) entry_typeCall (check_slot tc_kind tc_split typ (tc_args _ _ _) ?_)
  unfold Builtin.«type.__call__»
  have hm : Looks (model prog w) h (mroOf (.ref C)) cd.mro := ((Looks.ld (part := none) hC).andThen .now).andThen .now
  repeat (first | simp only [e4, Bool.false_eq_true, if_false] | with_reducible refine wpAny_call ?_ | lk)
  refine newL Y' lsig ?_
  have k : ∀ b o, h.get? b = some o → ((h.push emptyDict).push (listInst C h.objs.size)).get? b = some o := fun b o e => Heap.get?_push_of_some _ (Heap.get?_push_of_some _ e)
  have hx : ((h.push emptyDict).push (listInst C h.objs.size)).get? (h.objs.size + 1) = some (listInst C h.objs.size) := by
    have := Heap.get?_push_size (h.push emptyDict) (o := listInst C h.objs.size) rfl
    rwa [Heap.size_push] at this
  have t1 : Looks (model prog w) ((h.push emptyDict).push (listInst C h.objs.size)) (typeOf (.ref (h.objs.size + 1))) (.ref C) := (Looks.ld hx).andThen .now
  have s1 := self.keeps k
  have i1 := hi.keeps k
  have b1 := (hb (.ref (h.objs.size + 1))).keeps k
  unfold isInstance callSpecial? specialOf
  repeat (first | with_reducible refine wpAny_call ?_ | lk)
  refine codeAny_mono hq fun r s' z => ?_
  rcases r with e | (v | _ | _ | _) <;> first | exact z | exact z.elim | skip
  revert z; refine fun h0 => ex0_2 h0 fun Z1 z => ?_; clear h0; subst Z1
  exact wpAny_pure (wpAny_pure z)
end
noncomputable def mkL (ih : IH) (C fI : Addr) (args : List AV) (hp : List AO) : Option (AV × List AO) :=
  (ih.fn (.fn fI) (.ref (hp.length + 1) :: args) (hp ++ [.dict [], .inst C hp.length (some [])])).bind fun p => match p.1 with
    | .none => some (.ref (hp.length + 1), p.2)
    | _ => none
structure MkLOk (K : Frag) (C fI : Addr) : Prop where
  makes : ∀ (M : Model) (h : Heap), K.In h → LMakes M h C
  init : findIn K (.ref C) "__init__" = some (some (.ref fI))
  fn : typeIn K (.ref fI) = some (.type "function")
section
variable {prog : Program} {w : World} {hT : Heap} {A : Around} {L : Addr} {ρ ρ₀ : List Addr} {s s₀ : Shared} {σ σ' : St} {v : AV} {n : Nat} {ih : IH} {TC : TabC}
theorem mkL_sound (TO : TabCOk TC hT) (I : IOk prog w hT n ih) (c : Cx A (n + 1)) {C fI : Addr} (M : MkLOk TC.K C fI) (R : Rel hT ρ L σ s.heap) {args : List AV} {vs : List Value} (V : VRs ρ s.heap args vs) {hp' : List AO} (e : mkL ih C fI args σ.hp = some (v, hp')) :
    Tri prog w hT A L ρ s (call (.ref C) vs) ⟨hp', σ.loc⟩ (fun ρ' h' u => VR ρ' h' v u) := by
  unfold mkL at e
  revert e; refine bindE fun p hp e => ?_
  obtain ⟨y, hp₂⟩ := p
  cases y <;> first | first | (exact noneE e) | (revert e; refine pairC fun h1 h2 => ?_; subst h1; subst h2) | skip
  have Kn := TO.inn.keeps R.keep
  have hi : Looks (model prog w) s.heap (typeLookup (.ref C) "__init__") (some (.ref fI)) := looks_findIn Kn M.init
  have hb : ∀ self, Looks (model prog w) s.heap (bindSpecial (.ref fI) self) (.ref fI, [self]) := fun self => bind_fn Kn self M.fn
  refine wpAny_of_code (makeL (h := s.heap) (M.makes _ _ Kn) hi hb ?_)
  have kk : ∀ b o, s.heap.get? b = some o → ((s.heap.push emptyDict).push (listInst C s.heap.objs.size)).get? b = some o := fun b o e => push_keep _ _ (push_keep b o e)
  have g0 : ((s.heap.push emptyDict).push (listInst C s.heap.objs.size)).get? s.heap.objs.size = some emptyDict := push_keep _ _ (Heap.get?_push_size _ rfl)
  have g1 : ((s.heap.push emptyDict).push (listInst C s.heap.objs.size)).get? (s.heap.objs.size + 1) = some (listInst C s.heap.objs.size) := by
    have := Heap.get?_push_size (s.heap.push emptyDict) (o := listInst C s.heap.objs.size) rfl
    rwa [Heap.size_push] at this
  refine ex1_2 R.ns fun f F G => ?_
  have len := R.inv.len
  refine ex0_2 (R.news (h' := (s.heap.push emptyDict).push (listInst C s.heap.objs.size)) (ds := [s.heap.objs.size, s.heap.objs.size + 1]) (os := [.dict [], .inst C σ.hp.length (some [])]) (fun b o e zz => kk b o e) ⟨f, F.keeps kk, G⟩ (by simp) (fun d hd => by
    rcases List.mem_cons.mp hd with rfl | hd
    · exact get_size
    · rw [List.mem_singleton.mp hd]
      cases e : s.heap.get? (s.heap.objs.size + 1) with
      | none => rfl
      | some o => exact absurd (Nat.lt_trans (Nat.lt_succ_self _) (Heap.lt_size e)) (Nat.lt_irrefl _)) rfl (fun i o d e1 e2 => by
    match i with
    | 0 => revert e1; refine someC fun h => ?_; subst h; revert e2; refine someC fun h => ?_; subst h; exact ⟨[], 0, g0, fun zz h => (by cases h), Nat.le_refl _, fun y => ⟨fun zz e => (by exact noneE e), fun zz => rfl⟩⟩
    | 1 => revert e1; refine someC fun h => ?_; subst h; revert e2; refine someC fun h => ?_; subst h; exact ⟨s.heap.objs.size, [], 0, by rw [← len]; simp, g1, .nil⟩
    | i + 2 => exact noneE e1)) fun S R' => ?_
  have X : VR (ρ ++ [s.heap.objs.size, s.heap.objs.size + 1]) ((s.heap.push emptyDict).push (listInst C s.heap.objs.size)) (.ref (σ.hp.length + 1)) (.ref (s.heap.objs.size + 1)) := .ref _ _ (by rw [← len]; simp)
  have z := I.fnc (s := { s with heap := (s.heap.push emptyDict).push (listInst C s.heap.objs.size) }) (c.made C vs) R' (.cons _ _ _ _ X (S.vrs R V)) hp
  refine codeAny_mono z fun r s' hr => ?_
  rcases r with e | (u | _ | _ | _) <;> first | exact hr.elim | skip
  revert hr; refine fun h0 => ex1_4 h0 fun ρ₂ S₂ R₂ O₂ U => ?_; clear h0
  revert U; refine vrNone ?_; intro h; subst h
  exact ⟨rfl, ρ₂, S.trans S₂, R₂, ⟨O₂.os, O₂.gens⟩, S₂.vr R' X⟩
end
end Mine
namespace Mine
noncomputable def relabN (sc : Scope) : List (Str × NameKind) → List (Str × NameKind)
  | [] => []
  | p :: r => (match p.2 with
    | .free => (match lk p.1 sc.names with
      | some .cell => (p.1, .cell)
      | _ => p)
    | _ => p) :: relabN sc r
noncomputable def relabA (sc scope : Scope) : Scope := { scope with names := relabN sc scope.names }
theorem relab_eq {env : Env} {sc : Scope} (h : env.scope = sc) (hk : sc.kind = .function) (scope : Scope) : relabel scope env = relabA sc scope := by
  unfold relabel relabA
  congr 1
  induction scope.names with
  | nil => rfl
  | cons p r ih =>
    rw [List.map_cons]
    refine List.cons_eq_cons.mpr ⟨?_, ih⟩
    obtain ⟨n, k⟩ := p
    have e : env.kindOf n = lk n sc.names := by rw [lk_eq]; show env.scope.names.lookup n = _; rw [h]
    dsimp only
    rw [e, h, hk]
    cases k <;> first | rfl | skip
    cases q : lk n sc.names with
    | none => rfl
    | some k' => cases k' <;> rfl
noncomputable def clA (cells : List (Str × Nat)) : List (Str × NameKind) → List (Str × Nat) → Option (List (Str × Nat))
  | [], acc => some acc
  | p :: r, acc => match p.2 with
    | .free => (lk p.1 cells).bind fun i => clA cells r ((p.1, i) :: acc)
    | _ => clA cells r acc
theorem closure_loop {env : Env} {ρ : List Addr} {cells : List (Str × Nat)} (C : CellR ρ cells env.cells) (f : Str × NameKind → List (Str × Addr) → Sem (ForInStep (List (Str × Addr))))
    (hf : ∀ n k acc, f (n, k) acc = if k == .free then (do let c ← cellOf env n; pure (.yield ((n, c) :: acc))) else pure (.yield acc)) :
    ∀ (names : List (Str × NameKind)) (acc : List (Str × Nat)) (acc' : List (Str × Addr)) (cs : List (Str × Nat)), CellR ρ acc acc' → clA cells names acc = some cs → ∃ cl, forIn names acc' f = (pure cl : Sem _) ∧ CellR ρ cs cl
  | [], acc, acc', cs, A, e => by revert e; refine someC fun h => ?_; subst h; exact ⟨acc', rfl, A⟩
  | (n, k) :: r, acc, acc', cs, A, e => by
    unfold clA at e
    have other : k ≠ .free → clA cells r acc = some cs → ∃ cl, forIn ((n, k) :: r) acc' f = (pure cl : Sem _) ∧ CellR ρ cs cl := fun nk e => by
      refine ex1_2 (closure_loop C f hf r acc acc' cs A e) fun cl h1 h2 => ?_
      refine ⟨cl, ?_, h2⟩
      rw [List.forIn_cons, hf, if_neg (by simpa using nk)]
      exact h1
    cases k with
    | free =>
      revert e; refine bindE fun i hi e => ?_
      refine ex1_2 (C n i hi) fun c hc hl => ?_
      have A' : CellR ρ ((n, i) :: acc) ((n, c) :: acc') := fun x j h => by
        rw [lk_cons] at h
        rw [List.lookup_cons]
        rw [sEq_beq] at h
        cases q : x == n with
        | true => rw [q] at h; revert h; refine someC fun h => ?_; subst h; exact ⟨c, hc, rfl⟩
        | false => rw [q] at h; exact A x j h
      refine ex1_2 (closure_loop C f hf r _ ((n, c) :: acc') cs A' e) fun cl h1 h2 => ?_
      refine ⟨cl, ?_, h2⟩
      have : cellOf env n = pure c := by unfold cellOf; rw [hl]
      rw [List.forIn_cons, hf, this]
      exact h1
    | _ => exact other (by simp) e
theorem closure_ok {env : Env} {ρ : List Addr} {cells cs : List (Str × Nat)} (C : CellR ρ cells env.cells) {scope : Scope} (e : clA cells scope.names [] = some cs) : ∃ cl, closureFor scope env = pure cl ∧ CellR ρ cs cl := by
  refine ex1_2 (closure_loop C (fun x s => match x with
    | (name, kind) => if kind == .free then (do let c ← cellOf env name; pure (.yield ((name, c) :: s))) else pure (.yield s)) (fun zz zz zz => rfl) scope.names [] [] cs (fun zz zz h => by exact noneE h) e) fun cl h1 h2 => ?_
  refine ⟨cl, ?_, h2⟩
  unfold closureFor
  show (forIn scope.names [] _ >>= fun s => pure s) = _
  refine (congrArg (fun m => m >>= fun s => pure s) h1).trans ?_
  rfl
end Mine
namespace Mine
noncomputable def ifsA (ih : IH) (ae : AE) : List Expr → St → Option (Bool × St)
  | [], σ => some (true, σ)
  | c :: r, σ => (ih.tr ae c σ).bind fun q => match q.1 with
    | true => ifsA ih ae r q.2
    | false => some (false, q.2)
noncomputable def compLoopA (ih : IH) (ae : AE) (acc : Nat) (x : Str) (elt : Expr) (ifs : List Expr) : Nat → IT → St → Option St
  | 0, _, _ => none
  | k + 1, it, σ => (nextA it σ.hp).bind fun r => match r with
    | none => some σ
    | some q => (storeA ae x q.1 σ).bind fun σ₁ => (ifsA ih ae ifs σ₁).bind fun b => match b.1 with
      | false => compLoopA ih ae acc x elt ifs k q.2 b.2
      | true => (ih.ev ae elt b.2).bind fun u => match u.2.hp[acc]? with
        | some (.list l) => bif lenOk l.length then compLoopA ih ae acc x elt ifs k q.2 ⟨u.2.hp.set acc (.list (l ++ [u.1])), u.2.loc⟩ else none
        | _ => none
section
variable {prog : Program} {w : World} {hT : Heap} {A : Around} {L : Addr} {ρ ρ₀ : List Addr} {s s₀ : Shared} {σ σ' : St} {env : Env} {ae : AE} {v : AV} {n : Nat} {ih : IH} {a : Addr} {x : Str} {px : Pos} {elt iter : Expr} {ifs : List Expr}
theorem ifs_false (F : Expr → Bool → Sem (ForInStep Bool)) (hF : ∀ c, F c false = pure (.yield false)) : ∀ ifs : List Expr, (forIn ifs false F : Sem Bool) = pure false
  | [] => rfl
  | c :: r => by rw [List.forIn_cons, hF]; exact ifs_false F hF r
theorem ifsA_sound (I : IOk prog w hT n ih) (c : Cx A n) : ∀ {ifs : List Expr} {ρ : List Addr} {s : Shared} {σ σ' : St} {b : Bool}, Rel hT ρ L σ s.heap → EnvR ρ L ae env → ifsA ih ae ifs σ = some (b, σ') →
    Tri prog w hT A L ρ s (forIn ifs true fun c r => if r = true then do let ok ← isTrue c env (eval c env); pure (ForInStep.yield ok) else pure (ForInStep.yield r)) σ' (fun zz zz c => c = b)
  | [], ρ, s, σ, σ', b, R, Ev, e => by revert e; refine pairC fun h1 h2 => ?_; subst h1; subst h2; exact wpAny_pure (Post.same' R rfl)
  | t :: r, ρ, s, σ, σ', b, R, Ev, e => by
    unfold ifsA at e
    revert e; refine bindE fun q hq e => ?_
    rw [List.forIn_cons]
    refine wpAny_bind ?_
    rw [if_pos rfl]
    refine wpAny_bind ((I.tr c R Ev hq).nx fun ρ₁ s₁ d S R₁ O₁ p₁ => wpAny_pure ?_)
    subst p₁
    obtain ⟨d, σ₁⟩ := q
    cases d with
    | true => exact Tri.lift S O₁ (ifsA_sound I c R₁ (Ev.mono S.pre) e)
    | false =>
      revert e; refine pairC fun h1 h2 => ?_; subst h1; subst h2
      show wpAny _ _ (forIn r false _) _ _ _
      rw [ifs_false _ (fun c => by rw [if_neg Bool.false_ne_true])]
      exact wpAny_pure (Post.mk S R₁ O₁ rfl)
noncomputable def CompEnd (hT : Heap) (L : Addr) (ρ₀ : List Addr) (s₀ : Shared) (a : Addr) (σ' : St) (s' : Shared) : Prop :=
  ∃ ρ h, Step [a, L] ρ₀ s₀.heap ρ h ∧ Rel hT ρ L σ' h ∧ Off hT ρ L h a ∧ (∀ b o, h.get? b = some o → b ≠ a → s'.heap.get? b = some o) ∧ Rel hT ρ L σ' s'.heap ∧ Ok s₀ s'
theorem ItR.off {it : IT} (X : ItR hT ρ L s.heap a it) : Off hT ρ L s.heap a := by
  cases it <;> exact X.1
set_option tactic.hygienic true in
theorem compLoopA_sound (I : IOk prog w hT n ih) (c : Cx A n) {acc k : Nat} {D : Addr} {it : IT} {scope : Scope} {pos : Pos} {E' : Value → Shared → Prop} (e : compLoopA ih ae acc x elt ifs k it σ = some σ') (hD : ρ₀[acc]? = some D) (S : Step [a, L] ρ₀ s₀.heap ρ s.heap) (R : Rel hT ρ L σ s.heap) (O : Ok s₀ s) (Ev : EnvR ρ L ae env) (X : ItR hT ρ L s.heap a it) :
    codeAny (model prog w) A (.compLoop (.ListComp elt [⟨.Name x px, iter, ifs, 0⟩] scope pos) 0 (.ref a) (.ref D) env) (fun r s' => match r with
      | .ok _ => CompEnd hT L ρ₀ s₀ a σ' s'
      | .error e => E' e s') s := by
  refine codeAny_compLoop_tests (fun k s => ∃ it σ ρ, compLoopA ih ae acc x elt ifs k it σ = some σ' ∧ Step [a, L] ρ₀ s₀.heap ρ s.heap ∧ Rel hT ρ L σ s.heap ∧ Ok s₀ s ∧ EnvR ρ L ae env ∧ ItR hT ρ L s.heap a it) ?_ k ⟨it, σ, ρ, e, S, R, O, Ev, X⟩
  clear e S R O Ev X
  rintro k s ⟨it, σ, ρ, e, S, R, O, Ev, X⟩
  cases k with
  | zero => exact noneE e
  | succ k =>
    unfold compLoopA at e
    revert e; refine bindE fun r hr e => ?_
    refine wpAny_mono (nextA_sound c.hd R X hr) (fun y s₁ hy => ?_) fun zz zz z => z.elim
    revert hy; refine fun h0 => ex0_4 h0 fun R₁ O₁ k₁ hy => ?_; clear h0
    cases r with
    | none =>
      cases y with
      | some _ => exact hy.elim
      | none =>
        revert e; refine someC fun h => ?_; subst h
        exact ⟨ρ, s.heap, S, R, X.off, k₁, R₁, O.trans O₁⟩
    | some q =>
      cases y with
      | none => exact hy.elim
      | some u =>
        revert hy; refine fun h0 => ex0_3 h0 fun lv V X₁ => ?_; clear h0
        revert e; refine bindE fun σ₁ h1 e => ?_
        revert e; refine bindE fun b h2 e => ?_
        have S₁ := S.mid (.head _) lv k₁
        refine wpAny_mono (assign_Name (storeA_sound R₁ Ev V h1)) (fun zz s₂ hg => ?_) fun zz zz z => z.elim
        revert hg; refine fun h0 => ex1_4 h0 fun ρ₂ S₂ R₂ O₂ zz => ?_; clear h0
        refine wpAny_mono (ifsA_sound I c R₂ (Ev.mono S₂.pre) h2) (fun d s₃ hg => ?_) fun zz zz z => z.elim
        revert hg; refine fun h0 => ex1_4 h0 fun ρ₃ S₃ R₃ O₃ Z1 => ?_; clear h0; subst Z1
        obtain ⟨d, σ₂⟩ := b
        have Sx : Step [a, L] ρ₀ s₀.heap ρ₃ s₃.heap := (S₁.trans (S₂.wide fun b hb => .tail _ hb)).trans (S₃.wide fun b hb => .tail _ hb)
        have Ox : Ok s₀ s₃ := ((O.trans O₁).trans O₂).trans O₃
        cases d with
        | false =>
          rw [if_neg Bool.false_ne_true]
          exact ⟨k, Nat.lt_succ_self k, q.2, σ₂, ρ₃, e, Sx, R₃, Ox, (Ev.mono S₂.pre).mono S₃.pre, (X₁.step S₂).step S₃⟩
        | true =>
          rw [if_pos rfl]
          revert e; refine bindE fun y hy e => ?_
          split at e
          · rename_i l hl
            revert e; refine condE fun hlen e => ?_
            refine wpAny_mono (I.ev c R₃ ((Ev.mono S₂.pre).mono S₃.pre) hy) (fun z s₄ hg => ?_) fun zz zz z => z.elim
            revert hg; refine postE fun ρ₄ S₄ R₄ O₄ Z => ?_
            have hD4 : ρ₄[acc]? = some D := prefix_get S₄.pre (prefix_get Sx.pre hD)
            refine wpAny_mono (append_A R₄ hl hlen (.ref _ _ hD4) Z) (fun zz s₅ hg => ?_) fun zz zz z => z.elim
            revert hg; refine fun h0 => ex1_4 h0 fun ρ₅ S₅ R₅ O₅ zz => ?_; clear h0
            exact ⟨k, Nat.lt_succ_self k, q.2, _, ρ₅, e, (Sx.trans (S₄.wide fun b hb => .tail _ hb)).trans (S₅.wide fun b hb => .tail _ hb), R₅, (Ox.trans O₄).trans O₅,
              (((Ev.mono S₂.pre).mono S₃.pre).mono S₄.pre).mono S₅.pre, (((X₁.step S₂).step S₃).step S₄).step S₅⟩
          · exact noneE e
end
end Mine
namespace Mine
noncomputable def noCell : List (Str × NameKind) → Bool
  | [] => true
  | p :: r => bif isCellK p.2 then false else noCell r
theorem noCell_ok : ∀ {l : List (Str × NameKind)}, noCell l = true → ∀ x ∈ l, x.2 ≠ .cell
  | [], _, _, h => by cases h
  | p :: r, h, x, hx => by
    unfold noCell at h
    cases q : isCellK p.2 with
    | true => rw [q] at h; exact ftE h
    | false =>
      rw [q] at h
      rcases List.mem_cons.mp hx with rfl | hx
      · intro z; rw [z] at q; exact tfE q
      · exact noCell_ok h x hx
noncomputable def locsOk (all : List (Str × NameKind)) : List (Str × NameKind) → Bool
  | [] => true
  | p :: r => (match p.2 with
    | .local => isLocK (lk p.1 all)
    | _ => true) && locsOk all r
theorem isLocK_eq {o : Option NameKind} (h : isLocK o = true) : o = some .local := by
  cases o with
  | none => exact ftE h
  | some k => cases k <;> first | rfl | exact ftE h
theorem locsOk_ok {all : List (Str × NameKind)} : ∀ {l : List (Str × NameKind)}, locsOk all l = true → ∀ x ∈ l, x.2 = .local → all.lookup x.1 = some .local
  | [], _, _, h, _ => by cases h
  | p :: r, h, x, hx, hl => by
    unfold locsOk at h
    refine ex0_2 (Bool.and_eq_true_iff.mp h) fun h1 h2 => ?_
    rcases List.mem_cons.mp hx with rfl | hx
    · rw [hl] at h1
      rw [← lk_eq]; exact isLocK_eq h1
    · exact locsOk_ok h2 x hx hl
noncomputable def isFunK : ScopeKind → Bool
  | .function => true
  | _ => false
theorem isFunK_eq {k : ScopeKind} (h : isFunK k = true) : k = .function := by cases k <;> first | rfl | exact ftE h
noncomputable def genV (l : List Comprehension) : Option (Str × Expr × List Expr) := match l with
  | [g] => (nameP g.target).bind fun n => bif W.Z.eqB g.is_async 0 then some (n.1, g.iter, g.ifs) else none
  | _ => none
theorem genV_ok {l : List Comprehension} {q : Str × Expr × List Expr} (h : genV l = some q) : ∃ px, l = [⟨.Name q.1 px, q.2.1, q.2.2, 0⟩] := by
  rcases l with _ | ⟨⟨t, it, ifs, as⟩, _ | ⟨_, _⟩⟩ <;> first | exact noneE h | skip
  revert h
  refine bindE fun n hn h => ?_
  refine ex0_2 (cond_some h) fun h1 h2 => ?_
  cases nameP_ok hn
  cases (W.Z.eqB_iff _ _).mp h1
  revert h2; refine someC fun h => ?_; subst h
  exact ⟨_, rfl⟩
noncomputable def compV (e : Expr) : Option (Expr × (Str × Expr × List Expr) × Scope) := match e with
  | .ListComp elt gens scope _ => (genV gens).bind fun g => some (elt, g, scope)
  | _ => none
theorem compV_ok {e : Expr} {q : Expr × (Str × Expr × List Expr) × Scope} (h : compV e = some q) : ∃ px pos, e = .ListComp q.1 [⟨.Name q.2.1.1 px, q.2.1.2.1, q.2.1.2.2, 0⟩] q.2.2 pos := by
  cases e <;> first | exact noneE h | skip
  revert h
  refine bindE fun g hg h => ?_
  revert h; refine someC fun h => ?_; subst h
  refine ex1_1 (genV_ok hg) fun px Z1 => ?_; subst Z1
  exact ⟨_, _, rfl⟩
noncomputable def compR (T : Tab) (ih : IH) (ae : AE) (elt : Expr) (x : Str) (iter : Expr) (ifs : List Expr) (scope : Scope) (σ : St) : Option (AV × St) := bif isSetE iter || !isFunK scope.kind || !noCell scope.names || !locsOk scope.names scope.names then none else
    (startA T ih ae iter σ).bind fun q => (clA ae.cells scope.names []).bind fun cs =>
      (compLoopA ih ⟨relabA ae.sc scope, cs, none⟩ q.2.hp.length x elt ifs 400 q.1 ⟨q.2.hp ++ [.list []], []⟩).bind fun σe => some (.ref q.2.hp.length, ⟨σe.hp, q.2.loc⟩)
noncomputable def compA (T : Tab) (ih : IH) (ae : AE) (e : Expr) (σ : St) : Option (AV × St) := (compV e).bind fun q => compR T ih ae q.1 q.2.1.1 q.2.1.2.1 q.2.1.2.2 q.2.2 σ
section
variable {prog : Program} {w : World} {hT : Heap} {A : Around} {L L' : Addr} {ρ ρ₀ ρ₁ ρ₂ : List Addr} {s s₀ : Shared} {σ σ' σ₂ : St} {env : Env} {ae : AE} {v : AV} {n : Nat} {ih : IH} {a : Addr} {x : Str} {px : Pos} {elt iter : Expr} {ifs : List Expr} {T : Tab} {TC : TabC} {h h₀ h₂ : Heap}
theorem ret_back2 (R : Rel hT ρ L σ h) (k : ∀ b o, h.get? b = some o → h₀.get? b = some o) (n' : h.get? L' = none) (Of : Off hT ρ L h a)
    (S : Step [a, L'] ρ h₀ ρ₂ h₂) (R₂ : Rel hT ρ₂ L' σ₂ h₂) : Step [a, L] ρ h ρ₂ h₂ ∧ Rel hT ρ₂ L ⟨σ₂.hp, σ.loc⟩ h₂ := by
  have kr : ∀ b, (h.get? b).isSome = true → (h₀.get? b).isSome = true := fun b e => by
    refine ex1_1 (Option.isSome_iff_exists.mp e) fun o e => ?_
    rw [k b o e]; rfl
  have S0 : Step [a, L, L'] ρ h ρ h₀ := ⟨List.prefix_refl _, fun b o e zz zz => k b o e, kr, fun zz a b => absurd a b⟩
  have S1 : Step [a, L, L'] ρ h ρ₂ h₂ := S0.trans (S.wide fun b hb => by
    rcases List.mem_cons.mp hb with rfl | hb
    · exact .head _
    · exact .tail _ (.tail _ hb))
  have St : Step [a, L] ρ h ρ₂ h₂ := S1.drop fun b hb => by
    rcases List.mem_cons.mp hb with rfl | hb
    · exact .inl (.head _)
    · rcases List.mem_cons.mp hb with rfl | hb
      · exact .inl (.tail _ (.head _))
      · rw [List.mem_singleton.mp hb]; exact .inr n'
  have hLL : (h.get? L).isSome = true := R.liveL
  have neL : L ≠ L' := fun q => by rw [q, n'] at hLL; exact ftE hLL
  have keepL : ∀ o, h.get? L = some o → h₂.get? L = some o := fun o e => S.fm L o (k _ _ e) R.offL fun q => by
    rcases List.mem_cons.mp q with q | q
    · exact Of.L q.symm
    · exact neL (List.mem_singleton.mp q)
  refine ⟨St, R₂.inv, ?_, R₂.keep, R₂.off, ?_, R.above⟩
  · refine ex1_2 R.ns fun f F G => ?_
    refine ⟨f, Ns.at F keepL, G.mono St.pre fun x o e im => ?_⟩
    by_cases q : x = a
    · subst q
      exact absurd im (Of.im o e)
    · exact St.fm x o e (R.immOff e im).1 fun q' => by
        rcases List.mem_cons.mp q' with q' | q'
        · exact q q'
        · exact (R.immOff e im).2 (List.mem_singleton.mp q')
  · intro q
    have := St.fresh L q R.offL
    rw [this] at hLL; exact ftE hLL
theorem iterSelf {s : Shared} {E : Value → Shared → Prop} {Q : Value → Shared → Prop} {it : IT} (X : ItR hT ρ L s.heap a it) (h : Q (.ref a) s) : wpAny (model prog w) A (pyIter (.ref a)) Q E s := by
  cases it with
  | lst r i => obtain ⟨_, l, _, hi⟩ := X; exact wpAny_pyIter_listiter hi h
  | rng y l st => exact wpAny_pyIter_rangeiter X.2 h
  | str l i => obtain ⟨_, t, hi⟩ := X; exact wpAny_pyIter_striter_ascii hi h
  | rev r i => obtain ⟨_, l, _, hi⟩ := X; exact wpAny_pyIter_revIter hi h
theorem comp_core {use : Option (Value → Sem Unit)} {Q : Value → Shared → Prop} {scope : Scope} {pos pos' : Pos} {q : IT × St} {cs : List (Str × Nat)} {σe : St} (O : AllOk T TC hT) (I : IOk prog w hT n ih) (c : Cx A n) (R : Rel hT ρ L σ s.heap) (Ev : EnvR ρ L ae env)
    (h1 : isSetE iter = false) (h2 : isFunK scope.kind = true) (h3 : noCell scope.names = true) (h4 : locsOk scope.names scope.names = true) (hq : startA T ih ae iter σ = some q) (hcs : clA ae.cells scope.names [] = some cs)
    (hl : compLoopA ih ⟨relabA ae.sc scope, cs, none⟩ q.2.hp.length x elt ifs 400 q.1 ⟨q.2.hp ++ [.list []], []⟩ = some σe)
    (hq' : ∀ s' f ρp D L'', Step [L] ρ s.heap ρp s'.heap → Rel hT ρp L ⟨σe.hp, q.2.loc⟩ s'.heap → Ok s s' → VR ρp s'.heap (.ref q.2.hp.length) (.ref D) → Off hT ρp L s'.heap L'' → s.heap.get? L'' = none → (∃ m, s'.heap.Ns L'' m) → compPost (model prog w) A No use Q (.ref D) L'' (.ok f) s') :
    wpAny (model prog w) A (comprehension (.ListComp elt [⟨.Name x px, iter, ifs, 0⟩] scope pos) scope env pos' (newList []) false (eval iter env) use) Q No s := by
  refine ex1_2 (closure_ok Ev.cells hcs) fun cl hclo hcr => ?_
  refine wpAny_comprehension_free (use := use) rfl (folded_plain h1) hclo (isFunK_eq h2) (locsOk_ok h4) ?_
  refine wpAny_mono (startA_sound O I c R Ev hq) (fun y s₁ hy => wpAny_mono hy (fun z s₂ hz => ?_) fun zz zz z => z) fun zz zz z => z
  obtain ⟨a, ρ₁, rfl, ha, S, R₁, O₁, It⟩ := hz
  refine (newList_A R₁ (l := []) .nil rfl).nx fun ρ₂ s₃ acc S₂ R₂ O₂ V => ?_
  cases V with
  | ref _ D hD =>
    refine wpAny_newFunctionEnv (noCell_ok h3) (fun x hx => nomatch hx) (fun h' hns hsb => ?_) (isFunK_eq h2)
    have k : ∀ b o, s₃.heap.get? b = some o → h'.get? b = some o := fun b o e => (hsb.2 b (Nat.ne_of_lt (Heap.lt_size e))).trans (push_keep b o e)
    have R₃ : Rel hT ρ₂ s₃.heap.objs.size ⟨q.2.hp ++ [.list []], []⟩ h' := R₂.enter k hns LR.nil
    have Of3 := It.off.step S₂
    have kst : ∀ {b o}, s₃.heap.get? b = some o → h'.get? b = some o := fun e => k _ _ e
    have Ofh : Off hT ρ₂ s₃.heap.objs.size h' a := by
      refine ex1_1 (Option.isSome_iff_exists.mp Of3.lv) fun o ho => ?_
      exact ⟨Of3.ρ, Nat.ne_of_lt (Heap.lt_size ho), Of3.T, fun o' e => by rw [k _ _ ho] at e; revert e; refine someC fun h => ?_; subst h; exact Of3.im o ho, by rw [k _ _ ho]; rfl⟩
    have It3 : ItR hT ρ₂ s₃.heap.objs.size h' a q.1 := by
      have z := It.step S₂
      generalize q.1 = it at z ⊢
      cases it with
      | lst r i => obtain ⟨_, l, e, o, ho, w⟩ := z; exact ⟨Ofh, l, e, o, k _ _ ho, w⟩
      | rng y l st => exact ⟨Ofh, k _ _ z.2⟩
      | str l i => obtain ⟨_, t, o, ho, w⟩ := z; exact ⟨Ofh, t, o, k _ _ ho, w⟩
      | rev r i => obtain ⟨_, l, e, o, ho, w⟩ := z; exact ⟨Ofh, l, e, o, k _ _ ho, w⟩
    have Evc : EnvR ρ₂ s₃.heap.objs.size ⟨relabA ae.sc scope, cs, none⟩ (compEnvC scope cl s₃.heap.objs.size env) := by
      refine ⟨relab_eq Ev.sc Ev.kind scope, isFunK_eq h2, rfl, Ev.gl, Ev.bl, fun x i e => ?_, fun zz zz e => by exact noneE e⟩
      refine ex1_2 (hcr x i e) fun cc c1 c2 => ?_
      exact ⟨cc, prefix_get (S.pre.trans S₂.pre) c1, c2⟩
    have fin : ∀ s' f, CompEnd hT s₃.heap.objs.size ρ₂ { s₃ with heap := h', toks := s₃.toks + ([] : List (Str × Value)).length } a σe s' → compPost (model prog w) A No use Q (.ref D) s₃.heap.objs.size (.ok f) s' := fun s' f hz => by
      obtain ⟨ρp, hp, Sp, Rp, Op, kp, Re, Oe⟩ := hz
      refine ex1_2 Re.ns fun m hm zz => ?_
      refine ex0_2 (ret_back2 R₂ k get_size Of3 Sp Rp) fun St Ro => ?_
      have Oo : Off hT ρp L hp a := ⟨Op.ρ, Of3.L, Op.T, Op.im, Op.lv⟩
      have R1 := Ro.other Oo kp
      have Sall : Step [L] ρ s.heap ρp s'.heap := ((S.trans (S₂.wide fun b hb => .tail _ hb)).trans St).ended ha kp
      have hLL := R₂.liveL
      have OL : Off hT ρp L s'.heap s₃.heap.objs.size := by
        refine ⟨Re.offL, fun z => ?_, ?_, fun o e im => Ns.noImm hm e im, Re.liveL⟩
        · rw [← z, get_size] at hLL; exact ftE hLL
        · cases e : hT.get? s₃.heap.objs.size with
          | none => rfl
          | some o => exact absurd (Heap.lt_size e) (Nat.not_lt.mpr Re.above)
      have nL : s.heap.get? s₃.heap.objs.size = none := by
        cases e : s.heap.get? s₃.heap.objs.size with
        | none => rfl
        | some o =>
          have z := S₂.live _ (S.live _ (by rw [e]; rfl))
          rw [get_size] at z; exact ftE z
      exact hq' s' f ρp D _ Sall R1 ⟨Oe.os.trans (O₂.os.trans O₁.os), fun z => Oe.gens (O₂.gens (O₁.gens z))⟩ (.ref _ _ (prefix_get St.pre hD)) OL nL ⟨m, hm⟩
    have loop := compLoopA_sound (px := px) (iter := iter) (scope := scope) (pos := pos) (E' := fun zz zz => False) (s₀ := { s₃ with heap := h', toks := s₃.toks + ([] : List (Str × Value)).length }) (s := { s₃ with heap := h', toks := s₃.toks + ([] : List (Str × Value)).length }) I c hl hD (Step.refl _ _ _) R₃ (Ok.refl _) Evc It3
    refine codeAny_compStart_list (codeAny_mono loop fun r s' z => ?_) ?_
    · cases r with
      | error _ => exact z.elim
      | ok f => exact fin s' f z
    · refine iterSelf It3 (codeAny_mono loop fun r s' z => ?_)
      cases r with
      | error _ => exact z.elim
      | ok f => exact fin s' f z
theorem comp_end {α : Type} {P : List Addr → Heap → α → Prop} {u : α} {s' : Shared} {L'' : Addr} (S : Step [L] ρ s.heap ρ₁ s'.heap) (R : Rel hT ρ₁ L σ s'.heap) (O : Ok s s') (Of : Off hT ρ₁ L s'.heap L'') (nL : s.heap.get? L'' = none) {h'' : Heap} (hs : Heap.SameBut L'' s'.heap h'') (p : P ρ₁ h'' u) : Post hT L ρ s σ P u { s' with heap := h'' } := by
  have k2 : ∀ b o, s'.heap.get? b = some o → b ≠ L'' → h''.get? b = some o := fun b o e n => (hs.2 b n).trans e
  exact (Post.mk ((S.wide (Y := [L'', L]) fun b hb => .tail _ hb).ended nL k2) (R.other Of k2) ⟨O.os, O.gens⟩ p)
theorem compR_ok {scope : Scope} (h : compR T ih ae elt x iter ifs scope σ = some (v, σ')) : isSetE iter = false ∧ isFunK scope.kind = true ∧ noCell scope.names = true ∧ locsOk scope.names scope.names = true ∧ ((startA T ih ae iter σ).bind fun q => (clA ae.cells scope.names []).bind fun cs =>
      (compLoopA ih ⟨relabA ae.sc scope, cs, none⟩ q.2.hp.length x elt ifs 400 q.1 ⟨q.2.hp ++ [.list []], []⟩).bind fun σe => some (.ref q.2.hp.length, ⟨σe.hp, q.2.loc⟩)) = some (v, σ') := by
  revert h; refine condE' fun h0 h => ?_
  simp only [Bool.or_eq_false_iff, Bool.not_eq_false'] at h0
  obtain ⟨⟨⟨h1, h2⟩, h3⟩, h4⟩ := h0
  exact ⟨h1, h2, h3, h4, h⟩
theorem compA_sound (O : AllOk T TC hT) (I : IOk prog w hT n ih) (c : Cx A n) (R : Rel hT ρ L σ s.heap) (Ev : EnvR ρ L ae env) {e : Expr} (h : compA T ih ae e σ = some (v, σ')) :
    Tri prog w hT A L ρ s (eval e env) σ' (fun ρ' h' u => VR ρ' h' v u) := by
  revert h
  refine bindE fun q0 hq0 h => ?_
  refine ex2_1 (compV_ok hq0) fun px pos Z1 => ?_; subst Z1
  clear hq0
  obtain ⟨elt, ⟨x, iter, ifs⟩, scope⟩ := q0
  · refine ex0_5 (compR_ok h) fun h1 h2 h3 h4 h => ?_
    revert h; refine bindE fun q hq h => ?_
    revert h; refine bindE fun cs hcs h => ?_
    revert h; refine bindE fun σe hl h => ?_
    revert h; refine pairC fun h1 h2 => ?_; subst h1; subst h2
    rw [eval_ListComp]
    refine comp_core (use := none) O I c R Ev h1 h2 h3 h4 hq hcs hl fun s' f ρp D L'' S R' O' V Of nL ⟨m, hm⟩ => ⟨m, hm, fun h'' hs'' => ?_⟩
    refine comp_end S R' O' Of nL hs'' ?_
    cases V with
    | ref _ _ hD => exact .ref _ _ hD
end
end Mine
namespace Mine
noncomputable def asg1 : Stmt → Option (Expr × Expr × Pos)
  | .Assign [t] v p => some (t, v, p)
  | _ => none
set_option tactic.hygienic true in
theorem asg1_ok {st : Stmt} {q : Expr × Expr × Pos} (h : asg1 st = some q) : st = .Assign [q.1] q.2.1 q.2.2 := by
  cases st <;> first | exact noneE h | skip
  rename_i ts v p
  rcases ts with _ | ⟨t, _ | ⟨_, _⟩⟩ <;> first | exact noneE h | (revert h; refine someC fun h => ?_; subst h; rfl)
noncomputable def asgComp (T : Tab) (ih : IH) (ae : AE) (st : Stmt) (σ : St) : Option (Fl × St) := (asg1 st).bind fun a => (nameP a.1).bind fun n => (compA T ih ae a.2.1 σ).bind fun q => (storeA ae n.1 q.1 q.2).bind fun σ₁ => some (.next, σ₁)
section
variable {prog : Program} {w : World} {hT : Heap} {A : Around} {L : Addr} {ρ : List Addr} {s : Shared} {σ σ' : St} {env : Env} {ae : AE} {v : AV} {n : Nat} {ih : IH} {T : Tab} {TC : TabC} {f : Fl}
theorem asgComp_sound (O : AllOk T TC hT) (I : IOk prog w hT n ih) (c : Cx A n) (R : Rel hT ρ L σ s.heap) (Ev : EnvR ρ L ae env) {st : Stmt} (h : asgComp T ih ae st σ = some (f, σ')) :
    Tri prog w hT A L ρ s (exec st env) σ' (fun ρ' h' g => FlR ρ' h' f g) := by
  revert h
  refine bindE fun a ha h => ?_
  revert h
  refine bindE fun nn hn h => ?_
  revert h
  refine bindE fun q₀ hq₀ h => ?_
  revert h
  refine bindE fun σ₁ h1 h => ?_
  cases asg1_ok ha
  obtain ⟨t, v, spos⟩ := a
  obtain ⟨y, yp⟩ := nn
  cases nameP_ok hn
  clear ha hn
  dsimp only at h1 hq₀ ⊢
  cases (h)
  have hq1 := hq₀
  revert hq1
  refine bindE fun q0 hq0 hq1 => ?_
  refine ex2_1 (compV_ok hq0) fun px pos Z1 => ?_; subst Z1
  clear hq0
  obtain ⟨elt, ⟨x, iter, ifs⟩, scope⟩ := q0
  dsimp only at hq₀ hq1 ⊢
  have hsw : ∃ b, swapsWith (.ListComp elt [⟨.Name x px, iter, ifs, 0⟩] scope pos) (some (.Name y yp)) spos.line env = pure b := ⟨_, rfl⟩
  revert hsw; refine fun h0 => ex1_1 h0 fun b hb => ?_; clear h0
  cases b with
  | false =>
    refine wpAny_Assign_Name ?_ hb
    refine (compA_sound O I c R Ev hq₀).nx fun ρ₁ s₁ u S R₁ O₁ p₁ => ?_
    refine (storeA_sound R₁ (Ev.mono S.pre) p₁ h1).nx fun ρ₂ s₂ zz S₂ R₂ O₂ zz => ?_
    exact (Post.mk (S.trans S₂) R₂ (O₁.trans O₂) trivial)
  | true =>
    obtain ⟨q₁, σq⟩ := q₀
    refine ex0_5 (compR_ok hq1) fun k1 k2 k3 k4 h => ?_
    revert h; refine bindE fun q hq h => ?_
    revert h; refine bindE fun cs hcs h => ?_
    revert h; refine bindE fun σe hl h => ?_
    cases (h)
    rw [exec_Assign_arm]
    refine wpAny_bind (wpAny_standAt ?_)
    have hb' : swapsWithSole [.Name y yp] (.ListComp elt [⟨.Name x px, iter, ifs, 0⟩] scope pos) spos.line env = pure true := hb
    rw [hb']
    refine wpAny_bind (wpAny_pure ?_)
    rw [if_pos rfl]
    refine wpAny_bind ?_
    have z : wpAny (model prog w) A (comprehension (.ListComp elt [⟨.Name x px, iter, ifs, 0⟩] scope pos) scope env (firstIterPos [⟨.Name x px, iter, ifs, 0⟩] pos) (newList []) false (eval iter env) (some fun v => assignAll v ((assignEach [.Name y yp] env).map (·.2))))
        (fun zz s' => Post hT L ρ s σ' (fun ρ' h' g => FlR ρ' h' .next g) Flow.next s') No s := by
      refine comp_core O I c R Ev k1 k2 k3 k4 hq hcs hl fun s' f ρp D L'' S R' O' V Of nL ⟨m, hm⟩ => ?_
      show wpAny _ _ (assign (.Name y yp) env (.ref D)) _ _ _
      refine wpAny_mono (assign_Name (storeA_sound R' (Ev.mono S.pre) V h1)) (fun zz s₂ hg => ?_) fun zz zz z => z.elim
      revert hg; refine fun h0 => ex1_4 h0 fun ρ₂ S₂ R₂ O₂ zz => ?_; clear h0
      refine ⟨m, Ns.at hm fun o e => Of.kept S₂ e, fun h'' hs'' => ?_⟩
      exact comp_end (P := fun ρ' h' g => FlR ρ' h' .next g) (S.trans S₂) R₂ (O'.trans O₂) (Of.step S₂) nL hs'' trivial
    rw [arm_evalThenUse_ListComp]
    exact wpAny_bind (wpAny_mono z (fun zz s' p => wpAny_pure (wpAny_pure p)) fun zz zz z => z)
end
end Mine
namespace Mine
section
variable {prog : Program} {w : World} {A : Around} {E : Value → Shared → Prop} {s : Shared} {K : Frag} {x C : Addr} {ox : Obj} {od : Option Obj} {name : Str} {M : Model}
theorem oga_bind (a : Value) (name : Str) (t : Tok) : ∃ k : Value → Builtin.ObjectAttr.Found → Sem Fin, (∀ tp g b, k tp (.bind g b) = Builtin.ObjectAttr.bindTo g b a tp) ∧ Builtin.«object.__getattribute__» ⟨[a, .str name t], []⟩ = (typeOf a >>= fun tp => Builtin.ObjectAttr.find a tp name >>= k tp) :=
  ⟨_, fun zz zz zz => rfl, rfl⟩
theorem get_methL {expr : Bool} {f : Addr} {Q : Value → Shared → Prop} (X : K.In s.heap) (I : InstAt s.heap x ox C od) (hga : findIn K (.ref C) "__getattribute__" = some (some (.builtin "list.__getattribute__"))) (hsub : subIn K (.ref C) (.type "list") = some true) (hook : findIn K (.ref C) "__getattr__" = some none)
    (hf : findObj K C od name = some (.bind (.builtin "function.__get__") (.ref f))) (ht : typeIn K (.ref f) = some (.type "function"))
    (h : Q (.ref s.heap.objs.size) { s with heap := s.heap.push (methodObj (.ref f) (.ref x)), toks := s.toks + 1 }) :
    wpAny (model prog w) A (getAttr (.ref x) name expr) Q E s := by
  obtain ⟨hp, g, d, t, os⟩ := s
  have L0 := I.type (M := model prog w)
  have L1 := looks_findIn (M := model prog w) X hga
  have L2 := looks_findIn (M := model prog w) X hook
  have L3 := looks_find (M := model prog w) X I hf
  have Ls : Looks (model prog w) hp (isInstance (.ref x) (.type "list")) true := L0.andThen (looks_subIn X hsub)
  unfold getAttr getAttrBy
  refine wpAny_bind (wpAny_mkText (wpAny_holding (wpAny_bind (L0.at (wpAny_bind (L1.at ?_))))))
  show wpAny _ _ (getAttrByItsOwn _ _ _ _ _ _) _ _ _
  refine wpAny_bind (L2.at (wpAny_bind (wpAny_attempt (wpAny_holding ?_))))
  have hcall : wpAny (model prog w) A (call (.builtin "list.__getattribute__") [.ref x, .str name t]) (fun a s' => wpAny (model prog w) A (handedOut a) Q E s') (fun zz zz => False) ⟨hp, g, d, t + 1, os⟩ := by
    refine wpAny_call (codeAny_call_builtin PySem.F.slot_list_getattribute.plain PySem.F.entry_list_ga (check_L (M := model prog w) (s := ⟨hp, g, d, t + 1, os⟩) (i := "list.__getattribute__") (n := "__getattribute__") (self := .ref x) (rest := [.str name t]) (.inl ga_kind) ga_split Ls (PySem.F.args_list_getattribute_2 _ _) ?_))
    refine ex1_2 (oga_bind (.ref x) name t) fun k hk ek => ?_
    rw [ek]
    refine wpAny_bind (L0.at (wpAny_bind (L3.at ?_)))
    rw [hk]
    show wpAny _ _ (holding [.ref f] (call (.builtin "function.__get__") [.ref f, .ref x, .ref C]) >>= ret) _ _ _
    refine wpAny_bind (wpAny_holding (wpAny_call (fn_get (s := ⟨hp, g, d, t + 1, os⟩) X ht (wpAny_pure ?_))))
    show wpAny _ _ (handedOut (.ref hp.objs.size)) _ _ _
    rw [handedOut_of rfl]; exact wpAny_pure h
  show wpAny _ _ (callGetattribute _ _ _ _) _ _ _
  unfold callGetattribute
  rw [if_neg (by simp [onTheHeap])]
  unfold boundAndCalled
  rw [PySem.F.slot_list_getattribute.bind]
  exact wpAny_bind (wpAny_pure (wpAny_mono hcall (fun a s' z => z) fun zz zz z => z.elim))
end
structure StarOk (K : Frag) (C : Addr) (name : Str) (f : Addr) : Prop where
  ga : findIn K (.ref C) "__getattribute__" = some (some (.builtin "list.__getattribute__"))
  sub : subIn K (.ref C) (.type "list") = some true
  hook : findIn K (.ref C) "__getattr__" = some none
  dict : hasDictIn K C = true
  find : findIn K (.ref C) name = some (some (.ref f))
  get : specialIn K (.ref f) "__get__" = some (some (.builtin "function.__get__"))
  takes : takesIn K (.ref f) = some false
  fn : typeIn K (.ref f) = some (.type "function")
  fnI : fnIn K f = true
  copied : copiedNames.contains name = false
theorem StarOk.found {K : Frag} {C f : Addr} {name : Str} {od : Obj} (S : StarOk K C name f) (hl : lookIn name od = some none) : findObj K C (some od) name = some (.bind (.builtin "function.__get__") (.ref f)) := by
  refine ex1_2 (any_some S.dict) fun cd hc hd => ?_
  unfold findObj
  have ho : PySem.W.ownOf cd (some od) name = some none := by unfold PySem.W.ownOf; rw [if_pos hd]; exact hl
  rw [hc, Option.bind_some, S.find, Option.bind_some]
  simp only [S.get, Option.bind_some, S.takes, ho, S.copied, Bool.false_and, Bool.false_eq_true, if_false]
noncomputable def starP : Expr → Option (Expr × Pos)
  | .Starred x p => some (x, p)
  | _ => none
theorem starP_ok {e : Expr} {q : Expr × Pos} (h : starP e = some q) : e = .Starred q.1 q.2 := by
  cases e <;> first | exact noneE h | (revert h; refine pairC fun h1 h2 => ?_; subst h1; subst h2; rfl)
noncomputable def call1 : Expr → Option (Expr × Expr × Pos)
  | .Call f [a] [] p => some (f, a, p)
  | _ => none
set_option tactic.hygienic true in
theorem call1_ok {e : Expr} {q : Expr × Expr × Pos} (h : call1 e = some q) : e = .Call q.1 [q.2.1] [] q.2.2 := by
  cases e <;> first | exact noneE h | skip
  rename_i f as ks p
  rcases as with _ | ⟨a, _ | ⟨_, _⟩⟩
  · cases ks <;> exact noneE h
  · cases ks with
    | cons _ _ => exact noneE h
    | nil => revert h; refine someC fun h => ?_; subst h; rfl
  · cases ks <;> exact noneE h
noncomputable def dictOf (hp : List AO) (x : AV) : Option (Nat × Nat × Nat × List (Str × AV)) := (theK hp x).bind fun q => (gD hp q.2.2.1).bind fun m => some (q.1, q.2.1, q.2.2.1, m)
theorem dictOf_ok {hp : List AO} {x : AV} {q : Nat × Nat × Nat × List (Str × AV)} (h : dictOf hp x = some q) : x = .ref q.1 ∧ (∃ its, hp[q.1]? = some (.inst q.2.1 q.2.2.1 (some its))) ∧ hp[q.2.2.1]? = some (.dict q.2.2.2) := by
  revert h
  refine bindE fun k hk h => ?_
  revert h
  refine bindE fun m hm h => ?_
  revert h; refine someC fun h => ?_; subst h
  exact ex0_2 (theK_ok hk) fun h1 h2 => ⟨h1, ⟨_, h2⟩, gD_ok hm⟩
noncomputable def starA (TC : TabC) (star : List ((Addr × Str) × Addr)) (ih : IH) (ae : AE) (e : Expr) (σ : St) : Option (AV × St) := (call1 e).bind fun c => (starP c.2.1).bind fun x => (attP c.1).bind fun t => bif super0 t.1 then none else
  (ih.ev ae t.1 σ).bind fun p => (dictOf p.2.hp p.1).bind fun r => match lk t.2.1 r.2.2.2 with
    | none => (atB star r.2.1 t.2.1).bind fun f => (ih.ev ae x.1 p.2).bind fun q => (theT q.1).bind fun l => bif lenOk l.length then (ih.fn (.fn f) (.ref r.1 :: l) q.2.hp).bind fun u => some (u.1, ⟨u.2, q.2.loc⟩) else none
    | some _ => none
section
variable {prog : Program} {w : World} {hT : Heap} {A : Around} {L : Addr} {ρ : List Addr} {s : Shared} {σ σ' : St} {env : Env} {ae : AE} {v : AV} {n : Nat} {ih : IH} {T : Tab} {TC : TabC} {star : List ((Addr × Str) × Addr)}
theorem zero_get (a : Addr) : ({ objs := #[] } : Heap).get? a = none := by
  cases e : ({ objs := #[] } : Heap).get? a with
  | none => rfl
  | some o => exact absurd (Heap.lt_size e) (Nat.not_lt_zero _)
theorem Rel.zero {h : Heap} (R : Rel hT ρ L σ h) : Rel { objs := #[] } ρ L σ h :=
  ⟨R.inv, R.ns, fun b o e => (by rw [zero_get] at e; exact noneE e), fun a zz => zero_get a, R.offL, Nat.zero_le _⟩
set_option tactic.hygienic true in
theorem starA_sound (TO : TabCOk TC hT) (SO : ∀ p ∈ star, StarOk TC.K p.1.1 p.1.2 p.2) (I : IOk prog w hT n ih) (c : Cx A n) (R : Rel hT ρ L σ s.heap) (Ev : EnvR ρ L ae env) {e : Expr} (h : starA TC star ih ae e σ = some (v, σ')) :
    Tri prog w hT A L ρ s (eval e env) σ' (fun ρ' h' u => VR ρ' h' v u) := by
  revert h
  refine bindE fun c0 hc0 h => ?_
  revert h
  refine bindE fun xx hx h => ?_
  revert h
  refine bindE fun tt ht h => ?_
  revert h; refine condE' fun h0 h => ?_
  revert h
  refine bindE fun p hp h => ?_
  revert h
  refine bindE fun r hr h => ?_
  split at h
  · rename_i hn
    revert h
    refine bindE fun f hf h => ?_
    revert h
    refine bindE fun q hq h => ?_
    revert h
    refine bindE fun l hl0 h => ?_
    revert h; refine condE fun hl h => ?_
    revert h
    refine bindE fun u hu h => ?_
    revert h; refine pairC fun h1 h2 => ?_; subst h1; subst h2
    rw [call1_ok hc0, starP_ok hx, attP_ok ht]
    clear hc0 hx ht
    obtain ⟨_, _, pos⟩ := c0
    obtain ⟨x, xp⟩ := xx
    obtain ⟨o, m, apos⟩ := tt
    obtain ⟨z, σ₂⟩ := q
    cases theT_ok hl0
    obtain ⟨y, σ₁⟩ := p
    obtain ⟨i, C, d, mm⟩ := r
    obtain ⟨e1, ⟨its, hi⟩, hd⟩ := dictOf_ok hr
    dsimp only at *
    subst e1
    have hl' := Nat.le_of_ble_eq_true hl
    have So := SO _ (atB_mem hf)
    rw [arm_eval_Call, attrBase_plain h0]
    refine wpAny_bind ?_
    refine (I.ev c R Ev hp).nx fun ρ₁ s₁ a S R₁ O₁ p₁ => ?_
    refine wpAny_bind (wpAny_standAt ?_)
    refine ex5_12 (inst_at R₁ hi hd p₁) fun y dx ox es k Z1 hx hdx g1 g2 g3 g4 g5 g6 k1 k2 k3 => ?_; subst Z1
    have In := instAt_of g1 g2 g3 g5 g6
    have Kn := TO.inn.keeps R₁.keep
    have form : methodCallForm ([Expr.Starred x xp].length + ([] : List Keyword).length) (backTo pos (starEach [.Starred x xp] env)) (backToKw pos (keywordEach [] env)) = false := rfl
    unfold methodCall
    rw [form]
    refine wpAny_bind (wpAny_holding ?_)
    show wpAny _ _ (getAttr (.ref y) m true >>= fun r => pure (r, [])) _ _ _
    have hlk := (k3 m).2 hn
    refine wpAny_bind (get_methL Kn In So.ga So.sub So.hook (So.found (by rw [lookIn_dict, getL_of k1]; exact congrArg some hlk)) So.fn (wpAny_pure ?_))
    dsimp only
    have e4 : (methodCallPos false o env apos pos) = pure pos := rfl
    rw [e4]
    refine wpAny_bind (wpAny_pure ?_)
    have Om := off_new R₁ (o := methodObj (.ref f) (.ref y)) rfl (notImmB rfl rfl)
    have R₂ := R₁.push (o := methodObj (.ref f) (.ref y))
    have gm : (s₁.heap.push (methodObj (.ref f) (.ref y))).get? s₁.heap.objs.size = some (methodObj (.ref f) (.ref y)) := Heap.get?_push_size _ rfl
    refine ks_call (P := fun h => MethP TC.K s₁.heap.objs.size f (.ref y) h) rfl (fun h P => keeps_M So.fnI h P) ?_
    refine ks_lone ?_
    refine (I.ev (s := { s₁ with heap := s₁.heap.push (methodObj (.ref f) (.ref y)), toks := s₁.toks + 1 }) c R₂ (Ev.mono S.pre) hq).nx fun ρ₂ s₂ b S₂ R₃ O₂ p₂ => ?_
    cases p₂ with
    | tup _ vs t m' g V =>
      have Rz := R₃.zero
      refine ex1_3 Rz.opened fun ff F N G => ?_
      have nt := (R₃.immOff g (.inl ⟨.inl rfl, fun zz zz q => (by cases q), fun zz q => (by cases q)⟩)).2
      refine star_seq F N (mem_allN.mpr ⟨g, nt, zero_get t⟩) rfl rfl (.inr rfl) rfl (by rw [List.size_toArray, ← V.length, sizeLine_eq]; omega) fun h' F' N' => ?_
      have kk := kept_of Rz F' N' (fun p hp => hp)
      have R₄ := R₃.grow kk ⟨ff, F'.ns, G⟩
      have S₄ : Step [L] ρ₂ s₂.heap ρ₂ h' := Step.grow kk (Ns.live F'.ns)
      have Om4 := (Om.step S₂).step S₄
      have gm4 : h'.get? s₁.heap.objs.size = some (methodObj (.ref f) (.ref y)) := (Om.step S₂).kept S₄ (Om.kept S₂ gm)
      refine ⟨⟨gm4, TO.inn.keeps R₄.keep⟩, ?_⟩
      have X4 : VR ρ₂ h' (.ref i) (.ref y) := .ref _ _ (prefix_get S₂.pre hx)
      have z := I.fnc (s := { s₂ with heap := h' }) c R₄ (.cons _ _ _ _ X4 (S₄.vrs R₃ V)) hu
      have z2 := wpAny_of_code (method_call (s := { s₂ with heap := h' }) gm4 z)
      refine wpAny_mono z2 (fun w s₅ hw => ?_) fun zz zz z => z
      revert hw; refine postE fun ρ₅ S₅ R₅ O₅ W5 => ?_
      exact (Post.mk (((S.trans (Step.push.trans S₂)).trans S₄).trans S₅) R₅ ⟨O₅.os.trans (O₂.os.trans O₁.os), fun q => O₅.gens (O₂.gens (O₁.gens q))⟩ W5)
  · exact noneE h
end
end Mine
namespace Mine
theorem slot_md_get : Slot "method_descriptor" "__get__" "method_descriptor.__get__" := .of (owner := "method_descriptor") (n := "__get__") (by rw [typeLookup_type, builtinLookup_eq_fast]; kernel_rfl) (by decide +kernel) (by decide +kernel) (by decide +kernel)
  (by first | exact .inl (by decide +kernel) | exact .inr (by decide +kernel)) (by rw [isSubtype_type]; kernel_rfl)
theorem entry_md_get : entryFor table "method_descriptor.__get__" = some Builtin.«method_descriptor.__get__» := entryFor_of_tree (by kernel_rfl)
theorem args_md_get (a b c : Value) : argsOk "method_descriptor.__get__" ⟨[a, b, c], []⟩ := by unfold argsOk; kernel_rfl
theorem slot_wd_get : Slot "wrapper_descriptor" "__get__" "wrapper_descriptor.__get__" := .of (owner := "wrapper_descriptor") (n := "__get__") (by rw [typeLookup_type, builtinLookup_eq_fast]; kernel_rfl) (by decide +kernel) (by decide +kernel) (by decide +kernel)
  (by first | exact .inl (by decide +kernel) | exact .inr (by decide +kernel)) (by rw [isSubtype_type]; kernel_rfl)
theorem entry_wd_get : entryFor table "wrapper_descriptor.__get__" = some Builtin.«wrapper_descriptor.__get__» := entryFor_of_tree (by kernel_rfl)
theorem args_wd_get (a b c : Value) : argsOk "wrapper_descriptor.__get__" ⟨[a, b, c], []⟩ := by unfold argsOk; kernel_rfl
theorem type_pop : typeOf (.builtin "list.pop") = pure (.type "method_descriptor") := PySem.F.type_list_pop
theorem type_init : typeOf (.builtin "list.__init__") = pure (.type "wrapper_descriptor") := by show builtinType _ = _; rw [builtinType_eq_fast]; kernel_rfl
theorem type_len : typeOf (.builtin "list.__len__") = pure (.type "wrapper_descriptor") := by show builtinType _ = _; rw [builtinType_eq_fast]; kernel_rfl
section
variable {prog : Program} {w : World} {A : Around} {E : Value → Shared → Prop} {h : Heap} {g : Array GenState} {d : Drawn} {t : Nat} {os : OsState} {x C so D : Addr} {K : Frag}
theorem own_pop : ".".intercalate ("list.pop".cutAt '.').dropLast = "list" := by decide +kernel
theorem own_len : ".".intercalate ("list.__len__".cutAt '.').dropLast = "list" := by decide +kernel
theorem own_init : ".".intercalate ("list.__init__".cutAt '.').dropLast = "list" := by decide +kernel
theorem bind_pop {Q : Value → Shared → Prop} {ox : Obj} (hx : h.get? x = some ox) (hc : ox.cls = .ref C) (ls : Looks (model prog w) h (isSubtype (.ref C) (.type "list")) true) (hq : Q (.ref h.objs.size) ⟨h.push { cls := .type "builtin_function_or_method", data := .fields #[.builtin "list.pop", .ref x] }, g, d, t, os⟩) :
    wpAny (model prog w) A (call (.builtin "method_descriptor.__get__") [.builtin "list.pop", .ref x, .ref C]) Q E ⟨h, g, d, t, os⟩ := by
  refine wpAny_call_entry slot_md_get (show (⟨h, g, d, t, os⟩ : Shared).TypeIs (.builtin "list.pop") "method_descriptor" from type_pop) entry_md_get ?_ (args_md_get _ _ _)
  obtain ⟨oc, od, oda, osl⟩ := ox
  dsimp only at hc
  subst hc
  have l0 : Looks (model prog w) h (typeOf (.ref x)) (.ref C) := (Looks.ld hx).andThen .now
  have l1 : Looks (model prog w) h (isInstance (.ref x) (.type (".".intercalate ("list.pop".cutAt '.').dropLast))) true := by rw [own_pop]; exact l0.andThen ls
  repeat lk
  exact ⟨_, rfl, hq⟩
theorem bind_len {Q : Value → Shared → Prop} {ox : Obj} (hx : h.get? x = some ox) (hc : ox.cls = .ref C) (ls : Looks (model prog w) h (isSubtype (.ref C) (.type "list")) true) (hq : Q (.ref h.objs.size) ⟨h.push { cls := .type "method-wrapper", data := .fields #[.builtin "list.__len__", .ref x] }, g, d, t, os⟩) :
    wpAny (model prog w) A (call (.builtin "wrapper_descriptor.__get__") [.builtin "list.__len__", .ref x, .ref C]) Q E ⟨h, g, d, t, os⟩ := by
  refine wpAny_call_entry slot_wd_get (show (⟨h, g, d, t, os⟩ : Shared).TypeIs (.builtin "list.__len__") "wrapper_descriptor" from type_len) entry_wd_get ?_ (args_wd_get _ _ _)
  obtain ⟨oc, od, oda, osl⟩ := ox
  dsimp only at hc
  subst hc
  have l0 : Looks (model prog w) h (typeOf (.ref x)) (.ref C) := (Looks.ld hx).andThen .now
  have l1 : Looks (model prog w) h (isInstance (.ref x) (.type (".".intercalate ("list.__len__".cutAt '.').dropLast))) true := by rw [own_len]; exact l0.andThen ls
  repeat lk
  exact ⟨_, rfl, hq⟩
theorem bind_init {Q : Value → Shared → Prop} {ox : Obj} (hx : h.get? x = some ox) (hc : ox.cls = .ref C) (ls : Looks (model prog w) h (isSubtype (.ref C) (.type "list")) true) (hq : Q (.ref h.objs.size) ⟨h.push { cls := .type "method-wrapper", data := .fields #[.builtin "list.__init__", .ref x] }, g, d, t, os⟩) :
    wpAny (model prog w) A (call (.builtin "wrapper_descriptor.__get__") [.builtin "list.__init__", .ref x, .ref C]) Q E ⟨h, g, d, t, os⟩ := by
  refine wpAny_call_entry slot_wd_get (show (⟨h, g, d, t, os⟩ : Shared).TypeIs (.builtin "list.__init__") "wrapper_descriptor" from type_init) entry_wd_get ?_ (args_wd_get _ _ _)
  obtain ⟨oc, od, oda, osl⟩ := ox
  dsimp only at hc
  subst hc
  have l0 : Looks (model prog w) h (typeOf (.ref x)) (.ref C) := (Looks.ld hx).andThen .now
  have l1 : Looks (model prog w) h (isInstance (.ref x) (.type (".".intercalate ("list.__init__".cutAt '.').dropLast))) true := by rw [own_init]; exact l0.andThen ls
  repeat lk
  exact ⟨_, rfl, hq⟩
end
end Mine
namespace Mine
section
variable {prog : Program} {w : World} {A : Around} {E : Value → Shared → Prop} {h : Heap} {g : Array GenState} {d : Drawn} {t : Nat} {os : OsState} {x C so D : Addr} {K : Frag}
theorem superGa {l₀ l : List Value} {name : Str} {tk : Tok} {id T gid : String} {Q : Fin → Shared → Prop}
    (hso : h.get? so = some (ks_superObj D x C)) (hno : Looks (model prog w) h (opaqueClassAbove (.ref C)) none)
    (hC : Looks (model prog w) h (mroOf (.ref C)) l₀) (hl : (l₀.dropWhile (· != .ref D)).drop 1 = l) (X : K.In h)
    (hf : alongIn K name l = some (some (.builtin id))) (hty : typeOf (.builtin id) = pure (.type T)) (slot : typeLookup (.type T) "__get__" = pure (some (.builtin gid))) (hxC : x ≠ C) (hn : (name == ("__class__" : Str)) = false)
    (hb : wpAny (model prog w) A (call (.builtin gid) [.builtin id, .ref x, .ref C]) (fun v s' => Q (.done (.ret v)) s') E ⟨h, g, d, t, os⟩) :
    wpAny (model prog w) A (Builtin.«super.__getattribute__» ⟨[.ref so, .str name tk], []⟩) Q E ⟨h, g, d, t, os⟩ := by
  have hne : (Value.ref x == Value.ref C) = false := by simp [hxC]
  have hdt : (ks_superObj D x C).data = .fields #[.ref D, .ref x, .ref C] := rfl
  have f0 : (#[.ref D, .ref x, .ref C] : Array Value)[0]? = some (.ref D) := rfl
  have f1 : (#[.ref D, .ref x, .ref C] : Array Value)[1]? = some (.ref x) := rfl
  have f2 : (#[.ref D, .ref x, .ref C] : Array Value)[2]? = some (.ref C) := rfl
  have k1 : Looks (model prog w) h (typeOf (.builtin id)) (.type T) := Looks.of_pure hty
  have k2 : Looks (model prog w) h (typeLookup (.type T) "__get__") (some (.builtin gid)) := Looks.of_pure slot
  unfold Builtin.«super.__getattribute__»
  repeat (first
    | (with_reducible refine wpAny_field hso hdt f0 ?_) | (with_reducible refine wpAny_field hso hdt f1 ?_) | (with_reducible refine wpAny_field hso hdt f2 ?_)
    | (with_reducible refine ks_wpAny_notOpaque hno ?_)
    | (with_reducible refine Looks.at hC ?_; rw [hl])
    | (refine ks_forIn_along X (fun zz zz => rfl) rfl ?_ hf)
    | (with_reducible refine Looks.at k1 ?_)
    | (with_reducible refine Looks.at k2 ?_)
    | (with_reducible refine wpAny_mono hb (fun v s' q => ?_) fun zz zz z => z)
    | (simp only [hn, hne, Bool.or_false, Bool.false_eq_true, if_false])
    | wp_step
    | dsimp only)
  all_goals assumption
theorem superMeth {l₀ l : List Value} {name : Str} {id T gid bt : String} {pl : Sem Bool} {Q : Value × List Value → Shared → Prop}
    (hso : h.get? so = some (ks_superObj D x C)) (hno : Looks (model prog w) h (opaqueClassAbove (.ref C)) none)
    (hC : Looks (model prog w) h (mroOf (.ref C)) l₀) (hl : (l₀.dropWhile (· != .ref D)).drop 1 = l) (X : K.In h)
    (hf : alongIn K name l = some (some (.builtin id))) (hty : typeOf (.builtin id) = pure (.type T)) (slot : typeLookup (.type T) "__get__" = pure (some (.builtin gid))) (hxC : x ≠ C) (hn : (name == ("__class__" : Str)) = false)
    (hb : ∀ (A : Around) (E : Value → Shared → Prop) (t : Nat) (Q : Value → Shared → Prop), Q (.ref h.objs.size) ⟨h.push { cls := .type bt, data := .fields #[.builtin id, .ref x] }, g, d, t, os⟩ → wpAny (model prog w) A (call (.builtin gid) [.builtin id, .ref x, .ref C]) Q E ⟨h, g, d, t, os⟩)
    (hq : Q (.ref h.objs.size, []) ⟨h.push { cls := .type bt, data := .fields #[.builtin id, .ref x] }, g, d, t + 1, os⟩) :
    wpAny (model prog w) A (getMethod (.ref so) name pl) Q E ⟨h, g, d, t, os⟩ := by
  have hlk := PySem.F.ks_slot_super_ga.lookup
  have hcan := PySem.F.ks_canon_super_ga
  have hT : ∀ t', (⟨h, g, d, t', os⟩ : Shared).TypeIs (.ref so) "super" := fun zz => ⟨_, hso, rfl⟩
  unfold getMethod
  refine wpAny_bind (wpAny_specialOf (hT _) hlk ?_)
  show wpAny _ _ (if (Manifest.canonical "super.__getattribute__" != "object.__getattribute__") = true then _ else _) _ _ _
  rw [if_pos hcan]
  unfold getAttr getAttrBy
  refine wpAny_bind (wpAny_bind (wpAny_mkText (wpAny_holding (wpAny_bind (wpAny_typeOf (hT _) (wpAny_bind (wpAny_of_eq hlk ?_)))))))
  show wpAny _ _ (getAttrByItsOwn (.ref so) (.str name t) (.type "super") (.builtin "super.__getattribute__") true false) _ _ _
  unfold getAttrByItsOwn hookBefore callGetattribute boundAndCalled
  refine wpAny_bind (wpAny_of_eq (show (if onTheHeap (.type "super") then typeLookup (.type "super") "__getattr__" else pure none) = pure none from rfl) ?_)
  refine wpAny_bind (wpAny_attempt (wpAny_holding ?_))
  show wpAny _ _ (bindSpecial (.builtin "super.__getattribute__") (.ref so) >>= _) _ _ _
  refine wpAny_bind (wpAny_of_eq (PySem.F.ks_slot_super_ga.bind _) ?_)
  refine wpAny_mono (Q := fun v s' => v = .ref h.objs.size ∧ s' = ⟨h.push { cls := .type bt, data := .fields #[.builtin id, .ref x] }, g, d, t + 1, os⟩) (E := fun zz zz => False)
    (wpAny_call_entry PySem.F.ks_slot_super_ga (hT _) PySem.F.ks_entry_super_ga (superGa hso hno hC hl X hf hty slot hxC hn (hb _ _ _ _ ⟨_, rfl, rfl, rfl⟩)) (PySem.F.ks_gaArgs_super _ _)) (fun v s' hv => ?_) fun zz zz z => z.elim
  revert hv; refine fun h0 => ex0_2 h0 fun Z1 Z2 => ?_; clear h0; subst Z1; subst Z2
  exact wpAny_pure (wpAny_pure hq)
end
end Mine
namespace Mine
noncomputable def plainA (a : Arguments) : Bool := a.posonlyargs.isEmpty && (a.vararg.isNone && (a.kwonlyargs.isEmpty && (a.kw_defaults.isEmpty && (a.kwarg.isNone && a.defaults.isEmpty))))
theorem plainA_ok {a : Arguments} (h : plainA a = true) : a = ⟨[], a.args, none, [], [], none, []⟩ := by
  obtain ⟨p, as, v, k, kd, kw, d⟩ := a
  cases p with
  | cons _ _ => exact ftE h
  | nil => cases v with
    | some _ => exact ftE h
    | none => cases k with
      | cons _ _ => exact ftE h
      | nil => cases kd with
        | cons _ _ => exact ftE h
        | nil => cases kw with
          | some _ => exact ftE h
          | none => cases d with
            | cons _ _ => exact ftE h
            | nil => rfl
noncomputable def argN (a : Arg) : Option Str := match a.annotation with
  | none => some a.arg
  | some _ => none
noncomputable def argNs : List Arg → Option (List Str)
  | [] => some []
  | a :: r => (argN a).bind fun x => (argNs r).bind fun l => some (x :: l)
theorem argNs_ok : ∀ {as : List Arg} {ps : List Str}, argNs as = some ps → ∃ qs : List Pos, qs.length = ps.length ∧ as = List.zipWith (fun x p => ⟨x, none, p⟩) ps qs
  | [], ps, h => by revert h; refine someC fun h => ?_; subst h; exact ⟨[], rfl, rfl⟩
  | a :: r, ps, h => by
    revert h
    refine bindE fun x hx h => ?_
    revert h
    refine bindE fun l hl h => ?_
    revert h; refine someC fun h => ?_; subst h
    refine ex1_2 (argNs_ok hl) fun qs h1 h2 => ?_
    obtain ⟨y, an, p⟩ := a
    cases an with
    | some _ => exact noneE hx
    | none => revert hx; refine someC fun h => ?_; subst h; exact ⟨p :: qs, congrArg Nat.succ h1, congrArg _ h2⟩
noncomputable def eqNs : List Str → List Str → Bool
  | [], [] => true
  | x :: r, y :: s => W.Fast.sEq x y && eqNs r s
  | _, _ => false
theorem eqNs_ok : ∀ {l m : List Str}, eqNs l m = true → l = m
  | [], [], _ => rfl
  | [], _ :: _, h => ftE h
  | _ :: _, [], h => ftE h
  | x :: r, y :: s, h => by
    refine ex0_2 (Bool.and_eq_true_iff.mp h) fun h1 h2 => ?_
    rw [W.Fast.sEq_iff.mp h1, eqNs_ok h2]
noncomputable def nestPars (a : Arguments) : Option (List Str) := bif plainA a then (argNs a.args).bind fun ps => bif eqNs ps [Str.ofString "L", Str.ofString "R"] then some [Str.ofString "L", Str.ofString "R"] else bif eqNs ps [Str.ofString "x", Str.ofString "L", Str.ofString "R"] then some [Str.ofString "x", Str.ofString "L", Str.ofString "R"] else none else none
theorem nestPars_ok {a : Arguments} {ps : List Str} (e : nestPars a = some ps) : a.defaults = [] ∧ a.kw_defaults = [] ∧ (∀ env, annTrees a none env = []) ∧
    ∀ (name qual : Str) (body : List Stmt) (scope : Scope) (clos : List (Str × Addr)) (doc pm cv ctv : Value) (s : Shared) (vs : List Value), vs.length = ps.length → BindsTo s (fnX name qual a body scope clos .none .none doc pm none cv ctv) ⟨vs, []⟩ (ps.zip vs) := by
  refine ex0_2 (cond_some e) fun h1 e' => ?_
  have ha := plainA_ok h1
  clear e
  revert e'
  refine bindE fun qs hq e => ?_
  refine ex1_2 (argNs_ok hq) fun pl h2 h3 => ?_
  rw [h3] at ha
  clear h3 hq h1
  subst ha
  cases k : eqNs qs [Str.ofString "L", Str.ofString "R"] with
  | true =>
    rw [k] at e
    cases eqNs_ok k
    revert e; refine someC fun h => ?_; subst h
    obtain ⟨p, q, rfl⟩ : ∃ p q, pl = [p, q] := list2 (P := fun pl => ∃ p q, pl = [p, q]) (fun p q => ⟨p, q, rfl⟩) h2
    refine ⟨rfl, rfl, fun zz => rfl, fun name qual body scope clos doc pm cv ctv s vs hl => ?_⟩
    obtain ⟨u, v, rfl⟩ : ∃ p q, vs = [p, q] := list2 (P := fun pl => ∃ p q, pl = [p, q]) (fun p q => ⟨p, q, rfl⟩) hl
    exact BindsTo.of_eq rfl
  | false =>
    rw [k] at e
    refine ex0_2 (cond_some e) fun k e' => ?_
    clear e
    cases eqNs_ok k
    revert e'; refine someC fun h => ?_; subst h
    obtain ⟨p, q, r, rfl⟩ : ∃ p q r, pl = [p, q, r] := list3 (P := fun pl => ∃ p q r, pl = [p, q, r]) (fun p q r => ⟨p, q, r, rfl⟩) h2
    refine ⟨rfl, rfl, fun zz => rfl, fun name qual body scope clos doc pm cv ctv s vs hl => ?_⟩
    obtain ⟨u, v, x, rfl⟩ : ∃ p q r, vs = [p, q, r] := list3 (P := fun pl => ∃ p q r, pl = [p, q, r]) (fun p q r => ⟨p, q, r, rfl⟩) hl
    exact BindsTo.of_eq rfl
structure NRec where
  k : Nat
  P : Addr
  q : Str
structure NestOk (hT : Heap) (fd : FuncData) (N : NRec) : Prop where
  code : ∃ c, fd.code = .ref c ∧ CodeHd hT c N.P
  glob : ∃ mg, hT.Ns mainGlobals mg ∧ hT.BuiltinsAt mg N.P
  qual : fd.qualname ++ ".<locals>." ++ Str.ofString "inner" = N.q
noncomputable def defP : Stmt → Option (Str × Arguments × List Stmt × Scope × Str × Pos)
  | .FunctionDef name params body ds ret tps scope ts nm pos => bif ds.isEmpty && (ret.isNone && (tps.isEmpty && ts.isNone)) then some (name, params, body, scope, nm, pos) else none
  | _ => none
theorem defP_ok {st : Stmt} {q : Str × Arguments × List Stmt × Scope × Str × Pos} (h : defP st = some q) : st = .FunctionDef q.1 q.2.1 q.2.2.1 [] none [] q.2.2.2.1 none q.2.2.2.2.1 q.2.2.2.2.2 := by
  cases st <;> first | exact noneE h | skip
  revert h; refine condE fun c h => ?_
  refine ex0_2 (Bool.and_eq_true_iff.mp c) fun c1 c => ?_
  refine ex0_2 (Bool.and_eq_true_iff.mp c) fun c2 c => ?_
  refine ex0_2 (Bool.and_eq_true_iff.mp c) fun c3 c4 => ?_
  rw [List.isEmpty_iff.mp c1, Option.isNone_iff_eq_none.mp c2, List.isEmpty_iff.mp c3, Option.isNone_iff_eq_none.mp c4]
  revert h; refine someC fun h => ?_; subst h; rfl
noncomputable def gTb : AO → Option (Addr × Str)
  | .tab P q => q.bind fun q => some (P, q)
  | _ => none
theorem gTb_ok {o : AO} {q : Addr × Str} (h : gTb o = some q) : o = .tab q.1 (some q.2) := by
  cases o <;> first | exact noneE h | skip
  revert h; refine bindE fun q hq h => ?_
  rw [hq]; revert h; refine someC fun h => ?_; subst h; rfl
theorem isCellK_ok {k : NameKind} (h : isCellK k = true) : k = .cell := by cases k <;> first | rfl | exact ftE h
noncomputable def defA (N : NRec) (ae : AE) (st : Stmt) (σ : St) : Option (Fl × St) := (defP st).bind fun d => bif W.Fast.sEq d.1 (Str.ofString "inner") && W.Fast.sEq d.2.2.2.2.1 d.1 then
      (nestPars d.2.1).bind fun ps => (σ.hp[N.k]?).bind fun o => (gTb o).bind fun t => (lk d.1 ae.sc.names).bind fun kd => bif isCellK kd && (Nat.beq t.1 N.P && W.Fast.sEq t.2 N.q) then
            (clA ae.cells d.2.2.2.1.names []).bind fun cs => (storeA ae d.1 (.ref σ.hp.length) ⟨σ.hp ++ [.clos ⟨ps, d.2.2.1, d.2.2.2.1⟩ cs], σ.loc⟩).bind fun σ₁ => some (.next, σ₁)
          else none
    else none
theorem triples_1 {v : Value} (h : TriplesOk [v]) : False := by cases v <;> exact h
theorem triples_2 {v w : Value} (h : TriplesOk [v, w]) : False := by cases v <;> first | exact h | (cases w <;> exact h)
theorem triples_3 {v w z : Value} {r : List Value} (h : TriplesOk (v :: w :: z :: r)) : ∃ x t y u, v = .int x t ∧ w = .int y u ∧ TriplesOk r := by
  cases v <;> first | exact h.elim | (cases w <;> first | exact h.elim | exact ⟨_, _, _, _, rfl, rfl, h⟩)
theorem iteOr {p : Prop} [Decidable p] {z a b c c' : Option Value} {Q : Prop} (h1 : b = c → a = c ∨ Q) (e : (if p then z else b) = c) : (if p then z else a) = c ∨ Q := by
  by_cases h : p
  · rw [if_pos h] at e ⊢; exact .inl e
  · rw [if_neg h] at e ⊢; exact h1 e
theorem codeAmong_or {pos : Pos} {a : Pos} {c' c : Value} : ∀ (n : Nat) (l : List Value), l.length ≤ n → TriplesOk l → codeAmong pos (l ++ [rawInt a.line, rawInt a.col, c']) = some c → codeAmong pos l = some c ∨ c = c' := by
  intro n
  induction n with
  | zero =>
    intro l hn _ e
    cases l with
    | cons _ _ => exact absurd hn (Nat.not_succ_le_zero _)
    | nil =>
      change (if _ then some c' else none) = some c at e
      split at e
      · exact .inr (Option.some.inj e).symm
      · exact noneE e
  | succ n ih =>
    intro l hn ht e
    rcases l with _ | ⟨v, _ | ⟨w, _ | ⟨z, r⟩⟩⟩
    · exact ih [] (Nat.zero_le _) ht e
    · exact (triples_1 ht).elim
    · exact (triples_2 ht).elim
    · refine ex4_3 (triples_3 ht) fun x t y u Z1 Z2 ht' => ?_; subst Z1; subst Z2
      exact iteOr (c' := none) (ih r (Nat.le_of_succ_le (Nat.le_of_succ_le (Nat.le_of_succ_le_succ hn))) ht') e
theorem set_same {α : Type} {l : List α} {i : Nat} {x : α} (e : l[i]? = some x) : l.set i x = l := by
  refine ex1_1 (List.getElem?_eq_some_iff.mp e) fun h Z1 => ?_; subst Z1
  exact List.set_getElem_self h
section
variable {prog : Program} {w : World} {hT : Heap} {A : Around} {L : Addr} {ρ ρ₀ : List Addr} {s s₀ : Shared} {σ σ' : St} {ae : AE} {v : AV} {n : Nat} {ih : IH} {T : Tab} {TC : TabC} {f : Fl} {N : NRec}
theorem defA_sound {env : Env} {fd : FuncData} (NO : NestOk hT fd N) (hcode : env.code = fd.code) (hqual : env.qual = fd.qualname ++ ".<locals>.") (R : Rel hT ρ L σ s.heap) (Ev : EnvR ρ L ae env) {st : Stmt} (e : defA N ae st σ = some (f, σ')) :
    Tri prog w hT A L ρ s (exec st env) σ' (fun ρ' h' g => FlR ρ' h' f g) := by
  · revert e; refine bindE fun d hd e => ?_
    obtain ⟨name, params, body, scope, nm, pos⟩ := d
    cases defP_ok hd
    dsimp only at e
    revert e; refine condE fun hn e => ?_
    refine ex0_2 (Bool.and_eq_true_iff.mp hn) fun hn1 hn2 => ?_
    have e1 := W.Fast.sEq_iff.mp hn1
    have e2 := W.Fast.sEq_iff.mp hn2
    subst e1; subst e2
    revert e; refine bindE fun ps hps e => ?_
    · revert e; refine bindE fun o hk e => ?_
      revert e; refine bindE fun t ht e => ?_
      obtain ⟨P, ql⟩ := t
      cases gTb_ok ht
      revert e; refine bindE fun kd hcl e => ?_
      revert e; refine condE fun hb e7 => ?_
      refine ex0_2 (Bool.and_eq_true_iff.mp hb) fun hb0 hb => ?_
      refine ex0_2 (Bool.and_eq_true_iff.mp hb) fun hb1 hb2 => ?_
      cases isCellK_ok hb0
      revert e7; refine bindE fun cs hcs e8 => ?_
      revert e8; refine bindE fun σ₁ hst e9 => ?_
      clear hb
      cases (e9)
      have e1 := Nat.eq_of_beq_eq_true hb1
      have e2 := W.Fast.sEq_iff.mp hb2
      subst e1; subst e2
      refine ex0_4 (nestPars_ok hps) fun d0 k0 a0 bind => ?_
      refine ex1_2 NO.code fun c hc C => ?_
      refine ex1_2 NO.glob fun mg hg hbi => ?_
      obtain ⟨P', hP', ep, pst, hP, ht, hcd⟩ := R.inv.get hk
      subst ep
      refine ex1_2 (closure_ok (env := env) Ev.cells hcs) fun cl hclo hcr => ?_
      have hgs := hg.keeps R.keep
      have hbs : s.heap.BuiltinsAt mg N.P := let ⟨bm, o, a1, a2, a3, a4, a5, r⟩ := hbi; ⟨bm, o, a1, a2, a3, a4, R.keep _ _ a5, r⟩
      have hgP : mainGlobals ≠ N.P := fun q => by
        revert hgs; refine fun h0 => ex3_3 h0 fun o es ep e hd zz => ?_; clear h0
        rw [q, hP] at e; revert e; refine someC fun h => ?_; subst h; cases hd
      have hq : qualnameIn env (Str.ofString "inner") (Str.ofString "inner") = N.q := by
        unfold qualnameIn
        rw [Ev.kindOf, hcl, hqual, ← NO.qual]
        rfl
      refine nestDef_K d0 k0 (a0 env) ?_
      rw [hq]
      have hPρ : N.P ∈ ρ := List.mem_of_getElem? hP'
      have fin : ∀ (h' : Heap) (tk : Tok) (cv ctv doc pm : Value), (∀ b o, s.heap.get? b = some o → b ≠ N.P → h'.get? b = some o) → OR ρ h' N.P (.tab N.P (some N.q)) → s.heap.objs.size ≤ h'.objs.size → h'.CodeRec cv N.q →
          wpAny (model prog w) A (storeName env (Str.ofString "inner") (.ref h'.objs.size)) (fun zz s'' => Post hT L ρ s σ' (fun ρ' h' g => FlR ρ' h' .next g) .next s'') No
            { s with heap := h'.push { cls := .type "function", data := .func (fnX (Str.ofString "inner") N.q params body scope cl .none .none doc pm none cv ctv) }, toks := tk } := by
        intro h' tk cv ctv doc pm hk' hor hsz hrec
        refine ex1_2 R.ns fun fl FL GL => ?_
        have FL' : h'.Ns L fl := Ns.at FL fun o e => hk' _ _ e fun q => R.offL (q ▸ hPρ)
        refine ex0_2 (R.put2 hP' (fun b o e n zz => hk' b o e n) ⟨fl, FL', fun h'' k => GL.mono (List.prefix_refl _) k⟩ hor) fun S1 R1 => ?_
        rw [set_same hk] at R1
        have R2 := Rel.new R1 (D := h'.objs.size) (o := .clos ⟨ps, body, scope⟩ cs) (h' := h'.push { cls := .type "function", data := .func (fnX (Str.ofString "inner") N.q params body scope cl .none .none doc pm none cv ctv) }) (fun b o e zz => push_keep b o e) ⟨fl, FL'.push _, by
            refine ex1_2 R1.ns fun f' F' G' => ?_
            exact GL.mono (List.prefix_refl _) fun a o e im => S1.imm R e im⟩ get_size
          ⟨_, _, Heap.get?_push_size _ rfl, rfl, rfl, rfl, rfl, rfl, rfl, hcr.mono ⟨_, rfl⟩, hrec.keeps push_keep, fun s vs hl => bind _ _ _ _ _ _ _ _ _ s vs hl⟩
        have S2 : Step [L] ρ h' (ρ ++ [h'.objs.size]) (h'.push { cls := .type "function", data := .func (fnX (Str.ofString "inner") N.q params body scope cl .none .none doc pm none cv ctv) }) :=
          Step.new (fun b o e zz => push_keep b o e) (by refine ex1_1 (Option.isSome_iff_exists.mp R1.liveL) fun o e => ?_; rw [push_keep _ _ e]; rfl) get_size
        refine (storeA_sound R2 (Ev.mono ⟨_, rfl⟩) (VR.ref _ _ (show (ρ ++ [h'.objs.size])[σ.hp.length]? = _ by rw [← R.inv.len]; exact List.getElem?_concat_length)) hst).nx fun ρ₁ s₁ a S₃ R₃ O₃ zz => ?_
        exact (Post.mk ((S1.trans S2).trans S₃) R₃ ⟨O₃.os, O₃.gens⟩ trivial)
      cases hc' : codeAmong pos pst.toList with
      | some cv =>
        refine makeFunction_hit hclo Ev.gl hgs (hcode.trans hc) (C.keeps R.keep) hP ht hc' hbs fun ctv doc h' tk hk' hsz => ?_
        exact fin h' tk cv ctv doc _ (fun b o e zz => hk' b o e) ⟨rfl, pst, hk' _ _ hP, ht, fun nm q pos c r => (hcd nm q pos c r).keeps hk'⟩ hsz ((hcd _ rfl _ _ hc').keeps hk')
      | none =>
        refine makeFunction_K hclo Ev.gl hgs (hcode.trans hc) (C.keeps R.keep) hP ht hc' hgP hbs fun c' ctv doc h' tk hx hge hlt hrec htb => ?_
        refine fin h' tk (.ref c') ctv doc _ (fun b o e n => hx b o n e) ⟨rfl, _, htb, ?_, fun nm q pos' c r => ?_⟩ (Nat.le_of_lt (Nat.lt_of_le_of_lt hge hlt)) hrec
        · have : (pst ++ #[rawInt pos.line, rawInt pos.col, Value.ref c']).toList = pst.toList ++ [rawInt pos.line, rawInt pos.col, .ref c'] := by simp
          rw [this]
          exact TriplesOk_snoc _ _ _ _ ht
        · have : (pst ++ #[rawInt pos.line, rawInt pos.col, Value.ref c']).toList = pst.toList ++ [rawInt pos.line, rawInt pos.col, .ref c'] := by simp
          rw [this] at r
          rcases codeAmong_or _ _ (Nat.le_refl _) ht r with r | rfl
          · exact CodeRec.imm (fun a o e im => hx a o (fun q => R.inv.immOff e im (q ▸ hPρ)) e) (hcd nm q pos' c r)
          · revert q; refine someC fun h => ?_; subst h; exact hrec
end
end Mine
namespace Mine
noncomputable def scOk (c : CRec) : Bool := c.scope.names.all (fun p => !isCellK p.2) && (c.pars.all (fun x => isLocK (lk x c.scope.names)) && (!c.scope.isCoroutine && (!c.scope.isGenerator && isFunK c.scope.kind)))
noncomputable def isClos : AO → Option (CRec × List (Str × Nat))
  | .clos c cs => some (c, cs)
  | _ => none
noncomputable def gCl (hp : List AO) (i : Nat) : Option (CRec × List (Str × Nat)) := (gO hp i).bind isClos
theorem gCl_ok {hp : List AO} {i : Nat} {q : CRec × List (Str × Nat)} (h : gCl hp i = some q) : hp[i]? = some (.clos q.1 q.2) := by
  revert h
  refine bindE fun o ho h => ?_
  rw [gO_eq] at ho
  cases o <;> first | exact noneE h | (revert h; refine pairC fun h1 h2 => ?_; subst h1; subst h2; exact ho)
noncomputable def cloA (ih : IH) (r : Nat) (args : List AV) (hp : List AO) : Option (AV × List AO) := (gCl hp r).bind fun c => bif scOk c.1 && Nat.beq args.length c.1.pars.length then (ih.xs ⟨c.1.scope, c.2, none⟩ c.1.body ⟨hp, (c.1.pars.zip args).reverse⟩).bind endA else none
noncomputable def cloCall (T : Tab) (ih : IH) (ae : AE) (e : Expr) (σ : St) : Option (AV × St) := (callN e).bind fun c => (nameA T ae c.1 σ).bind fun g => (theR g).bind fun r => (evsA ih ae c.2 σ).bind fun q => (gCl q.2.hp r).bind fun zz => (ih.fn (.ref r) q.1 q.2.hp).bind fun u => some (u.1, ⟨u.2, q.2.loc⟩)
noncomputable def isDefS : Stmt → Bool
  | .FunctionDef _ _ _ _ _ _ _ _ _ _ => true
  | _ => false
noncomputable def xsN (N : NRec) (ih : IH) (ae : AE) : List Stmt → St → Option (Fl × St)
  | [], σ => some (.next, σ)
  | st :: r, σ => bif isDefS st then (defA N ae st σ).bind fun p => match p.1 with
      | .next => xsN N ih ae r p.2
      | f => some (f, p.2)
    else (ih.xs ae [st] σ).bind fun p => match p.1 with
      | .next => xsN N ih ae r p.2
      | f => some (f, p.2)
noncomputable def orcN (NT : Addr → Option NRec) (T : Tab) (ih : IH) (a : Addr) (args : List AV) (hp : List AO) : Option (AV × List AO) := (NT a).bind fun N => (T.fn a).bind fun r => bif r.cellful then (bindsA r args).bind fun bs =>
    (xsN N ih (frameA r a bs hp).1 r.body (frameA r a bs hp).2).bind endA
  else none
theorem wpAny_exec_of_execs {M : Model} {A : Around} {E : Value → Shared → Prop} {s : Shared} {env : Env} {st : Stmt} {Q : Flow → Shared → Prop} (h : wpAny M A (execs [st] env) Q E s) : wpAny M A (exec st env) Q E s := fun Γ p hΓ => by
  have h1 := h Γ p hΓ
  rw [execs_cons, Sem.wp_bind'] at h1
  refine Sem.wp_mono M Γ _ (fun f p' s' h' => ?_) (fun zz zz zz h' => h') _ _ h1
  cases f <;> exact h'
theorem wpAny_execs_split {M : Model} {A : Around} {E : Value → Shared → Prop} {s : Shared} {env : Env} {st : Stmt} {r : List Stmt} {Q : Flow → Shared → Prop} (h : wpAny M A (exec st env) (fun f s' => match f with | .next => wpAny M A (execs r env) Q E s' | f => Q f s') E s) : wpAny M A (execs (st :: r) env) Q E s := fun Γ p hΓ => by
  have h1 := h Γ p hΓ
  rw [execs_cons, Sem.wp_bind']
  refine Sem.wp_mono M Γ _ (fun f p' s' h' => ?_) (fun zz zz zz h' => h') _ _ h1
  cases f <;> first | exact h' Γ p' hΓ | exact h'
section
variable {prog : Program} {w : World} {hT : Heap} {A : Around} {L : Addr} {ρ ρ₀ : List Addr} {s s₀ : Shared} {σ σ' : St} {ae : AE} {v : AV} {n : Nat} {ih : IH} {T : Tab} {TC : TabC} {f : Fl} {N : NRec}
theorem cloA_sound (I : IOk prog w hT n ih) (c : Cx A (n + 1)) (lim : hT.NoLimit) (R : Rel hT ρ L σ s.heap) {r : Nat} {args : List AV} {fv : Value} {vs : List Value} {hp' : List AO} (F : VR ρ s.heap (.ref r) fv) (V : VRs ρ s.heap args vs) (e : cloA ih r args σ.hp = some (v, hp')) :
    Tri prog w hT A L ρ s (call fv vs) ⟨hp', σ.loc⟩ (fun ρ' h' u => VR ρ' h' v u) := by
  revert e; refine bindE fun c0 hr e => ?_
  have hr := gCl_ok hr
  obtain ⟨cr, cs⟩ := c0
  dsimp only at *
  · revert e; refine condE fun hb e => ?_
    refine ex0_2 (Bool.and_eq_true_iff.mp hb) fun hs hl => ?_
    have hl := Nat.eq_of_beq_eq_true hl
    revert e; refine bindE fun p hx e => ?_
    obtain ⟨g, σ₁⟩ := p
    refine ex0_2 (endA_ok e) fun hv Z1 => ?_; subst Z1
    obtain ⟨a, ha, o, fd, ho, _, hd, s1, s2, s3, s4, hcl, hcd, hbind⟩ := R.inv.get hr
    cases F with
    | ref _ a' ha' =>
      cases ha.symm.trans ha'
      unfold scOk at hs
      refine ex0_2 (Bool.and_eq_true_iff.mp hs) fun q1 hs => ?_
      refine ex0_2 (Bool.and_eq_true_iff.mp hs) fun q2 hs => ?_
      refine ex0_2 (Bool.and_eq_true_iff.mp hs) fun q3 hs => ?_
      refine ex0_2 (Bool.and_eq_true_iff.mp hs) fun q4 q5 => ?_
      have kf : cr.scope.kind = .function := by
        unfold isFunK at q5
        split at q5
        · assumption
        · exact ftE q5
      have la := V.length
      have BT := hbind s vs (by omega)
      refine wpAny_of_code (codeAny_call_def (fd := fd) (by have := c.depth; omega) ho hd (by revert lim; refine fun h0 => ex1_2 h0 fun mc a b => ?_; clear h0; exact ⟨mc, a.keeps R.keep, b⟩) hcd s2 BT (fun x hx hc => ?_) (fun x hx => ?_) (fun h₀ hns k => ?_) (by rw [s1]; simpa using q3) (by rw [s1]; simpa using q4) (by rw [s1]; exact kf))
      · rw [s1] at hx
        have := List.all_eq_true.mp q1 x hx
        rw [hc] at this
        exact ftE this
      · have := List.all_eq_true.mp q2 x.1 (List.of_mem_zip hx).1
        rw [lk_eq] at this
        rw [s1]
        unfold isLocK at this
        split at this
        · assumption
        · exact ftE this
      · have V0 : VRs ρ h₀ args vs := V.mono (List.prefix_refl _) fun b o e zz => k b o e
        have R0 : Rel hT ρ s.heap.objs.size ⟨σ.hp, (cr.pars.zip args).reverse⟩ h₀ := by
          refine R.enter k hns ?_
          have := LR.zip (pars := cr.pars) V0 LR.nil
          rw [List.append_nil, List.append_nil] at this
          exact this
        have Ev : EnvR ρ s.heap.objs.size ⟨cr.scope, cs, none⟩ (callEnv fd s.heap.objs.size a) :=
          ⟨s1, kf, rfl, s3, s4, hcl, fun zz zz e => by exact noneE e⟩
        refine wpAny_mono (I.xs (c.deeper _) (s := { s with heap := h₀, toks := s.toks + _ }) R0 Ev hx) (fun g' s' hg => ?_) fun zz zz x => x.elim
        revert hg; refine postE fun ρ₂ S R₂ O G => ?_
        refine ex0_2 (ret_back R k get_size (List.prefix_refl _) (fun zz a b => absurd a b) S R₂) fun S' R' => ?_
        have fin : ∀ u, VR ρ₂ s'.heap v u → Post hT L ρ s ⟨σ₁.hp, σ.loc⟩ (fun ρ' h' u => VR ρ' h' v u) u s' := fun u U => (Post.mk S' R' ⟨O.os, O.gens⟩ U)
        cases g <;> cases g' <;> first | exact G.elim | skip
        · revert hv; refine someC fun h => ?_; subst h; exact fin _ .none
        · exact noneE hv
        · exact noneE hv
        · revert hv; refine someC fun h => ?_; subst h; exact fin _ G
theorem xsN_sound {env : Env} {fd : FuncData} (NO : NestOk hT fd N) (hcode : env.code = fd.code) (hqual : env.qual = fd.qualname ++ ".<locals>.") (I : IOk prog w hT n ih) (c : Cx A n) : ∀ {l : List Stmt} {ρ : List Addr} {s : Shared} {σ : St}, Rel hT ρ L σ s.heap → EnvR ρ L ae env → xsN N ih ae l σ = some (f, σ') →
    Tri prog w hT A L ρ s (execs l env) σ' (fun ρ' h' g => FlR ρ' h' f g)
  | [], ρ, s, σ, R, Ev, e => by
    revert e; refine pairC fun h1 h2 => ?_; subst h1; subst h2
    exact wpAny_pure (Post.same' R trivial)
  | st :: r, ρ, s, σ, R, Ev, e => by
    have key : ∀ {p : Fl × St}, Tri prog w hT A L ρ s (exec st env) p.2 (fun ρ' h' g => FlR ρ' h' p.1 g) → (match p.1 with | .next => xsN N ih ae r p.2 | f => some (f, p.2)) = some (f, σ') → Tri prog w hT A L ρ s (execs (st :: r) env) σ' (fun ρ' h' g => FlR ρ' h' f g) := by
      intro p hp e
      refine wpAny_execs_split (hp.nx fun ρ₁ s₁ g S R₁ O G => ?_)
      obtain ⟨pf, pσ⟩ := p
      cases pf <;> cases g <;> first | exact G.elim | skip
      · exact Tri.lift S O (xsN_sound NO hcode hqual I c R₁ (Ev.mono S.pre) e)
      · revert e; refine pairC fun h1 h2 => ?_; subst h1; subst h2; exact (Post.mk S R₁ O trivial)
      · revert e; refine pairC fun h1 h2 => ?_; subst h1; subst h2; exact (Post.mk S R₁ O trivial)
      · revert e; refine pairC fun h1 h2 => ?_; subst h1; subst h2; exact (Post.mk S R₁ O G)
    unfold xsN at e
    cases hd : isDefS st with
    | true =>
      rw [hd] at e
      revert e; refine bindE fun p hp e => ?_
      exact key (defA_sound NO hcode hqual R Ev (f := p.1) (σ' := p.2) hp) e
    | false =>
      rw [hd] at e
      revert e; refine bindE fun p hp e => ?_
      exact key (wpAny_exec_of_execs (I.xs c R Ev (f := p.1) (σ' := p.2) hp)) e
theorem orcN_sound {NT : Addr → Option NRec} (TF : TabFOk T hT) (NO : ∀ a N r, NT a = some N → T.fn a = some r → NestOk hT r.fd N) (I : IOk prog w hT n ih) (c : Cx A (n + 1)) (lim : hT.NoLimit) (R : Rel hT ρ L σ s.heap) {a : Addr} {args : List AV} {vs : List Value} (V : VRs ρ s.heap args vs) {hp' : List AO} (e : orcN NT T ih a args σ.hp = some (v, hp')) :
    codeAny (model prog w) A (.call (.ref a) ⟨vs, []⟩) (RetR (Post hT L ρ s ⟨hp', σ.loc⟩ (fun ρ' h' u => VR ρ' h' v u))) s := by
  unfold orcN at e
  revert e; refine bindE fun N hN e => ?_
  revert e; refine bindE fun r hr e => ?_
  revert e; refine condE fun hc e => ?_
  revert e; refine bindE fun bs hb e => ?_
  revert e; refine bindE fun p hx e => ?_
  obtain ⟨f, σ₁⟩ := p
  refine ex0_2 (endA_ok e) fun hv Z1 => ?_; subst Z1
  unfold frameA at hx
  rw [hc] at hx
  exact callA_cellsX c lim R (TF.fn a r hr) hc V hb (fun c' R' Ev' => xsN_sound (NO a N r hN hr) rfl rfl I c' R' Ev' hx) hv
theorem cloCall_sound {env : Env} (O : AllOk T TC hT) (I : IOk prog w hT (n + 3) ih) (c : Cx A (n + 3)) (R : Rel hT ρ L σ s.heap) (Ev : EnvR ρ L ae env) {e : Expr} (h : cloCall T ih ae e σ = some (v, σ')) :
    Tri prog w hT A L ρ s (eval e env) σ' (fun ρ' h' u => VR ρ' h' v u) := by
  revert h; refine bindE fun c0 hc0 h => ?_
  refine ex2_2 (callN_ok hc0) fun p pos e1 hs => ?_
  obtain ⟨f, es⟩ := c0
  clear hc0
  dsimp only at *
  subst e1
  · revert h; refine bindE fun g hg h => ?_
    revert h; refine bindE fun r hr0 h => ?_
    cases theR_ok hr0
    · revert h; refine bindE fun q hq h => ?_
      revert h; refine bindE fun c1 hr h => ?_
      have hr := gCl_ok hr
      · revert h; refine bindE fun u hu h => ?_
        revert h; refine pairC fun h1 h2 => ?_; subst h1; subst h2
        refine wpAny_Call_Name_kw (wpAny_Name ?_ (nameA_debug hg))
        refine (nameA_sound O.t R Ev hg).nx fun ρ₁ s₁ fv S R₁ O₁ p₁ => ?_
        refine Tri.lift S O₁ ?_
        cases p₁ with
        | ref _ a ha =>
          refine callWith_of (P := fun h => ∃ o fd, h.get? a = some o ∧ o.data = .func fd) (by rw [noStar hs]; rfl) (fun h P => ?_) ?_
          · obtain ⟨⟨oc, od, odt, osl⟩, fd, e1, e2⟩ := P
            dsimp only at e2
            subst e2
            exact ⟨.frame, .inl rfl, (Looks.ld (part := none) e1).andThen .now⟩
          · have fin : ∀ ρ₂ s₂ vs, Step [L] ρ₁ s₁.heap ρ₂ s₂.heap → Rel hT ρ₂ L q.2 s₂.heap → Ok s₁ s₂ → VRs ρ₂ s₂.heap q.1 vs →
                (∃ o fd, s₂.heap.get? a = some o ∧ o.data = .func fd) ∧ wpAny (model prog w) A (call (.ref a) ([] ++ vs) []) (Post hT L ρ₁ s₁ ⟨u.2, q.2.loc⟩ (fun ρ' h' y => VR ρ' h' u.1 y)) No s₂ := fun ρ₂ s₂ vs S₂ R₂ O₂ U => by
              have ha₂ := prefix_get S₂.pre ha
              obtain ⟨a', ha', o, fd, ho, _, hd, _⟩ := R₂.inv.get hr
              cases ha₂.symm.trans ha'
              exact ⟨⟨o, fd, ho, hd⟩, Tri.lift S₂ O₂ (I.fn c R₂ (.ref r a ha₂) U hu)⟩
            cases es with
            | nil =>
              revert hq; refine someC fun h => ?_; subst h
              exact evalArgs_kw_nil rfl (wpAny_evalAll_nil (fin ρ₁ s₁ [] (Step.refl _ _ _) R₁ (Ok.refl _) .nil))
            | cons x r' =>
              rw [List.any_cons, Bool.or_eq_false_iff] at hs
              have hE := (evsA_sound I c (pos := pos) R₁ (Ev.mono S.pre) hq).nx (fun ρ₂ s₂ vs S₂ R₂ O₂ U => fin ρ₂ s₂ vs S₂ R₂ O₂ U)
              rw [starEach_cons hs.1] at hE ⊢
              exact evalArgs_plain hE
end
end Mine
namespace Mine
section
variable {prog : Program} {w : World} {A : Around} {E : Value → Shared → Prop} {h : Heap} {g : Array GenState} {d : Drawn} {t : Nat} {os : OsState} {x C so D bo : Addr} {K : Frag}
noncomputable abbrev bndObj (bt id : String) (x : Addr) : Obj := { cls := .type bt, data := .fields #[.builtin id, .ref x] }
theorem keeps_B {bt id : String} (hb : bt = "builtin_function_or_method" ∨ bt = "method-wrapper") (h : Heap) (e : h.get? bo = some (bndObj bt id x)) : ∃ k, (k = Keeper.frame ∨ k = Keeper.machine ∨ k = Keeper.boundFrame) ∧ Looks (model prog w) h (keeperOf (.ref bo)) k := by
  refine ⟨.machine, .inr (.inl rfl), ?_⟩
  rcases hb with rfl | rfl <;> exact (Looks.ld (part := none) e).andThen .now
theorem cb_len (x : Addr) : checkBoundCall "list.__len__" ⟨[.ref x], []⟩ = pure () := by kernel_rfl
theorem cb_init (x : Addr) : checkBoundCall "list.__init__" ⟨[.ref x], []⟩ = pure () := by kernel_rfl
theorem cb_popArgs (x : Addr) : (match Manifest.signature? "list.pop" with | some sig => Bind.checkArgs "list.pop" { sig with full := s!"{"_Accumulator"}.{Bind.lastOf "list.pop"}" } ⟨[.ref x], []⟩ | none => pure ()) = pure () := by kernel_rfl
theorem va_pop : Manifest.varargsMethods.contains "list.pop" = false := by decide +kernel
theorem cb_pop {ox : Obj} {cd : ClassData} {Q : Unit → Shared → Prop} (X : K.In h) (hx : h.get? x = some ox) (hxc : ox.cls = .ref C) (hnc : ∀ c, ox.data ≠ .cls c) (hc : clsIn K C = some cd) (hq : cd.qualname.toString = "_Accumulator") (ht : typeIn K (.ref C) = some (.type "type"))
    (hm : mroIn K C (.type "module") = some false) (hQ : Q () ⟨h, g, d, t, os⟩) : wpAny (model prog w) A (checkBoundCall "list.pop" ⟨[.ref x], []⟩) Q E ⟨h, g, d, t, os⟩ := by
  have lt : Looks (model prog w) h (typeOf (.ref x)) (.ref C) := by
    obtain ⟨oc, od, oda, osl⟩ := ox
    dsimp only at hxc
    subst hxc
    exact (Looks.ld hx).andThen .now
  have lm : Looks (model prog w) h (isInstance (.ref x) (.type "module")) false := lt.andThen (looks_mroIn X hm)
  have lc : Looks (model prog w) h (typeOf (.ref C)) (.type "type") := looks_typeIn X ht
  unfold checkBoundCall
  have ea := cb_popArgs x
  cases hsig : Manifest.signature? "list.pop" with
  | none => exact wpAny_pure hQ
  | some sg =>
    rw [hsig] at ea
    dsimp only at ea
    rw [k_pop]
    dsimp only
    rw [if_neg (by decide)]
    refine wpAny_bind (lm.here ?_)
    rw [va_pop]
    simp only [Bool.or_false, Bool.false_eq_true, if_false]
    refine wpAny_bind (ks_wpAny_isType_inst hx hnc ?_)
    simp only [Bool.false_eq_true, if_false]
    refine wpAny_bind (lt.here ?_)
    dsimp only
    refine wpAny_bind ((looks_clsIn X hc).here ?_)
    refine wpAny_bind (lc.here ?_)
    rw [hq]
    rw [if_pos (by decide)]
    rw [ea]
    exact wpAny_pure hQ
theorem call_bnd {bt id : String} {b : Builtin} {R : Result → Shared → Prop} (hb : bt = "builtin_function_or_method" ∨ bt = "method-wrapper") (e : h.get? bo = some (bndObj bt id x)) (hp : plainId id = true) (he : entryFor table id = some b)
    (hc : ∀ {A : Around} {Q : Unit → Shared → Prop} {E : Value → Shared → Prop}, Q () ⟨h, g, d, t, os⟩ → wpAny (model prog w) A (checkBoundCall id ⟨[.ref x], []⟩) Q E ⟨h, g, d, t, os⟩)
    (hq : ∀ {A : Around} {E : Value → Shared → Prop}, wpAny (model prog w) A (b ⟨[.ref x], []⟩) (fun fin s' => ∃ v, fin = .done (.ret v) ∧ R (.ok (.ret v)) s') E ⟨h, g, d, t, os⟩) : codeAny (model prog w) A (.call (.ref bo) ⟨[], []⟩) R ⟨h, g, d, t, os⟩ := by
  refine codeAny_of_tree ?_
  show wpAny _ A.in1 (callAny (.ref bo) ⟨[], []⟩) _ _ _
  unfold callAny
  refine wpAny_bind (wpAny_load e ?_)
  have hne : bt ≠ "method" := by rcases hb with rfl | rfl <;> decide
  have c1 : (Value.type bt == Value.type "method" || Value.type bt == Value.type "builtin_function_or_method" || Value.type bt == Value.type "method-wrapper") = true := by rcases hb with rfl | rfl <;> decide
  have c2 : (Value.type bt != Value.type "method") = true := by rcases hb with rfl | rfl <;> decide
  simp only [c1, c2, if_true]
  refine wpAny_bind (hc ?_)
  refine wpAny_pure ⟨plainId_quiet hp _, codeAny_builtin he ?_⟩
  rw [Around.under_plainId hp _]
  refine wpAny_mono hq (fun fin s' hf => ?_) fun zz zz z => z
  revert hf; refine fun h0 => ex1_2 h0 fun v Z1 h' => ?_; clear h0; subst Z1
  exact h'
end
end Mine
namespace Mine
structure SupOk (prog : Program) (hT : Heap) (K : Frag) (C : Addr) (r : FnRec) : Prop where
  inn : K.In hT
  ks : r.fd.scope.names.lookup ("super" : Str) = some NameKind.globalImplicit
  kc : r.fd.scope.names.lookup ("__class__" : Str) = some NameKind.free
  ar : ∃ ar, (r.fd.params.posonlyargs ++ r.fd.params.args).head? = some ar ∧ ar.arg = ("self" : Str)
  self : r.fd.scope.names.lookup ("self" : Str) = some NameKind.local
  code : ∃ c oc vs file tf, r.fd.code = .ref c ∧ hT.get? c = some oc ∧ oc.data = .fields vs ∧ vs[2]? = some (.str file tf) ∧ ((prog.main.file : Str) == file) = true
  top : (prog.main.scope.names.lookup ("super" : Str)).isSome = false
  glob : GlobIs hT "super" (.type "super")
  cell : ∃ ca, r.fd.closure.lookup ("__class__" : Str) = some ca ∧ hT.IsCell ca (some (.ref C))
  cls : ∃ cd, clsIn K C = some cd ∧ cd.qualname.toString = "_Accumulator" ∧ alongIn K "pop" ((cd.mro.dropWhile (· != .ref C)).drop 1) = some (some (.builtin "list.pop")) ∧
    alongIn K "__len__" ((cd.mro.dropWhile (· != .ref C)).drop 1) = some (some (.builtin "list.__len__")) ∧ alongIn K "__init__" ((cd.mro.dropWhile (· != .ref C)).drop 1) = some (some (.builtin "list.__init__"))
  sub : mroIn K C (.ref C) = some true
  subl : mroIn K C (.type "list") = some true
  subm : mroIn K C (.type "module") = some false
  ho : nsIn K cStatics "thirdparty.any" = some none
  ty : typeIn K (.ref C) = some (.type "type")
section
variable {prog : Program} {w : World} {hT : Heap} {A : Around} {L : Addr} {ρ ρ₀ : List Addr} {s s₀ : Shared} {σ σ' : St} {ae : AE} {v : AV} {n : Nat} {ih : IH} {T : Tab} {TC : TabC} {f : Fl} {K : Frag} {C a : Addr} {r : FnRec} {E : Value → Shared → Prop}
theorem GlobIs.load {x : Str} {u : Value} (G : GlobIs hT x u) (R : Rel hT ρ L σ s.heap) {env : Env} (hg : env.globals = mainGlobals) (hb : env.builtins = builtinsNs) {Q : Value → Shared → Prop} (h : Q u s) : wpAny (model prog w) A (loadGlobal env x) Q E s := by
  revert G; refine fun h0 => ex2_3 h0 fun mg mb a b c => ?_; clear h0
  have a' := a.keeps R.keep
  have b' := b.keeps R.keep
  rcases c with c | ⟨c1, c2⟩
  · exact loadGlobal_global (hg ▸ a') c h
  · exact loadGlobal_builtin (hg ▸ a') c1 (hb ▸ b') c2 h
theorem wpAt_superCall {M : Model} {E : Value → Shared → Prop} {c : Code} {o : Expr} {name : Str} {apos pos : Pos} {env : Env} {Q : Value → Shared → Prop} (hb : Nat.beq apos.endLine pos.line = true)
    (h : PySem.wpAt M A c (attributeBase o name env (eval o env)) (fun ov s₁ => ∀ pl : Sem Bool, wpAny M A (getMethod ov name pl) (fun fx s₂ => wpAny M A (callWith pos fx.1 fx.2 (backTo pos (starEach [] env)) []) Q E s₂) E s₁) E s) :
    PySem.wpAt M A c (eval (.Call (.Attribute o name apos) [] [] pos) env) Q E s := by
  rw [arm_eval_Call]
  refine PySem.wpAt_bind (PySem.wpAt_mono h (fun ov s₁ h₁ => PySem.wpAt_of_wpAny (wpAny_bind (wpAny_standAt ?_))) fun zz zz x => x)
  unfold methodCall
  have e4 : (methodCallPos true o env apos pos) = pure pos := by
    unfold methodCallPos
    rw [if_pos (by rw [Nat.eq_of_beq_eq_true hb]; simp)]
  have form : methodCallForm (([] : List Expr).length + ([] : List Keyword).length) (backTo pos (starEach [] env)) (backToKw pos (keywordEach [] env)) = true := rfl
  rw [form]
  refine wpAny_bind (wpAny_holding ?_)
  unfold calleeOf
  simp only [if_true]
  refine wpAny_mono (h₁ _) (fun fx s₂ h₂ => ?_) fun zz zz z => z
  rw [e4]
  exact wpAny_bind (wpAny_pure h₂)
set_option tactic.hygienic true in
theorem superEval {body : List Stmt} {o : Obj} {name : Str} {id T gid bt : String} {b : Builtin} {p0 p1 apos pos : Pos} {i dd : Nat} {l : List AV} {Q : Value → Shared → Prop}
    (SO : SupOk prog hT K C r) (hat : hT.get? a = some o) (hd : o.data = .func r.fd) (hgl : r.fd.globals = mainGlobals) (hbl : r.fd.builtins = builtinsNs) (hk : r.fd.scope.kind = .function) (R : Rel hT ρ L σ s.heap) (hself : lk ("self" : Str) σ.loc = some (.ref i)) (hi : σ.hp[i]? = some (.inst C dd (some l)))
    (hbt : bt = "builtin_function_or_method" ∨ bt = "method-wrapper") (hp : plainId id = true) (he : entryFor table id = some b)
    (al : ∃ cd, clsIn K C = some cd ∧ alongIn K name ((cd.mro.dropWhile (· != .ref C)).drop 1) = some (some (.builtin id))) (hty : typeOf (.builtin id) = pure (.type T)) (slot : typeLookup (.type T) "__get__" = pure (some (.builtin gid)))
    (hn : (name == ("__class__" : Str)) = false) (hpos : Nat.beq apos.endLine pos.line = true)
    (hbind : ∀ {A : Around} {E : Value → Shared → Prop} {h : Heap} {g : Array GenState} {d : Drawn} {t : Nat} {os : OsState} {x : Addr} {Q : Value → Shared → Prop} {ox : Obj}, h.get? x = some ox → ox.cls = .ref C → Looks (model prog w) h (isSubtype (.ref C) (.type "list")) true →
      Q (.ref h.objs.size) ⟨h.push (bndObj bt id x), g, d, t, os⟩ → wpAny (model prog w) A (call (.builtin gid) [.builtin id, .ref x, .ref C]) Q E ⟨h, g, d, t, os⟩)
    (hchk : ∀ {A : Around} {E : Value → Shared → Prop} {h : Heap} {g : Array GenState} {d : Drawn} {t : Nat} {os : OsState} {x : Addr} {Q : Unit → Shared → Prop} {ox : Obj}, K.In h → h.get? x = some ox → ox.cls = .ref C → (∀ c, ox.data ≠ .cls c) → Q () ⟨h, g, d, t, os⟩ → wpAny (model prog w) A (checkBoundCall id ⟨[.ref x], []⟩) Q E ⟨h, g, d, t, os⟩)
    (hQ : ∀ (s₂ : Shared) (x : Addr) {A : Around} {E : Value → Shared → Prop}, ρ[i]? = some x → Step [L] ρ s.heap ρ s₂.heap → Rel hT ρ L σ s₂.heap → Ok s s₂ → wpAny (model prog w) A (b ⟨[.ref x], []⟩) (fun fin s' => ∃ v, fin = .done (.ret v) ∧ Q v s') E s₂) :
    PySem.wpAt (model prog w) A (.func body (callEnv r.fd L a)) (eval (.Call (.Attribute (.Call (.Name "super" p0) [] [] p1) name apos) [] [] pos) (callEnv r.fd L a)) Q No s := by
  refine ex1_2 SO.ar fun ar har hself' => ?_
  refine ex5_5 SO.code fun cc oc vs file tf c1 c2 c3 c4 c5 => ?_
  refine ex1_2 SO.cell fun ca ca1 ca2 => ?_
  revert al; refine fun h0 => ex1_2 h0 fun cd cd1 cd2 => ?_; clear h0
  have X : K.In s.heap := SO.inn.keeps R.keep
  refine ex1_2 R.ns fun fL FL GL => ?_
  refine ex1_2 (GL _ _ hself) fun u hu Vu => ?_
  refine ex5_6 (instL_at R hi Vu) fun x dx od ws m Z1 hx hdx g Wv In => ?_; subst Z1
  obtain ⟨oD, hD1, hD2⟩ : ∃ oD, s.heap.get? C = some oD ∧ oD.data = .cls cd := by
    unfold clsIn at cd1
    split at cd1
    · rename_i c d cd' sl ho
      revert cd1; refine someC fun h => ?_; subst h
      exact ⟨_, X _ _ ho, rfl⟩
    · exact noneE cd1
  have hnc : ∀ c, (⟨.ref C, some dx, .seq ws.toArray m, #[]⟩ : Obj).data ≠ .cls c := fun c e => by cases e
  have hxC : x ≠ C := by rintro rfl; rw [g] at hD1; revert hD1; refine someC fun h => ?_; subst h; cases hD2
  obtain ⟨hh, gg, dr, tk, os⟩ := s
  refine wpAt_superCall hpos ?_
  refine ks_wpAt_super_base (env := callEnv r.fd L a) SO.ks SO.kc hn rfl (R.keep _ _ hat) hd har c1 (R.keep _ _ c2) c3 c4 c5 SO.top ?_
  refine ks_loadName_global hk SO.ks (SO.glob.load (env := callEnv r.fd L a) R hgl hbl ⟨rfl, ?_⟩)
  refine wpAny_loadName_free hk SO.kc ca1 (let ⟨o, p, q⟩ := ca2; ⟨o, R.keep _ _ p, q⟩) ?_
  rw [hself']
  refine wpAny_loadName_local hk SO.self FL hu ?_
  refine ks_wpAny_isType_cls hD1 hD2 ⟨rfl, ?_⟩
  refine ks_wpAny_call_super hD1 hD2 g rfl hnc (looks_mroIn X SO.sub) (fun h' e k => ?_)
  have hx' := k _ _ g
  have X' : K.In h' := X.keeps k
  have ls : Looks (model prog w) h' (isSubtype (.ref C) (.type "list")) true := looks_mroIn X' SO.subl
  intro pl
  refine superMeth e (looks_opaque X' SO.ho) (l₀ := cd.mro) (fun A Q E s k q => wpAny_bind ((looks_clsIn X' cd1) A _ E s k (wpAny_pure q))) rfl X' cd2 hty slot hxC hn (fun A E t Q hq => hbind hx' rfl ls hq) ?_
  have eb : (h'.push (bndObj bt id x)).get? h'.objs.size = some (bndObj bt id x) := Heap.get?_push_size _ rfl
  have k2 : ∀ b o, hh.get? b = some o → (h'.push (bndObj bt id x)).get? b = some o := fun b o e => push_keep _ _ (k b o e)
  refine callWith_of (P := fun h => h.get? h'.objs.size = some (bndObj bt id x)) rfl (fun h e => keeps_B hbt h e) (evalArgs_nil3 ⟨eb, ?_⟩)
  refine wpAny_call (call_bnd hbt eb hp he (fun hq => hchk (X'.keeps push_keep) (push_keep _ _ hx') rfl hnc hq) fun {A E} => ?_)
  have R2 : Rel hT ρ L σ (h'.push (bndObj bt id x)) := R.grow (fun b o e zz => k2 b o e) ⟨fL, FL.keeps k2, GL⟩
  have S2 : Step [L] ρ hh ρ (h'.push (bndObj bt id x)) := Step.grow (fun b o e zz => k2 b o e) (by refine ex1_1 (Option.isSome_iff_exists.mp R.liveL) fun o e => ?_; rw [k2 _ _ e]; rfl)
  refine wpAny_mono (hQ ⟨h'.push (bndObj bt id x), gg, dr, tk + 1, os⟩ x hx S2 R2 ⟨rfl, fun z => z⟩ (A := A) (E := E)) (fun fin s' hf => ?_) fun zz zz z => z
  exact hf
end
end Mine
namespace Mine
noncomputable def call0 : Expr → Option (Expr × Pos)
  | .Call f [] [] p => some (f, p)
  | _ => none
set_option tactic.hygienic true in
theorem call0_ok {e : Expr} {q : Expr × Pos} (h : call0 e = some q) : e = .Call q.1 [] [] q.2 := by
  cases e <;> first | exact noneE h | skip
  rename_i f as ks p
  cases as with
  | cons _ _ => cases ks <;> exact noneE h
  | nil => cases ks with
    | cons _ _ => exact noneE h
    | nil => revert h; refine pairC fun h1 h2 => ?_; subst h1; subst h2; rfl
noncomputable def retE : Stmt → Option (Bool × Expr)
  | .Return (some e) _ => some (true, e)
  | .Expr e _ => some (false, e)
  | _ => none
set_option tactic.hygienic true in
theorem retE_ok {st : Stmt} {q : Bool × Expr} (h : retE st = some q) : ∃ rp, (q.1 = true ∧ st = .Return (some q.2) rp) ∨ (q.1 = false ∧ st = .Expr q.2 rp) := by
  cases st <;> first | exact noneE h | skip
  · rename_i e p
    cases e with
    | none => exact noneE h
    | some e => revert h; refine someC fun h => ?_; subst h; exact ⟨p, .inl ⟨rfl, rfl⟩⟩
  · rename_i e p
    revert h; refine someC fun h => ?_; subst h
    exact ⟨p, .inr ⟨rfl, rfl⟩⟩
noncomputable def supE (e : Expr) : Option Str := (call0 e).bind fun c => (attP c.1).bind fun t => (call0 t.1).bind fun d => (nameP d.1).bind fun n => bif W.Fast.sEq n.1 (Str.ofString "super") && Nat.beq t.2.2.endLine c.2.line then some t.2.1 else none
theorem supE_ok {e : Expr} {name : Str} (h : supE e = some name) : ∃ p0 p1 apos pos : Pos, Nat.beq apos.endLine pos.line = true ∧ e = .Call (.Attribute (.Call (.Name "super" p0) [] [] p1) name apos) [] [] pos := by
  revert h
  refine bindE fun c hc h => ?_
  revert h
  refine bindE fun t ht h => ?_
  revert h
  refine bindE fun d hd h => ?_
  revert h
  refine bindE fun n hn h => ?_
  refine ex0_2 (cond_some h) fun h1 h2 => ?_
  refine ex0_2 (Bool.and_eq_true_iff.mp h1) fun h3 h4 => ?_
  rw [call0_ok hc, attP_ok ht, call0_ok hd, nameP_ok hn, W.Fast.sEq_iff.mp h3, Option.some.inj h2]
  exact ⟨_, _, _, _, h4, rfl⟩
noncomputable def superSt (st : Stmt) : Option (Bool × BI) := (retE st).bind fun q => (supE q.2).bind fun name => bif q.1 then bif W.Fast.sEq name (Str.ofString "pop") then some (q.1, .lpop) else bif W.Fast.sEq name (Str.ofString "__len__") then some (q.1, .llen) else none
  else bif W.Fast.sEq name (Str.ofString "__init__") then some (q.1, .linit) else none
noncomputable def superR (C : Addr) (b : BI) (σ : St) : Option (AV × List AO) := match lk (Str.ofString "self") σ.loc with
  | some (.ref i) => match σ.hp[i]? with
    | some (.inst C' d (some l)) => bif Nat.beq C' C then (match b with
      | .llen => some (.int l.length, σ.hp)
      | .linit => match l with
        | [] => some (.none, σ.hp)
        | _ => none
      | .lpop => match l.getLast? with
        | some y => bif lenOk l.length then some (y, σ.hp.set i (.inst C d (some l.dropLast))) else none
        | none => none
      | _ => none) else none
    | _ => none
  | _ => none
noncomputable def xsS (C : Addr) (ih : IH) (ae : AE) : List Stmt → St → Option (Fl × St)
  | [], σ => some (.next, σ)
  | st :: r, σ => match superSt st with
    | some q => (superR C q.2 σ).bind fun u => match q.1 with
      | true => some (.ret u.1, ⟨u.2, σ.loc⟩)
      | false => xsS C ih ae r ⟨u.2, σ.loc⟩
    | none => (ih.xs ae [st] σ).bind fun p => match p.1 with
      | .next => xsS C ih ae r p.2
      | f => some (f, p.2)
noncomputable def orcS (SN : Addr → Option Addr) (T : Tab) (ih : IH) (a : Addr) (args : List AV) (hp : List AO) : Option (AV × List AO) := (SN a).bind fun C => (T.fn a).bind fun r => bif !r.cellful then (bindsA r args).bind fun bs =>
    (xsS C ih ⟨r.scope, [], some (a, r.fd)⟩ r.body ⟨hp, bs.reverse⟩).bind endA
  else none
section
variable {prog : Program} {w : World} {hT : Heap} {A : Around} {L : Addr} {ρ ρ₀ : List Addr} {s s₀ : Shared} {σ σ' : St} {ae : AE} {v : AV} {n : Nat} {ih : IH} {T : Tab} {TC : TabC} {f : Fl} {K : Frag} {C a : Addr} {r : FnRec} {E : Value → Shared → Prop}
set_option tactic.hygienic true in
theorem superR_sound (SO : SupOk prog hT K C r) {o : Obj} (hat : hT.get? a = some o) (hd : o.data = .func r.fd) (hgl : r.fd.globals = mainGlobals) (hbl : r.fd.builtins = builtinsNs) (hk : r.fd.scope.kind = .function) (R : Rel hT ρ L σ s.heap) {b : BI} {u : AV} {hp' : List AO} (e : superR C b σ = some (u, hp'))
    {body : List Stmt} {name : Str} {p0 p1 apos pos : Pos} (hpos : Nat.beq apos.endLine pos.line = true) (hb : (b = .lpop ∧ name = "pop") ∨ (b = .llen ∧ name = "__len__") ∨ (b = .linit ∧ name = "__init__")) :
    PySem.wpAt (model prog w) A (.func body (callEnv r.fd L a)) (eval (.Call (.Attribute (.Call (.Name "super" p0) [] [] p1) name apos) [] [] pos) (callEnv r.fd L a)) (Post hT L ρ s ⟨hp', σ.loc⟩ (fun ρ' h' y => VR ρ' h' u y)) No s := by
  refine ex1_5 SO.cls fun cd cd1 cd2 al1 al2 al3 => ?_
  unfold superR at e
  split at e
  · rename_i i hself
    split at e
    · rename_i C' dd l hi
      revert e; refine condE fun hC e => ?_
      have hC := Nat.eq_of_beq_eq_true hC
      subst hC
      rcases hb with ⟨rfl, rfl⟩ | ⟨rfl, rfl⟩ | ⟨rfl, rfl⟩
      · dsimp only at e
        split at e
        · rename_i y hy
          revert e; refine condE fun hl e => ?_
          have hl' := Nat.le_of_ble_eq_true hl
          cases (e)
          refine ex1_1 (List.getLast?_eq_some_iff.mp hy) fun t Z1 => ?_; subst Z1
          rw [List.dropLast_concat]
          refine superEval SO hat hd hgl hbl hk R hself hi (.inl rfl) PySem.F.slot_list_pop.plain PySem.F.entry_list_pop ⟨cd, cd1, al1⟩ type_pop slot_md_get.lookup (by decide +kernel) hpos (fun hx hc ls hq => bind_pop hx hc ls hq)
            (fun X hx hxc hnc hq => cb_pop X hx hxc hnc cd1 cd2 SO.ty SO.subm hq) fun s₂ x A E hx S R₂ O => ?_
          refine ex5_6 (instL_at R₂ hi (.ref i x hx)) fun x' dx od vs m e' hx' hdx g W In => ?_
          cases e'
          obtain ⟨us, z, rfl, U, V⟩ : ∃ us z, vs = us ++ [z] ∧ VRs ρ s₂.heap t us ∧ VR ρ s₂.heap u z := by
            have key : ∀ {l : List AV} {vs : List Value}, VRs ρ s₂.heap (l ++ [u]) vs → ∃ us z, vs = us ++ [z] ∧ VRs ρ s₂.heap l us ∧ VR ρ s₂.heap u z := by
              intro l
              induction l with
              | nil => intro vs W; cases W with | cons _ z _ _ V W => revert W; refine vrsNil ?_; intro h; subst h; exact ⟨[], z, rfl, .nil, V⟩
              | cons z' t ih =>
                intro vs W
                cases W with
                | cons _ v _ vs Z W =>
                  refine ex2_3 (ih W) fun us z Z1 U V => ?_; subst Z1
                  exact ⟨v :: us, z, rfl, .cons _ _ _ _ Z U, V⟩
            exact key W
          refine b_pop g rfl (by rw [← U.length, sizeLine_eq]; simp only [List.length_append, List.length_singleton] at hl'; omega) ?_
          have fin : Post hT L ρ s₂ ⟨σ.hp.set i (.inst C' dd (some t)), σ.loc⟩ (fun ρ' h' q => VR ρ' h' u q) z { s₂ with heap := s₂.heap.update x (Obj.mapSeq (·.eraseIdxIfInBounds us.length)) } := by
            refine inst_put R₂ hx hdx g ?_ U V
            have : us.length < (us ++ [z]).toArray.size := by simp
            rw [Array.eraseIdxIfInBounds, dif_pos this]
            apply Array.ext'
            simp [List.eraseIdx_append_of_length_le (Nat.le_refl us.length)]
          revert fin; refine postE fun ρ' a1 a2 a3 a4 => ?_
          exact (Post.mk (S.trans a1) a2 (O.trans a3) a4)
        · exact noneE e
      · revert e; refine pairC fun h1 h2 => ?_; subst h1; subst h2
        refine superEval SO hat hd hgl hbl hk R hself hi (.inr rfl) slot_list_len.plain entry_list_len ⟨cd, cd1, al2⟩ type_len slot_wd_get.lookup (by decide +kernel) hpos (fun hx hc ls hq => bind_len hx hc ls hq)
          (fun X hx hxc hnc hq => by rw [cb_len]; exact wpAny_pure hq) fun s₂ x A E hx S R₂ O => ?_
        refine ex5_6 (instL_at R₂ hi (.ref i x hx)) fun x' dx od vs m e' hx' hdx g W In => ?_
        cases e'
        refine b_len g rfl ?_
        rw [List.size_toArray, ← W.length]
        exact (Post.mk S R₂ (O.trans ⟨rfl, id⟩) (.int _ _))
      · dsimp only at e
        split at e
        · revert e; refine pairC fun h1 h2 => ?_; subst h1; subst h2
          refine superEval SO hat hd hgl hbl hk R hself hi (.inr rfl) PySem.F.slot_list_init.plain PySem.F.entry_list_init ⟨cd, cd1, al3⟩ type_init slot_wd_get.lookup (by decide +kernel) hpos (fun hx hc ls hq => bind_init hx hc ls hq)
            (fun X hx hxc hnc hq => by rw [cb_init]; exact wpAny_pure hq) fun s₂ x A E hx S R₂ O => ?_
          refine ex5_6 (instL_at R₂ hi (.ref i x hx)) fun x' dx od vs m e' hx' hdx g W In => ?_
          cases e'
          revert W; refine vrsNil ?_; intro h; subst h
          refine b_init g rfl ?_
          have fin : Post hT L ρ s₂ ⟨σ.hp.set i (.inst C' dd (some [])), σ.loc⟩ (fun ρ' h' u => VR ρ' h' .none u) .none { s₂ with heap := s₂.heap.update x (Obj.mapSeq fun zz => #[]) } := inst_put (us := []) R₂ hx hdx g rfl .nil .none
          rw [set_same hi] at fin
          revert fin; refine postE fun ρ' a1 a2 a3 a4 => ?_
          exact (Post.mk (S.trans a1) a2 (O.trans a3) a4)
        · exact noneE e
    · exact noneE e
  · exact noneE e
theorem superSt_ok {st : Stmt} {q : Bool × BI} (e : superSt st = some q) : ∃ (name : Str) (p0 p1 apos pos rp : Pos), Nat.beq apos.endLine pos.line = true ∧ ((q.2 = .lpop ∧ name = "pop") ∨ (q.2 = .llen ∧ name = "__len__") ∨ (q.2 = .linit ∧ name = "__init__")) ∧
    ((q.1 = true ∧ st = .Return (some (.Call (.Attribute (.Call (.Name "super" p0) [] [] p1) name apos) [] [] pos)) rp) ∨ (q.1 = false ∧ st = .Expr (.Call (.Attribute (.Call (.Name "super" p0) [] [] p1) name apos) [] [] pos) rp)) := by
  revert e
  refine bindE fun a ha e => ?_
  revert e
  refine bindE fun name hn e => ?_
  refine ex1_1 (retE_ok ha) fun rp hr => ?_
  refine ex4_2 (supE_ok hn) fun p0 p1 apos pos h2 he => ?_
  rw [he] at hr
  have key : q.1 = a.1 ∧ ((q.2 = .lpop ∧ name = "pop") ∨ (q.2 = .llen ∧ name = "__len__") ∨ (q.2 = .linit ∧ name = "__init__")) := by
    cases k : a.1 with
    | true =>
      rw [k] at e
      dsimp only [cond_true] at e
      cases q1 : W.Fast.sEq name (Str.ofString "pop") with
      | true =>
        rw [q1] at e
        revert e; refine someC fun h => ?_; subst h
        exact ⟨rfl, .inl ⟨rfl, W.Fast.sEq_iff.mp q1⟩⟩
      | false =>
        rw [q1] at e
        refine ex0_2 (cond_some e) fun q2 e => ?_
        revert e; refine someC fun h => ?_; subst h
        exact ⟨rfl, .inr (.inl ⟨rfl, W.Fast.sEq_iff.mp q2⟩)⟩
    | false =>
      rw [k] at e
      refine ex0_2 (cond_some e) fun q2 e => ?_
      revert e; refine someC fun h => ?_; subst h
      exact ⟨rfl, .inr (.inr ⟨rfl, W.Fast.sEq_iff.mp q2⟩)⟩
  rw [← key.1] at hr
  exact ⟨name, p0, p1, apos, pos, rp, h2, key.2, hr⟩
set_option tactic.hygienic true in
theorem xsS_sound (SO : SupOk prog hT K C r) {o : Obj} (hat : hT.get? a = some o) (hd : o.data = .func r.fd) (hgl : r.fd.globals = mainGlobals) (hbl : r.fd.builtins = builtinsNs) (hk : r.fd.scope.kind = .function) (I : IOk prog w hT n ih) (c : Cx A n) {body : List Stmt} : ∀ {l : List Stmt} {ρ : List Addr} {s : Shared} {σ : St}, Rel hT ρ L σ s.heap → EnvR ρ L ae (callEnv r.fd L a) → xsS C ih ae l σ = some (f, σ') →
    PySem.wpAt (model prog w) A (.func body (callEnv r.fd L a)) (execs l (callEnv r.fd L a)) (Post hT L ρ s σ' (fun ρ' h' g => FlR ρ' h' f g)) No s
  | [], ρ, s, σ, R, Ev, e => by
    revert e; refine pairC fun h1 h2 => ?_; subst h1; subst h2
    exact PySem.wpAt_of_wpAny (wpAny_pure (Post.same' R trivial))
  | st :: r', ρ, s, σ, R, Ev, e => by
    unfold xsS at e
    split at e
    · rename_i q hq
      revert e; refine bindE fun u hu e => ?_
      obtain ⟨name, p0, p1, apos, pos, rp, hpos, hb, hst⟩ := superSt_ok hq
      have ev := superR_sound (w := w) (A := A) SO hat hd hgl hbl hk R (u := u.1) (hp' := u.2) hu (body := body) (p0 := p0) (p1 := p1) hpos hb
      rcases hst with ⟨h1, rfl⟩ | ⟨h1, rfl⟩
      · rw [h1] at e
        revert e; refine pairC fun h1 h2 => ?_; subst h1; subst h2
        refine ks_wpAt_execs_cons (ks_wpAt_Return_some (ks_wpAt_mono ev (fun y s' hy => ?_) fun zz zz z => z))
        revert hy; refine postE fun ρ₁ S R₁ O V => ?_
        exact (Post.mk S R₁ O V)
      · rw [h1] at e
        dsimp only at e
        refine ks_wpAt_execs_cons (ks_wpAt_Expr_any (ks_wpAt_mono ev (fun y s' hy => ?_) fun zz zz z => z) Ev.notI (swapsWith_plain rfl))
        revert hy; refine postE fun ρ₁ S R₁ O V => ?_
        refine ks_wpAt_mono (xsS_sound SO hat hd hgl hbl hk I c (body := body) R₁ (Ev.mono S.pre) e) (fun g s₂ hg => ?_) fun zz zz z => z
        revert hg; refine postE fun ρ₂ S₂ R₂ O₂ G => ?_
        exact (Post.mk (S.trans S₂) R₂ (O.trans O₂) G)
    · revert e; refine bindE fun p hp e => ?_
      refine ks_wpAt_execs_cons (PySem.wpAt_of_wpAny (wpAny_mono (wpAny_exec_of_execs (I.xs c R Ev (f := p.1) (σ' := p.2) hp)) (fun g s₁ hg => ?_) fun zz zz z => z))
      revert hg; refine postE fun ρ₁ S R₁ O G => ?_
      obtain ⟨pf, pσ⟩ := p
      cases pf <;> cases g <;> first | exact G.elim | skip
      · refine ks_wpAt_mono (xsS_sound SO hat hd hgl hbl hk I c (body := body) R₁ (Ev.mono S.pre) e) (fun g s₂ hg => ?_) fun zz zz z => z
        revert hg; refine postE fun ρ₂ S₂ R₂ O₂ G => ?_
        exact (Post.mk (S.trans S₂) R₂ (O.trans O₂) G)
      · revert e; refine pairC fun h1 h2 => ?_; subst h1; subst h2; exact (Post.mk S R₁ O trivial)
      · revert e; refine pairC fun h1 h2 => ?_; subst h1; subst h2; exact (Post.mk S R₁ O trivial)
      · revert e; refine pairC fun h1 h2 => ?_; subst h1; subst h2; exact (Post.mk S R₁ O G)
theorem orcS_sound {SN : Addr → Option Addr} (TF : TabFOk T hT) (SO : ∀ a C r, SN a = some C → T.fn a = some r → SupOk prog hT K C r) (I : IOk prog w hT n ih) (c : Cx A (n + 1)) (lim : hT.NoLimit) (R : Rel hT ρ L σ s.heap) {args : List AV} {vs : List Value} (V : VRs ρ s.heap args vs) {hp' : List AO} (e : orcS SN T ih a args σ.hp = some (v, hp')) :
    codeAny (model prog w) A (.call (.ref a) ⟨vs, []⟩) (RetR (Post hT L ρ s ⟨hp', σ.loc⟩ (fun ρ' h' u => VR ρ' h' v u))) s := by
  unfold orcS at e
  revert e; refine bindE fun C hC e => ?_
  revert e; refine bindE fun r hr e => ?_
  revert e; refine condE fun hc e => ?_
  revert e; refine bindE fun bs hb e => ?_
  revert e; refine bindE fun p hx e => ?_
  obtain ⟨f, σ₁⟩ := p
  refine ex0_2 (endA_ok e) fun hv Z1 => ?_; subst Z1
  have SO := SO a C r hC hr
  have Fk := TF.fn a r hr
  have hc : r.cellful = false := by simpa using hc
  refine ex1_2 Fk.at_ fun o ho hd => ?_
  refine ex0_3 (bindsA_some hb) fun h1 h2 Z1 => ?_; subst Z1
  refine ex1_2 Fk.binds fun dv hdv hbind => ?_
  refine ex0_2 (Fk.plain hc) fun p1 p2 => ?_
  have la := V.length
  have ld := hdv.length
  have BT := hbind s vs R.keep (by omega) (by omega)
  rw [← Fk.sc] at p1 p2
  refine (ks_codeAny_call_defAt (by have := c.depth; omega) (R.keep _ _ ho) hd (by revert lim; refine fun h0 => ex1_2 h0 fun mc a b => ?_; clear h0; exact ⟨mc, a.keeps R.keep, b⟩) (Fk.code.keeps R.keep) Fk.body BT p1 (fun x hx => p2 _ (List.of_mem_zip hx).1) (fun h₀ hns k => ?_) Fk.co Fk.gen Fk.kind)
  have Vd : VRs ρ h₀ (args ++ r.dflt.drop (r.dflt.length + args.length - r.pars.length)) (vs ++ dv.drop (dv.length + vs.length - r.pars.length)) := by
    refine (V.mono (List.prefix_refl _) fun b o e zz => k b o e).append ?_
    rw [la, ld]
    exact (hdv.drop _).mono ⟨ρ, rfl⟩ fun b o e zz => k _ _ (R.keep b o e)
  have R0 : Rel hT ρ s.heap.objs.size ⟨σ.hp, (r.pars.zip (args ++ r.dflt.drop (r.dflt.length + args.length - r.pars.length))).reverse⟩ h₀ := by
    refine R.enter k hns ?_
    have := LR.zip (pars := r.pars) Vd LR.nil
    rw [List.append_nil, List.append_nil] at this
    exact this
  have Ev : EnvR ρ s.heap.objs.size ⟨r.scope, [], some (a, r.fd)⟩ (callEnv r.fd s.heap.objs.size a) :=
    ⟨Fk.sc, by rw [← Fk.sc]; exact Fk.kind, rfl, Fk.gl, Fk.bl, fun zz zz e => (by exact noneE e), fun a' fd' e => by revert e; refine pairC fun h1 h2 => ?_; subst h1; subst h2; exact .inl rfl⟩
  refine ks_wpAt_mono (xsS_sound SO ho hd Fk.gl Fk.bl Fk.kind I (c.deeper _) (s := { s with heap := h₀, toks := s.toks + _ }) R0 Ev hx) (fun g s' hg => ?_) fun zz zz x => x.elim
  revert hg; refine postE fun ρ₂ S R₂ O G => ?_
  refine ex0_2 (ret_back R k get_size (List.prefix_refl _) (fun zz a b => absurd a b) S R₂) fun S' R' => ?_
  have fin : ∀ u, VR ρ₂ s'.heap v u → Post hT L ρ s ⟨σ₁.hp, σ.loc⟩ (fun ρ' h' u => VR ρ' h' v u) u s' := fun u U => (Post.mk S' R' ⟨O.os, O.gens⟩ U)
  cases f <;> cases g <;> first | exact G.elim | skip
  · revert hv; refine someC fun h => ?_; subst h; exact fin _ .none
  · exact noneE hv
  · exact noneE hv
  · revert hv; refine someC fun h => ?_; subst h; exact fin _ G
end
end Mine
namespace Mine
section
variable {prog : Program} {w : World} {M : Model} {A : Around} {E : Value → Shared → Prop} {s : Shared} {K : Frag} {x C it l : Addr} {ox ol : Obj} {od : Option Obj} {i nl : Nat} {items : Array Value}
theorem pyIter_inst {Q : Value → Shared → Prop} (X : K.In s.heap) (I : InstAt s.heap x ox C od) (hs : findIn K (.ref C) "__iter__" = some (some (.builtin "list.__iter__"))) (hsub : subIn K (.ref C) (.type "list") = some true)
    (hq : Q (.ref s.heap.objs.size) { s with heap := s.heap.push { cls := .type "list_iterator", data := .fields #[.ref x, .int 0 0] } }) : wpAny (model prog w) A (pyIter (.ref x)) Q E s := by
  have L0 : Looks (model prog w) s.heap (specialOf (.ref x) "__iter__") (some (.builtin "list.__iter__")) := (I.type (M := model prog w)).andThen (looks_findIn X hs)
  have hc : wpAny (model prog w) A (call (.builtin "list.__iter__") [.ref x]) (fun v s' => v = .ref s.heap.objs.size ∧ s' = { s with heap := s.heap.push { cls := .type "list_iterator", data := .fields #[.ref x, .int 0 0] } }) E s := by
    refine callL (nm := "__iter__") X I hsub slot_list_iter.plain entry_list_iter (.inl (by decide +kernel)) (by decide +kernel) (args_list_iter _) ?_
    show wpAny _ _ (do ret (← newFields "list_iterator" [.ref x, rawInt 0])) _ _ s
    exact wpAny_bind (wpAny_newObj_type (wpAny_pure ⟨_, rfl, rfl, rfl⟩))
  unfold pyIter
  refine wpAny_bind (L0.here ?_)
  dsimp only
  refine wpAny_bind ?_
  simp only [callSpecialIfBoundUnlessNone?, bindSpecialIfBound?]
  refine wpAny_holding (wpAny_bind (wpAny_bind (L0.here ?_)))
  simp only [slot_list_iter.bind]
  have fin : ∀ (refuse : Sem Value), wpAny (model prog w) A (if (Value.builtin "list.__iter__" == Value.none) = true then (refuse >>= fun v => pure (some v)) else (call (.builtin "list.__iter__") [.ref x] >>= fun v => pure (some v)))
      (fun r s' => r = some (.ref s.heap.objs.size) ∧ s' = { s with heap := s.heap.push { cls := .type "list_iterator", data := .fields #[.ref x, .int 0 0] } }) E s := by
    intro refuse
    rw [if_neg (show ¬ ((Value.builtin "list.__iter__" == Value.none) = true) from Bool.false_ne_true)]
    exact wpAny_bind (wpAny_mono hc (fun v s' h' => wpAny_pure (by rw [h'.1]; exact ⟨rfl, h'.2⟩)) fun zz zz h' => h')
  refine wpAny_bind (wpAny_askSetting (wpAny_ite ?_))
  split
  · refine wpAny_bind (wpAny_pure (wpAny_pure ?_))
    exact wpAny_mono (fin _) (fun r s' hr => by
      revert hr; refine fun h0 => ex0_2 h0 fun Z1 Z2 => ?_; clear h0; subst Z1; subst Z2
      exact wpAny_bind (wpAny_specialOf (T := "list_iterator") ⟨_, Heap.get?_push_size _ rfl, rfl⟩ slot_listiter_next.lookup (wpAny_pure hq))) fun zz zz z => z
  · refine wpAny_tryCatch (wpAny_bind (wpAny_pure (wpAny_pure ?_)))
    exact wpAny_mono (fin _) (fun r s' hr => by
      revert hr; refine fun h0 => ex0_2 h0 fun Z1 Z2 => ?_; clear h0; subst Z1; subst Z2
      exact wpAny_bind (wpAny_specialOf (T := "list_iterator") ⟨_, Heap.get?_push_size _ rfl, rfl⟩ slot_listiter_next.lookup (wpAny_pure hq))) fun zz zz z => z
theorem pyNext_seq {Q : Option Value → Shared → Prop} (hh : A.handled = none) (hit : s.heap.IsListIter it l i) (ho : s.heap.get? l = some ol) (hd : ol.data = .seq items nl)
    (h1 : ∀ x h', items[i]? = some x → h'.IsListIter it l (i + 1) → Heap.SameBut it s.heap h' → Q (some x) { s with heap := h' })
    (h2 : ∀ h', items[i]? = none → Heap.ExtBut it s.heap h' → Q none { s with heap := h' }) : wpAny (model prog w) A (pyNext (.ref it)) Q E s := by
  refine ex1_3 (id hit) fun o hio hc hdt => ?_
  unfold pyNext
  cases hx : items[i]? with
  | some x =>
    refine wpAny_bind (wpAny_attempt (wpAny_callSpecial?_slot (name := Str.ofString "__next__") hit.typeIs slot_listiter_next (wpAny_call_entry slot_listiter_next hit.typeIs entry_listiter_next ?_ (args_listiter_next _))))
    show wpAny _ _ (field (.ref it) 0 >>= _) _ _ s
    refine wpAny_bind (wpAny_field hio hdt (x := .ref l) rfl ?_)
    show wpAny _ _ (if (Value.ref l == Value.none) = true then _ else _) _ _ s
    rw [if_neg (show ¬ ((Value.ref l == Value.none) = true) from Bool.false_ne_true)]
    show wpAny _ _ (field (.ref it) 1 >>= _) _ _ s
    refine wpAny_bind (wpAny_field hio hdt (x := .int i 0) rfl ?_)
    show wpAny _ _ (seqItems? (.ref l) >>= _) _ _ s
    refine wpAny_bind (wpAny_seqItems ho hd ?_)
    simp only [Int.toNat_natCast, hx]
    refine wpAny_bind (wpAny_setField hio hdt (by simp) (wpAny_pure ⟨x, rfl, wpAny_pure (h1 x _ hx ?_ (Heap.SameBut.update ..))⟩))
    exact ⟨_, Heap.get?_update_self _ hio (Obj.isFreed_of_fields (Obj.data_mapFields hdt _)), (Obj.cls_mapFields ..).trans hc, by rw [Obj.data_mapFields hdt]; simp [rawInt]⟩
  | none =>
    refine wpAny_bind (wpAny_attempt (wpAny_callSpecial?_slot (name := Str.ofString "__next__") hit.typeIs slot_listiter_next (wpAny_call_entry slot_listiter_next hit.typeIs entry_listiter_next ?_ (args_listiter_next _))))
    show wpAny _ _ (field (.ref it) 0 >>= _) _ _ s
    refine wpAny_bind (wpAny_field hio hdt (x := .ref l) rfl ?_)
    show wpAny _ _ (if (Value.ref l == Value.none) = true then _ else _) _ _ s
    rw [if_neg (show ¬ ((Value.ref l == Value.none) = true) from Bool.false_ne_true)]
    show wpAny _ _ (field (.ref it) 1 >>= _) _ _ s
    refine wpAny_bind (wpAny_field hio hdt (x := .int i 0) rfl ?_)
    show wpAny _ _ (seqItems? (.ref l) >>= _) _ _ s
    refine wpAny_bind (wpAny_seqItems ho hd ?_)
    simp only [Int.toNat_natCast, hx]
    refine wpAny_bind (wpAny_rule (wpAny_bind (wpAny_setField hio hdt (by simp) ?_)))
    show wpAny _ _ (newExc (.type "StopIteration") [] >>= _) _ _ _
    refine wpAny_bind ?_
    simp only [newExc, newTuple]
    refine wpAny_bind (wpAny_newObj_type ?_ (by size_fits))
    refine wpAny_bind (m := firstArgMember _ _) (wpAny_of_eq (a := Value.none) (by first | rfl | (simp only [firstArgMember]; rfl)) ?_)
    refine wpAny_newObj_type ?_ (by size_fits)
    simp only [raiseNew]
    refine wpAny_bind (wpAny_handled ?_)
    rw [show A.in1.handled = none from hh]
    refine wpAny_bind (wpAny_pure (wpAny_throw ?_))
    refine wpAny_bind (wpAny_isInstance (T := "StopIteration") (b := true) ⟨_, Heap.get?_push_size _ rfl, rfl⟩ isSubtype_stop ?_)
    exact wpAny_pure (h2 _ hx (((Heap.SameBut.update ..).extBut.push _).push _))
end
theorem walkInst {prog : Program} {w : World} {A : Around} (hh : A.handled = none) (I ax : Addr) (hne : ax ≠ I) (items : Array Value) (Ts : Nat → Addr) (vals : Nat → Array Value) (ol : Obj) (nl : Nat) (hd : ol.data = .seq items nl)
    (hit : ∀ j, j < items.size → items[j]? = some (.ref (Ts j))) (hTI : ∀ j, j < items.size → Ts j ≠ I) :
    WalksU prog w A I (I :: ax :: (List.range items.size).map Ts) [I] items.size (fun j v => j < items.size ∧ v = vals j)
      (fun j h => h.IsListIter I ax j ∧ h.get? ax = some ol ∧ ∀ k, k < items.size → h.IsTuple (Ts k) (vals k))
      (fun j T h => (j < items.size ∧ T = Ts j) ∧ h.IsListIter I ax (j + 1) ∧ h.get? ax = some ol ∧ ∀ k, k < items.size → h.IsTuple (Ts k) (vals k)) where
  sub := fun b hb => by simp at hb; simp [hb]
  frame := fun zz zz zz st hk => ⟨st.1.at fun o e => hk I (by simp) o e, hk ax (by simp) _ st.2.1,
    fun k hk' => (st.2.2 k hk').at fun o e => hk (Ts k) (List.mem_cons_of_mem _ (List.mem_cons_of_mem _ (List.mem_map.mpr ⟨k, List.mem_range.mpr hk', rfl⟩))) o e⟩
  item := fun i s Q E hi st hQ => by
    refine pyNext_seq hh st.1 st.2.1 hd (fun x h' hx hit' hs' => ?_) fun h' hx zz => ?_
    · rw [hit i hi] at hx
      revert hx; refine someC fun h => ?_; subst h
      have tup : ∀ k, k < items.size → h'.IsTuple (Ts k) (vals k) := fun k hk' => (st.2.2 k hk').extBut hs'.extBut (hTI k hk')
      exact hQ (Ts i) (vals i) h' s.toks ⟨hi, rfl⟩ (tup i hi) ⟨⟨hi, rfl⟩, hit', hs'.extBut _ _ hne st.2.1, tup⟩ fun b o hb e => hs'.extBut b o (fun h => hb (by simp [h])) e
    · rw [hit i hi] at hx; exact noneF hx
  go := fun zz zz zz zz zz s Q zz hm hQ => wpAny_letOwnedTupleGo_listiter hm.2.1 (hQ s.heap hm.2 fun zz zz zz e => e)
  apart := fun j T zz hm hmem => by
    rcases List.mem_cons.mp hmem with e | e
    · exact hTI j hm.1.1 (hm.1.2 ▸ e)
    · cases e
  done := fun s Q E st hQ => pyNext_seq hh st.1 st.2.1 hd (fun x h' hx zz zz => by simp at hx) fun h' zz he' => hQ h' s.toks fun b o hb e => he' b o (fun h => hb (by simp [h])) e
  self := fun zz zz zz zz st hQ => wpAny_pyIter_listiter st.1 hQ
end Mine
namespace Mine
section
variable {prog : Program} {w : World} {A : Around} {E : Value → Shared → Prop} {s : Shared}
theorem walk_ahead {I : Addr} {fp wr : List Addr} {G : Array GenState → Array GenState → Prop} {n : Nat} {P : Nat → Value → Prop} {St : Nat → Shared → Prop} (W : WalksS prog w A I fp wr G n P St) :
    WalksS prog w A I fp wr G (n + 1) (fun i v => ∃ j, i = j + 1 ∧ P j v) (fun i s => ∃ j, i = j + 1 ∧ St j s) where
  sub := W.sub
  grefl := W.grefl
  gtrans := W.gtrans
  frame := fun i s h' tk ⟨j, e, st⟩ ht hk => ⟨j, e, W.frame j s h' tk st ht hk⟩
  item := fun i s Q E hi ⟨j, e, st⟩ hQ => W.item j s Q E (by omega) st fun v s' hp hs hm => hQ v s' ⟨j, e, hp⟩ ⟨j + 1, by omega, hs⟩ hm
  done := fun s Q E ⟨j, e, st⟩ hQ => W.done s Q E (by
    have e' : n = j := Nat.succ.inj e
    rw [e']
    exact st) hQ
  self := fun i s Q E ⟨j, _, st⟩ hQ => W.self j s Q E st hQ
noncomputable def aheadV (a : Int) (val : Nat → Int) : Nat → Int
  | 0 => a
  | j + 1 => val j
theorem preSum_ahead (a : Int) (val : Nat → Int) : ∀ n, preSum (aheadV a val) (n + 1) = a + preSum val n
  | 0 => by simp [preSum, aheadV]
  | n + 1 => by
    have := preSum_ahead a val n
    rw [preSum, this]
    show a + preSum val n + val n = a + preSum val (n + 1)
    rw [preSum, Int.add_assoc]
theorem args_sum2 (a b : Value) : argsOk "sum" ⟨[a, b], []⟩ := by unfold argsOk; kernel_rfl
theorem bindP_sum (v : Value) : Builtin.Builtins.bindParams "sum" ["start"] 0 ⟨[v], []⟩ = pure [some v] := rfl
theorem call_sum2 {I : Addr} {fp wr : List Addr} {G : Array GenState → Array GenState → Prop} {n : Nat} {P : Nat → Value → Prop} {St : Nat → Shared → Prop} {val : Nat → Int} {a : Int} {ta : Tok} {Q : Value → Shared → Prop}
    (W : WalksS prog w A.in1 I fp wr G n P St) (hst : St 0 s) (hfp : ∀ b ∈ fp, b < s.heap.objs.size) (hval : ∀ i v, P i v → ∃ t, v = .int (val i) t) (hQ : ∀ s' t', Moved wr G s s' → Q (.int (a + preSum val n) t') s') :
    wpAny (model prog w) A (call (.builtin "sum") [.ref I, .int a ta]) Q E s := by
  refine call_function_tree F.kind_sum F.plain_sum F.entry_sum (args_sum2 _ _) ?_
  unfold Builtin.«sum»
  simp only [List.length_cons, List.length_nil]
  rw [if_neg (by decide)]
  refine wpAny_bind (wpAny_of_eq (bindP_sum _) ?_)
  refine wpAny_bind (W.self 0 _ _ _ hst ?_)
  have hSf : s.heap.objs.size ∉ fp := fun hm => Nat.lt_irrefl _ (hfp _ hm)
  have hval' : ∀ i v, (∃ j, i = j + 1 ∧ P j v) → ∃ t, v = .int (aheadV a val i) t := by
    rintro i v ⟨j, rfl, hp⟩
    exact hval j v hp
  have fin : ∀ (st : Int) (tk : Tok) (t' : Nat), (st = 0 ∨ st = 2) → s.toks ≤ t' → wpAny (model prog w) A.in1 (newList [Value.int a tk] >>= fun l => again (.builtin "sum.loop" ⟨[.ref I, l, rawInt st, rawInt 0], []⟩))
      (fun fin s' => match fin with | .done f => wants Q E (.ok f) s' | .again c' => c'.quiet = true ∧ codeAny (model prog w) A c' (wants Q E) s') (fun e s' => wants Q E (.error e) s') { s with toks := t' } := by
    intro st tk t' h2 ht
    refine wpAny_bind (wpAny_newObj_type ?_)
    refine wpAny_pure ⟨plainId_quiet F.plain_sum_loop _, codeAny_sum_loopAnyS (walk_ahead W) (aheadV a val) hval' s.heap.objs.size hSf n 1 _ tk 0 st h2 rfl (by omega)
      ⟨0, rfl, W.frame 0 s _ _ hst ht fun b zz o e => Heap.get?_push_of_some _ e⟩ (by
        have : preSum (aheadV a val) 1 = a := by simp [preSum, aheadV]
        rw [this]; exact Heap.get?_push_size _ rfl) fun s' t'' hm => ?_⟩
    rw [preSum_ahead]
    exact hQ s' t'' (hm.drop_new ht)
  dsimp only
  split
  · refine wpAny_bind (wpAny_rule (wpAny_bind (wpAny_mkInt (wpAny_bind (wpAny_pure ?_)))))
    simp only [List.forIn_cons, List.forIn_nil]
    refine wpAny_bind (wpAny_bind (wpAny_bind (wpAny_isInstance (T := "int") (b := false) (typeIs_int _ _ _) PySem.sub_int_str ?_)))
    simp only [Bool.false_eq_true, if_false]
    refine wpAny_pure (wpAny_bind (wpAny_bind (wpAny_isInstance (T := "int") (b := false) (typeIs_int _ _ _) sub_int_bytes ?_)))
    simp only [Bool.false_eq_true, if_false]
    refine wpAny_pure (wpAny_bind (wpAny_bind (wpAny_isInstance (T := "int") (b := false) (typeIs_int _ _ _) sub_int_bytearray ?_)))
    simp only [Bool.false_eq_true, if_false]
    exact wpAny_pure (wpAny_pure (fin 0 _ _ (.inl rfl) (Nat.le_succ _)))
  · refine wpAny_bind (wpAny_pure ?_)
    simp only [List.forIn_cons, List.forIn_nil]
    refine wpAny_bind (wpAny_bind (wpAny_bind (wpAny_isInstance (T := "int") (b := false) (typeIs_int _ _ _) PySem.sub_int_str ?_)))
    simp only [Bool.false_eq_true, if_false]
    refine wpAny_pure (wpAny_bind (wpAny_bind (wpAny_isInstance (T := "int") (b := false) (typeIs_int _ _ _) sub_int_bytes ?_)))
    simp only [Bool.false_eq_true, if_false]
    refine wpAny_pure (wpAny_bind (wpAny_bind (wpAny_isInstance (T := "int") (b := false) (typeIs_int _ _ _) sub_int_bytearray ?_)))
    simp only [Bool.false_eq_true, if_false]
    exact wpAny_pure (wpAny_pure (fin 2 _ _ (.inr rfl) (Nat.le_refl _)))
end
end Mine
namespace Mine
section
variable {prog : Program} {w : World} {A : Around} {E : Value → Shared → Prop} {s : Shared} {hT : Heap} {cenv : Env} {x y : Str} {m : Str → Option Value} {la lb : List Nat} {ta tb : Tok} {p1 p2 p3 p4 p5 p6 p7 : Pos}
structure GEnv (cenv : Env) (x y : Str) : Prop where
  kind : cenv.scope.kind = .function
  gl : cenv.globals = mainGlobals
  bl : cenv.builtins = builtinsNs
  hx : cenv.scope.names.lookup x = some .local
  hy : cenv.scope.names.lookup y = some .local
  dx : W.Fast.sEq x (Str.ofString "__debug__") = false
  dy : W.Fast.sEq y (Str.ofString "__debug__") = false
theorem GlobIs.load' {env : Env} {z : Str} {u : Value} (G : GlobIs hT z u) (k : ∀ b o, hT.get? b = some o → s.heap.get? b = some o) (hg : env.globals = mainGlobals) (hb : env.builtins = builtinsNs) {Q : Value → Shared → Prop} (h : Q u s) : wpAny (model prog w) A (loadGlobal env z) Q E s := by
  revert G; refine fun h0 => ex2_3 h0 fun mg mb a b c => ?_; clear h0
  have a' := a.keeps k
  have b' := b.keeps k
  rcases c with c | ⟨c1, c2⟩
  · exact loadGlobal_global (hg ▸ a') c h
  · exact loadGlobal_builtin (hg ▸ a') c1 (hb ▸ b') c2 h
theorem keeps_toks {s : Shared} {t : Nat} : Keeps s { s with toks := t } := ⟨s.heap, t, rfl, fun zz zz e => e⟩
theorem elt_lens (Gv : GEnv cenv x y) (hl : cenv.scope.names.lookup ("len" : Str) = some NameKind.globalImplicit) (G : GlobIs hT "len" (.builtin "len")) (k : ∀ b o, hT.get? b = some o → s.heap.get? b = some o) (F : s.heap.Ns cenv.locals m)
    (ha : m x = some (.str ⟨la.toArray⟩ ta)) (hb : m y = some (.str ⟨lb.toArray⟩ tb)) (z1 : la.length < 2 ^ 62) (z2 : lb.length < 2 ^ 62) :
    wpAny (model prog w) A (eval (.BinOp (.Call (.Name "len" p1) [.Name x p2] [] p3) .Add (.Call (.Name "len" p4) [.Name y p5] [] p6) p7) cenv) (fun v s₃ => (∃ t, v = .int ((la.length : Int) + lb.length) t) ∧ Keeps s s₃) E s := by
  refine wpAny_BinOp ?_
  refine wpAny_Call_Name_kw (wpAny_Name (ks_loadName_global Gv.kind hl (G.load' k Gv.gl Gv.bl ?_)))
  refine PyProof.Rows.callWith_builtin1 (spliced_cons ?_)
  refine wpAny_Name (wpAny_loadName_local Gv.kind Gv.hx F ha ?_) (sEq_beq_no Gv.dx)
  refine spliced_nil (PySem.P.len_str (by rw [str_len]; omega) ?_)
  refine wpAny_Call_Name_kw (wpAny_Name (ks_loadName_global Gv.kind hl (G.load' (s := { s with toks := s.toks + 1 + 1 }) k Gv.gl Gv.bl ?_)))
  refine PyProof.Rows.callWith_builtin1 (spliced_cons ?_)
  refine wpAny_Name (wpAny_loadName_local (s := { s with toks := s.toks + 1 + 1 }) Gv.kind Gv.hy F hb ?_) (sEq_beq_no Gv.dy)
  refine spliced_nil (PySem.P.len_str (by rw [str_len]; omega) ?_)
  rw [str_len, str_len]
  exact wpAny_add_int ⟨⟨_, rfl⟩, keeps_toks⟩
theorem elt_join (Gv : GEnv cenv x y) (hl : cenv.scope.names.lookup ("EMPTYSTRING" : Str) = some NameKind.globalImplicit) {te : Tok} (G : GlobIs hT "EMPTYSTRING" (.str ⟨#[]⟩ te)) (k : ∀ b o, hT.get? b = some o → s.heap.get? b = some o) (F : s.heap.Ns cenv.locals m)
    (ha : m x = some (.str ⟨la.toArray⟩ ta)) (hb : m y = some (.str ⟨lb.toArray⟩ tb)) (z : la.length + lb.length ≤ 100000) {n7 : Nat} (hpos : Nat.beq p2.endLine p6.line = true) :
    wpAny (model prog w) A (eval (.Call (.Attribute (.Name "EMPTYSTRING" p1) "join" p2) [.Tuple [.Name x p3, .Name y p4] n7 p5] [] p6) cenv) (fun v s₃ => (∃ t, v = .str ⟨(la ++ lb).toArray⟩ t) ∧ Keeps s s₃) E s := by
  rw [arm_eval_Call, attrBase_plain (by rfl)]
  refine wpAny_bind (wpAny_Name (ks_loadName_global Gv.kind hl (G.load' k Gv.gl Gv.bl ?_)))
  refine wpAny_bind (wpAny_standAt ?_)
  unfold methodCall
  refine wpAny_bind (wpAny_holding ?_)
  show wpAny _ _ (calleeOf true _ _ _ _) _ _ _
  unfold calleeOf
  simp only [if_true]
  refine GM.join ?_
  have e4 : (methodCallPos true (.Name "EMPTYSTRING" p1) cenv p2 p6) = pure p6 := by
    unfold methodCallPos
    rw [if_pos (by rw [Nat.eq_of_beq_eq_true hpos]; simp)]
  show wpAny _ _ (methodCallPos true _ _ _ _ >>= _) _ _ _
  rw [e4]
  refine wpAny_bind (wpAny_pure ?_)
  refine Calls.callWith_builtin rfl (evalArgs_plain (spliced_cons (wpAny_Tuple (k := n7) (spliced_cons ?_))))
  refine wpAny_Name (wpAny_loadName_local Gv.kind Gv.hx F ha ?_) (sEq_beq_no Gv.dx)
  refine spliced_cons ?_
  refine wpAny_Name (wpAny_loadName_local Gv.kind Gv.hy F hb ?_) (sEq_beq_no Gv.dy)
  refine spliced_nil ⟨by show 2 ≤ sizeLine; rw [sizeLine_eq]; omega, spliced_nil ?_⟩
  refine join_tupleW (ys := [⟨la.toArray⟩, ⟨lb.toArray⟩]) (items := #[.str ⟨la.toArray⟩ ta, .str ⟨lb.toArray⟩ tb]) ⟨_, Heap.get?_push_size _ rfl, rfl, _, rfl⟩ (.cons _ _ (.cons _ _ .nil)) (by show (0 : Nat) ≤ 16; omega) ?_ fun t' k' => ⟨⟨t', ?_⟩, ⟨_, k', rfl, fun b o e => push_keep b o e⟩⟩
  · simp only [List.map_cons, List.map_nil, List.sum_cons, List.sum_nil, str_len, List.length_cons, List.length_nil]
    omega
  · have e : Txt.join ⟨#[]⟩ [(⟨la.toArray⟩ : Str), ⟨lb.toArray⟩] = ⟨(joinL [] [la, lb]).toArray⟩ := by
      unfold Txt.join; rw [PySem.StrLaws.glued_eq_join]; exact joinL_eq [] [la, lb]
    rw [e]
    simp [joinL]
end
end Mine
namespace Mine
theorem passing_all (n : Nat) : passing (fun zz => true) n 0 = List.range n := by
  unfold passing
  rw [List.drop_zero, List.filter_eq_self]
  intro a _; rfl
noncomputable def pairP (x : AV) : Option (List Nat × List Nat) := match x with
  | .tup l => (twoA l).bind fun q => (theS q.1).bind fun a => (theS q.2).bind fun b => some (a, b)
  | _ => none
where twoA : List AV → Option (AV × AV)
  | [x, y] => some (x, y)
  | _ => none
theorem twoA_ok {l : List AV} {q : AV × AV} (h : pairP.twoA l = some q) : l = [q.1, q.2] := by
  rcases l with _ | ⟨x, _ | ⟨y, _ | ⟨_, _⟩⟩⟩ <;> first | exact noneE h | (revert h; refine pairC fun h1 h2 => ?_; subst h1; subst h2; rfl)
theorem pairP_ok {x : AV} {q : List Nat × List Nat} (h : pairP x = some q) : x = .tup [.str q.1, .str q.2] := by
  cases x <;> first | exact noneE h | skip
  revert h
  refine bindE fun z hz h => ?_
  revert h
  refine bindE fun a ha h => ?_
  revert h
  refine bindE fun b hb h => ?_
  revert h; refine pairC fun h1 h2 => ?_; subst h1; subst h2
  rw [twoA_ok hz, theS_ok ha, theS_ok hb]
noncomputable def pairsA : List AV → Option (List (List Nat × List Nat))
  | [] => some []
  | x :: r => (pairP x).bind fun q => (pairsA r).bind fun l => some (q :: l)
set_option tactic.hygienic true in
theorem pairs_at {ρ : List Addr} {h : Heap} {its : List AV} {vs : List Value} {prs : List (List Nat × List Nat)} (e : pairsA its = some prs) (V : VRs ρ h its vs) : vs.length = prs.length ∧
    ∀ (j : Nat) (p : List Nat × List Nat), prs[j]? = some p → ∃ (T : Addr) (ta tb : Tok), vs[j]? = some (Value.ref T) ∧ h.IsTuple T #[.str ⟨p.1.toArray⟩ ta, .str ⟨p.2.toArray⟩ tb] := by
  induction its generalizing vs prs with
  | nil => revert e; refine someC fun h => ?_; subst h; revert V; refine vrsNil ?_; intro h; subst h; exact ⟨rfl, fun j p e => noneE e⟩
  | cons x r ih =>
    revert e
    refine bindE fun q hq e => ?_
    revert e
    refine bindE fun l hl e => ?_
    revert e; refine someC fun h => ?_; subst h
    revert V; refine vrsCons ?_; intro _ _ _ _ h; subst h
    rename_i V W
    refine ex0_2 (ih hl W) fun h1 h2 => ?_
    refine ⟨congrArg Nat.succ h1, fun j p e => ?_⟩
    cases j with
    | succ j => exact h2 j p e
    | zero =>
      revert e; refine someC fun h => ?_; subst h
      rw [pairP_ok hq] at V
      revert V; refine vrTup ?_; intro _ _ _ _ _ h; subst h
      rename_i g U
      revert U; refine vrsCons ?_; intro _ _ _ _ h; subst h
      rename_i U1 U
      revert U; refine vrsCons ?_; intro _ _ _ _ h; subst h
      rename_i U2 U
      revert U; refine vrsNil ?_; intro h; subst h
      revert U1; refine vrStr ?_; intro _ h; subst h; revert U2; refine vrStr ?_; intro _ h; subst h
      exact ⟨_, _, _, rfl, _, g, rfl, _, rfl⟩
structure GenTabOk (hT : Heap) (c P : Addr) : Prop where
  code : CodeHd hT c P
  glob : ∃ mg, hT.Ns mainGlobals mg ∧ hT.BuiltinsAt mg P
structure GenScOk (scope : Scope) (x y : Str) : Prop where
  co : scope.isCoroutine = false
  cell : ∀ z ∈ scope.names, z.2 ≠ .cell
  h0 : scope.names.lookup (".0" : Str) = some NameKind.local
  hx : scope.names.lookup x = some .local
  hy : scope.names.lookup y = some .local
  ne : x ≠ y
  kind : scope.kind = .function
  dx : W.Fast.sEq x (Str.ofString "__debug__") = false
  dy : W.Fast.sEq y (Str.ofString "__debug__") = false
section
variable {prog : Program} {w : World} {hT : Heap} {A : Around} {L : Addr} {ρ ρ₀ : List Addr} {s s₀ : Shared} {σ σ' : St} {ae : AE} {v : AV} {n : Nat} {ih : IH} {T : Tab} {TC : TabC} {f : Fl} {K : Frag} {C a : Addr} {r : FnRec} {E : Value → Shared → Prop} {env : Env}
theorem genCode {P c : Addr} {k : Nat} {pos : Pos} {qualname : Str} {scope : Scope} {Q : Value → Shared → Prop} (GT : GenTabOk hT c P) (hcode : env.code = .ref c) (R : Rel hT ρ L σ s.heap) (hk : σ.hp[k]? = some (.tab P none))
    (hQ : ∀ code h' tk, (∀ b o, s.heap.get? b = some o → b ≠ P → h'.get? b = some o) → Step [L] ρ s.heap ρ h' → Rel hT ρ L σ h' → Q code { s with heap := h', toks := tk }) : wpAny (model prog w) A (genexprCode env pos qualname scope) Q E s := by
  obtain ⟨P', hP', ep, pst, hP, ht, hcd⟩ := R.inv.get hk
  subst ep
  have hPρ : P' ∈ ρ := List.mem_of_getElem? hP'
  have C := GT.code.keeps R.keep
  have fin : ∀ (h' : Heap), (∀ b o, s.heap.get? b = some o → b ≠ P' → h'.get? b = some o) → OR ρ h' P' (.tab P' none) → Step [L] ρ s.heap ρ h' ∧ Rel hT ρ L σ h' := fun h' hk' hor => by
    refine ex1_2 R.ns fun fl FL GL => ?_
    have FL' : h'.Ns L fl := Ns.at FL fun o e => hk' _ _ e fun q => R.offL (q ▸ hPρ)
    refine ex0_2 (R.put2 hP' (fun b o e n zz => hk' b o e n) ⟨fl, FL', fun h'' k => GL.mono (List.prefix_refl _) k⟩ hor) fun S1 R1 => ?_
    rw [set_same hk] at R1
    exact ⟨S1, R1⟩
  cases hc' : codeAmong pos pst.toList with
  | some cv =>
    refine ex0_2 (fin s.heap (fun zz zz e zz => e) ⟨rfl, pst, hP, ht, fun nm q => by exact noneE q⟩) fun S1 R1 => ?_
    exact wpAny_genexprCode_hit hcode (C.code hP ht) hc' (hQ cv s.heap s.toks (fun zz zz e zz => e) S1 R1)
  | none =>
    refine wpAny_genexprCodeX hcode (C.code hP ht) (C.tab hP) hc' fun c' h' tk hx hge hlt hcode₃ hrec htab₃ zz => ?_
    refine ex0_2 (fin h' (fun b o e n => hx b o n e) ⟨rfl, _, htab₃.2, by
      have : (pst ++ #[rawInt pos.line, rawInt pos.col, Value.ref c']).toList = pst.toList ++ [rawInt pos.line, rawInt pos.col, .ref c'] := by simp
      rw [this]
      exact TriplesOk_snoc _ _ _ _ ht, fun nm q => by exact noneE q⟩) fun S1 R1 => ?_
    exact hQ (.ref c') h' tk (fun b o e n => hx b o n e) S1 R1
theorem genInst {P c : Addr} {k i dd : Nat} {its : List AV} {prs : List (List Nat × List Nat)} {elt : Expr} {xa xb : Str} {pa pb pt ps pos : Pos} {kt : Nat} {scope : Scope} {cs : List (Str × Nat)} {F : Nat → Value → Prop} {Q : Value → Shared → Prop}
    (hh : A.handled = none) (hroom : A.depth < recursionLimit) (lim : hT.NoLimit) (GT : GenTabOk hT c P) (hcode : env.code = .ref c) (SC : GenScOk scope xa xb) (R : Rel hT ρ L σ s.heap) (Ev : EnvR ρ L ae env) (hk : σ.hp[k]? = some (.tab P none)) (hcs : clA ae.cells scope.names [] = some cs)
    (hself : lk ("self" : Str) σ.loc = some (.ref i)) (hsk : ae.sc.names.lookup ("self" : Str) = some NameKind.local) (hi : σ.hp[i]? = some (.inst C dd (some its))) (hp : pairsA its = some prs)
    (inn : K.In hT) (hit : findIn K (.ref C) "__iter__" = some (some (.builtin "list.__iter__"))) (hsub : subIn K (.ref C) (.type "list") = some true)
    (hE : ∀ {A' : Around} {E' : Value → Shared → Prop} {s₂ : Shared} {m₂ : Str → Option Value} {cenv : Env} (i : Nat) (la lb : List Nat) (ta tb : Tok), A'.handled = none → GEnv cenv xa xb → cenv.scope = scope → (∀ b o, hT.get? b = some o → s₂.heap.get? b = some o) → s₂.heap.Ns cenv.locals m₂ →
      prs[i]? = some (la, lb) → m₂ xa = some (.str ⟨la.toArray⟩ ta) → m₂ xb = some (.str ⟨lb.toArray⟩ tb) → wpAny (model prog w) A' (eval elt cenv) (fun y s₃ => F i y ∧ Keeps s₂ s₃) E' s₂)
    (hQ : ∀ a s₅ fp wr g St, WalksS prog w A.in4 a fp wr (GenOnlyQ g) prs.length F St → St 0 s₅ → (∀ i s', St i s' → s'.TypeIs (.ref a) "generator") → a ∈ fp → (∀ b ∈ fp, b < s₅.heap.objs.size) →
      (∀ b o, s.heap.get? b = some o → b ≠ P → s₅.heap.get? b = some o) → (∀ s', Moved wr (GenOnlyQ g) s₅ s' → Step [L] ρ s.heap ρ s'.heap ∧ Rel hT ρ L σ s'.heap ∧ Ok s s') → Q (.ref a) s₅) :
    wpAny (model prog w) A (eval (.GeneratorExp elt [⟨.Tuple [.Name xa pa, .Name xb pb] kt pt, .Name "self" ps, [], 0⟩] scope pos) env) Q E s := by
  refine ex1_2 (closure_ok (env := env) Ev.cells hcs) fun cl hclo zz => ?_
  refine ex1_2 R.ns fun fL FL GL => ?_
  refine ex1_2 (GL _ _ hself) fun u hu Vu => ?_
  refine ex5_6 (instL_at R hi Vu) fun x dx od ws m Z1 hx hdx g Wv In => ?_; subst Z1
  refine ex0_2 (pairs_at hp Wv) fun hlen hat => ?_
  have hek : env.scope.kind = .function := by rw [Ev.sc]; exact Ev.kind
  have hxl : x < s.heap.objs.size := Heap.lt_size g
  refine wpAny_GeneratorExp_walksQTD hh SC.co hclo SC.cell SC.h0 SC.hx SC.hy SC.ne SC.kind hroom ?_ (fun zz => rfl)
  refine wpAny_Name (wpAny_loadName_local hek (by rw [Ev.kindOf, lk_eq]; exact hsk) (Ev.loc ▸ FL) hu ?_)
  refine pyIter_inst (inn.keeps R.keep) In hit hsub ?_
  generalize hI : s.heap.objs.size = I at *
  have eI : (s.heap.push { cls := .type "list_iterator", data := .fields #[.ref x, .int 0 0] }).get? I = some { cls := .type "list_iterator", data := .fields #[.ref x, .int 0 0] } := by rw [← hI]; exact Heap.get?_push_size _ rfl
  have nI : s.heap.get? I = none := by rw [← hI]; exact get_size
  have R2 : Rel hT ρ L σ (s.heap.push { cls := .type "list_iterator", data := .fields #[.ref x, .int 0 0] }) := R.push
  have S2 : Step [L] ρ s.heap ρ (s.heap.push { cls := .type "list_iterator", data := .fields #[.ref x, .int 0 0] }) := Step.push
  refine ⟨by revert lim; refine fun h0 => ex1_2 h0 fun mc a b => ?_; clear h0; exact ⟨mc, a.keeps R2.keep, b⟩, ?_⟩
  refine genCode (s := { s with heap := s.heap.push { cls := .type "list_iterator", data := .fields #[.ref x, .int 0 0] } }) GT hcode R2 hk fun code h₃ tk hk₃ S3 R3 => ?_
  refine ex1_2 GT.glob fun mg hg hbi => ?_
  obtain ⟨bm, o, a1, a2, a3, a4, a5, a6, a7, a8⟩ := hbi
  refine wpAny_builtinsFor (Ev.gl ▸ hg.keeps R3.keep) a1 a2 (R3.keep _ _ a5) a6 a7 a8 ?_
  have hP : P ∈ ρ := by refine ex1_3 (R.inv.get hk) fun P' hP' ep zz => ?_; subst ep; exact List.mem_of_getElem? hP'
  have nPI : I ≠ P := fun q => by have := R.live hP; rw [← q, nI] at this; exact ftE this
  have eI3 := hk₃ _ _ eI nPI
  have hI3 : I < h₃.objs.size := Heap.lt_size eI3
  have Ts : ∃ Ts : Nat → Addr, ∃ vals : Nat → Array Value, ∀ j, j < ws.toArray.size → ws.toArray[j]? = some (.ref (Ts j)) ∧ s.heap.IsTuple (Ts j) (vals j) ∧ ∃ la lb ta tb, prs[j]? = some (la, lb) ∧ vals j = #[.str ⟨la.toArray⟩ ta, .str ⟨lb.toArray⟩ tb] := by
    have key : ∀ j : Nat, ∃ T : Addr, ∃ v : Array Value, j < ws.toArray.size → ws.toArray[j]? = some (.ref T) ∧ s.heap.IsTuple T v ∧ ∃ la lb ta tb, prs[j]? = some (la, lb) ∧ v = #[.str ⟨la.toArray⟩ ta, .str ⟨lb.toArray⟩ tb] := fun j => by
      by_cases hj : j < ws.toArray.size
      · have hj' : j < prs.length := by rw [← hlen]; simpa using hj
        refine ex3_2 (hat j prs[j] (List.getElem?_eq_getElem hj')) fun T ta tb e1 e2 => ?_
        exact ⟨T, _, fun zz => ⟨by simpa using e1, e2, prs[j].1, prs[j].2, ta, tb, List.getElem?_eq_getElem hj', rfl⟩⟩
      · exact ⟨0, #[], fun q => absurd q hj⟩
    exact ⟨fun j => (key j).choose, fun j => (key j).choose_spec.choose, fun j hj => (key j).choose_spec.choose_spec hj⟩
  revert Ts; refine fun h0 => ex2_1 h0 fun Ts vals hT' => ?_; clear h0
  have imTup : ∀ T v, s.heap.IsTuple T v → T ≠ P := fun T v ht q => by
    obtain ⟨ot, e1, e2, nt, e3⟩ := ht
    exact R.inv.immOff e1 (.inl ⟨.inl e2, fun zz zz q => (by rw [e3] at q; cases q), fun zz q => (by rw [e3] at q; cases q)⟩) (q ▸ hP)
  have tlt : ∀ j, j < ws.toArray.size → Ts j < I := fun j hj => by
    obtain ⟨_, ⟨ot, e1, _⟩, _⟩ := hT' j hj
    have := Heap.lt_size e1
    rwa [hI] at this
  have xP : x ≠ P := fun q => by
    obtain ⟨P', hP', ep, pst, hPo, _⟩ := R.inv.get hk
    subst ep
    rw [← q, g] at hPo; cases hPo
  have up3 : ∀ b o, s.heap.get? b = some o → b ≠ P → h₃.get? b = some o := fun b o e n => hk₃ b o (push_keep b o e) n
  have g3 := up3 _ _ g xP
  have xI : x ≠ I := Nat.ne_of_lt hxl
  have W0 := fun (A' : Around) (hA : A'.handled = none) => walkInst (prog := prog) (w := w) hA I x xI ws.toArray Ts vals ⟨.ref C, some dx, .seq ws.toArray m, #[]⟩ m rfl (fun j hj => (hT' j hj).1) fun j hj => Nat.ne_of_lt (tlt j hj)
  have sz : ws.toArray.size = prs.length := by simpa using hlen
  have tup3 : ∀ j, j < ws.toArray.size → h₃.IsTuple (Ts j) (vals j) := fun j hj => by
    have t0 := (hT' j hj).2.1
    exact t0.at fun o e => up3 _ _ e (imTup _ _ t0)
  refine ⟨I, _, _, ws.toArray.size, _, _, _, fun zz => true, F, rfl, W0, fun j v hv => ?_, ⟨⟨_, eI3, rfl, rfl⟩, g3, tup3⟩, fun b hb => ?_, ?_, ?_, fun href hhref => ⟨fun A' E' j va vb s₂ m₂ hA hD hU hPt hn ha hb hkp => ?_, fun A' E' j va vb s₂ m₂ hA hD hU hPt zz hn ha hb hkp => ?_⟩, fun a h₅ tk₅ gs hgb hag hsz₅ hk₅ W hat₅ => ?_⟩
  · revert hv; refine fun h0 => ex0_2 h0 fun hj Z1 => ?_; clear h0; subst Z1
    obtain ⟨_, _, la, lb, ta, tb, _, e⟩ := hT' j hj
    exact ⟨_, _, e⟩
  · rcases List.mem_cons.mp hb with rfl | hb
    · exact hI3
    · rcases List.mem_cons.mp hb with rfl | hb
      · exact Heap.lt_size g3
      · refine ex1_2 (List.mem_map.mp hb) fun j hj Z1 => ?_; subst Z1
        exact Nat.lt_trans (tlt j (List.mem_range.mp hj)) hI3
  · revert lim; refine fun h0 => ex1_2 h0 fun mc a b => ?_; clear h0; exact ⟨mc, a.keeps R3.keep, b⟩
  · intro q
    have e1 : cStatics = I := List.mem_singleton.mp q
    revert lim; refine fun h0 => ex1_2 h0 fun mc hn zz => ?_; clear h0
    have hn' := hn.keeps R.keep
    revert hn'; refine fun h0 => ex3_2 h0 fun oo zz zz e2 zz => ?_; clear h0
    rw [e1, nI] at e2; exact noneE e2
  · exact wpAny_pure ⟨rfl, ⟨_, _, rfl, fun zz zz e => e⟩⟩
  · revert hPt; refine fun h0 => ex0_2 h0 fun hj e => ?_; clear h0
    obtain ⟨_, _, la, lb, ta, tb, e1, e2⟩ := hT' j hj
    rw [e2] at e
    obtain ⟨rfl, rfl⟩ : va = .str ⟨la.toArray⟩ ta ∧ vb = .str ⟨lb.toArray⟩ tb := by simpa using congrArg Array.toList e
    refine hE j la lb ta tb hA ⟨SC.kind, Ev.gl, rfl, SC.hx, SC.hy, SC.dx, SC.dy⟩ rfl (fun b o e => ?_) hn e1 ha hb
    have e3 := R3.keep _ _ e
    refine hkp b (List.mem_range.mpr (Heap.lt_size e3)) (fun q => ?_) o (hhref _ _ e3)
    have := R.keep _ _ e
    rw [List.mem_singleton.mp q, nI] at this; exact noneE this
  · have hC3 : h₃.get? h₃.objs.size = none := get_size
    have n3 : (passing (fun zz => true) ws.toArray.size 0).length = prs.length := by rw [passing_all, List.length_range, sz]
    have F3 : ∀ j y, (∃ i, (passing (fun zz => true) ws.toArray.size 0)[j]? = some i ∧ F i y) ↔ (j < prs.length ∧ F j y) := fun j y => by
      rw [passing_all, sz]
      constructor
      · rintro ⟨i, e, hF⟩
        refine ex1_1 (List.getElem?_eq_some_iff.mp e) fun hj e => ?_
        rw [List.getElem_range] at e
        subst e
        exact ⟨by simpa using hj, hF⟩
      · rintro ⟨hj, hF⟩
        exact ⟨j, by rw [List.getElem?_eq_getElem (by simpa using hj), List.getElem_range], hF⟩
    have W' : WalksS prog w A.in4 a (a :: h₃.objs.size :: List.range h₃.objs.size) (h₃.objs.size :: [I]) (GenOnlyQ s.gens.size) prs.length F (GenAt prog w A.in4 a s.gens.size h₃.objs.size (List.range h₃.objs.size) [I] (fun zz => true) ws.toArray.size F) :=
      { W with
        item := fun i s Q E hi st hQ => W.item i s Q E (by rw [n3]; exact hi) st fun v s' hp hs hm => hQ v s' ((F3 i v).mp hp).2 hs hm
        done := fun s Q E st hQ => W.done s Q E (by rw [n3]; exact st) hQ }
    refine hQ a _ _ _ _ _ W' hat₅ (fun i s' st => st.1.typeIs) (List.mem_cons_self ..) (fun b hb => ?_) (fun b o e n => hk₅ _ _ (up3 b o e n)) fun s' hm => ?_
    · show b < h₅.objs.size
      rw [hsz₅]
      rcases List.mem_cons.mp hb with rfl | hb
      · exact Nat.lt_succ_self _
      · rcases List.mem_cons.mp hb with rfl | hb
        · exact Nat.lt_succ_of_lt hag
        · exact Nat.lt_succ_of_lt (Nat.lt_trans (List.mem_range.mp hb) hag)
    · have kk : ∀ b o, h₃.get? b = some o → b ≠ I → s'.heap.get? b = some o := fun b o e n => hm.heap b o (fun q => by
        rcases List.mem_cons.mp q with q | q
        · rw [q, hC3] at e; exact noneE e
        · exact n (List.mem_singleton.mp q)) (hk₅ _ _ e)
      have tI : hT.get? I = none := by
        cases e : hT.get? I with
        | none => rfl
        | some o => have := R.keep _ _ e; rw [nI] at this; exact noneE this
      have Of : Off hT ρ L h₃ I := ⟨fun q => (by have := R.live q; rw [nI] at this; exact ftE this), fun q => (by have := R.liveL; rw [← q, nI] at this; exact ftE this), tI,
        fun o e => (by rw [eI3] at e; revert e; refine someC fun h => ?_; subst h; exact notImmB rfl rfl), by rw [eI3]; rfl⟩
      have R' := R3.other Of kk
      refine ⟨?_, R', ⟨hm.os, fun z => ?_⟩⟩
      · have S3' := S2.trans S3
        exact ⟨S3'.pre, fun b o e n1 n2 => kk _ _ (S3'.fm b o e n1 n2) (fun q => by rw [q, nI] at e; exact noneE e), fun b e => by
          refine ex1_1 (Option.isSome_iff_exists.mp (S3'.live b e)) fun o e' => ?_
          have nb : b ≠ I := fun q => by rw [q, nI] at e; exact ftE e
          rw [kk _ _ e' nb]; rfl, S3'.fresh⟩
      · exact AllBare.movedS (z.push hgb) hm
end
end Mine
namespace Mine
structure GRec where
  sum : Bool
  k : Nat
  P : Addr
  C : Addr
noncomputable def wtA : List (List Nat × List Nat) → Nat
  | [] => 0
  | p :: r => p.1.length + p.2.length + wtA r
noncomputable def catA : List (List Nat × List Nat) → List Nat
  | [] => []
  | p :: r => (p.1 ++ p.2) ++ catA r
noncomputable def orcG (GN : Addr → Option GRec) (a : Addr) (args : List AV) (hp : List AO) : Option (AV × List AO) := (GN a).bind fun N => match args with
  | [.ref i] => match hp[i]? with
    | some (.inst C dd (some its)) => bif Nat.beq C N.C then (pairsA its).bind fun prs => match hp[N.k]? with
      | some (.tab P none) => bif Nat.beq P N.P && Nat.ble (wtA prs + prs.length) 100000 then (match N.sum with
        | true => match hp[dd]? with
          | some (.dict m) => match lk (Str.ofString "_initial_size") m with
            | some (.int n) => some (.int (n + wtA prs), hp)
            | _ => none
          | _ => none
        | false => some (.str (catA prs), hp)) else none
      | _ => none
      else none
    | _ => none
  | _ => none
inductive SumF : List Stmt → Prop
  | mk (x y : Str) (p0 p1 p2 p3 p4 p5 p6 p7 pa pb pt : Pos) (kt : Nat) (ps : Pos) (scope : Scope) (pos p8 p9 pos2 rp : Pos) : GenScOk scope x y → scope.names.lookup ("len" : Str) = some NameKind.globalImplicit → clA [] scope.names [] = some [] →
      SumF [.Return (some (.Call (.Name "sum" p0) [.GeneratorExp (.BinOp (.Call (.Name "len" p1) [.Name x p2] [] p3) .Add (.Call (.Name "len" p4) [.Name y p5] [] p6) p7) [⟨.Tuple [.Name x pa, .Name y pb] kt pt, .Name "self" ps, [], 0⟩] scope pos,
          .Attribute (.Name "self" p8) "_initial_size" p9] [] pos2)) rp]
inductive JoinF : List Stmt → Prop
  | mk (x y : Str) (p0 p1 p2 p3 p4 p5 p6 : Pos) (n7 : Nat) (pa pb pt : Pos) (kt : Nat) (ps : Pos) (scope : Scope) (pos apos pos2 rp : Pos) : GenScOk scope x y → scope.names.lookup ("EMPTYSTRING" : Str) = some NameKind.globalImplicit → clA [] scope.names [] = some [] → Nat.beq p2.endLine p6.line = true → Nat.beq apos.endLine pos2.line = true →
      JoinF [.Return (some (.Call (.Attribute (.Name "EMPTYSTRING" p0) "join" apos) [.GeneratorExp (.Call (.Attribute (.Name "EMPTYSTRING" p1) "join" p2) [.Tuple [.Name x p3, .Name y p4] n7 p5] [] p6) [⟨.Tuple [.Name x pa, .Name y pb] kt pt, .Name "self" ps, [], 0⟩] scope pos] [] pos2)) rp]
structure GenFnOk (hT : Heap) (K : Frag) (N : GRec) (r : FnRec) : Prop where
  plain : r.cellful = false
  pars : r.pars = [("self" : Str)]
  dflt : r.dflt = []
  inn : K.In hT
  it : findIn K (.ref N.C) "__iter__" = some (some (.builtin "list.__iter__"))
  sub : subIn K (.ref N.C) (.type "list") = some true
  self : r.scope.names.lookup ("self" : Str) = some NameKind.local
  tab : ∃ c, r.fd.code = .ref c ∧ GenTabOk hT c N.P
  body : (N.sum = true ∧ OwnOk K N.C "_initial_size" ∧ r.scope.names.lookup ("sum" : Str) = some NameKind.globalImplicit ∧ GlobIs hT "sum" (.builtin "sum") ∧ GlobIs hT "len" (.builtin "len") ∧
      SumF r.body) ∨
    (N.sum = false ∧ r.scope.names.lookup ("EMPTYSTRING" : Str) = some NameKind.globalImplicit ∧ (∃ te, GlobIs hT "EMPTYSTRING" (.str ⟨#[]⟩ te)) ∧
      JoinF r.body)
noncomputable def lenAt (prs : List (List Nat × List Nat)) (j : Nat) : Int := match prs[j]? with
  | some p => (p.1.length : Int) + p.2.length
  | none => 0
theorem preSum_snoc (prs : List (List Nat × List Nat)) (p : List Nat × List Nat) : ∀ n, n ≤ prs.length → preSum (lenAt (p :: prs)) (n + 1) = ((p.1.length : Int) + p.2.length) + preSum (lenAt prs) n
  | 0, _ => by simp [preSum, lenAt]
  | n + 1, h => by
    have := preSum_snoc prs p n (Nat.le_of_succ_le h)
    rw [preSum, this]
    show _ + lenAt (p :: prs) (n + 1) = _ + preSum (lenAt prs) (n + 1)
    rw [preSum, Int.add_assoc]
    rfl
theorem preSum_len : ∀ prs : List (List Nat × List Nat), preSum (lenAt prs) prs.length = (wtA prs : Int)
  | [] => rfl
  | p :: r => by
    rw [List.length_cons, preSum_snoc r p _ (Nat.le_refl _), preSum_len r]
    rw [wtA]
    push_cast
    rfl
theorem wtA_mem : ∀ {prs : List (List Nat × List Nat)} {p : List Nat × List Nat}, p ∈ prs → p.1.length + p.2.length ≤ wtA prs
  | q :: r, p, h => by
    unfold wtA
    rcases List.mem_cons.mp h with rfl | h
    · omega
    · have := wtA_mem h; omega
theorem catA_join : ∀ prs : List (List Nat × List Nat), joinL [] (prs.map fun p => p.1 ++ p.2) = catA prs
  | [] => rfl
  | [p] => by simp [joinL, catA]
  | p :: q :: r => by
    have := catA_join (q :: r)
    rw [catA, ← this, List.map_cons, List.map_cons]
    simp [joinL]
section
variable {prog : Program} {w : World} {hT : Heap} {A : Around} {L : Addr} {ρ ρ₀ : List Addr} {s s₀ : Shared} {σ σ' : St} {ae : AE} {v : AV} {n : Nat} {ih : IH} {T : Tab} {TC : TabC} {f : Fl} {K : Frag} {C a : Addr} {r : FnRec} {E : Value → Shared → Prop} {env : Env}
set_option tactic.hygienic true in
theorem orcG_sound {GN : Addr → Option GRec} (TF : TabFOk T hT) (GO : ∀ a N, GN a = some N → ∃ r, T.fn a = some r ∧ GenFnOk hT K N r) (c : Cx A (n + 1)) (lim : hT.NoLimit) (R : Rel hT ρ L σ s.heap) {args : List AV} {vs : List Value} (V : VRs ρ s.heap args vs) {hp' : List AO} (e : orcG GN a args σ.hp = some (v, hp')) :
    codeAny (model prog w) A (.call (.ref a) ⟨vs, []⟩) (RetR (Post hT L ρ s ⟨hp', σ.loc⟩ (fun ρ' h' u => VR ρ' h' v u))) s := by
  unfold orcG at e
  revert e; refine bindE fun N hN e => ?_
  refine ex1_2 (GO a N hN) fun r hr GF => ?_
  split at e
  · rename_i i
    split at e
    · rename_i C' dd its hi
      revert e; refine condE fun hC e => ?_
      revert e; refine bindE fun prs hprs e => ?_
      split at e
      · rename_i P' hk
        revert e; refine condE fun hb e => ?_
        refine ex0_2 (Bool.and_eq_true_iff.mp hb) fun hb1 hb2 => ?_
        have hw := Nat.le_of_ble_eq_true hb2
        have eC := Nat.eq_of_beq_eq_true hC
        have eP := Nat.eq_of_beq_eq_true hb1
        rw [eC] at hi
        rw [eP] at hk
        clear hC hb hb1 hb2 eC eP
        refine ex1_2 GF.tab fun cc hcc GT => ?_
        have Fk := TF.fn a r hr
        have hbs : bindsA r [AV.ref i] = some [(("self" : Str), AV.ref i)] := by unfold bindsA; rw [GF.pars, GF.dflt]; rfl
        have fin : ∀ {A' : Around} {L' : Addr} {ρ' : List Addr} {s' : Shared}, Cx A' n → Rel hT ρ' L' ⟨σ.hp, [(("self" : Str), AV.ref i)]⟩ s'.heap → EnvR ρ' L' ⟨r.scope, [], some (a, r.fd)⟩ (callEnv r.fd L' a) → hp' = σ.hp ∧ Tri prog w hT A' L' ρ' s' (execs r.body (callEnv r.fd L' a)) ⟨σ.hp, [(("self" : Str), AV.ref i)]⟩ (fun ρ' h' g => FlR ρ' h' (.ret v) g) := by
          intro A' L' ρ' s' c' R' Ev'
          have hek : (callEnv r.fd L' a).scope.kind = .function := by rw [Ev'.sc]; exact Ev'.kind
          have hko : ∀ z : Str, (callEnv r.fd L' a).kindOf z = r.scope.names.lookup z := fun z => by rw [Ev'.kindOf, lk_eq]
          have hroom : A'.depth < recursionLimit := by have := c'.depth; omega
          rcases GF.body with ⟨h1, hown, hks, hgs, hgl, hbF⟩ | ⟨h1, hks, ⟨te, hge⟩, hbF⟩
          · rw [h1] at e
            dsimp only at e
            split at e
            · rename_i m hd
              split at e
              · rename_i nn hnn
                have e1 := Prod.mk.inj (Option.some.inj e)
                refine ⟨e1.2.symm, ?_⟩
                rw [← e1.1]
                generalize r.body = bd at hbF ⊢
                obtain ⟨x, y, p0, p1, p2, p3, p4, p5, p6, p7, pa, pb, pt, kt, ps, scope, pos, p8, p9, pos2, rp, SC, hsl, hcs⟩ := hbF
                refine wpAny_execs_split (wpAny_Return_some ?_)
                refine wpAny_Call_Name_kw (wpAny_Name (ks_loadName_global hek ((hko _).trans hks) (hgs.load' R'.keep Ev'.gl Ev'.bl ?_)))
                refine PyProof.Rows.callWith_builtin1 (spliced_cons ?_)
                refine genInst (k := N.k) (i := i) (dd := dd) (its := its) (prs := prs) (F := fun j y => ∃ t, y = .int (lenAt prs j) t) c'.hd hroom lim GT hcc SC R' Ev' hk hcs rfl GF.self hi hprs GF.inn GF.it GF.sub ?_ ?_
                · intro A'' E' s₂ m₂ cenv j la lb ta tb hA Gv hsc hkp hns hpj ma mb
                  have hm := wtA_mem (List.mem_of_getElem? hpj)
                  refine wpAny_mono (elt_lens Gv (by rw [hsc]; exact hsl) hgl hkp hns ma mb (by dsimp only at hm; omega) (by dsimp only at hm; omega)) (fun y s₃ hy => ?_) fun zz zz z => z
                  obtain ⟨⟨t, rfl⟩, hk'⟩ := hy
                  refine ⟨⟨t, ?_⟩, hk'⟩
                  unfold lenAt
                  rw [hpj]
                · intro ga s₅ fp wr g St W hst hTy ha hfp hkp hmv
                  refine ex1_2 R'.ns fun fL FL GL => ?_
                  have hu := GL ("self" : Str) (.ref i) rfl
                  revert hu; refine fun h0 => ex1_2 h0 fun u hu Vu => ?_; clear h0
                  refine ex5_12 (inst_at R' hi hd Vu) fun xx dx ox es kk Z1 hx hdx g1 g2 g3 g4 g5 g6 k1 k2 k3 => ?_; subst Z1
                  obtain ⟨P₂, hP₂, ep, pst, hPo, _⟩ := R'.inv.get hk
                  rw [ep] at hP₂ hPo
                  have nL : L' ≠ N.P := fun q => R'.offL (q ▸ List.mem_of_getElem? hP₂)
                  have nx : xx ≠ N.P := fun q => by rw [q, hPo] at g1; revert g1; refine someC fun h => ?_; subst h; cases g2
                  have nd : dx ≠ N.P := fun q => by rw [q, hPo] at g6; cases g6
                  have g1' := hkp _ _ g1 nx
                  have g6' := hkp _ _ g6 nd
                  have FL5 : s₅.heap.Ns L' fL := Ns.at FL fun o e => hkp _ _ e nL
                  have hT5 : ∀ b o, hT.get? b = some o → s₅.heap.get? b = some o := fun b o e => hkp _ _ (R'.keep _ _ e) fun q => by
                    have := R'.off N.P (List.mem_of_getElem? hP₂)
                    rw [q, this] at e; exact noneE e
                  refine ex1_2 ((k3 ("_initial_size" : Str)).1 (.int nn) hnn) fun uu huu Uu => ?_
                  cases Uu with
                  | int _ tn =>
                    refine spliced_cons ?_
                    rw [arm_eval_Attribute, attrBase_plain (by rfl)]
                    refine wpAny_bind (wpAny_Name (wpAny_loadName_local hek ((hko _).trans GF.self) FL5 hu ?_))
                    refine wpAny_bind (wpAny_standAt (wpAny_bind (wpAny_holding ?_)))
                    refine get_ownA (GF.inn.keeps hT5) (instAt_of g1' g2 g3 g5 g6') hown.get (findObj_own hown.dict hown.find rfl (by rw [lookIn_dict, getL_of k1]; exact congrArg some huu)) rfl ?_
                    refine wpAny_bind (wpAny_letTemporaryGo (wpAny_pure ?_))
                    refine spliced_nil (call_sum2 (val := lenAt prs) W.in4_1 (W.frame 0 s₅ s₅.heap _ hst (Nat.le_succ _) fun zz zz zz e => e) hfp (fun j y hy => hy) fun s₇ t₇ hm => ?_)
                    refine ex0_3 (hmv s₇ ⟨hm.heap, hm.gens, hm.drawn, hm.os, Nat.le_trans (Nat.le_succ _) hm.toks⟩) fun q1 q2 q3 => ?_
                    rw [preSum_len]
                    exact (Post.mk q1 q2 q3 (.int _ _))
              · exact noneE e
            · exact noneE e
          · rw [h1] at e
            dsimp only at e
            have e1 := Prod.mk.inj (Option.some.inj e)
            refine ⟨e1.2.symm, ?_⟩
            rw [← e1.1]
            generalize r.body = bd at hbF ⊢
            obtain ⟨x, y, p0, p1, p2, p3, p4, p5, p6, n7, pa, pb, pt, kt, ps, scope, pos, apos, pos2, rp, SC, hsl, hcs, hp1, hp2⟩ := hbF
            refine wpAny_execs_split (wpAny_Return_some ?_)
            rw [arm_eval_Call, attrBase_plain (by rfl)]
            refine wpAny_bind (wpAny_Name (ks_loadName_global hek ((hko _).trans hks) (hge.load' R'.keep Ev'.gl Ev'.bl ?_)))
            refine wpAny_bind (wpAny_standAt ?_)
            unfold methodCall
            refine wpAny_bind (wpAny_holding ?_)
            show wpAny _ _ (calleeOf true _ _ _ _) _ _ _
            unfold calleeOf
            simp only [if_true]
            refine GM.join ?_
            have e4 : (methodCallPos true (.Name "EMPTYSTRING" p0) (callEnv r.fd L' a) apos pos2) = pure pos2 := by
              unfold methodCallPos
              rw [if_pos (by rw [Nat.eq_of_beq_eq_true hp2]; simp)]
            show wpAny _ _ (methodCallPos true _ _ _ _ >>= _) _ _ _
            rw [e4]
            refine wpAny_bind (wpAny_pure ?_)
            refine Calls.callWith_builtin rfl (evalArgs_plain (spliced_cons ?_))
            refine genInst (k := N.k) (i := i) (dd := dd) (its := its) (prs := prs) (F := fun j y => ∃ t p, prs[j]? = some p ∧ y = .str ⟨(p.1 ++ p.2).toArray⟩ t) c'.hd hroom lim GT hcc SC R' Ev' hk hcs rfl GF.self hi hprs GF.inn GF.it GF.sub ?_ ?_
            · intro A'' E' s₂ m₂ cenv j la lb ta tb hA Gv hsc hkp hns hpj ma mb
              have hm := wtA_mem (List.mem_of_getElem? hpj)
              refine wpAny_mono (elt_join Gv (by rw [hsc]; exact hsl) hge hkp hns ma mb (by dsimp only at hm; omega) hp1) (fun y s₃ hy => ?_) fun zz zz z => z
              obtain ⟨⟨t, rfl⟩, hk'⟩ := hy
              exact ⟨⟨t, _, hpj, rfl⟩, hk'⟩
            · intro ga s₅ fp wr g St W hst hTy ha hfp hkp hmv
              refine spliced_nil (PySem.SC.joinGen W.in4_2 hTy hst hfp ha (fun j y hy => let ⟨t, p, _, e⟩ := hy; ⟨_, _, e⟩) (fun s₇ lt hm hacc => ?_) (by rw [sizeLine_eq]; omega))
              have hl : lt.map (·.1) = prs.map fun p => (⟨(p.1 ++ p.2).toArray⟩ : Str) := by
                have hsz : lt.length = prs.length := by simpa [strValues] using hacc.1
                apply List.ext_getElem?
                intro j
                by_cases hj : j < prs.length
                · have hj' : j < lt.length := by omega
                  refine ex2_2 (hacc.2 j (.str lt[j].1 lt[j].2) (by simp [strValues, List.getElem?_eq_getElem hj'])) fun u p hp hv => ?_
                  injection hv with h1 _
                  rw [List.getElem?_map, List.getElem?_map, hp, List.getElem?_eq_getElem hj']
                  exact congrArg some h1
                · rw [List.getElem?_eq_none (by simp; omega), List.getElem?_eq_none (by simp; omega)]
              rw [hl]
              refine ⟨?_, fun t' k' => ?_⟩
              · have z := joinOk_filter (sep := ⟨#[]⟩) (ss := prs.map fun p => (⟨(p.1 ++ p.2).toArray⟩ : Str)) (pz := fun zz => true) ?_ (by show (0 : Nat) ≤ 14; omega)
                · rw [List.filter_eq_self.mpr (fun zz zz => rfl), List.map_id'] at z
                  exact z
                · have : ∀ l : List (List Nat × List Nat), ((l.map fun p => (⟨(p.1 ++ p.2).toArray⟩ : Str)).map (·.length)).sum = wtA l := by
                    intro l
                    induction l with
                    | nil => rfl
                    | cons p r ih => rw [List.map_cons, List.map_cons, List.sum_cons, ih, wtA, str_len, List.length_append]
                  rw [this, List.length_map]
                  omega
              · refine ex0_3 (hmv s₇ hm) fun q1 q2 q3 => ?_
                have e5 : Txt.join ⟨#[]⟩ (prs.map fun p => (⟨(p.1 ++ p.2).toArray⟩ : Str)) = ⟨(catA prs).toArray⟩ := by
                  unfold Txt.join
                  rw [PySem.StrLaws.glued_eq_join, ← catA_join]
                  have := joinL_eq [] (prs.map fun p => p.1 ++ p.2)
                  rw [List.map_map] at this
                  exact this
                rw [e5]
                exact (Post.mk q1 q2 ⟨q3.os, q3.gens⟩ (.str _ _))
        have e0 : hp' = σ.hp := by
          cases h1 : N.sum with
          | true =>
            rw [h1] at e
            dsimp only at e
            split at e
            · split at e
              · exact (Prod.mk.inj (Option.some.inj e)).2.symm
              · exact noneE e
            · exact noneE e
          | false =>
            rw [h1] at e
            exact (Prod.mk.inj (Option.some.inj e)).2.symm
        rw [e0]
        exact callA_plainX (f := .ret v) (σ₁ := ⟨σ.hp, [(("self" : Str), AV.ref i)]⟩) c lim R Fk GF.plain V hbs (fun c' R' Ev' => (fin c' R' Ev').2) rfl
      · exact noneE e
    · exact noneE e
  · exact noneE e
end
end Mine
namespace Mine
structure Cfg where
  T : Tab
  TC : TabC
  star : List ((Addr × Str) × Addr)
  mp : Addr → Option Addr
  ml : Addr → Option Addr
  NT : Addr → Option NRec
  SN : Addr → Option Addr
  GN : Addr → Option GRec
noncomputable def xtG (G : Cfg) (ih : IH) (ae : AE) (e : Expr) (σ : St) : Option (AV × St) := bif (compV e).isSome then compA G.T ih ae e σ else bif (callN e).isSome then cloCall G.T ih ae e σ else starA G.TC G.star ih ae e σ
noncomputable def makG (G : Cfg) (ih : IH) (C : Addr) (args : List AV) (hp : List AO) : Option (AV × List AO) := match G.mp C with
  | some fI => mkP ih C fI args hp
  | none => (G.ml C).bind fun fI => mkL ih C fI args hp
noncomputable def orcB (G : Cfg) (ih : IH) (a : Addr) (args : List AV) (hp : List AO) : Option (AV × List AO) := match G.GN a with
  | some _ => orcG G.GN a args hp
  | none => match G.SN a with
    | some _ => orcS G.SN G.T ih a args hp
    | none => orcN G.NT G.T ih a args hp
noncomputable def extG (G : Cfg) : Ext where
  xt := xtG G
  xst := asgComp G.T
  mak := makG G
  cl := cloA
  orc := orcB G
structure CfgOk (prog : Program) (hT : Heap) (G : Cfg) : Prop where
  all : AllOk G.T G.TC hT
  star : ∀ p ∈ G.star, StarOk G.TC.K p.1.1 p.1.2 p.2
  mp : ∀ C fI, G.mp C = some fI → MkOk G.TC.K C fI
  ml : ∀ C fI, G.ml C = some fI → MkLOk G.TC.K C fI
  nt : ∀ a N r, G.NT a = some N → G.T.fn a = some r → NestOk hT r.fd N
  sn : ∀ a C r, G.SN a = some C → G.T.fn a = some r → SupOk prog hT G.TC.K C r
  gn : ∀ a N, G.GN a = some N → ∃ r, G.T.fn a = some r ∧ GenFnOk hT G.TC.K N r
section
variable {prog : Program} {w : World} {hT : Heap} {G : Cfg}
set_option tactic.hygienic true in
theorem extG_ok (O : CfgOk prog hT G) : ExtOk prog w hT (extG G) where
  xt := fun {n ih} I {A L ρ s σ σ' env ae e v} c R Ev h => by
    change xtG G ih ae e σ = _ at h
    unfold xtG at h
    cases q : (compV e).isSome with
    | true => rw [q] at h; exact compA_sound O.all I c R Ev h
    | false =>
      rw [q, cond_false] at h
      cases q : (callN e).isSome with
      | true => rw [q] at h; exact cloCall_sound O.all I c R Ev h
      | false => rw [q] at h; exact starA_sound O.all.c O.star I c R Ev h
  xst := fun {n ih} I {A L ρ s σ σ' env ae st f} c R Ev h => asgComp_sound O.all I c R Ev h
  mak := fun {n ih A L ρ s σ C args vs v hp'} I c R V h => by
    change makG G ih C args σ.hp = _ at h
    unfold makG at h
    split at h
    · rename_i fI hm
      exact mkP_sound O.all.c I c (O.mp _ _ hm) R V h
    · revert h; refine bindE fun fI hm h => ?_
      exact mkL_sound O.all.c I c (O.ml _ _ hm) R V h
  cl := fun I c R F V h => cloA_sound I c O.all.t.lim R F V h
theorem orcB_sound (O : CfgOk prog hT G) {n : Nat} {ih : IH} {A : Around} {L : Addr} {ρ : List Addr} {s : Shared} {σ : St} {a : Addr} {args : List AV} {vs : List Value} {v : AV} {hp' : List AO} (I : IOk prog w hT (n + 3) ih) (c : Cx A (n + 4)) (R : Rel hT ρ L σ s.heap) (V : VRs ρ s.heap args vs) (h : orcB G ih a args σ.hp = some (v, hp')) :
    codeAny (model prog w) A (.call (.ref a) ⟨vs, []⟩) (RetR (Post hT L ρ s ⟨hp', σ.loc⟩ (fun ρ' h' u => VR ρ' h' v u))) s := by
  unfold orcB at h
  split at h
  · exact orcG_sound O.all.f O.gn c O.all.t.lim R V h
  · split at h
    · exact orcS_sound O.all.f O.sn I c O.all.t.lim R V h
    · exact orcN_sound O.all.f O.nt I c O.all.t.lim R V h
theorem orcB_ok (O : CfgOk prog hT G) : OrcOk prog w hT (extG G) 0 := ⟨fun zz I c R V h => orcB_sound O I c R V h⟩
theorem runB_ok (O : CfgOk prog hT G) (k : Nat) : IOk prog w hT (0 + k + 3) (runF G.T G.TC (extG G) k) := run_ok O.all (extG_ok O) (orcB_ok O) k
end
end Mine
namespace Mine
noncomputable def forceL {α β : Type} (l : List α) : (List α → β) → β := @List.rec α (fun zz => (List α → β) → β) (fun k => k []) (fun a zz ih k => ih fun r => k (a :: r)) l
theorem forceL_eq {α β : Type} : ∀ (l : List α) (k : List α → β), forceL l k = k l
  | [], k => rfl
  | a :: l, k => forceL_eq l fun r => k (a :: r)
noncomputable def forceO {β : Type} (o : AO) (k : AO → β) : β := match o with
  | .list l => forceL l fun l' => k (.list l')
  | .inst C d (some l) => forceL l fun l' => k (.inst C d (some l'))
  | .inst C d none => k (.inst C d none)
  | .dict m => forceL m fun m' => k (.dict m')
  | .cell v => k (.cell v)
  | .rit l i => k (.rit l i)
  | .tab P q => k (.tab P q)
  | .clos r cs => k (.clos r cs)
theorem forceO_eq {β : Type} (o : AO) (k : AO → β) : forceO o k = k o := by
  cases o with
  | inst C d its => cases its <;> first | rfl | exact forceL_eq _ _
  | list l => exact forceL_eq _ _
  | dict l => exact forceL_eq _ _
  | _ => rfl
noncomputable def forceH {β : Type} (l : List AO) : (List AO → β) → β := @List.rec AO (fun zz => (List AO → β) → β) (fun k => k []) (fun a zz ih k => forceO a fun a' => ih fun r => k (a' :: r)) l
theorem forceH_eq {β : Type} : ∀ (l : List AO) (k : List AO → β), forceH l k = k l
  | [], k => rfl
  | a :: l, k => by
    show forceO a (fun a' => forceH l fun r => k (a' :: r)) = _
    rw [forceO_eq, forceH_eq l]
end Mine
namespace Mine
noncomputable def defOf (s : Option Stmt) : Arguments × List Stmt × Scope := match s with
  | some (.FunctionDef _ a b _ _ _ sc _ _ _) => (a, b, sc)
  | _ => (⟨[], [], none, [], [], none, []⟩, [], default)
noncomputable def dN (i : Nat) : Arguments × List Stmt × Scope := defOf PySem.Challenge.pw_sr0087_01.main.body[i]?
noncomputable def mN (i j : Nat) : Arguments × List Stmt × Scope := match PySem.Challenge.pw_sr0087_01.main.body[i]? with
  | some (.ClassDef _ _ _ b _ _ _ _ _ _ _) => defOf b[j]?
  | _ => (⟨[], [], none, [], [], none, []⟩, [], default)
noncomputable def i0 : AV := .int 0
noncomputable def no : AV := .none
variable (F : Addr → FuncData)
noncomputable def r28 : FnRec := ⟨[Str.ofString "a", Str.ofString "b", Str.ofString "n"], [], (dN 3).2.1, (dN 3).2.2, false, F 28⟩
noncomputable def r35 : FnRec := ⟨[Str.ofString "a12", Str.ofString "a3", Str.ofString "b", Str.ofString "b1", Str.ofString "b2", Str.ofString "n"], [], (dN 4).2.1, (dN 4).2.2, false, F 35⟩
noncomputable def r42 : FnRec := ⟨[Str.ofString "a", Str.ofString "n"], [], (dN 5).2.1, (dN 5).2.2, true, F 42⟩
noncomputable def r49 : FnRec := ⟨[Str.ofString "digits", Str.ofString "n"], [], (dN 6).2.1, (dN 6).2.2, true, F 49⟩
noncomputable def r56 : FnRec := ⟨[Str.ofString "a", Str.ofString "b"], [], (dN 7).2.1, (dN 7).2.2, false, F 56⟩
noncomputable def r70 : FnRec := ⟨[Str.ofString "self", Str.ofString "headerlen", Str.ofString "maxlen", Str.ofString "continuation_ws", Str.ofString "splitchars"], [], (mN 11 0).2.1, (mN 11 0).2.2, false, F 70⟩
noncomputable def r77 : FnRec := ⟨[Str.ofString "self", Str.ofString "linesep"], [], (mN 11 1).2.1, (mN 11 1).2.2, false, F 77⟩
noncomputable def r91 : FnRec := ⟨[Str.ofString "self"], [], (mN 11 3).2.1, (mN 11 3).2.2, false, F 91⟩
noncomputable def r126 : FnRec := ⟨[Str.ofString "self", Str.ofString "fws", Str.ofString "string"], [], (mN 11 8).2.1, (mN 11 8).2.2, false, F 126⟩
noncomputable def r150 : FnRec := ⟨[Str.ofString "self", Str.ofString "initial_size"], [i0], (mN 12 0).2.1, (mN 12 0).2.2, false, F 150⟩
noncomputable def r157 : FnRec := ⟨[Str.ofString "self", Str.ofString "fws", Str.ofString "string"], [], (mN 12 1).2.1, (mN 12 1).2.2, false, F 157⟩
noncomputable def r165 : FnRec := ⟨[Str.ofString "self", Str.ofString "i"], [i0], (mN 12 2).2.1, (mN 12 2).2.2, false, F 165⟩
noncomputable def r173 : FnRec := ⟨[Str.ofString "self"], [], (mN 12 3).2.1, (mN 12 3).2.2, false, F 173⟩
noncomputable def r180 : FnRec := ⟨[Str.ofString "self"], [], (mN 12 4).2.1, (mN 12 4).2.2, false, F 180⟩
noncomputable def r187 : FnRec := ⟨[Str.ofString "self"], [], (mN 12 5).2.1, (mN 12 5).2.2, false, F 187⟩
noncomputable def r195 : FnRec := ⟨[Str.ofString "self", Str.ofString "startval"], [no], (mN 12 6).2.1, (mN 12 6).2.2, false, F 195⟩
noncomputable def r202 : FnRec := ⟨[Str.ofString "self"], [], (mN 12 7).2.1, (mN 12 7).2.2, false, F 202⟩
noncomputable def r210 : FnRec := ⟨[Str.ofString "self"], [], (mN 12 8).2.1, (mN 12 8).2.2, false, F 210⟩
noncomputable def r234 : FnRec := ⟨[Str.ofString "self", Str.ofString "ws"], [], (mN 14 1).2.1, (mN 14 1).2.2, false, F 234⟩
noncomputable def r290 : FnRec := ⟨[Str.ofString "whole", Str.ofString "most", Str.ofString "width"], [], (dN 16).2.1, (dN 16).2.2, false, F 290⟩
noncomputable def r297 : FnRec := ⟨[Str.ofString "parts", Str.ofString "left", Str.ofString "counts"], [], (dN 17).2.1, (dN 17).2.2, false, F 297⟩
noncomputable def r302 : FnRec := ⟨[Str.ofString "place", Str.ofString "left", Str.ofString "counts"], [], (dN 18).2.1, (dN 18).2.2, true, F 302⟩
noncomputable def r307 : FnRec := ⟨[Str.ofString "script"], [], (dN 19).2.1, (dN 19).2.2, true, F 307⟩
noncomputable def fnT (a : Addr) : Option FnRec := (bif Nat.blt a 165 then (bif Nat.blt a 70 then (bif Nat.blt a 42 then (bif Nat.blt a 35 then (bif Nat.beq a 28 then some (r28 F) else none) else (bif Nat.beq a 35 then some (r35 F) else none)) else (bif Nat.blt a 49 then (bif Nat.beq a 42 then some (r42 F) else none) else (bif Nat.blt a 56 then (bif Nat.beq a 49 then some (r49 F) else none) else (bif Nat.beq a 56 then some (r56 F) else none)))) else (bif Nat.blt a 126 then (bif Nat.blt a 77 then (bif Nat.beq a 70 then some (r70 F) else none) else (bif Nat.blt a 91 then (bif Nat.beq a 77 then some (r77 F) else none) else (bif Nat.beq a 91 then some (r91 F) else none))) else (bif Nat.blt a 150 then (bif Nat.beq a 126 then some (r126 F) else none) else (bif Nat.blt a 157 then (bif Nat.beq a 150 then some (r150 F) else none) else (bif Nat.beq a 157 then some (r157 F) else none))))) else (bif Nat.blt a 210 then (bif Nat.blt a 187 then (bif Nat.blt a 173 then (bif Nat.beq a 165 then some (r165 F) else none) else (bif Nat.blt a 180 then (bif Nat.beq a 173 then some (r173 F) else none) else (bif Nat.beq a 180 then some (r180 F) else none))) else (bif Nat.blt a 195 then (bif Nat.beq a 187 then some (r187 F) else none) else (bif Nat.blt a 202 then (bif Nat.beq a 195 then some (r195 F) else none) else (bif Nat.beq a 202 then some (r202 F) else none)))) else (bif Nat.blt a 297 then (bif Nat.blt a 234 then (bif Nat.beq a 210 then some (r210 F) else none) else (bif Nat.blt a 290 then (bif Nat.beq a 234 then some (r234 F) else none) else (bif Nat.beq a 290 then some (r290 F) else none))) else (bif Nat.blt a 302 then (bif Nat.beq a 297 then some (r297 F) else none) else (bif Nat.blt a 307 then (bif Nat.beq a 302 then some (r302 F) else none) else (bif Nat.beq a 307 then some (r307 F) else none))))))
noncomputable def glb : List (Str × AV) := [(Str.ofString "len", .bi .len), (Str.ofString "divmod", .bi .divmod), (Str.ofString "max", .bi .max), (Str.ofString "sum", .bi .sum), (Str.ofString "sorted", .bi .sorted), (Str.ofString "range", .bi .range), (Str.ofString "reversed", .bi .reversed), (Str.ofString "tuple", .bi .tuple), (Str.ofString "str", .bi .str), (Str.ofString "_DIV_LIMIT", .int 4000), (Str.ofString "_div2n1n", .fn 28), (Str.ofString "_div3n2n", .fn 35), (Str.ofString "_int2digits", .fn 42), (Str.ofString "_digits2int", .fn 49), (Str.ofString "_divmod_pos", .fn 56), (Str.ofString "NL", .str [10]), (Str.ofString "EMPTYSTRING", .str []), (Str.ofString "_ValueFormatter", .cls 129), (Str.ofString "_Accumulator", .cls 213), (Str.ofString "Whitespace", .cls 279), (Str.ofString "_law_counts", .fn 290), (Str.ofString "_law_place", .fn 297), (Str.ofString "_law_parts", .fn 302)]
noncomputable def tabG : Tab := ⟨glb, fnT F⟩
noncomputable def ownT : List (Addr × Str) := [(129, Str.ofString "_maxlen"), (129, Str.ofString "_continuation_ws"), (129, Str.ofString "_continuation_ws_len"), (129, Str.ofString "_splitchars"), (129, Str.ofString "_lines"), (129, Str.ofString "_current_line"), (213, Str.ofString "_initial_size"), (279, Str.ofString "raw"), (279, Str.ofString "n"), (279, Str.ofString "nt"), (279, Str.ofString "norm"), (279, Str.ofString "is_simple")]
noncomputable def metT : List ((Addr × Str) × AV) := [((129, Str.ofString "__init__"), .fn 70), ((129, Str.ofString "_str"), .fn 77), ((129, Str.ofString "newline"), .fn 91), ((129, Str.ofString "_append_chunk"), .fn 126), ((213, Str.ofString "__init__"), .fn 150), ((213, Str.ofString "push"), .fn 157), ((213, Str.ofString "pop_from"), .fn 165), ((213, Str.ofString "pop"), .fn 173), ((213, Str.ofString "__len__"), .fn 180), ((213, Str.ofString "__str__"), .fn 187), ((213, Str.ofString "reset"), .fn 195), ((213, Str.ofString "is_onlyws"), .fn 202), ((213, Str.ofString "part_count"), .fn 210), ((213, Str.ofString "append"), .bi .append), ((279, Str.ofString "__init__"), .fn 234)]
noncomputable def catT : List ((Addr × Str) × AV) := [((279, Str.ofString "S"), .str [32]), ((279, Str.ofString "T"), .str [9])]
noncomputable def tabC (K : Frag) : TabC := ⟨K, ownT, metT, catT, [213], [129, 213, 279], [213]⟩
noncomputable def starT : List ((Addr × Str) × Addr) := [((213, Str.ofString "push"), 157)]
noncomputable def mpT (C : Addr) : Option Addr := bif Nat.beq C 129 then some 70 else bif Nat.beq C 279 then some 234 else none
noncomputable def mlT (C : Addr) : Option Addr := bif Nat.beq C 213 then some 150 else none
noncomputable def n42 : NRec := ⟨0, 37, Str.ofString "_int2digits.<locals>.inner"⟩
noncomputable def n49 : NRec := ⟨1, 44, Str.ofString "_digits2int.<locals>.inner"⟩
noncomputable def ntT (a : Addr) : Option NRec := bif Nat.beq a 42 then some n42 else bif Nat.beq a 49 then some n49 else none
noncomputable def snT (a : Addr) : Option Addr := bif Nat.beq a 150 then some 213 else bif Nat.beq a 173 then some 213 else bif Nat.beq a 210 then some 213 else none
noncomputable def gnT (a : Addr) : Option GRec := bif Nat.beq a 180 then some ⟨true, 2, 175, 213⟩ else bif Nat.beq a 187 then some ⟨false, 3, 182, 213⟩ else none
noncomputable def cfg (K : Frag) : Cfg := ⟨tabG F, tabC K, starT, mpT, mlT, ntT, snT, gnT⟩
noncomputable def run0 (K : Frag) (k : Nat) : IH := runF (tabG F) (tabC K) (extG (cfg F K)) k
noncomputable def hp4 : List AO := [.tab 37 (some n42.q), .tab 44 (some n49.q), .tab 175 none, .tab 182 none]
end Mine
namespace Mine
noncomputable def kAddrs : List Nat := [213, 212, 129, 128, 279, 278, 157, 70, 77, 91, 126, 150, 165, 173, 180, 187, 195, 202, 210, 234, 0, 2, 3]
noncomputable def tabAddrs : List Nat := [37, 44, 175, 182]
noncomputable def kOf (h : Heap) : Frag := kAddrs.filterMap fun a => (h.get? a).map fun o => (a, o)
theorem kOf_get {h : Heap} {a : Addr} {o : Obj} (e : (kOf h).lookup a = some o) : h.get? a = some o ∧ a ∈ kAddrs := by
  have m := mem_of_lookupK e
  refine ex1_2 (List.mem_filterMap.mp m) fun b hb q => ?_
  refine ex1_2 (Option.map_eq_some_iff.mp q) fun o' ho q => ?_
  cases q
  exact ⟨ho, hb⟩
noncomputable def hidden (h : Heap) : Heap := hideAll h tabAddrs
noncomputable def L (s : String) : Str := Str.ofString s
noncomputable def bi (s : String) : Option (Option Value) := some (some (.builtin s))
noncomputable def rf (a : Nat) : Option (Option Value) := some (some (.ref a))
noncomputable def no' : Option (Option Value) := some none
noncomputable def fnd : List ((Nat × Str) × Option (Option Value)) :=
  [((213, L "__getattribute__"), bi "list.__getattribute__"), ((213, L "__getattr__"), no'), ((213, L "__bool__"), no'), ((213, L "__getitem__"), bi "list.__getitem__"), ((213, L "__setitem__"), bi "list.__setitem__"),
   ((213, L "__iter__"), bi "list.__iter__"), ((213, L "__setattr__"), bi "object.__setattr__"), ((213, L "_initial_size"), no'), ((213, L "__init__"), rf 150), ((213, L "push"), rf 157), ((213, L "pop_from"), rf 165), ((213, L "pop"), rf 173),
   ((213, L "__len__"), rf 180), ((213, L "__str__"), rf 187), ((213, L "reset"), rf 195), ((213, L "is_onlyws"), rf 202), ((213, L "part_count"), rf 210), ((213, L "append"), bi "list.append"),
   ((129, L "__getattribute__"), bi "object.__getattribute__"), ((129, L "__getattr__"), no'), ((129, L "__setattr__"), bi "object.__setattr__"), ((129, L "_maxlen"), no'), ((129, L "_continuation_ws"), no'), ((129, L "_continuation_ws_len"), no'),
   ((129, L "_splitchars"), no'), ((129, L "_lines"), no'), ((129, L "_current_line"), no'), ((129, L "__init__"), rf 70), ((129, L "_str"), rf 77), ((129, L "newline"), rf 91), ((129, L "_append_chunk"), rf 126),
   ((279, L "__getattribute__"), bi "object.__getattribute__"), ((279, L "__getattr__"), no'), ((279, L "__setattr__"), bi "object.__setattr__"), ((279, L "raw"), no'), ((279, L "n"), no'), ((279, L "nt"), no'), ((279, L "norm"), no'), ((279, L "is_simple"), no'), ((279, L "__init__"), rf 234)]
noncomputable def Fnd (K : Frag) : List (Option (Option Value)) := fnd.map fun p => findIn K (.ref p.1.1) p.1.2
noncomputable def fndE : List (Option (Option Value)) := fnd.map (·.2)
theorem map_all {α β : Type} {f g : α → β} : ∀ {l : List α}, l.map f = l.map g → ∀ p ∈ l, f p = g p
  | [], _, _, h => by cases h
  | a :: l, e, p, h => by
    rw [List.map_cons, List.map_cons] at e
    refine ex0_2 (List.cons.inj e) fun e1 e2 => ?_
    rcases List.mem_cons.mp h with rfl | h
    · exact e1
    · exact map_all e2 p h
theorem fnd_of {K : Frag} (e : Fnd K = fndE) {C : Nat} {n : Str} {v : Option (Option Value)} (m : ((C, n), v) ∈ fnd) : findIn K (.ref C) n = v := map_all e _ m
noncomputable def typs : List (Nat × String) := [(213, "type"), (129, "type"), (279, "type"), (157, "function"), (70, "function"), (77, "function"), (91, "function"), (126, "function"), (150, "function"), (165, "function"), (173, "function"), (180, "function"), (187, "function"), (195, "function"), (202, "function"), (210, "function"), (234, "function")]
noncomputable def Typ (K : Frag) : List (Option Value) := typs.map fun p => typeIn K (.ref p.1)
noncomputable def typE : List (Option Value) := typs.map fun p => some (.type p.2)
theorem typ_of {K : Frag} (e : Typ K = typE) {a : Nat} {n : String} (m : (a, n) ∈ typs) : typeIn K (.ref a) = some (.type n) := map_all e _ m
noncomputable def lmakesIn (K : Frag) (C : Addr) : Bool := match K.lookup C with
  | some ⟨_, _, .cls cd, sl⟩ => !cd.abstract && !cd.hasDel && (sl.toList[4]?).join == some (.builtin "list.__new__") && !cd.mro.isEmpty && cd.mro.contains (.ref C) && cd.mro.contains (.type "list") &&
      specialIn K (.ref C) "__call__" == some (some (.builtin "type.__call__")) && instIn K (.ref C) (.type "type") == some true
  | _ => false
set_option tactic.hygienic true in
theorem lmakes_of {K : Frag} {M : Model} {h : Heap} (X : K.In h) {C : Addr} (e : lmakesIn K C = true) : LMakes M h C := by
  unfold lmakesIn at e
  split at e
  · rename_i oc od cd sl ho
    simp only [Bool.and_eq_true, Bool.not_eq_true', beq_iff_eq] at e
    obtain ⟨⟨⟨⟨⟨⟨⟨e1, e2⟩, e3⟩, e4⟩, e5⟩, e6⟩, e7⟩, e8⟩ := e
    have hc : clsIn K C = some cd := by unfold clsIn; rw [ho]
    have hm : Looks M h (mroOf (.ref C)) cd.mro := (looks_clsIn X hc).andThen .now
    obtain ⟨c, l, hl⟩ : ∃ c l, cd.mro = c :: l := by cases q : cd.mro with | nil => rw [q] at e4; exact tfE e4 | cons c l => exact ⟨c, l, rfl⟩
    have made : Looks M h (Bind.madeBy (.ref C)) (some "list.__new__") := by
      intro A Q E s k q
      unfold Bind.madeBy
      refine wpAny_bind (hm A _ E s k ?_)
      rw [hl, List.forIn_cons]
      refine wpAny_bind (wpAny_bind (wpAny_bind (wpAny_bind (wpAny_loadPart (k _ _ (X _ _ ho)) (wpAny_pure ?_)))))
      dsimp only
      rw [← Array.getElem?_toList, e3]
      exact wpAny_pure (wpAny_pure (wpAny_pure q))
    refine ⟨⟨oc, od, cd, sl, X _ _ ho, e1, e2, e4⟩, made, ?_, looks_mroIn X ?_, looks_mroIn X ?_, looks_specialIn X e7, looks_instIn X e8⟩
    · intro A Q E s k q
      unfold Bind.staticBase
      refine wpAny_bind (hm A _ E s k ?_)
      rw [hl, List.forIn_cons]
      exact wpAny_bind (wpAny_bind (wpAny_bind (made A _ E s k (wpAny_pure (wpAny_pure (wpAny_pure q))))))
    · unfold mroIn; rw [hc, Option.bind_some, if_neg (by rw [e4]; decide), e5]
    · unfold mroIn; rw [hc, Option.bind_some, if_neg (by rw [e4]; decide), e6]
  · exact ftE e
noncomputable def mros : List (Nat × List Value) := [(213, [.ref 213, .type "list", .type "object"]), (129, [.ref 129, .type "object"]), (279, [.ref 279, .type "object"])]
noncomputable def Mro (K : Frag) : List (Option (List Value × String)) := mros.map fun p => (clsIn K p.1).map fun c => (c.mro, c.qualname.toString)
noncomputable def mroE : List (Option (List Value × String)) := [some ([.ref 213, .type "list", .type "object"], "_Accumulator"), some ([.ref 129, .type "object"], "_ValueFormatter"), some ([.ref 279, .type "object"], "Whitespace")]
noncomputable def Bls (K : Frag) : List Bool :=
  [hasDictIn K 213, hasDictIn K 129, hasDictIn K 279, makesIn K 129, makesIn K 279, lmakesIn K 213, noSeq K 213, keepIn K (.ref 213), keepIn K (.ref 129), keepIn K (.ref 279),
   readsIn K 279 (.type "type"), takesIn K (.ref 157) == some false, specialIn K (.ref 157) "__get__" == some (some (.builtin "function.__get__")), nsIn K cStatics "thirdparty.any" == some none,
   subIn K (.ref 213) (.type "list") == some true, mroIn K 213 (.ref 213) == some true, mroIn K 213 (.type "list") == some true, mroIn K 213 (.type "module") == some false,
   alongIn K "pop" [.type "list", .type "object"] == some (some (.builtin "list.pop")), alongIn K "__len__" [.type "list", .type "object"] == some (some (.builtin "list.__len__")), alongIn K "__init__" [.type "list", .type "object"] == some (some (.builtin "list.__init__"))]
noncomputable def blsE : List Bool := List.replicate 21 true
noncomputable def vsh : Value → Value
  | .int i _ => .int i 0
  | .str s _ => .str s 0
  | v => v
noncomputable def Cat (K : Frag) : List (Option Value) := [L "S", L "T"].map fun n => match findCls K (.ref 279) (.type "type") n with
  | some (.val a) => some (vsh a)
  | _ => none
noncomputable def catE : List (Option Value) := [some (.str (L " ") 0), some (.str (L "\t") 0)]
noncomputable def glbs : List (Str × (Option Value × Option Value)) :=
  [(L "_DIV_LIMIT", some (.int 4000 0), none), (L "_div2n1n", some (.ref 28), none), (L "_div3n2n", some (.ref 35), none), (L "_int2digits", some (.ref 42), none), (L "_digits2int", some (.ref 49), none), (L "_divmod_pos", some (.ref 56), none),
   (L "NL", some (.str (L "\n") 0), none), (L "EMPTYSTRING", some (.str (L "") 0), none), (L "_ValueFormatter", some (.ref 129), none), (L "_Accumulator", some (.ref 213), none), (L "Whitespace", some (.ref 279), none),
   (L "_law_counts", some (.ref 290), none), (L "_law_place", some (.ref 297), none), (L "_law_parts", some (.ref 302), none),
   (L "len", none, some (.builtin "len")), (L "divmod", none, some (.builtin "divmod")), (L "max", none, some (.builtin "max")), (L "sum", none, some (.builtin "sum")), (L "sorted", none, some (.builtin "sorted")), (L "range", none, some (.type "range")),
   (L "reversed", none, some (.type "reversed")), (L "tuple", none, some (.type "tuple")), (L "str", none, some (.type "str")), (L "super", none, some (.type "super")), (L "enumerate", none, some (.type "enumerate")), (L "law", some (.ref 307), none)]
noncomputable def Glb (h : Heap) : List (Option Value × Option Value) := glbs.map fun p => ((h.nsMap mainGlobals p.1).map vsh, match p.2.1 with
  | some _ => none
  | none => (h.nsMap builtinsNs p.1).map vsh)
noncomputable def glbE : List (Option Value × Option Value) := glbs.map (·.2)
noncomputable def fdAt (h : Heap) (a : Addr) : Option FuncData := match h.get? a with
  | some ⟨_, _, .func fd, _⟩ => some fd
  | _ => none
noncomputable def fdOf (h : Heap) (a : Addr) : FuncData := (fdAt h a).getD default
noncomputable def codeB (h : Heap) (cd : Value) (q : Str) (file : Str) : Bool := match cd with
  | .ref c => (match h.get? c with
    | some ⟨_, _, .fields vs, _⟩ => (match (vs[1]? : Option Value), (vs[2]? : Option Value) with
      | some (.str n _), some (.str f _) => n == q && f == file
      | _, _ => false)
    | _ => false)
  | _ => false
structure FnS where
  params : Arguments
  body : FuncBody
  scope : Scope
  gl : Addr
  bl : Addr
  code : Bool
  qual : Str
  dfl : Option (List Value)
  kwd : Bool
  clo : List (Str × Addr)
noncomputable def dflAt (h : Heap) (v : Value) : Option (List Value) := match v with
  | .none => none
  | .ref a => (match h.get? a with
    | some ⟨.type "tuple", _, .seq vs _, _⟩ => some (vs.toList.map vsh)
    | _ => some [.ellipsis])
  | _ => some [.ellipsis]
noncomputable def fnS (h : Heap) (a : Addr) : Option FnS := (fdAt h a).map fun fd => ⟨fd.params, fd.body, fd.scope, fd.globals, fd.builtins, codeB h fd.code fd.qualname "/claim/cut.py", fd.qualname, dflAt h fd.defaults, fd.kwdefaults == .none, fd.closure⟩
noncomputable def fns : List (Nat × FnS) :=
  [(28, ⟨(dN 3).1, .stmts (dN 3).2.1, (dN 3).2.2, 3, 0, true, L "_div2n1n", none, true, []⟩),
   (35, ⟨(dN 4).1, .stmts (dN 4).2.1, (dN 4).2.2, 3, 0, true, L "_div3n2n", none, true, []⟩),
   (42, ⟨(dN 5).1, .stmts (dN 5).2.1, (dN 5).2.2, 3, 0, true, L "_int2digits", none, true, []⟩),
   (49, ⟨(dN 6).1, .stmts (dN 6).2.1, (dN 6).2.2, 3, 0, true, L "_digits2int", none, true, []⟩),
   (56, ⟨(dN 7).1, .stmts (dN 7).2.1, (dN 7).2.2, 3, 0, true, L "_divmod_pos", none, true, []⟩),
   (70, ⟨(mN 11 0).1, .stmts (mN 11 0).2.1, (mN 11 0).2.2, 3, 0, true, L "_ValueFormatter.__init__", none, true, []⟩),
   (77, ⟨(mN 11 1).1, .stmts (mN 11 1).2.1, (mN 11 1).2.2, 3, 0, true, L "_ValueFormatter._str", none, true, []⟩),
   (91, ⟨(mN 11 3).1, .stmts (mN 11 3).2.1, (mN 11 3).2.2, 3, 0, true, L "_ValueFormatter.newline", none, true, []⟩),
   (126, ⟨(mN 11 8).1, .stmts (mN 11 8).2.1, (mN 11 8).2.2, 3, 0, true, L "_ValueFormatter._append_chunk", none, true, []⟩),
   (150, ⟨(mN 12 0).1, .stmts (mN 12 0).2.1, (mN 12 0).2.2, 3, 0, true, L "_Accumulator.__init__", some [.int 0 0], true, [(L "__class__", 137)]⟩),
   (157, ⟨(mN 12 1).1, .stmts (mN 12 1).2.1, (mN 12 1).2.2, 3, 0, true, L "_Accumulator.push", none, true, []⟩),
   (165, ⟨(mN 12 2).1, .stmts (mN 12 2).2.1, (mN 12 2).2.2, 3, 0, true, L "_Accumulator.pop_from", some [.int 0 0], true, []⟩),
   (173, ⟨(mN 12 3).1, .stmts (mN 12 3).2.1, (mN 12 3).2.2, 3, 0, true, L "_Accumulator.pop", none, true, [(L "__class__", 137)]⟩),
   (180, ⟨(mN 12 4).1, .stmts (mN 12 4).2.1, (mN 12 4).2.2, 3, 0, true, L "_Accumulator.__len__", none, true, []⟩),
   (187, ⟨(mN 12 5).1, .stmts (mN 12 5).2.1, (mN 12 5).2.2, 3, 0, true, L "_Accumulator.__str__", none, true, []⟩),
   (195, ⟨(mN 12 6).1, .stmts (mN 12 6).2.1, (mN 12 6).2.2, 3, 0, true, L "_Accumulator.reset", some [.none], true, []⟩),
   (202, ⟨(mN 12 7).1, .stmts (mN 12 7).2.1, (mN 12 7).2.2, 3, 0, true, L "_Accumulator.is_onlyws", none, true, []⟩),
   (210, ⟨(mN 12 8).1, .stmts (mN 12 8).2.1, (mN 12 8).2.2, 3, 0, true, L "_Accumulator.part_count", none, true, [(L "__class__", 137)]⟩),
   (234, ⟨(mN 14 1).1, .stmts (mN 14 1).2.1, (mN 14 1).2.2, 3, 0, true, L "Whitespace.__init__", none, true, []⟩),
   (290, ⟨(dN 16).1, .stmts (dN 16).2.1, (dN 16).2.2, 3, 0, true, L "_law_counts", none, true, []⟩),
   (297, ⟨(dN 17).1, .stmts (dN 17).2.1, (dN 17).2.2, 3, 0, true, L "_law_place", none, true, []⟩),
   (302, ⟨(dN 18).1, .stmts (dN 18).2.1, (dN 18).2.2, 3, 0, true, L "_law_parts", none, true, []⟩),
   (307, ⟨(dN 19).1, .stmts (dN 19).2.1, (dN 19).2.2, 3, 0, true, L "law", none, true, []⟩)]
noncomputable def fnAddrs : List Nat := [28, 35, 42, 49, 56, 70, 77, 91, 126, 150, 157, 165, 173, 180, 187, 195, 202, 210, 234, 290, 297, 302, 307]
noncomputable def Fns (h : Heap) : List (Option FnS) := fnAddrs.map fun a => fnS h a
noncomputable def fnsE : List (Option FnS) := fns.map fun p => some p.2
noncomputable def refV : Option Value → Option Addr
  | some (.ref p) => some p
  | _ => none
noncomputable def strV : Option Value → Option (Str × Tok)
  | some (.str x t) => some (x, t)
  | _ => none
noncomputable def intV : Option Value → Option (Int × Tok)
  | some (.int x t) => some (x, t)
  | _ => none
noncomputable def bolV : Option Value → Option Bool
  | some (.bool b) => some b
  | _ => none
theorem refV_ok {o : Option Value} {p : Addr} (h : refV o = some p) : o = some (.ref p) := by
  cases o with
  | none => exact noneE h
  | some v => cases v <;> first | exact noneE h | (revert h; refine someC fun h => ?_; subst h; rfl)
theorem strV_ok {o : Option Value} {p : Str × Tok} (h : strV o = some p) : o = some (.str p.1 p.2) := by
  cases o with
  | none => exact noneE h
  | some v => cases v <;> first | exact noneE h | (revert h; refine pairC fun h1 h2 => ?_; subst h1; subst h2; rfl)
theorem intV_ok {o : Option Value} {p : Int × Tok} (h : intV o = some p) : o = some (.int p.1 p.2) := by
  cases o with
  | none => exact noneE h
  | some v => cases v <;> first | exact noneE h | (revert h; refine pairC fun h1 h2 => ?_; subst h1; subst h2; rfl)
theorem bolV_ok {o : Option Value} {p : Bool} (h : bolV o = some p) : o = some (.bool p) := by
  cases o with
  | none => exact noneE h
  | some v => cases v <;> first | exact noneE h | (revert h; refine someC fun h => ?_; subst h; rfl)
noncomputable def fldV : Data → Option (Array Value)
  | .fields vs => some vs
  | _ => none
theorem fldV_ok {d : Data} {p : Array Value} (h : fldV d = some p) : d = .fields p := by
  cases d <;> first | exact noneE h | (revert h; refine someC fun h => ?_; subst h; rfl)
noncomputable def celV : Data → Option Value
  | .cell (some v) => some v
  | _ => none
set_option tactic.hygienic true in
theorem celV_ok {d : Data} {p : Value} (h : celV d = some p) : d = .cell (some p) := by
  cases d <;> first | exact noneE h | skip
  rename_i o
  cases o with
  | none => exact noneE h
  | some v => revert h; refine someC fun h => ?_; subst h; rfl
noncomputable def tabV (h : Heap) (a P : Addr) : Option Addr := (fdAt h a).bind fun fd => (refV (some fd.code)).bind fun c => (h.get? c).bind fun o => (fldV o.data).bind fun vs => bif o.cls == .type "code" && c != P then
  (refV vs[11]?).bind fun p => bif p == P then (strV vs[18]?).bind fun zz => (intV vs[7]?).bind fun zz => (bolV vs[9]?).bind fun zz => (intV vs[10]?).bind fun zz => some c else none else none
noncomputable def tabB (h : Heap) (a P : Addr) : Bool := (tabV h a P).isSome
noncomputable def emptyV (o : Obj) : Option Bool := (fldV o.data).bind fun vs => bif vs.size == 0 && o.slots.size == 0 && o.cls == .none && o.dict.isNone then some true else none
noncomputable def emptyB (h : Heap) (P : Addr) : Bool := ((h.get? P).bind emptyV).isSome
noncomputable def cellB (h : Heap) (a : Addr) : Bool := ((h.get? a).bind fun o => (celV o.data).bind fun v => bif v == .ref 213 then some true else none).isSome
noncomputable def Oth (h : Heap) : List Bool := [tabB h 42 37, tabB h 49 44, tabB h 180 175, tabB h 187 182, emptyB h 37, emptyB h 44, emptyB h 175, emptyB h 182, cellB h 137]
noncomputable def othE : List Bool := List.replicate 9 true
structure Facts where
  a : List (Option (Option Value))
  b : List (Option Value)
  c : List (Option (List Value × String))
  d : List Bool
  e : List (Option Value)
  f : List (Option Value × Option Value)
  g : List (Option FnS)
  o : List Bool
noncomputable def factsAt (h : Heap) : Facts := ⟨Fnd (kOf h), Typ (kOf h), Mro (kOf h), Bls (kOf h), Cat (kOf h), Glb h, Fns h, Oth h⟩
noncomputable def factsE : Facts := ⟨fndE, typE, mroE, blsE, catE, glbE, fnsE, othE⟩
end Mine
namespace Mine
noncomputable def qv : Program := { PySem.Challenge.pw_sr0087_01 with main := { PySem.Challenge.pw_sr0087_01.main with body := PySem.Challenge.pw_sr0087_01.main.body.drop 19 } }
noncomputable def looseQ : List Str := ["_wall","_DIV_LIMIT","_div2n1n","_div3n2n","_int2digits","_digits2int","_divmod_pos","NL","EMPTYSTRING","_ValueFormatter","_Accumulator","Whitespace","_law_counts","_law_place","_law_parts"]
theorem rowF (w : World) : (openEnds treeTable PySem.Challenge.pw_sr0087_01 (w.withFollow "special-get-raises" false) 4000).map (fun s => (openSeen qv looseQ (importedModules PySem.Challenge.pw_sr0087_01.main.body) (fun _ => true) true s, factsAt s.heap)) = some (openGood qv looseQ, factsE) := by kernel_rfl
end Mine
namespace Mine
theorem rowT (w : World) : (openEnds treeTable PySem.Challenge.pw_sr0087_01 (w.withFollow "special-get-raises" true) 4000).map (fun s => (openSeen qv looseQ (importedModules PySem.Challenge.pw_sr0087_01.main.body) (fun _ => true) true s, factsAt s.heap)) = some (openGood qv looseQ, factsE) := by kernel_rfl
end Mine
namespace Mine
theorem bd28 (fd : FuncData) (v0 v1 v2 : Value) (hp : fd.params = (dN 3).1) (hd : fd.defaults = .none) (hk : fd.kwdefaults = .none) : bindArgs fd ⟨[v0, v1, v2], []⟩ = pure [(Str.ofString "a", v0), (Str.ofString "b", v1), (Str.ofString "n", v2)] := by
  cases fd; dsimp only at hp hd hk; subst hp hd hk; kernel_rfl
theorem bd35 (fd : FuncData) (v0 v1 v2 v3 v4 v5 : Value) (hp : fd.params = (dN 4).1) (hd : fd.defaults = .none) (hk : fd.kwdefaults = .none) : bindArgs fd ⟨[v0, v1, v2, v3, v4, v5], []⟩ = pure [(Str.ofString "a12", v0), (Str.ofString "a3", v1), (Str.ofString "b", v2), (Str.ofString "b1", v3), (Str.ofString "b2", v4), (Str.ofString "n", v5)] := by
  cases fd; dsimp only at hp hd hk; subst hp hd hk; kernel_rfl
theorem bd42 (fd : FuncData) (v0 v1 : Value) (hp : fd.params = (dN 5).1) (hd : fd.defaults = .none) (hk : fd.kwdefaults = .none) : bindArgs fd ⟨[v0, v1], []⟩ = pure [(Str.ofString "a", v0), (Str.ofString "n", v1)] := by
  cases fd; dsimp only at hp hd hk; subst hp hd hk; kernel_rfl
theorem bd49 (fd : FuncData) (v0 v1 : Value) (hp : fd.params = (dN 6).1) (hd : fd.defaults = .none) (hk : fd.kwdefaults = .none) : bindArgs fd ⟨[v0, v1], []⟩ = pure [(Str.ofString "digits", v0), (Str.ofString "n", v1)] := by
  cases fd; dsimp only at hp hd hk; subst hp hd hk; kernel_rfl
theorem bd56 (fd : FuncData) (v0 v1 : Value) (hp : fd.params = (dN 7).1) (hd : fd.defaults = .none) (hk : fd.kwdefaults = .none) : bindArgs fd ⟨[v0, v1], []⟩ = pure [(Str.ofString "a", v0), (Str.ofString "b", v1)] := by
  cases fd; dsimp only at hp hd hk; subst hp hd hk; kernel_rfl
theorem bd70 (fd : FuncData) (v0 v1 v2 v3 v4 : Value) (hp : fd.params = (mN 11 0).1) (hd : fd.defaults = .none) (hk : fd.kwdefaults = .none) : bindArgs fd ⟨[v0, v1, v2, v3, v4], []⟩ = pure [(Str.ofString "self", v0), (Str.ofString "headerlen", v1), (Str.ofString "maxlen", v2), (Str.ofString "continuation_ws", v3), (Str.ofString "splitchars", v4)] := by
  cases fd; dsimp only at hp hd hk; subst hp hd hk; kernel_rfl
theorem bd77 (fd : FuncData) (v0 v1 : Value) (hp : fd.params = (mN 11 1).1) (hd : fd.defaults = .none) (hk : fd.kwdefaults = .none) : bindArgs fd ⟨[v0, v1], []⟩ = pure [(Str.ofString "self", v0), (Str.ofString "linesep", v1)] := by
  cases fd; dsimp only at hp hd hk; subst hp hd hk; kernel_rfl
theorem bd91 (fd : FuncData) (v0 : Value) (hp : fd.params = (mN 11 3).1) (hd : fd.defaults = .none) (hk : fd.kwdefaults = .none) : bindArgs fd ⟨[v0], []⟩ = pure [(Str.ofString "self", v0)] := by
  cases fd; dsimp only at hp hd hk; subst hp hd hk; kernel_rfl
theorem bd126 (fd : FuncData) (v0 v1 v2 : Value) (hp : fd.params = (mN 11 8).1) (hd : fd.defaults = .none) (hk : fd.kwdefaults = .none) : bindArgs fd ⟨[v0, v1, v2], []⟩ = pure [(Str.ofString "self", v0), (Str.ofString "fws", v1), (Str.ofString "string", v2)] := by
  cases fd; dsimp only at hp hd hk; subst hp hd hk; kernel_rfl
theorem bd150a (fd : FuncData) (v0 : Value) (hp : fd.params = (mN 12 0).1) (hk : fd.kwdefaults = .none) : ∃ k, bindArgs fd ⟨[v0], []⟩ = seqItems? fd.defaults >>= k ∧ ∀ d, k (some #[d]) = pure [(Str.ofString "self", v0), (Str.ofString "initial_size", d)] := by
  cases fd; dsimp only at hp hk; subst hp hk
  exact ⟨_, rfl, fun d => by kernel_rfl⟩
theorem bd150b (fd : FuncData) (v0 v1 : Value) (hp : fd.params = (mN 12 0).1) (hk : fd.kwdefaults = .none) : ∃ k, bindArgs fd ⟨[v0, v1], []⟩ = seqItems? fd.defaults >>= k ∧ ∀ d, k (some #[d]) = pure [(Str.ofString "self", v0), (Str.ofString "initial_size", v1)] := by
  cases fd; dsimp only at hp hk; subst hp hk
  exact ⟨_, rfl, fun d => by kernel_rfl⟩
theorem bd157 (fd : FuncData) (v0 v1 v2 : Value) (hp : fd.params = (mN 12 1).1) (hd : fd.defaults = .none) (hk : fd.kwdefaults = .none) : bindArgs fd ⟨[v0, v1, v2], []⟩ = pure [(Str.ofString "self", v0), (Str.ofString "fws", v1), (Str.ofString "string", v2)] := by
  cases fd; dsimp only at hp hd hk; subst hp hd hk; kernel_rfl
theorem bd165a (fd : FuncData) (v0 : Value) (hp : fd.params = (mN 12 2).1) (hk : fd.kwdefaults = .none) : ∃ k, bindArgs fd ⟨[v0], []⟩ = seqItems? fd.defaults >>= k ∧ ∀ d, k (some #[d]) = pure [(Str.ofString "self", v0), (Str.ofString "i", d)] := by
  cases fd; dsimp only at hp hk; subst hp hk
  exact ⟨_, rfl, fun d => by kernel_rfl⟩
theorem bd165b (fd : FuncData) (v0 v1 : Value) (hp : fd.params = (mN 12 2).1) (hk : fd.kwdefaults = .none) : ∃ k, bindArgs fd ⟨[v0, v1], []⟩ = seqItems? fd.defaults >>= k ∧ ∀ d, k (some #[d]) = pure [(Str.ofString "self", v0), (Str.ofString "i", v1)] := by
  cases fd; dsimp only at hp hk; subst hp hk
  exact ⟨_, rfl, fun d => by kernel_rfl⟩
theorem bd173 (fd : FuncData) (v0 : Value) (hp : fd.params = (mN 12 3).1) (hd : fd.defaults = .none) (hk : fd.kwdefaults = .none) : bindArgs fd ⟨[v0], []⟩ = pure [(Str.ofString "self", v0)] := by
  cases fd; dsimp only at hp hd hk; subst hp hd hk; kernel_rfl
theorem bd180 (fd : FuncData) (v0 : Value) (hp : fd.params = (mN 12 4).1) (hd : fd.defaults = .none) (hk : fd.kwdefaults = .none) : bindArgs fd ⟨[v0], []⟩ = pure [(Str.ofString "self", v0)] := by
  cases fd; dsimp only at hp hd hk; subst hp hd hk; kernel_rfl
theorem bd187 (fd : FuncData) (v0 : Value) (hp : fd.params = (mN 12 5).1) (hd : fd.defaults = .none) (hk : fd.kwdefaults = .none) : bindArgs fd ⟨[v0], []⟩ = pure [(Str.ofString "self", v0)] := by
  cases fd; dsimp only at hp hd hk; subst hp hd hk; kernel_rfl
theorem bd195a (fd : FuncData) (v0 : Value) (hp : fd.params = (mN 12 6).1) (hk : fd.kwdefaults = .none) : ∃ k, bindArgs fd ⟨[v0], []⟩ = seqItems? fd.defaults >>= k ∧ ∀ d, k (some #[d]) = pure [(Str.ofString "self", v0), (Str.ofString "startval", d)] := by
  cases fd; dsimp only at hp hk; subst hp hk
  exact ⟨_, rfl, fun d => by kernel_rfl⟩
theorem bd195b (fd : FuncData) (v0 v1 : Value) (hp : fd.params = (mN 12 6).1) (hk : fd.kwdefaults = .none) : ∃ k, bindArgs fd ⟨[v0, v1], []⟩ = seqItems? fd.defaults >>= k ∧ ∀ d, k (some #[d]) = pure [(Str.ofString "self", v0), (Str.ofString "startval", v1)] := by
  cases fd; dsimp only at hp hk; subst hp hk
  exact ⟨_, rfl, fun d => by kernel_rfl⟩
theorem bd202 (fd : FuncData) (v0 : Value) (hp : fd.params = (mN 12 7).1) (hd : fd.defaults = .none) (hk : fd.kwdefaults = .none) : bindArgs fd ⟨[v0], []⟩ = pure [(Str.ofString "self", v0)] := by
  cases fd; dsimp only at hp hd hk; subst hp hd hk; kernel_rfl
theorem bd210 (fd : FuncData) (v0 : Value) (hp : fd.params = (mN 12 8).1) (hd : fd.defaults = .none) (hk : fd.kwdefaults = .none) : bindArgs fd ⟨[v0], []⟩ = pure [(Str.ofString "self", v0)] := by
  cases fd; dsimp only at hp hd hk; subst hp hd hk; kernel_rfl
theorem bd234 (fd : FuncData) (v0 v1 : Value) (hp : fd.params = (mN 14 1).1) (hd : fd.defaults = .none) (hk : fd.kwdefaults = .none) : bindArgs fd ⟨[v0, v1], []⟩ = pure [(Str.ofString "self", v0), (Str.ofString "ws", v1)] := by
  cases fd; dsimp only at hp hd hk; subst hp hd hk; kernel_rfl
theorem bd290 (fd : FuncData) (v0 v1 v2 : Value) (hp : fd.params = (dN 16).1) (hd : fd.defaults = .none) (hk : fd.kwdefaults = .none) : bindArgs fd ⟨[v0, v1, v2], []⟩ = pure [(Str.ofString "whole", v0), (Str.ofString "most", v1), (Str.ofString "width", v2)] := by
  cases fd; dsimp only at hp hd hk; subst hp hd hk; kernel_rfl
theorem bd297 (fd : FuncData) (v0 v1 v2 : Value) (hp : fd.params = (dN 17).1) (hd : fd.defaults = .none) (hk : fd.kwdefaults = .none) : bindArgs fd ⟨[v0, v1, v2], []⟩ = pure [(Str.ofString "parts", v0), (Str.ofString "left", v1), (Str.ofString "counts", v2)] := by
  cases fd; dsimp only at hp hd hk; subst hp hd hk; kernel_rfl
theorem bd302 (fd : FuncData) (v0 v1 v2 : Value) (hp : fd.params = (dN 18).1) (hd : fd.defaults = .none) (hk : fd.kwdefaults = .none) : bindArgs fd ⟨[v0, v1, v2], []⟩ = pure [(Str.ofString "place", v0), (Str.ofString "left", v1), (Str.ofString "counts", v2)] := by
  cases fd; dsimp only at hp hd hk; subst hp hd hk; kernel_rfl
theorem bd307 (fd : FuncData) (v0 : Value) (hp : fd.params = (dN 19).1) (hd : fd.defaults = .none) (hk : fd.kwdefaults = .none) : bindArgs fd ⟨[v0], []⟩ = pure [(Str.ofString "script", v0)] := by
  cases fd; dsimp only at hp hd hk; subst hp hd hk; kernel_rfl
end Mine
namespace Mine
noncomputable def fnChk (r : FnRec) : Bool := !r.scope.isCoroutine && (!r.scope.isGenerator && (isFunK r.scope.kind && (match r.cellful with
  | true => r.dflt.isEmpty && (r.pars.all (fun x => isLocK (lk x r.scope.names) || (match lk x r.scope.names with | some .cell => true | _ => false)) && (nodupS (cnames r.scope.names) && (cnames r.scope.names).all (fun x => match lk x r.scope.names with | some .cell => true | _ => false)))
  | false => r.scope.names.all (fun p => !isCellK p.2) && r.pars.all (fun x => isLocK (lk x r.scope.names)))))
where nodupS : List Str → Bool
  | [] => true
  | x :: r => !r.any (fun y => W.Fast.sEq x y) && nodupS r
theorem nodupS_ok : ∀ {l : List Str}, fnChk.nodupS l = true → l.Nodup
  | [], _ => .nil
  | x :: r, h => by
    refine ex0_2 (Bool.and_eq_true_iff.mp h) fun h1 h2 => ?_
    refine List.nodup_cons.mpr ⟨fun m => ?_, nodupS_ok h2⟩
    have := List.any_eq_true.mpr ⟨x, m, W.Fast.sEq_iff.mpr rfl⟩
    rw [this] at h1; exact ftE h1
theorem isCell_eq {o : Option NameKind} (h : (match o with | some .cell => true | _ => false) = true) : o = some .cell := by
  split at h
  · rfl
  · exact ftE h
structure TopS (h0 hT : Heap) : Prop where
  facts : factsAt h0 = factsE
  up : ∀ a o, h0.get? a = some o → a ∉ tabAddrs → hT.get? a = some o
  g : hT.Ns mainGlobals (h0.nsMap mainGlobals)
  b : hT.Ns builtinsNs (h0.nsMap builtinsNs)
  lim : hT.NoLimit
  hid : ∀ P ∈ tabAddrs, hT.get? P = none
  bmain : ∃ bm ob, h0.nsMap mainGlobals "__builtins__" = some (.ref bm) ∧ bm ≠ builtinsNs ∧ hT.get? bm = some ob ∧ ob.cls = .type "module" ∧ ob.dict = some builtinsNs ∧ ob.data = .plain
section
variable {h0 hT : Heap}
theorem TopS.inn (T : TopS h0 hT) : (kOf h0).In hT := fun a o e => by
  refine ex0_2 (kOf_get e) fun h1 h2 => ?_
  exact T.up a o h1 ((show ∀ a ∈ kAddrs, a ∉ tabAddrs by decide) a h2)
theorem TopS.fnd (T : TopS h0 hT) {C : Nat} {n : Str} {v : Option (Option Value)} (m : ((C, n), v) ∈ fnd) : findIn (kOf h0) (.ref C) n = v := fnd_of (congrArg Facts.a T.facts) m
theorem TopS.typ (T : TopS h0 hT) {a : Nat} {n : String} (m : (a, n) ∈ typs) : typeIn (kOf h0) (.ref a) = some (.type n) := typ_of (congrArg Facts.b T.facts) m
theorem TopS.bls (T : TopS h0 hT) : Bls (kOf h0) = blsE := congrArg Facts.d T.facts
theorem TopS.oth (T : TopS h0 hT) : Oth h0 = othE := congrArg Facts.o T.facts
theorem bl_at {l : List Bool} {n i : Nat} (e : l = List.replicate n true) {b : Bool} (h : l[i]? = some b) : b = true := by
  rw [e] at h
  exact List.eq_of_mem_replicate (List.mem_of_getElem? h)
theorem TopS.glb (T : TopS h0 hT) {p : Str × (Option Value × Option Value)} (m : p ∈ glbs) : ((h0.nsMap mainGlobals p.1).map vsh, match p.2.1 with
  | some _ => none
  | none => (h0.nsMap builtinsNs p.1).map vsh) = p.2 := map_all (congrArg Facts.f T.facts) p m
theorem TopS.globM (T : TopS h0 hT) {x : Str} {v : Value} (m : (x, (some v, none)) ∈ glbs) : ∃ u, vsh u = v ∧ GlobIs hT x u := by
  have e := congrArg Prod.fst (T.glb m)
  refine ex1_2 (Option.map_eq_some_iff.mp e) fun u hu h => ?_
  exact ⟨u, h, _, _, T.g, T.b, .inl hu⟩
theorem TopS.globB (T : TopS h0 hT) {x : Str} {v : Value} (m : (x, (none, some v)) ∈ glbs) : ∃ u, vsh u = v ∧ GlobIs hT x u := by
  have e1 := congrArg Prod.fst (T.glb m)
  have e2 := congrArg Prod.snd (T.glb m)
  dsimp only at e1 e2
  refine ex1_2 (Option.map_eq_some_iff.mp e2) fun u hu h => ?_
  have n : h0.nsMap mainGlobals x = none := by simpa using e1
  exact ⟨u, h, _, _, T.g, T.b, .inr ⟨n, hu⟩⟩
theorem vsh_ref {u : Value} {a : Addr} (h : vsh u = .ref a) : u = .ref a := by cases u <;> simp_all [vsh]
theorem vsh_type {u : Value} {a : String} (h : vsh u = .type a) : u = .type a := by cases u <;> simp_all [vsh]
theorem vsh_bi {u : Value} {a : String} (h : vsh u = .builtin a) : u = .builtin a := by cases u <;> simp_all [vsh]
theorem vsh_int {u : Value} {i : Int} (h : vsh u = .int i 0) : ∃ t, u = .int i t := by cases u <;> simp_all [vsh]
theorem vsh_str {u : Value} {x : Str} (h : vsh u = .str x 0) : ∃ t, u = .str x t := by cases u <;> simp_all [vsh]
theorem vsh_none {u : Value} (h : vsh u = .none) : u = .none := by cases u <;> simp_all [vsh]
theorem globM_ref (T : TopS h0 hT) {x : Str} {a : Addr} (m : (x, (some (.ref a), none)) ∈ glbs) : GlobIs hT x (.ref a) := by refine ex1_2 (T.globM m) fun u h G => ?_; rw [vsh_ref h] at G; exact G
theorem globB_bi (T : TopS h0 hT) {x : Str} {a : String} (m : (x, (none, some (.builtin a))) ∈ glbs) : GlobIs hT x (.builtin a) := by refine ex1_2 (T.globB m) fun u h G => ?_; rw [vsh_bi h] at G; exact G
theorem globB_type (T : TopS h0 hT) {x : Str} {a : String} (m : (x, (none, some (.type a))) ∈ glbs) : GlobIs hT x (.type a) := by refine ex1_2 (T.globB m) fun u h G => ?_; rw [vsh_type h] at G; exact G
theorem TopS.fn (T : TopS h0 hT) {a : Nat} {f : FnS} (m : (a, f) ∈ fns) : fnS h0 a = some f := by
  have e : (fns.map (·.1)).map (fun a => fnS h0 a) = fns.map fun p => some p.2 := (show _ = _ from congrArg Facts.g T.facts)
  rw [List.map_map] at e
  exact map_all e _ m
theorem emptyB_ok {P : Addr} (e : emptyB h0 P = true) : h0.get? P = some { cls := .none, data := .fields #[] } := by
  refine ex1_1 (Option.isSome_iff_exists.mp e) fun z e => ?_
  revert e
  refine bindE fun o ho e => ?_
  revert e
  refine bindE fun vs hd e => ?_
  revert e
  refine condE fun h1 zz => ?_
  refine ex0_2 (Bool.and_eq_true_iff.mp h1) fun h6 h5 => ?_
  refine ex0_2 (Bool.and_eq_true_iff.mp h6) fun h7 h4 => ?_
  refine ex0_2 (Bool.and_eq_true_iff.mp h7) fun h8 h2 => ?_
  obtain ⟨cl, od, dt, sl⟩ := o
  cases fldV_ok hd
  cases Array.eq_empty_of_size_eq_zero (beq_iff_eq.mp h8)
  cases Array.eq_empty_of_size_eq_zero (beq_iff_eq.mp h2)
  cases beq_iff_eq.mp h4
  cases Option.isNone_iff_eq_none.mp h5
  exact ho
theorem TopS.tabs (T : TopS h0 hT) : ∀ P ∈ tabAddrs, h0.get? P = some { cls := .none, data := .fields #[] } := by
  intro P hP
  have e := T.oth
  have k : ∀ i b, (Oth h0)[i]? = some b → b = true := fun i b h => bl_at e h
  rcases List.mem_cons.mp hP with rfl | hP
  · exact emptyB_ok (k 4 _ rfl)
  rcases List.mem_cons.mp hP with rfl | hP
  · exact emptyB_ok (k 5 _ rfl)
  rcases List.mem_cons.mp hP with rfl | hP
  · exact emptyB_ok (k 6 _ rfl)
  rcases List.mem_cons.mp hP with rfl | hP
  · exact emptyB_ok (k 7 _ rfl)
  cases hP
theorem TopS.apart (T : TopS h0 hT) {a : Addr} {o : Obj} (e : h0.get? a = some o) (h : o.cls ≠ .none) : hT.get? a = some o := T.up a o e fun q => by
  rw [T.tabs a q] at e; revert e; refine someC fun h => ?_; subst h; exact h rfl
theorem TopS.apart' (T : TopS h0 hT) {a : Addr} {o : Obj} (e : h0.get? a = some o) (h : o.data ≠ .fields #[]) : hT.get? a = some o := T.up a o e fun q => by
  rw [T.tabs a q] at e; revert e; refine someC fun h => ?_; subst h; exact h rfl
set_option tactic.hygienic true in
theorem fdAt_ok {a : Addr} {fd : FuncData} (e : fdAt h0 a = some fd) : ∃ o, h0.get? a = some o ∧ o.data = .func fd := by
  unfold fdAt at e
  split at e
  · rename_i oc od f sl ho
    revert e; refine someC fun h => ?_; subst h
    exact ⟨_, ho, rfl⟩
  · exact noneE e
set_option tactic.hygienic true in
theorem codeB_ok (T : TopS h0 hT) {cd : Value} {q file : Str} (e : codeB h0 cd q file = true) : ∃ c o vs t tf, cd = .ref c ∧ hT.get? c = some o ∧ o.data = .fields vs ∧ vs[1]? = some (.str q t) ∧ vs[2]? = some (.str file tf) := by
  unfold codeB at e
  split at e
  · rename_i c
    split at e
    · rename_i oc od vs sl ho
      split at e
      · rename_i n t f tf h1 h2
        refine ex0_2 (Bool.and_eq_true_iff.mp e) fun q1 q2 => ?_
        have q1 := beq_iff_eq.mp q1
        have q2 := beq_iff_eq.mp q2
        subst q1; subst q2
        exact ⟨c, _, vs, t, tf, rfl, T.apart' ho (fun q => by cases q; simp at h1), rfl, h1, h2⟩
      · exact ftE e
    · exact ftE e
  · exact ftE e
theorem fnOk (T : TopS h0 hT) {a : Nat} {f : FnS} {r : FnRec} (m : (a, f) ∈ fns) (hf : r.fd = fdOf h0 a) (h1 : f.body = .stmts r.body) (h2 : f.scope = r.scope) (h3 : f.gl = 3) (h4 : f.bl = 0) (h5 : f.code = true) (hchk : fnChk r = true)
    (hclo : r.cellful = true → f.clo = [])
    (hcb : r.cellful = true → ∀ vs : List Value, vs.length = r.pars.length → r.fd.params = f.params → r.fd.defaults = .none → r.fd.kwdefaults = .none → bindArgs r.fd ⟨vs, []⟩ = pure (r.pars.zip vs)) (hdn : r.cellful = true → f.dfl = none) (hkn : f.kwd = true)
    (hb : r.fd.params = f.params → r.fd.kwdefaults = .none → dflAt h0 r.fd.defaults = f.dfl → ∃ dv : List Value, VRs [] hT r.dflt dv ∧ ∀ (s : Shared) (vs : List Value), (∀ b o, hT.get? b = some o → s.heap.get? b = some o) → vs.length ≤ r.pars.length → r.pars.length ≤ vs.length + dv.length →
      BindsTo s r.fd ⟨vs, []⟩ (r.pars.zip (vs ++ dv.drop (dv.length + vs.length - r.pars.length)))) : FnOk hT a r := by
  refine ex1_2 (Option.map_eq_some_iff.mp (T.fn m)) fun fd hfd e => ?_
  have er : r.fd = fd := by rw [hf]; unfold fdOf; rw [hfd]; rfl
  refine ex1_2 (fdAt_ok hfd) fun o ho hd => ?_
  have hoT : hT.get? a = some o := T.apart' ho (fun q => by rw [hd] at q; cases q)
  subst e
  unfold fnChk at hchk
  refine ex0_2 (Bool.and_eq_true_iff.mp hchk) fun c1 hchk => ?_
  refine ex0_2 (Bool.and_eq_true_iff.mp hchk) fun c2 hchk => ?_
  refine ex0_2 (Bool.and_eq_true_iff.mp hchk) fun c3 hchk => ?_
  refine ex5_5 (codeB_ok T h5) fun c oc vs t tf k1 k2 k3 k4 zz => ?_
  have hkw : fd.kwdefaults = .none := beq_iff_eq.mp hkn
  refine ⟨fun M h k => ?_, ⟨o, hoT, by rw [er]; exact hd⟩, by rw [er]; exact h2, by rw [er]; exact h1, by rw [er]; exact h3, by rw [er]; exact h4, by rw [er]; exact ⟨c, oc, vs, t, k1, k2, k3, k4⟩, ?_, ?_, ?_, hb (by rw [er]) (by rw [er]; exact hkw) (by rw [er]), fun hc => ?_, fun hc => ?_⟩
  · obtain ⟨oc', od', oda', osl'⟩ := o
    dsimp only at hd
    subst hd
    exact ⟨.frame, .inl rfl, (Looks.ld (part := none) (k _ _ hoT)).andThen .now⟩
  · rw [er]; show fd.scope.isCoroutine = false; rw [show fd.scope = r.scope from h2]; simpa using c1
  · rw [er]; show fd.scope.isGenerator = false; rw [show fd.scope = r.scope from h2]; simpa using c2
  · rw [er]; show fd.scope.kind = .function; rw [show fd.scope = r.scope from h2]; exact isFunK_eq c3
  · rw [hc] at hchk
    refine ex0_2 (Bool.and_eq_true_iff.mp hchk) fun d1 d2 => ?_
    refine ⟨fun x hx q => ?_, fun x hx => ?_⟩
    · have := List.all_eq_true.mp d1 x hx
      rw [q] at this; exact ftE this
    · have := List.all_eq_true.mp d2 x hx
      rw [lk_eq] at this
      exact isLocK_eq this
  · rw [hc] at hchk
    refine ex0_2 (Bool.and_eq_true_iff.mp hchk) fun d1 hchk => ?_
    refine ex0_2 (Bool.and_eq_true_iff.mp hchk) fun d2 hchk => ?_
    refine ex0_2 (Bool.and_eq_true_iff.mp hchk) fun d3 d4 => ?_
    have hdd : fd.defaults = .none := by
      have q := hdn hc
      unfold dflAt at q
      split at q
      · assumption
      · split at q <;> exact noneF q
      · exact noneF q
    refine ⟨List.isEmpty_iff.mp d1, by rw [er]; exact hclo hc, fun x hx => ?_, nodupS_ok d3, fun x hx => ?_, fun vs hv => hcb hc vs hv (by rw [er]) (by rw [er]; exact hdd) (by rw [er]; exact hkw)⟩
    · have := List.all_eq_true.mp d2 x hx
      rcases Bool.or_eq_true_iff.mp this with q | q
      · rw [lk_eq] at q; exact .inl (isLocK_eq q)
      · rw [lk_eq] at q; exact .inr (isCell_eq q)
    · have := List.all_eq_true.mp d4 x hx
      rw [lk_eq] at this
      exact isCell_eq this
theorem bdN1 {r : FnRec} (k : ∀ v0 : Value, bindArgs r.fd ⟨[v0], []⟩ = pure (r.pars.zip [v0])) (vs : List Value) (h : vs.length = 1) : bindArgs r.fd ⟨vs, []⟩ = pure (r.pars.zip vs) := list1 (P := fun vs => bindArgs r.fd ⟨vs, []⟩ = pure (r.pars.zip vs)) k h
theorem bdN2 {r : FnRec} (k : ∀ v0 v1 : Value, bindArgs r.fd ⟨[v0, v1], []⟩ = pure (r.pars.zip [v0, v1])) (vs : List Value) (h : vs.length = 2) : bindArgs r.fd ⟨vs, []⟩ = pure (r.pars.zip vs) := list2 (P := fun vs => bindArgs r.fd ⟨vs, []⟩ = pure (r.pars.zip vs)) k h
theorem bdN3 {r : FnRec} (k : ∀ v0 v1 v2 : Value, bindArgs r.fd ⟨[v0, v1, v2], []⟩ = pure (r.pars.zip [v0, v1, v2])) (vs : List Value) (h : vs.length = 3) : bindArgs r.fd ⟨vs, []⟩ = pure (r.pars.zip vs) := list3 (P := fun vs => bindArgs r.fd ⟨vs, []⟩ = pure (r.pars.zip vs)) k h
theorem bdN5 {r : FnRec} (k : ∀ v0 v1 v2 v3 v4 : Value, bindArgs r.fd ⟨[v0, v1, v2, v3, v4], []⟩ = pure (r.pars.zip [v0, v1, v2, v3, v4])) (vs : List Value) (h : vs.length = 5) : bindArgs r.fd ⟨vs, []⟩ = pure (r.pars.zip vs) := list5 (P := fun vs => bindArgs r.fd ⟨vs, []⟩ = pure (r.pars.zip vs)) k h
theorem bdN6 {r : FnRec} (k : ∀ v0 v1 v2 v3 v4 v5 : Value, bindArgs r.fd ⟨[v0, v1, v2, v3, v4, v5], []⟩ = pure (r.pars.zip [v0, v1, v2, v3, v4, v5])) (vs : List Value) (h : vs.length = 6) : bindArgs r.fd ⟨vs, []⟩ = pure (r.pars.zip vs) := list6 (P := fun vs => bindArgs r.fd ⟨vs, []⟩ = pure (r.pars.zip vs)) k h
theorem bind0 {r : FnRec} (hd : r.dflt = []) (h : ∀ vs : List Value, vs.length = r.pars.length → bindArgs r.fd ⟨vs, []⟩ = pure (r.pars.zip vs)) : ∃ dv : List Value, VRs [] hT r.dflt dv ∧ ∀ (s : Shared) (vs : List Value), (∀ b o, hT.get? b = some o → s.heap.get? b = some o) → vs.length ≤ r.pars.length → r.pars.length ≤ vs.length + dv.length →
      BindsTo s r.fd ⟨vs, []⟩ (r.pars.zip (vs ++ dv.drop (dv.length + vs.length - r.pars.length))) := by
  refine ⟨[], by rw [hd]; exact .nil, fun s vs zz h1 h2 => BindsTo.of_eq ?_⟩
  rw [List.drop_nil, List.append_nil]
  exact h vs (by simpa using Nat.le_antisymm h1 h2)
theorem dfl_none {v : Value} (e : dflAt h0 v = none) : v = .none := by
  unfold dflAt at e
  split at e
  · rfl
  · split at e <;> exact noneF e
  · exact noneF e
set_option tactic.hygienic true in
theorem dfl_one (T : TopS h0 hT) {v w : Value} (e : dflAt h0 v = some [w]) (hw : w ≠ .ellipsis) : ∃ d o n u, v = .ref d ∧ hT.get? d = some o ∧ o.data = .seq #[u] n ∧ vsh u = w := by
  unfold dflAt at e
  split at e
  · exact noneE e
  · rename_i d
    split at e
    · rename_i od vs n sl ho
      obtain ⟨l⟩ := vs
      have e1 : l.map vsh = [w] := by simpa using e
      have e2 : l.length = 1 := by rw [← List.length_map (f := vsh), e1]; rfl
      obtain ⟨u, rfl⟩ : ∃ u, l = [u] := list1 (P := fun l => ∃ u, l = [u]) (fun u => ⟨u, rfl⟩) e2
      exact ⟨d, _, n, u, rfl, T.apart ho (by simp), rfl, (List.cons.inj e1).1⟩
    · cases e; exact absurd rfl hw
  · cases e; exact absurd rfl hw
theorem bind1 (T : TopS h0 hT) {r : FnRec} {p q : Str} {x : AV} {y : Value} (hd : r.dflt = [x]) (hp : r.pars = [p, q]) (hx : ∀ u, vsh u = y → VR [] hT x u) (hy : y ≠ .ellipsis)
    (h1 : ∀ v0, ∃ k, bindArgs r.fd ⟨[v0], []⟩ = seqItems? r.fd.defaults >>= k ∧ ∀ d, k (some #[d]) = pure [(p, v0), (q, d)]) (h2 : ∀ v0 v1, ∃ k, bindArgs r.fd ⟨[v0, v1], []⟩ = seqItems? r.fd.defaults >>= k ∧ ∀ d, k (some #[d]) = pure [(p, v0), (q, v1)])
    (e : dflAt h0 r.fd.defaults = some [y]) : ∃ dv : List Value, VRs [] hT r.dflt dv ∧ ∀ (s : Shared) (vs : List Value), (∀ b o, hT.get? b = some o → s.heap.get? b = some o) → vs.length ≤ r.pars.length → r.pars.length ≤ vs.length + dv.length →
      BindsTo s r.fd ⟨vs, []⟩ (r.pars.zip (vs ++ dv.drop (dv.length + vs.length - r.pars.length))) := by
  obtain ⟨d, o, n, u, e1, e2, e3, e4⟩ := dfl_one T e hy
  refine ⟨[u], by rw [hd]; exact .cons _ _ _ _ (hx u e4) .nil, fun s vs k l1 l2 => ?_⟩
  rw [hp] at l1 l2 ⊢
  match vs, l1, l2 with
  | [v0], _, _ =>
    refine ex1_2 (h1 v0) fun kk a b => ?_
    exact BindsTo.of_defaults e1 (k _ _ e2) e3 a (b u)
  | [v0, v1], _, _ =>
    refine ex1_2 (h2 v0 v1) fun kk a b => ?_
    exact BindsTo.of_defaults e1 (k _ _ e2) e3 a (b u)
  | [], _, l2 => simp at l2
  | _ :: _ :: _ :: _, l1, _ => simp at l1
theorem ok28 (T : TopS h0 hT) : FnOk hT 28 (r28 (fdOf h0)) :=
  fnOk T (List.mem_of_getElem? (show fns[0]? = some _ from rfl)) rfl rfl rfl rfl rfl rfl (by kernel_rfl) (fun q => by exact ftE q) (fun q => by exact ftE q) (fun q => by exact ftE q) rfl (fun hp hk hd => bind0 rfl fun vs hv => bdN3 (r := r28 (fdOf h0)) (fun v0 v1 v2 => bd28 (fdOf h0 28) v0 v1 v2 hp (dfl_none hd) hk) vs hv)
theorem ok35 (T : TopS h0 hT) : FnOk hT 35 (r35 (fdOf h0)) :=
  fnOk T (List.mem_of_getElem? (show fns[1]? = some _ from rfl)) rfl rfl rfl rfl rfl rfl (by kernel_rfl) (fun q => by exact ftE q) (fun q => by exact ftE q) (fun q => by exact ftE q) rfl (fun hp hk hd => bind0 rfl fun vs hv => bdN6 (r := r35 (fdOf h0)) (fun v0 v1 v2 v3 v4 v5 => bd35 (fdOf h0 35) v0 v1 v2 v3 v4 v5 hp (dfl_none hd) hk) vs hv)
theorem ok42 (T : TopS h0 hT) : FnOk hT 42 (r42 (fdOf h0)) :=
  fnOk T (List.mem_of_getElem? (show fns[2]? = some _ from rfl)) rfl rfl rfl rfl rfl rfl (by kernel_rfl) (fun zz => rfl) (fun zz vs hv hp hd hk => bdN2 (r := r42 (fdOf h0)) (fun v0 v1 => bd42 (fdOf h0 42) v0 v1 hp hd hk) vs hv) (fun zz => rfl) rfl (fun hp hk hd => bind0 rfl fun vs hv => bdN2 (r := r42 (fdOf h0)) (fun v0 v1 => bd42 (fdOf h0 42) v0 v1 hp (dfl_none hd) hk) vs hv)
theorem ok49 (T : TopS h0 hT) : FnOk hT 49 (r49 (fdOf h0)) :=
  fnOk T (List.mem_of_getElem? (show fns[3]? = some _ from rfl)) rfl rfl rfl rfl rfl rfl (by kernel_rfl) (fun zz => rfl) (fun zz vs hv hp hd hk => bdN2 (r := r49 (fdOf h0)) (fun v0 v1 => bd49 (fdOf h0 49) v0 v1 hp hd hk) vs hv) (fun zz => rfl) rfl (fun hp hk hd => bind0 rfl fun vs hv => bdN2 (r := r49 (fdOf h0)) (fun v0 v1 => bd49 (fdOf h0 49) v0 v1 hp (dfl_none hd) hk) vs hv)
theorem ok56 (T : TopS h0 hT) : FnOk hT 56 (r56 (fdOf h0)) :=
  fnOk T (List.mem_of_getElem? (show fns[4]? = some _ from rfl)) rfl rfl rfl rfl rfl rfl (by kernel_rfl) (fun q => by exact ftE q) (fun q => by exact ftE q) (fun q => by exact ftE q) rfl (fun hp hk hd => bind0 rfl fun vs hv => bdN2 (r := r56 (fdOf h0)) (fun v0 v1 => bd56 (fdOf h0 56) v0 v1 hp (dfl_none hd) hk) vs hv)
theorem ok70 (T : TopS h0 hT) : FnOk hT 70 (r70 (fdOf h0)) :=
  fnOk T (List.mem_of_getElem? (show fns[5]? = some _ from rfl)) rfl rfl rfl rfl rfl rfl (by kernel_rfl) (fun q => by exact ftE q) (fun q => by exact ftE q) (fun q => by exact ftE q) rfl (fun hp hk hd => bind0 rfl fun vs hv => bdN5 (r := r70 (fdOf h0)) (fun v0 v1 v2 v3 v4 => bd70 (fdOf h0 70) v0 v1 v2 v3 v4 hp (dfl_none hd) hk) vs hv)
theorem ok77 (T : TopS h0 hT) : FnOk hT 77 (r77 (fdOf h0)) :=
  fnOk T (List.mem_of_getElem? (show fns[6]? = some _ from rfl)) rfl rfl rfl rfl rfl rfl (by kernel_rfl) (fun q => by exact ftE q) (fun q => by exact ftE q) (fun q => by exact ftE q) rfl (fun hp hk hd => bind0 rfl fun vs hv => bdN2 (r := r77 (fdOf h0)) (fun v0 v1 => bd77 (fdOf h0 77) v0 v1 hp (dfl_none hd) hk) vs hv)
theorem ok91 (T : TopS h0 hT) : FnOk hT 91 (r91 (fdOf h0)) :=
  fnOk T (List.mem_of_getElem? (show fns[7]? = some _ from rfl)) rfl rfl rfl rfl rfl rfl (by kernel_rfl) (fun q => by exact ftE q) (fun q => by exact ftE q) (fun q => by exact ftE q) rfl (fun hp hk hd => bind0 rfl fun vs hv => bdN1 (r := r91 (fdOf h0)) (fun v0 => bd91 (fdOf h0 91) v0 hp (dfl_none hd) hk) vs hv)
theorem ok126 (T : TopS h0 hT) : FnOk hT 126 (r126 (fdOf h0)) :=
  fnOk T (List.mem_of_getElem? (show fns[8]? = some _ from rfl)) rfl rfl rfl rfl rfl rfl (by kernel_rfl) (fun q => by exact ftE q) (fun q => by exact ftE q) (fun q => by exact ftE q) rfl (fun hp hk hd => bind0 rfl fun vs hv => bdN3 (r := r126 (fdOf h0)) (fun v0 v1 v2 => bd126 (fdOf h0 126) v0 v1 v2 hp (dfl_none hd) hk) vs hv)
theorem ok150 (T : TopS h0 hT) : FnOk hT 150 (r150 (fdOf h0)) :=
  fnOk T (List.mem_of_getElem? (show fns[9]? = some _ from rfl)) rfl rfl rfl rfl rfl rfl (by kernel_rfl) (fun q => by exact ftE q) (fun q => by exact ftE q) (fun q => by exact ftE q) rfl (fun hp hk hd => bind1 T (r := r150 (fdOf h0)) (y := .int 0 0) rfl rfl (fun u h => by refine ex1_1 (vsh_int h) fun t Z1 => ?_; subst Z1; exact .int 0 t) (fun q => by cases q) (fun v0 => bd150a (fdOf h0 150) v0 hp hk) (fun v0 v1 => bd150b (fdOf h0 150) v0 v1 hp hk) hd)
theorem ok157 (T : TopS h0 hT) : FnOk hT 157 (r157 (fdOf h0)) :=
  fnOk T (List.mem_of_getElem? (show fns[10]? = some _ from rfl)) rfl rfl rfl rfl rfl rfl (by kernel_rfl) (fun q => by exact ftE q) (fun q => by exact ftE q) (fun q => by exact ftE q) rfl (fun hp hk hd => bind0 rfl fun vs hv => bdN3 (r := r157 (fdOf h0)) (fun v0 v1 v2 => bd157 (fdOf h0 157) v0 v1 v2 hp (dfl_none hd) hk) vs hv)
theorem ok165 (T : TopS h0 hT) : FnOk hT 165 (r165 (fdOf h0)) :=
  fnOk T (List.mem_of_getElem? (show fns[11]? = some _ from rfl)) rfl rfl rfl rfl rfl rfl (by kernel_rfl) (fun q => by exact ftE q) (fun q => by exact ftE q) (fun q => by exact ftE q) rfl (fun hp hk hd => bind1 T (r := r165 (fdOf h0)) (y := .int 0 0) rfl rfl (fun u h => by refine ex1_1 (vsh_int h) fun t Z1 => ?_; subst Z1; exact .int 0 t) (fun q => by cases q) (fun v0 => bd165a (fdOf h0 165) v0 hp hk) (fun v0 v1 => bd165b (fdOf h0 165) v0 v1 hp hk) hd)
theorem ok173 (T : TopS h0 hT) : FnOk hT 173 (r173 (fdOf h0)) :=
  fnOk T (List.mem_of_getElem? (show fns[12]? = some _ from rfl)) rfl rfl rfl rfl rfl rfl (by kernel_rfl) (fun q => by exact ftE q) (fun q => by exact ftE q) (fun q => by exact ftE q) rfl (fun hp hk hd => bind0 rfl fun vs hv => bdN1 (r := r173 (fdOf h0)) (fun v0 => bd173 (fdOf h0 173) v0 hp (dfl_none hd) hk) vs hv)
theorem ok180 (T : TopS h0 hT) : FnOk hT 180 (r180 (fdOf h0)) :=
  fnOk T (List.mem_of_getElem? (show fns[13]? = some _ from rfl)) rfl rfl rfl rfl rfl rfl (by kernel_rfl) (fun q => by exact ftE q) (fun q => by exact ftE q) (fun q => by exact ftE q) rfl (fun hp hk hd => bind0 rfl fun vs hv => bdN1 (r := r180 (fdOf h0)) (fun v0 => bd180 (fdOf h0 180) v0 hp (dfl_none hd) hk) vs hv)
theorem ok187 (T : TopS h0 hT) : FnOk hT 187 (r187 (fdOf h0)) :=
  fnOk T (List.mem_of_getElem? (show fns[14]? = some _ from rfl)) rfl rfl rfl rfl rfl rfl (by kernel_rfl) (fun q => by exact ftE q) (fun q => by exact ftE q) (fun q => by exact ftE q) rfl (fun hp hk hd => bind0 rfl fun vs hv => bdN1 (r := r187 (fdOf h0)) (fun v0 => bd187 (fdOf h0 187) v0 hp (dfl_none hd) hk) vs hv)
theorem ok195 (T : TopS h0 hT) : FnOk hT 195 (r195 (fdOf h0)) :=
  fnOk T (List.mem_of_getElem? (show fns[15]? = some _ from rfl)) rfl rfl rfl rfl rfl rfl (by kernel_rfl) (fun q => by exact ftE q) (fun q => by exact ftE q) (fun q => by exact ftE q) rfl (fun hp hk hd => bind1 T (r := r195 (fdOf h0)) (y := .none) rfl rfl (fun u h => by rw [vsh_none h]; exact .none) (fun q => by cases q) (fun v0 => bd195a (fdOf h0 195) v0 hp hk) (fun v0 v1 => bd195b (fdOf h0 195) v0 v1 hp hk) hd)
theorem ok202 (T : TopS h0 hT) : FnOk hT 202 (r202 (fdOf h0)) :=
  fnOk T (List.mem_of_getElem? (show fns[16]? = some _ from rfl)) rfl rfl rfl rfl rfl rfl (by kernel_rfl) (fun q => by exact ftE q) (fun q => by exact ftE q) (fun q => by exact ftE q) rfl (fun hp hk hd => bind0 rfl fun vs hv => bdN1 (r := r202 (fdOf h0)) (fun v0 => bd202 (fdOf h0 202) v0 hp (dfl_none hd) hk) vs hv)
theorem ok210 (T : TopS h0 hT) : FnOk hT 210 (r210 (fdOf h0)) :=
  fnOk T (List.mem_of_getElem? (show fns[17]? = some _ from rfl)) rfl rfl rfl rfl rfl rfl (by kernel_rfl) (fun q => by exact ftE q) (fun q => by exact ftE q) (fun q => by exact ftE q) rfl (fun hp hk hd => bind0 rfl fun vs hv => bdN1 (r := r210 (fdOf h0)) (fun v0 => bd210 (fdOf h0 210) v0 hp (dfl_none hd) hk) vs hv)
theorem ok234 (T : TopS h0 hT) : FnOk hT 234 (r234 (fdOf h0)) :=
  fnOk T (List.mem_of_getElem? (show fns[18]? = some _ from rfl)) rfl rfl rfl rfl rfl rfl (by kernel_rfl) (fun q => by exact ftE q) (fun q => by exact ftE q) (fun q => by exact ftE q) rfl (fun hp hk hd => bind0 rfl fun vs hv => bdN2 (r := r234 (fdOf h0)) (fun v0 v1 => bd234 (fdOf h0 234) v0 v1 hp (dfl_none hd) hk) vs hv)
theorem ok290 (T : TopS h0 hT) : FnOk hT 290 (r290 (fdOf h0)) :=
  fnOk T (List.mem_of_getElem? (show fns[19]? = some _ from rfl)) rfl rfl rfl rfl rfl rfl (by kernel_rfl) (fun q => by exact ftE q) (fun q => by exact ftE q) (fun q => by exact ftE q) rfl (fun hp hk hd => bind0 rfl fun vs hv => bdN3 (r := r290 (fdOf h0)) (fun v0 v1 v2 => bd290 (fdOf h0 290) v0 v1 v2 hp (dfl_none hd) hk) vs hv)
theorem ok297 (T : TopS h0 hT) : FnOk hT 297 (r297 (fdOf h0)) :=
  fnOk T (List.mem_of_getElem? (show fns[20]? = some _ from rfl)) rfl rfl rfl rfl rfl rfl (by kernel_rfl) (fun q => by exact ftE q) (fun q => by exact ftE q) (fun q => by exact ftE q) rfl (fun hp hk hd => bind0 rfl fun vs hv => bdN3 (r := r297 (fdOf h0)) (fun v0 v1 v2 => bd297 (fdOf h0 297) v0 v1 v2 hp (dfl_none hd) hk) vs hv)
theorem ok302 (T : TopS h0 hT) : FnOk hT 302 (r302 (fdOf h0)) :=
  fnOk T (List.mem_of_getElem? (show fns[21]? = some _ from rfl)) rfl rfl rfl rfl rfl rfl (by kernel_rfl) (fun zz => rfl) (fun zz vs hv hp hd hk => bdN3 (r := r302 (fdOf h0)) (fun v0 v1 v2 => bd302 (fdOf h0 302) v0 v1 v2 hp hd hk) vs hv) (fun zz => rfl) rfl (fun hp hk hd => bind0 rfl fun vs hv => bdN3 (r := r302 (fdOf h0)) (fun v0 v1 v2 => bd302 (fdOf h0 302) v0 v1 v2 hp (dfl_none hd) hk) vs hv)
theorem ok307 (T : TopS h0 hT) : FnOk hT 307 (r307 (fdOf h0)) :=
  fnOk T (List.mem_of_getElem? (show fns[22]? = some _ from rfl)) rfl rfl rfl rfl rfl rfl (by kernel_rfl) (fun zz => rfl) (fun zz vs hv hp hd hk => bdN1 (r := r307 (fdOf h0)) (fun v0 => bd307 (fdOf h0 307) v0 hp hd hk) vs hv) (fun zz => rfl) rfl (fun hp hk hd => bind0 rfl fun vs hv => bdN1 (r := r307 (fdOf h0)) (fun v0 => bd307 (fdOf h0 307) v0 hp (dfl_none hd) hk) vs hv)
theorem leaf {α : Type} {a n : Nat} {x z : α} (e : (bif Nat.beq a n then some x else none) = some z) : a = n ∧ x = z := by
  revert e; refine condE fun h e => ?_
  exact ⟨Nat.eq_of_beq_eq_true h, Option.some.inj e⟩
theorem bifT {α : Type} {b : Bool} {x y : Option α} {P : α → Prop} (h1 : ∀ r, x = some r → P r) (h2 : ∀ r, y = some r → P r) : ∀ r, (bif b then x else y) = some r → P r := by cases b <;> assumption
theorem leafF {hT : Heap} {a n : Nat} {x : FnRec} (h : FnOk hT n x) : ∀ r, (bif Nat.beq a n then some x else none) = some r → FnOk hT a r := fun r e => by
  refine ex0_2 (leaf e) fun Z1 Z2 => ?_; subst Z1; subst Z2
  exact h
theorem tabF_ok (T : TopS h0 hT) : TabFOk (tabG (fdOf h0)) hT where
  fn := fun a => by
    show ∀ r, fnT (fdOf h0) a = some r → FnOk hT a r
    unfold fnT
    repeat' (first
      | exact leafF (ok28 T)
      | exact leafF (ok35 T)
      | exact leafF (ok42 T)
      | exact leafF (ok49 T)
      | exact leafF (ok56 T)
      | exact leafF (ok70 T)
      | exact leafF (ok77 T)
      | exact leafF (ok91 T)
      | exact leafF (ok126 T)
      | exact leafF (ok150 T)
      | exact leafF (ok157 T)
      | exact leafF (ok165 T)
      | exact leafF (ok173 T)
      | exact leafF (ok180 T)
      | exact leafF (ok187 T)
      | exact leafF (ok195 T)
      | exact leafF (ok202 T)
      | exact leafF (ok210 T)
      | exact leafF (ok234 T)
      | exact leafF (ok290 T)
      | exact leafF (ok297 T)
      | exact leafF (ok302 T)
      | exact leafF (ok307 T)
      | refine bifT ?_ ?_)
end
end Mine
namespace Mine
section
variable {h0 hT : Heap}
theorem find_at {l : List ((Nat × Str) × Option (Option Value))} {i : Nat} {p : (Nat × Str) × Option (Option Value)} (h : l[i]? = some p) : p ∈ l := List.mem_of_getElem? h
theorem all_nil {α : Type} {P : α → Prop} : ∀ p ∈ ([] : List α), P p := fun zz h => nomatch h
theorem all_cons {α : Type} {P : α → Prop} {a : α} {l : List α} (h : P a) (t : ∀ p ∈ l, P p) : ∀ p ∈ a :: l, P p := fun p hp => by
  rcases List.mem_cons.mp hp with q | q
  · rw [q]; exact h
  · exact t p q
noncomputable def GlbP (hT : Heap) (p : Str × AV) : Prop := ∃ u, VR [] hT p.2 u ∧ GlobIs hT p.1 u
theorem pBi (T : TopS h0 hT) {i : Nat} {x : Str} {a : String} {b : BI} (h : glbs[i]? = some (x, (none, some (.builtin a)))) (hb : b.val = .builtin a) : GlbP hT (x, .bi b) := ⟨_, .bi b, by rw [hb]; exact globB_bi T (List.mem_of_getElem? h)⟩
theorem pTy (T : TopS h0 hT) {i : Nat} {x : Str} {a : String} {b : BI} (h : glbs[i]? = some (x, (none, some (.type a)))) (hb : b.val = .type a) : GlbP hT (x, .bi b) := ⟨_, .bi b, by rw [hb]; exact globB_type T (List.mem_of_getElem? h)⟩
theorem pFn (T : TopS h0 hT) {i : Nat} {x : Str} {a : Addr} (h : glbs[i]? = some (x, (some (.ref a), none))) : GlbP hT (x, .fn a) := ⟨_, .fn a, globM_ref T (List.mem_of_getElem? h)⟩
theorem pCls (T : TopS h0 hT) {i : Nat} {x : Str} {a : Addr} (h : glbs[i]? = some (x, (some (.ref a), none))) : GlbP hT (x, .cls a) := ⟨_, .cls a, globM_ref T (List.mem_of_getElem? h)⟩
theorem pInt (T : TopS h0 hT) {i : Nat} {x : Str} {k : Int} (h : glbs[i]? = some (x, (some (.int k 0), none))) : GlbP hT (x, .int k) := by
  refine ex1_2 (T.globM (List.mem_of_getElem? h)) fun u e G => ?_
  refine ex1_1 (vsh_int e) fun t Z1 => ?_; subst Z1
  exact ⟨_, .int _ t, G⟩
theorem pStr (T : TopS h0 hT) {i : Nat} {x : Str} {l : List Nat} (h : glbs[i]? = some (x, (some (.str ⟨l.toArray⟩ 0), none))) : GlbP hT (x, .str l) := by
  refine ex1_2 (T.globM (List.mem_of_getElem? h)) fun u e G => ?_
  refine ex1_1 (vsh_str e) fun t Z1 => ?_; subst Z1
  exact ⟨_, .str _ t, G⟩
theorem glb_all (T : TopS h0 hT) : ∀ p ∈ glb, GlbP hT p :=
    all_cons (pBi T (i := 14) rfl rfl) <|
    all_cons (pBi T (i := 15) rfl rfl) <|
    all_cons (pBi T (i := 16) rfl rfl) <|
    all_cons (pBi T (i := 17) rfl rfl) <|
    all_cons (pBi T (i := 18) rfl rfl) <|
    all_cons (pTy T (i := 19) rfl rfl) <|
    all_cons (pTy T (i := 20) rfl rfl) <|
    all_cons (pTy T (i := 21) rfl rfl) <|
    all_cons (pTy T (i := 22) rfl rfl) <|
    all_cons (pInt T (i := 0) rfl) <|
    all_cons (pFn T (i := 1) rfl) <|
    all_cons (pFn T (i := 2) rfl) <|
    all_cons (pFn T (i := 3) rfl) <|
    all_cons (pFn T (i := 4) rfl) <|
    all_cons (pFn T (i := 5) rfl) <|
    all_cons (pStr T (i := 6) rfl) <|
    all_cons (pStr T (i := 7) rfl) <|
    all_cons (pCls T (i := 8) rfl) <|
    all_cons (pCls T (i := 9) rfl) <|
    all_cons (pCls T (i := 10) rfl) <|
    all_cons (pFn T (i := 11) rfl) <|
    all_cons (pFn T (i := 12) rfl) <|
    all_cons (pFn T (i := 13) rfl) <|
    all_nil
theorem tab_ok (T : TopS h0 hT) : TabOk (tabG (fdOf h0)) hT where
  lim := T.lim
  g := fun x v e => by
    change lk x glb = some v at e
    rw [lk_eq] at e
    exact glb_all T _ (PySem.mem_of_lookup e)
theorem TopS.bl (T : TopS h0 hT) {i : Nat} {b : Bool} (h : (Bls (kOf h0))[i]? = some b) : b = true := bl_at T.bls h
theorem TopS.mro (T : TopS h0 hT) {i : Nat} {C : Nat} {l : List Value} {q : String} (h1 : mros[i]? = some (C, l)) (h2 : mroE[i]? = some (some (l, q))) : ∃ cd, clsIn (kOf h0) C = some cd ∧ cd.mro = l ∧ cd.qualname.toString = q := by
  have e : Mro (kOf h0) = mroE := congrArg Facts.c T.facts
  have e1 : (Mro (kOf h0))[i]? = some ((clsIn (kOf h0) C).map fun c => (c.mro, c.qualname.toString)) := by unfold Mro; rw [List.getElem?_map, h1]; rfl
  rw [e, h2] at e1
  refine ex1_2 (Option.map_eq_some_iff.mp (Option.some.inj e1).symm) fun cd a b => ?_
  exact ⟨cd, a, (Prod.mk.inj b).1, (Prod.mk.inj b).2⟩
theorem cls213 (T : TopS h0 hT) : ClsOk (kOf h0) 213 := ⟨.inr ⟨(T.fnd (find_at (show fnd[0]? = some _ from rfl))), beq_iff_eq.mp (T.bl (i := 14) rfl)⟩, (T.fnd (find_at (show fnd[1]? = some _ from rfl)))⟩
theorem cls129 (T : TopS h0 hT) : ClsOk (kOf h0) 129 := ⟨.inl (T.fnd (find_at (show fnd[18]? = some _ from rfl))), (T.fnd (find_at (show fnd[19]? = some _ from rfl)))⟩
theorem cls279 (T : TopS h0 hT) : ClsOk (kOf h0) 279 := ⟨.inl (T.fnd (find_at (show fnd[31]? = some _ from rfl))), (T.fnd (find_at (show fnd[32]? = some _ from rfl)))⟩
theorem own213 (T : TopS h0 hT) {n : Str} (h : findIn (kOf h0) (.ref 213) n = some none) : OwnOk (kOf h0) 213 n :=
  ⟨cls213 T, T.bl (i := 0) rfl, h, (T.fnd (find_at (show fnd[6]? = some _ from rfl))), by
    refine ex1_3 (T.mro (i := 0) rfl rfl) fun cd a b zz => ?_
    exact ⟨cd, a, by rw [b]; rfl, by rw [b]; decide, fun self => by rw [b]; rfl⟩⟩
theorem own129 (T : TopS h0 hT) {n : Str} (h : findIn (kOf h0) (.ref 129) n = some none) : OwnOk (kOf h0) 129 n :=
  ⟨cls129 T, T.bl (i := 1) rfl, h, (T.fnd (find_at (show fnd[20]? = some _ from rfl))), by
    refine ex1_3 (T.mro (i := 1) rfl rfl) fun cd a b zz => ?_
    exact ⟨cd, a, by rw [b]; rfl, by rw [b]; decide, fun self => by rw [b]; rfl⟩⟩
theorem own279 (T : TopS h0 hT) {n : Str} (h : findIn (kOf h0) (.ref 279) n = some none) : OwnOk (kOf h0) 279 n :=
  ⟨cls279 T, T.bl (i := 2) rfl, h, (T.fnd (find_at (show fnd[33]? = some _ from rfl))), by
    refine ex1_3 (T.mro (i := 2) rfl rfl) fun cd a b zz => ?_
    exact ⟨cd, a, by rw [b]; rfl, by rw [b]; decide, fun self => by rw [b]; rfl⟩⟩
theorem metOk (T : TopS h0 hT) {C a : Nat} {n : Str} (c : ClsOk (kOf h0) C) (h : findIn (kOf h0) (.ref C) n = some (some (.ref a))) (t : typeIn (kOf h0) (.ref a) = some (.type "function")) : MetOk (kOf h0) C n (.fn a) :=
  ⟨c, .ref a, "function", h, t, .inl rfl, .inl ⟨a, rfl, rfl, rfl⟩⟩
theorem own_all (T : TopS h0 hT) : ∀ p ∈ ownT, OwnOk (kOf h0) p.1 p.2 :=
    all_cons (own129 T (T.fnd (find_at (show fnd[21]? = some _ from rfl)))) <|
    all_cons (own129 T (T.fnd (find_at (show fnd[22]? = some _ from rfl)))) <|
    all_cons (own129 T (T.fnd (find_at (show fnd[23]? = some _ from rfl)))) <|
    all_cons (own129 T (T.fnd (find_at (show fnd[24]? = some _ from rfl)))) <|
    all_cons (own129 T (T.fnd (find_at (show fnd[25]? = some _ from rfl)))) <|
    all_cons (own129 T (T.fnd (find_at (show fnd[26]? = some _ from rfl)))) <|
    all_cons (own213 T (T.fnd (find_at (show fnd[7]? = some _ from rfl)))) <|
    all_cons (own279 T (T.fnd (find_at (show fnd[34]? = some _ from rfl)))) <|
    all_cons (own279 T (T.fnd (find_at (show fnd[35]? = some _ from rfl)))) <|
    all_cons (own279 T (T.fnd (find_at (show fnd[36]? = some _ from rfl)))) <|
    all_cons (own279 T (T.fnd (find_at (show fnd[37]? = some _ from rfl)))) <|
    all_cons (own279 T (T.fnd (find_at (show fnd[38]? = some _ from rfl)))) <|
    all_nil
theorem met_all (T : TopS h0 hT) : ∀ p ∈ metT, MetOk (kOf h0) p.1.1 p.1.2 p.2 :=
    all_cons (metOk T (cls129 T) (T.fnd (find_at (show fnd[27]? = some _ from rfl))) (T.typ (List.mem_of_getElem? (show typs[4]? = some _ from rfl)))) <|
    all_cons (metOk T (cls129 T) (T.fnd (find_at (show fnd[28]? = some _ from rfl))) (T.typ (List.mem_of_getElem? (show typs[5]? = some _ from rfl)))) <|
    all_cons (metOk T (cls129 T) (T.fnd (find_at (show fnd[29]? = some _ from rfl))) (T.typ (List.mem_of_getElem? (show typs[6]? = some _ from rfl)))) <|
    all_cons (metOk T (cls129 T) (T.fnd (find_at (show fnd[30]? = some _ from rfl))) (T.typ (List.mem_of_getElem? (show typs[7]? = some _ from rfl)))) <|
    all_cons (metOk T (cls213 T) (T.fnd (find_at (show fnd[8]? = some _ from rfl))) (T.typ (List.mem_of_getElem? (show typs[8]? = some _ from rfl)))) <|
    all_cons (metOk T (cls213 T) (T.fnd (find_at (show fnd[9]? = some _ from rfl))) (T.typ (List.mem_of_getElem? (show typs[3]? = some _ from rfl)))) <|
    all_cons (metOk T (cls213 T) (T.fnd (find_at (show fnd[10]? = some _ from rfl))) (T.typ (List.mem_of_getElem? (show typs[9]? = some _ from rfl)))) <|
    all_cons (metOk T (cls213 T) (T.fnd (find_at (show fnd[11]? = some _ from rfl))) (T.typ (List.mem_of_getElem? (show typs[10]? = some _ from rfl)))) <|
    all_cons (metOk T (cls213 T) (T.fnd (find_at (show fnd[12]? = some _ from rfl))) (T.typ (List.mem_of_getElem? (show typs[11]? = some _ from rfl)))) <|
    all_cons (metOk T (cls213 T) (T.fnd (find_at (show fnd[13]? = some _ from rfl))) (T.typ (List.mem_of_getElem? (show typs[12]? = some _ from rfl)))) <|
    all_cons (metOk T (cls213 T) (T.fnd (find_at (show fnd[14]? = some _ from rfl))) (T.typ (List.mem_of_getElem? (show typs[13]? = some _ from rfl)))) <|
    all_cons (metOk T (cls213 T) (T.fnd (find_at (show fnd[15]? = some _ from rfl))) (T.typ (List.mem_of_getElem? (show typs[14]? = some _ from rfl)))) <|
    all_cons (metOk T (cls213 T) (T.fnd (find_at (show fnd[16]? = some _ from rfl))) (T.typ (List.mem_of_getElem? (show typs[15]? = some _ from rfl)))) <|
    all_cons (⟨cls213 T, .builtin "list.append", "method_descriptor", (T.fnd (find_at (show fnd[17]? = some _ from rfl))), by kernel_rfl, .inr rfl, .inr ⟨.append, rfl, rfl⟩⟩) <|
    all_cons (metOk T (cls279 T) (T.fnd (find_at (show fnd[39]? = some _ from rfl))) (T.typ (List.mem_of_getElem? (show typs[16]? = some _ from rfl)))) <|
    all_nil
set_option tactic.hygienic true in
theorem tabC_ok (T : TopS h0 hT) : TabCOk (tabC (kOf h0)) hT where
  mak := fun C hC => by
    have key : ∀ C : Addr, keepIn (kOf h0) (.ref C) = true → KeepOk hT (.ref C) := fun C h M hh k => keeps_K h hh (T.inn.keeps k)
    simp only [tabC, List.mem_cons, List.not_mem_nil, or_false] at hC
    rcases hC with rfl | rfl | rfl
    · exact key _ (T.bl (i := 8) rfl)
    · exact key _ (T.bl (i := 7) rfl)
    · exact key _ (T.bl (i := 9) rfl)
  nob := fun C hC => by
    simp only [tabC, List.mem_cons, List.not_mem_nil, or_false] at hC
    subst hC
    exact (T.fnd (find_at (show fnd[2]? = some _ from rfl)))
  lst := fun C hC => by
    simp only [tabC, List.mem_cons, List.not_mem_nil, or_false] at hC
    subst hC
    exact ⟨beq_iff_eq.mp (T.bl (i := 14) rfl), T.bl (i := 6) rfl, (T.fnd (find_at (show fnd[3]? = some _ from rfl))), (T.fnd (find_at (show fnd[4]? = some _ from rfl)))⟩
  inn := T.inn
  own := fun p hp => own_all T p hp
  met := fun p hp => met_all T p hp
  cat := fun p hp => by
    have e : Cat (kOf h0) = catE := congrArg Facts.e T.facts
    have key : ∀ (i : Nat) (n : Str) (x : Str), ([L "S", L "T"] : List Str)[i]? = some n → catE[i]? = some (some (.str x 0)) → CatOk (kOf h0) hT 279 n (.str x.cps.toList) := fun i n x h1 h2 => by
      have e1 : (Cat (kOf h0))[i]? = _ := congrArg (·[i]?) e
      unfold Cat at e1
      rw [List.getElem?_map, h1, h2] at e1
      have e2 := Option.some.inj e1
      dsimp only at e2
      split at e2
      · rename_i a ha
        refine ex1_1 (vsh_str (Option.some.inj e2)) fun t Z1 => ?_; subst Z1
        refine ⟨⟨.type "type", _, (T.typ (List.mem_of_getElem? (show typs[2]? = some _ from rfl))), T.bl (i := 10) rfl, ha, rfl, ?_⟩⟩
        have := VR.str (ρ := []) (h := hT) x.cps.toList t
        rwa [str_back] at this
      · exact noneE e2
    simp only [tabC, catT, List.mem_cons, List.not_mem_nil, or_false] at hp
    rcases hp with rfl | rfl
    · exact key 0 _ _ rfl rfl
    · exact key 1 _ _ rfl rfl
end
end Mine
namespace Mine
noncomputable def genScB (scope : Scope) (x y : Str) : Bool := !scope.isCoroutine && (scope.names.all (fun p => !isCellK p.2) && (isLocK (lk (Str.ofString ".0") scope.names) && (isLocK (lk x scope.names) && (isLocK (lk y scope.names) && (!W.Fast.sEq x y && (isFunK scope.kind && (!W.Fast.sEq x (Str.ofString "__debug__") && !W.Fast.sEq y (Str.ofString "__debug__"))))))))
theorem genScB_ok {scope : Scope} {x y : Str} (h : genScB scope x y = true) : GenScOk scope x y := by
  unfold genScB at h
  simp only [Bool.and_eq_true, Bool.not_eq_true'] at h
  obtain ⟨h1, h2, h3, h4, h5, h6, h7, h8, h9⟩ := h
  refine ⟨h1, fun z hz q => ?_, isLocK_eq (by rw [← lk_eq]; exact h3), isLocK_eq (by rw [← lk_eq]; exact h4), isLocK_eq (by rw [← lk_eq]; exact h5), fun q => ?_, isFunK_eq h7, h8, h9⟩
  · have := List.all_eq_true.mp h2 z hz
    rw [q] at this; exact ftE this
  · rw [W.Fast.sEq_iff.mpr q] at h6; exact tfE h6
noncomputable def isGlobK : Option NameKind → Bool
  | some .globalImplicit => true
  | _ => false
theorem isGlobK_ok {o : Option NameKind} (h : isGlobK o = true) : o = some .globalImplicit := by
  unfold isGlobK at h
  split at h
  · rfl
  · exact ftE h
noncomputable def clB (names : List (Str × NameKind)) : Bool := match clA [] names [] with
  | some [] => true
  | _ => false
theorem clB_ok {names : List (Str × NameKind)} (h : clB names = true) : clA [] names [] = some [] := by
  unfold clB at h
  split at h
  · assumption
  · exact ftE h
theorem sum_is : SumF (mN 12 4).2.1 := .mk _ _ _ _ _ _ _ _ _ _ _ _ _ _ _ _ _ _ _ _ _ (genScB_ok (by kernel_rfl)) (by rw [← lk_eq]; exact isGlobK_ok (by kernel_rfl)) (clB_ok (by kernel_rfl))
theorem join_is : JoinF (mN 12 5).2.1 := .mk _ _ _ _ _ _ _ _ _ _ _ _ _ _ _ _ _ _ _ _ (genScB_ok (by kernel_rfl)) (by rw [← lk_eq]; exact isGlobK_ok (by kernel_rfl)) (clB_ok (by kernel_rfl)) (by kernel_rfl) (by kernel_rfl)
section
variable {h0 hT : Heap}
theorem fdOf_at {a : Addr} {f : FnS} (T : TopS h0 hT) (m : (a, f) ∈ fns) : ∃ fd, fdAt h0 a = some fd ∧ fdOf h0 a = fd ∧ f = ⟨fd.params, fd.body, fd.scope, fd.globals, fd.builtins, codeB h0 fd.code fd.qualname "/claim/cut.py", fd.qualname, dflAt h0 fd.defaults, fd.kwdefaults == .none, fd.closure⟩ := by
  refine ex1_2 (Option.map_eq_some_iff.mp (T.fn m)) fun fd hfd e => ?_
  exact ⟨fd, hfd, by unfold fdOf; rw [hfd]; rfl, e.symm⟩
theorem tabB_ok (T : TopS h0 hT) {a P : Addr} {fd : FuncData} (hf : fdAt h0 a = some fd) (e : tabB h0 a P = true) : ∃ c, fd.code = .ref c ∧ CodeHd hT c P := by
  refine ex1_1 (Option.isSome_iff_exists.mp e) fun c' e => ?_
  revert e
  refine bindE fun fd' hf' e => ?_
  cases hf.symm.trans hf'
  revert e
  refine bindE fun c hc e => ?_
  revert e
  refine bindE fun o ho e => ?_
  revert e
  refine bindE fun vs hd e => ?_
  revert e
  refine condE fun h1 e => ?_
  refine ex0_2 (Bool.and_eq_true_iff.mp h1) fun e0 e3 => ?_
  revert e
  refine bindE fun p q11 e => ?_
  revert e
  refine condE fun e4 e => ?_
  revert e
  refine bindE fun x18 q18 e => ?_
  revert e
  refine bindE fun x7 q7 e => ?_
  revert e
  refine bindE fun x9 q9 e => ?_
  revert e
  refine bindE fun x10 q10 zz => ?_
  have q11 := refV_ok q11
  have q18 := strV_ok q18
  have q7 := intV_ok q7
  have q9 := bolV_ok q9
  have q10 := intV_ok q10
  obtain ⟨cl, od, dt, sl⟩ := o
  have e1 := beq_iff_eq.mp e0
  have e2 := beq_iff_eq.mp e4
  have hd2 := fldV_ok hd
  dsimp only at e1 hd2
  subst e2; subst hd2; subst e1
  have gd : ∀ {i : Nat} {v : Value}, vs[i]? = some v → vs.getD i .none = v := fun h => by rw [Array.getD_eq_getD_getElem?, h]; rfl
  exact ⟨c, Option.some.inj (refV_ok hc), _, vs, x18.1, x18.2, x7.1, x7.2, x9, x10.1, x10.2, T.apart ho (fun q => by cases q), rfl, rfl, q11, gd q11, gd q18, gd q7, gd q9, gd q10, by simpa using e3⟩
theorem mg_at (T : TopS h0 hT) (P : Addr) (hP : P ∈ tabAddrs) : ∃ mg, hT.Ns mainGlobals mg ∧ hT.BuiltinsAt mg P := by
  obtain ⟨bm, ob, b1, b2, b3, b4, b5, b6⟩ := T.bmain
  refine ⟨_, T.g, bm, ob, b1, b2, fun q => ?_, fun q => ?_, b3, b4, b5, b6⟩
  · refine ex3_3 T.g fun o es ep e hd zz => ?_
    rw [q, e] at b3; revert b3; refine someC fun h => ?_; subst h; rw [hd] at b6; cases b6
  · rw [q, T.hid P hP] at b3; exact noneE b3
theorem n42_ok (T : TopS h0 hT) : NestOk hT (fdOf h0 42) n42 := by
  refine ex1_3 (fdOf_at T (a := 42) (List.mem_of_getElem? (show fns[2]? = some _ from rfl))) fun fd hf e es => ?_
  refine ex1_2 (tabB_ok T hf (bl_at T.oth (i := 0) rfl)) fun c a b => ?_
  rw [e]
  refine ⟨⟨c, a, b⟩, mg_at T 37 (by decide), ?_⟩
  have q : fd.qualname = L "_int2digits" := (congrArg FnS.qual es).symm
  rw [q]; rfl
theorem n49_ok (T : TopS h0 hT) : NestOk hT (fdOf h0 49) n49 := by
  refine ex1_3 (fdOf_at T (a := 49) (List.mem_of_getElem? (show fns[3]? = some _ from rfl))) fun fd hf e es => ?_
  refine ex1_2 (tabB_ok T hf (bl_at T.oth (i := 1) rfl)) fun c a b => ?_
  rw [e]
  refine ⟨⟨c, a, b⟩, mg_at T 44 (by decide), ?_⟩
  have q : fd.qualname = L "_digits2int" := (congrArg FnS.qual es).symm
  rw [q]; rfl
theorem gt_ok (T : TopS h0 hT) {a P i : Nat} {f : FnS} (m : (a, f) ∈ fns) (h : (Oth h0)[i]? = some (tabB h0 a P)) (hP : P ∈ tabAddrs) : ∃ c, (fdOf h0 a).code = .ref c ∧ GenTabOk hT c P := by
  refine ex1_3 (fdOf_at T m) fun fd hf e es => ?_
  refine ex1_2 (tabB_ok T hf (bl_at T.oth h)) fun c a b => ?_
  exact ⟨c, by rw [e]; exact a, ⟨b, mg_at T P hP⟩⟩
theorem cell_ok (T : TopS h0 hT) : hT.IsCell 137 (some (.ref 213)) := by
  have e := bl_at T.oth (i := 8) (b := cellB h0 137) rfl
  refine ex1_1 (Option.isSome_iff_exists.mp e) fun z e => ?_
  revert e
  refine bindE fun o ho e => ?_
  revert e
  refine bindE fun v hv e => ?_
  revert e
  refine condE fun e1 zz => ?_
  have hv := celV_ok hv
  have e1 := beq_iff_eq.mp e1
  subst e1
  exact ⟨o, T.apart' ho (fun q => by rw [hv] at q; cases q), hv⟩
theorem free_ok {o : Option NameKind} (h : (match o with | some .free => true | _ => false) = true) : o = some .free := by
  split at h
  · rfl
  · exact ftE h
theorem sup_ok (T : TopS h0 hT) {a : Nat} {f : FnS} {r : FnRec} (m : (a, f) ∈ fns) (hr : r.fd = fdOf h0 a) (h1 : f.code = true) (h2 : f.clo = [(L "__class__", 137)]) (h3 : isGlobK (lk (L "super") f.scope.names) = true) (h4 : (match lk (L "__class__") f.scope.names with | some .free => true | _ => false) = true)
    (h5 : isLocK (lk (L "self") f.scope.names) = true) (h6 : (match (f.params.posonlyargs ++ f.params.args).head? with | some ar => W.Fast.sEq ar.arg (L "self") | none => false) = true) : SupOk PySem.Challenge.pw_sr0087_01 hT (kOf h0) 213 r := by
  refine ex1_3 (fdOf_at T m) fun fd hf e es => ?_
  rw [e] at hr
  subst es
  refine ex1_3 (T.mro (i := 0) rfl rfl) fun cd c1 c2 c3 => ?_
  refine ex5_5 (codeB_ok T h1) fun c oc vs t tf k1 k2 k3 k4 k5 => ?_
  have al : ∀ {n : Str} {v : Option (Option Value)}, alongIn (kOf h0) n [.type "list", .type "object"] = v → alongIn (kOf h0) n ((cd.mro.dropWhile (· != .ref 213)).drop 1) = v := fun h => by rw [c2]; exact h
  refine ⟨T.inn, ?_, ?_, ?_, ?_, ⟨c, oc, vs, _, tf, by rw [hr]; exact k1, k2, k3, k5, rfl⟩, by kernel_rfl, globB_type T (List.mem_of_getElem? (show glbs[23]? = some _ from rfl)), ⟨137, ?_, cell_ok T⟩,
    ⟨cd, c1, c3, al (beq_iff_eq.mp (T.bl (i := 18) rfl)), al (beq_iff_eq.mp (T.bl (i := 19) rfl)), al (beq_iff_eq.mp (T.bl (i := 20) rfl))⟩,
    beq_iff_eq.mp (T.bl (i := 15) rfl), beq_iff_eq.mp (T.bl (i := 16) rfl), beq_iff_eq.mp (T.bl (i := 17) rfl), beq_iff_eq.mp (T.bl (i := 13) rfl), (T.typ (List.mem_of_getElem? (show typs[0]? = some _ from rfl)))⟩
  · rw [hr, ← lk_eq]; exact isGlobK_ok h3
  · rw [hr, ← lk_eq]; exact free_ok h4
  · rw [hr]
    revert h6
    generalize (fd.params.posonlyargs ++ fd.params.args).head? = o
    intro h6
    cases o with
    | none => exact ftE h6
    | some ar => exact ⟨ar, rfl, W.Fast.sEq_iff.mp h6⟩
  · rw [hr, ← lk_eq]; exact isLocK_eq h5
  · rw [hr, show fd.closure = [(L "__class__", 137)] from h2]; rfl
theorem fn_at {F : Addr → FuncData} {a : Addr} {r r' : FnRec} (h : fnT F a = some r) (h' : fnT F a = some r') : r = r' := Option.some.inj (h.symm.trans h')
theorem fnIn_157 (T : TopS h0 hT) : fnIn (kOf h0) 157 = true := by
  refine ex1_2 (Option.map_eq_some_iff.mp (show ((kOf h0).lookup 157).map (·.cls) = _ from (T.typ (List.mem_of_getElem? (show typs[3]? = some _ from rfl))))) fun o ho zz => ?_
  refine ex0_2 (kOf_get ho) fun h1 zz => ?_
  refine ex1_2 (fdOf_at T (a := 157) (List.mem_of_getElem? (show fns[10]? = some _ from rfl))) fun fd hf zz => ?_
  refine ex1_2 (fdAt_ok hf) fun o' h2 h3 => ?_
  rw [h1] at h2
  revert h2; refine someC fun h => ?_; subst h
  obtain ⟨oc, od, odt, osl⟩ := o
  dsimp only at h3
  subst h3
  unfold fnIn
  rw [ho]
theorem beqT {α : Type} {a n : Nat} {x : α} {y : Option α} {P : Nat → α → Prop} (h : P n x) (t : ∀ r, y = some r → P a r) : ∀ r, (bif Nat.beq a n then some x else y) = some r → P a r := fun r e => by
  cases q : Nat.beq a n with
  | true =>
    rw [q] at e
    revert e; refine someC fun h => ?_; subst h
    rw [Nat.eq_of_beq_eq_true q]
    exact h
  | false =>
    rw [q] at e
    exact t r e
theorem fnP {F : Addr → FuncData} {a : Addr} {r' : FnRec} {P : FnRec → Prop} (h' : fnT F a = some r') (h : P r') : ∀ r, fnT F a = some r → P r := fun r e => by
  rw [← fn_at e h'] at h; exact h
theorem gn180 (T : TopS h0 hT) : ∃ r, fnT (fdOf h0) 180 = some r ∧ GenFnOk hT (kOf h0) ⟨true, 2, 175, 213⟩ r := by
      refine ex1_2 (gt_ok T (a := 180) (P := 175) (i := 2) (List.mem_of_getElem? (show fns[13]? = some _ from rfl)) rfl (by decide)) fun c a1 a2 => ?_
      exact ⟨r180 (fdOf h0), rfl, rfl, rfl, rfl, T.inn, (T.fnd (find_at (show fnd[5]? = some _ from rfl))), beq_iff_eq.mp (T.bl (i := 14) rfl), by rw [← lk_eq]; exact isLocK_eq (show isLocK (lk (L "self") (mN 12 4).2.2.names) = true by kernel_rfl), ⟨c, a1, a2⟩,
        .inl ⟨rfl, own213 T (T.fnd (find_at (show fnd[7]? = some _ from rfl))), by rw [← lk_eq]; exact isGlobK_ok (show isGlobK (lk (L "sum") (mN 12 4).2.2.names) = true by kernel_rfl), globB_bi T (List.mem_of_getElem? (show glbs[17]? = some _ from rfl)), globB_bi T (List.mem_of_getElem? (show glbs[14]? = some _ from rfl)), sum_is⟩⟩
theorem gn187 (T : TopS h0 hT) : ∃ r, fnT (fdOf h0) 187 = some r ∧ GenFnOk hT (kOf h0) ⟨false, 3, 182, 213⟩ r := by
      refine ex1_2 (gt_ok T (a := 187) (P := 182) (i := 3) (List.mem_of_getElem? (show fns[14]? = some _ from rfl)) rfl (by decide)) fun c a1 a2 => ?_
      refine ⟨r187 (fdOf h0), rfl, rfl, rfl, rfl, T.inn, (T.fnd (find_at (show fnd[5]? = some _ from rfl))), beq_iff_eq.mp (T.bl (i := 14) rfl), by rw [← lk_eq]; exact isLocK_eq (show isLocK (lk (L "self") (mN 12 5).2.2.names) = true by kernel_rfl), ⟨c, a1, a2⟩,
        .inr ⟨rfl, by rw [← lk_eq]; exact isGlobK_ok (show isGlobK (lk (L "EMPTYSTRING") (mN 12 5).2.2.names) = true by kernel_rfl), ?_, join_is⟩⟩
      refine ex1_2 (T.globM (List.mem_of_getElem? (show glbs[7]? = some _ from rfl))) fun u h G => ?_
      refine ex1_1 (vsh_str h) fun t Z1 => ?_; subst Z1
      exact ⟨t, G⟩
theorem cfg_ok (T : TopS h0 hT) : CfgOk PySem.Challenge.pw_sr0087_01 hT (cfg (fdOf h0) (kOf h0)) where
  all := ⟨tab_ok T, tabF_ok T, tabC_ok T⟩
  star := fun p hp => all_cons (P := fun p : (Addr × Str) × Addr => StarOk (kOf h0) p.1.1 p.1.2 p.2) (l := []) ⟨(T.fnd (find_at (show fnd[0]? = some _ from rfl))), beq_iff_eq.mp (T.bl (i := 14) rfl), (T.fnd (find_at (show fnd[1]? = some _ from rfl))), T.bl (i := 0) rfl, (T.fnd (find_at (show fnd[9]? = some _ from rfl))), beq_iff_eq.mp (T.bl (i := 12) rfl), beq_iff_eq.mp (T.bl (i := 11) rfl), (T.typ (List.mem_of_getElem? (show typs[3]? = some _ from rfl))), fnIn_157 T, by decide +kernel⟩ all_nil p hp
  mp := fun C => beqT (P := fun C fI => MkOk (kOf h0) C fI) ⟨T.bl (i := 3) rfl, (T.fnd (find_at (show fnd[27]? = some _ from rfl))), (T.typ (List.mem_of_getElem? (show typs[4]? = some _ from rfl)))⟩ (beqT (P := fun C fI => MkOk (kOf h0) C fI) ⟨T.bl (i := 4) rfl, (T.fnd (find_at (show fnd[39]? = some _ from rfl))), (T.typ (List.mem_of_getElem? (show typs[16]? = some _ from rfl)))⟩ (fun zz e => noneE e))
  ml := fun C => beqT (P := fun C fI => MkLOk (kOf h0) C fI) ⟨fun M h X => lmakes_of X (T.bl (i := 5) rfl), (T.fnd (find_at (show fnd[8]? = some _ from rfl))), (T.typ (List.mem_of_getElem? (show typs[8]? = some _ from rfl)))⟩ (fun zz e => noneE e)
  nt := fun a N r h1 h2 => beqT (P := fun a N => ∀ r, fnT (fdOf h0) a = some r → NestOk hT r.fd N) (fnP (P := fun r => NestOk hT r.fd n42) (r' := r42 (fdOf h0)) rfl (n42_ok T)) (beqT (P := fun a N => ∀ r, fnT (fdOf h0) a = some r → NestOk hT r.fd N) (fnP (P := fun r => NestOk hT r.fd n49) (r' := r49 (fdOf h0)) rfl (n49_ok T)) (fun zz e => noneE e)) N h1 r h2
  sn := fun a C r h1 h2 => beqT (P := fun a C => ∀ r, fnT (fdOf h0) a = some r → SupOk PySem.Challenge.pw_sr0087_01 hT (kOf h0) C r) (fnP (P := fun r => SupOk PySem.Challenge.pw_sr0087_01 hT (kOf h0) 213 r) (r' := r150 (fdOf h0)) rfl (sup_ok T (a := 150) (List.mem_of_getElem? (show fns[9]? = some _ from rfl)) rfl rfl rfl (by kernel_rfl) (by kernel_rfl) (by kernel_rfl) (by kernel_rfl))) (beqT (P := fun a C => ∀ r, fnT (fdOf h0) a = some r → SupOk PySem.Challenge.pw_sr0087_01 hT (kOf h0) C r) (fnP (P := fun r => SupOk PySem.Challenge.pw_sr0087_01 hT (kOf h0) 213 r) (r' := r173 (fdOf h0)) rfl (sup_ok T (a := 173) (List.mem_of_getElem? (show fns[12]? = some _ from rfl)) rfl rfl rfl (by kernel_rfl) (by kernel_rfl) (by kernel_rfl) (by kernel_rfl))) (beqT (P := fun a C => ∀ r, fnT (fdOf h0) a = some r → SupOk PySem.Challenge.pw_sr0087_01 hT (kOf h0) C r) (fnP (P := fun r => SupOk PySem.Challenge.pw_sr0087_01 hT (kOf h0) 213 r) (r' := r210 (fdOf h0)) rfl (sup_ok T (a := 210) (List.mem_of_getElem? (show fns[17]? = some _ from rfl)) rfl rfl rfl (by kernel_rfl) (by kernel_rfl) (by kernel_rfl) (by kernel_rfl))) (fun zz e => noneE e))) C h1 r h2
  gn := fun a N h1 => beqT (P := fun a N => ∃ r, fnT (fdOf h0) a = some r ∧ GenFnOk hT (kOf h0) N r) (gn180 T) (beqT (P := fun a N => ∃ r, fnT (fdOf h0) a = some r ∧ GenFnOk hT (kOf h0) N r) (gn187 T) (fun zz e => noneE e)) N h1
end
end Mine
namespace Mine
mutual
noncomputable def scV (n : Nat) : AV → Bool
  | .ref i => Nat.blt i n
  | .tup l => scVs n l
  | .none => true
  | .bool _ => true
  | .int _ => true
  | .str _ => true
  | .rng _ _ _ => true
  | .fn _ => true
  | .cls _ => true
  | .bi _ => true
noncomputable def scVs (n : Nat) : List AV → Bool
  | [] => true
  | x :: r => scV n x && scVs n r
end
noncomputable def scO (n : Nat) : AO → Bool
  | .list l => scVs n l
  | .inst _ d none => Nat.blt d n
  | .inst _ d (some l) => Nat.blt d n && scVs n l
  | .dict m => m.all fun p => scV n p.2
  | .cell none => true
  | .cell (some v) => scV n v
  | .rit l _ => Nat.blt l n
  | .tab _ _ => true
  | .clos _ cs => cs.all fun p => Nat.blt p.2 n
theorem take_get {α : Type} {l : List α} {n i : Nat} (h : i < n) : (l.take n)[i]? = l[i]? := by rw [List.getElem?_take]; simp [h]
theorem VR.cut {ρ : List Addr} {h : Heap} {n : Nat} {x : AV} {v : Value} (V : VR ρ h x v) : scV n x = true → VR (ρ.take n) h x v :=
  VR.rec (motive_1 := fun x v zz => scV n x = true → VR (ρ.take n) h x v) (motive_2 := fun l vs zz => scVs n l = true → VRs (ρ.take n) h l vs) (fun zz => .none) (fun b zz => .bool b) (fun i t zz => .int i t) (fun l t zz => .str l t) (fun i a e q => .ref i a ((take_get (Nat.le_of_ble_eq_true q)).trans e)) (fun a zz => .fn a) (fun a zz => .cls a) (fun b zz => .bi b) (fun a b c x t u v e zz => .rng a b c x t u v e)
    (fun l vs a n e zz ih q => .tup l vs a n e (ih q)) (fun zz => .nil) (fun x v l vs zz zz a b q => .cons x v l vs (a (Bool.and_eq_true_iff.mp q).1) (b (Bool.and_eq_true_iff.mp q).2)) V
theorem VRs.cut {ρ : List Addr} {h : Heap} {n : Nat} {l : List AV} {vs : List Value} (V : VRs ρ h l vs) : scVs n l = true → VRs (ρ.take n) h l vs :=
  VRs.ind (P := fun l vs => scVs n l = true → VRs (ρ.take n) h l vs) (fun zz => .nil) (fun x v l vs a zz b q => .cons x v l vs (a.cut (Bool.and_eq_true_iff.mp q).1) (b (Bool.and_eq_true_iff.mp q).2)) V
theorem OR.cut {ρ : List Addr} {h : Heap} {n : Nat} {a : Addr} {o : AO} (O : OR ρ h a o) (q : scO n o = true) : OR (ρ.take n) h a o := by
  cases o with
  | list l => exact ex2_2 O fun vs m x y => ⟨vs, m, x, y.cut q⟩
  | inst C d its =>
    cases its with
    | none => exact ex1_2 O fun dx x y => ⟨dx, (take_get (Nat.le_of_ble_eq_true q)).trans x, y⟩
    | some l => exact ex3_3 O fun dx vs m x y z => ⟨dx, vs, m, (take_get (Nat.le_of_ble_eq_true (Bool.and_eq_true_iff.mp q).1)).trans x, y, z.cut (Bool.and_eq_true_iff.mp q).2⟩
  | dict m =>
    refine ex2_4 O fun es k x y z u => ⟨es, k, x, y, z, fun w => ⟨fun v e => ?_, (u w).2⟩⟩
    refine ex1_2 ((u w).1 v e) fun u' e' V => ?_
    rw [lk_eq] at e
    exact ⟨u', e', V.cut (List.all_eq_true.mp q _ (PySem.mem_of_lookup e))⟩
  | cell v =>
    refine ex1_2 O fun u x y => ⟨u, x, ?_⟩
    cases v <;> cases u <;> first | exact y | exact VR.cut y q
  | rit l i => exact ex2_2 O fun x o y z => ⟨x, o, (take_get (Nat.le_of_ble_eq_true q)).trans y, z⟩
  | tab P q => exact O
  | clos r cs =>
    refine ex2_6 O fun o fd x c d s1 s2 r => ex0_4 r fun s3 s4 cl r => ⟨o, fd, x, c, d, s1, s2, s3, s4, fun y i e => ?_, r⟩
    refine ex1_2 (cl y i e) fun c' a b => ?_
    rw [lk_eq] at e
    exact ⟨c', (take_get (Nat.le_of_ble_eq_true (List.all_eq_true.mp q _ (PySem.mem_of_lookup e)))).trans a, b⟩
section
variable {hT : Heap} {ρ : List Addr} {L : Addr} {σ : St} {h : Heap}
theorem Rel.cut (R : Rel hT ρ L σ h) (n : Nat) {loc : List (Str × AV)} (h1 : (σ.hp.take n).all (scO n) = true) (h2 : ∀ p ∈ loc, lk p.1 σ.loc = some p.2 ∧ scV n p.2 = true) : Rel hT (ρ.take n) L ⟨σ.hp.take n, loc⟩ h := by
  refine ex1_2 R.ns fun f F G => ?_
  refine ⟨⟨?_, R.inv.nd.sublist (List.take_sublist _ _), fun i o a e1 e2 => ?_⟩, ⟨f, F, fun x v e => ?_⟩, R.keep, fun a ha => R.off a (List.mem_of_mem_take ha), fun q => R.offL (List.mem_of_mem_take q), R.above⟩
  · simp [R.inv.len]
  · have hi : i < n := by
      have := (List.getElem?_eq_some_iff.mp e1).1
      rw [List.length_take] at this
      omega
    have e1' := e1
    dsimp only at e1'
    rw [take_get hi] at e1'
    rw [take_get hi] at e2
    exact (R.inv.at_ i o a e1' e2).cut (List.all_eq_true.mp h1 o (List.mem_of_getElem? e1))
  · rw [lk_eq] at e
    have hm := PySem.mem_of_lookup e
    refine ex0_2 (h2 _ hm) fun e' sc => ?_
    refine ex1_2 (G x v e') fun u hu V => ?_
    exact ⟨u, hu, V.cut sc⟩
theorem Rel.names (R : Rel hT ρ L σ h) {loc : List (Str × AV)} (h2 : ∀ p ∈ loc, lk p.1 σ.loc = some p.2) : Rel hT ρ L ⟨σ.hp, loc⟩ h := by
  refine ex1_2 R.ns fun f F G => ?_
  refine ⟨R.inv, ⟨f, F, fun x v e => ?_⟩, R.keep, R.off, R.offL, R.above⟩
  rw [lk_eq] at e
  exact G x v (h2 _ (PySem.mem_of_lookup e))
theorem Step.cut {X : List Addr} {ρ' : List Addr} {h' : Heap} (S : Step X ρ h ρ' h') (n : Nat) (hn : ρ.length ≤ n) : Step X ρ h (ρ'.take n) h' := by
  refine ex1_1 S.pre fun t Z1 => ?_; subst Z1
  refine ⟨?_, S.fm, S.live, fun a ha nb => S.fresh a (List.mem_of_mem_take ha) nb⟩
  rw [List.take_append, List.take_of_length_le hn]
  exact ⟨_, rfl⟩
end
section
variable {prog : Program} {w : World} {hT : Heap} {A : Around} {L : Addr} {ρ : List Addr} {s : Shared} {σ σ' : St} {env : Env} {ae : AE} {v : AV} {n : Nat} {ih : IH}
theorem execs_app {M : Model} {E : Value → Shared → Prop} {Q : Flow → Shared → Prop} : ∀ {l r : List Stmt} {s : Shared}, wpAny M A (execs l env) (fun f s' => match f with | .next => wpAny M A (execs r env) Q E s' | f => Q f s') E s → wpAny M A (execs (l ++ r) env) Q E s
  | [], r, s, h => fun Γ p hΓ => h Γ p hΓ Γ p hΓ
  | st :: l, r, s, h => fun Γ p hΓ => by
    have h1 := h Γ p hΓ
    rw [execs_cons, Sem.wp_bind'] at h1
    rw [List.cons_append, execs_cons, Sem.wp_bind']
    refine Sem.wp_mono M Γ _ (fun f p' s' h' => ?_) (fun zz zz zz h' => h') _ _ h1
    cases f with
    | next =>
      have key : ∀ {l r : List Stmt} {p' : Pos} {s' : Shared}, Sem.wp M Γ (execs l env) (fun f p'' s'' => (match f with | .next => wpAny M A (execs r env) Q E s'' | f => Q f s'' : Prop)) (fun e zz s'' => E e s'') p' s' → Sem.wp M Γ (execs (l ++ r) env) (fun f zz s'' => Q f s'') (fun e zz s'' => E e s'') p' s' := by
        intro l
        induction l with
        | nil => intro r p' s' hh; exact hh Γ p' hΓ
        | cons st l ih =>
          intro r p' s' hh
          rw [execs_cons, Sem.wp_bind'] at hh
          rw [List.cons_append, execs_cons, Sem.wp_bind']
          refine Sem.wp_mono M Γ _ (fun f p' s' h' => ?_) (fun zz zz zz h' => h') _ _ hh
          cases f with
          | next => exact ih h'
          | _ => exact h'
      exact key h'
    | _ => exact h'
theorem seg {Q : Flow → Shared → Prop} (I : IOk prog w hT n ih) (c : Cx A n) (R : Rel hT ρ L σ s.heap) (Ev : EnvR ρ L ae env) {l r : List Stmt} (e : ih.xs ae l σ = some (.next, σ'))
    (h : ∀ ρ' s', Step [L] ρ s.heap ρ' s'.heap → Rel hT ρ' L σ' s'.heap → Ok s s' → wpAny (model prog w) A (execs r env) Q No s') : wpAny (model prog w) A (execs (l ++ r) env) Q No s := by
  refine execs_app (wpAny_mono (I.xs c R Ev e) (fun g s' hg => ?_) fun zz zz z => z)
  revert hg; refine postE fun ρ' S R' O G => ?_
  cases g <;> first | exact G.elim | exact h ρ' s' S R' O
theorem segRet {Q : Flow → Shared → Prop} (I : IOk prog w hT n ih) (c : Cx A n) (R : Rel hT ρ L σ s.heap) (Ev : EnvR ρ L ae env) {l r : List Stmt} {v : AV} (e : ih.xs ae l σ = some (.ret v, σ'))
    (h : ∀ ρ' s' u, Step [L] ρ s.heap ρ' s'.heap → Rel hT ρ' L σ' s'.heap → Ok s s' → VR ρ' s'.heap v u → Q (.ret u) s') : wpAny (model prog w) A (execs (l ++ r) env) Q No s := by
  refine execs_app (wpAny_mono (I.xs c R Ev e) (fun g s' hg => ?_) fun zz zz z => z)
  revert hg; refine postE fun ρ' S R' O G => ?_
  cases g <;> first | exact G.elim | exact h ρ' s' _ S R' O G
end
end Mine
namespace Mine
section
variable (F : Addr → FuncData) (Kf : Frag)
noncomputable def EvK (K : Nat) (ae : AE) (e : Expr) (σ : St) (v : AV) (σ' : St) : Prop := ∀ k, K ≤ k → (run0 F Kf k).ev ae e σ = some (v, σ')
noncomputable def TrK (K : Nat) (ae : AE) (e : Expr) (σ : St) (b : Bool) (σ' : St) : Prop := ∀ k, K ≤ k → (run0 F Kf k).tr ae e σ = some (b, σ')
noncomputable def EsK (K : Nat) (ae : AE) (l : List Expr) (σ : St) (vs : List AV) (σ' : St) : Prop := ∀ k, K ≤ k → evsA (run0 F Kf k) ae l σ = some (vs, σ')
noncomputable def XsK (K : Nat) (ae : AE) (l : List Stmt) (σ : St) (f : Fl) (σ' : St) : Prop := ∀ k, K ≤ k → (run0 F Kf k).xs ae l σ = some (f, σ')
noncomputable def ExK (K : Nat) (ae : AE) (st : Stmt) (σ : St) (f : Fl) (σ' : St) : Prop := ∀ k, K ≤ k → exB (tabG F) (tabC Kf) (run0 F Kf k) ((extG (cfg F Kf)).xst (run0 F Kf k)) ae st σ = some (f, σ')
noncomputable def FnK (K : Nat) (f : AV) (args : List AV) (hp : List AO) (v : AV) (hp' : List AO) : Prop := ∀ k, K ≤ k → (run0 F Kf k).fn f args hp = some (v, hp')
noncomputable def TvK (K : Nat) (x : AV) (hp : List AO) (b : Bool) : Prop := ∀ k, K ≤ k → (run0 F Kf k).tv x hp = some (b, hp)
end
section
variable {F : Addr → FuncData} {Kf : Frag} {K J : Nat} {ae : AE} {e l r : Expr} {σ σ' σ₁ σ₂ : St} {v x y : AV} {st : Stmt} {f : Fl} {hp hp' : List AO} {args : List AV}
theorem lift1 {P : Nat → Prop} (h : ∀ k, K ≤ k → P (k + 1)) : ∀ k, K + 1 ≤ k → P k := fun k hk => by
  refine ex1_2 (predE hk) fun j Z1 hj => ?_; subst Z1
  exact h j hj
theorem FnK.mono (h : FnK F Kf K x args hp v hp') (q : K ≤ J := by omega) : FnK F Kf J x args hp v hp' := fun k hk => h k (Nat.le_trans q hk)
theorem ev_const (h : viewE e = .const v) : EvK F Kf (K + 1) ae e σ v σ := lift1 fun k zz => by
  show evB (tabG F) (tabC Kf) (run0 F Kf k) ((extG (cfg F Kf)).xt (run0 F Kf k)) ae e σ = _
  unfold evB; rw [h]; rfl
theorem ev_name {z : Str} (h : viewE e = .name z) (hn : nameA (tabG F) ae z σ = some v) : EvK F Kf (K + 1) ae e σ v σ := lift1 fun k zz => by
  show evB (tabG F) (tabC Kf) (run0 F Kf k) ((extG (cfg F Kf)).xt (run0 F Kf k)) ae e σ = _
  unfold evB; rw [h]; dsimp only [evV, evName, evBin, evUsub, evNott, evCmp, evIte, evTup, evList, evSlice, evSub, evAtt, evCalln, evCallm]; rw [hn]; rfl
theorem ev_bin {op : Operator} {u : AV × List AO} (h : viewE e = .bin op l r) (h1 : EvK F Kf K ae l σ x σ₁) (h2 : EvK F Kf K ae r σ₁ y σ₂) (hb : binA op x y σ₂.hp = some u) : EvK F Kf (K + 1) ae e σ u.1 ⟨u.2, σ₂.loc⟩ := lift1 fun k hk => by
  show evB (tabG F) (tabC Kf) (run0 F Kf k) ((extG (cfg F Kf)).xt (run0 F Kf k)) ae e σ = _
  unfold evB; rw [h]; dsimp only [evV, evName, evBin, evUsub, evNott, evCmp, evIte, evTup, evList, evSlice, evSub, evAtt, evCalln, evCallm]; rw [h1 k hk, Option.bind_some, h2 k hk, Option.bind_some, hb]; rfl
theorem ev_tup {es : List Expr} {vs : List AV} (h : viewE e = .tup es) (h1 : EsK F Kf K ae es σ vs σ₁) (hl : lenOk vs.length = true) : EvK F Kf (K + 1) ae e σ (.tup vs) σ₁ := lift1 fun k hk => by
  show evB (tabG F) (tabC Kf) (run0 F Kf k) ((extG (cfg F Kf)).xt (run0 F Kf k)) ae e σ = _
  unfold evB; rw [h]; dsimp only [evV, evName, evBin, evUsub, evNott, evCmp, evIte, evTup, evList, evSlice, evSub, evAtt, evCalln, evCallm]; rw [h1 k hk, Option.bind_some, hl]; rfl
theorem ev_list {es : List Expr} {vs : List AV} (h : viewE e = .list es) (h1 : EsK F Kf K ae es σ vs σ₁) (hl : lenOk vs.length = true) : EvK F Kf (K + 1) ae e σ (.ref σ₁.hp.length) ⟨σ₁.hp ++ [.list vs], σ₁.loc⟩ := lift1 fun k hk => by
  show evB (tabG F) (tabC Kf) (run0 F Kf k) ((extG (cfg F Kf)).xt (run0 F Kf k)) ae e σ = _
  unfold evB; rw [h]; dsimp only [evV, evName, evBin, evUsub, evNott, evCmp, evIte, evTup, evList, evSlice, evSub, evAtt, evCalln, evCallm]; rw [h1 k hk, Option.bind_some, hl]; rfl
theorem ev_sub {i o : Expr} (h : viewE e = .sub o i) (h1 : EvK F Kf K ae o σ x σ₁) (h2 : EvK F Kf K ae i σ₁ y σ₂) (hb : sub2A (tabC Kf) x y σ₂.hp = some v) : EvK F Kf (K + 1) ae e σ v σ₂ := lift1 fun k hk => by
  show evB (tabG F) (tabC Kf) (run0 F Kf k) ((extG (cfg F Kf)).xt (run0 F Kf k)) ae e σ = _
  unfold evB; rw [h]; dsimp only [evV, evName, evBin, evUsub, evNott, evCmp, evIte, evTup, evList, evSlice, evSub, evAtt, evCalln, evCallm]; rw [h1 k hk, Option.bind_some, h2 k hk, Option.bind_some, hb]; rfl
theorem es_nil : EsK F Kf K ae [] σ [] σ := fun zz zz => rfl
theorem es_cons {es : List Expr} {vs : List AV} (hs : isStar e = false) (h1 : EvK F Kf K ae e σ x σ₁) (h2 : EsK F Kf K ae es σ₁ vs σ₂) : EsK F Kf K ae (e :: es) σ (x :: vs) σ₂ := fun k hk => by
  unfold evsA; rw [hs, cond_false, h1 k hk, Option.bind_some, h2 k hk]; rfl
theorem ev_calln {g : Str} {as : List Expr} {vs : List AV} {gv : AV} (h : viewE e = .calln g as) (hn : nameA (tabG F) ae g σ = some gv) (hk' : keepA (tabG F) (tabC Kf) gv = true) (h1 : EsK F Kf K ae as σ vs σ₁) (h2 : FnK F Kf K gv vs σ₁.hp v hp') : EvK F Kf (K + 1) ae e σ v ⟨hp', σ₁.loc⟩ := lift1 fun k hk => by
  show evB (tabG F) (tabC Kf) (run0 F Kf k) ((extG (cfg F Kf)).xt (run0 F Kf k)) ae e σ = _
  unfold evB; rw [h]; dsimp only [evV, evName, evBin, evUsub, evNott, evCmp, evIte, evTup, evList, evSlice, evSub, evAtt, evCalln, evCallm]; rw [hn, Option.bind_some, hk', cond_true, h1 k hk, Option.bind_some, h2 k hk]; rfl
theorem ev_callm {o : Expr} {m : Str} {as : List Expr} {vs fs : List AV} {gv : AV} (h : viewE e = .callm o m as) (h0 : EvK F Kf K ae o σ x σ₁) (hm : meA (tabC Kf) x m σ₁.hp = some (gv, fs)) (hk' : keepA (tabG F) (tabC Kf) gv = true) (h1 : EsK F Kf K ae as σ₁ vs σ₂) (h2 : FnK F Kf K gv (fs ++ vs) σ₂.hp v hp') :
    EvK F Kf (K + 1) ae e σ v ⟨hp', σ₂.loc⟩ := lift1 fun k hk => by
  show evB (tabG F) (tabC Kf) (run0 F Kf k) ((extG (cfg F Kf)).xt (run0 F Kf k)) ae e σ = _
  unfold evB; rw [h]; dsimp only [evV, evName, evBin, evUsub, evNott, evCmp, evIte, evTup, evList, evSlice, evSub, evAtt, evCalln, evCallm]; rw [h0 k hk, Option.bind_some, hm, Option.bind_some]; dsimp only; rw [hk', cond_true, h1 k hk, Option.bind_some]; dsimp only; rw [h2 k hk]; rfl
theorem ev_callc {g : Str} {p pos : Pos} {as : List Expr} {vs : List AV} {i : Nat} {c : CRec} {cs : List (Str × Nat)} (h : viewE (.Call (.Name g p) as [] pos) = .calln g as) (hn : nameA (tabG F) ae g σ = some (.ref i)) (h1 : EsK F Kf K ae as σ vs σ₁) (hc : σ₁.hp[i]? = some (.clos c cs)) (h2 : FnK F Kf K (.ref i) vs σ₁.hp v hp') :
    EvK F Kf (K + 1) ae (.Call (.Name g p) as [] pos) σ v ⟨hp', σ₁.loc⟩ := lift1 fun k hk => by
  have hcn : callN (.Call (.Name g p) as [] pos) = some (g, as) := by unfold callN; rw [h]
  show evB (tabG F) (tabC Kf) (run0 F Kf k) ((extG (cfg F Kf)).xt (run0 F Kf k)) ae _ σ = _
  unfold evB; rw [h]; dsimp only [evV, evName, evBin, evUsub, evNott, evCmp, evIte, evTup, evList, evSlice, evSub, evAtt, evCalln, evCallm]; rw [hn, Option.bind_some]
  show (bif (callN (.Call (.Name g p) as [] pos)).isSome then cloCall (tabG F) (run0 F Kf k) ae (.Call (.Name g p) as [] pos) σ else _) = _
  rw [hcn]
  show cloCall (tabG F) (run0 F Kf k) ae (.Call (.Name g p) as [] pos) σ = _
  unfold cloCall
  rw [hcn, Option.bind_some]
  dsimp only
  rw [hn, Option.bind_some, show theR (.ref i) = some i from rfl, Option.bind_some, h1 k hk, Option.bind_some]
  dsimp only
  unfold gCl
  rw [gO_eq, hc, show (some (AO.clos c cs)).bind isClos = some (c, cs) from rfl, Option.bind_some, h2 k hk]; rfl
theorem fn_bi {b : BI} (h : ∀ ih, biA (tabC Kf) ih b args hp = some (v, hp')) : FnK F Kf (K + 1) (.bi b) args hp v hp' := lift1 fun k zz => h _
theorem fn_plain {a : Addr} {rr : FnRec} {bs : List (Str × AV)} (ho : ∀ ih, orcB (cfg F Kf) ih a args hp = none) (hr : fnT F a = some rr) (hc : rr.cellful = false) (hb : bindsA rr args = some bs) (hx : XsK F Kf K ⟨rr.scope, [], some (a, rr.fd)⟩ rr.body ⟨hp, bs.reverse⟩ f σ₁) (hv : BodyV f = some v) :
    FnK F Kf (K + 1) (.fn a) args hp v σ₁.hp := lift1 fun k hk => by
  show fnA (tabG F) (tabC Kf) (extG (cfg F Kf)) (run0 F Kf k) (.fn a) args hp = _
  unfold fnA
  dsimp only
  rw [show (extG (cfg F Kf)).orc (run0 F Kf k) a args hp = none from ho _]
  dsimp only
  unfold callA
  rw [show (tabG F).fn a = some rr from hr, Option.bind_some, hb, Option.bind_some]
  unfold frameA
  rw [hc, cond_false]
  dsimp only
  rw [hx k hk, Option.bind_some]
  cases f <;> first | (first | (exact noneE hv) | (revert hv; refine someC fun h => ?_; subst h); rfl) | exact noneE hv
theorem fn_nest {a : Addr} {N : NRec} {rr : FnRec} {bs : List (Str × AV)} (hg : gnT a = none) (hs : snT a = none) (hN : ntT a = some N) (hr : fnT F a = some rr) (hc : rr.cellful = true) (hb : bindsA rr args = some bs)
    (hx : ∀ k, K ≤ k → xsN N (run0 F Kf k) (frameA rr a bs hp).1 rr.body (frameA rr a bs hp).2 = some (f, σ₁)) (hv : BodyV f = some v) : FnK F Kf (K + 1) (.fn a) args hp v σ₁.hp := lift1 fun k hk => by
  have ho : (extG (cfg F Kf)).orc (run0 F Kf k) a args hp = some (v, σ₁.hp) := by
    show orcB (cfg F Kf) (run0 F Kf k) a args hp = _
    unfold orcB
    rw [show (cfg F Kf).GN a = none from hg]
    dsimp only
    rw [show (cfg F Kf).SN a = none from hs]
    dsimp only
    unfold orcN
    rw [show (cfg F Kf).NT a = some N from hN, Option.bind_some, show (cfg F Kf).T.fn a = some rr from hr, Option.bind_some, hc, cond_true, hb, Option.bind_some, hx k hk, Option.bind_some]
    cases f <;> first | (first | (exact noneE hv) | (revert hv; refine someC fun h => ?_; subst h); rfl) | exact noneE hv
  show fnA (tabG F) (tabC Kf) (extG (cfg F Kf)) (run0 F Kf k) (.fn a) args hp = _
  unfold fnA
  dsimp only
  rw [ho]
theorem fn_clos {i : Nat} {c : CRec} {cs : List (Str × Nat)} (hc : hp[i]? = some (.clos c cs)) (hs : scOk c = true) (hl : Nat.beq args.length c.pars.length = true) (hx : XsK F Kf K ⟨c.scope, cs, none⟩ c.body ⟨hp, (c.pars.zip args).reverse⟩ f σ₁) (hv : BodyV f = some v) : FnK F Kf (K + 1) (.ref i) args hp v σ₁.hp := lift1 fun k hk => by
  show cloA (run0 F Kf k) i args hp = _
  unfold cloA gCl
  rw [gO_eq, hc]
  show (bif scOk c && Nat.beq args.length c.pars.length then _ else none) = _
  rw [hs, hl, Bool.and_self, cond_true, hx k hk, Option.bind_some]
  cases f <;> first | (first | (exact noneE hv) | (revert hv; refine someC fun h => ?_; subst h); rfl) | exact noneE hv
theorem tr_cmp {op : CmpOp} {b : Bool} (h : viewT e = .cmp op l r) (h1 : EvK F Kf K ae l σ x σ₁) (h2 : EvK F Kf K ae r σ₁ y σ₂) (hb : cmpA op x y σ₂.hp = some b) : TrK F Kf (K + 1) ae e σ b σ₂ := lift1 fun k hk => by
  show trB (run0 F Kf k) ae e σ = _
  unfold trB; rw [h]; dsimp only [trV]; rw [h1 k hk, Option.bind_some, h2 k hk, Option.bind_some, hb]; rfl
theorem tr_plain {b : Bool} (h : viewT e = .plain) (h1 : EvK F Kf K ae e σ x σ₁) (hb : TvK F Kf K x σ₁.hp b) : TrK F Kf (K + 1) ae e σ b ⟨σ₁.hp, σ₁.loc⟩ := lift1 fun k hk => by
  show trB (run0 F Kf k) ae e σ = _
  unfold trB; rw [h]; dsimp only [trV]; rw [h1 k hk, Option.bind_some, hb k hk]; rfl
theorem tv_int {b : Bool} (h : truthA hp x = some b) : TvK F Kf (K + 1) x hp b := lift1 fun k zz => by
  show tvA (tabC Kf) (run0 F Kf k) x hp = _
  unfold tvA; rw [h]
theorem ex_asgName {t : Expr} {z : Str} (h : viewS st = .asg t e) (ht : viewG t = .name z) (h1 : EvK F Kf K ae e σ x σ₁) (hs : storeA ae z x σ₁ = some σ₂) : ExK F Kf K ae st σ .next σ₂ := fun k hk => by
  unfold exB; rw [h]; dsimp only [exV, exExpr, exRet, exIf, exFor, exAsg, exSwap, exAsg3, exAugn, exAugs]; rw [h1 k hk, Option.bind_some]; unfold asgB; rw [ht]; dsimp only [asgV, asTup, asAtt, asSlice, asSub]; rw [hs]; rfl
theorem ex_asgTup {t : Expr} {zs : List Str} {vs : List AV} (h : viewS st = .asg t e) (ht : viewG t = .tup zs) (h1 : EvK F Kf K ae e σ (.tup vs) σ₁) (hs : storesA ae zs vs σ₁ = some σ₂) : ExK F Kf K ae st σ .next σ₂ := fun k hk => by
  unfold exB; rw [h]; dsimp only [exV, exExpr, exRet, exIf, exFor, exAsg, exSwap, exAsg3, exAugn, exAugs]; rw [h1 k hk, Option.bind_some]; unfold asgB; rw [ht]; dsimp only [asgV, asTup, asAtt, asSlice, asSub]; rw [hs]; rfl
theorem ex_asgSub {t o i : Expr} {z : AV} {σ₃ : St} (h : viewS st = .asg t e) (ht : viewG t = .sub o i) (h1 : EvK F Kf K ae e σ x σ₁) (h2 : EvK F Kf K ae o σ₁ y σ₂) (h3 : EvK F Kf K ae i σ₂ z σ₃) (hs : setItemA y z x σ₃.hp = some hp') : ExK F Kf K ae st σ .next ⟨hp', σ₃.loc⟩ := fun k hk => by
  unfold exB; rw [h]; dsimp only [exV, exExpr, exRet, exIf, exFor, exAsg, exSwap, exAsg3, exAugn, exAugs]; rw [h1 k hk, Option.bind_some]; unfold asgB; rw [ht]; dsimp only [asgV, asTup, asAtt, asSlice, asSub]; rw [h2 k hk, Option.bind_some, h3 k hk, Option.bind_some, hs]; rfl
theorem ex_expr (h : viewS st = .expr e) (h1 : EvK F Kf K ae e σ .none σ₁) : ExK F Kf K ae st σ .next σ₁ := fun k hk => by
  unfold exB; rw [h]; dsimp only [exV, exExpr, exRet, exIf, exFor, exAsg, exSwap, exAsg3, exAugn, exAugs]; rw [h1 k hk]; rfl
theorem ex_ret (h : viewS st = .ret e) (h1 : EvK F Kf K ae e σ x σ₁) : ExK F Kf K ae st σ (.ret x) σ₁ := fun k hk => by
  unfold exB; rw [h]; dsimp only [exV, exExpr, exRet, exIf, exFor, exAsg, exSwap, exAsg3, exAugn, exAugs]; rw [h1 k hk]; rfl
theorem ex_retn (h : viewS st = .retn) : ExK F Kf K ae st σ (.ret .none) σ := fun k hk => by
  unfold exB; rw [h]; rfl
theorem ex_ifT {b o : List Stmt} (h : viewS st = .ifs e b o) (h1 : TrK F Kf K ae e σ true σ₁) (h2 : XsK F Kf K ae b σ₁ f σ₂) : ExK F Kf K ae st σ f σ₂ := fun k hk => by
  unfold exB; rw [h]; dsimp only [exV, exExpr, exRet, exIf, exFor, exAsg, exSwap, exAsg3, exAugn, exAugs]; rw [h1 k hk]; exact h2 k hk
theorem ex_ifF {b o : List Stmt} (h : viewS st = .ifs e b o) (h1 : TrK F Kf K ae e σ false σ₁) (h2 : XsK F Kf K ae o σ₁ f σ₂) : ExK F Kf K ae st σ f σ₂ := fun k hk => by
  unfold exB; rw [h]; dsimp only [exV, exExpr, exRet, exIf, exFor, exAsg, exSwap, exAsg3, exAugn, exAugs]; rw [h1 k hk]; exact h2 k hk
theorem xs_nil : XsK F Kf (K + 1) ae [] σ .next σ := lift1 fun k zz => rfl
theorem xs_cons {b : List Stmt} (h1 : ExK F Kf K ae st σ .next σ₁) (h2 : XsK F Kf (K + 1) ae b σ₁ f σ₂) : XsK F Kf (K + 1) ae (st :: b) σ f σ₂ := lift1 fun k hk => by
  show xsB (exB (tabG F) (tabC Kf) (run0 F Kf k) ((extG (cfg F Kf)).xst (run0 F Kf k)) ae) (st :: b) σ = _
  unfold xsB
  rw [h1 k hk, Option.bind_some]
  exact h2 (k + 1) (by omega)
theorem xs_stop {b : List Stmt} {v : AV} (h1 : ExK F Kf K ae st σ (.ret v) σ₁) : XsK F Kf (K + 1) ae (st :: b) σ (.ret v) σ₁ := lift1 fun k hk => by
  show xsB (exB (tabG F) (tabC Kf) (run0 F Kf k) ((extG (cfg F Kf)).xst (run0 F Kf k)) ae) (st :: b) σ = _
  unfold xsB
  rw [h1 k hk]; rfl
end
end Mine
namespace Mine
section
variable {F : Addr → FuncData} {Kf : Frag} {hp : List AO}
set_option profiler true
theorem k28 {a b n : Int} (h1 : W.Z.leB ((Builtin.Int.intBits a : Int) - n) 4000 = true) (h2 : intOk b = true) (h3 : W.Z.eqB b 0 = false) : FnK F Kf 9 (.fn 28) [.int a, .int b, .int n] hp (.tup [.int (a.fdiv b), .int (a.fmod b)]) hp := by
  refine fn_plain (rr := r28 F) (f := .ret (.tup [.int (a.fdiv b), .int (a.fmod b)])) (σ₁ := ⟨hp, [(Str.ofString "n", .int n), (Str.ofString "b", .int b), (Str.ofString "a", .int a)]⟩) (fun ih => rfl) rfl rfl rfl ?_ rfl
  refine xs_stop ?_
  refine ex_ifT rfl (tr_cmp rfl (ev_bin rfl (ev_callm rfl (ev_name rfl rfl) rfl rfl es_nil (fn_bi fun zz => rfl)) (ev_name rfl rfl) rfl) (ev_name rfl rfl) (congrArg some h1)) ?_
  refine xs_stop (ex_ret rfl (ev_calln rfl rfl rfl (es_cons rfl (ev_name rfl rfl) (es_cons rfl (ev_name rfl rfl) es_nil)) (fn_bi fun zz => ?_)))
  show (bif intOk b && !W.Z.eqB b 0 then some (AV.tup [.int (a.fdiv b), .int (a.fmod b)], hp) else none) = _
  rw [h2, h3]; rfl
end
end Mine
namespace Mine
noncomputable def digs (B x : Nat) : Nat → List Nat
  | 0 => []
  | 1 => [x]
  | m + 2 => (x % B) :: digs B (x / B) (m + 1)
theorem digs_len (B : Nat) : ∀ (m x : Nat), (digs B x m).length = m
  | 0, _ => rfl
  | 1, _ => rfl
  | m + 2, x => by rw [digs, List.length_cons, digs_len B (m + 1)]
theorem digs_split (B : Nat) : ∀ (k x m : Nat), 0 < k → k < m → digs B x m = digs B (x % B ^ k) k ++ digs B (x / B ^ k) (m - k)
  | 0, _, _, h, _ => absurd h (by omega)
  | 1, x, m, _, h => by
    obtain ⟨j, rfl⟩ : ∃ j, m = j + 2 := ⟨m - 2, by omega⟩
    rw [digs, digs, Nat.pow_one]
    rfl
  | k + 2, x, m, _, h => by
    obtain ⟨j, rfl⟩ : ∃ j, m = j + 2 := ⟨m - 2, by omega⟩
    rw [digs, digs_split B (k + 1) (x / B) (j + 1) (by omega) (by omega), digs]
    have e1 : x % B ^ (k + 2) % B = x % B := by rw [Nat.pow_succ]; exact Nat.mod_mul_left_mod _ _ _
    have e2 : x % B ^ (k + 2) / B = x / B % B ^ (k + 1) := by rw [Nat.pow_succ, Nat.mul_comm, Nat.mod_mul_right_div_self]
    have e3 : x / B / B ^ (k + 1) = x / B ^ (k + 2) := by rw [Nat.div_div_eq_div_mul, Nat.pow_succ B (k + 1), Nat.mul_comm]
    rw [e1, e2, e3, List.cons_append, Nat.add_sub_add_right j 2 k, Nat.add_sub_add_right j 1 k]
theorem land_high (x s : Nat) : x &&& (x / 2 ^ s * 2 ^ s) = x / 2 ^ s * 2 ^ s := by
  apply Nat.eq_of_testBit_eq
  intro i
  rw [Nat.testBit_and, ← Nat.shiftLeft_eq, Nat.testBit_shiftLeft, ← Nat.shiftRight_eq_div_pow, Nat.testBit_shiftRight]
  by_cases h : s ≤ i
  · rw [show s + (i - s) = i by omega]; cases x.testBit i <;> simp [h]
  · simp [h]
theorem xor_low (x s : Nat) : Builtin.bitXor (x : Int) ((x / 2 ^ s * 2 ^ s : Nat) : Int) = ((x % 2 ^ s : Nat) : Int) := by
  rw [bitXor_and]
  have : Builtin.bitAnd (x : Int) ((x / 2 ^ s * 2 ^ s : Nat) : Int) = ((x &&& (x / 2 ^ s * 2 ^ s) : Nat) : Int) := rfl
  rw [this, land_high]
  have := Nat.mod_add_div x (2 ^ s)
  have e : x / 2 ^ s * 2 ^ s = 2 ^ s * (x / 2 ^ s) := Nat.mul_comm _ _
  rw [e]
  omega
theorem leB_nat (n : Nat) : W.Z.leB 0 (n : Int) = true := (W.Z.leB_iff _ _).mpr (by omega)
section
variable {hp : List AO}
theorem b_shr (x s : Nat) : binA .RShift (.int x) (.int s) hp = some (.int ((x / 2 ^ s : Nat) : Int), hp) := by
  show ((bif W.Z.leB 0 (s : Int) then some ((x : Int).fdiv (2 ^ (s : Int).toNat)) else none).bind fun r => some (AV.int r, hp)) = _
  rw [leB_nat, cond_true, Int.toNat_natCast]
  have e : ((2 : Int) ^ s) = ((2 ^ s : Nat) : Int) := by push_cast; rfl
  rw [e, ← Int.ofNat_fdiv]; rfl
theorem b_shl (x s : Nat) (hx : x < 2 ^ 4000) (hs : s ≤ 100000) : binA .LShift (.int x) (.int s) hp = some (.int ((x * 2 ^ s : Nat) : Int), hp) := by
  show ((bif intOk (x : Int) && W.Z.leB 0 (s : Int) && W.Z.leB (s : Int) 100000 then some ((x : Int) * 2 ^ (s : Int).toNat) else none).bind fun r => some (AV.int r, hp)) = _
  have h1 : intOk (x : Int) = true := Nat.ble_eq_true_of_le (by rw [Int.natAbs_natCast]; exact hx)
  rw [h1, leB_nat, (W.Z.leB_iff _ _).mpr (show (s : Int) ≤ 100000 by omega), Int.toNat_natCast]
  show some (AV.int _, hp) = _
  push_cast; rfl
theorem b_xor (x s : Nat) : binA .BitXor (.int x) (.int ((x / 2 ^ s * 2 ^ s : Nat) : Int)) hp = some (.int ((x % 2 ^ s : Nat) : Int), hp) := by
  show some (AV.int (Builtin.bitXor (x : Int) _), hp) = _
  rw [xor_low]
theorem b_add (x y : Nat) : binA .Add (.int x) (.int y) hp = some (.int ((x + y : Nat) : Int), hp) := by
  show some (AV.int ((x : Int) + y), hp) = _
  push_cast; rfl
theorem b_sub (x y : Nat) (h : y ≤ x) : binA .Sub (.int x) (.int y) hp = some (.int ((x - y : Nat) : Int), hp) := by
  show some (AV.int ((x : Int) - y), hp) = _
  rw [Int.ofNat_sub h]
theorem b_mul (x y : Nat) (hx : x < 2 ^ 4000) (hy : y < 2 ^ 4000) : binA .Mult (.int x) (.int y) hp = some (.int ((x * y : Nat) : Int), hp) := by
  show ((bif intOk (x : Int) && intOk (y : Int) then some ((x : Int) * y) else none).bind fun r => some (AV.int r, hp)) = _
  have h1 : ∀ x : Nat, x < 2 ^ 4000 → intOk (x : Int) = true := fun x hx => Nat.ble_eq_true_of_le (by rw [Int.natAbs_natCast]; exact hx)
  rw [h1 x hx, h1 y hy]
  show some (AV.int _, hp) = _
  push_cast; rfl
theorem c_eq (x y : Nat) : cmpA .Eq (.int x) (.int y) hp = some (Nat.beq x y) := rfl
end
noncomputable def put (l : List AV) (L : Nat) (ds : List Nat) : List AV := l.take L ++ ds.map (fun d : Nat => AV.int (d : Int)) ++ l.drop (L + ds.length)
theorem put_len {l : List AV} {L : Nat} {ds : List Nat} (h : L + ds.length ≤ l.length) : (put l L ds).length = l.length := by
  unfold put
  rw [List.length_append, List.length_append, List.length_take, List.length_map, List.length_drop, Nat.min_eq_left (Nat.le_trans (Nat.le_add_right _ _) h)]
  exact Nat.add_sub_of_le h
theorem put_put {l : List AV} {L : Nat} {d1 d2 : List Nat} (h : L + d1.length + d2.length ≤ l.length) : put (put l L d1) (L + d1.length) d2 = put l L (d1 ++ d2) := by
  unfold put
  have e1 : (l.take L ++ d1.map (fun d : Nat => AV.int (d : Int))).length = L + d1.length := by rw [List.length_append, List.length_take, List.length_map, Nat.min_eq_left (Nat.le_trans (Nat.le_add_right _ _) (Nat.le_trans (Nat.le_add_right _ _) h))]
  rw [List.take_left' e1, List.map_append, List.length_append]
  have e2 : (l.take L ++ d1.map (fun d : Nat => AV.int (d : Int)) ++ l.drop (L + d1.length)).drop (L + d1.length + d2.length) = l.drop (L + (d1.length + d2.length)) := by
    rw [← List.drop_drop, List.drop_left' e1, List.drop_drop]
    rw [Nat.add_assoc]
  rw [e2, List.append_assoc (l.take L)]
theorem put_one {l : List AV} {L : Nat} {d : Nat} (h : L < l.length) : put l L [d] = l.set L (.int (d : Int)) := by
  unfold put
  rw [List.set_eq_take_append_cons_drop]
  simp [h]
end Mine
namespace Mine
noncomputable def inOf (s : Option Stmt) (ps : List Str) : CRec := match s with
  | some (.FunctionDef _ _ b _ _ _ sc _ _ _) => ⟨ps, b, sc⟩
  | _ => ⟨[], [], default⟩
noncomputable def in42 : CRec := inOf (dN 5).2.1[1]? [Str.ofString "x", Str.ofString "L", Str.ofString "R"]
noncomputable def cs42 : List (Str × Nat) := [(Str.ofString "n", 4), (Str.ofString "inner", 6), (Str.ofString "a_digits", 5)]
noncomputable def hpI (n : Nat) (l : List AV) : List AO := [.tab 37 (some n42.q), .tab 44 (some n49.q), .tab 175 none, .tab 182 none, .cell (some (.int n)), .cell (some (.ref 8)), .cell (some (.ref 9)), .list [.int 0], .list l, .clos in42 cs42]
section
variable {F : Addr → FuncData} {Kf : Frag}
theorem set42 {n L : Nat} {l : List AV} {v : AV} (h : L < l.length) (hl : l.length ≤ 1000) : setItemA (.ref 8) (.int (L : Int)) v (hpI n l) = some (hpI n (l.set L v)) := by
  show (bif W.Z.leB 0 (L : Int) && Nat.blt (L : Int).toNat l.length && lenOk l.length then some ((hpI n l).set 8 (.list (l.set (L : Int).toNat v))) else none) = _
  rw [leB_nat, Int.toNat_natCast, show Nat.blt L l.length = true from Nat.ble_eq_true_of_le h, show lenOk l.length = true from Nat.ble_eq_true_of_le (by omega)]
  rfl
theorem inner42 {n : Nat} (hn : 0 < n) (hnb : n ≤ 1000) : ∀ (d x L R : Nat) (l : List AV), L < R → R - L ≤ 2 ^ d → R ≤ l.length → l.length ≤ 100 → x < 2 ^ 4000 →
    FnK F Kf (10 * d + 10) (.ref 9) [.int (x : Int), .int (L : Int), .int (R : Int)] (hpI n l) .none (hpI n (put l L (digs (2 ^ n) x (R - L))))
  := by
  have base : ∀ (d x L R : Nat) (l : List AV), L + 1 = R → R ≤ l.length → l.length ≤ 100 →
    FnK F Kf (10 * d + 10) (.ref 9) [.int (x : Int), .int (L : Int), .int (R : Int)] (hpI n l) .none (hpI n (put l L (digs (2 ^ n) x (R - L)))) := by
    · intro d x L R l hb h3 h4
      subst hb
      rw [Nat.add_sub_cancel_left, digs, put_one h3]
      refine fn_clos (c := in42) (cs := cs42) (f := .ret .none) (σ₁ := ⟨hpI n (l.set L (.int (x : Int))), [(Str.ofString "R", .int ((L + 1 : Nat) : Int)), (Str.ofString "L", .int (L : Int)), (Str.ofString "x", .int (x : Int))]⟩) rfl rfl rfl ?_ rfl
      refine xs_stop (ex_ifT rfl (tr_cmp rfl (ev_bin rfl (ev_name rfl rfl) (ev_const rfl) (b_add L 1)) (ev_name rfl rfl) ?_) (xs_cons (ex_asgSub rfl rfl (ev_name rfl rfl) (ev_name rfl rfl) (ev_name rfl rfl) (set42 h3 (Nat.le_trans h4 (by decide)))) (xs_stop (ex_retn rfl))))
      rw [c_eq, show Nat.beq (L + 1) (L + 1) = true from Nat.beq_refl _]
  intro d
  induction d with
  | zero => exact fun x L R l h1 h2 h3 h4 h5 => base 0 x L R l (Nat.le_antisymm h1 (Nat.sub_le_iff_le_add'.mp h2)) h3 h4
  | succ d' ih =>
    intro x L R l h1 h2 h3 h4 h5
    by_cases hb : L + 1 = R
    · exact base _ x L R l hb h3 h4
    · refine ex0_4 (midF h1 h2 hb) fun hm1 hm2 hm3 hm4 => ?_
      generalize hm : (L + R) / 2 = mid at hm1 hm2 hm3 hm4
      have hR : R ≤ 100 := Nat.le_trans h3 h4
      have hmR := Nat.le_of_lt hm2
      have hmL := Nat.le_of_lt hm1
      have e1 : L + (mid - L) = mid := Nat.add_sub_cancel' hmL
      have hbp : (2 ^ n) ^ (mid - L) = 2 ^ ((mid - L) * n) := by rw [← Nat.pow_mul, Nat.mul_comm]
      have hs := digs_split (2 ^ n) (mid - L) x (R - L) (Nat.sub_pos_of_lt hm1) (Nat.sub_lt_sub_right hmL hm2)
      have q1 := ih (x % 2 ^ ((mid - L) * n)) L mid l hm1 hm3 (Nat.le_trans hmR h3) h4 (Nat.lt_of_le_of_lt (Nat.mod_le _ _) h5)
      have pl : (put l L (digs (2 ^ n) (x % 2 ^ ((mid - L) * n)) (mid - L))).length = l.length := put_len (by rw [digs_len, e1]; exact Nat.le_trans hmR h3)
      have q2 := ih (x / 2 ^ ((mid - L) * n)) mid R (put l L (digs (2 ^ n) (x % 2 ^ ((mid - L) * n)) (mid - L))) hm2 hm4 (by rw [pl]; exact h3) (by rw [pl]; exact h4) (Nat.lt_of_le_of_lt (Nat.div_le_self _ _) h5)
      have pp : put (put l L (digs (2 ^ n) (x % 2 ^ ((mid - L) * n)) (mid - L))) mid (digs (2 ^ n) (x / 2 ^ ((mid - L) * n)) (R - mid)) = put l L (digs (2 ^ n) x (R - L)) := by
        have := put_put (l := l) (L := L) (d1 := digs (2 ^ n) (x % 2 ^ ((mid - L) * n)) (mid - L)) (d2 := digs (2 ^ n) (x / 2 ^ ((mid - L) * n)) (R - mid)) (by rw [digs_len, digs_len, e1, Nat.add_sub_cancel' hmR]; exact h3)
        rw [digs_len, e1] at this
        rw [this, hs, hbp, subM hmL]
      rw [pp] at q2
      have hL1 : mid - L ≤ 100 := Nat.le_trans (Nat.sub_le _ _) (Nat.le_trans hmR hR)
      have hsm : (mid - L) * n ≤ 100000 := Nat.le_trans (Nat.mul_le_mul hL1 hnb) (by decide)
      refine fn_clos (c := in42) (cs := cs42) (f := .next) (σ₁ := ⟨hpI n (put l L (digs (2 ^ n) x (R - L))), [(Str.ofString "R", .int (R : Int)), (Str.ofString "L", .int (L : Int)), (Str.ofString "x", .int (x : Int)), (Str.ofString "mid", .int (mid : Int)), (Str.ofString "shift", .int (((mid - L) * n : Nat) : Int)), (Str.ofString "upper", .int ((x / 2 ^ ((mid - L) * n) : Nat) : Int)), (Str.ofString "lower", .int ((x % 2 ^ ((mid - L) * n) : Nat) : Int))]⟩) rfl rfl rfl ?_ rfl
      refine xs_cons (σ₁ := ⟨hpI n l, [(Str.ofString "R", .int (R : Int)), (Str.ofString "L", .int (L : Int)), (Str.ofString "x", .int (x : Int))]⟩) (ex_ifF rfl (tr_cmp rfl (ev_bin rfl (ev_name rfl rfl) (ev_const rfl) (b_add L 1)) (ev_name rfl rfl) ?_) xs_nil) ?_
      · rw [c_eq]
        cases q : Nat.beq (L + 1) R with
        | false => rfl
        | true => exact absurd (Nat.eq_of_beq_eq_true q) hb
      refine xs_cons (ex_asgName (x := .int (mid : Int)) rfl rfl (ev_bin rfl (ev_bin rfl (ev_name rfl rfl) (ev_name rfl rfl) (b_add L R)) (ev_const rfl) ((b_shr (L + R) 1).trans (by rw [Nat.pow_one, hm]))) rfl) ?_
      refine xs_cons (ex_asgName (x := .int (((mid - L) * n : Nat) : Int)) rfl rfl (ev_bin rfl (ev_bin rfl (ev_name rfl rfl) (ev_name rfl rfl) (b_sub mid L hmL)) (ev_name rfl rfl) (b_mul (mid - L) n (Nat.lt_of_le_of_lt hL1 (by decide +kernel)) (Nat.lt_of_le_of_lt hnb (by decide +kernel)))) rfl) ?_
      generalize hsh : (mid - L) * n = sh at *
      refine xs_cons (ex_asgName (x := .int ((x / 2 ^ sh : Nat) : Int)) rfl rfl (ev_bin rfl (ev_name rfl rfl) (ev_name rfl rfl) (b_shr x sh)) rfl) ?_
      refine xs_cons (ex_asgName (x := .int ((x % 2 ^ sh : Nat) : Int)) rfl rfl (ev_bin rfl (ev_name rfl rfl) (ev_bin rfl (ev_name rfl rfl) (ev_name rfl rfl) (b_shl (x / 2 ^ sh) sh (Nat.lt_of_le_of_lt (Nat.div_le_self _ _) h5) hsm)) (b_xor x sh)) rfl) ?_
      refine xs_cons (ex_expr rfl (ev_callc rfl rfl (es_cons rfl (ev_name rfl rfl) (es_cons rfl (ev_name rfl rfl) (es_cons rfl (ev_name rfl rfl) es_nil))) rfl q1.mono)) ?_
      refine xs_cons (ex_expr rfl (ev_callc rfl rfl (es_cons rfl (ev_name rfl rfl) (es_cons rfl (ev_name rfl rfl) (es_cons rfl (ev_name rfl rfl) es_nil))) rfl q2.mono)) ?_
      exact xs_nil
end
end Mine
namespace Mine
section
variable {F : Addr → FuncData} {Kf : Frag} {K : Nat} {N : NRec} {ae : AE} {st : Stmt} {b : List Stmt} {σ σ₁ σ₂ : St} {f : Fl} {hp : List AO}
noncomputable def XnK (F : Addr → FuncData) (Kf : Frag) (K : Nat) (N : NRec) (ae : AE) (l : List Stmt) (σ : St) (f : Fl) (σ' : St) : Prop := ∀ k, K ≤ k → xsN N (run0 F Kf k) ae l σ = some (f, σ')
theorem xn_def (hd : isDefS st = true) (h : defA N ae st σ = some (.next, σ₁)) (h2 : XnK F Kf K N ae b σ₁ f σ₂) : XnK F Kf K N ae (st :: b) σ f σ₂ := fun k hk => by
  unfold xsN
  rw [hd, cond_true, h, Option.bind_some]
  exact h2 k hk
theorem xn_st (hd : isDefS st = false) (h : XsK F Kf K ae [st] σ .next σ₁) (h2 : XnK F Kf K N ae b σ₁ f σ₂) : XnK F Kf K N ae (st :: b) σ f σ₂ := fun k hk => by
  unfold xsN
  rw [hd, cond_false, h k hk, Option.bind_some]
  exact h2 k hk
theorem xn_ret {v : AV} (hd : isDefS st = false) (h : XsK F Kf K ae [st] σ (.ret v) σ₁) : XnK F Kf K N ae (st :: b) σ (.ret v) σ₁ := fun k hk => by
  unfold xsN
  rw [hd, cond_false, h k hk]; rfl
theorem b_fdiv (x y : Nat) (hy : 0 < y) (hb : y < 2 ^ 4000) : binA .FloorDiv (.int x) (.int y) hp = some (.int ((x / y : Nat) : Int), hp) := by
  show ((bif intOk (y : Int) && !W.Z.eqB (y : Int) 0 then some ((x : Int).fdiv y) else none).bind fun r => some (AV.int r, hp)) = _
  have h1 : intOk (y : Int) = true := Nat.ble_eq_true_of_le (by rw [Int.natAbs_natCast]; exact hb)
  have h2 : W.Z.eqB (y : Int) 0 = false := by
    cases q : W.Z.eqB (y : Int) 0 with
    | false => rfl
    | true => have := (W.Z.eqB_iff _ _).mp q; omega
  rw [h1, h2, ← Int.ofNat_fdiv]
  rfl
theorem b_rep (i m : Nat) (h : hp[i]? = some (AO.list [.int 0])) (hm : m ≤ 256) : binA .Mult (.ref i) (.int m) hp = some (.ref hp.length, hp ++ [AO.list (List.replicate m (.int 0))]) := by
  show ((((gO hp i).bind isL).bind fun l => some (i, l)).bind fun p => bif lenOk (m : Int).natAbs && Nat.ble (p.2.length * (m : Int).toNat) 256 then some (AV.ref hp.length, hp ++ [AO.list (repList p.2 m)]) else none) = _
  rw [gO_eq, h]
  show (bif lenOk (m : Int).natAbs && Nat.ble ([AV.int 0].length * (m : Int).toNat) 256 then some (AV.ref hp.length, hp ++ [AO.list (repList [AV.int 0] m)]) else none) = _
  rw [Int.natAbs_natCast, Int.toNat_natCast, show lenOk m = true from Nat.ble_eq_true_of_le (by omega), show Nat.ble ([AV.int 0].length * m) 256 = true from Nat.ble_eq_true_of_le (by simpa using hm)]
  unfold repList
  rw [Int.toNat_natCast, show (List.replicate m [AV.int 0]).flatten = List.replicate m (AV.int 0) by
    induction m with
    | zero => rfl
    | succ m ih => rw [List.replicate_succ, List.flatten_cons, List.replicate_succ]; simp]
  rfl
noncomputable def ae42 : AE := (frameA (r42 default) 42 [(Str.ofString "a", .int 0), (Str.ofString "n", .int 0)] hp4).1
noncomputable def hp42 (n : Nat) : List AO := [.tab 37 (some n42.q), .tab 44 (some n49.q), .tab 175 none, .tab 182 none, .cell (some (.int n)), .cell none, .cell none]
noncomputable abbrev sA (n a : Nat) : St := ⟨hp42 n ++ [AO.list [.int 0]], [(Str.ofString "a", .int (a : Int))]⟩
theorem put_all {l : List AV} {ds : List Nat} (h : ds.length = l.length) : put l 0 ds = ds.map fun d : Nat => AV.int (d : Int) := by
  unfold put
  rw [Nat.zero_add, h, List.drop_length]
  simp
theorem k42 {a n : Nat} (hn : 0 < n) (hnb : n ≤ 1000) (ha : a < 2 ^ 4000) (hm : (Builtin.Int.intBits (a : Int) + n - 1) / n ≤ 64) :
    FnK F Kf 81 (.fn 42) [.int (a : Int), .int (n : Int)] hp4 (.ref 8) (hpI n ((digs (2 ^ n) a ((Builtin.Int.intBits (a : Int) + n - 1) / n)).map fun d : Nat => AV.int (d : Int))) := by
  generalize hbits : Builtin.Int.intBits (a : Int) = bits at *
  generalize hmm : (bits + n - 1) / n = m at *
  refine fn_nest (N := n42) (rr := r42 F) (bs := [(Str.ofString "a", .int (a : Int)), (Str.ofString "n", .int (n : Int))]) (f := .ret (.ref 8)) (σ₁ := ⟨_, [(Str.ofString "a", .int (a : Int))]⟩) rfl rfl rfl rfl rfl rfl ?_ rfl
  show XnK F Kf 80 n42 _ _ _ _ _
  have hbl : ∀ hp, (some (AV.int ((Builtin.Int.intBits (a : Int) : Nat) : Int), hp) : Option (AV × List AO)) = some (.int (bits : Int), hp) := fun hp => by rw [hbits]
  refine xn_st (σ₁ := ⟨[.tab 37 (some n42.q), .tab 44 (some n49.q), .tab 175 none, .tab 182 none, .cell (some (.int n)), .cell (some (.ref 8)), .cell none, .list [.int 0], .list (List.replicate m (.int 0))], [(Str.ofString "a", .int (a : Int))]⟩) rfl ?_ ?_
  · refine xs_cons (σ₁ := ⟨[.tab 37 (some n42.q), .tab 44 (some n49.q), .tab 175 none, .tab 182 none, .cell (some (.int n)), .cell (some (.ref 8)), .cell none, .list [.int 0], .list (List.replicate m (.int 0))], [(Str.ofString "a", .int (a : Int))]⟩) ?_ xs_nil
    refine ex_asgName (x := .ref 8) (σ₁ := ⟨[.tab 37 (some n42.q), .tab 44 (some n49.q), .tab 175 none, .tab 182 none, .cell (some (.int n)), .cell none, .cell none, .list [.int 0], .list (List.replicate m (.int 0))], [(Str.ofString "a", .int (a : Int))]⟩) rfl rfl ?_ rfl
    refine ev_bin (u := (.ref 8, _)) (σ₂ := sA n a) rfl (ev_list rfl (es_cons rfl (ev_const rfl) es_nil) rfl) ?_ (b_rep 7 m rfl (by omega))
    refine ev_bin (u := (.int (m : Int), (sA n a).hp)) (σ₂ := sA n a) rfl (x := .int ((bits + n - 1 : Nat) : Int)) (σ₁ := sA n a) ?_ (ev_name rfl rfl) ((b_fdiv (bits + n - 1) n hn (Nat.lt_of_le_of_lt hnb (by decide +kernel))).trans (by rw [hmm]))
    refine ev_bin (u := (.int ((bits + n - 1 : Nat) : Int), (sA n a).hp)) (σ₂ := sA n a) rfl (x := .int ((bits + n : Nat) : Int)) (σ₁ := sA n a) ?_ (ev_const rfl) (b_sub (bits + n) 1 (by omega))
    refine ev_bin (u := (.int ((bits + n : Nat) : Int), (sA n a).hp)) (σ₂ := sA n a) rfl (x := .int (bits : Int)) (σ₁ := sA n a) ?_ (ev_name rfl rfl) (b_add bits n)
    exact ev_callm (x := .int (a : Int)) (gv := .bi .bitlen) (fs := [.int (a : Int)]) (vs := []) (σ₁ := sA n a) (σ₂ := sA n a) rfl (ev_name rfl rfl) rfl rfl es_nil (fn_bi fun zz => hbl _)
  refine xn_def (σ₁ := ⟨hpI n (List.replicate m (.int 0)), [(Str.ofString "a", .int (a : Int))]⟩) rfl rfl ?_
  refine xn_st (σ₁ := ⟨hpI n ((digs (2 ^ n) a m).map fun d : Nat => AV.int (d : Int)), [(Str.ofString "a", .int (a : Int))]⟩) rfl ?_ (xn_ret rfl (xs_stop (ex_ret rfl (ev_name rfl rfl))))
  by_cases h0 : a = 0
  · subst h0
    have hb0 : bits = 0 := by rw [← hbits]; rfl
    subst hb0
    have hm0 : m = 0 := by rw [← hmm]; exact Nat.div_eq_of_lt (by omega)
    subst hm0
    exact xs_cons (ex_ifF rfl (tr_plain rfl (ev_name rfl rfl) (tv_int rfl)) xs_nil) xs_nil
  · have hb0 : 0 < bits := by
      rw [← hbits]
      unfold Builtin.Int.intBits
      rw [if_neg (by simpa using h0)]
      omega
    have hm0 : 0 < m := by rw [← hmm]; exact Nat.div_pos (by omega) hn
    have ht : truthA (hpI n (List.replicate m (.int 0))) (.int (a : Int)) = some true := by
      show some (!W.Z.eqB (a : Int) 0) = some true
      cases q : W.Z.eqB (a : Int) 0 with
      | false => rfl
      | true => have := (W.Z.eqB_iff _ _).mp q; omega
    have hlen : ∀ ih, biA (tabC Kf) ih .len [.ref 8] (hpI n (List.replicate m (.int 0))) = some (.int (m : Int), hpI n (List.replicate m (.int 0))) := fun ih => by
      show (bif lenOk (List.replicate m (AV.int 0)).length then some (AV.int ((List.replicate m (AV.int 0)).length : Int), hpI n (List.replicate m (.int 0))) else none) = _
      rw [List.length_replicate, show lenOk m = true from Nat.ble_eq_true_of_le (by omega)]
      rfl
    have q := inner42 (F := F) (Kf := Kf) hn hnb 6 a 0 m (List.replicate m (.int 0)) hm0 (by omega) (by simp) (by simp; omega) ha
    rw [Nat.sub_zero, put_all (by rw [digs_len]; simp)] at q
    refine xs_cons (ex_ifT rfl (tr_plain rfl (ev_name rfl rfl) (tv_int ht)) (xs_cons (ex_expr rfl (ev_callc rfl rfl (es_cons rfl (ev_name rfl rfl) (es_cons rfl (ev_const rfl) (es_cons rfl (ev_calln rfl rfl rfl (es_cons rfl (ev_name rfl rfl) es_nil) (fn_bi hlen)) es_nil))) rfl q.mono)) xs_nil)) xs_nil
end
end Mine
namespace Mine
noncomputable def undigs (B : Nat) : List Nat → Nat
  | [] => 0
  | d :: r => d + B * undigs B r
theorem undigs_app (B : Nat) : ∀ a b : List Nat, undigs B (a ++ b) = undigs B a + B ^ a.length * undigs B b
  | [], b => by simp [undigs]
  | d :: a, b => by
    rw [List.cons_append, undigs, undigs_app B a b, undigs, List.length_cons, Nat.pow_succ, Nat.mul_add, Nat.add_assoc, Nat.mul_comm (B ^ a.length) B, Nat.mul_assoc]
theorem undigs_le {B : Nat} (hB : 0 < B) (a b c : List Nat) : undigs B b ≤ undigs B (a ++ b ++ c) := by
  rw [undigs_app, undigs_app]
  have h1 : undigs B b ≤ B ^ a.length * undigs B b := Nat.le_mul_of_pos_left _ (Nat.pow_pos hB)
  omega
noncomputable def segm (l : List Nat) (L R : Nat) : List Nat := (l.drop L).take (R - L)
theorem segm_split {l : List Nat} {L M R : Nat} (h1 : L ≤ M) (h2 : M ≤ R) : segm l L R = segm l L M ++ segm l M R := by
  unfold segm
  rw [show R - L = (M - L) + (R - M) from (Nat.add_comm _ _).trans (Nat.sub_add_sub_cancel h2 h1) |>.symm, List.take_add, List.drop_drop, Nat.add_sub_of_le h1]
theorem segm_len {l : List Nat} {L R : Nat} (h2 : R ≤ l.length) : (segm l L R).length = R - L := by
  unfold segm
  rw [List.length_take, List.length_drop]
  exact Nat.min_eq_left (Nat.sub_le_sub_right h2 L)
theorem segm_le {B : Nat} (hB : 0 < B) {l : List Nat} {L R : Nat} (h1 : L ≤ R) : undigs B (segm l L R) ≤ undigs B l := by
  have e : l = l.take L ++ segm l L R ++ l.drop R := by
    unfold segm
    rw [List.append_assoc, show l.drop R = (l.drop L).drop (R - L) by rw [List.drop_drop]; congr 1; omega, List.take_append_drop, List.take_append_drop]
  have := undigs_le hB (l.take L) (segm l L R) (l.drop R)
  rw [← e] at this
  exact this
theorem segm_one {l : List Nat} {L : Nat} (h : L < l.length) : segm l L (L + 1) = [l[L]] := by
  unfold segm
  rw [show L + 1 - L = 1 by omega, List.drop_eq_getElem_cons h]
  rfl
noncomputable abbrev aints (l : List Nat) : List AV := l.map fun d : Nat => AV.int (d : Int)
noncomputable def in49 : CRec := inOf (dN 6).2.1[0]? [Str.ofString "L", Str.ofString "R"]
noncomputable def cs49 : List (Str × Nat) := [(Str.ofString "n", 12), (Str.ofString "inner", 13), (Str.ofString "digits", 11)]
noncomputable def hpQ (n : Nat) (l ql : List AV) : List AO := [.tab 37 (some n42.q), .tab 44 (some n49.q), .tab 175 none, .tab 182 none, .cell (some (.int n)), .cell (some (.ref 8)), .cell (some (.ref 9)), .list [.int 0], .list l, .clos in42 cs42, .list ql]
noncomputable def hpJ (n : Nat) (l ql : List AV) : List AO := [.tab 37 (some n42.q), .tab 44 (some n49.q), .tab 175 none, .tab 182 none, .cell (some (.int n)), .cell (some (.ref 8)), .cell (some (.ref 9)), .list [.int 0], .list l, .clos in42 cs42, .list ql,
  .cell (some (.ref 10)), .cell (some (.int n)), .cell (some (.ref 14)), .clos in49 cs49]
section
variable {F : Addr → FuncData} {Kf : Frag} {K : Nat} {ae : AE} {e t b o : Expr} {σ σ₁ σ₂ : St} {v : AV}
theorem ev_iteT (h : viewE e = .ite t b o) (h1 : TrK F Kf K ae t σ true σ₁) (h2 : EvK F Kf K ae b σ₁ v σ₂) : EvK F Kf (K + 1) ae e σ v σ₂ := lift1 fun k hk => by
  show evB (tabG F) (tabC Kf) (run0 F Kf k) ((extG (cfg F Kf)).xt (run0 F Kf k)) ae e σ = _
  unfold evB; rw [h]; dsimp only [evV, evName, evBin, evUsub, evNott, evCmp, evIte, evTup, evList, evSlice, evSub, evAtt, evCalln, evCallm]; rw [h1 k hk]; exact h2 k hk
theorem ev_iteF (h : viewE e = .ite t b o) (h1 : TrK F Kf K ae t σ false σ₁) (h2 : EvK F Kf K ae o σ₁ v σ₂) : EvK F Kf (K + 1) ae e σ v σ₂ := lift1 fun k hk => by
  show evB (tabG F) (tabC Kf) (run0 F Kf k) ((extG (cfg F Kf)).xt (run0 F Kf k)) ae e σ = _
  unfold evB; rw [h]; dsimp only [evV, evName, evBin, evUsub, evNott, evCmp, evIte, evTup, evList, evSlice, evSub, evAtt, evCalln, evCallm]; rw [h1 k hk]; exact h2 k hk
theorem sub_at {hp : List AO} {i L : Nat} {l : List AV} {v : AV} (h : hp[i]? = some (.list l)) (hL : l[L]? = some v) (hl : l.length ≤ 1000) : sub2A (tabC Kf) (.ref i) (.int (L : Int)) hp = some v := by
  have hlt := (List.getElem?_eq_some_iff.mp hL).1
  have hk : theK hp (.ref i) = none := by
    show ((((gO hp i).bind isN).bind fun q => some (i, q)).bind fun q => q.2.2.2.bind fun l => some (q.1, q.2.1, q.2.2.1, l)) = none
    rw [gO_eq, h]; rfl
  unfold sub2A
  rw [hk]
  show ((((gO hp i).bind isL).bind fun l => atI l (L : Int))) = some v
  rw [gO_eq, h]
  show atI l (L : Int) = some v
  unfold atI
  rw [show lenOk l.length = true from Nat.ble_eq_true_of_le (by omega), cond_true]
  unfold ixA
  rw [leB_nat, cond_true, Int.toNat_natCast, show Nat.blt L l.length = true from Nat.ble_eq_true_of_le hlt, cond_true]
  exact hL
theorem inner49 {n : Nat} {l : List AV} {ql : List Nat} (hn : 0 < n) (hnb : n ≤ 1000) (hlen : ql.length ≤ 100) (hv : undigs (2 ^ n) ql < 2 ^ 4000) : ∀ (d L R : Nat), L < R → R - L ≤ 2 ^ d → R ≤ ql.length →
    FnK F Kf (10 * d + 10) (.ref 14) [.int (L : Int), .int (R : Int)] (hpJ n l (aints ql)) (.int (undigs (2 ^ n) (segm ql L R) : Nat)) (hpJ n l (aints ql))
  := by
  have base : ∀ (d L R : Nat), L + 1 = R → R ≤ ql.length →
    FnK F Kf (10 * d + 10) (.ref 14) [.int (L : Int), .int (R : Int)] (hpJ n l (aints ql)) (.int (undigs (2 ^ n) (segm ql L R) : Nat)) (hpJ n l (aints ql)) := by
    · intro d L R hb hL
      subst hb
      refine fn_clos (c := in49) (cs := cs49) (f := .ret (.int (undigs (2 ^ n) (segm ql L (L + 1)) : Nat))) (σ₁ := ⟨hpJ n l (aints ql), [(Str.ofString "R", .int ((L + 1 : Nat) : Int)), (Str.ofString "L", .int (L : Int))]⟩) rfl rfl rfl ?_ rfl
      refine xs_stop (ex_ifT rfl (tr_cmp rfl (ev_bin rfl (ev_name rfl rfl) (ev_const rfl) (b_add L 1)) (ev_name rfl rfl) ?_) (xs_stop (ex_ret rfl (ev_sub rfl (ev_name rfl rfl) (ev_name rfl rfl) (sub_at rfl ?_ (by rw [List.length_map]; exact Nat.le_trans hlen (by decide)))))))
      · rw [c_eq, show Nat.beq (L + 1) (L + 1) = true from Nat.beq_refl _]
      · rw [List.getElem?_map, List.getElem?_eq_getElem hL, segm_one hL]
        simp [undigs]
  intro d
  induction d with
  | zero => exact fun L R h1 h2 h3 => base 0 L R (Nat.le_antisymm h1 (Nat.sub_le_iff_le_add'.mp h2)) h3
  | succ d' ih =>
    intro L R h1 h2 h3
    by_cases hb : L + 1 = R
    · exact base _ L R hb h3
    · refine ex0_4 (midF h1 h2 hb) fun hm1 hm2 hm3 hm4 => ?_
      generalize hm : (L + R) / 2 = mid at hm1 hm2 hm3 hm4
      have hmR := Nat.le_of_lt hm2
      have hmL := Nat.le_of_lt hm1
      have q1 := ih mid R hm2 hm4 h3
      have q2 := ih L mid hm1 hm3 (Nat.le_trans hmR h3)
      have hB : 0 < 2 ^ n := Nat.pow_pos (by decide)
      have hL1 : mid - L ≤ 100 := Nat.le_trans (Nat.sub_le _ _) (Nat.le_trans hmR (Nat.le_trans h3 hlen))
      have hsm : (mid - L) * n ≤ 100000 := Nat.le_trans (Nat.mul_le_mul hL1 hnb) (by decide)
      have hval : undigs (2 ^ n) (segm ql mid R) * 2 ^ ((mid - L) * n) + undigs (2 ^ n) (segm ql L mid) = undigs (2 ^ n) (segm ql L R) := by
        rw [segm_split hmL hmR, undigs_app, segm_len (Nat.le_trans hmR h3), ← Nat.pow_mul, Nat.mul_comm n, Nat.add_comm, Nat.mul_comm (2 ^ _)]
      have hlt : undigs (2 ^ n) (segm ql mid R) < 2 ^ 4000 := Nat.lt_of_le_of_lt (segm_le hB hmR) hv
      generalize hsh : (mid - L) * n = sh at *
      refine fn_clos (c := in49) (cs := cs49) (f := .ret (.int (undigs (2 ^ n) (segm ql L R) : Nat))) (σ₁ := ⟨hpJ n l (aints ql), [(Str.ofString "R", .int (R : Int)), (Str.ofString "L", .int (L : Int)), (Str.ofString "mid", .int (mid : Int)), (Str.ofString "shift", .int (sh : Int))]⟩) rfl rfl rfl ?_ rfl
      refine xs_cons (σ₁ := ⟨hpJ n l (aints ql), [(Str.ofString "R", .int (R : Int)), (Str.ofString "L", .int (L : Int))]⟩) (ex_ifF rfl (tr_cmp rfl (ev_bin rfl (ev_name rfl rfl) (ev_const rfl) (b_add L 1)) (ev_name rfl rfl) ?_) xs_nil) ?_
      · rw [c_eq]
        cases q : Nat.beq (L + 1) R with
        | false => rfl
        | true => exact absurd (Nat.eq_of_beq_eq_true q) hb
      refine xs_cons (ex_asgName (x := .int (mid : Int)) rfl rfl (ev_bin rfl (ev_bin rfl (ev_name rfl rfl) (ev_name rfl rfl) (b_add L R)) (ev_const rfl) ((b_shr (L + R) 1).trans (by rw [Nat.pow_one, hm]))) rfl) ?_
      refine xs_cons (ex_asgName (x := .int (sh : Int)) rfl rfl (ev_bin rfl (ev_bin rfl (ev_name rfl rfl) (ev_name rfl rfl) (b_sub mid L hmL)) (ev_name rfl rfl) ((b_mul (mid - L) n (Nat.lt_of_le_of_lt hL1 (by decide +kernel)) (Nat.lt_of_le_of_lt hnb (by decide +kernel))).trans (by rw [hsh]))) rfl) ?_
      refine xs_stop (ex_ret rfl ?_)
      refine ev_bin (u := (.int (undigs (2 ^ n) (segm ql L R) : Nat), hpJ n l (aints ql))) rfl (ev_bin rfl (ev_callc rfl rfl (es_cons rfl (ev_name rfl rfl) (es_cons rfl (ev_name rfl rfl) es_nil)) rfl q1.mono) (ev_name rfl rfl) (b_shl _ sh hlt hsm))
        (ev_callc rfl rfl (es_cons rfl (ev_name rfl rfl) (es_cons rfl (ev_name rfl rfl) es_nil)) rfl q2.mono) ((b_add _ _).trans (by rw [hval]))
theorem k49 {n : Nat} {l : List AV} {ql : List Nat} (hn : 0 < n) (hnb : n ≤ 1000) (hlen : ql.length ≤ 64) (hv : undigs (2 ^ n) ql < 2 ^ 4000) :
    FnK F Kf 81 (.fn 49) [.ref 10, .int (n : Int)] (hpQ n l (aints ql)) (.int (undigs (2 ^ n) ql : Nat)) (hpJ n l (aints ql)) := by
  refine fn_nest (N := n49) (rr := r49 F) (bs := [(Str.ofString "digits", .ref 10), (Str.ofString "n", .int (n : Int))]) (f := .ret (.int (undigs (2 ^ n) ql : Nat))) (σ₁ := ⟨hpJ n l (aints ql), []⟩) rfl rfl rfl rfl rfl rfl ?_ rfl
  show XnK F Kf 80 n49 _ _ _ _ _
  refine xn_def (σ₁ := ⟨hpJ n l (aints ql), []⟩) rfl rfl ?_
  refine xn_ret rfl (xs_stop (ex_ret rfl ?_))
  cases ql with
  | nil => exact ev_iteF rfl (tr_plain rfl (ev_name rfl rfl) (tv_int rfl)) (ev_const rfl)
  | cons d0 r0 =>
    have hl : ∀ ih, biA (tabC Kf) ih .len [.ref 10] (hpJ n l (aints (d0 :: r0))) = some (.int ((d0 :: r0).length : Nat), hpJ n l (aints (d0 :: r0))) := fun ih => by
      show (bif lenOk (aints (d0 :: r0)).length then some (AV.int ((aints (d0 :: r0)).length : Int), hpJ n l (aints (d0 :: r0))) else none) = _
      rw [List.length_map, show lenOk (d0 :: r0).length = true from Nat.ble_eq_true_of_le (by omega)]
      rfl
    have q := inner49 (F := F) (Kf := Kf) (l := l) hn hnb (by omega) hv 6 0 (d0 :: r0).length (by simp) (by omega) (Nat.le_refl _)
    rw [show segm (d0 :: r0) 0 (d0 :: r0).length = d0 :: r0 by unfold segm; rw [List.drop_zero, Nat.sub_zero, List.take_length]] at q
    have ht : truthA (hpJ n l (aints (d0 :: r0))) (.ref 10) = some true := by
      show (match (hpJ n l (aints (d0 :: r0)))[10]? with | some (AO.list l) => bif lenOk l.length then some (!Nat.beq l.length 0) else none | _ => none) = _
      show (bif lenOk (aints (d0 :: r0)).length then some (!Nat.beq (aints (d0 :: r0)).length 0) else none) = _
      rw [List.length_map, show lenOk (d0 :: r0).length = true from Nat.ble_eq_true_of_le (by omega)]
      rfl
    exact ev_iteT rfl (tr_plain rfl (ev_name rfl rfl) (tv_int ht)) (ev_callc rfl rfl (es_cons rfl (ev_const rfl) (es_cons rfl (ev_calln rfl rfl rfl (es_cons rfl (ev_name rfl rfl) es_nil) (fn_bi hl)) es_nil)) rfl q.mono)
end
end Mine
namespace Mine
theorem undigs_digs (B : Nat) : ∀ (m x : Nat), 0 < m → undigs B (digs B x m) = x
  | 0, _, h => absurd h (by omega)
  | 1, x, _ => by simp [digs, undigs]
  | m + 2, x, _ => by rw [digs, undigs, undigs_digs B (m + 1) _ (by omega), Nat.mod_add_div]
theorem digs_le (B : Nat) : ∀ (m x : Nat), ∀ d ∈ digs B x m, d ≤ x
  | 0, _, d, h => by cases h
  | 1, x, d, h => by rw [digs] at h; rw [List.mem_singleton.mp h]; exact Nat.le_refl _
  | m + 2, x, d, h => by
    rw [digs] at h
    rcases List.mem_cons.mp h with rfl | h
    · exact Nat.mod_le _ _
    · exact Nat.le_trans (digs_le B (m + 1) _ d h) (Nat.div_le_self _ _)
section
variable {F : Addr → FuncData} {Kf : Frag} {K : Nat} {ae : AE} {e iter : Expr} {σ σ₁ σ₂ : St} {v y : AV} {st : Stmt} {b o : List Stmt} {f : Fl} {x : Str} {it it' : IT} {m : Nat} {hp : List AO}
noncomputable def FoK (F : Addr → FuncData) (Kf : Frag) (K : Nat) (ae : AE) (x : Str) (b o : List Stmt) (m : Nat) (it : IT) (σ : St) (f : Fl) (σ' : St) : Prop := ∀ k, K ≤ k → forA (run0 F Kf k) ae x b o m it σ = some (f, σ')
noncomputable def StK (F : Addr → FuncData) (Kf : Frag) (K : Nat) (ae : AE) (iter : Expr) (σ : St) (it : IT) (σ' : St) : Prop := ∀ k, K ≤ k → startA (tabG F) (run0 F Kf k) ae iter σ = some (it, σ')
theorem ex_for (h : viewS st = .fors x iter b o) (h1 : StK F Kf K ae iter σ it σ₁) (h2 : FoK F Kf K ae x b o 400 it σ₁ f σ₂) : ExK F Kf K ae st σ f σ₂ := fun k hk => by
  unfold exB; rw [h]; dsimp only [exV, exExpr, exRet, exIf, exFor, exAsg, exSwap, exAsg3, exAugn, exAugs]; rw [h1 k hk]; exact h2 k hk
theorem fo_end (h : nextA it σ.hp = some none) (h1 : XsK F Kf K ae o σ f σ₁) : FoK F Kf K ae x b o (m + 1) it σ f σ₁ := fun k hk => by
  unfold forA; rw [h]; exact h1 k hk
theorem fo_next (h : nextA it σ.hp = some (some (y, it'))) (hs : storeA ae x y σ = some σ₁) (h1 : XsK F Kf K ae b σ₁ .next σ₂) {σ₃ : St} (h2 : FoK F Kf K ae x b o m it' σ₂ f σ₃) : FoK F Kf K ae x b o (m + 1) it σ f σ₃ := fun k hk => by
  unfold forA; rw [h, Option.bind_some]; dsimp only; rw [hs, Option.bind_some, h1 k hk]; exact h2 k hk
theorem st_rev {g : Str} {p pos : Pos} {r : Nat} {l : List AV} (hg : nameA (tabG F) ae g σ = some (.bi .reversed)) (hs : isStar e = false) (h1 : EvK F Kf K ae e σ (.ref r) σ₁) (hr : σ₁.hp[r]? = some (.list l)) : StK F Kf K ae (.Call (.Name g p) [e] [] pos) σ (.rev r ((l.length : Int) - 1)) σ₁ := fun k hk => by
  have hv : revC (.Call (.Name g p) [e] [] pos) = some (g, e) := by
    have : viewE (.Call (.Name g p) [e] [] pos) = .calln g [e] := by
      show (bif (isStar e || false) then EV.stop else EV.calln g [e]) = _
      rw [hs]; rfl
    unfold revC callN; rw [this]; rfl
  unfold startA; rw [hv]; dsimp only; rw [hg, Option.bind_some, show isRev (.bi .reversed) = true from rfl, cond_true, h1 k hk, Option.bind_some]; unfold startRev; dsimp only; rw [hr]
theorem k28n {a b n : Nat} (ha : a < 2 ^ 4000) (hb : 0 < b) (hb2 : b < 2 ^ 4000) : FnK F Kf 9 (.fn 28) [.int (a : Int), .int (b : Int), .int (n : Int)] hp (.tup [.int ((a / b : Nat) : Int), .int ((a % b : Nat) : Int)]) hp := by
  have hok : ∀ x : Nat, x < 2 ^ 4000 → intOk (x : Int) = true := fun x hx => Nat.ble_eq_true_of_le (by rw [Int.natAbs_natCast]; exact hx)
  have h1 : W.Z.leB ((Builtin.Int.intBits (a : Int) : Int) - (n : Int)) 4000 = true := (W.Z.leB_iff _ _).mpr (by have := intOk_bits (hok a ha); omega)
  have h3 : W.Z.eqB (b : Int) 0 = false := by
    cases q : W.Z.eqB (b : Int) 0 with
    | false => rfl
    | true => have := (W.Z.eqB_iff _ _).mp q; omega
  have := k28 (F := F) (Kf := Kf) (hp := hp) h1 (hok b hb2) h3
  have e2 : (a : Int).fmod b = ((a % b : Nat) : Int) := by rw [Int.fmod_eq_emod_of_nonneg _ (by omega)]; push_cast; rfl
  rw [← Int.ofNat_fdiv, e2] at this
  exact this
noncomputable abbrev loc56 (a b n r : Nat) (ext : List (Str × AV)) : List (Str × AV) := (Str.ofString "b", .int (b : Int)) :: (Str.ofString "a", .int (a : Int)) :: (Str.ofString "n", .int (n : Int)) :: (Str.ofString "a_digits", .ref 8) :: (Str.ofString "r", .int (r : Int)) :: (Str.ofString "q_digits", .ref 10) :: ext
noncomputable def fb56 : List Stmt := match ((dN 7).2.1[4]? : Option Stmt) with
  | some (.For _ _ b _ _) => b
  | _ => []
noncomputable def ae56 (F : Addr → FuncData) : AE := ⟨(r56 F).scope, [], some (56, (r56 F).fd)⟩
noncomputable def extOk (ext : List (Str × AV)) : Prop := ext = [] ∨ ∃ x y : AV, ext = [(Str.ofString "a_digit", x), (Str.ofString "q_digit", y)]
theorem turn56 {a b n r d : Nat} {l : List AV} {qs : List Nat} {ext : List (Str × AV)} (hx : extOk ext) (hr : r < 2 ^ 1000) (hn : n ≤ 1000) (hd : d < 2 ^ 3000) (hb : 0 < b) (hb2 : b < 2 ^ 1000) (hq : qs.length ≤ 100) : ∃ σ₁, storeA (ae56 F) (Str.ofString "a_digit") (.int (d : Int)) ⟨hpQ n l (aints qs), loc56 a b n r ext⟩ = some σ₁ ∧
    XsK F Kf 20 (ae56 F) fb56 σ₁ .next ⟨hpQ n l (aints (qs ++ [(r * 2 ^ n + d) / b])), loc56 a b n ((r * 2 ^ n + d) % b) [(Str.ofString "a_digit", .int (d : Int)), (Str.ofString "q_digit", .int (((r * 2 ^ n + d) / b : Nat) : Int))]⟩ := by
  have hbig : r * 2 ^ n + d < 2 ^ 4000 := by
    have h1 : r * 2 ^ n ≤ 2 ^ 1000 * 2 ^ 1000 := Nat.mul_le_mul (Nat.le_of_lt hr) (Nat.pow_le_pow_right (by decide) hn)
    have h2 : (2 : Nat) ^ 1000 * 2 ^ 1000 + 2 ^ 3000 < 2 ^ 4000 := by decide +kernel
    omega
  have hr4 : r < 2 ^ 4000 := Nat.lt_trans hr (by decide +kernel)
  have hb4 : b < 2 ^ 4000 := Nat.lt_trans hb2 (by decide +kernel)
  have happ : ∀ (z : Nat) ih, biA (tabC Kf) ih .append [.ref 10, .int (z : Int)] (hpQ n l (aints qs)) = some (.none, hpQ n l (aints (qs ++ [z]))) := fun z ih => by
    show (bif lenOk (aints qs).length then some (AV.none, (hpQ n l (aints qs)).set 10 (.list (aints qs ++ [.int (z : Int)]))) else none) = _
    rw [List.length_map, show lenOk qs.length = true from Nat.ble_eq_true_of_le (by omega)]
    show some (AV.none, hpQ n l (aints qs ++ [.int (z : Int)])) = _
    rw [show aints (qs ++ [z]) = aints qs ++ [.int (z : Int)] by simp]
  generalize hz : (r * 2 ^ n + d) / b = z
  generalize hw : (r * 2 ^ n + d) % b = w
  have call := k28n (F := F) (Kf := Kf) (n := n) (hp := hpQ n l (aints qs)) hbig hb hb4
  rw [hz, hw] at call
  rcases hx with rfl | ⟨x, y, rfl⟩
  · refine ⟨_, rfl, ?_⟩
    refine xs_cons (ex_asgTup (vs := [.int (z : Int), .int (w : Int)]) rfl rfl (ev_calln rfl rfl rfl (es_cons rfl (ev_bin (u := (.int ((r * 2 ^ n + d : Nat) : Int), hpQ n l (aints qs))) rfl (ev_bin rfl (ev_name rfl rfl) (ev_name rfl rfl) (b_shl r n hr4 (by omega))) (ev_name rfl rfl) (b_add (r * 2 ^ n) d)) (es_cons rfl (ev_name rfl rfl) (es_cons rfl (ev_name rfl rfl) es_nil))) call.mono) rfl) ?_
    exact xs_cons (ex_expr rfl (ev_callm (gv := .bi .append) (fs := [.ref 10]) rfl (ev_name rfl rfl) rfl rfl (es_cons rfl (ev_name rfl rfl) es_nil) (fn_bi (happ z)))) xs_nil
  · refine ⟨_, rfl, ?_⟩
    refine xs_cons (ex_asgTup (vs := [.int (z : Int), .int (w : Int)]) rfl rfl (ev_calln rfl rfl rfl (es_cons rfl (ev_bin (u := (.int ((r * 2 ^ n + d : Nat) : Int), hpQ n l (aints qs))) rfl (ev_bin rfl (ev_name rfl rfl) (ev_name rfl rfl) (b_shl r n hr4 (by omega))) (ev_name rfl rfl) (b_add (r * 2 ^ n) d)) (es_cons rfl (ev_name rfl rfl) (es_cons rfl (ev_name rfl rfl) es_nil))) call.mono) rfl) ?_
    exact xs_cons (ex_expr rfl (ev_callm (gv := .bi .append) (fs := [.ref 10]) rfl (ev_name rfl rfl) rfl rfl (es_cons rfl (ev_name rfl rfl) es_nil) (fn_bi (happ z)))) xs_nil
end
end Mine
namespace Mine
section
variable {F : Addr → FuncData} {Kf : Frag}
theorem drop_at {l : List Nat} {j : Nat} (h : j < l.length) : l.drop j = l[j] :: l.drop (j + 1) := List.drop_eq_getElem_cons h
theorem loop56 {a b n : Nat} {ds : List Nat} (hn : n ≤ 1000) (hds : ∀ d ∈ ds, d < 2 ^ 3000) (hb : 0 < b) (hb2 : b < 2 ^ 1000) (hlen : ds.length ≤ 64) : ∀ (j fuel r : Nat) (qs : List Nat) (ext : List (Str × AV)), j ≤ ds.length → j < fuel → extOk ext → r < b → qs.length + j = ds.length →
    undigs (2 ^ n) (ds.drop j) = undigs (2 ^ n) qs.reverse * b + r → ∃ qs' r' ext', extOk ext' ∧ r' < b ∧ qs'.length = ds.length ∧ undigs (2 ^ n) ds = undigs (2 ^ n) qs'.reverse * b + r' ∧
      FoK F Kf 20 (ae56 F) (Str.ofString "a_digit") fb56 [] fuel (.rev 8 ((j : Int) - 1)) ⟨hpQ n (aints ds) (aints qs), loc56 a b n r ext⟩ .next ⟨hpQ n (aints ds) (aints qs'), loc56 a b n r' ext'⟩
  | 0, fuel, r, qs, ext, _, hf, hx, hr, hq, hv => by
    obtain ⟨fuel, rfl⟩ : ∃ k, fuel = k + 1 := ⟨fuel - 1, by omega⟩
    exact ⟨qs, r, ext, hx, hr, by omega, by simpa using hv, fo_end rfl xs_nil⟩
  | j + 1, fuel, r, qs, ext, hj, hf, hx, hr, hq, hv => by
    obtain ⟨fuel, rfl⟩ : ∃ k, fuel = k + 1 := ⟨fuel - 1, by omega⟩
    have hjl : j < ds.length := by omega
    refine ex1_2 (turn56 (F := F) (Kf := Kf) (a := a) (b := b) (n := n) (r := r) (d := ds[j]) (l := aints ds) (qs := qs) hx (Nat.lt_trans hr hb2) hn (hds _ (List.getElem_mem hjl)) hb hb2 (by omega)) fun σ₁ hs hturn => ?_
    have hv' : undigs (2 ^ n) (ds.drop j) = undigs (2 ^ n) (qs ++ [(r * 2 ^ n + ds[j]) / b]).reverse * b + (r * 2 ^ n + ds[j]) % b := by
      rw [drop_at hjl, undigs, hv, List.reverse_append, List.reverse_cons, List.reverse_nil, List.nil_append, List.singleton_append, undigs]
      have := Nat.div_add_mod (r * 2 ^ n + ds[j]) b
      generalize (r * 2 ^ n + ds[j]) / b = z at *
      generalize (r * 2 ^ n + ds[j]) % b = w at *
      generalize undigs (2 ^ n) qs.reverse = q at *
      rw [Nat.add_mul, Nat.mul_add, Nat.mul_comm z b]
      have e1 : 2 ^ n * (q * b) = 2 ^ n * q * b := (Nat.mul_assoc _ _ _).symm
      have e2 : 2 ^ n * r = r * 2 ^ n := Nat.mul_comm _ _
      rw [e1, e2]
      omega
    obtain ⟨qs', r', ext', h1, h2, h3, h4, h5⟩ := loop56 hn hds hb hb2 hlen j fuel ((r * 2 ^ n + ds[j]) % b) (qs ++ [(r * 2 ^ n + ds[j]) / b]) _ (by omega) (by omega) (.inr ⟨_, _, rfl⟩) (Nat.mod_lt _ hb) (by simp; omega) hv'
    refine ⟨qs', r', ext', h1, h2, h3, h4, ?_⟩
    rw [show (((j + 1 : Nat) : Int) - 1) = Int.ofNat j by rw [Int.ofNat_eq_natCast]; omega]
    refine fo_next (y := .int (ds[j] : Int)) (it' := .rev 8 ((j : Int) - 1)) ?_ hs hturn h5
    show (((aints ds)[j]?).bind fun x => some (some (x, IT.rev 8 ((j : Int) - 1)))) = _
    rw [List.getElem?_map, List.getElem?_eq_getElem hjl]
    rfl
set_option tactic.hygienic true in
theorem k56 {a b : Nat} (hb : 0 < b) (hb2 : b < 2 ^ 1000) (ha : a < 2 ^ 3000) (hm : (Builtin.Int.intBits (a : Int) + Builtin.Int.intBits (b : Int) - 1) / Builtin.Int.intBits (b : Int) ≤ 64) :
    ∃ hp', FnK F Kf 100 (.fn 56) [.int (a : Int), .int (b : Int)] hp4 (.tup [.int ((a / b : Nat) : Int), .int ((a % b : Nat) : Int)]) hp' ∧ hp'.take 4 = hp4 := by
  have hok : intOk (b : Int) = true := Nat.ble_eq_true_of_le (by rw [Int.natAbs_natCast]; exact Nat.lt_trans hb2 (by decide +kernel))
  have hn0 : 0 < Builtin.Int.intBits (b : Int) := by
    unfold Builtin.Int.intBits
    rw [if_neg (by simp; omega)]
    omega
  have hn1 : Builtin.Int.intBits (b : Int) ≤ 1000 := by
    unfold Builtin.Int.intBits
    rw [if_neg (by simp; omega), Int.natAbs_natCast]
    have := (Nat.log2_lt (by omega)).mpr hb2
    omega
  generalize hnb : Builtin.Int.intBits (b : Int) = n at *
  have k1 := k42 (F := F) (Kf := Kf) (a := a) (n := n) hn0 hn1 (Nat.lt_trans ha (by decide +kernel)) hm
  generalize hmm : (Builtin.Int.intBits (a : Int) + n - 1) / n = m at *
  have hB : 0 < 2 ^ n := Nat.pow_pos (by decide)
  have hund : undigs (2 ^ n) (digs (2 ^ n) a m) = a := by
    rcases Nat.eq_zero_or_pos m with h0 | h0
    · subst h0
      have hbz : Builtin.Int.intBits (a : Int) = 0 := by
        rcases Nat.eq_zero_or_pos (Builtin.Int.intBits (a : Int)) with q | q
        · exact q
        · have := Nat.div_pos (show n ≤ Builtin.Int.intBits (a : Int) + n - 1 by omega) hn0
          omega
      have : a = 0 := by
        unfold Builtin.Int.intBits at hbz
        split at hbz
        · rename_i h; simpa using h
        · omega
      subst this; rfl
    · exact undigs_digs _ _ _ h0
  have hds : ∀ d ∈ digs (2 ^ n) a m, d < 2 ^ 3000 := fun d hd => Nat.lt_of_le_of_lt (digs_le _ _ _ d hd) ha
  have hdl := digs_len (2 ^ n) m a
  generalize hdd : digs (2 ^ n) a m = ds at *
  obtain ⟨qs, r, ext, hx, hr, hql, hv, hloop⟩ := loop56 (F := F) (Kf := Kf) (a := a) (b := b) (n := n) (ds := ds) hn1 hds hb hb2 (by omega) ds.length 400 0 [] [] (Nat.le_refl _) (by omega) (.inl rfl) hb (by simp) (by simp [undigs])
  rw [hund] at hv
  have hq : undigs (2 ^ n) qs.reverse = a / b ∧ r = a % b := by
    have h1 : a / b = undigs (2 ^ n) qs.reverse := by rw [hv, Nat.mul_comm]; rw [Nat.mul_add_div hb, Nat.div_eq_of_lt hr, Nat.add_zero]
    have h2 : a % b = r := by rw [hv, Nat.mul_comm, Nat.mul_add_mod, Nat.mod_eq_of_lt hr]
    exact ⟨h1.symm, h2.symm⟩
  revert hq; refine fun h0 => ex0_2 h0 fun hq1 Z1 => ?_; clear h0; subst Z1
  have k2 := k49 (F := F) (Kf := Kf) (n := n) (l := aints ds) (ql := qs.reverse) hn0 hn1 (by rw [List.length_reverse]; omega) (by rw [hq1]; exact Nat.lt_of_le_of_lt (Nat.div_le_self _ _) (Nat.lt_trans ha (by decide +kernel)))
  rw [hq1] at k2
  have hrev : ∀ ih, biA (tabC Kf) ih .reverse [.ref 10] (hpQ n (aints ds) (aints qs)) = some (.none, hpQ n (aints ds) (aints qs.reverse)) := fun ih => by
    show (bif lenOk (aints qs).length then some (AV.none, (hpQ n (aints ds) (aints qs)).set 10 (.list (aints qs).reverse)) else none) = _
    rw [List.length_map, show lenOk qs.length = true from Nat.ble_eq_true_of_le (by omega)]
    show some (AV.none, hpQ n (aints ds) (aints qs).reverse) = _
    rw [← List.map_reverse]
  have hbl : ∀ hp, (some (AV.int ((Builtin.Int.intBits (b : Int) : Nat) : Int), hp) : Option (AV × List AO)) = some (.int (n : Int), hp) := fun hp => by rw [hnb]
  refine ⟨hpJ n (aints ds) (aints qs.reverse), ?_, rfl⟩
  have fin : ∃ locF, XsK F Kf 99 (ae56 F) (r56 F).body ⟨hp4, [(Str.ofString "b", .int (b : Int)), (Str.ofString "a", .int (a : Int))]⟩ (.ret (.tup [.int ((a / b : Nat) : Int), .int ((a % b : Nat) : Int)])) ⟨hpJ n (aints ds) (aints qs.reverse), locF⟩ := by
    rcases hx with rfl | ⟨x, y, rfl⟩
    · refine ⟨loc56 a b n (a % b) ([] ++ [(Str.ofString "q", .int ((a / b : Nat) : Int))]), ?_⟩
      refine xs_cons (ex_asgName (x := .int (n : Int)) (σ₁ := ⟨hp4, [(Str.ofString "b", .int (b : Int)), (Str.ofString "a", .int (a : Int))]⟩) rfl rfl (ev_callm (x := .int (b : Int)) (gv := .bi .bitlen) (fs := [.int (b : Int)]) (vs := []) (σ₁ := ⟨hp4, [(Str.ofString "b", .int (b : Int)), (Str.ofString "a", .int (a : Int))]⟩) (σ₂ := ⟨hp4, [(Str.ofString "b", .int (b : Int)), (Str.ofString "a", .int (a : Int))]⟩) rfl (ev_name rfl rfl) rfl rfl es_nil (fn_bi fun zz => hbl _)) rfl) ?_
      refine xs_cons (ex_asgName (x := .ref 8) rfl rfl (ev_calln (gv := .fn 42) rfl rfl rfl (es_cons rfl (ev_name rfl rfl) (es_cons rfl (ev_name rfl rfl) es_nil)) k1.mono) rfl) ?_
      refine xs_cons (ex_asgName rfl rfl (ev_const rfl) rfl) ?_
      refine xs_cons (ex_asgName rfl rfl (ev_list rfl es_nil rfl) rfl) ?_
      refine xs_cons (σ₁ := ⟨hpQ n (aints ds) (aints qs), loc56 a b n (a % b) []⟩) (ex_for (x := Str.ofString "a_digit") (b := fb56) (o := []) rfl (st_rev rfl rfl (ev_name rfl rfl) rfl) (fun k hk => ?_)) ?_
      · have := hloop k (by omega)
        rw [← List.length_map (f := fun d : Nat => AV.int (d : Int))] at this
        exact this
      refine xs_cons (ex_expr rfl (ev_callm (gv := .bi .reverse) (fs := [.ref 10]) rfl (ev_name rfl rfl) rfl rfl es_nil (fn_bi hrev))) ?_
      refine xs_cons (ex_asgName rfl rfl (ev_calln (gv := .fn 49) rfl rfl rfl (es_cons rfl (ev_name rfl rfl) (es_cons rfl (ev_name rfl rfl) es_nil)) k2.mono) rfl) ?_
      exact xs_stop (ex_ret rfl (ev_tup rfl (es_cons rfl (ev_name rfl rfl) (es_cons rfl (ev_name rfl rfl) es_nil)) rfl))
    · refine ⟨loc56 a b n (a % b) ([(Str.ofString "a_digit", x), (Str.ofString "q_digit", y)] ++ [(Str.ofString "q", .int ((a / b : Nat) : Int))]), ?_⟩
      refine xs_cons (ex_asgName (x := .int (n : Int)) (σ₁ := ⟨hp4, [(Str.ofString "b", .int (b : Int)), (Str.ofString "a", .int (a : Int))]⟩) rfl rfl (ev_callm (x := .int (b : Int)) (gv := .bi .bitlen) (fs := [.int (b : Int)]) (vs := []) (σ₁ := ⟨hp4, [(Str.ofString "b", .int (b : Int)), (Str.ofString "a", .int (a : Int))]⟩) (σ₂ := ⟨hp4, [(Str.ofString "b", .int (b : Int)), (Str.ofString "a", .int (a : Int))]⟩) rfl (ev_name rfl rfl) rfl rfl es_nil (fn_bi fun zz => hbl _)) rfl) ?_
      refine xs_cons (ex_asgName (x := .ref 8) rfl rfl (ev_calln (gv := .fn 42) rfl rfl rfl (es_cons rfl (ev_name rfl rfl) (es_cons rfl (ev_name rfl rfl) es_nil)) k1.mono) rfl) ?_
      refine xs_cons (ex_asgName rfl rfl (ev_const rfl) rfl) ?_
      refine xs_cons (ex_asgName rfl rfl (ev_list rfl es_nil rfl) rfl) ?_
      refine xs_cons (σ₁ := ⟨hpQ n (aints ds) (aints qs), loc56 a b n (a % b) [(Str.ofString "a_digit", x), (Str.ofString "q_digit", y)]⟩) (ex_for (x := Str.ofString "a_digit") (b := fb56) (o := []) rfl (st_rev rfl rfl (ev_name rfl rfl) rfl) (fun k hk => ?_)) ?_
      · have := hloop k (by omega)
        rw [← List.length_map (f := fun d : Nat => AV.int (d : Int))] at this
        exact this
      refine xs_cons (ex_expr rfl (ev_callm (gv := .bi .reverse) (fs := [.ref 10]) rfl (ev_name rfl rfl) rfl rfl es_nil (fn_bi hrev))) ?_
      refine xs_cons (ex_asgName rfl rfl (ev_calln (gv := .fn 49) rfl rfl rfl (es_cons rfl (ev_name rfl rfl) (es_cons rfl (ev_name rfl rfl) es_nil)) k2.mono) rfl) ?_
      exact xs_stop (ex_ret rfl (ev_tup rfl (es_cons rfl (ev_name rfl rfl) (es_cons rfl (ev_name rfl rfl) es_nil)) rfl))
  revert fin; refine fun h0 => ex1_1 h0 fun locF hfin => ?_; clear h0
  exact fn_plain (rr := r56 F) (bs := [(Str.ofString "a", .int (a : Int)), (Str.ofString "b", .int (b : Int))]) (f := .ret (.tup [.int ((a / b : Nat) : Int), .int ((a % b : Nat) : Int)])) (fun ih => rfl) rfl rfl rfl hfin rfl
end
end Mine
namespace Mine
theorem VR.free {ρ ρ' : List Addr} {h : Heap} {x : AV} {v : Value} (V : VR ρ h x v) (q : scV 0 x = true) : VR ρ' h x v :=
  (V.cut q).mono (by rw [List.take_zero]; exact List.nil_prefix) fun zz zz e zz => e
noncomputable def op (v : AV) (u : Option Value) : AV := match v, u with
  | .ref _, some (.ref a) => .fn a
  | .tup _, some (.ref a) => .fn a
  | v, _ => v
theorem op_in {ρ : List Addr} {h : Heap} {n : Nat} {v : AV} {u : Value} (V : VR ρ h v u) : VR (ρ.take n) h (op v (some u)) u := by
  cases V with
  | ref i a e => exact .fn a
  | tup l vs a m e r => exact .fn a
  | none => exact .none
  | bool b => exact .bool b
  | int i t => exact .int i t
  | str l t => exact .str l t
  | fn a => exact .fn a
  | cls a => exact .cls a
  | bi b => exact (show VR _ _ (AV.bi b) _ from .bi b)
  | rng a b c x t u v e => exact .rng a b c x t u v e
theorem op_out {ρ ρ' : List Addr} {h h' : Heap} {v : AV} {u u' : Value} (k : ∀ a o, h.get? a = some o → Imm o → h'.get? a = some o) (V : VR ρ h v u) (V' : VR ρ' h' (op v (some u)) u') : VR ρ h' v u' := by
  cases V with
  | ref i a e => revert V'; refine vrFn ?_; intro h; subst h; exact .ref i a e
  | tup l vs a m e r => revert V'; refine vrFn ?_; intro h; subst h; exact (VR.tup l vs a m e r).mono (List.prefix_refl _) k
  | none => exact V'.free rfl
  | bool b => exact V'.free rfl
  | int i t => exact V'.free rfl
  | str l t => exact V'.free rfl
  | fn a => exact V'.free rfl
  | cls a => exact V'.free rfl
  | bi b => exact VR.free (x := .bi b) V' rfl
  | rng a b c x t u v e => exact V'.free rfl
theorem lk_opm {f : Str → Option Value} (x : Str) : ∀ l : List (Str × AV), lk x (l.map fun p => (p.1, op p.2 (f p.1))) = (lk x l).map fun v => op v (f x)
  | [] => rfl
  | (y, v) :: r => by
    rw [List.map_cons, lk_cons, lk_cons, lk_opm x r]
    dsimp only
    cases h : W.Fast.sEq x y with
    | true => rw [W.Fast.sEq_iff.mp h]; rfl
    | false => rfl
section
variable {hT : Heap} {ρ ρ4 ρ4' : List Addr} {L : Addr} {σ σ4' : St} {h h' : Heap}
theorem Rel.over (R : Rel hT ρ L σ h) (S : Step [L] ρ4 h ρ4' h') (K : ∀ b o, hT.get? b = some o → h'.get? b = some o) (sub : ∀ a ∈ ρ4, a ∈ ρ) (same : ∀ (i : Nat) (o : AO) (a : Addr), σ.hp[i]? = some o → ρ[i]? = some a → a ∈ ρ4 → OR ρ h' a o)
    {loc : List (Str × AV)} (ns : ∃ f', h'.Ns L f' ∧ LW ρ h' loc f') : Rel hT ρ L ⟨σ.hp, loc⟩ h' ∧ Step [L] ρ h ρ h' := by
  have fm : ∀ b o, h.get? b = some o → b ∉ ρ4 → b ≠ L → h'.get? b = some o := fun b o e n1 n2 => S.fm b o e n1 (by simp only [List.mem_singleton]; exact n2)
  have k : ∀ a o, h.get? a = some o → Imm o → h'.get? a = some o := fun a o e im => fm a o e (fun q => (R.immOff e im).1 (sub a q)) (R.immOff e im).2
  refine ⟨⟨⟨R.inv.len, R.inv.nd, fun i o a e1 e2 => ?_⟩, ns, K, R.off, R.offL, R.above⟩, ⟨List.prefix_refl _, fun b o e n1 n2 => S.fm b o e (fun q => n1 (sub b q)) n2, S.live, fun a b c => absurd b c⟩⟩
  by_cases q : a ∈ ρ4
  · exact same i o a e1 e2 q
  · have x := R.inv.at_ i o a e1 e2
    refine ex1_1 (Option.isSome_iff_exists.mp x.some) fun o' e' => ?_
    exact x.mono (List.prefix_refl _) k ((fm a o' e' q fun z => R.offL (z ▸ List.mem_of_getElem? e2)).trans e'.symm)
theorem Rel.adopt (R : Rel hT ρ L σ h) {D : Addr} {o : AO} (n1 : D ∉ ρ) (n2 : D ≠ L) (n3 : hT.get? D = none) (ho : OR (ρ ++ [D]) h D o) : Rel hT (ρ ++ [D]) L ⟨σ.hp ++ [o], σ.loc⟩ h := by
  refine ex1_2 R.ns fun f F G => ?_
  refine ⟨⟨by simp [R.inv.len], ?_, fun i o' a e1 e2 => ?_⟩, ⟨f, F, G.mono ⟨[D], rfl⟩ fun zz zz e zz => e⟩, R.keep, fun a ha => ?_, fun q => ?_, R.above⟩
  · rw [List.nodup_append]
    exact ⟨R.inv.nd, by simp, fun x hx y hy => by rw [List.mem_singleton.mp hy]; rintro rfl; exact n1 hx⟩
  · rcases get_snoc e1 with q1 | ⟨q1, rfl⟩
    · rcases get_snoc e2 with q2 | ⟨q2, rfl⟩
      · exact (R.inv.at_ i o' a q1 q2).mono ⟨[D], rfl⟩ (fun zz zz e zz => e) rfl
      · have hl := (List.getElem?_eq_some_iff.mp q1).1
        have := R.inv.len
        omega
    · rcases get_snoc e2 with q2 | ⟨_, rfl⟩
      · have hl := (List.getElem?_eq_some_iff.mp q2).1
        have := R.inv.len
        omega
      · exact ho
  · rcases List.mem_append.mp ha with q | q
    · exact R.off a q
    · rw [List.mem_singleton.mp q]; exact n3
  · rcases List.mem_append.mp q with q | q
    · exact R.offL q
    · exact n2 (List.mem_singleton.mp q).symm
end
section
variable {prog : Program} {w : World} {hT : Heap} {A : Around} {L : Addr} {ρ : List Addr} {s : Shared} {σ : St} {n : Nat} {ih : IH}
theorem iso (I : IOk prog w hT n ih) (c : Cx A n) (R : Rel hT ρ L σ s.heap) (ht : σ.hp.take 4 = hp4) {a : Addr} {args : List AV} {vs : List Value} {v : AV} {hp' : List AO} (V : VRs ρ s.heap args vs) (hs : scVs 4 args = true)
    (e : ih.fn (.fn a) args hp4 = some (v, hp')) (e4 : hp'.take 4 = hp4) : codeAny (model prog w) A (.call (.ref a) ⟨vs, []⟩) (RetR (fun u s' => Rel hT ρ L σ s'.heap ∧ Step [L] ρ s.heap ρ s'.heap ∧ Ok s s' ∧
      ∃ ρ4', ρ.take 4 <+: ρ4' ∧ VR ρ4' s'.heap v u ∧ Inv ρ4' hp' s'.heap ∧ (∀ b ∈ ρ4', b ∉ ρ.take 4 → s.heap.get? b = none) ∧ (∀ b ∈ ρ4', hT.get? b = none) ∧ L ∉ ρ4')) s := by
  have sc4 : hp4.all (scO 4) = true := rfl
  have R4 : Rel hT (ρ.take 4) L ⟨hp4, []⟩ s.heap := by
    have := R.cut 4 (loc := []) (by rw [ht]; exact sc4) (fun p hp => by cases hp)
    rwa [ht] at this
  refine ex1_2 R.ns fun f F G => ?_
  have R5 : Rel hT (ρ.take 4) L ⟨hp4, σ.loc.map fun p => (p.1, op p.2 (f p.1))⟩ s.heap := by
    refine ⟨R4.inv, ⟨f, F, fun x v' e' => ?_⟩, R4.keep, R4.off, R4.offL, R4.above⟩
    rw [lk_opm] at e'
    refine ex1_2 (Option.map_eq_some_iff.mp e') fun v hv Z1 => ?_; subst Z1
    refine ex1_2 (G x v hv) fun u hu U => ?_
    exact ⟨u, hu, by rw [hu]; exact op_in U⟩
  refine codeAny_mono (I.fnc c R5 (V.cut hs) e) fun r s' hr => ?_
  rcases r with _ | (u | _ | _ | _) <;> first | exact hr.elim | skip
  revert hr; refine fun h0 => ex1_4 h0 fun ρ4' S R' O U => ?_; clear h0
  have len4 : (ρ.take 4).length = 4 := R5.inv.len
  have tk : ρ4'.take 4 = ρ.take 4 := by
    refine ex1_1 S.pre fun t Z1 => ?_; subst Z1
    rw [List.take_append, len4, List.take_of_length_le (by omega)]
    simp
  have B := R.over S R'.keep (fun b hb => List.mem_of_mem_take hb) (fun i o b e1 e2 hb => ?_) (loc := σ.loc) ?_
  · exact ⟨B.1, B.2, O, ρ4', S.pre, U, R'.inv, S.fresh, R'.off, R'.offL⟩
  · have hi : i < 4 := by
      refine ex1_1 (List.mem_iff_getElem?.mp hb) fun j hj => ?_
      have hj4 : j < 4 := by have := (List.getElem?_eq_some_iff.mp hj).1; omega
      rw [take_get hj4] at hj
      have := (List.getElem?_inj (List.getElem?_eq_some_iff.mp e2).1 R.inv.nd).mp (e2.trans hj.symm)
      omega
    have e3 : hp'[i]? = some o := by rw [← take_get hi, e4, ← ht, take_get hi]; exact e1
    have e5 : ρ4'[i]? = some b := by rw [← take_get hi, tk, take_get hi]; exact e2
    have so : scO 4 o = true := List.all_eq_true.mp sc4 o (by rw [← ht]; exact List.mem_of_getElem? ((take_get hi).trans e1))
    have := (R'.inv.at_ i o b e3 e5).cut so
    rw [tk] at this
    exact this.mono (List.take_prefix _ _) (fun zz zz e zz => e) rfl
  · refine ex1_2 R'.ns fun f' F' G' => ?_
    refine ⟨f', F', fun x v' e' => ?_⟩
    refine ex1_2 (G x v' e') fun u hu U => ?_
    refine ex1_2 (G' x (op v' (some u)) (by rw [lk_opm, e', hu]; rfl)) fun u' hu' U' => ?_
    exact ⟨u', hu', op_out (fun b o e im => S.fm b o e (fun q => (R.immOff e im).1 (List.mem_of_mem_take q)) (by simp only [List.mem_singleton]; exact (R.immOff e im).2)) U U'⟩
end
noncomputable def qa : Str := ⟨#[95, 105, 110, 116, 50, 100, 105, 103, 105, 116, 115, 46, 60, 108, 111, 99, 97, 108, 115, 62, 46, 105, 110, 110, 101, 114]⟩
noncomputable def qb : Str := ⟨#[95, 100, 105, 103, 105, 116, 115, 50, 105, 110, 116, 46, 60, 108, 111, 99, 97, 108, 115, 62, 46, 105, 110, 110, 101, 114]⟩
theorem qa_eq : n42.q = qa := by decide +kernel
theorem qb_eq : n49.q = qb := by decide +kernel
noncomputable def hpL : List AO := [.tab 37 (some qa), .tab 44 (some qb), .tab 175 none, .tab 182 none]
theorem hpL_eq : hp4 = hpL := by unfold hp4 hpL; rw [qa_eq, qb_eq]
noncomputable def isTab (P : Addr) (q : Option Str) : AO → Bool
  | .tab P' q' => Nat.beq P' P && match q', q with
    | none, none => true
    | some a, some b => W.Fast.sEq a b
    | _, _ => false
  | _ => false
theorem isTab_ok {P : Addr} {q : Option Str} {o : AO} (h : isTab P q o = true) : o = .tab P q := by
  unfold isTab at h
  split at h
  · refine ex0_2 (Bool.and_eq_true_iff.mp h) fun h1 h2 => ?_
    rw [Nat.eq_of_beq_eq_true h1]
    split at h2
    · rfl
    · rw [W.Fast.sEq_iff.mp h2]
    · exact ftE h2
  · exact ftE h
noncomputable def tab4 (hp : List AO) : Bool := match hp with
  | a :: b :: c :: d :: _ => isTab 37 (some qa) a && (isTab 44 (some qb) b && (isTab 175 none c && isTab 182 none d))
  | _ => false
theorem tab4_ok {hp : List AO} (h : tab4 hp = true) : hp.take 4 = hp4 := by
  unfold tab4 at h
  split at h
  · refine ex0_2 (Bool.and_eq_true_iff.mp h) fun h1 h => ?_
    refine ex0_2 (Bool.and_eq_true_iff.mp h) fun h2 h => ?_
    refine ex0_2 (Bool.and_eq_true_iff.mp h) fun h3 h4 => ?_
    rw [isTab_ok h1, isTab_ok h2, isTab_ok h3, isTab_ok h4, hpL_eq]
    rfl
  · exact ftE h
noncomputable def bitsN (a : Nat) : Nat := bif Nat.beq a 0 then 0 else Nat.succ (Nat.log2 a)
theorem bitsN_eq (a : Nat) : bitsN a = Builtin.Int.intBits (a : Int) := by
  unfold bitsN Builtin.Int.intBits
  cases h : Nat.beq a 0 with
  | true => rw [Nat.eq_of_beq_eq_true h]; rfl
  | false =>
    have : a ≠ 0 := fun q => by rw [q] at h; exact tfE h
    rw [if_neg (by simpa using this), Int.natAbs_natCast]; rfl
noncomputable def natI : Int → Option Nat
  | .ofNat n => some n
  | .negSucc _ => none
noncomputable def natV (v : AV) : Option Nat := (theI v).bind natI
theorem natV_ok {v : AV} {n : Nat} (e : natV v = some n) : v = .int (.ofNat n) := by
  revert e; refine bindE fun i hi e => ?_
  rw [theI_ok hi]
  cases i with
  | ofNat m => revert e; refine someC fun h => ?_; subst h; rfl
  | negSucc m => exact noneE e
noncomputable def nat2 (args : List AV) : Option (Nat × Nat) := (arg2 args).bind fun p => (natV p.1).bind fun a => (natV p.2).bind fun b => some (a, b)
theorem nat2_ok {args : List AV} {q : Nat × Nat} (e : nat2 args = some q) : args = [.int (.ofNat q.1), .int (.ofNat q.2)] := by
  revert e; refine bindE fun p hp e => ?_
  revert e; refine bindE fun a ha e => ?_
  revert e; refine bindE fun b hb e => ?_
  revert e; refine someC fun e => ?_; subst e
  rcases args with _ | ⟨x, _ | ⟨y, _ | ⟨_, _⟩⟩⟩ <;> first | exact noneE hp | skip
  revert hp; refine someC fun e => ?_; subst e
  rw [← natV_ok ha, ← natV_ok hb]
noncomputable def orc56 (args : List AV) (hp : List AO) : Option (AV × List AO) := (nat2 args).bind fun q => bif tab4 hp && (Nat.blt 0 q.2 && (Nat.blt q.2 (2 ^ 1000) && (Nat.blt q.1 (2 ^ 3000) && Nat.ble ((bitsN q.1 + bitsN q.2 - 1) / bitsN q.2) 64))) then some (.tup [.int (.ofNat (q.1 / q.2)), .int (.ofNat (q.1 % q.2))], hp) else none
noncomputable def orc42 (args : List AV) (hp : List AO) : Option (AV × List AO) := (nat2 args).bind fun q => bif tab4 hp && (Nat.blt 0 q.2 && (Nat.ble q.2 1000 && (Nat.blt q.1 (2 ^ 4000) && Nat.ble ((bitsN q.1 + q.2 - 1) / q.2) 64))) then some (.ref hp.length, hp ++ [.list ((digs (2 ^ q.2) q.1 ((bitsN q.1 + q.2 - 1) / q.2)).map fun d => .int (.ofNat d))]) else none
noncomputable def orc1 (G : Cfg) (ih : IH) (a : Addr) (args : List AV) (hp : List AO) : Option (AV × List AO) := bif Nat.beq a 56 then orc56 args hp else bif Nat.beq a 42 then orc42 args hp else orcB G ih a args hp
noncomputable def ext1 (G : Cfg) : Ext := { extG G with orc := orc1 G }
section
variable {prog : Program} {w : World} {hT : Heap} {F : Addr → FuncData} {Kf : Frag}
theorem orc56_ok (O : CfgOk prog hT (cfg F Kf)) {n : Nat} {A : Around} {L : Addr} {ρ : List Addr} {s : Shared} {σ : St} {args : List AV} {vs : List Value} {v : AV} {hp' : List AO} (hn : 100 ≤ n) (c : Cx A (n + 4)) (R : Rel hT ρ L σ s.heap) (V : VRs ρ s.heap args vs) (h : orc56 args σ.hp = some (v, hp')) :
    codeAny (model prog w) A (.call (.ref 56) ⟨vs, []⟩) (RetR (Post hT L ρ s ⟨hp', σ.loc⟩ (fun ρ' h' u => VR ρ' h' v u))) s := by
  · revert h; refine bindE fun q hq h => ?_
    obtain ⟨a, b⟩ := q
    rw [nat2_ok hq] at V
    revert h; refine condE fun hb h => ?_
    revert h; refine pairC fun h1 h2 => ?_; subst h1; subst h2
    refine ex0_2 (Bool.and_eq_true_iff.mp hb) fun h1 hb => ?_
    refine ex0_2 (Bool.and_eq_true_iff.mp hb) fun h2 hb => ?_
    refine ex0_2 (Bool.and_eq_true_iff.mp hb) fun h3 hb => ?_
    refine ex0_2 (Bool.and_eq_true_iff.mp hb) fun h4 h5 => ?_
    have h5 := Nat.le_of_ble_eq_true h5
    rw [bitsN_eq, bitsN_eq] at h5
    refine ex1_2 (k56 (F := F) (Kf := Kf) (Nat.le_of_ble_eq_true h2) (Nat.le_of_ble_eq_true h3) (Nat.le_of_ble_eq_true h4) h5) fun hp' k e4 => ?_
    have kk := k 100 (Nat.le_refl _)
    unfold run0 at kk
    refine codeAny_mono (iso (runB_ok O 100) (c.le (by omega)) R (tab4_ok h1) V rfl kk e4) fun r s' hr => ?_
    rcases r with _ | (u | _ | _ | _) <;> first | exact hr.elim | skip
    obtain ⟨R', S, O', ρ4', _, U, _⟩ := hr
    exact ⟨ρ, S, R', O', U.free rfl⟩
theorem orc42_ok (O : CfgOk prog hT (cfg F Kf)) {n : Nat} {A : Around} {L : Addr} {ρ : List Addr} {s : Shared} {σ : St} {args : List AV} {vs : List Value} {v : AV} {hp' : List AO} (hn : 100 ≤ n) (c : Cx A (n + 4)) (R : Rel hT ρ L σ s.heap) (V : VRs ρ s.heap args vs) (h : orc42 args σ.hp = some (v, hp')) :
    codeAny (model prog w) A (.call (.ref 42) ⟨vs, []⟩) (RetR (Post hT L ρ s ⟨hp', σ.loc⟩ (fun ρ' h' u => VR ρ' h' v u))) s := by
  · revert h; refine bindE fun q hq h => ?_
    obtain ⟨a, m⟩ := q
    rw [nat2_ok hq] at V
    revert h; refine condE fun hb h => ?_
    revert h; refine pairC fun h1 h2 => ?_; subst h1; subst h2
    refine ex0_2 (Bool.and_eq_true_iff.mp hb) fun h1 hb => ?_
    refine ex0_2 (Bool.and_eq_true_iff.mp hb) fun h2 hb => ?_
    refine ex0_2 (Bool.and_eq_true_iff.mp hb) fun h3 hb => ?_
    refine ex0_2 (Bool.and_eq_true_iff.mp hb) fun h4 h5 => ?_
    have h5 := Nat.le_of_ble_eq_true h5
    rw [bitsN_eq] at h5
    have k := k42 (F := F) (Kf := Kf) (Nat.le_of_ble_eq_true h2) (Nat.le_of_ble_eq_true h3) (Nat.le_of_ble_eq_true h4) h5
    have kk := k 100 (by decide)
    unfold run0 at kk
    refine codeAny_mono (iso (runB_ok O 100) (c.le (by omega)) R (tab4_ok h1) V rfl kk rfl) fun r s' hr => ?_
    rcases r with _ | (u | _ | _ | _) <;> first | exact hr.elim | skip
    obtain ⟨R', S, O', ρ4', pre, U, Iv, fr, off, offL⟩ := hr
    cases U with
    | ref _ D eD =>
      have len4 : (ρ.take 4).length = 4 := by
        have := R.inv.len
        have e := congrArg List.length (tab4_ok h1)
        rw [List.length_take] at e
        rw [List.length_take, this]; exact e
      have hD : D ∈ ρ4' := List.mem_of_getElem? eD
      have nD4 : D ∉ ρ.take 4 := fun q => by
        refine ex1_1 (List.mem_iff_getElem?.mp q) fun j hj => ?_
        have hj4 : j < 4 := by have := (List.getElem?_eq_some_iff.mp hj).1; omega
        have e2 := prefix_get pre hj
        have := (List.getElem?_inj (List.getElem?_eq_some_iff.mp e2).1 Iv.nd).mp (e2.trans eD.symm)
        omega
      have nL := fr D hD nD4
      have nρ : D ∉ ρ := fun q => by have := R.live q; rw [nL] at this; exact ftE this
      have x := Iv.at_ 8 _ D rfl eD
      have x0 := (x.cut (n := 0) (by
        show scVs 0 _ = true
        generalize digs _ _ _ = l
        induction l with
        | nil => rfl
        | cons _ _ ih => exact ih)).mono (ρ' := ρ ++ [D]) (by rw [List.take_zero]; exact List.nil_prefix) (fun zz zz e zz => e) rfl
      have R2 := R'.adopt nρ (fun q => offL (q ▸ hD)) (off D hD) x0
      rw [← bitsN_eq] at R2
      refine ⟨ρ ++ [D], ⟨⟨[D], rfl⟩, S.fm, S.live, fun b hb nb => ?_⟩, R2, O', .ref _ _ (by rw [← R.inv.len]; simp)⟩
      rcases List.mem_append.mp hb with q | q
      · exact absurd q nb
      · rw [List.mem_singleton.mp q]; exact nL
theorem orc1_ok (O : CfgOk prog hT (cfg F Kf)) : OrcOk prog w hT (ext1 (cfg F Kf)) 100 := ⟨fun {n ih A L ρ s σ a args vs v hp'} hn I c R V h => by
  change orc1 (cfg F Kf) ih a args σ.hp = _ at h
  unfold orc1 at h
  cases q : Nat.beq a 56 with
  | true => rw [q] at h; rw [Nat.eq_of_beq_eq_true q]; exact orc56_ok O hn c R V h
  | false =>
    rw [q, cond_false] at h
    cases q2 : Nat.beq a 42 with
    | true => rw [q2] at h; rw [Nat.eq_of_beq_eq_true q2]; exact orc42_ok O hn c R V h
    | false => rw [q2] at h; exact orcB_sound O I c R V h⟩
noncomputable def run1 (F : Addr → FuncData) (Kf : Frag) (k : Nat) : IH := runF (tabG F) (tabC Kf) (ext1 (cfg F Kf)) k
theorem ext1_ok (O : CfgOk prog hT (cfg F Kf)) : ExtOk prog w hT (ext1 (cfg F Kf)) := ⟨(extG_ok O).xt, (extG_ok O).xst, (extG_ok O).mak, (extG_ok O).cl⟩
theorem run1_ok (O : CfgOk prog hT (cfg F Kf)) (k : Nat) : IOk prog w hT (100 + k + 3) (run1 F Kf k) := by
  unfold run1
  exact run_ok O.all (ext1_ok O) (orc1_ok O) k
end
end Mine
namespace Mine
namespace R1
section
variable (F : Addr → FuncData) (Kf : Frag)
noncomputable def EvK (K : Nat) (ae : AE) (e : Expr) (σ : St) (v : AV) (σ' : St) : Prop := ∀ k, K ≤ k → (run1 F Kf k).ev ae e σ = some (v, σ')
noncomputable def TrK (K : Nat) (ae : AE) (e : Expr) (σ : St) (b : Bool) (σ' : St) : Prop := ∀ k, K ≤ k → (run1 F Kf k).tr ae e σ = some (b, σ')
noncomputable def EsK (K : Nat) (ae : AE) (l : List Expr) (σ : St) (vs : List AV) (σ' : St) : Prop := ∀ k, K ≤ k → evsA (run1 F Kf k) ae l σ = some (vs, σ')
noncomputable def XsK (K : Nat) (ae : AE) (l : List Stmt) (σ : St) (f : Fl) (σ' : St) : Prop := ∀ k, K ≤ k → (run1 F Kf k).xs ae l σ = some (f, σ')
noncomputable def ExK (K : Nat) (ae : AE) (st : Stmt) (σ : St) (f : Fl) (σ' : St) : Prop := ∀ k, K ≤ k → exB (tabG F) (tabC Kf) (run1 F Kf k) ((ext1 (cfg F Kf)).xst (run1 F Kf k)) ae st σ = some (f, σ')
noncomputable def FnK (K : Nat) (f : AV) (args : List AV) (hp : List AO) (v : AV) (hp' : List AO) : Prop := ∀ k, K ≤ k → (run1 F Kf k).fn f args hp = some (v, hp')
noncomputable def TvK (K : Nat) (x : AV) (hp : List AO) (b : Bool) : Prop := ∀ k, K ≤ k → (run1 F Kf k).tv x hp = some (b, hp)
end
section
variable {F : Addr → FuncData} {Kf : Frag} {K J : Nat} {ae : AE} {e l r : Expr} {σ σ' σ₁ σ₂ : St} {v x y : AV} {st : Stmt} {f : Fl} {hp hp' : List AO} {args : List AV}
theorem lift1 {P : Nat → Prop} (h : ∀ k, K ≤ k → P (k + 1)) : ∀ k, K + 1 ≤ k → P k := fun k hk => by
  refine ex1_2 (predE hk) fun j Z1 hj => ?_; subst Z1
  exact h j hj
theorem ev_const (h : viewE e = .const v) : EvK F Kf (K + 1) ae e σ v σ := lift1 fun k zz => by
  show evB (tabG F) (tabC Kf) (run1 F Kf k) ((ext1 (cfg F Kf)).xt (run1 F Kf k)) ae e σ = _
  unfold evB; rw [h]; rfl
theorem ev_name {z : Str} (h : viewE e = .name z) (hn : nameA (tabG F) ae z σ = some v) : EvK F Kf (K + 1) ae e σ v σ := lift1 fun k zz => by
  show evB (tabG F) (tabC Kf) (run1 F Kf k) ((ext1 (cfg F Kf)).xt (run1 F Kf k)) ae e σ = _
  unfold evB; rw [h]; dsimp only [evV, evName, evBin, evUsub, evNott, evCmp, evIte, evTup, evList, evSlice, evSub, evAtt, evCalln, evCallm]; rw [hn]; rfl
theorem ev_bin {op : Operator} {u : AV × List AO} (h : viewE e = .bin op l r) (h1 : EvK F Kf K ae l σ x σ₁) (h2 : EvK F Kf K ae r σ₁ y σ₂) (hb : binA op x y σ₂.hp = some u) : EvK F Kf (K + 1) ae e σ u.1 ⟨u.2, σ₂.loc⟩ := lift1 fun k hk => by
  show evB (tabG F) (tabC Kf) (run1 F Kf k) ((ext1 (cfg F Kf)).xt (run1 F Kf k)) ae e σ = _
  unfold evB; rw [h]; dsimp only [evV, evName, evBin, evUsub, evNott, evCmp, evIte, evTup, evList, evSlice, evSub, evAtt, evCalln, evCallm]; rw [h1 k hk, Option.bind_some, h2 k hk, Option.bind_some, hb]; rfl
theorem ev_sub {i o : Expr} (h : viewE e = .sub o i) (h1 : EvK F Kf K ae o σ x σ₁) (h2 : EvK F Kf K ae i σ₁ y σ₂) (hb : sub2A (tabC Kf) x y σ₂.hp = some v) : EvK F Kf (K + 1) ae e σ v σ₂ := lift1 fun k hk => by
  show evB (tabG F) (tabC Kf) (run1 F Kf k) ((ext1 (cfg F Kf)).xt (run1 F Kf k)) ae e σ = _
  unfold evB; rw [h]; dsimp only [evV, evName, evBin, evUsub, evNott, evCmp, evIte, evTup, evList, evSlice, evSub, evAtt, evCalln, evCallm]; rw [h1 k hk, Option.bind_some, h2 k hk, Option.bind_some, hb]; rfl
theorem es_nil : EsK F Kf K ae [] σ [] σ := fun zz zz => rfl
theorem es_cons {es : List Expr} {vs : List AV} (hs : isStar e = false) (h1 : EvK F Kf K ae e σ x σ₁) (h2 : EsK F Kf K ae es σ₁ vs σ₂) : EsK F Kf K ae (e :: es) σ (x :: vs) σ₂ := fun k hk => by
  unfold evsA; rw [hs, cond_false, h1 k hk, Option.bind_some, h2 k hk]; rfl
theorem ev_calln {g : Str} {as : List Expr} {vs : List AV} {gv : AV} (h : viewE e = .calln g as) (hn : nameA (tabG F) ae g σ = some gv) (hk' : keepA (tabG F) (tabC Kf) gv = true) (h1 : EsK F Kf K ae as σ vs σ₁) (h2 : FnK F Kf K gv vs σ₁.hp v hp') : EvK F Kf (K + 1) ae e σ v ⟨hp', σ₁.loc⟩ := lift1 fun k hk => by
  show evB (tabG F) (tabC Kf) (run1 F Kf k) ((ext1 (cfg F Kf)).xt (run1 F Kf k)) ae e σ = _
  unfold evB; rw [h]; dsimp only [evV, evName, evBin, evUsub, evNott, evCmp, evIte, evTup, evList, evSlice, evSub, evAtt, evCalln, evCallm]; rw [hn, Option.bind_some, hk', cond_true, h1 k hk, Option.bind_some, h2 k hk]; rfl
theorem fn_bi {b : BI} (h : ∀ ih, biA (tabC Kf) ih b args hp = some (v, hp')) : FnK F Kf (K + 1) (.bi b) args hp v hp' := lift1 fun k zz => h _
theorem xs_nil : XsK F Kf (K + 1) ae [] σ .next σ := lift1 fun k zz => rfl
theorem xs_cons {b : List Stmt} (h1 : ExK F Kf K ae st σ .next σ₁) (h2 : XsK F Kf (K + 1) ae b σ₁ f σ₂) : XsK F Kf (K + 1) ae (st :: b) σ f σ₂ := lift1 fun k hk => by
  show xsB (exB (tabG F) (tabC Kf) (run1 F Kf k) ((ext1 (cfg F Kf)).xst (run1 F Kf k)) ae) (st :: b) σ = _
  unfold xsB
  rw [h1 k hk, Option.bind_some]
  exact h2 (k + 1) (by omega)
end
end R1
end Mine
namespace Mine
noncomputable def keepN (n : Nat) (loc : List (Str × AV)) (xs : List Str) : Option (List (Str × AV)) :=
  @List.rec Str (fun zz => Option (List (Str × AV))) (some []) (fun x zz ih => (lk x loc).bind fun v => bif scV n v then ih.bind fun r => some ((x, v) :: r) else none) xs
noncomputable def cutS (n : Nat) (xs : List Str) (σ : St) : Option St := bif (σ.hp.take n).all (scO n) then (keepN n σ.loc xs).bind fun l => some ⟨σ.hp.take n, l⟩ else none
theorem keepN_ok {n : Nat} {loc : List (Str × AV)} : ∀ {xs : List Str} {l : List (Str × AV)}, keepN n loc xs = some l → ∀ p ∈ l, lk p.1 loc = some p.2 ∧ scV n p.2 = true
  | [], l, h, p, hp => by revert h; refine someC fun h => ?_; subst h; cases hp
  | x :: xs, l, h, p, hp => by
    change (lk x loc).bind (fun v => bif scV n v then (keepN n loc xs).bind fun r => some ((x, v) :: r) else none) = _ at h
    revert h; refine bindE fun v hv h => ?_
    revert h; refine condE fun hs h => ?_
    revert h; refine bindE fun r hr h => ?_
    revert h; refine someC fun h => ?_; subst h
    rcases List.mem_cons.mp hp with rfl | hp
    · exact ⟨hv, hs⟩
    · exact keepN_ok hr p hp
theorem cutS_sound {hT : Heap} {ρ : List Addr} {L : Addr} {σ σ' : St} {h : Heap} {n : Nat} {xs : List Str} (e : cutS n xs σ = some σ') (R : Rel hT ρ L σ h) : Rel hT (ρ.take n) L σ' h := by
  revert e; refine condE fun h1 e => ?_
  revert e; refine bindE fun l hl e => ?_
  revert e; refine someC fun h => ?_; subst h
  exact R.cut n h1 (keepN_ok hl)
noncomputable def ihC (xs : List Str) (ih : IH) : IH := { ih with
  xs := fun ae l σ => match l with
    | [] => ih.xs ae [] σ
    | st :: l => (ih.xs ae (st :: l) σ).bind fun p => match p.1 with
      | .next => (cutS σ.hp.length xs p.2).bind fun σ' => some (.next, σ')
      | .ret (.bool b) => some (.ret (.bool b), p.2)
      | _ => none }
theorem ihC_ok {prog : Program} {w : World} {hT : Heap} {n : Nat} {ih : IH} {names : List Str} (I : IOk prog w hT n ih) : IOk prog w hT n (ihC names ih) where
  ev := I.ev
  tr := I.tr
  fn := I.fn
  fnc := I.fnc
  tv := I.tv
  xs := fun {A L ρ s σ σ' env ae l f} c R Ev e => by
    cases l with
    | nil => exact I.xs c R Ev e
    | cons st l =>
    revert e; refine bindE fun p hp e => ?_
    obtain ⟨g, σ₁⟩ := p
    refine wpAny_mono (I.xs c R Ev hp) (fun u s' hu => ?_) fun zz zz z => z
    revert hu; refine postE fun ρ' S R' O G => ?_
    cases g with
    | next =>
      revert e; refine bindE fun σ₂ h2 e => ?_
      revert e; refine pairC fun h1 h2 => ?_; subst h1; subst h2
      cases u <;> first | exact G.elim | skip
      exact (Post.mk (S.cut _ (by rw [R.inv.len]; exact Nat.le_refl _)) (cutS_sound h2 R') O trivial)
    | ret v =>
      cases v with
      | bool b => revert e; refine pairC fun h1 h2 => ?_; subst h1; subst h2; exact (Post.mk S R' O G)
      | _ => exact noneE e
    | _ => exact noneE e
mutual
noncomputable def renV (f : Nat → Option Nat) : AV → Option AV
  | .ref i => (f i).bind fun j => some (.ref j)
  | .tup l => (renVs f l).bind fun l => some (.tup l)
  | .none => some .none
  | .bool b => some (.bool b)
  | .int i => some (.int i)
  | .str l => some (.str l)
  | .rng a b c => some (.rng a b c)
  | .fn a => some (.fn a)
  | .cls a => some (.cls a)
  | .bi b => some (.bi b)
noncomputable def renVs (f : Nat → Option Nat) : List AV → Option (List AV)
  | [] => some []
  | x :: r => (renV f x).bind fun y => (renVs f r).bind fun r => some (y :: r)
end
noncomputable def renM (f : Nat → Option Nat) : List (Str × AV) → Option (List (Str × AV))
  | [] => some []
  | p :: r => (renV f p.2).bind fun y => (renM f r).bind fun r => some ((p.1, y) :: r)
noncomputable def renO (f : Nat → Option Nat) : AO → Option AO
  | .list l => (renVs f l).bind fun l => some (.list l)
  | .inst C d none => (f d).bind fun d => some (.inst C d none)
  | .inst C d (some l) => (f d).bind fun d => (renVs f l).bind fun l => some (.inst C d (some l))
  | .dict m => (renM f m).bind fun m => some (.dict m)
  | .cell none => some (.cell none)
  | .cell (some v) => (renV f v).bind fun v => some (.cell (some v))
  | .rit l i => (f l).bind fun l => some (.rit l i)
  | .tab P q => some (.tab P q)
  | .clos _ _ => none
section
variable {ρ ρ' : List Addr} {h : Heap} {f : Nat → Option Nat} (hf : ∀ i j : Nat, f i = Option.some j → ρ'[j]? = ρ[i]?)
include hf
theorem VR.ren {x x' : AV} {v : Value} (V : VR ρ h x v) (e : renV f x = some x') : VR ρ' h x' v := by
  refine VR.rec (motive_1 := fun x v zz => ∀ x', renV f x = some x' → VR ρ' h x' v) (motive_2 := fun l vs zz => ∀ l', renVs f l = some l' → VRs ρ' h l' vs) (fun zz e => ?_) (fun b zz e => ?_) (fun i t zz e => ?_) (fun l t zz e => ?_) (fun i a q x' e => ?_) (fun a zz e => ?_) (fun a zz e => ?_) (fun b zz e => ?_) (fun a b c x t u v q zz e => ?_) (fun l vs a n q zz ih x' e => ?_) (fun zz e => ?_) (fun x v l vs zz zz ia ib l' e => ?_) V x' e
  · revert e; refine someC fun h => ?_; subst h; exact .none
  · revert e; refine someC fun h => ?_; subst h; exact .bool b
  · revert e; refine someC fun h => ?_; subst h; exact .int i t
  · revert e; refine someC fun h => ?_; subst h; exact .str l t
  · revert e
    refine bindE fun j hj e => ?_
    revert e; refine someC fun h => ?_; subst h
    exact .ref j a ((hf i j hj).trans q)
  · revert e; refine someC fun h => ?_; subst h; exact .fn a
  · revert e; refine someC fun h => ?_; subst h; exact .cls a
  · revert e; refine someC fun h => ?_; subst h; exact .bi b
  · revert e; refine someC fun h => ?_; subst h; exact .rng a b c x t u v q
  · revert e
    refine bindE fun l' hl e => ?_
    revert e; refine someC fun h => ?_; subst h
    exact .tup l' vs a n q (ih _ hl)
  · revert e; refine someC fun h => ?_; subst h; exact .nil
  · revert e
    refine bindE fun y hy e => ?_
    revert e
    refine bindE fun l' hl e => ?_
    revert e; refine someC fun h => ?_; subst h
    exact .cons y v l' vs (ia _ hy) (ib _ hl)
theorem VRs.ren {l l' : List AV} {vs : List Value} (V : VRs ρ h l vs) : renVs f l = some l' → VRs ρ' h l' vs := by
  refine fun e => VRs.ind (P := fun l vs => ∀ l', renVs f l = some l' → VRs ρ' h l' vs) (fun zz e => ?_) (fun x v l vs a zz ih l' e => ?_) V l' e
  · revert e; refine someC fun h => ?_; subst h; exact .nil
  · revert e
    refine bindE fun y hy e => ?_
    revert e
    refine bindE fun l' hl e => ?_
    revert e; refine someC fun h => ?_; subst h
    exact .cons y v l' vs (a.ren hf hy) (ih _ hl)
omit hf in
theorem renM_len : ∀ {m m' : List (Str × AV)}, renM f m = some m' → m'.length = m.length
  | [], _, e => by revert e; refine someC fun h => ?_; subst h; rfl
  | p :: r, _, e => by
    unfold renM at e
    revert e; refine bindE fun y hy e => ?_
    revert e; refine bindE fun l' hl e => ?_
    revert e; refine someC fun h => ?_; subst h
    simp [renM_len hl]
omit hf in
theorem renM_lk (x : Str) : ∀ {m m' : List (Str × AV)}, renM f m = some m' → (lk x m = none ∧ lk x m' = none) ∨ ∃ v v', lk x m = some v ∧ lk x m' = some v' ∧ renV f v = some v'
  | [], _, e => by revert e; refine someC fun h => ?_; subst h; exact .inl ⟨rfl, rfl⟩
  | p :: r, _, e => by
    unfold renM at e
    revert e; refine bindE fun y hy e => ?_
    revert e; refine bindE fun l' hl e => ?_
    revert e; refine someC fun h => ?_; subst h
    rw [lk_cons, lk_cons]
    dsimp only
    cases W.Fast.sEq x p.1 with
    | true => exact .inr ⟨_, _, rfl, rfl, hy⟩
    | false => exact renM_lk x hl
theorem OR.ren {a : Addr} {o o' : AO} (O : OR ρ h a o) (e : renO f o = Option.some o') : OR ρ' h a o' := by
  cases o with
  | list l =>
    revert e
    refine bindE fun l' hl e => ?_
    revert e; refine someC fun h => ?_; subst h
    exact ex2_2 O fun vs m x y => ⟨vs, m, x, y.ren hf hl⟩
  | inst C d its =>
    cases its with
    | none =>
      revert e
      refine bindE fun d' hd e => ?_
      revert e; refine someC fun h => ?_; subst h
      exact ex1_2 O fun dx x y => ⟨dx, (hf _ _ hd).trans x, y⟩
    | some l =>
      revert e
      refine bindE fun d' hd e => ?_
      revert e
      refine bindE fun l' hl e => ?_
      revert e; refine someC fun h => ?_; subst h
      exact ex3_3 O fun dx vs m x y z => ⟨dx, vs, m, (hf _ _ hd).trans x, y, z.ren hf hl⟩
  | dict m =>
    revert e
    refine bindE fun m' hm e => ?_
    revert e; refine someC fun h => ?_; subst h
    refine ex2_4 O fun es k x y z u => ⟨es, k, x, y, by rw [renM_len hm]; exact z, fun w => ?_⟩
    rcases renM_lk w hm with ⟨e1, e2⟩ | ⟨v, v', e1, e2, e3⟩
    · exact ⟨fun v q => (by rw [e2] at q; exact noneE q), fun zz => (u w).2 e1⟩
    · refine ⟨fun v₁ q => ?_, fun q => (by rw [e2] at q; exact noneF q)⟩
      rw [e2] at q
      revert q; refine someC fun h => ?_; subst h
      exact ex1_2 ((u w).1 v e1) fun u' e' V => ⟨u', e', V.ren hf e3⟩
  | cell v =>
    cases v with
    | none => revert e; refine someC fun h => ?_; subst h; exact ex1_2 O fun u x y => ⟨u, x, by cases u <;> exact y⟩
    | some v =>
      revert e
      refine bindE fun v' hv e => ?_
      revert e; refine someC fun h => ?_; subst h
      refine ex1_2 O fun u x y => ⟨u, x, ?_⟩
      cases u with
      | none => exact y
      | some u => exact VR.ren hf y hv
  | rit l i =>
    revert e
    refine bindE fun d' hd e => ?_
    revert e; refine someC fun h => ?_; subst h
    exact ex2_2 O fun x o y z => ⟨x, o, (hf _ _ hd).trans y, z⟩
  | tab P q => revert e; refine someC fun h => ?_; subst h; exact O
  | clos r cs => exact noneE e
end
noncomputable def idx (i : Nat) (is : List Nat) : Nat → Option Nat := @List.rec Nat (fun zz => Nat → Option Nat) (fun zz => none) (fun a zz ih k => bif Nat.beq a i then some k else ih (Nat.succ k)) is
theorem idx_ok {i : Nat} : ∀ {is : List Nat} {k j : Nat}, idx i is k = some j → k ≤ j ∧ is[j - k]? = some i
  | [], _, _, h => by exact noneE h
  | a :: is, k, j, h => by
    change (bif Nat.beq a i then some k else idx i is (k + 1)) = _ at h
    cases q : Nat.beq a i with
    | true =>
      rw [q] at h
      revert h; refine someC fun h => ?_; subst h
      rw [Nat.eq_of_beq_eq_true q]
      exact ⟨Nat.le_refl _, by simp⟩
    | false =>
      rw [q] at h
      refine ex0_2 (idx_ok h) fun h1 h2 => ?_
      refine ⟨by omega, ?_⟩
      rw [subS h1, List.getElem?_cons_succ]
      exact h2
noncomputable def selO (hp : List AO) (f : Nat → Option Nat) (is : List Nat) : Option (List AO) := @List.rec Nat (fun zz => Option (List AO)) (some []) (fun i zz ih => (gO hp i).bind fun o => (renO f o).bind fun o' => ih.bind fun r => some (o' :: r)) is
noncomputable def selN (loc : List (Str × AV)) (f : Nat → Option Nat) (xs : List Str) : Option (List (Str × AV)) := @List.rec Str (fun zz => Option (List (Str × AV))) (some []) (fun x zz ih => (lk x loc).bind fun v => (renV f v).bind fun v' => ih.bind fun r => some ((x, v') :: r)) xs
noncomputable def nodN (is : List Nat) : Bool := @List.rec Nat (fun zz => Bool) true (fun a r ih => !(r.any fun b => Nat.beq a b) && ih) is
noncomputable def gcS (is : List Nat) (xs : List Str) (σ : St) : Option St := bif nodN is then (selO σ.hp (fun i => idx i is 0) is).bind fun hp => (selN σ.loc (fun i => idx i is 0) xs).bind fun l => some ⟨hp, l⟩ else none
theorem selO_ok {hp : List AO} {f : Nat → Option Nat} : ∀ {is : List Nat} {l : List AO}, selO hp f is = some l → l.length = is.length ∧ ∀ (j : Nat) (o' : AO), l[j]? = some o' → ∃ (i : Nat) (o : AO), is[j]? = some i ∧ hp[i]? = some o ∧ renO f o = some o'
  | [], _, h => by revert h; refine someC fun h => ?_; subst h; exact ⟨rfl, fun j o' e => by exact noneE e⟩
  | i :: is, l, h => by
    change (gO hp i).bind (fun o => (renO f o).bind fun o' => (selO hp f is).bind fun r => some (o' :: r)) = _ at h
    revert h; refine bindE fun o ho h => ?_
    rw [gO_eq] at ho
    revert h; refine bindE fun o' ho' h => ?_
    revert h; refine bindE fun r hr h => ?_
    revert h; refine someC fun h => ?_; subst h
    refine ex0_2 (selO_ok hr) fun h1 h2 => ?_
    refine ⟨by simp [h1], fun j o'' e => ?_⟩
    cases j with
    | zero => revert e; refine someC fun h => ?_; subst h; exact ⟨i, o, rfl, ho, ho'⟩
    | succ j => exact h2 j o'' e
theorem selN_ok {loc : List (Str × AV)} {f : Nat → Option Nat} : ∀ {xs : List Str} {l : List (Str × AV)}, selN loc f xs = some l → ∀ p ∈ l, ∃ v, lk p.1 loc = some v ∧ renV f v = some p.2
  | [], _, h, p, hp => by revert h; refine someC fun h => ?_; subst h; cases hp
  | x :: xs, l, h, p, hp => by
    change (lk x loc).bind (fun v => (renV f v).bind fun v' => (selN loc f xs).bind fun r => some ((x, v') :: r)) = _ at h
    revert h; refine bindE fun v hv h => ?_
    revert h; refine bindE fun v' hv' h => ?_
    revert h; refine bindE fun r hr h => ?_
    revert h; refine someC fun h => ?_; subst h
    rcases List.mem_cons.mp hp with rfl | hp
    · exact ⟨v, hv, hv'⟩
    · exact selN_ok hr p hp
theorem nodN_ok : ∀ {is : List Nat}, nodN is = true → is.Nodup
  | [], _ => .nil
  | a :: r, h => by
    change (!(r.any fun b => Nat.beq a b) && nodN r) = true at h
    refine ex0_2 (Bool.and_eq_true_iff.mp h) fun h1 h2 => ?_
    refine List.nodup_cons.mpr ⟨fun m => ?_, nodN_ok h2⟩
    rw [List.any_eq_true.mpr ⟨a, m, Nat.beq_refl a⟩] at h1
    exact ftE h1
theorem nodup_map_get {ρ : List Addr} (nd : ρ.Nodup) : ∀ {is : List Nat}, is.Nodup → (∀ i ∈ is, i < ρ.length) → (is.map fun i => (ρ[i]?).getD 0).Nodup
  | [], _, _ => .nil
  | a :: is, n, hl => by
    rw [List.nodup_cons] at n
    rw [List.map_cons, List.nodup_cons]
    refine ⟨fun m => ?_, nodup_map_get nd n.2 fun i hi => hl i (.tail _ hi)⟩
    refine ex1_2 (List.mem_map.mp m) fun b hb e => ?_
    have ha := hl a (.head _)
    have hb' := hl b (.tail _ hb)
    have e2 : ρ[b]? = ρ[a]? := by
      rw [List.getElem?_eq_getElem hb', List.getElem?_eq_getElem ha] at e ⊢
      exact congrArg some e
    have := (List.getElem?_inj hb' nd).mp e2
    exact n.1 (this ▸ hb)
theorem gcS_sound {hT : Heap} {ρ : List Addr} {L : Addr} {σ σ' : St} {h : Heap} {is : List Nat} {xs : List Str} (e : gcS is xs σ = some σ') (R : Rel hT ρ L σ h) : ∃ ρ', Rel hT ρ' L σ' h ∧ ∀ j i : Nat, is[j]? = some i → ρ'[j]? = ρ[i]? := by
  revert e; refine condE fun h1 e => ?_
  revert e; refine bindE fun hp h2 e => ?_
  revert e; refine bindE fun l h3 e => ?_
  revert e; refine someC fun h => ?_; subst h
  refine ex0_2 (selO_ok h2) fun k1 k2 => ?_
  have lt : ∀ j i : Nat, is[j]? = some i → i < ρ.length := fun j i q => by
    refine ex1_1 (List.getElem?_eq_some_iff.mp q) fun hj zz => ?_
    refine ex2_3 (k2 j _ (List.getElem?_eq_getElem (by omega))) fun i' o a b c => ?_
    rw [q] at a
    revert a; refine someC fun h => ?_; subst h
    rw [R.inv.len]
    exact (List.getElem?_eq_some_iff.mp b).1
  have at' : ∀ j i : Nat, is[j]? = some i → (is.map fun i => (ρ[i]?).getD 0)[j]? = ρ[i]? := fun j i q => by
    rw [List.getElem?_map, q]
    have := lt j i q
    show some ((ρ[i]?).getD 0) = _
    rw [List.getElem?_eq_getElem this]
    rfl
  have hf : ∀ i j, idx i is 0 = some j → (is.map fun i => (ρ[i]?).getD 0)[j]? = ρ[i]? := fun i j q => by
    have := (idx_ok q).2
    exact at' j i this
  have sub : ∀ a ∈ is.map (fun i => (ρ[i]?).getD 0), a ∈ ρ := fun a ha => by
    refine ex1_2 (List.mem_map.mp ha) fun i hi Z1 => ?_; subst Z1
    refine ex1_1 (List.mem_iff_getElem?.mp hi) fun j hj => ?_
    have := lt j i hj
    rw [List.getElem?_eq_getElem this]
    exact List.getElem_mem this
  refine ex1_2 R.ns fun f F G => ?_
  refine ⟨is.map fun i => (ρ[i]?).getD 0, ⟨⟨?_, nodup_map_get R.inv.nd (nodN_ok h1) (fun i hi => ?_), fun j o' a e1 e2 => ?_⟩, ⟨f, F, fun x v e => ?_⟩, R.keep, fun a ha => R.off a (sub a ha), fun q => R.offL (sub _ q), R.above⟩, at'⟩
  · rw [List.length_map]; exact k1.symm
  · refine ex1_1 (List.mem_iff_getElem?.mp hi) fun j hj => ?_
    exact lt j i hj
  · refine ex2_3 (k2 j o' e1) fun i o q1 q2 q3 => ?_
    rw [at' j i q1] at e2
    exact (R.inv.at_ i o a q2 e2).ren hf q3
  · rw [lk_eq] at e
    refine ex1_2 (selN_ok h3 _ (PySem.mem_of_lookup e)) fun v' hv hr => ?_
    refine ex1_2 (G x v' hv) fun u hu V => ?_
    exact ⟨u, hu, V.ren hf hr⟩
theorem EnvR.gc {ρ ρ' : List Addr} {L : Addr} {ae : AE} {env : Env} {is : List Nat} (x : EnvR ρ L ae env) (h : ∀ j i : Nat, is[j]? = some i → ρ'[j]? = ρ[i]?) (hc : ∀ y i, lk y ae.cells = some i → is[i]? = some i) : EnvR ρ' L ae env :=
  { x with cells := fun y i e => (by
      refine ex1_2 (x.cells y i e) fun c h1 h2 => ?_
      exact ⟨c, (h i i (hc y i e)).trans h1, h2⟩) }
end Mine
namespace Mine
noncomputable def lb : List Stmt := (dN 19).2.1
noncomputable def tb : List Stmt := match (lb[11]? : Option Stmt) with
  | some (.For _ _ b _ _) => b
  | _ => []
noncomputable def ae307 (F : Addr → FuncData) : AE := ⟨(dN 19).2.2, [(Str.ofString "runs", 4)], some (307, F 307)⟩
noncomputable def xParts : Str := ⟨#[112, 97, 114, 116, 115]⟩
noncomputable def xWhole : Str := ⟨#[119, 104, 111, 108, 101]⟩
noncomputable def xCounts : Str := ⟨#[99, 111, 117, 110, 116, 115]⟩
noncomputable def xPlace : Str := ⟨#[112, 108, 97, 99, 101]⟩
noncomputable def xPage : Str := ⟨#[112, 97, 103, 101]⟩
noncomputable def xDrawn : Str := ⟨#[100, 114, 97, 119, 110]⟩
noncomputable def xTurn : Str := ⟨#[116, 117, 114, 110]⟩
noncomputable def xInit : Str := ⟨#[95, 105, 110, 105, 116, 105, 97, 108, 95, 115, 105, 122, 101]⟩
noncomputable def rowA (l : List Nat) : AO := .list (l.map fun n => .int (.ofNat n))
noncomputable def sp : Nat → List Nat
  | 0 => []
  | n + 1 => 32 :: sp n
noncomputable def pgA (l : List Nat) : List AV := l.map fun n => .tup [.str (sp n), .str [9]]
noncomputable def refsA : Nat → Nat → List AV
  | 0, _ => []
  | n + 1, k => .ref k :: refsA n (k + 1)
noncomputable def hpT (c : Option AV) (D : List AV) (rows : List (List Nat)) (page : List Nat) : List AO :=
  .tab 37 (some qa) :: .tab 44 (some qb) :: .tab 175 none :: .tab 182 none :: .cell c :: .list D :: (rows.map rowA ++ [.list (refsA rows.length 6), .dict [(xInit, .int 0)], .inst 213 (rows.length + 7) (some (pgA page))])
noncomputable def stT (c : Option AV) (D : List AV) (rows : List (List Nat)) (W place : Nat) (page : List Nat) : St := ⟨hpT c D rows page, [(xDrawn, .ref 5), (xCounts, .ref (rows.length + 6)), (xWhole, .int (.ofNat W)), (xPlace, .int (.ofNat place)), (xPage, .ref (rows.length + 8))]⟩
noncomputable def keepT : List Str := [xDrawn, xCounts, xWhole, xPlace, xPage]
noncomputable def turnR (F : Addr → FuncData) (Kf : Frag) (x : Int) (σ : St) : Option (Fl × St) := forceH σ.hp fun hp => (ihC keepT (run1 F Kf 60)).xs (ae307 F) tb ⟨hp, σ.loc ++ [(xTurn, .int x)]⟩
end Mine
namespace Mine
namespace R1
section
variable {F : Addr → FuncData} {Kf : Frag} {K J : Nat} {ae : AE} {e l r : Expr} {σ σ' σ₁ σ₂ σ₃ : St} {v x y z a u : AV} {st : Stmt} {hp' : List AO}
theorem ex_augs {o i : Expr} {op : Operator} (h : viewS st = .augs o i op e) (h1 : EvK F Kf K ae o σ x σ₁) (h2 : EvK F Kf K ae i σ₁ z σ₂) (ha : subA x z σ₂.hp = some a) (h3 : EvK F Kf K ae e σ₂ y σ₃) (hr : inpA op a y = some u) (hs : setItemA x z u σ₃.hp = some hp') : ExK F Kf K ae st σ .next ⟨hp', σ₃.loc⟩ := fun k hk => by
  unfold exB; rw [h]; dsimp only [exV, exExpr, exRet, exIf, exFor, exAsg, exSwap, exAsg3, exAugn, exAugs]; rw [h1 k hk, Option.bind_some]; dsimp only; rw [h2 k hk, Option.bind_some]; dsimp only; rw [ha, Option.bind_some, h3 k hk, Option.bind_some]; dsimp only; rw [hr, Option.bind_some, hs]; rfl
end
end R1
noncomputable def st1 : Stmt := match lb with
  | _ :: s :: _ => s
  | _ => .Pass default
noncomputable def eb : List Stmt := match st1 with
  | .For _ _ b _ _ => b
  | _ => []
noncomputable def xScript : Str := ⟨#[115, 99, 114, 105, 112, 116]⟩
noncomputable def xAt : Str := ⟨#[97, 116]⟩
noncomputable def xX : Str := ⟨#[120]⟩
noncomputable def dz (l : List Int) : List AV := l.map .int
noncomputable def hpZ (l : List Int) : List AO := hpL ++ [.cell none, .list (dz l)]
noncomputable def locE (S : Addr) (i xi : Int) : List (Str × AV) := [(xScript, .fn S), (xDrawn, .ref 5), (xAt, .int i), (xX, .int xi)]
namespace R1
section
variable {F : Addr → FuncData} {Kf : Frag}
theorem fmod6 (i : Nat) : (i : Int).fmod 6 = 0 ∨ (i : Int).fmod 6 = 1 ∨ (i : Int).fmod 6 = 2 ∨ (i : Int).fmod 6 = 3 ∨ (i : Int).fmod 6 = 4 ∨ (i : Int).fmod 6 = 5 := by
  rw [Int.fmod_eq_emod_of_nonneg _ (by decide)]
  exact lt6 (P := fun n => ((n : Nat) : Int) = 0 ∨ ((n : Nat) : Int) = 1 ∨ ((n : Nat) : Int) = 2 ∨ ((n : Nat) : Int) = 3 ∨ ((n : Nat) : Int) = 4 ∨ ((n : Nat) : Int) = 5) (.inl rfl) (.inr (.inl rfl)) (.inr (.inr (.inl rfl))) (.inr (.inr (.inr (.inl rfl)))) (.inr (.inr (.inr (.inr (.inl rfl))))) (.inr (.inr (.inr (.inr (.inr rfl))))) (i % 6) (Nat.mod_lt _ (by decide))
theorem body1 (S : Addr) (i : Nat) (xi : Int) (z0 z1 z2 z3 z4 z5 : Int) : ∃ y0 y1 y2 y3 y4 y5, XsK F Kf 10 (ae307 F) eb ⟨hpZ [z0, z1, z2, z3, z4, z5], locE S i xi⟩ .next ⟨hpZ [y0, y1, y2, y3, y4, y5], locE S i xi⟩ := by
  have hval : ∀ σ : St, σ = ⟨hpZ [z0, z1, z2, z3, z4, z5], locE S i xi⟩ → ∀ j : Int, (i : Int).fmod 6 = j → ∀ (zj : Int) (hp' : List AO), subA (.ref 5) (.int j) σ.hp = some (.int zj) → setItemA (.ref 5) (.int j) (.int (zj + xi.fmod 1000000)) σ.hp = some hp' →
      XsK F Kf 10 (ae307 F) eb σ .next ⟨hp', locE S i xi⟩ := fun σ hσ j hj zj hp' h1 h2 => by
    subst hσ
    refine xs_cons (ex_augs (x := .ref 5) (z := .int j) (a := .int zj) (y := .int (xi.fmod 1000000)) (u := .int (zj + xi.fmod 1000000)) (σ₁ := ⟨hpZ [z0, z1, z2, z3, z4, z5], locE S i xi⟩) (σ₂ := ⟨hpZ [z0, z1, z2, z3, z4, z5], locE S i xi⟩) (σ₃ := ⟨hpZ [z0, z1, z2, z3, z4, z5], locE S i xi⟩) rfl (ev_name rfl rfl) ?_ h1 ?_ rfl h2) xs_nil
    · rw [← hj]
      exact ev_bin (u := (.int ((i : Int).fmod 6), hpZ [z0, z1, z2, z3, z4, z5])) rfl (ev_name rfl rfl) (ev_const rfl) rfl
    · exact ev_bin (u := (.int (xi.fmod 1000000), hpZ [z0, z1, z2, z3, z4, z5])) rfl (ev_name rfl rfl) (ev_bin (u := (.int 1000000, hpZ [z0, z1, z2, z3, z4, z5])) rfl (ev_const rfl) (ev_const rfl) (by kernel_rfl)) rfl
  rcases fmod6 i with h | h | h | h | h | h
  · exact ⟨_, _, _, _, _, _, hval _ rfl _ h _ (hpZ [z0 + xi.fmod 1000000, z1, z2, z3, z4, z5]) rfl rfl⟩
  · exact ⟨_, _, _, _, _, _, hval _ rfl _ h _ (hpZ [z0, z1 + xi.fmod 1000000, z2, z3, z4, z5]) rfl rfl⟩
  · exact ⟨_, _, _, _, _, _, hval _ rfl _ h _ (hpZ [z0, z1, z2 + xi.fmod 1000000, z3, z4, z5]) rfl rfl⟩
  · exact ⟨_, _, _, _, _, _, hval _ rfl _ h _ (hpZ [z0, z1, z2, z3 + xi.fmod 1000000, z4, z5]) rfl rfl⟩
  · exact ⟨_, _, _, _, _, _, hval _ rfl _ h _ (hpZ [z0, z1, z2, z3, z4 + xi.fmod 1000000, z5]) rfl rfl⟩
  · exact ⟨_, _, _, _, _, _, hval _ rfl _ h _ (hpZ [z0, z1, z2, z3, z4, z5 + xi.fmod 1000000]) rfl rfl⟩
end
end R1
end Mine
namespace Mine
section
variable {prog : Program} {w : World} {hT : Heap} {A : Around} {L : Addr} {ρ : List Addr} {s : Shared} {σ σ' : St} {env : Env} {n : Nat} {h h' : Heap} {e it : Addr}
theorem Rel.other2 (R : Rel hT ρ L σ h) (O : Off hT ρ L h e) (O' : Off hT ρ L h it) (k : ∀ b o, h.get? b = some o → b ≠ e → b ≠ it → h'.get? b = some o) : Rel hT ρ L σ h' := by
  have tk : ∀ b o, h.get? b = some o → Imm o → h'.get? b = some o := fun b o e im => k b o e (fun q => O.im o (q ▸ e) im) fun q => O'.im o (q ▸ e) im
  refine ex1_2 R.ns fun f F G => ?_
  refine ⟨⟨R.inv.len, R.inv.nd, fun i o b e1 e2 => ?_⟩, ⟨f, ?_, G.mono (List.prefix_refl _) tk⟩, fun b o e => k b o (R.keep b o e) (fun q => by rw [q, O.T] at e; exact noneE e) (fun q => by rw [q, O'.T] at e; exact noneE e), R.off, R.offL, R.above⟩
  · have x := R.inv.at_ i o b e1 e2
    refine ex1_1 (Option.isSome_iff_exists.mp x.some) fun o' e' => ?_
    exact x.mono (List.prefix_refl _) tk ((k b o' e' (fun q => O.ρ (q ▸ List.mem_of_getElem? e2)) (fun q => O'.ρ (q ▸ List.mem_of_getElem? e2))).trans e'.symm)
  · revert F; refine fun h0 => ex3_2 h0 fun oL es ep a1 r => ?_; clear h0
    exact ⟨oL, es, ep, k _ _ a1 (fun q => O.L q.symm) (fun q => O'.L q.symm), r⟩
theorem prefix_same {ρ ρ' : List Addr} (p : ρ <+: ρ') (l : ρ'.length = ρ.length) : ρ' = ρ := (List.IsPrefix.eq_of_length p l.symm).symm
theorem off_fresh (R : Rel hT ρ L σ h) {o : Obj} (n : h.get? e = none) (g : h'.get? e = some o) (im : ¬ Imm o) : Off hT ρ L h' e := by
  refine ⟨fun q => ?_, fun q => ?_, ?_, fun o' e' => ?_, by rw [g]; rfl⟩
  · have := R.live q; rw [n] at this; exact ftE this
  · have := R.liveL; rw [← q, n] at this; exact ftE this
  · cases z : hT.get? e with
    | none => rfl
    | some o' => have := R.keep _ _ z; rw [n] at this; exact noneE this
  · rw [g] at e'; revert e'; refine someC fun h => ?_; subst h; exact im
theorem enum_notImm {h : Heap} {i : Int} {old : Value} {o : Obj} (g : IsEnum h e it i old) (q : h.get? e = some o) : ¬ Imm o := by
  cases g.symm.trans q
  exact notImmB rfl rfl
theorem lit_notImm {h : Heap} {l : Addr} {i : Nat} {o : Obj} (g : h.IsListIter it l i) (q : h.get? it = some o) : ¬ Imm o := by
  revert g; refine fun h0 => ex1_3 h0 fun o' h1 h2 h3 => ?_; clear h0
  cases h1.symm.trans q
  exact notImmC h2 h3 rfl rfl
end
section
variable {prog : Program} {w : World} {hT : Heap} {A : Around} {L : Addr} {ρ : List Addr} {s : Shared} {env : Env} {n : Nat} {F : Addr → FuncData} {Kf : Frag} {k : Nat}
structure EJ (hT : Heap) (ρ : List Addr) (L : Addr) (s₀ : Shared) (vals : List Value) (S e it : Addr) (j : Nat) (s : Shared) : Prop where
  st : ∃ (i : Nat) (old : Value) (z0 z1 z2 z3 z4 z5 : Int) (loc : List (Str × AV)), i + j = vals.length ∧ IsEnum s.heap e it i old ∧ s.heap.IsListIter it S i ∧ Rel hT ρ L ⟨hpZ [z0, z1, z2, z3, z4, z5], loc⟩ s.heap ∧ (loc = [(xScript, .fn S), (xDrawn, .ref 5)] ∨ ∃ y xi, loc = locE S y xi)
  ok : Ok s₀ s
  oe : Off hT ρ L s.heap e
  oi : Off hT ρ L s.heap it
theorem enumTurns (O : AllOk (tabG F) (tabC Kf) hT) (I : IOk prog w hT n (run1 F Kf k)) (hk : 10 ≤ k) (c : Cx A n) {S e it : Addr} {vals : List Value} (hS : hT.IsList S vals.toArray) (hi : ∀ v ∈ vals, ∃ i t, v = .int i t) (hne : e ≠ it)
    (Ev : EnvR ρ L (ae307 F) env) {pa px pt' : Pos} {ka : Nat} {Rz : Result → Shared → Prop} (hlen : ρ.length = 6) (s₀ : Shared)
    (hQ : ∀ s' y0 y1 y2 y3 y4 y5, Rel hT ρ L ⟨hpZ [y0, y1, y2, y3, y4, y5], [(xDrawn, .ref 5)]⟩ s'.heap → Ok s₀ s' → Rz (.ok .next) s') {j : Nat} (J : EJ hT ρ L s₀ vals S e it j s) : codeAny (model prog w) A (.forLoop (.Tuple [.Name xAt pa, .Name xX px] ka pt') (.ref e) eb [] env) Rz s := by
  refine codeAny_forLoop_any (fun j s => EJ hT ρ L s₀ vals S e it j s) ?_ j J
  clear J
  rintro j s ⟨⟨i, old, z0, z1, z2, z3, z4, z5, loc, hij, he, hit, R, hloc⟩, Ok0, oe, oi⟩
  have hl : s.heap.IsList S vals.toArray := let ⟨o, q1, q2⟩ := hS; ⟨o, R.keep _ _ q1, q2⟩
  have len6 : ∀ {ρ' : List Addr} {loc : List (Str × AV)} {h : Heap} {y0 y1 y2 y3 y4 y5 : Int}, ρ <+: ρ' → Rel hT ρ' L ⟨hpZ [y0, y1, y2, y3, y4, y5], loc⟩ h → ρ' = ρ := fun p R' => prefix_same p (R'.inv.len.trans hlen.symm)
  have drop : ∀ {loc : List (Str × AV)} {h : Heap} {y0 y1 y2 y3 y4 y5 : Int}, (loc = [(xScript, .fn S), (xDrawn, .ref 5)] ∨ ∃ y xi, loc = locE S y xi) → Rel hT ρ L ⟨hpZ [y0, y1, y2, y3, y4, y5], loc⟩ h → Rel hT ρ L ⟨hpZ [y0, y1, y2, y3, y4, y5], [(xDrawn, .ref 5)]⟩ h := fun hl R' => R'.names (fun p hp => by
    rw [List.mem_singleton.mp hp]
    rcases hl with rfl | ⟨y, xi, rfl⟩ <;> rfl)
  cases hx : vals[i]? with
  | none =>
    refine wpAny_pyNext_enum_end c.hd he hit hl (by simpa using hx) fun h' hx' => ?_
    have R' : Rel hT ρ L ⟨hpZ [z0, z1, z2, z3, z4, z5], loc⟩ h' := R.other oi fun b o e n => hx' b o n e
    exact wpAny_of_eq (execs_nil env) (hQ { s with heap := h' } z0 z1 z2 z3 z4 z5 (drop hloc R') (Ok0.trans ⟨rfl, id⟩))
  | some x =>
    refine ex2_1 (hi x (List.mem_of_getElem? hx)) fun xi t Z1 => ?_; subst Z1
    have hlt : i < vals.length := (List.getElem?_eq_some_iff.mp hx).1
    refine wpAny_pyNext_enum_item he hit hl (by simpa using hx) hne fun h₁ h1 h2 h3 h4 h5 => ?_
    refine wpAny_letOwnedTupleGo_enum h1 fun h₂ g1 g2 => ?_
    have k2 : ∀ b o, s.heap.get? b = some o → b ≠ e → b ≠ it → h₂.get? b = some o := fun b o q n1 n2 => (g2.2 b n1).trans (h5 b o n1 n2 q)
    have R₂ := R.other2 oe oi k2
    have hsz : s.heap.objs.size ≠ e := fun q => by have := lt_of_live oe.lv; rw [← q] at this; exact Nat.lt_irrefl _ this
    have ht2 : h₂.get? s.heap.objs.size = some (tupOf [.int i s.toks, .int xi t] 0) := (g2.2 _ hsz).trans h3
    have hit2 : h₂.IsListIter it S (i + 1) := by
      revert h2; refine fun h0 => ex1_3 h0 fun o' q1 q2 q3 => ?_; clear h0
      exact ⟨o', (g2.2 _ hne.symm).trans q1, q2, q3⟩
    refine ex1_2 (id hit2) fun oi2 q1 q2 => ?_
    have oe₂ : Off hT ρ L h₂ e := oe.other g1 (enum_notImm g1 g1)
    have oi₂ : Off hT ρ L h₂ it := oi.other q1 (lit_notImm hit2 q1)
    have V : VR ρ h₂ (.tup [.int (i : Int), .int xi]) (.ref s.heap.objs.size) := .tup _ _ _ 0 ht2 (.cons _ _ _ _ (.int _ _) (.cons _ _ _ _ (.int _ _) .nil))
    have hst : ∃ loc', asgB (tabC Kf) (run1 F Kf k) (ae307 F) (.Tuple [.Name xAt pa, .Name xX px] ka pt') (.tup [.int (i : Int), .int xi]) ⟨hpZ [z0, z1, z2, z3, z4, z5], loc⟩ = some ⟨hpZ [z0, z1, z2, z3, z4, z5], loc'⟩ ∧ loc' = locE S i xi := by
      rcases hloc with rfl | ⟨y, xj, rfl⟩ <;> exact ⟨_, rfl, rfl⟩
    revert hst; refine fun h0 => ex1_2 h0 fun zz ha Z1 => ?_; clear h0; subst Z1
    have A1 := asgB_sound (s := { s with heap := h₂, toks := s.toks + 1 }) O I c R₂ Ev V ha
    refine wpAny_mono A1 (fun zz s₃ hp => ?_) fun zz zz z => z.elim
    revert hp; refine fun h0 => ex1_4 h0 fun ρ₃ S₃ R₃ O₃ zz => ?_; clear h0
    have e3 := len6 S₃.pre R₃
    subst e3
    refine ex6_1 (R1.body1 (F := F) (Kf := Kf) S i xi z0 z1 z2 z3 z4 z5) fun y0 y1 y2 y3 y4 y5 B => ?_
    refine wpAny_mono (I.xs c R₃ Ev (B k hk)) (fun g s₄ hp => ?_) fun zz zz z => z.elim
    revert hp; refine postE fun ρ₄ S₄ R₄ O₄ G => ?_
    have e4 := len6 S₄.pre R₄
    subst e4
    cases g <;> first | exact G.elim | skip
    refine ⟨j - 1, by omega, ⟨i + 1, .int xi t, y0, y1, y2, y3, y4, y5, _, by omega, ?_, ?_, R₄, .inr ⟨_, _, rfl⟩⟩, ((Ok0.trans (Ok.heap s h₂ (s.toks + 1))).trans O₃).trans O₄, (oe₂.step S₃).step S₄, (oi₂.step S₃).step S₄⟩
    · exact (oe₂.step S₃).kept S₄ (oe₂.kept S₃ g1)
    · exact ⟨oi2, (oi₂.step S₃).kept S₄ (oi₂.kept S₃ q1), q2⟩
theorem enumLoop (O : AllOk (tabG F) (tabC Kf) hT) (I : IOk prog w hT n (run1 F Kf k)) (hk : 10 ≤ k) (c : Cx A n) (hE : GlobIs hT (Str.ofString "enumerate") (.type "enumerate")) {S : Addr} {vals : List Value} (hS : hT.IsList S vals.toArray) (hi : ∀ v ∈ vals, ∃ i t, v = .int i t)
    {z0 z1 z2 z3 z4 z5 : Int} (R : Rel hT ρ L ⟨hpZ [z0, z1, z2, z3, z4, z5], [(xScript, .fn S), (xDrawn, .ref 5)]⟩ s.heap) (Ev : EnvR ρ L (ae307 F) env) {Q : Flow → Shared → Prop}
    (hQ : ∀ s' y0 y1 y2 y3 y4 y5, Rel hT ρ L ⟨hpZ [y0, y1, y2, y3, y4, y5], [(xDrawn, .ref 5)]⟩ s'.heap → Ok s s' → Q .next s') : wpAny (model prog w) A (exec st1 env) Q No s := by
  obtain ⟨pa, px, ka, pt', fp, ps, cp, pos, hst⟩ : ∃ pa px ka pt' fp ps cp pos, st1 = .For (.Tuple [.Name xAt pa, .Name xX px] ka pt') (.Call (.Name (Str.ofString "enumerate") fp) [.Name xScript ps] [] cp) eb [] pos := ⟨_, _, _, _, _, _, _, _, rfl⟩
  rw [hst]
  refine wpAny_For ?_
  have hlen : ρ.length = 6 := R.inv.len
  refine wpAny_Call_Name_kw (wpAny_Name ?_ (by decide +kernel))
  have hkd : env.scope.kind = .function := by rw [Ev.sc]; exact Ev.kind
  have hkn : env.kindOf (Str.ofString "enumerate") = some .globalImplicit := (Ev.kindOf _).trans (by kernel_rfl)
  revert hE; refine fun h0 => ex2_3 h0 fun mg mb hg hb q => ?_; clear h0
  have tail : wpAny (model prog w) A (callWith cp (.type "enumerate") [] (backTo cp (starEach [.Name xScript ps] env)) []) (fun x s₁ => wpAny (model prog w) A (pyIter x) (fun it s₂ =>
      codeAny (model prog w) A (.forLoop (.Tuple [.Name xAt pa, .Name xX px] ka pt') it eb [] env) (fun r s' => match r with | .ok f => Q f s' | .error e => cameBackBy (model prog w) A env No e s') s₂) No s₁) No s := by
    refine callWith_of (P := fun zz => True) (by rw [noStar (es := [.Name xScript ps]) rfl]; rfl) (fun h P => ⟨.machine, .inr (.inl rfl), Looks.now⟩) ?_
    rw [starEach_cons rfl]
    refine evalArgs_plain ?_
    refine spliced_cons ?_
    have ev : (run1 F Kf k).ev (ae307 F) (.Name xScript ps) ⟨hpZ [z0, z1, z2, z3, z4, z5], [(xScript, .fn S), (xDrawn, .ref 5)]⟩ = some (.fn S, ⟨hpZ [z0, z1, z2, z3, z4, z5], [(xScript, .fn S), (xDrawn, .ref 5)]⟩) := (R1.ev_name (K := 0) rfl rfl : R1.EvK F Kf 1 _ _ _ _ _) k (by omega)
    refine (I.ev c R Ev ev).nx fun ρ₂ s₂ b S₂ R₂ O₂ p₂ => ?_
    have e2 := prefix_same S₂.pre (R₂.inv.len.trans hlen.symm)
    subst e2
    revert p₂; refine vrFn ?_; intro h; subst h
    refine spliced_nil ⟨trivial, ?_⟩
    show wpAny (model prog w) A (call (.type "enumerate") [.ref S]) _ _ _
    refine call_enumerate_list (let ⟨o, q1, q2⟩ := hS; ⟨o, R₂.keep _ _ q1, q2⟩) fun h' g1 g2 g3 g4 => ?_
    refine wpAny_pyIter_enum g1 ?_
    refine ex1_2 R₂.ns fun f Fn G => ?_
    have R₃ : Rel hT ρ₂ L ⟨hpZ [z0, z1, z2, z3, z4, z5], [(xScript, .fn S), (xDrawn, .ref 5)]⟩ h' := R₂.grow (fun b o e zz => g4 b o e) ⟨f, Fn.keeps g4, G⟩
    have n1 : s₂.heap.get? (s₂.heap.objs.size + 1) = none := by
      cases e : s₂.heap.get? (s₂.heap.objs.size + 1) with
      | none => rfl
      | some o => exact absurd (Nat.lt_trans (Nat.lt_succ_self _) (Heap.lt_size e)) (Nat.lt_irrefl _)
    refine ex1_2 (id g2) fun oi q1 q2 => ?_
    refine enumTurns O I hk c hS hi (Nat.succ_ne_self _) Ev hlen s (fun s' y0 y1 y2 y3 y4 y5 R' O' => hQ s' y0 y1 y2 y3 y4 y5 R' O') (j := vals.length) (s := { s₂ with heap := h' }) ⟨⟨0, _, z0, z1, z2, z3, z4, z5, _, by omega, g1, g2, R₃, .inl rfl⟩, O₂.trans ⟨rfl, id⟩, off_fresh R₂ n1 g1 (enum_notImm g1 g1), off_fresh R₂ get_size q1 (lit_notImm g2 q1)⟩
  have main : wpAny (model prog w) A (loadGlobal env (Str.ofString "enumerate")) (fun v s₁ => wpAny (model prog w) A (callWith cp v [] (backTo cp (starEach [.Name xScript ps] env)) []) (fun x s₁ => wpAny (model prog w) A (pyIter x) (fun it s₂ =>
      codeAny (model prog w) A (.forLoop (.Tuple [.Name xAt pa, .Name xX px] ka pt') it eb [] env) (fun r s' => match r with | .ok f => Q f s' | .error e => cameBackBy (model prog w) A env No e s') s₂) No s₁) No s₁) No s := by
    rcases q with q | ⟨q1, q2⟩
    · exact loadGlobal_global (Ev.gl ▸ hg.keeps R.keep) q tail
    · exact loadGlobal_builtin (Ev.gl ▸ hg.keeps R.keep) q1 (Ev.bl ▸ hb.keeps R.keep) q2 tail
  unfold loadName
  simp only [Env.blockKind, hkd, hkn, ScopeKind.isAnnotationScope, Bool.false_and, Bool.false_eq_true, if_false]
  exact main
end
end Mine
namespace Mine
noncomputable def lb0 : List Stmt := lb.take 1
noncomputable def lb2 : List Stmt := (lb.drop 2).take 1
noncomputable def lb3 : List Stmt := (lb.drop 3).take 2
noncomputable def lb5 : List Stmt := (lb.drop 5).take 1
noncomputable def lb6 : List Stmt := (lb.drop 6).take 5
noncomputable def lb11 : List Stmt := (lb.drop 11).take 1
noncomputable def lb12 : List Stmt := lb.drop 12
theorem lb_eq : lb = lb0 ++ (st1 :: (lb2 ++ (lb3 ++ (lb5 ++ (lb6 ++ (lb11 ++ lb12)))))) := by kernel_rfl
noncomputable def nints (l : List Nat) : List AV := l.map fun n => .int (.ofNat n)
noncomputable abbrev six (z0 z1 z2 z3 z4 z5 : Int) : List AV := [.int z0, .int z1, .int z2, .int z3, .int z4, .int z5]
noncomputable def oddRefs : Nat → Nat → List AV
  | 0, _ => []
  | n + 1, k => .ref k :: oddRefs n (k + 2)
noncomputable def pairs : List (List Nat) → List AO
  | [] => []
  | r :: l => rowA r.reverse :: rowA r :: pairs l
noncomputable def gC (W : Nat) (rows : List (List Nat)) : List AO := match rows with
  | [] => []
  | r :: l => rowA [1] :: rowA [0] :: rowA (List.replicate W 0) :: rowA r :: .list (.ref 10 :: oddRefs l.length 13) :: pairs l
section
variable (z0 z1 z2 z3 z4 z5 : Int)
noncomputable def hpX (z0 z1 z2 z3 z4 z5 : Int) (l : List AV) : List AO := hpL ++ [.cell none, .list (six z0 z1 z2 z3 z4 z5), .list l]
noncomputable def stA (r0 r1 r2 r3 : Int) : St := ⟨hpX z0 z1 z2 z3 z4 z5 [.int (r0 + 1), .int r1, .int r2, .int r3], [(xDrawn, .ref 5), (xParts, .ref 6)]⟩
noncomputable def stB (W : Nat) (P : List Nat) : St := ⟨hpX z0 z1 z2 z3 z4 z5 (nints P), [(xDrawn, .ref 5), (xParts, .ref 6), (xWhole, .int (.ofNat W))]⟩
noncomputable def stC (W : Nat) (P : List Nat) (rows : List (List Nat)) : St := ⟨hpX z0 z1 z2 z3 z4 z5 (nints P) ++ gC W rows, [(xDrawn, .ref 5), (xParts, .ref 6), (xWhole, .int (.ofNat W)), (xCounts, .ref 11)]⟩
end
noncomputable def gcA (p : Option (Fl × St)) : Option St := match p with
  | some (.next, σ) => match lk xParts σ.loc with
    | some (.ref i) => gcS [0, 1, 2, 3, 4, 5, i] [xDrawn, xParts, xWhole] σ
    | _ => none
  | _ => none
noncomputable def oddIdx : Nat → Nat → List Nat
  | 0, _ => []
  | n + 1, k => k :: oddIdx n (k + 2)
noncomputable def gcT (m : Nat) (p : Option (Fl × St)) : Option St := match p with
  | some (.next, σ) => match lk xPage σ.loc with
    | some (.ref i) => match σ.hp[i]? with
      | some (.inst _ d _) => gcS (0 :: 1 :: 2 :: 3 :: 4 :: 5 :: 10 :: (oddIdx m 13 ++ [11, d, i])) keepT σ
      | _ => none
    | _ => none
  | _ => none
noncomputable def TblA (F : Addr → FuncData) (Kf : Frag) (r0 r1 r2 r3 : Int) (W : Nat) (P : List Nat) : Prop := ∀ z0 z1 z2 z3 z4 z5 : Int, gcA ((run1 F Kf 60).xs (ae307 F) lb3 (stA z0 z1 z2 z3 z4 z5 r0 r1 r2 r3)) = some (stB z0 z1 z2 z3 z4 z5 W P)
noncomputable def TblB (F : Addr → FuncData) (Kf : Frag) (W m : Nat) (r : Int) (rows : List (List Nat)) : Prop := ∀ x y z : AO, (run1 F Kf 58).fn (.fn 290) [.int (.ofNat W), .int (.ofNat m), .int (r + 8)] (hpL ++ [x, y, z]) = some (.ref 11, hpL ++ [x, y, z] ++ gC W rows)
noncomputable def TblC (F : Addr → FuncData) (Kf : Frag) (W : Nat) (P : List Nat) (r : List Nat) (rows : List (List Nat)) (place : Nat) : Prop := ∀ z0 z1 z2 z3 z4 z5 : Int, gcT rows.length ((run1 F Kf 60).xs (ae307 F) lb6 (stC z0 z1 z2 z3 z4 z5 W P (r :: rows))) = some (stT none (six z0 z1 z2 z3 z4 z5) (r :: rows) W place P)
noncomputable def TblD (F : Addr → FuncData) (Kf : Frag) (W : Nat) (rows : List (List Nat)) (place : Nat) (P : List Nat) (place' : Nat) (P' : List Nat) : Prop := ∀ (x z0 z1 z2 z3 z4 z5 : Int) (c : Option AV), ∃ c', turnR F Kf x (stT c (six z0 z1 z2 z3 z4 z5) rows W place P) = some (.next, stT c' (six z0 z1 z2 z3 z4 z5) rows W place' P')
noncomputable def TblE (F : Addr → FuncData) (Kf : Frag) (W : Nat) (rows : List (List Nat)) (place : Nat) (P : List Nat) : Prop := ∀ (x z0 z1 z2 z3 z4 z5 : Int) (c : Option AV), Option.map (fun p : Fl × St => (p.1, p.2.hp.take 4)) (turnR F Kf x (stT c (six z0 z1 z2 z3 z4 z5) rows W place P)) = some (.ret (.bool true), hpL)
noncomputable def fA (F : Addr → FuncData) (Kf : Frag) (r0 r1 r2 r3 : Int) : Int → Int → Int → Int → Int → Int → Option St := fun z0 z1 z2 z3 z4 z5 => gcA ((run1 F Kf 60).xs (ae307 F) lb3 (stA z0 z1 z2 z3 z4 z5 r0 r1 r2 r3))
noncomputable def gA (W : Nat) (P : List Nat) : Int → Int → Int → Int → Int → Int → Option St := fun z0 z1 z2 z3 z4 z5 => some (stB z0 z1 z2 z3 z4 z5 W P)
theorem fun6 {α β : Type} {f g : α → α → α → α → α → α → β} (h : f = g) (a b c d e x : α) : f a b c d e x = g a b c d e x := by rw [h]
theorem TblA.of {F : Addr → FuncData} {Kf : Frag} {r0 r1 r2 r3 : Int} {W : Nat} {P : List Nat} (h : fA F Kf r0 r1 r2 r3 = gA W P) : TblA F Kf r0 r1 r2 r3 W P := fun6 h
noncomputable def fB (F : Addr → FuncData) (Kf : Frag) (W m : Nat) (r : Int) : AO → AO → AO → Option (AV × List AO) := fun x y z => (run1 F Kf 58).fn (.fn 290) [.int (.ofNat W), .int (.ofNat m), .int (r + 8)] (hpL ++ [x, y, z])
noncomputable def gB (W : Nat) (rows : List (List Nat)) : AO → AO → AO → Option (AV × List AO) := fun x y z => some (.ref 11, hpL ++ [x, y, z] ++ gC W rows)
theorem TblB.of {F : Addr → FuncData} {Kf : Frag} {W m : Nat} {r : Int} {rows : List (List Nat)} (h : fB F Kf W m r = gB W rows) : TblB F Kf W m r rows := fun x y z => congrFun (congrFun (congrFun h x) y) z
noncomputable def fC (F : Addr → FuncData) (Kf : Frag) (W : Nat) (P : List Nat) (r : List Nat) (rows : List (List Nat)) : Int → Int → Int → Int → Int → Int → Option St := fun z0 z1 z2 z3 z4 z5 => gcT rows.length ((run1 F Kf 60).xs (ae307 F) lb6 (stC z0 z1 z2 z3 z4 z5 W P (r :: rows)))
noncomputable def hC (W : Nat) (P : List Nat) (r : List Nat) (rows : List (List Nat)) (place : Nat) : Int → Int → Int → Int → Int → Int → Option St := fun z0 z1 z2 z3 z4 z5 => some (stT none (six z0 z1 z2 z3 z4 z5) (r :: rows) W place P)
theorem TblC.of {F : Addr → FuncData} {Kf : Frag} {W : Nat} {P : List Nat} {r : List Nat} {rows : List (List Nat)} {place : Nat} (h : fC F Kf W P r rows = hC W P r rows place) : TblC F Kf W P r rows place := fun6 h
noncomputable def fD (F : Addr → FuncData) (Kf : Frag) (W : Nat) (rows : List (List Nat)) (place : Nat) (P : List Nat) : Int → Option AV → Int → Int → Int → Int → Int → Int → Option (Fl × St) := fun x c z0 z1 z2 z3 z4 z5 => turnR F Kf x (stT c (six z0 z1 z2 z3 z4 z5) rows W place P)
noncomputable def gD' (W : Nat) (rows : List (List Nat)) (c' : Option AV) (place' : Nat) (P' : List Nat) : Int → Option AV → Int → Int → Int → Int → Int → Int → Option (Fl × St) := fun zz zz z0 z1 z2 z3 z4 z5 => some (.next, stT c' (six z0 z1 z2 z3 z4 z5) rows W place' P')
theorem TblD.of {F : Addr → FuncData} {Kf : Frag} {W : Nat} {rows : List (List Nat)} {place : Nat} {P : List Nat} {place' : Nat} {P' : List Nat} (c' : Option AV) (h : fD F Kf W rows place P = gD' W rows c' place' P') : TblD F Kf W rows place P place' P' := fun x z0 z1 z2 z3 z4 z5 c => ⟨c', fun6 (congrFun (congrFun h x) c) z0 z1 z2 z3 z4 z5⟩
noncomputable def fE (F : Addr → FuncData) (Kf : Frag) (W : Nat) (rows : List (List Nat)) (place : Nat) (P : List Nat) : Int → Option AV → Int → Int → Int → Int → Int → Int → Option (Fl × List AO) := fun x c z0 z1 z2 z3 z4 z5 => Option.map (fun p : Fl × St => (p.1, p.2.hp.take 4)) (turnR F Kf x (stT c (six z0 z1 z2 z3 z4 z5) rows W place P))
noncomputable def gE : Int → Option AV → Int → Int → Int → Int → Int → Int → Option (Fl × List AO) := fun zz zz zz zz zz zz zz zz => some (.ret (.bool true), hpL)
theorem TblE.of {F : Addr → FuncData} {Kf : Frag} {W : Nat} {rows : List (List Nat)} {place : Nat} {P : List Nat} (h : fE F Kf W rows place P = gE) : TblE F Kf W rows place P := fun x z0 z1 z2 z3 z4 z5 c => fun6 (congrFun (congrFun h x) c) z0 z1 z2 z3 z4 z5
section
variable {F : Addr → FuncData} {Kf : Frag}
theorem run_lb0 (S : Addr) : (run1 F Kf 60).xs (ae307 F) lb0 ⟨hpL ++ [.cell none], [(xScript, .fn S)]⟩ = some (.next, ⟨hpZ [3, 3, 2, 1, 0, 2], [(xScript, .fn S), (xDrawn, .ref 5)]⟩) := by kernel_rfl
theorem run_lb2 (z0 z1 z2 z3 z4 z5 : Int) : (run1 F Kf 60).xs (ae307 F) lb2 ⟨hpZ [z0, z1, z2, z3, z4, z5], [(xDrawn, .ref 5)]⟩ = some (.next, stA z0 z1 z2 z3 z4 z5 (z0.fmod 5) (z1.fmod 4) (z2.fmod 4) (z3.fmod 3)) := by kernel_rfl
theorem run_lb12 (σ : St) : (run1 F Kf 60).xs (ae307 F) lb12 σ = some (.ret (.bool true), σ) := by kernel_rfl
end
namespace R1
section
variable {F : Addr → FuncData} {Kf : Frag} {k : Nat} {ae : AE} {e : Expr} {σ σ₁ σ₂ : St} {st : Stmt}
theorem calln1 {t : Expr} {z g : Str} {as : List Expr} {gv v : AV} {vs : List AV} {hp' : List AO} (h : viewS st = .asg t e) (ht : viewG t = .name z) (he : viewE e = .calln g as) (hn : nameA (tabG F) ae g σ = some gv) (hk' : keepA (tabG F) (tabC Kf) gv = true) (h1 : evsA (run1 F Kf k) ae as σ = some (vs, σ₁))
    (h2 : (run1 F Kf k).fn gv vs σ₁.hp = some (v, hp')) (hs : storeA ae z v ⟨hp', σ₁.loc⟩ = some σ₂) : (run1 F Kf (k + 2)).xs ae [st] σ = some (.next, σ₂) := by
  show xsB (exB (tabG F) (tabC Kf) (run1 F Kf (k + 1)) ((ext1 (cfg F Kf)).xst (run1 F Kf (k + 1))) ae) [st] σ = _
  have ev : (run1 F Kf (k + 1)).ev ae e σ = some (v, ⟨hp', σ₁.loc⟩) := by
    show evB (tabG F) (tabC Kf) (run1 F Kf k) ((ext1 (cfg F Kf)).xt (run1 F Kf k)) ae e σ = _
    unfold evB; rw [he]; dsimp only [evV, evName, evBin, evUsub, evNott, evCmp, evIte, evTup, evList, evSlice, evSub, evAtt, evCalln, evCallm]; rw [hn, Option.bind_some, hk', cond_true, h1, Option.bind_some, h2]; rfl
  unfold xsB exB
  rw [h]; dsimp only [exV, exExpr, exRet, exIf, exFor, exAsg, exSwap, exAsg3, exAugn, exAugs]; rw [ev, Option.bind_some]; unfold asgB; rw [ht]; dsimp only [asgV, asTup, asAtt, asSlice, asSub]; rw [hs]; rfl
theorem run_lb5 {z0 z1 z2 z3 z4 z5 r : Int} {W m : Nat} {P : List Nat} {rows : List (List Nat)} (hr : z4.fmod 9 = r) (B : TblB F Kf W m r rows) (h0 : sub2A (tabC Kf) (.ref 6) (.int 0) (stB z0 z1 z2 z3 z4 z5 W (m :: P)).hp = some (.int (.ofNat m))) : (run1 F Kf 60).xs (ae307 F) lb5 (stB z0 z1 z2 z3 z4 z5 W (m :: P)) = some (.next, stC z0 z1 z2 z3 z4 z5 W (m :: P) rows) := by
  refine calln1 (σ₁ := stB z0 z1 z2 z3 z4 z5 W (m :: P)) rfl rfl rfl rfl rfl ?_ (B (.cell none) (.list (six z0 z1 z2 z3 z4 z5)) (.list (nints (m :: P)))) rfl
  have key : ∀ {l : List Expr} {vs : List AV} {σ σ' : St}, EsK F Kf 10 (ae307 F) l σ vs σ' → evsA (run1 F Kf 58) (ae307 F) l σ = some (vs, σ') := fun h => h 58 (by decide)
  refine key ?_
  refine es_cons rfl (ev_name rfl rfl) (es_cons rfl (ev_sub rfl (ev_name rfl rfl) (ev_const rfl) h0) (es_cons rfl ?_ es_nil))
  rw [← hr]
  exact ev_bin (u := (.int (z4.fmod 9 + 8), (stB z0 z1 z2 z3 z4 z5 W (m :: P)).hp)) (x := .int (z4.fmod 9)) (σ₁ := stB z0 z1 z2 z3 z4 z5 W (m :: P)) rfl (ev_bin (u := (.int (z4.fmod 9), (stB z0 z1 z2 z3 z4 z5 W (m :: P)).hp)) (x := .int z4) (σ₁ := stB z0 z1 z2 z3 z4 z5 W (m :: P)) (σ₂ := stB z0 z1 z2 z3 z4 z5 W (m :: P)) rfl (ev_sub rfl (ev_name rfl rfl) (ev_const rfl) rfl) (ev_const rfl) rfl) (ev_const rfl) rfl
end
end R1
end Mine
namespace Mine
noncomputable def ihT (F : Addr → FuncData) (Kf : Frag) : IH := ihC keepT (run1 F Kf 60)
noncomputable def Good (F : Addr → FuncData) (Kf : Frag) (n : Nat) (σ : St) : Prop := ∀ (fuel : Nat) (x : Int), n < fuel → ∃ f σ', forA (ihT F Kf) (ae307 F) xTurn tb [] fuel (.rng x (n : Int) 1) σ = some (f, σ') ∧ (f = .next ∨ f = .ret (.bool true)) ∧ σ'.hp.take 4 = hpL
noncomputable def GoodT (F : Addr → FuncData) (Kf : Frag) (n W : Nat) (rows : List (List Nat)) (place : Nat) (P : List Nat) : Prop := ∀ (z0 z1 z2 z3 z4 z5 : Int) (c : Option AV) (j : Nat), j ≤ n → Good F Kf j (stT c (six z0 z1 z2 z3 z4 z5) rows W place P)
section
variable {F : Addr → FuncData} {Kf : Frag} {n W place place' : Nat} {rows : List (List Nat)} {P P' : List Nat}
theorem good_nil {σ : St} (h4 : σ.hp.take 4 = hpL) : Good F Kf 0 σ := fun fuel x hf => by
  refine ex1_2 (predE (Nat.lt_of_le_of_lt (Nat.zero_le _) hf : 0 + 1 ≤ fuel)) fun k Z1 hk => ?_; subst Z1
  exact ⟨.next, σ, rfl, .inl rfl, h4⟩
theorem good0 : GoodT F Kf 0 W rows place P := fun z0 z1 z2 z3 z4 z5 c j hj => by
  obtain rfl : j = 0 := by omega
  exact good_nil rfl
theorem turn_st {j fuel : Nat} {x : Int} {σ : St} {r : Option (Fl × St)} (hl : storeA (ae307 F) xTurn (.int x) σ = some ⟨σ.hp, σ.loc ++ [(xTurn, .int x)]⟩) (e : turnR F Kf x σ = r) :
    forA (ihT F Kf) (ae307 F) xTurn tb [] (fuel + 1) (.rng x ((j + 1 : Nat) : Int) 1) σ = r.bind fun p => match p.1 with
      | .next => forA (ihT F Kf) (ae307 F) xTurn tb [] fuel (.rng (x + 1) (j : Int) 1) p.2
      | .cont => forA (ihT F Kf) (ae307 F) xTurn tb [] fuel (.rng (x + 1) (j : Int) 1) p.2
      | .brk => some (.next, p.2)
      | .ret u => some (.ret u, p.2) := by
  subst e
  unfold turnR
  rw [forceH_eq]
  conv => lhs; unfold forA
  have hn : nextA (.rng x ((j + 1 : Nat) : Int) 1) σ.hp = some (some (.int x, .rng (x + 1) (j : Int) 1)) := by
    unfold nextA
    dsimp only
    rw [(W.Z.ltB_iff _ _).mpr (by omega : (0 : Int) < ((j + 1 : Nat) : Int)), cond_true, show ((j + 1 : Nat) : Int) - 1 = (j : Int) by omega]
  rw [hn, Option.bind_some]
  dsimp only
  rw [hl, Option.bind_some]
  rfl
theorem store_turn {c : Option AV} {D : List AV} {x : Int} : storeA (ae307 F) xTurn (.int x) (stT c D rows W place P) = some ⟨(stT c D rows W place P).hp, (stT c D rows W place P).loc ++ [(xTurn, .int x)]⟩ := by kernel_rfl
theorem goodS (d : TblD F Kf W rows place P place' P') (g : GoodT F Kf n W rows place' P') : GoodT F Kf (n + 1) W rows place P := fun z0 z1 z2 z3 z4 z5 c j hj => by
  cases j with
  | zero => exact good_nil rfl
  | succ j =>
    intro fuel x hf
    refine ex1_2 (predE (Nat.lt_of_le_of_lt (Nat.zero_le _) hf : 0 + 1 ≤ fuel)) fun k Z1 hk => ?_; subst Z1
    refine ex1_1 (d x z0 z1 z2 z3 z4 z5 c) fun c' e => ?_
    rw [turn_st store_turn e]
    exact g z0 z1 z2 z3 z4 z5 c' j (by omega) k (x + 1) (by omega)
theorem goodE (d : TblE F Kf W rows place P) : GoodT F Kf n W rows place P := fun z0 z1 z2 z3 z4 z5 c j hj => by
  cases j with
  | zero => exact good_nil rfl
  | succ j =>
    intro fuel x hf
    refine ex1_2 (predE (Nat.lt_of_le_of_lt (Nat.zero_le _) hf : 0 + 1 ≤ fuel)) fun k Z1 hk => ?_; subst Z1
    refine ex1_2 (Option.map_eq_some_iff.mp (d x z0 z1 z2 z3 z4 z5 c)) fun p e e2 => ?_
    obtain ⟨f, σ'⟩ := p
    refine ex0_2 (Prod.mk.inj e2) fun e3 e4 => ?_
    subst e3
    rw [turn_st store_turn e]
    exact ⟨.ret (.bool true), σ', rfl, .inr rfl, e4⟩
theorem GoodT.le {m : Nat} (g : GoodT F Kf n W rows place P) (h : m ≤ n) : GoodT F Kf m W rows place P := fun z0 z1 z2 z3 z4 z5 c j hj => g z0 z1 z2 z3 z4 z5 c j (Nat.le_trans hj h)
noncomputable def runT (F : Addr → FuncData) (Kf : Frag) : IH := stepB (tabG F) (tabC Kf) (ext1 (cfg F Kf)) (ihT F Kf)
theorem runT_ok {prog : Program} {w : World} {hT : Heap} (O : CfgOk prog hT (cfg F Kf)) : IOk prog w hT 164 (runT F Kf) := by
  unfold runT
  exact step_ok (n := 160) O.all (ext1_ok O) (orc1_ok O) (by decide) (ihC_ok (run1_ok O 60))
noncomputable def iter11 : Expr := match lb11 with
  | [.For _ e _ _ _] => e
  | _ => .Constant .none 0 default
noncomputable def arg11 : Expr := match iter11 with
  | .Call _ [e] _ _ => e
  | _ => .Constant .none 0 default
end
namespace R1
section
variable {F : Addr → FuncData} {Kf : Frag} {W place : Nat} {rows : List (List Nat)} {P : List Nat}
theorem ev11 {z0 z1 z2 z3 z4 z5 r : Int} (hr : z5.fmod 4 = r) : (run1 F Kf 60).ev (ae307 F) iter11 (stT none (six z0 z1 z2 z3 z4 z5) rows W place P) = some (.rng 0 (r + 2) 1, stT none (six z0 z1 z2 z3 z4 z5) rows W place P) := by
  have key : EvK F Kf 10 (ae307 F) iter11 (stT none (six z0 z1 z2 z3 z4 z5) rows W place P) (.rng 0 (r + 2) 1) ⟨(stT none (six z0 z1 z2 z3 z4 z5) rows W place P).hp, (stT none (six z0 z1 z2 z3 z4 z5) rows W place P).loc⟩ := by
    refine ev_calln (vs := [.int (r + 2)]) (σ₁ := stT none (six z0 z1 z2 z3 z4 z5) rows W place P) rfl rfl rfl (es_cons rfl ?_ es_nil) (fn_bi fun ih => rfl)
    rw [← hr]
    exact ev_bin (u := (.int (z5.fmod 4 + 2), (stT none (six z0 z1 z2 z3 z4 z5) rows W place P).hp)) (x := .int (z5.fmod 4)) (σ₁ := stT none (six z0 z1 z2 z3 z4 z5) rows W place P) rfl (ev_bin (u := (.int (z5.fmod 4), (stT none (six z0 z1 z2 z3 z4 z5) rows W place P).hp)) (x := .int z5) (σ₁ := stT none (six z0 z1 z2 z3 z4 z5) rows W place P) (σ₂ := stT none (six z0 z1 z2 z3 z4 z5) rows W place P) rfl (ev_sub rfl (ev_name rfl rfl) (ev_const rfl) rfl) (ev_const rfl) rfl) (ev_const rfl) rfl
  exact key 60 (by decide)
end
end R1
section
variable {F : Addr → FuncData} {Kf : Frag} {W place : Nat} {rows : List (List Nat)} {P : List Nat}
theorem run_lb11 {z0 z1 z2 z3 z4 z5 : Int} {r : Nat} (hr : z5.fmod 4 = r) (h4 : r < 4) (g : GoodT F Kf 5 W rows place P) : ∃ f σ', (runT F Kf).xs (ae307 F) lb11 (stT none (six z0 z1 z2 z3 z4 z5) rows W place P) = some (f, σ') ∧ (f = .next ∨ f = .ret (.bool true)) ∧ σ'.hp.take 4 = hpL := by
  have hs : startA (tabG F) (ihT F Kf) (ae307 F) iter11 (stT none (six z0 z1 z2 z3 z4 z5) rows W place P) = some (.rng 0 ((r + 2 : Nat) : Int) 1, stT none (six z0 z1 z2 z3 z4 z5) rows W place P) := by
    have e : startA (tabG F) (ihT F Kf) (ae307 F) iter11 (stT none (six z0 z1 z2 z3 z4 z5) rows W place P) = ((run1 F Kf 60).ev (ae307 F) iter11 (stT none (six z0 z1 z2 z3 z4 z5) rows W place P)).bind fun p => (iterA p.1 p.2.hp).bind fun it => some (it, p.2) := rfl
    rw [e, R1.ev11 hr, Option.bind_some]
    have : r = 0 ∨ r = 1 ∨ r = 2 ∨ r = 3 := lt4 (P := fun r => r = 0 ∨ r = 1 ∨ r = 2 ∨ r = 3) (.inl rfl) (.inr (.inl rfl)) (.inr (.inr (.inl rfl))) (.inr (.inr (.inr rfl))) r h4
    rcases this with rfl | rfl | rfl | rfl <;> rfl
  refine ex2_3 (g z0 z1 z2 z3 z4 z5 none (r + 2) (by omega) 400 0 (by omega)) fun f σ' e hf h5 => ?_
  refine ⟨f, σ', ?_, hf, h5⟩
  have e2 : (runT F Kf).xs (ae307 F) lb11 (stT none (six z0 z1 z2 z3 z4 z5) rows W place P) = ((startA (tabG F) (ihT F Kf) (ae307 F) iter11 (stT none (six z0 z1 z2 z3 z4 z5) rows W place P)).bind fun q => forA (ihT F Kf) (ae307 F) xTurn tb [] 400 q.1 q.2).bind fun p => match p.1 with
    | .next => some (.next, p.2)
    | f => some (f, p.2) := rfl
  rw [e2, hs, Option.bind_some]
  dsimp only
  rw [e]
  rcases hf with rfl | rfl <;> rfl
end
end Mine
namespace Mine
noncomputable def FinQ (hT : Heap) (L : Addr) (s₀ : Shared) : Flow → Shared → Prop := fun g s' => g = .ret (.bool true) ∧ ∃ ρ' σ', Rel hT ρ' L σ' s'.heap ∧ σ'.hp.take 4 = hpL ∧ Ok s₀ s'
noncomputable def Start (F : Addr → FuncData) (Kf : Frag) (W : Nat) (P : List Nat) : Prop := ∃ m P' r rows place, P = m :: P' ∧ (∀ z0 z1 z2 z3 z4 z5 : Int, sub2A (tabC Kf) (.ref 6) (.int 0) (stB z0 z1 z2 z3 z4 z5 W (m :: P')).hp = some (.int (.ofNat m))) ∧
  (∀ q : Nat, q < 9 → TblB F Kf W m (q : Int) (r :: rows)) ∧ TblC F Kf W P r rows place ∧ GoodT F Kf 5 W (r :: rows) place P
theorem nints_len (l : List Nat) : (nints l).length = l.length := List.length_map _
theorem Start.mk {F : Addr → FuncData} {Kf : Frag} {W m : Nat} {P' r : List Nat} {rows : List (List Nat)} {place : Nat} (hl : Nat.ble (P'.length + 1) 100000 = true) (hB : ∀ q : Nat, q < 9 → TblB F Kf W m (q : Int) (r :: rows)) (hC : TblC F Kf W (m :: P') r rows place) (g : GoodT F Kf 5 W (r :: rows) place (m :: P')) : Start F Kf W (m :: P') := by
  refine ⟨m, P', r, rows, place, rfl, fun z0 z1 z2 z3 z4 z5 => ?_, hB, hC, g⟩
  show atI (nints (m :: P')) 0 = some (.int (.ofNat m))
  unfold atI
  rw [show lenOk (nints (m :: P')).length = true by rw [nints_len]; exact hl]
  rfl
section
variable {prog : Program} {w : World} {hT : Heap} {A : Around} {L : Addr} {ρ : List Addr} {s s₀ : Shared} {env : Env} {F : Addr → FuncData} {Kf : Frag} {z0 z1 z2 z3 z4 z5 : Int} {W place : Nat} {P : List Nat}
theorem FinQ.of {ρ' : List Addr} {σ' : St} {v : AV} {u : Value} {s' : Shared} (hv : v = .bool true) (V : VR ρ' s'.heap v u) (R : Rel hT ρ' L σ' s'.heap) (h4 : σ'.hp.take 4 = hpL) (O : Ok s₀ s') : FinQ hT L s₀ (.ret u) s' := by
  subst hv
  revert V; refine vrBool ?_; intro h; subst h
  exact ⟨rfl, ρ', σ', R, h4, O⟩
theorem resid {z : Int} {n : Nat} (hn : 0 < n) : ∃ r : Nat, z.fmod (n : Int) = (r : Int) ∧ r < n := by
  refine ⟨(z.fmod n).toNat, ?_, ?_⟩
  · rw [Int.toNat_of_nonneg]
    rw [Int.fmod_eq_emod_of_nonneg _ (by omega)]
    exact Int.emod_nonneg _ (by omega)
  · have h1 : z.fmod (n : Int) < n := by
      rw [Int.fmod_eq_emod_of_nonneg _ (by omega)]
      exact Int.emod_lt_of_pos _ (by omega)
    omega
theorem cells4 {y : Str} {i : Nat} (e : lk y (ae307 F).cells = some i) : i = 4 := by
  change lk y [(Str.ofString "runs", 4)] = _ at e
  rw [lk_cons, lk_nil] at e
  cases q : W.Fast.sEq y (Str.ofString "runs") with
  | true => rw [q] at e; revert e; refine someC fun h => ?_; subst h; rfl
  | false => rw [q] at e; exact noneE e
theorem fromT {rows : List (List Nat)} (O : CfgOk prog hT (cfg F Kf)) (c : Cx A 164) (R : Rel hT ρ L (stT none (six z0 z1 z2 z3 z4 z5) rows W place P) s.heap) (Ev : EnvR ρ L (ae307 F) env) (g : GoodT F Kf 5 W rows place P) (k : Ok s₀ s) :
    wpAny (model prog w) A (execs (lb11 ++ lb12) env) (FinQ hT L s₀) No s := by
  refine ex1_2 (resid (z := z5) (n := 4) (by decide)) fun r hr h4 => ?_
  obtain ⟨f, σ', e, hf, h5⟩ := run_lb11 (z0 := z0) (z1 := z1) (z2 := z2) (z3 := z3) hr h4 g
  rcases hf with rfl | rfl
  · refine seg (runT_ok O) c R Ev e fun ρ' s' S R' O' => ?_
    refine wpAny_mono ((run1_ok O 60).xs (c.le (by decide)) R' (Ev.mono S.pre) (run_lb12 σ')) (fun g s'' hg => ?_) fun zz zz z => z
    revert hg; refine postE fun ρ'' S' R'' O'' G => ?_
    cases g <;> first | exact G.elim | skip
    exact FinQ.of rfl G R'' h5 ((k.trans O').trans O'')
  · exact segRet (runT_ok O) c R Ev e fun ρ' s' u S R' O' V => FinQ.of rfl V R' h5 (k.trans O')
set_option tactic.hygienic true in
theorem fromC {r : List Nat} {rows : List (List Nat)} (O : CfgOk prog hT (cfg F Kf)) (c : Cx A 164) (R : Rel hT ρ L (stC z0 z1 z2 z3 z4 z5 W P (r :: rows)) s.heap) (Ev : EnvR ρ L (ae307 F) env) (t : TblC F Kf W P r rows place) (g : GoodT F Kf 5 W (r :: rows) place P) (k : Ok s₀ s) :
    wpAny (model prog w) A (execs (lb6 ++ (lb11 ++ lb12)) env) (FinQ hT L s₀) No s := by
  have e := t z0 z1 z2 z3 z4 z5
  unfold gcT at e
  split at e
  · rename_i σ hσ
    split at e
    · rename_i i hi
      split at e
      · refine seg (run1_ok O 60) (c.le (by decide)) R Ev hσ fun ρ' s' S R' O' => ?_
        refine ex1_2 (gcS_sound e R') fun ρ'' R'' hm => ?_
        exact fromT O c R'' ((Ev.mono S.pre).gc hm fun y i q => by rw [cells4 q]; rfl) g (k.trans O')
      · exact noneE e
    · exact noneE e
  · exact noneE e
theorem fromB (O : CfgOk prog hT (cfg F Kf)) (c : Cx A 164) (R : Rel hT ρ L (stB z0 z1 z2 z3 z4 z5 W P) s.heap) (Ev : EnvR ρ L (ae307 F) env) (t : Start F Kf W P) (k : Ok s₀ s) : wpAny (model prog w) A (execs (lb5 ++ (lb6 ++ (lb11 ++ lb12))) env) (FinQ hT L s₀) No s := by
  revert t; refine fun h0 => ex5_5 h0 fun m P' r rows place Z1 hs hB hC g => ?_; clear h0; subst Z1
  refine ex1_2 (resid (z := z4) (n := 9) (by decide)) fun q hq hq9 => ?_
  exact seg (run1_ok O 60) (c.le (by decide)) R Ev (R1.run_lb5 hq (hB q hq9) (hs z0 z1 z2 z3 z4 z5)) fun ρ' s' S R' O' => fromC O c R' (Ev.mono S.pre) hC g (k.trans O')
set_option tactic.hygienic true in
theorem fromA {r0 r1 r2 r3 : Int} (O : CfgOk prog hT (cfg F Kf)) (c : Cx A 164) (R : Rel hT ρ L (stA z0 z1 z2 z3 z4 z5 r0 r1 r2 r3) s.heap) (Ev : EnvR ρ L (ae307 F) env) (tA : TblA F Kf r0 r1 r2 r3 W P) (t : Start F Kf W P) (k : Ok s₀ s) :
    wpAny (model prog w) A (execs (lb3 ++ (lb5 ++ (lb6 ++ (lb11 ++ lb12)))) env) (FinQ hT L s₀) No s := by
  have e := tA z0 z1 z2 z3 z4 z5
  unfold gcA at e
  split at e
  · rename_i σ hσ
    split at e
    · refine seg (run1_ok O 60) (c.le (by decide)) R Ev hσ fun ρ' s' S R' O' => ?_
      refine ex1_2 (gcS_sound e R') fun ρ'' R'' hm => ?_
      exact fromB O c R'' ((Ev.mono S.pre).gc hm fun y i q => by rw [cells4 q]; rfl) t (k.trans O')
    · exact noneE e
  · exact noneE e
theorem from2 (O : CfgOk prog hT (cfg F Kf)) (c : Cx A 164) (R : Rel hT ρ L ⟨hpZ [z0, z1, z2, z3, z4, z5], [(xDrawn, .ref 5)]⟩ s.heap) (Ev : EnvR ρ L (ae307 F) env) (k : Ok s₀ s)
    (hA : ∀ r0 r1 r2 r3 : Nat, r0 < 5 → r1 < 4 → r2 < 4 → r3 < 3 → ∃ W P, TblA F Kf r0 r1 r2 r3 W P ∧ Start F Kf W P) : wpAny (model prog w) A (execs (lb2 ++ (lb3 ++ (lb5 ++ (lb6 ++ (lb11 ++ lb12))))) env) (FinQ hT L s₀) No s := by
  refine ex1_2 (resid (z := z0) (n := 5) (by decide)) fun r0 h0 l0 => ?_
  refine ex1_2 (resid (z := z1) (n := 4) (by decide)) fun r1 h1 l1 => ?_
  refine ex1_2 (resid (z := z2) (n := 4) (by decide)) fun r2 h2 l2 => ?_
  refine ex1_2 (resid (z := z3) (n := 3) (by decide)) fun r3 h3 l3 => ?_
  refine ex2_2 (hA r0 r1 r2 r3 l0 l1 l2 l3) fun W P tA t => ?_
  have e := run_lb2 (F := F) (Kf := Kf) z0 z1 z2 z3 z4 z5
  rw [show z0.fmod 5 = (r0 : Int) from h0, show z1.fmod 4 = (r1 : Int) from h1, show z2.fmod 4 = (r2 : Int) from h2, show z3.fmod 3 = (r3 : Int) from h3] at e
  exact seg (run1_ok O 60) (c.le (by decide)) R Ev e fun ρ' s' S R' O' => fromA O c R' (Ev.mono S.pre) tA t (k.trans O')
theorem law_body (O : CfgOk prog hT (cfg F Kf)) (c : Cx A 164) (hE : GlobIs hT (Str.ofString "enumerate") (.type "enumerate")) {S : Addr} {vals : List Value} (hS : hT.IsList S vals.toArray) (hi : ∀ v ∈ vals, ∃ i t, v = .int i t)
    (R : Rel hT ρ L ⟨hpL ++ [.cell none], [(xScript, .fn S)]⟩ s.heap) (Ev : EnvR ρ L (ae307 F) env)
    (hA : ∀ r0 r1 r2 r3 : Nat, r0 < 5 → r1 < 4 → r2 < 4 → r3 < 3 → ∃ W P, TblA F Kf r0 r1 r2 r3 W P ∧ Start F Kf W P) : wpAny (model prog w) A (execs lb env) (FinQ hT L s) No s := by
  rw [lb_eq]
  refine seg (run1_ok O 60) (c.le (by decide)) R Ev (run_lb0 S) fun ρ₁ s₁ S₁ R₁ O₁ => ?_
  have key : wpAny (model prog w) A (exec st1 env) (fun g s' => match g with | .next => wpAny (model prog w) A (execs (lb2 ++ (lb3 ++ (lb5 ++ (lb6 ++ (lb11 ++ lb12))))) env) (FinQ hT L s) No s' | g => FinQ hT L s g s') No s₁ :=
    enumLoop O.all (run1_ok O 60) (by decide) (c.le (by decide)) hE hS hi R₁ (Ev.mono S₁.pre) fun s' y0 y1 y2 y3 y4 y5 R' O' => from2 O c R' (Ev.mono S₁.pre) (O₁.trans O') hA
  have one : wpAny (model prog w) A (execs [st1] env) (fun g s' => match g with | .next => wpAny (model prog w) A (execs (lb2 ++ (lb3 ++ (lb5 ++ (lb6 ++ (lb11 ++ lb12))))) env) (FinQ hT L s) No s' | g => FinQ hT L s g s') No s₁ := fun Γ p hΓ => by
    rw [execs_cons, Sem.wp_bind']
    refine Sem.wp_mono _ Γ _ (fun f p' s' h' => ?_) (fun zz zz zz h' => h') _ _ (key Γ p hΓ)
    cases f <;> exact h'
  exact execs_app (l := [st1]) one
end
end Mine
namespace Mine
namespace Tb
noncomputable abbrev Fd := Addr → FuncData
noncomputable def cR (l : List Nat) : Option AV := some (.tup (l.map fun n => .int (.ofNat n)))
noncomputable def TblB9 (F : Fd) (Kf : Frag) (W m : Nat) (rows : List (List Nat)) : Prop := ∀ q : Nat, q < 9 → TblB F Kf W m (q : Int) rows
theorem TblB9.mk {F : Fd} {Kf : Frag} {W m : Nat} {rows : List (List Nat)} (h0 : fB F Kf W m 0 = gB W rows) (h1 : fB F Kf W m 1 = gB W rows) (h2 : fB F Kf W m 2 = gB W rows) (h3 : fB F Kf W m 3 = gB W rows) (h4 : fB F Kf W m 4 = gB W rows) (h5 : fB F Kf W m 5 = gB W rows) (h6 : fB F Kf W m 6 = gB W rows) (h7 : fB F Kf W m 7 = gB W rows) (h8 : fB F Kf W m 8 = gB W rows) : TblB9 F Kf W m rows := lt9 (.of h0) (.of h1) (.of h2) (.of h3) (.of h4) (.of h5) (.of h6) (.of h7) (.of h8)
noncomputable def Q (F : Fd) (Kf : Frag) (a b c d : Nat) : Prop := ∃ W P, TblA F Kf a b c d W P ∧ Start F Kf W P
theorem Q.mk {F : Fd} {Kf : Frag} {a b c d W : Nat} {P : List Nat} (h : TblA F Kf a b c d W P) (s : Start F Kf W P) : Q F Kf a b c d := ⟨W, P, h, s⟩
noncomputable def w1_1 : List (List Nat) := [[1,0]]
noncomputable def w2_1 : List (List Nat) := [[1,0,0]]
noncomputable def w2_2 : List (List Nat) := [[1,0,0],[1,1,1]]
noncomputable def w3_1 : List (List Nat) := [[1,0,0,0]]
noncomputable def w3_2 : List (List Nat) := [[1,0,0,0],[1,1,1,1]]
noncomputable def w3_3 : List (List Nat) := [[1,0,0,0],[1,1,1,1],[1,1,2,2]]
noncomputable def w4_1 : List (List Nat) := [[1,0,0,0,0]]
noncomputable def w4_2 : List (List Nat) := [[1,0,0,0,0],[1,1,1,1,1]]
noncomputable def w4_3 : List (List Nat) := [[1,0,0,0,0],[1,1,1,1,1],[1,1,2,2,3]]
noncomputable def w4_4 : List (List Nat) := [[1,0,0,0,0],[1,1,1,1,1],[1,1,2,2,3],[1,1,2,3,4]]
noncomputable def w5_2 : List (List Nat) := [[1,0,0,0,0,0],[1,1,1,1,1,1]]
noncomputable def w5_3 : List (List Nat) := [[1,0,0,0,0,0],[1,1,1,1,1,1],[1,1,2,2,3,3]]
noncomputable def w5_4 : List (List Nat) := [[1,0,0,0,0,0],[1,1,1,1,1,1],[1,1,2,2,3,3],[1,1,2,3,4,5]]
noncomputable def w5_5 : List (List Nat) := [[1,0,0,0,0,0],[1,1,1,1,1,1],[1,1,2,2,3,3],[1,1,2,3,4,5],[1,1,2,3,5,6]]
noncomputable def w6_2 : List (List Nat) := [[1,0,0,0,0,0,0],[1,1,1,1,1,1,1]]
noncomputable def w6_3 : List (List Nat) := [[1,0,0,0,0,0,0],[1,1,1,1,1,1,1],[1,1,2,2,3,3,4]]
noncomputable def w6_4 : List (List Nat) := [[1,0,0,0,0,0,0],[1,1,1,1,1,1,1],[1,1,2,2,3,3,4],[1,1,2,3,4,5,7]]
noncomputable def w6_5 : List (List Nat) := [[1,0,0,0,0,0,0],[1,1,1,1,1,1,1],[1,1,2,2,3,3,4],[1,1,2,3,4,5,7],[1,1,2,3,5,6,9]]
noncomputable def w7_2 : List (List Nat) := [[1,0,0,0,0,0,0,0],[1,1,1,1,1,1,1,1]]
noncomputable def w7_3 : List (List Nat) := [[1,0,0,0,0,0,0,0],[1,1,1,1,1,1,1,1],[1,1,2,2,3,3,4,4]]
noncomputable def w7_4 : List (List Nat) := [[1,0,0,0,0,0,0,0],[1,1,1,1,1,1,1,1],[1,1,2,2,3,3,4,4],[1,1,2,3,4,5,7,8]]
noncomputable def w7_5 : List (List Nat) := [[1,0,0,0,0,0,0,0],[1,1,1,1,1,1,1,1],[1,1,2,2,3,3,4,4],[1,1,2,3,4,5,7,8],[1,1,2,3,5,6,9,11]]
noncomputable def w8_2 : List (List Nat) := [[1,0,0,0,0,0,0,0,0],[1,1,1,1,1,1,1,1,1]]
noncomputable def w8_3 : List (List Nat) := [[1,0,0,0,0,0,0,0,0],[1,1,1,1,1,1,1,1,1],[1,1,2,2,3,3,4,4,5]]
noncomputable def w8_4 : List (List Nat) := [[1,0,0,0,0,0,0,0,0],[1,1,1,1,1,1,1,1,1],[1,1,2,2,3,3,4,4,5],[1,1,2,3,4,5,7,8,10]]
noncomputable def w8_5 : List (List Nat) := [[1,0,0,0,0,0,0,0,0],[1,1,1,1,1,1,1,1,1],[1,1,2,2,3,3,4,4,5],[1,1,2,3,4,5,7,8,10],[1,1,2,3,5,6,9,11,15]]
noncomputable def w9_3 : List (List Nat) := [[1,0,0,0,0,0,0,0,0,0],[1,1,1,1,1,1,1,1,1,1],[1,1,2,2,3,3,4,4,5,5]]
noncomputable def w9_4 : List (List Nat) := [[1,0,0,0,0,0,0,0,0,0],[1,1,1,1,1,1,1,1,1,1],[1,1,2,2,3,3,4,4,5,5],[1,1,2,3,4,5,7,8,10,12]]
noncomputable def w9_5 : List (List Nat) := [[1,0,0,0,0,0,0,0,0,0],[1,1,1,1,1,1,1,1,1,1],[1,1,2,2,3,3,4,4,5,5],[1,1,2,3,4,5,7,8,10,12],[1,1,2,3,5,6,9,11,15,18]]
noncomputable def w10_3 : List (List Nat) := [[1,0,0,0,0,0,0,0,0,0,0],[1,1,1,1,1,1,1,1,1,1,1],[1,1,2,2,3,3,4,4,5,5,6]]
noncomputable def w10_4 : List (List Nat) := [[1,0,0,0,0,0,0,0,0,0,0],[1,1,1,1,1,1,1,1,1,1,1],[1,1,2,2,3,3,4,4,5,5,6],[1,1,2,3,4,5,7,8,10,12,14]]
noncomputable def w10_5 : List (List Nat) := [[1,0,0,0,0,0,0,0,0,0,0],[1,1,1,1,1,1,1,1,1,1,1],[1,1,2,2,3,3,4,4,5,5,6],[1,1,2,3,4,5,7,8,10,12,14],[1,1,2,3,5,6,9,11,15,18,23]]
noncomputable def w11_3 : List (List Nat) := [[1,0,0,0,0,0,0,0,0,0,0,0],[1,1,1,1,1,1,1,1,1,1,1,1],[1,1,2,2,3,3,4,4,5,5,6,6]]
noncomputable def w11_4 : List (List Nat) := [[1,0,0,0,0,0,0,0,0,0,0,0],[1,1,1,1,1,1,1,1,1,1,1,1],[1,1,2,2,3,3,4,4,5,5,6,6],[1,1,2,3,4,5,7,8,10,12,14,16]]
noncomputable def w11_5 : List (List Nat) := [[1,0,0,0,0,0,0,0,0,0,0,0],[1,1,1,1,1,1,1,1,1,1,1,1],[1,1,2,2,3,3,4,4,5,5,6,6],[1,1,2,3,4,5,7,8,10,12,14,16],[1,1,2,3,5,6,9,11,15,18,23,27]]
noncomputable def w12_4 : List (List Nat) := [[1,0,0,0,0,0,0,0,0,0,0,0,0],[1,1,1,1,1,1,1,1,1,1,1,1,1],[1,1,2,2,3,3,4,4,5,5,6,6,7],[1,1,2,3,4,5,7,8,10,12,14,16,19]]
noncomputable def w12_5 : List (List Nat) := [[1,0,0,0,0,0,0,0,0,0,0,0,0],[1,1,1,1,1,1,1,1,1,1,1,1,1],[1,1,2,2,3,3,4,4,5,5,6,6,7],[1,1,2,3,4,5,7,8,10,12,14,16,19],[1,1,2,3,5,6,9,11,15,18,23,27,34]]
noncomputable def w13_5 : List (List Nat) := [[1,0,0,0,0,0,0,0,0,0,0,0,0,0],[1,1,1,1,1,1,1,1,1,1,1,1,1,1],[1,1,2,2,3,3,4,4,5,5,6,6,7,7],[1,1,2,3,4,5,7,8,10,12,14,16,19,21],[1,1,2,3,5,6,9,11,15,18,23,27,34,39]]
section
variable (F : Fd) (Kf : Frag)
theorem a0000 : TblA F Kf 0 0 0 0 1 [1] := .of (by kernel_rfl)
theorem a0001 : TblA F Kf 0 0 0 1 2 [1,1] := .of (by kernel_rfl)
theorem a0002 : TblA F Kf 0 0 0 2 3 [2,1] := .of (by kernel_rfl)
theorem a0010 : TblA F Kf 0 0 1 0 2 [1,1] := .of (by kernel_rfl)
theorem a0011 : TblA F Kf 0 0 1 1 3 [1,1,1] := .of (by kernel_rfl)
theorem a0012 : TblA F Kf 0 0 1 2 4 [2,1,1] := .of (by kernel_rfl)
theorem a0020 : TblA F Kf 0 0 2 0 3 [2,1] := .of (by kernel_rfl)
theorem a0021 : TblA F Kf 0 0 2 1 4 [2,1,1] := .of (by kernel_rfl)
theorem a0022 : TblA F Kf 0 0 2 2 5 [2,2,1] := .of (by kernel_rfl)
theorem a0030 : TblA F Kf 0 0 3 0 4 [3,1] := .of (by kernel_rfl)
theorem a0031 : TblA F Kf 0 0 3 1 5 [3,1,1] := .of (by kernel_rfl)
theorem a0032 : TblA F Kf 0 0 3 2 6 [3,2,1] := .of (by kernel_rfl)
theorem a0100 : TblA F Kf 0 1 0 0 2 [1,1] := .of (by kernel_rfl)
theorem a0101 : TblA F Kf 0 1 0 1 3 [1,1,1] := .of (by kernel_rfl)
theorem a0102 : TblA F Kf 0 1 0 2 4 [2,1,1] := .of (by kernel_rfl)
theorem a0110 : TblA F Kf 0 1 1 0 3 [1,1,1] := .of (by kernel_rfl)
theorem a0111 : TblA F Kf 0 1 1 1 4 [1,1,1,1] := .of (by kernel_rfl)
theorem a0112 : TblA F Kf 0 1 1 2 5 [2,1,1,1] := .of (by kernel_rfl)
theorem a0120 : TblA F Kf 0 1 2 0 4 [2,1,1] := .of (by kernel_rfl)
theorem a0121 : TblA F Kf 0 1 2 1 5 [2,1,1,1] := .of (by kernel_rfl)
theorem a0122 : TblA F Kf 0 1 2 2 6 [2,2,1,1] := .of (by kernel_rfl)
theorem a0130 : TblA F Kf 0 1 3 0 5 [3,1,1] := .of (by kernel_rfl)
theorem a0131 : TblA F Kf 0 1 3 1 6 [3,1,1,1] := .of (by kernel_rfl)
theorem a0132 : TblA F Kf 0 1 3 2 7 [3,2,1,1] := .of (by kernel_rfl)
theorem a0200 : TblA F Kf 0 2 0 0 3 [2,1] := .of (by kernel_rfl)
theorem a0201 : TblA F Kf 0 2 0 1 4 [2,1,1] := .of (by kernel_rfl)
theorem a0202 : TblA F Kf 0 2 0 2 5 [2,2,1] := .of (by kernel_rfl)
theorem a0210 : TblA F Kf 0 2 1 0 4 [2,1,1] := .of (by kernel_rfl)
theorem a0211 : TblA F Kf 0 2 1 1 5 [2,1,1,1] := .of (by kernel_rfl)
theorem a0212 : TblA F Kf 0 2 1 2 6 [2,2,1,1] := .of (by kernel_rfl)
theorem a0220 : TblA F Kf 0 2 2 0 5 [2,2,1] := .of (by kernel_rfl)
theorem a0221 : TblA F Kf 0 2 2 1 6 [2,2,1,1] := .of (by kernel_rfl)
theorem a0222 : TblA F Kf 0 2 2 2 7 [2,2,2,1] := .of (by kernel_rfl)
theorem a0230 : TblA F Kf 0 2 3 0 6 [3,2,1] := .of (by kernel_rfl)
theorem a0231 : TblA F Kf 0 2 3 1 7 [3,2,1,1] := .of (by kernel_rfl)
theorem a0232 : TblA F Kf 0 2 3 2 8 [3,2,2,1] := .of (by kernel_rfl)
theorem a0300 : TblA F Kf 0 3 0 0 4 [3,1] := .of (by kernel_rfl)
theorem a0301 : TblA F Kf 0 3 0 1 5 [3,1,1] := .of (by kernel_rfl)
theorem a0302 : TblA F Kf 0 3 0 2 6 [3,2,1] := .of (by kernel_rfl)
theorem a0310 : TblA F Kf 0 3 1 0 5 [3,1,1] := .of (by kernel_rfl)
theorem a0311 : TblA F Kf 0 3 1 1 6 [3,1,1,1] := .of (by kernel_rfl)
theorem a0312 : TblA F Kf 0 3 1 2 7 [3,2,1,1] := .of (by kernel_rfl)
theorem a0320 : TblA F Kf 0 3 2 0 6 [3,2,1] := .of (by kernel_rfl)
theorem a0321 : TblA F Kf 0 3 2 1 7 [3,2,1,1] := .of (by kernel_rfl)
theorem a0322 : TblA F Kf 0 3 2 2 8 [3,2,2,1] := .of (by kernel_rfl)
theorem a0330 : TblA F Kf 0 3 3 0 7 [3,3,1] := .of (by kernel_rfl)
theorem a0331 : TblA F Kf 0 3 3 1 8 [3,3,1,1] := .of (by kernel_rfl)
theorem a0332 : TblA F Kf 0 3 3 2 9 [3,3,2,1] := .of (by kernel_rfl)
theorem a1000 : TblA F Kf 1 0 0 0 2 [2] := .of (by kernel_rfl)
theorem a1001 : TblA F Kf 1 0 0 1 3 [2,1] := .of (by kernel_rfl)
theorem a1002 : TblA F Kf 1 0 0 2 4 [2,2] := .of (by kernel_rfl)
theorem a1010 : TblA F Kf 1 0 1 0 3 [2,1] := .of (by kernel_rfl)
theorem a1011 : TblA F Kf 1 0 1 1 4 [2,1,1] := .of (by kernel_rfl)
theorem a1012 : TblA F Kf 1 0 1 2 5 [2,2,1] := .of (by kernel_rfl)
theorem a1020 : TblA F Kf 1 0 2 0 4 [2,2] := .of (by kernel_rfl)
theorem a1021 : TblA F Kf 1 0 2 1 5 [2,2,1] := .of (by kernel_rfl)
theorem a1022 : TblA F Kf 1 0 2 2 6 [2,2,2] := .of (by kernel_rfl)
theorem a1030 : TblA F Kf 1 0 3 0 5 [3,2] := .of (by kernel_rfl)
theorem a1031 : TblA F Kf 1 0 3 1 6 [3,2,1] := .of (by kernel_rfl)
theorem a1032 : TblA F Kf 1 0 3 2 7 [3,2,2] := .of (by kernel_rfl)
theorem a1100 : TblA F Kf 1 1 0 0 3 [2,1] := .of (by kernel_rfl)
theorem a1101 : TblA F Kf 1 1 0 1 4 [2,1,1] := .of (by kernel_rfl)
theorem a1102 : TblA F Kf 1 1 0 2 5 [2,2,1] := .of (by kernel_rfl)
theorem a1110 : TblA F Kf 1 1 1 0 4 [2,1,1] := .of (by kernel_rfl)
theorem a1111 : TblA F Kf 1 1 1 1 5 [2,1,1,1] := .of (by kernel_rfl)
theorem a1112 : TblA F Kf 1 1 1 2 6 [2,2,1,1] := .of (by kernel_rfl)
theorem a1120 : TblA F Kf 1 1 2 0 5 [2,2,1] := .of (by kernel_rfl)
theorem a1121 : TblA F Kf 1 1 2 1 6 [2,2,1,1] := .of (by kernel_rfl)
theorem a1122 : TblA F Kf 1 1 2 2 7 [2,2,2,1] := .of (by kernel_rfl)
theorem a1130 : TblA F Kf 1 1 3 0 6 [3,2,1] := .of (by kernel_rfl)
theorem a1131 : TblA F Kf 1 1 3 1 7 [3,2,1,1] := .of (by kernel_rfl)
theorem a1132 : TblA F Kf 1 1 3 2 8 [3,2,2,1] := .of (by kernel_rfl)
theorem a1200 : TblA F Kf 1 2 0 0 4 [2,2] := .of (by kernel_rfl)
theorem a1201 : TblA F Kf 1 2 0 1 5 [2,2,1] := .of (by kernel_rfl)
theorem a1202 : TblA F Kf 1 2 0 2 6 [2,2,2] := .of (by kernel_rfl)
theorem a1210 : TblA F Kf 1 2 1 0 5 [2,2,1] := .of (by kernel_rfl)
theorem a1211 : TblA F Kf 1 2 1 1 6 [2,2,1,1] := .of (by kernel_rfl)
theorem a1212 : TblA F Kf 1 2 1 2 7 [2,2,2,1] := .of (by kernel_rfl)
theorem a1220 : TblA F Kf 1 2 2 0 6 [2,2,2] := .of (by kernel_rfl)
theorem a1221 : TblA F Kf 1 2 2 1 7 [2,2,2,1] := .of (by kernel_rfl)
theorem a1222 : TblA F Kf 1 2 2 2 8 [2,2,2,2] := .of (by kernel_rfl)
theorem a1230 : TblA F Kf 1 2 3 0 7 [3,2,2] := .of (by kernel_rfl)
theorem a1231 : TblA F Kf 1 2 3 1 8 [3,2,2,1] := .of (by kernel_rfl)
theorem a1232 : TblA F Kf 1 2 3 2 9 [3,2,2,2] := .of (by kernel_rfl)
theorem a1300 : TblA F Kf 1 3 0 0 5 [3,2] := .of (by kernel_rfl)
theorem a1301 : TblA F Kf 1 3 0 1 6 [3,2,1] := .of (by kernel_rfl)
theorem a1302 : TblA F Kf 1 3 0 2 7 [3,2,2] := .of (by kernel_rfl)
theorem a1310 : TblA F Kf 1 3 1 0 6 [3,2,1] := .of (by kernel_rfl)
theorem a1311 : TblA F Kf 1 3 1 1 7 [3,2,1,1] := .of (by kernel_rfl)
theorem a1312 : TblA F Kf 1 3 1 2 8 [3,2,2,1] := .of (by kernel_rfl)
theorem a1320 : TblA F Kf 1 3 2 0 7 [3,2,2] := .of (by kernel_rfl)
theorem a1321 : TblA F Kf 1 3 2 1 8 [3,2,2,1] := .of (by kernel_rfl)
theorem a1322 : TblA F Kf 1 3 2 2 9 [3,2,2,2] := .of (by kernel_rfl)
theorem a1330 : TblA F Kf 1 3 3 0 8 [3,3,2] := .of (by kernel_rfl)
theorem a1331 : TblA F Kf 1 3 3 1 9 [3,3,2,1] := .of (by kernel_rfl)
theorem a1332 : TblA F Kf 1 3 3 2 10 [3,3,2,2] := .of (by kernel_rfl)
theorem a2000 : TblA F Kf 2 0 0 0 3 [3] := .of (by kernel_rfl)
theorem a2001 : TblA F Kf 2 0 0 1 4 [3,1] := .of (by kernel_rfl)
theorem a2002 : TblA F Kf 2 0 0 2 5 [3,2] := .of (by kernel_rfl)
theorem a2010 : TblA F Kf 2 0 1 0 4 [3,1] := .of (by kernel_rfl)
theorem a2011 : TblA F Kf 2 0 1 1 5 [3,1,1] := .of (by kernel_rfl)
theorem a2012 : TblA F Kf 2 0 1 2 6 [3,2,1] := .of (by kernel_rfl)
theorem a2020 : TblA F Kf 2 0 2 0 5 [3,2] := .of (by kernel_rfl)
theorem a2021 : TblA F Kf 2 0 2 1 6 [3,2,1] := .of (by kernel_rfl)
theorem a2022 : TblA F Kf 2 0 2 2 7 [3,2,2] := .of (by kernel_rfl)
theorem a2030 : TblA F Kf 2 0 3 0 6 [3,3] := .of (by kernel_rfl)
theorem a2031 : TblA F Kf 2 0 3 1 7 [3,3,1] := .of (by kernel_rfl)
theorem a2032 : TblA F Kf 2 0 3 2 8 [3,3,2] := .of (by kernel_rfl)
theorem a2100 : TblA F Kf 2 1 0 0 4 [3,1] := .of (by kernel_rfl)
theorem a2101 : TblA F Kf 2 1 0 1 5 [3,1,1] := .of (by kernel_rfl)
theorem a2102 : TblA F Kf 2 1 0 2 6 [3,2,1] := .of (by kernel_rfl)
theorem a2110 : TblA F Kf 2 1 1 0 5 [3,1,1] := .of (by kernel_rfl)
theorem a2111 : TblA F Kf 2 1 1 1 6 [3,1,1,1] := .of (by kernel_rfl)
theorem a2112 : TblA F Kf 2 1 1 2 7 [3,2,1,1] := .of (by kernel_rfl)
theorem a2120 : TblA F Kf 2 1 2 0 6 [3,2,1] := .of (by kernel_rfl)
theorem a2121 : TblA F Kf 2 1 2 1 7 [3,2,1,1] := .of (by kernel_rfl)
theorem a2122 : TblA F Kf 2 1 2 2 8 [3,2,2,1] := .of (by kernel_rfl)
theorem a2130 : TblA F Kf 2 1 3 0 7 [3,3,1] := .of (by kernel_rfl)
theorem a2131 : TblA F Kf 2 1 3 1 8 [3,3,1,1] := .of (by kernel_rfl)
theorem a2132 : TblA F Kf 2 1 3 2 9 [3,3,2,1] := .of (by kernel_rfl)
theorem a2200 : TblA F Kf 2 2 0 0 5 [3,2] := .of (by kernel_rfl)
theorem a2201 : TblA F Kf 2 2 0 1 6 [3,2,1] := .of (by kernel_rfl)
theorem a2202 : TblA F Kf 2 2 0 2 7 [3,2,2] := .of (by kernel_rfl)
theorem a2210 : TblA F Kf 2 2 1 0 6 [3,2,1] := .of (by kernel_rfl)
theorem a2211 : TblA F Kf 2 2 1 1 7 [3,2,1,1] := .of (by kernel_rfl)
theorem a2212 : TblA F Kf 2 2 1 2 8 [3,2,2,1] := .of (by kernel_rfl)
theorem a2220 : TblA F Kf 2 2 2 0 7 [3,2,2] := .of (by kernel_rfl)
theorem a2221 : TblA F Kf 2 2 2 1 8 [3,2,2,1] := .of (by kernel_rfl)
theorem a2222 : TblA F Kf 2 2 2 2 9 [3,2,2,2] := .of (by kernel_rfl)
theorem a2230 : TblA F Kf 2 2 3 0 8 [3,3,2] := .of (by kernel_rfl)
theorem a2231 : TblA F Kf 2 2 3 1 9 [3,3,2,1] := .of (by kernel_rfl)
theorem a2232 : TblA F Kf 2 2 3 2 10 [3,3,2,2] := .of (by kernel_rfl)
theorem a2300 : TblA F Kf 2 3 0 0 6 [3,3] := .of (by kernel_rfl)
theorem a2301 : TblA F Kf 2 3 0 1 7 [3,3,1] := .of (by kernel_rfl)
theorem a2302 : TblA F Kf 2 3 0 2 8 [3,3,2] := .of (by kernel_rfl)
theorem a2310 : TblA F Kf 2 3 1 0 7 [3,3,1] := .of (by kernel_rfl)
theorem a2311 : TblA F Kf 2 3 1 1 8 [3,3,1,1] := .of (by kernel_rfl)
theorem a2312 : TblA F Kf 2 3 1 2 9 [3,3,2,1] := .of (by kernel_rfl)
theorem a2320 : TblA F Kf 2 3 2 0 8 [3,3,2] := .of (by kernel_rfl)
theorem a2321 : TblA F Kf 2 3 2 1 9 [3,3,2,1] := .of (by kernel_rfl)
theorem a2322 : TblA F Kf 2 3 2 2 10 [3,3,2,2] := .of (by kernel_rfl)
theorem a2330 : TblA F Kf 2 3 3 0 9 [3,3,3] := .of (by kernel_rfl)
theorem a2331 : TblA F Kf 2 3 3 1 10 [3,3,3,1] := .of (by kernel_rfl)
theorem a2332 : TblA F Kf 2 3 3 2 11 [3,3,3,2] := .of (by kernel_rfl)
theorem a3000 : TblA F Kf 3 0 0 0 4 [4] := .of (by kernel_rfl)
theorem a3001 : TblA F Kf 3 0 0 1 5 [4,1] := .of (by kernel_rfl)
theorem a3002 : TblA F Kf 3 0 0 2 6 [4,2] := .of (by kernel_rfl)
theorem a3010 : TblA F Kf 3 0 1 0 5 [4,1] := .of (by kernel_rfl)
theorem a3011 : TblA F Kf 3 0 1 1 6 [4,1,1] := .of (by kernel_rfl)
theorem a3012 : TblA F Kf 3 0 1 2 7 [4,2,1] := .of (by kernel_rfl)
theorem a3020 : TblA F Kf 3 0 2 0 6 [4,2] := .of (by kernel_rfl)
theorem a3021 : TblA F Kf 3 0 2 1 7 [4,2,1] := .of (by kernel_rfl)
theorem a3022 : TblA F Kf 3 0 2 2 8 [4,2,2] := .of (by kernel_rfl)
theorem a3030 : TblA F Kf 3 0 3 0 7 [4,3] := .of (by kernel_rfl)
theorem a3031 : TblA F Kf 3 0 3 1 8 [4,3,1] := .of (by kernel_rfl)
theorem a3032 : TblA F Kf 3 0 3 2 9 [4,3,2] := .of (by kernel_rfl)
theorem a3100 : TblA F Kf 3 1 0 0 5 [4,1] := .of (by kernel_rfl)
theorem a3101 : TblA F Kf 3 1 0 1 6 [4,1,1] := .of (by kernel_rfl)
theorem a3102 : TblA F Kf 3 1 0 2 7 [4,2,1] := .of (by kernel_rfl)
theorem a3110 : TblA F Kf 3 1 1 0 6 [4,1,1] := .of (by kernel_rfl)
theorem a3111 : TblA F Kf 3 1 1 1 7 [4,1,1,1] := .of (by kernel_rfl)
theorem a3112 : TblA F Kf 3 1 1 2 8 [4,2,1,1] := .of (by kernel_rfl)
theorem a3120 : TblA F Kf 3 1 2 0 7 [4,2,1] := .of (by kernel_rfl)
theorem a3121 : TblA F Kf 3 1 2 1 8 [4,2,1,1] := .of (by kernel_rfl)
theorem a3122 : TblA F Kf 3 1 2 2 9 [4,2,2,1] := .of (by kernel_rfl)
theorem a3130 : TblA F Kf 3 1 3 0 8 [4,3,1] := .of (by kernel_rfl)
theorem a3131 : TblA F Kf 3 1 3 1 9 [4,3,1,1] := .of (by kernel_rfl)
theorem a3132 : TblA F Kf 3 1 3 2 10 [4,3,2,1] := .of (by kernel_rfl)
theorem a3200 : TblA F Kf 3 2 0 0 6 [4,2] := .of (by kernel_rfl)
theorem a3201 : TblA F Kf 3 2 0 1 7 [4,2,1] := .of (by kernel_rfl)
theorem a3202 : TblA F Kf 3 2 0 2 8 [4,2,2] := .of (by kernel_rfl)
theorem a3210 : TblA F Kf 3 2 1 0 7 [4,2,1] := .of (by kernel_rfl)
theorem a3211 : TblA F Kf 3 2 1 1 8 [4,2,1,1] := .of (by kernel_rfl)
theorem a3212 : TblA F Kf 3 2 1 2 9 [4,2,2,1] := .of (by kernel_rfl)
theorem a3220 : TblA F Kf 3 2 2 0 8 [4,2,2] := .of (by kernel_rfl)
theorem a3221 : TblA F Kf 3 2 2 1 9 [4,2,2,1] := .of (by kernel_rfl)
theorem a3222 : TblA F Kf 3 2 2 2 10 [4,2,2,2] := .of (by kernel_rfl)
theorem a3230 : TblA F Kf 3 2 3 0 9 [4,3,2] := .of (by kernel_rfl)
theorem a3231 : TblA F Kf 3 2 3 1 10 [4,3,2,1] := .of (by kernel_rfl)
theorem a3232 : TblA F Kf 3 2 3 2 11 [4,3,2,2] := .of (by kernel_rfl)
theorem a3300 : TblA F Kf 3 3 0 0 7 [4,3] := .of (by kernel_rfl)
theorem a3301 : TblA F Kf 3 3 0 1 8 [4,3,1] := .of (by kernel_rfl)
theorem a3302 : TblA F Kf 3 3 0 2 9 [4,3,2] := .of (by kernel_rfl)
theorem a3310 : TblA F Kf 3 3 1 0 8 [4,3,1] := .of (by kernel_rfl)
theorem a3311 : TblA F Kf 3 3 1 1 9 [4,3,1,1] := .of (by kernel_rfl)
theorem a3312 : TblA F Kf 3 3 1 2 10 [4,3,2,1] := .of (by kernel_rfl)
theorem a3320 : TblA F Kf 3 3 2 0 9 [4,3,2] := .of (by kernel_rfl)
theorem a3321 : TblA F Kf 3 3 2 1 10 [4,3,2,1] := .of (by kernel_rfl)
theorem a3322 : TblA F Kf 3 3 2 2 11 [4,3,2,2] := .of (by kernel_rfl)
theorem a3330 : TblA F Kf 3 3 3 0 10 [4,3,3] := .of (by kernel_rfl)
theorem a3331 : TblA F Kf 3 3 3 1 11 [4,3,3,1] := .of (by kernel_rfl)
theorem a3332 : TblA F Kf 3 3 3 2 12 [4,3,3,2] := .of (by kernel_rfl)
theorem a4000 : TblA F Kf 4 0 0 0 5 [5] := .of (by kernel_rfl)
theorem a4001 : TblA F Kf 4 0 0 1 6 [5,1] := .of (by kernel_rfl)
theorem a4002 : TblA F Kf 4 0 0 2 7 [5,2] := .of (by kernel_rfl)
theorem a4010 : TblA F Kf 4 0 1 0 6 [5,1] := .of (by kernel_rfl)
theorem a4011 : TblA F Kf 4 0 1 1 7 [5,1,1] := .of (by kernel_rfl)
theorem a4012 : TblA F Kf 4 0 1 2 8 [5,2,1] := .of (by kernel_rfl)
theorem a4020 : TblA F Kf 4 0 2 0 7 [5,2] := .of (by kernel_rfl)
theorem a4021 : TblA F Kf 4 0 2 1 8 [5,2,1] := .of (by kernel_rfl)
theorem a4022 : TblA F Kf 4 0 2 2 9 [5,2,2] := .of (by kernel_rfl)
theorem a4030 : TblA F Kf 4 0 3 0 8 [5,3] := .of (by kernel_rfl)
theorem a4031 : TblA F Kf 4 0 3 1 9 [5,3,1] := .of (by kernel_rfl)
theorem a4032 : TblA F Kf 4 0 3 2 10 [5,3,2] := .of (by kernel_rfl)
theorem a4100 : TblA F Kf 4 1 0 0 6 [5,1] := .of (by kernel_rfl)
theorem a4101 : TblA F Kf 4 1 0 1 7 [5,1,1] := .of (by kernel_rfl)
theorem a4102 : TblA F Kf 4 1 0 2 8 [5,2,1] := .of (by kernel_rfl)
theorem a4110 : TblA F Kf 4 1 1 0 7 [5,1,1] := .of (by kernel_rfl)
theorem a4111 : TblA F Kf 4 1 1 1 8 [5,1,1,1] := .of (by kernel_rfl)
theorem a4112 : TblA F Kf 4 1 1 2 9 [5,2,1,1] := .of (by kernel_rfl)
theorem a4120 : TblA F Kf 4 1 2 0 8 [5,2,1] := .of (by kernel_rfl)
theorem a4121 : TblA F Kf 4 1 2 1 9 [5,2,1,1] := .of (by kernel_rfl)
theorem a4122 : TblA F Kf 4 1 2 2 10 [5,2,2,1] := .of (by kernel_rfl)
theorem a4130 : TblA F Kf 4 1 3 0 9 [5,3,1] := .of (by kernel_rfl)
theorem a4131 : TblA F Kf 4 1 3 1 10 [5,3,1,1] := .of (by kernel_rfl)
theorem a4132 : TblA F Kf 4 1 3 2 11 [5,3,2,1] := .of (by kernel_rfl)
theorem a4200 : TblA F Kf 4 2 0 0 7 [5,2] := .of (by kernel_rfl)
theorem a4201 : TblA F Kf 4 2 0 1 8 [5,2,1] := .of (by kernel_rfl)
theorem a4202 : TblA F Kf 4 2 0 2 9 [5,2,2] := .of (by kernel_rfl)
theorem a4210 : TblA F Kf 4 2 1 0 8 [5,2,1] := .of (by kernel_rfl)
theorem a4211 : TblA F Kf 4 2 1 1 9 [5,2,1,1] := .of (by kernel_rfl)
theorem a4212 : TblA F Kf 4 2 1 2 10 [5,2,2,1] := .of (by kernel_rfl)
theorem a4220 : TblA F Kf 4 2 2 0 9 [5,2,2] := .of (by kernel_rfl)
theorem a4221 : TblA F Kf 4 2 2 1 10 [5,2,2,1] := .of (by kernel_rfl)
theorem a4222 : TblA F Kf 4 2 2 2 11 [5,2,2,2] := .of (by kernel_rfl)
theorem a4230 : TblA F Kf 4 2 3 0 10 [5,3,2] := .of (by kernel_rfl)
theorem a4231 : TblA F Kf 4 2 3 1 11 [5,3,2,1] := .of (by kernel_rfl)
theorem a4232 : TblA F Kf 4 2 3 2 12 [5,3,2,2] := .of (by kernel_rfl)
theorem a4300 : TblA F Kf 4 3 0 0 8 [5,3] := .of (by kernel_rfl)
theorem a4301 : TblA F Kf 4 3 0 1 9 [5,3,1] := .of (by kernel_rfl)
theorem a4302 : TblA F Kf 4 3 0 2 10 [5,3,2] := .of (by kernel_rfl)
theorem a4310 : TblA F Kf 4 3 1 0 9 [5,3,1] := .of (by kernel_rfl)
theorem a4311 : TblA F Kf 4 3 1 1 10 [5,3,1,1] := .of (by kernel_rfl)
theorem a4312 : TblA F Kf 4 3 1 2 11 [5,3,2,1] := .of (by kernel_rfl)
theorem a4320 : TblA F Kf 4 3 2 0 10 [5,3,2] := .of (by kernel_rfl)
theorem a4321 : TblA F Kf 4 3 2 1 11 [5,3,2,1] := .of (by kernel_rfl)
theorem a4322 : TblA F Kf 4 3 2 2 12 [5,3,2,2] := .of (by kernel_rfl)
theorem a4330 : TblA F Kf 4 3 3 0 11 [5,3,3] := .of (by kernel_rfl)
theorem a4331 : TblA F Kf 4 3 3 1 12 [5,3,3,1] := .of (by kernel_rfl)
theorem a4332 : TblA F Kf 4 3 3 2 13 [5,3,3,2] := .of (by kernel_rfl)
theorem b1_1 : TblB9 F Kf 1 1 w1_1 := .mk (by kernel_rfl) (by kernel_rfl) (by kernel_rfl) (by kernel_rfl) (by kernel_rfl) (by kernel_rfl) (by kernel_rfl) (by kernel_rfl) (by kernel_rfl)
theorem b2_1 : TblB9 F Kf 2 1 w2_1 := .mk (by kernel_rfl) (by kernel_rfl) (by kernel_rfl) (by kernel_rfl) (by kernel_rfl) (by kernel_rfl) (by kernel_rfl) (by kernel_rfl) (by kernel_rfl)
theorem b2_2 : TblB9 F Kf 2 2 w2_2 := .mk (by kernel_rfl) (by kernel_rfl) (by kernel_rfl) (by kernel_rfl) (by kernel_rfl) (by kernel_rfl) (by kernel_rfl) (by kernel_rfl) (by kernel_rfl)
theorem b3_1 : TblB9 F Kf 3 1 w3_1 := .mk (by kernel_rfl) (by kernel_rfl) (by kernel_rfl) (by kernel_rfl) (by kernel_rfl) (by kernel_rfl) (by kernel_rfl) (by kernel_rfl) (by kernel_rfl)
theorem b3_2 : TblB9 F Kf 3 2 w3_2 := .mk (by kernel_rfl) (by kernel_rfl) (by kernel_rfl) (by kernel_rfl) (by kernel_rfl) (by kernel_rfl) (by kernel_rfl) (by kernel_rfl) (by kernel_rfl)
theorem b3_3 : TblB9 F Kf 3 3 w3_3 := .mk (by kernel_rfl) (by kernel_rfl) (by kernel_rfl) (by kernel_rfl) (by kernel_rfl) (by kernel_rfl) (by kernel_rfl) (by kernel_rfl) (by kernel_rfl)
theorem b4_1 : TblB9 F Kf 4 1 w4_1 := .mk (by kernel_rfl) (by kernel_rfl) (by kernel_rfl) (by kernel_rfl) (by kernel_rfl) (by kernel_rfl) (by kernel_rfl) (by kernel_rfl) (by kernel_rfl)
theorem b4_2 : TblB9 F Kf 4 2 w4_2 := .mk (by kernel_rfl) (by kernel_rfl) (by kernel_rfl) (by kernel_rfl) (by kernel_rfl) (by kernel_rfl) (by kernel_rfl) (by kernel_rfl) (by kernel_rfl)
theorem b4_3 : TblB9 F Kf 4 3 w4_3 := .mk (by kernel_rfl) (by kernel_rfl) (by kernel_rfl) (by kernel_rfl) (by kernel_rfl) (by kernel_rfl) (by kernel_rfl) (by kernel_rfl) (by kernel_rfl)
theorem b4_4 : TblB9 F Kf 4 4 w4_4 := .mk (by kernel_rfl) (by kernel_rfl) (by kernel_rfl) (by kernel_rfl) (by kernel_rfl) (by kernel_rfl) (by kernel_rfl) (by kernel_rfl) (by kernel_rfl)
theorem b5_2 : TblB9 F Kf 5 2 w5_2 := .mk (by kernel_rfl) (by kernel_rfl) (by kernel_rfl) (by kernel_rfl) (by kernel_rfl) (by kernel_rfl) (by kernel_rfl) (by kernel_rfl) (by kernel_rfl)
theorem b5_3 : TblB9 F Kf 5 3 w5_3 := .mk (by kernel_rfl) (by kernel_rfl) (by kernel_rfl) (by kernel_rfl) (by kernel_rfl) (by kernel_rfl) (by kernel_rfl) (by kernel_rfl) (by kernel_rfl)
theorem b5_4 : TblB9 F Kf 5 4 w5_4 := .mk (by kernel_rfl) (by kernel_rfl) (by kernel_rfl) (by kernel_rfl) (by kernel_rfl) (by kernel_rfl) (by kernel_rfl) (by kernel_rfl) (by kernel_rfl)
theorem b5_5 : TblB9 F Kf 5 5 w5_5 := .mk (by kernel_rfl) (by kernel_rfl) (by kernel_rfl) (by kernel_rfl) (by kernel_rfl) (by kernel_rfl) (by kernel_rfl) (by kernel_rfl) (by kernel_rfl)
theorem b6_2 : TblB9 F Kf 6 2 w6_2 := .mk (by kernel_rfl) (by kernel_rfl) (by kernel_rfl) (by kernel_rfl) (by kernel_rfl) (by kernel_rfl) (by kernel_rfl) (by kernel_rfl) (by kernel_rfl)
theorem b6_3 : TblB9 F Kf 6 3 w6_3 := .mk (by kernel_rfl) (by kernel_rfl) (by kernel_rfl) (by kernel_rfl) (by kernel_rfl) (by kernel_rfl) (by kernel_rfl) (by kernel_rfl) (by kernel_rfl)
theorem b6_4 : TblB9 F Kf 6 4 w6_4 := .mk (by kernel_rfl) (by kernel_rfl) (by kernel_rfl) (by kernel_rfl) (by kernel_rfl) (by kernel_rfl) (by kernel_rfl) (by kernel_rfl) (by kernel_rfl)
theorem b6_5 : TblB9 F Kf 6 5 w6_5 := .mk (by kernel_rfl) (by kernel_rfl) (by kernel_rfl) (by kernel_rfl) (by kernel_rfl) (by kernel_rfl) (by kernel_rfl) (by kernel_rfl) (by kernel_rfl)
theorem b7_2 : TblB9 F Kf 7 2 w7_2 := .mk (by kernel_rfl) (by kernel_rfl) (by kernel_rfl) (by kernel_rfl) (by kernel_rfl) (by kernel_rfl) (by kernel_rfl) (by kernel_rfl) (by kernel_rfl)
theorem b7_3 : TblB9 F Kf 7 3 w7_3 := .mk (by kernel_rfl) (by kernel_rfl) (by kernel_rfl) (by kernel_rfl) (by kernel_rfl) (by kernel_rfl) (by kernel_rfl) (by kernel_rfl) (by kernel_rfl)
theorem b7_4 : TblB9 F Kf 7 4 w7_4 := .mk (by kernel_rfl) (by kernel_rfl) (by kernel_rfl) (by kernel_rfl) (by kernel_rfl) (by kernel_rfl) (by kernel_rfl) (by kernel_rfl) (by kernel_rfl)
theorem b7_5 : TblB9 F Kf 7 5 w7_5 := .mk (by kernel_rfl) (by kernel_rfl) (by kernel_rfl) (by kernel_rfl) (by kernel_rfl) (by kernel_rfl) (by kernel_rfl) (by kernel_rfl) (by kernel_rfl)
theorem b8_2 : TblB9 F Kf 8 2 w8_2 := .mk (by kernel_rfl) (by kernel_rfl) (by kernel_rfl) (by kernel_rfl) (by kernel_rfl) (by kernel_rfl) (by kernel_rfl) (by kernel_rfl) (by kernel_rfl)
theorem b8_3 : TblB9 F Kf 8 3 w8_3 := .mk (by kernel_rfl) (by kernel_rfl) (by kernel_rfl) (by kernel_rfl) (by kernel_rfl) (by kernel_rfl) (by kernel_rfl) (by kernel_rfl) (by kernel_rfl)
theorem b8_4 : TblB9 F Kf 8 4 w8_4 := .mk (by kernel_rfl) (by kernel_rfl) (by kernel_rfl) (by kernel_rfl) (by kernel_rfl) (by kernel_rfl) (by kernel_rfl) (by kernel_rfl) (by kernel_rfl)
theorem b8_5 : TblB9 F Kf 8 5 w8_5 := .mk (by kernel_rfl) (by kernel_rfl) (by kernel_rfl) (by kernel_rfl) (by kernel_rfl) (by kernel_rfl) (by kernel_rfl) (by kernel_rfl) (by kernel_rfl)
theorem b9_3 : TblB9 F Kf 9 3 w9_3 := .mk (by kernel_rfl) (by kernel_rfl) (by kernel_rfl) (by kernel_rfl) (by kernel_rfl) (by kernel_rfl) (by kernel_rfl) (by kernel_rfl) (by kernel_rfl)
theorem b9_4 : TblB9 F Kf 9 4 w9_4 := .mk (by kernel_rfl) (by kernel_rfl) (by kernel_rfl) (by kernel_rfl) (by kernel_rfl) (by kernel_rfl) (by kernel_rfl) (by kernel_rfl) (by kernel_rfl)
theorem b9_5 : TblB9 F Kf 9 5 w9_5 := .mk (by kernel_rfl) (by kernel_rfl) (by kernel_rfl) (by kernel_rfl) (by kernel_rfl) (by kernel_rfl) (by kernel_rfl) (by kernel_rfl) (by kernel_rfl)
theorem b10_3 : TblB9 F Kf 10 3 w10_3 := .mk (by kernel_rfl) (by kernel_rfl) (by kernel_rfl) (by kernel_rfl) (by kernel_rfl) (by kernel_rfl) (by kernel_rfl) (by kernel_rfl) (by kernel_rfl)
theorem b10_4 : TblB9 F Kf 10 4 w10_4 := .mk (by kernel_rfl) (by kernel_rfl) (by kernel_rfl) (by kernel_rfl) (by kernel_rfl) (by kernel_rfl) (by kernel_rfl) (by kernel_rfl) (by kernel_rfl)
theorem b10_5 : TblB9 F Kf 10 5 w10_5 := .mk (by kernel_rfl) (by kernel_rfl) (by kernel_rfl) (by kernel_rfl) (by kernel_rfl) (by kernel_rfl) (by kernel_rfl) (by kernel_rfl) (by kernel_rfl)
theorem b11_3 : TblB9 F Kf 11 3 w11_3 := .mk (by kernel_rfl) (by kernel_rfl) (by kernel_rfl) (by kernel_rfl) (by kernel_rfl) (by kernel_rfl) (by kernel_rfl) (by kernel_rfl) (by kernel_rfl)
theorem b11_4 : TblB9 F Kf 11 4 w11_4 := .mk (by kernel_rfl) (by kernel_rfl) (by kernel_rfl) (by kernel_rfl) (by kernel_rfl) (by kernel_rfl) (by kernel_rfl) (by kernel_rfl) (by kernel_rfl)
theorem b11_5 : TblB9 F Kf 11 5 w11_5 := .mk (by kernel_rfl) (by kernel_rfl) (by kernel_rfl) (by kernel_rfl) (by kernel_rfl) (by kernel_rfl) (by kernel_rfl) (by kernel_rfl) (by kernel_rfl)
theorem b12_4 : TblB9 F Kf 12 4 w12_4 := .mk (by kernel_rfl) (by kernel_rfl) (by kernel_rfl) (by kernel_rfl) (by kernel_rfl) (by kernel_rfl) (by kernel_rfl) (by kernel_rfl) (by kernel_rfl)
theorem b12_5 : TblB9 F Kf 12 5 w12_5 := .mk (by kernel_rfl) (by kernel_rfl) (by kernel_rfl) (by kernel_rfl) (by kernel_rfl) (by kernel_rfl) (by kernel_rfl) (by kernel_rfl) (by kernel_rfl)
theorem b13_5 : TblB9 F Kf 13 5 w13_5 := .mk (by kernel_rfl) (by kernel_rfl) (by kernel_rfl) (by kernel_rfl) (by kernel_rfl) (by kernel_rfl) (by kernel_rfl) (by kernel_rfl) (by kernel_rfl)
theorem c1 : TblC F Kf 1 [1] [1,0] [] 0 := .of (by kernel_rfl)
theorem c11 : TblC F Kf 2 [1,1] [1,0,0] [] 0 := .of (by kernel_rfl)
theorem c111 : TblC F Kf 3 [1,1,1] [1,0,0,0] [] 0 := .of (by kernel_rfl)
theorem c1111 : TblC F Kf 4 [1,1,1,1] [1,0,0,0,0] [] 0 := .of (by kernel_rfl)
theorem c2 : TblC F Kf 2 [2] [1,0,0] [[1,1,1]] 1 := .of (by kernel_rfl)
theorem c21 : TblC F Kf 3 [2,1] [1,0,0,0] [[1,1,1,1]] 1 := .of (by kernel_rfl)
theorem c211 : TblC F Kf 4 [2,1,1] [1,0,0,0,0] [[1,1,1,1,1]] 1 := .of (by kernel_rfl)
theorem c2111 : TblC F Kf 5 [2,1,1,1] [1,0,0,0,0,0] [[1,1,1,1,1,1]] 1 := .of (by kernel_rfl)
theorem c22 : TblC F Kf 4 [2,2] [1,0,0,0,0] [[1,1,1,1,1]] 2 := .of (by kernel_rfl)
theorem c221 : TblC F Kf 5 [2,2,1] [1,0,0,0,0,0] [[1,1,1,1,1,1]] 2 := .of (by kernel_rfl)
theorem c2211 : TblC F Kf 6 [2,2,1,1] [1,0,0,0,0,0,0] [[1,1,1,1,1,1,1]] 2 := .of (by kernel_rfl)
theorem c222 : TblC F Kf 6 [2,2,2] [1,0,0,0,0,0,0] [[1,1,1,1,1,1,1]] 3 := .of (by kernel_rfl)
theorem c2221 : TblC F Kf 7 [2,2,2,1] [1,0,0,0,0,0,0,0] [[1,1,1,1,1,1,1,1]] 3 := .of (by kernel_rfl)
theorem c2222 : TblC F Kf 8 [2,2,2,2] [1,0,0,0,0,0,0,0,0] [[1,1,1,1,1,1,1,1,1]] 4 := .of (by kernel_rfl)
theorem c3 : TblC F Kf 3 [3] [1,0,0,0] [[1,1,1,1],[1,1,2,2]] 2 := .of (by kernel_rfl)
theorem c31 : TblC F Kf 4 [3,1] [1,0,0,0,0] [[1,1,1,1,1],[1,1,2,2,3]] 3 := .of (by kernel_rfl)
theorem c311 : TblC F Kf 5 [3,1,1] [1,0,0,0,0,0] [[1,1,1,1,1,1],[1,1,2,2,3,3]] 3 := .of (by kernel_rfl)
theorem c3111 : TblC F Kf 6 [3,1,1,1] [1,0,0,0,0,0,0] [[1,1,1,1,1,1,1],[1,1,2,2,3,3,4]] 4 := .of (by kernel_rfl)
theorem c32 : TblC F Kf 5 [3,2] [1,0,0,0,0,0] [[1,1,1,1,1,1],[1,1,2,2,3,3]] 4 := .of (by kernel_rfl)
theorem c321 : TblC F Kf 6 [3,2,1] [1,0,0,0,0,0,0] [[1,1,1,1,1,1,1],[1,1,2,2,3,3,4]] 5 := .of (by kernel_rfl)
theorem c3211 : TblC F Kf 7 [3,2,1,1] [1,0,0,0,0,0,0,0] [[1,1,1,1,1,1,1,1],[1,1,2,2,3,3,4,4]] 5 := .of (by kernel_rfl)
theorem c322 : TblC F Kf 7 [3,2,2] [1,0,0,0,0,0,0,0] [[1,1,1,1,1,1,1,1],[1,1,2,2,3,3,4,4]] 6 := .of (by kernel_rfl)
theorem c3221 : TblC F Kf 8 [3,2,2,1] [1,0,0,0,0,0,0,0,0] [[1,1,1,1,1,1,1,1,1],[1,1,2,2,3,3,4,4,5]] 7 := .of (by kernel_rfl)
theorem c3222 : TblC F Kf 9 [3,2,2,2] [1,0,0,0,0,0,0,0,0,0] [[1,1,1,1,1,1,1,1,1,1],[1,1,2,2,3,3,4,4,5,5]] 8 := .of (by kernel_rfl)
theorem c33 : TblC F Kf 6 [3,3] [1,0,0,0,0,0,0] [[1,1,1,1,1,1,1],[1,1,2,2,3,3,4]] 6 := .of (by kernel_rfl)
theorem c331 : TblC F Kf 7 [3,3,1] [1,0,0,0,0,0,0,0] [[1,1,1,1,1,1,1,1],[1,1,2,2,3,3,4,4]] 7 := .of (by kernel_rfl)
theorem c3311 : TblC F Kf 8 [3,3,1,1] [1,0,0,0,0,0,0,0,0] [[1,1,1,1,1,1,1,1,1],[1,1,2,2,3,3,4,4,5]] 8 := .of (by kernel_rfl)
theorem c332 : TblC F Kf 8 [3,3,2] [1,0,0,0,0,0,0,0,0] [[1,1,1,1,1,1,1,1,1],[1,1,2,2,3,3,4,4,5]] 9 := .of (by kernel_rfl)
theorem c3321 : TblC F Kf 9 [3,3,2,1] [1,0,0,0,0,0,0,0,0,0] [[1,1,1,1,1,1,1,1,1,1],[1,1,2,2,3,3,4,4,5,5]] 10 := .of (by kernel_rfl)
theorem c3322 : TblC F Kf 10 [3,3,2,2] [1,0,0,0,0,0,0,0,0,0,0] [[1,1,1,1,1,1,1,1,1,1,1],[1,1,2,2,3,3,4,4,5,5,6]] 12 := .of (by kernel_rfl)
theorem c333 : TblC F Kf 9 [3,3,3] [1,0,0,0,0,0,0,0,0,0] [[1,1,1,1,1,1,1,1,1,1],[1,1,2,2,3,3,4,4,5,5]] 11 := .of (by kernel_rfl)
theorem c3331 : TblC F Kf 10 [3,3,3,1] [1,0,0,0,0,0,0,0,0,0,0] [[1,1,1,1,1,1,1,1,1,1,1],[1,1,2,2,3,3,4,4,5,5,6]] 13 := .of (by kernel_rfl)
theorem c3332 : TblC F Kf 11 [3,3,3,2] [1,0,0,0,0,0,0,0,0,0,0,0] [[1,1,1,1,1,1,1,1,1,1,1,1],[1,1,2,2,3,3,4,4,5,5,6,6]] 15 := .of (by kernel_rfl)
theorem c4 : TblC F Kf 4 [4] [1,0,0,0,0] [[1,1,1,1,1],[1,1,2,2,3],[1,1,2,3,4]] 4 := .of (by kernel_rfl)
theorem c41 : TblC F Kf 5 [4,1] [1,0,0,0,0,0] [[1,1,1,1,1,1],[1,1,2,2,3,3],[1,1,2,3,4,5]] 5 := .of (by kernel_rfl)
theorem c411 : TblC F Kf 6 [4,1,1] [1,0,0,0,0,0,0] [[1,1,1,1,1,1,1],[1,1,2,2,3,3,4],[1,1,2,3,4,5,7]] 7 := .of (by kernel_rfl)
theorem c4111 : TblC F Kf 7 [4,1,1,1] [1,0,0,0,0,0,0,0] [[1,1,1,1,1,1,1,1],[1,1,2,2,3,3,4,4],[1,1,2,3,4,5,7,8]] 8 := .of (by kernel_rfl)
theorem c42 : TblC F Kf 6 [4,2] [1,0,0,0,0,0,0] [[1,1,1,1,1,1,1],[1,1,2,2,3,3,4],[1,1,2,3,4,5,7]] 8 := .of (by kernel_rfl)
theorem c421 : TblC F Kf 7 [4,2,1] [1,0,0,0,0,0,0,0] [[1,1,1,1,1,1,1,1],[1,1,2,2,3,3,4,4],[1,1,2,3,4,5,7,8]] 9 := .of (by kernel_rfl)
theorem c4211 : TblC F Kf 8 [4,2,1,1] [1,0,0,0,0,0,0,0,0] [[1,1,1,1,1,1,1,1,1],[1,1,2,2,3,3,4,4,5],[1,1,2,3,4,5,7,8,10]] 11 := .of (by kernel_rfl)
theorem c422 : TblC F Kf 8 [4,2,2] [1,0,0,0,0,0,0,0,0] [[1,1,1,1,1,1,1,1,1],[1,1,2,2,3,3,4,4,5],[1,1,2,3,4,5,7,8,10]] 12 := .of (by kernel_rfl)
theorem c4221 : TblC F Kf 9 [4,2,2,1] [1,0,0,0,0,0,0,0,0,0] [[1,1,1,1,1,1,1,1,1,1],[1,1,2,2,3,3,4,4,5,5],[1,1,2,3,4,5,7,8,10,12]] 14 := .of (by kernel_rfl)
theorem c4222 : TblC F Kf 10 [4,2,2,2] [1,0,0,0,0,0,0,0,0,0,0] [[1,1,1,1,1,1,1,1,1,1,1],[1,1,2,2,3,3,4,4,5,5,6],[1,1,2,3,4,5,7,8,10,12,14]] 17 := .of (by kernel_rfl)
theorem c43 : TblC F Kf 7 [4,3] [1,0,0,0,0,0,0,0] [[1,1,1,1,1,1,1,1],[1,1,2,2,3,3,4,4],[1,1,2,3,4,5,7,8]] 10 := .of (by kernel_rfl)
theorem c431 : TblC F Kf 8 [4,3,1] [1,0,0,0,0,0,0,0,0] [[1,1,1,1,1,1,1,1,1],[1,1,2,2,3,3,4,4,5],[1,1,2,3,4,5,7,8,10]] 13 := .of (by kernel_rfl)
theorem c4311 : TblC F Kf 9 [4,3,1,1] [1,0,0,0,0,0,0,0,0,0] [[1,1,1,1,1,1,1,1,1,1],[1,1,2,2,3,3,4,4,5,5],[1,1,2,3,4,5,7,8,10,12]] 15 := .of (by kernel_rfl)
theorem c432 : TblC F Kf 9 [4,3,2] [1,0,0,0,0,0,0,0,0,0] [[1,1,1,1,1,1,1,1,1,1],[1,1,2,2,3,3,4,4,5,5],[1,1,2,3,4,5,7,8,10,12]] 16 := .of (by kernel_rfl)
theorem c4321 : TblC F Kf 10 [4,3,2,1] [1,0,0,0,0,0,0,0,0,0,0] [[1,1,1,1,1,1,1,1,1,1,1],[1,1,2,2,3,3,4,4,5,5,6],[1,1,2,3,4,5,7,8,10,12,14]] 19 := .of (by kernel_rfl)
theorem c4322 : TblC F Kf 11 [4,3,2,2] [1,0,0,0,0,0,0,0,0,0,0,0] [[1,1,1,1,1,1,1,1,1,1,1,1],[1,1,2,2,3,3,4,4,5,5,6,6],[1,1,2,3,4,5,7,8,10,12,14,16]] 22 := .of (by kernel_rfl)
theorem c433 : TblC F Kf 10 [4,3,3] [1,0,0,0,0,0,0,0,0,0,0] [[1,1,1,1,1,1,1,1,1,1,1],[1,1,2,2,3,3,4,4,5,5,6],[1,1,2,3,4,5,7,8,10,12,14]] 20 := .of (by kernel_rfl)
theorem c4331 : TblC F Kf 11 [4,3,3,1] [1,0,0,0,0,0,0,0,0,0,0,0] [[1,1,1,1,1,1,1,1,1,1,1,1],[1,1,2,2,3,3,4,4,5,5,6,6],[1,1,2,3,4,5,7,8,10,12,14,16]] 23 := .of (by kernel_rfl)
theorem c4332 : TblC F Kf 12 [4,3,3,2] [1,0,0,0,0,0,0,0,0,0,0,0,0] [[1,1,1,1,1,1,1,1,1,1,1,1,1],[1,1,2,2,3,3,4,4,5,5,6,6,7],[1,1,2,3,4,5,7,8,10,12,14,16,19]] 28 := .of (by kernel_rfl)
theorem c5 : TblC F Kf 5 [5] [1,0,0,0,0,0] [[1,1,1,1,1,1],[1,1,2,2,3,3],[1,1,2,3,4,5],[1,1,2,3,5,6]] 6 := .of (by kernel_rfl)
theorem c51 : TblC F Kf 6 [5,1] [1,0,0,0,0,0,0] [[1,1,1,1,1,1,1],[1,1,2,2,3,3,4],[1,1,2,3,4,5,7],[1,1,2,3,5,6,9]] 9 := .of (by kernel_rfl)
theorem c511 : TblC F Kf 7 [5,1,1] [1,0,0,0,0,0,0,0] [[1,1,1,1,1,1,1,1],[1,1,2,2,3,3,4,4],[1,1,2,3,4,5,7,8],[1,1,2,3,5,6,9,11]] 11 := .of (by kernel_rfl)
theorem c5111 : TblC F Kf 8 [5,1,1,1] [1,0,0,0,0,0,0,0,0] [[1,1,1,1,1,1,1,1,1],[1,1,2,2,3,3,4,4,5],[1,1,2,3,4,5,7,8,10],[1,1,2,3,5,6,9,11,15]] 15 := .of (by kernel_rfl)
theorem c52 : TblC F Kf 7 [5,2] [1,0,0,0,0,0,0,0] [[1,1,1,1,1,1,1,1],[1,1,2,2,3,3,4,4],[1,1,2,3,4,5,7,8],[1,1,2,3,5,6,9,11]] 12 := .of (by kernel_rfl)
theorem c521 : TblC F Kf 8 [5,2,1] [1,0,0,0,0,0,0,0,0] [[1,1,1,1,1,1,1,1,1],[1,1,2,2,3,3,4,4,5],[1,1,2,3,4,5,7,8,10],[1,1,2,3,5,6,9,11,15]] 16 := .of (by kernel_rfl)
theorem c5211 : TblC F Kf 9 [5,2,1,1] [1,0,0,0,0,0,0,0,0,0] [[1,1,1,1,1,1,1,1,1,1],[1,1,2,2,3,3,4,4,5,5],[1,1,2,3,4,5,7,8,10,12],[1,1,2,3,5,6,9,11,15,18]] 19 := .of (by kernel_rfl)
theorem c522 : TblC F Kf 9 [5,2,2] [1,0,0,0,0,0,0,0,0,0] [[1,1,1,1,1,1,1,1,1,1],[1,1,2,2,3,3,4,4,5,5],[1,1,2,3,4,5,7,8,10,12],[1,1,2,3,5,6,9,11,15,18]] 20 := .of (by kernel_rfl)
theorem c5221 : TblC F Kf 10 [5,2,2,1] [1,0,0,0,0,0,0,0,0,0,0] [[1,1,1,1,1,1,1,1,1,1,1],[1,1,2,2,3,3,4,4,5,5,6],[1,1,2,3,4,5,7,8,10,12,14],[1,1,2,3,5,6,9,11,15,18,23]] 25 := .of (by kernel_rfl)
theorem c5222 : TblC F Kf 11 [5,2,2,2] [1,0,0,0,0,0,0,0,0,0,0,0] [[1,1,1,1,1,1,1,1,1,1,1,1],[1,1,2,2,3,3,4,4,5,5,6,6],[1,1,2,3,4,5,7,8,10,12,14,16],[1,1,2,3,5,6,9,11,15,18,23,27]] 30 := .of (by kernel_rfl)
theorem c53 : TblC F Kf 8 [5,3] [1,0,0,0,0,0,0,0,0] [[1,1,1,1,1,1,1,1,1],[1,1,2,2,3,3,4,4,5],[1,1,2,3,4,5,7,8,10],[1,1,2,3,5,6,9,11,15]] 17 := .of (by kernel_rfl)
theorem c531 : TblC F Kf 9 [5,3,1] [1,0,0,0,0,0,0,0,0,0] [[1,1,1,1,1,1,1,1,1,1],[1,1,2,2,3,3,4,4,5,5],[1,1,2,3,4,5,7,8,10,12],[1,1,2,3,5,6,9,11,15,18]] 21 := .of (by kernel_rfl)
theorem c5311 : TblC F Kf 10 [5,3,1,1] [1,0,0,0,0,0,0,0,0,0,0] [[1,1,1,1,1,1,1,1,1,1,1],[1,1,2,2,3,3,4,4,5,5,6],[1,1,2,3,4,5,7,8,10,12,14],[1,1,2,3,5,6,9,11,15,18,23]] 26 := .of (by kernel_rfl)
theorem c532 : TblC F Kf 10 [5,3,2] [1,0,0,0,0,0,0,0,0,0,0] [[1,1,1,1,1,1,1,1,1,1,1],[1,1,2,2,3,3,4,4,5,5,6],[1,1,2,3,4,5,7,8,10,12,14],[1,1,2,3,5,6,9,11,15,18,23]] 27 := .of (by kernel_rfl)
theorem c5321 : TblC F Kf 11 [5,3,2,1] [1,0,0,0,0,0,0,0,0,0,0,0] [[1,1,1,1,1,1,1,1,1,1,1,1],[1,1,2,2,3,3,4,4,5,5,6,6],[1,1,2,3,4,5,7,8,10,12,14,16],[1,1,2,3,5,6,9,11,15,18,23,27]] 32 := .of (by kernel_rfl)
theorem c5322 : TblC F Kf 12 [5,3,2,2] [1,0,0,0,0,0,0,0,0,0,0,0,0] [[1,1,1,1,1,1,1,1,1,1,1,1,1],[1,1,2,2,3,3,4,4,5,5,6,6,7],[1,1,2,3,4,5,7,8,10,12,14,16,19],[1,1,2,3,5,6,9,11,15,18,23,27,34]] 40 := .of (by kernel_rfl)
theorem c533 : TblC F Kf 11 [5,3,3] [1,0,0,0,0,0,0,0,0,0,0,0] [[1,1,1,1,1,1,1,1,1,1,1,1],[1,1,2,2,3,3,4,4,5,5,6,6],[1,1,2,3,4,5,7,8,10,12,14,16],[1,1,2,3,5,6,9,11,15,18,23,27]] 33 := .of (by kernel_rfl)
theorem c5331 : TblC F Kf 12 [5,3,3,1] [1,0,0,0,0,0,0,0,0,0,0,0,0] [[1,1,1,1,1,1,1,1,1,1,1,1,1],[1,1,2,2,3,3,4,4,5,5,6,6,7],[1,1,2,3,4,5,7,8,10,12,14,16,19],[1,1,2,3,5,6,9,11,15,18,23,27,34]] 41 := .of (by kernel_rfl)
theorem c5332 : TblC F Kf 13 [5,3,3,2] [1,0,0,0,0,0,0,0,0,0,0,0,0,0] [[1,1,1,1,1,1,1,1,1,1,1,1,1,1],[1,1,2,2,3,3,4,4,5,5,6,6,7,7],[1,1,2,3,4,5,7,8,10,12,14,16,19,21],[1,1,2,3,5,6,9,11,15,18,23,27,34,39]] 48 := .of (by kernel_rfl)
theorem d1_1 : TblE F Kf 1 w1_1 0 [1] := .of (by kernel_rfl)
theorem d1_11 : TblE F Kf 2 w2_1 0 [1,1] := .of (by kernel_rfl)
theorem d2_11 : TblE F Kf 2 w2_2 0 [1,1] := .of (by kernel_rfl)
theorem d2_2 : TblD F Kf 2 w2_2 1 [2] 0 [1,1] := .of (cR [0,0,1]) (by kernel_rfl)
theorem d1_111 : TblE F Kf 3 w3_1 0 [1,1,1] := .of (by kernel_rfl)
theorem d2_111 : TblE F Kf 3 w3_2 0 [1,1,1] := .of (by kernel_rfl)
theorem d2_21 : TblD F Kf 3 w3_2 1 [2,1] 0 [1,1,1] := .of (cR [0,1,1]) (by kernel_rfl)
theorem d3_111 : TblE F Kf 3 w3_3 0 [1,1,1] := .of (by kernel_rfl)
theorem d3_21 : TblD F Kf 3 w3_3 1 [2,1] 0 [1,1,1] := .of (cR [0,1,1]) (by kernel_rfl)
theorem d3_3 : TblD F Kf 3 w3_3 2 [3] 1 [2,1] := .of (cR [0,0,0,1]) (by kernel_rfl)
theorem d1_1111 : TblE F Kf 4 w4_1 0 [1,1,1,1] := .of (by kernel_rfl)
theorem d2_1111 : TblE F Kf 4 w4_2 0 [1,1,1,1] := .of (by kernel_rfl)
theorem d2_211 : TblD F Kf 4 w4_2 1 [2,1,1] 0 [1,1,1,1] := .of (cR [0,2,1]) (by kernel_rfl)
theorem d2_22 : TblD F Kf 4 w4_2 2 [2,2] 1 [2,1,1] := .of (cR [0,0,2]) (by kernel_rfl)
theorem d3_1111 : TblE F Kf 4 w4_3 0 [1,1,1,1] := .of (by kernel_rfl)
theorem d3_211 : TblD F Kf 4 w4_3 1 [2,1,1] 0 [1,1,1,1] := .of (cR [0,2,1]) (by kernel_rfl)
theorem d3_22 : TblD F Kf 4 w4_3 2 [2,2] 1 [2,1,1] := .of (cR [0,0,2]) (by kernel_rfl)
theorem d3_31 : TblD F Kf 4 w4_3 3 [3,1] 2 [2,2] := .of (cR [0,1,0,1]) (by kernel_rfl)
theorem d4_1111 : TblE F Kf 4 w4_4 0 [1,1,1,1] := .of (by kernel_rfl)
theorem d4_211 : TblD F Kf 4 w4_4 1 [2,1,1] 0 [1,1,1,1] := .of (cR [0,2,1]) (by kernel_rfl)
theorem d4_22 : TblD F Kf 4 w4_4 2 [2,2] 1 [2,1,1] := .of (cR [0,0,2]) (by kernel_rfl)
theorem d4_31 : TblD F Kf 4 w4_4 3 [3,1] 2 [2,2] := .of (cR [0,1,0,1]) (by kernel_rfl)
theorem d4_4 : TblD F Kf 4 w4_4 4 [4] 3 [3,1] := .of (cR [0,0,0,0,1]) (by kernel_rfl)
theorem d2_11111 : TblE F Kf 5 w5_2 0 [1,1,1,1,1] := .of (by kernel_rfl)
theorem d2_2111 : TblD F Kf 5 w5_2 1 [2,1,1,1] 0 [1,1,1,1,1] := .of (cR [0,3,1]) (by kernel_rfl)
theorem d2_221 : TblD F Kf 5 w5_2 2 [2,2,1] 1 [2,1,1,1] := .of (cR [0,1,2]) (by kernel_rfl)
theorem d3_11111 : TblE F Kf 5 w5_3 0 [1,1,1,1,1] := .of (by kernel_rfl)
theorem d3_2111 : TblD F Kf 5 w5_3 1 [2,1,1,1] 0 [1,1,1,1,1] := .of (cR [0,3,1]) (by kernel_rfl)
theorem d3_221 : TblD F Kf 5 w5_3 2 [2,2,1] 1 [2,1,1,1] := .of (cR [0,1,2]) (by kernel_rfl)
theorem d3_311 : TblD F Kf 5 w5_3 3 [3,1,1] 2 [2,2,1] := .of (cR [0,2,0,1]) (by kernel_rfl)
theorem d3_32 : TblD F Kf 5 w5_3 4 [3,2] 3 [3,1,1] := .of (cR [0,0,1,1]) (by kernel_rfl)
theorem d4_2111 : TblD F Kf 5 w5_4 1 [2,1,1,1] 0 [1,1,1,1,1] := .of (cR [0,3,1]) (by kernel_rfl)
theorem d4_221 : TblD F Kf 5 w5_4 2 [2,2,1] 1 [2,1,1,1] := .of (cR [0,1,2]) (by kernel_rfl)
theorem d4_311 : TblD F Kf 5 w5_4 3 [3,1,1] 2 [2,2,1] := .of (cR [0,2,0,1]) (by kernel_rfl)
theorem d4_32 : TblD F Kf 5 w5_4 4 [3,2] 3 [3,1,1] := .of (cR [0,0,1,1]) (by kernel_rfl)
theorem d4_41 : TblD F Kf 5 w5_4 5 [4,1] 4 [3,2] := .of (cR [0,1,0,0,1]) (by kernel_rfl)
theorem d5_221 : TblD F Kf 5 w5_5 2 [2,2,1] 1 [2,1,1,1] := .of (cR [0,1,2]) (by kernel_rfl)
theorem d5_311 : TblD F Kf 5 w5_5 3 [3,1,1] 2 [2,2,1] := .of (cR [0,2,0,1]) (by kernel_rfl)
theorem d5_32 : TblD F Kf 5 w5_5 4 [3,2] 3 [3,1,1] := .of (cR [0,0,1,1]) (by kernel_rfl)
theorem d5_41 : TblD F Kf 5 w5_5 5 [4,1] 4 [3,2] := .of (cR [0,1,0,0,1]) (by kernel_rfl)
theorem d5_5 : TblD F Kf 5 w5_5 6 [5] 5 [4,1] := .of (cR [0,0,0,0,0,1]) (by kernel_rfl)
theorem d2_111111 : TblE F Kf 6 w6_2 0 [1,1,1,1,1,1] := .of (by kernel_rfl)
theorem d2_21111 : TblD F Kf 6 w6_2 1 [2,1,1,1,1] 0 [1,1,1,1,1,1] := .of (cR [0,4,1]) (by kernel_rfl)
theorem d2_2211 : TblD F Kf 6 w6_2 2 [2,2,1,1] 1 [2,1,1,1,1] := .of (cR [0,2,2]) (by kernel_rfl)
theorem d2_222 : TblD F Kf 6 w6_2 3 [2,2,2] 2 [2,2,1,1] := .of (cR [0,0,3]) (by kernel_rfl)
theorem d3_111111 : TblE F Kf 6 w6_3 0 [1,1,1,1,1,1] := .of (by kernel_rfl)
theorem d3_21111 : TblD F Kf 6 w6_3 1 [2,1,1,1,1] 0 [1,1,1,1,1,1] := .of (cR [0,4,1]) (by kernel_rfl)
theorem d3_2211 : TblD F Kf 6 w6_3 2 [2,2,1,1] 1 [2,1,1,1,1] := .of (cR [0,2,2]) (by kernel_rfl)
theorem d3_222 : TblD F Kf 6 w6_3 3 [2,2,2] 2 [2,2,1,1] := .of (cR [0,0,3]) (by kernel_rfl)
theorem d3_3111 : TblD F Kf 6 w6_3 4 [3,1,1,1] 3 [2,2,2] := .of (cR [0,3,0,1]) (by kernel_rfl)
theorem d3_321 : TblD F Kf 6 w6_3 5 [3,2,1] 4 [3,1,1,1] := .of (cR [0,1,1,1]) (by kernel_rfl)
theorem d3_33 : TblD F Kf 6 w6_3 6 [3,3] 5 [3,2,1] := .of (cR [0,0,0,2]) (by kernel_rfl)
theorem d4_222 : TblD F Kf 6 w6_4 3 [2,2,2] 2 [2,2,1,1] := .of (cR [0,0,3]) (by kernel_rfl)
theorem d4_3111 : TblD F Kf 6 w6_4 4 [3,1,1,1] 3 [2,2,2] := .of (cR [0,3,0,1]) (by kernel_rfl)
theorem d4_321 : TblD F Kf 6 w6_4 5 [3,2,1] 4 [3,1,1,1] := .of (cR [0,1,1,1]) (by kernel_rfl)
theorem d4_33 : TblD F Kf 6 w6_4 6 [3,3] 5 [3,2,1] := .of (cR [0,0,0,2]) (by kernel_rfl)
theorem d4_411 : TblD F Kf 6 w6_4 7 [4,1,1] 6 [3,3] := .of (cR [0,2,0,0,1]) (by kernel_rfl)
theorem d4_42 : TblD F Kf 6 w6_4 8 [4,2] 7 [4,1,1] := .of (cR [0,0,1,0,1]) (by kernel_rfl)
theorem d5_321 : TblD F Kf 6 w6_5 5 [3,2,1] 4 [3,1,1,1] := .of (cR [0,1,1,1]) (by kernel_rfl)
theorem d5_33 : TblD F Kf 6 w6_5 6 [3,3] 5 [3,2,1] := .of (cR [0,0,0,2]) (by kernel_rfl)
theorem d5_411 : TblD F Kf 6 w6_5 7 [4,1,1] 6 [3,3] := .of (cR [0,2,0,0,1]) (by kernel_rfl)
theorem d5_42 : TblD F Kf 6 w6_5 8 [4,2] 7 [4,1,1] := .of (cR [0,0,1,0,1]) (by kernel_rfl)
theorem d5_51 : TblD F Kf 6 w6_5 9 [5,1] 8 [4,2] := .of (cR [0,1,0,0,0,1]) (by kernel_rfl)
theorem d2_1111111 : TblE F Kf 7 w7_2 0 [1,1,1,1,1,1,1] := .of (by kernel_rfl)
theorem d2_211111 : TblD F Kf 7 w7_2 1 [2,1,1,1,1,1] 0 [1,1,1,1,1,1,1] := .of (cR [0,5,1]) (by kernel_rfl)
theorem d2_22111 : TblD F Kf 7 w7_2 2 [2,2,1,1,1] 1 [2,1,1,1,1,1] := .of (cR [0,3,2]) (by kernel_rfl)
theorem d2_2221 : TblD F Kf 7 w7_2 3 [2,2,2,1] 2 [2,2,1,1,1] := .of (cR [0,1,3]) (by kernel_rfl)
theorem d3_211111 : TblD F Kf 7 w7_3 1 [2,1,1,1,1,1] 0 [1,1,1,1,1,1,1] := .of (cR [0,5,1]) (by kernel_rfl)
theorem d3_22111 : TblD F Kf 7 w7_3 2 [2,2,1,1,1] 1 [2,1,1,1,1,1] := .of (cR [0,3,2]) (by kernel_rfl)
theorem d3_2221 : TblD F Kf 7 w7_3 3 [2,2,2,1] 2 [2,2,1,1,1] := .of (cR [0,1,3]) (by kernel_rfl)
theorem d3_31111 : TblD F Kf 7 w7_3 4 [3,1,1,1,1] 3 [2,2,2,1] := .of (cR [0,4,0,1]) (by kernel_rfl)
theorem d3_3211 : TblD F Kf 7 w7_3 5 [3,2,1,1] 4 [3,1,1,1,1] := .of (cR [0,2,1,1]) (by kernel_rfl)
theorem d3_322 : TblD F Kf 7 w7_3 6 [3,2,2] 5 [3,2,1,1] := .of (cR [0,0,2,1]) (by kernel_rfl)
theorem d3_331 : TblD F Kf 7 w7_3 7 [3,3,1] 6 [3,2,2] := .of (cR [0,1,0,2]) (by kernel_rfl)
theorem d4_31111 : TblD F Kf 7 w7_4 4 [3,1,1,1,1] 3 [2,2,2,1] := .of (cR [0,4,0,1]) (by kernel_rfl)
theorem d4_3211 : TblD F Kf 7 w7_4 5 [3,2,1,1] 4 [3,1,1,1,1] := .of (cR [0,2,1,1]) (by kernel_rfl)
theorem d4_322 : TblD F Kf 7 w7_4 6 [3,2,2] 5 [3,2,1,1] := .of (cR [0,0,2,1]) (by kernel_rfl)
theorem d4_331 : TblD F Kf 7 w7_4 7 [3,3,1] 6 [3,2,2] := .of (cR [0,1,0,2]) (by kernel_rfl)
theorem d4_4111 : TblD F Kf 7 w7_4 8 [4,1,1,1] 7 [3,3,1] := .of (cR [0,3,0,0,1]) (by kernel_rfl)
theorem d4_421 : TblD F Kf 7 w7_4 9 [4,2,1] 8 [4,1,1,1] := .of (cR [0,1,1,0,1]) (by kernel_rfl)
theorem d4_43 : TblD F Kf 7 w7_4 10 [4,3] 9 [4,2,1] := .of (cR [0,0,0,1,1]) (by kernel_rfl)
theorem d5_331 : TblD F Kf 7 w7_5 7 [3,3,1] 6 [3,2,2] := .of (cR [0,1,0,2]) (by kernel_rfl)
theorem d5_4111 : TblD F Kf 7 w7_5 8 [4,1,1,1] 7 [3,3,1] := .of (cR [0,3,0,0,1]) (by kernel_rfl)
theorem d5_421 : TblD F Kf 7 w7_5 9 [4,2,1] 8 [4,1,1,1] := .of (cR [0,1,1,0,1]) (by kernel_rfl)
theorem d5_43 : TblD F Kf 7 w7_5 10 [4,3] 9 [4,2,1] := .of (cR [0,0,0,1,1]) (by kernel_rfl)
theorem d5_511 : TblD F Kf 7 w7_5 11 [5,1,1] 10 [4,3] := .of (cR [0,2,0,0,0,1]) (by kernel_rfl)
theorem d5_52 : TblD F Kf 7 w7_5 12 [5,2] 11 [5,1,1] := .of (cR [0,0,1,0,0,1]) (by kernel_rfl)
theorem d2_11111111 : TblE F Kf 8 w8_2 0 [1,1,1,1,1,1,1,1] := .of (by kernel_rfl)
theorem d2_2111111 : TblD F Kf 8 w8_2 1 [2,1,1,1,1,1,1] 0 [1,1,1,1,1,1,1,1] := .of (cR [0,6,1]) (by kernel_rfl)
theorem d2_221111 : TblD F Kf 8 w8_2 2 [2,2,1,1,1,1] 1 [2,1,1,1,1,1,1] := .of (cR [0,4,2]) (by kernel_rfl)
theorem d2_22211 : TblD F Kf 8 w8_2 3 [2,2,2,1,1] 2 [2,2,1,1,1,1] := .of (cR [0,2,3]) (by kernel_rfl)
theorem d2_2222 : TblD F Kf 8 w8_2 4 [2,2,2,2] 3 [2,2,2,1,1] := .of (cR [0,0,4]) (by kernel_rfl)
theorem d3_22211 : TblD F Kf 8 w8_3 3 [2,2,2,1,1] 2 [2,2,1,1,1,1] := .of (cR [0,2,3]) (by kernel_rfl)
theorem d3_2222 : TblD F Kf 8 w8_3 4 [2,2,2,2] 3 [2,2,2,1,1] := .of (cR [0,0,4]) (by kernel_rfl)
theorem d3_311111 : TblD F Kf 8 w8_3 5 [3,1,1,1,1,1] 4 [2,2,2,2] := .of (cR [0,5,0,1]) (by kernel_rfl)
theorem d3_32111 : TblD F Kf 8 w8_3 6 [3,2,1,1,1] 5 [3,1,1,1,1,1] := .of (cR [0,3,1,1]) (by kernel_rfl)
theorem d3_3221 : TblD F Kf 8 w8_3 7 [3,2,2,1] 6 [3,2,1,1,1] := .of (cR [0,1,2,1]) (by kernel_rfl)
theorem d3_3311 : TblD F Kf 8 w8_3 8 [3,3,1,1] 7 [3,2,2,1] := .of (cR [0,2,0,2]) (by kernel_rfl)
theorem d3_332 : TblD F Kf 8 w8_3 9 [3,3,2] 8 [3,3,1,1] := .of (cR [0,0,1,2]) (by kernel_rfl)
theorem d4_3221 : TblD F Kf 8 w8_4 7 [3,2,2,1] 6 [3,2,1,1,1] := .of (cR [0,1,2,1]) (by kernel_rfl)
theorem d4_3311 : TblD F Kf 8 w8_4 8 [3,3,1,1] 7 [3,2,2,1] := .of (cR [0,2,0,2]) (by kernel_rfl)
theorem d4_332 : TblD F Kf 8 w8_4 9 [3,3,2] 8 [3,3,1,1] := .of (cR [0,0,1,2]) (by kernel_rfl)
theorem d4_41111 : TblD F Kf 8 w8_4 10 [4,1,1,1,1] 9 [3,3,2] := .of (cR [0,4,0,0,1]) (by kernel_rfl)
theorem d4_4211 : TblD F Kf 8 w8_4 11 [4,2,1,1] 10 [4,1,1,1,1] := .of (cR [0,2,1,0,1]) (by kernel_rfl)
theorem d4_422 : TblD F Kf 8 w8_4 12 [4,2,2] 11 [4,2,1,1] := .of (cR [0,0,2,0,1]) (by kernel_rfl)
theorem d4_431 : TblD F Kf 8 w8_4 13 [4,3,1] 12 [4,2,2] := .of (cR [0,1,0,1,1]) (by kernel_rfl)
theorem d5_4211 : TblD F Kf 8 w8_5 11 [4,2,1,1] 10 [4,1,1,1,1] := .of (cR [0,2,1,0,1]) (by kernel_rfl)
theorem d5_422 : TblD F Kf 8 w8_5 12 [4,2,2] 11 [4,2,1,1] := .of (cR [0,0,2,0,1]) (by kernel_rfl)
theorem d5_431 : TblD F Kf 8 w8_5 13 [4,3,1] 12 [4,2,2] := .of (cR [0,1,0,1,1]) (by kernel_rfl)
theorem d5_44 : TblD F Kf 8 w8_5 14 [4,4] 13 [4,3,1] := .of (cR [0,0,0,0,2]) (by kernel_rfl)
theorem d5_5111 : TblD F Kf 8 w8_5 15 [5,1,1,1] 14 [4,4] := .of (cR [0,3,0,0,0,1]) (by kernel_rfl)
theorem d5_521 : TblD F Kf 8 w8_5 16 [5,2,1] 15 [5,1,1,1] := .of (cR [0,1,1,0,0,1]) (by kernel_rfl)
theorem d5_53 : TblD F Kf 8 w8_5 17 [5,3] 16 [5,2,1] := .of (cR [0,0,0,1,0,1]) (by kernel_rfl)
theorem d3_22221 : TblD F Kf 9 w9_3 4 [2,2,2,2,1] 3 [2,2,2,1,1,1] := .of (cR [0,1,4]) (by kernel_rfl)
theorem d3_3111111 : TblD F Kf 9 w9_3 5 [3,1,1,1,1,1,1] 4 [2,2,2,2,1] := .of (cR [0,6,0,1]) (by kernel_rfl)
theorem d3_321111 : TblD F Kf 9 w9_3 6 [3,2,1,1,1,1] 5 [3,1,1,1,1,1,1] := .of (cR [0,4,1,1]) (by kernel_rfl)
theorem d3_32211 : TblD F Kf 9 w9_3 7 [3,2,2,1,1] 6 [3,2,1,1,1,1] := .of (cR [0,2,2,1]) (by kernel_rfl)
theorem d3_3222 : TblD F Kf 9 w9_3 8 [3,2,2,2] 7 [3,2,2,1,1] := .of (cR [0,0,3,1]) (by kernel_rfl)
theorem d3_33111 : TblD F Kf 9 w9_3 9 [3,3,1,1,1] 8 [3,2,2,2] := .of (cR [0,3,0,2]) (by kernel_rfl)
theorem d3_3321 : TblD F Kf 9 w9_3 10 [3,3,2,1] 9 [3,3,1,1,1] := .of (cR [0,1,1,2]) (by kernel_rfl)
theorem d3_333 : TblD F Kf 9 w9_3 11 [3,3,3] 10 [3,3,2,1] := .of (cR [0,0,0,3]) (by kernel_rfl)
theorem d4_3321 : TblD F Kf 9 w9_4 10 [3,3,2,1] 9 [3,3,1,1,1] := .of (cR [0,1,1,2]) (by kernel_rfl)
theorem d4_333 : TblD F Kf 9 w9_4 11 [3,3,3] 10 [3,3,2,1] := .of (cR [0,0,0,3]) (by kernel_rfl)
theorem d4_411111 : TblD F Kf 9 w9_4 12 [4,1,1,1,1,1] 11 [3,3,3] := .of (cR [0,5,0,0,1]) (by kernel_rfl)
theorem d4_42111 : TblD F Kf 9 w9_4 13 [4,2,1,1,1] 12 [4,1,1,1,1,1] := .of (cR [0,3,1,0,1]) (by kernel_rfl)
theorem d4_4221 : TblD F Kf 9 w9_4 14 [4,2,2,1] 13 [4,2,1,1,1] := .of (cR [0,1,2,0,1]) (by kernel_rfl)
theorem d4_4311 : TblD F Kf 9 w9_4 15 [4,3,1,1] 14 [4,2,2,1] := .of (cR [0,2,0,1,1]) (by kernel_rfl)
theorem d4_432 : TblD F Kf 9 w9_4 16 [4,3,2] 15 [4,3,1,1] := .of (cR [0,0,1,1,1]) (by kernel_rfl)
theorem d5_4311 : TblD F Kf 9 w9_5 15 [4,3,1,1] 14 [4,2,2,1] := .of (cR [0,2,0,1,1]) (by kernel_rfl)
theorem d5_432 : TblD F Kf 9 w9_5 16 [4,3,2] 15 [4,3,1,1] := .of (cR [0,0,1,1,1]) (by kernel_rfl)
theorem d5_441 : TblD F Kf 9 w9_5 17 [4,4,1] 16 [4,3,2] := .of (cR [0,1,0,0,2]) (by kernel_rfl)
theorem d5_51111 : TblD F Kf 9 w9_5 18 [5,1,1,1,1] 17 [4,4,1] := .of (cR [0,4,0,0,0,1]) (by kernel_rfl)
theorem d5_5211 : TblD F Kf 9 w9_5 19 [5,2,1,1] 18 [5,1,1,1,1] := .of (cR [0,2,1,0,0,1]) (by kernel_rfl)
theorem d5_522 : TblD F Kf 9 w9_5 20 [5,2,2] 19 [5,2,1,1] := .of (cR [0,0,2,0,0,1]) (by kernel_rfl)
theorem d5_531 : TblD F Kf 9 w9_5 21 [5,3,1] 20 [5,2,2] := .of (cR [0,1,0,1,0,1]) (by kernel_rfl)
theorem d3_322111 : TblD F Kf 10 w10_3 8 [3,2,2,1,1,1] 7 [3,2,1,1,1,1,1] := .of (cR [0,3,2,1]) (by kernel_rfl)
theorem d3_32221 : TblD F Kf 10 w10_3 9 [3,2,2,2,1] 8 [3,2,2,1,1,1] := .of (cR [0,1,3,1]) (by kernel_rfl)
theorem d3_331111 : TblD F Kf 10 w10_3 10 [3,3,1,1,1,1] 9 [3,2,2,2,1] := .of (cR [0,4,0,2]) (by kernel_rfl)
theorem d3_33211 : TblD F Kf 10 w10_3 11 [3,3,2,1,1] 10 [3,3,1,1,1,1] := .of (cR [0,2,1,2]) (by kernel_rfl)
theorem d3_3322 : TblD F Kf 10 w10_3 12 [3,3,2,2] 11 [3,3,2,1,1] := .of (cR [0,0,2,2]) (by kernel_rfl)
theorem d3_3331 : TblD F Kf 10 w10_3 13 [3,3,3,1] 12 [3,3,2,2] := .of (cR [0,1,0,3]) (by kernel_rfl)
theorem d4_3331 : TblD F Kf 10 w10_4 13 [3,3,3,1] 12 [3,3,2,2] := .of (cR [0,1,0,3]) (by kernel_rfl)
theorem d4_4111111 : TblD F Kf 10 w10_4 14 [4,1,1,1,1,1,1] 13 [3,3,3,1] := .of (cR [0,6,0,0,1]) (by kernel_rfl)
theorem d4_421111 : TblD F Kf 10 w10_4 15 [4,2,1,1,1,1] 14 [4,1,1,1,1,1,1] := .of (cR [0,4,1,0,1]) (by kernel_rfl)
theorem d4_42211 : TblD F Kf 10 w10_4 16 [4,2,2,1,1] 15 [4,2,1,1,1,1] := .of (cR [0,2,2,0,1]) (by kernel_rfl)
theorem d4_4222 : TblD F Kf 10 w10_4 17 [4,2,2,2] 16 [4,2,2,1,1] := .of (cR [0,0,3,0,1]) (by kernel_rfl)
theorem d4_43111 : TblD F Kf 10 w10_4 18 [4,3,1,1,1] 17 [4,2,2,2] := .of (cR [0,3,0,1,1]) (by kernel_rfl)
theorem d4_4321 : TblD F Kf 10 w10_4 19 [4,3,2,1] 18 [4,3,1,1,1] := .of (cR [0,1,1,1,1]) (by kernel_rfl)
theorem d4_433 : TblD F Kf 10 w10_4 20 [4,3,3] 19 [4,3,2,1] := .of (cR [0,0,0,2,1]) (by kernel_rfl)
theorem d5_4411 : TblD F Kf 10 w10_5 21 [4,4,1,1] 20 [4,3,3] := .of (cR [0,2,0,0,2]) (by kernel_rfl)
theorem d5_442 : TblD F Kf 10 w10_5 22 [4,4,2] 21 [4,4,1,1] := .of (cR [0,0,1,0,2]) (by kernel_rfl)
theorem d5_511111 : TblD F Kf 10 w10_5 23 [5,1,1,1,1,1] 22 [4,4,2] := .of (cR [0,5,0,0,0,1]) (by kernel_rfl)
theorem d5_52111 : TblD F Kf 10 w10_5 24 [5,2,1,1,1] 23 [5,1,1,1,1,1] := .of (cR [0,3,1,0,0,1]) (by kernel_rfl)
theorem d5_5221 : TblD F Kf 10 w10_5 25 [5,2,2,1] 24 [5,2,1,1,1] := .of (cR [0,1,2,0,0,1]) (by kernel_rfl)
theorem d5_5311 : TblD F Kf 10 w10_5 26 [5,3,1,1] 25 [5,2,2,1] := .of (cR [0,2,0,1,0,1]) (by kernel_rfl)
theorem d5_532 : TblD F Kf 10 w10_5 27 [5,3,2] 26 [5,3,1,1] := .of (cR [0,0,1,1,0,1]) (by kernel_rfl)
theorem d3_3311111 : TblD F Kf 11 w11_3 11 [3,3,1,1,1,1,1] 10 [3,2,2,2,2] := .of (cR [0,5,0,2]) (by kernel_rfl)
theorem d3_332111 : TblD F Kf 11 w11_3 12 [3,3,2,1,1,1] 11 [3,3,1,1,1,1,1] := .of (cR [0,3,1,2]) (by kernel_rfl)
theorem d3_33221 : TblD F Kf 11 w11_3 13 [3,3,2,2,1] 12 [3,3,2,1,1,1] := .of (cR [0,1,2,2]) (by kernel_rfl)
theorem d3_33311 : TblD F Kf 11 w11_3 14 [3,3,3,1,1] 13 [3,3,2,2,1] := .of (cR [0,2,0,3]) (by kernel_rfl)
theorem d3_3332 : TblD F Kf 11 w11_3 15 [3,3,3,2] 14 [3,3,3,1,1] := .of (cR [0,0,1,3]) (by kernel_rfl)
theorem d4_422111 : TblD F Kf 11 w11_4 18 [4,2,2,1,1,1] 17 [4,2,1,1,1,1,1] := .of (cR [0,3,2,0,1]) (by kernel_rfl)
theorem d4_42221 : TblD F Kf 11 w11_4 19 [4,2,2,2,1] 18 [4,2,2,1,1,1] := .of (cR [0,1,3,0,1]) (by kernel_rfl)
theorem d4_431111 : TblD F Kf 11 w11_4 20 [4,3,1,1,1,1] 19 [4,2,2,2,1] := .of (cR [0,4,0,1,1]) (by kernel_rfl)
theorem d4_43211 : TblD F Kf 11 w11_4 21 [4,3,2,1,1] 20 [4,3,1,1,1,1] := .of (cR [0,2,1,1,1]) (by kernel_rfl)
theorem d4_4322 : TblD F Kf 11 w11_4 22 [4,3,2,2] 21 [4,3,2,1,1] := .of (cR [0,0,2,1,1]) (by kernel_rfl)
theorem d4_4331 : TblD F Kf 11 w11_4 23 [4,3,3,1] 22 [4,3,2,2] := .of (cR [0,1,0,2,1]) (by kernel_rfl)
theorem d5_443 : TblD F Kf 11 w11_5 26 [4,4,3] 25 [4,4,2,1] := .of (cR [0,0,0,1,2]) (by kernel_rfl)
theorem d5_5111111 : TblD F Kf 11 w11_5 27 [5,1,1,1,1,1,1] 26 [4,4,3] := .of (cR [0,6,0,0,0,1]) (by kernel_rfl)
theorem d5_521111 : TblD F Kf 11 w11_5 28 [5,2,1,1,1,1] 27 [5,1,1,1,1,1,1] := .of (cR [0,4,1,0,0,1]) (by kernel_rfl)
theorem d5_52211 : TblD F Kf 11 w11_5 29 [5,2,2,1,1] 28 [5,2,1,1,1,1] := .of (cR [0,2,2,0,0,1]) (by kernel_rfl)
theorem d5_5222 : TblD F Kf 11 w11_5 30 [5,2,2,2] 29 [5,2,2,1,1] := .of (cR [0,0,3,0,0,1]) (by kernel_rfl)
theorem d5_53111 : TblD F Kf 11 w11_5 31 [5,3,1,1,1] 30 [5,2,2,2] := .of (cR [0,3,0,1,0,1]) (by kernel_rfl)
theorem d5_5321 : TblD F Kf 11 w11_5 32 [5,3,2,1] 31 [5,3,1,1,1] := .of (cR [0,1,1,1,0,1]) (by kernel_rfl)
theorem d5_533 : TblD F Kf 11 w11_5 33 [5,3,3] 32 [5,3,2,1] := .of (cR [0,0,0,2,0,1]) (by kernel_rfl)
theorem d4_4311111 : TblD F Kf 12 w12_4 24 [4,3,1,1,1,1,1] 23 [4,2,2,2,2] := .of (cR [0,5,0,1,1]) (by kernel_rfl)
theorem d4_432111 : TblD F Kf 12 w12_4 25 [4,3,2,1,1,1] 24 [4,3,1,1,1,1,1] := .of (cR [0,3,1,1,1]) (by kernel_rfl)
theorem d4_43221 : TblD F Kf 12 w12_4 26 [4,3,2,2,1] 25 [4,3,2,1,1,1] := .of (cR [0,1,2,1,1]) (by kernel_rfl)
theorem d4_43311 : TblD F Kf 12 w12_4 27 [4,3,3,1,1] 26 [4,3,2,2,1] := .of (cR [0,2,0,2,1]) (by kernel_rfl)
theorem d4_4332 : TblD F Kf 12 w12_4 28 [4,3,3,2] 27 [4,3,3,1,1] := .of (cR [0,0,1,2,1]) (by kernel_rfl)
theorem d5_522111 : TblD F Kf 12 w12_5 36 [5,2,2,1,1,1] 35 [5,2,1,1,1,1,1] := .of (cR [0,3,2,0,0,1]) (by kernel_rfl)
theorem d5_52221 : TblD F Kf 12 w12_5 37 [5,2,2,2,1] 36 [5,2,2,1,1,1] := .of (cR [0,1,3,0,0,1]) (by kernel_rfl)
theorem d5_531111 : TblD F Kf 12 w12_5 38 [5,3,1,1,1,1] 37 [5,2,2,2,1] := .of (cR [0,4,0,1,0,1]) (by kernel_rfl)
theorem d5_53211 : TblD F Kf 12 w12_5 39 [5,3,2,1,1] 38 [5,3,1,1,1,1] := .of (cR [0,2,1,1,0,1]) (by kernel_rfl)
theorem d5_5322 : TblD F Kf 12 w12_5 40 [5,3,2,2] 39 [5,3,2,1,1] := .of (cR [0,0,2,1,0,1]) (by kernel_rfl)
theorem d5_5331 : TblD F Kf 12 w12_5 41 [5,3,3,1] 40 [5,3,2,2] := .of (cR [0,1,0,2,0,1]) (by kernel_rfl)
theorem d5_5311111 : TblD F Kf 13 w13_5 44 [5,3,1,1,1,1,1] 43 [5,2,2,2,2] := .of (cR [0,5,0,1,0,1]) (by kernel_rfl)
theorem d5_532111 : TblD F Kf 13 w13_5 45 [5,3,2,1,1,1] 44 [5,3,1,1,1,1,1] := .of (cR [0,3,1,1,0,1]) (by kernel_rfl)
theorem d5_53221 : TblD F Kf 13 w13_5 46 [5,3,2,2,1] 45 [5,3,2,1,1,1] := .of (cR [0,1,2,1,0,1]) (by kernel_rfl)
theorem d5_53311 : TblD F Kf 13 w13_5 47 [5,3,3,1,1] 46 [5,3,2,2,1] := .of (cR [0,2,0,2,0,1]) (by kernel_rfl)
theorem d5_5332 : TblD F Kf 13 w13_5 48 [5,3,3,2] 47 [5,3,3,1,1] := .of (cR [0,0,1,2,0,1]) (by kernel_rfl)
theorem g1_1 : GoodT F Kf 5 1 w1_1 0 [1] := goodE (d1_1 F Kf)
theorem g1_11 : GoodT F Kf 5 2 w2_1 0 [1,1] := goodE (d1_11 F Kf)
theorem g2_11 : GoodT F Kf 4 2 w2_2 0 [1,1] := goodE (d2_11 F Kf)
theorem g2_2 : GoodT F Kf 5 2 w2_2 1 [2] := goodS (d2_2 F Kf) ((g2_11 F Kf).le (by decide))
theorem g1_111 : GoodT F Kf 5 3 w3_1 0 [1,1,1] := goodE (d1_111 F Kf)
theorem g2_111 : GoodT F Kf 4 3 w3_2 0 [1,1,1] := goodE (d2_111 F Kf)
theorem g2_21 : GoodT F Kf 5 3 w3_2 1 [2,1] := goodS (d2_21 F Kf) ((g2_111 F Kf).le (by decide))
theorem g3_111 : GoodT F Kf 3 3 w3_3 0 [1,1,1] := goodE (d3_111 F Kf)
theorem g3_21 : GoodT F Kf 4 3 w3_3 1 [2,1] := goodS (d3_21 F Kf) ((g3_111 F Kf).le (by decide))
theorem g3_3 : GoodT F Kf 5 3 w3_3 2 [3] := goodS (d3_3 F Kf) ((g3_21 F Kf).le (by decide))
theorem g1_1111 : GoodT F Kf 5 4 w4_1 0 [1,1,1,1] := goodE (d1_1111 F Kf)
theorem g2_1111 : GoodT F Kf 4 4 w4_2 0 [1,1,1,1] := goodE (d2_1111 F Kf)
theorem g2_211 : GoodT F Kf 5 4 w4_2 1 [2,1,1] := goodS (d2_211 F Kf) ((g2_1111 F Kf).le (by decide))
theorem g2_22 : GoodT F Kf 5 4 w4_2 2 [2,2] := goodS (d2_22 F Kf) ((g2_211 F Kf).le (by decide))
theorem g3_1111 : GoodT F Kf 2 4 w4_3 0 [1,1,1,1] := goodE (d3_1111 F Kf)
theorem g3_211 : GoodT F Kf 3 4 w4_3 1 [2,1,1] := goodS (d3_211 F Kf) ((g3_1111 F Kf).le (by decide))
theorem g3_22 : GoodT F Kf 4 4 w4_3 2 [2,2] := goodS (d3_22 F Kf) ((g3_211 F Kf).le (by decide))
theorem g3_31 : GoodT F Kf 5 4 w4_3 3 [3,1] := goodS (d3_31 F Kf) ((g3_22 F Kf).le (by decide))
theorem g4_1111 : GoodT F Kf 1 4 w4_4 0 [1,1,1,1] := goodE (d4_1111 F Kf)
theorem g4_211 : GoodT F Kf 2 4 w4_4 1 [2,1,1] := goodS (d4_211 F Kf) ((g4_1111 F Kf).le (by decide))
theorem g4_22 : GoodT F Kf 3 4 w4_4 2 [2,2] := goodS (d4_22 F Kf) ((g4_211 F Kf).le (by decide))
theorem g4_31 : GoodT F Kf 4 4 w4_4 3 [3,1] := goodS (d4_31 F Kf) ((g4_22 F Kf).le (by decide))
theorem g4_4 : GoodT F Kf 5 4 w4_4 4 [4] := goodS (d4_4 F Kf) ((g4_31 F Kf).le (by decide))
theorem g2_11111 : GoodT F Kf 4 5 w5_2 0 [1,1,1,1,1] := goodE (d2_11111 F Kf)
theorem g2_2111 : GoodT F Kf 5 5 w5_2 1 [2,1,1,1] := goodS (d2_2111 F Kf) ((g2_11111 F Kf).le (by decide))
theorem g2_221 : GoodT F Kf 5 5 w5_2 2 [2,2,1] := goodS (d2_221 F Kf) ((g2_2111 F Kf).le (by decide))
theorem g3_11111 : GoodT F Kf 2 5 w5_3 0 [1,1,1,1,1] := goodE (d3_11111 F Kf)
theorem g3_2111 : GoodT F Kf 3 5 w5_3 1 [2,1,1,1] := goodS (d3_2111 F Kf) ((g3_11111 F Kf).le (by decide))
theorem g3_221 : GoodT F Kf 4 5 w5_3 2 [2,2,1] := goodS (d3_221 F Kf) ((g3_2111 F Kf).le (by decide))
theorem g3_311 : GoodT F Kf 5 5 w5_3 3 [3,1,1] := goodS (d3_311 F Kf) ((g3_221 F Kf).le (by decide))
theorem g3_32 : GoodT F Kf 5 5 w5_3 4 [3,2] := goodS (d3_32 F Kf) ((g3_311 F Kf).le (by decide))
theorem g4_2111 : GoodT F Kf 1 5 w5_4 1 [2,1,1,1] := goodS (d4_2111 F Kf) good0
theorem g4_221 : GoodT F Kf 2 5 w5_4 2 [2,2,1] := goodS (d4_221 F Kf) ((g4_2111 F Kf).le (by decide))
theorem g4_311 : GoodT F Kf 3 5 w5_4 3 [3,1,1] := goodS (d4_311 F Kf) ((g4_221 F Kf).le (by decide))
theorem g4_32 : GoodT F Kf 4 5 w5_4 4 [3,2] := goodS (d4_32 F Kf) ((g4_311 F Kf).le (by decide))
theorem g4_41 : GoodT F Kf 5 5 w5_4 5 [4,1] := goodS (d4_41 F Kf) ((g4_32 F Kf).le (by decide))
theorem g5_221 : GoodT F Kf 1 5 w5_5 2 [2,2,1] := goodS (d5_221 F Kf) good0
theorem g5_311 : GoodT F Kf 2 5 w5_5 3 [3,1,1] := goodS (d5_311 F Kf) ((g5_221 F Kf).le (by decide))
theorem g5_32 : GoodT F Kf 3 5 w5_5 4 [3,2] := goodS (d5_32 F Kf) ((g5_311 F Kf).le (by decide))
theorem g5_41 : GoodT F Kf 4 5 w5_5 5 [4,1] := goodS (d5_41 F Kf) ((g5_32 F Kf).le (by decide))
theorem g5_5 : GoodT F Kf 5 5 w5_5 6 [5] := goodS (d5_5 F Kf) ((g5_41 F Kf).le (by decide))
theorem g2_111111 : GoodT F Kf 3 6 w6_2 0 [1,1,1,1,1,1] := goodE (d2_111111 F Kf)
theorem g2_21111 : GoodT F Kf 4 6 w6_2 1 [2,1,1,1,1] := goodS (d2_21111 F Kf) ((g2_111111 F Kf).le (by decide))
theorem g2_2211 : GoodT F Kf 5 6 w6_2 2 [2,2,1,1] := goodS (d2_2211 F Kf) ((g2_21111 F Kf).le (by decide))
theorem g2_222 : GoodT F Kf 5 6 w6_2 3 [2,2,2] := goodS (d2_222 F Kf) ((g2_2211 F Kf).le (by decide))
theorem g3_111111 : GoodT F Kf 1 6 w6_3 0 [1,1,1,1,1,1] := goodE (d3_111111 F Kf)
theorem g3_21111 : GoodT F Kf 2 6 w6_3 1 [2,1,1,1,1] := goodS (d3_21111 F Kf) ((g3_111111 F Kf).le (by decide))
theorem g3_2211 : GoodT F Kf 3 6 w6_3 2 [2,2,1,1] := goodS (d3_2211 F Kf) ((g3_21111 F Kf).le (by decide))
theorem g3_222 : GoodT F Kf 4 6 w6_3 3 [2,2,2] := goodS (d3_222 F Kf) ((g3_2211 F Kf).le (by decide))
theorem g3_3111 : GoodT F Kf 5 6 w6_3 4 [3,1,1,1] := goodS (d3_3111 F Kf) ((g3_222 F Kf).le (by decide))
theorem g3_321 : GoodT F Kf 5 6 w6_3 5 [3,2,1] := goodS (d3_321 F Kf) ((g3_3111 F Kf).le (by decide))
theorem g3_33 : GoodT F Kf 5 6 w6_3 6 [3,3] := goodS (d3_33 F Kf) ((g3_321 F Kf).le (by decide))
theorem g4_222 : GoodT F Kf 1 6 w6_4 3 [2,2,2] := goodS (d4_222 F Kf) good0
theorem g4_3111 : GoodT F Kf 2 6 w6_4 4 [3,1,1,1] := goodS (d4_3111 F Kf) ((g4_222 F Kf).le (by decide))
theorem g4_321 : GoodT F Kf 3 6 w6_4 5 [3,2,1] := goodS (d4_321 F Kf) ((g4_3111 F Kf).le (by decide))
theorem g4_33 : GoodT F Kf 4 6 w6_4 6 [3,3] := goodS (d4_33 F Kf) ((g4_321 F Kf).le (by decide))
theorem g4_411 : GoodT F Kf 5 6 w6_4 7 [4,1,1] := goodS (d4_411 F Kf) ((g4_33 F Kf).le (by decide))
theorem g4_42 : GoodT F Kf 5 6 w6_4 8 [4,2] := goodS (d4_42 F Kf) ((g4_411 F Kf).le (by decide))
theorem g5_321 : GoodT F Kf 1 6 w6_5 5 [3,2,1] := goodS (d5_321 F Kf) good0
theorem g5_33 : GoodT F Kf 2 6 w6_5 6 [3,3] := goodS (d5_33 F Kf) ((g5_321 F Kf).le (by decide))
theorem g5_411 : GoodT F Kf 3 6 w6_5 7 [4,1,1] := goodS (d5_411 F Kf) ((g5_33 F Kf).le (by decide))
theorem g5_42 : GoodT F Kf 4 6 w6_5 8 [4,2] := goodS (d5_42 F Kf) ((g5_411 F Kf).le (by decide))
theorem g5_51 : GoodT F Kf 5 6 w6_5 9 [5,1] := goodS (d5_51 F Kf) ((g5_42 F Kf).le (by decide))
theorem g2_1111111 : GoodT F Kf 2 7 w7_2 0 [1,1,1,1,1,1,1] := goodE (d2_1111111 F Kf)
theorem g2_211111 : GoodT F Kf 3 7 w7_2 1 [2,1,1,1,1,1] := goodS (d2_211111 F Kf) ((g2_1111111 F Kf).le (by decide))
theorem g2_22111 : GoodT F Kf 4 7 w7_2 2 [2,2,1,1,1] := goodS (d2_22111 F Kf) ((g2_211111 F Kf).le (by decide))
theorem g2_2221 : GoodT F Kf 5 7 w7_2 3 [2,2,2,1] := goodS (d2_2221 F Kf) ((g2_22111 F Kf).le (by decide))
theorem g3_211111 : GoodT F Kf 1 7 w7_3 1 [2,1,1,1,1,1] := goodS (d3_211111 F Kf) good0
theorem g3_22111 : GoodT F Kf 2 7 w7_3 2 [2,2,1,1,1] := goodS (d3_22111 F Kf) ((g3_211111 F Kf).le (by decide))
theorem g3_2221 : GoodT F Kf 3 7 w7_3 3 [2,2,2,1] := goodS (d3_2221 F Kf) ((g3_22111 F Kf).le (by decide))
theorem g3_31111 : GoodT F Kf 4 7 w7_3 4 [3,1,1,1,1] := goodS (d3_31111 F Kf) ((g3_2221 F Kf).le (by decide))
theorem g3_3211 : GoodT F Kf 5 7 w7_3 5 [3,2,1,1] := goodS (d3_3211 F Kf) ((g3_31111 F Kf).le (by decide))
theorem g3_322 : GoodT F Kf 5 7 w7_3 6 [3,2,2] := goodS (d3_322 F Kf) ((g3_3211 F Kf).le (by decide))
theorem g3_331 : GoodT F Kf 5 7 w7_3 7 [3,3,1] := goodS (d3_331 F Kf) ((g3_322 F Kf).le (by decide))
theorem g4_31111 : GoodT F Kf 1 7 w7_4 4 [3,1,1,1,1] := goodS (d4_31111 F Kf) good0
theorem g4_3211 : GoodT F Kf 2 7 w7_4 5 [3,2,1,1] := goodS (d4_3211 F Kf) ((g4_31111 F Kf).le (by decide))
theorem g4_322 : GoodT F Kf 3 7 w7_4 6 [3,2,2] := goodS (d4_322 F Kf) ((g4_3211 F Kf).le (by decide))
theorem g4_331 : GoodT F Kf 4 7 w7_4 7 [3,3,1] := goodS (d4_331 F Kf) ((g4_322 F Kf).le (by decide))
theorem g4_4111 : GoodT F Kf 5 7 w7_4 8 [4,1,1,1] := goodS (d4_4111 F Kf) ((g4_331 F Kf).le (by decide))
theorem g4_421 : GoodT F Kf 5 7 w7_4 9 [4,2,1] := goodS (d4_421 F Kf) ((g4_4111 F Kf).le (by decide))
theorem g4_43 : GoodT F Kf 5 7 w7_4 10 [4,3] := goodS (d4_43 F Kf) ((g4_421 F Kf).le (by decide))
theorem g5_331 : GoodT F Kf 1 7 w7_5 7 [3,3,1] := goodS (d5_331 F Kf) good0
theorem g5_4111 : GoodT F Kf 2 7 w7_5 8 [4,1,1,1] := goodS (d5_4111 F Kf) ((g5_331 F Kf).le (by decide))
theorem g5_421 : GoodT F Kf 3 7 w7_5 9 [4,2,1] := goodS (d5_421 F Kf) ((g5_4111 F Kf).le (by decide))
theorem g5_43 : GoodT F Kf 4 7 w7_5 10 [4,3] := goodS (d5_43 F Kf) ((g5_421 F Kf).le (by decide))
theorem g5_511 : GoodT F Kf 5 7 w7_5 11 [5,1,1] := goodS (d5_511 F Kf) ((g5_43 F Kf).le (by decide))
theorem g5_52 : GoodT F Kf 5 7 w7_5 12 [5,2] := goodS (d5_52 F Kf) ((g5_511 F Kf).le (by decide))
theorem g2_11111111 : GoodT F Kf 1 8 w8_2 0 [1,1,1,1,1,1,1,1] := goodE (d2_11111111 F Kf)
theorem g2_2111111 : GoodT F Kf 2 8 w8_2 1 [2,1,1,1,1,1,1] := goodS (d2_2111111 F Kf) ((g2_11111111 F Kf).le (by decide))
theorem g2_221111 : GoodT F Kf 3 8 w8_2 2 [2,2,1,1,1,1] := goodS (d2_221111 F Kf) ((g2_2111111 F Kf).le (by decide))
theorem g2_22211 : GoodT F Kf 4 8 w8_2 3 [2,2,2,1,1] := goodS (d2_22211 F Kf) ((g2_221111 F Kf).le (by decide))
theorem g2_2222 : GoodT F Kf 5 8 w8_2 4 [2,2,2,2] := goodS (d2_2222 F Kf) ((g2_22211 F Kf).le (by decide))
theorem g3_22211 : GoodT F Kf 1 8 w8_3 3 [2,2,2,1,1] := goodS (d3_22211 F Kf) good0
theorem g3_2222 : GoodT F Kf 2 8 w8_3 4 [2,2,2,2] := goodS (d3_2222 F Kf) ((g3_22211 F Kf).le (by decide))
theorem g3_311111 : GoodT F Kf 3 8 w8_3 5 [3,1,1,1,1,1] := goodS (d3_311111 F Kf) ((g3_2222 F Kf).le (by decide))
theorem g3_32111 : GoodT F Kf 4 8 w8_3 6 [3,2,1,1,1] := goodS (d3_32111 F Kf) ((g3_311111 F Kf).le (by decide))
theorem g3_3221 : GoodT F Kf 5 8 w8_3 7 [3,2,2,1] := goodS (d3_3221 F Kf) ((g3_32111 F Kf).le (by decide))
theorem g3_3311 : GoodT F Kf 5 8 w8_3 8 [3,3,1,1] := goodS (d3_3311 F Kf) ((g3_3221 F Kf).le (by decide))
theorem g3_332 : GoodT F Kf 5 8 w8_3 9 [3,3,2] := goodS (d3_332 F Kf) ((g3_3311 F Kf).le (by decide))
theorem g4_3221 : GoodT F Kf 1 8 w8_4 7 [3,2,2,1] := goodS (d4_3221 F Kf) good0
theorem g4_3311 : GoodT F Kf 2 8 w8_4 8 [3,3,1,1] := goodS (d4_3311 F Kf) ((g4_3221 F Kf).le (by decide))
theorem g4_332 : GoodT F Kf 3 8 w8_4 9 [3,3,2] := goodS (d4_332 F Kf) ((g4_3311 F Kf).le (by decide))
theorem g4_41111 : GoodT F Kf 4 8 w8_4 10 [4,1,1,1,1] := goodS (d4_41111 F Kf) ((g4_332 F Kf).le (by decide))
theorem g4_4211 : GoodT F Kf 5 8 w8_4 11 [4,2,1,1] := goodS (d4_4211 F Kf) ((g4_41111 F Kf).le (by decide))
theorem g4_422 : GoodT F Kf 5 8 w8_4 12 [4,2,2] := goodS (d4_422 F Kf) ((g4_4211 F Kf).le (by decide))
theorem g4_431 : GoodT F Kf 5 8 w8_4 13 [4,3,1] := goodS (d4_431 F Kf) ((g4_422 F Kf).le (by decide))
theorem g5_4211 : GoodT F Kf 1 8 w8_5 11 [4,2,1,1] := goodS (d5_4211 F Kf) good0
theorem g5_422 : GoodT F Kf 2 8 w8_5 12 [4,2,2] := goodS (d5_422 F Kf) ((g5_4211 F Kf).le (by decide))
theorem g5_431 : GoodT F Kf 3 8 w8_5 13 [4,3,1] := goodS (d5_431 F Kf) ((g5_422 F Kf).le (by decide))
theorem g5_44 : GoodT F Kf 4 8 w8_5 14 [4,4] := goodS (d5_44 F Kf) ((g5_431 F Kf).le (by decide))
theorem g5_5111 : GoodT F Kf 5 8 w8_5 15 [5,1,1,1] := goodS (d5_5111 F Kf) ((g5_44 F Kf).le (by decide))
theorem g5_521 : GoodT F Kf 5 8 w8_5 16 [5,2,1] := goodS (d5_521 F Kf) ((g5_5111 F Kf).le (by decide))
theorem g5_53 : GoodT F Kf 5 8 w8_5 17 [5,3] := goodS (d5_53 F Kf) ((g5_521 F Kf).le (by decide))
theorem g3_22221 : GoodT F Kf 1 9 w9_3 4 [2,2,2,2,1] := goodS (d3_22221 F Kf) good0
theorem g3_3111111 : GoodT F Kf 2 9 w9_3 5 [3,1,1,1,1,1,1] := goodS (d3_3111111 F Kf) ((g3_22221 F Kf).le (by decide))
theorem g3_321111 : GoodT F Kf 3 9 w9_3 6 [3,2,1,1,1,1] := goodS (d3_321111 F Kf) ((g3_3111111 F Kf).le (by decide))
theorem g3_32211 : GoodT F Kf 4 9 w9_3 7 [3,2,2,1,1] := goodS (d3_32211 F Kf) ((g3_321111 F Kf).le (by decide))
theorem g3_3222 : GoodT F Kf 5 9 w9_3 8 [3,2,2,2] := goodS (d3_3222 F Kf) ((g3_32211 F Kf).le (by decide))
theorem g3_33111 : GoodT F Kf 4 9 w9_3 9 [3,3,1,1,1] := goodS (d3_33111 F Kf) ((g3_3222 F Kf).le (by decide))
theorem g3_3321 : GoodT F Kf 5 9 w9_3 10 [3,3,2,1] := goodS (d3_3321 F Kf) ((g3_33111 F Kf).le (by decide))
theorem g3_333 : GoodT F Kf 5 9 w9_3 11 [3,3,3] := goodS (d3_333 F Kf) ((g3_3321 F Kf).le (by decide))
theorem g4_3321 : GoodT F Kf 1 9 w9_4 10 [3,3,2,1] := goodS (d4_3321 F Kf) good0
theorem g4_333 : GoodT F Kf 2 9 w9_4 11 [3,3,3] := goodS (d4_333 F Kf) ((g4_3321 F Kf).le (by decide))
theorem g4_411111 : GoodT F Kf 3 9 w9_4 12 [4,1,1,1,1,1] := goodS (d4_411111 F Kf) ((g4_333 F Kf).le (by decide))
theorem g4_42111 : GoodT F Kf 4 9 w9_4 13 [4,2,1,1,1] := goodS (d4_42111 F Kf) ((g4_411111 F Kf).le (by decide))
theorem g4_4221 : GoodT F Kf 5 9 w9_4 14 [4,2,2,1] := goodS (d4_4221 F Kf) ((g4_42111 F Kf).le (by decide))
theorem g4_4311 : GoodT F Kf 5 9 w9_4 15 [4,3,1,1] := goodS (d4_4311 F Kf) ((g4_4221 F Kf).le (by decide))
theorem g4_432 : GoodT F Kf 5 9 w9_4 16 [4,3,2] := goodS (d4_432 F Kf) ((g4_4311 F Kf).le (by decide))
theorem g5_4311 : GoodT F Kf 1 9 w9_5 15 [4,3,1,1] := goodS (d5_4311 F Kf) good0
theorem g5_432 : GoodT F Kf 2 9 w9_5 16 [4,3,2] := goodS (d5_432 F Kf) ((g5_4311 F Kf).le (by decide))
theorem g5_441 : GoodT F Kf 3 9 w9_5 17 [4,4,1] := goodS (d5_441 F Kf) ((g5_432 F Kf).le (by decide))
theorem g5_51111 : GoodT F Kf 4 9 w9_5 18 [5,1,1,1,1] := goodS (d5_51111 F Kf) ((g5_441 F Kf).le (by decide))
theorem g5_5211 : GoodT F Kf 5 9 w9_5 19 [5,2,1,1] := goodS (d5_5211 F Kf) ((g5_51111 F Kf).le (by decide))
theorem g5_522 : GoodT F Kf 5 9 w9_5 20 [5,2,2] := goodS (d5_522 F Kf) ((g5_5211 F Kf).le (by decide))
theorem g5_531 : GoodT F Kf 5 9 w9_5 21 [5,3,1] := goodS (d5_531 F Kf) ((g5_522 F Kf).le (by decide))
theorem g3_322111 : GoodT F Kf 1 10 w10_3 8 [3,2,2,1,1,1] := goodS (d3_322111 F Kf) good0
theorem g3_32221 : GoodT F Kf 2 10 w10_3 9 [3,2,2,2,1] := goodS (d3_32221 F Kf) ((g3_322111 F Kf).le (by decide))
theorem g3_331111 : GoodT F Kf 3 10 w10_3 10 [3,3,1,1,1,1] := goodS (d3_331111 F Kf) ((g3_32221 F Kf).le (by decide))
theorem g3_33211 : GoodT F Kf 4 10 w10_3 11 [3,3,2,1,1] := goodS (d3_33211 F Kf) ((g3_331111 F Kf).le (by decide))
theorem g3_3322 : GoodT F Kf 5 10 w10_3 12 [3,3,2,2] := goodS (d3_3322 F Kf) ((g3_33211 F Kf).le (by decide))
theorem g3_3331 : GoodT F Kf 5 10 w10_3 13 [3,3,3,1] := goodS (d3_3331 F Kf) ((g3_3322 F Kf).le (by decide))
theorem g4_3331 : GoodT F Kf 1 10 w10_4 13 [3,3,3,1] := goodS (d4_3331 F Kf) good0
theorem g4_4111111 : GoodT F Kf 2 10 w10_4 14 [4,1,1,1,1,1,1] := goodS (d4_4111111 F Kf) ((g4_3331 F Kf).le (by decide))
theorem g4_421111 : GoodT F Kf 3 10 w10_4 15 [4,2,1,1,1,1] := goodS (d4_421111 F Kf) ((g4_4111111 F Kf).le (by decide))
theorem g4_42211 : GoodT F Kf 4 10 w10_4 16 [4,2,2,1,1] := goodS (d4_42211 F Kf) ((g4_421111 F Kf).le (by decide))
theorem g4_4222 : GoodT F Kf 5 10 w10_4 17 [4,2,2,2] := goodS (d4_4222 F Kf) ((g4_42211 F Kf).le (by decide))
theorem g4_43111 : GoodT F Kf 4 10 w10_4 18 [4,3,1,1,1] := goodS (d4_43111 F Kf) ((g4_4222 F Kf).le (by decide))
theorem g4_4321 : GoodT F Kf 5 10 w10_4 19 [4,3,2,1] := goodS (d4_4321 F Kf) ((g4_43111 F Kf).le (by decide))
theorem g4_433 : GoodT F Kf 5 10 w10_4 20 [4,3,3] := goodS (d4_433 F Kf) ((g4_4321 F Kf).le (by decide))
theorem g5_4411 : GoodT F Kf 1 10 w10_5 21 [4,4,1,1] := goodS (d5_4411 F Kf) good0
theorem g5_442 : GoodT F Kf 2 10 w10_5 22 [4,4,2] := goodS (d5_442 F Kf) ((g5_4411 F Kf).le (by decide))
theorem g5_511111 : GoodT F Kf 3 10 w10_5 23 [5,1,1,1,1,1] := goodS (d5_511111 F Kf) ((g5_442 F Kf).le (by decide))
theorem g5_52111 : GoodT F Kf 4 10 w10_5 24 [5,2,1,1,1] := goodS (d5_52111 F Kf) ((g5_511111 F Kf).le (by decide))
theorem g5_5221 : GoodT F Kf 5 10 w10_5 25 [5,2,2,1] := goodS (d5_5221 F Kf) ((g5_52111 F Kf).le (by decide))
theorem g5_5311 : GoodT F Kf 5 10 w10_5 26 [5,3,1,1] := goodS (d5_5311 F Kf) ((g5_5221 F Kf).le (by decide))
theorem g5_532 : GoodT F Kf 5 10 w10_5 27 [5,3,2] := goodS (d5_532 F Kf) ((g5_5311 F Kf).le (by decide))
theorem g3_3311111 : GoodT F Kf 1 11 w11_3 11 [3,3,1,1,1,1,1] := goodS (d3_3311111 F Kf) good0
theorem g3_332111 : GoodT F Kf 2 11 w11_3 12 [3,3,2,1,1,1] := goodS (d3_332111 F Kf) ((g3_3311111 F Kf).le (by decide))
theorem g3_33221 : GoodT F Kf 3 11 w11_3 13 [3,3,2,2,1] := goodS (d3_33221 F Kf) ((g3_332111 F Kf).le (by decide))
theorem g3_33311 : GoodT F Kf 4 11 w11_3 14 [3,3,3,1,1] := goodS (d3_33311 F Kf) ((g3_33221 F Kf).le (by decide))
theorem g3_3332 : GoodT F Kf 5 11 w11_3 15 [3,3,3,2] := goodS (d3_3332 F Kf) ((g3_33311 F Kf).le (by decide))
theorem g4_422111 : GoodT F Kf 1 11 w11_4 18 [4,2,2,1,1,1] := goodS (d4_422111 F Kf) good0
theorem g4_42221 : GoodT F Kf 2 11 w11_4 19 [4,2,2,2,1] := goodS (d4_42221 F Kf) ((g4_422111 F Kf).le (by decide))
theorem g4_431111 : GoodT F Kf 3 11 w11_4 20 [4,3,1,1,1,1] := goodS (d4_431111 F Kf) ((g4_42221 F Kf).le (by decide))
theorem g4_43211 : GoodT F Kf 4 11 w11_4 21 [4,3,2,1,1] := goodS (d4_43211 F Kf) ((g4_431111 F Kf).le (by decide))
theorem g4_4322 : GoodT F Kf 5 11 w11_4 22 [4,3,2,2] := goodS (d4_4322 F Kf) ((g4_43211 F Kf).le (by decide))
theorem g4_4331 : GoodT F Kf 5 11 w11_4 23 [4,3,3,1] := goodS (d4_4331 F Kf) ((g4_4322 F Kf).le (by decide))
theorem g5_443 : GoodT F Kf 1 11 w11_5 26 [4,4,3] := goodS (d5_443 F Kf) good0
theorem g5_5111111 : GoodT F Kf 2 11 w11_5 27 [5,1,1,1,1,1,1] := goodS (d5_5111111 F Kf) ((g5_443 F Kf).le (by decide))
theorem g5_521111 : GoodT F Kf 3 11 w11_5 28 [5,2,1,1,1,1] := goodS (d5_521111 F Kf) ((g5_5111111 F Kf).le (by decide))
theorem g5_52211 : GoodT F Kf 4 11 w11_5 29 [5,2,2,1,1] := goodS (d5_52211 F Kf) ((g5_521111 F Kf).le (by decide))
theorem g5_5222 : GoodT F Kf 5 11 w11_5 30 [5,2,2,2] := goodS (d5_5222 F Kf) ((g5_52211 F Kf).le (by decide))
theorem g5_53111 : GoodT F Kf 4 11 w11_5 31 [5,3,1,1,1] := goodS (d5_53111 F Kf) ((g5_5222 F Kf).le (by decide))
theorem g5_5321 : GoodT F Kf 5 11 w11_5 32 [5,3,2,1] := goodS (d5_5321 F Kf) ((g5_53111 F Kf).le (by decide))
theorem g5_533 : GoodT F Kf 5 11 w11_5 33 [5,3,3] := goodS (d5_533 F Kf) ((g5_5321 F Kf).le (by decide))
theorem g4_4311111 : GoodT F Kf 1 12 w12_4 24 [4,3,1,1,1,1,1] := goodS (d4_4311111 F Kf) good0
theorem g4_432111 : GoodT F Kf 2 12 w12_4 25 [4,3,2,1,1,1] := goodS (d4_432111 F Kf) ((g4_4311111 F Kf).le (by decide))
theorem g4_43221 : GoodT F Kf 3 12 w12_4 26 [4,3,2,2,1] := goodS (d4_43221 F Kf) ((g4_432111 F Kf).le (by decide))
theorem g4_43311 : GoodT F Kf 4 12 w12_4 27 [4,3,3,1,1] := goodS (d4_43311 F Kf) ((g4_43221 F Kf).le (by decide))
theorem g4_4332 : GoodT F Kf 5 12 w12_4 28 [4,3,3,2] := goodS (d4_4332 F Kf) ((g4_43311 F Kf).le (by decide))
theorem g5_522111 : GoodT F Kf 1 12 w12_5 36 [5,2,2,1,1,1] := goodS (d5_522111 F Kf) good0
theorem g5_52221 : GoodT F Kf 2 12 w12_5 37 [5,2,2,2,1] := goodS (d5_52221 F Kf) ((g5_522111 F Kf).le (by decide))
theorem g5_531111 : GoodT F Kf 3 12 w12_5 38 [5,3,1,1,1,1] := goodS (d5_531111 F Kf) ((g5_52221 F Kf).le (by decide))
theorem g5_53211 : GoodT F Kf 4 12 w12_5 39 [5,3,2,1,1] := goodS (d5_53211 F Kf) ((g5_531111 F Kf).le (by decide))
theorem g5_5322 : GoodT F Kf 5 12 w12_5 40 [5,3,2,2] := goodS (d5_5322 F Kf) ((g5_53211 F Kf).le (by decide))
theorem g5_5331 : GoodT F Kf 5 12 w12_5 41 [5,3,3,1] := goodS (d5_5331 F Kf) ((g5_5322 F Kf).le (by decide))
theorem g5_5311111 : GoodT F Kf 1 13 w13_5 44 [5,3,1,1,1,1,1] := goodS (d5_5311111 F Kf) good0
theorem g5_532111 : GoodT F Kf 2 13 w13_5 45 [5,3,2,1,1,1] := goodS (d5_532111 F Kf) ((g5_5311111 F Kf).le (by decide))
theorem g5_53221 : GoodT F Kf 3 13 w13_5 46 [5,3,2,2,1] := goodS (d5_53221 F Kf) ((g5_532111 F Kf).le (by decide))
theorem g5_53311 : GoodT F Kf 4 13 w13_5 47 [5,3,3,1,1] := goodS (d5_53311 F Kf) ((g5_53221 F Kf).le (by decide))
theorem g5_5332 : GoodT F Kf 5 13 w13_5 48 [5,3,3,2] := goodS (d5_5332 F Kf) ((g5_53311 F Kf).le (by decide))
theorem s1 : Start F Kf 1 [1] := .mk rfl (b1_1 F Kf) (c1 F Kf) (g1_1 F Kf)
theorem s11 : Start F Kf 2 [1,1] := .mk rfl (b2_1 F Kf) (c11 F Kf) (g1_11 F Kf)
theorem s111 : Start F Kf 3 [1,1,1] := .mk rfl (b3_1 F Kf) (c111 F Kf) (g1_111 F Kf)
theorem s1111 : Start F Kf 4 [1,1,1,1] := .mk rfl (b4_1 F Kf) (c1111 F Kf) (g1_1111 F Kf)
theorem s2 : Start F Kf 2 [2] := .mk rfl (b2_2 F Kf) (c2 F Kf) (g2_2 F Kf)
theorem s21 : Start F Kf 3 [2,1] := .mk rfl (b3_2 F Kf) (c21 F Kf) (g2_21 F Kf)
theorem s211 : Start F Kf 4 [2,1,1] := .mk rfl (b4_2 F Kf) (c211 F Kf) (g2_211 F Kf)
theorem s2111 : Start F Kf 5 [2,1,1,1] := .mk rfl (b5_2 F Kf) (c2111 F Kf) (g2_2111 F Kf)
theorem s22 : Start F Kf 4 [2,2] := .mk rfl (b4_2 F Kf) (c22 F Kf) (g2_22 F Kf)
theorem s221 : Start F Kf 5 [2,2,1] := .mk rfl (b5_2 F Kf) (c221 F Kf) (g2_221 F Kf)
theorem s2211 : Start F Kf 6 [2,2,1,1] := .mk rfl (b6_2 F Kf) (c2211 F Kf) (g2_2211 F Kf)
theorem s222 : Start F Kf 6 [2,2,2] := .mk rfl (b6_2 F Kf) (c222 F Kf) (g2_222 F Kf)
theorem s2221 : Start F Kf 7 [2,2,2,1] := .mk rfl (b7_2 F Kf) (c2221 F Kf) (g2_2221 F Kf)
theorem s2222 : Start F Kf 8 [2,2,2,2] := .mk rfl (b8_2 F Kf) (c2222 F Kf) (g2_2222 F Kf)
theorem s3 : Start F Kf 3 [3] := .mk rfl (b3_3 F Kf) (c3 F Kf) (g3_3 F Kf)
theorem s31 : Start F Kf 4 [3,1] := .mk rfl (b4_3 F Kf) (c31 F Kf) (g3_31 F Kf)
theorem s311 : Start F Kf 5 [3,1,1] := .mk rfl (b5_3 F Kf) (c311 F Kf) (g3_311 F Kf)
theorem s3111 : Start F Kf 6 [3,1,1,1] := .mk rfl (b6_3 F Kf) (c3111 F Kf) (g3_3111 F Kf)
theorem s32 : Start F Kf 5 [3,2] := .mk rfl (b5_3 F Kf) (c32 F Kf) (g3_32 F Kf)
theorem s321 : Start F Kf 6 [3,2,1] := .mk rfl (b6_3 F Kf) (c321 F Kf) (g3_321 F Kf)
theorem s3211 : Start F Kf 7 [3,2,1,1] := .mk rfl (b7_3 F Kf) (c3211 F Kf) (g3_3211 F Kf)
theorem s322 : Start F Kf 7 [3,2,2] := .mk rfl (b7_3 F Kf) (c322 F Kf) (g3_322 F Kf)
theorem s3221 : Start F Kf 8 [3,2,2,1] := .mk rfl (b8_3 F Kf) (c3221 F Kf) (g3_3221 F Kf)
theorem s3222 : Start F Kf 9 [3,2,2,2] := .mk rfl (b9_3 F Kf) (c3222 F Kf) (g3_3222 F Kf)
theorem s33 : Start F Kf 6 [3,3] := .mk rfl (b6_3 F Kf) (c33 F Kf) (g3_33 F Kf)
theorem s331 : Start F Kf 7 [3,3,1] := .mk rfl (b7_3 F Kf) (c331 F Kf) (g3_331 F Kf)
theorem s3311 : Start F Kf 8 [3,3,1,1] := .mk rfl (b8_3 F Kf) (c3311 F Kf) (g3_3311 F Kf)
theorem s332 : Start F Kf 8 [3,3,2] := .mk rfl (b8_3 F Kf) (c332 F Kf) (g3_332 F Kf)
theorem s3321 : Start F Kf 9 [3,3,2,1] := .mk rfl (b9_3 F Kf) (c3321 F Kf) (g3_3321 F Kf)
theorem s3322 : Start F Kf 10 [3,3,2,2] := .mk rfl (b10_3 F Kf) (c3322 F Kf) (g3_3322 F Kf)
theorem s333 : Start F Kf 9 [3,3,3] := .mk rfl (b9_3 F Kf) (c333 F Kf) (g3_333 F Kf)
theorem s3331 : Start F Kf 10 [3,3,3,1] := .mk rfl (b10_3 F Kf) (c3331 F Kf) (g3_3331 F Kf)
theorem s3332 : Start F Kf 11 [3,3,3,2] := .mk rfl (b11_3 F Kf) (c3332 F Kf) (g3_3332 F Kf)
theorem s4 : Start F Kf 4 [4] := .mk rfl (b4_4 F Kf) (c4 F Kf) (g4_4 F Kf)
theorem s41 : Start F Kf 5 [4,1] := .mk rfl (b5_4 F Kf) (c41 F Kf) (g4_41 F Kf)
theorem s411 : Start F Kf 6 [4,1,1] := .mk rfl (b6_4 F Kf) (c411 F Kf) (g4_411 F Kf)
theorem s4111 : Start F Kf 7 [4,1,1,1] := .mk rfl (b7_4 F Kf) (c4111 F Kf) (g4_4111 F Kf)
theorem s42 : Start F Kf 6 [4,2] := .mk rfl (b6_4 F Kf) (c42 F Kf) (g4_42 F Kf)
theorem s421 : Start F Kf 7 [4,2,1] := .mk rfl (b7_4 F Kf) (c421 F Kf) (g4_421 F Kf)
theorem s4211 : Start F Kf 8 [4,2,1,1] := .mk rfl (b8_4 F Kf) (c4211 F Kf) (g4_4211 F Kf)
theorem s422 : Start F Kf 8 [4,2,2] := .mk rfl (b8_4 F Kf) (c422 F Kf) (g4_422 F Kf)
theorem s4221 : Start F Kf 9 [4,2,2,1] := .mk rfl (b9_4 F Kf) (c4221 F Kf) (g4_4221 F Kf)
theorem s4222 : Start F Kf 10 [4,2,2,2] := .mk rfl (b10_4 F Kf) (c4222 F Kf) (g4_4222 F Kf)
theorem s43 : Start F Kf 7 [4,3] := .mk rfl (b7_4 F Kf) (c43 F Kf) (g4_43 F Kf)
theorem s431 : Start F Kf 8 [4,3,1] := .mk rfl (b8_4 F Kf) (c431 F Kf) (g4_431 F Kf)
theorem s4311 : Start F Kf 9 [4,3,1,1] := .mk rfl (b9_4 F Kf) (c4311 F Kf) (g4_4311 F Kf)
theorem s432 : Start F Kf 9 [4,3,2] := .mk rfl (b9_4 F Kf) (c432 F Kf) (g4_432 F Kf)
theorem s4321 : Start F Kf 10 [4,3,2,1] := .mk rfl (b10_4 F Kf) (c4321 F Kf) (g4_4321 F Kf)
theorem s4322 : Start F Kf 11 [4,3,2,2] := .mk rfl (b11_4 F Kf) (c4322 F Kf) (g4_4322 F Kf)
theorem s433 : Start F Kf 10 [4,3,3] := .mk rfl (b10_4 F Kf) (c433 F Kf) (g4_433 F Kf)
theorem s4331 : Start F Kf 11 [4,3,3,1] := .mk rfl (b11_4 F Kf) (c4331 F Kf) (g4_4331 F Kf)
theorem s4332 : Start F Kf 12 [4,3,3,2] := .mk rfl (b12_4 F Kf) (c4332 F Kf) (g4_4332 F Kf)
theorem s5 : Start F Kf 5 [5] := .mk rfl (b5_5 F Kf) (c5 F Kf) (g5_5 F Kf)
theorem s51 : Start F Kf 6 [5,1] := .mk rfl (b6_5 F Kf) (c51 F Kf) (g5_51 F Kf)
theorem s511 : Start F Kf 7 [5,1,1] := .mk rfl (b7_5 F Kf) (c511 F Kf) (g5_511 F Kf)
theorem s5111 : Start F Kf 8 [5,1,1,1] := .mk rfl (b8_5 F Kf) (c5111 F Kf) (g5_5111 F Kf)
theorem s52 : Start F Kf 7 [5,2] := .mk rfl (b7_5 F Kf) (c52 F Kf) (g5_52 F Kf)
theorem s521 : Start F Kf 8 [5,2,1] := .mk rfl (b8_5 F Kf) (c521 F Kf) (g5_521 F Kf)
theorem s5211 : Start F Kf 9 [5,2,1,1] := .mk rfl (b9_5 F Kf) (c5211 F Kf) (g5_5211 F Kf)
theorem s522 : Start F Kf 9 [5,2,2] := .mk rfl (b9_5 F Kf) (c522 F Kf) (g5_522 F Kf)
theorem s5221 : Start F Kf 10 [5,2,2,1] := .mk rfl (b10_5 F Kf) (c5221 F Kf) (g5_5221 F Kf)
theorem s5222 : Start F Kf 11 [5,2,2,2] := .mk rfl (b11_5 F Kf) (c5222 F Kf) (g5_5222 F Kf)
theorem s53 : Start F Kf 8 [5,3] := .mk rfl (b8_5 F Kf) (c53 F Kf) (g5_53 F Kf)
theorem s531 : Start F Kf 9 [5,3,1] := .mk rfl (b9_5 F Kf) (c531 F Kf) (g5_531 F Kf)
theorem s5311 : Start F Kf 10 [5,3,1,1] := .mk rfl (b10_5 F Kf) (c5311 F Kf) (g5_5311 F Kf)
theorem s532 : Start F Kf 10 [5,3,2] := .mk rfl (b10_5 F Kf) (c532 F Kf) (g5_532 F Kf)
theorem s5321 : Start F Kf 11 [5,3,2,1] := .mk rfl (b11_5 F Kf) (c5321 F Kf) (g5_5321 F Kf)
theorem s5322 : Start F Kf 12 [5,3,2,2] := .mk rfl (b12_5 F Kf) (c5322 F Kf) (g5_5322 F Kf)
theorem s533 : Start F Kf 11 [5,3,3] := .mk rfl (b11_5 F Kf) (c533 F Kf) (g5_533 F Kf)
theorem s5331 : Start F Kf 12 [5,3,3,1] := .mk rfl (b12_5 F Kf) (c5331 F Kf) (g5_5331 F Kf)
theorem s5332 : Start F Kf 13 [5,3,3,2] := .mk rfl (b13_5 F Kf) (c5332 F Kf) (g5_5332 F Kf)
theorem z000 : ∀ d : Nat, d < 3 → Q F Kf 0 0 0 d := lt3 (P := Q F Kf 0 0 0) (.mk (a0000 F Kf) (s1 F Kf)) (.mk (a0001 F Kf) (s11 F Kf)) (.mk (a0002 F Kf) (s21 F Kf))
theorem z001 : ∀ d : Nat, d < 3 → Q F Kf 0 0 1 d := lt3 (P := Q F Kf 0 0 1) (.mk (a0010 F Kf) (s11 F Kf)) (.mk (a0011 F Kf) (s111 F Kf)) (.mk (a0012 F Kf) (s211 F Kf))
theorem z002 : ∀ d : Nat, d < 3 → Q F Kf 0 0 2 d := lt3 (P := Q F Kf 0 0 2) (.mk (a0020 F Kf) (s21 F Kf)) (.mk (a0021 F Kf) (s211 F Kf)) (.mk (a0022 F Kf) (s221 F Kf))
theorem z003 : ∀ d : Nat, d < 3 → Q F Kf 0 0 3 d := lt3 (P := Q F Kf 0 0 3) (.mk (a0030 F Kf) (s31 F Kf)) (.mk (a0031 F Kf) (s311 F Kf)) (.mk (a0032 F Kf) (s321 F Kf))
theorem z010 : ∀ d : Nat, d < 3 → Q F Kf 0 1 0 d := lt3 (P := Q F Kf 0 1 0) (.mk (a0100 F Kf) (s11 F Kf)) (.mk (a0101 F Kf) (s111 F Kf)) (.mk (a0102 F Kf) (s211 F Kf))
theorem z011 : ∀ d : Nat, d < 3 → Q F Kf 0 1 1 d := lt3 (P := Q F Kf 0 1 1) (.mk (a0110 F Kf) (s111 F Kf)) (.mk (a0111 F Kf) (s1111 F Kf)) (.mk (a0112 F Kf) (s2111 F Kf))
theorem z012 : ∀ d : Nat, d < 3 → Q F Kf 0 1 2 d := lt3 (P := Q F Kf 0 1 2) (.mk (a0120 F Kf) (s211 F Kf)) (.mk (a0121 F Kf) (s2111 F Kf)) (.mk (a0122 F Kf) (s2211 F Kf))
theorem z013 : ∀ d : Nat, d < 3 → Q F Kf 0 1 3 d := lt3 (P := Q F Kf 0 1 3) (.mk (a0130 F Kf) (s311 F Kf)) (.mk (a0131 F Kf) (s3111 F Kf)) (.mk (a0132 F Kf) (s3211 F Kf))
theorem z020 : ∀ d : Nat, d < 3 → Q F Kf 0 2 0 d := lt3 (P := Q F Kf 0 2 0) (.mk (a0200 F Kf) (s21 F Kf)) (.mk (a0201 F Kf) (s211 F Kf)) (.mk (a0202 F Kf) (s221 F Kf))
theorem z021 : ∀ d : Nat, d < 3 → Q F Kf 0 2 1 d := lt3 (P := Q F Kf 0 2 1) (.mk (a0210 F Kf) (s211 F Kf)) (.mk (a0211 F Kf) (s2111 F Kf)) (.mk (a0212 F Kf) (s2211 F Kf))
theorem z022 : ∀ d : Nat, d < 3 → Q F Kf 0 2 2 d := lt3 (P := Q F Kf 0 2 2) (.mk (a0220 F Kf) (s221 F Kf)) (.mk (a0221 F Kf) (s2211 F Kf)) (.mk (a0222 F Kf) (s2221 F Kf))
theorem z023 : ∀ d : Nat, d < 3 → Q F Kf 0 2 3 d := lt3 (P := Q F Kf 0 2 3) (.mk (a0230 F Kf) (s321 F Kf)) (.mk (a0231 F Kf) (s3211 F Kf)) (.mk (a0232 F Kf) (s3221 F Kf))
theorem z030 : ∀ d : Nat, d < 3 → Q F Kf 0 3 0 d := lt3 (P := Q F Kf 0 3 0) (.mk (a0300 F Kf) (s31 F Kf)) (.mk (a0301 F Kf) (s311 F Kf)) (.mk (a0302 F Kf) (s321 F Kf))
theorem z031 : ∀ d : Nat, d < 3 → Q F Kf 0 3 1 d := lt3 (P := Q F Kf 0 3 1) (.mk (a0310 F Kf) (s311 F Kf)) (.mk (a0311 F Kf) (s3111 F Kf)) (.mk (a0312 F Kf) (s3211 F Kf))
theorem z032 : ∀ d : Nat, d < 3 → Q F Kf 0 3 2 d := lt3 (P := Q F Kf 0 3 2) (.mk (a0320 F Kf) (s321 F Kf)) (.mk (a0321 F Kf) (s3211 F Kf)) (.mk (a0322 F Kf) (s3221 F Kf))
theorem z033 : ∀ d : Nat, d < 3 → Q F Kf 0 3 3 d := lt3 (P := Q F Kf 0 3 3) (.mk (a0330 F Kf) (s331 F Kf)) (.mk (a0331 F Kf) (s3311 F Kf)) (.mk (a0332 F Kf) (s3321 F Kf))
theorem z100 : ∀ d : Nat, d < 3 → Q F Kf 1 0 0 d := lt3 (P := Q F Kf 1 0 0) (.mk (a1000 F Kf) (s2 F Kf)) (.mk (a1001 F Kf) (s21 F Kf)) (.mk (a1002 F Kf) (s22 F Kf))
theorem z101 : ∀ d : Nat, d < 3 → Q F Kf 1 0 1 d := lt3 (P := Q F Kf 1 0 1) (.mk (a1010 F Kf) (s21 F Kf)) (.mk (a1011 F Kf) (s211 F Kf)) (.mk (a1012 F Kf) (s221 F Kf))
theorem z102 : ∀ d : Nat, d < 3 → Q F Kf 1 0 2 d := lt3 (P := Q F Kf 1 0 2) (.mk (a1020 F Kf) (s22 F Kf)) (.mk (a1021 F Kf) (s221 F Kf)) (.mk (a1022 F Kf) (s222 F Kf))
theorem z103 : ∀ d : Nat, d < 3 → Q F Kf 1 0 3 d := lt3 (P := Q F Kf 1 0 3) (.mk (a1030 F Kf) (s32 F Kf)) (.mk (a1031 F Kf) (s321 F Kf)) (.mk (a1032 F Kf) (s322 F Kf))
theorem z110 : ∀ d : Nat, d < 3 → Q F Kf 1 1 0 d := lt3 (P := Q F Kf 1 1 0) (.mk (a1100 F Kf) (s21 F Kf)) (.mk (a1101 F Kf) (s211 F Kf)) (.mk (a1102 F Kf) (s221 F Kf))
theorem z111 : ∀ d : Nat, d < 3 → Q F Kf 1 1 1 d := lt3 (P := Q F Kf 1 1 1) (.mk (a1110 F Kf) (s211 F Kf)) (.mk (a1111 F Kf) (s2111 F Kf)) (.mk (a1112 F Kf) (s2211 F Kf))
theorem z112 : ∀ d : Nat, d < 3 → Q F Kf 1 1 2 d := lt3 (P := Q F Kf 1 1 2) (.mk (a1120 F Kf) (s221 F Kf)) (.mk (a1121 F Kf) (s2211 F Kf)) (.mk (a1122 F Kf) (s2221 F Kf))
theorem z113 : ∀ d : Nat, d < 3 → Q F Kf 1 1 3 d := lt3 (P := Q F Kf 1 1 3) (.mk (a1130 F Kf) (s321 F Kf)) (.mk (a1131 F Kf) (s3211 F Kf)) (.mk (a1132 F Kf) (s3221 F Kf))
theorem z120 : ∀ d : Nat, d < 3 → Q F Kf 1 2 0 d := lt3 (P := Q F Kf 1 2 0) (.mk (a1200 F Kf) (s22 F Kf)) (.mk (a1201 F Kf) (s221 F Kf)) (.mk (a1202 F Kf) (s222 F Kf))
theorem z121 : ∀ d : Nat, d < 3 → Q F Kf 1 2 1 d := lt3 (P := Q F Kf 1 2 1) (.mk (a1210 F Kf) (s221 F Kf)) (.mk (a1211 F Kf) (s2211 F Kf)) (.mk (a1212 F Kf) (s2221 F Kf))
theorem z122 : ∀ d : Nat, d < 3 → Q F Kf 1 2 2 d := lt3 (P := Q F Kf 1 2 2) (.mk (a1220 F Kf) (s222 F Kf)) (.mk (a1221 F Kf) (s2221 F Kf)) (.mk (a1222 F Kf) (s2222 F Kf))
theorem z123 : ∀ d : Nat, d < 3 → Q F Kf 1 2 3 d := lt3 (P := Q F Kf 1 2 3) (.mk (a1230 F Kf) (s322 F Kf)) (.mk (a1231 F Kf) (s3221 F Kf)) (.mk (a1232 F Kf) (s3222 F Kf))
theorem z130 : ∀ d : Nat, d < 3 → Q F Kf 1 3 0 d := lt3 (P := Q F Kf 1 3 0) (.mk (a1300 F Kf) (s32 F Kf)) (.mk (a1301 F Kf) (s321 F Kf)) (.mk (a1302 F Kf) (s322 F Kf))
theorem z131 : ∀ d : Nat, d < 3 → Q F Kf 1 3 1 d := lt3 (P := Q F Kf 1 3 1) (.mk (a1310 F Kf) (s321 F Kf)) (.mk (a1311 F Kf) (s3211 F Kf)) (.mk (a1312 F Kf) (s3221 F Kf))
theorem z132 : ∀ d : Nat, d < 3 → Q F Kf 1 3 2 d := lt3 (P := Q F Kf 1 3 2) (.mk (a1320 F Kf) (s322 F Kf)) (.mk (a1321 F Kf) (s3221 F Kf)) (.mk (a1322 F Kf) (s3222 F Kf))
theorem z133 : ∀ d : Nat, d < 3 → Q F Kf 1 3 3 d := lt3 (P := Q F Kf 1 3 3) (.mk (a1330 F Kf) (s332 F Kf)) (.mk (a1331 F Kf) (s3321 F Kf)) (.mk (a1332 F Kf) (s3322 F Kf))
theorem z200 : ∀ d : Nat, d < 3 → Q F Kf 2 0 0 d := lt3 (P := Q F Kf 2 0 0) (.mk (a2000 F Kf) (s3 F Kf)) (.mk (a2001 F Kf) (s31 F Kf)) (.mk (a2002 F Kf) (s32 F Kf))
theorem z201 : ∀ d : Nat, d < 3 → Q F Kf 2 0 1 d := lt3 (P := Q F Kf 2 0 1) (.mk (a2010 F Kf) (s31 F Kf)) (.mk (a2011 F Kf) (s311 F Kf)) (.mk (a2012 F Kf) (s321 F Kf))
theorem z202 : ∀ d : Nat, d < 3 → Q F Kf 2 0 2 d := lt3 (P := Q F Kf 2 0 2) (.mk (a2020 F Kf) (s32 F Kf)) (.mk (a2021 F Kf) (s321 F Kf)) (.mk (a2022 F Kf) (s322 F Kf))
theorem z203 : ∀ d : Nat, d < 3 → Q F Kf 2 0 3 d := lt3 (P := Q F Kf 2 0 3) (.mk (a2030 F Kf) (s33 F Kf)) (.mk (a2031 F Kf) (s331 F Kf)) (.mk (a2032 F Kf) (s332 F Kf))
theorem z210 : ∀ d : Nat, d < 3 → Q F Kf 2 1 0 d := lt3 (P := Q F Kf 2 1 0) (.mk (a2100 F Kf) (s31 F Kf)) (.mk (a2101 F Kf) (s311 F Kf)) (.mk (a2102 F Kf) (s321 F Kf))
theorem z211 : ∀ d : Nat, d < 3 → Q F Kf 2 1 1 d := lt3 (P := Q F Kf 2 1 1) (.mk (a2110 F Kf) (s311 F Kf)) (.mk (a2111 F Kf) (s3111 F Kf)) (.mk (a2112 F Kf) (s3211 F Kf))
theorem z212 : ∀ d : Nat, d < 3 → Q F Kf 2 1 2 d := lt3 (P := Q F Kf 2 1 2) (.mk (a2120 F Kf) (s321 F Kf)) (.mk (a2121 F Kf) (s3211 F Kf)) (.mk (a2122 F Kf) (s3221 F Kf))
theorem z213 : ∀ d : Nat, d < 3 → Q F Kf 2 1 3 d := lt3 (P := Q F Kf 2 1 3) (.mk (a2130 F Kf) (s331 F Kf)) (.mk (a2131 F Kf) (s3311 F Kf)) (.mk (a2132 F Kf) (s3321 F Kf))
theorem z220 : ∀ d : Nat, d < 3 → Q F Kf 2 2 0 d := lt3 (P := Q F Kf 2 2 0) (.mk (a2200 F Kf) (s32 F Kf)) (.mk (a2201 F Kf) (s321 F Kf)) (.mk (a2202 F Kf) (s322 F Kf))
theorem z221 : ∀ d : Nat, d < 3 → Q F Kf 2 2 1 d := lt3 (P := Q F Kf 2 2 1) (.mk (a2210 F Kf) (s321 F Kf)) (.mk (a2211 F Kf) (s3211 F Kf)) (.mk (a2212 F Kf) (s3221 F Kf))
theorem z222 : ∀ d : Nat, d < 3 → Q F Kf 2 2 2 d := lt3 (P := Q F Kf 2 2 2) (.mk (a2220 F Kf) (s322 F Kf)) (.mk (a2221 F Kf) (s3221 F Kf)) (.mk (a2222 F Kf) (s3222 F Kf))
theorem z223 : ∀ d : Nat, d < 3 → Q F Kf 2 2 3 d := lt3 (P := Q F Kf 2 2 3) (.mk (a2230 F Kf) (s332 F Kf)) (.mk (a2231 F Kf) (s3321 F Kf)) (.mk (a2232 F Kf) (s3322 F Kf))
theorem z230 : ∀ d : Nat, d < 3 → Q F Kf 2 3 0 d := lt3 (P := Q F Kf 2 3 0) (.mk (a2300 F Kf) (s33 F Kf)) (.mk (a2301 F Kf) (s331 F Kf)) (.mk (a2302 F Kf) (s332 F Kf))
theorem z231 : ∀ d : Nat, d < 3 → Q F Kf 2 3 1 d := lt3 (P := Q F Kf 2 3 1) (.mk (a2310 F Kf) (s331 F Kf)) (.mk (a2311 F Kf) (s3311 F Kf)) (.mk (a2312 F Kf) (s3321 F Kf))
theorem z232 : ∀ d : Nat, d < 3 → Q F Kf 2 3 2 d := lt3 (P := Q F Kf 2 3 2) (.mk (a2320 F Kf) (s332 F Kf)) (.mk (a2321 F Kf) (s3321 F Kf)) (.mk (a2322 F Kf) (s3322 F Kf))
theorem z233 : ∀ d : Nat, d < 3 → Q F Kf 2 3 3 d := lt3 (P := Q F Kf 2 3 3) (.mk (a2330 F Kf) (s333 F Kf)) (.mk (a2331 F Kf) (s3331 F Kf)) (.mk (a2332 F Kf) (s3332 F Kf))
theorem z300 : ∀ d : Nat, d < 3 → Q F Kf 3 0 0 d := lt3 (P := Q F Kf 3 0 0) (.mk (a3000 F Kf) (s4 F Kf)) (.mk (a3001 F Kf) (s41 F Kf)) (.mk (a3002 F Kf) (s42 F Kf))
theorem z301 : ∀ d : Nat, d < 3 → Q F Kf 3 0 1 d := lt3 (P := Q F Kf 3 0 1) (.mk (a3010 F Kf) (s41 F Kf)) (.mk (a3011 F Kf) (s411 F Kf)) (.mk (a3012 F Kf) (s421 F Kf))
theorem z302 : ∀ d : Nat, d < 3 → Q F Kf 3 0 2 d := lt3 (P := Q F Kf 3 0 2) (.mk (a3020 F Kf) (s42 F Kf)) (.mk (a3021 F Kf) (s421 F Kf)) (.mk (a3022 F Kf) (s422 F Kf))
theorem z303 : ∀ d : Nat, d < 3 → Q F Kf 3 0 3 d := lt3 (P := Q F Kf 3 0 3) (.mk (a3030 F Kf) (s43 F Kf)) (.mk (a3031 F Kf) (s431 F Kf)) (.mk (a3032 F Kf) (s432 F Kf))
theorem z310 : ∀ d : Nat, d < 3 → Q F Kf 3 1 0 d := lt3 (P := Q F Kf 3 1 0) (.mk (a3100 F Kf) (s41 F Kf)) (.mk (a3101 F Kf) (s411 F Kf)) (.mk (a3102 F Kf) (s421 F Kf))
theorem z311 : ∀ d : Nat, d < 3 → Q F Kf 3 1 1 d := lt3 (P := Q F Kf 3 1 1) (.mk (a3110 F Kf) (s411 F Kf)) (.mk (a3111 F Kf) (s4111 F Kf)) (.mk (a3112 F Kf) (s4211 F Kf))
theorem z312 : ∀ d : Nat, d < 3 → Q F Kf 3 1 2 d := lt3 (P := Q F Kf 3 1 2) (.mk (a3120 F Kf) (s421 F Kf)) (.mk (a3121 F Kf) (s4211 F Kf)) (.mk (a3122 F Kf) (s4221 F Kf))
theorem z313 : ∀ d : Nat, d < 3 → Q F Kf 3 1 3 d := lt3 (P := Q F Kf 3 1 3) (.mk (a3130 F Kf) (s431 F Kf)) (.mk (a3131 F Kf) (s4311 F Kf)) (.mk (a3132 F Kf) (s4321 F Kf))
theorem z320 : ∀ d : Nat, d < 3 → Q F Kf 3 2 0 d := lt3 (P := Q F Kf 3 2 0) (.mk (a3200 F Kf) (s42 F Kf)) (.mk (a3201 F Kf) (s421 F Kf)) (.mk (a3202 F Kf) (s422 F Kf))
theorem z321 : ∀ d : Nat, d < 3 → Q F Kf 3 2 1 d := lt3 (P := Q F Kf 3 2 1) (.mk (a3210 F Kf) (s421 F Kf)) (.mk (a3211 F Kf) (s4211 F Kf)) (.mk (a3212 F Kf) (s4221 F Kf))
theorem z322 : ∀ d : Nat, d < 3 → Q F Kf 3 2 2 d := lt3 (P := Q F Kf 3 2 2) (.mk (a3220 F Kf) (s422 F Kf)) (.mk (a3221 F Kf) (s4221 F Kf)) (.mk (a3222 F Kf) (s4222 F Kf))
theorem z323 : ∀ d : Nat, d < 3 → Q F Kf 3 2 3 d := lt3 (P := Q F Kf 3 2 3) (.mk (a3230 F Kf) (s432 F Kf)) (.mk (a3231 F Kf) (s4321 F Kf)) (.mk (a3232 F Kf) (s4322 F Kf))
theorem z330 : ∀ d : Nat, d < 3 → Q F Kf 3 3 0 d := lt3 (P := Q F Kf 3 3 0) (.mk (a3300 F Kf) (s43 F Kf)) (.mk (a3301 F Kf) (s431 F Kf)) (.mk (a3302 F Kf) (s432 F Kf))
theorem z331 : ∀ d : Nat, d < 3 → Q F Kf 3 3 1 d := lt3 (P := Q F Kf 3 3 1) (.mk (a3310 F Kf) (s431 F Kf)) (.mk (a3311 F Kf) (s4311 F Kf)) (.mk (a3312 F Kf) (s4321 F Kf))
theorem z332 : ∀ d : Nat, d < 3 → Q F Kf 3 3 2 d := lt3 (P := Q F Kf 3 3 2) (.mk (a3320 F Kf) (s432 F Kf)) (.mk (a3321 F Kf) (s4321 F Kf)) (.mk (a3322 F Kf) (s4322 F Kf))
theorem z333 : ∀ d : Nat, d < 3 → Q F Kf 3 3 3 d := lt3 (P := Q F Kf 3 3 3) (.mk (a3330 F Kf) (s433 F Kf)) (.mk (a3331 F Kf) (s4331 F Kf)) (.mk (a3332 F Kf) (s4332 F Kf))
theorem z400 : ∀ d : Nat, d < 3 → Q F Kf 4 0 0 d := lt3 (P := Q F Kf 4 0 0) (.mk (a4000 F Kf) (s5 F Kf)) (.mk (a4001 F Kf) (s51 F Kf)) (.mk (a4002 F Kf) (s52 F Kf))
theorem z401 : ∀ d : Nat, d < 3 → Q F Kf 4 0 1 d := lt3 (P := Q F Kf 4 0 1) (.mk (a4010 F Kf) (s51 F Kf)) (.mk (a4011 F Kf) (s511 F Kf)) (.mk (a4012 F Kf) (s521 F Kf))
theorem z402 : ∀ d : Nat, d < 3 → Q F Kf 4 0 2 d := lt3 (P := Q F Kf 4 0 2) (.mk (a4020 F Kf) (s52 F Kf)) (.mk (a4021 F Kf) (s521 F Kf)) (.mk (a4022 F Kf) (s522 F Kf))
theorem z403 : ∀ d : Nat, d < 3 → Q F Kf 4 0 3 d := lt3 (P := Q F Kf 4 0 3) (.mk (a4030 F Kf) (s53 F Kf)) (.mk (a4031 F Kf) (s531 F Kf)) (.mk (a4032 F Kf) (s532 F Kf))
theorem z410 : ∀ d : Nat, d < 3 → Q F Kf 4 1 0 d := lt3 (P := Q F Kf 4 1 0) (.mk (a4100 F Kf) (s51 F Kf)) (.mk (a4101 F Kf) (s511 F Kf)) (.mk (a4102 F Kf) (s521 F Kf))
theorem z411 : ∀ d : Nat, d < 3 → Q F Kf 4 1 1 d := lt3 (P := Q F Kf 4 1 1) (.mk (a4110 F Kf) (s511 F Kf)) (.mk (a4111 F Kf) (s5111 F Kf)) (.mk (a4112 F Kf) (s5211 F Kf))
theorem z412 : ∀ d : Nat, d < 3 → Q F Kf 4 1 2 d := lt3 (P := Q F Kf 4 1 2) (.mk (a4120 F Kf) (s521 F Kf)) (.mk (a4121 F Kf) (s5211 F Kf)) (.mk (a4122 F Kf) (s5221 F Kf))
theorem z413 : ∀ d : Nat, d < 3 → Q F Kf 4 1 3 d := lt3 (P := Q F Kf 4 1 3) (.mk (a4130 F Kf) (s531 F Kf)) (.mk (a4131 F Kf) (s5311 F Kf)) (.mk (a4132 F Kf) (s5321 F Kf))
theorem z420 : ∀ d : Nat, d < 3 → Q F Kf 4 2 0 d := lt3 (P := Q F Kf 4 2 0) (.mk (a4200 F Kf) (s52 F Kf)) (.mk (a4201 F Kf) (s521 F Kf)) (.mk (a4202 F Kf) (s522 F Kf))
theorem z421 : ∀ d : Nat, d < 3 → Q F Kf 4 2 1 d := lt3 (P := Q F Kf 4 2 1) (.mk (a4210 F Kf) (s521 F Kf)) (.mk (a4211 F Kf) (s5211 F Kf)) (.mk (a4212 F Kf) (s5221 F Kf))
theorem z422 : ∀ d : Nat, d < 3 → Q F Kf 4 2 2 d := lt3 (P := Q F Kf 4 2 2) (.mk (a4220 F Kf) (s522 F Kf)) (.mk (a4221 F Kf) (s5221 F Kf)) (.mk (a4222 F Kf) (s5222 F Kf))
theorem z423 : ∀ d : Nat, d < 3 → Q F Kf 4 2 3 d := lt3 (P := Q F Kf 4 2 3) (.mk (a4230 F Kf) (s532 F Kf)) (.mk (a4231 F Kf) (s5321 F Kf)) (.mk (a4232 F Kf) (s5322 F Kf))
theorem z430 : ∀ d : Nat, d < 3 → Q F Kf 4 3 0 d := lt3 (P := Q F Kf 4 3 0) (.mk (a4300 F Kf) (s53 F Kf)) (.mk (a4301 F Kf) (s531 F Kf)) (.mk (a4302 F Kf) (s532 F Kf))
theorem z431 : ∀ d : Nat, d < 3 → Q F Kf 4 3 1 d := lt3 (P := Q F Kf 4 3 1) (.mk (a4310 F Kf) (s531 F Kf)) (.mk (a4311 F Kf) (s5311 F Kf)) (.mk (a4312 F Kf) (s5321 F Kf))
theorem z432 : ∀ d : Nat, d < 3 → Q F Kf 4 3 2 d := lt3 (P := Q F Kf 4 3 2) (.mk (a4320 F Kf) (s532 F Kf)) (.mk (a4321 F Kf) (s5321 F Kf)) (.mk (a4322 F Kf) (s5322 F Kf))
theorem z433 : ∀ d : Nat, d < 3 → Q F Kf 4 3 3 d := lt3 (P := Q F Kf 4 3 3) (.mk (a4330 F Kf) (s533 F Kf)) (.mk (a4331 F Kf) (s5331 F Kf)) (.mk (a4332 F Kf) (s5332 F Kf))
theorem tzAll (a b c d : Nat) (ha : a < 5) (hb : b < 4) (hc : c < 4) (hd : d < 3) : ∃ W P, TblA F Kf a b c d W P ∧ Start F Kf W P :=
  lt5 (P := fun a => ∀ b, b < 4 → ∀ c, c < 4 → ∀ d, d < 3 → Q F Kf a b c d)
    (lt4 (P := fun b => ∀ c, c < 4 → ∀ d, d < 3 → Q F Kf 0 b c d) (lt4 (P := fun c => ∀ d, d < 3 → Q F Kf 0 0 c d) (z000 F Kf) (z001 F Kf) (z002 F Kf) (z003 F Kf)) (lt4 (P := fun c => ∀ d, d < 3 → Q F Kf 0 1 c d) (z010 F Kf) (z011 F Kf) (z012 F Kf) (z013 F Kf)) (lt4 (P := fun c => ∀ d, d < 3 → Q F Kf 0 2 c d) (z020 F Kf) (z021 F Kf) (z022 F Kf) (z023 F Kf)) (lt4 (P := fun c => ∀ d, d < 3 → Q F Kf 0 3 c d) (z030 F Kf) (z031 F Kf) (z032 F Kf) (z033 F Kf)))
    (lt4 (P := fun b => ∀ c, c < 4 → ∀ d, d < 3 → Q F Kf 1 b c d) (lt4 (P := fun c => ∀ d, d < 3 → Q F Kf 1 0 c d) (z100 F Kf) (z101 F Kf) (z102 F Kf) (z103 F Kf)) (lt4 (P := fun c => ∀ d, d < 3 → Q F Kf 1 1 c d) (z110 F Kf) (z111 F Kf) (z112 F Kf) (z113 F Kf)) (lt4 (P := fun c => ∀ d, d < 3 → Q F Kf 1 2 c d) (z120 F Kf) (z121 F Kf) (z122 F Kf) (z123 F Kf)) (lt4 (P := fun c => ∀ d, d < 3 → Q F Kf 1 3 c d) (z130 F Kf) (z131 F Kf) (z132 F Kf) (z133 F Kf)))
    (lt4 (P := fun b => ∀ c, c < 4 → ∀ d, d < 3 → Q F Kf 2 b c d) (lt4 (P := fun c => ∀ d, d < 3 → Q F Kf 2 0 c d) (z200 F Kf) (z201 F Kf) (z202 F Kf) (z203 F Kf)) (lt4 (P := fun c => ∀ d, d < 3 → Q F Kf 2 1 c d) (z210 F Kf) (z211 F Kf) (z212 F Kf) (z213 F Kf)) (lt4 (P := fun c => ∀ d, d < 3 → Q F Kf 2 2 c d) (z220 F Kf) (z221 F Kf) (z222 F Kf) (z223 F Kf)) (lt4 (P := fun c => ∀ d, d < 3 → Q F Kf 2 3 c d) (z230 F Kf) (z231 F Kf) (z232 F Kf) (z233 F Kf)))
    (lt4 (P := fun b => ∀ c, c < 4 → ∀ d, d < 3 → Q F Kf 3 b c d) (lt4 (P := fun c => ∀ d, d < 3 → Q F Kf 3 0 c d) (z300 F Kf) (z301 F Kf) (z302 F Kf) (z303 F Kf)) (lt4 (P := fun c => ∀ d, d < 3 → Q F Kf 3 1 c d) (z310 F Kf) (z311 F Kf) (z312 F Kf) (z313 F Kf)) (lt4 (P := fun c => ∀ d, d < 3 → Q F Kf 3 2 c d) (z320 F Kf) (z321 F Kf) (z322 F Kf) (z323 F Kf)) (lt4 (P := fun c => ∀ d, d < 3 → Q F Kf 3 3 c d) (z330 F Kf) (z331 F Kf) (z332 F Kf) (z333 F Kf)))
    (lt4 (P := fun b => ∀ c, c < 4 → ∀ d, d < 3 → Q F Kf 4 b c d) (lt4 (P := fun c => ∀ d, d < 3 → Q F Kf 4 0 c d) (z400 F Kf) (z401 F Kf) (z402 F Kf) (z403 F Kf)) (lt4 (P := fun c => ∀ d, d < 3 → Q F Kf 4 1 c d) (z410 F Kf) (z411 F Kf) (z412 F Kf) (z413 F Kf)) (lt4 (P := fun c => ∀ d, d < 3 → Q F Kf 4 2 c d) (z420 F Kf) (z421 F Kf) (z422 F Kf) (z423 F Kf)) (lt4 (P := fun c => ∀ d, d < 3 → Q F Kf 4 3 c d) (z430 F Kf) (z431 F Kf) (z432 F Kf) (z433 F Kf)))
    a ha b hb c hc d hd
end
end Tb
end Mine
namespace Mine
section
variable {prog : Program} {w : World} {hT : Heap} {A : Around} {ρ : List Addr} {s : Shared} {hp : List AO} {n : Nat}
end
end Mine
namespace Mine
section
variable {h0 h1 : Heap}
theorem tabs0 (hf : factsAt h0 = factsE) : ∀ P ∈ tabAddrs, h0.get? P = some { cls := .none, data := .fields #[] } := by
  intro P hP
  have e : Oth h0 = othE := congrArg Facts.o hf
  have k : ∀ i b, (Oth h0)[i]? = some b → b = true := fun i b h => bl_at e h
  rcases List.mem_cons.mp hP with rfl | hP
  · exact emptyB_ok (k 4 _ rfl)
  rcases List.mem_cons.mp hP with rfl | hP
  · exact emptyB_ok (k 5 _ rfl)
  rcases List.mem_cons.mp hP with rfl | hP
  · exact emptyB_ok (k 6 _ rfl)
  rcases List.mem_cons.mp hP with rfl | hP
  · exact emptyB_ok (k 7 _ rfl)
  cases hP
theorem hid_ns {a : Addr} {f : Str → Option Value} (ha : a ∉ tabAddrs) (N : h1.Ns a f) : (hidden h1).Ns a f := by
  revert N; refine fun h0 => ex3_2 h0 fun o es ep e r => ?_; clear h0
  exact ⟨o, es, ep, hideAll_get _ e ha, r⟩
theorem ns_same {a : Addr} {x : Str} {v : Value} (k : ∀ b o, h0.get? b = some o → h1.get? b = some o) (e : (h0.nsMap a x).map vsh = some v) : h0.nsMap a = h1.nsMap a := by
  funext y
  unfold Heap.nsMap at e ⊢
  cases q : h0.get? a with
  | none => rw [q] at e; exact noneE e
  | some o => rw [k _ _ q]
theorem glb0 (hf : factsAt h0 = factsE) {p : Str × (Option Value × Option Value)} (m : p ∈ glbs) : ((h0.nsMap mainGlobals p.1).map vsh, match p.2.1 with
  | some _ => none
  | none => (h0.nsMap builtinsNs p.1).map vsh) = p.2 := map_all (congrArg Facts.f hf) p m
theorem topS_of {p : Program} {loose : List Str} {mean : ExcName → Option Value} {mg mb : Str → Option Value} (T : Top p loose mean mg mb h1) (hf : factsAt h0 = factsE) (k : ∀ b o, h0.get? b = some o → h1.get? b = some o) : TopS h0 (hidden h1) ∧ mg = h0.nsMap mainGlobals := by
  have em : mg = h0.nsMap mainGlobals := by
    have := congrArg Prod.fst (glb0 hf (List.mem_of_getElem? (show glbs[1]? = some _ from rfl)))
    rw [T.g.eq_nsMap, ns_same k this]
  have eb : mb = h0.nsMap builtinsNs := by
    have := congrArg Prod.snd (glb0 hf (List.mem_of_getElem? (show glbs[14]? = some _ from rfl)))
    rw [T.b.eq_nsMap, ns_same k this]
  refine ⟨⟨hf, fun a o e n => hideAll_get _ (k _ _ e) n, em ▸ hid_ns (by decide) T.g, eb ▸ hid_ns (by decide) T.b, ?_, fun P hP => hideAll_none _ hP, ?_⟩, em⟩
  · refine ex1_2 T.nolimit fun mc a b => ?_
    exact ⟨mc, hid_ns (by decide) a, b⟩
  · obtain ⟨bm, ob, b1, b2, b3, b4, b5, b6⟩ := T.bmain
    refine ⟨bm, ob, em ▸ b1, b2, hideAll_get _ b3 fun q => ?_, b4, b5, b6⟩
    rw [k _ _ (tabs0 hf _ q)] at b3
    revert b3; refine someC fun h => ?_; subst h
    cases b4
theorem inv0 (hf : factsAt h0 = factsE) (k : ∀ b o, h0.get? b = some o → h1.get? b = some o) : Inv [37, 44, 175, 182] hp4 h1 := by
  have t : ∀ P ∈ tabAddrs, ∀ q, OR [37, 44, 175, 182] h1 P (.tab P q) := fun P hP q => ⟨rfl, #[], k _ _ (tabs0 hf P hP), trivial, fun nm zz pos c e => by exact noneE e⟩
  refine ⟨rfl, by decide, fun i o a e1 e2 => ?_⟩
  match i with
  | 0 => revert e1; refine someC fun h => ?_; subst h; revert e2; refine someC fun h => ?_; subst h; exact t _ (by decide) _
  | 1 => revert e1; refine someC fun h => ?_; subst h; revert e2; refine someC fun h => ?_; subst h; exact t _ (by decide) _
  | 2 => revert e1; refine someC fun h => ?_; subst h; revert e2; refine someC fun h => ?_; subst h; exact t _ (by decide) _
  | 3 => revert e1; refine someC fun h => ?_; subst h; revert e2; refine someC fun h => ?_; subst h; exact t _ (by decide) _
  | i + 4 => exact noneE e1
theorem tabs_end {hT h : Heap} {ρ : List Addr} {L : Addr} {σ : St} (R : Rel hT ρ L σ h) (h4 : σ.hp.take 4 = hpL) : ∀ P ∈ tabAddrs, ∃ ps, h.get? P = some { cls := .none, data := .fields ps } := by
  have g : ∀ (i : Nat) (P : Addr) (q : Option Str), i < 4 → hpL[i]? = some (.tab P q) → ∃ ps, h.get? P = some { cls := .none, data := .fields ps } := fun i P q hi e => by
    rw [← h4, take_get hi] at e
    refine ex1_2 (R.inv.get e) fun a ha x => ?_
    obtain ⟨rfl, ps, e, _⟩ := x
    exact ⟨ps, e⟩
  intro P hP
  rcases List.mem_cons.mp hP with rfl | hP
  · exact g 0 37 _ (by decide) rfl
  rcases List.mem_cons.mp hP with rfl | hP
  · exact g 1 44 _ (by decide) rfl
  rcases List.mem_cons.mp hP with rfl | hP
  · exact g 2 175 _ (by decide) rfl
  rcases List.mem_cons.mp hP with rfl | hP
  · exact g 3 182 _ (by decide) rfl
  cases hP
end
section
variable {w : World} {s₀ s₁ : Shared}
noncomputable abbrev pwL : Program := PySem.Challenge.pw_sr0087_01
theorem law_call {E : Value → Shared → Prop} (hA : ∀ (F : Addr → FuncData) (Kf : Frag) (r0 r1 r2 r3 : Nat), r0 < 5 → r1 < 4 → r2 < 4 → r3 < 3 → ∃ W P, TblA F Kf r0 r1 r2 r3 W P ∧ Start F Kf W P) (T : TopS s₀.heap (hidden s₁.heap)) (hf : factsAt s₀.heap = factsE) (k : ∀ b o, s₀.heap.get? b = some o → s₁.heap.get? b = some o)
    {S : Addr} {vals : List Value} (hS : (hidden s₁.heap).IsList S vals.toArray) (hi : ∀ v ∈ vals, ∃ i t, v = .int i t) :
    wpAny (model pwL w) callerA (PySem.call (.ref 307) [.ref S]) (fun v s' => v = .bool true ∧ (∀ b o, (hidden s₁.heap).get? b = some o → s'.heap.get? b = some o) ∧ (∀ P ∈ tabAddrs, ∃ ps, s'.heap.get? P = some { cls := .none, data := .fields ps }) ∧ Ok s₁ s') E s₁ := by
  have O := cfg_ok T
  refine wpAny_mono (wpAny_of_code ?_) (fun zz zz z => z) fun zz zz z => z.elim
  have c : Cx callerA (164 + 1) := ⟨by decide, by decide, rfl⟩
  refine callA_cells0 (hT := hidden s₁.heap) (ρ := [37, 44, 175, 182]) (hp := hp4) (r := r307 (fdOf s₀.heap)) (args := [.fn S]) (bs := [(Str.ofString "script", .fn S)]) c T.lim (inv0 hf k) (fun b o e => of_hideAll _ e) (fun a ha => T.hid a ha) (Nat.le_of_eq (hideAll_size _ _)) (O.all.f.fn 307 _ (by kernel_rfl)) (by kernel_rfl) (.cons _ _ _ _ (.fn S) .nil) (by kernel_rfl)
    fun {A' L' ρ' s'} c' R' Ev' keep _ _ _ hos hg => ?_
  have e1 : (⟨hp4 ++ (cnames (r307 (fdOf s₀.heap)).scope.names).map (fun n => AO.cell (lk n [(Str.ofString "script", AV.fn S)].reverse)), filtA (r307 (fdOf s₀.heap)).scope.names [(Str.ofString "script", AV.fn S)].reverse⟩ : St) = ⟨hpL ++ [.cell none], [(xScript, .fn S)]⟩ := by kernel_rfl
  have e2 : (⟨(r307 (fdOf s₀.heap)).scope, (numbered (cnames (r307 (fdOf s₀.heap)).scope.names) hp4.length).reverse, some (307, (r307 (fdOf s₀.heap)).fd)⟩ : AE) = ae307 (fdOf s₀.heap) := by kernel_rfl
  rw [e1] at R'
  rw [e2] at Ev'
  refine ex1_2 (T.globB (List.mem_of_getElem? (show glbs[24]? = some _ from rfl))) fun u hu hE => ?_
  have hu' : u = .type "enumerate" := by
    cases u <;> first | exact hu | cases hu
  subst hu'
  refine wpAny_mono (law_body O c' hE hS hi R' Ev' (hA _ _)) (fun g s'' hgq => ?_) fun zz zz z => z
  obtain ⟨rfl, ρ', σ', R, h4, Ok'⟩ := hgq
  exact ⟨rfl, R.keep, tabs_end R h4, ⟨Ok'.os.trans hos, fun z => Ok'.gens (by rw [hg]; exact z)⟩⟩
end
end Mine
namespace Mine
theorem leftO : LeftO pwL qv looseQ (fun zz => true) (fun s => factsAt s.heap) (fun zz => factsE) 4000 := fun w => by
  have e := World.withFollow_self w "special-get-raises"
  cases hb : w.params.followText "special-get-raises" <;> rw [hb] at e
  · have := rowF w; rw [e] at this; exact this
  · have := rowT w; rw [e] at this; exact this
section
variable {w : World} {s₀ s₁ : Shared}
theorem code_tab (T : TopS s₀.heap (hidden s₁.heap)) (k : ∀ b o, s₀.heap.get? b = some o → s₁.heap.get? b = some o) {a P i : Nat} {f : FnS} (m : (a, f) ∈ fns) (h : (Oth s₀.heap)[i]? = some (tabB s₀.heap a P)) (hP : s₁.heap.get? P = some { cls := .none, data := .fields #[] }) : isCodeTable s₁.heap P := by
  refine ex1_3 (fdOf_at T m) fun fd hf e es => ?_
  refine ex1_2 (tabB_ok T hf (bl_at T.oth h)) fun c x y => ?_
  exact ((y.keeps fun b o e => of_hideAll _ e).tab hP).isCodeTable
theorem old_k (T : TopS s₀.heap (hidden s₁.heap)) (hf : factsAt s₀.heap = factsE) (k : ∀ b o, s₀.heap.get? b = some o → s₁.heap.get? b = some o) {h : Heap} (K : ∀ b o, (hidden s₁.heap).get? b = some o → h.get? b = some o)
    (G : ∀ P ∈ tabAddrs, ∃ ps, h.get? P = some { cls := .none, data := .fields ps }) : OldK s₁.heap h := by
  have ct : ∀ P ∈ tabAddrs, isCodeTable s₁.heap P := by
    intro P hP
    have hP' := k _ _ (tabs0 hf P hP)
    rcases List.mem_cons.mp hP with rfl | hP
    · exact code_tab T k (a := 42) (i := 0) (List.mem_of_getElem? (show fns[2]? = some _ from rfl)) rfl hP'
    rcases List.mem_cons.mp hP with rfl | hP
    · exact code_tab T k (a := 49) (i := 1) (List.mem_of_getElem? (show fns[3]? = some _ from rfl)) rfl hP'
    rcases List.mem_cons.mp hP with rfl | hP
    · exact code_tab T k (a := 180) (i := 2) (List.mem_of_getElem? (show fns[13]? = some _ from rfl)) rfl hP'
    rcases List.mem_cons.mp hP with rfl | hP
    · exact code_tab T k (a := 187) (i := 3) (List.mem_of_getElem? (show fns[14]? = some _ from rfl)) rfl hP'
    cases hP
  refine ⟨fun b o e => ?_, fun b o e => ?_⟩
  · by_cases hb : b ∈ tabAddrs
    · refine ex1_1 (G b hb) fun ps hP => ?_
      rw [k _ _ (tabs0 hf b hb)] at e
      revert e; refine someC fun h => ?_; subst h
      exact .inr (.inl ⟨ct b hb, rfl, #[], ps, rfl, by rw [Array.empty_append]; exact hP⟩)
    · exact .inl (K b o (hideAll_get _ e hb))
  · by_cases hb : b ∈ tabAddrs
    · refine ex1_1 (G b hb) fun ps hP => ?_
      exact ⟨_, hP⟩
    · exact ⟨o, K b o (hideAll_get _ e hb)⟩
end
set_option tactic.hygienic true in
theorem hold (hA : ∀ (F : Addr → FuncData) (Kf : Frag) (r0 r1 r2 r3 : Nat), r0 < 5 → r1 < 4 → r2 < 4 → r3 < 3 → ∃ W P, TblA F Kf r0 r1 r2 r3 W P ∧ Start F Kf W P) : PySem.Challenge.rw_sr0087_01.Holds := by
  refine holds_law (by decide +kernel) fun k1 => ?_
  refine holds_openX (q := qv) (loose := looseQ) (Xt := fun zz => true) (XP := fun zz zz => True) (Yf := fun s => factsAt s.heap) (Ya := fun zz => factsE) (N := 4000) leftO (fun zz zz => trivial) (fun zz zz zz zz zz => trivial) (by rfl) (by rfl) (by rfl) (fun s e => recFacts_of (by rfl)) (by rfl) k1 (by decide +kernel) ⟨rfl, rfl, rfl, rfl, rfl, by decide +kernel⟩ ⟨[.list []], by decide +kernel, by decide +kernel⟩ ?hc
  intro w s₀ s₁ mg mb G Y a o pm cd doc dV kV ha hd hcode hdf hmg hgens args vals as La hpre hlay hreads hwell hno
  refine ex0_2 (topS_of G.T Y La.keeps) fun T em => ?_
  have ea : a = 307 := by
    have h := congrArg Prod.fst (glb0 Y (List.mem_of_getElem? (show glbs[25]? = some _ from rfl)))
    rw [em] at hmg
    have h' : ((s₀.heap.nsMap mainGlobals (L "law")).map vsh) = some (.ref 307) := h
    rw [show s₀.heap.nsMap mainGlobals (L "law") = some (.ref a) from hmg] at h'
    cases h'
    rfl
  subst ea
  refine ex2_3 (hasAllW_cons (show WShape.hasAll [] args [.list .int] = true from (pre_splitW hpre).1)) fun d1 r1 Z1 h1 h2 => ?_; subst Z1
  obtain rfl := hasAllW_nil h2
  refine ex1_2 (hasW_list h1) fun xs Z1 h3 => ?_; subst Z1
  cases hreads with
  | cons hr hn =>
    cases hn
    cases hr with
    | list ho hc hd' hall =>
      rename_i S oS vs n as'
      have hS : S ∉ tabAddrs := fun q => by
        rw [La.keeps _ _ (tabs0 Y _ q)] at ho
        revert ho; refine someC fun h => ?_; subst h
        cases hc
      have hi : ∀ v ∈ vs.toList, ∃ i t, v = .int i t := by
        generalize vs.toList = l at hall
        clear hpre hlay hwell La hno hd' h1
        induction xs generalizing l as' with
        | nil => cases hall; intro v hv; cases hv
        | cons x xs ih =>
          cases hall with
          | cons q1 q2 =>
            have h3' := h3
            simp only [WShape.hasItems, Bool.and_eq_true] at h3'
            refine ex1_1 (hasW_int h3'.1) fun i Z1 => ?_; subst Z1
            intro v hv
            rcases List.mem_cons.mp hv with rfl | hv
            · cases q1; exact ⟨_, _, rfl⟩
            · exact ih h3'.2 _ q2 v hv
      refine wpAny_mono (law_call hA T Y La.keeps (S := S) (vals := vs.toList) ⟨oS, hideAll_get _ ho hS, hc, n, by rw [hd']⟩ hi) (fun v s' hh => ?_) fun zz zz z => z
      revert hh; refine fun h0 => ex0_4 h0 fun Z1 K Gt Ok' => ?_; clear h0; subst Z1
      exact ⟨.inl ⟨.bool true, .bool true, [], rfl, fun cls => rfl, .bool true, postW_of (X := true) rfl (by first | kernel_rfl! | (simp [PySem.Challenge.rw_sr0087_01, OpenLaw.row, WTm.value]; done) | (show WTm.value _ (.eq .res (.lit (.bool true))) _ = _; simp [WTm.value])) rfl, fun zz => ⟨.nil, fun a h => nomatch h⟩⟩, old_k T Y La.keeps K Gt, Ok'.os, Ok'.gens (.of_eq hgens)⟩
end Mine
theorem PySem.Challenge.cw_sr0087_01_holds : PySem.Challenge.rw_sr0087_01.Holds := by
  exact Mine.hold Mine.Tb.tzAll
