import PyProof.Rows.All
import Wide.All
import OpenK.AllK
import Wide.FinOn
import PySem.Challenge.RW_nq0080_01
set_option Elab.async false
set_option compiler.extract_closed false
section
namespace Mine
/-- a long predicate as a variable -/
theorem abs1 {α : Type} (P : α → Prop) {G : Prop} (h : ∀ I : α → Prop, (∀ a, I a → P a) → (∀ a, P a → I a) → G) : G := h P (fun _ x => x) fun _ x => x
theorem abs2 {α β : Type} (P : α → β → Prop) {G : Prop} (h : ∀ I : α → β → Prop, (∀ a b, I a b → P a b) → (∀ a b, P a b → I a b) → G) : G := h P (fun _ _ x => x) fun _ _ x => x
/-- a long term as a variable -/
theorem absv {α : Type} (x : α) {G : Prop} (h : ∀ y, x = y → G) : G := h x rfl
theorem all_cons {α : Type} {P : α → Prop} {a : α} {l : List α} (h : P a) (t : ∀ p ∈ l, P p) : ∀ p ∈ a :: l, P p := List.forall_mem_cons.mpr ⟨h, t⟩
theorem all_app {α : Type} {P : α → Prop} {l l' : List α} (h : ∀ p ∈ l, P p) (t : ∀ p ∈ l', P p) : ∀ p ∈ l ++ l', P p := List.forall_mem_append.mpr ⟨h, t⟩
theorem ex0_2 {A0 A1 : Prop} {G : Prop} (h : A0 ∧ A1) (g : A0 → A1 → G) : G := by
  obtain ⟨h0, h1⟩ := h; exact g h0 h1
theorem ex0_3 {A0 A1 A2 : Prop} {G : Prop} (h : A0 ∧ A1 ∧ A2) (g : A0 → A1 → A2 → G) : G := by
  obtain ⟨h0, h1, h2⟩ := h; exact g h0 h1 h2
theorem ex0_5 {A0 A1 A2 A3 A4 : Prop} {G : Prop} (h : A0 ∧ A1 ∧ A2 ∧ A3 ∧ A4) (g : A0 → A1 → A2 → A3 → A4 → G) : G := by
  obtain ⟨h0, h1, h2, h3, h4⟩ := h; exact g h0 h1 h2 h3 h4
theorem ex0_6 {A0 A1 A2 A3 A4 A5 : Prop} {G : Prop} (h : A0 ∧ A1 ∧ A2 ∧ A3 ∧ A4 ∧ A5) (g : A0 → A1 → A2 → A3 → A4 → A5 → G) : G := by
  obtain ⟨h0, h1, h2, h3, h4, h5⟩ := h; exact g h0 h1 h2 h3 h4 h5
theorem ex0_9 {A0 A1 A2 A3 A4 A5 A6 A7 A8 : Prop} {G : Prop} (h : A0 ∧ A1 ∧ A2 ∧ A3 ∧ A4 ∧ A5 ∧ A6 ∧ A7 ∧ A8) (g : A0 → A1 → A2 → A3 → A4 → A5 → A6 → A7 → A8 → G) : G := by
  obtain ⟨h0, h1, h2, h3, h4, h5, h6, h7, h8⟩ := h; exact g h0 h1 h2 h3 h4 h5 h6 h7 h8
theorem ex1_1 {α0 : Type} {A0 : α0 → Prop} {G : Prop} (h : ∃ x0, A0 x0) (g : ∀ x0, A0 x0 → G) : G := by
  obtain ⟨x0, h0⟩ := h; exact g x0 h0
theorem ex1_2 {α0 : Type} {A0 A1 : α0 → Prop} {G : Prop} (h : ∃ x0, A0 x0 ∧ A1 x0) (g : ∀ x0, A0 x0 → A1 x0 → G) : G := by
  obtain ⟨x0, h0, h1⟩ := h; exact g x0 h0 h1
theorem ex1_3 {α0 : Type} {A0 A1 A2 : α0 → Prop} {G : Prop} (h : ∃ x0, A0 x0 ∧ A1 x0 ∧ A2 x0) (g : ∀ x0, A0 x0 → A1 x0 → A2 x0 → G) : G := by
  obtain ⟨x0, h0, h1, h2⟩ := h; exact g x0 h0 h1 h2
theorem ex1_6 {α0 : Type} {A0 A1 A2 A3 A4 A5 : α0 → Prop} {G : Prop} (h : ∃ x0, A0 x0 ∧ A1 x0 ∧ A2 x0 ∧ A3 x0 ∧ A4 x0 ∧ A5 x0) (g : ∀ x0, A0 x0 → A1 x0 → A2 x0 → A3 x0 → A4 x0 → A5 x0 → G) : G := by
  obtain ⟨x0, h0, h1, h2, h3, h4, h5⟩ := h; exact g x0 h0 h1 h2 h3 h4 h5
theorem ex2_1 {α0 α1 : Type} {A0 : α0 → α1 → Prop} {G : Prop} (h : ∃ x0 x1, A0 x0 x1) (g : ∀ x0 x1, A0 x0 x1 → G) : G := by
  obtain ⟨x0, x1, h0⟩ := h; exact g x0 x1 h0
theorem ex2_2 {α0 α1 : Type} {A0 A1 : α0 → α1 → Prop} {G : Prop} (h : ∃ x0 x1, A0 x0 x1 ∧ A1 x0 x1) (g : ∀ x0 x1, A0 x0 x1 → A1 x0 x1 → G) : G := by
  obtain ⟨x0, x1, h0, h1⟩ := h; exact g x0 x1 h0 h1
theorem ex2_3 {α0 α1 : Type} {A0 A1 A2 : α0 → α1 → Prop} {G : Prop} (h : ∃ x0 x1, A0 x0 x1 ∧ A1 x0 x1 ∧ A2 x0 x1) (g : ∀ x0 x1, A0 x0 x1 → A1 x0 x1 → A2 x0 x1 → G) : G := by
  obtain ⟨x0, x1, h0, h1, h2⟩ := h; exact g x0 x1 h0 h1 h2
theorem ex2_5 {α0 α1 : Type} {A0 A1 A2 A3 A4 : α0 → α1 → Prop} {G : Prop} (h : ∃ x0 x1, A0 x0 x1 ∧ A1 x0 x1 ∧ A2 x0 x1 ∧ A3 x0 x1 ∧ A4 x0 x1) (g : ∀ x0 x1, A0 x0 x1 → A1 x0 x1 → A2 x0 x1 → A3 x0 x1 → A4 x0 x1 → G) : G := by
  obtain ⟨x0, x1, h0, h1, h2, h3, h4⟩ := h; exact g x0 x1 h0 h1 h2 h3 h4
theorem ex3_2 {α0 α1 α2 : Type} {A0 A1 : α0 → α1 → α2 → Prop} {G : Prop} (h : ∃ x0 x1 x2, A0 x0 x1 x2 ∧ A1 x0 x1 x2) (g : ∀ x0 x1 x2, A0 x0 x1 x2 → A1 x0 x1 x2 → G) : G := by
  obtain ⟨x0, x1, x2, h0, h1⟩ := h; exact g x0 x1 x2 h0 h1
theorem ex3_3 {α0 α1 α2 : Type} {A0 A1 A2 : α0 → α1 → α2 → Prop} {G : Prop} (h : ∃ x0 x1 x2, A0 x0 x1 x2 ∧ A1 x0 x1 x2 ∧ A2 x0 x1 x2) (g : ∀ x0 x1 x2, A0 x0 x1 x2 → A1 x0 x1 x2 → A2 x0 x1 x2 → G) : G := by
  obtain ⟨x0, x1, x2, h0, h1, h2⟩ := h; exact g x0 x1 x2 h0 h1 h2
theorem ex3_4 {α0 α1 α2 : Type} {A0 A1 A2 A3 : α0 → α1 → α2 → Prop} {G : Prop} (h : ∃ x0 x1 x2, A0 x0 x1 x2 ∧ A1 x0 x1 x2 ∧ A2 x0 x1 x2 ∧ A3 x0 x1 x2) (g : ∀ x0 x1 x2, A0 x0 x1 x2 → A1 x0 x1 x2 → A2 x0 x1 x2 → A3 x0 x1 x2 → G) : G := by
  obtain ⟨x0, x1, x2, h0, h1, h2, h3⟩ := h; exact g x0 x1 x2 h0 h1 h2 h3
theorem ex3_6 {α0 α1 α2 : Type} {A0 A1 A2 A3 A4 A5 : α0 → α1 → α2 → Prop} {G : Prop} (h : ∃ x0 x1 x2, A0 x0 x1 x2 ∧ A1 x0 x1 x2 ∧ A2 x0 x1 x2 ∧ A3 x0 x1 x2 ∧ A4 x0 x1 x2 ∧ A5 x0 x1 x2) (g : ∀ x0 x1 x2, A0 x0 x1 x2 → A1 x0 x1 x2 → A2 x0 x1 x2 → A3 x0 x1 x2 → A4 x0 x1 x2 → A5 x0 x1 x2 → G) : G := by
  obtain ⟨x0, x1, x2, h0, h1, h2, h3, h4, h5⟩ := h; exact g x0 x1 x2 h0 h1 h2 h3 h4 h5
theorem ex4_4 {α0 α1 α2 α3 : Type} {A0 A1 A2 A3 : α0 → α1 → α2 → α3 → Prop} {G : Prop} (h : ∃ x0 x1 x2 x3, A0 x0 x1 x2 x3 ∧ A1 x0 x1 x2 x3 ∧ A2 x0 x1 x2 x3 ∧ A3 x0 x1 x2 x3) (g : ∀ x0 x1 x2 x3, A0 x0 x1 x2 x3 → A1 x0 x1 x2 x3 → A2 x0 x1 x2 x3 → A3 x0 x1 x2 x3 → G) : G := by
  obtain ⟨x0, x1, x2, x3, h0, h1, h2, h3⟩ := h; exact g x0 x1 x2 x3 h0 h1 h2 h3
theorem ex4_5 {α0 α1 α2 α3 : Type} {A0 A1 A2 A3 A4 : α0 → α1 → α2 → α3 → Prop} {G : Prop} (h : ∃ x0 x1 x2 x3, A0 x0 x1 x2 x3 ∧ A1 x0 x1 x2 x3 ∧ A2 x0 x1 x2 x3 ∧ A3 x0 x1 x2 x3 ∧ A4 x0 x1 x2 x3) (g : ∀ x0 x1 x2 x3, A0 x0 x1 x2 x3 → A1 x0 x1 x2 x3 → A2 x0 x1 x2 x3 → A3 x0 x1 x2 x3 → A4 x0 x1 x2 x3 → G) : G := by
  obtain ⟨x0, x1, x2, x3, h0, h1, h2, h3, h4⟩ := h; exact g x0 x1 x2 x3 h0 h1 h2 h3 h4
theorem ex4_6 {α0 α1 α2 α3 : Type} {A0 A1 A2 A3 A4 A5 : α0 → α1 → α2 → α3 → Prop} {G : Prop} (h : ∃ x0 x1 x2 x3, A0 x0 x1 x2 x3 ∧ A1 x0 x1 x2 x3 ∧ A2 x0 x1 x2 x3 ∧ A3 x0 x1 x2 x3 ∧ A4 x0 x1 x2 x3 ∧ A5 x0 x1 x2 x3) (g : ∀ x0 x1 x2 x3, A0 x0 x1 x2 x3 → A1 x0 x1 x2 x3 → A2 x0 x1 x2 x3 → A3 x0 x1 x2 x3 → A4 x0 x1 x2 x3 → A5 x0 x1 x2 x3 → G) : G := by
  obtain ⟨x0, x1, x2, x3, h0, h1, h2, h3, h4, h5⟩ := h; exact g x0 x1 x2 x3 h0 h1 h2 h3 h4 h5
theorem ex4_7 {α0 α1 α2 α3 : Type} {A0 A1 A2 A3 A4 A5 A6 : α0 → α1 → α2 → α3 → Prop} {G : Prop} (h : ∃ x0 x1 x2 x3, A0 x0 x1 x2 x3 ∧ A1 x0 x1 x2 x3 ∧ A2 x0 x1 x2 x3 ∧ A3 x0 x1 x2 x3 ∧ A4 x0 x1 x2 x3 ∧ A5 x0 x1 x2 x3 ∧ A6 x0 x1 x2 x3) (g : ∀ x0 x1 x2 x3, A0 x0 x1 x2 x3 → A1 x0 x1 x2 x3 → A2 x0 x1 x2 x3 → A3 x0 x1 x2 x3 → A4 x0 x1 x2 x3 → A5 x0 x1 x2 x3 → A6 x0 x1 x2 x3 → G) : G := by
  obtain ⟨x0, x1, x2, x3, h0, h1, h2, h3, h4, h5, h6⟩ := h; exact g x0 x1 x2 x3 h0 h1 h2 h3 h4 h5 h6
theorem ex5_11 {α0 α1 α2 α3 α4 : Type} {A0 A1 A2 A3 A4 A5 A6 A7 A8 A9 A10 : α0 → α1 → α2 → α3 → α4 → Prop} {G : Prop} (h : ∃ x0 x1 x2 x3 x4, A0 x0 x1 x2 x3 x4 ∧ A1 x0 x1 x2 x3 x4 ∧ A2 x0 x1 x2 x3 x4 ∧ A3 x0 x1 x2 x3 x4 ∧ A4 x0 x1 x2 x3 x4 ∧ A5 x0 x1 x2 x3 x4 ∧ A6 x0 x1 x2 x3 x4 ∧ A7 x0 x1 x2 x3 x4 ∧ A8 x0 x1 x2 x3 x4 ∧ A9 x0 x1 x2 x3 x4 ∧ A10 x0 x1 x2 x3 x4) (g : ∀ x0 x1 x2 x3 x4, A0 x0 x1 x2 x3 x4 → A1 x0 x1 x2 x3 x4 → A2 x0 x1 x2 x3 x4 → A3 x0 x1 x2 x3 x4 → A4 x0 x1 x2 x3 x4 → A5 x0 x1 x2 x3 x4 → A6 x0 x1 x2 x3 x4 → A7 x0 x1 x2 x3 x4 → A8 x0 x1 x2 x3 x4 → A9 x0 x1 x2 x3 x4 → A10 x0 x1 x2 x3 x4 → G) : G := by
  obtain ⟨x0, x1, x2, x3, x4, h0, h1, h2, h3, h4, h5, h6, h7, h8, h9, h10⟩ := h; exact g x0 x1 x2 x3 x4 h0 h1 h2 h3 h4 h5 h6 h7 h8 h9 h10
theorem ex5_6 {α0 α1 α2 α3 α4 : Type} {A0 A1 A2 A3 A4 A5 : α0 → α1 → α2 → α3 → α4 → Prop} {G : Prop} (h : ∃ x0 x1 x2 x3 x4, A0 x0 x1 x2 x3 x4 ∧ A1 x0 x1 x2 x3 x4 ∧ A2 x0 x1 x2 x3 x4 ∧ A3 x0 x1 x2 x3 x4 ∧ A4 x0 x1 x2 x3 x4 ∧ A5 x0 x1 x2 x3 x4) (g : ∀ x0 x1 x2 x3 x4, A0 x0 x1 x2 x3 x4 → A1 x0 x1 x2 x3 x4 → A2 x0 x1 x2 x3 x4 → A3 x0 x1 x2 x3 x4 → A4 x0 x1 x2 x3 x4 → A5 x0 x1 x2 x3 x4 → G) : G := by
  obtain ⟨x0, x1, x2, x3, x4, h0, h1, h2, h3, h4, h5⟩ := h; exact g x0 x1 x2 x3 x4 h0 h1 h2 h3 h4 h5
theorem ex5_8 {α0 α1 α2 α3 α4 : Type} {A0 A1 A2 A3 A4 A5 A6 A7 : α0 → α1 → α2 → α3 → α4 → Prop} {G : Prop} (h : ∃ x0 x1 x2 x3 x4, A0 x0 x1 x2 x3 x4 ∧ A1 x0 x1 x2 x3 x4 ∧ A2 x0 x1 x2 x3 x4 ∧ A3 x0 x1 x2 x3 x4 ∧ A4 x0 x1 x2 x3 x4 ∧ A5 x0 x1 x2 x3 x4 ∧ A6 x0 x1 x2 x3 x4 ∧ A7 x0 x1 x2 x3 x4) (g : ∀ x0 x1 x2 x3 x4, A0 x0 x1 x2 x3 x4 → A1 x0 x1 x2 x3 x4 → A2 x0 x1 x2 x3 x4 → A3 x0 x1 x2 x3 x4 → A4 x0 x1 x2 x3 x4 → A5 x0 x1 x2 x3 x4 → A6 x0 x1 x2 x3 x4 → A7 x0 x1 x2 x3 x4 → G) : G := by
  obtain ⟨x0, x1, x2, x3, x4, h0, h1, h2, h3, h4, h5, h6, h7⟩ := h; exact g x0 x1 x2 x3 x4 h0 h1 h2 h3 h4 h5 h6 h7
theorem ex5_9 {α0 α1 α2 α3 α4 : Type} {A0 A1 A2 A3 A4 A5 A6 A7 A8 : α0 → α1 → α2 → α3 → α4 → Prop} {G : Prop} (h : ∃ x0 x1 x2 x3 x4, A0 x0 x1 x2 x3 x4 ∧ A1 x0 x1 x2 x3 x4 ∧ A2 x0 x1 x2 x3 x4 ∧ A3 x0 x1 x2 x3 x4 ∧ A4 x0 x1 x2 x3 x4 ∧ A5 x0 x1 x2 x3 x4 ∧ A6 x0 x1 x2 x3 x4 ∧ A7 x0 x1 x2 x3 x4 ∧ A8 x0 x1 x2 x3 x4) (g : ∀ x0 x1 x2 x3 x4, A0 x0 x1 x2 x3 x4 → A1 x0 x1 x2 x3 x4 → A2 x0 x1 x2 x3 x4 → A3 x0 x1 x2 x3 x4 → A4 x0 x1 x2 x3 x4 → A5 x0 x1 x2 x3 x4 → A6 x0 x1 x2 x3 x4 → A7 x0 x1 x2 x3 x4 → A8 x0 x1 x2 x3 x4 → G) : G := by
  obtain ⟨x0, x1, x2, x3, x4, h0, h1, h2, h3, h4, h5, h6, h7, h8⟩ := h; exact g x0 x1 x2 x3 x4 h0 h1 h2 h3 h4 h5 h6 h7 h8
theorem ex6_10 {α0 α1 α2 α3 α4 α5 : Type} {A0 A1 A2 A3 A4 A5 A6 A7 A8 A9 : α0 → α1 → α2 → α3 → α4 → α5 → Prop} {G : Prop} (h : ∃ x0 x1 x2 x3 x4 x5, A0 x0 x1 x2 x3 x4 x5 ∧ A1 x0 x1 x2 x3 x4 x5 ∧ A2 x0 x1 x2 x3 x4 x5 ∧ A3 x0 x1 x2 x3 x4 x5 ∧ A4 x0 x1 x2 x3 x4 x5 ∧ A5 x0 x1 x2 x3 x4 x5 ∧ A6 x0 x1 x2 x3 x4 x5 ∧ A7 x0 x1 x2 x3 x4 x5 ∧ A8 x0 x1 x2 x3 x4 x5 ∧ A9 x0 x1 x2 x3 x4 x5) (g : ∀ x0 x1 x2 x3 x4 x5, A0 x0 x1 x2 x3 x4 x5 → A1 x0 x1 x2 x3 x4 x5 → A2 x0 x1 x2 x3 x4 x5 → A3 x0 x1 x2 x3 x4 x5 → A4 x0 x1 x2 x3 x4 x5 → A5 x0 x1 x2 x3 x4 x5 → A6 x0 x1 x2 x3 x4 x5 → A7 x0 x1 x2 x3 x4 x5 → A8 x0 x1 x2 x3 x4 x5 → A9 x0 x1 x2 x3 x4 x5 → G) : G := by
  obtain ⟨x0, x1, x2, x3, x4, x5, h0, h1, h2, h3, h4, h5, h6, h7, h8, h9⟩ := h; exact g x0 x1 x2 x3 x4 x5 h0 h1 h2 h3 h4 h5 h6 h7 h8 h9
theorem ex6_9 {α0 α1 α2 α3 α4 α5 : Type} {A0 A1 A2 A3 A4 A5 A6 A7 A8 : α0 → α1 → α2 → α3 → α4 → α5 → Prop} {G : Prop} (h : ∃ x0 x1 x2 x3 x4 x5, A0 x0 x1 x2 x3 x4 x5 ∧ A1 x0 x1 x2 x3 x4 x5 ∧ A2 x0 x1 x2 x3 x4 x5 ∧ A3 x0 x1 x2 x3 x4 x5 ∧ A4 x0 x1 x2 x3 x4 x5 ∧ A5 x0 x1 x2 x3 x4 x5 ∧ A6 x0 x1 x2 x3 x4 x5 ∧ A7 x0 x1 x2 x3 x4 x5 ∧ A8 x0 x1 x2 x3 x4 x5) (g : ∀ x0 x1 x2 x3 x4 x5, A0 x0 x1 x2 x3 x4 x5 → A1 x0 x1 x2 x3 x4 x5 → A2 x0 x1 x2 x3 x4 x5 → A3 x0 x1 x2 x3 x4 x5 → A4 x0 x1 x2 x3 x4 x5 → A5 x0 x1 x2 x3 x4 x5 → A6 x0 x1 x2 x3 x4 x5 → A7 x0 x1 x2 x3 x4 x5 → A8 x0 x1 x2 x3 x4 x5 → G) : G := by
  obtain ⟨x0, x1, x2, x3, x4, x5, h0, h1, h2, h3, h4, h5, h6, h7, h8⟩ := h; exact g x0 x1 x2 x3 x4 x5 h0 h1 h2 h3 h4 h5 h6 h7 h8
theorem ex7_5 {α0 α1 α2 α3 α4 α5 α6 : Type} {A0 A1 A2 A3 A4 : α0 → α1 → α2 → α3 → α4 → α5 → α6 → Prop} {G : Prop} (h : ∃ x0 x1 x2 x3 x4 x5 x6, A0 x0 x1 x2 x3 x4 x5 x6 ∧ A1 x0 x1 x2 x3 x4 x5 x6 ∧ A2 x0 x1 x2 x3 x4 x5 x6 ∧ A3 x0 x1 x2 x3 x4 x5 x6 ∧ A4 x0 x1 x2 x3 x4 x5 x6) (g : ∀ x0 x1 x2 x3 x4 x5 x6, A0 x0 x1 x2 x3 x4 x5 x6 → A1 x0 x1 x2 x3 x4 x5 x6 → A2 x0 x1 x2 x3 x4 x5 x6 → A3 x0 x1 x2 x3 x4 x5 x6 → A4 x0 x1 x2 x3 x4 x5 x6 → G) : G := by
  obtain ⟨x0, x1, x2, x3, x4, x5, x6, h0, h1, h2, h3, h4⟩ := h; exact g x0 x1 x2 x3 x4 x5 x6 h0 h1 h2 h3 h4
theorem pr11 {T0 T1 T2 T3 T4 T5 T6 T7 T8 T9 T10 : Type} {P : T0 × T1 × T2 × T3 × T4 × T5 × T6 × T7 × T8 × T9 × T10 → Prop} (h : ∀ x0 x1 x2 x3 x4 x5 x6 x7 x8 x9 x10, P (x0, x1, x2, x3, x4, x5, x6, x7, x8, x9, x10)) : ∀ x, P x := fun x => h x.1 x.2.1 x.2.2.1 x.2.2.2.1 x.2.2.2.2.1 x.2.2.2.2.2.1 x.2.2.2.2.2.2.1 x.2.2.2.2.2.2.2.1 x.2.2.2.2.2.2.2.2.1 x.2.2.2.2.2.2.2.2.2.1 x.2.2.2.2.2.2.2.2.2.2
theorem pr13 {T0 T1 T2 T3 T4 T5 T6 T7 T8 T9 T10 T11 T12 : Type} {P : T0 × T1 × T2 × T3 × T4 × T5 × T6 × T7 × T8 × T9 × T10 × T11 × T12 → Prop} (h : ∀ x0 x1 x2 x3 x4 x5 x6 x7 x8 x9 x10 x11 x12, P (x0, x1, x2, x3, x4, x5, x6, x7, x8, x9, x10, x11, x12)) : ∀ x, P x := fun x => h x.1 x.2.1 x.2.2.1 x.2.2.2.1 x.2.2.2.2.1 x.2.2.2.2.2.1 x.2.2.2.2.2.2.1 x.2.2.2.2.2.2.2.1 x.2.2.2.2.2.2.2.2.1 x.2.2.2.2.2.2.2.2.2.1 x.2.2.2.2.2.2.2.2.2.2.1 x.2.2.2.2.2.2.2.2.2.2.2.1 x.2.2.2.2.2.2.2.2.2.2.2.2
theorem pr3 {T0 T1 T2 : Type} {P : T0 × T1 × T2 → Prop} (h : ∀ x0 x1 x2, P (x0, x1, x2)) : ∀ x, P x := fun x => h x.1 x.2.1 x.2.2
end Mine
end
section
open PySem PySem.W PyProof.Rows PySem.Calls
set_option maxRecDepth 100000
set_option linter.unusedVariables false
namespace Mine
/-- no frame of the stack is a decoder that holds a buffer -/
def notDec : Code → Bool
  | .builtin id _ => !Builtin.Bytes.decodersThatHold.contains id
  | _ => true
def NoDecB (Γ : Ctx) : Prop := ∀ x ∈ Γ.below, notDec x.1 = true
def NoDec (Γ : Ctx) : Prop := notDec Γ.code = true ∧ NoDecB Γ
/-- as wpAny, in the contexts without such a frame, and without a raise -/
def wpN {α : Type} (b : Bool) (M : Model) (A : Around) (t : Sem α) (Q : α → Shared → Prop) (s : Shared) : Prop :=
  ∀ Γ p, Γ.In A → (b = true → NoDec Γ) → Sem.wp M Γ t (fun a _ s' => Q a s') (fun _ _ _ => False) p s
def codeN (b : Bool) (M : Model) (A : Around) (c : Code) (R : Flow → Shared → Prop) (s : Shared) : Prop :=
  ∀ Γ p, Γ.code = c → Γ.Below A → (b = true → NoDecB Γ) → wpCode M Γ (fun r s' => match r with | .ok f => R f s' | .error _ => False) p s
section
variable {α β : Type} {b : Bool} {M : Model} {A : Around} {s : Shared}
theorem wpN_of_any {t : Sem α} {Q : α → Shared → Prop} (h : wpAny M A t Q (fun _ _ => False) s) : wpN b M A t Q s := fun Γ p hΓ _ => h Γ p hΓ
theorem any_of_wpN {t : Sem α} {Q : α → Shared → Prop} {E : Value → Shared → Prop} (h : wpN false M A t Q s) : wpAny M A t Q E s :=
  fun Γ p hΓ => Sem.wp_mono M Γ t (fun a _ s h => h) (fun e _ s x => x.elim) p s (h Γ p hΓ (fun e => by cases e))
theorem any_of_codeN {c : Code} {R : Result → Shared → Prop} (h : codeN false M A c (fun f => R (.ok f)) s) : codeAny M A c R s :=
  fun Γ p hc hΓ => wpCode_mono (fun r s' => by cases r with | ok f => exact id | error e => exact False.elim) (h Γ p hc hΓ (fun e => by cases e))
theorem wpN_pure {a : α} {Q : α → Shared → Prop} (h : Q a s) : wpN b M A (pure a) Q s := fun _ _ _ _ => h
theorem wpN_mono {t : Sem α} {Q Q' : α → Shared → Prop} (h : wpN b M A t Q s) (hQ : ∀ a s, Q a s → Q' a s) : wpN b M A t Q' s :=
  fun Γ p hΓ hn => Sem.wp_mono M Γ t (fun a _ s => hQ a s) (fun e _ s x => x) p s (h Γ p hΓ hn)
theorem wpN_bind {m : Sem α} {f : α → Sem β} {Q : β → Shared → Prop} (h : wpN b M A m (fun a s' => wpN b M A (f a) Q s') s) : wpN b M A (m >>= f) Q s := fun Γ p hΓ hn => by
  rw [Sem.wp_bind']
  exact Sem.wp_mono M Γ m (fun a p' s' h' => h' Γ p' hΓ hn) (fun _ _ _ h' => h') p s (h Γ p hΓ hn)
theorem wpN_bindA {m : Sem α} {f : α → Sem β} {Q : β → Shared → Prop} (h : wpAny M A m (fun a s' => wpN b M A (f a) Q s') (fun _ _ => False) s) : wpN b M A (m >>= f) Q s := wpN_bind (wpN_of_any h)
theorem wpN_onRaise {m : Sem α} {k : Value → Sem Unit} {Q : α → Shared → Prop} (h : wpN b M A m Q s) : wpN b M A (m.onRaise k) Q s := fun Γ p hΓ hn => by
  rw [Sem.wp_onRaise]
  exact Sem.wp_mono M Γ m (fun _ _ _ h' => h') (fun _ _ _ h' => h'.elim) p s (h Γ p hΓ hn)
theorem wpN_holding {vs : List Value} {m : Sem α} {Q : α → Shared → Prop} (h : wpN b M A m Q s) : wpN b M A (holding vs m) Q s := fun Γ p hΓ hn => by rw [Sem.wp_holding]; exact h Γ p hΓ hn
theorem wpN_keep {vs : List Value} {m : Sem α} {Q : α → Shared → Prop} (h : wpN b M A m Q s) : wpN b M A (m.keep vs) Q s := fun Γ p hΓ hn => by rw [Sem.wp_keep]; exact h Γ p hΓ hn
theorem wpN_standAt {pos : Pos} {Q : Unit → Shared → Prop} (h : Q () s) : wpN b M A (standAt pos) Q s := fun _ _ _ _ => h
theorem codeN_mono {c : Code} {R R' : Flow → Shared → Prop} (h : codeN b M A c R s) (hR : ∀ r s, R r s → R' r s) : codeN b M A c R' s :=
  fun Γ p hc hΓ hn => wpCode_mono (fun r s' => by cases r with | ok f => exact hR f s' | error e => exact id) (h Γ p hc hΓ hn)
theorem codeN_of_any {c : Code} {R : Flow → Shared → Prop} (h : codeAny M A c (fun r s' => match r with | .ok f => R f s' | .error _ => False) s) : codeN b M A c R s := fun Γ p hc hΓ _ => h Γ p hc hΓ
theorem wpN_run {c : Code} {Q : Flow → Shared → Prop} (hc : codeN b M A c Q s) : wpN b M A (run c) Q s := fun Γ p hΓ hn => by
  rw [Sem.wp_run]
  refine wpCode_mono (fun r s' h => ?_) (hc _ p rfl (hΓ.enter c none p (by intro x; cases x)) fun hb x hx => ?_)
  · cases r with
    | ok f => exact h
    | error e => exact h.elim
  · rcases List.mem_cons.mp hx with rfl | hx
    · exact (hn hb).1
    · exact (hn hb).2 x hx
theorem wpN_runValue {c : Code} {Q : Value → Shared → Prop} (hc : codeN b M A c (fun f s' => match f with | .ret v => Q v s' | _ => False) s) : wpN b M A (runValue c) Q s := by
  unfold runValue
  refine wpN_bind (wpN_mono (wpN_run hc) fun f s' h => ?_)
  cases f with
  | ret v => exact wpN_pure h
  | next => exact h.elim
  | brk => exact h.elim
  | cont => exact h.elim
theorem wpN_call {f : Value} {pos : List Value} {kw : List (Str × Value)} {Q : Value → Shared → Prop}
    (hc : codeN b M A (.call f ⟨pos, kw⟩) (fun f s' => match f with | .ret v => Q v s' | _ => False) s) : wpN b M A (call f pos kw) Q s := wpN_runValue hc
theorem codeN_of_tree {c : Code} {R : Flow → Shared → Prop} (hd : notDec c = true)
    (h : wpN b M (A.under c) (M.den c) (fun fin s' => match fin with | .done f => R f s' | .again c' => c'.quiet = true ∧ codeN b M A c' R s') s) : codeN b M A c R s := fun Γ p hc hΓ hn => by
  rw [wpCode_iff_wp, hc]
  refine Sem.wp_mono M Γ _ (fun fin p' s' h' => ?_) (fun _ _ _ h' => h'.elim) p s (h Γ p (hc ▸ hΓ.in) fun hb => ⟨by rw [hc]; exact hd, hn hb⟩)
  cases fin with
  | done f => exact h'
  | again c' => exact ⟨h'.1, h'.2 (Γ.goto c') p' rfl (hΓ.goto c') hn⟩
theorem codeN_loop {c : Code} {R : Flow → Shared → Prop} (hd : notDec c = true) (hq : c.quiet = true) (I : Nat → Shared → Prop)
    (turn : ∀ n s, I n s → wpN b M (A.under c) (M.den c)
      (fun fin s' => match fin with | .done f => R f s' | .again c' => c' = c ∧ ∃ m, m < n ∧ I m s') s)
    (n : Nat) (h : I n s) : codeN b M A c R s := by
  induction n using Nat.strongRecOn generalizing s with
  | ind n ih =>
    refine codeN_of_tree hd (wpN_mono (turn n s h) fun fin s' hf => ?_)
    cases fin with
    | done f => exact hf
    | again c' => obtain ⟨rfl, m, hm, hI⟩ := hf; exact ⟨hq, ih m hm hI⟩
theorem wpN_runOwn {c : Code} {env : Env} {Q : Flow → Shared → Prop} (h : codeN b M A c Q s) : wpN b M A (runOwn c env) Q s := wpN_onRaise (wpN_run h)
end
/-- the head, for a walk that asks the contexts without a decoder alone -/
abbrev WalkD (q : Program) (loose : List Str) (XP : (Str → Option Value) → Heap → Prop) (YP : World → Heap → Prop) (r : RowW) (d : DefRec) (kwd : List (Str × Expr)) : Prop :=
  ∀ (w : World) (s₀ s₁ : Shared) (mg mb : Str → Option Value), Ground q loose r.records XP w s₀ mg mb s₁.heap → YP w s₁.heap → ∀ (a : Addr) (o : Obj) (pm cd doc dV kV : Value), s₁.heap.get? a = some o →
    o.data = .func { docDef d.name d.params d.body d.scope pm cd doc with defaults := dV, kwdefaults := kV } → s₁.heap.CodeRec cd d.name → Dflts mg s₁.heap d.params kwd dV kV → mg d.name = some (.ref a) → s₁.gens = #[] →
    ∀ (args : List WData) (vals : List Value) (as : List Addr), r.claim.pre args = true → WData.layableAll args = true → ReadsAllW r.records (classAt s₀.heap) s₁.heap vals args as → WellAll w.params s₁.heap vals args → (∀ a ∈ as, (a == sysModules) = false) →
      wpN true (model r.prog w) callerA (PySem.call (.ref a) vals) (fun v s' => GoodWG r.claim (classAt s₀.heap) (ExcName.means s₀.heap) args s₁ (.ok (.ret v)) s') s₁
theorem nodec_caller : NoDec (⟨.builtin "claim.caller" {}, none, none, [], none⟩ : Ctx) := ⟨by decide +kernel, fun _ hx => nomatch hx⟩
theorem thread_endsD {prog : Program} {w : World} {t : Sem Fin} {s : Shared} {R : Result → Shared → Prop} (hreg : s.asleep)
    (h : wpN true (model prog w) callerA t (fun fin s' => ∃ f, fin = .done f ∧ (R (.ok f) s' ∧ leftWithCleanup s'.gens = false)) s) :
    ∃ n r s' s'', runN (denote table) prog w n s ⟨t, .builtin "claim.caller" {}, default, []⟩ = .halted (outcomeOf r) s' ∧
      schedN (denote table) prog w n (.single s ⟨t, .builtin "claim.caller" {}, default, []⟩) = .halted (outcomeOf r) s' ∧ s'.forget = s''.forget ∧ R r s'' := by
  obtain ⟨n, r, s₁, s₂, hs, hn, hfo, hR⟩ := wp_halts_full (M := model prog w) (R := R) (p := default) hreg
    (Sem.wp_mono (model prog w) (⟨.builtin "claim.caller" {}, none, none, [], none⟩ : Ctx) t (fun fin p' s' h' => by obtain ⟨f, rfl, hf⟩ := h'; exact hf) (fun _ _ _ h' => h'.elim) default s (h _ default caller_in fun _ => nodec_caller))
  exact ⟨n, r, s₂, s₁, hn, hs, hfo, hR⟩
theorem exB {α β : Type} {A B : α → Prop} {C D E F K L : α → β → Prop} {G : Prop} (h : ∃ a, A a ∧ B a ∧ ∃ b, C a b ∧ D a b ∧ E a b ∧ F a b ∧ K a b ∧ L a b) (g : ∀ a, A a → B a → ∀ b, C a b → D a b → E a b → F a b → K a b → L a b → G) : G := by
  obtain ⟨a, h1, h2, b, h3, h4, h5, h6, h7, h8⟩ := h; exact g a h1 h2 b h3 h4 h5 h6 h7 h8
theorem callFromD {c : ClaimW} {tree : List Value → Sem Fin} {w : World} {s : Shared} {free : Addr → Prop} {gens : Prop} {kept : Heap → Prop} (hz : s.asleep) (hgens : s.gens = #[])
    (hspec : ∀ args, c.pre args = true → WData.layableAll args = true →
      ∀ ord : List DictEntry → List DictEntry, (∀ l, (ord l).Perm l) →
      ∃ vs s₁, layAllW c.records (classAt s.heap) w.params ord args s = some (vs, s₁) ∧
        wpN true (model c.prog w) callerA (tree vs) (fun fin s' => ∃ f, fin = .done f ∧ (c.Ends s args vs s₁ (.ok f) s' ∧ s'.os = s.os ∧ AllBare s'.gens ∧ kept s'.heap)) s₁) :
    c.CallFrom (fun vs => ⟨tree vs, .builtin "claim.caller" {}, default, []⟩) w free gens kept s := by
  intro args hpre hlay ord hord
  refine ex2_2 (hspec args hpre hlay ord hord) ?_
  intro vs s₁ hlaid hcode
  have hal := layAllW_rest _ _ _ hlaid
  refine ex4_4 (thread_endsD (prog := c.prog) (w := w) (t := tree vs) (s := s₁)
    (R := fun r s' => c.Ends s args vs s₁ r s' ∧ s'.os = s.os ∧ kept s'.heap) (Shared.asleep_of_life hal.2.2.2 hz)
    (wpN_mono hcode (by
      rintro fin s' ⟨f, e, h1, h2, h3, h4⟩
      exact ⟨f, e, ⟨h1, h2, h4⟩, leftWithCleanup_false_of_bare h3⟩))) ?_
  intro k r s' s'' hrun hsched hfo hx
  refine ex0_3 hx ?_
  clear hx
  intro hcase hos hkp
  refine ex0_5 (Shared.forget_eq hfo) ?_
  intro eh _ _ eo _
  have hcase := hcase.congr eh
  have hkp : kept s'.heap := by rw [eh]; exact hkp
  rw [← eo] at hos
  have hlife : s'.heap.life = s.heap.life := (runN_life _ _ _ hrun).trans hal.2.2.2
  refine ⟨vs, s₁, hlaid, k, _, s', hsched, ?_, (fun _ i x hx => by rw [hgens] at hx; simp at hx), hkp, by rw [hlife], Shared.rest_eq hos⟩
  refine hcase.elim (fun hx => .inl (ex1_6 hx ?_)) fun hx => .inr (ex3_6 hx ?_)
  · exact fun v e d1 d2 d3 d4 d5 => ⟨v, congrArg outcomeOf e, d1, d2, d3, fun b o y _ => d4 b o y, d5⟩
  · exact fun v ob cls e d1 d2 d3 d4 d5 => ⟨v, ob, cls, congrArg outcomeOf e, d1, d2, d3, d4, fun b o y _ => d5 b o y⟩
theorem PySem.W.holds_open {r : OpenRow} {q : Program} {loose : List Str} {Xt : Shared → Bool} {XP : (Str → Option Value) → Heap → Prop} {α : Type} {Yf : Shared → α} {Ya : World → α} {YP : World → Heap → Prop} {d : DefRec} {kwd : List (Str × Expr)} {N : Nat}
    (left : LeftO r.prog q loose Xt Yf Ya N) (hY : ∀ w s, Yf s = Ya w → YP w s.heap) (hYk : ∀ w h h', YP w h → (∀ b o, h.get? b = some o → h'.get? b = some o) → YP w h')
    (hX : ∀ s, Xt s = true → XP (s.heap.nsMap mainGlobals) s.heap) (hXk : ∀ mg h h', XP mg h → (∀ b o, h.get? b = some o → h'.get? b = some o) → XP mg h')
    (hdef : defOf q r.name = some (d, kwd)) (hp : r.prog.theDef r.name = some (d.params, d.body, d.scope)) (hk : kwWritten? d.params.kwonlyargs d.params.kw_defaults = some kwd) (hRf : ∀ s, Xt s = true → RecFacts r.records s.heap) (hwr : (!r.writes || r.records.isEmpty) = true)
    (k1 : r.wellSaid = true) (ok : (chainsOk q && opensWell r.prog && (frees r.toRowW && r.within.isEmpty)) = true) (hb : r.prog.bare) (hw : r.toRowW.promised)
    (call : WalkD q loose XP YP r.toRowW d kwd) : r.Holds := by
  refine ⟨k1, hw, ?_⟩
  obtain ⟨ok, k5⟩ := Bool.and_eq_true_iff.mp ok
  obtain ⟨hch, o1⟩ := Bool.and_eq_true_iff.mp ok
  obtain ⟨k5, k6⟩ := Bool.and_eq_true_iff.mp k5
  refine ex0_5 (frees_parts k5) ?_
  intro hsame hu ha hap hm
  refine ⟨⟨hb, o1, by show r.toRowW.makers.map _ = []; rw [hm]; rfl⟩, hw.witness, fun w => ⟨(left.behind hX hch w).1, fun s' hs' => ?_⟩⟩
  refine exB ((left.behind (XP := fun mg h => XP mg h ∧ RecFacts r.records h) (fun s hs => ⟨hX s hs, hRf s hs⟩) hch w).2 s' hs') ?_
  intro s₀ hf hg0 s hT hz hgens hg G00 y
  have G0 : Ground q loose [] XP w s (s.heap.nsMap mainGlobals) (s.heap.nsMap builtinsNs) s.heap := ⟨G00.T, G00.B, G00.D, G00.TE, G00.TD, G00.W, G00.X.1, G00.cls, G00.has, G00.apart, G00.once, G00.K⟩
  have RF := G00.X.2
  have hT' := hT
  refine ⟨s₀, hf, hg0, s, hT, ?_, RF.1, RF.2.1, ?_⟩
  · intro n hn
    obtain rfl : n = r.name := by split at hn <;> simp_all
    exact pinned_of_view hg G0 hdef hp hk
  have hgens : s.gens = #[] := Array.eq_empty_of_size_eq_zero (beq_iff_eq.mp hgens)
  have G : Ground q loose r.records XP w s _ _ s.heap := RF.ground G0
  refine callFromD (c := r.toRowW.claim) (tree := fun vs => do match ← nsGet mainNs r.name with
      | some f => do ret (← PySem.call f vs)
      | none => unsupported "claim.caller:no-such-global") hz hgens fun args hpre hlay ord hord => ?_
  obtain ⟨⟨vs, s₁⟩, hlaid⟩ := Option.isSome_iff_exists.mp (layAllW_isSome (P := w.params) (ord := ord) G.has args r.args s (pre_splitW hpre).1)
  have keeps := layAllW_keeps _ _ _ hlaid
  have hal := layAllW_rest _ _ _ hlaid
  refine ex1_3 (reads_layAllW hord _ _ _ hlaid hlay s₁.heap (fun _ _ e => e)) ?_
  intro as hrd hin hold
  have L : Laid r.records w s s₁ args vs as := ⟨⟨ord, hord, hlaid⟩, hrd, hin, hold, keeps, hal.1.trans hgens, hal.2.2.1⟩
  have G₁ := G.keeps hXk keeps
  refine ex7_5 (G₁.fn hdef) ?_
  intro a o pm cd doc dV kV h1 h2 h3 h4 h5
  have h := call w s s₁ _ _ G₁ (hYk _ _ _ (hY w s y) keeps) a o pm cd doc dV kV h2 h3 h4 h5 (defOf_name hdef ▸ h1) L.gens args vs as hpre hlay L.reads L.well (L.low G.low)
  have hi := ident_freeW hu ha hap
  have hwi : r.toRowW.claim.within = [] := List.isEmpty_iff.mp k6
  refine ⟨vs, s₁, hlaid, wpN_bindA (wpAny_nsGet G₁.T.g ?_)⟩
  rw [h1]
  refine wpN_bind (wpN_mono h fun v s' g => wpN_pure ⟨_, rfl, ?_⟩)
  have z := g.laid (c := r.toRowW.claim) hsame hwi hi L
  exact ⟨z.1, z.2.1, z.2.2, fun q => ⟨namesKept_of hT' hg _ keeps g.2.1.old, noTable hwr q⟩⟩
/-- the goal as a variable, while things are taken apart -/
theorem hide {G : Prop} (h : ∀ P : Prop, (G → P) → P) : G := h G id
theorem prod4 {A B C D : Type} {P : A × B × C × D → Prop} (h : ∀ a b c d, P (a, b, c, d)) : ∀ x, P x := fun x => h x.1 x.2.1 x.2.2.1 x.2.2.2
theorem prod6 {A B C D E F : Type} {P : A × B × C × D × E × F → Prop} (h : ∀ a b c d e f, P (a, b, c, d, e, f)) : ∀ x, P x := fun x => h x.1 x.2.1 x.2.2.1 x.2.2.2.1 x.2.2.2.2.1 x.2.2.2.2.2
theorem prod7 {A B C D E F G : Type} {P : A × B × C × D × E × F × G → Prop} (h : ∀ a b c d e f g, P (a, b, c, d, e, f, g)) : ∀ x, P x := fun x => h x.1 x.2.1 x.2.2.1 x.2.2.2.1 x.2.2.2.2.1 x.2.2.2.2.2.1 x.2.2.2.2.2.2
theorem prod8 {A B C D E F G H : Type} {P : A × B × C × D × E × F × G × H → Prop} (h : ∀ a b c d e f g i, P (a, b, c, d, e, f, g, i)) : ∀ x, P x := fun x => h x.1 x.2.1 x.2.2.1 x.2.2.2.1 x.2.2.2.2.1 x.2.2.2.2.2.1 x.2.2.2.2.2.2.1 x.2.2.2.2.2.2.2
end Mine
end
section
open PySem PySem.W PyProof.Rows PySem.Calls
set_option maxRecDepth 100000
set_option linter.unusedVariables false
namespace Mine
namespace F
theorem ba_mro : mroOf (.type "bytearray") = pure [.type "bytearray", .type "object"] := by rw [mroOf_type]; kernel_rfl
theorem ba_lookup_new : typeLookup (.type "bytearray") "__new__" = pure (some (.builtin "bytearray.__new__")) := by rw [typeLookup_type, builtinLookup_eq_fast]; kernel_rfl
theorem ba_slot_init : Slot "bytearray" "__init__" "bytearray.__init__" :=
  .of (owner := "bytearray") (n := "__init__") (by rw [typeLookup_type, builtinLookup_eq_fast]; kernel_rfl) (by decide +kernel) (by decide +kernel) (by decide +kernel)
    (by first | exact .inl (by decide +kernel) | exact .inr (by decide +kernel)) (by rw [isSubtype_type]; kernel_rfl)
theorem ba_slot_append : Slot "bytearray" "append" "bytearray.append" :=
  .of (owner := "bytearray") (n := "append") (by rw [typeLookup_type, builtinLookup_eq_fast]; kernel_rfl) (by decide +kernel) (by decide +kernel) (by decide +kernel)
    (by first | exact .inl (by decide +kernel) | exact .inr (by decide +kernel)) (by rw [isSubtype_type]; kernel_rfl)
theorem ba_slot_extend : Slot "bytearray" "extend" "bytearray.extend" :=
  .of (owner := "bytearray") (n := "extend") (by rw [typeLookup_type, builtinLookup_eq_fast]; kernel_rfl) (by decide +kernel) (by decide +kernel) (by decide +kernel)
    (by first | exact .inl (by decide +kernel) | exact .inr (by decide +kernel)) (by rw [isSubtype_type]; kernel_rfl)
theorem ba_called : TypeCalled "bytearray" "bytearray.__new__" "bytearray.__init__" :=
  ⟨by decide +kernel, by decide +kernel, ⟨_, _, ba_mro⟩, madeBy_type ba_mro ba_lookup_new (by decide +kernel), by decide +kernel, by rw [isSubtype_type]; kernel_rfl, ba_slot_init⟩
theorem ba_typeCall : checkTypeCall "bytearray" ⟨[], []⟩ = pure () := by kernel_rfl
theorem ba_newCall : checkBuiltinCall "bytearray.__new__" ⟨[.type "bytearray"], []⟩ = pure () := by kernel_rfl
theorem ba_entry_init : entryFor table "bytearray.__init__" = some Builtin.«bytearray.__init__» := by first | exact entryFor_of_fast (by kernel_rfl) | exact entryFor_of_tree (by kernel_rfl)
theorem ba_entry_append : entryFor table "bytearray.append" = some Builtin.«bytearray.append» := by first | exact entryFor_of_fast (by kernel_rfl) | exact entryFor_of_tree (by kernel_rfl)
theorem ba_entry_extend : entryFor table "bytearray.extend" = some Builtin.«bytearray.extend» := by first | exact entryFor_of_fast (by kernel_rfl) | exact entryFor_of_tree (by kernel_rfl)
theorem ba_entry_new : entryFor table "bytearray.__new__" = some Builtin.«list.__new__» := 
  entryFor_alias (id' := "list.__new__") (by kernel_rfl) (by first | rfl | decide +kernel | (unfold String.splitOn; simp +decide [String.splitOnAux])) (by decide +kernel) (by kernel_rfl)
theorem ba_ty_append : typeOf (.builtin "bytearray.append") = pure (.type "method_descriptor") := by kernel_rfl
theorem ba_ty_extend : typeOf (.builtin "bytearray.extend") = pure (.type "method_descriptor") := by kernel_rfl
end F
end Mine
end
section
open PySem PySem.W PyProof.Rows PySem.Calls
set_option maxRecDepth 100000
set_option linter.unusedVariables false
namespace Mine
theorem notExp {c : Code} {p : Pos} {self : Value} (hg : c.isGuard = false) (hd : notDec c = true) :
    (match (c, p) with
    | (.builtin "bytearray.__contains__" ⟨v :: _, _⟩, _) | (.builtin "bytearray.__mod__" ⟨v :: _, _⟩, _)
    | (.builtin "bytearray.__rmod__" ⟨_ :: v :: _, _⟩, _) | (.builtin "_struct.pack_into.held" ⟨v :: _, _⟩, _) => Builtin.Bytes.sameRef v self
    | (.builtin "bytearray.find.held" ⟨_ :: _ :: held, _⟩, _) => held.any (Builtin.Bytes.sameRef self)
    | (.builtin id ⟨v :: _, _⟩, _) => Builtin.Bytes.sameRef v self && Builtin.Bytes.decodersThatHold.contains id
    | _ => false) = false := by
  cases c with
  | builtin id args =>
    obtain ⟨as, kw⟩ := args
    have g : guardIds.contains id = false := hg
    have e : ∀ x ∈ guardIds, ¬ id = x := fun x hx q => by subst q; rw [List.contains_iff_mem.mpr hx] at g; cases g
    have d : Builtin.Bytes.decodersThatHold.contains id = false := by
      have : (!Builtin.Bytes.decodersThatHold.contains id) = true := hd
      cases q : Builtin.Bytes.decodersThatHold.contains id with
      | false => rfl
      | true => rw [q] at this; cases this
    unfold notExp.match_1
    show dite (id = "bytearray.__contains__") _ _ = false
    rw [dif_neg (e "bytearray.__contains__" (by decide)), dif_neg (e "bytearray.__mod__" (by decide)), dif_neg (e "bytearray.__rmod__" (by decide)), dif_neg (e "_struct.pack_into.held" (by decide)), dif_neg (e "bytearray.find.held" (by decide))]
    cases as with
    | nil => rfl
    | cons v l => show (_ && _) = false; rw [d, Bool.and_false]
  | _ => rfl
theorem noGuard {Γ : Ctx} {A : Around} (hΓ : Γ.In A) (hg : A.guards = some []) (p : Pos) : ∀ x ∈ (Γ.code, p) :: Γ.below, x.1.isGuard = false := by
  have h := hΓ.2.2.2.1 [] hg
  rw [← guardsOf_cons Γ.code p] at h
  intro x hx
  cases hq : x.1.isGuard with
  | false => rfl
  | true =>
    have : x.1 ∈ guardsOf ((Γ.code, p) :: Γ.below) := by
      unfold guardsOf
      exact List.mem_filter.mpr ⟨List.mem_map.mpr ⟨x, hx, rfl⟩, hq⟩
    rw [h] at this
    cases this
section
variable {prog : Program} {w : World} {M : Model} {A : Around} {s : Shared}
theorem wpN_exported {self : Value} {Q : Bool → Shared → Prop} (hg : A.guards = some []) (h : Q false s) : wpN true M A (Builtin.Bytes.exported self) Q s := fun Γ p hΓ hn => by
  unfold Builtin.Bytes.exported
  show Q (((Γ.code, p) :: Γ.below).any _) s
  rw [List.any_eq_false.mpr ?_]
  · exact h
  · intro x hx
    rw [Bool.not_eq_true]
    obtain ⟨c, q⟩ := x
    refine notExp (p := q) (noGuard hΓ hg p (c, q) hx) ?_
    rcases List.mem_cons.mp hx with e | hx
    · cases e; exact (hn rfl).1
    · exact (hn rfl).2 _ hx
theorem wpN_bindNA {α β : Type} {m : Sem α} {f : α → Sem β} {Q : β → Shared → Prop} {a : α} (e : m = pure a) (h : wpN true M A (f a) Q s) : wpN true M A (m >>= f) Q s := by subst e; exact h
theorem wpN_noExport {a : Addr} {b : Array UInt8} {o : Obj} {Q : Bool → Shared → Prop} (hg : A.guards = some []) (ho : s.heap.get? a = some o) (hd : o.data = .bytearray b 0) (h : Q false s) :
    wpN true M A (Builtin.Bytes.exported (.ref a) <||> (do return (← Builtin.Bytes.exportsOf (.ref a)) > 0)) Q s := by
  unfold orM
  refine wpN_bind (wpN_exported hg ?_)
  refine wpN_of_any ?_
  show wpAny M A ((load a >>= fun o => match o.data with | .bytearray _ n => pure n | _ => pure 0) >>= fun n => pure (decide (n > 0))) Q _ s
  refine wpAny_bind (wpAny_bind (wpAny_load ho ?_))
  rw [hd]
  exact wpAny_pure (wpAny_pure h)
/-- the object that a bytearray is -/
abbrev baObj (b : Array UInt8) : Obj := { cls := .type "bytearray", data := .bytearray b }
theorem wpAny_write {E : Value → Shared → Prop} {a : Addr} {b : Array UInt8} {f : Array UInt8 → Array UInt8} {Q : Unit → Shared → Prop} (ho : s.heap.get? a = some (baObj b)) (hz : (f b).size ≤ sizeLine)
    (h : Q () { s with heap := s.heap.update a (Obj.mapBytearray f) }) : wpAny M A (Builtin.Bytes.write (.ref a) f) Q E s := by
  show wpAny M A (updateBytearray a f) Q E s
  unfold updateBytearray
  refine wpAny_bind (wpAny_load ho ?_)
  show wpAny _ _ (update a (Obj.mapBytearray f) >>= fun _ => lookBehind a) _ _ _
  refine wpAny_bind (wpAny_update ho ?_)
  refine wpAny_lookBehind (o := baObj (f b)) (Heap.get?_update_self (Obj.mapBytearray f) ho rfl) ?_ h
  show (if (f b).size > sizeLine then some "bytearray:memory" else none) = none
  rw [if_neg (Nat.not_lt.mpr hz)]
theorem wpN_checkResize {a : Addr} {b : Array UInt8} {Q : Unit → Shared → Prop} (hg : A.guards = some []) (ho : s.heap.get? a = some (baObj b)) (h : Q () s) : wpN true M A (Builtin.Bytes.checkResize (.ref a)) Q s := by
  unfold Builtin.Bytes.checkResize
  refine wpN_bind (wpN_noExport hg ho rfl ?_)
  exact wpN_pure h
theorem codeN_builtin {id : String} {args : Args} {b : Builtin} {R : Flow → Shared → Prop} (hd : Builtin.Bytes.decodersThatHold.contains id = false) (hb : entryFor table id = some b)
    (h : wpN true (model prog w) (A.under (.builtin id args)) (b args) (fun fin s' => match fin with | .done f => R f s' | .again c' => c'.quiet = true ∧ codeN true (model prog w) A c' R s') s) :
    codeN true (model prog w) A (.builtin id args) R s := by
  refine codeN_of_tree (by show (!Builtin.Bytes.decodersThatHold.contains id) = true; rw [hd]; rfl) ?_
  show wpN true _ _ (match entryFor table id with | some b => b args | none => unsupported ((withoutEnding? id "#data").getD id)) _ s
  rw [hb]; exact h
theorem codeN_call_builtin {id : String} {args : Args} {b : Builtin} {R : Flow → Shared → Prop} (hq : plainId id = true) (hd : Builtin.Bytes.decodersThatHold.contains id = false) (hb : entryFor table id = some b)
    (h : wpAny (model prog w) A.in1 (checkBuiltinCall id args) (fun _ s₁ => wpN true (model prog w) A.in1 (b args)
      (fun fin s' => match fin with | .done f => R f s' | .again c' => c'.quiet = true ∧ codeN true (model prog w) A c' R s') s₁) (fun _ _ => False) s) : codeN true (model prog w) A (.call (.builtin id) args) R s := by
  refine codeN_of_tree rfl ?_
  show wpN true _ A.in1 (do checkBuiltinCall id args; again (.builtin id args)) _ s
  refine wpN_bindA (wpAny_mono h (fun _ s₁ h₁ => ?_) fun _ _ x => x)
  refine wpN_pure ⟨plainId_quiet hq args, codeN_builtin hd hb ?_⟩
  rw [Around.under_plainId hq args]; exact h₁
theorem call_ba_append {a : Addr} {b : Array UInt8} {n : Int} {t : Tok} {Q : Value → Shared → Prop} (hg : A.guards = some []) (ho : s.heap.get? a = some (baObj b)) (h0 : 0 ≤ n) (h1 : n < 256) (hz : b.size < sizeLine)
    (h : Q .none { s with heap := s.heap.update a (Obj.mapBytearray (·.push n.toNat.toUInt8)) }) : wpN true (model prog w) A (call (.builtin "bytearray.append") [.ref a, .int n t]) Q s := by
  refine wpN_call (codeN_call_builtin (by decide +kernel) (by decide +kernel) F.ba_entry_append (F.ba_slot_append.check _ _ _ _ _ _ _ _ ⟨_, ho, rfl⟩ ?_ ?_))
  · first | kernel_rfl | rfl | decide +kernel
  · unfold Builtin.«bytearray.append»
    refine wpN_bindNA (a := (.ref a, .int n t)) rfl ?_
    refine wpN_bindA ?_
    unfold Builtin.Bytes.byteValue
    refine wpAny_bind (wpAny_of_eq (rfl : asIndex (.int n t) = pure n) ?_)
    refine bm_if_false (by simp only [Bool.or_eq_false_iff, decide_eq_false_iff_not]; omega) (wpAny_pure ?_)
    refine wpN_bind (wpN_checkResize hg ho ?_)
    refine wpN_bindA (wpAny_write ho (by simp; omega) ?_)
    exact wpN_pure h
end
end Mine
end
section
open PySem PySem.W PyProof.Rows PySem.Calls
set_option maxRecDepth 100000
set_option linter.unusedVariables false
namespace Mine
namespace F
theorem ba_lookup_rel : typeLookup (.type "bytearray") "__release_buffer__" = pure (some (.builtin "bytearray.__release_buffer__")) := by rw [typeLookup_type, builtinLookup_eq_fast]; kernel_rfl
theorem ba_lookup_buf : typeLookup (.type "bytearray") "__buffer__" = pure (some (.builtin "bytearray.__buffer__")) := by rw [typeLookup_type, builtinLookup_eq_fast]; kernel_rfl
theorem ba_lookup_bytes : typeLookup (.type "bytearray") "__bytes__" = pure none := by rw [typeLookup_type, builtinLookup_eq_fast]; kernel_rfl
theorem ba_lookup_index : typeLookup (.type "bytearray") "__index__" = pure none := by rw [typeLookup_type, builtinLookup_eq_fast]; kernel_rfl
theorem by_lookup_buf : typeLookup (.type "bytes") "__buffer__" = pure (some (.builtin "bytes.__buffer__")) := by rw [typeLookup_type, builtinLookup_eq_fast]; kernel_rfl
theorem by_lookup_rel : typeLookup (.type "bytes") "__release_buffer__" = pure none := by rw [typeLookup_type, builtinLookup_eq_fast]; kernel_rfl
theorem ba_sub : isSubtype (.type "bytearray") (.type "bytearray") = pure true := by rw [isSubtype_type]; kernel_rfl
theorem by_sub : isSubtype (.type "bytes") (.type "bytes") = pure true := by rw [isSubtype_type]; kernel_rfl
theorem ba_bind0 : Builtin.Bytes.bindOptional "bytearray.__init__" "bytearray" ["source", "encoding", "errors"] [] [] = pure [none, none, none] := by kernel_rfl
theorem by_slot_upper : Slot "bytes" "upper" "bytes.upper" :=
  .of (owner := "bytes") (n := "upper") (by rw [typeLookup_type, builtinLookup_eq_fast]; kernel_rfl) (by decide +kernel) (by decide +kernel) (by decide +kernel)
    (by first | exact .inl (by decide +kernel) | exact .inr (by decide +kernel)) (by rw [isSubtype_type]; kernel_rfl)
theorem by_entry_upper : entryFor table "bytes.upper" = some Builtin.«bytes.upper» := by first | exact entryFor_of_fast (by kernel_rfl) | exact entryFor_of_tree (by kernel_rfl)
theorem by_ty_upper : typeOf (.builtin "bytes.upper") = pure (.type "method_descriptor") := by kernel_rfl
theorem ba_hasDict : typeHasDict (.type "bytearray") = false := by first | rfl | decide +kernel | kernel_rfl
set_option maxRecDepth 1000000 in
set_option maxHeartbeats 4000000 in
theorem ba_owner : (("bytearray.__new__" : String).splitOn ".__new__").headD "" = "bytearray" := by simp +decide [String.splitOn, String.splitOnAux]
theorem cut_rel : ("bytearray.__release_buffer__" : String).dropRight (("__release_buffer__" : String).length + 1) = "bytearray" := by decide +kernel
theorem cut_buf : ("bytearray.__buffer__" : String).dropRight (("__buffer__" : String).length + 1) = "bytearray" := by decide +kernel
theorem cut_bufB : ("bytes.__buffer__" : String).dropRight (("__buffer__" : String).length + 1) = "bytes" := by decide +kernel
end F
section
variable {prog : Program} {w : World} {M : Model} {A : Around} {E : Value → Shared → Prop} {s : Shared}
theorem wpN_ifF {α : Type} {c : Bool} {a b : Sem α} {Q : α → Shared → Prop} (hc : c = false) (h : wpN true M A b Q s) : wpN true M A (if c = true then a else b) Q s := by subst hc; exact h
theorem wpN_ifT {α : Type} {c : Bool} {a b : Sem α} {Q : α → Shared → Prop} (hc : c = true) (h : wpN true M A a Q s) : wpN true M A (if c = true then a else b) Q s := by subst hc; exact h
theorem ba_ownRel {a : Addr} {b : Array UInt8} {Q : Bool → Shared → Prop} (ho : s.heap.get? a = some (baObj b)) (h : Q false s) : wpAny M A (Builtin.Bytes.ownRelease (.ref a)) Q E s := by
  have hT : s.TypeIs (.ref a) "bytearray" := ⟨_, ho, rfl⟩
  unfold Builtin.Bytes.ownRelease Builtin.Bytes.slotIsOwn
  refine wpAny_bind (wpAny_bind (wpAny_specialOf hT F.ba_lookup_rel ?_))
  refine bm_if_false (by decide +kernel) ?_
  rw [F.cut_rel]
  exact wpAny_isInstance hT F.ba_sub (wpAny_pure h)
theorem ba_init {a : Addr} {P : Fin → Shared → Prop} (hg : A.guards = some []) (ho : s.heap.get? a = some (baObj #[])) (h : P (.done (.ret .none)) { s with heap := s.heap.update a (Obj.mapBytearray fun _ => #[]) }) :
    wpN true (model prog w) A (Builtin.«bytearray.__init__» ⟨[.ref a], []⟩) P s := by
  unfold Builtin.«bytearray.__init__»
  refine wpN_bindA (ba_ownRel ho ?_)
  refine wpN_bindNA F.ba_bind0 ?_
  refine wpN_bindNA (a := ()) rfl ?_
  refine wpN_bindNA (a := ()) rfl ?_
  refine wpN_bind (wpN_noExport hg ho rfl ?_)
  refine wpN_bindA (wpAny_write ho (Nat.zero_le _) ?_)
  exact wpN_pure h
theorem code_ba_new {Q₁ : Value → Shared → Prop} (h : Q₁ (.ref s.heap.objs.size) { s with heap := s.heap.push (baObj #[]) }) :
    codeAny (model prog w) A (.call (.builtin "bytearray.__new__") ⟨[.type "bytearray"], []⟩) (wants Q₁ E) s := by
  refine codeAny_of_tree ?_
  show wpAny _ A.in1 (do checkBuiltinCall "bytearray.__new__" ⟨[.type "bytearray"], []⟩; again (.builtin "bytearray.__new__" ⟨[.type "bytearray"], []⟩)) _ _ s
  refine wpAny_bind (wpAny_of_eq F.ba_newCall (wpAny_pure ⟨plainId_quiet F.ba_called.plain _, codeAny_builtin_stack F.ba_entry_new rfl fun p st => ?_⟩))
  rw [Around.under_plainId F.ba_called.plain _]
  have hsub := F.ba_sub
  have hown := F.ba_owner
  obtain ⟨hp, g, d, tk, os⟩ := s
  simp only [hown]
  wp_walk
  exact h
theorem call_ba_new {Q : Value → Shared → Prop} (hg : A.guards = some [])
    (h : ∀ h', (∀ b o, s.heap.get? b = some o → h'.get? b = some o) → h'.get? s.heap.objs.size = some (baObj #[]) → Q (.ref s.heap.objs.size) { s with heap := h' }) :
    wpN true (model prog w) A (call (.type "bytearray") []) Q s := by
  have ft := F.ba_called
  obtain ⟨c, tl, hmro⟩ := ft.mro
  have hmade := ft.made
  have hsub := ft.sub
  refine wpN_call (codeN_of_tree rfl ?_)
  show wpN true _ A.in1 (callAny (.type "bytearray") _) _ _
  refine wpN_pure ⟨Code.quiet_builtin _ (by decide +kernel), codeN_builtin (by decide +kernel) F.entry_type_call ?_⟩
  rw [Around.under_plain (weight_type_call_type "bytearray" [] []) rfl]
  unfold Builtin.«type.__call__»
  dsimp only
  refine wpN_ifF ft.notType ?_
  refine wpN_ifF ft.canCreate ?_
  refine wpN_bindNA F.ba_typeCall ?_
  refine wpN_bindNA hmro ?_
  refine wpN_ifF rfl ?_
  refine wpN_bindNA hmade ?_
  dsimp only
  refine wpN_bindNA (a := Value.builtin "bytearray.__new__") rfl ?_
  refine wpN_bindA (wpAny_holding (wpAny_call (code_ba_new (E := fun _ _ => False) ?_)))
  have ho : (s.heap.push (baObj #[])).get? s.heap.objs.size = some (baObj #[]) := Heap.get?_push_size _ rfl
  have hT : ({ s with heap := s.heap.push (baObj #[]) } : Shared).TypeIs (.ref s.heap.objs.size) "bytearray" := ⟨_, ho, rfl⟩
  refine wpN_bindA (wpAny_isInstance hT hsub ?_)
  refine wpN_ifF rfl ?_
  refine wpN_bind (wpN_holding ?_)
  unfold callSpecial?
  refine wpN_bindA (wpAny_specialOf hT ft.init.lookup ?_)
  refine wpN_holding (wpN_bindNA (ft.init.bind _) ?_)
  dsimp only
  refine wpN_bind (wpN_call (codeN_call_builtin ft.init.plain (by decide +kernel) F.ba_entry_init (ft.init.check _ _ _ _ _ _ _ _ hT ?_ ?_)))
  · first | kernel_rfl | rfl | decide +kernel
  · refine ba_init (A := A.in1.in1) (s := { s with heap := s.heap.push (baObj #[]) }) hg ho ?_
    refine wpN_pure ?_
    refine wpN_ifF rfl (wpN_pure ?_)
    exact h _ (fun b o e => (Heap.get?_update_ne _ _ _ _ (Nat.ne_of_lt (Heap.lt_size e))).trans (Heap.get?_push_of_some _ e)) (Heap.get?_update_self (Obj.mapBytearray fun _ => #[]) ho rfl)
theorem ba_payload {v : Value} {a : Addr} {b : Array UInt8} {Q : Array UInt8 → Shared → Prop} (ho : s.heap.get? a = some (baObj b)) (h : Q b s) : wpAny M A (Builtin.Bytes.payload (.ref a)) Q E s := by
  unfold Builtin.Bytes.payload Builtin.Bytes.payload?
  exact wpAny_bind (wpAny_bind (wpAny_load ho (wpAny_pure (wpAny_pure h))))
theorem ba_buffer {id : String} {a : Addr} {b : Array UInt8} {full : Bool} {Q : Option (Array UInt8) → Shared → Prop} (ho : s.heap.get? a = some (baObj b)) (h : Q (some b) s) : wpAny M A (Builtin.Bytes.buffer? id (.ref a) full) Q E s := by
  have hT : s.TypeIs (.ref a) "bytearray" := ⟨_, ho, rfl⟩
  unfold Builtin.Bytes.buffer?
  refine wpAny_bind (wpAny_specialOf hT F.ba_lookup_buf ?_)
  dsimp only
  refine wpAny_bind ?_
  unfold Builtin.Bytes.slotIsOwn
  refine wpAny_bind (wpAny_specialOf hT F.ba_lookup_buf ?_)
  refine bm_if_false (by decide +kernel) ?_
  rw [F.cut_buf]
  refine wpAny_isInstance hT F.ba_sub ?_
  refine bm_if_false rfl ?_
  refine wpAny_bind (wpAny_specialOf hT F.ba_lookup_buf ?_)
  refine wpAny_bind (ba_ownRel ho ?_)
  refine bm_if_false rfl ?_
  exact wpAny_bind (ba_payload (v := .none) ho (wpAny_pure h))
theorem code_bytes_ba {a : Addr} {b : Array UInt8} {Q : Value → Shared → Prop} (ho : s.heap.get? a = some (baObj b)) (hz : b.size ≤ sizeLine) (h : Q (.bytes b s.toks) { s with toks := s.toks + 1 }) :
    codeAny (model prog w) A (.call (.builtin "bytes.__new__") ⟨[.type "bytes", .ref a], []⟩) (wants Q E) s := by
  have hT : s.TypeIs (.ref a) "bytearray" := ⟨_, ho, rfl⟩
  refine codeAny_of_tree ?_
  show wpAny _ A.in1 (do checkBuiltinCall "bytes.__new__" ⟨[.type "bytes", .ref a], []⟩; again (.builtin "bytes.__new__" ⟨[.type "bytes", .ref a], []⟩)) _ _ s
  refine wpAny_bind (wpAny_of_eq (PySem.F.bm_newCall _) (wpAny_pure ⟨plainId_quiet PySem.F.bm_plain _, codeAny_builtin PySem.F.bm_entry ?_⟩))
  rw [Around.under_plainId PySem.F.bm_plain _]
  unfold Builtin.«bytes.__new__»
  refine wpAny_bind (wpAny_of_eq (a := true) rfl ?_)
  refine bm_if_false rfl ?_
  refine wpAny_bind (wpAny_of_eq PySem.F.bm_sub ?_)
  refine bm_if_false rfl ?_
  refine wpAny_bind (wpAny_of_eq (PySem.F.bm_bind _) ?_)
  refine wpAny_bind (wpAny_of_eq (a := ()) rfl ?_)
  refine wpAny_bind (wpAny_of_eq (a := ()) rfl ?_)
  refine bm_if_false rfl ?_
  refine wpAny_bind (wpAny_specialOf hT F.ba_lookup_bytes ?_)
  refine wpAny_bind (wpAny_bind ?_)
  show wpAny _ _ (load a >>= _) _ _ _
  refine wpAny_bind (wpAny_load ho ?_)
  refine wpAny_pure (wpAny_pure ?_)
  refine bm_if_false rfl ?_
  refine wpAny_bind (wpAny_specialOf hT F.ba_lookup_index ?_)
  refine bm_if_true rfl ?_
  first
    | show wpAny _ _ (Builtin.Bytes.buffer? "bytes.__new__" (.ref a) true >>= _) _ _ _
    | (refine wpAny_bind ?_; show wpAny _ _ (Builtin.Bytes.buffer? "bytes.__new__" (.ref a) true >>= _) _ _ _)
  refine wpAny_bind (ba_buffer ho ?_)
  dsimp only
  refine wpAny_bind (wpAny_rule (wpAny_bind (wpAny_mkBytes ?_ hz)))
  show wpAny _ _ (if (Value.type "bytes" == Value.type "bytes") = true then _ else _) _ _ _
  refine bm_if_true (by decide) ?_
  first
    | exact wpAny_pure h
    | exact wpAny_bind (wpAny_pure (wpAny_pure h))
theorem call_bytes_ba {a : Addr} {b : Array UInt8} {Q : Value → Shared → Prop} (ho : s.heap.get? a = some (baObj b)) (hz : b.size ≤ sizeLine) (h : Q (.bytes b s.toks) { s with toks := s.toks + 1 }) :
    wpAny (model prog w) A (call (.type "bytes") [.ref a]) Q E s := by
  refine callType_codes (Q₁ := fun obj s₁ => s₁.TypeIs obj "bytes" ∧ Q obj s₁) PySem.F.bm_called (PySem.F.bm_typeCall _) PySem.F.entry_object_init
    (code_bytes_ba ho hz ⟨PySem.W.typeIs_bytes _ _ _, h⟩) fun obj s₁ h₁ => ?_
  exact ⟨h₁.1, PySem.F.args_object_init_2 obj _, object_init_meets PySem.F.bm_called.init.lookup PySem.F.bm_called.made (by decide) prog w A.in1 _ s₁ ⟨h₁.1, rfl, h₁.2⟩⟩
theorem call_ba_extend {a : Addr} {b c : Array UInt8} {t : Tok} {Q : Value → Shared → Prop} (hg : A.guards = some []) (ho : s.heap.get? a = some (baObj b)) (hz : (b ++ c).size ≤ sizeLine)
    (h : Q .none { s with heap := s.heap.update a (Obj.mapBytearray (· ++ c)) }) : wpN true (model prog w) A (call (.builtin "bytearray.extend") [.ref a, .bytes c t]) Q s := by
  have hT : s.TypeIs (.bytes c t) "bytes" := PySem.W.typeIs_bytes _ _ _
  refine wpN_call (codeN_call_builtin (by decide +kernel) (by decide +kernel) F.ba_entry_extend (F.ba_slot_extend.check _ _ _ _ _ _ _ _ ⟨_, ho, rfl⟩ ?_ ?_))
  · first | kernel_rfl | rfl | decide +kernel
  · unfold Builtin.«bytearray.extend»
    refine wpN_bindNA (a := (.ref a, .bytes c t)) rfl ?_
    dsimp only
    refine wpN_bindA (wpAny_specialOf hT F.by_lookup_buf ?_)
    refine wpN_ifT rfl ?_
    refine wpN_bindA (wpAny_rule ?_)
    refine wpN_bindA (ba_payload (v := .none) ho ?_)
    refine wpN_bindA ?_
    unfold Builtin.Bytes.takeBufferQuiet? Builtin.Bytes.takeBuffer?
    refine wpAny_bind (wpAny_attempt ?_)
    refine wpAny_bind (wpAny_specialOf hT F.by_lookup_buf ?_)
    dsimp only
    refine wpAny_bind ?_
    unfold Builtin.Bytes.slotIsOwn
    refine wpAny_bind (wpAny_specialOf hT F.by_lookup_buf ?_)
    refine bm_if_false (by decide +kernel) ?_
    rw [F.cut_bufB]
    refine wpAny_isInstance hT F.by_sub ?_
    refine bm_if_false rfl ?_
    refine wpAny_bind (wpAny_specialOf hT F.by_lookup_buf ?_)
    refine wpAny_bind ?_
    unfold Builtin.Bytes.buffer?
    refine wpAny_bind (wpAny_specialOf hT F.by_lookup_buf ?_)
    dsimp only
    refine wpAny_bind ?_
    unfold Builtin.Bytes.slotIsOwn
    refine wpAny_bind (wpAny_specialOf hT F.by_lookup_buf ?_)
    refine bm_if_false (by decide +kernel) ?_
    rw [F.cut_bufB]
    refine wpAny_isInstance hT F.by_sub ?_
    refine bm_if_false rfl ?_
    refine wpAny_bind (wpAny_specialOf hT F.by_lookup_buf ?_)
    refine wpAny_bind ?_
    unfold Builtin.Bytes.ownRelease Builtin.Bytes.slotIsOwn
    refine wpAny_bind (wpAny_bind (wpAny_specialOf hT F.by_lookup_rel ?_))
    refine wpAny_pure (wpAny_pure ?_)
    refine bm_if_false rfl ?_
    refine wpAny_bind (wpAny_of_eq (a := c) rfl (wpAny_pure (wpAny_pure ?_)))
    refine wpAny_pure ?_
    refine wpN_ifT rfl ?_
    show wpN true _ _ (if (!c.isEmpty) = true then (Builtin.Bytes.checkResize (.ref a) >>= fun _ => Builtin.Bytes.write (.ref a) (· ++ c) >>= fun _ => ret .none) else (Builtin.Bytes.write (.ref a) (· ++ c) >>= fun _ => ret .none)) _ _
    have key : wpN true (model prog w) A.in1 (Builtin.Bytes.write (.ref a) (· ++ c) >>= fun _ => ret .none) (fun fin s' =>
        match fin with
        | .done f => (match f with | .ret v => Q v s' | _ => False)
        | .again c' => c'.quiet = true ∧ codeN true (model prog w) A c' (fun f s' => match f with | .ret v => Q v s' | _ => False) s') s := wpN_bindA (wpAny_write ho hz (wpN_pure h))
    cases hc : c.isEmpty with
    | true => exact wpN_ifF rfl key
    | false => exact wpN_ifT rfl (wpN_bind (wpN_checkResize hg ho key))
theorem call_upper {c : Array UInt8} {t : Tok} {Q : Value → Shared → Prop} (hz : c.size ≤ sizeLine)
    (h : Q (.bytes (c.toList.map Builtin.Bytes.toUpper).toArray s.toks) { s with toks := s.toks + 1 }) : wpAny (model prog w) A (call (.builtin "bytes.upper") [.bytes c t]) Q E s := by
  have hT : s.TypeIs (.bytes c t) "bytes" := PySem.W.typeIs_bytes _ _ _
  refine wpAny_call_entry F.by_slot_upper hT F.by_entry_upper ?_ ?_
  · unfold Builtin.«bytes.upper» Builtin.Bytes.mappedM
    refine wpAny_bind (wpAny_of_eq (a := .bytes c t) rfl ?_)
    refine wpAny_bind (wpAny_of_eq (a := c) rfl ?_)
    refine wpAny_bind ?_
    show wpAny _ _ (mkBytes _) _ _ _
    refine wpAny_mkBytes ?_ (by simpa using hz)
    exact wpAny_pure ⟨_, rfl, h⟩
  · first | kernel_rfl | rfl | decide +kernel
theorem ba_plain : PlainAttrs "bytearray" := ⟨⟨"bytearray.__getattribute__", by rw [typeLookup_type, builtinLookup_eq_fast]; kernel_rfl, by decide +kernel⟩, by rw [typeLookup_type, builtinLookup_eq_fast]; kernel_rfl⟩
theorem by_plain : PlainAttrs "bytes" := ⟨⟨"bytes.__getattribute__", by rw [typeLookup_type, builtinLookup_eq_fast]; kernel_rfl, by decide +kernel⟩, by rw [typeLookup_type, builtinLookup_eq_fast]; kernel_rfl⟩
theorem getMethod_ba_append {a : Addr} {b : Array UInt8} {pl : Sem Bool} {Q : Value × List Value → Shared → Prop} (ho : s.heap.get? a = some (baObj b)) (h : Q (.builtin "bytearray.append", [.ref a]) s) : wpAny M A (getMethod (.ref a) "append" pl) Q E s :=
  getMethod_builtin ⟨_, ho, rfl⟩ ba_plain F.ba_slot_append F.ba_ty_append (fun a' e => by cases e; exact ⟨_, ho, rfl⟩) h
theorem getMethod_ba_extend {a : Addr} {b : Array UInt8} {pl : Sem Bool} {Q : Value × List Value → Shared → Prop} (ho : s.heap.get? a = some (baObj b)) (h : Q (.builtin "bytearray.extend", [.ref a]) s) : wpAny M A (getMethod (.ref a) "extend" pl) Q E s :=
  getMethod_builtin ⟨_, ho, rfl⟩ ba_plain F.ba_slot_extend F.ba_ty_extend (fun a' e => by cases e; exact ⟨_, ho, rfl⟩) h
theorem getMethod_upper {c : Array UInt8} {t : Tok} {pl : Sem Bool} {Q : Value × List Value → Shared → Prop} (h : Q (.builtin "bytes.upper", [.bytes c t]) s) : wpAny M A (getMethod (.bytes c t) "upper" pl) Q E s :=
  getMethod_builtin (PySem.W.typeIs_bytes _ _ _) by_plain F.by_slot_upper F.by_ty_upper (fun a' e => by cases e) h
end
end Mine
end
section
open PySem PySem.W PyProof.Rows PySem.Calls
set_option maxRecDepth 100000
set_option linter.unusedVariables false
namespace Mine
section
variable {b : Bool} {M : Model} {A : Around} {s : Shared} {env : Env}
theorem wpN_eq {α β : Type} {m : Sem α} {f : α → Sem β} {Q : β → Shared → Prop} {a : α} (e : m = pure a) (h : wpN b M A (f a) Q s) : wpN b M A (m >>= f) Q s := by subst e; exact h
theorem wpN_point {Q : Unit → Shared → Prop} (h : Q () s) : wpN b M A point Q s := fun _ _ _ _ => h
theorem wpN_execs_nil {Q : Flow → Shared → Prop} (h : Q .next s) : wpN b M A (execs [] env) Q s := wpN_pure h
theorem wpN_execs_cons {st : Stmt} {rest : List Stmt} {Q : Flow → Shared → Prop}
    (h : wpN b M A (exec st env) (fun f s' => match f with | .next => wpN b M A (execs rest env) Q s' | f => Q f s') s) : wpN b M A (execs (st :: rest) env) Q s := by
  rw [execs_cons]
  refine wpN_bind (wpN_mono h fun f s' h' => ?_)
  cases f <;> first | exact h' | exact wpN_pure h'
/-- a statement that the library walks -/
theorem wpN_leaf {st : Stmt} {rest : List Stmt} {Q : Flow → Shared → Prop}
    (h : wpAny M A (exec st env) (fun f s' => match f with | .next => wpN b M A (execs rest env) Q s' | f => Q f s') (fun _ _ => False) s) : wpN b M A (execs (st :: rest) env) Q s := wpN_execs_cons (wpN_of_any h)
theorem wpN_If {test : Expr} {body orelse : List Stmt} {pos : Pos} {Q : Flow → Shared → Prop}
    (h : wpN b M A (isTrue test env (eval test env)) (fun c s₂ => if c = true then wpN b M A (execs body env) Q s₂ else wpN b M A (execs orelse env) Q s₂) s) : wpN b M A (exec (.If test body orelse pos) env) Q s := by
  rw [exec_If]
  refine wpN_bind (wpN_standAt (wpN_bind (wpN_mono h fun c s₂ h₂ => ?_)))
  cases c <;> exact h₂
theorem wpN_Assign_Name {x : Str} {pos' pos : Pos} {value : Expr} {Q : Flow → Shared → Prop}
    (h : wpN b M A (eval value env) (fun v s₁ => wpAny M A (storeName env x v) (fun _ => Q .next) (fun _ _ => False) s₁) s)
    (hs : swapsWith value (some (.Name x pos')) pos.line env = pure false := by rfl) : wpN b M A (exec (.Assign [.Name x pos'] value pos) env) Q s := by
  rw [exec_Assign_Name env x pos' value pos hs]
  refine wpN_bind (wpN_standAt (wpN_bind (wpN_mono h fun v s₁ h₁ => ?_)))
  refine wpN_bind (wpN_standAt (wpN_bind ?_))
  unfold bindName
  refine wpN_bind (wpN_holding (wpN_point (wpN_bind (wpN_of_any (wpAny_mono h₁ (fun _ s₂ h₂ => ?_) fun _ _ x => x)))))
  exact wpN_point (wpN_pure h₂)
theorem wpN_Expr {e : Expr} {pos : Pos} {Q : Flow → Shared → Prop} (h : wpN b M A (eval e env) (fun v s' => match v with | .ref _ => False | _ => Q .next s') s)
    (hi : interactive env = false := by rfl) (hs : swapsWith e none pos.line env = pure false := by rfl) : wpN b M A (exec (.Expr e pos) env) Q s := by
  rw [exec_Expr env e pos hi hs]
  refine wpN_bind (wpN_standAt (wpN_bind (wpN_mono h fun v s' h' => ?_)))
  have hv : ∀ a, v ≠ .ref a := fun a hva => by subst hva; exact h'
  rw [dropValue_plain hv]
  refine wpN_pure ?_
  cases v <;> first | exact h' | exact (hv _ rfl).elim
theorem wpN_spliced_nil {Q : List Value → Shared → Prop} (h : Q [] s) : wpN b M A (spliced []) Q s := wpN_pure h
theorem wpN_spliced_cons {x : Sem Value} {rest : List (Bool × Sem Value)} {Q : List Value → Shared → Prop}
    (h : wpN b M A x (fun v s₁ => wpN b M A (spliced rest) (fun vs s₂ => Q (v :: vs) s₂) s₁) s) : wpN b M A (spliced ((false, x) :: rest)) Q s := by
  rw [spliced]
  refine wpN_bind (wpN_mono h fun v s₁ h₁ => ?_)
  refine wpN_bind (wpN_pure (wpN_bind (wpN_holding (wpN_mono h₁ fun vs s₂ h₂ => wpN_pure h₂))))
theorem wpN_args_nil {pos : Pos} {Q : List Value → Shared → Prop} (h : Q [] s) : wpN b M A (spliced (backTo pos (starEach [] env))) Q s := wpN_pure h
theorem wpN_args_cons {e : Expr} {rest : List Expr} {pos : Pos} {Q : List Value → Shared → Prop}
    (h : wpN b M A (eval e env) (fun v s₁ => wpN b M A (spliced (backTo pos (starEach rest env))) (fun vs s₂ => Q (v :: vs) s₂) s₁) s)
    (hst : starEach (e :: rest) env = (false, eval e env) :: starEach rest env := by rfl) : wpN b M A (spliced (backTo pos (starEach (e :: rest) env))) Q s := by
  rw [hst]
  show wpN b M A (spliced ((false, eval e env) :: backTo pos (starEach rest env))) Q s
  exact wpN_spliced_cons h
theorem wpN_evalArgs {f : Value} {args : List (Bool × Sem Value)} {Q : Args → Shared → Prop} (hp : args.any (·.1) = false)
    (h : wpN b M A (spliced args) (fun vs s₁ => Q ⟨vs, []⟩ s₁) s) : wpN b M A (evalArgs f true args []) Q s := by
  have key : ∀ (vs : List Value) (s₁ : Shared) (t : Sem Args), t = pure ⟨vs, []⟩ → Q ⟨vs, []⟩ s₁ → wpN b M A (holding (vs ++ (none : Option Value).toList) t) Q s₁ := fun vs s₁ t e h₁ => by subst e; exact wpN_holding (wpN_pure h₁)
  unfold evalArgs
  match args, hp with
  | [], _ => exact wpN_bind (wpN_mono h fun vs s₁ h₁ => wpN_eq (a := (vs, none)) rfl (key vs s₁ _ rfl h₁))
  | (false, x) :: rest, _ => exact wpN_bind (wpN_mono h fun vs s₁ h₁ => wpN_eq (a := (vs, none)) rfl (key vs s₁ _ rfl h₁))
  | (true, x) :: rest, hp => simp at hp
theorem wpN_tail {t : Sem Value} {Q : Value → Shared → Prop} (h : wpN b M A t Q s) : wpN b M A (t >>= fun r => holding [r] point >>= fun _ => pure r) Q s :=
  wpN_bind (wpN_mono h fun r s₂ hr => wpN_bind (wpN_holding (wpN_point (wpN_pure hr))))
theorem wpN_callWith_machine {pos : Pos} {f : Value} {first : List Value} {args : List (Bool × Sem Value)} {Q : Value → Shared → Prop} (hp : args.any (·.1) = false) (hk : keeperOf f = pure .machine)
    (h : wpN b M A (spliced args) (fun vs s₁ => wpN b M A (call f (first ++ vs) []) Q s₁) s) : wpN b M A (callWith pos f first args []) Q s := by
  unfold callWith
  refine wpN_bind (wpN_holding (wpN_evalArgs hp (wpN_mono h fun vs s₁ h₁ => wpN_bind (wpN_standAt ?_))))
  refine wpN_eq hk ?_
  simp only [hp, List.any_nil, Bool.or_false]
  exact wpN_tail h₁
theorem wpN_callWith_fn {pos : Pos} {a : Addr} {first : List Value} {args : List (Bool × Sem Value)} {Q : Value → Shared → Prop} (hp : args.any (·.1) = false)
    (h : wpN b M A (spliced args) (fun vs s₁ => (∃ o fd, s₁.heap.get? a = some o ∧ o.data = .func fd) ∧ wpN b M A (call (.ref a) (first ++ vs) []) Q s₁) s) : wpN b M A (callWith pos (.ref a) first args []) Q s := by
  unfold callWith
  refine wpN_bind (wpN_holding (wpN_evalArgs hp (wpN_mono h fun vs s₁ h₁ => wpN_bind (wpN_standAt ?_))))
  obtain ⟨⟨o, fd, ho, hd⟩, h₁⟩ := h₁
  refine wpN_bind (m := keeperOf (.ref a)) ?_
  unfold keeperOf
  refine wpN_bindA (wpAny_load ho ?_)
  rw [hd]
  refine wpN_pure ?_
  simp only [hp, List.any_nil, Bool.or_false]
  show wpN b M A (if args.length + 2 * 0 > 30 then (call (.ref a) (first ++ vs) [] >>= fun r => holding [r] point >>= fun _ => pure r) else (callMarked plainCall (.ref a) (first ++ vs) [] >>= fun r => holding [r] point >>= fun _ => pure r)) Q s₁
  split
  · exact wpN_tail h₁
  · exact wpN_tail (wpN_keep h₁)
theorem wpN_Call_Name {id : Str} {p pos : Pos} {args : List Expr} {Q : Value → Shared → Prop}
    (h : wpAny M A (eval (.Name id p) env) (fun f s₁ => wpN b M A (callWith pos f [] (backTo pos (starEach args env)) []) Q s₁) (fun _ _ => False) s) : wpN b M A (eval (.Call (.Name id p) args [] pos) env) Q s := by
  rw [arm_eval_Call_Name']
  exact wpN_bindA h
theorem wpN_Call_Attr {o : Expr} {name : Str} {apos pos : Pos} {args : List Expr} {Q : Value → Shared → Prop} (hb : attributeBase o name env (eval o env) = eval o env)
    (h : wpN b M A (eval o env) (fun ov s₁ => wpN b M A (methodCall o name apos pos env ov args.length (backTo pos (starEach args env)) []) Q s₁) s) : wpN b M A (eval (.Call (.Attribute o name apos) args [] pos) env) Q s := by
  show wpN b M A (do
    let ov ← attributeBase o name env (eval o env)
    standAt apos.atName
    methodCall o name apos pos env ov (args.length + 0) (backTo pos (starEach args env)) []) Q s
  rw [hb]
  exact wpN_bind (wpN_mono h fun ov s₁ h₁ => wpN_bind (wpN_standAt h₁))
theorem wpN_methodCall {o : Expr} {name : Str} {apos pos : Pos} {ov : Value} {n : Nat} {args : List (Bool × Sem Value)} {Q : Value → Shared → Prop} (hpos : apos.endLine = pos.line) (hm : methodCallForm n args [] = true)
    (h : wpAny M A (getMethod ov name (do return (← importBound o env).getD true)) (fun r s₁ => wpN b M A (callWith pos r.1 r.2 args []) Q s₁) (fun _ _ => False) s) : wpN b M A (methodCall o name apos pos env ov n args []) Q s := by
  unfold methodCall calleeOf methodCallPos
  rw [hm]
  simp only [if_true]
  refine wpN_bind (wpN_holding (wpN_of_any (wpAny_mono h (fun r s₁ h₁ => ?_) fun _ _ x => x)))
  obtain ⟨f, first⟩ := r
  refine wpN_eq (a := pos) ?_ h₁
  simp [hpos]
end
end Mine
end
section
open PySem PySem.W PyProof.Rows PySem.Calls
set_option maxRecDepth 100000
set_option linter.unusedVariables false
namespace Mine
section
variable {b : Bool} {prog : Program} {w : World} {A : Around} {s : Shared} {env : Env} {h₀ : Heap} {L : Addr}
theorem codeN_func {body : List Stmt} {env : Env} {R : Flow → Shared → Prop} (h : wpN b (model prog w) (A.deeper env) (execs body env) (fun f s' => R (.ret (match f with | .ret v => v | _ => .none)) s') s) :
    codeN b (model prog w) A (.func body env) R s := by
  refine codeN_of_tree rfl ?_
  show wpN b _ (A.deeper env) (do point; match ← (execs body env).onRaise (leaving env) with | .ret v => ret v | _ => ret .none) _ s
  refine wpN_bind (wpN_point (wpN_bind (wpN_onRaise (wpN_mono h fun f s' h' => ?_))))
  cases f <;> exact wpN_pure h'
theorem codeN_call_function {a : Addr} {args : Args} {o : Obj} {fd : FuncData} {body : List Stmt} {R : Flow → Shared → Prop} (hroom : A.depth < recursionLimit)
    (ho : s.heap.get? a = some o) (hd' : o.data = .func fd) (hco : fd.scope.isCoroutine = false) (hgen : fd.scope.isGenerator = false) (hbody : fd.body = .stmts body) (hcd : s.heap.CodeRec fd.code fd.qualname)
    (h : wpAny (model prog w) A.in1 (bindArgs fd args) (fun binds s₁ =>
      wpAny (model prog w) A.in1 (newFunctionEnv fd.scope fd.globals fd.closure binds (fd.qualname ++ ".<locals>.") (some a) fd.code none fd.builtins)
        (fun env s₂ => s₂.heap.NoLimit ∧ codeN b (model prog w) A (.func body env) R s₂) (fun _ _ => False) s₁) (fun _ _ => False) s) :
    codeN b (model prog w) A (.call (.ref a) args) R s := by
  refine codeN_of_tree rfl ?_
  show wpN b _ A.in1 (callAny (.ref a) args) _ s
  simp only [callAny]
  refine wpN_bindA (wpAny_load ho ?_)
  obtain ⟨c, oc, vs, tq, hc, hoc, hdc, hq⟩ := hcd
  simp only [hd', callFunction, hco, hgen, hbody, hc]
  rw [hc] at h
  refine wpN_bindA (m := field (.ref c) 1) (wpAny_field hoc hdc hq (wpN_eq (a := fd.qualname) rfl ?_))
  exact wpN_bindA (wpAny_mono h (fun binds s₁ h₁ => wpN_bindA (wpAny_mono h₁ (fun env s₂ h₂ => wpN_bindA (wpAny_enterFrame h₂.1 hroom
    (wpN_pure (And.intro rfl h₂.2)))) fun _ _ h' => h')) fun _ _ h' => h')
/-- a call of one of the text's plain defs -/
theorem enterN {R : Flow → Shared → Prop} {K : Frag} {name qual : Str} {params : Arguments} {body : List Stmt} {scope : Scope} {dV kV doc pm cdv ct oc : Value} {an od : Option Addr} {osl : Array (Option Value)} {f : Addr} {args : Args} {binds : List (Str × Value)}
    (X : K.In s.heap) (hlim : s.heap.NoLimit) (hroom : A.depth < recursionLimit)
    (ho : K.lookup f = some ⟨oc, od, .func (fnOf name qual params body scope dV kV doc pm an cdv ct), osl⟩) (hcd : codeIn K cdv qual = true)
    (hbind : BindsTo s (fnOf name qual params body scope dV kV doc pm an cdv ct) args binds) (hloc : ∀ y ∈ binds, scope.names.lookup y.1 = some .local)
    (h : ∀ h₁ tk, Fr s.heap s.heap.objs.size h₁ (fun y => binds.reverse.lookup y) → 
      wpN b (model prog w) (A.deeper (envOf qual scope s.heap.objs.size f cdv)) (execs body (envOf qual scope s.heap.objs.size f cdv))
        (fun fl s' => R (.ret (match fl with | .ret v => v | _ => .none)) s') { s with heap := h₁, toks := tk })
    (hco : scope.isCoroutine = false) (hgen : scope.isGenerator = false) (hk : scope.kind = .function)
    (hcell : ∀ x ∈ scope.names, x.2 ≠ .cell) : codeN b (model prog w) A (.call (.ref f) args) R s := by
  refine codeN_call_function (fd := fnOf name qual params body scope dV kV doc pm an cdv ct) hroom (X _ _ ho) rfl hco hgen rfl (codeRec_of X hcd) (hbind _ _ _ _ ?_)
  refine wpAny_newFunctionEnv hcell hloc (fun h₀ hns₀ hsb₀ => ⟨hlim.fresh _ hsb₀, codeN_func (h h₀ _ ⟨hns₀, fun b o e => ?_, Nat.le_refl _⟩)⟩) hk
  exact hsb₀.extBut b o (Nat.ne_of_lt (Heap.lt_size e)) (Heap.get?_push_of_some _ e)
/-- a call of one of the text's defs that has cells -/
theorem enterCN {R : Flow → Shared → Prop} {K : Frag} {name qual : Str} {params : Arguments} {body : List Stmt} {scope : Scope} {dV kV doc pm cdv ct oc : Value} {an od : Option Addr} {osl : Array (Option Value)} {f : Addr} {args : Args} {binds : List (Str × Value)}
    (X : K.In s.heap) (hlim : s.heap.NoLimit) (hroom : A.depth < recursionLimit)
    (ho : K.lookup f = some ⟨oc, od, .func (fnOf name qual params body scope dV kV doc pm an cdv ct), osl⟩) (hcd : codeIn K cdv qual = true)
    (hbind : BindsTo s (fnOf name qual params body scope dV kV doc pm an cdv ct) args binds) (hkind : (binds.all fun y => scope.names.lookup y.1 == some .local || scope.names.lookup y.1 == some .cell) = true)
    (hnd : ((cellsFrom 0 scope.names []).map (·.1)).Nodup)
    (h : ∀ h₁ tk cells, Fr s.heap s.heap.objs.size h₁ (bindL (envOfC qual scope s.heap.objs.size f cdv).kindOf binds fun _ => none) → News s.heap s.heap.objs.size h₁ cells →
      CellsAre (bindC (envOfC qual scope s.heap.objs.size f cdv).kindOf binds fun _ => none) (cellsFrom (s.heap.objs.size + 1) scope.names []) cells →
      wpN b (model prog w) (A.deeper (envOfC qual scope s.heap.objs.size f cdv)) (execs body (envOfC qual scope s.heap.objs.size f cdv))
        (fun fl s' => R (.ret (match fl with | .ret v => v | _ => .none)) s') { s with heap := h₁, toks := tk })
    (hco : scope.isCoroutine = false) (hgen : scope.isGenerator = false) (hk : scope.kind = .function) : codeN b (model prog w) A (.call (.ref f) args) R s := by
  refine codeN_call_function (fd := fnOf name qual params body scope dV kV doc pm an cdv ct) hroom (X _ _ ho) rfl hco hgen rfl (codeRec_of X hcd) (hbind _ _ _ _ ?_)
  refine wpAny_newFunctionEnv_cells hk (kindsX hkind _) fun env' he s' x => ?_
  subst he
  refine ⟨hlim.keeps x.toInCall.keep, codeN_func ?_⟩
  obtain ⟨h₁, tk, rfl, _⟩ := x.done
  have hk₁ := x.toInCall.keep
  obtain ⟨cells, NC, Y⟩ := Cl.news (h₀ := s.heap) (Nat.le_refl _) fun n c hm => ⟨x.cell n c (lookup_of_mem_nodup (cellsFrom_names scope.names 0 (s.heap.objs.size + 1) [] [] rfl ▸ hnd) hm), x.above n c hm⟩
  exact h h₁ tk cells ⟨x.toInCall.ns, hk₁, Nat.le_refl _⟩ NC Y
theorem codeN_block_nil {R : Flow → Shared → Prop} (h : R .next s) : codeN b (model prog w) A (.block [] env) R s := by
  refine codeN_of_tree rfl ?_
  show wpN b _ _ (do return PySem.Fin.done (← (execs [] env).onRaise (fun x => do noteFrame x env; theTreesLotGoes x))) _ s
  exact wpN_bind (wpN_onRaise (wpN_execs_nil (wpN_pure h)))
theorem codeN_forLoop {R : Flow → Shared → Prop} {target : Expr} {it : Value} {body : List Stmt} (I : Nat → Shared → Prop)
    (turn : ∀ n s, I n s → wpN b (model prog w) A (pyNext it) (fun r s₁ => match r with
      | none => R .next s₁
      | some v => wpN b (model prog w) A (letOwnedTupleGo target it v) (fun _ s₂ => wpN b (model prog w) A (assign target env v) (fun _ s₃ => wpN b (model prog w) A (execs body env) (fun f s₄ => match f with
          | .brk => R .next s₄
          | .ret v => R (.ret v) s₄
          | _ => ∃ m, m < n ∧ I m s₄) s₃) s₂) s₁) s)
    (n : Nat) (h : I n s) : codeN b (model prog w) A (.forLoop target it body [] env) R s := by
  induction n using Nat.strongRecOn generalizing s with
  | ind n ih =>
    refine codeN_of_tree rfl ?_
    show wpN b _ A ((forTurn target it body [] env).onRaise (fun x => do noteFrame x env; theTreesLotGoes x)) _ s
    refine wpN_onRaise ?_
    simp only [forTurn]
    refine wpN_bind (wpN_standAt (wpN_bind (wpN_onRaise (wpN_mono (turn n s h) fun r s₁ h₁ => ?_))))
    cases r with
    | none => exact wpN_pure ⟨rfl, codeN_block_nil h₁⟩
    | some v =>
      refine wpN_bind (wpN_mono h₁ fun _ s₂ h₂ => wpN_bind (wpN_mono h₂ fun _ s₃ h₃ => wpN_bind (wpN_mono h₃ fun f s₄ h₄ => ?_)))
      cases f with
      | next => obtain ⟨m, hm, hI⟩ := h₄; exact wpN_pure ⟨rfl, ih m hm hI⟩
      | cont => obtain ⟨m, hm, hI⟩ := h₄; exact wpN_pure ⟨rfl, ih m hm hI⟩
      | brk => exact wpN_pure h₄
      | ret v => exact wpN_pure h₄
theorem wpN_For {target iter : Expr} {body : List Stmt} {pos : Pos} {Q : Flow → Shared → Prop}
    (h : wpN b (model prog w) A (eval iter env) (fun xv s₁ => wpN b (model prog w) A (pyIter xv) (fun it s₂ => codeN b (model prog w) A (.forLoop target it body [] env) Q s₂) s₁) s)
    (hs : ∀ x, foldedSetIterable iter env x = pure x := by intro _; rfl) : wpN b (model prog w) A (exec (.For target iter body [] pos) env) Q s := by
  rw [exec_For]
  refine wpN_bind (wpN_standAt (wpN_bind (wpN_mono h fun xv s₁ h₁ => wpN_eq (hs xv) (wpN_bind (wpN_standAt (wpN_bind (wpN_holding (wpN_mono h₁ fun it s₂ h₂ => ?_))))))))
  exact wpN_runOwn h₂
def FEnd {σ : Type} (h₀ : Heap) (L : Addr) (s : Shared) (own : List (Addr × Obj)) (wr : List Addr) (Led : σ → List (Addr × Obj)) (ps : σ → List (Str × Value)) (P : σ → Prop) (s₂ : Shared) : Prop :=
  ∃ (c' : σ) (h' : Heap) (tk : Nat) (m' : Str → Option Value) (news' : List (Addr × Obj)), s₂ = { s with heap := h', toks := tk } ∧ Fr h₀ L h' m' ∧ News h₀ L h' news' ∧ (∀ p ∈ own, p ∈ news') ∧ (∀ p ∈ Led c', p ∈ news') ∧ (∀ p ∈ Led c', p.1 ∉ wr) ∧ (∀ p ∈ ps c', m' p.1 = some p.2) ∧ P c'
def FPost {σ : Type} (h₀ : Heap) (L : Addr) (s : Shared) (own : List (Addr × Obj)) (wr : List Addr) (Led : σ → List (Addr × Obj)) (ps : σ → List (Str × Value)) (P : σ → Prop) (R : Flow → Shared → Prop) (f : Flow) (s₂ : Shared) : Prop :=
  match f with
  | .ret v => R (.ret v) s₂
  | .brk => R .next s₂
  | _ => FEnd h₀ L s own wr Led ps P s₂
theorem fend {σ : Type} {own : List (Addr × Obj)} {wr : List Addr} {Led : σ → List (Addr × Obj)} {ps : σ → List (Str × Value)} {P : σ → Prop} {m' : Str → Option Value} {h' : Heap} {tk : Nat} {news' : List (Addr × Obj)} (c' : σ)
    (F : Fr h₀ L h' m') (N : News h₀ L h' news') (ho : ∀ p ∈ own, p ∈ news') (hn : ∀ p ∈ Led c', p ∈ news') (hw : ∀ p ∈ Led c', p.1 ∉ wr) (hk : ∀ p ∈ ps c', m' p.1 = some p.2) (hp : P c') :
    FEnd h₀ L s own wr Led ps P { s with heap := h', toks := tk } := ⟨c', h', tk, m', news', rfl, F, N, ho, hn, hw, hk, hp⟩
theorem fr_kst2 {h : Heap} {ps : List (Str × Value)} {m₁ : Str → Option Value} (h1 : ∀ p ∈ ps, m₁ p.1 = some p.2) : kstB m₁ ps = m₁ := funext fun y => kstB_eq h1 fun _ => rfl
def WEndN {σ : Type} (h₀ : Heap) (L : Addr) (s : Shared) (Led : σ → List (Addr × Obj)) (ps : σ → List (Str × Value)) (P : σ → Prop) (s₂ : Shared) : Prop :=
  ∃ (c' : σ) (h' : Heap) (tk : Nat) (m' : Str → Option Value) (news' : List (Addr × Obj)), s₂ = { s with heap := h', toks := tk } ∧ Fr h₀ L h' m' ∧ News h₀ L h' news' ∧ (∀ p ∈ Led c', p ∈ news') ∧ (∀ p ∈ ps c', m' p.1 = some p.2) ∧ P c'
def WPostN {σ : Type} (h₀ : Heap) (L : Addr) (s : Shared) (Led : σ → List (Addr × Obj)) (ps : σ → List (Str × Value)) (P : σ → Prop) (R : Flow → Shared → Prop) (f : Flow) (s₂ : Shared) : Prop :=
  match f with
  | .ret v => R (.ret v) s₂
  | .brk => R .next s₂
  | _ => WEndN h₀ L s Led ps P s₂
theorem wend {σ : Type} {Led : σ → List (Addr × Obj)} {ps : σ → List (Str × Value)} {P : σ → Prop} {m' : Str → Option Value} {h' : Heap} {tk : Nat} {news' : List (Addr × Obj)} (c' : σ)
    (F : Fr h₀ L h' m') (N : News h₀ L h' news') (hn : ∀ p ∈ Led c', p ∈ news') (hk : ∀ p ∈ ps c', m' p.1 = some p.2) (hp : P c') :
    WEndN h₀ L s Led ps P { s with heap := h', toks := tk } := ⟨c', h', tk, m', news', rfl, F, N, hn, hk, hp⟩
theorem while_inv {σ : Type} {test : Expr} {body : List Stmt} {pos : Pos} {m₀ : Str → Option Value} {Q : Flow → Shared → Prop} (Led : σ → List (Addr × Obj)) (ps : σ → List (Str × Value)) (P : σ → Prop) (μ : σ → Nat) (c₀ : σ)
    (F : Fr h₀ L s.heap m₀) (N : News h₀ L s.heap (Led c₀)) (hk : ∀ p ∈ ps c₀, m₀ p.1 = some p.2) (hp : P c₀)
    (turn : ∀ (c : σ) (u : Str → Option Value) h tk, P c → Fr h₀ L h (kstB u (ps c)) → News h₀ L h (Led c) →
      wpN b (model prog w) A (isTrue test env (eval test env)) (fun t s₂ =>
        if t = true then wpN b (model prog w) A (execs body env) (WPostN h₀ L s Led ps (fun c' => P c' ∧ μ c' < μ c) Q) s₂ else Q .next s₂) { s with heap := h, toks := tk }) :
    wpN b (model prog w) A (exec (.While test body [] pos) env) Q s := by
  rw [exec_While]
  refine abs2 (fun n s' => ∃ h' tk m' c, s' = { s with heap := h', toks := tk } ∧ Fr h₀ L h' m' ∧ News h₀ L h' (Led c) ∧ (∀ p ∈ ps c, m' p.1 = some p.2) ∧ P c ∧ n = μ c) fun Iv hv1 hv2 => ?_
  refine wpN_bind (wpN_standAt (wpN_runOwn (codeN_loop rfl rfl Iv ?_ (μ c₀) (hv2 _ _ ⟨s.heap, s.toks, m₀, c₀, rfl, F, N, hk, hp, rfl⟩))))
  intro n s' hxx
  refine ex4_6 (hv1 _ _ hxx) ?_
  clear hxx
  intro h' tk m' c eqs F' N' hk' hp' hnn
  subst eqs
  show wpN b _ A ((whileTurn test body [] env).onRaise (fun x => do noteFrame x env; theTreesLotGoes x)) _ _
  refine wpN_onRaise ?_
  simp only [whileTurn]
  refine wpN_bind (wpN_mono (turn c m' h' tk hp' (by rw [fr_kst2 (h := h') hk']; exact F') N') fun t s₂ h₂ => ?_)
  cases t with
  | false =>
    simp only [Bool.false_eq_true, if_false] at h₂ ⊢
    exact wpN_bind (wpN_execs_nil (wpN_pure h₂))
  | true =>
    simp only [if_true] at h₂ ⊢
    refine wpN_bind (wpN_mono h₂ fun f s₃ h₃ => ?_)
    have fin : WEndN h₀ L s Led ps (fun c' => P c' ∧ μ c' < μ c) s₃ → ∃ m, m < n ∧ Iv m s₃ := by
      rintro ⟨c', h₃', tk₃, m₂, news₂, rfl, F₃, N₃, hn₃, hk₃, hp₃, hm₃⟩
      exact ⟨μ c', hnn ▸ hm₃, hv2 _ _ ⟨h₃', tk₃, m₂, c', rfl, F₃, fun p hp => N₃ p (hn₃ p hp), hk₃, hp₃, rfl⟩⟩
    cases f with
    | next => exact wpN_pure ⟨rfl, fin h₃⟩
    | cont => exact wpN_pure ⟨rfl, fin h₃⟩
    | brk => exact wpN_pure h₃
    | ret v => exact wpN_pure h₃
/-- the same, the turn's end a variable -/
theorem while_invZ {σ : Type} {test : Expr} {body : List Stmt} {pos : Pos} {m₀ : Str → Option Value} {Q : Flow → Shared → Prop} (Led : σ → List (Addr × Obj)) (ps : σ → List (Str × Value)) (P : σ → Prop) (μ : σ → Nat) (c₀ : σ)
    (F : Fr h₀ L s.heap m₀) (N : News h₀ L s.heap (Led c₀)) (hk : ∀ p ∈ ps c₀, m₀ p.1 = some p.2) (hp : P c₀)
    (turn : ∀ (Z : Flow → Shared → Prop) (c : σ), (∀ c' h' tk m' news', Fr h₀ L h' m' → News h₀ L h' news' → (∀ p ∈ Led c', p ∈ news') → (∀ p ∈ ps c', m' p.1 = some p.2) → P c' → μ c' < μ c → Z .next { s with heap := h', toks := tk }) →
      (∀ v s₂, Q (.ret v) s₂ → Z (.ret v) s₂) → P c → ∀ u h tk, Fr h₀ L h (kstB u (ps c)) → News h₀ L h (Led c) →
      wpN b (model prog w) A (isTrue test env (eval test env)) (fun t s₂ =>
        if t = true then wpN b (model prog w) A (execs body env) Z s₂ else Q .next s₂) { s with heap := h, toks := tk }) :
    wpN b (model prog w) A (exec (.While test body [] pos) env) Q s :=
  while_inv Led ps P μ c₀ F N hk hp fun c u h tk h1 h2 h3 => turn (WPostN h₀ L s Led ps (fun c' => P c' ∧ μ c' < μ c) Q) c (fun c' h' tk m' news' f1 f2 f3 f4 f5 f6 => wend (s := s) c' f1 f2 f3 f4 ⟨f5, f6⟩) (fun _ _ x => x) h1 u h tk h2 h3
end
end Mine
end
section
open PySem PySem.W PyProof.Rows PySem.Calls
set_option maxRecDepth 100000
set_option linter.unusedVariables false
namespace Mine
section
variable {b : Bool} {prog : Program} {w : World} {A : Around} {s : Shared} {env : Env} {h₀ : Heap} {L : Addr}
theorem for_walkT {σ : Type} {R : Flow → Shared → Prop} {x1 x2 : Str} {p1 p2 pt : Pos} {kk : Nat} {body : List Stmt} {I : Addr} {fp wr : List Addr} {n : Nat} {Pt : Nat → Array Value → Prop} {St : Nat → Heap → Prop} {Mid : Nat → Addr → Heap → Prop} {m₀ : Str → Option Value}
    (hh : A.handled = none) (W : WalksT prog w A I fp wr n Pt St Mid) (hlive : ∀ i h, St i h → ∀ b ∈ fp, ∃ o, h.get? b = some o) (hPt : ∀ i vals, Pt i vals → ∃ v1 v2, vals = #[v1, v2])
    (Led : Nat → σ → List (Addr × Obj)) (ps : Nat → σ → List (Str × Value)) (Inv : Nat → σ → Prop) (c₀ : σ)
    (hx1 : env.kindOf x1 = some .local) (hx2 : env.kindOf x2 = some .local) (hp : (env.scope.kind == .class || (env.scope.kind == .module && env.locals != env.globals)) = false)
    (hLf : env.locals ∉ fp) (hwr : ∀ b ∈ wr, h₀.get? b = none) (hnw : ∀ p ∈ Led 0 c₀, p.1 ∉ wr)
    (hst : St 0 s.heap) (F : Fr h₀ env.locals s.heap m₀) (N : News h₀ env.locals s.heap (Led 0 c₀)) (hk : ∀ p ∈ ps 0 c₀, m₀ p.1 = some p.2) (h0 : Inv 0 c₀)
    (turn : ∀ i v1 v2 c u h tk own, i < n → Pt i #[v1, v2] → Inv i c → (∀ p ∈ Led i c, p.1 ∉ wr) → (∀ p ∈ own, p.1 ∈ fp) → (∀ b ∈ wr, ∃ o, (b, o) ∈ own) →
      Fr h₀ env.locals h (fun y => if y = x2 then some v2 else if y = x1 then some v1 else kstB u (ps i c) y) → News h₀ env.locals h (own ++ Led i c) →
      wpN b (model prog w) A (execs body env) (FPost h₀ env.locals { s with heap := h, toks := tk } own wr (Led (i + 1)) (ps (i + 1)) (Inv (i + 1)) R) { s with heap := h, toks := tk })
    (done : ∀ c u h tk, Inv n c → Fr h₀ env.locals h (kstB u (ps n c)) → News h₀ env.locals h (Led n c) → R .next { s with heap := h, toks := tk }) :
    codeN b (model prog w) A (.forLoop (.Tuple [.Name x1 p1, .Name x2 p2] kk pt) (.ref I) body [] env) R s := by
  have hLw : env.locals ∉ wr := fun h => hLf (W.sub _ h)
  have old : ∀ b o, h₀.get? b = some o → b ∉ wr := fun b o e hb => by rw [hwr b hb] at e; cases e
  refine abs2 (fun k s' => ∃ h' tk m' i c, s' = { s with heap := h', toks := tk } ∧ St i h' ∧ Fr h₀ env.locals h' m' ∧ News h₀ env.locals h' (Led i c) ∧ (∀ p ∈ Led i c, p.1 ∉ wr) ∧ (∀ p ∈ ps i c, m' p.1 = some p.2) ∧ Inv i c ∧ i ≤ n ∧ k = n + 1 - i) fun Iv hv1 hv2 => ?_
  refine codeN_forLoop Iv ?_ (n + 1) (hv2 _ _
    ⟨s.heap, s.toks, m₀, 0, c₀, rfl, hst, F, N, hnw, hk, h0, Nat.zero_le _, rfl⟩)
  intro k s' hxx
  refine ex5_9 (hv1 _ _ hxx) ?_
  clear hxx
  intro h' tk m' i c eqs hst' F' N' hnw' hk' hJ hi hkk
  subst eqs
  have next : ∀ h₁ : Heap, (∀ b o, b ∉ wr → h'.get? b = some o → h₁.get? b = some o) → Fr h₀ env.locals h₁ m' ∧ News h₀ env.locals h₁ (Led i c) := fun h₁ hk₁ =>
    ⟨⟨F'.ns.at' fun o e => hk₁ _ o hLw e, fun b o e => hk₁ b o (old b o e) (F'.keep b o e), F'.above⟩, fun p hp => ⟨hk₁ _ _ (hnw' p hp) (N' p hp).1, (N' p hp).2⟩⟩
  by_cases hlt : i < n
  · refine wpN_of_any (W.item i _ _ _ hlt hst' fun T vals h₁ tk₁ hP hTs hT hM hk₁ => ?_)
    obtain ⟨v1, v2, rfl⟩ := hPt i vals hP
    refine wpN_of_any (W.go _ _ _ i T _ _ _ hM fun h₂ hst₂ hk₂ => ?_)
    have hT₂ : h₂.IsTuple T #[v1, v2] := by
      obtain ⟨o, ho, r⟩ := hT
      exact ⟨o, hk₂ T o (W.apart i T h₁ hM) ho, r⟩
    obtain ⟨F₂, N₂⟩ := next h₂ fun b o hb e => hk₂ b o hb (hk₁ b o hb e)
    refine wpN_of_any (wpAny_assign_Tuple hh hT₂ rfl rfl fun h₃ hx₃ => ?_)
    replace hx₃ : Heap.ExtBut h₂.objs.size h₂ h₃ := hx₃
    have hk₃ : ∀ b o, h₂.get? b = some o → h₃.get? b = some o := fun b o e => hx₃ b o (Nat.ne_of_lt (Heap.lt_size e)) e
    have F₃ := F₂
    have F₃ : Fr h₀ env.locals h₃ m' := ⟨F₂.ns.keeps hk₃, fun b o e => hk₃ _ _ (F₂.keep b o e), F₂.above⟩
    have N₃ : News h₀ env.locals h₃ (Led i c) := fun p hp => ⟨hk₃ _ _ (N₂ p hp).1, (N₂ p hp).2⟩
    have hst₃ : St (i + 1) h₃ := W.frame _ _ _ hst₂ fun b hb o e => hk₃ b o e
    show wpAny _ A (do holding [v2] (assign (.Name x1 p1) env v1); do holding [] (assign (.Name x2 p2) env v2); pure ()) _ _ _
    refine wpAny_bind (wpAny_holding (wpAny_assign_Name (wpAny_storeName_local hx1 F₃.ns (fun h₄ hn₄ hs₄ => ?_) hp)))
    have F₄ := F₃.set hn₄ hs₄
    refine wpAny_bind (wpAny_holding (wpAny_assign_Name (wpAny_storeName_local hx2 F₄.ns (fun h₅ hn₅ hs₅ => wpAny_pure ?_) hp)))
    have F₅ := F₄.set hn₅ hs₅
    have N₅ := (N₃.set hs₄).set hs₅
    have hfp : ∀ b ∈ fp, ∀ o, h₃.get? b = some o → h₅.get? b = some o := fun b hb o e => ((hs₅.2 b fun q => hLf (q ▸ hb)).trans ((hs₄.2 b fun q => hLf (q ▸ hb)))).trans e
    have Nown : News h₀ env.locals h₅ (ownOf h₀ fp h₅) := news_ownOf hLf
    have hst₅ : St (i + 1) h₅ := W.frame _ _ _ hst₃ hfp
    have F₆ : Fr h₀ env.locals h₅ (fun y => if y = x2 then some v2 else if y = x1 then some v1 else kstB m' (ps i c) y) := by rw [fr_kst2 (h := h₅) hk']; exact F₅
    refine wpN_mono (turn i v1 v2 c m' h₅ _ (ownOf h₀ fp h₅) hlt hP hJ hnw' ownOf_sub (fun b hb => ?_) F₆ (Nown.append N₅)) fun f s₃ h₆ => ?_
    · obtain ⟨o, ho⟩ := hlive _ _ hst₅ b (W.sub _ hb)
      exact ⟨o, mem_ownOf (W.sub _ hb) (hwr b hb) ho⟩
    have fin : ∀ s₀ : Shared, (∃ tk, s₀ = { s with heap := h₅, toks := tk }) → FEnd h₀ env.locals s₀ (ownOf h₀ fp h₅) wr (Led (i + 1)) (ps (i + 1)) (Inv (i + 1)) s₃ → ∃ m, m < k ∧ Iv m s₃ := by
      rintro _ ⟨_, rfl⟩ ⟨c', h₃', tk₃, m₂, news₂, rfl, F₇, N₇, ho₇, hn₇, hw₇, hk₇, hJ₇⟩
      refine ⟨n + 1 - (i + 1), by omega, hv2 _ _ ⟨h₃', tk₃, m₂, i + 1, c', rfl, ?_, F₇, fun p hp => N₇ p (hn₇ p hp), hw₇, hk₇, hJ₇, hlt, rfl⟩⟩
      refine W.frame _ _ _ hst₅ fun b hb o e => ?_
      cases hn : h₀.get? b with
      | some o₀ =>
        have : o₀ = o := by have := F₅.keep b o₀ hn; rw [e] at this; exact (Option.some.inj this).symm
        exact this ▸ F₇.keep b o₀ hn
      | none => exact (N₇ _ (ho₇ _ (mem_ownOf hb hn e))).1
    cases f with
    | ret v => exact h₆
    | brk => exact h₆
    | next => exact fin _ ⟨_, rfl⟩ h₆
    | cont => exact fin _ ⟨_, rfl⟩ h₆
  · have hin : i = n := by omega
    rw [hin] at hst' hJ hk'
    refine wpN_of_any (W.done _ _ _ hst' fun h₁ tk₁ hk₁ => ?_)
    obtain ⟨F₁, N₁⟩ := next h₁ hk₁
    rw [hin] at N₁
    exact done c m' h₁ tk₁ hJ (by rw [fr_kst2 (h := h₁) hk']; exact F₁) N₁
end
end Mine
end
section
open PySem PySem.W PyProof.Rows
set_option maxRecDepth 100000
set_option maxHeartbeats 8000000
namespace Mine
noncomputable def keep (l : List Stmt) : List Stmt := match l with
  | _ :: a :: _ :: b => match b with
    | b1 :: b2 :: b3 :: b4 :: b5 :: b6 :: b7 :: _ :: c => a :: b1 :: b2 :: b3 :: b4 :: b5 :: b6 :: b7 :: c
    | _ => []
  | _ => []
noncomputable def view : Program := { PySem.Challenge.pw_nq0080_01 with main := { PySem.Challenge.pw_nq0080_01.main with body := keep PySem.Challenge.pw_nq0080_01.main.body } }
noncomputable def fin (w : World) (os : OsState) : Option Shared := topFrom treeTable PySem.Challenge.pw_nq0080_01 w 1100 ⟨boot_heap w.params, #[], boot_drawn, boot_toks, os⟩
noncomputable def xt (s : Shared) : Bool := xlAt view [] s && recOk (RowW.records (PySem.W.OpenLaw.row PySem.Challenge.rw_nq0080_01).toRowW) s
theorem fin_ends : ∀ (w : World) (os : OsState), (fin w os).isSome = true := fun w os => by kernel_rfl
theorem fin_defs : ∀ (w : World) (os : OsState), (fin w os).map (fun s => seen ((recsOf view).map (·.name)) (ownsOf view) [] { s with gens := #[] }) = some (openGood view []).1 := fun w os => by kernel_rfl
theorem fin_blt : ∀ (w : World) (os : OsState), (fin w os).map (fun s => s.heap.bltView) = some (openGood view []).2.1 := fun w os => by kernel_rfl
theorem fin_keys : ∀ (w : World) (os : OsState), (fin w os).map (fun s => (openSeen view [] (importedModules PySem.Challenge.pw_nq0080_01.main.body) xt true s).2.2.1) = some (openGood view []).2.2.1 := fun w os => by kernel_rfl
theorem fin_rest : ∀ (w : World) (os : OsState), (fin w os).map (fun s => (openSeen view [] (importedModules PySem.Challenge.pw_nq0080_01.main.body) xt true s).2.2.2) = some (openGood view []).2.2.2 := fun w os => by kernel_rfl
theorem left_boot {α : Type} {Yf : Shared → α} {Ya : World → α} (h : ∀ (w : World) (os : OsState), (fin w os).map Yf = some (Ya w)) : LeftO PySem.Challenge.pw_nq0080_01 view [] xt Yf Ya 1100 := fun w => by
  obtain ⟨⟨h₀, gs, d, k, os⟩, e, e'⟩ := Option.map_eq_some_iff.mp (boot_open (p := PySem.Challenge.pw_nq0080_01) (N := 1100) rfl rfl (fun s => rfl) w)
  obtain ⟨rfl, rfl, rfl, rfl⟩ : h₀ = boot_heap w.params ∧ gs = #[] ∧ d = boot_drawn ∧ k = boot_toks := by simpa using e'
  obtain ⟨s₁, e₁⟩ := Option.isSome_iff_exists.mp (fin_ends w os)
  have g1 := fin_defs w os
  have g2 := fin_blt w os
  have g3 := fin_keys w os
  have g4 := fin_rest w os
  have g5 := h w os
  rw [e₁] at g1 g2 g3 g4 g5
  unfold openEnds
  rw [e]
  show (fin w os).map _ = _
  rw [e₁]
  exact congrArg some (Prod.ext (Prod.ext (Option.some.inj g1) (Prod.ext (Option.some.inj g2) (Prod.ext (Option.some.inj g3) (Option.some.inj g4)))) (Option.some.inj g5))
theorem okk : (chainsOk view && opensWell (PySem.W.OpenLaw.row PySem.Challenge.rw_nq0080_01).prog && (frees (PySem.W.OpenLaw.row PySem.Challenge.rw_nq0080_01).toRowW && (PySem.W.OpenLaw.row PySem.Challenge.rw_nq0080_01).within.isEmpty)) = true := by decide +kernel
theorem okb : (PySem.W.OpenLaw.row PySem.Challenge.rw_nq0080_01).prog.bare := ⟨rfl, rfl, rfl, rfl, rfl, by decide +kernel⟩
theorem said_part : OpenRow.partSaid (PySem.W.OpenLaw.row PySem.Challenge.rw_nq0080_01) = true := by kernel_rfl
theorem said : OpenLaw.wellSaid PySem.Challenge.rw_nq0080_01 = true := by
  unfold OpenLaw.wellSaid OpenRow.wellSaid
  repeat' (with_reducible refine look_both ?_ ?_)
  all_goals first | with_reducible exact said_part | kernel_rfl
local macro_rules | `(tactic| o_law) => `(tactic| refine holds_law said fun said => ?_)
local macro_rules | `(tactic| o_head $H) => `(tactic| (
  refine Mine.PySem.W.holds_open (r := PySem.W.OpenLaw.row PySem.Challenge.rw_nq0080_01) (q := view) (loose := []) (Xt := xt) (XP := XL view []) (Yf := Hook.obs $H) (Ya := Hook.val $H) (YP := Hook.says $H) (N := 1100) ?hl (Hook.of $H) (Hook.keeps $H) (fun s e => xl_of s (Bool.and_eq_true_iff.mp e).1) XL.keeps (by rfl) (by rfl) (by rfl) (fun s e => recFacts_of (Bool.and_eq_true_iff.mp e).2) (by rfl) (by assumption) okk okb ?hw ?hc
  case hl => exact left_boot (fun w os => by kernel_rfl)))
open_top hd for PySem.Challenge.rw_nq0080_01
end Mine
end
section
open PySem PySem.W PyProof.Rows PySem.Calls
set_option maxRecDepth 100000
set_option maxHeartbeats 8000000
namespace Mine
abbrev Keep (h h' : Heap) : Prop := ∀ b o, h.get? b = some o → h'.get? b = some o
abbrev AA (dp un : Nat) (gd : Option (List Code)) (fr : List Env) : Around := { handled := none, depth := dp, frames := some fr, guards := gd, units := un }
/-- a call of one of the text's plain defs -/
theorem enter {w : World} {A : Around} {R : Result → Shared → Prop} {s : Shared} {K : Frag} {name qual : Str} {params : Arguments} {body : List Stmt} {scope : Scope} {dV kV doc pm cdv ct oc : Value} {an od : Option Addr} {osl : Array (Option Value)} {f : Addr} {args : Args} {binds : List (Str × Value)}
    (X : K.In s.heap) (hlim : s.heap.NoLimit) (hroom : A.depth < recursionLimit)
    (ho : K.lookup f = some ⟨oc, od, .func (fnOf name qual params body scope dV kV doc pm an cdv ct), osl⟩) (hcd : codeIn K cdv qual = true)
    (hbind : BindsTo s (fnOf name qual params body scope dV kV doc pm an cdv ct) args binds) (hloc : ∀ y ∈ binds, scope.names.lookup y.1 = some .local)
    (h : ∀ h₁, Fr s.heap s.heap.objs.size h₁ (fun y => binds.reverse.lookup y) → 
      wpAny (model PySem.Challenge.rw_nq0080_01.row.prog w) (A.deeper (envOf qual scope s.heap.objs.size f cdv)) (execs body (envOf qual scope s.heap.objs.size f cdv))
        (fun fl s' => R (.ok (.ret (match fl with | .ret v => v | _ => .none))) s') (fun _ _ => False)
        { s with heap := h₁, toks := s.toks + binds.length })
    (hco : scope.isCoroutine = false) (hgen : scope.isGenerator = false) (hk : scope.kind = .function)
    (hcell : ∀ x ∈ scope.names, x.2 ≠ .cell) : codeAny (model PySem.Challenge.rw_nq0080_01.row.prog w) A (.call (.ref f) args) R s := by
  refine codeAny_call_def (fd := fnOf name qual params body scope dV kV doc pm an cdv ct) (body := body) (binds := binds) hroom (X _ _ ho) rfl hlim (codeRec_of X hcd) rfl hbind hcell hloc (fun h₁ hns hk₁ => ?_) hco hgen hk
  exact wpAny_mono (h h₁ ⟨hns, hk₁, Nat.le_refl _⟩) (fun _ _ x => x) (fun _ _ x => x.elim)
/-- what every call may lean on -/
structure Gd (w : World) (loose : List Str) (mean : ExcName → Option Value) (mg mb : Str → Option Value) (h : Heap) : Prop where
  X : (hd.heap_1 w.params).In h
  T : Top topProg loose mean mg mb h
theorem Gd.keeps {w : World} {loose : List Str} {mean : ExcName → Option Value} {mg mb : Str → Option Value} {h h' : Heap} (G : Gd w loose mean mg mb h) (k : Keep h h') : Gd w loose mean mg mb h' := ⟨G.X.keeps k, G.T.keeps k⟩
end Mine
namespace Mine
theorem fr_mv {h₀ h h' : Heap} {L : Addr} {m : Str → Option Value} (F : Fr h₀ L h m) (k : Keep h h') : Fr h₀ L h' m :=
  ⟨F.ns.keeps k, fun b o e => k _ _ (F.keep b o e), F.above⟩
theorem news_mv {h₀ h h' : Heap} {L : Addr} {news : List (Addr × Obj)} (N : News h₀ L h news) (k : Keep h h') : News h₀ L h' news :=
  fun p hp => ⟨k _ _ (N p hp).1, (N p hp).2⟩
theorem news_add {h₀ h h' : Heap} {L a : Addr} {o : Obj} {m : Str → Option Value} {news : List (Addr × Obj)} (F : Fr h₀ L h m) (N : News h₀ L h' news) (ha : h'.get? a = some o) (hn : h.objs.size ≤ a) : News h₀ L h' ((a, o) :: news) := by
  intro p hp
  rcases List.mem_cons.mp hp with rfl | hp
  · refine ⟨ha, Nat.ne_of_gt (Nat.lt_of_lt_of_le F.ns.lt hn), ?_⟩
    cases q : h₀.get? a with
    | none => rfl
    | some o' => exact absurd (Heap.lt_size (F.keep _ _ q)) (Nat.not_lt.mpr hn)
  · exact N p hp
end Mine
namespace Mine
section
variable {prog : Program} {w : World} {A : Around} {E : Value → Shared → Prop} {Q : Flow → Shared → Prop} {s : Shared} {env : Env} {h₀ : Heap} {L : Addr}
/-- a turn's end: the state is again as the word says -/
def TEnd {σ : Type} (h₀ : Heap) (L : Addr) (s : Shared) (Led : σ → List (Addr × Obj)) (ps : σ → List (Str × Value)) (P : σ → Prop) (s₂ : Shared) : Prop :=
  ∃ (c' : σ) (h' : Heap) (tk : Nat) (m' : Str → Option Value) (news' : List (Addr × Obj)), s₂ = { s with heap := h', toks := tk } ∧ Fr h₀ L h' m' ∧ News h₀ L h' news' ∧ (∀ p ∈ Led c', p ∈ news') ∧ (∀ p ∈ ps c', m' p.1 = some p.2) ∧ P c'
def TPost {σ : Type} (h₀ : Heap) (L : Addr) (s : Shared) (Led : σ → List (Addr × Obj)) (ps : σ → List (Str × Value)) (P : σ → Prop) (Q : Flow → Shared → Prop) (f : Flow) (s₂ : Shared) : Prop :=
  match f with
  | .ret v => Q (.ret v) s₂
  | .brk => Q .next s₂
  | _ => TEnd h₀ L s Led ps P s₂
theorem fr_kst {h : Heap} {ps : List (Str × Value)} {m₁ : Str → Option Value} (h1 : ∀ p ∈ ps, m₁ p.1 = some p.2) (F : Fr h₀ L h m₁) : Fr h₀ L h (kstB m₁ ps) := by
  have em : kstB m₁ ps = m₁ := funext fun y => kstB_eq h1 fun _ => rfl
  rw [em]; exact F
theorem my_while {σ : Type} {test : Expr} {body : List Stmt} {pos : Pos} {m₀ : Str → Option Value} (Led : σ → List (Addr × Obj)) (ps : σ → List (Str × Value)) (P : σ → Prop) (μ : σ → Nat) (c₀ : σ)
    (F : Fr h₀ L s.heap m₀) (N : News h₀ L s.heap (Led c₀)) (hk : ∀ p ∈ ps c₀, m₀ p.1 = some p.2) (hp : P c₀)
    (turn : ∀ (c : σ) (u : Str → Option Value) h tk, P c → Fr h₀ L h (kstB u (ps c)) → News h₀ L h (Led c) →
      wpAny (model prog w) A (isTrue test env (eval test env)) (fun b s₂ =>
        if b = true then wpAny (model prog w) A (execs body env) (TPost h₀ L s Led ps (fun c' => P c' ∧ μ c' < μ c) Q) E s₂ else Q .next s₂) E { s with heap := h, toks := tk })
    (hE : PassesOwn (model prog w) A env E := by passes_own) :
    wpAny (model prog w) A (exec (.While test body [] pos) env) Q E s := by
  refine While_inv2 (fun n m nx => ∃ c : σ, nx = Led c ∧ μ c = n ∧ (∀ p ∈ ps c, m p.1 = some p.2) ∧ P c) F N ⟨c₀, rfl, rfl, hk, hp⟩ ?_ hE
  rintro n m₁ nx h tk F₁ N₁ ⟨c, hnx, hsz, h1, hp'⟩
  rw [hnx] at N₁
  rw [← hsz]
  refine wpAny_mono (turn c m₁ h tk hp' (fr_kst h1 F₁) N₁) (fun b s₂ p => ?_) fun _ _ x => x
  cases b with
  | false => simpa using p
  | true =>
    simp only [if_true] at p ⊢
    refine wpAny_mono p (fun f s₃ q => ?_) fun _ _ x => x
    cases f with
    | ret v => exact q
    | brk => exact q
    | next =>
      obtain ⟨c', h', tk', m', news', rfl, F', N', hn, hk9, hp9, hm9⟩ := q
      exact ⟨h', tk', m', Led c', μ c', rfl, F', fun p hp => N' p (hn p hp), hm9, c', rfl, rfl, hk9, hp9⟩
    | cont =>
      obtain ⟨c', h', tk', m', news', rfl, F', N', hn, hk9, hp9, hm9⟩ := q
      exact ⟨h', tk', m', Led c', μ c', rfl, F', fun p hp => N' p (hn p hp), hm9, c', rfl, rfl, hk9, hp9⟩
theorem tend {σ : Type} {Led : σ → List (Addr × Obj)} {ps : σ → List (Str × Value)} {P : σ → Prop} {m' : Str → Option Value} {h' : Heap} {tk : Nat} {news' : List (Addr × Obj)} (c' : σ)
    (F : Fr h₀ L h' m') (N : News h₀ L h' news') (hn : ∀ p ∈ Led c', p ∈ news') (hk : ∀ p ∈ ps c', m' p.1 = some p.2) (hp : P c') :
    TEnd h₀ L s Led ps P { s with heap := h', toks := tk } := ⟨c', h', tk, m', news', rfl, F, N, hn, hk, hp⟩
end
end Mine
namespace Mine
theorem news_put {h₀ h h' : Heap} {L a : Addr} {o : Obj} {m : Str → Option Value} {news : List (Addr × Obj)} (F : Fr h₀ L h m) (N : News h₀ L h' news) (ha : h'.get? a = some o) (hn : h.get? a = none) : News h₀ L h' ((a, o) :: news) := by
  intro p hp
  rcases List.mem_cons.mp hp with rfl | hp
  · refine ⟨ha, fun e => ?_, ?_⟩
    · obtain ⟨oL, _, _, hL, _⟩ := F.ns
      have e : a = L := e
      rw [e, hL] at hn; cases hn
    · cases q : h₀.get? a with
      | none => rfl
      | some o' => have := F.keep _ _ q; rw [hn] at this; cases this
  · exact N p hp
theorem fresh_ne {h₀ h : Heap} {L a : Addr} {news : List (Addr × Obj)} (N : News h₀ L h news) (hn : h.get? a = none) : ∀ p ∈ news, p.1 ≠ a := fun p hp e => by
  have := (N p hp).1
  rw [e, hn] at this; cases this
end Mine
end
section
open PySem PySem.W PyProof.Rows PySem.Calls
set_option maxRecDepth 100000
set_option maxHeartbeats 8000000
namespace Mine
abbrev st (l : List Nat) : Str := ⟨l.toArray⟩
theorem st_len (l : List Nat) : (st l).length = l.length := by simp [st, Str.length]
theorem st_add (a b : List Nat) : st a ++ st b = st (a ++ b) := by
  apply Str.ext'
  rw [Str.cps_append]; simp [st]
open StrLaws in
theorem sl_eq (x : Str) (l u : Option Int) : Txt.slice x l u = sliceText x l u := rfl
open Builtin.Str in
theorem idx_hi_clip {l : Option Int} {j : Int} (n : Nat) (h0 : 0 ≤ j) : strSliceIndices l (some j) 1 n = strSliceIndices l (some (min j n)) 1 n := by
  have a1 : ¬ j < 0 := by lia
  have a2 : ¬ min j (n : Int) < 0 := by lia
  have a3 : min (min j (n : Int)) n = min j n := by lia
  simp [strSliceIndices, a1, a2, a3]
open Builtin.Str in
theorem idx_lo_clip {u : Option Int} {i : Int} (n : Nat) (h0 : 0 ≤ i) : strSliceIndices (some i) u 1 n = strSliceIndices (some (min i n)) u 1 n := by
  have a1 : ¬ i < 0 := by lia
  have a2 : ¬ min i (n : Int) < 0 := by lia
  have a3 : min (min i (n : Int)) n = min i n := by lia
  simp [strSliceIndices, a1, a2, a3]
open Builtin.Str in
theorem idx_lo_neg {u : Option Int} {i : Int} (n : Nat) (h0 : i < 0) : strSliceIndices (some i) u 1 n = strSliceIndices (some (max 0 (i + n))) u 1 n := by
  have a2 : ¬ max 0 (i + (n : Int)) < 0 := by lia
  have a3 : max 0 (min (i + (n : Int)) n) = max 0 (min (max 0 (i + (n : Int))) n) := by lia
  simp [strSliceIndices, h0, a2, a3]
open StrLaws in
theorem slice_to {l : List Nat} {j : Int} (h : 0 ≤ j) : Txt.slice (st l) none (some j) = st (l.take j.toNat) := by
  rw [sl_eq]
  have e : sliceText (st l) none (some j) = sliceText (st l) none (some (min j (st l).length)) := by unfold sliceText; rw [idx_hi_clip _ h]
  rw [e, sliceText_to ⟨by lia, by rw [st_len]; simp [st]; lia⟩, st_len]
  simp only [st, List.drop_zero, Int.sub_zero]
  congr 2
  rcases Int.le_total j l.length with q | q
  · rw [Int.min_eq_left q]
  · rw [Int.min_eq_right q, Int.toNat_natCast, List.take_length, List.take_of_length_le (by lia)]
open StrLaws in
theorem slice_from {l : List Nat} {i : Int} (h : 0 ≤ i) : Txt.slice (st l) (some i) none = st (l.drop i.toNat) := by
  rw [sl_eq]
  have e : sliceText (st l) (some i) none = sliceText (st l) (some (min i (st l).length)) none := by unfold sliceText; rw [idx_lo_clip _ h]
  rw [e, sliceText_from ⟨by lia, by rw [st_len]; simp [st]; lia⟩, st_len]
  simp only [st]
  congr 2
  rcases Int.le_total i l.length with q | q
  · rw [Int.min_eq_left q, List.take_of_length_le (by simp; lia)]
  · rw [Int.min_eq_right q, Int.toNat_natCast, List.drop_length, List.drop_of_length_le (by lia)]; simp
open StrLaws in
theorem slice_last {l : List Nat} {i : Int} (h : i < 0) : Txt.slice (st l) (some i) none = st (l.drop (l.length - (-i).toNat)) := by
  rw [sl_eq]
  have e : sliceText (st l) (some i) none = sliceText (st l) (some (max 0 (i + (st l).length))) none := by unfold sliceText; rw [idx_lo_neg _ h]
  rw [e, ← sl_eq, slice_from (by lia), st_len, show (max 0 (i + (l.length : Int))).toNat = l.length - (-i).toNat by lia]
section
variable {prog : Program} {w : World} {A : Around} {E : Value → Shared → Prop} {s : Shared} {t u : Tok} {Q : Value → Shared → Prop} {a b : List Nat}
theorem len_st (hl : a.length ≤ 100000) (h : ∀ t k, Q (.int (a.length : Int) t) { s with toks := k }) : wpAny (model prog w) A (call (.builtin "len") [.str (st a) t]) Q E s := by
  refine P.len_str (by rw [st_len]; lia) ?_
  rw [st_len]; exact h _ _
theorem add_st (hl : a.length + b.length ≤ 100000) (h : ∀ t k, Q (.str (st (a ++ b)) t) { s with toks := k }) : wpAny (model prog w) A (binaryOp .Add (.str (st a) t) (.str (st b) u)) Q E s := by
  refine SB.add (fun t' k => ?_) (by rw [st_len, st_len]; show _ ≤ 2 ^ 24; lia)
  rw [st_add]; exact h _ _
theorem eq_st (h : Q (.bool (a == b)) s) : wpAny (model prog w) A (compareOp .Eq (.str (st a) t) (.str (st b) u)) Q E s := P.eq_str h
theorem ne_st (h : Q (.bool (a != b)) s) : wpAny (model prog w) A (compareOp .NotEq (.str (st a) t) (.str (st b) u)) Q E s := P.ne_str h
theorem chr_st {i : Int} (h0 : 0 ≤ i) (h1 : i ≤ 1114111) (h : ∀ t k, Q (.str (st [i.toNat]) t) { s with toks := k }) : wpAny (model prog w) A (call (.builtin "chr") [.int i t]) Q E s := chr_of_range h0 h1 (h _ _)
variable {h₀ : Heap} {L : Addr} {m : Str → Option Value} {news : List (Addr × Obj)} {value slice : Expr}
theorem cut_to {j : Int} {uj : Tok} (h0 : 0 ≤ j) (hsz : a.length ≤ 100000) (hF : Fr h₀ L s.heap m) (hN : News h₀ L s.heap news) (h : ∀ h' t' k, Fr h₀ L h' m → News h₀ L h' news → Q (.str (st (a.take j.toNat)) t') { s with heap := h', toks := k })
    (hs : subscripted slice false (.str (st a) t) (.ref s.heap.objs.size) = operate [.ref s.heap.objs.size, .str (st a) t] (getItem (.str (st a) t) (.ref s.heap.objs.size)) := by with_unfolding_all rfl)
    (ht : ∀ r, letTemporaryGo value (.str (st a) t) r = pure () := by intro _; with_unfolding_all rfl) :
    wpAny (model prog w) A (subscriptTail value slice (.str (st a) t) (.ref s.heap.objs.size)) Q E { s with heap := s.heap.push { cls := .type "slice", data := .fields #[.none, .int j uj, .none] } } :=
  slice_strN_ns hF hN (fun h' t' k x y => by rw [slice_to h0]; exact h h' t' k x y) hs ht (by rw [st_len]; show _ ≤ 2 ^ 24; lia)
theorem cut_from {j : Int} {uj : Tok} (h0 : 0 ≤ j) (hsz : a.length ≤ 100000) (hF : Fr h₀ L s.heap m) (hN : News h₀ L s.heap news) (h : ∀ h' t' k, Fr h₀ L h' m → News h₀ L h' news → Q (.str (st (a.drop j.toNat)) t') { s with heap := h', toks := k })
    (hs : subscripted slice false (.str (st a) t) (.ref s.heap.objs.size) = operate [.ref s.heap.objs.size, .str (st a) t] (getItem (.str (st a) t) (.ref s.heap.objs.size)) := by with_unfolding_all rfl)
    (ht : ∀ r, letTemporaryGo value (.str (st a) t) r = pure () := by intro _; with_unfolding_all rfl) :
    wpAny (model prog w) A (subscriptTail value slice (.str (st a) t) (.ref s.heap.objs.size)) Q E { s with heap := s.heap.push { cls := .type "slice", data := .fields #[.int j uj, .none, .none] } } :=
  slice_strN_sn hF hN (fun h' t' k x y => by rw [slice_from h0]; exact h h' t' k x y) hs ht (by rw [st_len]; show _ ≤ 2 ^ 24; lia)
theorem cut_last {j : Int} {uj : Tok} (h0 : j < 0) (hsz : a.length ≤ 100000) (hF : Fr h₀ L s.heap m) (hN : News h₀ L s.heap news) (h : ∀ h' t' k, Fr h₀ L h' m → News h₀ L h' news → Q (.str (st (a.drop (a.length - (-j).toNat))) t') { s with heap := h', toks := k })
    (hs : subscripted slice false (.str (st a) t) (.ref s.heap.objs.size) = operate [.ref s.heap.objs.size, .str (st a) t] (getItem (.str (st a) t) (.ref s.heap.objs.size)) := by with_unfolding_all rfl)
    (ht : ∀ r, letTemporaryGo value (.str (st a) t) r = pure () := by intro _; with_unfolding_all rfl) :
    wpAny (model prog w) A (subscriptTail value slice (.str (st a) t) (.ref s.heap.objs.size)) Q E { s with heap := s.heap.push { cls := .type "slice", data := .fields #[.int j uj, .none, .none] } } :=
  slice_strN_sn hF hN (fun h' t' k x y => by rw [slice_last h0]; exact h h' t' k x y) hs ht (by rw [st_len]; show _ ≤ 2 ^ 24; lia)
end
end Mine
end
section
open PySem PySem.W PyProof.Rows PySem.Calls
set_option maxRecDepth 100000
set_option maxHeartbeats 8000000
namespace Mine
/-- a code table: whatever stands in it is a code record of the one name -/
def Tab (P : Addr) (q : Str) (h : Heap) : Prop := ∃ ps, h.get? P = some (tabObj ps) ∧ TriplesOk ps.toList ∧ ∀ pos cv, codeAmong pos ps.toList = some cv → h.CodeRec cv q
theorem Tab.keeps {P : Addr} {q : Str} {h h' : Heap} (t : Tab P q h) (k : Keep h h') : Tab P q h' :=
  let ⟨ps, a, b, c⟩ := t; ⟨ps, k _ _ a, b, fun pos cv e => (c pos cv e).keeps k⟩
theorem Tab.start {P : Addr} {q : Str} {h : Heap} (e : h.get? P = some (tabObj #[])) : Tab P q h := ⟨#[], e, trivial, fun _ _ e => by cases e⟩
theorem among_snoc {pos : Pos} {a b : Int} {c cv : Value} (l : List Value) (h : TriplesOk l) (e : codeAmong pos (l ++ [rawInt a, rawInt b, c]) = some cv) : codeAmong pos l = some cv ∨ cv = c := by
  fun_induction TriplesOk l with
  | case1 =>
    simp only [List.nil_append, rawInt, codeAmong] at e
    split at e
    · cases e; exact .inr rfl
    · cases e
  | case2 a' t b' u x rest ih =>
    simp only [List.cons_append, codeAmong] at e ⊢
    split at e
    · rename_i hc; rw [if_pos hc]; exact .inl e
    · rename_i hc; rw [if_neg hc]; exact ih h e
  | case3 l h1 h2 => exact h.elim
/-- all but the one table is kept -/
abbrev KeepB (P : Addr) (h h' : Heap) : Prop := ∀ b o, b ≠ P → h.get? b = some o → h'.get? b = some o
theorem rec_keepB {P : Addr} {ps : Array Value} {cv : Value} {q : Str} {h h' : Heap} (hP : h.get? P = some (tabObj ps)) (t : TriplesOk ps.toList) (x : h.CodeRec cv q) (k : KeepB P h h') : h'.CodeRec cv q := by
  obtain ⟨c, o, vs, t', e, g, d, v⟩ := x
  refine ⟨c, o, vs, t', e, k _ _ (fun e2 => ?_) g, d, v⟩
  subst e2
  rw [hP] at g; cases g
  cases d
  cases hl : ps.toList with
  | nil =>
    have h0 : ps.size = 0 := by rw [← Array.length_toList, hl]; rfl
    simp [Array.getElem?_eq_none (show ps.size ≤ 1 by omega)] at v
  | cons a r =>
    have h1 : ps.toList[1]? = some (.str q t') := by rw [Array.getElem?_toList]; exact v
    rw [hl] at t h1
    cases r with
    | nil => simp at h1
    | cons b r' =>
      simp at h1; subst h1
      cases a <;> simp [TriplesOk] at t
section
variable {M : Model} {A : Around} {E : Value → Shared → Prop} {s : Shared} {name qual : Str} {params : Arguments} {scope : Scope} {env : Env} {c P : Addr} {pos : Pos} {firstLine : Nat} {mg : Str → Option Value}
  {clos : List (Str × Addr)} {Q : Value → Shared → Prop}
theorem mk_def {body : List Stmt} (hcl : closureFor scope env = pure clos) (hge0 : env.globals = mainGlobals) (hg : s.heap.Ns mainGlobals mg) (hcode : env.code = .ref c) (C : CodeHd s.heap c P) (Tb : Tab P qual s.heap) (hgP : mainGlobals ≠ P) (hb : s.heap.BuiltinsAt mg P)
    (h : ∀ f cv ctv doc h' tk, KeepB P s.heap h' → Tab P qual h' → s.heap.get? f = none → f ≠ P → f < h'.objs.size → h'.get? f = some { cls := .type "function", data := .func (fnX name qual params body scope clos .none .none doc ((mg "__name__").getD .none) none cv ctv) } → h'.CodeRec cv qual →
      Q (.ref f) { s with heap := h', toks := tk }) :
    wpAny M A (makeFunction name qual params (.stmts body) scope env [] [] [] pos firstLine) Q E s := by
  obtain ⟨ps, hP, ht, hall⟩ := Tb
  cases hq : codeAmong pos ps.toList with
  | some cv =>
    refine makeFunction_hit hcl hge0 hg hcode C hP ht hq hb fun ctv doc h' tk hk hsz => ?_
    have kk : Keep s.heap (h'.push { cls := .type "function", data := .func (fnX name qual params body scope clos .none .none doc ((mg "__name__").getD .none) none cv ctv) }) := fun b o e => Heap.get?_push_of_some _ (hk b o e)
    exact h _ cv ctv doc _ tk (fun b o _ e => kk b o e) (Tab.keeps ⟨ps, hP, ht, hall⟩ kk) (Heap.get?_none_of_le hsz) (Nat.ne_of_gt (Nat.lt_of_lt_of_le (Heap.lt_size hP) hsz)) (Heap.lt_size (Heap.get?_push_size _ rfl)) (Heap.get?_push_size _ rfl) ((hall _ _ hq).keeps kk)
  | none =>
    refine makeFunction_K hcl hge0 hg hcode C hP ht hq hgP hb fun c' ctv doc h' tk hx hge hlt hrec htb => ?_
    have hsz : s.heap.objs.size ≤ h'.objs.size := Nat.le_of_lt (Nat.lt_of_le_of_lt hge hlt)
    have kp : Keep h' (h'.push (fnMade name qual params body scope clos doc ((mg "__name__").getD .none) c' ctv)) := fun b o e => Heap.get?_push_of_some _ e
    refine h _ (.ref c') ctv doc _ tk (fun b o hb e => kp b o (hx b o hb e)) ⟨_, kp _ _ htb, ?_, fun pos cv e => ?_⟩ (Heap.get?_none_of_le hsz) (Nat.ne_of_gt (Nat.lt_of_lt_of_le (Heap.lt_size hP) hsz)) (Heap.lt_size (Heap.get?_push_size _ rfl)) (Heap.get?_push_size _ rfl) (hrec.keeps kp)
    · rw [Array.toList_append]; exact TriplesOk_snoc _ _ _ _ ht
    · rw [Array.toList_append] at e
      rcases among_snoc _ ht e with e | rfl
      · exact rec_keepB hP ht (hall _ _ e) fun b o hb e => kp b o (hx b o hb e)
      · exact hrec.keeps kp
theorem mk_lam {body : Expr} (hcl : closureFor scope env = pure clos) (hge0 : env.globals = mainGlobals) (hg : s.heap.Ns mainGlobals mg) (hcode : env.code = .ref c) (C : CodeHd s.heap c P) (Tb : Tab P qual s.heap) (hgP : mainGlobals ≠ P) (hb : s.heap.BuiltinsAt mg P)
    (h : ∀ f cv ctv h' tk, KeepB P s.heap h' → Tab P qual h' → s.heap.get? f = none → f ≠ P → f < h'.objs.size → h'.get? f = some { cls := .type "function", data := .func (kla_fn name qual params body scope clos ((mg "__name__").getD .none) cv ctv) } → h'.CodeRec cv qual →
      Q (.ref f) { s with heap := h', toks := tk }) :
    wpAny M A (makeFunction name qual params (.expr body) scope env [] [] [] pos firstLine) Q E s := by
  obtain ⟨ps, hP, ht, hall⟩ := Tb
  cases hq : codeAmong pos ps.toList with
  | some cv =>
    refine kla_makeFunctionHit hcl hge0 hg hcode C hP ht hq hb fun ctv h' tk hk hsz => ?_
    have kk : Keep s.heap (h'.push { cls := .type "function", data := .func (kla_fn name qual params body scope clos ((mg "__name__").getD .none) cv ctv) }) := fun b o e => Heap.get?_push_of_some _ (hk b o e)
    exact h _ cv ctv _ tk (fun b o _ e => kk b o e) (Tab.keeps ⟨ps, hP, ht, hall⟩ kk) (Heap.get?_none_of_le hsz) (Nat.ne_of_gt (Nat.lt_of_lt_of_le (Heap.lt_size hP) hsz)) (Heap.lt_size (Heap.get?_push_size _ rfl)) (Heap.get?_push_size _ rfl) ((hall _ _ hq).keeps kk)
  | none =>
    refine kla_makeFunction hcl hge0 hg hcode C hP ht hq hgP hb fun c' ctv h' tk hx hge hlt hrec htb => ?_
    have hsz : s.heap.objs.size ≤ h'.objs.size := Nat.le_of_lt (Nat.lt_of_le_of_lt hge hlt)
    have kp : Keep h' (h'.push (kla_obj name qual params body scope clos ((mg "__name__").getD .none) c' ctv)) := fun b o e => Heap.get?_push_of_some _ e
    refine h _ (.ref c') ctv _ tk (fun b o hb e => kp b o (hx b o hb e)) ⟨_, kp _ _ htb, ?_, fun pos cv e => ?_⟩ (Heap.get?_none_of_le hsz) (Nat.ne_of_gt (Nat.lt_of_lt_of_le (Heap.lt_size hP) hsz)) (Heap.lt_size (Heap.get?_push_size _ rfl)) (Heap.get?_push_size _ rfl) (hrec.keeps kp)
    · rw [Array.toList_append]; exact TriplesOk_snoc _ _ _ _ ht
    · rw [Array.toList_append] at e
      rcases among_snoc _ ht e with e | rfl
      · exact rec_keepB hP ht (hall _ _ e) fun b o hb e => kp b o (hx b o hb e)
      · exact hrec.keeps kp
end
end Mine
end
section
open PySem PySem.W PyProof.Rows PySem.Calls
open Builtin Builtin.ObjectAttr
set_option maxRecDepth 100000
set_option maxHeartbeats 8000000
namespace Mine
theorem slot_fn_sa : Slot "function" "__setattr__" "object.__setattr__" :=
  .of (owner := "object") (n := "__setattr__") (by rw [typeLookup_type, builtinLookup_eq_fast]; kernel_rfl) (by decide +kernel) (by decide +kernel) (by decide +kernel)
    (by first | exact .inl (by decide +kernel) | exact .inr (by decide +kernel)) (by rw [isSubtype_type]; kernel_rfl)
theorem slot_fn_ga : Slot "function" "__getattribute__" "object.__getattribute__" :=
  .of (owner := "object") (n := "__getattribute__") (by rw [typeLookup_type, builtinLookup_eq_fast]; kernel_rfl) (by decide +kernel) (by decide +kernel) (by decide +kernel)
    (by first | exact .inl (by decide +kernel) | exact .inr (by decide +kernel)) (by rw [isSubtype_type]; kernel_rfl)
theorem entry_ga : entryFor table "object.__getattribute__" = some Builtin.«object.__getattribute__» := entryFor_of_tree (by kernel_rfl)
theorem entry_sa : entryFor table "object.__setattr__" = some Builtin.«object.__setattr__» := entryFor_of_tree (by kernel_rfl)
theorem args_sa (a b c : Value) : argsOk "object.__setattr__" ⟨[a, b, c], []⟩ := by unfold argsOk; kernel_rfl
theorem args_ga (a b : Value) : argsOk "object.__getattribute__" ⟨[a, b], []⟩ := by unfold argsOk; kernel_rfl
theorem fn_no_getattr : typeLookup (.type "function") "__getattr__" = pure none := by rw [typeLookup_type, builtinLookup_eq_fast]; kernel_rfl
theorem fn_no_tag : typeLookup (.type "function") "tag" = pure none := by rw [typeLookup_type, builtinLookup_eq_fast]; kernel_rfl
theorem fn_no_place : typeLookup (.type "function") "place" = pure none := by rw [typeLookup_type, builtinLookup_eq_fast]; kernel_rfl
theorem fn_mro : mroOf (.type "function") = pure [.type "function", .type "object"] := by kernel_rfl
theorem fn_pass (self : Value) : refuseLoop self "__setattr__" [.type "function", .type "object"] = pure () := by kernel_rfl
theorem fn_hasdict : typeHasDict (.type "function") = true := by decide +kernel
/-- a function object whose own dict says mA -/
def FnAt (h : Heap) (x : Addr) (dd : Option Addr) (mA : Str → Option Value) : Prop :=
  ∃ fd sl, h.get? x = some { cls := .type "function", dict := dd, data := .func fd, slots := sl } ∧ ((dd = none ∧ ∀ n, mA n = none) ∨ ∃ d, dd = some d ∧ d ≠ x ∧ h.Ns1 d mA)
section
variable {prog : Program} {w : World} {A : Around} {E : Value → Shared → Prop} {h : Heap} {g : Array GenState} {d : Drawn} {t : Nat} {os : OsState} {x : Addr} {dd : Option Addr} {mA : Str → Option Value} {name : Str} {v : Value}
theorem fn_store_entry {tk : Tok} {Q : PySem.Fin → Shared → Prop} {ns : List Str} (hB : typeLookup (.type "function") name = pure none) (I : FnAt h x dd mA)
    (hq : ∀ h' tk' d', FnAt h' x (some d') (fun y => if y = name then some v else mA y) → (dd = some d' ∨ dd = none ∧ h.get? d' = none) → (∀ b o, b ≠ x → b ≠ d' → h.get? b = some o → h'.get? b = some o) → Q (.done (.ret .none)) ⟨h', g, d, tk', os⟩) (hw : PySem.Within mA ns) (hsz : ns.length + 1 ≤ sizeLine) :
    wpAny (model prog w) A (Builtin.«object.__setattr__» ⟨[.ref x, .str name tk, v], []⟩) Q E ⟨h, g, d, t, os⟩ := by
  obtain ⟨fd, sl, hx, hd⟩ := I
  have hpass := fn_pass (.ref x)
  have hm := fn_mro
  have hT : (⟨h, g, d, t, os⟩ : Shared).TypeIs (.ref x) "function" := ⟨_, hx, rfl⟩
  unfold Builtin.«object.__setattr__»
  repeat (first | rw [refuse_eq] | rw [hm] | (rw [hpass]) | (with_reducible refine wpAny_loadPart_at hx ?_) | rw [hB] | wp_step)
  rcases hd with ⟨rfl, hmA⟩ | ⟨dx, rfl, hne, hns⟩
  · dsimp only
    rw [fn_hasdict, if_neg (by simp)]
    have hx₁ := Heap.get?_push_of_some { cls := .type "dict", data := .dict #[] } hx
    have hxs : x ≠ h.objs.size := Nat.ne_of_lt (Heap.lt_size hx)
    refine wpAny_bind (wpAny_alloc' ?_)
    refine wpAny_bind (wpAny_update' hx₁ ?_)
    have hfin : finalisedInACycleAlone "function" = false := by decide +kernel
    unfold dictMade
    dsimp only
    rw [hfin]
    refine wpAny_pure ?_
    have hgd : ((h.push { cls := .type "dict", data := .dict #[] }).update x fun o => { cls := o.cls, dict := some h.objs.size, data := o.data, slots := o.slots }).get? h.objs.size
        = some { cls := .type "dict", data := .dict #[] } :=
      (Heap.get?_update_ne _ _ _ _ hxs.symm).trans (Heap.get?_push_at rfl rfl)
    have hnd : ((h.push { cls := .type "dict", data := .dict #[] }).update x fun o => { cls := o.cls, dict := some h.objs.size, data := o.data, slots := o.slots }).Ns h.objs.size (fun _ => none) :=
      ⟨_, #[], _, hgd, rfl, fun e he => absurd he (by simp), fun _ => rfl⟩
    show wpAny _ _ (storeInDict h.objs.size (.str name tk) name v) _ _ _
    unfold storeInDict newKeyGuard
    refine wpAny_bind (wpAny_pure (wpAny_bind (wpAny_nsSet1 (Heap.Ns1.of_empty hnd) fun h' hn' hs => ?_)))
    obtain ⟨oD, esD, epD, hoD, hdD, hcD⟩ := hn'.count (Within.cons name v Within.nil)
    refine wpAny_bind (wpAny_lookBehind hoD (by rw [hdD]; exact pastItsLine_dict (Nat.le_trans hcD (by rw [List.length_cons, List.length_nil, sizeLine_eq]; omega))) ?_)
    wp_walk
    have hx' : h'.get? x = some { cls := .type "function", dict := some h.objs.size, data := .func fd, slots := sl } := (hs.2 x hxs).trans (Heap.get?_update_self _ hx₁ rfl)
    refine hq h' _ h.objs.size ⟨fd, sl, hx', .inr ⟨h.objs.size, rfl, hxs.symm, ?_⟩⟩ (.inr ⟨rfl, Heap.get?_none_of_le (Nat.le_refl _)⟩) (fun b ob hbx hbd hb => ?_)
    · obtain ⟨o', es, ep, e1, e2, e3, eu, e4⟩ := hn'
      exact ⟨o', es, ep, e1, e2, e3, eu, fun y => by rw [e4 y]; by_cases hy : y = name <;> simp [hy, hmA]⟩
    · exact (hs.2 b (Nat.ne_of_lt (Heap.lt_size hb))).trans ((Heap.get?_update_ne _ _ _ _ hbx).trans (Heap.get?_push_of_some _ hb))
  · dsimp only
    refine wpAny_pure ?_
    show wpAny _ _ (storeInDict dx (.str name tk) name v) _ _ _
    unfold storeInDict newKeyGuard
    refine wpAny_bind (wpAny_pure (wpAny_bind (wpAny_nsSet1 hns fun h' hn' hs => ?_)))
    obtain ⟨oD, esD, epD, hoD, hdD, hcD⟩ := hn'.count (Within.cons name v hw)
    refine wpAny_bind (wpAny_lookBehind hoD (by rw [hdD]; exact pastItsLine_dict (Nat.le_trans hcD (by rw [List.length_cons]; omega))) ?_)
    wp_walk
    exact hq h' _ dx ⟨fd, sl, (hs.2 x hne.symm).trans hx, .inr ⟨dx, rfl, hne, hn'⟩⟩ (.inl rfl) fun b ob _ hbd hb => (hs.2 b hbd).trans hb
theorem fn_store {Q : Unit → Shared → Prop} {ns : List Str} (hB : typeLookup (.type "function") name = pure none) (I : FnAt h x dd mA)
    (hq : ∀ h' tk' d', FnAt h' x (some d') (fun y => if y = name then some v else mA y) → (dd = some d' ∨ dd = none ∧ h.get? d' = none) → (∀ b o, b ≠ x → b ≠ d' → h.get? b = some o → h'.get? b = some o) → Q () ⟨h', g, d, tk', os⟩) (hw : PySem.Within mA ns) (hsz : ns.length + 1 ≤ sizeLine) :
    wpAny (model prog w) A (setAttr (.ref x) name v) Q E ⟨h, g, d, t, os⟩ := by
  obtain ⟨fd, sl, hx, _⟩ := id I
  have hT : ∀ tk', (⟨h, g, d, tk', os⟩ : Shared).TypeIs (.ref x) "function" := fun _ => ⟨_, hx, rfl⟩
  have f3 := slot_fn_sa.bind (.ref x)
  have f4 := slot_fn_sa.lookup
  unfold setAttr callSpecial? specialOf
  repeat (any_goals (first | assumption | (with_reducible refine wpAny_loadPart_at hx ?_) | rw [f4] | wp_step))
  refine codeAny_call_builtin slot_fn_sa.plain entry_sa (slot_fn_sa.check _ _ _ _ _ _ _ _ (hT _) (args_sa _ _ _) (fn_store_entry hB I (fun h' tk' d' a b c => ?_) hw hsz))
  repeat (any_goals (first | assumption | wp_step))
  exact hq h' tk' d' a b c
theorem fn_load {expr : Bool} {Q : Value → Shared → Prop} (hB : typeLookup (.type "function") name = pure none) (I : FnAt h x dd mA) (hv : mA name = some v) (hh : handedOut v = pure v) (hq : Q v ⟨h, g, d, t + 1, os⟩) :
    wpAny (model prog w) A (getAttr (.ref x) name expr) Q E ⟨h, g, d, t, os⟩ := by
  obtain ⟨fd, sl, hx, hd⟩ := id I
  have f3 := slot_fn_ga.bind (.ref x)
  have f4 := slot_fn_ga.lookup
  have f5 := fn_no_getattr
  unfold getAttr getAttrBy
  repeat (any_goals (first | assumption | (with_reducible refine wpAny_loadPart_at hx ?_) | rw [f4] | rw [f5] | wp_step))
  rw [if_neg (by simp [onTheHeap])]
  unfold boundAndCalled
  rw [f3]
  refine wpAny_bind (wpAny_pure ?_)
  refine wpAny_call_entry slot_fn_ga ⟨_, hx, rfl⟩ entry_ga ?_ (args_ga _ _)
  rcases hd with ⟨_, hmA⟩ | ⟨dx, rfl, hne, hns⟩
  · rw [hmA name] at hv; cases hv
  unfold Builtin.«object.__getattribute__»
  repeat (any_goals (first | assumption | (with_reducible refine wpAny_loadPart_at hx ?_) | rw [hB] | (with_reducible refine wpAny_nsGet hns.ns ?_; rw [hv]) | wp_step))
  refine ⟨v, rfl, ?_⟩
  show wpAny _ _ (handedOut v) _ _ _
  rw [hh]; exact wpAny_pure hq
end
theorem FnAt.keeps {h h' : Heap} {x : Addr} {dd : Option Addr} {mA : Str → Option Value} (I : FnAt h x dd mA) (k : Keep h h') : FnAt h' x dd mA := by
  obtain ⟨fd, sl, hx, hd⟩ := I
  refine ⟨fd, sl, k _ _ hx, hd.imp id ?_⟩
  rintro ⟨d, e, hne, o, es, ep, e1, r⟩
  exact ⟨d, e, hne, o, es, ep, k _ _ e1, r⟩
/-- a thing of the law's row -/
def Thing (h : Heap) (a : Addr) (tag place : Value) : Prop := ∃ dd mA, FnAt h a dd mA ∧ mA "tag" = some tag ∧ mA "place" = some place
theorem Thing.keeps {h h' : Heap} {a : Addr} {tag place : Value} (I : Thing h a tag place) (k : Keep h h') : Thing h' a tag place := by
  obtain ⟨dd, mA, i, r⟩ := I
  exact ⟨dd, mA, i.keeps k, r⟩
theorem FnAt.keepB {P : Addr} {ps : Array Value} {h h' : Heap} {x : Addr} {dd : Option Addr} {mA : Str → Option Value} (hP : h.get? P = some (tabObj ps)) (I : FnAt h x dd mA) (k : ∀ b o, b ≠ P → h.get? b = some o → h'.get? b = some o) : FnAt h' x dd mA := by
  obtain ⟨fd, sl, hx, hd⟩ := I
  refine ⟨fd, sl, k _ _ (fun e => by rw [e, hP] at hx; cases hx) hx, hd.imp id ?_⟩
  rintro ⟨d, e, hne, o, es, ep, e1, e2, r⟩
  exact ⟨d, e, hne, o, es, ep, k _ _ (fun e => by rw [e, hP] at e1; cases e1; cases e2) e1, e2, r⟩
end Mine
end
section
open PySem PySem.W PyProof.Rows PySem.Calls
open Builtin
set_option maxRecDepth 100000
set_option maxHeartbeats 8000000
namespace Mine
theorem mro_slice : mroOf (.type "slice") = pure [.type "slice", .type "object"] := by rw [mroOf_type]; kernel_rfl
theorem lookup_slice_new : typeLookup (.type "slice") "__new__" = pure (some (.builtin "slice.__new__")) := by rw [typeLookup_type, builtinLookup_eq_fast]; kernel_rfl
theorem slot_slice_init : Slot "slice" "__init__" "object.__init__" :=
  .of (owner := "object") (n := "__init__") (by rw [typeLookup_type, builtinLookup_eq_fast]; kernel_rfl) (by decide +kernel) (by decide +kernel) (by decide +kernel)
    (by first | exact .inl (by decide +kernel) | exact .inr (by decide +kernel)) (by rw [isSubtype_type]; kernel_rfl)
theorem called_slice : TypeCalled "slice" "slice.__new__" "object.__init__" :=
  ⟨by decide +kernel, by decide +kernel, ⟨_, _, mro_slice⟩, madeBy_type mro_slice lookup_slice_new (by decide +kernel), by decide +kernel, by rw [isSubtype_type]; kernel_rfl, slot_slice_init⟩
theorem typeCall_slice_2 (a b : Value) : checkTypeCall "slice" ⟨[a, b], []⟩ = pure () := by kernel_rfl
theorem newCall_slice_2 (a b : Value) : checkBuiltinCall "slice.__new__" ⟨[.type "slice", a, b], []⟩ = pure () := by kernel_rfl
theorem entry_slice_new : entryFor table "slice.__new__" = some Builtin.«slice.__new__» := entryFor_of_tree (by kernel_rfl)
theorem initArgs_slice (obj a b : Value) : argsOk "object.__init__" ⟨[obj, a, b], []⟩ := by unfold argsOk; kernel_rfl
abbrev sliceObj (a b : Value) : Obj := { cls := .type "slice", data := .fields #[a, b, .none] }
theorem slice_new_meets (a b : Value) : Meets (Builtin.«slice.__new__» ⟨[.type "slice", a, b], []⟩) (fun _ R s => R (.ok (.ret (.ref s.heap.objs.size))) { s with heap := s.heap.push (sliceObj a b) }) := by
  refine Meets.of_wp fun prog w A R s hs => ?_
  have hsub := called_slice.sub
  unfold Builtin.«slice.__new__»
  repeat (any_goals (first | assumption | wp_step))
  exact ⟨_, rfl, hs⟩
theorem call_slice {prog : Program} {w : World} {A : Around} {E : Value → Shared → Prop} {s : Shared} {a b : Value} {Q : Value → Shared → Prop}
    (h : Q (.ref s.heap.objs.size) { s with heap := s.heap.push (sliceObj a b) }) : wpAny (model prog w) A (call (.type "slice") [a, b]) Q E s :=
  callType_new called_slice (by decide +kernel) (typeCall_slice_2 a b) (newCall_slice_2 a b) (fun o => initArgs_slice o a b) entry_slice_new (slice_new_meets a b) ⟨⟨_, Heap.get?_push_size _ rfl, rfl⟩, h⟩
/-- a cut by a slice object that stands in the heap -/
theorem cut_by {prog : Program} {w : World} {A : Around} {E : Value → Shared → Prop} {s : Shared} {x : List Nat} {t : Tok} {a : Addr} {l u : Option (Int × Tok)} {Q : Value → Shared → Prop} {value slice : Expr} {ops : List Value} (hs : s.heap.IsSlice a l u none) (hsz : x.length ≤ 100000)
    (h : ∀ t' k, Q (.str (Txt.slice (st x) (l.map (·.1)) (u.map (·.1))) t') { s with toks := k })
    (hss : subscripted slice false (.str (st x) t) (.ref a) = operate ops (getItem (.str (st x) t) (.ref a)) := by with_unfolding_all rfl)
    (ht : ∀ r, letTemporaryGo value (.str (st x) t) r = pure () := by intro _; with_unfolding_all rfl) :
    wpAny (model prog w) A (subscriptTail value slice (.str (st x) t) (.ref a)) Q E s := by
  have key : wpAny (model prog w) A (getItem (.str (st x) t) (.ref a)) Q E s := by
    refine wpAny_getItem_str_slice (l := l) (u := u) (st := none) hs rfl ?_
    refine post_val_or_str ⟨Nat.le_trans (Txt.slice_le (st x) _ _) (by rw [st_len]; show _ ≤ 2 ^ 24; omega), fun t' k => h t' k⟩
  exact tail_of_ItemOn ⟨"str", _, F.slot_str_getitem.lookup, typeIs_str _ _ _, key⟩ hss ht
end Mine
end
section
open PySem PySem.W PyProof.Rows PySem.Calls
set_option maxRecDepth 100000
set_option maxHeartbeats 8000000
set_option linter.unusedVariables false
namespace Mine
theorem filled : (∀ w : World, (hd.heap_1 w.params).In {}) → PySem.Challenge.rw_nq0080_01.Holds → True := by k_fill; intros; trivial
local macro_rules | `(tactic| walk_at "mine enter") => `(tactic| (
  refine wpAny_call ?_
  refine' enter (by assumption) (Top.nolimit (by assumption)) ?k8 ?k6 ?k7 ?k9 ?kB ?_ ?c2 ?c3 ?c4 ?c5
  case k8 => (show _ < _; dsimp only; omega)
  case k6 => k_is
  case k7 => k_is
  case k9 => exact BindsTo.of_eq rfl
  case c5 => decide
  case kB => exact locs rfl
  case c2 => exact rfl
  case c3 => exact rfl
  case c4 => exact rfl
  (try dsimp only)))
local macro_rules | `(tactic| walk_at "mine steps") => `(tactic| (repeat' (first
  | (k_unfold; (try dsimp only))
  | ((fail_if_success (with_reducible show wpAny _ _ (exec (Stmt.While _ _ _ _) _) _ _ _)); (fail_if_success (with_reducible show wpAny _ _ (exec (Stmt.For _ _ _ _ _) _) _ _ _)); (fail_if_success (with_reducible show wpAny _ _ (call (Value.type "enumerate") _) _ _ _)); first | walk1 | (dsimp only; walk1)))))
local macro_rules | `(tactic| walk_at "binaryOp FloorDiv int int") => `(tactic| (refine floordiv_int (by omega) ?_ (Or.inl (PyProof.noPylong_small (by omega)))))
local macro_rules | `(tactic| walk_at "inplaceOp FloorDiv int int") => `(tactic| (refine ifloordiv_int (by omega) ?_ (Or.inl (PyProof.noPylong_small (by omega)))))
local macro_rules | `(tactic| walk_at "binaryOp Mod int int") => `(tactic| (refine mod_int' (by omega) ?_))
local macro_rules | `(tactic| walk_at "mine kept") => `(tactic| (intro t' h' tk' kp'; (rename Fr _ _ _ _ => fF); (rename News _ _ _ _ => fN); (have F' := fr_mv fF kp'); (have N' := news_mv fN kp'); clear kp' fF fN; (try dsimp only)))
local macro_rules | `(tactic| walk_at "mine sz") => `(tactic| first | omega | (simp only [List.length_take, List.length_drop, List.length_append, List.length_cons, List.length_nil, List.length_map] at *; omega))
local macro_rules | `(tactic| walk_at "call builtin:len") => `(tactic| ((with_reducible show wpAny _ _ (call (Value.builtin "len") [Value.str (Str.mk (List.toArray _)) _]) _ _ _); refine len_st (by walk_at "mine sz") ?_; intro t' k'; (try dsimp only)))
local macro_rules | `(tactic| walk_at "binaryOp Add str str") => `(tactic| ((with_reducible show wpAny _ _ (binaryOp _ (Value.str (Str.mk (List.toArray _)) _) (Value.str (Str.mk (List.toArray _)) _)) _ _ _); refine add_st (by walk_at "mine sz") ?_; intro t' k'; (try dsimp only)))
local macro_rules | `(tactic| walk_at "call builtin:chr") => `(tactic| ((with_reducible show wpAny _ _ (call (Value.builtin "chr") [Value.int _ _]) _ _ _); refine chr_st (by omega) (by omega) ?_; intro t' k'; (try dsimp only)))
local macro_rules | `(tactic| walk_at "mine cut") => `(tactic| ((with_reducible rename Fr _ _ _ _ => F'); (with_reducible rename News _ _ _ _ => N'); first | (refine cut_to (s := ⟨_, _, _, _, _⟩) (by omega) (by walk_at "mine sz") F' N' ?_) | (refine cut_from (s := ⟨_, _, _, _, _⟩) (by omega) (by walk_at "mine sz") F' N' ?_) | (refine cut_last (s := ⟨_, _, _, _, _⟩) (by omega) (by walk_at "mine sz") F' N' ?_)))
local macro_rules | `(tactic| walk_at "subscriptTail") => `(tactic| ((with_reducible show wpAny _ _ (subscriptTail _ _ (Value.str (Str.mk (List.toArray _)) _) (Value.ref _)) _ _ _); walk_at "mine cut"; intro h' t' k' F' N'; (try dsimp only)))
local macro_rules | `(tactic| walk_at "subscriptTail Name Slice str ref") => `(tactic| ((with_reducible show wpAny _ _ (subscriptTail _ _ (Value.str (Str.mk (List.toArray _)) _) (Value.ref _)) _ _ _); walk_at "mine cut"; intro h' t' k' F' N'; (try dsimp only)))
section
open PySem PySem.W PyProof.Rows PySem.Calls
set_option maxRecDepth 100000
set_option maxHeartbeats 8000000
set_option linter.unusedVariables false
def Tf (j b : Int) : Int := if 36 * (j + 1) - b < 1 then 1 else if 36 * (j + 1) - b > 26 then 26 else 36 * (j + 1) - b
theorem T_spec {w : World} {loose : List Str} {mean : ExcName → Option Value} {mg mb : Str → Option Value} {dp un : Nat} {gd : Option (List Code)} {fr : List Env} {s : Shared} {Q E : Value → Shared → Prop} {j b : Int} {t1 t2 : Tok}
    (G : Gd w loose mean mg mb s.heap) (hd : dp + 1 < recursionLimit) (hu : un + 8 < cLine)
    (hret : ∀ t h' tk', Keep s.heap h' → Q (.int (Tf j b) t) { s with heap := h', toks := tk' }) :
    wpAny (model PySem.Challenge.rw_nq0080_01.row.prog w) (AA dp un gd fr) (call (.ref 28) [.int j t1, .int b t2]) Q E s := by
  have X := G.X
  have T := G.T
  walk_at "mine enter"
  intro h₁ F
  have N : News s.heap s.heap.objs.size h₁ [] := News.nil
  generalize s.toks + _ = tk
  walk_at "mine steps"
  all_goals dsimp only
  · rename Fr _ _ _ _ => F'
    rename _ < _ => hc
    refine (show Tf j b = 1 from ?_) ▸ hret _ _ _ F'.keep
    simp only [Tf, if_pos hc]
  · rename Fr _ _ _ _ => F'
    rename ¬ _ < _ => hc
    rename _ < _ => hc2
    refine (show Tf j b = 26 from ?_) ▸ hret _ _ _ F'.keep
    simp only [Tf, if_neg hc]
    rw [if_pos (by lia)]
  · rename Fr _ _ _ _ => F'
    rename ¬ 26 < _ => hc2
    rename ¬ _ < _ => hc
    refine (show Tf j b = 36 * (j + 1) - b from ?_) ▸ hret _ _ _ F'.keep
    simp only [Tf]
    rw [if_neg (by lia), if_neg (by lia)]
def adaptL (d dv : Int) : Int := if h : 455 < d then adaptL (Int.fdiv d 35) (dv + 36) else dv + Int.fdiv (36 * d) (d + 38)
termination_by d.toNat
decreasing_by
  have := Int.fdiv_eq_ediv_of_nonneg d (show (0:Int) ≤ 35 by decide)
  lia
def adaptF (delta : Int) (first : Bool) (n : Int) : Int :=
  adaptL ((if first then Int.fdiv delta 700 else Int.fdiv delta 2) + Int.fdiv (if first then Int.fdiv delta 700 else Int.fdiv delta 2) n) 0
theorem fdiv_nn {a b : Int} (ha : 0 ≤ a) (hb : 0 < b) : 0 ≤ Int.fdiv a b := by
  rw [Int.fdiv_eq_ediv_of_nonneg a (Int.le_of_lt hb)]; exact Int.ediv_nonneg ha (Int.le_of_lt hb)
theorem fdiv_35 {a : Int} (ha : 455 < a) : (Int.fdiv a 35).toNat < a.toNat ∧ 0 ≤ Int.fdiv a 35 := by
  rw [Int.fdiv_eq_ediv_of_nonneg a (by decide)]; lia
theorem adapt_spec {w : World} {loose : List Str} {mean : ExcName → Option Value} {mg mb : Str → Option Value} {dp un : Nat} {gd : Option (List Code)} {fr : List Env} {s : Shared} {Q E : Value → Shared → Prop} {d n : Int} {f : Bool} {t1 t2 : Tok}
    (G : Gd w loose mean mg mb s.heap) (hd : dp + 1 < recursionLimit) (hu : un + 8 < cLine) (h0 : 0 ≤ d) (hn : 0 < n) (hn2 : n < 1073741824)
    (hret : ∀ t h' tk', Keep s.heap h' → Q (.int (adaptF d f n) t) { s with heap := h', toks := tk' }) :
    wpAny (model PySem.Challenge.rw_nq0080_01.row.prog w) (AA dp un gd fr) (call (.ref 42) [.int d t1, .bool f, .int n t2]) Q E s := by
  have X := G.X
  have T := G.T
  walk_at "mine enter"
  intro h₁ F
  have N : News s.heap s.heap.objs.size h₁ [] := News.nil
  generalize s.toks + _ = tk
  obtain ⟨r, hr⟩ : ∃ r, r = adaptF d f n := ⟨_, rfl⟩
  rw [← hr] at hret
  cases f
  all_goals walk_at "mine steps"
  all_goals (
    rename Fr _ _ _ _ => F'; rename News _ _ _ _ => N'
    refine' my_while (σ := Int × Int × Tok × Tok) (fun _ => []) (fun c => [("delta", .int c.1 c.2.2.1), ("divisions", .int c.2.1 c.2.2.2)]) (fun c => 0 ≤ c.1 ∧ adaptL c.1 c.2.1 = r) (fun c => c.1.toNat) ⟨_, _, _, _⟩ F' N' (by kst_all) (by exact ⟨Int.add_nonneg (fdiv_nn h0 (by decide)) (fdiv_nn (fdiv_nn h0 (by decide)) hn), hr.symm⟩) ?_
    clear F' N'
    rintro ⟨d1, dv, td, tv⟩ u h tk' ⟨hp1, hp2⟩ Fw Nw
    dsimp only at hp1 hp2 Fw Nw ⊢
    have hq : ¬ 455 < d1 → adaptL d1 dv = dv + Int.fdiv (36 * d1) (d1 + 38) := fun hc => by rw [adaptL, dif_neg hc]
    have hq2 : 455 < d1 → adaptL d1 dv = adaptL (Int.fdiv d1 35) (dv + 36) := fun hc => by rw [adaptL, dif_pos hc]
    walk_at "mine steps")
  all_goals dsimp only [TPost]
  all_goals (rename Fr _ _ _ _ => F'; rename News _ _ _ _ => N')
  all_goals first
    | (rename 455 < d1 => hc
       refine' tend ⟨_, _, _, _⟩ F' N' (List.forall_mem_nil _) (by kst_all) ?_
       exact ⟨⟨(fdiv_35 hc).2, (hq2 hc).symm.trans hp2⟩, (fdiv_35 hc).1⟩)
    | (rename ¬ 455 < d1 => hc
       exact (show dv + (36 * d1).fdiv (d1 + 38) = r from (hq hc).symm.trans hp2) ▸ hret _ _ _ F'.keep)
end
section
open PySem PySem.W PyProof.Rows PySem.Calls
set_option maxRecDepth 100000
set_option maxHeartbeats 8000000
set_option linter.unusedVariables false
local macro_rules | `(tactic| walk_at "call ref") => `(tactic| ((with_reducible show wpAny _ _ (call (Value.ref 28) _) _ _ _); refine T_spec (Gd.keeps (by assumption) (Fr.keep (by assumption))) (by dsimp only [AA, Around.deeper]; omega) (by dsimp only [AA, Around.deeper]; omega) ?_; walk_at "mine kept"))
inductive Enc (b : Int) : Int → Int → List Int → Prop
  | last {j N : Int} : 0 ≤ N → N < Tf j b → Enc b j N [N]
  | more {j N : Int} {ds : List Int} : Tf j b ≤ N → Enc b (j + 1) (Int.fdiv (N - Tf j b) (36 - Tf j b)) ds → Enc b j N ((Tf j b + Int.fmod (N - Tf j b) (36 - Tf j b)) :: ds)
def digitsA : Array UInt8 := #[97, 98, 99, 100, 101, 102, 103, 104, 105, 106, 107, 108, 109, 110, 111, 112, 113, 114, 115, 116, 117, 118, 119, 120, 121, 122, 48, 49, 50, 51, 52, 53, 54, 55, 56, 57]
def digB (d : Int) : UInt8 := digitsA.getD d.toNat 0
theorem by_item {prog : Program} {w : World} {A : Around} {E : Value → Shared → Prop} {s : Shared} {value slice : Expr} {b : Array UInt8} {t ui : Tok} {i : Int} {Q : Value → Shared → Prop} (hfit : b.size ≤ 16777216) (h0 : 0 ≤ i) (h1 : i < b.size)
    (h : ∀ t' k, Q (.int ((b.getD i.toNat 0).toNat : Int) t') { s with toks := k })
    (hs : subscripted slice false (.bytes b t) (.int i ui) = operate [.bytes b t, .int i ui] (getItem (.bytes b t) (.int i ui)) := by with_unfolding_all rfl)
    (ht : ∀ r, letTemporaryGo value (.bytes b t) r = pure () := by intro _; with_unfolding_all rfl) : wpAny (model prog w) A (subscriptTail value slice (.bytes b t) (.int i ui)) Q E s := by
  refine KBw.item_K (ks := KBw.bInts b) rfl (by rw [KBw.ints_length]; omega) h0 (by rw [KBw.ints_length]; exact h1) (fun t' k _ _ => ?_) hs ht
  have := h t' k
  rw [show KBw.bInts b = b.toList.map (fun c => (c.toNat : Int)) from rfl, ← KBw.getD_ints]
  simpa using this
theorem dig_item {prog : Program} {w : World} {A : Around} {E : Value → Shared → Prop} {s : Shared} {value slice : Expr} {t ui : Tok} {i : Int} {Q : Value → Shared → Prop} (h0 : 0 ≤ i) (h1 : i < 36)
    (h : ∀ t' k, Q (.int ((digB i).toNat : Int) t') { s with toks := k })
    (hs : subscripted slice false (.bytes digitsA t) (.int i ui) = operate [.bytes digitsA t, .int i ui] (getItem (.bytes digitsA t) (.int i ui)) := by with_unfolding_all rfl)
    (ht : ∀ r, letTemporaryGo value (.bytes digitsA t) r = pure () := by intro _; with_unfolding_all rfl) : wpAny (model prog w) A (subscriptTail value slice (.bytes digitsA t) (.int i ui)) Q E s :=
  by_item (by decide) h0 (by show i < ((36 : Nat) : Int); omega) h hs ht
local macro_rules | `(tactic| walk_at "subscriptTail") => `(tactic| ((with_reducible show wpAny _ _ (subscriptTail _ _ (Value.bytes _ _) (Value.int _ _)) _ _ _); (with_unfolding_all refine dig_item ?_ ?_ ?_); (first | omega | skip); (first | omega | skip); intro t' k'; (try dsimp only)))
theorem Tf_lo (j b : Int) : 1 ≤ Tf j b := by unfold Tf; repeat' split <;> omega
theorem Tf_hi (j b : Int) : Tf j b ≤ 26 := by unfold Tf; repeat' split <;> omega
theorem news_ba {h₀ h : Heap} {L R : Addr} {m : Str → Option Value} {b : Array UInt8} {f : Array UInt8 → Array UInt8} {rest : List (Addr × Obj)} (F : Fr h₀ L h m) (N : News h₀ L h ((R, baObj b) :: rest)) (h2 : ∀ p ∈ rest, p.1 ≠ R) :
    Fr h₀ L (h.update R (Obj.mapBytearray f)) m ∧ News h₀ L (h.update R (Obj.mapBytearray f)) ((R, baObj (f b)) :: rest) :=
  news_upd (pre := []) F N (List.forall_mem_nil _) h2 rfl rfl
local macro_rules | `(tactic| walk_at "call type:bytes") => `(tactic| ((with_reducible show wpAny _ _ (call (Value.type "bytes") [Value.ref _]) _ _ _); refine call_bytes_ba (News.get (by assumption) (by k_mem)) ?_ ?_; (first | (rw [sizeLine_eq]; simp; omega) | skip)))
theorem uint8_toNat (c : UInt8) : (Int.toNat ((c.toNat : Nat) : Int)).toUInt8 = c := by simp
theorem pow_nn (k : Nat) : (0 : Int) ≤ 2 ^ k := by have := Nat.zero_le (2 ^ k); exact_mod_cast this
theorem pow_bound {k : Nat} {Nc N : Int} (h : Nc * 2 ^ k ≤ N) (h1 : 1 ≤ Nc) (h2 : N < 2 ^ 40) : k < 40 := by
  rcases Nat.lt_or_ge k 40 with hk | hk
  · exact hk
  · exfalso
    have e : (2 : Int) ^ k = 2 ^ 40 * 2 ^ (k - 40) := by rw [← Int.pow_add]; congr 1; omega
    have h3 : (1 : Int) ≤ 2 ^ (k - 40) := by have := Nat.one_le_two_pow (n := k - 40); exact_mod_cast this
    have h4 : (2 : Int) ^ 40 ≤ 2 ^ k := by rw [e]; omega
    have h5 : (2 : Int) ^ k ≤ Nc * 2 ^ k := by
      have := Int.mul_le_mul_of_nonneg_right h1 (show (0 : Int) ≤ 2 ^ k by omega)
      omega
    omega
theorem ggi_spec {w : World} {loose : List Str} {mean : ExcName → Option Value} {mg mb : Str → Option Value} {dp un : Nat} {fr : List Env} {s : Shared} {Q : Value → Shared → Prop} {N bias : Int} {t1 t2 : Tok}
    (G : Gd w loose mean mg mb s.heap) (hd : dp + 2 < recursionLimit) (hu : un + 20 < cLine) (h0 : 0 ≤ N) (h1 : N < 2 ^ 40)
    (hret : ∀ ds t h' tk', Keep s.heap h' → Enc bias 0 N ds → ds.length ≤ 41 → Q (.bytes (ds.map digB).toArray t) { s with heap := h', toks := tk' }) :
    wpN true (model PySem.Challenge.rw_nq0080_01.row.prog w) (AA dp un (some []) fr) (call (.ref 35) [.int N t1, .int bias t2]) Q s := by
  have X := G.X
  have T := G.T
  refine wpN_call ?_
  refine' enterN X T.nolimit ?k8 ?k6 ?k7 ?k9 ?kB ?_ ?c2 ?c3 ?c4 ?c5
  case k8 => (show _ < _; dsimp only; omega)
  case k6 => k_is
  case k7 => k_is
  case k9 => exact BindsTo.of_eq rfl
  case c5 => decide
  case kB => exact locs rfl
  case c2 => exact rfl
  case c3 => exact rfl
  case c4 => exact rfl
  intro h₁ tk F
  have Nw : News s.heap s.heap.objs.size h₁ [] := News.nil
  refine wpN_execs_cons (wpN_Assign_Name (wpN_Call_Name ?_))
  walk_at "mine steps"
  refine wpN_callWith_machine rfl rfl (wpN_spliced_nil ?_)
  refine call_ba_new rfl ?_
  intro h2 kp hb
  rename Fr _ _ _ _ => F; rename News _ _ _ _ => Nw
  have F2 := fr_mv F kp
  have N2 := news_add (h' := h2) F (news_mv Nw kp) hb (Nat.le_refl _)
  clear F Nw kp hb
  walk_at "mine steps"
  refine wpN_leaf ?_
  walk_at "mine steps"
  rename Fr _ _ _ _ => F'; rename News _ _ _ _ => N'
  refine wpN_execs_cons ?_
  refine' while_inv (σ := List Int × Int × Int × Tok × Tok) (fun c => [(h₁.objs.size, baObj (c.1.map digB).toArray)])
    (fun c => [("N", .int c.2.1 c.2.2.2.1), ("bias", .int bias t2), ("result", .ref h₁.objs.size), ("j", .int c.2.2.1 c.2.2.2.2)])
    (fun c => 0 ≤ c.2.1 ∧ c.1.length ≤ 40 ∧ c.2.1 * 2 ^ c.1.length ≤ N ∧ ∀ ds, Enc bias c.2.2.1 c.2.1 ds → Enc bias 0 N (c.1 ++ ds)) (fun c => c.2.1.toNat) ⟨[], _, _, _, _⟩ F' N' (by kst_all) (by exact ⟨h0, by simp, by simp, fun ds h => h⟩) ?_
  clear F' N'
  rintro ⟨acc, Nc, j, tN, tj⟩ u h tk' ⟨q1, q2, q3, q4⟩ Fw Nw
  dsimp only at q1 q2 q3 q4 Fw Nw ⊢
  refine wpN_of_any ?_
  walk_at "mine steps"
  refine wpN_leaf ?_
  walk_at "mine steps"
  have hT1 := Tf_lo j bias
  have hT2 := Tf_hi j bias
  refine wpN_execs_cons (wpN_If (wpN_of_any ?_))
  walk_at "mine steps"
  · refine wpN_execs_cons (wpN_Expr (wpN_Call_Attr rfl (wpN_of_any ?_)))
    walk_at "mine steps"
    refine wpN_methodCall rfl rfl ?_
    rename News _ _ _ _ => N'
    refine getMethod_ba_append (N'.get (List.Mem.head _)) ?_
    refine wpN_callWith_machine rfl rfl (wpN_args_cons (wpN_of_any ?_))
    walk_at "mine steps"
    refine wpN_args_nil ?_
    rename News _ _ _ _ => N'; rename Fr _ _ _ _ => F'
    refine call_ba_append rfl (N'.get (List.Mem.head _)) (by omega) (by have := (digB Nc).toNat_lt; omega) (by rw [sizeLine_eq]; simp; omega) ?_
    obtain ⟨F2, N2⟩ := news_ba (f := (·.push ((digB Nc).toNat : Int).toNat.toUInt8)) F' N' (List.forall_mem_nil _)
    clear F' N'
    dsimp only
    refine wpN_leaf ?_
    walk_at "mine steps"
    dsimp only [WPostN]
    rename Fr _ _ _ _ => F'
    rename Nc < _ => hlt
    have e : ((List.map digB acc).toArray.push ((digB Nc).toNat : Int).toNat.toUInt8) = (List.map digB (acc ++ [Nc])).toArray := by rw [uint8_toNat]; simp
    rw [e]
    exact hret (acc ++ [Nc]) _ _ _ F'.keep (q4 _ (Enc.last q1 hlt)) (by simp; omega)
  · rename ¬ Nc < _ => hge
    refine wpN_execs_nil ?_
    dsimp only
    have hm0 : 0 ≤ Int.fmod (Nc - Tf j bias) (36 - Tf j bias) := Int.fmod_nonneg_of_pos _ (by omega)
    have hm1 : Int.fmod (Nc - Tf j bias) (36 - Tf j bias) < 36 - Tf j bias := Int.fmod_lt_of_pos _ (by omega)
    refine wpN_execs_cons (wpN_Expr (wpN_Call_Attr rfl (wpN_of_any ?_)))
    walk_at "mine steps"
    refine wpN_methodCall rfl rfl ?_
    rename News _ _ _ _ => N'
    refine getMethod_ba_append (N'.get (List.Mem.head _)) ?_
    refine wpN_callWith_machine rfl rfl (wpN_args_cons (wpN_of_any ?_))
    walk_at "mine steps"
    refine wpN_args_nil ?_
    rename News _ _ _ _ => N'; rename Fr _ _ _ _ => F'
    refine call_ba_append rfl (N'.get (List.Mem.head _)) (by omega) (by have := (digB (Tf j bias + Int.fmod (Nc - Tf j bias) (36 - Tf j bias))).toNat_lt; omega) (by rw [sizeLine_eq]; simp; omega) ?_
    obtain ⟨F2, N2⟩ := news_ba (f := (·.push ((digB (Tf j bias + Int.fmod (Nc - Tf j bias) (36 - Tf j bias))).toNat : Int).toNat.toUInt8)) F' N' (List.forall_mem_nil _)
    clear F' N'
    dsimp only
    refine wpN_leaf ?_
    walk_at "mine steps"
    refine wpN_leaf ?_
    walk_at "mine steps"
    refine wpN_execs_nil ?_
    dsimp only [WPostN]
    rename Fr _ _ _ _ => F'; rename News _ _ _ _ => N'
    have hk := pow_bound q3 (by omega) h1
    have hdiv : 0 ≤ Int.fdiv (Nc - Tf j bias) (36 - Tf j bias) ∧ 2 * Int.fdiv (Nc - Tf j bias) (36 - Tf j bias) ≤ Nc ∧ Int.fdiv (Nc - Tf j bias) (36 - Tf j bias) < Nc := by
      rw [Int.fdiv_eq_ediv_of_nonneg _ (by omega)]
      have h5 := Int.ediv_mul_le (Nc - Tf j bias) (show 36 - Tf j bias ≠ 0 by omega)
      have h6 : 0 ≤ (Nc - Tf j bias) / (36 - Tf j bias) := Int.ediv_nonneg (by omega) (by omega)
      have h7 := Int.mul_le_mul_of_nonneg_left (show (10 : Int) ≤ 36 - Tf j bias by omega) h6
      omega
    refine' wend ⟨acc ++ [Tf j bias + Int.fmod (Nc - Tf j bias) (36 - Tf j bias)], Int.fdiv (Nc - Tf j bias) (36 - Tf j bias), j + 1, _, _⟩ F' N' ?_ (by kst_all) ⟨⟨hdiv.1, ?_, ?_, ?_⟩, ?_⟩
    · simp only [List.map_append, List.map_cons, List.map_nil, uint8_toNat, List.push_toArray]
      exact fun p hp => hp
    · simp; omega
    · simp only [List.length_append, List.length_cons, List.length_nil, Nat.zero_add, Int.pow_succ]
      have h8 := Int.mul_le_mul_of_nonneg_right hdiv.2.1 (pow_nn acc.length)
      have e : Int.fdiv (Nc - Tf j bias) (36 - Tf j bias) * (2 ^ acc.length * 2) = 2 * Int.fdiv (Nc - Tf j bias) (36 - Tf j bias) * 2 ^ acc.length := by
        rw [Int.mul_comm (2 ^ acc.length) 2, ← Int.mul_assoc, Int.mul_comm _ 2]
      rw [e]; omega
    · intro ds hds
      rw [List.append_assoc]
      exact q4 _ (Enc.more (by omega) hds)
    · show (Int.fdiv (Nc - Tf j bias) (36 - Tf j bias)).toNat < Nc.toNat
      omega
end
section
open PySem PySem.W PyProof.Rows PySem.Calls
set_option maxRecDepth 100000
set_option maxHeartbeats 8000000
set_option linter.unusedVariables false
local macro_rules | `(tactic| walk_at "call ref") => `(tactic| ((with_reducible show wpAny _ _ (call (Value.ref 42) _) _ _ _); refine adapt_spec (Gd.keeps (by assumption) (Fr.keep (by assumption))) (by dsimp only [AA, Around.deeper]; lia) (by dsimp only [AA, Around.deeper]; lia) (by lia) (by lia) (by lia) ?_; walk_at "mine kept"))
local macro_rules | `(tactic| walk_at "call type:bytes") => `(tactic| ((with_reducible show wpAny _ _ (call (Value.type "bytes") [Value.ref _]) _ _ _); refine call_bytes_ba (News.get (by assumption) (by k_mem)) ?_ ?_; (first | (rw [sizeLine_eq]; simp; lia) | skip)))
inductive EncAll (n : Int) : Int → Int → List Int → List Int → Prop
  | nil {p b : Int} : EncAll n p b [] []
  | cons {p b g : Int} {gs ds rest : List Int} : Enc b 0 g ds → EncAll n (p + 1) (adaptF g (p == 0) (n + p + 1)) gs rest → EncAll n p b (g :: gs) (ds ++ rest)
theorem fn_at {K : Frag} {h : Heap} {f : Addr} {oc : Value} {od : Option Addr} {fd : FuncData} {sl : Array (Option Value)} (X : K.In h) (e : K.lookup f = some ⟨oc, od, .func fd, sl⟩) : ∃ o fd, h.get? f = some o ∧ o.data = .func fd := ⟨_, _, X _ _ e, rfl⟩
theorem gi_spec {w : World} {loose : List Str} {mean : ExcName → Option Value} {mg mb : Str → Option Value} {dp un : Nat} {fr : List Env} {s : Shared} {Q : Value → Shared → Prop} {n : Int} {t1 : Tok} {l : Addr} {vs : List Value} {gs : List Int}
    (G : Gd w loose mean mg mb s.heap) (hd : dp + 3 < recursionLimit) (hu : un + 30 < cLine) (h0 : 0 ≤ n) (h1 : n < 1000000) (hl : s.heap.IsList l vs.toArray) (hi : IntsAre vs gs) (hlen : gs.length ≤ 40) (hg : ∀ g ∈ gs, 0 ≤ g ∧ g < 2 ^ 40)
    (hret : ∀ ds t h' tk', Keep s.heap h' → EncAll n 0 72 gs ds → ds.length ≤ 1640 → Q (.bytes (ds.map digB).toArray t) { s with heap := h', toks := tk' }) :
    wpN true (model PySem.Challenge.rw_nq0080_01.row.prog w) (AA dp un (some []) fr) (call (.ref 49) [.int n t1, .ref l]) Q s := by
  have X := G.X
  have T := G.T
  refine wpN_call ?_
  refine' enterN X T.nolimit ?k8 ?k6 ?k7 ?k9 ?kB ?_ ?c2 ?c3 ?c4 ?c5
  case k8 => (show _ < _; dsimp only; lia)
  case k6 => k_is
  case k7 => k_is
  case k9 => exact BindsTo.of_eq rfl
  case c5 => decide
  case kB => exact locs rfl
  case c2 => exact rfl
  case c3 => exact rfl
  case c4 => exact rfl
  intro h₁ tk F
  have Nw : News s.heap s.heap.objs.size h₁ [] := News.nil
  refine wpN_execs_cons (wpN_Assign_Name (wpN_Call_Name ?_))
  walk_at "mine steps"
  refine wpN_callWith_machine rfl rfl (wpN_spliced_nil ?_)
  refine call_ba_new rfl ?_
  intro h2 kp hb
  rename Fr _ _ _ _ => F; rename News _ _ _ _ => Nw
  have F2 := fr_mv F kp
  have N2 := news_add (h' := h2) F (news_mv Nw kp) hb (Nat.le_refl _)
  have hR0 := ltN F.ns.lt
  clear F Nw kp hb
  walk_at "mine steps"
  refine wpN_leaf ?_
  walk_at "mine steps"
  refine wpN_execs_cons (wpN_For (wpN_of_any ?_))
  walk_at "mine steps"
  rename Fr _ _ _ _ => F3; rename News _ _ _ _ => N3
  have hl3 := hl.at fun o e => F3.keep l o e
  have hlt3 := ltN (show l < s.heap.objs.size by obtain ⟨o, ho, _⟩ := hl; exact Heap.lt_size ho)
  refine call_enumerate_list hl3 ?_
  intro h4 he hit hsz kp
  have F4 := fr_mv F3 kp
  have N4 := news_mv N3 kp
  have hL3 := ltN F3.ns.lt
  have hR3 := ltN (Heap.lt_size (N3.get (List.Mem.head _)))
  try k_unfold
  dsimp only at he hit hsz hL3 hR3 ⊢
  refine wpN_of_any (wpAny_pyIter_enum he ?_)
  have hlen2 : vs.length = gs.length := hi.length
  have hfresh : ∀ b, s.heap.objs.size ≤ b → s.heap.get? b = none := fun b hb => by
    cases e : s.heap.get? b with
    | none => rfl
    | some o => exact absurd (Heap.lt_size e) (Nat.not_lt.mpr hb)
  refine' for_walkT (σ := List Int × Int × Tok) rfl (WalksT.enumerate rfl _ _ l ?e1 ?e2 ?e3 vs.toArray) ?live ?hPt
    (fun i c => [(h₁.objs.size, baObj (c.1.map digB).toArray)]) (fun i c => [("baselen", .int n t1), ("result", .ref h₁.objs.size), ("bias", .int c.2.1 c.2.2)])
    (fun i c => c.1.length ≤ 41 * i ∧ ∀ rest, EncAll n i c.2.1 (gs.drop i) rest → EncAll n 0 72 gs (c.1 ++ rest)) ⟨[], 72, _⟩ rfl rfl rfl ?hLf ?hwr ?hnw ⟨⟨_, he⟩, hit, hl3.at fun o e => kp l o e⟩ F4 N4 ?hk ?h0 ?turn ?done
  case e1 => k_ne
  case e2 => k_ne
  case e3 => k_ne
  case hk => kst_all
  case live =>
    rintro i h ⟨⟨old, q1⟩, ⟨o2, q2, _⟩, ⟨o3, q3, _⟩⟩ b hb
    rcases List.mem_cons.mp hb with rfl | hb
    · exact ⟨_, q1⟩
    rcases List.mem_cons.mp hb with rfl | hb
    · exact ⟨_, q2⟩
    rcases List.mem_cons.mp hb with rfl | hb
    · exact ⟨_, q3⟩
    · cases hb
  case hPt => rintro i vals ⟨t, x, _, rfl⟩; exact ⟨_, _, rfl⟩
  case hLf =>
    show s.heap.objs.size ∉ _
    simp only [List.mem_cons, List.not_mem_nil, or_false, not_or]
    exact ⟨by k_ne, by k_ne, by k_ne⟩
  case hwr =>
    intro b hb
    simp only [List.mem_cons, List.not_mem_nil, or_false] at hb
    refine hfresh b ?_
    rcases hb with rfl | rfl
    · exact Nat.le_succ_of_le (Nat.le_of_lt hL3)
    · exact Nat.le_of_lt hL3
  case hnw =>
    intro p hp
    rw [List.mem_singleton.mp hp]
    simp only [List.mem_cons, List.not_mem_nil, or_false, not_or]
    exact ⟨by k_ne, by k_ne⟩
  case h0 => exact ⟨by simp, fun rest h => by simpa using h⟩
  case turn =>
    clear F3 N3 F4 N4 he hit hsz kp
    intro i v1 v2
    refine pr3 ?_
    intro acc bi tb u h tk' own hin hPt hinv hoff hown hwo Fw Nw
    simp only [List.size_toArray] at hin
    refine hide ?_
    intro P' hP'
    obtain ⟨tp, x, hx, hv⟩ := hPt
    obtain ⟨q1, q2⟩ := hinv
    obtain ⟨ev1, ev2⟩ : v1 = .int i tp ∧ v2 = x := by
      have := congrArg Array.toList hv
      simpa using this
    obtain ⟨g, tg, ex, hgi⟩ := IntsAre.at hi i v2 (by rw [ev2]; simpa using hx)
    obtain ⟨hg0, hg1⟩ := hg g (List.mem_of_getElem? hgi)
    refine hP' ?_
    clear hP' P' hx hv ev2
    subst ev1 ex
    have hil : i < 40 := by lia
    have hne : ∀ p ∈ own, p.1 ≠ h₁.objs.size := by
      intro p hp
      have h5 := hown p hp
      simp only [List.mem_cons, List.not_mem_nil, or_false] at h5
      rcases h5 with h5 | h5 | h5 <;> (rw [h5]; k_ne)
    dsimp only at q1 q2 Fw Nw ⊢
    refine wpN_execs_cons (wpN_Assign_Name (wpN_Call_Name ?_))
    walk_at "mine steps"
    refine wpN_callWith_fn rfl (wpN_args_cons (wpN_of_any ?_))
    walk_at "mine steps"
    refine wpN_args_cons (wpN_of_any ?_)
    walk_at "mine steps"
    refine wpN_args_nil ⟨?_, ?_⟩
    · refine' fn_at (K := Mine.hd.heap_1 w.params) ?kx ?ke
      case kx => k_in
      case ke => k_is
    rename Fr _ _ _ _ => F'; rename News _ _ _ _ => N'
    refine ggi_spec (G.keeps F'.keep) (by dsimp only [AA, Around.deeper]; lia) (by dsimp only [AA, Around.deeper]; lia) hg0 hg1 ?_
    intro ds t h' tk' kp henc hdl
    have F2 := fr_mv F' kp
    have N2 := news_mv N' kp
    clear F' N' kp
    dsimp only
    walk_at "mine steps"
    refine wpN_execs_cons (wpN_Expr (wpN_Call_Attr rfl (wpN_of_any ?_)))
    walk_at "mine steps"
    refine wpN_methodCall rfl rfl ?_
    rename News _ _ _ _ => N'
    refine getMethod_ba_extend (N'.get (List.mem_append_right _ (List.Mem.head _))) ?_
    refine wpN_callWith_machine rfl rfl (wpN_args_cons (wpN_of_any ?_))
    walk_at "mine steps"
    refine wpN_args_nil ?_
    rename News _ _ _ _ => N'; rename Fr _ _ _ _ => F'
    refine call_ba_extend rfl (N'.get (List.mem_append_right _ (List.Mem.head _))) (by rw [sizeLine_eq]; simp; lia) ?_
    refine ex0_2 (news_upd (f := Obj.mapBytearray (· ++ (ds.map digB).toArray)) (o' := baObj ((acc.map digB).toArray ++ (ds.map digB).toArray)) (post := []) F' N' hne (List.forall_mem_nil _) rfl rfl) ?_
    clear F' N'
    intro F2 N2
    dsimp only
    refine wpN_leaf ?_
    walk_at "mine steps"
    refine wpN_execs_nil ?_
    dsimp only [FPost]
    rename News _ _ _ _ => N'; rename Fr _ _ _ _ => F'
    refine' fend ⟨acc ++ ds, adaptF g (((i : Nat) : Int) == 0) (n + i + 1), _⟩ F' N' (fun p hp => List.mem_append_left _ hp) ?_ ?_ (by kst_all) ⟨?_, ?_⟩
    · intro p hp
      rw [List.mem_singleton.mp hp]
      simp
    · exact fun p hp => hoff (h₁.objs.size, baObj (acc.map digB).toArray) (List.Mem.head _) |> fun q => by rw [List.mem_singleton.mp hp]; exact q
    · simp; lia
    · intro rest hr
      rw [List.append_assoc]
      refine q2 _ ?_
      have e : gs.drop i = g :: gs.drop (i + 1) := by
        rw [List.getElem?_eq_some_iff] at hgi
        obtain ⟨hlt, rfl⟩ := hgi
        exact List.drop_eq_getElem_cons hlt
      rw [e]
      exact EncAll.cons henc (by simpa using hr)
  case done =>
    clear F3 N3 F4 N4 he hit hsz kp
    refine pr3 ?_
    intro acc bi tb u h tk' hinv Fw Nw
    refine ex0_2 hinv ?_
    clear hinv
    intro q1 q2
    dsimp only at q1 q2 Fw Nw ⊢
    simp only [List.size_toArray] at q1 q2
    refine wpN_leaf ?_
    walk_at "mine steps"
    rename Fr _ _ _ _ => F'
    refine hret acc _ _ _ F'.keep ?_ (by lia)
    have := q2 [] (by rw [hlen2, List.drop_length]; exact EncAll.nil)
    simpa using this
end
section
open PySem PySem.W PyProof.Rows PySem.Calls
set_option maxRecDepth 100000
set_option maxHeartbeats 8000000
set_option linter.unusedVariables false
theorem try_plain {prog : Program} {w : World} {A : Around} {E : Value → Shared → Prop} {s : Shared} {env : Env} {body : List Stmt} {h₀ : ExceptHandler} {hs : List ExceptHandler} {pos : Pos} {Q : Flow → Shared → Prop}
    (h : wpAny (model prog w) A (execs body env) Q (fun _ _ => False) s) : wpAny (model prog w) A (exec (.Try body (h₀ :: hs) [] [] pos) env) Q E s := by
  refine wpAny_Try_except (wpAny_mono h (fun f s' h' => ?_) fun _ _ x => x.elim)
  cases f <;> first | exact wpAny_execs_nil h' | exact h'
local macro_rules | `(tactic| walk_at "exec Try") => `(tactic| ((with_reducible show wpAny _ _ (exec (Stmt.Try _ _ [] [] _) _) _ _ _); refine try_plain ?_))
local macro_rules | `(tactic| walk_at "call ref") => `(tactic| ((with_reducible show wpAny _ _ (call (Value.ref 28) _) _ _ _); refine T_spec (Gd.keeps (by assumption) (Fr.keep (by assumption))) (by dsimp only [AA, Around.deeper]; lia) (by dsimp only [AA, Around.deeper]; lia) ?_; walk_at "mine kept"))
local macro_rules | `(tactic| walk_at "subscriptTail") => `(tactic| ((with_reducible show wpAny _ _ (subscriptTail _ _ (Value.bytes _ _) (Value.int _ _)) _ _ _); (refine by_item ?_ ?_ ?_ ?_); (first | lia | skip); (first | lia | skip); (first | lia | skip); intro t' k'; (try dsimp only)))
local macro_rules | `(tactic| walk_at "binaryOp Mult int int") => `(tactic| (refine PyProof.Rows.mul_int ?_ (by first | exact IntMulOk.of_left (intBits_le_64 (by lia) (by lia)) | exact IntMulOk.of_right (intBits_le_64 (by lia) (by lia)))))
def upB (d : Int) : UInt8 := Builtin.Bytes.toUpper (digB d)
theorem upB_val {d : Int} (h0 : 0 ≤ d) (h1 : d < 36) : ((upB d).toNat : Int) = if d < 26 then 65 + d else 22 + d := by
  have key : ∀ k : Fin 36, ((upB (k.val : Int)).toNat : Int) = if ((k.val : Nat) : Int) < 26 then 65 + ((k.val : Nat) : Int) else 22 + ((k.val : Nat) : Int) := by decide +kernel
  have := key ⟨d.toNat, by lia⟩
  simpa [Int.toNat_of_nonneg h0] using this
theorem Enc.range {b j N : Int} {ds : List Int} (h : Enc b j N ds) : ∀ d ∈ ds, 0 ≤ d ∧ d < 36 := by
  induction h with
  | @last j N h0 h1 => intro d hd; rw [List.mem_singleton.mp hd]; have := Tf_hi j b; lia
  | @more j N ds h0 _ ih =>
    intro d hd
    rcases List.mem_cons.mp hd with rfl | hd
    · have h1 := Tf_lo j b
      have h2 := Tf_hi j b
      have := Int.fmod_nonneg_of_pos (N - Tf j b) (show 0 < 36 - Tf j b by lia)
      have := Int.fmod_lt_of_pos (N - Tf j b) (show 0 < 36 - Tf j b by lia)
      lia
    · exact ih d hd
theorem Enc.inv {b j N : Int} {ds : List Int} (h : Enc b j N ds) : (ds = [N] ∧ 0 ≤ N ∧ N < Tf j b) ∨ ∃ D M ds', ds = D :: ds' ∧ Tf j b ≤ D ∧ N = D + (36 - Tf j b) * M ∧ Enc b (j + 1) M ds' := by
  cases h with
  | last h0 h1 => exact .inl ⟨rfl, h0, h1⟩
  | more h0 h1 =>
    have h2 := Tf_hi j b
    have := Int.fmod_nonneg_of_pos (N - Tf j b) (show 0 < 36 - Tf j b by lia)
    refine .inr ⟨_, _, _, rfl, by lia, ?_, h1⟩
    rw [Int.fmod_eq_emod_of_nonneg _ (show 0 ≤ 36 - Tf j b by lia), Int.fdiv_eq_ediv_of_nonneg _ (show 0 ≤ 36 - Tf j b by lia), Int.emod_def]; lia
theorem dgn_spec {w : World} {loose : List Str} {mean : ExcName → Option Value} {mg mb : Str → Option Value} {dp un : Nat} {gd : Option (List Code)} {fr : List Env} {s : Shared} {Q E : Value → Shared → Prop} {ext : Array UInt8} {pre ds : List Int} {post : List UInt8} {N bias : Int} {t1 t2 t3 t4 : Tok}
    (G : Gd w loose mean mg mb s.heap) (hd : dp + 2 < recursionLimit) (hu : un + 20 < cLine) (hext : ext.toList = pre.map upB ++ ds.map upB ++ post) (hsz : ext.size ≤ 10000) (henc : Enc bias 0 N ds)
    (hret : ∀ a t t' h' tk', Keep s.heap h' → s.heap.get? a = none → h'.get? a = some { cls := .type "tuple", data := .seq #[.int ((pre.length + ds.length : Nat) : Int) t, .int N t'] } → Q (.ref a) { s with heap := h', toks := tk' }) :
    wpAny (model PySem.Challenge.rw_nq0080_01.row.prog w) (AA dp un gd fr) (call (.ref 56) [.bytes ext t1, .int (pre.length : Int) t2, .int bias t3, .str "strict" t4]) Q E s := by
  have X := G.X
  have T := G.T
  refine any_of_wpN (wpN_call ?_)
  refine' enterN X T.nolimit ?k8 ?k6 ?k7 ?k9 ?kB ?_ ?c2 ?c3 ?c4 ?c5
  case k8 => (show _ < _; dsimp only; lia)
  case k6 => k_is
  case k7 => k_is
  case k9 => exact BindsTo.of_eq rfl
  case c5 => decide
  case kB => exact locs rfl
  case c2 => exact rfl
  case c3 => exact rfl
  case c4 => exact rfl
  intro h₁ tk F
  have Nw : News s.heap s.heap.objs.size h₁ [] := News.nil
  refine wpN_leaf ?_
  walk_at "mine steps"
  refine wpN_leaf ?_
  walk_at "mine steps"
  refine wpN_leaf ?_
  walk_at "mine steps"
  refine wpN_execs_cons ?_
  rename Fr _ _ _ _ => F'; rename News _ _ _ _ => N'
  refine' while_invZ (σ := List Int × List Int × Int × Int × Int × Int × Int × Tok × Tok × Tok × Tok) (fun c => [])
    (fun c => [("extended", .bytes ext t1), ("bias", .int bias t3), ("extpos", .int c.2.2.2.2.2.2.1 c.2.2.2.2.2.2.2.1), ("result", .int c.2.2.1 c.2.2.2.2.2.2.2.2.1), ("w", .int c.2.2.2.1 c.2.2.2.2.2.2.2.2.2.1), ("j", .int c.2.2.2.2.1 c.2.2.2.2.2.2.2.2.2.2)])
    (fun c => ext.toList = c.1.map upB ++ c.2.1.map upB ++ post ∧ c.1.length + c.2.1.length = pre.length + ds.length ∧ Enc bias c.2.2.2.2.1 c.2.2.2.2.2.1 c.2.1 ∧ c.2.2.1 + c.2.2.2.1 * c.2.2.2.2.2.1 = N ∧ c.2.2.2.2.2.2.1 = (c.1.length : Int)) (fun c => c.2.1.length) ⟨pre, ds, 0, 1, 0, N, _, _, _, _, _⟩ F' N' (by kst_all) (by exact ⟨hext, rfl, henc, by simp, rfl⟩) ?_
  clear F' N'
  intro Z
  refine pr11 ?_
  intro pr dr res wt j Nj ep te tr tw tj hnx hrt hq u h tk' Fw Nw
  refine ex0_5 hq ?_
  clear hq
  intro q1 q2 q3 q4 q5
  dsimp only at q1 q2 q3 q4 q5 Fw Nw
  refine wpN_of_any ?_
  walk_at "mine steps"
  have hT1 := Tf_lo j bias
  have hT2 := Tf_hi j bias
  have hrg := q3.range
  have hel : (ext.size : Nat) = pr.length + dr.length + post.length := by rw [← Array.length_toList, q1]; simp; lia
  have hval : ∀ d rest, dr = d :: rest → ((ext.getD ep.toNat 0).toNat : Int) = if d < 26 then 65 + d else 22 + d := by
    rintro d rest e
    have h0 := hrg d (by rw [e]; exact List.Mem.head _)
    rw [← upB_val h0.1 h0.2]
    have : ext.getD ep.toNat 0 = upB d := by
      rw [q5, Int.toNat_natCast, Array.getD_eq_getD_getElem?, ← Array.getElem?_toList, q1, e]
      simp
    rw [this]
  refine absv ((ext.getD ep.toNat 0).toNat : Int) fun X hX => ?_
  rw [hX] at hval
  refine q3.inv.elim ?_ ?_
  · intro hq
    refine ex0_3 hq ?_
    clear hq
    intro e k0 k1
    have hv := hval _ _ e
    have hr := hrg Nj (by rw [e]; exact List.Mem.head _)
    rw [e] at hel q2
    simp only [List.length_cons, List.length_nil] at hel q2
    rw [if_pos (by lia)] at hv
    refine wpN_of_any ?_
    walk_at "mine steps"
    refine hrt _ _ ?_
    rename Fr _ _ _ _ => F'; rename News _ _ _ _ => N'
    rw [show ep + 1 = ((pre.length + ds.length : Nat) : Int) by lia, hX, show res + (X - 65) * wt = N by rw [hv, ← q4, Int.mul_comm wt]; congr 2; lia] at N'
    exact hret _ _ _ _ _ F'.keep (N'.fresh (List.Mem.head _)) (N'.get (List.Mem.head _))
  · intro hq
    refine ex3_4 hq ?_
    clear hq
    intro D M dr' e k0 hN k1
    have hv := hval _ _ e
    have hr := hrg D (by rw [e]; exact List.Mem.head _)
    have hr3 : ∀ d ∈ dr', 0 ≤ d ∧ d < 36 := k1.range
    rw [e] at hel q2
    simp only [List.length_cons] at hel q2
    have hlast : res + D * wt + wt * (36 - Tf j bias) * M = N := by
      rw [← q4]
      conv => rhs; rw [hN]
      rw [Int.mul_add, Int.mul_assoc, Int.mul_comm D wt]; lia
    have hq1 : ext.toList = (pr ++ [D]).map upB ++ dr'.map upB ++ post := by rw [q1, e]; simp
    have hq2 : (pr ++ [D]).length + dr'.length = pre.length + ds.length := by simp; lia
    have hq5 : ep + 1 = (((pr ++ [D]).length : Nat) : Int) := by simp; lia
    have hmu : dr'.length < dr.length := by rw [e]; simp
    by_cases hc : D < 26
    · rw [if_pos hc] at hv
      refine wpN_of_any ?_
      walk_at "mine steps"
      all_goals first | (exfalso; lia) | skip
      rename Fr _ _ _ _ => F'; rename News _ _ _ _ => N'
      rw [hX, show X - 65 = D by lia] at F'
      exact hnx ⟨pr ++ [D], dr', res + D * wt, wt * (36 - Tf j bias), j + 1, M, ep + 1, _, _, _, _⟩ _ _ _ _ F' N' (List.forall_mem_nil _) (by kst_all) ⟨hq1, hq2, k1, hlast, hq5⟩ hmu
    · rw [if_neg hc] at hv
      refine wpN_of_any ?_
      walk_at "mine steps"
      all_goals first | (exfalso; lia) | skip
      rename Fr _ _ _ _ => F'; rename News _ _ _ _ => N'
      rw [hX, show X - 22 = D by lia] at F'
      exact hnx ⟨pr ++ [D], dr', res + D * wt, wt * (36 - Tf j bias), j + 1, M, ep + 1, _, _, _, _⟩ _ _ _ _ F' N' (List.forall_mem_nil _) (by kst_all) ⟨hq1, hq2, k1, hlast, hq5⟩ hmu
end
section
open PySem PySem.W PyProof.Rows PySem.Calls
set_option maxRecDepth 100000
set_option maxHeartbeats 8000000
set_option linter.unusedVariables false
local macro_rules | `(tactic| walk_at "call ref") => `(tactic| ((with_reducible show wpAny _ _ (call (Value.ref 42) _) _ _ _); refine adapt_spec (Gd.keeps (by assumption) (Fr.keep (by assumption))) (by dsimp only [AA, Around.deeper]; omega) (by dsimp only [AA, Around.deeper]; omega) (by omega) (by omega) (by omega) ?_; walk_at "mine kept"))
inductive Ins : List Nat → Int → Int → List Int → List Nat → Prop
  | nil {base : List Nat} {c p : Int} : Ins base c p [] base
  | cons {base fin : List Nat} {c p g c' p' : Int} {gs : List Int} : c' = c + Int.fdiv (p + g + 1) ((base.length : Int) + 1) → p' = Int.fmod (p + g + 1) ((base.length : Int) + 1) → 0 ≤ c' → c' ≤ 1114111 → Ins (base.take p'.toNat ++ c'.toNat :: base.drop p'.toNat) c' p' gs fin → Ins base c p (g :: gs) fin
theorem Ins.inv_cons {base fin : List Nat} {c p g : Int} {gs : List Int} (h : Ins base c p (g :: gs) fin) : ∃ c' p', c' = c + Int.fdiv (p + g + 1) ((base.length : Int) + 1) ∧ p' = Int.fmod (p + g + 1) ((base.length : Int) + 1) ∧ 0 ≤ c' ∧ c' ≤ 1114111 ∧ Ins (base.take p'.toNat ++ c'.toNat :: base.drop p'.toNat) c' p' gs fin := by
  cases h with
  | cons a b c d e => exact ⟨_, _, a, b, c, d, e⟩
theorem Ins.inv_nil {base fin : List Nat} {c p : Int} (h : Ins base c p [] fin) : base = fin := by
  cases h; rfl
theorem EncAll.inv {n p b : Int} {gs ds : List Int} (h : EncAll n p b gs ds) : (gs = [] ∧ ds = []) ∨ ∃ g gr d0 dr, gs = g :: gr ∧ ds = d0 ++ dr ∧ Enc b 0 g d0 ∧ EncAll n (p + 1) (adaptF g (p == 0) (n + p + 1)) gr dr := by
  cases h with
  | nil => exact .inl ⟨rfl, rfl⟩
  | cons a b => exact .inr ⟨_, _, _, _, rfl, rfl, a, b⟩
theorem Enc.ne_nil {b j N : Int} {ds : List Int} (h : Enc b j N ds) : ds ≠ [] := by
  cases h <;> exact fun e => by cases e
theorem ins_spec {w : World} {loose : List Str} {mean : ExcName → Option Value} {mg mb : Str → Option Value} {dp un : Nat} {gd : Option (List Code)} {fr : List Env} {s : Shared} {Q E : Value → Shared → Prop} {base fin : List Nat} {gs ds : List Int} {t1 t2 t3 : Tok}
    (G : Gd w loose mean mg mb s.heap) (hd : dp + 3 < recursionLimit) (hu : un + 30 < cLine) (henc : EncAll base.length 0 72 gs ds) (hins : Ins base 128 (-1) gs fin) (hb : base.length + gs.length ≤ 1000) (hsz : ds.length ≤ 5000) (hg : ∀ g ∈ gs, 0 ≤ g)
    (hret : ∀ t h' tk', Keep s.heap h' → Q (.str (st fin) t) { s with heap := h', toks := tk' }) :
    wpAny (model PySem.Challenge.rw_nq0080_01.row.prog w) (AA dp un gd fr) (call (.ref 63) [.str (st base) t1, .bytes (ds.map upB).toArray t2, .str "strict" t3]) Q E s := by
  have X := G.X
  have T := G.T
  refine any_of_wpN (wpN_call ?_)
  refine' enterN X T.nolimit ?k8 ?k6 ?k7 ?k9 ?kB ?_ ?c2 ?c3 ?c4 ?c5
  case k8 => (show _ < _; dsimp only; omega)
  case k6 => k_is
  case k7 => k_is
  case k9 => exact BindsTo.of_eq rfl
  case c5 => decide
  case kB => exact locs rfl
  case c2 => exact rfl
  case c3 => exact rfl
  case c4 => exact rfl
  intro h₁ tk F
  have Nw : News s.heap s.heap.objs.size h₁ [] := News.nil
  refine wpN_leaf ?_
  walk_at "mine steps"
  refine wpN_leaf ?_
  walk_at "mine steps"
  refine wpN_leaf ?_
  walk_at "mine steps"
  refine wpN_leaf ?_
  walk_at "mine steps"
  refine wpN_execs_cons ?_
  rename Fr _ _ _ _ => F'; rename News _ _ _ _ => N'
  -- cur, rest of gs, pr, dr, char, pos, bias, k, tokens
  refine' while_invZ (σ := List Nat × List Int × List Int × List Int × Int × Int × Int × Nat × Tok × Tok × Tok × Tok × Tok) (fun c => [])
    (fun c => match c with | (cur, gr, pr, dr, ch, po, bi, k, ta, tb, tc, td, te) => [("base", .str (st cur) ta), ("extended", .bytes (ds.map upB).toArray t2), ("errors", .str "strict" t3), ("char", .int ch tb), ("pos", .int po tc), ("bias", .int bi td), ("extpos", .int (pr.length : Int) te)])
    (fun c => match c with | (cur, gr, pr, dr, ch, po, bi, k, ta, tb, tc, td, te) => ds = pr ++ dr ∧ EncAll base.length k bi gr dr ∧ Ins cur ch po gr fin ∧ cur.length = base.length + k ∧ k + gr.length = gs.length ∧ (k = 0 ↔ pr = []) ∧ (∀ g ∈ gr, 0 ≤ g) ∧ -1 ≤ po ∧ po < 2000) (fun c => c.2.1.length) ⟨base, gs, [], ds, 128, -1, 72, 0, _, _, _, _, _⟩ F' N' (by kst_all) (by exact ⟨rfl, henc, hins, rfl, by omega, by simp, hg, by omega, by omega⟩) ?_
  clear F' N'
  intro Z
  refine pr13 ?_
  intro cur gr pr dr ch po bi k ta tb tc td te hnx hrt hq u h tk' Fw Nw
  refine ex0_9 hq ?_
  clear hq
  intro q1 q2 q3 q4 q5 q7 q8 q9 q10
  dsimp only at q1 q2 q3 q4 q5 q7 q8 q9 q10 Fw Nw
  refine wpN_of_any ?_
  walk_at "mine steps"
  · rename _ < _ => hlt
    have hds : ds.length = pr.length + dr.length := by rw [q1]; simp
    refine q2.inv.elim ?_ ?_
    · intro hq
      have e := hq.2
      rw [e] at hds
      simp at hlt hds; omega
    intro hq
    refine ex4_4 hq ?_
    clear hq
    intro g gr' d0 dr' e0 e3 e1 e2
    rw [e0] at q3 q5 q8
    rw [e3] at q1 hds
    refine ex2_5 q3.inv_cons ?_
    clear q3
    intro c' p' i1 i2 i3 i4 i5
    have hg0 := q8 g (List.Mem.head _)
    have hcl : (cur.length : Int) ≤ 1000 := by simp only [List.length_cons] at q5; omega
    refine wpN_of_any ?_
    walk_at "mine steps"
    rename Fr _ _ _ _ => F'; rename News _ _ _ _ => N'
    refine dgn_spec (pre := pr) (ds := d0) (post := dr'.map upB) (Gd.keeps (by assumption) (Fr.keep (by assumption))) (by dsimp only [AA, Around.deeper]; omega) (by dsimp only [AA, Around.deeper]; omega) (by simp [q1]) (by simp; omega) e1 ?_
    intro a ta' tb' h' tk'' kp hn hg'
    have F'' := fr_mv F' kp
    have N'' := news_put F' (news_mv N' kp) hg' hn
    clear F' N' kp hn hg'
    have i1' : c' = ch + Int.fdiv (po + (g + 1)) ((cur.length : Int) + 1) := by rw [i1, Int.add_assoc]
    have i2' : p' = Int.fmod (po + (g + 1)) ((cur.length : Int) + 1) := by rw [i2, Int.add_assoc]
    have hp0 : 0 ≤ p' := by rw [i2]; exact Int.fmod_nonneg_of_pos _ (by omega)
    have hp1 : p' < (cur.length : Int) + 1 := by rw [i2]; exact Int.fmod_lt_of_pos _ (by omega)
    walk_at "mine steps"
    rename Fr _ _ _ _ => F'; rename News _ _ _ _ => N'
    rw [← i1', ← i2'] at F' ⊢
    have hL : ((List.take p'.toNat cur ++ [c'.toNat] ++ List.drop p'.toNat cur).length : Int) = (base.length : Int) + k + 1 := by simp; omega
    have hB : ((pr.length : Int) == 0) = ((k : Int) == 0) := by
      rw [Bool.eq_iff_iff]; simp only [beq_iff_eq]
      rw [show ((pr.length : Int) = 0 ↔ pr = []) by rw [← List.length_eq_zero_iff]; omega, ← q7]; omega
    rw [hL, hB]
    refine adapt_spec (Gd.keeps (by assumption) (Fr.keep (by assumption))) (by dsimp only [AA, Around.deeper]; omega) (by dsimp only [AA, Around.deeper]; omega) (by omega) (by omega) (by omega) ?_
    walk_at "mine kept"
    walk_at "mine steps"
    rename Fr _ _ _ _ => F'; rename News _ _ _ _ => N'
    refine' hnx ⟨List.take p'.toNat cur ++ [c'.toNat] ++ List.drop p'.toNat cur, gr', pr ++ d0, dr', c', p', adaptF g ((k : Int) == 0) ((base.length : Int) + k + 1), k + 1, _, _, _, _, _⟩ _ _ _ _ F' N' (List.forall_mem_nil _) ?kst ⟨?_, ?_, ?_, ?_, ?_, ?_, ?_, ?_, ?_⟩ ?_
    case kst => dsimp only; rw [List.length_append]; kst_all
    · rw [q1]; simp
    · rw [show ((k + 1 : Nat) : Int) = (k : Int) + 1 by omega]; exact e2
    · rw [List.append_assoc]; exact i5
    · simp; omega
    · simp only [List.length_cons] at q5; omega
    · refine ⟨fun h => by omega, fun h => ?_⟩
      have : d0 = [] := (List.append_eq_nil_iff.mp h).2
      exact absurd this e1.ne_nil
    · exact fun x hx => q8 x (List.Mem.tail _ hx)
    · omega
    · omega
    · dsimp only; rw [e0]; simp
  · rename ¬ _ < _ => hge
    have hds : ds.length = pr.length + dr.length := by rw [q1]; simp
    have hdr : dr = [] := by
      have : dr.length = 0 := by simp at hge; omega
      exact List.eq_nil_of_length_eq_zero this
    have hgr : gr = [] := by
      refine q2.inv.elim (fun hq => hq.1) fun hq => ?_
      refine ex4_4 hq ?_
      intro g gr' d0 dr' e0 e3 e1 e2
      exact absurd (List.append_eq_nil_iff.mp (e3 ▸ hdr)).1 e1.ne_nil
    rw [hgr] at q3
    have hcf : fin = cur := q3.inv_nil.symm
    rw [hcf] at hret
    refine wpN_of_any ?_
    walk_at "mine steps"
    rename Fr _ _ _ _ => F'
    exact hret _ _ _ F'.keep
end
section
open PySem PySem.W PyProof.Rows PySem.Calls
set_option maxRecDepth 100000
set_option maxHeartbeats 8000000
set_option linter.unusedVariables false
/-- the lambda's qualified name -/
abbrev lamQ : Str := "_law_thing.<locals>.<lambda>"
theorem top_built {p : Program} {loose : List Str} {mean : ExcName → Option Value} {mg mb : Str → Option Value} {h h' : Heap} {P : Addr} {ps : Array Value} (T : Top p loose mean mg mb h) (k : Keep h h') (hP : h.get? P = some (tabObj ps)) : h'.BuiltinsAt mg P ∧ mainGlobals ≠ P := by
  obtain ⟨bm, ob, b1, b2, b3, b4, b5, b6⟩ := T.bmain
  have hbP : bm ≠ P := fun q => by
    rw [q, hP] at b3; cases b3; cases b4
  have hbG : bm ≠ mainGlobals := fun q => by
    obtain ⟨o, es, ep, e, hd, _⟩ := T.g
    rw [q, e] at b3; cases b3; rw [hd] at b6; cases b6
  refine ⟨⟨bm, ob, b1, b2, hbG, hbP, k _ _ b3, b4, b5, b6⟩, fun q => ?_⟩
  obtain ⟨o, es, ep, e, hd, _⟩ := T.g
  rw [q, hP] at e; cases e; cases hd
def Sup (objs : List (Addr × Obj)) (R : Heap → Prop) : Prop := ∀ h : Heap, (∀ p ∈ objs, h.get? p.1 = some p.2) → R h
theorem fnat_sup {h : Heap} {x d : Addr} {mA : Str → Option Value} (I : FnAt h x (some d) mA) : ∃ o1 o2, h.get? x = some o1 ∧ h.get? d = some o2 ∧ Sup [(x, o1), (d, o2)] (fun h => FnAt h x (some d) mA) := by
  obtain ⟨fd, sl, e, r⟩ := I
  rcases r with ⟨q, _⟩ | ⟨d', q, hne, o, es, ep, ho, r⟩
  · cases q
  · cases q
    exact ⟨_, _, e, ho, fun h hp => ⟨fd, sl, hp _ (List.Mem.head _), .inr ⟨d, rfl, hne, o, es, ep, hp _ (List.Mem.tail _ (List.Mem.head _)), r⟩⟩⟩
theorem thing_spec {w : World} {loose : List Str} {mean : ExcName → Option Value} {mg mb : Str → Option Value} {dp un : Nat} {gd : Option (List Code)} {fr : List Env} {s : Shared} {Q E : Value → Shared → Prop} {place tag : Value}
    (G : Gd w loose mean mg mb s.heap) (hd : dp < recursionLimit) (Tb : Tab 89 lamQ s.heap)
    (hret : ∀ a h' tk' objs, KeepB 89 s.heap h' → Tab 89 lamQ h' → (∀ p ∈ objs, h'.get? p.1 = some p.2 ∧ s.heap.get? p.1 = none) → Sup objs (fun h => Thing h a tag place) → Q (.ref a) { s with heap := h', toks := tk' }) :
    wpAny (model PySem.Challenge.rw_nq0080_01.row.prog w) (AA dp un gd fr) (call (.ref 94) [place, tag]) Q E s := by
  have X := G.X
  have T := G.T
  refine any_of_wpN (wpN_call ?_)
  refine' enterN X T.nolimit ?k8 ?k6 ?k7 ?k9 ?kB ?_ ?c2 ?c3 ?c4 ?c5
  case k8 => exact hd
  case k6 => k_is
  case k7 => k_is
  case k9 => exact BindsTo.of_eq rfl
  case c5 => decide
  case kB => exact locs rfl
  case c2 => exact rfl
  case c3 => exact rfl
  case c4 => exact rfl
  intro h₁ tk F
  refine ex1_3 (id Tb) ?_
  intro ps hP ht hall
  have hTb := top_built T F.keep hP
  have C : CodeHd s.heap 93 89 := codeHd_of_K X (by kernel_rfl)
  refine wpN_of_any ?_
  refine wpAny_execs_cons ?_
  refine wpAny_Assign_Name ?_
  refine kla_eval rfl ?_
  refine mk_lam (mg := mg) (c := 93) (P := 89) rfl rfl (T.g.keeps F.keep) rfl (C.keeps F.keep) (Tb.keeps F.keep) hTb.2 hTb.1 ?_
  intro f cv ctv h₂ tk₂ kb₂ Tb₂ hf hfP hfl hfo hrec
  have hLs : s.heap.get? s.heap.objs.size = none := Heap.get?_none_of_le (Nat.le_refl _)
  have hLP : s.heap.objs.size ≠ 89 := fun e => by rw [← e, hLs] at hP; cases hP
  refine ex3_3 (id F.ns) ?_
  intro oL eL epL hoL hdL hrL
  have hfL : f ≠ s.heap.objs.size := fun e => by dsimp only at hf; rw [e, hoL] at hf; cases hf
  have ns₂ := F.ns.extBut kb₂ hLP
  refine wpAny_storeName_local rfl ns₂ fun h₃ ns₃ sb₃ => ?_
  dsimp only
  have I₃ : FnAt h₃ f none (fun _ => none) := ⟨_, _, (sb₃.2 f hfL).trans hfo, .inl ⟨rfl, fun _ => rfl⟩⟩
  refine wpAny_execs_cons ?_
  refine plainObj_wpAny_Assign_Attribute ?_
  refine wpAny_Name (wpAny_loadName_local rfl rfl ns₃ rfl ?_)
  refine wpAny_Name (wpAny_loadName_local rfl rfl ns₃ rfl ?_)
  refine fn_store (ns := []) fn_no_tag I₃ (fun h₄ tk₄ d₄ I₄ hd₄ kp₄ => ?_) Within.nil (by show _ ≤ 2 ^ 24; simp)
  have hd4 : h₃.get? d₄ = none := hd₄.elim (fun e => by cases e) (·.2)
  have hdL4 : d₄ ≠ s.heap.objs.size := fun e => by
    obtain ⟨o, _, _, ho, _⟩ := ns₃
    rw [e, show h₃.get? s.heap.objs.size = some o from ho] at hd4; cases hd4
  refine ex3_2 (id ns₃) ?_
  intro o₃ es₃ ep₃ ho₃ r₃
  have ns₄ : h₄.Ns s.heap.objs.size _ := ⟨o₃, es₃, ep₃, kp₄ _ _ hfL.symm hdL4.symm ho₃, r₃⟩
  dsimp only
  refine wpAny_execs_cons ?_
  refine plainObj_wpAny_Assign_Attribute ?_
  refine wpAny_Name (wpAny_loadName_local rfl rfl ns₄ rfl ?_)
  refine wpAny_Name (wpAny_loadName_local rfl rfl ns₄ rfl ?_)
  refine fn_store (ns := [Str.ofString "tag"]) fn_no_place I₄ (fun h₅ tk₅ d₅ I₅ hd₅ kp₅ => ?_) (Within.cons _ _ Within.nil) (by show _ ≤ 2 ^ 24; simp)
  have hd5 : d₅ = d₄ := hd₅.elim (fun e => (Option.some.inj e).symm) (fun e => by cases e.1)
  subst hd5
  refine ex3_2 (id ns₄) ?_
  intro o₄ es₄ ep₄ ho₄ r₄
  have ns₅ : h₅.Ns s.heap.objs.size _ := ⟨o₄, es₄, ep₄, kp₅ _ _ hfL.symm hdL4.symm ho₄, r₄⟩
  dsimp only
  refine wpAny_execs_cons ?_
  refine wpAny_Return_some ?_
  refine wpAny_Name (wpAny_loadName_local rfl rfl ns₅ rfl ?_)
  have up : ∀ b o, b ≠ f → b ≠ s.heap.objs.size → h₂.get? b = some o → h₅.get? b = some o := fun b o b1 b2 e => by
    have e3 := (sb₃.2 b b2).trans e
    have b3 : b ≠ d₅ := fun q => by rw [q, hd4] at e3; cases e3
    exact kp₅ _ _ b1 b3 (kp₄ _ _ b1 b3 e3)
  have hfs : s.heap.get? f = none := by
    cases q : s.heap.get? f with
    | none => rfl
    | some o => have := F.keep _ _ q; rw [hf] at this; cases this
  have hds : s.heap.get? d₅ = none := by
    cases q : s.heap.get? d₅ with
    | none => rfl
    | some o =>
      have hdP : d₅ ≠ 89 := fun e => by
        obtain ⟨psb, hb2, _⟩ := id Tb₂
        have e89 : h₃.get? 89 = some (tabObj psb) := (sb₃.2 89 (Ne.symm hLP)).trans hb2
        rw [← e, hd4] at e89; cases e89
      have e5 : h₃.get? d₅ = some o := (sb₃.2 d₅ hdL4).trans (kb₂ _ _ hdP (F.keep _ _ q))
      rw [hd4] at e5; cases e5
  refine ex2_3 (fnat_sup I₅) ?_
  intro of5 od5 hf5 ho5 S5
  refine hret f h₅ _ [(f, of5), (d₅, od5)] (fun b o hb e => up _ _ (fun q => by rw [q, hfs] at e; cases e) (fun q => by rw [q, hLs] at e; cases e) (kb₂ _ _ hb (F.keep _ _ e))) ?_ (fun p hp => ?_) (fun h hp => ⟨_, _, S5 h hp, rfl, rfl⟩)
  rotate_left
  · rcases List.mem_cons.mp hp with rfl | hp
    · exact ⟨hf5, hfs⟩
    · rw [List.mem_singleton.mp hp]; exact ⟨ho5, hds⟩
  obtain ⟨ps₂, hP₂, ht₂, hall₂⟩ := Tb₂
  refine ⟨ps₂, up _ _ hfP.symm hLP.symm hP₂, ht₂, fun pos cv e => ?_⟩
  obtain ⟨c, o, vs, t', e1, e2, e3, e4⟩ := hall₂ pos cv e
  refine ⟨c, o, vs, t', e1, up _ _ (fun q => ?_) (fun q => ?_) e2, e3, e4⟩
  · rw [q, hfo] at e2; cases e2; cases e3
  · obtain ⟨o2, _, _, ho2, hd2, _⟩ := ns₂
    rw [q, show h₂.get? s.heap.objs.size = some o2 from ho2] at e2; cases e2
    rw [hd2] at e3; cases e3
end
section
open PySem PySem.W PyProof.Rows PySem.Calls
set_option maxRecDepth 100000
set_option maxHeartbeats 8000000
set_option linter.unusedVariables false
theorem enterCC {prog : Program} {w : World} {A : Around} {s : Shared} {R : Result → Shared → Prop} {K : Frag} {name qual : Str} {params : Arguments} {body : List Stmt} {scope : Scope} {dV kV doc pm cdv ct oc : Value} {an od : Option Addr} {osl : Array (Option Value)} {f : Addr} {vals : List Value} {binds : List (Str × Value)}
    (X : K.In s.heap) (hlim : s.heap.NoLimit) (hroom : A.depth < recursionLimit)
    (ho : K.lookup f = some ⟨oc, od, .func (fnOf name qual params body scope dV kV doc pm an cdv ct), osl⟩) (hcd : codeIn K cdv qual = true)
    (hbind : bindArgs (fnOf name qual params body scope dV kV doc pm an cdv ct) ⟨vals, []⟩ = pure binds) (hkind : (binds.all fun y => scope.names.lookup y.1 == some .local || scope.names.lookup y.1 == some .cell) = true)
    (h : ∀ s₁, InCallC s s.heap.objs.size (bindL (envOfC qual scope s.heap.objs.size f cdv).kindOf binds fun _ => none) (cellsFrom (s.heap.objs.size + 1) scope.names []) (bindC (envOfC qual scope s.heap.objs.size f cdv).kindOf binds fun _ => none) s₁ →
      wpAny (model prog w) (A.deeper (envOfC qual scope s.heap.objs.size f cdv)) (execs body (envOfC qual scope s.heap.objs.size f cdv)) (fun fl s' => R (.ok (.ret (match fl with | .ret v => v | _ => .none))) s')
        (fun e s' => wpAny (model prog w) (A.deeper (envOfC qual scope s.heap.objs.size f cdv)) (leaving (envOfC qual scope s.heap.objs.size f cdv) e) (fun _ s'' => R (.error e) s'') (fun e' s'' => R (.error e') s'') s') s₁)
    (hco : scope.isCoroutine = false) (hgen : scope.isGenerator = false) (hk : scope.kind = .function) : codeAny (model prog w) A (.call (.ref f) ⟨vals, []⟩) R s :=
  codeAny_call_cells (fd := fnOf name qual params body scope dV kV doc pm an cdv ct) (binds := binds) hroom (X _ _ ho) rfl hlim (codeRec_of X hcd) rfl hbind rfl (kindsX hkind _) h hco hgen hk
theorem push_kept {s₀ : Shared} {L : Addr} {m cm : Str → Option Value} {cs : List (Str × Addr)} : KeptByPush (InCallC s₀ L m cs cm) := fun s ob k x => ⟨x.toInCall.pushedS ob k, fun n c e => (x.cell n c e).keeps fun b o e => Heap.get?_push_of_some _ e, x.apart, x.above⟩
/-- a call with cells, and objects beside it that stay -/
structure InX (s₀ : Shared) (L : Addr) (m : Str → Option Value) (cs : List (Str × Addr)) (cm : Str → Option Value) (fs : List (Addr × Obj)) (s : Shared) : Prop where
  i : InCallC s₀ L m cs cm s
  f : ∀ p ∈ fs, s.heap.get? p.1 = some p.2
  nc : ∀ p ∈ fs, (∀ v, p.2.data ≠ .cell v) ∧ p.1 ≠ L ∧ s₀.heap.get? p.1 = none
section
variable {prog : Program} {w : World} {A : Around} {E : Value → Shared → Prop} {s₀ s : Shared} {m cm : Str → Option Value} {env : Env} {fs : List (Addr × Obj)} {L : Addr} {cs : List (Str × Addr)}
theorem InX.tok (x : InX s₀ L m cs cm fs s) (t : Nat) : InX s₀ L m cs cm fs { s with toks := t } := ⟨x.i.tok t, x.f, x.nc⟩
theorem InX.push (x : InX s₀ L m cs cm fs s) (ob : Obj) (k : Nat) : InX s₀ L m cs cm fs { s with heap := s.heap.push ob, toks := k } := ⟨push_kept s ob k x.i, fun p hp => Heap.get?_push_of_some _ (x.f p hp), x.nc⟩
theorem kept_x : KeptByPush (InX s₀ L m cs cm fs) := fun _ ob k x => x.push ob k
theorem InX.add {x y : Value} (I : InX s₀ L m cs cm fs s) : InX s₀ L m cs cm ((s.heap.objs.size, sliceObj x y) :: fs) { s with heap := s.heap.push (sliceObj x y) } := by
  have I' := I.push (sliceObj x y) s.toks
  refine ⟨I'.i, fun p hp => ?_, fun p hp => ?_⟩
  · rcases List.mem_cons.mp hp with rfl | hp
    · exact Heap.get?_push_size _ rfl
    · exact I'.f p hp
  · rcases List.mem_cons.mp hp with rfl | hp
    · refine ⟨fun v e => (by cases e), Nat.ne_of_gt ?_, ?_⟩
      · exact I.i.toInCall.ns.lt
      · cases q : s₀.heap.get? s.heap.objs.size with
        | none => rfl
        | some o => exact absurd (Heap.lt_size (I.i.toInCall.keep _ _ q)) (Nat.lt_irrefl _)
    · exact I'.nc p hp
theorem stX {n : Str} {c : Addr} {v : Value} {Q : Unit → Shared → Prop} (x : InX s₀ env.locals m env.cells cm fs s) (hk : env.scope.kind = .function) (hl : env.kindOf n = some .cell)
    (hc : env.cells.lookup n = some c)
    (h : ∀ s', InX s₀ env.locals m env.cells (fun y => if y = n then some v else cm y) fs s' → Q () s') : wpAny (model prog w) A (storeName env n v) Q E s := by
  have I := x.i
  have hLc := I.above n c (mem_of_lookup hc)
  have hcell := I.cell n c hc
  refine wpAny_storeName_cell hk hl hc hcell fun h' hc' hs' => h _ ⟨⟨⟨?_, I.toInCall.ns.sameBut hs' (Nat.ne_of_lt hLc), fun b o e => ?_, I.toInCall.fresh⟩, fun k c' hk' => ?_, I.apart, I.above⟩, fun p hp => ?_, x.nc⟩
  · obtain ⟨h₁, tk, rfl⟩ := I.toInCall.same
    exact ⟨h', _, rfl⟩
  · exact hs'.extBut b o (Nat.ne_of_lt (Nat.lt_trans (Nat.lt_of_lt_of_le (Heap.lt_size e) I.toInCall.fresh) hLc)) (I.toInCall.keep b o e)
  · by_cases hkn : k = n
    · subst hkn
      rw [hc] at hk'; cases hk'
      simpa using hc'
    · rw [if_neg hkn]
      exact (I.cell k c' hk').sameBut hs' fun e => hkn (name_of_addr I.apart (mem_of_lookup hk') (e ▸ mem_of_lookup hc))
  · refine (hs'.2 p.1 fun e => ?_).trans (x.f p hp)
    obtain ⟨o, ho, hd⟩ := hcell
    have := x.f p hp
    rw [e, ho] at this
    cases this
    exact (x.nc p hp).1 _ hd
theorem nmX {n : Str} {pos : Pos} {c : Addr} {v : Value} {Q : Value → Shared → Prop} (x : InX s₀ env.locals m env.cells cm fs s) (hk : env.scope.kind = .function) (hl : env.kindOf n = some .cell)
    (hc : env.cells.lookup n = some c) (hv : cm n = some v) (h : Q v s) (hd : (n == ("__debug__" : Str)) = false) : wpAny (model prog w) A (eval (.Name n pos) env) Q E s := NameCC x.i hk hl hc hv h hd
theorem nmB {K : Frag} {p : Program} {loose : List Str} {mean : ExcName → Option Value} {mg mb : Str → Option Value} {n : Str} {pos : Pos} {v : Value} {Q : Value → Shared → Prop} (x : InX s₀ L m cs cm fs s) (X : K.In s₀.heap) (T : Top p loose mean mg mb s₀.heap) (e : nsIn K mainGlobals n = some none) (hv : bootBuiltins n = some v) (hn : n ≠ "__name__") (h : Q v s)
    (hk : env.scope.kind = .function) (hg : env.globals = mainGlobals) (hb : env.builtins = builtinsNs) (hx : env.kindOf n = some .globalImplicit) (hd : (n == ("__debug__" : Str)) = false := by decide) :
    wpAny (model prog w) A (eval (.Name n pos) env) Q E s :=
  Name_function_global hk hx (loadGlobal_builtin (by rw [hg]; exact T.g.keeps x.i.toInCall.keep) (mg_none_of X T.g e) (by rw [hb]; exact T.b.keeps x.i.toInCall.keep) ((T.builtins n hn).trans hv) h) hd
theorem call_sliceX {x y : Value} {Q : Value → Shared → Prop} (I : InX s₀ L m cs cm fs s) (h : ∀ a s', InX s₀ L m cs cm ((a, sliceObj x y) :: fs) s' → Q (.ref a) s') : wpAny (model prog w) A (call (.type "slice") [x, y]) Q E s :=
  call_slice (h _ _ I.add)
variable {a : List Nat} {t : Tok} {value slice : Expr} {Q : Value → Shared → Prop}
theorem cutX_to {j : Int} {uj : Tok} (h0 : 0 ≤ j) (hsz : a.length ≤ 100000) (I : InX s₀ L m cs cm fs s) (h : ∀ s' t', InX s₀ L m cs cm fs s' → Q (.str (st (a.take j.toNat)) t') s')
    (hs : subscripted slice false (.str (st a) t) (.ref s.heap.objs.size) = operate [.ref s.heap.objs.size, .str (st a) t] (getItem (.str (st a) t) (.ref s.heap.objs.size)) := by with_unfolding_all rfl)
    (ht : ∀ r, letTemporaryGo value (.str (st a) t) r = pure () := by intro _; with_unfolding_all rfl) :
    wpAny (model prog w) A (subscriptTail value slice (.str (st a) t) (.ref s.heap.objs.size)) Q E { s with heap := s.heap.push { cls := .type "slice", data := .fields #[.none, .int j uj, .none] } } :=
  tail_of_ItemOn (SBG.sliceItem_ns kept_x I (fun s' t' i => by rw [slice_to h0]; exact h s' t' i) (by rw [st_len]; show _ ≤ 2 ^ 24; lia)) hs ht
theorem cutX_from {j : Int} {uj : Tok} (h0 : 0 ≤ j) (hsz : a.length ≤ 100000) (I : InX s₀ L m cs cm fs s) (h : ∀ s' t', InX s₀ L m cs cm fs s' → Q (.str (st (a.drop j.toNat)) t') s')
    (hs : subscripted slice false (.str (st a) t) (.ref s.heap.objs.size) = operate [.ref s.heap.objs.size, .str (st a) t] (getItem (.str (st a) t) (.ref s.heap.objs.size)) := by with_unfolding_all rfl)
    (ht : ∀ r, letTemporaryGo value (.str (st a) t) r = pure () := by intro _; with_unfolding_all rfl) :
    wpAny (model prog w) A (subscriptTail value slice (.str (st a) t) (.ref s.heap.objs.size)) Q E { s with heap := s.heap.push { cls := .type "slice", data := .fields #[.int j uj, .none, .none] } } :=
  tail_of_ItemOn (SBG.sliceItem_sn kept_x I (fun s' t' i => by rw [slice_from h0]; exact h s' t' i) (by rw [st_len]; show _ ≤ 2 ^ 24; lia)) hs ht
theorem cutX_last {j : Int} {uj : Tok} (h0 : j < 0) (hsz : a.length ≤ 100000) (I : InX s₀ L m cs cm fs s) (h : ∀ s' t', InX s₀ L m cs cm fs s' → Q (.str (st (a.drop (a.length - (-j).toNat))) t') s')
    (hs : subscripted slice false (.str (st a) t) (.ref s.heap.objs.size) = operate [.ref s.heap.objs.size, .str (st a) t] (getItem (.str (st a) t) (.ref s.heap.objs.size)) := by with_unfolding_all rfl)
    (ht : ∀ r, letTemporaryGo value (.str (st a) t) r = pure () := by intro _; with_unfolding_all rfl) :
    wpAny (model prog w) A (subscriptTail value slice (.str (st a) t) (.ref s.heap.objs.size)) Q E { s with heap := s.heap.push { cls := .type "slice", data := .fields #[.int j uj, .none, .none] } } :=
  tail_of_ItemOn (SBG.sliceItem_sn kept_x I (fun s' t' i => by rw [slice_last h0]; exact h s' t' i) (by rw [st_len]; show _ ≤ 2 ^ 24; lia)) hs ht
theorem slice_to_neg {l : List Nat} {j : Int} (h : j < 0) : Txt.slice (st l) none (some j) = st (l.take (l.length - (-j).toNat)) := by
  rw [sl_eq]
  have e : StrLaws.sliceText (st l) none (some j) = StrLaws.sliceText (st l) none (some (max 0 (j + (st l).length))) := by
    unfold StrLaws.sliceText
    have : Builtin.Str.strSliceIndices none (some j) 1 (st l).length = Builtin.Str.strSliceIndices none (some (max 0 (j + (st l).length))) 1 (st l).length := by
      have a2 : ¬ max 0 (j + ((st l).length : Int)) < 0 := by lia
      have a3 : max 0 (min (j + ((st l).length : Int)) (st l).length) = max 0 (min (max 0 (j + ((st l).length : Int))) (st l).length) := by lia
      simp [Builtin.Str.strSliceIndices, h, a2, a3]
    rw [this]
  rw [e, ← sl_eq, slice_to (by lia), st_len, show (max 0 (j + (l.length : Int))).toNat = l.length - (-j).toNat by lia]
theorem cutX_toneg {j : Int} {uj : Tok} (h0 : j < 0) (hsz : a.length ≤ 100000) (I : InX s₀ L m cs cm fs s) (h : ∀ s' t', InX s₀ L m cs cm fs s' → Q (.str (st (a.take (a.length - (-j).toNat))) t') s')
    (hs : subscripted slice false (.str (st a) t) (.ref s.heap.objs.size) = operate [.ref s.heap.objs.size, .str (st a) t] (getItem (.str (st a) t) (.ref s.heap.objs.size)) := by with_unfolding_all rfl)
    (ht : ∀ r, letTemporaryGo value (.str (st a) t) r = pure () := by intro _; with_unfolding_all rfl) :
    wpAny (model prog w) A (subscriptTail value slice (.str (st a) t) (.ref s.heap.objs.size)) Q E { s with heap := s.heap.push { cls := .type "slice", data := .fields #[.none, .int j uj, .none] } } :=
  tail_of_ItemOn (SBG.sliceItem_ns kept_x I (fun s' t' i => by rw [slice_to_neg h0]; exact h s' t' i) (by rw [st_len]; show _ ≤ 2 ^ 24; lia)) hs ht
end
end
section
open PySem PySem.W PyProof.Rows PySem.Calls
set_option maxRecDepth 100000
set_option maxHeartbeats 8000000
section
variable {M : Model} {A : Around} {R : GenEnd} {Y : Protocol} {n : Nat} {s₀ : Shared} {c : Code} {fs : List Frame} {s : Shared} {env : Env}
  {K : Flow → Sem PySem.Fin} {H : Value → Sem PySem.Fin} {gd : Bool → Bool} {lv : List Value → List Value}
theorem seg_If {test : Expr} {body orelse : List Stmt} {pos : Pos}
    (h : wpAny M (A.over c fs) (isTrue test env (eval test env)) (fun b s' => Seg M A R Y n s₀ c ((if b = true then execs body env else execs orelse env).wrap K H gd lv) fs s') (fun x s' => Seg M A R Y n s₀ c (H x) fs s') s) :
    Seg M A R Y n s₀ c ((exec (.If test body orelse pos) env).wrap K H gd lv) fs s := by
  rw [exec_If]
  show Seg M A R Y n s₀ c (.at pos fun _ => (isTrue test env (eval test env) >>= fun b => if b = true then execs body env else execs orelse env).wrap K H gd lv) fs s
  refine seg_at ?_
  rw [Sem.bind_eq_wrap', Sem.wrap_wrap]
  exact seg_wrap h
theorem seg_leafst {st : Stmt}
    (h : wpAny M (A.over c fs) (exec st env) (fun f s' => Seg M A R Y n s₀ c (K f) fs s') (fun x s' => Seg M A R Y n s₀ c (H x) fs s') s) : Seg M A R Y n s₀ c ((exec st env).wrap K H gd lv) fs s := seg_wrap h
/-- what stands behind a loop in a generator's frame -/
abbrev loopK (env : Env) (K : Flow → Sem PySem.Fin) (H : Value → Sem PySem.Fin) (gd : Bool → Bool) (lv : List Value → List Value) : Result → Sem PySem.Fin := fun r => ((match r with | .ok f => (.pure f : Sem Flow) | .error e => .raise e).onRaise fun (x : Value) => do
        if (← field x 1) == Value.none then unsupported "frame.own-activation:exception-without-traceback"
        setFlight x env.frame).wrap K H gd lv
theorem seg_For {target iter : Expr} {body orelse : List Stmt} {pos : Pos}
    (h : wpAny M (A.over c fs) (eval iter env) (fun xv s₁ => wpAny M (A.over c fs) (pyIter xv) (fun it s₂ => ∀ p, Seg M A R Y n s₀ (.forLoop target it body orelse env) (M.den (.forLoop target it body orelse env))
      (.ret (loopK env K H gd lv) none (gd false) (lv []) c p [] :: fs) s₂) (fun _ _ => False) s₁) (fun _ _ => False) s)
    (hs : ∀ x, foldedSetIterable iter env x = pure x := by intro _; rfl) :
    Seg M A R Y n s₀ c ((exec (.For target iter body orelse pos) env).wrap K H gd lv) fs s := by
  rw [exec_For]
  show Seg M A R Y n s₀ c (.at pos fun _ => (eval iter env >>= fun x => foldedSetIterable iter env x >>= fun x => standAt iter.pos >>= fun _ => holding [x] (pyIter x) >>= fun it => runOwn (.forLoop target it body orelse env) env).wrap K H gd lv) fs s
  refine seg_at ?_
  rw [Sem.bind_eq_wrap', Sem.wrap_wrap]
  refine seg_wrap (wpAny_mono h (fun xv s₁ h₁ => ?_) fun _ _ x => x.elim)
  rw [hs xv]
  show Seg M A R Y n s₀ c (.at iter.pos fun _ => (holding [xv] (pyIter xv) >>= fun it => runOwn (.forLoop target it body orelse env) env).wrap K H gd lv) fs s₁
  refine seg_at ?_
  rw [Sem.bind_eq_wrap', Sem.wrap_wrap]
  refine seg_wrap (wpAny_holding (wpAny_mono h₁ (fun it s₂ h₂ => ?_) fun _ _ x => x.elim))
  exact seg_call h₂
end
section
variable {prog : Program} {w : World} {A : Around} {R : GenEnd} {Y : Protocol} {n : Nat} {s₀ : Shared} {fs : List Frame} {s : Shared} {env : Env}
abbrev turnK (target : Expr) (it : Value) (body : List Stmt) (env : Env) : Flow → Sem PySem.Fin := fun f => match f with
            | .next | .cont => .pure (.again (.forLoop target it body [] env))
            | .brk => .pure (.done .next)
            | .ret v => .pure (.done (.ret v))
abbrev turnH (env : Env) : Value → Sem PySem.Fin := fun e => (do noteFrame e env; theTreesLotGoes e : Sem Unit).wrap (fun _ => .raise e) .raise id id
theorem seg_forLoop {target : Expr} {it : Value} {body : List Stmt}
    (h : wpAny (model prog w) (A.over (.forLoop target it body [] env) fs) (pyNext it) (fun r s₁ => match r with
      | none => Seg (model prog w) A R Y n s₀ (.block [] env) (leafOf (.ok .next)) fs s₁
      | some v => wpAny (model prog w) (A.over (.forLoop target it body [] env) fs) (letOwnedTupleGo target it v) (fun _ s₂ => wpAny (model prog w) (A.over (.forLoop target it body [] env) fs) (assign target env v) (fun _ s₃ =>
          Seg (model prog w) A R Y n s₀ (.forLoop target it body [] env) ((execs body env).wrap (turnK target it body env) (turnH env) id id) fs s₃) (fun _ _ => False) s₂) (fun _ _ => False) s₁) (fun _ _ => False) s) :
    Seg (model prog w) A R Y n s₀ (.forLoop target it body [] env) ((model prog w).den (.forLoop target it body [] env)) fs s := by
  show Seg _ A R Y n s₀ _ ((forTurn target it body [] env).onRaise (fun x => do noteFrame x env; theTreesLotGoes x)) fs s
  unfold forTurn
  rw [Sem.onRaise_eq_wrap, Sem.bind_eq_wrap', Sem.wrap_wrap]
  refine seg_wrap (wpAny_standAt ?_)
  rw [Sem.bind_eq_wrap', Sem.wrap_wrap]
  refine seg_wrap (wpAny_onRaise (wpAny_mono h (fun r s₁ h₁ => ?_) fun _ _ x => x.elim))
  cases r with
  | none =>
    refine seg_again rfl ?_
    exact h₁
  | some v =>
    dsimp only at h₁ ⊢
    rw [Sem.bind_eq_wrap', Sem.wrap_wrap]
    refine seg_wrap (wpAny_mono h₁ (fun _ s₂ h₂ => ?_) fun _ _ x => x.elim)
    rw [Sem.bind_eq_wrap', Sem.wrap_wrap]
    refine seg_wrap (wpAny_mono h₂ (fun _ s₃ h₃ => ?_) fun _ _ x => x.elim)
    rw [Sem.bind_eq_wrap', Sem.wrap_wrap]
    rw [Sem.wrap_congr (execs body env) _ _ (K' := turnK target it body env) (H' := turnH env) (fun f => by cases f <;> rfl)
        (fun e => by first | exact Sem.bind_eq_wrap _ _ | (show (do noteFrame e env; theTreesLotGoes e : Sem Unit).bind (fun _ => .raise e) = _; rw [Sem.bind_eq_wrap]))]
    exact h₃
end
end
section
open PySem PySem.W PyProof.Rows PySem.Calls
set_option maxRecDepth 100000
set_option maxHeartbeats 8000000
section
variable {prog : Program} {w : World} {A : Around} {E : Value → Shared → Prop} {s : Shared}
theorem pyNext_defQ {a : Addr} {g n : Nat} {gs : GenState} {P : Nat → Shared → Shared → Prop} {Y : Protocol} {Q : Option Value → Shared → Prop} (hh : A.handled = none)
    (hl : s.heap.NoLimit) (hroom : A.depth < recursionLimit)
    (hg : s.heap.IsGen a g) (hgs : s.gens[g]? = some gs)
    (hgo : gs.Goes (model prog w) A.in1 (fun n s₀ r s₁ => r = .ok (.ret .none) ∧ P n s₀ s₁) Y n (.send .none) (s.setGen g .running))
    (hY : ∀ v s₁ gs', gs'.bare = true → Y (n - 1) (s.setGen g .running) v s₁ (fun r' s'' => match n with
        | 0 => False
        | m + 1 => gs'.Goes (model prog w) A.in1 (fun n s₀ r s₁ => r = .ok (.ret .none) ∧ P n s₀ s₁) Y m r' s'') → Q (some v) (s₁.setGen g gs'))
    (hP : ∀ s₁, P n (s.setGen g .running) s₁ → ∀ h', (∀ b o, s₁.heap.get? b = some o → h'.get? b = some o) → Q none { s₁.setGen g .finished with heap := h' }) :
    wpAny (model prog w) A (pyNext (.ref a)) Q E s := by
  unfold pyNext
  refine wpAny_bind (wpAny_attempt (wpAny_callSpecial?_slot (name := Str.ofString "__next__") hg.typeIs slot_gen_next
    (wpAny_call_entry slot_gen_next hg.typeIs entry_gen_next ?_ (args_gen_next _))))
  show wpAny _ A.in1 (Builtin.Generator.genWake (.ref a) (.send .none)) _ _ s
  unfold Builtin.Generator.genWake
  refine wpAny_bind (wpAny_holding (wpAny_genNumber hg (wpAny_bind (wpAny_genState hgs ?_))))
  cases gs with
  | running => exact hgo.elim
  | finished => exact hgo.elim
  | _ =>
    refine wpAny_bind (wpAny_roomToWake hl hroom ?_)
    show wpAny _ A.in1 (.resume g (.send .none) [] _) _ _ s
    refine wpAny_resumeQ hgs hgo (fun x s₁ hx => ?_) (fun v s₁ gs' hb hv => ?_)
    · obtain ⟨rfl, hp⟩ := hx
      show wpAny _ A.in1 (newExc (.type "StopIteration") [] >>= _) _ _ _
      refine wpAny_bind ?_
      simp only [newExc, newTuple]
      refine wpAny_bind (wpAny_newObj_type ?_ (by size_fits))
      refine wpAny_bind (m := firstArgMember _ _) (wpAny_of_eq (a := Value.none) (by first | rfl | (simp only [firstArgMember]; rfl)) ?_)
      refine wpAny_newObj_type ?_ (by size_fits)
      simp only [raiseNew]
      refine wpAny_bind (wpAny_bind (wpAny_handled ?_))
      first | rw [show A.in1.handled = none from hh] | rw [hh]
      refine wpAny_throw ?_
      refine wpAny_bind (wpAny_isInstance (T := "StopIteration") (b := true) ⟨_, Heap.get?_push_size _ rfl, rfl⟩ isSubtype_stop ?_)
      exact wpAny_pure (hP s₁ hp _ fun b o hb => Heap.get?_push_of_some _ (Heap.get?_push_of_some _ hb))
    · exact wpAny_pure ⟨v, rfl, wpAny_pure (hY v s₁ gs' hb hv)⟩
end
/-- what the generator's own run leaves -/
structure Mid (N0 : Nat) (mu : List Addr) (a : Addr) (g : Nat) (s s' : Shared) : Prop where
  heap : ∀ b o, (b < N0 ∨ b ∈ mu) → s.heap.get? b = some o → s'.heap.get? b = some o
  gen : s.heap.IsGen a g → s'.heap.IsGen a g
  gens : s'.gens = s.gens
  os : s'.os = s.os
  drawn : s'.drawn = s.drawn
theorem Mid.refl {N0 : Nat} {mu : List Addr} {a : Addr} {g : Nat} {s : Shared} : Mid N0 mu a g s s := ⟨fun _ _ _ e => e, id, rfl, rfl, rfl⟩
theorem Mid.trans {N0 : Nat} {mu : List Addr} {a : Addr} {g : Nat} {s s' s'' : Shared} (x : Mid N0 mu a g s s') (y : Mid N0 mu a g s' s'') : Mid N0 mu a g s s'' :=
  ⟨fun b o h e => y.heap b o h (x.heap b o h e), fun h => y.gen (x.gen h), y.gens.trans x.gens, y.os.trans x.os, y.drawn.trans x.drawn⟩
/-- what one who walks the generator sees of a turn -/
structure Aft (N0 : Nat) (mu : List Addr) (s s' : Shared) : Prop where
  heap : ∀ b o, (b < N0 ∨ b ∈ mu) → s.heap.get? b = some o → s'.heap.get? b = some o
  bare : AllBare s.gens → AllBare s'.gens
  os : s'.os = s.os
  drawn : s'.drawn = s.drawn
/-- what he may change between two turns -/
structure Kp (mu : List Addr) (s s' : Shared) : Prop where
  keep : ∀ b o, b ∉ mu → s.heap.get? b = some o → s'.heap.get? b = some o
  live : ∀ b ∈ mu, ∃ o, s'.heap.get? b = some o
def Bet (mu : List Addr) (s s' : Shared) : Prop := Kp mu s s' ∧ s'.gens = s.gens
def GW (prog : Program) (w : World) (A : Around) (a : Addr) (N0 : Nat) (mu : List Addr) : List Value → Shared → Prop
  | [], s => ∀ s₂ (Q : Option Value → Shared → Prop) (E : Value → Shared → Prop), Bet mu s s₂ → (∀ s₃, Aft N0 mu s₂ s₃ → Q none s₃) → wpAny (model prog w) A (pyNext (.ref a)) Q E s₂
  | v :: vs, s => ∀ s₂ (Q : Option Value → Shared → Prop) (E : Value → Shared → Prop), Bet mu s s₂ → (∀ s₃, Aft N0 mu s₂ s₃ → GW prog w A a N0 mu vs s₃ → Q (some v) s₃) → wpAny (model prog w) A (pyNext (.ref a)) Q E s₂
def YP (N0 : Nat) (mu : List Addr) (a : Addr) (g : Nat) (vs : List Value) : Protocol := fun n s₀ v s' kap =>
  n + 1 ≤ vs.length ∧ (vs.drop (vs.length - (n + 1))).head? = some v ∧ Mid N0 mu a g s₀ s' ∧ ∀ s'', Kp mu s' s'' → kap (.send .none) s''
def RP (N0 : Nat) (mu : List Addr) (a : Addr) (g : Nat) : GenEnd := fun n s₀ r s₁ => r = .ok (.ret .none) ∧ (n = 0 ∧ Mid N0 mu a g s₀ s₁)
theorem bare_set {gens : Array GenState} {g : Nat} {x : GenState} (h : AllBare gens) (hx : x.bare = true) : AllBare (gens.setIfInBounds g x) := by
  intro y hy
  rw [Array.mem_iff_getElem] at hy
  obtain ⟨i, hi, rfl⟩ := hy
  rw [Array.getElem_setIfInBounds (by simpa using hi)]
  split
  · exact hx
  · exact h _ (Array.getElem_mem _)
theorem gw_of_goes {prog : Program} {w : World} {A : Around} {a : Addr} {g N0 : Nat} {mu : List Addr} {vs : List Value} {B : Heap} (hh : A.handled = none) (hroom : A.depth < recursionLimit) (hB : B.NoLimit) (hmu : ∀ b ∈ mu, B.get? b = none) (hBN : ∀ b o, B.get? b = some o → b < N0) (ha : a ∉ mu) :
    ∀ n, n ≤ vs.length → ∀ s gs, Keep B s.heap → s.heap.IsGen a g → s.gens[g]? = some gs →
      (∀ s₂, Kp mu s s₂ → gs.Goes (model prog w) A.in1 (RP N0 mu a g) (YP N0 mu a g vs) n (.send .none) s₂) → GW prog w A a N0 mu (vs.drop (vs.length - n)) s := by
  intro n
  induction n with
  | zero =>
    intro _ s gs hk hg hgs hgo
    rw [Nat.sub_zero, List.drop_length]
    intro s₂ Q E hb hq
    have k2 : Keep B s₂.heap := fun b o e => hb.1.keep b o (fun hm => by rw [hmu b hm] at e; cases e) (hk b o e)
    have g2 : s₂.heap.IsGen a g := by
      obtain ⟨o, nm, qn, ho, r⟩ := hg
      exact ⟨o, nm, qn, hb.1.keep _ _ ha ho, r⟩
    refine pyNext_defQ hh (hB.keeps k2) hroom g2 (by rw [hb.2]; exact hgs) (hgo (s₂.setGen g .running) ⟨hb.1.keep, hb.1.live⟩) (fun v s₁ gs' _ hy => ?_) (fun s₁ hp h' hk' => ?_)
    · have := hy.1
      have h0 := hy.2.2.2 (s₁.setGen g .running) ⟨fun _ _ _ e => e, fun b hb' => ?_⟩
      · exact h0.elim
      · obtain ⟨o, ho⟩ := hb.1.live b hb'
        exact ⟨o, hy.2.2.1.heap b o (.inr hb') ho⟩
    · refine hq _ ⟨fun b o hbo e => hk' _ _ (hp.2.heap b o hbo e), fun hbare => ?_, hp.2.os, hp.2.drawn⟩
      show AllBare (s₁.gens.setIfInBounds g .finished)
      rw [hp.2.gens]
      exact bare_set (bare_set hbare rfl) rfl
  | succ n ih =>
    intro hn s gs hk hg hgs hgo
    have hd : vs.drop (vs.length - (n + 1)) = vs[vs.length - (n + 1)] :: vs.drop (vs.length - n) := by
      rw [List.drop_eq_getElem_cons (by omega)]; congr 2; omega
    rw [hd]
    intro s₂ Q E hb hq
    have k2 : Keep B s₂.heap := fun b o e => hb.1.keep b o (fun hm => by rw [hmu b hm] at e; cases e) (hk b o e)
    have g2 : s₂.heap.IsGen a g := by
      obtain ⟨o, nm, qn, ho, r⟩ := hg
      exact ⟨o, nm, qn, hb.1.keep _ _ ha ho, r⟩
    refine pyNext_defQ hh (hB.keeps k2) hroom g2 (by rw [hb.2]; exact hgs) (hgo (s₂.setGen g .running) ⟨hb.1.keep, hb.1.live⟩) (fun v s₁ gs' hbr hy => ?_) (fun s₁ hp h' hk' => ?_)
    · obtain ⟨h1, h2, h3, h4⟩ := hy
      simp only [Nat.add_sub_cancel] at h2
      rw [hd, List.head?_cons] at h2
      cases h2
      have hsz : g < s₁.gens.size := by
        rw [h3.gens]
        show g < (s₂.gens.setIfInBounds g .running).size
        rw [Array.size_setIfInBounds, hb.2]
        exact (Array.getElem?_eq_some_iff.mp hgs).1
      refine hq _ ⟨h3.heap, fun hbare => ?_, h3.os, h3.drawn⟩ (ih (by omega) (s₁.setGen g gs') gs' (fun b o e => h3.heap b o (.inl (hBN b o e)) (k2 b o e)) (h3.gen g2) ?_ fun s₅ k => h4 s₅ ⟨k.keep, k.live⟩)
      · show AllBare (s₁.gens.setIfInBounds g gs')
        rw [h3.gens]
        exact bare_set (bare_set hbare rfl) hbr
      · show (s₁.gens.setIfInBounds g gs')[g]? = some gs'
        rw [Array.getElem?_setIfInBounds]; simp [hsz]
    · exact absurd hp.1 (by omega)
end
section
open PySem PySem.W PyProof.Rows PySem.Calls
set_option maxRecDepth 100000
set_option maxHeartbeats 8000000
section
variable {prog : Program} {w : World} {A : Around} {R : Result → Shared → Prop} {s : Shared}
theorem Bet.trans' {mu : List Addr} {s s' s'' : Shared} (x : Bet mu s s') (y : Bet mu s' s'') : Bet mu s s'' := ⟨⟨fun b o hb e => y.1.keep b o hb (x.1.keep b o hb e), y.1.live⟩, y.2.trans x.2⟩
theorem comp_loop_gw {elt iter : Expr} {x : Str} {px : Pos} {scope : Scope} {pos : Pos} {a D : Addr} {N0 : Nat} {cenv : Env} {m : Str → Option Value} {vs : List Value} (F : Value → Value → Prop)
    (hx : cenv.kindOf x = some .local) (hp : (cenv.scope.kind == .class || (cenv.scope.kind == .module && cenv.locals != cenv.globals)) = false)
    (hDC : D ≠ cenv.locals) (hN : N0 ≤ D ∧ N0 ≤ cenv.locals) (hg : GW prog w A a N0 [D, cenv.locals] vs s) (hacc : s.heap.PlainList D #[]) (hn : s.heap.Ns cenv.locals m) (hsz : vs.length ≤ sizeLine)
    (helt : ∀ v s₂ m₂ E', v ∈ vs → s₂.heap.Ns cenv.locals m₂ → m₂ x = some v → (∀ b o, b < N0 → s.heap.get? b = some o → s₂.heap.get? b = some o) →
      wpAny (model prog w) A (eval elt cenv) (fun y s₃ => F v y ∧ Keeps s₂ s₃) E' s₂)
    (hR : ∀ s' m' ys, s'.heap.Ns cenv.locals m' → s'.heap.PlainList D ys → Paired F vs ys.toList → (∀ b o, b < N0 → s.heap.get? b = some o → s'.heap.get? b = some o) → (AllBare s.gens → AllBare s'.gens) → s'.os = s.os → s'.drawn = s.drawn → R (.ok .next) s') :
    codeAny (model prog w) A (.compLoop (.ListComp elt [⟨.Name x px, iter, [], 0⟩] scope pos) 0 (.ref a) (.ref D) cenv) R s := by
  have lv : ∀ {h : Heap} {ys : Array Value} {mm : Str → Option Value}, h.PlainList D ys → h.Ns cenv.locals mm → ∀ b ∈ [D, cenv.locals], ∃ o, h.get? b = some o := by
    intro h ys mm h1 h2 b hb
    rcases List.mem_cons.mp hb with rfl | hb
    · obtain ⟨n, e⟩ := h1; exact ⟨_, e⟩
    · rw [List.mem_singleton.mp hb]; obtain ⟨o, _, _, e, _⟩ := h2; exact ⟨o, e⟩
  have live0 := lv hacc hn
  refine abs2 (fun k s' => ∃ dn rs m' ys sy, vs = dn ++ rs ∧ k = rs.length + 1 ∧ GW prog w A a N0 [D, cenv.locals] rs sy ∧ Bet [D, cenv.locals] sy s' ∧ s'.heap.PlainList D ys ∧ s'.heap.Ns cenv.locals m' ∧ Paired F dn ys.toList ∧
      (∀ b o, b < N0 → s.heap.get? b = some o → s'.heap.get? b = some o) ∧ (AllBare s.gens → AllBare s'.gens) ∧ s'.os = s.os ∧ s'.drawn = s.drawn) ?_
  intro Iv hv1 hv2
  refine codeAny_compLoop_tests Iv ?_ (vs.length + 1) (hv2 _ _
    ⟨[], vs, m, #[], s, rfl, rfl, hg, ⟨⟨fun _ _ _ e => e, live0⟩, rfl⟩, hacc, hn, by simpa using Paired.nil, fun _ _ _ e => e, id, rfl, rfl⟩)
  intro k s' hxx
  refine ex5_11 (hv1 _ _ hxx) ?_
  clear hxx
  intro dn rs m' ys sy hvs hkk hgw hbet hacc' hn' hF hk hbare hos hdr
  cases rs with
  | nil =>
    refine hgw s' _ _ hbet fun s₃ af => ?_
    dsimp only
    rw [List.append_nil] at hvs
    refine hR s₃ m' ys (hn'.at' fun o e => af.heap _ o (.inr (by simp)) e) (hacc'.at fun o e => af.heap _ o (.inr (by simp)) e) (hvs ▸ hF) (fun b o hb e => af.heap b o (.inl hb) (hk b o hb e)) (fun h => af.bare (hbare h)) (af.os.trans hos) (af.drawn.trans hdr)
  | cons v rs =>
    refine hgw s' _ _ hbet fun s₃ af gw₃ => ?_
    dsimp only
    refine wpAny_assign_Name (wpAny_storeName_local hx (hn'.at' fun o e => af.heap _ o (.inr (by simp)) e) (fun h₂ hn₂ hs₂ => ?_) hp)
    refine wpAny_pure ?_
    rw [if_pos rfl]
    have hvm : v ∈ vs := by rw [hvs]; simp
    have low : ∀ b o, b < N0 → s.heap.get? b = some o → h₂.get? b = some o := fun b o hb e => hs₂.extBut b o (Nat.ne_of_lt (Nat.lt_of_lt_of_le hb hN.2)) (af.heap b o (.inl hb) (hk b o hb e))
    refine wpAny_mono (helt v _ _ _ hvm hn₂ (by simp) low) (fun y s₄ h₄ => ?_) fun _ _ e => e
    refine ex0_2 h₄ ?_
    clear h₄
    intro hFy hx4
    refine ex2_2 hx4 ?_
    clear hx4
    intro h₄ tk₄ eqs hk₄
    subst eqs
    have hacc₂ : h₂.PlainList D ys := (hacc'.at fun o e => af.heap _ o (.inr (by simp)) e).at fun o e => hs₂.extBut _ o hDC e
    have hys : ys.size ≤ sizeLine := by
      have e1 := hF.length
      have e2 : dn.length ≤ vs.length := by rw [hvs]; simp
      have e4 : ys.toList.length = ys.size := by simp
      omega
    refine wpAny_list_append_plain (hsz := hys) (hacc₂.at fun o e => hk₄ _ o e) fun h₅ hl₅ hs₅ => ?_
    refine ⟨rs.length + 1, by rw [hkk]; simp, hv2 _ _ ⟨dn ++ [v], rs, _, ys.push y, s₃, by simp [hvs], rfl, gw₃, ⟨⟨fun b o hb e => ?_, lv hl₅ ((hn₂.keeps hk₄).sameBut hs₅ (Ne.symm hDC))⟩, rfl⟩, hl₅, (hn₂.keeps hk₄).sameBut hs₅ (Ne.symm hDC), by simpa using Paired.snoc hF hFy, fun b o hb e => ?_, fun h => af.bare (hbare h), af.os.trans hos, af.drawn.trans hdr⟩⟩
    · simp only [List.mem_cons, List.not_mem_nil, or_false, not_or] at hb
      exact hs₅.extBut b o hb.1 (hk₄ b o (hs₂.extBut b o hb.2 e))
    · exact hs₅.extBut b o (Nat.ne_of_lt (Nat.lt_of_lt_of_le hb hN.1)) (hk₄ b o (low b o hb e))
end
section
variable {prog : Program} {w : World} {A : Around} {E : Value → Shared → Prop} {env : Env} {s : Shared}
/-- a comprehension over a generator: the list of what each value gives -/
theorem comp_gw {elt iter : Expr} {x : Str} {px : Pos} {scope : Scope} {pos : Pos} {Q : Value → Shared → Prop} (F : Value → Value → Prop)
    (hfree : ∀ y ∈ scope.names, y.2 ≠ .free) (hcell : ∀ y ∈ scope.names, y.2 ≠ .cell) (hkind : scope.kind = .function)
    (hnames : ∀ y ∈ scope.names, y.2 = .local → scope.names.lookup y.1 = some .local) (hx : scope.names.lookup x = some .local)
    (h : wpAny (model prog w) A (eval iter env) (fun xv s₁ => ∃ a g vs N0, xv = .ref a ∧ s₁.heap.IsGen a g ∧ N0 ≤ s₁.heap.objs.size ∧ vs.length ≤ sizeLine ∧
      (∀ mu, (∀ b ∈ mu, s₁.heap.objs.size ≤ b) → GW prog w A a N0 mu vs s₁) ∧
      (∀ C v s₂ m₂ E', v ∈ vs → s₂.heap.Ns C m₂ → m₂ x = some v → (∀ b o, b < N0 → s₁.heap.get? b = some o → s₂.heap.get? b = some o) → wpAny (model prog w) A (eval elt (compEnv scope C env)) (fun y s₃ => F v y ∧ Keeps s₂ s₃) E' s₂) ∧
      (∀ D h' gens' tk ys, N0 ≤ D → s₁.heap.get? D = none → h'.IsList D ys → Paired F vs ys.toList → (∀ b o, b < N0 → s₁.heap.get? b = some o → h'.get? b = some o) → (AllBare s₁.gens → AllBare gens') → Q (.ref D) { s₁ with heap := h', gens := gens', toks := tk })) E s)
    (hs : ∀ x, foldedSetIterable iter env x = pure x := by intro _; rfl) :
    wpAny (model prog w) A (eval (.ListComp elt [⟨.Name x px, iter, [], 0⟩] scope pos) env) Q E s := by
  refine wpAny_ListComp hfree hkind hnames (wpAny_mono h (fun xv s₂ h₁ => ?_) fun _ _ e => e) hs
  refine ex4_7 h₁ ?_
  clear h₁
  intro a g vs N0 eqx hgen hN hsz hgw helt hQ
  subst eqx
  refine wpAny_pyIter_gen hgen ?_
  refine wpAny_newObj_type (wpAny_newFunctionEnv hcell (by intro y hy; simp at hy) (fun h₁ hns₁ hsb₁ => ?_) hkind)
  dsimp only at hns₁ hsb₁ ⊢
  generalize hH2 : s₂.heap.push { cls := .type "list", dict := none, data := .seq ([] : List Value).toArray } = H2 at hns₁ hsb₁ ⊢
  have hC : H2.objs.size = s₂.heap.objs.size + 1 := by rw [← hH2, Heap.size_push]
  have hDC : s₂.heap.objs.size ≠ H2.objs.size := by rw [hC]; exact Nat.ne_of_lt (Nat.lt_succ_self _)
  have below : ∀ b, b < s₂.heap.objs.size → b ≠ H2.objs.size ∧ b ≠ s₂.heap.objs.size := fun b hb => ⟨by rw [hC]; exact Nat.ne_of_lt (Nat.lt_succ_of_lt hb), Nat.ne_of_lt hb⟩
  have old : ∀ b o, s₂.heap.get? b = some o → h₁.get? b = some o := fun b o e => hsb₁.extBut b o (below b (Heap.lt_size e)).1 (Heap.get?_push_of_some _ (hH2 ▸ Heap.get?_push_of_some _ e))
  have hacc : h₁.PlainList s₂.heap.objs.size #[] := ⟨_, hsb₁.extBut _ _ hDC (Heap.get?_push_of_some _ (hH2 ▸ Heap.get?_push_size _ rfl))⟩
  have fresh : s₂.heap.get? s₂.heap.objs.size = none := Heap.get?_none_of_le (Nat.le_refl _)
  have hN2 : N0 ≤ s₂.heap.objs.size ∧ N0 ≤ H2.objs.size := ⟨hN, by rw [hC]; exact Nat.le_succ_of_le hN⟩
  have gw1 : ∀ tk, GW prog w A a N0 [s₂.heap.objs.size, H2.objs.size] vs { s₂ with heap := h₁, toks := tk } := by
    intro tk
    have := hgw [s₂.heap.objs.size, H2.objs.size] (fun b hb => by
      rcases List.mem_cons.mp hb with rfl | hb
      · exact Nat.le_refl _
      · rw [List.mem_singleton.mp hb, hC]; exact Nat.le_succ _)
    cases vs with
    | nil => exact fun s₃ Q E hb hq => this s₃ Q E ⟨⟨fun b o hbm e => hb.1.keep b o hbm (old b o e), hb.1.live⟩, hb.2⟩ hq
    | cons v vs => exact fun s₃ Q E hb hq => this s₃ Q E ⟨⟨fun b o hbm e => hb.1.keep b o hbm (old b o e), hb.1.live⟩, hb.2⟩ hq
  have loop : ∀ s₃ : Shared, s₃ = { s₂ with heap := h₁, toks := s₂.toks + ([] : List (Str × Value)).length } →
      codeAny (model prog w) A (.compLoop (.ListComp elt [⟨.Name x px, iter, [], 0⟩] scope pos) 0 (.ref a) (.ref s₂.heap.objs.size) (compEnv scope H2.objs.size env))
        (fun r s' => ∃ m, s'.heap.Ns H2.objs.size m ∧ ∀ h', Heap.SameBut H2.objs.size s'.heap h' →
            match r with | .ok _ => Q (.ref s₂.heap.objs.size) { s' with heap := h' } | .error x => wpAny (model prog w) A (passOn "comprehension.variables-let-go" x (compEnv scope H2.objs.size env)) Q E { s' with heap := h' }) s₃ := by
    rintro s₃ rfl
    refine comp_loop_gw (cenv := compEnv scope H2.objs.size env) (N0 := N0) F hx (by simp [compEnv, hkind]) hDC hN2 (gw1 _) hacc hns₁ hsz
      (fun v s₃ m₃ E' hv hn hm hk => helt _ v s₃ m₃ E' hv hn hm fun b o hb e => hk b o hb (old b o e)) fun s' m' ys hn ha hF hk hb hos hdr => ?_
    refine ⟨m', hn, fun h' hs' => ?_⟩
    dsimp only at hb hos hdr hk ⊢
    have := hQ s₂.heap.objs.size h' s'.gens s'.toks ys hN fresh (ha.isList.extBut hs'.extBut hDC) hF (fun b o hbl e => hs'.extBut b o (Nat.ne_of_lt (Nat.lt_of_lt_of_le hbl hN2.2)) (hk b o hbl (old b o e))) hb
    rw [← hos, ← hdr] at this
    exact this
  exact codeAny_compStart_list (loop _ rfl) (wpAny_pyIter_gen (hgen.keeps old) (loop _ rfl))
end
end
section
open PySem PySem.W PyProof.Rows PySem.Calls
set_option maxRecDepth 100000
set_option maxHeartbeats 8000000
/-- a step that changes none but the frame L -/
def LK (L : Addr) (s s' : Shared) : Prop := ∃ h' tk, s' = { s with heap := h', toks := tk } ∧ ∀ b o, b ≠ L → s.heap.get? b = some o → h'.get? b = some o
def tbOf (pre : Option Stmt) (test : Expr) (p4 p5 p6 p7 : Pos) : List Stmt :=
  match pre with
  | none => [.If test [.Expr (.Yield (some (.Name "elem" p4)) p5) p6] [] p7]
  | some st => [st, .If test [.Expr (.Yield (some (.Name "elem" p4)) p5) p6] [] p7]
def preThen (prog : Program) (w : World) (A' : Around) (env : Env) (pre : Option Stmt) (P : Shared → Prop) (s : Shared) : Prop := match pre with
  | none => P s
  | some st => wpAny (model prog w) A' (exec st env) (fun f s₂ => f = .next ∧ P s₂) (fun _ _ => False) s
theorem drop_tail {cond : Value → Bool} {xs : List Value} {i : Nat} : (xs.filter cond).drop ((xs.filter cond).length - ((xs.drop i).filter cond).length) = (xs.drop i).filter cond := by
  conv => lhs; rw [← List.take_append_drop i xs, List.filter_append]
  rw [List.length_append, List.take_append_drop, Nat.add_sub_cancel, List.drop_left]
section
variable {prog : Program} {w : World} {A : Around} {env : Env} {pre : Option Stmt} {test : Expr} {p1 p2 p3 p4 p5 p6 p7 : Pos} {B : Heap} {row a : Addr} {g N0 : Nat} {mu : List Addr} {items : Array Value} {cond : Value → Bool}
theorem gen_loop (hh : A.handled = none) (hk : env.scope.kind = .function) (he : env.kindOf "elem" = some .local) (hco : env.scope.isCoroutine = false) (hi : interactive env = false)
    (hrow : B.IsList row items) (hBN : ∀ b o, B.get? b = some o → b < N0) (hLN : N0 ≤ env.locals) (hLmu : env.locals ∉ mu) (haL : a ≠ env.locals) (hmu : ∀ b ∈ mu, B.get? b = none)
    (htest : ∀ A' v s₁ m, A'.handled = none → v ∈ items → s₁.heap.Ns env.locals m → m "elem" = some v → Keep B s₁.heap → preThen prog w A' env pre (fun s₂ =>
      wpAny (model prog w) A' (isTrue test env (eval test env)) (fun b s₃ => b = cond v ∧ LK env.locals s₁ s₃ ∧ ∃ m₃, s₃.heap.Ns env.locals m₃ ∧ m₃ "elem" = some v) (fun _ _ => False) s₂) s₁)
    {It : Addr} (hIr : row ≠ It) (hIL : It ≠ env.locals) (hImu : It ∉ mu) (hIN : N0 ≤ It) (hIa : It ≠ a) {fr : Frame} {K H gd lv c0 p} (hfr : fr = .ret (loopK env K H gd lv) none false [] c0 p [])
    (hend : ∀ s₀ s₁, Mid N0 mu a g s₀ s₁ → Seg (model prog w) A (RP N0 mu a g) (YP N0 mu a g (items.toList.filter cond)) 0 s₀ c0 (loopK env K H gd lv (.ok .next)) [] s₁) :
    ∀ k i, items.size - i = k → i ≤ items.size → ∀ s₀ s m, Mid N0 mu a g s₀ s → s.heap.IsListIter It row i → s.heap.Ns env.locals m → Keep B s.heap →
      Seg (model prog w) A (RP N0 mu a g) (YP N0 mu a g (items.toList.filter cond)) ((items.toList.drop i).filter cond).length s₀ (.forLoop (.Name "elem" p1) (.ref It) (tbOf pre test p4 p5 p6 p7) [] env)
        ((model prog w).den (.forLoop (.Name "elem" p1) (.ref It) (tbOf pre test p4 p5 p6 p7) [] env)) [fr] s := by
  intro k
  induction k with
  | zero =>
    intro i hki hi' s₀ s m mid hit hns hkb
    have : i = items.size := by omega
    subst this
    rw [show items.toList.drop items.size = [] by simp, List.filter_nil, List.length_nil]
    refine seg_forLoop ?_
    have hA : (A.over (.forLoop (.Name "elem" p1) (.ref It) (tbOf pre test p4 p5 p6 p7) [] env) [fr]).handled = none := by subst hfr; exact hh
    refine (Walks.list hA It row hIr items).done s _ _ ⟨hit, hrow.at fun o e => hkb _ o e⟩ fun h' tk hk' => ?_
    dsimp only
    subst hfr
    refine seg_leaf _ ?_
    refine hend _ _ (mid.trans ⟨fun b o hb e => hk' b o ?_ e, fun ⟨o, nm, qn, e, r⟩ => ⟨o, nm, qn, hk' _ _ ?_ e, r⟩, rfl, rfl, rfl⟩)
    · simp only [List.mem_singleton]
      rintro rfl
      exact hb.elim (fun h => Nat.lt_irrefl _ (Nat.lt_of_lt_of_le h hIN)) hImu
    · simp only [List.mem_singleton]; exact hIa.symm
  | succ k ih =>
    intro i hki hi' s₀ s m mid hit hns hkb
    have hlt : i < items.size := by omega
    have hd : items.toList.drop i = items[i] :: items.toList.drop (i + 1) := by
      rw [List.drop_eq_getElem_cons (by simpa using hlt)]; simp
    have hA : (A.over (.forLoop (.Name "elem" p1) (.ref It) (tbOf pre test p4 p5 p6 p7) [] env) [fr]).handled = none := by subst hfr; exact hh
    refine seg_forLoop ?_
    refine (Walks.list hA It row hIr items).item i s _ _ hlt ⟨hit, hrow.at fun o e => hkb _ o e⟩ fun v h' tk hv hst hk' => ?_
    have hv' : v = items[i] := by rw [Array.getElem?_eq_getElem hlt] at hv; exact (Option.some.inj hv).symm
    subst hv'
    dsimp only
    refine wpAny_pure ?_
    have hns' : h'.Ns env.locals m := hns.at' fun o e => hk' _ o (by simp only [List.mem_singleton]; exact hIL.symm) e
    refine wpAny_assign_Name (wpAny_storeName_local he hns' (fun h₂ hn₂ hs₂ => ?_) (by rw [hk]; rfl))
    have low₂ : ∀ b o, b ≠ It → b ≠ env.locals → s.heap.get? b = some o → h₂.get? b = some o := fun b o h1 h2 e => hs₂.extBut b o h2 (hk' b o (by simp only [List.mem_singleton]; exact h1) e)
    have kb₂ : Keep B h₂ := fun b o e => low₂ b o (fun q => Nat.lt_irrefl _ (Nat.lt_of_lt_of_le (q ▸ hBN b o e) hIN)) (fun q => Nat.lt_irrefl _ (Nat.lt_of_lt_of_le (q ▸ hBN b o e) hLN)) (hkb b o e)
    have hit₂ : h₂.IsListIter It row (i + 1) := hst.1.at fun o e => hs₂.extBut _ o hIL e
    have T := htest (A.over (.forLoop (.Name "elem" p1) (.ref It) (tbOf pre test p4 p5 p6 p7) [] env) [fr]) items[i] { s with heap := h₂, toks := tk + 1 } _ hA (Array.getElem_mem hlt) hn₂ (by simp) kb₂
    -- behind the test
    have fin : ∀ s₃ m₃, LK env.locals { s with heap := h₂, toks := tk + 1 } s₃ → s₃.heap.Ns env.locals m₃ → m₃ "elem" = some items[i] →
        Seg (model prog w) A (RP N0 mu a g) (YP N0 mu a g (items.toList.filter cond)) ((items.toList.drop i).filter cond).length s₀ (.forLoop (.Name "elem" p1) (.ref It) (tbOf pre test p4 p5 p6 p7) [] env)
          ((if cond items[i] = true then execs [.Expr (.Yield (some (.Name "elem" p4)) p5) p6] env else execs [] env).wrap (fun f => match f with | .next => (execs [] env).wrap (turnK (.Name "elem" p1) (.ref It) (tbOf pre test p4 p5 p6 p7) env) (turnH env) id id | f => turnK (.Name "elem" p1) (.ref It) (tbOf pre test p4 p5 p6 p7) env f) (turnH env) id id) [fr] s₃ := by
      rintro s₃ m₃ ⟨h₃, tk₃, rfl, hk₃⟩ hn₃ he₃
      have kb₃ : Keep B h₃ := fun b o e => hk₃ b o (fun q => Nat.lt_irrefl _ (Nat.lt_of_lt_of_le (q ▸ hBN b o e) hLN)) (kb₂ b o e)
      have hit₃ : h₃.IsListIter It row (i + 1) := hit₂.at fun o e => hk₃ _ o hIL e
      have mid₃ : Mid N0 mu a g s₀ { s with heap := h₃, toks := tk₃ } := by
        refine mid.trans ⟨fun b o hb e => hk₃ b o ?_ (low₂ b o ?_ ?_ e), fun ⟨o, nm, qn, e, r⟩ => ⟨o, nm, qn, hk₃ _ _ haL (low₂ _ _ hIa.symm haL e), r⟩, rfl, rfl, rfl⟩
        · rintro rfl; exact hb.elim (fun h => Nat.lt_irrefl _ (Nat.lt_of_lt_of_le h hLN)) hLmu
        · rintro rfl; exact hb.elim (fun h => Nat.lt_irrefl _ (Nat.lt_of_lt_of_le h hIN)) hImu
        · rintro rfl; exact hb.elim (fun h => Nat.lt_irrefl _ (Nat.lt_of_lt_of_le h hLN)) hLmu
      cases hc : cond items[i] with
      | false =>
        rw [if_neg Bool.false_ne_true]
        refine seg_execs_nil ?_
        refine seg_execs_nil ?_
        refine seg_again rfl ?_
        rw [hd, List.filter_cons_of_neg (by simp [hc])]
        exact ih (i + 1) (by omega) hlt s₀ _ _ mid₃ hit₃ hn₃ kb₃
      | true =>
        rw [if_pos rfl]
        have hL : ((items.toList.drop i).filter cond).length = ((items.toList.drop (i + 1)).filter cond).length + 1 := by rw [hd, List.filter_cons_of_pos hc, List.length_cons]
        have hdt := drop_tail (cond := cond) (xs := items.toList) (i := i)
        have hle : ((items.toList.drop i).filter cond).length ≤ (items.toList.filter cond).length := by
          have := congrArg List.length hdt; rw [List.length_drop] at this; omega
        rw [hL] at hdt hle ⊢
        refine seg_execs_cons ?_
        refine seg_Expr_Yield (by subst hfr; rfl) rfl (by subst hfr; rfl) ?_ hco hi
        refine wpAny_Name (wpAny_loadName_local hk he hn₃ he₃ ?_)
        intro kap hkap
        refine ⟨hle, ?_, mid₃, fun s₅ kp => hkap .none s₅ ?_⟩
        · rw [hdt, hd, List.filter_cons_of_pos hc]; rfl
        · dsimp only
          refine seg_execs_nil ?_
          refine seg_execs_nil ?_
          refine seg_again rfl ?_
          refine ih (i + 1) (by omega) hlt s₅ s₅ _ Mid.refl (hit₃.at fun o e => kp.keep _ o hImu e) (hn₃.at' fun o e => kp.keep _ o hLmu e) fun b o e => kp.keep b o (fun hm => by rw [hmu b hm] at e; cases e) (kb₃ b o e)
    cases pre with
    | none =>
      refine seg_execs_cons ?_
      refine seg_If ?_
      have T2 : wpAny _ _ (isTrue test env (eval test env)) _ _ _ := T
      refine wpAny_mono T2 (fun b s₃ h₃ => ?_) fun _ _ x => x.elim
      obtain ⟨rfl, lk, m₃, n₃, e₃⟩ := h₃
      exact fin s₃ m₃ lk n₃ e₃
    | some st =>
      refine seg_execs_cons ?_
      have T2 : wpAny _ _ (exec st env) _ _ _ := T
      refine seg_leafst (wpAny_mono T2 (fun f s₂ h₂ => ?_) fun _ _ x => x.elim)
      obtain ⟨rfl, T3⟩ := h₂
      dsimp only
      refine seg_execs_cons ?_
      refine seg_If ?_
      refine wpAny_mono T3 (fun b s₃ h₃ => ?_) fun _ _ x => x.elim
      obtain ⟨rfl, lk, m₃, n₃, e₃⟩ := h₃
      exact fin s₃ m₃ lk n₃ e₃
/-- the whole of a selector's generator: from the state that its call leaves -/
theorem gen_gw (hh : A.handled = none) (hroom : A.depth < recursionLimit) (hk : env.scope.kind = .function) (he : env.kindOf "elem" = some .local) (hr : env.kindOf "result" = some .local) (hco : env.scope.isCoroutine = false) (hi : interactive env = false)
    (hB : B.NoLimit) (hrow : B.IsList row items) (hBN : ∀ b o, B.get? b = some o → b < N0) (hLN : N0 ≤ env.locals) (haL : a ≠ env.locals)
    (htest : ∀ A' v s₁ m, A'.handled = none → v ∈ items → s₁.heap.Ns env.locals m → m "elem" = some v → Keep B s₁.heap → preThen prog w A' env pre (fun s₂ =>
      wpAny (model prog w) A' (isTrue test env (eval test env)) (fun b s₃ => b = cond v ∧ LK env.locals s₁ s₃ ∧ ∃ m₃, s₃.heap.Ns env.locals m₃ ∧ m₃ "elem" = some v) (fun _ _ => False) s₂) s₁)
    {s : Shared} {m : Str → Option Value} (hns : s.heap.Ns env.locals m) (hmr : m "result" = some (.ref row)) (hkb : Keep B s.heap) (hgen : s.heap.IsGen a g)
    (hgs : s.gens[g]? = some (.fresh (.func [.For (.Name "elem" p1) (.Name "result" p2) (tbOf pre test p4 p5 p6 p7) [] p3] env))) :
    ∀ mu, (∀ b ∈ mu, s.heap.objs.size ≤ b) → GW prog w A a N0 mu (items.toList.filter cond) s := by
  intro mu hmu
  have fresh : ∀ b ∈ mu, s.heap.get? b = none := fun b hb => Heap.get?_none_of_le (hmu b hb)
  have hmuB : ∀ b ∈ mu, B.get? b = none := fun b hb => by
    cases q : B.get? b with
    | none => rfl
    | some o => have := hkb b o q; rw [fresh b hb] at this; cases this
  have hamu : a ∉ mu := fun hm => by
    obtain ⟨o, _, _, e, _⟩ := hgen
    rw [fresh a hm] at e; cases e
  have hLmu : env.locals ∉ mu := fun hm => by
    obtain ⟨o, _, _, e, _⟩ := hns
    rw [fresh _ hm] at e; cases e
  have key := gw_of_goes (prog := prog) (w := w) (A := A) (a := a) (g := g) (N0 := N0) (mu := mu) (vs := items.toList.filter cond) hh hroom hB hmuB hBN hamu (items.toList.filter cond).length (Nat.le_refl _) s _ hkb hgen hgs
  rw [Nat.sub_self, List.drop_zero] at key
  refine key fun s₂ kp => ⟨rfl, ?_⟩
  have hns₂ : s₂.heap.Ns env.locals m := hns.at' fun o e => kp.keep _ o hLmu e
  have kb₂ : Keep B s₂.heap := fun b o e => kp.keep b o (fun hm => by rw [hmuB b hm] at e; cases e) (hkb b o e)
  have gen₂ : s₂.heap.IsGen a g := by
    obtain ⟨o, nm, qn, e, r⟩ := hgen
    exact ⟨o, nm, qn, kp.keep _ _ hamu e, r⟩
  refine seg_func ?_
  refine seg_execs_cons ?_
  refine seg_For ?_
  refine wpAny_Name (wpAny_loadName_local hk hr hns₂ hmr ?_)
  have hrow₂ : s₂.heap.IsList row items := hrow.at fun o e => kb₂ _ o e
  refine wpAny_pyIter_list hrow₂ fun p => ?_
  have pk : Keep s₂.heap (s₂.heap.push { cls := .type "list_iterator", data := .fields #[.ref row, .int 0 0] }) := fun _ _ e => Heap.get?_push_of_some _ e
  have hItmu : s₂.heap.objs.size ∉ mu := fun hm => by
    obtain ⟨o, e⟩ := kp.live _ hm
    exact absurd (Heap.lt_size e) (Nat.lt_irrefl _)
  have ne_of : ∀ {b o}, s₂.heap.get? b = some o → b ≠ s₂.heap.objs.size := fun e => Nat.ne_of_lt (Heap.lt_size e)
  obtain ⟨orow, horow, _⟩ := id hrow₂
  obtain ⟨oL, _, _, hoL, _⟩ := id hns₂
  obtain ⟨og, _, _, hog, _⟩ := id gen₂
  have hL0 : N0 ≤ s₂.heap.objs.size := Nat.le_trans hLN (Nat.le_of_lt (Heap.lt_size hoL))
  refine gen_loop (prog := prog) (w := w) (A := A.in1) (env := env) (pre := pre) (test := test) (p1 := p1) (p4 := p4) (p5 := p5) (p6 := p6) (p7 := p7) (B := B) (row := row) (a := a) (g := g) (N0 := N0) (mu := mu) (items := items) (cond := cond) hh hk he hco hi hrow hBN hLN hLmu haL hmuB htest (It := s₂.heap.objs.size) (ne_of horow) (ne_of hoL).symm hItmu hL0 (ne_of hog).symm (p := p) rfl ?_ items.size 0 (by omega) (by omega) s₂ { s₂ with heap := s₂.heap.push { cls := .type "list_iterator", data := .fields #[.ref row, .int 0 0] } } m ⟨fun b o _ e => pk b o e, fun ⟨o, nm, qn, e, r⟩ => ⟨o, nm, qn, pk _ _ e, r⟩, rfl, rfl, rfl⟩ ⟨_, Heap.get?_push_size _ rfl, rfl, rfl⟩ (hns₂.keeps pk) (fun b o e => pk b o (kb₂ b o e))
  · intro s₀ s₁ mid
    exact seg_end (.ok (.ret .none)) ⟨rfl, rfl, mid⟩
end
end
section
open PySem PySem.W PyProof.Rows PySem.Calls
set_option maxRecDepth 100000
set_option maxHeartbeats 8000000
section
variable {prog : Program} {w : World} {A : Around} {E : Value → Shared → Prop} {s : Shared} {pre : Option Stmt} {test : Expr} {p1 p2 p3 p4 p5 p6 p7 : Pos} {row f : Addr} {items : Array Value} {cond : Value → Bool} {name qual : Str} {params : Arguments} {scope : Scope} {clos : List (Str × Addr)} {doc pm cv ctv : Value} {Q : Value → Shared → Prop} {od : Option Addr} {osl : Array (Option Value)} {oc : Value} {an : Option Addr}
/-- a call of a selector: a generator that gives those of the row that fit -/
theorem sel_call (hh : A.handled = none) (hroom : A.depth < recursionLimit) (hl : s.heap.NoLimit)
    (ho : s.heap.get? f = some ⟨oc, od, .func (fnX name qual params [.For (.Name "elem" p1) (.Name "result" p2) (tbOf pre test p4 p5 p6 p7) [] p3] scope clos .none .none doc pm an cv ctv), osl⟩) (hcd : s.heap.CodeRec cv qual)
    (hbind : bindArgs (fnX name qual params [.For (.Name "elem" p1) (.Name "result" p2) (tbOf pre test p4 p5 p6 p7) [] p3] scope clos .none .none doc pm an cv ctv) ⟨[.none, .ref row], []⟩ = pure [(Str.ofString "context", Value.none), (Str.ofString "result", Value.ref row)])
    (hloc : ∀ y ∈ [(Str.ofString "context", Value.none), (Str.ofString "result", Value.ref row)], scope.names.lookup y.1 = some .local) (hcell : ∀ x ∈ scope.names, x.2 ≠ .cell)
    (hco : scope.isCoroutine = false) (hgen : scope.isGenerator = true) (hk : scope.kind = .function) (he : scope.names.lookup (Str.ofString "elem") = some .local) (hr : scope.names.lookup (Str.ofString "result") = some .local)
    (hi : ∀ L, interactive (envX qual scope L f cv clos) = false)
    (hrow : s.heap.IsList row items)
    (htest : ∀ L A' v s₁ m, A'.handled = none → v ∈ items → s₁.heap.Ns L m → m "elem" = some v → Keep s.heap s₁.heap → preThen prog w A' (envX qual scope L f cv clos) pre (fun s₂ =>
      wpAny (model prog w) A' (isTrue test (envX qual scope L f cv clos) (eval test (envX qual scope L f cv clos))) (fun b s₃ => b = cond v ∧ LK L s₁ s₃ ∧ ∃ m₃, s₃.heap.Ns L m₃ ∧ m₃ "elem" = some v) (fun _ _ => False) s₂) s₁)
    (h : ∀ a g s', s'.heap.IsGen a g → Keep s.heap s'.heap → (AllBare s.gens → AllBare s'.gens) → s'.os = s.os → s'.drawn = s.drawn → s.heap.objs.size ≤ s'.heap.objs.size →
      (∀ mu, (∀ b ∈ mu, s'.heap.objs.size ≤ b) → GW prog w A a s.heap.objs.size mu (items.toList.filter cond) s') → Q (.ref a) s') :
    wpAny (model prog w) A (call (.ref f) [.none, .ref row]) Q E s := by
  refine wpAny_call (codeAny_call_generator hroom ho rfl hco hgen rfl hcd ?_)
  rw [hbind]
  refine wpAny_pure (wpAny_newFunctionEnv hcell hloc (fun h₁ hns hsb => ?_) hk)
  have hk₁ : Keep s.heap h₁ := fun b o e => hsb.extBut b o (Nat.ne_of_lt (Heap.lt_size e)) (Heap.get?_push_of_some _ e)
  refine ⟨hl.keeps hk₁, ?_⟩
  dsimp only
  have pk : ∀ o, Keep h₁ (h₁.push o) := fun _ _ _ e => Heap.get?_push_of_some _ e
  have hLlt : s.heap.objs.size < h₁.objs.size := hns.lt
  refine h h₁.objs.size s.gens.size _ ⟨_, _, _, Heap.get?_push_size _ rfl, rfl, rfl, rfl⟩ (fun b o e => pk _ b o (hk₁ b o e)) (fun hb => hb.push rfl) rfl rfl (by rw [Heap.size_push]; exact Nat.le_succ_of_le (Nat.le_of_lt hLlt)) ?_
  refine gen_gw (env := envX qual scope s.heap.objs.size f cv clos) (B := s.heap) (row := row) (items := items) (m := _) (p1 := p1) (p2 := p2) (p3 := p3) (p4 := p4) (p5 := p5) (p6 := p6) (p7 := p7) (pre := pre) (test := test) hh hroom hk he hr hco (hi _) hl hrow (fun b o e => Heap.lt_size e) (Nat.le_refl _) (Nat.ne_of_gt hLlt) (htest _) (hns.keeps (pk _)) (by rfl) (fun b o e => pk _ b o (hk₁ b o e)) ⟨_, _, _, Heap.get?_push_size _ rfl, rfl, rfl, rfl⟩ ?_
  simp
  rfl
end
end
section
open PySem PySem.W PyProof.Rows PySem.Calls
set_option maxRecDepth 100000
set_option maxHeartbeats 8000000
set_option linter.unusedVariables false
theorem eqT {prog : Program} {w : World} {A : Around} {E : Value → Shared → Prop} {s : Shared} {t u : Tok} {Q : Value → Shared → Prop} {a k : List Nat} {c : Str} {b : Bool} (hc : c = st k) (hb : (a == k) = b) (h : Q (.bool b) s) : wpAny (model prog w) A (compareOp .Eq (.str (st a) t) (.str c u)) Q E s := by
  subst hc; subst hb; exact eq_st h
theorem codes1 : Str.ofString "{*}*" = st [123, 42, 125, 42] := by decide +kernel
theorem codes2 : Str.ofString "{}*" = st [123, 125, 42] := by decide +kernel
theorem codes3 : Str.ofString "{*}" = st [123, 42, 125] := by decide +kernel
theorem codes4 : Str.ofString "}*" = st [125, 42] := by decide +kernel
local macro_rules | `(tactic| walk_at "compareOp Eq str str") => `(tactic| (first | (with_reducible refine eqT codes1 (by assumption) ?_) | (with_reducible refine eqT codes2 (by assumption) ?_) | (with_reducible refine eqT codes3 (by assumption) ?_) | (with_reducible refine eqT codes4 (by assumption) ?_)))
local macro_rules | `(tactic| walk_at "eval Name") => `(tactic| ((rename InX _ _ _ _ _ _ _ => I'); first | (refine nmX (I'.tok _) rfl rfl rfl rfl ?_ (by decide)) | (refine nmB (I'.tok _) (by assumption) (by assumption) (by k_is) (by first | exact PyProof.Rows.Boot.«slice» | boot_fast) (by decide) ?_ rfl rfl rfl rfl)))
local macro_rules | `(tactic| walk_at "storeName") => `(tactic| ((rename InX _ _ _ _ _ _ _ => I'); refine stX (I'.tok _) rfl rfl rfl ?_; clear I'; intro s' I'))
local macro_rules | `(tactic| walk_at "mine slice") => `(tactic| ((with_reducible show wpAny _ _ (call (Value.type "slice") _) _ _ _); (rename InX _ _ _ _ _ _ _ => I'); refine call_sliceX (I'.tok _) ?_; clear I'; intro a' s' I'; (try dsimp only)))
local macro_rules | `(tactic| walk_at "call type:slice") => `(tactic| walk_at "mine slice")
local macro_rules | `(tactic| walk_at "subscriptTail Name Slice str ref") => `(tactic| ((rename InX _ _ _ _ _ _ _ => I'); (first | (refine cutX_to (s := ⟨_, _, _, _, _⟩) (by omega) (by walk_at "mine sz") (I'.tok _) ?_) | (refine cutX_from (s := ⟨_, _, _, _, _⟩) (by omega) (by walk_at "mine sz") (I'.tok _) ?_) | (refine cutX_last (s := ⟨_, _, _, _, _⟩) (by omega) (by walk_at "mine sz") (I'.tok _) ?_) | (refine cutX_toneg (s := ⟨_, _, _, _, _⟩) (by omega) (by walk_at "mine sz") (I'.tok _) ?_)); clear I'; intro s' t' I'; (try dsimp only)))
theorem bindC_one {k : Str → Option NameKind} {n : Str} {v : Value} {m : Str → Option Value} (h : k n = some .cell) : bindC k [(n, v)] m = fun y => if y = n then some v else m y := by
  unfold bindC bindC; rw [if_neg (by rw [h]; decide)]
theorem bindL_one {k : Str → Option NameKind} {n : Str} {v : Value} {m : Str → Option Value} (h : k n = some .cell) : bindL k [(n, v)] m = m := by
  unfold bindL bindL; rw [if_neg (by rw [h]; decide)]
theorem InX.keep {s₀ s : Shared} {L : Addr} {m cm : Str → Option Value} {cs : List (Str × Addr)} {fs : List (Addr × Obj)} {h' : Heap} (x : InX s₀ L m cs cm fs s) (k : Keep s.heap h') (tk : Nat) : InX s₀ L m cs cm fs { s with heap := h', toks := tk } := by
  obtain ⟨⟨⟨h, t, e⟩, ns, kp, fr⟩, cl, ap, ab⟩ := x.i
  exact ⟨⟨⟨⟨h', tk, by rw [e]⟩, ns.keeps k, fun b o q => k _ _ (kp b o q), fr⟩, fun n c q => (cl n c q).keeps k, ap, ab⟩, fun p hp => k _ _ (x.f p hp), x.nc⟩
theorem tupX {prog : Program} {w : World} {A : Around} {E : Value → Shared → Prop} {s₀ s : Shared} {m cm : Str → Option Value} {env : Env} {fs : List (Addr × Obj)} {L : Addr} {cs : List (Str × Addr)} {x y : Value} {elts : List Expr} {x1} {pos : Pos} {Q : Unit → Shared → Prop} (hh : A.handled = none) (I : InX s₀ L m cs cm fs s)
    (hn : (assignEach elts env).length = 2) (hstar : (assignEach elts env).findIdx? (·.1) = none)
    (h : ∀ s', InX s₀ L m cs cm fs s' → wpAny (model prog w) A (assignInOrder ((assignEach elts env).map (·.2)) [x, y]) Q E s') :
    wpAny (model prog w) A (newTuple [x, y]) (fun v s₁ => wpAny (model prog w) A (assign (.Tuple elts x1 pos) env v) Q E s₁) E s := by
  refine wpAny_newTuple ?_
  have I' := I.push { cls := .type "tuple", data := .seq #[x, y] } s.toks
  refine assign_Tuple_tuple (items := #[x, y]) hh ⟨_, Heap.get?_push_size _ rfl, rfl, _, rfl⟩ hn hstar fun h' hx => ?_
  exact h _ (I'.keep (fun b o e => hx b o (Nat.ne_of_lt (Heap.lt_size e)) e) s.toks)
abbrev selQ : Str := "_prepare_tag.<locals>.select"
theorem rec_ne {P c : Addr} {ps : Array Value} {q : Str} {h : Heap} (hP : h.get? P = some (tabObj ps)) (t : TriplesOk ps.toList) (x : h.CodeRec (.ref c) q) : c ≠ P := by
  rintro rfl
  obtain ⟨c', o, vs, t', e, g, _⟩ := rec_keepB (h' := hideAll h [c]) hP t x fun b o hb e => hideAll_get _ e (by simpa using hb)
  cases e
  rw [hideAll_none _ (by simp)] at g; cases g
theorem tab_up {P L : Addr} {q : Str} {h₂ h₃ : Heap} {m : Str → Option Value} (t : Tab P q h₂) (ns : h₂.Ns L m) (hLP : L ≠ P) (up : ∀ b o, b ≠ L → h₂.get? b = some o → h₃.get? b = some o) : Tab P q h₃ := by
  obtain ⟨ps₂, hP₂, ht₂, hall₂⟩ := t
  refine ⟨ps₂, up _ _ hLP.symm hP₂, ht₂, fun pos cv e => ?_⟩
  obtain ⟨c, o, vs, t', e1, e2, e3, e4⟩ := hall₂ pos cv e
  refine ⟨c, o, vs, t', e1, up _ _ (fun q => ?_) e2, e3, e4⟩
  obtain ⟨o2, _, _, ho2, hd2, _⟩ := ns
  rw [q, ho2] at e2; cases e2
  rw [hd2] at e3; cases e3
inductive TagIs : Value → Option (List Nat) → Prop
  | none : TagIs .none none
  | str {l : List Nat} {t : Tok} : l ≠ [] → l.length ≤ 1000 → TagIs (.str (st l) t) (some l)
abbrev PG := PySem.Challenge.rw_nq0080_01.row.prog
/-- f is a selector that takes those whose tag fits, wherever the objects stand -/
def SelOk (w : World) (objs : List (Addr × Obj)) (f : Addr) (sel : Option (List Nat) → Bool) : Prop :=
  (∃ o fd, (f, o) ∈ objs ∧ o.data = .func fd) ∧
  ∀ (A : Around) (s : Shared) (row : Addr) (items : Array Value) (tagOf : Value → Option (List Nat)) (Q E : Value → Shared → Prop), A.handled = none → A.depth < recursionLimit → s.heap.NoLimit →
    (∀ p ∈ objs, s.heap.get? p.1 = some p.2) → s.heap.IsList row items → (∀ v ∈ items, ∃ t tv pl, v = .ref t ∧ Thing s.heap t tv pl ∧ TagIs tv (tagOf v)) →
    (∀ a g s', s'.heap.IsGen a g → Keep s.heap s'.heap → (AllBare s.gens → AllBare s'.gens) → s'.os = s.os → s'.drawn = s.drawn → s.heap.objs.size ≤ s'.heap.objs.size →
      (∀ mu, (∀ b ∈ mu, s'.heap.objs.size ≤ b) → GW PG w A a s.heap.objs.size mu (items.toList.filter fun v => sel (tagOf v)) s') → Q (.ref a) s') →
    wpAny (model PG w) A (call (.ref f) [.none, .ref row]) Q E s
def Fresh16 (h h' : Heap) (objs : List (Addr × Obj)) : Prop := ∀ p ∈ objs, h'.get? p.1 = some p.2 ∧ p.1 ≠ 16 ∧ (h.get? p.1 = none ∨ ∃ vs, p.2.data = .fields vs)
local macro_rules | `(tactic| walk_at "eval Name") => `(tactic| ((with_reducible show wpAny _ _ (eval (Expr.Name _ _) (envX _ _ _ _ _ _)) _ _ _); first | (refine wpAny_Name (wpAny_loadName_local rfl rfl (by assumption) (by assumption) ?_)) | (refine wpAny_Name (wpAny_loadName_free rfl rfl rfl (by assumption) ?_))))
def TP (L : Addr) (s₁ : Shared) (v : Value) (b₀ b : Bool) (s₃ : Shared) : Prop := b = b₀ ∧ LK L s₁ s₃ ∧ ∃ m₃, s₃.heap.Ns L m₃ ∧ m₃ "elem" = some v
theorem TP.of {M : Model} {A : Around} {s₁ s : Shared} {L : Addr} {v : Value} {b₀ : Bool} {x : Sem Bool} (h : wpAny M A x (TP L s₁ v b₀) (fun _ _ => False) s) : wpAny M A x (fun b s₃ => b = b₀ ∧ LK L s₁ s₃ ∧ ∃ m₃, s₃.heap.Ns L m₃ ∧ m₃ "elem" = some v) (fun _ _ => False) s := h
theorem prep_all {w : World} {loose : List Str} {mean : ExcName → Option Value} {mg mb : Str → Option Value} {dp un : Nat} {gd : Option (List Code)} {fr : List Env} {s : Shared} {Q E : Value → Shared → Prop} {l : List Nat} {t1 : Tok}
    (G : Gd w loose mean mg mb s.heap) (hd : dp + 1 < recursionLimit) (hu : un + 20 < cLine) (Tb : Tab 16 selQ s.heap) (hl : l.length ≤ 1000)
    (e1 : (l == [123, 42, 125, 42]) = true)
    (hret : ∀ f h' tk' objs, KeepB 16 s.heap h' → Tab 16 selQ h' → s.heap.get? f = none → Fresh16 s.heap h' objs → SelOk w objs f (fun o => o.isSome) → Q (.ref f) { s with heap := h', toks := tk' }) :
    wpAny (model PySem.Challenge.rw_nq0080_01.row.prog w) (AA dp un gd fr) (call (.ref 21) [.str (st l) t1]) Q E s := by
  have X := G.X
  have T := G.T
  refine wpAny_call ?_
  refine' enterCC (binds := [(Str.ofString "tag", .str (st l) t1)]) X T.nolimit ?k8 ?k6 ?k7 ?k9 ?kB ?_ ?c2 ?c3 ?c4
  case k8 => (show _ < _; dsimp only; omega)
  case k6 => k_is
  case k7 => k_is
  case k9 => exact rfl
  case kB => exact rfl
  case c2 => exact rfl
  case c3 => exact rfl
  case c4 => exact rfl
  intro s₁ I₀
  rw [bindC_one (by rfl), bindL_one (by rfl)] at I₀
  have I := InX.mk (fs := []) I₀ (List.forall_mem_nil _) (List.forall_mem_nil _)
  clear I₀
  walk_at "mine steps"
  rename InX _ _ _ _ _ _ _ => I
  refine tupX rfl (I.tok _) rfl rfl ?_
  clear I; intro s' I
  walk_at "mine steps"
  rename InX _ _ _ _ _ _ _ => I
  refine ex2_1 I.i.toInCall.same ?_
  intro hs' ts' eqs
  subst eqs
  refine hide fun P' hP' => ?_
  obtain ⟨ps, hP, ht, hall⟩ := id Tb
  refine hP' ?_
  clear hP' P'
  have hTb := top_built T I.i.toInCall.keep hP
  have C : CodeHd s.heap 20 16 := codeHd_of_K X (by kernel_rfl)
  refine nestDef_K rfl rfl rfl ?_
  refine mk_def (mg := mg) (c := 20) (P := 16) rfl rfl (T.g.keeps I.i.toInCall.keep) rfl (C.keeps I.i.toInCall.keep) (Tb.keeps I.i.toInCall.keep) hTb.2 hTb.1 ?_
  intro f cv ctv doc h₂ tk₂ kb₂ Tb₂ hf hfP hfl hfo hrec
  have hLs : s.heap.get? s.heap.objs.size = none := Heap.get?_none_of_le (Nat.le_refl _)
  have hLP : s.heap.objs.size ≠ 16 := fun e => by rw [← e, hLs] at hP; cases hP
  have nsI : Heap.Ns _ s.heap.objs.size _ := I.i.toInCall.ns
  refine hide fun P' hP' => ?_
  obtain ⟨oL, eL, epL, hoL, hdL, hrL⟩ := id nsI
  refine hP' ?_
  clear hP' P'
  have hfL : f ≠ s.heap.objs.size := fun e => by dsimp only at hf; rw [e, hoL] at hf; cases hf
  have ns₂ := nsI.extBut kb₂ hLP
  refine wpAny_storeName_local rfl ns₂ fun h₃ ns₃ sb₃ => ?_
  walk_at "mine steps"
  refine wpAny_Name (wpAny_loadName_local rfl rfl ns₃ rfl ?_)
  dsimp only
  have up : ∀ b o, b ≠ s.heap.objs.size → h₂.get? b = some o → h₃.get? b = some o := fun b o hb e => (sb₃.2 b hb).trans e
  have hfs : s.heap.get? f = none := by
    cases q : s.heap.get? f with
    | none => rfl
    | some o => have := I.i.toInCall.keep _ _ q; dsimp only at hf; rw [hf] at this; cases this
  refine hide fun P' hP' => ?_
  obtain ⟨c, oc, vs, tq, hcv, hcg, hcd, hcq⟩ := id hrec
  subst hcv
  have hcL : c ≠ s.heap.objs.size := fun q => by
    obtain ⟨o2, _, _, ho2, hd2, _⟩ := ns₂
    rw [q, show h₂.get? s.heap.objs.size = some o2 from ho2] at hcg; cases hcg
    rw [hd2] at hcd; cases hcd
  have hc16 : c ≠ 16 := by
    obtain ⟨ps₂, hP₂, ht₂, _⟩ := Tb₂
    exact rec_ne hP₂ ht₂ hrec
  obtain ⟨oi, hoi, hdi⟩ := I.i.cell (Str.ofString "_isinstance") _ rfl
  obtain ⟨os, hos, hds⟩ := I.i.cell (Str.ofString "_str") _ rfl
  have hiL := I.i.above (Str.ofString "_isinstance") _ (mem_of_lookup rfl)
  have hsL := I.i.above (Str.ofString "_str") _ (mem_of_lookup rfl)
  have fresh : ∀ b, s.heap.objs.size < b → b ≠ 16 := fun b hb q => by
    have := Heap.lt_size hP; subst q; exact absurd (Nat.lt_trans this hb) (Nat.lt_irrefl _)
  obtain ⟨fo, hfo'⟩ : ∃ fo, h₂.get? f = some fo := ⟨_, hfo⟩
  have efo := hfo'.symm.trans hfo
  refine hP' ?_
  clear hP' P'
  refine hret f h₃ _ [(f, fo), (c, oc), (s.heap.objs.size + 1 + 1, oi), (s.heap.objs.size + 1 + 1 + 1, os)] (fun b o hb e => up b o (fun q => by rw [q, hLs] at e; cases e) (kb₂ b o hb (I.i.toInCall.keep b o e))) (tab_up Tb₂ ns₂ hLP up) hfs ?_ ?_
  · refine all_cons ?_ (all_cons ?_ (all_cons ?_ (all_cons ?_ (List.forall_mem_nil _))))
    · exact ⟨up _ _ hfL hfo', hfP, .inl hfs⟩
    · exact ⟨up _ _ hcL hcg, hc16, .inr ⟨vs, hcd⟩⟩
    · exact ⟨up _ _ (Nat.ne_of_gt hiL) (kb₂ _ _ (fresh _ hiL) hoi), fresh _ hiL, .inl (Heap.get?_none_of_le (Nat.le_of_lt hiL))⟩
    · exact ⟨up _ _ (Nat.ne_of_gt hsL) (kb₂ _ _ (fresh _ hsL) hos), fresh _ hsL, .inl (Heap.get?_none_of_le (Nat.le_of_lt hsL))⟩
  · refine ⟨⟨fo, _, List.Mem.head _, congrArg Obj.data (Option.some.inj efo)⟩, ?_⟩
    intro A s2 row items tagOf Q E hA hroom hnl hobj hrow hth hk
    have o1 := hobj _ (List.Mem.head _)
    have o2 := hobj _ (List.Mem.tail _ (List.Mem.head _))
    have o3 := hobj _ (List.Mem.tail _ (List.Mem.tail _ (List.Mem.head _)))
    have o4 := hobj _ (List.Mem.tail _ (List.Mem.tail _ (List.Mem.tail _ (List.Mem.head _))))
    refine' sel_call (pre := none) hA hroom hnl (o1.trans efo) ⟨c, oc, vs, tq, rfl, o2, hcd, hcq⟩ ?hb ?hlo ?hc ?h1 ?h2 ?h3 ?h4 ?h5 ?hi hrow ?_ hk
    case hb => exact rfl
    case hlo => exact locs rfl
    case hc => decide
    case h1 => exact rfl
    case h2 => exact rfl
    case h3 => exact rfl
    case h4 => exact rfl
    case h5 => exact rfl
    case hi => (intro _; rfl)
    intro L A' v s₁ m hA' hv hns hm hkp
    refine hide fun P' hP' => ?_
    obtain ⟨t, tv, pl, eqv, hT, htag⟩ := hth v hv
    obtain ⟨dd, mA, hF, hmt, hmp⟩ := hT.keeps hkp
    refine hP' ?_
    clear hP' P'
    subst eqv
    have hci : s₁.heap.IsCell (s.heap.objs.size + 1 + 1) (some (.builtin "isinstance")) := ⟨oi, hkp _ _ o3, hdi⟩
    have hcs : s₁.heap.IsCell (s.heap.objs.size + 1 + 1 + 1) (some (.type "str")) := ⟨os, hkp _ _ o4, hds⟩
    refine TP.of ?_
    walk_at "mine steps"
    obtain ⟨h1, g1, d1, k1, w1⟩ := s₁
    dsimp only
    generalize tagOf (.ref t) = og at htag ⊢
    cases htag with
    | none =>
      refine fn_load fn_no_tag hF hmt rfl ?_
      walk_at "mine steps"
      exact ⟨rfl, ⟨_, _, rfl, fun _ _ _ e => e⟩, m, hns, hm⟩
    | str h1 h2 =>
      refine fn_load fn_no_tag hF hmt rfl ?_
      walk_at "mine steps"
      exact ⟨rfl, ⟨_, _, rfl, fun _ _ _ e => e⟩, m, hns, hm⟩
open PySem PySem.W PyProof.Rows PySem.Calls
set_option maxRecDepth 100000
set_option maxHeartbeats 8000000
set_option linter.unusedVariables false
theorem item_st {prog : Program} {w : World} {A : Around} {E : Value → Shared → Prop} {s : Shared} {t u : Tok} {Q : Value → Shared → Prop} {c : Nat} {r : List Nat} {value slice : Expr} (h : ∀ t k, Q (.str (st [c]) t) { s with toks := k })
    (hs : subscripted slice false (.str (st (c :: r)) t) (.int 0 u) = operate [.str (st (c :: r)) t, .int 0 u] (getItem (.str (st (c :: r)) t) (.int 0 u)) := by with_unfolding_all rfl)
    (ht : ∀ r', letTemporaryGo value (.str (st (c :: r)) t) r' = pure () := by intro _; with_unfolding_all rfl) :
    wpAny (model prog w) A (subscriptTail value slice (.str (st (c :: r)) t) (.int 0 u)) Q E s :=
  tail_of_ItemOn ⟨"str", _, F.slot_str_getitem.lookup, typeIs_str _ _ _, P.getItem_str (c := c) (by decide) (by simp [seqIndex?, Str.length]) (h _ _)⟩ hs ht
theorem neT {prog : Program} {w : World} {A : Around} {E : Value → Shared → Prop} {s : Shared} {t u : Tok} {Q : Value → Shared → Prop} {a k : List Nat} {c : Str} (hc : c = st k) (h : Q (.bool (a != k)) s) : wpAny (model prog w) A (compareOp .NotEq (.str (st a) t) (.str c u)) Q E s := by
  subst hc; exact ne_st h
theorem codes5 : Str.ofString "{" = st [123] := by decide +kernel
theorem cell_same {h h' : Heap} {c L : Addr} {v : Option Value} {m : Str → Option Value} (x : h.IsCell c v) (ns : h.Ns L m) (sb : Heap.SameBut L h h') : h'.IsCell c v := by
  obtain ⟨o, ho, hd⟩ := x
  refine ⟨o, (sb.2 c fun e => ?_).trans ho, hd⟩
  obtain ⟨o2, _, _, ho2, hd2, _⟩ := ns
  rw [e, ho2] at ho; cases ho
  rw [hd2] at hd; cases hd
theorem two_names {h : Heap} {L : Addr} {m : Str → Option Value} {tv v : Value} (ns : h.Ns L (fun x => if x = Str.ofString "el_tag" then some tv else m x)) (hm : m (Str.ofString "elem") = some v) :
    ∃ m₂, h.Ns L m₂ ∧ m₂ (Str.ofString "el_tag") = some tv ∧ m₂ (Str.ofString "elem") = some v :=
  ⟨_, ns, if_pos rfl, (if_neg (by decide)).trans hm⟩
local macro_rules | `(tactic| walk_at "subscriptTail Name Constant str int") => `(tactic| (refine item_st ?_; intro t' k'; (try dsimp only)))
local macro_rules | `(tactic| walk_at "subscriptTail") => `(tactic| ((with_reducible show wpAny _ _ (subscriptTail _ _ (Value.str (Str.mk (List.toArray _)) _) (Value.int _ _)) _ _ _); refine item_st ?_; intro t' k'; (try dsimp only)))
local macro_rules | `(tactic| walk_at "compareOp NotEq str str") => `(tactic| (refine neT codes5 ?_))
theorem prep_nons {w : World} {loose : List Str} {mean : ExcName → Option Value} {mg mb : Str → Option Value} {dp un : Nat} {gd : Option (List Code)} {fr : List Env} {s : Shared} {Q E : Value → Shared → Prop} {l : List Nat} {t1 : Tok}
    (G : Gd w loose mean mg mb s.heap) (hd : dp + 1 < recursionLimit) (hu : un + 20 < cLine) (Tb : Tab 16 selQ s.heap) (hl : l.length ≤ 1000)
    (e1 : (l == [123, 42, 125, 42]) = false) (e2 : (l == [123, 125, 42]) = true)
    (hret : ∀ f h' tk' objs, KeepB 16 s.heap h' → Tab 16 selQ h' → s.heap.get? f = none → Fresh16 s.heap h' objs → SelOk w objs f (fun o => match o with | some (c :: _) => c != 123 | _ => false) → Q (.ref f) { s with heap := h', toks := tk' }) :
    wpAny (model PySem.Challenge.rw_nq0080_01.row.prog w) (AA dp un gd fr) (call (.ref 21) [.str (st l) t1]) Q E s := by
  have X := G.X
  have T := G.T
  refine wpAny_call ?_
  refine' enterCC (binds := [(Str.ofString "tag", .str (st l) t1)]) X T.nolimit ?k8 ?k6 ?k7 ?k9 ?kB ?_ ?c2 ?c3 ?c4
  case k8 => (show _ < _; dsimp only; omega)
  case k6 => k_is
  case k7 => k_is
  case k9 => exact rfl
  case kB => exact rfl
  case c2 => exact rfl
  case c3 => exact rfl
  case c4 => exact rfl
  intro s₁ I₀
  rw [bindC_one (by rfl), bindL_one (by rfl)] at I₀
  have I := InX.mk (fs := []) I₀ (List.forall_mem_nil _) (List.forall_mem_nil _)
  clear I₀
  walk_at "mine steps"
  rename InX _ _ _ _ _ _ _ => I
  refine tupX rfl (I.tok _) rfl rfl ?_
  clear I; intro s' I
  walk_at "mine steps"
  rename InX _ _ _ _ _ _ _ => I
  refine ex2_1 I.i.toInCall.same ?_
  intro hs' ts' eqs
  subst eqs
  refine hide fun P' hP' => ?_
  obtain ⟨ps, hP, ht, hall⟩ := id Tb
  refine hP' ?_
  clear hP' P'
  have hTb := top_built T I.i.toInCall.keep hP
  have C : CodeHd s.heap 20 16 := codeHd_of_K X (by kernel_rfl)
  refine nestDef_K rfl rfl rfl ?_
  refine mk_def (mg := mg) (c := 20) (P := 16) rfl rfl (T.g.keeps I.i.toInCall.keep) rfl (C.keeps I.i.toInCall.keep) (Tb.keeps I.i.toInCall.keep) hTb.2 hTb.1 ?_
  intro f cv ctv doc h₂ tk₂ kb₂ Tb₂ hf hfP hfl hfo hrec
  have hLs : s.heap.get? s.heap.objs.size = none := Heap.get?_none_of_le (Nat.le_refl _)
  have hLP : s.heap.objs.size ≠ 16 := fun e => by rw [← e, hLs] at hP; cases hP
  have nsI : Heap.Ns _ s.heap.objs.size _ := I.i.toInCall.ns
  refine hide fun P' hP' => ?_
  obtain ⟨oL, eL, epL, hoL, hdL, hrL⟩ := id nsI
  refine hP' ?_
  clear hP' P'
  have hfL : f ≠ s.heap.objs.size := fun e => by dsimp only at hf; rw [e, hoL] at hf; cases hf
  have ns₂ := nsI.extBut kb₂ hLP
  refine wpAny_storeName_local rfl ns₂ fun h₃ ns₃ sb₃ => ?_
  walk_at "mine steps"
  refine wpAny_Name (wpAny_loadName_local rfl rfl ns₃ rfl ?_)
  dsimp only
  have up : ∀ b o, b ≠ s.heap.objs.size → h₂.get? b = some o → h₃.get? b = some o := fun b o hb e => (sb₃.2 b hb).trans e
  have hfs : s.heap.get? f = none := by
    cases q : s.heap.get? f with
    | none => rfl
    | some o => have := I.i.toInCall.keep _ _ q; dsimp only at hf; rw [hf] at this; cases this
  refine hide fun P' hP' => ?_
  obtain ⟨c, oc, vs, tq, hcv, hcg, hcd, hcq⟩ := id hrec
  subst hcv
  have hcL : c ≠ s.heap.objs.size := fun q => by
    obtain ⟨o2, _, _, ho2, hd2, _⟩ := ns₂
    rw [q, show h₂.get? s.heap.objs.size = some o2 from ho2] at hcg; cases hcg
    rw [hd2] at hcd; cases hcd
  have hc16 : c ≠ 16 := by
    obtain ⟨ps₂, hP₂, ht₂, _⟩ := Tb₂
    exact rec_ne hP₂ ht₂ hrec
  obtain ⟨oi, hoi, hdi⟩ := I.i.cell (Str.ofString "_isinstance") _ rfl
  obtain ⟨os, hos, hds⟩ := I.i.cell (Str.ofString "_str") _ rfl
  have hiL := I.i.above (Str.ofString "_isinstance") _ (mem_of_lookup rfl)
  have hsL := I.i.above (Str.ofString "_str") _ (mem_of_lookup rfl)
  have fresh : ∀ b, s.heap.objs.size < b → b ≠ 16 := fun b hb q => by
    have := Heap.lt_size hP; subst q; exact absurd (Nat.lt_trans this hb) (Nat.lt_irrefl _)
  obtain ⟨fo, hfo'⟩ : ∃ fo, h₂.get? f = some fo := ⟨_, hfo⟩
  have efo := hfo'.symm.trans hfo
  refine hP' ?_
  clear hP' P'
  refine hret f h₃ _ [(f, fo), (c, oc), (s.heap.objs.size + 1 + 1, oi), (s.heap.objs.size + 1 + 1 + 1, os)] (fun b o hb e => up b o (fun q => by rw [q, hLs] at e; cases e) (kb₂ b o hb (I.i.toInCall.keep b o e))) (tab_up Tb₂ ns₂ hLP up) hfs ?_ ?_
  · refine all_cons ?_ (all_cons ?_ (all_cons ?_ (all_cons ?_ (List.forall_mem_nil _))))
    · exact ⟨up _ _ hfL hfo', hfP, .inl hfs⟩
    · exact ⟨up _ _ hcL hcg, hc16, .inr ⟨vs, hcd⟩⟩
    · exact ⟨up _ _ (Nat.ne_of_gt hiL) (kb₂ _ _ (fresh _ hiL) hoi), fresh _ hiL, .inl (Heap.get?_none_of_le (Nat.le_of_lt hiL))⟩
    · exact ⟨up _ _ (Nat.ne_of_gt hsL) (kb₂ _ _ (fresh _ hsL) hos), fresh _ hsL, .inl (Heap.get?_none_of_le (Nat.le_of_lt hsL))⟩
  · refine ⟨⟨fo, _, List.Mem.head _, congrArg Obj.data (Option.some.inj efo)⟩, ?_⟩
    intro A s2 row items tagOf Q E hA hroom hnl hobj hrow hth hk
    have o1 := hobj _ (List.Mem.head _)
    have o2 := hobj _ (List.Mem.tail _ (List.Mem.head _))
    have o3 := hobj _ (List.Mem.tail _ (List.Mem.tail _ (List.Mem.head _)))
    have o4 := hobj _ (List.Mem.tail _ (List.Mem.tail _ (List.Mem.tail _ (List.Mem.head _))))
    refine' sel_call (pre := some _) hA hroom hnl (o1.trans efo) ⟨c, oc, vs, tq, rfl, o2, hcd, hcq⟩ ?hb ?hlo ?hc ?h1 ?h2 ?h3 ?h4 ?h5 ?hi hrow ?_ hk
    case hb => exact rfl
    case hlo => exact locs rfl
    case hc => decide
    case h1 => exact rfl
    case h2 => exact rfl
    case h3 => exact rfl
    case h4 => exact rfl
    case h5 => exact rfl
    case hi => (intro _; rfl)
    intro L A' v s₁ m hA' hv hns hm hkp
    refine hide fun P' hP' => ?_
    obtain ⟨t, tv, pl, eqv, hT, htag⟩ := hth v hv
    obtain ⟨dd, mA, hF, hmt, hmp⟩ := hT.keeps hkp
    refine hP' ?_
    clear hP' P'
    subst eqv
    have hci : s₁.heap.IsCell (s.heap.objs.size + 1 + 1) (some (.builtin "isinstance")) := ⟨oi, hkp _ _ o3, hdi⟩
    have hcs : s₁.heap.IsCell (s.heap.objs.size + 1 + 1 + 1) (some (.type "str")) := ⟨os, hkp _ _ o4, hds⟩
    obtain ⟨h1, g1, d1, k1, w1⟩ := s₁
    generalize tagOf (.ref t) = og at htag ⊢
    show wpAny _ _ _ _ _ _
    refine wpAny_Assign_Name ?_
    walk_at "mine steps"
    cases htag with
    | none =>
      refine fn_load fn_no_tag hF hmt rfl ?_
      refine wpAny_storeName_local rfl hns fun h₂ ns₂ sb₂ => ?_
      have hci₂ := cell_same hci hns sb₂
      have hcs₂ := cell_same hcs hns sb₂
      refine ex1_3 (two_names ns₂ hm) ?_
      clear ns₂
      intro m₂ ns₂ hel hm₂
      refine ⟨rfl, TP.of ?_⟩
      walk_at "mine steps"
      all_goals exact ⟨rfl, ⟨h₂, _, rfl, fun b o hb e => (sb₂.2 b hb).trans e⟩, m₂, ns₂, hm₂⟩
    | @str l' _ hl1 hl2 =>
      cases l' with | nil => exact absurd rfl hl1 | cons c1 r1 =>
      refine fn_load fn_no_tag hF hmt rfl ?_
      refine wpAny_storeName_local rfl hns fun h₂ ns₂ sb₂ => ?_
      have hci₂ := cell_same hci hns sb₂
      have hcs₂ := cell_same hcs hns sb₂
      refine ex1_3 (two_names ns₂ hm) ?_
      clear ns₂
      intro m₂ ns₂ hel hm₂
      refine ⟨rfl, TP.of ?_⟩
      walk_at "mine steps"
      all_goals (refine ⟨?_, ⟨h₂, _, rfl, fun b o hb e => (sb₂.2 b hb).trans e⟩, m₂, ns₂, hm₂⟩; first | (rename ([c1] != [123]) = true => hx; simpa using hx) | (rename ([c1] != [123]) = false => hx; simpa using hx))
theorem slice_same {h h' : Heap} {c L : Addr} {x y : Value} {m : Str → Option Value} (hx : h.get? c = some (sliceObj x y)) (ns : h.Ns L m) (sb : Heap.SameBut L h h') : h'.get? c = some (sliceObj x y) := by
  refine (sb.2 c fun e => ?_).trans hx
  obtain ⟨o2, _, _, ho2, hd2, _⟩ := ns
  rw [e, ho2] at hx; cases hx; cases hd2
theorem InX.headX {s₀ s : Shared} {L : Addr} {m cm : Str → Option Value} {cs : List (Str × Addr)} {p : Addr × Obj} {fs : List (Addr × Obj)} (I : InX s₀ L m cs cm (p :: fs) s) : ∃ q, q = p ∧ s.heap.get? q.1 = some q.2 ∧ q.1 ≠ L ∧ s₀.heap.get? q.1 = none :=
  ⟨p, rfl, I.f _ (List.Mem.head _), (I.nc _ (List.Mem.head _)).2⟩
theorem cut_byL {prog : Program} {w : World} {A : Around} {E : Value → Shared → Prop} {s : Shared} {x : List Nat} {t tk : Tok} {a : Addr} {n : Nat} {Q : Value → Shared → Prop} {value slice : Expr} {ops : List Value} (hs : s.heap.get? a = some (sliceObj (.int (-(n : Int)) tk) .none)) (hn : 0 < n) (hsz : x.length ≤ 1000)
    (h : ∀ t' k, Q (.str (st (x.drop (x.length - n))) t') { s with toks := k })
    (hss : subscripted slice false (.str (st x) t) (.ref a) = operate ops (getItem (.str (st x) t) (.ref a)) := by with_unfolding_all rfl)
    (ht : ∀ r, letTemporaryGo value (.str (st x) t) r = pure () := by intro _; with_unfolding_all rfl) :
    wpAny (model prog w) A (subscriptTail value slice (.str (st x) t) (.ref a)) Q E s :=
  cut_by (l := some (-(n : Int), tk)) (u := none) ⟨_, hs, rfl, rfl⟩ (by omega) (fun t' k => by
    have := h t' k
    rw [show Txt.slice (st x) (Option.map (·.1) (some (-(n : Int), tk))) (Option.map (·.1) (none : Option (Int × Tok))) = st (x.drop (x.length - n)) by
      show Txt.slice (st x) (some (-(n : Int))) none = _
      rw [slice_last (by omega)]; congr 3; omega]
    exact this) hss ht
theorem cut_byT {prog : Program} {w : World} {A : Around} {E : Value → Shared → Prop} {s : Shared} {x : List Nat} {t tk : Tok} {a : Addr} {n : Nat} {Q : Value → Shared → Prop} {value slice : Expr} {ops : List Value} (hs : s.heap.get? a = some (sliceObj .none (.int (n : Int) tk))) (hsz : x.length ≤ 1000)
    (h : ∀ t' k, Q (.str (st (x.take n)) t') { s with toks := k })
    (hss : subscripted slice false (.str (st x) t) (.ref a) = operate ops (getItem (.str (st x) t) (.ref a)) := by with_unfolding_all rfl)
    (ht : ∀ r, letTemporaryGo value (.str (st x) t) r = pure () := by intro _; with_unfolding_all rfl) :
    wpAny (model prog w) A (subscriptTail value slice (.str (st x) t) (.ref a)) Q E s :=
  cut_by (l := none) (u := some ((n : Int), tk)) ⟨_, hs, rfl, rfl⟩ (by omega) (fun t' k => by
    have := h t' k
    rw [show Txt.slice (st x) (Option.map (·.1) (none : Option (Int × Tok))) (Option.map (·.1) (some ((n : Int), tk))) = st (x.take n) by
      show Txt.slice (st x) none (some (n : Int)) = _
      rw [slice_to (by omega)]; rfl]
    exact this) hss ht
local macro_rules | `(tactic| walk_at "compareOp Eq str str") => `(tactic| (with_reducible refine eq_st ?_))
local macro_rules | `(tactic| walk_at "compareOp Eq str str") => `(tactic| (first | (with_reducible refine eqT codes1 (by assumption) ?_) | (with_reducible refine eqT codes2 (by assumption) ?_) | (with_reducible refine eqT codes3 (by assumption) ?_) | (with_reducible refine eqT codes4 (by assumption) ?_)))
local macro_rules | `(tactic| walk_at "mine cutby") => `(tactic| (first | (refine cut_byL (by assumption) (by first | omega | (simp; omega)) (by omega) ?_) | (refine cut_byT (by assumption) (by omega) ?_)))
local macro_rules | `(tactic| walk_at "subscriptTail Name Name str ref") => `(tactic| (walk_at "mine cutby"; intro t' k'; (try dsimp only)))
theorem prep_suf {w : World} {loose : List Str} {mean : ExcName → Option Value} {mg mb : Str → Option Value} {dp un : Nat} {gd : Option (List Code)} {fr : List Env} {s : Shared} {Q E : Value → Shared → Prop} {l : List Nat} {t1 : Tok}
    (G : Gd w loose mean mg mb s.heap) (hd : dp + 1 < recursionLimit) (hu : un + 20 < cLine) (Tb : Tab 16 selQ s.heap) (hl : l.length ≤ 1000)
    (e1 : (l == [123, 42, 125, 42]) = false) (e2 : (l == [123, 125, 42]) = false) (e3 : (List.take (Int.toNat 3) l == [123, 42, 125]) = true) (hl2 : 2 < l.length)
    (hret : ∀ f h' tk' objs, KeepB 16 s.heap h' → Tab 16 selQ h' → s.heap.get? f = none → Fresh16 s.heap h' objs → SelOk w objs f (fun o => match o with | some l' => (l' == l.drop 3) || (l'.drop (l'.length - (l.drop 2).length) == l.drop 2) | none => false) → Q (.ref f) { s with heap := h', toks := tk' }) :
    wpAny (model PySem.Challenge.rw_nq0080_01.row.prog w) (AA dp un gd fr) (call (.ref 21) [.str (st l) t1]) Q E s := by
  have X := G.X
  have T := G.T
  refine wpAny_call ?_
  refine' enterCC (binds := [(Str.ofString "tag", .str (st l) t1)]) X T.nolimit ?k8 ?k6 ?k7 ?k9 ?kB ?_ ?c2 ?c3 ?c4
  case k8 => (show _ < _; dsimp only; omega)
  case k6 => k_is
  case k7 => k_is
  case k9 => exact rfl
  case kB => exact rfl
  case c2 => exact rfl
  case c3 => exact rfl
  case c4 => exact rfl
  intro s₁ I₀
  rw [bindC_one (by rfl), bindL_one (by rfl)] at I₀
  have I := InX.mk (fs := []) I₀ (List.forall_mem_nil _) (List.forall_mem_nil _)
  clear I₀
  walk_at "mine steps"
  rename InX _ _ _ _ _ _ _ => I
  refine tupX rfl (I.tok _) rfl rfl ?_
  clear I; intro s' I
  walk_at "mine steps"
  rename InX _ _ _ _ _ _ _ => I
  refine ex2_1 I.i.toInCall.same ?_
  intro hs' ts' eqs
  subst eqs
  refine hide fun P' hP' => ?_
  obtain ⟨ps, hP, ht, hall⟩ := id Tb
  refine hP' ?_
  clear hP' P'
  have hTb := top_built T I.i.toInCall.keep hP
  have C : CodeHd s.heap 20 16 := codeHd_of_K X (by kernel_rfl)
  refine nestDef_K rfl rfl rfl ?_
  refine mk_def (mg := mg) (c := 20) (P := 16) rfl rfl (T.g.keeps I.i.toInCall.keep) rfl (C.keeps I.i.toInCall.keep) (Tb.keeps I.i.toInCall.keep) hTb.2 hTb.1 ?_
  intro f cv ctv doc h₂ tk₂ kb₂ Tb₂ hf hfP hfl hfo hrec
  have hLs : s.heap.get? s.heap.objs.size = none := Heap.get?_none_of_le (Nat.le_refl _)
  have hLP : s.heap.objs.size ≠ 16 := fun e => by rw [← e, hLs] at hP; cases hP
  have nsI : Heap.Ns _ s.heap.objs.size _ := I.i.toInCall.ns
  refine hide fun P' hP' => ?_
  obtain ⟨oL, eL, epL, hoL, hdL, hrL⟩ := id nsI
  refine hP' ?_
  clear hP' P'
  have hfL : f ≠ s.heap.objs.size := fun e => by dsimp only at hf; rw [e, hoL] at hf; cases hf
  have ns₂ := nsI.extBut kb₂ hLP
  refine wpAny_storeName_local rfl ns₂ fun h₃ ns₃ sb₃ => ?_
  walk_at "mine steps"
  refine wpAny_Name (wpAny_loadName_local rfl rfl ns₃ rfl ?_)
  dsimp only
  have up : ∀ b o, b ≠ s.heap.objs.size → h₂.get? b = some o → h₃.get? b = some o := fun b o hb e => (sb₃.2 b hb).trans e
  have hfs : s.heap.get? f = none := by
    cases q : s.heap.get? f with
    | none => rfl
    | some o => have := I.i.toInCall.keep _ _ q; dsimp only at hf; rw [hf] at this; cases this
  refine hide fun P' hP' => ?_
  obtain ⟨c, oc, vs, tq, hcv, hcg, hcd, hcq⟩ := id hrec
  subst hcv
  have hcL : c ≠ s.heap.objs.size := fun q => by
    obtain ⟨o2, _, _, ho2, hd2, _⟩ := ns₂
    rw [q, show h₂.get? s.heap.objs.size = some o2 from ho2] at hcg; cases hcg
    rw [hd2] at hcd; cases hcd
  have hc16 : c ≠ 16 := by
    obtain ⟨ps₂, hP₂, ht₂, _⟩ := Tb₂
    exact rec_ne hP₂ ht₂ hrec
  obtain ⟨ot, hot, hdt⟩ := I.i.cell (Str.ofString "tag") _ rfl
  obtain ⟨oi, hoi, hdi⟩ := I.i.cell (Str.ofString "_isinstance") _ rfl
  obtain ⟨os, hos, hds⟩ := I.i.cell (Str.ofString "_str") _ rfl
  obtain ⟨on, hon, hdn⟩ := I.i.cell (Str.ofString "no_ns") _ rfl
  obtain ⟨ox, hox, hdx⟩ := I.i.cell (Str.ofString "suffix") _ rfl
  have htL := I.i.above (Str.ofString "tag") _ (mem_of_lookup rfl)
  have hiL := I.i.above (Str.ofString "_isinstance") _ (mem_of_lookup rfl)
  have hsL := I.i.above (Str.ofString "_str") _ (mem_of_lookup rfl)
  have hnL := I.i.above (Str.ofString "no_ns") _ (mem_of_lookup rfl)
  have hxL := I.i.above (Str.ofString "suffix") _ (mem_of_lookup rfl)
  have fresh : ∀ b, s.heap.objs.size < b → b ≠ 16 := fun b hb q => by
    have := Heap.lt_size hP; subst q; exact absurd (Nat.lt_trans this hb) (Nat.lt_irrefl _)
  obtain ⟨fo, hfo'⟩ : ∃ fo, h₂.get? f = some fo := ⟨_, hfo⟩
  have efo := hfo'.symm.trans hfo
  obtain ⟨q8, hq8, hq8f, hq8L, hq8n⟩ := I.headX
  have hfs16 : q8.1 ≠ 16 := fun q => by rw [q, hP] at hq8n; cases hq8n
  refine hP' ?_
  clear hP' P'
  refine hret f h₃ _ [(f, fo), (c, oc), (s.heap.objs.size + 1, ot), (s.heap.objs.size + 1 + 1, oi), (s.heap.objs.size + 1 + 1 + 1, os), (s.heap.objs.size + 1 + 1 + 1 + 1, on), (s.heap.objs.size + 1 + 1 + 1 + 1 + 1 + 1 + 1, ox), q8] (fun b o hb e => up b o (fun q => by rw [q, hLs] at e; cases e) (kb₂ b o hb (I.i.toInCall.keep b o e))) (tab_up Tb₂ ns₂ hLP up) hfs ?_ ?_
  · refine all_cons ?_ (all_cons ?_ (all_cons ?_ (all_cons ?_ (all_cons ?_ (all_cons ?_ (all_cons ?_ (all_cons ?_ (List.forall_mem_nil _))))))))
    · exact ⟨up _ _ hfL hfo', hfP, .inl hfs⟩
    · exact ⟨up _ _ hcL hcg, hc16, .inr ⟨vs, hcd⟩⟩
    · exact ⟨up _ _ (Nat.ne_of_gt htL) (kb₂ _ _ (fresh _ htL) hot), fresh _ htL, .inl (Heap.get?_none_of_le (Nat.le_of_lt htL))⟩
    · exact ⟨up _ _ (Nat.ne_of_gt hiL) (kb₂ _ _ (fresh _ hiL) hoi), fresh _ hiL, .inl (Heap.get?_none_of_le (Nat.le_of_lt hiL))⟩
    · exact ⟨up _ _ (Nat.ne_of_gt hsL) (kb₂ _ _ (fresh _ hsL) hos), fresh _ hsL, .inl (Heap.get?_none_of_le (Nat.le_of_lt hsL))⟩
    · exact ⟨up _ _ (Nat.ne_of_gt hnL) (kb₂ _ _ (fresh _ hnL) hon), fresh _ hnL, .inl (Heap.get?_none_of_le (Nat.le_of_lt hnL))⟩
    · exact ⟨up _ _ (Nat.ne_of_gt hxL) (kb₂ _ _ (fresh _ hxL) hox), fresh _ hxL, .inl (Heap.get?_none_of_le (Nat.le_of_lt hxL))⟩
    · exact ⟨up _ _ hq8L (kb₂ _ _ hfs16 hq8f), hfs16, .inl hq8n⟩
  · refine ⟨⟨fo, _, List.Mem.head _, congrArg Obj.data (Option.some.inj efo)⟩, ?_⟩
    intro A s2 row items tagOf Q E hA hroom hnl hobj hrow hth hk
    have o1 := hobj _ (List.Mem.head _)
    have o2 := hobj _ (List.Mem.tail _ (List.Mem.head _))
    have o3 := hobj _ (List.Mem.tail _ (List.Mem.tail _ (List.Mem.head _)))
    have o4 := hobj _ (List.Mem.tail _ (List.Mem.tail _ (List.Mem.tail _ (List.Mem.head _))))
    have o5 := hobj _ (List.Mem.tail _ (List.Mem.tail _ (List.Mem.tail _ (List.Mem.tail _ (List.Mem.head _)))))
    have o6 := hobj _ (List.Mem.tail _ (List.Mem.tail _ (List.Mem.tail _ (List.Mem.tail _ (List.Mem.tail _ (List.Mem.head _))))))
    have o7 := hobj _ (List.Mem.tail _ (List.Mem.tail _ (List.Mem.tail _ (List.Mem.tail _ (List.Mem.tail _ (List.Mem.tail _ (List.Mem.head _)))))))
    have o8 := hobj _ (List.Mem.tail _ (List.Mem.tail _ (List.Mem.tail _ (List.Mem.tail _ (List.Mem.tail _ (List.Mem.tail _ (List.Mem.tail _ (List.Mem.head _))))))))
    refine' sel_call (pre := some _) hA hroom hnl (o1.trans efo) ⟨c, oc, vs, tq, rfl, o2, hcd, hcq⟩ ?hb ?hlo ?hc ?h1 ?h2 ?h3 ?h4 ?h5 ?hi hrow ?_ hk
    case hb => exact rfl
    case hlo => exact locs rfl
    case hc => decide
    case h1 => exact rfl
    case h2 => exact rfl
    case h3 => exact rfl
    case h4 => exact rfl
    case h5 => exact rfl
    case hi => (intro _; rfl)
    intro L A' v s₁ m hA' hv hns hm hkp
    refine hide fun P' hP' => ?_
    obtain ⟨t, tv, pl, eqv, hT, htag⟩ := hth v hv
    obtain ⟨dd, mA, hF, hmt, hmp⟩ := hT.keeps hkp
    refine hP' ?_
    clear hP' P'
    subst eqv
    have hci : s₁.heap.IsCell (s.heap.objs.size + 1 + 1) (some (.builtin "isinstance")) := ⟨oi, hkp _ _ o4, hdi⟩
    have hcs : s₁.heap.IsCell (s.heap.objs.size + 1 + 1 + 1) (some (.type "str")) := ⟨os, hkp _ _ o5, hds⟩
    have hct : s₁.heap.IsCell (s.heap.objs.size + 1) (some (.str (st (l.drop 3)) _)) := ⟨ot, hkp _ _ o3, hdt⟩
    have hcn : s₁.heap.IsCell (s.heap.objs.size + 1 + 1 + 1 + 1) (some (.ref _)) := ⟨on, hkp _ _ o6, hdn⟩
    have hcx : s₁.heap.IsCell (s.heap.objs.size + 1 + 1 + 1 + 1 + 1 + 1 + 1) (some (.str (st (l.drop 2)) _)) := ⟨ox, hkp _ _ o7, hdx⟩
    have hsl := hkp _ _ o8
    rw [hq8] at hsl
    dsimp only at hsl
    obtain ⟨h1, g1, d1, k1, w1⟩ := s₁
    generalize tagOf (.ref t) = og at htag ⊢
    show wpAny _ _ _ _ _ _
    refine wpAny_Assign_Name ?_
    walk_at "mine steps"
    cases htag with
    | none =>
      refine fn_load fn_no_tag hF hmt rfl ?_
      refine wpAny_storeName_local rfl hns fun h₂ ns₂ sb₂ => ?_
      have hci₂ := cell_same hci hns sb₂
      have hcs₂ := cell_same hcs hns sb₂
      have hct₂ := cell_same hct hns sb₂
      have hcn₂ := cell_same hcn hns sb₂
      have hcx₂ := cell_same hcx hns sb₂
      have hsl₂ := slice_same hsl hns sb₂
      refine ex1_3 (two_names ns₂ hm) ?_
      clear ns₂
      intro m₂ ns₂ hel hm₂
      refine ⟨rfl, TP.of ?_⟩
      walk_at "mine steps"
      all_goals exact ⟨rfl, ⟨h₂, _, rfl, fun b o hb e => (sb₂.2 b hb).trans e⟩, m₂, ns₂, hm₂⟩
    | @str l' _ hl1 hl2 =>
      skip
      refine fn_load fn_no_tag hF hmt rfl ?_
      refine wpAny_storeName_local rfl hns fun h₂ ns₂ sb₂ => ?_
      have hci₂ := cell_same hci hns sb₂
      have hcs₂ := cell_same hcs hns sb₂
      have hct₂ := cell_same hct hns sb₂
      have hcn₂ := cell_same hcn hns sb₂
      have hcx₂ := cell_same hcx hns sb₂
      have hsl₂ := slice_same hsl hns sb₂
      refine ex1_3 (two_names ns₂ hm) ?_
      clear ns₂
      intro m₂ ns₂ hel hm₂
      refine ⟨rfl, TP.of ?_⟩
      walk_at "mine steps"
      all_goals (refine ⟨?_, ⟨h₂, _, rfl, fun b o hb e => (sb₂.2 b hb).trans e⟩, m₂, ns₂, hm₂⟩; first | (rename (l' == List.drop 3 l) = true => hx; show true = ((l' == List.drop 3 l) || _); rw [hx]; rfl) | (rename (l' == List.drop 3 l) = false => hx; rename (List.drop _ l' == List.drop _ l) = true => hy; show true = ((l' == List.drop 3 l) || _); rw [hx]; exact hy.symm) | (rename (l' == List.drop 3 l) = false => hx; rename (List.drop _ l' == List.drop _ l) = false => hy; show false = ((l' == List.drop 3 l) || _); rw [hx]; exact hy.symm))
open PySem PySem.W PyProof.Rows PySem.Calls
set_option maxRecDepth 100000
set_option maxHeartbeats 8000000
set_option linter.unusedVariables false
theorem prep_pre {w : World} {loose : List Str} {mean : ExcName → Option Value} {mg mb : Str → Option Value} {dp un : Nat} {gd : Option (List Code)} {fr : List Env} {s : Shared} {Q E : Value → Shared → Prop} {l : List Nat} {t1 : Tok}
    (G : Gd w loose mean mg mb s.heap) (hd : dp + 1 < recursionLimit) (hu : un + 20 < cLine) (Tb : Tab 16 selQ s.heap) (hl : l.length ≤ 1000)
    (e1 : (l == [123, 42, 125, 42]) = false) (e2 : (l == [123, 125, 42]) = false) (e3 : (List.take (Int.toNat 3) l == [123, 42, 125]) = false) (e4 : (List.drop (l.length - (-(-2 : Int)).toNat) l == [125, 42]) = true)
    (hret : ∀ f h' tk' objs, KeepB 16 s.heap h' → Tab 16 selQ h' → s.heap.get? f = none → Fresh16 s.heap h' objs → SelOk w objs f (fun o => match o with | some l' => l'.take (l.take (l.length - 1)).length == l.take (l.length - 1) | none => false) → Q (.ref f) { s with heap := h', toks := tk' }) :
    wpAny (model PySem.Challenge.rw_nq0080_01.row.prog w) (AA dp un gd fr) (call (.ref 21) [.str (st l) t1]) Q E s := by
  have X := G.X
  have T := G.T
  refine wpAny_call ?_
  refine' enterCC (binds := [(Str.ofString "tag", .str (st l) t1)]) X T.nolimit ?k8 ?k6 ?k7 ?k9 ?kB ?_ ?c2 ?c3 ?c4
  case k8 => (show _ < _; dsimp only; omega)
  case k6 => k_is
  case k7 => k_is
  case k9 => exact rfl
  case kB => exact rfl
  case c2 => exact rfl
  case c3 => exact rfl
  case c4 => exact rfl
  intro s₁ I₀
  rw [bindC_one (by rfl), bindL_one (by rfl)] at I₀
  have I := InX.mk (fs := []) I₀ (List.forall_mem_nil _) (List.forall_mem_nil _)
  clear I₀
  walk_at "mine steps"
  rename InX _ _ _ _ _ _ _ => I
  refine tupX rfl (I.tok _) rfl rfl ?_
  clear I; intro s' I
  walk_at "mine steps"
  rename InX _ _ _ _ _ _ _ => I
  refine ex2_1 I.i.toInCall.same ?_
  intro hs' ts' eqs
  subst eqs
  refine hide fun P' hP' => ?_
  obtain ⟨ps, hP, ht, hall⟩ := id Tb
  refine hP' ?_
  clear hP' P'
  have hTb := top_built T I.i.toInCall.keep hP
  have C : CodeHd s.heap 20 16 := codeHd_of_K X (by kernel_rfl)
  refine nestDef_K rfl rfl rfl ?_
  refine mk_def (mg := mg) (c := 20) (P := 16) rfl rfl (T.g.keeps I.i.toInCall.keep) rfl (C.keeps I.i.toInCall.keep) (Tb.keeps I.i.toInCall.keep) hTb.2 hTb.1 ?_
  intro f cv ctv doc h₂ tk₂ kb₂ Tb₂ hf hfP hfl hfo hrec
  have hLs : s.heap.get? s.heap.objs.size = none := Heap.get?_none_of_le (Nat.le_refl _)
  have hLP : s.heap.objs.size ≠ 16 := fun e => by rw [← e, hLs] at hP; cases hP
  have nsI : Heap.Ns _ s.heap.objs.size _ := I.i.toInCall.ns
  refine hide fun P' hP' => ?_
  obtain ⟨oL, eL, epL, hoL, hdL, hrL⟩ := id nsI
  refine hP' ?_
  clear hP' P'
  have hfL : f ≠ s.heap.objs.size := fun e => by dsimp only at hf; rw [e, hoL] at hf; cases hf
  have ns₂ := nsI.extBut kb₂ hLP
  refine wpAny_storeName_local rfl ns₂ fun h₃ ns₃ sb₃ => ?_
  walk_at "mine steps"
  refine wpAny_Name (wpAny_loadName_local rfl rfl ns₃ rfl ?_)
  dsimp only
  have up : ∀ b o, b ≠ s.heap.objs.size → h₂.get? b = some o → h₃.get? b = some o := fun b o hb e => (sb₃.2 b hb).trans e
  have hfs : s.heap.get? f = none := by
    cases q : s.heap.get? f with
    | none => rfl
    | some o => have := I.i.toInCall.keep _ _ q; dsimp only at hf; rw [hf] at this; cases this
  refine hide fun P' hP' => ?_
  obtain ⟨c, oc, vs, tq, hcv, hcg, hcd, hcq⟩ := id hrec
  subst hcv
  have hcL : c ≠ s.heap.objs.size := fun q => by
    obtain ⟨o2, _, _, ho2, hd2, _⟩ := ns₂
    rw [q, show h₂.get? s.heap.objs.size = some o2 from ho2] at hcg; cases hcg
    rw [hd2] at hcd; cases hcd
  have hc16 : c ≠ 16 := by
    obtain ⟨ps₂, hP₂, ht₂, _⟩ := Tb₂
    exact rec_ne hP₂ ht₂ hrec
  obtain ⟨oi, hoi, hdi⟩ := I.i.cell (Str.ofString "_isinstance") _ rfl
  obtain ⟨os, hos, hds⟩ := I.i.cell (Str.ofString "_str") _ rfl
  obtain ⟨on, hon, hdn⟩ := I.i.cell (Str.ofString "ns") _ rfl
  obtain ⟨ox, hox, hdx⟩ := I.i.cell (Str.ofString "ns_only") _ rfl
  have hiL := I.i.above (Str.ofString "_isinstance") _ (mem_of_lookup rfl)
  have hsL := I.i.above (Str.ofString "_str") _ (mem_of_lookup rfl)
  have hnL := I.i.above (Str.ofString "ns") _ (mem_of_lookup rfl)
  have hxL := I.i.above (Str.ofString "ns_only") _ (mem_of_lookup rfl)
  have fresh : ∀ b, s.heap.objs.size < b → b ≠ 16 := fun b hb q => by
    have := Heap.lt_size hP; subst q; exact absurd (Nat.lt_trans this hb) (Nat.lt_irrefl _)
  obtain ⟨fo, hfo'⟩ : ∃ fo, h₂.get? f = some fo := ⟨_, hfo⟩
  have efo := hfo'.symm.trans hfo
  obtain ⟨q8, hq8, hq8f, hq8L, hq8n⟩ := I.headX
  have hfs16 : q8.1 ≠ 16 := fun q => by rw [q, hP] at hq8n; cases hq8n
  refine hP' ?_
  clear hP' P'
  refine hret f h₃ _ [(f, fo), (c, oc), (s.heap.objs.size + 1 + 1, oi), (s.heap.objs.size + 1 + 1 + 1, os), (s.heap.objs.size + 1 + 1 + 1 + 1 + 1, on), (s.heap.objs.size + 1 + 1 + 1 + 1 + 1 + 1, ox), q8] (fun b o hb e => up b o (fun q => by rw [q, hLs] at e; cases e) (kb₂ b o hb (I.i.toInCall.keep b o e))) (tab_up Tb₂ ns₂ hLP up) hfs ?_ ?_
  · refine all_cons ?_ (all_cons ?_ (all_cons ?_ (all_cons ?_ (all_cons ?_ (all_cons ?_ (all_cons ?_ (List.forall_mem_nil _)))))))
    · exact ⟨up _ _ hfL hfo', hfP, .inl hfs⟩
    · exact ⟨up _ _ hcL hcg, hc16, .inr ⟨vs, hcd⟩⟩
    · exact ⟨up _ _ (Nat.ne_of_gt hiL) (kb₂ _ _ (fresh _ hiL) hoi), fresh _ hiL, .inl (Heap.get?_none_of_le (Nat.le_of_lt hiL))⟩
    · exact ⟨up _ _ (Nat.ne_of_gt hsL) (kb₂ _ _ (fresh _ hsL) hos), fresh _ hsL, .inl (Heap.get?_none_of_le (Nat.le_of_lt hsL))⟩
    · exact ⟨up _ _ (Nat.ne_of_gt hnL) (kb₂ _ _ (fresh _ hnL) hon), fresh _ hnL, .inl (Heap.get?_none_of_le (Nat.le_of_lt hnL))⟩
    · exact ⟨up _ _ (Nat.ne_of_gt hxL) (kb₂ _ _ (fresh _ hxL) hox), fresh _ hxL, .inl (Heap.get?_none_of_le (Nat.le_of_lt hxL))⟩
    · exact ⟨up _ _ hq8L (kb₂ _ _ hfs16 hq8f), hfs16, .inl hq8n⟩
  · refine ⟨⟨fo, _, List.Mem.head _, congrArg Obj.data (Option.some.inj efo)⟩, ?_⟩
    intro A s2 row items tagOf Q E hA hroom hnl hobj hrow hth hk
    have o1 := hobj _ (List.Mem.head _)
    have o2 := hobj _ (List.Mem.tail _ (List.Mem.head _))
    have o3 := hobj _ (List.Mem.tail _ (List.Mem.tail _ (List.Mem.head _)))
    have o4 := hobj _ (List.Mem.tail _ (List.Mem.tail _ (List.Mem.tail _ (List.Mem.head _))))
    have o5 := hobj _ (List.Mem.tail _ (List.Mem.tail _ (List.Mem.tail _ (List.Mem.tail _ (List.Mem.head _)))))
    have o6 := hobj _ (List.Mem.tail _ (List.Mem.tail _ (List.Mem.tail _ (List.Mem.tail _ (List.Mem.tail _ (List.Mem.head _))))))
    have o7 := hobj _ (List.Mem.tail _ (List.Mem.tail _ (List.Mem.tail _ (List.Mem.tail _ (List.Mem.tail _ (List.Mem.tail _ (List.Mem.head _)))))))
    refine' sel_call (pre := some _) hA hroom hnl (o1.trans efo) ⟨c, oc, vs, tq, rfl, o2, hcd, hcq⟩ ?hb ?hlo ?hc ?h1 ?h2 ?h3 ?h4 ?h5 ?hi hrow ?_ hk
    case hb => exact rfl
    case hlo => exact locs rfl
    case hc => decide
    case h1 => exact rfl
    case h2 => exact rfl
    case h3 => exact rfl
    case h4 => exact rfl
    case h5 => exact rfl
    case hi => (intro _; rfl)
    intro L A' v s₁ m hA' hv hns hm hkp
    refine hide fun P' hP' => ?_
    obtain ⟨t, tv, pl, eqv, hT, htag⟩ := hth v hv
    obtain ⟨dd, mA, hF, hmt, hmp⟩ := hT.keeps hkp
    refine hP' ?_
    clear hP' P'
    subst eqv
    have hci : s₁.heap.IsCell (s.heap.objs.size + 1 + 1) (some (.builtin "isinstance")) := ⟨oi, hkp _ _ o3, hdi⟩
    have hcs : s₁.heap.IsCell (s.heap.objs.size + 1 + 1 + 1) (some (.type "str")) := ⟨os, hkp _ _ o4, hds⟩
    have hcn : s₁.heap.IsCell (s.heap.objs.size + 1 + 1 + 1 + 1 + 1) (some (.str (st (l.take (l.length - 1))) _)) := ⟨on, hkp _ _ o5, hdn⟩
    have hcx : s₁.heap.IsCell (s.heap.objs.size + 1 + 1 + 1 + 1 + 1 + 1) (some (.ref _)) := ⟨ox, hkp _ _ o6, hdx⟩
    have hsl := hkp _ _ o7
    rw [hq8] at hsl
    dsimp only at hsl
    obtain ⟨h1, g1, d1, k1, w1⟩ := s₁
    generalize tagOf (.ref t) = og at htag ⊢
    show wpAny _ _ _ _ _ _
    refine wpAny_Assign_Name ?_
    walk_at "mine steps"
    cases htag with
    | none =>
      refine fn_load fn_no_tag hF hmt rfl ?_
      refine wpAny_storeName_local rfl hns fun h₂ ns₂ sb₂ => ?_
      have hci₂ := cell_same hci hns sb₂
      have hcs₂ := cell_same hcs hns sb₂
      have hcn₂ := cell_same hcn hns sb₂
      have hcx₂ := cell_same hcx hns sb₂
      have hsl₂ := slice_same hsl hns sb₂
      refine ex1_3 (two_names ns₂ hm) ?_
      clear ns₂
      intro m₂ ns₂ hel hm₂
      refine ⟨rfl, TP.of ?_⟩
      walk_at "mine steps"
      all_goals exact ⟨rfl, ⟨h₂, _, rfl, fun b o hb e => (sb₂.2 b hb).trans e⟩, m₂, ns₂, hm₂⟩
    | @str l' _ hl1 hl2 =>
      skip
      refine fn_load fn_no_tag hF hmt rfl ?_
      refine wpAny_storeName_local rfl hns fun h₂ ns₂ sb₂ => ?_
      have hci₂ := cell_same hci hns sb₂
      have hcs₂ := cell_same hcs hns sb₂
      have hcn₂ := cell_same hcn hns sb₂
      have hcx₂ := cell_same hcx hns sb₂
      have hsl₂ := slice_same hsl hns sb₂
      refine ex1_3 (two_names ns₂ hm) ?_
      clear ns₂
      intro m₂ ns₂ hel hm₂
      refine ⟨rfl, TP.of ?_⟩
      walk_at "mine steps"
      all_goals (refine ⟨?_, ⟨h₂, _, rfl, fun b o hb e => (sb₂.2 b hb).trans e⟩, m₂, ns₂, hm₂⟩; first | (rename (List.take _ l' == List.take _ l) = true => hx; exact hx.symm) | (rename (List.take _ l' == List.take _ l) = false => hx; exact hx.symm))
open PySem PySem.W PyProof.Rows PySem.Calls
set_option maxRecDepth 100000
set_option maxHeartbeats 8000000
set_option linter.unusedVariables false
theorem got_codes : Str.empty ++ Str.ofString "internal parser error, got " = st [105,110,116,101,114,110,97,108,32,112,97,114,115,101,114,32,101,114,114,111,114,44,32,103,111,116,32] := by decide +kernel
theorem got_eq (l : List Nat) : Str.empty ++ Str.ofString "internal parser error, got " ++ st l = st ([105,110,116,101,114,110,97,108,32,112,97,114,115,101,114,32,101,114,114,111,114,44,32,103,111,116,32] ++ l) := by rw [got_codes, st_add]
theorem got_len {l : List Nat} (h : l.length ≤ 1000) : (Str.empty ++ Str.ofString "internal parser error, got " ++ st l).length ≤ sizeLine := by
  rw [got_eq, st_len, List.length_append]; show _ ≤ 2 ^ 24; simp; omega
local macro_rules | `(tactic| walk_at "mine steps") => `(tactic| (repeat' (first
  | (k_unfold; (try dsimp only))
  | ((fail_if_success (with_reducible show wpAny _ _ (exec (Stmt.Raise _ _ _) _) _ _ _)); first | walk1 | (dsimp only; walk1)))))
theorem prep_refuse {w : World} {loose : List Str} {mean : ExcName → Option Value} {mg mb : Str → Option Value} {dp un : Nat} {gd : Option (List Code)} {fr : List Env} {s : Shared} {Q E : Value → Shared → Prop} {l : List Nat} {t1 : Tok}
    (G : Gd w loose mean mg mb s.heap) (hd : dp + 1 < recursionLimit) (hu : un + 20 < cLine) (Tb : Tab 16 selQ s.heap) (hl : l.length ≤ 1000)
    (e1 : (l == [123, 42, 125, 42]) = false) (e2 : (l == [123, 125, 42]) = false) (e3 : (List.take (Int.toNat 3) l == [123, 42, 125]) = false) (e4 : (List.drop (l.length - (-(-2 : Int)).toNat) l == [125, 42]) = false) {base : Heap} (Bl : Below (AA dp un gd fr) base fr s.heap)
    (hex : ∀ e t h' tk', Heap.FlyingW base fr e (.type "RuntimeError") (.ref t) h' → (∃ t9, h'.TupAt t [.str (st ([105,110,116,101,114,110,97,108,32,112,97,114,115,101,114,32,101,114,114,111,114,44,32,103,111,116,32] ++ l)) t9]) → base.get? t = none → s.heap.UpToSlots h' → E (.ref e) { s with heap := h', toks := tk' }) :
    wpAny (model PySem.Challenge.rw_nq0080_01.row.prog w) (AA dp un gd fr) (call (.ref 21) [.str (st l) t1]) Q E s := by
  have X := G.X
  have T := G.T
  refine wpAny_call ?_
  refine' enterCC (binds := [(Str.ofString "tag", .str (st l) t1)]) X T.nolimit ?k8 ?k6 ?k7 ?k9 ?kB ?_ ?c2 ?c3 ?c4
  case k8 => (show _ < _; dsimp only; omega)
  case k6 => k_is
  case k7 => k_is
  case k9 => exact rfl
  case kB => exact rfl
  case c2 => exact rfl
  case c3 => exact rfl
  case c4 => exact rfl
  intro s₁ I₀
  rw [bindC_one (by rfl), bindL_one (by rfl)] at I₀
  have I := InX.mk (fs := []) I₀ (List.forall_mem_nil _) (List.forall_mem_nil _)
  clear I₀
  walk_at "mine steps"
  rename InX _ _ _ _ _ _ _ => I
  refine tupX rfl (I.tok _) rfl rfl ?_
  clear I; intro s' I
  walk_at "mine steps"
  rename InX _ _ _ _ _ _ _ => I
  obtain ⟨hs', ts', rfl⟩ := I.i.toInCall.same
  refine Raise_madeB PySem.F.excCall_RuntimeError PySem.F.excRaise_RuntimeError rfl ?_
  refine nmB (I.tok _) (by assumption) (by assumption) (by k_is) (by boot_fast) (by decide) ?_ rfl rfl rfl rfl
  refine ⟨rfl, ?_⟩
  walk_at "mine steps"
  · exact got_len hl
  · refine joinParts_nilE (joinParts_nil ?_ (got_len hl))
    rw [got_eq]
    walk_at "mine steps"
    rename Heap.MadeExc _ _ _ _ _ => hx
    rename InX _ _ _ _ _ _ _ => I
    have kp : Keep s.heap hs' := I.i.toInCall.keep
    have hnew : base.get? s.heap.objs.size = none := by
      cases hq : base.get? s.heap.objs.size with
      | none => rfl
      | some o => exact absurd (Heap.lt_size (Bl.stays _ o hq)) (Nat.lt_irrefl _)
    refine wpAny_leaves_madeW (base := base) (outer := fr) (L := s.heap.objs.size) (h := hs') rfl rfl (fun b o e => kp b o (Bl.stays b o e)) (.cons (show ScopeKind.function ≠ _ by decide) rfl I.i.toInCall.ns hnew (Bl.frames.of_keeps fun b o e _ => ⟨o, kp b o e, rfl⟩)) hx.of fun h9 t9 x1 x2 x3 x4 => ?_
    exact hex _ t9 h9 _ x1 ⟨_, x2⟩ x3 (((Heap.UpToSlots.of_keeps kp).trans (Heap.UpToSlots.of_keeps hx.keeps)).trans x4)
end
section
open PySem PySem.W PyProof.Rows PySem.Calls
set_option maxRecDepth 100000
set_option maxHeartbeats 8000000
set_option linter.unusedVariables false
theorem refusal_spec {w : World} {loose : List Str} {mean : ExcName → Option Value} {mg mb : Str → Option Value} {dp un : Nat} {gd : Option (List Code)} {fr : List Env} {s : Shared} {Q E : Value → Shared → Prop} {l : List Nat} {t1 : Tok} {base : Heap}
    (GB : Gd w loose mean mg mb base) (hbs : base.objs.size ≤ s.heap.objs.size) (hd : dp + 2 < recursionLimit) (hu : un + 40 < cLine) (Tb : Tab 16 selQ s.heap) (hl : l.length ≤ 1000)
    (e1 : (l == [123, 42, 125, 42]) = false) (e2 : (l == [123, 125, 42]) = false) (e3 : (List.take (Int.toNat 3) l == [123, 42, 125]) = false) (e4 : (List.drop (l.length - (-(-2 : Int)).toNat) l == [125, 42]) = false) (Bl : Below (AA dp un gd fr) base fr s.heap)
    (hret : ∀ t h' tk', base.StaysIn h' → s.heap.UpToSlots h' → Q (.str (st ([105,110,116,101,114,110,97,108,32,112,97,114,115,101,114,32,101,114,114,111,114,44,32,103,111,116,32] ++ l)) t) { s with heap := h', toks := tk' }) :
    wpAny (model PySem.Challenge.rw_nq0080_01.row.prog w) (AA dp un gd fr) (call (.ref 101) [.str (st l) t1]) Q E s := by
  have G := GB.keeps Bl.stays
  have X := G.X
  have T := G.T
  refine any_of_wpN (wpN_call ?_)
  refine' enterN (binds := [(Str.ofString "name", .str (st l) t1)]) X T.nolimit ?k8 ?k6 ?k7 ?k9 ?kB ?_ ?c2 ?c3 ?c4 ?c5
  case k8 => (show _ < _; dsimp only; omega)
  case k6 => k_is
  case k7 => k_is
  case k9 => exact BindsTo.of_eq rfl
  case c5 => decide
  case kB => exact locs rfl
  case c2 => exact rfl
  case c3 => exact rfl
  case c4 => exact rfl
  intro h₁ tk F
  have Nw : News s.heap s.heap.objs.size h₁ [] := News.nil
  refine wpN_of_any ?_
  refine wpAny_execs_cons ?_
  refine wpAny_Try_except ?_
  refine wpAny_execs_cons ?_
  refine wpAny_Expr ?_
  walk_at "mine steps"
  rename Fr _ _ _ _ => F'; rename News _ _ _ _ => N'
  refine' prep_refuse (G.keeps F'.keep) (by dsimp only [AA, Around.deeper]; omega) (by dsimp only [AA, Around.deeper]; omega) (Tb.keeps F'.keep) hl e1 e2 e3 e4 ?bl ?_
  case bl => exact pushX Bl F' rfl rfl
  rintro e t h9 tk9 fly ⟨t9, tup⟩ htn up
  have up1 : s.heap.UpToSlots h9 := (Heap.UpToSlots.of_keeps F'.keep).trans up
  refine wpAny_looks_onW rfl rfl fly fun h10 held up10 => ?_
  refine wpAny_landsW held fun h11 fly11 up11 => ?_
  have up2 : s.heap.UpToSlots h11 := (up1.trans up10).trans up11
  have ns11 := (up.trans (up10.trans up11)).ns F'.ns
  have F11 : Fr base s.heap.objs.size h11 _ := ⟨ns11, fly11.1, hbs⟩
  obtain ⟨ob, hob, hobc⟩ := fly11.there
  refine wpAny_handleBy_builtin_as (X := "RuntimeError") (T := "RuntimeError") (b := true) ?_ ?_ ?_ (name_B F11 GB.X (topRead_of GB.T) (by k_is) (by boot_fast) (by decide) ⟨rfl, ⟨ob, hob, hobc⟩, ?_⟩ rfl rfl)
  · rw [isSubtype_type]; kernel_rfl
  · rw [isSubtype_type]; kernel_rfl
  · rw [isSubtype_type]; kernel_rfl
  refine lands_againW fly11 fun h12 fly12 up12 => ?_
  have F12 : Fr base s.heap.objs.size h12 _ := ⟨up12.ns ns11, fly12.1, hbs⟩
  have N12 : News base s.heap.objs.size h12 [] := News.nil
  have up3 := up2.trans up12
  have tup12 := Heap.TupAt.of_slots tup ((up10.trans up11).trans up12)
  obtain ⟨oe, vs, hoe, hoec, hoed, hv0⟩ := fly12.first
  have heL : e ≠ s.heap.objs.size := fun q => by
    obtain ⟨o, _, _, ho, hd, _⟩ := F12.ns
    rw [← q, hoe] at ho; cases ho; rw [hoed] at hd; cases hd
  have htL : t ≠ s.heap.objs.size := fun q => by
    obtain ⟨o, _, _, ho, hd, _⟩ := F12.ns
    obtain ⟨o2, n2, h2, h3, h4⟩ := tup12
    rw [← q, h2] at ho; cases ho; rw [h4] at hd; cases hd
  refine wpAny_storeName_local rfl F12.ns (fun h13 ns13 sb13 => ?_) rfl
  have ex13 : h13.ExcAt e "RuntimeError" (.ref t) := ⟨oe, vs, (sb13.2 e heL).trans hoe, hoec, hoed, hv0⟩
  have tup13 : h13.TupAt t _ := let ⟨o, n, a, b, c⟩ := tup12; ⟨o, n, (sb13.2 t htL).trans a, b, c⟩
  refine wpAny_execs_cons ?_
  refine wpAny_Return_some ?_
  have F13 : Fr base s.heap.objs.size h13 _ := F12.set ns13 sb13
  have N13 : News base s.heap.objs.size h13 [] := News.nil
  clear X T F' N' F11 F12 N12
  have X := GB.X
  have T := GB.T
  dsimp only at F13 ⊢
  walk_at "mine steps"
  refine P.str_of_exc_one PySem.F.excStr_RuntimeError (by dsimp only [AA, Around.deeper, Around.mark]; omega) ex13 tup13 ?_
  rename Fr _ _ _ _ => F13
  refine wpAny_nameGoes_keeps rfl F13.ns rfl ?_
  intro h14 v14 ns14 sb14
  dsimp only at sb14 ⊢
  have F14 := F13.set ns14 sb14
  refine hret _ _ _ F14.keep fun b o hb hn => ?_
  obtain ⟨sl, hsl⟩ := up3 b o hb hn
  have hbL : b ≠ s.heap.objs.size := Nat.ne_of_lt (Heap.lt_size hb)
  exact ⟨sl, (sb14.2 b hbL).trans ((sb13.2 b hbL).trans hsl)⟩
end
section
open PySem PySem.W PyProof.Rows PySem.Calls
set_option maxRecDepth 100000
set_option maxHeartbeats 8000000
set_option linter.unusedVariables false
def Made (h h' : Heap) (objs : List (Addr × Obj)) : Prop := ∀ p ∈ objs, h'.get? p.1 = some p.2 ∧ h.get? p.1 = none
theorem news_made {h₀ h h' : Heap} {L : Addr} {m : Str → Option Value} {news objs : List (Addr × Obj)} (F : Fr h₀ L h m) (N : News h₀ L h' news) (M : Made h h' objs) : News h₀ L h' (objs ++ news) := by
  intro p hp
  rcases List.mem_append.mp hp with hp | hp
  · obtain ⟨h1, h2⟩ := M p hp
    refine ⟨h1, fun e => ?_, ?_⟩
    · obtain ⟨oL, _, _, hL, _⟩ := F.ns
      have e : p.1 = L := e
      rw [e, hL] at h2; cases h2
    · cases q : h₀.get? p.1 with
      | none => rfl
      | some o' => have := F.keep _ _ q; rw [h2] at this; cases this
  · exact N p hp
theorem made_of_news {h₀ h : Heap} {L : Addr} {news objs : List (Addr × Obj)} (N : News h₀ L h news) (hs : ∀ p ∈ objs, p ∈ news) : Made h₀ h objs := fun p hp => ⟨(N p (hs p hp)).1, (N p (hs p hp)).2.2⟩
theorem Made.keeps {h h' h'' : Heap} {objs : List (Addr × Obj)} (M : Made h h' objs) (k : Keep h' h'') : Made h h'' objs := fun p hp => ⟨k _ _ (M p hp).1, (M p hp).2⟩
/-- v is a tuple of the two ints, among the objects -/
def PairAt (objs : List (Addr × Obj)) (v : Value) (p : Int × Int) : Prop := ∃ a t u n, v = .ref a ∧ (a, ({ cls := .type "tuple", data := .seq #[.int p.1 t, .int p.2 u] n } : Obj)) ∈ objs
theorem PairAt.mono {objs objs' : List (Addr × Obj)} {v : Value} {p : Int × Int} (x : PairAt objs v p) (k : ∀ q ∈ objs, q ∈ objs') : PairAt objs' v p := let ⟨a, t, u, n, e, h⟩ := x; ⟨a, t, u, n, e, k _ h⟩
inductive All2 {α β : Type} (F : α → β → Prop) : List α → List β → Prop
  | nil : All2 F [] []
  | cons {a : α} {b : β} {as : List α} {bs : List β} : F a b → All2 F as bs → All2 F (a :: as) (b :: bs)
theorem All2.mono {α β : Type} {F G : α → β → Prop} {as : List α} {bs : List β} (x : All2 F as bs) (k : ∀ a b, F a b → G a b) : All2 G as bs := by
  induction x with
  | nil => exact .nil
  | cons h _ ih => exact .cons (k _ _ h) ih
theorem All2.snoc {α β : Type} {F : α → β → Prop} {as : List α} {bs : List β} {a : α} {b : β} (x : All2 F as bs) (h : F a b) : All2 F (as ++ [a]) (bs ++ [b]) := by
  induction x with
  | nil => exact .cons h .nil
  | cons h' _ ih => exact .cons h' ih
theorem All2.length {α β : Type} {F : α → β → Prop} {as : List α} {bs : List β} (x : All2 F as bs) : as.length = bs.length := by
  induction x with
  | nil => rfl
  | cons _ _ ih => simp [ih]
theorem All2.get {α β : Type} {F : α → β → Prop} {as : List α} {bs : List β} (x : All2 F as bs) {i : Nat} {a : α} (h : as[i]? = some a) : ∃ b, bs[i]? = some b ∧ F a b := by
  induction x generalizing i with
  | nil => simp at h
  | cons h' _ ih =>
    cases i with
    | zero => simp at h; subst h; exact ⟨_, rfl, h'⟩
    | succ i => simp at h; simpa using ih h
/-- the plain places -/
def placesF : Int → Int → List Int → List (Int × Int)
  | _, _, [] => []
  | n, last, g :: gs => (Int.fmod (last + 1 + g) (n + 1), n - Int.fmod (last + 1 + g) (n + 1)) :: placesF (n + 1) (Int.fmod (last + 1 + g) (n + 1)) gs
theorem rangeSz (n : Nat) : Builtin.Range.rangeSize 0 (n : Int) 1 = (n : Int) := by rw [rangeSize_one]; split <;> omega
theorem pyIter_rng {prog : Program} {w : World} {A : Around} {E : Value → Shared → Prop} {s : Shared} {r : Addr} {n : Nat} {t u v : Tok} {Q : Value → Shared → Prop} (hr : IsRange s.heap r 0 (n : Int) 1 t u v) (hn : n < 1000000)
    (hQ : ∀ h', Keep s.heap h' → h'.objs.size = s.heap.objs.size + 1 → IsRangeIter h' s.heap.objs.size (0 + ((0 : Nat) : Int) * 1) ((n : Int) - ((0 : Nat) : Int)) 1 → Q (.ref s.heap.objs.size) { s with heap := h' }) :
    wpAny (model prog w) A (pyIter (.ref r)) Q E s := by
  refine wpAny_pyIter_range hr (small_one (by decide) (by decide) (by omega) (by omega)) ?_
  refine hQ _ (fun b o e => Heap.get?_push_of_some _ e) (by rw [Heap.size_push]) ?_
  rw [rangeSz]
  have e := Heap.get?_push_size s.heap (o := { cls := .type "range_iterator", data := .fields #[rawInt 0, rawInt (n : Int), rawInt 1] }) rfl
  simpa using e
theorem getElem?_tail' {α : Type} {l : List α} {i : Nat} {x : α} (h : l[i]? = some x) : l.drop i = x :: l.drop (i + 1) := by
  rw [List.getElem?_eq_some_iff] at h
  obtain ⟨hlt, rfl⟩ := h
  exact List.drop_eq_getElem_cons hlt
theorem bindL_l {k : Str → Option NameKind} {n : Str} {v : Value} {r : List (Str × Value)} {m : Str → Option Value} (h : k n = some .local) : bindL k ((n, v) :: r) m = bindL k r (fun y => if y = n then some v else m y) := by
  rw [bindL, if_pos h]
theorem bindL_c {k : Str → Option NameKind} {n : Str} {v : Value} {r : List (Str × Value)} {m : Str → Option Value} (h : k n = some .cell) : bindL k ((n, v) :: r) m = bindL k r m := by
  rw [bindL, if_neg (by rw [h]; decide)]
theorem bindC_l {k : Str → Option NameKind} {n : Str} {v : Value} {r : List (Str × Value)} {m : Str → Option Value} (h : k n = some .local) : bindC k ((n, v) :: r) m = bindC k r m := by
  rw [bindC, if_pos h]
theorem bindC_c {k : Str → Option NameKind} {n : Str} {v : Value} {r : List (Str × Value)} {m : Str → Option Value} (h : k n = some .cell) : bindC k ((n, v) :: r) m = bindC k r (fun y => if y = n then some v else m y) := by
  rw [bindC, if_neg (by rw [h]; decide)]
theorem bindL_n {k : Str → Option NameKind} {m : Str → Option Value} : bindL k [] m = m := rfl
theorem bindC_n {k : Str → Option NameKind} {m : Str → Option Value} : bindC k [] m = m := rfl
theorem len_listE {prog : Program} {w : World} {A : Around} {E : Value → Shared → Prop} {s : Shared} {l : Addr} {items : Array Value} {n : Nat} {Q : Value → Shared → Prop} (hl : s.heap.IsList l items) (e : items.size = n) (hfit : (n : Int) < 2 ^ 63)
    (h : Q (.int (n : Nat) (s.toks + 1)) { s with toks := s.toks + 1 + 1 }) : wpAny (model prog w) A (call (.builtin "len") [.ref l]) Q E s := by
  subst e; exact len_list hl hfit h
end
section
open PySem PySem.W PyProof.Rows PySem.Calls
set_option maxRecDepth 100000
set_option maxHeartbeats 8000000
set_option linter.unusedVariables false
section
variable {b : Bool} {prog : Program} {w : World} {A : Around} {s : Shared} {env : Env} {h₀ : Heap}
theorem for_walkS {σ : Type} {R : Flow → Shared → Prop} {x : Str} {px : Pos} {body : List Stmt} {I : Addr} {fp wr : List Addr} {n : Nat} {P : Nat → Value → Prop} {St : Nat → Heap → Prop} {m₀ : Str → Option Value}
    (W : Walks prog w A I fp wr n P St) (hlive : ∀ i h, St i h → ∀ b ∈ wr, ∃ o, h.get? b = some o)
    (Led : Nat → σ → List (Addr × Obj)) (ps : Nat → σ → List (Str × Value)) (Inv : Nat → σ → Prop) (c₀ : σ)
    (hx : env.kindOf x = some .local) (hp : (env.scope.kind == .class || (env.scope.kind == .module && env.locals != env.globals)) = false)
    (hLf : env.locals ∉ fp) (hwr : ∀ b ∈ wr, h₀.get? b = none) (hnw : ∀ p ∈ Led 0 c₀, p.1 ∉ wr)
    (hst : St 0 s.heap) (F : Fr h₀ env.locals s.heap m₀) (N : News h₀ env.locals s.heap (Led 0 c₀)) (hk : ∀ p ∈ ps 0 c₀, m₀ p.1 = some p.2) (h0 : Inv 0 c₀)
    (turn : ∀ i v c u h tk own, i < n → P i v → Inv i c → St (i + 1) h → (∀ p ∈ Led i c, p.1 ∉ wr) → (∀ p ∈ own, p.1 ∈ fp) → (∀ b ∈ wr, ∃ o, (b, o) ∈ own) →
      Fr h₀ env.locals h (fun y => if y = x then some v else kstB u (ps i c) y) → News h₀ env.locals h (own ++ Led i c) →
      wpN b (model prog w) A (execs body env) (FPost h₀ env.locals { s with heap := h, toks := tk } own wr (Led (i + 1)) (ps (i + 1)) (Inv (i + 1)) R) { s with heap := h, toks := tk })
    (done : ∀ c u h tk, Inv n c → Fr h₀ env.locals h (kstB u (ps n c)) → News h₀ env.locals h (Led n c) → R .next { s with heap := h, toks := tk }) :
    codeN b (model prog w) A (.forLoop (.Name x px) (.ref I) body [] env) R s := by
  have hLw : env.locals ∉ wr := fun h => hLf (W.sub _ h)
  have old : ∀ b o, h₀.get? b = some o → b ∉ wr := fun b o e hb => by rw [hwr b hb] at e; cases e
  refine abs2 (fun k s' => ∃ h' tk m' i c, s' = { s with heap := h', toks := tk } ∧ St i h' ∧ Fr h₀ env.locals h' m' ∧ News h₀ env.locals h' (Led i c) ∧ (∀ p ∈ Led i c, p.1 ∉ wr) ∧ (∀ p ∈ ps i c, m' p.1 = some p.2) ∧ Inv i c ∧ i ≤ n ∧ k = n + 1 - i) fun Iv hv1 hv2 => ?_
  refine codeN_forLoop Iv ?_ (n + 1) (hv2 _ _
    ⟨s.heap, s.toks, m₀, 0, c₀, rfl, hst, F, N, hnw, hk, h0, Nat.zero_le _, rfl⟩)
  intro k s' hxx
  refine ex5_9 (hv1 _ _ hxx) ?_
  clear hxx
  intro h' tk m' i c eqs hst' F' N' hnw' hk' hJ hi hkk
  subst eqs
  have next : ∀ h₁ : Heap, (∀ b o, b ∉ wr → h'.get? b = some o → h₁.get? b = some o) → Fr h₀ env.locals h₁ m' ∧ News h₀ env.locals h₁ (Led i c) := fun h₁ hk₁ =>
    ⟨⟨F'.ns.at' fun o e => hk₁ _ o hLw e, fun b o e => hk₁ b o (old b o e) (F'.keep b o e), F'.above⟩, fun p hp => ⟨hk₁ _ _ (hnw' p hp) (N' p hp).1, (N' p hp).2⟩⟩
  by_cases hlt : i < n
  · refine wpN_of_any (W.item i _ _ _ hlt hst' fun v h₁ tk₁ hP hst₁ hk₁ => ?_)
    obtain ⟨F₁, N₁⟩ := next h₁ hk₁
    refine wpN_of_any (wpAny_of_eq (rfl : letOwnedTupleGo (.Name x px) (.ref I) v = pure ()) ?_)
    refine wpN_of_any (wpAny_assign_Name (wpAny_storeName_local hx F₁.ns (fun h₂ hn₂ hs₂ => ?_) hp))
    have F₂ := F₁.set hn₂ hs₂
    have Nown : News h₀ env.locals h₂ (ownOf h₀ fp h₂) := news_ownOf hLf
    have hst₂ : St (i + 1) h₂ := W.frame _ _ _ hst₁ fun b hb o e => (hs₂.2 b fun q => hLf (q ▸ hb)).trans e
    have F₃ : Fr h₀ env.locals h₂ (fun y => if y = x then some v else kstB m' (ps i c) y) := by rw [fr_kst2 (h := h₂) hk']; exact F₂
    refine wpN_mono (turn i v c m' h₂ _ (ownOf h₀ fp h₂) hlt hP hJ hst₂ hnw' ownOf_sub (fun b hb => ?_) F₃ (Nown.append (N₁.set hs₂))) fun f s₃ h₃ => ?_
    · obtain ⟨o, ho⟩ := hlive _ _ hst₂ b hb
      exact ⟨o, mem_ownOf (W.sub _ hb) (hwr b hb) ho⟩
    have fin : FEnd h₀ env.locals { s with heap := h₂, toks := tk₁ + 1 } (ownOf h₀ fp h₂) wr (Led (i + 1)) (ps (i + 1)) (Inv (i + 1)) s₃ → ∃ m, m < k ∧ Iv m s₃ := by
      rintro ⟨c', h₃', tk₃, m₂, news₂, rfl, F₃, N₃, ho₃, hn₃, hw₃, hk₃, hJ₃⟩
      refine ⟨n + 1 - (i + 1), by omega, hv2 _ _ ⟨h₃', tk₃, m₂, i + 1, c', rfl, ?_, F₃, fun p hp => N₃ p (hn₃ p hp), hw₃, hk₃, hJ₃, hlt, rfl⟩⟩
      refine W.frame _ _ _ hst₁ fun b hb o e => ?_
      have e₂ : h₂.get? b = some o := (hs₂.2 b fun q => hLf (q ▸ hb)).trans e
      cases hn : h₀.get? b with
      | some o₀ =>
        have : o₀ = o := by have := F₂.keep b o₀ hn; rw [e₂] at this; exact (Option.some.inj this).symm
        exact this ▸ F₃.keep b o₀ hn
      | none => exact (N₃ _ (ho₃ _ (mem_ownOf hb hn e₂))).1
    cases f with
    | ret v => exact h₃
    | brk => exact h₃
    | next => exact fin h₃
    | cont => exact fin h₃
  · have hin : i = n := by omega
    rw [hin] at hst' hJ hk'
    refine wpN_of_any (W.done _ _ _ hst' fun h₁ tk₁ hk₁ => ?_)
    obtain ⟨F₁, N₁⟩ := next h₁ hk₁
    rw [hin] at N₁
    exact done c m' h₁ tk₁ hJ (by rw [fr_kst2 (h := h₁) hk']; exact F₁) N₁
/-- what a turn over a range leaves -/
def REnd {σ : Type} (h₀ : Heap) (L : Addr) (s : Shared) (io : Addr × Obj) (Led : σ → List (Addr × Obj)) (ps : σ → List (Str × Value)) (P : σ → Prop) (s₂ : Shared) : Prop :=
  ∃ (c' : σ) (h' : Heap) (tk : Nat) (m' : Str → Option Value) (news' : List (Addr × Obj)), s₂ = { s with heap := h', toks := tk } ∧ Fr h₀ L h' m' ∧ News h₀ L h' news' ∧ io ∈ news' ∧ (∀ p ∈ Led c', p ∈ news') ∧ (∀ p ∈ ps c', m' p.1 = some p.2) ∧ P c'
def RPost {σ : Type} (h₀ : Heap) (L : Addr) (s : Shared) (io : Addr × Obj) (Led : σ → List (Addr × Obj)) (ps : σ → List (Str × Value)) (P : σ → Prop) (R : Flow → Shared → Prop) (f : Flow) (s₂ : Shared) : Prop :=
  match f with
  | .ret v => R (.ret v) s₂
  | .brk => R .next s₂
  | _ => REnd h₀ L s io Led ps P s₂
theorem rend {σ : Type} {L : Addr} {io : Addr × Obj} {Led : σ → List (Addr × Obj)} {ps : σ → List (Str × Value)} {P : σ → Prop} {m' : Str → Option Value} {h' : Heap} {tk : Nat} {news' : List (Addr × Obj)} (c' : σ)
    (F : Fr h₀ L h' m') (N : News h₀ L h' news') (ho : io ∈ news') (hn : ∀ p ∈ Led c', p ∈ news') (hk : ∀ p ∈ ps c', m' p.1 = some p.2) (hp : P c') :
    REnd h₀ L s io Led ps P { s with heap := h', toks := tk } := ⟨c', h', tk, m', news', rfl, F, N, ho, hn, hk, hp⟩
abbrev rngObj (a b c : Int) (t u v : Tok) : Obj := { cls := .type "range", data := .fields #[.int a t, .int b u, .int c v] }
theorem for_rng {σ : Type} {R : Flow → Shared → Prop} {x : Str} {px : Pos} {body : List Stmt} {n : Nat} {m₀ : Str → Option Value} {t u v : Tok} {r : Addr}
    (hh : A.handled = none) (Led : Nat → σ → List (Addr × Obj)) (ps : Nat → σ → List (Str × Value)) (Inv : Nat → σ → Prop) (c₀ : σ)
    (hr : IsRange s.heap r 0 (n : Int) 1 t u v) (hn : n < 1000000) (hx : env.kindOf x = some .local) (hp : (env.scope.kind == .class || (env.scope.kind == .module && env.locals != env.globals)) = false)
    (F : Fr h₀ env.locals s.heap m₀) (N : News h₀ env.locals s.heap (Led 0 c₀)) (hk : ∀ p ∈ ps 0 c₀, m₀ p.1 = some p.2) (h0 : Inv 0 c₀)
    (hcls : ∀ i c, Inv i c → ∀ p ∈ Led i c, p.2.cls ≠ .type "range_iterator" ∨ ∃ v, p.2.data = .cell v)
    (turn : ∀ i (tv : Tok) c u h tk I io, i < n → Inv i c → (∀ p ∈ Led i c, p.1 ≠ I) → io.cls = .type "range_iterator" →
      Fr h₀ env.locals h (fun y => if y = x then some (.int (i : Int) tv) else kstB u (ps i c) y) → News h₀ env.locals h ((I, io) :: Led i c) →
      wpN b (model prog w) A (execs body env) (RPost h₀ env.locals { s with heap := h, toks := tk } (I, io) (Led (i + 1)) (ps (i + 1)) (Inv (i + 1)) R) { s with heap := h, toks := tk })
    (done : ∀ c u h tk, Inv n c → Fr h₀ env.locals h (kstB u (ps n c)) → News h₀ env.locals h (Led n c) → R .next { s with heap := h, toks := tk }) :
    wpN b (model prog w) A (pyIter (.ref r)) (fun it s₂ => codeN b (model prog w) A (.forLoop (.Name x px) it body [] env) R s₂) s := by
  refine wpN_of_any (pyIter_rng hr hn fun h' kp hsz hit => ?_)
  have F' := fr_mv F kp
  have N' := news_mv N kp
  have hI : s.heap.get? s.heap.objs.size = none := Heap.get?_none_of_le (Nat.le_refl _)
  have hIL : env.locals ≠ s.heap.objs.size := fun e => by
    obtain ⟨o, _, _, ho, _⟩ := F.ns; rw [e, hI] at ho; cases ho
  refine for_walkS (s := { s with heap := h' }) (Walks.range hh s.heap.objs.size 0 1 n) ?live Led ps Inv c₀ hx hp ?hLf ?hwr ?hnw hit F' N' hk h0 ?turn done
  case live => intro i h hst b hb; rw [List.mem_singleton.mp hb]; exact ⟨_, hst⟩
  case hLf => rw [List.mem_singleton]; exact hIL
  case hwr =>
    intro b hb; rw [List.mem_singleton.mp hb]
    cases q : h₀.get? s.heap.objs.size with
    | none => rfl
    | some o => have := F.keep _ _ q; rw [hI] at this; cases this
  case hnw =>
    intro p hp2 hb
    have := (N p hp2).1
    rw [List.mem_singleton.mp hb, hI] at this; cases this
  case turn =>
    rintro i v c u h tk own hin ⟨tv, rfl⟩ hJ hst2 hoff hown hwo Fw Nw
    obtain ⟨io, hio⟩ := hwo _ (List.mem_singleton.mpr rfl)
    have e1 : (0 + (i : Int) * 1) = (i : Int) := by omega
    rw [e1] at Fw
    have hne : ∀ p ∈ Led i c, p.1 ≠ s.heap.objs.size := fun p hp2 e => hoff p hp2 (List.mem_singleton.mpr e)
    have hN2 : News h₀ env.locals h ((s.heap.objs.size, io) :: Led i c) := fun p hp2 => by
      rcases List.mem_cons.mp hp2 with rfl | hp2
      · exact Nw _ (List.mem_append_left _ hio)
      · exact Nw p (List.mem_append_right _ hp2)
    have hicd : io.cls = .type "range_iterator" ∧ ∀ v, io.data ≠ .cell v := by
      have e4 := (Nw _ (List.mem_append_left _ hio)).1
      have e5 : h.get? s.heap.objs.size = _ := hst2
      dsimp only at e4
      rw [e5] at e4; cases e4; exact ⟨rfl, fun v e => by cases e⟩
    have hic := hicd.1
    · refine wpN_mono (turn i tv c u h tk s.heap.objs.size io hin hJ hne hic Fw hN2) fun f s₃ h₃ => ?_
      have fin : REnd h₀ env.locals { s with heap := h, toks := tk } (s.heap.objs.size, io) (Led (i + 1)) (ps (i + 1)) (Inv (i + 1)) s₃ → FEnd h₀ env.locals { s with heap := h, toks := tk } own [s.heap.objs.size] (Led (i + 1)) (ps (i + 1)) (Inv (i + 1)) s₃ := by
        rintro ⟨c', h₃', tk₃, m₂, news₂, rfl, F₃, N₃, ho₃, hn₃, hk₃, hJ₃⟩
        refine ⟨c', h₃', tk₃, m₂, news₂, rfl, F₃, N₃, fun p hp2 => ?_, hn₃, fun p hp2 hb => ?_, hk₃, hJ₃⟩
        · have e2 : p.1 = s.heap.objs.size := List.mem_singleton.mp (hown p hp2)
          have e3 := (Nw p (List.mem_append_left _ hp2)).1
          have e4 := (Nw _ (List.mem_append_left _ hio)).1
          obtain ⟨pa, po⟩ := p
          dsimp only at e2 e3 e4
          subst e2
          rw [e4] at e3; cases e3
          exact ho₃
        · have e2 : p.1 = s.heap.objs.size := List.mem_singleton.mp hb
          have e3 := (N₃ p (hn₃ p hp2)).1
          have e4 := (N₃ _ ho₃).1
          dsimp only at e4
          rw [e2, e4] at e3; cases e3
          rcases hcls _ _ hJ₃ p hp2 with z | ⟨v, z⟩
          · exact z hic
          · exact hicd.2 v z
      cases f with
      | ret v => exact h₃
      | brk => exact h₃
      | next => exact fin h₃
      | cont => exact fin h₃
end
section
variable {prog : Program} {w : World} {A : Around} {E : Value → Shared → Prop} {s : Shared} {h₀ : Heap} {L D : Addr} {m : Str → Option Value} {news : List (Addr × Obj)}
theorem app_news {its : Array Value} {n : Nat} {x : Value} {Q : Value → Shared → Prop} (F : Fr h₀ L s.heap m) (N : News h₀ L s.heap news) (hm : (D, listOf its n) ∈ news) (hsz : its.size ≤ 100000)
    (h : ∀ h' n', Fr h₀ L h' m → News h₀ L h' ((D, listOf (its.push x) n') :: news.filter (fun p => p.1 != D)) → Q .none { s with heap := h' }) :
    wpAny (model prog w) A (call (.builtin "list.append") [.ref D, x]) Q E s := by
  have hD := N _ hm
  dsimp only at hD
  refine wpAny_list_append_plain (hsz := by rw [sizeLine_eq]; omega) ⟨n, hD.1⟩ fun h' hl hs => ?_
  obtain ⟨n', hn'⟩ := hl
  refine h h' n' ⟨F.ns.sameBut hs (Ne.symm hD.2.1), fun b o e => (hs.2 b fun q => ?_).trans (F.keep b o e), F.above⟩ fun p hp => ?_
  · rw [q, hD.2.2] at e; cases e
  · rcases List.mem_cons.mp hp with rfl | hp
    · exact ⟨hn', hD.2⟩
    · obtain ⟨h1, h2⟩ := List.mem_filter.mp hp
      exact ⟨(hs.2 _ (by simpa using h2)).trans (N p h1).1, (N p h1).2⟩
theorem mem_off {p : Addr × Obj} (h1 : p ∈ news) (h2 : p.1 ≠ D) (q : Addr × Obj) : p ∈ q :: news.filter (fun p => p.1 != D) := List.mem_cons_of_mem _ (List.mem_filter.mpr ⟨h1, by simpa using h2⟩)
end
end
section
open PySem PySem.W PyProof.Rows PySem.Calls
set_option maxRecDepth 100000
set_option maxHeartbeats 8000000
set_option linter.unusedVariables false
theorem tup_head {h₀ h : Heap} {L a : Addr} {x y : Int} {t u : Tok} {n : Nat} {rest : List (Addr × Obj)} (N : News h₀ L h ((a, { cls := .type "tuple", data := .seq #[.int x t, .int y u] n }) :: rest)) :
    ∃ ot : Obj, News h₀ L h ((a, ot) :: rest) ∧ ∃ t u n, ot = { cls := .type "tuple", data := .seq #[.int x t, .int y u] n } := ⟨_, N, _, _, _, rfl⟩
theorem places_spec {w : World} {loose : List Str} {mean : ExcName → Option Value} {mg mb : Str → Option Value} {dp un : Nat} {gd : Option (List Code)} {fr : List Env} {s : Shared} {Q E : Value → Shared → Prop} {base : List Nat} {t1 : Tok} {l : Addr} {vs : List Value} {gs : List Int}
    (G : Gd w loose mean mg mb s.heap) (hd : dp + 1 < recursionLimit) (hu : un + 20 < cLine) (hb : base.length ≤ 1000) (hl : s.heap.IsList l vs.toArray) (hi : IntsAre vs gs) (hlen : gs.length ≤ 40) (hg : ∀ g ∈ gs, 0 ≤ g ∧ g < 2 ^ 40)
    (hret : ∀ D objs its n h' tk', Keep s.heap h' → Made s.heap h' ((D, listOf its n) :: objs) → All2 (PairAt objs) its.toList (placesF base.length (-1) gs) → Q (.ref D) { s with heap := h', toks := tk' }) :
    wpAny (model PySem.Challenge.rw_nq0080_01.row.prog w) (AA dp un gd fr) (call (.ref 82) [.str (st base) t1, .ref l]) Q E s := by
  have X := G.X
  have T := G.T
  refine any_of_wpN (wpN_call ?_)
  refine' enterN X T.nolimit ?k8 ?k6 ?k7 ?k9 ?kB ?_ ?c2 ?c3 ?c4 ?c5
  case k8 => (show _ < _; dsimp only; omega)
  case k6 => k_is
  case k7 => k_is
  case k9 => exact BindsTo.of_eq rfl
  case c5 => decide
  case kB => exact locs rfl
  case c2 => exact rfl
  case c3 => exact rfl
  case c4 => exact rfl
  intro h₁ tk F
  have Nw : News s.heap s.heap.objs.size h₁ [] := News.nil
  refine wpN_leaf ?_
  walk_at "mine steps"
  refine wpN_leaf ?_
  walk_at "mine steps"
  have hlen2 : vs.length = gs.length := hi.length
  rename Fr _ _ _ _ => F3
  have hl3 := hl.at fun o e => F3.keep l o e
  refine wpN_execs_cons (wpN_For (wpN_of_any ?_))
  walk_at "mine steps"
  rename Fr _ _ _ _ => F4; rename News _ _ _ _ => N4
  refine' for_rng (σ := Addr × List Value × Nat × List (Addr × Obj) × Int × Tok) rfl
    (fun i c => (c.1, listOf c.2.1.toArray c.2.2.1) :: c.2.2.2.1)
    (fun i c => [("base", .str (st base) t1), ("gaps", .ref l), ("places", .ref c.1), ("last", .int c.2.2.2.2.1 c.2.2.2.2.2)])
    (fun i c => c.2.1.length = i ∧ (∀ p ∈ c.2.2.2.1, p.2.cls = .type "tuple") ∧ ∃ ds, All2 (PairAt c.2.2.2.1) c.2.1 ds ∧ placesF base.length (-1) gs = ds ++ placesF (base.length + i) c.2.2.2.2.1 (gs.drop i))
    ⟨_, [], _, [], -1, _⟩ (by assumption) (by omega) rfl rfl F4 N4 ?hk ?h0 ?hcls ?turn ?done
  case hk => kst_all
  case h0 => exact ⟨rfl, List.forall_mem_nil _, [], .nil, by simp⟩
  case hcls =>
    intro i
    refine prod6 ?_
    intro D its nn objs la tl hinv p hp
    have q2 := hinv.2.1
    rcases List.mem_cons.mp hp with rfl | hp
    · exact .inl (by show Value.type "list" ≠ _; decide)
    · exact .inl (by rw [q2 p hp]; decide)
  case done =>
    clear F4 N4
    refine prod6 ?_
    intro D its nn objs la tl u h tk' hinv Fw Nw
    dsimp only at hinv Fw Nw ⊢
    refine hide ?_
    intro P' hP'
    obtain ⟨q1, q2, ds, q3, q4⟩ := hinv
    refine hP' ?_
    clear hP' P'
    refine wpN_leaf ?_
    walk_at "mine steps"
    rename Fr _ _ _ _ => F'; rename News _ _ _ _ => N'
    refine hret D objs its.toArray nn _ _ F'.keep (made_of_news N' fun p hp => hp) ?_
    rw [q4, List.drop_length]; simpa [placesF] using q3
  case turn =>
    clear F4 N4
    intro i tv
    refine prod6 ?_
    intro D its nn objs la tl u h tk' I io hin hinv hoff hic Fw Nw
    dsimp only at hinv hoff Fw Nw
    refine hide ?_
    intro P' hP'
    obtain ⟨q1, q2, ds, q3, q4⟩ := hinv
    obtain ⟨g, hgi⟩ : ∃ g, gs[i]? = some g := ⟨_, List.getElem?_eq_getElem hin⟩
    obtain ⟨hg0, hg1⟩ := hg g (List.mem_of_getElem? hgi)
    refine hP' ?_
    clear hP' P'
    have hl5 := hl.at fun o e => Fw.keep l o e
    have hoD : ∀ p ∈ objs, p.1 ≠ D := fun p hp e => by
      have e1 := (Nw p (List.mem_cons_of_mem _ (List.mem_cons_of_mem _ hp))).1
      have e2 := (Nw _ (List.mem_cons_of_mem _ (List.Mem.head _))).1
      have e3 := q2 p hp
      dsimp only at e2
      rw [e, e2] at e1
      rw [← Option.some.inj e1] at e3
      exact absurd e3 (by show Value.type "list" ≠ _; decide)
    have hID : D ≠ I := hoff _ (List.Mem.head _)
    have egi : gs.getD (i : Int).toNat 0 = g := by rw [Int.toNat_natCast, List.getD_eq_getElem?_getD, hgi]; rfl
    refine wpN_leaf ?_
    walk_at "mine steps"
    refine wpN_leaf ?_
    walk_at "mine steps"
    refine wpN_leaf ?_
    walk_at "mine steps"
    rename Fr _ _ _ _ => F'; rename News _ _ _ _ => N'
    rename _ < _ ∧ _ < _ ∧ AllLt _ _ => hlt
    rename_i D9 h9
    have hD9 : D9 ≠ D := Nat.ne_of_gt hlt.2.1
    rw [egi] at F' N'
    refine ex1_2 (tup_head N') ?_
    intro ot Nt ht1
    refine app_news F' Nt (List.mem_cons_of_mem _ (List.mem_cons_of_mem _ (List.Mem.head _))) (by simp; omega) ?_
    clear F' N' Nt
    intro h6 n6 F' N'
    refine wpN_execs_nil ?_
    dsimp only [RPost]
    refine' rend ⟨D, its ++ [.ref D9], n6, (D9, ot) :: objs, Int.fmod (la + 1 + g) (base.length + i + 1), ?tt⟩ F' N' ?io ?led ?ps ⟨?len, ?cls, ds ++ [(Int.fmod (la + 1 + g) (base.length + i + 1), base.length + i - Int.fmod (la + 1 + g) (base.length + i + 1))], ?all, ?eq⟩
    case ps => kst_all
    case io => exact mem_off (List.mem_cons_of_mem _ (List.Mem.head _)) (Ne.symm hID) _
    case led =>
      intro p hp
      rcases List.mem_cons.mp hp with rfl | hp
      · simp
      · rcases List.mem_cons.mp hp with rfl | hp
        · exact mem_off (List.Mem.head _) hD9 _
        · exact mem_off (List.mem_cons_of_mem _ (List.mem_cons_of_mem _ (List.mem_cons_of_mem _ hp))) (hoD p hp) _
    case len => simp [q1]
    case cls =>
      intro p hp
      rcases List.mem_cons.mp hp with rfl | hp
      · obtain ⟨_, _, _, rfl⟩ := ht1; rfl
      · exact q2 p hp
    case all =>
      obtain ⟨_, _, _, rfl⟩ := ht1
      exact All2.snoc (q3.mono fun a b x => x.mono fun q hq => List.mem_cons_of_mem _ hq) ⟨D9, _, _, _, rfl, List.Mem.head _⟩
    case eq =>
      rw [q4, getElem?_tail' hgi, placesF, List.append_assoc]
      rw [show ((i + 1 : Nat) : Int) = (i : Int) + 1 by omega, ← Int.add_assoc]; rfl
end
section
open PySem PySem.W PyProof.Rows PySem.Calls
set_option maxRecDepth 100000
set_option maxHeartbeats 8000000
set_option linter.unusedVariables false
def tst (M : Model) (A : Around) (c? : Option PySem.Expr) (env : Env) (K : Bool → Shared → Prop) (E : Value → Shared → Prop) (s : Shared) : Prop := match c? with
  | none => K true s
  | some c => wpAny M A (isTrue c env (eval c env)) K E s
section
variable {prog : Program} {w : World} {A : Around} {E : Value → Shared → Prop} {s : Shared}
theorem pr_loop {elt target iter : PySem.Expr} {c? : Option PySem.Expr} {scope : Scope} {pos : Pos} {it acc : Value} {env : Env} {R : Result → Shared → Prop} (I : Nat → Shared → Prop)
    (turn : ∀ n s (E' : Value → Shared → Prop), I n s → wpAny (model prog w) A (pyNext it) (fun r s₁ => match r with
      | none => R (.ok .next) s₁
      | some v => wpAny (model prog w) A (letOwnedTupleGo target it v) (fun _ s₀ => wpAny (model prog w) A (assign target env v) (fun _ s₂ =>
          tst (model prog w) A c? env (fun ok s₃ => if ok = true then wpAny (model prog w) A (eval elt env) (fun x s₄ =>
            wpAny (model prog w) A (call (.builtin "list.append") [acc, x]) (fun _ s₅ => ∃ m, m < n ∧ I m s₅) E' s₄) E' s₃
            else ∃ m, m < n ∧ I m s₃) E' s₂) E' s₀) E' s₁) E' s)
    (n : Nat) (h : I n s) : codeAny (model prog w) A (.compLoop (.ListComp elt [⟨target, iter, c?.toList, 0⟩] scope pos) 0 it acc env) R s := by
  cases c? with
  | none =>
    refine kcp_loop I (fun n s hI => ?_) n h
    refine wpAny_mono (turn n s _ hI) (fun r s₁ h₁ => ?_) fun _ _ e => e
    cases r with
    | none => exact h₁
    | some v => exact wpAny_mono h₁ (fun _ s₀ h₀ => wpAny_mono h₀ (fun _ s₂ h₂ => by simpa [tst] using h₂) fun _ _ e => e) fun _ _ e => e
  | some c => exact kct_loop I (fun n s hI => turn n s _ hI) n h
/-- a list of pairs of ints -/
def PairsAt (h : Heap) (items : Array Value) (xs : List (Int × Int)) : Prop := All2 (fun v (q : Int × Int) => ∃ T t u, v = Value.ref T ∧ h.IsTuple T #[.int q.1 t, .int q.2 u]) items.toList xs
theorem PairsAt.keeps {h h' : Heap} {items : Array Value} {xs : List (Int × Int)} (x : PairsAt h items xs) (k : Keep h h') : PairsAt h' items xs := x.mono fun _ _ ⟨T, t, u, e, i⟩ => ⟨T, t, u, e, i.at fun o e => k _ _ e⟩
theorem comp_pairs {env : Env} {elt iter : PySem.Expr} {c? : Option PySem.Expr} {a b : Str} {pa pb tp : Pos} {kk : Nat} {scope : Scope} {cl : List (Str × Addr)} {pos : Pos} {Q : Value → Shared → Prop} {l : Addr} {items : Array Value} {xs : List (Int × Int)} (p : Int × Int → Bool) (F : Int × Int → Value → Prop)
    (hh : A.handled = none) (hclos : closureFor scope env = pure cl) (hcell : ∀ y ∈ scope.names, y.2 ≠ .cell) (hkind : scope.kind = .function)
    (hnames : ∀ y ∈ scope.names, y.2 = .local → scope.names.lookup y.1 = some .local) (hxa : scope.names.lookup a = some .local) (hxb : scope.names.lookup b = some .local) (hab : ¬ a = b) (hlen : xs.length ≤ 100000)
    (h : wpAny (model prog w) A (eval iter env) (fun xv s₂ => xv = .ref l ∧ s₂.heap.IsList l items ∧ PairsAt s₂.heap items xs ∧
      (∀ C q t u s₃ m₃ E' (K : Bool → Shared → Prop), q ∈ xs → s₃.heap.Ns C m₃ → m₃ a = some (.int q.1 t) → m₃ b = some (.int q.2 u) → Keep s₂.heap s₃.heap → (∀ s₄, Keeps s₃ s₄ → K (p q) s₄) → tst (model prog w) A c? (compEnvC scope cl C env) K E' s₃) ∧
      (∀ C q t u s₃ m₃ E', q ∈ xs → s₃.heap.Ns C m₃ → m₃ a = some (.int q.1 t) → m₃ b = some (.int q.2 u) → Keep s₂.heap s₃.heap → wpAny (model prog w) A (eval elt (compEnvC scope cl C env)) (fun y s₄ => F q y ∧ Keeps s₃ s₄) E' s₃) ∧
      (∀ D h' tk ys, s₂.heap.get? D = none → h'.PlainList D ys → All2 F (xs.filter p) ys.toList → Keep s₂.heap h' → Q (.ref D) { s₂ with heap := h', toks := tk })) E s)
    (hs : ∀ x, foldedSetIterable iter env x = pure x := by intro _; rfl) :
    wpAny (model prog w) A (eval (.ListComp elt [⟨.Tuple [.Name a pa, .Name b pb] kk tp, iter, c?.toList, 0⟩] scope pos) env) Q E s := by
  rw [eval_ListComp]
  refine wpAny_comprehension_free (use := none) rfl hs hclos hkind hnames (wpAny_mono h (fun xv s₂ h₂ => ?_) fun _ _ e => e)
  refine ex0_6 h₂ ?_
  clear h₂
  intro eq5' hl hp htst helt hQ
  subst eq5'
  refine wpAny_pyIter_list hl ?_
  generalize hH1 : s₂.heap.push { cls := .type "list_iterator", data := .fields #[.ref l, .int 0 0] } = H1
  have k1 : Keep s₂.heap H1 := fun b o e => hH1 ▸ Heap.get?_push_of_some _ e
  have hit1 : H1.IsListIter s₂.heap.objs.size l 0 := ⟨_, hH1 ▸ Heap.get?_push_size _ rfl, rfl, rfl⟩
  have hS1 : H1.objs.size = s₂.heap.objs.size + 1 := by rw [← hH1, Heap.size_push]
  refine wpAny_newObj_type (wpAny_newFunctionEnv hcell (by intro y hy; simp at hy) (fun h₁ hns₁ hsb₁ => ?_) hkind)
  dsimp only at hns₁ hsb₁ ⊢
  generalize hH2 : H1.push { cls := .type "list", dict := none, data := .seq ([] : List Value).toArray } = H2 at hns₁ hsb₁ ⊢
  have hC : H2.objs.size = H1.objs.size + 1 := by rw [← hH2, Heap.size_push]
  have hID : s₂.heap.objs.size ≠ H1.objs.size := by rw [hS1]; exact Nat.ne_of_lt (Nat.lt_succ_self _)
  have hIC : s₂.heap.objs.size ≠ H2.objs.size := by rw [hC, hS1]; exact Nat.ne_of_lt (Nat.lt_succ_of_lt (Nat.lt_succ_self _))
  have hDC : H1.objs.size ≠ H2.objs.size := by rw [hC]; exact Nat.ne_of_lt (Nat.lt_succ_self _)
  have old : Keep H1 h₁ := fun b o e => hsb₁.extBut b o (by rw [hC]; exact Nat.ne_of_lt (Nat.lt_succ_of_lt (Heap.lt_size e))) (Heap.get?_push_of_some _ (hH2 ▸ Heap.get?_push_of_some _ e))
  have hacc : h₁.PlainList H1.objs.size #[] := ⟨_, hsb₁.extBut _ _ hDC (Heap.get?_push_of_some _ (hH2 ▸ Heap.get?_push_size _ rfl))⟩
  have fresh : ∀ a, s₂.heap.objs.size ≤ a → s₂.heap.get? a = none := fun a ha => Heap.get?_none_of_le ha
  have fI := fresh _ (Nat.le_refl s₂.heap.objs.size)
  have fD : s₂.heap.get? H1.objs.size = none := fresh _ (by rw [hS1]; exact Nat.le_succ _)
  have fC : s₂.heap.get? H2.objs.size = none := fresh _ (by rw [hC, hS1]; exact Nat.le_succ_of_le (Nat.le_succ _))
  have keepBut : ∀ {h h' : Heap} {x : Addr}, s₂.heap.get? x = none → Keep s₂.heap h → (∀ b o, b ≠ x → h.get? b = some o → h'.get? b = some o) → Keep s₂.heap h' := fun fx k e b o q => e b o (fun z => by rw [z, fx] at q; cases q) (k b o q)
  have loop : ∀ s₃ : Shared, s₃ = { s₂ with heap := h₁, toks := s₂.toks + ([] : List (Str × Value)).length } →
      codeAny (model prog w) A (.compLoop (.ListComp elt [⟨.Tuple [.Name a pa, .Name b pb] kk tp, iter, c?.toList, 0⟩] scope pos) 0 (.ref s₂.heap.objs.size) (.ref H1.objs.size) (compEnvC scope cl H2.objs.size env))
        (compPost (model prog w) A E none Q (.ref H1.objs.size) H2.objs.size) s₃ := by
    rintro s₃ rfl
    refine abs2 (fun k s' => ∃ h' tk i ys m', s' = { s₂ with heap := h', toks := tk } ∧ i ≤ xs.length ∧ k = xs.length + 1 - i ∧ h'.IsListIter s₂.heap.objs.size l i ∧ h'.Ns H2.objs.size m' ∧ h'.PlainList H1.objs.size ys ∧ All2 F ((xs.take i).filter p) ys.toList ∧ Keep s₂.heap h') fun I hI1 hI2 => ?_
    refine pr_loop I ?_ (xs.length + 1) (hI2 _ _
      ⟨h₁, _, 0, #[], _, rfl, Nat.zero_le _, rfl, hit1.at fun o e => old _ o e, hns₁, hacc, by simpa using All2.nil, fun b o e => old b o (k1 b o e)⟩)
    intro k s' E' hx2'
    refine ex5_8 (hI1 _ _ hx2') ?_
    clear hx2'
    intro h' tk i ys m' eq3' hi eq4' hit hn hd hF hk
    subst eq3'
    have hls := hp.length
    have hl' := hl.at fun o e => hk _ o e
    by_cases hlt : i < xs.length
    · obtain ⟨v, hv⟩ : ∃ v, items.toList[i]? = some v := ⟨_, List.getElem?_eq_getElem (by lia)⟩
      obtain ⟨q, hq, T, t, u, rfl, hT⟩ := hp.get hv
      refine wpAny_pyNext_list_item hit hl' (x := .ref T) (by simpa using hv) fun h₂ hit₂ hs₂ => ?_
      have k2 := keepBut fI hk hs₂.extBut
      refine wpAny_letOwnedTupleGo_listiter hit₂ ?_
      refine kcp_assign (env := compEnvC scope cl H2.objs.size env) hh (hT.at fun o e => k2 _ o e) (lookup_relabel_local hxa) (lookup_relabel_local hxb) (by simp [compEnvC, relabel, hkind]) (hn.at' fun o e => hs₂.extBut _ o (Ne.symm hIC) e) fun h₃ tk₃ hn₃ hs₃ => ?_
      have k3 := keepBut fC k2 hs₃
      have hqm : q ∈ xs := List.mem_of_getElem? hq
      have etake : xs.take (i + 1) = xs.take i ++ [q] := by
        rw [List.take_succ, hq]; rfl
      refine htst _ q t u _ _ E' _ hqm hn₃ (by simp [hab]) (by simp) k3 fun s₄ hk₄ => ?_
      refine ex2_2 hk₄ ?_
      clear hk₄
      intro h₄ tk₄ eq1' hk₄
      subst eq1'
      have hit₄ : h₄.IsListIter s₂.heap.objs.size l (i + 1) := (hit₂.at fun o e => hs₃ _ o hIC e).at fun o e => hk₄ _ o e
      have hd₄ : h₄.PlainList H1.objs.size ys := ((hd.at fun o e => hs₂.extBut _ o (Ne.symm hID) e).at fun o e => hs₃ _ o hDC e).at fun o e => hk₄ _ o e
      have hn₄ := hn₃.at' fun o e => hk₄ _ o e
      have k4 : Keep s₂.heap h₄ := fun b o e => hk₄ b o (k3 b o e)
      cases hpq : p q with
      | false =>
        simp only [Bool.false_eq_true, if_false]
        exact ⟨xs.length + 1 - (i + 1), by lia, hI2 _ _ ⟨h₄, tk₄, i + 1, ys, _, rfl, hlt, rfl, hit₄, hn₄, hd₄, by rw [etake, List.filter_append]; simpa [hpq] using hF, k4⟩⟩
      | true =>
        simp only [if_true]
        refine wpAny_mono (helt _ q t u _ _ E' hqm hn₄ (by simp [hab]) (by simp) k4) (fun y s₅ h₅ => ?_) fun _ _ e => e
        obtain ⟨hFy, h₅, tk₅, rfl, hk₅⟩ := h₅
        have hsz : ys.size ≤ sizeLine := by
          have e1 : ys.size = ((xs.take i).filter p).length := by rw [← Array.length_toList]; exact hF.length.symm
          have e2 : ((xs.take i).filter p).length ≤ (xs.take i).length := List.length_filter_le _ _
          have e3 : (xs.take i).length ≤ i := by simp; lia
          rw [sizeLine_eq]; lia
        refine wpAny_list_append_plain (hsz := hsz) (hd₄.at fun o e => hk₅ _ o e) fun h₆ hd₆ hs₆ => ?_
        refine ⟨xs.length + 1 - (i + 1), by lia, hI2 _ _ ⟨h₆, tk₅, i + 1, ys.push y, _, rfl, hlt, rfl, (hit₄.at fun o e => hk₅ _ o e).at fun o e => hs₆.extBut _ o hID e, (hn₄.at' fun o e => hk₅ _ o e).at' fun o e => hs₆.extBut _ o (Ne.symm hDC) e, hd₆, ?_, keepBut fD (fun b o e => hk₅ b o (k4 b o e)) hs₆.extBut⟩⟩
        rw [etake, List.filter_append]
        have : List.filter p [q] = [q] := by simp [hpq]
        rw [this, Array.toList_push]
        exact hF.snoc hFy
    · have hin : i = xs.length := by lia
      rw [hin] at hit hF
      refine wpAny_pyNext_list_end hh hit hl' (by rw [← hls]; simp) fun h₂ he₂ => ?_
      have k2 := keepBut fI hk he₂
      refine ⟨m', hn.at' fun o e => he₂ _ o (Ne.symm hIC) e, fun h₃ hs₃ => ?_⟩
      rw [List.take_length] at hF
      exact hQ H1.objs.size h₃ tk ys fD ((hd.at fun o e => he₂ _ o (Ne.symm hID) e).at fun o e => hs₃.extBut _ o hDC e) hF (keepBut fC k2 hs₃.extBut)
  exact codeAny_compStart_list (loop _ rfl) (wpAny_pyIter_listiter (hit1.at fun o e => old _ o e) (loop _ rfl))
end
end
section
open PySem PySem.W PyProof.Rows PySem.Calls
set_option maxRecDepth 100000
set_option maxHeartbeats 8000000
set_option linter.unusedVariables false
theorem codesB : Str.ofString "{" = st [123] := by decide +kernel
theorem ne_br {prog : Program} {w : World} {A : Around} {E : Value → Shared → Prop} {s : Shared} {t u : Tok} {Q : Value → Shared → Prop} {a : List Nat} (h : Q (.bool (a != [123])) s) : wpAny (model prog w) A (compareOp .NotEq (.str (st a) t) (.str (Str.ofString "{") u)) Q E s := by
  rw [codesB]; exact ne_st h
local macro_rules | `(tactic| walk_at "compareOp NotEq str str") => `(tactic| (with_reducible refine ne_br ?_))
local macro_rules | `(tactic| walk_at "mine steps") => `(tactic| (repeat' (first
  | (k_unfold; (try dsimp only))
  | ((fail_if_success (with_reducible show wpAny _ _ (eval (Expr.ListComp _ _ _ _) _) _ _ _)); first | walk1 | (dsimp only; walk1)))))
theorem sw_st (a b : List Nat) : Txt.startswith (st a) (st b) = (a.take b.length == b) := by
  unfold Txt.startswith
  rw [StrLaws.subAt_eq, st_len, st_len]
  simp only [List.drop_zero, Nat.zero_add]
  by_cases h : b.length ≤ a.length
  · simp [h]
  · have : (a.take b.length == b) = false := by
      rw [Bool.eq_false_iff, ne_eq, beq_iff_eq]
      intro e
      have := congrArg List.length e
      rw [List.length_take] at this; lia
    rw [this]; simp [h]
theorem ew_st (a b : List Nat) : Txt.endswith (st a) (st b) = (a.drop (a.length - b.length) == b) := by
  unfold Txt.endswith
  rw [StrLaws.subAt_eq, st_len, st_len]
  simp only [Nat.zero_add]
  by_cases h : b.length ≤ a.length
  · have e : (a.drop (a.length - b.length)).take b.length = a.drop (a.length - b.length) := List.take_of_length_le (by rw [List.length_drop]; lia)
    simp [h, e]
  · have : (a.drop (a.length - b.length) == b) = false := by
      rw [Bool.eq_false_iff, ne_eq, beq_iff_eq]
      intro e
      have := congrArg List.length e
      rw [List.length_drop] at this; lia
    rw [this]; simp [h]
section
variable {prog : Program} {w : World} {A : Around} {E : Value → Shared → Prop} {s : Shared} {t u : Tok} {Q : Value → Shared → Prop} {a b : List Nat}
theorem call_sw (h : Q (.bool (a.take b.length == b)) s) : wpAny (model prog w) A (call (.builtin "str.startswith") [.str (st a) t, .str (st b) u]) Q E s := SC.startswith (by rw [sw_st]; exact h)
theorem call_ew (h : Q (.bool (a.drop (a.length - b.length) == b)) s) : wpAny (model prog w) A (call (.builtin "str.endswith") [.str (st a) t, .str (st b) u]) Q E s := SC.endswith (by rw [ew_st]; exact h)
theorem eq_nil {l d : Addr} {items : Array Value} (hl : s.heap.IsList l items) (hb : s.heap.IsList d #[]) (hu : A.units < cLine) (h : Q (.bool items.toList.isEmpty) s) : wpAny (model prog w) A (compareOp .Eq (.ref l) (.ref d)) Q E s := by
  by_cases hz : items.size = 0
  · have e : items.toList.isEmpty = true := by simp [Array.eq_empty_of_size_eq_zero hz]
    rw [e] at h
    exact SeqAt.eq_listAt (e := fun _ => true) hl hb hz hu (fun j h1 h2 => by simp at h2) (by rw [hz]; exact h)
  · have e : items.toList.isEmpty = false := by
      cases q : items.toList with
      | nil => exact absurd (by rw [← Array.length_toList, q]; rfl) hz
      | cons _ _ => rfl
    rw [e] at h
    exact SeqAt.eq_list_lengthsAt hl hb (by simpa using hz) hu h
end
theorem ints_all2 {xs : List (Int × Int)} {ys : List Value} (h : All2 (fun (q : Int × Int) y => ∃ t, y = Value.int q.1 t) xs ys) : IntsAre ys (xs.map (·.1)) := by
  induction h with
  | nil => exact .nil
  | cons h _ ih => obtain ⟨t, rfl⟩ := h; exact .cons _ _ ih
theorem nmC {prog : Program} {w : World} {A : Around} {E : Value → Shared → Prop} {s : Shared} {env : Env} {K : Frag} {h₀ : Heap} {p : Program} {loose : List Str} {mean : ExcName → Option Value} {mg mb : Str → Option Value} {n : Str} {pos : Pos} {v : Value} {Q : Value → Shared → Prop} (X : K.In h₀) (T : Top p loose mean mg mb h₀) (kp : Keep h₀ s.heap) (e : nsIn K mainGlobals n = some none) (hv : bootBuiltins n = some v) (hn : n ≠ "__name__") (h : Q v s)
    (hk : env.scope.kind = .function) (hg : env.globals = mainGlobals) (hb : env.builtins = builtinsNs) (hx : env.kindOf n = some .globalImplicit) (hd : (n == ("__debug__" : Str)) = false := by decide) :
    wpAny (model prog w) A (eval (.Name n pos) env) Q E s :=
  Name_function_global hk hx (loadGlobal_builtin (by rw [hg]; exact T.g.keeps kp) (mg_none_of X T.g e) (by rw [hb]; exact T.b.keeps kp) ((T.builtins n hn).trans hv) h) hd
local macro_rules | `(tactic| walk_at "eval Name") => `(tactic| ((with_reducible show wpAny _ _ (eval (Expr.Name _ _) (compEnvC _ _ _ _)) _ _ _); first
  | (refine wpAny_Name (wpAny_loadName_local rfl rfl (by assumption) (by assumption) ?_))
  | (refine wpAny_Name (wpAny_loadName_cell rfl rfl rfl (by assumption) ?_))
  | (refine nmC (by assumption) (by assumption) (by assumption) (by k_is) (by boot_fast) (by decide) ?_ rfl rfl rfl rfl)))
theorem fits1 {w : World} {loose : List Str} {mean : ExcName → Option Value} {mg mb : Str → Option Value} {dp un : Nat} {gd : Option (List Code)} {fr : List Env} {s : Shared} {Q E : Value → Shared → Prop} {word base : List Nat} {t0 t1 t2 : Tok} {l : Addr} {items : Array Value} {xs : List (Int × Int)}
    (G : Gd w loose mean mg mb s.heap) (hd : dp + 1 < recursionLimit) (hu : un + 20 < cLine) (hb : base.length ≤ 1000) (hw : word.length ≤ 1000) (hl : s.heap.IsList l items) (hp : PairsAt s.heap items xs) (hlen : xs.length ≤ 40)
    (hret : ∀ h' tk', Keep s.heap h' → Q (.bool (base.take 1 != [123] || xs.any (fun q => q.1 == 0))) { s with heap := h', toks := tk' }) :
    wpAny (model PySem.Challenge.rw_nq0080_01.row.prog w) (AA dp un gd fr) (call (.ref 87) [.int 1 t0, .str (st word) t1, .str (st base) t2, .ref l]) Q E s := by
  have X := G.X
  have T := G.T
  refine any_of_wpN (wpN_call ?_)
  refine' enterCN (binds := [(Str.ofString "kind", .int 1 t0), (Str.ofString "word", .str (st word) t1), (Str.ofString "base", .str (st base) t2), (Str.ofString "places", .ref l)]) X T.nolimit ?k8 ?k6 ?k7 ?k9 ?kB ?nd ?_ ?c2 ?c3 ?c4
  case k8 => (show _ < _; dsimp only; lia)
  case k6 => k_is
  case k7 => k_is
  case k9 => exact BindsTo.of_eq rfl
  case kB => exact rfl
  case nd => decide
  case c2 => exact rfl
  case c3 => exact rfl
  case c4 => exact rfl
  intro h₁ tk cells F Nw Y
  rw [bindL_l (by rfl), bindL_c (by rfl), bindL_l (by rfl), bindL_l (by rfl), bindL_n] at F
  rw [bindC_l (by rfl), bindC_c (by rfl), bindC_l (by rfl), bindC_l (by rfl), bindC_n] at Y
  obtain ⟨oc, rfl, hoc⟩ := CellsAre.one Y
  clear Y
  rw [if_pos rfl] at hoc
  refine wpN_of_any ?_
  rw [show envOfC _ _ s.heap.objs.size 87 (.ref 86) = envX _ _ s.heap.objs.size 87 (.ref 86) [(Str.ofString "word", s.heap.objs.size + 1)] from rfl]
  refine wpAny_execs_cons ?_
  walk_at "mine steps"
  · rename Fr _ _ _ _ => F'
    rename (_ : Bool) = true => hc
    have e : (base.take 1 != [123] || xs.any (fun q => q.1 == 0)) = (base.take (Int.toNat 1) != [123]) := by
      rw [show Int.toNat 1 = 1 from rfl] at hc ⊢; rw [hc]; rfl
    rw [← e]
    exact hret _ _ F'.keep
  · rename Fr _ _ _ _ => F'; rename News _ _ _ _ => N'
    rename (_ : Bool) = false => hc
    refine comp_pairs (c? := none) (l := l) (items := items) (xs := xs) (cl := []) (fun _ => true) (fun q y => ∃ t, y = .int q.1 t) rfl rfl (by decide) rfl (by decide) rfl rfl (by decide) (by lia) ?_
    refine nameX_L F' rfl ⟨rfl, hl.at fun o e => F'.keep _ o e, hp.keeps F'.keep, ?_, ?_, ?_⟩
    · intro C q t u s₃ m₃ E' K hq hn ha hb hk h
      exact h s₃ ⟨s₃.heap, s₃.toks, rfl, fun _ _ e => e⟩
    · intro C q t u s₃ m₃ E' hq hn ha hb hk
      exact wpAny_Name (wpAny_loadName_local rfl rfl hn ha ⟨⟨_, rfl⟩, s₃.heap, s₃.toks, rfl, fun _ _ e => e⟩)
    · intro D h' tk' ys hD hpl hF hk
      dsimp only
      have hI := ints_all2 hF
      refine in_list_ints (vs := ys.toList) (by rw [Array.toArray_toList]; exact hpl.isList) hI ?_
      have e : (base.take 1 != [123] || xs.any (fun q => q.1 == 0)) = (((xs.filter fun _ => true).map (·.1)).any (· == 0)) := by
        rw [show Int.toNat 1 = 1 from rfl] at hc
        rw [hc, Bool.false_or, List.filter_eq_self.mpr (fun _ _ => rfl), List.any_map]; rfl
      rw [← e]
      exact hret _ _ fun b o e => hk b o (F'.keep b o e)
local macro_rules | `(tactic| walk_at "call builtin:str.startswith") => `(tactic| (with_reducible refine call_sw ?_))
local macro_rules | `(tactic| walk_at "call builtin:str.endswith") => `(tactic| (with_reducible refine call_ew ?_))
local macro_rules | `(tactic| walk_at "compareOp Eq str str") => `(tactic| (with_reducible refine eq_st ?_))
theorem fits0 {w : World} {loose : List Str} {mean : ExcName → Option Value} {mg mb : Str → Option Value} {dp un : Nat} {gd : Option (List Code)} {fr : List Env} {s : Shared} {Q E : Value → Shared → Prop} {word base : List Nat} {t0 t1 t2 : Tok} {l : Addr} {items : Array Value} {xs : List (Int × Int)}
    (G : Gd w loose mean mg mb s.heap) (hd : dp + 1 < recursionLimit) (hu : un + 20 < cLine) (hb : base.length ≤ 1000) (hw : word.length ≤ 1000) (hl : s.heap.IsList l items) (hp : PairsAt s.heap items xs) (hlen : xs.length ≤ 40)
    (hret : ∀ h' tk', Keep s.heap h' → Q (.bool true) { s with heap := h', toks := tk' }) :
    wpAny (model PySem.Challenge.rw_nq0080_01.row.prog w) (AA dp un gd fr) (call (.ref 87) [.int 0 t0, .str (st word) t1, .str (st base) t2, .ref l]) Q E s := by
  have X := G.X
  have T := G.T
  refine any_of_wpN (wpN_call ?_)
  refine' enterCN (binds := [(Str.ofString "kind", .int 0 t0), (Str.ofString "word", .str (st word) t1), (Str.ofString "base", .str (st base) t2), (Str.ofString "places", .ref l)]) X T.nolimit ?k8 ?k6 ?k7 ?k9 ?kB ?nd ?_ ?c2 ?c3 ?c4
  case k8 => (show _ < _; dsimp only; lia)
  case k6 => k_is
  case k7 => k_is
  case k9 => exact BindsTo.of_eq rfl
  case kB => exact rfl
  case nd => decide
  case c2 => exact rfl
  case c3 => exact rfl
  case c4 => exact rfl
  intro h₁ tk cells F Nw Y
  rw [bindL_l (by rfl), bindL_c (by rfl), bindL_l (by rfl), bindL_l (by rfl), bindL_n] at F
  rw [bindC_l (by rfl), bindC_c (by rfl), bindC_l (by rfl), bindC_l (by rfl), bindC_n] at Y
  obtain ⟨oc, rfl, hoc⟩ := CellsAre.one Y
  clear Y
  rw [if_pos rfl] at hoc
  refine wpN_of_any ?_
  rw [show envOfC _ _ s.heap.objs.size 87 (.ref 86) = envX _ _ s.heap.objs.size 87 (.ref 86) [(Str.ofString "word", s.heap.objs.size + 1)] from rfl]
  refine wpAny_execs_cons ?_
  walk_at "mine steps"
  all_goals (rename Fr _ _ _ _ => F'; exact hret _ _ F'.keep)
theorem fits3 {w : World} {loose : List Str} {mean : ExcName → Option Value} {mg mb : Str → Option Value} {dp un : Nat} {gd : Option (List Code)} {fr : List Env} {s : Shared} {Q E : Value → Shared → Prop} {word base : List Nat} {t0 t1 t2 : Tok} {l : Addr} {items : Array Value} {xs : List (Int × Int)}
    (G : Gd w loose mean mg mb s.heap) (hd : dp + 1 < recursionLimit) (hu : un + 20 < cLine) (hb : base.length ≤ 1000) (hw : word.length ≤ 1000) (hl : s.heap.IsList l items) (hp : PairsAt s.heap items xs) (hlen : xs.length ≤ 40)
    (hret : ∀ h' tk', Keep s.heap h' → Q (.bool (base.take word.length == word && xs.all (fun q => decide (word.length ≤ q.1)))) { s with heap := h', toks := tk' }) :
    wpAny (model PySem.Challenge.rw_nq0080_01.row.prog w) (AA dp un gd fr) (call (.ref 87) [.int 3 t0, .str (st word) t1, .str (st base) t2, .ref l]) Q E s := by
  have X := G.X
  have T := G.T
  refine any_of_wpN (wpN_call ?_)
  refine' enterCN (binds := [(Str.ofString "kind", .int 3 t0), (Str.ofString "word", .str (st word) t1), (Str.ofString "base", .str (st base) t2), (Str.ofString "places", .ref l)]) X T.nolimit ?k8 ?k6 ?k7 ?k9 ?kB ?nd ?_ ?c2 ?c3 ?c4
  case k8 => (show _ < _; dsimp only; lia)
  case k6 => k_is
  case k7 => k_is
  case k9 => exact BindsTo.of_eq rfl
  case kB => exact rfl
  case nd => decide
  case c2 => exact rfl
  case c3 => exact rfl
  case c4 => exact rfl
  intro h₁ tk cells F Nw Y
  rw [bindL_l (by rfl), bindL_c (by rfl), bindL_l (by rfl), bindL_l (by rfl), bindL_n] at F
  rw [bindC_l (by rfl), bindC_c (by rfl), bindC_l (by rfl), bindC_l (by rfl), bindC_n] at Y
  obtain ⟨oc, rfl, hoc⟩ := CellsAre.one Y
  clear Y
  rw [if_pos rfl] at hoc
  refine wpN_of_any ?_
  rw [show envOfC _ _ s.heap.objs.size 87 (.ref 86) = envX _ _ s.heap.objs.size 87 (.ref 86) [(Str.ofString "word", s.heap.objs.size + 1)] from rfl]
  walk_at "mine steps"
  · rename Fr _ _ _ _ => F'; rename News _ _ _ _ => N'
    rename (_ : Bool) = true => hc
    refine comp_pairs (c? := some _) (l := l) (items := items) (xs := xs) (cl := [(Str.ofString "word", s.heap.objs.size + 1)]) (fun q => decide (q.1 < word.length)) (fun q y => True) rfl rfl (by decide) rfl (by decide) rfl rfl (by decide) (by lia) ?_
    refine nameX_L F' rfl ⟨rfl, hl.at fun o e => F'.keep _ o e, hp.keeps F'.keep, ?_, ?_, ?_⟩
    · intro C q t u s₃ m₃ E' K hq hn ha hb2 hk h
      have hcell : s₃.heap.IsCell (s.heap.objs.size + 1) (some (.str (st word) t1)) := ⟨oc, hk _ _ (N' (_, oc) (by simp)).1, hoc⟩
      have kp3 : Keep s.heap s₃.heap := fun b o e => hk b o (F'.keep b o e)
      clear F' N'
      obtain ⟨h3, g3, d3, k3, o3⟩ := s₃
      dsimp only at hn hk hcell kp3
      show wpAny _ _ (isTrue _ _ _) _ _ _
      walk_at "mine steps"
      exact h _ ⟨h3, _, rfl, fun _ _ e => e⟩
    · intro C q t u s₃ m₃ E' hq hn ha hb2 hk
      clear F' N'
      obtain ⟨h3, g3, d3, k3, o3⟩ := s₃
      walk_at "mine steps"
      · trivial
      · exact ⟨h3, _, rfl, fun _ _ e => e⟩
    · intro D h' tk' ys hD hpl hF hk
      obtain ⟨n9, hn9⟩ := hpl
      have F2 := fr_mv F' hk
      have N2 := news_put F' (news_mv N' hk) hn9 hD
      clear F' N'
      dsimp only
      walk_at "mine steps"
      rename Fr _ _ _ _ => F'; rename News _ _ _ _ => N'
      refine eq_nil (items := ys) (IsL.isList (N'.get (List.mem_cons_of_mem _ (List.Mem.head _)))) (IsL.isList (N'.get (List.Mem.head _))) (by dsimp only [AA, Around.deeper]; lia) ?_
      have e0 : ys.toList.isEmpty = xs.all (fun q => decide ((word.length : Int) ≤ q.1)) := by
        have e1 := hF.length
        rw [Bool.eq_iff_iff, List.isEmpty_iff_length_eq_zero, ← e1, List.length_eq_zero_iff, List.filter_eq_nil_iff, List.all_eq_true]
        constructor
        · intro h q hq; have := h q hq; simp at this ⊢; lia
        · intro h q hq; have := h q hq; simp at this ⊢; lia
      have e : (base.take word.length == word && xs.all (fun q => decide ((word.length : Int) ≤ q.1))) = ys.toList.isEmpty := by
        rw [e0, hc, Bool.true_and]
      rw [← e]
      exact hret _ _ F'.keep
  · rename Fr _ _ _ _ => F'
    rename (_ : Bool) = false => hc
    have e : (base.take word.length == word && xs.all (fun q => decide ((word.length : Int) ≤ q.1))) = (base.take word.length == word) := by rw [hc, Bool.false_and]
    rw [← e]
    exact hret _ _ F'.keep
theorem fits2 {w : World} {loose : List Str} {mean : ExcName → Option Value} {mg mb : Str → Option Value} {dp un : Nat} {gd : Option (List Code)} {fr : List Env} {s : Shared} {Q E : Value → Shared → Prop} {word base : List Nat} {t0 t1 t2 : Tok} {l : Addr} {items : Array Value} {xs : List (Int × Int)}
    (G : Gd w loose mean mg mb s.heap) (hd : dp + 1 < recursionLimit) (hu : un + 20 < cLine) (hb : base.length ≤ 1000) (hw : word.length ≤ 1000) (hl : s.heap.IsList l items) (hp : PairsAt s.heap items xs) (hlen : xs.length ≤ 40)
    (hret : ∀ h' tk', Keep s.heap h' → Q (.bool ((base == word.drop 1 && xs.isEmpty) || (base.drop (base.length - word.length) == word && xs.all (fun q => decide (word.length ≤ q.2))))) { s with heap := h', toks := tk' }) :
    wpAny (model PySem.Challenge.rw_nq0080_01.row.prog w) (AA dp un gd fr) (call (.ref 87) [.int 2 t0, .str (st word) t1, .str (st base) t2, .ref l]) Q E s := by
  have X := G.X
  have T := G.T
  refine any_of_wpN (wpN_call ?_)
  refine' enterCN (binds := [(Str.ofString "kind", .int 2 t0), (Str.ofString "word", .str (st word) t1), (Str.ofString "base", .str (st base) t2), (Str.ofString "places", .ref l)]) X T.nolimit ?k8 ?k6 ?k7 ?k9 ?kB ?nd ?_ ?c2 ?c3 ?c4
  case k8 => (show _ < _; dsimp only; lia)
  case k6 => k_is
  case k7 => k_is
  case k9 => exact BindsTo.of_eq rfl
  case kB => exact rfl
  case nd => decide
  case c2 => exact rfl
  case c3 => exact rfl
  case c4 => exact rfl
  intro h₁ tk cells F Nw Y
  rw [bindL_l (by rfl), bindL_c (by rfl), bindL_l (by rfl), bindL_l (by rfl), bindL_n] at F
  rw [bindC_l (by rfl), bindC_c (by rfl), bindC_l (by rfl), bindC_l (by rfl), bindC_n] at Y
  obtain ⟨oc, rfl, hoc⟩ := CellsAre.one Y
  clear Y
  rw [if_pos rfl] at hoc
  refine wpN_of_any ?_
  rw [show envOfC _ _ s.heap.objs.size 87 (.ref 86) = envX _ _ s.heap.objs.size 87 (.ref 86) [(Str.ofString "word", s.heap.objs.size + 1)] from rfl]
  walk_at "mine steps"
  · rename Fr _ _ _ _ => F'; rename News _ _ _ _ => N'
    rename (base == _) = true => hA
    rw [show Int.toNat 1 = 1 from rfl] at hA
    refine eq_nil (items := items) (hl.at fun o e => F'.keep _ o e) (IsL.isList (N'.get (List.Mem.head _))) (by dsimp only [AA, Around.deeper]; lia) ?_
    have e5 : items.toList.isEmpty = xs.isEmpty := by
      have := hp.length
      cases h1 : items.toList <;> cases h2 : xs <;> simp_all
    rw [e5]
    clear e5
    walk_at "mine steps"
    · rename Fr _ _ _ _ => F'
      rename xs.isEmpty = true => hB
      rw [hA, hB] at hret
      exact hret _ _ F'.keep
    all_goals (rename xs.isEmpty = false => hB; have hz : (base == word.drop 1 && xs.isEmpty) = false := by rw [hB, Bool.and_false])
    · rename Fr _ _ _ _ => F'; rename News _ _ _ _ => N'
      rename (List.drop (base.length - word.length) base == word) = true => hc
      refine comp_pairs (c? := some _) (l := l) (items := items) (xs := xs) (cl := [(Str.ofString "word", s.heap.objs.size + 1)]) (fun q => decide (q.2 < word.length)) (fun q y => True) rfl rfl (by decide) rfl (by decide) rfl rfl (by decide) (by lia) ?_
      refine nameX_L F' rfl ⟨rfl, hl.at fun o e => F'.keep _ o e, hp.keeps F'.keep, ?_, ?_, ?_⟩
      · intro C q t u s₃ m₃ E' K hq hn ha hb2 hk h
        have hcell : s₃.heap.IsCell (s.heap.objs.size + 1) (some (.str (st word) t1)) := ⟨oc, hk _ _ (N' (_, oc) (by simp)).1, hoc⟩
        have kp3 : Keep s.heap s₃.heap := fun b o e => hk b o (F'.keep b o e)
        clear F' N'
        obtain ⟨h3, g3, d3, k3, o3⟩ := s₃
        dsimp only at hn hk hcell kp3
        show wpAny _ _ (isTrue _ _ _) _ _ _
        walk_at "mine steps"
        exact h _ ⟨h3, _, rfl, fun _ _ e => e⟩
      · intro C q t u s₃ m₃ E' hq hn ha hb2 hk
        clear F' N'
        obtain ⟨h3, g3, d3, k3, o3⟩ := s₃
        walk_at "mine steps"
        · trivial
        · exact ⟨h3, _, rfl, fun _ _ e => e⟩
      · intro D h' tk' ys hD hpl hF hk
        obtain ⟨n9, hn9⟩ := hpl
        have F2 := fr_mv F' hk
        have N2 := news_put F' (news_mv N' hk) hn9 hD
        clear F' N'
        dsimp only
        walk_at "mine steps"
        rename Fr _ _ _ _ => F'; rename News _ _ _ _ => N'
        refine eq_nil (items := ys) (IsL.isList (N'.get (List.mem_cons_of_mem _ (List.Mem.head _)))) (IsL.isList (N'.get (List.Mem.head _))) (by dsimp only [AA, Around.deeper]; lia) ?_
        have e0 : ys.toList.isEmpty = xs.all (fun q => decide ((word.length : Int) ≤ q.2)) := by
          have e1 := hF.length
          rw [Bool.eq_iff_iff, List.isEmpty_iff_length_eq_zero, ← e1, List.length_eq_zero_iff, List.filter_eq_nil_iff, List.all_eq_true]
          constructor
          · intro h q hq; have := h q hq; simp at this ⊢; lia
          · intro h q hq; have := h q hq; simp at this ⊢; lia
        have e : ((base == word.drop 1 && xs.isEmpty) || (base.drop (base.length - word.length) == word && xs.all (fun q => decide ((word.length : Int) ≤ q.2)))) = ys.toList.isEmpty := by
          rw [e0, hz, hc, Bool.false_or, Bool.true_and]
        rw [← e]
        exact hret _ _ F'.keep
    · rename Fr _ _ _ _ => F'
      rename (List.drop (base.length - word.length) base == word) = false => hc
      have e : ((base == word.drop 1 && xs.isEmpty) || (base.drop (base.length - word.length) == word && xs.all (fun q => decide ((word.length : Int) ≤ q.2)))) = (base.drop (base.length - word.length) == word) := by rw [hz, hc, Bool.false_or, Bool.false_and]
      rw [← e]
      exact hret _ _ F'.keep
  all_goals (rename (base == _) = false => hA; have hz : (base == word.drop 1 && xs.isEmpty) = false := by (rw [show Int.toNat 1 = 1 from rfl] at hA; rw [hA, Bool.false_and]))
  · rename Fr _ _ _ _ => F'; rename News _ _ _ _ => N'
    rename (List.drop (base.length - word.length) base == word) = true => hc
    refine comp_pairs (c? := some _) (l := l) (items := items) (xs := xs) (cl := [(Str.ofString "word", s.heap.objs.size + 1)]) (fun q => decide (q.2 < word.length)) (fun q y => True) rfl rfl (by decide) rfl (by decide) rfl rfl (by decide) (by lia) ?_
    refine nameX_L F' rfl ⟨rfl, hl.at fun o e => F'.keep _ o e, hp.keeps F'.keep, ?_, ?_, ?_⟩
    · intro C q t u s₃ m₃ E' K hq hn ha hb2 hk h
      have hcell : s₃.heap.IsCell (s.heap.objs.size + 1) (some (.str (st word) t1)) := ⟨oc, hk _ _ (N' (_, oc) (by simp)).1, hoc⟩
      have kp3 : Keep s.heap s₃.heap := fun b o e => hk b o (F'.keep b o e)
      clear F' N'
      obtain ⟨h3, g3, d3, k3, o3⟩ := s₃
      dsimp only at hn hk hcell kp3
      show wpAny _ _ (isTrue _ _ _) _ _ _
      walk_at "mine steps"
      exact h _ ⟨h3, _, rfl, fun _ _ e => e⟩
    · intro C q t u s₃ m₃ E' hq hn ha hb2 hk
      clear F' N'
      obtain ⟨h3, g3, d3, k3, o3⟩ := s₃
      walk_at "mine steps"
      · trivial
      · exact ⟨h3, _, rfl, fun _ _ e => e⟩
    · intro D h' tk' ys hD hpl hF hk
      obtain ⟨n9, hn9⟩ := hpl
      have F2 := fr_mv F' hk
      have N2 := news_put F' (news_mv N' hk) hn9 hD
      clear F' N'
      dsimp only
      walk_at "mine steps"
      rename Fr _ _ _ _ => F'; rename News _ _ _ _ => N'
      refine eq_nil (items := ys) (IsL.isList (N'.get (List.mem_cons_of_mem _ (List.Mem.head _)))) (IsL.isList (N'.get (List.Mem.head _))) (by dsimp only [AA, Around.deeper]; lia) ?_
      have e0 : ys.toList.isEmpty = xs.all (fun q => decide ((word.length : Int) ≤ q.2)) := by
        have e1 := hF.length
        rw [Bool.eq_iff_iff, List.isEmpty_iff_length_eq_zero, ← e1, List.length_eq_zero_iff, List.filter_eq_nil_iff, List.all_eq_true]
        constructor
        · intro h q hq; have := h q hq; simp at this ⊢; lia
        · intro h q hq; have := h q hq; simp at this ⊢; lia
      have e : ((base == word.drop 1 && xs.isEmpty) || (base.drop (base.length - word.length) == word && xs.all (fun q => decide ((word.length : Int) ≤ q.2)))) = ys.toList.isEmpty := by
        rw [e0, hz, hc, Bool.false_or, Bool.true_and]
      rw [← e]
      exact hret _ _ F'.keep
  · rename Fr _ _ _ _ => F'
    rename (List.drop (base.length - word.length) base == word) = false => hc
    have e : ((base == word.drop 1 && xs.isEmpty) || (base.drop (base.length - word.length) == word && xs.all (fun q => decide ((word.length : Int) ≤ q.2)))) = (base.drop (base.length - word.length) == word) := by rw [hz, hc, Bool.false_or, Bool.false_and]
    rw [← e]
    exact hret _ _ F'.keep
end
section
open PySem PySem.W PyProof.Rows PySem.Calls
set_option maxRecDepth 100000
set_option maxHeartbeats 4000000
set_option linter.unusedVariables false
/-- the name grows sign by sign, none of them ASCII -/
inductive Steps : List Nat → List (Int × Int) → List Nat → Prop
  | nil {cur : List Nat} : Steps cur [] cur
  | cons {cur fin : List Nat} {a c : Nat} {r : List (Int × Int)} : a ≤ cur.length → 128 ≤ c → Steps (cur.take a ++ c :: cur.drop a) r fin → Steps cur (((a : Int), (cur.length : Int) - a) :: r) fin
theorem steps_first {cur fin : List Nat} {ps : List (Int × Int)} (h : Steps cur ps fin) : (fin.take 1 != [123]) = (cur.take 1 != [123] || ps.any (fun q => q.1 == 0)) := by
  induction h with
  | nil => simp
  | @cons cur fin a c r ha hc _ ih =>
    rw [ih, List.any_cons]
    cases a with
    | zero =>
      have : c ≠ 123 := by omega
      simp [this]
    | succ a =>
      cases cur with
      | nil => simp at ha
      | cons x cur =>
        have : ((a : Int) + 1 == 0) = false := by rw [Bool.eq_false_iff, ne_eq, beq_iff_eq]; omega
        simp [this]
theorem steps_mem {cur fin : List Nat} {ps : List (Int × Int)} (h : Steps cur ps fin) : (∀ x ∈ cur, x ∈ fin) := by
  induction h with
  | nil => exact fun _ h => h
  | @cons cur fin a c r ha hc _ ih =>
    intro x hx
    refine ih x ?_
    rw [← List.take_append_drop a cur] at hx
    rcases List.mem_append.mp hx with hx | hx
    · exact List.mem_append_left _ hx
    · exact List.mem_append_right _ (List.mem_cons_of_mem _ hx)
theorem steps_eq {cur fin v : List Nat} {ps : List (Int × Int)} (h : Steps cur ps fin) (hv : ∀ c ∈ v, c < 128) : (fin == v) = (cur == v && ps.isEmpty) := by
  cases h with
  | nil => simp
  | @cons _ _ a c r ha hc h =>
    have : (fin == v) = false := by
      rw [Bool.eq_false_iff, ne_eq, beq_iff_eq]
      intro e
      have := hv c (e ▸ steps_mem h c (by simp))
      omega
    rw [this]; simp
theorem pre_ins {cur w : List Nat} {a c : Nat} (ha : a ≤ cur.length) (hc : 128 ≤ c) (hw : ∀ x ∈ w, x < 128) :
    ((cur.take a ++ c :: cur.drop a).take w.length == w) = (cur.take w.length == w && decide (w.length ≤ a)) := by
  by_cases h : w.length ≤ a
  · have e : (cur.take a ++ c :: cur.drop a).take w.length = cur.take w.length := by
      rw [List.take_append_of_le_length (by rw [List.length_take]; omega), List.take_take, Nat.min_eq_left h]
    rw [e]; simp [h]
  · have : ((cur.take a ++ c :: cur.drop a).take w.length == w) = false := by
      rw [Bool.eq_false_iff, ne_eq, beq_iff_eq]
      intro e
      have hm : c ∈ (cur.take a ++ c :: cur.drop a).take w.length := by
        rw [List.take_append, List.length_take, Nat.min_eq_left ha]
        refine List.mem_append_right _ ?_
        obtain ⟨k, hk⟩ : ∃ k, w.length - a = k + 1 := ⟨w.length - a - 1, by omega⟩
        rw [hk]; simp
      rw [e] at hm
      have := hw c hm; omega
    rw [this]; simp [h]
theorem suf_ins {cur w : List Nat} {a c : Nat} (ha : a ≤ cur.length) (hc : 128 ≤ c) (hw : ∀ x ∈ w, x < 128) :
    ((cur.take a ++ c :: cur.drop a).drop ((cur.take a ++ c :: cur.drop a).length - w.length) == w) = (cur.drop (cur.length - w.length) == w && decide (w.length ≤ cur.length - a)) := by
  have hl : (cur.take a ++ c :: cur.drop a).length = cur.length + 1 := by simp; omega
  rw [hl]
  by_cases h : w.length ≤ cur.length - a
  · have e : (cur.take a ++ c :: cur.drop a).drop (cur.length + 1 - w.length) = cur.drop (cur.length - w.length) := by
      rw [List.drop_append, List.length_take, Nat.min_eq_left ha, List.drop_of_length_le (by rw [List.length_take]; omega), List.nil_append]
      obtain ⟨k, hk⟩ : ∃ k, cur.length + 1 - w.length - a = k + 1 := ⟨cur.length - w.length - a, by omega⟩
      rw [hk, List.drop_succ_cons, List.drop_drop]
      congr 1; omega
    rw [e]; simp [h]
  · have : ((cur.take a ++ c :: cur.drop a).drop (cur.length + 1 - w.length) == w) = false := by
      rw [Bool.eq_false_iff, ne_eq, beq_iff_eq]
      intro e
      have hm : c ∈ (cur.take a ++ c :: cur.drop a).drop (cur.length + 1 - w.length) := by
        rw [List.drop_append, List.length_take, Nat.min_eq_left ha]
        refine List.mem_append_right _ ?_
        rw [show cur.length + 1 - w.length - a = 0 by omega]; simp
      rw [e] at hm
      have := hw c hm; omega
    rw [this]; simp [h]
theorem steps_pre {cur fin w : List Nat} {ps : List (Int × Int)} (h : Steps cur ps fin) (hw : ∀ c ∈ w, c < 128) : (fin.take w.length == w) = (cur.take w.length == w && ps.all (fun q => decide ((w.length : Int) ≤ q.1))) := by
  induction h with
  | nil => simp
  | @cons cur fin a c r ha hc _ ih =>
    rw [ih, pre_ins ha hc hw, List.all_cons, Bool.and_assoc]
    congr 2
    simp
theorem steps_suf {cur fin w : List Nat} {ps : List (Int × Int)} (h : Steps cur ps fin) (hw : ∀ c ∈ w, c < 128) : (fin.drop (fin.length - w.length) == w) = (cur.drop (cur.length - w.length) == w && ps.all (fun q => decide ((w.length : Int) ≤ q.2))) := by
  induction h with
  | nil => simp
  | @cons cur fin a c r ha hc _ ih =>
    rw [ih, suf_ins ha hc hw, List.all_cons, Bool.and_assoc]
    congr 2
    rw [Bool.eq_iff_iff]; simp only [decide_eq_true_eq]; omega
end
section
open PySem PySem.W PyProof.Rows PySem.Calls
set_option maxRecDepth 100000
set_option maxHeartbeats 4000000
set_option linter.unusedVariables false
/-- how many of the signs ahead of the place are at most now -/
def aheadF (l : List Nat) (now place : Nat) : Nat := ((l.take place).filter (· ≤ now)).length
def gapsF (l : List Nat) : Int → Int → Int → List (Nat × Nat) → List Int
  | _, _, _, [] => []
  | n, code, behind, (now, place) :: r => (((now : Int) - code) * (n + 1) + aheadF l now place - behind) :: gapsF l (n + 1) now (aheadF l now place + 1) r
abbrev plt (p q : Nat × Nat) : Prop := p.1 < q.1 ∨ (p.1 = q.1 ∧ p.2 < q.2)
/-- the signs told, in their order -/
structure Order (l : List Nat) (ps : List (Nat × Nat)) : Prop where
  sorted : ps.Pairwise plt
  mem : ∀ c i, (c, i) ∈ ps ↔ l[i]? = some c ∧ 128 ≤ c
def curF (l : List Nat) (dn : List (Nat × Nat)) : List Nat := (l.zipIdx.filter (fun q => q.1 < 128 || dn.contains q)).map (·.1)
theorem curF_nil (l : List Nat) : curF l [] = l.filter (· < 128) := by
  unfold curF
  have : (l.zipIdx.filter (fun q => q.1 < 128 || ([] : List (Nat × Nat)).contains q)).map (·.1) = (l.zipIdx.map (·.1)).filter (· < 128) := by
    rw [List.filter_map]; congr 1; apply List.filter_congr; intro q _; simp
  rw [this, List.zipIdx_map_fst]
theorem curF_all {l : List Nat} {ps : List (Nat × Nat)} (h : Order l ps) : curF l ps = l := by
  unfold curF
  rw [List.filter_eq_self.mpr, List.zipIdx_map_fst]
  rintro ⟨c, i⟩ hq
  have := List.mem_zipIdx_iff_getElem?.mp hq
  by_cases hc : c < 128
  · simp [hc]
  · have := (h.mem c i).mpr ⟨by simpa using this, by lia⟩
    simp [this]
theorem zip_split {l : List Nat} {now place : Nat} (h : l[place]? = some now) : l.zipIdx = (l.take place).zipIdx ++ (now, place) :: (l.drop (place + 1)).zipIdx (place + 1) := by
  have hlt := (List.getElem?_eq_some_iff.mp h).1
  have e : l = l.take place ++ now :: l.drop (place + 1) := by
    rw [← getElem?_tail' h, List.take_append_drop]
  have hz : (l.take place).length = place := by rw [List.length_take]; lia
  conv => lhs; rw [e, List.zipIdx_append, hz, List.zipIdx_cons]
  simp
theorem order_split {l : List Nat} {dn rest : List (Nat × Nat)} {now place : Nat} (h : Order l (dn ++ (now, place) :: rest)) :
    l[place]? = some now ∧ 128 ≤ now ∧ (∀ p ∈ dn, plt p (now, place)) ∧ (∀ p ∈ rest, plt (now, place) p) := by
  have hm := (h.mem now place).mp (by simp)
  have hs := List.pairwise_append.mp h.sorted
  refine ⟨hm.1, hm.2, fun p hp => hs.2.2 p hp _ (List.Mem.head _), fun p hp => (List.pairwise_cons.mp hs.2.1).1 p hp⟩
theorem curF_ahead {l : List Nat} {dn rest : List (Nat × Nat)} {now place : Nat} (h : Order l (dn ++ (now, place) :: rest)) :
    (((l.take place).zipIdx.filter (fun q => q.1 < 128 || dn.contains q)).map (·.1)) = (l.take place).filter (· ≤ now) := by
  obtain ⟨h1, h2, h3, h4⟩ := order_split h
  have : (l.take place).zipIdx.filter (fun q => q.1 < 128 || dn.contains q) = (l.take place).zipIdx.filter (fun q => q.1 ≤ now) := by
    apply List.filter_congr
    rintro ⟨c, i⟩ hq
    have hg := List.mem_zipIdx_iff_getElem?.mp hq
    dsimp only at hg ⊢
    have hi : i < place := by
      have := (List.getElem?_eq_some_iff.mp hg).1
      rw [List.length_take] at this; lia
    have hl : l[i]? = some c := by
      rw [List.getElem?_take] at hg; simpa [hi] using hg
    by_cases hc : c < 128
    · have : c ≤ now := by lia
      simp [hc, this]
    · rw [Bool.eq_iff_iff]
      simp only [hc, decide_false, Bool.false_or, List.contains_iff_mem, decide_eq_true_eq]
      constructor
      · intro hd
        rcases h3 _ hd with h5 | h5
        · exact Nat.le_of_lt h5
        · exact Nat.le_of_eq h5.1
      · intro hle
        have hm := (h.mem c i).mpr ⟨hl, by lia⟩
        rcases List.mem_append.mp hm with hm | hm
        · exact hm
        · rcases List.mem_cons.mp hm with hm | hm
          · cases hm; lia
          · rcases h4 _ hm with h5 | h5 <;> (dsimp only at h5; lia)
  rw [this]
  have e2 : ((l.take place).zipIdx.filter (fun q => q.1 ≤ now)).map (·.1) = ((l.take place).zipIdx.map (·.1)).filter (· ≤ now) := by
    rw [List.filter_map]; rfl
  rw [e2, List.zipIdx_map_fst]
theorem curF_step {l : List Nat} {dn rest : List (Nat × Nat)} {now place : Nat} (h : Order l (dn ++ (now, place) :: rest)) :
    aheadF l now place ≤ (curF l dn).length ∧ curF l (dn ++ [(now, place)]) = (curF l dn).take (aheadF l now place) ++ now :: (curF l dn).drop (aheadF l now place) := by
  obtain ⟨h1, h2, h3, h4⟩ := order_split h
  have hnd : (now, place) ∉ dn := fun hm => by
    rcases h3 _ hm with h5 | h5 <;> (dsimp only at h5; lia)
  have hz := zip_split h1
  have ha := curF_ahead h
  generalize hX : (l.take place).zipIdx = X at hz ha
  generalize hY : (l.drop (place + 1)).zipIdx (place + 1) = Y at hz
  have hXn : ∀ q ∈ X, q ≠ (now, place) := fun q hq e => by
    subst e; rw [← hX] at hq
    have hg := List.mem_zipIdx_iff_getElem?.mp hq
    have := (List.getElem?_eq_some_iff.mp hg).1
    rw [List.length_take] at this; dsimp only at this; lia
  have hYn : ∀ q ∈ Y, q ≠ (now, place) := fun q hq e => by
    subst e; rw [← hY] at hq
    have := List.le_snd_of_mem_zipIdx hq
    dsimp only at this; lia
  have e1 : curF l dn = (l.take place).filter (· ≤ now) ++ (Y.filter (fun q => q.1 < 128 || dn.contains q)).map (·.1) := by
    unfold curF
    rw [hz, List.filter_append, List.map_append, ha, List.filter_cons]
    have : ¬ now < 128 := by lia
    simp [this, hnd]
  have e2 : curF l (dn ++ [(now, place)]) = (l.take place).filter (· ≤ now) ++ now :: (Y.filter (fun q => q.1 < 128 || dn.contains q)).map (·.1) := by
    unfold curF
    have f1 : X.filter (fun q => q.1 < 128 || (dn ++ [(now, place)]).contains q) = X.filter (fun q => q.1 < 128 || dn.contains q) := by
      apply List.filter_congr; intro q hq; have := hXn q hq; simp [this]
    have f2 : Y.filter (fun q => q.1 < 128 || (dn ++ [(now, place)]).contains q) = Y.filter (fun q => q.1 < 128 || dn.contains q) := by
      apply List.filter_congr; intro q hq; have := hYn q hq; simp [this]
    rw [hz, List.filter_append, List.map_append, f1, ha, List.filter_cons, f2]
    simp
  constructor
  · rw [e1]; unfold aheadF; simp
  · rw [e2, e1]
    unfold aheadF
    rw [List.take_left, List.drop_left]
theorem fdiv_at {x n a : Int} (hn : 0 < n + 1) (h0 : 0 ≤ a) (h1 : a ≤ n) : Int.fdiv (x * (n + 1) + a) (n + 1) = x ∧ Int.fmod (x * (n + 1) + a) (n + 1) = a := by
  rw [Int.fdiv_eq_ediv_of_nonneg _ (by lia), Int.fmod_eq_emod_of_nonneg _ (by lia)]
  constructor
  · rw [Int.add_comm, Int.add_mul_ediv_right _ _ (by lia), Int.ediv_eq_zero_of_lt h0 (by lia)]; lia
  · rw [Int.add_comm, Int.add_mul_emod_self_right, Int.emod_eq_of_lt h0 (by lia)]
/-- insertion gives the name; the places are the steps -/
theorem ins_told {l : List Nat} (hmax : ∀ c ∈ l, c ≤ 1114111) : ∀ (rest dn : List (Nat × Nat)) (code behind : Int), Order l (dn ++ rest) →
    Ins (curF l dn) code (behind - 1) (gapsF l (curF l dn).length code behind rest) l ∧ Steps (curF l dn) (placesF (curF l dn).length (behind - 1) (gapsF l (curF l dn).length code behind rest)) l
  | [], dn, code, behind, h => by
    rw [List.append_nil] at h
    rw [gapsF, placesF, curF_all h]
    exact ⟨.nil, .nil⟩
  | (now, place) :: rest, dn, code, behind, h => by
    obtain ⟨h1, h2, h3, h4⟩ := order_split h
    obtain ⟨hle, hst⟩ := curF_step h
    have hnx : now ≤ 1114111 := hmax now (List.mem_of_getElem? h1)
    have ih := ins_told hmax rest (dn ++ [(now, place)]) now (aheadF l now place + 1) (by rw [List.append_assoc]; exact h)
    have hlen : (curF l (dn ++ [(now, place)])).length = (curF l dn).length + 1 := by
      rw [hst]; simp; lia
    rw [hlen, hst] at ih
    rw [show ((aheadF l now place : Int) + 1 - 1) = (aheadF l now place : Int) by lia] at ih
    rw [gapsF]
    have hfd := fdiv_at (x := (now : Int) - code) (n := ((curF l dn).length : Int)) (a := (aheadF l now place : Int)) (by lia) (by lia) (by lia)
    have ep : behind - 1 + (((now : Int) - code) * ((curF l dn).length + 1) + aheadF l now place - behind) + 1 = ((now : Int) - code) * ((curF l dn).length + 1) + aheadF l now place := by lia
    have ep2 : behind - 1 + 1 + (((now : Int) - code) * ((curF l dn).length + 1) + aheadF l now place - behind) = ((now : Int) - code) * ((curF l dn).length + 1) + aheadF l now place := by lia
    have ec : (((curF l dn).length + 1 : Nat) : Int) = ((curF l dn).length : Int) + 1 := by lia
    rw [ec] at ih
    constructor
    · refine Ins.cons (c' := now) (p' := aheadF l now place) (by rw [ep, hfd.1]; lia) (by rw [ep, hfd.2]) (by lia) (by lia) ?_
      rw [Int.toNat_natCast, Int.toNat_natCast]; exact ih.1
    · rw [placesF, ep2, hfd.2]
      exact Steps.cons hle h2 ih.2
end
section
open PySem PySem.W PyProof.Rows PySem.Calls
set_option maxRecDepth 100000
set_option maxHeartbeats 4000000
set_option linter.unusedVariables false
theorem ahead_lt {l : List Nat} {c now pl place : Nat} (h : l[pl]? = some c) (hc : c ≤ now) (hp : pl < place) : aheadF l now pl + 1 ≤ aheadF l now place := by
  unfold aheadF
  obtain ⟨k, hk⟩ : ∃ k, place = pl + (k + 1) := ⟨place - pl - 1, by lia⟩
  subst hk
  rw [List.take_add, getElem?_tail' h, List.take_succ_cons, List.filter_append, List.length_append, List.filter_cons]
  simp [hc]
theorem curF_len (l : List Nat) (dn : List (Nat × Nat)) : (curF l dn).length ≤ l.length := by
  unfold curF
  rw [List.length_map]
  refine Nat.le_trans (List.length_filter_le _ _) ?_
  simp
theorem gaps_len (l : List Nat) : ∀ (ps : List (Nat × Nat)) (n c b : Int), (gapsF l n c b ps).length = ps.length
  | [], _, _, _ => rfl
  | (now, place) :: r, n, c, b => by rw [gapsF, List.length_cons, List.length_cons, gaps_len l r]
theorem gaps_bd {l : List Nat} (hmax : ∀ c ∈ l, c ≤ 1114111) (hl : l.length ≤ 1000) : ∀ (rest dn : List (Nat × Nat)) (code behind : Int), Order l (dn ++ rest) →
    ((dn = [] ∧ code = 128 ∧ behind = 0) ∨ ∃ c pl d', dn = d' ++ [(c, pl)] ∧ code = (c : Nat) ∧ behind = (aheadF l c pl : Nat) + 1) →
    ∀ g ∈ gapsF l (curF l dn).length code behind rest, 0 ≤ g ∧ g < 2 ^ 40
  | [], dn, code, behind, h, hs, g, hg => by rw [gapsF] at hg; cases hg
  | (now, place) :: rest, dn, code, behind, h, hs, g, hg => by
    obtain ⟨h1, h2, h3, h4⟩ := order_split h
    obtain ⟨hle, hst⟩ := curF_step h
    have hnx : now ≤ 1114111 := hmax now (List.mem_of_getElem? h1)
    have hlen : (curF l (dn ++ [(now, place)])).length = (curF l dn).length + 1 := by
      rw [hst]; simp; lia
    have hcl := curF_len l dn
    rw [gapsF] at hg
    rcases List.mem_cons.mp hg with rfl | hg
    · have key : 128 ≤ code ∧ code ≤ now ∧ 0 ≤ behind ∧ behind ≤ (curF l dn).length ∧ (code = now → behind ≤ aheadF l now place) := by
        rcases hs with ⟨rfl, rfl, rfl⟩ | ⟨c, pl, d', rfl, rfl, rfl⟩
        · exact ⟨by lia, by lia, by lia, by lia, by lia⟩
        · have ho : Order l (d' ++ (c, pl) :: (now, place) :: rest) := by
            have := h; rw [List.append_assoc] at this; exact this
          obtain ⟨g1, g2, g3, g4⟩ := order_split ho
          obtain ⟨gle, gst⟩ := curF_step ho
          have glen : (curF l (d' ++ [(c, pl)])).length = (curF l d').length + 1 := by
            rw [gst]; simp; lia
          have hp := h3 (c, pl) (by simp)
          refine ⟨by lia, by rcases hp with hp | hp <;> (dsimp only at hp; lia), by lia, by lia, fun e => ?_⟩
          have e' : c = now := by lia
          subst e'
          have hpl : pl < place := by rcases hp with hp | hp <;> (dsimp only at hp; lia)
          have := ahead_lt g1 (Nat.le_refl _) hpl
          lia
      obtain ⟨k1, k2, k3, k4, k5⟩ := key
      generalize hA : aheadF l now place = a at *
      generalize hN : (curF l dn).length = n at *
      have hup : ((now : Int) - code) * ((n : Int) + 1) ≤ 1114111 * 1001 := Int.mul_le_mul (by lia) (by lia) (by lia) (by lia)
      constructor
      · by_cases e : code = now
        · have := k5 e
          rw [e, Int.sub_self, Int.zero_mul]; lia
        · have : 1 * ((n : Int) + 1) ≤ ((now : Int) - code) * ((n : Int) + 1) := Int.mul_le_mul_of_nonneg_right (by lia) (by lia)
          lia
      · lia
    · have ec : (((curF l (dn ++ [(now, place)])).length : Nat) : Int) = ((curF l dn).length : Int) + 1 := by rw [hlen]; lia
      rw [← ec] at hg
      exact gaps_bd hmax hl rest (dn ++ [(now, place)]) now (aheadF l now place + 1) (by rw [List.append_assoc]; exact h) (.inr ⟨now, place, dn, rfl, rfl, rfl⟩) g hg
end
section
open PySem PySem.W PyProof.Rows PySem.Calls
set_option maxRecDepth 100000
set_option maxHeartbeats 4000000
set_option linter.unusedVariables false
/-- the tree of questions, answered by c, asks only for places that are there and ends in Q -/
def kok {α : Type} (c : Nat → Nat → Bool) (n : Nat) : KasT α → (α → Prop) → Prop
  | .ret a, Q => Q a
  | .ask i j k, Q => i < n ∧ j < n ∧ kok c n (k (c i j)) Q
theorem kok_bind {α β : Type} {c : Nat → Nat → Bool} {n : Nat} {f : α → KasT β} {Q : β → Prop} : ∀ (t : KasT α), kok c n t (fun a => kok c n (f a) Q) → kok c n (t.bind f) Q
  | .ret _, h => h
  | .ask i j k, h => ⟨h.1, h.2.1, kok_bind (k (c i j)) h.2.2⟩
theorem kok_mono {α : Type} {c : Nat → Nat → Bool} {n : Nat} {Q Q' : α → Prop} (hq : ∀ a, Q a → Q' a) : ∀ (t : KasT α), kok c n t Q → kok c n t Q'
  | .ret a, h => hq a h
  | .ask i j k, h => ⟨h.1, h.2.1, kok_mono hq (k (c i j)) h.2.2⟩
theorem kok_wp {α : Type} {c : Nat → Nat → Bool} {n : Nat} {cmp : Nat → Nat → (Bool → Shared → Prop) → Shared → Prop} {s : Shared} (hc : ∀ i j C, i < n → j < n → C (c i j) s → cmp i j C s) {Q : α → Prop} {R : α → Shared → Prop} (hR : ∀ a, Q a → R a s) :
    ∀ (t : KasT α), kok c n t Q → t.kasWp cmp R s
  | .ret a, h => hR a h
  | .ask i j k, h => hc i j _ h.1 h.2.1 (kok_wp hc hR (k (c i j)) h.2.2)
section
variable {n : Nat} {key : Nat → Int}
abbrev cmpK (key : Nat → Int) (i j : Nat) : Bool := decide (key i < key j)
def KP (key : Nat → Int) (p : Array Nat) (i : Nat) : Int := key (p.getD i 0)
def PW (n : Nat) (p : Array Nat) : Prop := p.toList.Perm (List.range n)
theorem PW.size {p : Array Nat} (h : PW n p) : p.size = n := by have := List.Perm.length_eq h; simpa using this
theorem getD_get {p : Array Nat} {i : Nat} (hi : i < p.size) : p[i]? = some (p.getD i 0) := by simp [Array.getD, hi]
theorem PW.lt {p : Array Nat} (h : PW n p) {i : Nat} (hi : i < n) : p.getD i 0 < n := by
  have hs := h.size
  have : p.getD i 0 ∈ p.toList := by
    have e := getD_get (p := p) (i := i) (by lia)
    exact Array.mem_toList_iff.mpr (Array.mem_of_getElem? e)
  exact List.mem_range.mp ((List.Perm.mem_iff h).mp this)
theorem PW.inj {p : Array Nat} (h : PW n p) {i j : Nat} (hi : i < n) (hj : j < n) (e : p.getD i 0 = p.getD j 0) : i = j := by
  have hs := h.size
  have nd : p.toList.Nodup := (List.Perm.nodup_iff h).mpr List.nodup_range
  have e1 := getD_get (p := p) (i := i) (by lia)
  have e2 := getD_get (p := p) (i := j) (by lia)
  rw [← Array.getElem?_toList] at e1 e2
  rw [e] at e1
  exact (List.getElem?_inj (by rw [Array.length_toList]; lia) nd).mp (e1.trans e2.symm)
theorem PW.ne {p : Array Nat} (h : PW n p) (hk : ∀ i j, i < n → j < n → key i = key j → i = j) {i j : Nat} (hi : i < n) (hj : j < n) (hij : i ≠ j) : KP key p i ≠ KP key p j :=
  fun e => hij (h.inj hi hj (hk _ _ (h.lt hi) (h.lt hj) e))
def Up (key : Nat → Int) (p : Array Nat) (m : Nat) : Prop := ∀ i j, i < j → j < m → KP key p i < KP key p j
def Dn (key : Nat → Int) (p : Array Nat) (m : Nat) : Prop := ∀ i j, i < j → j < m → KP key p j < KP key p i
theorem KP_congr {p q : Array Nat} {i j : Nat} (h : p[i]? = q[j]?) : KP key p i = KP key q j := by
  unfold KP; rw [Array.getD_eq_getD_getElem?, Array.getD_eq_getD_getElem?, h]
variable (hk : ∀ i j, i < n → j < n → key i = key j → i = j)
include hk
theorem asc_ok {p : Array Nat} (hp : PW n p) : ∀ (f m : Nat), 1 ≤ m → m + f ≤ n → Up key p m →
    kok (cmpK key) n (kas_asc p f m) (fun r => m ≤ r ∧ r ≤ m + f ∧ Up key p r ∧ (r = m + f ∨ KP key p r < KP key p (r - 1)))
  | 0, m, h1, hm, hu => ⟨Nat.le_refl _, by lia, hu, .inl rfl⟩
  | f + 1, m, h1, hm, hu => by
    refine ⟨hp.lt (by lia), hp.lt (by lia), ?_⟩
    by_cases hlt : KP key p m < KP key p (m - 1)
    · have : cmpK key (p.getD m 0) (p.getD (m - 1) 0) = true := decide_eq_true hlt
      rw [this]
      exact ⟨Nat.le_refl _, by lia, hu, .inr hlt⟩
    · have : cmpK key (p.getD m 0) (p.getD (m - 1) 0) = false := decide_eq_false hlt
      rw [this]
      have hne := hp.ne hk (i := m) (j := m - 1) (by lia) (by lia) (by lia)
      have hup : Up key p (m + 1) := fun i j hij hj => by
        by_cases hjm : j < m
        · exact hu i j hij hjm
        · have hj' : j = m := by lia
          subst hj'
          by_cases hi : i = j - 1
          · subst hi; lia
          · have := hu i (j - 1) (by lia) (by lia); lia
      exact kok_mono (fun r hr => ⟨by lia, by lia, hr.2.2.1, by rcases hr.2.2.2 with e | e; exact .inl (by lia); exact .inr e⟩) _ (asc_ok hp f (m + 1) (by lia) (by lia) hup)
theorem desc_ok {p : Array Nat} (hp : PW n p) : ∀ (f m : Nat), 1 ≤ m → m + f ≤ n → Dn key p m →
    kok (cmpK key) n (kas_desc f p m 0) (fun r => r.1 = p ∧ r.2.2 = 0 ∧ m ≤ r.2.1 ∧ r.2.1 ≤ m + f ∧ Dn key p r.2.1)
  | 0, m, h1, hm, hu => ⟨rfl, rfl, Nat.le_refl _, by show m ≤ m + 0; lia, hu⟩
  | f + 1, m, h1, hm, hu => by
    refine ⟨hp.lt (by lia), hp.lt (by lia), ?_⟩
    by_cases hlt : KP key p m < KP key p (m - 1)
    · have : cmpK key (p.getD m 0) (p.getD (m - 1) 0) = true := decide_eq_true hlt
      rw [this]
      have hup : Dn key p (m + 1) := fun i j hij hj => by
        by_cases hjm : j < m
        · exact hu i j hij hjm
        · have hj' : j = m := by lia
          subst hj'
          by_cases hi : i = j - 1
          · subst hi; lia
          · have := hu i (j - 1) (by lia) (by lia); lia
      exact kok_mono (fun r hr => ⟨hr.1, hr.2.1, by lia, by lia, hr.2.2.2.2⟩) _ (desc_ok hp f (m + 1) (by lia) (by lia) hup)
    · have e1 : cmpK key (p.getD m 0) (p.getD (m - 1) 0) = false := decide_eq_false hlt
      have hne := hp.ne hk (i := m) (j := m - 1) (by lia) (by lia) (by lia)
      have e2 : cmpK key (p.getD (m - 1) 0) (p.getD m 0) = true := decide_eq_true (by show KP key p (m - 1) < KP key p m; lia)
      rw [e1]
      refine ⟨hp.lt (by lia), hp.lt (by lia), ?_⟩
      rw [e2]
      exact ⟨rfl, rfl, Nat.le_refl _, by show m ≤ _; lia, hu⟩
theorem tail3_ok {p : Array Nat} (hp : PW n p) {m : Nat} (h1 : 1 ≤ m) (hm : m ≤ n) (hd : Dn key p m) :
    kok (cmpK key) n (kas_tail3 m n p) (fun r => PW n r.2 ∧ 1 ≤ r.1 ∧ r.1 ≤ n ∧ Up key r.2 r.1) := by
  have hp' : PW n (kas_rev p 0 m) := (Array.Perm.toList (mirror_perm p 0 m _)).trans hp
  have hu : Up key (kas_rev p 0 m) m := fun i j hij hj => by
    have hs := hp.size
    have e1 : KP key (kas_rev p 0 m) i = KP key p (m - 1 - i) := KP_congr (by
      unfold kas_rev; rw [getElem?_mirror_all (by lia)]; rw [if_pos (by lia)]; congr 1; lia)
    have e2 : KP key (kas_rev p 0 m) j = KP key p (m - 1 - j) := KP_congr (by
      unfold kas_rev; rw [getElem?_mirror_all (by lia)]; rw [if_pos (by lia)]; congr 1; lia)
    rw [e1, e2]; exact hd _ _ (by lia) (by lia)
  exact kok_bind _ (kok_mono (fun r hr => ⟨hp', by lia, by lia, hr.2.2.1⟩) _ (asc_ok hk hp' (n - m) m h1 (by lia) hu))
theorem descPart_ok {p : Array Nat} (hp : PW n p) {m : Nat} (h1 : 1 ≤ m) (hm : m + 1 ≤ n) (hd : Dn key p (m + 1)) :
    kok (cmpK key) n (kas_descPart m n p) (fun r => PW n r.2 ∧ 1 ≤ r.1 ∧ r.1 ≤ n ∧ Up key r.2 r.1) := by
  refine kok_bind _ (kok_mono (fun r hr => ?_) _ (desc_ok hk hp (n - (m + 1)) (m + 1) (by lia) (by lia) hd))
  obtain ⟨p', r1, q⟩ := r
  obtain ⟨e1, e2, e3, e4, e5⟩ := hr
  dsimp only at e1 e2 e3 e4 e5 ⊢
  subst e1; subst e2
  rw [if_neg (by lia)]
  exact tail3_ok hk hp (by lia) (by lia) e5
theorem count_ok {p : Array Nat} (hp : PW n p) (hn : 1 ≤ n) : kok (cmpK key) n (kas_count n p) (fun r => PW n r.2 ∧ 1 ≤ r.1 ∧ r.1 ≤ n ∧ Up key r.2 r.1) := by
  refine kok_bind _ (kok_mono (fun r hr => ?_) _ (asc_ok hk hp (n - 1) 1 (Nat.le_refl _) (by lia) (fun i j h1 h2 => by lia)))
  obtain ⟨h1, h2, h3, h4⟩ := hr
  by_cases e : (r == n) = true
  · rw [if_pos e]; exact ⟨hp, h1, by lia, h3⟩
  · rw [if_neg e]
    have hrn : r ≠ n := fun q => e (by rw [q]; exact beq_self_eq_true _)
    have hlt : KP key p r < KP key p (r - 1) := by rcases h4 with h | h; exact absurd (by lia) hrn; exact h
    by_cases h5 : r > 1
    · rw [if_pos h5]
      refine ⟨hp.lt (by lia), hp.lt (by lia), ?_⟩
      have e2 : cmpK key (p.getD 0 0) (p.getD (r - 1) 0) = true := decide_eq_true (h3 0 (r - 1) (by lia) (by lia))
      rw [e2]; exact ⟨hp, h1, by lia, h3⟩
    · rw [if_neg h5]
      have h6 : r = 1 := by lia
      subst h6
      refine descPart_ok hk hp (Nat.le_refl _) (by lia) fun i j hij hj => ?_
      have : i = 0 ∧ j = 1 := by lia
      obtain ⟨rfl, rfl⟩ := this
      exact hlt
theorem place_ok {p : Array Nat} (hp : PW n p) {k : Nat} (hkn : k < n) (hu : Up key p k) : ∀ (f l r : Nat), r - l ≤ f → l ≤ r → r ≤ k → (∀ i, i < l → KP key p i < KP key p k) → (∀ i, r ≤ i → i < k → KP key p k < KP key p i) →
    kok (cmpK key) n (kas_place p k f l r) (fun x => x ≤ k ∧ (∀ i, i < x → KP key p i < KP key p k) ∧ (∀ i, x ≤ i → i < k → KP key p k < KP key p i))
  | 0, l, r, hf, hlr, hr, hlo, hhi => ⟨by lia, hlo, fun i h1 h2 => hhi i (by lia) h2⟩
  | f + 1, l, r, hf, hlr, hr, hlo, hhi => by
    unfold kas_place
    by_cases h : l ≥ r
    · rw [if_pos h]; exact ⟨by lia, hlo, fun i h1 h2 => hhi i (by lia) h2⟩
    · rw [if_neg h]
      refine ⟨hp.lt (by lia), hp.lt (by lia), ?_⟩
      by_cases hlt : KP key p k < KP key p ((l + r) / 2)
      · have : cmpK key (p.getD k 0) (p.getD ((l + r) / 2) 0) = true := decide_eq_true hlt
        rw [this]
        refine place_ok hp hkn hu f l ((l + r) / 2) (by lia) (by lia) (by lia) hlo fun i h1 h2 => ?_
        by_cases e : i = (l + r) / 2
        · subst e; exact hlt
        · have := hu ((l + r) / 2) i (by lia) h2; lia
      · have : cmpK key (p.getD k 0) (p.getD ((l + r) / 2) 0) = false := decide_eq_false hlt
        rw [this]
        have hne := hp.ne hk (i := k) (j := (l + r) / 2) hkn (by lia) (by lia)
        refine place_ok hp hkn hu f ((l + r) / 2 + 1) r (by lia) (by lia) hr (fun i h1 => ?_) hhi
        by_cases e : i = (l + r) / 2
        · subst e; lia
        · have := hu i ((l + r) / 2) (by lia) (by lia); lia
theorem bin_ok : ∀ (f k : Nat) (p : Array Nat), PW n p → f + k = n → Up key p k → kok (cmpK key) n (kas_bin f p k) (fun p' => PW n p' ∧ Up key p' n)
  | 0, k, p, hp, hf, hu => ⟨hp, by rw [show n = k by lia]; exact hu⟩
  | f + 1, k, p, hp, hf, hu => by
    have hs := hp.size
    refine kok_bind _ (kok_mono (fun x hx => ?_) _ (place_ok hk hp (by lia) hu k 0 k (by lia) (by lia) (Nat.le_refl _) (fun i h => by lia) (fun i h1 h2 => by lia)))
    obtain ⟨h1, h2, h3⟩ := hx
    refine bin_ok f (k + 1) _ ((Array.Perm.toList (bubble_perm p k (k - x))).trans hp) (by lia) fun i j hij hj => ?_
    have eb : ∀ i, KP key (bubble p k (k - x)) i = if i = x then KP key p k else if x < i ∧ i ≤ k then KP key p (i - 1) else KP key p i := fun i => by
      have e := getElem?_bubble (xs := p) (src := k) (by lia) (k - x) (by lia) i
      rw [show k - (k - x) = x by lia] at e
      split
      · rw [if_pos (by assumption)] at e; exact KP_congr e
      · rw [if_neg (by assumption)] at e
        split
        · rw [if_pos (by assumption)] at e; exact KP_congr e
        · rw [if_neg (by assumption)] at e; exact KP_congr e
    rw [eb i, eb j]
    by_cases hi : i = x
    · rw [if_pos hi, if_neg (by lia), if_pos (by lia)]
      exact h3 (j - 1) (by lia) (by lia)
    · rw [if_neg hi]
      by_cases hj2 : j = x
      · rw [if_pos hj2, if_neg (by lia)]; exact h2 i (by lia)
      · rw [if_neg hj2]
        by_cases hi2 : x < i ∧ i ≤ k
        · rw [if_pos hi2, if_pos (by lia)]; exact hu (i - 1) (j - 1) (by lia) (by lia)
        · rw [if_neg hi2]
          by_cases hj3 : x < j ∧ j ≤ k
          · rw [if_pos hj3]; by_cases e : i = j - 1
            · lia
            · exact hu i (j - 1) (by lia) (by lia)
          · rw [if_neg hj3]; exact hu i j hij (by lia)
theorem sort_ok (hn : 1 ≤ n) : kok (cmpK key) n (kas_sort n) (fun p => PW n p ∧ Up key p n) := by
  have hp : PW n (List.toArray (List.range n)) := List.Perm.refl _
  refine kok_bind _ (kok_mono (fun r hr => ?_) _ (count_ok hk hp hn))
  obtain ⟨h1, h2, h3, h4⟩ := hr
  by_cases h : r.1 < n
  · rw [if_pos h, Nat.max_eq_left h2]
    exact bin_ok hk (n - r.1) r.1 r.2 h1 (by lia) h4
  · rw [if_neg h]
    exact ⟨h1, fun i j hij hj => h4 i j hij (by lia)⟩
end
end
section
open PySem PySem.W PyProof.Rows PySem.Calls
set_option maxRecDepth 100000
set_option maxHeartbeats 4000000
set_option linter.unusedVariables false
def keyF (xs : List (Int × Int)) (i : Nat) : Int := (xs.getD i (0, 0)).1 * 64 + (xs.getD i (0, 0)).2
theorem katTups_of {h : Heap} {news : List (Addr × Obj)} (hn : ∀ p ∈ news, h.get? p.1 = some p.2) : ∀ {vs : List Value} {xs : List (Int × Int)}, All2 (PairAt news) vs xs → ∃ fs, KatTups h vs fs ∧ fs.length = vs.length ∧ ∀ f ∈ fs, ∃ c t, f = Value.int c t
  | [], [], _ => ⟨[], trivial, rfl, fun _ h => by cases h⟩
  | v :: vs, x :: xs, h => by
    cases h with
    | cons h1 h2 =>
      obtain ⟨fs, a, b, c⟩ := katTups_of hn h2
      obtain ⟨T, t, u, n, rfl, hm⟩ := h1
      refine ⟨.int x.1 t :: fs, KatTups.cons (hn _ hm) rfl rfl rfl a, by simp [b], fun f hf => ?_⟩
      rcases List.mem_cons.mp hf with rfl | hf
      · exact ⟨_, _, rfl⟩
      · exact c f hf
theorem ask_pair {prog : Program} {w : World} {A : Around} {s : Shared} {news : List (Addr × Obj)} {vs : List Value} {xs : List (Int × Int)} (hn : ∀ p ∈ news, s.heap.get? p.1 = some p.2) (ha : All2 (PairAt news) vs xs) (hb : ∀ q ∈ xs, 0 ≤ q.2 ∧ q.2 < 64)
    {i j : Nat} (hi : i < vs.length) (hj : j < vs.length) (C : Bool → Shared → Prop) (h : C (cmpK (keyF xs) i j) s) : kas_ask prog w A (tuples' true) vs i j C s := by
  obtain ⟨x, hx, a, t1, u1, n1, ea, hma⟩ := ha.get (List.getElem?_eq_getElem hi)
  obtain ⟨y, hy, b, t2, u2, n2, eb, hmb⟩ := ha.get (List.getElem?_eq_getElem hj)
  unfold kas_ask
  rw [show vs.getD i Value.none = .ref a by rw [List.getD_eq_getElem?_getD, List.getElem?_eq_getElem hi]; exact ea, show vs.getD j Value.none = .ref b by rw [List.getD_eq_getElem?_getD, List.getElem?_eq_getElem hj]; exact eb]
  have hkx : keyF xs i = x.1 * 64 + x.2 := by unfold keyF; rw [List.getD_eq_getElem?_getD, hx]; rfl
  have hky : keyF xs j = y.1 * 64 + y.2 := by unfold keyF; rw [List.getD_eq_getElem?_getD, hy]; rfl
  have bx := hb x (List.mem_of_getElem? hx)
  have by' := hb y (List.mem_of_getElem? hy)
  refine kat_lt (hn _ hma) rfl (hn _ hmb) rfl ?_
  show KatLex prog w A true _ C [(.int x.1 t1, .int y.1 t2), (.int x.2 u1, .int y.2 u2)] 0 s
  unfold cmpK at h
  rw [hkx, hky] at h
  refine kat_cons (wpAny_eqBool_int (kat_go (fun e => ?_) (fun e => ?_)))
  · have e1 : x.1 = y.1 := by simpa using e
    refine kat_yes (kat_cons (wpAny_eqBool_int (kat_go (fun e => ?_) (fun e => ?_))))
    · have e2 : x.2 = y.2 := by simpa using e
      refine kat_yes (kat_nil ?_)
      have : decide (x.1 * 64 + x.2 < y.1 * 64 + y.2) = decide ((#[Value.int x.1 t1, .int x.2 u1] : Array Value).size < (#[Value.int y.1 t2, .int y.2 u2] : Array Value).size) := by
        rw [e1, e2]; simp
      rw [this] at h; exact h
    · refine kat_no (kat_one _ _ (lt_int ?_))
      have : decide (x.1 * 64 + x.2 < y.1 * 64 + y.2) = decide (x.2 < y.2) := by
        rw [e1, decide_eq_decide]; lia
      rw [this] at h; exact h
  · have e1 : x.1 ≠ y.1 := by simpa using e
    refine kat_no (oneLt_int ?_)
    have : decide (x.1 * 64 + x.2 < y.1 * 64 + y.2) = decide (x.1 < y.1) := by
      rw [decide_eq_decide]; lia
    rw [this] at h; exact h
theorem list_sort_short {prog : Program} {w : World} {A : Around} {E : Value → Shared → Prop} {s : Shared} {a : Addr} {vs : List Value} {n : Nat} {P : PySem.Fin → Shared → Prop} (ho : s.heap.get? a = some (seqObj "list" vs.toArray n)) (h2 : vs.length < 2)
    (h : P (.done (.ret .none)) { s with heap := sortedHeap s.heap a vs vs.toArray }) : wpAny (model prog w) A (Builtin.«list.sort» ⟨[.ref a], []⟩) P E s := by
  have ha : a < s.heap.objs.size := Heap.lt_size ho
  obtain ⟨e1, ho1⟩ : ∃ e1, (s.heap.update a (Obj.mapSeq fun _ => #[])).get? a = some (seqObj "list" #[] e1) := ⟨_, get?_update_seq ho (fun _ => #[])⟩
  have ho6 : (((s.heap.update a (Obj.mapSeq fun _ => #[])).push (seqObj "tuple" vs.toArray 0)).push (seqObj "list" #[] 0)).get? a = some (seqObj "list" #[] e1) :=
    Heap.get?_push_of_some _ (Heap.get?_push_of_some _ ho1)
  rw [list_sort_plain]
  refine wpAny_bind (listItems_at ho rfl (wpAny_bind (listUpdate_at ho rfl ?_ (by rw [List.size_toArray, sizeLine_eq]; lia) (Nat.zero_le _))))
  refine wpAny_bind (seqEpoch_at ho1 rfl (wpAny_bind (wpAny_newTuple ?_ (by show vs.length ≤ _; rw [sizeLine_eq]; lia))))
  refine wpAny_bind (wpAny_newList (wpAny_holding ?_) (Nat.zero_le _))
  show wpAny (model prog w) A _ P E { s with heap := ((s.heap.update a (Obj.mapSeq fun _ => #[])).push (seqObj "tuple" vs.toArray 0)).push (seqObj "list" #[] 0) }
  dsimp only
  have hz : vs.toArray.size < 2 := by rw [List.size_toArray]; exact h2
  rw [if_pos hz, if_pos hz]
  refine wpAny_bind (wpAny_pure ?_)
  rw [StateT.run_pure]
  refine wpAny_bind (wpAny_pure ?_)
  dsimp only
  refine wpAny_bind (seqEpoch_at ho6 rfl ?_)
  have hsn : (arrOf (SortSt.mk' general' (vs.toArray.zip vs.toArray) #[] 7 none)).map (·.2) = vs.toArray := by
    show (vs.toArray.zip vs.toArray).map (·.2) = vs.toArray
    apply Array.toList_inj.mp
    simp only [Array.toList_map, Array.toList_zip]
    exact List.map_snd_zip (Nat.le_refl _)
  rw [hsn]
  refine wpAny_bind (listUpdate_at ho6 rfl ?_ (Nat.zero_le _) (by rw [List.size_toArray, sizeLine_eq]; lia))
  simp only [bne_self_eq_false, Bool.false_eq_true, if_false]
  exact wpAny_pure h
section
variable {prog : Program} {w : World} {A : Around} {E : Value → Shared → Prop} {s : Shared} {h₀ : Heap} {L : Addr} {m : Str → Option Value} {news : List (Addr × Obj)} {vs : List Value}
theorem sorted_short {l : Addr} {Q : Value → Shared → Prop} (hl : s.heap.IsList l vs.toArray) (h2 : vs.length < 2) (h : Q (.ref (s.heap.objs.size + 1)) { s with heap := sortedAll s.heap vs vs.toArray }) :
    wpAny (model prog w) A (call (.builtin "sorted") [.ref l]) Q E s := by
  refine Calls.call_function_entry kind_sorted plain_sorted entry_sorted (args_sorted1 _) ?_
  unfold Builtin.«sorted»
  refine wpAny_bind (m := checkCount "sorted" 1 1 _) (wpAny_pure ?_)
  refine wpAny_bind (collect_list hl (wpAny_bind (wpAny_newList ?_ (by rw [sizeLine_eq]; lia))) (by rw [sizeLine_eq]; lia))
  have hsz : ((s.heap.push (seqObj "list" #[] 0)).update s.heap.objs.size (Obj.mapSeq (· ++ vs.toArray))).objs.size = s.heap.objs.size + 1 := by
    rw [Heap.size_update, size_push']
  have hoL : (((s.heap.push (seqObj "list" #[] 0)).update s.heap.objs.size (Obj.mapSeq (· ++ vs.toArray))).push (seqObj "list" vs.toArray 0)).get? (s.heap.objs.size + 1) = some (seqObj "list" vs.toArray 0) := by
    rw [← hsz]; exact Heap.get?_push_size _ rfl
  show wpAny _ _ _ _ _ { s with heap := ((s.heap.push (seqObj "list" #[] 0)).update s.heap.objs.size (Obj.mapSeq (· ++ vs.toArray))).push (seqObj "list" vs.toArray 0) }
  rw [hsz]
  refine wpAny_bind (wpAny_holding (wpAny_call_entry slot_list_sort ⟨_, hoL, rfl⟩ entry_list_sort (list_sort_short hoL h2 ⟨_, rfl, ?_⟩) (args_list_sort _)))
  exact wpAny_pure ⟨_, rfl, h⟩
abbrev lexlt (p q : Int × Int) : Prop := p.1 < q.1 ∨ (p.1 = q.1 ∧ p.2 < q.2)
theorem sorted_pairs {l : Addr} {xs : List (Int × Int)} {Q : Value → Shared → Prop} (F : Fr h₀ L s.heap m) (N : News h₀ L s.heap news) (hl : s.heap.IsList l vs.toArray) (ha : All2 (PairAt news) vs xs) (hb : ∀ q ∈ xs, 0 ≤ q.2 ∧ q.2 < 64) (hnd : xs.Nodup) (h64 : vs.length < 64)
    (h : ∀ D c h' out ys, Fr h₀ L h' m → News h₀ L h' ((D, listOf (List.toArray out) c) :: news) → All2 (PairAt news) out ys → ys.Pairwise lexlt → (∀ q, q ∈ ys ↔ q ∈ xs) → ys.length = xs.length → Q (.ref D) { s with heap := h' }) :
    wpAny (model prog w) A (call (.builtin "sorted") [.ref l]) Q E s := by
  have hlen := ha.length
  by_cases h2 : vs.length < 2
  · refine sorted_short hl h2 ?_
    obtain ⟨e, he⟩ := sortedAll_at s.heap vs vs.toArray
    have kp : Keep s.heap (sortedAll s.heap vs vs.toArray) := fun b o q => sortedAll_old q
    have hn : s.heap.get? (s.heap.objs.size + 1) = none := Heap.get?_none_of_le (Nat.le_succ _)
    refine h _ e _ vs xs (fr_mv F kp) (news_put F (news_mv N kp) he hn) ha ?_ (fun _ => Iff.rfl) rfl
    match xs, hlen with
    | [], _ => exact List.Pairwise.nil
    | [_], _ => exact List.pairwise_singleton _ _
    | _ :: _ :: _, e => simp at e; lia
  · refine kat_sorted F N hl (by lia) h64 fun D e1 h' F' N' hlt => ?_
    have hn : ∀ p ∈ news, h'.get? p.1 = some p.2 := fun p hp => (N' p (List.mem_cons_of_mem _ hp)).1
    obtain ⟨fs, t1, t2, t3⟩ := katTups_of (h := h') hn ha
    refine kat_kind (T := .type "int") (fs := fs) t1 (by lia) (fun f hf => ?_) rfl ?_
    · obtain ⟨c, t, rfl⟩ := t3 f hf
      exact Looks.of_pure rfl
    have hkey : ∀ i j, i < vs.length → j < vs.length → keyF xs i = keyF xs j → i = j := fun i j hi hj e => by
      have e1 : xs[i]? = some (xs.getD i (0, 0)) := by rw [List.getD_eq_getElem?_getD, List.getElem?_eq_getElem (by lia)]; rfl
      have e2 : xs[j]? = some (xs.getD j (0, 0)) := by rw [List.getD_eq_getElem?_getD, List.getElem?_eq_getElem (by lia)]; rfl
      have b1 := hb _ (List.mem_of_getElem? e1)
      have b2 := hb _ (List.mem_of_getElem? e2)
      unfold keyF at e
      have e3 : xs.getD i (0, 0) = xs.getD j (0, 0) := Prod.ext (by lia) (by lia)
      exact (List.getElem?_inj (by lia) hnd).mp (by rw [e1, e2, e3])
    refine kok_wp (c := cmpK (keyF xs)) (n := vs.length) (fun i j C hi hj hC => ask_pair (s := { s with heap := h' }) hn ha hb hi hj C hC) (fun p hp => ?_) _ (sort_ok hkey (by lia))
    obtain ⟨hp, hu⟩ := hp
    have hs := hp.size
    refine KasFin.intro F' N' (.head fun p hp => Nat.ne_of_lt (hlt p hp)) fun h'' c F'' N'' => ?_
    refine h D c h'' _ (p.toList.map fun i => xs.getD i (0, 0)) F'' N'' ?_ ?_ (fun q => ?_) (by rw [List.length_map, Array.length_toList]; lia)
    · have : ∀ (is : List Nat), (∀ i ∈ is, i < vs.length) → All2 (PairAt news) (is.map fun i => vs.getD i Value.none) (is.map fun i => xs.getD i (0, 0)) := by
        intro is
        induction is with
        | nil => exact fun _ => .nil
        | cons i is ih =>
          intro hi
          have hi0 := hi i (List.Mem.head _)
          obtain ⟨x, hx, hP⟩ := ha.get (List.getElem?_eq_getElem hi0)
          refine .cons ?_ (ih fun j hj => hi j (List.mem_cons_of_mem _ hj))
          show PairAt news (vs.getD i Value.none) (xs.getD i (0, 0))
          rw [List.getD_eq_getElem?_getD, List.getElem?_eq_getElem hi0, List.getD_eq_getElem?_getD, hx]; exact hP
      exact this _ fun i hi => List.mem_range.mp ((List.Perm.mem_iff hp).mp hi)
    · rw [List.pairwise_iff_getElem]
      intro i j hi hj hij
      simp only [List.length_map, Array.length_toList] at hi hj
      have hlt2 := hu i j hij (by lia)
      simp only [List.getElem_map, Array.getElem_toList]
      have g1 : p.getD i 0 = p[i] := by simp [Array.getD, hi]
      have g2 : p.getD j 0 = p[j] := by simp [Array.getD, hj]
      unfold KP keyF at hlt2
      rw [g1, g2] at hlt2
      have v1 := hp.lt (i := i) (by lia)
      have v2 := hp.lt (i := j) (by lia)
      rw [g1] at v1; rw [g2] at v2
      have m1 : xs.getD p[i] (0, 0) ∈ xs := by rw [List.getD_eq_getElem?_getD, List.getElem?_eq_getElem (by lia)]; exact List.getElem_mem _
      have m2 : xs.getD p[j] (0, 0) ∈ xs := by rw [List.getD_eq_getElem?_getD, List.getElem?_eq_getElem (by lia)]; exact List.getElem_mem _
      have b1 := hb _ m1
      have b2 := hb _ m2
      show (xs.getD p[i] (0, 0)).1 < _ ∨ _
      lia
    · rw [List.mem_map]
      constructor
      · rintro ⟨i, hi, rfl⟩
        have := List.mem_range.mp ((List.Perm.mem_iff hp).mp hi)
        rw [List.getD_eq_getElem?_getD, List.getElem?_eq_getElem (by lia)]; exact List.getElem_mem _
      · intro hq
        obtain ⟨i, hi, e⟩ := List.mem_iff_getElem.mp hq
        refine ⟨i, (List.Perm.mem_iff hp).mpr (List.mem_range.mpr (by lia)), ?_⟩
        rw [List.getD_eq_getElem?_getD, List.getElem?_eq_getElem hi]; exact e
end
end
section
open PySem PySem.W PyProof.Rows PySem.Calls
set_option maxRecDepth 100000
set_option maxHeartbeats 8000000
set_option linter.unusedVariables false
section
variable {prog : Program} {w : World} {A : Around} {E : Value → Shared → Prop} {s : Shared}
/-- a comprehension over a range; an element may make objects -/
theorem comp_rngU {use : Option (Value → Sem Unit)} {cpos : Pos} {env : Env} {elt iter : PySem.Expr} {c? : Option PySem.Expr} {a : Str} {pa : Pos} {scope : Scope} {cl : List (Str × Addr)} {pos : Pos} {Q : Value → Shared → Prop} {n : Nat} (p : Nat → Bool) (F : List (Addr × Obj) → Nat → Value → Prop)
    (hmono : ∀ o o' i y, (∀ q ∈ o, q ∈ o') → F o i y → F o' i y)
    (hh : A.handled = none) (hclos : closureFor scope env = pure cl) (hcell : ∀ y ∈ scope.names, y.2 ≠ .cell) (hkind : scope.kind = .function)
    (hnames : ∀ y ∈ scope.names, y.2 = .local → scope.names.lookup y.1 = some .local) (hxa : scope.names.lookup a = some .local) (hlen : n ≤ 100000)
    (h : wpAny (model prog w) A (eval iter env) (fun xv s₂ => ∃ r t u v, xv = .ref r ∧ IsRange s₂.heap r 0 (n : Int) 1 t u v ∧
      (∀ C i t s₃ m₃ E' (K : Bool → Shared → Prop), i < n → s₃.heap.Ns C m₃ → m₃ a = some (.int (i : Nat) t) → Keep s₂.heap s₃.heap → (∀ s₄, Keeps s₃ s₄ → K (p i) s₄) → tst (model prog w) A c? (compEnvC scope cl C env) K E' s₃) ∧
      (∀ C i t s₃ m₃ E', i < n → p i = true → s₃.heap.Ns C m₃ → m₃ a = some (.int (i : Nat) t) → Keep s₂.heap s₃.heap → wpAny (model prog w) A (eval elt (compEnvC scope cl C env)) (fun y s₄ => ∃ o, F o i y ∧ Keeps s₃ s₄ ∧ Made s₃.heap s₄.heap o) E' s₃) ∧
      (∀ D C h' tk m' ys (nn : Nat) (ob : List (Addr × Obj)), Made s₂.heap h' ((D, listOf ys nn) :: ob) → All2 (F ob) ((List.range n).filter p) ys.toList → Keep s₂.heap h' → h'.Ns C m' → s₂.heap.get? C = none → (∀ q ∈ (D, listOf ys nn) :: ob, q.1 ≠ C) → compPost (model prog w) A E use Q (.ref D) C (.ok .next) { s₂ with heap := h', toks := tk })) E s)
    (hs : ∀ x, foldedSetIterable iter env x = pure x := by intro _; rfl) :
    wpAny (model prog w) A (comprehension (.ListComp elt [⟨.Name a pa, iter, c?.toList, 0⟩] scope pos) scope env cpos (newList []) false (eval iter env) use) Q E s := by
  refine wpAny_comprehension_free (use := use) rfl hs hclos hkind hnames (wpAny_mono h (fun xv s₂ h₂ => ?_) fun _ _ e => e)
  refine ex4_5 h₂ ?_
  clear h₂
  intro r t u v eq9' hr htst helt hQ
  subst eq9'
  refine pyIter_rng hr (by omega) fun H1 k1 hS1 hit1 => ?_
  have W := Walks.range (prog := prog) (w := w) hh s₂.heap.objs.size 0 1 n
  refine wpAny_newObj_type (wpAny_newFunctionEnv hcell (by intro y hy; simp at hy) (fun h₁ hns₁ hsb₁ => ?_) hkind)
  dsimp only at hns₁ hsb₁ ⊢
  generalize hH2 : H1.push { cls := .type "list", dict := none, data := .seq ([] : List Value).toArray } = H2 at hns₁ hsb₁ ⊢
  have hC : H2.objs.size = H1.objs.size + 1 := by rw [← hH2, Heap.size_push]
  have hID : s₂.heap.objs.size ≠ H1.objs.size := by rw [hS1]; exact Nat.ne_of_lt (Nat.lt_succ_self _)
  have hIC : s₂.heap.objs.size ≠ H2.objs.size := by rw [hC, hS1]; exact Nat.ne_of_lt (Nat.lt_succ_of_lt (Nat.lt_succ_self _))
  have hDC : H1.objs.size ≠ H2.objs.size := by rw [hC]; exact Nat.ne_of_lt (Nat.lt_succ_self _)
  have old : Keep H1 h₁ := fun b o e => hsb₁.extBut b o (by rw [hC]; exact Nat.ne_of_lt (Nat.lt_succ_of_lt (Heap.lt_size e))) (Heap.get?_push_of_some _ (hH2 ▸ Heap.get?_push_of_some _ e))
  have hacc : h₁.PlainList H1.objs.size #[] := ⟨_, hsb₁.extBut _ _ hDC (Heap.get?_push_of_some _ (hH2 ▸ Heap.get?_push_size _ rfl))⟩
  have fresh : ∀ a, s₂.heap.objs.size ≤ a → s₂.heap.get? a = none := fun a ha => Heap.get?_none_of_le ha
  have fI := fresh _ (Nat.le_refl s₂.heap.objs.size)
  have fD : s₂.heap.get? H1.objs.size = none := fresh _ (by rw [hS1]; exact Nat.le_succ _)
  have fC : s₂.heap.get? H2.objs.size = none := fresh _ (by rw [hC, hS1]; exact Nat.le_succ_of_le (Nat.le_succ _))
  have keepBut : ∀ {h h' : Heap} {x : Addr}, s₂.heap.get? x = none → Keep s₂.heap h → (∀ b o, b ≠ x → h.get? b = some o → h'.get? b = some o) → Keep s₂.heap h' := fun fx k e b o q => e b o (fun z => by rw [z, fx] at q; cases q) (k b o q)
  -- objects made, off the three
  let OB : Heap → List (Addr × Obj) → Prop := fun h ob => ∀ q ∈ ob, h.get? q.1 = some q.2 ∧ s₂.heap.get? q.1 = none ∧ q.1 ≠ s₂.heap.objs.size ∧ q.1 ≠ H1.objs.size ∧ q.1 ≠ H2.objs.size
  have obBut : ∀ {h h' : Heap} {ob : List (Addr × Obj)} {x : Addr}, (x = s₂.heap.objs.size ∨ x = H1.objs.size ∨ x = H2.objs.size) → OB h ob → (∀ b o, b ≠ x → h.get? b = some o → h'.get? b = some o) → OB h' ob := fun hx k e q hq => by
    obtain ⟨a1, a2, a3, a4, a5⟩ := k q hq
    exact ⟨e _ _ (by rcases hx with rfl | rfl | rfl <;> assumption) a1, a2, a3, a4, a5⟩
  have obK : ∀ {h h' : Heap} {ob : List (Addr × Obj)}, OB h ob → Keep h h' → OB h' ob := fun k e q hq => ⟨e _ _ (k q hq).1, (k q hq).2⟩
  have loop : ∀ s₃ : Shared, s₃ = { s₂ with heap := h₁, toks := s₂.toks + ([] : List (Str × Value)).length } →
      codeAny (model prog w) A (.compLoop (.ListComp elt [⟨.Name a pa, iter, c?.toList, 0⟩] scope pos) 0 (.ref s₂.heap.objs.size) (.ref H1.objs.size) (compEnvC scope cl H2.objs.size env))
        (compPost (model prog w) A E use Q (.ref H1.objs.size) H2.objs.size) s₃ := by
    rintro s₃ rfl
    refine abs2 (fun k s' => ∃ h' tk i ys m' ob, s' = { s₂ with heap := h', toks := tk } ∧ i ≤ n ∧ k = n + 1 - i ∧ IsRangeIter h' s₂.heap.objs.size (0 + ((i : Nat) : Int) * 1) ((n : Int) - ((i : Nat) : Int)) 1 ∧ h'.Ns H2.objs.size m' ∧ h'.PlainList H1.objs.size ys ∧ All2 (F ob) ((List.range i).filter p) ys.toList ∧ Keep s₂.heap h' ∧ OB h' ob) fun I hI1 hI2 => ?_
    refine pr_loop I ?_ (n + 1) (hI2 _ _
      ⟨h₁, _, 0, #[], _, [], rfl, Nat.zero_le _, rfl, old _ _ hit1, hns₁, hacc, by simpa using All2.nil, fun b o e => old b o (k1 b o e), fun q hq => by cases hq⟩)
    intro k s' E' hx4'
    refine ex6_9 (hI1 _ _ hx4') ?_
    clear hx4'
    intro h' tk i ys m' ob eq5' hi eq6' hit hn hd hF hk hob
    subst eq5'
    by_cases hlt : i < n
    · refine W.item i _ _ _ hlt hit fun v h₂ tk₂ hv hit₂ hs₂ => ?_
      refine ex1_1 hv ?_
      clear hv
      intro tv eq3'
      subst eq3'
      have hs₂ : ∀ b o, b ≠ s₂.heap.objs.size → h'.get? b = some o → h₂.get? b = some o := fun b o hb e => hs₂ b o (by simpa using hb) e
      have k2 := keepBut fI hk hs₂
      refine wpAny_of_eq (rfl : letOwnedTupleGo (.Name a pa) _ _ = pure ()) ?_
      refine wpAny_assign_Name (wpAny_storeName_local (env := compEnvC scope cl H2.objs.size env) (lookup_relabel_local hxa) (hn.at' fun o e => hs₂ _ o (Ne.symm hIC) e) (fun h₃ hn₃ hsb₃ => ?_) (by simp [compEnvC, relabel, hkind]))
      have hs₃ := hsb₃.extBut
      have hs₃ : ∀ b o, b ≠ H2.objs.size → h₂.get? b = some o → h₃.get? b = some o := hs₃
      have k3 := keepBut fC k2 hs₃
      have ei : (0 + (i : Int) * 1) = (i : Int) := by omega
      rw [ei] at hn₃
      refine htst _ i tv _ _ E' _ hlt hn₃ (by simp) k3 fun s₄ hk₄ => ?_
      obtain ⟨h₄, tk₄, rfl, hk₄⟩ := hk₄
      have hit₄ := hk₄ _ _ (hs₃ _ _ hIC hit₂)
      have hd₄ : h₄.PlainList H1.objs.size ys := ((hd.at fun o e => hs₂ _ o (Ne.symm hID) e).at fun o e => hs₃ _ o hDC e).at fun o e => hk₄ _ o e
      have hn₄ := hn₃.at' fun o e => hk₄ _ o e
      have k4 : Keep s₂.heap h₄ := fun b o e => hk₄ b o (k3 b o e)
      have ob4 : OB h₄ ob := obK (obBut (.inr (.inr rfl)) (obBut (.inl rfl) hob hs₂) hs₃) hk₄
      cases hpq : p i with
      | false =>
        simp only [Bool.false_eq_true, if_false]
        exact ⟨n + 1 - (i + 1), by omega, hI2 _ _ ⟨h₄, tk₄, i + 1, ys, _, ob, rfl, hlt, rfl, hit₄, hn₄, hd₄, by rw [List.range_succ, List.filter_append]; simpa [hpq] using hF, k4, ob4⟩⟩
      | true =>
        simp only [if_true]
        refine wpAny_mono (helt _ i tv _ _ E' hlt hpq hn₄ (by simp) k4) (fun y s₅ h₅ => ?_) fun _ _ e => e
        refine ex1_3 h₅ ?_
        clear h₅
        intro o5 hFy hx1' hm5
        obtain ⟨h₅, tk₅, eq2', hk₅⟩ := hx1'
        subst eq2'
        have hsz : ys.size ≤ sizeLine := by
          have e1 : ys.size = ((List.range i).filter p).length := by rw [← Array.length_toList]; exact hF.length.symm
          have e2 : ((List.range i).filter p).length ≤ (List.range i).length := List.length_filter_le _ _
          rw [List.length_range] at e2
          rw [sizeLine_eq]; omega
        refine wpAny_list_append_plain (hsz := hsz) (hd₄.at fun o e => hk₅ _ o e) fun h₆ hd₆ hs₆ => ?_
        have ob5 : OB h₅ (o5 ++ ob) := fun q hq => by
          rcases List.mem_append.mp hq with hq | hq
          · obtain ⟨a1, a2⟩ := hm5 q hq
            dsimp only at a1 a2
            have ne : ∀ {x : Addr} {ox : Obj}, h₄.get? x = some ox → q.1 ≠ x := fun e z => by rw [z, e] at a2; cases a2
            refine ⟨a1, ?_, ne hit₄, ?_, ?_⟩
            · cases z : s₂.heap.get? q.1 with
              | none => rfl
              | some oz => have := k4 _ _ z; rw [a2] at this; cases this
            · obtain ⟨_, e⟩ := hd₄; exact ne e
            · obtain ⟨_, _, _, e, _⟩ := hn₄; exact ne e
          · exact obK ob4 hk₅ q hq
        refine ⟨n + 1 - (i + 1), by omega, hI2 _ _ ⟨h₆, tk₅, i + 1, ys.push y, _, o5 ++ ob, rfl, hlt, rfl, hs₆.extBut _ _ hID (hk₅ _ _ hit₄), (hn₄.at' fun o e => hk₅ _ o e).at' fun o e => hs₆.extBut _ o (Ne.symm hDC) e, hd₆, ?_, keepBut fD (fun b o e => hk₅ b o (k4 b o e)) hs₆.extBut, obBut (.inr (.inl rfl)) ob5 hs₆.extBut⟩⟩
        rw [List.range_succ, List.filter_append]
        have : List.filter p [i] = [i] := by simp [hpq]
        rw [this, Array.toList_push]
        exact (hF.mono fun _ _ x => hmono _ _ _ _ (fun q hq => List.mem_append_right _ hq) x).snoc (hmono _ _ _ _ (fun q hq => List.mem_append_left _ hq) hFy)
    · have hin : i = n := by omega
      rw [hin] at hit hF
      refine W.done _ _ _ hit fun h₂ tk₂ he₂ => ?_
      have he₂ : ∀ b o, b ≠ s₂.heap.objs.size → h'.get? b = some o → h₂.get? b = some o := fun b o hb e => he₂ b o (by simpa using hb) e
      have k2 := keepBut fI hk he₂
      obtain ⟨nn, hnn⟩ := hd.at fun o e => he₂ _ o (Ne.symm hID) e
      have ob3 : OB h₂ ob := obBut (.inl rfl) hob he₂
      refine hQ H1.objs.size H2.objs.size h₂ _ m' ys nn ob (fun q hq => ?_) hF k2 (hn.at' fun o e => he₂ _ o (Ne.symm hIC) e) fC fun q hq => ?_
      · rcases List.mem_cons.mp hq with rfl | hq
        · exact ⟨hnn, fD⟩
        · exact ⟨(ob3 q hq).1, (ob3 q hq).2.1⟩
      · rcases List.mem_cons.mp hq with rfl | hq
        · exact hDC
        · exact (ob3 q hq).2.2.2.2
  exact codeAny_compStart_list (loop _ rfl) (wpAny_pyIter_rangeiter (old _ _ hit1) (loop _ rfl))
theorem comp_rng {env : Env} {elt iter : PySem.Expr} {c? : Option PySem.Expr} {a : Str} {pa : Pos} {scope : Scope} {cl : List (Str × Addr)} {pos : Pos} {Q : Value → Shared → Prop} {n : Nat} (p : Nat → Bool) (F : List (Addr × Obj) → Nat → Value → Prop)
    (hmono : ∀ o o' i y, (∀ q ∈ o, q ∈ o') → F o i y → F o' i y)
    (hh : A.handled = none) (hclos : closureFor scope env = pure cl) (hcell : ∀ y ∈ scope.names, y.2 ≠ .cell) (hkind : scope.kind = .function)
    (hnames : ∀ y ∈ scope.names, y.2 = .local → scope.names.lookup y.1 = some .local) (hxa : scope.names.lookup a = some .local) (hlen : n ≤ 100000)
    (h : wpAny (model prog w) A (eval iter env) (fun xv s₂ => ∃ r t u v, xv = .ref r ∧ IsRange s₂.heap r 0 (n : Int) 1 t u v ∧
      (∀ C i t s₃ m₃ E' (K : Bool → Shared → Prop), i < n → s₃.heap.Ns C m₃ → m₃ a = some (.int (i : Nat) t) → Keep s₂.heap s₃.heap → (∀ s₄, Keeps s₃ s₄ → K (p i) s₄) → tst (model prog w) A c? (compEnvC scope cl C env) K E' s₃) ∧
      (∀ C i t s₃ m₃ E', i < n → p i = true → s₃.heap.Ns C m₃ → m₃ a = some (.int (i : Nat) t) → Keep s₂.heap s₃.heap → wpAny (model prog w) A (eval elt (compEnvC scope cl C env)) (fun y s₄ => ∃ o, F o i y ∧ Keeps s₃ s₄ ∧ Made s₃.heap s₄.heap o) E' s₃) ∧
      (∀ D h' tk ys (nn : Nat) (ob : List (Addr × Obj)), Made s₂.heap h' ((D, listOf ys nn) :: ob) → All2 (F ob) ((List.range n).filter p) ys.toList → Keep s₂.heap h' → Q (.ref D) { s₂ with heap := h', toks := tk })) E s)
    (hs : ∀ x, foldedSetIterable iter env x = pure x := by intro _; rfl) :
    wpAny (model prog w) A (eval (.ListComp elt [⟨.Name a pa, iter, c?.toList, 0⟩] scope pos) env) Q E s := by
  rw [eval_ListComp]
  refine comp_rngU p F hmono hh hclos hcell hkind hnames hxa hlen (wpAny_mono h (fun xv s₂ h₂ => ?_) fun _ _ e => e) hs
  refine ex4_5 h₂ ?_
  clear h₂
  intro r t u v e hr htst helt hQ
  refine ⟨r, t, u, v, e, hr, htst, helt, fun D C h' tk m' ys nn ob hM hA hk hn hC hoff => ⟨m', hn, fun h₃ hs₃ => ?_⟩⟩
  have up : ∀ b o, b ≠ C → h'.get? b = some o → h₃.get? b = some o := hs₃.extBut
  exact hQ D h₃ tk ys nn ob (fun q hq => ⟨up _ _ (hoff q hq) (hM q hq).1, (hM q hq).2⟩) hA fun b o e => up b o (fun q => by rw [q, hC] at e; cases e) (hk b o e)
/-- the same, stored in a local name -/
theorem asg_rng {y : Str} {py spos : Pos} {env : Env} {elt iter : PySem.Expr} {c? : Option PySem.Expr} {a : Str} {pa : Pos} {scope : Scope} {cl : List (Str × Addr)} {pos : Pos} {Q : Flow → Shared → Prop} {n : Nat} (p : Nat → Bool) (F : List (Addr × Obj) → Nat → Value → Prop)
    (hmono : ∀ o o' i y, (∀ q ∈ o, q ∈ o') → F o i y → F o' i y)
    (hsw : swapsWith (.ListComp elt [⟨.Name a pa, iter, c?.toList, 0⟩] scope pos) (some (.Name y py)) spos.line env = pure true)
    (hy : env.kindOf y = some .local) (hp : (env.scope.kind == .class || (env.scope.kind == .module && env.locals != env.globals)) = false)
    (hh : A.handled = none) (hclos : closureFor scope env = pure cl) (hcell : ∀ y ∈ scope.names, y.2 ≠ .cell) (hkind : scope.kind = .function)
    (hnames : ∀ y ∈ scope.names, y.2 = .local → scope.names.lookup y.1 = some .local) (hxa : scope.names.lookup a = some .local) (hlen : n ≤ 100000)
    (h : wpAny (model prog w) A (eval iter env) (fun xv s₂ => ∃ r t u v m, xv = .ref r ∧ s₂.heap.Ns env.locals m ∧ IsRange s₂.heap r 0 (n : Int) 1 t u v ∧
      (∀ C i t s₃ m₃ E' (K : Bool → Shared → Prop), i < n → s₃.heap.Ns C m₃ → m₃ a = some (.int (i : Nat) t) → Keep s₂.heap s₃.heap → (∀ s₄, Keeps s₃ s₄ → K (p i) s₄) → tst (model prog w) A c? (compEnvC scope cl C env) K E' s₃) ∧
      (∀ C i t s₃ m₃ E', i < n → p i = true → s₃.heap.Ns C m₃ → m₃ a = some (.int (i : Nat) t) → Keep s₂.heap s₃.heap → wpAny (model prog w) A (eval elt (compEnvC scope cl C env)) (fun y s₄ => ∃ o, F o i y ∧ Keeps s₃ s₄ ∧ Made s₃.heap s₄.heap o) E' s₃) ∧
      (∀ D h' tk ys (nn : Nat) (ob : List (Addr × Obj)), Made s₂.heap h' ((D, listOf ys nn) :: ob) → All2 (F ob) ((List.range n).filter p) ys.toList → h'.Ns env.locals (fun z => if z = y then some (.ref D) else m z) → (∀ b o, b ≠ env.locals → s₂.heap.get? b = some o → h'.get? b = some o) → Q .next { s₂ with heap := h', toks := tk })) E s)
    (hs : ∀ x, foldedSetIterable iter env x = pure x := by intro _; rfl) :
    wpAny (model prog w) A (exec (.Assign [.Name y py] (.ListComp elt [⟨.Name a pa, iter, c?.toList, 0⟩] scope pos) spos) env) Q E s := by
  rw [exec_Assign_Name_used _ _ _ _ hsw]
  refine wpAny_bind (wpAny_standAt (wpAny_bind ?_))
  show wpAny _ A (do let _ ← comprehension (.ListComp elt [⟨.Name a pa, iter, c?.toList, 0⟩] scope pos) scope env _ (newList []) false (eval iter env) (some (assign (.Name y py) env))) _ _ s
  refine wpAny_bind (wpAny_mono (comp_rngU (use := some (assign (.Name y py) env)) (Q := fun _ s' => Q .next s') p F hmono hh hclos hcell hkind hnames hxa hlen (wpAny_mono h (fun xv s₂ h₂ => ?_) fun _ _ e => e) hs) (fun _ s' hq => wpAny_pure (wpAny_pure hq)) fun _ _ e => e)
  refine ex5_6 h₂ ?_
  clear h₂
  intro r t u v m e hm hr htst helt hQ
  refine ⟨r, t, u, v, e, hr, htst, helt, fun D C h' tk m' ys nn ob hM hA hk hn hC hoff => ?_⟩
  have hLC : env.locals ≠ C := by rintro q; obtain ⟨o, _, _, ho, _⟩ := hm; rw [q, hC] at ho; cases ho
  have hLo : ∀ q ∈ (D, listOf ys nn) :: ob, q.1 ≠ env.locals := fun q hq z => by
    obtain ⟨o, _, _, ho, _⟩ := hm
    have := (hM q hq).2
    rw [z, ho] at this; cases this
  refine wpAny_assign_Name (wpAny_storeName_local hy (hm.keeps hk) (fun h₂ hn₂ hs₂ => ?_) hp)
  refine ⟨m', hn.sameBut hs₂ (Ne.symm hLC), fun h₃ hs₃ => ?_⟩
  refine hQ D h₃ _ ys nn ob (fun q hq => ⟨hs₃.extBut _ _ (hoff q hq) (hs₂.extBut _ _ (hLo q hq) (hM q hq).1), (hM q hq).2⟩) hA (hn₂.sameBut hs₃ hLC) fun b o hbL e =>
    hs₃.extBut b o (fun q => by rw [q, hC] at e; cases e) (hs₂.extBut b o hbL (hk b o e))
end
end
section
open PySem PySem.W PyProof.Rows PySem.Calls
set_option maxRecDepth 100000
set_option maxHeartbeats 8000000
set_option linter.unusedVariables false
theorem paired_eq : ∀ {as bs : List Value}, Paired (fun v y => y = v) as bs → bs = as
  | _, _, .nil => rfl
  | _, _, .cons h r => by rw [h, paired_eq r]
section
variable {prog : Program} {w : World} {A : Around} {E : Value → Shared → Prop} {s : Shared}
theorem comp_lst {env : Env} {iter c : PySem.Expr} {a : Str} {pa pe : Pos} {scope : Scope} {pos : Pos} {Q : Value → Shared → Prop} {l : Addr} {vs : List Value} (p : Value → Bool)
    (hh : A.handled = none) (hclos : closureFor scope env = pure []) (hcell : ∀ y ∈ scope.names, y.2 ≠ .cell) (hkind : scope.kind = .function)
    (hnames : ∀ y ∈ scope.names, y.2 = .local → scope.names.lookup y.1 = some .local) (hxa : scope.names.lookup a = some .local) (hlen : vs.length ≤ 100000) (hdb : (a == ("__debug__" : Str)) = false)
    (h : wpAny (model prog w) A (eval iter env) (fun xv s₂ => xv = .ref l ∧ s₂.heap.IsList l vs.toArray ∧
      (∀ C v s₃ m₃ E', v ∈ vs → s₃.heap.Ns C m₃ → m₃ a = some v → Keep s₂.heap s₃.heap → wpAny (model prog w) A (isTrue c (compEnvC scope [] C env) (eval c (compEnvC scope [] C env))) (fun ok s₄ => ok = p v ∧ Keeps s₃ s₄) E' s₃) ∧
      (∀ D h' tk nn, Made s₂.heap h' [(D, listOf (List.toArray (vs.filter p)) nn)] → Keep s₂.heap h' → Q (.ref D) { s₂ with heap := h', toks := tk })) E s)
    (hs : ∀ x, foldedSetIterable iter env x = pure x := by intro _; rfl) :
    wpAny (model prog w) A (eval (.ListComp (.Name a pe) [⟨.Name a pa, iter, [c], 0⟩] scope pos) env) Q E s := by
  refine wpAny_ListComp_free p (fun v y => y = v) hclos hcell hkind hnames hxa (wpAny_mono h (fun xv s₂ h₂ => ?_) fun _ _ e => e) hs
  obtain ⟨rfl, hl, htst, hQ⟩ := h₂
  refine wpAny_pyIter_list hl ?_
  have hlt : l < s₂.heap.objs.size := by obtain ⟨o, ho, _⟩ := hl; exact Heap.lt_size ho
  have kp : Keep s₂.heap (s₂.heap.push { cls := .type "list_iterator", data := .fields #[.ref l, .int 0 0] }) := fun b o e => Heap.get?_push_of_some _ e
  have fI : s₂.heap.get? s₂.heap.objs.size = none := Heap.get?_none_of_le (Nat.le_refl _)
  have up : ∀ {h3 : Heap}, (∀ b o, b ∉ [s₂.heap.objs.size] → (s₂.heap.push { cls := .type "list_iterator", data := .fields #[.ref l, .int 0 0] }).get? b = some o → h3.get? b = some o) → Keep s₂.heap h3 := fun e b o q => e b o (by rw [List.mem_singleton]; exact Nat.ne_of_lt (Heap.lt_size q)) (kp b o q)
  refine ⟨_, _, _, _, _, _, rfl, Walks.list hh s₂.heap.objs.size l (Nat.ne_of_lt hlt) vs.toArray, by rw [List.size_toArray, sizeLine_eq]; omega, ⟨⟨_, Heap.get?_push_size _ rfl, rfl, rfl⟩, hl.at fun o e => kp _ o e⟩, ?_, ⟨?_, ?_⟩, ?_⟩
  · intro b hb
    rw [Heap.size_push]
    rcases List.mem_cons.mp hb with rfl | hb
    · exact Nat.lt_succ_self _
    · rw [List.mem_singleton.mp hb]; exact Nat.lt_succ_of_lt hlt
  · intro C i v s₃ m₃ E' _ hP hn hm hk _
    exact wpAny_tests_one (htst C v s₃ m₃ E' (by have : vs[i]? = some v := by simpa using hP
                                                 exact List.mem_of_getElem? this) hn hm (up hk))
  · intro C i v s₃ m₃ E' _ hP _ hn hm hk _
    exact wpAny_Name (wpAny_loadName_local (by simp [compEnvC, relabel, hkind]) (lookup_relabel_local hxa) hn hm ⟨rfl, s₃.heap, s₃.toks, rfl, fun _ _ e => e⟩) hdb
  · intro D h' tk ys vs' hD hL hpl hlen' hP' hF hk
    have hv : vs' = vs := by
      apply List.ext_getElem?
      intro j
      cases q : vs'[j]? with
      | some v => have := hP' j v q; simpa using this.symm
      | none =>
        rw [List.getElem?_eq_none_iff] at q
        rw [List.size_toArray] at hlen'
        rw [eq_comm, List.getElem?_eq_none_iff]; omega
    subst hv
    have e := paired_eq hF
    obtain ⟨nn, hnn⟩ := hpl
    refine hQ D h' tk nn (fun q hq => ?_) (up hk)
    rw [List.mem_singleton.mp hq]
    refine ⟨?_, ?_⟩
    · show h'.get? D = some (listOf (List.toArray (List.filter p vs')) nn)
      rw [← e, Array.toArray_toList]; exact hnn
    · cases z : s₂.heap.get? D with
      | none => rfl
      | some o => have := kp _ _ z; rw [hD] at this; cases this
end
end
section
open PySem PySem.W PyProof.Rows PySem.Calls
set_option maxRecDepth 100000
set_option maxHeartbeats 8000000
set_option linter.unusedVariables false
def SignAt (v : Value) (c : Nat) : Prop := ∃ t, v = .str (st [c]) t
theorem signs_strs {vs : List Value} {ns : List Nat} (h : All2 SignAt vs ns) : StrsAre vs (ns.map fun c => st [c]) := by
  induction h with
  | nil => exact .nil
  | cons h _ ih => obtain ⟨t, rfl⟩ := h; exact .cons _ _ ih
theorem join_codes : ∀ (ns : List Nat), Str.join (st []) (ns.map fun c => st [c]) = st ns
  | [] => rfl
  | [c] => rfl
  | c :: d :: r => by
    have ih := join_codes (d :: r)
    show st [c] ++ st [] ++ Str.join (st []) ((d :: r).map fun c => st [c]) = _
    rw [ih, st_add, st_add]; rfl
theorem glued_signs (ns : List Nat) : Txt.join (Str.ofString "") (ns.map fun c => st [c]) = st ns := by
  show Builtin.Str.glued (Str.ofString "") _ = _
  rw [StrLaws.glued_eq_join, show Str.ofString "" = st [] by decide +kernel]
  exact join_codes ns
theorem sum_ones (ns : List Nat) : ((ns.map fun c => st [c]).map (·.length)).sum = ns.length := by
  induction ns with
  | nil => rfl
  | cons c r ih => simp only [List.map_cons, List.sum_cons, ih, List.length_cons, st_len]; simp; omega
theorem join_signs {prog : Program} {w : World} {A : Around} {E : Value → Shared → Prop} {s : Shared} {t : Tok} {Q : Value → Shared → Prop} {D : Addr} {vs : List Value} {ns : List Nat} (hl : s.heap.IsList D vs.toArray) (hs : All2 SignAt vs ns) (hn : ns.length ≤ 1000)
    (h : ∀ t' k, Q (.str (st ns) t') { s with toks := k }) : wpAny (model prog w) A (call (.builtin "str.join") [.str (Str.ofString "") t, .ref D]) Q E s := by
  refine join_list hl (signs_strs hs) ?_ (fun t' k => by rw [glued_signs]; exact h t' k)
  rw [sum_ones, List.length_map, show (Str.ofString "").length = 0 by decide +kernel]; omega
end
section
open PySem PySem.W PyProof.Rows PySem.Calls
set_option maxRecDepth 100000
set_option maxHeartbeats 8000000
set_option linter.unusedVariables false
theorem app_int {prog : Program} {w : World} {A : Around} {E : Value → Shared → Prop} {s : Shared} {h₀ : Heap} {L D : Addr} {m : Str → Option Value} {news : List (Addr × Obj)} {its : List Value} {n : Nat} {z : Int} {t : Tok} {Q : Value → Shared → Prop} (F : Fr h₀ L s.heap m) (N : News h₀ L s.heap news) (hm : (D, listOf its.toArray n) ∈ news) (hsz : its.length ≤ 100000)
    (h : ∀ h' n' tg, Fr h₀ L h' m → News h₀ L h' ((D, listOf (its ++ [Value.int z tg]).toArray n') :: news.filter (fun p => p.1 != D)) → Q .none { s with heap := h' }) :
    wpAny (model prog w) A (call (.builtin "list.append") [.ref D, .int z t]) Q E s :=
  app_news F N hm (by simpa using hsz) fun h' n' F N => h h' n' t F (by rwa [List.push_toArray] at N)
theorem news_ne {h₀ h : Heap} {L : Addr} {news : List (Addr × Obj)} (N : News h₀ L h news) {p q : Addr × Obj} (hp : p ∈ news) (hq : q ∈ news) (hne : p.2 ≠ q.2) : p.1 ≠ q.1 := fun e => hne (Option.some.inj ((N p hp).1.symm.trans (e ▸ (N q hq).1)))
theorem ahead_of {ns : List Nat} {c pl : Nat} (h : pl ≤ ns.length) : ((List.range pl).filter (fun i => decide (ns.getD i 0 ≤ c))).length = aheadF ns c pl := by
  unfold aheadF
  have e : ns.take pl = (List.range pl).map (fun i => ns.getD i 0) := by
    apply List.ext_getElem?
    intro i
    rw [List.getElem?_take, List.getElem?_map]
    by_cases hi : i < pl
    · rw [if_pos hi, List.getElem?_range hi, List.getElem?_eq_getElem (by lia)]
      simp [List.getD_eq_getElem?_getD, List.getElem?_eq_getElem (show i < ns.length by lia)]
    · rw [if_neg hi, List.getElem?_eq_none (by simp; lia)]; rfl
  rw [e, List.filter_map, List.length_map]; rfl
theorem cell_news {M : Model} {A : Around} {E : Value → Shared → Prop} {s : Shared} {h₀ : Heap} {L : Addr} {m : Str → Option Value} {news : List (Addr × Obj)} {env : Env} {x : Str} {c : Addr} {o : Obj} {v₀ : Option Value} {v : Value} {Q : Unit → Shared → Prop} (F : Fr h₀ L s.heap m) (N : News h₀ L s.heap news) (hm : (c, o) ∈ news) (hd : o.data = .cell v₀)
    (hc : env.cells.lookup x = some c) (hk : env.scope.kind = .function) (hx : env.kindOf x = some .cell)
    (h : ∀ h' o', Fr h₀ L h' m → News h₀ L h' ((c, o') :: news.filter (fun p => p.1 != c)) → o'.data = .cell (some v) → Q () { s with heap := h' }) :
    wpAny M A (storeName env x v) Q E s := by
  have hD := N _ hm
  dsimp only at hD
  refine wpAny_storeName_cell hk hx hc ⟨o, hD.1, hd⟩ fun h' hv hs => ?_
  obtain ⟨o', ho', hd'⟩ := hv
  refine h h' o' ⟨F.ns.sameBut hs (Ne.symm hD.2.1), fun b o e => (hs.2 b fun q => ?_).trans (F.keep b o e), F.above⟩ (fun p hp => ?_) hd'
  · rw [q, hD.2.2] at e; cases e
  · rcases List.mem_cons.mp hp with rfl | hp
    · exact ⟨ho', hD.2⟩
    · obtain ⟨h1, h2⟩ := List.mem_filter.mp hp
      exact ⟨(hs.2 _ (by simpa using h2)).trans (N p h1).1, (N p h1).2⟩
def isTup (q : Addr × Obj) : Bool := match q.2.cls, q.2.data with | .type c, .seq _ _ => c == "tuple" | _, _ => false
theorem PairAt.tup {objs : List (Addr × Obj)} {v : Value} {p : Int × Int} (x : PairAt objs v p) : PairAt (objs.filter isTup) v p := by
  obtain ⟨a, t, u, n, e, h⟩ := x
  exact ⟨a, t, u, n, e, List.mem_filter.mpr ⟨h, by rfl⟩⟩
theorem isTup_cls {q : Addr × Obj} (h : isTup q = true) : q.2.cls = .type "tuple" := by
  unfold isTup at h
  split at h
  · rename_i c _ _ e _; rw [e]; simp at h; rw [h]
  · cases h
theorem isTup_dat {q : Addr × Obj} (h : isTup q = true) : ∃ xs n, q.2.data = .seq xs n := by
  unfold isTup at h
  split at h
  · rename_i c xs n _ e; exact ⟨xs, n, e⟩
  · cases h
def low (v : Value) : Bool := match v with | .str x _ => decide (x.cps.getD 0 0 < 128) | _ => false
theorem sign_low {vs : List Value} {ns : List Nat} (h : All2 SignAt vs ns) : All2 SignAt (vs.filter low) (ns.filter (· < 128)) := by
  induction h with
  | nil => exact .nil
  | @cons v c vs ns h _ ih =>
    obtain ⟨t, rfl⟩ := h
    have e : low (.str (st [c]) t) = decide (c < 128) := rfl
    rw [List.filter_cons, List.filter_cons, e]
    by_cases hc : c < 128
    · simp only [hc, decide_true, if_true]; exact .cons ⟨t, rfl⟩ ih
    · simp only [hc, decide_false, Bool.false_eq_true, if_false]; exact ih
theorem All2.swap {α β γ : Type} {R : β → γ → Prop} {g : α → γ} {as : List α} {bs : List β} (h : All2 (fun a b => R b (g a)) as bs) : All2 R bs (as.map g) := by
  induction h with
  | nil => exact .nil
  | cons h _ ih => exact .cons h ih
theorem pairs_nodup (ns : List Nat) (n : Nat) (p : Nat → Bool) : (((List.range n).filter p).map (fun i => (((ns.getD i 0 : Nat) : Int), ((i : Nat) : Int)))).Nodup := by
  rw [List.nodup_iff_pairwise_ne, List.pairwise_map]
  refine ((List.nodup_iff_pairwise_ne.mp List.nodup_range).filter _).imp fun {a b} hab e => hab ?_
  have := (Prod.mk.inj e).2
  lia
theorem order_of (ns : List Nat) {ys : List (Int × Int)} (hs : ys.Pairwise lexlt) (hm : ∀ q, q ∈ ys ↔ q ∈ ((List.range ns.length).filter (fun i => decide (127 < ns.getD i 0))).map (fun i => (((ns.getD i 0 : Nat) : Int), ((i : Nat) : Int)))) :
    Order ns (ys.map fun q => (q.1.toNat, q.2.toNat)) ∧ ∀ q ∈ ys, ∃ c i : Nat, q = ((c : Int), (i : Int)) ∧ i < ns.length := by
  have hq : ∀ q ∈ ys, ∃ i : Nat, i < ns.length ∧ 127 < ns.getD i 0 ∧ q = (((ns.getD i 0 : Nat) : Int), ((i : Nat) : Int)) := fun q h => by
    obtain ⟨i, hi, rfl⟩ := List.mem_map.mp ((hm q).mp h)
    have h2 := List.mem_filter.mp hi
    exact ⟨i, List.mem_range.mp h2.1, by simpa using h2.2, rfl⟩
  refine ⟨⟨?_, fun c i => ?_⟩, fun q h => ?_⟩
  · rw [List.pairwise_map]
    refine hs.imp_of_mem fun {a b} ha hb hab => ?_
    obtain ⟨i, _, _, rfl⟩ := hq a ha
    obtain ⟨j, _, _, rfl⟩ := hq b hb
    show _ ∨ _
    dsimp only [lexlt] at hab ⊢
    lia
  · rw [List.mem_map]
    constructor
    · rintro ⟨q, h, e⟩
      obtain ⟨j, hj, hc, rfl⟩ := hq q h
      obtain ⟨rfl, rfl⟩ := Prod.mk.inj e
      refine ⟨?_, by dsimp only; lia⟩
      dsimp only
      rw [Int.toNat_natCast, Int.toNat_natCast, List.getD_eq_getElem?_getD, List.getElem?_eq_getElem hj]; rfl
    · rintro ⟨h1, h2⟩
      have hi := (List.getElem?_eq_some_iff.mp h1).1
      have hg : ns.getD i 0 = c := by rw [List.getD_eq_getElem?_getD, h1]; rfl
      refine ⟨((c : Int), (i : Int)), (hm _).mpr (List.mem_map.mpr ⟨i, List.mem_filter.mpr ⟨List.mem_range.mpr hi, ?_⟩, ?_⟩), ?_⟩
      · rw [hg]; simp; lia
      · rw [hg]
      · simp
  · obtain ⟨i, hi, _, rfl⟩ := hq q h
    exact ⟨_, i, rfl, hi⟩
local macro_rules | `(tactic| walk_at "mine in") => `(tactic| (first | (with_reducible assumption) | (with_reducible exact List.mem_cons_self) | ((with_reducible refine List.mem_cons_of_mem _ ?_); walk_at "mine in") | ((with_reducible refine List.mem_append_left _ ?_); walk_at "mine in") | ((with_reducible refine List.mem_append_right _ ?_); walk_at "mine in")))
local macro_rules | `(tactic| walk_at "eval Name") => `(tactic| ((with_reducible show wpAny _ _ (eval (Expr.Name _ _) (compEnvC _ _ _ _)) _ _ _); first
  | (refine wpAny_Name (wpAny_loadName_local rfl rfl (by assumption) (by assumption) ?_))
  | (refine wpAny_Name (wpAny_loadName_cell rfl rfl rfl (by assumption) ?_))
  | (refine nmC (by assumption) (by assumption) (by assumption) (by k_is) (by boot_fast) (by decide) ?_ rfl rfl rfl rfl)))
local macro_rules | `(tactic| walk_at "mine steps") => `(tactic| (repeat' (first
  | (k_unfold; (try dsimp only))
  | ((fail_if_success (with_reducible show wpAny _ _ (eval (Expr.ListComp _ _ _ _) _) _ _ _)); (fail_if_success (with_reducible show wpAny _ _ (exec (Stmt.For _ _ _ _ _) _) _ _ _)); first | walk1 | (dsimp only; walk1)))))
local macro_rules | `(tactic| walk_at "subscriptTail Name Name ref int") => `(tactic| (refine item_list (by assumption) (by lia) (by lia) (by assumption) ?_))
local macro_rules | `(tactic| walk_at "subscriptTail") => `(tactic| ((with_reducible show wpAny _ _ (subscriptTail _ _ (Value.ref _) (Value.int _ _)) _ _ _); refine item_list (by assumption) (by lia) (by lia) (by assumption) ?_))
local macro_rules | `(tactic| walk_at "call builtin:ord") => `(tactic| ((with_reducible show wpAny _ _ (call (Value.builtin "ord") [Value.str (Str.mk (List.toArray [_])) _]) _ _ _); refine ord_of_char ?_))
local macro_rules | `(tactic| walk_at "mine stepsR") => `(tactic| (repeat' (first
  | (k_unfold; (try dsimp only))
  | ((fail_if_success (with_reducible show wpAny _ _ (call (Value.type "range") _) _ _ _)); (fail_if_success (with_reducible show wpAny _ _ (eval (Expr.ListComp _ _ _ _) _) _ _ _)); first | walk1 | (dsimp only; walk1)))))
theorem told_spec {w : World} {loose : List Str} {mean : ExcName → Option Value} {mg mb : Str → Option Value} {dp un : Nat} {gd : Option (List Code)} {fr : List Env} {s : Shared} {Q E : Value → Shared → Prop} {l : Addr} {vs : List Value} {ns : List Nat}
    (G : Gd w loose mean mg mb s.heap) (hd : dp + 1 < recursionLimit) (hu : un + 20 < cLine) (hl : s.heap.IsList l vs.toArray) (hsg : All2 SignAt vs ns) (hlen : ns.length ≤ 40) (hmax : ∀ c ∈ ns, c ≤ 1114111)
    (hret : ∀ T D t1 gv n h' tk' ps, Keep s.heap h' → Order ns ps → ps.length ≤ ns.length → IntsAre gv (gapsF ns (curF ns []).length 128 0 ps) →
      Made s.heap h' [(T, { cls := .type "tuple", data := .seq #[.str (st (curF ns [])) t1, .ref D] }), (D, listOf (List.toArray gv) n)] → Q (.ref T) { s with heap := h', toks := tk' }) :
    wpAny (model PySem.Challenge.rw_nq0080_01.row.prog w) (AA dp un gd fr) (call (.ref 75) [.ref l]) Q E s := by
  have X := G.X
  have T := G.T
  refine any_of_wpN (wpN_call ?_)
  refine' enterCN (binds := [(Str.ofString "signs", .ref l)]) X T.nolimit ?k8 ?k6 ?k7 ?k9 ?kB ?nd ?_ ?c2 ?c3 ?c4
  case k8 => (show _ < _; dsimp only; lia)
  case k6 => k_is
  case k7 => k_is
  case k9 => exact BindsTo.of_eq rfl
  case kB => exact rfl
  case nd => decide
  case c2 => exact rfl
  case c3 => exact rfl
  case c4 => exact rfl
  intro h₁ tk cells F Nw Y
  rw [bindL_c (by rfl), bindL_n] at F
  rw [bindC_c (by rfl), bindC_n] at Y
  refine ex2_3 (CellsAre.two Y) ?_
  clear Y
  intro oc2 oc1 eqc hoc2 hoc1
  subst eqc
  rw [if_neg (by decide)] at hoc2
  rw [if_pos rfl] at hoc1
  rw [show envOfC _ _ s.heap.objs.size 75 (.ref 74) = envX _ _ s.heap.objs.size 75 (.ref 74) [(Str.ofString "now", s.heap.objs.size + 1 + 1), (Str.ofString "signs", s.heap.objs.size + 1)] from rfl]
  have hvl : vs.length = ns.length := hsg.length
  refine wpN_leaf ?_
  walk_at "mine steps"
  rename Fr _ _ _ _ => F'; rename News _ _ _ _ => N'
  have sgn : ∀ i, i < ns.length → ∃ t, vs.toArray[i]? = some (.str (st [ns.getD i 0]) t) := fun i hi => by
    obtain ⟨c, hc, t, e⟩ := hsg.get (List.getElem?_eq_getElem (show i < vs.length by lia))
    refine ⟨t, ?_⟩
    rw [List.getElem?_toArray, List.getElem?_eq_getElem (show i < vs.length by lia), e, List.getD_eq_getElem?_getD, hc]; rfl
  refine comp_rng (c? := some _) (n := ns.length) (cl := [(Str.ofString "signs", s.heap.objs.size + 1)]) (fun i => decide (127 < ns.getD i 0)) (fun o i y => PairAt o y ((ns.getD i 0 : Nat), (i : Nat))) (fun o o' i y h1 h2 => h2.mono h1) rfl rfl (by decide) rfl (by decide) rfl (by lia) ?_
  walk_at "mine steps"
  refine len_listE (n := ns.length) (hl.at fun o e => F'.keep _ o e) (by simp [hvl]) (by lia) ?_
  refine wpAny_of_eq (a := []) rfl ?_
  refine call_range_1 ?_
  dsimp only
  have kpr : Keep h₁ (h₁.push { cls := .type "range", data := .fields #[.int 0 (tk + 1 + 1), .int (ns.length : Int) (tk + 1), .int 1 (tk + 1 + 1 + 1)] }) := fun b o e => Heap.get?_push_of_some _ e
  refine ⟨_, _, _, _, rfl, IsRange.new .., ?_, ?_, ?_⟩
  · intro C i t s₃ m₃ E' K hi hn ha hk h
    have kp3 : Keep s.heap s₃.heap := fun b o e => hk b o (kpr b o (F'.keep b o e))
    have hcell : s₃.heap.IsCell (s.heap.objs.size + 1) (some (.ref l)) := ⟨oc1, hk _ _ (kpr _ _ (N' (_, oc1) (by walk_at "mine in")).1), hoc1⟩
    have hls := hl.at fun o e => kp3 _ o e
    obtain ⟨t9, hit⟩ := sgn i hi
    have hit2 : vs.toArray[(i : Int).toNat]? = some (.str (st [ns.getD i 0]) t9) := by rw [Int.toNat_natCast]; exact hit
    clear F' N' hit
    obtain ⟨h3, g3, d3, k3, o3⟩ := s₃
    dsimp only at hn hk hcell kp3 hls
    show wpAny _ _ (isTrue _ _ _) _ _ _
    walk_at "mine steps"
    rw [show decide ((127 : Int) < (ns.getD i 0 : Nat)) = decide (127 < ns.getD i 0) by rw [decide_eq_decide]; lia]
    exact h _ ⟨h3, _, rfl, fun _ _ e => e⟩
  · intro C i t s₃ m₃ E' hi hp hn ha hk
    have kp3 : Keep s.heap s₃.heap := fun b o e => hk b o (kpr b o (F'.keep b o e))
    have hcell : s₃.heap.IsCell (s.heap.objs.size + 1) (some (.ref l)) := ⟨oc1, hk _ _ (kpr _ _ (N' (_, oc1) (by walk_at "mine in")).1), hoc1⟩
    have hls := hl.at fun o e => kp3 _ o e
    obtain ⟨t9, hit⟩ := sgn i hi
    have hit2 : vs.toArray[(i : Int).toNat]? = some (.str (st [ns.getD i 0]) t9) := by rw [Int.toNat_natCast]; exact hit
    clear F' N' hit
    obtain ⟨h3, g3, d3, k3, o3⟩ := s₃
    dsimp only at hn hk hcell kp3 hls
    walk_at "mine steps"
    refine wpAny_newTuple ?_
    exact ⟨[(h3.objs.size, _)], ⟨h3.objs.size, _, _, _, rfl, List.Mem.head _⟩, ⟨_, _, rfl, fun b o e => Heap.get?_push_of_some _ e⟩, fun p hp => by rw [List.mem_singleton.mp hp]; exact ⟨Heap.get?_push_size _ rfl, Heap.get?_none_of_le (Nat.le_refl _)⟩⟩
  · intro D h' tk' ys nn ob hM hA hk
    refine wpAny_of_eq (a := []) rfl ?_
    have F2 := fr_mv (fr_mv F' kpr) hk
    have N2 := news_made (fr_mv F' kpr) (news_mv (news_mv N' kpr) hk) hM
    clear F' N'
    refine sorted_pairs F2 N2 (l := D) (vs := ys.toList) ?_ ((All2.swap (g := fun i => (((ns.getD i 0 : Nat) : Int), ((i : Nat) : Int))) hA).mono fun y q x => x.mono fun q hq => List.mem_append_left _ (List.mem_cons_of_mem _ hq)) ?_ ?_ ?_ ?_
    · rw [Array.toArray_toList]; exact IsL.isList (N2 _ (List.mem_append_left _ (List.Mem.head _))).1
    · intro q hq
      obtain ⟨i, hi, rfl⟩ := List.mem_map.mp hq
      have := List.mem_range.mp (List.mem_filter.mp hi).1
      exact ⟨by show (0 : Int) ≤ (i : Nat); lia, by show ((i : Nat) : Int) < 64; lia⟩
    · exact pairs_nodup _ _ _
    · rw [← hA.length]
      have := List.length_filter_le (fun i => decide (127 < ns.getD i 0)) (List.range ns.length)
      rw [List.length_range] at this; lia
    · intro D2 c2 h4 out ys2 F4 N4 hA4 hS4 hM4 hL4
      have hO := order_of ns hS4 hM4
      clear F2 N2
      walk_at "mine steps"
      refine wpN_leaf ?_
      walk_at "mine steps"
      rename Fr _ _ _ _ => F'; rename News _ _ _ _ => N'
      refine comp_lst (l := l) (vs := vs) low rfl rfl (by decide) rfl (by decide) rfl (by lia) (by decide) ?_
      refine nameX_C N' rfl (o := oc1) (by walk_at "mine in") hoc1 ⟨rfl, hl.at fun o e => F'.keep _ o e, ?_, ?_⟩
      · intro C v s₃ m₃ E' hv hn ha hk
        have kp3 : Keep s.heap s₃.heap := fun b o e => hk b o (F'.keep b o e)
        obtain ⟨i, hi⟩ := List.getElem?_of_mem hv
        obtain ⟨c, hc, t9, rfl⟩ := hsg.get hi
        clear F' N'
        obtain ⟨h3, g3, d3, k3, o3⟩ := s₃
        dsimp only at hn hk kp3
        walk_at "mine steps"
        · show decide ((c : Int) < 128) = decide (c < 128)
          rw [decide_eq_decide]; lia
        · exact ⟨h3, _, rfl, fun _ _ e => e⟩
      · intro D5 h5 tk5 n5 M5 k5
        have F5 := fr_mv F' k5
        have N5 := news_made F' (news_mv N' k5) M5
        clear F' N'
        refine wpAny_of_eq (a := []) rfl ?_
        have hlow := sign_low hsg
        rw [← curF_nil] at hlow
        have hcl := curF_len ns []
        refine join_signs (vs := vs.filter low) (ns := curF ns []) (IsL.isList (N5 _ (List.mem_append_left _ (List.Mem.head _))).1) hlow (by lia) ?_
        intro t6 k6
        dsimp only
        walk_at "mine steps"
        refine wpN_leaf ?_
        walk_at "mine steps"
        refine wpN_leaf ?_
        walk_at "mine steps"
        rename Fr _ _ _ _ => F'; rename News _ _ _ _ => N'
        have hoN : out.length = ys2.length := hA4.length
        have hyn : ys2.length ≤ ns.length := by
          rw [hL4, List.length_map]
          have := List.length_filter_le (fun i => decide (127 < ns.getD i 0)) (List.range ns.length)
          rw [List.length_range] at this; exact this
        refine wpN_execs_cons (wpN_For (wpN_of_any ?_))
        walk_at "mine steps"
        rename Fr _ _ _ _ => F'; rename News _ _ _ _ => N'
        refine len_listE (IsL.isList (N' (D2, listOf (List.toArray out) c2) (by walk_at "mine in")).1) (n := ys2.length) (by simp [hoN]) (by lia) ?_
        refine wpAny_of_eq (a := []) rfl ?_
        refine call_range_1 ?_
        dsimp only
        have hA5 := hA4.mono fun y q x => PairAt.tup x
        obtain ⟨TB, hTB⟩ : ∃ TB, TB = List.filter isTup ((D, listOf ys nn) :: ob ++ [(s.heap.objs.size + 1 + 1, oc2), (s.heap.objs.size + 1, oc1)]) := ⟨_, rfl⟩
        refine' for_rng (σ := Addr × List Value × Nat × Obj × Int × Tok × Int × Tok) (n := ys2.length) rfl
          (fun i c => (c.1, listOf c.2.1.toArray c.2.2.1) :: (s.heap.objs.size + 1 + 1, c.2.2.2.1) :: (D2, listOf (List.toArray out) c2) :: (s.heap.objs.size + 1, oc1) :: TB)
          (fun i c => [("base", .str (st (curF ns [])) t6), ("order", .ref D2), ("gaps", .ref c.1), ("code", .int c.2.2.2.2.1 c.2.2.2.2.2.1), ("behind", .int c.2.2.2.2.2.2.1 c.2.2.2.2.2.2.2)])
          (fun i c => c.2.1.length = i ∧ (∃ v, c.2.2.2.1.data = .cell v) ∧ (0 < ys2.length → c.1 ≠ D2) ∧ ∃ gz, IntsAre c.2.1 gz ∧ gapsF ns (curF ns []).length 128 0 (ys2.map fun q => (q.1.toNat, q.2.toNat)) = gz ++ gapsF ns ((curF ns []).length + i) c.2.2.2.2.1 c.2.2.2.2.2.2.1 ((ys2.map fun q => (q.1.toNat, q.2.toNat)).drop i))
          ⟨_, [], 0, oc2, 128, _, 0, _⟩ (IsRange.new ..) (by lia) rfl rfl (fr_mv F' fun b o e => Heap.get?_push_of_some _ e) ?hN ?hk ?h0 ?hcls ?turn ?done
        case hk => kst_all
        case hN =>
          intro p hp
          refine (fun hm => ⟨Heap.get?_push_of_some _ (N' p hm).1, (N' p hm).2⟩ : p ∈ _ → _) ?_
          revert p hp
          refine all_cons ?_ (all_cons ?_ (all_cons ?_ (all_cons ?_ (fun p hp => ?_))))
          · exact List.mem_cons_of_mem _ (List.Mem.head _)
          · walk_at "mine in"
          · walk_at "mine in"
          · walk_at "mine in"
          · rw [hTB] at hp
            have := (List.mem_filter.mp hp).1
            exact List.mem_cons_of_mem _ (List.mem_cons_of_mem _ (List.mem_append_right _ (List.mem_cons_of_mem _ this)))
        case h0 =>
          refine ⟨rfl, ⟨_, hoc2⟩, fun hy => ?_, [], .nil, by simp⟩
          refine news_ne N' (List.mem_cons_of_mem _ (List.Mem.head _)) (q := (D2, listOf (List.toArray out) c2)) (by walk_at "mine in") fun e => ?_
          have e := congrArg Obj.data e
          have e : Data.seq #[] 0 = Data.seq (List.toArray out) c2 := e
          injection e with e
          have := congrArg Array.size e
          simp at this; lia
        case hcls =>
          refine fun i => prod8 fun Dg gv ng oN code tc bh tb => ?_
          intro hinv p hp
          obtain ⟨v, q2⟩ := hinv.2.1
          dsimp only at hp q2
          revert p hp
          refine all_cons ?_ (all_cons ?_ (all_cons ?_ (all_cons ?_ (fun p hp => ?_))))
          · exact .inl (by show Value.type "list" ≠ _; decide)
          · exact .inr ⟨v, q2⟩
          · exact .inl (by show Value.type "list" ≠ _; decide)
          · exact .inr ⟨_, hoc1⟩
          · rw [hTB] at hp
            exact .inl (by rw [isTup_cls (List.mem_filter.mp hp).2]; decide)
        case done =>
          clear F' N'
          refine prod8 fun Dg gv ng oN code tc bh tb => ?_
          intro u h tk9 hinv Fw Nw
          refine hide fun P hP => ?_
          obtain ⟨q1, q2, q0, gz, q3, q4⟩ := hinv
          refine hP ?_
          clear hP P
          dsimp only at q1 q2 q3 q4 Fw Nw
          refine wpN_leaf ?_
          walk_at "mine steps"
          rename Fr _ _ _ _ => F'; rename News _ _ _ _ => N'
          refine hret _ Dg t6 gv ng _ _ (ys2.map fun q => (q.1.toNat, q.2.toNat)) F'.keep hO.1 (by rw [List.length_map]; exact hyn) ?_ (made_of_news N' fun p hp => ?_)
          · rw [q4, List.drop_of_length_le (by rw [List.length_map]; exact Nat.le_refl _), gapsF, List.append_nil]; exact q3
          · rcases List.mem_cons.mp hp with rfl | hp
            · exact List.Mem.head _
            · rw [List.mem_singleton.mp hp]; exact List.mem_cons_of_mem _ (List.Mem.head _)
        case turn =>
          clear F' N'
          refine fun i tv => prod8 fun Dg gv ng oN code tc bh tb => ?_
          intro u h tk9 I io hin hinv hoff hic Fw Nw
          dsimp only at hinv hoff hic Fw Nw
          refine hide fun P hP => ?_
          obtain ⟨q1, ⟨vN, q2⟩, q0, gz, q3, q4⟩ := hinv
          obtain ⟨yv, hyv⟩ : ∃ y, out[i]? = some y := ⟨_, List.getElem?_eq_getElem (by lia)⟩
          obtain ⟨⟨c, pl⟩, hq, hpair⟩ := hA5.get hyv
          obtain ⟨c, pl, hcp, hpl⟩ := hO.2 _ (List.mem_of_getElem? hq)
          obtain ⟨rfl, rfl⟩ := Prod.mk.inj hcp
          obtain ⟨Tt, tt, uu, nt, rfl, hmT⟩ := hpair
          rw [← hTB] at hmT
          have hls2 : h.IsList D2 (List.toArray out) := IsL.isList (Nw (D2, listOf (List.toArray out) c2) (by walk_at "mine in")).1
          have hit2 : (List.toArray out)[(i : Int).toNat]? = some (.ref Tt) := by rw [Int.toNat_natCast, List.getElem?_toArray]; exact hyv
          have hTT := (Nw _ (List.mem_cons_of_mem _ (List.mem_cons_of_mem _ (List.mem_cons_of_mem _ (List.mem_cons_of_mem _ (List.mem_cons_of_mem _ hmT)))))).1
          dsimp only at hTT
          have mDg : (Dg, listOf gv.toArray ng) ∈ (I, io) :: (Dg, listOf gv.toArray ng) :: (s.heap.objs.size + 1 + 1, oN) :: (D2, listOf (List.toArray out) c2) :: (s.heap.objs.size + 1, oc1) :: TB := by walk_at "mine in"
          have mN : (s.heap.objs.size + 1 + 1, oN) ∈ (I, io) :: (Dg, listOf gv.toArray ng) :: (s.heap.objs.size + 1 + 1, oN) :: (D2, listOf (List.toArray out) c2) :: (s.heap.objs.size + 1, oc1) :: TB := by walk_at "mine in"
          have mD2 : (D2, listOf (List.toArray out) c2) ∈ (I, io) :: (Dg, listOf gv.toArray ng) :: (s.heap.objs.size + 1 + 1, oN) :: (D2, listOf (List.toArray out) c2) :: (s.heap.objs.size + 1, oc1) :: TB := by walk_at "mine in"
          have mC : (s.heap.objs.size + 1, oc1) ∈ (I, io) :: (Dg, listOf gv.toArray ng) :: (s.heap.objs.size + 1 + 1, oN) :: (D2, listOf (List.toArray out) c2) :: (s.heap.objs.size + 1, oc1) :: TB := by walk_at "mine in"
          have mT : ∀ p ∈ TB, p ∈ (I, io) :: (Dg, listOf gv.toArray ng) :: (s.heap.objs.size + 1 + 1, oN) :: (D2, listOf (List.toArray out) c2) :: (s.heap.objs.size + 1, oc1) :: TB := fun p hp => by walk_at "mine in"
          have tcls : ∀ p ∈ TB, p.2.cls = .type "tuple" := fun p hp => by rw [hTB] at hp; exact isTup_cls (List.mem_filter.mp hp).2
          have tdat : ∀ p ∈ TB, ∃ xs n, p.2.data = .seq xs n := fun p hp => by rw [hTB] at hp; exact isTup_dat (List.mem_filter.mp hp).2
          have gN : Dg ≠ s.heap.objs.size + 1 + 1 := news_ne Nw mDg mN fun e => by have e := congrArg Obj.data e; dsimp only at e; rw [q2] at e; cases e
          have d2N : D2 ≠ s.heap.objs.size + 1 + 1 := news_ne Nw mD2 mN fun e => by have e := congrArg Obj.data e; dsimp only at e; rw [q2] at e; cases e
          have tN : ∀ p ∈ TB, p.1 ≠ s.heap.objs.size + 1 + 1 := fun p hp => news_ne Nw (mT p hp) mN fun e => by
            have e := congrArg Obj.data e; obtain ⟨xs, n, z⟩ := tdat p hp; dsimp only at e; rw [q2, z] at e; cases e
          have gD2 : ∀ p ∈ TB, p.1 ≠ Dg := fun p hp => news_ne Nw (mT p hp) mDg fun e => by
            have e := congrArg Obj.cls e; rw [tcls p hp] at e; exact absurd e (by show Value.type "tuple" ≠ Value.type "list"; decide)
          have gD : Dg ≠ D2 := q0 (by lia)
          have cG : s.heap.objs.size + 1 ≠ Dg := news_ne Nw mC mDg fun e => by have e := congrArg Obj.data e; dsimp only at e; rw [hoc1] at e; cases e
          refine hP ?_
          refine wpN_leaf ?_
          walk_at "mine steps"
          rename Fr _ _ _ _ => F'; rename News _ _ _ _ => N'
          refine unpackN_ F' N' ⟨_, hTT, rfl, _, rfl⟩ rfl rfl rfl fun h6 F6 N6 => ?_
          clear F' N'
          refine assignInOrder_cons (wpAny_assign_Name (cell_news F6 N6 mN q2 rfl rfl rfl fun h7 oN' F7 N7 q2' => ?_))
          have N8 : News s.heap s.heap.objs.size h7 ((I, io) :: (Dg, listOf gv.toArray ng) :: (s.heap.objs.size + 1 + 1, oN') :: (D2, listOf (List.toArray out) c2) :: (s.heap.objs.size + 1, oc1) :: TB) := by
            intro p hp
            revert p hp
            refine all_cons ?_ (all_cons ?_ (all_cons ?_ (all_cons ?_ (all_cons ?_ (fun p hp => ?_)))))
            · exact N7 _ (mem_off (List.Mem.head _) (Ne.symm (hoff (s.heap.objs.size + 1 + 1, oN) (by walk_at "mine in"))) _)
            · exact N7 _ (mem_off mDg gN _)
            · exact N7 _ (List.Mem.head _)
            · exact N7 _ (mem_off mD2 d2N _)
            · exact N7 _ (mem_off mC (Nat.ne_of_lt (Nat.lt_succ_self _)) _)
            · exact N7 _ (mem_off (mT p hp) (tN p hp) _)
          clear N7 N6 F6
          refine assignInOrder_cons (wpAny_assign_Name (storeX_L F7 N8 fun h9 F9 N9 => ?_))
          refine assignInOrder_nil ?_
          clear F7 N8
          walk_at "mine steps"
          refine wpN_leaf ?_
          walk_at "mine steps"
          rename Fr _ _ _ _ => F'; rename News _ _ _ _ => N'
          refine comp_rng (c? := some _) (n := pl) (cl := [(Str.ofString "signs", s.heap.objs.size + 1), (Str.ofString "now", s.heap.objs.size + 1 + 1)]) (fun i => decide (ns.getD i 0 ≤ c)) (fun o i y => True) (fun o o' i y h1 h2 => h2) rfl rfl (by decide) rfl (by decide) rfl (by lia) ?_
          walk_at "mine stepsR"
          refine call_range_1 ?_
          dsimp only
          have kpr : ∀ o, Keep h9 (h9.push o) := fun o b o e => Heap.get?_push_of_some _ e
          refine ⟨_, _, _, _, rfl, IsRange.new .., ?_, ?_, ?_⟩
          · intro C j t s₃ m₃ E' K hi hn ha hk h
            have kp3 : Keep s.heap s₃.heap := fun b o e => hk b o (kpr _ b o (F'.keep b o e))
            have hcell : s₃.heap.IsCell (s.heap.objs.size + 1) (some (.ref l)) := ⟨oc1, hk _ _ (kpr _ _ _ (N' (_, oc1) (by walk_at "mine in")).1), hoc1⟩
            have hcellN : s₃.heap.IsCell (s.heap.objs.size + 1 + 1) (some (.int c tt)) := ⟨oN', hk _ _ (kpr _ _ _ (N' (_, oN') (by walk_at "mine in")).1), q2'⟩
            have hls := hl.at fun o e => kp3 _ o e
            obtain ⟨t9, hit⟩ := sgn j (by lia)
            have hit2 : vs.toArray[(j : Int).toNat]? = some (.str (st [ns.getD j 0]) t9) := by rw [Int.toNat_natCast]; exact hit
            clear F' N' hit
            obtain ⟨h3, g3, d3, k3, o3⟩ := s₃
            dsimp only at hn hk hcell hcellN kp3 hls
            show wpAny _ _ (isTrue _ _ _) _ _ _
            walk_at "mine steps"
            rw [show decide (((ns.getD j 0 : Nat) : Int) ≤ (c : Nat)) = decide (ns.getD j 0 ≤ c) by rw [decide_eq_decide]; lia]
            exact h _ ⟨h3, _, rfl, fun _ _ e => e⟩
          · intro C j t s₃ m₃ E' hi hp hn ha hk
            refine wpAny_Name (wpAny_loadName_local rfl rfl hn ha ?_)
            exact ⟨[], trivial, ⟨_, _, rfl, fun _ _ e => e⟩, List.forall_mem_nil _⟩
          · intro D h' tk' ys nn ob hM hA hk
            refine wpAny_of_eq (a := []) rfl ?_
            have F2 := fr_mv (fr_mv F' (kpr _)) hk
            have N2 := news_made (fr_mv F' (kpr _)) (news_mv (news_mv N' (kpr _)) hk) hM
            clear F' N'
            have hys : ys.size = aheadF ns c pl := by rw [← ahead_of (Nat.le_of_lt hpl), ← Array.length_toList]; exact hA.length.symm
            have hapl : aheadF ns c pl ≤ pl := by
              rw [← ahead_of (Nat.le_of_lt hpl)]
              have := List.length_filter_le (fun i => decide (ns.getD i 0 ≤ c)) (List.range pl)
              rw [List.length_range] at this; exact this
            refine len_listE (IsL.isList (N2 (D, listOf ys nn) (by walk_at "mine in")).1) hys (by lia) ?_
            walk_at "mine steps"
            refine wpN_leaf ?_
            walk_at "mine steps"
            rename Fr _ _ _ _ => F'; rename News _ _ _ _ => N'
            refine app_int F' N' (its := gv) (n := ng) (by walk_at "mine in") (by lia) fun h11 n11 tg F11 N11 => ?_
            have N12 : News s.heap s.heap.objs.size h11 ((I, io) :: (Dg, listOf (gv ++ [Value.int (((c : Int) - code) * ((curF ns []).length + i + 1) + aheadF ns c pl - bh) tg]).toArray n11) :: (s.heap.objs.size + 1 + 1, oN') :: (D2, listOf (List.toArray out) c2) :: (s.heap.objs.size + 1, oc1) :: TB) := by
              intro p hp
              revert p hp
              refine all_cons ?_ (all_cons ?_ (all_cons ?_ (all_cons ?_ (all_cons ?_ (fun p hp => ?_)))))
              · exact N11 _ (mem_off (by walk_at "mine in") (Ne.symm (hoff (Dg, listOf gv.toArray ng) (by walk_at "mine in"))) _)
              · exact N11 _ (List.Mem.head _)
              · exact N11 _ (mem_off (by walk_at "mine in") (Ne.symm gN) _)
              · exact N11 _ (mem_off (by walk_at "mine in") (Ne.symm gD) _)
              · exact N11 _ (mem_off (by walk_at "mine in") cG _)
              · exact N11 _ (mem_off (by walk_at "mine in") (gD2 p hp) _)
            clear F' N' N11
            refine wpN_leaf ?_
            walk_at "mine steps"
            rename Fr _ _ _ _ => F'; rename News _ _ _ _ => N'
            refine wpN_execs_nil ?_
            dsimp only [RPost]
            refine' rend ⟨Dg, gv ++ [Value.int (((c : Int) - code) * ((curF ns []).length + i + 1) + aheadF ns c pl - bh) tg], n11, oN', c, ?t1, (aheadF ns c pl : Nat) + 1, ?t2⟩ F' N' ?io ?led ?ps ⟨?len, ⟨_, q2'⟩, fun _ => gD, gz ++ [((c : Int) - code) * ((curF ns []).length + i + 1) + aheadF ns c pl - bh], ?all, ?eq⟩
            case ps => kst_all
            case io => walk_at "mine in"
            case led => intro p hp; exact List.mem_cons_of_mem _ (List.mem_cons_of_mem _ hp)
            case len => simp [q1]
            case all => exact intsAre_append q3 (.cons _ _ .nil)
            case eq =>
              rw [q4, getElem?_tail' (show (ys2.map fun q => (q.1.toNat, q.2.toNat))[i]? = some (c, pl) by rw [List.getElem?_map, hq]; simp), gapsF, List.append_assoc]
              rw [show ((i + 1 : Nat) : Int) = (i : Int) + 1 by lia, ← Int.add_assoc]; rfl
end
section
open PySem PySem.W PyProof.Rows PySem.Calls
set_option maxRecDepth 100000
set_option maxHeartbeats 8000000
set_option linter.unusedVariables false
/-- what a turn over a list leaves -/
def LEnd {σ : Type} (h₀ : Heap) (L : Addr) (s : Shared) (io : Addr × Obj) (Led : σ → List (Addr × Obj)) (ps : σ → List (Str × Value)) (P : σ → Prop) (s₂ : Shared) : Prop :=
  ∃ (c' : σ) (h' : Heap) (gs : Array GenState) (tk : Nat) (m' : Str → Option Value) (news' : List (Addr × Obj)), s₂ = { s with heap := h', gens := gs, toks := tk } ∧ AllBare gs ∧ Fr h₀ L h' m' ∧ News h₀ L h' news' ∧ io ∈ news' ∧ (∀ p ∈ Led c', p ∈ news' ∧ p.1 ≠ io.1) ∧ (∀ p ∈ ps c', m' p.1 = some p.2) ∧ P c'
def LPost {σ : Type} (h₀ : Heap) (L : Addr) (s : Shared) (io : Addr × Obj) (Led : σ → List (Addr × Obj)) (ps : σ → List (Str × Value)) (P : σ → Prop) (R : Flow → Shared → Prop) (f : Flow) (s₂ : Shared) : Prop :=
  match f with
  | .ret v => R (.ret v) s₂
  | .brk => R .next s₂
  | _ => LEnd h₀ L s io Led ps P s₂
section
variable {b : Bool} {prog : Program} {w : World} {A : Around} {s : Shared} {env : Env} {h₀ : Heap}
theorem lend {σ : Type} {L : Addr} {io : Addr × Obj} {Led : σ → List (Addr × Obj)} {ps : σ → List (Str × Value)} {P : σ → Prop} {m' : Str → Option Value} {h' : Heap} {gs : Array GenState} {tk : Nat} {news' : List (Addr × Obj)} (c' : σ)
    (hb : AllBare gs) (F : Fr h₀ L h' m') (N : News h₀ L h' news') (ho : io ∈ news') (hn : ∀ p ∈ Led c', p ∈ news' ∧ p.1 ≠ io.1) (hk : ∀ p ∈ ps c', m' p.1 = some p.2) (hp : P c') :
    LEnd h₀ L s io Led ps P { s with heap := h', gens := gs, toks := tk } := ⟨c', h', gs, tk, m', news', rfl, hb, F, N, ho, hn, hk, hp⟩
theorem for_lst {σ : Type} {R : Flow → Shared → Prop} {target : PySem.Expr} {body : List Stmt} {vs : List Value} {nl : Nat} {m₀ : Str → Option Value} {l : Addr}
    (hh : A.handled = none) (Led : Nat → σ → List (Addr × Obj)) (ps : Nat → σ → List (Str × Value)) (Inv : Nat → σ → Prop) (c₀ : σ)
    (hgo : ∀ I i v (s' : Shared) (Q : Unit → Shared → Prop) (E : Value → Shared → Prop), v ∈ vs → s'.heap.IsListIter I l i → Q () s' → wpAny (model prog w) A (letOwnedTupleGo target (.ref I) v) Q E s')
    (hB : AllBare s.gens) (hl : ∀ i c, (l, listOf vs.toArray nl) ∈ Led i c)
    (F : Fr h₀ env.locals s.heap m₀) (N : News h₀ env.locals s.heap (Led 0 c₀)) (hk : ∀ p ∈ ps 0 c₀, m₀ p.1 = some p.2) (h0 : Inv 0 c₀)
    (turn : ∀ i v c u h gs tk I io, vs[i]? = some v → Inv i c → AllBare gs → (∀ p ∈ Led i c, p.1 ≠ I) → io.cls = .type "list_iterator" → (∃ x z t, io.data = .fields #[x, .int z t]) →
      Fr h₀ env.locals h (kstB u (ps i c)) → News h₀ env.locals h ((I, io) :: Led i c) →
      wpN b (model prog w) A (assign target env v) (fun _ s₁ => wpN b (model prog w) A (execs body env) (LPost h₀ env.locals s (I, io) (Led (i + 1)) (ps (i + 1)) (Inv (i + 1)) R) s₁) { s with heap := h, gens := gs, toks := tk })
    (done : ∀ c u h gs tk, Inv vs.length c → AllBare gs → Fr h₀ env.locals h (kstB u (ps vs.length c)) → News h₀ env.locals h (Led vs.length c) → R .next { s with heap := h, gens := gs, toks := tk }) :
    wpN b (model prog w) A (pyIter (.ref l)) (fun it s₂ => codeN b (model prog w) A (.forLoop target it body [] env) R s₂) s := by
  have hls : s.heap.IsList l vs.toArray := IsL.isList (N _ (hl 0 c₀)).1
  refine wpN_of_any (wpAny_pyIter_list hls ?_)
  obtain ⟨I, hI⟩ : ∃ I, I = s.heap.objs.size := ⟨_, rfl⟩
  have hIn : s.heap.get? I = none := by rw [hI]; exact Heap.get?_none_of_le (Nat.le_refl _)
  have hlI : l ≠ I := fun e => by have := (N _ (hl 0 c₀)).1; dsimp only at this; rw [e, hIn] at this; cases this
  have hI0 : h₀.get? I = none := by
    cases q : h₀.get? I with
    | none => rfl
    | some o => have := F.keep _ _ q; rw [hIn] at this; cases this
  have hLI : env.locals ≠ I := fun e => by
    obtain ⟨o, _, _, ho, _⟩ := F.ns; rw [e, hIn] at ho; cases ho
  have W := Walks.list (prog := prog) (w := w) hh I l hlI vs.toArray
  rw [← hI]
  have kpI : Keep s.heap (s.heap.push { cls := .type "list_iterator", data := .fields #[.ref l, .int 0 0] }) := fun b o e => Heap.get?_push_of_some _ e
  refine abs2 (fun k s' => ∃ h' gs tk m' i c, s' = { s with heap := h', gens := gs, toks := tk } ∧ (h'.IsListIter I l i ∧ h'.IsList l vs.toArray) ∧ Fr h₀ env.locals h' m' ∧ News h₀ env.locals h' (Led i c) ∧ (∀ p ∈ Led i c, p.1 ≠ I) ∧ (∀ p ∈ ps i c, m' p.1 = some p.2) ∧ Inv i c ∧ AllBare gs ∧ i ≤ vs.length ∧ k = vs.length + 1 - i) fun Iv hv1 hv2 => ?_
  refine codeN_forLoop Iv ?_ (vs.length + 1) (hv2 _ _
    ⟨_, s.gens, s.toks, m₀, 0, c₀, rfl, ⟨⟨_, by rw [hI]; exact Heap.get?_push_size _ rfl, rfl, rfl⟩, hls.at fun o e => kpI _ _ e⟩, fr_mv F kpI, news_mv N kpI, ?_, hk, h0, hB, Nat.zero_le _, rfl⟩)
  · intro k s' hxx
    refine ex6_10 (hv1 _ _ hxx) ?_
    clear hxx
    intro h' gs tk m' i c eqs hst' F' N' hnw' hk' hJ hbg hi hkk
    subst eqs
    have next : ∀ h₁ : Heap, (∀ b o, b ∉ [I] → h'.get? b = some o → h₁.get? b = some o) → Fr h₀ env.locals h₁ m' ∧ News h₀ env.locals h₁ (Led i c) := fun h₁ hk₁ =>
      ⟨⟨F'.ns.at' fun o e => hk₁ _ o (by simpa using hLI) e, fun b o e => hk₁ b o (fun hb => by rw [List.mem_singleton.mp hb, hI0] at e; cases e) (F'.keep b o e), F'.above⟩, fun p hp => ⟨hk₁ _ _ (by simpa using hnw' p hp) (N' p hp).1, (N' p hp).2⟩⟩
    by_cases hlt : i < vs.length
    · refine wpN_of_any (W.item i _ _ _ (by simpa using hlt) hst' fun v h₁ tk₁ hP hst₁ hk₁ => ?_)
      obtain ⟨F₁, N₁⟩ := next h₁ hk₁
      have hv : vs[i]? = some v := by simpa using hP
      refine wpN_of_any (hgo I (i + 1) v _ _ _ (List.mem_of_getElem? hv) hst₁.1 ?_)
      obtain ⟨oI, hoI, hcI, hdI⟩ := hst₁.1
      have N₂ : News h₀ env.locals h₁ ((I, oI) :: Led i c) := fun p hp => by
        rcases List.mem_cons.mp hp with rfl | hp
        · exact ⟨hoI, Ne.symm hLI, hI0⟩
        · exact N₁ p hp
      have F₂ : Fr h₀ env.locals h₁ (kstB m' (ps i c)) := by rw [fr_kst2 (h := h₁) hk']; exact F₁
      refine wpN_mono (turn i v c m' h₁ gs tk₁ I oI hv hJ hbg hnw' hcI ⟨_, _, _, hdI⟩ F₂ N₂) fun _ s₂ h₂ => wpN_mono h₂ fun f s₃ h₃ => ?_
      have fin : LEnd h₀ env.locals s (I, oI) (Led (i + 1)) (ps (i + 1)) (Inv (i + 1)) s₃ → ∃ m, m < k ∧ Iv m s₃ := by
        rintro ⟨c', h₃', gs₃, tk₃, m₂, news₂, rfl, hb₃, F₃, N₃, ho₃, hn₃, hk₃, hJ₃⟩
        refine ⟨vs.length + 1 - (i + 1), by omega, hv2 _ _ ⟨h₃', gs₃, tk₃, m₂, i + 1, c', rfl, ⟨⟨oI, (N₃ _ ho₃).1, hcI, hdI⟩, IsL.isList (N₃ _ (hn₃ _ (hl _ _)).1).1⟩, F₃, fun p hp => N₃ p (hn₃ p hp).1, fun p hp => (hn₃ p hp).2, hk₃, hJ₃, hb₃, hlt, rfl⟩⟩
      cases f with
      | ret v => exact h₃
      | brk => exact h₃
      | next => exact fin h₃
      | cont => exact fin h₃
    · have hin : i = vs.length := by omega
      rw [hin] at hst' hJ hk'
      refine wpN_of_any (W.done _ _ _ (by simpa using hst') fun h₁ tk₁ hk₁ => ?_)
      obtain ⟨F₁, N₁⟩ := next h₁ hk₁
      rw [hin] at N₁
      exact done c m' h₁ gs tk₁ hJ hbg (by rw [fr_kst2 (h := h₁) hk']; exact F₁) N₁
  · intro p hp e
    have := (N p hp).1
    rw [e, hIn] at this; cases this
/-- the same, the turn's end a variable -/
theorem for_lstG {σ : Type} {R : Flow → Shared → Prop} {target : PySem.Expr} {body : List Stmt} {vs : List Value} {nl : Nat} {m₀ : Str → Option Value} {l : Addr}
    (hh : A.handled = none) (Led : Nat → σ → List (Addr × Obj)) (ps : Nat → σ → List (Str × Value)) (Inv : Nat → σ → Prop) (c₀ : σ)
    (hgo : ∀ I i v (s' : Shared) (Q : Unit → Shared → Prop) (E : Value → Shared → Prop), v ∈ vs → s'.heap.IsListIter I l i → Q () s' → wpAny (model prog w) A (letOwnedTupleGo target (.ref I) v) Q E s')
    (hB : AllBare s.gens) (hl : ∀ i c, (l, listOf vs.toArray nl) ∈ Led i c)
    (F : Fr h₀ env.locals s.heap m₀) (N : News h₀ env.locals s.heap (Led 0 c₀)) (hk : ∀ p ∈ ps 0 c₀, m₀ p.1 = some p.2) (h0 : Inv 0 c₀)
    (turn : ∀ i v c u h gs tk I io (G : Flow → Shared → Prop), (∀ (c' : σ) (h' : Heap) (gs' : Array GenState) (tk' : Nat) (m' : Str → Option Value) (news' : List (Addr × Obj)), AllBare gs' → Fr h₀ env.locals h' m' → News h₀ env.locals h' news' → (I, io) ∈ news' → (∀ p ∈ Led (i + 1) c', p ∈ news' ∧ p.1 ≠ I) → (∀ p ∈ ps (i + 1) c', m' p.1 = some p.2) → Inv (i + 1) c' → G .next { s with heap := h', gens := gs', toks := tk' }) →
      vs[i]? = some v → Inv i c → AllBare gs → (∀ p ∈ Led i c, p.1 ≠ I) → io.cls = .type "list_iterator" → (∃ x z t, io.data = .fields #[x, .int z t]) →
      Fr h₀ env.locals h (kstB u (ps i c)) → News h₀ env.locals h ((I, io) :: Led i c) →
      wpN b (model prog w) A (assign target env v) (fun _ s₁ => wpN b (model prog w) A (execs body env) G s₁) { s with heap := h, gens := gs, toks := tk })
    (done : ∀ c u h gs tk, Inv vs.length c → AllBare gs → Fr h₀ env.locals h (kstB u (ps vs.length c)) → News h₀ env.locals h (Led vs.length c) → R .next { s with heap := h, gens := gs, toks := tk }) :
    wpN b (model prog w) A (pyIter (.ref l)) (fun it s₂ => codeN b (model prog w) A (.forLoop target it body [] env) R s₂) s :=
  for_lst hh Led ps Inv c₀ hgo hB hl F N hk h0 (fun i v c u h gs tk I io h1 h2 h3 h4 h5 h6 h7 h8 => turn i v c u h gs tk I io _ (fun c' h' gs' tk' m' news' a1 a2 a3 a4 a5 a6 a7 => lend c' a1 a2 a3 a4 a5 a6 a7) h1 h2 h3 h4 h5 h6 h7 h8) done
end
end
section
open PySem PySem.W PyProof.Rows PySem.Calls
set_option maxRecDepth 100000
set_option maxHeartbeats 8000000
set_option linter.unusedVariables false
section
variable {prog : Program} {w : World} {A : Around} {E : Value → Shared → Prop} {s : Shared} {Q : Value → Shared → Prop}
theorem All2.append {α β : Type} {R : α → β → Prop} {as as' : List α} {bs bs' : List β} (h : All2 R as bs) (h' : All2 R as' bs') : All2 R (as ++ as') (bs ++ bs') := by
  induction h with
  | nil => exact h'
  | cons h _ ih => exact .cons h ih
theorem ints_mem {vs : List Value} {gs : List Int} (h : IntsAre vs gs) : ∀ v ∈ vs, ∃ z t, v = Value.int z t := by
  induction h with
  | nil => exact List.forall_mem_nil _
  | cons z t _ ih => 
    intro v hv
    rcases List.mem_cons.mp hv with rfl | hv
    · exact ⟨_, _, rfl⟩
    · exact ih v hv
theorem all2_of_items {xs : List Value} : ∀ {ns : List Nat}, xs.length = ns.length → (∀ (i : Nat) (v : Value), xs[i]? = some v → ∃ c t, ns[i]? = some c ∧ v = Value.str (st [c]) t) → All2 Mine.SignAt xs ns := by
  induction xs with
  | nil => intro ns h _; cases ns with
    | nil => exact .nil
    | cons _ _ => simp at h
  | cons v xs ih =>
    intro ns h hx
    cases ns with
    | nil => simp at h
    | cons c ns =>
      obtain ⟨c', t, e, rfl⟩ := hx 0 v (by simp)
      cases e
      exact .cons ⟨t, rfl⟩ (ih (by simpa using h) fun i v e => by simpa using hx (i + 1) v (by simpa using e))
theorem list_of_st {ns : List Nat} {t : Tok} (hh : A.handled = none) (hn : ns.length ≤ 1000)
    (h : ∀ h' tk vs c, Keep s.heap h' → Made s.heap h' [(s.heap.objs.size, listOf (List.toArray vs) c)] → All2 Mine.SignAt vs ns → Q (.ref s.heap.objs.size) { s with heap := h', toks := tk }) :
    wpAny (model prog w) A (call (.type "list") [.str (st ns) t]) Q E s := by
  refine call_list_str hh (st ns) t (fun h' tk acc' c' hk hS' hacc => ?_) (by show ns.toArray.size ≤ 2 ^ 24; simp; omega)
  refine h h' tk acc'.toList c' hk (fun p hp => ?_) (all2_of_items ?_ fun i v e => ?_)
  · rw [List.mem_singleton.mp hp]
    exact ⟨by rw [Array.toArray_toList]; exact hS', Heap.get?_none_of_le (Nat.le_refl _)⟩
  · have := hacc.1
    simpa [st] using this
  · obtain ⟨c, u, hc, rfl⟩ := hacc.2 i v (by simpa using e)
    exact ⟨c, u, by simpa [st] using hc, rfl⟩
theorem add_two {h₀ : Heap} {L l b : Addr} {m : Str → Option Value} {news : List (Addr × Obj)} {vs ws : List Value} (F : Fr h₀ L s.heap m) (N : News h₀ L s.heap news) (hl : s.heap.IsList l vs.toArray) (hb : s.heap.IsList b ws.toArray) (hsz : vs.length + ws.length ≤ 1000)
    (h : ∀ D h', Fr h₀ L h' m → News h₀ L h' ((D, listOf (List.toArray (vs ++ ws)) 0) :: news) → (∀ p ∈ news, p.1 ≠ D) → Q (.ref D) { s with heap := h' }) :
    wpAny (model prog w) A (binaryOp .Add (.ref l) (.ref b)) Q E s :=
  add_lists F N hl hb (fun h' F' N' => h _ h' F' N' (fresh_ne N (Heap.get?_none_of_le (Nat.le_refl _)))) (Nat.le_trans hsz (by decide))
theorem signs_carried {vs : List Value} {ns : List Nat} (h : All2 Mine.SignAt vs ns) : CarriedAll vs (ns.map fun c => PyData.str (st [c])) := by
  induction h with
  | nil => exact .nil
  | cons h _ ih => obtain ⟨t, rfl⟩ := h; exact .cons (.str _ t) ih
theorem signs_lay : ∀ ns : List Nat, (∀ c ∈ ns, c ≤ 1114111) → PyData.canLayAll0 (ns.map fun c => PyData.str (st [c])) = true
  | [], _ => rfl
  | c :: r, h => by
    have := signs_lay r fun c hc => h c (List.mem_cons_of_mem _ hc)
    have hc := h c (List.mem_cons_self ..)
    simp only [List.map_cons, PyData.canLayAll0, this, Bool.and_true, PyData.canLay0, PyData.strOk, st]
    simp; omega
theorem signs_depth : ∀ ns : List Nat, PyData.depthAll (ns.map fun c => PyData.str (st [c])) = 0
  | [] => rfl
  | c :: r => by simp [PyData.depthAll, PyData.depth, signs_depth r]
theorem signs_shaped (ns : List Nat) (h : ∀ c ∈ ns, c ≤ 1114111) : SeqAt.shaped (.list (ns.map fun c => PyData.str (st [c]))) = true := by
  simp [SeqAt.shaped, PyData.canLay0, PyData.depth, signs_lay ns h, signs_depth]
theorem ne_nil_signs {a b : Addr} {vs : List Value} {ns : List Nat} (ha : s.heap.IsList a vs.toArray) (hb : s.heap.IsList b (List.toArray [])) (hv : All2 Mine.SignAt vs ns) (hc : ∀ c ∈ ns, c ≤ 1114111) (hu : A.units + 64 < cLine) (h : Q (.bool (!ns.isEmpty)) s) :
    wpAny (model prog w) A (compareOp .NotEq (.ref a) (.ref b)) Q E s := by
  refine ne_dataH (reads_newData ha (signs_carried hv)) (reads_newData hb .nil) (signs_shaped _ hc) rfl hu ?_
  have e : PyData.eqv (.list (ns.map fun c => PyData.str (st [c]))) (.list []) = ns.isEmpty := by
    cases ns <;> simp [PyData.eqv, PyData.eqvAll]
  rw [e]; exact h
end
end
section
open PySem PySem.W PyProof.Rows PySem.Calls
set_option maxRecDepth 100000
set_option maxHeartbeats 8000000
set_option linter.unusedVariables false
local macro_rules | `(tactic| walk_at "mine mem") => `(tactic| (first | ((repeat' (first | (with_reducible exact List.mem_cons_self) | (with_reducible refine List.mem_cons_of_mem _ ?_))); done) | simp))
local macro_rules | `(tactic| walk_at "mine steps") => `(tactic| (repeat' (first
  | (k_unfold; (try dsimp only))
  | ((fail_if_success (with_reducible show wpAny _ _ (exec (Stmt.For _ _ _ _ _) _) _ _ _)); (fail_if_success (with_reducible show wpAny _ _ (binaryOp _ (Value.ref _) (Value.ref _)) _ _ _)); (fail_if_success (with_reducible show wpAny _ _ (compareOp _ (Value.ref _) (Value.ref _)) _ _ _)); (fail_if_success (with_reducible show wpAny _ _ (call (Value.type "list") _) _ _ _)); first | walk1 | (dsimp only; walk1)))))
def NameAt (objs : List (Addr × Obj)) (v : Value) (ns : List Nat) : Prop := ∃ a vs n, v = .ref a ∧ (a, listOf (List.toArray vs) n) ∈ objs ∧ All2 Mine.SignAt vs ns
theorem NameAt.mono {objs objs' : List (Addr × Obj)} {v : Value} {ns : List Nat} (x : NameAt objs v ns) (k : ∀ q ∈ objs, q ∈ objs') : NameAt objs' v ns := let ⟨a, vs, n, e, h, r⟩ := x; ⟨a, vs, n, e, k _ h, r⟩
def okCode (c : Nat) : Prop := c = 98 ∨ c = 117 ∨ c = 123 ∨ c = 125 ∨ (128 ≤ c ∧ c ≤ 1114111)
def NameOk (k : Nat) (nm : List Nat) : Prop := nm ≠ [] ∧ nm.length ≤ k ∧ ∀ c ∈ nm, okCode c
theorem wpAny_K {α : Type} {M : Model} {A : Around} {t : Sem α} {Q : α → Shared → Prop} {E : Value → Shared → Prop} {s : Shared} (h : ∀ K : α → Shared → Prop, (∀ a s', Q a s' → K a s') → wpAny M A t K E s) : wpAny M A t Q E s := h Q fun _ _ x => x
theorem names_spec {w : World} {loose : List Str} {mean : ExcName → Option Value} {mg mb : Str → Option Value} {dp un : Nat} {gd : Option (List Code)} {fr : List Env} {s : Shared} {Q E : Value → Shared → Prop} {l : Addr} {vs : List Value} {gs : List Int}
    (G : Gd w loose mean mg mb s.heap) (hd : dp + 1 < recursionLimit) (hu : un + 80 < cLine) (hl : s.heap.IsList l vs.toArray) (hi : IntsAre vs gs) (hlen : gs.length ≤ 10) (hB : AllBare s.gens)
    (hret : ∀ D h' gs' tk' nv n nms objs, Keep s.heap h' → AllBare gs' → Made s.heap h' ((D, listOf (List.toArray nv) n) :: objs) → All2 (NameAt objs) nv nms → nms.length ≤ 11 → (∀ nm ∈ nms, NameOk 33 nm) → Q (.ref D) { s with heap := h', gens := gs', toks := tk' }) :
    wpAny (model PySem.Challenge.rw_nq0080_01.row.prog w) (AA dp un gd fr) (call (.ref 70) [.ref l]) Q E s := by
  have X := G.X
  have T := G.T
  refine any_of_wpN (wpN_call ?_)
  refine' enterN (binds := [(Str.ofString "numbers", .ref l)]) X T.nolimit ?k8 ?k6 ?k7 ?k9 ?kB ?_ ?c2 ?c3 ?c4 ?c5
  case k8 => (show _ < _; dsimp only; lia)
  case k6 => k_is
  case k7 => k_is
  case k9 => exact BindsTo.of_eq rfl
  case c5 => decide
  case kB => exact locs rfl
  case c2 => exact rfl
  case c3 => exact rfl
  case c4 => exact rfl
  intro h₁ tk F
  have Nw : News s.heap s.heap.objs.size h₁ [] := News.nil
  have hlen2 : vs.length = gs.length := hi.length
  try (refine hK _ _ ?_; try dsimp only)
  refine wpN_leaf (wpAny_K fun K hK => ?_)
  walk_at "mine steps"
  try (refine hK _ _ ?_; try dsimp only)
  refine wpN_leaf (wpAny_K fun K hK => ?_)
  walk_at "mine steps"
  try (refine hK _ _ ?_; try dsimp only)
  refine wpN_execs_cons (wpN_For (wpN_of_any ?_))
  walk_at "mine steps"
  rename Fr _ _ _ _ => F3; rename News _ _ _ _ => N3
  rename_i l1 hh1 u1 hh2 l2 hh3 u2 hh4 l3 hh5
  have hl3 := hl.at fun o e => F3.keep l o e
  refine add_two (vs := vs) (ws := [_]) F3 N3 hl3 (IsL.isList (N3 _ (List.Mem.head _)).1) (by simp; lia) fun l9 h4 F4 N4 n4 => ?_
  obtain ⟨t0, ht0⟩ : ∃ t : Tok, t = tk + 1 + 1 := ⟨_, rfl⟩
  have hits : ∀ v ∈ vs ++ [Value.int 0 t0], ∃ z t, v = .int z t := by
    intro v hv
    rcases List.mem_append.mp hv with hv | hv
    · exact ints_mem hi v hv
    · exact ⟨_, _, List.mem_singleton.mp hv⟩
  refine' for_lstG (σ := Addr × List Value × Nat × Addr × List Value × Nat × List (Addr × Obj)) (vs := vs ++ [Value.int 0 t0]) (nl := 0) rfl
    (fun i c => (l9, listOf (List.toArray (vs ++ [Value.int 0 t0])) 0) :: (c.1, listOf (List.toArray c.2.1) c.2.2.1) :: (c.2.2.2.1, listOf (List.toArray c.2.2.2.2.1) c.2.2.2.2.2.1) :: c.2.2.2.2.2.2)
    (fun i c => [("names", .ref c.1), ("signs", .ref c.2.2.2.1)])
    (fun i c => c.1 ≠ l9 ∧ c.1 ≠ c.2.2.2.1 ∧ (∀ p ∈ c.2.2.2.2.2.2, p.1 ≠ c.1) ∧ c.2.1.length ≤ i ∧ ∃ nms sg, All2 (NameAt c.2.2.2.2.2.2) c.2.1 nms ∧ (∀ nm ∈ nms, NameOk 33 nm) ∧ All2 Mine.SignAt c.2.2.2.2.1 sg ∧ sg.length ≤ 3 * i ∧ ∀ x ∈ sg, okCode x)
    ⟨_, [], 0, _, [], 0, []⟩ ?hgo hB (fun i c => List.Mem.head _) F4 ?hN ?hk ?h0 ?turn ?done
  case hk => kst_all
  case h0 =>
    refine ⟨n4 (_, listOf #[] 0) (by walk_at "mine mem"), ?_, List.forall_mem_nil _, Nat.le_refl _, [], [], .nil, List.forall_mem_nil _, .nil, Nat.le_refl _, List.forall_mem_nil _⟩
    exact Nat.ne_of_lt (by assumption)
  case hN =>
    subst ht0
    intro p hp
    refine N4 p ?_
    simp only [List.mem_cons, List.not_mem_nil, or_false] at hp ⊢
    rcases hp with rfl | rfl | rfl <;> simp
  case hgo =>
    intro I i v s' Q E hv _ hQ
    exact wpAny_of_eq (a := ()) rfl hQ
  case done =>
    clear F4 N4 F3 N3
    refine prod7 ?_
    intro D nv n S sv sn TB u h gs' tk' hinv hb Fw Nw
    dsimp only at hinv Fw Nw ⊢
    refine hide ?_
    intro P' hP'
    obtain ⟨q1, q2, q3, q4, nms, sg, q5, q6, q7, q8, q9⟩ := hinv
    refine hP' ?_
    clear hP' P'
    try (refine hK _ _ ?_; try dsimp only)
    refine wpN_leaf (wpAny_K fun K hK => ?_)
    walk_at "mine steps"
    rename Fr _ _ _ _ => F'; rename News _ _ _ _ => N'
    refine hK _ _ ?_
    dsimp only
    refine hret D _ gs' _ nv n nms TB F'.keep hb (made_of_news N' fun p hp => ?_) q5 ?_ q6
    · rcases List.mem_cons.mp hp with rfl | hp
      · simp
      · exact List.mem_cons_of_mem _ (List.mem_cons_of_mem _ (List.mem_cons_of_mem _ hp))
    · rw [← q5.length]; simp at q4; lia
  case turn =>
    clear F4 N4 F3 N3
    refine fun i v => prod7 fun D nv n S sv sn TB => ?_
    dsimp only
    intro u h gs' tk' I io KK hKK hiv hinv hb hoff hic _ Fw Nw
    refine hide fun P hP => ?_
    obtain ⟨q1, q2, q3, q4, nms, sg, q5, q6, q7, q8, q9⟩ := hinv
    have hi11 : i < 11 := by
      have := (List.getElem?_eq_some_iff.mp hiv).1
      simp at this; lia
    refine hP ?_
    obtain ⟨z, tz, rfl⟩ := hits v (List.mem_of_getElem? hiv)
    refine wpN_of_any (wpAny_assign_Name (storeX_L Fw Nw fun h5 F5 N5 => ?_))
    clear Fw Nw
    dsimp only at F5 N5 ⊢
    have hup : ∀ x ∈ sg, x ≤ 1114111 := fun x hx => by have := q9 x hx; unfold okCode at this; lia
    have sub3 : ∀ p ∈ ((I, io) :: (l9, listOf (List.toArray (vs ++ [Value.int 0 t0])) 0) :: (D, listOf (List.toArray nv) n) :: TB), p ∈ ((I, io) :: (l9, listOf (List.toArray (vs ++ [Value.int 0 t0])) 0) :: (D, listOf (List.toArray nv) n) :: (S, listOf (List.toArray sv) sn) :: TB) := fun p hp => by
      simp only [List.mem_cons] at hp ⊢
      rcases hp with h | h | h | h <;> simp [h]
    have hIl9 : l9 ≠ I := hoff _ (List.Mem.head _)
    have hID : D ≠ I := hoff (D, listOf (List.toArray nv) n) (by walk_at "mine mem")
    have hIS : S ≠ I := hoff (S, listOf (List.toArray sv) sn) (by walk_at "mine mem")
    have hIT : ∀ p ∈ TB, p.1 ≠ I := fun p hp => hoff p (by simp [hp])
    have appd : ∀ (nw : Addr) (xv : List Value) (xn : Nat) (xs : List Nat) (news' : List (Addr × Obj)) (m' : Str → Option Value) (s2 : Shared) (QQ : Value → Shared → Prop) (EE : Value → Shared → Prop) (A' : Around),
        Fr s.heap s.heap.objs.size s2.heap m' → News s.heap s.heap.objs.size s2.heap news' → (nw, listOf (List.toArray xv) xn) ∈ news' → nw ≠ D → (∀ p ∈ ((I, io) :: (l9, listOf (List.toArray (vs ++ [Value.int 0 t0])) 0) :: (D, listOf (List.toArray nv) n) :: (S, listOf (List.toArray sv) sn) :: TB), p ∈ news') →
        (∀ h' n', Fr s.heap s.heap.objs.size h' m' → News s.heap s.heap.objs.size h' ((I, io) :: (l9, listOf (List.toArray (vs ++ [Value.int 0 t0])) 0) :: (D, listOf (List.toArray (nv ++ [.ref nw])) n') :: (nw, listOf (List.toArray xv) xn) :: TB) → QQ .none { s2 with heap := h' }) →
        wpAny (model PySem.Challenge.rw_nq0080_01.row.prog w) A' (call (.builtin "list.append") [.ref D, .ref nw]) QQ EE s2 := by
      intro nw xv xn xs news' m' s2 QQ EE A' F' N' m1 hne m2 hq
      refine app_news F' N' (its := List.toArray nv) (n := n) (m2 _ (by walk_at "mine mem")) (by simp; lia) fun h' n' F9 N9 => hq h' n' F9 fun p hp => ?_
      rw [List.push_toArray] at N9
      revert p hp
      refine all_cons ?_ (all_cons ?_ (all_cons ?_ (all_cons ?_ (fun p hp => ?_))))
      · exact N9 _ (mem_off (m2 _ (by walk_at "mine mem")) (Ne.symm hID) _)
      · exact N9 _ (mem_off (m2 _ (by walk_at "mine mem")) (Ne.symm q1) _)
      · exact N9 _ (List.Mem.head _)
      · exact N9 _ (mem_off m1 hne _)
      · exact N9 _ (mem_off (m2 _ (by simp [hp])) (q3 p hp) _)
    have fin2 : ∀ (h' : Heap) (tk' : Nat) (m' : Str → Option Value) (D' : Addr) (ws : List Value) (gn : List Nat) (news' : List (Addr × Obj)), Fr s.heap s.heap.objs.size h' m' → News s.heap s.heap.objs.size h' news' →
        (D', listOf (List.toArray (sv ++ ws)) 0) ∈ news' → D ≠ D' → D' ≠ I → (∀ p ∈ ((I, io) :: (l9, listOf (List.toArray (vs ++ [Value.int 0 t0])) 0) :: (D, listOf (List.toArray nv) n) :: TB), p ∈ news') → All2 Mine.SignAt ws gn → gn.length ≤ 3 → (∀ x ∈ gn, okCode x) →
        (∀ p ∈ [((("names" : Str), Value.ref D) : Str × Value), ("signs", .ref D')], m' p.1 = some p.2) →
        KK .next { s with heap := h', gens := gs', toks := tk' } := by
      intro h' tk' m' D' ws gn news' F' N' m1 hne hDI m2 ha hg3 hgo e1
      refine hKK ⟨D, nv, n, D', sv ++ ws, 0, TB⟩ h' gs' tk' m' news' hb F' N' (m2 _ (List.Mem.head _)) (fun p hp => ?_) (fun p hp => ?_) ⟨q1, hne, q3, by dsimp only; lia, nms, sg ++ gn, q5, q6, ?_, ?_, ?_⟩
      · dsimp only at hp ⊢
        revert p hp
        refine all_cons ?_ (all_cons ?_ (all_cons ?_ (fun p hp => ?_)))
        · exact ⟨m2 _ (by walk_at "mine mem"), hIl9⟩
        · exact ⟨m2 _ (by walk_at "mine mem"), hID⟩
        · exact ⟨m1, hDI⟩
        · exact ⟨m2 _ (by simp [hp]), hIT p hp⟩
      · exact e1 p hp
      · exact q7.append ha
      · rw [List.length_append]; lia
      · intro x hx
        rcases List.mem_append.mp hx with hx | hx
        · exact q9 x hx
        · exact hgo x hx
    have fin1 : ∀ (h' : Heap) (tk' : Nat) (m' : Str → Option Value) (nw : Addr) (xv : List Value) (xn : Nat) (xs : List Nat) (n6 : Nat) (S' : Addr) (news' : List (Addr × Obj)), Fr s.heap s.heap.objs.size h' m' → News s.heap s.heap.objs.size h' news' →
        (∀ p ∈ ((I, io) :: (l9, listOf (List.toArray (vs ++ [Value.int 0 t0])) 0) :: (D, listOf (List.toArray (nv ++ [.ref nw])) n6) :: (nw, listOf (List.toArray xv) xn) :: TB), p ∈ news') → (S', listOf #[] 0) ∈ news' → D ≠ S' → S' ≠ I → nw ≠ D → nw ≠ I → All2 Mine.SignAt xv xs → NameOk 33 xs →
        (∀ p ∈ [((("names" : Str), Value.ref D) : Str × Value), ("signs", .ref S')], m' p.1 = some p.2) →
        KK .next { s with heap := h', gens := gs', toks := tk' } := by
      intro h' tk' m' nw xv xn xs n6 S' news' F' N' m2 m1 hDS hSI hnD hnI ha hok e1
      refine hKK ⟨D, nv ++ [.ref nw], n6, S', [], 0, (nw, listOf (List.toArray xv) xn) :: TB⟩ h' gs' tk' m' news' hb F' N' (m2 _ (List.Mem.head _)) (fun p hp => ?_) (fun p hp => ?_) ⟨q1, hDS, fun p hp => ?_, ?_, nms ++ [xs], [], ?_, fun nm hnm => ?_, .nil, Nat.zero_le _, List.forall_mem_nil _⟩
      · dsimp only at hp ⊢
        revert p hp
        refine all_cons ?_ (all_cons ?_ (all_cons ?_ (all_cons ?_ (fun p hp => ?_))))
        · exact ⟨m2 _ (by walk_at "mine mem"), hIl9⟩
        · exact ⟨m2 _ (by walk_at "mine mem"), hID⟩
        · exact ⟨m1, hSI⟩
        · exact ⟨m2 _ (by walk_at "mine mem"), hnI⟩
        · exact ⟨m2 _ (by simp [hp]), hIT p hp⟩
      · exact e1 p hp
      · dsimp only at hp ⊢
        rcases List.mem_cons.mp hp with rfl | hp
        · exact hnD
        · exact q3 p hp
      · dsimp only
        rw [List.length_append, List.length_singleton]; lia
      · dsimp only
        exact (q5.mono fun v ns x => x.mono fun q hq => List.mem_cons_of_mem _ hq).snoc ⟨nw, xv, xn, rfl, List.Mem.head _, ha⟩
      · rcases List.mem_append.mp hnm with hnm | hnm
        · exact q6 _ hnm
        · rw [List.mem_singleton.mp hnm]; exact hok
    try (refine hK _ _ ?_; try dsimp only)
    refine wpN_leaf (wpAny_K fun K hK => ?_)
    walk_at "mine steps"
    try (refine hK _ _ ?_; try dsimp only)
    refine wpN_execs_cons (wpN_If (wpN_of_any ?_))
    walk_at "mine steps"
    · refine wpN_leaf (wpAny_K fun K hK => ?_)
      walk_at "mine steps"
      rename Fr _ _ _ _ => F'; rename News _ _ _ _ => N'
      refine ne_nil_signs (IsL.isList (N' (S, listOf (List.toArray sv) sn) (by walk_at "mine mem")).1) (IsL.isList (N' _ (List.Mem.head _)).1) q7 hup (by dsimp only [AA, Around.deeper]; lia) ?_
      cases sg with
      | nil =>
        dsimp only [List.isEmpty, Bool.not_true]
        walk_at "mine steps"
        rename Fr _ _ _ _ => F'; rename News _ _ _ _ => N'
        rename _ < _ ∧ _ < _ ∧ _ < _ ∧ _ < _ ∧ _ < _ ∧ AllLt _ _ => hl1
        have hl2 := Nat.ne_of_lt hl1.2.2.2.1
        have hl3 := Nat.ne_of_gt hl1.2.1
        refine appd _ [_] 0 [98] _ _ ⟨_, _, _, _, _⟩ _ _ _ F' N' (List.Mem.head _) (Ne.symm hl2) (fun p hp => List.mem_cons_of_mem _ (List.mem_cons_of_mem _ hp)) fun h6 n6 F6 N6 => ?_
        clear F' N' hl1
        dsimp only
        try (refine hK _ _ ?_; try dsimp only)
        refine wpN_leaf (wpAny_K fun K hK => ?_)
        walk_at "mine steps"
        rename Fr _ _ _ _ => F'; rename News _ _ _ _ => N'
        rename _ < _ ∧ _ < _ ∧ _ < _ ∧ _ < _ ∧ AllLt _ _ => hl1
        try (refine hK _ _ ?_; try dsimp only)
        refine wpN_execs_nil ?_
        dsimp only
        try (refine hK _ _ ?_; try dsimp only)
        refine wpN_execs_nil ?_
        refine fin1 _ _ _ _ _ _ [98] _ _ _ F' N' (fun p hp => List.mem_cons_of_mem _ hp) (List.Mem.head _) (Nat.ne_of_lt hl1.2.2.1) (Nat.ne_of_gt hl1.1) (Ne.symm hl2) hl3 (.cons ⟨_, rfl⟩ .nil) ⟨by decide, by decide, by intro c hc; rw [List.mem_singleton.mp hc]; exact .inl rfl⟩ ?_
        kst_all
      | cons c0 sg =>
        dsimp only [List.isEmpty, Bool.not_false]
        walk_at "mine steps"
        rename Fr _ _ _ _ => F'; rename News _ _ _ _ => N'
        refine appd _ sv sn (c0 :: sg) _ _ ⟨_, _, _, _, _⟩ _ _ _ F' N' (by walk_at "mine mem") (Ne.symm q2) (fun p hp => List.mem_cons_of_mem _ hp) fun h6 n6 F6 N6 => ?_
        clear F' N'
        dsimp only
        try (refine hK _ _ ?_; try dsimp only)
        refine wpN_leaf (wpAny_K fun K hK => ?_)
        walk_at "mine steps"
        rename Fr _ _ _ _ => F'; rename News _ _ _ _ => N'
        rename _ < _ ∧ _ < _ ∧ _ < _ ∧ _ < _ ∧ AllLt _ _ => hl1
        try (refine hK _ _ ?_; try dsimp only)
        refine wpN_execs_nil ?_
        dsimp only
        try (refine hK _ _ ?_; try dsimp only)
        refine wpN_execs_nil ?_
        refine fin1 _ _ _ _ _ _ (c0 :: sg) _ _ _ F' N' (fun p hp => List.mem_cons_of_mem _ hp) (List.Mem.head _) (Nat.ne_of_lt hl1.2.2.1) (Nat.ne_of_gt hl1.1) (Ne.symm q2) hIS q7 ⟨by simp, by lia, q9⟩ ?_
        kst_all
    · refine wpN_execs_cons (wpN_If (wpN_of_any ?_))
      walk_at "mine steps"
      · refine wpN_leaf (wpAny_K fun K hK => ?_)
        walk_at "mine steps"
        rename Fr _ _ _ _ => F'; rename News _ _ _ _ => N'
        have hj : 0 ≤ (z.fdiv 6).fmod 8 ∧ (z.fdiv 6).fmod 8 < 8 := by rw [Int.fmod_eq_emod_of_nonneg _ (by lia)]; lia
        have hl6 := IsL.isList (N' _ (List.Mem.head _)).1
        have hit : ∀ j : Int, 0 ≤ j ∧ j < 8 → ∀ ta tb tc td te tf tg th, ∃ cs t, (List.toArray [Value.str (Str.ofString "{u}") ta, .str (Str.ofString "}b") tb, .str (Str.ofString "b") tc, .str (Str.ofString "{") td, .str (Str.ofString "}") te, .str (Str.ofString "u") tf, .str (Str.ofString "{b}") tg, .str (Str.ofString "u}b") th])[j.toNat]? = some (.str (st cs) t) ∧ cs.length ≤ 3 ∧ ∀ c ∈ cs, okCode c := by
          intro j hj ta tb tc td te tf tg th
          have hc : j = 0 ∨ j = 1 ∨ j = 2 ∨ j = 3 ∨ j = 4 ∨ j = 5 ∨ j = 6 ∨ j = 7 := by lia
          have ok : ∀ cs : List Nat, (cs.all fun c => c == 98 || c == 117 || c == 123 || c == 125) = true → ∀ c ∈ cs, okCode c := fun cs h c hc => by
            have := List.all_eq_true.mp h c hc
            simp only [Bool.or_eq_true, beq_iff_eq] at this
            unfold okCode; lia
          rcases hc with rfl | rfl | rfl | rfl | rfl | rfl | rfl | rfl
          · exact ⟨[123, 117, 125], _, rfl, by decide, ok _ rfl⟩
          · exact ⟨[125, 98], _, rfl, by decide, ok _ rfl⟩
          · exact ⟨[98], _, rfl, by decide, ok _ rfl⟩
          · exact ⟨[123], _, rfl, by decide, ok _ rfl⟩
          · exact ⟨[125], _, rfl, by decide, ok _ rfl⟩
          · exact ⟨[117], _, rfl, by decide, ok _ rfl⟩
          · exact ⟨[123, 98, 125], _, rfl, by decide, ok _ rfl⟩
          · exact ⟨[117, 125, 98], _, rfl, by decide, ok _ rfl⟩
        obtain ⟨cs, tcs, hcs, hcl, hco⟩ := hit _ hj _ _ _ _ _ _ _ _
        refine item_list hl6 hj.1 (by lia) hcs ?_
        clear hit
        walk_at "mine steps"
        refine list_of_st rfl (by lia) fun h7 tk7 ws7 c7 k7 M7 a7 => ?_
        have F7 := fr_mv F' k7
        have N7 := news_made F' (news_mv N' k7) M7
        clear F' N'
        walk_at "mine steps"
        rename Fr _ _ _ _ => F'; rename News _ _ _ _ => N'
        refine add_two (vs := sv) (ws := ws7) F' N' (IsL.isList (N' (S, listOf (List.toArray sv) sn) (by walk_at "mine mem")).1) (IsL.isList (N' _ (List.Mem.head _)).1) (by rw [q7.length, a7.length]; lia) fun D7 h7 F7 N7 n7 => ?_
        clear F' N'
        walk_at "mine steps"
        rename Fr _ _ _ _ => F'; rename News _ _ _ _ => N'
        try (refine hK _ _ ?_; try dsimp only)
        repeat (refine wpN_execs_nil ?_; try dsimp only)
        refine fin2 _ _ _ _ _ _ _ F' N' (List.Mem.head _) (n7 (D, listOf (List.toArray nv) n) (by walk_at "mine mem")) (Ne.symm (n7 (I, io) (by walk_at "mine mem"))) (fun p hp => List.mem_cons_of_mem _ (List.mem_cons_of_mem _ (List.mem_cons_of_mem _ (sub3 p hp)))) a7 hcl hco ?_
        kst_all
      · refine wpN_execs_cons (wpN_If (wpN_of_any ?_))
        walk_at "mine steps"
        · have hj : 0 ≤ (z.fdiv 6).fmod 3 ∧ (z.fdiv 6).fmod 3 < 3 := by rw [Int.fmod_eq_emod_of_nonneg _ (by lia)]; lia
          try (refine hK _ _ ?_; try dsimp only)
          refine wpN_leaf (wpAny_K fun K hK => ?_)
          walk_at "mine steps"
          rename Fr _ _ _ _ => F'; rename News _ _ _ _ => N'
          refine add_two (vs := sv) (ws := [_]) F' N' (IsL.isList (N' (S, listOf (List.toArray sv) sn) (by walk_at "mine mem")).1) (IsL.isList (N' _ (List.Mem.head _)).1) (by rw [q7.length]; simp; lia) fun D7 h7 F7 N7 n7 => ?_
          clear F' N'
          walk_at "mine steps"
          rename Fr _ _ _ _ => F'; rename News _ _ _ _ => N'
          try (refine hK _ _ ?_; try dsimp only)
          repeat (refine wpN_execs_nil ?_; try dsimp only)
          refine fin2 _ _ _ _ _ [_] _ F' N' (List.Mem.head _) (n7 (D, listOf (List.toArray nv) n) (by walk_at "mine mem")) (Ne.symm (n7 (I, io) (by walk_at "mine mem"))) (fun p hp => List.mem_cons_of_mem _ (List.mem_cons_of_mem _ (sub3 p hp))) (.cons ⟨_, rfl⟩ .nil) (by rw [List.length_singleton]; lia) (fun c hc => by rw [List.mem_singleton.mp hc]; exact .inr (.inr (.inr (.inr ⟨by lia, by lia⟩)))) ?_
          kst_all
        · have hj : 0 ≤ (z.fdiv 6).fmod 1111936 ∧ (z.fdiv 6).fmod 1111936 < 1111936 := by rw [Int.fmod_eq_emod_of_nonneg _ (by lia)]; lia
          try (refine hK _ _ ?_; try dsimp only)
          refine wpN_leaf (wpAny_K fun K hK => ?_)
          walk_at "mine steps"
          try (refine hK _ _ ?_; try dsimp only)
          refine wpN_leaf (wpAny_K fun K hK => ?_)
          walk_at "mine steps"
          all_goals (rename Fr _ _ _ _ => F'; rename News _ _ _ _ => N')
          all_goals refine add_two (vs := sv) (ws := [_]) F' N' (IsL.isList (N' (S, listOf (List.toArray sv) sn) (by walk_at "mine mem")).1) (IsL.isList (N' _ (List.Mem.head _)).1) (by rw [q7.length]; simp; lia) fun D7 h7 F7 N7 n7 => ?_
          all_goals clear F' N'
          all_goals walk_at "mine steps"
          all_goals (rename Fr _ _ _ _ => F'; rename News _ _ _ _ => N')
          all_goals (try (refine hK _ _ ?_; try dsimp only))
          all_goals (repeat (refine wpN_execs_nil ?_; try dsimp only))
          all_goals refine fin2 _ _ _ _ _ [_] _ F' N' (List.Mem.head _) (n7 (D, listOf (List.toArray nv) n) (by walk_at "mine mem")) (Ne.symm (n7 (I, io) (by walk_at "mine mem"))) (fun p hp => List.mem_cons_of_mem _ (List.mem_cons_of_mem _ (sub3 p hp))) (.cons ⟨_, rfl⟩ .nil) (by rw [List.length_singleton]; lia) (fun c hc => by rw [List.mem_singleton.mp hc]; exact .inr (.inr (.inr (.inr ⟨by lia, by lia⟩)))) ?_
          all_goals kst_all
end
section
open PySem PySem.W PyProof.Rows PySem.Calls
set_option maxRecDepth 100000
set_option maxHeartbeats 8000000
set_option linter.unusedVariables false
def Sup0 (h₀ : Heap) (objs : List (Addr × Obj)) (R : Heap → Prop) : Prop := ∀ h : Heap, Keep h₀ h → (∀ p ∈ objs, h.get? p.1 = some p.2) → R h
theorem Sup0.mono {h₀ : Heap} {objs objs' : List (Addr × Obj)} {R : Heap → Prop} (S : Sup0 h₀ objs R) (k : ∀ p ∈ objs, p ∈ objs') : Sup0 h₀ objs' R := fun h hk hp => S h hk fun p hp' => hp p (k p hp')
def RecLike (o : Obj) : Prop := ∃ vs q t, o.data = .fields vs ∧ vs[1]? = some (Value.str q t)
theorem among_mem {pos : Pos} {cv : Value} (l : List Value) (e : codeAmong pos l = some cv) : cv ∈ l := by
  fun_induction codeAmong pos l with
  | case1 line t col u c rest h => cases e; simp
  | case2 line t col u c rest h ih => simp [ih e]
  | case3 l h => cases e
theorem recs_sup {P : Addr} {ps : Array Value} {q : Str} {h : Heap} (hP : h.get? P = some (tabObj ps)) (ht : TriplesOk ps.toList) : ∀ l : List Value, ∃ objs : List (Addr × Obj), (∀ p ∈ objs, h.get? p.1 = some p.2 ∧ p.1 ≠ P ∧ RecLike p.2) ∧
    ∀ cv ∈ l, h.CodeRec cv q → ∀ h' : Heap, (∀ p ∈ objs, h'.get? p.1 = some p.2) → h'.CodeRec cv q
  | [] => ⟨[], List.forall_mem_nil _, fun cv h => by cases h⟩
  | v :: l => by
    obtain ⟨objs, h1, h2⟩ := recs_sup hP ht l
    by_cases hv : h.CodeRec v q
    · obtain ⟨c, o, vs, t, e, g, d, x⟩ := id hv
      refine ⟨(c, o) :: objs, fun p hp => ?_, fun cv hcv hr h' hp => ?_⟩
      · rcases List.mem_cons.mp hp with rfl | hp
        · exact ⟨g, rec_ne hP ht (e ▸ hv), vs, q, t, d, x⟩
        · exact h1 p hp
      · rcases List.mem_cons.mp hcv with rfl | hcv
        · exact ⟨c, o, vs, t, e, hp _ (List.Mem.head _), d, x⟩
        · exact h2 cv hcv hr h' fun p hp' => hp p (List.mem_cons_of_mem _ hp')
    · refine ⟨objs, h1, fun cv hcv hr h' hp => ?_⟩
      rcases List.mem_cons.mp hcv with rfl | hcv
      · exact absurd hr hv
      · exact h2 cv hcv hr h' hp
theorem tab_sup {P : Addr} {q : Str} {h : Heap} (t : Tab P q h) : ∃ (ps : Array Value) (objs : List (Addr × Obj)), h.get? P = some (tabObj ps) ∧ (∀ p ∈ objs, h.get? p.1 = some p.2 ∧ p.1 ≠ P ∧ RecLike p.2) ∧
    ∀ h' : Heap, h'.get? P = some (tabObj ps) → (∀ p ∈ objs, h'.get? p.1 = some p.2) → Tab P q h' := by
  obtain ⟨ps, hP, ht, hall⟩ := t
  obtain ⟨objs, h1, h2⟩ := recs_sup (q := q) hP ht ps.toList
  exact ⟨ps, objs, hP, h1, fun h' e hp => ⟨ps, e, ht, fun pos cv hc => h2 cv (among_mem _ hc) (hall pos cv hc) h' hp⟩⟩
section
variable {h₀ h h' : Heap} {L P : Addr} {m : Str → Option Value} {news : List (Addr × Obj)} {ps0 : Array Value}
theorem fr_keepB (F : Fr h₀ L h m) (N : News h₀ L h news) (hm : (P, tabObj ps0) ∈ news) (kb : KeepB P h h') : Fr h₀ L h' m :=
  ⟨F.ns.extBut kb (Ne.symm (N _ hm).2.1), fun b o e => kb b o (fun q => by rw [q, show h₀.get? P = none from (N _ hm).2.2] at e; cases e) (F.keep b o e), F.above⟩
theorem news_keepB (N : News h₀ L h news) (kb : KeepB P h h') : News h₀ L h' (news.filter (fun p => p.1 != P)) := fun p hp => by
  obtain ⟨h1, h2⟩ := List.mem_filter.mp hp
  exact ⟨kb _ _ (by simpa using h2) (N p h1).1, (N p h1).2⟩
theorem rec_off {p : Addr × Obj} (ns : h.Ns L m) (hp : h.get? p.1 = some p.2) (hr : RecLike p.2) : p.1 ≠ L := fun e => by
  obtain ⟨o, _, _, ho, hd, _⟩ := ns
  obtain ⟨vs, q, t, hd2, _⟩ := hr
  rw [e, ho] at hp
  cases hp
  rw [hd] at hd2; cases hd2
theorem new_off {p : Addr × Obj} (F : Fr h₀ L h m) (hn : h.get? p.1 = none) : p.1 ≠ L ∧ h₀.get? p.1 = none := by
  constructor
  · intro e
    obtain ⟨o, _, _, ho, _⟩ := F.ns
    rw [e, ho] at hn; cases hn
  · cases q : h₀.get? p.1 with
    | none => rfl
    | some o => have := F.keep _ _ q; rw [hn] at this; cases this
end
theorem thing_call {w : World} {loose : List Str} {mean : ExcName → Option Value} {mg mb : Str → Option Value} {dp un : Nat} {gd : Option (List Code)} {fr : List Env} {s : Shared} {Q E : Value → Shared → Prop} {place tag : Value}
    {h₀ : Heap} {L : Addr} {m : Str → Option Value} {news : List (Addr × Obj)} {ps0 : Array Value}
    (G₀ : Gd w loose mean mg mb h₀) (hd : dp < recursionLimit) (F : Fr h₀ L s.heap m) (N : News h₀ L s.heap news) (hm : (89, tabObj ps0) ∈ news) (Tb : Tab 89 lamQ s.heap)
    (h : ∀ a h' tk' (ps : Array Value) (objs : List (Addr × Obj)), Fr h₀ L h' m → News h₀ L h' ((89, tabObj ps) :: (objs ++ news.filter (fun p => p.1 != 89))) → (∀ p ∈ objs, p.1 ≠ 89 ∧ (s.heap.get? p.1 = none ∨ RecLike p.2)) →
      Sup0 h₀ ((89, tabObj ps) :: objs) (Tab 89 lamQ) → Sup0 h₀ objs (fun h => Thing h a tag place) → Q (.ref a) { s with heap := h', toks := tk' }) :
    wpAny (model PySem.Challenge.rw_nq0080_01.row.prog w) (AA dp un gd fr) (call (.ref 94) [place, tag]) Q E s := by
  refine thing_spec (G₀.keeps F.keep) hd Tb fun a h' tk' ob kb tb' made sup => ?_
  obtain ⟨ps, tobjs, e1, e2, e3⟩ := tab_sup tb'
  have F' := fr_keepB F N hm kb
  have h89 : s.heap.get? 89 = some (tabObj ps0) := (N _ hm).1
  refine h a h' tk' ps (ob ++ tobjs.filter (fun p => (h₀.get? p.1).isNone)) F' ?_ ?_ ?_ ?_
  · intro p hp
    rcases List.mem_cons.mp hp with rfl | hp
    · exact ⟨e1, (N _ hm).2⟩
    rcases List.mem_append.mp hp with hp | hp
    · rcases List.mem_append.mp hp with hp | hp
      · exact ⟨(made p hp).1, new_off F (made p hp).2⟩
      · obtain ⟨h1, h2⟩ := List.mem_filter.mp hp
        exact ⟨(e2 p h1).1, rec_off F'.ns (e2 p h1).1 (e2 p h1).2.2, by simpa using h2⟩
    · exact news_keepB N kb p hp
  · intro p hp
    rcases List.mem_append.mp hp with hp | hp
    · exact ⟨fun e => (by rw [← e, (made p hp).2] at h89; cases h89), .inl (made p hp).2⟩
    · have h1 := (List.mem_filter.mp hp).1
      exact ⟨(e2 p h1).2.1, .inr (e2 p h1).2.2⟩
  · intro h2 hk hp
    refine e3 h2 (hp _ (List.Mem.head _)) fun p hp' => ?_
    cases q : h₀.get? p.1 with
    | none => exact hp p (List.mem_cons_of_mem _ (List.mem_append_right _ (List.mem_filter.mpr ⟨hp', by rw [q]; rfl⟩)))
    | some o =>
      have h5 := F'.keep _ _ q
      rw [(e2 p hp').1] at h5
      cases h5
      exact hk _ _ q
  · exact fun h2 hk hp => sup h2 fun p hp' => hp p (List.mem_append_left _ hp')
theorem off_tab {h₀ h : Heap} {L P : Addr} {news : List (Addr × Obj)} {ps : Array Value} {p : Addr × Obj} (N : News h₀ L h news) (hm : (P, tabObj ps) ∈ news) (hp : p ∈ news) (hd : ∀ vs, p.2.data ≠ .fields vs) : p.1 ≠ P := fun e => by
  have h1 := (N p hp).1
  have h2 := (N _ hm).1
  dsimp only at h2
  rw [e, h2] at h1
  exact hd _ (congrArg Obj.data (Option.some.inj h1)).symm
theorem mem_th {news objs : List (Addr × Obj)} {q p : Addr × Obj} {P : Addr} (h1 : p ∈ news) (h2 : p.1 ≠ P) : p ∈ q :: (objs ++ news.filter (fun p => p.1 != P)) :=
  List.mem_cons_of_mem _ (List.mem_append_right _ (List.mem_filter.mpr ⟨h1, by simpa using h2⟩))
theorem mem_ob {news objs : List (Addr × Obj)} {q p : Addr × Obj} (h1 : p ∈ objs) : p ∈ q :: (objs ++ news) := List.mem_cons_of_mem _ (List.mem_append_left _ h1)
theorem fnat_uniq {h : Heap} {a : Addr} {dd dd' : Option Addr} {mA mA' : Str → Option Value} (x : FnAt h a dd mA) (y : FnAt h a dd' mA') (n : Str) : mA n = mA' n := by
  obtain ⟨fd, sl, e, r⟩ := x
  obtain ⟨fd', sl', e', r'⟩ := y
  rw [e] at e'
  cases e'
  rcases r with ⟨q, r⟩ | ⟨d, q, _, r⟩
  · rcases r' with ⟨_, r'⟩ | ⟨d', q', _, r'⟩
    · rw [r, r']
    · rw [q] at q'; cases q'
  · rcases r' with ⟨q', r'⟩ | ⟨d', q', _, r'⟩
    · rw [q] at q'; cases q'
    · rw [q] at q'; cases q'
      obtain ⟨o, es, ep, h1, h2, _, _, h3⟩ := r
      obtain ⟨o', es', ep', h1', h2', _, _, h3'⟩ := r'
      rw [h1] at h1'
      cases h1'
      rw [h2] at h2'
      cases h2'
      rw [← h3, ← h3']
theorem thing_uniq {h : Heap} {a : Addr} {t t' p p' : Value} (x : Thing h a t p) (y : Thing h a t' p') : t = t' ∧ p = p' := by
  obtain ⟨dd, mA, x1, x2, x3⟩ := x
  obtain ⟨dd', mA', y1, y2, y3⟩ := y
  have e1 := fnat_uniq x1 y1 "tag"
  have e2 := fnat_uniq x1 y1 "place"
  rw [x2, y2] at e1
  rw [x3, y3] at e2
  exact ⟨Option.some.inj e1, Option.some.inj e2⟩
end
section
open PySem PySem.W PyProof.Rows PySem.Calls
set_option maxRecDepth 100000
set_option maxHeartbeats 8000000
set_option linter.unusedVariables false
theorem tag_uniq {tv : Value} {o o' : Option (List Nat)} (x : TagIs tv o) (y : TagIs tv o') : o = o' := by
  cases x with
  | none => cases y; rfl
  | @str l t h1 h2 =>
    generalize e : Value.str (st l) t = tv at y
    cases y with
    | none => cases e
    | @str l' t' =>
      injection e with e1 e2
      injection e1 with e3
      have := congrArg Array.toList e3
      simp at this
      rw [this]
inductive RowL (h : Heap) : Nat → List Value → List (Option (List Nat)) → Prop
  | nil {k : Nat} : RowL h k [] []
  | cons {k : Nat} {a : Addr} {tv : Value} {t : Tok} {o : Option (List Nat)} {vs : List Value} {os : List (Option (List Nat))} : Thing h a tv (.int (k : Int) t) → TagIs tv o → RowL h (k + 1) vs os → RowL h k (.ref a :: vs) (o :: os)
def TagP (h : Heap) (v : Value) (o : Option (List Nat)) : Prop := ∃ a tv pl, v = Value.ref a ∧ Thing h a tv pl ∧ TagIs tv o
open Classical in
noncomputable def tagAt (h : Heap) (v : Value) : Option (List Nat) := if hx : ∃ o, TagP h v o then hx.choose else none
theorem tagAt_eq {h : Heap} {a : Addr} {tv pl : Value} {o : Option (List Nat)} (x : Thing h a tv pl) (y : TagIs tv o) : tagAt h (.ref a) = o := by
  have hx : ∃ o, TagP h (.ref a) o := ⟨o, a, tv, pl, rfl, x, y⟩
  unfold tagAt
  rw [dif_pos hx]
  obtain ⟨a', tv', pl', e, x', y'⟩ := hx.choose_spec
  cases e
  obtain ⟨rfl, _⟩ := thing_uniq x x'
  exact tag_uniq y' y
theorem rowL_mem {h : Heap} {k : Nat} {vs : List Value} {os : List (Option (List Nat))} (r : RowL h k vs os) : ∀ v ∈ vs, ∃ a tv pl, v = Value.ref a ∧ Thing h a tv pl ∧ TagIs tv (tagAt h v) := by
  induction r with
  | nil => exact List.forall_mem_nil _
  | cons x y _ ih =>
    intro v hv
    rcases List.mem_cons.mp hv with rfl | hv
    · exact ⟨_, _, _, rfl, x, by rw [tagAt_eq x y]; exact y⟩
    · exact ih v hv
theorem rowL_mem2 {h : Heap} {k : Nat} {vs : List Value} {os : List (Option (List Nat))} (r : RowL h k vs os) : ∀ v ∈ vs, ∃ (a : Addr) (tv : Value) (j : Int) (t : Tok), v = Value.ref a ∧ Thing h a tv (.int j t) ∧ TagIs tv (tagAt h v) := by
  induction r with
  | nil => exact List.forall_mem_nil _
  | cons x y _ ih =>
    intro v hv
    rcases List.mem_cons.mp hv with rfl | hv
    · exact ⟨_, _, _, _, rfl, x, by rw [tagAt_eq x y]; exact y⟩
    · exact ih v hv
def placesL (sel : Option (List Nat) → Bool) : Nat → List (Option (List Nat)) → List Int
  | _, [] => []
  | k, o :: os => if sel o = true then (k : Int) :: placesL sel (k + 1) os else placesL sel (k + 1) os
theorem rows_places {h : Heap} {sel : Option (List Nat) → Bool} {F : Value → Value → Prop} (hF : ∀ v y a tv pl, F v y → v = Value.ref a → Thing h a tv pl → y = pl) {k : Nat} {vs : List Value} {os : List (Option (List Nat))} (r : RowL h k vs os) :
    ∀ ys, Paired F (vs.filter fun v => sel (tagAt h v)) ys → IntsAre ys (placesL sel k os) := by
  induction r with
  | nil => intro ys hp; cases hp; exact .nil
  | @cons k a tv t o vs os x y _ ih =>
    intro ys hp
    rw [List.filter_cons, tagAt_eq x y] at hp
    unfold placesL
    by_cases hs : sel o = true
    · rw [if_pos hs] at hp ⊢
      cases hp with
      | cons h1 h2 =>
        rw [hF _ _ _ _ _ h1 rfl x]
        exact .cons _ _ (ih _ h2)
    · rw [if_neg hs] at hp ⊢
      exact ih _ hp
theorem due_tail {sel : Option (List Nat) → Bool} {fb : List Nat → Bool} : ∀ (nms : List (List Nat)) (j : Nat), (∀ nm ∈ nms, sel (some nm) = fb nm) →
    placesL sel (j + 1) (nms.map some) = ((List.range nms.length).filter (fun k => fb (nms.getD k []))).map (fun k => ((j + k : Nat) : Int) + 1)
  | [], _, _ => rfl
  | nm :: nms, j, h => by
    have ih := due_tail nms (j + 1) fun x hx => h x (List.mem_cons_of_mem _ hx)
    rw [List.length_cons, List.range_succ_eq_map, List.filter_cons, List.filter_map, List.map_cons, placesL, h nm (List.mem_cons_self ..), ih]
    have e : ((fun k => fb ((nm :: nms).getD k [])) ∘ Nat.succ) = fun k => fb (nms.getD k []) := by funext k; simp
    rw [e]
    have e2 : ((List.range nms.length).filter (fun k => fb (nms.getD k []))).map (fun k => ((j + 1 + k : Nat) : Int) + 1) = (((List.range nms.length).filter (fun k => fb (nms.getD k []))).map Nat.succ).map (fun k => ((j + k : Nat) : Int) + 1) := by
      rw [List.map_map]
      apply List.map_congr_left
      intro k _
      simp only [Function.comp]
      omega
    have e0 : fb ((nm :: nms).getD 0 []) = fb nm := by simp
    rw [e2, e0]
    by_cases hb : fb nm = true
    · rw [if_pos hb, if_pos hb, List.map_cons]
      rfl
    · rw [if_neg hb, if_neg hb]
theorem due_eq {sel : Option (List Nat) → Bool} {fb : List Nat → Bool} (h0 : sel none = false) (nms : List (List Nat)) (h : ∀ nm ∈ nms, sel (some nm) = fb nm) :
    placesL sel 0 (none :: nms.map some) = ((List.range nms.length).filter (fun k => fb (nms.getD k []))).map (fun k => ((k : Nat) : Int) + 1) := by
  rw [placesL, if_neg (by rw [h0]; decide), due_tail nms 0 h]
  apply List.map_congr_left
  intro k _
  omega
theorem ints_map {α : Type} {f : α → Int} {xs : List α} {ys : List Value} (h : All2 (fun x y => ∃ t, y = Value.int (f x) t) xs ys) : IntsAre ys (xs.map f) := by
  induction h with
  | nil => exact .nil
  | cons h _ ih => obtain ⟨t, rfl⟩ := h; exact .cons _ t ih
end
section
open PySem PySem.W PyProof.Rows PySem.Calls
set_option maxRecDepth 100000
set_option maxHeartbeats 8000000
set_option linter.unusedVariables false
theorem refusal_call {w : World} {loose : List Str} {mean : ExcName → Option Value} {mg mb : Str → Option Value} {dp un : Nat} {gd : Option (List Code)} {env : Env} {s : Shared} {Q E : Value → Shared → Prop} {l : List Nat} {t1 : Tok}
    {h₀ : Heap} {m : Str → Option Value} {news : List (Addr × Obj)}
    (G₀ : Gd w loose mean mg mb h₀) (hd : dp + 2 < recursionLimit) (hu : un + 40 < cLine) (hf : env.frame = some env.locals) (hk : env.scope.kind = .function) (F : Fr h₀ env.locals s.heap m) (N : News h₀ env.locals s.heap news) (h16 : (16, tabObj #[]) ∈ news) (hl : l.length ≤ 1000)
    (e1 : (l == [123, 42, 125, 42]) = false) (e2 : (l == [123, 125, 42]) = false) (e3 : (List.take (Int.toNat 3) l == [123, 42, 125]) = false) (e4 : (List.drop (l.length - (-(-2 : Int)).toNat) l == [125, 42]) = false)
    (h : ∀ t h' tk', Fr h₀ env.locals h' m → News h₀ env.locals h' news → Q (.str (st ([105,110,116,101,114,110,97,108,32,112,97,114,115,101,114,32,101,114,114,111,114,44,32,103,111,116,32] ++ l)) t) { s with heap := h', toks := tk' }) :
    wpAny (model PySem.Challenge.rw_nq0080_01.row.prog w) (AA dp un gd [env]) (call (.ref 101) [.str (st l) t1]) Q E s := by
  have off : ∀ b o, h₀.get? b = some o → b ≠ env.locals := fun b o e q => by
    have := Heap.lt_size e
    rw [q] at this
    exact absurd (Nat.lt_of_lt_of_le this F.above) (Nat.lt_irrefl _)
  have stay : ∀ b o, b ≠ env.locals → s.heap.get? b = some o → (hideAll s.heap [env.locals]).get? b = some o := fun b o hb e => hideAll_get _ e (by simpa using hb)
  have kb : Keep h₀ (hideAll s.heap [env.locals]) := fun b o e => stay b o (off b o e) (F.keep b o e)
  refine refusal_spec (G₀.keeps kb) (Nat.le_of_eq (hideAll_size _ _)) hd hu (Tab.start (N _ h16).1) hl e1 e2 e3 e4 ⟨rfl, fun b o e => of_hideAll _ e, .cons (by rw [hk]; decide) hf F.ns (hideAll_none _ (List.Mem.head _)) trivial⟩ fun t h' tk' hs hup => ?_
  refine h t h' tk' ⟨hup.ns F.ns, fun b o e => hs _ _ (kb b o e), F.above⟩ fun p hp => ⟨hs _ _ (stay _ _ (N p hp).2.1 (N p hp).1), (N p hp).2⟩
end
section
open PySem PySem.W PyProof.Rows PySem.Calls
set_option maxRecDepth 100000
set_option maxHeartbeats 8000000
set_option linter.unusedVariables false
structure WantOk (w : World) (wc : List Nat) (kind : Int) (word : List Nat) (sel : Option (List Nat) → Bool) (fb : List Nat → List (Int × Int) → Bool) : Prop where
  prep : ∀ {loose : List Str} {mean : ExcName → Option Value} {mg mb : Str → Option Value} {dp un : Nat} {gd : Option (List Code)} {fr : List Env} {s : Shared} {Q E : Value → Shared → Prop} {t1 : Tok},
    Gd w loose mean mg mb s.heap → dp + 1 < recursionLimit → un + 20 < cLine → Tab 16 selQ s.heap →
    (∀ f h' tk' objs, KeepB 16 s.heap h' → Tab 16 selQ h' → s.heap.get? f = none → Fresh16 s.heap h' objs → SelOk w objs f sel → Q (.ref f) { s with heap := h', toks := tk' }) →
    wpAny (model PySem.Challenge.rw_nq0080_01.row.prog w) (AA dp un gd fr) (call (.ref 21) [.str (st wc) t1]) Q E s
  fits : ∀ {loose : List Str} {mean : ExcName → Option Value} {mg mb : Str → Option Value} {dp un : Nat} {gd : Option (List Code)} {fr : List Env} {s : Shared} {Q E : Value → Shared → Prop} {base : List Nat} {t0 t1 t2 : Tok} {l : Addr} {items : Array Value} {xs : List (Int × Int)},
    Gd w loose mean mg mb s.heap → dp + 1 < recursionLimit → un + 20 < cLine → base.length ≤ 1000 → s.heap.IsList l items → PairsAt s.heap items xs → xs.length ≤ 40 →
    (∀ h' tk', Keep s.heap h' → Q (.bool (fb base xs)) { s with heap := h', toks := tk' }) →
    wpAny (model PySem.Challenge.rw_nq0080_01.row.prog w) (AA dp un gd fr) (call (.ref 87) [.int kind t0, .str (st word) t1, .str (st base) t2, .ref l]) Q E s
  none : sel none = false
  agree : ∀ nm base xs, Steps base xs nm → nm ≠ [] → sel (some nm) = fb base xs
theorem want0 (w : World) : WantOk w [123, 42, 125, 42] 0 [] (fun o => o.isSome) (fun _ _ => true) where
  prep G hd hu Tb h := prep_all G hd hu Tb (by decide) (by decide) h
  fits G hd hu hb hl hp hlen h := fits0 G hd hu hb (by decide) hl hp hlen h
  none := rfl
  agree nm base xs h hn := rfl
theorem want1 (w : World) : WantOk w [123, 125, 42] 1 [] (fun o => match o with | some (c :: _) => c != 123 | _ => false) (fun base xs => base.take 1 != [123] || xs.any (fun q => q.1 == 0)) where
  prep G hd hu Tb h := prep_nons G hd hu Tb (by decide) (by decide) (by decide) h
  fits G hd hu hb hl hp hlen h := fits1 G hd hu hb (by decide) hl hp hlen h
  none := rfl
  agree nm base xs h hn := by
    rw [← steps_first h]
    cases nm with
    | nil => exact absurd rfl hn
    | cons c r =>
      show (c != 123) = ([c] != [123])
      by_cases hc : c = 123
      · subst hc; rfl
      · have : ([c] == [123]) = false := by simpa using hc
        simp [bne, this, hc]
theorem want2 (w : World) (wc : List Nat) (h3 : wc.take 3 = [123, 42, 125]) (h4 : (wc == [123, 42, 125, 42]) = false) (hl : wc.length ≤ 100) (hl2 : 2 < wc.length) (ha : ∀ c ∈ wc.drop 2, c < 128) :
    WantOk w wc 2 (wc.drop 2) (fun o => match o with | some l' => (l' == wc.drop 3) || (l'.drop (l'.length - (wc.drop 2).length) == wc.drop 2) | none => false)
      (fun base xs => (base == (wc.drop 2).drop 1 && xs.isEmpty) || (base.drop (base.length - (wc.drop 2).length) == wc.drop 2 && xs.all (fun q => decide ((wc.drop 2).length ≤ q.2)))) where
  prep G hd hu Tb h := prep_suf G hd hu Tb (by omega) h4 (by
    cases q : wc == [123, 125, 42] with
    | false => rfl
    | true => rw [eq_of_beq q] at h3; revert h3; decide) (by show (List.take 3 wc == _) = true; rw [h3]; rfl) hl2 h
  fits G hd hu hb hl' hp hlen h := fits2 G hd hu hb (by rw [List.length_drop]; omega) hl' hp hlen h
  none := rfl
  agree nm base xs h hn := by
    have e1 := steps_eq (v := wc.drop 3) h fun c hc => ha c (List.mem_of_mem_drop (i := 1) (by rw [List.drop_drop]; exact hc))
    have e2 := steps_suf (w := wc.drop 2) h ha
    show ((nm == wc.drop 3) || (nm.drop (nm.length - (wc.drop 2).length) == wc.drop 2)) = _
    rw [e1, e2, List.drop_drop]
theorem want3 (w : World) (wc : List Nat) (h1 : (wc == [123, 42, 125, 42]) = false) (h2 : (wc == [123, 125, 42]) = false) (h3 : (wc.take 3 == [123, 42, 125]) = false) (h4 : (wc.drop (wc.length - 2) == [125, 42]) = true) (hl : wc.length ≤ 100) (ha : ∀ c ∈ wc.take (wc.length - 1), c < 128) :
    WantOk w wc 3 (wc.take (wc.length - 1)) (fun o => match o with | some l' => l'.take (wc.take (wc.length - 1)).length == wc.take (wc.length - 1) | none => false)
      (fun base xs => base.take (wc.take (wc.length - 1)).length == wc.take (wc.length - 1) && xs.all (fun q => decide ((wc.take (wc.length - 1)).length ≤ q.1))) where
  prep G hd hu Tb h := prep_pre G hd hu Tb (by omega) h1 h2 h3 h4 h
  fits G hd hu hb hl' hp hlen h := fits3 G hd hu hb (by rw [List.length_take]; omega) hl' hp hlen h
  none := rfl
  agree nm base xs h hn := by
    have e2 := steps_pre (w := wc.take (wc.length - 1)) h ha
    show (nm.take (wc.take (wc.length - 1)).length == wc.take (wc.length - 1)) = _
    rw [e2]
def Want (w : World) (wc : List Nat) (kind : Int) (word : List Nat) : Prop := ∃ sel fb, WantOk w wc kind word sel fb
theorem wants (w : World) : Want w [123, 42, 125, 42] 0 [] ∧ Want w [123, 125, 42] 1 [] ∧ Want w [123, 42, 125] 2 [125] ∧ Want w [123, 42, 125, 98] 2 [125, 98] ∧ Want w [123, 42, 125, 117, 125, 98] 2 [125, 117, 125, 98] ∧
    Want w [123, 117, 125, 42] 3 [123, 117, 125] ∧ Want w [123, 98, 125, 42] 3 [123, 98, 125] ∧ Want w [123, 117, 125, 98, 125, 42] 3 [123, 117, 125, 98, 125] :=
  ⟨⟨_, _, want0 w⟩, ⟨_, _, want1 w⟩, ⟨_, _, want2 w [123, 42, 125] rfl rfl (by decide) (by decide) (by decide)⟩, ⟨_, _, want2 w [123, 42, 125, 98] rfl rfl (by decide) (by decide) (by decide)⟩,
    ⟨_, _, want2 w [123, 42, 125, 117, 125, 98] rfl rfl (by decide) (by decide) (by decide)⟩, ⟨_, _, want3 w [123, 117, 125, 42] rfl rfl rfl rfl (by decide) (by decide)⟩, ⟨_, _, want3 w [123, 98, 125, 42] rfl rfl rfl rfl (by decide) (by decide)⟩,
    ⟨_, _, want3 w [123, 117, 125, 98, 125, 42] rfl rfl rfl rfl (by decide) (by decide)⟩⟩
theorem refused_off {nm : List Nat} (h : ∀ c ∈ nm, c ≠ 42) : (nm == [123, 42, 125, 42]) = false ∧ (nm == [123, 125, 42]) = false ∧ (List.take (Int.toNat 3) nm == [123, 42, 125]) = false ∧ (List.drop (nm.length - (-(-2 : Int)).toNat) nm == [125, 42]) = false := by
  have key : ∀ l v : List Nat, (∀ c ∈ l, c ∈ nm) → 42 ∈ v → (l == v) = false := fun l v hl hv => by
    cases q : l == v with
    | false => rfl
    | true => rw [eq_of_beq q] at hl; exact absurd rfl (h 42 (hl 42 hv))
  exact ⟨key _ _ (fun _ x => x) (by decide), key _ _ (fun _ x => x) (by decide), key _ _ (fun _ x => List.mem_of_mem_take x) (by decide), key _ _ (fun _ x => List.mem_of_mem_drop x) (by decide)⟩
end
section
open PySem PySem.W PyProof.Rows PySem.Calls
set_option maxRecDepth 100000
set_option maxHeartbeats 8000000
set_option linter.unusedVariables false
inductive RowS (h₀ : Heap) (TB : List (Addr × Obj)) : Nat → List Value → List (Option (List Nat)) → Prop
  | nil {k : Nat} : RowS h₀ TB k [] []
  | cons {k : Nat} {a : Addr} {tv : Value} {t : Tok} {o : Option (List Nat)} {vs : List Value} {os : List (Option (List Nat))} : Sup0 h₀ TB (fun h => Thing h a tv (.int (k : Int) t)) → TagIs tv o → RowS h₀ TB (k + 1) vs os → RowS h₀ TB k (.ref a :: vs) (o :: os)
theorem RowS.mono {h₀ : Heap} {TB TB' : List (Addr × Obj)} (hk : ∀ p ∈ TB, p ∈ TB') {k : Nat} {vs : List Value} {os : List (Option (List Nat))} (r : RowS h₀ TB k vs os) : RowS h₀ TB' k vs os := by
  induction r with
  | nil => exact .nil
  | cons x y _ ih => exact .cons (x.mono hk) y ih
theorem RowS.snoc {h₀ : Heap} {TB : List (Addr × Obj)} {a : Addr} {tv : Value} {t : Tok} {o : Option (List Nat)} {k : Nat} {vs : List Value} {os : List (Option (List Nat))} (r : RowS h₀ TB k vs os) :
    ∀ j : Nat, j = k + vs.length → Sup0 h₀ TB (fun h => Thing h a tv (.int (j : Int) t)) → TagIs tv o → RowS h₀ TB k (vs ++ [.ref a]) (os ++ [o]) := by
  induction r with
  | @nil k =>
    intro j e x y
    have e : j = k := by simpa using e
    subst e
    exact .cons x y .nil
  | cons x y _ ih => exact fun j e x' y' => .cons x y (ih j (by rw [e, List.length_cons]; omega) x' y')
theorem RowS.length {h₀ : Heap} {TB : List (Addr × Obj)} {k : Nat} {vs : List Value} {os : List (Option (List Nat))} (r : RowS h₀ TB k vs os) : vs.length = os.length := by
  induction r with
  | nil => rfl
  | cons _ _ _ ih => simp [ih]
theorem RowS.at {h₀ h : Heap} {TB : List (Addr × Obj)} (hk : Keep h₀ h) (hp : ∀ p ∈ TB, h.get? p.1 = some p.2) {k : Nat} {vs : List Value} {os : List (Option (List Nat))} (r : RowS h₀ TB k vs os) : RowL h k vs os := by
  induction r with
  | nil => exact .nil
  | cons x y _ ih => exact .cons (x h hk hp) y ih
def ToldAt (TB : List (Addr × Obj)) (v : Value) (nm : List Nat) : Prop := ∃ (T : Addr) (t : Tok) (P : Addr) (its : Array Value) (n u : Nat) (ps : List (Nat × Nat)), v = Value.ref T ∧
  (T, ({ cls := .type "tuple", data := .seq #[.str (st (curF nm [])) t, .ref P] u } : Obj)) ∈ TB ∧ (P, listOf its n) ∈ TB ∧ Order nm ps ∧ All2 (PairAt TB) its.toList (placesF (curF nm []).length (-1) (gapsF nm (curF nm []).length 128 0 ps)) ∧ ps.length ≤ nm.length
theorem ToldAt.mono {TB TB' : List (Addr × Obj)} {v : Value} {nm : List Nat} (x : ToldAt TB v nm) (k : ∀ p ∈ TB, p ∈ TB') : ToldAt TB' v nm :=
  let ⟨T, t, P, its, n, u, ps, e, h1, h2, h3, h4, h5⟩ := x
  ⟨T, t, P, its, n, u, ps, e, k _ h1, k _ h2, h3, h4.mono fun a b y => y.mono k, h5⟩
structure LInv (h₀ : Heap) (ROW TD cK cW : Addr) (OB : List (Addr × Obj)) (nms : List (List Nat)) (i : Nat) (rowv toldv : List Value) (ps : Array Value) (TB : List (Addr × Obj)) : Prop where
  off : ∀ p ∈ TB, p.1 ≠ ROW ∧ p.1 ≠ TD ∧ p.1 ≠ 89 ∧ p.1 ≠ 16 ∧ p.1 ≠ cK ∧ p.1 ≠ cW
  tab : Sup0 h₀ ((89, tabObj ps) :: TB) (Tab 89 lamQ)
  ob : ∀ p ∈ OB, p ∈ TB
  row : RowS h₀ TB 0 rowv (none :: (nms.take i).map some)
  told : All2 (ToldAt TB) toldv (nms.take i)
theorem not_rec {o : Obj} (h : ∀ vs, o.data ≠ .fields vs) : ¬ RecLike o := fun ⟨vs, _, _, e, _⟩ => h vs e
theorem not_rec0 : ¬ RecLike (tabObj #[]) := fun ⟨vs, _, _, e, e2⟩ => by cases e; simp at e2
theorem ob_off {h h' h₀ : Heap} {L : Addr} {news' : List (Addr × Obj)} {p q : Addr × Obj} (N' : News h₀ L h' news') (hq : q ∈ news') (hp : p ∈ news') (live : ∃ o, h.get? q.1 = some o) (ho : h.get? p.1 = none ∨ RecLike p.2) (hd : ¬ RecLike q.2) : p.1 ≠ q.1 := fun e => by
  rcases ho with ho | hr
  · obtain ⟨o, ho2⟩ := live
    rw [← e, ho] at ho2; cases ho2
  · have h1 := (N' p hp).1
    have h2 := (N' q hq).1
    rw [e, h2] at h1
    exact hd (by rw [Option.some.inj h1]; exact hr)
theorem allLt_mem {d : Addr} : ∀ {l : List (Addr × Obj)}, AllLt d l → ∀ p ∈ l, p.1 < d
  | [], _, p, hp => by cases hp
  | q :: r, h, p, hp => by
    rcases List.mem_cons.mp hp with rfl | hp
    · exact h.1
    · exact allLt_mem h.2 p hp
theorem take_succ_some {α : Type} {l : List α} {i : Nat} {x : α} (h : l[i]? = some x) : l.take (i + 1) = l.take i ++ [x] := by
  rw [List.take_add_one, h]; rfl
end
section
open PySem PySem.W PyProof.Rows PySem.Calls
set_option maxRecDepth 100000
set_option maxHeartbeats 8000000
set_option linter.unusedVariables false
section
variable {M : Model} {A : Around} {E : Value → Shared → Prop} {s : Shared} {Q : Value → Shared → Prop}
theorem iadd_slot {a b : Addr} (ha : s.TypeIs (.ref a) "list") (hb : s.TypeIs (.ref b) "list") (hc : wpAny M A (call (.builtin "list.__iadd__") [.ref a, .ref b]) Q E s) : wpAny M A (inplaceOp .Add (.ref a) (.ref b)) Q E s := by
  unfold inplaceOp
  refine wpAny_holding ?_
  have hl : typeLookup (.type "list") (dunderI "add") = pure (some (.builtin "list.__iadd__")) := F.slot_list_iadd.lookup
  have hfi : fillsInplaceSlot (.type "list") "add" (Operator.Add == .Add) = pure false := by
    unfold fillsInplaceSlot
    show (typeLookup (.type "list") (dunderI "add") >>= fun fi => pure (fi.isSome && !isSeqSlot fi)) = pure false
    rw [hl]; rfl
  have hsi : seqSlot? (.type "list") (dunderI "add") = pure (some (.builtin "list.__iadd__")) := PySem.seqSlot_of hl (by decide +kernel)
  refine wpAny_bind (wpAny_typeOf ha (wpAny_bind (wpAny_of_eq hfi ?_)))
  show wpAny M A (if false = true then _ else _) Q E s
  rw [if_neg Bool.false_ne_true]
  refine wpAny_bind (wpAny_binaryOp1_none (nm := "add") ha hb noFill_list_add ?_)
  refine wpAny_bind (wpAny_of_eq hsi ?_)
  exact wpAny_bind (wpAny_rule hc)
end
section
variable {prog : Program} {w : World} {A : Around} {E : Value → Shared → Prop} {s : Shared} {h₀ : Heap} {L D b : Addr} {m : Str → Option Value} {news : List (Addr × Obj)}
theorem iadd_news {xs ys : List Value} {n n2 : Nat} {Q : Value → Shared → Prop} (F : Fr h₀ L s.heap m) (N : News h₀ L s.heap news) (hm : (D, listOf (List.toArray xs) n) ∈ news) (hb : (b, listOf (List.toArray ys) n2) ∈ news) (hsz : xs.length + ys.length ≤ 1000) (hl : ¬(!(List.toArray xs).isEmpty && Builtin.List.listTooLong ((List.toArray xs).size + (List.toArray ys).size)) = true)
    (h : ∀ h' n', Fr h₀ L h' m → News h₀ L h' ((D, listOf (List.toArray (xs ++ ys)) n') :: news.filter (fun p => p.1 != D)) → Q (.ref D) { s with heap := h' }) :
    wpAny (model prog w) A (inplaceOp .Add (.ref D) (.ref b)) Q E s := by
  have hD := N _ hm
  have hB := N _ hb
  dsimp only at hD hB
  refine iadd_slot ⟨_, hD.1, rfl⟩ ⟨_, hB.1, rfl⟩ (call_meets PySem.F.slot_list_iadd ⟨_, hD.1, rfl⟩ PySem.F.entry_list_iadd (PySem.F.args_list_iadd_2 _ _) (PySem.AutoSeq1.list___iadd___list_list_0 D _ n b _ n2 hl (by rw [sizeLine_eq]; simp; omega) (by rw [sizeLine_eq]; simp; omega)) ⟨hD.1, hB.1, ?_⟩)
  have hs : Heap.SameBut D s.heap (s.heap.update D (Obj.mapSeq fun x => x ++ List.toArray ys)) := Heap.SameBut.update ..
  have hg := Heap.get?_update_self (Obj.mapSeq fun x => x ++ List.toArray ys) hD.1 rfl
  refine h _ (if (List.toArray (xs ++ ys)).size == (List.toArray xs).size then n else n + 1) ⟨F.ns.sameBut hs (Ne.symm hD.2.1), fun b o e => (hs.2 b fun q => ?_).trans (F.keep b o e), F.above⟩ fun p hp => ?_
  · rw [q, hD.2.2] at e; cases e
  · rcases List.mem_cons.mp hp with rfl | hp
    · refine ⟨hg.trans ?_, hD.2⟩
      have e : List.toArray xs ++ List.toArray ys = List.toArray (xs ++ ys) := by simp
      rw [← e]; rfl
    · obtain ⟨h1, h2⟩ := List.mem_filter.mp hp
      exact ⟨(hs.2 _ (by simpa using h2)).trans (N p h1).1, (N p h1).2⟩
def WantO (o : Obj) (q : List Nat × Int × List Nat) : Prop := ∃ t u x, o = { cls := .type "tuple", data := .seq #[.str (st q.1) t, .int q.2.1 u, .str (st q.2.2) x] }
def WantAt (objs : List (Addr × Obj)) (v : Value) (q : List Nat × Int × List Nat) : Prop := ∃ (T : Addr) (o : Obj), v = Value.ref T ∧ (T, o) ∈ objs ∧ WantO o q
theorem wantAt_of {objs : List (Addr × Obj)} {T : Addr} {o : Obj} {q : List Nat × Int × List Nat} (w : WantO o q) (h : (T, o) ∈ objs) : WantAt objs (.ref T) q := ⟨T, o, rfl, h, w⟩
def wantedL : List (List Nat × Int × List Nat) := [([123, 42, 125, 42], 0, []), ([123, 125, 42], 1, []), ([123, 42, 125], 2, [125]), ([123, 42, 125, 98], 2, [125, 98]), ([123, 42, 125, 117, 125, 98], 2, [125, 117, 125, 98]), ([123, 117, 125, 42], 3, [123, 117, 125]), ([123, 98, 125, 42], 3, [123, 98, 125]), ([123, 117, 125, 98, 125, 42], 3, [123, 117, 125, 98, 125])]
theorem want_ne {h₀ h : Heap} {L : Addr} {news : List (Addr × Obj)} (N : News h₀ L h news) {T D : Addr} {o : Obj} {xs : Array Value} {n : Nat} {q : List Nat × Int × List Nat} (w : WantO o q) (h1 : (T, o) ∈ news) (h2 : (D, listOf xs n) ∈ news) : T ≠ D := news_ne N h1 h2 fun e => by
  obtain ⟨_, _, _, rfl⟩ := w
  have := congrArg Obj.cls e
  exact absurd this (by show Value.type "tuple" ≠ Value.type "list"; decide)
theorem wanted_add {T1 T2 T3 T4 T5 T6 T7 T8 WL W3 : Addr} {o1 o2 o3 o4 o5 o6 o7 o8 : Obj} {nW n3 : Nat} {rest : List (Addr × Obj)} {Q : Value → Shared → Prop} (F : Fr h₀ L s.heap m) (N : News h₀ L s.heap ((W3, listOf (List.toArray [.ref T6, .ref T7, .ref T8]) n3) :: (T8, o8) :: (T7, o7) :: (T6, o6) :: (WL, listOf (List.toArray [.ref T1, .ref T2, .ref T3, .ref T4, .ref T5]) nW) :: (T5, o5) :: (T4, o4) :: (T3, o3) :: (T2, o2) :: (T1, o1) :: rest)) (hlt : ∀ p ∈ rest, p.1 < WL)
    (w1 : WantO o1 ([123, 42, 125, 42], 0, [])) (w2 : WantO o2 ([123, 125, 42], 1, [])) (w3 : WantO o3 ([123, 42, 125], 2, [125])) (w4 : WantO o4 ([123, 42, 125, 98], 2, [125, 98])) (w5 : WantO o5 ([123, 42, 125, 117, 125, 98], 2, [125, 117, 125, 98])) (w6 : WantO o6 ([123, 117, 125, 42], 3, [123, 117, 125])) (w7 : WantO o7 ([123, 98, 125, 42], 3, [123, 98, 125])) (w8 : WantO o8 ([123, 117, 125, 98, 125, 42], 3, [123, 117, 125, 98, 125]))
    (h : ∀ h' n' wv WT, Fr h₀ L h' m → News h₀ L h' ((WL, listOf (List.toArray wv) n') :: (WT ++ rest)) → All2 (WantAt WT) wv wantedL → (∀ p ∈ WT, ∃ q, WantO p.2 q) → Q (.ref WL) { s with heap := h' }) :
    wpAny (model prog w) A (inplaceOp .Add (.ref WL) (.ref W3)) Q E s := by
  refine iadd_news F N (xs := [.ref T1, .ref T2, .ref T3, .ref T4, .ref T5]) (ys := [.ref T6, .ref T7, .ref T8]) (n := nW) (n2 := n3) (by simp) (by simp) (by simp) (by show ¬((!false && Builtin.List.listTooLong 8) = true); decide) fun h' n' F' N' => h h' n' [.ref T1, .ref T2, .ref T3, .ref T4, .ref T5, .ref T6, .ref T7, .ref T8] [(T1, o1), (T2, o2), (T3, o3), (T4, o4), (T5, o5), (T6, o6), (T7, o7), (T8, o8)] F' (fun p hp => ?_) (.cons (wantAt_of w1 (List.Mem.head _)) (.cons (wantAt_of w2 (List.Mem.tail _ (List.Mem.head _))) (.cons (wantAt_of w3 (List.Mem.tail _ (List.Mem.tail _ (List.Mem.head _)))) (.cons (wantAt_of w4 (List.Mem.tail _ (List.Mem.tail _ (List.Mem.tail _ (List.Mem.head _))))) (.cons (wantAt_of w5 (List.Mem.tail _ (List.Mem.tail _ (List.Mem.tail _ (List.Mem.tail _ (List.Mem.head _)))))) (.cons (wantAt_of w6 (List.Mem.tail _ (List.Mem.tail _ (List.Mem.tail _ (List.Mem.tail _ (List.Mem.tail _ (List.Mem.head _))))))) (.cons (wantAt_of w7 (List.Mem.tail _ (List.Mem.tail _ (List.Mem.tail _ (List.Mem.tail _ (List.Mem.tail _ (List.Mem.tail _ (List.Mem.head _)))))))) (.cons (wantAt_of w8 (List.Mem.tail _ (List.Mem.tail _ (List.Mem.tail _ (List.Mem.tail _ (List.Mem.tail _ (List.Mem.tail _ (List.Mem.tail _ (List.Mem.head _))))))))) .nil)))))))) (fun p hp => ?_)
  rotate_left
  · revert p hp
    refine all_cons ?_ (all_cons ?_ (all_cons ?_ (all_cons ?_ (all_cons ?_ (all_cons ?_ (all_cons ?_ (all_cons ?_ (List.forall_mem_nil _))))))))
    · exact ⟨_, w1⟩
    · exact ⟨_, w2⟩
    · exact ⟨_, w3⟩
    · exact ⟨_, w4⟩
    · exact ⟨_, w5⟩
    · exact ⟨_, w6⟩
    · exact ⟨_, w7⟩
    · exact ⟨_, w8⟩
  rcases List.mem_cons.mp hp with rfl | hp1
  · exact N' _ (List.Mem.head _)
  clear hp
  rcases List.mem_append.mp hp1 with hp | hp
  · clear hp1
    revert p hp
    refine all_cons ?_ (all_cons ?_ (all_cons ?_ (all_cons ?_ (all_cons ?_ (all_cons ?_ (all_cons ?_ (all_cons ?_ (List.forall_mem_nil _))))))))
    · exact N' _ (mem_off (by repeat (first | with_reducible exact List.mem_cons_self | with_reducible refine List.mem_cons_of_mem _ ?_)) (want_ne N w1 (D := WL) (xs := List.toArray [.ref T1, .ref T2, .ref T3, .ref T4, .ref T5]) (n := nW) (by repeat (first | with_reducible exact List.mem_cons_self | with_reducible refine List.mem_cons_of_mem _ ?_)) (by repeat (first | with_reducible exact List.mem_cons_self | with_reducible refine List.mem_cons_of_mem _ ?_))) _)
    · exact N' _ (mem_off (by repeat (first | with_reducible exact List.mem_cons_self | with_reducible refine List.mem_cons_of_mem _ ?_)) (want_ne N w2 (D := WL) (xs := List.toArray [.ref T1, .ref T2, .ref T3, .ref T4, .ref T5]) (n := nW) (by repeat (first | with_reducible exact List.mem_cons_self | with_reducible refine List.mem_cons_of_mem _ ?_)) (by repeat (first | with_reducible exact List.mem_cons_self | with_reducible refine List.mem_cons_of_mem _ ?_))) _)
    · exact N' _ (mem_off (by repeat (first | with_reducible exact List.mem_cons_self | with_reducible refine List.mem_cons_of_mem _ ?_)) (want_ne N w3 (D := WL) (xs := List.toArray [.ref T1, .ref T2, .ref T3, .ref T4, .ref T5]) (n := nW) (by repeat (first | with_reducible exact List.mem_cons_self | with_reducible refine List.mem_cons_of_mem _ ?_)) (by repeat (first | with_reducible exact List.mem_cons_self | with_reducible refine List.mem_cons_of_mem _ ?_))) _)
    · exact N' _ (mem_off (by repeat (first | with_reducible exact List.mem_cons_self | with_reducible refine List.mem_cons_of_mem _ ?_)) (want_ne N w4 (D := WL) (xs := List.toArray [.ref T1, .ref T2, .ref T3, .ref T4, .ref T5]) (n := nW) (by repeat (first | with_reducible exact List.mem_cons_self | with_reducible refine List.mem_cons_of_mem _ ?_)) (by repeat (first | with_reducible exact List.mem_cons_self | with_reducible refine List.mem_cons_of_mem _ ?_))) _)
    · exact N' _ (mem_off (by repeat (first | with_reducible exact List.mem_cons_self | with_reducible refine List.mem_cons_of_mem _ ?_)) (want_ne N w5 (D := WL) (xs := List.toArray [.ref T1, .ref T2, .ref T3, .ref T4, .ref T5]) (n := nW) (by repeat (first | with_reducible exact List.mem_cons_self | with_reducible refine List.mem_cons_of_mem _ ?_)) (by repeat (first | with_reducible exact List.mem_cons_self | with_reducible refine List.mem_cons_of_mem _ ?_))) _)
    · exact N' _ (mem_off (by repeat (first | with_reducible exact List.mem_cons_self | with_reducible refine List.mem_cons_of_mem _ ?_)) (want_ne N w6 (D := WL) (xs := List.toArray [.ref T1, .ref T2, .ref T3, .ref T4, .ref T5]) (n := nW) (by repeat (first | with_reducible exact List.mem_cons_self | with_reducible refine List.mem_cons_of_mem _ ?_)) (by repeat (first | with_reducible exact List.mem_cons_self | with_reducible refine List.mem_cons_of_mem _ ?_))) _)
    · exact N' _ (mem_off (by repeat (first | with_reducible exact List.mem_cons_self | with_reducible refine List.mem_cons_of_mem _ ?_)) (want_ne N w7 (D := WL) (xs := List.toArray [.ref T1, .ref T2, .ref T3, .ref T4, .ref T5]) (n := nW) (by repeat (first | with_reducible exact List.mem_cons_self | with_reducible refine List.mem_cons_of_mem _ ?_)) (by repeat (first | with_reducible exact List.mem_cons_self | with_reducible refine List.mem_cons_of_mem _ ?_))) _)
    · exact N' _ (mem_off (by repeat (first | with_reducible exact List.mem_cons_self | with_reducible refine List.mem_cons_of_mem _ ?_)) (want_ne N w8 (D := WL) (xs := List.toArray [.ref T1, .ref T2, .ref T3, .ref T4, .ref T5]) (n := nW) (by repeat (first | with_reducible exact List.mem_cons_self | with_reducible refine List.mem_cons_of_mem _ ?_)) (by repeat (first | with_reducible exact List.mem_cons_self | with_reducible refine List.mem_cons_of_mem _ ?_))) _)
  · exact N' _ (mem_off (by simp [hp]) (Nat.ne_of_lt (hlt p hp)) _)
end
end
section
open PySem PySem.W PyProof.Rows PySem.Calls
set_option maxRecDepth 100000
set_option maxHeartbeats 8000000
set_option linter.unusedVariables false
theorem want_all (w : World) : ∀ q ∈ wantedL, Want w q.1 q.2.1 q.2.2 := by
  intro q hq
  obtain ⟨w1, w2, w3, w4, w5, w6, w7, w8⟩ := wants w
  simp only [wantedL, List.mem_cons, List.not_mem_nil, or_false] at hq
  rcases hq with rfl | rfl | rfl | rfl | rfl | rfl | rfl | rfl <;> assumption
theorem nmG {prog : Program} {w : World} {A : Around} {E : Value → Shared → Prop} {s : Shared} {env : Env} {K : Frag} {h₀ : Heap} {p : Program} {loose : List Str} {mean : ExcName → Option Value} {mg mb : Str → Option Value} {n : Str} {pos : Pos} {v : Value} {Q : Value → Shared → Prop} (X : K.In h₀) (T : Top p loose mean mg mb h₀) (kp : Keep h₀ s.heap) (e : nsIn K mainGlobals n = some (some v)) (h : Q v s)
    (hk : env.scope.kind = .function) (hg : env.globals = mainGlobals) (hx : env.kindOf n = some .globalImplicit) (hd : (n == ("__debug__" : Str)) = false := by decide) :
    wpAny (model prog w) A (eval (.Name n pos) env) Q E s :=
  Name_function_global hk hx (loadGlobal_global (by rw [hg]; exact T.g.keeps kp) (mg_of X T.g e) h) hd
theorem pairs_at {TB : List (Addr × Obj)} {h : Heap} {its : Array Value} {xs : List (Int × Int)} (hobj : ∀ p ∈ TB, h.get? p.1 = some p.2) (x : All2 (PairAt TB) its.toList xs) : PairsAt h its xs :=
  x.mono fun v q ⟨a, t, u, n, e, hm⟩ => ⟨a, t, u, e, ⟨_, hobj _ hm, rfl, n, rfl⟩⟩
theorem prep_call {w : World} {loose : List Str} {mean : ExcName → Option Value} {mg mb : Str → Option Value} {dp un : Nat} {gd : Option (List Code)} {fr : List Env} {s : Shared} {Q E : Value → Shared → Prop} {wc word : List Nat} {kind : Int} {sel : Option (List Nat) → Bool} {fb : List Nat → List (Int × Int) → Bool} {t1 : Tok}
    {h₀ : Heap} {L : Addr} {m : Str → Option Value} {news : List (Addr × Obj)} {ps0 : Array Value}
    (W : WantOk w wc kind word sel fb) (G₀ : Gd w loose mean mg mb h₀) (hd : dp + 1 < recursionLimit) (hu : un + 20 < cLine) (F : Fr h₀ L s.heap m) (N : News h₀ L s.heap news) (hm : (16, tabObj ps0) ∈ news) (Tb : Tab 16 selQ s.heap)
    (h : ∀ f h' tk' (ps : Array Value) (ob1 ob2 : List (Addr × Obj)), Fr h₀ L h' m → News h₀ L h' ((16, tabObj ps) :: ((ob1 ++ ob2) ++ news.filter (fun p => p.1 != 16))) → (∀ p ∈ ob2, p.1 ≠ 16 ∧ RecLike p.2) →
      Sup0 h₀ ((16, tabObj ps) :: ob2) (Tab 16 selQ) → Sup0 h₀ ob1 (fun h2 => ∃ objs : List (Addr × Obj), (∀ p ∈ objs, h2.get? p.1 = some p.2) ∧ SelOk w objs f sel) → (∀ p ∈ ob1, p.1 ≠ 16 ∧ (s.heap.get? p.1 = none ∨ ∃ vs, p.2.data = .fields vs)) → Q (.ref f) { s with heap := h', toks := tk' }) :
    wpAny (model PySem.Challenge.rw_nq0080_01.row.prog w) (AA dp un gd fr) (call (.ref 21) [.str (st wc) t1]) Q E s := by
  refine W.prep (G₀.keeps F.keep) hd hu Tb fun f h' tk' ob kb tb' _ fresh sel => ?_
  obtain ⟨ps, tobjs, e1, e2, e3⟩ := tab_sup tb'
  have F' := fr_keepB F N hm kb
  have hoff : ∀ p ∈ ob, p.1 ≠ L := fun p hp => by
    rcases (fresh p hp).2.2 with hn | ⟨vs, hv⟩
    · exact (new_off F hn).1
    · intro e
      obtain ⟨o, _, _, ho, hd, _⟩ := F'.ns
      have := (fresh p hp).1
      rw [e, ho] at this
      rw [← Option.some.inj this, hd] at hv; cases hv
  refine h f h' tk' ps (ob.filter (fun p => (h₀.get? p.1).isNone)) (tobjs.filter (fun p => (h₀.get? p.1).isNone)) F' ?_ ?_ ?_ ?_ ?_
  · intro p hp
    rcases List.mem_cons.mp hp with rfl | hp
    · exact ⟨e1, (N _ hm).2⟩
    rcases List.mem_append.mp hp with hp | hp
    · rcases List.mem_append.mp hp with hp | hp
      · obtain ⟨h1, h2⟩ := List.mem_filter.mp hp
        exact ⟨(fresh p h1).1, hoff p h1, by simpa using h2⟩
      · obtain ⟨h1, h2⟩ := List.mem_filter.mp hp
        exact ⟨(e2 p h1).1, rec_off F'.ns (e2 p h1).1 (e2 p h1).2.2, by simpa using h2⟩
    · exact news_keepB N kb p hp
  · intro p hp
    have h1 := (List.mem_filter.mp hp).1
    exact ⟨(e2 p h1).2.1, (e2 p h1).2.2⟩
  · intro h2 hk hp
    refine e3 h2 (hp _ (List.Mem.head _)) fun p hp' => ?_
    cases q : h₀.get? p.1 with
    | none => exact hp p (List.mem_cons_of_mem _ (List.mem_filter.mpr ⟨hp', by rw [q]; rfl⟩))
    | some o =>
      have h5 := F'.keep _ _ q
      rw [(e2 p hp').1] at h5
      cases h5
      exact hk _ _ q
  · intro h2 hk hp
    refine ⟨ob, fun p hp' => ?_, sel⟩
    cases q : h₀.get? p.1 with
    | none => exact hp p (List.mem_filter.mpr ⟨hp', by rw [q]; rfl⟩)
    | some o =>
      have h5 := F'.keep _ _ q
      rw [(fresh p hp').1] at h5
      cases h5
      exact hk _ _ q
  · intro p hp
    have h1 := (List.mem_filter.mp hp).1
    exact ⟨(fresh p h1).2.1, (fresh p h1).2.2⟩
def EltP (s₃ : Shared) (z : Int) (y : Value) (s₄ : Shared) : Prop := (∃ t, y = Value.int z t) ∧ Keeps s₃ s₄
def EltT (s₃ : Shared) (v : Value) (y : Value) (s₄ : Shared) : Prop := y = v ∧ Keeps s₃ s₄
theorem places_len : ∀ (gs : List Int) (n l : Int), (placesF n l gs).length = gs.length
  | [], _, _ => rfl
  | _ :: gs, _, _ => by rw [placesF, List.length_cons, List.length_cons, places_len gs]
theorem sel_told {w : World} {wc word : List Nat} {kind : Int} {sel : Option (List Nat) → Bool} {fb : List Nat → List (Int × Int) → Bool} (W : WantOk w wc kind word sel fb) {nm : List Nat} {qs : List (Nat × Nat)} (hn : NameOk 33 nm) (hO : Order nm qs) :
    sel (some nm) = fb (curF nm []) (placesF ((curF nm []).length : Int) (-1) (gapsF nm ((curF nm []).length : Int) 128 0 qs)) :=
  W.agree nm _ _ (ins_told (fun x hx => by have := hn.2.2 x hx; unfold okCode at this; omega) qs [] 128 0 hO).2 hn.1
theorem asg_led {h₀ h h' : Heap} {L : Addr} {m m' : Str → Option Value} {news objs : List (Addr × Obj)} (F : Fr h₀ L h m) (N : News h₀ L h news) (hn : h'.Ns L m') (hk : ∀ b o, b ≠ L → h.get? b = some o → h'.get? b = some o) (M : Made h h' objs) : Fr h₀ L h' m' ∧ News h₀ L h' (objs ++ news) := by
  refine ⟨⟨hn, fun b o e => hk b o (fun q => ?_) (F.keep b o e), F.above⟩, fun p hp => ?_⟩
  · have := Heap.lt_size e
    rw [q] at this
    exact absurd (Nat.lt_of_lt_of_le this F.above) (Nat.lt_irrefl _)
  · rcases List.mem_append.mp hp with hp | hp
    · exact ⟨(M p hp).1, new_off F (M p hp).2⟩
    · exact ⟨hk _ _ (N p hp).2.1 (N p hp).1, (N p hp).2⟩
theorem rec_cell {h₀ h : Heap} {L : Addr} {news : List (Addr × Obj)} {p q : Addr × Obj} {v : Option Value} (N : News h₀ L h news) (hp : p ∈ news) (hq : q ∈ news) (hr : RecLike p.2) (hv : q.2.data = .cell v) : p.1 ≠ q.1 := news_ne N hp hq fun e => by
  obtain ⟨vs, x, t, e1, _⟩ := hr
  rw [e, hv] at e1; cases e1
end
section
open PySem PySem.W PyProof.Rows PySem.Calls
set_option maxRecDepth 100000
set_option maxHeartbeats 8000000
set_option linter.unusedVariables false
local macro_rules | `(tactic| walk_at "mine in") => `(tactic| (first | (with_reducible assumption) | (with_reducible exact List.mem_cons_self) | ((with_reducible refine List.mem_cons_of_mem _ ?_); walk_at "mine in") | ((with_reducible refine List.mem_append_left _ ?_); walk_at "mine in") | ((with_reducible refine List.mem_append_right _ ?_); walk_at "mine in")))
local macro_rules | `(tactic| walk_at "mine mem") => `(tactic| (first | (walk_at "mine in") | simp))
local macro_rules | `(tactic| walk_at "mine memp") => `(tactic| (first | (walk_at "mine in") | (simp only [List.mem_cons, List.mem_append]; simp only [*, true_or, or_true])))
local macro_rules | `(tactic| walk_at "eval Name") => `(tactic| ((with_reducible show wpAny _ _ (eval (Expr.Name _ _) (compEnvC _ _ _ _)) _ _ _); first
  | (refine wpAny_Name (wpAny_loadName_local rfl rfl (by assumption) (by assumption) ?_))
  | (refine wpAny_Name (wpAny_loadName_cell rfl rfl rfl (by assumption) ?_))
  | (refine nmG (v := Value.ref 87) (by assumption) (by assumption) (by assumption) (by kernel_rfl) ?_ rfl rfl rfl)
  | (refine nmC (by assumption) (by assumption) (by assumption) (by k_is) (by boot_fast) (by decide) ?_ rfl rfl rfl rfl)))
local macro_rules | `(tactic| walk_at "mine steps") => `(tactic| (repeat' (first
  | (k_unfold; (try dsimp only))
  | ((fail_if_success (with_reducible show wpAny _ _ (eval (Expr.ListComp _ _ _ _) _) _ _ _)); (fail_if_success (with_reducible show wpAny _ _ (exec (Stmt.For _ _ _ _ _) _) _ _ _)); (fail_if_success (with_reducible show wpAny _ _ (exec (Stmt.Assign _ (Expr.ListComp _ _ _ _) _) _) _ _ _)); (fail_if_success (with_reducible show wpAny _ _ (binaryOp _ (Value.ref _) (Value.ref _)) _ _ _)); (fail_if_success (with_reducible show wpAny _ _ (compareOp _ (Value.ref _) (Value.ref _)) _ _ _)); first | walk1 | (dsimp only; walk1)))))
theorem cells3 {cm : Str → Option Value} {n n' n'' : Str} {c c' c'' : Addr} {cells : List (Addr × Obj)} (x : CellsAre cm [(n, c), (n', c'), (n'', c'')] cells) : ∃ o o' o'', cells = [(c, o), (c', o'), (c'', o'')] ∧ o.data = .cell (cm n) ∧ o'.data = .cell (cm n') ∧ o''.data = .cell (cm n'') := by
  cases x with
  | cons h r =>
    obtain ⟨o', o'', rfl, h1, h2⟩ := r.two
    exact ⟨_, _, _, rfl, h, h1, h2⟩
def NumS (s : Shared) (h₀ : Heap) (L : Addr) (rest : List (Addr × Obj)) (f : Flow) (s' : Shared) : Prop := f = .next ∧ ∃ (D : Addr) (ws : List Value) (zs : List Int) (u : Str → Option Value) (h : Heap) (tk' : Nat), s' = { s with heap := h, toks := tk' } ∧ IntsAre ws zs ∧ zs.length ≤ 10 ∧
      Fr h₀ L h u ∧ (∀ p ∈ [((("numbers" : Str), Value.ref D) : Str × Value)], u p.1 = some p.2) ∧ News h₀ L h ((D, listOf (List.toArray ws) 0) :: rest)
theorem numS_of {s : Shared} {h₀ h : Heap} {L D : Addr} {rest news : List (Addr × Obj)} {ws : List Value} {zs : List Int} {u : Str → Option Value} {tk' : Nat} (F : Fr h₀ L h u) (N : News h₀ L h ((D, listOf (List.toArray ws) 0) :: news)) (hi : IntsAre ws zs) (hz : zs.length ≤ 10)
    (hu : ∀ p ∈ [((("numbers" : Str), Value.ref D) : Str × Value)], u p.1 = some p.2) (hr : ∀ p ∈ rest, p ∈ news) : NumS s h₀ L rest .next { s with heap := h, toks := tk' } :=
  ⟨rfl, D, ws, zs, u, h, tk', rfl, hi, hz, F, hu, fun p hp => by
    rcases List.mem_cons.mp hp with rfl | hp
    · exact N _ (List.Mem.head _)
    · exact N p (List.mem_cons_of_mem _ (hr p hp))⟩
theorem NumS.all {s : Shared} {h₀ : Heap} {L : Addr} {rest : List (Addr × Obj)} {G : Flow → Shared → Prop}
    (g : ∀ D ws zs u h tk', IntsAre ws zs → zs.length ≤ 10 → Fr h₀ L h u → (∀ p ∈ [((("numbers" : Str), Value.ref D) : Str × Value)], u p.1 = some p.2) → News h₀ L h ((D, listOf (List.toArray ws) 0) :: rest) → G .next { s with heap := h, toks := tk' }) : ∀ f s', NumS s h₀ L rest f s' → G f s' := by
  rintro f s' ⟨rfl, D, ws, zs, u, h, tk', rfl, h1, h2, h3, h4, h5⟩; exact g D ws zs u h tk' h1 h2 h3 h4 h5
section
variable {prog : Program} {w : World} {A : Around} {E : Value → Shared → Prop} {s : Shared} {Q : Value → Shared → Prop} {t u : Tok}
theorem call_upperE {c b : Array UInt8} (hz : c.size ≤ sizeLine) (e : (c.toList.map Builtin.Bytes.toUpper).toArray = b)
    (h : Q (.bytes b s.toks) { s with toks := s.toks + 1 }) : wpAny (model prog w) A (call (.builtin "bytes.upper") [.bytes c t]) Q E s := by
  subst e; exact call_upper hz h
theorem ne_st_no {a : List Nat} (h : Q (.bool false) s) : wpAny (model prog w) A (compareOp .NotEq (.str (st a) t) (.str (st a) u)) Q E s := ne_st (by rw [bne_self_eq_false]; exact h)
theorem add_stE {c : Str} {a b : List Nat} (e : c = st a) (hl : a.length + b.length ≤ 100000) (h : ∀ t k, Q (.str (st (a ++ b)) t) { s with toks := k }) : wpAny (model prog w) A (binaryOp .Add (.str c t) (.str (st b) u)) Q E s := by
  subst e; exact add_st hl h
end
theorem law_spec {w : World} {loose : List Str} {mean : ExcName → Option Value} {mg mb : Str → Option Value} {s : Shared} {Q : Value → Shared → Prop} {l : Addr} {vs : List Value} {gs : List Int} {h₀ : Heap}
    (hT : TabsAt [(93, 89), (20, 16)] s.heap) (X₁ : (Mine.hd.heap_1 w.params).In s.heap) (nl : s.heap.NoLimit) (G₀ : Gd w loose mean mg mb h₀) (e₀ : h₀ = ghostOf s.heap [(93, 89), (20, 16)])
    (hg : s.gens = #[]) (hl : s.heap.IsList l vs.toArray) (hi : IntsAre vs gs) (hlen : gs.length ≤ 63)
    (hret : ∀ h' gs' tk', Keep h₀ h' → AllBare gs' → GrownAll [(93, 89), (20, 16)] h' → Q (.bool true) { s with heap := h', gens := gs', toks := tk' }) :
    wpN true (model PySem.Challenge.rw_nq0080_01.row.prog w) callerA (call (.ref 106) [.ref l]) Q s := by
  refine wpN_call ?_
  refine' enterCN (binds := [(Str.ofString "script", .ref l)]) X₁ nl ?k8 ?k6 ?k7 ?k9 ?kB ?nd ?_ ?c2 ?c3 ?c4
  case k8 => decide
  case k6 => k_is
  case k7 => k_is
  case k9 => exact BindsTo.of_eq rfl
  case kB => exact rfl
  case nd => decide
  case c2 => exact rfl
  case c3 => exact rfl
  case c4 => exact rfl
  intro h₁ tk cells F Nw Y
  rw [bindL_l (by rfl), bindL_n] at F
  rw [bindC_l (by rfl), bindC_n] at Y
  refine ex3_4 (cells3 Y) ?_
  clear Y
  intro oW oK oT eqc hoW hoK hoT
  subst eqc
  rw [show envOfC _ _ s.heap.objs.size 106 (.ref 105) = envX _ _ s.heap.objs.size 106 (.ref 105) [(Str.ofString "word", s.heap.objs.size + 1 + 1 + 1), (Str.ofString "kind", s.heap.objs.size + 1 + 1), (Str.ofString "told", s.heap.objs.size + 1)] from rfl]
  have F0 := ghost_fr hT F
  have N0 := ghost_news hT F Nw
  have hl0 := ghost_list hT hl
  rw [← e₀] at F0 N0 hl0
  have hlen2 : vs.length = gs.length := hi.length
  have X := G₀.X
  have T := G₀.T
  simp only [tabNews, List.map_cons, List.map_nil, List.cons_append, List.nil_append] at N0
  clear X₁ F Nw hl e₀ hT nl
  refine wpN_leaf (wpAny_mono (Q := NumS s h₀ s.heap.objs.size [(s.heap.objs.size + 1 + 1 + 1, oW), (s.heap.objs.size + 1 + 1, oK), (s.heap.objs.size + 1, oT), (89, tabObj #[]), (16, tabObj #[])]) ?first (NumS.all ?rest) (fun _ _ x => x))
  case first =>
    walk_at "mine steps"
    · rename Fr _ _ _ _ => F'; rename News _ _ _ _ => N'
      refine ⟨rfl, _, _, _, _, _, _, rfl, by assumption, by rw [List.length_take]; omega, F', ?_, N'⟩
      kst_all
    · rename Fr _ _ _ _ => F'; rename News _ _ _ _ => N'
      refine add_two (vs := vs) (ws := [_, _, _, _, _, _]) F' N' (hl0.at fun o e => F'.keep _ o e) (IsL.isList (N' _ (List.Mem.head _)).1) (by simp; omega) fun D7 h7 F7 N7 n7 => ?_
      clear F' N'
      walk_at "mine steps"
      rename Fr _ _ _ _ => F'; rename News _ _ _ _ => N'
      refine numS_of F' N' (intsAre_append hi (.cons _ _ (.cons _ _ (.cons _ _ (.cons _ _ (.cons _ _ (.cons _ _ .nil))))))) (by rw [List.length_append]; simp; omega) ?_ fun p hp => List.mem_cons_of_mem _ hp
      kst_all
  case rest =>
  intro D ws zs u h tk' hws hzs F1 hu1 N1
  rw [← fr_kst2 (h := h) hu1] at F1
  clear hu1
  dsimp only
  have kT0 : Tab 89 lamQ h := Tab.start (N1 (89, tabObj #[]) (by walk_at "mine mem")).1
  refine wpN_leaf ?_
  walk_at "mine steps"
  refine thing_call (ps0 := #[]) G₀ (by decide) F1 N1 (by walk_at "mine mem") kT0 fun a0 h2 tk2 ps0 ob0 F2 N2 o2 S2 T2 => ?_
  have N3 : News h₀ s.heap.objs.size h2 ((D, listOf (List.toArray ws) 0) :: (s.heap.objs.size + 1 + 1 + 1, oW) :: (s.heap.objs.size + 1 + 1, oK) :: (s.heap.objs.size + 1, oT) :: (16, tabObj #[]) :: (89, tabObj ps0) :: ob0) := by
    refine all_cons ?_ (all_cons ?_ (all_cons ?_ (all_cons ?_ (all_cons ?_ (all_cons ?_ (fun p hp => ?_))))))
    · exact N2 _ (mem_th (by walk_at "mine mem") (off_tab N1 (ps := #[]) (by walk_at "mine mem") (p := (D, listOf (List.toArray ws) 0)) (by walk_at "mine mem") (fun vs e => by cases e)))
    · exact N2 _ (mem_th (by walk_at "mine mem") (off_tab N1 (ps := #[]) (by walk_at "mine mem") (p := (_, oW)) (by walk_at "mine mem") (fun vs e => by rw [hoW] at e; cases e)))
    · exact N2 _ (mem_th (by walk_at "mine mem") (off_tab N1 (ps := #[]) (by walk_at "mine mem") (p := (_, oK)) (by walk_at "mine mem") (fun vs e => by rw [hoK] at e; cases e)))
    · exact N2 _ (mem_th (by walk_at "mine mem") (off_tab N1 (ps := #[]) (by walk_at "mine mem") (p := (_, oT)) (by walk_at "mine mem") (fun vs e => by rw [hoT] at e; cases e)))
    · exact N2 _ (mem_th (by walk_at "mine mem") (by decide))
    · exact N2 _ (List.Mem.head _)
    · exact N2 _ (mem_ob hp)
  have lT : h.get? (s.heap.objs.size + 1) = some oT := (N1 (_, oT) (by walk_at "mine mem")).1
  have lK : h.get? (s.heap.objs.size + 1 + 1) = some oK := (N1 (_, oK) (by walk_at "mine mem")).1
  have lW : h.get? (s.heap.objs.size + 1 + 1 + 1) = some oW := (N1 (_, oW) (by walk_at "mine mem")).1
  have l16 : h.get? 16 = some (tabObj #[]) := (N1 (16, _) (by walk_at "mine mem")).1
  clear F1 N1 N2
  walk_at "mine steps"
  refine wpN_leaf ?_
  walk_at "mine steps"
  rename Fr _ _ _ _ => F'; rename News _ _ _ _ => N'
  rename_i ROW hx1 lr1 hx2 TD hx3 lt1
  have hcv : ∀ {o : Obj} {v : Option Value}, o.data = .cell v → ∀ vs, o.data ≠ .fields vs := fun e vs e2 => by rw [e] at e2; cases e2
  refine cell_news F' N' (c := s.heap.objs.size + 1) (o := oT) (by walk_at "mine mem") hoT rfl rfl rfl fun h4 oT' F4 N4 hoT' => ?_
  have tD : D ≠ s.heap.objs.size + 1 := news_ne N' (p := (D, listOf (List.toArray ws) 0)) (q := (_, oT)) (by walk_at "mine mem") (by walk_at "mine mem") fun e => by have e := congrArg Obj.data e; dsimp only at e; rw [hoT] at e; cases e
  have tob : ∀ p ∈ ob0, p.1 ≠ s.heap.objs.size + 1 := fun p hp => ob_off (q := (_, oT)) N' (by walk_at "mine mem") (by walk_at "mine memp") ⟨_, lT⟩ (o2 p hp).2 (not_rec (hcv hoT))
  have tob2 : ∀ p ∈ ob0, p.1 ≠ 16 ∧ p.1 ≠ s.heap.objs.size + 1 + 1 ∧ p.1 ≠ s.heap.objs.size + 1 + 1 + 1 := fun p hp => ⟨ob_off (q := (16, tabObj #[])) N' (by walk_at "mine mem") (by walk_at "mine memp") ⟨_, l16⟩ (o2 p hp).2 not_rec0,
    ob_off (q := (_, oK)) N' (by walk_at "mine mem") (by walk_at "mine memp") ⟨_, lK⟩ (o2 p hp).2 (not_rec (hcv hoK)), ob_off (q := (_, oW)) N' (by walk_at "mine mem") (by walk_at "mine memp") ⟨_, lW⟩ (o2 p hp).2 (not_rec (hcv hoW))⟩
  have N5 : News h₀ s.heap.objs.size h4 ((TD, listOf #[] 0) :: (ROW, listOf #[.ref a0] 0) :: (D, listOf (List.toArray ws) 0) :: (s.heap.objs.size + 1 + 1 + 1, oW) :: (s.heap.objs.size + 1 + 1, oK) :: (s.heap.objs.size + 1, oT') :: (16, tabObj #[]) :: (89, tabObj ps0) :: ob0) := by
    refine all_cons ?_ (all_cons ?_ (all_cons ?_ (all_cons ?_ (all_cons ?_ (all_cons ?_ (all_cons ?_ (all_cons ?_ (fun p hp => ?_))))))))
    · exact N4 _ (mem_off (by walk_at "mine mem") (Nat.ne_of_gt lt1.2.2.2.2.1) _)
    · exact N4 _ (mem_off (by walk_at "mine mem") (Nat.ne_of_gt lr1.2.2.2.1) _)
    · exact N4 _ (mem_off (by walk_at "mine mem") tD _)
    · exact N4 _ (mem_off (by walk_at "mine mem") (Nat.ne_of_gt (Nat.lt_succ_of_lt (Nat.lt_succ_self _))) _)
    · exact N4 _ (mem_off (by walk_at "mine mem") (Nat.ne_of_gt (Nat.lt_succ_self _)) _)
    · exact N4 _ (List.Mem.head _)
    · exact N4 _ (mem_off (by walk_at "mine mem") (news_ne N' (p := (16, tabObj #[])) (q := (_, oT)) (by walk_at "mine mem") (by walk_at "mine mem") fun e => by have e := congrArg Obj.data e; dsimp only at e; rw [hoT] at e; cases e) _)
    · exact N4 _ (mem_off (by walk_at "mine mem") (news_ne N' (p := (89, tabObj ps0)) (q := (_, oT)) (by walk_at "mine mem") (by walk_at "mine mem") fun e => by have e := congrArg Obj.data e; dsimp only at e; rw [hoT] at e; cases e) _)
    · exact N4 _ (mem_off (by walk_at "mine memp") (tob p hp) _)
  clear N4 F' N'
  refine wpN_execs_cons (wpN_For (wpN_of_any ?_))
  walk_at "mine steps"
  refine names_spec (G₀.keeps F4.keep) (by decide) (by decide) (IsL.isList (N5 (D, listOf (List.toArray ws) 0) (by walk_at "mine mem")).1) hws hzs (.of_eq hg) fun NM h5 gs5 tk5 nv nn nms OB k5 hb5 M5 a5 hl5 ok5 => ?_
  have F5 := fr_mv F4 k5
  have N6 := news_made F4 (news_mv N5 k5) M5
  have live4 : ∀ p ∈ ((TD, listOf #[] 0) :: (ROW, listOf #[.ref a0] 0) :: (D, listOf (List.toArray ws) 0) :: (s.heap.objs.size + 1 + 1 + 1, oW) :: (s.heap.objs.size + 1 + 1, oK) :: (s.heap.objs.size + 1, oT') :: (16, tabObj #[]) :: (89, tabObj ps0) :: ob0), h4.get? p.1 = some p.2 := fun p hp => (N5 p hp).1
  have offOB : ∀ p ∈ OB, ∀ a o, h4.get? a = some o → p.1 ≠ a := fun p hp a o ha e => by
    have := (M5 p (List.mem_cons_of_mem _ hp)).2
    rw [e, ha] at this; cases this
  have hNR : NM ≠ ROW := fun e => by
    have h1 := (M5 _ (List.Mem.head _)).2
    have h2 := live4 (ROW, listOf #[.ref a0] 0) (by walk_at "mine mem")
    dsimp only at h1 h2
    rw [e, h2] at h1; cases h1
  have hNT : NM ≠ TD := fun e => by
    have h1 := (M5 _ (List.Mem.head _)).2
    have h2 := live4 (TD, listOf #[] 0) (by walk_at "mine mem")
    dsimp only at h1 h2
    rw [e, h2] at h1; cases h1
  have hRT : ROW ≠ TD := Nat.ne_of_lt lt1.1
  clear N5 F4
  refine' for_lst (σ := List Value × Nat × List Value × Nat × Array Value × List (Addr × Obj)) (vs := nv) (nl := nn) rfl
    (fun i c => (NM, listOf (List.toArray nv) nn) :: (ROW, listOf (List.toArray c.1) c.2.1) :: (TD, listOf (List.toArray c.2.2.1) c.2.2.2.1) :: (s.heap.objs.size + 1, oT') :: (s.heap.objs.size + 1 + 1, oK) :: (s.heap.objs.size + 1 + 1 + 1, oW) :: (16, tabObj #[]) :: (89, tabObj c.2.2.2.2.1) :: c.2.2.2.2.2)
    (fun i c => [("row", .ref ROW)])
    (fun i c => LInv h₀ ROW TD (s.heap.objs.size + 1 + 1) (s.heap.objs.size + 1 + 1 + 1) OB nms i c.1 c.2.2.1 c.2.2.2.2.1 c.2.2.2.2.2)
    ⟨[.ref a0], 0, [], 0, ps0, ob0 ++ OB⟩ ?hgo hb5 (fun i c => List.Mem.head _) F5 ?hN ?hk ?h0 ?turn ?done
  case hk => kst_all
  case hgo =>
    intro I i v s' Q E hv _ hQ
    exact wpAny_of_eq (a := ()) rfl hQ
  case hN =>
    dsimp only
    refine all_cons ?_ (all_cons ?_ (all_cons ?_ (all_cons ?_ (all_cons ?_ (all_cons ?_ (all_cons ?_ (all_cons ?_ (all_app (fun p hp => ?_) (fun p hp => ?_)))))))))
    all_goals exact N6 _ (by walk_at "mine in")
  case h0 =>
    refine ⟨fun p hp => ?_, S2.mono fun p hp => ?_, fun p hp => List.mem_append_right _ hp, .cons (T2.mono fun p hp => List.mem_append_left _ hp) .none .nil, .nil⟩
    · rcases List.mem_append.mp hp with hp | hp
      · exact ⟨Nat.ne_of_lt (allLt_mem lr1.2.2.2.2.2.2 p hp), Nat.ne_of_lt (allLt_mem lt1.2.2.2.2.2.2.2 p hp), (o2 p hp).1, tob2 p hp⟩
      · exact ⟨offOB p hp _ _ (live4 (ROW, listOf #[.ref a0] 0) (by walk_at "mine mem")), offOB p hp _ _ (live4 (TD, listOf #[] 0) (by walk_at "mine mem")), offOB p hp _ _ (live4 (89, tabObj ps0) (by walk_at "mine mem")), offOB p hp _ _ (live4 (16, tabObj #[]) (by walk_at "mine mem")), offOB p hp _ _ (live4 (s.heap.objs.size + 1 + 1, oK) (by walk_at "mine mem")), offOB p hp _ _ (live4 (s.heap.objs.size + 1 + 1 + 1, oW) (by walk_at "mine mem"))⟩
    · rcases List.mem_cons.mp hp with rfl | hp
      · exact List.Mem.head _
      · exact List.mem_cons_of_mem _ (List.mem_append_left _ hp)
  case turn =>
    clear F5 N6 lr1 lt1 live4 offOB o2 S2 T2
    intro i v
    refine prod6 ?_
    intro rowv rn toldv tn ps TB u2 h6 gs6 tk6 I io hiv Inv hb6 hoff hic hid Fw Nw
    dsimp only at Inv hoff Fw Nw
    have hin : i < nv.length := (List.getElem?_eq_some_iff.mp hiv).1
    have hnl := a5.length
    refine hide ?_
    intro P' hP'
    obtain ⟨nm, hnm, a, sv, sn, eqv, hsv, hsg⟩ := a5.get hiv
    refine hP' ?_
    clear hP' P'
    subst eqv
    have hok := ok5 nm (List.mem_of_getElem? hnm)
    have hup : ∀ x ∈ nm, x ≤ 1114111 := fun x hx => by have := hok.2.2 x hx; unfold okCode at this; omega
    have hnml := hok.2.1
    refine wpN_of_any (wpAny_assign_Name (storeX_L Fw Nw fun h7 F7 N7 => ?_))
    clear Fw Nw
    dsimp only at F7 N7 ⊢
    have haN : h7.IsList a sv.toArray := IsL.isList (N7 (a, listOf (List.toArray sv) sn) (by simp [Inv.ob _ hsv])).1
    have hI : ∀ p ∈ TB, p.1 ≠ I := fun p hp => hoff p (by walk_at "mine memp")
    refine wpN_leaf ?_
    walk_at "mine steps"
    rename Fr _ _ _ _ => F'; rename News _ _ _ _ => N'
    refine told_spec (G₀.keeps F'.keep) (by decide) (by decide) haN hsg (by omega) hup fun Tt Dg t1 gv ng h8 tk8 qs k8 hO hql hgv M8 => ?_
    have F8 := fr_mv F' k8
    have N8 := news_made F' (news_mv N' k8) M8
    have live7 : ∀ p ∈ ((I, io) :: (NM, listOf (List.toArray nv) nn) :: (ROW, listOf (List.toArray rowv) rn) :: (TD, listOf (List.toArray toldv) tn) :: (s.heap.objs.size + 1, oT') :: (s.heap.objs.size + 1 + 1, oK) :: (s.heap.objs.size + 1 + 1 + 1, oW) :: (16, tabObj #[]) :: (89, tabObj ps) :: TB), h7.get? p.1 = some p.2 := fun p hp => (N' p hp).1
    clear F' N'
    refine unpackN_ F8 N8 ⟨_, (M8 _ (List.Mem.head _)).1, rfl, _, rfl⟩ rfl rfl rfl fun h9 F9 N9 => ?_
    clear F8 N8
    refine assignInOrder_cons (wpAny_assign_Name (storeX_L F9 N9 fun h10 F10 N10 => ?_))
    clear F9 N9
    refine assignInOrder_cons (wpAny_assign_Name (storeX_L F10 N10 fun h11 F11 N11 => ?_))
    clear F10 N10
    refine assignInOrder_nil ?_
    dsimp only at F11 N11 ⊢
    have hcl := curF_len nm []
    have hgl : (gapsF nm (↑(curF nm []).length) 128 0 qs).length ≤ 33 := by rw [gaps_len]; omega
    have hgb := gaps_bd hup (by omega) qs [] 128 0 hO (.inl ⟨rfl, rfl, rfl⟩)
    refine wpN_execs_cons (wpN_Assign_Name (wpN_Call_Name ?_))
    walk_at "mine steps"
    refine wpN_callWith_fn rfl (wpN_args_cons (wpN_of_any ?_))
    walk_at "mine steps"
    refine wpN_args_cons (wpN_Call_Attr rfl (wpN_Call_Name ?_))
    walk_at "mine steps"
    refine wpN_callWith_fn rfl (wpN_args_cons (wpN_of_any ?_))
    walk_at "mine steps"
    refine wpN_args_cons (wpN_of_any ?_)
    walk_at "mine steps"
    refine wpN_args_nil ⟨?_, ?_⟩
    · refine' fn_at (K := Mine.hd.heap_1 w.params) ?kx ?ke
      case kx => k_in
      case ke => k_is
    simp only [List.cons_append, List.nil_append] at N11
    refine gi_spec (G₀.keeps F11.keep) (by decide) (by decide) (by omega) (by omega) (IsL.isList (N11 (Dg, listOf (List.toArray gv) ng) (by walk_at "mine mem")).1) hgv (by omega) hgb fun ds td h12 tk12 k12 henc hdl => ?_
    have F12 := fr_mv F11 k12
    have N12 := news_mv N11 k12
    clear F11 N11
    have eup : (List.map Builtin.Bytes.toUpper (List.map digB ds).toArray.toList).toArray = (List.map upB ds).toArray := by
      simp only [List.map_map]; rfl
    dsimp only
    refine wpN_methodCall rfl rfl (getMethod_upper ?_)
    refine wpN_callWith_machine rfl rfl (wpN_args_nil (wpN_of_any (call_upperE (by rw [sizeLine_eq]; simp; omega) eup ?_)))
    refine wpN_args_cons (wpN_of_any ?_)
    walk_at "mine steps"
    refine wpN_args_nil ⟨?_, wpN_of_any ?_⟩
    · refine' fn_at (K := Mine.hd.heap_1 w.params) ?kx ?ke
      case kx => k_in
      case ke => k_is
    rename Fr _ _ _ _ => F'; rename News _ _ _ _ => N'
    have hins := (ins_told hup qs [] 128 0 hO).1
    refine ins_spec (G₀.keeps F'.keep) (by decide) (by decide) henc hins (by omega) (by omega) (fun g hg => (hgb g hg).1) fun t13 h13 tk13 k13 => ?_
    have F13 := fr_mv F' k13
    have N13 := news_mv N' k13
    clear F' N'
    walk_at "mine steps"
    refine wpN_execs_cons (wpN_If (wpN_of_any ?_))
    walk_at "mine steps"
    rename Fr _ _ _ _ => F'; rename News _ _ _ _ => N'
    refine join_signs (IsL.isList (N' (a, listOf (List.toArray sv) sn) (by simp [Inv.ob _ hsv])).1) hsg (by omega) fun t14 k14 => ?_
    dsimp only
    refine ne_st_no ?_
    walk_at "mine steps"
    rename Fr _ _ _ _ => F'; rename News _ _ _ _ => N'
    have hr := refused_off (nm := nm) fun c hc => by have := hok.2.2 c hc; unfold okCode at this; omega
    refine refusal_call G₀ (by decide) (by decide) rfl rfl F' N' (by walk_at "mine mem") (by omega) hr.1 hr.2.1 hr.2.2.1 hr.2.2.2 fun t15 h15 tk15 F15 N15 => ?_
    clear F' N'
    dsimp only at F15 N15 ⊢
    walk_at "mine steps"
    refine add_stE (a := [105, 110, 116, 101, 114, 110, 97, 108, 32, 112, 97, 114, 115, 101, 114, 32, 101, 114, 114, 111, 114, 44, 32, 103, 111, 116, 32]) rfl (by simp; omega) fun t16 k16 => ?_
    dsimp only
    refine ne_st_no ?_
    walk_at "mine steps"
    refine wpN_execs_nil ?_
    dsimp only
    refine wpN_leaf ?_
    walk_at "mine steps"
    have hrl : rowv.length = i + 1 := by
      have := Inv.row.length
      simp only [List.length_cons, List.length_map, List.length_take] at this
      omega
    refine len_listE (n := rowv.length) (IsL.isList (N15 (ROW, listOf (List.toArray rowv) rn) (by walk_at "mine mem")).1) (by simp) (by omega) ?_
    walk_at "mine steps"
    rename Fr _ _ _ _ => F'; rename News _ _ _ _ => N'
    refine thing_call (ps0 := ps) G₀ (by decide) F' N' (by walk_at "mine mem") (Inv.tab _ F'.keep fun p hp => (N' p (by
      rcases List.mem_cons.mp hp with rfl | hp
      · simp
      · simp [hp])).1) fun a1 h17 tk17 ps1 ob1 F17 N17 o17 S17 T17 => ?_
    have live15 : ∀ p ∈ ((Tt, ({ cls := .type "tuple", data := .seq #[.str (st (curF nm [])) t1, .ref Dg] } : Obj)) :: (Dg, listOf (List.toArray gv) ng) :: (I, io) :: (NM, listOf (List.toArray nv) nn) :: (ROW, listOf (List.toArray rowv) rn) :: (TD, listOf (List.toArray toldv) tn) :: (s.heap.objs.size + 1, oT') :: (s.heap.objs.size + 1 + 1, oK) :: (s.heap.objs.size + 1 + 1 + 1, oW) :: (16, tabObj #[]) :: (89, tabObj ps) :: TB), h15.get? p.1 = some p.2 := fun p hp => (N' p hp).1
    have N18 : News h₀ s.heap.objs.size h17 ((Tt, ({ cls := .type "tuple", data := .seq #[.str (st (curF nm [])) t1, .ref Dg] } : Obj)) :: (Dg, listOf (List.toArray gv) ng) :: (I, io) :: (NM, listOf (List.toArray nv) nn) :: (ROW, listOf (List.toArray rowv) rn) :: (TD, listOf (List.toArray toldv) tn) :: (s.heap.objs.size + 1, oT') :: (s.heap.objs.size + 1 + 1, oK) :: (s.heap.objs.size + 1 + 1 + 1, oW) :: (16, tabObj #[]) :: (89, tabObj ps1) :: (ob1 ++ TB)) := by
      have o89 : ∀ q : Addr × Obj, q ∈ _ → (∀ vs, q.2.data ≠ .fields vs) → q.1 ≠ 89 := fun q hq hd => off_tab N' (ps := ps) (by walk_at "mine mem") hq hd
      refine all_cons ?_ (all_cons ?_ (all_cons ?_ (all_cons ?_ (all_cons ?_ (all_cons ?_ (all_cons ?_ (all_cons ?_ (all_cons ?_ (all_cons ?_ (all_cons ?_ (all_app (fun p hp => ?_) (fun p hp => ?_))))))))))))
      · exact N17 _ (mem_th (by walk_at "mine mem") (o89 (Tt, ({ cls := .type "tuple", data := .seq #[.str (st (curF nm [])) t1, .ref Dg] } : Obj)) (by walk_at "mine mem") (fun vs e => by cases e)))
      · exact N17 _ (mem_th (by walk_at "mine mem") (o89 (Dg, listOf (List.toArray gv) ng) (by walk_at "mine mem") (fun vs e => by cases e)))
      · exact N17 _ (mem_th (by walk_at "mine mem") (Ne.symm (hoff (89, tabObj ps) (by walk_at "mine mem"))))
      · exact N17 _ (mem_th (by walk_at "mine mem") (o89 (NM, listOf (List.toArray nv) nn) (by walk_at "mine mem") (fun vs e => by cases e)))
      · exact N17 _ (mem_th (by walk_at "mine mem") (o89 (ROW, listOf (List.toArray rowv) rn) (by walk_at "mine mem") (fun vs e => by cases e)))
      · exact N17 _ (mem_th (by walk_at "mine mem") (o89 (TD, listOf (List.toArray toldv) tn) (by walk_at "mine mem") (fun vs e => by cases e)))
      · exact N17 _ (mem_th (by walk_at "mine mem") (o89 (s.heap.objs.size + 1, oT') (by walk_at "mine mem") (hcv hoT')))
      · exact N17 _ (mem_th (by walk_at "mine mem") (o89 (s.heap.objs.size + 1 + 1, oK) (by walk_at "mine mem") (hcv hoK)))
      · exact N17 _ (mem_th (by walk_at "mine mem") (o89 (s.heap.objs.size + 1 + 1 + 1, oW) (by walk_at "mine mem") (hcv hoW)))
      · exact N17 _ (mem_th (by walk_at "mine mem") (by decide))
      · exact N17 _ (List.Mem.head _)
      · exact N17 _ (mem_ob hp)
      · exact N17 _ (mem_th (by walk_at "mine memp") (Inv.off p hp).2.2.1)
    clear F' N' N17
    walk_at "mine steps"
    have frs7 : ∀ q ∈ [(Tt, ({ cls := .type "tuple", data := .seq #[.str (st (curF nm [])) t1, .ref Dg] } : Obj)), (Dg, listOf (List.toArray gv) ng)], ∀ a o, h7.get? a = some o → q.1 ≠ a := fun q hq a o ha e => by
      have := (M8 q hq).2
      dsimp only at this
      rw [e, ha] at this; cases this
    have cne : ∀ {c : Addr} {o : Obj} {v : Option Value} {q : Addr × Obj} {h : Heap} {news : List (Addr × Obj)}, News h₀ s.heap.objs.size h news → (c, o) ∈ news → q ∈ news → o.data = .cell v → (∀ v, q.2.data ≠ .cell v) → c ≠ q.1 := fun {c o v q h news} N hc hq hd hn => news_ne N (p := (c, o)) hc hq fun e => by
      have e := congrArg Obj.data e
      dsimp only at e
      rw [hd] at e
      exact hn _ e.symm
    refine app_news F17 N18 (its := List.toArray rowv) (n := rn) (by walk_at "mine mem") (by simp; omega) fun h19 n19 F19 N19 => ?_
    rw [List.push_toArray] at N19
    have N20 : News h₀ s.heap.objs.size h19 ((Tt, ({ cls := .type "tuple", data := .seq #[.str (st (curF nm [])) t1, .ref Dg] } : Obj)) :: (Dg, listOf (List.toArray gv) ng) :: (I, io) :: (NM, listOf (List.toArray nv) nn) :: (ROW, listOf (List.toArray (rowv ++ [.ref a1])) n19) :: (TD, listOf (List.toArray toldv) tn) :: (s.heap.objs.size + 1, oT') :: (s.heap.objs.size + 1 + 1, oK) :: (s.heap.objs.size + 1 + 1 + 1, oW) :: (16, tabObj #[]) :: (89, tabObj ps1) :: (ob1 ++ TB)) := by
      refine all_cons ?_ (all_cons ?_ (all_cons ?_ (all_cons ?_ (all_cons ?_ (all_cons ?_ (all_cons ?_ (all_cons ?_ (all_cons ?_ (all_cons ?_ (all_cons ?_ (all_app (fun p hp => ?_) (fun p hp => ?_))))))))))))
      · exact N19 _ (mem_off (by walk_at "mine mem") (frs7 (Tt, _) (List.Mem.head _) _ _ (live7 (ROW, listOf (List.toArray rowv) rn) (by walk_at "mine mem"))) _)
      · exact N19 _ (mem_off (by walk_at "mine mem") (frs7 (Dg, _) (List.Mem.tail _ (List.Mem.head _)) _ _ (live7 (ROW, listOf (List.toArray rowv) rn) (by walk_at "mine mem"))) _)
      · exact N19 _ (mem_off (by walk_at "mine mem") (Ne.symm (hoff (ROW, listOf (List.toArray rowv) rn) (by walk_at "mine mem"))) _)
      · exact N19 _ (mem_off (by walk_at "mine mem") hNR _)
      · exact N19 _ (List.Mem.head _)
      · exact N19 _ (mem_off (by walk_at "mine mem") (Ne.symm hRT) _)
      · exact N19 _ (mem_off (by walk_at "mine mem") (cne (q := (ROW, listOf (List.toArray rowv) rn)) N18 (by walk_at "mine mem") (by walk_at "mine mem") hoT' (fun v e => by cases e)) _)
      · exact N19 _ (mem_off (by walk_at "mine mem") (cne (q := (ROW, listOf (List.toArray rowv) rn)) N18 (by walk_at "mine mem") (by walk_at "mine mem") hoK (fun v e => by cases e)) _)
      · exact N19 _ (mem_off (by walk_at "mine mem") (cne (q := (ROW, listOf (List.toArray rowv) rn)) N18 (by walk_at "mine mem") (by walk_at "mine mem") hoW (fun v e => by cases e)) _)
      · exact N19 _ (mem_off (by walk_at "mine mem") (Ne.symm (off_tab N18 (ps := #[]) (p := (ROW, listOf (List.toArray rowv) rn)) (by walk_at "mine mem") (by walk_at "mine mem") (fun vs e => by cases e))) _)
      · exact N19 _ (mem_off (by walk_at "mine mem") (Ne.symm (off_tab N18 (ps := ps1) (p := (ROW, listOf (List.toArray rowv) rn)) (by walk_at "mine mem") (by walk_at "mine mem") (fun vs e => by cases e))) _)
      · exact N19 _ (mem_off (by walk_at "mine memp") (ob_off (q := (ROW, listOf (List.toArray rowv) rn)) N18 (by walk_at "mine mem") (by walk_at "mine memp") ⟨_, live15 (ROW, listOf (List.toArray rowv) rn) (by walk_at "mine mem")⟩ (o17 p hp).2 (not_rec fun vs e => by cases e)) _)
      · exact N19 _ (mem_off (by walk_at "mine memp") (Inv.off p hp).1 _)
    have ob18 : ∀ p ∈ ob1, p.1 ≠ 16 ∧ p.1 ≠ s.heap.objs.size + 1 + 1 ∧ p.1 ≠ s.heap.objs.size + 1 + 1 + 1 := fun p hp => ⟨ob_off (q := (16, tabObj #[])) N18 (by walk_at "mine mem") (by walk_at "mine memp") ⟨_, live15 (16, tabObj #[]) (by walk_at "mine mem")⟩ (o17 p hp).2 not_rec0,
      ob_off (q := (s.heap.objs.size + 1 + 1, oK)) N18 (by walk_at "mine mem") (by walk_at "mine memp") ⟨_, live15 (s.heap.objs.size + 1 + 1, oK) (by walk_at "mine mem")⟩ (o17 p hp).2 (not_rec (hcv hoK)), ob_off (q := (s.heap.objs.size + 1 + 1 + 1, oW)) N18 (by walk_at "mine mem") (by walk_at "mine memp") ⟨_, live15 (s.heap.objs.size + 1 + 1 + 1, oW) (by walk_at "mine mem")⟩ (o17 p hp).2 (not_rec (hcv hoW))⟩
    have ob17 : ∀ p ∈ ob1, p.1 ≠ TD ∧ p.1 ≠ ROW ∧ p.1 ≠ I := fun p hp => ⟨ob_off (q := (TD, listOf (List.toArray toldv) tn)) N18 (by walk_at "mine mem") (by walk_at "mine memp") ⟨_, live15 (TD, listOf (List.toArray toldv) tn) (by walk_at "mine mem")⟩ (o17 p hp).2 (not_rec fun vs e => by cases e),
      ob_off (q := (ROW, listOf (List.toArray rowv) rn)) N18 (by walk_at "mine mem") (by walk_at "mine memp") ⟨_, live15 (ROW, listOf (List.toArray rowv) rn) (by walk_at "mine mem")⟩ (o17 p hp).2 (not_rec fun vs e => by cases e), fun e => by
        obtain ⟨x1, x2, x3, hid⟩ := hid
        have h1 := (N18 p (by walk_at "mine memp")).1
        rw [e, (N18 (I, io) (by walk_at "mine mem")).1] at h1
        rcases (o17 p hp).2 with h2 | ⟨vs, q, t, h2, h3⟩
        · dsimp only at h2
          rw [e, live15 (I, io) (by walk_at "mine mem")] at h2; cases h2
        · rw [← Option.some.inj h1, hid] at h2
          cases h2
          simp at h3⟩
    clear F17 N18 N19
    dsimp only
    refine wpN_leaf ?_
    walk_at "mine steps"
    refine places_spec (G₀.keeps F19.keep) (by decide) (by decide) (by omega) (IsL.isList (N20 (Dg, listOf (List.toArray gv) ng) (by walk_at "mine mem")).1) hgv (by omega) hgb fun P pobjs its pn h21 tk21 k21 M21 A21 => ?_
    have F21 := fr_mv F19 k21
    have N21 := news_made F19 (news_mv N20 k21) M21
    simp only [List.cons_append] at N21
    have frs19 : ∀ q ∈ (P, listOf its pn) :: pobjs, ∀ a o, h19.get? a = some o → q.1 ≠ a := fun q hq a o ha e => by
      have := (M21 q hq).2
      dsimp only at this
      rw [e, ha] at this; cases this
    have liveI : h19.get? I = some io := (N20 (I, io) (by walk_at "mine mem")).1
    have liveR : h19.get? ROW = some (listOf (List.toArray (rowv ++ [.ref a1])) n19) := (N20 (ROW, _) (by walk_at "mine mem")).1
    have liveT : h19.get? TD = some (listOf (List.toArray toldv) tn) := (N20 (TD, _) (by walk_at "mine mem")).1
    have live89 : h19.get? 89 = some (tabObj ps1) := (N20 (89, _) (by walk_at "mine mem")).1
    have live16 : h19.get? 16 = some (tabObj #[]) := (N20 (16, _) (by walk_at "mine mem")).1
    have liveK : h19.get? (s.heap.objs.size + 1 + 1) = some oK := (N20 (_, oK) (by walk_at "mine mem")).1
    have liveW : h19.get? (s.heap.objs.size + 1 + 1 + 1) = some oW := (N20 (_, oW) (by walk_at "mine mem")).1
    clear F19 N20
    walk_at "mine steps"
    rename Fr _ _ _ _ => F'; rename News _ _ _ _ => N'
    rename_i T2 hT2 l2
    have l2' := allLt_mem l2.2
    refine app_news F' N' (its := List.toArray toldv) (n := tn) (by walk_at "mine mem") (by rw [List.size_toArray, Inv.told.length, List.length_take]; omega) fun h23 n23 F23 N23 => ?_
    rw [List.push_toArray] at N23
    refine wpN_execs_nil ?_
    dsimp only [LPost]
    have N24 : News h₀ s.heap.objs.size h23 ((I, io) :: (NM, listOf (List.toArray nv) nn) :: (ROW, listOf (List.toArray (rowv ++ [.ref a1])) n19) :: (TD, listOf (List.toArray (toldv ++ [.ref T2])) n23) :: (s.heap.objs.size + 1, oT') :: (s.heap.objs.size + 1 + 1, oK) :: (s.heap.objs.size + 1 + 1 + 1, oW) :: (16, tabObj #[]) :: (89, tabObj ps1) ::
        (T2, ({ cls := .type "tuple", data := .seq #[.str (st (curF nm [])) t1, .ref P] } : Obj)) :: (P, listOf its pn) :: (pobjs ++ (ob1 ++ TB))) := by
      refine all_cons ?_ (all_cons ?_ (all_cons ?_ (all_cons ?_ (all_cons ?_ (all_cons ?_ (all_cons ?_ (all_cons ?_ (all_cons ?_ (all_cons ?_ (all_cons ?_ (all_app (fun p hp => ?_) (all_app (fun p hp => ?_) (fun p hp => ?_)))))))))))))
      · exact N23 _ (mem_off (by walk_at "mine mem") (Ne.symm (hoff (TD, listOf (List.toArray toldv) tn) (by walk_at "mine mem"))) _)
      · exact N23 _ (mem_off (by walk_at "mine mem") hNT _)
      · exact N23 _ (mem_off (by walk_at "mine mem") hRT _)
      · exact N23 _ (List.Mem.head _)
      · exact N23 _ (mem_off (by walk_at "mine mem") (cne (q := (TD, listOf (List.toArray toldv) tn)) N' (by walk_at "mine mem") (by walk_at "mine mem") hoT' (fun v e => by cases e)) _)
      · exact N23 _ (mem_off (by walk_at "mine mem") (cne (q := (TD, listOf (List.toArray toldv) tn)) N' (by walk_at "mine mem") (by walk_at "mine mem") hoK (fun v e => by cases e)) _)
      · exact N23 _ (mem_off (by walk_at "mine mem") (cne (q := (TD, listOf (List.toArray toldv) tn)) N' (by walk_at "mine mem") (by walk_at "mine mem") hoW (fun v e => by cases e)) _)
      · exact N23 _ (mem_off (by walk_at "mine mem") (Ne.symm (off_tab N' (ps := #[]) (p := (TD, listOf (List.toArray toldv) tn)) (by walk_at "mine mem") (by walk_at "mine mem") (fun vs e => by cases e))) _)
      · exact N23 _ (mem_off (by walk_at "mine mem") (Ne.symm (off_tab N' (ps := ps1) (p := (TD, listOf (List.toArray toldv) tn)) (by walk_at "mine mem") (by walk_at "mine mem") (fun vs e => by cases e))) _)
      · exact N23 _ (mem_off (by walk_at "mine mem") (Ne.symm (Nat.ne_of_lt (l2' (TD, listOf (List.toArray toldv) tn) (by walk_at "mine mem")))) _)
      · exact N23 _ (mem_off (by walk_at "mine mem") (frs19 (P, _) (List.Mem.head _) _ _ liveT) _)
      · exact N23 _ (mem_off (by walk_at "mine memp") (frs19 p (List.mem_cons_of_mem _ hp) _ _ liveT) _)
      · exact N23 _ (mem_off (by walk_at "mine memp") (ob17 p hp).1 _)
      · exact N23 _ (mem_off (by walk_at "mine memp") (Inv.off p hp).2.1 _)
    refine lend (σ := List Value × Nat × List Value × Nat × Array Value × List (Addr × Obj)) ⟨rowv ++ [.ref a1], n19, toldv ++ [.ref T2], n23, ps1, (T2, ({ cls := .type "tuple", data := .seq #[.str (st (curF nm [])) t1, .ref P] } : Obj)) :: (P, listOf its pn) :: (pobjs ++ (ob1 ++ TB))⟩ hb6 F23 N24 (List.Mem.head _) (fun p hp => ⟨List.mem_cons_of_mem _ hp, ?_⟩) (by kst_all) ?_
    · revert p hp
      refine all_cons ?_ (all_cons ?_ (all_cons ?_ (all_cons ?_ (all_cons ?_ (all_cons ?_ (all_cons ?_ (all_cons ?_ (all_cons ?_ (all_cons ?_ (all_app (fun p hp => ?_) (all_app (fun p hp => ?_) (fun p hp => ?_))))))))))))
      · exact hoff (NM, listOf (List.toArray nv) nn) (by walk_at "mine mem")
      · exact hoff (ROW, listOf (List.toArray rowv) rn) (by walk_at "mine mem")
      · exact hoff (TD, listOf (List.toArray toldv) tn) (by walk_at "mine mem")
      · exact hoff (s.heap.objs.size + 1, oT') (by walk_at "mine mem")
      · exact hoff (s.heap.objs.size + 1 + 1, oK) (by walk_at "mine mem")
      · exact hoff (s.heap.objs.size + 1 + 1 + 1, oW) (by walk_at "mine mem")
      · exact hoff (16, tabObj #[]) (by walk_at "mine mem")
      · exact hoff (89, tabObj ps) (by walk_at "mine mem")
      · exact Ne.symm (Nat.ne_of_lt (l2' (I, io) (by walk_at "mine mem")))
      · exact frs19 (P, _) (List.Mem.head _) _ _ liveI
      · exact frs19 p (List.mem_cons_of_mem _ hp) _ _ liveI
      · exact (ob17 p hp).2.2
      · exact hI p hp
    · dsimp only
      have hsub : ∀ p ∈ TB, p ∈ (T2, ({ cls := .type "tuple", data := .seq #[.str (st (curF nm [])) t1, .ref P] } : Obj)) :: (P, listOf its pn) :: (pobjs ++ (ob1 ++ TB)) := fun p hp => by simp [hp]
      refine ⟨fun p hp => ?_, S17.mono fun p hp => ?_, fun p hp => hsub p (Inv.ob p hp), ?_, ?_⟩
      · revert p hp
        refine all_cons ?_ (all_cons ?_ (all_app (fun p hp => ?_) (all_app (fun p hp => ?_) (fun p hp => ?_))))
        · exact ⟨Ne.symm (Nat.ne_of_lt (l2' (ROW, listOf (List.toArray (rowv ++ [.ref a1])) n19) (by walk_at "mine mem"))), Ne.symm (Nat.ne_of_lt (l2' (TD, listOf (List.toArray toldv) tn) (by walk_at "mine mem"))), Ne.symm (Nat.ne_of_lt (l2' (89, tabObj ps1) (by walk_at "mine mem"))), Ne.symm (Nat.ne_of_lt (l2' (16, tabObj #[]) (by walk_at "mine mem"))), Ne.symm (Nat.ne_of_lt (l2' (s.heap.objs.size + 1 + 1, oK) (by walk_at "mine mem"))), Ne.symm (Nat.ne_of_lt (l2' (s.heap.objs.size + 1 + 1 + 1, oW) (by walk_at "mine mem")))⟩
        · exact ⟨frs19 (P, _) (List.Mem.head _) _ _ liveR, frs19 (P, _) (List.Mem.head _) _ _ liveT, frs19 (P, _) (List.Mem.head _) _ _ live89, frs19 (P, _) (List.Mem.head _) _ _ live16, frs19 (P, _) (List.Mem.head _) _ _ liveK, frs19 (P, _) (List.Mem.head _) _ _ liveW⟩
        · exact ⟨frs19 p (List.mem_cons_of_mem _ hp) _ _ liveR, frs19 p (List.mem_cons_of_mem _ hp) _ _ liveT, frs19 p (List.mem_cons_of_mem _ hp) _ _ live89, frs19 p (List.mem_cons_of_mem _ hp) _ _ live16, frs19 p (List.mem_cons_of_mem _ hp) _ _ liveK, frs19 p (List.mem_cons_of_mem _ hp) _ _ liveW⟩
        · exact ⟨(ob17 p hp).2.1, (ob17 p hp).1, (o17 p hp).1, ob18 p hp⟩
        · exact Inv.off p hp
      · rcases List.mem_cons.mp hp with rfl | hp
        · exact List.Mem.head _
        · simp [hp]
      · rw [take_succ_some hnm, List.map_append]
        exact (Inv.row.mono hsub).snoc rowv.length (by walk_at "mine mem") (T17.mono fun p hp => by simp [hp]) (.str hok.1 (by omega))
      · rw [take_succ_some hnm]
        exact (Inv.told.mono fun v nm x => x.mono hsub).snoc ⟨T2, t1, P, its, pn, 0, qs, rfl, by simp, by simp, hO, A21.mono fun v q x => x.mono fun p hp => by simp [hp], hql⟩
  case done =>
    clear F5 N6 lr1 lt1 live4 offOB o2 S2 T2
    refine prod6 ?_
    intro rowv rn toldv tn ps TB u2 h6 gs6 tk6 Inv hb6 Fw Nw
    dsimp only at Inv Fw Nw ⊢
    have hnl := a5.length
    refine hide ?_
    intro P' hP'
    obtain ⟨ioff, itab, iob, irow, itold⟩ := Inv
    refine hP' ?_
    clear hP' P'
    rw [hnl, List.take_length] at irow itold
    refine wpN_leaf ?_
    walk_at "mine steps"
    refine wpN_leaf ?_
    walk_at "mine steps"
    rename Fr _ _ _ _ => F'; rename News _ _ _ _ => N'
    refine wpAny_loadName_local rfl rfl F'.ns rfl ?_
    walk_at "mine steps"
    rename Fr _ _ _ _ => F'; rename News _ _ _ _ => N'
    rename_i T1 g1 q1 T2 g2 q2 T3 g3 q3 T4 g4 q4 T5 g5 q5 WL gW lW gS T6 g6 q6 T7 g7 q7 T8 g8 q8 W3 g9 l3
    refine wanted_add F' N' (allLt_mem ⟨lW.2.2.2.2.2.1, lW.2.2.2.2.2.2⟩) ⟨_, _, _, rfl⟩ ⟨_, _, _, rfl⟩ ⟨_, _, _, rfl⟩ ⟨_, _, _, rfl⟩ ⟨_, _, _, rfl⟩ ⟨_, _, _, rfl⟩ ⟨_, _, _, rfl⟩ ⟨_, _, _, rfl⟩ fun h9 nW wv WT F9 N9 A9 hWT => ?_
    clear F' N' q1 q2 q3 q4 q5 lW q6 q7 q8 l3
    walk_at "mine steps"
    refine wpN_execs_cons (wpN_For (wpN_of_any ?_))
    walk_at "mine steps"
    rename Fr _ _ _ _ => F'; rename News _ _ _ _ => N'
    have hwl := A9.length
    refine' for_lst (σ := Obj × Obj × Array Value × List (Addr × Obj)) (vs := wv) (nl := nW) rfl
      (fun i c => (WL, listOf (List.toArray wv) nW) :: (ROW, listOf (List.toArray rowv) rn) :: (TD, listOf (List.toArray toldv) tn) :: (s.heap.objs.size + 1, oT') :: (s.heap.objs.size + 1 + 1, c.1) :: (s.heap.objs.size + 1 + 1 + 1, c.2.1) :: (16, tabObj c.2.2.1) :: (89, tabObj ps) :: (WT ++ (TB ++ c.2.2.2)))
      (fun i c => [("row", .ref ROW)])
      (fun i c => (∃ v, c.1.data = .cell v) ∧ (∃ v, c.2.1.data = .cell v) ∧ (∀ p ∈ c.2.2.2, p.1 ≠ 16 ∧ RecLike p.2) ∧ Sup0 h₀ ((16, tabObj c.2.2.1) :: c.2.2.2) (Tab 16 selQ))
      ⟨oK, oW, #[], []⟩ ?hgo hb6 (fun i c => List.Mem.head _) F' ?hN ?hk ?h0 ?turn ?done
    case hk => kst_all
    case hgo =>
      intro I i v s' Q E hv hit hQ
      obtain ⟨j, hj⟩ := List.getElem?_of_mem hv
      obtain ⟨q, _, T, o, rfl, _⟩ := A9.get hj
      exact wpAny_letOwnedTupleGo_listiter hit hQ
    case hN =>
      dsimp only
      refine all_cons ?_ (all_cons ?_ (all_cons ?_ (all_cons ?_ (all_cons ?_ (all_cons ?_ (all_cons ?_ (all_cons ?_ (all_app (fun p hp => ?_) (all_app (fun p hp => ?_) (List.forall_mem_nil _))))))))))
      all_goals exact N' _ (by walk_at "mine in")
    case h0 => exact ⟨⟨_, hoK⟩, ⟨_, hoW⟩, List.forall_mem_nil _, fun h hk hp => Tab.start (hp _ (List.Mem.head _))⟩
    case done =>
      clear F' N'
      refine prod4 ?_
      intro oK2 oW2 ps16 TB2 u3 h10 gs10 tk10 _ hb10 Fw Nw
      dsimp only at Fw Nw ⊢
      refine wpN_leaf ?_
      walk_at "mine steps"
      rename Fr _ _ _ _ => F'; rename News _ _ _ _ => N'
      exact hret _ _ _ F'.keep hb10 ⟨⟨_, (N' (89, tabObj ps) (by walk_at "mine mem")).1⟩, ⟨_, (N' (16, tabObj ps16) (by walk_at "mine mem")).1⟩, trivial⟩
    case turn =>
      clear F' N'
      intro i v
      refine prod4 ?_
      intro oK2 oW2 ps16 TB2 u3 h10 gs10 tk10 I io hiv hinv hb10 hoff hic hid Fw Nw
      refine hide ?_
      intro P' hP'
      obtain ⟨⟨vK, i1⟩, ⟨vW, i2⟩, i3, i4⟩ := hinv
      obtain ⟨⟨wc, kind, word⟩, hq, T, o, eqv, hTo, tw, uk, xw, rfl⟩ := A9.get hiv
      obtain ⟨sel, fb, W⟩ := want_all w _ (List.mem_of_getElem? hq)
      refine hP' ?_
      clear hP' P'
      subst eqv
      dsimp only at i1 i2 i3 i4 hoff Fw Nw
      dsimp only at W
      dsimp only at hTo
      have wdat : ∀ p ∈ WT, ∃ xs n, p.2.data = .seq xs n := fun p hp => by
        obtain ⟨q, t, u, x, e⟩ := hWT p hp
        exact ⟨_, _, by rw [e]⟩
      have cne : ∀ {c : Addr} {o : Obj} {v : Option Value} {q : Addr × Obj} {h : Heap} {news : List (Addr × Obj)}, News h₀ s.heap.objs.size h news → (c, o) ∈ news → q ∈ news → o.data = .cell v → (∀ v, q.2.data ≠ .cell v) → q.1 ≠ c := fun {c o v q h news} N hc hq hd hn => news_ne N (q := (c, o)) hq hc fun e => by
        have e := congrArg Obj.data e
        dsimp only at e
        rw [hd] at e
        exact hn _ e
      have hTg : h10.get? T = some ({ cls := .type "tuple", data := .seq #[.str (st wc) tw, .int kind uk, .str (st word) xw] } : Obj) := (Nw (T, _) (by simp [hTo])).1
      refine wpN_of_any (unpackN_ Fw Nw ⟨_, hTg, rfl, _, rfl⟩ rfl rfl rfl fun h11 F11 N11 => ?_)
      clear Fw Nw
      refine assignInOrder_cons (wpAny_assign_Name (storeX_L F11 N11 fun h12 F12 N12 => ?_))
      clear F11 N11
      refine assignInOrder_cons (wpAny_assign_Name (cell_news F12 N12 (c := s.heap.objs.size + 1 + 1) (o := oK2) (by walk_at "mine mem") i1 rfl rfl rfl fun h13 oK3 F13 N13 hoK3 => ?_))
      have N14 : News h₀ s.heap.objs.size h13 ((I, io) :: (WL, listOf (List.toArray wv) nW) :: (ROW, listOf (List.toArray rowv) rn) :: (TD, listOf (List.toArray toldv) tn) :: (s.heap.objs.size + 1, oT') :: (s.heap.objs.size + 1 + 1, oK3) :: (s.heap.objs.size + 1 + 1 + 1, oW2) :: (16, tabObj ps16) :: (89, tabObj ps) :: (WT ++ (TB ++ TB2))) := by
        refine all_cons ?_ (all_cons ?_ (all_cons ?_ (all_cons ?_ (all_cons ?_ (all_cons ?_ (all_cons ?_ (all_cons ?_ (all_cons ?_ (all_app (fun p hp => ?_) (all_app (fun p hp => ?_) (fun p hp => ?_)))))))))))
        · exact N13 _ (mem_off (by walk_at "mine mem") (Ne.symm (hoff (s.heap.objs.size + 1 + 1, oK2) (by walk_at "mine mem"))) _)
        · exact N13 _ (mem_off (by walk_at "mine mem") (cne (q := (WL, listOf (List.toArray wv) nW)) N12 (o := oK2) (by walk_at "mine mem") (by walk_at "mine mem") i1 (fun v e => by cases e)) _)
        · exact N13 _ (mem_off (by walk_at "mine mem") (cne (q := (ROW, listOf (List.toArray rowv) rn)) N12 (o := oK2) (by walk_at "mine mem") (by walk_at "mine mem") i1 (fun v e => by cases e)) _)
        · exact N13 _ (mem_off (by walk_at "mine mem") (cne (q := (TD, listOf (List.toArray toldv) tn)) N12 (o := oK2) (by walk_at "mine mem") (by walk_at "mine mem") i1 (fun v e => by cases e)) _)
        · exact N13 _ (mem_off (by walk_at "mine mem") (Nat.ne_of_lt (Nat.lt_succ_self _)) _)
        · exact N13 _ (List.Mem.head _)
        · exact N13 _ (mem_off (by walk_at "mine mem") (Nat.ne_of_gt (Nat.lt_succ_self _)) _)
        · exact N13 _ (mem_off (by walk_at "mine mem") (cne (q := (16, tabObj ps16)) N12 (o := oK2) (by walk_at "mine mem") (by walk_at "mine mem") i1 (fun v e => by cases e)) _)
        · exact N13 _ (mem_off (by walk_at "mine mem") (cne (q := (89, tabObj ps)) N12 (o := oK2) (by walk_at "mine mem") (by walk_at "mine mem") i1 (fun v e => by cases e)) _)
        · exact N13 _ (mem_off (by walk_at "mine memp") (cne N12 (o := oK2) (by walk_at "mine mem") (by walk_at "mine memp") i1 (fun v e => by obtain ⟨_, _, e2⟩ := wdat p hp; rw [e2] at e; cases e)) _)
        · exact N13 _ (mem_off (by walk_at "mine memp") (ioff p hp).2.2.2.2.1 _)
        · exact N13 _ (mem_off (by walk_at "mine memp") (rec_cell (q := (s.heap.objs.size + 1 + 1, oK2)) N12 (by walk_at "mine memp") (by walk_at "mine mem") (i3 p hp).2 i1) _)
      clear F12 N12 N13
      refine assignInOrder_cons (wpAny_assign_Name (cell_news F13 N14 (c := s.heap.objs.size + 1 + 1 + 1) (o := oW2) (by walk_at "mine mem") i2 rfl rfl rfl fun h15 oW3 F15 N15 hoW3 => ?_))
      have N16 : News h₀ s.heap.objs.size h15 ((I, io) :: (WL, listOf (List.toArray wv) nW) :: (ROW, listOf (List.toArray rowv) rn) :: (TD, listOf (List.toArray toldv) tn) :: (s.heap.objs.size + 1, oT') :: (s.heap.objs.size + 1 + 1, oK3) :: (s.heap.objs.size + 1 + 1 + 1, oW3) :: (16, tabObj ps16) :: (89, tabObj ps) :: (WT ++ (TB ++ TB2))) := by
        refine all_cons ?_ (all_cons ?_ (all_cons ?_ (all_cons ?_ (all_cons ?_ (all_cons ?_ (all_cons ?_ (all_cons ?_ (all_cons ?_ (all_app (fun p hp => ?_) (all_app (fun p hp => ?_) (fun p hp => ?_)))))))))))
        · exact N15 _ (mem_off (by walk_at "mine mem") (Ne.symm (hoff (s.heap.objs.size + 1 + 1 + 1, oW2) (by walk_at "mine mem"))) _)
        · exact N15 _ (mem_off (by walk_at "mine mem") (cne (q := (WL, listOf (List.toArray wv) nW)) N14 (o := oW2) (by walk_at "mine mem") (by walk_at "mine mem") i2 (fun v e => by cases e)) _)
        · exact N15 _ (mem_off (by walk_at "mine mem") (cne (q := (ROW, listOf (List.toArray rowv) rn)) N14 (o := oW2) (by walk_at "mine mem") (by walk_at "mine mem") i2 (fun v e => by cases e)) _)
        · exact N15 _ (mem_off (by walk_at "mine mem") (cne (q := (TD, listOf (List.toArray toldv) tn)) N14 (o := oW2) (by walk_at "mine mem") (by walk_at "mine mem") i2 (fun v e => by cases e)) _)
        · exact N15 _ (mem_off (by walk_at "mine mem") (Nat.ne_of_lt (Nat.lt_succ_of_lt (Nat.lt_succ_self _))) _)
        · exact N15 _ (mem_off (by walk_at "mine mem") (Nat.ne_of_lt (Nat.lt_succ_self _)) _)
        · exact N15 _ (List.Mem.head _)
        · exact N15 _ (mem_off (by walk_at "mine mem") (cne (q := (16, tabObj ps16)) N14 (o := oW2) (by walk_at "mine mem") (by walk_at "mine mem") i2 (fun v e => by cases e)) _)
        · exact N15 _ (mem_off (by walk_at "mine mem") (cne (q := (89, tabObj ps)) N14 (o := oW2) (by walk_at "mine mem") (by walk_at "mine mem") i2 (fun v e => by cases e)) _)
        · exact N15 _ (mem_off (by walk_at "mine memp") (cne N14 (o := oW2) (by walk_at "mine mem") (by walk_at "mine memp") i2 (fun v e => by obtain ⟨_, _, e2⟩ := wdat p hp; rw [e2] at e; cases e)) _)
        · exact N15 _ (mem_off (by walk_at "mine memp") (ioff p hp).2.2.2.2.2 _)
        · exact N15 _ (mem_off (by walk_at "mine memp") (rec_cell (q := (s.heap.objs.size + 1 + 1 + 1, oW2)) N14 (by walk_at "mine memp") (by walk_at "mine mem") (i3 p hp).2 i2) _)
      clear F13 N14 N15
      refine assignInOrder_nil ?_
      dsimp only at F15 N16 ⊢
      refine wpN_leaf ?_
      walk_at "mine steps"
      refine prep_call (ps0 := ps16) W G₀ (by decide) (by decide) F15 N16 (by walk_at "mine mem") (i4 _ F15.keep fun p hp => (N16 p (by
        rcases List.mem_cons.mp hp with rfl | hp
        · simp
        · simp [hp])).1) fun f h17 tk17 ps17 ob1 ob2 F17 N17 o17 S17 L17 _ => ?_
      have N18 : News h₀ s.heap.objs.size h17 ((I, io) :: (WL, listOf (List.toArray wv) nW) :: (ROW, listOf (List.toArray rowv) rn) :: (TD, listOf (List.toArray toldv) tn) :: (s.heap.objs.size + 1, oT') :: (s.heap.objs.size + 1 + 1, oK3) :: (s.heap.objs.size + 1 + 1 + 1, oW3) :: (16, tabObj ps17) :: (89, tabObj ps) :: (WT ++ (TB ++ (ob1 ++ ob2)))) := by
        have o16 : ∀ q : Addr × Obj, q ∈ _ → (∀ vs, q.2.data ≠ .fields vs) → q.1 ≠ 16 := fun q hq hd => off_tab N16 (ps := ps16) (by walk_at "mine mem") hq hd
        refine all_cons ?_ (all_cons ?_ (all_cons ?_ (all_cons ?_ (all_cons ?_ (all_cons ?_ (all_cons ?_ (all_cons ?_ (all_cons ?_ (all_app (fun p hp => ?_) (all_app (fun p hp => ?_) (all_app (fun p hp => ?_) (fun p hp => ?_))))))))))))
        · exact N17 _ (mem_th (by walk_at "mine mem") (Ne.symm (hoff (16, tabObj ps16) (by walk_at "mine mem"))))
        · exact N17 _ (mem_th (by walk_at "mine mem") (o16 (WL, listOf (List.toArray wv) nW) (by walk_at "mine mem") (fun vs e => by cases e)))
        · exact N17 _ (mem_th (by walk_at "mine mem") (o16 (ROW, listOf (List.toArray rowv) rn) (by walk_at "mine mem") (fun vs e => by cases e)))
        · exact N17 _ (mem_th (by walk_at "mine mem") (o16 (TD, listOf (List.toArray toldv) tn) (by walk_at "mine mem") (fun vs e => by cases e)))
        · exact N17 _ (mem_th (by walk_at "mine mem") (o16 (s.heap.objs.size + 1, oT') (by walk_at "mine mem") (hcv hoT')))
        · exact N17 _ (mem_th (by walk_at "mine mem") (o16 (s.heap.objs.size + 1 + 1, oK3) (by walk_at "mine mem") (hcv hoK3)))
        · exact N17 _ (mem_th (by walk_at "mine mem") (o16 (s.heap.objs.size + 1 + 1 + 1, oW3) (by walk_at "mine mem") (hcv hoW3)))
        · exact N17 _ (List.Mem.head _)
        · exact N17 _ (mem_th (by walk_at "mine mem") (by show (89 : Addr) ≠ 16; decide))
        · exact N17 _ (mem_th (by walk_at "mine memp") (o16 p (by walk_at "mine memp") (fun vs e => by obtain ⟨_, _, e2⟩ := wdat p hp; rw [e2] at e; cases e)))
        · exact N17 _ (mem_th (by walk_at "mine memp") (ioff p hp).2.2.2.1)
        · exact N17 _ (mem_ob (List.mem_append_left _ hp))
        · exact N17 _ (mem_ob (List.mem_append_right _ hp))
      have hI2 : ∀ p ∈ ob2, p.1 ≠ I := fun p hp e => by
        obtain ⟨x1, x2, x3, hid⟩ := hid
        obtain ⟨vs, q, t, h2, h3⟩ := (o17 p hp).2
        have h1 := (N18 p (by walk_at "mine memp")).1
        rw [e, (N18 (I, io) (by walk_at "mine mem")).1] at h1
        rw [← Option.some.inj h1, hid] at h2
        cases h2
        simp at h3
      clear F15 N16 N17
      walk_at "mine steps"
      refine wpN_leaf ?_
      walk_at "mine steps"
      rename Fr _ _ _ _ => F'; rename News _ _ _ _ => N'
      have htl : toldv.length = nms.length := itold.length
      refine asg_rng (c? := some _) (n := nms.length) (cl := [(Str.ofString "word", s.heap.objs.size + 1 + 1 + 1), (Str.ofString "told", s.heap.objs.size + 1), (Str.ofString "kind", s.heap.objs.size + 1 + 1)]) (fun k => sel (some (nms.getD k []))) (fun o i y => ∃ t, y = Value.int ((i : Int) + 1) t) (fun o o' i y h1 h2 => h2) rfl rfl rfl rfl rfl (by decide) rfl (by decide) rfl (by omega) ?_
      walk_at "mine steps"
      refine len_listE (n := nms.length) (IsL.isList (N' (TD, listOf (List.toArray toldv) tn) (by walk_at "mine mem")).1) (by simp [htl]) (by omega) ?_
      refine wpAny_of_eq (a := []) rfl ?_
      refine call_range_1 ?_
      dsimp only
      have kpr : ∀ {h : Heap} o, Keep h (h.push o) := fun o b o e => Heap.get?_push_of_some _ e
      refine ⟨_, _, _, _, _, rfl, F'.ns.keeps (kpr _), IsRange.new .., ?tst, ?elt, ?fin⟩
      case tst =>
        intro C k t s₃ m₃ E' K hk hn ha hkp hK
        refine hide ?_
        intro P' hP'
        obtain ⟨nm, hnm⟩ : ∃ nm, nms[k]? = some nm := ⟨_, List.getElem?_eq_getElem hk⟩
        obtain ⟨tv, htv⟩ : ∃ tv, toldv[k]? = some tv := ⟨_, List.getElem?_eq_getElem (by omega)⟩
        obtain ⟨nm', hnm', T3, t3, P3, its3, n3, u3', qs3, rfl, g1, g2, g3, g4, g5⟩ := itold.get htv
        obtain rfl : nm = nm' := Option.some.inj (hnm.symm.trans hnm')
        refine hP' ?_
        clear hP' P'
        have hok := ok5 nm (List.mem_of_getElem? hnm)
        have up3 : ∀ p : Addr × Obj, p ∈ _ → s₃.heap.get? p.1 = some p.2 := fun p hp => hkp _ _ (kpr _ _ _ (N' p hp).1)
        have kp3 : Keep h₀ s₃.heap := fun b o e => hkp b o (kpr _ b o (F'.keep b o e))
        have hcK : s₃.heap.IsCell (s.heap.objs.size + 1 + 1) (some (.int kind uk)) := ⟨oK3, up3 (_, oK3) (by walk_at "mine mem"), hoK3⟩
        have hcW : s₃.heap.IsCell (s.heap.objs.size + 1 + 1 + 1) (some (.str (st word) xw)) := ⟨oW3, up3 (_, oW3) (by walk_at "mine mem"), hoW3⟩
        have hcT : s₃.heap.IsCell (s.heap.objs.size + 1) (some (.ref TD)) := ⟨oT', up3 (_, oT') (by walk_at "mine mem"), hoT'⟩
        have hls : s₃.heap.IsList TD (List.toArray toldv) := IsL.isList (up3 (TD, listOf (List.toArray toldv) tn) (by walk_at "mine mem"))
        have hit2 : (List.toArray toldv)[(k : Int).toNat]? = some (.ref T3) := by rw [Int.toNat_natCast, List.getElem?_toArray]; exact htv
        have hTB : ∀ p ∈ TB, s₃.heap.get? p.1 = some p.2 := fun p hp => up3 p (by walk_at "mine memp")
        have hT3 := hTB _ g1
        have hP3 : s₃.heap.IsList P3 its3 := IsL.isList (hTB _ g2)
        have hpr := pairs_at hTB g4
        clear F' N' hkp up3
        obtain ⟨h3, gg3, d3, k3, o3⟩ := s₃
        dsimp only at hn kp3 hcK hcW hcT hls hT3 hP3 hpr hTB
        show wpAny _ _ (isTrue _ _ _) _ _ _
        walk_at "mine steps"
        refine item_list hls (by omega) (by omega) hit2 ?_
        walk_at "mine steps"
        have hTt : IsTup h3 T3 #[.str (st (curF nm [])) t3, .ref P3] := ⟨_, hT3, rfl, _, rfl⟩
        refine item_tuple hTt (j := 0) (by decide) (by decide) rfl rfl ?_
        walk_at "mine steps"
        refine item_list hls (by omega) (by omega) hit2 ?_
        walk_at "mine steps"
        · exact X.keeps kp3
        · refine W.fits (G₀.keeps kp3) (by decide) (by decide) (by have := curF_len nm []; have := hok.2.1; omega) hP3 hpr ?_ ?_
          · rw [places_len, gaps_len]; have := hok.2.1; omega
          · intro h' tk' kp
            rw [← sel_told W hok g3]
            dsimp only
            walk_at "mine steps"
            have e9 : nms.getD k [] = nm := by rw [List.getD_eq_getElem?_getD, hnm]; rfl
            rw [e9] at hK
            exact hK _ ⟨h', tk', rfl, kp⟩
      case elt =>
        intro C k t s₃ m₃ E' hk hp hn ha hkp
        clear F' N'
        obtain ⟨h3, gg3, d3, k3, o3⟩ := s₃
        dsimp only at hn hkp
        refine wpAny_mono (Q := EltP _ ((k : Int) + 1)) ?_ (fun y s₄ h => ⟨[], h.1, h.2, List.forall_mem_nil _⟩) (fun _ _ e => e)
        walk_at "mine steps"
        exact ⟨⟨_, rfl⟩, h3, _, rfl, fun _ _ e => e⟩
      case fin =>
        intro D9 h18 tk18 ys nn ob hM hA hL hkp
        have hled := asg_led (fr_mv F' (kpr _)) (news_mv N' (kpr _)) hL hkp hM
        have F18 := hled.1
        have N19 := hled.2
        clear hled
        clear F' N' hL hkp
        simp only [List.cons_append] at N19
        have hdue := ints_map hA
        refine hide ?_
        intro P' hP'
        obtain ⟨objs, hobj, hfo, hsel⟩ := L17 h18 F18.keep fun p hp => (N19 p (by walk_at "mine memp")).1
        obtain ⟨fo, fd, hfo, hfd⟩ := hfo
        refine hP' ?_
        clear hP' P'
        have hfg := hobj _ hfo
        refine wpN_execs_cons (wpN_If (wpN_of_any ?_))
        walk_at "mine steps"
        refine comp_gw (fun v y => ∀ a tv pl, v = Value.ref a → Thing h18 a tv pl → y = pl) (by decide) (by decide) rfl (by decide) rfl ?_
        walk_at "mine steps"
        have hR : RowL h18 0 rowv (none :: nms.map some) := irow.at F18.keep fun p hp => (N19 p (by walk_at "mine memp")).1
        have hrl : rowv.length = nms.length + 1 := by have := irow.length; simpa using this
        refine hsel _ _ ROW (List.toArray rowv) (tagAt h18) _ _ rfl ?dep (G₀.keeps F18.keep).T.nolimit hobj (IsL.isList (N19 (ROW, listOf (List.toArray rowv) rn) (by walk_at "mine mem")).1) (fun v hv => ?its) ?go
        case dep => dsimp only [Around.deeper]; decide
        case its =>
          obtain ⟨a, tv, j, t, e, h1, h2⟩ := rowL_mem2 hR v (by simpa using hv)
          exact ⟨a, tv, _, e, h1, h2⟩
        case go =>
          intro a g s' hgen hkeep hbare hos hdr hsz hgw
          refine ⟨a, g, _, h18.objs.size, rfl, hgen, hsz, ?len, hgw, ?elt, ?fin⟩
          case len =>
            refine Nat.le_trans (List.length_filter_le _ _) ?_
            rw [sizeLine_eq]; simp; omega
          case elt =>
            intro C v s₂ m₂ E' hv hns hm hkb
            obtain ⟨a2, tv, j, t, rfl, h1, h2⟩ := rowL_mem2 hR v (by simpa using (List.mem_filter.mp hv).1)
            have hT2 : Thing s₂.heap a2 tv (.int j t) := h1.keeps fun b o e => hkb b o (Heap.lt_size e) (hkeep b o e)
            obtain ⟨dd, mA, hF, hmt, hmp⟩ := hT2
            obtain ⟨h3, gg3, d3, k3, o3⟩ := s₂
            dsimp only at hns hF
            refine wpAny_mono (Q := EltT _ (.int j t)) ?_ (fun y s₄ h => ⟨fun a tv' pl e th => ?_, h.2⟩) (fun _ _ e => e)
            · walk_at "mine steps"
              refine fn_load fn_no_place hF hmp rfl ?_
              exact ⟨rfl, h3, _, rfl, fun _ _ e => e⟩
            · cases e
              exact h.1.trans (thing_uniq h1 th).2
          case fin =>
            intro D h' gens' tk ys2 hD0 hDn hlist hpair hkb hbare2
            obtain ⟨h5, g5, d5, k5, o5⟩ := s'
            dsimp only at hkeep hbare hos hdr hDn hkb hbare2 ⊢
            subst hos hdr
            have k20 : Keep h18 h' := fun b o e => hkb b o (Heap.lt_size e) (hkeep b o e)
            have F20 := fr_mv F18 k20
            have N20 := news_mv N19 k20
            clear F18 N19 hgw
            have hb20 : AllBare gens' := hbare2 (hbare hb10)
            have hps := rows_places (sel := sel) (F := fun v y => ∀ a tv pl, v = Value.ref a → Thing h18 a tv pl → y = pl) (fun v y a tv pl h e th => h a tv pl e th) hR ys2.toList (by simpa using hpair)
            have heq := due_eq (sel := sel) (fb := fun nm => sel (some nm)) W.none nms fun _ _ => rfl
            walk_at "mine steps"
            rename Fr _ _ _ _ => F'; rename News _ _ _ _ => N'
            refine ke_ne_ints (xs := ys2.toList) (ys := ys.toList) (by rw [Array.toArray_toList]; exact hlist) (by rw [Array.toArray_toList]; exact IsL.isList (N' (D9, listOf ys nn) (by walk_at "mine mem")).1) hps hdue ?hu ?_
            case hu => dsimp only [Around.deeper]; decide
            rw [heq]
            rw [decide_eq_true rfl]
            walk_at "mine steps"
            repeat (refine wpN_execs_nil ?_; try dsimp only)
            dsimp only [LPost]
            rename Fr _ _ _ _ => F'; rename News _ _ _ _ => N'
            refine lend (σ := Obj × Obj × Array Value × List (Addr × Obj)) ⟨oK3, oW3, ps17, ob2⟩ hb20 F' N' (by walk_at "mine mem") (fun p hp => ?_) (by kst_all) ⟨⟨_, hoK3⟩, ⟨_, hoW3⟩, o17, S17⟩
            revert p hp
            refine all_cons ?_ (all_cons ?_ (all_cons ?_ (all_cons ?_ (all_cons ?_ (all_cons ?_ (all_cons ?_ (all_cons ?_ (all_app (fun p hp => ?_) (all_app (fun p hp => ?_) (fun p hp => ?_))))))))))
            · exact ⟨by walk_at "mine mem", hoff (WL, listOf (List.toArray wv) nW) (by walk_at "mine mem")⟩
            · exact ⟨by walk_at "mine mem", hoff (ROW, listOf (List.toArray rowv) rn) (by walk_at "mine mem")⟩
            · exact ⟨by walk_at "mine mem", hoff (TD, listOf (List.toArray toldv) tn) (by walk_at "mine mem")⟩
            · exact ⟨by walk_at "mine mem", hoff (s.heap.objs.size + 1, oT') (by walk_at "mine mem")⟩
            · exact ⟨by walk_at "mine mem", hoff (s.heap.objs.size + 1 + 1, oK2) (by walk_at "mine mem")⟩
            · exact ⟨by walk_at "mine mem", hoff (s.heap.objs.size + 1 + 1 + 1, oW2) (by walk_at "mine mem")⟩
            · exact ⟨by walk_at "mine mem", hoff (16, tabObj ps16) (by walk_at "mine mem")⟩
            · exact ⟨by walk_at "mine mem", hoff (89, tabObj ps) (by walk_at "mine mem")⟩
            · exact ⟨by walk_at "mine memp", hoff p (by walk_at "mine memp")⟩
            · exact ⟨by walk_at "mine memp", hoff p (by walk_at "mine memp")⟩
            · exact ⟨by walk_at "mine memp", hI2 p hp⟩
end
section
open PySem PySem.W PyProof.Rows PySem.Calls
set_option maxRecDepth 100000
set_option maxHeartbeats 8000000
set_option linter.unusedVariables false
theorem good_end {cw : ClaimW} {cl : Str → Option Addr} {mean : ExcName → Option Value} {args : List WData} {s₁ s' : Shared} {tabs : List (Addr × Addr)} (hT : TabsAt tabs s₁.heap) (hr : ∀ cls, cw.raises args cls = false) (hp : cw.post args (.bool true) args = true)
    (hk : Keep (ghostOf s₁.heap tabs) s'.heap) (hgr : GrownAll tabs s'.heap) (hos : s'.os = s₁.os) (hb : AllBare s'.gens) : GoodWG cw cl mean args s₁ (.ok (.ret (.bool true))) s' := by
  have keep : ∀ b o, b ∉ tabs.map (·.2) → s₁.heap.get? b = some o → s'.heap.get? b = some o := fun b o h e => hk b o (ghost_ne e h)
  refine ⟨.inl ⟨.bool true, .bool true, [], rfl, hr, .bool true, hp, fun _ => ⟨List.nodup_nil, List.forall_mem_nil _⟩⟩, ⟨fun b o e => ?_, fun b o e => ?_⟩, hos, hb⟩
  · by_cases h : b ∈ tabs.map (·.2)
    · obtain ⟨q, hq, rfl⟩ := List.mem_map.mp h
      have e2 := (hT q hq).2
      rw [e] at e2
      obtain ⟨ps, hP⟩ := hgr.get q hq
      obtain rfl := Option.some.inj e2
      refine .inr (.inl ⟨((hT q hq).1.tab (hT q hq).2).isCodeTable, rfl, #[], ps, rfl, ?_⟩)
      rw [Array.empty_append]; exact hP
    · exact .inl (keep b o h e)
  · by_cases h : b ∈ tabs.map (·.2)
    · obtain ⟨q, hq, rfl⟩ := List.mem_map.mp h
      obtain ⟨ps, hP⟩ := hgr.get q hq
      exact ⟨_, hP⟩
    · exact ⟨o, keep b o h e⟩
theorem law_head (law : ∀ {w : World} {loose : List Str} {mean : ExcName → Option Value} {mg mb : Str → Option Value} {s : Shared} {Q : Value → Shared → Prop} {l : Addr} {vs : List Value} {gs : List Int} {h₀ : Heap},
    TabsAt [(93, 89), (20, 16)] s.heap → (Mine.hd.heap_1 w.params).In s.heap → s.heap.NoLimit → Gd w loose mean mg mb h₀ → h₀ = ghostOf s.heap [(93, 89), (20, 16)] →
    s.gens = #[] → s.heap.IsList l vs.toArray → IntsAre vs gs → gs.length ≤ 63 →
    (∀ h' gs' tk', Keep h₀ h' → AllBare gs' → GrownAll [(93, 89), (20, 16)] h' → Q (.bool true) { s with heap := h', gens := gs', toks := tk' }) →
    wpN true (model PySem.Challenge.rw_nq0080_01.row.prog w) callerA (call (.ref 106) [.ref l]) Q s) : PySem.Challenge.rw_nq0080_01.Holds := hd (by
  k_fill
  intro w s₀ s₁ mg mb G Y fa o pm cd doc dV kV ho hd hcd hD hmg hg args vals as hpre hlay hrd hwl hlo
  have KX := km_in_of Y
  km_tabs Y
  have T := G.T
  km_lay T hmg ho hd cd
  have hfa := mg_of (n := "law") (v := .ref 106) KX T.g (by kernel_rfl)
  have hfa : mg (Str.ofString "law") = some (.ref 106) := hfa
  have hmg : mg (Str.ofString "law") = some (.ref fa) := hmg
  rw [hfa] at hmg
  cases hmg
  wrow_args hpre hlay hrd hwl hlo
  rename Heap.IsList _ _ _ => hL
  rename IntsAre _ _ => hI
  have G₀ : Gd w _ _ mg mb (ghostOf s₁.heap [(93, 89), (20, 16)]) := ⟨ghost_K hT9 KX (by kernel_rfl), ghost_top hT9 T⟩
  refine law hT9 KX T.nolimit G₀ rfl hg hL hI (by omega) fun h' gs' tk' hk hb hgr => ?_
  refine good_end hT9 ?_ ?_ hk hgr rfl hb
  · intro cls; rfl
  · wrow_post)
end
end Mine
end
theorem PySem.Challenge.cw_nq0080_01_holds : PySem.Challenge.rw_nq0080_01.Holds := by
  exact Mine.law_head (fun a b c d e f g h i j => Mine.law_spec a b c d e f g h i j)
