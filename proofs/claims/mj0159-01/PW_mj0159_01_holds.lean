import PyProof.Rows.All
import Wide.All
import OpenK.AllK
import Wide.FinOn
import PySem.Challenge.RW_mj0159_01
open PySem PySem.W PyProof.Rows PySem.Calls
set_option Elab.async false
set_option maxRecDepth 100000
set_option maxHeartbeats 8000000
namespace Mine
open_top hd for PySem.Challenge.rw_mj0159_01

theorem exE1 {A1 : Type} {P : A1 → Prop} {R : Prop} (h : ∃ a1, P a1) (k : ∀ a1, P a1 → R) : R := Exists.elim h fun a1 h => k a1 h
theorem exE2 {A1 : Type} {A2 : Type} {P : A1 → A2 → Prop} {R : Prop} (h : ∃ a1 a2, P a1 a2) (k : ∀ a1 a2, P a1 a2 → R) : R := Exists.elim h fun a1 h => Exists.elim h fun a2 h => k a1 a2 h
theorem exE3 {A1 : Type} {A2 : Type} {A3 : Type} {P : A1 → A2 → A3 → Prop} {R : Prop} (h : ∃ a1 a2 a3, P a1 a2 a3) (k : ∀ a1 a2 a3, P a1 a2 a3 → R) : R := Exists.elim h fun a1 h => Exists.elim h fun a2 h => Exists.elim h fun a3 h => k a1 a2 a3 h
theorem exI3 {A1 : Type} {A2 : Type} {A3 : Type} {P : A1 → A2 → A3 → Prop} (a1 : A1) (a2 : A2) (a3 : A3) (h : P a1 a2 a3) : ∃ a1 a2 a3, P a1 a2 a3 := ⟨a1, a2, a3, h⟩
theorem exE4 {A1 : Type} {A2 : Type} {A3 : Type} {A4 : Type} {P : A1 → A2 → A3 → A4 → Prop} {R : Prop} (h : ∃ a1 a2 a3 a4, P a1 a2 a3 a4) (k : ∀ a1 a2 a3 a4, P a1 a2 a3 a4 → R) : R := Exists.elim h fun a1 h => Exists.elim h fun a2 h => Exists.elim h fun a3 h => Exists.elim h fun a4 h => k a1 a2 a3 a4 h
theorem exI4 {A1 : Type} {A2 : Type} {A3 : Type} {A4 : Type} {P : A1 → A2 → A3 → A4 → Prop} (a1 : A1) (a2 : A2) (a3 : A3) (a4 : A4) (h : P a1 a2 a3 a4) : ∃ a1 a2 a3 a4, P a1 a2 a3 a4 := ⟨a1, a2, a3, a4, h⟩
theorem exE5 {A1 : Type} {A2 : Type} {A3 : Type} {A4 : Type} {A5 : Type} {P : A1 → A2 → A3 → A4 → A5 → Prop} {R : Prop} (h : ∃ a1 a2 a3 a4 a5, P a1 a2 a3 a4 a5) (k : ∀ a1 a2 a3 a4 a5, P a1 a2 a3 a4 a5 → R) : R := Exists.elim h fun a1 h => Exists.elim h fun a2 h => Exists.elim h fun a3 h => Exists.elim h fun a4 h => Exists.elim h fun a5 h => k a1 a2 a3 a4 a5 h
theorem exI5 {A1 : Type} {A2 : Type} {A3 : Type} {A4 : Type} {A5 : Type} {P : A1 → A2 → A3 → A4 → A5 → Prop} (a1 : A1) (a2 : A2) (a3 : A3) (a4 : A4) (a5 : A5) (h : P a1 a2 a3 a4 a5) : ∃ a1 a2 a3 a4 a5, P a1 a2 a3 a4 a5 := ⟨a1, a2, a3, a4, a5, h⟩
theorem exE6 {A1 : Type} {A2 : Type} {A3 : Type} {A4 : Type} {A5 : Type} {A6 : Type} {P : A1 → A2 → A3 → A4 → A5 → A6 → Prop} {R : Prop} (h : ∃ a1 a2 a3 a4 a5 a6, P a1 a2 a3 a4 a5 a6) (k : ∀ a1 a2 a3 a4 a5 a6, P a1 a2 a3 a4 a5 a6 → R) : R := Exists.elim h fun a1 h => Exists.elim h fun a2 h => Exists.elim h fun a3 h => Exists.elim h fun a4 h => Exists.elim h fun a5 h => Exists.elim h fun a6 h => k a1 a2 a3 a4 a5 a6 h
theorem exE7 {A1 : Type} {A2 : Type} {A3 : Type} {A4 : Type} {A5 : Type} {A6 : Type} {A7 : Type} {P : A1 → A2 → A3 → A4 → A5 → A6 → A7 → Prop} {R : Prop} (h : ∃ a1 a2 a3 a4 a5 a6 a7, P a1 a2 a3 a4 a5 a6 a7) (k : ∀ a1 a2 a3 a4 a5 a6 a7, P a1 a2 a3 a4 a5 a6 a7 → R) : R := Exists.elim h fun a1 h => Exists.elim h fun a2 h => Exists.elim h fun a3 h => Exists.elim h fun a4 h => Exists.elim h fun a5 h => Exists.elim h fun a6 h => Exists.elim h fun a7 h => k a1 a2 a3 a4 a5 a6 a7 h
theorem exE8 {A1 : Type} {A2 : Type} {A3 : Type} {A4 : Type} {A5 : Type} {A6 : Type} {A7 : Type} {A8 : Type} {P : A1 → A2 → A3 → A4 → A5 → A6 → A7 → A8 → Prop} {R : Prop} (h : ∃ a1 a2 a3 a4 a5 a6 a7 a8, P a1 a2 a3 a4 a5 a6 a7 a8) (k : ∀ a1 a2 a3 a4 a5 a6 a7 a8, P a1 a2 a3 a4 a5 a6 a7 a8 → R) : R := Exists.elim h fun a1 h => Exists.elim h fun a2 h => Exists.elim h fun a3 h => Exists.elim h fun a4 h => Exists.elim h fun a5 h => Exists.elim h fun a6 h => Exists.elim h fun a7 h => Exists.elim h fun a8 h => k a1 a2 a3 a4 a5 a6 a7 a8 h
theorem exE11 {A1 : Type} {A2 : Type} {A3 : Type} {A4 : Type} {A5 : Type} {A6 : Type} {A7 : Type} {A8 : Type} {A9 : Type} {A10 : Type} {A11 : Type} {P : A1 → A2 → A3 → A4 → A5 → A6 → A7 → A8 → A9 → A10 → A11 → Prop} {R : Prop} (h : ∃ a1 a2 a3 a4 a5 a6 a7 a8 a9 a10 a11, P a1 a2 a3 a4 a5 a6 a7 a8 a9 a10 a11) (k : ∀ a1 a2 a3 a4 a5 a6 a7 a8 a9 a10 a11, P a1 a2 a3 a4 a5 a6 a7 a8 a9 a10 a11 → R) : R := Exists.elim h fun a1 h => Exists.elim h fun a2 h => Exists.elim h fun a3 h => Exists.elim h fun a4 h => Exists.elim h fun a5 h => Exists.elim h fun a6 h => Exists.elim h fun a7 h => Exists.elim h fun a8 h => Exists.elim h fun a9 h => Exists.elim h fun a10 h => Exists.elim h fun a11 h => k a1 a2 a3 a4 a5 a6 a7 a8 a9 a10 a11 h
theorem exE12 {A1 : Type} {A2 : Type} {A3 : Type} {A4 : Type} {A5 : Type} {A6 : Type} {A7 : Type} {A8 : Type} {A9 : Type} {A10 : Type} {A11 : Type} {A12 : Type} {P : A1 → A2 → A3 → A4 → A5 → A6 → A7 → A8 → A9 → A10 → A11 → A12 → Prop} {R : Prop} (h : ∃ a1 a2 a3 a4 a5 a6 a7 a8 a9 a10 a11 a12, P a1 a2 a3 a4 a5 a6 a7 a8 a9 a10 a11 a12) (k : ∀ a1 a2 a3 a4 a5 a6 a7 a8 a9 a10 a11 a12, P a1 a2 a3 a4 a5 a6 a7 a8 a9 a10 a11 a12 → R) : R := Exists.elim h fun a1 h => Exists.elim h fun a2 h => Exists.elim h fun a3 h => Exists.elim h fun a4 h => Exists.elim h fun a5 h => Exists.elim h fun a6 h => Exists.elim h fun a7 h => Exists.elim h fun a8 h => Exists.elim h fun a9 h => Exists.elim h fun a10 h => Exists.elim h fun a11 h => Exists.elim h fun a12 h => k a1 a2 a3 a4 a5 a6 a7 a8 a9 a10 a11 a12 h
theorem exI12 {A1 : Type} {A2 : Type} {A3 : Type} {A4 : Type} {A5 : Type} {A6 : Type} {A7 : Type} {A8 : Type} {A9 : Type} {A10 : Type} {A11 : Type} {A12 : Type} {P : A1 → A2 → A3 → A4 → A5 → A6 → A7 → A8 → A9 → A10 → A11 → A12 → Prop} (a1 : A1) (a2 : A2) (a3 : A3) (a4 : A4) (a5 : A5) (a6 : A6) (a7 : A7) (a8 : A8) (a9 : A9) (a10 : A10) (a11 : A11) (a12 : A12) (h : P a1 a2 a3 a4 a5 a6 a7 a8 a9 a10 a11 a12) : ∃ a1 a2 a3 a4 a5 a6 a7 a8 a9 a10 a11 a12, P a1 a2 a3 a4 a5 a6 a7 a8 a9 a10 a11 a12 := ⟨a1, a2, a3, a4, a5, a6, a7, a8, a9, a10, a11, a12, h⟩
theorem exE13 {A1 : Type} {A2 : Type} {A3 : Type} {A4 : Type} {A5 : Type} {A6 : Type} {A7 : Type} {A8 : Type} {A9 : Type} {A10 : Type} {A11 : Type} {A12 : Type} {A13 : Type} {P : A1 → A2 → A3 → A4 → A5 → A6 → A7 → A8 → A9 → A10 → A11 → A12 → A13 → Prop} {R : Prop} (h : ∃ a1 a2 a3 a4 a5 a6 a7 a8 a9 a10 a11 a12 a13, P a1 a2 a3 a4 a5 a6 a7 a8 a9 a10 a11 a12 a13) (k : ∀ a1 a2 a3 a4 a5 a6 a7 a8 a9 a10 a11 a12 a13, P a1 a2 a3 a4 a5 a6 a7 a8 a9 a10 a11 a12 a13 → R) : R := Exists.elim h fun a1 h => Exists.elim h fun a2 h => Exists.elim h fun a3 h => Exists.elim h fun a4 h => Exists.elim h fun a5 h => Exists.elim h fun a6 h => Exists.elim h fun a7 h => Exists.elim h fun a8 h => Exists.elim h fun a9 h => Exists.elim h fun a10 h => Exists.elim h fun a11 h => Exists.elim h fun a12 h => Exists.elim h fun a13 h => k a1 a2 a3 a4 a5 a6 a7 a8 a9 a10 a11 a12 a13 h
theorem exI13 {A1 : Type} {A2 : Type} {A3 : Type} {A4 : Type} {A5 : Type} {A6 : Type} {A7 : Type} {A8 : Type} {A9 : Type} {A10 : Type} {A11 : Type} {A12 : Type} {A13 : Type} {P : A1 → A2 → A3 → A4 → A5 → A6 → A7 → A8 → A9 → A10 → A11 → A12 → A13 → Prop} (a1 : A1) (a2 : A2) (a3 : A3) (a4 : A4) (a5 : A5) (a6 : A6) (a7 : A7) (a8 : A8) (a9 : A9) (a10 : A10) (a11 : A11) (a12 : A12) (a13 : A13) (h : P a1 a2 a3 a4 a5 a6 a7 a8 a9 a10 a11 a12 a13) : ∃ a1 a2 a3 a4 a5 a6 a7 a8 a9 a10 a11 a12 a13, P a1 a2 a3 a4 a5 a6 a7 a8 a9 a10 a11 a12 a13 := ⟨a1, a2, a3, a4, a5, a6, a7, a8, a9, a10, a11, a12, a13, h⟩
theorem exE16 {A1 : Type} {A2 : Type} {A3 : Type} {A4 : Type} {A5 : Type} {A6 : Type} {A7 : Type} {A8 : Type} {A9 : Type} {A10 : Type} {A11 : Type} {A12 : Type} {A13 : Type} {A14 : Type} {A15 : Type} {A16 : Type} {P : A1 → A2 → A3 → A4 → A5 → A6 → A7 → A8 → A9 → A10 → A11 → A12 → A13 → A14 → A15 → A16 → Prop} {R : Prop} (h : ∃ a1 a2 a3 a4 a5 a6 a7 a8 a9 a10 a11 a12 a13 a14 a15 a16, P a1 a2 a3 a4 a5 a6 a7 a8 a9 a10 a11 a12 a13 a14 a15 a16) (k : ∀ a1 a2 a3 a4 a5 a6 a7 a8 a9 a10 a11 a12 a13 a14 a15 a16, P a1 a2 a3 a4 a5 a6 a7 a8 a9 a10 a11 a12 a13 a14 a15 a16 → R) : R := Exists.elim h fun a1 h => Exists.elim h fun a2 h => Exists.elim h fun a3 h => Exists.elim h fun a4 h => Exists.elim h fun a5 h => Exists.elim h fun a6 h => Exists.elim h fun a7 h => Exists.elim h fun a8 h => Exists.elim h fun a9 h => Exists.elim h fun a10 h => Exists.elim h fun a11 h => Exists.elim h fun a12 h => Exists.elim h fun a13 h => Exists.elim h fun a14 h => Exists.elim h fun a15 h => Exists.elim h fun a16 h => k a1 a2 a3 a4 a5 a6 a7 a8 a9 a10 a11 a12 a13 a14 a15 a16 h
theorem anE2 {p1 p2 R : Prop} (h : p1 ∧ p2) (k : p1 → p2 → R) : R := k h.1 h.2
theorem anE3 {p1 p2 p3 R : Prop} (h : p1 ∧ p2 ∧ p3) (k : p1 → p2 → p3 → R) : R := k h.1 h.2.1 h.2.2
theorem anE4 {p1 p2 p3 p4 R : Prop} (h : p1 ∧ p2 ∧ p3 ∧ p4) (k : p1 → p2 → p3 → p4 → R) : R := k h.1 h.2.1 h.2.2.1 h.2.2.2
theorem anE5 {p1 p2 p3 p4 p5 R : Prop} (h : p1 ∧ p2 ∧ p3 ∧ p4 ∧ p5) (k : p1 → p2 → p3 → p4 → p5 → R) : R := k h.1 h.2.1 h.2.2.1 h.2.2.2.1 h.2.2.2.2
theorem anE6 {p1 p2 p3 p4 p5 p6 R : Prop} (h : p1 ∧ p2 ∧ p3 ∧ p4 ∧ p5 ∧ p6) (k : p1 → p2 → p3 → p4 → p5 → p6 → R) : R := k h.1 h.2.1 h.2.2.1 h.2.2.2.1 h.2.2.2.2.1 h.2.2.2.2.2
theorem anE8 {p1 p2 p3 p4 p5 p6 p7 p8 R : Prop} (h : p1 ∧ p2 ∧ p3 ∧ p4 ∧ p5 ∧ p6 ∧ p7 ∧ p8) (k : p1 → p2 → p3 → p4 → p5 → p6 → p7 → p8 → R) : R := k h.1 h.2.1 h.2.2.1 h.2.2.2.1 h.2.2.2.2.1 h.2.2.2.2.2.1 h.2.2.2.2.2.2.1 h.2.2.2.2.2.2.2
theorem anE9 {p1 p2 p3 p4 p5 p6 p7 p8 p9 R : Prop} (h : p1 ∧ p2 ∧ p3 ∧ p4 ∧ p5 ∧ p6 ∧ p7 ∧ p8 ∧ p9) (k : p1 → p2 → p3 → p4 → p5 → p6 → p7 → p8 → p9 → R) : R := k h.1 h.2.1 h.2.2.1 h.2.2.2.1 h.2.2.2.2.1 h.2.2.2.2.2.1 h.2.2.2.2.2.2.1 h.2.2.2.2.2.2.2.1 h.2.2.2.2.2.2.2.2
theorem anE10 {p1 p2 p3 p4 p5 p6 p7 p8 p9 p10 R : Prop} (h : p1 ∧ p2 ∧ p3 ∧ p4 ∧ p5 ∧ p6 ∧ p7 ∧ p8 ∧ p9 ∧ p10) (k : p1 → p2 → p3 → p4 → p5 → p6 → p7 → p8 → p9 → p10 → R) : R := k h.1 h.2.1 h.2.2.1 h.2.2.2.1 h.2.2.2.2.1 h.2.2.2.2.2.1 h.2.2.2.2.2.2.1 h.2.2.2.2.2.2.2.1 h.2.2.2.2.2.2.2.2.1 h.2.2.2.2.2.2.2.2.2
theorem anE12 {p1 p2 p3 p4 p5 p6 p7 p8 p9 p10 p11 p12 R : Prop} (h : p1 ∧ p2 ∧ p3 ∧ p4 ∧ p5 ∧ p6 ∧ p7 ∧ p8 ∧ p9 ∧ p10 ∧ p11 ∧ p12) (k : p1 → p2 → p3 → p4 → p5 → p6 → p7 → p8 → p9 → p10 → p11 → p12 → R) : R := k h.1 h.2.1 h.2.2.1 h.2.2.2.1 h.2.2.2.2.1 h.2.2.2.2.2.1 h.2.2.2.2.2.2.1 h.2.2.2.2.2.2.2.1 h.2.2.2.2.2.2.2.2.1 h.2.2.2.2.2.2.2.2.2.1 h.2.2.2.2.2.2.2.2.2.2.1 h.2.2.2.2.2.2.2.2.2.2.2
theorem mHd {α : Type} {a : α} {l : List α} : a ∈ a :: l := .head _
theorem mTl {α : Type} {a b : α} {l : List α} (h : a ∈ l) : a ∈ b :: l := .tail _ h
theorem sbN {α : Type} {r : List α} : ∀ q ∈ ([] : List α), q ∈ r := fun _ h => nomatch h
theorem sb0 {α : Type} {r : List α} : ∀ q ∈ r, q ∈ r := fun _ h => h
theorem sbC {α : Type} {a : α} {l r : List α} (h : a ∈ r) (t : ∀ q ∈ l, q ∈ r) : ∀ q ∈ a :: l, q ∈ r := List.forall_mem_cons.mpr ⟨h, t⟩
theorem sbA {α : Type} {l k r : List α} (h : ∀ q ∈ l, q ∈ r) (t : ∀ q ∈ k, q ∈ r) : ∀ q ∈ l ++ k, q ∈ r := fun q hq => (List.mem_append.mp hq).elim (h q) (t q)
theorem sbT {α : Type} {a : α} {l r : List α} (h : ∀ q ∈ l, q ∈ r) : ∀ q ∈ l, q ∈ a :: r := fun q hq => .tail _ (h q hq)
theorem sbR {α : Type} {l k r : List α} (h : ∀ q ∈ l, q ∈ r) : ∀ q ∈ l, q ∈ k ++ r := fun q hq => List.mem_append_right _ (h q hq)
theorem sbL {α : Type} {l k r : List α} (h : ∀ q ∈ l, q ∈ k) : ∀ q ∈ l, q ∈ k ++ r := fun q hq => List.mem_append_left _ (h q hq)
theorem alN {α : Type} {P : α → Prop} : ∀ q ∈ ([] : List α), P q := fun _ h => nomatch h
theorem alC {α : Type} {P : α → Prop} {a : α} {l : List α} (h : P a) (t : ∀ q ∈ l, P q) : ∀ q ∈ a :: l, P q := List.forall_mem_cons.mpr ⟨h, t⟩
theorem alA {α : Type} {P : α → Prop} {l k : List α} (h : ∀ q ∈ l, P q) (t : ∀ q ∈ k, P q) : ∀ q ∈ l ++ k, P q := fun q hq => (List.mem_append.mp hq).elim (h q) (t q)
theorem alS {α : Type} {P : α → Prop} {l k : List α} (h : ∀ q ∈ k, P q) (s : ∀ q ∈ l, q ∈ k) : ∀ q ∈ l, P q := fun q hq => h q (s q hq)
theorem nwS {h h₁ : PySem.Heap} {L : PySem.Addr} {l k : List (PySem.Addr × PySem.Obj)} (N : PyProof.Rows.News h L h₁ k) (s : ∀ q ∈ l, q ∈ k) : PyProof.Rows.News h L h₁ l := fun q hq => N q (s q hq)
theorem rm00 {a c n : Nat} (h : a + n < c) : a < c := Nat.lt_of_le_of_lt (Nat.le_add_right _ _) h
theorem rm0 {a c n m : Nat} (h : a + n < c) (e : m ≤ n) : a + m < c := Nat.lt_of_le_of_lt (Nat.add_le_add_left e a) h
theorem rm1 {a c n m j : Nat} (h : a + n < c) (e : j + m ≤ n) : a + j + m < c := Nat.add_assoc a j m ▸ rm0 h e
theorem rm2 {a c n m j k : Nat} (h : a + n < c) (e : j + k + m ≤ n) : a + j + k + m < c := Nat.add_assoc a j k ▸ rm1 h e

section

noncomputable abbrev PR : Program := Challenge.rw_mj0159_01.row.prog

/-- everything that stood stands -/
noncomputable abbrev Stay (h h' : Heap) : Prop := ∀ b o, h.get? b = some o → h'.get? b = some o
theorem Stay.refl (h : Heap) : Stay h h := fun _ _ e => e
theorem Stay.trans {a b c : Heap} (x : Stay a b) (y : Stay b c) : Stay a c := fun i o e => y i o (x i o e)

/-- what every call may lean on -/
structure Gr (w : World) (p : Program) (loose : List Str) (mean : ExcName → Option Value) (mg mb : Str → Option Value) (h : Heap) : Prop where
  X : (hd.heap_39 w.params).In h
  T : Top p loose mean mg mb h
/-- room around a call -/
structure Rm (n : Nat) (A : Around) : Prop where
  hh : A.handled = none
  hd : A.depth + n < recursionLimit
  hu : A.units + 8 * n < cLine
theorem Rm.deeper {n : Nat} {A : Around} {env : Env} (R : Rm (n + 1) A) : Rm n (A.deeper env) := ⟨R.hh, by have := R.hd; show A.depth + 1 + n < _; omega, by have := R.hu; show A.units + 3 + 8 * n < _; omega⟩
theorem Rm.in1 {n : Nat} {A : Around} (R : Rm (n + 1) A) : Rm n A.in1 := ⟨R.hh, by have := R.hd; show A.depth + n < _; omega, by have := R.hu; show A.units + 1 + 8 * n < _; omega⟩
theorem Rm.less {n m : Nat} {A : Around} (R : Rm n A) (h : m ≤ n) : Rm m A := ⟨R.hh, by have := R.hd; omega, by have := R.hu; omega⟩

variable {w : World} {p : Program} {loose : List Str} {mean : ExcName → Option Value} {mg mb : Str → Option Value}

theorem Gr.keeps {h h' : Heap} (G : Gr w p loose mean mg mb h) (k : Stay h h') : Gr w p loose mean mg mb h' := ⟨G.X.keeps k, G.T.keeps k⟩

/-- the call of a def of the text without cells, all that stood being frozen -/
theorem enter {A : Around} {s : Shared} {R : Result → Shared → Prop} {name qual : Str} {params : Arguments} {body : List Stmt} {scope : Scope} {dV kV doc pm cdv ct oc : Value} {an od : Option Addr} {osl : Array (Option Value)} {f : Addr} {args : Args} (binds : List (Str × Value))
    (G : Gr w p loose mean mg mb s.heap)
    (ho : (hd.heap_39 w.params).lookup f = some ⟨oc, od, .func (fnX name qual params body scope [] dV kV doc pm an cdv ct), osl⟩) (hcd : codeIn (hd.heap_39 w.params) cdv qual = true) (hroom : A.depth < recursionLimit)
    (hbind : BindsTo s (fnX name qual params body scope [] dV kV doc pm an cdv ct) args binds) (hloc : ∀ y ∈ binds, scope.names.lookup y.1 = some .local)
    (h : ∀ L' h₁, Fr s.heap L' h₁ (fun y => binds.reverse.lookup y) → News s.heap L' h₁ [] → 
      wpAny (model PR w) (A.deeper (envX qual scope L' f cdv [])) (execs body (envX qual scope L' f cdv []))
        (fun fl s' => R (.ok (.ret (match fl with | .ret v => v | _ => .none))) s') (fun _ _ => False)
        { s with heap := h₁, toks := s.toks + binds.length })
    (hcell : ∀ x ∈ scope.names, x.2 ≠ .cell) (hco : scope.isCoroutine = false) (hgen : scope.isGenerator = false) (hk : scope.kind = .function) :
    codeAny (model PR w) A (.call (.ref f) args) R s := by
  refine codeAny_call_def (fd := fnX name qual params body scope [] dV kV doc pm an cdv ct) (body := body) (binds := binds) hroom (G.X _ _ ho) rfl G.T.nolimit (codeRec_of G.X hcd) rfl hbind hcell hloc (fun h₁ hns hk₁ => ?_) hco hgen hk
  exact wpAny_mono (h s.heap.objs.size h₁ ⟨hns, hk₁, Nat.le_refl _⟩ News.nil) (fun _ _ x => x) (fun _ _ x => x.elim)

/-- what a Whitespace is -/
structure Mk where
  raw : Str
  n : Int
  nt : Int
  cnt : List Int
  b : Int
  simple : Bool

noncomputable abbrev entry (w : World) (name : String) (t : Tok) (v : Value) : DictEntry := ⟨PyData.keyHash w.params (Str.ofString name), .str (Str.ofString name) t, v⟩
noncomputable abbrev mkDict (w : World) (k : Mk) (tn : Addr) (t1 t2 t3 t4 t5 t6 t7 t8 : Tok) (n : Nat) : Obj :=
  dictOf [entry w "raw" t1 (.str k.raw t2), entry w "n" t3 (.int k.n t4), entry w "nt" t5 (.int k.nt t6), entry w "norm" t7 (.ref tn), entry w "is_simple" t8 (.bool k.simple)] n
noncomputable abbrev tupOf (vs : List Value) (n : Nat) : Obj := { cls := .type "tuple", data := .seq vs.toArray n }

/-- a Whitespace at x -/
noncomputable def IsMk (w : World) (h : Heap) (x : Addr) (k : Mk) : Prop :=
  ∃ dx tn tc t1 t2 t3 t4 t5 t6 t7 t8 n tb cv e1 e2, h.get? x = some (instObj 90 dx) ∧ h.get? dx = some (mkDict w k tn t1 t2 t3 t4 t5 t6 t7 t8 n) ∧
    h.get? tn = some (tupOf [.ref tc, .int k.b tb] e1) ∧
    h.get? tc = some (tupOf cv e2) ∧ IntsAre cv k.cnt
theorem IsMk.stay {h h' : Heap} {x : Addr} {k : Mk} (a : IsMk w h x k) (st : Stay h h') : IsMk w h' x k := by
  obtain ⟨dx, tn, tc, t1, t2, t3, t4, t5, t6, t7, t8, n, tb, cv, e1, e2, h1, h2, h3, h4, h5⟩ := a
  exact ⟨dx, tn, tc, t1, t2, t3, t4, t5, t6, t7, t8, n, tb, cv, e1, e2, st _ _ h1, st _ _ h2, st _ _ h3, st _ _ h4, h5⟩


end
section
variable {w : World} {p : Program} {loose : List Str} {mean : ExcName → Option Value} {mg mb : Str → Option Value}

theorem Fr.stay {h₀ h h' : Heap} {L : Addr} {m : Str → Option Value} (F : Fr h₀ L h m) (k : Stay h h') : Fr h₀ L h' m := ⟨F.ns.keeps k, fun b o e => k b o (F.keep b o e), F.above⟩
theorem News.stay {h₀ h h' : Heap} {L : Addr} {news : List (Addr × Obj)} (N : News h₀ L h news) (k : Stay h h') : News h₀ L h' news := fun q hq => ⟨k _ _ (N q hq).1, (N q hq).2⟩

theorem lkc (y a : Str) (v : Value) (l : List (Str × Value)) : List.lookup y ((a, v) :: l) = if y = a then some v else List.lookup y l := by
  rw [List.lookup_cons]
  by_cases h : y = a
  · simp [h]
  · rw [if_neg h]
    have : (y == a) = false := by simpa using h
    rw [this]
/-- what a call hands back: all stands, and P of the answer -/
noncomputable def Out (s : Shared) (P : Value → Heap → Prop) (v : Value) (s' : Shared) : Prop := Keeps s s' ∧ P v s'.heap
noncomputable abbrev NoE : Value → Shared → Prop := fun _ _ => False
theorem Out.of {s : Shared} {P : Value → Heap → Prop} {v : Value} {L : Addr} {h' : Heap} {tk : Nat} {m : Str → Option Value} (F : Fr s.heap L h' m) (hP : P v h') : Out s P v { s with heap := h', toks := tk } := ⟨⟨h', tk, rfl, F.keep⟩, hP⟩
/-- a call by what is known of it -/
theorem use {A : Around} {E : Value → Shared → Prop} {s : Shared} {prog : Program} {h₀ : Heap} {L : Addr} {m : Str → Option Value} {news : List (Addr × Obj)} {t : Sem Value} {P : Value → Heap → Prop} {Q : Value → Shared → Prop}
    (F : Fr h₀ L s.heap m) (N : News h₀ L s.heap news) (c : wpAny (model prog w) A t (Out s P) NoE s)
    (h : ∀ v h' tk, Stay s.heap h' → Fr h₀ L h' m → News h₀ L h' news → P v h' → Q v { s with heap := h', toks := tk }) : wpAny (model prog w) A t Q E s :=
  wpAny_mono c (fun v s' ⟨⟨h', tk, e, k⟩, hP⟩ => by subst e; exact h v h' tk k (Fr.stay F k) (News.stay N k) hP) fun _ _ x => x.elim

theorem instB {h₀ h : Heap} {L x C dx : Addr} {m : Str → Option Value} {od : Obj} {sl : Array (Option Value)} (F : Fr h₀ L h m) (h1 : h₀.get? x = some (⟨.ref C, some dx, .plain, sl⟩ : Obj)) (h2 : h₀.get? dx = some od) :
    InstAt h x ⟨.ref C, some dx, .plain, sl⟩ C (some od) := ⟨F.keep _ _ h1, rfl, rfl, F.keep _ _ h2⟩
/-- a tuple of ints that is not the call's own -/
theorem lenTupB {A : Around} {E : Value → Shared → Prop} {s : Shared} {prog : Program} {h₀ : Heap} {L t : Addr} {m : Str → Option Value} {vs : List Value} {ns : List Int} {Q : Value → Shared → Prop} (F : Fr h₀ L s.heap m) (T : IsTup h₀ t vs.toArray) (I : IntsAre vs ns) (hf : ns.length < 1000)
    (h : Q (.int ns.length (s.toks + 1)) { s with toks := s.toks + 1 + 1 }) : wpAny (model prog w) A (call (.builtin "len") [.ref t]) Q E s := by
  have e : vs.toArray.size = ns.length := by simp [I.length]
  exact len_tuple (T.keeps F.keep) (by rw [e]; omega) (by rw [e]; exact h)
theorem itemTupB {A : Around} {E : Value → Shared → Prop} {s : Shared} {prog : Program} {h₀ : Heap} {L t : Addr} {m : Str → Option Value} {vs : List Value} {ns : List Int} {k : Int} {u : Tok} {value slice : PySem.Expr} {Q : Value → Shared → Prop} (F : Fr h₀ L s.heap m) (T : IsTup h₀ t vs.toArray) (I : IntsAre vs ns) (hf : ns.length < 1000)
    (h0 : 0 ≤ k) (h1 : k < ns.length) (h : ∀ t, Q (.int (ns.getD k.toNat 0) t) s)
    (hs : subscripted slice false (.ref t) (.int k u) = operate [.ref t, .int k u] (getItem (.ref t) (.int k u)) := by with_unfolding_all rfl) :
    wpAny (model prog w) A (subscriptTail value slice (.ref t) (.int k u)) Q E s := by
  have hk : k.toNat < ns.length := by omega
  obtain ⟨t', ht'⟩ := I.get k.toNat (ns.getD k.toNat 0) (by simp [List.getD, hk])
  refine item_tupleT (T.keeps F.keep) (by omega) (by omega) (j := k.toNat) ?_ ht' (h t') hs
  rw [I.length]
  unfold seqIndex?
  simp
  omega

theorem rangeSize1 (a b : Int) : Builtin.Range.rangeSize a b 1 = ((b - a).toNat : Int) := by
  unfold Builtin.Range.rangeSize
  simp
  split <;> omega
theorem rangeSmall1 {a b : Int} (h1 : -1000000 ≤ a) (h2 : a ≤ 1000000) (h3 : -1000000 ≤ b) (h4 : b ≤ 1000000) : Builtin.Range.small a b 1 = true := by
  unfold Builtin.Range.small
  rw [rangeSize1]
  have h5 : (0 : Int) ≤ ((b - a).toNat : Int) := by omega
  have h6 : ((b - a).toNat : Int) ≤ 2000000 := by omega
  generalize ((b - a).toNat : Int) = d at h5 h6
  simp [Builtin.Range.rangeFitsLong]
  omega
/-- no iterator of that kind -/
noncomputable def NotIt (ic : Value) (o : Obj) : Prop := o.cls ≠ ic ∨ (∃ v, o.data = .cell v) ∨ ∃ vs q t, o.data = .fields vs ∧ vs[1]? = some (Value.str q t)
/-- the look of an iterator -/
noncomputable def ItLook (ic : Value) (o : Obj) : Prop := o.cls = ic ∧ (∀ v, o.data ≠ .cell v) ∧ ∀ vs q t, o.data = .fields vs → vs[1]? ≠ some (Value.str q t)
theorem ItLook.apart {ic : Value} {o o' : Obj} (h : ItLook ic o) (h' : NotIt ic o') : o ≠ o' := fun e => by
  subst e
  rcases h' with h1 | ⟨v, h1⟩ | ⟨vs, q, t, h1, h2⟩
  · exact h1 h.1
  · exact h.2.1 v h1
  · exact h.2.2 vs q t h1 h2
section loops
variable {prog : Program} {A : Around} {s : Shared} {env : Env} {h₀ : Heap} {x : Str} {body : List Stmt} {Q : Flow → Shared → Prop} {E : Value → Shared → Prop}

/-- how a turn may end -/
noncomputable def TurnEnd (h₀ : Heap) (L : Addr) (own : List (Addr × Obj)) (J : (Str → Option Value) → List (Addr × Obj) → Prop) (s₁ : Shared) (Q : Flow → Shared → Prop) (f : Flow) (s₂ : Shared) : Prop := match f with
  | .ret v => Q (.ret v) s₂
  | .brk => Q .next s₂
  | _ => ∃ h' tk m' nx news', s₂ = { s₁ with heap := h', toks := tk } ∧ Fr h₀ L h' m' ∧ News h₀ L h' news' ∧ (∀ q ∈ nx, q ∈ news') ∧ (∀ q ∈ own, q ∈ news') ∧ J m' nx

theorem TurnEnd.ret {L : Addr} {own : List (Addr × Obj)} {J : (Str → Option Value) → List (Addr × Obj) → Prop} {s₁ s₂ : Shared} {v : Value} (h : Q (.ret v) s₂) : TurnEnd h₀ L own J s₁ Q (.ret v) s₂ := h
theorem TurnEnd.brk {L : Addr} {own : List (Addr × Obj)} {J : (Str → Option Value) → List (Addr × Obj) → Prop} {s₁ s₂ : Shared} (h : Q .next s₂) : TurnEnd h₀ L own J s₁ Q .brk s₂ := h
theorem TurnEnd.go {L : Addr} {own nx news' : List (Addr × Obj)} {J : (Str → Option Value) → List (Addr × Obj) → Prop} {s₁ : Shared} {h' : Heap} {tk : Nat} {m' : Str → Option Value} (F : Fr h₀ L h' m') (N : News h₀ L h' news') (hJ : J m' nx) (h1 : ∀ q ∈ nx, q ∈ news') (h2 : ∀ q ∈ own, q ∈ news') :
    TurnEnd h₀ L own J s₁ Q .next { s₁ with heap := h', toks := tk } := ⟨h', tk, m', nx, news', rfl, F, N, h1, h2, hJ⟩
theorem TurnEnd.on {L : Addr} {own nx news' : List (Addr × Obj)} {J : (Str → Option Value) → List (Addr × Obj) → Prop} {s₁ : Shared} {h' : Heap} {tk : Nat} {m' : Str → Option Value} (F : Fr h₀ L h' m') (N : News h₀ L h' news') (hJ : J m' nx) (h1 : ∀ q ∈ nx, q ∈ news') (h2 : ∀ q ∈ own, q ∈ news') :
    TurnEnd h₀ L own J s₁ Q .cont { s₁ with heap := h', toks := tk } := ⟨h', tk, m', nx, news', rfl, F, N, h1, h2, hJ⟩
/-- a loop over an iterator; K: what of its source is the call's own; J: what holds between the turns -/
theorem loopK {I : Addr} {fp : List Addr} {n : Nat} {P : Nat → Value → Prop} {St : Nat → Heap → Prop} {m₀ : Str → Option Value} {news : List (Addr × Obj)} (ic : Value) (K : List (Addr × Obj))
    (J : Nat → (Str → Option Value) → List (Addr × Obj) → Prop)
    (W : Walks prog w A I fp [I] n P St) (hLf : env.locals ∉ fp) (hI : h₀.get? I = none) (hic : ∀ i h, St i h → ∃ o, h.get? I = some o ∧ ItLook ic o)
    (hfp : ∀ b ∈ fp, b = I ∨ h₀.get? b ≠ none ∨ ∃ o, (b, o) ∈ K) (hK : ∀ q ∈ K, q.2.cls ≠ ic)
    (hst : St 0 s.heap) (F : Fr h₀ env.locals s.heap m₀) (N : News h₀ env.locals s.heap (K ++ news)) (hj : J 0 m₀ news)
    (hcls : ∀ i m nx, J i m nx → ∀ q ∈ nx, NotIt ic q.2)
    (turn : ∀ i v m₁ nx h tk own, i < n → P i v → J i m₁ nx → OwnOff own ((K ++ nx).map (·.1)) → Fr h₀ env.locals h (fun y => if y = x then some v else m₁ y) → News h₀ env.locals h (K ++ nx ++ own) → (∀ q ∈ own, q.2.cls = ic) →
      wpAny (model prog w) A (execs body env) (TurnEnd h₀ env.locals (K ++ own) (J (i + 1)) { s with heap := h, toks := tk } Q) E { s with heap := h, toks := tk })
    (done : ∀ m₁ nx h tk, J n m₁ nx → Fr h₀ env.locals h m₁ → News h₀ env.locals h (K ++ nx) → Q .next { s with heap := h, toks := tk }) :
    LoopAtV prog w A h₀ env x body Q E (.ref I) s := by
  obtain ⟨o₀, ho₀, hc₀⟩ := hic 0 _ hst
  have sep : ∀ i m nx (h : Heap) oI, J i m nx → News h₀ env.locals h (K ++ nx) → h.get? I = some oI → ItLook ic oI → ∀ q ∈ K ++ nx, q.1 ∉ [I] := by
    intro i m nx h oI hJ Nx hoI hoc q hq hm
    have e := (Nx q hq).1
    rw [List.mem_singleton.mp hm, hoI] at e
    have e' : oI = q.2 := Option.some.inj e
    rcases List.mem_append.mp hq with hq | hq
    · exact hoc.apart (.inl (hK q hq)) e'
    · exact hoc.apart (hcls i m nx hJ q hq) e'
  let J' : Nat → (Str → Option Value) → List (Addr × Obj) → Prop := fun i m nx' => ∃ nx, nx' = K ++ nx ∧ J i m nx
  refine ⟨I, fp, [I], n, P, St, m₀, K ++ news, J', rfl, W, hLf, ?_, sep 0 m₀ news s.heap o₀ hj N ho₀ hc₀, hst, F, N, ⟨news, rfl, hj⟩, ?_, ?_⟩
  · intro b hb; rw [List.mem_singleton.mp hb]; exact hI
  · intro i v m₁ nx' s₁ own zz9a hin hP zz9 hoff hown hownat hall hst₁ F₁ N₁
    (try ((with_reducible show wpAny _ _ _ _ _ _); k_fold))
    refine exE2 zz9a ?_
    clear zz9a
    rintro h tk rfl
    refine exE1 zz9 ?_
    clear zz9
    intro nx zz8
    refine anE2 zz8 ?_
    clear zz8
    rintro rfl hJ
    obtain ⟨oI, hoI, hocI⟩ := hic _ _ hst₁
    have hmem : (I, oI) ∈ own := hall I (W.sub I (by simp)) hI oI hoI
    have hone : ∀ q ∈ own, q = (I, oI) ∨ q ∈ K := fun q hq => by
      have e1 := hownat q hq
      rcases hfp q.1 (hown q hq) with e | e | ⟨o, e⟩
      · left
        rw [e, hoI] at e1
        exact Prod.ext e (Option.some.inj e1).symm
      · exact absurd (N₁ q (List.mem_append_left _ hq)).2.2 e
      · right
        have e2 := (N₁ _ (List.mem_append_right _ (List.mem_append_left _ e))).1
        rw [e1] at e2
        have e3 : q = (q.1, o) := Prod.ext rfl (Option.some.inj e2)
        rw [e3]; exact e
    have hsep : OwnOff [(I, oI)] ((K ++ nx).map (·.1)) := by
      intro q hq b hb e
      obtain ⟨r, hr, rfl⟩ := List.mem_map.mp hb
      rw [List.mem_singleton.mp hq] at e
      exact hoff r hr (by rw [← e]; simp)
    have N₂ : News h₀ env.locals h (K ++ nx ++ [(I, oI)]) := fun q hq => N₁ q (by
      rcases List.mem_append.mp hq with h | h
      · exact List.mem_append_right _ h
      · rw [List.mem_singleton.mp h]; exact List.mem_append_left _ hmem)
    refine wpAny_mono (turn i v m₁ nx h tk [(I, oI)] hin hP hJ hsep F₁ N₂ (fun q hq => by rw [List.mem_singleton.mp hq]; exact hocI.1)) (fun f s₂ hf => ?_) fun _ _ e => e
    have fin : (∃ h' tk' m' nx' news', s₂ = { ({ s with heap := h, toks := tk } : Shared) with heap := h', toks := tk' } ∧ Fr h₀ env.locals h' m' ∧ News h₀ env.locals h' news' ∧ (∀ q ∈ nx', q ∈ news') ∧ (∀ q ∈ K ++ [(I, oI)], q ∈ news') ∧ J (i + 1) m' nx') →
        LoopStepU h₀ env.locals [I] own (J' (i + 1)) { s with heap := h, toks := tk } .next s₂ := by
      rintro ⟨h', tk', m', nx', news', e, F', N', hn, ho, hJ'⟩
      have N1 : News h₀ env.locals h' (K ++ nx') := fun q hq => N' q ((List.mem_append.mp hq).elim (fun h => ho q (List.mem_append_left _ h)) (hn q))
      refine ⟨rfl, h', tk', m', K ++ nx', e, F', fun q hq => ?_, ?_, ⟨nx', rfl, hJ'⟩⟩
      · rcases List.mem_append.mp hq with h | h
        · rcases hone q h with rfl | h
          · exact N' _ (ho _ (by simp))
          · exact N1 q (List.mem_append_left _ h)
        · exact N1 q h
      · exact sep _ _ _ h' oI hJ' N1 (N' (I, oI) (ho (I, oI) (by simp))).1 hocI
    cases f with
    | ret v => exact .ret hf
    | brk => exact .brk hf
    | next => exact .next (fin hf)
    | cont => exact .cont (fin hf)
  · intro h' tk m' nx' F' N' _ zz9
    refine exE1 zz9 ?_
    clear zz9
    intro nx zz8
    refine anE2 zz8 ?_
    clear zz8
    rintro rfl hJ
    exact done m' nx h' tk hJ F' N'

theorem loopA {I : Addr} {fp : List Addr} {n : Nat} {P : Nat → Value → Prop} {St : Nat → Heap → Prop} {m₀ : Str → Option Value} {news : List (Addr × Obj)} (ic : Value)
    (J : Nat → (Str → Option Value) → List (Addr × Obj) → Prop)
    (W : Walks prog w A I fp [I] n P St) (hLf : env.locals ∉ fp) (hI : h₀.get? I = none) (hic : ∀ i h, St i h → ∃ o, h.get? I = some o ∧ ItLook ic o)
    (hfp : ∀ b ∈ fp, b = I ∨ h₀.get? b ≠ none)
    (hst : St 0 s.heap) (F : Fr h₀ env.locals s.heap m₀) (N : News h₀ env.locals s.heap news) (hj : J 0 m₀ news)
    (hcls : ∀ i m nx, J i m nx → ∀ q ∈ nx, NotIt ic q.2)
    (turn : ∀ i v m₁ nx h tk own, i < n → P i v → J i m₁ nx → OwnOff own (nx.map (·.1)) → Fr h₀ env.locals h (fun y => if y = x then some v else m₁ y) → News h₀ env.locals h (nx ++ own) → (∀ q ∈ own, q.2.cls = ic) →
      wpAny (model prog w) A (execs body env) (TurnEnd h₀ env.locals own (J (i + 1)) { s with heap := h, toks := tk } Q) E { s with heap := h, toks := tk })
    (done : ∀ m₁ nx h tk, J n m₁ nx → Fr h₀ env.locals h m₁ → News h₀ env.locals h nx → Q .next { s with heap := h, toks := tk }) :
    LoopAtV prog w A h₀ env x body Q E (.ref I) s :=
  loopK ic [] J W hLf hI hic (fun b hb => (hfp b hb).elim .inl fun e => .inr (.inl e)) (fun _ h => nomatch h) hst F N hj hcls turn done

/-- for x in a list that is not the call's own -/
theorem iterBase {l : Addr} {vs : List Value} {m₀ : Str → Option Value} {news : List (Addr × Obj)} (J : Nat → (Str → Option Value) → List (Addr × Obj) → Prop)
    (hh : A.handled = none) (hl : h₀.IsList l vs.toArray) (F : Fr h₀ env.locals s.heap m₀) (N : News h₀ env.locals s.heap news) (hj : J 0 m₀ news)
    (hcls : ∀ i m nx, J i m nx → ∀ q ∈ nx, NotIt (.type "list_iterator") q.2)
    (turn : ∀ i v m₁ nx h tk own, vs[i]? = some v → J i m₁ nx → OwnOff own (nx.map (·.1)) → Fr h₀ env.locals h (fun y => if y = x then some v else m₁ y) → News h₀ env.locals h (nx ++ own) → (∀ q ∈ own, q.2.cls = .type "list_iterator") →
      wpAny (model prog w) A (execs body env) (TurnEnd h₀ env.locals own (J (i + 1)) { s with heap := h, toks := tk } Q) E { s with heap := h, toks := tk })
    (done : ∀ m₁ nx h tk, J vs.length m₁ nx → Fr h₀ env.locals h m₁ → News h₀ env.locals h nx → Q .next { s with heap := h, toks := tk }) :
    wpAny (model prog w) A (pyIter (.ref l)) (fun it s₂ => LoopAtV prog w A h₀ env x body Q E it s₂) E s := by
  have hls : s.heap.IsList l vs.toArray := hl.at fun o e => F.keep l o e
  obtain ⟨ol, hol, _⟩ := id hl
  have hlt : l < h₀.objs.size := Heap.lt_size hol
  have hne : l ≠ s.heap.objs.size := Nat.ne_of_lt (Nat.lt_trans (Nat.lt_of_lt_of_le hlt F.above) F.ns.lt)
  refine wpAny_pyIter_list hls ?_
  have W := Walks.list (prog := prog) (w := w) hh s.heap.objs.size l hne vs.toArray
  refine loopA (s := { s with heap := s.heap.push _ }) (.type "list_iterator") J W ?_ (next_is_new F) ?_ ?_ ⟨⟨_, Heap.get?_push_size _ rfl, rfl, rfl⟩, hls.at fun o e => Heap.get?_push_of_some _ e⟩ (F.push _) (fun q hq => ⟨Heap.get?_push_of_some _ (N q hq).1, (N q hq).2⟩) hj hcls ?_ ?_
  · intro hm
    rcases List.mem_cons.mp hm with e | hm
    · exact absurd F.ns.lt (e ▸ Nat.lt_irrefl _)
    · exact absurd (Nat.lt_of_lt_of_le hlt F.above) ((List.mem_singleton.mp hm) ▸ Nat.lt_irrefl _)
  · rintro i h ⟨⟨o, ho, hc, hdz⟩, _⟩
    exact ⟨o, ho, hc, (fun v e => by rw [hdz] at e; cases e), fun vs q t e => by rw [hdz] at e; cases e; simp⟩
  · intro b hb
    rcases List.mem_cons.mp hb with e | hm
    · exact .inl e
    · right; rw [List.mem_singleton.mp hm, hol]; simp
  · intro i v m₁ nx h tk own hi hP
    exact turn i v m₁ nx h tk own (by simpa using hP)
  · intro m₁ nx h tk hJ
    exact done m₁ nx h tk (by simpa using hJ)

/-- for x in a list of the call's own that the turns leave alone -/
theorem iterOwn {l : Addr} {vs : List Value} {c : Nat} {m₀ : Str → Option Value} {news : List (Addr × Obj)} (J : Nat → (Str → Option Value) → List (Addr × Obj) → Prop)
    (hh : A.handled = none) (F : Fr h₀ env.locals s.heap m₀) (N : News h₀ env.locals s.heap ((l, listOf vs.toArray c) :: news)) (hj : J 0 m₀ news)
    (hcls : ∀ i m nx, J i m nx → ∀ q ∈ nx, NotIt (.type "list_iterator") q.2)
    (turn : ∀ i v m₁ nx h tk own, vs[i]? = some v → J i m₁ nx → OwnOff own (l :: nx.map (·.1)) → Fr h₀ env.locals h (fun y => if y = x then some v else m₁ y) → News h₀ env.locals h ((l, listOf vs.toArray c) :: (nx ++ own)) → (∀ q ∈ own, q.2.cls = .type "list_iterator") →
      wpAny (model prog w) A (execs body env) (TurnEnd h₀ env.locals ((l, listOf vs.toArray c) :: own) (J (i + 1)) { s with heap := h, toks := tk } Q) E { s with heap := h, toks := tk })
    (done : ∀ m₁ nx h tk, J vs.length m₁ nx → Fr h₀ env.locals h m₁ → News h₀ env.locals h ((l, listOf vs.toArray c) :: nx) → Q .next { s with heap := h, toks := tk }) :
    wpAny (model prog w) A (pyIter (.ref l)) (fun it s₂ => LoopAtV prog w A h₀ env x body Q E it s₂) E s := by
  have hol : s.heap.get? l = some (listOf vs.toArray c) := (N _ (.head _)).1
  have hls : s.heap.IsList l vs.toArray := ⟨_, hol, rfl, c, rfl⟩
  have hne : l ≠ s.heap.objs.size := Nat.ne_of_lt (Heap.lt_size hol)
  refine wpAny_pyIter_list hls ?_
  have W := Walks.list (prog := prog) (w := w) hh s.heap.objs.size l hne vs.toArray
  refine loopK (s := { s with heap := s.heap.push _ }) (.type "list_iterator") [(l, listOf vs.toArray c)] J W ?_ (next_is_new F) ?_ ?_ ?_ ⟨⟨_, Heap.get?_push_size _ rfl, rfl, rfl⟩, hls.at fun o e => Heap.get?_push_of_some _ e⟩ (F.push _) (fun q hq => ⟨Heap.get?_push_of_some _ (N q hq).1, (N q hq).2⟩) hj hcls ?_ ?_
  · intro hm
    rcases List.mem_cons.mp hm with e | hm
    · exact absurd F.ns.lt (e ▸ Nat.lt_irrefl _)
    · exact absurd (List.mem_singleton.mp hm).symm (N _ (.head _)).2.1
  · rintro i h ⟨⟨o, ho, hc, hdz⟩, _⟩
    exact ⟨o, ho, hc, (fun v e => by rw [hdz] at e; cases e), fun vs q t e => by rw [hdz] at e; cases e; simp⟩
  · intro b hb
    rcases List.mem_cons.mp hb with e | hm
    · exact .inl e
    · exact .inr (.inr ⟨_, by rw [List.mem_singleton.mp hm]; exact .head _⟩)
  · intro q hq
    rw [List.mem_singleton.mp hq]
    show Value.type "list" ≠ _
    decide
  · intro i v m₁ nx h tk own hi hP
    exact turn i v m₁ nx h tk own (by simpa using hP)
  · intro m₁ nx h tk hJ
    exact done m₁ nx h tk (by simpa using hJ)

/-- for x in range(a, b) -/
theorem iterRange {r : Addr} {a b : Int} {t₀ u₀ v₀ : Tok} {n : Nat} {m₀ : Str → Option Value} {news : List (Addr × Obj)} (J : Nat → (Str → Option Value) → List (Addr × Obj) → Prop)
    (hh : A.handled = none) (hr : IsRange s.heap r a b 1 t₀ u₀ v₀) (hsmall : Builtin.Range.small a b 1 = true) (hn : Builtin.Range.rangeSize a b 1 = (n : Int)) (F : Fr h₀ env.locals s.heap m₀) (N : News h₀ env.locals s.heap news) (hj : J 0 m₀ news)
    (hcls : ∀ i m nx, J i m nx → ∀ q ∈ nx, NotIt (.type "range_iterator") q.2)
    (turn : ∀ (i : Nat) t m₁ nx h tk own, i < n → J i m₁ nx → OwnOff own (nx.map (·.1)) → Fr h₀ env.locals h (fun y => if y = x then some (.int (a + i) t) else m₁ y) → News h₀ env.locals h (nx ++ own) → (∀ q ∈ own, q.2.cls = .type "range_iterator") →
      wpAny (model prog w) A (execs body env) (TurnEnd h₀ env.locals own (J (i + 1)) { s with heap := h, toks := tk } Q) E { s with heap := h, toks := tk })
    (done : ∀ m₁ nx h tk, J n m₁ nx → Fr h₀ env.locals h m₁ → News h₀ env.locals h nx → Q .next { s with heap := h, toks := tk }) :
    wpAny (model prog w) A (pyIter (.ref r)) (fun it s₂ => LoopAtV prog w A h₀ env x body Q E it s₂) E s := by
  refine wpAny_pyIter_range hr hsmall ?_
  have W := Walks.range (prog := prog) (w := w) hh s.heap.objs.size a 1 n
  refine loopA (s := { s with heap := s.heap.push _ }) (.type "range_iterator") J W ?_ (next_is_new F) ?_ ?_ (by show IsRangeIter _ _ _ _ _; rw [hn]; simpa using Heap.get?_push_size _ rfl) (F.push _) (fun q hq => ⟨Heap.get?_push_of_some _ (N q hq).1, (N q hq).2⟩) hj hcls ?_ ?_
  · intro hm
    exact absurd F.ns.lt ((List.mem_singleton.mp hm) ▸ Nat.lt_irrefl _)
  · intro i h st
    exact ⟨_, st, rfl, (fun v e => by cases e), fun vs q t e => by cases e; simp [rawInt]⟩
  · intro b hb
    exact .inl (List.mem_singleton.mp hb)
  · intro i v m₁ nx h tk own hi zz9
    refine exE1 zz9 ?_
    clear zz9
    rintro t rfl
    rw [Int.mul_one]
    exact turn i t m₁ nx h tk own hi
  · intro m₁ nx h tk hJ
    exact done m₁ nx h tk hJ

/-- for x in a text of plain signs -/
theorem iterText {y : Str} {ty : Tok} {m₀ : Str → Option Value} {news : List (Addr × Obj)} (J : Nat → (Str → Option Value) → List (Addr × Obj) → Prop)
    (hh : A.handled = none) (ha : y.cps.all (· < 128) = true) (F : Fr h₀ env.locals s.heap m₀) (N : News h₀ env.locals s.heap news) (hj : J 0 m₀ news)
    (hcls : ∀ i m nx, J i m nx → ∀ q ∈ nx, NotIt (.type "str_ascii_iterator") q.2)
    (turn : ∀ (i : Nat) c t m₁ nx h tk own, y.cps[i]? = some c → J i m₁ nx → OwnOff own (nx.map (·.1)) → Fr h₀ env.locals h (fun z => if z = x then some (.str ⟨#[c]⟩ t) else m₁ z) → News h₀ env.locals h (nx ++ own) → (∀ q ∈ own, q.2.cls = .type "str_ascii_iterator") →
      wpAny (model prog w) A (execs body env) (TurnEnd h₀ env.locals own (J (i + 1)) { s with heap := h, toks := tk } Q) E { s with heap := h, toks := tk })
    (done : ∀ m₁ nx h tk, J y.cps.size m₁ nx → Fr h₀ env.locals h m₁ → News h₀ env.locals h nx → Q .next { s with heap := h, toks := tk }) :
    wpAny (model prog w) A (pyIter (.str y ty)) (fun it s₂ => LoopAtV prog w A h₀ env x body Q E it s₂) E s := by
  refine wpAny_pyIter_ascii ha ?_
  have W := Walks.strAscii (prog := prog) (w := w) hh s.heap.objs.size y ty
  refine loopA (s := { s with heap := s.heap.push _ }) (.type "str_ascii_iterator") J W ?_ (next_is_new F) ?_ ?_ ⟨_, Heap.get?_push_size _ rfl, rfl, rfl⟩ (F.push _) (fun q hq => ⟨Heap.get?_push_of_some _ (N q hq).1, (N q hq).2⟩) hj hcls ?_ ?_
  · intro hm
    exact absurd F.ns.lt ((List.mem_singleton.mp hm) ▸ Nat.lt_irrefl _)
  · rintro i h ⟨o, ho, hc, hdz⟩
    exact ⟨o, ho, hc, (fun v e => by rw [hdz] at e; cases e), fun vs q t e => by rw [hdz] at e; cases e; simp⟩
  · intro b hb
    exact .inl (List.mem_singleton.mp hb)
  · rintro i v m₁ nx h tk own hi ⟨c, t, hc, rfl⟩
    exact turn i c t m₁ nx h tk own hc
  · intro m₁ nx h tk hJ
    exact done m₁ nx h tk hJ
end loops


end
section
variable {w : World} {p : Program} {loose : List Str} {mean : ExcName → Option Value} {mg mb : Str → Option Value}

theorem ite_l {α : Type} {c : Prop} [Decidable c] {a b r : α} (h1 : c → a = r) (h2 : ¬ c → b = r) : (if c then a else b) = r := by split <;> simp_all
theorem ite_r {α : Type} {c : Prop} [Decidable c] {a b r : α} (h1 : c → r = a) (h2 : ¬ c → r = b) : r = (if c then a else b) := by split <;> simp_all
theorem mem3 {α : Type} {a b c : α} {l : List α} (h1 : a ∈ l) (h2 : b ∈ l) (h3 : c ∈ l) : ∀ q ∈ [a, b, c], q ∈ l := fun q hq => by
  rcases List.mem_cons.mp hq with rfl | hq
  · exact h1
  · rcases List.mem_cons.mp hq with rfl | hq
    · exact h2
    · rw [List.mem_singleton.mp hq]; exact h3
/-- a ground under a heap, with what stands beside it -/
structure Ledge (h₀ h : Heap) (news : List (Addr × Obj)) : Prop where
  keep : Stay h₀ h
  size : h₀.objs.size ≤ h.objs.size
  news : ∀ q ∈ news, h.get? q.1 = some q.2 ∧ h₀.get? q.1 = none
theorem Ledge.refl (h : Heap) : Ledge h h [] := ⟨Stay.refl h, Nat.le_refl _, fun _ x => nomatch x⟩
theorem Ledge.hide {h : Heap} {P : Addr} {o : Obj} (e : h.get? P = some o) : Ledge (hideAll h [P]) h [(P, o)] :=
  ⟨fun b ob eb => of_hideAll _ eb, Nat.le_of_eq (hideAll_size _ _), fun q hq => by rw [List.mem_singleton.mp hq]; exact ⟨e, hideAll_none _ (List.mem_singleton.mpr rfl)⟩⟩

/-- what a call hands back over a ground -/
noncomputable def OutB (h₀ : Heap) (s : Shared) (P : Value → Heap → Prop) (v : Value) (s' : Shared) : Prop := ∃ h' tk, s' = { s with heap := h', toks := tk } ∧ Stay h₀ h' ∧ P v h'
theorem OutB.of {h₀ : Heap} {s : Shared} {P : Value → Heap → Prop} {v : Value} {L : Addr} {h' : Heap} {tk : Nat} {m : Str → Option Value} (F : Fr h₀ L h' m) (hP : P v h') : OutB h₀ s P v { s with heap := h', toks := tk } := ⟨h', tk, rfl, F.keep, hP⟩

/-- things made since -/
noncomputable def Fresh (h h' : Heap) (nw : List (Addr × Obj)) : Prop := ∀ q ∈ nw, h'.get? q.1 = some q.2 ∧ h.get? q.1 = none
theorem Fresh.of_news {h h' : Heap} {L : Addr} {news nw : List (Addr × Obj)} (N : News h L h' news) (hs : ∀ q ∈ nw, q ∈ news) : Fresh h h' nw := fun q hq => ⟨(N q (hs q hq)).1, (N q (hs q hq)).2.2⟩
theorem Fresh.news {h₀ h h' : Heap} {L : Addr} {m : Str → Option Value} {news nw : List (Addr × Obj)} (F : Fr h₀ L h m) (N : News h₀ L h' news) (x : Fresh h h' nw) : News h₀ L h' (nw ++ news) := fun q hq => by
  rcases List.mem_append.mp hq with hq | hq
  · refine ⟨(x q hq).1, fun e => ?_, ?_⟩
    · obtain ⟨oL, es, ep, hL, _⟩ := F.ns
      have := (x q hq).2
      rw [e, hL] at this; cases this
    · cases e : h₀.get? q.1 with
      | none => rfl
      | some o => have := F.keep _ _ e; rw [(x q hq).2] at this; cases this
  · exact N q hq
theorem Fresh.ne {h h' : Heap} {nw : List (Addr × Obj)} (x : Fresh h h' nw) {q : Addr × Obj} (hq : q ∈ nw) {b : Addr} {o : Obj} (e : h.get? b = some o) : q.1 ≠ b := fun r => by
  have := (x q hq).2
  rw [r, e] at this; cases this
/-- a call by what is known of it, its makings put on the ledger -/
theorem useD {A : Around} {E : Value → Shared → Prop} {s : Shared} {prog : Program} {h₀ : Heap} {L : Addr} {m : Str → Option Value} {news : List (Addr × Obj)} {t : Sem Value} {P : Value → Heap → List (Addr × Obj) → Prop} {Q : Value → Shared → Prop}
    (F : Fr h₀ L s.heap m) (N : News h₀ L s.heap news) (c : wpAny (model prog w) A t (Out s fun v h => ∃ nw, Fresh s.heap h nw ∧ P v h nw) NoE s)
    (h : ∀ v h' tk nw, Stay s.heap h' → Fr h₀ L h' m → News h₀ L h' (nw ++ news) → Fresh s.heap h' nw → P v h' nw → Q v { s with heap := h', toks := tk }) : wpAny (model prog w) A t Q E s :=
  use F N c fun v h' tk st F' N' ⟨nw, fr, hP⟩ => h v h' tk nw st F' (Fresh.news F N' fr) fr hP

/-- the call of a def of the text without cells -/
theorem enterG {A : Around} {s : Shared} {R : Result → Shared → Prop} {name qual : Str} {params : Arguments} {body : List Stmt} {scope : Scope} {dV kV doc pm cdv ct oc : Value} {an od : Option Addr} {osl : Array (Option Value)} {f : Addr} {args : Args} {h₀ : Heap} {news : List (Addr × Obj)} (binds : List (Str × Value))
    (G : Gr w p loose mean mg mb h₀) (D : Ledge h₀ s.heap news)
    (ho : (hd.heap_39 w.params).lookup f = some ⟨oc, od, .func (fnX name qual params body scope [] dV kV doc pm an cdv ct), osl⟩) (hcd : codeIn (hd.heap_39 w.params) cdv qual = true) (hroom : A.depth < recursionLimit)
    (hbind : BindsTo s (fnX name qual params body scope [] dV kV doc pm an cdv ct) args binds) (hloc : ∀ y ∈ binds, scope.names.lookup y.1 = some .local)
    (h : ∀ L' h₁, Fr h₀ L' h₁ (fun y => binds.reverse.lookup y) → News h₀ L' h₁ news → (∀ q ∈ news, q.1 < L') →
      wpAny (model PR w) (A.deeper (envX qual scope L' f cdv [])) (execs body (envX qual scope L' f cdv []))
        (fun fl s' => R (.ok (.ret (match fl with | .ret v => v | _ => .none))) s') (fun _ _ => False)
        { s with heap := h₁, toks := s.toks + binds.length })
    (hcell : ∀ x ∈ scope.names, x.2 ≠ .cell) (hco : scope.isCoroutine = false) (hgen : scope.isGenerator = false) (hk : scope.kind = .function) :
    codeAny (model PR w) A (.call (.ref f) args) R s := by
  have G' := G.keeps D.keep
  refine codeAny_call_def (fd := fnX name qual params body scope [] dV kV doc pm an cdv ct) (body := body) (binds := binds) hroom (G'.X _ _ ho) rfl G'.T.nolimit (codeRec_of G'.X hcd) rfl hbind hcell hloc (fun h₁ hns hk₁ => ?_) hco hgen hk
  refine wpAny_mono (h s.heap.objs.size h₁ ⟨hns, fun b o e => hk₁ b o (D.keep b o e), D.size⟩ (fun q hq => ⟨hk₁ _ _ (D.news q hq).1, Nat.ne_of_lt (Heap.lt_size (D.news q hq).1), (D.news q hq).2⟩) (fun q hq => Heap.lt_size (D.news q hq).1)) (fun _ _ x => x) (fun _ _ x => x.elim)

/-- the call of a def of the text with cells -/
theorem enterC {A : Around} {s : Shared} {R : Result → Shared → Prop} {name qual : Str} {params : Arguments} {body : List Stmt} {scope : Scope} {dV kV doc pm cdv ct oc : Value} {an od : Option Addr} {osl : Array (Option Value)} {f : Addr} {args : Args} {h₀ : Heap} {news : List (Addr × Obj)} (binds : List (Str × Value))
    (G : Gr w p loose mean mg mb h₀) (D : Ledge h₀ s.heap news)
    (ho : (hd.heap_39 w.params).lookup f = some ⟨oc, od, .func (fnX name qual params body scope [] dV kV doc pm an cdv ct), osl⟩) (hcd : codeIn (hd.heap_39 w.params) cdv qual = true) (hroom : A.depth < recursionLimit)
    (hbind : BindsTo s (fnX name qual params body scope [] dV kV doc pm an cdv ct) args binds)
    (hkind : (binds.all fun y => scope.names.lookup y.1 == some .local || scope.names.lookup y.1 == some .cell) = true)
    (hnd : ((cellsFrom 0 scope.names []).map (·.1)).Nodup)
    (h : ∀ L' h₁ tk cells, Fr h₀ L' h₁ (bindL (envOfC qual scope L' f cdv).kindOf binds fun _ => none) → News h₀ L' h₁ (cells ++ news) →
      CellsAre (bindC (envOfC qual scope L' f cdv).kindOf binds fun _ => none) (cellsFrom (L' + 1) scope.names []) cells → (∀ q ∈ news, q.1 < L') →
      wpAny (model PR w) (A.deeper (envOfC qual scope L' f cdv)) (execs body (envOfC qual scope L' f cdv))
        (fun fl s' => R (.ok (.ret (match fl with | .ret v => v | _ => .none))) s') (fun _ _ => False)
        { s with heap := h₁, toks := tk })
    (hco : scope.isCoroutine = false) (hgen : scope.isGenerator = false) (hk : scope.kind = .function) :
    codeAny (model PR w) A (.call (.ref f) args) R s := by
  have G' := G.keeps D.keep
  refine codeAny_call_function (fd := fnX name qual params body scope [] dV kV doc pm an cdv ct) hroom (G'.X _ _ ho) rfl hco hgen rfl (codeRec_of G'.X hcd) (hbind _ _ _ _ ?_)
  refine wpAny_newFunctionEnv_cells hk (kindsX hkind _) fun env' he s' x => ?_
  subst he
  refine ⟨G'.T.nolimit.keeps x.toInCall.keep, codeAny_func ?_⟩
  refine exE2 (x.done) ?_
  intro h₁ tk zz8
  refine anE2 zz8 ?_
  clear zz8
  rintro rfl _
  have hk₁ := x.toInCall.keep
  obtain ⟨cells, NC, Y⟩ := Cl.news (h₀ := s.heap) (Nat.le_refl _) fun n c hm => ⟨x.cell n c (lookup_of_mem_nodup (cellsFrom_names scope.names 0 (s.heap.objs.size + 1) [] [] rfl ▸ hnd) hm), x.above n c hm⟩
  refine wpAny_mono (h s.heap.objs.size h₁ tk cells ⟨x.toInCall.ns, fun b o e => hk₁ b o (D.keep b o e), D.size⟩ (fun q hq => ?_) Y (fun q hq => Heap.lt_size (D.news q hq).1)) (fun _ _ y => y) fun _ _ y => y.elim
  rcases List.mem_append.mp hq with hq | hq
  · refine ⟨(NC q hq).1, (NC q hq).2.1, ?_⟩
    cases e : h₀.get? q.1 with
    | none => rfl
    | some o => have := D.keep _ _ e; rw [(NC q hq).2.2] at this; cases this
  · exact ⟨hk₁ _ _ (D.news q hq).1, Nat.ne_of_lt (Heap.lt_size (D.news q hq).1), (D.news q hq).2⟩

/-- the call of a lambda that has no cells of its own -/
theorem enterL {A : Around} {s : Shared} {R : Result → Shared → Prop} {name qual : Str} {params : Arguments} {body : PySem.Expr} {scope : Scope} {cl : List (Str × Addr)} {pm ctv : Value} {c' f : Addr} {args : Args} (binds : List (Str × Value))
    (G : Gr w p loose mean mg mb s.heap) (ho : s.heap.get? f = some (kla_obj name qual params body scope cl pm c' ctv)) (hcd : s.heap.CodeRec (.ref c') qual) (hroom : A.depth < recursionLimit)
    (hbind : bindArgs (kla_fn name qual params body scope cl pm (.ref c') ctv) args = pure binds) (hloc : ∀ y ∈ binds, scope.names.lookup y.1 = some .local)
    (h : ∀ L' h₁, Fr s.heap L' h₁ (fun y => binds.reverse.lookup y) → News s.heap L' h₁ [] →
      wpAny (model PR w) (A.deeper (envX qual scope L' f (.ref c') cl)) (eval body (envX qual scope L' f (.ref c') cl))
        (fun v s' => R (.ok (.ret v)) s') (fun _ _ => False) { s with heap := h₁, toks := s.toks + binds.length })
    (hco : scope.isCoroutine = false) (hgen : scope.isGenerator = false) (hk : scope.kind = .function)
    (hcell : ∀ x ∈ scope.names, x.2 ≠ .cell) : codeAny (model PR w) A (.call (.ref f) args) R s := by
  refine kla_callFunE hroom ho rfl hco hgen rfl hcd ?_
  rw [hbind]
  refine wpAny_pure (wpAny_newFunctionEnv hcell hloc (fun h₁ hns hsb => ⟨G.T.nolimit.fresh _ hsb, ?_⟩) hk)
  show codeAny _ _ (.expr body (envX qual scope s.heap.objs.size f (.ref c') cl)) _ _
  have hk₁ : ∀ b o, s.heap.get? b = some o → h₁.get? b = some o := fun b o e => hsb.extBut b o (Nat.ne_of_lt (Heap.lt_size e)) (Heap.get?_push_of_some _ e)
  exact kla_codeExpr (wpAny_mono (h s.heap.objs.size h₁ ⟨hns, hk₁, Nat.le_refl _⟩ News.nil) (fun v s' hl => hl) fun _ _ y => y.elim)

/-- the call of a lambda whose one name is a cell -/
theorem enterLC {A : Around} {s : Shared} {R : Result → Shared → Prop} {name qual : Str} {params : Arguments} {body : PySem.Expr} {scope : Scope} {cl : List (Str × Addr)} {pm ctv v : Value} {c' f : Addr} {x : Str} {args : Args}
    (G : Gr w p loose mean mg mb s.heap) (ho : s.heap.get? f = some (kla_obj name qual params body scope cl pm c' ctv)) (hcd : s.heap.CodeRec (.ref c') qual) (hroom : A.depth < recursionLimit)
    (hbind : bindArgs (kla_fn name qual params body scope cl pm (.ref c') ctv) args = pure [(x, v)]) (hx : scope.names.lookup x = some .cell)
    (hcf : ∀ n, cellsFrom n scope.names cl = (x, n) :: cl) (hpc : ∀ h, pushCells h scope.names = h.push { cls := .type "cell", data := .cell none })
    (h : ∀ L' h₁ o, Fr s.heap L' h₁ (fun _ => none) → News s.heap L' h₁ [(L' + 1, o)] → o.data = .cell (some v) →
      wpAny (model PR w) (A.deeper (envX qual scope L' f (.ref c') ((x, L' + 1) :: cl))) (eval body (envX qual scope L' f (.ref c') ((x, L' + 1) :: cl)))
        (fun v s' => R (.ok (.ret v)) s') (fun _ _ => False) { s with heap := h₁ })
    (hco : scope.isCoroutine = false) (hgen : scope.isGenerator = false) (hk : scope.kind = .function) : codeAny (model PR w) A (.call (.ref f) args) R s := by
  refine kla_callFunE hroom ho rfl hco hgen rfl hcd ?_
  rw [hbind]
  refine wpAny_pure ?_
  simp only [newFunctionEnv, Option.isSome_none, Bool.false_eq_true, if_false]
  refine wpAny_bind (wpAny_alloc ?_)
  refine wpAny_bind (wpAny_layCells _ (fun name kind cells => by cases hkc : kind == NameKind.cell <;> simp) _ _ _ _ ?_)
  rw [hcf, hpc]
  have hsz : ({ s with heap := s.heap.push { cls := .type "frame", data := .dict #[] } } : Shared).heap.objs.size = s.heap.objs.size + 1 := Heap.size_push ..
  rw [hsz]
  have eC : ((s.heap.push { cls := .type "frame", data := .dict #[] }).push { cls := .type "cell", data := .cell none }).get? (s.heap.objs.size + 1) = some { cls := .type "cell", data := .cell none } := by
    have := Heap.get?_push_size (h := s.heap.push { cls := .type "frame", data := .dict #[] }) (o := { cls := .type "cell", data := .cell none }) rfl
    rw [show (s.heap.push { cls := .type "frame", data := .dict #[] }).objs.size = s.heap.objs.size + 1 from Heap.size_push ..] at this
    exact this
  simp only [List.forIn_cons, List.forIn_nil]
  refine wpAny_bind (wpAny_bind (wpAny_bind (wpAny_storeName_cell (c := s.heap.objs.size + 1) (by exact hk) (by exact hx) (by show List.lookup x ((x, _) :: _) = _; rw [List.lookup_cons, beq_self_eq_true]) ⟨_, eC, rfl⟩ fun h' hv hs => wpAny_pure (wpAny_pure (wpAny_pure ?_)))))
  have hk₁ : ∀ b o, s.heap.get? b = some o → h'.get? b = some o := fun b o e => hs.extBut b o (Nat.ne_of_lt (Nat.lt_succ_of_lt (Heap.lt_size e))) (Heap.get?_push_of_some _ (Heap.get?_push_of_some _ e))
  refine ⟨G.T.nolimit.keeps hk₁, ?_⟩
  show codeAny _ _ (.expr body (envX qual scope s.heap.objs.size f (.ref c') ((x, s.heap.objs.size + 1) :: cl))) _ _
  obtain ⟨o, ho', hd'⟩ := hv
  have hns : h'.Ns s.heap.objs.size (fun _ => none) := ((Heap.Ns.new s.heap (.type "frame")).push _).sameBut hs (Nat.ne_of_lt (Nat.lt_succ_self _))
  refine kla_codeExpr (wpAny_mono (h s.heap.objs.size h' o ⟨hns, hk₁, Nat.le_refl _⟩ (fun q hq => ?_) hd') (fun v s' hl => hl) fun _ _ y => y.elim)
  rw [List.mem_singleton.mp hq]
  exact ⟨ho', Nat.ne_of_gt (Nat.lt_succ_self _), Heap.get?_none_of_le (Nat.le_succ _)⟩

section comps
variable {prog : Program} {A : Around} {s : Shared} {env : Env} {h₀ : Heap} {L : Addr} {m : Str → Option Value} {elt ct : PySem.Expr} {x : Str} {scope : Scope} {cl : List (Str × Addr)} {S : List (Addr × Obj) → Prop} {P : Nat → Value → Prop} {Fin : List Value → List (Addr × Obj) → Prop}
/-- the turns of a comprehension by what holds between them -/
theorem restU (n : Nat) (J : Nat → List Value → List (Addr × Obj) → Prop) (hfin : ∀ ys news, J n ys news → Fin ys news)
    (turn : ∀ i v ys news, i < n → J i ys news → P i v → ∀ I oI C oC D m₂ h tk (E' : Value → Shared → Prop), LCg.NsObj oC m₂ → m₂ x = some v → Fr h₀ L h m → News h₀ L h ((I, oI) :: (C, oC) :: (D, LCg.lst ys) :: news) → LCg.Off3 I C D news → ((@Ne Nat I C) ∧ (@Ne Nat I D) ∧ (@Ne Nat C D)) →
      wpAny (model prog w) A (eval elt (compEnvC scope cl C env)) (LCg.CompEnd h₀ L m { s with heap := h, toks := tk } I oI C oC D (LCg.lst ys) S (fun y news' => J (i + 1) (ys ++ [y]) news')) E' { s with heap := h, toks := tk }) :
    ∀ k i ys news, i + k = n → J i ys news → LCg.CompRest prog w A h₀ L m env elt x scope cl s S P Fin k i ys news
  | 0, i, ys, news, e, hJ => hfin ys news (by rw [← e]; exact hJ)
  | k + 1, i, ys, news, e, hJ => by
    refine LCg.CompRest.succ fun v I oI C oC D m₂ h tk E' hP hC hx F N off ne => ?_
    refine wpAny_mono (turn i v ys news (by omega) hJ hP I oI C oC D m₂ h tk E' hC hx F N off ne) (fun y s₂ ⟨h', tk', news', e', F', N', o', hS, hJ'⟩ => ⟨h', tk', news', e', F', N', o', hS, ?_⟩) fun _ _ x => x
    exact restU n J hfin turn k (i + 1) _ _ (by omega) hJ'
/-- the same, with a test -/
theorem restT (n : Nat) (J : Nat → List Value → List (Addr × Obj) → Prop) (hfin : ∀ ys news, J n ys news → Fin ys news)
    (turn : ∀ i v ys news, i < n → J i ys news → P i v → ∀ I oI C oC D m₂ h tk (E' : Value → Shared → Prop), LCg.NsObj oC m₂ → m₂ x = some v → Fr h₀ L h m → News h₀ L h ((I, oI) :: (C, oC) :: (D, LCg.lst ys) :: news) → LCg.Off3 I C D news → ((@Ne Nat I C) ∧ (@Ne Nat I D) ∧ (@Ne Nat C D)) →
      wpAny (model prog w) A (isTrue ct (compEnvC scope cl C env) (eval ct (compEnvC scope cl C env))) (fun ok s' => if ok = true then
        wpAny (model prog w) A (eval elt (compEnvC scope cl C env)) (LCg.CompEnd h₀ L m { s with heap := h, toks := tk } I oI C oC D (LCg.lst ys) S (fun y news' => J (i + 1) (ys ++ [y]) news')) E' s'
        else LCg.CompEnd h₀ L m { s with heap := h, toks := tk } I oI C oC D (LCg.lst ys) S (fun _ news' => J (i + 1) ys news') Value.none s') E' { s with heap := h, toks := tk }) :
    ∀ k i ys news, i + k = n → J i ys news → LCt.CompRestT prog w A h₀ L m env ct elt x scope cl s S P Fin k i ys news
  | 0, i, ys, news, e, hJ => hfin ys news (by rw [← e]; exact hJ)
  | k + 1, i, ys, news, e, hJ => by
    refine LCt.CompRestT.succ fun v I oI C oC D m₂ h tk E' hP hC hx F N off ne => ?_
    refine wpAny_mono (turn i v ys news (by omega) hJ hP I oI C oC D m₂ h tk E' hC hx F N off ne) (fun ok s' hok => ?_) fun _ _ x => x
    cases ok with
    | true =>
      rw [if_pos rfl] at hok ⊢
      exact wpAny_mono hok (fun y s₂ ⟨h', tk', news', e', F', N', o', hS, hJ'⟩ => ⟨h', tk', news', e', F', N', o', hS, restT n J hfin turn k (i + 1) _ _ (by omega) hJ'⟩) fun _ _ x => x
    | false =>
      rw [if_neg (by decide)] at hok ⊢
      obtain ⟨h', tk', news', e', F', N', o', hS, hJ'⟩ := hok
      exact ⟨h', tk', news', e', F', N', o', hS, restT n J hfin turn k (i + 1) _ _ (by omega) hJ'⟩
end comps

end
section
section
variable {w : World} {prog : Program} {A : Around} {E : Value → Shared → Prop} {s : Shared} {h₀ : Heap} {L : Addr} {m : Str → Option Value} {news : List (Addr × Obj)}

theorem collect_code {R : Result → Shared → Prop} {r : Addr} {a b : Int} {t u v : Tok} {n : Nat} (hh : A.handled = none) (hr : IsRange s.heap r a b 1 t u v) (hsmall : Builtin.Range.small a b 1 = true) (hn : Builtin.Range.rangeSize a b 1 = n) (hlen : n ≤ 2 ^ 24)
    (h : ∀ h' tk acc' c', Stay s.heap h' → h'.get? s.heap.objs.size = some { cls := .type "list", dict := none, data := .seq acc' c', slots := #[] } → ItemsOf (fun i v => ∃ t, v = .int (a + i * 1) t) acc' n → R (.ok (.ret (.ref s.heap.objs.size))) { s with heap := h', toks := tk }) :
    codeAny (model prog w) A (.builtin "proto.collect" ⟨[.ref r], []⟩) R s := by
  refine codeAny_builtin entry_proto_collect' ?_
  show wpAny _ _ (do again (.builtin "list.__iadd__" ⟨[← newList [], .ref r], []⟩)) _ _ s
  refine wpAny_bind (wpAny_newList (wpAny_pure ⟨Code.quiet_builtin _ (by decide +kernel), codeAny_builtin entry_list_iadd' ?_⟩))
  refine wpAny_extend_range (s := { s with heap := s.heap.push (seqObj "list" #[] 0) }) (by exact hh) (Heap.get?_push_of_some _ hr) hsmall hn hlen s.heap.objs.size _ 0 (Heap.get?_push_size _ rfl) fun h' tk acc' c' hk hS' hacc => ?_
  exact h h' tk acc' c' (fun b o e => hk b o (Nat.ne_of_lt (Heap.lt_size e)) (Heap.get?_push_of_some _ e)) hS' hacc
theorem collect_range {r : Addr} {a b : Int} {t u v : Tok} {n : Nat} {Q : List Value → Shared → Prop} (hh : A.handled = none) (hr : IsRange s.heap r a b 1 t u v) (hsmall : Builtin.Range.small a b 1 = true) (hn : Builtin.Range.rangeSize a b 1 = n) (hlen : n ≤ 2 ^ 24)
    (h : ∀ vs h' tk, Stay s.heap h' → IntsAre vs (rangeKs a n) → Q vs { s with heap := h', toks := tk }) : wpAny (model prog w) A (collect (.ref r)) Q E s := by
  unfold collect
  refine wpAny_bind (wpAny_runValue (collect_code hh hr hsmall hn hlen fun h' tk acc' c' st hS' hacc => ?_))
  show wpAny (model prog w) A (do
      let o ← load s.heap.objs.size
      match o.data with
      | .seq xs _ => pure xs.toList
      | _ => unsupported "internal:collect") Q E _
  refine wpAny_bind (wpAny_load hS' ?_)
  refine wpAny_pure (h acc'.toList h' tk st ?_)
  exact kll_ints _ _ _ (by rw [Array.length_toList]; exact hacc.1) fun j v hj => hacc.2 j v (by rw [← hj, Array.getElem?_toList])

theorem out_ints {vs out : List Value} {ns : List Int} {g : Int → Int} (hi : IntsAre vs ns) (ko : KskOut false (ns.map g) vs out) : ∃ ns', IntsAre out ns' ∧ ns'.Perm ns ∧ ns'.Pairwise (fun x y => g x ≤ g y) := by
  obtain ⟨ps, hp, ho, hs⟩ := ko
  have hrel : ∀ q, q ∈ (ns.map g).zip vs → q.1 = g (numOf q.2) ∧ q.2 ∈ vs := by
    rw [← hi.nums, List.map_map, List.zip_map_left]
    intro q hq
    obtain ⟨⟨a, b⟩, h1, rfl⟩ := List.mem_map.mp hq
    have h2 : a = b ∧ a ∈ vs := mem_zip_self h1
    exact ⟨by show g (numOf a) = g (numOf b); rw [h2.1], by show b ∈ vs; rw [← h2.1]; exact h2.2⟩
  refine ⟨(ps.map Prod.snd).map numOf, ?_, ?_, ?_⟩
  · rw [ho]
    refine intsAre_map _ fun v hv => ?_
    obtain ⟨q, hq, rfl⟩ := List.mem_map.mp hv
    exact hi.all _ (hrel q (hp.mem_iff.mp hq)).2
  · have h1 := (hp.map Prod.snd).map numOf
    rw [List.map_snd_zip (by rw [List.length_map, hi.length]; exact Nat.le_refl _), hi.nums] at h1
    exact h1
  · rw [List.pairwise_map, List.pairwise_map]
    refine hs.imp_of_mem fun {q q'} hq hq' hr => ?_
    have hr' : q.1 ≤ q'.1 := by simpa using hr
    rw [(hrel q (hp.mem_iff.mp hq)).1, (hrel q' (hp.mem_iff.mp hq')).1] at hr'
    exact hr'

/-- sorted(range(a, b), key=f) -/
theorem sortedRange {r f : Addr} {a b : Int} {t u v : Tok} {n : Nat} {Q : Value → Shared → Prop} (g : Int → Int) (F : Fr h₀ L s.heap m) (N : News h₀ L s.heap news) (hh : A.handled = none) (hr : IsRange s.heap r a b 1 t u v) (hsmall : Builtin.Range.small a b 1 = true) (hn : Builtin.Range.rangeSize a b 1 = n) (hlen : n < 64)
    (turn : ∀ (k : Int) (t : Tok) (h : Heap) (tk : Nat) (own : List (Addr × Obj)), k ∈ rangeKs a n → Fr h₀ L h m → News h₀ L h (news ++ own) →
      wpAny (model prog w) A.in1.in1 (call (.ref f) [.int k t]) (Out { s with heap := h, toks := tk } fun v _ => ∃ t', v = .int (g k) t') NoE { s with heap := h, toks := tk })
    (done : ∀ D vs' ns' c h' tk, Fr h₀ L h' m → News h₀ L h' ((D, listOf (List.toArray vs') c) :: news) → (∀ q ∈ news, q.1 < D) → IntsAre vs' ns' → ns'.Perm (rangeKs a n) → ns'.Pairwise (fun x y => g x ≤ g y) →
      Q (.ref D) { s with heap := h', toks := tk }) :
    wpAny (model prog w) A (call (.builtin "sorted") [.ref r] [(Str.ofString "key", .ref f)]) Q E s := by
  refine call_function_entry_kw kind_sorted plain_sorted entry_sorted (ksk_s1 _ _) ?_
  unfold Builtin.«sorted»
  refine wpAny_bind (m := checkCount "sorted" 1 1 _) (wpAny_pure ?_)
  refine wpAny_bind (collect_range (by exact hh) hr hsmall hn (by omega) fun vs h1 tk1 st hI => ?_)
  have hvl : vs.length = n := by rw [hI.length, rangeKs_length]
  refine wpAny_bind (wpAny_newList ?_ (by rw [sizeLine_eq]; omega))
  have F1 := (Fr.stay F st).push (seqObj "list" vs.toArray 0)
  have N1 : News h₀ L (h1.push (seqObj "list" vs.toArray 0)) news := fun q hq => ⟨Heap.get?_push_of_some _ (st _ _ (N q hq).1), (N q hq).2⟩
  have hoL : (h1.push (seqObj "list" vs.toArray 0)).get? h1.objs.size = some (seqObj "list" vs.toArray 0) := Heap.get?_push_size _ rfl
  have hL : L < h1.objs.size := (Fr.stay F st).ns.lt
  have hlt : ∀ q ∈ news, q.1 < h1.objs.size := fun q hq => Heap.lt_size (st _ _ (N q hq).1)
  show wpAny _ _ _ _ _ { s with heap := h1.push (seqObj "list" vs.toArray 0), toks := tk1 }
  refine wpAny_bind (wpAny_holding (wpAny_call_entry_kw slot_list_sort ⟨_, hoL, rfl⟩ entry_list_sort ?body (ksk_l1 _ _)))
  case body =>
    show wpAny (model prog w) A.in1.in1 (Builtin.«list.sort» ⟨[.ref h1.objs.size], [(Str.ofString "key", .ref f)]⟩) _ _ _
    rw [ksk_t1]
    refine ksk_sort (kz := (rangeKs a n).map g) (s := { s with heap := h1.push (seqObj "list" vs.toArray 0), toks := tk1 })
      F1 N1 hoL (Nat.ne_of_gt hL) (Heap.get?_none_of_le (Nat.le_trans F.above (Nat.le_of_lt hL))) (fun q hq => Nat.ne_of_lt (hlt q hq)) (by rw [List.length_map, rangeKs_length, hvl]) (by omega) ?_ fun h' tk out c F' N' k' => ⟨_, rfl, ?_⟩
    · intro i v k hv hk h tk own F' N'
      rw [List.getElem?_map] at hk
      cases q : (rangeKs a n)[i]? with
      | none => rw [q] at hk; simp at hk
      | some j =>
        rw [q] at hk
        have hk' : some (g j) = some k := hk
        cases hk'
        obtain ⟨t', ht'⟩ := hI.get i j q
        rw [ht'] at hv
        cases hv
        refine wpAny_mono (turn j t' h tk own (List.mem_of_getElem? q) F' N') (fun v' s' ⟨⟨h'', tk'', e, kp⟩, t9, e9⟩ => ?_) fun _ _ x => x.elim
        subst e e9
        exact ⟨h'', tk'', t9, rfl, rfl, Fr.stay F' kp, News.stay N' kp⟩
    · obtain ⟨ns', i1, i2, i3⟩ := out_ints hI k'
      exact wpAny_pure ⟨_, rfl, done _ out.toList ns' c h' tk F' (by simpa using N') hlt i1 i2 i3⟩
end

end
section
section
variable {w : World} {prog : Program} {A : Around} {s : Shared} {env : Env} {h₀ : Heap} {x : Str} {body : List Stmt} {Q : Flow → Shared → Prop} {E : Value → Shared → Prop} {cc : Addr}

/-- a loop whose name is a cell -/
noncomputable def LoopC (prog : Program) (w : World) (A : Around) (h₀ : Heap) (env : Env) (cc : Addr) (body : List Stmt) (Q : Flow → Shared → Prop) (E : Value → Shared → Prop) (it : Value) (s : Shared) : Prop :=
  ∃ (I : Addr) (a : Int) (n : Nat) (m : Str → Option Value) (news : List (Addr × Obj)) (oc : Obj) (v₀ : Option Value) (J : Nat → (Str → Option Value) → List (Addr × Obj) → Prop),
    it = .ref I ∧ A.handled = none ∧ IsRangeIter s.heap I a n 1 ∧ h₀.get? I = none ∧ I ≠ env.locals ∧ Fr h₀ env.locals s.heap m ∧ News h₀ env.locals s.heap ((cc, oc) :: news) ∧ oc.data = .cell v₀ ∧ J 0 m news ∧
    (∀ i m nx, J i m nx → ∀ q ∈ nx, NotIt (.type "range_iterator") q.2 ∧ (q.1 ≠ cc ∨ ∀ v, q.2.data ≠ .cell v)) ∧
    (∀ (i : Nat) t m₁ nx h tk oc' own, i < n → J i m₁ nx → OwnOff own (cc :: nx.map (·.1)) → oc'.data = .cell (some (.int (a + i) t)) → (∀ q ∈ nx, q.1 ≠ cc) → Fr h₀ env.locals h m₁ → News h₀ env.locals h ((cc, oc') :: (nx ++ own)) → (∀ q ∈ own, q.2.cls = .type "range_iterator") →
      wpAny (model prog w) A (execs body env) (TurnEnd h₀ env.locals ((cc, oc') :: own) (J (i + 1)) { s with heap := h, toks := tk } Q) E { s with heap := h, toks := tk }) ∧
    (∀ m₁ nx h tk, J n m₁ nx → Fr h₀ env.locals h m₁ → News h₀ env.locals h nx → Q .next { s with heap := h, toks := tk })

theorem For_C {px pos : Pos} {iter : PySem.Expr} (h₀ : Heap) (cc : Addr) (hk : env.scope.kind = .function) (hx : env.kindOf x = some .cell) (hc : env.cells.lookup x = some cc)
    (h : wpAny (model prog w) A (eval iter env) (fun xv s₁ => wpAny (model prog w) A (pyIter xv) (fun it s₂ => LoopC prog w A h₀ env cc body Q E it s₂) E s₁) E s)
    (hs : ∀ x, foldedSetIterable iter env x = pure x := by intro _; rfl)
    (hE : PassesOwn (model prog w) A env E := by passes_own) :
    wpAny (model prog w) A (exec (.For (.Name x px) iter body [] pos) env) Q E s := by
  refine wpAny_For (wpAny_mono h (fun xv s₁ h₁ => wpAny_mono h₁ (fun it s₂ h₂ => ?_) fun _ _ e => e) fun _ _ e => e) hs
  refine exE8 h₂ ?_
  clear h₂
  intro I a n m news oc v₀ J zz8
  refine anE12 zz8 ?_
  clear zz8
  rintro rfl hh hit hI hIL F N hoc hj hcls turn done
  have W := Walks.range (prog := prog) (w := w) hh I a 1 n
  have facts : ∀ i m nx (h : Heap) o, J i m nx → News h₀ env.locals h ((cc, o) :: nx) → (∃ v, o.data = .cell v) → (∃ oI, h.get? I = some oI ∧ ItLook (.type "range_iterator") oI) → I ≠ cc ∧ (∀ q ∈ nx, q.1 ≠ I) ∧ (∀ q ∈ nx, q.1 ≠ cc) := by
    rintro i m nx h o hJ Nx ⟨v, ho⟩ ⟨oI, hoI, hcI⟩
    have eo := (Nx _ (.head _)).1
    refine ⟨fun e => ?_, fun q hq e => ?_, fun q hq e => ?_⟩
    · subst e
      rw [hoI] at eo
      exact hcI.2.1 v (by rw [Option.some.inj eo]; exact ho)
    · have e1 := (Nx q (.tail _ hq)).1
      rw [e, hoI] at e1
      exact hcI.apart (hcls i m nx hJ q hq).1 (Option.some.inj e1)
    · rcases (hcls i m nx hJ q hq).2 with h1 | h1
      · exact h1 e
      · have e1 := (Nx q (.tail _ hq)).1
        rw [e] at e1
        rw [eo] at e1
        exact h1 v (by rw [← Option.some.inj e1]; exact ho)
  refine codeAny_forLoop (R := fun r s' => match r with | .ok f => Q f s' | .error e => cameBackBy (model prog w) A env E e s')
    (fun k s' => ∃ h' tk m' nx i o v, s' = { s₂ with heap := h', toks := tk } ∧ IsRangeIter h' I (a + (i : Nat) * 1) ((n : Int) - (i : Nat)) 1 ∧ Fr h₀ env.locals h' m' ∧ News h₀ env.locals h' ((cc, o) :: nx) ∧ o.data = .cell v ∧ J i m' nx ∧ i ≤ n ∧ k = n + 1 - i) ?_ (n + 1)
    ⟨s₂.heap, s₂.toks, m, news, 0, oc, v₀, rfl, by simpa using hit, F, N, hoc, hj, Nat.zero_le _, rfl⟩
  intro k s' zz9
  refine exE7 zz9 ?_
  clear zz9
  intro h' tk m' nx i o v zz8
  refine anE8 zz8 ?_
  clear zz8
  rintro rfl hst' F' N' ho hJ hi rfl
  obtain ⟨q1, q2, q3⟩ := facts i m' nx h' o hJ N' ⟨v, ho⟩ ⟨_, hst', rfl, (fun v e => by cases e), fun vs q t e => by cases e; simp [rawInt]⟩
  have next : ∀ h₁ : Heap, (∀ b o, b ∉ [I] → h'.get? b = some o → h₁.get? b = some o) → Fr h₀ env.locals h₁ m' ∧ News h₀ env.locals h₁ ((cc, o) :: nx) := fun h₁ hk₁ =>
    ⟨⟨F'.ns.at' fun o e => hk₁ _ o (fun q => hIL (List.mem_singleton.mp q).symm) e, fun b o e => hk₁ b o (fun q => by rw [List.mem_singleton.mp q, hI] at e; cases e) (F'.keep b o e), F'.above⟩, fun p hp => ⟨hk₁ _ _ (fun q => by
      rcases List.mem_cons.mp hp with rfl | hp
      · exact q1 (List.mem_singleton.mp q).symm
      · exact q2 p hp (List.mem_singleton.mp q)) (N' p hp).1, (N' p hp).2⟩⟩
  by_cases hlt : i < n
  · refine W.item i _ _ _ hlt hst' fun v' h₁ tk₁ hP hst₁ hk₁ => ?_
    obtain ⟨F₁, N₁⟩ := next h₁ hk₁
    obtain ⟨t, rfl⟩ := hP
    rw [Int.mul_one]
    refine wpAny_assign_Name (wpAny_storeName_cell hk hx hc ⟨o, (N₁ _ (.head _)).1, ho⟩ fun h₂ hv hs => ?_)
    obtain ⟨o', ho', hd'⟩ := hv
    have hcL : cc ≠ env.locals := (N' _ (.head _)).2.1
    have hc0 : h₀.get? cc = none := (N' _ (.head _)).2.2
    have F₂ : Fr h₀ env.locals h₂ m' := ⟨F₁.ns.sameBut hs hcL.symm, fun b ob e => (hs.2 b (fun q => by rw [q, hc0] at e; cases e)).trans (F₁.keep b ob e), F₁.above⟩
    have hst₂ : IsRangeIter h₂ I (a + ((i + 1 : Nat) : Int) * 1) ((n : Int) - ((i + 1 : Nat) : Int)) 1 := W.frame _ _ _ hst₁ fun b hb ob e => (hs.2 b fun q => q1 (by rw [← List.mem_singleton.mp hb, q])).trans e
    obtain ⟨oI, hst₂', hcI, hri⟩ : ∃ oI, h₂.get? I = some oI ∧ oI.cls = .type "range_iterator" ∧ ∀ h' : Heap, h'.get? I = some oI → IsRangeIter h' I (a + ((i + 1 : Nat) : Int) * 1) ((n : Int) - ((i + 1 : Nat) : Int)) 1 := ⟨_, hst₂, rfl, fun h' e => e⟩
    have N₂ : News h₀ env.locals h₂ ((cc, o') :: (nx ++ [(I, oI)])) := fun q hq => by
      rcases List.mem_cons.mp hq with rfl | hq
      · exact ⟨ho', (N₁ _ (.head _)).2⟩
      · rcases List.mem_append.mp hq with hq | hq
        · exact ⟨(hs.2 _ (q3 q hq)).trans (N₁ q (.tail _ hq)).1, (N₁ q (.tail _ hq)).2⟩
        · rw [List.mem_singleton.mp hq]; exact ⟨hst₂', hIL, hI⟩
    refine wpAny_mono (wpAny_passesOwn hE (turn i t m' nx h₂ _ o' [(I, oI)] hlt hJ (fun q hq b hb e => ?_) hd' q3 F₂ N₂ (fun q hq => by rw [List.mem_singleton.mp hq]; exact hcI))) (fun f s₃ h₃ => ?_) fun _ _ e => e
    · rw [List.mem_singleton.mp hq] at e
      rcases List.mem_cons.mp hb with rfl | hb
      · exact q1 e
      · obtain ⟨r, hr, rfl⟩ := List.mem_map.mp hb
        exact q2 r hr e.symm
    · have fin : (∃ h' tk' m' nx' news', s₃ = { s₂ with heap := h', toks := tk' } ∧ Fr h₀ env.locals h' m' ∧ News h₀ env.locals h' news' ∧ (∀ q ∈ nx', q ∈ news') ∧ (∀ q ∈ (cc, o') :: [(I, oI)], q ∈ news') ∧ J (i + 1) m' nx') →
          ∃ k, k < n + 1 - i ∧ ∃ h' tk m' nx i o v, s₃ = { s₂ with heap := h', toks := tk } ∧ IsRangeIter h' I (a + (i : Nat) * 1) ((n : Int) - (i : Nat)) 1 ∧ Fr h₀ env.locals h' m' ∧ News h₀ env.locals h' ((cc, o) :: nx) ∧ o.data = .cell v ∧ J i m' nx ∧ i ≤ n ∧ k = n + 1 - i := by
        intro zz9
        refine exE5 zz9 ?_
        clear zz9
        intro h₄ tk₄ m₄ nx₄ news₄ zz8
        refine anE6 zz8 ?_
        clear zz8
        rintro rfl F₄ N₄ s₄ o₄ J₄
        refine ⟨n + 1 - (i + 1), by omega, h₄, tk₄, m₄, nx₄, i + 1, o', _, rfl, hri _ (N₄ _ (o₄ _ (.tail _ (.head _)))).1, F₄, fun q hq => ?_, hd', J₄, hlt, rfl⟩
        rcases List.mem_cons.mp hq with rfl | hq
        · exact N₄ _ (o₄ _ (.head _))
        · exact N₄ _ (s₄ q hq)
      cases f with
      | ret v => exact h₃
      | brk => exact h₃
      | cont => exact fin h₃
      | next => exact fin h₃
  · have hin : i = n := by omega
    subst hin
    refine W.done _ _ _ hst' fun h₁ tk₁ hk₁ => wpAny_execs_nil ?_
    obtain ⟨F₁, N₁⟩ := next h₁ hk₁
    exact done m' nx h₁ tk₁ hJ F₁ (fun q hq => N₁ q (.tail _ hq))

theorem iterRangeC {r : Addr} {a b : Int} {t₀ u₀ v₀ : Tok} {n : Nat} {m₀ : Str → Option Value} {news : List (Addr × Obj)} {oc : Obj} {vc : Option Value} (J : Nat → (Str → Option Value) → List (Addr × Obj) → Prop)
    (hh : A.handled = none) (hr : IsRange s.heap r a b 1 t₀ u₀ v₀) (hsmall : Builtin.Range.small a b 1 = true) (hn : Builtin.Range.rangeSize a b 1 = (n : Int)) (F : Fr h₀ env.locals s.heap m₀) (N : News h₀ env.locals s.heap ((cc, oc) :: news)) (hoc : oc.data = .cell vc) (hj : J 0 m₀ news)
    (hcls : ∀ i m nx, J i m nx → ∀ q ∈ nx, NotIt (.type "range_iterator") q.2 ∧ (q.1 ≠ cc ∨ ∀ v, q.2.data ≠ .cell v))
    (turn : ∀ (i : Nat) t m₁ nx h tk oc' own, i < n → J i m₁ nx → OwnOff own (cc :: nx.map (·.1)) → oc'.data = .cell (some (.int (a + i) t)) → (∀ q ∈ nx, q.1 ≠ cc) → Fr h₀ env.locals h m₁ → News h₀ env.locals h ((cc, oc') :: (nx ++ own)) → (∀ q ∈ own, q.2.cls = .type "range_iterator") →
      wpAny (model prog w) A (execs body env) (TurnEnd h₀ env.locals ((cc, oc') :: own) (J (i + 1)) { s with heap := h, toks := tk } Q) E { s with heap := h, toks := tk })
    (done : ∀ m₁ nx h tk, J n m₁ nx → Fr h₀ env.locals h m₁ → News h₀ env.locals h nx → Q .next { s with heap := h, toks := tk }) :
    wpAny (model prog w) A (pyIter (.ref r)) (fun it s₂ => LoopC prog w A h₀ env cc body Q E it s₂) E s := by
  refine wpAny_pyIter_range hr hsmall ?_
  refine ⟨s.heap.objs.size, a, n, m₀, news, oc, vc, J, rfl, hh, ?_, next_is_new F, (fun e => absurd F.ns.lt (e ▸ Nat.lt_irrefl _)), F.push _, (fun q hq => ⟨Heap.get?_push_of_some _ (N q hq).1, (N q hq).2⟩), hoc, hj, hcls, turn, done⟩
  show IsRangeIter _ _ _ _ _
  rw [hn]; exact Heap.get?_push_size _ rfl
end

end
section
open LCg
section
variable {w : World} {prog : Program} {A : Around} {E : Value → Shared → Prop} {s : Shared} {h₀ : Heap} {m : Str → Option Value} {env : Env} {elt iter : PySem.Expr} {x₁ x₂ x₃ y : Str} {p₁ p₂ p₃ tp py pos spos : Pos} {tk} {scope : Scope} {cl : List (Str × Addr)} {Q : Flow → Shared → Prop}

/-- the source of a comprehension over triples -/
noncomputable def Src3 (prog : Program) (w : World) (A : Around) (h₀ : Heap) (m : Str → Option Value) (env : Env) (elt : PySem.Expr) (x₁ x₂ x₃ : Str) (scope : Scope) (cl : List (Str × Addr)) (Fin : Shared → List Value → List (Addr × Obj) → Prop) (xv : Value) (s₁ : Shared) : Prop :=
  ∃ (ax : Addr) (its : Array Value) (k : Nat) (news : List (Addr × Obj)) (J : Nat → List Value → List (Addr × Obj) → Prop), xv = .ref ax ∧ A.handled = none ∧ Fr h₀ env.locals s₁.heap m ∧ News h₀ env.locals s₁.heap news ∧ its.size ≤ sizeLine ∧ J 0 [] news ∧ (∀ i ys nx, J i ys nx → (ax, listOf its k) ∈ nx) ∧
    (∀ i v ys nx, its[i]? = some v → J i ys nx → ∃ t v₁ v₂ v₃ nt, v = .ref t ∧ (t, tupOf [v₁, v₂, v₃] nt) ∈ nx ∧
      ∀ (s' : Shared) I oI C oC D m₂ h tk (E' : Value → Shared → Prop), (∃ g, s' = { s₁ with heap := g }) → NsObj oC m₂ → m₂ x₁ = some v₁ → m₂ x₂ = some v₂ → m₂ x₃ = some v₃ → Fr h₀ env.locals h m → News h₀ env.locals h ((I, oI) :: (C, oC) :: (D, lst ys) :: nx) → Off3 I C D nx → ((@Ne Nat I C) ∧ (@Ne Nat I D) ∧ (@Ne Nat C D)) →
        wpAny (model prog w) A (eval elt (compEnvC scope cl C env)) (CompEnd h₀ env.locals m { s' with heap := h, toks := tk } I oI C oC D (lst ys) (fun _ => True) (fun y news' => J (i + 1) (ys ++ [y]) news')) E' { s' with heap := h, toks := tk }) ∧
    (∀ s' ys nx, (∃ g, s' = { s₁ with heap := g }) → J its.size ys nx → Fin s' ys nx)

theorem block3 {s₂ : Shared} {I ax : Addr} {its : Array Value} {k : Nat} {news : List (Addr × Obj)} {RR : Value → Addr → Result → Shared → Prop} (J : Nat → List Value → List (Addr × Obj) → Prop)
    (hh : A.handled = none) (hsz : its.size ≤ sizeLine) (hcell : ∀ z ∈ scope.names, z.2 ≠ .cell) (hkind : scope.kind = .function) (hx₁ : scope.names.lookup x₁ = some .local) (hx₂ : scope.names.lookup x₂ = some .local) (hx₃ : scope.names.lookup x₃ = some .local) (h12 : x₁ ≠ x₂) (h13 : x₁ ≠ x₃) (h23 : x₂ ≠ x₃)
    (hit : s₂.heap.IsListIter I ax 0) (hIlt : I < s₂.heap.objs.size) (F : Fr h₀ env.locals s₂.heap m) (N : News h₀ env.locals s₂.heap news) (hIL : env.locals ≠ I) (hI₀ : h₀.get? I = none) (off : ∀ q ∈ news, q.1 ≠ I) (hj : J 0 [] news) (hS : ∀ i ys nx, J i ys nx → (ax, listOf its k) ∈ nx)
    (turn : ∀ i v ys nx, its[i]? = some v → J i ys nx → ∃ t v₁ v₂ v₃ nt, v = .ref t ∧ (t, tupOf [v₁, v₂, v₃] nt) ∈ nx ∧
      ∀ I oI C oC D m₂ h tk (E' : Value → Shared → Prop), NsObj oC m₂ → m₂ x₁ = some v₁ → m₂ x₂ = some v₂ → m₂ x₃ = some v₃ → Fr h₀ env.locals h m → News h₀ env.locals h ((I, oI) :: (C, oC) :: (D, lst ys) :: nx) → Off3 I C D nx → ((@Ne Nat I C) ∧ (@Ne Nat I D) ∧ (@Ne Nat C D)) →
        wpAny (model prog w) A (eval elt (compEnvC scope cl C env)) (CompEnd h₀ env.locals m { s₂ with heap := h, toks := tk } I oI C oC D (lst ys) (fun _ => True) (fun y news' => J (i + 1) (ys ++ [y]) news')) E' { s₂ with heap := h, toks := tk })
    (hRR : ∀ D C h tk m' ys news', Fr h₀ env.locals h m → News h₀ env.locals h ((D, lst ys) :: news') → Off1 D news' → h.Ns C m' → h₀.get? C = none → C ≠ env.locals → C ≠ D → (∀ q ∈ news', q.1 ≠ C) → J its.size ys news' → RR (.ref D) C (.ok .next) { s₂ with heap := h, toks := tk }) :
    wpAny (model prog w) A (newList []) (fun acc s₃ => wpAny (model prog w) A (newFunctionEnv scope env.globals cl [] env.qual none .none (some env)) (fun cenv s₄ =>
      codeAny (model prog w) A (.compStart (.ListComp elt [⟨.Tuple [.Name x₁ p₁, .Name x₂ p₂, .Name x₃ p₃] tk tp, iter, [], 0⟩] scope pos) 0 (.ref I) acc { cenv with scope := relabel scope env }) (RR acc cenv.locals) s₄) E s₃) E s₂ := by
  refine wpAny_newObj_type (wpAny_newFunctionEnv hcell (by intro y hy; simp at hy) (fun h₁ hns₁ hsb₁ => ?_) hkind)
  dsimp only at hns₁ hsb₁ ⊢
  generalize hH2 : s₂.heap.push { cls := .type "list", dict := none, data := .seq ([] : List Value).toArray } = H2 at hns₁ hsb₁ ⊢
  have hC : H2.objs.size = s₂.heap.objs.size + 1 := by rw [← hH2, Heap.size_push]
  generalize hcc : H2.objs.size = C at *
  generalize hdd : s₂.heap.objs.size = D at *
  have hC' : @Eq Nat C (D + 1) := hC
  have hI' : @LT.lt Nat _ I D := hIlt
  have hDC : D ≠ C := neN (by omega)
  have hCI : I ≠ C := neN (by omega)
  have hDI : I ≠ D := neN (by omega)
  have bel : ∀ b o, s₂.heap.get? b = some o → b ≠ C ∧ b ≠ D := fun b o e => by
    have hb : @LT.lt Nat _ b D := by rw [← hdd]; exact Heap.lt_size e
    exact ⟨neN (by omega), neN (by omega)⟩
  have old : ∀ b o, s₂.heap.get? b = some o → h₁.get? b = some o := fun b o e => hsb₁.extBut b o (bel b o e).1 (Heap.get?_push_of_some _ (hH2 ▸ Heap.get?_push_of_some _ e))
  have hacc : h₁.get? D = some (lst []) := hsb₁.extBut _ _ hDC (Heap.get?_push_of_some _ (by rw [← hH2, ← hdd]; exact Heap.get?_push_size _ rfl))
  have none₀ : ∀ a, D ≤ a → h₀.get? a = none := fun a ha => by
    cases e : h₀.get? a with
    | none => rfl
    | some o =>
      have h1 : @LT.lt Nat _ a D := by rw [← hdd]; exact Heap.lt_size (F.keep a o e)
      exact absurd h1 (Nat.not_lt.mpr ha)
  have hLlt : @LT.lt Nat _ env.locals D := by rw [← hdd]; exact F.ns.lt
  have hDL : D ≠ env.locals := neN (by omega)
  have hCL : C ≠ env.locals := neN (by omega)
  have hD₀ := none₀ D (Nat.le_refl _)
  have hC₀ := none₀ C (by rw [hC]; exact Nat.le_succ _)
  have W := Walks.list (prog := prog) (w := w) hh I ax (by
    intro e
    have := off _ (hS _ _ _ hj)
    exact this e) its
  have loop : codeAny (model prog w) A (.compLoop (.ListComp elt [⟨.Tuple [.Name x₁ p₁, .Name x₂ p₂, .Name x₃ p₃] tk tp, iter, [], 0⟩] scope pos) 0 (.ref I) (.ref D) (compEnvC scope cl C env)) (RR (.ref D) C) { s₂ with heap := h₁, toks := s₂.toks + ([] : List (Str × Value)).length } := by
    refine LCp.codeAny_compLoop_pair
      (fun k' s' => ∃ h' tk i ys m' nx, s' = { s₂ with heap := h', toks := tk } ∧ i ≤ its.size ∧ k' = its.size + 1 - i ∧ ys.length = i ∧ h'.IsListIter I ax i ∧ Fr h₀ env.locals h' m ∧ h'.Ns C m' ∧ News h₀ env.locals h' ((D, lst ys) :: nx) ∧ Off3 I C D nx ∧ J i ys nx) ?_ (its.size + 1)
      ⟨h₁, _, 0, [], _, news, rfl, Nat.zero_le _, rfl, rfl, let ⟨o, e, r⟩ := hit; ⟨o, old _ _ e, r⟩, F.keeps old, hns₁, fun q hq => ?_, Off3.of fun q hq => ⟨off q hq, (bel _ _ (N q hq).1).1, (bel _ _ (N q hq).1).2⟩, hj⟩
    · intro k' s' zz9
      refine exE6 zz9 ?_
      clear zz9
      intro h' tk i ys m' nx zz8
      refine anE10 zz8 ?_
      clear zz8
      rintro rfl hi rfl hyl hst' F' hn' N' off' hJ
      have hlist : h'.IsList ax its := ⟨_, (N' _ (.tail _ (hS _ _ _ hJ))).1, rfl, _, rfl⟩
      have off3 := off'.mem
      by_cases hlt : i < its.size
      · refine W.item i _ _ _ hlt ⟨hst', hlist⟩ fun v h₂ tk₂ hPv hst₂ hk₂ => ?_
        refine exE5 (turn i v ys nx hPv hJ) ?_
        intro t v₁ v₂ v₃ nt zz8
        refine anE3 zz8 ?_
        clear zz8
        rintro rfl hmt R
        have N₂ : News h₀ env.locals h₂ ((D, lst ys) :: nx) := news_but N' hk₂ fun q hq => by
          rcases List.mem_cons.mp hq with rfl | hq
          · exact Ne.symm hDI
          · exact (off3 q hq).1
        have ht : IsTup h₂ t #[v₁, v₂, v₃] := ⟨_, (N₂ _ (.tail _ hmt)).1, rfl, nt, rfl⟩
        refine wpAny_letOwnedTupleGo_listiter hst₂.1 ?_
        refine assign_Tuple_tuple hh ht rfl rfl fun h₅ he => ?_
        have he' : ∀ b o, h₂.get? b = some o → h₅.get? b = some o := fun b o e => he b o (Nat.ne_of_lt (Heap.lt_size e)) e
        refine assignInOrder_cons (wpAny_assign_Name (wpAny_storeName_local (lookup_relabel_local hx₁) ((hn'.at' fun o e => hk₂ _ o (by simpa using Ne.symm hCI) e).at' fun o e => he' _ o e) (fun h₆ hn₆ hs₆ => ?_) (by simp [compEnvC, relabel, hkind])))
        refine assignInOrder_cons (wpAny_assign_Name (wpAny_storeName_local (lookup_relabel_local hx₂) hn₆ (fun h₇ hn₇ hs₇ => ?_) (by simp [compEnvC, relabel, hkind])))
        refine assignInOrder_cons (wpAny_assign_Name (wpAny_storeName_local (lookup_relabel_local hx₃) hn₇ (fun h₃ hn₃ hs₃ => ?_) (by simp [compEnvC, relabel, hkind])))
        refine assignInOrder_nil ?_
        have old3 : ∀ b o, b ≠ C → h₂.get? b = some o → h₃.get? b = some o := fun b o hb e => hs₃.extBut b o hb (hs₇.extBut b o hb (hs₆.extBut b o hb (he' b o e)))
        obtain ⟨oI, heI, rI⟩ := hst₂.1
        have heI3 := old3 _ _ hCI heI
        obtain ⟨oC, heC, hoC⟩ := ns_obj hn₃
        have F₃ : Fr h₀ env.locals h₃ m := ((((fr_but F' hk₂ hIL hI₀).keeps he').change hs₆ hCL hC₀).change hs₇ hCL hC₀).change hs₃ hCL hC₀
        have N₃ : News h₀ env.locals h₃ ((I, oI) :: (C, oC) :: (D, lst ys) :: nx) := fun q hq => by
          rcases List.mem_cons.mp hq with rfl | hq
          · exact ⟨heI3, Ne.symm hIL, hI₀⟩
          · rcases List.mem_cons.mp hq with rfl | hq
            · exact ⟨heC, hCL, hC₀⟩
            · have z := N₂ q hq
              refine ⟨old3 _ _ ?_ z.1, z.2⟩
              rcases List.mem_cons.mp hq with rfl | hq
              · exact hDC
              · exact (off3 q hq).2.1
        refine wpAny_mono (R I oI C oC D _ h₃ _ _ hoC (by simp [h12, h13]) (by simp [h23]) (by simp) F₃ N₃ off' ⟨hCI, hDI, Ne.symm hDC⟩) (fun y s₄ h₄ => ?_) fun _ _ e => e
        refine exE3 h₄ ?_
        clear h₄
        intro h₄ tk₄ news₄ zz8
        refine anE6 zz8 ?_
        clear zz8
        rintro rfl F₄ N₄ off₄ _ R₄
        have zI := (N₄ (I, oI) (.head _)).1
        have zC := (N₄ (C, oC) (.tail _ (.head _))).1
        have zD := (N₄ (D, lst ys) (.tail _ (.tail _ (.head _)))).1
        refine append_at (hsz := by show ys.toArray.size ≤ sizeLine; rw [List.size_toArray, hyl]; exact Nat.le_trans hi hsz) zD fun h₅ hs₅ hD₅ => ?_
        have off4 := off₄.mem
        refine ⟨its.size + 1 - (i + 1), by omega, h₅, tk₄, i + 1, ys ++ [y], _, news₄, rfl, hlt, rfl, by rw [List.length_append, List.length_singleton, hyl], ⟨oI, hs₅.extBut _ _ hDI zI, rI⟩, F₄.change hs₅ hDL hD₀, (hoC.ns zC).sameBut hs₅ (Ne.symm hDC), fun q hq => ?_, off₄, R₄⟩
        rcases List.mem_cons.mp hq with rfl | hq
        · exact ⟨hD₅.trans (congrArg some (lst_snoc ys y)), hDL, hD₀⟩
        · have z := N₄ q (.tail _ (.tail _ (.tail _ hq)))
          exact ⟨hs₅.extBut _ _ (off4 q hq).2.2 z.1, z.2⟩
      · obtain rfl : i = its.size := Nat.le_antisymm hi (Nat.not_lt.mp hlt)
        refine W.done _ _ _ ⟨hst', hlist⟩ fun h₂ tk₂ hk₂ => ?_
        exact hRR _ _ h₂ tk₂ _ ys nx (fr_but F' hk₂ hIL hI₀) (news_but N' hk₂ fun q hq => by
          rcases List.mem_cons.mp hq with rfl | hq
          · exact Ne.symm hDI
          · exact (off3 q hq).1) off'.one (hn'.at' fun o e => hk₂ _ o (by simpa using Ne.symm hCI) e) hC₀ hCL (Ne.symm hDC) (fun q hq => (off3 q hq).2.1) hJ
    · rcases List.mem_cons.mp hq with rfl | hq
      · exact ⟨hacc, hDL, hD₀⟩
      · exact ⟨old _ _ (N q hq).1, (N q hq).2⟩
  exact codeAny_compStart_list loop (W.self 0 _ _ _ ⟨let ⟨o, e, r⟩ := hit; ⟨o, old _ _ e, r⟩, ⟨_, old _ _ (N _ (hS _ _ _ hj)).1, rfl, _, rfl⟩⟩ loop)

theorem Assign_comp3 (_F₀ : Fr h₀ env.locals s.heap m) (hsw : swapsWith (.ListComp elt [⟨.Tuple [.Name x₁ p₁, .Name x₂ p₂, .Name x₃ p₃] tk tp, iter, [], 0⟩] scope pos) (some (.Name y py)) spos.line env = pure true)
    (hclos : closureFor scope env = pure cl) (hcell : ∀ z ∈ scope.names, z.2 ≠ .cell) (hkind : scope.kind = .function)
    (hnames : ∀ z ∈ scope.names, z.2 = .local → scope.names.lookup z.1 = some .local) (hx₁ : scope.names.lookup x₁ = some .local) (hx₂ : scope.names.lookup x₂ = some .local) (hx₃ : scope.names.lookup x₃ = some .local) (h12 : x₁ ≠ x₂) (h13 : x₁ ≠ x₃) (h23 : x₂ ≠ x₃)
    (hy : env.kindOf y = some .local) (hp : (env.scope.kind == .class || (env.scope.kind == .module && env.locals != env.globals)) = false)
    (h : wpAny (model prog w) A (eval iter env) (Src3 prog w A h₀ m env elt x₁ x₂ x₃ scope cl (fun s₂ => FinA h₀ env.locals m s₂ y Q)) E s)
    (hs : ∀ x, foldedSetIterable iter env x = pure x := by intro _; rfl) :
    wpAny (model prog w) A (exec (.Assign [.Name y py] (.ListComp elt [⟨.Tuple [.Name x₁ p₁, .Name x₂ p₂, .Name x₃ p₃] tk tp, iter, [], 0⟩] scope pos) spos) env) Q E s := by
  rw [exec_Assign_Name_used _ _ _ _ hsw]
  refine wpAny_bind (wpAny_standAt (wpAny_bind ?_))
  show wpAny _ A (do let _ ← comprehension (.ListComp elt [⟨.Tuple [.Name x₁ p₁, .Name x₂ p₂, .Name x₃ p₃] tk tp, iter, [], 0⟩] scope pos) scope env _ (newList []) false (eval iter env) (some (assign (.Name y py) env))) _ _ s
  refine wpAny_bind (wpAny_mono (wpAny_comprehension_free (use := some (assign (.Name y py) env)) (Q := fun _ s' => Q .next s') rfl hs hclos hkind hnames
    (wpAny_mono h (fun xv s₁ h₁ => ?_) fun _ _ e => e)) (fun _ s' hq => wpAny_pure (wpAny_pure hq)) fun _ _ e => e)
  refine exE5 h₁ ?_
  clear h₁
  intro ax its k news J zz8
  refine anE9 zz8 ?_
  clear zz8
  rintro rfl hh F N hsz hj hS turn fin
  have hl : s₁.heap.IsList ax its := ⟨_, (N _ (hS _ _ _ hj)).1, rfl, _, rfl⟩
  refine wpAny_pyIter_list hl ?_
  have up : ∀ b o, s₁.heap.get? b = some o → (s₁.heap.push { cls := .type "list_iterator", data := .fields #[.ref ax, .int 0 0] }).get? b = some o := fun b o e => Heap.get?_push_of_some _ e
  refine block3 J hh hsz hcell hkind hx₁ hx₂ hx₃ h12 h13 h23 ⟨_, Heap.get?_push_size _ rfl, rfl, rfl⟩ (by show _ < (s₁.heap.push _).objs.size; rw [Heap.size_push]; exact Nat.lt_succ_self _) (F.keeps up) (N.grown up) (Nat.ne_of_lt F.ns.lt) (next_is_new F) (fun q hq => Nat.ne_of_lt (Heap.lt_size (N q hq).1)) hj hS ?_ ?_
  · intro i v ys nx hv hJ
    obtain ⟨t, v₁, v₂, v₃, nt, e1, e2, e3⟩ := turn i v ys nx hv hJ
    exact ⟨t, v₁, v₂, v₃, nt, e1, e2, fun I oI C oC D m₂ h tk E' => e3 _ I oI C oC D m₂ h tk E' ⟨_, rfl⟩⟩
  · intro D C h' tk m' ys news' F' N' o1 hn hC₀ hCL hCD offC hJ
    show wpAny _ A (assign (.Name y py) env (.ref D)) _ _ _
    refine wpAny_assign_Name (wpAny_storeName_local hy F'.ns (fun h₂ hn₂ hs₂ => ?_) hp)
    have hL₀ : h₀.get? env.locals = none := Heap.get?_none_of_le F'.above
    have F₂ : Fr h₀ env.locals h₂ (fun z => if z = y then some (.ref D) else m z) := ⟨hn₂, fun b o e => hs₂.extBut b o (fun q => by rw [q, hL₀] at e; cases e) (F'.keep b o e), F'.above⟩
    refine ⟨m', hn.sameBut hs₂ hCL, fun h'' hs'' => fin s₁ ys news' ⟨s₁.heap, rfl⟩ hJ D h'' _ (F₂.change hs'' hCL hC₀) (fun q hq => ?_) o1⟩
    have z : h₂.get? q.1 = some q.2 := hs₂.extBut _ _ (N' q hq).2.1 (N' q hq).1
    refine ⟨hs''.extBut _ _ ?_ z, (N' q hq).2⟩
    rcases List.mem_cons.mp hq with rfl | hq
    · exact Ne.symm hCD
    · exact offC q hq
end

end
variable {w : World} {p : Program} {loose : List Str} {mean : ExcName → Option Value} {mg mb : Str → Option Value}
theorem fillF : Challenge.rw_mj0159_01 = Challenge.rw_mj0159_01 ∧ hd.heap_39 = hd.heap_39 := by
  k_fill
  exact ⟨rfl, rfl⟩
local macro_rules | `(tactic| k_units) => `(tactic| first | exact Nat.le_of_ble_eq_true rfl | exact rm1 (by assumption) (by decide) | exact rm0 (by assumption) (by decide))
local macro_rules | `(tactic| k_inst) => `(tactic| exact instB (by k_asm) (by assumption) (by assumption))
local macro_rules | `(tactic| walk_at "pk") => `(tactic| first | assumption | (apply And.left; (iterate 12 (first | done | assumption | apply And.right)); done) | (apply And.right; (iterate 12 (first | done | assumption | apply And.right)); done))
local macro_rules | `(tactic| k_ne) => `(tactic| (refine neN ?_; (try dsimp only); first | exact Nat.ne_of_lt (by walk_at "pk") | exact Nat.ne_of_gt (by walk_at "pk") | walk_at "pk" | exact Ne.symm (by walk_at "pk") | omega))
section

/-- the longest run of blanks -/
noncomputable def runOf (k : Mk) : Int := max (k.cnt.length - 1) k.b

theorem longest {A : Around} {s : Shared} {x : Addr} {k : Mk} (G : Gr w p loose mean mg mb s.heap) (hx : IsMk w s.heap x k) (hk : k.cnt.length < 1000) (R : Rm 5 A) :
    wpAny (model PR w) A (call (.ref 52) [.ref x]) (Out s fun v _ => ∃ t, v = .int (runOf k) t) NoE s := by
  refine exE16 hx ?_
  clear hx
  intro dx tn tc t1 t2 t3 t4 t5 t6 t7 t8 n tb cv e1 e2 zz8
  refine anE5 zz8 ?_
  clear zz8
  rintro h1 h2 h3 h4 h5
  obtain ⟨_, dp, fr, gd, un⟩ := A
  obtain ⟨hh, hd, hu⟩ := R
  cases hh
  dsimp only at hd hu
  have T3 : IsTup s.heap tn #[.ref tc, .int k.b tb] := ⟨_, h3, rfl, _, rfl⟩
  have T4 : IsTup s.heap tc cv.toArray := ⟨_, h4, rfl, _, rfl⟩
  refine wpAny_call ?_
  refine enter [(Str.ofString "self", .ref x)] G (by k_is) (by k_is) (rm00 hd) (BindsTo.of_eq rfl) (locs rfl) ?_ (by decide) rfl rfl rfl
  intro L' h₁ F N
  have X := G.X
  have T := G.T
  ((try ((with_reducible show wpAny _ _ _ _ _ _); k_fold)); repeat' (first | ((fail_if_success (with_reducible show wpAny _ _ (pyIter _) _ _ _)); (fail_if_success (with_reducible show wpAny _ _ (exec (Stmt.For _ _ _ _ _) _) _ _ _)); (fail_if_success (with_reducible show wpAny _ _ (eval (PySem.Expr.ListComp _ _ _ _) _) _ _ _)); (fail_if_success (with_reducible show wpAny _ _ (exec (Stmt.Assign _ (PySem.Expr.ListComp _ _ _ _) _) _) _ _ _)); (fail_if_success (with_reducible show wpAny _ _ (eval (PySem.Expr.Lambda _ _ _ _) _) _ _ _)); (fail_if_success (with_reducible show LCt.CompSrcT _ _ _ _ _ _ _ _ _ _ _ _ _ _ _)); (fail_if_success (with_reducible show LCg.CompSrc _ _ _ _ _ _ _ _ _ _ _ _ _ _)); (fail_if_success (with_reducible show LCg.CompEnd _ _ _ _ _ _ _ _ _ _ _ _ _ _)); first | (k_unfold; (try dsimp only)) | (k_here; (with_reducible show wpAny _ _ (subscriptTail _ _ (Value.ref _) (Value.int _ _)) _ _ _); (refine' itemTupB ?k1 ?k2 ?k3 ?k4 ?k5 ?k6 ?_ ?k7; (case k1 => k_asm); (case k2 => assumption); (case k3 => assumption); (case k4 => omega); (case k5 => omega); (case k6 => omega); (case k7 => with_unfolding_all rfl); intro _)) | (k_here; (with_reducible show wpAny _ _ (call (Value.builtin "len") [Value.ref _]) _ _ _); (refine' lenTupB ?k1 ?k2 ?k3 ?k4 ?_; (case k1 => k_asm); (case k2 => assumption); (case k3 => assumption); (case k4 => omega))) | walk1 | (dsimp only; walk1))))
  refine Out.of (by assumption) ?_
  refine ⟨_, congrArg (Value.int · _) ?_⟩
  unfold runOf
  split <;> omega

noncomputable def ilOf (cnt : List Int) (ts : Int) : Nat → Int
  | 0 => 0
  | n + 1 => ilOf cnt ts n + Int.fdiv (ts + n) ts * cnt.getD (ts + n).toNat 0
/-- the level at a tab size -/
noncomputable def lvl (k : Mk) (ts : Int) : Int := k.b + ts * (ilOf k.cnt ts (k.cnt.length - ts).toNat + k.nt)

theorem indent {A : Around} {s : Shared} {x : Addr} {k : Mk} {ts : Int} {tt : Tok} (G : Gr w p loose mean mg mb s.heap) (hx : IsMk w s.heap x k) (hk : k.cnt.length < 1000) (hlo : 1 ≤ ts) (hhi : ts ≤ 2000) (R : Rm 5 A) :
    wpAny (model PR w) A (call (.ref 59) [.ref x, .int ts tt]) (Out s fun v _ => ∃ t, v = .int (lvl k ts) t) NoE s := by
  refine exE16 hx ?_
  clear hx
  intro dx tn tc t1 t2 t3 t4 t5 t6 t7 t8 n tb cv e1 e2 zz8
  refine anE5 zz8 ?_
  clear zz8
  rintro h1 h2 h3 h4 h5
  obtain ⟨_, dp, fr, gd, un⟩ := A
  obtain ⟨hh, hd, hu⟩ := R
  cases hh
  dsimp only at hd hu
  have T3 : IsTup s.heap tn #[.ref tc, .int k.b tb] := ⟨_, h3, rfl, _, rfl⟩
  have T4 : IsTup s.heap tc cv.toArray := ⟨_, h4, rfl, _, rfl⟩
  refine wpAny_call ?_
  refine enter [(Str.ofString "self", .ref x), (Str.ofString "tabsize", .int ts tt)] G (by k_is) (by k_is) (rm00 hd) (BindsTo.of_eq rfl) (locs rfl) ?_ (by decide) rfl rfl rfl
  intro L' h₁ F N
  have X := G.X
  have T := G.T
  ((try ((with_reducible show wpAny _ _ _ _ _ _); k_fold)); repeat' (first | ((fail_if_success (with_reducible show wpAny _ _ (pyIter _) _ _ _)); (fail_if_success (with_reducible show wpAny _ _ (exec (Stmt.For _ _ _ _ _) _) _ _ _)); (fail_if_success (with_reducible show wpAny _ _ (eval (PySem.Expr.ListComp _ _ _ _) _) _ _ _)); (fail_if_success (with_reducible show wpAny _ _ (exec (Stmt.Assign _ (PySem.Expr.ListComp _ _ _ _) _) _) _ _ _)); (fail_if_success (with_reducible show wpAny _ _ (eval (PySem.Expr.Lambda _ _ _ _) _) _ _ _)); (fail_if_success (with_reducible show LCt.CompSrcT _ _ _ _ _ _ _ _ _ _ _ _ _ _ _)); (fail_if_success (with_reducible show LCg.CompSrc _ _ _ _ _ _ _ _ _ _ _ _ _ _)); (fail_if_success (with_reducible show LCg.CompEnd _ _ _ _ _ _ _ _ _ _ _ _ _ _)); first | (k_unfold; (try dsimp only)) | (k_here; (with_reducible show wpAny _ _ (subscriptTail _ _ (Value.ref _) (Value.int _ _)) _ _ _); (refine' itemTupB ?k1 ?k2 ?k3 ?k4 ?k5 ?k6 ?_ ?k7; (case k1 => k_asm); (case k2 => assumption); (case k3 => assumption); (case k4 => omega); (case k5 => omega); (case k6 => omega); (case k7 => with_unfolding_all rfl); intro _)) | (k_here; (with_reducible show wpAny _ _ (call (Value.builtin "len") [Value.ref _]) _ _ _); (refine' lenTupB ?k1 ?k2 ?k3 ?k4 ?_; (case k1 => k_asm); (case k2 => assumption); (case k3 => assumption); (case k4 => omega))) | walk1 | (dsimp only; walk1))))
  refine For_invV s.heap rfl rfl ?_
  ((try ((with_reducible show wpAny _ _ _ _ _ _); k_fold)); repeat' (first | ((fail_if_success (with_reducible show wpAny _ _ (pyIter _) _ _ _)); (fail_if_success (with_reducible show wpAny _ _ (exec (Stmt.For _ _ _ _ _) _) _ _ _)); (fail_if_success (with_reducible show wpAny _ _ (eval (PySem.Expr.ListComp _ _ _ _) _) _ _ _)); (fail_if_success (with_reducible show wpAny _ _ (exec (Stmt.Assign _ (PySem.Expr.ListComp _ _ _ _) _) _) _ _ _)); (fail_if_success (with_reducible show wpAny _ _ (eval (PySem.Expr.Lambda _ _ _ _) _) _ _ _)); (fail_if_success (with_reducible show LCt.CompSrcT _ _ _ _ _ _ _ _ _ _ _ _ _ _ _)); (fail_if_success (with_reducible show LCg.CompSrc _ _ _ _ _ _ _ _ _ _ _ _ _ _)); (fail_if_success (with_reducible show LCg.CompEnd _ _ _ _ _ _ _ _ _ _ _ _ _ _)); first | (k_unfold; (try dsimp only)) | (k_here; (with_reducible show wpAny _ _ (subscriptTail _ _ (Value.ref _) (Value.int _ _)) _ _ _); (refine' itemTupB ?k1 ?k2 ?k3 ?k4 ?k5 ?k6 ?_ ?k7; (case k1 => k_asm); (case k2 => assumption); (case k3 => assumption); (case k4 => omega); (case k5 => omega); (case k6 => omega); (case k7 => with_unfolding_all rfl); intro _)) | (k_here; (with_reducible show wpAny _ _ (call (Value.builtin "len") [Value.ref _]) _ _ _); (refine' lenTupB ?k1 ?k2 ?k3 ?k4 ?_; (case k1 => k_asm); (case k2 => assumption); (case k3 => assumption); (case k4 => omega))) | walk1 | (dsimp only; walk1))))
  refine iterRange (fun i m nx => nx = [] ∧ ∃ t u, m = fun y => if y = Str.ofString "i" then u else List.lookup y [(Str.ofString "il", .int (ilOf k.cnt ts i) t), (Str.ofString "trailing", .int k.b tb), (Str.ofString "count", .ref tc), (Str.ofString "self", .ref x), (Str.ofString "tabsize", .int ts tt)]) rfl (by assumption) (rangeSmall1 (by omega) (by omega) (by omega) (by omega)) (rangeSize1 _ _) (by assumption) (by assumption) ?_ ?_ ?_ ?_
  · refine ⟨rfl, ?_, none, ?_⟩
    rotate_left
    · ((funext y9; (try simp only [lkc, List.lookup_nil, List.reverse_cons, List.reverse_nil, List.nil_append, List.cons_append]); repeat' (first | rfl | contradiction | (refine ite_l (fun h9 => ?_) (fun h9 => ?_); (subst h9; first | rfl | contradiction)) | (refine ite_r (fun h9 => ?_) (fun h9 => ?_); first | contradiction | (subst h9; first | rfl | contradiction)))))
  · rintro i m nx ⟨rfl, _⟩ q hq
    cases hq
  · rintro i t m₁ nx h tk own hi ⟨rfl, t', u, rfl⟩ hoff F' N' hoc
    have q1 : 0 ≤ (ts + (i : Int)).fdiv ts := Int.fdiv_nonneg (by omega) (by omega)
    have q2 : (ts + (i : Int)).fdiv ts ≤ ts + i := by
      rw [Int.fdiv_eq_ediv_of_nonneg _ (by omega)]
      exact Int.ediv_le_self _ (by omega)
    ((try ((with_reducible show wpAny _ _ _ _ _ _); k_fold)); repeat' (first | ((fail_if_success (with_reducible show wpAny _ _ (pyIter _) _ _ _)); (fail_if_success (with_reducible show wpAny _ _ (exec (Stmt.For _ _ _ _ _) _) _ _ _)); (fail_if_success (with_reducible show wpAny _ _ (eval (PySem.Expr.ListComp _ _ _ _) _) _ _ _)); (fail_if_success (with_reducible show wpAny _ _ (exec (Stmt.Assign _ (PySem.Expr.ListComp _ _ _ _) _) _) _ _ _)); (fail_if_success (with_reducible show wpAny _ _ (eval (PySem.Expr.Lambda _ _ _ _) _) _ _ _)); (fail_if_success (with_reducible show LCt.CompSrcT _ _ _ _ _ _ _ _ _ _ _ _ _ _ _)); (fail_if_success (with_reducible show LCg.CompSrc _ _ _ _ _ _ _ _ _ _ _ _ _ _)); (fail_if_success (with_reducible show LCg.CompEnd _ _ _ _ _ _ _ _ _ _ _ _ _ _)); first | (k_unfold; (try dsimp only)) | (k_here; (with_reducible show wpAny _ _ (subscriptTail _ _ (Value.ref _) (Value.int _ _)) _ _ _); (refine' itemTupB ?k1 ?k2 ?k3 ?k4 ?k5 ?k6 ?_ ?k7; (case k1 => k_asm); (case k2 => assumption); (case k3 => assumption); (case k4 => omega); (case k5 => omega); (case k6 => omega); (case k7 => with_unfolding_all rfl); intro _)) | (k_here; (with_reducible show wpAny _ _ (call (Value.builtin "len") [Value.ref _]) _ _ _); (refine' lenTupB ?k1 ?k2 ?k3 ?k4 ?_; (case k1 => k_asm); (case k2 => assumption); (case k3 => assumption); (case k4 => omega))) | walk1 | (dsimp only; walk1))))
    refine' TurnEnd.go (by assumption) (by assumption) ⟨rfl, _, _, ?mp⟩ (by simp) (by simp)
    case mp => ((funext y9; (try simp only [lkc, List.lookup_nil, List.reverse_cons, List.reverse_nil, List.nil_append, List.cons_append]); repeat' (first | rfl | contradiction | (refine ite_l (fun h9 => ?_) (fun h9 => ?_); (subst h9; first | rfl | contradiction)) | (refine ite_r (fun h9 => ?_) (fun h9 => ?_); first | contradiction | (subst h9; first | rfl | contradiction)))))
  · rintro m₁ nx h tk ⟨rfl, t', u, rfl⟩ F' N'
    ((try ((with_reducible show wpAny _ _ _ _ _ _); k_fold)); repeat' (first | ((fail_if_success (with_reducible show wpAny _ _ (pyIter _) _ _ _)); (fail_if_success (with_reducible show wpAny _ _ (exec (Stmt.For _ _ _ _ _) _) _ _ _)); (fail_if_success (with_reducible show wpAny _ _ (eval (PySem.Expr.ListComp _ _ _ _) _) _ _ _)); (fail_if_success (with_reducible show wpAny _ _ (exec (Stmt.Assign _ (PySem.Expr.ListComp _ _ _ _) _) _) _ _ _)); (fail_if_success (with_reducible show wpAny _ _ (eval (PySem.Expr.Lambda _ _ _ _) _) _ _ _)); (fail_if_success (with_reducible show LCt.CompSrcT _ _ _ _ _ _ _ _ _ _ _ _ _ _ _)); (fail_if_success (with_reducible show LCg.CompSrc _ _ _ _ _ _ _ _ _ _ _ _ _ _)); (fail_if_success (with_reducible show LCg.CompEnd _ _ _ _ _ _ _ _ _ _ _ _ _ _)); first | (k_unfold; (try dsimp only)) | (k_here; (with_reducible show wpAny _ _ (subscriptTail _ _ (Value.ref _) (Value.int _ _)) _ _ _); (refine' itemTupB ?k1 ?k2 ?k3 ?k4 ?k5 ?k6 ?_ ?k7; (case k1 => k_asm); (case k2 => assumption); (case k3 => assumption); (case k4 => omega); (case k5 => omega); (case k6 => omega); (case k7 => with_unfolding_all rfl); intro _)) | (k_here; (with_reducible show wpAny _ _ (call (Value.builtin "len") [Value.ref _]) _ _ _); (refine' lenTupB ?k1 ?k2 ?k3 ?k4 ?_; (case k1 => k_asm); (case k2 => assumption); (case k3 => assumption); (case k4 => omega))) | walk1 | (dsimp only; walk1))))
    exact Out.of (by assumption) ⟨_, rfl⟩
end
/-- what less says -/
noncomputable def lessP (k k' : Mk) : Bool := if k'.n ≤ k.n then false else if k.simple && k'.simple then decide (k.nt ≤ k'.nt) else (List.range (max (runOf k) (runOf k')).toNat).all fun i => decide (lvl k (2 + i) < lvl k' (2 + i))

theorem lessP_ge {k k' : Mk} (h : k'.n ≤ k.n) : Value.bool false = .bool (lessP k k') := by unfold lessP; rw [if_pos h]
theorem lessP_simple {k k' : Mk} (h : ¬ k'.n ≤ k.n) (h1 : k.simple = true) (h2 : k'.simple = true) : Value.bool (decide (k.nt ≤ k'.nt)) = .bool (lessP k k') := by unfold lessP; rw [if_neg h, h1, h2]; rfl
theorem lessP_no {k k' : Mk} (i : Nat) (h : ¬ k'.n ≤ k.n) (h1 : (k.simple && k'.simple) = false) (hi : i < (max (runOf k) (runOf k')).toNat) (hl : lvl k' (2 + i) ≤ lvl k (2 + i)) : Value.bool false = .bool (lessP k k') := by
  unfold lessP
  rw [if_neg h, h1]
  simp
  exact ⟨i, by omega, hl⟩
theorem lessP_yes {k k' : Mk} (h : ¬ k'.n ≤ k.n) (h1 : (k.simple && k'.simple) = false) (hl : ∀ i : Nat, i < (max (runOf k) (runOf k')).toNat → lvl k (2 + i) < lvl k' (2 + i)) : Value.bool true = .bool (lessP k k') := by
  unfold lessP
  rw [if_neg h, h1]
  simp
  intro i hi
  exact hl i (by omega)
theorem run_le {k : Mk} (h1 : k.cnt.length < 1000) (h2 : k.b < 1000) : runOf k < 1000 := by unfold runOf; omega
theorem run_ge {k : Mk} : -1 ≤ runOf k := by unfold runOf; omega

section

theorem less {A : Around} {s : Shared} {x x' : Addr} {k k' : Mk} (G : Gr w p loose mean mg mb s.heap) (hx : IsMk w s.heap x k) (hx' : IsMk w s.heap x' k') (hk : k.cnt.length < 1000) (hk' : k'.cnt.length < 1000) (hb : k.b < 1000) (hb' : k'.b < 1000) (R : Rm 6 A) :
    wpAny (model PR w) A (call (.ref 80) [.ref x, .ref x']) (Out s fun v _ => v = .bool (lessP k k')) NoE s := by
  have hX := hx
  have hX' := hx'
  refine exE16 hx ?_
  clear hx
  intro dx tn tc t1 t2 t3 t4 t5 t6 t7 t8 n tb cv e1 e2 zz8
  refine anE5 zz8 ?_
  clear zz8
  rintro h1 h2 h3 h4 h5
  refine exE16 hx' ?_
  clear hx'
  intro dx' tn' tc' t1' t2' t3' t4' t5' t6' t7' t8' n' tb' cv' e1' e2' zz8
  refine anE5 zz8 ?_
  clear zz8
  rintro h1' h2' h3' h4' h5'
  obtain ⟨_, dp, fr, gd, un⟩ := A
  obtain ⟨hh, hd, hu⟩ := R
  cases hh
  dsimp only at hd hu
  refine wpAny_call ?_
  refine enter [(Str.ofString "self", .ref x), (Str.ofString "other", .ref x')] G (by k_is) (by k_is) (rm00 hd) (BindsTo.of_eq rfl) (locs rfl) ?_ (by decide) rfl rfl rfl
  intro L' h₁ F N
  have X := G.X
  have T := G.T
  ((try ((with_reducible show wpAny _ _ _ _ _ _); k_fold)); repeat' (first | ((fail_if_success (with_reducible show wpAny _ _ (pyIter _) _ _ _)); (fail_if_success (with_reducible show wpAny _ _ (exec (Stmt.For _ _ _ _ _) _) _ _ _)); (fail_if_success (with_reducible show wpAny _ _ (eval (PySem.Expr.ListComp _ _ _ _) _) _ _ _)); (fail_if_success (with_reducible show wpAny _ _ (exec (Stmt.Assign _ (PySem.Expr.ListComp _ _ _ _) _) _) _ _ _)); (fail_if_success (with_reducible show wpAny _ _ (eval (PySem.Expr.Lambda _ _ _ _) _) _ _ _)); (fail_if_success (with_reducible show LCt.CompSrcT _ _ _ _ _ _ _ _ _ _ _ _ _ _ _)); (fail_if_success (with_reducible show LCg.CompSrc _ _ _ _ _ _ _ _ _ _ _ _ _ _)); (fail_if_success (with_reducible show LCg.CompEnd _ _ _ _ _ _ _ _ _ _ _ _ _ _)); first | (k_unfold; (try dsimp only)) | (k_here; (with_reducible show wpAny _ _ (call (Value.ref 59) _) _ _ _); (refine use (by k_asm) (by k_asm) (indent (Gr.keeps (by assumption) (Fr.keep (by k_asm))) (IsMk.stay (by assumption) (Fr.keep (by k_asm))) (by assumption) (by omega) (by omega) (by ((refine ⟨rfl, ?_, ?_⟩ <;> first | exact rm1 (by assumption) (by decide) | exact rm0 (by assumption) (by decide) | exact rm2 (by assumption) (by decide) | ((try simp only [Around.deeper, Around.in1]); omega))))) ?_; rintro _ _ _ _ _ _ ⟨_, e9⟩; subst e9; (try dsimp only))) | (k_here; (with_reducible show wpAny _ _ (call (Value.ref 52) _) _ _ _); (refine use (by k_asm) (by k_asm) (longest (Gr.keeps (by assumption) (Fr.keep (by k_asm))) (IsMk.stay (by assumption) (Fr.keep (by k_asm))) (by assumption) (by ((refine ⟨rfl, ?_, ?_⟩ <;> first | exact rm1 (by assumption) (by decide) | exact rm0 (by assumption) (by decide) | exact rm2 (by assumption) (by decide) | ((try simp only [Around.deeper, Around.in1]); omega))))) ?_; rintro _ _ _ _ _ _ ⟨_, e9⟩; subst e9; (try dsimp only))) | walk1 | (dsimp only; walk1))))
  · dsimp only; exact Out.of (by assumption) (lessP_ge (by assumption))
  · dsimp only; exact Out.of (by assumption) (lessP_simple (by assumption) (by assumption) (by assumption))
  all_goals (
    have hsm : (k.simple && k'.simple) = false := by simp [*]
    have r1 := run_le hk hb
    have r2 := run_le hk' hb'
    have r3 := run_ge (k := k)
    have r4 := run_ge (k := k')
    refine For_invV s.heap rfl rfl ?_
    ((try ((with_reducible show wpAny _ _ _ _ _ _); k_fold)); repeat' (first | ((fail_if_success (with_reducible show wpAny _ _ (pyIter _) _ _ _)); (fail_if_success (with_reducible show wpAny _ _ (exec (Stmt.For _ _ _ _ _) _) _ _ _)); (fail_if_success (with_reducible show wpAny _ _ (eval (PySem.Expr.ListComp _ _ _ _) _) _ _ _)); (fail_if_success (with_reducible show wpAny _ _ (exec (Stmt.Assign _ (PySem.Expr.ListComp _ _ _ _) _) _) _ _ _)); (fail_if_success (with_reducible show wpAny _ _ (eval (PySem.Expr.Lambda _ _ _ _) _) _ _ _)); (fail_if_success (with_reducible show LCt.CompSrcT _ _ _ _ _ _ _ _ _ _ _ _ _ _ _)); (fail_if_success (with_reducible show LCg.CompSrc _ _ _ _ _ _ _ _ _ _ _ _ _ _)); (fail_if_success (with_reducible show LCg.CompEnd _ _ _ _ _ _ _ _ _ _ _ _ _ _)); first | (k_unfold; (try dsimp only)) | (k_here; (with_reducible show wpAny _ _ (call (Value.ref 59) _) _ _ _); (refine use (by k_asm) (by k_asm) (indent (Gr.keeps (by assumption) (Fr.keep (by k_asm))) (IsMk.stay (by assumption) (Fr.keep (by k_asm))) (by assumption) (by omega) (by omega) (by ((refine ⟨rfl, ?_, ?_⟩ <;> first | exact rm1 (by assumption) (by decide) | exact rm0 (by assumption) (by decide) | exact rm2 (by assumption) (by decide) | ((try simp only [Around.deeper, Around.in1]); omega))))) ?_; rintro _ _ _ _ _ _ ⟨_, e9⟩; subst e9; (try dsimp only))) | (k_here; (with_reducible show wpAny _ _ (call (Value.ref 52) _) _ _ _); (refine use (by k_asm) (by k_asm) (longest (Gr.keeps (by assumption) (Fr.keep (by k_asm))) (IsMk.stay (by assumption) (Fr.keep (by k_asm))) (by assumption) (by ((refine ⟨rfl, ?_, ?_⟩ <;> first | exact rm1 (by assumption) (by decide) | exact rm0 (by assumption) (by decide) | exact rm2 (by assumption) (by decide) | ((try simp only [Around.deeper, Around.in1]); omega))))) ?_; rintro _ _ _ _ _ _ ⟨_, e9⟩; subst e9; (try dsimp only))) | walk1 | (dsimp only; walk1))))
    refine iterRange (n := (max (runOf k) (runOf k')).toNat) (fun i m nx => nx = [] ∧ (∀ j : Nat, j < i → lvl k (2 + j) < lvl k' (2 + j)) ∧ ∃ u v, m = fun y => if y = Str.ofString "ts" then u else List.lookup y [(Str.ofString "n", v), (Str.ofString "self", .ref x), (Str.ofString "other", .ref x')]) rfl (by assumption) (rangeSmall1 (by omega) (by omega) (by split <;> omega) (by split <;> omega)) (by rw [rangeSize1]; split <;> omega) (by assumption) (by assumption) ?_ ?_ ?_ ?_
    · refine' ⟨rfl, (fun j hj => absurd hj (Nat.not_lt_zero _)), none, _, ?mp⟩
      case mp => ((funext y9; (try simp only [lkc, List.lookup_nil, List.reverse_cons, List.reverse_nil, List.nil_append, List.cons_append]); repeat' (first | rfl | contradiction | (refine ite_l (fun h9 => ?_) (fun h9 => ?_); (subst h9; first | rfl | contradiction)) | (refine ite_r (fun h9 => ?_) (fun h9 => ?_); first | contradiction | (subst h9; first | rfl | contradiction)))))
    · rintro i m nx ⟨rfl, _⟩ q hq
      cases hq
    · rintro i t m₁ nx h tk own hi ⟨rfl, hj, u, v, rfl⟩ hoff F' N' hoc
      ((try ((with_reducible show wpAny _ _ _ _ _ _); k_fold)); repeat' (first | ((fail_if_success (with_reducible show wpAny _ _ (pyIter _) _ _ _)); (fail_if_success (with_reducible show wpAny _ _ (exec (Stmt.For _ _ _ _ _) _) _ _ _)); (fail_if_success (with_reducible show wpAny _ _ (eval (PySem.Expr.ListComp _ _ _ _) _) _ _ _)); (fail_if_success (with_reducible show wpAny _ _ (exec (Stmt.Assign _ (PySem.Expr.ListComp _ _ _ _) _) _) _ _ _)); (fail_if_success (with_reducible show wpAny _ _ (eval (PySem.Expr.Lambda _ _ _ _) _) _ _ _)); (fail_if_success (with_reducible show LCt.CompSrcT _ _ _ _ _ _ _ _ _ _ _ _ _ _ _)); (fail_if_success (with_reducible show LCg.CompSrc _ _ _ _ _ _ _ _ _ _ _ _ _ _)); (fail_if_success (with_reducible show LCg.CompEnd _ _ _ _ _ _ _ _ _ _ _ _ _ _)); first | (k_unfold; (try dsimp only)) | (k_here; (with_reducible show wpAny _ _ (call (Value.ref 59) _) _ _ _); (refine use (by k_asm) (by k_asm) (indent (Gr.keeps (by assumption) (Fr.keep (by k_asm))) (IsMk.stay (by assumption) (Fr.keep (by k_asm))) (by assumption) (by omega) (by omega) (by ((refine ⟨rfl, ?_, ?_⟩ <;> first | exact rm1 (by assumption) (by decide) | exact rm0 (by assumption) (by decide) | exact rm2 (by assumption) (by decide) | ((try simp only [Around.deeper, Around.in1]); omega))))) ?_; rintro _ _ _ _ _ _ ⟨_, e9⟩; subst e9; (try dsimp only))) | (k_here; (with_reducible show wpAny _ _ (call (Value.ref 52) _) _ _ _); (refine use (by k_asm) (by k_asm) (longest (Gr.keeps (by assumption) (Fr.keep (by k_asm))) (IsMk.stay (by assumption) (Fr.keep (by k_asm))) (by assumption) (by ((refine ⟨rfl, ?_, ?_⟩ <;> first | exact rm1 (by assumption) (by decide) | exact rm0 (by assumption) (by decide) | exact rm2 (by assumption) (by decide) | ((try simp only [Around.deeper, Around.in1]); omega))))) ?_; rintro _ _ _ _ _ _ ⟨_, e9⟩; subst e9; (try dsimp only))) | walk1 | (dsimp only; walk1))))
      · dsimp only
        refine TurnEnd.ret ?_
        dsimp only
        refine Out.of (by assumption) ?_
        exact lessP_no i (by assumption) hsm hi (by assumption)
      · have hs : ∀ j : Nat, j < i + 1 → lvl k (2 + j) < lvl k' (2 + j) := fun j hj' => by
          rcases Nat.lt_succ_iff_lt_or_eq.mp hj' with h | h
          · exact hj j h
          · subst h; exact Int.not_le.mp (by assumption)
        refine' TurnEnd.go (by assumption) (by assumption) ⟨rfl, hs, _, _, ?mp⟩ (by simp) (by simp)
        case mp => ((funext y9; (try simp only [lkc, List.lookup_nil, List.reverse_cons, List.reverse_nil, List.nil_append, List.cons_append]); repeat' (first | rfl | contradiction | (refine ite_l (fun h9 => ?_) (fun h9 => ?_); (subst h9; first | rfl | contradiction)) | (refine ite_r (fun h9 => ?_) (fun h9 => ?_); first | contradiction | (subst h9; first | rfl | contradiction)))))
    · rintro m₁ nx h tk ⟨rfl, hj, u, v, rfl⟩ F' N'
      ((try ((with_reducible show wpAny _ _ _ _ _ _); k_fold)); repeat' (first | ((fail_if_success (with_reducible show wpAny _ _ (pyIter _) _ _ _)); (fail_if_success (with_reducible show wpAny _ _ (exec (Stmt.For _ _ _ _ _) _) _ _ _)); (fail_if_success (with_reducible show wpAny _ _ (eval (PySem.Expr.ListComp _ _ _ _) _) _ _ _)); (fail_if_success (with_reducible show wpAny _ _ (exec (Stmt.Assign _ (PySem.Expr.ListComp _ _ _ _) _) _) _ _ _)); (fail_if_success (with_reducible show wpAny _ _ (eval (PySem.Expr.Lambda _ _ _ _) _) _ _ _)); (fail_if_success (with_reducible show LCt.CompSrcT _ _ _ _ _ _ _ _ _ _ _ _ _ _ _)); (fail_if_success (with_reducible show LCg.CompSrc _ _ _ _ _ _ _ _ _ _ _ _ _ _)); (fail_if_success (with_reducible show LCg.CompEnd _ _ _ _ _ _ _ _ _ _ _ _ _ _)); first | (k_unfold; (try dsimp only)) | (k_here; (with_reducible show wpAny _ _ (call (Value.ref 59) _) _ _ _); (refine use (by k_asm) (by k_asm) (indent (Gr.keeps (by assumption) (Fr.keep (by k_asm))) (IsMk.stay (by assumption) (Fr.keep (by k_asm))) (by assumption) (by omega) (by omega) (by ((refine ⟨rfl, ?_, ?_⟩ <;> first | exact rm1 (by assumption) (by decide) | exact rm0 (by assumption) (by decide) | exact rm2 (by assumption) (by decide) | ((try simp only [Around.deeper, Around.in1]); omega))))) ?_; rintro _ _ _ _ _ _ ⟨_, e9⟩; subst e9; (try dsimp only))) | (k_here; (with_reducible show wpAny _ _ (call (Value.ref 52) _) _ _ _); (refine use (by k_asm) (by k_asm) (longest (Gr.keeps (by assumption) (Fr.keep (by k_asm))) (IsMk.stay (by assumption) (Fr.keep (by k_asm))) (by assumption) (by ((refine ⟨rfl, ?_, ?_⟩ <;> first | exact rm1 (by assumption) (by decide) | exact rm0 (by assumption) (by decide) | exact rm2 (by assumption) (by decide) | ((try simp only [Around.deeper, Around.in1]); omega))))) ?_; rintro _ _ _ _ _ _ ⟨_, e9⟩; subst e9; (try dsimp only))) | walk1 | (dsimp only; walk1))))
      dsimp only
      exact Out.of (by assumption) (lessP_yes (by assumption) hsm hj))
end
theorem reads_ints {h : Heap} {vs : List Value} {ns : List Int} (I : IntsAre vs ns) : ReadsAll h vs (ns.map PyData.int) [] := readsAll_of_ints I
/-- the norm of a Whitespace as data -/
noncomputable abbrev normD (k : Mk) : PyData := .tuple [.tuple (k.cnt.map .int), .int k.b]
theorem norm_reads {h : Heap} {tn tc : Addr} {k : Mk} {tb e1 e2} {cv : List Value} (h3 : h.get? tn = some (tupOf [.ref tc, .int k.b tb] e1)) (h4 : h.get? tc = some (tupOf cv e2)) (h5 : IntsAre cv k.cnt) : Reads h (.ref tn) (normD k) [] :=
  Reads.tuple h3 rfl rfl (ReadsAll.cons (Reads.tuple h4 rfl rfl (by simpa using reads_ints h5)) (ReadsAll.cons (Reads.int _ _) ReadsAll.nil))
theorem canLay_ints : ∀ ns : List Int, PyData.canLayAll0 (ns.map PyData.int) = true := ke_canLayAll0
theorem depth_ints : ∀ ns : List Int, PyData.depthAll (ns.map PyData.int) = 0 := ke_depthAll
theorem norm_shaped (k : Mk) : SeqAt.shaped (normD k) = true := by
  unfold SeqAt.shaped
  simp [PyData.canLay0, PyData.canLayAll0, PyData.depth, PyData.depthAll, canLay_ints, depth_ints]
noncomputable def eqP (k k' : Mk) : Bool := decide (k.cnt = k'.cnt ∧ k.b = k'.b)
theorem norm_eqv (k k' : Mk) : PyData.eqv (normD k) (normD k') = eqP k k' := by
  unfold eqP
  simp [PyData.eqv, PyData.eqvAll, ked_eqvAll, Bool.decide_and]
  rfl

section
theorem equal {A : Around} {s : Shared} {x x' : Addr} {k k' : Mk} (G : Gr w p loose mean mg mb s.heap) (hx : IsMk w s.heap x k) (hx' : IsMk w s.heap x' k') (R : Rm 12 A) :
    wpAny (model PR w) A (call (.ref 66) [.ref x, .ref x']) (Out s fun v _ => v = .bool (eqP k k')) NoE s := by
  refine exE16 hx ?_
  clear hx
  intro dx tn tc t1 t2 t3 t4 t5 t6 t7 t8 n tb cv e1 e2 zz8
  refine anE5 zz8 ?_
  clear zz8
  rintro h1 h2 h3 h4 h5
  refine exE16 hx' ?_
  clear hx'
  intro dx' tn' tc' t1' t2' t3' t4' t5' t6' t7' t8' n' tb' cv' e1' e2' zz8
  refine anE5 zz8 ?_
  clear zz8
  rintro h1' h2' h3' h4' h5'
  obtain ⟨_, dp, fr, gd, un⟩ := A
  obtain ⟨hh, hd, hu⟩ := R
  cases hh
  dsimp only at hd hu
  refine wpAny_call ?_
  refine enter [(Str.ofString "self", .ref x), (Str.ofString "other", .ref x')] G (by k_is) (by k_is) (rm00 hd) (BindsTo.of_eq rfl) (locs rfl) ?_ (by decide) rfl rfl rfl
  intro L' h₁ F N
  have X := G.X
  have T := G.T
  ((try ((with_reducible show wpAny _ _ _ _ _ _); k_fold)); repeat' (first | ((fail_if_success (with_reducible show wpAny _ _ (pyIter _) _ _ _)); (fail_if_success (with_reducible show wpAny _ _ (exec (Stmt.For _ _ _ _ _) _) _ _ _)); (fail_if_success (with_reducible show wpAny _ _ (eval (PySem.Expr.ListComp _ _ _ _) _) _ _ _)); (fail_if_success (with_reducible show wpAny _ _ (exec (Stmt.Assign _ (PySem.Expr.ListComp _ _ _ _) _) _) _ _ _)); (fail_if_success (with_reducible show wpAny _ _ (eval (PySem.Expr.Lambda _ _ _ _) _) _ _ _)); (fail_if_success (with_reducible show LCt.CompSrcT _ _ _ _ _ _ _ _ _ _ _ _ _ _ _)); (fail_if_success (with_reducible show LCg.CompSrc _ _ _ _ _ _ _ _ _ _ _ _ _ _)); (fail_if_success (with_reducible show LCg.CompEnd _ _ _ _ _ _ _ _ _ _ _ _ _ _)); first | (k_unfold; (try dsimp only)) | (k_here; (with_reducible show wpAny _ _ (compareOp CmpOp.Eq (Value.ref _) (Value.ref _)) _ _ _); refine eq_dataH (Reads.keeps (Fr.keep (by k_asm)) (norm_reads (by assumption) (by assumption) (by assumption))) (Reads.keeps (Fr.keep (by k_asm)) (norm_reads (by assumption) (by assumption) (by assumption))) (norm_shaped _) (norm_shaped _) (by (try simp only [Around.deeper_units]); omega) ?_) | walk1 | (dsimp only; walk1))))
  dsimp only
  refine Out.of (by assumption) ?_
  rw [norm_eqv]
end
/-- a function object -/
noncomputable def FnAt (h : Heap) (f : Addr) : Prop := ∃ o fd, h.get? f = some o ∧ o.data = .func fd
theorem FnAt.stay {h h' : Heap} {f : Addr} (a : FnAt h f) (st : Stay h h') : FnAt h' f := by
  obtain ⟨o, fd, h1, h2⟩ := a
  exact ⟨o, fd, st _ _ h1, h2⟩
theorem callWith_fn {M : Model} {A : Around} {E : Value → Shared → Prop} {s : Shared} {env : Env} {pos : Pos} {f : Addr} {first : List Value} {Q : Value → Shared → Prop} {e : PySem.Expr} {rest : List PySem.Expr}
    (h : wpAny M A (spliced (backTo pos (starEach (e :: rest) env))) (fun vs s₁ => FnAt s₁.heap f ∧ wpAny M A (call (.ref f) (first ++ vs)) Q E s₁) E s)
    (he : starEach (e :: rest) env = (false, eval e env) :: starEach rest env := by rfl) (hplain : (backTo pos (starEach rest env)).any (·.1) = false := by rfl) :
    wpAny M A (callWith pos (.ref f) first (backTo pos (starEach (e :: rest) env)) []) Q E s := by
  rw [he] at h ⊢
  refine callWith_of (P := fun h => FnAt h f) (by show ((false || (backTo pos (starEach rest env)).any (·.1)) || false) = false; rw [hplain]; rfl) ?_ (evalArgs_plain h)
  rintro h ⟨o, fd, h1, h2⟩
  refine ⟨.frame, .inl rfl, (Looks.ld (part := none) h1).andThen ?_⟩
  obtain ⟨c, d, dt, sl⟩ := o
  subst h2
  exact .now
/-- whether a value counts as true -/
noncomputable def Truth (v : Value) (h : Heap) (b : Bool) : Prop := v = .bool b ∨ ∃ a vs, v = .ref a ∧ h.IsList a vs ∧ vs.size < 1000000 ∧ b = !vs.isEmpty
theorem truthy_of {A : Around} {E : Value → Shared → Prop} {s : Shared} {v : Value} {b : Bool} {Q : Bool → Shared → Prop} (hT : Truth v s.heap b) (h : ∀ tk, Q b { s with toks := tk }) : wpAny (model PR w) A (truthy v) Q E s := by
  rcases hT with rfl | ⟨a, vs, rfl, hl, hz, rfl⟩
  · exact wpAny_pure (h s.toks)
  · exact wpAny_truthy_list hl (by omega) (h _)
/-- the two halves -/
noncomputable def Halves (v : Value) (nw : List (Addr × Obj)) (as bs : List Int) : Prop := ∃ (a y z : Addr) (ys zs : Array Value) (c d e : Nat), v = .ref a ∧ nw = [(a, tupOf [.ref y, .ref z] e), (z, listOf zs d), (y, listOf ys c)] ∧ IntsAre ys.toList as ∧ IntsAre zs.toList bs
theorem ints_snoc {vs : List Value} {ns : List Int} (h : IntsAre vs ns) (n : Int) (t : Tok) : IntsAre (vs ++ [.int n t]) (ns ++ [n]) := by
  induction h with
  | nil => exact .cons _ _ .nil
  | cons m u _ ih => exact .cons m u ih
theorem ints_push {vs : Array Value} {ns : List Int} (h : IntsAre vs.toList ns) (n : Int) (t : Tok) : IntsAre (vs.push (.int n t)).toList (ns ++ [n]) := by
  rw [Array.toList_push]; exact ints_snoc h n t

section
local macro_rules | `(tactic| walk_at "callWith ref") => `(tactic| (k_here; refine callWith_fn ?_))
local macro_rules | `(tactic| walk_at "And") => `(tactic| (refine And.intro (FnAt.stay (by assumption) (Fr.keep (by k_asm))) ?_))

theorem split {A : Around} {s : Shared} {l f : Addr} {vs : List Value} {ns : List Int} {P : Int → Bool} (G : Gr w p loose mean mg mb s.heap) (hl : s.heap.IsList l vs.toArray) (hi : IntsAre vs ns) (hlen : ns.length < 1000) (hf : FnAt s.heap f) (R : Rm 20 A)
    (hp : ∀ (A' : Around) (s' : Shared) (n : Int) (t : Tok), Rm 19 A' → Stay s.heap s'.heap → n ∈ ns → wpAny (model PR w) A' (call (.ref f) [.int n t]) (Out s' fun v h => Truth v h (P n)) NoE s') :
    wpAny (model PR w) A (call (.ref 28) [.ref l, .ref f]) (Out s fun v h => ∃ nw, Fresh s.heap h nw ∧ Halves v nw (ns.filter P) (ns.filter fun n => !P n)) NoE s := by
  obtain ⟨_, dp, fr, gd, un⟩ := A
  obtain ⟨hh, hd, hu⟩ := R
  cases hh
  dsimp only at hd hu
  refine wpAny_call ?_
  refine enter [(Str.ofString "s", .ref l), (Str.ofString "predicate", .ref f)] G (by k_is) (by k_is) (rm00 hd) (BindsTo.of_eq rfl) (locs rfl) ?_ (by decide) rfl rfl rfl
  intro L' h₁ F N
  have X := G.X
  have T := G.T
  ((try ((with_reducible show wpAny _ _ _ _ _ _); k_fold)); repeat' (first | ((fail_if_success (with_reducible show wpAny _ _ (pyIter _) _ _ _)); (fail_if_success (with_reducible show wpAny _ _ (exec (Stmt.For _ _ _ _ _) _) _ _ _)); (fail_if_success (with_reducible show wpAny _ _ (eval (PySem.Expr.ListComp _ _ _ _) _) _ _ _)); (fail_if_success (with_reducible show wpAny _ _ (exec (Stmt.Assign _ (PySem.Expr.ListComp _ _ _ _) _) _) _ _ _)); (fail_if_success (with_reducible show wpAny _ _ (eval (PySem.Expr.Lambda _ _ _ _) _) _ _ _)); (fail_if_success (with_reducible show LCt.CompSrcT _ _ _ _ _ _ _ _ _ _ _ _ _ _ _)); (fail_if_success (with_reducible show LCg.CompSrc _ _ _ _ _ _ _ _ _ _ _ _ _ _)); (fail_if_success (with_reducible show LCg.CompEnd _ _ _ _ _ _ _ _ _ _ _ _ _ _)); first | (k_unfold; (try dsimp only)) | walk1 | (dsimp only; walk1))))
  refine For_invV s.heap rfl rfl ?_
  ((try ((with_reducible show wpAny _ _ _ _ _ _); k_fold)); repeat' (first | ((fail_if_success (with_reducible show wpAny _ _ (pyIter _) _ _ _)); (fail_if_success (with_reducible show wpAny _ _ (exec (Stmt.For _ _ _ _ _) _) _ _ _)); (fail_if_success (with_reducible show wpAny _ _ (eval (PySem.Expr.ListComp _ _ _ _) _) _ _ _)); (fail_if_success (with_reducible show wpAny _ _ (exec (Stmt.Assign _ (PySem.Expr.ListComp _ _ _ _) _) _) _ _ _)); (fail_if_success (with_reducible show wpAny _ _ (eval (PySem.Expr.Lambda _ _ _ _) _) _ _ _)); (fail_if_success (with_reducible show LCt.CompSrcT _ _ _ _ _ _ _ _ _ _ _ _ _ _ _)); (fail_if_success (with_reducible show LCg.CompSrc _ _ _ _ _ _ _ _ _ _ _ _ _ _)); (fail_if_success (with_reducible show LCg.CompEnd _ _ _ _ _ _ _ _ _ _ _ _ _ _)); first | (k_unfold; (try dsimp only)) | walk1 | (dsimp only; walk1))))
  rename_i ay _ _ _ an _ lyn _ F0 N0
  refine iterBase (fun i m nx => ∃ (ys zs : Array Value) (c d : Nat) (u : Option Value), nx = [(an, listOf zs d), (ay, listOf ys c)] ∧ IntsAre ys.toList ((ns.take i).filter P) ∧ IntsAre zs.toList ((ns.take i).filter fun n => !P n) ∧
      m = fun y => if y = Str.ofString "x" then u else List.lookup y [(Str.ofString "no", .ref an), (Str.ofString "yes", .ref ay), (Str.ofString "s", .ref l), (Str.ofString "predicate", .ref f)]) rfl hl F0 N0 ?_ ?_ ?_ ?_
  · refine' (exI5 #[] #[] 0 0 none ⟨rfl, IntsAre.nil, IntsAre.nil, ?mp⟩)
    case mp => ((funext y9; (try simp only [lkc, List.lookup_nil, List.reverse_cons, List.reverse_nil, List.nil_append, List.cons_append]); repeat' (first | rfl | contradiction | (refine ite_l (fun h9 => ?_) (fun h9 => ?_); (subst h9; first | rfl | contradiction)) | (refine ite_r (fun h9 => ?_) (fun h9 => ?_); first | contradiction | (subst h9; first | rfl | contradiction)))))
  · intro i m nx zz9 q hq
    refine exE5 zz9 ?_
    clear zz9
    intro ys zs c d u zz8
    refine anE2 zz8 ?_
    clear zz8
    rintro rfl _
    revert q
    exact alC (.inl (by show Value.type "list" ≠ _; decide)) (alC (.inl (by show Value.type "list" ≠ _; decide)) alN)
  · intro i v m₁ nx h tk own hv zz9 hoff F' N' hoc
    (try ((with_reducible show wpAny _ _ _ _ _ _); k_fold))
    refine exE5 zz9 ?_
    clear zz9
    intro ys zs c d u zz8
    refine anE4 zz8 ?_
    clear zz8
    rintro rfl hy hz rfl
    have hin : i < ns.length := by
      have := (List.getElem?_eq_some_iff.mp hv).1
      rw [hi.length] at this; exact this
    obtain ⟨t, ht⟩ := hi.get i ns[i] (by simp [hin])
    rw [ht] at hv
    obtain rfl := Option.some.inj hv
    simp only [List.cons_append, List.nil_append] at N'
    ((try ((with_reducible show wpAny _ _ _ _ _ _); k_fold)); repeat' (first | ((fail_if_success (with_reducible show wpAny _ _ (pyIter _) _ _ _)); (fail_if_success (with_reducible show wpAny _ _ (exec (Stmt.For _ _ _ _ _) _) _ _ _)); (fail_if_success (with_reducible show wpAny _ _ (eval (PySem.Expr.ListComp _ _ _ _) _) _ _ _)); (fail_if_success (with_reducible show wpAny _ _ (exec (Stmt.Assign _ (PySem.Expr.ListComp _ _ _ _) _) _) _ _ _)); (fail_if_success (with_reducible show wpAny _ _ (eval (PySem.Expr.Lambda _ _ _ _) _) _ _ _)); (fail_if_success (with_reducible show LCt.CompSrcT _ _ _ _ _ _ _ _ _ _ _ _ _ _ _)); (fail_if_success (with_reducible show LCg.CompSrc _ _ _ _ _ _ _ _ _ _ _ _ _ _)); (fail_if_success (with_reducible show LCg.CompEnd _ _ _ _ _ _ _ _ _ _ _ _ _ _)); first | (k_unfold; (try dsimp only)) | walk1 | (dsimp only; walk1))))
    refine use (by assumption) (by assumption) (hp _ _ _ _ (by ((refine ⟨rfl, ?_, ?_⟩ <;> first | exact rm1 (by assumption) (by decide) | exact rm0 (by assumption) (by decide) | exact rm2 (by assumption) (by decide) | ((try simp only [Around.deeper, Around.in1]); omega)))) (fun b o e => F'.keep b o e) (List.getElem_mem hin)) ?_
    intro v9 h9 tk9 st9 F9 N9 hT
    refine truthy_of hT ?_
    intro tk8
    have ly := hy.length
    have lz := hz.length
    have l1 := List.length_filter_le P (ns.take i)
    have l2 := List.length_filter_le (fun n => !P n) (ns.take i)
    have l3 := List.length_take_le i ns
    have e1 : ns.take (i + 1) = ns.take i ++ [ns[i]] := by simp [hin]
    simp only [Array.length_toList] at ly lz
    ((try ((with_reducible show wpAny _ _ _ _ _ _); k_fold)); repeat' (first | ((fail_if_success (with_reducible show wpAny _ _ (pyIter _) _ _ _)); (fail_if_success (with_reducible show wpAny _ _ (exec (Stmt.For _ _ _ _ _) _) _ _ _)); (fail_if_success (with_reducible show wpAny _ _ (eval (PySem.Expr.ListComp _ _ _ _) _) _ _ _)); (fail_if_success (with_reducible show wpAny _ _ (exec (Stmt.Assign _ (PySem.Expr.ListComp _ _ _ _) _) _) _ _ _)); (fail_if_success (with_reducible show wpAny _ _ (eval (PySem.Expr.Lambda _ _ _ _) _) _ _ _)); (fail_if_success (with_reducible show LCt.CompSrcT _ _ _ _ _ _ _ _ _ _ _ _ _ _ _)); (fail_if_success (with_reducible show LCg.CompSrc _ _ _ _ _ _ _ _ _ _ _ _ _ _)); (fail_if_success (with_reducible show LCg.CompEnd _ _ _ _ _ _ _ _ _ _ _ _ _ _)); first | (k_unfold; (try dsimp only)) | walk1 | (dsimp only; walk1))))
    · have hP : P ns[i] = true := by assumption
      refine' TurnEnd.go (by assumption) (by assumption) (exI5 (ys.push (.int ns[i] t)) zs (c + 1) d _ ⟨rfl, ?a, ?b, ?mp⟩) ?c1 ?c2
      case mp => ((funext y9; (try simp only [lkc, List.lookup_nil, List.reverse_cons, List.reverse_nil, List.nil_append, List.cons_append]); repeat' (first | rfl | contradiction | (refine ite_l (fun h9 => ?_) (fun h9 => ?_); (subst h9; first | rfl | contradiction)) | (refine ite_r (fun h9 => ?_) (fun h9 => ?_); first | contradiction | (subst h9; first | rfl | contradiction)))))
      case a => rw [e1, List.filter_append, List.filter_cons_of_pos hP]; exact ints_push hy _ _
      case b => rw [e1, List.filter_append, List.filter_cons_of_neg (by simp [hP])]; simpa using hz
      case c1 => simp
      case c2 => intro q hq; exact List.mem_cons_of_mem _ (List.mem_cons_of_mem _ hq)
    · have hP : P ns[i] = false := by assumption
      refine' TurnEnd.go (by assumption) (by assumption) (exI5 ys (zs.push (.int ns[i] t)) c (d + 1) _ ⟨rfl, ?a, ?b, ?mp⟩) ?c1 ?c2
      case mp => ((funext y9; (try simp only [lkc, List.lookup_nil, List.reverse_cons, List.reverse_nil, List.nil_append, List.cons_append]); repeat' (first | rfl | contradiction | (refine ite_l (fun h9 => ?_) (fun h9 => ?_); (subst h9; first | rfl | contradiction)) | (refine ite_r (fun h9 => ?_) (fun h9 => ?_); first | contradiction | (subst h9; first | rfl | contradiction)))))
      case b => rw [e1, List.filter_append, List.filter_cons_of_pos (by simp [hP])]; exact ints_push hz _ _
      case a => rw [e1, List.filter_append, List.filter_cons_of_neg (by simp [hP])]; simpa using hy
      case c1 => simp
      case c2 => intro q hq; exact List.mem_cons_of_mem _ (List.mem_cons_of_mem _ hq)
  · intro m₁ nx h tk zz9 F' N'
    (try ((with_reducible show wpAny _ _ _ _ _ _); k_fold))
    refine exE5 zz9 ?_
    clear zz9
    intro ys zs c d u zz8
    refine anE4 zz8 ?_
    clear zz8
    rintro rfl hy hz rfl
    ((try ((with_reducible show wpAny _ _ _ _ _ _); k_fold)); repeat' (first | ((fail_if_success (with_reducible show wpAny _ _ (pyIter _) _ _ _)); (fail_if_success (with_reducible show wpAny _ _ (exec (Stmt.For _ _ _ _ _) _) _ _ _)); (fail_if_success (with_reducible show wpAny _ _ (eval (PySem.Expr.ListComp _ _ _ _) _) _ _ _)); (fail_if_success (with_reducible show wpAny _ _ (exec (Stmt.Assign _ (PySem.Expr.ListComp _ _ _ _) _) _) _ _ _)); (fail_if_success (with_reducible show wpAny _ _ (eval (PySem.Expr.Lambda _ _ _ _) _) _ _ _)); (fail_if_success (with_reducible show LCt.CompSrcT _ _ _ _ _ _ _ _ _ _ _ _ _ _ _)); (fail_if_success (with_reducible show LCg.CompSrc _ _ _ _ _ _ _ _ _ _ _ _ _ _)); (fail_if_success (with_reducible show LCg.CompEnd _ _ _ _ _ _ _ _ _ _ _ _ _ _)); first | (k_unfold; (try dsimp only)) | walk1 | (dsimp only; walk1))))
    rename_i D _ F9 N9 _
    refine Out.of F9 ⟨_, Fresh.of_news N9 (fun q hq => mem3 (.head _) (.tail _ (.head _)) (.tail _ (.tail _ (.head _))) q hq), D, ay, an, ys, zs, c, d, 0, rfl, rfl, ?_, ?_⟩
    · simpa [hi.length] using hy
    · simpa [hi.length] using hz
end
/-- one sign's step -/
noncomputable def colStep (size at_ : Int) (c : Nat) : Int := if c = 9 then at_ + size - Int.fmod at_ size else at_ + 1
noncomputable def colOf (size : Int) (cs : List Nat) : Int := cs.foldl (colStep size) 0
noncomputable def colsOf (cs : List Nat) : List Int := [colOf 1 cs, colOf 2 cs, colOf 3 cs, colOf 4 cs, colOf 5 cs]
theorem colOf_take {size : Int} {cs : List Nat} {i c : Nat} (h : cs[i]? = some c) : colOf size (cs.take (i + 1)) = colStep size (colOf size (cs.take i)) c := by
  unfold colOf
  rw [List.take_add_one, h, List.foldl_append]
  rfl
theorem tab_iff {c : Nat} : ((⟨#[c]⟩ : Str) = Str.ofString "\t") ↔ c = 9 := by
  rw [show Str.ofString "\t" = ⟨#[9]⟩ from by decide +kernel]
  constructor
  · intro h; injection h with h; injection h with h; injection h
  · intro h; rw [h]
/-- a new list of ints -/
noncomputable def IntList (v : Value) (nw : List (Addr × Obj)) (ns : List Int) : Prop := ∃ (D : Addr) (vs : Array Value) (c : Nat), v = .ref D ∧ nw = [(D, listOf vs c)] ∧ IntsAre vs.toList ns

theorem columns {A : Around} {s : Shared} {row : Str} {tr : Tok} (G : Gr w p loose mean mg mb s.heap) (ha : row.cps.all (· < 128) = true) (hn : row.cps.size < 1000) (R : Rm 6 A) :
    wpAny (model PR w) A (call (.ref 108) [.str row tr]) (Out s fun v h => ∃ nw, Fresh s.heap h nw ∧ IntList v nw (colsOf row.cps.toList)) NoE s := by
  obtain ⟨_, dp, fr, gd, un⟩ := A
  obtain ⟨hh, hd, hu⟩ := R
  cases hh
  dsimp only at hd hu
  refine wpAny_call ?_
  refine enter [(Str.ofString "row", .str row tr)] G (by k_is) (by k_is) (rm00 hd) (BindsTo.of_eq rfl) (locs rfl) ?_ (by decide) rfl rfl rfl
  intro L' h₁ F N
  have X := G.X
  have T := G.T
  ((try ((with_reducible show wpAny _ _ _ _ _ _); k_fold)); repeat' (first | ((fail_if_success (with_reducible show wpAny _ _ (pyIter _) _ _ _)); (fail_if_success (with_reducible show wpAny _ _ (exec (Stmt.For _ _ _ _ _) _) _ _ _)); (fail_if_success (with_reducible show wpAny _ _ (eval (PySem.Expr.ListComp _ _ _ _) _) _ _ _)); (fail_if_success (with_reducible show wpAny _ _ (exec (Stmt.Assign _ (PySem.Expr.ListComp _ _ _ _) _) _) _ _ _)); (fail_if_success (with_reducible show wpAny _ _ (eval (PySem.Expr.Lambda _ _ _ _) _) _ _ _)); (fail_if_success (with_reducible show LCt.CompSrcT _ _ _ _ _ _ _ _ _ _ _ _ _ _ _)); (fail_if_success (with_reducible show LCg.CompSrc _ _ _ _ _ _ _ _ _ _ _ _ _ _)); (fail_if_success (with_reducible show LCg.CompEnd _ _ _ _ _ _ _ _ _ _ _ _ _ _)); first | (k_unfold; (try dsimp only)) | walk1 | (dsimp only; walk1))))
  refine For_invV s.heap rfl rfl ?_
  ((try ((with_reducible show wpAny _ _ _ _ _ _); k_fold)); repeat' (first | ((fail_if_success (with_reducible show wpAny _ _ (pyIter _) _ _ _)); (fail_if_success (with_reducible show wpAny _ _ (exec (Stmt.For _ _ _ _ _) _) _ _ _)); (fail_if_success (with_reducible show wpAny _ _ (eval (PySem.Expr.ListComp _ _ _ _) _) _ _ _)); (fail_if_success (with_reducible show wpAny _ _ (exec (Stmt.Assign _ (PySem.Expr.ListComp _ _ _ _) _) _) _ _ _)); (fail_if_success (with_reducible show wpAny _ _ (eval (PySem.Expr.Lambda _ _ _ _) _) _ _ _)); (fail_if_success (with_reducible show LCt.CompSrcT _ _ _ _ _ _ _ _ _ _ _ _ _ _ _)); (fail_if_success (with_reducible show LCg.CompSrc _ _ _ _ _ _ _ _ _ _ _ _ _ _)); (fail_if_success (with_reducible show LCg.CompEnd _ _ _ _ _ _ _ _ _ _ _ _ _ _)); first | (k_unfold; (try dsimp only)) | walk1 | (dsimp only; walk1))))
  rename_i D _ _ _ _ _ _ _ _ _ _ _ F0 N0 _
  refine iterRange (n := 5) (fun i m nx => ∃ (ys : Array Value) (c : Nat) (u1 u2 u3 : Option Value), nx = [(D, listOf ys c)] ∧ IntsAre ys.toList ((colsOf row.cps.toList).take i) ∧
      m = fun y => if y = Str.ofString "sign" then u3 else if y = Str.ofString "at" then u2 else if y = Str.ofString "size" then u1 else List.lookup y [(Str.ofString "columns", .ref D), (Str.ofString "row", .str row tr)]) rfl (by assumption) (by decide) (by decide) F0 N0 ?_ ?_ ?_ ?_
  · refine' (exI5 #[] 0 none none none ⟨rfl, IntsAre.nil, ?mp⟩)
    case mp => ((funext y9; (try simp only [lkc, List.lookup_nil, List.reverse_cons, List.reverse_nil, List.nil_append, List.cons_append]); repeat' (first | rfl | contradiction | (refine ite_l (fun h9 => ?_) (fun h9 => ?_); (subst h9; first | rfl | contradiction)) | (refine ite_r (fun h9 => ?_) (fun h9 => ?_); first | contradiction | (subst h9; first | rfl | contradiction)))))
  · intro i m nx zz9 q hq
    refine exE5 zz9 ?_
    clear zz9
    intro ys c u1 u2 u3 zz8
    refine anE2 zz8 ?_
    clear zz8
    rintro rfl _
    rw [List.mem_singleton.mp hq]; exact .inl (by show Value.type "list" ≠ _; decide)
  · intro i t m₁ nx h tk own hi zz9 hoff F' N' hoc
    (try ((with_reducible show wpAny _ _ _ _ _ _); k_fold))
    refine exE5 zz9 ?_
    clear zz9
    intro ys c u1 u2 u3 zz8
    refine anE3 zz8 ?_
    clear zz8
    rintro rfl hy rfl
    simp only [List.cons_append, List.nil_append] at N'
    ((try ((with_reducible show wpAny _ _ _ _ _ _); k_fold)); repeat' (first | ((fail_if_success (with_reducible show wpAny _ _ (pyIter _) _ _ _)); (fail_if_success (with_reducible show wpAny _ _ (exec (Stmt.For _ _ _ _ _) _) _ _ _)); (fail_if_success (with_reducible show wpAny _ _ (eval (PySem.Expr.ListComp _ _ _ _) _) _ _ _)); (fail_if_success (with_reducible show wpAny _ _ (exec (Stmt.Assign _ (PySem.Expr.ListComp _ _ _ _) _) _) _ _ _)); (fail_if_success (with_reducible show wpAny _ _ (eval (PySem.Expr.Lambda _ _ _ _) _) _ _ _)); (fail_if_success (with_reducible show LCt.CompSrcT _ _ _ _ _ _ _ _ _ _ _ _ _ _ _)); (fail_if_success (with_reducible show LCg.CompSrc _ _ _ _ _ _ _ _ _ _ _ _ _ _)); (fail_if_success (with_reducible show LCg.CompEnd _ _ _ _ _ _ _ _ _ _ _ _ _ _)); first | (k_unfold; (try dsimp only)) | walk1 | (dsimp only; walk1))))
    refine For_invV s.heap rfl rfl ?_
    ((try ((with_reducible show wpAny _ _ _ _ _ _); k_fold)); repeat' (first | ((fail_if_success (with_reducible show wpAny _ _ (pyIter _) _ _ _)); (fail_if_success (with_reducible show wpAny _ _ (exec (Stmt.For _ _ _ _ _) _) _ _ _)); (fail_if_success (with_reducible show wpAny _ _ (eval (PySem.Expr.ListComp _ _ _ _) _) _ _ _)); (fail_if_success (with_reducible show wpAny _ _ (exec (Stmt.Assign _ (PySem.Expr.ListComp _ _ _ _) _) _) _ _ _)); (fail_if_success (with_reducible show wpAny _ _ (eval (PySem.Expr.Lambda _ _ _ _) _) _ _ _)); (fail_if_success (with_reducible show LCt.CompSrcT _ _ _ _ _ _ _ _ _ _ _ _ _ _ _)); (fail_if_success (with_reducible show LCg.CompSrc _ _ _ _ _ _ _ _ _ _ _ _ _ _)); (fail_if_success (with_reducible show LCg.CompEnd _ _ _ _ _ _ _ _ _ _ _ _ _ _)); first | (k_unfold; (try dsimp only)) | walk1 | (dsimp only; walk1))))
    refine iterText (fun j m nx => nx = (D, listOf ys c) :: own ∧ ∃ t' u, m = fun y => if y = Str.ofString "sign" then u else List.lookup y [(Str.ofString "at", .int (colOf (1 + i) (row.cps.toList.take j)) t'), (Str.ofString "size", .int (1 + i) t), (Str.ofString "columns", .ref D), (Str.ofString "row", .str row tr)]) rfl ha (by assumption) (by assumption) ?_ ?_ ?_ ?_
    · refine' ⟨rfl, _, _, ?mp⟩
      case mp => ((funext y9; (try simp only [lkc, List.lookup_nil, List.reverse_cons, List.reverse_nil, List.nil_append, List.cons_append]); repeat' (first | rfl | contradiction | (refine ite_l (fun h9 => ?_) (fun h9 => ?_); (subst h9; first | rfl | contradiction)) | (refine ite_r (fun h9 => ?_) (fun h9 => ?_); first | contradiction | (subst h9; first | rfl | contradiction)))))
    · rintro j m nx ⟨rfl, _⟩ q hq
      revert q
      exact alC (.inl (by show Value.type "list" ≠ _; decide)) (fun q hq => .inl (by rw [hoc q hq]; decide))
    · rintro j c' t' m₁ nx h tk own' hc' ⟨rfl, t'', u, rfl⟩ hoff' F'' N'' hoc'
      have hst := colOf_take (size := 1 + i) (cs := row.cps.toList) (i := j) (c := c') (by simpa using hc')
      ((try ((with_reducible show wpAny _ _ _ _ _ _); k_fold)); repeat' (first | ((fail_if_success (with_reducible show wpAny _ _ (pyIter _) _ _ _)); (fail_if_success (with_reducible show wpAny _ _ (exec (Stmt.For _ _ _ _ _) _) _ _ _)); (fail_if_success (with_reducible show wpAny _ _ (eval (PySem.Expr.ListComp _ _ _ _) _) _ _ _)); (fail_if_success (with_reducible show wpAny _ _ (exec (Stmt.Assign _ (PySem.Expr.ListComp _ _ _ _) _) _) _ _ _)); (fail_if_success (with_reducible show wpAny _ _ (eval (PySem.Expr.Lambda _ _ _ _) _) _ _ _)); (fail_if_success (with_reducible show LCt.CompSrcT _ _ _ _ _ _ _ _ _ _ _ _ _ _ _)); (fail_if_success (with_reducible show LCg.CompSrc _ _ _ _ _ _ _ _ _ _ _ _ _ _)); (fail_if_success (with_reducible show LCg.CompEnd _ _ _ _ _ _ _ _ _ _ _ _ _ _)); first | (k_unfold; (try dsimp only)) | walk1 | (dsimp only; walk1))))
      · have hc9 : c' = 9 := tab_iff.mp (eq_of_beq (by assumption))
        have hst' : colOf (1 + i) (row.cps.toList.take (j + 1)) = colOf (1 + i) (row.cps.toList.take j) + (1 + i) - Int.fmod (colOf (1 + i) (row.cps.toList.take j)) (1 + i) := by rw [hst]; unfold colStep; rw [if_pos hc9]
        refine' TurnEnd.go (by assumption) (by assumption) ⟨rfl, _, _, ?mp⟩ ?c1 ?c2
        case mp => rw [hst']; ((funext y9; (try simp only [lkc, List.lookup_nil, List.reverse_cons, List.reverse_nil, List.nil_append, List.cons_append]); repeat' (first | rfl | contradiction | (refine ite_l (fun h9 => ?_) (fun h9 => ?_); (subst h9; first | rfl | contradiction)) | (refine ite_r (fun h9 => ?_) (fun h9 => ?_); first | contradiction | (subst h9; first | rfl | contradiction)))))
        case c1 => intro q hq; exact List.mem_append_left _ hq
        case c2 => intro q hq; exact List.mem_append_right _ hq
      · have hc9 : ¬ c' = 9 := fun e => absurd (tab_iff.mpr e) (ne_of_beq_false (by assumption))
        have hst' : colOf (1 + i) (row.cps.toList.take (j + 1)) = colOf (1 + i) (row.cps.toList.take j) + 1 := by rw [hst]; unfold colStep; rw [if_neg hc9]
        refine' TurnEnd.go (by assumption) (by assumption) ⟨rfl, _, _, ?mp⟩ ?c1 ?c2
        case mp => rw [hst']; ((funext y9; (try simp only [lkc, List.lookup_nil, List.reverse_cons, List.reverse_nil, List.nil_append, List.cons_append]); repeat' (first | rfl | contradiction | (refine ite_l (fun h9 => ?_) (fun h9 => ?_); (subst h9; first | rfl | contradiction)) | (refine ite_r (fun h9 => ?_) (fun h9 => ?_); first | contradiction | (subst h9; first | rfl | contradiction)))))
        case c1 => intro q hq; exact List.mem_append_left _ hq
        case c2 => intro q hq; exact List.mem_append_right _ hq
    · rintro m₁ nx h tk ⟨rfl, t', u, rfl⟩ F'' N''
      ((try ((with_reducible show wpAny _ _ _ _ _ _); k_fold)); repeat' (first | ((fail_if_success (with_reducible show wpAny _ _ (pyIter _) _ _ _)); (fail_if_success (with_reducible show wpAny _ _ (exec (Stmt.For _ _ _ _ _) _) _ _ _)); (fail_if_success (with_reducible show wpAny _ _ (eval (PySem.Expr.ListComp _ _ _ _) _) _ _ _)); (fail_if_success (with_reducible show wpAny _ _ (exec (Stmt.Assign _ (PySem.Expr.ListComp _ _ _ _) _) _) _ _ _)); (fail_if_success (with_reducible show wpAny _ _ (eval (PySem.Expr.Lambda _ _ _ _) _) _ _ _)); (fail_if_success (with_reducible show LCt.CompSrcT _ _ _ _ _ _ _ _ _ _ _ _ _ _ _)); (fail_if_success (with_reducible show LCg.CompSrc _ _ _ _ _ _ _ _ _ _ _ _ _ _)); (fail_if_success (with_reducible show LCg.CompEnd _ _ _ _ _ _ _ _ _ _ _ _ _ _)); first | (k_unfold; (try dsimp only)) | walk1 | (dsimp only; walk1))))
      have e1 : (colsOf row.cps.toList).take (i + 1) = (colsOf row.cps.toList).take i ++ [colOf (1 + i) row.cps.toList] := by
        rcases i with _ | _ | _ | _ | _ | i
        all_goals first | rfl | omega
      refine' TurnEnd.go (by assumption) (by assumption) (exI5 (ys.push (.int (colOf (1 + i) (row.cps.toList.take row.cps.size)) t')) (c + 1) _ _ _ ⟨rfl, ?a, ?mp⟩) ?c1 ?c2
      case mp => ((funext y9; (try simp only [lkc, List.lookup_nil, List.reverse_cons, List.reverse_nil, List.nil_append, List.cons_append]); repeat' (first | rfl | contradiction | (refine ite_l (fun h9 => ?_) (fun h9 => ?_); (subst h9; first | rfl | contradiction)) | (refine ite_r (fun h9 => ?_) (fun h9 => ?_); first | contradiction | (subst h9; first | rfl | contradiction)))))
      case a =>
        rw [e1, show row.cps.toList.take row.cps.size = row.cps.toList from List.take_of_length_le (Nat.le_of_eq Array.length_toList)]
        exact ints_push hy _ _
      case c1 => simp
      case c2 => intro q hq; exact List.mem_cons_of_mem _ hq
  · intro m₁ nx h tk zz9 F' N'
    (try ((with_reducible show wpAny _ _ _ _ _ _); k_fold))
    refine exE5 zz9 ?_
    clear zz9
    intro ys c u1 u2 u3 zz8
    refine anE3 zz8 ?_
    clear zz8
    rintro rfl hy rfl
    ((try ((with_reducible show wpAny _ _ _ _ _ _); k_fold)); repeat' (first | ((fail_if_success (with_reducible show wpAny _ _ (pyIter _) _ _ _)); (fail_if_success (with_reducible show wpAny _ _ (exec (Stmt.For _ _ _ _ _) _) _ _ _)); (fail_if_success (with_reducible show wpAny _ _ (eval (PySem.Expr.ListComp _ _ _ _) _) _ _ _)); (fail_if_success (with_reducible show wpAny _ _ (exec (Stmt.Assign _ (PySem.Expr.ListComp _ _ _ _) _) _) _ _ _)); (fail_if_success (with_reducible show wpAny _ _ (eval (PySem.Expr.Lambda _ _ _ _) _) _ _ _)); (fail_if_success (with_reducible show LCt.CompSrcT _ _ _ _ _ _ _ _ _ _ _ _ _ _ _)); (fail_if_success (with_reducible show LCg.CompSrc _ _ _ _ _ _ _ _ _ _ _ _ _ _)); (fail_if_success (with_reducible show LCg.CompEnd _ _ _ _ _ _ _ _ _ _ _ _ _ _)); first | (k_unfold; (try dsimp only)) | walk1 | (dsimp only; walk1))))
    exact Out.of (by assumption) ⟨[(D, listOf ys c)], Fresh.of_news N' (fun _ h => h), D, ys, c, rfl, rfl, hy⟩
theorem reads_il {h : Heap} {D : Addr} {vs : Array Value} {c : Nat} {ns : List Int} (e : h.get? D = some (listOf vs c)) (I : IntsAre vs.toList ns) : Reads h (.ref D) (.list (ns.map .int)) [D] := Reads.list e rfl rfl (reads_ints I)
theorem il_shaped (ns : List Int) : SeqAt.shaped (.list (ns.map .int)) = true := by
  unfold SeqAt.shaped
  simp [PyData.canLay0, PyData.depth, canLay_ints, depth_ints]
theorem il_eqv (a b : List Int) : PyData.eqv (.list (a.map .int)) (.list (b.map .int)) = decide (a = b) := by
  simp [PyData.eqv, ked_eqvAll]
noncomputable def belowP (lo hi : List Int) : Bool := (List.range 5).all fun k => decide (lo.getD k 0 < hi.getD k 0)

theorem below {A : Around} {s : Shared} {l l' : Addr} {vs vs' : List Value} {ns ns' : List Int} (G : Gr w p loose mean mg mb s.heap) (hl : s.heap.IsList l vs.toArray) (hi : IntsAre vs ns) (hl' : s.heap.IsList l' vs'.toArray) (hi' : IntsAre vs' ns') (hn : ns.length = 5) (hn' : ns'.length = 5) (R : Rm 12 A) :
    wpAny (model PR w) A (call (.ref 113) [.ref l, .ref l']) (Out s fun v _ => v = .bool (belowP ns ns')) NoE s := by
  obtain ⟨_, dp, fr, gd, un⟩ := A
  obtain ⟨hh, hd, hu⟩ := R
  cases hh
  dsimp only at hd hu
  refine wpAny_call ?_
  refine enterC [(Str.ofString "low", .ref l), (Str.ofString "high", .ref l')] G (Ledge.refl _) (by k_is) (by k_is) (rm00 hd) (BindsTo.of_eq rfl) rfl (by decide +kernel) ?_ rfl rfl rfl
  intro L' h₁ tk cells F N Y _
  have hY := CellsAre.two Y
  refine exE2 hY ?_
  clear hY
  intro o1 o2 zz8
  refine anE3 zz8 ?_
  clear zz8
  rintro rfl d1 d2
  replace d1 : o1.data = .cell (some (.ref l')) := d1
  replace d2 : o2.data = .cell (some (.ref l)) := d2
  clear Y
  simp only [List.cons_append, List.nil_append] at N
  have X := G.X
  have T := G.T
  ((try ((with_reducible show wpAny _ _ _ _ _ _); k_fold)); repeat' (first | ((fail_if_success (with_reducible show wpAny _ _ (pyIter _) _ _ _)); (fail_if_success (with_reducible show wpAny _ _ (exec (Stmt.For _ _ _ _ _) _) _ _ _)); (fail_if_success (with_reducible show wpAny _ _ (eval (PySem.Expr.ListComp _ _ _ _) _) _ _ _)); (fail_if_success (with_reducible show wpAny _ _ (exec (Stmt.Assign _ (PySem.Expr.ListComp _ _ _ _) _) _) _ _ _)); (fail_if_success (with_reducible show wpAny _ _ (eval (PySem.Expr.Lambda _ _ _ _) _) _ _ _)); (fail_if_success (with_reducible show LCt.CompSrcT _ _ _ _ _ _ _ _ _ _ _ _ _ _ _)); (fail_if_success (with_reducible show LCg.CompSrc _ _ _ _ _ _ _ _ _ _ _ _ _ _)); (fail_if_success (with_reducible show LCg.CompEnd _ _ _ _ _ _ _ _ _ _ _ _ _ _)); first | (k_unfold; (try dsimp only)) | walk1 | (dsimp only; walk1))))
  refine LCt.ListComp_T (F₀ := by k_asm) (by with_unfolding_all rfl) (by decide) (by rfl) (by decide) (by rfl) ?_
  ((try ((with_reducible show wpAny _ _ _ _ _ _); k_fold)); repeat' (first | ((fail_if_success (with_reducible show wpAny _ _ (pyIter _) _ _ _)); (fail_if_success (with_reducible show wpAny _ _ (exec (Stmt.For _ _ _ _ _) _) _ _ _)); (fail_if_success (with_reducible show wpAny _ _ (eval (PySem.Expr.ListComp _ _ _ _) _) _ _ _)); (fail_if_success (with_reducible show wpAny _ _ (exec (Stmt.Assign _ (PySem.Expr.ListComp _ _ _ _) _) _) _ _ _)); (fail_if_success (with_reducible show wpAny _ _ (eval (PySem.Expr.Lambda _ _ _ _) _) _ _ _)); (fail_if_success (with_reducible show LCt.CompSrcT _ _ _ _ _ _ _ _ _ _ _ _ _ _ _)); (fail_if_success (with_reducible show LCg.CompSrc _ _ _ _ _ _ _ _ _ _ _ _ _ _)); (fail_if_success (with_reducible show LCg.CompEnd _ _ _ _ _ _ _ _ _ _ _ _ _ _)); first | (k_unfold; (try dsimp only)) | walk1 | (dsimp only; walk1))))
  refine LCt.CompSrcT.range (by rfl) (by k_asm) (by k_asm) (by assumption) (by decide) (n := 5) (by decide) (by decide) ?_
  intro g'
  refine restT 5 (fun i ys news => news = [(L' + 1 + 1, o1), (L' + 1, o2)] ∧ ∃ ks, IntsAre ys ks ∧ decide (ks = []) = (List.range i).all fun k => decide (ns.getD k 0 < ns'.getD k 0)) ?_ ?_ 5 0 [] _ rfl ⟨rfl, [], .nil, rfl⟩
  · rintro ys news ⟨rfl, ks, hks, hall⟩
    ((try ((with_reducible show wpAny _ _ _ _ _ _); k_fold)); repeat' (first | ((fail_if_success (with_reducible show wpAny _ _ (pyIter _) _ _ _)); (fail_if_success (with_reducible show wpAny _ _ (exec (Stmt.For _ _ _ _ _) _) _ _ _)); (fail_if_success (with_reducible show wpAny _ _ (eval (PySem.Expr.ListComp _ _ _ _) _) _ _ _)); (fail_if_success (with_reducible show wpAny _ _ (exec (Stmt.Assign _ (PySem.Expr.ListComp _ _ _ _) _) _) _ _ _)); (fail_if_success (with_reducible show wpAny _ _ (eval (PySem.Expr.Lambda _ _ _ _) _) _ _ _)); (fail_if_success (with_reducible show LCt.CompSrcT _ _ _ _ _ _ _ _ _ _ _ _ _ _ _)); (fail_if_success (with_reducible show LCg.CompSrc _ _ _ _ _ _ _ _ _ _ _ _ _ _)); (fail_if_success (with_reducible show LCg.CompEnd _ _ _ _ _ _ _ _ _ _ _ _ _ _)); first | (k_unfold; (try dsimp only)) | walk1 | (dsimp only; walk1))))
    refine Out.of (by assumption) ?_
    rw [hall]; rfl
  · rintro i v ys news hi9 ⟨rfl, ks, hks, hall⟩ zz9 I oI C oC D m₂ h tk E' hC hx F' N' off ne
    (try ((with_reducible show wpAny _ _ _ _ _ _); k_fold))
    refine exE1 zz9 ?_
    clear zz9
    rintro t rfl
    have e0 : (0 + (i : Int)).toNat = i := by omega
    ((try ((with_reducible show wpAny _ _ _ _ _ _); k_fold)); repeat' (first | ((fail_if_success (with_reducible show wpAny _ _ (pyIter _) _ _ _)); (fail_if_success (with_reducible show wpAny _ _ (exec (Stmt.For _ _ _ _ _) _) _ _ _)); (fail_if_success (with_reducible show wpAny _ _ (eval (PySem.Expr.ListComp _ _ _ _) _) _ _ _)); (fail_if_success (with_reducible show wpAny _ _ (exec (Stmt.Assign _ (PySem.Expr.ListComp _ _ _ _) _) _) _ _ _)); (fail_if_success (with_reducible show wpAny _ _ (eval (PySem.Expr.Lambda _ _ _ _) _) _ _ _)); (fail_if_success (with_reducible show LCt.CompSrcT _ _ _ _ _ _ _ _ _ _ _ _ _ _ _)); (fail_if_success (with_reducible show LCg.CompSrc _ _ _ _ _ _ _ _ _ _ _ _ _ _)); (fail_if_success (with_reducible show LCg.CompEnd _ _ _ _ _ _ _ _ _ _ _ _ _ _)); first | (k_unfold; (try dsimp only)) | walk1 | (dsimp only; walk1))))
    · rename_i hge
      refine LCg.CompEnd.intro (by assumption) N' _ (fun _ h => h) off trivial ⟨rfl, ks ++ [0 + (i : Int)], ints_snoc hks _ _, ?_⟩
      rw [List.range_succ, List.all_append]
      simp only [List.all_cons, List.all_nil, Bool.and_true]
      rw [e0] at hge
      rw [decide_eq_false (p := ns.getD i 0 < ns'.getD i 0) (by omega), Bool.and_false]
      simp
    · rename_i hge
      refine LCg.CompEnd.intro (by assumption) N' _ (fun _ h => h) off trivial ⟨rfl, ks, hks, ?_⟩
      rw [List.range_succ, List.all_append]
      simp only [List.all_cons, List.all_nil, Bool.and_true]
      rw [e0] at hge
      rw [decide_eq_true (p := ns.getD i 0 < ns'.getD i 0) (by omega), Bool.and_true]
      exact hall
/-- a drawn row -/
noncomputable def rowOf (x : Int) : Str := Txt.mul (Str.ofString " ") ((x.fmod 54).fmod 3) ++ Txt.mul (Str.ofString "\t") (((x.fmod 54).fdiv 3).fmod 3) ++ Txt.mul (Str.ofString " ") (((x.fmod 54).fdiv 9).fmod 3) ++ Txt.mul (Str.ofString "\t") ((x.fmod 54).fdiv 27)
noncomputable def rows4 : List Str := [Str.ofString "  ", Str.ofString "\t \t", Str.ofString "   \t  ", Str.ofString " \t\t"]
noncomputable def rowsOf (ns : List Int) : List Str := rows4 ++ (ns.take 4).map rowOf
/-- a new list of texts -/
noncomputable def StrList (v : Value) (nw : List (Addr × Obj)) (ns : List Str) : Prop := ∃ (D : Addr) (vs : Array Value) (c : Nat), v = .ref D ∧ nw = [(D, listOf vs c)] ∧ StrsAre vs.toList ns
theorem strs_push {vs : Array Value} {ns : List Str} (h : StrsAre vs.toList ns) (n : Str) (t : Tok) : StrsAre (vs.push (.str n t)).toList (ns ++ [n]) := by
  rw [Array.toList_push]; exact StrsAre.append' h (.cons _ _ .nil)

theorem rows {A : Around} {s : Shared} {l : Addr} {vs : List Value} {ns : List Int} (G : Gr w p loose mean mg mb s.heap) (hl : s.heap.IsList l vs.toArray) (hi : IntsAre vs ns) (hn : ns.length < 1000) (R : Rm 12 A) :
    wpAny (model PR w) A (call (.ref 101) [.ref l]) (Out s fun v h => ∃ nw, Fresh s.heap h nw ∧ StrList v nw (rowsOf ns)) NoE s := by
  obtain ⟨_, dp, fr, gd, un⟩ := A
  obtain ⟨hh, hd, hu⟩ := R
  cases hh
  dsimp only at hd hu
  refine wpAny_call ?_
  refine enter [(Str.ofString "script", .ref l)] G (by k_is) (by k_is) (rm00 hd) (BindsTo.of_eq rfl) (locs rfl) ?_ (by decide) rfl rfl rfl
  intro L' h₁ F N
  have X := G.X
  have T := G.T
  ((try ((with_reducible show wpAny _ _ _ _ _ _); k_fold)); repeat' (first | ((fail_if_success (with_reducible show wpAny _ _ (pyIter _) _ _ _)); (fail_if_success (with_reducible show wpAny _ _ (exec (Stmt.For _ _ _ _ _) _) _ _ _)); (fail_if_success (with_reducible show wpAny _ _ (eval (PySem.Expr.ListComp _ _ _ _) _) _ _ _)); (fail_if_success (with_reducible show wpAny _ _ (exec (Stmt.Assign _ (PySem.Expr.ListComp _ _ _ _) _) _) _ _ _)); (fail_if_success (with_reducible show wpAny _ _ (eval (PySem.Expr.Lambda _ _ _ _) _) _ _ _)); (fail_if_success (with_reducible show LCt.CompSrcT _ _ _ _ _ _ _ _ _ _ _ _ _ _ _)); (fail_if_success (with_reducible show LCg.CompSrc _ _ _ _ _ _ _ _ _ _ _ _ _ _)); (fail_if_success (with_reducible show LCg.CompEnd _ _ _ _ _ _ _ _ _ _ _ _ _ _)); first | (k_unfold; (try dsimp only)) | walk1 | (dsimp only; walk1))))
  refine For_invV s.heap rfl rfl ?_
  ((try ((with_reducible show wpAny _ _ _ _ _ _); k_fold)); repeat' (first | ((fail_if_success (with_reducible show wpAny _ _ (pyIter _) _ _ _)); (fail_if_success (with_reducible show wpAny _ _ (exec (Stmt.For _ _ _ _ _) _) _ _ _)); (fail_if_success (with_reducible show wpAny _ _ (eval (PySem.Expr.ListComp _ _ _ _) _) _ _ _)); (fail_if_success (with_reducible show wpAny _ _ (exec (Stmt.Assign _ (PySem.Expr.ListComp _ _ _ _) _) _) _ _ _)); (fail_if_success (with_reducible show wpAny _ _ (eval (PySem.Expr.Lambda _ _ _ _) _) _ _ _)); (fail_if_success (with_reducible show LCt.CompSrcT _ _ _ _ _ _ _ _ _ _ _ _ _ _ _)); (fail_if_success (with_reducible show LCg.CompSrc _ _ _ _ _ _ _ _ _ _ _ _ _ _)); (fail_if_success (with_reducible show LCg.CompEnd _ _ _ _ _ _ _ _ _ _ _ _ _ _)); first | (k_unfold; (try dsimp only)) | walk1 | (dsimp only; walk1))))
  rename_i l' _ _ _ D' ws' _ F0 N0 hI' hC' hL' l1'
  refine iterOwn (fun i m nx => ∃ (ys : Array Value) (c : Nat) (u1 u2 : Option Value), nx = [(l', listOf ys c)] ∧ ys.size = 4 + i ∧ StrsAre ys.toList (rows4 ++ ((ns.take 4).take i).map rowOf) ∧
      m = fun y => if y = Str.ofString "x" then u1 else if y = Str.ofString "y" then u2 else List.lookup y [(Str.ofString "rows", .ref l'), (Str.ofString "script", .ref l)]) rfl F0 N0 ?_ ?_ ?_ ?_
  · refine' (exI4 _ _ none none ⟨rfl, rfl, .cons _ _ (.cons _ _ (.cons _ _ (.cons _ _ .nil))), ?mp⟩)
    case mp => ((funext y9; (try simp only [lkc, List.lookup_nil, List.reverse_cons, List.reverse_nil, List.nil_append, List.cons_append]); repeat' (first | rfl | contradiction | (refine ite_l (fun h9 => ?_) (fun h9 => ?_); (subst h9; first | rfl | contradiction)) | (refine ite_r (fun h9 => ?_) (fun h9 => ?_); first | contradiction | (subst h9; first | rfl | contradiction)))))
  · intro i m nx zz9 q hq
    refine exE4 zz9 ?_
    clear zz9
    intro ys c u1 u2 zz8
    refine anE2 zz8 ?_
    clear zz8
    rintro rfl _
    rw [List.mem_singleton.mp hq]; exact .inl (by show Value.type "list" ≠ _; decide)
  · intro i v m₁ nx h tk own hv zz9 hoff F' N' hoc
    (try ((with_reducible show wpAny _ _ _ _ _ _); k_fold))
    refine exE4 zz9 ?_
    clear zz9
    intro ys c u1 u2 zz8
    refine anE4 zz8 ?_
    clear zz8
    rintro rfl hz hy rfl
    have hin : i < (ns.take 4).length := by
      have := (List.getElem?_eq_some_iff.mp hv).1
      rw [hI'.length] at this; exact this
    obtain ⟨t, ht⟩ := hI'.get i (ns.take 4)[i] (List.getElem?_eq_getElem hin)
    rw [ht] at hv
    obtain rfl := Option.some.inj hv
    simp only [List.cons_append, List.nil_append] at N'
    ((try ((with_reducible show wpAny _ _ _ _ _ _); k_fold)); repeat' (first | ((fail_if_success (with_reducible show wpAny _ _ (pyIter _) _ _ _)); (fail_if_success (with_reducible show wpAny _ _ (exec (Stmt.For _ _ _ _ _) _) _ _ _)); (fail_if_success (with_reducible show wpAny _ _ (eval (PySem.Expr.ListComp _ _ _ _) _) _ _ _)); (fail_if_success (with_reducible show wpAny _ _ (exec (Stmt.Assign _ (PySem.Expr.ListComp _ _ _ _) _) _) _ _ _)); (fail_if_success (with_reducible show wpAny _ _ (eval (PySem.Expr.Lambda _ _ _ _) _) _ _ _)); (fail_if_success (with_reducible show LCt.CompSrcT _ _ _ _ _ _ _ _ _ _ _ _ _ _ _)); (fail_if_success (with_reducible show LCg.CompSrc _ _ _ _ _ _ _ _ _ _ _ _ _ _)); (fail_if_success (with_reducible show LCg.CompEnd _ _ _ _ _ _ _ _ _ _ _ _ _ _)); first | (k_unfold; (try dsimp only)) | walk1 | (dsimp only; walk1))))
    rename_i t9 _ _ _ F9 N9
    have e1 : ((ns.take 4).take (i + 1)).map rowOf = ((ns.take 4).take i).map rowOf ++ [rowOf (ns.take 4)[i]] := by
      rw [List.take_add_one, List.getElem?_eq_getElem hin, List.map_append]; rfl
    refine' TurnEnd.go (by assumption) (by assumption) (exI4 (ys.push (.str (rowOf (ns.take 4)[i]) t9)) (c + 1) _ _ ⟨rfl, ?b, ?a, ?mp⟩) ?c1 ?c2
    case c1 => exact List.forall_mem_singleton.mpr (.tail _ (.head _))
    case c2 =>
      exact alC (.head _) (fun q hq => .tail _ (.tail _ hq))
    case mp => ((funext y9; (try simp only [lkc, List.lookup_nil, List.reverse_cons, List.reverse_nil, List.nil_append, List.cons_append]); repeat' (first | rfl | contradiction | (refine ite_l (fun h9 => ?_) (fun h9 => ?_); (subst h9; first | rfl | contradiction)) | (refine ite_r (fun h9 => ?_) (fun h9 => ?_); first | contradiction | (subst h9; first | rfl | contradiction)))))
    case b => rw [Array.size_push, hz]; omega
    case a =>
      rw [e1, ← List.append_assoc]
      exact strs_push hy _ _
  · intro m₁ nx h tk zz9 F' N'
    (try ((with_reducible show wpAny _ _ _ _ _ _); k_fold))
    refine exE4 zz9 ?_
    clear zz9
    intro ys c u1 u2 zz8
    refine anE4 zz8 ?_
    clear zz8
    rintro rfl hz hy rfl
    ((try ((with_reducible show wpAny _ _ _ _ _ _); k_fold)); repeat' (first | ((fail_if_success (with_reducible show wpAny _ _ (pyIter _) _ _ _)); (fail_if_success (with_reducible show wpAny _ _ (exec (Stmt.For _ _ _ _ _) _) _ _ _)); (fail_if_success (with_reducible show wpAny _ _ (eval (PySem.Expr.ListComp _ _ _ _) _) _ _ _)); (fail_if_success (with_reducible show wpAny _ _ (exec (Stmt.Assign _ (PySem.Expr.ListComp _ _ _ _) _) _) _ _ _)); (fail_if_success (with_reducible show wpAny _ _ (eval (PySem.Expr.Lambda _ _ _ _) _) _ _ _)); (fail_if_success (with_reducible show LCt.CompSrcT _ _ _ _ _ _ _ _ _ _ _ _ _ _ _)); (fail_if_success (with_reducible show LCg.CompSrc _ _ _ _ _ _ _ _ _ _ _ _ _ _)); (fail_if_success (with_reducible show LCg.CompEnd _ _ _ _ _ _ _ _ _ _ _ _ _ _)); first | (k_unfold; (try dsimp only)) | walk1 | (dsimp only; walk1))))
    refine Out.of (by assumption) ⟨[(l', listOf ys c)], Fresh.of_news N' (fun q h => List.mem_cons_of_mem _ h), l', ys, c, rfl, rfl, ?_⟩
    rw [hI'.length, List.take_of_length_le (Nat.le_refl _)] at hy
    exact hy
/-- reading a row: (count, b, n, nt) -/
noncomputable def wsStep (st : List Int × Int × Int × Int) (c : Nat) : List Int × Int × Int × Int :=
  if c = 32 then (st.1, st.2.1 + 1, st.2.2.1 + 1, st.2.2.2)
  else
    let cnt := if (st.1.length : Int) ≤ st.2.1 then st.1 ++ (List.replicate (st.2.1 - st.1.length + 1).toNat [0]).flatten else st.1
    (cnt.set st.2.1.toNat (cnt.getD st.2.1.toNat 0 + 1), 0, st.2.2.1 + 1, st.2.2.2 + 1)
noncomputable def wsGo : List Nat → List Int × Int × Int × Int → List Int × Int × Int × Int
  | [], st => st
  | c :: r, st => if c = 32 ∨ c = 9 then wsGo r (wsStep st c) else st
noncomputable def mkOf (raw : Str) : Mk :=
  let st := wsGo raw.cps.toList ([], 0, 0, 0)
  ⟨raw, st.2.2.1, st.2.2.2, st.1, st.2.1, decide ((st.1.length : Int) ≤ 1)⟩

theorem wsGo_step {cs : List Nat} {i c : Nat} {st : List Int × Int × Int × Int} (h : cs[i]? = some c) (hc : c = 32 ∨ c = 9) : wsGo (cs.drop i) st = wsGo (cs.drop (i + 1)) (wsStep st c) := by
  obtain ⟨hi, e⟩ := List.getElem?_eq_some_iff.mp h
  rw [List.drop_eq_getElem_cons hi, e]
  show (if c = 32 ∨ c = 9 then _ else _) = _
  rw [if_pos hc]
theorem wsGo_stop {cs : List Nat} {i c : Nat} {st : List Int × Int × Int × Int} (h : cs[i]? = some c) (hc : ¬ (c = 32 ∨ c = 9)) : wsGo (cs.drop i) st = st := by
  obtain ⟨hi, e⟩ := List.getElem?_eq_some_iff.mp h
  rw [List.drop_eq_getElem_cons hi, e]
  show (if c = 32 ∨ c = 9 then _ else _) = _
  rw [if_neg hc]
theorem blank_iff {c : Nat} : ((⟨#[c]⟩ : Str) = Str.ofString " ") ↔ c = 32 := by
  rw [show Str.ofString " " = ⟨#[32]⟩ from by decide +kernel]
  constructor
  · intro h; injection h with h; injection h with h; injection h
  · intro h; rw [h]
theorem obj_ne {h₀ h : Heap} {L a b : Addr} {o o' : Obj} {news : List (Addr × Obj)} (N : News h₀ L h news) (h1 : (a, o) ∈ news) (h2 : (b, o') ∈ news) (hc : o.cls ≠ o'.cls) : @Ne Nat a b := fun e => by
  have e1 := (N _ h1).1
  have e2 := (N _ h2).1
  simp only at e1 e2
  rw [show a = b from e, e2] at e1
  exact hc (by rw [Option.some.inj e1])
theorem news_drop2 {h₀ h : Heap} {L : Addr} {a b : Addr × Obj} {r : List (Addr × Obj)} (N : News h₀ L h (a :: b :: r)) : News h₀ L h (a :: r) := fun q hq => N q (by
  revert q
  exact alC (.head _) (fun q hq => .tail _ (.tail _ hq)))
theorem all4 {α : Type} {P : α → Prop} {a b c d : α} (h1 : P a) (h2 : P b) (h3 : P c) (h4 : P d) : ∀ q ∈ [a, b, c, d], P q := fun q hq => by
  simp only [List.mem_cons, List.mem_nil_iff, or_false] at hq
  rcases hq with rfl | rfl | rfl | rfl
  · exact h1
  · exact h2
  · exact h3
  · exact h4
theorem mk_of {h : Heap} {x dx tn tc : Addr} {raw : Str} {cnt : List Int} {b n nt : Int} {t1 t2 t3 t4 t5 t6 t7 t8 tb : Tok} {k e1 e2 : Nat} {cv : List Value} (hgo : (cnt, b, n, nt) = wsGo raw.cps.toList ([], 0, 0, 0)) (hI : IntsAre cv cnt)
    (h1 : h.get? x = some (instObj 90 dx)) (h2 : h.get? dx = some (dictOf [entry w "raw" t1 (.str raw t2), entry w "n" t3 (.int n t4), entry w "nt" t5 (.int nt t6), entry w "norm" t7 (.ref tn), entry w "is_simple" t8 (.bool (decide ((cnt.length : Int) ≤ 1)))] k))
    (h3 : h.get? tn = some (tupOf [.ref tc, .int b tb] e1)) (h4 : h.get? tc = some (tupOf cv e2)) : IsMk w h x (mkOf raw) := by
  have hk : mkOf raw = ⟨raw, n, nt, cnt, b, decide ((cnt.length : Int) ≤ 1)⟩ := by unfold mkOf; rw [← hgo]
  rw [hk]
  exact ⟨dx, tn, tc, t1, t2, t3, t4, t5, t6, t7, t8, k, tb, cv, e1, e2, h1, h2, h3, h4, hI⟩
section
theorem makeMk {A : Around} {s : Shared} {raw : Str} {tr : Tok} (G : Gr w p loose mean mg mb s.heap) (ha : raw.cps.all (· < 128) = true) (hn : raw.cps.size < 1000) (R : Rm 12 A) :
    wpAny (model PR w) A (call (.ref 90) [.str raw tr]) (Out s fun v h => ∃ nw, Fresh s.heap h nw ∧ (∀ q ∈ nw, NotIt (.type "list_iterator") q.2) ∧ ∃ x, v = .ref x ∧ ∀ h', (∀ q ∈ nw, h'.get? q.1 = some q.2) → IsMk w h' x (mkOf raw)) NoE s := by
  refine wpAny_call ?_
  obtain ⟨hp, g, d, tk0, os⟩ := s
  have X := G.X
  have T := G.T
  refine make_core (makes_of X (by k_is)) (looks_findIn X (by k_is)) (fun self => bind_fn X self (by k_is)) (.inl rfl) ?_
  obtain ⟨_, dp, fr, gd, un⟩ := A
  obtain ⟨hh, hd, hu⟩ := R
  cases hh
  dsimp only at hd hu
  obtain ⟨fr', gd', un', eA, hun⟩ : ∃ fr' gd' un', ({ handled := none, depth := dp, frames := fr, guards := gd, units := un } : Around).under (.builtin "type.__call__" ⟨[.ref 90, .str raw tr], []⟩) = { handled := none, depth := dp + 1, frames := fr', guards := gd', units := un' } ∧ un' ≤ un + 8 := ⟨_, _, _, rfl, Nat.add_le_add_left (show (1 : Nat) ≤ 8 from by decide) _⟩
  rw [eA]
  have D : Ledge hp ((hp.push (dictOf [] 0)).push (instObj 90 hp.objs.size)) [(hp.objs.size + 1, instObj 90 hp.objs.size), (hp.objs.size, dictOf [] 0)] := by
    have e1 : (hp.push (dictOf [] 0)).objs.size = hp.objs.size + 1 := Heap.size_push ..
    refine ⟨fun b o e => Heap.get?_push_of_some _ (Heap.get?_push_of_some _ e), ?_, ?_⟩
    · rw [Heap.size_push, e1]; omega
    · intro q hq
      rcases List.mem_cons.mp hq with rfl | hq
      · refine ⟨?_, Heap.get?_none_of_le (Nat.le_succ _)⟩
        show ((hp.push (dictOf [] 0)).push (instObj 90 hp.objs.size)).get? (hp.objs.size + 1) = _
        rw [← e1]; exact Heap.get?_push_size _ rfl
      · rw [List.mem_singleton.mp hq]
        exact ⟨Heap.get?_push_of_some _ (Heap.get?_push_size _ rfl), Heap.get?_none_of_le (Nat.le_refl _)⟩
  refine enterG [(Str.ofString "self", .ref (hp.objs.size + 1)), (Str.ofString "ws", .str raw tr)] G D (by k_is) (by k_is) (by simp only; omega) (BindsTo.of_eq rfl) (locs rfl) ?_ (by decide) rfl rfl rfl
  intro L' h₁ F N l0
  k_lt l0
  have hx0 : @LT.lt Nat _ hp.objs.size (hp.objs.size + 1) := Nat.lt_succ_self _
  generalize hx : hp.objs.size + 1 = x at *
  generalize hdx : hp.objs.size = dx at *
  ((try ((with_reducible show wpAny _ _ _ _ _ _); k_fold)); repeat' (first | ((fail_if_success (with_reducible show wpAny _ _ (pyIter _) _ _ _)); (fail_if_success (with_reducible show wpAny _ _ (exec (Stmt.For _ _ _ _ _) _) _ _ _)); (fail_if_success (with_reducible show wpAny _ _ (eval (PySem.Expr.ListComp _ _ _ _) _) _ _ _)); (fail_if_success (with_reducible show wpAny _ _ (exec (Stmt.Assign _ (PySem.Expr.ListComp _ _ _ _) _) _) _ _ _)); (fail_if_success (with_reducible show wpAny _ _ (eval (PySem.Expr.Lambda _ _ _ _) _) _ _ _)); (fail_if_success (with_reducible show LCt.CompSrcT _ _ _ _ _ _ _ _ _ _ _ _ _ _ _)); (fail_if_success (with_reducible show LCg.CompSrc _ _ _ _ _ _ _ _ _ _ _ _ _ _)); (fail_if_success (with_reducible show LCg.CompEnd _ _ _ _ _ _ _ _ _ _ _ _ _ _)); first | (k_unfold; (try dsimp only)) | walk1 | (dsimp only; walk1))))
  refine For_invV hp rfl rfl ?_
  ((try ((with_reducible show wpAny _ _ _ _ _ _); k_fold)); repeat' (first | ((fail_if_success (with_reducible show wpAny _ _ (pyIter _) _ _ _)); (fail_if_success (with_reducible show wpAny _ _ (exec (Stmt.For _ _ _ _ _) _) _ _ _)); (fail_if_success (with_reducible show wpAny _ _ (eval (PySem.Expr.ListComp _ _ _ _) _) _ _ _)); (fail_if_success (with_reducible show wpAny _ _ (exec (Stmt.Assign _ (PySem.Expr.ListComp _ _ _ _) _) _) _ _ _)); (fail_if_success (with_reducible show wpAny _ _ (eval (PySem.Expr.Lambda _ _ _ _) _) _ _ _)); (fail_if_success (with_reducible show LCt.CompSrcT _ _ _ _ _ _ _ _ _ _ _ _ _ _ _)); (fail_if_success (with_reducible show LCg.CompSrc _ _ _ _ _ _ _ _ _ _ _ _ _ _)); (fail_if_success (with_reducible show LCg.CompEnd _ _ _ _ _ _ _ _ _ _ _ _ _ _)); first | (k_unfold; (try dsimp only)) | walk1 | (dsimp only; walk1))))
  rename_i D' _ l1' _ _ _ _ ac _ l2' _ _ _ _ F0 N0
  have N1 := news_drop2 N0
  refine iterText (fun i m nx => ∃ (ac : Addr) (cv : Array Value) (c : Nat) (cnt : List Int) (b n nt : Int) (tb tn tnt : Tok) (t0 : Tok) (u : Option Value), nx = [(ac, listOf cv c), (x, instObj 90 dx), (dx, dictOf [⟨PyData.keyHash w.params (Str.ofString "raw"), .str (Str.ofString "raw") t0, .str raw tr⟩] 1)] ∧
      @LT.lt Nat _ x ac ∧ IntsAre cv.toList cnt ∧ wsGo (raw.cps.toList.drop i) (cnt, b, n, nt) = wsGo raw.cps.toList ([], 0, 0, 0) ∧ 0 ≤ b ∧ b ≤ i ∧ cnt.length ≤ i + 1 ∧
      m = fun y => if y = Str.ofString "ch" then u else List.lookup y [(Str.ofString "nt", .int nt tnt), (Str.ofString "n", .int n tn), (Str.ofString "b", .int b tb), (Str.ofString "count", .ref ac), (Str.ofString "S", .str (Str.ofString " ") 222), (Str.ofString "T", .str (Str.ofString "\t") 223), (Str.ofString "ws", .str raw tr), (Str.ofString "self", .ref x)]) rfl ha F0 N1 ?_ ?_ ?_ ?_
  · refine' (exI12 ac #[] 0 [] 0 0 0 _ _ _ _ none ⟨rfl, by omega, .nil, rfl, by omega, by omega, by simp, ?mp⟩)
    case mp => ((funext y9; (try simp only [lkc, List.lookup_nil, List.reverse_cons, List.reverse_nil, List.nil_append, List.cons_append]); repeat' (first | rfl | contradiction | (refine ite_l (fun h9 => ?_) (fun h9 => ?_); (subst h9; first | rfl | contradiction)) | (refine ite_r (fun h9 => ?_) (fun h9 => ?_); first | contradiction | (subst h9; first | rfl | contradiction)))))
  · intro i m nx zz9 q hq
    refine exE12 zz9 ?_
    clear zz9
    intro ac cv c cnt b n nt tb tn tnt t0 u zz8
    refine anE2 zz8 ?_
    clear zz8
    rintro rfl _
    revert q
    exact alC (.inl (by show Value.type "list" ≠ _; decide)) (alC (.inl (by show Value.ref 90 ≠ _; decide)) (alC (.inl (by show Value.type "dict" ≠ _; decide)) alN))
  · intro i ch t m₁ nx h tk own hv zz9 hoff F' N' hoc
    (try ((with_reducible show wpAny _ _ _ _ _ _); k_fold))
    refine exE12 zz9 ?_
    clear zz9
    intro ac cv c cnt b n nt tb tn tnt t0 u zz8
    refine anE8 zz8 ?_
    clear zz8
    rintro rfl hac hI hgo hb0 hbi hlen rfl
    simp only [List.cons_append, List.nil_append] at N'
    have hli := hI.length
    have hii : i < raw.cps.size := (Array.getElem?_eq_some_iff.mp hv).1
    simp only [Array.length_toList] at hli
    have hv' : raw.cps.toList[i]? = some ch := by simpa using hv
    ((try ((with_reducible show wpAny _ _ _ _ _ _); k_fold)); repeat' (first | ((fail_if_success (with_reducible show wpAny _ _ (pyIter _) _ _ _)); (fail_if_success (with_reducible show wpAny _ _ (exec (Stmt.For _ _ _ _ _) _) _ _ _)); (fail_if_success (with_reducible show wpAny _ _ (eval (PySem.Expr.ListComp _ _ _ _) _) _ _ _)); (fail_if_success (with_reducible show wpAny _ _ (exec (Stmt.Assign _ (PySem.Expr.ListComp _ _ _ _) _) _) _ _ _)); (fail_if_success (with_reducible show wpAny _ _ (eval (PySem.Expr.Lambda _ _ _ _) _) _ _ _)); (fail_if_success (with_reducible show LCt.CompSrcT _ _ _ _ _ _ _ _ _ _ _ _ _ _ _)); (fail_if_success (with_reducible show LCg.CompSrc _ _ _ _ _ _ _ _ _ _ _ _ _ _)); (fail_if_success (with_reducible show LCg.CompEnd _ _ _ _ _ _ _ _ _ _ _ _ _ _)); first | (k_unfold; (try dsimp only)) | walk1 | (dsimp only; walk1))))
    · have hc : ch = 32 := blank_iff.mp (eq_of_beq (by assumption))
      rw [wsGo_step hv' (.inl hc), hc] at hgo
      (rename News _ _ _ _ => N9)
      (rename Fr _ _ _ _ => F9)
      exact TurnEnd.go F9 N9 (exI12 _ _ _ _ (b + 1) (n + 1) nt _ _ _ _ _ ⟨rfl, hac, hI, hgo, by omega, by omega, by omega, by ((funext y9; (try simp only [lkc, List.lookup_nil, List.reverse_cons, List.reverse_nil, List.nil_append, List.cons_append]); repeat' (first | rfl | contradiction | (refine ite_l (fun h9 => ?_) (fun h9 => ?_); (subst h9; first | rfl | contradiction)) | (refine ite_r (fun h9 => ?_) (fun h9 => ?_); first | contradiction | (subst h9; first | rfl | contradiction)))))⟩) (mem3 (.head _) (.tail _ (.head _)) (.tail _ (.tail _ (.head _)))) (fun q hq => .tail _ (.tail _ (.tail _ hq)))
    · have hc : ch = 9 := tab_iff.mp (eq_of_beq (by assumption))
      have hb : (cnt.length : Int) ≤ b := by assumption
      rw [wsGo_step hv' (.inr hc), hc] at hgo
      have est : wsStep (cnt, b, n, nt) 9 = ((cnt ++ (List.replicate (b - cnt.length + 1).toNat [0]).flatten).set b.toNat ((cnt ++ (List.replicate (b - cnt.length + 1).toNat [0]).flatten).getD b.toNat 0 + 1), 0, n + 1, nt + 1) := by
        unfold wsStep
        rw [if_neg (by decide)]
        simp only
        rw [if_pos hb]
      rw [est] at hgo
      have hl9 : ((cnt ++ (List.replicate (b - cnt.length + 1).toNat [(0 : Int)]).flatten).set b.toNat ((cnt ++ (List.replicate (b - cnt.length + 1).toNat [(0 : Int)]).flatten).getD b.toNat 0 + 1)).length ≤ i + 1 + 1 := by
        rw [List.length_set, List.length_append]; omega
      (rename News _ _ _ _ => N9)
      (rename Fr _ _ _ _ => F9)
      (rename IntsAre _ _ => hI9)
      exact TurnEnd.go F9 N9 (exI12 _ _ _ _ 0 (n + 1) (nt + 1) _ _ _ _ _ ⟨rfl, by omega, hI9, hgo, by omega, by omega, hl9, by ((funext y9; (try simp only [lkc, List.lookup_nil, List.reverse_cons, List.reverse_nil, List.nil_append, List.cons_append]); repeat' (first | rfl | contradiction | (refine ite_l (fun h9 => ?_) (fun h9 => ?_); (subst h9; first | rfl | contradiction)) | (refine ite_r (fun h9 => ?_) (fun h9 => ?_); first | contradiction | (subst h9; first | rfl | contradiction)))))⟩) (mem3 (.head _) (.tail _ (.tail _ (.tail _ (.tail _ (.head _))))) (.tail _ (.tail _ (.tail _ (.tail _ (.tail _ (.head _))))))) (fun q hq => .tail _ (.tail _ (.tail _ (.tail _ (.tail _ (.tail _ hq))))))
    · have hc : ch = 9 := tab_iff.mp (eq_of_beq (by assumption))
      have hb : ¬ (cnt.length : Int) ≤ b := by assumption
      rw [wsGo_step hv' (.inr hc), hc] at hgo
      have est : wsStep (cnt, b, n, nt) 9 = (cnt.set b.toNat (cnt.getD b.toNat 0 + 1), 0, n + 1, nt + 1) := by
        unfold wsStep
        rw [if_neg (by decide)]
        simp only
        rw [if_neg hb]
      rw [est] at hgo
      have hl9 : (cnt.set b.toNat (cnt.getD b.toNat 0 + 1)).length ≤ i + 1 + 1 := by
        rw [List.length_set]; omega
      (rename News _ _ _ _ => N9)
      (rename Fr _ _ _ _ => F9)
      (rename IntsAre _ _ => hI9)
      exact TurnEnd.go F9 N9 (exI12 _ _ _ _ 0 (n + 1) (nt + 1) _ _ _ _ _ ⟨rfl, hac, hI9, hgo, by omega, by omega, hl9, by ((funext y9; (try simp only [lkc, List.lookup_nil, List.reverse_cons, List.reverse_nil, List.nil_append, List.cons_append]); repeat' (first | rfl | contradiction | (refine ite_l (fun h9 => ?_) (fun h9 => ?_); (subst h9; first | rfl | contradiction)) | (refine ite_r (fun h9 => ?_) (fun h9 => ?_); first | contradiction | (subst h9; first | rfl | contradiction)))))⟩) (mem3 (.head _) (.tail _ (.head _)) (.tail _ (.tail _ (.head _)))) (fun q hq => .tail _ (.tail _ (.tail _ hq)))
    · have hc : ¬ (ch = 32 ∨ ch = 9) := fun e => e.elim (fun e => absurd (blank_iff.mpr e) (ne_of_beq_false (by assumption))) (fun e => absurd (tab_iff.mpr e) (ne_of_beq_false (by assumption)))
      rw [wsGo_stop hv' hc] at hgo
      dsimp only
      refine TurnEnd.brk ?_
      dsimp only
      ((try ((with_reducible show wpAny _ _ _ _ _ _); k_fold)); repeat' (first | ((fail_if_success (with_reducible show wpAny _ _ (pyIter _) _ _ _)); (fail_if_success (with_reducible show wpAny _ _ (exec (Stmt.For _ _ _ _ _) _) _ _ _)); (fail_if_success (with_reducible show wpAny _ _ (eval (PySem.Expr.ListComp _ _ _ _) _) _ _ _)); (fail_if_success (with_reducible show wpAny _ _ (exec (Stmt.Assign _ (PySem.Expr.ListComp _ _ _ _) _) _) _ _ _)); (fail_if_success (with_reducible show wpAny _ _ (eval (PySem.Expr.Lambda _ _ _ _) _) _ _ _)); (fail_if_success (with_reducible show LCt.CompSrcT _ _ _ _ _ _ _ _ _ _ _ _ _ _ _)); (fail_if_success (with_reducible show LCg.CompSrc _ _ _ _ _ _ _ _ _ _ _ _ _ _)); (fail_if_success (with_reducible show LCg.CompEnd _ _ _ _ _ _ _ _ _ _ _ _ _ _)); first | (k_unfold; (try dsimp only)) | walk1 | (dsimp only; walk1))))
      (((rename News _ _ _ _ => N9); have q1 := obj_ne N9 (.tail _ (.head _)) (.tail _ (.tail _ (.tail _ (.head _)))) (by simp); have q2 := obj_ne N9 (.tail _ (.head _)) (.tail _ (.tail _ (.tail _ (.tail _ (.head _))))) (by simp); ((try ((with_reducible show wpAny _ _ _ _ _ _); k_fold)); repeat' (first | ((fail_if_success (with_reducible show wpAny _ _ (pyIter _) _ _ _)); (fail_if_success (with_reducible show wpAny _ _ (exec (Stmt.For _ _ _ _ _) _) _ _ _)); (fail_if_success (with_reducible show wpAny _ _ (eval (PySem.Expr.ListComp _ _ _ _) _) _ _ _)); (fail_if_success (with_reducible show wpAny _ _ (exec (Stmt.Assign _ (PySem.Expr.ListComp _ _ _ _) _) _) _ _ _)); (fail_if_success (with_reducible show wpAny _ _ (eval (PySem.Expr.Lambda _ _ _ _) _) _ _ _)); (fail_if_success (with_reducible show LCt.CompSrcT _ _ _ _ _ _ _ _ _ _ _ _ _ _ _)); (fail_if_success (with_reducible show LCg.CompSrc _ _ _ _ _ _ _ _ _ _ _ _ _ _)); (fail_if_success (with_reducible show LCg.CompEnd _ _ _ _ _ _ _ _ _ _ _ _ _ _)); first | (k_unfold; (try dsimp only)) | walk1 | (dsimp only; walk1)))); (rename News _ _ _ _ => N10); (rename Fr _ _ _ _ => F10); exact ⟨rfl, Out.of F10 ⟨_, Fresh.of_news N10 (all4 (P := fun q => q ∈ _) (.head _) (.tail _ (.head _)) (.tail _ (.tail _ (.tail _ (.head _)))) (.tail _ (.tail _ (.tail _ (.tail _ (.head _)))))), all4 (P := fun q : Addr × Obj => NotIt (.type "list_iterator") q.2) (.inl (by show Value.type "tuple" ≠ _; decide)) (.inl (by show Value.type "tuple" ≠ _; decide)) (.inl (by show Value.ref 90 ≠ _; decide)) (.inl (by show Value.type "dict" ≠ _; decide)), _, rfl, fun h' hh' => mk_of (by assumption) (by assumption) (hh' _ (.tail _ (.tail _ (.head _)))) (hh' _ (.tail _ (.tail _ (.tail _ (.head _))))) (hh' _ (.head _)) (hh' _ (.tail _ (.head _)))⟩⟩))
  · intro m₁ nx h tk zz9 F' N'
    (try ((with_reducible show wpAny _ _ _ _ _ _); k_fold))
    refine exE12 zz9 ?_
    clear zz9
    intro ac cv c cnt b n nt tb tn tnt t0 u zz8
    refine anE8 zz8 ?_
    clear zz8
    rintro rfl hac hI hgo hb0 hbi hlen rfl
    rw [List.drop_eq_nil_of_le (by simp)] at hgo
    replace hgo : (cnt, b, n, nt) = wsGo raw.cps.toList ([], 0, 0, 0) := hgo
    have hli := hI.length
    simp only [Array.length_toList] at hli
    ((try ((with_reducible show wpAny _ _ _ _ _ _); k_fold)); repeat' (first | ((fail_if_success (with_reducible show wpAny _ _ (pyIter _) _ _ _)); (fail_if_success (with_reducible show wpAny _ _ (exec (Stmt.For _ _ _ _ _) _) _ _ _)); (fail_if_success (with_reducible show wpAny _ _ (eval (PySem.Expr.ListComp _ _ _ _) _) _ _ _)); (fail_if_success (with_reducible show wpAny _ _ (exec (Stmt.Assign _ (PySem.Expr.ListComp _ _ _ _) _) _) _ _ _)); (fail_if_success (with_reducible show wpAny _ _ (eval (PySem.Expr.Lambda _ _ _ _) _) _ _ _)); (fail_if_success (with_reducible show LCt.CompSrcT _ _ _ _ _ _ _ _ _ _ _ _ _ _ _)); (fail_if_success (with_reducible show LCg.CompSrc _ _ _ _ _ _ _ _ _ _ _ _ _ _)); (fail_if_success (with_reducible show LCg.CompEnd _ _ _ _ _ _ _ _ _ _ _ _ _ _)); first | (k_unfold; (try dsimp only)) | walk1 | (dsimp only; walk1))))
    (((rename News _ _ _ _ => N9); have q1 := obj_ne N9 (.tail _ (.head _)) (.tail _ (.tail _ (.tail _ (.head _)))) (by simp); have q2 := obj_ne N9 (.tail _ (.head _)) (.tail _ (.tail _ (.tail _ (.tail _ (.head _))))) (by simp); ((try ((with_reducible show wpAny _ _ _ _ _ _); k_fold)); repeat' (first | ((fail_if_success (with_reducible show wpAny _ _ (pyIter _) _ _ _)); (fail_if_success (with_reducible show wpAny _ _ (exec (Stmt.For _ _ _ _ _) _) _ _ _)); (fail_if_success (with_reducible show wpAny _ _ (eval (PySem.Expr.ListComp _ _ _ _) _) _ _ _)); (fail_if_success (with_reducible show wpAny _ _ (exec (Stmt.Assign _ (PySem.Expr.ListComp _ _ _ _) _) _) _ _ _)); (fail_if_success (with_reducible show wpAny _ _ (eval (PySem.Expr.Lambda _ _ _ _) _) _ _ _)); (fail_if_success (with_reducible show LCt.CompSrcT _ _ _ _ _ _ _ _ _ _ _ _ _ _ _)); (fail_if_success (with_reducible show LCg.CompSrc _ _ _ _ _ _ _ _ _ _ _ _ _ _)); (fail_if_success (with_reducible show LCg.CompEnd _ _ _ _ _ _ _ _ _ _ _ _ _ _)); first | (k_unfold; (try dsimp only)) | walk1 | (dsimp only; walk1)))); (rename News _ _ _ _ => N10); (rename Fr _ _ _ _ => F10); exact ⟨rfl, Out.of F10 ⟨_, Fresh.of_news N10 (all4 (P := fun q => q ∈ _) (.head _) (.tail _ (.head _)) (.tail _ (.tail _ (.tail _ (.head _)))) (.tail _ (.tail _ (.tail _ (.tail _ (.head _)))))), all4 (P := fun q : Addr × Obj => NotIt (.type "list_iterator") q.2) (.inl (by show Value.type "tuple" ≠ _; decide)) (.inl (by show Value.type "tuple" ≠ _; decide)) (.inl (by show Value.ref 90 ≠ _; decide)) (.inl (by show Value.type "dict" ≠ _; decide)), _, rfl, fun h' hh' => mk_of (by assumption) (by assumption) (hh' _ (.tail _ (.tail _ (.head _)))) (hh' _ (.tail _ (.tail _ (.tail _ (.head _))))) (hh' _ (.head _)) (hh' _ (.tail _ (.head _)))⟩⟩))
end
/-- a list of lists of ints -/
noncomputable def LLAt (h : Heap) (l : Addr) (cols : List (List Int)) : Prop := ∃ vs : List Value, h.IsList l vs.toArray ∧ vs.length = cols.length ∧ ∀ i (hi : i < cols.length), ∃ a us, vs[i]? = some (.ref a) ∧ h.IsList a (List.toArray us) ∧ IntsAre us cols[i]
theorem LLAt.stay {h h' : Heap} {l : Addr} {cols : List (List Int)} (x : LLAt h l cols) (st : Stay h h') : LLAt h' l cols := by
  obtain ⟨vs, h1, h2, h3⟩ := x
  refine ⟨vs, h1.at fun o e => st _ _ e, h2, fun i hi => ?_⟩
  obtain ⟨a, us, q1, q2, q3⟩ := h3 i hi
  exact ⟨a, us, q1, q2.at fun o e => st _ _ e, q3⟩
theorem LLAt.hide {h : Heap} {l P : Addr} {ps : Array Value} {cols : List (List Int)} (x : LLAt h l cols) (hP : h.get? P = some (tabObj ps)) : LLAt (hideAll h [P]) l cols := by
  have key : ∀ {a : Addr} {items : Array Value}, h.IsList a items → (hideAll h [P]).IsList a items := by
    rintro a items ⟨o, e, hc, r⟩
    refine ⟨o, hideAll_get _ e (fun q => ?_), hc, r⟩
    rw [List.mem_singleton.mp q, hP] at e
    cases e; cases hc
  obtain ⟨vs, h1, h2, h3⟩ := x
  refine ⟨vs, key h1, h2, fun i hi => ?_⟩
  obtain ⟨a, us, q1, q2, q3⟩ := h3 i hi
  exact ⟨a, us, q1, key q2, q3⟩
theorem hide_stay {base h : Heap} {P : Addr} (hP : base.get? P = none) (st : Stay base h) : Stay base (hideAll h [P]) := fun b o e => hideAll_get _ (st b o e) (fun q => by rw [List.mem_singleton.mp q, hP] at e; cases e)
theorem CodeHd_hide {h : Heap} {c P : Addr} (C : CodeHd h c P) : CodeHd (hideAll h [P]) c P :=
  let ⟨o, vs, file, tf, flags, tg, inF, text, tt, e, r⟩ := C
  ⟨o, vs, file, tf, flags, tg, inF, text, tt, hideAll_get _ e (fun q => r.2.2.2.2.2.2.2.2 (List.mem_singleton.mp q)), r⟩

theorem lenListB {A : Around} {E : Value → Shared → Prop} {s : Shared} {prog : Program} {h₀ : Heap} {L t : Addr} {m : Str → Option Value} {vs : List Value} {n : Nat} {Q : Value → Shared → Prop} (F : Fr h₀ L s.heap m) (T : h₀.IsList t vs.toArray) (I : vs.length = n) (hf : n < 1000)
    (h : Q (.int n (s.toks + 1)) { s with toks := s.toks + 1 + 1 }) : wpAny (model prog w) A (call (.builtin "len") [.ref t]) Q E s := by
  have e : vs.toArray.size = n := by simp [I]
  exact len_list (T.at fun o e => F.keep _ o e) (by rw [e]; omega) (by rw [e]; exact h)
theorem mem_rangeKs {k a : Int} {n : Nat} (h : k ∈ rangeKs a n) : a ≤ k ∧ k < a + n := by
  unfold rangeKs at h
  obtain ⟨i, hi, rfl⟩ := List.mem_map.mp h
  have := List.mem_range.mp hi
  omega
theorem getD_lt {α : Type} {l : List α} {d : α} {i : Nat} (h : i < l.length) : l.getD i d = l[i] := by simp [List.getD, h]
theorem sub3 {α : Type} {a b c : α} {l r : List α} : ∀ q ∈ a :: b :: c :: l, q ∈ a :: b :: c :: (l ++ r) := fun q hq => by
  simp only [List.mem_cons, List.mem_append] at hq ⊢
  rcases hq with h | h | h | h
  · exact .inl h
  · exact .inr (.inl h)
  · exact .inr (.inr (.inl h))
  · exact .inr (.inr (.inr (.inl h)))
theorem sub3r {α : Type} {a b c : α} {l r : List α} : ∀ q ∈ r, q ∈ a :: b :: c :: (l ++ r) := fun q hq => .tail _ (.tail _ (.tail _ (List.mem_append_right _ hq)))
theorem mem2 {α : Type} {a b : α} {l : List α} (h1 : a ∈ l) (h2 : b ∈ l) : ∀ q ∈ [a, b], q ∈ l := fun q hq => by
  revert q
  exact alC h1 (alC h2 alN)
theorem own2 {α : Type} {a b c : α} {l : List α} : ∀ q ∈ a :: l, q ∈ a :: b :: c :: l := fun q hq => by
  revert q
  exact alC (.head _) (fun q hq => .tail _ (.tail _ (.tail _ hq)))
theorem sub4 {α : Type} {a b c d : α} {l r : List α} : ∀ q ∈ a :: b :: c :: d :: l, q ∈ a :: b :: c :: d :: (l ++ r) := fun q hq => by
  rcases List.mem_cons.mp hq with h | h
  · rw [h]; exact .head _
  · exact .tail _ (sub3 q h)
theorem sub4r {α : Type} {a b c d : α} {l r : List α} : ∀ q ∈ r, q ∈ a :: b :: c :: d :: (l ++ r) := fun q hq => .tail _ (sub3r q hq)
theorem mem4 {α : Type} {a b c d : α} {l : List α} (h0 : a ∈ l) (h1 : b ∈ l) (h2 : c ∈ l) (h3 : d ∈ l) : ∀ q ∈ [a, b, c, d], q ∈ l := fun q hq => by
  revert q
  exact alC h0 (fun q hq => mem3 h1 h2 h3 q hq)
theorem own3 {α : Type} {a b c d : α} {l : List α} : ∀ q ∈ a :: l, q ∈ a :: b :: c :: d :: l := fun q hq => by
  revert q
  exact alC (.head _) (fun q hq => .tail _ (.tail _ (.tail _ (.tail _ hq))))
theorem max_if (x y : Int) : (if y > x then y else x) = max x y := by split <;> omega
/-- the range on the ledger -/
theorem news_range {h₀ h h' : Heap} {L r : Addr} {m : Str → Option Value} {a b c : Int} {t u v : Tok} {news : List (Addr × Obj)} (F : Fr h₀ L h m) (N : News h₀ L h' news) (hr : IsRange h' r a b c t u v) (e : L < r) :
    ∃ o, News h₀ L h' ((r, o) :: news) ∧ (∀ h'', h''.get? r = some o → IsRange h'' r a b c t u v) := by
  refine ⟨_, fun q hq => ?_, fun h'' e => e⟩
  revert q
  exact alC ⟨hr, Nat.ne_of_gt e, Heap.get?_none_of_le (Nat.le_trans F.above (Nat.le_of_lt e))⟩ N
theorem nameX_FB {M : Model} {A : Around} {E : Value → Shared → Prop} {s : Shared} {h₀ : Heap} {L a c : Addr} {m : Str → Option Value} {cn : Str} {cs : Scope} {ccd : Value} {cl : List (Str × Addr)} {x : Str} {pos : Pos} {v : Value} {o : Obj} {Q : Value → Shared → Prop}
    (F : Fr h₀ L s.heap m) (hc : cl.lookup x = some c) (hv : h₀.get? c = some o) (hd : o.data = .cell (some v)) (h : Q v s)
    (hk : cs.kind = .function := by rfl) (hx : (envX cn cs L a ccd cl).kindOf x = some .free := by rfl) (hb : (x == ("__debug__" : Str)) = false := by decide) (hn : (x == ("__classdict__" : Str)) = false := by decide) :
    wpAny M A (eval (.Name x pos) (envX cn cs L a ccd cl)) Q E s := wpAny_Name (wpAny_loadName_free hk hx hc ⟨_, F.keep _ _ hv, hd⟩ h hn) hb
theorem itemB {A : Around} {E : Value → Shared → Prop} {s : Shared} {prog : Program} {h₀ : Heap} {L l : Addr} {m : Str → Option Value} {vs : List Value} {k : Int} {u : Tok} {v : Value} {value slice : PySem.Expr} {Q : Value → Shared → Prop}
    (F : Fr h₀ L s.heap m) (hl : h₀.IsList l vs.toArray) (h0 : 0 ≤ k) (h1 : k < 1000000) (hx : vs[k.toNat]? = some v) (h : Q v s)
    (hs : subscripted slice false (.ref l) (.int k u) = operate [.ref l, .int k u] (getItem (.ref l) (.int k u)) := by with_unfolding_all rfl) :
    wpAny (model prog w) A (subscriptTail value slice (.ref l) (.int k u)) Q E s :=
  tail_any (hl.at fun o e => F.keep _ o e).typeIs slot_list_getitem.lookup (wpAny_getItem_list (hl.at fun o e => F.keep _ o e) h0 (by omega) (by simpa using hx) h) hs
noncomputable def hStep (cols : List (List Int)) (i : Nat) (hs : List Int) (j : Nat) : List Int := if belowP (cols.getD j []) (cols.getD i []) then hs.set i (max (hs.getD i 0) (hs.getD j 0 + 1)) else hs
noncomputable def hInner (cols : List (List Int)) (i : Nat) (hs : List Int) (n : Nat) : List Int := (List.range n).foldl (hStep cols i) hs
noncomputable def hOuter (cols : List (List Int)) (order : List Int) : List Int := order.foldl (fun hs i => hInner cols i.toNat hs cols.length) (List.replicate cols.length 0)
theorem hStep_len (cols : List (List Int)) (i : Nat) (hs : List Int) (j : Nat) : (hStep cols i hs j).length = hs.length := by unfold hStep; split <;> simp
theorem foldl_len {α : Type} (f : List Int → α → List Int) (hf : ∀ hs a, (f hs a).length = hs.length) : ∀ (l : List α) (hs : List Int), (l.foldl f hs).length = hs.length
  | [], _ => rfl
  | a :: r, hs => by rw [List.foldl_cons, foldl_len f hf r, hf]
theorem hInner_len (cols : List (List Int)) (i : Nat) (hs : List Int) (n : Nat) : (hInner cols i hs n).length = hs.length := foldl_len _ (hStep_len cols i) _ _
theorem hOuter_len (cols : List (List Int)) (order : List Int) : (hOuter cols order).length = cols.length := by
  unfold hOuter
  rw [foldl_len (fun hs (i : Int) => hInner cols i.toNat hs cols.length) (fun hs i => hInner_len cols i.toNat hs cols.length), List.length_replicate]
theorem hInner_succ (cols : List (List Int)) (i : Nat) (hs : List Int) (n : Nat) : hInner cols i hs (n + 1) = hStep cols i (hInner cols i hs n) n := by
  unfold hInner
  rw [List.range_succ, List.foldl_append]; rfl
theorem hOuter_snoc (cols : List (List Int)) {order : List Int} {i : Nat} (h : i < order.length) : hOuter cols (order.take (i + 1)) = hInner cols order[i].toNat (hOuter cols (order.take i)) cols.length := by
  unfold hOuter
  rw [List.take_add_one, List.getElem?_eq_getElem h, List.foldl_append]; rfl
section
local macro_rules | `(tactic| walk_at "eval Name") => `(tactic| (k_here; k_dflt (refine' nameX_FB ?F ?c ?v ?d ?_ ?a ?b; (case a => rfl); (case b => rfl); (case F => k_asm); (case c => rfl); (case v => assumption); (case d => assumption); k_whole)))
theorem heights {A : Around} {s : Shared} {l : Addr} {cols : List (List Int)} (G : Gr w p loose mean mg mb (hideAll s.heap [115])) (C : CodeHd s.heap 117 115) (hP : s.heap.get? 115 = some (tabObj #[])) (hl : LLAt s.heap l cols) (hc : ∀ c ∈ cols, c.length = 5) (hn : cols.length < 60) (R : Rm 20 A) :
    wpAny (model PR w) A (call (.ref 118) [.ref l]) (OutB (hideAll s.heap [115]) s fun v h => ∃ nw, Fresh (hideAll s.heap [115]) h nw ∧ GrownAt 115 h ∧ ∃ order : List Int, IntList v nw (hOuter cols order) ∧ order.Perm (rangeKs 0 cols.length) ∧ order.Pairwise (fun x y => (cols.getD x.toNat []).getD 0 0 ≤ (cols.getD y.toNat []).getD 0 0)) NoE s := by
  have D := Ledge.hide hP
  have LL := hl.hide hP
  have C0 := CodeHd_hide C
  clear C hl
  revert G D LL C0
  generalize hideAll s.heap [115] = h0
  intro G D LL C0
  obtain ⟨vs, hl, hvl, hvi⟩ := LL
  obtain ⟨_, dp, fr, gd, un⟩ := A
  obtain ⟨hh, hd, hu⟩ := R
  cases hh
  dsimp only at hd hu
  refine wpAny_call ?_
  refine enterC [(Str.ofString "columns", .ref l)] G D (by k_is) (by k_is) (rm00 hd) (BindsTo.of_eq rfl) rfl (by decide +kernel) ?_ rfl rfl rfl
  intro L' h₁ tk cells F N Y l0
  have hY := CellsAre.one Y
  obtain ⟨o1, rfl, d1⟩ := hY
  replace d1 : o1.data = .cell (some (.ref l)) := d1
  clear Y
  simp only [List.cons_append, List.nil_append] at N
  k_lt l0
  have X := G.X
  have T := G.T
  ((try ((with_reducible show wpAny _ _ _ _ _ _); k_fold)); repeat' (first | ((fail_if_success (with_reducible show wpAny _ _ (pyIter _) _ _ _)); (fail_if_success (with_reducible show wpAny _ _ (exec (Stmt.For _ _ _ _ _) _) _ _ _)); (fail_if_success (with_reducible show wpAny _ _ (eval (PySem.Expr.ListComp _ _ _ _) _) _ _ _)); (fail_if_success (with_reducible show wpAny _ _ (exec (Stmt.Assign _ (PySem.Expr.ListComp _ _ _ _) _) _) _ _ _)); (fail_if_success (with_reducible show wpAny _ _ (eval (PySem.Expr.Lambda _ _ _ _) _) _ _ _)); (fail_if_success (with_reducible show LCt.CompSrcT _ _ _ _ _ _ _ _ _ _ _ _ _ _ _)); (fail_if_success (with_reducible show LCg.CompSrc _ _ _ _ _ _ _ _ _ _ _ _ _ _)); (fail_if_success (with_reducible show LCg.CompEnd _ _ _ _ _ _ _ _ _ _ _ _ _ _)); first | (k_unfold; (try dsimp only)) | (k_here; (with_reducible show wpAny _ _ (call (Value.builtin "len") [Value.ref _]) _ _ _); (refine' lenListB ?k1 ?k2 ?k3 ?k4 ?_; (case k1 => k_asm); (case k2 => assumption); (case k3 => assumption); (case k4 => omega))) | (k_here; (with_reducible show wpAny _ _ (subscriptTail _ _ (Value.ref _) (Value.int _ _)) _ _ _); (refine' itemB ?k1 ?k2 ?k3 ?k4 ?k5 ?_ ?k6; (case k1 => k_asm); (case k2 => assumption); (case k5 => assumption); (case k3 => omega); (case k4 => omega); (case k6 => with_unfolding_all rfl))) | (k_here; (with_reducible show wpAny _ _ (call (Value.ref 113) _) _ _ _); (refine use (by k_asm) (by k_asm) (below (Gr.keeps (by assumption) (Fr.keep (by k_asm))) (Fr.lst (by k_asm) (by assumption)) (by assumption) (Fr.lst (by k_asm) (by assumption)) (by assumption) (by assumption) (by assumption) (by ((refine ⟨rfl, ?_, ?_⟩ <;> first | exact rm1 (by assumption) (by decide) | exact rm0 (by assumption) (by decide) | exact rm2 (by assumption) (by decide) | ((try simp only [Around.deeper, Around.in1]); omega))))) ?_; rintro _ _ _ _ _ _ e9; subst e9; (try dsimp only))) | walk1 | (dsimp only; walk1))))
  refine LCg.Assign_ListComp_U (F₀ := by k_asm) (by rfl) (by with_unfolding_all rfl) (by with_unfolding_all rfl) (by decide) (by rfl) (by decide) (by rfl) (by rfl) (by rfl) ?_
  ((try ((with_reducible show wpAny _ _ _ _ _ _); k_fold)); repeat' (first | ((fail_if_success (with_reducible show wpAny _ _ (pyIter _) _ _ _)); (fail_if_success (with_reducible show wpAny _ _ (exec (Stmt.For _ _ _ _ _) _) _ _ _)); (fail_if_success (with_reducible show wpAny _ _ (eval (PySem.Expr.ListComp _ _ _ _) _) _ _ _)); (fail_if_success (with_reducible show wpAny _ _ (exec (Stmt.Assign _ (PySem.Expr.ListComp _ _ _ _) _) _) _ _ _)); (fail_if_success (with_reducible show wpAny _ _ (eval (PySem.Expr.Lambda _ _ _ _) _) _ _ _)); (fail_if_success (with_reducible show LCt.CompSrcT _ _ _ _ _ _ _ _ _ _ _ _ _ _ _)); (fail_if_success (with_reducible show LCg.CompSrc _ _ _ _ _ _ _ _ _ _ _ _ _ _)); (fail_if_success (with_reducible show LCg.CompEnd _ _ _ _ _ _ _ _ _ _ _ _ _ _)); first | (k_unfold; (try dsimp only)) | (k_here; (with_reducible show wpAny _ _ (call (Value.builtin "len") [Value.ref _]) _ _ _); (refine' lenListB ?k1 ?k2 ?k3 ?k4 ?_; (case k1 => k_asm); (case k2 => assumption); (case k3 => assumption); (case k4 => omega))) | (k_here; (with_reducible show wpAny _ _ (subscriptTail _ _ (Value.ref _) (Value.int _ _)) _ _ _); (refine' itemB ?k1 ?k2 ?k3 ?k4 ?k5 ?_ ?k6; (case k1 => k_asm); (case k2 => assumption); (case k5 => assumption); (case k3 => omega); (case k4 => omega); (case k6 => with_unfolding_all rfl))) | (k_here; (with_reducible show wpAny _ _ (call (Value.ref 113) _) _ _ _); (refine use (by k_asm) (by k_asm) (below (Gr.keeps (by assumption) (Fr.keep (by k_asm))) (Fr.lst (by k_asm) (by assumption)) (by assumption) (Fr.lst (by k_asm) (by assumption)) (by assumption) (by assumption) (by assumption) (by ((refine ⟨rfl, ?_, ?_⟩ <;> first | exact rm1 (by assumption) (by decide) | exact rm0 (by assumption) (by decide) | exact rm2 (by assumption) (by decide) | ((try simp only [Around.deeper, Around.in1]); omega))))) ?_; rintro _ _ _ _ _ _ e9; subst e9; (try dsimp only))) | walk1 | (dsimp only; walk1))))
  refine LCg.CompSrc.base (by rfl) (by k_asm) (by k_asm) hl (by rw [sizeLine_eq]; simp; omega) ?_
  intro g'
  refine restU vs.length (fun i ys news => news = [(L' + 1, o1), (115, tabObj #[])] ∧ IntsAre ys (List.replicate i 0)) ?_ ?_ _ 0 [] _ (by simp) ⟨rfl, .nil⟩
  · rintro ys news ⟨rfl, hy⟩
    ((try ((with_reducible show wpAny _ _ _ _ _ _); k_fold)); repeat' (first | ((fail_if_success (with_reducible show wpAny _ _ (pyIter _) _ _ _)); (fail_if_success (with_reducible show wpAny _ _ (exec (Stmt.For _ _ _ _ _) _) _ _ _)); (fail_if_success (with_reducible show wpAny _ _ (eval (PySem.Expr.ListComp _ _ _ _) _) _ _ _)); (fail_if_success (with_reducible show wpAny _ _ (exec (Stmt.Assign _ (PySem.Expr.ListComp _ _ _ _) _) _) _ _ _)); (fail_if_success (with_reducible show wpAny _ _ (eval (PySem.Expr.Lambda _ _ _ _) _) _ _ _)); (fail_if_success (with_reducible show LCt.CompSrcT _ _ _ _ _ _ _ _ _ _ _ _ _ _ _)); (fail_if_success (with_reducible show LCg.CompSrc _ _ _ _ _ _ _ _ _ _ _ _ _ _)); (fail_if_success (with_reducible show LCg.CompEnd _ _ _ _ _ _ _ _ _ _ _ _ _ _)); first | (k_unfold; (try dsimp only)) | (k_here; (with_reducible show wpAny _ _ (call (Value.builtin "len") [Value.ref _]) _ _ _); (refine' lenListB ?k1 ?k2 ?k3 ?k4 ?_; (case k1 => k_asm); (case k2 => assumption); (case k3 => assumption); (case k4 => omega))) | (k_here; (with_reducible show wpAny _ _ (subscriptTail _ _ (Value.ref _) (Value.int _ _)) _ _ _); (refine' itemB ?k1 ?k2 ?k3 ?k4 ?k5 ?_ ?k6; (case k1 => k_asm); (case k2 => assumption); (case k5 => assumption); (case k3 => omega); (case k4 => omega); (case k6 => with_unfolding_all rfl))) | (k_here; (with_reducible show wpAny _ _ (call (Value.ref 113) _) _ _ _); (refine use (by k_asm) (by k_asm) (below (Gr.keeps (by assumption) (Fr.keep (by k_asm))) (Fr.lst (by k_asm) (by assumption)) (by assumption) (Fr.lst (by k_asm) (by assumption)) (by assumption) (by assumption) (by assumption) (by ((refine ⟨rfl, ?_, ?_⟩ <;> first | exact rm1 (by assumption) (by decide) | exact rm0 (by assumption) (by decide) | exact rm2 (by assumption) (by decide) | ((try simp only [Around.deeper, Around.in1]); omega))))) ?_; rintro _ _ _ _ _ _ e9; subst e9; (try dsimp only))) | walk1 | (dsimp only; walk1))))
    rename_i Dh h2 _ F2 N2 ne2
    have lR0 : @LT.lt Nat _ L' h2.objs.size := F2.ns.lt
    have lR1 : @LT.lt Nat _ Dh h2.objs.size := Heap.lt_size (N2 _ (.head _)).1
    have lR2 : @LT.lt Nat _ (L' + 1) h2.objs.size := Heap.lt_size (N2 _ (.tail _ (.head _))).1
    have lR3 : @LT.lt Nat _ 115 h2.objs.size := Heap.lt_size (N2 _ (.tail _ (.tail _ (.head _)))).1
    refine For_invV h0 rfl rfl ?_
    ((try ((with_reducible show wpAny _ _ _ _ _ _); k_fold)); repeat' (first | ((fail_if_success (with_reducible show wpAny _ _ (pyIter _) _ _ _)); (fail_if_success (with_reducible show wpAny _ _ (exec (Stmt.For _ _ _ _ _) _) _ _ _)); (fail_if_success (with_reducible show wpAny _ _ (eval (PySem.Expr.ListComp _ _ _ _) _) _ _ _)); (fail_if_success (with_reducible show wpAny _ _ (exec (Stmt.Assign _ (PySem.Expr.ListComp _ _ _ _) _) _) _ _ _)); (fail_if_success (with_reducible show wpAny _ _ (eval (PySem.Expr.Lambda _ _ _ _) _) _ _ _)); (fail_if_success (with_reducible show LCt.CompSrcT _ _ _ _ _ _ _ _ _ _ _ _ _ _ _)); (fail_if_success (with_reducible show LCg.CompSrc _ _ _ _ _ _ _ _ _ _ _ _ _ _)); (fail_if_success (with_reducible show LCg.CompEnd _ _ _ _ _ _ _ _ _ _ _ _ _ _)); first | (k_unfold; (try dsimp only)) | (k_here; (with_reducible show wpAny _ _ (call (Value.builtin "len") [Value.ref _]) _ _ _); (refine' lenListB ?k1 ?k2 ?k3 ?k4 ?_; (case k1 => k_asm); (case k2 => assumption); (case k3 => assumption); (case k4 => omega))) | (k_here; (with_reducible show wpAny _ _ (subscriptTail _ _ (Value.ref _) (Value.int _ _)) _ _ _); (refine' itemB ?k1 ?k2 ?k3 ?k4 ?k5 ?_ ?k6; (case k1 => k_asm); (case k2 => assumption); (case k5 => assumption); (case k3 => omega); (case k4 => omega); (case k6 => with_unfolding_all rfl))) | (k_here; (with_reducible show wpAny _ _ (call (Value.ref 113) _) _ _ _); (refine use (by k_asm) (by k_asm) (below (Gr.keeps (by assumption) (Fr.keep (by k_asm))) (Fr.lst (by k_asm) (by assumption)) (by assumption) (Fr.lst (by k_asm) (by assumption)) (by assumption) (by assumption) (by assumption) (by ((refine ⟨rfl, ?_, ?_⟩ <;> first | exact rm1 (by assumption) (by decide) | exact rm0 (by assumption) (by decide) | exact rm2 (by assumption) (by decide) | ((try simp only [Around.deeper, Around.in1]); omega))))) ?_; rintro _ _ _ _ _ _ e9; subst e9; (try dsimp only))) | walk1 | (dsimp only; walk1))))
    obtain ⟨oR, N3, hR⟩ := news_range (by assumption) (by assumption) (by assumption) lR0
    generalize hr2 : h2.objs.size = r2 at *
    walk1
    ((try ((with_reducible show wpAny _ _ _ _ _ _); k_fold)); repeat' (first | ((fail_if_success (with_reducible show wpAny _ _ (pyIter _) _ _ _)); (fail_if_success (with_reducible show wpAny _ _ (exec (Stmt.For _ _ _ _ _) _) _ _ _)); (fail_if_success (with_reducible show wpAny _ _ (eval (PySem.Expr.ListComp _ _ _ _) _) _ _ _)); (fail_if_success (with_reducible show wpAny _ _ (exec (Stmt.Assign _ (PySem.Expr.ListComp _ _ _ _) _) _) _ _ _)); (fail_if_success (with_reducible show wpAny _ _ (eval (PySem.Expr.Lambda _ _ _ _) _) _ _ _)); (fail_if_success (with_reducible show LCt.CompSrcT _ _ _ _ _ _ _ _ _ _ _ _ _ _ _)); (fail_if_success (with_reducible show LCg.CompSrc _ _ _ _ _ _ _ _ _ _ _ _ _ _)); (fail_if_success (with_reducible show LCg.CompEnd _ _ _ _ _ _ _ _ _ _ _ _ _ _)); first | (k_unfold; (try dsimp only)) | (k_here; (with_reducible show wpAny _ _ (call (Value.builtin "len") [Value.ref _]) _ _ _); (refine' lenListB ?k1 ?k2 ?k3 ?k4 ?_; (case k1 => k_asm); (case k2 => assumption); (case k3 => assumption); (case k4 => omega))) | (k_here; (with_reducible show wpAny _ _ (subscriptTail _ _ (Value.ref _) (Value.int _ _)) _ _ _); (refine' itemB ?k1 ?k2 ?k3 ?k4 ?k5 ?_ ?k6; (case k1 => k_asm); (case k2 => assumption); (case k5 => assumption); (case k3 => omega); (case k4 => omega); (case k6 => with_unfolding_all rfl))) | (k_here; (with_reducible show wpAny _ _ (call (Value.ref 113) _) _ _ _); (refine use (by k_asm) (by k_asm) (below (Gr.keeps (by assumption) (Fr.keep (by k_asm))) (Fr.lst (by k_asm) (by assumption)) (by assumption) (Fr.lst (by k_asm) (by assumption)) (by assumption) (by assumption) (by assumption) (by ((refine ⟨rfl, ?_, ?_⟩ <;> first | exact rm1 (by assumption) (by decide) | exact rm0 (by assumption) (by decide) | exact rm2 (by assumption) (by decide) | ((try simp only [Around.deeper, Around.in1]); omega))))) ?_; rintro _ _ _ _ _ _ e9; subst e9; (try dsimp only))) | walk1 | (dsimp only; walk1))))
    rename_i f' c' oc' vs' t' ct' h3 tk3 F3 N4 d1' d2' l1' l2'
    refine sortedRange (f := f') (n := cols.length) (fun k => (cols.getD k.toNat []).getD 0 0) F3 N4 rfl (hR _ (N4 _ (.tail _ (.tail _ (.head _)))).1) (rangeSmall1 (by omega) (by omega) (by omega) (by omega)) (by rw [rangeSize1]; omega) (by omega) ?_ ?_
    · intro k t h tk own hk F4 N5
      have hk' : 0 ≤ k ∧ k < cols.length := by have := mem_rangeKs hk; omega
      obtain ⟨a, us, q1, q2, q3⟩ := hvi k.toNat (by omega)
      have hc5 := hc _ (List.getElem_mem (show k.toNat < cols.length by omega))
      refine wpAny_call ?_
      refine enterL [(Str.ofString "k", .int k t)] (G.keeps F4.keep) (N5 _ (.head _)).1 (codeRec_news N5 (.tail _ (.head _)) d1' d2') (by simp only [Around.deeper, Around.in1]; omega) rfl (locs rfl) ?_ rfl rfl rfl (by decide)
      intro L'' h₁' F6 N6
      have e1 : h.get? (L' + 1) = some o1 := (N5 _ (.tail _ (.tail _ (.tail _ (.tail _ (.head _)))))).1
      have hl' : h.IsList l vs.toArray := hl.at fun o e => F4.keep _ o e
      have q2' : h.IsList a us.toArray := q2.at fun o e => F4.keep _ o e
      have X' : (Mine.hd.heap_39 w.params).In h := X.keeps F4.keep
      have T' := T.keeps F4.keep
      clear X T
      ((try ((with_reducible show wpAny _ _ _ _ _ _); k_fold)); repeat' (first | ((fail_if_success (with_reducible show wpAny _ _ (pyIter _) _ _ _)); (fail_if_success (with_reducible show wpAny _ _ (exec (Stmt.For _ _ _ _ _) _) _ _ _)); (fail_if_success (with_reducible show wpAny _ _ (eval (PySem.Expr.ListComp _ _ _ _) _) _ _ _)); (fail_if_success (with_reducible show wpAny _ _ (exec (Stmt.Assign _ (PySem.Expr.ListComp _ _ _ _) _) _) _ _ _)); (fail_if_success (with_reducible show wpAny _ _ (eval (PySem.Expr.Lambda _ _ _ _) _) _ _ _)); (fail_if_success (with_reducible show LCt.CompSrcT _ _ _ _ _ _ _ _ _ _ _ _ _ _ _)); (fail_if_success (with_reducible show LCg.CompSrc _ _ _ _ _ _ _ _ _ _ _ _ _ _)); (fail_if_success (with_reducible show LCg.CompEnd _ _ _ _ _ _ _ _ _ _ _ _ _ _)); first | (k_unfold; (try dsimp only)) | (k_here; (with_reducible show wpAny _ _ (call (Value.builtin "len") [Value.ref _]) _ _ _); (refine' lenListB ?k1 ?k2 ?k3 ?k4 ?_; (case k1 => k_asm); (case k2 => assumption); (case k3 => assumption); (case k4 => omega))) | (k_here; (with_reducible show wpAny _ _ (subscriptTail _ _ (Value.ref _) (Value.int _ _)) _ _ _); (refine' itemB ?k1 ?k2 ?k3 ?k4 ?k5 ?_ ?k6; (case k1 => k_asm); (case k2 => assumption); (case k5 => assumption); (case k3 => omega); (case k4 => omega); (case k6 => with_unfolding_all rfl))) | (k_here; (with_reducible show wpAny _ _ (call (Value.ref 113) _) _ _ _); (refine use (by k_asm) (by k_asm) (below (Gr.keeps (by assumption) (Fr.keep (by k_asm))) (Fr.lst (by k_asm) (by assumption)) (by assumption) (Fr.lst (by k_asm) (by assumption)) (by assumption) (by assumption) (by assumption) (by ((refine ⟨rfl, ?_, ?_⟩ <;> first | exact rm1 (by assumption) (by decide) | exact rm0 (by assumption) (by decide) | exact rm2 (by assumption) (by decide) | ((try simp only [Around.deeper, Around.in1]); omega))))) ?_; rintro _ _ _ _ _ _ e9; subst e9; (try dsimp only))) | walk1 | (dsimp only; walk1))))
      refine Out.of (by assumption) ⟨_, congrArg (Value.int · _) ?_⟩
      rw [getD_lt (show k.toNat < cols.length by omega)]
      rfl
    · intro Ds vs3 ns3 c3 h4 tk4 F4 N5 l3 i3 p3 w3
      have N7 : News h0 L' h4 [(Ds, listOf (List.toArray vs3) c3), (Dh, listOf (List.toArray ys) ys.length), (L' + 1, o1), (115, tabObj (#[] ++ #[rawInt 93, rawInt 45, .ref c']))] := fun q hq => N5 q (mem4 (.head _) (.tail _ (.tail _ (.tail _ (.tail _ (.head _))))) (.tail _ (.tail _ (.tail _ (.tail _ (.tail _ (.head _)))))) (.tail _ (.tail _ (.tail _ (.tail _ (.tail _ (.tail _ (.head _))))))) q hq)
      generalize #[] ++ #[rawInt 93, rawInt 45, Value.ref c'] = pT at N7
      clear N5
      have hin3 : ∀ k ∈ ns3, 0 ≤ k ∧ k < cols.length := fun k hk => by have := mem_rangeKs (p3.mem_iff.mp hk); omega
      have lDs1 : @LT.lt Nat _ Dh Ds := l3 _ (.tail _ (.tail _ (.tail _ (.head _))))
      have lDs2 : @LT.lt Nat _ (L' + 1) Ds := l3 _ (.tail _ (.tail _ (.tail _ (.tail _ (.head _)))))
      clear l3
      refine iterOwn (fun i m nx => ∃ (ys : Array Value) (c : Nat) (u1 u2 : Option Value), nx = [(Dh, listOf ys c), (L' + 1, o1), (115, tabObj pT)] ∧ IntsAre ys.toList (hOuter cols (ns3.take i)) ∧
        m = fun y => if y = Str.ofString "i" then u1 else if y = Str.ofString "j" then u2 else List.lookup y [(Str.ofString "heights", .ref Dh)]) rfl F4 N7 ?_ ?_ ?_ ?_
      · refine' (exI4 (List.toArray ys) _ none none ⟨rfl, ?ja, ?jm⟩)
        case jm => ((funext y9; (try simp only [lkc, List.lookup_nil, List.reverse_cons, List.reverse_nil, List.nil_append, List.cons_append]); repeat' (first | rfl | contradiction | (refine ite_l (fun h9 => ?_) (fun h9 => ?_); (subst h9; first | rfl | contradiction)) | (refine ite_r (fun h9 => ?_) (fun h9 => ?_); first | contradiction | (subst h9; first | rfl | contradiction)))))
        case ja => rw [hvl] at hy; exact hy
      · intro i m nx zz9 q hq
        refine exE4 zz9 ?_
        clear zz9
        intro ys c u1 u2 zz8
        refine anE2 zz8 ?_
        clear zz8
        rintro rfl _
        rcases List.mem_cons.mp hq with rfl | hq
        · exact .inl (by show Value.type "list" ≠ _; decide)
        · rcases List.mem_cons.mp hq with rfl | hq
          · exact .inr (.inl ⟨_, d1⟩)
          · rw [List.mem_singleton.mp hq]
            exact .inl (by show Value.none ≠ _; decide)
      · intro i v m₁ nx h tk own hv zz9 hoff F' N' hoc
        (try ((with_reducible show wpAny _ _ _ _ _ _); k_fold))
        refine exE4 zz9 ?_
        clear zz9
        intro ys c u1 u2 zz8
        refine anE3 zz8 ?_
        clear zz8
        rintro rfl hI rfl
        have hin : i < ns3.length := by
          have := (List.getElem?_eq_some_iff.mp hv).1
          rw [i3.length] at this; exact this
        obtain ⟨t, ht⟩ := i3.get i ns3[i] (List.getElem?_eq_getElem hin)
        rw [ht] at hv
        obtain rfl := Option.some.inj hv
        have hik := hin3 _ (List.getElem_mem hin)
        generalize hii : ns3[i] = ii at *
        obtain ⟨ai, ui, p1, p2, p4⟩ := hvi ii.toNat (by omega)
        have hci := hc _ (List.getElem_mem (show ii.toNat < cols.length by omega))
        simp only [List.cons_append, List.nil_append] at N'
        ((try ((with_reducible show wpAny _ _ _ _ _ _); k_fold)); repeat' (first | ((fail_if_success (with_reducible show wpAny _ _ (pyIter _) _ _ _)); (fail_if_success (with_reducible show wpAny _ _ (exec (Stmt.For _ _ _ _ _) _) _ _ _)); (fail_if_success (with_reducible show wpAny _ _ (eval (PySem.Expr.ListComp _ _ _ _) _) _ _ _)); (fail_if_success (with_reducible show wpAny _ _ (exec (Stmt.Assign _ (PySem.Expr.ListComp _ _ _ _) _) _) _ _ _)); (fail_if_success (with_reducible show wpAny _ _ (eval (PySem.Expr.Lambda _ _ _ _) _) _ _ _)); (fail_if_success (with_reducible show LCt.CompSrcT _ _ _ _ _ _ _ _ _ _ _ _ _ _ _)); (fail_if_success (with_reducible show LCg.CompSrc _ _ _ _ _ _ _ _ _ _ _ _ _ _)); (fail_if_success (with_reducible show LCg.CompEnd _ _ _ _ _ _ _ _ _ _ _ _ _ _)); first | (k_unfold; (try dsimp only)) | (k_here; (with_reducible show wpAny _ _ (call (Value.builtin "len") [Value.ref _]) _ _ _); (refine' lenListB ?k1 ?k2 ?k3 ?k4 ?_; (case k1 => k_asm); (case k2 => assumption); (case k3 => assumption); (case k4 => omega))) | (k_here; (with_reducible show wpAny _ _ (subscriptTail _ _ (Value.ref _) (Value.int _ _)) _ _ _); (refine' itemB ?k1 ?k2 ?k3 ?k4 ?k5 ?_ ?k6; (case k1 => k_asm); (case k2 => assumption); (case k5 => assumption); (case k3 => omega); (case k4 => omega); (case k6 => with_unfolding_all rfl))) | (k_here; (with_reducible show wpAny _ _ (call (Value.ref 113) _) _ _ _); (refine use (by k_asm) (by k_asm) (below (Gr.keeps (by assumption) (Fr.keep (by k_asm))) (Fr.lst (by k_asm) (by assumption)) (by assumption) (Fr.lst (by k_asm) (by assumption)) (by assumption) (by assumption) (by assumption) (by ((refine ⟨rfl, ?_, ?_⟩ <;> first | exact rm1 (by assumption) (by decide) | exact rm0 (by assumption) (by decide) | exact rm2 (by assumption) (by decide) | ((try simp only [Around.deeper, Around.in1]); omega))))) ?_; rintro _ _ _ _ _ _ e9; subst e9; (try dsimp only))) | walk1 | (dsimp only; walk1))))
        refine For_invV h0 rfl rfl ?_
        ((try ((with_reducible show wpAny _ _ _ _ _ _); k_fold)); repeat' (first | ((fail_if_success (with_reducible show wpAny _ _ (pyIter _) _ _ _)); (fail_if_success (with_reducible show wpAny _ _ (exec (Stmt.For _ _ _ _ _) _) _ _ _)); (fail_if_success (with_reducible show wpAny _ _ (eval (PySem.Expr.ListComp _ _ _ _) _) _ _ _)); (fail_if_success (with_reducible show wpAny _ _ (exec (Stmt.Assign _ (PySem.Expr.ListComp _ _ _ _) _) _) _ _ _)); (fail_if_success (with_reducible show wpAny _ _ (eval (PySem.Expr.Lambda _ _ _ _) _) _ _ _)); (fail_if_success (with_reducible show LCt.CompSrcT _ _ _ _ _ _ _ _ _ _ _ _ _ _ _)); (fail_if_success (with_reducible show LCg.CompSrc _ _ _ _ _ _ _ _ _ _ _ _ _ _)); (fail_if_success (with_reducible show LCg.CompEnd _ _ _ _ _ _ _ _ _ _ _ _ _ _)); first | (k_unfold; (try dsimp only)) | (k_here; (with_reducible show wpAny _ _ (call (Value.builtin "len") [Value.ref _]) _ _ _); (refine' lenListB ?k1 ?k2 ?k3 ?k4 ?_; (case k1 => k_asm); (case k2 => assumption); (case k3 => assumption); (case k4 => omega))) | (k_here; (with_reducible show wpAny _ _ (subscriptTail _ _ (Value.ref _) (Value.int _ _)) _ _ _); (refine' itemB ?k1 ?k2 ?k3 ?k4 ?k5 ?_ ?k6; (case k1 => k_asm); (case k2 => assumption); (case k5 => assumption); (case k3 => omega); (case k4 => omega); (case k6 => with_unfolding_all rfl))) | (k_here; (with_reducible show wpAny _ _ (call (Value.ref 113) _) _ _ _); (refine use (by k_asm) (by k_asm) (below (Gr.keeps (by assumption) (Fr.keep (by k_asm))) (Fr.lst (by k_asm) (by assumption)) (by assumption) (Fr.lst (by k_asm) (by assumption)) (by assumption) (by assumption) (by assumption) (by ((refine ⟨rfl, ?_, ?_⟩ <;> first | exact rm1 (by assumption) (by decide) | exact rm0 (by assumption) (by decide) | exact rm2 (by assumption) (by decide) | ((try simp only [Around.deeper, Around.in1]); omega))))) ?_; rintro _ _ _ _ _ _ e9; subst e9; (try dsimp only))) | walk1 | (dsimp only; walk1))))
        refine iterRange (n := cols.length) (fun j m nx => ∃ (ys : Array Value) (c : Nat) (u2 : Option Value), nx = (Ds, listOf (List.toArray vs3) c3) :: (Dh, listOf ys c) :: (L' + 1, o1) :: (115, tabObj pT) :: own ∧ IntsAre ys.toList (hInner cols ii.toNat (hOuter cols (ns3.take i)) j) ∧
          m = fun y => if y = Str.ofString "j" then u2 else List.lookup y [(Str.ofString "i", .int ii t), (Str.ofString "heights", .ref Dh)]) rfl (by assumption) (rangeSmall1 (by omega) (by omega) (by omega) (by omega)) (by rw [rangeSize1]; omega) (by assumption) (by assumption) ?_ ?_ ?_ ?_
        · refine' (exI3 ys c _ ⟨rfl, hI, ?jm2⟩)
          case jm2 => ((funext y9; (try simp only [lkc, List.lookup_nil, List.reverse_cons, List.reverse_nil, List.nil_append, List.cons_append]); repeat' (first | rfl | contradiction | (refine ite_l (fun h9 => ?_) (fun h9 => ?_); (subst h9; first | rfl | contradiction)) | (refine ite_r (fun h9 => ?_) (fun h9 => ?_); first | contradiction | (subst h9; first | rfl | contradiction)))))
        · intro j m nx zz9 q hq
          refine exE3 zz9 ?_
          clear zz9
          intro ys c u2 zz8
          refine anE2 zz8 ?_
          clear zz8
          rintro rfl _
          revert q
          exact alC (.inl (by show Value.type "list" ≠ _; decide)) (alC (.inl (by show Value.type "list" ≠ _; decide)) (alC (.inr (.inl ⟨_, d1⟩)) (alC (.inl (by show Value.none ≠ _; decide)) (fun q hq => .inl (by rw [hoc q hq]; decide)))))
        · intro j tj m₁ nx h tk own2 hj zz9 hoff2 F2 N2 hoc2
          (try ((with_reducible show wpAny _ _ _ _ _ _); k_fold))
          refine exE3 zz9 ?_
          clear zz9
          intro ys c u2 zz8
          refine anE3 zz8 ?_
          clear zz8
          rintro rfl hI2 rfl
          obtain ⟨aj, uj, q1, q2, q4⟩ := hvi (0 + (j : Int)).toNat (by omega)
          have hcj := hc _ (List.getElem_mem (show (0 + (j : Int)).toNat < cols.length by omega))
          have hL2 := hInner_len cols ii.toNat (hOuter cols (ns3.take i)) j
          rw [hOuter_len] at hL2
          simp only [List.cons_append, List.nil_append] at N2
          have hoff3 : OwnOff (own ++ own2) [Dh] := by
            intro q hq b hb
            rw [List.mem_singleton.mp hb]
            rcases List.mem_append.mp hq with hq | hq
            · exact hoff q hq _ (by simp)
            · exact hoff2 q hq _ (by simp)
          have ejn : (0 + (j : Int)).toNat = j := by omega
          have esc : hInner cols ii.toNat (hOuter cols (ns3.take i)) (j + 1) = hStep cols ii.toNat (hInner cols ii.toNat (hOuter cols (ns3.take i)) j) j := hInner_succ _ _ _ _
          have ebl : belowP (cols.getD j []) (cols.getD ii.toNat []) = belowP cols[(0 + (j : Int)).toNat] cols[ii.toNat] := by
            rw [getD_lt (show j < cols.length by omega), getD_lt (show ii.toNat < cols.length by omega)]
            simp only [ejn]
          unfold hStep at esc
          rw [ebl] at esc
          ((try ((with_reducible show wpAny _ _ _ _ _ _); k_fold)); repeat' (first | ((fail_if_success (with_reducible show wpAny _ _ (pyIter _) _ _ _)); (fail_if_success (with_reducible show wpAny _ _ (exec (Stmt.For _ _ _ _ _) _) _ _ _)); (fail_if_success (with_reducible show wpAny _ _ (eval (PySem.Expr.ListComp _ _ _ _) _) _ _ _)); (fail_if_success (with_reducible show wpAny _ _ (exec (Stmt.Assign _ (PySem.Expr.ListComp _ _ _ _) _) _) _ _ _)); (fail_if_success (with_reducible show wpAny _ _ (eval (PySem.Expr.Lambda _ _ _ _) _) _ _ _)); (fail_if_success (with_reducible show LCt.CompSrcT _ _ _ _ _ _ _ _ _ _ _ _ _ _ _)); (fail_if_success (with_reducible show LCg.CompSrc _ _ _ _ _ _ _ _ _ _ _ _ _ _)); (fail_if_success (with_reducible show LCg.CompEnd _ _ _ _ _ _ _ _ _ _ _ _ _ _)); first | (k_unfold; (try dsimp only)) | (k_here; (with_reducible show wpAny _ _ (call (Value.builtin "len") [Value.ref _]) _ _ _); (refine' lenListB ?k1 ?k2 ?k3 ?k4 ?_; (case k1 => k_asm); (case k2 => assumption); (case k3 => assumption); (case k4 => omega))) | (k_here; (with_reducible show wpAny _ _ (subscriptTail _ _ (Value.ref _) (Value.int _ _)) _ _ _); (refine' itemB ?k1 ?k2 ?k3 ?k4 ?k5 ?_ ?k6; (case k1 => k_asm); (case k2 => assumption); (case k5 => assumption); (case k3 => omega); (case k4 => omega); (case k6 => with_unfolding_all rfl))) | (k_here; (with_reducible show wpAny _ _ (call (Value.ref 113) _) _ _ _); (refine use (by k_asm) (by k_asm) (below (Gr.keeps (by assumption) (Fr.keep (by k_asm))) (Fr.lst (by k_asm) (by assumption)) (by assumption) (Fr.lst (by k_asm) (by assumption)) (by assumption) (by assumption) (by assumption) (by ((refine ⟨rfl, ?_, ?_⟩ <;> first | exact rm1 (by assumption) (by decide) | exact rm0 (by assumption) (by decide) | exact rm2 (by assumption) (by decide) | ((try simp only [Around.deeper, Around.in1]); omega))))) ?_; rintro _ _ _ _ _ _ e9; subst e9; (try dsimp only))) | walk1 | (dsimp only; walk1))))
          · have hbt : belowP cols[(0 + (j : Int)).toNat] cols[ii.toNat] = true := by assumption
            rw [hbt, if_pos rfl] at esc
            (rename News _ _ _ _ => N9)
            (rename Fr _ _ _ _ => F9)
            (rename IntsAre _ _ => hI9)
            have ej9 : (hInner cols ii.toNat (hOuter cols (ns3.take i)) j).getD j 0 = (hInner cols ii.toNat (hOuter cols (ns3.take i)) j).getD (0 + (j : Int)).toNat 0 := by rw [ejn]
            rw [← max_if, ej9] at esc
            exact TurnEnd.go F9 N9 (exI3 _ _ _ ⟨rfl, by rw [esc]; exact hI9, by ((funext y9; (try simp only [lkc, List.lookup_nil, List.reverse_cons, List.reverse_nil, List.nil_append, List.cons_append]); repeat' (first | rfl | contradiction | (refine ite_l (fun h9 => ?_) (fun h9 => ?_); (subst h9; first | rfl | contradiction)) | (refine ite_r (fun h9 => ?_) (fun h9 => ?_); first | contradiction | (subst h9; first | rfl | contradiction)))))⟩) sub4 sub4r
          · have hbf : belowP cols[(0 + (j : Int)).toNat] cols[ii.toNat] = false := by assumption
            rw [hbf, if_neg (by decide)] at esc
            (rename News _ _ _ _ => N9)
            (rename Fr _ _ _ _ => F9)
            rw [← esc] at hI2
            exact TurnEnd.go F9 N9 (exI3 _ _ _ ⟨rfl, hI2, by ((funext y9; (try simp only [lkc, List.lookup_nil, List.reverse_cons, List.reverse_nil, List.nil_append, List.cons_append]); repeat' (first | rfl | contradiction | (refine ite_l (fun h9 => ?_) (fun h9 => ?_); (subst h9; first | rfl | contradiction)) | (refine ite_r (fun h9 => ?_) (fun h9 => ?_); first | contradiction | (subst h9; first | rfl | contradiction)))))⟩) sub4 sub4r
        · intro m₁ nx h tk zz9 F2 N2
          (try ((with_reducible show wpAny _ _ _ _ _ _); k_fold))
          refine exE3 zz9 ?_
          clear zz9
          intro ys c u2 zz8
          refine anE3 zz8 ?_
          clear zz8
          rintro rfl hI2 rfl
          dsimp only
          ((try ((with_reducible show wpAny _ _ _ _ _ _); k_fold)); repeat' (first | ((fail_if_success (with_reducible show wpAny _ _ (pyIter _) _ _ _)); (fail_if_success (with_reducible show wpAny _ _ (exec (Stmt.For _ _ _ _ _) _) _ _ _)); (fail_if_success (with_reducible show wpAny _ _ (eval (PySem.Expr.ListComp _ _ _ _) _) _ _ _)); (fail_if_success (with_reducible show wpAny _ _ (exec (Stmt.Assign _ (PySem.Expr.ListComp _ _ _ _) _) _) _ _ _)); (fail_if_success (with_reducible show wpAny _ _ (eval (PySem.Expr.Lambda _ _ _ _) _) _ _ _)); (fail_if_success (with_reducible show LCt.CompSrcT _ _ _ _ _ _ _ _ _ _ _ _ _ _ _)); (fail_if_success (with_reducible show LCg.CompSrc _ _ _ _ _ _ _ _ _ _ _ _ _ _)); (fail_if_success (with_reducible show LCg.CompEnd _ _ _ _ _ _ _ _ _ _ _ _ _ _)); first | (k_unfold; (try dsimp only)) | (k_here; (with_reducible show wpAny _ _ (call (Value.builtin "len") [Value.ref _]) _ _ _); (refine' lenListB ?k1 ?k2 ?k3 ?k4 ?_; (case k1 => k_asm); (case k2 => assumption); (case k3 => assumption); (case k4 => omega))) | (k_here; (with_reducible show wpAny _ _ (subscriptTail _ _ (Value.ref _) (Value.int _ _)) _ _ _); (refine' itemB ?k1 ?k2 ?k3 ?k4 ?k5 ?_ ?k6; (case k1 => k_asm); (case k2 => assumption); (case k5 => assumption); (case k3 => omega); (case k4 => omega); (case k6 => with_unfolding_all rfl))) | (k_here; (with_reducible show wpAny _ _ (call (Value.ref 113) _) _ _ _); (refine use (by k_asm) (by k_asm) (below (Gr.keeps (by assumption) (Fr.keep (by k_asm))) (Fr.lst (by k_asm) (by assumption)) (by assumption) (Fr.lst (by k_asm) (by assumption)) (by assumption) (by assumption) (by assumption) (by ((refine ⟨rfl, ?_, ?_⟩ <;> first | exact rm1 (by assumption) (by decide) | exact rm0 (by assumption) (by decide) | exact rm2 (by assumption) (by decide) | ((try simp only [Around.deeper, Around.in1]); omega))))) ?_; rintro _ _ _ _ _ _ e9; subst e9; (try dsimp only))) | walk1 | (dsimp only; walk1))))
          have esn := hOuter_snoc cols hin
          rw [hii] at esn
          rw [← esn] at hI2
          exact TurnEnd.go F2 N2 (exI4 _ _ _ _ ⟨rfl, hI2, by ((funext y9; (try simp only [lkc, List.lookup_nil, List.reverse_cons, List.reverse_nil, List.nil_append, List.cons_append]); repeat' (first | rfl | contradiction | (refine ite_l (fun h9 => ?_) (fun h9 => ?_); (subst h9; first | rfl | contradiction)) | (refine ite_r (fun h9 => ?_) (fun h9 => ?_); first | contradiction | (subst h9; first | rfl | contradiction)))))⟩) (mem3 (.tail _ (.head _)) (.tail _ (.tail _ (.head _))) (.tail _ (.tail _ (.tail _ (.head _))))) own3
      · intro m₁ nx h tk zz9 F' N'
        (try ((with_reducible show wpAny _ _ _ _ _ _); k_fold))
        refine exE4 zz9 ?_
        clear zz9
        intro ys c u1 u2 zz8
        refine anE3 zz8 ?_
        clear zz8
        rintro rfl hI rfl
        ((try ((with_reducible show wpAny _ _ _ _ _ _); k_fold)); repeat' (first | ((fail_if_success (with_reducible show wpAny _ _ (pyIter _) _ _ _)); (fail_if_success (with_reducible show wpAny _ _ (exec (Stmt.For _ _ _ _ _) _) _ _ _)); (fail_if_success (with_reducible show wpAny _ _ (eval (PySem.Expr.ListComp _ _ _ _) _) _ _ _)); (fail_if_success (with_reducible show wpAny _ _ (exec (Stmt.Assign _ (PySem.Expr.ListComp _ _ _ _) _) _) _ _ _)); (fail_if_success (with_reducible show wpAny _ _ (eval (PySem.Expr.Lambda _ _ _ _) _) _ _ _)); (fail_if_success (with_reducible show LCt.CompSrcT _ _ _ _ _ _ _ _ _ _ _ _ _ _ _)); (fail_if_success (with_reducible show LCg.CompSrc _ _ _ _ _ _ _ _ _ _ _ _ _ _)); (fail_if_success (with_reducible show LCg.CompEnd _ _ _ _ _ _ _ _ _ _ _ _ _ _)); first | (k_unfold; (try dsimp only)) | (k_here; (with_reducible show wpAny _ _ (call (Value.builtin "len") [Value.ref _]) _ _ _); (refine' lenListB ?k1 ?k2 ?k3 ?k4 ?_; (case k1 => k_asm); (case k2 => assumption); (case k3 => assumption); (case k4 => omega))) | (k_here; (with_reducible show wpAny _ _ (subscriptTail _ _ (Value.ref _) (Value.int _ _)) _ _ _); (refine' itemB ?k1 ?k2 ?k3 ?k4 ?k5 ?_ ?k6; (case k1 => k_asm); (case k2 => assumption); (case k5 => assumption); (case k3 => omega); (case k4 => omega); (case k6 => with_unfolding_all rfl))) | (k_here; (with_reducible show wpAny _ _ (call (Value.ref 113) _) _ _ _); (refine use (by k_asm) (by k_asm) (below (Gr.keeps (by assumption) (Fr.keep (by k_asm))) (Fr.lst (by k_asm) (by assumption)) (by assumption) (Fr.lst (by k_asm) (by assumption)) (by assumption) (by assumption) (by assumption) (by ((refine ⟨rfl, ?_, ?_⟩ <;> first | exact rm1 (by assumption) (by decide) | exact rm0 (by assumption) (by decide) | exact rm2 (by assumption) (by decide) | ((try simp only [Around.deeper, Around.in1]); omega))))) ?_; rintro _ _ _ _ _ _ e9; subst e9; (try dsimp only))) | walk1 | (dsimp only; walk1))))
        dsimp only
        refine OutB.of F' ⟨[(Dh, listOf ys c)], Fresh.of_news N' (fun q hq => by rw [List.mem_singleton.mp hq]; exact .tail _ (.head _)), ⟨_, (N' _ (.tail _ (.tail _ (.tail _ (.head _))))).1⟩, ns3, ⟨Dh, ys, c, rfl, rfl, ?_⟩, p3, w3⟩
        rw [i3.length, List.take_of_length_le (Nat.le_refl _)] at hI
        exact hI
  · rintro i v ys news hi9 ⟨rfl, hy⟩ hv I oI C oC D m₂ h tk E' hC hx F' N' off ne
    ((try ((with_reducible show wpAny _ _ _ _ _ _); k_fold)); repeat' (first | ((fail_if_success (with_reducible show wpAny _ _ (pyIter _) _ _ _)); (fail_if_success (with_reducible show wpAny _ _ (exec (Stmt.For _ _ _ _ _) _) _ _ _)); (fail_if_success (with_reducible show wpAny _ _ (eval (PySem.Expr.ListComp _ _ _ _) _) _ _ _)); (fail_if_success (with_reducible show wpAny _ _ (exec (Stmt.Assign _ (PySem.Expr.ListComp _ _ _ _) _) _) _ _ _)); (fail_if_success (with_reducible show wpAny _ _ (eval (PySem.Expr.Lambda _ _ _ _) _) _ _ _)); (fail_if_success (with_reducible show LCt.CompSrcT _ _ _ _ _ _ _ _ _ _ _ _ _ _ _)); (fail_if_success (with_reducible show LCg.CompSrc _ _ _ _ _ _ _ _ _ _ _ _ _ _)); (fail_if_success (with_reducible show LCg.CompEnd _ _ _ _ _ _ _ _ _ _ _ _ _ _)); first | (k_unfold; (try dsimp only)) | (k_here; (with_reducible show wpAny _ _ (call (Value.builtin "len") [Value.ref _]) _ _ _); (refine' lenListB ?k1 ?k2 ?k3 ?k4 ?_; (case k1 => k_asm); (case k2 => assumption); (case k3 => assumption); (case k4 => omega))) | (k_here; (with_reducible show wpAny _ _ (subscriptTail _ _ (Value.ref _) (Value.int _ _)) _ _ _); (refine' itemB ?k1 ?k2 ?k3 ?k4 ?k5 ?_ ?k6; (case k1 => k_asm); (case k2 => assumption); (case k5 => assumption); (case k3 => omega); (case k4 => omega); (case k6 => with_unfolding_all rfl))) | (k_here; (with_reducible show wpAny _ _ (call (Value.ref 113) _) _ _ _); (refine use (by k_asm) (by k_asm) (below (Gr.keeps (by assumption) (Fr.keep (by k_asm))) (Fr.lst (by k_asm) (by assumption)) (by assumption) (Fr.lst (by k_asm) (by assumption)) (by assumption) (by assumption) (by assumption) (by ((refine ⟨rfl, ?_, ?_⟩ <;> first | exact rm1 (by assumption) (by decide) | exact rm0 (by assumption) (by decide) | exact rm2 (by assumption) (by decide) | ((try simp only [Around.deeper, Around.in1]); omega))))) ?_; rintro _ _ _ _ _ _ e9; subst e9; (try dsimp only))) | walk1 | (dsimp only; walk1))))
    refine LCg.CompEnd.intro (by assumption) N' _ (fun _ h => h) off (.inl hl) ⟨rfl, ?_⟩
    rw [List.replicate_succ']
    exact ints_snoc hy _ _
end
theorem filter_take {os : List Int} {P : Int → Bool} {i : Nat} {k : Int} (h : os[i]? = some k) : (os.take (i + 1)).filter P = (os.take i).filter P ++ (if P k then [k] else []) := by
  rw [List.take_add_one, h, List.filter_append]
  congr 1
  simp only [Option.toList_some, List.filter_cons, List.filter_nil]
theorem filter_yes {os : List Int} {P : Int → Bool} {i : Nat} {k : Int} {t : Tok} {ys : List Value} (h : os[i]? = some k) (hP : P k = true) (I : IntsAre ys ((os.take i).filter P)) : IntsAre (ys ++ [.int k t]) ((os.take (i + 1)).filter P) := by
  rw [filter_take h, if_pos hP]; exact ints_snoc I _ _
theorem filter_no {os : List Int} {P : Int → Bool} {i : Nat} {k : Int} {ys : List Value} (h : os[i]? = some k) (hP : P k = false) (I : IntsAre ys ((os.take i).filter P)) : IntsAre ys ((os.take (i + 1)).filter P) := by
  rw [filter_take h, hP]; simpa using I
/-- one part: three lists in a tuple -/
noncomputable def P3 (nw : List (Addr × Obj)) (v : Value) (q : List Int × List Int × List Int) : Prop :=
  ∃ (t a b c : Addr) (e : Nat) (va vb vc : Array Value) (ea eb ec : Nat), v = .ref t ∧ (t, tupOf [.ref a, .ref b, .ref c] e) ∈ nw ∧ (a, listOf va ea) ∈ nw ∧ IntsAre va.toList q.1 ∧ (b, listOf vb eb) ∈ nw ∧ IntsAre vb.toList q.2.1 ∧ (c, listOf vc ec) ∈ nw ∧ IntsAre vc.toList q.2.2
theorem P3.mono {nw nw' : List (Addr × Obj)} {v : Value} {q : List Int × List Int × List Int} (h : P3 nw v q) (hs : ∀ p ∈ nw, p ∈ nw') : P3 nw' v q := by
  refine exE11 h ?_
  clear h
  intro t a b c e va vb vc ea eb ec zz8
  refine anE8 zz8 ?_
  clear zz8
  rintro h0 h1 h2 h3 h4 h5 h6 h7
  exact ⟨t, a, b, c, e, va, vb, vc, ea, eb, ec, h0, hs _ h1, hs _ h2, h3, hs _ h4, h5, hs _ h6, h7⟩
theorem Paired.mono {α β : Type} {F G : α → β → Prop} (hf : ∀ a b, F a b → G a b) {l : List α} {l' : List β} (h : Paired F l l') : Paired G l l' := by
  induction h with
  | nil => exact .nil
  | cons h _ ih => exact .cons (hf _ _ h) ih
noncomputable def partAt (os rs : List Int) (h : Int) : List Int × List Int × List Int := (os.filter fun k => decide (h ≤ rs.getD k.toNat 0), os.filter fun k => decide (rs.getD k.toNat 0 = h), os.filter fun k => decide (h < rs.getD k.toNat 0))
noncomputable def partsTo (os rs : List Int) (n : Nat) : List (List Int × List Int × List Int) := (List.range n).map fun (h : Nat) => partAt os rs (0 + (h : Int))
/-- things that are no cells and no iterators -/
noncomputable def Plain (o : Obj) : Prop := (o.cls = .type "list" ∨ o.cls = .type "tuple") ∧ ∀ v, o.data ≠ .cell v
theorem Plain.not {o : Obj} (h : Plain o) : NotIt (.type "range_iterator") o := .inl (by rcases h.1 with e | e <;> rw [e] <;> decide)
theorem Plain.list {vs : Array Value} {c : Nat} : Plain (listOf vs c) := ⟨.inl rfl, fun v e => by cases e⟩
theorem Plain.tup {vs : List Value} {c : Nat} : Plain (tupOf vs c) := ⟨.inr rfl, fun v e => by cases e⟩

theorem parts {A : Around} {s : Shared} {lo lr : Addr} {vo vr : List Value} {os rs : List Int} (G : Gr w p loose mean mg mb s.heap) (hlo : s.heap.IsList lo vo.toArray) (hio : IntsAre vo os) (hlr : s.heap.IsList lr vr.toArray) (hir : IntsAre vr rs) (hin : ∀ k ∈ os, 0 ≤ k ∧ k < rs.length) (hno : os.length < 100) (hnr : rs.length < 100) (hr0 : rs ≠ []) (hrb : ∀ r ∈ rs, 0 ≤ r ∧ r < 1000) (R : Rm 12 A) :
    wpAny (model PR w) A (call (.ref 123) [.ref lo, .ref lr]) (Out s fun v h => ∃ nw, Fresh s.heap h nw ∧ ∃ M, M ∈ rs ∧ (∀ a ∈ rs, a ≤ M) ∧ ∃ (D : Addr) (vs : Array Value) (c : Nat), v = .ref D ∧ (D, listOf vs c) ∈ nw ∧ Paired (P3 nw) vs.toList (partsTo os rs (M + 1).toNat)) NoE s := by
  obtain ⟨_, dp, fr, gd, un⟩ := A
  obtain ⟨hh, hd, hu⟩ := R
  cases hh
  dsimp only at hd hu
  refine wpAny_call ?_
  refine enterC [(Str.ofString "order", .ref lo), (Str.ofString "ranks", .ref lr)] G (Ledge.refl _) (by k_is) (by k_is) (rm00 hd) (BindsTo.of_eq rfl) rfl (by decide +kernel) ?_ rfl rfl rfl
  intro L' h₁ tk cells F N Y _
  have hY := CellsAre.two Y
  refine exE2 hY ?_
  clear hY
  intro o1 o2 zz8
  refine anE3 zz8 ?_
  clear zz8
  rintro rfl d1 d2
  replace d1 : o1.data = .cell none := d1
  replace d2 : o2.data = .cell (some (.ref lr)) := d2
  clear Y
  simp only [List.cons_append, List.nil_append] at N
  have X := G.X
  have T := G.T
  ((try ((with_reducible show wpAny _ _ _ _ _ _); k_fold)); repeat' (first | ((fail_if_success (with_reducible show wpAny _ _ (pyIter _) _ _ _)); (fail_if_success (with_reducible show wpAny _ _ (exec (Stmt.For _ _ _ _ _) _) _ _ _)); (fail_if_success (with_reducible show wpAny _ _ (eval (PySem.Expr.ListComp _ _ _ _) _) _ _ _)); (fail_if_success (with_reducible show wpAny _ _ (exec (Stmt.Assign _ (PySem.Expr.ListComp _ _ _ _) _) _) _ _ _)); (fail_if_success (with_reducible show wpAny _ _ (eval (PySem.Expr.Lambda _ _ _ _) _) _ _ _)); (fail_if_success (with_reducible show LCt.CompSrcT _ _ _ _ _ _ _ _ _ _ _ _ _ _ _)); (fail_if_success (with_reducible show LCg.CompSrc _ _ _ _ _ _ _ _ _ _ _ _ _ _)); (fail_if_success (with_reducible show LCg.CompEnd _ _ _ _ _ _ _ _ _ _ _ _ _ _)); first | (k_unfold; (try dsimp only)) | walk1 | (dsimp only; walk1))))
  refine For_C s.heap (L' + 1 + 1) rfl rfl rfl ?_
  ((try ((with_reducible show wpAny _ _ _ _ _ _); k_fold)); repeat' (first | ((fail_if_success (with_reducible show wpAny _ _ (pyIter _) _ _ _)); (fail_if_success (with_reducible show wpAny _ _ (exec (Stmt.For _ _ _ _ _) _) _ _ _)); (fail_if_success (with_reducible show wpAny _ _ (eval (PySem.Expr.ListComp _ _ _ _) _) _ _ _)); (fail_if_success (with_reducible show wpAny _ _ (exec (Stmt.Assign _ (PySem.Expr.ListComp _ _ _ _) _) _) _ _ _)); (fail_if_success (with_reducible show wpAny _ _ (eval (PySem.Expr.Lambda _ _ _ _) _) _ _ _)); (fail_if_success (with_reducible show LCt.CompSrcT _ _ _ _ _ _ _ _ _ _ _ _ _ _ _)); (fail_if_success (with_reducible show LCg.CompSrc _ _ _ _ _ _ _ _ _ _ _ _ _ _)); (fail_if_success (with_reducible show LCg.CompEnd _ _ _ _ _ _ _ _ _ _ _ _ _ _)); first | (k_unfold; (try dsimp only)) | walk1 | (dsimp only; walk1))))
  rename_i Dp h2 _ l2 F2 N2
  refine max_list_N rfl F2 N2 (hlr.at fun o e => F2.keep _ o e) hir (List.length_pos_iff.mpr hr0) ?_
  intro h3 M t3 tk3 F3 N3 hM hMx
  have hMb := hrb M hM
  rename_i lDp
  ((try ((with_reducible show wpAny _ _ _ _ _ _); k_fold)); repeat' (first | ((fail_if_success (with_reducible show wpAny _ _ (pyIter _) _ _ _)); (fail_if_success (with_reducible show wpAny _ _ (exec (Stmt.For _ _ _ _ _) _) _ _ _)); (fail_if_success (with_reducible show wpAny _ _ (eval (PySem.Expr.ListComp _ _ _ _) _) _ _ _)); (fail_if_success (with_reducible show wpAny _ _ (exec (Stmt.Assign _ (PySem.Expr.ListComp _ _ _ _) _) _) _ _ _)); (fail_if_success (with_reducible show wpAny _ _ (eval (PySem.Expr.Lambda _ _ _ _) _) _ _ _)); (fail_if_success (with_reducible show LCt.CompSrcT _ _ _ _ _ _ _ _ _ _ _ _ _ _ _)); (fail_if_success (with_reducible show LCg.CompSrc _ _ _ _ _ _ _ _ _ _ _ _ _ _)); (fail_if_success (with_reducible show LCg.CompEnd _ _ _ _ _ _ _ _ _ _ _ _ _ _)); first | (k_unfold; (try dsimp only)) | walk1 | (dsimp only; walk1))))
  refine iterRangeC (oc := o1) (news := [(Dp, listOf #[] 0), (L' + 1, o2)]) (n := (M + 1).toNat) (fun i m nx => ∃ (ys : Array Value) (c : Nat) (old : List (Addr × Obj)) (u1 u2 : Option Value), nx = (Dp, listOf ys c) :: (L' + 1, o2) :: old ∧ (∀ q ∈ old, Plain q.2 ∧ q.1 ≠ Dp) ∧ ys.size = i ∧ Paired (P3 old) ys.toList (partsTo os rs i) ∧
      m = fun y => if y = Str.ofString "here" then u1 else if y = Str.ofString "above" then u2 else List.lookup y [(Str.ofString "parts", .ref Dp), (Str.ofString "order", .ref lo)]) rfl (by assumption) (rangeSmall1 (by omega) (by omega) (by omega) (by omega)) (by rw [rangeSize1]; omega) (by assumption) (nwS (by assumption) (by ((try dsimp only [List.cons_append, List.nil_append]); repeat' (first | with_reducible exact sb0 | exact sbN | refine sbC ?_ ?_ | refine sbA ?_ ?_ | with_reducible exact mHd | refine mTl ?_ | refine List.mem_append_right _ ?_ | refine sbT ?_ | with_reducible exact sbL sb0 | refine sbR ?_)))) d1 ?_ ?_ ?_ ?_
  · refine' (exI5 #[] 0 [] none none ⟨rfl, (fun q hq => nomatch hq), rfl, .nil, ?jm⟩)
    case jm => ((funext y9; (try simp only [lkc, List.lookup_nil, List.reverse_cons, List.reverse_nil, List.nil_append, List.cons_append]); repeat' (first | rfl | contradiction | (refine ite_l (fun h9 => ?_) (fun h9 => ?_); (subst h9; first | rfl | contradiction)) | (refine ite_r (fun h9 => ?_) (fun h9 => ?_); first | contradiction | (subst h9; first | rfl | contradiction)))))
  · intro i m nx zz9 q hq
    refine exE5 zz9 ?_
    clear zz9
    intro ys c old u1 u2 zz8
    refine anE3 zz8 ?_
    clear zz8
    rintro rfl hold _
    revert q
    exact alC ⟨Plain.list.not, .inr Plain.list.2⟩ (alC ⟨.inr (.inl ⟨_, d2⟩), .inl (Nat.ne_of_lt (Nat.lt_succ_self _))⟩ (fun q hq => ⟨(hold q hq).1.not, .inr (hold q hq).1.2⟩))
  · intro i t m₁ nx h tk oc' own hi zz9 hoff hd' hnc F' N' hoc
    (try ((with_reducible show wpAny _ _ _ _ _ _); k_fold))
    refine exE5 zz9 ?_
    clear zz9
    intro ys c old u1 u2 zz8
    refine anE5 zz8 ?_
    clear zz8
    rintro rfl hold hz hP rfl
    simp only [List.cons_append, List.nil_append] at N'
    have hoff3 : OwnOff (old ++ own) [Dp] := by
      intro q hq b hb
      rw [List.mem_singleton.mp hb]
      rcases List.mem_append.mp hq with hq | hq
      · exact (hold q hq).2
      · exact hoff q hq _ (by simp)
    ((try ((with_reducible show wpAny _ _ _ _ _ _); k_fold)); repeat' (first | ((fail_if_success (with_reducible show wpAny _ _ (pyIter _) _ _ _)); (fail_if_success (with_reducible show wpAny _ _ (exec (Stmt.For _ _ _ _ _) _) _ _ _)); (fail_if_success (with_reducible show wpAny _ _ (eval (PySem.Expr.ListComp _ _ _ _) _) _ _ _)); (fail_if_success (with_reducible show wpAny _ _ (exec (Stmt.Assign _ (PySem.Expr.ListComp _ _ _ _) _) _) _ _ _)); (fail_if_success (with_reducible show wpAny _ _ (eval (PySem.Expr.Lambda _ _ _ _) _) _ _ _)); (fail_if_success (with_reducible show LCt.CompSrcT _ _ _ _ _ _ _ _ _ _ _ _ _ _ _)); (fail_if_success (with_reducible show LCg.CompSrc _ _ _ _ _ _ _ _ _ _ _ _ _ _)); (fail_if_success (with_reducible show LCg.CompEnd _ _ _ _ _ _ _ _ _ _ _ _ _ _)); first | (k_unfold; (try dsimp only)) | walk1 | (dsimp only; walk1))))
    refine LCt.Assign_ListComp_T (F₀ := by k_asm) (by rfl) (by with_unfolding_all rfl) (by with_unfolding_all rfl) (by decide) (by rfl) (by decide) (by rfl) (by rfl) (by rfl) ?_
    ((try ((with_reducible show wpAny _ _ _ _ _ _); k_fold)); repeat' (first | ((fail_if_success (with_reducible show wpAny _ _ (pyIter _) _ _ _)); (fail_if_success (with_reducible show wpAny _ _ (exec (Stmt.For _ _ _ _ _) _) _ _ _)); (fail_if_success (with_reducible show wpAny _ _ (eval (PySem.Expr.ListComp _ _ _ _) _) _ _ _)); (fail_if_success (with_reducible show wpAny _ _ (exec (Stmt.Assign _ (PySem.Expr.ListComp _ _ _ _) _) _) _ _ _)); (fail_if_success (with_reducible show wpAny _ _ (eval (PySem.Expr.Lambda _ _ _ _) _) _ _ _)); (fail_if_success (with_reducible show LCt.CompSrcT _ _ _ _ _ _ _ _ _ _ _ _ _ _ _)); (fail_if_success (with_reducible show LCg.CompSrc _ _ _ _ _ _ _ _ _ _ _ _ _ _)); (fail_if_success (with_reducible show LCg.CompEnd _ _ _ _ _ _ _ _ _ _ _ _ _ _)); first | (k_unfold; (try dsimp only)) | walk1 | (dsimp only; walk1))))
    refine LCt.CompSrcT.base (by rfl) (by k_asm) (by k_asm) hlo (by rw [sizeLine_eq, List.size_toArray, hio.length]; omega) ?_
    intro g1
    refine restT vo.length (fun j ys' news => news = (L' + 1 + 1, oc') :: (Dp, listOf ys c) :: (L' + 1, o2) :: (old ++ own) ∧ IntsAre ys' ((os.take j).filter fun k => decide (rs.getD k.toNat 0 = 0 + (i : Int)))) ?_ ?_ _ 0 [] _ (by simp) ⟨rfl, .nil⟩
    rotate_left
    · rintro j v ys' news hj9 ⟨rfl, hy⟩ hv I oI C oC D m₂ h tk E' hC hx F' N' off ne
      have hj : os[j]? = some (os[j]'(by rw [← hio.length]; exact hj9)) := List.getElem?_eq_getElem _
      obtain ⟨tj, htj⟩ := hio.get j _ hj
      have hvj := hv
      rw [List.getElem?_toArray, htj] at hvj
      obtain rfl := Option.some.inj hvj
      have hk := hin _ (List.mem_of_getElem? hj)
      generalize os[j]'(by rw [← hio.length]; exact hj9) = kk at *
      ((try ((with_reducible show wpAny _ _ _ _ _ _); k_fold)); repeat' (first | ((fail_if_success (with_reducible show wpAny _ _ (pyIter _) _ _ _)); (fail_if_success (with_reducible show wpAny _ _ (exec (Stmt.For _ _ _ _ _) _) _ _ _)); (fail_if_success (with_reducible show wpAny _ _ (eval (PySem.Expr.ListComp _ _ _ _) _) _ _ _)); (fail_if_success (with_reducible show wpAny _ _ (exec (Stmt.Assign _ (PySem.Expr.ListComp _ _ _ _) _) _) _ _ _)); (fail_if_success (with_reducible show wpAny _ _ (eval (PySem.Expr.Lambda _ _ _ _) _) _ _ _)); (fail_if_success (with_reducible show LCt.CompSrcT _ _ _ _ _ _ _ _ _ _ _ _ _ _ _)); (fail_if_success (with_reducible show LCg.CompSrc _ _ _ _ _ _ _ _ _ _ _ _ _ _)); (fail_if_success (with_reducible show LCg.CompEnd _ _ _ _ _ _ _ _ _ _ _ _ _ _)); first | (k_unfold; (try dsimp only)) | walk1 | (dsimp only; walk1))))
      · exact LCg.CompEnd.intro (by assumption) N' _ (fun _ h => h) off (.inl hlo) ⟨rfl, filter_yes hj (by apply decide_eq_true; first | assumption | omega) hy⟩
      · exact LCg.CompEnd.intro (by assumption) N' _ (fun _ h => h) off (.inl hlo) ⟨rfl, filter_no hj (by apply decide_eq_false; first | assumption | omega) hy⟩
    rintro ys1 news ⟨rfl, hy1⟩
    ((try ((with_reducible show wpAny _ _ _ _ _ _); k_fold)); repeat' (first | ((fail_if_success (with_reducible show wpAny _ _ (pyIter _) _ _ _)); (fail_if_success (with_reducible show wpAny _ _ (exec (Stmt.For _ _ _ _ _) _) _ _ _)); (fail_if_success (with_reducible show wpAny _ _ (eval (PySem.Expr.ListComp _ _ _ _) _) _ _ _)); (fail_if_success (with_reducible show wpAny _ _ (exec (Stmt.Assign _ (PySem.Expr.ListComp _ _ _ _) _) _) _ _ _)); (fail_if_success (with_reducible show wpAny _ _ (eval (PySem.Expr.Lambda _ _ _ _) _) _ _ _)); (fail_if_success (with_reducible show LCt.CompSrcT _ _ _ _ _ _ _ _ _ _ _ _ _ _ _)); (fail_if_success (with_reducible show LCg.CompSrc _ _ _ _ _ _ _ _ _ _ _ _ _ _)); (fail_if_success (with_reducible show LCg.CompEnd _ _ _ _ _ _ _ _ _ _ _ _ _ _)); first | (k_unfold; (try dsimp only)) | walk1 | (dsimp only; walk1))))
    rename_i D1 h4 _ F4 N4 o4
    refine LCt.Assign_ListComp_T (F₀ := by k_asm) (by rfl) (by with_unfolding_all rfl) (by with_unfolding_all rfl) (by decide) (by rfl) (by decide) (by rfl) (by rfl) (by rfl) ?_
    ((try ((with_reducible show wpAny _ _ _ _ _ _); k_fold)); repeat' (first | ((fail_if_success (with_reducible show wpAny _ _ (pyIter _) _ _ _)); (fail_if_success (with_reducible show wpAny _ _ (exec (Stmt.For _ _ _ _ _) _) _ _ _)); (fail_if_success (with_reducible show wpAny _ _ (eval (PySem.Expr.ListComp _ _ _ _) _) _ _ _)); (fail_if_success (with_reducible show wpAny _ _ (exec (Stmt.Assign _ (PySem.Expr.ListComp _ _ _ _) _) _) _ _ _)); (fail_if_success (with_reducible show wpAny _ _ (eval (PySem.Expr.Lambda _ _ _ _) _) _ _ _)); (fail_if_success (with_reducible show LCt.CompSrcT _ _ _ _ _ _ _ _ _ _ _ _ _ _ _)); (fail_if_success (with_reducible show LCg.CompSrc _ _ _ _ _ _ _ _ _ _ _ _ _ _)); (fail_if_success (with_reducible show LCg.CompEnd _ _ _ _ _ _ _ _ _ _ _ _ _ _)); first | (k_unfold; (try dsimp only)) | walk1 | (dsimp only; walk1))))
    refine LCt.CompSrcT.base (by rfl) (by k_asm) (by k_asm) hlo (by rw [sizeLine_eq, List.size_toArray, hio.length]; omega) ?_
    intro g2
    refine restT vo.length (fun j ys' news => news = (D1, LCg.lst ys1) :: (L' + 1 + 1, oc') :: (Dp, listOf ys c) :: (L' + 1, o2) :: (old ++ own) ∧ IntsAre ys' ((os.take j).filter fun k => decide (0 + (i : Int) < rs.getD k.toNat 0))) ?_ ?_ _ 0 [] _ (by simp) ⟨rfl, .nil⟩
    rotate_left
    · rintro j v ys' news hj9 ⟨rfl, hy⟩ hv I oI C oC D m₂ h tk E' hC hx F' N' off ne
      have hj : os[j]? = some (os[j]'(by rw [← hio.length]; exact hj9)) := List.getElem?_eq_getElem _
      obtain ⟨tj, htj⟩ := hio.get j _ hj
      have hvj := hv
      rw [List.getElem?_toArray, htj] at hvj
      obtain rfl := Option.some.inj hvj
      have hk := hin _ (List.mem_of_getElem? hj)
      generalize os[j]'(by rw [← hio.length]; exact hj9) = kk at *
      ((try ((with_reducible show wpAny _ _ _ _ _ _); k_fold)); repeat' (first | ((fail_if_success (with_reducible show wpAny _ _ (pyIter _) _ _ _)); (fail_if_success (with_reducible show wpAny _ _ (exec (Stmt.For _ _ _ _ _) _) _ _ _)); (fail_if_success (with_reducible show wpAny _ _ (eval (PySem.Expr.ListComp _ _ _ _) _) _ _ _)); (fail_if_success (with_reducible show wpAny _ _ (exec (Stmt.Assign _ (PySem.Expr.ListComp _ _ _ _) _) _) _ _ _)); (fail_if_success (with_reducible show wpAny _ _ (eval (PySem.Expr.Lambda _ _ _ _) _) _ _ _)); (fail_if_success (with_reducible show LCt.CompSrcT _ _ _ _ _ _ _ _ _ _ _ _ _ _ _)); (fail_if_success (with_reducible show LCg.CompSrc _ _ _ _ _ _ _ _ _ _ _ _ _ _)); (fail_if_success (with_reducible show LCg.CompEnd _ _ _ _ _ _ _ _ _ _ _ _ _ _)); first | (k_unfold; (try dsimp only)) | walk1 | (dsimp only; walk1))))
      · exact LCg.CompEnd.intro (by assumption) N' _ (fun _ h => h) off (.inl hlo) ⟨rfl, filter_yes hj (by apply decide_eq_true; first | assumption | omega) hy⟩
      · exact LCg.CompEnd.intro (by assumption) N' _ (fun _ h => h) off (.inl hlo) ⟨rfl, filter_no hj (by apply decide_eq_false; first | assumption | omega) hy⟩
    rintro ys2 news ⟨rfl, hy2⟩
    ((try ((with_reducible show wpAny _ _ _ _ _ _); k_fold)); repeat' (first | ((fail_if_success (with_reducible show wpAny _ _ (pyIter _) _ _ _)); (fail_if_success (with_reducible show wpAny _ _ (exec (Stmt.For _ _ _ _ _) _) _ _ _)); (fail_if_success (with_reducible show wpAny _ _ (eval (PySem.Expr.ListComp _ _ _ _) _) _ _ _)); (fail_if_success (with_reducible show wpAny _ _ (exec (Stmt.Assign _ (PySem.Expr.ListComp _ _ _ _) _) _) _ _ _)); (fail_if_success (with_reducible show wpAny _ _ (eval (PySem.Expr.Lambda _ _ _ _) _) _ _ _)); (fail_if_success (with_reducible show LCt.CompSrcT _ _ _ _ _ _ _ _ _ _ _ _ _ _ _)); (fail_if_success (with_reducible show LCg.CompSrc _ _ _ _ _ _ _ _ _ _ _ _ _ _)); (fail_if_success (with_reducible show LCg.CompEnd _ _ _ _ _ _ _ _ _ _ _ _ _ _)); first | (k_unfold; (try dsimp only)) | walk1 | (dsimp only; walk1))))
    rename_i D2 h5 _ F5 N5 o5
    refine LCt.ListComp_T (F₀ := by k_asm) (by with_unfolding_all rfl) (by decide) (by rfl) (by decide) (by rfl) ?_
    ((try ((with_reducible show wpAny _ _ _ _ _ _); k_fold)); repeat' (first | ((fail_if_success (with_reducible show wpAny _ _ (pyIter _) _ _ _)); (fail_if_success (with_reducible show wpAny _ _ (exec (Stmt.For _ _ _ _ _) _) _ _ _)); (fail_if_success (with_reducible show wpAny _ _ (eval (PySem.Expr.ListComp _ _ _ _) _) _ _ _)); (fail_if_success (with_reducible show wpAny _ _ (exec (Stmt.Assign _ (PySem.Expr.ListComp _ _ _ _) _) _) _ _ _)); (fail_if_success (with_reducible show wpAny _ _ (eval (PySem.Expr.Lambda _ _ _ _) _) _ _ _)); (fail_if_success (with_reducible show LCt.CompSrcT _ _ _ _ _ _ _ _ _ _ _ _ _ _ _)); (fail_if_success (with_reducible show LCg.CompSrc _ _ _ _ _ _ _ _ _ _ _ _ _ _)); (fail_if_success (with_reducible show LCg.CompEnd _ _ _ _ _ _ _ _ _ _ _ _ _ _)); first | (k_unfold; (try dsimp only)) | walk1 | (dsimp only; walk1))))
    refine LCt.CompSrcT.base (by rfl) (by k_asm) (by k_asm) hlo (by rw [sizeLine_eq, List.size_toArray, hio.length]; omega) ?_
    intro g3
    refine restT vo.length (fun j ys' news => news = (D2, LCg.lst ys2) :: (D1, LCg.lst ys1) :: (L' + 1 + 1, oc') :: (Dp, listOf ys c) :: (L' + 1, o2) :: (old ++ own) ∧ IntsAre ys' ((os.take j).filter fun k => decide (0 + (i : Int) ≤ rs.getD k.toNat 0))) ?_ ?_ _ 0 [] _ (by simp) ⟨rfl, .nil⟩
    rotate_left
    · rintro j v ys' news hj9 ⟨rfl, hy⟩ hv I oI C oC D m₂ h tk E' hC hx F' N' off ne
      have hj : os[j]? = some (os[j]'(by rw [← hio.length]; exact hj9)) := List.getElem?_eq_getElem _
      obtain ⟨tj, htj⟩ := hio.get j _ hj
      have hvj := hv
      rw [List.getElem?_toArray, htj] at hvj
      obtain rfl := Option.some.inj hvj
      have hk := hin _ (List.mem_of_getElem? hj)
      generalize os[j]'(by rw [← hio.length]; exact hj9) = kk at *
      ((try ((with_reducible show wpAny _ _ _ _ _ _); k_fold)); repeat' (first | ((fail_if_success (with_reducible show wpAny _ _ (pyIter _) _ _ _)); (fail_if_success (with_reducible show wpAny _ _ (exec (Stmt.For _ _ _ _ _) _) _ _ _)); (fail_if_success (with_reducible show wpAny _ _ (eval (PySem.Expr.ListComp _ _ _ _) _) _ _ _)); (fail_if_success (with_reducible show wpAny _ _ (exec (Stmt.Assign _ (PySem.Expr.ListComp _ _ _ _) _) _) _ _ _)); (fail_if_success (with_reducible show wpAny _ _ (eval (PySem.Expr.Lambda _ _ _ _) _) _ _ _)); (fail_if_success (with_reducible show LCt.CompSrcT _ _ _ _ _ _ _ _ _ _ _ _ _ _ _)); (fail_if_success (with_reducible show LCg.CompSrc _ _ _ _ _ _ _ _ _ _ _ _ _ _)); (fail_if_success (with_reducible show LCg.CompEnd _ _ _ _ _ _ _ _ _ _ _ _ _ _)); first | (k_unfold; (try dsimp only)) | walk1 | (dsimp only; walk1))))
      · exact LCg.CompEnd.intro (by assumption) N' _ (fun _ h => h) off (.inl hlo) ⟨rfl, filter_yes hj (by apply decide_eq_true; first | assumption | omega) hy⟩
      · exact LCg.CompEnd.intro (by assumption) N' _ (fun _ h => h) off (.inl hlo) ⟨rfl, filter_no hj (by apply decide_eq_false; first | assumption | omega) hy⟩
    rintro ys3 news ⟨rfl, hy3⟩
    ((try ((with_reducible show wpAny _ _ _ _ _ _); k_fold)); repeat' (first | ((fail_if_success (with_reducible show wpAny _ _ (pyIter _) _ _ _)); (fail_if_success (with_reducible show wpAny _ _ (exec (Stmt.For _ _ _ _ _) _) _ _ _)); (fail_if_success (with_reducible show wpAny _ _ (eval (PySem.Expr.ListComp _ _ _ _) _) _ _ _)); (fail_if_success (with_reducible show wpAny _ _ (exec (Stmt.Assign _ (PySem.Expr.ListComp _ _ _ _) _) _) _ _ _)); (fail_if_success (with_reducible show wpAny _ _ (eval (PySem.Expr.Lambda _ _ _ _) _) _ _ _)); (fail_if_success (with_reducible show LCt.CompSrcT _ _ _ _ _ _ _ _ _ _ _ _ _ _ _)); (fail_if_success (with_reducible show LCg.CompSrc _ _ _ _ _ _ _ _ _ _ _ _ _ _)); (fail_if_success (with_reducible show LCg.CompEnd _ _ _ _ _ _ _ _ _ _ _ _ _ _)); first | (k_unfold; (try dsimp only)) | walk1 | (dsimp only; walk1))))
    rename_i D3 _ _ o6 T6 _ l6 _ F6 N6
    have et : os.take vo.length = os := List.take_of_length_le (by rw [hio.length]; exact Nat.le_refl _)
    rw [et] at hy1 hy2 hy3
    have ep : partsTo os rs (i + 1) = partsTo os rs i ++ [partAt os rs (0 + (i : Int))] := by
      unfold partsTo
      rw [List.range_succ, List.map_append]; rfl
    have hP' : Paired (P3 ((T6, tupOf [.ref D3, .ref D1, .ref D2] 0) :: (D3, LCg.lst ys3) :: (D2, LCg.lst ys2) :: (D1, LCg.lst ys1) :: old)) (ys.push (.ref T6)).toList (partsTo os rs (i + 1)) := by
      rw [ep, Array.toList_push]
      refine Paired.snoc (Paired.mono (fun a b h => h.mono fun q hq => .tail _ (.tail _ (.tail _ (.tail _ hq)))) hP) ?_
      exact ⟨T6, D3, D1, D2, 0, ys3.toArray, ys1.toArray, ys2.toArray, _, _, _, rfl, .head _, .tail _ (.head _), hy3, .tail _ (.tail _ (.tail _ (.head _))), hy1, .tail _ (.tail _ (.head _)), hy2⟩
    refine TurnEnd.go F6 N6 (nx := (Dp, listOf (ys.push (.ref T6)) (c + 1)) :: (L' + 1, o2) :: ((T6, tupOf [.ref D3, .ref D1, .ref D2] 0) :: (D3, LCg.lst ys3) :: (D2, LCg.lst ys2) :: (D1, LCg.lst ys1) :: old)) (exI5 (ys.push (.ref T6)) (c + 1) _ _ _ ⟨rfl, ?_, by rw [Array.size_push, hz], hP', by ((funext y9; (try simp only [lkc, List.lookup_nil, List.reverse_cons, List.reverse_nil, List.nil_append, List.cons_append]); repeat' (first | rfl | contradiction | (refine ite_l (fun h9 => ?_) (fun h9 => ?_); (subst h9; first | rfl | contradiction)) | (refine ite_r (fun h9 => ?_) (fun h9 => ?_); first | contradiction | (subst h9; first | rfl | contradiction)))))⟩) ?_ ?_
    · exact alC ⟨Plain.tup, Nat.ne_of_gt l6.2.2.2.2.1⟩ (alC ⟨Plain.list, Ne.symm o6.2.2.2.1⟩ (alC ⟨Plain.list, Ne.symm o5.2.2.1⟩ (alC ⟨Plain.list, Ne.symm o4.2.1⟩ hold)))
    · ((try dsimp only [List.cons_append, List.nil_append]); repeat' (first | with_reducible exact sb0 | exact sbN | refine sbC ?_ ?_ | refine sbA ?_ ?_ | with_reducible exact mHd | refine mTl ?_ | refine List.mem_append_right _ ?_ | refine sbT ?_ | with_reducible exact sbL sb0 | refine sbR ?_))
    · exact alC (.tail _ (.tail _ (.tail _ (.tail _ (.head _))))) (fun q hq => .tail _ (.tail _ (.tail _ (.tail _ (.tail _ (.tail _ (.tail _ (List.mem_append_right _ hq))))))))
  · intro m₁ nx h tk zz9 F' N'
    (try ((with_reducible show wpAny _ _ _ _ _ _); k_fold))
    refine exE5 zz9 ?_
    clear zz9
    intro ys c old u1 u2 zz8
    refine anE5 zz8 ?_
    clear zz8
    rintro rfl hold hz hP rfl
    ((try ((with_reducible show wpAny _ _ _ _ _ _); k_fold)); repeat' (first | ((fail_if_success (with_reducible show wpAny _ _ (pyIter _) _ _ _)); (fail_if_success (with_reducible show wpAny _ _ (exec (Stmt.For _ _ _ _ _) _) _ _ _)); (fail_if_success (with_reducible show wpAny _ _ (eval (PySem.Expr.ListComp _ _ _ _) _) _ _ _)); (fail_if_success (with_reducible show wpAny _ _ (exec (Stmt.Assign _ (PySem.Expr.ListComp _ _ _ _) _) _) _ _ _)); (fail_if_success (with_reducible show wpAny _ _ (eval (PySem.Expr.Lambda _ _ _ _) _) _ _ _)); (fail_if_success (with_reducible show LCt.CompSrcT _ _ _ _ _ _ _ _ _ _ _ _ _ _ _)); (fail_if_success (with_reducible show LCg.CompSrc _ _ _ _ _ _ _ _ _ _ _ _ _ _)); (fail_if_success (with_reducible show LCg.CompEnd _ _ _ _ _ _ _ _ _ _ _ _ _ _)); first | (k_unfold; (try dsimp only)) | walk1 | (dsimp only; walk1))))
    dsimp only
    exact Out.of F' ⟨_, Fresh.of_news N' (fun _ h => h), M, hM, hMx, Dp, ys, c, rfl, .head _, Paired.mono (fun a b h => h.mono fun q hq => .tail _ (.tail _ hq)) hP⟩
/-- a list of Whitespaces -/
noncomputable def MksAt (w : World) (h : Heap) (l : Addr) (mks : List Mk) : Prop := ∃ vs : List Value, h.IsList l vs.toArray ∧ vs.length = mks.length ∧ ∀ i (hi : i < mks.length), ∃ a, vs[i]? = some (.ref a) ∧ IsMk w h a mks[i]
theorem hide_get {h : Heap} {P a : Addr} {ps : Array Value} {o : Obj} (hP : h.get? P = some (tabObj ps)) (e : h.get? a = some o) (hc : o.cls ≠ .none) : (hideAll h [P]).get? a = some o :=
  hideAll_get _ e fun q => hc (by rw [List.mem_singleton.mp q, hP] at e; rw [← Option.some.inj e])
theorem hide_list {h : Heap} {P a : Addr} {ps items : Array Value} (hP : h.get? P = some (tabObj ps)) (x : h.IsList a items) : (hideAll h [P]).IsList a items :=
  let ⟨o, e, hc, r⟩ := x; ⟨o, hide_get hP e (by rw [hc]; decide), hc, r⟩
theorem IsMk.hide {h : Heap} {P x : Addr} {ps : Array Value} {k : Mk} (hP : h.get? P = some (tabObj ps)) (a : IsMk w h x k) : IsMk w (hideAll h [P]) x k := by
  refine exE16 a ?_
  clear a
  intro dx tn tc t1 t2 t3 t4 t5 t6 t7 t8 n tb cv e1 e2 zz8
  refine anE5 zz8 ?_
  clear zz8
  rintro h1 h2 h3 h4 h5
  exact ⟨dx, tn, tc, t1, t2, t3, t4, t5, t6, t7, t8, n, tb, cv, e1, e2, hide_get hP h1 (by intro h; cases h), hide_get hP h2 (by simp), hide_get hP h3 (by simp), hide_get hP h4 (by simp), h5⟩
theorem MksAt.hide {h : Heap} {P l : Addr} {ps : Array Value} {mks : List Mk} (hP : h.get? P = some (tabObj ps)) (x : MksAt w h l mks) : MksAt w (hideAll h [P]) l mks := by
  obtain ⟨vs, h1, h2, h3⟩ := x
  refine ⟨vs, hide_list hP h1, h2, fun i hi => ?_⟩
  obtain ⟨a, q1, q2⟩ := h3 i hi
  exact ⟨a, q1, q2.hide hP⟩
theorem MksAt.stay {h h' : Heap} {l : Addr} {mks : List Mk} (st : Stay h h') (x : MksAt w h l mks) : MksAt w h' l mks := by
  obtain ⟨vs, h1, h2, h3⟩ := x
  refine ⟨vs, h1.at fun o e => st _ _ e, h2, fun i hi => ?_⟩
  obtain ⟨a, q1, q2⟩ := h3 i hi
  exact ⟨a, q1, q2.stay st⟩
/-- the table of a def that makes one lambda -/
noncomputable def TabOk (pos : Pos) (qual : Str) (ps : Array Value) (news : List (Addr × Obj)) : Prop :=
  ps = #[] ∨ ∃ c' oc vs t, ps = #[rawInt pos.line, rawInt pos.col, .ref c'] ∧ (c', oc) ∈ news ∧ oc.data = .fields vs ∧ vs[1]? = some (.str qual t)
theorem lamAny {M : Model} {A : Around} {E : Value → Shared → Prop} {s : Shared} {h₀ : Heap} {L a c P : Addr} {m : Str → Option Value} {cn : Str} {cs : Scope} {ccd : Value} {cl : List (Str × Addr)} {rest : List (Addr × Obj)}
    {name qual : Str} {params : Arguments} {body : PySem.Expr} {scope : Scope} {ps : Array Value} {pos : Pos} {firstLine : Nat} {clos : List (Str × Addr)} {Q : Value → Shared → Prop} (F : Fr h₀ L s.heap m) (N : News h₀ L s.heap ((P, tabObj ps) :: rest)) (T : Top p loose mean mg mb h₀) (C : CodeHd h₀ c P) (hcd : ccd = .ref c) (hP : ∀ q ∈ rest, q.1 ≠ P)
    (ht : TabOk pos qual ps rest) (hcl : closureFor scope (envX cn cs L a ccd cl) = pure clos)
    (h : ∀ f c' oc vs t ctv pm h' tk, Fr h₀ L h' m → News h₀ L h' ((f, kla_obj name qual params body scope clos pm c' ctv) :: (c', oc) :: (P, tabObj #[rawInt pos.line, rawInt pos.col, .ref c']) :: rest) →
      oc.data = .fields vs → vs[1]? = some (.str qual t) → (∀ q ∈ (P, tabObj ps) :: rest, q.1 < f) → Q (.ref f) { s with heap := h', toks := tk }) :
    wpAny M A (makeFunction name qual params (.expr body) scope (envX cn cs L a ccd cl) [] [] [] pos firstLine) Q E s := by
  rcases ht with rfl | ⟨c', oc, vs, t, rfl, hm, hd, hv⟩
  · refine kla_nest F N T C hcd (UpdF.head hP) trivial rfl hcl ?_
    intro f c' oc vs t ctv h' tk F' N' hd hv l1 l2
    refine h f c' oc vs t ctv _ h' tk F' (by simpa using N') hd hv (fun q hq => Nat.lt_trans (l1 q hq) l2)
  · refine kla_hit (c' := c') F N T C hcd (.head _) (by simp [TriplesOk, rawInt]) (by simp [codeAmong, rawInt]) hcl ?_
    intro f ctv h' tk F' N' l1
    refine h f c' oc vs t ctv ((mg (Str.ofString "__name__")).getD .none) h' tk F' (fun q hq => N' q ?_) hd hv l1
    revert q
    exact alC (.head _) (alC (.tail _ (.tail _ hm)) (fun q hq => .tail _ hq))
/-- what is told at each turn -/
noncomputable def T3 (nw : List (Addr × Obj)) (v : Value) (q : List Int × List Int × List Int) : Prop :=
  ∃ (t al a y z : Addr) (e e2 : Nat) (vh vy vz : Array Value) (eh ey ez : Nat), v = .ref t ∧ (t, tupOf [.ref al, .ref a] e) ∈ nw ∧ (al, listOf vh eh) ∈ nw ∧ IntsAre vh.toList q.1 ∧ (a, tupOf [.ref y, .ref z] e2) ∈ nw ∧ (y, listOf vy ey) ∈ nw ∧ IntsAre vy.toList q.2.1 ∧ (z, listOf vz ez) ∈ nw ∧ IntsAre vz.toList q.2.2
theorem T3.mono {nw nw' : List (Addr × Obj)} {v : Value} {q : List Int × List Int × List Int} (h : T3 nw v q) (hs : ∀ p ∈ nw, p ∈ nw') : T3 nw' v q := by
  refine exE13 h ?_
  clear h
  intro t al a y z e e2 vh vy vz eh ey ez zz8
  refine anE9 zz8 ?_
  clear zz8
  rintro h0 h1 h2 h3 h4 h5 h6 h7 h8
  exact ⟨t, al, a, y, z, e, e2, vh, vy, vz, eh, ey, ez, h0, hs _ h1, hs _ h2, h3, hs _ h4, hs _ h5, h6, hs _ h7, h8⟩
noncomputable def layersGo (P : List Int → Int → Bool) : Nat → List Int → List (List Int × List Int × List Int)
  | 0, _ => []
  | n + 1, l => if l = [] then layersGo P n [] else (l, l.filter (P l), l.filter fun k => !P l k) :: layersGo P n (l.filter (P l))
noncomputable def layP (mks : List Mk) (l : List Int) (i : Int) : Bool := l.any fun j => lessP (mks.getD j.toNat ⟨⟨#[]⟩, 0, 0, [], 0, true⟩) (mks.getD i.toNat ⟨⟨#[]⟩, 0, 0, [], 0, true⟩)

/-- what may stand by -/
noncomputable def Old (o : Obj) : Prop := Plain o ∨ ∃ vs q t, o.data = .fields vs ∧ vs[1]? = some (Value.str q t)
theorem Old.not {o : Obj} (h : Old o) : NotIt (.type "list_iterator") o := by
  rcases h with h | h
  · exact .inl (by rcases h.1 with e | e <;> rw [e] <;> decide)
  · exact .inr (.inr h)
noncomputable abbrev lamPos : Pos := ⟨111, 37, 111, 91⟩
noncomputable abbrev lamQual : Str := Str.ofString "_law_layers" ++ Str.ofString ".<locals>." ++ Str.ofString "<lambda>"
theorem TabOk.mono {pos : Pos} {qual : Str} {ps : Array Value} {nw nw' : List (Addr × Obj)} (h : TabOk pos qual ps nw) (hs : ∀ q ∈ nw, q ∈ nw') : TabOk pos qual ps nw' := by
  rcases h with h | ⟨c', oc, vs, t, h1, h2, h3⟩
  · exact .inl h
  · exact .inr ⟨c', oc, vs, t, h1, hs _ h2, h3⟩
theorem lcf_freeB {M : Model} {A : Around} {E : Value → Shared → Prop} {s : Shared} {h₀ : Heap} {L C c : Addr} {m : Str → Option Value} {scope : Scope} {cl : List (Str × Addr)} {env : Env} {x : Str} {pos : Pos} {v : Value} {o : Obj} {Q : Value → Shared → Prop}
    (F : Fr h₀ L s.heap m) (hc : cl.lookup x = some c) (hv : h₀.get? c = some o) (hd : o.data = .cell (some v)) (h : Q v s)
    (hk : (compEnvC scope cl C env).scope.kind = .function) (hx : (compEnvC scope cl C env).kindOf x = some .free) (hb : (x == ("__debug__" : Str)) = false := by decide) (hn : (x == ("__classdict__" : Str)) = false := by decide) :
    wpAny M A (eval (.Name x pos) (compEnvC scope cl C env)) Q E s := wpAny_Name (wpAny_loadName_free hk hx hc ⟨o, F.keep _ _ hv, hd⟩ h hn) hb
theorem any_filter {P : Int → Bool} : ∀ l : List Int, l.any P = !(l.filter P).isEmpty
  | [] => rfl
  | a :: r => by
    rw [List.any_cons, List.filter_cons, any_filter r]
    cases P a <;> simp
theorem any_ints {P : Int → Bool} {l : List Int} {ys : List Value} (h : IntsAre ys (l.filter P)) : l.any P = !ys.toArray.isEmpty := by
  rw [any_filter]
  have := h.length
  cases hf : l.filter P with
  | nil => rw [hf] at this; have : ys = [] := List.eq_nil_of_length_eq_zero this; subst this; rfl
  | cons a r => rw [hf] at this; cases ys with
    | nil => cases this
    | cons b q => rfl
theorem layersGo_nil (P : List Int → Int → Bool) : ∀ n, layersGo P n [] = []
  | 0 => rfl
  | n + 1 => by show (if ([] : List Int) = [] then layersGo P n [] else _) = _; rw [if_pos rfl]; exact layersGo_nil P n
section
local macro_rules | `(tactic| walk_at "eval Name") => `(tactic| (k_here; k_dflt (refine' nameX_FB ?F ?c ?v ?d ?_ ?a ?b; (case a => rfl); (case b => rfl); (case F => k_asm); (case c => rfl); (case v => assumption); (case d => assumption); k_whole)))
local macro_rules | `(tactic| walk_at "eval Name") => `(tactic| (k_here; (with_reducible show wpAny _ _ (eval (Expr.Name _ _) (compEnvC _ _ _ _)) _ _ _); k_dflt (refine' lcf_freeB ?F ?c ?v ?d ?_ ?a ?b; (case a => rfl); (case b => rfl); (case F => k_asm); (case c => rfl); (case v => assumption); (case d => assumption); k_whole)))
theorem layers {A : Around} {s : Shared} {lm lo : Addr} {mks : List Mk} {vo : List Value} {os : List Int} (G : Gr w p loose mean mg mb (hideAll s.heap [125])) (C : CodeHd s.heap 129 125) (hP : s.heap.get? 125 = some (tabObj #[])) (hm : MksAt w s.heap lm mks) (hmb : ∀ k ∈ mks, k.cnt.length < 1000 ∧ k.b < 1000) (hno : os.length < 100) (hnm : mks.length < 100)
    (hlo : s.heap.IsList lo vo.toArray) (hio : IntsAre vo os) (hin : ∀ k ∈ os, 0 ≤ k ∧ k < mks.length) (R : Rm 40 A) :
    wpAny (model PR w) A (call (.ref 130) [.ref lm, .ref lo]) (OutB (hideAll s.heap [125]) s fun v h => ∃ nw, Fresh (hideAll s.heap [125]) h nw ∧ GrownAt 125 h ∧ ∃ (D : Addr) (vs : Array Value) (c : Nat), v = .ref D ∧ (D, listOf vs c) ∈ nw ∧ Paired (T3 nw) vs.toList (layersGo (layP mks) mks.length os)) NoE s := by
  have D := Ledge.hide hP
  have LL := hm.hide hP
  have C0 := CodeHd_hide C
  have LO := hide_list hP hlo
  clear C hm hlo
  revert G D LL C0 LO
  generalize hideAll s.heap [125] = h0
  intro G D LL C0 hlo
  obtain ⟨vm, hlm, hvl, hvi⟩ := LL
  obtain ⟨_, dp, fr, gd, un⟩ := A
  obtain ⟨hh, hd, hu⟩ := R
  cases hh
  dsimp only at hd hu
  refine wpAny_call ?_
  refine enterC [(Str.ofString "marks", .ref lm), (Str.ofString "order", .ref lo)] G D (by k_is) (by k_is) (rm00 hd) (BindsTo.of_eq rfl) rfl (by decide +kernel) ?_ rfl rfl rfl
  intro L' h₁ tk cells F N Y l0
  have hY := CellsAre.two Y
  refine exE2 hY ?_
  clear hY
  intro o1 o2 zz8
  refine anE3 zz8 ?_
  clear zz8
  rintro rfl d1 d2
  replace d1 : o1.data = .cell none := d1
  replace d2 : o2.data = .cell (some (.ref lm)) := d2
  clear Y
  simp only [List.cons_append, List.nil_append] at N
  k_lt l0
  have X := G.X
  have T := G.T
  ((try ((with_reducible show wpAny _ _ _ _ _ _); k_fold)); repeat' (first | ((fail_if_success (with_reducible show wpAny _ _ (pyIter _) _ _ _)); (fail_if_success (with_reducible show wpAny _ _ (exec (Stmt.For _ _ _ _ _) _) _ _ _)); (fail_if_success (with_reducible show wpAny _ _ (eval (PySem.Expr.ListComp _ _ _ _) _) _ _ _)); (fail_if_success (with_reducible show wpAny _ _ (exec (Stmt.Assign _ (PySem.Expr.ListComp _ _ _ _) _) _) _ _ _)); (fail_if_success (with_reducible show wpAny _ _ (eval (PySem.Expr.Lambda _ _ _ _) _) _ _ _)); (fail_if_success (with_reducible show LCt.CompSrcT _ _ _ _ _ _ _ _ _ _ _ _ _ _ _)); (fail_if_success (with_reducible show LCg.CompSrc _ _ _ _ _ _ _ _ _ _ _ _ _ _)); (fail_if_success (with_reducible show LCg.CompEnd _ _ _ _ _ _ _ _ _ _ _ _ _ _)); first | (k_unfold; (try dsimp only)) | (k_here; (with_reducible show wpAny _ _ (call (Value.ref 80) _) _ _ _); (refine use (by k_asm) (by k_asm) (less (Gr.keeps (by assumption) (Fr.keep (by k_asm))) (IsMk.stay (by assumption) (Fr.keep (by k_asm))) (IsMk.stay (by assumption) (Fr.keep (by k_asm))) (by assumption) (by assumption) (by assumption) (by assumption) (by ((refine ⟨rfl, ?_, ?_⟩ <;> first | exact rm1 (by assumption) (by decide) | exact rm0 (by assumption) (by decide) | exact rm2 (by assumption) (by decide) | ((try simp only [Around.deeper, Around.in1]); omega))))) ?_; rintro _ _ _ _ _ _ e9; subst e9; (try dsimp only))) | (k_here; (with_reducible show wpAny _ _ (subscriptTail _ _ (Value.ref _) (Value.int _ _)) _ _ _); (refine' itemB ?k1 ?k2 ?k3 ?k4 ?k5 ?_ ?k6; (case k1 => k_asm); (case k2 => assumption); (case k5 => assumption); (case k3 => omega); (case k4 => omega); (case k6 => with_unfolding_all rfl))) | walk1 | (dsimp only; walk1))))
  refine For_invV h0 rfl rfl ?_
  ((try ((with_reducible show wpAny _ _ _ _ _ _); k_fold)); repeat' (first | ((fail_if_success (with_reducible show wpAny _ _ (pyIter _) _ _ _)); (fail_if_success (with_reducible show wpAny _ _ (exec (Stmt.For _ _ _ _ _) _) _ _ _)); (fail_if_success (with_reducible show wpAny _ _ (eval (PySem.Expr.ListComp _ _ _ _) _) _ _ _)); (fail_if_success (with_reducible show wpAny _ _ (exec (Stmt.Assign _ (PySem.Expr.ListComp _ _ _ _) _) _) _ _ _)); (fail_if_success (with_reducible show wpAny _ _ (eval (PySem.Expr.Lambda _ _ _ _) _) _ _ _)); (fail_if_success (with_reducible show LCt.CompSrcT _ _ _ _ _ _ _ _ _ _ _ _ _ _ _)); (fail_if_success (with_reducible show LCg.CompSrc _ _ _ _ _ _ _ _ _ _ _ _ _ _)); (fail_if_success (with_reducible show LCg.CompEnd _ _ _ _ _ _ _ _ _ _ _ _ _ _)); first | (k_unfold; (try dsimp only)) | (k_here; (with_reducible show wpAny _ _ (call (Value.ref 80) _) _ _ _); (refine use (by k_asm) (by k_asm) (less (Gr.keeps (by assumption) (Fr.keep (by k_asm))) (IsMk.stay (by assumption) (Fr.keep (by k_asm))) (IsMk.stay (by assumption) (Fr.keep (by k_asm))) (by assumption) (by assumption) (by assumption) (by assumption) (by ((refine ⟨rfl, ?_, ?_⟩ <;> first | exact rm1 (by assumption) (by decide) | exact rm0 (by assumption) (by decide) | exact rm2 (by assumption) (by decide) | ((try simp only [Around.deeper, Around.in1]); omega))))) ?_; rintro _ _ _ _ _ _ e9; subst e9; (try dsimp only))) | (k_here; (with_reducible show wpAny _ _ (subscriptTail _ _ (Value.ref _) (Value.int _ _)) _ _ _); (refine' itemB ?k1 ?k2 ?k3 ?k4 ?k5 ?_ ?k6; (case k1 => k_asm); (case k2 => assumption); (case k5 => assumption); (case k3 => omega); (case k4 => omega); (case k6 => with_unfolding_all rfl))) | walk1 | (dsimp only; walk1))))
  rename_i Dt _ lt1 _ _ D0 c0 _ lt2 _ F0 N0
  refine iterBase (fun i m nx => ∃ (ys : Array Value) (c : Nat) (ps : Array Value) (oh : Obj) (va : Array Value) (ca : Nat) (al : Addr) (lf : List Int) (told : List (List Int × List Int × List Int)) (old : List (Addr × Obj)) (u1 u2 : Option Value),
      nx = (Dt, listOf ys c) :: (L' + 1 + 1, oh) :: (L' + 1, o2) :: (125, tabObj ps) :: (al, listOf va ca) :: old ∧ (∃ v, oh.data = .cell v) ∧ TabOk lamPos lamQual ps old ∧
      (∀ q ∈ old, Old q.2 ∧ @Ne Nat q.1 Dt ∧ @Ne Nat q.1 (L' + 1 + 1) ∧ @Ne Nat q.1 125) ∧ (@Ne Nat al Dt ∧ @Ne Nat al (L' + 1 + 1) ∧ @Ne Nat al 125) ∧ IntsAre va.toList lf ∧ (∀ k ∈ lf, k ∈ os) ∧ lf.length ≤ os.length ∧
      Paired (T3 old) ys.toList told ∧ ys.size ≤ i ∧ told ++ layersGo (layP mks) (mks.length - i) lf = layersGo (layP mks) mks.length os ∧
      m = fun y => if y = Str.ofString "turn" then u1 else if y = Str.ofString "pair" then u2 else List.lookup y [(Str.ofString "left", .ref al), (Str.ofString "told", .ref Dt), (Str.ofString "order", .ref lo)]) rfl hlm F0 (news := [(Dt, listOf #[] 0), (L' + 1 + 1, o1), (L' + 1, o2), (125, tabObj #[]), (D0, listOf vo.toArray c0)]) (nwS N0 (by ((try dsimp only [List.cons_append, List.nil_append]); repeat' (first | with_reducible exact sb0 | exact sbN | refine sbC ?_ ?_ | refine sbA ?_ ?_ | with_reducible exact mHd | refine mTl ?_ | refine List.mem_append_right _ ?_ | refine sbT ?_ | with_reducible exact sbL sb0 | refine sbR ?_)))) ?_ ?_ ?_ ?_
  · refine' (exI12 #[] 0 #[] o1 vo.toArray c0 D0 os [] [] none none ⟨rfl, ⟨_, d1⟩, .inl rfl, (fun q hq => nomatch hq), ⟨by omega, by omega, by omega⟩, hio, (fun k hk => hk), Nat.le_refl _, .nil, Nat.le_refl _, rfl, ?jm⟩)
    case jm => ((funext y9; (try simp only [lkc, List.lookup_nil, List.reverse_cons, List.reverse_nil, List.nil_append, List.cons_append]); repeat' (first | rfl | contradiction | (refine ite_l (fun h9 => ?_) (fun h9 => ?_); (subst h9; first | rfl | contradiction)) | (refine ite_r (fun h9 => ?_) (fun h9 => ?_); first | contradiction | (subst h9; first | rfl | contradiction)))))
  · intro i m nx zz9 q hq
    refine exE12 zz9 ?_
    clear zz9
    intro ys c ps oh va ca al lf told old u1 u2 zz8
    refine anE5 zz8 ?_
    clear zz8
    rintro rfl ⟨vh, hoh⟩ _ hold _
    revert q
    exact alC ((Old.not (.inl Plain.list))) (alC (.inr (.inl ⟨_, hoh⟩)) (alC (.inr (.inl ⟨_, d2⟩)) (alC (.inl (by show Value.none ≠ _; decide)) (alC ((Old.not (.inl Plain.list))) (fun q hq => (hold q hq).1.not)))))
  · intro i v m₁ nx h tk own hv zz9 hoff F' N' hoc
    (try ((with_reducible show wpAny _ _ _ _ _ _); k_fold))
    refine exE12 zz9 ?_
    clear zz9
    intro ys c ps oh va ca al lf told old u1 u2 zz8
    refine anE12 zz8 ?_
    clear zz8
    rintro rfl ⟨vh, hoh⟩ htab hold ⟨hal1, hal2, hal3⟩ hlf hsub hlen hpr hz hgo rfl
    simp only [List.cons_append, List.nil_append] at N'
    have hoff3 : OwnOff (old ++ own) [Dt, L' + 1 + 1, 125] := by
      intro q hq b hb
      rcases List.mem_append.mp hq with hq | hq
      · have := (hold q hq).2
        simp only [List.mem_cons, List.mem_nil_iff, or_false] at hb
        rcases hb with rfl | rfl | rfl
        · exact this.1
        · exact this.2.1
        · exact this.2.2
      · exact hoff q hq b (by simp only [List.map_cons, List.mem_cons, List.mem_nil_iff, or_false] at hb ⊢; rcases hb with h | h | h <;> simp [h])
    have hin9 : i < mks.length := by
      have := (List.getElem?_eq_some_iff.mp hv).1
      omega
    have hla := hlf.length
    simp only [Array.length_toList] at hla
    ((try ((with_reducible show wpAny _ _ _ _ _ _); k_fold)); repeat' (first | ((fail_if_success (with_reducible show wpAny _ _ (pyIter _) _ _ _)); (fail_if_success (with_reducible show wpAny _ _ (exec (Stmt.For _ _ _ _ _) _) _ _ _)); (fail_if_success (with_reducible show wpAny _ _ (eval (PySem.Expr.ListComp _ _ _ _) _) _ _ _)); (fail_if_success (with_reducible show wpAny _ _ (exec (Stmt.Assign _ (PySem.Expr.ListComp _ _ _ _) _) _) _ _ _)); (fail_if_success (with_reducible show wpAny _ _ (eval (PySem.Expr.Lambda _ _ _ _) _) _ _ _)); (fail_if_success (with_reducible show LCt.CompSrcT _ _ _ _ _ _ _ _ _ _ _ _ _ _ _)); (fail_if_success (with_reducible show LCg.CompSrc _ _ _ _ _ _ _ _ _ _ _ _ _ _)); (fail_if_success (with_reducible show LCg.CompEnd _ _ _ _ _ _ _ _ _ _ _ _ _ _)); first | (k_unfold; (try dsimp only)) | (k_here; (with_reducible show wpAny _ _ (call (Value.ref 80) _) _ _ _); (refine use (by k_asm) (by k_asm) (less (Gr.keeps (by assumption) (Fr.keep (by k_asm))) (IsMk.stay (by assumption) (Fr.keep (by k_asm))) (IsMk.stay (by assumption) (Fr.keep (by k_asm))) (by assumption) (by assumption) (by assumption) (by assumption) (by ((refine ⟨rfl, ?_, ?_⟩ <;> first | exact rm1 (by assumption) (by decide) | exact rm0 (by assumption) (by decide) | exact rm2 (by assumption) (by decide) | ((try simp only [Around.deeper, Around.in1]); omega))))) ?_; rintro _ _ _ _ _ _ e9; subst e9; (try dsimp only))) | (k_here; (with_reducible show wpAny _ _ (subscriptTail _ _ (Value.ref _) (Value.int _ _)) _ _ _); (refine' itemB ?k1 ?k2 ?k3 ?k4 ?k5 ?_ ?k6; (case k1 => k_asm); (case k2 => assumption); (case k5 => assumption); (case k3 => omega); (case k4 => omega); (case k6 => with_unfolding_all rfl))) | walk1 | (dsimp only; walk1))))
    · have hnil : lf = [] := of_decide_eq_true (by assumption)
      (rename News _ _ _ _ => N9)
      (rename Fr _ _ _ _ => F9)
      subst hnil
      rw [layersGo_nil] at hgo
      exact TurnEnd.go F9 N9 (exI12 ys c ps oh va ca al [] told old _ _ ⟨rfl, ⟨vh, hoh⟩, htab, hold, ⟨hal1, hal2, hal3⟩, hlf, hsub, hlen, hpr, by omega, by rw [layersGo_nil]; exact hgo, by ((funext y9; (try simp only [lkc, List.lookup_nil, List.reverse_cons, List.reverse_nil, List.nil_append, List.cons_append]); repeat' (first | rfl | contradiction | (refine ite_l (fun h9 => ?_) (fun h9 => ?_); (subst h9; first | rfl | contradiction)) | (refine ite_r (fun h9 => ?_) (fun h9 => ?_); first | contradiction | (subst h9; first | rfl | contradiction)))))⟩) (fun q hq => .tail _ (List.mem_append_left own hq)) (fun q hq => .tail _ (.tail _ (.tail _ (.tail _ (.tail _ (.tail _ (List.mem_append_right _ hq)))))))
    · have hne : lf ≠ [] := of_decide_eq_false (by assumption)
      rename_i E0 _ _ lE _ _ oh9 F9 N9 dh9
      refine kla_eval rfl ?_
      refine lamAny (P := 125) (ps := ps) (rest := (Dt, listOf ys c) :: (L' + 1 + 1, oh9) :: (L' + 1, o2) :: (al, listOf va ca) :: (old ++ own)) F9 (nwS N9 ?_) T C0 rfl ?_ (htab.mono fun q hq => .tail _ (.tail _ (.tail _ (.tail _ (List.mem_append_left _ hq))))) rfl ?_
      · ((try dsimp only [List.cons_append, List.nil_append]); repeat' (first | with_reducible exact sb0 | exact sbN | refine sbC ?_ ?_ | refine sbA ?_ ?_ | with_reducible exact mHd | refine mTl ?_ | refine List.mem_append_right _ ?_ | refine sbT ?_ | with_reducible exact sbL sb0 | refine sbR ?_))
      · exact alC (Nat.ne_of_gt lt1.2.2) (alC (neN (by dsimp only; omega)) (alC (neN (by dsimp only; omega)) (alC hal3 (fun q hq => hoff3 q hq _ (by simp)))))
      intro f c' oc vs9 t9 ctv pm h5 tk5 F5 N5 doc dvs lf5
      have hp : ∀ (A' : Around) (s' : Shared) (n : Int) (t : Tok), Rm 19 A' → Stay h5 s'.heap → n ∈ lf → wpAny (model PR w) A' (call (.ref f) [.int n t]) (Out s' fun v h => Truth v h (layP mks lf n)) NoE s' := by
        rintro ⟨_, dp', fr', gd', un'⟩ s' n t ⟨hh', hd', hu'⟩ st hn
        cases hh'
        dsimp only at hd' hu'
        refine wpAny_call ?_
        have st0 : Stay h0 s'.heap := fun b o e => st b o (F5.keep b o e)
        have eh : s'.heap.get? (L' + 1 + 1) = some oh9 := st _ _ (N5 _ (.tail _ (.tail _ (.tail _ (.tail _ (.head _)))))).1
        have em : s'.heap.get? (L' + 1) = some o2 := st _ _ (N5 _ (.tail _ (.tail _ (.tail _ (.tail _ (.tail _ (.head _))))))).1
        have hal' : s'.heap.IsList al va := ⟨_, st _ _ (N5 _ (.tail _ (.tail _ (.tail _ (.tail _ (.tail _ (.tail _ (.head _)))))))).1, rfl, _, rfl⟩
        have hlm' : s'.heap.IsList lm vm.toArray := hlm.at fun o e => st0 _ o e
        have G' := G.keeps st0
        have X' := G'.X
        have T' := G'.T
        refine enterLC (x := Str.ofString "i") (v := .int n t) G' (st _ _ (N5 _ (.head _)).1) ⟨c', oc, vs9, t9, rfl, st _ _ (N5 _ (.tail _ (.head _))).1, doc, dvs⟩ (by simp only; omega) rfl rfl (fun _ => rfl) (fun _ => rfl) ?_ rfl rfl rfl
        clear F5 N5 X T
        try clear F9 N9
        intro L'' h₁' o' F6 N6 d6
        have hnk := hin n (hsub n hn)
        obtain ⟨ai, p1, p2⟩ := hvi n.toNat (by omega)
        replace p2 := p2.stay st0
        have hbi := hmb _ (List.getElem_mem (show n.toNat < mks.length by omega))
        refine LCt.ListComp_T (F₀ := by k_asm) (by with_unfolding_all rfl) (by decide) (by rfl) (by decide) (by rfl) ?_
        ((try ((with_reducible show wpAny _ _ _ _ _ _); k_fold)); repeat' (first | ((fail_if_success (with_reducible show wpAny _ _ (pyIter _) _ _ _)); (fail_if_success (with_reducible show wpAny _ _ (exec (Stmt.For _ _ _ _ _) _) _ _ _)); (fail_if_success (with_reducible show wpAny _ _ (eval (PySem.Expr.ListComp _ _ _ _) _) _ _ _)); (fail_if_success (with_reducible show wpAny _ _ (exec (Stmt.Assign _ (PySem.Expr.ListComp _ _ _ _) _) _) _ _ _)); (fail_if_success (with_reducible show wpAny _ _ (eval (PySem.Expr.Lambda _ _ _ _) _) _ _ _)); (fail_if_success (with_reducible show LCt.CompSrcT _ _ _ _ _ _ _ _ _ _ _ _ _ _ _)); (fail_if_success (with_reducible show LCg.CompSrc _ _ _ _ _ _ _ _ _ _ _ _ _ _)); (fail_if_success (with_reducible show LCg.CompEnd _ _ _ _ _ _ _ _ _ _ _ _ _ _)); first | (k_unfold; (try dsimp only)) | (k_here; (with_reducible show wpAny _ _ (call (Value.ref 80) _) _ _ _); (refine use (by k_asm) (by k_asm) (less (Gr.keeps (by assumption) (Fr.keep (by k_asm))) (IsMk.stay (by assumption) (Fr.keep (by k_asm))) (IsMk.stay (by assumption) (Fr.keep (by k_asm))) (by assumption) (by assumption) (by assumption) (by assumption) (by ((refine ⟨rfl, ?_, ?_⟩ <;> first | exact rm1 (by assumption) (by decide) | exact rm0 (by assumption) (by decide) | exact rm2 (by assumption) (by decide) | ((try simp only [Around.deeper, Around.in1]); omega))))) ?_; rintro _ _ _ _ _ _ e9; subst e9; (try dsimp only))) | (k_here; (with_reducible show wpAny _ _ (subscriptTail _ _ (Value.ref _) (Value.int _ _)) _ _ _); (refine' itemB ?k1 ?k2 ?k3 ?k4 ?k5 ?_ ?k6; (case k1 => k_asm); (case k2 => assumption); (case k5 => assumption); (case k3 => omega); (case k4 => omega); (case k6 => with_unfolding_all rfl))) | walk1 | (dsimp only; walk1))))
        refine LCt.CompSrcT.base (by rfl) (by k_asm) (by k_asm) hal' (by rw [sizeLine_eq]; omega) ?_
        intro g3
        refine restT va.size (fun j ys' news => news = [(L'' + 1, o')] ∧ IntsAre ys' ((lf.take j).filter fun k => lessP (mks.getD k.toNat ⟨⟨#[]⟩, 0, 0, [], 0, true⟩) (mks.getD n.toNat ⟨⟨#[]⟩, 0, 0, [], 0, true⟩))) ?_ ?_ _ 0 [] _ (by simp) ⟨rfl, .nil⟩
        · rintro ys' news ⟨rfl, hy⟩
          ((try ((with_reducible show wpAny _ _ _ _ _ _); k_fold)); repeat' (first | ((fail_if_success (with_reducible show wpAny _ _ (pyIter _) _ _ _)); (fail_if_success (with_reducible show wpAny _ _ (exec (Stmt.For _ _ _ _ _) _) _ _ _)); (fail_if_success (with_reducible show wpAny _ _ (eval (PySem.Expr.ListComp _ _ _ _) _) _ _ _)); (fail_if_success (with_reducible show wpAny _ _ (exec (Stmt.Assign _ (PySem.Expr.ListComp _ _ _ _) _) _) _ _ _)); (fail_if_success (with_reducible show wpAny _ _ (eval (PySem.Expr.Lambda _ _ _ _) _) _ _ _)); (fail_if_success (with_reducible show LCt.CompSrcT _ _ _ _ _ _ _ _ _ _ _ _ _ _ _)); (fail_if_success (with_reducible show LCg.CompSrc _ _ _ _ _ _ _ _ _ _ _ _ _ _)); (fail_if_success (with_reducible show LCg.CompEnd _ _ _ _ _ _ _ _ _ _ _ _ _ _)); first | (k_unfold; (try dsimp only)) | (k_here; (with_reducible show wpAny _ _ (call (Value.ref 80) _) _ _ _); (refine use (by k_asm) (by k_asm) (less (Gr.keeps (by assumption) (Fr.keep (by k_asm))) (IsMk.stay (by assumption) (Fr.keep (by k_asm))) (IsMk.stay (by assumption) (Fr.keep (by k_asm))) (by assumption) (by assumption) (by assumption) (by assumption) (by ((refine ⟨rfl, ?_, ?_⟩ <;> first | exact rm1 (by assumption) (by decide) | exact rm0 (by assumption) (by decide) | exact rm2 (by assumption) (by decide) | ((try simp only [Around.deeper, Around.in1]); omega))))) ?_; rintro _ _ _ _ _ _ e9; subst e9; (try dsimp only))) | (k_here; (with_reducible show wpAny _ _ (subscriptTail _ _ (Value.ref _) (Value.int _ _)) _ _ _); (refine' itemB ?k1 ?k2 ?k3 ?k4 ?k5 ?_ ?k6; (case k1 => k_asm); (case k2 => assumption); (case k5 => assumption); (case k3 => omega); (case k4 => omega); (case k6 => with_unfolding_all rfl))) | walk1 | (dsimp only; walk1))))
          (rename News _ _ _ _ => N9)
          (rename Fr _ _ _ _ => F9)
          rw [List.take_of_length_le (by omega)] at hy
          refine Out.of F9 (.inr ⟨_, ys'.toArray, rfl, ⟨_, (N9 _ (.head _)).1, rfl, _, rfl⟩, ?_, ?_⟩)
          · rw [List.size_toArray, hy.length]
            have := List.length_filter_le (fun k => lessP (mks.getD k.toNat ⟨⟨#[]⟩, 0, 0, [], 0, true⟩) (mks.getD n.toNat ⟨⟨#[]⟩, 0, 0, [], 0, true⟩)) lf
            omega
          · unfold layP
            exact any_ints hy
        · rintro j v ys' news hj9 ⟨rfl, hy⟩ hv I oI C oC D m₂ h tk E' hC hx F' N' off ne
          have hj : lf[j]? = some (lf[j]'(by omega)) := List.getElem?_eq_getElem _
          obtain ⟨tj, htj⟩ := hlf.get j _ hj
          have hvj := hv
          rw [← Array.getElem?_toList, htj] at hvj
          obtain rfl := Option.some.inj hvj
          have hk := hin _ (hsub _ (List.mem_of_getElem? hj))
          generalize lf[j]'(by omega) = kk at *
          obtain ⟨aj, q1, q2⟩ := hvi kk.toNat (by omega)
          replace q2 := q2.stay st0
          have hbj := hmb _ (List.getElem_mem (show kk.toNat < mks.length by omega))
          have q3 := q2
          refine exE16 q3 ?_
          clear q3
          intro dx tn tc t1 t2 t3 t4 t5 t6 t7 t8 n9 tb cv e1 e2 zz8
          refine anE5 zz8 ?_
          clear zz8
          rintro m1 m2 m3 m4 m5
          obtain ⟨hbi1, hbi2⟩ := hbi
          obtain ⟨hbj1, hbj2⟩ := hbj
          have eg : ∀ b, lessP mks[kk.toNat] mks[n.toNat] = b → lessP (mks.getD kk.toNat ⟨⟨#[]⟩, 0, 0, [], 0, true⟩) (mks.getD n.toNat ⟨⟨#[]⟩, 0, 0, [], 0, true⟩) = b := fun b e => by
            rw [getD_lt (show kk.toNat < mks.length by omega), getD_lt (show n.toNat < mks.length by omega)]; exact e
          ((try ((with_reducible show wpAny _ _ _ _ _ _); k_fold)); repeat' (first | ((fail_if_success (with_reducible show wpAny _ _ (pyIter _) _ _ _)); (fail_if_success (with_reducible show wpAny _ _ (exec (Stmt.For _ _ _ _ _) _) _ _ _)); (fail_if_success (with_reducible show wpAny _ _ (eval (PySem.Expr.ListComp _ _ _ _) _) _ _ _)); (fail_if_success (with_reducible show wpAny _ _ (exec (Stmt.Assign _ (PySem.Expr.ListComp _ _ _ _) _) _) _ _ _)); (fail_if_success (with_reducible show wpAny _ _ (eval (PySem.Expr.Lambda _ _ _ _) _) _ _ _)); (fail_if_success (with_reducible show LCt.CompSrcT _ _ _ _ _ _ _ _ _ _ _ _ _ _ _)); (fail_if_success (with_reducible show LCg.CompSrc _ _ _ _ _ _ _ _ _ _ _ _ _ _)); (fail_if_success (with_reducible show LCg.CompEnd _ _ _ _ _ _ _ _ _ _ _ _ _ _)); first | (k_unfold; (try dsimp only)) | (k_here; (with_reducible show wpAny _ _ (call (Value.ref 80) _) _ _ _); (refine use (by k_asm) (by k_asm) (less (Gr.keeps (by assumption) (Fr.keep (by k_asm))) (IsMk.stay (by assumption) (Fr.keep (by k_asm))) (IsMk.stay (by assumption) (Fr.keep (by k_asm))) (by assumption) (by assumption) (by assumption) (by assumption) (by ((refine ⟨rfl, ?_, ?_⟩ <;> first | exact rm1 (by assumption) (by decide) | exact rm0 (by assumption) (by decide) | exact rm2 (by assumption) (by decide) | ((try simp only [Around.deeper, Around.in1]); omega))))) ?_; rintro _ _ _ _ _ _ e9; subst e9; (try dsimp only))) | (k_here; (with_reducible show wpAny _ _ (subscriptTail _ _ (Value.ref _) (Value.int _ _)) _ _ _); (refine' itemB ?k1 ?k2 ?k3 ?k4 ?k5 ?_ ?k6; (case k1 => k_asm); (case k2 => assumption); (case k5 => assumption); (case k3 => omega); (case k4 => omega); (case k6 => with_unfolding_all rfl))) | walk1 | (dsimp only; walk1))))
          · (rename News _ _ _ _ => N9)
            (rename Fr _ _ _ _ => F9)
            exact LCg.CompEnd.intro F9 N9 _ (fun _ h => h) off (.inl hal') ⟨rfl, filter_yes hj (eg _ (by assumption)) hy⟩
          · (rename News _ _ _ _ => N9)
            (rename Fr _ _ _ _ => F9)
            exact LCg.CompEnd.intro F9 N9 _ (fun _ h => h) off (.inl hal') ⟨rfl, filter_no hj (eg _ (by assumption)) hy⟩
      have nf : @LT.lt Nat _ Dt f := lf5 _ (.tail _ (.head _))
      ((try ((with_reducible show wpAny _ _ _ _ _ _); k_fold)); repeat' (first | ((fail_if_success (with_reducible show wpAny _ _ (pyIter _) _ _ _)); (fail_if_success (with_reducible show wpAny _ _ (exec (Stmt.For _ _ _ _ _) _) _ _ _)); (fail_if_success (with_reducible show wpAny _ _ (eval (PySem.Expr.ListComp _ _ _ _) _) _ _ _)); (fail_if_success (with_reducible show wpAny _ _ (exec (Stmt.Assign _ (PySem.Expr.ListComp _ _ _ _) _) _) _ _ _)); (fail_if_success (with_reducible show wpAny _ _ (eval (PySem.Expr.Lambda _ _ _ _) _) _ _ _)); (fail_if_success (with_reducible show LCt.CompSrcT _ _ _ _ _ _ _ _ _ _ _ _ _ _ _)); (fail_if_success (with_reducible show LCg.CompSrc _ _ _ _ _ _ _ _ _ _ _ _ _ _)); (fail_if_success (with_reducible show LCg.CompEnd _ _ _ _ _ _ _ _ _ _ _ _ _ _)); first | (k_unfold; (try dsimp only)) | (k_here; (with_reducible show wpAny _ _ (call (Value.ref 80) _) _ _ _); (refine use (by k_asm) (by k_asm) (less (Gr.keeps (by assumption) (Fr.keep (by k_asm))) (IsMk.stay (by assumption) (Fr.keep (by k_asm))) (IsMk.stay (by assumption) (Fr.keep (by k_asm))) (by assumption) (by assumption) (by assumption) (by assumption) (by ((refine ⟨rfl, ?_, ?_⟩ <;> first | exact rm1 (by assumption) (by decide) | exact rm0 (by assumption) (by decide) | exact rm2 (by assumption) (by decide) | ((try simp only [Around.deeper, Around.in1]); omega))))) ?_; rintro _ _ _ _ _ _ e9; subst e9; (try dsimp only))) | (k_here; (with_reducible show wpAny _ _ (subscriptTail _ _ (Value.ref _) (Value.int _ _)) _ _ _); (refine' itemB ?k1 ?k2 ?k3 ?k4 ?k5 ?_ ?k6; (case k1 => k_asm); (case k2 => assumption); (case k5 => assumption); (case k3 => omega); (case k4 => omega); (case k6 => with_unfolding_all rfl))) | walk1 | (dsimp only; walk1))))
      have eDt : h5.get? Dt = some (listOf ys c) := (N5 _ (.tail _ (.tail _ (.tail _ (.head _))))).1
      have eCh : h5.get? (L' + 1 + 1) = some oh9 := (N5 _ (.tail _ (.tail _ (.tail _ (.tail _ (.head _)))))).1
      have eTb : h5.get? 125 = some _ := (N5 _ (.tail _ (.tail _ (.head _)))).1
      have eAl : h5.get? al = some (listOf va ca) := (N5 _ (.tail _ (.tail _ (.tail _ (.tail _ (.tail _ (.tail _ (.head _)))))))).1
      have eC : h5.get? c' = some oc := (N5 _ (.tail _ (.head _))).1
      have nc1 : @Ne Nat c' Dt := fun e => by
        rw [show c' = Dt from e, eDt] at eC
        rw [← Option.some.inj eC] at doc
        cases doc
      have nc2 : @Ne Nat c' (L' + 1 + 1) := fun e => by
        rw [show c' = L' + 1 + 1 from e, eCh] at eC
        rw [← Option.some.inj eC, dh9] at doc
        cases doc
      have nc3 : @Ne Nat c' 125 := fun e => by
        rw [show c' = 125 from e, eTb] at eC
        rw [← Option.some.inj eC] at doc
        cases doc
        simp [rawInt] at dvs
      refine useD F5 N5 (split (vs := va.toList) (ns := lf) (P := layP mks lf) (G.keeps F5.keep) (by rw [Array.toArray_toList]; exact ⟨_, eAl, rfl, _, rfl⟩) hlf (by omega) ⟨_, _, (N5 _ (.head _)).1, rfl⟩ (by ((refine ⟨rfl, ?_, ?_⟩ <;> first | exact rm1 (by assumption) (by decide) | exact rm0 (by assumption) (by decide) | exact rm2 (by assumption) (by decide) | ((try simp only [Around.deeper, Around.in1]); omega)))) hp) ?_
      intro v9 h9 tk9 nw st9 F9 N9 fr9 zz9
      refine exE8 zz9 ?_
      clear zz9
      intro a9 y9 z9 ys9 zs9 c9 d9 e9 zz8
      refine anE4 zz8 ?_
      clear zz8
      rintro rfl rfl hy9 hz9
      simp only [List.cons_append, List.nil_append] at N9
      have n1 : @Ne Nat a9 Dt := fr9.ne (.head _) eDt
      have n2 : @Ne Nat z9 Dt := fr9.ne (.tail _ (.head _)) eDt
      have n3 : @Ne Nat y9 Dt := fr9.ne (.tail _ (.tail _ (.head _))) eDt
      have n4 : @Ne Nat a9 (L' + 1 + 1) := fr9.ne (.head _) eCh
      have n5 : @Ne Nat z9 (L' + 1 + 1) := fr9.ne (.tail _ (.head _)) eCh
      have n6 : @Ne Nat y9 (L' + 1 + 1) := fr9.ne (.tail _ (.tail _ (.head _))) eCh
      have n7 : @Ne Nat a9 125 := fr9.ne (.head _) eTb
      have n8 : @Ne Nat z9 125 := fr9.ne (.tail _ (.head _)) eTb
      have n9 : @Ne Nat y9 125 := fr9.ne (.tail _ (.tail _ (.head _))) eTb
      dsimp only
      ((try ((with_reducible show wpAny _ _ _ _ _ _); k_fold)); repeat' (first | ((fail_if_success (with_reducible show wpAny _ _ (pyIter _) _ _ _)); (fail_if_success (with_reducible show wpAny _ _ (exec (Stmt.For _ _ _ _ _) _) _ _ _)); (fail_if_success (with_reducible show wpAny _ _ (eval (PySem.Expr.ListComp _ _ _ _) _) _ _ _)); (fail_if_success (with_reducible show wpAny _ _ (exec (Stmt.Assign _ (PySem.Expr.ListComp _ _ _ _) _) _) _ _ _)); (fail_if_success (with_reducible show wpAny _ _ (eval (PySem.Expr.Lambda _ _ _ _) _) _ _ _)); (fail_if_success (with_reducible show LCt.CompSrcT _ _ _ _ _ _ _ _ _ _ _ _ _ _ _)); (fail_if_success (with_reducible show LCg.CompSrc _ _ _ _ _ _ _ _ _ _ _ _ _ _)); (fail_if_success (with_reducible show LCg.CompEnd _ _ _ _ _ _ _ _ _ _ _ _ _ _)); first | (k_unfold; (try dsimp only)) | (k_here; (with_reducible show wpAny _ _ (call (Value.ref 80) _) _ _ _); (refine use (by k_asm) (by k_asm) (less (Gr.keeps (by assumption) (Fr.keep (by k_asm))) (IsMk.stay (by assumption) (Fr.keep (by k_asm))) (IsMk.stay (by assumption) (Fr.keep (by k_asm))) (by assumption) (by assumption) (by assumption) (by assumption) (by ((refine ⟨rfl, ?_, ?_⟩ <;> first | exact rm1 (by assumption) (by decide) | exact rm0 (by assumption) (by decide) | exact rm2 (by assumption) (by decide) | ((try simp only [Around.deeper, Around.in1]); omega))))) ?_; rintro _ _ _ _ _ _ e9; subst e9; (try dsimp only))) | (k_here; (with_reducible show wpAny _ _ (subscriptTail _ _ (Value.ref _) (Value.int _ _)) _ _ _); (refine' itemB ?k1 ?k2 ?k3 ?k4 ?k5 ?_ ?k6; (case k1 => k_asm); (case k2 => assumption); (case k5 => assumption); (case k3 => omega); (case k4 => omega); (case k6 => with_unfolding_all rfl))) | walk1 | (dsimp only; walk1))))
      rename_i _ _ T6 _ l6 _ _ F10 N10
      have hP' : Paired (T3 ((T6, tupOf [.ref al, .ref a9] 0) :: (a9, tupOf [.ref y9, .ref z9] e9) :: (z9, listOf zs9 d9) :: (y9, listOf ys9 c9) :: (al, listOf va ca) :: (c', oc) :: old)) (ys.push (.ref T6)).toList (told ++ [(lf, lf.filter (layP mks lf), lf.filter fun k => !layP mks lf k)]) := by
        rw [Array.toList_push]
        refine Paired.snoc (Paired.mono (fun a b h => h.mono fun q hq => .tail _ (.tail _ (.tail _ (.tail _ (.tail _ (.tail _ hq)))))) hpr) ?_
        exact ⟨T6, al, a9, y9, z9, 0, e9, va, ys9, zs9, ca, c9, d9, rfl, .head _, List.mem_of_getElem? (i := 4) rfl, hlf, List.mem_of_getElem? (i := 1) rfl, List.mem_of_getElem? (i := 3) rfl, hy9, List.mem_of_getElem? (i := 2) rfl, hz9⟩
      have hgo' : (told ++ [(lf, lf.filter (layP mks lf), lf.filter fun k => !layP mks lf k)]) ++ layersGo (layP mks) (mks.length - (i + 1)) (lf.filter (layP mks lf)) = layersGo (layP mks) mks.length os := by
        rw [← hgo, List.append_assoc]
        congr 1
        obtain ⟨k, hk⟩ : ∃ k, mks.length - i = k + 1 := ⟨mks.length - i - 1, by omega⟩
        rw [hk, show mks.length - (i + 1) = k by omega]
        show _ = (if lf = [] then _ else _)
        rw [if_neg hne]; rfl
      refine TurnEnd.go F10 N10 (nx := (Dt, listOf (ys.push (.ref T6)) (c + 1)) :: (L' + 1 + 1, oh9) :: (L' + 1, o2) :: (125, tabObj #[rawInt lamPos.line, rawInt lamPos.col, .ref c']) :: (y9, listOf ys9 c9) :: ((T6, tupOf [.ref al, .ref a9] 0) :: (a9, tupOf [.ref y9, .ref z9] e9) :: (z9, listOf zs9 d9) :: (y9, listOf ys9 c9) :: (al, listOf va ca) :: (c', oc) :: old))
        (exI12 (ys.push (.ref T6)) (c + 1) _ oh9 ys9 c9 y9 (lf.filter (layP mks lf)) _ _ _ _ ⟨rfl, ⟨_, dh9⟩, .inr ⟨c', oc, vs9, t9, rfl, List.mem_of_getElem? (i := 5) rfl, doc, dvs⟩, ?_, ⟨n3, n6, n9⟩, hy9, fun k hk => hsub k (List.mem_filter.mp hk).1, Nat.le_trans (List.length_filter_le _ _) hlen, hP', by rw [Array.size_push]; omega, hgo', by ((funext y9; (try simp only [lkc, List.lookup_nil, List.reverse_cons, List.reverse_nil, List.nil_append, List.cons_append]); repeat' (first | rfl | contradiction | (refine ite_l (fun h9 => ?_) (fun h9 => ?_); (subst h9; first | rfl | contradiction)) | (refine ite_r (fun h9 => ?_) (fun h9 => ?_); first | contradiction | (subst h9; first | rfl | contradiction)))))⟩) ?_ ?_
      · exact alC ⟨.inl Plain.tup, Nat.ne_of_gt l6.2.2.2.2.2.2.1, Nat.ne_of_gt l6.2.2.2.2.2.2.2.1, Nat.ne_of_gt l6.2.2.2.2.2.1⟩ (alC ⟨.inl Plain.tup, n1, n4, n7⟩ (alC ⟨.inl Plain.list, n2, n5, n8⟩ (alC ⟨.inl Plain.list, n3, n6, n9⟩ (alC ⟨.inl Plain.list, hal1, hal2, hal3⟩ (alC ⟨.inr ⟨_, _, _, doc, dvs⟩, nc1, nc2, nc3⟩ hold)))))
      · exact (sbC (List.mem_of_getElem? (i := 7) rfl) (sbC (List.mem_of_getElem? (i := 8) rfl) (sbC (List.mem_of_getElem? (i := 9) rfl) (sbC (List.mem_of_getElem? (i := 6) rfl) (sbC (List.mem_of_getElem? (i := 3) rfl) (sbC (List.mem_of_getElem? (i := 0) rfl) (sbC (List.mem_of_getElem? (i := 1) rfl) (sbC (List.mem_of_getElem? (i := 2) rfl) (sbC (List.mem_of_getElem? (i := 3) rfl) (sbC (List.mem_of_getElem? (i := 10) rfl) (sbC (List.mem_of_getElem? (i := 5) rfl) (fun q hq => .tail _ (.tail _ (.tail _ (.tail _ (.tail _ (.tail _ (.tail _ (.tail _ (.tail _ (.tail _ (.tail _ (List.mem_append_left _ hq)))))))))))))))))))))))
      · intro q hq
        exact .tail _ (.tail _ (.tail _ (.tail _ (.tail _ (.tail _ (.tail _ (.tail _ (.tail _ (.tail _ (.tail _ (List.mem_append_right _ hq)))))))))))
  · intro m₁ nx h tk zz9 F' N'
    (try ((with_reducible show wpAny _ _ _ _ _ _); k_fold))
    refine exE12 zz9 ?_
    clear zz9
    intro ys c ps oh va ca al lf told old u1 u2 zz8
    refine anE12 zz8 ?_
    clear zz8
    rintro rfl ⟨vh, hoh⟩ htab hold hal hlf hsub hlen hpr hz hgo rfl
    ((try ((with_reducible show wpAny _ _ _ _ _ _); k_fold)); repeat' (first | ((fail_if_success (with_reducible show wpAny _ _ (pyIter _) _ _ _)); (fail_if_success (with_reducible show wpAny _ _ (exec (Stmt.For _ _ _ _ _) _) _ _ _)); (fail_if_success (with_reducible show wpAny _ _ (eval (PySem.Expr.ListComp _ _ _ _) _) _ _ _)); (fail_if_success (with_reducible show wpAny _ _ (exec (Stmt.Assign _ (PySem.Expr.ListComp _ _ _ _) _) _) _ _ _)); (fail_if_success (with_reducible show wpAny _ _ (eval (PySem.Expr.Lambda _ _ _ _) _) _ _ _)); (fail_if_success (with_reducible show LCt.CompSrcT _ _ _ _ _ _ _ _ _ _ _ _ _ _ _)); (fail_if_success (with_reducible show LCg.CompSrc _ _ _ _ _ _ _ _ _ _ _ _ _ _)); (fail_if_success (with_reducible show LCg.CompEnd _ _ _ _ _ _ _ _ _ _ _ _ _ _)); first | (k_unfold; (try dsimp only)) | (k_here; (with_reducible show wpAny _ _ (call (Value.ref 80) _) _ _ _); (refine use (by k_asm) (by k_asm) (less (Gr.keeps (by assumption) (Fr.keep (by k_asm))) (IsMk.stay (by assumption) (Fr.keep (by k_asm))) (IsMk.stay (by assumption) (Fr.keep (by k_asm))) (by assumption) (by assumption) (by assumption) (by assumption) (by ((refine ⟨rfl, ?_, ?_⟩ <;> first | exact rm1 (by assumption) (by decide) | exact rm0 (by assumption) (by decide) | exact rm2 (by assumption) (by decide) | ((try simp only [Around.deeper, Around.in1]); omega))))) ?_; rintro _ _ _ _ _ _ e9; subst e9; (try dsimp only))) | (k_here; (with_reducible show wpAny _ _ (subscriptTail _ _ (Value.ref _) (Value.int _ _)) _ _ _); (refine' itemB ?k1 ?k2 ?k3 ?k4 ?k5 ?_ ?k6; (case k1 => k_asm); (case k2 => assumption); (case k5 => assumption); (case k3 => omega); (case k4 => omega); (case k6 => with_unfolding_all rfl))) | walk1 | (dsimp only; walk1))))
    dsimp only
    rw [hvl, Nat.sub_self] at hgo
    replace hgo : told = layersGo (layP mks) mks.length os := by simpa [layersGo] using hgo
    rw [hgo] at hpr
    exact OutB.of F' ⟨_, Fresh.of_news N' (fun q hq => hq), ⟨_, (N' _ (List.mem_of_getElem? (i := 3) rfl)).1⟩, Dt, ys, c, rfl, .head _, Paired.mono (fun a b h => h.mono fun q hq => .tail _ (.tail _ (.tail _ (.tail _ (.tail _ hq))))) hpr⟩
end
noncomputable def classesGo (P : List Int → Int → Bool) : Nat → List Int → List (List Int × List Int × List Int)
  | 0, _ => []
  | n + 1, l => if l = [] then classesGo P n [] else (l, l.filter (P l), l.filter fun k => !P l k) :: classesGo P n (l.filter fun k => !P l k)
noncomputable def clsP (mks : List Mk) (l : List Int) (i : Int) : Bool := eqP (mks.getD i.toNat ⟨⟨#[]⟩, 0, 0, [], 0, true⟩) (mks.getD (l.getD 0 0).toNat ⟨⟨#[]⟩, 0, 0, [], 0, true⟩)
theorem classesGo_nil (P : List Int → Int → Bool) : ∀ n, classesGo P n [] = []
  | 0 => rfl
  | n + 1 => by show (if ([] : List Int) = [] then classesGo P n [] else _) = _; rw [if_pos rfl]; exact classesGo_nil P n
noncomputable abbrev lamPos2 : Pos := ⟨122, 37, 122, 68⟩
noncomputable abbrev lamQual2 : Str := Str.ofString "_law_classes" ++ Str.ofString ".<locals>." ++ Str.ofString "<lambda>"
section
local macro_rules | `(tactic| walk_at "eval Name") => `(tactic| (k_here; k_dflt (refine' nameX_FB ?F ?c ?v ?d ?_ ?a ?b; (case a => rfl); (case b => rfl); (case F => k_asm); (case c => rfl); (case v => assumption); (case d => assumption); k_whole)))
theorem classes {A : Around} {s : Shared} {lm lo : Addr} {mks : List Mk} {vo : List Value} {os : List Int} (G : Gr w p loose mean mg mb (hideAll s.heap [132])) (C : CodeHd s.heap 136 132) (hP : s.heap.get? 132 = some (tabObj #[])) (hm : MksAt w s.heap lm mks) (hmb : ∀ k ∈ mks, k.cnt.length < 1000 ∧ k.b < 1000) (hno : os.length < 100) (hnm : mks.length < 100)
    (hlo : s.heap.IsList lo vo.toArray) (hio : IntsAre vo os) (hin : ∀ k ∈ os, 0 ≤ k ∧ k < mks.length) (R : Rm 40 A) :
    wpAny (model PR w) A (call (.ref 137) [.ref lm, .ref lo]) (OutB (hideAll s.heap [132]) s fun v h => ∃ nw, Fresh (hideAll s.heap [132]) h nw ∧ GrownAt 132 h ∧ ∃ (D : Addr) (vs : Array Value) (c : Nat), v = .ref D ∧ (D, listOf vs c) ∈ nw ∧ Paired (T3 nw) vs.toList (classesGo (clsP mks) mks.length os)) NoE s := by
  have D := Ledge.hide hP
  have LL := hm.hide hP
  have C0 := CodeHd_hide C
  have LO := hide_list hP hlo
  clear C hm hlo
  revert G D LL C0 LO
  generalize hideAll s.heap [132] = h0
  intro G D LL C0 hlo
  obtain ⟨vm, hlm, hvl, hvi⟩ := LL
  obtain ⟨_, dp, fr, gd, un⟩ := A
  obtain ⟨hh, hd, hu⟩ := R
  cases hh
  dsimp only at hd hu
  refine wpAny_call ?_
  refine enterC [(Str.ofString "marks", .ref lm), (Str.ofString "order", .ref lo)] G D (by k_is) (by k_is) (rm00 hd) (BindsTo.of_eq rfl) rfl (by decide +kernel) ?_ rfl rfl rfl
  intro L' h₁ tk cells F N Y l0
  have hY := CellsAre.two Y
  refine exE2 hY ?_
  clear hY
  intro o1 o2 zz8
  refine anE3 zz8 ?_
  clear zz8
  rintro rfl d1 d2
  replace d1 : o1.data = .cell none := d1
  replace d2 : o2.data = .cell (some (.ref lm)) := d2
  clear Y
  simp only [List.cons_append, List.nil_append] at N
  k_lt l0
  have X := G.X
  have T := G.T
  ((try ((with_reducible show wpAny _ _ _ _ _ _); k_fold)); repeat' (first | ((fail_if_success (with_reducible show wpAny _ _ (pyIter _) _ _ _)); (fail_if_success (with_reducible show wpAny _ _ (exec (Stmt.For _ _ _ _ _) _) _ _ _)); (fail_if_success (with_reducible show wpAny _ _ (eval (PySem.Expr.ListComp _ _ _ _) _) _ _ _)); (fail_if_success (with_reducible show wpAny _ _ (exec (Stmt.Assign _ (PySem.Expr.ListComp _ _ _ _) _) _) _ _ _)); (fail_if_success (with_reducible show wpAny _ _ (eval (PySem.Expr.Lambda _ _ _ _) _) _ _ _)); (fail_if_success (with_reducible show LCt.CompSrcT _ _ _ _ _ _ _ _ _ _ _ _ _ _ _)); (fail_if_success (with_reducible show LCg.CompSrc _ _ _ _ _ _ _ _ _ _ _ _ _ _)); (fail_if_success (with_reducible show LCg.CompEnd _ _ _ _ _ _ _ _ _ _ _ _ _ _)); first | (k_unfold; (try dsimp only)) | (k_here; (with_reducible show wpAny _ _ (call (Value.ref 66) _) _ _ _); (refine use (by k_asm) (by k_asm) (equal (Gr.keeps (by assumption) (Fr.keep (by k_asm))) (IsMk.stay (by assumption) (Fr.keep (by k_asm))) (IsMk.stay (by assumption) (Fr.keep (by k_asm))) (by ((refine ⟨rfl, ?_, ?_⟩ <;> first | exact rm1 (by assumption) (by decide) | exact rm0 (by assumption) (by decide) | exact rm2 (by assumption) (by decide) | ((try simp only [Around.deeper, Around.in1]); omega))))) ?_; rintro _ _ _ _ _ _ e9; subst e9; (try dsimp only))) | (k_here; (with_reducible show wpAny _ _ (subscriptTail _ _ (Value.ref _) (Value.int _ _)) _ _ _); (refine' itemB ?k1 ?k2 ?k3 ?k4 ?k5 ?_ ?k6; (case k1 => k_asm); (case k2 => assumption); (case k5 => assumption); (case k3 => omega); (case k4 => omega); (case k6 => with_unfolding_all rfl))) | walk1 | (dsimp only; walk1))))
  refine For_invV h0 rfl rfl ?_
  ((try ((with_reducible show wpAny _ _ _ _ _ _); k_fold)); repeat' (first | ((fail_if_success (with_reducible show wpAny _ _ (pyIter _) _ _ _)); (fail_if_success (with_reducible show wpAny _ _ (exec (Stmt.For _ _ _ _ _) _) _ _ _)); (fail_if_success (with_reducible show wpAny _ _ (eval (PySem.Expr.ListComp _ _ _ _) _) _ _ _)); (fail_if_success (with_reducible show wpAny _ _ (exec (Stmt.Assign _ (PySem.Expr.ListComp _ _ _ _) _) _) _ _ _)); (fail_if_success (with_reducible show wpAny _ _ (eval (PySem.Expr.Lambda _ _ _ _) _) _ _ _)); (fail_if_success (with_reducible show LCt.CompSrcT _ _ _ _ _ _ _ _ _ _ _ _ _ _ _)); (fail_if_success (with_reducible show LCg.CompSrc _ _ _ _ _ _ _ _ _ _ _ _ _ _)); (fail_if_success (with_reducible show LCg.CompEnd _ _ _ _ _ _ _ _ _ _ _ _ _ _)); first | (k_unfold; (try dsimp only)) | (k_here; (with_reducible show wpAny _ _ (call (Value.ref 66) _) _ _ _); (refine use (by k_asm) (by k_asm) (equal (Gr.keeps (by assumption) (Fr.keep (by k_asm))) (IsMk.stay (by assumption) (Fr.keep (by k_asm))) (IsMk.stay (by assumption) (Fr.keep (by k_asm))) (by ((refine ⟨rfl, ?_, ?_⟩ <;> first | exact rm1 (by assumption) (by decide) | exact rm0 (by assumption) (by decide) | exact rm2 (by assumption) (by decide) | ((try simp only [Around.deeper, Around.in1]); omega))))) ?_; rintro _ _ _ _ _ _ e9; subst e9; (try dsimp only))) | (k_here; (with_reducible show wpAny _ _ (subscriptTail _ _ (Value.ref _) (Value.int _ _)) _ _ _); (refine' itemB ?k1 ?k2 ?k3 ?k4 ?k5 ?_ ?k6; (case k1 => k_asm); (case k2 => assumption); (case k5 => assumption); (case k3 => omega); (case k4 => omega); (case k6 => with_unfolding_all rfl))) | walk1 | (dsimp only; walk1))))
  rename_i Dt _ lt1 _ _ D0 c0 _ lt2 _ F0 N0
  refine iterBase (fun i m nx => ∃ (ys : Array Value) (c : Nat) (ps : Array Value) (oh : Obj) (va : Array Value) (ca : Nat) (al : Addr) (lf : List Int) (told : List (List Int × List Int × List Int)) (old : List (Addr × Obj)) (u1 u2 u3 : Option Value),
      nx = (Dt, listOf ys c) :: (L' + 1 + 1, oh) :: (L' + 1, o2) :: (132, tabObj ps) :: (al, listOf va ca) :: old ∧ (∃ v, oh.data = .cell v) ∧ TabOk lamPos2 lamQual2 ps old ∧
      (∀ q ∈ old, Old q.2 ∧ @Ne Nat q.1 Dt ∧ @Ne Nat q.1 (L' + 1 + 1) ∧ @Ne Nat q.1 132) ∧ (@Ne Nat al Dt ∧ @Ne Nat al (L' + 1 + 1) ∧ @Ne Nat al 132) ∧ IntsAre va.toList lf ∧ (∀ k ∈ lf, k ∈ os) ∧ lf.length ≤ os.length ∧
      Paired (T3 old) ys.toList told ∧ ys.size ≤ i ∧ told ++ classesGo (clsP mks) (mks.length - i) lf = classesGo (clsP mks) mks.length os ∧
      m = fun y => if y = Str.ofString "turn" then u1 else if y = Str.ofString "pair" then u2 else if y = Str.ofString "held" then u3 else List.lookup y [(Str.ofString "left", .ref al), (Str.ofString "told", .ref Dt), (Str.ofString "order", .ref lo)]) rfl hlm F0 (news := [(Dt, listOf #[] 0), (L' + 1 + 1, o1), (L' + 1, o2), (132, tabObj #[]), (D0, listOf vo.toArray c0)]) (nwS N0 (by ((try dsimp only [List.cons_append, List.nil_append]); repeat' (first | with_reducible exact sb0 | exact sbN | refine sbC ?_ ?_ | refine sbA ?_ ?_ | with_reducible exact mHd | refine mTl ?_ | refine List.mem_append_right _ ?_ | refine sbT ?_ | with_reducible exact sbL sb0 | refine sbR ?_)))) ?_ ?_ ?_ ?_
  · refine' (exI13 #[] 0 #[] o1 vo.toArray c0 D0 os [] [] none none none ⟨rfl, ⟨_, d1⟩, .inl rfl, (fun q hq => nomatch hq), ⟨by omega, by omega, by omega⟩, hio, (fun k hk => hk), Nat.le_refl _, .nil, Nat.le_refl _, rfl, ?jm⟩)
    case jm => ((funext y9; (try simp only [lkc, List.lookup_nil, List.reverse_cons, List.reverse_nil, List.nil_append, List.cons_append]); repeat' (first | rfl | contradiction | (refine ite_l (fun h9 => ?_) (fun h9 => ?_); (subst h9; first | rfl | contradiction)) | (refine ite_r (fun h9 => ?_) (fun h9 => ?_); first | contradiction | (subst h9; first | rfl | contradiction)))))
  · intro i m nx zz9 q hq
    refine exE13 zz9 ?_
    clear zz9
    intro ys c ps oh va ca al lf told old u1 u2 u3 zz8
    refine anE5 zz8 ?_
    clear zz8
    rintro rfl ⟨vh, hoh⟩ _ hold _
    revert q
    exact alC ((Old.not (.inl Plain.list))) (alC (.inr (.inl ⟨_, hoh⟩)) (alC (.inr (.inl ⟨_, d2⟩)) (alC (.inl (by show Value.none ≠ _; decide)) (alC ((Old.not (.inl Plain.list))) (fun q hq => (hold q hq).1.not)))))
  · intro i v m₁ nx h tk own hv zz9 hoff F' N' hoc
    (try ((with_reducible show wpAny _ _ _ _ _ _); k_fold))
    refine exE13 zz9 ?_
    clear zz9
    intro ys c ps oh va ca al lf told old u1 u2 u3 zz8
    refine anE12 zz8 ?_
    clear zz8
    rintro rfl ⟨vh, hoh⟩ htab hold ⟨hal1, hal2, hal3⟩ hlf hsub hlen hpr hz hgo rfl
    simp only [List.cons_append, List.nil_append] at N'
    have hoff3 : OwnOff (old ++ own) [Dt, L' + 1 + 1, 132] := by
      intro q hq b hb
      rcases List.mem_append.mp hq with hq | hq
      · have := (hold q hq).2
        simp only [List.mem_cons, List.mem_nil_iff, or_false] at hb
        rcases hb with rfl | rfl | rfl
        · exact this.1
        · exact this.2.1
        · exact this.2.2
      · exact hoff q hq b (by simp only [List.map_cons, List.mem_cons, List.mem_nil_iff, or_false] at hb ⊢; rcases hb with h | h | h <;> simp [h])
    have hin9 : i < mks.length := by
      have := (List.getElem?_eq_some_iff.mp hv).1
      omega
    have hla := hlf.length
    simp only [Array.length_toList] at hla
    ((try ((with_reducible show wpAny _ _ _ _ _ _); k_fold)); repeat' (first | ((fail_if_success (with_reducible show wpAny _ _ (pyIter _) _ _ _)); (fail_if_success (with_reducible show wpAny _ _ (exec (Stmt.For _ _ _ _ _) _) _ _ _)); (fail_if_success (with_reducible show wpAny _ _ (eval (PySem.Expr.ListComp _ _ _ _) _) _ _ _)); (fail_if_success (with_reducible show wpAny _ _ (exec (Stmt.Assign _ (PySem.Expr.ListComp _ _ _ _) _) _) _ _ _)); (fail_if_success (with_reducible show wpAny _ _ (eval (PySem.Expr.Lambda _ _ _ _) _) _ _ _)); (fail_if_success (with_reducible show LCt.CompSrcT _ _ _ _ _ _ _ _ _ _ _ _ _ _ _)); (fail_if_success (with_reducible show LCg.CompSrc _ _ _ _ _ _ _ _ _ _ _ _ _ _)); (fail_if_success (with_reducible show LCg.CompEnd _ _ _ _ _ _ _ _ _ _ _ _ _ _)); first | (k_unfold; (try dsimp only)) | (k_here; (with_reducible show wpAny _ _ (call (Value.ref 66) _) _ _ _); (refine use (by k_asm) (by k_asm) (equal (Gr.keeps (by assumption) (Fr.keep (by k_asm))) (IsMk.stay (by assumption) (Fr.keep (by k_asm))) (IsMk.stay (by assumption) (Fr.keep (by k_asm))) (by ((refine ⟨rfl, ?_, ?_⟩ <;> first | exact rm1 (by assumption) (by decide) | exact rm0 (by assumption) (by decide) | exact rm2 (by assumption) (by decide) | ((try simp only [Around.deeper, Around.in1]); omega))))) ?_; rintro _ _ _ _ _ _ e9; subst e9; (try dsimp only))) | (k_here; (with_reducible show wpAny _ _ (subscriptTail _ _ (Value.ref _) (Value.int _ _)) _ _ _); (refine' itemB ?k1 ?k2 ?k3 ?k4 ?k5 ?_ ?k6; (case k1 => k_asm); (case k2 => assumption); (case k5 => assumption); (case k3 => omega); (case k4 => omega); (case k6 => with_unfolding_all rfl))) | walk1 | (dsimp only; walk1))))
    · have hnil : lf = [] := of_decide_eq_true (by assumption)
      (rename News _ _ _ _ => N9)
      (rename Fr _ _ _ _ => F9)
      subst hnil
      rw [classesGo_nil] at hgo
      exact TurnEnd.go F9 N9 (exI13 ys c ps oh va ca al [] told old _ _ _ ⟨rfl, ⟨vh, hoh⟩, htab, hold, ⟨hal1, hal2, hal3⟩, hlf, hsub, hlen, hpr, by omega, by rw [classesGo_nil]; exact hgo, by ((funext y9; (try simp only [lkc, List.lookup_nil, List.reverse_cons, List.reverse_nil, List.nil_append, List.cons_append]); repeat' (first | rfl | contradiction | (refine ite_l (fun h9 => ?_) (fun h9 => ?_); (subst h9; first | rfl | contradiction)) | (refine ite_r (fun h9 => ?_) (fun h9 => ?_); first | contradiction | (subst h9; first | rfl | contradiction)))))⟩) (fun q hq => .tail _ (List.mem_append_left own hq)) (fun q hq => .tail _ (.tail _ (.tail _ (.tail _ (.tail _ (.tail _ (List.mem_append_right _ hq)))))))
    · have hne : lf ≠ [] := of_decide_eq_false (by assumption)
      have hpos : 0 < lf.length := List.length_pos_iff.mpr hne
      have hk0 := hin _ (hsub _ (show lf.getD (Int.toNat 0) 0 ∈ lf from by show lf.getD 0 0 ∈ lf; rw [getD_lt hpos]; exact List.getElem_mem hpos))
      obtain ⟨a0, z1, z2⟩ := hvi (lf.getD (Int.toNat 0) 0).toNat (by omega)
      have hb0 := hmb _ (List.getElem_mem (show (lf.getD (Int.toNat 0) 0).toNat < mks.length by omega))
      ((try ((with_reducible show wpAny _ _ _ _ _ _); k_fold)); repeat' (first | ((fail_if_success (with_reducible show wpAny _ _ (pyIter _) _ _ _)); (fail_if_success (with_reducible show wpAny _ _ (exec (Stmt.For _ _ _ _ _) _) _ _ _)); (fail_if_success (with_reducible show wpAny _ _ (eval (PySem.Expr.ListComp _ _ _ _) _) _ _ _)); (fail_if_success (with_reducible show wpAny _ _ (exec (Stmt.Assign _ (PySem.Expr.ListComp _ _ _ _) _) _) _ _ _)); (fail_if_success (with_reducible show wpAny _ _ (eval (PySem.Expr.Lambda _ _ _ _) _) _ _ _)); (fail_if_success (with_reducible show LCt.CompSrcT _ _ _ _ _ _ _ _ _ _ _ _ _ _ _)); (fail_if_success (with_reducible show LCg.CompSrc _ _ _ _ _ _ _ _ _ _ _ _ _ _)); (fail_if_success (with_reducible show LCg.CompEnd _ _ _ _ _ _ _ _ _ _ _ _ _ _)); first | (k_unfold; (try dsimp only)) | (k_here; (with_reducible show wpAny _ _ (call (Value.ref 66) _) _ _ _); (refine use (by k_asm) (by k_asm) (equal (Gr.keeps (by assumption) (Fr.keep (by k_asm))) (IsMk.stay (by assumption) (Fr.keep (by k_asm))) (IsMk.stay (by assumption) (Fr.keep (by k_asm))) (by ((refine ⟨rfl, ?_, ?_⟩ <;> first | exact rm1 (by assumption) (by decide) | exact rm0 (by assumption) (by decide) | exact rm2 (by assumption) (by decide) | ((try simp only [Around.deeper, Around.in1]); omega))))) ?_; rintro _ _ _ _ _ _ e9; subst e9; (try dsimp only))) | (k_here; (with_reducible show wpAny _ _ (subscriptTail _ _ (Value.ref _) (Value.int _ _)) _ _ _); (refine' itemB ?k1 ?k2 ?k3 ?k4 ?k5 ?_ ?k6; (case k1 => k_asm); (case k2 => assumption); (case k5 => assumption); (case k3 => omega); (case k4 => omega); (case k6 => with_unfolding_all rfl))) | walk1 | (dsimp only; walk1))))
      rename_i oh9 F9 N9 dh9
      refine kla_eval rfl ?_
      refine lamAny (P := 132) (ps := ps) (rest := (Dt, listOf ys c) :: (L' + 1 + 1, oh9) :: (L' + 1, o2) :: (al, listOf va ca) :: (old ++ own)) F9 (nwS N9 ?_) T C0 rfl ?_ (htab.mono fun q hq => .tail _ (.tail _ (.tail _ (.tail _ (List.mem_append_left _ hq))))) rfl ?_
      · ((try dsimp only [List.cons_append, List.nil_append]); repeat' (first | with_reducible exact sb0 | exact sbN | refine sbC ?_ ?_ | refine sbA ?_ ?_ | with_reducible exact mHd | refine mTl ?_ | refine List.mem_append_right _ ?_ | refine sbT ?_ | with_reducible exact sbL sb0 | refine sbR ?_))
      · exact alC (Nat.ne_of_gt lt1.2.2) (alC (neN (by dsimp only; omega)) (alC (neN (by dsimp only; omega)) (alC hal3 (fun q hq => hoff3 q hq _ (by simp)))))
      intro f c' oc vs9 t9 ctv pm h5 tk5 F5 N5 doc dvs lf5
      have hp : ∀ (A' : Around) (s' : Shared) (n : Int) (t : Tok), Rm 19 A' → Stay h5 s'.heap → n ∈ lf → wpAny (model PR w) A' (call (.ref f) [.int n t]) (Out s' fun v h => Truth v h (clsP mks lf n)) NoE s' := by
        rintro ⟨_, dp', fr', gd', un'⟩ s' n t ⟨hh', hd', hu'⟩ st hn
        cases hh'
        dsimp only at hd' hu'
        refine wpAny_call ?_
        have st0 : Stay h0 s'.heap := fun b o e => st b o (F5.keep b o e)
        have eh : s'.heap.get? (L' + 1 + 1) = some oh9 := st _ _ (N5 _ (.tail _ (.tail _ (.tail _ (.tail _ (.head _)))))).1
        have em : s'.heap.get? (L' + 1) = some o2 := st _ _ (N5 _ (.tail _ (.tail _ (.tail _ (.tail _ (.tail _ (.head _))))))).1
        have hal' : s'.heap.IsList al va := ⟨_, st _ _ (N5 _ (.tail _ (.tail _ (.tail _ (.tail _ (.tail _ (.tail _ (.head _)))))))).1, rfl, _, rfl⟩
        have hlm' : s'.heap.IsList lm vm.toArray := hlm.at fun o e => st0 _ o e
        have G' := G.keeps st0
        have X' := G'.X
        have T' := G'.T
        refine enterL [(Str.ofString "i", .int n t)] G' (st _ _ (N5 _ (.head _)).1) ⟨c', oc, vs9, t9, rfl, st _ _ (N5 _ (.tail _ (.head _))).1, doc, dvs⟩ (by simp only; omega) rfl (locs rfl) ?_ rfl rfl rfl (by decide)
        clear F5 N5 X T
        try clear F9 N9
        intro L'' h₁' F6 N6
        have hnk := hin n (hsub n hn)
        obtain ⟨ai, p1, p2⟩ := hvi n.toNat (by omega)
        replace p2 := p2.stay st0
        replace z2 := z2.stay st0
        have q3 := p2
        refine exE16 q3 ?_
        clear q3
        intro dx tn tc t1 t2 t3 t4 t5 t6 t7 t8 n9 tb cv e1 e2 zz8
        refine anE5 zz8 ?_
        clear zz8
        rintro m1 m2 m3 m4 m5
        ((try ((with_reducible show wpAny _ _ _ _ _ _); k_fold)); repeat' (first | ((fail_if_success (with_reducible show wpAny _ _ (pyIter _) _ _ _)); (fail_if_success (with_reducible show wpAny _ _ (exec (Stmt.For _ _ _ _ _) _) _ _ _)); (fail_if_success (with_reducible show wpAny _ _ (eval (PySem.Expr.ListComp _ _ _ _) _) _ _ _)); (fail_if_success (with_reducible show wpAny _ _ (exec (Stmt.Assign _ (PySem.Expr.ListComp _ _ _ _) _) _) _ _ _)); (fail_if_success (with_reducible show wpAny _ _ (eval (PySem.Expr.Lambda _ _ _ _) _) _ _ _)); (fail_if_success (with_reducible show LCt.CompSrcT _ _ _ _ _ _ _ _ _ _ _ _ _ _ _)); (fail_if_success (with_reducible show LCg.CompSrc _ _ _ _ _ _ _ _ _ _ _ _ _ _)); (fail_if_success (with_reducible show LCg.CompEnd _ _ _ _ _ _ _ _ _ _ _ _ _ _)); first | (k_unfold; (try dsimp only)) | (k_here; (with_reducible show wpAny _ _ (call (Value.ref 66) _) _ _ _); (refine use (by k_asm) (by k_asm) (equal (Gr.keeps (by assumption) (Fr.keep (by k_asm))) (IsMk.stay (by assumption) (Fr.keep (by k_asm))) (IsMk.stay (by assumption) (Fr.keep (by k_asm))) (by ((refine ⟨rfl, ?_, ?_⟩ <;> first | exact rm1 (by assumption) (by decide) | exact rm0 (by assumption) (by decide) | exact rm2 (by assumption) (by decide) | ((try simp only [Around.deeper, Around.in1]); omega))))) ?_; rintro _ _ _ _ _ _ e9; subst e9; (try dsimp only))) | (k_here; (with_reducible show wpAny _ _ (subscriptTail _ _ (Value.ref _) (Value.int _ _)) _ _ _); (refine' itemB ?k1 ?k2 ?k3 ?k4 ?k5 ?_ ?k6; (case k1 => k_asm); (case k2 => assumption); (case k5 => assumption); (case k3 => omega); (case k4 => omega); (case k6 => with_unfolding_all rfl))) | walk1 | (dsimp only; walk1))))
        refine Out.of (by assumption) (.inl ?_)
        unfold clsP
        rw [getD_lt (show n.toNat < mks.length by omega), getD_lt (show (lf.getD 0 0).toNat < mks.length by exact (show (lf.getD (Int.toNat 0) 0).toNat < mks.length by omega))]
        rfl
      have nf : @LT.lt Nat _ Dt f := lf5 _ (.tail _ (.head _))
      ((try ((with_reducible show wpAny _ _ _ _ _ _); k_fold)); repeat' (first | ((fail_if_success (with_reducible show wpAny _ _ (pyIter _) _ _ _)); (fail_if_success (with_reducible show wpAny _ _ (exec (Stmt.For _ _ _ _ _) _) _ _ _)); (fail_if_success (with_reducible show wpAny _ _ (eval (PySem.Expr.ListComp _ _ _ _) _) _ _ _)); (fail_if_success (with_reducible show wpAny _ _ (exec (Stmt.Assign _ (PySem.Expr.ListComp _ _ _ _) _) _) _ _ _)); (fail_if_success (with_reducible show wpAny _ _ (eval (PySem.Expr.Lambda _ _ _ _) _) _ _ _)); (fail_if_success (with_reducible show LCt.CompSrcT _ _ _ _ _ _ _ _ _ _ _ _ _ _ _)); (fail_if_success (with_reducible show LCg.CompSrc _ _ _ _ _ _ _ _ _ _ _ _ _ _)); (fail_if_success (with_reducible show LCg.CompEnd _ _ _ _ _ _ _ _ _ _ _ _ _ _)); first | (k_unfold; (try dsimp only)) | (k_here; (with_reducible show wpAny _ _ (call (Value.ref 66) _) _ _ _); (refine use (by k_asm) (by k_asm) (equal (Gr.keeps (by assumption) (Fr.keep (by k_asm))) (IsMk.stay (by assumption) (Fr.keep (by k_asm))) (IsMk.stay (by assumption) (Fr.keep (by k_asm))) (by ((refine ⟨rfl, ?_, ?_⟩ <;> first | exact rm1 (by assumption) (by decide) | exact rm0 (by assumption) (by decide) | exact rm2 (by assumption) (by decide) | ((try simp only [Around.deeper, Around.in1]); omega))))) ?_; rintro _ _ _ _ _ _ e9; subst e9; (try dsimp only))) | (k_here; (with_reducible show wpAny _ _ (subscriptTail _ _ (Value.ref _) (Value.int _ _)) _ _ _); (refine' itemB ?k1 ?k2 ?k3 ?k4 ?k5 ?_ ?k6; (case k1 => k_asm); (case k2 => assumption); (case k5 => assumption); (case k3 => omega); (case k4 => omega); (case k6 => with_unfolding_all rfl))) | walk1 | (dsimp only; walk1))))
      have eDt : h5.get? Dt = some (listOf ys c) := (N5 _ (.tail _ (.tail _ (.tail _ (.head _))))).1
      have eCh : h5.get? (L' + 1 + 1) = some oh9 := (N5 _ (.tail _ (.tail _ (.tail _ (.tail _ (.head _)))))).1
      have eTb : h5.get? 132 = some _ := (N5 _ (.tail _ (.tail _ (.head _)))).1
      have eAl : h5.get? al = some (listOf va ca) := (N5 _ (.tail _ (.tail _ (.tail _ (.tail _ (.tail _ (.tail _ (.head _)))))))).1
      have eC : h5.get? c' = some oc := (N5 _ (.tail _ (.head _))).1
      have nc1 : @Ne Nat c' Dt := fun e => by
        rw [show c' = Dt from e, eDt] at eC
        rw [← Option.some.inj eC] at doc
        cases doc
      have nc2 : @Ne Nat c' (L' + 1 + 1) := fun e => by
        rw [show c' = L' + 1 + 1 from e, eCh] at eC
        rw [← Option.some.inj eC, dh9] at doc
        cases doc
      have nc3 : @Ne Nat c' 132 := fun e => by
        rw [show c' = 132 from e, eTb] at eC
        rw [← Option.some.inj eC] at doc
        cases doc
        simp [rawInt] at dvs
      refine useD F5 N5 (split (vs := va.toList) (ns := lf) (P := clsP mks lf) (G.keeps F5.keep) (by rw [Array.toArray_toList]; exact ⟨_, eAl, rfl, _, rfl⟩) hlf (by omega) ⟨_, _, (N5 _ (.head _)).1, rfl⟩ (by ((refine ⟨rfl, ?_, ?_⟩ <;> first | exact rm1 (by assumption) (by decide) | exact rm0 (by assumption) (by decide) | exact rm2 (by assumption) (by decide) | ((try simp only [Around.deeper, Around.in1]); omega)))) hp) ?_
      intro v9 h9 tk9 nw st9 F9 N9 fr9 zz9
      refine exE8 zz9 ?_
      clear zz9
      intro a9 y9 z9 ys9 zs9 c9 d9 e9 zz8
      refine anE4 zz8 ?_
      clear zz8
      rintro rfl rfl hy9 hz9
      simp only [List.cons_append, List.nil_append] at N9
      have n1 : @Ne Nat a9 Dt := fr9.ne (.head _) eDt
      have n2 : @Ne Nat z9 Dt := fr9.ne (.tail _ (.head _)) eDt
      have n3 : @Ne Nat y9 Dt := fr9.ne (.tail _ (.tail _ (.head _))) eDt
      have n4 : @Ne Nat a9 (L' + 1 + 1) := fr9.ne (.head _) eCh
      have n5 : @Ne Nat z9 (L' + 1 + 1) := fr9.ne (.tail _ (.head _)) eCh
      have n6 : @Ne Nat y9 (L' + 1 + 1) := fr9.ne (.tail _ (.tail _ (.head _))) eCh
      have n7 : @Ne Nat a9 132 := fr9.ne (.head _) eTb
      have n8 : @Ne Nat z9 132 := fr9.ne (.tail _ (.head _)) eTb
      have n9 : @Ne Nat y9 132 := fr9.ne (.tail _ (.tail _ (.head _))) eTb
      dsimp only
      ((try ((with_reducible show wpAny _ _ _ _ _ _); k_fold)); repeat' (first | ((fail_if_success (with_reducible show wpAny _ _ (pyIter _) _ _ _)); (fail_if_success (with_reducible show wpAny _ _ (exec (Stmt.For _ _ _ _ _) _) _ _ _)); (fail_if_success (with_reducible show wpAny _ _ (eval (PySem.Expr.ListComp _ _ _ _) _) _ _ _)); (fail_if_success (with_reducible show wpAny _ _ (exec (Stmt.Assign _ (PySem.Expr.ListComp _ _ _ _) _) _) _ _ _)); (fail_if_success (with_reducible show wpAny _ _ (eval (PySem.Expr.Lambda _ _ _ _) _) _ _ _)); (fail_if_success (with_reducible show LCt.CompSrcT _ _ _ _ _ _ _ _ _ _ _ _ _ _ _)); (fail_if_success (with_reducible show LCg.CompSrc _ _ _ _ _ _ _ _ _ _ _ _ _ _)); (fail_if_success (with_reducible show LCg.CompEnd _ _ _ _ _ _ _ _ _ _ _ _ _ _)); first | (k_unfold; (try dsimp only)) | (k_here; (with_reducible show wpAny _ _ (call (Value.ref 66) _) _ _ _); (refine use (by k_asm) (by k_asm) (equal (Gr.keeps (by assumption) (Fr.keep (by k_asm))) (IsMk.stay (by assumption) (Fr.keep (by k_asm))) (IsMk.stay (by assumption) (Fr.keep (by k_asm))) (by ((refine ⟨rfl, ?_, ?_⟩ <;> first | exact rm1 (by assumption) (by decide) | exact rm0 (by assumption) (by decide) | exact rm2 (by assumption) (by decide) | ((try simp only [Around.deeper, Around.in1]); omega))))) ?_; rintro _ _ _ _ _ _ e9; subst e9; (try dsimp only))) | (k_here; (with_reducible show wpAny _ _ (subscriptTail _ _ (Value.ref _) (Value.int _ _)) _ _ _); (refine' itemB ?k1 ?k2 ?k3 ?k4 ?k5 ?_ ?k6; (case k1 => k_asm); (case k2 => assumption); (case k5 => assumption); (case k3 => omega); (case k4 => omega); (case k6 => with_unfolding_all rfl))) | walk1 | (dsimp only; walk1))))
      rename_i _ _ T6 _ l6 _ _ F10 N10
      have hP' : Paired (T3 ((T6, tupOf [.ref al, .ref a9] 0) :: (a9, tupOf [.ref y9, .ref z9] e9) :: (z9, listOf zs9 d9) :: (y9, listOf ys9 c9) :: (al, listOf va ca) :: (c', oc) :: old)) (ys.push (.ref T6)).toList (told ++ [(lf, lf.filter (clsP mks lf), lf.filter fun k => !clsP mks lf k)]) := by
        rw [Array.toList_push]
        refine Paired.snoc (Paired.mono (fun a b h => h.mono fun q hq => .tail _ (.tail _ (.tail _ (.tail _ (.tail _ (.tail _ hq)))))) hpr) ?_
        exact ⟨T6, al, a9, y9, z9, 0, e9, va, ys9, zs9, ca, c9, d9, rfl, .head _, List.mem_of_getElem? (i := 4) rfl, hlf, List.mem_of_getElem? (i := 1) rfl, List.mem_of_getElem? (i := 3) rfl, hy9, List.mem_of_getElem? (i := 2) rfl, hz9⟩
      have hgo' : (told ++ [(lf, lf.filter (clsP mks lf), lf.filter fun k => !clsP mks lf k)]) ++ classesGo (clsP mks) (mks.length - (i + 1)) (lf.filter fun k => !clsP mks lf k) = classesGo (clsP mks) mks.length os := by
        rw [← hgo, List.append_assoc]
        congr 1
        obtain ⟨k, hk⟩ : ∃ k, mks.length - i = k + 1 := ⟨mks.length - i - 1, by omega⟩
        rw [hk, show mks.length - (i + 1) = k by omega]
        show _ = (if lf = [] then _ else _)
        rw [if_neg hne]; rfl
      refine TurnEnd.go F10 N10 (nx := (Dt, listOf (ys.push (.ref T6)) (c + 1)) :: (L' + 1 + 1, oh9) :: (L' + 1, o2) :: (132, tabObj #[rawInt lamPos2.line, rawInt lamPos2.col, .ref c']) :: (z9, listOf zs9 d9) :: ((T6, tupOf [.ref al, .ref a9] 0) :: (a9, tupOf [.ref y9, .ref z9] e9) :: (z9, listOf zs9 d9) :: (y9, listOf ys9 c9) :: (al, listOf va ca) :: (c', oc) :: old))
        (exI13 (ys.push (.ref T6)) (c + 1) _ oh9 zs9 d9 z9 (lf.filter (fun k => !clsP mks lf k)) _ _ _ _ _ ⟨rfl, ⟨_, dh9⟩, .inr ⟨c', oc, vs9, t9, rfl, List.mem_of_getElem? (i := 5) rfl, doc, dvs⟩, ?_, ⟨n2, n5, n8⟩, hz9, fun k hk => hsub k (List.mem_filter.mp hk).1, Nat.le_trans (List.length_filter_le _ _) hlen, hP', by rw [Array.size_push]; omega, hgo', by ((funext y9; (try simp only [lkc, List.lookup_nil, List.reverse_cons, List.reverse_nil, List.nil_append, List.cons_append]); repeat' (first | rfl | contradiction | (refine ite_l (fun h9 => ?_) (fun h9 => ?_); (subst h9; first | rfl | contradiction)) | (refine ite_r (fun h9 => ?_) (fun h9 => ?_); first | contradiction | (subst h9; first | rfl | contradiction)))))⟩) ?_ ?_
      · exact alC ⟨.inl Plain.tup, Nat.ne_of_gt l6.2.2.2.2.2.2.1, Nat.ne_of_gt l6.2.2.2.2.2.2.2.1, Nat.ne_of_gt l6.2.2.2.2.2.1⟩ (alC ⟨.inl Plain.tup, n1, n4, n7⟩ (alC ⟨.inl Plain.list, n2, n5, n8⟩ (alC ⟨.inl Plain.list, n3, n6, n9⟩ (alC ⟨.inl Plain.list, hal1, hal2, hal3⟩ (alC ⟨.inr ⟨_, _, _, doc, dvs⟩, nc1, nc2, nc3⟩ hold)))))
      · exact (sbC (List.mem_of_getElem? (i := 7) rfl) (sbC (List.mem_of_getElem? (i := 8) rfl) (sbC (List.mem_of_getElem? (i := 9) rfl) (sbC (List.mem_of_getElem? (i := 6) rfl) (sbC (List.mem_of_getElem? (i := 2) rfl) (sbC (List.mem_of_getElem? (i := 0) rfl) (sbC (List.mem_of_getElem? (i := 1) rfl) (sbC (List.mem_of_getElem? (i := 2) rfl) (sbC (List.mem_of_getElem? (i := 3) rfl) (sbC (List.mem_of_getElem? (i := 10) rfl) (sbC (List.mem_of_getElem? (i := 5) rfl) (fun q hq => .tail _ (.tail _ (.tail _ (.tail _ (.tail _ (.tail _ (.tail _ (.tail _ (.tail _ (.tail _ (.tail _ (List.mem_append_left _ hq)))))))))))))))))))))))
      · intro q hq
        exact .tail _ (.tail _ (.tail _ (.tail _ (.tail _ (.tail _ (.tail _ (.tail _ (.tail _ (.tail _ (.tail _ (List.mem_append_right _ hq)))))))))))
  · intro m₁ nx h tk zz9 F' N'
    (try ((with_reducible show wpAny _ _ _ _ _ _); k_fold))
    refine exE13 zz9 ?_
    clear zz9
    intro ys c ps oh va ca al lf told old u1 u2 u3 zz8
    refine anE12 zz8 ?_
    clear zz8
    rintro rfl ⟨vh, hoh⟩ htab hold hal hlf hsub hlen hpr hz hgo rfl
    ((try ((with_reducible show wpAny _ _ _ _ _ _); k_fold)); repeat' (first | ((fail_if_success (with_reducible show wpAny _ _ (pyIter _) _ _ _)); (fail_if_success (with_reducible show wpAny _ _ (exec (Stmt.For _ _ _ _ _) _) _ _ _)); (fail_if_success (with_reducible show wpAny _ _ (eval (PySem.Expr.ListComp _ _ _ _) _) _ _ _)); (fail_if_success (with_reducible show wpAny _ _ (exec (Stmt.Assign _ (PySem.Expr.ListComp _ _ _ _) _) _) _ _ _)); (fail_if_success (with_reducible show wpAny _ _ (eval (PySem.Expr.Lambda _ _ _ _) _) _ _ _)); (fail_if_success (with_reducible show LCt.CompSrcT _ _ _ _ _ _ _ _ _ _ _ _ _ _ _)); (fail_if_success (with_reducible show LCg.CompSrc _ _ _ _ _ _ _ _ _ _ _ _ _ _)); (fail_if_success (with_reducible show LCg.CompEnd _ _ _ _ _ _ _ _ _ _ _ _ _ _)); first | (k_unfold; (try dsimp only)) | (k_here; (with_reducible show wpAny _ _ (call (Value.ref 66) _) _ _ _); (refine use (by k_asm) (by k_asm) (equal (Gr.keeps (by assumption) (Fr.keep (by k_asm))) (IsMk.stay (by assumption) (Fr.keep (by k_asm))) (IsMk.stay (by assumption) (Fr.keep (by k_asm))) (by ((refine ⟨rfl, ?_, ?_⟩ <;> first | exact rm1 (by assumption) (by decide) | exact rm0 (by assumption) (by decide) | exact rm2 (by assumption) (by decide) | ((try simp only [Around.deeper, Around.in1]); omega))))) ?_; rintro _ _ _ _ _ _ e9; subst e9; (try dsimp only))) | (k_here; (with_reducible show wpAny _ _ (subscriptTail _ _ (Value.ref _) (Value.int _ _)) _ _ _); (refine' itemB ?k1 ?k2 ?k3 ?k4 ?k5 ?_ ?k6; (case k1 => k_asm); (case k2 => assumption); (case k5 => assumption); (case k3 => omega); (case k4 => omega); (case k6 => with_unfolding_all rfl))) | walk1 | (dsimp only; walk1))))
    dsimp only
    rw [hvl, Nat.sub_self] at hgo
    replace hgo : told = classesGo (clsP mks) mks.length os := by simpa [classesGo] using hgo
    rw [hgo] at hpr
    exact OutB.of F' ⟨_, Fresh.of_news N' (fun q hq => hq), ⟨_, (N' _ (List.mem_of_getElem? (i := 3) rfl)).1⟩, Dt, ys, c, rfl, .head _, Paired.mono (fun a b h => h.mono fun q hq => .tail _ (.tail _ (.tail _ (.tail _ (.tail _ hq))))) hpr⟩
end
/-- a call by what is known of it, its makings put on the ledger, apart from all -/
theorem useE {A : Around} {E : Value → Shared → Prop} {s : Shared} {prog : Program} {h₀ : Heap} {L : Addr} {m : Str → Option Value} {news : List (Addr × Obj)} {t : Sem Value} {P : Value → Heap → List (Addr × Obj) → Prop} {Q : Value → Shared → Prop}
    (F : Fr h₀ L s.heap m) (N : News h₀ L s.heap news) (c : wpAny (model prog w) A t (Out s fun v h => ∃ nw, Fresh s.heap h nw ∧ P v h nw) NoE s)
    (h : ∀ v h' tk nw, Fr h₀ L h' m → News h₀ L h' (nw ++ news) → (∀ q ∈ nw, ∀ r ∈ news, @Ne Nat q.1 r.1) → P v h' nw → Q v { s with heap := h', toks := tk }) : wpAny (model prog w) A t Q E s :=
  useD F N c fun v h' tk nw _ F' N' fr hP => h v h' tk nw F' N' (fun q hq r hr => fr.ne hq (N r hr).1) hP
theorem lenOwn {A : Around} {E : Value → Shared → Prop} {s : Shared} {prog : Program} {h₀ : Heap} {L t : Addr} {vs : Array Value} {c n : Nat} {news : List (Addr × Obj)} {Q : Value → Shared → Prop} (N : News h₀ L s.heap news) (hm : (t, listOf vs c) ∈ news) (I : vs.size = n) (hf : n < 1000)
    (h : Q (.int n (s.toks + 1)) { s with toks := s.toks + 1 + 1 }) : wpAny (model prog w) A (call (.builtin "len") [.ref t]) Q E s :=
  len_list ⟨_, (N _ hm).1, rfl, _, rfl⟩ (by rw [I]; omega) (by rw [I]; exact h)
theorem itemOwn {A : Around} {E : Value → Shared → Prop} {s : Shared} {prog : Program} {h₀ : Heap} {L l : Addr} {vs : Array Value} {c : Nat} {k : Int} {u : Tok} {v : Value} {value slice : PySem.Expr} {news : List (Addr × Obj)} {Q : Value → Shared → Prop}
    (N : News h₀ L s.heap news) (hm : (l, listOf vs c) ∈ news) (h0 : 0 ≤ k) (h1 : k < 1000000) (hx : vs.toList[k.toNat]? = some v) (h : Q v s)
    (hs : subscripted slice false (.ref l) (.int k u) = operate [.ref l, .int k u] (getItem (.ref l) (.int k u)) := by with_unfolding_all rfl) :
    wpAny (model prog w) A (subscriptTail value slice (.ref l) (.int k u)) Q E s :=
  tail_any (T := "list") ⟨_, (N _ hm).1, rfl⟩ slot_list_getitem.lookup (wpAny_getItem_list ⟨_, (N _ hm).1, rfl, _, rfl⟩ h0 (by omega) (by simpa using hx) h) hs
theorem off1_mem {D : Addr} : ∀ {l : List (Addr × Obj)}, PyProof.Rows.LCg.Off1 D l → ∀ q ∈ l, @Ne Nat q.1 D
  | [], _, _, h => nomatch h
  | _ :: _, x, q, h => by
    rcases List.mem_cons.mp h with rfl | h
    · exact x.1
    · exact off1_mem x.2 q h
/-- apart from the cell and the tables -/
noncomputable def FarOff (L : Addr) (nw : List (Addr × Obj)) : Prop := ∀ q ∈ nw, @Ne Nat q.1 (L + 1 + 1) ∧ @Ne Nat q.1 132 ∧ @Ne Nat q.1 125 ∧ @Ne Nat q.1 115 ∧ NotIt (.type "list_iterator") q.2
/-- a list of ints on the ledger -/
noncomputable def ColIn (nw : List (Addr × Obj)) (v : Value) (c : List Int) : Prop := ∃ (a : Addr) (us : Array Value) (e : Nat), v = .ref a ∧ (a, listOf us e) ∈ nw ∧ IntsAre us.toList c
theorem ColIn.mono {nw nw' : List (Addr × Obj)} {v : Value} {c : List Int} (h : ColIn nw v c) (hs : ∀ q ∈ nw, q ∈ nw') : ColIn nw' v c :=
  let ⟨a, us, e, h1, h2, h3⟩ := h; ⟨a, us, e, h1, hs _ h2, h3⟩
theorem Paired.get {α β : Type} {F : α → β → Prop} {l : List α} {l' : List β} (h : Paired F l l') : ∀ {i : Nat} {b : β}, l'[i]? = some b → ∃ a, l[i]? = some a ∧ F a b := by
  induction h with
  | nil => intro i b e; simp at e
  | cons h1 _ ih =>
    intro i b e
    cases i with
    | zero => cases e; exact ⟨_, rfl, h1⟩
    | succ i => exact ih e
noncomputable abbrev colD (c : List Int) : PyData := .list (c.map .int)
theorem cols_reads {h₀ h : Heap} {L : Addr} {news : List (Addr × Obj)} (N : News h₀ L h news) {vs : List Value} {cols : List (List Int)} (hp : Paired (ColIn news) vs cols) : ∃ as, ReadsAll h vs (cols.map colD) as := by
  induction hp with
  | nil => exact ⟨_, .nil⟩
  | cons h1 _ ih =>
    obtain ⟨as, ih⟩ := ih
    refine exE3 h1 ?_
    clear h1
    intro a us e zz8
    refine anE3 zz8 ?_
    clear zz8
    rintro rfl hm hi
    exact ⟨_, .cons (reads_il (N _ hm).1 hi) ih⟩
theorem cols_lay : ∀ cols : List (List Int), PyData.canLayAll0 (cols.map colD) = true
  | [] => rfl
  | c :: r => by
    rw [List.map_cons]
    show (PyData.canLay0 (colD c) && PyData.canLayAll0 (r.map colD)) = true
    rw [cols_lay r, Bool.and_true]
    exact SeqAt.canLay_of_shaped (il_shaped c)
theorem cols_any (cols : List (List Int)) (c : List Int) : (cols.map colD).any (fun y => PyData.eqv y (colD c)) = decide (c ∈ cols) := by
  induction cols with
  | nil => simp
  | cons a r ih =>
    rw [List.map_cons, List.any_cons, ih, il_eqv]
    by_cases h : a = c
    · simp [h]
    · simp [h, Ne.symm h]
theorem il_depth (c : List Int) : (colD c).depth ≤ 1 := by
  simp [colD, PyData.depth, depth_ints]
/-- x not in a list of lists of ints -/
theorem notInLL {A : Around} {E : Value → Shared → Prop} {s : Shared} {prog : Program} {h₀ : Heap} {L D : Addr} {news : List (Addr × Obj)} {vs : Array Value} {c : Nat} {cols : List (List Int)} {x : Value} {col : List Int} {nw : List (Addr × Obj)} {Q : Value → Shared → Prop}
    (N : News h₀ L s.heap news) (hm : (D, listOf vs c) ∈ news) (hs : ∀ q ∈ nw, q ∈ news) (hp : Paired (ColIn nw) vs.toList cols) (hx : ColIn nw x col) (hu : A.units + 8 < cLine) (h : Q (.bool (!decide (col ∈ cols))) s) :
    wpAny (model prog w) A (compareOp .NotIn x (.ref D)) Q E s := by
  obtain ⟨as, ra⟩ := cols_reads N (Paired.mono (fun a b h => h.mono hs) hp)
  refine exE3 (hx.mono hs) ?_
  intro a us e zz8
  refine anE3 zz8 ?_
  clear zz8
  rintro rfl hma hi
  refine SeqAt.notIn_list_reads (Reads.list (N _ hm).1 rfl rfl ra) (reads_il (N _ hma).1 hi) (cols_lay _) (SeqAt.canLay_of_shaped (il_shaped _)) ?_ (by rw [cols_any]; exact h)
  have h1 := il_depth col
  have h2 : min (PyData.depthAll (cols.map colD)) (colD col).depth ≤ 1 := Nat.le_trans (Nat.min_le_right _ _) h1
  exact Nat.lt_of_le_of_lt (Nat.add_le_add_left h2 _) (by omega)
/-- the first ones -/
noncomputable def firstsOf (cols : List (List Int)) (ks : List Int) : List (List Int) := ks.foldl (fun fs k => if cols.getD k.toNat [] ∈ fs then fs else fs ++ [cols.getD k.toNat []]) []
theorem firstsOf_take {cols : List (List Int)} {ks : List Int} {i : Nat} {k : Int} (h : ks[i]? = some k) : firstsOf cols (ks.take (i + 1)) = if cols.getD k.toNat [] ∈ firstsOf cols (ks.take i) then firstsOf cols (ks.take i) else firstsOf cols (ks.take i) ++ [cols.getD k.toNat []] := by
  unfold firstsOf
  rw [List.take_add_one, h, List.foldl_append]; rfl
noncomputable def orderOf (n : Nat) : List Int := (List.range n).map (fun (k : Nat) => (n : Int) - 1 - (0 + (k : Int))) ++ [3]
theorem orderOf_mem {n : Nat} (h4 : 4 ≤ n) : ∀ k ∈ orderOf n, 0 ≤ k ∧ k < n := fun k hk => by
  unfold orderOf at hk
  rcases List.mem_append.mp hk with h | h
  · obtain ⟨i, hi, rfl⟩ := List.mem_map.mp h
    have := List.mem_range.mp hi
    omega
  · rw [List.mem_singleton.mp h]; omega
/-- a plain short text -/
noncomputable def RowOk (r : Str) : Prop := r.cps.all (· < 128) = true ∧ r.length ≤ 100
noncomputable def rowY (y : Int) : Str := Txt.mul (Str.ofString " ") (y.fmod 3) ++ Txt.mul (Str.ofString "\t") ((y.fdiv 3).fmod 3) ++ Txt.mul (Str.ofString " ") ((y.fdiv 9).fmod 3) ++ Txt.mul (Str.ofString "\t") (y.fdiv 27)
theorem rowOf_Y (x : Int) : ∃ y : Nat, y < 54 ∧ rowOf x = rowY y := by
  refine ⟨(x.fmod 54).toNat, ?_, ?_⟩
  · have := Int.fmod_lt_of_pos x (show (0 : Int) < 54 by decide)
    have := Int.fmod_nonneg_of_pos x (show (0 : Int) < 54 by decide)
    omega
  · have := Int.fmod_nonneg_of_pos x (show (0 : Int) < 54 by decide)
    rw [Int.toNat_of_nonneg this]; rfl
theorem rowY_ok : ∀ y : Fin 54, (rowY (y.val : Int)).cps.all (· < 128) = true ∧ (rowY (y.val : Int)).length ≤ 100 := by decide +kernel
theorem rows4_ok : ∀ r ∈ rows4, r.cps.all (· < 128) = true ∧ r.length ≤ 100 := by decide +kernel
theorem rowsOf_ok (ns : List Int) : ∀ r ∈ rowsOf ns, RowOk r := fun r hr => by
  rcases List.mem_append.mp hr with h | h
  · exact rows4_ok r h
  · obtain ⟨x, _, rfl⟩ := List.mem_map.mp h
    obtain ⟨y, hy, e⟩ := rowOf_Y x
    rw [e]; exact rowY_ok ⟨y, hy⟩
/-- a Whitespace by its makings -/
noncomputable def MkIn (w : World) (nw : List (Addr × Obj)) (v : Value) (k : Mk) : Prop := ∃ x, v = .ref x ∧ ∀ h', (∀ q ∈ nw, h'.get? q.1 = some q.2) → IsMk w h' x k
theorem MkIn.mono {nw nw' : List (Addr × Obj)} {v : Value} {k : Mk} (h : MkIn w nw v k) (hs : ∀ q ∈ nw, q ∈ nw') : MkIn w nw' v k :=
  let ⟨x, e, r⟩ := h; ⟨x, e, fun h' hh => r h' fun q hq => hh q (hs q hq)⟩
noncomputable def sufOf (k : Nat) : Str := if k % 2 = 0 then Str.ofString "" else Str.ofString "x\t"
theorem suf_at (i : Nat) (t u : Tok) : (#[Value.str (Str.ofString "") t, Value.str (Str.ofString "x\t") u] : Array Value).toList[((0 + (i : Int)).fmod 2).toNat]? = some (.str (sufOf i) (if i % 2 = 0 then t else u)) := by
  have h : i % 2 = 0 ∨ i % 2 = 1 := by omega
  unfold sufOf
  rcases h with h | h
  · rw [if_pos h, if_pos h, show ((0 + (i : Int)).fmod 2).toNat = 0 by rw [Int.fmod_eq_emod_of_nonneg _ (by decide)]; omega]; rfl
  · rw [if_neg (by omega), if_neg (by omega), show ((0 + (i : Int)).fmod 2).toNat = 1 by rw [Int.fmod_eq_emod_of_nonneg _ (by decide)]; omega]; rfl
theorem sufOf_len (i : Nat) : (sufOf i).length ≤ 2 := by unfold sufOf; split <;> decide +kernel
theorem sufOf_ascii (i : Nat) : (sufOf i).cps.all (· < 128) = true := by unfold sufOf; split <;> decide +kernel
noncomputable def marksOf (rws : List Str) : List Mk := (List.range rws.length).map fun k => mkOf (rws.getD k ⟨#[]⟩ ++ sufOf k)
theorem marks_take {rws : List Str} {i : Nat} (h : i < rws.length) : (marksOf rws).take (i + 1) = (marksOf rws).take i ++ [mkOf (rws[i] ++ sufOf i)] := by
  have hl : i < (marksOf rws).length := by unfold marksOf; simpa using h
  rw [List.take_add_one, List.getElem?_eq_getElem hl]
  unfold marksOf
  simp [List.getD, h]
theorem ascii_app {a b : Str} (h1 : a.cps.all (· < 128) = true) (h2 : b.cps.all (· < 128) = true) : (a ++ b).cps.all (· < 128) = true := by
  rw [Str.cps_append, Array.all_append, h1, h2]; rfl
theorem ne_of_lt_idx {c : List Int} : ∀ {l : List (List Int)} {m : Nat}, m < l.idxOf c → ∀ h : m < l.length, l[m] ≠ c
  | [], _, _, h => nomatch h
  | a :: r, 0, h, _ => fun e => by
    have e' : a = c := e
    rw [List.idxOf_cons, e'] at h
    simp at h
  | a :: r, m + 1, h, hl => by
    by_cases e : a = c
    · rw [List.idxOf_cons, e] at h
      simp at h
    · have hb : (a == c) = false := by simpa using e
      rw [List.idxOf_cons, hb] at h
      exact ne_of_lt_idx (Nat.lt_of_succ_lt_succ h) (Nat.lt_of_succ_lt_succ hl)
/-- the place of x in a list of lists of ints -/
theorem indexLL {A : Around} {E : Value → Shared → Prop} {s : Shared} {prog : Program} {h₀ : Heap} {L D : Addr} {news : List (Addr × Obj)} {vs : Array Value} {c : Nat} {cols : List (List Int)} {x : Value} {col : List Int} {nw : List (Addr × Obj)} {Q : Value → Shared → Prop}
    (N : News h₀ L s.heap news) (hm : (D, listOf vs c) ∈ news) (hs : ∀ q ∈ nw, q ∈ news) (hp : Paired (ColIn nw) vs.toList cols) (hx : ColIn nw x col) (hin : col ∈ cols) (hsz : cols.length < 1000) (hu : A.units + 8 < cLine) (h : Q (.int (cols.idxOf col : Nat) s.toks) { s with toks := s.toks + 1 }) :
    wpAny (model prog w) A (call (.builtin "list.index") [.ref D, x]) Q E s := by
  obtain ⟨as, ra⟩ := cols_reads N (Paired.mono (fun a b h => h.mono hs) hp)
  refine exE3 (hx.mono hs) ?_
  intro a us e zz8
  refine anE3 zz8 ?_
  clear zz8
  rintro rfl hma hi
  have hlen : vs.size = cols.length := by rw [← Array.length_toList, Paired.length hp]
  have hj : cols.idxOf col < cols.length := List.idxOf_lt_length_iff.mpr hin
  have hrd : ∀ m (hm' : m < vs.size), PyData.eqv (SeqAt.readOf s.heap vs[m]) (colD col) = decide (cols[m]'(by omega) = col) := by
    intro m hm'
    have e1 := SeqAt.readsAll_map _ _ _ (cols_lay cols) ra
    have e2 : (vs.toList.map (SeqAt.readOf s.heap))[m]? = (cols.map colD)[m]? := by rw [e1]
    rw [List.getElem?_map, List.getElem?_map, Array.getElem?_toList, Array.getElem?_eq_getElem hm', List.getElem?_eq_getElem (by omega)] at e2
    have e3 : SeqAt.readOf s.heap vs[m] = colD (cols[m]'(by omega)) := Option.some.inj e2
    rw [e3, il_eqv]
  refine call_meets PySem.F.slot_list_index ⟨_, (N _ hm).1, rfl⟩ PySem.F.entry_list_index (PySem.F.args_list_index_2 _ _)
    (SeqAt.list_indexAt D vs c none #[] (.ref a) (fun y => PyData.eqv (SeqAt.readOf s.heap y) (colD col)) (cols.idxOf col) (by omega) (by omega) ?_ ?_) ⟨(N _ hm).1, SeqAt.items_eqAt ra (reads_il (N _ hma).1 hi) (cols_lay _) (SeqAt.canLay_of_shaped (il_shaped _)) ?_, h⟩
  · rw [hrd _ (by omega)]
    simp
  · intro m hm' hlt
    rw [hrd _ hm']
    exact decide_eq_false fun e9 => by
      have := ne_of_lt_idx hlt
      exact this (by omega) e9
  · have h1 := il_depth col
    have h2 : min (PyData.depthAll (cols.map colD)) (colD col).depth ≤ 1 := Nat.le_trans (Nat.min_le_right _ _) h1
    exact Nat.lt_of_le_of_lt (Nat.add_le_add_left h2 _) (by omega)
theorem allLt_mem {d : Nat} : ∀ {l : List (Addr × Obj)}, AllLt d l → ∀ q ∈ l, @LT.lt Nat _ q.1 d
  | [], _, _, h => nomatch h
  | _ :: _, x, q, h => by
    rcases List.mem_cons.mp h with rfl | h
    · exact x.1
    · exact allLt_mem x.2 q h
/-- a call that may turn one table -/
theorem useB {A : Around} {E : Value → Shared → Prop} {s : Shared} {prog : Program} {h₀ : Heap} {L P : Addr} {m : Str → Option Value} {oP : Obj} {news : List (Addr × Obj)} {t : Sem Value} {Pr : Value → Heap → List (Addr × Obj) → Prop} {Q : Value → Shared → Prop}
    (F : Fr h₀ L s.heap m) (N : News h₀ L s.heap ((P, oP) :: news)) (hP : ∀ q ∈ news, @Ne Nat q.1 P) (c : wpAny (model prog w) A t (OutB (hideAll s.heap [P]) s fun v h => ∃ nw, Fresh (hideAll s.heap [P]) h nw ∧ Pr v h nw) NoE s)
    (h : ∀ v h' tk nw, Fr h₀ L h' m → News h₀ L h' (nw ++ news) → (∀ q ∈ nw, ∀ r ∈ news, @Ne Nat q.1 r.1) → Pr v h' nw → Q v { s with heap := h', toks := tk }) : wpAny (model prog w) A t Q E s := by
  refine wpAny_mono c (fun v s' ⟨h', tk, e, st, nw, fr, hPr⟩ => ?_) fun _ _ x => x.elim
  subst e
  have hp := N _ (.head _)
  have up : ∀ b o, b ≠ P → s.heap.get? b = some o → (hideAll s.heap [P]).get? b = some o := fun b o hb e => hideAll_get _ e fun q => hb (List.mem_singleton.mp q)
  obtain ⟨oL, es, ep, hL, r1, r2, r3⟩ := F.ns
  have hL' := up L oL (Ne.symm hp.2.1) hL
  have base : ∀ b o, h₀.get? b = some o → (hideAll s.heap [P]).get? b = some o := fun b o e => up b o (fun q => by rw [q, hp.2.2] at e; cases e) (F.keep b o e)
  refine h v h' tk nw ⟨⟨oL, es, ep, st _ _ hL', r1, r2, r3⟩, fun b o e => st _ _ (base b o e), F.above⟩ (fun q hq => ?_) (fun q hq r hr => fr.ne hq (up r.1 r.2 (hP r hr) (N r (.tail _ hr)).1)) hPr
  rcases List.mem_append.mp hq with hq | hq
  · refine ⟨(fr q hq).1, fr.ne hq hL', ?_⟩
    cases e : h₀.get? q.1 with
    | none => rfl
    | some o => have := base _ _ e; rw [(fr q hq).2] at this; cases this
  · exact ⟨st _ _ (up q.1 q.2 (hP q hq) (N q (.tail _ hq)).1), (N q (.tail _ hq)).2⟩
theorem firstsOf_mono {cols : List (List Int)} : ∀ (ks : List Int) (fs : List (List Int)) (c : List Int), c ∈ fs → c ∈ ks.foldl (fun fs k => if cols.getD k.toNat [] ∈ fs then fs else fs ++ [cols.getD k.toNat []]) fs
  | [], _, _, h => h
  | k :: r, fs, c, h => by
    rw [List.foldl_cons]
    refine firstsOf_mono r _ c ?_
    split
    · exact h
    · exact List.mem_append_left _ h
theorem firstsOf_has {cols : List (List Int)} : ∀ (ks : List Int) (fs : List (List Int)) (k : Int), k ∈ ks → cols.getD k.toNat [] ∈ ks.foldl (fun fs k => if cols.getD k.toNat [] ∈ fs then fs else fs ++ [cols.getD k.toNat []]) fs
  | a :: r, fs, k, h => by
    rw [List.foldl_cons]
    rcases List.mem_cons.mp h with rfl | h
    · refine firstsOf_mono r _ _ ?_
      split
      · assumption
      · exact List.mem_append_right _ (.head _)
    · exact firstsOf_has r _ k h
theorem orderOf_has {n : Nat} {i : Nat} (h : i < n) : (i : Int) ∈ orderOf n := by
  unfold orderOf
  refine List.mem_append_left _ (List.mem_map.mpr ⟨n - 1 - i, List.mem_range.mpr (by omega), by omega⟩)
theorem firstsOf_len {cols : List (List Int)} : ∀ (ks : List Int) (fs : List (List Int)), (ks.foldl (fun fs k => if cols.getD k.toNat [] ∈ fs then fs else fs ++ [cols.getD k.toNat []]) fs).length ≤ fs.length + ks.length
  | [], _ => Nat.le_refl _
  | k :: r, fs => by
    rw [List.foldl_cons]
    refine Nat.le_trans (firstsOf_len r _) ?_
    split
    · rw [List.length_cons]; omega
    · rw [List.length_cons, List.length_append, List.length_singleton]; omega
theorem LLAt.of {h₀ h : Heap} {L l : Addr} {news nw : List (Addr × Obj)} {vs : Array Value} {c : Nat} {cols : List (List Int)} (N : News h₀ L h news) (hm : (l, listOf vs c) ∈ news) (hs : ∀ q ∈ nw, q ∈ news) (hp : Paired (ColIn nw) vs.toList cols) : LLAt h l cols := by
  refine ⟨vs.toList, ⟨_, (N _ hm).1, rfl, c, by rw [Array.toArray_toList]⟩, Paired.length hp, fun i hi => ?_⟩
  obtain ⟨v, hv, a, us, e, rfl, hma, hia⟩ := Paired.get hp (List.getElem?_eq_getElem hi)
  exact ⟨a, us.toList, hv, ⟨_, (N _ (hs _ hma)).1, rfl, e, by rw [Array.toArray_toList]⟩, hia⟩
theorem MksAt.of {h₀ h : Heap} {L l : Addr} {news nw : List (Addr × Obj)} {vs : List Value} {o : Obj} {mks : List Mk} (N : News h₀ L h news) (hm : (l, o) ∈ news) (ho : o = LCg.lst vs) (hs : ∀ q ∈ nw, q ∈ news) (hp : Paired (MkIn w nw) vs mks) : MksAt w h l mks := by
  subst ho
  refine ⟨vs, ⟨_, (N _ hm).1, rfl, _, rfl⟩, Paired.length hp, fun i hi => ?_⟩
  obtain ⟨v, hv, x, rfl, hx⟩ := Paired.get hp (List.getElem?_eq_getElem hi)
  exact ⟨x, hv, hx h fun q hq => (N q (hs q hq)).1⟩
theorem hStep_bound {cols : List (List Int)} {i j : Nat} {hs : List Int} {B : Int} (hB : 0 ≤ B) (h : ∀ x ∈ hs, 0 ≤ x ∧ x ≤ B) : ∀ x ∈ hStep cols i hs j, 0 ≤ x ∧ x ≤ B + 1 := fun x hx => by
  have g : ∀ k, 0 ≤ hs.getD k 0 ∧ hs.getD k 0 ≤ B := fun k => by
    by_cases hk : k < hs.length
    · rw [getD_lt hk]; exact h _ (List.getElem_mem hk)
    · rw [List.getD, List.getElem?_eq_none (by omega)]; exact ⟨Int.le_refl _, hB⟩
  unfold hStep at hx
  split at hx
  · rcases List.mem_or_eq_of_mem_set hx with hx | rfl
    · have := h x hx; omega
    · have := g i; have := g j; omega
  · have := h x hx; omega
theorem hInner_bound {cols : List (List Int)} {i : Nat} : ∀ (n : Nat) {hs : List Int} {B : Int}, 0 ≤ B → (∀ x ∈ hs, 0 ≤ x ∧ x ≤ B) → ∀ x ∈ hInner cols i hs n, 0 ≤ x ∧ x ≤ B + n
  | 0, hs, B, hB, h => fun x hx => by have := h x hx; omega
  | n + 1, hs, B, hB, h => by
    rw [hInner_succ]
    intro x hx
    have := hStep_bound (B := B + n) (by omega) (hInner_bound n hB h) x hx
    omega
theorem hOuter_bound {cols : List (List Int)} : ∀ (order : List Int) {hs : List Int} {B : Int}, 0 ≤ B → (∀ x ∈ hs, 0 ≤ x ∧ x ≤ B) → ∀ x ∈ order.foldl (fun hs i => hInner cols i.toNat hs cols.length) hs, 0 ≤ x ∧ x ≤ B + cols.length * order.length
  | [], hs, B, hB, h => fun x hx => by have := h x hx; simp; omega
  | k :: r, hs, B, hB, h => by
    rw [List.foldl_cons]
    intro x hx
    have := hOuter_bound r (B := B + cols.length) (by omega) (hInner_bound cols.length hB h) x hx
    rw [List.length_cons, Int.natCast_add, Int.mul_add]
    omega
theorem sub9 {α : Type} {a b c d e f g i j : α} {l m r : List α} : ∀ q ∈ b :: c :: d :: e :: f :: g :: i :: j :: (l ++ m), q ∈ a :: b :: c :: d :: e :: f :: g :: i :: j :: (l ++ (m ++ r)) := fun q hq => by
  simp only [List.mem_cons, List.mem_append] at hq ⊢
  rcases hq with h | h | h | h | h | h | h | h | h | h <;> simp [h]
theorem sub9r {α : Type} {a b c d e f g i j : α} {l m r : List α} : ∀ q ∈ a :: r, q ∈ a :: b :: c :: d :: e :: f :: g :: i :: j :: (l ++ (m ++ r)) := fun q hq => by
  simp only [List.mem_cons, List.mem_append] at hq ⊢
  rcases hq with h | h <;> simp [h]
theorem T3.of {nw : List (Addr × Obj)} {t al a y z : Addr} {e e2 eh ey ez : Nat} {vh vy vz : Array Value} {q : List Int × List Int × List Int} (h1 : (t, tupOf [.ref al, .ref a] e) ∈ nw) (h2 : (al, listOf vh eh) ∈ nw) (h3 : IntsAre vh.toList q.1) (h4 : (a, tupOf [.ref y, .ref z] e2) ∈ nw) (h5 : (y, listOf vy ey) ∈ nw) (h6 : IntsAre vy.toList q.2.1) (h7 : (z, listOf vz ez) ∈ nw) (h8 : IntsAre vz.toList q.2.2) : T3 nw (.ref t) q :=
  ⟨t, al, a, y, z, e, e2, vh, vy, vz, eh, ey, ez, rfl, h1, h2, h3, h4, h5, h6, h7, h8⟩
noncomputable abbrev t3D (q : List Int × List Int × List Int) : PyData := .tuple [colD q.1, .tuple [colD q.2.1, colD q.2.2]]
theorem told_reads {h₀ h : Heap} {L : Addr} {news : List (Addr × Obj)} (N : News h₀ L h news) {vs : List Value} {qs : List (List Int × List Int × List Int)} (hp : Paired (T3 news) vs qs) : ∃ as, ReadsAll h vs (qs.map t3D) as := by
  induction hp with
  | nil => exact ⟨_, .nil⟩
  | cons h1 _ ih =>
    obtain ⟨as, ih⟩ := ih
    refine exE13 h1 ?_
    clear h1
    intro t al a y z e e2 vh vy vz eh ey ez zz8
    refine anE9 zz8 ?_
    clear zz8
    rintro rfl m1 m2 i1 m3 m4 i2 m5 i3
    refine ⟨_, .cons (Reads.tuple (N _ m1).1 rfl rfl (.cons (reads_il (N _ m2).1 i1) (.cons (Reads.tuple (N _ m3).1 rfl rfl (.cons (reads_il (N _ m4).1 i2) (.cons (reads_il (N _ m5).1 i3) .nil))) .nil))) ih⟩
theorem told_lay : ∀ qs : List (List Int × List Int × List Int), PyData.canLayAll0 (qs.map t3D) = true ∧ PyData.depthAll (qs.map t3D) ≤ 3
  | [] => ⟨rfl, Nat.zero_le _⟩
  | q :: r => by
    have ih := told_lay r
    rw [List.map_cons]
    constructor
    · simp [t3D, colD, PyData.canLayAll0, PyData.canLay0, canLay_ints, ih.1]
    · simp only [t3D, colD, PyData.depthAll, PyData.depth, depth_ints]
      have := ih.2
      omega
theorem told_shaped (qs : List (List Int × List Int × List Int)) : SeqAt.shaped (.list (qs.map t3D)) = true := by
  unfold SeqAt.shaped
  have h := told_lay qs
  rw [Bool.and_eq_true]
  refine ⟨by simpa [PyData.canLay0] using h.1, decide_eq_true ?_⟩
  simp only [PyData.depth]
  have := h.2
  omega
theorem told_eqv : ∀ qs : List (List Int × List Int × List Int), PyData.eqvAll (qs.map t3D) (qs.map t3D) = true
  | [] => rfl
  | q :: r => by
    rw [List.map_cons]
    simp only [PyData.eqvAll, told_eqv r, Bool.and_true]
    simp [t3D, colD, PyData.eqv, PyData.eqvAll, ked_eqvAll]
theorem told_eqv' (qs : List (List Int × List Int × List Int)) : PyData.eqv (.list (qs.map t3D)) (.list (qs.map t3D)) = true := by
  simp only [PyData.eqv]; exact told_eqv qs
theorem eqTold {A : Around} {E : Value → Shared → Prop} {s : Shared} {prog : Program} {h₀ : Heap} {L D1 D2 : Addr} {news nw1 nw2 : List (Addr × Obj)} {vs1 : Array Value} {c1 : Nat} {ys2 : List Value} {qs : List (List Int × List Int × List Int)} {Q : Value → Shared → Prop}
    (N : News h₀ L s.heap news) (m1 : (D1, listOf vs1 c1) ∈ news) (s1 : ∀ q ∈ nw1, q ∈ news) (p1 : Paired (T3 nw1) vs1.toList qs) (m2 : (D2, LCg.lst ys2) ∈ news) (s2 : ∀ q ∈ nw2, q ∈ news) (p2 : Paired (T3 nw2) ys2 qs) (hu : A.units + 64 < cLine) (h : Q (.bool true) s) :
    wpAny (model prog w) A (compareOp .Eq (.ref D1) (.ref D2)) Q E s := by
  obtain ⟨as, ra⟩ := told_reads N (Paired.mono (fun a b h => h.mono s1) p1)
  obtain ⟨bs, rb⟩ := told_reads N (Paired.mono (fun a b h => h.mono s2) p2)
  refine eq_dataH (Reads.list (N _ m1).1 rfl rfl ra) (Reads.list (N _ m2).1 rfl rfl rb) (told_shaped qs) (told_shaped qs) hu ?_
  rw [told_eqv']; exact h
section
/-- what of a row counts -/
noncomputable abbrev Core := Int × Int × List Int × Int × Bool × List Int
noncomputable def coreC (cs : List Nat) : Core := let st := wsGo cs ([], 0, 0, 0); (st.2.2.1, st.2.2.2, st.1, st.2.1, decide ((st.1.length : Int) ≤ 1), colsOf cs)
noncomputable def toMk (raw : Str) (c : Core) : Mk := ⟨raw, c.1, c.2.1, c.2.2.1, c.2.2.2.1, c.2.2.2.2.1⟩
/-- the rows that come -/
noncomputable def rowsLit : List (List Nat) := [[32, 32], [9, 32, 9], [32, 32, 32, 9, 32, 32], [32, 9, 9], [], [32], [9], [32, 9], [32, 32, 9], [9, 9], [32, 32, 9, 9], [32, 32, 32], [9, 32], [32, 9, 32], [32, 32, 9, 32], [9, 9, 32], [32, 9, 9, 32], [32, 32, 9, 9, 32], [32, 32, 32, 32], [9, 32, 32], [32, 9, 32, 32], [32, 32, 9, 32, 32], [9, 9, 32, 32], [32, 9, 9, 32, 32], [32, 32, 9, 9, 32, 32], [9, 9, 9], [32, 9, 9, 9], [32, 32, 9, 9, 9], [32, 32, 32, 9], [32, 9, 32, 9], [32, 32, 9, 32, 9], [9, 9, 32, 9], [32, 9, 9, 32, 9], [32, 32, 9, 9, 32, 9], [32, 32, 32, 32, 9], [9, 32, 32, 9], [32, 9, 32, 32, 9], [32, 32, 9, 32, 32, 9], [9, 9, 32, 32, 9], [32, 9, 9, 32, 32, 9], [32, 32, 9, 9, 32, 32, 9]]
/-- what counts of them -/
noncomputable def coreLit : List Core := [(2, (0, ([], (2, (true, [2, 2, 2, 2, 2]))))), (3, (2, ([1, 1], (0, (false, [3, 4, 6, 8, 10]))))), (6, (1, ([0, 0, 0, 1], (2, (false, [6, 6, 8, 6, 7]))))), (0, (0, ([], (0, (true, [0, 0, 0, 0, 0]))))), (1, (0, ([], (1, (true, [1, 1, 1, 1, 1]))))), (1, (1, ([1], (0, (true, [1, 2, 3, 4, 5]))))), (2, (1, ([0, 1], (0, (false, [2, 2, 3, 4, 5]))))), (3, (1, ([0, 0, 1], (0, (false, [3, 4, 3, 4, 5]))))), (2, (2, ([2], (0, (true, [2, 4, 6, 8, 10]))))), (4, (2, ([1, 0, 1], (0, (false, [4, 6, 6, 8, 10]))))), (3, (0, ([], (3, (true, [3, 3, 3, 3, 3]))))), (2, (1, ([1], (1, (true, [2, 3, 4, 5, 6]))))), (3, (1, ([0, 1], (1, (false, [3, 3, 4, 5, 6]))))), (4, (1, ([0, 0, 1], (1, (false, [4, 5, 4, 5, 6]))))), (3, (2, ([2], (1, (true, [3, 5, 7, 9, 11]))))), (4, (2, ([1, 1], (1, (false, [4, 5, 7, 9, 11]))))), (5, (2, ([1, 0, 1], (1, (false, [5, 7, 7, 9, 11]))))), (4, (0, ([], (4, (true, [4, 4, 4, 4, 4]))))), (3, (1, ([1], (2, (true, [3, 4, 5, 6, 7]))))), (4, (1, ([0, 1], (2, (false, [4, 4, 5, 6, 7]))))), (5, (1, ([0, 0, 1], (2, (false, [5, 6, 5, 6, 7]))))), (4, (2, ([2], (2, (true, [4, 6, 8, 10, 12]))))), (5, (2, ([1, 1], (2, (false, [5, 6, 8, 10, 12]))))), (6, (2, ([1, 0, 1], (2, (false, [6, 8, 8, 10, 12]))))), (3, (3, ([3], (0, (true, [3, 6, 9, 12, 15]))))), (4, (3, ([2, 1], (0, (false, [4, 6, 9, 12, 15]))))), (5, (3, ([2, 0, 1], (0, (false, [5, 8, 9, 12, 15]))))), (4, (1, ([0, 0, 0, 1], (0, (false, [4, 4, 6, 4, 5]))))), (4, (2, ([0, 2], (0, (false, [4, 4, 6, 8, 10]))))), (5, (2, ([0, 1, 1], (0, (false, [5, 6, 6, 8, 10]))))), (5, (3, ([1, 2], (0, (false, [5, 6, 9, 12, 15]))))), (6, (3, ([1, 1, 1], (0, (false, [6, 8, 9, 12, 15]))))), (5, (1, ([0, 0, 0, 0, 1], (0, (false, [5, 6, 6, 8, 5]))))), (6, (2, ([0, 0, 2], (0, (false, [6, 8, 6, 8, 10]))))), (7, (3, ([1, 0, 2], (0, (false, [7, 10, 9, 12, 15])))))]
noncomputable def isIn (c : Core) (l : List Core) : Bool := l.any fun d => decide (c = d)
theorem rows4_lit : (rows4.all fun r => rowsLit.contains r.cps.toList) = true := by decide +kernel
theorem rowY_lit : ((List.range 54).all fun (y : Nat) => rowsLit.contains (rowY (y : Int)).cps.toList) = true := by decide +kernel
theorem rows_ws : (rowsLit.all fun r => r.all fun c => c == 32 || c == 9) = true := by decide +kernel
theorem rows_core : (rowsLit.all fun r => coreLit.contains (coreC r)) = true := by decide +kernel
theorem core_small : (coreLit.all fun c => decide (c.2.2.1.length < 1000) && decide (c.2.2.2.1 < 1000)) = true := by decide +kernel
noncomputable def pairOk (c d : Core) : Bool := (lessP (toMk ⟨#[]⟩ c) (toMk ⟨#[]⟩ d) == belowP c.2.2.2.2.2 d.2.2.2.2.2) && (eqP (toMk ⟨#[]⟩ c) (toMk ⟨#[]⟩ d) == decide (c.2.2.2.2.2 = d.2.2.2.2.2))
theorem core_pairs : (coreLit.all fun c => coreLit.all fun d => pairOk c d) = true := by decide +kernel

theorem row_in {ns : List Int} {r : Str} (h : r ∈ rowsOf ns) : r.cps.toList ∈ rowsLit := by
  rcases List.mem_append.mp h with h | h
  · exact List.contains_iff_mem.mp (List.all_eq_true.mp rows4_lit r h)
  · obtain ⟨x, _, rfl⟩ := List.mem_map.mp h
    obtain ⟨y, hy, e⟩ := rowOf_Y x
    rw [e]
    exact List.contains_iff_mem.mp (List.all_eq_true.mp rowY_lit y (List.mem_range.mpr hy))
theorem wsGo_app {r : List Nat} : ∀ {cs : List Nat} {st : List Int × Int × Int × Int}, (∀ c ∈ cs, c = 32 ∨ c = 9) → wsGo (cs ++ 120 :: r) st = wsGo cs st
  | [], st, _ => by
    show (if (120 : Nat) = 32 ∨ (120 : Nat) = 9 then _ else _) = _
    rw [if_neg (by decide)]; rfl
  | c :: cs, st, h => by
    show (if c = 32 ∨ c = 9 then wsGo (cs ++ 120 :: r) (wsStep st c) else st) = (if c = 32 ∨ c = 9 then wsGo cs (wsStep st c) else st)
    rw [wsGo_app fun x hx => h x (.tail _ hx)]
theorem cps_app (a b : Str) : (a ++ b).cps.toList = a.cps.toList ++ b.cps.toList := by
  show (a.cps ++ b.cps).toList = _
  simp
theorem mk_core {ns : List Int} {r : Str} (h : r ∈ rowsOf ns) (i : Nat) : mkOf (r ++ sufOf i) = toMk (r ++ sufOf i) (coreC r.cps.toList) := by
  have hr := List.all_eq_true.mp rows_ws _ (row_in h)
  have hw : ∀ c ∈ r.cps.toList, c = 32 ∨ c = 9 := fun c hc => by
    have := List.all_eq_true.mp hr c hc
    simpa using this
  have e : wsGo (r ++ sufOf i).cps.toList ([], 0, 0, 0) = wsGo r.cps.toList ([], 0, 0, 0) := by
    rw [cps_app]
    unfold sufOf
    split
    · rw [show (Str.ofString "").cps.toList = [] by decide +kernel, List.append_nil]
    · rw [show (Str.ofString "x\t").cps.toList = 120 :: [9] by decide +kernel]
      exact wsGo_app hw
  unfold mkOf
  rw [e]
  rfl
theorem core_in {ns : List Int} {r : Str} (h : r ∈ rowsOf ns) : coreC r.cps.toList ∈ coreLit := List.contains_iff_mem.mp (List.all_eq_true.mp rows_core _ (row_in h))
theorem mark_at {rws : List Str} {i : Nat} {d : Mk} (h : i < rws.length) : (marksOf rws).getD i d = mkOf (rws[i] ++ sufOf i) := by
  unfold marksOf
  simp [List.getD, h]
theorem colsR_at {rws : List Str} {i : Nat} (h : i < rws.length) : (rws.map fun r => colsOf r.cps.toList).getD i [] = colsOf rws[i].cps.toList := by simp [List.getD, h]
theorem pair_ok {ns : List Int} {i j : Nat} {d e : Mk} (hi : i < (rowsOf ns).length) (hj : j < (rowsOf ns).length) :
    lessP ((marksOf (rowsOf ns)).getD i d) ((marksOf (rowsOf ns)).getD j e) = belowP (((rowsOf ns).map fun r => colsOf r.cps.toList).getD i []) (((rowsOf ns).map fun r => colsOf r.cps.toList).getD j []) ∧
    eqP ((marksOf (rowsOf ns)).getD i d) ((marksOf (rowsOf ns)).getD j e) = decide (((rowsOf ns).map fun r => colsOf r.cps.toList).getD i [] = ((rowsOf ns).map fun r => colsOf r.cps.toList).getD j []) := by
  rw [mark_at hi, mark_at hj, colsR_at hi, colsR_at hj, mk_core (List.getElem_mem hi), mk_core (List.getElem_mem hj)]
  have h := List.all_eq_true.mp (List.all_eq_true.mp core_pairs _ (core_in (List.getElem_mem hi))) _ (core_in (List.getElem_mem hj))
  unfold pairOk at h
  rw [Bool.and_eq_true, beq_iff_eq, beq_iff_eq] at h
  exact h
theorem marks_ok (ns : List Int) : ∀ k ∈ marksOf (rowsOf ns), k.cnt.length < 1000 ∧ k.b < 1000 := fun k hk => by
  obtain ⟨i, hi, e⟩ := List.getElem_of_mem hk
  have hl : i < (rowsOf ns).length := by unfold marksOf at hi; simpa using hi
  have e2 := mark_at (d := k) hl
  rw [getD_lt hi, e, mk_core (List.getElem_mem hl)] at e2
  have h := List.all_eq_true.mp core_small _ (core_in (List.getElem_mem hl))
  rw [Bool.and_eq_true, decide_eq_true_iff, decide_eq_true_iff] at h
  rw [e2]
  exact h

end
section
noncomputable abbrev colsR (rws : List Str) : List (List Int) := rws.map fun r => colsOf r.cps.toList
theorem marks_len (rws : List Str) : (marksOf rws).length = rws.length := by unfold marksOf; simp
theorem pig : ∀ (m : Nat) (l : List Int), (∀ h : Nat, h < m → (h : Int) ∈ l) → m ≤ l.length
  | 0, _, _ => Nat.zero_le _
  | m + 1, l, h => by
    have hm := h m (Nat.lt_succ_self _)
    have h1 := pig m (l.erase (m : Int)) fun i hi => (List.mem_erase_of_ne (by omega)).mpr (h i (by omega))
    rw [List.length_erase_of_mem hm] at h1
    have := List.length_pos_of_mem hm
    omega
section
variable {ord : List Int} {R : Int → Int} {P : List Int → Int → Bool} {M : Int}
/-- what stands at a height or above -/
noncomputable abbrev aboveOf (ord : List Int) (R : Int → Int) (h : Int) : List Int := ord.filter fun k => decide (h ≤ R k)
theorem above_empty (hx : ∀ k ∈ ord, R k ≤ M) : aboveOf ord R (M + 1) = [] := by
  refine List.filter_eq_nil_iff.mpr fun k hk => ?_
  have := hx k hk
  simp; omega
theorem above_some {h : Int} (hne : ∃ k ∈ ord, R k = M) (hh : h ≤ M) : aboveOf ord R h ≠ [] := fun e => by
  obtain ⟨k, hk, hr⟩ := hne
  have := List.filter_eq_nil_iff.mp e k hk
  simp at this; omega
theorem above_yes {h : Int} (hP : ∀ k ∈ ord, h ≤ R k → P (aboveOf ord R h) k = decide (h < R k)) : (aboveOf ord R h).filter (P (aboveOf ord R h)) = ord.filter fun k => decide (h < R k) := by
  rw [List.filter_filter]
  refine List.filter_congr fun k hk => ?_
  by_cases q : h ≤ R k
  · rw [hP k hk q]; simp [q]
  · simp [q]; omega
theorem above_no {h : Int} (hP : ∀ k ∈ ord, h ≤ R k → P (aboveOf ord R h) k = decide (h < R k)) : (aboveOf ord R h).filter (fun k => !P (aboveOf ord R h) k) = ord.filter fun k => decide (R k = h) := by
  rw [List.filter_filter]
  refine List.filter_congr fun k hk => ?_
  by_cases q : h ≤ R k
  · rw [hP k hk q]
    by_cases q2 : R k = h
    · simp [q2]
    · simp [q2, q]; omega
  · simp [q]; omega
theorem above_succ {h : Int} : aboveOf ord R (h + 1) = ord.filter fun k => decide (h < R k) := List.filter_congr fun k _ => by
  by_cases q : h < R k
  · simp [q]; omega
  · simp [q]; omega
theorem lay_go (hP : ∀ h : Int, 0 ≤ h → ∀ k ∈ ord, h ≤ R k → P (aboveOf ord R h) k = decide (h < R k)) (hne : ∃ k ∈ ord, R k = M) (hx : ∀ k ∈ ord, R k ≤ M) :
    ∀ (d N : Nat) (h : Int), 0 ≤ h → h + d = M + 1 → d ≤ N → layersGo P N (aboveOf ord R h) = (List.range d).map fun (i : Nat) => (aboveOf ord R (h + i), ord.filter (fun k => decide (h + i < R k)), ord.filter (fun k => decide (R k = h + i)))
  | 0, N, h, _, e, _ => by
    have e1 : h = M + 1 := by omega
    rw [e1, above_empty hx, layersGo_nil]; rfl
  | d + 1, 0, h, _, _, hN => absurd hN (by omega)
  | d + 1, N + 1, h, h0, e, hN => by
    show (if aboveOf ord R h = [] then _ else _) = _
    rw [if_neg (above_some hne (by omega)), above_yes (hP h h0), above_no (hP h h0), ← above_succ, lay_go hP hne hx d N (h + 1) (by omega) (by omega) (by omega), List.range_succ_eq_map, List.map_cons, List.map_map]
    refine List.cons_eq_cons.mpr ⟨?_, List.map_congr_left fun i _ => ?_⟩
    · simp [above_succ]
    · show _ = (aboveOf ord R (h + ((i + 1 : Nat) : Int)), ord.filter (fun k => decide (h + ((i + 1 : Nat) : Int) < R k)), ord.filter (fun k => decide (R k = h + ((i + 1 : Nat) : Int))))
      rw [show h + ((i + 1 : Nat) : Int) = h + 1 + (i : Int) by omega]
theorem cls_go (hP : ∀ h : Int, 0 ≤ h → h ≤ M → ∀ k ∈ ord, h ≤ R k → (!P (aboveOf ord R h) k) = decide (h < R k)) (hne : ∃ k ∈ ord, R k = M) (hx : ∀ k ∈ ord, R k ≤ M) :
    ∀ (d N : Nat) (h : Int), 0 ≤ h → h + d = M + 1 → d ≤ N → classesGo P N (aboveOf ord R h) = (List.range d).map fun (i : Nat) => (aboveOf ord R (h + i), ord.filter (fun k => decide (R k = h + i)), ord.filter (fun k => decide (h + i < R k)))
  | 0, N, h, _, e, _ => by
    have e1 : h = M + 1 := by omega
    rw [e1, above_empty hx, classesGo_nil]; rfl
  | d + 1, 0, h, _, _, hN => absurd hN (by omega)
  | d + 1, N + 1, h, h0, e, hN => by
    have y := above_yes (P := fun l k => !P l k) (hP h h0 (by omega))
    have n := above_no (P := fun l k => !P l k) (hP h h0 (by omega))
    simp only [Bool.not_not] at n
    show (if aboveOf ord R h = [] then _ else _) = _
    rw [if_neg (above_some hne (by omega)), y, n, ← above_succ, cls_go hP hne hx d N (h + 1) (by omega) (by omega) (by omega), List.range_succ_eq_map, List.map_cons, List.map_map]
    refine List.cons_eq_cons.mpr ⟨?_, List.map_congr_left fun i _ => ?_⟩
    · simp [above_succ]
    · show _ = (aboveOf ord R (h + ((i + 1 : Nat) : Int)), ord.filter (fun k => decide (R k = h + ((i + 1 : Nat) : Int))), ord.filter (fun k => decide (h + ((i + 1 : Nat) : Int) < R k)))
      rw [show h + ((i + 1 : Nat) : Int) = h + 1 + (i : Int) by omega]
end

/-! heights -/
section
variable {cols : List (List Int)}
noncomputable abbrev bel (cols : List (List Int)) (j k : Nat) : Prop := belowP (cols.getD j []) (cols.getD k []) = true
noncomputable abbrev c0 (cols : List (List Int)) (k : Nat) : Int := (cols.getD k []).getD 0 0
theorem bel_lt {j k : Nat} (h : bel cols j k) : c0 cols j < c0 cols k := of_decide_eq_true (List.all_eq_true.mp h 0 (by decide))
theorem bel_ne {j k : Nat} (h : bel cols j k) : j ≠ k := fun e => by
  have := bel_lt h
  rw [e] at this; omega
theorem set_getD {hs : List Int} {i x : Nat} {v : Int} (hi : i < hs.length) : (hs.set i v).getD x 0 = if x = i then v else hs.getD x 0 := by
  by_cases e : x = i
  · subst e
    simp [List.getD, hi]
  · rw [if_neg e]
    simp [List.getD, Ne.symm e]
theorem inner_spec {i : Nat} {hs : List Int} (hi : i < hs.length) : ∀ m : Nat,
    (∀ x, x ≠ i → (hInner cols i hs m).getD x 0 = hs.getD x 0) ∧ (∀ j, j < m → bel cols j i → hs.getD j 0 + 1 ≤ (hInner cols i hs m).getD i 0) ∧
    ((hInner cols i hs m).getD i 0 = hs.getD i 0 ∨ ∃ j, j < m ∧ bel cols j i ∧ (hInner cols i hs m).getD i 0 = hs.getD j 0 + 1)
  | 0 => ⟨fun _ _ => rfl, fun j hj => absurd hj (by omega), .inl rfl⟩
  | m + 1 => by
    obtain ⟨h1, h2, h3⟩ := inner_spec hi m
    have hl : i < (hInner cols i hs m).length := by rw [hInner_len]; exact hi
    rw [hInner_succ]
    unfold hStep
    by_cases b : bel cols m i
    · rw [if_pos b]
      have hm := h1 m (bel_ne b)
      refine ⟨fun x hx => by rw [set_getD hl, if_neg hx]; exact h1 x hx, fun j hj bj => ?_, ?_⟩
      · rw [set_getD hl, if_pos rfl, hm]
        by_cases e : j = m
        · rw [e]; omega
        · have := h2 j (by omega) bj; omega
      · rw [set_getD hl, if_pos rfl, hm]
        by_cases q : hs.getD m 0 + 1 ≤ (hInner cols i hs m).getD i 0
        · rw [show max ((hInner cols i hs m).getD i 0) (hs.getD m 0 + 1) = (hInner cols i hs m).getD i 0 by omega]
          rcases h3 with h3 | ⟨j, hj, bj, e⟩
          · exact .inl h3
          · exact .inr ⟨j, by omega, bj, e⟩
        · exact .inr ⟨m, by omega, b, by omega⟩
    · rw [if_neg b]
      refine ⟨h1, fun j hj bj => ?_, ?_⟩
      · by_cases e : j = m
        · rw [e] at bj; exact absurd bj b
        · exact h2 j (by omega) bj
      · rcases h3 with h3 | ⟨j, hj, bj, e⟩
        · exact .inl h3
        · exact .inr ⟨j, by omega, bj, e⟩
theorem outer_spec : ∀ (suf pre : List Nat) (hs : List Int), hs.length = cols.length → (∀ x ∈ suf, x < cols.length) → (pre ++ suf).Pairwise (fun x y => c0 cols x ≤ c0 cols y) →
    (∀ x, hs.getD x 0 = 0 ∨ (x ∈ pre ∧ ∃ j, j < cols.length ∧ bel cols j x ∧ hs.getD x 0 = hs.getD j 0 + 1)) → (∀ x ∈ pre, ∀ j, j < cols.length → bel cols j x → hs.getD j 0 + 1 ≤ hs.getD x 0) →
    ∃ hs', suf.foldl (fun hs i => hInner cols i hs cols.length) hs = hs' ∧ (∀ x, hs'.getD x 0 = 0 ∨ ∃ j, j < cols.length ∧ bel cols j x ∧ hs'.getD x 0 = hs'.getD j 0 + 1) ∧ (∀ x ∈ pre ++ suf, ∀ j, j < cols.length → bel cols j x → hs'.getD j 0 + 1 ≤ hs'.getD x 0)
  | [], pre, hs, _, _, _, hB, hA => ⟨hs, rfl, fun x => (hB x).imp id fun h => h.2, by rw [List.append_nil]; exact hA⟩
  | i :: r, pre, hs, hl, hi, hp, hB, hA => by
    have hin := hi i (.head _)
    obtain ⟨h1, h2, h3⟩ := inner_spec (cols := cols) (hs := hs) (i := i) (by omega) cols.length
    have hord : ∀ x ∈ pre, c0 cols x ≤ c0 cols i := fun x hx => (List.pairwise_append.mp hp).2.2 x hx i (.head _)
    have hnb : ∀ x ∈ pre, ∀ j, bel cols j x → j ≠ i := fun x hx j b e => by
      have a1 := hord x hx
      have a2 := bel_lt b
      rw [e] at a2; omega
    have go := outer_spec r (pre ++ [i]) (hInner cols i hs cols.length) (by rw [hInner_len, hl]) (fun x hx => hi x (.tail _ hx)) (by rw [List.append_assoc]; exact hp)
    rw [List.append_assoc] at go
    refine go (fun x => ?_) (fun x hx j hj b => ?_)
    · by_cases ex : x = i
      · subst ex
        rcases h3 with h3 | ⟨j, hj, bj, e⟩
        · rcases hB x with h0 | ⟨hx, j, hj, bj, e⟩
          · exact .inl (by rw [h3, h0])
          · exact .inr ⟨List.mem_append_right _ (.head _), j, hj, bj, by rw [h3, e, h1 j (bel_ne bj)]⟩
        · exact .inr ⟨List.mem_append_right _ (.head _), j, hj, bj, by rw [e, h1 j (bel_ne bj)]⟩
      · rw [h1 x ex]
        rcases hB x with h0 | ⟨hx, j, hj, bj, e⟩
        · exact .inl h0
        · exact .inr ⟨List.mem_append_left _ hx, j, hj, bj, by rw [e, h1 j (hnb x hx j bj)]⟩
    · by_cases ex : x = i
      · subst ex
        rw [h1 j (bel_ne b)]
        exact h2 j hj b
      · have hx' : x ∈ pre := by
          rcases List.mem_append.mp hx with h | h
          · exact h
          · exact absurd (List.mem_singleton.mp h) ex
        rw [h1 x ex, h1 j (hnb x hx' j b)]
        exact hA x hx' j hj b
end
theorem rows_four (ns : List Int) : 4 ≤ (rowsOf ns).length := by
  unfold rowsOf rows4; rw [List.length_append]; simp only [List.length_cons, List.length_nil]; omega
theorem layP_at {ns : List Int} {ord : List Int} (ho : ∀ k ∈ ord, 0 ≤ k ∧ k < (rowsOf ns).length) {l : List Int} (hl : ∀ k ∈ l, k ∈ ord) {i : Int} (hi : i ∈ ord) :
    layP (marksOf (rowsOf ns)) l i = l.any fun j => belowP ((colsR (rowsOf ns)).getD j.toNat []) ((colsR (rowsOf ns)).getD i.toNat []) := by
  unfold layP
  have h : ∀ j ∈ l, lessP ((marksOf (rowsOf ns)).getD j.toNat ⟨⟨#[]⟩, 0, 0, [], 0, true⟩) ((marksOf (rowsOf ns)).getD i.toNat ⟨⟨#[]⟩, 0, 0, [], 0, true⟩) = belowP ((colsR (rowsOf ns)).getD j.toNat []) ((colsR (rowsOf ns)).getD i.toNat []) := fun j hj => by
    have a := ho j (hl j hj)
    have b := ho i hi
    exact (pair_ok (by omega) (by omega)).1
  rw [Bool.eq_iff_iff, List.any_eq_true, List.any_eq_true]
  exact ⟨fun ⟨j, hj, e⟩ => ⟨j, hj, by rw [← h j hj]; exact e⟩, fun ⟨j, hj, e⟩ => ⟨j, hj, by rw [h j hj]; exact e⟩⟩
theorem plain_layers (ns od : List Int) (M : Int) (hp : od.Perm (rangeKs 0 (colsR (rowsOf ns)).length)) (hs : od.Pairwise (fun x y => ((colsR (rowsOf ns)).getD x.toNat []).getD 0 0 ≤ ((colsR (rowsOf ns)).getD y.toNat []).getD 0 0))
    (hM : M ∈ hOuter (colsR (rowsOf ns)) od) (hx : ∀ a ∈ hOuter (colsR (rowsOf ns)) od, a ≤ M) :
    layersGo (layP (marksOf (rowsOf ns))) (marksOf (rowsOf ns)).length (orderOf (rowsOf ns).length) = (partsTo (orderOf (rowsOf ns).length) (hOuter (colsR (rowsOf ns)) od) (M + 1).toNat).map (fun q => (q.1, q.2.2, q.2.1)) := by
  have h4 := rows_four ns
  have hcl : (colsR (rowsOf ns)).length = (rowsOf ns).length := by simp
  have ho := orderOf_mem h4
  have hlen := hOuter_len (colsR (rowsOf ns)) od
  have hod : ∀ x ∈ od, 0 ≤ x ∧ x < (colsR (rowsOf ns)).length := fun x h => by have := mem_rangeKs (hp.mem_iff.mp h); omega
  have hnn : ∀ x ∈ hOuter (colsR (rowsOf ns)) od, 0 ≤ x := fun x h => (hOuter_bound (cols := colsR (rowsOf ns)) od (hs := List.replicate (colsR (rowsOf ns)).length 0) (B := 0) (Int.le_refl _) (fun x hx => by rw [List.eq_of_mem_replicate hx]; omega) x h).1
  have hall : ∀ x, x < (rowsOf ns).length → x ∈ od.map Int.toNat := fun x h => by
    refine List.mem_map.mpr ⟨(x : Int), hp.mem_iff.mpr ?_, by omega⟩
    unfold rangeKs
    exact List.mem_map.mpr ⟨x, List.mem_range.mpr (by omega), by omega⟩
  obtain ⟨rs, er, hB, hA⟩ := outer_spec (cols := colsR (rowsOf ns)) (od.map Int.toNat) [] (List.replicate (colsR (rowsOf ns)).length 0) List.length_replicate (fun x hx => by
      obtain ⟨y, hy, rfl⟩ := List.mem_map.mp hx
      have := hod y hy
      omega) (by rw [List.nil_append]; exact List.pairwise_map.mpr hs) (fun x => .inl (by
      by_cases q : x < (colsR (rowsOf ns)).length
      · rw [getD_lt (by simpa using q)]; simp
      · simp [List.getD, List.getElem?_replicate]
        split <;> rfl)) (fun x hx => absurd hx List.not_mem_nil)
  rw [List.foldl_map] at er
  replace er : hOuter (colsR (rowsOf ns)) od = rs := er
  rw [er] at hM hx hnn hlen ⊢
  rw [List.nil_append] at hA
  rw [hcl] at hB hA hlen
  have hin : ∀ k ∈ orderOf (rowsOf ns).length, rs.getD k.toNat 0 ∈ rs := fun k hk => by
    have := ho k hk
    rw [getD_lt (show k.toNat < rs.length by omega)]
    exact List.getElem_mem _
  have hin' : ∀ x, x < (rowsOf ns).length → rs.getD x 0 ∈ rs := fun x hk => by
    rw [getD_lt (show x < rs.length by omega)]
    exact List.getElem_mem _
  have hM0 := hnn M hM
  obtain ⟨i, hi, eM⟩ := List.getElem_of_mem hM
  have hiM : rs.getD i 0 = M := by rw [getD_lt hi]; exact eM
  have hne : ∃ k ∈ orderOf (rowsOf ns).length, rs.getD k.toNat 0 = M := ⟨(i : Int), orderOf_has (by omega), by rw [Int.toNat_natCast]; exact hiM⟩
  have down : ∀ (d : Nat) (h : Nat), (h : Int) + d = M → ∃ x, x < (rowsOf ns).length ∧ rs.getD x 0 = (h : Int) := by
    intro d
    induction d with
    | zero => exact fun h e => ⟨i, by omega, by rw [hiM]; omega⟩
    | succ d ih =>
      intro h e
      obtain ⟨x, hx1, hx2⟩ := ih (h + 1) (by omega)
      rcases hB x with h0 | ⟨j, hj, bj, ej⟩
      · omega
      · exact ⟨j, hj, by omega⟩
  have hbig : (M + 1).toNat ≤ (rowsOf ns).length := by
    rw [← hlen]
    refine pig _ _ fun h hh => ?_
    obtain ⟨x, hx1, hx2⟩ := down (M - h).toNat h (by omega)
    rw [← hx2]
    exact hin' x hx1
  have go := lay_go (ord := orderOf (rowsOf ns).length) (R := fun k => rs.getD k.toNat 0) (P := layP (marksOf (rowsOf ns))) (M := M) (fun h h0 k hk hle => ?_) hne (fun k hk => hx _ (hin k hk)) (M + 1).toNat (marksOf (rowsOf ns)).length 0 (Int.le_refl _) (by omega) (by rw [marks_len]; exact hbig)
  · have e0 : aboveOf (orderOf (rowsOf ns).length) (fun k => rs.getD k.toNat 0) 0 = orderOf (rowsOf ns).length := List.filter_eq_self.mpr fun k hk => by
      have := hnn _ (hin k hk)
      simpa using this
    rw [e0] at go
    rw [go]
    unfold partsTo
    rw [List.map_map]
    rfl
  · rw [layP_at ho (fun j hj => (List.mem_filter.mp hj).1) hk, Bool.eq_iff_iff, List.any_eq_true, decide_eq_true_iff]
    have hk' := ho k hk
    constructor
    · rintro ⟨j, hj, b⟩
      have hj1 := List.mem_filter.mp hj
      have hj2 : h ≤ rs.getD j.toNat 0 := of_decide_eq_true hj1.2
      have hj3 := ho j hj1.1
      have := hA k.toNat (hall _ (by omega)) j.toNat (by omega) b
      omega
    · intro hlt
      rcases hB k.toNat with h0' | ⟨j, hj, bj, ej⟩
      · omega
      · refine ⟨(j : Int), List.mem_filter.mpr ⟨orderOf_has hj, decide_eq_true ?_⟩, by rw [Int.toNat_natCast]; exact bj⟩
        show h ≤ rs.getD (j : Int).toNat 0
        rw [Int.toNat_natCast]; omega
/-! classes -/
section
variable {cols : List (List Int)}
noncomputable abbrev fstep (cols : List (List Int)) (fs : List (List Int)) (k : Int) : List (List Int) := if cols.getD k.toNat [] ∈ fs then fs else fs ++ [cols.getD k.toNat []]
theorem fold_pre : ∀ (ks : List Int) (fs : List (List Int)), ∃ t, ks.foldl (fstep cols) fs = fs ++ t
  | [], fs => ⟨[], by simp⟩
  | k :: r, fs => by
    obtain ⟨t, e⟩ := fold_pre r (fstep cols fs k)
    rw [List.foldl_cons, e]
    by_cases q : cols.getD k.toNat [] ∈ fs
    · exact ⟨t, by rw [fstep, if_pos q]⟩
    · exact ⟨cols.getD k.toNat [] :: t, by rw [fstep, if_neg q, List.append_assoc]; rfl⟩
theorem fold_has : ∀ (ks : List Int) (fs : List (List Int)) (k : Int), k ∈ ks → cols.getD k.toNat [] ∈ ks.foldl (fstep cols) fs
  | [], _, _, h => absurd h List.not_mem_nil
  | x :: r, fs, k, h => by
    rw [List.foldl_cons]
    rcases List.mem_cons.mp h with rfl | h
    · obtain ⟨t, e⟩ := fold_pre (cols := cols) r (fstep cols fs k)
      rw [e]
      refine List.mem_append_left _ ?_
      by_cases q : cols.getD k.toNat [] ∈ fs
      · rw [fstep, if_pos q]; exact q
      · rw [fstep, if_neg q]; exact List.mem_append_right _ (.head _)
    · exact fold_has r _ k h
theorem fold_from : ∀ (ks : List Int) (fs : List (List Int)) (c : List Int), c ∈ ks.foldl (fstep cols) fs → c ∈ fs ∨ ∃ k ∈ ks, cols.getD k.toNat [] = c
  | [], _, _, h => .inl h
  | x :: r, fs, c, h => by
    rcases fold_from r _ c h with h | ⟨k, hk, e⟩
    · by_cases q : cols.getD x.toNat [] ∈ fs
      · rw [fstep, if_pos q] at h; exact .inl h
      · rw [fstep, if_neg q] at h
        rcases List.mem_append.mp h with h | h
        · exact .inl h
        · exact .inr ⟨x, .head _, (List.mem_singleton.mp h).symm⟩
    · exact .inr ⟨k, .tail _ hk, e⟩
theorem fold_last {X : List Int} : ∀ (ks : List Int) (fs : List (List Int)), (∀ k ∈ ks, k ∈ X) → (fs = [] ∨ ∃ x ∈ X, fs.idxOf (cols.getD x.toNat []) + 1 = fs.length) →
    (ks.foldl (fstep cols) fs = [] ∨ ∃ x ∈ X, (ks.foldl (fstep cols) fs).idxOf (cols.getD x.toNat []) + 1 = (ks.foldl (fstep cols) fs).length)
  | [], _, _, h => h
  | k :: r, fs, hX, h => by
    rw [List.foldl_cons]
    refine fold_last r _ (fun x hx => hX x (.tail _ hx)) ?_
    by_cases q : cols.getD k.toNat [] ∈ fs
    · rw [fstep, if_pos q]; exact h
    · rw [fstep, if_neg q]
      exact .inr ⟨k, hX k (.head _), by rw [List.idxOf_append, if_neg q, List.idxOf_cons_self, List.length_append]; simp⟩
theorem idx_pre {fs gs t : List (List Int)} {c : List Int} (e : gs = fs ++ t) (h : c ∈ fs) : gs.idxOf c = fs.idxOf c := by
  rw [e, List.idxOf_append, if_pos h]
/-- the first that stands at a rank or above has that rank -/
theorem first_rank {ord : List Int} {h : Nat} {k : Int} {l : List Int} (e : aboveOf ord (fun k => (((firstsOf cols ord).idxOf (cols.getD k.toNat []) : Nat) : Int)) h = k :: l) : (firstsOf cols ord).idxOf (cols.getD k.toNat []) = h := by
  obtain ⟨a, b, eo, ha, hk, _⟩ := List.filter_eq_cons_iff.mp e
  have hk' : h ≤ (firstsOf cols ord).idxOf (cols.getD k.toNat []) := Int.ofNat_le.mp (of_decide_eq_true hk)
  have ha' : ∀ x ∈ a, (firstsOf cols ord).idxOf (cols.getD x.toNat []) < h := fun x hx => by
    have h1 : ¬ (h : Int) ≤ (((firstsOf cols ord).idxOf (cols.getD x.toNat []) : Nat) : Int) := fun e => ha x hx (decide_eq_true e)
    omega
  have eF : firstsOf cols ord = b.foldl (fstep cols) (fstep cols (a.foldl (fstep cols) []) k) := by
    show ord.foldl (fstep cols) [] = _
    rw [eo, List.foldl_append, List.foldl_cons]
  obtain ⟨t, et⟩ := fold_pre (cols := cols) b (fstep cols (a.foldl (fstep cols) []) k)
  rw [et] at eF
  generalize hfa : a.foldl (fstep cols) [] = fa at *
  have pre : ∃ t', firstsOf cols ord = fa ++ t' := by
    by_cases q : cols.getD k.toNat [] ∈ fa
    · exact ⟨t, by rw [eF, fstep, if_pos q]⟩
    · exact ⟨[cols.getD k.toNat []] ++ t, by rw [eF, fstep, if_neg q, List.append_assoc]⟩
  obtain ⟨t', et'⟩ := pre
  by_cases q : cols.getD k.toNat [] ∈ fa
  · have q2 := q
    rw [← hfa] at q2
    rcases fold_from a [] _ q2 with h1 | ⟨x, hx, ex⟩
    · exact absurd h1 List.not_mem_nil
    · have := ha' x hx
      rw [ex] at this; omega
  · rw [fstep, if_neg q] at eF
    have ek : (firstsOf cols ord).idxOf (cols.getD k.toNat []) = fa.length := by
      rw [idx_pre eF (List.mem_append_right _ (.head _)), List.idxOf_append, if_neg q, List.idxOf_cons_self]; omega
    have lst := fold_last (cols := cols) (X := a) a [] (fun _ h => h) (.inl rfl)
    rw [hfa] at lst
    rcases lst with h0 | ⟨x, hx, ex⟩
    · rw [h0] at ek
      have ek2 : (firstsOf cols ord).idxOf (cols.getD k.toNat []) = 0 := ek
      omega
    · have hxm : cols.getD x.toNat [] ∈ fa := by rw [← hfa]; exact fold_has a [] x hx
      have h1 := ha' x hx
      rw [idx_pre et' hxm] at h1
      omega
end
theorem idx_inj {c d : List Int} : ∀ {l : List (List Int)}, c ∈ l → l.idxOf c = l.idxOf d → c = d
  | [], h, _ => absurd h List.not_mem_nil
  | x :: r, h, e => by
    rw [List.idxOf_cons, List.idxOf_cons] at e
    by_cases q1 : x = c
    · by_cases q2 : x = d
      · rw [← q1, ← q2]
      · rw [show (x == c) = true from beq_iff_eq.mpr q1, show (x == d) = false from beq_eq_false_iff_ne.mpr q2] at e
        simp at e
    · by_cases q2 : x = d
      · rw [show (x == c) = false from beq_eq_false_iff_ne.mpr q1, show (x == d) = true from beq_iff_eq.mpr q2] at e
        simp at e
      · rw [show (x == c) = false from beq_eq_false_iff_ne.mpr q1, show (x == d) = false from beq_eq_false_iff_ne.mpr q2] at e
        simp only [cond_false, Nat.add_right_cancel_iff] at e
        rcases List.mem_cons.mp h with h | h
        · exact absurd h.symm q1
        · exact idx_inj h e
theorem plain_classes (ns : List Int) (M : Int) (hM : M ∈ (colsR (rowsOf ns)).map fun c => (((firstsOf (colsR (rowsOf ns)) (orderOf (rowsOf ns).length)).idxOf c : Nat) : Int)) (hx : ∀ a ∈ (colsR (rowsOf ns)).map fun c => (((firstsOf (colsR (rowsOf ns)) (orderOf (rowsOf ns).length)).idxOf c : Nat) : Int), a ≤ M) :
    classesGo (clsP (marksOf (rowsOf ns))) (marksOf (rowsOf ns)).length (orderOf (rowsOf ns).length) = partsTo (orderOf (rowsOf ns).length) ((colsR (rowsOf ns)).map fun c => (((firstsOf (colsR (rowsOf ns)) (orderOf (rowsOf ns).length)).idxOf c : Nat) : Int)) (M + 1).toNat := by
  have h4 := rows_four ns
  have hcl : (colsR (rowsOf ns)).length = (rowsOf ns).length := by simp
  have ho := orderOf_mem h4
  have hhas : ∀ i : Nat, i < (rowsOf ns).length → (i : Int) ∈ orderOf (rowsOf ns).length := fun i h => orderOf_has h
  generalize hord : orderOf (rowsOf ns).length = ord at *
  generalize hFL : firstsOf (colsR (rowsOf ns)) ord = FL at *
  generalize hR : ((colsR (rowsOf ns)).map fun c => ((FL.idxOf c : Nat) : Int)) = rs at *
  have hlen : rs.length = (rowsOf ns).length := by rw [← hR]; simp
  have hat : ∀ i : Nat, i < (rowsOf ns).length → rs.getD i 0 = ((FL.idxOf ((colsR (rowsOf ns)).getD i []) : Nat) : Int) := fun i hi => by
    rw [getD_lt (show i < rs.length by omega), getD_lt (show i < (colsR (rowsOf ns)).length by omega)]
    subst hR
    rw [List.getElem_map]
  have hin' : ∀ x, x < (rowsOf ns).length → rs.getD x 0 ∈ rs := fun x hk => by
    rw [getD_lt (show x < rs.length by omega)]
    exact List.getElem_mem _
  obtain ⟨i, hi, eM⟩ := List.getElem_of_mem hM
  have hiM : rs.getD i 0 = M := by rw [getD_lt hi]; exact eM
  have hM0 : 0 ≤ M := by rw [← hiM, hat i (by omega)]; omega
  have hRk : ∀ k ∈ ord, rs.getD k.toNat 0 = ((FL.idxOf ((colsR (rowsOf ns)).getD k.toNat []) : Nat) : Int) := fun k hk => hat _ (by have := ho k hk; omega)
  have hab : ∀ h : Int, aboveOf ord (fun k => rs.getD k.toNat 0) h = aboveOf ord (fun k => ((FL.idxOf ((colsR (rowsOf ns)).getD k.toNat []) : Nat) : Int)) h := fun h => List.filter_congr fun k hk => by
    show decide (h ≤ rs.getD k.toNat 0) = _
    rw [hRk k hk]
  have hne : ∃ k ∈ ord, rs.getD k.toNat 0 = M := ⟨(i : Int), hhas i (by omega), by rw [Int.toNat_natCast]; exact hiM⟩
  have hle : ∀ k ∈ ord, rs.getD k.toNat 0 ≤ M := fun k hk => hx _ (hin' _ (by have := ho k hk; omega))
  have head : ∀ h : Int, 0 ≤ h → h ≤ M → ∃ k l, aboveOf ord (fun k => rs.getD k.toNat 0) h = k :: l ∧ k ∈ ord ∧ rs.getD k.toNat 0 = h := fun h h0 h1 => by
    cases e : aboveOf ord (fun k => rs.getD k.toNat 0) h with
    | nil => exact absurd e (above_some hne h1)
    | cons k l =>
      have hk : k ∈ ord := (List.mem_filter.mp (show k ∈ aboveOf ord (fun k => rs.getD k.toNat 0) h by rw [e]; exact .head _)).1
      refine ⟨k, l, rfl, hk, ?_⟩
      rw [hab] at e
      subst hFL
      have := first_rank (cols := colsR (rowsOf ns)) (ord := ord) (h := h.toNat) (k := k) (l := l) (by rw [Int.toNat_of_nonneg h0]; exact e)
      rw [hRk k hk, this]; omega
  have hbig : (M + 1).toNat ≤ (rowsOf ns).length := by
    rw [← hlen]
    refine pig _ _ fun h hh => ?_
    obtain ⟨k, l, _, hk, e⟩ := head h (by omega) (by omega)
    rw [← e]
    exact hin' _ (by have := ho k hk; omega)
  have go := cls_go (ord := ord) (R := fun k => rs.getD k.toNat 0) (P := clsP (marksOf (rowsOf ns))) (M := M) (fun h h0 h1 k hk hge => ?_) hne hle (M + 1).toNat (marksOf (rowsOf ns)).length 0 (Int.le_refl _) (by omega) (by rw [marks_len]; exact hbig)
  · have e0 : aboveOf ord (fun k => rs.getD k.toNat 0) 0 = ord := List.filter_eq_self.mpr fun k hk => by
      have := hRk k hk
      refine decide_eq_true ?_
      show 0 ≤ rs.getD k.toNat 0
      omega
    rw [e0] at go
    rw [go]
    rfl
  · obtain ⟨k0, l, e, hk0, er⟩ := head h h0 h1
    rw [e]
    show (!eqP _ ((marksOf (rowsOf ns)).getD k0.toNat _)) = _
    have a1 := ho k hk
    have a2 := ho k0 hk0
    rw [(pair_ok (by omega) (by omega)).2]
    replace hge : h ≤ rs.getD k.toNat 0 := hge
    show (!decide ((colsR (rowsOf ns)).getD k.toNat [] = (colsR (rowsOf ns)).getD k0.toNat [])) = decide (h < rs.getD k.toNat 0)
    by_cases q : (colsR (rowsOf ns)).getD k.toNat [] = (colsR (rowsOf ns)).getD k0.toNat []
    · have e1 : rs.getD k.toNat 0 = h := by rw [hRk k hk, q, ← hRk k0 hk0, er]
      rw [decide_eq_true q, e1]
      simp
    · have hmem : (colsR (rowsOf ns)).getD k.toNat [] ∈ FL := by subst hFL; exact fold_has (cols := colsR (rowsOf ns)) ord [] k hk
      have e1 : rs.getD k.toNat 0 ≠ h := fun e2 => q (idx_inj hmem (by have := hRk k hk; have := hRk k0 hk0; omega))
      rw [decide_eq_false q, decide_eq_true (show h < rs.getD k.toNat 0 by omega)]; rfl

end
section
/-- what the law leaves -/
noncomputable def LawEnd (h₀ : Heap) (s : Shared) (r : Result) (s' : Shared) : Prop := ∃ h' tk, r = .ok (.ret (.bool true)) ∧ s' = { s with heap := h', toks := tk } ∧ Stay h₀ h' ∧ GrownAt 132 h' ∧ GrownAt 125 h' ∧ GrownAt 115 h'
theorem LawEnd.of {h₀ h' : Heap} {s : Shared} {tk : Nat} (k : Stay h₀ h') (g1 : GrownAt 132 h') (g2 : GrownAt 125 h') (g3 : GrownAt 115 h') : LawEnd h₀ s (.ok (.ret (.bool true))) { s with heap := h', toks := tk } := ⟨h', tk, rfl, rfl, k, g1, g2, g3⟩
/-- a thing that stands by goes under the ground -/
theorem sink {h₀ h : Heap} {L P : Addr} {m : Str → Option Value} {news : List (Addr × Obj)} {o : Obj} (F : Fr h₀ L h m) (N : News h₀ L h news) (hP : h.get? P = some o) (hs : @LT.lt Nat _ P h₀.objs.size) (hn : ∀ q ∈ news, @Ne Nat q.1 P) :
    ∃ h₁, Stay h₀ h₁ ∧ h₁.get? P = some o ∧ Fr h₁ L h m ∧ News h₁ L h news := by
  have hdat : ∀ c d sl, o ≠ ⟨c, d, .freed, sl⟩ := fun c d sl e => by
    subst e
    unfold Heap.get? at hP
    split at hP
    · cases hP
    · rename_i q
      exact q _ _ _ hP
  have at1 : ∀ b, (Heap.mk (h₀.objs.set P o hs) h₀.life).get? b = if b = P then some o else h₀.get? b := fun b => by
    unfold Heap.get?
    dsimp only
    by_cases e : b = P
    · subst e
      rw [if_pos rfl, Array.getElem?_set_self]
      split
      · rename_i c d sl q
        exact absurd (Option.some.inj q) (hdat _ _ _)
      · rfl
    · rw [if_neg e, Array.getElem?_set, if_neg (Ne.symm e)]
  refine ⟨Heap.mk (h₀.objs.set P o hs) h₀.life, fun b ob e => ?_, by rw [at1, if_pos rfl], ⟨F.ns, fun b ob e => ?_, ?_⟩, fun q hq => ⟨(N q hq).1, (N q hq).2.1, ?_⟩⟩
  · rw [at1]
    by_cases q : b = P
    · subst q
      rw [if_pos rfl, ← hP, F.keep _ _ e]
    · rw [if_neg q]; exact e
  · rw [at1] at e
    by_cases q : b = P
    · subst q
      rw [if_pos rfl] at e
      rw [hP, e]
    · rw [if_neg q] at e
      exact F.keep _ _ e
  · show (h₀.objs.set P o hs).size ≤ L
    rw [Array.size_set]; exact F.above
  · rw [at1, if_neg (hn q hq)]; exact (N q hq).2.2
theorem codeHd_lt {h : Heap} {c P : Addr} (C : CodeHd h c P) : @LT.lt Nat _ c h.objs.size := by
  obtain ⟨_, _, _, _, _, _, _, _, _, e, _⟩ := C
  exact Heap.lt_size e
theorem law_call {A : Around} {s : Shared} {h0 : Heap} {l : Addr} {vs : List Value} {ns : List Int} (G : Gr w p loose mean mg mb h0) (D : Ledge h0 s.heap [(132, tabObj #[]), (125, tabObj #[]), (115, tabObj #[])]) (C1 : CodeHd h0 136 132) (C2 : CodeHd h0 129 125) (C3 : CodeHd h0 117 115)
    (hl : h0.IsList l vs.toArray) (hi : IntsAre vs ns) (hn : ns.length < 100) (R : Rm 60 A) :
    codeAny (model PR w) A (.call (.ref 142) ⟨[.ref l], []⟩) (LawEnd h0 s) s := by
  obtain ⟨_, dp, fr, gd, un⟩ := A
  obtain ⟨hh, hd, hu⟩ := R
  cases hh
  dsimp only at hd hu
  refine enterC [(Str.ofString "script", .ref l)] G D (by k_is) (by k_is) (rm00 hd) (BindsTo.of_eq rfl) rfl (by decide +kernel) ?_ rfl rfl rfl
  intro L' h₁ tk cells F N Y l0
  have hY := CellsAre.two Y
  refine exE2 hY ?_
  clear hY
  intro o1 o2 zz8
  refine anE3 zz8 ?_
  clear zz8
  rintro rfl d1 d2
  replace d1 : o1.data = .cell none := d1
  replace d2 : o2.data = .cell none := d2
  clear Y
  simp only [List.cons_append, List.nil_append] at N
  k_lt l0
  have X := G.X
  have T := G.T
  ((try ((with_reducible show wpAny _ _ _ _ _ _); k_fold)); repeat' (first | ((fail_if_success (with_reducible show wpAny _ _ (pyIter _) _ _ _)); (fail_if_success (with_reducible show wpAny _ _ (exec (Stmt.For _ _ _ _ _) _) _ _ _)); (fail_if_success (with_reducible show wpAny _ _ (eval (PySem.Expr.ListComp _ _ _ _) _) _ _ _)); (fail_if_success (with_reducible show wpAny _ _ (exec (Stmt.Assign _ (PySem.Expr.ListComp _ _ _ _) _) _) _ _ _)); (fail_if_success (with_reducible show wpAny _ _ (eval (PySem.Expr.Lambda _ _ _ _) _) _ _ _)); (fail_if_success (with_reducible show LCt.CompSrcT _ _ _ _ _ _ _ _ _ _ _ _ _ _ _)); (fail_if_success (with_reducible show LCg.CompSrc _ _ _ _ _ _ _ _ _ _ _ _ _ _)); (fail_if_success (with_reducible show LCg.CompEnd _ _ _ _ _ _ _ _ _ _ _ _ _ _)); first | (k_unfold; (try dsimp only)) | (k_here; (with_reducible show wpAny _ _ (subscriptTail _ _ (Value.ref _) (Value.int _ _)) _ _ _); (refine' itemOwn ?k1 ?k2 ?k3 ?k4 (suf_at _ _ _) ?_ ?k6; (case k1 => k_asm); (case k2 => exact List.Mem.head _); (case k3 => omega); (case k4 => omega); (case k6 => with_unfolding_all rfl))) | (k_here; (with_reducible show wpAny _ _ (subscriptTail _ _ (Value.ref _) (Value.int _ _)) _ _ _); (refine' itemOwn ?k1 ?k2 ?k3 ?k4 ?k5 ?_ ?k6; (case k1 => k_asm); (case k2 => k_mem); (case k5 => assumption); (case k3 => omega); (case k4 => omega); (case k6 => with_unfolding_all rfl))) | (k_here; (with_reducible show wpAny _ _ (call (Value.builtin "len") [Value.ref _]) _ _ _); (refine' lenOwn ?k1 ?k2 ?k3 ?k4 ?_; (case k1 => k_asm); (case k2 => k_mem); (case k3 => assumption); (case k4 => omega))) | walk1 | (dsimp only; walk1))))
  refine useE (by k_asm) (by k_asm) (rows (G.keeps (Fr.keep (by k_asm))) (Fr.lst (by k_asm) hl) hi (by omega) (by ((refine ⟨rfl, ?_, ?_⟩ <;> first | exact rm1 (by assumption) (by decide) | exact rm0 (by assumption) (by decide) | exact rm2 (by assumption) (by decide) | ((try simp only [Around.deeper, Around.in1]); omega))))) ?_
  intro v9 h9 tk9 nw F9 N9 ap9 zz9
  refine exE3 zz9 ?_
  clear zz9
  intro Dr vr cr zz8
  refine anE3 zz8 ?_
  clear zz8
  rintro rfl rfl hrs
  simp only [List.cons_append, List.nil_append] at N9
  have nr1 := ap9 _ (.head _) _ (.head _)
  have nr2 := ap9 _ (.head _) _ (.tail _ (.head _))
  have nr3 := ap9 _ (.head _) _ (.tail _ (.tail _ (.head _)))
  have nr4 := ap9 _ (.head _) _ (.tail _ (.tail _ (.tail _ (.head _))))
  have nr5 := ap9 _ (.head _) _ (.tail _ (.tail _ (.tail _ (.tail _ (.head _)))))
  dsimp only at nr1 nr2 nr3 nr4 nr5
  clear ap9
  generalize hrw : rowsOf ns = rws at hrs
  have hrl : 4 ≤ rws.length ∧ rws.length ≤ 8 := by
    rw [← hrw]; unfold rowsOf rows4; rw [List.length_append, List.length_map, List.length_take]
    simp only [List.length_cons, List.length_nil]
    omega
  have hrok : ∀ r ∈ rws, RowOk r := by rw [← hrw]; exact rowsOf_ok ns
  have hvr : vr.size = rws.length := by rw [← Array.length_toList, hrs.length]
  ((try ((with_reducible show wpAny _ _ _ _ _ _); k_fold)); repeat' (first | ((fail_if_success (with_reducible show wpAny _ _ (pyIter _) _ _ _)); (fail_if_success (with_reducible show wpAny _ _ (exec (Stmt.For _ _ _ _ _) _) _ _ _)); (fail_if_success (with_reducible show wpAny _ _ (eval (PySem.Expr.ListComp _ _ _ _) _) _ _ _)); (fail_if_success (with_reducible show wpAny _ _ (exec (Stmt.Assign _ (PySem.Expr.ListComp _ _ _ _) _) _) _ _ _)); (fail_if_success (with_reducible show wpAny _ _ (eval (PySem.Expr.Lambda _ _ _ _) _) _ _ _)); (fail_if_success (with_reducible show LCt.CompSrcT _ _ _ _ _ _ _ _ _ _ _ _ _ _ _)); (fail_if_success (with_reducible show LCg.CompSrc _ _ _ _ _ _ _ _ _ _ _ _ _ _)); (fail_if_success (with_reducible show LCg.CompEnd _ _ _ _ _ _ _ _ _ _ _ _ _ _)); first | (k_unfold; (try dsimp only)) | (k_here; (with_reducible show wpAny _ _ (subscriptTail _ _ (Value.ref _) (Value.int _ _)) _ _ _); (refine' itemOwn ?k1 ?k2 ?k3 ?k4 (suf_at _ _ _) ?_ ?k6; (case k1 => k_asm); (case k2 => exact List.Mem.head _); (case k3 => omega); (case k4 => omega); (case k6 => with_unfolding_all rfl))) | (k_here; (with_reducible show wpAny _ _ (subscriptTail _ _ (Value.ref _) (Value.int _ _)) _ _ _); (refine' itemOwn ?k1 ?k2 ?k3 ?k4 ?k5 ?_ ?k6; (case k1 => k_asm); (case k2 => k_mem); (case k5 => assumption); (case k3 => omega); (case k4 => omega); (case k6 => with_unfolding_all rfl))) | (k_here; (with_reducible show wpAny _ _ (call (Value.builtin "len") [Value.ref _]) _ _ _); (refine' lenOwn ?k1 ?k2 ?k3 ?k4 ?_; (case k1 => k_asm); (case k2 => k_mem); (case k3 => assumption); (case k4 => omega))) | walk1 | (dsimp only; walk1))))
  rename_i o2' F10 N10 d2'
  refine LCg.Assign_ListComp_U (F₀ := by k_asm) (by rfl) (by with_unfolding_all rfl) (by with_unfolding_all rfl) (by decide) (by rfl) (by decide) (by rfl) (by rfl) (by rfl) ?_
  ((try ((with_reducible show wpAny _ _ _ _ _ _); k_fold)); repeat' (first | ((fail_if_success (with_reducible show wpAny _ _ (pyIter _) _ _ _)); (fail_if_success (with_reducible show wpAny _ _ (exec (Stmt.For _ _ _ _ _) _) _ _ _)); (fail_if_success (with_reducible show wpAny _ _ (eval (PySem.Expr.ListComp _ _ _ _) _) _ _ _)); (fail_if_success (with_reducible show wpAny _ _ (exec (Stmt.Assign _ (PySem.Expr.ListComp _ _ _ _) _) _) _ _ _)); (fail_if_success (with_reducible show wpAny _ _ (eval (PySem.Expr.Lambda _ _ _ _) _) _ _ _)); (fail_if_success (with_reducible show LCt.CompSrcT _ _ _ _ _ _ _ _ _ _ _ _ _ _ _)); (fail_if_success (with_reducible show LCg.CompSrc _ _ _ _ _ _ _ _ _ _ _ _ _ _)); (fail_if_success (with_reducible show LCg.CompEnd _ _ _ _ _ _ _ _ _ _ _ _ _ _)); first | (k_unfold; (try dsimp only)) | (k_here; (with_reducible show wpAny _ _ (subscriptTail _ _ (Value.ref _) (Value.int _ _)) _ _ _); (refine' itemOwn ?k1 ?k2 ?k3 ?k4 (suf_at _ _ _) ?_ ?k6; (case k1 => k_asm); (case k2 => exact List.Mem.head _); (case k3 => omega); (case k4 => omega); (case k6 => with_unfolding_all rfl))) | (k_here; (with_reducible show wpAny _ _ (subscriptTail _ _ (Value.ref _) (Value.int _ _)) _ _ _); (refine' itemOwn ?k1 ?k2 ?k3 ?k4 ?k5 ?_ ?k6; (case k1 => k_asm); (case k2 => k_mem); (case k5 => assumption); (case k3 => omega); (case k4 => omega); (case k6 => with_unfolding_all rfl))) | (k_here; (with_reducible show wpAny _ _ (call (Value.builtin "len") [Value.ref _]) _ _ _); (refine' lenOwn ?k1 ?k2 ?k3 ?k4 ?_; (case k1 => k_asm); (case k2 => k_mem); (case k3 => assumption); (case k4 => omega))) | walk1 | (dsimp only; walk1))))
  refine LCg.CompSrc.range (by rfl) (by k_asm) (news := (L' + 1, o2') :: (Dr, listOf vr cr) :: ([] ++ [(L' + 1 + 1, o1), (132, tabObj #[]), (125, tabObj #[]), (115, tabObj #[])])) (nwS (by assumption) (by ((try dsimp only [List.cons_append, List.nil_append]); repeat' (first | with_reducible exact sb0 | exact sbN | refine sbC ?_ ?_ | refine sbA ?_ ?_ | with_reducible exact mHd | refine mTl ?_ | refine List.mem_append_right _ ?_ | refine sbT ?_ | with_reducible exact sbL sb0 | refine sbR ?_)))) (by assumption) (rangeSmall1 (by omega) (by omega) (by omega) (by omega)) (n := rws.length) (by rw [rangeSize1]; omega) (by rw [sizeLine_eq]; omega) ?_
  intro g1
  refine restU rws.length (fun i ys news => ∃ mkn, news = (L' + 1, o2') :: (Dr, listOf vr cr) :: (mkn ++ [(L' + 1 + 1, o1), (132, tabObj #[]), (125, tabObj #[]), (115, tabObj #[])]) ∧ FarOff L' mkn ∧ Paired (MkIn w mkn) ys ((marksOf rws).take i)) ?_ ?_ _ 0 [] _ (by simp) ⟨[], rfl, (fun _ h => nomatch h), .nil⟩
  rotate_left
  · intro i v ys news hi9 zz9a zz9 I oI C oC D m₂ h tk E' hC hx F' N' off ne
    (try ((with_reducible show wpAny _ _ _ _ _ _); k_fold))
    refine exE1 zz9a ?_
    clear zz9a
    intro mkn zz8
    refine anE3 zz8 ?_
    clear zz8
    rintro rfl hfar hpr
    refine exE1 zz9 ?_
    clear zz9
    rintro t rfl
    obtain ⟨tr, htr⟩ := hrs.get i rws[i] (List.getElem?_eq_getElem hi9)
    have ei : (0 + (i : Int)).toNat = i := by omega
    generalize hrow : rws[i] = row at htr
    rw [← ei] at htr
    have hok : RowOk row := hrok row (by rw [← hrow]; exact List.getElem_mem hi9)
    have hok1 : row.length ≤ 100 := hok.2
    have hsl := sufOf_len i
    have hm2 : 0 ≤ (0 + (i : Int)).fmod 2 ∧ (0 + (i : Int)).fmod 2 < 2 := ⟨Int.fmod_nonneg_of_pos _ (by decide), Int.fmod_lt_of_pos _ (by decide)⟩
    ((try ((with_reducible show wpAny _ _ _ _ _ _); k_fold)); repeat' (first | ((fail_if_success (with_reducible show wpAny _ _ (pyIter _) _ _ _)); (fail_if_success (with_reducible show wpAny _ _ (exec (Stmt.For _ _ _ _ _) _) _ _ _)); (fail_if_success (with_reducible show wpAny _ _ (eval (PySem.Expr.ListComp _ _ _ _) _) _ _ _)); (fail_if_success (with_reducible show wpAny _ _ (exec (Stmt.Assign _ (PySem.Expr.ListComp _ _ _ _) _) _) _ _ _)); (fail_if_success (with_reducible show wpAny _ _ (eval (PySem.Expr.Lambda _ _ _ _) _) _ _ _)); (fail_if_success (with_reducible show LCt.CompSrcT _ _ _ _ _ _ _ _ _ _ _ _ _ _ _)); (fail_if_success (with_reducible show LCg.CompSrc _ _ _ _ _ _ _ _ _ _ _ _ _ _)); (fail_if_success (with_reducible show LCg.CompEnd _ _ _ _ _ _ _ _ _ _ _ _ _ _)); first | (k_unfold; (try dsimp only)) | (k_here; (with_reducible show wpAny _ _ (subscriptTail _ _ (Value.ref _) (Value.int _ _)) _ _ _); (refine' itemOwn ?k1 ?k2 ?k3 ?k4 (suf_at _ _ _) ?_ ?k6; (case k1 => k_asm); (case k2 => exact List.Mem.head _); (case k3 => omega); (case k4 => omega); (case k6 => with_unfolding_all rfl))) | (k_here; (with_reducible show wpAny _ _ (subscriptTail _ _ (Value.ref _) (Value.int _ _)) _ _ _); (refine' itemOwn ?k1 ?k2 ?k3 ?k4 ?k5 ?_ ?k6; (case k1 => k_asm); (case k2 => k_mem); (case k5 => assumption); (case k3 => omega); (case k4 => omega); (case k6 => with_unfolding_all rfl))) | (k_here; (with_reducible show wpAny _ _ (call (Value.builtin "len") [Value.ref _]) _ _ _); (refine' lenOwn ?k1 ?k2 ?k3 ?k4 ?_; (case k1 => k_asm); (case k2 => k_mem); (case k3 => assumption); (case k4 => omega))) | walk1 | (dsimp only; walk1))))
    have hlen2 : (row ++ sufOf i).cps.size < 1000 := by
      have : (row ++ sufOf i).length ≤ row.length + (sufOf i).length := (by assumption : _ ∧ _).2
      have e : (row ++ sufOf i).cps.size = (row ++ sufOf i).length := rfl
      omega
    refine useE (by k_asm) (by k_asm) (makeMk (G.keeps (Fr.keep (by k_asm))) (ascii_app hok.1 (sufOf_ascii i)) hlen2 (by ((refine ⟨rfl, ?_, ?_⟩ <;> first | exact rm1 (by assumption) (by decide) | exact rm0 (by assumption) (by decide) | exact rm2 (by assumption) (by decide) | ((try simp only [Around.deeper, Around.in1]); omega))))) ?_
    intro v9 h12 tk12 nw F12 N12 ap12 zz9
    refine anE2 zz9 ?_
    clear zz9
    rintro hcl12 zz9
    refine exE1 zz9 ?_
    clear zz9
    intro x12 zz9
    refine anE2 zz9 ?_
    clear zz9
    rintro rfl hx12
    ((try ((with_reducible show wpAny _ _ _ _ _ _); k_fold)); repeat' (first | ((fail_if_success (with_reducible show wpAny _ _ (pyIter _) _ _ _)); (fail_if_success (with_reducible show wpAny _ _ (exec (Stmt.For _ _ _ _ _) _) _ _ _)); (fail_if_success (with_reducible show wpAny _ _ (eval (PySem.Expr.ListComp _ _ _ _) _) _ _ _)); (fail_if_success (with_reducible show wpAny _ _ (exec (Stmt.Assign _ (PySem.Expr.ListComp _ _ _ _) _) _) _ _ _)); (fail_if_success (with_reducible show wpAny _ _ (eval (PySem.Expr.Lambda _ _ _ _) _) _ _ _)); (fail_if_success (with_reducible show LCt.CompSrcT _ _ _ _ _ _ _ _ _ _ _ _ _ _ _)); (fail_if_success (with_reducible show LCg.CompSrc _ _ _ _ _ _ _ _ _ _ _ _ _ _)); (fail_if_success (with_reducible show LCg.CompEnd _ _ _ _ _ _ _ _ _ _ _ _ _ _)); first | (k_unfold; (try dsimp only)) | (k_here; (with_reducible show wpAny _ _ (subscriptTail _ _ (Value.ref _) (Value.int _ _)) _ _ _); (refine' itemOwn ?k1 ?k2 ?k3 ?k4 (suf_at _ _ _) ?_ ?k6; (case k1 => k_asm); (case k2 => exact List.Mem.head _); (case k3 => omega); (case k4 => omega); (case k6 => with_unfolding_all rfl))) | (k_here; (with_reducible show wpAny _ _ (subscriptTail _ _ (Value.ref _) (Value.int _ _)) _ _ _); (refine' itemOwn ?k1 ?k2 ?k3 ?k4 ?k5 ?_ ?k6; (case k1 => k_asm); (case k2 => k_mem); (case k5 => assumption); (case k3 => omega); (case k4 => omega); (case k6 => with_unfolding_all rfl))) | (k_here; (with_reducible show wpAny _ _ (call (Value.builtin "len") [Value.ref _]) _ _ _); (refine' lenOwn ?k1 ?k2 ?k3 ?k4 ?_; (case k1 => k_asm); (case k2 => k_mem); (case k3 => assumption); (case k4 => omega))) | walk1 | (dsimp only; walk1))))
    refine LCg.CompEnd.intro F12 N12 ((L' + 1, o2') :: (Dr, listOf vr cr) :: ((nw ++ mkn) ++ [(L' + 1 + 1, o1), (132, tabObj #[]), (125, tabObj #[]), (115, tabObj #[])])) ?_ ?_ trivial ⟨nw ++ mkn, rfl, (fun q hq => (List.mem_append.mp hq).elim (fun h => ⟨ap12 q h _ (.tail _ (.tail _ (.tail _ (.tail _ (.tail _ (.tail _ (List.mem_append_right _ (.head _)))))))), ap12 q h _ (.tail _ (.tail _ (.tail _ (.tail _ (.tail _ (.tail _ (List.mem_append_right _ (.tail _ (.head _))))))))), ap12 q h _ (.tail _ (.tail _ (.tail _ (.tail _ (.tail _ (.tail _ (List.mem_append_right _ (.tail _ (.tail _ (.head _)))))))))), ap12 q h _ (.tail _ (.tail _ (.tail _ (.tail _ (.tail _ (.tail _ (List.mem_append_right _ (.tail _ (.tail _ (.tail _ (.head _))))))))))), hcl12 q h⟩) (hfar q)), ?_⟩
    · ((try dsimp only [List.cons_append, List.nil_append]); repeat' (first | with_reducible exact sb0 | exact sbN | refine sbC ?_ ?_ | refine sbA ?_ ?_ | with_reducible exact mHd | refine mTl ?_ | refine List.mem_append_right _ ?_ | refine sbT ?_ | with_reducible exact sbL sb0 | refine sbR ?_))
    · have offm := off.mem
      refine LCg.Off3.of (alC ?_ (alC ?_ (alA (alA ?_ ?_) ?_)))
      · exact offm _ (by ((try dsimp only [List.cons_append, List.nil_append]); repeat' (first | with_reducible exact sb0 | exact sbN | refine sbC ?_ ?_ | refine sbA ?_ ?_ | with_reducible exact mHd | refine mTl ?_ | refine List.mem_append_right _ ?_ | refine sbT ?_ | with_reducible exact sbL sb0 | refine sbR ?_)))
      · exact offm _ (by ((try dsimp only [List.cons_append, List.nil_append]); repeat' (first | with_reducible exact sb0 | exact sbN | refine sbC ?_ ?_ | refine sbA ?_ ?_ | with_reducible exact mHd | refine mTl ?_ | refine List.mem_append_right _ ?_ | refine sbT ?_ | with_reducible exact sbL sb0 | refine sbR ?_)))
      · exact fun q h => ⟨ap12 q h _ (.tail _ (.head _)), ap12 q h _ (.tail _ (.tail _ (.head _))), ap12 q h _ (.tail _ (.tail _ (.tail _ (.head _))))⟩
      · exact alS offm (by ((try dsimp only [List.cons_append, List.nil_append]); repeat' (first | with_reducible exact sb0 | exact sbN | refine sbC ?_ ?_ | refine sbA ?_ ?_ | with_reducible exact mHd | refine mTl ?_ | refine List.mem_append_right _ ?_ | refine sbT ?_ | with_reducible exact sbL sb0 | refine sbR ?_)))
      · exact alS offm (by ((try dsimp only [List.cons_append, List.nil_append]); repeat' (first | with_reducible exact sb0 | exact sbN | refine sbC ?_ ?_ | refine sbA ?_ ?_ | with_reducible exact mHd | refine mTl ?_ | refine List.mem_append_right _ ?_ | refine sbT ?_ | with_reducible exact sbL sb0 | refine sbR ?_)))
    · rw [marks_take hi9, hrow]
      exact Paired.snoc (Paired.mono (fun a b h => h.mono fun q hq => List.mem_append_right _ hq) hpr) ⟨x12, rfl, fun h' hh => hx12 h' fun q hq => hh q (List.mem_append_left _ hq)⟩
  intro ys1 news zz9
  refine exE1 zz9 ?_
  clear zz9
  intro mkn zz8
  refine anE3 zz8 ?_
  clear zz8
  rintro rfl hfarM hprM
  ((try ((with_reducible show wpAny _ _ _ _ _ _); k_fold)); repeat' (first | ((fail_if_success (with_reducible show wpAny _ _ (pyIter _) _ _ _)); (fail_if_success (with_reducible show wpAny _ _ (exec (Stmt.For _ _ _ _ _) _) _ _ _)); (fail_if_success (with_reducible show wpAny _ _ (eval (PySem.Expr.ListComp _ _ _ _) _) _ _ _)); (fail_if_success (with_reducible show wpAny _ _ (exec (Stmt.Assign _ (PySem.Expr.ListComp _ _ _ _) _) _) _ _ _)); (fail_if_success (with_reducible show wpAny _ _ (eval (PySem.Expr.Lambda _ _ _ _) _) _ _ _)); (fail_if_success (with_reducible show LCt.CompSrcT _ _ _ _ _ _ _ _ _ _ _ _ _ _ _)); (fail_if_success (with_reducible show LCg.CompSrc _ _ _ _ _ _ _ _ _ _ _ _ _ _)); (fail_if_success (with_reducible show LCg.CompEnd _ _ _ _ _ _ _ _ _ _ _ _ _ _)); first | (k_unfold; (try dsimp only)) | (k_here; (with_reducible show wpAny _ _ (subscriptTail _ _ (Value.ref _) (Value.int _ _)) _ _ _); (refine' itemOwn ?k1 ?k2 ?k3 ?k4 (suf_at _ _ _) ?_ ?k6; (case k1 => k_asm); (case k2 => exact List.Mem.head _); (case k3 => omega); (case k4 => omega); (case k6 => with_unfolding_all rfl))) | (k_here; (with_reducible show wpAny _ _ (subscriptTail _ _ (Value.ref _) (Value.int _ _)) _ _ _); (refine' itemOwn ?k1 ?k2 ?k3 ?k4 ?k5 ?_ ?k6; (case k1 => k_asm); (case k2 => k_mem); (case k5 => assumption); (case k3 => omega); (case k4 => omega); (case k6 => with_unfolding_all rfl))) | (k_here; (with_reducible show wpAny _ _ (call (Value.builtin "len") [Value.ref _]) _ _ _); (refine' lenOwn ?k1 ?k2 ?k3 ?k4 ?_; (case k1 => k_asm); (case k2 => k_mem); (case k3 => assumption); (case k4 => omega))) | walk1 | (dsimp only; walk1))))
  rename_i Dm h13 _ F13 N13 o13
  have om := (off1_mem o13.2.2)
  have om2 := om _ (List.mem_append_right _ (.head _))
  have om3 := om _ (List.mem_append_right _ (.tail _ (.head _)))
  have om4 := om _ (List.mem_append_right _ (.tail _ (.tail _ (.head _))))
  have om5 := om _ (List.mem_append_right _ (.tail _ (.tail _ (.tail _ (.head _)))))
  dsimp only at om2 om3 om4 om5
  have N14 : News h0 L' h13 ((Dr, listOf vr cr) :: (Dm, LCg.lst ys1) :: (L' + 1, o2') :: (L' + 1 + 1, o1) :: (132, tabObj #[]) :: (125, tabObj #[]) :: (115, tabObj #[]) :: ([] ++ mkn)) := nwS N13 (by ((try dsimp only [List.cons_append, List.nil_append]); repeat' (first | with_reducible exact sb0 | exact sbN | refine sbC ?_ ?_ | refine sbA ?_ ?_ | with_reducible exact mHd | refine mTl ?_ | refine List.mem_append_right _ ?_ | refine sbT ?_ | with_reducible exact sbL sb0 | refine sbR ?_)))
  clear N13
  rw [List.take_of_length_le (by unfold marksOf; simp)] at hprM
  refine LCg.Assign_ListComp_U (F₀ := by k_asm) (by rfl) (by with_unfolding_all rfl) (by with_unfolding_all rfl) (by decide) (by rfl) (by decide) (by rfl) (by rfl) (by rfl) ?_
  ((try ((with_reducible show wpAny _ _ _ _ _ _); k_fold)); repeat' (first | ((fail_if_success (with_reducible show wpAny _ _ (pyIter _) _ _ _)); (fail_if_success (with_reducible show wpAny _ _ (exec (Stmt.For _ _ _ _ _) _) _ _ _)); (fail_if_success (with_reducible show wpAny _ _ (eval (PySem.Expr.ListComp _ _ _ _) _) _ _ _)); (fail_if_success (with_reducible show wpAny _ _ (exec (Stmt.Assign _ (PySem.Expr.ListComp _ _ _ _) _) _) _ _ _)); (fail_if_success (with_reducible show wpAny _ _ (eval (PySem.Expr.Lambda _ _ _ _) _) _ _ _)); (fail_if_success (with_reducible show LCt.CompSrcT _ _ _ _ _ _ _ _ _ _ _ _ _ _ _)); (fail_if_success (with_reducible show LCg.CompSrc _ _ _ _ _ _ _ _ _ _ _ _ _ _)); (fail_if_success (with_reducible show LCg.CompEnd _ _ _ _ _ _ _ _ _ _ _ _ _ _)); first | (k_unfold; (try dsimp only)) | (k_here; (with_reducible show wpAny _ _ (subscriptTail _ _ (Value.ref _) (Value.int _ _)) _ _ _); (refine' itemOwn ?k1 ?k2 ?k3 ?k4 (suf_at _ _ _) ?_ ?k6; (case k1 => k_asm); (case k2 => exact List.Mem.head _); (case k3 => omega); (case k4 => omega); (case k6 => with_unfolding_all rfl))) | (k_here; (with_reducible show wpAny _ _ (subscriptTail _ _ (Value.ref _) (Value.int _ _)) _ _ _); (refine' itemOwn ?k1 ?k2 ?k3 ?k4 ?k5 ?_ ?k6; (case k1 => k_asm); (case k2 => k_mem); (case k5 => assumption); (case k3 => omega); (case k4 => omega); (case k6 => with_unfolding_all rfl))) | (k_here; (with_reducible show wpAny _ _ (call (Value.builtin "len") [Value.ref _]) _ _ _); (refine' lenOwn ?k1 ?k2 ?k3 ?k4 ?_; (case k1 => k_asm); (case k2 => k_mem); (case k3 => assumption); (case k4 => omega))) | walk1 | (dsimp only; walk1))))
  refine LCg.CompSrc.ledger (by rfl) (by k_asm) N14 (.head _) (by rw [sizeLine_eq]; omega) ?_
  intro g2
  refine restU vr.size (fun i ys news => ∃ cn, news = (Dr, listOf vr cr) :: (Dm, LCg.lst ys1) :: (L' + 1, o2') :: (L' + 1 + 1, o1) :: (132, tabObj #[]) :: (125, tabObj #[]) :: (115, tabObj #[]) :: (cn ++ mkn) ∧ FarOff L' cn ∧ Paired (ColIn cn) ys ((rws.map fun r => colsOf r.cps.toList).take i)) ?_ ?_ _ 0 [] _ (by simp) ⟨[], rfl, (fun _ h => nomatch h), .nil⟩
  rotate_left
  · intro i v ys news hi9 zz9 hv I oI C oC D m₂ h tk E' hC hx F' N' off ne
    (try ((with_reducible show wpAny _ _ _ _ _ _); k_fold))
    refine exE1 zz9 ?_
    clear zz9
    intro cn zz8
    refine anE3 zz8 ?_
    clear zz8
    rintro rfl hfar hpr
    obtain ⟨tr, htr⟩ := hrs.get i rws[i] (List.getElem?_eq_getElem (by omega))
    rw [← Array.getElem?_toList, htr] at hv
    obtain rfl := Option.some.inj hv
    have hok := hrok rws[i] (List.getElem_mem _)
    ((try ((with_reducible show wpAny _ _ _ _ _ _); k_fold)); repeat' (first | ((fail_if_success (with_reducible show wpAny _ _ (pyIter _) _ _ _)); (fail_if_success (with_reducible show wpAny _ _ (exec (Stmt.For _ _ _ _ _) _) _ _ _)); (fail_if_success (with_reducible show wpAny _ _ (eval (PySem.Expr.ListComp _ _ _ _) _) _ _ _)); (fail_if_success (with_reducible show wpAny _ _ (exec (Stmt.Assign _ (PySem.Expr.ListComp _ _ _ _) _) _) _ _ _)); (fail_if_success (with_reducible show wpAny _ _ (eval (PySem.Expr.Lambda _ _ _ _) _) _ _ _)); (fail_if_success (with_reducible show LCt.CompSrcT _ _ _ _ _ _ _ _ _ _ _ _ _ _ _)); (fail_if_success (with_reducible show LCg.CompSrc _ _ _ _ _ _ _ _ _ _ _ _ _ _)); (fail_if_success (with_reducible show LCg.CompEnd _ _ _ _ _ _ _ _ _ _ _ _ _ _)); first | (k_unfold; (try dsimp only)) | (k_here; (with_reducible show wpAny _ _ (subscriptTail _ _ (Value.ref _) (Value.int _ _)) _ _ _); (refine' itemOwn ?k1 ?k2 ?k3 ?k4 (suf_at _ _ _) ?_ ?k6; (case k1 => k_asm); (case k2 => exact List.Mem.head _); (case k3 => omega); (case k4 => omega); (case k6 => with_unfolding_all rfl))) | (k_here; (with_reducible show wpAny _ _ (subscriptTail _ _ (Value.ref _) (Value.int _ _)) _ _ _); (refine' itemOwn ?k1 ?k2 ?k3 ?k4 ?k5 ?_ ?k6; (case k1 => k_asm); (case k2 => k_mem); (case k5 => assumption); (case k3 => omega); (case k4 => omega); (case k6 => with_unfolding_all rfl))) | (k_here; (with_reducible show wpAny _ _ (call (Value.builtin "len") [Value.ref _]) _ _ _); (refine' lenOwn ?k1 ?k2 ?k3 ?k4 ?_; (case k1 => k_asm); (case k2 => k_mem); (case k3 => assumption); (case k4 => omega))) | walk1 | (dsimp only; walk1))))
    refine useE (by k_asm) (by k_asm) (columns (G.keeps (Fr.keep (by k_asm))) hok.1 (Nat.lt_of_le_of_lt hok.2 (by decide)) (by ((refine ⟨rfl, ?_, ?_⟩ <;> first | exact rm1 (by assumption) (by decide) | exact rm0 (by assumption) (by decide) | exact rm2 (by assumption) (by decide) | ((try simp only [Around.deeper, Around.in1]); omega))))) ?_
    intro v9 h12 tk12 nw F12 N12 ap12 zz9
    refine exE3 zz9 ?_
    clear zz9
    intro Dc vc cc zz8
    refine anE3 zz8 ?_
    clear zz8
    rintro rfl rfl hvc
    ((try ((with_reducible show wpAny _ _ _ _ _ _); k_fold)); repeat' (first | ((fail_if_success (with_reducible show wpAny _ _ (pyIter _) _ _ _)); (fail_if_success (with_reducible show wpAny _ _ (exec (Stmt.For _ _ _ _ _) _) _ _ _)); (fail_if_success (with_reducible show wpAny _ _ (eval (PySem.Expr.ListComp _ _ _ _) _) _ _ _)); (fail_if_success (with_reducible show wpAny _ _ (exec (Stmt.Assign _ (PySem.Expr.ListComp _ _ _ _) _) _) _ _ _)); (fail_if_success (with_reducible show wpAny _ _ (eval (PySem.Expr.Lambda _ _ _ _) _) _ _ _)); (fail_if_success (with_reducible show LCt.CompSrcT _ _ _ _ _ _ _ _ _ _ _ _ _ _ _)); (fail_if_success (with_reducible show LCg.CompSrc _ _ _ _ _ _ _ _ _ _ _ _ _ _)); (fail_if_success (with_reducible show LCg.CompEnd _ _ _ _ _ _ _ _ _ _ _ _ _ _)); first | (k_unfold; (try dsimp only)) | (k_here; (with_reducible show wpAny _ _ (subscriptTail _ _ (Value.ref _) (Value.int _ _)) _ _ _); (refine' itemOwn ?k1 ?k2 ?k3 ?k4 (suf_at _ _ _) ?_ ?k6; (case k1 => k_asm); (case k2 => exact List.Mem.head _); (case k3 => omega); (case k4 => omega); (case k6 => with_unfolding_all rfl))) | (k_here; (with_reducible show wpAny _ _ (subscriptTail _ _ (Value.ref _) (Value.int _ _)) _ _ _); (refine' itemOwn ?k1 ?k2 ?k3 ?k4 ?k5 ?_ ?k6; (case k1 => k_asm); (case k2 => k_mem); (case k5 => assumption); (case k3 => omega); (case k4 => omega); (case k6 => with_unfolding_all rfl))) | (k_here; (with_reducible show wpAny _ _ (call (Value.builtin "len") [Value.ref _]) _ _ _); (refine' lenOwn ?k1 ?k2 ?k3 ?k4 ?_; (case k1 => k_asm); (case k2 => k_mem); (case k3 => assumption); (case k4 => omega))) | walk1 | (dsimp only; walk1))))
    refine LCg.CompEnd.intro F12 N12 ((Dr, listOf vr cr) :: (Dm, LCg.lst ys1) :: (L' + 1, o2') :: (L' + 1 + 1, o1) :: (132, tabObj #[]) :: (125, tabObj #[]) :: (115, tabObj #[]) :: (((Dc, listOf vc cc) :: cn) ++ mkn)) ?_ ?_ (.inr ⟨_, .head _, rfl, _, rfl⟩) ⟨(Dc, listOf vc cc) :: cn, rfl, (fun q hq => (List.mem_cons.mp hq).elim (fun h => by rw [h]; exact ⟨ap12 _ (.head _) _ (List.mem_of_getElem? (i := 6) rfl), ap12 _ (.head _) _ (List.mem_of_getElem? (i := 7) rfl), ap12 _ (.head _) _ (List.mem_of_getElem? (i := 8) rfl), ap12 _ (.head _) _ (List.mem_of_getElem? (i := 9) rfl), .inl (by show Value.type "list" ≠ _; decide)⟩) (hfar q)), ?_⟩
    · ((try dsimp only [List.cons_append, List.nil_append]); repeat' (first | with_reducible exact sb0 | exact sbN | refine sbC ?_ ?_ | refine sbA ?_ ?_ | with_reducible exact mHd | refine mTl ?_ | refine List.mem_append_right _ ?_ | refine sbT ?_ | with_reducible exact sbL sb0 | refine sbR ?_))
    · have offm := off.mem
      refine LCg.Off3.of (alC ?_ (alC ?_ (alC ?_ (alC ?_ (alC ?_ (alC ?_ (alC ?_ (alA (alC ?_ ?_) ?_))))))))
      · exact offm _ (by ((try dsimp only [List.cons_append, List.nil_append]); repeat' (first | with_reducible exact sb0 | exact sbN | refine sbC ?_ ?_ | refine sbA ?_ ?_ | with_reducible exact mHd | refine mTl ?_ | refine List.mem_append_right _ ?_ | refine sbT ?_ | with_reducible exact sbL sb0 | refine sbR ?_)))
      · exact offm _ (by ((try dsimp only [List.cons_append, List.nil_append]); repeat' (first | with_reducible exact sb0 | exact sbN | refine sbC ?_ ?_ | refine sbA ?_ ?_ | with_reducible exact mHd | refine mTl ?_ | refine List.mem_append_right _ ?_ | refine sbT ?_ | with_reducible exact sbL sb0 | refine sbR ?_)))
      · exact offm _ (by ((try dsimp only [List.cons_append, List.nil_append]); repeat' (first | with_reducible exact sb0 | exact sbN | refine sbC ?_ ?_ | refine sbA ?_ ?_ | with_reducible exact mHd | refine mTl ?_ | refine List.mem_append_right _ ?_ | refine sbT ?_ | with_reducible exact sbL sb0 | refine sbR ?_)))
      · exact offm _ (by ((try dsimp only [List.cons_append, List.nil_append]); repeat' (first | with_reducible exact sb0 | exact sbN | refine sbC ?_ ?_ | refine sbA ?_ ?_ | with_reducible exact mHd | refine mTl ?_ | refine List.mem_append_right _ ?_ | refine sbT ?_ | with_reducible exact sbL sb0 | refine sbR ?_)))
      · exact offm _ (by ((try dsimp only [List.cons_append, List.nil_append]); repeat' (first | with_reducible exact sb0 | exact sbN | refine sbC ?_ ?_ | refine sbA ?_ ?_ | with_reducible exact mHd | refine mTl ?_ | refine List.mem_append_right _ ?_ | refine sbT ?_ | with_reducible exact sbL sb0 | refine sbR ?_)))
      · exact offm _ (by ((try dsimp only [List.cons_append, List.nil_append]); repeat' (first | with_reducible exact sb0 | exact sbN | refine sbC ?_ ?_ | refine sbA ?_ ?_ | with_reducible exact mHd | refine mTl ?_ | refine List.mem_append_right _ ?_ | refine sbT ?_ | with_reducible exact sbL sb0 | refine sbR ?_)))
      · exact offm _ (by ((try dsimp only [List.cons_append, List.nil_append]); repeat' (first | with_reducible exact sb0 | exact sbN | refine sbC ?_ ?_ | refine sbA ?_ ?_ | with_reducible exact mHd | refine mTl ?_ | refine List.mem_append_right _ ?_ | refine sbT ?_ | with_reducible exact sbL sb0 | refine sbR ?_)))
      · exact ⟨ap12 _ (.head _) _ (.head _), ap12 _ (.head _) _ (.tail _ (.head _)), ap12 _ (.head _) _ (.tail _ (.tail _ (.head _)))⟩
      · exact alS offm (by ((try dsimp only [List.cons_append, List.nil_append]); repeat' (first | with_reducible exact sb0 | exact sbN | refine sbC ?_ ?_ | refine sbA ?_ ?_ | with_reducible exact mHd | refine mTl ?_ | refine List.mem_append_right _ ?_ | refine sbT ?_ | with_reducible exact sbL sb0 | refine sbR ?_)))
      · exact alS offm (by ((try dsimp only [List.cons_append, List.nil_append]); repeat' (first | with_reducible exact sb0 | exact sbN | refine sbC ?_ ?_ | refine sbA ?_ ?_ | with_reducible exact mHd | refine mTl ?_ | refine List.mem_append_right _ ?_ | refine sbT ?_ | with_reducible exact sbL sb0 | refine sbR ?_)))
    · rw [List.take_add_one, List.getElem?_map, List.getElem?_eq_getElem (by omega)]
      exact Paired.snoc (Paired.mono (fun a b h => h.mono fun q hq => .tail _ hq) hpr) ⟨Dc, vc, cc, rfl, .head _, hvc⟩
  intro ys2 news zz9
  refine exE1 zz9 ?_
  clear zz9
  intro cn zz8
  refine anE3 zz8 ?_
  clear zz8
  rintro rfl hfarC hprC
  rw [List.take_of_length_le (by rw [List.length_map, hvr]; exact Nat.le_refl _)] at hprC
  ((try ((with_reducible show wpAny _ _ _ _ _ _); k_fold)); repeat' (first | ((fail_if_success (with_reducible show wpAny _ _ (pyIter _) _ _ _)); (fail_if_success (with_reducible show wpAny _ _ (exec (Stmt.For _ _ _ _ _) _) _ _ _)); (fail_if_success (with_reducible show wpAny _ _ (eval (PySem.Expr.ListComp _ _ _ _) _) _ _ _)); (fail_if_success (with_reducible show wpAny _ _ (exec (Stmt.Assign _ (PySem.Expr.ListComp _ _ _ _) _) _) _ _ _)); (fail_if_success (with_reducible show wpAny _ _ (eval (PySem.Expr.Lambda _ _ _ _) _) _ _ _)); (fail_if_success (with_reducible show LCt.CompSrcT _ _ _ _ _ _ _ _ _ _ _ _ _ _ _)); (fail_if_success (with_reducible show LCg.CompSrc _ _ _ _ _ _ _ _ _ _ _ _ _ _)); (fail_if_success (with_reducible show LCg.CompEnd _ _ _ _ _ _ _ _ _ _ _ _ _ _)); first | (k_unfold; (try dsimp only)) | (k_here; (with_reducible show wpAny _ _ (subscriptTail _ _ (Value.ref _) (Value.int _ _)) _ _ _); (refine' itemOwn ?k1 ?k2 ?k3 ?k4 (suf_at _ _ _) ?_ ?k6; (case k1 => k_asm); (case k2 => exact List.Mem.head _); (case k3 => omega); (case k4 => omega); (case k6 => with_unfolding_all rfl))) | (k_here; (with_reducible show wpAny _ _ (subscriptTail _ _ (Value.ref _) (Value.int _ _)) _ _ _); (refine' itemOwn ?k1 ?k2 ?k3 ?k4 ?k5 ?_ ?k6; (case k1 => k_asm); (case k2 => k_mem); (case k5 => assumption); (case k3 => omega); (case k4 => omega); (case k6 => with_unfolding_all rfl))) | (k_here; (with_reducible show wpAny _ _ (call (Value.builtin "len") [Value.ref _]) _ _ _); (refine' lenOwn ?k1 ?k2 ?k3 ?k4 ?_; (case k1 => k_asm); (case k2 => k_mem); (case k3 => assumption); (case k4 => omega))) | walk1 | (dsimp only; walk1))))
  rename_i Dc h15 _ F15 N15 o15
  have hoffT : OwnOff (cn ++ mkn) [L' + 1 + 1] := fun q hq b hb => by
    rw [List.mem_singleton.mp hb]
    rcases List.mem_append.mp hq with h | h
    · exact (hfarC q h).1
    · exact (hfarM q h).1
  refine LCg.ListComp_U (F₀ := by k_asm) (by with_unfolding_all rfl) (by decide) (by rfl) (by decide) (by rfl) ?_
  ((try ((with_reducible show wpAny _ _ _ _ _ _); k_fold)); repeat' (first | ((fail_if_success (with_reducible show wpAny _ _ (pyIter _) _ _ _)); (fail_if_success (with_reducible show wpAny _ _ (exec (Stmt.For _ _ _ _ _) _) _ _ _)); (fail_if_success (with_reducible show wpAny _ _ (eval (PySem.Expr.ListComp _ _ _ _) _) _ _ _)); (fail_if_success (with_reducible show wpAny _ _ (exec (Stmt.Assign _ (PySem.Expr.ListComp _ _ _ _) _) _) _ _ _)); (fail_if_success (with_reducible show wpAny _ _ (eval (PySem.Expr.Lambda _ _ _ _) _) _ _ _)); (fail_if_success (with_reducible show LCt.CompSrcT _ _ _ _ _ _ _ _ _ _ _ _ _ _ _)); (fail_if_success (with_reducible show LCg.CompSrc _ _ _ _ _ _ _ _ _ _ _ _ _ _)); (fail_if_success (with_reducible show LCg.CompEnd _ _ _ _ _ _ _ _ _ _ _ _ _ _)); first | (k_unfold; (try dsimp only)) | (k_here; (with_reducible show wpAny _ _ (subscriptTail _ _ (Value.ref _) (Value.int _ _)) _ _ _); (refine' itemOwn ?k1 ?k2 ?k3 ?k4 (suf_at _ _ _) ?_ ?k6; (case k1 => k_asm); (case k2 => exact List.Mem.head _); (case k3 => omega); (case k4 => omega); (case k6 => with_unfolding_all rfl))) | (k_here; (with_reducible show wpAny _ _ (subscriptTail _ _ (Value.ref _) (Value.int _ _)) _ _ _); (refine' itemOwn ?k1 ?k2 ?k3 ?k4 ?k5 ?_ ?k6; (case k1 => k_asm); (case k2 => k_mem); (case k5 => assumption); (case k3 => omega); (case k4 => omega); (case k6 => with_unfolding_all rfl))) | (k_here; (with_reducible show wpAny _ _ (call (Value.builtin "len") [Value.ref _]) _ _ _); (refine' lenOwn ?k1 ?k2 ?k3 ?k4 ?_; (case k1 => k_asm); (case k2 => k_mem); (case k3 => assumption); (case k4 => omega))) | walk1 | (dsimp only; walk1))))
  refine LCg.CompSrc.range (by rfl) (by k_asm) (by k_asm) (by assumption) (rangeSmall1 (by omega) (by omega) (by omega) (by omega)) (n := rws.length) (by rw [rangeSize1]; omega) (by rw [sizeLine_eq]; omega) ?_
  intro g3
  refine restU rws.length (fun i ys news => news = (Dc, LCg.lst ys2) :: (Dr, listOf vr cr) :: (Dm, LCg.lst ys1) :: (L' + 1, o2') :: (L' + 1 + 1, o1) :: (132, tabObj #[]) :: (125, tabObj #[]) :: (115, tabObj #[]) :: (cn ++ mkn) ∧ IntsAre ys ((List.range i).map fun (k : Nat) => (rws.length : Int) - 1 - (0 + (k : Int)))) ?_ ?_ _ 0 [] _ (by simp) ⟨rfl, .nil⟩
  rotate_left
  · rintro i v ys news hi9 ⟨rfl, hpr⟩ zz9 I oI C oC D m₂ h tk E' hC hx F' N' off ne
    (try ((with_reducible show wpAny _ _ _ _ _ _); k_fold))
    refine exE1 zz9 ?_
    clear zz9
    rintro t rfl
    ((try ((with_reducible show wpAny _ _ _ _ _ _); k_fold)); repeat' (first | ((fail_if_success (with_reducible show wpAny _ _ (pyIter _) _ _ _)); (fail_if_success (with_reducible show wpAny _ _ (exec (Stmt.For _ _ _ _ _) _) _ _ _)); (fail_if_success (with_reducible show wpAny _ _ (eval (PySem.Expr.ListComp _ _ _ _) _) _ _ _)); (fail_if_success (with_reducible show wpAny _ _ (exec (Stmt.Assign _ (PySem.Expr.ListComp _ _ _ _) _) _) _ _ _)); (fail_if_success (with_reducible show wpAny _ _ (eval (PySem.Expr.Lambda _ _ _ _) _) _ _ _)); (fail_if_success (with_reducible show LCt.CompSrcT _ _ _ _ _ _ _ _ _ _ _ _ _ _ _)); (fail_if_success (with_reducible show LCg.CompSrc _ _ _ _ _ _ _ _ _ _ _ _ _ _)); (fail_if_success (with_reducible show LCg.CompEnd _ _ _ _ _ _ _ _ _ _ _ _ _ _)); first | (k_unfold; (try dsimp only)) | (k_here; (with_reducible show wpAny _ _ (subscriptTail _ _ (Value.ref _) (Value.int _ _)) _ _ _); (refine' itemOwn ?k1 ?k2 ?k3 ?k4 (suf_at _ _ _) ?_ ?k6; (case k1 => k_asm); (case k2 => exact List.Mem.head _); (case k3 => omega); (case k4 => omega); (case k6 => with_unfolding_all rfl))) | (k_here; (with_reducible show wpAny _ _ (subscriptTail _ _ (Value.ref _) (Value.int _ _)) _ _ _); (refine' itemOwn ?k1 ?k2 ?k3 ?k4 ?k5 ?_ ?k6; (case k1 => k_asm); (case k2 => k_mem); (case k5 => assumption); (case k3 => omega); (case k4 => omega); (case k6 => with_unfolding_all rfl))) | (k_here; (with_reducible show wpAny _ _ (call (Value.builtin "len") [Value.ref _]) _ _ _); (refine' lenOwn ?k1 ?k2 ?k3 ?k4 ?_; (case k1 => k_asm); (case k2 => k_mem); (case k3 => assumption); (case k4 => omega))) | walk1 | (dsimp only; walk1))))
    refine LCg.CompEnd.intro (by assumption) N' _ (fun _ h => h) off trivial ⟨rfl, ?_⟩
    rw [List.range_succ, List.map_append]
    exact ints_snoc hpr _ _
  rintro ys3 news ⟨rfl, hpr3⟩
  ((try ((with_reducible show wpAny _ _ _ _ _ _); k_fold)); repeat' (first | ((fail_if_success (with_reducible show wpAny _ _ (pyIter _) _ _ _)); (fail_if_success (with_reducible show wpAny _ _ (exec (Stmt.For _ _ _ _ _) _) _ _ _)); (fail_if_success (with_reducible show wpAny _ _ (eval (PySem.Expr.ListComp _ _ _ _) _) _ _ _)); (fail_if_success (with_reducible show wpAny _ _ (exec (Stmt.Assign _ (PySem.Expr.ListComp _ _ _ _) _) _) _ _ _)); (fail_if_success (with_reducible show wpAny _ _ (eval (PySem.Expr.Lambda _ _ _ _) _) _ _ _)); (fail_if_success (with_reducible show LCt.CompSrcT _ _ _ _ _ _ _ _ _ _ _ _ _ _ _)); (fail_if_success (with_reducible show LCg.CompSrc _ _ _ _ _ _ _ _ _ _ _ _ _ _)); (fail_if_success (with_reducible show LCg.CompEnd _ _ _ _ _ _ _ _ _ _ _ _ _ _)); first | (k_unfold; (try dsimp only)) | (k_here; (with_reducible show wpAny _ _ (subscriptTail _ _ (Value.ref _) (Value.int _ _)) _ _ _); (refine' itemOwn ?k1 ?k2 ?k3 ?k4 (suf_at _ _ _) ?_ ?k6; (case k1 => k_asm); (case k2 => exact List.Mem.head _); (case k3 => omega); (case k4 => omega); (case k6 => with_unfolding_all rfl))) | (k_here; (with_reducible show wpAny _ _ (subscriptTail _ _ (Value.ref _) (Value.int _ _)) _ _ _); (refine' itemOwn ?k1 ?k2 ?k3 ?k4 ?k5 ?_ ?k6; (case k1 => k_asm); (case k2 => k_mem); (case k5 => assumption); (case k3 => omega); (case k4 => omega); (case k6 => with_unfolding_all rfl))) | (k_here; (with_reducible show wpAny _ _ (call (Value.builtin "len") [Value.ref _]) _ _ _); (refine' lenOwn ?k1 ?k2 ?k3 ?k4 ?_; (case k1 => k_asm); (case k2 => k_mem); (case k3 => assumption); (case k4 => omega))) | walk1 | (dsimp only; walk1))))
  rename_i D3 h16 _ o16 E3 h17 F17 N17 l17
  have hl3 := hpr3.length
  rw [List.length_map, List.length_range] at hl3
  refine kmk_add_ints (vs := ys3) (ws := [.int 3 _]) (ms := [3]) F17 N17 ⟨_, (N17 _ (.tail _ (.head _))).1, rfl, _, rfl⟩ ⟨_, (N17 _ (.head _)).1, rfl, _, rfl⟩ hpr3 (.cons _ _ .nil) ?_ (by rw [sizeLine_eq]; simp; omega)
  intro Do wo h18 F18 N18 l18 hIo
  k_lt l18
  ((try ((with_reducible show wpAny _ _ _ _ _ _); k_fold)); repeat' (first | ((fail_if_success (with_reducible show wpAny _ _ (pyIter _) _ _ _)); (fail_if_success (with_reducible show wpAny _ _ (exec (Stmt.For _ _ _ _ _) _) _ _ _)); (fail_if_success (with_reducible show wpAny _ _ (eval (PySem.Expr.ListComp _ _ _ _) _) _ _ _)); (fail_if_success (with_reducible show wpAny _ _ (exec (Stmt.Assign _ (PySem.Expr.ListComp _ _ _ _) _) _) _ _ _)); (fail_if_success (with_reducible show wpAny _ _ (eval (PySem.Expr.Lambda _ _ _ _) _) _ _ _)); (fail_if_success (with_reducible show LCt.CompSrcT _ _ _ _ _ _ _ _ _ _ _ _ _ _ _)); (fail_if_success (with_reducible show LCg.CompSrc _ _ _ _ _ _ _ _ _ _ _ _ _ _)); (fail_if_success (with_reducible show LCg.CompEnd _ _ _ _ _ _ _ _ _ _ _ _ _ _)); first | (k_unfold; (try dsimp only)) | (k_here; (with_reducible show wpAny _ _ (subscriptTail _ _ (Value.ref _) (Value.int _ _)) _ _ _); (refine' itemOwn ?k1 ?k2 ?k3 ?k4 (suf_at _ _ _) ?_ ?k6; (case k1 => k_asm); (case k2 => exact List.Mem.head _); (case k3 => omega); (case k4 => omega); (case k6 => with_unfolding_all rfl))) | (k_here; (with_reducible show wpAny _ _ (subscriptTail _ _ (Value.ref _) (Value.int _ _)) _ _ _); (refine' itemOwn ?k1 ?k2 ?k3 ?k4 ?k5 ?_ ?k6; (case k1 => k_asm); (case k2 => k_mem); (case k5 => assumption); (case k3 => omega); (case k4 => omega); (case k6 => with_unfolding_all rfl))) | (k_here; (with_reducible show wpAny _ _ (call (Value.builtin "len") [Value.ref _]) _ _ _); (refine' lenOwn ?k1 ?k2 ?k3 ?k4 ?_; (case k1 => k_asm); (case k2 => k_mem); (case k3 => assumption); (case k4 => omega))) | walk1 | (dsimp only; walk1))))
  rename_i Df _ lDf _ oF F19 N19 dF
  have hDfo : ∀ q ∈ cn ++ mkn, @Ne Nat q.1 Df := fun q hq => Nat.ne_of_lt (allLt_mem lDf.2.2.2.2.2.2.2.2.2.2.2 q hq)
  replace hIo : IntsAre wo (orderOf rws.length) := hIo
  have hom := orderOf_mem hrl.1
  have hol : (orderOf rws.length).length ≤ 9 := by unfold orderOf; simp; omega
  have hcov : ∀ i : Nat, i < rws.length → (i : Int) ∈ orderOf rws.length := fun i hi => orderOf_has hi
  generalize hord : orderOf rws.length = ord at *
  have hcl : (rws.map fun r => colsOf r.cps.toList).length = rws.length := List.length_map _
  generalize hcols : (rws.map fun r => colsOf r.cps.toList) = cols at *
  refine For_invV h0 rfl rfl ?_
  ((try ((with_reducible show wpAny _ _ _ _ _ _); k_fold)); repeat' (first | ((fail_if_success (with_reducible show wpAny _ _ (pyIter _) _ _ _)); (fail_if_success (with_reducible show wpAny _ _ (exec (Stmt.For _ _ _ _ _) _) _ _ _)); (fail_if_success (with_reducible show wpAny _ _ (eval (PySem.Expr.ListComp _ _ _ _) _) _ _ _)); (fail_if_success (with_reducible show wpAny _ _ (exec (Stmt.Assign _ (PySem.Expr.ListComp _ _ _ _) _) _) _ _ _)); (fail_if_success (with_reducible show wpAny _ _ (eval (PySem.Expr.Lambda _ _ _ _) _) _ _ _)); (fail_if_success (with_reducible show LCt.CompSrcT _ _ _ _ _ _ _ _ _ _ _ _ _ _ _)); (fail_if_success (with_reducible show LCg.CompSrc _ _ _ _ _ _ _ _ _ _ _ _ _ _)); (fail_if_success (with_reducible show LCg.CompEnd _ _ _ _ _ _ _ _ _ _ _ _ _ _)); first | (k_unfold; (try dsimp only)) | (k_here; (with_reducible show wpAny _ _ (subscriptTail _ _ (Value.ref _) (Value.int _ _)) _ _ _); (refine' itemOwn ?k1 ?k2 ?k3 ?k4 (suf_at _ _ _) ?_ ?k6; (case k1 => k_asm); (case k2 => exact List.Mem.head _); (case k3 => omega); (case k4 => omega); (case k6 => with_unfolding_all rfl))) | (k_here; (with_reducible show wpAny _ _ (subscriptTail _ _ (Value.ref _) (Value.int _ _)) _ _ _); (refine' itemOwn ?k1 ?k2 ?k3 ?k4 ?k5 ?_ ?k6; (case k1 => k_asm); (case k2 => k_mem); (case k5 => assumption); (case k3 => omega); (case k4 => omega); (case k6 => with_unfolding_all rfl))) | (k_here; (with_reducible show wpAny _ _ (call (Value.builtin "len") [Value.ref _]) _ _ _); (refine' lenOwn ?k1 ?k2 ?k3 ?k4 ?_; (case k1 => k_asm); (case k2 => k_mem); (case k3 => assumption); (case k4 => omega))) | walk1 | (dsimp only; walk1))))
  refine iterOwn (l := Do) (vs := wo) (c := 0) (news := (Df, listOf #[] 0) :: (Dc, LCg.lst ys2) :: (Dm, LCg.lst ys1) :: (L' + 1, o2') :: (L' + 1 + 1, oF) :: (132, tabObj #[]) :: (125, tabObj #[]) :: (115, tabObj #[]) :: (cn ++ mkn)) (fun i m nx => ∃ (fv : Array Value) (fc : Nat) (u : Option Value), nx = (Df, listOf fv fc) :: (Dc, LCg.lst ys2) :: (Dm, LCg.lst ys1) :: (L' + 1, o2') :: (L' + 1 + 1, oF) :: (132, tabObj #[]) :: (125, tabObj #[]) :: (115, tabObj #[]) :: (cn ++ mkn) ∧ fv.size ≤ i ∧
      Paired (ColIn cn) fv.toList (firstsOf cols (ord.take i)) ∧ m = fun y => if y = Str.ofString "k" then u else List.lookup y [(Str.ofString "order", .ref Do), (Str.ofString "columns", .ref Dc), (Str.ofString "marks", .ref Dm), (Str.ofString "script", .ref l)]) rfl F19 (nwS N19 (by ((try dsimp only [List.cons_append, List.nil_append]); repeat' (first | with_reducible exact sb0 | exact sbN | refine sbC ?_ ?_ | refine sbA ?_ ?_ | with_reducible exact mHd | refine mTl ?_ | refine List.mem_append_right _ ?_ | refine sbT ?_ | with_reducible exact sbL sb0 | refine sbR ?_)))) ?_ ?_ ?_ ?_
  · refine' (exI3 #[] 0 none ⟨rfl, Nat.le_refl _, .nil, ?jf⟩)
    case jf => ((funext y9; (try simp only [lkc, List.lookup_nil, List.reverse_cons, List.reverse_nil, List.nil_append, List.cons_append]); repeat' (first | rfl | contradiction | (refine ite_l (fun h9 => ?_) (fun h9 => ?_); (subst h9; first | rfl | contradiction)) | (refine ite_r (fun h9 => ?_) (fun h9 => ?_); first | contradiction | (subst h9; first | rfl | contradiction)))))
  · intro i m nx zz9 q hq
    refine exE3 zz9 ?_
    clear zz9
    intro fv fc u zz8
    refine anE2 zz8 ?_
    clear zz8
    rintro rfl _
    revert q
    refine alC ?_ (alC ?_ (alC ?_ (alC ?_ (alC ?_ (alC ?_ (alC ?_ (alC ?_ (alA ?_ ?_))))))))
    · exact .inl (by show Value.type "list" ≠ _; decide)
    · exact .inl (by show Value.type "list" ≠ _; decide)
    · exact .inl (by show Value.type "list" ≠ _; decide)
    · exact .inr (.inl ⟨_, d2'⟩)
    · exact .inr (.inl ⟨_, dF⟩)
    · exact .inl (by show Value.none ≠ _; decide)
    · exact .inl (by show Value.none ≠ _; decide)
    · exact .inl (by show Value.none ≠ _; decide)
    · exact fun q hq => (hfarC q hq).2.2.2.2
    · exact fun q hq => (hfarM q hq).2.2.2.2
  · intro i v m₁ nx h tk own hv zz9 hoff F' N' hoc
    (try ((with_reducible show wpAny _ _ _ _ _ _); k_fold))
    refine exE3 zz9 ?_
    clear zz9
    intro fv fc u zz8
    refine anE4 zz8 ?_
    clear zz8
    rintro rfl hfz hfp rfl
    have hio : i < ord.length := by
      have := (List.getElem?_eq_some_iff.mp hv).1
      rw [hIo.length] at this; exact this
    obtain ⟨t, ht⟩ := hIo.get i ord[i] (List.getElem?_eq_getElem hio)
    rw [ht] at hv
    obtain rfl := Option.some.inj hv
    have hko := hom _ (List.getElem_mem hio)
    have hft := firstsOf_take (cols := cols) (List.getElem?_eq_getElem hio)
    generalize ord[i] = kk at *
    have hkl : kk.toNat < cols.length := by omega
    obtain ⟨va, hyk, hcol⟩ := Paired.get hprC (List.getElem?_eq_getElem hkl)
    rw [getD_lt hkl] at hft
    simp only [List.cons_append, List.append_assoc] at N'
    have hoff4 : OwnOff (cn ++ (mkn ++ own)) [Df] := fun q hq b hb => by
      rw [List.mem_singleton.mp hb]
      rcases List.mem_append.mp hq with h | h
      · exact hDfo q (List.mem_append_left _ h)
      · rcases List.mem_append.mp h with h | h
        · exact hDfo q (List.mem_append_right _ h)
        · exact hoff q h _ (by simp)
    ((try ((with_reducible show wpAny _ _ _ _ _ _); k_fold)); repeat' (first | ((fail_if_success (with_reducible show wpAny _ _ (pyIter _) _ _ _)); (fail_if_success (with_reducible show wpAny _ _ (exec (Stmt.For _ _ _ _ _) _) _ _ _)); (fail_if_success (with_reducible show wpAny _ _ (eval (PySem.Expr.ListComp _ _ _ _) _) _ _ _)); (fail_if_success (with_reducible show wpAny _ _ (exec (Stmt.Assign _ (PySem.Expr.ListComp _ _ _ _) _) _) _ _ _)); (fail_if_success (with_reducible show wpAny _ _ (eval (PySem.Expr.Lambda _ _ _ _) _) _ _ _)); (fail_if_success (with_reducible show LCt.CompSrcT _ _ _ _ _ _ _ _ _ _ _ _ _ _ _)); (fail_if_success (with_reducible show LCg.CompSrc _ _ _ _ _ _ _ _ _ _ _ _ _ _)); (fail_if_success (with_reducible show LCg.CompEnd _ _ _ _ _ _ _ _ _ _ _ _ _ _)); first | (k_unfold; (try dsimp only)) | (k_here; (with_reducible show wpAny _ _ (subscriptTail _ _ (Value.ref _) (Value.int _ _)) _ _ _); (refine' itemOwn ?k1 ?k2 ?k3 ?k4 (suf_at _ _ _) ?_ ?k6; (case k1 => k_asm); (case k2 => exact List.Mem.head _); (case k3 => omega); (case k4 => omega); (case k6 => with_unfolding_all rfl))) | (k_here; (with_reducible show wpAny _ _ (subscriptTail _ _ (Value.ref _) (Value.int _ _)) _ _ _); (refine' itemOwn ?k1 ?k2 ?k3 ?k4 ?k5 ?_ ?k6; (case k1 => k_asm); (case k2 => k_mem); (case k5 => assumption); (case k3 => omega); (case k4 => omega); (case k6 => with_unfolding_all rfl))) | (k_here; (with_reducible show wpAny _ _ (call (Value.builtin "len") [Value.ref _]) _ _ _); (refine' lenOwn ?k1 ?k2 ?k3 ?k4 ?_; (case k1 => k_asm); (case k2 => k_mem); (case k3 => assumption); (case k4 => omega))) | walk1 | (dsimp only; walk1))))
    refine notInLL (nw := cn) (by k_asm) (.tail _ (.head _)) (fun q hq => .tail _ (.tail _ (.tail _ (.tail _ (.tail _ (.tail _ (.tail _ (.tail _ (.tail _ (List.mem_append_left _ hq)))))))))) hfp hcol (by simp only [Around.deeper_units]; omega) ?_
    ((try ((with_reducible show wpAny _ _ _ _ _ _); k_fold)); repeat' (first | ((fail_if_success (with_reducible show wpAny _ _ (pyIter _) _ _ _)); (fail_if_success (with_reducible show wpAny _ _ (exec (Stmt.For _ _ _ _ _) _) _ _ _)); (fail_if_success (with_reducible show wpAny _ _ (eval (PySem.Expr.ListComp _ _ _ _) _) _ _ _)); (fail_if_success (with_reducible show wpAny _ _ (exec (Stmt.Assign _ (PySem.Expr.ListComp _ _ _ _) _) _) _ _ _)); (fail_if_success (with_reducible show wpAny _ _ (eval (PySem.Expr.Lambda _ _ _ _) _) _ _ _)); (fail_if_success (with_reducible show LCt.CompSrcT _ _ _ _ _ _ _ _ _ _ _ _ _ _ _)); (fail_if_success (with_reducible show LCg.CompSrc _ _ _ _ _ _ _ _ _ _ _ _ _ _)); (fail_if_success (with_reducible show LCg.CompEnd _ _ _ _ _ _ _ _ _ _ _ _ _ _)); first | (k_unfold; (try dsimp only)) | (k_here; (with_reducible show wpAny _ _ (subscriptTail _ _ (Value.ref _) (Value.int _ _)) _ _ _); (refine' itemOwn ?k1 ?k2 ?k3 ?k4 (suf_at _ _ _) ?_ ?k6; (case k1 => k_asm); (case k2 => exact List.Mem.head _); (case k3 => omega); (case k4 => omega); (case k6 => with_unfolding_all rfl))) | (k_here; (with_reducible show wpAny _ _ (subscriptTail _ _ (Value.ref _) (Value.int _ _)) _ _ _); (refine' itemOwn ?k1 ?k2 ?k3 ?k4 ?k5 ?_ ?k6; (case k1 => k_asm); (case k2 => k_mem); (case k5 => assumption); (case k3 => omega); (case k4 => omega); (case k6 => with_unfolding_all rfl))) | (k_here; (with_reducible show wpAny _ _ (call (Value.builtin "len") [Value.ref _]) _ _ _); (refine' lenOwn ?k1 ?k2 ?k3 ?k4 ?_; (case k1 => k_asm); (case k2 => k_mem); (case k3 => assumption); (case k4 => omega))) | walk1 | (dsimp only; walk1))))
    · rw [if_pos (by assumption)] at hft
      (rename News _ _ _ _ => N20)
      (rename Fr _ _ _ _ => F20)
      exact TurnEnd.go F20 N20 (exI3 fv fc _ ⟨rfl, by omega, by rw [hft]; exact hfp, by ((funext y9; (try simp only [lkc, List.lookup_nil, List.reverse_cons, List.reverse_nil, List.nil_append, List.cons_append]); repeat' (first | rfl | contradiction | (refine ite_l (fun h9 => ?_) (fun h9 => ?_); (subst h9; first | rfl | contradiction)) | (refine ite_r (fun h9 => ?_) (fun h9 => ?_); first | contradiction | (subst h9; first | rfl | contradiction)))))⟩) sub9 sub9r
    · rw [if_neg (by assumption)] at hft
      (rename News _ _ _ _ => N20)
      (rename Fr _ _ _ _ => F20)
      exact TurnEnd.go F20 N20 (exI3 (fv.push va) (fc + 1) _ ⟨rfl, by rw [Array.size_push]; omega, by rw [hft, Array.toList_push]; exact Paired.snoc hfp hcol, by ((funext y9; (try simp only [lkc, List.lookup_nil, List.reverse_cons, List.reverse_nil, List.nil_append, List.cons_append]); repeat' (first | rfl | contradiction | (refine ite_l (fun h9 => ?_) (fun h9 => ?_); (subst h9; first | rfl | contradiction)) | (refine ite_r (fun h9 => ?_) (fun h9 => ?_); first | contradiction | (subst h9; first | rfl | contradiction)))))⟩) sub9 sub9r
  intro m₁ nx h20 tk20 zz9 F20 N20
  (try ((with_reducible show wpAny _ _ _ _ _ _); k_fold))
  refine exE3 zz9 ?_
  clear zz9
  intro fv fc u zz8
  refine anE4 zz8 ?_
  clear zz8
  rintro rfl hfz hfp rfl
  rw [hIo.length, List.take_of_length_le (Nat.le_refl _)] at hfp
  have hfl : (firstsOf cols ord).length ≤ 9 := Nat.le_trans (firstsOf_len ord []) (by simpa using hol)
  have hfh : ∀ c ∈ cols, c ∈ firstsOf cols ord := fun c hc => by
    obtain ⟨i, hi, rfl⟩ := List.getElem_of_mem hc
    have := firstsOf_has (cols := cols) ord [] (i : Int) (hcov i (by omega))
    rw [Int.toNat_natCast, getD_lt hi] at this
    exact this
  generalize hFL : firstsOf cols ord = FL at *
  ((try ((with_reducible show wpAny _ _ _ _ _ _); k_fold)); repeat' (first | ((fail_if_success (with_reducible show wpAny _ _ (pyIter _) _ _ _)); (fail_if_success (with_reducible show wpAny _ _ (exec (Stmt.For _ _ _ _ _) _) _ _ _)); (fail_if_success (with_reducible show wpAny _ _ (eval (PySem.Expr.ListComp _ _ _ _) _) _ _ _)); (fail_if_success (with_reducible show wpAny _ _ (exec (Stmt.Assign _ (PySem.Expr.ListComp _ _ _ _) _) _) _ _ _)); (fail_if_success (with_reducible show wpAny _ _ (eval (PySem.Expr.Lambda _ _ _ _) _) _ _ _)); (fail_if_success (with_reducible show LCt.CompSrcT _ _ _ _ _ _ _ _ _ _ _ _ _ _ _)); (fail_if_success (with_reducible show LCg.CompSrc _ _ _ _ _ _ _ _ _ _ _ _ _ _)); (fail_if_success (with_reducible show LCg.CompEnd _ _ _ _ _ _ _ _ _ _ _ _ _ _)); first | (k_unfold; (try dsimp only)) | (k_here; (with_reducible show wpAny _ _ (subscriptTail _ _ (Value.ref _) (Value.int _ _)) _ _ _); (refine' itemOwn ?k1 ?k2 ?k3 ?k4 (suf_at _ _ _) ?_ ?k6; (case k1 => k_asm); (case k2 => exact List.Mem.head _); (case k3 => omega); (case k4 => omega); (case k6 => with_unfolding_all rfl))) | (k_here; (with_reducible show wpAny _ _ (subscriptTail _ _ (Value.ref _) (Value.int _ _)) _ _ _); (refine' itemOwn ?k1 ?k2 ?k3 ?k4 ?k5 ?_ ?k6; (case k1 => k_asm); (case k2 => k_mem); (case k5 => assumption); (case k3 => omega); (case k4 => omega); (case k6 => with_unfolding_all rfl))) | (k_here; (with_reducible show wpAny _ _ (call (Value.builtin "len") [Value.ref _]) _ _ _); (refine' lenOwn ?k1 ?k2 ?k3 ?k4 ?_; (case k1 => k_asm); (case k2 => k_mem); (case k3 => assumption); (case k4 => omega))) | walk1 | (dsimp only; walk1))))
  refine LCg.Assign_ListComp_U (F₀ := by k_asm) (by rfl) (by with_unfolding_all rfl) (by with_unfolding_all rfl) (by decide) (by rfl) (by decide) (by rfl) (by rfl) (by rfl) ?_
  ((try ((with_reducible show wpAny _ _ _ _ _ _); k_fold)); repeat' (first | ((fail_if_success (with_reducible show wpAny _ _ (pyIter _) _ _ _)); (fail_if_success (with_reducible show wpAny _ _ (exec (Stmt.For _ _ _ _ _) _) _ _ _)); (fail_if_success (with_reducible show wpAny _ _ (eval (PySem.Expr.ListComp _ _ _ _) _) _ _ _)); (fail_if_success (with_reducible show wpAny _ _ (exec (Stmt.Assign _ (PySem.Expr.ListComp _ _ _ _) _) _) _ _ _)); (fail_if_success (with_reducible show wpAny _ _ (eval (PySem.Expr.Lambda _ _ _ _) _) _ _ _)); (fail_if_success (with_reducible show LCt.CompSrcT _ _ _ _ _ _ _ _ _ _ _ _ _ _ _)); (fail_if_success (with_reducible show LCg.CompSrc _ _ _ _ _ _ _ _ _ _ _ _ _ _)); (fail_if_success (with_reducible show LCg.CompEnd _ _ _ _ _ _ _ _ _ _ _ _ _ _)); first | (k_unfold; (try dsimp only)) | (k_here; (with_reducible show wpAny _ _ (subscriptTail _ _ (Value.ref _) (Value.int _ _)) _ _ _); (refine' itemOwn ?k1 ?k2 ?k3 ?k4 (suf_at _ _ _) ?_ ?k6; (case k1 => k_asm); (case k2 => exact List.Mem.head _); (case k3 => omega); (case k4 => omega); (case k6 => with_unfolding_all rfl))) | (k_here; (with_reducible show wpAny _ _ (subscriptTail _ _ (Value.ref _) (Value.int _ _)) _ _ _); (refine' itemOwn ?k1 ?k2 ?k3 ?k4 ?k5 ?_ ?k6; (case k1 => k_asm); (case k2 => k_mem); (case k5 => assumption); (case k3 => omega); (case k4 => omega); (case k6 => with_unfolding_all rfl))) | (k_here; (with_reducible show wpAny _ _ (call (Value.builtin "len") [Value.ref _]) _ _ _); (refine' lenOwn ?k1 ?k2 ?k3 ?k4 ?_; (case k1 => k_asm); (case k2 => k_mem); (case k3 => assumption); (case k4 => omega))) | walk1 | (dsimp only; walk1))))
  have hy2 := Paired.length hprC
  refine LCg.CompSrc.ledger (by rfl) (by k_asm) N20 (.tail _ (.tail _ (.head _))) (by rw [sizeLine_eq]; simp; omega) ?_
  intro g4
  refine restU ys2.toArray.size (fun i ys news => news = (Do, listOf (List.toArray wo) 0) :: (Df, listOf fv fc) :: (Dc, LCg.lst ys2) :: (Dm, LCg.lst ys1) :: (L' + 1, o2') :: (L' + 1 + 1, oF) :: (132, tabObj #[]) :: (125, tabObj #[]) :: (115, tabObj #[]) :: (cn ++ mkn) ∧ IntsAre ys ((cols.map fun c => ((FL.idxOf c : Nat) : Int)).take i)) ?_ ?_ _ 0 [] _ (by simp) ⟨rfl, .nil⟩
  rotate_left
  · rintro i v ys news hi9 ⟨rfl, hpr⟩ hv I oI C oC D m₂ h tk E' hC hx F' N' off ne
    have hi10 : i < cols.length := by simp at hi9; omega
    obtain ⟨va, hva, hcol⟩ := Paired.get hprC (List.getElem?_eq_getElem hi10)
    rw [List.getElem?_toArray, hva] at hv
    obtain rfl := Option.some.inj hv
    ((try ((with_reducible show wpAny _ _ _ _ _ _); k_fold)); repeat' (first | ((fail_if_success (with_reducible show wpAny _ _ (pyIter _) _ _ _)); (fail_if_success (with_reducible show wpAny _ _ (exec (Stmt.For _ _ _ _ _) _) _ _ _)); (fail_if_success (with_reducible show wpAny _ _ (eval (PySem.Expr.ListComp _ _ _ _) _) _ _ _)); (fail_if_success (with_reducible show wpAny _ _ (exec (Stmt.Assign _ (PySem.Expr.ListComp _ _ _ _) _) _) _ _ _)); (fail_if_success (with_reducible show wpAny _ _ (eval (PySem.Expr.Lambda _ _ _ _) _) _ _ _)); (fail_if_success (with_reducible show LCt.CompSrcT _ _ _ _ _ _ _ _ _ _ _ _ _ _ _)); (fail_if_success (with_reducible show LCg.CompSrc _ _ _ _ _ _ _ _ _ _ _ _ _ _)); (fail_if_success (with_reducible show LCg.CompEnd _ _ _ _ _ _ _ _ _ _ _ _ _ _)); first | (k_unfold; (try dsimp only)) | (k_here; (with_reducible show wpAny _ _ (subscriptTail _ _ (Value.ref _) (Value.int _ _)) _ _ _); (refine' itemOwn ?k1 ?k2 ?k3 ?k4 (suf_at _ _ _) ?_ ?k6; (case k1 => k_asm); (case k2 => exact List.Mem.head _); (case k3 => omega); (case k4 => omega); (case k6 => with_unfolding_all rfl))) | (k_here; (with_reducible show wpAny _ _ (subscriptTail _ _ (Value.ref _) (Value.int _ _)) _ _ _); (refine' itemOwn ?k1 ?k2 ?k3 ?k4 ?k5 ?_ ?k6; (case k1 => k_asm); (case k2 => k_mem); (case k5 => assumption); (case k3 => omega); (case k4 => omega); (case k6 => with_unfolding_all rfl))) | (k_here; (with_reducible show wpAny _ _ (call (Value.builtin "len") [Value.ref _]) _ _ _); (refine' lenOwn ?k1 ?k2 ?k3 ?k4 ?_; (case k1 => k_asm); (case k2 => k_mem); (case k3 => assumption); (case k4 => omega))) | walk1 | (dsimp only; walk1))))
    refine indexLL (nw := cn) (by k_asm) (List.mem_of_getElem? (i := 4) rfl) (fun q hq => .tail _ (.tail _ (.tail _ (.tail _ (.tail _ (.tail _ (.tail _ (.tail _ (.tail _ (.tail _ (.tail _ (.tail _ (List.mem_append_left _ hq))))))))))))) hfp hcol (hfh _ (List.getElem_mem hi10)) (by omega) (by simp only [Around.deeper_units]; omega) ?_
    ((try ((with_reducible show wpAny _ _ _ _ _ _); k_fold)); repeat' (first | ((fail_if_success (with_reducible show wpAny _ _ (pyIter _) _ _ _)); (fail_if_success (with_reducible show wpAny _ _ (exec (Stmt.For _ _ _ _ _) _) _ _ _)); (fail_if_success (with_reducible show wpAny _ _ (eval (PySem.Expr.ListComp _ _ _ _) _) _ _ _)); (fail_if_success (with_reducible show wpAny _ _ (exec (Stmt.Assign _ (PySem.Expr.ListComp _ _ _ _) _) _) _ _ _)); (fail_if_success (with_reducible show wpAny _ _ (eval (PySem.Expr.Lambda _ _ _ _) _) _ _ _)); (fail_if_success (with_reducible show LCt.CompSrcT _ _ _ _ _ _ _ _ _ _ _ _ _ _ _)); (fail_if_success (with_reducible show LCg.CompSrc _ _ _ _ _ _ _ _ _ _ _ _ _ _)); (fail_if_success (with_reducible show LCg.CompEnd _ _ _ _ _ _ _ _ _ _ _ _ _ _)); first | (k_unfold; (try dsimp only)) | (k_here; (with_reducible show wpAny _ _ (subscriptTail _ _ (Value.ref _) (Value.int _ _)) _ _ _); (refine' itemOwn ?k1 ?k2 ?k3 ?k4 (suf_at _ _ _) ?_ ?k6; (case k1 => k_asm); (case k2 => exact List.Mem.head _); (case k3 => omega); (case k4 => omega); (case k6 => with_unfolding_all rfl))) | (k_here; (with_reducible show wpAny _ _ (subscriptTail _ _ (Value.ref _) (Value.int _ _)) _ _ _); (refine' itemOwn ?k1 ?k2 ?k3 ?k4 ?k5 ?_ ?k6; (case k1 => k_asm); (case k2 => k_mem); (case k5 => assumption); (case k3 => omega); (case k4 => omega); (case k6 => with_unfolding_all rfl))) | (k_here; (with_reducible show wpAny _ _ (call (Value.builtin "len") [Value.ref _]) _ _ _); (refine' lenOwn ?k1 ?k2 ?k3 ?k4 ?_; (case k1 => k_asm); (case k2 => k_mem); (case k3 => assumption); (case k4 => omega))) | walk1 | (dsimp only; walk1))))
    refine LCg.CompEnd.intro (by assumption) N' _ (fun _ h => h) off (.inr ⟨_, .tail _ (.tail _ (.head _)), rfl, _, rfl⟩) ⟨rfl, ?_⟩
    rw [List.take_add_one, List.getElem?_map, List.getElem?_eq_getElem hi10]
    exact ints_snoc hpr _ _
  rintro ys4 news ⟨rfl, hpr4⟩
  rw [List.take_of_length_le (by simp; omega)] at hpr4
  ((try ((with_reducible show wpAny _ _ _ _ _ _); k_fold)); repeat' (first | ((fail_if_success (with_reducible show wpAny _ _ (pyIter _) _ _ _)); (fail_if_success (with_reducible show wpAny _ _ (exec (Stmt.For _ _ _ _ _) _) _ _ _)); (fail_if_success (with_reducible show wpAny _ _ (eval (PySem.Expr.ListComp _ _ _ _) _) _ _ _)); (fail_if_success (with_reducible show wpAny _ _ (exec (Stmt.Assign _ (PySem.Expr.ListComp _ _ _ _) _) _) _ _ _)); (fail_if_success (with_reducible show wpAny _ _ (eval (PySem.Expr.Lambda _ _ _ _) _) _ _ _)); (fail_if_success (with_reducible show LCt.CompSrcT _ _ _ _ _ _ _ _ _ _ _ _ _ _ _)); (fail_if_success (with_reducible show LCg.CompSrc _ _ _ _ _ _ _ _ _ _ _ _ _ _)); (fail_if_success (with_reducible show LCg.CompEnd _ _ _ _ _ _ _ _ _ _ _ _ _ _)); first | (k_unfold; (try dsimp only)) | (k_here; (with_reducible show wpAny _ _ (subscriptTail _ _ (Value.ref _) (Value.int _ _)) _ _ _); (refine' itemOwn ?k1 ?k2 ?k3 ?k4 (suf_at _ _ _) ?_ ?k6; (case k1 => k_asm); (case k2 => exact List.Mem.head _); (case k3 => omega); (case k4 => omega); (case k6 => with_unfolding_all rfl))) | (k_here; (with_reducible show wpAny _ _ (subscriptTail _ _ (Value.ref _) (Value.int _ _)) _ _ _); (refine' itemOwn ?k1 ?k2 ?k3 ?k4 ?k5 ?_ ?k6; (case k1 => k_asm); (case k2 => k_mem); (case k5 => assumption); (case k3 => omega); (case k4 => omega); (case k6 => with_unfolding_all rfl))) | (k_here; (with_reducible show wpAny _ _ (call (Value.builtin "len") [Value.ref _]) _ _ _); (refine' lenOwn ?k1 ?k2 ?k3 ?k4 ?_; (case k1 => k_asm); (case k2 => k_mem); (case k3 => assumption); (case k4 => omega))) | walk1 | (dsimp only; walk1))))
  rename_i Dk h21 _ F21 N21 o21
  have hc5 : ∀ c ∈ cols, c.length = 5 := by
    rw [← hcols]
    intro c hc
    obtain ⟨r, _, rfl⟩ := List.mem_map.mp hc
    rfl
  refine Assign_comp3 (h₀ := h0) (by k_asm) (by with_unfolding_all rfl) (by with_unfolding_all rfl) (by decide) (by rfl) (by decide) (by rfl) (by rfl) (by rfl) (by decide) (by decide) (by decide) (by rfl) (by rfl) ?_
  ((try ((with_reducible show wpAny _ _ _ _ _ _); k_fold)); repeat' (first | ((fail_if_success (with_reducible show wpAny _ _ (pyIter _) _ _ _)); (fail_if_success (with_reducible show wpAny _ _ (exec (Stmt.For _ _ _ _ _) _) _ _ _)); (fail_if_success (with_reducible show wpAny _ _ (eval (PySem.Expr.ListComp _ _ _ _) _) _ _ _)); (fail_if_success (with_reducible show wpAny _ _ (exec (Stmt.Assign _ (PySem.Expr.ListComp _ _ _ _) _) _) _ _ _)); (fail_if_success (with_reducible show wpAny _ _ (eval (PySem.Expr.Lambda _ _ _ _) _) _ _ _)); (fail_if_success (with_reducible show LCt.CompSrcT _ _ _ _ _ _ _ _ _ _ _ _ _ _ _)); (fail_if_success (with_reducible show LCg.CompSrc _ _ _ _ _ _ _ _ _ _ _ _ _ _)); (fail_if_success (with_reducible show LCg.CompEnd _ _ _ _ _ _ _ _ _ _ _ _ _ _)); first | (k_unfold; (try dsimp only)) | (k_here; (with_reducible show wpAny _ _ (subscriptTail _ _ (Value.ref _) (Value.int _ _)) _ _ _); (refine' itemOwn ?k1 ?k2 ?k3 ?k4 (suf_at _ _ _) ?_ ?k6; (case k1 => k_asm); (case k2 => exact List.Mem.head _); (case k3 => omega); (case k4 => omega); (case k6 => with_unfolding_all rfl))) | (k_here; (with_reducible show wpAny _ _ (subscriptTail _ _ (Value.ref _) (Value.int _ _)) _ _ _); (refine' itemOwn ?k1 ?k2 ?k3 ?k4 ?k5 ?_ ?k6; (case k1 => k_asm); (case k2 => k_mem); (case k5 => assumption); (case k3 => omega); (case k4 => omega); (case k6 => with_unfolding_all rfl))) | (k_here; (with_reducible show wpAny _ _ (call (Value.builtin "len") [Value.ref _]) _ _ _); (refine' lenOwn ?k1 ?k2 ?k3 ?k4 ?_; (case k1 => k_asm); (case k2 => k_mem); (case k3 => assumption); (case k4 => omega))) | walk1 | (dsimp only; walk1))))
  have N22 : News h0 L' h21 ((115, tabObj #[]) :: (Dk, LCg.lst ys4) :: (Do, listOf (List.toArray wo) 0) :: (Dc, LCg.lst ys2) :: (Dm, LCg.lst ys1) :: (L' + 1, o2') :: (L' + 1 + 1, oF) :: (132, tabObj #[]) :: (125, tabObj #[]) :: (cn ++ mkn)) := nwS N21 (by ((try dsimp only [List.cons_append, List.nil_append]); repeat' (first | with_reducible exact sb0 | exact sbN | refine sbC ?_ ?_ | refine sbA ?_ ?_ | with_reducible exact mHd | refine mTl ?_ | refine List.mem_append_right _ ?_ | refine sbT ?_ | with_reducible exact sbL sb0 | refine sbR ?_)))
  have f115 : ∀ q ∈ (Dk, LCg.lst ys4) :: (Do, listOf (List.toArray wo) 0) :: (Dc, LCg.lst ys2) :: (Dm, LCg.lst ys1) :: (L' + 1, o2') :: (L' + 1 + 1, oF) :: (132, tabObj #[]) :: (125, tabObj #[]) :: (cn ++ mkn), @Ne Nat q.1 115 := by
    refine alC ?_ (alC ?_ (alC ?_ (alC ?_ (alC ?_ (alC ?_ (alC ?_ (alC ?_ (alA ?_ ?_))))))))
    · exact Ne.symm o21.2.2.2.2.2.2.2.2.1
    · exact Nat.ne_of_gt l18.2.2.2.2.2.2.2.2.2.1
    · exact Ne.symm o15.2.2.2.2.2.2.1
    · exact Ne.symm om5
    · dsimp only; omega
    · dsimp only; omega
    · dsimp only; omega
    · dsimp only; omega
    · exact fun q h => (hfarC q h).2.2.2.1
    · exact fun q h => (hfarM q h).2.2.2.1
  refine useB (P := 115) F21 N22 f115 (heights (cols := cols) (G.keeps (hide_stay (N22 _ (.head _)).2.2 F21.keep)) (C3.keeps F21.keep) (N22 _ (.head _)).1 (LLAt.of N22 (List.mem_of_getElem? (i := 3) rfl) (fun q hq => .tail _ (.tail _ (.tail _ (.tail _ (.tail _ (.tail _ (.tail _ (.tail _ (.tail _ (List.mem_append_left _ hq)))))))))) hprC) hc5 (by omega) (by ((refine ⟨rfl, ?_, ?_⟩ <;> first | exact rm1 (by assumption) (by decide) | exact rm0 (by assumption) (by decide) | exact rm2 (by assumption) (by decide) | ((try simp only [Around.deeper, Around.in1]); omega))))) ?_
  intro v23 h23 tk23 nw23 F23 N23 ap23 zz9
  refine anE2 zz9 ?_
  clear zz9
  rintro ⟨pt115, hg115⟩ zz9
  refine exE1 zz9 ?_
  clear zz9
  intro od9 zz9
  refine anE3 zz9 ?_
  clear zz9
  intro zz9 hperm hsort
  refine exE3 zz9 ?_
  clear zz9
  intro Dh vh ch zz9
  refine anE3 zz9 ?_
  clear zz9
  rintro rfl rfl hhs
  simp only [List.cons_append, List.nil_append] at N23
  have swp : ∃ mkn' : List (Addr × Obj), (115, tabObj pt115) ∈ mkn' ∧ (∀ q ∈ mkn', True ∧ @Ne Nat q.1 132 ∧ @Ne Nat q.1 125 ∧ True) ∧ Paired (MkIn w mkn') ys1 (marksOf rws) ∧
      News h0 L' h23 ((Dh, listOf vh ch) :: (Dk, LCg.lst ys4) :: (Do, listOf (List.toArray wo) 0) :: (Dc, LCg.lst ys2) :: (Dm, LCg.lst ys1) :: (L' + 1, o2') :: (L' + 1 + 1, oF) :: (132, tabObj #[]) :: (125, tabObj #[]) :: (cn ++ mkn')) := by
    refine ⟨(115, tabObj pt115) :: mkn, .head _, fun q hq => ?_, Paired.mono (fun a b h => h.mono fun q hq => .tail _ hq) hprM, ?_⟩
    · revert q
      exact alC ⟨trivial, by dsimp only; omega, by dsimp only; omega, trivial⟩ (fun q hq => ⟨trivial, (hfarM q hq).2.1, (hfarM q hq).2.2.1, trivial⟩)
    · exact alC (N23 _ (by ((try dsimp only [List.cons_append, List.nil_append]); repeat' (first | with_reducible exact sb0 | exact sbN | refine sbC ?_ ?_ | refine sbA ?_ ?_ | with_reducible exact mHd | refine mTl ?_ | refine List.mem_append_right _ ?_ | refine sbT ?_ | with_reducible exact sbL sb0 | refine sbR ?_)))) (alC (N23 _ (by ((try dsimp only [List.cons_append, List.nil_append]); repeat' (first | with_reducible exact sb0 | exact sbN | refine sbC ?_ ?_ | refine sbA ?_ ?_ | with_reducible exact mHd | refine mTl ?_ | refine List.mem_append_right _ ?_ | refine sbT ?_ | with_reducible exact sbL sb0 | refine sbR ?_)))) (alC (N23 _ (by ((try dsimp only [List.cons_append, List.nil_append]); repeat' (first | with_reducible exact sb0 | exact sbN | refine sbC ?_ ?_ | refine sbA ?_ ?_ | with_reducible exact mHd | refine mTl ?_ | refine List.mem_append_right _ ?_ | refine sbT ?_ | with_reducible exact sbL sb0 | refine sbR ?_)))) (alC (N23 _ (by ((try dsimp only [List.cons_append, List.nil_append]); repeat' (first | with_reducible exact sb0 | exact sbN | refine sbC ?_ ?_ | refine sbA ?_ ?_ | with_reducible exact mHd | refine mTl ?_ | refine List.mem_append_right _ ?_ | refine sbT ?_ | with_reducible exact sbL sb0 | refine sbR ?_)))) (alC (N23 _ (by ((try dsimp only [List.cons_append, List.nil_append]); repeat' (first | with_reducible exact sb0 | exact sbN | refine sbC ?_ ?_ | refine sbA ?_ ?_ | with_reducible exact mHd | refine mTl ?_ | refine List.mem_append_right _ ?_ | refine sbT ?_ | with_reducible exact sbL sb0 | refine sbR ?_)))) (alC (N23 _ (by ((try dsimp only [List.cons_append, List.nil_append]); repeat' (first | with_reducible exact sb0 | exact sbN | refine sbC ?_ ?_ | refine sbA ?_ ?_ | with_reducible exact mHd | refine mTl ?_ | refine List.mem_append_right _ ?_ | refine sbT ?_ | with_reducible exact sbL sb0 | refine sbR ?_)))) (alC (N23 _ (by ((try dsimp only [List.cons_append, List.nil_append]); repeat' (first | with_reducible exact sb0 | exact sbN | refine sbC ?_ ?_ | refine sbA ?_ ?_ | with_reducible exact mHd | refine mTl ?_ | refine List.mem_append_right _ ?_ | refine sbT ?_ | with_reducible exact sbL sb0 | refine sbR ?_)))) (alC (N23 _ (by ((try dsimp only [List.cons_append, List.nil_append]); repeat' (first | with_reducible exact sb0 | exact sbN | refine sbC ?_ ?_ | refine sbA ?_ ?_ | with_reducible exact mHd | refine mTl ?_ | refine List.mem_append_right _ ?_ | refine sbT ?_ | with_reducible exact sbL sb0 | refine sbR ?_)))) (alC (N23 _ (by ((try dsimp only [List.cons_append, List.nil_append]); repeat' (first | with_reducible exact sb0 | exact sbN | refine sbC ?_ ?_ | refine sbA ?_ ?_ | with_reducible exact mHd | refine mTl ?_ | refine List.mem_append_right _ ?_ | refine sbT ?_ | with_reducible exact sbL sb0 | refine sbR ?_)))) (alA (nwS N23 (by ((try dsimp only [List.cons_append, List.nil_append]); repeat' (first | with_reducible exact sb0 | exact sbN | refine sbC ?_ ?_ | refine sbA ?_ ?_ | with_reducible exact mHd | refine mTl ?_ | refine List.mem_append_right _ ?_ | refine sbT ?_ | with_reducible exact sbL sb0 | refine sbR ?_)))) (alC ⟨hg115, (N22 _ (.head _)).2⟩ (nwS N23 (by ((try dsimp only [List.cons_append, List.nil_append]); repeat' (first | with_reducible exact sb0 | exact sbN | refine sbC ?_ ?_ | refine sbA ?_ ?_ | with_reducible exact mHd | refine mTl ?_ | refine List.mem_append_right _ ?_ | refine sbT ?_ | with_reducible exact sbL sb0 | refine sbR ?_))))))))))))))
  clear N23 hfarM hprM
  refine exE1 swp ?_
  clear swp
  intro mkn zz9
  refine anE4 zz9 ?_
  clear zz9
  rintro m115 hfarM hprM N23
  have hhl : (hOuter cols od9).length = cols.length := hOuter_len cols od9
  have hhb : ∀ r ∈ hOuter cols od9, 0 ≤ r ∧ r < 1000 := fun r hr => by
    have h1 := hOuter_bound (cols := cols) od9 (hs := List.replicate cols.length 0) (B := 0) (Int.le_refl _) (fun x hx => by rw [List.eq_of_mem_replicate hx]; omega) r hr
    have h2 : od9.length = cols.length := by rw [hperm.length_eq, rangeKs_length]
    rw [h2] at h1
    have h3 : (cols.length : Int) * (cols.length : Int) ≤ 8 * 8 := Int.mul_le_mul (by omega) (by omega) (by omega) (by omega)
    omega
  ((try ((with_reducible show wpAny _ _ _ _ _ _); k_fold)); repeat' (first | ((fail_if_success (with_reducible show wpAny _ _ (pyIter _) _ _ _)); (fail_if_success (with_reducible show wpAny _ _ (exec (Stmt.For _ _ _ _ _) _) _ _ _)); (fail_if_success (with_reducible show wpAny _ _ (eval (PySem.Expr.ListComp _ _ _ _) _) _ _ _)); (fail_if_success (with_reducible show wpAny _ _ (exec (Stmt.Assign _ (PySem.Expr.ListComp _ _ _ _) _) _) _ _ _)); (fail_if_success (with_reducible show wpAny _ _ (eval (PySem.Expr.Lambda _ _ _ _) _) _ _ _)); (fail_if_success (with_reducible show LCt.CompSrcT _ _ _ _ _ _ _ _ _ _ _ _ _ _ _)); (fail_if_success (with_reducible show LCg.CompSrc _ _ _ _ _ _ _ _ _ _ _ _ _ _)); (fail_if_success (with_reducible show LCg.CompEnd _ _ _ _ _ _ _ _ _ _ _ _ _ _)); first | (k_unfold; (try dsimp only)) | (k_here; (with_reducible show wpAny _ _ (subscriptTail _ _ (Value.ref _) (Value.int _ _)) _ _ _); (refine' itemOwn ?k1 ?k2 ?k3 ?k4 (suf_at _ _ _) ?_ ?k6; (case k1 => k_asm); (case k2 => exact List.Mem.head _); (case k3 => omega); (case k4 => omega); (case k6 => with_unfolding_all rfl))) | (k_here; (with_reducible show wpAny _ _ (subscriptTail _ _ (Value.ref _) (Value.int _ _)) _ _ _); (refine' itemOwn ?k1 ?k2 ?k3 ?k4 ?k5 ?_ ?k6; (case k1 => k_asm); (case k2 => k_mem); (case k5 => assumption); (case k3 => omega); (case k4 => omega); (case k6 => with_unfolding_all rfl))) | (k_here; (with_reducible show wpAny _ _ (call (Value.builtin "len") [Value.ref _]) _ _ _); (refine' lenOwn ?k1 ?k2 ?k3 ?k4 ?_; (case k1 => k_asm); (case k2 => k_mem); (case k3 => assumption); (case k4 => omega))) | walk1 | (dsimp only; walk1))))
  refine useE (by k_asm) (by k_asm) (parts (vo := wo) (vr := vh.toList) (os := ord) (rs := hOuter cols od9) (G.keeps (Fr.keep (by k_asm))) ⟨_, (N23 _ (List.mem_of_getElem? (i := 2) rfl)).1, rfl, _, rfl⟩ hIo (by rw [Array.toArray_toList]; exact ⟨_, (N23 _ (.head _)).1, rfl, _, rfl⟩) hhs (fun k hk => by have := hom k hk; omega) (by omega) (by omega) (fun e => by rw [e] at hhl; simp at hhl; omega) hhb (by ((refine ⟨rfl, ?_, ?_⟩ <;> first | exact rm1 (by assumption) (by decide) | exact rm0 (by assumption) (by decide) | exact rm2 (by assumption) (by decide) | ((try simp only [Around.deeper, Around.in1]); omega))))) ?_
  intro v24 h24 tk24 nw24 F24 N24 ap24 zz9
  refine exE1 zz9 ?_
  clear zz9
  intro M1 zz9
  refine anE3 zz9 ?_
  clear zz9
  rintro hM1 hMx1 zz9
  refine exE3 zz9 ?_
  clear zz9
  intro Dp vp cp zz9
  refine anE3 zz9 ?_
  clear zz9
  rintro rfl hmp hpp
  have hM1b := hhb M1 hM1
  have hpl : vp.size = (M1 + 1).toNat := by rw [← Array.length_toList, Paired.length hpp]; unfold partsTo; simp
  ((try ((with_reducible show wpAny _ _ _ _ _ _); k_fold)); repeat' (first | ((fail_if_success (with_reducible show wpAny _ _ (pyIter _) _ _ _)); (fail_if_success (with_reducible show wpAny _ _ (exec (Stmt.For _ _ _ _ _) _) _ _ _)); (fail_if_success (with_reducible show wpAny _ _ (eval (PySem.Expr.ListComp _ _ _ _) _) _ _ _)); (fail_if_success (with_reducible show wpAny _ _ (exec (Stmt.Assign _ (PySem.Expr.ListComp _ _ _ _) _) _) _ _ _)); (fail_if_success (with_reducible show wpAny _ _ (eval (PySem.Expr.Lambda _ _ _ _) _) _ _ _)); (fail_if_success (with_reducible show LCt.CompSrcT _ _ _ _ _ _ _ _ _ _ _ _ _ _ _)); (fail_if_success (with_reducible show LCg.CompSrc _ _ _ _ _ _ _ _ _ _ _ _ _ _)); (fail_if_success (with_reducible show LCg.CompEnd _ _ _ _ _ _ _ _ _ _ _ _ _ _)); first | (k_unfold; (try dsimp only)) | (k_here; (with_reducible show wpAny _ _ (subscriptTail _ _ (Value.ref _) (Value.int _ _)) _ _ _); (refine' itemOwn ?k1 ?k2 ?k3 ?k4 (suf_at _ _ _) ?_ ?k6; (case k1 => k_asm); (case k2 => exact List.Mem.head _); (case k3 => omega); (case k4 => omega); (case k6 => with_unfolding_all rfl))) | (k_here; (with_reducible show wpAny _ _ (subscriptTail _ _ (Value.ref _) (Value.int _ _)) _ _ _); (refine' itemOwn ?k1 ?k2 ?k3 ?k4 ?k5 ?_ ?k6; (case k1 => k_asm); (case k2 => k_mem); (case k5 => assumption); (case k3 => omega); (case k4 => omega); (case k6 => with_unfolding_all rfl))) | (k_here; (with_reducible show wpAny _ _ (call (Value.builtin "len") [Value.ref _]) _ _ _); (refine' lenOwn ?k1 ?k2 ?k3 ?k4 ?_; (case k1 => k_asm); (case k2 => k_mem); (case k3 => assumption); (case k4 => omega))) | walk1 | (dsimp only; walk1))))
  refine ⟨Dp, vp, cp, _, (fun i ys nx => ∃ tn, nx = tn ++ (nw24 ++ ((Dh, listOf vh ch) :: (Dk, LCg.lst ys4) :: (Do, listOf (List.toArray wo) 0) :: (Dc, LCg.lst ys2) :: (Dm, LCg.lst ys1) :: (L' + 1, o2') :: (L' + 1 + 1, oF) :: (132, tabObj #[]) :: (125, tabObj #[]) :: (cn ++ mkn))) ∧ (∀ q ∈ tn, @Ne Nat q.1 132 ∧ @Ne Nat q.1 125) ∧ Paired (T3 (tn ++ nw24)) ys (((partsTo ord (hOuter cols od9) (M1 + 1).toNat).map fun q => (q.1, q.2.2, q.2.1)).take i)), rfl, rfl, F24, N24, by rw [sizeLine_eq]; omega, ⟨[], rfl, (fun _ h => nomatch h), .nil⟩, ?_, ?_, ?_⟩
  · intro i ys nx zz9
    refine exE1 zz9 ?_
    clear zz9
    intro tn zz8
    refine anE2 zz8 ?_
    clear zz8
    rintro rfl _
    exact List.mem_append_right _ (List.mem_append_left _ hmp)
  · intro i v ys nx hv zz9
    refine exE1 zz9 ?_
    clear zz9
    intro tn zz8
    refine anE3 zz8 ?_
    clear zz8
    rintro rfl htn hpr
    have hi24 : i < (partsTo ord (hOuter cols od9) (M1 + 1).toNat).length := by
      rw [← Paired.length hpp, Array.length_toList]
      exact (Array.getElem?_eq_some_iff.mp hv).1
    refine exE1 (Paired.get hpp (List.getElem?_eq_getElem hi24)) ?_
    intro v' zz9
    refine anE2 zz9 ?_
    clear zz9
    rintro hv' zz9
    refine exE11 zz9 ?_
    clear zz9
    intro t a b c e va vb vc ea eb ec zz9
    refine anE8 zz9 ?_
    clear zz9
    rintro rfl m1 m2 i1 m3 i2 m4 i3
    rw [Array.getElem?_toList, hv] at hv'
    obtain rfl := Option.some.inj hv'
    refine ⟨t, .ref a, .ref b, .ref c, e, rfl, List.mem_append_right _ (List.mem_append_left _ m1), ?_⟩
    intro s' I oI C oC D m₂ h tk E' zz9 hC hx1 hx2 hx3 F' N' off ne
    (try ((with_reducible show wpAny _ _ _ _ _ _); k_fold))
    refine exE1 zz9 ?_
    clear zz9
    rintro g' rfl
    ((try ((with_reducible show wpAny _ _ _ _ _ _); k_fold)); repeat' (first | ((fail_if_success (with_reducible show wpAny _ _ (pyIter _) _ _ _)); (fail_if_success (with_reducible show wpAny _ _ (exec (Stmt.For _ _ _ _ _) _) _ _ _)); (fail_if_success (with_reducible show wpAny _ _ (eval (PySem.Expr.ListComp _ _ _ _) _) _ _ _)); (fail_if_success (with_reducible show wpAny _ _ (exec (Stmt.Assign _ (PySem.Expr.ListComp _ _ _ _) _) _) _ _ _)); (fail_if_success (with_reducible show wpAny _ _ (eval (PySem.Expr.Lambda _ _ _ _) _) _ _ _)); (fail_if_success (with_reducible show LCt.CompSrcT _ _ _ _ _ _ _ _ _ _ _ _ _ _ _)); (fail_if_success (with_reducible show LCg.CompSrc _ _ _ _ _ _ _ _ _ _ _ _ _ _)); (fail_if_success (with_reducible show LCg.CompEnd _ _ _ _ _ _ _ _ _ _ _ _ _ _)); first | (k_unfold; (try dsimp only)) | (k_here; (with_reducible show wpAny _ _ (subscriptTail _ _ (Value.ref _) (Value.int _ _)) _ _ _); (refine' itemOwn ?k1 ?k2 ?k3 ?k4 (suf_at _ _ _) ?_ ?k6; (case k1 => k_asm); (case k2 => exact List.Mem.head _); (case k3 => omega); (case k4 => omega); (case k6 => with_unfolding_all rfl))) | (k_here; (with_reducible show wpAny _ _ (subscriptTail _ _ (Value.ref _) (Value.int _ _)) _ _ _); (refine' itemOwn ?k1 ?k2 ?k3 ?k4 ?k5 ?_ ?k6; (case k1 => k_asm); (case k2 => k_mem); (case k5 => assumption); (case k3 => omega); (case k4 => omega); (case k6 => with_unfolding_all rfl))) | (k_here; (with_reducible show wpAny _ _ (call (Value.builtin "len") [Value.ref _]) _ _ _); (refine' lenOwn ?k1 ?k2 ?k3 ?k4 ?_; (case k1 => k_asm); (case k2 => k_mem); (case k3 => assumption); (case k4 => omega))) | walk1 | (dsimp only; walk1))))
    rename_i T2 _ lT2 T1 _ F30 N30 lT1
    have k2 := allLt_mem lT2.2.2.2
    have k1 := allLt_mem lT1.2.2.2.2
    refine LCg.CompEnd.intro F30 N30 ((T1, tupOf [.ref a, .ref T2] 0) :: (T2, tupOf [.ref c, .ref b] 0) :: (tn ++ (nw24 ++ ((Dh, listOf vh ch) :: (Dk, LCg.lst ys4) :: (Do, listOf (List.toArray wo) 0) :: (Dc, LCg.lst ys2) :: (Dm, LCg.lst ys1) :: (L' + 1, o2') :: (L' + 1 + 1, oF) :: (132, tabObj #[]) :: (125, tabObj #[]) :: (cn ++ mkn))))) ?_ ?_ trivial ⟨(T1, tupOf [.ref a, .ref T2] 0) :: (T2, tupOf [.ref c, .ref b] 0) :: tn, rfl, ?_, ?_⟩
    · exact sbC (.tail _ (.tail _ (.head _))) (sbC (.tail _ (.tail _ (.tail _ (.head _)))) (sbC (.tail _ (.tail _ (.tail _ (.tail _ (.head _))))) (sbC (.head _) (sbC (.tail _ (.head _)) (sbT (sbT (sbT (sbT (sbT sb0)))))))))
    · exact LCg.Off3.of (alC ⟨Nat.ne_of_gt lT1.2.1, Nat.ne_of_gt lT1.2.2.1, Nat.ne_of_gt lT1.2.2.2.1⟩ (alC ⟨Nat.ne_of_gt lT2.1, Nat.ne_of_gt lT2.2.1, Nat.ne_of_gt lT2.2.2.1⟩ off.mem))
    · exact alC ⟨Nat.ne_of_gt (k1 _ (List.mem_append_right _ (List.mem_append_right _ (List.mem_of_getElem? (i := 7) rfl)))), Nat.ne_of_gt (k1 _ (List.mem_append_right _ (List.mem_append_right _ (List.mem_of_getElem? (i := 8) rfl))))⟩ (alC ⟨Nat.ne_of_gt (k2 _ (List.mem_append_right _ (List.mem_append_right _ (List.mem_of_getElem? (i := 7) rfl)))), Nat.ne_of_gt (k2 _ (List.mem_append_right _ (List.mem_append_right _ (List.mem_of_getElem? (i := 8) rfl))))⟩ htn)
    · rw [List.take_add_one, List.getElem?_map, List.getElem?_eq_getElem hi24]
      refine Paired.snoc (Paired.mono (fun a b h => h.mono fun q hq => .tail _ (.tail _ hq)) hpr) ?_
      exact T3.of (.head _) (.tail _ (.tail _ (List.mem_append_right _ m2))) i1 (.tail _ (.head _)) (.tail _ (.tail _ (List.mem_append_right _ m4))) i3 (.tail _ (.tail _ (List.mem_append_right _ m3))) i2
  intro s' ysL nx zz9a zz9
  refine exE1 zz9a ?_
  clear zz9a
  rintro g' rfl
  refine exE1 zz9 ?_
  clear zz9
  intro tn zz8
  refine anE3 zz8 ?_
  clear zz8
  rintro rfl htnL hprL
  rw [List.take_of_length_le (by rw [List.length_map, ← Paired.length hpp, Array.length_toList]; exact Nat.le_refl _)] at hprL
  ((try ((with_reducible show wpAny _ _ _ _ _ _); k_fold)); repeat' (first | ((fail_if_success (with_reducible show wpAny _ _ (pyIter _) _ _ _)); (fail_if_success (with_reducible show wpAny _ _ (exec (Stmt.For _ _ _ _ _) _) _ _ _)); (fail_if_success (with_reducible show wpAny _ _ (eval (PySem.Expr.ListComp _ _ _ _) _) _ _ _)); (fail_if_success (with_reducible show wpAny _ _ (exec (Stmt.Assign _ (PySem.Expr.ListComp _ _ _ _) _) _) _ _ _)); (fail_if_success (with_reducible show wpAny _ _ (eval (PySem.Expr.Lambda _ _ _ _) _) _ _ _)); (fail_if_success (with_reducible show LCt.CompSrcT _ _ _ _ _ _ _ _ _ _ _ _ _ _ _)); (fail_if_success (with_reducible show LCg.CompSrc _ _ _ _ _ _ _ _ _ _ _ _ _ _)); (fail_if_success (with_reducible show LCg.CompEnd _ _ _ _ _ _ _ _ _ _ _ _ _ _)); first | (k_unfold; (try dsimp only)) | (k_here; (with_reducible show wpAny _ _ (subscriptTail _ _ (Value.ref _) (Value.int _ _)) _ _ _); (refine' itemOwn ?k1 ?k2 ?k3 ?k4 (suf_at _ _ _) ?_ ?k6; (case k1 => k_asm); (case k2 => exact List.Mem.head _); (case k3 => omega); (case k4 => omega); (case k6 => with_unfolding_all rfl))) | (k_here; (with_reducible show wpAny _ _ (subscriptTail _ _ (Value.ref _) (Value.int _ _)) _ _ _); (refine' itemOwn ?k1 ?k2 ?k3 ?k4 ?k5 ?_ ?k6; (case k1 => k_asm); (case k2 => k_mem); (case k5 => assumption); (case k3 => omega); (case k4 => omega); (case k6 => with_unfolding_all rfl))) | (k_here; (with_reducible show wpAny _ _ (call (Value.builtin "len") [Value.ref _]) _ _ _); (refine' lenOwn ?k1 ?k2 ?k3 ?k4 ?_; (case k1 => k_asm); (case k2 => k_mem); (case k3 => assumption); (case k4 => omega))) | walk1 | (dsimp only; walk1))))
  rename_i Dl h31 _ F31 N31 o31
  have hrl2 : (cols.map fun c => ((FL.idxOf c : Nat) : Int)).length = cols.length := List.length_map _
  have hrb2 : ∀ r ∈ cols.map fun c => ((FL.idxOf c : Nat) : Int), 0 ≤ r ∧ r < 1000 := fun r hr => by
    obtain ⟨c, _, rfl⟩ := List.mem_map.mp hr
    have := List.idxOf_le_length (l := FL) (a := c)
    omega
  refine Assign_comp3 (h₀ := h0) (by k_asm) (by with_unfolding_all rfl) (by with_unfolding_all rfl) (by decide) (by rfl) (by decide) (by rfl) (by rfl) (by rfl) (by decide) (by decide) (by decide) (by rfl) (by rfl) ?_
  ((try ((with_reducible show wpAny _ _ _ _ _ _); k_fold)); repeat' (first | ((fail_if_success (with_reducible show wpAny _ _ (pyIter _) _ _ _)); (fail_if_success (with_reducible show wpAny _ _ (exec (Stmt.For _ _ _ _ _) _) _ _ _)); (fail_if_success (with_reducible show wpAny _ _ (eval (PySem.Expr.ListComp _ _ _ _) _) _ _ _)); (fail_if_success (with_reducible show wpAny _ _ (exec (Stmt.Assign _ (PySem.Expr.ListComp _ _ _ _) _) _) _ _ _)); (fail_if_success (with_reducible show wpAny _ _ (eval (PySem.Expr.Lambda _ _ _ _) _) _ _ _)); (fail_if_success (with_reducible show LCt.CompSrcT _ _ _ _ _ _ _ _ _ _ _ _ _ _ _)); (fail_if_success (with_reducible show LCg.CompSrc _ _ _ _ _ _ _ _ _ _ _ _ _ _)); (fail_if_success (with_reducible show LCg.CompEnd _ _ _ _ _ _ _ _ _ _ _ _ _ _)); first | (k_unfold; (try dsimp only)) | (k_here; (with_reducible show wpAny _ _ (subscriptTail _ _ (Value.ref _) (Value.int _ _)) _ _ _); (refine' itemOwn ?k1 ?k2 ?k3 ?k4 (suf_at _ _ _) ?_ ?k6; (case k1 => k_asm); (case k2 => exact List.Mem.head _); (case k3 => omega); (case k4 => omega); (case k6 => with_unfolding_all rfl))) | (k_here; (with_reducible show wpAny _ _ (subscriptTail _ _ (Value.ref _) (Value.int _ _)) _ _ _); (refine' itemOwn ?k1 ?k2 ?k3 ?k4 ?k5 ?_ ?k6; (case k1 => k_asm); (case k2 => k_mem); (case k5 => assumption); (case k3 => omega); (case k4 => omega); (case k6 => with_unfolding_all rfl))) | (k_here; (with_reducible show wpAny _ _ (call (Value.builtin "len") [Value.ref _]) _ _ _); (refine' lenOwn ?k1 ?k2 ?k3 ?k4 ?_; (case k1 => k_asm); (case k2 => k_mem); (case k3 => assumption); (case k4 => omega))) | walk1 | (dsimp only; walk1))))
  refine useE (by k_asm) (by k_asm) (parts (vo := wo) (vr := ys4) (os := ord) (rs := cols.map fun c => ((FL.idxOf c : Nat) : Int)) (G.keeps (Fr.keep (by k_asm))) ⟨_, (N31 _ (.tail _ (List.mem_append_right _ (List.mem_append_right _ (List.mem_of_getElem? (i := 2) rfl))))).1, rfl, _, rfl⟩ hIo ⟨_, (N31 _ (.tail _ (List.mem_append_right _ (List.mem_append_right _ (List.mem_of_getElem? (i := 1) rfl))))).1, rfl, _, rfl⟩ hpr4 (fun k hk => by have := hom k hk; omega) (by omega) (by omega) (fun e => by rw [e] at hrl2; simp at hrl2; omega) hrb2 (by ((refine ⟨rfl, ?_, ?_⟩ <;> first | exact rm1 (by assumption) (by decide) | exact rm0 (by assumption) (by decide) | exact rm2 (by assumption) (by decide) | ((try simp only [Around.deeper, Around.in1]); omega))))) ?_
  intro v33 h33 tk33 nw33 F33 N33 ap33 zz9
  refine exE1 zz9 ?_
  clear zz9
  intro M2 zz9
  refine anE3 zz9 ?_
  clear zz9
  rintro hM2 hMx2 zz9
  refine exE3 zz9 ?_
  clear zz9
  intro Dp2 vp2 cp2 zz9
  refine anE3 zz9 ?_
  clear zz9
  rintro rfl hmp2 hpp2
  have hM2b := hrb2 M2 hM2
  have hpl2 : vp2.size = (M2 + 1).toNat := by rw [← Array.length_toList, Paired.length hpp2]; unfold partsTo; simp
  ((try ((with_reducible show wpAny _ _ _ _ _ _); k_fold)); repeat' (first | ((fail_if_success (with_reducible show wpAny _ _ (pyIter _) _ _ _)); (fail_if_success (with_reducible show wpAny _ _ (exec (Stmt.For _ _ _ _ _) _) _ _ _)); (fail_if_success (with_reducible show wpAny _ _ (eval (PySem.Expr.ListComp _ _ _ _) _) _ _ _)); (fail_if_success (with_reducible show wpAny _ _ (exec (Stmt.Assign _ (PySem.Expr.ListComp _ _ _ _) _) _) _ _ _)); (fail_if_success (with_reducible show wpAny _ _ (eval (PySem.Expr.Lambda _ _ _ _) _) _ _ _)); (fail_if_success (with_reducible show LCt.CompSrcT _ _ _ _ _ _ _ _ _ _ _ _ _ _ _)); (fail_if_success (with_reducible show LCg.CompSrc _ _ _ _ _ _ _ _ _ _ _ _ _ _)); (fail_if_success (with_reducible show LCg.CompEnd _ _ _ _ _ _ _ _ _ _ _ _ _ _)); first | (k_unfold; (try dsimp only)) | (k_here; (with_reducible show wpAny _ _ (subscriptTail _ _ (Value.ref _) (Value.int _ _)) _ _ _); (refine' itemOwn ?k1 ?k2 ?k3 ?k4 (suf_at _ _ _) ?_ ?k6; (case k1 => k_asm); (case k2 => exact List.Mem.head _); (case k3 => omega); (case k4 => omega); (case k6 => with_unfolding_all rfl))) | (k_here; (with_reducible show wpAny _ _ (subscriptTail _ _ (Value.ref _) (Value.int _ _)) _ _ _); (refine' itemOwn ?k1 ?k2 ?k3 ?k4 ?k5 ?_ ?k6; (case k1 => k_asm); (case k2 => k_mem); (case k5 => assumption); (case k3 => omega); (case k4 => omega); (case k6 => with_unfolding_all rfl))) | (k_here; (with_reducible show wpAny _ _ (call (Value.builtin "len") [Value.ref _]) _ _ _); (refine' lenOwn ?k1 ?k2 ?k3 ?k4 ?_; (case k1 => k_asm); (case k2 => k_mem); (case k3 => assumption); (case k4 => omega))) | walk1 | (dsimp only; walk1))))
  refine ⟨Dp2, vp2, cp2, _, (fun i ys nx => ∃ tn2, nx = tn2 ++ (nw33 ++ ((Dl, LCg.lst ysL) :: (tn ++ (nw24 ++ ((Dh, listOf vh ch) :: (Dk, LCg.lst ys4) :: (Do, listOf (List.toArray wo) 0) :: (Dc, LCg.lst ys2) :: (Dm, LCg.lst ys1) :: (L' + 1, o2') :: (L' + 1 + 1, oF) :: (132, tabObj #[]) :: (125, tabObj #[]) :: (cn ++ mkn)))))) ∧ (∀ q ∈ tn2, @Ne Nat q.1 132 ∧ @Ne Nat q.1 125) ∧ Paired (T3 (tn2 ++ nw33)) ys ((partsTo ord (cols.map fun c => ((FL.idxOf c : Nat) : Int)) (M2 + 1).toNat).take i)), rfl, rfl, F33, N33, by rw [sizeLine_eq]; omega, ⟨[], rfl, (fun _ h => nomatch h), .nil⟩, ?_, ?_, ?_⟩
  · intro i ys nx zz9
    refine exE1 zz9 ?_
    clear zz9
    intro tn2 zz8
    refine anE2 zz8 ?_
    clear zz8
    rintro rfl _
    exact List.mem_append_right _ (List.mem_append_left _ hmp2)
  · intro i v ys nx hv zz9
    refine exE1 zz9 ?_
    clear zz9
    intro tn2 zz8
    refine anE3 zz8 ?_
    clear zz8
    rintro rfl htn hpr
    have hi24 : i < (partsTo ord (cols.map fun c => ((FL.idxOf c : Nat) : Int)) (M2 + 1).toNat).length := by
      rw [← Paired.length hpp2, Array.length_toList]
      exact (Array.getElem?_eq_some_iff.mp hv).1
    refine exE1 (Paired.get hpp2 (List.getElem?_eq_getElem hi24)) ?_
    intro v' zz9
    refine anE2 zz9 ?_
    clear zz9
    rintro hv' zz9
    refine exE11 zz9 ?_
    clear zz9
    intro t a b c e va vb vc ea eb ec zz9
    refine anE8 zz9 ?_
    clear zz9
    rintro rfl m1 m2 i1 m3 i2 m4 i3
    rw [Array.getElem?_toList, hv] at hv'
    obtain rfl := Option.some.inj hv'
    refine ⟨t, .ref a, .ref b, .ref c, e, rfl, List.mem_append_right _ (List.mem_append_left _ m1), ?_⟩
    intro s' I oI C oC D m₂ h tk E' zz9 hC hx1 hx2 hx3 F' N' off ne
    (try ((with_reducible show wpAny _ _ _ _ _ _); k_fold))
    refine exE1 zz9 ?_
    clear zz9
    rintro g' rfl
    ((try ((with_reducible show wpAny _ _ _ _ _ _); k_fold)); repeat' (first | ((fail_if_success (with_reducible show wpAny _ _ (pyIter _) _ _ _)); (fail_if_success (with_reducible show wpAny _ _ (exec (Stmt.For _ _ _ _ _) _) _ _ _)); (fail_if_success (with_reducible show wpAny _ _ (eval (PySem.Expr.ListComp _ _ _ _) _) _ _ _)); (fail_if_success (with_reducible show wpAny _ _ (exec (Stmt.Assign _ (PySem.Expr.ListComp _ _ _ _) _) _) _ _ _)); (fail_if_success (with_reducible show wpAny _ _ (eval (PySem.Expr.Lambda _ _ _ _) _) _ _ _)); (fail_if_success (with_reducible show LCt.CompSrcT _ _ _ _ _ _ _ _ _ _ _ _ _ _ _)); (fail_if_success (with_reducible show LCg.CompSrc _ _ _ _ _ _ _ _ _ _ _ _ _ _)); (fail_if_success (with_reducible show LCg.CompEnd _ _ _ _ _ _ _ _ _ _ _ _ _ _)); first | (k_unfold; (try dsimp only)) | (k_here; (with_reducible show wpAny _ _ (subscriptTail _ _ (Value.ref _) (Value.int _ _)) _ _ _); (refine' itemOwn ?k1 ?k2 ?k3 ?k4 (suf_at _ _ _) ?_ ?k6; (case k1 => k_asm); (case k2 => exact List.Mem.head _); (case k3 => omega); (case k4 => omega); (case k6 => with_unfolding_all rfl))) | (k_here; (with_reducible show wpAny _ _ (subscriptTail _ _ (Value.ref _) (Value.int _ _)) _ _ _); (refine' itemOwn ?k1 ?k2 ?k3 ?k4 ?k5 ?_ ?k6; (case k1 => k_asm); (case k2 => k_mem); (case k5 => assumption); (case k3 => omega); (case k4 => omega); (case k6 => with_unfolding_all rfl))) | (k_here; (with_reducible show wpAny _ _ (call (Value.builtin "len") [Value.ref _]) _ _ _); (refine' lenOwn ?k1 ?k2 ?k3 ?k4 ?_; (case k1 => k_asm); (case k2 => k_mem); (case k3 => assumption); (case k4 => omega))) | walk1 | (dsimp only; walk1))))
    rename_i T2 _ lT2 T1 _ F30 N30 lT1
    have k2 := allLt_mem lT2.2.2.2
    have k1 := allLt_mem lT1.2.2.2.2
    refine LCg.CompEnd.intro F30 N30 ((T1, tupOf [.ref a, .ref T2] 0) :: (T2, tupOf [.ref b, .ref c] 0) :: (tn2 ++ (nw33 ++ ((Dl, LCg.lst ysL) :: (tn ++ (nw24 ++ ((Dh, listOf vh ch) :: (Dk, LCg.lst ys4) :: (Do, listOf (List.toArray wo) 0) :: (Dc, LCg.lst ys2) :: (Dm, LCg.lst ys1) :: (L' + 1, o2') :: (L' + 1 + 1, oF) :: (132, tabObj #[]) :: (125, tabObj #[]) :: (cn ++ mkn)))))))) ?_ ?_ trivial ⟨(T1, tupOf [.ref a, .ref T2] 0) :: (T2, tupOf [.ref b, .ref c] 0) :: tn2, rfl, ?_, ?_⟩
    · exact sbC (.tail _ (.tail _ (.head _))) (sbC (.tail _ (.tail _ (.tail _ (.head _)))) (sbC (.tail _ (.tail _ (.tail _ (.tail _ (.head _))))) (sbC (.head _) (sbC (.tail _ (.head _)) (sbT (sbT (sbT (sbT (sbT sb0)))))))))
    · exact LCg.Off3.of (alC ⟨Nat.ne_of_gt lT1.2.1, Nat.ne_of_gt lT1.2.2.1, Nat.ne_of_gt lT1.2.2.2.1⟩ (alC ⟨Nat.ne_of_gt lT2.1, Nat.ne_of_gt lT2.2.1, Nat.ne_of_gt lT2.2.2.1⟩ off.mem))
    · exact alC ⟨Nat.ne_of_gt (k1 _ (List.mem_append_right _ (List.mem_append_right _ (.tail _ (List.mem_append_right _ (List.mem_append_right _ (List.mem_of_getElem? (i := 7) rfl))))))), Nat.ne_of_gt (k1 _ (List.mem_append_right _ (List.mem_append_right _ (.tail _ (List.mem_append_right _ (List.mem_append_right _ (List.mem_of_getElem? (i := 8) rfl)))))))⟩ (alC ⟨Nat.ne_of_gt (k2 _ (List.mem_append_right _ (List.mem_append_right _ (.tail _ (List.mem_append_right _ (List.mem_append_right _ (List.mem_of_getElem? (i := 7) rfl))))))), Nat.ne_of_gt (k2 _ (List.mem_append_right _ (List.mem_append_right _ (.tail _ (List.mem_append_right _ (List.mem_append_right _ (List.mem_of_getElem? (i := 8) rfl)))))))⟩ htn)
    · rw [List.take_add_one, List.getElem?_eq_getElem hi24]
      refine Paired.snoc (Paired.mono (fun a b h => h.mono fun q hq => .tail _ (.tail _ hq)) hpr) ?_
      exact T3.of (.head _) (.tail _ (.tail _ (List.mem_append_right _ m2))) i1 (.tail _ (.head _)) (.tail _ (.tail _ (List.mem_append_right _ m3))) i2 (.tail _ (.tail _ (List.mem_append_right _ m4))) i3
  intro s' ysC nx zz9a zz9
  refine exE1 zz9a ?_
  clear zz9a
  rintro g' rfl
  refine exE1 zz9 ?_
  clear zz9
  intro tn2 zz8
  refine anE3 zz8 ?_
  clear zz8
  rintro rfl htnC hprC2
  rw [List.take_of_length_le (by rw [← Paired.length hpp2, Array.length_toList]; exact Nat.le_refl _)] at hprC2
  ((try ((with_reducible show wpAny _ _ _ _ _ _); k_fold)); repeat' (first | ((fail_if_success (with_reducible show wpAny _ _ (pyIter _) _ _ _)); (fail_if_success (with_reducible show wpAny _ _ (exec (Stmt.For _ _ _ _ _) _) _ _ _)); (fail_if_success (with_reducible show wpAny _ _ (eval (PySem.Expr.ListComp _ _ _ _) _) _ _ _)); (fail_if_success (with_reducible show wpAny _ _ (exec (Stmt.Assign _ (PySem.Expr.ListComp _ _ _ _) _) _) _ _ _)); (fail_if_success (with_reducible show wpAny _ _ (eval (PySem.Expr.Lambda _ _ _ _) _) _ _ _)); (fail_if_success (with_reducible show LCt.CompSrcT _ _ _ _ _ _ _ _ _ _ _ _ _ _ _)); (fail_if_success (with_reducible show LCg.CompSrc _ _ _ _ _ _ _ _ _ _ _ _ _ _)); (fail_if_success (with_reducible show LCg.CompEnd _ _ _ _ _ _ _ _ _ _ _ _ _ _)); first | (k_unfold; (try dsimp only)) | (k_here; (with_reducible show wpAny _ _ (subscriptTail _ _ (Value.ref _) (Value.int _ _)) _ _ _); (refine' itemOwn ?k1 ?k2 ?k3 ?k4 (suf_at _ _ _) ?_ ?k6; (case k1 => k_asm); (case k2 => exact List.Mem.head _); (case k3 => omega); (case k4 => omega); (case k6 => with_unfolding_all rfl))) | (k_here; (with_reducible show wpAny _ _ (subscriptTail _ _ (Value.ref _) (Value.int _ _)) _ _ _); (refine' itemOwn ?k1 ?k2 ?k3 ?k4 ?k5 ?_ ?k6; (case k1 => k_asm); (case k2 => k_mem); (case k5 => assumption); (case k3 => omega); (case k4 => omega); (case k6 => with_unfolding_all rfl))) | (k_here; (with_reducible show wpAny _ _ (call (Value.builtin "len") [Value.ref _]) _ _ _); (refine' lenOwn ?k1 ?k2 ?k3 ?k4 ?_; (case k1 => k_asm); (case k2 => k_mem); (case k3 => assumption); (case k4 => omega))) | walk1 | (dsimp only; walk1))))
  rename_i Dq h35 _ F35 N35 o35
  have hml : (marksOf rws).length = rws.length := marks_len rws
  have hmok : ∀ k ∈ marksOf rws, k.cnt.length < 1000 ∧ k.b < 1000 := by rw [← hrw]; exact marks_ok ns
  have f132 : ∀ q ∈ tn2 ++ (nw33 ++ (tn ++ (nw24 ++ mkn))), @Ne Nat q.1 132 ∧ @Ne Nat q.1 125 := alA htnC (alA (fun q h => ⟨ap33 q h _ (.tail _ (List.mem_append_right _ (List.mem_append_right _ (List.mem_of_getElem? (i := 7) rfl)))), ap33 q h _ (.tail _ (List.mem_append_right _ (List.mem_append_right _ (List.mem_of_getElem? (i := 8) rfl))))⟩) (alA htnL (alA (fun q h => ⟨ap24 q h _ (List.mem_of_getElem? (i := 7) rfl), ap24 q h _ (List.mem_of_getElem? (i := 8) rfl)⟩) (fun q h => ⟨(hfarM q h).2.1, (hfarM q h).2.2.1⟩))))
  have N36 : News h0 L' h35 ((125, tabObj #[]) :: (132, tabObj #[]) :: (Dq, LCg.lst ysC) :: (Dl, LCg.lst ysL) :: (Dm, LCg.lst ys1) :: (Do, listOf (List.toArray wo) 0) :: (tn2 ++ (nw33 ++ (tn ++ (nw24 ++ mkn))))) := nwS N35 (by ((try dsimp only [List.cons_append, List.nil_append]); repeat' (first | with_reducible exact sb0 | exact sbN | refine sbC ?_ ?_ | refine sbA ?_ ?_ | with_reducible exact mHd | refine mTl ?_ | refine List.mem_append_right _ ?_ | refine sbT ?_ | with_reducible exact sbL sb0 | refine sbR ?_)))
  have fq : ∀ P : Addr, (P = 125 ∨ P = 132) → ∀ q ∈ (Dq, LCg.lst ysC) :: (Dl, LCg.lst ysL) :: (Dm, LCg.lst ys1) :: (Do, listOf (List.toArray wo) 0) :: (tn2 ++ (nw33 ++ (tn ++ (nw24 ++ mkn)))), @Ne Nat q.1 P := fun P hP => by
    rcases hP with rfl | rfl
    · exact alC (obj_ne N36 (List.mem_of_getElem? (i := 2) rfl) (.head _) (by simp)) (alC (obj_ne N36 (List.mem_of_getElem? (i := 3) rfl) (.head _) (by simp)) (alC (obj_ne N36 (List.mem_of_getElem? (i := 4) rfl) (.head _) (by simp)) (alC (obj_ne N36 (List.mem_of_getElem? (i := 5) rfl) (.head _) (by simp)) (fun q h => (f132 q h).2))))
    · exact alC (obj_ne N36 (List.mem_of_getElem? (i := 2) rfl) (.tail _ (.head _)) (by simp)) (alC (obj_ne N36 (List.mem_of_getElem? (i := 3) rfl) (.tail _ (.head _)) (by simp)) (alC (obj_ne N36 (List.mem_of_getElem? (i := 4) rfl) (.tail _ (.head _)) (by simp)) (alC (obj_ne N36 (List.mem_of_getElem? (i := 5) rfl) (.tail _ (.head _)) (by simp)) (fun q h => (f132 q h).1))))
  have mk36 : ∀ q ∈ mkn, q ∈ tn2 ++ (nw33 ++ (tn ++ (nw24 ++ mkn))) := fun q hq => List.mem_append_right _ (List.mem_append_right _ (List.mem_append_right _ (List.mem_append_right _ hq)))
  clear N35 N31 N33
  refine useB (P := 125) F35 N36 (alC (show @Ne Nat 132 125 from by decide) (fq 125 (.inl rfl))) (layers (vo := wo) (os := ord) (mks := marksOf rws) (G.keeps (hide_stay (N36 _ (.head _)).2.2 F35.keep)) (C2.keeps F35.keep) (N36 _ (.head _)).1 (MksAt.of N36 (List.mem_of_getElem? (i := 4) rfl) rfl (fun q hq => .tail _ (.tail _ (.tail _ (.tail _ (.tail _ (.tail _ (mk36 q hq))))))) hprM) hmok (by omega) (by omega) ⟨_, (N36 _ (List.mem_of_getElem? (i := 5) rfl)).1, rfl, _, rfl⟩ hIo (fun k hk => by have := hom k hk; omega) (by ((refine ⟨rfl, ?_, ?_⟩ <;> first | exact rm1 (by assumption) (by decide) | exact rm0 (by assumption) (by decide) | exact rm2 (by assumption) (by decide) | ((try simp only [Around.deeper, Around.in1]); omega))))) ?_
  rintro v37 h37 tk37 nw37 F37 N37 ap37 ⟨⟨pt125, hg125⟩, Dt, vt, ct, rfl, hmt, hpt⟩
  have el := plain_layers ns od9 M1
  rw [hrw] at el
  rw [show colsR rws = cols from hcols, hord] at el
  rw [el hperm hsort hM1 hMx1] at hpt
  clear el
  dsimp only
  walk1
  refine eqTold (nw1 := nw37) (nw2 := tn ++ nw24) N37 (List.mem_append_left _ hmt) (fun q hq => List.mem_append_left _ hq) hpt (List.mem_append_right _ (List.mem_of_getElem? (i := 2) rfl)) (fun q hq => List.mem_append_right _ (.tail _ (.tail _ (.tail _ (.tail _ (.tail _ (List.mem_append_right _ (List.mem_append_right _ (by
      rcases List.mem_append.mp hq with h | h
      · exact List.mem_append_left _ h
      · exact List.mem_append_right _ (List.mem_append_left _ h)))))))))) hprL (by simp only [Around.deeper_units]; omega) ?_
  ((try ((with_reducible show wpAny _ _ _ _ _ _); k_fold)); repeat' (first | ((fail_if_success (with_reducible show wpAny _ _ (pyIter _) _ _ _)); (fail_if_success (with_reducible show wpAny _ _ (exec (Stmt.For _ _ _ _ _) _) _ _ _)); (fail_if_success (with_reducible show wpAny _ _ (eval (PySem.Expr.ListComp _ _ _ _) _) _ _ _)); (fail_if_success (with_reducible show wpAny _ _ (exec (Stmt.Assign _ (PySem.Expr.ListComp _ _ _ _) _) _) _ _ _)); (fail_if_success (with_reducible show wpAny _ _ (eval (PySem.Expr.Lambda _ _ _ _) _) _ _ _)); (fail_if_success (with_reducible show LCt.CompSrcT _ _ _ _ _ _ _ _ _ _ _ _ _ _ _)); (fail_if_success (with_reducible show LCg.CompSrc _ _ _ _ _ _ _ _ _ _ _ _ _ _)); (fail_if_success (with_reducible show LCg.CompEnd _ _ _ _ _ _ _ _ _ _ _ _ _ _)); first | (k_unfold; (try dsimp only)) | (k_here; (with_reducible show wpAny _ _ (subscriptTail _ _ (Value.ref _) (Value.int _ _)) _ _ _); (refine' itemOwn ?k1 ?k2 ?k3 ?k4 (suf_at _ _ _) ?_ ?k6; (case k1 => k_asm); (case k2 => exact List.Mem.head _); (case k3 => omega); (case k4 => omega); (case k6 => with_unfolding_all rfl))) | (k_here; (with_reducible show wpAny _ _ (subscriptTail _ _ (Value.ref _) (Value.int _ _)) _ _ _); (refine' itemOwn ?k1 ?k2 ?k3 ?k4 ?k5 ?_ ?k6; (case k1 => k_asm); (case k2 => k_mem); (case k5 => assumption); (case k3 => omega); (case k4 => omega); (case k6 => with_unfolding_all rfl))) | (k_here; (with_reducible show wpAny _ _ (call (Value.builtin "len") [Value.ref _]) _ _ _); (refine' lenOwn ?k1 ?k2 ?k3 ?k4 ?_; (case k1 => k_asm); (case k2 => k_mem); (case k3 => assumption); (case k4 => omega))) | walk1 | (dsimp only; walk1))))
  have N38 : News h0 L' h37 ((132, tabObj #[]) :: (Dq, LCg.lst ysC) :: (Dl, LCg.lst ysL) :: (Dm, LCg.lst ys1) :: (Do, listOf (List.toArray wo) 0) :: (tn2 ++ (nw33 ++ (tn ++ (nw24 ++ mkn))))) := fun q hq => N37 q (List.mem_append_right _ hq)
  have z125 : @LT.lt Nat _ 125 h0.objs.size := by have := codeHd_lt C1; omega
  have sw := sink F37 N38 hg125 z125 (alC (show @Ne Nat 132 125 from by decide) (fq 125 (.inl rfl)))
  clear N37 F37 N38 X T
  refine exE1 sw ?_
  clear sw
  intro h0 zz9
  refine anE4 zz9 ?_
  clear zz9
  rintro st2 g125 F37 N38
  replace G := G.keeps st2
  replace C1 := C1.keeps st2
  have X := G.X
  have T := G.T
  refine useB (P := 132) F37 N38 (fq 132 (.inr rfl)) (classes (vo := wo) (os := ord) (mks := marksOf rws) (G.keeps (hide_stay (N38 _ (.head _)).2.2 F37.keep)) (C1.keeps F37.keep) (N38 _ (.head _)).1 (MksAt.of N38 (List.mem_of_getElem? (i := 3) rfl) rfl (fun q hq => .tail _ (.tail _ (.tail _ (.tail _ (.tail _ (mk36 q hq)))))) hprM) hmok (by omega) (by omega) ⟨_, (N38 _ (List.mem_of_getElem? (i := 4) rfl)).1, rfl, _, rfl⟩ hIo (fun k hk => by have := hom k hk; omega) (by ((refine ⟨rfl, ?_, ?_⟩ <;> first | exact rm1 (by assumption) (by decide) | exact rm0 (by assumption) (by decide) | exact rm2 (by assumption) (by decide) | ((try simp only [Around.deeper, Around.in1]); omega))))) ?_
  intro v39 h39 tk39 nw39 F39 N39 ap39 zz9
  refine anE2 zz9 ?_
  clear zz9
  rintro hg132 zz9
  refine exE3 zz9 ?_
  clear zz9
  intro Du vu cu zz9
  refine anE3 zz9 ?_
  clear zz9
  rintro rfl hmu hpu
  have ec := plain_classes ns M2
  rw [hrw] at ec
  rw [show colsR rws = cols from hcols, hord, hFL] at ec
  rw [ec hM2 hMx2] at hpu
  clear ec
  have g115 := (N39 _ (List.mem_append_right _ (.tail _ (.tail _ (.tail _ (.tail _ (mk36 _ m115))))))).1
  dsimp only
  walk1
  refine eqTold (nw1 := nw39) (nw2 := tn2 ++ nw33) N39 (List.mem_append_left _ hmu) (fun q hq => List.mem_append_left _ hq) hpu (List.mem_append_right _ (.head _)) (fun q hq => List.mem_append_right _ (.tail _ (.tail _ (.tail _ (.tail _ (by
      rcases List.mem_append.mp hq with h | h
      · exact List.mem_append_left _ h
      · exact List.mem_append_right _ (List.mem_append_left _ h))))))) hprC2 (by simp only [Around.deeper_units]; omega) ?_
  ((try ((with_reducible show wpAny _ _ _ _ _ _); k_fold)); repeat' (first | ((fail_if_success (with_reducible show wpAny _ _ (pyIter _) _ _ _)); (fail_if_success (with_reducible show wpAny _ _ (exec (Stmt.For _ _ _ _ _) _) _ _ _)); (fail_if_success (with_reducible show wpAny _ _ (eval (PySem.Expr.ListComp _ _ _ _) _) _ _ _)); (fail_if_success (with_reducible show wpAny _ _ (exec (Stmt.Assign _ (PySem.Expr.ListComp _ _ _ _) _) _) _ _ _)); (fail_if_success (with_reducible show wpAny _ _ (eval (PySem.Expr.Lambda _ _ _ _) _) _ _ _)); (fail_if_success (with_reducible show LCt.CompSrcT _ _ _ _ _ _ _ _ _ _ _ _ _ _ _)); (fail_if_success (with_reducible show LCg.CompSrc _ _ _ _ _ _ _ _ _ _ _ _ _ _)); (fail_if_success (with_reducible show LCg.CompEnd _ _ _ _ _ _ _ _ _ _ _ _ _ _)); first | (k_unfold; (try dsimp only)) | (k_here; (with_reducible show wpAny _ _ (subscriptTail _ _ (Value.ref _) (Value.int _ _)) _ _ _); (refine' itemOwn ?k1 ?k2 ?k3 ?k4 (suf_at _ _ _) ?_ ?k6; (case k1 => k_asm); (case k2 => exact List.Mem.head _); (case k3 => omega); (case k4 => omega); (case k6 => with_unfolding_all rfl))) | (k_here; (with_reducible show wpAny _ _ (subscriptTail _ _ (Value.ref _) (Value.int _ _)) _ _ _); (refine' itemOwn ?k1 ?k2 ?k3 ?k4 ?k5 ?_ ?k6; (case k1 => k_asm); (case k2 => k_mem); (case k5 => assumption); (case k3 => omega); (case k4 => omega); (case k6 => with_unfolding_all rfl))) | (k_here; (with_reducible show wpAny _ _ (call (Value.builtin "len") [Value.ref _]) _ _ _); (refine' lenOwn ?k1 ?k2 ?k3 ?k4 ?_; (case k1 => k_asm); (case k2 => k_mem); (case k3 => assumption); (case k4 => omega))) | walk1 | (dsimp only; walk1))))
  exact LawEnd.of (Stay.trans st2 F39.keep) hg132 ⟨_, F39.keep _ _ g125⟩ ⟨_, g115⟩
end
theorem rm_caller : Rm 60 callerA := ⟨rfl, by decide +kernel, by decide +kernel⟩
theorem ledge_ghost {h : Heap} {tabs : List (Addr × Addr)} (hT : TabsAt tabs h) : Ledge (ghostOf h tabs) h (tabNews tabs) :=
  ⟨fun b ob eb => of_hideAll _ eb, Nat.le_of_eq (hideAll_size _ _), fun q hq => by
    obtain ⟨r, hr, rfl⟩ := List.mem_map.mp hq
    exact ⟨(hT r hr).2, hideAll_none _ (List.mem_map_of_mem hr)⟩⟩
theorem holds : Challenge.rw_mj0159_01.Holds := hd (by
  k_fill
  intro w s₀ s₁ mg mb G Y fa o pm cd doc dV kV ho hdo hcd hD hmg hg args vals as hpre hlay hrd hwl hlo
  have KX := km_in_of Y
  have hTb := km_tabs_of Y
  have X := (Ground.X G).1
  have V := (Ground.X G).2
  refine Ground.open G ?_
  intro T B D TE TW
  try (refine guard_noD D (by decide +kernel) ?_; clear D)
  have hfa := mg_of (n := Str.ofString "law") (v := .ref 142) KX T.g (by k_is)
  replace hmg : mg (Str.ofString "law") = some (.ref fa) := hmg
  rw [hfa] at hmg
  obtain rfl : 142 = fa := by injection (Option.some.inj hmg)
  wrow_args hpre hlay hrd hwl hlo
  all_goals (
    first | refine callC_kw (enter_call ?_) | refine enter_call ?_
    w_top on)
  clear B TE TW hcd ho hdo hD
  have hT9 : TabsAt [(136, 132), (129, 125), (117, 115)] s₁.heap := List.forall_mem_cons.mpr ⟨⟨codeHd_of_K (c := 136) (P := 132) KX (by kernel_rfl), hTb 132 (by simp)⟩, List.forall_mem_cons.mpr ⟨⟨codeHd_of_K (c := 129) (P := 125) KX (by kernel_rfl), hTb 125 (by simp)⟩, List.forall_mem_cons.mpr ⟨⟨codeHd_of_K (c := 117) (P := 115) KX (by kernel_rfl), hTb 115 (by simp)⟩, fun _ h => nomatch h⟩⟩⟩
  refine kn_post hT9 (fun _ _ => rfl) ?_
  have C9 := ghost_code hT9
  refine codeAny_mono (law_call (h0 := ghostOf s₁.heap [(136, 132), (129, 125), (117, 115)]) ⟨ghost_K hT9 KX (by kernel_rfl), ghost_top hT9 T⟩ (ledge_ghost hT9) C9.1 C9.2.1 C9.2.2.1 (ghost_list hT9 (by assumption)) (by assumption) (by omega) rm_caller) ?_
  rintro r s' ⟨h', tk, rfl, rfl, keep, g1, g2, g3⟩
  refine ⟨⟨.inl ⟨_, .bool true, [], rfl, fun _ => rfl, ReadsW.bool _, ?_, unshared_nil⟩, keep, rfl, hg⟩, g1, g2, g3, trivial⟩

  first | wrow_post | kc_post)

end Mine
theorem PySem.Challenge.cw_mj0159_01_holds : PySem.Challenge.rw_mj0159_01.Holds := by
  exact Mine.holds
