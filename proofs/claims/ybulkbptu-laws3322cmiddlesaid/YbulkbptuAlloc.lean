import Derived.Test.YbulkbptuPhase
import Derived.Test.YbulkbptuMem
namespace Go.Proofs.Ybulkbptu
open Go.ChangeShapes Go.WideShapes Go.ChangeAt Go.RowKit
set_option linter.unusedVariables false

/-- What a make lays: the element type, length, capacity, zero value. -/
abbrev Spec := TypeId × Nat × Nat × Value
/-- x is a slice over a new row. -/
def Laid (w0 w : World) (s : Spec) (v : Value) : Prop := ∃ b, v = .slice (some ⟨b, 0, none⟩) s.2.1 s.2.2.1 ∧ w0.heap.size ≤ b ∧ w.rowIs b s.1 s.2.2.1 (fun _ => s.2.2.2)
/-- The makes that have come up have laid rows apart; nothing old has turned; what only reads has given what it gives. -/
structure Allocs (w0 : World) (sp : Nat → Option Spec) (fx : Nat → Value) (D : Done) (w : World) : Prop where
  wrote : Wrote [] w0 w
  laid : ∀ x ∈ D, ∀ s, sp x.1 = some s → Laid w0 w s x.2.2
  plain : ∀ x ∈ D, sp x.1 = none → x.2.2 = fx x.1
  apart : ∀ x ∈ D, ∀ y ∈ D, x.1 ≠ y.1 → ∀ b, x.2.2.ownBlock = some b → y.2.2.ownBlock ≠ some b

theorem Laid.block {w0 w : World} {s : Spec} {v : Value} {b : Nat} (h : Laid w0 w s v) (hb : v.ownBlock = some b) : b < w.heap.size ∧ w0.heap.size ≤ b ∧ v = .slice (some ⟨b, 0, none⟩) s.2.1 s.2.2.1 ∧ w.rowIs b s.1 s.2.2.1 (fun _ => s.2.2.2) := by
  obtain ⟨b', rfl, h2, h3⟩ := h
  simp only [Value.ownBlock, Option.some.injEq] at hb
  subst hb
  exact ⟨h3.lt, h2, rfl, h3⟩
theorem Laid.alloc {w0 w : World} {s : Spec} {v : Value} (h : Laid w0 w s v) (o : Obj) : Laid w0 (w.alloc o) s v := by
  obtain ⟨b, rfl, h2, h3⟩ := h
  exact ⟨b, rfl, h2, h3.alloc o⟩

variable {w0 : World} {sp : Nat → Option Spec} {fx : Nat → Value} {D : Done} {w : World}
theorem Allocs.start (w0 : World) (sp : Nat → Option Spec) (fx : Nat → Value) : Allocs w0 sp fx [] w0 :=
  ⟨Wrote.refl _ _, fun _ h => by (cases h), fun _ h => by (cases h), fun _ h => by (cases h)⟩
theorem Allocs.make (h : Allocs w0 sp fx D w) (hf : ∀ j, sp j = none → (fx j).ownBlock = none) (i : Nat) (d : Tmp) (e : TypeId) (l c : Nat) (z : Value) (hs : sp i = some (e, l, c, z)) (cs : Array Value) (hcs : cs = madeCells #[z] c) :
    Allocs w0 sp fx (D ++ [(i, d, .slice (some ⟨w.heap.size, 0, none⟩) l c)]) (w.alloc (.cells cs e)) := by
  subst hcs
  have old : ∀ x ∈ D, ∀ b, x.2.2.ownBlock = some b → b < w.heap.size := by
    intro x hx b hb
    cases hsx : sp x.1 with
    | none => rw [h.plain x hx hsx, hf _ hsx] at hb; cases hb
    | some s => exact ((h.laid x hx s hsx).block hb).1
  have new : (Value.slice (some ⟨w.heap.size, 0, none⟩) l c).ownBlock = some w.heap.size := rfl
  refine ⟨h.wrote.alloc _, fun x hx s hsx => ?_, fun x hx hsx => ?_, fun x hx y hy hne b hb => ?_⟩
  · rcases List.mem_append.1 hx with hx | hx
    · exact (h.laid x hx s hsx).alloc _
    · simp only [List.mem_singleton] at hx
      subst hx
      rw [hs] at hsx
      simp only [Option.some.injEq] at hsx
      subst hsx
      exact ⟨w.heap.size, rfl, h.wrote.size, World.rowIs_made w z c e⟩
  · rcases List.mem_append.1 hx with hx | hx
    · exact h.plain x hx hsx
    · simp only [List.mem_singleton] at hx
      subst hx
      rw [hs] at hsx
      cases hsx
  · rcases List.mem_append.1 hx with hx | hx <;> rcases List.mem_append.1 hy with hy | hy
    · exact h.apart x hx y hy hne b hb
    · simp only [List.mem_singleton] at hy
      subst hy
      intro hb'
      have := old x hx b hb
      rw [new] at hb'
      simp only [Option.some.injEq] at hb'
      omega
    · simp only [List.mem_singleton] at hx
      subst hx
      intro hb'
      have := old y hy b hb'
      rw [new] at hb
      simp only [Option.some.injEq] at hb
      omega
    · simp only [List.mem_singleton] at hx hy
      subst hx; subst hy
      exact absurd rfl hne
theorem Allocs.read (h : Allocs w0 sp fx D w) (hf : ∀ j, sp j = none → (fx j).ownBlock = none) (i : Nat) (d : Tmp) (hs : sp i = none) : Allocs w0 sp fx (D ++ [(i, d, fx i)]) w := by
  have key : ∀ x, x ∈ D ++ [(i, d, fx i)] → x ∈ D ∨ x = (i, d, fx i) := fun x hx => by
    rcases List.mem_append.1 hx with h | h
    · exact .inl h
    · exact .inr (by simpa using h)
  refine ⟨h.wrote, fun x hx s hsx => ?_, fun x hx hsx => ?_, fun x hx y hy hne b hb => ?_⟩
  · rcases key x hx with hx | rfl
    · exact h.laid x hx s hsx
    · rw [hs] at hsx; cases hsx
  · rcases key x hx with hx | rfl
    · exact h.plain x hx hsx
    · rfl
  · rcases key x hx with hx | rfl
    · rcases key y hy with hy | rfl
      · exact h.apart x hx y hy hne b hb
      · rw [hf _ hs]; intro h; cases h
    · rw [hf _ hs] at hb; cases hb
end Go.Proofs.Ybulkbptu
