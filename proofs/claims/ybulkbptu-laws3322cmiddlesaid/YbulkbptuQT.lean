import Derived.BigQuiet
import Derived.StillTail
namespace Go.Proofs.Ybulkbptu
open Go
set_option linter.unusedVariables false

/-- A quiet walk in one world is a still walk. -/
theorem still_of_quiet {P : Program} {o : Oper} {a : Act} {w : World} {K : Act → Prop} (h : o.quiet P a (fun w' => w' = w) K) : o.still P a w K := by
  obtain ⟨v, h1, h2⟩ := h
  have h3 := h1 w rfl
  unfold Oper.quietAt at h3
  unfold Oper.still
  generalize (execOp a.eval o).run P w = r at h3
  unfold Oper.quietUpon at h3
  unfold Oper.stillUpon
  split at h3
  · obtain ⟨e1, e2⟩ := h3
    subst e2
    exact ⟨e1, h2⟩
  · obtain ⟨e1, e2⟩ := h3
    subst e2
    exact ⟨e1, h2⟩
  · obtain ⟨e1, e2⟩ := h3
    exact ⟨e1, v, e2, h2⟩
  · exact h3.elim
theorem wpStill_of_quiet {P : Program} {ops : Array Oper} {w : World} {Q : Act → Prop} : ∀ (l : List Oper) (a : Act), wpQuiet P ops (fun w' => w' = w) Q l a → wpStill P ops w Q l a
  | [], _, h => h
  | o :: rest, a, h => by
    unfold wpQuiet at h
    unfold wpStill
    split
    · next hw =>
      rw [if_pos hw] at h
      exact Oper.still_mono (fun a' h' => wpStill_of_quiet rest a' h') (still_of_quiet h)
    · next hw =>
      rw [if_neg hw] at h
      exact wpStill_of_quiet rest _ h
/-- A region that draws its order: n operations that only read, in the order of the text; then the tail, whose order is forced. -/
theorem wp_region_qt {P : Program} {id : Nat} {Q : Exit → Act → World → Prop} {a : Act} {w : World} {l : List Oper} (n : Nat) (hm : P.follows .mixedOrders = true) (hB : Region.lexTailB .any l.toArray n = true)
    (h : wpQuiet P l.toArray (fun w' => w' = w.drew) (fun a' => wpList P l.toArray Q (l.drop n) a' w.drew) (l.take n) a) : (Code.region id l.toArray true).wp P Q a w :=
  wp_region_still_tail n hm hB (wpStill_of_quiet _ _ h)
end Go.Proofs.Ybulkbptu
