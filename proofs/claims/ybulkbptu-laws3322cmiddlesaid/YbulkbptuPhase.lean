import Derived.Orders
import Derived.RegionTactic
namespace Go.Proofs.Ybulkbptu
open Go
set_option linter.unusedVariables false

/-! A phase of a region that draws its order: operations, each of which may come up at any time, each yielding SOME value (new memory); whatever order the tape picks. -/
abbrev Done := List (Nat × Tmp × Value)
def setAll (l : Array Bool) (D : Done) : Array Bool := D.foldl (fun l x => l.setIfInBounds x.1 true) l
def putAll (a : Act) (D : Done) : Act := D.foldl (fun a x => a.put (some x.2.1) x.2.2) a

theorem setAll_snoc (l : Array Bool) (D : Done) (x : Nat × Tmp × Value) : setAll l (D ++ [x]) = (setAll l D).setIfInBounds x.1 true := by simp [setAll]
theorem putAll_snoc (a : Act) (D : Done) (x : Nat × Tmp × Value) : putAll a (D ++ [x]) = (putAll a D).put (some x.2.1) x.2.2 := by simp [putAll]
theorem setAll_perm (l : Array Bool) {D D' : Done} (h : D.Perm D') : setAll l D = setAll l D' :=
  List.Perm.foldl_eq' h (fun x _ y _ z => by
    by_cases e : x.1 = y.1
    · rw [e]
    · exact Array.setIfInBounds_comm _ _ e) l
theorem inj_of_nodup {α β : Type} {f : α → β} : ∀ {l : List α}, (l.map f).Nodup → ∀ {x y : α}, x ∈ l → y ∈ l → f x = f y → x = y
  | [], _, _, _, hx, _, _ => by cases hx
  | z :: l, hn, x, y, hx, hy, e => by
    simp only [List.map_cons, List.nodup_cons] at hn
    rcases List.mem_cons.1 hx with ex | hx' <;> rcases List.mem_cons.1 hy with ey | hy'
    · rw [ex, ey]
    · rw [ex] at e; exact absurd (List.mem_map.2 ⟨y, hy', e.symm⟩) hn.1
    · rw [ey] at e; exact absurd (List.mem_map.2 ⟨x, hx', e⟩) hn.1
    · exact inj_of_nodup hn.2 hx' hy' e
theorem putAll_perm (a : Act) {D D' : Done} (h : D.Perm D') (hn : (D.map fun x => x.2.1).Nodup) : putAll a D = putAll a D' := by
  refine List.Perm.foldl_eq' h (fun x hx y hy z => ?_) a
  by_cases e : x = y
  · rw [e]
  · refine Act.put_comm z _ _ (fun d hd => ?_)
    intro h2
    simp only [Option.some.injEq] at hd h2
    have : x.2.1 = y.2.1 := by rw [hd, h2]
    exact e (inj_of_nodup hn hx hy this)

theorem setAll_getD (l : Array Bool) (D : Done) (j : Nat) (d : Bool) : (setAll l D).getD j d = if j < l.size ∧ j ∈ D.map (·.1) then true else l.getD j d := by
  induction D generalizing l with
  | nil => simp [setAll]
  | cons x D ih =>
    have : setAll l (x :: D) = setAll (l.setIfInBounds x.1 true) D := rfl
    rw [this, ih]
    simp only [Array.size_setIfInBounds, List.map_cons, List.mem_cons]
    by_cases hj : j < l.size
    · by_cases hm : j ∈ D.map (·.1)
      · simp [hj, hm]
      · by_cases e : j = x.1
        · subst e; simp [hj]
        · rw [if_neg (by simp [hm]), getD_set_ne d (Ne.symm e), if_neg (by simp [e, hm])]
    · have h1 : ∀ l' : Array Bool, l'.size = l.size → l'.getD j d = d := fun l' h => by simp [Array.getElem?_eq_none (show l'.size ≤ j by omega)]
      simp [hj, h1]

theorem putAll_eval (a : Act) (D : Done) (t : Tmp) (h : t ∉ D.map fun x => x.2.1) : (putAll a D).eval (.tmp t) = a.eval (.tmp t) := by
  induction D generalizing a with
  | nil => rfl
  | cons x D ih =>
    simp only [List.map_cons, List.mem_cons, not_or] at h
    have : putAll a (x :: D) = putAll (a.put (some x.2.1) x.2.2) D := rfl
    rw [this, ih _ h.2]
    exact Act.eval_put (fun d hd => by simp only [Option.some.injEq] at hd; subst hd; intro e; cases e; exact h.1 rfl)

/-- No other operation may come up before all of the phase have. -/
def phaseB (md : Region.Mode) (ops : Array Oper) (L0 : Array Bool) (is : List Nat) : Bool :=
  (L0.size == ops.size) &&
  ((List.range ops.size).all fun j => L0.getD j true || is.contains j || (match ops[j]? with
    | none => true
    | some o => (o.after.any fun e => Region.binds md e && !L0.getD e.on false && !is.contains e.on) || is.all fun i => o.after.any fun e => Region.binds md e && e.on == i)) &&
  (is.all fun i => !L0.getD i true && (match ops[i]? with | none => false | some o => o.after.all fun e => !Region.binds md e || L0.getD e.on false))

section
variable {P : Program} {ops : Array Oper} {Q : Exit → Act → World → Prop} {md : Region.Mode}

theorem wpAny_phase (idx : List (Nat × Tmp)) (L0 : Array Bool) (a0 : Act) (Φ : Done → World → Prop) (fuel : Nat)
    (hB : phaseB md ops L0 (idx.map (·.1)) = true) (hn1 : (idx.map (·.1)).Nodup) (hn2 : (idx.map (·.2)).Nodup)
    (hstep : ∀ p ∈ idx, ∀ (D : Done) (w : World) (a : Act), (∀ t, t ∉ idx.map (·.2) → a.eval (.tmp t) = a0.eval (.tmp t)) → Φ D w → p.1 ∉ D.map (·.1) →
      ∃ o v w', ops[p.1]? = some o ∧ o.dst = some p.2 ∧ o.guard = none ∧ (execOp a.eval o).run P w = .ok (.value v) w' ∧ Φ (D ++ [(p.1, p.2, v)]) w')
    (hfin : ∀ D w, (D.map fun x => (x.1, x.2.1)).Perm idx → Φ D w → wpAny P md ops Q fuel (setAll L0 D) (putAll a0 D) w) :
    ∀ (n : Nat) (D : Done) (U : List (Nat × Tmp)) (w : World), U.length = n → ((D.map fun x => (x.1, x.2.1)) ++ U).Perm idx → Φ D w →
      wpAny P md ops Q (fuel + n) (setAll L0 D) (putAll a0 D) w := by
  simp only [phaseB, Bool.and_eq_true] at hB
  obtain ⟨⟨hsz, hB1⟩, hB2⟩ := hB
  have hsz : L0.size = ops.size := by simpa using hsz
  intro n
  induction n with
  | zero =>
    intro D U w hU hp hΦ
    have : U = [] := List.length_eq_zero_iff.1 hU
    subst this
    rw [List.append_nil] at hp
    exact hfin D w hp hΦ
  | succ n ih =>
    intro D U w hU hp hΦ
    have hDi : ∀ x ∈ D, (x.1, x.2.1) ∈ idx := fun x hx => hp.mem_iff.1 (List.mem_append_left _ (List.mem_map.2 ⟨x, hx, rfl⟩))
    have hUi : ∀ p ∈ U, p ∈ idx := fun p hp' => hp.mem_iff.1 (List.mem_append_right _ hp')
    have hnd1 : (((D.map fun x => (x.1, x.2.1)) ++ U).map (·.1)).Nodup := ((hp.map (·.1)).nodup_iff).2 hn1
    have hin : ∀ i, i ∈ idx.map (·.1) → i ∉ D.map (·.1) → ∃ p ∈ U, p.1 = i := by
      intro i hi hd
      obtain ⟨p, hpi, rfl⟩ := List.mem_map.1 hi
      rcases List.mem_append.1 (hp.mem_iff.2 hpi) with h | h
      · obtain ⟨x, hx, rfl⟩ := List.mem_map.1 h
        exact absurd (List.mem_map.2 ⟨x, hx, rfl⟩) hd
      · exact ⟨p, h, rfl⟩
    have hUD : ∀ p ∈ U, p.1 ∉ D.map (·.1) := by
      intro p hpU hd
      rw [List.map_append, List.nodup_append] at hnd1
      obtain ⟨x, hx, he⟩ := List.mem_map.1 hd
      exact hnd1.2.2 x.1 (List.mem_map.2 ⟨(x.1, x.2.1), List.mem_map.2 ⟨x, hx, rfl⟩, rfl⟩) p.1 (List.mem_map.2 ⟨p, hpU, rfl⟩) he
    have hget : ∀ j d, (setAll L0 D).getD j d = if j < L0.size ∧ j ∈ D.map (·.1) then true else L0.getD j d := setAll_getD L0 D
    -- what may come up lies in U
    have hready : ∀ j, j ∈ Region.ready md ops (setAll L0 D) → ∃ p ∈ U, p.1 = j := by
      intro j hj
      obtain ⟨h0, o, ho, hall⟩ := mem_ready.1 hj
      have hjlt : j < ops.size := (Array.getElem?_eq_some_iff.1 ho).1
      rw [hget] at h0
      have hjD : j ∉ D.map (·.1) := fun h => by rw [if_pos ⟨by omega, h⟩] at h0; cases h0
      rw [if_neg (fun h => hjD h.2)] at h0
      by_cases hji : j ∈ idx.map (·.1)
      · exact hin j hji hjD
      · exfalso
        have h1 := List.all_eq_true.1 hB1 j (List.mem_range.2 hjlt)
        rw [h0] at h1
        simp only [Bool.false_or, ho, Bool.or_eq_true, List.contains_iff_mem, hji, false_or] at h1
        rcases h1 with h1 | h1
        · obtain ⟨e, he, hb⟩ := Array.any_eq_true'.1 h1
          simp only [Bool.and_eq_true, Bool.not_eq_true'] at hb
          obtain ⟨⟨hb1, hb2⟩, hb3⟩ := hb
          have := hall e he hb1
          rw [hget] at this
          split at this
          · rename_i hx
            have : e.on ∈ idx.map (·.1) := by
              obtain ⟨x, hx2, hx3⟩ := List.mem_map.1 hx.2
              exact List.mem_map.2 ⟨_, hDi x hx2, hx3⟩
            simp only [List.contains_eq_mem, decide_eq_false_iff_not] at hb3
            exact hb3 this
          · rw [hb2] at this; cases this
        · obtain ⟨p, hpU⟩ : ∃ p, p ∈ U := by
            cases U with
            | nil => simp at hU
            | cons p U => exact ⟨p, List.mem_cons_self ..⟩
          have h2 := List.all_eq_true.1 h1 p.1 (List.mem_map.2 ⟨p, hUi p hpU, rfl⟩)
          obtain ⟨e, he, hb⟩ := Array.any_eq_true'.1 h2
          simp only [Bool.and_eq_true, beq_iff_eq] at hb
          have := hall e he hb.1
          rw [hb.2, hget, if_neg (fun h => hUD p hpU h.2)] at this
          have h3 := List.all_eq_true.1 hB2 p.1 (List.mem_map.2 ⟨p, hUi p hpU, rfl⟩)
          simp only [Bool.and_eq_true, Bool.not_eq_true'] at h3
          have h4 : L0.getD p.1 false = true := this
          have h5 : L0.getD p.1 true = false := h3.1
          rcases Nat.lt_or_ge p.1 L0.size with h' | h'
          · simp [h'] at h4 h5; rw [h5] at h4; cases h4
          · simp [Array.getElem?_eq_none h'] at h4
    -- something may come up
    have hsome : Region.ready md ops (setAll L0 D) ≠ [] := by
      obtain ⟨p, hpU⟩ : ∃ p, p ∈ U := by
        cases U with
        | nil => simp at hU
        | cons p U => exact ⟨p, List.mem_cons_self ..⟩
      have h3 := List.all_eq_true.1 hB2 p.1 (List.mem_map.2 ⟨p, hUi p hpU, rfl⟩)
      simp only [Bool.and_eq_true, Bool.not_eq_true'] at h3
      intro hnil
      have : p.1 ∈ Region.ready md ops (setAll L0 D) := by
        refine mem_ready.2 ⟨?_, ?_⟩
        · rw [hget, if_neg (fun h => hUD p hpU h.2)]; exact h3.1
        · cases ho : ops[p.1]? with
          | none => rw [ho] at h3; simp at h3
          | some o =>
            rw [ho] at h3
            refine ⟨o, rfl, fun e he hb => ?_⟩
            have h6 := Array.all_eq_true'.1 h3.2 e he
            rw [hb] at h6
            simp only [Bool.not_true, Bool.false_or] at h6
            rw [hget]
            split
            · rfl
            · exact h6
      rw [hnil] at this
      cases this
    refine ⟨fun h => absurd h hsome, fun j hj => ?_⟩
    obtain ⟨p, hpU, rfl⟩ := hready j hj
    obtain ⟨o, v, w', ho, hd, hg, hrun, hΦ'⟩ := hstep p (hUi p hpU) D w (putAll a0 D) (fun t ht => putAll_eval a0 D t (fun h => by
      obtain ⟨x, hx, he⟩ := List.mem_map.1 h
      exact ht (List.mem_map.2 ⟨_, hDi x hx, he⟩))) hΦ (hUD p hpU)
    have hK := ih (D ++ [(p.1, p.2, v)]) (U.erase p) w' (by rw [List.length_erase_of_mem hpU, hU]; rfl) (by
      refine List.Perm.trans ?_ hp
      rw [List.map_append, List.append_assoc]
      exact List.Perm.append_left _ (List.perm_cons_erase hpU).symm) hΦ'
    rw [setAll_snoc, putAll_snoc] at hK
    unfold wpOp
    rw [ho]
    have hw : Region.wanted o (yielded ops (putAll a0 D).tmps) = true := by simp [Region.wanted, hg]
    simp only [hw, if_true]
    refine .inl ?_
    unfold Oper.wp
    rw [hrun]
    simp only [Oper.upon]
    rw [hd]
    exact hK

theorem perm_val {D : Done} {idx : List (Nat × Tmp)} (hp : (D.map fun x => (x.1, x.2.1)).Perm idx) (hn : (idx.map (·.1)).Nodup) :
    ∃ val : Nat → Value, D.Perm (idx.map fun p => (p.1, p.2, val p.1)) := by
  have hnd : (D.map (·.1)).Nodup := by
    have h := ((hp.map (·.1)).nodup_iff).2 hn
    rw [List.map_map] at h
    exact h
  refine ⟨fun i => ((D.find? fun x => x.1 == i).map (·.2.2)).getD undef, ?_⟩
  have hval : ∀ x ∈ D, ((D.find? fun y => y.1 == x.1).map (·.2.2)).getD undef = x.2.2 := by
    intro x hx
    cases hf : D.find? fun y => y.1 == x.1 with
    | none =>
      have := List.find?_eq_none.1 hf x hx
      simp at this
    | some y =>
      have h1 := List.mem_of_find?_eq_some hf
      have h2 : y.1 = x.1 := by simpa using List.find?_some hf
      have : y = x := inj_of_nodup hnd h1 hx h2
      rw [this]; rfl
  have h2 := hp.map fun p => (p.1, p.2, ((D.find? fun x => x.1 == p.1).map (·.2.2)).getD undef)
  rw [List.map_map] at h2
  have e : D.map ((fun p : Nat × Tmp => (p.1, p.2, ((D.find? fun x => x.1 == p.1).map (·.2.2)).getD undef)) ∘ fun x => (x.1, x.2.1)) = D := by
    conv => rhs; rw [← List.map_id D]
    exact List.map_congr_left (fun x hx => by simp only [Function.comp, id]; rw [hval x hx])
  rw [e] at h2
  exact h2

/-- The whole phase, from nothing done to all done, the end said in the operations' own order. -/
theorem wpAny_phase_all (idx : List (Nat × Tmp)) (L0 : Array Bool) (a0 : Act) (Φ : Done → World → Prop) (fuel : Nat) {w : World}
    (hB : phaseB md ops L0 (idx.map (·.1)) = true) (hn1 : (idx.map (·.1)).Nodup) (hn2 : (idx.map (·.2)).Nodup) (h0 : Φ [] w)
    (hstep : ∀ p ∈ idx, ∀ (D : Done) (w : World) (a : Act), (∀ t, t ∉ idx.map (·.2) → a.eval (.tmp t) = a0.eval (.tmp t)) → Φ D w → p.1 ∉ D.map (·.1) →
      ∃ o v w', ops[p.1]? = some o ∧ o.dst = some p.2 ∧ o.guard = none ∧ (execOp a.eval o).run P w = .ok (.value v) w' ∧ Φ (D ++ [(p.1, p.2, v)]) w')
    (hfin : ∀ (val : Nat → Value) (D : Done) (w : World), (∀ p ∈ idx, (p.1, p.2, val p.1) ∈ D) → Φ D w →
      wpAny P md ops Q fuel (setAll L0 (idx.map fun p => (p.1, p.2, val p.1))) (putAll a0 (idx.map fun p => (p.1, p.2, val p.1))) w) :
    wpAny P md ops Q (fuel + idx.length) L0 a0 w := by
  refine wpAny_phase idx L0 a0 Φ fuel hB hn1 hn2 hstep ?_ idx.length [] idx w rfl (List.Perm.refl _) h0
  intro D w hp hΦ
  obtain ⟨val, hv⟩ := perm_val hp hn1
  have hnd2 : (D.map fun x => x.2.1).Nodup := by
    have h := ((hp.map (·.2)).nodup_iff).2 hn2
    rw [List.map_map] at h
    exact h
  rw [setAll_perm L0 hv, putAll_perm a0 hv hnd2]
  exact hfin val D w (fun p hp' => hv.mem_iff.2 (List.mem_map.2 ⟨p, hp', rfl⟩)) hΦ

/-- The same, the frame known by some slots. -/
theorem wpAny_phase_ev (idx : List (Nat × Tmp)) (ev : List (Tmp × Value)) (L0 : Array Bool) (a0 : Act) (Φ : Done → World → Prop) (fuel : Nat) {w : World}
    (hB : phaseB md ops L0 (idx.map (·.1)) = true) (hn1 : (idx.map (·.1)).Nodup) (hn2 : (idx.map (·.2)).Nodup)
    (hev : ev.map (fun p => a0.eval (.tmp p.1)) = ev.map (·.2)) (hdis : ∀ q ∈ ev, q.1 ∉ idx.map (·.2)) (h0 : Φ [] w)
    (hstep : ∀ p ∈ idx, ∀ (D : Done) (w : World) (a : Act), (∀ q ∈ ev, a.eval (.tmp q.1) = q.2) → Φ D w → p.1 ∉ D.map (·.1) →
      ∃ o v w', ops[p.1]? = some o ∧ o.dst = some p.2 ∧ o.guard = none ∧ (execOp a.eval o).run P w = .ok (.value v) w' ∧ Φ (D ++ [(p.1, p.2, v)]) w')
    (hfin : ∀ (val : Nat → Value) (D : Done) (w : World), (∀ p ∈ idx, (p.1, p.2, val p.1) ∈ D) → Φ D w →
      wpAny P md ops Q fuel (setAll L0 (idx.map fun p => (p.1, p.2, val p.1))) (putAll a0 (idx.map fun p => (p.1, p.2, val p.1))) w) :
    wpAny P md ops Q (fuel + idx.length) L0 a0 w := by
  refine wpAny_phase_all idx L0 a0 Φ fuel hB hn1 hn2 h0 (fun p hp D w a ha hΦ hnew => hstep p hp D w a (fun q hq => ?_) hΦ hnew) hfin
  rw [ha q.1 (hdis q hq)]
  exact List.map_inj_left.1 hev q hq

/-- 'wpAny_take', the slot named. -/
theorem wpAny_takeAt (i : Nat) (d : Tmp) (v : Value) {oi : Oper} {fuel : Nat} {listed : Array Bool} {a : Act} {w : World} (hi : ops[i]? = some oi)
    (hs : Region.noSelect ops = true) (hf : Region.free md ops listed i = true) (hr : (Region.ready md ops listed).contains i = true) (hd : oi.dst = some d)
    (hQ : ∀ c a w, Q (.panic c) (a.put (some d) v) w → Q (.panic c) a w) (hy : Yields P ops oi v a)
    (h : wpAny P md ops Q fuel (listed.setIfInBounds i true) (a.put (some d) v) w) : wpAny P md ops Q (fuel + 1) listed a w :=
  wpAny_take hi hs hf hr (by rw [hd]; exact hQ) hy (by rw [hd]; exact h)

theorem wpAny_frame {a a' : Act} {fuel : Nat} {listed : Array Bool} {w : World} (h : a = a') (hh : wpAny P md ops Q fuel listed a' w) : wpAny P md ops Q fuel listed a w := by rw [h]; exact hh

/-- The one operation that may come up, its run known. -/
theorem wpAny_oneAt (i : Nat) (d : Tmp) (v : Value) {oi : Oper} {fuel : Nat} {listed : Array Bool} {a : Act} {w w' : World} (hi : ops[i]? = some oi)
    (hr : Region.ready md ops listed = [i]) (hd : oi.dst = some d) (hg : oi.guard = none) (hrun : (execOp a.eval oi).run P w = .ok (.value v) w')
    (h : wpAny P md ops Q fuel (listed.setIfInBounds i true) (a.put (some d) v) w') : wpAny P md ops Q (fuel + 1) listed a w := by
  refine wpAny_all hr (by simp) (fun j hj => ?_)
  simp only [List.mem_singleton] at hj
  subst hj
  unfold wpOp
  rw [hi]
  have hw : Region.wanted oi (yielded ops a.tmps) = true := by simp [Region.wanted, hg]
  simp only [hw, if_true]
  refine .inl ?_
  unfold Oper.wp
  rw [hrun]
  simp only [Oper.upon]
  rw [hd]
  exact h
end
end Go.Proofs.Ybulkbptu
