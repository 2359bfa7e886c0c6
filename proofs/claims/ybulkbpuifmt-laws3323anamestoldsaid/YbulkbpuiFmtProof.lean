import Derived.Test.YbulkbpuiFmtWalk
import Derived.Test.YbulkbpuiFmtTie
import Derived.Test.YbulkbpuiFmtCards
import Derived.ProofKit
import Derived.Stop.JoinedAt
import Derived.Stop.JoinedTold
import Derived.Stop.Texts
import Derived.Stop.ErrReads
import Derived.Stop.LaidErr
import Derived.ShutString
import Derived.OpenShut
import Derived.OpenVars
import Derived.ChangeVars
import Derived.SevenToldRow
import Derived.SevenTiedAt
namespace Go.Proofs.YbulkbpuiFmt
open Go.ChangeShapes Go.WideShapes Go.ChangeAt Go.RowKit Go.Kit
open Go.ChangeMaps (open_string shut_string)
open Go.Extern.Stop Go.Stop Go.Extern

theorem own : ownKnob Ybaf.prog.godebug = none := by kernel_rfl
theorem laidOut : laidOutB Ybaf.pinned.checked.prog = true := by kernel_rfl
theorem stopKnobs : Ybaf.pinned.checked.prog.stopKnobs = [] := by kernel_rfl
theorem quiet (os : Os) : Stop.quiet Ybaf.pinned.checked.prog os := by
  intro k hk
  rw [stopKnobs] at hk
  cases hk
/-- The listed variable's name. -/
def opsName : String := Rows.lawS3323ANamesSpec.vars.headD ""
theorem gN : Ybaf.prog.globalNamed opsName = some 0 := by kernel_rfl
theorem gNType : (Ybaf.prog.globals[0]?).map (·.type) = some 28 := by kernel_rfl
theorem cells28 : Ybaf.prog.cellsOf 28 = 16 := by kernel_rfl
theorem cells27 : Ybaf.prog.cellsOf 27 = 2 := by kernel_rfl
theorem cells9 : Ybaf.prog.cellsOf 9 = 1 := by kernel_rfl

/-- One name out of the table as it reads. -/
theorem name_cell {H : Type} {enc : TypeId × Value → H} {w : World} {base : Nat} {sp : Nat → Bool} {held : Bool} {fuel : Nat} {cs : List Value} {ds : List (DataW H)} {p : List MemPlace}
    (h : DataW.trod enc Ybaf.prog w base sp held fuel 28 cs = some (.agg ds, p)) (i : Nat) (hi : i < 8) (l : List UInt8) (b : DataW H) (hd : ds[i]? = some (.agg [.lit (.string l), b])) :
    cs[2 * i]? = some (.string ⟨l.toArray⟩) := by
  obtain ⟨xs, m, _, hx, hl, hn, hr⟩ := DataW.trod_array Ybaf.underlying28 h
  rw [cells28] at hl
  have hr := hr i hi
  rw [cells27] at hr
  simp only [Prod.mk.injEq, DataW.agg.injEq] at hx
  obtain ⟨rfl, rfl⟩ := hx
  rw [List.getElem?_map] at hd
  cases hxi : xs[i]? with
  | none => rw [hxi] at hd; simp at hd
  | some y =>
    rw [hxi] at hd hr
    obtain ⟨y0, y1, n, he, hlen, h0, h1⟩ := trod_struct2 Ybaf.underlying27 hr
    subst he
    simp only [Option.map_some, Option.some.injEq, DataW.agg.injEq, List.cons.injEq, and_true] at hd
    simp only [cells9, List.drop_zero] at h0
    obtain ⟨s, hs, hy, _⟩ := DataW.trod_string Ybaf.underlying9 h0
    subst hy
    have e1 := hd.1
    simp only [DataW.lit.injEq, Lit.string.injEq] at e1
    have : (cs.drop (i * 2)).head? = some (.string s) := by
      have h2 : ((cs.drop (i * 2)).take 2).take 1 = [.string s] := hs
      match hq : cs.drop (i * 2), h2 with
      | c :: r, h2 => simp at h2; simp [h2]
      | [], h2 => simp at h2
    rw [List.head?_drop] at this
    rw [Nat.mul_comm 2 i, this, ← e1]

theorem cells_of_laid {W : World} (h : laidMet Ybaf.prog Rows.lawS3323ANamesRow.laid W) (c : Nat) (h1 : 1 ≤ c) (h7 : c ≤ 7) : W.cell? ⟨0, 2 * c, none⟩ = some (.string (nm c)) := by
  obtain ⟨ps, ⟨g, t, cs, fuel, p, q, hg, ht, hvar, hd, _, _⟩, _⟩ := h
  obtain rfl := Option.some.inj (gN.symm.trans hg)
  obtain rfl := Option.some.inj (gNType.symm.trans ht)
  have hcell := World.var?_cell gN hvar (2 * c)
  rw [hcell]
  have key := fun l b hx => name_cell hd c (by omega) l b hx
  rcases (show c = 1 ∨ c = 2 ∨ c = 3 ∨ c = 4 ∨ c = 5 ∨ c = 6 ∨ c = 7 by omega) with rfl | rfl | rfl | rfl | rfl | rfl | rfl
  all_goals
    have := key _ _ rfl
    simpa [nm] using this

/-- The table's cells, for the start that is shown. -/
def cells16 : Array Value := #[.string ⟨#[]⟩, .bool false, .string (nm 1), .bool true, .string (nm 2), .bool true, .string (nm 3), .bool true, .string (nm 4), .bool false, .string (nm 5), .bool false, .string (nm 6), .bool true, .string (nm 7), .bool true]
theorem laid_met (os : Os) (args : Array Value) :
    laidMet Ybaf.prog Rows.lawS3323ANamesRow.laid (({ World.holding Ybaf.prog os ⟨#[], #[], []⟩ with heap := (World.holding Ybaf.prog os ⟨#[], #[], []⟩).heap.modify 0 fun
      | .cells _ t frozen => .cells cells16 t frozen
      | o => o } : World).forCall (fun _ _ => 0) ⟨#[], args, []⟩).memory :=
  laidMet_of_run' 8 (by kernel_rfl) (by kernel_rfl)

set_option maxRecDepth 100000 in
theorem lifted (os : Os) (started : os.Started) (H : Type) (enc : TypeId × Value → H) :
    ReturnsInTold none {} Ybaf.checked os 3 .any Input.okWide ((OpenSpec.ofChange Rows.lawS3323ANamesSpec).preRow enc Ybaf.prog Ybaf.f3 [] false Rows.lawS3323ANamesRow.laid)
      (fun F => ((OpenSpec.ofChange Rows.lawS3323ANamesSpec).at F).post enc Ybaf.prog Ybaf.f3 false true false false) (aloneAtReturn Ybaf.prog) nothingAlways := by
  refine returnsInTold_of_row (C := Ybaf.checked) (s := OpenSpec.ofChange Rows.lawS3323ANamesSpec) (by kernel_rfl) own started (by kernel_rfl) Ybaf.func3
    (OpenSpec.witness_stopped_at (enc := enc) (C := Ybaf.checked) false
      ({ World.holding Ybaf.prog os ⟨#[], #[], []⟩ with heap := (World.holding Ybaf.prog os ⟨#[], #[], []⟩).heap.modify 0 fun
      | .cells _ t frozen => .cells cells16 t frozen
      | o => o } : World) #[.int .u8 0] rfl (by kernel_rfl) (by kernel_rfl) (by kernel_rfl)
      (OpenSpec.preRow_of_B rfl 8 (by kernel_rfl) (by kernel_rfl) (laid_met os _))) ?_
  intro F W base args ds gs before _ hF hval0 hW _ _ _ hL _
  have hval : ∀ (j : Nat) t v, Ybaf.f3.params[j]? = some t → args[j]? = some v → Value.okWide Ybaf.prog W .any base t v := hval0
  have hW' := hW
  obtain ⟨p, q, hA0, hV0, rfl, hfz, hnd⟩ := hW
  have hA : DataW.TrodAll enc Ybaf.prog W 0 (fun _ => true) true Ybaf.f3.params.toList args.toList ds p := hA0
  have hV : DataW.TrodVars enc Ybaf.prog W (fun _ => true) [opsName] gs q := hV0
  rw [Ybaf.params3] at hA hval
  obtain ⟨v0, d0, rfl, rfl, h0⟩ := trodAll_one hA
  obtain ⟨c, rfl, rfl, rfl, wc⟩ := open_int Ybaf.underlying5 (hval 0 5 v0 rfl rfl) h0
  obtain ⟨d1, rfl⟩ : ∃ d1, gs = [d1] := by
    obtain ⟨_, _, _, _, d, _, h, _⟩ := trodVars_one hV
    exact ⟨d, h⟩
  clear hA0 hval0
  have hb8 := bounds_u8 wc
  refine (walk F.told c W hF hb8.1 hb8.2 (cells_of_laid hL)).mono fun e W' ⟨he, bel⟩ => ?_
  subst he
  exact ⟨_, rfl, _, _, _, [], [], q, hW', trodAll_mk1 (shut_bool Ybaf.underlying4 _), trodAll_mk1 (shut_int Ybaf.underlying5 wc), Below.trodVars laidOut bel (by kernel_rfl) hV, bel.frame _, fun h => by cases h⟩

theorem proved : Rows.LawS3323ANamesToldSaid :=
  Claim7.holds_of_told_tied_any_at .later 3 Ybaf.f3 _ _ [] _ _ _ _ _ (by kernel_rfl) rfl rfl rfl laidOut (by kernel_rfl) rfl ⟨rfl, rfl, rfl, rfl, rfl, rfl, rfl⟩ rfl rfl (by kernel_rfl) (by kernel_rfl) Ybaf.func3 (by kernel_rfl)
    (of_decide_eq_true (by kernel_rfl)) (of_decide_eq_true (by kernel_rfl)) (by kernel_rfl) rfl stopKnobs.symm (by kernel_rfl)
    (by kernel_rfl) (by kernel_rfl) (by kernel_rfl) (by kernel_rfl) (by kernel_rfl) (by kernel_rfl) (by kernel_rfl) (by kernel_rfl) (by kernel_rfl) rfl (by kernel_rfl) rfl rfl
    rfl rfl
    rfl (by kernel_rfl) (by kernel_rfl) (by kernel_rfl) (by decide) (by kernel_rfl) lawS3323ANames_row_tie
    (OpenClaim.moreEntering_of (by kernel_rfl) (by kernel_rfl) (by kernel_rfl) (by kernel_rfl) (by kernel_rfl) (by kernel_rfl) (by kernel_rfl) (by kernel_rfl) (by kernel_rfl) (by kernel_rfl))
    ⟨_, WideRow.started_initial, quiet _⟩
    (fun os started _ H enc _ => lifted os started H enc)
end Go.Proofs.YbulkbpuiFmt
