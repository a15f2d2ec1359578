import Derived.Test.Qxb6628620aBounds
namespace Go.Proofs.Qxb6628620a
open Go.RowKit

theorem eqP (x : Addr) (w : World) : (binOp .eql 25 (.pointer (some x)) (.pointer (some x))).run Try.prog w = .ok (.bool true) w := by
  obtain ⟨j, hj, _⟩ := Option.map_eq_some_iff.1 (show (Try.prog.info? 32).map (fun i => i.size) = some 5 by kernel_rfl)
  exact run_eql_ptr_same w x Try.underlying25 hj
theorem neP (x : Addr) (w : World) : (binOp .neq 25 (.pointer (some x)) (.pointer (some x))).run Try.prog w = .ok (.bool false) w := by
  obtain ⟨j, hj, _⟩ := Option.map_eq_some_iff.1 (show (Try.prog.info? 32).map (fun i => i.size) = some 5 by kernel_rfl)
  exact Lib.run_neq_ptr_same w x Try.underlying25 hj

theorem only_nil (a : Option Addr) (cap : Nat) (w : World) :
    Calls Try.prog 8 #[.slice a 0 cap, .pointer none] w fun e w' => e = .returned (.bool true) ∧ w' = w := by
  go_enter Try.func8, Try.ntmps8
  go_wp2
  go_ret
  exact ⟨rfl, rfl⟩

theorem only_one (g cap : Nat) (x : Addr) (w : World) (hc : w.cell? ⟨g, 0, none⟩ = some (.pointer (some x))) :
    Calls Try.prog 8 #[.slice (some ⟨g, 0, none⟩) 1 cap, .pointer (some x)] w fun e w' => e = .returned (.bool true) ∧ w' = w := by
  have he := eqP x
  go_enter Try.func8, Try.ntmps8
  go_wp2
  go_ret
  exact ⟨rfl, rfl⟩

/-- A cell stays where nothing old turns. -/
theorem hold {W W' : World} (hb : Below W.heap.size W W') {b o : Nat} {v : Value} (h : W.cell? ⟨b, o, none⟩ = some v) : W'.cell? ⟨b, o, none⟩ = some v :=
  (hb.cell (p := ⟨b, o, none⟩) (World.block_lt_of_cell? (h := h))).trans h

/-- A slice value that leads to these values. -/
def PRow (w : World) (v : Value) (ps : List Value) : Prop := ∃ a cap, v = .slice a ps.length cap ∧ (ps = [] ∨ ∃ g, a = some ⟨g, 0, none⟩ ∧ ∀ i u, ps[i]? = some u → w.cell? ⟨g, i, none⟩ = some u)

theorem PRow.of {w : World} {B : Nat} {v : Value} {ps : List Value} (h : w.ownsRow B 25 1 v ps.length ps) : PRow w v ps := by
  rcases h.2 with ⟨hv, h0⟩ | ⟨g, cap, cur, hv, _⟩
  · have : ps = [] := List.length_eq_zero_iff.1 h0
    subst this
    exact ⟨none, 0, hv, .inl rfl⟩
  · refine ⟨_, cap, hv, .inr ⟨g, rfl, fun i u hi => ?_⟩⟩
    have c := h.cells (g := g) (by rw [hv]; rfl) i u hi
    rwa [WideShapes.add_plain, Nat.zero_add] at c

theorem PRow.keep {w w' : World} {v : Value} {ps : List Value} (h : PRow w v ps) (hb : Below w.heap.size w w') : PRow w' v ps := by
  obtain ⟨a, cap, hv, h0 | ⟨g, ha, hc⟩⟩ := h
  · exact ⟨a, cap, hv, .inl h0⟩
  · exact ⟨a, cap, hv, .inr ⟨g, ha, fun i u hi => hold hb (hc i u hi)⟩⟩

theorem PRow.nil {w : World} {v : Value} (h : PRow w v []) : ∃ a cap, v = .slice a 0 cap := by
  obtain ⟨a, cap, hv, _⟩ := h
  exact ⟨a, cap, hv⟩
theorem PRow.one {w : World} {v x : Value} (h : PRow w v [x]) : ∃ g cap, v = .slice (some ⟨g, 0, none⟩) 1 cap ∧ w.cell? ⟨g, 0, none⟩ = some x := by
  obtain ⟨a, cap, hv, h0 | ⟨g, rfl, hc⟩⟩ := h
  · cases h0
  · exact ⟨g, cap, hv, hc 0 x rfl⟩
theorem PRow.two {w : World} {v x y : Value} (h : PRow w v [x, y]) : ∃ g cap, v = .slice (some ⟨g, 0, none⟩) 2 cap ∧ w.cell? ⟨g, 0, none⟩ = some x ∧ w.cell? ⟨g, 1, none⟩ = some y := by
  obtain ⟨a, cap, hv, h0 | ⟨g, rfl, hc⟩⟩ := h
  · cases h0
  · exact ⟨g, cap, hv, hc 0 x rfl, hc 1 y rfl⟩

theorem tasks_at (C : Nat) (p q : Option Addr) (w : World) (hp : w.cell? ⟨C, 26, none⟩ = some (.pointer p)) (hq : w.cell? ⟨C, 27, none⟩ = some (.pointer q)) (ps : List Value) (hk : keptP p q 2 = ps) :
    Calls Try.prog 7 #[.pointer (some ⟨C, 0, none⟩)] w fun e w' => ∃ v, e = .returned v ∧ PRow w' v ps ∧ Below w.heap.size w w' := by
  refine (tasks_any C p q w hp hq).mono ?_
  rintro e w' ⟨v, he, hown, hb⟩
  rw [hk] at hown
  exact ⟨v, he, PRow.of hown, hb⟩
end Go.Proofs.Qxb6628620a
