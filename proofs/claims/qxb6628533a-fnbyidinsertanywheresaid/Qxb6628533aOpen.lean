import Derived.Test.Qxb6628533aLeaf
import Derived.Lib.SmallJoins
import Derived.Deep.Slices
namespace Go.Proofs.Qxb6628533a
open Go.RowKit Go.Deep Go.Joins

theorem Try.cells25 : Try.prog.cellsOf 25 = 4 := by kernel_rfl

/-- A slice of members that was read: the members lie behind it. -/
theorem open_members {H : Type} {enc : TypeId × Value → H} {w : World} {base : Nat} {spare : Nat → Bool} {held : Bool} {fuel : Nat} {a : Option Addr} {len cap : Nat} {x : DataW H × List MemPlace}
    (h : DataW.trod enc Try.prog w base spare held fuel 23 [.slice a len cap] = some x) : ∃ ms, Row w a len ms := by
  rcases open_slice Try.underlying23 h with ⟨hcs, _⟩ | ⟨ad, len', cap', m, n, D, Pl, hcs, _, hl, _, hmm, _, hx⟩
  · simp at hcs
    obtain ⟨rfl, rfl, rfl⟩ := hcs
    exact ⟨[], rfl, .inl rfl⟩
  simp at hcs
  obtain ⟨rfl, rfl, rfl⟩ := hcs
  have hlm : len ≤ m := by rw [hmm]; split <;> omega
  by_cases h0 : len = 0
  · subst h0
    exact ⟨[], rfl, .inl rfl⟩
  obtain ⟨b, off, spot⟩ := ad
  have hs : spot = none := by
    obtain ⟨cs', h1, _⟩ := hx 0 (by omega)
    rw [Try.cells25] at h1
    obtain ⟨_, hlen, hcell⟩ := World.cells?_some h1
    have q0 := hcell 0 (by omega)
    rw [List.getElem?_eq_getElem (by omega)] at q0
    simpa [Addr.add] using World.cell?_spot q0
  subst hs
  have each : ∀ i, i < len → ∃ q : Mem, w.cell? ⟨b, off + i * 4, none⟩ = some (.string q.id) ∧ w.cell? ⟨b, off + i * 4 + 1, none⟩ = some (.int .u64 q.age) ∧ w.cell? ⟨b, off + i * 4 + 2, none⟩ = some (.string q.client) ∧ w.cell? ⟨b, off + i * 4 + 3, none⟩ = some (.string q.bus) := by
    intro i hi
    obtain ⟨cs', h1, h2⟩ := hx i (by omega)
    rw [Try.cells25] at h1
    obtain ⟨_, hlen, hcell⟩ := World.cells?_some h1
    obtain ⟨y0, y1, y2, y3, k, _, _, t0, t1, t2, t3⟩ := trod_struct4 Try.underlying25 h2
    match cs', hlen with
    | [v0, v1, v2, v3], _ =>
      have c9 : Try.prog.cellsOf 9 = 1 := by kernel_rfl
      have c22 : Try.prog.cellsOf 22 = 1 := by kernel_rfl
      simp only [c9, c22] at t0 t1 t2 t3
      obtain ⟨s0, e0, _⟩ := DataW.trod_string Try.underlying9 t0
      obtain ⟨ag, e1, _⟩ := DataW.trod_int Try.underlying22 t1
      obtain ⟨s1, e2, _⟩ := DataW.trod_string Try.underlying9 t2
      obtain ⟨s2, e3, _⟩ := DataW.trod_string Try.underlying9 t3
      simp at e0 e1 e2 e3
      subst e0 e1 e2 e3
      have q0 := hcell 0 (by omega)
      have q1 := hcell 1 (by omega)
      have q2 := hcell 2 (by omega)
      have q3 := hcell 3 (by omega)
      simp only [WideShapes.add_plain] at q0 q1 q2 q3
      exact ⟨⟨s0, ag, s1, s2⟩, q0, q1, q2, q3⟩
  have : Inhabited Mem := ⟨zeroM⟩
  obtain ⟨M, hM⟩ := choose_lt each
  refine ⟨(List.range len).map M, by simp, .inr ⟨b, off, rfl, ?_, fun i q hq => ?_⟩⟩
  · exact World.block_lt_of_cell? (h := (hM 0 (by omega)).1)
  · have hi : i < len := by
      have := (List.getElem?_eq_some_iff.1 hq).1
      simpa using this
    rw [List.getElem?_map, List.getElem?_range hi] at hq
    simp at hq
    subst hq
    exact hM i hi
end Go.Proofs.Qxb6628533a
