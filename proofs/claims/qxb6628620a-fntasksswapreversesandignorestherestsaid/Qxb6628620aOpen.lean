import Derived.Test.Qxb6628620aBounds
import Derived.Deep.Strs
namespace Go.Proofs.Qxb6628620a
open Go.RowKit Go.Deep

/-- A slice of texts that was read: the texts lie behind it. -/
theorem open_texts {H : Type} {enc : TypeId × Value → H} {w : World} {base : Nat} {spare : Nat → Bool} {held : Bool} {fuel : Nat} {a : Option Addr} {len cap : Nat} {x : DataW H × List MemPlace}
    (h : DataW.trod enc Try.prog w base spare held fuel 22 [.slice a len cap] = some x) : ∃ ts, TRow w a len ts ∧ len ≤ cap := by
  rcases open_strs Try.underlying22 Try.underlying9 (by kernel_rfl) h with ⟨hcs, _⟩ | ⟨ad, len', cap', m, Sx, hcs, _, hl, _, hmm, _, hx⟩
  · simp at hcs
    obtain ⟨rfl, rfl, rfl⟩ := hcs
    exact ⟨[], ⟨rfl, .inl rfl⟩, Nat.le_refl _⟩
  simp at hcs
  obtain ⟨rfl, rfl, rfl⟩ := hcs
  have hlm : len ≤ m := by rw [hmm]; split <;> omega
  by_cases h0 : len = 0
  · subst h0
    exact ⟨[], ⟨rfl, .inl rfl⟩, hl⟩
  obtain ⟨b, off, spot⟩ := ad
  have hs : spot = none := by simpa [Addr.add] using World.cell?_spot (hx 0 (by omega)).1
  subst hs
  have c : ∀ i, i < len → w.cell? ⟨b, off + i, none⟩ = some (.string (Sx i)) := fun i hi => by
    have := (hx i (by omega)).1
    rwa [WideShapes.add_plain] at this
  refine ⟨(List.range len).map Sx, ⟨by simp, .inr ⟨b, off, rfl, ?_, fun i s hi => ?_⟩⟩, hl⟩
  · exact World.block_lt_of_cell? (h := c 0 (by omega))
  · have hlt : i < len := by
      have := (List.getElem?_eq_some_iff.1 hi).1
      simpa using this
    rw [List.getElem?_map, List.getElem?_range hlt] at hi
    simp at hi
    subst hi
    exact c i hlt
end Go.Proofs.Qxb6628620a
