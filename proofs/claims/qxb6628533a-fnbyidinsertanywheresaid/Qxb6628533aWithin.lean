import Derived.Test.Qxb6628533aBounds
namespace Go.Proofs.Qxb6628533a
open Go.RowKit

set_option maxHeartbeats 2000000 in
set_option maxRecDepth 100000 in
theorem within_row (b off n c : Nat) (t1 t2 t3 t4 : ByteArray) (ms : List Mem) (w : World) (hn : ms.length = n) (hl : Lies w b off ms) (hb : b < w.heap.size) (hN : n ≤ 1048576) :
    Calls Try.prog 6 #[.slice (some ⟨b, off, none⟩) n c, .string t1, .string t2, .string t3, .string t4] w fun e w' => SomeBool e ∧ Below w.heap.size w w' := by
  have HN : Hid (ms.length = n) := hn
  clear hn
  by_cases h1 : (1048576 : Int) < t1.size
  · go_enter Try.func6, Try.ntmps6
    go_wp2
    go_ret
    exact ⟨SomeBool.mk _, Below.refl _ _⟩
  by_cases h2 : (1048576 : Int) < t2.size
  · go_enter Try.func6, Try.ntmps6
    go_wp2
    go_ret
    exact ⟨SomeBool.mk _, Below.refl _ _⟩
  by_cases h3 : (1048576 : Int) < t3.size
  · go_enter Try.func6, Try.ntmps6
    go_wp2
    go_ret
    exact ⟨SomeBool.mk _, Below.refl _ _⟩
  by_cases h4 : (1048576 : Int) < t4.size
  · go_enter Try.func6, Try.ntmps6
    go_wp2
    go_ret
    exact ⟨SomeBool.mk _, Below.refl _ _⟩
  by_cases h5 : (1048576 : Int) < t1.size + t2.size + t3.size + t4.size
  · go_enter Try.func6, Try.ntmps6
    go_wp2
    go_ret
    exact ⟨SomeBool.mk _, Below.refl _ _⟩
  go_enter Try.func6, Try.ntmps6
  go_wp2
  go_loopw [11, 12] (fun t i wr => ∃ (k : Nat) (q : Int), k ≤ n ∧ i = .int .i64 k ∧ t = .int .i64 q ∧ 0 ≤ q ∧ q ≤ 1048576 ∧ Below w.heap.size w wr) (fun _ i _ => n - (intOf i).toNat)
  case atStart => exact ⟨0, _, Nat.zero_le _, rfl, rfl, by omega, by omega, Below.refl _ _⟩
  case round =>
    obtain ⟨k, q, hk, rfl, rfl, hq0, hq1, hbel⟩ := hrel
    clear h1 h2 h3 h4 h5
    by_cases hlt : k < n
    · obtain ⟨⟨s0, a, s1, s2⟩, hm⟩ : ∃ m, ms[k]? = some m := ⟨ms[k]'(by have := HN.out; omega), List.getElem?_eq_getElem _⟩
      obtain ⟨c0, c1, c2, c3⟩ := hl k _ hm
      simp only at c0 c1 c2 c3
      have hcell : ∀ o, wr.cell? ⟨b, o, none⟩ = w.cell? ⟨b, o, none⟩ := fun o => hbel.cell (p := ⟨b, o, none⟩) hb
      have d0 : wr.cell? ⟨b, off + k * 4, none⟩ = some (.string s0) := (hcell _).trans c0
      have d2 : wr.cell? ⟨b, off + k * 4 + 2, none⟩ = some (.string s1) := (hcell _).trans c2
      have d3 : wr.cell? ⟨b, off + k * 4 + 3, none⟩ = some (.string s2) := (hcell _).trans c3
      clear hm hl c1 hcell c0 c2 c3
      have hlt' : (k : Int) < (n : Int) := by omega
      by_cases h1 : (1048576 : Int) < s0.size
      · go_wp2
        go_ret
        exact ⟨SomeBool.mk _, hbel⟩
      by_cases h2 : (1048576 : Int) < s1.size
      · go_wp2
        go_ret
        exact ⟨SomeBool.mk _, hbel⟩
      by_cases h3 : (1048576 : Int) < s2.size
      · go_wp2
        go_ret
        exact ⟨SomeBool.mk _, hbel⟩
      go_wp2
      go_quiet (fail)
      go_wp2
      · go_ret
        exact ⟨SomeBool.mk _, below_drewN hbel _⟩
      · go_roundw
        case rel => exact ⟨k + 1, _, by omega, by go_num, rfl, by omega, by omega, below_drewN hbel _⟩
        case measure => simp [intOf]; omega
    · clear hl
      go_wp2
      go_ret
      exact ⟨SomeBool.mk _, hbel⟩

set_option maxRecDepth 100000 in
theorem within_empty (a : Option Addr) (c : Nat) (t1 t2 t3 t4 : ByteArray) (w : World) :
    Calls Try.prog 6 #[.slice a 0 c, .string t1, .string t2, .string t3, .string t4] w fun e w' => SomeBool e ∧ Below w.heap.size w w' := by
  by_cases h1 : (1048576 : Int) < t1.size
  · go_enter Try.func6, Try.ntmps6
    go_wp2
    go_ret
    exact ⟨SomeBool.mk _, Below.refl _ _⟩
  by_cases h2 : (1048576 : Int) < t2.size
  · go_enter Try.func6, Try.ntmps6
    go_wp2
    go_ret
    exact ⟨SomeBool.mk _, Below.refl _ _⟩
  by_cases h3 : (1048576 : Int) < t3.size
  · go_enter Try.func6, Try.ntmps6
    go_wp2
    go_ret
    exact ⟨SomeBool.mk _, Below.refl _ _⟩
  by_cases h4 : (1048576 : Int) < t4.size
  · go_enter Try.func6, Try.ntmps6
    go_wp2
    go_ret
    exact ⟨SomeBool.mk _, Below.refl _ _⟩
  by_cases h5 : (1048576 : Int) < t1.size + t2.size + t3.size + t4.size
  · go_enter Try.func6, Try.ntmps6
    go_wp2
    go_ret
    exact ⟨SomeBool.mk _, Below.refl _ _⟩
  go_enter Try.func6, Try.ntmps6
  go_wp2
  go_loop [12] (fun i => i = .int .i64 0) (fun _ => 0)
  case atStart => rfl
  case round =>
    subst hrel
    go_wp2
    go_ret
    exact ⟨SomeBool.mk _, Below.refl _ _⟩

theorem within_any (a : Option Addr) (n c : Nat) (t1 t2 t3 t4 : ByteArray) (ms : List Mem) (w : World) (hr : Row w a n ms) (hN : n ≤ 1048576) :
    Calls Try.prog 6 #[.slice a n c, .string t1, .string t2, .string t3, .string t4] w fun e w' => SomeBool e ∧ Below w.heap.size w w' := by
  obtain ⟨hn, rfl | ⟨b, off, rfl, hb, hl⟩⟩ := hr
  · exact within_empty a c t1 t2 t3 t4 w
  · exact within_row b off n c t1 t2 t3 t4 ms w hn hl hb hN

end Go.Proofs.Qxb6628533a
