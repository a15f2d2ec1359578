import Derived.Test.Qxb6628533aLeaf
namespace Go.Proofs.Qxb6628533a
open Go.RowKit

/-- The call ends with a bool. -/
def SomeBool (e : Ending) : Prop := ∃ r, e = .returned (.bool r)
theorem SomeBool.mk (r : Bool) : SomeBool (.returned (.bool r)) := ⟨r, rfl⟩

set_option maxHeartbeats 1000000 in
theorem bytesCut_row (v l p : Int) (b off n c : Nat) (id : ByteArray) (ms : List Mem) (w : World) (hn : ms.length = n) (hl : Lies w b off ms) (h0 : 0 < n) (hN : n ≤ 1048576) :
    Calls Try.prog 10 #[.int .u64 v, .int .u64 l, .slice (some ⟨b, off, none⟩) n c, .int .i64 p, .string id] w fun e w' => SomeBool e ∧ w' = w := by
  have HN : Hid (ms.length = n) := hn
  clear hn
  have g0 : ¬ (1048576 : Int) < (n : Int) := by omega
  go_enter Try.func10, Try.ntmps10
  go_wp2
  go_loop [11, 12] (fun t i => ∃ (k : Nat) (q : Int), k ≤ n ∧ i = .int .i64 k ∧ t = .int .i64 q ∧ 0 ≤ q ∧ q ≤ 1048576) (fun _ i => n - (intOf i).toNat)
  case atStart => exact ⟨0, n, Nat.zero_le _, rfl, rfl, by omega, by omega⟩
  case round =>
    obtain ⟨k, q, hk, rfl, rfl, hq0, hq1⟩ := hrel
    by_cases hlt : k < n
    · obtain ⟨⟨s0, a, s1, s2⟩, hm⟩ : ∃ m, ms[k]? = some m := ⟨ms[k]'(by have := HN.out; omega), List.getElem?_eq_getElem _⟩
      obtain ⟨c0, c1, c2, c3⟩ := hl k _ hm
      simp only at c0 c1 c2 c3
      clear hm hl c1
      go_wp2
      all_goals first | (go_ret; exact ⟨SomeBool.mk _, rfl⟩) | skip
      go_round
      case rel => exact ⟨k + 1, _, by omega, by go_num, rfl, by omega, by omega⟩
      case measure => simp [intOf]; omega
    · go_wp2
      all_goals (go_ret; exact ⟨SomeBool.mk _, rfl⟩)

theorem bytesCut_empty (v l p : Int) (a : Option Addr) (c : Nat) (id : ByteArray) (w : World) :
    Calls Try.prog 10 #[.int .u64 v, .int .u64 l, .slice a 0 c, .int .i64 p, .string id] w fun e w' => SomeBool e ∧ w' = w := by
  go_enter Try.func10, Try.ntmps10
  go_wp2
  go_loop [11, 12] (fun t i => t = .int .i64 0 ∧ i = .int .i64 0) (fun _ _ => 0)
  case atStart => exact ⟨rfl, rfl⟩
  case round =>
    obtain ⟨rfl, rfl⟩ := hrel
    go_wp2
    all_goals (go_ret; exact ⟨SomeBool.mk _, rfl⟩)

theorem bytesCut_big (v l p : Int) (a : Option Addr) (n c : Nat) (id : ByteArray) (w : World) (hN : 1048576 < n) :
    Calls Try.prog 10 #[.int .u64 v, .int .u64 l, .slice a n c, .int .i64 p, .string id] w fun e w' => e = .returned (.bool false) ∧ w' = w := by
  have g0 : (1048576 : Int) < (n : Int) := by omega
  go_enter Try.func10, Try.ntmps10
  go_wp2
  go_ret
  exact ⟨rfl, rfl⟩

/-- The call ends with a bool; where it says yes the slice is short. -/
def Fits (n : Nat) (e : Ending) : Prop := ∃ r, e = .returned (.bool r) ∧ (r = true → n ≤ 1048576)

theorem bytesCut_any (v l p : Int) (a : Option Addr) (n c : Nat) (id : ByteArray) (ms : List Mem) (w : World) (hr : Row w a n ms) :
    Calls Try.prog 10 #[.int .u64 v, .int .u64 l, .slice a n c, .int .i64 p, .string id] w fun e w' => Fits n e ∧ w' = w := by
  by_cases hN : n ≤ 1048576
  · have key : Calls Try.prog 10 #[.int .u64 v, .int .u64 l, .slice a n c, .int .i64 p, .string id] w fun e w' => SomeBool e ∧ w' = w := by
      by_cases h0 : n = 0
      · subst h0
        exact bytesCut_empty v l p a c id w
      · obtain ⟨hn, rfl | ⟨b, off, rfl, hb, hl⟩⟩ := hr
        · exact absurd rfl h0
        · exact bytesCut_row v l p b off n c id ms w hn hl (by omega) hN
    refine key.mono fun e w' ⟨⟨r, hr⟩, hw⟩ => ⟨⟨r, hr, fun _ => hN⟩, hw⟩
  · exact (bytesCut_big v l p a n c id w (by omega)).mono fun e w' ⟨he, hw⟩ => ⟨⟨false, he, by simp⟩, hw⟩

set_option maxHeartbeats 1000000 in
set_option maxRecDepth 100000 in
theorem bytesIns_row (v l p : Int) (b off n c : Nat) (x : Mem) (id : ByteArray) (ms : List Mem) (w : World) (hn : ms.length = n) (hl : Lies w b off ms) (hb : b < w.heap.size) (h0 : 0 < n) (hN : n ≤ 1048576) :
    Calls Try.prog 5 #[.int .u64 v, .int .u64 l, .slice (some ⟨b, off, none⟩) n c, x.val, .int .i64 p, .string id] w fun e w' => SomeBool e ∧ Below w.heap.size w w' := by
  obtain ⟨x0, xa, x1, x2⟩ := x
  simp only [Mem.val]
  have HN : Hid (ms.length = n) := hn
  clear hn
  have g0 : ¬ (1048576 : Int) < (n : Int) := by omega
  go_enter Try.func5, Try.ntmps5
  go_wp2
  go_loop [13, 14] (fun t i => ∃ (k : Nat) (q : Int), k ≤ n ∧ i = .int .i64 k ∧ t = .int .i64 q ∧ 0 ≤ q ∧ q ≤ 1048576) (fun _ i => n - (intOf i).toNat)
  case atStart => exact ⟨0, n, Nat.zero_le _, rfl, rfl, by omega, by omega⟩
  case round =>
    obtain ⟨k, q, hk, rfl, rfl, hq0, hq1⟩ := hrel
    by_cases hlt : k < n
    · obtain ⟨⟨s0, a, s1, s2⟩, hm⟩ : ∃ m, ms[k]? = some m := ⟨ms[k]'(by have := HN.out; omega), List.getElem?_eq_getElem _⟩
      obtain ⟨c0, c1, c2, c3⟩ := hl k _ hm
      simp only at c0 c1 c2 c3
      clear hm hl c1
      go_wp2
      all_goals first | (go_ret; exact ⟨SomeBool.mk _, (Below.refl _ _).alloc (Nat.le_refl _) _⟩) | skip
      go_round
      case rel => exact ⟨k + 1, _, by omega, by go_num, rfl, by omega, by omega⟩
      case measure => simp [intOf]; omega
    · clear hl
      go_wp2
      all_goals (go_ret; exact ⟨SomeBool.mk _, (Below.refl _ _).alloc (Nat.le_refl _) _⟩)

theorem bytesIns_empty (v l p : Int) (a : Option Addr) (c : Nat) (x : Mem) (id : ByteArray) (w : World) :
    Calls Try.prog 5 #[.int .u64 v, .int .u64 l, .slice a 0 c, x.val, .int .i64 p, .string id] w fun e w' => SomeBool e ∧ Below w.heap.size w w' := by
  obtain ⟨x0, xa, x1, x2⟩ := x
  simp only [Mem.val]
  go_enter Try.func5, Try.ntmps5
  go_wp2
  go_loop [13, 14] (fun t i => t = .int .i64 0 ∧ i = .int .i64 0) (fun _ _ => 0)
  case atStart => exact ⟨rfl, rfl⟩
  case round =>
    obtain ⟨rfl, rfl⟩ := hrel
    go_wp2
    all_goals (go_ret; exact ⟨SomeBool.mk _, (Below.refl _ _).alloc (Nat.le_refl _) _⟩)

theorem bytesIns_big (v l p : Int) (a : Option Addr) (n c : Nat) (x : Mem) (id : ByteArray) (w : World) (hN : 1048576 < n) :
    Calls Try.prog 5 #[.int .u64 v, .int .u64 l, .slice a n c, x.val, .int .i64 p, .string id] w fun e w' => e = .returned (.bool false) ∧ Below w.heap.size w w' := by
  obtain ⟨x0, xa, x1, x2⟩ := x
  simp only [Mem.val]
  have g0 : (1048576 : Int) < (n : Int) := by omega
  go_enter Try.func5, Try.ntmps5
  go_wp2
  go_ret
  exact ⟨rfl, (Below.refl _ _).alloc (Nat.le_refl _) _⟩

theorem bytesIns_any (v l p : Int) (a : Option Addr) (n c : Nat) (x : Mem) (id : ByteArray) (ms : List Mem) (w : World) (hr : Row w a n ms) :
    Calls Try.prog 5 #[.int .u64 v, .int .u64 l, .slice a n c, x.val, .int .i64 p, .string id] w fun e w' => Fits n e ∧ Below w.heap.size w w' := by
  by_cases hN : n ≤ 1048576
  · have key : Calls Try.prog 5 #[.int .u64 v, .int .u64 l, .slice a n c, x.val, .int .i64 p, .string id] w fun e w' => SomeBool e ∧ Below w.heap.size w w' := by
      by_cases h0 : n = 0
      · subst h0
        exact bytesIns_empty v l p a c x id w
      · obtain ⟨hn, rfl | ⟨b, off, rfl, hb, hl⟩⟩ := hr
        · exact absurd rfl h0
        · exact bytesIns_row v l p b off n c x id ms w hn hl hb (by omega) hN
    refine key.mono fun e w' ⟨⟨r, hr⟩, hw⟩ => ⟨⟨r, hr, fun _ => hN⟩, hw⟩
  · exact (bytesIns_big v l p a n c x id w (by omega)).mono fun e w' ⟨he, hw⟩ => ⟨⟨false, he, by simp⟩, hw⟩

end Go.Proofs.Qxb6628533a
