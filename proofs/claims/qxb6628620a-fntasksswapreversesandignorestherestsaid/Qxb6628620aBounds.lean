import Derived.Test.Qxb6628620aTasks
namespace Go.Proofs.Qxb6628620a
open Go.RowKit

/-- The texts lie in memory behind the slice's address. -/
def TLies (w : World) (b off : Nat) (ts : List ByteArray) : Prop := ∀ i s, ts[i]? = some s → w.cell? ⟨b, off + i, none⟩ = some (.string s)
/-- The slice value leads to the texts. -/
def TRow (w : World) (a : Option Addr) (n : Nat) (ts : List ByteArray) : Prop := ts.length = n ∧ (n = 0 ∨ ∃ b off, a = some ⟨b, off, none⟩ ∧ b < w.heap.size ∧ TLies w b off ts)

theorem TRow.at {w : World} {a : Option Addr} {n : Nat} {ts : List ByteArray} (h : TRow w a n ts) {k : Nat} (hk : k < n) : ∃ b off s, a = some ⟨b, off, none⟩ ∧ w.cell? ⟨b, off + k, none⟩ = some (.string s) := by
  obtain ⟨hn, h0 | ⟨b, off, rfl, _, hl⟩⟩ := h
  · omega
  · exact ⟨b, off, ts[k]'(by omega), rfl, hl k _ (List.getElem?_eq_getElem _)⟩

/-- The call ends with a bool. -/
def SomeBool (e : Ending) : Prop := ∃ r, e = .returned (.bool r)
theorem SomeBool.mk (r : Bool) : SomeBool (.returned (.bool r)) := ⟨r, rfl⟩

set_option maxHeartbeats 2000000 in
set_option maxRecDepth 100000 in
theorem bytes1_any (p q : Bool) (s1 s2 : ByteArray) (a : Option Addr) (n c : Nat) (xa : List ByteArray) (b : Option Addr) (m d : Nat) (xb : List ByteArray) (w : World) (ha : TRow w a n xa) (hb : TRow w b m xb) :
    Calls Try.prog 5 #[.bool p, .string s1, .slice a n c, .bool q, .string s2, .slice b m d] w fun e w' => SomeBool e ∧ w' = w := by
  have HA : Hid (TRow w a n xa) := ha
  have HB : Hid (TRow w b m xb) := hb
  clear ha hb
  go_enter Try.func5, Try.ntmps5
  go_wp2
  all_goals first | (go_ret; exact ⟨SomeBool.mk _, rfl⟩) | skip
  go_loop [13, 14] (fun t i => ∃ (k : Nat) (z : Int), k ≤ n ∧ i = .int .i64 k ∧ t = .int .i64 z ∧ 0 ≤ z ∧ z ≤ 1048576) (fun _ i => n - (intOf i).toNat)
  case atStart => exact ⟨0, _, Nat.zero_le _, rfl, rfl, by omega, by omega⟩
  case round =>
    obtain ⟨k, z, hk, rfl, rfl, hq0, hq1⟩ := hrel
    by_cases hlt : k < n
    · obtain ⟨b1, off, s, rfl, c0⟩ := HA.out.at hlt
      go_wp2
      all_goals first | (go_ret; exact ⟨SomeBool.mk _, rfl⟩) | skip
      go_round
      case rel => exact ⟨k + 1, _, by omega, by go_num, rfl, by omega, by omega⟩
      case measure => simp [intOf]; omega
    · go_wp2
      all_goals first | (go_ret; exact ⟨SomeBool.mk _, rfl⟩) | skip
      clear hlt hk
      go_loop [13, 15] (fun t i => ∃ (k : Nat) (z : Int), k ≤ m ∧ i = .int .i64 k ∧ t = .int .i64 z ∧ 0 ≤ z ∧ z ≤ 1048576) (fun _ i => m - (intOf i).toNat)
      case atStart => exact ⟨0, _, Nat.zero_le _, rfl, rfl, by omega, by omega⟩
      case round =>
        obtain ⟨k2, z2, hk, rfl, rfl, hq2, hq3⟩ := hrel
        by_cases hlt : k2 < m
        · obtain ⟨b1, off, s, rfl, c0⟩ := HB.out.at hlt
          go_wp2
          all_goals first | (go_ret; exact ⟨SomeBool.mk _, rfl⟩) | skip
          go_round
          case rel => exact ⟨k2 + 1, _, by omega, by go_num, rfl, by omega, by omega⟩
          case measure => simp [intOf]; omega
        · go_wp2
          go_ret
          exact ⟨SomeBool.mk _, rfl⟩

set_option maxHeartbeats 2000000 in
set_option maxRecDepth 100000 in
theorem bytes2_any (g1 g2 g3 : ByteArray) (p q : Bool) (s1 s2 : ByteArray) (a : Option Addr) (n c : Nat) (xa : List ByteArray) (b : Option Addr) (m d : Nat) (xb : List ByteArray) (w : World) (ha : TRow w a n xa) (hb : TRow w b m xb) :
    Calls Try.prog 9 #[.string g1, .string g2, .string g3, .bool p, .string s1, .slice a n c, .bool q, .string s2, .slice b m d] w fun e w' => SomeBool e ∧ w' = w := by
  have HA : Hid (TRow w a n xa) := ha
  have HB : Hid (TRow w b m xb) := hb
  clear ha hb
  go_enter Try.func9, Try.ntmps9
  go_wp2
  all_goals first | (go_ret; exact ⟨SomeBool.mk _, rfl⟩) | skip
  go_loop [19, 20] (fun t i => ∃ (k : Nat) (z : Int), k ≤ n ∧ i = .int .i64 k ∧ t = .int .i64 z ∧ 0 ≤ z ∧ z ≤ 1048576) (fun _ i => n - (intOf i).toNat)
  case atStart => exact ⟨0, _, Nat.zero_le _, rfl, rfl, by omega, by omega⟩
  case round =>
    obtain ⟨k, z, hk, rfl, rfl, hq0, hq1⟩ := hrel
    by_cases hlt : k < n
    · obtain ⟨b1, off, s, rfl, c0⟩ := HA.out.at hlt
      go_wp2
      all_goals first | (go_ret; exact ⟨SomeBool.mk _, rfl⟩) | skip
      go_round
      case rel => exact ⟨k + 1, _, by omega, by go_num, rfl, by omega, by omega⟩
      case measure => simp [intOf]; omega
    · go_wp2
      all_goals first | (go_ret; exact ⟨SomeBool.mk _, rfl⟩) | skip
      clear hlt hk
      go_loop [19, 21] (fun t i => ∃ (k : Nat) (z : Int), k ≤ m ∧ i = .int .i64 k ∧ t = .int .i64 z ∧ 0 ≤ z ∧ z ≤ 1048576) (fun _ i => m - (intOf i).toNat)
      case atStart => exact ⟨0, _, Nat.zero_le _, rfl, rfl, by omega, by omega⟩
      case round =>
        obtain ⟨k2, z2, hk, rfl, rfl, hq2, hq3⟩ := hrel
        by_cases hlt : k2 < m
        · obtain ⟨b1, off, s, rfl, c0⟩ := HB.out.at hlt
          go_wp2
          all_goals first | (go_ret; exact ⟨SomeBool.mk _, rfl⟩) | skip
          go_round
          case rel => exact ⟨k2 + 1, _, by omega, by go_num, rfl, by omega, by omega⟩
          case measure => simp [intOf]; omega
        · go_wp2
          go_ret
          exact ⟨SomeBool.mk _, rfl⟩

set_option maxHeartbeats 2000000 in
set_option maxRecDepth 100000 in
theorem size_any (s1 s2 : ByteArray) (a : Option Addr) (n c : Nat) (xa : List ByteArray) (b : Option Addr) (m d : Nat) (xb : List ByteArray) (w : World) (ha : TRow w a n xa) (hb : TRow w b m xb) :
    Calls Try.prog 6 #[.string s1, .slice a n c, .string s2, .slice b m d] w fun e w' => SomeBool e ∧ w' = w := by
  have HA : Hid (TRow w a n xa) := ha
  have HB : Hid (TRow w b m xb) := hb
  clear ha hb
  by_cases h1 : (1048576 : Int) < s1.size
  · go_enter Try.func6, Try.ntmps6
    go_wp2
    go_ret
    exact ⟨SomeBool.mk _, rfl⟩
  by_cases h2 : (1048576 : Int) < s2.size
  · go_enter Try.func6, Try.ntmps6
    go_wp2
    go_ret
    exact ⟨SomeBool.mk _, rfl⟩
  by_cases h3 : (65536 : Int) < n
  · go_enter Try.func6, Try.ntmps6
    go_wp2
    go_ret
    exact ⟨SomeBool.mk _, rfl⟩
  by_cases h4 : (65536 : Int) < m
  · go_enter Try.func6, Try.ntmps6
    go_wp2
    go_ret
    exact ⟨SomeBool.mk _, rfl⟩
  go_enter Try.func6, Try.ntmps6
  go_wp2
  all_goals first | (go_ret; exact ⟨SomeBool.mk _, rfl⟩) | skip
  go_loop [9, 10] (fun t i => ∃ (k : Nat) (z : Int), k ≤ n ∧ i = .int .i64 k ∧ t = .int .i64 z ∧ 0 ≤ z ∧ z ≤ 1048576) (fun _ i => n - (intOf i).toNat)
  case atStart => exact ⟨0, _, Nat.zero_le _, rfl, rfl, by omega, by omega⟩
  case round =>
    obtain ⟨k, z, hk, rfl, rfl, hq0, hq1⟩ := hrel
    by_cases hlt : k < n
    · obtain ⟨b1, off, s, rfl, c0⟩ := HA.out.at hlt
      go_wp2
      all_goals first | (go_ret; exact ⟨SomeBool.mk _, rfl⟩) | skip
      go_round
      case rel => exact ⟨k + 1, _, by omega, by go_num, rfl, by omega, by omega⟩
      case measure => simp [intOf]; omega
    · go_wp2
      all_goals first | (go_ret; exact ⟨SomeBool.mk _, rfl⟩) | skip
      clear hlt hk
      go_loop [9, 11] (fun t i => ∃ (k : Nat) (z : Int), k ≤ m ∧ i = .int .i64 k ∧ t = .int .i64 z ∧ 0 ≤ z ∧ z ≤ 1048576) (fun _ i => m - (intOf i).toNat)
      case atStart => exact ⟨0, _, Nat.zero_le _, rfl, rfl, by omega, by omega⟩
      case round =>
        obtain ⟨k2, z2, hk, rfl, rfl, hq2, hq3⟩ := hrel
        by_cases hlt : k2 < m
        · obtain ⟨b1, off, s, rfl, c0⟩ := HB.out.at hlt
          go_wp2
          all_goals first | (go_ret; exact ⟨SomeBool.mk _, rfl⟩) | skip
          go_round
          case rel => exact ⟨k2 + 1, _, by omega, by go_num, rfl, by omega, by omega⟩
          case measure => simp [intOf]; omega
        · go_wp2
          go_ret
          exact ⟨SomeBool.mk _, rfl⟩
end Go.Proofs.Qxb6628620a
