import Derived.Test.Qxb6628572aStr
namespace Go.Proofs.Qxb6628572a
open Go.RowKit

theorem at_list (s : ByteArray) (i : Nat) (h : i < s.size) : s.data.toList[i]? = some s[i] := by
  rw [List.getElem?_eq_getElem (by simpa using h)]
  rfl

theorem byte_slash {s t : ByteArray} {pre : List UInt8} (hq : s.data.toList = pre ++ 47 :: t.data.toList) (h : s.size - t.size - 1 < s.size) : s[s.size - t.size - 1] = 47 := by
  have e := at_list s _ h
  have hl : s.size = pre.length + (1 + t.size) := by
    have := congrArg List.length hq
    simp at this
    omega
  rw [hq, List.getElem?_append_right (by omega), show s.size - t.size - 1 - pre.length = 0 from by omega, List.getElem?_cons_zero] at e
  injection e with e
  exact e.symm

theorem byte_tail {s t : ByteArray} {pre : List UInt8} (hq : s.data.toList = pre ++ 47 :: t.data.toList) {k : Nat} (h : s.size - t.size + k < s.size) (hk : k < t.size) : s[s.size - t.size + k] = t[k] := by
  have e := at_list s _ h
  have e2 := at_list t k hk
  have hl : s.size = pre.length + (1 + t.size) := by
    have := congrArg List.length hq
    simp at this
    omega
  rw [hq, List.getElem?_append_right (by omega), show s.size - t.size + k - pre.length = k + 1 from by omega, List.getElem?_cons_succ, e2] at e
  injection e with e
  exact e.symm

set_option maxHeartbeats 1000000 in
theorem ends_any (s t : ByteArray) (pre : List UInt8) (w : World) (hq : s.data.toList = pre ++ 47 :: t.data.toList) (hS : s.size ≤ 2097152) :
    Calls Try.prog 9 #[.string s, .string t] w fun e w' => e = .returned (.bool true) ∧ Below w.heap.size w w' := by
  have hs : s.size = pre.length + (1 + t.size) := by
    have := congrArg List.length hq
    simp at this
    omega
  have h1 : ¬ ((s.size : Int) < (t.size : Int) + 1) := by omega
  have HQ : Hid (s.data.toList = pre ++ 47 :: t.data.toList) := hq
  clear hs hq
  go_enter Try.func9, Try.ntmps9
  go_wp2
  · exfalso
    have h := ‹(_ != _) = true›
    rw [byte_slash HQ.out] at h
    exact absurd h (by decide)
  · go_loopw [6] (fun i wr => ∃ k : Nat, k ≤ t.size ∧ i = .int .i64 k ∧ Below w.heap.size w wr) (fun i _ => t.size - (intOf i).toNat)
    case atStart => exact ⟨0, Nat.zero_le _, rfl, Below.refl _ _⟩
    case round =>
      obtain ⟨k, hk, rfl, hbel⟩ := hrel
      by_cases hlt : k < t.size
      · have b0 : (0 : Int) ≤ (s.size : Int) - (t.size : Int) + (k : Int) := by omega
        have b1 : (s.size : Int) - (t.size : Int) + (k : Int) < (s.size : Int) := by omega
        have b2 : (k : Int) < (t.size : Int) := by omega
        go_wp2
        go_quiet (fail)
        go_wp2
        · exfalso
          have h := ‹((_ : Int) != _) = true›
          rw [byte_tail HQ.out (hk := hlt)] at h
          simp at h
        · go_roundw
          case rel => exact ⟨k + 1, by omega, by go_num, below_drewN hbel _⟩
          case measure => simp [intOf]; omega
      · go_wp2
        go_ret
        exact ⟨rfl, hbel⟩
end Go.Proofs.Qxb6628572a
