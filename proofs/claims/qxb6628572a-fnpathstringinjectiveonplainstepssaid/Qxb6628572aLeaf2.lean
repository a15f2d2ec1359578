import Derived.Test.Qxb6628572aPlain
namespace Go.Proofs.Qxb6628572a
open Go.RowKit

/-- The call ends with a bool; where it says yes both slices and their texts are short. -/
def Fits2 (xa xb : List ByteArray) (e : Ending) : Prop := ∃ r, e = .returned (.bool r) ∧ (r = true → (xa.length ≤ 1048576 ∧ ∀ s ∈ xa, s.size ≤ 1048576) ∧ (xb.length ≤ 1048576 ∧ ∀ s ∈ xb, s.size ≤ 1048576))
theorem Fits2.no {xa xb : List ByteArray} : Fits2 xa xb (.returned (.bool false)) := ⟨false, rfl, by simp⟩

set_option maxHeartbeats 2000000 in
set_option maxRecDepth 100000 in
theorem bytes2_any (a : Option Addr) (n c : Nat) (xa : List ByteArray) (b : Option Addr) (m d : Nat) (xb : List ByteArray) (w : World) (ha : TRow w a n xa) (hb : TRow w b m xb) :
    Calls Try.prog 10 #[.slice a n c, .slice b m d] w fun e w' => Fits2 xa xb e ∧ w' = w := by
  have HA : Hid (TRow w a n xa) := ha
  have HB : Hid (TRow w b m xb) := hb
  clear ha hb
  by_cases g0 : (1048576 : Int) < (n : Int)
  · go_enter Try.func10, Try.ntmps10
    go_wp2
    go_ret
    exact ⟨Fits2.no, rfl⟩
  go_enter Try.func10, Try.ntmps10
  go_wp2
  go_loop [5, 6] (fun t i => ∃ (k : Nat) (q : Int), k ≤ n ∧ i = .int .i64 k ∧ t = .int .i64 q ∧ 0 ≤ q ∧ q ≤ 1048576 ∧ (∀ t ∈ xa.take k, t.size ≤ 1048576)) (fun _ i => n - (intOf i).toNat)
  case atStart => exact ⟨0, n, Nat.zero_le _, rfl, rfl, by omega, by omega, by simp⟩
  case round =>
    obtain ⟨k, q, hk, rfl, rfl, hq0, hq1, hall⟩ := hrel
    have HK : Hid (∀ t ∈ xa.take k, t.size ≤ 1048576) := hall
    clear hall
    by_cases hlt : k < n
    · obtain ⟨hn, h0 | ⟨b1, off, rfl, hb1, hl⟩⟩ := HA.out
      · omega
      obtain ⟨s, hm⟩ : ∃ m, xa[k]? = some m := ⟨xa[k]'(by omega), List.getElem?_eq_getElem _⟩
      have c0 := hl k _ hm
      have HM : Hid (xa[k]? = some s) := hm
      clear hm hl hn
      go_wp2
      all_goals first | (go_ret; exact ⟨Fits2.no, rfl⟩) | skip
      go_round
      case rel => exact ⟨k + 1, _, by omega, by go_num, rfl, by omega, by omega, all_take_succ HM.out HK.out (by omega)⟩
      case measure => simp [intOf]; omega
    · have HAS : Hid (xa.length ≤ 1048576 ∧ ∀ s ∈ xa, s.size ≤ 1048576) := by
        have h := HK.out
        have hn := HA.out.1
        rw [List.take_of_length_le (by omega)] at h
        exact ⟨by omega, h⟩
      clear HK
      by_cases g1 : (1048576 : Int) < (m : Int)
      · go_wp2
        go_ret
        exact ⟨Fits2.no, rfl⟩
      by_cases g2 : (1048576 : Int) < q + (m : Int)
      · go_wp2
        go_ret
        exact ⟨Fits2.no, rfl⟩
      go_wp2
      clear hlt hk
      go_loop [5, 7] (fun t i => ∃ (k : Nat) (q : Int), k ≤ m ∧ i = .int .i64 k ∧ t = .int .i64 q ∧ 0 ≤ q ∧ q ≤ 1048576 ∧ (∀ t ∈ xb.take k, t.size ≤ 1048576)) (fun _ i => m - (intOf i).toNat)
      case atStart => exact ⟨0, _, Nat.zero_le _, rfl, rfl, by omega, by omega, by simp⟩
      case round =>
        clear g2 hq0 hq1
        obtain ⟨k2, q2, hk, rfl, rfl, hq0, hq1, hall⟩ := hrel
        have HK : Hid (∀ t ∈ xb.take k2, t.size ≤ 1048576) := hall
        clear hall
        by_cases hlt : k2 < m
        · obtain ⟨hn, h0 | ⟨b1, off, rfl, hb1, hl⟩⟩ := HB.out
          · omega
          obtain ⟨s, hm⟩ : ∃ m, xb[k2]? = some m := ⟨xb[k2]'(by omega), List.getElem?_eq_getElem _⟩
          have c0 := hl k2 _ hm
          have HM : Hid (xb[k2]? = some s) := hm
          clear hm hl hn
          go_wp2
          all_goals first | (go_ret; exact ⟨Fits2.no, rfl⟩) | skip
          go_round
          case rel => exact ⟨k2 + 1, _, by omega, by go_num, rfl, by omega, by omega, all_take_succ HM.out HK.out (by omega)⟩
          case measure => simp [intOf]; omega
        · have HBS : Hid (xb.length ≤ 1048576 ∧ ∀ s ∈ xb, s.size ≤ 1048576) := by
            have h := HK.out
            have hn := HB.out.1
            rw [List.take_of_length_le (by omega)] at h
            exact ⟨by omega, h⟩
          go_wp2
          go_ret
          exact ⟨⟨true, rfl, fun _ => ⟨HAS.out, HBS.out⟩⟩, rfl⟩

/-! ### textHasSlash -/
def hasSlash (s : ByteArray) : Bool := s.data.toList.contains 47

theorem slash_hit {s : ByteArray} {k : Nat} (hk : k < s.size) (h : ((s[k].toNat : Int) == 47) = true) : hasSlash s = true := by
  unfold hasSlash
  rw [List.contains_iff_mem]
  have e := at_list s k hk
  have h2 : s[k] = 47 := by
    rw [beq_iff_eq] at h
    have h3 : s[k].toNat = 47 := by omega
    exact UInt8.toNat_inj.1 h3
  rw [h2] at e
  exact List.mem_of_getElem? e
theorem slash_miss {s : ByteArray} {k : Nat} (hk : k < s.size) (h : ((s[k].toNat : Int) == 47) = false) (hp : 47 ∉ s.data.toList.take k) : 47 ∉ s.data.toList.take (k + 1) := by
  rw [List.take_succ_eq_append_getElem (by simpa using hk)]
  intro hm
  rcases List.mem_append.1 hm with hm | hm
  · exact hp hm
  · simp at hm
    have e : s[k] = 47 := hm.symm
    rw [e] at h
    exact absurd h (by decide)

set_option maxHeartbeats 1000000 in
theorem slash_any (s : ByteArray) (w : World) (hs : s.size ≤ 1048576) :
    Calls Try.prog 11 #[.string s] w fun e w' => e = .returned (.bool (hasSlash s)) ∧ w' = w := by
  go_enter Try.func11, Try.ntmps11
  go_wp2
  go_loop [3] (fun i => ∃ k : Nat, k ≤ s.size ∧ i = .int .i64 k ∧ 47 ∉ s.data.toList.take k) (fun i => s.size - (intOf i).toNat)
  case atStart => exact ⟨0, Nat.zero_le _, rfl, by simp⟩
  case round =>
    obtain ⟨k, hk, rfl, hall⟩ := hrel
    have HK : Hid (47 ∉ s.data.toList.take k) := hall
    clear hall
    by_cases hlt : k < s.size
    · have hlt' : (k : Int) < (s.size : Int) := by omega
      go_wp2
      · go_ret
        refine ⟨?_, rfl⟩
        rw [slash_hit hlt ‹_›]; rfl
      · go_round
        case rel => exact ⟨k + 1, by omega, by go_num, slash_miss hlt ‹_› HK.out⟩
        case measure => simp [intOf]; omega
    · go_wp2
      go_ret
      refine ⟨?_, rfl⟩
      have h := HK.out
      rw [List.take_of_length_le (by simp; omega)] at h
      have e : hasSlash s = false := by
        unfold hasSlash
        rw [← Bool.not_eq_true, List.contains_iff_mem]
        exact h
      rw [e]; rfl

/-! ### sameTexts -/
theorem same_hit {xa xb : List ByteArray} {k : Nat} {s t : ByteArray} (ha : xa[k]? = some s) (hb : xb[k]? = some t) (h : (!s.toList == t.toList) = true) : sameB xa xb = false := by
  simp only [Bool.not_eq_true'] at h
  unfold sameB
  rw [beq_eq_false_iff_ne]
  intro he
  have e1 : (xa.map ByteArray.toList)[k]? = some s.toList := by rw [List.getElem?_map, ha]; rfl
  have e2 : (xb.map ByteArray.toList)[k]? = some t.toList := by rw [List.getElem?_map, hb]; rfl
  rw [he, e2] at e1
  injection e1 with e1
  rw [e1] at h
  simp at h
theorem same_step {xa xb : List ByteArray} {k : Nat} {s t : ByteArray} (ha : xa[k]? = some s) (hb : xb[k]? = some t) (h : (!s.toList == t.toList) = false) (hp : (xa.take k).map ByteArray.toList = (xb.take k).map ByteArray.toList) :
    (xa.take (k + 1)).map ByteArray.toList = (xb.take (k + 1)).map ByteArray.toList := by
  rw [take_snoc ha, take_snoc hb, List.map_append, List.map_append, hp]
  have e : s.toList = t.toList := by simpa using h
  simp [e]
theorem same_len {xa xb : List ByteArray} (h : xa.length ≠ xb.length) : sameB xa xb = false := by
  unfold sameB
  rw [beq_eq_false_iff_ne]
  intro he
  exact h (by simpa using congrArg List.length he)

set_option maxHeartbeats 1000000 in
theorem same_any (a : Option Addr) (n c : Nat) (xa : List ByteArray) (b : Option Addr) (m d : Nat) (xb : List ByteArray) (w : World) (ha : TRow w a n xa) (hb : TRow w b m xb) (hN : n ≤ 1048576) :
    Calls Try.prog 12 #[.slice a n c, .slice b m d] w fun e w' => e = .returned (.bool (sameB xa xb)) ∧ Below w.heap.size w w' := by
  by_cases hnm : n = m
  · subst hnm
    have HA : Hid (TRow w a n xa) := ha
    have HB : Hid (TRow w b n xb) := hb
    clear ha hb
    go_enter Try.func12, Try.ntmps12
    go_wp2
    go_loopw [5] (fun i wr => ∃ k : Nat, k ≤ n ∧ i = .int .i64 k ∧ (xa.take k).map ByteArray.toList = (xb.take k).map ByteArray.toList ∧ Below w.heap.size w wr) (fun i _ => n - (intOf i).toNat)
    case atStart => exact ⟨0, Nat.zero_le _, rfl, by simp, Below.refl _ _⟩
    case round =>
      obtain ⟨k, hk, rfl, heq, hbel⟩ := hrel
      have HE : Hid ((xa.take k).map ByteArray.toList = (xb.take k).map ByteArray.toList) := heq
      clear heq
      by_cases hlt : k < n
      · obtain ⟨hn1, h0 | ⟨b1, o1, rfl, hb1, hl1⟩⟩ := HA.out
        · omega
        obtain ⟨hn2, h0 | ⟨b2, o2, rfl, hb2, hl2⟩⟩ := HB.out
        · omega
        obtain ⟨s, hs⟩ : ∃ x, xa[k]? = some x := ⟨xa[k]'(by omega), List.getElem?_eq_getElem _⟩
        obtain ⟨t, ht⟩ : ∃ x, xb[k]? = some x := ⟨xb[k]'(by omega), List.getElem?_eq_getElem _⟩
        have c1 : wr.cell? ⟨b1, o1 + k, none⟩ = some (.string s) := (hbel.cell (p := ⟨b1, o1 + k, none⟩) hb1).trans (hl1 k _ hs)
        have c2 : wr.cell? ⟨b2, o2 + k, none⟩ = some (.string t) := (hbel.cell (p := ⟨b2, o2 + k, none⟩) hb2).trans (hl2 k _ ht)
        have HS : Hid (xa[k]? = some s) := hs
        have HT : Hid (xb[k]? = some t) := ht
        have hkn : (k : Int) < (n : Int) := by omega
        clear hl1 hl2 hs ht hn1 hn2
        go_wp2
        go_quiet (fail)
        go_wp2
        · go_ret
          refine ⟨?_, below_drewN hbel _⟩
          rw [same_hit HS.out HT.out ‹_›]; rfl
        · go_roundw
          case rel => exact ⟨k + 1, by omega, by go_num, same_step HS.out HT.out ‹_› HE.out, below_drewN hbel _⟩
          case measure => simp [intOf]; omega
      · go_wp2
        go_ret
        refine ⟨?_, hbel⟩
        have h := HE.out
        rw [List.take_of_length_le (by have := HA.out.1; omega), List.take_of_length_le (by have := HB.out.1; omega)] at h
        have e : sameB xa xb = true := by unfold sameB; rw [beq_iff_eq]; exact h
        rw [e]; rfl
  · have e : sameB xa xb = false := same_len (by rw [ha.1, hb.1]; exact hnm)
    rw [e]
    have h1 : ((n : Int) != (m : Int)) = true := by rw [bne_iff_ne]; omega
    clear ha hb e
    go_enter Try.func12, Try.ntmps12
    go_wp2
    go_ret
    exact ⟨rfl, Below.refl _ _⟩
end Go.Proofs.Qxb6628572a
