import Derived.Test.Qxb6628620aHas
namespace Go.Proofs.Qxb6628620a
open Go.RowKit

set_option maxHeartbeats 4000000 in
set_option maxRecDepth 100000 in
theorem law2_yy (g1 g2 g3 : ByteArray) (s1 s2 : ByteArray) (a : Option Addr) (n c : Nat) (xa : List ByteArray) (b : Option Addr) (m d : Nat) (xb : List ByteArray) (w : World) (ha : TRow w a n xa) (hb : TRow w b m xb) :
    Calls Try.prog 4 #[.string g1, .string g2, .string g3, .bool true, .string s1, .slice a n c, .bool true, .string s2, .slice b m d] w fun e w' => e = .returned (.bool true) ∧ Below w.heap.size w w' := by
  have HA : Hid (TRow w a n xa) := ha
  have HB : Hid (TRow w b m xb) := hb
  clear ha hb
  go_enter Try.func4, Try.ntmps4
  go_wp2_with fail
  refine (bytes2_any g1 g2 g3 true true s1 s2 a n c xa b m d xb w HA.out HB.out).mono ?_
  rintro e w1 ⟨⟨r, rfl⟩, hw⟩
  obtain rfl := hw.symm
  cases r with
  | false =>
    go_wp2_with fail
    go_ret
    exact ⟨rfl, Below.refl _ _⟩
  | true =>
  by_cases h1 : (262144 : Int) < g1.size
  · go_wp2_with fail
    go_ret
    exact ⟨rfl, Below.refl _ _⟩
  by_cases h2 : (262144 : Int) < g2.size
  · go_wp2_with fail
    go_ret
    exact ⟨rfl, Below.refl _ _⟩
  by_cases h3 : (262144 : Int) < g3.size
  · go_wp2_with fail
    go_ret
    exact ⟨rfl, Below.refl _ _⟩
  go_wp2_with fail
  clear h1 h2 h3
  refine (size_any s1 s2 a n c xa b m d xb w HA.out HB.out).mono ?_
  rintro e w1 ⟨⟨r, rfl⟩, hw⟩
  obtain rfl := hw.symm
  cases r with
  | false =>
    go_wp2_with fail
    go_ret
    exact ⟨rfl, Below.refl _ _⟩
  | true =>
  clear HA HB hw
  go_wp2_with fail
  refine (tasks_at (w.heap.size + 1 + 1) (some ⟨w.heap.size, 0, none⟩) (some ⟨w.heap.size + 1, 0, none⟩) _ (by simp [go_sem]) (by simp [go_sem]) [.pointer (some ⟨w.heap.size, 0, none⟩), .pointer (some ⟨w.heap.size + 1, 0, none⟩)] rfl).mono ?_
  rintro e w3 ⟨v1, rfl, hv1, hb3⟩
  have HB3 : Hid (Below w.heap.size w w3) := by
    refine Below.trans ?_ (hb3.mono ?_)
    · exact ((((Below.refl _ _).alloc (Nat.le_refl _) _).alloc (by simp; try omega) _).alloc (by simp; try omega) _).alloc (by simp; try omega) _
    · simp; try omega
  have k26 : w3.cell? ⟨w.heap.size + 1 + 1, 26, none⟩ = some (.pointer (some ⟨w.heap.size, 0, none⟩)) := hold hb3 (by simp [go_sem])
  have k27 : w3.cell? ⟨w.heap.size + 1 + 1, 27, none⟩ = some (.pointer (some ⟨w.heap.size + 1, 0, none⟩)) := hold hb3 (by simp [go_sem])
  have l26 : w3.cell? ⟨w.heap.size + 1 + 1 + 1, 26, none⟩ = some (.pointer (some ⟨w.heap.size + 1, 0, none⟩)) := hold hb3 (by simp [go_sem])
  have l27 : w3.cell? ⟨w.heap.size + 1 + 1 + 1, 27, none⟩ = some (.pointer (some ⟨w.heap.size, 0, none⟩)) := hold hb3 (by simp [go_sem])
  have HP : Hid (∃ cb cr, w3.heap[w.heap.size]? = some (.cells cb 32 (0, 0)) ∧ w3.heap[w.heap.size + 1]? = some (.cells cr 32 (0, 0))) := by
    have h := blocks4 hb3
    exact ⟨_, _, h.1, h.2⟩
  have HV1 : Hid (PRow w3 v1 [.pointer (some ⟨w.heap.size, 0, none⟩), .pointer (some ⟨w.heap.size + 1, 0, none⟩)]) := hv1
  clear hv1
  clear hb3
  go_wp2_with fail
  refine (tasks_at (w.heap.size + 1 + 1 + 1) (some ⟨w.heap.size + 1, 0, none⟩) (some ⟨w.heap.size, 0, none⟩) w3 l26 l27 [.pointer (some ⟨w.heap.size + 1, 0, none⟩), .pointer (some ⟨w.heap.size, 0, none⟩)] rfl).mono ?_
  rintro e w5 ⟨v2, rfl, hv2, hb5⟩
  have HV2 : Hid (PRow w5 v2 [.pointer (some ⟨w.heap.size + 1, 0, none⟩), .pointer (some ⟨w.heap.size, 0, none⟩)]) := hv2
  have HV1' : Hid (PRow w5 v1 [.pointer (some ⟨w.heap.size, 0, none⟩), .pointer (some ⟨w.heap.size + 1, 0, none⟩)]) := HV1.out.keep hb5
  have HB5 : Hid (Below w.heap.size w w5) := HB3.out.trans (hb5.mono HB3.out.size)
  have k26' := hold hb5 k26
  have k27' := hold hb5 k27
  have l26' := hold hb5 l26
  have l27' := hold hb5 l27
  have HN : Hid (∀ nq, (binOp .eql 25 (.pointer (some ⟨w.heap.size, 0, none⟩)) (.pointer (some ⟨w.heap.size + 1, 0, none⟩))).run Try.prog (w5.drewN nq) = .ok (.bool false) (w5.drewN nq)) := by
    obtain ⟨cb, cr, e1, e2⟩ := HP.out
    intro nq
    exact neO (w5.drewN nq) (by intro h; injection h; omega) (hold_block hb5 e1) (hold_block hb5 e2)
  clear HP
  clear hv2 hb5 HV1 HB3 k26 k27 l26 l27
  obtain ⟨gg1, cap1, rfl, x10, x11⟩ := (HV1'.out).two
  obtain ⟨gg2, cap2, rfl, x20, x21⟩ := (HV2.out).two
  clear HV1' HV2
  have eb := eqP ⟨w.heap.size, 0, none⟩
  have fb := neP ⟨w.heap.size, 0, none⟩
  have er := eqP ⟨w.heap.size + 1, 0, none⟩
  have fr := neP ⟨w.heap.size + 1, 0, none⟩
  go_wp2_with fail
  go_loopw [26] (fun i wr => ∃ k nq : Nat, k ≤ 2 ∧ i = .int .i64 k ∧ wr = w5.drewN nq) (fun i _ => 2 - (intOf i).toNat)
  case atStart => exact ⟨0, 0, Nat.zero_le _, rfl, rfl⟩
  case round =>
    obtain ⟨k, nq, hk, rfl, rfl⟩ := hrel
    by_cases hk0 : k = 0
    · subst hk0
      go_wp2_with fail
      go_quiet (fail)
      go_wp2_with fail
      go_roundw
      case rel => exact ⟨1, _, by omega, rfl, rfl⟩
      case measure => simp [intOf]
    by_cases hk1 : k = 1
    · subst hk1
      go_wp2_with fail
      go_quiet (fail)
      go_wp2_with fail
      go_roundw
      case rel => exact ⟨2, _, by omega, rfl, rfl⟩
      case measure => simp [intOf]
    have hkN : k = 2 := by omega
    subst hkN
    go_wp2_with fail
    refine (has_at0 gg1 2 cap1 _ _ (by omega) (by simpa using x10)).mono ?_
    rintro e w6 ⟨rfl, hw6⟩
    obtain rfl := hw6.symm
    go_wp2_with fail
    refine (has_at1 gg1 cap1 _ _ _ (by simpa using x10) (by simpa using x11) (HN.out nq)).mono ?_
    rintro e w7 ⟨rfl, hw7⟩
    obtain rfl := hw7.symm
    go_wp2_with fail
    go_ret
    exact ⟨rfl, below_drewN HB5.out _⟩

set_option maxHeartbeats 4000000 in
set_option maxRecDepth 100000 in
theorem law2_yn (g1 g2 g3 : ByteArray) (s1 s2 : ByteArray) (a : Option Addr) (n c : Nat) (xa : List ByteArray) (b : Option Addr) (m d : Nat) (xb : List ByteArray) (w : World) (ha : TRow w a n xa) (hb : TRow w b m xb) :
    Calls Try.prog 4 #[.string g1, .string g2, .string g3, .bool true, .string s1, .slice a n c, .bool false, .string s2, .slice b m d] w fun e w' => e = .returned (.bool true) ∧ Below w.heap.size w w' := by
  have HA : Hid (TRow w a n xa) := ha
  have HB : Hid (TRow w b m xb) := hb
  clear ha hb
  go_enter Try.func4, Try.ntmps4
  go_wp2_with fail
  refine (bytes2_any g1 g2 g3 true false s1 s2 a n c xa b m d xb w HA.out HB.out).mono ?_
  rintro e w1 ⟨⟨r, rfl⟩, hw⟩
  obtain rfl := hw.symm
  cases r with
  | false =>
    go_wp2_with fail
    go_ret
    exact ⟨rfl, Below.refl _ _⟩
  | true =>
  by_cases h1 : (262144 : Int) < g1.size
  · go_wp2_with fail
    go_ret
    exact ⟨rfl, Below.refl _ _⟩
  by_cases h2 : (262144 : Int) < g2.size
  · go_wp2_with fail
    go_ret
    exact ⟨rfl, Below.refl _ _⟩
  by_cases h3 : (262144 : Int) < g3.size
  · go_wp2_with fail
    go_ret
    exact ⟨rfl, Below.refl _ _⟩
  go_wp2_with fail
  clear h1 h2 h3
  refine (size_any s1 s2 a n c xa b m d xb w HA.out HB.out).mono ?_
  rintro e w1 ⟨⟨r, rfl⟩, hw⟩
  obtain rfl := hw.symm
  cases r with
  | false =>
    go_wp2_with fail
    go_ret
    exact ⟨rfl, Below.refl _ _⟩
  | true =>
  clear HA HB hw
  go_wp2_with fail
  refine (tasks_at (w.heap.size + 1) (some ⟨w.heap.size, 0, none⟩) none _ (by simp [go_sem]) (by simp [go_sem]) [.pointer (some ⟨w.heap.size, 0, none⟩)] rfl).mono ?_
  rintro e w3 ⟨v1, rfl, hv1, hb3⟩
  have HB3 : Hid (Below w.heap.size w w3) := by
    refine Below.trans ?_ (hb3.mono ?_)
    · exact (((Below.refl _ _).alloc (Nat.le_refl _) _).alloc (by simp; try omega) _).alloc (by simp; try omega) _
    · simp; try omega
  have k26 : w3.cell? ⟨w.heap.size + 1, 26, none⟩ = some (.pointer (some ⟨w.heap.size, 0, none⟩)) := hold hb3 (by simp [go_sem])
  have k27 : w3.cell? ⟨w.heap.size + 1, 27, none⟩ = some (.pointer none) := hold hb3 (by simp [go_sem])
  have l26 : w3.cell? ⟨w.heap.size + 1 + 1, 26, none⟩ = some (.pointer none) := hold hb3 (by simp [go_sem])
  have l27 : w3.cell? ⟨w.heap.size + 1 + 1, 27, none⟩ = some (.pointer (some ⟨w.heap.size, 0, none⟩)) := hold hb3 (by simp [go_sem])
  have HV1 : Hid (PRow w3 v1 [.pointer (some ⟨w.heap.size, 0, none⟩)]) := hv1
  clear hv1
  clear hb3
  go_wp2_with fail
  refine (tasks_at (w.heap.size + 1 + 1) none (some ⟨w.heap.size, 0, none⟩) w3 l26 l27 [.pointer (some ⟨w.heap.size, 0, none⟩)] rfl).mono ?_
  rintro e w5 ⟨v2, rfl, hv2, hb5⟩
  have HV2 : Hid (PRow w5 v2 [.pointer (some ⟨w.heap.size, 0, none⟩)]) := hv2
  have HV1' : Hid (PRow w5 v1 [.pointer (some ⟨w.heap.size, 0, none⟩)]) := HV1.out.keep hb5
  have HB5 : Hid (Below w.heap.size w w5) := HB3.out.trans (hb5.mono HB3.out.size)
  have k26' := hold hb5 k26
  have k27' := hold hb5 k27
  have l26' := hold hb5 l26
  have l27' := hold hb5 l27
  clear hv2 hb5 HV1 HB3 k26 k27 l26 l27
  obtain ⟨gg1, cap1, rfl, x10⟩ := (HV1'.out).one
  obtain ⟨gg2, cap2, rfl, x20⟩ := (HV2.out).one
  clear HV1' HV2
  have eb := eqP ⟨w.heap.size, 0, none⟩
  have fb := neP ⟨w.heap.size, 0, none⟩
  go_wp2_with fail
  go_loopw [26] (fun i wr => ∃ k nq : Nat, k ≤ 1 ∧ i = .int .i64 k ∧ wr = w5.drewN nq) (fun i _ => 1 - (intOf i).toNat)
  case atStart => exact ⟨0, 0, Nat.zero_le _, rfl, rfl⟩
  case round =>
    obtain ⟨k, nq, hk, rfl, rfl⟩ := hrel
    by_cases hk0 : k = 0
    · subst hk0
      go_wp2_with fail
      go_quiet (fail)
      go_wp2_with fail
      go_roundw
      case rel => exact ⟨1, _, by omega, rfl, rfl⟩
      case measure => simp [intOf]
    have hkN : k = 1 := by omega
    subst hkN
    go_wp2_with fail
    refine (has_at0 gg1 1 cap1 _ _ (by omega) (by simpa using x10)).mono ?_
    rintro e w6 ⟨rfl, hw6⟩
    obtain rfl := hw6.symm
    go_wp2_with fail
    go_ret
    exact ⟨rfl, below_drewN HB5.out _⟩

set_option maxHeartbeats 4000000 in
set_option maxRecDepth 100000 in
theorem law2_ny (g1 g2 g3 : ByteArray) (s1 s2 : ByteArray) (a : Option Addr) (n c : Nat) (xa : List ByteArray) (b : Option Addr) (m d : Nat) (xb : List ByteArray) (w : World) (ha : TRow w a n xa) (hb : TRow w b m xb) :
    Calls Try.prog 4 #[.string g1, .string g2, .string g3, .bool false, .string s1, .slice a n c, .bool true, .string s2, .slice b m d] w fun e w' => e = .returned (.bool true) ∧ Below w.heap.size w w' := by
  have HA : Hid (TRow w a n xa) := ha
  have HB : Hid (TRow w b m xb) := hb
  clear ha hb
  go_enter Try.func4, Try.ntmps4
  go_wp2_with fail
  refine (bytes2_any g1 g2 g3 false true s1 s2 a n c xa b m d xb w HA.out HB.out).mono ?_
  rintro e w1 ⟨⟨r, rfl⟩, hw⟩
  obtain rfl := hw.symm
  cases r with
  | false =>
    go_wp2_with fail
    go_ret
    exact ⟨rfl, Below.refl _ _⟩
  | true =>
  by_cases h1 : (262144 : Int) < g1.size
  · go_wp2_with fail
    go_ret
    exact ⟨rfl, Below.refl _ _⟩
  by_cases h2 : (262144 : Int) < g2.size
  · go_wp2_with fail
    go_ret
    exact ⟨rfl, Below.refl _ _⟩
  by_cases h3 : (262144 : Int) < g3.size
  · go_wp2_with fail
    go_ret
    exact ⟨rfl, Below.refl _ _⟩
  go_wp2_with fail
  clear h1 h2 h3
  refine (size_any s1 s2 a n c xa b m d xb w HA.out HB.out).mono ?_
  rintro e w1 ⟨⟨r, rfl⟩, hw⟩
  obtain rfl := hw.symm
  cases r with
  | false =>
    go_wp2_with fail
    go_ret
    exact ⟨rfl, Below.refl _ _⟩
  | true =>
  clear HA HB hw
  go_wp2_with fail
  refine (tasks_at (w.heap.size + 1) none (some ⟨w.heap.size, 0, none⟩) _ (by simp [go_sem]) (by simp [go_sem]) [.pointer (some ⟨w.heap.size, 0, none⟩)] rfl).mono ?_
  rintro e w3 ⟨v1, rfl, hv1, hb3⟩
  have HB3 : Hid (Below w.heap.size w w3) := by
    refine Below.trans ?_ (hb3.mono ?_)
    · exact (((Below.refl _ _).alloc (Nat.le_refl _) _).alloc (by simp; try omega) _).alloc (by simp; try omega) _
    · simp; try omega
  have k26 : w3.cell? ⟨w.heap.size + 1, 26, none⟩ = some (.pointer none) := hold hb3 (by simp [go_sem])
  have k27 : w3.cell? ⟨w.heap.size + 1, 27, none⟩ = some (.pointer (some ⟨w.heap.size, 0, none⟩)) := hold hb3 (by simp [go_sem])
  have l26 : w3.cell? ⟨w.heap.size + 1 + 1, 26, none⟩ = some (.pointer (some ⟨w.heap.size, 0, none⟩)) := hold hb3 (by simp [go_sem])
  have l27 : w3.cell? ⟨w.heap.size + 1 + 1, 27, none⟩ = some (.pointer none) := hold hb3 (by simp [go_sem])
  have HV1 : Hid (PRow w3 v1 [.pointer (some ⟨w.heap.size, 0, none⟩)]) := hv1
  clear hv1
  clear hb3
  go_wp2_with fail
  refine (tasks_at (w.heap.size + 1 + 1) (some ⟨w.heap.size, 0, none⟩) none w3 l26 l27 [.pointer (some ⟨w.heap.size, 0, none⟩)] rfl).mono ?_
  rintro e w5 ⟨v2, rfl, hv2, hb5⟩
  have HV2 : Hid (PRow w5 v2 [.pointer (some ⟨w.heap.size, 0, none⟩)]) := hv2
  have HV1' : Hid (PRow w5 v1 [.pointer (some ⟨w.heap.size, 0, none⟩)]) := HV1.out.keep hb5
  have HB5 : Hid (Below w.heap.size w w5) := HB3.out.trans (hb5.mono HB3.out.size)
  have k26' := hold hb5 k26
  have k27' := hold hb5 k27
  have l26' := hold hb5 l26
  have l27' := hold hb5 l27
  clear hv2 hb5 HV1 HB3 k26 k27 l26 l27
  obtain ⟨gg1, cap1, rfl, x10⟩ := (HV1'.out).one
  obtain ⟨gg2, cap2, rfl, x20⟩ := (HV2.out).one
  clear HV1' HV2
  have er := eqP ⟨w.heap.size, 0, none⟩
  have fr := neP ⟨w.heap.size, 0, none⟩
  go_wp2_with fail
  go_loopw [26] (fun i wr => ∃ k nq : Nat, k ≤ 1 ∧ i = .int .i64 k ∧ wr = w5.drewN nq) (fun i _ => 1 - (intOf i).toNat)
  case atStart => exact ⟨0, 0, Nat.zero_le _, rfl, rfl⟩
  case round =>
    obtain ⟨k, nq, hk, rfl, rfl⟩ := hrel
    by_cases hk0 : k = 0
    · subst hk0
      go_wp2_with fail
      go_quiet (fail)
      go_wp2_with fail
      go_roundw
      case rel => exact ⟨1, _, by omega, rfl, rfl⟩
      case measure => simp [intOf]
    have hkN : k = 1 := by omega
    subst hkN
    go_wp2_with fail
    refine (has_at0 gg1 1 cap1 _ _ (by omega) (by simpa using x10)).mono ?_
    rintro e w7 ⟨rfl, hw7⟩
    obtain rfl := hw7.symm
    go_wp2_with fail
    go_ret
    exact ⟨rfl, below_drewN HB5.out _⟩

set_option maxHeartbeats 4000000 in
set_option maxRecDepth 100000 in
theorem law2_nn (g1 g2 g3 : ByteArray) (s1 s2 : ByteArray) (a : Option Addr) (n c : Nat) (xa : List ByteArray) (b : Option Addr) (m d : Nat) (xb : List ByteArray) (w : World) (ha : TRow w a n xa) (hb : TRow w b m xb) :
    Calls Try.prog 4 #[.string g1, .string g2, .string g3, .bool false, .string s1, .slice a n c, .bool false, .string s2, .slice b m d] w fun e w' => e = .returned (.bool true) ∧ Below w.heap.size w w' := by
  have HA : Hid (TRow w a n xa) := ha
  have HB : Hid (TRow w b m xb) := hb
  clear ha hb
  go_enter Try.func4, Try.ntmps4
  go_wp2_with fail
  refine (bytes2_any g1 g2 g3 false false s1 s2 a n c xa b m d xb w HA.out HB.out).mono ?_
  rintro e w1 ⟨⟨r, rfl⟩, hw⟩
  obtain rfl := hw.symm
  cases r with
  | false =>
    go_wp2_with fail
    go_ret
    exact ⟨rfl, Below.refl _ _⟩
  | true =>
  by_cases h1 : (262144 : Int) < g1.size
  · go_wp2_with fail
    go_ret
    exact ⟨rfl, Below.refl _ _⟩
  by_cases h2 : (262144 : Int) < g2.size
  · go_wp2_with fail
    go_ret
    exact ⟨rfl, Below.refl _ _⟩
  by_cases h3 : (262144 : Int) < g3.size
  · go_wp2_with fail
    go_ret
    exact ⟨rfl, Below.refl _ _⟩
  go_wp2_with fail
  clear h1 h2 h3
  refine (size_any s1 s2 a n c xa b m d xb w HA.out HB.out).mono ?_
  rintro e w1 ⟨⟨r, rfl⟩, hw⟩
  obtain rfl := hw.symm
  cases r with
  | false =>
    go_wp2_with fail
    go_ret
    exact ⟨rfl, Below.refl _ _⟩
  | true =>
  clear HA HB hw
  go_wp2_with fail
  refine (tasks_at (w.heap.size) none none _ (by simp [go_sem]) (by simp [go_sem]) [] rfl).mono ?_
  rintro e w3 ⟨v1, rfl, hv1, hb3⟩
  have HB3 : Hid (Below w.heap.size w w3) := by
    refine Below.trans ?_ (hb3.mono ?_)
    · exact ((Below.refl _ _).alloc (Nat.le_refl _) _).alloc (by simp; try omega) _
    · simp; try omega
  have k26 : w3.cell? ⟨w.heap.size, 26, none⟩ = some (.pointer none) := hold hb3 (by simp [go_sem])
  have k27 : w3.cell? ⟨w.heap.size, 27, none⟩ = some (.pointer none) := hold hb3 (by simp [go_sem])
  have l26 : w3.cell? ⟨w.heap.size + 1, 26, none⟩ = some (.pointer none) := hold hb3 (by simp [go_sem])
  have l27 : w3.cell? ⟨w.heap.size + 1, 27, none⟩ = some (.pointer none) := hold hb3 (by simp [go_sem])
  have HV1 : Hid (PRow w3 v1 []) := hv1
  clear hv1
  clear hb3
  go_wp2_with fail
  refine (tasks_at (w.heap.size + 1) none none w3 l26 l27 [] rfl).mono ?_
  rintro e w5 ⟨v2, rfl, hv2, hb5⟩
  have HV2 : Hid (PRow w5 v2 []) := hv2
  have HV1' : Hid (PRow w5 v1 []) := HV1.out.keep hb5
  have HB5 : Hid (Below w.heap.size w w5) := HB3.out.trans (hb5.mono HB3.out.size)
  have k26' := hold hb5 k26
  have k27' := hold hb5 k27
  have l26' := hold hb5 l26
  have l27' := hold hb5 l27
  clear hv2 hb5 HV1 HB3 k26 k27 l26 l27
  obtain ⟨a1, cap1, rfl⟩ := (HV1'.out).nil
  obtain ⟨a2, cap2, rfl⟩ := (HV2.out).nil
  clear HV1' HV2
  go_wp2_with fail
  go_loopw [26] (fun i wr => ∃ k nq : Nat, k ≤ 0 ∧ i = .int .i64 k ∧ wr = w5.drewN nq) (fun i _ => 0 - (intOf i).toNat)
  case atStart => exact ⟨0, 0, Nat.zero_le _, rfl, rfl⟩
  case round =>
    obtain ⟨k, nq, hk, rfl, rfl⟩ := hrel
    have hkN : k = 0 := by omega
    subst hkN
    go_wp2_with fail
    go_ret
    exact ⟨rfl, below_drewN HB5.out _⟩

theorem law2_walk (g1 g2 g3 : ByteArray) (p q : Bool) (s1 s2 : ByteArray) (a : Option Addr) (n c : Nat) (xa : List ByteArray) (b : Option Addr) (m d : Nat) (xb : List ByteArray) (w : World) (ha : TRow w a n xa) (hb : TRow w b m xb) :
    Calls Try.prog 4 #[.string g1, .string g2, .string g3, .bool p, .string s1, .slice a n c, .bool q, .string s2, .slice b m d] w fun e w' => e = .returned (.bool true) ∧ Below w.heap.size w w' := by
  cases p with
  | true =>
    cases q with
    | true => exact law2_yy g1 g2 g3 s1 s2 a n c xa b m d xb w ha hb
    | false => exact law2_yn g1 g2 g3 s1 s2 a n c xa b m d xb w ha hb
  | false =>
    cases q with
    | true => exact law2_ny g1 g2 g3 s1 s2 a n c xa b m d xb w ha hb
    | false => exact law2_nn g1 g2 g3 s1 s2 a n c xa b m d xb w ha hb
end Go.Proofs.Qxb6628620a
