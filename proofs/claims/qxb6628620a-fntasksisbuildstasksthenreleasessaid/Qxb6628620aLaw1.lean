import Derived.Test.Qxb6628620aOnly
namespace Go.Proofs.Qxb6628620a
open Go.RowKit

set_option maxHeartbeats 4000000 in
set_option maxRecDepth 100000 in
theorem law1_yy (s1 s2 : ByteArray) (a : Option Addr) (n c : Nat) (xa : List ByteArray) (b : Option Addr) (m d : Nat) (xb : List ByteArray) (w : World) (ha : TRow w a n xa) (hb : TRow w b m xb) :
    Calls Try.prog 3 #[.bool true, .string s1, .slice a n c, .bool true, .string s2, .slice b m d] w fun e w' => e = .returned (.bool true) ∧ Below w.heap.size w w' := by
  have HA : Hid (TRow w a n xa) := ha
  have HB : Hid (TRow w b m xb) := hb
  clear ha hb
  go_enter Try.func3, Try.ntmps3
  go_wp2_with fail
  refine (bytes1_any true true s1 s2 a n c xa b m d xb w HA.out HB.out).mono ?_
  rintro e w1 ⟨⟨r, rfl⟩, hw⟩
  obtain rfl := hw.symm
  cases r with
  | false =>
    go_wp2_with fail
    go_ret
    exact ⟨rfl, Below.refl _ _⟩
  | true =>
  go_wp2_with fail
  refine (size_any s1 s2 a n c xa b m d xb w HA.out HB.out).mono ?_
  rintro e w1 ⟨⟨r, rfl⟩, hw⟩
  obtain rfl := hw.symm
  cases r with
  | false =>
    go_wp2_with fail
    go_ret
    exact ⟨rfl, Below.refl _ _⟩
  | true =>
  clear HA HB hw
  go_wp2_with fail
  refine (tasks_at (w.heap.size + 1 + 1) (some ⟨w.heap.size, 0, none⟩) (some ⟨w.heap.size + 1, 0, none⟩) _ (by simp [go_sem]) (by simp [go_sem]) [.pointer (some ⟨w.heap.size, 0, none⟩), .pointer (some ⟨w.heap.size + 1, 0, none⟩)] rfl).mono ?_
  rintro e w3 ⟨v1, rfl, hv1, hb3⟩
  have HB3 : Hid (Below w.heap.size w w3) := by
    refine Below.trans ?_ (hb3.mono ?_)
    · exact (((((Below.refl _ _).alloc (Nat.le_refl _) _).alloc (by simp; try omega) _).alloc (by simp; try omega) _).alloc (by simp; try omega) _).alloc (by simp; try omega) _
    · simp; try omega
  have k26 : w3.cell? ⟨w.heap.size + 1 + 1, 26, none⟩ = some (.pointer (some ⟨w.heap.size, 0, none⟩)) := hold hb3 (by simp [go_sem])
  have k27 : w3.cell? ⟨w.heap.size + 1 + 1, 27, none⟩ = some (.pointer (some ⟨w.heap.size + 1, 0, none⟩)) := hold hb3 (by simp [go_sem])
  have l26 : w3.cell? ⟨w.heap.size + 1 + 1 + 1, 26, none⟩ = some (.pointer (some ⟨w.heap.size, 0, none⟩)) := hold hb3 (by simp [go_sem])
  have l27 : w3.cell? ⟨w.heap.size + 1 + 1 + 1, 27, none⟩ = some (.pointer none) := hold hb3 (by simp [go_sem])
  have m26 : w3.cell? ⟨w.heap.size + 1 + 1 + 1 + 1, 26, none⟩ = some (.pointer none) := hold hb3 (by simp [go_sem])
  have m27 : w3.cell? ⟨w.heap.size + 1 + 1 + 1 + 1, 27, none⟩ = some (.pointer (some ⟨w.heap.size + 1, 0, none⟩)) := hold hb3 (by simp [go_sem])
  have nb : w3.cell? ⟨w.heap.size, 0, none⟩ = some (.string s1) := hold hb3 (by simp [go_sem])
  have HV1 : Hid (PRow w3 v1 [.pointer (some ⟨w.heap.size, 0, none⟩), .pointer (some ⟨w.heap.size + 1, 0, none⟩)]) := hv1
  clear hb3 hv1
  go_wp2_with fail
  refine (tasks_at (w.heap.size + 1 + 1 + 1) (some ⟨w.heap.size, 0, none⟩) none w3 l26 l27 [.pointer (some ⟨w.heap.size, 0, none⟩)] rfl).mono ?_
  rintro e w4 ⟨v2, rfl, hv2, hb4⟩
  have HV2 : Hid (PRow w4 v2 [.pointer (some ⟨w.heap.size, 0, none⟩)]) := hv2
  have HV1' : Hid (PRow w4 v1 [.pointer (some ⟨w.heap.size, 0, none⟩), .pointer (some ⟨w.heap.size + 1, 0, none⟩)]) := HV1.out.keep hb4
  have HB4 : Hid (Below w.heap.size w w4) := HB3.out.trans (hb4.mono HB3.out.size)
  have k26' := hold hb4 k26
  have k27' := hold hb4 k27
  have m26' := hold hb4 m26
  have m27' := hold hb4 m27
  have nb' := hold hb4 nb
  clear hv2 hb4 HV1 HB3 k26 k27 l26 l27 m26 m27 nb
  go_wp2_with fail
  refine (tasks_at (w.heap.size + 1 + 1 + 1 + 1) none (some ⟨w.heap.size + 1, 0, none⟩) w4 m26' m27' [.pointer (some ⟨w.heap.size + 1, 0, none⟩)] rfl).mono ?_
  rintro e w5 ⟨v3, rfl, hv3, hb5⟩
  have HV3 : Hid (PRow w5 v3 [.pointer (some ⟨w.heap.size + 1, 0, none⟩)]) := hv3
  have HV2' : Hid (PRow w5 v2 [.pointer (some ⟨w.heap.size, 0, none⟩)]) := HV2.out.keep hb5
  have HV1 : Hid (PRow w5 v1 [.pointer (some ⟨w.heap.size, 0, none⟩), .pointer (some ⟨w.heap.size + 1, 0, none⟩)]) := HV1'.out.keep hb5
  have HB5 : Hid (Below w.heap.size w w5) := HB4.out.trans (hb5.mono HB4.out.size)
  have k26 := hold hb5 k26'
  have k27 := hold hb5 k27'
  have nb := hold hb5 nb'
  clear hv3 hb5 HV1' HV2 HB4 k26' k27' m26' m27' nb'
  obtain ⟨g1, cap1, rfl, x10, x11⟩ := (HV1.out).two
  obtain ⟨g2, cap2, rfl, x20⟩ := (HV2'.out).one
  obtain ⟨g3, cap3, rfl, x30⟩ := (HV3.out).one
  clear HV1 HV2' HV3
  have eb := eqP ⟨w.heap.size, 0, none⟩
  have fb := neP ⟨w.heap.size, 0, none⟩
  have er := eqP ⟨w.heap.size + 1, 0, none⟩
  have fr := neP ⟨w.heap.size + 1, 0, none⟩
  go_wp2_with fail
  refine (only_one g2 cap2 _ _ x20).mono ?_
  rintro e w6 ⟨rfl, hw6⟩
  obtain rfl := hw6.symm
  go_wp2_with fail
  refine (only_one g3 cap3 _ _ x30).mono ?_
  rintro e w7 ⟨rfl, hw7⟩
  obtain rfl := hw7.symm
  go_wp2_with fail
  go_loopw [21] (fun i wr => ∃ k nq : Nat, k ≤ 1 ∧ i = .int .i64 k ∧ wr = w5.drewN nq) (fun i _ => 1 - (intOf i).toNat)
  case atStart => exact ⟨0, 0, Nat.zero_le _, rfl, rfl⟩
  case round =>
    obtain ⟨k, nq, hk, rfl, rfl⟩ := hrel
    by_cases hlt : k < 1
    · have hk0 : k = 0 := by omega
      subst hk0
      go_wp2_with fail
      go_quiet (fail)
      go_wp2_with fail
      go_roundw
      case rel => exact ⟨1, _, by omega, rfl, rfl⟩
      case measure => simp [intOf]
    · have hk1 : k = 1 := by omega
      subst hk1
      go_wp2_with fail
      go_loopw [22] (fun i wr => ∃ k nq : Nat, k ≤ 1 ∧ i = .int .i64 k ∧ wr = w5.drewN nq) (fun i _ => 1 - (intOf i).toNat)
      case atStart => exact ⟨0, nq, Nat.zero_le _, rfl, rfl⟩
      case round =>
        obtain ⟨k2, nq2, hk2, rfl, rfl⟩ := hrel
        by_cases hlt2 : k2 < 1
        · have hk0 : k2 = 0 := by omega
          subst hk0
          go_wp2_with fail
          go_quiet (fail)
          go_wp2_with fail
          go_roundw
          case rel => exact ⟨1, _, by omega, rfl, rfl⟩
          case measure => simp [intOf]
        · have hk3 : k2 = 1 := by omega
          subst hk3
          go_wp2_with fail
          go_ret
          exact ⟨rfl, below_drewN HB5.out _⟩

set_option maxHeartbeats 4000000 in
set_option maxRecDepth 100000 in
theorem law1_yn (s1 s2 : ByteArray) (a : Option Addr) (n c : Nat) (xa : List ByteArray) (b : Option Addr) (m d : Nat) (xb : List ByteArray) (w : World) (ha : TRow w a n xa) (hb : TRow w b m xb) :
    Calls Try.prog 3 #[.bool true, .string s1, .slice a n c, .bool false, .string s2, .slice b m d] w fun e w' => e = .returned (.bool true) ∧ Below w.heap.size w w' := by
  have HA : Hid (TRow w a n xa) := ha
  have HB : Hid (TRow w b m xb) := hb
  clear ha hb
  go_enter Try.func3, Try.ntmps3
  go_wp2_with fail
  refine (bytes1_any true false s1 s2 a n c xa b m d xb w HA.out HB.out).mono ?_
  rintro e w1 ⟨⟨r, rfl⟩, hw⟩
  obtain rfl := hw.symm
  cases r with
  | false =>
    go_wp2_with fail
    go_ret
    exact ⟨rfl, Below.refl _ _⟩
  | true =>
  go_wp2_with fail
  refine (size_any s1 s2 a n c xa b m d xb w HA.out HB.out).mono ?_
  rintro e w1 ⟨⟨r, rfl⟩, hw⟩
  obtain rfl := hw.symm
  cases r with
  | false =>
    go_wp2_with fail
    go_ret
    exact ⟨rfl, Below.refl _ _⟩
  | true =>
  clear HA HB hw
  go_wp2_with fail
  refine (tasks_at (w.heap.size + 1) (some ⟨w.heap.size, 0, none⟩) none _ (by simp [go_sem]) (by simp [go_sem]) [.pointer (some ⟨w.heap.size, 0, none⟩)] rfl).mono ?_
  rintro e w3 ⟨v1, rfl, hv1, hb3⟩
  have HB3 : Hid (Below w.heap.size w w3) := by
    refine Below.trans ?_ (hb3.mono ?_)
    · exact ((((Below.refl _ _).alloc (Nat.le_refl _) _).alloc (by simp; try omega) _).alloc (by simp; try omega) _).alloc (by simp; try omega) _
    · simp; try omega
  have k26 : w3.cell? ⟨w.heap.size + 1, 26, none⟩ = some (.pointer (some ⟨w.heap.size, 0, none⟩)) := hold hb3 (by simp [go_sem])
  have k27 : w3.cell? ⟨w.heap.size + 1, 27, none⟩ = some (.pointer none) := hold hb3 (by simp [go_sem])
  have l26 : w3.cell? ⟨w.heap.size + 1 + 1, 26, none⟩ = some (.pointer (some ⟨w.heap.size, 0, none⟩)) := hold hb3 (by simp [go_sem])
  have l27 : w3.cell? ⟨w.heap.size + 1 + 1, 27, none⟩ = some (.pointer none) := hold hb3 (by simp [go_sem])
  have m26 : w3.cell? ⟨w.heap.size + 1 + 1 + 1, 26, none⟩ = some (.pointer none) := hold hb3 (by simp [go_sem])
  have m27 : w3.cell? ⟨w.heap.size + 1 + 1 + 1, 27, none⟩ = some (.pointer none) := hold hb3 (by simp [go_sem])
  have nb : w3.cell? ⟨w.heap.size, 0, none⟩ = some (.string s1) := hold hb3 (by simp [go_sem])
  have HV1 : Hid (PRow w3 v1 [.pointer (some ⟨w.heap.size, 0, none⟩)]) := hv1
  clear hb3 hv1
  go_wp2_with fail
  refine (tasks_at (w.heap.size + 1 + 1) (some ⟨w.heap.size, 0, none⟩) none w3 l26 l27 [.pointer (some ⟨w.heap.size, 0, none⟩)] rfl).mono ?_
  rintro e w4 ⟨v2, rfl, hv2, hb4⟩
  have HV2 : Hid (PRow w4 v2 [.pointer (some ⟨w.heap.size, 0, none⟩)]) := hv2
  have HV1' : Hid (PRow w4 v1 [.pointer (some ⟨w.heap.size, 0, none⟩)]) := HV1.out.keep hb4
  have HB4 : Hid (Below w.heap.size w w4) := HB3.out.trans (hb4.mono HB3.out.size)
  have k26' := hold hb4 k26
  have k27' := hold hb4 k27
  have m26' := hold hb4 m26
  have m27' := hold hb4 m27
  have nb' := hold hb4 nb
  clear hv2 hb4 HV1 HB3 k26 k27 l26 l27 m26 m27 nb
  go_wp2_with fail
  refine (tasks_at (w.heap.size + 1 + 1 + 1) none none w4 m26' m27' [] rfl).mono ?_
  rintro e w5 ⟨v3, rfl, hv3, hb5⟩
  have HV3 : Hid (PRow w5 v3 []) := hv3
  have HV2' : Hid (PRow w5 v2 [.pointer (some ⟨w.heap.size, 0, none⟩)]) := HV2.out.keep hb5
  have HV1 : Hid (PRow w5 v1 [.pointer (some ⟨w.heap.size, 0, none⟩)]) := HV1'.out.keep hb5
  have HB5 : Hid (Below w.heap.size w w5) := HB4.out.trans (hb5.mono HB4.out.size)
  have k26 := hold hb5 k26'
  have k27 := hold hb5 k27'
  have nb := hold hb5 nb'
  clear hv3 hb5 HV1' HV2 HB4 k26' k27' m26' m27' nb'
  obtain ⟨g1, cap1, rfl, x10⟩ := (HV1.out).one
  obtain ⟨g2, cap2, rfl, x20⟩ := (HV2'.out).one
  obtain ⟨a3, cap3, rfl⟩ := (HV3.out).nil
  clear HV1 HV2' HV3
  have eb := eqP ⟨w.heap.size, 0, none⟩
  have fb := neP ⟨w.heap.size, 0, none⟩
  go_wp2_with fail
  refine (only_one g2 cap2 _ _ x20).mono ?_
  rintro e w6 ⟨rfl, hw6⟩
  obtain rfl := hw6.symm
  go_wp2_with fail
  refine (only_nil a3 cap3 _).mono ?_
  rintro e w7 ⟨rfl, hw7⟩
  obtain rfl := hw7.symm
  go_wp2_with fail
  go_loopw [21] (fun i wr => ∃ k nq : Nat, k ≤ 1 ∧ i = .int .i64 k ∧ wr = w5.drewN nq) (fun i _ => 1 - (intOf i).toNat)
  case atStart => exact ⟨0, 0, Nat.zero_le _, rfl, rfl⟩
  case round =>
    obtain ⟨k, nq, hk, rfl, rfl⟩ := hrel
    by_cases hlt : k < 1
    · have hk0 : k = 0 := by omega
      subst hk0
      go_wp2_with fail
      go_quiet (fail)
      go_wp2_with fail
      go_roundw
      case rel => exact ⟨1, _, by omega, rfl, rfl⟩
      case measure => simp [intOf]
    · have hk1 : k = 1 := by omega
      subst hk1
      go_wp2_with fail
      go_loopw [22] (fun i wr => ∃ k nq : Nat, k ≤ 0 ∧ i = .int .i64 k ∧ wr = w5.drewN nq) (fun i _ => 0 - (intOf i).toNat)
      case atStart => exact ⟨0, nq, Nat.zero_le _, rfl, rfl⟩
      case round =>
        obtain ⟨k2, nq2, hk2, rfl, rfl⟩ := hrel
        have hk3 : k2 = 0 := by omega
        subst hk3
        go_wp2_with fail
        go_ret
        exact ⟨rfl, below_drewN HB5.out _⟩

set_option maxHeartbeats 4000000 in
set_option maxRecDepth 100000 in
theorem law1_ny (s1 s2 : ByteArray) (a : Option Addr) (n c : Nat) (xa : List ByteArray) (b : Option Addr) (m d : Nat) (xb : List ByteArray) (w : World) (ha : TRow w a n xa) (hb : TRow w b m xb) :
    Calls Try.prog 3 #[.bool false, .string s1, .slice a n c, .bool true, .string s2, .slice b m d] w fun e w' => e = .returned (.bool true) ∧ Below w.heap.size w w' := by
  have HA : Hid (TRow w a n xa) := ha
  have HB : Hid (TRow w b m xb) := hb
  clear ha hb
  go_enter Try.func3, Try.ntmps3
  go_wp2_with fail
  refine (bytes1_any false true s1 s2 a n c xa b m d xb w HA.out HB.out).mono ?_
  rintro e w1 ⟨⟨r, rfl⟩, hw⟩
  obtain rfl := hw.symm
  cases r with
  | false =>
    go_wp2_with fail
    go_ret
    exact ⟨rfl, Below.refl _ _⟩
  | true =>
  go_wp2_with fail
  refine (size_any s1 s2 a n c xa b m d xb w HA.out HB.out).mono ?_
  rintro e w1 ⟨⟨r, rfl⟩, hw⟩
  obtain rfl := hw.symm
  cases r with
  | false =>
    go_wp2_with fail
    go_ret
    exact ⟨rfl, Below.refl _ _⟩
  | true =>
  clear HA HB hw
  go_wp2_with fail
  refine (tasks_at (w.heap.size + 1) none (some ⟨w.heap.size, 0, none⟩) _ (by simp [go_sem]) (by simp [go_sem]) [.pointer (some ⟨w.heap.size, 0, none⟩)] rfl).mono ?_
  rintro e w3 ⟨v1, rfl, hv1, hb3⟩
  have HB3 : Hid (Below w.heap.size w w3) := by
    refine Below.trans ?_ (hb3.mono ?_)
    · exact ((((Below.refl _ _).alloc (Nat.le_refl _) _).alloc (by simp; try omega) _).alloc (by simp; try omega) _).alloc (by simp; try omega) _
    · simp; try omega
  have k26 : w3.cell? ⟨w.heap.size + 1, 26, none⟩ = some (.pointer none) := hold hb3 (by simp [go_sem])
  have k27 : w3.cell? ⟨w.heap.size + 1, 27, none⟩ = some (.pointer (some ⟨w.heap.size, 0, none⟩)) := hold hb3 (by simp [go_sem])
  have l26 : w3.cell? ⟨w.heap.size + 1 + 1, 26, none⟩ = some (.pointer none) := hold hb3 (by simp [go_sem])
  have l27 : w3.cell? ⟨w.heap.size + 1 + 1, 27, none⟩ = some (.pointer none) := hold hb3 (by simp [go_sem])
  have m26 : w3.cell? ⟨w.heap.size + 1 + 1 + 1, 26, none⟩ = some (.pointer none) := hold hb3 (by simp [go_sem])
  have m27 : w3.cell? ⟨w.heap.size + 1 + 1 + 1, 27, none⟩ = some (.pointer (some ⟨w.heap.size, 0, none⟩)) := hold hb3 (by simp [go_sem])
  have HV1 : Hid (PRow w3 v1 [.pointer (some ⟨w.heap.size, 0, none⟩)]) := hv1
  clear hb3 hv1
  go_wp2_with fail
  refine (tasks_at (w.heap.size + 1 + 1) none none w3 l26 l27 [] rfl).mono ?_
  rintro e w4 ⟨v2, rfl, hv2, hb4⟩
  have HV2 : Hid (PRow w4 v2 []) := hv2
  have HV1' : Hid (PRow w4 v1 [.pointer (some ⟨w.heap.size, 0, none⟩)]) := HV1.out.keep hb4
  have HB4 : Hid (Below w.heap.size w w4) := HB3.out.trans (hb4.mono HB3.out.size)
  have k26' := hold hb4 k26
  have k27' := hold hb4 k27
  have m26' := hold hb4 m26
  have m27' := hold hb4 m27
  clear hv2 hb4 HV1 HB3 k26 k27 l26 l27 m26 m27
  go_wp2_with fail
  refine (tasks_at (w.heap.size + 1 + 1 + 1) none (some ⟨w.heap.size, 0, none⟩) w4 m26' m27' [.pointer (some ⟨w.heap.size, 0, none⟩)] rfl).mono ?_
  rintro e w5 ⟨v3, rfl, hv3, hb5⟩
  have HV3 : Hid (PRow w5 v3 [.pointer (some ⟨w.heap.size, 0, none⟩)]) := hv3
  have HV2' : Hid (PRow w5 v2 []) := HV2.out.keep hb5
  have HV1 : Hid (PRow w5 v1 [.pointer (some ⟨w.heap.size, 0, none⟩)]) := HV1'.out.keep hb5
  have HB5 : Hid (Below w.heap.size w w5) := HB4.out.trans (hb5.mono HB4.out.size)
  have k26 := hold hb5 k26'
  have k27 := hold hb5 k27'
  clear hv3 hb5 HV1' HV2 HB4 k26' k27' m26' m27'
  obtain ⟨g1, cap1, rfl, x10⟩ := (HV1.out).one
  obtain ⟨a2, cap2, rfl⟩ := (HV2'.out).nil
  obtain ⟨g3, cap3, rfl, x30⟩ := (HV3.out).one
  clear HV1 HV2' HV3
  have er := eqP ⟨w.heap.size, 0, none⟩
  have fr := neP ⟨w.heap.size, 0, none⟩
  go_wp2_with fail
  refine (only_nil a2 cap2 _).mono ?_
  rintro e w6 ⟨rfl, hw6⟩
  obtain rfl := hw6.symm
  go_wp2_with fail
  refine (only_one g3 cap3 _ _ x30).mono ?_
  rintro e w7 ⟨rfl, hw7⟩
  obtain rfl := hw7.symm
  go_wp2_with fail
  go_loopw [21] (fun i wr => ∃ k nq : Nat, k ≤ 0 ∧ i = .int .i64 k ∧ wr = w5.drewN nq) (fun i _ => 0 - (intOf i).toNat)
  case atStart => exact ⟨0, 0, Nat.zero_le _, rfl, rfl⟩
  case round =>
    obtain ⟨k, nq, hk, rfl, rfl⟩ := hrel
    have hk1 : k = 0 := by omega
    subst hk1
    go_wp2_with fail
    go_loopw [22] (fun i wr => ∃ k nq : Nat, k ≤ 1 ∧ i = .int .i64 k ∧ wr = w5.drewN nq) (fun i _ => 1 - (intOf i).toNat)
    case atStart => exact ⟨0, nq, Nat.zero_le _, rfl, rfl⟩
    case round =>
      obtain ⟨k2, nq2, hk2, rfl, rfl⟩ := hrel
      by_cases hlt2 : k2 < 1
      · have hk0 : k2 = 0 := by omega
        subst hk0
        go_wp2_with fail
        go_quiet (fail)
        go_wp2_with fail
        go_roundw
        case rel => exact ⟨1, _, by omega, rfl, rfl⟩
        case measure => simp [intOf]
      · have hk3 : k2 = 1 := by omega
        subst hk3
        go_wp2_with fail
        go_ret
        exact ⟨rfl, below_drewN HB5.out _⟩

set_option maxHeartbeats 4000000 in
set_option maxRecDepth 100000 in
theorem law1_nn (s1 s2 : ByteArray) (a : Option Addr) (n c : Nat) (xa : List ByteArray) (b : Option Addr) (m d : Nat) (xb : List ByteArray) (w : World) (ha : TRow w a n xa) (hb : TRow w b m xb) :
    Calls Try.prog 3 #[.bool false, .string s1, .slice a n c, .bool false, .string s2, .slice b m d] w fun e w' => e = .returned (.bool true) ∧ Below w.heap.size w w' := by
  have HA : Hid (TRow w a n xa) := ha
  have HB : Hid (TRow w b m xb) := hb
  clear ha hb
  go_enter Try.func3, Try.ntmps3
  go_wp2_with fail
  refine (bytes1_any false false s1 s2 a n c xa b m d xb w HA.out HB.out).mono ?_
  rintro e w1 ⟨⟨r, rfl⟩, hw⟩
  obtain rfl := hw.symm
  cases r with
  | false =>
    go_wp2_with fail
    go_ret
    exact ⟨rfl, Below.refl _ _⟩
  | true =>
  go_wp2_with fail
  refine (size_any s1 s2 a n c xa b m d xb w HA.out HB.out).mono ?_
  rintro e w1 ⟨⟨r, rfl⟩, hw⟩
  obtain rfl := hw.symm
  cases r with
  | false =>
    go_wp2_with fail
    go_ret
    exact ⟨rfl, Below.refl _ _⟩
  | true =>
  clear HA HB hw
  go_wp2_with fail
  refine (tasks_at (w.heap.size) none none _ (by simp [go_sem]) (by simp [go_sem]) [] rfl).mono ?_
  rintro e w3 ⟨v1, rfl, hv1, hb3⟩
  have HB3 : Hid (Below w.heap.size w w3) := by
    refine Below.trans ?_ (hb3.mono ?_)
    · exact (((Below.refl _ _).alloc (Nat.le_refl _) _).alloc (by simp; try omega) _).alloc (by simp; try omega) _
    · simp; try omega
  have k26 : w3.cell? ⟨w.heap.size, 26, none⟩ = some (.pointer none) := hold hb3 (by simp [go_sem])
  have k27 : w3.cell? ⟨w.heap.size, 27, none⟩ = some (.pointer none) := hold hb3 (by simp [go_sem])
  have l26 : w3.cell? ⟨w.heap.size + 1, 26, none⟩ = some (.pointer none) := hold hb3 (by simp [go_sem])
  have l27 : w3.cell? ⟨w.heap.size + 1, 27, none⟩ = some (.pointer none) := hold hb3 (by simp [go_sem])
  have m26 : w3.cell? ⟨w.heap.size + 1 + 1, 26, none⟩ = some (.pointer none) := hold hb3 (by simp [go_sem])
  have m27 : w3.cell? ⟨w.heap.size + 1 + 1, 27, none⟩ = some (.pointer none) := hold hb3 (by simp [go_sem])
  have HV1 : Hid (PRow w3 v1 []) := hv1
  clear hb3 hv1
  go_wp2_with fail
  refine (tasks_at (w.heap.size + 1) none none w3 l26 l27 [] rfl).mono ?_
  rintro e w4 ⟨v2, rfl, hv2, hb4⟩
  have HV2 : Hid (PRow w4 v2 []) := hv2
  have HV1' : Hid (PRow w4 v1 []) := HV1.out.keep hb4
  have HB4 : Hid (Below w.heap.size w w4) := HB3.out.trans (hb4.mono HB3.out.size)
  have k26' := hold hb4 k26
  have k27' := hold hb4 k27
  have m26' := hold hb4 m26
  have m27' := hold hb4 m27
  clear hv2 hb4 HV1 HB3 k26 k27 l26 l27 m26 m27
  go_wp2_with fail
  refine (tasks_at (w.heap.size + 1 + 1) none none w4 m26' m27' [] rfl).mono ?_
  rintro e w5 ⟨v3, rfl, hv3, hb5⟩
  have HV3 : Hid (PRow w5 v3 []) := hv3
  have HV2' : Hid (PRow w5 v2 []) := HV2.out.keep hb5
  have HV1 : Hid (PRow w5 v1 []) := HV1'.out.keep hb5
  have HB5 : Hid (Below w.heap.size w w5) := HB4.out.trans (hb5.mono HB4.out.size)
  have k26 := hold hb5 k26'
  have k27 := hold hb5 k27'
  clear hv3 hb5 HV1' HV2 HB4 k26' k27' m26' m27'
  obtain ⟨a1, cap1, rfl⟩ := (HV1.out).nil
  obtain ⟨a2, cap2, rfl⟩ := (HV2'.out).nil
  obtain ⟨a3, cap3, rfl⟩ := (HV3.out).nil
  clear HV1 HV2' HV3
  go_wp2_with fail
  refine (only_nil a2 cap2 _).mono ?_
  rintro e w6 ⟨rfl, hw6⟩
  obtain rfl := hw6.symm
  go_wp2_with fail
  refine (only_nil a3 cap3 _).mono ?_
  rintro e w7 ⟨rfl, hw7⟩
  obtain rfl := hw7.symm
  go_wp2_with fail
  go_loopw [21] (fun i wr => ∃ k nq : Nat, k ≤ 0 ∧ i = .int .i64 k ∧ wr = w5.drewN nq) (fun i _ => 0 - (intOf i).toNat)
  case atStart => exact ⟨0, 0, Nat.zero_le _, rfl, rfl⟩
  case round =>
    obtain ⟨k, nq, hk, rfl, rfl⟩ := hrel
    have hk1 : k = 0 := by omega
    subst hk1
    go_wp2_with fail
    go_loopw [22] (fun i wr => ∃ k nq : Nat, k ≤ 0 ∧ i = .int .i64 k ∧ wr = w5.drewN nq) (fun i _ => 0 - (intOf i).toNat)
    case atStart => exact ⟨0, nq, Nat.zero_le _, rfl, rfl⟩
    case round =>
      obtain ⟨k2, nq2, hk2, rfl, rfl⟩ := hrel
      have hk3 : k2 = 0 := by omega
      subst hk3
      go_wp2_with fail
      go_ret
      exact ⟨rfl, below_drewN HB5.out _⟩

theorem law1_walk (p q : Bool) (s1 s2 : ByteArray) (a : Option Addr) (n c : Nat) (xa : List ByteArray) (b : Option Addr) (m d : Nat) (xb : List ByteArray) (w : World) (ha : TRow w a n xa) (hb : TRow w b m xb) :
    Calls Try.prog 3 #[.bool p, .string s1, .slice a n c, .bool q, .string s2, .slice b m d] w fun e w' => e = .returned (.bool true) ∧ Below w.heap.size w w' := by
  cases p with
  | true =>
    cases q with
    | true => exact law1_yy s1 s2 a n c xa b m d xb w ha hb
    | false => exact law1_yn s1 s2 a n c xa b m d xb w ha hb
  | false =>
    cases q with
    | true => exact law1_ny s1 s2 a n c xa b m d xb w ha hb
    | false => exact law1_nn s1 s2 a n c xa b m d xb w ha hb
end Go.Proofs.Qxb6628620a
