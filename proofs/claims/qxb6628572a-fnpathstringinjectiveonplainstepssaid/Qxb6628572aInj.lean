import Derived.Test.Qxb6628572aLeaf2
namespace Go.Proofs.Qxb6628572a
open Go.RowKit

theorem plain_step {ts : List ByteArray} {k : Nat} {s : ByteArray} (hm : ts[k]? = some s) (h : ∀ t ∈ ts.take k, plainT t) (h0 : s.size ≠ 0) (hs : hasSlash s = false) : ∀ t ∈ ts.take (k + 1), plainT t := by
  rw [take_snoc hm]
  intro t ht
  rcases List.mem_append.1 ht with ht | ht
  · exact h t ht
  · simp at ht
    subst ht
    refine ⟨h0, fun hm => ?_⟩
    unfold hasSlash at hs
    rw [← Bool.not_eq_true, List.contains_iff_mem] at hs
    exact hs hm

set_option maxHeartbeats 4000000 in
set_option maxRecDepth 100000 in
theorem inj_walk (a : Option Addr) (n c : Nat) (xa : List ByteArray) (b : Option Addr) (m d : Nat) (xb : List ByteArray) (w : World) (ha : TRow w a n xa) (hb : TRow w b m xb) :
    Calls Try.prog 4 #[.slice a n c, .slice b m d] w fun e w' => e = .returned (.bool true) ∧ Below w.heap.size w w' := by
  have HA : Hid (TRow w a n xa) := ha
  have HB : Hid (TRow w b m xb) := hb
  clear ha hb
  go_enter Try.func4, Try.ntmps4
  go_wp2_with fail
  refine (bytes2_any a n c xa b m d xb w HA.out HB.out).mono ?_
  rintro e w1 ⟨⟨r, rfl, hfit⟩, hw⟩
  obtain rfl := hw.symm
  cases r with
  | false =>
    go_wp2_with fail
    go_ret
    exact ⟨rfl, Below.refl _ _⟩
  | true =>
  have HF : Hid ((xa.length ≤ 1048576 ∧ ∀ s ∈ xa, s.size ≤ 1048576) ∧ (xb.length ≤ 1048576 ∧ ∀ s ∈ xb, s.size ≤ 1048576)) := hfit rfl
  clear hfit
  by_cases hbig : (65536 : Int) < (n : Int)
  · go_wp2_with fail
    go_ret
    exact ⟨rfl, Below.refl _ _⟩
  by_cases hbig2 : (65536 : Int) < (m : Int)
  · go_wp2_with fail
    go_ret
    exact ⟨rfl, Below.refl _ _⟩
  have hN : n ≤ 65536 := by omega
  have hM : m ≤ 65536 := by omega
  go_wp2_with fail
  go_loop [5, 6] (fun t i => ∃ j : Nat, j ≤ n ∧ i = .int .i64 j ∧ t = .int .i64 (sum16 (xa.take j) : Nat) ∧ sum16 (xa.take j) ≤ 1048576) (fun _ i => n - (intOf i).toNat)
  case atStart => exact ⟨0, Nat.zero_le _, rfl, rfl, by simp [sum16]⟩
  case round =>
    obtain ⟨j, hj, rfl, rfl, hsum⟩ := hrel
    by_cases hlt : j < n
    · obtain ⟨hn, h0 | ⟨b1, off, rfl, hb1, hl⟩⟩ := HA.out
      · omega
      obtain ⟨s, hm⟩ : ∃ x, xa[j]? = some x := ⟨xa[j]'(by omega), List.getElem?_eq_getElem _⟩
      have c0 := hl j _ hm
      have h3 : s.size ≤ 1048576 := HF.out.1.2 s (List.mem_of_getElem? hm)
      have HT : Hid (sum16 (xa.take (j + 1)) = sum16 (xa.take j) + (16 + s.size)) := by
        show sum16 _ = _
        rw [take_snoc hm, sum16_snoc]
      clear hm hl hn
      generalize sum16 (xa.take j) = q at *
      go_wp2_with fail
      all_goals first | (go_ret; exact ⟨rfl, Below.refl _ _⟩) | skip
      go_round
      case rel => exact ⟨j + 1, by omega, by go_num, by rw [HT.out]; go_num, by rw [HT.out]; omega⟩
      case measure => simp [intOf]; omega
    · have e : xa.take j = xa := List.take_of_length_le (by have := HA.out.1; omega)
      rw [e] at hsum ⊢
      clear e
      have HTA : Hid (total xa ≤ sum16 xa) := total_le_sum16 xa
      generalize sum16 xa = qa at *
      go_wp2_with fail
      clear hlt hj
      go_loop [5, 7] (fun t i => ∃ j : Nat, j ≤ m ∧ i = .int .i64 j ∧ t = .int .i64 ((qa : Int) + (sum16 (xb.take j) : Nat)) ∧ qa + sum16 (xb.take j) ≤ 1048576) (fun _ i => m - (intOf i).toNat)
      case atStart => exact ⟨0, Nat.zero_le _, rfl, by simp [sum16], by simp [sum16]; omega⟩
      case round =>
        obtain ⟨j2, hj, rfl, rfl, hsum2⟩ := hrel
        by_cases hlt : j2 < m
        · obtain ⟨hn, h0 | ⟨b1, off, rfl, hb1, hl⟩⟩ := HB.out
          · omega
          obtain ⟨s, hm⟩ : ∃ x, xb[j2]? = some x := ⟨xb[j2]'(by omega), List.getElem?_eq_getElem _⟩
          have c0 := hl j2 _ hm
          have h3 : s.size ≤ 1048576 := HF.out.2.2 s (List.mem_of_getElem? hm)
          have HT : Hid (sum16 (xb.take (j2 + 1)) = sum16 (xb.take j2) + (16 + s.size)) := by
            show sum16 _ = _
            rw [take_snoc hm, sum16_snoc]
          clear hm hl hn
          generalize sum16 (xb.take j2) = q at *
          go_wp2_with fail
          all_goals first | (go_ret; exact ⟨rfl, Below.refl _ _⟩) | skip
          go_round
          case rel => exact ⟨j2 + 1, by omega, by go_num, by rw [HT.out]; go_num, by rw [HT.out]; omega⟩
          case measure => simp [intOf]; omega
        · have HTT : Hid (total xa ≤ 1048576 ∧ total xb ≤ 1048576) := by
            have e : xb.take j2 = xb := List.take_of_length_le (by have := HB.out.1; omega)
            rw [e] at hsum2
            have h1 := total_le_sum16 xb
            have h2 := HTA.out
            exact ⟨by omega, by omega⟩
          generalize sum16 (xb.take j2) = qb at *
          go_wp2_with fail
          clear hlt hj hsum2 hsum HTA
          go_loop [8] (fun i => ∃ j : Nat, j ≤ n ∧ i = .int .i64 j ∧ ∀ t ∈ xa.take j, plainT t) (fun i => n - (intOf i).toNat)
          case atStart => exact ⟨0, Nat.zero_le _, rfl, by simp⟩
          case round =>
            obtain ⟨j3, hj, rfl, hpl⟩ := hrel
            have HPL : Hid (∀ t ∈ xa.take j3, plainT t) := hpl
            clear hpl
            by_cases hlt : j3 < n
            · obtain ⟨hn, h0 | ⟨b1, off, rfl, hb1, hl⟩⟩ := HA.out
              · omega
              obtain ⟨s, hm⟩ : ∃ x, xa[j3]? = some x := ⟨xa[j3]'(by omega), List.getElem?_eq_getElem _⟩
              have c0 := hl j3 _ hm
              have h3 : s.size ≤ 1048576 := HF.out.1.2 s (List.mem_of_getElem? hm)
              have HM : Hid (xa[j3]? = some s) := hm
              clear hm hl hn
              by_cases hz : s.size = 0
              · have z0 : ((s.size : Int) == 0) = true := by rw [beq_iff_eq]; omega
                clear hz
                go_wp2_with fail
                go_ret
                exact ⟨rfl, Below.refl _ _⟩
              · have z0 : ((s.size : Int) == 0) = false := by rw [beq_eq_false_iff_ne]; omega
                have HZ : Hid (s.size ≠ 0) := hz
                clear hz
                go_wp2_with fail
                refine (slash_any s w h3).mono ?_
                rintro e w2 ⟨rfl, hw2⟩
                obtain rfl := hw2.symm
                cases hsl : hasSlash s with
                | true =>
                  clear hsl
                  go_wp2_with fail
                  go_ret
                  exact ⟨rfl, Below.refl _ _⟩
                | false =>
                  have HSL : Hid (hasSlash s = false) := hsl
                  clear hsl
                  go_wp2_with fail
                  go_round
                  case rel => exact ⟨j3 + 1, by omega, by go_num, plain_step HM.out HPL.out HZ.out HSL.out⟩
                  case measure => simp [intOf]; omega
            · have HPA : Hid (∀ t ∈ xa, plainT t) := by
                have h := HPL.out
                rwa [List.take_of_length_le (by have := HA.out.1; omega)] at h
              go_wp2_with fail
              clear hlt hj HPL
              go_loop [9] (fun i => ∃ j : Nat, j ≤ m ∧ i = .int .i64 j ∧ ∀ t ∈ xb.take j, plainT t) (fun i => m - (intOf i).toNat)
              case atStart => exact ⟨0, Nat.zero_le _, rfl, by simp⟩
              case round =>
                obtain ⟨j4, hj, rfl, hpl⟩ := hrel
                have HPL : Hid (∀ t ∈ xb.take j4, plainT t) := hpl
                clear hpl
                by_cases hlt : j4 < m
                · obtain ⟨hn, h0 | ⟨b1, off, rfl, hb1, hl⟩⟩ := HB.out
                  · omega
                  obtain ⟨s, hm⟩ : ∃ x, xb[j4]? = some x := ⟨xb[j4]'(by omega), List.getElem?_eq_getElem _⟩
                  have c0 := hl j4 _ hm
                  have h3 : s.size ≤ 1048576 := HF.out.2.2 s (List.mem_of_getElem? hm)
                  have HM : Hid (xb[j4]? = some s) := hm
                  clear hm hl hn
                  by_cases hz : s.size = 0
                  · have z0 : ((s.size : Int) == 0) = true := by rw [beq_iff_eq]; omega
                    clear hz
                    go_wp2_with fail
                    go_ret
                    exact ⟨rfl, Below.refl _ _⟩
                  · have z0 : ((s.size : Int) == 0) = false := by rw [beq_eq_false_iff_ne]; omega
                    have HZ : Hid (s.size ≠ 0) := hz
                    clear hz
                    go_wp2_with fail
                    refine (slash_any s w h3).mono ?_
                    rintro e w2 ⟨rfl, hw2⟩
                    obtain rfl := hw2.symm
                    cases hsl : hasSlash s with
                    | true =>
                      clear hsl
                      go_wp2_with fail
                      go_ret
                      exact ⟨rfl, Below.refl _ _⟩
                    | false =>
                      have HSL : Hid (hasSlash s = false) := hsl
                      clear hsl
                      go_wp2_with fail
                      go_round
                      case rel => exact ⟨j4 + 1, by omega, by go_num, plain_step HM.out HPL.out HZ.out HSL.out⟩
                      case measure => simp [intOf]; omega
                · have HPB : Hid (∀ t ∈ xb, plainT t) := by
                    have h := HPL.out
                    rwa [List.take_of_length_le (by have := HB.out.1; omega)] at h
                  go_wp2_with fail
                  clear hlt hj HPL
                  refine (path_any a n c xa w HA.out (by omega)).mono ?_
                  rintro e w2 ⟨g2, rfl, hs2, hb2⟩
                  go_wp2_with fail
                  refine (string_any g2 n n xa _ hs2 HA.out.1 (by omega) HTT.out.1).mono ?_
                  rintro e w3 ⟨rfl, hb3⟩
                  have HB3 : Hid (Below w.heap.size w w3) := hb2.trans (hb3.mono hb2.size)
                  clear hb2 hb3 hs2
                  have EA : Hid (str xa = ⟨(printed xa).toArray⟩) := rfl
                  rw [← EA.out]
                  go_wp2_with fail
                  refine (path_any b m d xb w3 (HB.out.keep HB3.out) (by omega)).mono ?_
                  rintro e w4 ⟨g4, rfl, hs4, hb4⟩
                  go_wp2_with fail
                  refine (string_any g4 m m xb _ hs4 HB.out.1 (by omega) HTT.out.2).mono ?_
                  rintro e w5 ⟨rfl, hb5⟩
                  have HB5 : Hid (Below w.heap.size w w5) := HB3.out.trans ((hb4.trans (hb5.mono hb4.size)).mono HB3.out.size)
                  clear hb4 hb5 hs4 HB3
                  have EB : Hid (str xb = ⟨(printed xb).toArray⟩) := rfl
                  rw [← EB.out]
                  have hlaw : ((str xa).toList == (str xb).toList) = sameB xa xb := by
                    have h := law_inj HPA.out HPB.out
                    rwa [bne_eq_false_iff_eq] at h
                  have hWa : (((str xa).size : Int) != ((plen xa : Nat) : Int)) = false := by rw [str_size]; simp
                  have hWb : (((str xb).size : Int) != ((plen xb : Nat) : Int)) = false := by rw [str_size]; simp
                  generalize str xa = A at *
                  generalize str xb = B at *
                  have hsame := same_any a n c xa b m d xb w5 (HA.out.keep HB5.out) (HB.out.keep HB5.out) (by omega)
                  rw [← hlaw] at hsame
                  have HSM : Hid (Calls Try.prog 12 #[.slice a n c, .slice b m d] w5 fun e w' => e = .returned (.bool (A.toList == B.toList)) ∧ Below w5.heap.size w5 w') := hsame
                  clear hsame hlaw
                  generalize hab : (A.toList == B.toList) = ab at *
                  have HAB : Hid ((A.toList == B.toList) = ab) := hab
                  go_wp2_with fail
                  refine HSM.out.mono ?_
                  rintro e w6 ⟨rfl, hb6⟩
                  have HB6 : Hid (Below w.heap.size w w6) := HB5.out.trans (hb6.mono HB5.out.size)
                  clear hb6 HB5
                  go_wp2_with fail
                  refine (plen_any a n c xa _ (HA.out.keep HB6.out) (by omega) HTT.out.1).mono ?_
                  rintro e w7 ⟨rfl, hw7⟩
                  obtain rfl := hw7.symm
                  go_wp2_with fail
                  refine (plen_any b m d xb _ (HB.out.keep HB6.out) (by omega) HTT.out.2).mono ?_
                  rintro e w8 ⟨rfl, hw8⟩
                  obtain rfl := hw8.symm
                  go_wp2_with fail
                  go_ret
                  exact ⟨rfl, HB6.out⟩
end Go.Proofs.Qxb6628572a
