import Derived.Test.Qxb6628572aEnds
namespace Go.Proofs.Qxb6628572a
open Go.RowKit

def sum16 (ts : List ByteArray) : Nat := (ts.map fun s => 16 + s.size).sum
theorem sum16_snoc (ts : List ByteArray) (s : ByteArray) : sum16 (ts ++ [s]) = sum16 ts + (16 + s.size) := by simp [sum16]
theorem total_le_sum16 (ts : List ByteArray) : total ts ≤ sum16 ts := by
  induction ts with
  | nil => exact Nat.le_refl _
  | cons s ts ih =>
    simp only [total, sum16, List.map_cons, List.sum_cons] at ih ⊢
    omega

theorem TRow.take {w : World} {a : Option Addr} {n k : Nat} {ts : List ByteArray} (h : TRow w a n ts) (hk : k ≤ n) : TRow w a k (ts.take k) := by
  obtain ⟨hn, h0⟩ := h
  refine ⟨by simp; omega, ?_⟩
  by_cases hz : k = 0
  · exact .inl hz
  · rcases h0 with h0 | ⟨b, off, rfl, hb, hl⟩
    · omega
    · refine .inr ⟨b, off, rfl, hb, fun i s hi => hl i s ?_⟩
      rw [List.getElem?_take] at hi
      split at hi
      · exact hi
      · cases hi

theorem TRow.drop {w : World} {a : Option Addr} {n k : Nat} {ts : List ByteArray} (h : TRow w a n ts) (_hk : k ≤ n) : TRow w (Option.map (fun x => x.add k) a) (n - k) (ts.drop k) := by
  obtain ⟨hn, h0⟩ := h
  refine ⟨by simp; omega, ?_⟩
  rcases h0 with h0 | ⟨b, off, rfl, hb, hl⟩
  · exact .inl (by omega)
  · refine .inr ⟨b, off + k, ?_, hb, fun i s hi => ?_⟩
    · show some ((⟨b, off, none⟩ : Addr).add k) = _
      rw [WideShapes.add_plain]
    · rw [List.getElem?_drop] at hi
      have := hl _ _ hi
      rwa [← Nat.add_assoc] at this
theorem TRow.none_left {w : World} {a : Option Addr} {n k : Nat} {ts : List ByteArray} (h : TRow w a n ts) (hk : n ≤ k) : TRow w a (n - k) (ts.drop k) := by
  have hn := h.1
  exact ⟨by simp; omega, .inl (by omega)⟩

/-- The printed path as a string value. -/
def str (ts : List ByteArray) : ByteArray := ⟨(printed ts).toArray⟩
theorem str_size (ts : List ByteArray) : (str ts).size = plen ts := by
  show (printed ts).toArray.size = _
  rw [List.size_toArray, plen_printed]
theorem str_data (ts : List ByteArray) : (str ts).data.toList = printed ts := rfl
theorem body_append (xs ys : List ByteArray) : body (xs ++ ys) = body xs ++ body ys := by simp [body]
theorem join_all {ts : List ByteArray} {k : Nat} (h0 : 0 < k) (hk : k < ts.length) : printed ts = printed (ts.take k) ++ printed (ts.drop k) := by
  have e1 : (ts.take k).length ≠ 0 := by rw [List.length_take]; omega
  have e2 : (ts.drop k).length ≠ 0 := by rw [List.length_drop]; omega
  unfold printed
  rw [if_neg e1, if_neg e2, if_neg (by omega), ← body_append, List.take_append_drop]
theorem eq_bytes {x y : ByteArray} (h : x.data.toList = y.data.toList) : (x.toList == y.toList) = true := by
  rw [ByteArray.toList_eq, ByteArray.toList_eq, h]
  simp
theorem append_data (x y : ByteArray) : (x ++ y).data.toList = x.data.toList ++ y.data.toList := by
  obtain ⟨x⟩ := x
  obtain ⟨y⟩ := y
  rw [ByteArray.mk_append_mk]
theorem printed_pos (ts : List ByteArray) : ∃ l, printed ts = 47 :: l := by
  unfold printed
  split
  · exact ⟨[], rfl⟩
  · cases ts with
    | nil => simp at *
    | cons s ts => exact ⟨s.data.toList ++ body ts, by simp [body]⟩
theorem str_first (ts : List ByteArray) (h : 0 < (str ts).size) : (str ts)[0] = 47 := by
  have e := at_list (str ts) 0 h
  obtain ⟨l, hl⟩ := printed_pos ts
  rw [str_data, hl] at e
  simp at e
  exact e.symm
theorem str_last {ts : List ByteArray} {n : Nat} {s : ByteArray} (hn : ts.length = n) (h0 : 0 < n) (hs : ts[n - 1]? = some s) : (str ts).data.toList = body (ts.take (n - 1)) ++ 47 :: s.data.toList := by
  rw [str_data]
  unfold printed
  rw [if_neg (by omega), ← body_snoc, ← take_snoc hs, List.take_of_length_le (by omega)]
theorem plen_le (ts : List ByteArray) : plen ts ≤ total ts + 1 := by unfold plen; split <;> omega

set_option maxHeartbeats 2000000 in
set_option maxRecDepth 100000 in
theorem cut_walk (a : Option Addr) (n cap : Nat) (ts : List ByteArray) (k : Int) (w : World) (hr : TRow w a n ts) (hcap : n ≤ cap) :
    Calls Try.prog 3 #[.slice a n cap, .int .i64 k] w fun e w' => e = .returned (.bool true) ∧ Below w.heap.size w w' := by
  have HR : Hid (TRow w a n ts) := hr
  clear hr
  go_enter Try.func3, Try.ntmps3
  go_wp2_with fail
  refine (bytes1_any a n cap k ts w HR.out).mono ?_
  rintro e w1 ⟨⟨r, rfl, hfit⟩, hw⟩
  obtain rfl := hw.symm
  cases r with
  | false =>
    go_wp2_with fail
    go_ret
    exact ⟨rfl, Below.refl _ _⟩
  | true =>
  have HF : Hid (ts.length ≤ 1048576 ∧ ∀ s ∈ ts, s.size ≤ 1048576) := hfit rfl
  clear hfit
  by_cases hbig : (65536 : Int) < (n : Int)
  · go_wp2_with fail
    go_ret
    exact ⟨rfl, Below.refl _ _⟩
  have hN : n ≤ 65536 := by omega
  go_wp2_with fail
  go_loop [5, 6] (fun t i => ∃ j : Nat, j ≤ n ∧ i = .int .i64 j ∧ t = .int .i64 (sum16 (ts.take j) : Nat) ∧ sum16 (ts.take j) ≤ 1048576) (fun _ i => n - (intOf i).toNat)
  case atStart => exact ⟨0, Nat.zero_le _, rfl, rfl, by simp [sum16]⟩
  case round =>
    obtain ⟨j, hj, rfl, rfl, hsum⟩ := hrel
    by_cases hlt : j < n
    · obtain ⟨hn, h0 | ⟨b, off, rfl, hb, hl⟩⟩ := HR.out
      · omega
      obtain ⟨s, hm⟩ : ∃ m, ts[j]? = some m := ⟨ts[j]'(by omega), List.getElem?_eq_getElem _⟩
      have c0 := hl j _ hm
      have h3 : s.size ≤ 1048576 := HF.out.2 s (List.mem_of_getElem? hm)
      have HT : Hid (sum16 (ts.take (j + 1)) = sum16 (ts.take j) + (16 + s.size)) := by
        show sum16 _ = _
        rw [take_snoc hm, sum16_snoc]
      clear hm hl hn
      generalize sum16 (ts.take j) = q at *
      go_wp2_with fail
      all_goals first | (go_ret; exact ⟨rfl, Below.refl _ _⟩) | skip
      go_round
      case rel => exact ⟨j + 1, by omega, by go_num, by rw [HT.out]; go_num, by rw [HT.out]; omega⟩
      case measure => simp [intOf]; omega
    · have HT : Hid (total ts ≤ 1048576) := by
        have e : ts.take j = ts := List.take_of_length_le (by have := HR.out.1; omega)
        rw [e] at hsum
        exact Nat.le_trans (total_le_sum16 ts) hsum
      clear hsum
      generalize sum16 (ts.take j) = q at *
      by_cases hk0 : k < 0
      · go_wp2_with fail
        go_ret
        exact ⟨rfl, Below.refl _ _⟩
      by_cases hkn : (n : Int) < k
      · go_wp2_with fail
        go_ret
        exact ⟨rfl, Below.refl _ _⟩
      obtain ⟨k, rfl⟩ := Int.eq_ofNat_of_zero_le (Int.not_lt.1 hk0)
      have hkn' : k ≤ n := by omega
      go_wp2_with fail
      clear hlt hj
      refine (path_any a n cap ts w HR.out (by omega)).mono ?_
      rintro e w2 ⟨g2, rfl, hs2, hb2⟩
      go_wp2_with fail
      refine (string_any g2 n n ts _ hs2 HR.out.1 (by omega) HT.out).mono ?_
      rintro e w3 ⟨rfl, hb3⟩
      have HB3 : Hid (Below w.heap.size w w3) := hb2.trans (hb3.mono hb2.size)
      have HR3 : Hid (TRow w3 a n ts) := HR.out.keep HB3.out
      clear hb2 hb3 hs2
      have EW : Hid (str ts = ⟨(printed ts).toArray⟩) := rfl
      rw [← EW.out]
      obtain ⟨W, hW⟩ : ∃ W, W = str ts := ⟨_, rfl⟩
      rw [← hW]
      have HW : Hid (W = str ts) := hW
      clear hW
      go_wp2_with fail
      have HK : Hid (TRow w3 a k (ts.take k)) := HR3.out.take hkn'
      refine (path_any a k cap (ts.take k) w3 HK.out (by omega)).mono ?_
      rintro e w4 ⟨g4, rfl, hs4, hb4⟩
      go_wp2_with fail
      refine (string_any g4 k k (ts.take k) _ hs4 HK.out.1 (by omega) (Nat.le_trans (total_take_le ts k) HT.out)).mono ?_
      rintro e w5 ⟨rfl, hb5⟩
      have HB5 : Hid (Below w.heap.size w w5) := HB3.out.trans ((hb4.trans (hb5.mono hb4.size)).mono HB3.out.size)
      have HR5 : Hid (TRow w5 a n ts) := HR.out.keep HB5.out
      clear hb4 hb5 hs4 HB3 HR3 HK
      obtain ⟨L, hL⟩ : ∃ L, L = str (ts.take k) := ⟨_, rfl⟩
      have EL : Hid (str (ts.take k) = ⟨(printed (ts.take k)).toArray⟩) := rfl
      rw [← EL.out, ← hL]
      have HL : Hid (L = str (ts.take k)) := hL
      clear hL
      have HD1 : Hid (TRow w5 (Option.map (fun x => x.add k) a) (n - k) (ts.drop k)) := HR5.out.drop hkn'
      go_wp2_with fail
      · have hck : cap = k := by omega
        refine (path_any _ (n - k) 0 (ts.drop k) _ (HR5.out.none_left (by omega)) (by omega)).mono ?_
        rintro e w6 ⟨g6, rfl, hs6, hb6⟩
        go_wp2_with fail
        refine (string_any g6 (n - k) (n - k) (ts.drop k) _ hs6 HD1.out.1 (by omega) (Nat.le_trans (total_drop_le ts k) HT.out)).mono ?_
        rintro e w7 ⟨rfl, hb7⟩
        have HB7 : Hid (Below w.heap.size w w7) := HB5.out.trans ((hb6.trans (hb7.mono hb6.size)).mono HB5.out.size)
        have HR7 : Hid (TRow w7 a n ts) := HR.out.keep HB7.out
        clear hb6 hb7 hs6 HB5 HR5 HD1
        obtain ⟨R, hR⟩ : ∃ R, R = str (ts.drop k) := ⟨_, rfl⟩
        have ER : Hid (str (ts.drop k) = ⟨(printed (ts.drop k)).toArray⟩) := rfl
        rw [← ER.out, ← hR]
        have HRR : Hid (R = str (ts.drop k)) := hR
        clear hR
        have hWs : ((W.size : Int) != ((plen ts : Nat) : Int)) = false := by rw [HW.out, str_size]; simp
        have hx : 0 < W.size := by
          obtain ⟨l', hl'⟩ := printed_pos ts
          have h := plen_printed ts
          rw [hl', List.length_cons] at h
          rw [HW.out, str_size]
          omega
        have hb0 : (((W[0]'hx).toNat : Int) != 47) = false := by
          have e : W[0]'hx = 47 := by
            have h := HW.out
            subst h
            exact str_first ts hx
          rw [e]; rfl
        have hw0 : (0 : Int) < (W.size : Int) := by omega
        have hL1 : L.size ≤ 2097152 := by
          rw [HL.out, str_size]
          have := plen_le (ts.take k)
          have := total_take_le ts k
          have := HT.out
          omega
        have hR1 : R.size ≤ 2097152 := by
          rw [HRR.out, str_size]
          have := plen_le (ts.drop k)
          have := total_drop_le ts k
          have := HT.out
          omega
        have HWB : Hid (W.size ≤ 2097152) := by
          have := plen_le ts
          have := HT.out
          show W.size ≤ _
          rw [HW.out, str_size]
          omega
        have HJ : Hid ((k = 0 ∧ (W.toList == R.toList) = true) ∨ (k ≠ 0 ∧ k = n ∧ (W.toList == L.toList) = true) ∨ (k ≠ 0 ∧ k ≠ n ∧ (W.toList == (L ++ R).toList) = true)) := by
          have hn := HR.out.1
          by_cases hk0 : k = 0
          · refine .inl ⟨hk0, eq_bytes ?_⟩
            rw [HW.out, HRR.out, hk0, List.drop_zero]
          by_cases hk1 : k = n
          · refine .inr (.inl ⟨hk0, hk1, eq_bytes ?_⟩)
            rw [HW.out, HL.out, List.take_of_length_le (by omega)]
          · refine .inr (.inr ⟨hk0, hk1, eq_bytes ?_⟩)
            rw [HW.out, HL.out, HRR.out, append_data, str_data, str_data, str_data]
            exact join_all (by omega) (by omega)
        by_cases hn0 : n = 0
        · have hk0 : k = 0 := by omega
          have hj : (W.toList == R.toList) = true := by
            rcases HJ.out with ⟨_, hj⟩ | ⟨h, _⟩ | ⟨h, _⟩
            · exact hj
            · exact absurd hk0 h
            · exact absurd hk0 h
          have t0 : ((k : Int) == 0) = true := by rw [beq_iff_eq]; omega
          have u0 : ¬ ((0 : Int) < (n : Int)) := by omega
          clear hk0 HJ hn0
          go_wp2_with fail
          refine (plen_any a n _ ts _ HR7.out (by omega) HT.out).mono ?_
          rintro e w8 ⟨rfl, hw8⟩
          obtain rfl := hw8.symm
          go_wp2_with fail
          go_ret
          exact ⟨rfl, HB7.out⟩
        obtain ⟨hn, h0 | ⟨b, off, rfl, hb, hl⟩⟩ := HR7.out
        · exact absurd h0 hn0
        obtain ⟨s, hm⟩ : ∃ m, ts[n - 1]? = some m := ⟨ts[n - 1]'(by omega), List.getElem?_eq_getElem _⟩
        have hlast : w7.cell? ⟨b, off + (n - 1), none⟩ = some (.string s) := hl _ _ hm
        have HQ : Hid (W.data.toList = body (ts.take (n - 1)) ++ 47 :: s.data.toList) := by
          show W.data.toList = _
          rw [HW.out]
          exact str_last hn (by omega) hm
        have v0 : (0 : Int) ≤ (n : Int) - 1 := by omega
        have v1 : (n : Int) - 1 < (n : Int) := by omega
        have u0 : (0 : Int) < (n : Int) := by omega
        clear hl hm hn hb
        have hk0 : k ≠ 0 := by omega
        have hk1 : k = n := by omega
        have hj : (W.toList == L.toList) = true := by
          rcases HJ.out with ⟨h, _⟩ | ⟨_, _, hj⟩ | ⟨_, h, _⟩
          · exact absurd h hk0
          · exact hj
          · exact absurd hk1 h
        have t0 : ((k : Int) == 0) = false := by rw [beq_eq_false_iff_ne]; omega
        have t1 : ((k : Int) == (n : Int)) = true := by rw [beq_iff_eq]; omega
        clear hk0 hk1 HJ
        go_wp2_with fail
        refine (plen_any _ n _ ts _ HR7.out (by omega) HT.out).mono ?_
        rintro e w8 ⟨rfl, hw8⟩
        obtain rfl := hw8.symm
        go_wp2_with fail
        refine (ends_any W s _ _ HQ.out HWB.out).mono ?_
        rintro e w9 ⟨rfl, hb9⟩
        go_wp2_with fail
        go_ret
        exact ⟨rfl, HB7.out.trans (hb9.mono HB7.out.size)⟩
      · refine (path_any _ (n - k) (cap - k) (ts.drop k) _ HD1.out (by omega)).mono ?_
        rintro e w6 ⟨g6, rfl, hs6, hb6⟩
        go_wp2_with fail
        refine (string_any g6 (n - k) (n - k) (ts.drop k) _ hs6 HD1.out.1 (by omega) (Nat.le_trans (total_drop_le ts k) HT.out)).mono ?_
        rintro e w7 ⟨rfl, hb7⟩
        have HB7 : Hid (Below w.heap.size w w7) := HB5.out.trans ((hb6.trans (hb7.mono hb6.size)).mono HB5.out.size)
        have HR7 : Hid (TRow w7 a n ts) := HR.out.keep HB7.out
        clear hb6 hb7 hs6 HB5 HR5 HD1
        obtain ⟨R, hR⟩ : ∃ R, R = str (ts.drop k) := ⟨_, rfl⟩
        have ER : Hid (str (ts.drop k) = ⟨(printed (ts.drop k)).toArray⟩) := rfl
        rw [← ER.out, ← hR]
        have HRR : Hid (R = str (ts.drop k)) := hR
        clear hR
        have hWs : ((W.size : Int) != ((plen ts : Nat) : Int)) = false := by rw [HW.out, str_size]; simp
        have hx : 0 < W.size := by
          obtain ⟨l', hl'⟩ := printed_pos ts
          have h := plen_printed ts
          rw [hl', List.length_cons] at h
          rw [HW.out, str_size]
          omega
        have hb0 : (((W[0]'hx).toNat : Int) != 47) = false := by
          have e : W[0]'hx = 47 := by
            have h := HW.out
            subst h
            exact str_first ts hx
          rw [e]; rfl
        have hw0 : (0 : Int) < (W.size : Int) := by omega
        have hL1 : L.size ≤ 2097152 := by
          rw [HL.out, str_size]
          have := plen_le (ts.take k)
          have := total_take_le ts k
          have := HT.out
          omega
        have hR1 : R.size ≤ 2097152 := by
          rw [HRR.out, str_size]
          have := plen_le (ts.drop k)
          have := total_drop_le ts k
          have := HT.out
          omega
        have HWB : Hid (W.size ≤ 2097152) := by
          have := plen_le ts
          have := HT.out
          show W.size ≤ _
          rw [HW.out, str_size]
          omega
        have HJ : Hid ((k = 0 ∧ (W.toList == R.toList) = true) ∨ (k ≠ 0 ∧ k = n ∧ (W.toList == L.toList) = true) ∨ (k ≠ 0 ∧ k ≠ n ∧ (W.toList == (L ++ R).toList) = true)) := by
          have hn := HR.out.1
          by_cases hk0 : k = 0
          · refine .inl ⟨hk0, eq_bytes ?_⟩
            rw [HW.out, HRR.out, hk0, List.drop_zero]
          by_cases hk1 : k = n
          · refine .inr (.inl ⟨hk0, hk1, eq_bytes ?_⟩)
            rw [HW.out, HL.out, List.take_of_length_le (by omega)]
          · refine .inr (.inr ⟨hk0, hk1, eq_bytes ?_⟩)
            rw [HW.out, HL.out, HRR.out, append_data, str_data, str_data, str_data]
            exact join_all (by omega) (by omega)
        by_cases hn0 : n = 0
        · have hk0 : k = 0 := by omega
          have hj : (W.toList == R.toList) = true := by
            rcases HJ.out with ⟨_, hj⟩ | ⟨h, _⟩ | ⟨h, _⟩
            · exact hj
            · exact absurd hk0 h
            · exact absurd hk0 h
          have t0 : ((k : Int) == 0) = true := by rw [beq_iff_eq]; omega
          have u0 : ¬ ((0 : Int) < (n : Int)) := by omega
          clear hk0 HJ hn0
          go_wp2_with fail
          refine (plen_any a n _ ts _ HR7.out (by omega) HT.out).mono ?_
          rintro e w8 ⟨rfl, hw8⟩
          obtain rfl := hw8.symm
          go_wp2_with fail
          go_ret
          exact ⟨rfl, HB7.out⟩
        obtain ⟨hn, h0 | ⟨b, off, rfl, hb, hl⟩⟩ := HR7.out
        · exact absurd h0 hn0
        obtain ⟨s, hm⟩ : ∃ m, ts[n - 1]? = some m := ⟨ts[n - 1]'(by omega), List.getElem?_eq_getElem _⟩
        have hlast : w7.cell? ⟨b, off + (n - 1), none⟩ = some (.string s) := hl _ _ hm
        have HQ : Hid (W.data.toList = body (ts.take (n - 1)) ++ 47 :: s.data.toList) := by
          show W.data.toList = _
          rw [HW.out]
          exact str_last hn (by omega) hm
        have v0 : (0 : Int) ≤ (n : Int) - 1 := by omega
        have v1 : (n : Int) - 1 < (n : Int) := by omega
        have u0 : (0 : Int) < (n : Int) := by omega
        clear hl hm hn hb
        rcases HJ.out with ⟨hk0, hj⟩ | ⟨hk0, hk1, hj⟩ | ⟨hk0, hk1, hj⟩
        · have t0 : ((k : Int) == 0) = true := by rw [beq_iff_eq]; omega
          clear hk0 HJ
          go_wp2_with fail
          refine (plen_any _ n _ ts _ HR7.out (by omega) HT.out).mono ?_
          rintro e w8 ⟨rfl, hw8⟩
          obtain rfl := hw8.symm
          go_wp2_with fail
          refine (ends_any W s _ _ HQ.out HWB.out).mono ?_
          rintro e w9 ⟨rfl, hb9⟩
          go_wp2_with fail
          go_ret
          exact ⟨rfl, HB7.out.trans (hb9.mono HB7.out.size)⟩
        · have t0 : ((k : Int) == 0) = false := by rw [beq_eq_false_iff_ne]; omega
          have t1 : ((k : Int) == (n : Int)) = true := by rw [beq_iff_eq]; omega
          clear hk0 hk1 HJ
          go_wp2_with fail
          refine (plen_any _ n _ ts _ HR7.out (by omega) HT.out).mono ?_
          rintro e w8 ⟨rfl, hw8⟩
          obtain rfl := hw8.symm
          go_wp2_with fail
          refine (ends_any W s _ _ HQ.out HWB.out).mono ?_
          rintro e w9 ⟨rfl, hb9⟩
          go_wp2_with fail
          go_ret
          exact ⟨rfl, HB7.out.trans (hb9.mono HB7.out.size)⟩
        · have t0 : ((k : Int) == 0) = false := by rw [beq_eq_false_iff_ne]; omega
          have t1 : ((k : Int) == (n : Int)) = false := by rw [beq_eq_false_iff_ne]; omega
          clear hk0 hk1 HJ
          go_wp2_with fail
          refine (plen_any _ n _ ts _ HR7.out (by omega) HT.out).mono ?_
          rintro e w8 ⟨rfl, hw8⟩
          obtain rfl := hw8.symm
          go_wp2_with fail
          refine (ends_any W s _ _ HQ.out HWB.out).mono ?_
          rintro e w9 ⟨rfl, hb9⟩
          go_wp2_with fail
          go_ret
          exact ⟨rfl, HB7.out.trans (hb9.mono HB7.out.size)⟩
end Go.Proofs.Qxb6628572a
