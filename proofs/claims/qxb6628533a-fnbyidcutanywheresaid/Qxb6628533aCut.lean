import Derived.Test.Qxb6628533aWithin
import Derived.Test.Qxb6628533aMembers
namespace Go.Proofs.Qxb6628533a
open Go.RowKit

/-- A cell stays where nothing old turns. -/
theorem hold {W W' : World} (hb : Below W.heap.size W W') {b o : Nat} {v : Value} (h : W.cell? ⟨b, o, none⟩ = some v) : W'.cell? ⟨b, o, none⟩ = some v :=
  (hb.cell (p := ⟨b, o, none⟩) (World.block_lt_of_cell? (h := h))).trans h

/-- The three lists in their boxes, and the rows behind them. -/
def Env (v l : Int) (B : Nat) (a : Option Addr) (n c g1 k g2 : Nat) (ms : List Mem) (w : World) : Prop :=
  (Row w a n ms ∧ Row w (some ⟨g1, 0, none⟩) k (ms.take k) ∧ Row w (some ⟨g2, 0, none⟩) (n - k) (ms.drop k)) ∧ B + 3 ≤ w.heap.size ∧
  (w.cell? ⟨B, 0, none⟩ = some (.int .u64 v) ∧ w.cell? ⟨B, 1, none⟩ = some (.int .u64 l) ∧ w.cell? ⟨B, 2, none⟩ = some (.slice a n c)) ∧
  (w.cell? ⟨B + 1, 0, none⟩ = some (.int .u64 v) ∧ w.cell? ⟨B + 1, 1, none⟩ = some (.int .u64 l) ∧ w.cell? ⟨B + 1, 2, none⟩ = some (.slice (some ⟨g1, 0, none⟩) k k)) ∧
  (w.cell? ⟨B + 1 + 1, 0, none⟩ = some (.int .u64 v) ∧ w.cell? ⟨B + 1 + 1, 1, none⟩ = some (.int .u64 l) ∧ w.cell? ⟨B + 1 + 1, 2, none⟩ = some (.slice (some ⟨g2, 0, none⟩) (n - k) (n - k)))

theorem Env.keep {v l : Int} {B : Nat} {a : Option Addr} {n c g1 k g2 : Nat} {ms : List Mem} {w w' : World} (h : Env v l B a n c g1 k g2 ms w) (hb : Below w.heap.size w w') : Env v l B a n c g1 k g2 ms w' := by
  obtain ⟨⟨r0, r1, r2⟩, hs, ⟨p0, p1, p2⟩, ⟨q0, q1, q2⟩, ⟨t0, t1, t2⟩⟩ := h
  exact ⟨⟨r0.keep hb, r1.keep hb, r2.keep hb⟩, Nat.le_trans hs hb.size, ⟨hold hb p0, hold hb p1, hold hb p2⟩, ⟨hold hb q0, hold hb q1, hold hb q2⟩, ⟨hold hb t0, hold hb t1, hold hb t2⟩⟩

theorem Env.alloc {v l : Int} {B : Nat} {a : Option Addr} {n c g1 k g2 : Nat} {ms : List Mem} {w : World} (h : Env v l B a n c g1 k g2 ms w) (o : Obj) : Env v l B a n c g1 k g2 ms (w.alloc o) :=
  h.keep ((Below.refl _ _).alloc (Nat.le_refl _) o)

theorem Env.boxed {v l : Int} {a : Option Addr} {n c g1 k g2 : Nat} {ms : List Mem} {w : World} (h : Row w a n ms ∧ Row w (some ⟨g1, 0, none⟩) k (ms.take k) ∧ Row w (some ⟨g2, 0, none⟩) (n - k) (ms.drop k)) :
    Env v l w.heap.size a n c g1 k g2 ms (((w.alloc (.cells #[.int .u64 v, .int .u64 l, .slice a n c] 33)).alloc (.cells #[.int .u64 v, .int .u64 l, .slice (some ⟨g1, 0, none⟩) k k] 33)).alloc (.cells #[.int .u64 v, .int .u64 l, .slice (some ⟨g2, 0, none⟩) (n - k) (n - k)] 33)) := by
  have hb : Below w.heap.size w (((w.alloc (.cells #[.int .u64 v, .int .u64 l, .slice a n c] 33)).alloc (.cells #[.int .u64 v, .int .u64 l, .slice (some ⟨g1, 0, none⟩) k k] 33)).alloc (.cells #[.int .u64 v, .int .u64 l, .slice (some ⟨g2, 0, none⟩) (n - k) (n - k)] 33)) :=
    (((Below.refl _ _).alloc (Nat.le_refl _) _).alloc (by simp) _).alloc (by simp; omega) _
  obtain ⟨r0, r1, r2⟩ := h
  refine ⟨⟨r0.keep hb, r1.keep hb, r2.keep hb⟩, by simp, ⟨?_, ?_, ?_⟩, ⟨?_, ?_, ?_⟩, ⟨?_, ?_, ?_⟩⟩ <;> simp [go_sem]

theorem ans_hit {id : ByteArray} {ms : List Mem} {k : Nat} {m : Mem} (h : findM id (ms.take k) = some m) : ans (findM id ms) = (m, true) := by
  rw [find_split id ms k, h]; rfl
theorem ans_miss {id : ByteArray} {ms : List Mem} {k : Nat} (h : findM id (ms.take k) = none) : ans (findM id ms) = ans (findM id (ms.drop k)) := by
  rw [find_split id ms k, h]; rfl
theorem ans_some {r : Option Mem} {m : Mem} (h : r = some m) : ans r = (m, true) := by rw [h]; rfl
theorem ans_none {r : Option Mem} (h : r = none) : ans r = (⟨⟨#[]⟩, 0, ⟨#[]⟩, ⟨#[]⟩⟩, false) := by rw [h]; rfl

theorem ans_head {ms : List Mem} {k : Nat} {m : Mem} (hm : ms[k]? = some m) : ans (findM m.id (ms.drop k)) = (m, true) := by
  obtain ⟨hl, rfl⟩ := List.getElem?_eq_some_iff.1 hm
  rw [List.drop_eq_getElem_cons hl, find_head]; rfl

/-- A new variable of four cells, behind a later step. -/
theorem var4 {w w' : World} {c0 c1 c2 c3 : Value} {t : TypeId} (hb : Below (w.alloc (.cells #[c0, c1, c2, c3] t)).heap.size (w.alloc (.cells #[c0, c1, c2, c3] t)) w') :
    w'.cell? ⟨w.heap.size, 0, none⟩ = some c0 ∧ w'.cell? ⟨w.heap.size, 1, none⟩ = some c1 ∧ w'.cell? ⟨w.heap.size, 2, none⟩ = some c2 ∧ w'.cell? ⟨w.heap.size, 3, none⟩ = some c3 :=
  ⟨hold hb (by simp), hold hb (by simp), hold hb (by simp), hold hb (by simp)⟩

theorem hold_alloc {w w' : World} {X : Obj} (hb : Below (w.alloc X).heap.size (w.alloc X) w') {b o : Nat} {v : Value} (h : w.cell? ⟨b, o, none⟩ = some v) : w'.cell? ⟨b, o, none⟩ = some v :=
  hold hb (hold ((Below.refl _ _).alloc (Nat.le_refl _) X) h)

set_option maxHeartbeats 2000000 in
set_option maxRecDepth 100000 in
theorem cut_walk (v l : Int) (a : Option Addr) (n cap : Nat) (ms : List Mem) (c : Int) (id : ByteArray) (w : World) (hr : Row w a n ms) :
    Calls Try.prog 4 #[.int .u64 v, .int .u64 l, .slice a n cap, .int .i64 c, .string id] w fun e w' => e = .returned (.bool true) ∧ Below w.heap.size w w' := by
  have HR : Hid (Row w a n ms) := hr
  clear hr
  go_enter Try.func4, Try.ntmps4
  go_wp2_with fail
  refine (bytesCut_any v l c a n cap id ms w HR.out).mono ?_
  rintro e w1 ⟨⟨r, rfl, hfit⟩, hw⟩
  obtain rfl := hw.symm
  cases r with
  | false =>
    go_wp2_with fail
    go_ret
    exact ⟨rfl, Below.refl _ _⟩
  | true =>
  have hN := hfit rfl
  clear hfit
  go_wp2_with fail
  refine (within_any a n cap _ _ _ _ ms w HR.out hN).mono ?_
  rintro e w1 ⟨⟨r, rfl⟩, hb1⟩
  have HB1 : Hid (Below w.heap.size w w1) := hb1
  clear hb1
  cases r with
  | false =>
    go_wp2_with fail
    go_ret
    exact ⟨rfl, HB1.out⟩
  | true =>
  by_cases hc0 : c < 0
  · go_wp2_with fail
    go_ret
    exact ⟨rfl, HB1.out⟩
  by_cases hcn : (n : Int) < c
  · go_wp2_with fail
    go_ret
    exact ⟨rfl, HB1.out⟩
  obtain ⟨c, rfl⟩ := Int.eq_ofNat_of_zero_le (Int.not_lt.1 hc0)
  have hcn' : c ≤ n := by omega
  go_wp2_with fail
  refine (members_any a n cap ms _ (HR.out.keep HB1.out) hN).mono ?_
  rintro e w2 ⟨a2, c2, rfl, hr2, hb2⟩
  have HR2 : Hid (Row w2 a2 n ms) := hr2
  have HB2 : Hid (Below w.heap.size w w2) := HB1.out.trans (hb2.mono HB1.out.size)
  clear hr2 hb2 HB1 HR
  obtain ⟨C, hC, hmk⟩ := make_any c (by omega)
  have HC : Hid (C.size = c * 4) := hC
  clear hC
  go_wp2_with fail
  clear hmk
  go_loopw [13] (fun i wr => ∃ k : Nat, k ≤ c ∧ i = .int .i64 k ∧ Below w2.heap.size w2 wr ∧ Filled wr w2.heap.size c (ms.take k)) (fun i _ => c - (intOf i).toNat)
  case atStart => exact ⟨0, Nat.zero_le _, rfl, (Below.refl _ _).alloc (Nat.le_refl _) _, Filled.new w2 C 30 rfl HC.out⟩
  case round =>
    obtain ⟨k, hk, rfl, hbel, hfil⟩ := hrel
    by_cases hlt : k < c
    · obtain ⟨hn, h0 | ⟨b, off, rfl, hb, hl⟩⟩ := HR2.out
      · omega
      obtain ⟨⟨s0, ag, s1, s2⟩, hm⟩ : ∃ m, ms[k]? = some m := ⟨ms[k]'(by omega), List.getElem?_eq_getElem _⟩
      obtain ⟨c0, c1, c2, c3⟩ := hl k _ hm
      simp only at c0 c1 c2 c3
      have hcell : ∀ o, wr.cell? ⟨b, o, none⟩ = w2.cell? ⟨b, o, none⟩ := fun o => hbel.cell (p := ⟨b, o, none⟩) hb
      have d0 : wr.cell? ⟨b, off + k * 4, none⟩ = some (.string s0) := (hcell _).trans c0
      have d1 : wr.cell? ⟨b, off + k * 4 + 1, none⟩ = some (.int .u64 ag) := (hcell _).trans c1
      have d2 : wr.cell? ⟨b, off + k * 4 + 2, none⟩ = some (.string s1) := (hcell _).trans c2
      have d3 : wr.cell? ⟨b, off + k * 4 + 3, none⟩ = some (.string s2) := (hcell _).trans c3
      have HM : Hid (ms[k]? = some ⟨s0, ag, s1, s2⟩) := hm
      obtain ⟨v0, e0⟩ := hfil.2.2.1 (k * 4) (by omega)
      obtain ⟨v1, e1⟩ := hfil.2.2.1 (k * 4 + 1) (by omega)
      obtain ⟨v2, e2⟩ := hfil.2.2.1 (k * 4 + 2) (by omega)
      obtain ⟨v3, e3⟩ := hfil.2.2.1 (k * 4 + 3) (by omega)
      have f0 := hfil.2.1 (k * 4)
      have f1 := hfil.2.1 (k * 4 + 1)
      have f2 := hfil.2.1 (k * 4 + 2)
      have f3 := hfil.2.1 (k * 4 + 3)
      have HF : Hid (Filled wr w2.heap.size c (ms.take k)) := hfil
      have HB : Hid (Below w2.heap.size w2 wr) := hbel
      have hkn : (k : Int) < (n : Int) := by omega
      clear hcell c0 c1 c2 c3 hl hm hn hfil hbel
      go_wp2_with fail
      go_roundw
      case rel =>
        refine ⟨k + 1, by omega, by go_num, ?_, ?_⟩
        · exact (((HB.out.setCell (by simp) _).setCell (by simp) _).setCell (by simp) _).setCell (by simp) _
        · have q := Filled.step HF.out HM.out hlt
          simp only [put4] at q
          exact q
      case measure => simp [intOf]; omega
    · have hkc : k = c := by omega
      subst hkc
      obtain ⟨w3, rfl⟩ : ∃ w3, w3 = wr := ⟨wr, rfl⟩
      have HF : Hid (Filled w3 w2.heap.size k (ms.take k)) := hfil
      have HB : Hid (Below w2.heap.size w2 w3) := hbel
      clear hbel hfil hk hlt HC
      obtain ⟨D, hD, hmk⟩ := make_sub n k (by omega) hcn'
      have HD : Hid (D.size = (n - k) * 4) := hD
      clear hD
      go_wp2_with fail
      clear hmk
      go_loopw [15] (fun i wr => ∃ j : Nat, k ≤ j ∧ j ≤ n ∧ i = .int .i64 j ∧ Below w3.heap.size w3 wr ∧ Filled wr w3.heap.size (n - k) ((ms.drop k).take (j - k))) (fun i _ => n - (intOf i).toNat)
      case atStart => exact ⟨k, Nat.le_refl _, hcn', rfl, (Below.refl _ _).alloc (Nat.le_refl _) _, by rw [Nat.sub_self]; exact Filled.new w3 D 30 rfl HD.out⟩
      case round =>
        obtain ⟨j, hkj, hj, rfl, hbel, hfil⟩ := hrel
        by_cases hlt : j < n
        · obtain ⟨hn, h0 | ⟨b, off, rfl, hb, hl⟩⟩ := HR2.out
          · omega
          obtain ⟨⟨s0, ag, s1, s2⟩, hm⟩ : ∃ m, ms[j]? = some m := ⟨ms[j]'(by omega), List.getElem?_eq_getElem _⟩
          obtain ⟨c0, c1, c2, c3⟩ := hl j _ hm
          simp only at c0 c1 c2 c3
          have hbw : b < w3.heap.size := Nat.lt_of_lt_of_le hb HB.out.size
          have hcell : ∀ o, wr.cell? ⟨b, o, none⟩ = w2.cell? ⟨b, o, none⟩ := fun o => (hbel.cell (p := ⟨b, o, none⟩) hbw).trans (HB.out.cell (p := ⟨b, o, none⟩) hb)
          have d0 : wr.cell? ⟨b, off + j * 4, none⟩ = some (.string s0) := (hcell _).trans c0
          have d1 : wr.cell? ⟨b, off + j * 4 + 1, none⟩ = some (.int .u64 ag) := (hcell _).trans c1
          have d2 : wr.cell? ⟨b, off + j * 4 + 2, none⟩ = some (.string s1) := (hcell _).trans c2
          have d3 : wr.cell? ⟨b, off + j * 4 + 3, none⟩ = some (.string s2) := (hcell _).trans c3
          have HM : Hid ((ms.drop k)[j - k]? = some ⟨s0, ag, s1, s2⟩) := by
            show (ms.drop k)[j - k]? = _
            rw [List.getElem?_drop, show k + (j - k) = j from by omega]; exact hm
          obtain ⟨v0, e0⟩ := hfil.2.2.1 ((j - k) * 4) (by omega)
          obtain ⟨v1, e1⟩ := hfil.2.2.1 ((j - k) * 4 + 1) (by omega)
          obtain ⟨v2, e2⟩ := hfil.2.2.1 ((j - k) * 4 + 2) (by omega)
          obtain ⟨v3, e3⟩ := hfil.2.2.1 ((j - k) * 4 + 3) (by omega)
          have f0 := hfil.2.1 ((j - k) * 4)
          have f1 := hfil.2.1 ((j - k) * 4 + 1)
          have f2 := hfil.2.1 ((j - k) * 4 + 2)
          have f3 := hfil.2.1 ((j - k) * 4 + 3)
          have HF2 : Hid (Filled wr w3.heap.size (n - k) ((ms.drop k).take (j - k))) := hfil
          have HBB : Hid (Below w3.heap.size w3 wr) := hbel
          have hjn : (j : Int) < (n : Int) := by omega
          have hjk0 : (0 : Int) ≤ (j : Int) - (k : Int) := by omega
          have hjk1 : (j : Int) - (k : Int) < ((n - k : Nat) : Int) := by omega
          have hlt2 : j - k < n - k := by omega
          clear hcell c0 c1 c2 c3 hl hm hn hfil hbel
          go_wp2_with fail
          go_roundw
          case rel =>
            refine ⟨j + 1, by omega, by omega, by go_num, ?_, ?_⟩
            · exact (((HBB.out.setCell (by simp) _).setCell (by simp) _).setCell (by simp) _).setCell (by simp) _
            · have q := Filled.step HF2.out HM.out hlt2
              simp only [put4] at q
              rw [show j + 1 - k = j - k + 1 from by omega]
              exact q
          case measure => simp [intOf]; omega
        · obtain ⟨w4, rfl⟩ : ∃ w4, w4 = wr := ⟨wr, rfl⟩
          have hjn : j = n := by omega
          have HE : Hid (Row w4 a2 n ms ∧ Row w4 (some ⟨w2.heap.size, 0, none⟩) k (ms.take k) ∧ Row w4 (some ⟨w3.heap.size, 0, none⟩) (n - k) (ms.drop k)) := by
            have hl := HR2.out.1
            have e1 : (ms.take k).length = k := by simp; omega
            have e2 : (ms.drop k).take (j - k) = ms.drop k := List.take_of_length_le (by simp; omega)
            have r1 := HF.out.row
            rw [e1] at r1
            have e3 : (ms.drop k).length = n - k := by simp; omega
            have r2 := hfil
            rw [e2] at r2
            have r3 := r2.row
            rw [e3] at r3
            exact ⟨(HR2.out.keep HB.out).keep hbel, r1.keep hbel, r3⟩
          have HB4 : Hid (Below w.heap.size w w4) := (HB2.out.trans (HB.out.mono HB2.out.size)).trans (hbel.mono (Nat.le_trans HB2.out.size HB.out.size))
          clear hjn hbel hfil HD HF HB HB2 HR2
          have hlt' : (n : Int) ≤ (j : Int) := by omega
          clear hlt hkj hj
          go_wp2_with fail
          have hE := Env.boxed (v := v) (l := l) (c := c2) HE.out
          clear HE
          obtain ⟨W, hW⟩ : ∃ W, W = (((w4.alloc (.cells #[.int .u64 v, .int .u64 l, .slice a2 n c2] 33)).alloc (.cells #[.int .u64 v, .int .u64 l, .slice (some ⟨w2.heap.size, 0, none⟩) k k] 33)).alloc (.cells #[.int .u64 v, .int .u64 l, .slice (some ⟨w3.heap.size, 0, none⟩) (n - k) (n - k)] 33)) := ⟨_, rfl⟩
          have HBW : Hid (Below w.heap.size w W) := by
            rw [hW]
            exact ((HB4.out.alloc HB4.out.size _).alloc (by have := HB4.out.size; simp; omega) _).alloc (by have := HB4.out.size; simp; omega) _
          rw [← hW] at hE ⊢
          clear hW HB4
          generalize w4.heap.size = B at hE ⊢
          cases hfp : findM id (ms.take k) with
          | some pm =>
            obtain ⟨p0, pa, p1, p2⟩ := pm
            have hW := ans_hit hfp
            have hP := ans_some hfp
            obtain ⟨⟨⟨s0, sa, s1, s2⟩, sq⟩, hS⟩ : ∃ x, ans (findM id (ms.drop k)) = x := ⟨_, rfl⟩
            have AW : Hid (ans (findM id ms) = _) := hW
            have AP : Hid (ans (findM id (ms.take k)) = _) := hP
            have AS : Hid (ans (findM id (ms.drop k)) = _) := hS
            clear hW hP hS hfp
            refine (byID_at a2 n c2 v l id ms _ hE.1.1 (by omega) p0 pa p1 p2 true AW.out).mono ?_
            rintro e w5 ⟨rfl, hb5⟩
            have hE5 := hE.keep hb5
            have HB5 : Hid (Below w.heap.size w w5) := HBW.out.trans (hb5.mono HBW.out.size)
            obtain ⟨x0, x1, x2⟩ := hE5.2.2.2.1
            have z1 : B + 1 < w5.heap.size := by have := hE5.2.1; omega
            have HE5 : Hid (Env v l B a2 n c2 w2.heap.size k w3.heap.size ms w5) := hE5
            clear hb5 hE HBW hE5
            go_wp2_with fail
            clear x0 x1 x2
            refine (byID_at _ k k v l id (ms.take k) _ (HE5.out.alloc _).1.2.1 (by omega) p0 pa p1 p2 true AP.out).mono ?_
            rintro e w6 ⟨rfl, hb6⟩
            have hE6 := (HE5.out.alloc _).keep hb6
            have HB6 : Hid (Below w.heap.size w w6) := (HB5.out.alloc HB5.out.size _).trans (hb6.mono (by have := HB5.out.size; simp; omega))
            obtain ⟨i0, i1, i2, i3⟩ := var4 hb6
            have z5 : w5.heap.size < w6.heap.size := by have := hb6.size; simp at this; omega
            obtain ⟨y0, y1, y2⟩ := hE6.2.2.2.2
            have z2 : B + 1 + 1 < w6.heap.size := by have := hE6.2.1; omega
            have HE6 : Hid (Env v l B a2 n c2 w2.heap.size k w3.heap.size ms w6) := hE6
            clear hb6 HE5 hE6 HB5 z1
            go_wp2_with fail
            clear y0 y1 y2
            refine (byID_at _ (n - k) (n - k) v l id (ms.drop k) _ (HE6.out.alloc _).1.2.2 (by omega) s0 sa s1 s2 sq AS.out).mono ?_
            rintro e w7 ⟨rfl, hb7⟩
            have hE7 := (HE6.out.alloc _).keep hb7
            have HB7 : Hid (Below w.heap.size w w7) := (HB6.out.alloc HB6.out.size _).trans (hb7.mono (by have := HB6.out.size; simp; omega))
            have j0 := hold_alloc hb7 i0
            have j1 := hold_alloc hb7 i1
            have j2 := hold_alloc hb7 i2
            have j3 := hold_alloc hb7 i3
            obtain ⟨m0, m1, m2, m3⟩ := var4 hb7
            have z6 : w6.heap.size < w7.heap.size := by have := hb7.size; simp at this; omega
            have z7 : w5.heap.size < w7.heap.size := by omega
            have HE7 : Hid (Env v l B a2 n c2 w2.heap.size k w3.heap.size ms w7) := hE7
            clear hb7 HE6 hE7 HB6 z2 z5 i0 i1 i2 i3 AW AP AS
            by_cases hkn : k < n
            · obtain ⟨hn, h0 | ⟨b, off, rfl, hb, hl⟩⟩ := HE7.out.1.1
              · omega
              obtain ⟨⟨h0, ha, h1, h2⟩, hm⟩ : ∃ m, ms[k]? = some m := ⟨ms[k]'(by omega), List.getElem?_eq_getElem _⟩
              obtain ⟨d0, d1, d2, d3⟩ := hl k _ hm
              simp only at d0 d1 d2 d3
              have HM : Hid (ms[k]? = some ⟨h0, ha, h1, h2⟩) := hm
              obtain ⟨y0, y1, y2⟩ := HE7.out.2.2.2.2
              have z2 : B + 1 + 1 < w7.heap.size := by have := HE7.out.2.1; omega
              have z2' : B + 1 + 1 < w7.heap.size + 1 := by omega
              have hkn' : (k : Int) < (n : Int) := by omega
              clear hl hm hn
              go_wp2_with fail
              clear d0 d1 d2 d3 y0 y1 y2 z2 z2' j0 j1 j2 j3 m0 m1 m2 m3 z6 z7
              have AH : Hid (ans (findM h0 (ms.drop k)) = (⟨h0, ha, h1, h2⟩, true)) := ans_head HM.out
              refine (byID_at _ (n - k) (n - k) v l h0 (ms.drop k) _ ((HE7.out.alloc _).alloc _).1.2.2 (by omega) h0 ha h1 h2 true AH.out).mono ?_
              rintro e w8 ⟨rfl, hb8⟩
              have hE8 := ((HE7.out.alloc _).alloc _).keep hb8
              have HB8 : Hid (Below w.heap.size w w8) := ((HB7.out.alloc HB7.out.size _).alloc (by have := HB7.out.size; simp; omega) _).trans (hb8.mono (by have := HB7.out.size; simp; omega))
              have g0 : w8.cell? ⟨w7.heap.size + 1, 0, none⟩ = some (.string h0) := hold hb8 (by simp [go_sem])
              have g1 : w8.cell? ⟨w7.heap.size + 1, 1, none⟩ = some (.int .u64 ha) := hold hb8 (by simp [go_sem])
              have g2 : w8.cell? ⟨w7.heap.size + 1, 2, none⟩ = some (.string h1) := hold hb8 (by simp [go_sem])
              have g3 : w8.cell? ⟨w7.heap.size + 1, 3, none⟩ = some (.string h2) := hold hb8 (by simp [go_sem])
              have z8 : w7.heap.size + 1 < w8.heap.size := by have := hb8.size; simp at this; omega
              obtain ⟨x0, x1, x2⟩ := hE8.2.2.1
              have z0 : B < w8.heap.size := by have := hE8.2.1; omega
              have HE8 : Hid (Env v l B (some ⟨b, off, none⟩) n c2 w2.heap.size k w3.heap.size ms w8) := hE8
              clear hb8 HE7 hE8 HB7 hb
              go_wp2_with fail
              clear x0 x1 x2 z0
              cases hfq : findM h0 (ms.take k) with
              | some qm =>
                obtain ⟨q0, qa, q1, q2⟩ := qm
                have hW := ans_hit hfq
                have hP := ans_some hfq
                have AW : Hid (ans (findM h0 ms) = _) := hW
                have AP : Hid (ans (findM h0 (ms.take k)) = _) := hP
                clear hW hP hfq
                refine (byID_at _ n c2 v l h0 ms _ (HE8.out.alloc _).1.1 (by omega) q0 qa q1 q2 true AW.out).mono ?_
                rintro e w9 ⟨rfl, hb9⟩
                have hE9 := (HE8.out.alloc _).keep hb9
                have HB9 : Hid (Below w.heap.size w w9) := (HB8.out.alloc HB8.out.size _).trans (hb9.mono (by have := HB8.out.size; simp; omega))
                have g0' := hold_alloc hb9 g0
                have g1' := hold_alloc hb9 g1
                have g2' := hold_alloc hb9 g2
                have g3' := hold_alloc hb9 g3
                have z9 : w7.heap.size + 1 < w9.heap.size := by have := hb9.size; simp at this; omega
                obtain ⟨x0, x1, x2⟩ := hE9.2.2.2.1
                have z1 : B + 1 < w9.heap.size := by have := hE9.2.1; omega
                have HE9 : Hid (Env v l B (some ⟨b, off, none⟩) n c2 w2.heap.size k w3.heap.size ms w9) := hE9
                clear hb9 HE8 hE9 HB8 g0 g1 g2 g3 z8
                go_wp2_with fail
                clear x0 x1 x2 z1
                refine (byID_at _ k k v l h0 (ms.take k) _ (HE9.out.alloc _).1.2.1 (by omega) q0 qa q1 q2 true AP.out).mono ?_
                rintro e w10 ⟨rfl, hb10⟩
                have HB10 : Hid (Below w.heap.size w w10) := (HB9.out.alloc HB9.out.size _).trans (hb10.mono (by have := HB9.out.size; simp; omega))
                have t0 := hold_alloc hb10 g0'
                have t1 := hold_alloc hb10 g1'
                have t2 := hold_alloc hb10 g2'
                have t3 := hold_alloc hb10 g3'
                obtain ⟨i0, i1, i2, i3⟩ := var4 hb10
                have z10 : w7.heap.size + 1 < w10.heap.size := by have := hb10.size; simp at this; omega
                have z11 : w9.heap.size < w10.heap.size := by have := hb10.size; simp at this; omega
                clear hb10 HE9 HB9 g0' g1' g2' g3' z9 AW AP AH
                go_wp2_with fail
                go_ret
                exact ⟨rfl, HB10.out.alloc HB10.out.size _⟩
              | none =>
                have hW := (ans_miss hfq).trans AH.out
                have hP := ans_none hfq
                have AW : Hid (ans (findM h0 ms) = _) := hW
                have AP : Hid (ans (findM h0 (ms.take k)) = _) := hP
                clear hW hP hfq
                refine (byID_at _ n c2 v l h0 ms _ (HE8.out.alloc _).1.1 (by omega) h0 ha h1 h2 true AW.out).mono ?_
                rintro e w9 ⟨rfl, hb9⟩
                have hE9 := (HE8.out.alloc _).keep hb9
                have HB9 : Hid (Below w.heap.size w w9) := (HB8.out.alloc HB8.out.size _).trans (hb9.mono (by have := HB8.out.size; simp; omega))
                have g0' := hold_alloc hb9 g0
                have g1' := hold_alloc hb9 g1
                have g2' := hold_alloc hb9 g2
                have g3' := hold_alloc hb9 g3
                have z9 : w7.heap.size + 1 < w9.heap.size := by have := hb9.size; simp at this; omega
                obtain ⟨x0, x1, x2⟩ := hE9.2.2.2.1
                have z1 : B + 1 < w9.heap.size := by have := hE9.2.1; omega
                have HE9 : Hid (Env v l B (some ⟨b, off, none⟩) n c2 w2.heap.size k w3.heap.size ms w9) := hE9
                clear hb9 HE8 hE9 HB8 g0 g1 g2 g3 z8
                go_wp2_with fail
                clear x0 x1 x2 z1
                refine (byID_at _ k k v l h0 (ms.take k) _ (HE9.out.alloc _).1.2.1 (by omega) ⟨#[]⟩ 0 ⟨#[]⟩ ⟨#[]⟩ false AP.out).mono ?_
                rintro e w10 ⟨rfl, hb10⟩
                have HB10 : Hid (Below w.heap.size w w10) := (HB9.out.alloc HB9.out.size _).trans (hb10.mono (by have := HB9.out.size; simp; omega))
                have t0 := hold_alloc hb10 g0'
                have t1 := hold_alloc hb10 g1'
                have t2 := hold_alloc hb10 g2'
                have t3 := hold_alloc hb10 g3'
                obtain ⟨i0, i1, i2, i3⟩ := var4 hb10
                have z10 : w7.heap.size + 1 < w10.heap.size := by have := hb10.size; simp at this; omega
                have z11 : w9.heap.size < w10.heap.size := by have := hb10.size; simp at this; omega
                clear hb10 HE9 HB9 g0' g1' g2' g3' z9 AW AP AH
                go_wp2_with fail
                go_ret
                exact ⟨rfl, HB10.out.alloc HB10.out.size _⟩
            · have hkn' : ¬ (k : Int) < (n : Int) := by omega
              go_wp2_with fail
              go_ret
              exact ⟨rfl, HB7.out.alloc HB7.out.size _⟩
          | none =>
            obtain ⟨⟨⟨s0, sa, s1, s2⟩, sq⟩, hS⟩ : ∃ x, ans (findM id (ms.drop k)) = x := ⟨_, rfl⟩
            have hW := (ans_miss hfp).trans hS
            have hP := ans_none hfp
            have AW : Hid (ans (findM id ms) = _) := hW
            have AP : Hid (ans (findM id (ms.take k)) = _) := hP
            have AS : Hid (ans (findM id (ms.drop k)) = _) := hS
            clear hW hP hS hfp
            refine (byID_at a2 n c2 v l id ms _ hE.1.1 (by omega) s0 sa s1 s2 sq AW.out).mono ?_
            rintro e w5 ⟨rfl, hb5⟩
            have hE5 := hE.keep hb5
            have HB5 : Hid (Below w.heap.size w w5) := HBW.out.trans (hb5.mono HBW.out.size)
            obtain ⟨x0, x1, x2⟩ := hE5.2.2.2.1
            have z1 : B + 1 < w5.heap.size := by have := hE5.2.1; omega
            have HE5 : Hid (Env v l B a2 n c2 w2.heap.size k w3.heap.size ms w5) := hE5
            clear hb5 hE HBW hE5
            go_wp2_with fail
            clear x0 x1 x2
            refine (byID_at _ k k v l id (ms.take k) _ (HE5.out.alloc _).1.2.1 (by omega) ⟨#[]⟩ 0 ⟨#[]⟩ ⟨#[]⟩ false AP.out).mono ?_
            rintro e w6 ⟨rfl, hb6⟩
            have hE6 := (HE5.out.alloc _).keep hb6
            have HB6 : Hid (Below w.heap.size w w6) := (HB5.out.alloc HB5.out.size _).trans (hb6.mono (by have := HB5.out.size; simp; omega))
            obtain ⟨i0, i1, i2, i3⟩ := var4 hb6
            have z5 : w5.heap.size < w6.heap.size := by have := hb6.size; simp at this; omega
            obtain ⟨y0, y1, y2⟩ := hE6.2.2.2.2
            have z2 : B + 1 + 1 < w6.heap.size := by have := hE6.2.1; omega
            have HE6 : Hid (Env v l B a2 n c2 w2.heap.size k w3.heap.size ms w6) := hE6
            clear hb6 HE5 hE6 HB5 z1
            go_wp2_with fail
            clear y0 y1 y2
            refine (byID_at _ (n - k) (n - k) v l id (ms.drop k) _ (HE6.out.alloc _).1.2.2 (by omega) s0 sa s1 s2 sq AS.out).mono ?_
            rintro e w7 ⟨rfl, hb7⟩
            have hE7 := (HE6.out.alloc _).keep hb7
            have HB7 : Hid (Below w.heap.size w w7) := (HB6.out.alloc HB6.out.size _).trans (hb7.mono (by have := HB6.out.size; simp; omega))
            have j0 := hold_alloc hb7 i0
            have j1 := hold_alloc hb7 i1
            have j2 := hold_alloc hb7 i2
            have j3 := hold_alloc hb7 i3
            obtain ⟨m0, m1, m2, m3⟩ := var4 hb7
            have z6 : w6.heap.size < w7.heap.size := by have := hb7.size; simp at this; omega
            have z7 : w5.heap.size < w7.heap.size := by omega
            have HE7 : Hid (Env v l B a2 n c2 w2.heap.size k w3.heap.size ms w7) := hE7
            clear hb7 HE6 hE7 HB6 z2 z5 i0 i1 i2 i3 AW AP AS
            by_cases hkn : k < n
            · obtain ⟨hn, h0 | ⟨b, off, rfl, hb, hl⟩⟩ := HE7.out.1.1
              · omega
              obtain ⟨⟨h0, ha, h1, h2⟩, hm⟩ : ∃ m, ms[k]? = some m := ⟨ms[k]'(by omega), List.getElem?_eq_getElem _⟩
              obtain ⟨d0, d1, d2, d3⟩ := hl k _ hm
              simp only at d0 d1 d2 d3
              have HM : Hid (ms[k]? = some ⟨h0, ha, h1, h2⟩) := hm
              obtain ⟨y0, y1, y2⟩ := HE7.out.2.2.2.2
              have z2 : B + 1 + 1 < w7.heap.size := by have := HE7.out.2.1; omega
              have z2' : B + 1 + 1 < w7.heap.size + 1 := by omega
              have hkn' : (k : Int) < (n : Int) := by omega
              clear hl hm hn
              go_wp2_with fail
              clear d0 d1 d2 d3 y0 y1 y2 z2 z2' j0 j1 j2 j3 m0 m1 m2 m3 z6 z7
              have AH : Hid (ans (findM h0 (ms.drop k)) = (⟨h0, ha, h1, h2⟩, true)) := ans_head HM.out
              refine (byID_at _ (n - k) (n - k) v l h0 (ms.drop k) _ ((HE7.out.alloc _).alloc _).1.2.2 (by omega) h0 ha h1 h2 true AH.out).mono ?_
              rintro e w8 ⟨rfl, hb8⟩
              have hE8 := ((HE7.out.alloc _).alloc _).keep hb8
              have HB8 : Hid (Below w.heap.size w w8) := ((HB7.out.alloc HB7.out.size _).alloc (by have := HB7.out.size; simp; omega) _).trans (hb8.mono (by have := HB7.out.size; simp; omega))
              have g0 : w8.cell? ⟨w7.heap.size + 1, 0, none⟩ = some (.string h0) := hold hb8 (by simp [go_sem])
              have g1 : w8.cell? ⟨w7.heap.size + 1, 1, none⟩ = some (.int .u64 ha) := hold hb8 (by simp [go_sem])
              have g2 : w8.cell? ⟨w7.heap.size + 1, 2, none⟩ = some (.string h1) := hold hb8 (by simp [go_sem])
              have g3 : w8.cell? ⟨w7.heap.size + 1, 3, none⟩ = some (.string h2) := hold hb8 (by simp [go_sem])
              have z8 : w7.heap.size + 1 < w8.heap.size := by have := hb8.size; simp at this; omega
              obtain ⟨x0, x1, x2⟩ := hE8.2.2.1
              have z0 : B < w8.heap.size := by have := hE8.2.1; omega
              have HE8 : Hid (Env v l B (some ⟨b, off, none⟩) n c2 w2.heap.size k w3.heap.size ms w8) := hE8
              clear hb8 HE7 hE8 HB7 hb
              go_wp2_with fail
              clear x0 x1 x2 z0
              cases hfq : findM h0 (ms.take k) with
              | some qm =>
                obtain ⟨q0, qa, q1, q2⟩ := qm
                have hW := ans_hit hfq
                have hP := ans_some hfq
                have AW : Hid (ans (findM h0 ms) = _) := hW
                have AP : Hid (ans (findM h0 (ms.take k)) = _) := hP
                clear hW hP hfq
                refine (byID_at _ n c2 v l h0 ms _ (HE8.out.alloc _).1.1 (by omega) q0 qa q1 q2 true AW.out).mono ?_
                rintro e w9 ⟨rfl, hb9⟩
                have hE9 := (HE8.out.alloc _).keep hb9
                have HB9 : Hid (Below w.heap.size w w9) := (HB8.out.alloc HB8.out.size _).trans (hb9.mono (by have := HB8.out.size; simp; omega))
                have g0' := hold_alloc hb9 g0
                have g1' := hold_alloc hb9 g1
                have g2' := hold_alloc hb9 g2
                have g3' := hold_alloc hb9 g3
                have z9 : w7.heap.size + 1 < w9.heap.size := by have := hb9.size; simp at this; omega
                obtain ⟨x0, x1, x2⟩ := hE9.2.2.2.1
                have z1 : B + 1 < w9.heap.size := by have := hE9.2.1; omega
                have HE9 : Hid (Env v l B (some ⟨b, off, none⟩) n c2 w2.heap.size k w3.heap.size ms w9) := hE9
                clear hb9 HE8 hE9 HB8 g0 g1 g2 g3 z8
                go_wp2_with fail
                clear x0 x1 x2 z1
                refine (byID_at _ k k v l h0 (ms.take k) _ (HE9.out.alloc _).1.2.1 (by omega) q0 qa q1 q2 true AP.out).mono ?_
                rintro e w10 ⟨rfl, hb10⟩
                have HB10 : Hid (Below w.heap.size w w10) := (HB9.out.alloc HB9.out.size _).trans (hb10.mono (by have := HB9.out.size; simp; omega))
                have t0 := hold_alloc hb10 g0'
                have t1 := hold_alloc hb10 g1'
                have t2 := hold_alloc hb10 g2'
                have t3 := hold_alloc hb10 g3'
                obtain ⟨i0, i1, i2, i3⟩ := var4 hb10
                have z10 : w7.heap.size + 1 < w10.heap.size := by have := hb10.size; simp at this; omega
                have z11 : w9.heap.size < w10.heap.size := by have := hb10.size; simp at this; omega
                clear hb10 HE9 HB9 g0' g1' g2' g3' z9 AW AP AH
                go_wp2_with fail
                go_ret
                exact ⟨rfl, HB10.out.alloc HB10.out.size _⟩
              | none =>
                have hW := (ans_miss hfq).trans AH.out
                have hP := ans_none hfq
                have AW : Hid (ans (findM h0 ms) = _) := hW
                have AP : Hid (ans (findM h0 (ms.take k)) = _) := hP
                clear hW hP hfq
                refine (byID_at _ n c2 v l h0 ms _ (HE8.out.alloc _).1.1 (by omega) h0 ha h1 h2 true AW.out).mono ?_
                rintro e w9 ⟨rfl, hb9⟩
                have hE9 := (HE8.out.alloc _).keep hb9
                have HB9 : Hid (Below w.heap.size w w9) := (HB8.out.alloc HB8.out.size _).trans (hb9.mono (by have := HB8.out.size; simp; omega))
                have g0' := hold_alloc hb9 g0
                have g1' := hold_alloc hb9 g1
                have g2' := hold_alloc hb9 g2
                have g3' := hold_alloc hb9 g3
                have z9 : w7.heap.size + 1 < w9.heap.size := by have := hb9.size; simp at this; omega
                obtain ⟨x0, x1, x2⟩ := hE9.2.2.2.1
                have z1 : B + 1 < w9.heap.size := by have := hE9.2.1; omega
                have HE9 : Hid (Env v l B (some ⟨b, off, none⟩) n c2 w2.heap.size k w3.heap.size ms w9) := hE9
                clear hb9 HE8 hE9 HB8 g0 g1 g2 g3 z8
                go_wp2_with fail
                clear x0 x1 x2 z1
                refine (byID_at _ k k v l h0 (ms.take k) _ (HE9.out.alloc _).1.2.1 (by omega) ⟨#[]⟩ 0 ⟨#[]⟩ ⟨#[]⟩ false AP.out).mono ?_
                rintro e w10 ⟨rfl, hb10⟩
                have HB10 : Hid (Below w.heap.size w w10) := (HB9.out.alloc HB9.out.size _).trans (hb10.mono (by have := HB9.out.size; simp; omega))
                have t0 := hold_alloc hb10 g0'
                have t1 := hold_alloc hb10 g1'
                have t2 := hold_alloc hb10 g2'
                have t3 := hold_alloc hb10 g3'
                obtain ⟨i0, i1, i2, i3⟩ := var4 hb10
                have z10 : w7.heap.size + 1 < w10.heap.size := by have := hb10.size; simp at this; omega
                have z11 : w9.heap.size < w10.heap.size := by have := hb10.size; simp at this; omega
                clear hb10 HE9 HB9 g0' g1' g2' g3' z9 AW AP AH
                go_wp2_with fail
                go_ret
                exact ⟨rfl, HB10.out.alloc HB10.out.size _⟩
            · have hkn' : ¬ (k : Int) < (n : Int) := by omega
              go_wp2_with fail
              go_ret
              exact ⟨rfl, HB7.out.alloc HB7.out.size _⟩

end Go.Proofs.Qxb6628533a
