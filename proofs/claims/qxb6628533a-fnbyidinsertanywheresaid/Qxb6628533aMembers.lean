import Derived.Test.Qxb6628533aBounds
import Derived.Deep.OwnRows
namespace Go.Proofs.Qxb6628533a
open Go.RowKit

/-- Block g is a row of N members' room, of which the first hold xs. -/
def Filled (w : World) (g N : Nat) (xs : List Mem) : Prop :=
  g < w.heap.size ∧ (∀ o, w.frozen? ⟨g, o, none⟩ = false) ∧ (∀ o, o < N * 4 → ∃ v, w.cell? ⟨g, o, none⟩ = some v) ∧ Lies w g 0 xs

/-- The four stores of one member. -/
def put4 (w : World) (g o : Nat) (m : Mem) : World :=
  (((w.setCell ⟨g, o, none⟩ (.string m.id)).setCell ⟨g, o + 1, none⟩ (.int .u64 m.age)).setCell ⟨g, o + 2, none⟩ (.string m.client)).setCell ⟨g, o + 3, none⟩ (.string m.bus)

theorem put4_at {w : World} {g o : Nat} (m : Mem) (h : ∀ j, j < 4 → ∃ v, w.cell? ⟨g, o + j, none⟩ = some v) :
    (put4 w g o m).cell? ⟨g, o, none⟩ = some (.string m.id) ∧ (put4 w g o m).cell? ⟨g, o + 1, none⟩ = some (.int .u64 m.age) ∧ (put4 w g o m).cell? ⟨g, o + 2, none⟩ = some (.string m.client) ∧ (put4 w g o m).cell? ⟨g, o + 3, none⟩ = some (.string m.bus) := by
  obtain ⟨v0, h0⟩ := h 0 (by omega)
  obtain ⟨v1, h1⟩ := h 1 (by omega)
  obtain ⟨v2, h2⟩ := h 2 (by omega)
  obtain ⟨v3, h3⟩ := h 3 (by omega)
  simp only [Nat.add_zero] at h0
  have ne : ∀ i j : Nat, i ≠ j → (⟨g, i, none⟩ : Addr) ≠ ⟨g, j, none⟩ := by intro i j hij h; injection h; omega
  unfold put4
  refine ⟨?_, ?_, ?_, ?_⟩
  · rw [World.cell?_setCell_other (h := ne _ _ (by omega)), World.cell?_setCell_other (h := ne _ _ (by omega)), World.cell?_setCell_other (h := ne _ _ (by omega)), World.cell?_setCell_same (h := h0)]
  · rw [World.cell?_setCell_other (h := ne _ _ (by omega)), World.cell?_setCell_other (h := ne _ _ (by omega)), World.cell?_setCell_same (u := v1)]
    rw [World.cell?_setCell_other (h := ne _ _ (by omega))]; exact h1
  · rw [World.cell?_setCell_other (h := ne _ _ (by omega)), World.cell?_setCell_same (u := v2)]
    rw [World.cell?_setCell_other (h := ne _ _ (by omega)), World.cell?_setCell_other (h := ne _ _ (by omega))]; exact h2
  · rw [World.cell?_setCell_same (u := v3)]
    rw [World.cell?_setCell_other (h := ne _ _ (by omega)), World.cell?_setCell_other (h := ne _ _ (by omega)), World.cell?_setCell_other (h := ne _ _ (by omega))]; exact h3

theorem put4_other {w : World} {g o : Nat} (m : Mem) {p : Nat} (h : p < o ∨ o + 4 ≤ p) : (put4 w g o m).cell? ⟨g, p, none⟩ = w.cell? ⟨g, p, none⟩ := by
  have ne : ∀ i : Nat, i ≠ p → (⟨g, i, none⟩ : Addr) ≠ ⟨g, p, none⟩ := by intro i hij h; injection h; omega
  unfold put4
  rw [World.cell?_setCell_other (h := ne _ (by omega)), World.cell?_setCell_other (h := ne _ (by omega)), World.cell?_setCell_other (h := ne _ (by omega)), World.cell?_setCell_other (h := ne _ (by omega))]

theorem Filled.put {w : World} {g N : Nat} {xs : List Mem} (h : Filled w g N xs) (m : Mem) (hk : xs.length < N) : Filled (put4 w g (xs.length * 4) m) g N (xs ++ [m]) := by
  obtain ⟨h1, h2, h3, h4⟩ := h
  have hin : ∀ j, j < 4 → ∃ v, w.cell? ⟨g, xs.length * 4 + j, none⟩ = some v := fun j hj => h3 _ (by omega)
  obtain ⟨p0, p1, p2, p3⟩ := put4_at m hin
  refine ⟨by simpa [put4] using h1, by intro o; simp [put4, h2 o], ?_, ?_⟩
  · intro o ho
    by_cases hlt : o < xs.length * 4
    · rw [put4_other m (.inl hlt)]; exact h3 o ho
    by_cases hge : xs.length * 4 + 4 ≤ o
    · rw [put4_other m (.inr hge)]; exact h3 o ho
    have : o = xs.length * 4 ∨ o = xs.length * 4 + 1 ∨ o = xs.length * 4 + 2 ∨ o = xs.length * 4 + 3 := by omega
    rcases this with rfl | rfl | rfl | rfl
    · exact ⟨_, p0⟩
    · exact ⟨_, p1⟩
    · exact ⟨_, p2⟩
    · exact ⟨_, p3⟩
  · intro i x hx
    by_cases hi : i < xs.length
    · rw [List.getElem?_append_left hi] at hx
      have hq := h4 i x hx
      rw [put4_other m (.inl (by omega)), put4_other m (.inl (by omega)), put4_other m (.inl (by omega)), put4_other m (.inl (by omega))]
      exact hq
    · have hi2 : i = xs.length := by
        have := (List.getElem?_eq_some_iff.1 hx).1
        simp at this
        omega
      subst hi2
      simp at hx
      subst hx
      simp only [Nat.zero_add]
      exact ⟨p0, p1, p2, p3⟩

theorem Filled.step {w : World} {g N k : Nat} {ms : List Mem} {m : Mem} (h : Filled w g N (ms.take k)) (hm : ms[k]? = some m) (hk : k < N) : Filled (put4 w g (k * 4) m) g N (ms.take (k + 1)) := by
  obtain ⟨hl, rfl⟩ := List.getElem?_eq_some_iff.1 hm
  have e : (ms.take k).length = k := by simp; omega
  have q := h.put ms[k] (by omega)
  rw [e] at q
  rwa [List.take_succ_eq_append_getElem hl]

theorem Filled.other {w w' : World} {g N : Nat} {xs : List Mem} (h : Filled w g N xs) (hs : w.heap.size ≤ w'.heap.size) (hb : w'.heap[g]? = w.heap[g]?) : Filled w' g N xs := by
  obtain ⟨h1, h2, h3, h4⟩ := h
  have hc : ∀ o, w'.cell? ⟨g, o, none⟩ = w.cell? ⟨g, o, none⟩ := fun o => World.cell?_of_block (w := w) hb
  have hf : ∀ o, w'.frozen? ⟨g, o, none⟩ = w.frozen? ⟨g, o, none⟩ := fun o => World.frozen?_of_block (w := w) hb
  refine ⟨by omega, fun o => (hf o).trans (h2 o), fun o ho => by rw [hc]; exact h3 o ho, fun i m hm => ?_⟩
  simp only [hc]
  exact h4 i m hm

theorem Filled.new (w : World) (C : Array Value) (t : TypeId) {g N : Nat} (hg : g = w.heap.size) (hC : C.size = N * 4) : Filled (w.alloc (.cells C t)) g N [] := by
  subst hg
  refine ⟨by simp, fun o => by simp, fun o ho => ⟨C[o]'(by omega), ?_⟩, fun i m hm => by simp at hm⟩
  rw [World.cell?_alloc_at _ _ _ _ rfl]
  exact Array.getElem?_eq_getElem _

theorem Filled.row {w : World} {g N : Nat} {xs : List Mem} (h : Filled w g N xs) : Row w (some ⟨g, 0, none⟩) xs.length xs := ⟨rfl, .inr ⟨g, 0, rfl, h.1, h.2.2.2⟩⟩

theorem Try.info30 : (Try.prog.info? 30).map (fun i => (i.zero, i.size, i.bytes)) = some (some (.agg #[.string ⟨#[]⟩, .int .u64 0, .string ⟨#[]⟩, .string ⟨#[]⟩]), 4, 56) := by kernel_rfl

/-- 'make([]Member, n)'. -/
theorem make_any (n : Nat) (hN : n ≤ 1048577) : ∃ C : Array Value, C.size = n * 4 ∧ ∀ w : World, (Instr.makeSlice 28 (.int .i64 (n : Int)) (.int .i64 (n : Int))).run Try.prog w = .ok (.slice (some ⟨w.heap.size, 0, none⟩) n n) (w.alloc (.cells C 30)) := by
  obtain ⟨i, hi, hz, hs, hb⟩ := info_parts Try.info30
  refine ⟨madeCells (Value.agg #[.string ⟨#[]⟩, .int .u64 0, .string ⟨#[]⟩, .string ⟨#[]⟩]).cells (n * 4), size_madeCells _ _, fun w => ?_⟩
  have h := run_make (P := Try.prog) w 28 30 i _ Try.underlying28 hi hz .i64 .i64 n n (by omega) (by omega) (by rw [hb]; omega) (by omega)
  rw [hs] at h
  simpa only [Int.toNat_natCast] using h

theorem make_sub (n c : Nat) (hN : n ≤ 1048577) (hc : c ≤ n) : ∃ C : Array Value, C.size = (n - c) * 4 ∧ ∀ w : World, (Instr.makeSlice 28 (.int .i64 ((n : Int) - (c : Int))) (.int .i64 ((n : Int) - (c : Int)))).run Try.prog w = .ok (.slice (some ⟨w.heap.size, 0, none⟩) (n - c) (n - c)) (w.alloc (.cells C 30)) := by
  obtain ⟨C, h1, h2⟩ := make_any (n - c) (by omega)
  have e : ((n - c : Nat) : Int) = (n : Int) - (c : Int) := by omega
  rw [e] at h2
  exact ⟨C, h1, h2⟩

/-- What zzMembers hands back. -/
def Made (n : Nat) (ms : List Mem) (w : World) (e : Ending) (w' : World) : Prop := ∃ a c, e = .returned (.slice a n c) ∧ Row w' a n ms ∧ Below w.heap.size w w'

theorem members_nil (c : Nat) (w : World) : Calls Try.prog 7 #[.slice none 0 c] w fun e w' => Made 0 [] w e w' := by
  have he := fun w n c => Lib.run_eql_slice_nil (P := Try.prog) w 23 25 none n c 0 0 Try.underlying23
  go_enter Try.func7, Try.ntmps7
  go_wp2
  go_ret
  exact ⟨none, 0, rfl, ⟨rfl, .inl rfl⟩, Below.refl _ _⟩

set_option maxHeartbeats 1000000 in
theorem members_row (x : Addr) (n c : Nat) (ms : List Mem) (w : World) (hr : Row w (some x) n ms) (hN : n ≤ 1048576) : Calls Try.prog 7 #[.slice (some x) n c] w fun e w' => Made n ms w e w' := by
  obtain ⟨C, hC, hmk⟩ := make_any n (by omega)
  have HC : Hid (C.size = n * 4) := hC
  have HR : Hid (Row w (some x) n ms) := hr
  clear hC hr
  have he := fun w n c => Lib.run_eql_slice_nil (P := Try.prog) w 23 25 (some x) n c 0 0 Try.underlying23
  go_enter Try.func7, Try.ntmps7
  go_wp2
  clear hmk he
  go_loopw [4] (fun i wr => ∃ k : Nat, k ≤ n ∧ i = .int .i64 k ∧ Below w.heap.size w wr ∧ Filled wr w.heap.size n (ms.take k)) (fun i _ => n - (intOf i).toNat)
  case atStart => exact ⟨0, Nat.zero_le _, rfl, (Below.refl _ _).alloc (Nat.le_refl _) _, Filled.new w C 30 rfl HC.out⟩
  case round =>
    obtain ⟨k, hk, rfl, hbel, hfil⟩ := hrel
    by_cases hlt : k < n
    · obtain ⟨hn, h0 | ⟨b, off, hx, hb, hl⟩⟩ := HR.out
      · omega
      injection hx with hx
      subst hx
      obtain ⟨⟨s0, a, s1, s2⟩, hm⟩ : ∃ m, ms[k]? = some m := ⟨ms[k]'(by omega), List.getElem?_eq_getElem _⟩
      obtain ⟨c0, c1, c2, c3⟩ := hl k _ hm
      simp only at c0 c1 c2 c3
      have hcell : ∀ o, wr.cell? ⟨b, o, none⟩ = w.cell? ⟨b, o, none⟩ := fun o => hbel.cell (p := ⟨b, o, none⟩) hb
      have d0 : wr.cell? ⟨b, off + k * 4, none⟩ = some (.string s0) := (hcell _).trans c0
      have d1 : wr.cell? ⟨b, off + k * 4 + 1, none⟩ = some (.int .u64 a) := (hcell _).trans c1
      have d2 : wr.cell? ⟨b, off + k * 4 + 2, none⟩ = some (.string s1) := (hcell _).trans c2
      have d3 : wr.cell? ⟨b, off + k * 4 + 3, none⟩ = some (.string s2) := (hcell _).trans c3
      have HM : Hid (ms[k]? = some ⟨s0, a, s1, s2⟩) := hm
      clear hcell c0 c1 c2 c3 hl hm hn
      go_wp2_with fail
      refine (member_x s0 a s1 s2 _).mono ?_
      rintro e w1 ⟨rfl, hb1⟩
      have hbel1 : Below w.heap.size w w1 := hbel.trans (hb1.mono hbel.size)
      have hfil1 : Filled w1 w.heap.size n (ms.take k) := hfil.other hb1.size (hb1.block _ hfil.1)
      obtain ⟨v0, e0⟩ := hfil1.2.2.1 (k * 4) (by omega)
      obtain ⟨v1, e1⟩ := hfil1.2.2.1 (k * 4 + 1) (by omega)
      obtain ⟨v2, e2⟩ := hfil1.2.2.1 (k * 4 + 2) (by omega)
      obtain ⟨v3, e3⟩ := hfil1.2.2.1 (k * 4 + 3) (by omega)
      have f0 := hfil1.2.1 (k * 4)
      have f1 := hfil1.2.1 (k * 4 + 1)
      have f2 := hfil1.2.1 (k * 4 + 2)
      have f3 := hfil1.2.1 (k * 4 + 3)
      have HF : Hid (Filled w1 w.heap.size n (ms.take k)) := hfil1
      have HB : Hid (Below w.heap.size w w1) := hbel1
      clear hb1 hbel hfil hfil1 hbel1 d0 d1 d2 d3
      go_wp2
      go_roundw
      case rel =>
        refine ⟨k + 1, by omega, by go_num, ?_, ?_⟩
        · exact (((HB.out.setCell (by simp) _).setCell (by simp) _).setCell (by simp) _).setCell (by simp) _
        · have q := Filled.step HF.out HM.out hlt
          simp only [put4] at q
          exact q
      case measure => simp [intOf]; omega
    · have hn := HR.out.1
      go_wp2
      go_ret
      have e : ms.take k = ms := List.take_of_length_le (by omega)
      rw [e] at hfil
      have hrow := hfil.row
      rw [HR.out.1] at hrow
      exact ⟨_, _, rfl, hrow, hbel⟩

theorem members_any (a : Option Addr) (n c : Nat) (ms : List Mem) (w : World) (hr : Row w a n ms) (hN : n ≤ 1048576) : Calls Try.prog 7 #[.slice a n c] w fun e w' => Made n ms w e w' := by
  cases a with
  | none =>
    obtain ⟨hn, rfl | ⟨b, off, h, _⟩⟩ := hr
    · obtain rfl : ms = [] := List.length_eq_zero_iff.1 hn
      exact members_nil c w
    · cases h
  | some x => exact members_row x n c ms w hr hN

end Go.Proofs.Qxb6628533a
