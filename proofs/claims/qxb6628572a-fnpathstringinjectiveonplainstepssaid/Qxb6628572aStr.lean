import Derived.Test.Qxb6628572aLeaf
namespace Go.Proofs.Qxb6628572a
open Go.RowKit

/-- One slash and the text, for each text. -/
def body (ts : List ByteArray) : List UInt8 := ts.flatMap fun s => 47 :: s.data.toList
/-- What a path of these texts prints to. -/
def printed (ts : List ByteArray) : List UInt8 := if ts.length = 0 then [47] else body ts
/-- The bytes that the texts take, with one more each. -/
def total (ts : List ByteArray) : Nat := (ts.map fun s => 1 + s.size).sum

theorem body_length (ts : List ByteArray) : (body ts).length = total ts := by
  induction ts with
  | nil => rfl
  | cons s ts ih =>
    simp only [body, total, List.flatMap_cons, List.map_cons, List.sum_cons, List.length_append, List.length_cons] at ih ⊢
    rw [ih, Array.length_toList, ByteArray.size_data]
    omega

theorem body_snoc (ts : List ByteArray) (s : ByteArray) : body (ts ++ [s]) = body ts ++ (47 :: s.data.toList) := by
  simp [body]
theorem total_snoc (ts : List ByteArray) (s : ByteArray) : total (ts ++ [s]) = total ts + (1 + s.size) := by
  simp [total]
theorem total_append (xs ys : List ByteArray) : total (xs ++ ys) = total xs + total ys := by
  simp [total]
theorem total_take_le (ts : List ByteArray) (k : Nat) : total (ts.take k) ≤ total ts := by
  have h := total_append (ts.take k) (ts.drop k)
  rw [List.take_append_drop] at h
  omega
theorem total_drop_le (ts : List ByteArray) (k : Nat) : total (ts.drop k) ≤ total ts := by
  have h := total_append (ts.take k) (ts.drop k)
  rw [List.take_append_drop] at h
  omega

theorem slash_data (s : ByteArray) : ((⟨#[47]⟩ : ByteArray) ++ s).data.toList = 47 :: s.data.toList := by
  obtain ⟨⟨l⟩⟩ := s
  show (ByteArray.append ⟨#[47]⟩ ⟨⟨l⟩⟩).data.toList = 47 :: l
  simp

theorem IsBuilder_alloc {T e : TypeId} {B b : Nat} {bs : List Value} {w : World} (h : Lib.IsBuilder T e B b bs w) (o : Obj) : Lib.IsBuilder T e B b bs (w.alloc o) := by
  have one : ∀ {p : Value}, Lib.BuilderAt T e B b p bs w → Lib.BuilderAt T e B b p bs (w.alloc o) := by
    intro p hp
    have hlt := hp.lt
    obtain ⟨hB, v, hb, hown, hne⟩ := hp
    exact ⟨hB, v, (Below.heap_alloc w o b hlt).trans hb, hown.alloc o, hne⟩
  rcases h with h | h
  · exact .inl (one h)
  · exact .inr (one h)

set_option maxHeartbeats 1000000 in
theorem string_row (g n c : Nat) (ts : List ByteArray) (w : World) (hr : SRow w g ts) (hn : ts.length = n) (h0 : 0 < n) (hN : n ≤ 1048576) (ht : total ts ≤ 1048576) :
    Calls Try.prog 7 #[.slice (some ⟨g, 0, none⟩) n c] w fun e w' => e = .returned (.string ⟨(body ts).toArray⟩) ∧ Below w.heap.size w w' := by
  have HR : Hid (SRow w g ts) := hr
  have HN : Hid (ts.length = n) := hn
  clear hr hn
  have hz : ((n : Int) == 0) = false := by rw [beq_eq_false_iff_ne]; omega
  go_enter Try.func7, Try.ntmps7
  go_wp2
  have hg := HR.out.1
  go_loopw [11] (fun i wr => ∃ k : Nat, k ≤ n ∧ i = .int .i64 k ∧ Below w.heap.size w wr ∧ Lib.IsBuilder 39 5 w.heap.size w.heap.size (Lib.byteCells (body (ts.take k))) wr) (fun i _ => n - (intOf i).toNat)
  case atStart =>
    refine ⟨0, Nat.zero_le _, rfl, (Below.refl _ _).alloc (Nat.le_refl _) _, .inl ⟨Nat.le_refl _, .slice none 0 0, ?_, World.ownsRow_nil _ _ _ _, by simp [Value.ownBlock]⟩⟩
    exact heap_alloc_new w _
  case round =>
    obtain ⟨k, hk, rfl, hbel, hbuild⟩ := hrel
    by_cases hlt : k < n
    · obtain ⟨s, hm⟩ : ∃ m, ts[k]? = some m := ⟨ts[k]'(by have := HN.out; omega), List.getElem?_eq_getElem _⟩
      have hc := fun j u hj => (hbel.cell (p := ⟨g, k * 10 + j, none⟩) hg).trans (HR.out.2 k s hm j u hj)
      have d0 := hc 0 _ rfl
      have d1 := hc 1 _ rfl
      have d2 := hc 2 _ rfl
      have d3 := hc 3 _ rfl
      have d4 := hc 4 _ rfl
      have d5 := hc 5 _ rfl
      have d6 := hc 6 _ rfl
      have d7 := hc 7 _ rfl
      have d8 := hc 8 _ rfl
      have d9 := hc 9 _ rfl
      rw [Nat.add_zero] at d0
      have HM : Hid (ts[k]? = some s) := hm
      have HB : Hid (Below w.heap.size w wr) := hbel
      have HU : Hid (Lib.IsBuilder 39 5 w.heap.size w.heap.size (Lib.byteCells (body (ts.take k))) wr) := hbuild
      clear hc hm hbel hbuild
      have hsz : s.size ≤ 1048576 := by
        have h1 := total_take_le ts (k + 1)
        rw [take_snoc HM.out, total_snoc] at h1
        omega
      have hlen : (Lib.byteCells (body (ts.take k))).length + ((⟨#[47]⟩ : ByteArray) ++ s).size ≤ 140737488355328 := by
        have h1 := total_take_le ts k
        rw [Lib.byteCells_length, body_length, ByteArray.size_append]
        have h2 : (⟨#[47]⟩ : ByteArray).size = 1 := rfl
        omega
      have HL : Hid ((Lib.byteCells (body (ts.take k))).length + ((⟨#[47]⟩ : ByteArray) ++ s).size ≤ 140737488355328) := hlen
      clear hlen
      go_wp2_with fail
      clear d0 d1 d2 d3 d4 d5 d6 d7 d8 d9
      refine (writeString_any w.heap.size w.heap.size _ _ _ (IsBuilder_alloc HU.out _) HL.out (by have := HB.out.size; simp; omega)).mono ?_
      rintro e w1 ⟨rfl, hbu, hb1⟩
      have HU1 : Hid (Lib.IsBuilder 39 5 w.heap.size w.heap.size (Lib.byteCells (body (ts.take (k + 1)))) w1) := by
        refine .inr ?_
        rw [take_snoc HM.out, body_snoc, Lib.byteCells_append, ← slash_data, ← Lib.strCells_eq]
        exact hbu
      have HB1 : Hid (Below w.heap.size w w1) := (HB.out.alloc HB.out.size _).trans hb1
      clear hbu hb1 HB HU HL
      go_wp2
      go_roundw
      case rel => exact ⟨k + 1, by omega, by go_num, HB1.out, HU1.out⟩
      case measure => simp [intOf]; omega
    · have e : ts.take k = ts := List.take_of_length_le (by have := HN.out; omega)
      rw [e] at hbuild
      go_wp2_with fail
      refine (Try.Builder_String_any w.heap.size w.heap.size _ _ hbuild hbel.size).mono ?_
      rintro e w1 ⟨rfl, hb1⟩
      go_wp2
      go_ret
      exact ⟨rfl, hbel.trans hb1⟩

theorem string_empty (a : Option Addr) (c : Nat) (w : World) :
    Calls Try.prog 7 #[.slice a 0 c] w fun e w' => e = .returned (.string ⟨#[47]⟩) ∧ w' = w := by
  go_enter Try.func7, Try.ntmps7
  go_wp2
  go_ret
  exact ⟨rfl, rfl⟩

theorem string_any (g n c : Nat) (ts : List ByteArray) (w : World) (hr : SRow w g ts) (hn : ts.length = n) (hN : n ≤ 1048576) (ht : total ts ≤ 1048576) :
    Calls Try.prog 7 #[.slice (some ⟨g, 0, none⟩) n c] w fun e w' => e = .returned (.string ⟨(printed ts).toArray⟩) ∧ Below w.heap.size w w' := by
  by_cases h0 : n = 0
  · subst h0
    have e : printed ts = [47] := by unfold printed; rw [if_pos hn]
    rw [e]
    exact (string_empty (some ⟨g, 0, none⟩) c w).mono fun e w' ⟨he, hw⟩ => ⟨he, by rw [hw]; exact Below.refl _ _⟩
  · have e : printed ts = body ts := by unfold printed; rw [if_neg (by omega)]
    rw [e]
    exact string_row g n c ts w hr hn (by omega) hN ht

/-! ### printedLength -/
/-- What printedLength answers. -/
def plen (ts : List ByteArray) : Nat := if ts.length = 0 then 1 else total ts

theorem plen_printed (ts : List ByteArray) : (printed ts).length = plen ts := by
  unfold printed plen
  split
  · rfl
  · exact body_length ts

set_option maxHeartbeats 1000000 in
theorem plen_row (b off n c : Nat) (ts : List ByteArray) (w : World) (hn : ts.length = n) (hl : TLies w b off ts) (h0 : 0 < n) (hN : n ≤ 1048576) (ht : total ts ≤ 1048576) :
    Calls Try.prog 8 #[.slice (some ⟨b, off, none⟩) n c] w fun e w' => e = .returned (.int .i64 (total ts : Nat)) ∧ w' = w := by
  have HN : Hid (ts.length = n) := hn
  clear hn
  have hz : ((n : Int) == 0) = false := by rw [beq_eq_false_iff_ne]; omega
  go_enter Try.func8, Try.ntmps8
  go_wp2
  go_loop [3, 4] (fun t i => ∃ (k : Nat), k ≤ n ∧ i = .int .i64 k ∧ t = .int .i64 (total (ts.take k) : Nat)) (fun _ i => n - (intOf i).toNat)
  case atStart => exact ⟨0, Nat.zero_le _, rfl, rfl⟩
  case round =>
    obtain ⟨k, hk, rfl, rfl⟩ := hrel
    by_cases hlt : k < n
    · obtain ⟨s, hm⟩ : ∃ m, ts[k]? = some m := ⟨ts[k]'(by have := HN.out; omega), List.getElem?_eq_getElem _⟩
      have c0 := hl k _ hm
      have HT : Hid (total (ts.take (k + 1)) = total (ts.take k) + (1 + s.size)) := by
        show total _ = _
        rw [take_snoc hm, total_snoc]
      have h1 : total (ts.take k) + (1 + s.size) ≤ 1048576 := by
        have := total_take_le ts (k + 1)
        rw [HT.out] at this
        omega
      have h2 : total (ts.take k) ≤ 1048576 := by omega
      have h3 : s.size ≤ 1048576 := by omega
      clear hm hl
      generalize total (ts.take k) = q at *
      go_wp2
      go_round
      case rel => exact ⟨k + 1, by omega, by go_num, by rw [HT.out]; go_num⟩
      case measure => simp [intOf]; omega
    · have e : ts.take k = ts := List.take_of_length_le (by have := HN.out; omega)
      rw [e]
      clear hl
      go_wp2
      go_ret
      exact ⟨rfl, rfl⟩

theorem plen_empty (a : Option Addr) (c : Nat) (w : World) :
    Calls Try.prog 8 #[.slice a 0 c] w fun e w' => e = .returned (.int .i64 1) ∧ w' = w := by
  go_enter Try.func8, Try.ntmps8
  go_wp2
  go_ret
  exact ⟨rfl, rfl⟩

theorem plen_any (a : Option Addr) (n c : Nat) (ts : List ByteArray) (w : World) (hr : TRow w a n ts) (hN : n ≤ 1048576) (ht : total ts ≤ 1048576) :
    Calls Try.prog 8 #[.slice a n c] w fun e w' => e = .returned (.int .i64 (plen ts : Nat)) ∧ w' = w := by
  obtain ⟨hn, h0⟩ := hr
  by_cases hz : n = 0
  · subst hz
    have e : plen ts = 1 := by unfold plen; rw [if_pos hn]
    rw [e]
    exact plen_empty a c w
  · have e : plen ts = total ts := by unfold plen; rw [if_neg (by omega)]
    rw [e]
    rcases h0 with h0 | ⟨b, off, rfl, hb, hl⟩
    · exact absurd h0 hz
    · exact plen_row b off n c ts w hn hl (by omega) hN ht

end Go.Proofs.Qxb6628572a
