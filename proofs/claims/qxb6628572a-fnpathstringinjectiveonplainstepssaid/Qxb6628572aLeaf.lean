import Derived.Test.Qxb6628572aBuild
import Derived.Deep.QuietTactic
import Derived.BigQuiet
import Derived.Outline
namespace Go.Proofs.Qxb6628572a
open Go.RowKit

/-- The texts lie in memory behind the slice's address. -/
def TLies (w : World) (b off : Nat) (ts : List ByteArray) : Prop := ∀ i s, ts[i]? = some s → w.cell? ⟨b, off + i, none⟩ = some (.string s)
/-- The slice value leads to the texts. -/
def TRow (w : World) (a : Option Addr) (n : Nat) (ts : List ByteArray) : Prop := ts.length = n ∧ (n = 0 ∨ ∃ b off, a = some ⟨b, off, none⟩ ∧ b < w.heap.size ∧ TLies w b off ts)

theorem TRow.keep {w w' : World} {a : Option Addr} {n : Nat} {ts : List ByteArray} (h : TRow w a n ts) (hb : Below w.heap.size w w') : TRow w' a n ts := by
  obtain ⟨hn, h0 | ⟨b, off, rfl, hlt, hl⟩⟩ := h
  · exact ⟨hn, .inl h0⟩
  · refine ⟨hn, .inr ⟨b, off, rfl, Nat.lt_of_lt_of_le hlt hb.size, fun i m hm => ?_⟩⟩
    rw [hb.cell (p := ⟨b, off + i, none⟩) hlt]
    exact hl i m hm

/-- A cell stays where nothing old turns. -/
theorem hold {W W' : World} (hb : Below W.heap.size W W') {b o : Nat} {v : Value} (h : W.cell? ⟨b, o, none⟩ = some v) : W'.cell? ⟨b, o, none⟩ = some v :=
  (hb.cell (p := ⟨b, o, none⟩) (World.block_lt_of_cell? (h := h))).trans h

/-! ### zzBytes of the first law -/
/-- The call ends with a bool; where it says yes the slice and its texts are short. -/
def FitsT (ts : List ByteArray) (e : Ending) : Prop := ∃ r, e = .returned (.bool r) ∧ (r = true → ts.length ≤ 1048576 ∧ ∀ s ∈ ts, s.size ≤ 1048576)

theorem FitsT.no {ts : List ByteArray} : FitsT ts (.returned (.bool false)) := ⟨false, rfl, by simp⟩

theorem all_take_succ {ts : List ByteArray} {k : Nat} {s : ByteArray} (hm : ts[k]? = some s) (h : ∀ t ∈ ts.take k, t.size ≤ 1048576) (hs : s.size ≤ 1048576) : ∀ t ∈ ts.take (k + 1), t.size ≤ 1048576 := by
  obtain ⟨hl, rfl⟩ := List.getElem?_eq_some_iff.1 hm
  rw [List.take_succ_eq_append_getElem hl]
  intro t ht
  rcases List.mem_append.1 ht with ht | ht
  · exact h t ht
  · simp at ht; subst ht; exact hs

set_option maxHeartbeats 1000000 in
theorem bytes1_row (b off n c : Nat) (p : Int) (ts : List ByteArray) (w : World) (hn : ts.length = n) (hl : TLies w b off ts) (h0 : 0 < n) (hN : n ≤ 1048576) :
    Calls Try.prog 5 #[.slice (some ⟨b, off, none⟩) n c, .int .i64 p] w fun e w' => FitsT ts e ∧ w' = w := by
  have HN : Hid (ts.length = n) := hn
  clear hn
  have g0 : ¬ (1048576 : Int) < (n : Int) := by omega
  go_enter Try.func5, Try.ntmps5
  go_wp2
  go_loop [5, 6] (fun t i => ∃ (k : Nat) (q : Int), k ≤ n ∧ i = .int .i64 k ∧ t = .int .i64 q ∧ 0 ≤ q ∧ q ≤ 1048576 ∧ (∀ t ∈ ts.take k, t.size ≤ 1048576)) (fun _ i => n - (intOf i).toNat)
  case atStart => exact ⟨0, n, Nat.zero_le _, rfl, rfl, by omega, by omega, by simp⟩
  case round =>
    obtain ⟨k, q, hk, rfl, rfl, hq0, hq1, hall⟩ := hrel
    have HA : Hid (∀ t ∈ ts.take k, t.size ≤ 1048576) := hall
    clear hall
    by_cases hlt : k < n
    · obtain ⟨s, hm⟩ : ∃ m, ts[k]? = some m := ⟨ts[k]'(by have := HN.out; omega), List.getElem?_eq_getElem _⟩
      have c0 := hl k _ hm
      have HM : Hid (ts[k]? = some s) := hm
      clear hm hl
      go_wp2
      all_goals first | (go_ret; exact ⟨FitsT.no, rfl⟩) | skip
      go_round
      case rel => exact ⟨k + 1, _, by omega, by go_num, rfl, by omega, by omega, all_take_succ HM.out HA.out (by omega)⟩
      case measure => simp [intOf]; omega
    · clear hl
      go_wp2
      go_ret
      refine ⟨⟨true, rfl, fun _ => ⟨by rw [HN.out]; exact hN, ?_⟩⟩, rfl⟩
      have h := HA.out
      rwa [List.take_of_length_le (by have := HN.out; omega)] at h

theorem bytes1_empty (a : Option Addr) (c : Nat) (p : Int) (w : World) :
    Calls Try.prog 5 #[.slice a 0 c, .int .i64 p] w fun e w' => FitsT [] e ∧ w' = w := by
  go_enter Try.func5, Try.ntmps5
  go_wp2
  go_loop [6] (fun i => i = .int .i64 0) (fun _ => 0)
  case atStart => rfl
  case round =>
    subst hrel
    go_wp2
    go_ret
    exact ⟨⟨true, rfl, by simp⟩, rfl⟩

theorem bytes1_big (a : Option Addr) (n c : Nat) (p : Int) (ts : List ByteArray) (w : World) (hN : 1048576 < n) :
    Calls Try.prog 5 #[.slice a n c, .int .i64 p] w fun e w' => FitsT ts e ∧ w' = w := by
  have g0 : (1048576 : Int) < (n : Int) := by omega
  go_enter Try.func5, Try.ntmps5
  go_wp2
  go_ret
  exact ⟨FitsT.no, rfl⟩

theorem bytes1_any (a : Option Addr) (n c : Nat) (p : Int) (ts : List ByteArray) (w : World) (hr : TRow w a n ts) :
    Calls Try.prog 5 #[.slice a n c, .int .i64 p] w fun e w' => FitsT ts e ∧ w' = w := by
  by_cases hN : n ≤ 1048576
  · obtain ⟨hn, h0⟩ := hr
    by_cases hz : n = 0
    · subst hz
      obtain rfl : ts = [] := List.length_eq_zero_iff.1 hn
      exact bytes1_empty a c p w
    · rcases h0 with h0 | ⟨b, off, rfl, hb, hl⟩
      · exact absurd h0 hz
      · exact bytes1_row b off n c p ts w hn hl (by omega) hN
  · exact bytes1_big a n c p ts w (by omega)

/-! ### ZZstepOfText, pathOfTexts -/
def stepCells (s : ByteArray) : List Value := [.string s, .string ⟨#[]⟩, .int .i64 0, .string ⟨#[]⟩, .string ⟨#[]⟩, .int .i64 0, .int .i64 0, .bool false, .bool false, .bool false]

theorem step_any (s : ByteArray) (w : World) :
    Calls Try.prog 13 #[.string s] w fun e w' => e = .returned (.agg #[.string s, .string ⟨#[]⟩, .int .i64 0, .string ⟨#[]⟩, .string ⟨#[]⟩, .int .i64 0, .int .i64 0, .bool false, .bool false, .bool false]) ∧ Below w.heap.size w w' := by
  go_enter Try.func13, Try.ntmps13
  go_wp2
  exact bodyPost_ret (v := .agg #[.string s, .string ⟨#[]⟩, .int .i64 0, .string ⟨#[]⟩, .string ⟨#[]⟩, .int .i64 0, .int .i64 0, .bool false, .bool false, .bool false]) (by simp [results, Try.results13, go_sem]) rfl ⟨rfl, (Below.refl _ _).alloc (Nat.le_refl _) _⟩

/-- The steps of these texts lie in block g. -/
def SRow (w : World) (g : Nat) (ts : List ByteArray) : Prop := g < w.heap.size ∧ ∀ i s, ts[i]? = some s → ∀ j u, (stepCells s)[j]? = some u → w.cell? ⟨g, i * 10 + j, none⟩ = some u

theorem SRow.keep {w w' : World} {g : Nat} {ts : List ByteArray} (h : SRow w g ts) (hb : Below w.heap.size w w') : SRow w' g ts :=
  ⟨Nat.lt_of_lt_of_le h.1 hb.size, fun i s hi j u hj => hold hb (h.2 i s hi j u hj)⟩

/-- A slice of steps that the call has made holds these texts' steps at its head. -/
def Owns (w : World) (g k cap : Nat) (ts : List ByteArray) : Prop := w.ownsRow g 34 10 (.slice (some ⟨g, 0, none⟩) k cap) k (ts.flatMap stepCells) ∧ ts.length = k

theorem stepCells_length (s : ByteArray) : (stepCells s).length = 10 := rfl

theorem cells_at (xs : List ByteArray) : ∀ (i : Nat) (s : ByteArray), xs[i]? = some s → ∀ j u, (stepCells s)[j]? = some u → (xs.flatMap stepCells)[i * 10 + j]? = some u := by
  induction xs with
  | nil => intro i m h; simp at h
  | cons x xs ih =>
    intro i m h j u hj
    have hj10 : j < 10 := by
      have := (List.getElem?_eq_some_iff.1 hj).1
      rwa [stepCells_length] at this
    cases i with
    | zero =>
      simp only [List.getElem?_cons_zero, Option.some.injEq] at h
      subst h
      rw [List.flatMap_cons, Nat.zero_mul, Nat.zero_add, List.getElem?_append_left (by rw [stepCells_length]; exact hj10)]
      exact hj
    | succ i =>
      simp only [List.getElem?_cons_succ] at h
      have q := ih i m h j u hj
      rw [List.flatMap_cons, show (i + 1) * 10 + j = (i * 10 + j) + 10 from by omega, List.getElem?_append_right (by rw [stepCells_length]; omega), stepCells_length, Nat.add_sub_cancel]
      exact q

theorem Owns.row {w : World} {g k cap : Nat} {ts : List ByteArray} (h : Owns w g k cap ts) : SRow w g ts := by
  obtain ⟨h1, h2⟩ := h
  refine ⟨(h1.lt g rfl).2, fun i s hi j u hj => ?_⟩
  have c := h1.cells (g := g) rfl _ _ (cells_at ts i s hi j u hj)
  rwa [WideShapes.add_plain, Nat.zero_add] at c

theorem Try.info34 : (Try.prog.info? 34).map (fun i => (i.zero, i.size, i.bytes)) = some (some (.agg #[.string ⟨#[]⟩, .string ⟨#[]⟩, .int .i64 0, .string ⟨#[]⟩, .string ⟨#[]⟩, .int .i64 0, .int .i64 0, .bool false, .bool false, .bool false]), 10, 96) := by kernel_rfl

theorem append_step {ops : Array Oper} {rest : List Oper} {o : Oper} {a : Act} {Q : Exit → Act → World → Prop} (w : World) (hg : o.guard = none) (s x : Operand)
    (hop : o.op = Op.call { callee := Callee.builtin Builtin.append, args := #[s, x], argTypes := #[25, 25] }) (g k cap : Nat) (ts : List ByteArray)
    (hs : a.eval s = .slice (some ⟨g, 0, none⟩) k cap) (hown : Owns w g k cap ts) (B : Nat) (t : ByteArray) (hx : a.eval x = .slice (some ⟨B, 0, none⟩) 1 1)
    (hc : ∀ j u, (stepCells t)[j]? = some u → w.cell? ⟨B, j, none⟩ = some u) (b1 : k + 1 ≤ cap)
    (hK : ∀ w', Owns w' g (k + 1) cap (ts ++ [t]) → w.grownBy w' (some g) → wpList Try.prog ops Q rest (a.put o.dst (.slice (some ⟨g, 0, none⟩) (k + 1) cap)) w') :
    wpList Try.prog ops Q (o :: rest) a w := by
  obtain ⟨i, hi, hz, hsz, hb⟩ := info_parts Try.info34
  obtain ⟨h1, h2⟩ := hown
  refine wpList_append_fits w hg s x 25 hop g 34 i 10 Try.underlying25 hi hsz g k cap _ hs h1 ⟨B, 0, none⟩ 1 1 (stepCells t) hx rfl ?_ ?_ b1 fun w' q1 q2 => hK w' ⟨?_, by simp [h2]⟩ q2
  · intro j u hj
    rw [WideShapes.add_plain, Nat.zero_add]
    exact hc j u hj
  · intro u hu
    simp only [stepCells, List.mem_cons, List.not_mem_nil, or_false] at hu
    rcases hu with rfl | rfl | rfl | rfl | rfl | rfl | rfl | rfl | rfl | rfl <;> rfl
  · rw [List.flatMap_append]
    simpa using q1

theorem new_cells (w : World) (t : ByteArray) : ∀ j u, (stepCells t)[j]? = some u → (w.alloc (.cells #[.string t, .string ⟨#[]⟩, .int .i64 0, .string ⟨#[]⟩, .string ⟨#[]⟩, .int .i64 0, .int .i64 0, .bool false, .bool false, .bool false] 34)).cell? ⟨w.heap.size, j, none⟩ = some u := by
  intro j u hj
  rw [World.cell?_alloc_at _ _ _ _ rfl]
  simpa [stepCells] using hj

theorem make_room (n : Nat) (hN : n ≤ 1048576) : ∃ C : Array Value, C.size = n * 10 ∧ ∀ w : World, (Instr.makeSlice 25 (.int .i64 0) (.int .i64 (n : Int))).run Try.prog w = .ok (.slice (some ⟨w.heap.size, 0, none⟩) 0 n) (w.alloc (.cells C 34)) := by
  obtain ⟨i, hi, hz, hs, hb⟩ := info_parts Try.info34
  refine ⟨madeCells (Value.agg #[.string ⟨#[]⟩, .string ⟨#[]⟩, .int .i64 0, .string ⟨#[]⟩, .string ⟨#[]⟩, .int .i64 0, .int .i64 0, .bool false, .bool false, .bool false]).cells (n * 10), size_madeCells _ _, fun w => ?_⟩
  have h := run_make (P := Try.prog) w 25 34 i _ Try.underlying25 hi hz .i64 .i64 0 (n : Int) (by omega) (by omega) (by rw [hb]; omega) (by omega)
  rw [hs] at h
  simpa only [Int.toNat_zero, Int.toNat_natCast] using h

theorem Owns.new (w : World) (C : Array Value) (n : Nat) (hN : n ≤ 1048576) (hC : C.size = n * 10) : Owns (w.alloc (.cells C 34)) w.heap.size 0 n [] :=
  ⟨World.ownsRow_made w C n (Nat.le_refl _) (by unfold maxLen; omega) hC, rfl⟩

theorem Owns.keepBelow {w w' : World} {g k cap : Nat} {ts : List ByteArray} (h : Owns w g k cap ts) (hb : Below w.heap.size w w') : Owns w' g k cap ts := by
  obtain ⟨h1, h2⟩ := h
  exact ⟨h1.kept (row := none) ⟨hb.os, hb.tape, hb.output, hb.size, fun q hq _ => hb.block q hq⟩ (.inr (by simp [Value.ownBlock])), h2⟩

theorem take_snoc {ts : List ByteArray} {k : Nat} {s : ByteArray} (hm : ts[k]? = some s) : ts.take (k + 1) = ts.take k ++ [s] := by
  obtain ⟨hl, rfl⟩ := List.getElem?_eq_some_iff.1 hm
  exact List.take_succ_eq_append_getElem hl

/-- What pathOfTexts hands back. -/
def MadeP (n : Nat) (ts : List ByteArray) (w : World) (e : Ending) (w' : World) : Prop := ∃ g, e = .returned (.slice (some ⟨g, 0, none⟩) n n) ∧ SRow w' g ts ∧ Below w.heap.size w w'

set_option maxHeartbeats 1000000 in
theorem path_any (a : Option Addr) (n c : Nat) (ts : List ByteArray) (w : World) (hr : TRow w a n ts) (hN : n ≤ 1048576) : Calls Try.prog 6 #[.slice a n c] w fun e w' => MadeP n ts w e w' := by
  obtain ⟨C, hC, hmk⟩ := make_room n hN
  have HC : Hid (C.size = n * 10) := hC
  have HR : Hid (TRow w a n ts) := hr
  clear hC hr
  go_enter Try.func6, Try.ntmps6
  go_wp2
  clear hmk
  go_loopw [3, 4] (fun s i wr => ∃ k : Nat, k ≤ n ∧ i = .int .i64 k ∧ s = .slice (some ⟨w.heap.size, 0, none⟩) k n ∧ Below w.heap.size w wr ∧ Owns wr w.heap.size k n (ts.take k)) (fun _ i _ => n - (intOf i).toNat)
  case atStart => exact ⟨0, Nat.zero_le _, rfl, rfl, (Below.refl _ _).alloc (Nat.le_refl _) _, Owns.new w C n hN HC.out⟩
  case round =>
    obtain ⟨k, hk, rfl, rfl, hbel, hown⟩ := hrel
    by_cases hlt : k < n
    · obtain ⟨hn, h0 | ⟨b, off, rfl, hb, hl⟩⟩ := HR.out
      · omega
      obtain ⟨s, hm⟩ : ∃ m, ts[k]? = some m := ⟨ts[k]'(by omega), List.getElem?_eq_getElem _⟩
      have d0 : wr.cell? ⟨b, off + k, none⟩ = some (.string s) := (hbel.cell (p := ⟨b, off + k, none⟩) hb).trans (hl k _ hm)
      have HM : Hid (ts[k]? = some s) := hm
      clear hl hm hn
      go_wp2_with fail
      refine (step_any s _).mono ?_
      rintro e w1 ⟨rfl, hb1⟩
      have HO : Hid (Owns w1 w.heap.size k n (ts.take k)) := hown.keepBelow hb1
      have HB : Hid (Below w.heap.size w w1) := hbel.trans (hb1.mono hbel.size)
      clear hb1 hbel hown d0
      go_wp2_with (at_builtin; refine append_step _ rfl (.tmp 14) (.tmp 20) rfl w.heap.size k n (ts.take k) rfl (HO.out.keepBelow ((Below.refl _ _).alloc (Nat.le_refl _) _)) w1.heap.size s rfl (new_cells _ _) (by omega) ?_; intro w2 hown2 hgrow)
      go_roundw
      case rel =>
        refine ⟨k + 1, by omega, by go_num, rfl, ?_, ?_⟩
        · exact (HB.out.alloc HB.out.size _).grown hgrow (by have := HB.out.size; simp; omega) (fun q hq => by injection hq with hq; omega)
        · rw [take_snoc HM.out]
          exact hown2
      case measure => simp [intOf]; omega
    · have hkn : k = n := by omega
      subst hkn
      go_wp2
      go_ret
      have e : ts.take k = ts := List.take_of_length_le (by have := HR.out.1; omega)
      rw [e] at hown
      exact ⟨_, rfl, hown.row, hbel⟩

end Go.Proofs.Qxb6628572a
