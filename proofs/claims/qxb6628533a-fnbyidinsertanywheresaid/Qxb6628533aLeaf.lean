import Derived.Test.Qxb6628533aRows
import Derived.WalkKit
import Derived.WalkSpells
import Derived.WalkLawsBesides
import Derived.Deep.QuietTactic
import Derived.BigQuiet
import Derived.Outline
namespace Go.Proofs.Qxb6628533a
open Go.RowKit

/-- One member: four fields, as they stand in memory. -/
structure Mem where
  id : ByteArray
  age : Int
  client : ByteArray
  bus : ByteArray

def Mem.cells (m : Mem) : List Value := [.string m.id, .int .u64 m.age, .string m.client, .string m.bus]
def Mem.val (m : Mem) : Value := .agg #[.string m.id, .int .u64 m.age, .string m.client, .string m.bus]
def zeroM : Mem := ⟨⟨#[]⟩, 0, ⟨#[]⟩, ⟨#[]⟩⟩

theorem member_any (m : Mem) (w : World) :
    Calls Try.prog 8 #[m.val] w fun e w' => e = .returned m.val ∧ Below w.heap.size w w' := by
  obtain ⟨s0, a, s1, s2⟩ := m
  simp only [Mem.val]
  go_enter Try.func8, Try.ntmps8
  go_wp2
  exact bodyPost_ret (v := .agg #[.string s0, .int .u64 a, .string s1, .string s2]) (by simp [results, Try.results8, go_sem]) rfl ⟨rfl, ((Below.refl _ _).alloc (Nat.le_refl _) _).alloc (by simp) _⟩

theorem member_x (s0 : ByteArray) (a : Int) (s1 s2 : ByteArray) (w : World) :
    Calls Try.prog 8 #[.agg #[.string s0, .int .u64 a, .string s1, .string s2]] w fun e w' => e = .returned (.agg #[.string s0, .int .u64 a, .string s1, .string s2]) ∧ Below w.heap.size w w' :=
  member_any ⟨s0, a, s1, s2⟩ w

/-- The members lie in memory behind the slice's address. -/
def Lies (w : World) (b off : Nat) (ms : List Mem) : Prop := ∀ i m, ms[i]? = some m →
  w.cell? ⟨b, off + i * 4, none⟩ = some (.string m.id) ∧ w.cell? ⟨b, off + i * 4 + 1, none⟩ = some (.int .u64 m.age) ∧ w.cell? ⟨b, off + i * 4 + 2, none⟩ = some (.string m.client) ∧ w.cell? ⟨b, off + i * 4 + 3, none⟩ = some (.string m.bus)

/-- What List.ByID answers. -/
def findM (id : ByteArray) (ms : List Mem) : Option Mem := ms.find? fun m => m.id.toList == id.toList

theorem find_hit {id : ByteArray} {ms : List Mem} {k : Nat} {m : Mem} (hp : findM id (ms.take k) = none) (hm : ms[k]? = some m) (h : (m.id.toList == id.toList) = true) : findM id ms = some m := by
  have e : ms = ms.take k ++ m :: ms.drop (k + 1) := by
    rw [List.getElem?_eq_some_iff] at hm
    obtain ⟨hk, rfl⟩ := hm
    rw [List.getElem_cons_drop, List.take_append_drop]
  rw [e]
  unfold findM at hp ⊢
  rw [List.find?_append, hp, List.find?_cons, h]
  rfl
theorem find_miss {id : ByteArray} {ms : List Mem} {k : Nat} {m : Mem} (hp : findM id (ms.take k) = none) (hm : ms[k]? = some m) (h : (m.id.toList == id.toList) = false) : findM id (ms.take (k + 1)) = none := by
  rw [List.getElem?_eq_some_iff] at hm
  obtain ⟨hk, rfl⟩ := hm
  rw [List.take_succ_eq_append_getElem hk]
  unfold findM at hp ⊢
  rw [List.find?_append, hp, List.find?_cons, h]
  rfl

set_option maxHeartbeats 400000 in
theorem byID_some_addr (b off n c : Nat) (v l : Int) (id : ByteArray) (ms : List Mem) (w : World) (hn : ms.length = n) (hN : n ≤ 1048577) (hl : Lies w b off ms) (hb : b < w.heap.size) :
    Calls Try.prog 9 #[.agg #[.int .u64 v, .int .u64 l, .slice (some ⟨b, off, none⟩) n c], .string id] w fun e w' => e = .returned (.tuple #[((findM id ms).getD zeroM).val, .bool (findM id ms).isSome]) ∧ Below w.heap.size w w' := by
  have HN : Hid (ms.length = n) := hn
  clear hn
  go_enter Try.func9, Try.ntmps9
  go_wp2
  go_loopw [11] (fun i wr => ∃ k : Nat, k ≤ n ∧ i = .int .i64 k ∧ findM id (ms.take k) = none ∧ Below w.heap.size w wr ∧ w.heap.size + 2 ≤ wr.heap.size ∧
      wr.cell? ⟨w.heap.size + 1, 0, none⟩ = some (.string ⟨#[]⟩) ∧ wr.cell? ⟨w.heap.size + 1, 1, none⟩ = some (.int .u64 0) ∧ wr.cell? ⟨w.heap.size + 1, 2, none⟩ = some (.string ⟨#[]⟩) ∧ wr.cell? ⟨w.heap.size + 1, 3, none⟩ = some (.string ⟨#[]⟩) ∧ (∀ j, wr.frozen? ⟨w.heap.size + 1, j, none⟩ = false))
    (fun i _ => n - (intOf i).toNat)
  case atStart => exact ⟨0, Nat.zero_le _, rfl, rfl, ((Below.refl _ _).alloc (Nat.le_refl _) _).alloc (by simp) _, by simp, by simp [go_sem], by simp [go_sem], by simp [go_sem], by simp [go_sem], by intro j; simp [go_sem]⟩
  case round =>
    obtain ⟨k, hk, rfl, hfind, hbel, hsz, r0, r1, r2, r3, hfr⟩ := hrel
    have f0 := hfr 0
    have f1 := hfr 1
    have f2 := hfr 2
    have f3 := hfr 3
    have HFR : Hid (∀ j, wr.frozen? ⟨w.heap.size + 1, j, none⟩ = false) := hfr
    have HF : Hid (findM id (ms.take k) = none) := hfind
    have hs1 : w.heap.size + 1 < wr.heap.size := by omega
    clear hfind hfr
    by_cases hlt : k < n
    · obtain ⟨⟨s0, a, s1, s2⟩, hm⟩ : ∃ m, ms[k]? = some m := ⟨ms[k]'(by have := HN.out; omega), List.getElem?_eq_getElem _⟩
      obtain ⟨c0, c1, c2, c3⟩ := hl k _ hm
      have hcell : ∀ o, wr.cell? ⟨b, o, none⟩ = w.cell? ⟨b, o, none⟩ := fun o => hbel.cell (p := ⟨b, o, none⟩) hb
      have d0 : wr.cell? ⟨b, off + k * 4, none⟩ = some (.string s0) := (hcell _).trans c0
      have d1 : wr.cell? ⟨b, off + k * 4 + 1, none⟩ = some (.int .u64 a) := (hcell _).trans c1
      have d2 : wr.cell? ⟨b, off + k * 4 + 2, none⟩ = some (.string s1) := (hcell _).trans c2
      have d3 : wr.cell? ⟨b, off + k * 4 + 3, none⟩ = some (.string s2) := (hcell _).trans c3
      have HM : Hid (ms[k]? = some ⟨s0, a, s1, s2⟩) := hm
      clear hcell hm c0 c1 c2 c3 hl
      go_wp2
      · refine bodyPost_ret (v := .tuple #[.agg #[.string s0, .int .u64 a, .string s1, .string s2], .bool true]) (by simp [results, Try.results9, go_sem, hs1, r0, r1, r2, r3]) rfl ⟨?_, ?_⟩
        · rw [find_hit HF.out HM.out ‹_›]; rfl
        · exact ((((hbel.setCell (by simp) _).setCell (by simp) _).setCell (by simp) _).setCell (by simp) _).alloc (by simp; omega) _
      · go_roundw
        case rel => exact ⟨k + 1, by omega, by go_num, find_miss HF.out HM.out ‹_›, hbel.alloc (by omega) _, by simp; omega, by simp [go_sem, *], by simp [go_sem, *], by simp [go_sem, *], by simp [go_sem, *], by intro j; simp [go_sem, HFR.out j, *]⟩
        case measure => simp [intOf]; omega
    · go_wp2
      refine bodyPost_ret (v := .tuple #[.agg #[.string ⟨#[]⟩, .int .u64 0, .string ⟨#[]⟩, .string ⟨#[]⟩], .bool false]) (by simp [results, Try.results9, go_sem, r0, r1, r2, r3]) rfl ⟨?_, ?_⟩
      · have e : findM id ms = none := by
          have h := HF.out
          rwa [List.take_of_length_le (by have := HN.out; omega)] at h
        rw [e]; rfl
      · exact (((hbel.setCell (by simp) _).setCell (by simp) _).setCell (by simp) _).setCell (by simp) _

theorem byID_empty (a : Option Addr) (c : Nat) (v l : Int) (id : ByteArray) (w : World) :
    Calls Try.prog 9 #[.agg #[.int .u64 v, .int .u64 l, .slice a 0 c], .string id] w fun e w' => e = .returned (.tuple #[((findM id []).getD zeroM).val, .bool (findM id []).isSome]) ∧ Below w.heap.size w w' := by
  go_enter Try.func9, Try.ntmps9
  go_wp2
  go_loop [11] (fun i => i = .int .i64 0) (fun _ => 0)
  case atStart => rfl
  case round =>
    subst hrel
    go_wp2
    refine bodyPost_ret (v := .tuple #[.agg #[.string ⟨#[]⟩, .int .u64 0, .string ⟨#[]⟩, .string ⟨#[]⟩], .bool false]) (by simp [results, Try.results9, go_sem]) rfl ⟨?_, ?_⟩
    · rfl
    · exact ((Below.refl _ _).alloc (Nat.le_refl _) _).alloc (by simp) _

/-- The slice value leads to the members. -/
def Row (w : World) (a : Option Addr) (n : Nat) (ms : List Mem) : Prop := ms.length = n ∧ (n = 0 ∨ ∃ b off, a = some ⟨b, off, none⟩ ∧ b < w.heap.size ∧ Lies w b off ms)

theorem byID_any (a : Option Addr) (n c : Nat) (v l : Int) (id : ByteArray) (ms : List Mem) (w : World) (hr : Row w a n ms) (hN : n ≤ 1048577) :
    Calls Try.prog 9 #[.agg #[.int .u64 v, .int .u64 l, .slice a n c], .string id] w fun e w' => e = .returned (.tuple #[((findM id ms).getD zeroM).val, .bool (findM id ms).isSome]) ∧ Below w.heap.size w w' := by
  obtain ⟨hn, rfl | ⟨b, off, rfl, hb, hl⟩⟩ := hr
  · obtain rfl : ms = [] := List.length_eq_zero_iff.1 hn
    exact byID_empty a c v l id w
  · exact byID_some_addr b off n c v l id ms w hn hN hl hb

theorem Row.keep {w w' : World} {a : Option Addr} {n : Nat} {ms : List Mem} (h : Row w a n ms) (hb : Below w.heap.size w w') : Row w' a n ms := by
  obtain ⟨hn, h0 | ⟨b, off, rfl, hlt, hl⟩⟩ := h
  · exact ⟨hn, .inl h0⟩
  · refine ⟨hn, .inr ⟨b, off, rfl, Nat.lt_of_lt_of_le hlt hb.size, fun i m hm => ?_⟩⟩
    have hc : ∀ o, w'.cell? ⟨b, o, none⟩ = w.cell? ⟨b, o, none⟩ := fun o => hb.cell (p := ⟨b, o, none⟩) hlt
    simp only [hc]
    exact hl i m hm

/-- ByID's answer as a pair: the member and whether it was found. -/
def ans (r : Option Mem) : Mem × Bool := (r.getD zeroM, r.isSome)

theorem byID_at (a : Option Addr) (n c : Nat) (v l : Int) (id : ByteArray) (ms : List Mem) (w : World) (hr : Row w a n ms) (hN : n ≤ 1048577) (s0 : ByteArray) (ag : Int) (s1 s2 : ByteArray) (q : Bool) (h : ans (findM id ms) = (⟨s0, ag, s1, s2⟩, q)) :
    Calls Try.prog 9 #[.agg #[.int .u64 v, .int .u64 l, .slice a n c], .string id] w fun e w' => e = .returned (.tuple #[.agg #[.string s0, .int .u64 ag, .string s1, .string s2], .bool q]) ∧ Below w.heap.size w w' := by
  have h1 : (findM id ms).getD zeroM = ⟨s0, ag, s1, s2⟩ := congrArg Prod.fst h
  have h2 : (findM id ms).isSome = q := congrArg Prod.snd h
  have k := byID_any a n c v l id ms w hr hN
  rw [h1, h2] at k
  exact k

theorem find_split (id : ByteArray) (ms : List Mem) (k : Nat) : findM id ms = (findM id (ms.take k)).or (findM id (ms.drop k)) := by
  unfold findM
  rw [← List.find?_append, List.take_append_drop]

theorem find_head (m : Mem) (xs : List Mem) : findM m.id (m :: xs) = some m := by
  unfold findM
  rw [List.find?_cons]
  simp
end Go.Proofs.Qxb6628533a
