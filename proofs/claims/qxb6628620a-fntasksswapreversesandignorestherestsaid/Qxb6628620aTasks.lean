import Derived.Test.Qxb6628620aRows
import Derived.WalkKit
import Derived.WalkSpells
import Derived.WalkLawsBesides
import Derived.Deep.QuietTactic
import Derived.BigQuiet
import Derived.RegionTactic
import Derived.ChangeAlike
import Derived.LaidEqlPtr
import Derived.Laws.Pointers
import Derived.Outline
namespace Go.Proofs.Qxb6628620a
open Go.RowKit

theorem Try.info25 : (Try.prog.info? 25).map (fun i => (i.zero, i.size, i.bytes)) = some (some (.pointer none), 1, 8) := by kernel_rfl

/-- Of the first k of the two pointers those that are not nil. -/
def keptP (p q : Option Addr) (k : Nat) : List Value := (([p, q].take k).filter Option.isSome).map Value.pointer

theorem kept_len (p q : Option Addr) (k : Nat) : (keptP p q k).length ≤ 2 := by
  unfold keptP
  rw [List.length_map]
  refine Nat.le_trans (List.length_filter_le _ _) ?_
  rw [List.length_take]
  simp; omega
theorem kept_none {p q : Option Addr} {k : Nat} (h : [p, q][k]? = some none) : keptP p q (k + 1) = keptP p q k := by
  unfold keptP
  obtain ⟨hl, he⟩ := List.getElem?_eq_some_iff.1 h
  rw [List.take_succ_eq_append_getElem hl, he]
  simp
theorem kept_some {p q : Option Addr} {k : Nat} {x : Addr} (h : [p, q][k]? = some (some x)) : keptP p q (k + 1) = keptP p q k ++ [.pointer (some x)] := by
  unfold keptP
  obtain ⟨hl, he⟩ := List.getElem?_eq_some_iff.1 h
  rw [List.take_succ_eq_append_getElem hl, he]
  simp

/-- What Config.Tasks hands back. -/
def TasksAre (p q : Option Addr) (w : World) (e : Ending) (w' : World) : Prop := ∃ v, e = .returned v ∧ w'.ownsRow (w.heap.size + 1) 25 1 v (keptP p q 2).length (keptP p q 2) ∧ Below w.heap.size w w'

set_option maxHeartbeats 1000000 in
theorem tasks_any (C : Nat) (p q : Option Addr) (w : World) (hp : w.cell? ⟨C, 26, none⟩ = some (.pointer p)) (hq : w.cell? ⟨C, 27, none⟩ = some (.pointer q)) :
    Calls Try.prog 7 #[.pointer (some ⟨C, 0, none⟩)] w fun e w' => TasksAre p q w e w' := by
  obtain ⟨i0, hi, hz0, hz1, hz2⟩ := info_parts Try.info25
  go_enter Try.func7, Try.ntmps7
  go_wp2
  go_region
  go_wp2
  clear hp hq
  go_loopw [3, 16] (fun v i wr => ∃ k : Nat, k ≤ 2 ∧ i = .int .i64 k ∧ wr.ownsRow (w.heap.size + 1) 25 1 v (keptP p q k).length (keptP p q k) ∧ (∀ j x, [p, q][j]? = some x → wr.cell? ⟨w.heap.size, j, none⟩ = some (.pointer x)) ∧ Below w.heap.size w wr ∧ w.heap.size + 1 ≤ wr.heap.size) (fun _ i _ => 2 - (intOf i).toNat)
  case atStart =>
    refine ⟨0, Nat.zero_le _, rfl, World.ownsRow_nil _ _ _ _, ?_, ((Below.refl _ _).alloc (Nat.le_refl _) _).drew, by simp⟩
    intro j x hj
    match j, hj with
    | 0, hj => simp at hj; subst hj; simp
    | 1, hj => simp at hj; subst hj; simp
  case round =>
    obtain ⟨k, hk, rfl, hown, hcells, hbel, hsz⟩ := hrel
    have HO : Hid (wr.ownsRow (w.heap.size + 1) 25 1 u3 (keptP p q k).length (keptP p q k)) := hown
    clear hown
    by_cases hlt : k < 2
    · obtain ⟨x, hx⟩ : ∃ x, [p, q][k]? = some x := ⟨[p, q][k]'(by simpa using hlt), List.getElem?_eq_getElem _⟩
      have hc := hcells k x hx
      have HX : Hid ([p, q][k]? = some x) := hx
      have HC : Hid (∀ j x, [p, q][j]? = some x → wr.cell? ⟨w.heap.size, j, none⟩ = some (.pointer x)) := hcells
      have hk2 : (k : Int) < 2 := by omega
      clear hcells hx
      cases x with
      | none =>
        go_wp2_with fail
        go_roundw
        case rel => exact ⟨k + 1, by omega, by go_num, by rw [kept_none HX.out]; exact HO.out, HC.out, hbel, hsz⟩
        case measure => simp [intOf]; omega
      | some x =>
        have hkl := kept_len p q k
        go_wp2_with (at_builtin; refine wpList_append_own _ rfl (.tmp 22) (.tmp 24) 54 rfl (w.heap.size + 1) 25 i0 (.pointer none) 1 8 Try.underlying54 hi hz0 hz1 hz2 rfl (by decide) _ _ _ rfl (HO.out.alloc _) ⟨wr.heap.size, 0, none⟩ 1 1 [.pointer (some x)] rfl rfl (cell_one_new _ _ _) ?c2 ?c3 ?c4 ?c5 ?_)
        case c2 => intro u hu; simp at hu; subst hu; rfl
        case c3 => unfold maxLen; omega
        case c4 => omega
        case c5 => simp; omega
        · intro v' w1 hown' hgrow _
          have HO' : Hid (w1.ownsRow (w.heap.size + 1) 25 1 v' ((keptP p q k).length + 1) (keptP p q k ++ [.pointer (some x)])) := hown'
          have HB' : Hid (Below w.heap.size w w1) := (hbel.alloc hbel.size _).grown hgrow (by have := hbel.size; simp; omega) (fun b hb => by have := (HO.out.lt b hb).1; omega)
          have HC' : Hid (∀ j x, [p, q][j]? = some x → w1.cell? ⟨w.heap.size, j, none⟩ = some (.pointer x)) := by
            intro j y hj
            refine hgrow.cell ?_ ?_
            · rw [World.cell?_alloc_past _ _ _ (by omega)]
              exact HC.out j y hj
            · intro he
              have := (HO.out.lt _ he.symm).1
              simp at this
              omega
          have hsz' : w.heap.size + 1 ≤ w1.heap.size := by have := hgrow.size; simp at this; omega
          clear hown' hgrow HO HC hc hbel hsz
          go_wp2_with fail
          go_roundw
          case rel => exact ⟨k + 1, by omega, by go_num, by rw [kept_some HX.out, List.length_append]; exact HO'.out, HC'.out, HB'.out, hsz'⟩
          case measure => simp [intOf]; omega
    · have hk2 : k = 2 := by omega
      subst hk2
      go_wp2_with fail
      go_ret
      exact ⟨u3, rfl, HO.out, hbel⟩
end Go.Proofs.Qxb6628620a
