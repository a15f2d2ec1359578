import Derived.Test.Qxb6628620aOnly
namespace Go.Proofs.Qxb6628620a
open Go.RowKit

theorem neO {x y : Addr} {cx cy : Array Value} {tx ty : TypeId} (w : World) (hne : x ≠ y) (hx : w.heap[x.block]? = some (.cells cx tx (0, 0))) (hy : w.heap[y.block]? = some (.cells cy ty (0, 0))) :
    (binOp .eql 25 (.pointer (some x)) (.pointer (some y))).run Try.prog w = .ok (.bool false) w := by
  obtain ⟨j, hj, hs⟩ := Option.map_eq_some_iff.1 (show (Try.prog.info? 32).map (fun i => i.size) = some 5 by kernel_rfl)
  exact run_eql_ptr_other w Try.underlying25 hj (by rw [hs]; decide) hne hx hy

theorem hold_block {W W' : World} (hb : Below W.heap.size W W') {b : Nat} {o : Obj} (h : W.heap[b]? = some o) : W'.heap[b]? = some o :=
  (hb.block b (Array.getElem?_eq_some_iff.1 h).1).trans h

theorem blk1 (w : World) (o1 o2 : Obj) : ((w.alloc o1).alloc o2).heap[w.heap.size + 1]? = some o2 := by
  have h := heap_alloc_new (w.alloc o1) o2
  rwa [World.size_alloc] at h

theorem blocks4 {w w3 : World} {c1 c2 : Array Value} {t1 t2 : TypeId} {o3 o4 : Obj} (hb : Below ((((w.alloc (.cells c1 t1)).alloc (.cells c2 t2)).alloc o3).alloc o4).heap.size ((((w.alloc (.cells c1 t1)).alloc (.cells c2 t2)).alloc o3).alloc o4) w3) :
    w3.heap[w.heap.size]? = some (.cells c1 t1 (0, 0)) ∧ w3.heap[w.heap.size + 1]? = some (.cells c2 t2 (0, 0)) := by
  have b1 : Below (w.alloc (.cells c1 t1)).heap.size (w.alloc (.cells c1 t1)) ((((w.alloc (.cells c1 t1)).alloc (.cells c2 t2)).alloc o3).alloc o4) :=
    (((Below.refl _ _).alloc (Nat.le_refl _) _).alloc (by simp) _).alloc (by simp; try omega) _
  have b2 : Below ((w.alloc (.cells c1 t1)).alloc (.cells c2 t2)).heap.size ((w.alloc (.cells c1 t1)).alloc (.cells c2 t2)) ((((w.alloc (.cells c1 t1)).alloc (.cells c2 t2)).alloc o3).alloc o4) :=
    ((Below.refl _ _).alloc (Nat.le_refl _) _).alloc (by simp) _
  exact ⟨hold_block hb (hold_block b1 (heap_alloc_new w _)), hold_block hb (hold_block b2 (blk1 w _ _))⟩

theorem has_at0 (g n cap : Nat) (x : Addr) (w : World) (hn : 0 < n) (hc : w.cell? ⟨g, 0, none⟩ = some (.pointer (some x))) :
    Calls Try.prog 10 #[.slice (some ⟨g, 0, none⟩) n cap, .pointer (some x)] w fun e w' => e = .returned (.bool true) ∧ w' = w := by
  have he := eqP x
  have hn' : (0 : Int) < (n : Int) := by omega
  go_enter Try.func10, Try.ntmps10
  go_wp2
  go_loop [5] (fun i => i = .int .i64 0) (fun _ => 0)
  case atStart => rfl
  case round =>
    subst hrel
    go_wp2
    go_ret
    exact ⟨rfl, rfl⟩

theorem has_at1 (g cap : Nat) (x y : Addr) (w : World) (h0 : w.cell? ⟨g, 0, none⟩ = some (.pointer (some y))) (h1 : w.cell? ⟨g, 1, none⟩ = some (.pointer (some x)))
    (hne : (binOp .eql 25 (.pointer (some y)) (.pointer (some x))).run Try.prog w = .ok (.bool false) w) :
    Calls Try.prog 10 #[.slice (some ⟨g, 0, none⟩) 2 cap, .pointer (some x)] w fun e w' => e = .returned (.bool true) ∧ w' = w := by
  have he := eqP x
  go_enter Try.func10, Try.ntmps10
  go_wp2
  go_loop [5] (fun i => ∃ k : Nat, k ≤ 1 ∧ i = .int .i64 k) (fun i => 1 - (intOf i).toNat)
  case atStart => exact ⟨0, Nat.zero_le _, rfl⟩
  case round =>
    obtain ⟨k, hk, rfl⟩ := hrel
    by_cases hk0 : k = 0
    · subst hk0
      go_wp2
      go_round
      case rel => exact ⟨1, Nat.le_refl _, rfl⟩
      case measure => simp [intOf]
    · have hk1 : k = 1 := by omega
      subst hk1
      go_wp2
      go_ret
      exact ⟨rfl, rfl⟩
end Go.Proofs.Qxb6628620a
