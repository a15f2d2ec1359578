import Derived.Test.Qxb6628533aWithin
import Derived.Test.Qxb6628533aMembers
namespace Go.Proofs.Qxb6628533a
open Go.RowKit

/-- A slice that the call has made holds the members xs at its head. -/
def Owns (w : World) (g k cap : Nat) (xs : List Mem) : Prop := w.ownsRow g 30 4 (.slice (some ⟨g, 0, none⟩) k cap) k (xs.flatMap Mem.cells) ∧ xs.length = k

theorem cells_at (xs : List Mem) : ∀ (i : Nat) (m : Mem), xs[i]? = some m → (xs.flatMap Mem.cells)[i * 4]? = some (.string m.id) ∧ (xs.flatMap Mem.cells)[i * 4 + 1]? = some (.int .u64 m.age) ∧ (xs.flatMap Mem.cells)[i * 4 + 2]? = some (.string m.client) ∧ (xs.flatMap Mem.cells)[i * 4 + 3]? = some (.string m.bus) := by
  induction xs with
  | nil => intro i m h; simp at h
  | cons x xs ih =>
    intro i m h
    cases i with
    | zero =>
      simp at h
      subst h
      simp [List.flatMap_cons, Mem.cells]
    | succ i =>
      simp at h
      have q := ih i m h
      have e : ∀ r, (i + 1) * 4 + r = (i * 4 + r) + 4 := by intro r; omega
      have e0 := e 0
      simp only [Nat.add_zero] at e0
      rw [e 1, e 2, e 3, e0]
      simp only [List.flatMap_cons]
      have d : ∀ j : Nat, (x.cells ++ xs.flatMap Mem.cells)[j + 4]? = (xs.flatMap Mem.cells)[j]? := by
        intro j
        rw [List.getElem?_append_right (by simp [Mem.cells])]
        simp [Mem.cells]
      rw [d, d, d, d]
      exact q

theorem Owns.row {w : World} {g k cap : Nat} {xs : List Mem} (h : Owns w g k cap xs) : Row w (some ⟨g, 0, none⟩) k xs := by
  obtain ⟨h1, h2⟩ := h
  refine ⟨h2, .inr ⟨g, 0, rfl, (h1.lt g rfl).2, fun i m hm => ?_⟩⟩
  obtain ⟨q0, q1, q2, q3⟩ := cells_at xs i m hm
  have c := h1.cells (g := g) rfl
  have r0 := c _ _ q0
  have r1 := c _ _ q1
  have r2 := c _ _ q2
  have r3 := c _ _ q3
  simp only [WideShapes.add_plain] at r0 r1 r2 r3
  simp only [Nat.zero_add] at r0 r1 r2 r3 ⊢
  exact ⟨r0, r1, r2, r3⟩

theorem append_mem {ops : Array Oper} {rest : List Oper} {o : Oper} {a : Act} {Q : Exit → Act → World → Prop} (w : World) (hg : o.guard = none) (s x : Operand)
    (hop : o.op = Op.call { callee := Callee.builtin Builtin.append, args := #[s, x], argTypes := #[28, 28] }) (g k cap : Nat) (xs : List Mem)
    (hs : a.eval s = .slice (some ⟨g, 0, none⟩) k cap) (hown : Owns w g k cap xs) (B : Nat) (m : Mem) (hx : a.eval x = .slice (some ⟨B, 0, none⟩) 1 1)
    (c0 : w.cell? ⟨B, 0, none⟩ = some (.string m.id)) (c1 : w.cell? ⟨B, 1, none⟩ = some (.int .u64 m.age)) (c2 : w.cell? ⟨B, 2, none⟩ = some (.string m.client)) (c3 : w.cell? ⟨B, 3, none⟩ = some (.string m.bus)) (b1 : k + 1 ≤ cap)
    (hK : ∀ w', Owns w' g (k + 1) cap (xs ++ [m]) → w.grownBy w' (some g) → wpList Try.prog ops Q rest (a.put o.dst (.slice (some ⟨g, 0, none⟩) (k + 1) cap)) w') :
    wpList Try.prog ops Q (o :: rest) a w := by
  obtain ⟨i, hi, hz, hsz, hb⟩ := info_parts Try.info30
  obtain ⟨h1, h2⟩ := hown
  refine wpList_append_fits w hg s x 28 hop g 30 i 4 Try.underlying28 hi hsz g k cap _ hs h1 ⟨B, 0, none⟩ 1 1 m.cells hx (by simp [Mem.cells]) ?_ ?_ b1 fun w' q1 q2 => hK w' ⟨?_, by simp [h2]⟩ q2
  · intro j u hj
    rw [WideShapes.add_plain, Nat.zero_add]
    match j, hj with
    | 0, hj => simp [Mem.cells] at hj; subst hj; exact c0
    | 1, hj => simp [Mem.cells] at hj; subst hj; exact c1
    | 2, hj => simp [Mem.cells] at hj; subst hj; exact c2
    | 3, hj => simp [Mem.cells] at hj; subst hj; exact c3
    | j + 4, hj => simp [Mem.cells] at hj
  · intro u hu
    simp [Mem.cells] at hu
    rcases hu with rfl | rfl | rfl | rfl <;> rfl
  · rw [List.flatMap_append]
    simpa using q1

theorem make_room (n : Nat) (hN : n ≤ 1048576) : ∃ C : Array Value, C.size = (n + 1) * 4 ∧ ∀ w : World, (Instr.makeSlice 28 (.int .i64 0) (.int .i64 ((n : Int) + 1))).run Try.prog w = .ok (.slice (some ⟨w.heap.size, 0, none⟩) 0 (n + 1)) (w.alloc (.cells C 30)) := by
  obtain ⟨i, hi, hz, hs, hb⟩ := info_parts Try.info30
  refine ⟨madeCells (Value.agg #[.string ⟨#[]⟩, .int .u64 0, .string ⟨#[]⟩, .string ⟨#[]⟩]).cells ((n + 1) * 4), size_madeCells _ _, fun w => ?_⟩
  have h := run_make (P := Try.prog) w 28 30 i _ Try.underlying28 hi hz .i64 .i64 0 ((n : Int) + 1) (by omega) (by omega) (by rw [hb]; omega) (by omega)
  rw [hs, show ((n : Int) + 1).toNat = n + 1 from by omega] at h
  simpa only [Int.toNat_zero] using h

theorem Owns.new (w : World) (C : Array Value) (n : Nat) (hN : n ≤ 1048577) (hC : C.size = n * 4) : Owns (w.alloc (.cells C 30)) w.heap.size 0 n [] :=
  ⟨World.ownsRow_made w C n (Nat.le_refl _) (by unfold maxLen; omega) hC, rfl⟩

theorem Owns.alloc {w : World} {g k cap : Nat} {xs : List Mem} (h : Owns w g k cap xs) (o : Obj) : Owns (w.alloc o) g k cap xs := ⟨h.1.alloc o, h.2⟩

/-- A cell stays where nothing old turns. -/
theorem hold {W W' : World} (hb : Below W.heap.size W W') {b o : Nat} {v : Value} (h : W.cell? ⟨b, o, none⟩ = some v) : W'.cell? ⟨b, o, none⟩ = some v :=
  (hb.cell (p := ⟨b, o, none⟩) (World.block_lt_of_cell? (h := h))).trans h

/-- Four cells that hold a member. -/
def At4 (w : World) (X : Nat) (m : Mem) : Prop := w.cell? ⟨X, 0, none⟩ = some (.string m.id) ∧ w.cell? ⟨X, 1, none⟩ = some (.int .u64 m.age) ∧ w.cell? ⟨X, 2, none⟩ = some (.string m.client) ∧ w.cell? ⟨X, 3, none⟩ = some (.string m.bus)

theorem At4.keep {w w' : World} {X : Nat} {m : Mem} (h : At4 w X m) (hb : Below w.heap.size w w') : At4 w' X m := ⟨hold hb h.1, hold hb h.2.1, hold hb h.2.2.1, hold hb h.2.2.2⟩
theorem At4.lt {w : World} {X : Nat} {m : Mem} (h : At4 w X m) : X < w.heap.size := World.block_lt_of_cell? (h := h.1)
theorem At4.alloc {w : World} {X : Nat} {m : Mem} (h : At4 w X m) (o : Obj) : At4 (w.alloc o) X m := h.keep ((Below.refl _ _).alloc (Nat.le_refl _) o)

theorem take_snoc {ms : List Mem} {k : Nat} {m : Mem} (hm : ms[k]? = some m) : ms.take (k + 1) = ms.take k ++ [m] := by
  obtain ⟨hl, rfl⟩ := List.getElem?_eq_some_iff.1 hm
  exact List.take_succ_eq_append_getElem hl

/-- The list with x put in at place p. -/
def insL (ms : List Mem) (p : Nat) (x : Mem) : List Mem := ms.take p ++ x :: ms.drop p

/-- The three lists in their boxes, the rows behind them, and the two variables that hold x. -/
def EnvI (v l : Int) (B : Nat) (a : Option Addr) (n c g g2 p : Nat) (ms : List Mem) (x : Mem) (X Y : Nat) (w : World) : Prop :=
  (Row w a n ms ∧ Row w (some ⟨g, 0, none⟩) (n + 1) (insL ms p x) ∧ Row w (some ⟨g2, 0, none⟩) p (ms.take p)) ∧ (At4 w X x ∧ At4 w Y x) ∧ B + 3 ≤ w.heap.size ∧
  (w.cell? ⟨B, 0, none⟩ = some (.int .u64 v) ∧ w.cell? ⟨B, 1, none⟩ = some (.int .u64 l) ∧ w.cell? ⟨B, 2, none⟩ = some (.slice a n c)) ∧
  (w.cell? ⟨B + 1, 0, none⟩ = some (.int .u64 v) ∧ w.cell? ⟨B + 1, 1, none⟩ = some (.int .u64 l) ∧ w.cell? ⟨B + 1, 2, none⟩ = some (.slice (some ⟨g, 0, none⟩) (n + 1) (n + 1))) ∧
  (w.cell? ⟨B + 1 + 1, 0, none⟩ = some (.int .u64 v) ∧ w.cell? ⟨B + 1 + 1, 1, none⟩ = some (.int .u64 l) ∧ w.cell? ⟨B + 1 + 1, 2, none⟩ = some (.slice (some ⟨g2, 0, none⟩) p p))

theorem EnvI.keep {v l : Int} {B : Nat} {a : Option Addr} {n c g g2 p : Nat} {ms : List Mem} {x : Mem} {X Y : Nat} {w w' : World} (h : EnvI v l B a n c g g2 p ms x X Y w) (hb : Below w.heap.size w w') : EnvI v l B a n c g g2 p ms x X Y w' := by
  obtain ⟨⟨r0, r1, r2⟩, ⟨u, u'⟩, hs, ⟨p0, p1, p2⟩, ⟨q0, q1, q2⟩, ⟨t0, t1, t2⟩⟩ := h
  exact ⟨⟨r0.keep hb, r1.keep hb, r2.keep hb⟩, ⟨u.keep hb, u'.keep hb⟩, Nat.le_trans hs hb.size, ⟨hold hb p0, hold hb p1, hold hb p2⟩, ⟨hold hb q0, hold hb q1, hold hb q2⟩, ⟨hold hb t0, hold hb t1, hold hb t2⟩⟩

theorem EnvI.alloc {v l : Int} {B : Nat} {a : Option Addr} {n c g g2 p : Nat} {ms : List Mem} {x : Mem} {X Y : Nat} {w : World} (h : EnvI v l B a n c g g2 p ms x X Y w) (o : Obj) : EnvI v l B a n c g g2 p ms x X Y (w.alloc o) :=
  h.keep ((Below.refl _ _).alloc (Nat.le_refl _) o)

theorem EnvI.boxed {v l : Int} {a : Option Addr} {n c g g2 p : Nat} {ms : List Mem} {x : Mem} {X Y : Nat} {w : World} (h : (Row w a n ms ∧ Row w (some ⟨g, 0, none⟩) (n + 1) (insL ms p x) ∧ Row w (some ⟨g2, 0, none⟩) p (ms.take p)) ∧ (At4 w X x ∧ At4 w Y x)) :
    EnvI v l w.heap.size a n c g g2 p ms x X Y (((w.alloc (.cells #[.int .u64 v, .int .u64 l, .slice a n c] 33)).alloc (.cells #[.int .u64 v, .int .u64 l, .slice (some ⟨g, 0, none⟩) (n + 1) (n + 1)] 33)).alloc (.cells #[.int .u64 v, .int .u64 l, .slice (some ⟨g2, 0, none⟩) p p] 33)) := by
  have hb : Below w.heap.size w (((w.alloc (.cells #[.int .u64 v, .int .u64 l, .slice a n c] 33)).alloc (.cells #[.int .u64 v, .int .u64 l, .slice (some ⟨g, 0, none⟩) (n + 1) (n + 1)] 33)).alloc (.cells #[.int .u64 v, .int .u64 l, .slice (some ⟨g2, 0, none⟩) p p] 33)) :=
    (((Below.refl _ _).alloc (Nat.le_refl _) _).alloc (by simp) _).alloc (by simp; omega) _
  obtain ⟨⟨r0, r1, r2⟩, u, u'⟩ := h
  refine ⟨⟨r0.keep hb, r1.keep hb, r2.keep hb⟩, ⟨u.keep hb, u'.keep hb⟩, by simp, ⟨?_, ?_, ?_⟩, ⟨?_, ?_, ?_⟩, ⟨?_, ?_, ?_⟩⟩ <;> simp [go_sem]

theorem ans_some {r : Option Mem} {m : Mem} (h : r = some m) : ans r = (m, true) := by rw [h]; rfl
theorem ans_none {r : Option Mem} (h : r = none) : ans r = (⟨⟨#[]⟩, 0, ⟨#[]⟩, ⟨#[]⟩⟩, false) := by rw [h]; rfl
theorem insL_hit {x : Mem} {ms : List Mem} {p : Nat} {m : Mem} (h : findM x.id (ms.take p) = some m) : ans (findM x.id (insL ms p x)) = (m, true) := by
  unfold insL findM at *
  rw [List.find?_append, h]; rfl
theorem insL_miss {x : Mem} {ms : List Mem} {p : Nat} (h : findM x.id (ms.take p) = none) : ans (findM x.id (insL ms p x)) = (x, true) := by
  have e : findM x.id (insL ms p x) = some x := by
    have hh := find_head x (ms.drop p)
    unfold insL findM at *
    rw [List.find?_append, h]
    exact hh
  rw [e]; rfl
theorem insL_other {id : ByteArray} {x : Mem} {ms : List Mem} {p : Nat} (h : (x.id.toList == id.toList) = false) : findM id (insL ms p x) = findM id ms := by
  rw [find_split id ms p]
  unfold insL findM
  rw [List.find?_append, List.find?_cons, h]

/-- A new variable of four cells, behind a later step. -/
theorem var4 {w w' : World} {c0 c1 c2 c3 : Value} {t : TypeId} (hb : Below (w.alloc (.cells #[c0, c1, c2, c3] t)).heap.size (w.alloc (.cells #[c0, c1, c2, c3] t)) w') :
    w'.cell? ⟨w.heap.size, 0, none⟩ = some c0 ∧ w'.cell? ⟨w.heap.size, 1, none⟩ = some c1 ∧ w'.cell? ⟨w.heap.size, 2, none⟩ = some c2 ∧ w'.cell? ⟨w.heap.size, 3, none⟩ = some c3 :=
  ⟨hold hb (by simp), hold hb (by simp), hold hb (by simp), hold hb (by simp)⟩

theorem hold_alloc {w w' : World} {X : Obj} (hb : Below (w.alloc X).heap.size (w.alloc X) w') {b o : Nat} {v : Value} (h : w.cell? ⟨b, o, none⟩ = some v) : w'.cell? ⟨b, o, none⟩ = some v :=
  hold hb (hold ((Below.refl _ _).alloc (Nat.le_refl _) X) h)

set_option maxHeartbeats 4000000 in
set_option maxRecDepth 100000 in
theorem ins_walk (v l : Int) (a : Option Addr) (n cap : Nat) (ms : List Mem) (x : Mem) (p : Int) (id : ByteArray) (w : World) (hr : Row w a n ms) :
    Calls Try.prog 3 #[.int .u64 v, .int .u64 l, .slice a n cap, x.val, .int .i64 p, .string id] w fun e w' => e = .returned (.bool true) ∧ Below w.heap.size w w' := by
  have HR : Hid (Row w a n ms) := hr
  clear hr
  obtain ⟨x0, xa, x1, x2⟩ := x
  simp only [Mem.val]
  go_enter Try.func3, Try.ntmps3
  go_wp2_with fail
  have HB0 : Hid (Below w.heap.size w (w.alloc (.cells #[.string x0, .int .u64 xa, .string x1, .string x2] 25))) := (Below.refl _ _).alloc (Nat.le_refl _) _
  refine (bytesIns_any v l p a n cap ⟨x0, xa, x1, x2⟩ id ms _ (HR.out.keep HB0.out)).mono ?_
  rintro e w1 ⟨⟨r, rfl, hfit⟩, hb1⟩
  have HX1 : Hid (At4 w1 w.heap.size ⟨x0, xa, x1, x2⟩) := At4.keep (w := w.alloc (.cells #[.string x0, .int .u64 xa, .string x1, .string x2] 25)) ⟨by simp, by simp, by simp, by simp⟩ hb1
  have HB1 : Hid (Below w.heap.size w w1) := HB0.out.trans (hb1.mono HB0.out.size)
  clear hb1 HB0
  obtain ⟨q0, q1, q2, q3⟩ := HX1.out
  simp only at q0 q1 q2 q3
  have zX := HX1.out.lt
  cases r with
  | false =>
    go_wp2_with fail
    go_ret
    exact ⟨rfl, HB1.out⟩
  | true =>
  have hN := hfit rfl
  clear hfit
  go_wp2_with fail
  refine (within_any a n cap _ _ _ _ ms _ (HR.out.keep HB1.out) hN).mono ?_
  rintro e w2 ⟨⟨r, rfl⟩, hb2⟩
  have HX2 : Hid (At4 w2 w.heap.size ⟨x0, xa, x1, x2⟩) := HX1.out.keep hb2
  have HB2 : Hid (Below w.heap.size w w2) := HB1.out.trans (hb2.mono HB1.out.size)
  clear hb2 q0 q1 q2 q3 zX HX1 HB1
  cases r with
  | false =>
    go_wp2_with fail
    go_ret
    exact ⟨rfl, HB2.out⟩
  | true =>
  by_cases hc0 : p < 0
  · go_wp2_with fail
    go_ret
    exact ⟨rfl, HB2.out⟩
  by_cases hcn : (n : Int) < p
  · go_wp2_with fail
    go_ret
    exact ⟨rfl, HB2.out⟩
  obtain ⟨p, rfl⟩ := Int.eq_ofNat_of_zero_le (Int.not_lt.1 hc0)
  have hpn : p ≤ n := by omega
  go_wp2_with fail
  refine (members_any a n cap ms _ (HR.out.keep HB2.out) hN).mono ?_
  rintro e w3 ⟨a3, c3, rfl, hr3, hb3⟩
  have HR3 : Hid (Row w3 a3 n ms) := hr3
  have HX3 : Hid (At4 w3 w.heap.size ⟨x0, xa, x1, x2⟩) := HX2.out.keep hb3
  have HB3 : Hid (Below w.heap.size w w3) := HB2.out.trans (hb3.mono HB2.out.size)
  clear hr3 hb3 HB2 HR HX2
  obtain ⟨q0, q1, q2, q3⟩ := HX3.out
  simp only at q0 q1 q2 q3
  go_wp2_with fail
  refine (member_x x0 xa x1 x2 _).mono ?_
  rintro e w4 ⟨rfl, hb4⟩
  have HR4 : Hid (Row w4 a3 n ms) := HR3.out.keep hb4
  have HX4 : Hid (At4 w4 w.heap.size ⟨x0, xa, x1, x2⟩) := HX3.out.keep hb4
  have HB4 : Hid (Below w.heap.size w w4) := HB3.out.trans (hb4.mono HB3.out.size)
  clear hb4 HB3 HR3 HX3 q0 q1 q2 q3
  obtain ⟨C, hC, hmk⟩ := make_room n hN
  have HC : Hid (C.size = (n + 1) * 4) := hC
  clear hC
  go_wp2_with fail
  clear hmk
  have hY : At4 (w4.alloc (.cells #[.string x0, .int .u64 xa, .string x1, .string x2] 30)) w4.heap.size ⟨x0, xa, x1, x2⟩ := ⟨by simp, by simp, by simp, by simp⟩
  have hgs : (w4.alloc (.cells #[.string x0, .int .u64 xa, .string x1, .string x2] 30)).heap.size = w4.heap.size + 1 := by simp
  have HR5 : Hid (Row (w4.alloc (.cells #[.string x0, .int .u64 xa, .string x1, .string x2] 30)) a3 n ms) := HR4.out.keep ((Below.refl _ _).alloc (Nat.le_refl _) _)
  have HX5 : Hid (At4 (w4.alloc (.cells #[.string x0, .int .u64 xa, .string x1, .string x2] 30)) w.heap.size ⟨x0, xa, x1, x2⟩) := HX4.out.alloc _
  have HB5 : Hid (Below w.heap.size w (w4.alloc (.cells #[.string x0, .int .u64 xa, .string x1, .string x2] 30))) := HB4.out.alloc HB4.out.size _
  have HO5 : Hid (Owns ((w4.alloc (.cells #[.string x0, .int .u64 xa, .string x1, .string x2] 30)).alloc (.cells C 30)) (w4.heap.size + 1) 0 (n + 1) []) := by
    have q := Owns.new (w4.alloc (.cells #[.string x0, .int .u64 xa, .string x1, .string x2] 30)) C (n + 1) (by omega) HC.out
    rw [hgs] at q
    exact q
  have HY5 : Hid (At4 (w4.alloc (.cells #[.string x0, .int .u64 xa, .string x1, .string x2] 30)) w4.heap.size ⟨x0, xa, x1, x2⟩) := hY
  clear hY HR4 HX4 HB4 HC
  generalize hw5 : w4.alloc (.cells #[.string x0, .int .u64 xa, .string x1, .string x2] 30) = w5 at *
  clear hw5
  generalize w4.heap.size = Y at *
  have HG : Hid (w5.heap.size = Y + 1) := hgs
  clear hgs w4
  go_loopw [15, 16] (fun s i wr => ∃ k : Nat, k ≤ p ∧ i = .int .i64 k ∧ s = .slice (some ⟨Y + 1, 0, none⟩) k (n + 1) ∧ Below w5.heap.size w5 wr ∧ Owns wr (Y + 1) k (n + 1) (ms.take k)) (fun _ i _ => p - (intOf i).toNat)
  case atStart => exact ⟨0, Nat.zero_le _, rfl, rfl, (Below.refl _ _).alloc (Nat.le_refl _) _, HO5.out⟩
  case round =>
    obtain ⟨k, hk, rfl, rfl, hbel, hown⟩ := hrel
    clear HO5
    by_cases hlt : k < p
    · obtain ⟨hn, h0 | ⟨b, off, rfl, hb, hl⟩⟩ := HR5.out
      · omega
      obtain ⟨⟨s0, ag, s1, s2⟩, hm⟩ : ∃ m, ms[k]? = some m := ⟨ms[k]'(by omega), List.getElem?_eq_getElem _⟩
      obtain ⟨c0, c1, c2, c3⟩ := hl k _ hm
      simp only at c0 c1 c2 c3
      have hcell : ∀ o, wr.cell? ⟨b, o, none⟩ = w5.cell? ⟨b, o, none⟩ := fun o => hbel.cell (p := ⟨b, o, none⟩) hb
      have d0 : wr.cell? ⟨b, off + k * 4, none⟩ = some (.string s0) := (hcell _).trans c0
      have d1 : wr.cell? ⟨b, off + k * 4 + 1, none⟩ = some (.int .u64 ag) := (hcell _).trans c1
      have d2 : wr.cell? ⟨b, off + k * 4 + 2, none⟩ = some (.string s1) := (hcell _).trans c2
      have d3 : wr.cell? ⟨b, off + k * 4 + 3, none⟩ = some (.string s2) := (hcell _).trans c3
      have HM : Hid (ms[k]? = some ⟨s0, ag, s1, s2⟩) := hm
      have HO : Hid (Owns wr (Y + 1) k (n + 1) (ms.take k)) := hown
      have HB : Hid (Below w5.heap.size w5 wr) := hbel
      have hkn : (k : Int) < (n : Int) := by omega
      clear hcell c0 c1 c2 c3 hl hm hn hown hbel
      go_wp2_with (at_builtin; refine append_mem _ rfl (.tmp 70) (.tmp 75) rfl (Y + 1) k (n + 1) (ms.take k) rfl (HO.out.alloc _) wr.heap.size ⟨s0, ag, s1, s2⟩ rfl (by simp) (by simp) (by simp) (by simp) (by omega) ?_; intro w6 hown6 hgrow)
      go_roundw
      case rel =>
        refine ⟨k + 1, by omega, by go_num, rfl, ?_, ?_⟩
        · exact (HB.out.alloc HB.out.size _).grown hgrow (by have := HB.out.size; simp; omega) (fun q hq => by injection hq with hq; have := HG.out; omega)
        · rw [take_snoc HM.out]
          exact hown6
      case measure => simp [intOf]; omega
    · have hkp : k = p := by omega
      subst hkp
      obtain ⟨w6, rfl⟩ : ∃ w6, w6 = wr := ⟨wr, rfl⟩
      have HO6 : Hid (Owns w6 (Y + 1) k (n + 1) (ms.take k)) := hown
      have HB6 : Hid (Below w5.heap.size w5 w6) := hbel
      obtain ⟨y0, y1, y2, y3⟩ := HY5.out.keep hbel
      simp only at y0 y1 y2 y3
      clear hown hbel hk hlt
      go_wp2_with (at_builtin; refine append_mem _ rfl (.tmp 77) (.tmp 79) rfl (Y + 1) k (n + 1) (ms.take k) rfl (HO6.out.alloc _) w6.heap.size ⟨x0, xa, x1, x2⟩ rfl (by simp) (by simp) (by simp) (by simp) (by omega) ?_; intro w7 hown7 hgrow7)
      have HO7 : Hid (Owns w7 (Y + 1) (k + 1) (n + 1) (ms.take k ++ [⟨x0, xa, x1, x2⟩])) := hown7
      have HB7 : Hid (Below w5.heap.size w5 w7) := (HB6.out.alloc HB6.out.size _).grown hgrow7 (by have := HB6.out.size; simp; omega) (fun q hq => by injection hq with hq; have := HG.out; omega)
      clear hown7 hgrow7 HO6 HB6 y0 y1 y2 y3
      go_loopw [15, 17] (fun s i wr => ∃ j : Nat, k ≤ j ∧ j ≤ n ∧ i = .int .i64 j ∧ s = .slice (some ⟨Y + 1, 0, none⟩) (j + 1) (n + 1) ∧ Below w5.heap.size w5 wr ∧ Owns wr (Y + 1) (j + 1) (n + 1) (ms.take k ++ ⟨x0, xa, x1, x2⟩ :: (ms.drop k).take (j - k))) (fun _ i _ => n - (intOf i).toNat)
      case atStart => exact ⟨k, Nat.le_refl _, hpn, rfl, rfl, HB7.out, by rw [Nat.sub_self]; exact HO7.out⟩
      case round =>
        obtain ⟨j, hkj, hj, rfl, rfl, hbel, hown⟩ := hrel
        clear HO7 HB7
        by_cases hlt : j < n
        · obtain ⟨hn, h0 | ⟨b, off, rfl, hb, hl⟩⟩ := HR5.out
          · omega
          obtain ⟨⟨s0, ag, s1, s2⟩, hm⟩ : ∃ m, ms[j]? = some m := ⟨ms[j]'(by omega), List.getElem?_eq_getElem _⟩
          obtain ⟨c0, c1, c2, c3⟩ := hl j _ hm
          simp only at c0 c1 c2 c3
          have hcell : ∀ o, wr.cell? ⟨b, o, none⟩ = w5.cell? ⟨b, o, none⟩ := fun o => hbel.cell (p := ⟨b, o, none⟩) hb
          have d0 : wr.cell? ⟨b, off + j * 4, none⟩ = some (.string s0) := (hcell _).trans c0
          have d1 : wr.cell? ⟨b, off + j * 4 + 1, none⟩ = some (.int .u64 ag) := (hcell _).trans c1
          have d2 : wr.cell? ⟨b, off + j * 4 + 2, none⟩ = some (.string s1) := (hcell _).trans c2
          have d3 : wr.cell? ⟨b, off + j * 4 + 3, none⟩ = some (.string s2) := (hcell _).trans c3
          have HM : Hid ((ms.drop k)[j - k]? = some ⟨s0, ag, s1, s2⟩) := by
            show (ms.drop k)[j - k]? = _
            rw [List.getElem?_drop, show k + (j - k) = j from by omega]; exact hm
          have HO : Hid (Owns wr (Y + 1) (j + 1) (n + 1) (ms.take k ++ ⟨x0, xa, x1, x2⟩ :: (ms.drop k).take (j - k))) := hown
          have HB : Hid (Below w5.heap.size w5 wr) := hbel
          have hjn : (j : Int) < (n : Int) := by omega
          clear hcell c0 c1 c2 c3 hl hm hn hown hbel
          go_wp2_with (at_builtin; refine append_mem _ rfl (.tmp 88) (.tmp 93) rfl (Y + 1) (j + 1) (n + 1) _ rfl (HO.out.alloc _) wr.heap.size ⟨s0, ag, s1, s2⟩ rfl (by simp) (by simp) (by simp) (by simp) (by omega) ?_; intro w8 hown8 hgrow8)
          go_roundw
          case rel =>
            refine ⟨j + 1, by omega, by omega, by go_num, rfl, ?_, ?_⟩
            · exact (HB.out.alloc HB.out.size _).grown hgrow8 (by have := HB.out.size; simp; omega) (fun q hq => by injection hq with hq; have := HG.out; omega)
            · rw [show j + 1 - k = j - k + 1 from by omega, take_snoc HM.out]
              simpa using hown8
          case measure => simp [intOf]; omega
        · obtain ⟨w8, rfl⟩ : ∃ w8, w8 = wr := ⟨wr, rfl⟩
          have hjn : j = n := by omega
          subst hjn
          have HO8 : Hid (Owns w8 (Y + 1) (j + 1) (j + 1) (insL ms k ⟨x0, xa, x1, x2⟩)) := by
            have e2 : (ms.drop k).take (j - k) = ms.drop k := List.take_of_length_le (by have := HR5.out.1; simp; omega)
            rw [e2] at hown
            exact hown
          have HB8 : Hid (Below w5.heap.size w5 w8) := hbel
          clear hbel hown hlt hkj hj
          obtain ⟨D, hD, hmk⟩ := make_any k (by omega)
          have HD : Hid (D.size = k * 4) := hD
          clear hD
          go_wp2_with fail
          clear hmk
          go_loopw [19] (fun i wr => ∃ q : Nat, q ≤ k ∧ i = .int .i64 q ∧ Below w8.heap.size w8 wr ∧ Filled wr w8.heap.size k (ms.take q)) (fun i _ => k - (intOf i).toNat)
          case atStart => exact ⟨0, Nat.zero_le _, rfl, (Below.refl _ _).alloc (Nat.le_refl _) _, Filled.new w8 D 30 rfl HD.out⟩
          case round =>
            obtain ⟨q, hq, rfl, hbel, hfil⟩ := hrel
            by_cases hlt : q < k
            · obtain ⟨hn, h0 | ⟨b, off, rfl, hb, hl⟩⟩ := HR5.out.keep HB8.out
              · omega
              obtain ⟨⟨s0, ag, s1, s2⟩, hm⟩ : ∃ m, ms[q]? = some m := ⟨ms[q]'(by omega), List.getElem?_eq_getElem _⟩
              obtain ⟨c0, c1, c2, c3⟩ := hl q _ hm
              simp only at c0 c1 c2 c3
              have hcell : ∀ o, wr.cell? ⟨b, o, none⟩ = w8.cell? ⟨b, o, none⟩ := fun o => hbel.cell (p := ⟨b, o, none⟩) hb
              have d0 : wr.cell? ⟨b, off + q * 4, none⟩ = some (.string s0) := (hcell _).trans c0
              have d1 : wr.cell? ⟨b, off + q * 4 + 1, none⟩ = some (.int .u64 ag) := (hcell _).trans c1
              have d2 : wr.cell? ⟨b, off + q * 4 + 2, none⟩ = some (.string s1) := (hcell _).trans c2
              have d3 : wr.cell? ⟨b, off + q * 4 + 3, none⟩ = some (.string s2) := (hcell _).trans c3
              have HM : Hid (ms[q]? = some ⟨s0, ag, s1, s2⟩) := hm
              obtain ⟨v0, e0⟩ := hfil.2.2.1 (q * 4) (by omega)
              obtain ⟨v1, e1⟩ := hfil.2.2.1 (q * 4 + 1) (by omega)
              obtain ⟨v2, e2⟩ := hfil.2.2.1 (q * 4 + 2) (by omega)
              obtain ⟨v3, e3⟩ := hfil.2.2.1 (q * 4 + 3) (by omega)
              have f0 := hfil.2.1 (q * 4)
              have f1 := hfil.2.1 (q * 4 + 1)
              have f2 := hfil.2.1 (q * 4 + 2)
              have f3 := hfil.2.1 (q * 4 + 3)
              have HF : Hid (Filled wr w8.heap.size k (ms.take q)) := hfil
              have HB : Hid (Below w8.heap.size w8 wr) := hbel
              have hkn : (q : Int) < (j : Int) := by omega
              clear hcell c0 c1 c2 c3 hl hm hn hfil hbel
              go_wp2_with fail
              go_roundw
              case rel =>
                refine ⟨q + 1, by omega, by go_num, ?_, ?_⟩
                · exact (((HB.out.setCell (by simp) _).setCell (by simp) _).setCell (by simp) _).setCell (by simp) _
                · have qq := Filled.step HF.out HM.out hlt
                  simp only [put4] at qq
                  exact qq
              case measure => simp [intOf]; omega
            · obtain ⟨w9, rfl⟩ : ∃ w9, w9 = wr := ⟨wr, rfl⟩
              have hqk : q = k := by omega
              subst hqk
              have hrow : Row w9 (some ⟨w8.heap.size, 0, none⟩) q (ms.take q) := by
                have r1 := hfil.row
                have e1 : (ms.take q).length = q := by have := HR5.out.1; simp; omega
                rwa [e1] at r1
              have HE : Hid ((Row w9 a3 j ms ∧ Row w9 (some ⟨Y + 1, 0, none⟩) (j + 1) (insL ms q ⟨x0, xa, x1, x2⟩) ∧ Row w9 (some ⟨w8.heap.size, 0, none⟩) q (ms.take q)) ∧ (At4 w9 w.heap.size ⟨x0, xa, x1, x2⟩ ∧ At4 w9 Y ⟨x0, xa, x1, x2⟩)) :=
                ⟨⟨(HR5.out.keep HB8.out).keep hbel, HO8.out.row.keep hbel, hrow⟩, (HX5.out.keep HB8.out).keep hbel, (HY5.out.keep HB8.out).keep hbel⟩
              have HB9 : Hid (Below w.heap.size w w9) := (HB5.out.trans (HB8.out.mono HB5.out.size)).trans (hbel.mono (Nat.le_trans HB5.out.size HB8.out.size))
              obtain ⟨u0, _, _, _⟩ := HE.out.2.1
              simp only at u0
              have zu : w.heap.size < w9.heap.size := HE.out.2.1.lt
              have zu1 : w.heap.size < w9.heap.size + 1 := by omega
              have zu2 : w.heap.size < w9.heap.size + 1 + 1 := by omega
              clear hbel hfil HD HO8 HB8 HR5 hrow hlt hq HX5 HY5 HB5 HG
              go_wp2_with fail
              clear u0 zu zu1 zu2
              have hE := EnvI.boxed (v := v) (l := l) (c := c3) HE.out
              clear HE
              obtain ⟨W, hW⟩ : ∃ W, W = (((w9.alloc (.cells #[.int .u64 v, .int .u64 l, .slice a3 j c3] 33)).alloc (.cells #[.int .u64 v, .int .u64 l, .slice (some ⟨Y + 1, 0, none⟩) (j + 1) (j + 1)] 33)).alloc (.cells #[.int .u64 v, .int .u64 l, .slice (some ⟨w8.heap.size, 0, none⟩) q q] 33)) := ⟨_, rfl⟩
              have HBW : Hid (Below w.heap.size w W) := by
                rw [hW]
                exact ((HB9.out.alloc HB9.out.size _).alloc (by have := HB9.out.size; simp; omega) _).alloc (by have := HB9.out.size; simp; omega) _
              rw [← hW] at hE ⊢
              clear hW HB9
              generalize w9.heap.size = B at hE ⊢
              cases hfp : findM x0 (ms.take q) with
              | some pm =>
                obtain ⟨p0, pa, p1, p2⟩ := pm
                have hW := insL_hit (x := ⟨x0, xa, x1, x2⟩) hfp
                have hP := ans_some hfp
                have AW : Hid (ans (findM x0 (insL ms q ⟨x0, xa, x1, x2⟩)) = _) := hW
                have AP : Hid (ans (findM x0 (ms.take q)) = _) := hP
                clear hW hP hfp
                refine (byID_at _ (j + 1) (j + 1) v l x0 (insL ms q ⟨x0, xa, x1, x2⟩) _ hE.1.2.1 (by omega) p0 pa p1 p2 true AW.out).mono ?_
                rintro e w10 ⟨rfl, hb10⟩
                have hE10 := hE.keep hb10
                have HB10 : Hid (Below w.heap.size w w10) := HBW.out.trans (hb10.mono HBW.out.size)
                obtain ⟨b0, b1, b2⟩ := hE10.2.2.2.2.2
                have z1 : B + 1 + 1 < w10.heap.size := by have := hE10.2.2.1; omega
                obtain ⟨u0, _, _, _⟩ := hE10.2.1.1
                simp only at u0
                have zu : w.heap.size < w10.heap.size := hE10.2.1.1.lt
                have HE10 : Hid (EnvI v l B a3 j c3 (Y + 1) w8.heap.size q ms ⟨x0, xa, x1, x2⟩ w.heap.size Y w10) := hE10
                clear hb10 hE HBW hE10
                go_wp2_with fail
                clear b0 b1 b2 u0 zu
                refine (byID_at _ q q v l x0 (ms.take q) _ (HE10.out.alloc _).1.2.2 (by omega) p0 pa p1 p2 true AP.out).mono ?_
                rintro e w11 ⟨rfl, hb11⟩
                have hE11 := (HE10.out.alloc _).keep hb11
                have HB11 : Hid (Below w.heap.size w w11) := (HB10.out.alloc HB10.out.size _).trans (hb11.mono (by have := HB10.out.size; simp; omega))
                obtain ⟨i0, i1, i2, i3⟩ := var4 hb11
                have z10 : w10.heap.size < w11.heap.size := by have := hb11.size; simp at this; omega
                obtain ⟨u0, _, _, _⟩ := hE11.2.1.1
                obtain ⟨y0, y1, y2, y3⟩ := hE11.2.1.2
                simp only at u0 y0 y1 y2 y3
                have zu : w.heap.size < w11.heap.size := hE11.2.1.1.lt
                have zy : Y < w11.heap.size := hE11.2.1.2.lt
                obtain ⟨b0, b1, b2⟩ := hE11.2.2.2.2.1
                have z2 : B + 1 < w11.heap.size := by have := hE11.2.2.1; omega
                have HE11 : Hid (EnvI v l B a3 j c3 (Y + 1) w8.heap.size q ms ⟨x0, xa, x1, x2⟩ w.heap.size Y w11) := hE11
                clear hb11 HE10 hE11 HB10 z1 AW AP
                by_cases hid : (id.toList == x0.toList) = true
                · go_wp2_with fail
                  go_ret
                  exact ⟨rfl, HB11.out.alloc HB11.out.size _⟩
                · have hid' : (id.toList == x0.toList) = false := by simpa using hid
                  clear hid
                  obtain ⟨⟨⟨s0, sa, s1, s2⟩, sq⟩, hS⟩ : ∃ x, ans (findM id ms) = x := ⟨_, rfl⟩
                  have AS : Hid (ans (findM id ms) = (⟨s0, sa, s1, s2⟩, sq)) := hS
                  have AN : Hid (ans (findM id (insL ms q ⟨x0, xa, x1, x2⟩)) = (⟨s0, sa, s1, s2⟩, sq)) := by
                    have e := insL_other (x := ⟨x0, xa, x1, x2⟩) (ms := ms) (p := q) (id := id) (by simp only; rw [Bool.beq_comm]; exact hid')
                    show ans _ = _
                    rw [e]; exact hS
                  clear hS
                  go_wp2_with fail
                  clear i0 i1 i2 i3 y0 y1 y2 y3 u0 b0 b1 b2 z2 z10 zu zy
                  refine (byID_at _ (j + 1) (j + 1) v l id (insL ms q ⟨x0, xa, x1, x2⟩) _ (HE11.out.alloc _).1.2.1 (by omega) s0 sa s1 s2 sq AN.out).mono ?_
                  rintro e w12 ⟨rfl, hb12⟩
                  have hE12 := (HE11.out.alloc _).keep hb12
                  have HB12 : Hid (Below w.heap.size w w12) := (HB11.out.alloc HB11.out.size _).trans (hb12.mono (by have := HB11.out.size; simp; omega))
                  obtain ⟨b0, b1, b2⟩ := hE12.2.2.2.1
                  have z2 : B < w12.heap.size := by have := hE12.2.2.1; omega
                  have HE12 : Hid (EnvI v l B a3 j c3 (Y + 1) w8.heap.size q ms ⟨x0, xa, x1, x2⟩ w.heap.size Y w12) := hE12
                  clear hb12 HE11 hE12 HB11
                  go_wp2_with fail
                  clear b0 b1 b2 z2
                  refine (byID_at _ j c3 v l id ms _ (HE12.out.alloc _).1.1 (by omega) s0 sa s1 s2 sq AS.out).mono ?_
                  rintro e w13 ⟨rfl, hb13⟩
                  have HB13 : Hid (Below w.heap.size w w13) := (HB12.out.alloc HB12.out.size _).trans (hb13.mono (by have := HB12.out.size; simp; omega))
                  obtain ⟨i0, i1, i2, i3⟩ := var4 hb13
                  have z12 : w12.heap.size < w13.heap.size := by have := hb13.size; simp at this; omega
                  clear hb13 HE12 HB12 AS AN
                  go_wp2_with fail
                  go_ret
                  exact ⟨rfl, HB13.out.alloc HB13.out.size _⟩
              | none =>
                have hW := insL_miss (x := ⟨x0, xa, x1, x2⟩) hfp
                have hP := ans_none hfp
                have AW : Hid (ans (findM x0 (insL ms q ⟨x0, xa, x1, x2⟩)) = _) := hW
                have AP : Hid (ans (findM x0 (ms.take q)) = _) := hP
                clear hW hP hfp
                refine (byID_at _ (j + 1) (j + 1) v l x0 (insL ms q ⟨x0, xa, x1, x2⟩) _ hE.1.2.1 (by omega) x0 xa x1 x2 true AW.out).mono ?_
                rintro e w10 ⟨rfl, hb10⟩
                have hE10 := hE.keep hb10
                have HB10 : Hid (Below w.heap.size w w10) := HBW.out.trans (hb10.mono HBW.out.size)
                obtain ⟨b0, b1, b2⟩ := hE10.2.2.2.2.2
                have z1 : B + 1 + 1 < w10.heap.size := by have := hE10.2.2.1; omega
                obtain ⟨u0, _, _, _⟩ := hE10.2.1.1
                simp only at u0
                have zu : w.heap.size < w10.heap.size := hE10.2.1.1.lt
                have HE10 : Hid (EnvI v l B a3 j c3 (Y + 1) w8.heap.size q ms ⟨x0, xa, x1, x2⟩ w.heap.size Y w10) := hE10
                clear hb10 hE HBW hE10
                go_wp2_with fail
                clear b0 b1 b2 u0 zu
                refine (byID_at _ q q v l x0 (ms.take q) _ (HE10.out.alloc _).1.2.2 (by omega) ⟨#[]⟩ 0 ⟨#[]⟩ ⟨#[]⟩ false AP.out).mono ?_
                rintro e w11 ⟨rfl, hb11⟩
                have hE11 := (HE10.out.alloc _).keep hb11
                have HB11 : Hid (Below w.heap.size w w11) := (HB10.out.alloc HB10.out.size _).trans (hb11.mono (by have := HB10.out.size; simp; omega))
                obtain ⟨i0, i1, i2, i3⟩ := var4 hb11
                have z10 : w10.heap.size < w11.heap.size := by have := hb11.size; simp at this; omega
                obtain ⟨u0, _, _, _⟩ := hE11.2.1.1
                obtain ⟨y0, y1, y2, y3⟩ := hE11.2.1.2
                simp only at u0 y0 y1 y2 y3
                have zu : w.heap.size < w11.heap.size := hE11.2.1.1.lt
                have zy : Y < w11.heap.size := hE11.2.1.2.lt
                obtain ⟨b0, b1, b2⟩ := hE11.2.2.2.2.1
                have z2 : B + 1 < w11.heap.size := by have := hE11.2.2.1; omega
                have HE11 : Hid (EnvI v l B a3 j c3 (Y + 1) w8.heap.size q ms ⟨x0, xa, x1, x2⟩ w.heap.size Y w11) := hE11
                clear hb11 HE10 hE11 HB10 z1 AW AP
                by_cases hid : (id.toList == x0.toList) = true
                · go_wp2_with fail
                  go_ret
                  exact ⟨rfl, HB11.out.alloc HB11.out.size _⟩
                · have hid' : (id.toList == x0.toList) = false := by simpa using hid
                  clear hid
                  obtain ⟨⟨⟨s0, sa, s1, s2⟩, sq⟩, hS⟩ : ∃ x, ans (findM id ms) = x := ⟨_, rfl⟩
                  have AS : Hid (ans (findM id ms) = (⟨s0, sa, s1, s2⟩, sq)) := hS
                  have AN : Hid (ans (findM id (insL ms q ⟨x0, xa, x1, x2⟩)) = (⟨s0, sa, s1, s2⟩, sq)) := by
                    have e := insL_other (x := ⟨x0, xa, x1, x2⟩) (ms := ms) (p := q) (id := id) (by simp only; rw [Bool.beq_comm]; exact hid')
                    show ans _ = _
                    rw [e]; exact hS
                  clear hS
                  go_wp2_with fail
                  clear i0 i1 i2 i3 y0 y1 y2 y3 u0 b0 b1 b2 z2 z10 zu zy
                  refine (byID_at _ (j + 1) (j + 1) v l id (insL ms q ⟨x0, xa, x1, x2⟩) _ (HE11.out.alloc _).1.2.1 (by omega) s0 sa s1 s2 sq AN.out).mono ?_
                  rintro e w12 ⟨rfl, hb12⟩
                  have hE12 := (HE11.out.alloc _).keep hb12
                  have HB12 : Hid (Below w.heap.size w w12) := (HB11.out.alloc HB11.out.size _).trans (hb12.mono (by have := HB11.out.size; simp; omega))
                  obtain ⟨b0, b1, b2⟩ := hE12.2.2.2.1
                  have z2 : B < w12.heap.size := by have := hE12.2.2.1; omega
                  have HE12 : Hid (EnvI v l B a3 j c3 (Y + 1) w8.heap.size q ms ⟨x0, xa, x1, x2⟩ w.heap.size Y w12) := hE12
                  clear hb12 HE11 hE12 HB11
                  go_wp2_with fail
                  clear b0 b1 b2 z2
                  refine (byID_at _ j c3 v l id ms _ (HE12.out.alloc _).1.1 (by omega) s0 sa s1 s2 sq AS.out).mono ?_
                  rintro e w13 ⟨rfl, hb13⟩
                  have HB13 : Hid (Below w.heap.size w w13) := (HB12.out.alloc HB12.out.size _).trans (hb13.mono (by have := HB12.out.size; simp; omega))
                  obtain ⟨i0, i1, i2, i3⟩ := var4 hb13
                  have z12 : w12.heap.size < w13.heap.size := by have := hb13.size; simp at this; omega
                  clear hb13 HE12 HB12 AS AN
                  go_wp2_with fail
                  go_ret
                  exact ⟨rfl, HB13.out.alloc HB13.out.size _⟩

end Go.Proofs.Qxb6628533a
