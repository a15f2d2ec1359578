import Derived.Test.Qxb6628572aCut
namespace Go.Proofs.Qxb6628572a

def starts (r : List UInt8) : Prop := r = [] ∨ ∃ r', r = 47 :: r'

theorem split_slash : ∀ (x y r t : List UInt8), 47 ∉ x → 47 ∉ y → starts r → starts t → x ++ r = y ++ t → x = y ∧ r = t := by
  intro x
  induction x with
  | nil =>
    intro y r t hx hy hr ht h
    cases y with
    | nil => exact ⟨rfl, h⟩
    | cons c y =>
      rcases hr with rfl | ⟨r', rfl⟩
      · cases h
      · simp at h
        exact absurd (by rw [← h.1]; simp) hy
  | cons c x ih =>
    intro y r t hx hy hr ht h
    cases y with
    | nil =>
      rcases ht with rfl | ⟨t', rfl⟩
      · cases h
      · simp at h
        exact absurd (by rw [h.1]; simp) hx
    | cons d y =>
      simp only [List.cons_append, List.cons.injEq] at h
      obtain ⟨e1, e2⟩ := ih y r t (fun hm => hx (List.mem_cons_of_mem _ hm)) (fun hm => hy (List.mem_cons_of_mem _ hm)) hr ht h.2
      exact ⟨by rw [h.1, e1], e2⟩

theorem starts_flat (xs : List (List UInt8)) : starts (xs.flatMap fun x => 47 :: x) := by
  cases xs with
  | nil => exact .inl rfl
  | cons x xs => exact .inr ⟨x ++ xs.flatMap fun x => 47 :: x, by simp⟩

theorem flat_inj : ∀ (xs ys : List (List UInt8)), (∀ x ∈ xs, 47 ∉ x) → (∀ y ∈ ys, 47 ∉ y) → (xs.flatMap fun x => 47 :: x) = (ys.flatMap fun x => 47 :: x) → xs = ys := by
  intro xs
  induction xs with
  | nil =>
    intro ys _ _ h
    cases ys with
    | nil => rfl
    | cons y ys => simp at h
  | cons x xs ih =>
    intro ys hx hy h
    cases ys with
    | nil => simp at h
    | cons y ys =>
      simp only [List.flatMap_cons, List.cons_append, List.cons.injEq, true_and] at h
      obtain ⟨e1, e2⟩ := split_slash x y _ _ (hx x (by simp)) (hy y (by simp)) (starts_flat xs) (starts_flat ys) h
      rw [e1, ih ys (fun z hz => hx z (List.mem_cons_of_mem _ hz)) (fun z hz => hy z (List.mem_cons_of_mem _ hz)) e2]

/-- A text that is not empty and bears no slash. -/
def plainT (s : ByteArray) : Prop := s.size ≠ 0 ∧ 47 ∉ s.data.toList

theorem body_flat (ts : List ByteArray) : body ts = (ts.map (·.data.toList)).flatMap fun x => 47 :: x := by
  induction ts with
  | nil => rfl
  | cons s ts ih =>
    simp only [body, List.flatMap_cons, List.map_cons] at ih ⊢
    rw [ih]

theorem printed_inj {xa xb : List ByteArray} (ha : ∀ s ∈ xa, plainT s) (hb : ∀ s ∈ xb, plainT s) (h : printed xa = printed xb) : xa.map (·.data.toList) = xb.map (·.data.toList) := by
  have one : ∀ cs : List ByteArray, (∀ s ∈ cs, plainT s) → cs.length ≠ 0 → [47] ≠ body cs := by
    intro cs hc h0 he
    cases cs with
    | nil => exact h0 rfl
    | cons s cs =>
      have hs := (hc s (by simp)).1
      have hl := congrArg List.length he
      rw [body_length] at hl
      simp [total] at hl
      omega
  unfold printed at h
  split at h
  · rename_i h1
    obtain rfl := List.length_eq_zero_iff.1 h1
    split at h
    · rename_i h2
      obtain rfl := List.length_eq_zero_iff.1 h2
      rfl
    · rename_i h2
      exact absurd h (one xb hb h2)
  · rename_i h1
    split at h
    · exact absurd h.symm (one xa ha h1)
    · rw [body_flat, body_flat] at h
      refine flat_inj _ _ ?_ ?_ h
      · intro x hx
        obtain ⟨s, hs, rfl⟩ := List.mem_map.1 hx
        exact (ha s hs).2
      · intro x hx
        obtain ⟨s, hs, rfl⟩ := List.mem_map.1 hx
        exact (hb s hs).2

/-- What sameTexts answers. -/
def sameB (xa xb : List ByteArray) : Bool := xa.map ByteArray.toList == xb.map ByteArray.toList

theorem printed_of_data {xa xb : List ByteArray} (h : xa.map (·.data.toList) = xb.map (·.data.toList)) : printed xa = printed xb := by
  have hl : xa.length = xb.length := by simpa using congrArg List.length h
  unfold printed
  rw [hl, body_flat, body_flat, h]

theorem law_inj {xa xb : List ByteArray} (ha : ∀ s ∈ xa, plainT s) (hb : ∀ s ∈ xb, plainT s) : (((str xa).toList == (str xb).toList) != sameB xa xb) = false := by
  have e1 : xa.map ByteArray.toList = xa.map (·.data.toList) := List.map_congr_left fun s _ => ByteArray.toList_eq s
  have e2 : xb.map ByteArray.toList = xb.map (·.data.toList) := List.map_congr_left fun s _ => ByteArray.toList_eq s
  rw [bne_eq_false_iff_eq, Bool.eq_iff_iff]
  unfold sameB
  rw [beq_iff_eq, beq_iff_eq, e1, e2, ByteArray.toList_eq, ByteArray.toList_eq, str_data, str_data]
  exact ⟨printed_inj ha hb, printed_of_data⟩
end Go.Proofs.Qxb6628572a
