namespace Go.Proofs.Qxb6603280a
namespace Pl

/-- The count of a key: the first entry's, 0 where there is none. -/
def cnt : List (List UInt8 × Int) → List UInt8 → Int
  | [], _ => 0
  | e :: l, k => if e.1 = k then e.2 else cnt l k

/-- A sorted vector: keys strictly rising, counts above 0. -/
def Srt : List (List UInt8 × Int) → Prop
  | [] => True
  | e :: l => 0 < e.2 ∧ (∀ x ∈ l, e.1 < x.1) ∧ Srt l

/-- 'somewhere a's count is below b's', over the keys of both. -/
def lss (a b : List (List UInt8 × Int)) : Bool :=
  a.any (fun e => decide (cnt a e.1 < cnt b e.1)) || b.any (fun e => decide (cnt a e.1 < cnt b e.1))

theorem lss_iff (a b : List (List UInt8 × Int)) : lss a b = true ↔ ∃ k, (k ∈ a.map Prod.fst ∨ k ∈ b.map Prod.fst) ∧ cnt a k < cnt b k := by
  unfold lss
  simp only [Bool.or_eq_true, List.any_eq_true, decide_eq_true_eq, List.mem_map]
  constructor
  · rintro (⟨x, hx, h⟩ | ⟨x, hx, h⟩)
    · exact ⟨x.1, .inl ⟨x, hx, rfl⟩, h⟩
    · exact ⟨x.1, .inr ⟨x, hx, rfl⟩, h⟩
  · rintro ⟨k, (⟨x, hx, rfl⟩ | ⟨x, hx, rfl⟩), h⟩
    · exact .inl ⟨x, hx, h⟩
    · exact .inr ⟨x, hx, h⟩

theorem cnt_none : ∀ (l : List (List UInt8 × Int)) (k : List UInt8), (∀ x ∈ l, x.1 ≠ k) → cnt l k = 0
  | [], _, _ => rfl
  | e :: l, k, h => by
    rw [cnt, if_neg (h e (by simp))]
    exact cnt_none l k (fun x hx => h x (by simp [hx]))

theorem cnt_nonneg : ∀ (l : List (List UInt8 × Int)) (k : List UInt8), Srt l → 0 ≤ cnt l k
  | [], _, _ => Int.le_refl 0
  | e :: l, k, h => by
    rw [cnt]
    split
    · exact Int.le_of_lt h.1
    · exact cnt_nonneg l k h.2.2

/-- A key that is found is one of the list's. -/
theorem mem_of_pos (l : List (List UInt8 × Int)) (k : List UInt8) (h : 0 < cnt l k) : k ∈ l.map Prod.fst := by
  by_cases hk : k ∈ l.map Prod.fst
  · exact hk
  · rw [cnt_none l k (fun x hx e => hk (List.mem_map.2 ⟨x, hx, e⟩))] at h
    omega

/-- Under 'sorted', 'lss' is: some key at all. -/
theorem lss_any (a b : List (List UInt8 × Int)) (ha : Srt a) : lss a b = true ↔ ∃ k, cnt a k < cnt b k := by
  rw [lss_iff]
  constructor
  · rintro ⟨k, _, h⟩; exact ⟨k, h⟩
  · rintro ⟨k, h⟩
    have := cnt_nonneg a k ha
    exact ⟨k, .inr (mem_of_pos b k (by omega)), h⟩

theorem lt_irr (a : List UInt8) : ¬ a < a := List.lt_irrefl a
theorem lt_ne {a b : List UInt8} (h : a < b) : a ≠ b := by rintro rfl; exact lt_irr a h
theorem lt_tr {a b c : List UInt8} (h : a < b) (h' : b < c) : a < c := List.lt_trans h h'

/-- a's head alone (b has no entry of its key). -/
theorem head_alone (x : List UInt8 × Int) (a b : List (List UInt8 × Int)) (ha : Srt (x :: a)) (hb : Srt b) (hx : ∀ y ∈ b, x.1 < y.1) :
    lss (x :: a) b = lss a b ∧ lss b (x :: a) = true := by
  have hbx : cnt b x.1 = 0 := cnt_none b x.1 (fun y hy e => lt_ne (hx y hy) e.symm)
  have hax : cnt a x.1 = 0 := cnt_none a x.1 (fun y hy e => lt_ne (ha.2.1 y hy) e.symm)
  constructor
  · rw [Bool.eq_iff_iff, lss_any _ _ ha, lss_any _ _ ha.2.2]
    constructor
    · rintro ⟨k, h⟩
      refine ⟨k, ?_⟩
      rw [cnt] at h
      split at h
      · rename_i e; subst e; have := ha.1; omega
      · exact h
    · rintro ⟨k, h⟩
      refine ⟨k, ?_⟩
      rw [cnt]
      split
      · rename_i e; subst e; omega
      · exact h
  · rw [lss_any _ _ hb]
    exact ⟨x.1, by rw [hbx, cnt, if_pos rfl]; exact ha.1⟩

/-- Both heads bear one key. -/
theorem head_both (x y : List UInt8 × Int) (a b : List (List UInt8 × Int)) (ha : Srt (x :: a)) (hb : Srt (y :: b)) (hxy : x.1 = y.1) :
    lss (x :: a) (y :: b) = (decide (x.2 < y.2) || lss a b) := by
  have hax : cnt a x.1 = 0 := cnt_none a x.1 (fun z hz e => lt_ne (ha.2.1 z hz) e.symm)
  have hbx : cnt b y.1 = 0 := cnt_none b y.1 (fun z hz e => lt_ne (hb.2.1 z hz) e.symm)
  rw [Bool.eq_iff_iff, lss_any _ _ ha, Bool.or_eq_true, lss_any _ _ ha.2.2, decide_eq_true_eq]
  constructor
  · rintro ⟨k, h⟩
    by_cases e : x.1 = k
    · rw [cnt, if_pos e, cnt, if_pos (hxy ▸ e)] at h; exact .inl h
    · rw [cnt, if_neg e, cnt, if_neg (hxy ▸ e)] at h; exact .inr ⟨k, h⟩
  · rintro (h | ⟨k, h⟩)
    · exact ⟨x.1, by rw [cnt, if_pos rfl, cnt, if_pos hxy.symm]; exact h⟩
    · refine ⟨k, ?_⟩
      by_cases e : x.1 = k
      · have e' : y.1 = k := hxy ▸ e
        rw [← e, hax, e, ← e', hbx] at h; omega
      · rw [cnt, if_neg e, cnt, if_neg (hxy ▸ e)]; exact h

theorem lss_nil : lss [] [] = false := rfl

/-- Found in its own list. -/
theorem cnt_mem : ∀ (l : List (List UInt8 × Int)) (e : List UInt8 × Int), Srt l → e ∈ l → cnt l e.1 = e.2
  | x :: l, e, h, he => by
    rw [cnt]
    rcases List.mem_cons.1 he with rfl | he'
    · rw [if_pos rfl]
    · rw [if_neg (lt_ne (h.2.1 e he'))]; exact cnt_mem l e h.2.2 he'

/-- What the model's two loops find. -/
def over1 (a b : List (List UInt8 × Int)) : Bool := a.any fun e => decide (cnt b e.1 < e.2)
def under1 (a b : List (List UInt8 × Int)) : Bool := a.any fun e => decide (e.2 < cnt b e.1)

theorem any_cong {α : Type} (l : List α) (p q : α → Bool) (h : ∀ x ∈ l, p x = q x) : l.any p = l.any q := by
  induction l with
  | nil => rfl
  | cons a l ih => rw [List.any_cons, List.any_cons, h a (by simp), ih (fun x hx => h x (by simp [hx]))]

theorem lss_split (a b : List (List UInt8 × Int)) (ha : Srt a) (hb : Srt b) : lss a b = (under1 a b || over1 b a) := by
  unfold lss under1 over1
  rw [any_cong a (fun e => decide (cnt a e.1 < cnt b e.1)) (fun e => decide (e.2 < cnt b e.1)) (fun e he => by rw [cnt_mem a e ha he]),
      any_cong b (fun e => decide (cnt a e.1 < cnt b e.1)) (fun e => decide (cnt a e.1 < e.2)) (fun e he => by rw [cnt_mem b e hb he])]

end Pl
end Go.Proofs.Qxb6603280a
