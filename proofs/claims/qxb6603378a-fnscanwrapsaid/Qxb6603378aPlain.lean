namespace Go.Proofs.Qxb6603378a
namespace Pl

/-- Add n to what is found. -/
def up (n : Nat) : Option (Nat × Nat) → Option (Nat × Nat)
  | none => none
  | some x => some (x.1 + n, x.2)
theorem up_up (a b : Nat) (o : Option (Nat × Nat)) : up a (up b o) = up (b + a) o := by
  cases o with
  | none => rfl
  | some x => simp only [up]; rw [Nat.add_assoc]
theorem up_zero (o : Option (Nat × Nat)) : up 0 o = o := by cases o <;> rfl

/-- How many bytes up to and with the quote that ends a string; 'e': the next byte is escaped. -/
def mEnd : Bool → List Int → Option Nat
  | _, [] => none
  | true, _ :: r => (mEnd false r).map (· + 1)
  | false, c :: r => if c = 34 then some 1 else (mEnd (decide (c = 92)) r).map (· + 1)

def opens (c : Int) : Bool := c == 91 || c == 123
def shuts (c : Int) : Bool := c == 93 || c == 125

/-- 'scan''s loop as a machine over bytes: m = 0: outside of a string; 1: inside; 2: inside, the next byte is escaped. -/
def scn : Nat → List Int → Nat → Nat → Option (Nat × Nat)
  | _, [], _, _ => none
  | 0, c :: r, o, d => if c = 34 then up 1 (scn 1 r o d) else if opens c = true then up 1 (scn 0 r (o + 1) (max d (o + 1)))
      else if shuts c = true then (if o = 1 then some (1, d) else up 1 (scn 0 r (o - 1) d)) else up 1 (scn 0 r o d)
  | 1, c :: r, o, d => if c = 34 then up 1 (scn 0 r o d) else if c = 92 then up 1 (scn 2 r o d) else up 1 (scn 1 r o d)
  | _ + 2, _ :: r, o, d => up 1 (scn 1 r o d)

theorem scn_str : ∀ (r : List Int) (e : Bool) (m o d : Nat), mEnd e r = some m → scn (if e then 2 else 1) r o d = up m (scn 0 (r.drop m) o d)
  | [], e, m, o, d, h => by cases e <;> simp [mEnd] at h
  | c :: r, true, m, o, d, h => by
    simp only [mEnd, Option.map_eq_some_iff] at h
    obtain ⟨n, hn, rfl⟩ := h
    have := scn_str r false n o d hn
    simp only [if_true, scn]
    simp only [Bool.false_eq_true, if_false] at this
    rw [this, up_up, List.drop_succ_cons]
  | c :: r, false, m, o, d, h => by
    simp only [mEnd] at h
    simp only [Bool.false_eq_true, if_false, scn]
    by_cases h34 : c = 34
    · rw [if_pos h34] at h ⊢
      obtain rfl : 1 = m := by simpa using h
      rfl
    · rw [if_neg h34] at h ⊢
      simp only [Option.map_eq_some_iff] at h
      obtain ⟨n, hn, rfl⟩ := h
      have := scn_str r _ n o d hn
      rw [List.drop_succ_cons, ← up_up, ← this]
      by_cases h92 : c = 92
      · simp [h92]
      · simp [h92]

/-- The wrap: what is found, one level deeper, with anything behind it. -/
theorem scn_wrap : ∀ (r : List Int) (m o d e x : Nat) (s : List Int), 1 ≤ o → scn m r o d = some (e, x) → e ≤ r.length ∧ scn m (r.take e ++ s) (o + 1) (d + 1) = up e (scn 0 s 1 (x + 1))
  | [], m, o, d, e, x, s, _, h => by
    match m with
    | 0 => simp [scn] at h
    | 1 => simp [scn] at h
    | _ + 2 => simp [scn] at h
  | c :: r, 0, o, d, e, x, s, ho, h => by
    simp only [scn] at h
    have key : ∀ (m' o' d' : Nat), 1 ≤ o' → up 1 (scn m' r o' d') = some (e, x) →
        ∃ n, e = n + 1 ∧ n ≤ r.length ∧ scn m' (r.take n ++ s) (o' + 1) (d' + 1) = up n (scn 0 s 1 (x + 1)) := by
      intro m' o' d' ho' h'
      cases hs : scn m' r o' d' with
      | none => rw [hs] at h'; simp [up] at h'
      | some y =>
        rw [hs] at h'
        simp only [up, Option.some.injEq, Prod.mk.injEq] at h'
        obtain ⟨h1, h2⟩ := h'
        have := scn_wrap r m' o' d' y.1 x s ho' (by rw [hs, ← h2])
        exact ⟨y.1, by omega, this.1, this.2⟩
    by_cases h34 : c = 34
    · rw [if_pos h34] at h
      obtain ⟨n, rfl, hn, hw⟩ := key 1 o d ho h
      refine ⟨by simp; omega, ?_⟩
      rw [List.take_succ_cons, List.cons_append, scn, if_pos h34, hw, up_up]
    · rw [if_neg h34] at h
      by_cases hop : opens c = true
      · rw [if_pos hop] at h
        obtain ⟨n, rfl, hn, hw⟩ := key 0 (o + 1) (max d (o + 1)) (by omega) h
        refine ⟨by simp; omega, ?_⟩
        rw [List.take_succ_cons, List.cons_append, scn, if_neg h34, if_pos hop]
        have e1 : max (d + 1) (o + 1 + 1) = max d (o + 1) + 1 := by omega
        rw [e1, hw, up_up]
      · rw [if_neg hop] at h
        by_cases hsh : shuts c = true
        · rw [if_pos hsh] at h
          by_cases ho1 : o = 1
          · rw [if_pos ho1] at h
            simp only [Option.some.injEq, Prod.mk.injEq] at h
            obtain ⟨rfl, rfl⟩ := h
            refine ⟨by simp, ?_⟩
            rw [List.take_succ_cons, List.cons_append, scn, if_neg h34, if_neg hop, if_pos hsh, if_neg (by omega), ho1]
            simp
          · rw [if_neg ho1] at h
            obtain ⟨n, rfl, hn, hw⟩ := key 0 (o - 1) d (by omega) h
            refine ⟨by simp; omega, ?_⟩
            rw [List.take_succ_cons, List.cons_append, scn, if_neg h34, if_neg hop, if_pos hsh, if_neg (by omega)]
            have e1 : o - 1 + 1 = o + 1 - 1 := by omega
            rw [← e1, hw, up_up]
        · rw [if_neg hsh] at h
          obtain ⟨n, rfl, hn, hw⟩ := key 0 o d ho h
          refine ⟨by simp; omega, ?_⟩
          rw [List.take_succ_cons, List.cons_append, scn, if_neg h34, if_neg hop, if_neg hsh, hw, up_up]
  | c :: r, 1, o, d, e, x, s, ho, h => by
    simp only [scn] at h
    have key : ∀ (m' : Nat), up 1 (scn m' r o d) = some (e, x) →
        ∃ n, e = n + 1 ∧ n ≤ r.length ∧ scn m' (r.take n ++ s) (o + 1) (d + 1) = up n (scn 0 s 1 (x + 1)) := by
      intro m' h'
      cases hs : scn m' r o d with
      | none => rw [hs] at h'; simp [up] at h'
      | some y =>
        rw [hs] at h'
        simp only [up, Option.some.injEq, Prod.mk.injEq] at h'
        obtain ⟨h1, h2⟩ := h'
        have := scn_wrap r m' o d y.1 x s ho (by rw [hs, ← h2])
        exact ⟨y.1, by omega, this.1, this.2⟩
    by_cases h34 : c = 34
    · rw [if_pos h34] at h
      obtain ⟨n, rfl, hn, hw⟩ := key 0 h
      refine ⟨by simp; omega, ?_⟩
      rw [List.take_succ_cons, List.cons_append, scn, if_pos h34, hw, up_up]
    · rw [if_neg h34] at h
      by_cases h92 : c = 92
      · rw [if_pos h92] at h
        obtain ⟨n, rfl, hn, hw⟩ := key 2 h
        refine ⟨by simp; omega, ?_⟩
        rw [List.take_succ_cons, List.cons_append, scn, if_neg h34, if_pos h92, hw, up_up]
      · rw [if_neg h92] at h
        obtain ⟨n, rfl, hn, hw⟩ := key 1 h
        refine ⟨by simp; omega, ?_⟩
        rw [List.take_succ_cons, List.cons_append, scn, if_neg h34, if_neg h92, hw, up_up]
  | c :: r, m + 2, o, d, e, x, s, ho, h => by
    simp only [scn] at h
    cases hs : scn 1 r o d with
    | none => rw [hs] at h; simp [up] at h
    | some y =>
      rw [hs] at h
      simp only [up, Option.some.injEq, Prod.mk.injEq] at h
      obtain ⟨h1, h2⟩ := h
      have := scn_wrap r 1 o d y.1 x s ho (by rw [hs, ← h2])
      subst h1
      refine ⟨by simp; omega, ?_⟩
      rw [List.take_succ_cons, List.cons_append, scn, this.2, up_up]

theorem mEnd_take : ∀ (r : List Int) (e : Bool) (m : Nat) (s : List Int), mEnd e r = some m → 1 ≤ m ∧ m ≤ r.length ∧ mEnd e (r.take m ++ s) = some m
  | [], e, m, s, h => by cases e <;> simp [mEnd] at h
  | c :: r, true, m, s, h => by
    simp only [mEnd, Option.map_eq_some_iff] at h
    obtain ⟨n, hn, rfl⟩ := h
    have := mEnd_take r false n s hn
    refine ⟨by omega, by simp; omega, ?_⟩
    rw [List.take_succ_cons, List.cons_append, mEnd, this.2.2]
    rfl
  | c :: r, false, m, s, h => by
    simp only [mEnd] at h
    by_cases h34 : c = 34
    · rw [if_pos h34] at h
      obtain rfl : 1 = m := by simpa using h
      refine ⟨by omega, by simp, ?_⟩
      rw [List.take_succ_cons, List.cons_append, mEnd, if_pos h34]
    · rw [if_neg h34] at h
      simp only [Option.map_eq_some_iff] at h
      obtain ⟨n, hn, rfl⟩ := h
      have := mEnd_take r _ n s hn
      refine ⟨by omega, by simp; omega, ?_⟩
      rw [List.take_succ_cons, List.cons_append, mEnd, if_neg h34, this.2.2]
      rfl

/-- A string inside a pair of brackets. -/
theorem wrap_str (r : List Int) (m : Nat) (c : Int) (hc : shuts c = true) (h34 : c ≠ 34) (hop : opens c = false) (h : mEnd false r = some m) : scn 0 (34 :: (r.take m ++ [c])) 1 1 = some (m + 2, 1) := by
  have h1 := mEnd_take r false m [c] h
  have h2 := scn_str (r.take m ++ [c]) false m 1 1 h1.2.2
  simp only [Bool.false_eq_true, if_false] at h2
  have hd : (r.take m ++ [c]).drop m = [c] := by
    rw [List.drop_append_of_le_length (by simp; omega)]
    simp
  rw [scn, if_pos rfl, h2, hd, scn, if_neg h34, if_neg (by simp [hop]), if_pos hc, if_pos rfl]
  simp only [up]
  rw [show 1 + m + 1 = m + 2 by omega]

/-- An array or object inside a pair of brackets: r is what stands behind its opener. -/
theorem wrap_box (r : List Int) (e x : Nat) (a c : Int) (ha : opens a = true) (ha34 : a ≠ 34) (hc : shuts c = true) (h34 : c ≠ 34) (hop : opens c = false) (h : scn 0 r 1 1 = some (e, x)) :
    scn 0 (a :: (r.take e ++ [c])) 1 1 = some (e + 2, x + 1) := by
  have h1 := scn_wrap r 0 1 1 e x [c] (Nat.le_refl _) h
  rw [scn, if_neg ha34, if_pos ha]
  have e1 : max 1 (1 + 1) = 1 + 1 := rfl
  rw [e1, h1.2, scn, if_neg h34, if_neg (by simp [hop]), if_pos hc, if_pos rfl]
  simp only [up]
  rw [show 1 + e + 1 = e + 2 by omega]

/-- Is the byte t behind b escaped? -/
def esc (z : List Int) (b : Nat) : Nat → Bool
  | 0 => false
  | t + 1 => (z.getD (b + t) 0 == 92) && !esc z b t

theorem esc_run_from (z : List Int) (b u : Nat) (h0 : esc z b u = false) : ∀ n, (∀ v, u ≤ v → v < u + n → z.getD (b + v) 0 = 92) → esc z b (u + n) = decide (n % 2 = 1)
  | 0, _ => by simpa using h0
  | n + 1, h => by
    have ih := esc_run_from z b u h0 n (fun v h1 h2 => h v h1 (by omega))
    show ((z.getD (b + (u + n)) 0 == 92) && !esc z b (u + n)) = _
    rw [h (u + n) (by omega) (by omega), ih]
    by_cases hn : n % 2 = 1
    · have : (n + 1) % 2 = 0 := by omega
      simp [hn, this]
    · have : (n + 1) % 2 = 1 := by omega
      simp [this]; omega

/-- The run of backslashes ahead of b + t, counted back no further than b: j of them: the byte at b + t is escaped just where j is odd. -/
theorem esc_run (z : List Int) (b t j : Nat) (hj : j ≤ t) (hall : ∀ v, t - j ≤ v → v < t → z.getD (b + v) 0 = 92) (hend : j = t ∨ z.getD (b + (t - 1 - j)) 0 ≠ 92) :
    esc z b t = decide (j % 2 = 1) := by
  have h0 : esc z b (t - j) = false := by
    rcases hend with h | h
    · rw [h, Nat.sub_self]; rfl
    · by_cases hjt : j = t
      · rw [hjt, Nat.sub_self]; rfl
      · obtain ⟨u, hu⟩ : ∃ u, t - j = u + 1 := ⟨t - j - 1, by omega⟩
        rw [hu]
        show ((z.getD (b + u) 0 == 92) && !esc z b u) = false
        have : t - 1 - j = u := by omega
        rw [this] at h
        rw [beq_eq_false_iff_ne.2 h]
        rfl
  have := esc_run_from z b (t - j) h0 j (fun v h1 h2 => hall v h1 (by omega))
  rw [show t - j + j = t by omega] at this
  exact this

theorem drop_cons_getD (z : List Int) (p : Nat) (h : p < z.length) : z.drop p = z.getD p 0 :: z.drop (p + 1) := by
  rw [List.drop_eq_getElem_cons h]
  congr 1
  simp [List.getD, List.getElem?_eq_getElem h]

/-- One byte on, where the string doesn't end there. -/
theorem mEnd_step (z : List Int) (p : Nat) (e : Bool) (h : p < z.length) (hq : z.getD p 0 ≠ 34 ∨ e = true) :
    mEnd e (z.drop p) = (mEnd ((z.getD p 0 == 92) && !e) (z.drop (p + 1))).map (· + 1) := by
  rw [drop_cons_getD z p h]
  cases e with
  | true => simp [mEnd]
  | false =>
    rw [mEnd, if_neg (by simpa using hq)]
    congr 2
    simp [Bool.beq_eq_decide_eq]

theorem mEnd_here (z : List Int) (p : Nat) (h : p < z.length) (hq : z.getD p 0 = 34) : mEnd false (z.drop p) = some 1 := by
  rw [drop_cons_getD z p h, mEnd, if_pos hq]

end Pl
end Go.Proofs.Qxb6603378a
