/-
  Seat b6603378a. Plain facts beside the machine of Qxb6603378aPlain, by places in a text.
-/
import Derived.Test.Qxb6603378aPlain
namespace Go.Proofs.Qxb6603378a
open Pl

/-- The byte at a place, under a name of its own. -/
def bAt (z : List Int) (i : Nat) : Int := z.getD i 0

theorem mEnd_lt {z : List Int} {p m : Nat} {e : Bool} (h : mEnd e (z.drop p) = some m) : p < z.length := by
  by_cases hp : p < z.length
  · exact hp
  · rw [List.drop_eq_nil_of_le (by omega)] at h
    cases e <;> simp [mEnd] at h
theorem scn_lt {z : List Int} {p k o d : Nat} {y : Nat × Nat} (h : scn k (z.drop p) o d = some y) : p < z.length := by
  by_cases hp : p < z.length
  · exact hp
  · rw [List.drop_eq_nil_of_le (by omega)] at h
    match k with
    | 0 => simp [scn] at h
    | 1 => simp [scn] at h
    | _ + 2 => simp [scn] at h

/-- The string that opens at i ends ahead of e. -/
def StrEnd (z : List Int) (i e : Nat) : Prop := ∃ m, mEnd false (z.drop (i + 1)) = some m ∧ e = i + 1 + m
/-- stringEnd's place p is on the road to e. -/
def StrAt (z : List Int) (p e : Nat) : Prop := ∃ m, mEnd false (z.drop p) = some m ∧ p + m = e

theorem StrAt.start {z : List Int} {i e : Nat} (h : StrEnd z i e) : StrAt z (i + 1) e := by
  obtain ⟨m, h1, h2⟩ := h; exact ⟨m, h1, h2.symm⟩
theorem StrAt.lt {z : List Int} {p e : Nat} (h : StrAt z p e) : p < z.length := by obtain ⟨m, h1, _⟩ := h; exact mEnd_lt h1
theorem StrAt.quote {z : List Int} {p e : Nat} (h : StrAt z p e) (hq : bAt z p = 34) : e = p + 1 := by
  have hl := h.lt
  obtain ⟨m, h1, h2⟩ := h
  rw [mEnd_here z p hl hq] at h1
  have : 1 = m := by simpa using h1
  omega
theorem StrAt.back {z : List Int} {p e : Nat} (h : StrAt z p e) (hq : bAt z p = 92) : StrAt z (p + 2) e ∧ p + 1 < z.length := by
  have hl := h.lt
  obtain ⟨m, h1, h2⟩ := h
  have hq' : z.getD p 0 = 92 := hq
  rw [mEnd_step z p false hl (by rw [hq']; simp), hq', Option.map_eq_some_iff] at h1
  obtain ⟨m', h3, rfl⟩ := h1
  have h3' : mEnd true (z.drop (p + 1)) = some m' := by simpa using h3
  have hl2 := mEnd_lt h3'
  rw [mEnd_step z (p + 1) true hl2 (Or.inr rfl), Option.map_eq_some_iff] at h3'
  obtain ⟨m'', h4, rfl⟩ := h3'
  exact ⟨⟨m'', by simpa using h4, by omega⟩, hl2⟩
theorem StrAt.plain {z : List Int} {p e : Nat} (h : StrAt z p e) (hq : bAt z p ≠ 34) (hb : bAt z p ≠ 92) : StrAt z (p + 1) e := by
  have hl := h.lt
  obtain ⟨m, h1, h2⟩ := h
  have hb' : (z.getD p 0 == 92) = false := beq_eq_false_iff_ne.2 hb
  rw [mEnd_step z p false hl (Or.inl hq), hb', Option.map_eq_some_iff] at h1
  obtain ⟨m', h3, rfl⟩ := h1
  exact ⟨m', by simpa using h3, by omega⟩
theorem StrEnd.bound {z : List Int} {i e : Nat} (h : StrEnd z i e) : i + 1 < e ∧ e ≤ z.length := by
  obtain ⟨m, h1, rfl⟩ := h
  have := mEnd_take _ _ _ [] h1
  rw [List.length_drop] at this
  omega

/-- The parity model's road: behind the places i + 1 .. q - 1 the string is still open. -/
def SM (z : List Int) (i q : Nat) : Prop := ∃ t, q = i + 1 + t ∧ mEnd false (z.drop (i + 1)) = (mEnd (esc z (i + 1) t) (z.drop q)).map (· + t)
theorem SM.start (z : List Int) (i : Nat) : SM z i (i + 1) := ⟨0, rfl, by simp [esc]⟩
theorem SM.le {z : List Int} {i q : Nat} (h : SM z i q) : i + 1 ≤ q := by obtain ⟨t, rfl, _⟩ := h; omega
theorem SM.step {z : List Int} {i q : Nat} (h : SM z i q) (hq : q < z.length) (hc : bAt z q ≠ 34 ∨ esc z (i + 1) (q - (i + 1)) = true) : SM z i (q + 1) := by
  obtain ⟨t, rfl, h1⟩ := h
  rw [show i + 1 + t - (i + 1) = t by omega] at hc
  refine ⟨t + 1, by omega, ?_⟩
  rw [h1, mEnd_step z (i + 1 + t) (esc z (i + 1) t) hq hc, Option.map_map]
  show _ = (mEnd ((z.getD (i + 1 + t) 0 == 92) && !esc z (i + 1) t) (z.drop (i + 1 + t + 1))).map (· + (t + 1))
  congr 1
  funext x
  simp only [Function.comp]
  omega
theorem SM.found {z : List Int} {i q : Nat} (h : SM z i q) (hq : q < z.length) (hc : bAt z q = 34) (he : esc z (i + 1) (q - (i + 1)) = false) : StrEnd z i (q + 1) := by
  obtain ⟨t, rfl, h1⟩ := h
  rw [show i + 1 + t - (i + 1) = t by omega] at he
  rw [he, mEnd_here z _ hq hc] at h1
  exact ⟨1 + t, by simpa using h1, by omega⟩

/-- The run of backslashes behind q: j of them counted back so far. -/
def Run (z : List Int) (i q j : Nat) : Prop := j ≤ q - (i + 1) ∧ ∀ v, q - j ≤ v → v < q → bAt z v = 92
theorem Run.start (z : List Int) (i q : Nat) : Run z i q 0 := ⟨Nat.zero_le _, fun v h1 h2 => absurd h2 (by omega)⟩
theorem Run.step {z : List Int} {i q j : Nat} (h : Run z i q j) (hj : j < q - (i + 1)) (hc : bAt z (q - 1 - j) = 92) : Run z i q (j + 1) := by
  refine ⟨by omega, fun v h1 h2 => ?_⟩
  by_cases e : v = q - 1 - j
  · subst e; exact hc
  · exact h.2 v (by omega) h2
theorem Run.esc {z : List Int} {i q j : Nat} (h : Run z i q j) (hq : i + 1 ≤ q) (hend : j = q - (i + 1) ∨ bAt z (q - 1 - j) ≠ 92) : esc z (i + 1) (q - (i + 1)) = decide (j % 2 = 1) := by
  refine esc_run z (i + 1) (q - (i + 1)) j h.1 (fun v h1 h2 => h.2 (i + 1 + v) (by omega) (by omega)) ?_
  rcases hend with e | e
  · exact .inl e
  · by_cases hj : j = q - (i + 1)
    · exact .inl hj
    · have h1 := h.1
      refine .inr ?_
      rw [show i + 1 + (q - (i + 1) - 1 - j) = q - 1 - j by omega]
      exact e

theorem scn0 {z : List Int} {p : Nat} (o d : Nat) (h : p < z.length) : scn 0 (z.drop p) o d = if bAt z p = 34 then up 1 (scn 1 (z.drop (p + 1)) o d) else if opens (bAt z p) = true then up 1 (scn 0 (z.drop (p + 1)) (o + 1) (max d (o + 1)))
      else if shuts (bAt z p) = true then (if o = 1 then some (1, d) else up 1 (scn 0 (z.drop (p + 1)) (o - 1) d)) else up 1 (scn 0 (z.drop (p + 1)) o d) := by
  rw [drop_cons_getD z p h, scn]
  rfl
theorem scn_quote {z : List Int} {p e : Nat} (o d : Nat) (h : StrEnd z p e) (hp : p < z.length) (hc : bAt z p = 34) : scn 0 (z.drop p) o d = up (e - p) (scn 0 (z.drop e) o d) := by
  obtain ⟨m, h1, rfl⟩ := h
  have h2 := scn_str _ false m o d h1
  simp only [Bool.false_eq_true, if_false] at h2
  rw [scn0 o d hp, if_pos hc, h2, List.drop_drop, up_up]
  congr 1
  omega
theorem scn_open {z : List Int} {p : Nat} (o d : Nat) (hp : p < z.length) (hc : bAt z p ≠ 34) (ho : opens (bAt z p) = true) : scn 0 (z.drop p) o d = up 1 (scn 0 (z.drop (p + 1)) (o + 1) (max d (o + 1))) := by
  rw [scn0 o d hp, if_neg hc, if_pos ho]
theorem scn_shut {z : List Int} {p : Nat} (o d : Nat) (hp : p < z.length) (hc : bAt z p ≠ 34) (ho : opens (bAt z p) = false) (hs : shuts (bAt z p) = true) : scn 0 (z.drop p) o d = if o = 1 then some (1, d) else up 1 (scn 0 (z.drop (p + 1)) (o - 1) d) := by
  rw [scn0 o d hp, if_neg hc, if_neg (by simp [ho]), if_pos hs]
theorem scn_other {z : List Int} {p : Nat} (o d : Nat) (hp : p < z.length) (hc : bAt z p ≠ 34) (ho : opens (bAt z p) = false) (hs : shuts (bAt z p) = false) : scn 0 (z.drop p) o d = up 1 (scn 0 (z.drop (p + 1)) o d) := by
  rw [scn0 o d hp, if_neg hc, if_neg (by simp [ho]), if_neg (by simp [hs])]

/-- Where the scan goes through a string it ends. -/
theorem str_of_scn : ∀ (r : List Int) (e : Bool) (o d : Nat) (y : Nat × Nat), scn (if e then 2 else 1) r o d = some y → ∃ m, mEnd e r = some m
  | [], e, o, d, y, h => by cases e <;> simp [scn] at h
  | c :: r, true, o, d, y, h => by
    simp only [if_true, scn] at h
    cases hs : scn 1 r o d with
    | none => rw [hs] at h; simp [up] at h
    | some x =>
      obtain ⟨m, hm⟩ := str_of_scn r false o d x hs
      exact ⟨m + 1, by simp [mEnd, hm]⟩
  | c :: r, false, o, d, y, h => by
    simp only [Bool.false_eq_true, if_false, scn] at h
    by_cases h34 : c = 34
    · exact ⟨1, by simp [mEnd, h34]⟩
    · rw [if_neg h34] at h
      by_cases h92 : c = 92
      · rw [if_pos h92] at h
        cases hs : scn 2 r o d with
        | none => rw [hs] at h; simp [up] at h
        | some x =>
          obtain ⟨m, hm⟩ := str_of_scn r true o d x hs
          exact ⟨m + 1, by simp [mEnd, h92, hm]⟩
      · rw [if_neg h92] at h
        cases hs : scn 1 r o d with
        | none => rw [hs] at h; simp [up] at h
        | some x =>
          obtain ⟨m, hm⟩ := str_of_scn r false o d x hs
          exact ⟨m + 1, by simp [mEnd, h34, h92, hm]⟩

/-- The array or object that opens at j ends ahead of e and is d deep. -/
def Boxed (z : List Int) (j e d : Nat) : Prop := j + 1 < e ∧ e ≤ z.length ∧ 1 ≤ d ∧ d ≤ e - (j + 1) ∧ ∀ o D, 1 ≤ o → o ≤ D →
  scn 0 (z.drop (j + 1)) o D = if o = 1 then some (e - (j + 1), max D d) else up (e - (j + 1)) (scn 0 (z.drop e) (o - 1) (max D (o - 1 + d)))
/-- The recursive descent's road: at k, with 'inner' the depth met so far. -/
def BoxTo (z : List Int) (j k inner : Nat) : Prop := j + 1 ≤ k ∧ k ≤ z.length ∧ inner ≤ k - (j + 1) ∧ ∀ o D, 1 ≤ o → o ≤ D →
  scn 0 (z.drop (j + 1)) o D = up (k - (j + 1)) (scn 0 (z.drop k) o (max D (o + inner)))
theorem BoxTo.start {z : List Int} {j : Nat} (h : j < z.length) : BoxTo z j (j + 1) 0 := by
  refine ⟨Nat.le_refl _, h, by omega, fun o D h1 h2 => ?_⟩
  rw [Nat.sub_self, up_zero, show max D (o + 0) = D by omega]
theorem BoxTo.quote {z : List Int} {j k inner e : Nat} (h : BoxTo z j k inner) (hk : k < z.length) (hc : bAt z k = 34) (hs : StrEnd z k e) : BoxTo z j e inner := by
  obtain ⟨h1, h2, h3, h4⟩ := h
  have hb := hs.bound
  refine ⟨by omega, hb.2, by omega, fun o D ho hD => ?_⟩
  rw [h4 o D ho hD, scn_quote _ _ hs hk hc, up_up]
  congr 1
  omega
theorem BoxTo.box {z : List Int} {j k inner e d : Nat} (h : BoxTo z j k inner) (hk : k < z.length) (hc : bAt z k ≠ 34) (ho : opens (bAt z k) = true) (hs : Boxed z k e d) : BoxTo z j e (max inner d) := by
  obtain ⟨h1, h2, h3, h4⟩ := h
  obtain ⟨b1, b2, b3, b4, b5⟩ := hs
  refine ⟨by omega, b2, by omega, fun o D ho' hD => ?_⟩
  rw [h4 o D ho' hD, scn_open _ _ hk hc ho, b5 (o + 1) _ (by omega) (by omega), if_neg (by omega), up_up, up_up, show o + 1 - 1 = o by omega]
  rw [show max (max (max D (o + inner)) (o + 1)) (o + d) = max D (o + max inner d) by omega]
  congr 1
  omega
theorem BoxTo.other {z : List Int} {j k inner : Nat} (h : BoxTo z j k inner) (hk : k < z.length) (hc : bAt z k ≠ 34) (ho : opens (bAt z k) = false) (hs : shuts (bAt z k) = false) : BoxTo z j (k + 1) inner := by
  obtain ⟨h1, h2, h3, h4⟩ := h
  refine ⟨by omega, hk, by omega, fun o D ho' hD => ?_⟩
  rw [h4 o D ho' hD, scn_other _ _ hk hc ho hs, up_up]
  congr 1
  omega
theorem BoxTo.shut {z : List Int} {j k inner : Nat} (h : BoxTo z j k inner) (hk : k < z.length) (hc : bAt z k ≠ 34) (ho : opens (bAt z k) = false) (hs : shuts (bAt z k) = true) : Boxed z j (k + 1) (inner + 1) := by
  obtain ⟨h1, h2, h3, h4⟩ := h
  refine ⟨by omega, hk, by omega, by omega, fun o D ho' hD => ?_⟩
  rw [h4 o D ho' hD, scn_shut _ _ hk hc ho hs]
  by_cases h1' : o = 1
  · rw [if_pos h1', if_pos h1']
    simp only [up, Option.some.injEq, Prod.mk.injEq]
    omega
  · rw [if_neg h1', if_neg h1', up_up]
    rw [show max D (o - 1 + (inner + 1)) = max D (o + inner) by omega]
    congr 1
    omega
/-- What 'scan' finds of it. -/
theorem Boxed.scan {z : List Int} {j e d : Nat} (h : Boxed z j e d) : scn 0 (z.drop (j + 1)) 1 1 = some (e - (j + 1), d) := by
  rw [h.2.2.2.2 1 1 (Nat.le_refl _) (Nat.le_refl _), if_pos rfl, show max 1 d = d by have := h.2.2.1; omega]
end Go.Proofs.Qxb6603378a
