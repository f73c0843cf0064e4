/-
  Seat b6603280a. strings.Compare, and what the merge of two vectors' entries finds.
-/
import Derived.Test.Qxb6603280aModel
import Derived.Lib.Bytealg
namespace Go.Proofs.Qxb6603280a
open Go.RowKit

/-- strings.Compare's number. -/
def cmpK (a b : ByteArray) : Int := Lib.compareBytes a.data.toList b.data.toList

theorem cmpS_any (a b : ByteArray) (w : World) : Calls Try.prog 22 #[.string a, .string b] w fun e w' => e = .returned (.int .i64 (cmpK a b)) ∧ w' = w := by
  go_enter Try.func22, Try.ntmps22
  go_wp2
  rw [run_callFunc_extern Try.func23 (by kernel_rfl) (by kernel_rfl) (by kernel_rfl) (e := Extern.BytealgCompare.compare) (by kernel_rfl), Lib.run_compareString]
  simp only [Result.andThen]
  rw [Oper.upon_value]
  go_wp2
  go_ret
  exact ⟨rfl, rfl⟩
theorem cmp_any (a b : ByteArray) (w : World) : Calls Try.prog 20 #[.string a, .string b] w fun e w' => e = .returned (.int .i64 (cmpK a b)) ∧ w' = w := by
  go_enter Try.func20, Try.ntmps20
  go_wp2_with fail
  refine (cmpS_any a b w).mono ?_
  rintro e w' ⟨rfl, rfl⟩
  go_wp2_with fail
  go_ret
  exact ⟨rfl, rfl⟩

theorem cmpB : ∀ (x y : List UInt8), (Lib.compareBytes x y < 0 → x < y) ∧ (0 < Lib.compareBytes x y → y < x) ∧ (Lib.compareBytes x y = 0 → x = y)
  | [], [] => by simp [Lib.compareBytes]
  | [], _ :: _ => by simp [Lib.compareBytes]
  | _ :: _, [] => by simp [Lib.compareBytes]
  | a :: x, b :: y => by
    obtain ⟨h1, h2, h3⟩ := cmpB x y
    rw [Lib.compareBytes]
    by_cases hab : a < b
    · simp [hab, List.cons_lt_cons_iff]
    · by_cases hba : b < a
      · simp [hab, hba, List.cons_lt_cons_iff]
      · have e : a = b := UInt8.le_antisymm (UInt8.not_lt.1 hba) (UInt8.not_lt.1 hab)
        subst e
        rw [if_neg hab, if_neg hab]
        simp only [List.cons_lt_cons_iff, hab, false_or, true_and, List.cons.injEq]
        exact ⟨h1, h2, h3⟩

theorem toList_data (a : ByteArray) : a.toList = a.data.toList := Lib.toList_data a
theorem key_cmp_lt {S S' : List ByteArray} {i j : Nat} (h : cmpK (sAt S i) (sAt S' j) < 0) : key S i < key S' j := by
  unfold key; rw [toList_data, toList_data]; exact (cmpB _ _).1 h
theorem key_cmp_gt {S S' : List ByteArray} {i j : Nat} (h : 0 < cmpK (sAt S i) (sAt S' j)) : key S' j < key S i := by
  unfold key; rw [toList_data, toList_data]; exact (cmpB _ _).2.1 h
theorem key_cmp_eq {S S' : List ByteArray} {i j : Nat} (h : cmpK (sAt S i) (sAt S' j) = 0) : key S i = key S' j := by
  unfold key; rw [toList_data, toList_data]; exact (cmpB _ _).2.2 h

/-- A vector as its two lists. -/
structure Vec (S : List ByteArray) (Z : List Int) : Prop where
  val : Val S Z
  num : ∀ z ∈ Z, 0 ≤ z ∧ z < 18446744073709551616

/-- What the merge has still to say, behind i entries of the one and j of the other. -/
def Mrg (S : List ByteArray) (Z : List Int) (S' : List ByteArray) (Z' : List Int) (i j : Nat) (bb aa : Bool) : Prop :=
  (bb || Pl.lss ((prs S Z).drop i) ((prs S' Z').drop j)) = bhd S Z S' Z' ∧ (aa || Pl.lss ((prs S' Z').drop j) ((prs S Z).drop i)) = bhd S' Z' S Z

theorem Mrg.start (S : List ByteArray) (Z : List Int) (S' : List ByteArray) (Z' : List Int) : Mrg S Z S' Z' 0 0 false false := ⟨rfl, rfl⟩

theorem above {S S' : List ByteArray} {Z' : List Int} {i j : Nat} (h' : Val S' Z') (h : j < S'.length → key S i < key S' j) : ∀ y ∈ (prs S' Z').drop j, key S i < y.1 := by
  intro y hy
  obtain ⟨t, ht, rfl⟩ := List.mem_iff_getElem.1 hy
  rw [List.getElem_drop, prs_get]
  rw [List.length_drop, prs_length] at ht
  by_cases e : t = 0
  · subst e; exact h (by omega)
  · exact Pl.lt_tr (h (by omega)) (key_mono h' j (j + t) (by omega) (by omega))

theorem Mrg.left {S : List ByteArray} {Z : List Int} {S' : List ByteArray} {Z' : List Int} {i j : Nat} {bb aa : Bool} (v : Vec S Z) (v' : Vec S' Z') (h : Mrg S Z S' Z' i j bb aa) (hi : i < S.length) (hj : j ≤ S'.length) (hlt : j < S'.length → key S i < key S' j) :
    Mrg S Z S' Z' (i + 1) j bb true := by
  obtain ⟨h1, h2⟩ := h
  have s1 := srt_drop v.val v.num (S.length - i) i (by omega)
  have s2 := srt_drop v'.val v'.num (S'.length - j) j (by omega)
  rw [prs_drop S Z i hi] at h1 h2 s1
  obtain ⟨e1, e2⟩ := Pl.head_alone (pr S Z i) ((prs S Z).drop (i + 1)) ((prs S' Z').drop j) s1 s2 (above v'.val hlt)
  rw [e1] at h1
  rw [e2] at h2
  exact ⟨h1, by rw [← h2]; simp⟩

theorem Mrg.right {S : List ByteArray} {Z : List Int} {S' : List ByteArray} {Z' : List Int} {i j : Nat} {bb aa : Bool} (v : Vec S Z) (v' : Vec S' Z') (h : Mrg S Z S' Z' i j bb aa) (hi : i ≤ S.length) (hj : j < S'.length) (hlt : i < S.length → key S' j < key S i) :
    Mrg S Z S' Z' i (j + 1) true aa := by
  have := Mrg.left v' v (⟨h.2, h.1⟩ : Mrg S' Z' S Z j i aa bb) hj hi hlt
  exact ⟨this.2, this.1⟩

theorem Mrg.both {S : List ByteArray} {Z : List Int} {S' : List ByteArray} {Z' : List Int} {i j : Nat} {bb aa : Bool} (v : Vec S Z) (v' : Vec S' Z') (h : Mrg S Z S' Z' i j bb aa) (hi : i < S.length) (hj : j < S'.length) (hk : key S i = key S' j) :
    Mrg S Z S' Z' (i + 1) (j + 1) (bb || decide (nAt Z i < nAt Z' j)) (aa || decide (nAt Z' j < nAt Z i)) := by
  obtain ⟨h1, h2⟩ := h
  have s1 := srt_drop v.val v.num (S.length - i) i (by omega)
  have s2 := srt_drop v'.val v'.num (S'.length - j) j (by omega)
  rw [prs_drop S Z i hi] at h1 h2 s1
  rw [prs_drop S' Z' j hj] at h1 h2 s2
  rw [Pl.head_both (pr S Z i) (pr S' Z' j) _ _ s1 s2 hk] at h1
  rw [Pl.head_both (pr S' Z' j) (pr S Z i) _ _ s2 s1 hk.symm] at h2
  exact ⟨by rw [← h1, Bool.or_assoc]; rfl, by rw [← h2, Bool.or_assoc]; rfl⟩

theorem Mrg.done {S : List ByteArray} {Z : List Int} {S' : List ByteArray} {Z' : List Int} {i j : Nat} {bb aa : Bool} (h : Mrg S Z S' Z' i j bb aa) (hi : S.length ≤ i) (hj : S'.length ≤ j) : bhd S Z S' Z' = bb ∧ bhd S' Z' S Z = aa := by
  obtain ⟨h1, h2⟩ := h
  have d1 : (prs S Z).drop i = [] := List.drop_eq_nil_of_le (by rw [prs_length]; exact hi)
  have d2 : (prs S' Z').drop j = [] := List.drop_eq_nil_of_le (by rw [prs_length]; exact hj)
  rw [d1, d2, Pl.lss_nil, Bool.or_false] at h1 h2
  exact ⟨h1.symm, h2.symm⟩
end Go.Proofs.Qxb6603280a
