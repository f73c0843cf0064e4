/-
  Seat b6603280a. The pairs of a valid vector as a plain list; the walks of zzCountOf and zzModelOrder.
-/
import Derived.Test.Qxb6603280aValid
namespace Go.Proofs.Qxb6603280a
open Go.RowKit

def key (S : List ByteArray) (i : Nat) : List UInt8 := (sAt S i).toList
def pr (S : List ByteArray) (Z : List Int) (i : Nat) : List UInt8 × Int := (key S i, nAt Z i)
/-- The vector's entries. -/
def prs (S : List ByteArray) (Z : List Int) : List (List UInt8 × Int) := (List.range S.length).map (pr S Z)

theorem less_lt : ∀ (x y : List UInt8), Op.bytesLess x y = decide (x < y)
  | [], [] => by simp [Op.bytesLess]
  | _ :: _, [] => by simp [Op.bytesLess]
  | [], _ :: _ => by simp [Op.bytesLess]
  | a :: x, b :: y => by
    rw [Op.bytesLess, less_lt x y, Bool.eq_iff_iff]
    simp [List.cons_lt_cons_iff]

theorem prs_length (S : List ByteArray) (Z : List Int) : (prs S Z).length = S.length := by simp [prs]
theorem prs_get (S : List ByteArray) (Z : List Int) (i : Nat) (h : i < (prs S Z).length) : (prs S Z)[i] = pr S Z i := by simp [prs]
theorem prs_mem (S : List ByteArray) (Z : List Int) (x : List UInt8 × Int) : x ∈ prs S Z ↔ ∃ i, i < S.length ∧ pr S Z i = x := by simp [prs]
theorem prs_drop (S : List ByteArray) (Z : List Int) (i : Nat) (h : i < S.length) : (prs S Z).drop i = pr S Z i :: (prs S Z).drop (i + 1) := by
  rw [List.drop_eq_getElem_cons (by rw [prs_length]; exact h), prs_get]

/-- Strictly rising. -/
theorem key_next {S : List ByteArray} {Z : List Int} (h : Val S Z) (i : Nat) (hi : i + 1 < S.length) : key S i < key S (i + 1) := by
  have := h.2.2 i hi
  rw [less_lt] at this
  exact of_decide_eq_true this
theorem key_lt {S : List ByteArray} {Z : List Int} (h : Val S Z) (i : Nat) : ∀ d, i + d + 1 < S.length → key S i < key S (i + d + 1)
  | 0, hi => key_next h i hi
  | d + 1, hi => Pl.lt_tr (key_lt h i d (by omega)) (key_next h (i + d + 1) (by omega))
theorem key_mono {S : List ByteArray} {Z : List Int} (h : Val S Z) (i j : Nat) (hij : i < j) (hj : j < S.length) : key S i < key S j := by
  obtain ⟨d, rfl⟩ : ∃ d, j = i + d + 1 := ⟨j - i - 1, by omega⟩
  exact key_lt h i d hj

theorem nAt_pos {S : List ByteArray} {Z : List Int} (h : Val S Z) (hz : ∀ z ∈ Z, 0 ≤ z ∧ z < 18446744073709551616) (i : Nat) (hi : i < S.length) : 0 < nAt Z i := by
  have h1 := h.2.1 i hi
  have hi' : i < Z.length := by have := h.1; omega
  have h2 : nAt Z i ∈ Z := by simp [nAt, List.getD, List.getElem?_eq_getElem hi']
  have := (hz _ h2).1
  omega

theorem srt_drop {S : List ByteArray} {Z : List Int} (h : Val S Z) (hz : ∀ z ∈ Z, 0 ≤ z ∧ z < 18446744073709551616) : ∀ (d i : Nat), i + d = S.length → Pl.Srt ((prs S Z).drop i)
  | 0, i, hi => by
    rw [List.drop_eq_nil_of_le (by rw [prs_length]; omega)]
    trivial
  | d + 1, i, hi => by
    rw [prs_drop S Z i (by omega)]
    refine ⟨nAt_pos h hz i (by omega), fun x hx => ?_, srt_drop h hz d (i + 1) (by omega)⟩
    obtain ⟨t, ht, rfl⟩ := List.mem_iff_getElem.1 hx
    rw [List.getElem_drop, prs_get]
    rw [List.length_drop, prs_length] at ht
    exact key_mono h i (i + 1 + t) (by omega) (by omega)
theorem srt_prs {S : List ByteArray} {Z : List Int} (h : Val S Z) (hz : ∀ z ∈ Z, 0 ≤ z ∧ z < 18446744073709551616) : Pl.Srt (prs S Z) := by
  simpa using srt_drop h hz S.length 0 (by omega)

/-- The count of a name. -/
def cntS (S : List ByteArray) (Z : List Int) (k : List UInt8) : Int := Pl.cnt (prs S Z) k

theorem cntS_at {S : List ByteArray} {Z : List Int} (h : Val S Z) (hz : ∀ z ∈ Z, 0 ≤ z ∧ z < 18446744073709551616) (i : Nat) (hi : i < S.length) (k : List UInt8) (hk : key S i = k) : cntS S Z k = nAt Z i := by
  subst hk
  exact Pl.cnt_mem (prs S Z) (pr S Z i) (srt_prs h hz) ((prs_mem S Z _).2 ⟨i, hi, rfl⟩)
theorem cntS_none {S : List ByteArray} {Z : List Int} (k : List UInt8) (hk : ∀ i, i < S.length → key S i ≠ k) : cntS S Z k = 0 := by
  refine Pl.cnt_none _ _ (fun x hx e => ?_)
  obtain ⟨i, hi, rfl⟩ := (prs_mem S Z x).1 hx
  exact hk i hi e

/-- Where the search stands. -/
def Bis (S : List ByteArray) (k : List UInt8) (lo hi : Nat) : Prop :=
  (∀ t, t < lo → key S t < k) ∧ ∀ t, hi ≤ t → t < S.length → ¬ key S t < k
theorem Bis.start (S : List ByteArray) (k : List UInt8) : Bis S k 0 S.length := ⟨fun _ h => absurd h (by omega), fun _ h h' => absurd h' (by omega)⟩
theorem Bis.right {S : List ByteArray} {Z : List Int} (hv : Val S Z) {k : List UInt8} {lo hi m : Nat} (h : Bis S k lo hi) (hm : m < S.length) (hl : Op.bytesLess (sAt S m).toList k = true) : Bis S k (m + 1) hi := by
  rw [less_lt] at hl
  have hl' : key S m < k := of_decide_eq_true hl
  refine ⟨fun t ht => ?_, h.2⟩
  by_cases e : t = m
  · subst e; exact hl'
  · exact Pl.lt_tr (key_mono hv t m (by omega) hm) hl'
theorem Bis.left {S : List ByteArray} {Z : List Int} (hv : Val S Z) {k : List UInt8} {lo hi m : Nat} (h : Bis S k lo hi) (hl : Op.bytesLess (sAt S m).toList k = false) : Bis S k lo m := by
  rw [less_lt] at hl
  have hl' : ¬ key S m < k := of_decide_eq_false hl
  refine ⟨h.1, fun t ht htn hlt => ?_⟩
  by_cases e : t = m
  · subst e; exact hl' hlt
  · exact hl' (Pl.lt_tr (key_mono hv m t (by omega) htn) hlt)
theorem Bis.found {S : List ByteArray} {Z : List Int} (hv : Val S Z) (hz : ∀ z ∈ Z, 0 ≤ z ∧ z < 18446744073709551616) {k : List UInt8} {lo : Nat} (hm : lo < S.length) (hl : ((sAt S lo).toList == k) = true) : nAt Z lo = cntS S Z k :=
  (cntS_at hv hz lo hm k (eq_of_beq hl)).symm
theorem Bis.lost {S : List ByteArray} {Z : List Int} (hv : Val S Z) {k : List UInt8} {lo hi : Nat} (h : Bis S k lo hi) (hlh : hi ≤ lo) (hl : lo < S.length → ((sAt S lo).toList == k) = false) : 0 = cntS S Z k := by
  refine (cntS_none k (fun i hi' e => ?_)).symm
  subst e
  by_cases h1 : i < lo
  · exact Pl.lt_irr _ (h.1 i h1)
  · by_cases h2 : i = lo
    · subst h2; have := hl hi'; simp [key] at this
    · exact h.2 lo hlh (by omega) (key_mono hv lo i (by omega) hi')

theorem ret_u64 {a b : Int} (h : a = b) : Ending.returned (.int .u64 a) = .returned (.int .u64 b) := by rw [h]

set_option maxHeartbeats 400000 in
/-- zzCountOf, on a valid vector. -/
theorem count_any (a : Option Addr) (n c : Nat) (S : List ByteArray) (a' : Option Addr) (c' : Nat) (Z : List Int) (nm : ByteArray) (w : World) (hS : Strs w a n S) (hZ : Nums w a' n Z) (hn : n ≤ 65536) (hv : Val S Z) :
    Calls Try.prog 21 #[.slice a n c, .slice a' n c', .string nm] w fun e w' => e = .returned (.int .u64 (cntS S Z nm.toList)) ∧ w' = w := by
  have hSn := hS.1
  have HSn : Hid (S.length = n) := hSn
  have Hz : Hid (∀ z ∈ Z, 0 ≤ z ∧ z < 18446744073709551616) := hZ.2.1
  clear hSn
  go_enter Try.func21, Try.ntmps21
  go_wp2_with fail
  go_loop [7, 8] (fun lo hi => ∃ l h : Nat, l ≤ h ∧ h ≤ n ∧ lo = .int .i64 l ∧ hi = .int .i64 h ∧ Bis S nm.toList l h) (fun lo hi => (intOf hi).toNat - (intOf lo).toNat)
  case atStart => exact ⟨0, n, Nat.zero_le _, Nat.le_refl _, rfl, rfl, by have := Bis.start S nm.toList; rw [HSn.out] at this; exact this⟩
  case round =>
    obtain ⟨l, h, hlh, hh, rfl, rfl, hb⟩ := hrel
    by_cases hlt : l < h
    · obtain ⟨b, off, rfl, hb', hc⟩ := hS.2.2 (l + (h - l) / 2) (by omega)
      cases hq : Op.bytesLess (sAt S (l + (h - l) / 2)).toList nm.toList with
      | true =>
        go_wp2_with fail
        go_round
        case rel => exact ⟨l + (h - l) / 2 + 1, h, by omega, hh, by go_num, rfl, hb.right hv (by have := HSn.out; omega) hq⟩
        case measure => simp only [intOf]; omega
      | false =>
        go_wp2_with fail
        go_round
        case rel => exact ⟨l, l + (h - l) / 2, by omega, by omega, rfl, by go_num, hb.left hv hq⟩
        case measure => simp only [intOf]; omega
    · by_cases hl : l < n
      · obtain ⟨b, off, rfl, hb1, hc⟩ := hS.2.2 l hl
        obtain ⟨b', off', rfl, hb2, hc'⟩ := hZ.2.2 l hl
        cases hq : ((sAt S l).toList == nm.toList) with
        | true =>
          have HQ := Bis.found hv Hz.out (by have := HSn.out; omega) hq
          have HF : Hid (nAt Z l = cntS S Z nm.toList) := HQ
          clear HQ
          go_wp2_with fail
          go_ret
          exact ⟨ret_u64 HF.out, rfl⟩
        | false =>
          have HF : Hid (0 = cntS S Z nm.toList) := hb.lost hv (by omega) (fun _ => hq)
          go_wp2_with fail
          go_ret
          exact ⟨ret_u64 HF.out, rfl⟩
      · have HF : Hid (0 = cntS S Z nm.toList) := hb.lost hv (by omega) (fun hx => by have := HSn.out; omega)
        go_wp2_with fail
        go_ret
        exact ⟨ret_u64 HF.out, rfl⟩

/-- What the model's loops have found of the first t entries. -/
def ov (S : List ByteArray) (Z : List Int) (S' : List ByteArray) (Z' : List Int) : Nat → Bool
  | 0 => false
  | t + 1 => ov S Z S' Z' t || decide (cntS S' Z' (key S t) < nAt Z t)
def un (S : List ByteArray) (Z : List Int) (S' : List ByteArray) (Z' : List Int) : Nat → Bool
  | 0 => false
  | t + 1 => un S Z S' Z' t || decide (nAt Z t < cntS S' Z' (key S t))
theorem ov_eq (S : List ByteArray) (Z : List Int) (S' : List ByteArray) (Z' : List Int) : ∀ n, ((List.range n).map (pr S Z)).any (fun e => decide (Pl.cnt (prs S' Z') e.1 < e.2)) = ov S Z S' Z' n
  | 0 => rfl
  | n + 1 => by
    rw [List.range_succ, List.map_append, List.any_append, ov_eq S Z S' Z' n, ov]
    show (_ || (_ || false)) = _
    rw [Bool.or_false]
    rfl
theorem un_eq (S : List ByteArray) (Z : List Int) (S' : List ByteArray) (Z' : List Int) : ∀ n, ((List.range n).map (pr S Z)).any (fun e => decide (e.2 < Pl.cnt (prs S' Z') e.1)) = un S Z S' Z' n
  | 0 => rfl
  | n + 1 => by
    rw [List.range_succ, List.map_append, List.any_append, un_eq S Z S' Z' n, un]
    show (_ || (_ || false)) = _
    rw [Bool.or_false]
    rfl

/-- v is less than w in some entry. -/
def bhd (S : List ByteArray) (Z : List Int) (S' : List ByteArray) (Z' : List Int) : Bool := Pl.lss (prs S Z) (prs S' Z')
theorem bhd_eq (S : List ByteArray) (Z : List Int) (S' : List ByteArray) (Z' : List Int) (h : Val S Z) (hz : ∀ z ∈ Z, 0 ≤ z ∧ z < 18446744073709551616) (h' : Val S' Z') (hz' : ∀ z ∈ Z', 0 ≤ z ∧ z < 18446744073709551616) :
    bhd S Z S' Z' = (un S Z S' Z' S.length || ov S' Z' S Z S'.length) := by
  unfold bhd
  rw [Pl.lss_split _ _ (srt_prs h hz) (srt_prs h' hz'), ← un_eq, ← ov_eq]
  rfl

/-- The order's text. -/
def ordOf (behind ahead : Bool) : ByteArray :=
  if behind && ahead then { data := #[99, 111, 110, 99, 117, 114, 114, 101, 110, 116] } else if behind then { data := #[98, 101, 102, 111, 114, 101] } else if ahead then { data := #[97, 102, 116, 101, 114] } else { data := #[101, 113, 117, 97, 108] }

theorem ov_hit {S : List ByteArray} {Z : List Int} {S' : List ByteArray} {Z' : List Int} {k : Nat} (h : cntS S' Z' (key S k) < nAt Z k) : (!ov S Z S' Z' (k + 1)) = false := by simp [ov, h]
theorem ov_miss {S : List ByteArray} {Z : List Int} {S' : List ByteArray} {Z' : List Int} {k : Nat} (h : ¬ cntS S' Z' (key S k) < nAt Z k) : (!ov S Z S' Z' (k + 1)) = (!ov S Z S' Z' k) := by simp [ov, h]
theorem un_hit {S : List ByteArray} {Z : List Int} {S' : List ByteArray} {Z' : List Int} {k : Nat} (h : nAt Z k < cntS S' Z' (key S k)) : (!un S Z S' Z' (k + 1)) = false := by simp [un, h]
theorem un_miss {S : List ByteArray} {Z : List Int} {S' : List ByteArray} {Z' : List Int} {k : Nat} (h : ¬ nAt Z k < cntS S' Z' (key S k)) : (!un S Z S' Z' (k + 1)) = (!un S Z S' Z' k) := by simp [un, h]

/-- In the second loop, behind j entries: 'v is greater somewhere', 'v is less somewhere'. -/
def ahd2 (S : List ByteArray) (Z : List Int) (S' : List ByteArray) (Z' : List Int) (j : Nat) : Bool := un S' Z' S Z j || ov S Z S' Z' S.length
def bhd2 (S : List ByteArray) (Z : List Int) (S' : List ByteArray) (Z' : List Int) (j : Nat) : Bool := un S Z S' Z' S.length || ov S' Z' S Z j
theorem ahd2_hit {S : List ByteArray} {Z : List Int} {S' : List ByteArray} {Z' : List Int} {j : Nat} (h : nAt Z' j < cntS S Z (key S' j)) : (!ahd2 S Z S' Z' (j + 1)) = false := by simp [ahd2, un, h]
theorem ahd2_miss {S : List ByteArray} {Z : List Int} {S' : List ByteArray} {Z' : List Int} {j : Nat} (h : ¬ nAt Z' j < cntS S Z (key S' j)) : (!ahd2 S Z S' Z' (j + 1)) = (!ahd2 S Z S' Z' j) := by simp [ahd2, un, h]
theorem bhd2_hit {S : List ByteArray} {Z : List Int} {S' : List ByteArray} {Z' : List Int} {j : Nat} (h : cntS S Z (key S' j) < nAt Z' j) : (!bhd2 S Z S' Z' (j + 1)) = false := by simp [bhd2, ov, h]
theorem bhd2_miss {S : List ByteArray} {Z : List Int} {S' : List ByteArray} {Z' : List Int} {j : Nat} (h : ¬ cntS S Z (key S' j) < nAt Z' j) : (!bhd2 S Z S' Z' (j + 1)) = (!bhd2 S Z S' Z' j) := by simp [bhd2, ov, h]

theorem ret_str {a b : ByteArray} (h : a = b) : Ending.returned (.string a) = .returned (.string b) := by rw [h]

set_option maxHeartbeats 1000000 in
/-- zzModelOrder, on two valid vectors. -/
theorem model_any (a : Option Addr) (n c : Nat) (S : List ByteArray) (b : Option Addr) (d : Nat) (Z : List Int) (a' : Option Addr) (n' c' : Nat) (S' : List ByteArray) (b' : Option Addr) (d' : Nat) (Z' : List Int) (w : World)
    (hS : Strs w a n S) (hZ : Nums w b n Z) (hn : n ≤ 65536) (hv : Val S Z) (hS' : Strs w a' n' S') (hZ' : Nums w b' n' Z') (hn' : n' ≤ 65536) (hv' : Val S' Z') :
    Calls Try.prog 13 #[.slice a n c, .slice b n d, .slice a' n' c', .slice b' n' d'] w fun e w' => e = .returned (.string (ordOf (bhd S Z S' Z') (bhd S' Z' S Z))) ∧ w' = w := by
  have HB : Hid (bhd S Z S' Z' = bhd2 S Z S' Z' n' ∧ bhd S' Z' S Z = ahd2 S Z S' Z' n') := by
    rw [← hS'.1]
    exact ⟨bhd_eq S Z S' Z' hv hZ.2.1 hv' hZ'.2.1, bhd_eq S' Z' S Z hv' hZ'.2.1 hv hZ.2.1⟩
  have HL : Hid (S.length = n) := hS.1
  go_enter Try.func13, Try.ntmps13
  go_wp2_with fail
  go_loop [9, 10, 11] (fun le ge i => ∃ (k : Nat), k ≤ n ∧ i = .int .i64 k ∧ le = .bool (!ov S Z S' Z' k) ∧ ge = .bool (!un S Z S' Z' k)) (fun _ _ i => n - (intOf i).toNat)
  case atStart => exact ⟨0, Nat.zero_le _, rfl, rfl, rfl⟩
  case round =>
    obtain ⟨k, hk, rfl, rfl, rfl⟩ := hrel
    by_cases hlt : k < n
    · obtain ⟨q, off, rfl, _, hc⟩ := hS.2.2 k hlt
      obtain ⟨q2, off2, rfl, _, hc2⟩ := hZ.2.2 k hlt
      go_wp2_with (go_at_call 21; refine (count_any _ _ _ S' _ _ Z' _ _ hS' hZ' hn' hv').mono ?_; rintro e w' ⟨rfl, rfl⟩)
      · go_round
        case rel => exact ⟨k + 1, by omega, by go_num, by rw [ov_hit (by assumption)], by rw [un_miss (Int.not_lt.2 (by assumption))]⟩
        case measure => simp [intOf]; omega
      · go_round
        case rel => exact ⟨k + 1, by omega, by go_num, by rw [ov_miss (Int.not_lt.2 (by assumption))], by rw [un_hit (by assumption)]⟩
        case measure => simp [intOf]; omega
      · go_round
        case rel => exact ⟨k + 1, by omega, by go_num, by rw [ov_miss (Int.not_lt.2 (by assumption))], by rw [un_miss (Int.not_lt.2 (by assumption))]⟩
        case measure => simp [intOf]; omega
    · have HK : Hid (k = n) := by have : k = n := by omega
                                  exact this
      go_wp2_with fail
      go_loop [9, 10, 14] (fun le ge i => ∃ (j : Nat), j ≤ n' ∧ i = .int .i64 j ∧ le = .bool (!ahd2 S Z S' Z' j) ∧ ge = .bool (!bhd2 S Z S' Z' j)) (fun _ _ i => n' - (intOf i).toNat)
      case atStart => exact ⟨0, Nat.zero_le _, rfl, by rw [HK.out, ← HL.out]; simp [un, ahd2], by rw [HK.out, ← HL.out]; simp [ov, bhd2]⟩
      case round =>
        obtain ⟨j, hj, rfl, rfl, rfl⟩ := hrel
        by_cases hlt2 : j < n'
        · obtain ⟨q, off, rfl, _, hc⟩ := hS'.2.2 j hlt2
          obtain ⟨q2, off2, rfl, _, hc2⟩ := hZ'.2.2 j hlt2
          go_wp2_with (go_at_call 21; refine (count_any _ _ _ S _ _ Z _ _ hS hZ hn hv).mono ?_; rintro e w' ⟨rfl, rfl⟩)
          · go_round
            case rel => exact ⟨j + 1, by omega, by go_num, by rw [ahd2_hit (by assumption)], by rw [bhd2_miss (Int.not_lt.2 (by assumption))]⟩
            case measure => simp [intOf]; omega
          · go_round
            case rel => exact ⟨j + 1, by omega, by go_num, by rw [ahd2_miss (Int.not_lt.2 (by assumption))], by rw [bhd2_hit (by assumption)]⟩
            case measure => simp [intOf]; omega
          · go_round
            case rel => exact ⟨j + 1, by omega, by go_num, by rw [ahd2_miss (Int.not_lt.2 (by assumption))], by rw [bhd2_miss (Int.not_lt.2 (by assumption))]⟩
            case measure => simp [intOf]; omega
        · have HJ : Hid (j = n') := by have : j = n' := by omega
                                       exact this
          cases hA : ahd2 S Z S' Z' j <;> cases hB : bhd2 S Z S' Z' j
          all_goals
            have HR : Hid (ordOf (bhd S Z S' Z') (bhd S' Z' S Z) = ordOf (bhd2 S Z S' Z' j) (ahd2 S Z S' Z' j)) := by
              have h := HB.out
              rw [h.1, h.2, HJ.out]
              rfl
            rw [hA, hB] at HR
            go_wp2_with fail
            go_ret
            exact ⟨ret_str HR.out.symm, rfl⟩
end Go.Proofs.Qxb6603280a
