/-
  Seat b6603378a. The walk of the law FnScanWrap.
-/
import Derived.Test.Qxb6603378aScan
import Derived.Test.Qxb6603378aMake
namespace Go.Proofs.Qxb6603378a
open Go.RowKit Pl

/-- The text V alone inside one more pair of brackets is read whole, with depth d + 1. -/
def Wrp (V : List Int) (k d : Nat) : Prop := ∀ op cl : Int, cl = 93 ∨ cl = 125 → scn 0 ((op :: (V ++ [cl])).drop (0 + 1)) 1 1 = some (k + 1, d + 1)

theorem cut_at {Z : List Int} {i e : Nat} (hi : i < Z.length) (he : i < e) : (Z.drop i).take (e - i) = bAt Z i :: (Z.drop (i + 1)).take (e - (i + 1)) := by
  rw [drop_cons_getD Z i hi, show e - i = (e - (i + 1)) + 1 by omega, List.take_succ_cons]
  rfl
theorem cl_ok {cl : Int} (h : cl = 93 ∨ cl = 125) : shuts cl = true ∧ cl ≠ 34 ∧ opens cl = false := by rcases h with rfl | rfl <;> decide
theorem wrp_str {Z : List Int} {i e : Nat} (hi : i < Z.length) (hc : bAt Z i = 34) (h : StrEnd Z i e) : Wrp ((Z.drop i).take (e - i)) (e - i) 0 := by
  have hb := h.bound
  intro op cl hcl
  obtain ⟨h1, h2, h3⟩ := cl_ok hcl
  obtain ⟨m, hm, rfl⟩ := h
  rw [cut_at hi (by omega), hc, show i + 1 + m - (i + 1) = m by omega, show i + 1 + m - i = m + 1 by omega]
  exact wrap_str (Z.drop (i + 1)) m cl h1 h2 h3 hm
theorem wrp_box {Z : List Int} {i e d : Nat} (hi : i < Z.length) (ho : bAt Z i = 91 ∨ bAt Z i = 123) (h : Boxed Z i e d) : Wrp ((Z.drop i).take (e - i)) (e - i) d := by
  intro op cl hcl
  obtain ⟨h1, h2, h3⟩ := cl_ok hcl
  have hb := h.1
  rw [cut_at hi (by omega)]
  have := wrap_box (Z.drop (i + 1)) (e - (i + 1)) d (bAt Z i) cl (opens_of ho) (by omega) h1 h2 h3 h.scan
  rw [show e - (i + 1) + 2 = e - i + 1 by omega] at this
  exact this

/-- What ZZScan answers at i: an end and a depth, and the cut wraps. -/
def ScRes (Z : List Int) (i : Nat) (r : Ending) : Prop := ∃ e d : Nat, r = .returned (.tuple #[.int .i64 e, .int .i64 d]) ∧ i < e ∧ e ≤ Z.length ∧ d ≤ Z.length ∧ Wrp ((Z.drop i).take (e - i)) (e - i) d
theorem zzScan_any (a : Option Addr) (n c : Nat) (Z : List Int) (i : Nat) (w : World) (hZ : Byts w a n Z) (hn : n ≤ 2000000) (hi : i < n) (hc : bAt Z i = 34 ∨ bAt Z i = 91 ∨ bAt Z i = 123) (hf : Fit Z i) :
    Calls Try.prog 20 #[.slice a n c, .int .i64 i] w fun r w' => ScRes Z i r ∧ w' = w := by
  have hiZ : i < Z.length := by rw [hZ.1]; exact hi
  by_cases h34 : bAt Z i = 34
  · obtain ⟨e, he⟩ := hf.1 h34
    refine (zzStr_any a n c Z i e w hZ hn hi h34 he).mono ?_
    rintro r w' ⟨rfl, rfl⟩
    have hb := he.bound
    exact ⟨⟨e, 0, rfl, by omega, hb.2, by omega, wrp_str hiZ h34 he⟩, rfl⟩
  · have ho : bAt Z i = 91 ∨ bAt Z i = 123 := by omega
    obtain ⟨e, d, he⟩ := hf.2 ho
    refine (zzBox_any a n c Z i (e - (i + 1)) d w hZ hn hi ho he.scan).mono ?_
    rintro r w' ⟨rfl, rfl⟩
    have h1 := he.1
    have h2 := he.2.1
    have h4 := he.2.2.2.1
    refine ⟨⟨e, d, ?_, by omega, h2, by omega, wrp_box hiZ ho he⟩, rfl⟩
    rw [show i + 1 + (e - (i + 1)) = e by omega]

/-- A cut of a slice of bytes. -/
theorem Byts.cut {w : World} {b off n : Nat} {Z : List Int} (h : Byts w (some ⟨b, off, none⟩) n Z) (i e : Nat) (hie : i ≤ e) (he : e ≤ n) : Byts w (some ⟨b, off + i, none⟩) (e - i) ((Z.drop i).take (e - i)) := by
  refine ⟨by simp; have := h.1; omega, fun z hz => h.2.1 z (List.mem_of_mem_drop (List.mem_of_mem_take hz)), fun j hj => ?_⟩
  obtain ⟨b', off', he', hl, hc⟩ := h.2.2 (i + j) (by omega)
  obtain ⟨rfl, rfl⟩ : b = b' ∧ off = off' := by simpa using he'
  refine ⟨b, off + i, rfl, hl, ?_⟩
  rw [Nat.add_assoc, hc]
  have e1 : bAt ((Z.drop i).take (e - i)) j = bAt Z (i + j) := by
    unfold bAt
    simp [List.getD, hj]
  rw [e1]

theorem below_trans_to {w w1 w2 : World} (h : Below w.heap.size w w1) (h2 : Below w1.heap.size w1 w2) : Below w.heap.size w w2 := h.trans (h2.mono h.size)

set_option maxRecDepth 100000 in
set_option maxHeartbeats 1000000 in
theorem law_walk (a : Option Addr) (n c : Nat) (Z : List Int) (x : Int) (w : World) (hZ : Byts w a n Z) (hm : n ≤ maxLen) :
    Calls Try.prog 7 #[.slice a n c, .int .i64 x] w fun e w' => e = .returned (.bool true) ∧ Below w.heap.size w w' := by
  have hmm := hm
  unfold maxLen at hmm
  go_enter Try.func7, Try.ntmps7
  go_wp2_with fail
  refine (bytes_any a n c x w hm).mono ?_
  rintro e w' ⟨⟨r, rfl⟩, rfl⟩
  cases r with
  | false =>
    go_wp2_with fail
    go_ret
    exact ⟨rfl, Below.refl _ _⟩
  | true =>
    by_cases hn : (n : Int) ≤ 1048576
    · by_cases hx : 0 ≤ x ∧ x < (n : Int)
      · obtain ⟨i, rfl⟩ := Int.eq_ofNat_of_zero_le hx.1
        have hin : i < n := by omega
        clear hx
        go_wp2_with fail
        refine (complete_any a n c Z i w' hZ (by omega) hin).mono ?_
        rintro e w1 ⟨⟨r, rfl, hr⟩, rfl⟩
        cases r with
        | false =>
          go_wp2_with fail
          go_ret
          exact ⟨rfl, Below.refl _ _⟩
        | true =>
          have HF : Hid (Fit Z i) := hr rfl
          clear hr
          have hZ0 := hZ
          obtain ⟨b, off, hab, _, hc⟩ := hZ.2.2 i hin
          subst hab
          by_cases hcc : bAt Z i = 34 ∨ bAt Z i = 91 ∨ bAt Z i = 123
          · have HC : Hid (bAt Z i = 34 ∨ bAt Z i = 91 ∨ bAt Z i = 123) := hcc
            rcases hcc with h34 | h91 | h123
            all_goals
              go_wp2_with fail
              refine (clone_any _ n c Z w1 hZ (by omega) (by omega)).mono ?_
              rintro e w2 ⟨a2, c2, rfl, hc2, hZ2, b2⟩
              go_wp2_with fail
              refine (zzScan_any a2 n c2 Z i w2 hZ2 (by omega) hin HC.out HF.out).mono ?_
              rintro e w3 ⟨⟨e, d, rfl, h1, h2, h3, hW⟩, rfl⟩
              rw [hZ2.1] at h2 h3
              obtain ⟨p, q, hpq, _, _⟩ := hZ2.2.2 i hin
              subst hpq
              have hV := hZ2.cut i e (by omega) h2
              have hic : i < c2 := by omega
              have hec : e ≤ c2 := by omega
              have HW : Hid (Wrp (List.take (e - i) (List.drop i Z)) (e - i) d) := hW
              clear hW
              go_wp2_with fail
              refine (wrap_any _ (e - i) (c2 - i) _ 91 93 w3 hV (by omega) (by omega) (by omega)).mono ?_
              rintro e4 w4 ⟨a4, c4, rfl, hc4, hZ4, b4⟩
              have hV4 := hV.later b4 rfl
              go_wp2_with fail
              refine (wrap_any _ (e - i) (c2 - i) _ 123 125 w4 hV4 (by omega) (by omega) (by omega)).mono ?_
              rintro e5 w5 ⟨a5, c5, rfl, hc5, hZ5, b5⟩
              have hZ4' := hZ4.later b5 rfl
              have BW : Below w1.heap.size w1 w5 := below_trans_to (below_trans_to b2 b4) b5
              clear hZ4 hV hV4
              go_wp2_with fail
              refine (zzBox_any a4 (e - i + 2) c4 _ 0 (e - i + 1) (d + 1) w5 hZ4' (by omega) (by omega) (.inl rfl) (HW.out 91 93 (.inl rfl))).mono ?_
              rintro e6 w6 ⟨rfl, rfl⟩
              go_wp2_with fail
              refine (zzBox_any a5 (e - i + 2) c5 _ 0 (e - i + 1) (d + 1) w6 hZ5 (by omega) (by omega) (.inr rfl) (HW.out 123 125 (.inr rfl))).mono ?_
              rintro e7 w7 ⟨rfl, rfl⟩
              clear hZ5 hZ4'
              go_wp2_with fail
              go_ret
              exact ⟨rfl, BW⟩
          · have h34 : ¬ bAt Z i = 34 := fun h => hcc (.inl h)
            have h91 : ¬ bAt Z i = 91 := fun h => hcc (.inr (.inl h))
            have h123 : ¬ bAt Z i = 123 := fun h => hcc (.inr (.inr h))
            have q34 : (bAt Z i != 34) = true := bne_iff_ne.2 h34
            have q91 : (bAt Z i != 91) = true := bne_iff_ne.2 h91
            have q123 : (bAt Z i != 123) = true := bne_iff_ne.2 h123
            clear hcc
            go_wp2_with fail
            go_ret
            exact ⟨rfl, Below.refl _ _⟩
      · go_wp2_with fail
        refine (complete_no a n c x w' (by omega)).mono ?_
        rintro e w1 ⟨rfl, rfl⟩
        go_wp2_with fail
        go_ret
        exact ⟨rfl, Below.refl _ _⟩
    · go_wp2_with fail
      go_ret
      exact ⟨rfl, Below.refl _ _⟩
end Go.Proofs.Qxb6603378a
