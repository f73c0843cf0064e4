/-
  Seat b6603560a. The walk of the law FnSourcesCaseTable.
-/
import Derived.Test.Qxb6603560aSources
namespace Go.Proofs.Qxb6603560a
open Go.RowKit

/-- The names joined by commas, the first k of them. -/
def jnTo (L : List Nat) : Nat → ByteArray
  | 0 => ⟨#[]⟩
  | k + 1 => (if k = 0 then jnTo L k else jnTo L k ++ ⟨#[44]⟩) ++ nm (L.getD k 0)
theorem jn_one (L : List Nat) : jnTo L (0 + 1) = jnTo L 0 ++ nm (L.getD 0 0) := by simp [jnTo]
theorem jn_next (L : List Nat) (k : Nat) (h : k ≠ 0) : jnTo L (k + 1) = jnTo L k ++ ⟨#[44]⟩ ++ nm (L.getD k 0) := by
  rw [jnTo, if_neg h]
theorem nm_size (j : Nat) : (nm j).size ≤ 9 := by
  match j with
  | 0 => decide
  | 1 => decide
  | 2 => decide
  | _ + 3 => show (ByteArray.mk #[115, 101, 99, 114, 101, 116]).size ≤ 9
             decide
theorem jn_size (L : List Nat) : ∀ k, (jnTo L k).size ≤ 10 * k
  | 0 => by simp [jnTo, ByteArray.size]
  | k + 1 => by
    have h1 := jn_size L k
    have h2 := nm_size (L.getD k 0)
    have h3 : (ByteArray.mk #[44]).size = 1 := rfl
    unfold jnTo
    split <;> simp only [ByteArray.size_append] <;> omega

theorem ret_same {a b : ByteArray} (h : a = b) : Ending.returned (.string a) = .returned (.string b) := by rw [h]

set_option maxHeartbeats 1000000 in
theorem join_any (a : Option Addr) (n c : Nat) (L : List Nat) (w : World) (hN : Nms w a n L) (hn : n ≤ 4) :
    Calls Try.prog 10 #[.slice a n c] w fun e w' => e = .returned (.string (jnTo L n)) ∧ w' = w := by
  go_enter Try.func10, Try.ntmps10
  go_wp2_with fail
  go_loop [3, 4] (fun s i => ∃ k : Nat, k ≤ n ∧ i = .int .i64 k ∧ s = .string (jnTo L k)) (fun _ i => n - (intOf i).toNat)
  case atStart => exact ⟨0, Nat.zero_le _, rfl, rfl⟩
  case round =>
    obtain ⟨k, hk, rfl, rfl⟩ := hrel
    by_cases hlt : k < n
    · obtain ⟨b, off, hab, _, hc⟩ := hN.2 k hlt
      subst hab
      have hs := jn_size L k
      have hm := nm_size (L.getD k 0)
      by_cases hk0 : k = 0
      · have HJ : Hid (jnTo L (k + 1) = jnTo L k ++ nm (L.getD k 0)) := by subst hk0; exact jn_one L
        have hle : ¬ 0 < (k : Int) := by omega
        have HK : Hid (k = 0) := hk0
        clear hk0
        generalize nm (L.getD k 0) = s at hc hm HJ
        generalize jnTo L k = t at hs HJ
        go_wp2_with fail
        go_round
        case rel => exact ⟨k + 1, by omega, by go_num, by rw [HJ.out]⟩
        case measure => simp [intOf]; omega
      · have HJ : Hid (jnTo L (k + 1) = jnTo L k ++ ⟨#[44]⟩ ++ nm (L.getD k 0)) := jn_next L k hk0
        have hle : 0 < (k : Int) := by omega
        clear hk0
        generalize nm (L.getD k 0) = s at hc hm HJ
        generalize jnTo L k = t at hs HJ
        go_wp2_with fail
        go_round
        case rel => exact ⟨k + 1, by omega, by go_num, by rw [HJ.out]⟩
        case measure => simp [intOf]; omega
    · have HK : Hid (jnTo L n = jnTo L k) := by
        have e : k = n := by omega
        rw [e]
        rfl
      generalize jnTo L k = t at HK
      go_wp2_with fail
      go_ret
      exact ⟨ret_same HK.out.symm, rfl⟩

/-- manifestB1Count. -/
theorem count_any (a1 a2 a3 a4 : Bool) (w : World) :
    Calls Try.prog 9 #[.bool a1, .bool a2, .bool a3, .bool a4] w fun e w' => e = .returned (.int .i64 ((lc a1 a2 a3 a4 4).length : Nat)) ∧ w' = w := by
  cases a1 <;> cases a2 <;> cases a3 <;> cases a4
  all_goals
    go_enter Try.func9, Try.ntmps9
    go_wp2_with fail
    go_ret
    exact ⟨rfl, rfl⟩

/-- manifestB1SourcesTable's text. -/
def tb (a1 a2 a3 a4 : Bool) : ByteArray := jnTo (lc a1 a2 a3 a4 4) (lc a1 a2 a3 a4 4).length
theorem ret_str {a b : ByteArray} (h : a.data.toList = b.data.toList) : Ending.returned (.string a) = .returned (.string b) := by
  cases a with
  | mk x => cases b with
    | mk y => cases x with
      | mk l => cases y with
        | mk l' => simp at h; subst h; rfl
set_option maxRecDepth 100000 in
set_option maxHeartbeats 1000000 in
theorem table_any (a1 a2 a3 a4 : Bool) (w : World) :
    Calls Try.prog 11 #[.bool a1, .bool a2, .bool a3, .bool a4] w fun e w' => e = .returned (.string (tb a1 a2 a3 a4)) ∧ w' = w := by
  cases a1 <;> cases a2 <;> cases a3 <;> cases a4
  all_goals
    go_enter Try.func11, Try.ntmps11
    go_wp2_with fail
    go_ret
    exact ⟨ret_str (by decide +kernel), rfl⟩

theorem below_trans_c {w w1 w2 : World} (h : Below w.heap.size w w1) (h2 : Below w1.heap.size w1 w2) : Below w.heap.size w w2 := h.trans (h2.mono h.size)

set_option maxRecDepth 100000 in
set_option maxHeartbeats 1000000 in
theorem case_walk (a0 : ByteArray) (a1 a2 a3 a4 : Bool) (a5 a6 a7 : ByteArray) (w0 : a0.size ≤ maxLen) (w5 : a5.size ≤ maxLen) (w6 : a6.size ≤ maxLen) (w7 : a7.size ≤ maxLen) (w : World) :
    Calls Try.prog 3 #[.string a0, .bool a1, .bool a2, .bool a3, .bool a4, .string a5, .string a6, .string a7] w fun e w' => e = .returned (.bool true) ∧ Below w.heap.size w w' := by
  go_enter Try.func3, Try.ntmps3
  go_wp2_with fail
  refine (bytesCase_any a0 a1 a2 a3 a4 a5 a6 a7 w0 w5 w6 w7 w).mono ?_
  rintro e w' ⟨⟨r, rfl⟩, rfl⟩
  cases r with
  | false =>
    go_wp2_with fail
    go_ret
    exact ⟨rfl, Below.refl _ _⟩
  | true =>
    go_wp2_with fail
    refine (tooBig_any a0 a5 a6 a7 w0 w5 w6 w7 w').mono ?_
    rintro e w1 ⟨⟨r, rfl⟩, rfl⟩
    cases r with
    | true =>
      go_wp2_with fail
      go_ret
      exact ⟨rfl, Below.refl _ _⟩
    | false =>
      go_wp2_with fail
      refine (volume_any a0 a1 a2 a3 a4 a5 a6 a7 w1).mono ?_
      rintro e w2 ⟨rfl, hV, b2⟩
      go_wp2_with fail
      refine (zz_any w1.heap.size a1 a2 a3 a4 w2 hV).mono ?_
      rintro e w3 ⟨a, n, c, rfl, hN, b3⟩
      have B3 := below_trans_c b2 b3
      have hn4 : n ≤ 4 := by have h1 := lc_len a1 a2 a3 a4 4; have h2 := hN.1; omega
      have HT : Hid (tb a1 a2 a3 a4 = jnTo (lc a1 a2 a3 a4 4) n) := by rw [← hN.1]; rfl
      have HL : Hid (((lc a1 a2 a3 a4 4).length : Int) = (n : Int)) := by rw [hN.1]; rfl
      clear b2 b3 hV
      go_wp2_with fail
      refine (count_any a1 a2 a3 a4 w3).mono ?_
      rintro e w4 ⟨rfl, rfl⟩
      rw [HL.out]
      go_wp2_with fail
      refine (join_any a n c _ w4 hN hn4).mono ?_
      rintro e w5' ⟨rfl, rfl⟩
      go_wp2_with fail
      refine (table_any a1 a2 a3 a4 w5').mono ?_
      rintro e w6' ⟨rfl, rfl⟩
      rw [HT.out]
      generalize jnTo (lc a1 a2 a3 a4 4) n = t
      clear HT HL hN
      go_wp2_with fail
      go_ret
      exact ⟨by simp, B3⟩
end Go.Proofs.Qxb6603560a
