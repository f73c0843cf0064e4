/-
  Seat b6603280a. The words by which the walks are told of a slice, and the walks of the guards: zzAdd, zzStringsBytes, zzVectorBytes, zzBytes_FnVectorCompareMatchesEntrywiseOrder.
-/
import Derived.Test.Qxb6603280aRows
import Derived.Test.Qxb6603280aPlain
import Derived.WalkKit
import Derived.WalkLawsBesides
namespace Go.Proofs.Qxb6603280a
open Go.RowKit

/-- The i-th string, the i-th number: under names of their own, so that the walk leaves them as they are. -/
def sAt (S : List ByteArray) (i : Nat) : ByteArray := S.getD i ByteArray.empty
def nAt (Z : List Int) (i : Nat) : Int := Z.getD i 0

/-- A slice of strings: its elements are S; where there is one, its place is known. -/
def Strs (w : World) (a : Option Addr) (n : Nat) (S : List ByteArray) : Prop :=
  S.length = n ∧ (∀ s ∈ S, s.size ≤ maxLen) ∧ ∀ i, i < n → ∃ b off, a = some ⟨b, off, none⟩ ∧ b < w.heap.size ∧ w.cell? ⟨b, off + i, none⟩ = some (.string (sAt S i))
/-- A slice of uint64. -/
def Nums (w : World) (a : Option Addr) (n : Nat) (Z : List Int) : Prop :=
  Z.length = n ∧ (∀ z ∈ Z, 0 ≤ z ∧ z < 18446744073709551616) ∧ ∀ i, i < n → ∃ b off, a = some ⟨b, off, none⟩ ∧ b < w.heap.size ∧ w.cell? ⟨b, off + i, none⟩ = some (.int .u64 (nAt Z i))

theorem Strs.later {w w' : World} {B : Nat} {a : Option Addr} {n : Nat} {S : List ByteArray} (h : Strs w a n S) (hb : Below B w w') (hB : B = w.heap.size) : Strs w' a n S := by
  subst hB
  refine ⟨h.1, h.2.1, fun i hi => ?_⟩
  obtain ⟨b, off, h1, h2, h3⟩ := h.2.2 i hi
  exact ⟨b, off, h1, Nat.lt_of_lt_of_le h2 hb.size, (hb.cell (p := ⟨b, off + i, none⟩) h2).trans h3⟩
theorem Nums.later {w w' : World} {B : Nat} {a : Option Addr} {n : Nat} {Z : List Int} (h : Nums w a n Z) (hb : Below B w w') (hB : B = w.heap.size) : Nums w' a n Z := by
  subst hB
  refine ⟨h.1, h.2.1, fun i hi => ?_⟩
  obtain ⟨b, off, h1, h2, h3⟩ := h.2.2 i hi
  exact ⟨b, off, h1, Nat.lt_of_lt_of_le h2 hb.size, (hb.cell (p := ⟨b, off + i, none⟩) h2).trans h3⟩
theorem Strs.size {w : World} {a : Option Addr} {n : Nat} {S : List ByteArray} (h : Strs w a n S) (i : Nat) (hi : i < n) : (sAt S i).size ≤ maxLen := by
  have hi' : i < S.length := by have := h.1; omega
  refine h.2.1 _ ?_
  simp [sAt, List.getD, List.getElem?_eq_getElem hi']

/-- It answered some bool. -/
def ABool (e : Ending) : Prop := ∃ r : Bool, e = .returned (.bool r)

/-- zzAdd. -/
theorem add_any (t n : Int) (w : World) (h1 : 0 ≤ t) (h2 : t ≤ 1048577) (h3 : 0 ≤ n) (h4 : n ≤ 9223372036854775807) :
    Calls Try.prog 19 #[.int .i64 t, .int .i64 n] w fun e w' => ∃ r : Int, e = .returned (.int .i64 r) ∧ 0 ≤ r ∧ r ≤ 1048577 ∧ w' = w := by
  go_enter Try.func19, Try.ntmps19
  go_wp2
  · go_ret
    exact ⟨_, rfl, by omega, by omega, rfl⟩
  · go_ret
    exact ⟨_, rfl, by omega, by omega, rfl⟩

/-- zzStringsBytes. -/
theorem strsBytes_any (a : Option Addr) (n c : Nat) (S : List ByteArray) (t : Int) (w : World) (hS : Strs w a n S) (hn : n ≤ maxLen) (h1 : 0 ≤ t) (h2 : t ≤ 1048577) :
    Calls Try.prog 18 #[.slice a n c, .int .i64 t] w fun e w' => ∃ r : Int, e = .returned (.int .i64 r) ∧ 0 ≤ r ∧ r ≤ 1048577 ∧ w' = w := by
  unfold maxLen at hn
  go_enter Try.func18, Try.ntmps18
  go_wp2_with fail
  go_loop [1, 5] (fun t i => ∃ (k : Nat) (x : Int), k ≤ n ∧ 0 ≤ x ∧ x ≤ 1048577 ∧ i = .int .i64 k ∧ t = .int .i64 x) (fun _ i => n - (intOf i).toNat)
  case atStart => exact ⟨0, t, Nat.zero_le _, h1, h2, rfl, rfl⟩
  case round =>
    obtain ⟨k, x, hk, hx1, hx2, rfl, rfl⟩ := hrel
    by_cases hlt : k < n
    · obtain ⟨b, off, rfl, hb, hc⟩ := hS.2.2 k hlt
      have hsz := hS.size k hlt
      unfold maxLen at hsz
      go_wp2_with (go_at_call 19; refine (add_any _ _ _ (by omega) (by omega) (by omega) (by omega)).mono ?_; rintro e w' ⟨r, rfl, hr1, hr2, rfl⟩)
      · go_ret
        exact ⟨_, rfl, by omega, by omega, rfl⟩
      · go_round
        case rel => exact ⟨k + 1, _, by omega, by assumption, by omega, by go_num, rfl⟩
        case measure => simp [intOf]; omega
    · go_wp2_with fail
      go_ret
      exact ⟨_, rfl, by omega, by omega, rfl⟩

/-- zzVectorBytes. -/
theorem vecBytes_any (a : Option Addr) (n c : Nat) (S : List ByteArray) (a' : Option Addr) (n' c' : Nat) (t : Int) (w : World) (hS : Strs w a n S) (hn : n ≤ maxLen) (hn' : n' ≤ 65536) (h1 : 0 ≤ t) (h2 : t ≤ 1048577) :
    Calls Try.prog 7 #[.slice a n c, .slice a' n' c', .int .i64 t] w fun e w' => ∃ r : Int, e = .returned (.int .i64 r) ∧ 0 ≤ r ∧ r ≤ 1048577 ∧ w' = w := by
  go_enter Try.func7, Try.ntmps7
  go_wp2_with fail
  refine (strsBytes_any a n c S t w hS hn h1 h2).mono ?_
  rintro e w' ⟨r, rfl, hr1, hr2, rfl⟩
  go_wp2_with fail
  refine (add_any _ _ _ (by omega) (by omega) (by omega) (by omega)).mono ?_
  rintro e w' ⟨r', rfl, hr1', hr2', rfl⟩
  go_wp2_with fail
  go_ret
  exact ⟨_, rfl, hr1', hr2', rfl⟩

/-- zzBytes_FnVectorCompareMatchesEntrywiseOrder: it answers something. -/
theorem bytes_any (a : Option Addr) (n c : Nat) (S : List ByteArray) (a1 : Option Addr) (n1 c1 : Nat) (a2 : Option Addr) (n2 c2 : Nat) (S2 : List ByteArray) (a3 : Option Addr) (n3 c3 : Nat) (w : World)
    (hS : Strs w a n S) (hn : n ≤ maxLen) (hn1 : n1 ≤ maxLen) (hS2 : Strs w a2 n2 S2) (hn2 : n2 ≤ maxLen) (hn3 : n3 ≤ maxLen) :
    Calls Try.prog 6 #[.slice a n c, .slice a1 n1 c1, .slice a2 n2 c2, .slice a3 n3 c3] w fun e w' => ABool e ∧ w' = w := by
  unfold maxLen at hn hn1 hn2 hn3
  by_cases g0 : (n : Int) ≤ 1048576
  · go_enter Try.func6, Try.ntmps6
    go_wp2_with fail
    go_loop [9, 10] (fun t i => ∃ (k : Nat) (x : Int), k ≤ n ∧ 0 ≤ x ∧ x ≤ 1048576 ∧ i = .int .i64 k ∧ t = .int .i64 x) (fun _ i => n - (intOf i).toNat)
    case atStart => exact ⟨0, n, Nat.zero_le _, by omega, by omega, rfl, rfl⟩
    case round =>
      obtain ⟨k, x, hk, hx1, hx2, rfl, rfl⟩ := hrel
      by_cases hlt : k < n
      · obtain ⟨b, off, rfl, hb, hc⟩ := hS.2.2 k hlt
        have hsz := hS.size k hlt
        unfold maxLen at hsz
        go_wp2_with fail
        · go_ret
          exact ⟨⟨_, rfl⟩, rfl⟩
        · go_ret
          exact ⟨⟨_, rfl⟩, rfl⟩
        · go_round
          case rel => exact ⟨k + 1, _, by omega, by omega, by omega, by go_num, rfl⟩
          case measure => simp [intOf]; omega
      · by_cases g1 : (n1 : Int) ≤ 1048576
        · by_cases g1' : x + (n1 : Int) ≤ 1048576
          · by_cases g2 : (n2 : Int) ≤ 1048576
            · by_cases g2' : x + (n1 : Int) + (n2 : Int) ≤ 1048576
              · go_wp2_with fail
                go_loop [9, 11] (fun t i => ∃ (k : Nat) (x : Int), k ≤ n2 ∧ 0 ≤ x ∧ x ≤ 1048576 ∧ i = .int .i64 k ∧ t = .int .i64 x) (fun _ i => n2 - (intOf i).toNat)
                case atStart => exact ⟨0, _, Nat.zero_le _, by omega, by omega, rfl, rfl⟩
                case round =>
                  obtain ⟨k2, x2, hk2, hx12, hx22, rfl, rfl⟩ := hrel
                  by_cases hlt2 : k2 < n2
                  · obtain ⟨b2, off2, rfl, hb2, hc2⟩ := hS2.2.2 k2 hlt2
                    have hsz2 := hS2.size k2 hlt2
                    unfold maxLen at hsz2
                    go_wp2_with fail
                    · go_ret
                      exact ⟨⟨_, rfl⟩, rfl⟩
                    · go_ret
                      exact ⟨⟨_, rfl⟩, rfl⟩
                    · go_round
                      case rel => exact ⟨k2 + 1, _, by omega, by omega, by omega, by go_num, rfl⟩
                      case measure => simp [intOf]; omega
                  · go_wp2_with fail
                    all_goals
                      go_ret
                      exact ⟨⟨_, rfl⟩, rfl⟩
              · go_wp2_with fail
                go_ret
                exact ⟨⟨_, rfl⟩, rfl⟩
            · go_wp2_with fail
              go_ret
              exact ⟨⟨_, rfl⟩, rfl⟩
          · go_wp2_with fail
            go_ret
            exact ⟨⟨_, rfl⟩, rfl⟩
        · go_wp2_with fail
          go_ret
          exact ⟨⟨_, rfl⟩, rfl⟩
  · go_enter Try.func6, Try.ntmps6
    go_wp2_with fail
    go_ret
    exact ⟨⟨_, rfl⟩, rfl⟩
end Go.Proofs.Qxb6603280a
