/-
  Seat b6603280a. The walk of zzValidVector.
-/
import Derived.Test.Qxb6603280aGuards
import Derived.Deep.QuietTactic
import Derived.BigQuiet
namespace Go.Proofs.Qxb6603280a
open Go.RowKit

/-- What zzValidVector has seen of the first k pairs. -/
def ValTo (S : List ByteArray) (Z : List Int) (k : Nat) : Prop :=
  (∀ i, i < k → nAt Z i ≠ 0) ∧ ∀ i, i + 1 < k → Op.bytesLess (sAt S i).toList (sAt S (i + 1)).toList = true
/-- A vector as the type documents it. -/
def Val (S : List ByteArray) (Z : List Int) : Prop := S.length = Z.length ∧ ValTo S Z S.length
def ABoolIf (e : Ending) (p : Prop) : Prop := ∃ r : Bool, e = .returned (.bool r) ∧ (r = true → p)
def Drawn (w w' : World) : Prop := ∃ m, w' = w.drewN m

theorem ValTo.zero (S : List ByteArray) (Z : List Int) : ValTo S Z 0 := ⟨fun _ h => absurd h (by omega), fun _ h => absurd h (by omega)⟩
theorem ValTo.one {S : List ByteArray} {Z : List Int} (h : nAt Z 0 ≠ 0) : ValTo S Z 1 :=
  ⟨fun i hi => by obtain rfl : i = 0 := by omega
                  exact h, fun _ h => absurd h (by omega)⟩
theorem ValTo.next {S : List ByteArray} {Z : List Int} {j : Nat} (h : ValTo S Z (j + 1)) (hz : nAt Z (j + 1) ≠ 0) (hs : Op.bytesLess (sAt S j).toList (sAt S (j + 1)).toList = true) : ValTo S Z (j + 1 + 1) := by
  refine ⟨fun i hi => ?_, fun i hi => ?_⟩
  · by_cases e : i = j + 1
    · subst e; exact hz
    · exact h.1 i (by omega)
  · by_cases e : i = j
    · subst e; exact hs
    · exact h.2 i (by omega)

set_option maxHeartbeats 400000 in
/-- zzValidVector. -/
theorem valid_any (a : Option Addr) (n c : Nat) (S : List ByteArray) (a' : Option Addr) (n' c' : Nat) (Z : List Int) (w : World) (hS : Strs w a n S) (hZ : Nums w a' n' Z) (hn : n ≤ maxLen) :
    Calls Try.prog 8 #[.slice a n c, .slice a' n' c'] w fun e w' => ABoolIf e (Val S Z) ∧ Drawn w w' := by
  unfold maxLen at hn
  by_cases hnn : n = n'
  · subst hnn
    go_enter Try.func8, Try.ntmps8
    go_wp2_with fail
    go_loopw [5] (fun i wr => ∃ (k : Nat), k ≤ n ∧ i = .int .i64 k ∧ ValTo S Z k ∧ Drawn w wr) (fun i _ => n - (intOf i).toNat)
    case atStart => exact ⟨0, Nat.zero_le _, rfl, ValTo.zero S Z, 0, rfl⟩
    case round =>
      obtain ⟨k, hk, rfl, hv, m, rfl⟩ := hrel
      by_cases hlt : k < n
      · obtain ⟨b, off, rfl, hb, hc⟩ := hS.2.2 k hlt
        obtain ⟨b', off', rfl, hb', hc'⟩ := hZ.2.2 k hlt
        by_cases hz : nAt Z k = 0
        · have hz' : (nAt Z k == 0) = true := by simp [hz]
          go_wp2_with fail
          go_ret
          exact ⟨⟨_, rfl, fun h => by cases h⟩, _, rfl⟩
        · have hz' : (nAt Z k == 0) = false := by simp [hz]
          by_cases hk0 : k = 0
          · have hg : decide ((0 : Int) < (k : Int)) = false := decide_eq_false (by omega)
            have hg2 : decide (0 < k) = false := decide_eq_false (by omega)
            have HK : Hid (k = 0) := hk0
            have HZ : Hid (nAt Z k ≠ 0) := hz
            clear hk0 hz
            go_wp2_with fail
            go_quiet (fail)
            go_wp2_with fail
            go_roundw
            case rel => exact ⟨k + 1, by omega, by go_num, (by have hz := HZ.out; have hk := HK.out; subst hk; exact ValTo.one hz), _, rfl⟩
            case measure => simp [intOf]; omega
          · obtain ⟨j, rfl⟩ : ∃ j, k = j + 1 := ⟨k - 1, by omega⟩
            have hg : (0 : Int) < (j : Int) + 1 := by omega
            have hlt' : (j : Int) + 1 < (n : Int) := by omega
            have hj1 : (j : Int) < (n : Int) := by omega
            obtain ⟨b2, off2, he, _, hc2⟩ := hS.2.2 j (by omega)
            obtain ⟨rfl, rfl⟩ : b = b2 ∧ off = off2 := by simpa using he
            have HZ : Hid (nAt Z (j + 1) ≠ 0) := hz
            clear hk0 hz he
            by_cases hs : Op.bytesLess (sAt S j).toList (sAt S (j + 1)).toList = true
            · go_wp2_with fail
              go_quiet (fail)
              go_wp2_with fail
              go_roundw
              case rel => exact ⟨j + 1 + 1, by omega, by go_num, hv.next HZ.out hs, _, rfl⟩
              case measure => simp [intOf]; omega
            · have hs' : Op.bytesLess (sAt S j).toList (sAt S (j + 1)).toList = false := by simpa using hs
              clear hs
              go_wp2_with fail
              go_quiet (fail)
              go_wp2_with fail
              go_ret
              exact ⟨⟨_, rfl, fun h => by cases h⟩, _, World.drewN_drewN _ _ _⟩
      · have hkn : k = n := by omega
        have HV : Hid (Val S Z) := ⟨by rw [hS.1, hZ.1], by rw [hS.1, ← hkn]; exact hv⟩
        clear hkn
        go_wp2_with fail
        go_ret
        exact ⟨⟨_, rfl, fun _ => HV.out⟩, _, rfl⟩
  · have hne : ((n : Int) == (n' : Int)) = false := by rw [beq_eq_false_iff_ne]; omega
    go_enter Try.func8, Try.ntmps8
    go_wp2_with fail
    go_ret
    exact ⟨⟨_, rfl, fun h => by cases h⟩, 0, rfl⟩
end Go.Proofs.Qxb6603280a
