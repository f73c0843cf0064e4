/-
  Seat b6603560a. The walks of the guards: zzBytes_FnSourcesCaseTable, zzBytes_FnSourcesRoundTrip, manifestB1TooBig.
-/
import Derived.Test.Qxb6603560aRows
import Derived.WalkKit
import Derived.WalkLawsBesides
namespace Go.Proofs.Qxb6603560a
open Go.RowKit

/-- It answered some bool. -/
def ABool (e : Ending) : Prop := ∃ r : Bool, e = .returned (.bool r)

theorem bytesCase_any (a0 : ByteArray) (a1 a2 a3 a4 : Bool) (a5 a6 a7 : ByteArray) (w0 : a0.size ≤ maxLen) (w5 : a5.size ≤ maxLen) (w6 : a6.size ≤ maxLen) (w7 : a7.size ≤ maxLen) (w : World) :
    Calls Try.prog 5 #[.string a0, .bool a1, .bool a2, .bool a3, .bool a4, .string a5, .string a6, .string a7] w fun e w' => ABool e ∧ w' = w := by
  unfold maxLen at w0 w5 w6 w7
  go_enter Try.func5, Try.ntmps5
  go_wp2_with fail
  all_goals
    go_ret
    exact ⟨⟨_, rfl⟩, rfl⟩
theorem bytesTrip_any (a0 : ByteArray) (a1 a2 a3 a4 : Bool) (a5 a6 a7 : ByteArray) (w0 : a0.size ≤ maxLen) (w5 : a5.size ≤ maxLen) (w6 : a6.size ≤ maxLen) (w7 : a7.size ≤ maxLen) (w : World) :
    Calls Try.prog 12 #[.string a0, .bool a1, .bool a2, .bool a3, .bool a4, .string a5, .string a6, .string a7] w fun e w' => ABool e ∧ w' = w := by
  unfold maxLen at w0 w5 w6 w7
  go_enter Try.func12, Try.ntmps12
  go_wp2_with fail
  all_goals
    go_ret
    exact ⟨⟨_, rfl⟩, rfl⟩
theorem tooBig_any (a b c d : ByteArray) (w0 : a.size ≤ maxLen) (w1 : b.size ≤ maxLen) (w2 : c.size ≤ maxLen) (w3 : d.size ≤ maxLen) (w : World) :
    Calls Try.prog 6 #[.string a, .string b, .string c, .string d] w fun e w' => ABool e ∧ w' = w := by
  unfold maxLen at w0 w1 w2 w3
  by_cases h0 : (a.size : Int) ≤ 1048576
  · by_cases h1 : (b.size : Int) ≤ 1048576
    · by_cases h2 : (c.size : Int) ≤ 1048576
      · by_cases h3 : (d.size : Int) ≤ 1048576
        · go_enter Try.func6, Try.ntmps6
          go_wp2_with fail
          all_goals
            go_ret
            exact ⟨⟨_, rfl⟩, rfl⟩
        · go_enter Try.func6, Try.ntmps6
          go_wp2_with fail
          go_ret
          exact ⟨⟨_, rfl⟩, rfl⟩
      · go_enter Try.func6, Try.ntmps6
        go_wp2_with fail
        go_ret
        exact ⟨⟨_, rfl⟩, rfl⟩
    · go_enter Try.func6, Try.ntmps6
      go_wp2_with fail
      go_ret
      exact ⟨⟨_, rfl⟩, rfl⟩
  · go_enter Try.func6, Try.ntmps6
    go_wp2_with fail
    go_ret
    exact ⟨⟨_, rfl⟩, rfl⟩
end Go.Proofs.Qxb6603560a
