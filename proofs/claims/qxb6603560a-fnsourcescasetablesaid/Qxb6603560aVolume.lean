/-
  Seat b6603560a. The walk of manifestB1Volume: a new volume whose four pointers are nil or not.
-/
import Derived.Test.Qxb6603560aGuards
namespace Go.Proofs.Qxb6603560a
open Go.RowKit

/-- A pointer that is there (b) or nil (not b). -/
def Ptr (b : Bool) (v : Value) : Prop := ∃ p : Option Addr, v = .pointer p ∧ p.isSome = b
/-- The volume at block g. -/
def Vol (w : World) (g : Nat) (b1 b2 b3 b4 : Bool) : Prop :=
  g < w.heap.size ∧ (∃ v, w.cell? ⟨g, 1, none⟩ = some v ∧ Ptr b1 v) ∧ (∃ v, w.cell? ⟨g, 2, none⟩ = some v ∧ Ptr b2 v) ∧ (∃ v, w.cell? ⟨g, 3, none⟩ = some v ∧ Ptr b3 v) ∧ (∃ v, w.cell? ⟨g, 4, none⟩ = some v ∧ Ptr b4 v)
theorem ptr_nil : Ptr false (.pointer none) := ⟨none, rfl, rfl⟩
theorem ptr_at (a : Addr) : Ptr true (.pointer (some a)) := ⟨some a, rfl, rfl⟩

theorem vol_of {w w' : World} {x v1 v2 v3 v4 : Value} {b1 b2 b3 b4 : Bool} (hb : Below (w.heap.size + 1) (w.alloc (.cells #[x, v1, v2, v3, v4] 36)) w') (h1 : Ptr b1 v1) (h2 : Ptr b2 v2) (h3 : Ptr b3 v3) (h4 : Ptr b4 v4) :
    Vol w' w.heap.size b1 b2 b3 b4 ∧ Below w.heap.size w w' := by
  have hs := hb.size
  simp at hs
  have hc : ∀ o v, (w.alloc (.cells #[x, v1, v2, v3, v4] 36)).cell? ⟨w.heap.size, o, none⟩ = some v → w'.cell? ⟨w.heap.size, o, none⟩ = some v := fun o v h => (hb.cell (p := ⟨w.heap.size, o, none⟩) (by simp)).trans h
  refine ⟨⟨by omega, ⟨v1, hc _ _ (by simp [go_sem]), h1⟩, ⟨v2, hc _ _ (by simp [go_sem]), h2⟩, ⟨v3, hc _ _ (by simp [go_sem]), h3⟩, ⟨v4, hc _ _ (by simp [go_sem]), h4⟩⟩, ?_⟩
  exact ((Below.refl w.heap.size w).alloc (Nat.le_refl _) _).trans (hb.mono (by omega))

set_option maxRecDepth 100000 in
set_option maxHeartbeats 4000000 in
theorem volume_any (a0 : ByteArray) (a1 a2 a3 a4 : Bool) (a5 a6 a7 : ByteArray) (w : World) :
    Calls Try.prog 7 #[.string a0, .bool a1, .bool a2, .bool a3, .bool a4, .string a5, .string a6, .string a7] w fun e w' => e = .returned (.pointer (some ⟨w.heap.size, 0, none⟩)) ∧ Vol w' w.heap.size a1 a2 a3 a4 ∧ Below w.heap.size w w' := by
  cases a1 <;> cases a2 <;> cases a3 <;> cases a4
  all_goals
    go_enter Try.func7, Try.ntmps7
    go_wp2_with fail
    go_ret
    refine ⟨rfl, vol_of (by repeat (first | exact Below.refl _ _ | refine Below.alloc ?_ (by simp <;> omega) _)) ?_ ?_ ?_ ?_⟩
    all_goals first | exact ptr_nil | exact ptr_at _
end Go.Proofs.Qxb6603560a
