/-
  Seat b6603280a. The walk of (Vector).Compare.
-/
import Derived.Test.Qxb6603280aCmp
import Derived.Test.Qxb6603280aNew
import Derived.Deep.QuietTactic
import Derived.BigQuiet
namespace Go.Proofs.Qxb6603280a
open Go.RowKit

theorem Ents.later {w w' : World} {B g n k : Nat} {S : List ByteArray} {Z : List Int} (h : Ents w g n k S Z) (hb : Below B w w') (hB : B = w.heap.size) : Ents w' g n k S Z := by
  subst hB
  obtain ⟨h0, h1, h2⟩ := h
  refine ⟨Nat.lt_of_lt_of_le h0 hb.size, fun j hj => ⟨?_, ?_⟩, fun i hi => ?_⟩
  · obtain ⟨v, hv⟩ := (h1 j hj).1
    exact ⟨v, (hb.cell (p := ⟨g, j, none⟩) h0).trans hv⟩
  · exact (hb.frozen (p := ⟨g, j, none⟩) h0).trans (h1 j hj).2
  · obtain ⟨q1, q2⟩ := h2 i hi
    exact ⟨(hb.cell (p := ⟨g, i * 2, none⟩) h0).trans q1, (hb.cell (p := ⟨g, i * 2 + 1, none⟩) h0).trans q2⟩

/-- What stays of the world while Compare goes round. -/
structure In (w : World) (g n g' n' : Nat) (S : List ByteArray) (Z : List Int) (S' : List ByteArray) (Z' : List Int) (wr : World) : Prop where
  box1 : wr.cell? ⟨w.heap.size, 0, none⟩ = some (.slice (some ⟨g, 0, none⟩) n n)
  box2 : wr.cell? ⟨w.heap.size + 1, 0, none⟩ = some (.slice (some ⟨g', 0, none⟩) n' n')
  e1 : Ents wr g n n S Z
  e2 : Ents wr g' n' n' S' Z'
  bel : Below w.heap.size w wr

theorem In.drewN {w : World} {g n g' n' : Nat} {S : List ByteArray} {Z : List Int} {S' : List ByteArray} {Z' : List Int} {wr : World} (h : In w g n g' n' S Z S' Z' wr) (m : Nat) : In w g n g' n' S Z S' Z' (wr.drewN m) :=
  ⟨h.box1, h.box2, h.e1, h.e2, below_drewN h.bel m⟩

set_option maxRecDepth 100000 in
set_option maxHeartbeats 1000000 in
/-- (Vector).Compare, on two valid vectors. -/
theorem compare_any (g n : Nat) (S : List ByteArray) (Z : List Int) (g' n' : Nat) (S' : List ByteArray) (Z' : List Int) (w : World) (hE : Ents w g n n S Z) (hE' : Ents w g' n' n' S' Z') (hn : n ≤ 65536) (hn' : n' ≤ 65536)
    (hS : S.length = n) (hS' : S'.length = n') (v : Vec S Z) (v' : Vec S' Z') :
    Calls Try.prog 12 #[.agg #[.slice (some ⟨g, 0, none⟩) n n], .agg #[.slice (some ⟨g', 0, none⟩) n' n']] w fun e w' => e = .returned (.string (ordOf (bhd S Z S' Z') (bhd S' Z' S Z))) ∧ Below w.heap.size w w' := by
  have HS : Hid (S.length = n) := hS
  have HS' : Hid (S'.length = n') := hS'
  clear hS hS'
  have B2 : ∀ o1 o2, Below w.heap.size w ((w.alloc o1).alloc o2) := fun o1 o2 => ((Below.refl w.heap.size w).alloc (Nat.le_refl _) o1).alloc (by simp) o2
  have I0 : In w g n g' n' S Z S' Z' ((w.alloc (.cells #[.slice (some ⟨g, 0, none⟩) n n] 31)).alloc (.cells #[.slice (some ⟨g', 0, none⟩) n' n'] 31)) :=
    ⟨by simp [go_sem], by simp [go_sem], hE.later (B2 _ _) rfl, hE'.later (B2 _ _) rfl, B2 _ _⟩
  clear B2
  go_enter Try.func12, Try.ntmps12
  go_wp2_with fail
  go_loopw [5, 6, 7, 8] (fun be ah i j wr => ∃ (p q : Nat) (bb aa : Bool), p ≤ n ∧ q ≤ n' ∧ i = .int .i64 p ∧ j = .int .i64 q ∧ be = .bool bb ∧ ah = .bool aa ∧ Mrg S Z S' Z' p q bb aa ∧ In w g n g' n' S Z S' Z' wr) (fun _ _ i j _ => (n - (intOf i).toNat) + (n' - (intOf j).toNat))
  case atStart => exact ⟨0, 0, false, false, Nat.zero_le _, Nat.zero_le _, rfl, rfl, rfl, rfl, Mrg.start S Z S' Z', I0⟩
  case round =>
    clear I0
    obtain ⟨p, q, bb, aa, hp, hq, rfl, rfl, rfl, rfl, hM, hI⟩ := hrel
    have hx1 := hI.box1
    have hx2 := hI.box2
    by_cases hpn : p < n
    · by_cases hqn : q < n'
      · obtain ⟨c1, c2⟩ := hI.e1.2.2 p hpn
        obtain ⟨c3, c4⟩ := hI.e2.2.2 q hqn
        have ip : (p : Int) < (n : Int) := by omega
        have iq : (q : Int) < (n' : Int) := by omega
        have lp : p < S.length := by have := HS.out; omega
        have lq : q < S'.length := by have := HS'.out; omega
        by_cases hlt : cmpK (sAt S p) (sAt S' q) < 0
        · have HN : Hid (Mrg S Z S' Z' (p + 1) q bb true) := hM.left v v' lp (by omega) (fun _ => key_cmp_lt hlt)
          go_wp2_with fail
          go_quiet ((go_at_call 20; exact Calls.quiet_of_same (cmp_any _ _ _)))
          go_wp2_with fail
          go_roundw
          case rel => exact ⟨p + 1, q, bb, true, by omega, hq, by go_num, rfl, rfl, rfl, HN.out, hI.drewN _⟩
          case measure => simp [intOf]; omega
        · by_cases hgt : 0 < cmpK (sAt S p) (sAt S' q)
          · have HN : Hid (Mrg S Z S' Z' p (q + 1) true aa) := hM.right v v' (by omega) lq (fun _ => key_cmp_gt hgt)
            go_wp2_with fail
            go_quiet ((go_at_call 20; exact Calls.quiet_of_same (cmp_any _ _ _)))
            go_wp2_with fail
            go_roundw
            case rel => exact ⟨p, q + 1, true, aa, hp, by omega, rfl, by go_num, rfl, rfl, HN.out, hI.drewN _⟩
            case measure => simp [intOf]; omega
          · have HN : Hid (Mrg S Z S' Z' (p + 1) (q + 1) (bb || decide (nAt Z p < nAt Z' q)) (aa || decide (nAt Z' q < nAt Z p))) := hM.both v v' lp lq (key_cmp_eq (by omega))
            cases bb <;> cases aa
            all_goals
              go_wp2_with fail
              go_quiet ((go_at_call 20; exact Calls.quiet_of_same (cmp_any _ _ _)))
              go_wp2_with fail
              go_quiet (fail)
              go_wp2_with fail
              go_quiet (fail)
              go_wp2_with fail
              go_roundw
              case rel => exact ⟨p + 1, q + 1, _, _, by omega, by omega, by go_num, by go_num, rfl, rfl, HN.out, hI.drewN _⟩
              case measure => simp [intOf]; omega
      · have HN : Hid (Mrg S Z S' Z' (p + 1) q bb true) := hM.left v v' (by have := HS.out; omega) (by have := HS'.out; omega) (fun h => by have := HS'.out; omega)
        go_wp2_with fail
        go_roundw
        case rel => exact ⟨p + 1, q, bb, true, by omega, hq, by go_num, rfl, rfl, rfl, HN.out, hI⟩
        case measure => simp [intOf]; omega
    · by_cases hqn : q < n'
      · have HN : Hid (Mrg S Z S' Z' p (q + 1) true aa) := hM.right v v' (by have := HS.out; omega) (by have := HS'.out; omega) (fun h => by have := HS.out; omega)
        go_wp2_with fail
        go_roundw
        case rel => exact ⟨p, q + 1, true, aa, hp, by omega, rfl, by go_num, rfl, rfl, HN.out, hI⟩
        case measure => simp [intOf]; omega
      · have HD := hM.done (by have := HS.out; omega) (by have := HS'.out; omega)
        have HR : Hid (ordOf (bhd S Z S' Z') (bhd S' Z' S Z) = ordOf bb aa) := by
          rw [HD.1, HD.2]
          rfl
        clear HD
        cases bb <;> cases aa
        all_goals
          go_wp2_with fail
          go_ret
          exact ⟨ret_str HR.out.symm, hI.bel⟩
end Go.Proofs.Qxb6603280a
