/-
  Seat b6603560a. The walk of the law FnSourcesRoundTrip.
-/
import Derived.Test.Qxb6603560aSources
import Derived.Deep.QuietTactic
import Derived.BigQuiet
namespace Go.Proofs.Qxb6603560a
open Go.RowKit

/-- The four flags behind k names of L. -/
def Fl (L : List Nat) (k : Nat) (f1 f2 f3 f4 : Bool) : Prop :=
  f1 = (L.take k).contains 0 ∧ f2 = (L.take k).contains 1 ∧ f3 = (L.take k).contains 2 ∧ f4 = (L.take k).contains 3
theorem fl_start (L : List Nat) : Fl L 0 false false false false := by simp [Fl]
theorem fl_all : ∀ (b1 b2 b3 b4 : Bool) (k : Fin 4), k.val < (lc b1 b2 b3 b4 4).length →
    let L := lc b1 b2 b3 b4 4
    (L.getD k.val 0 = 0 ∧ (L.take k.val).contains 0 = false ∧ (L.take (k.val + 1)).contains 0 = true ∧ (L.take (k.val + 1)).contains 1 = (L.take k.val).contains 1 ∧ (L.take (k.val + 1)).contains 2 = (L.take k.val).contains 2 ∧ (L.take (k.val + 1)).contains 3 = (L.take k.val).contains 3) ∨
    (L.getD k.val 0 = 1 ∧ (L.take k.val).contains 1 = false ∧ (L.take (k.val + 1)).contains 1 = true ∧ (L.take (k.val + 1)).contains 0 = (L.take k.val).contains 0 ∧ (L.take (k.val + 1)).contains 2 = (L.take k.val).contains 2 ∧ (L.take (k.val + 1)).contains 3 = (L.take k.val).contains 3) ∨
    (L.getD k.val 0 = 2 ∧ (L.take k.val).contains 2 = false ∧ (L.take (k.val + 1)).contains 2 = true ∧ (L.take (k.val + 1)).contains 0 = (L.take k.val).contains 0 ∧ (L.take (k.val + 1)).contains 1 = (L.take k.val).contains 1 ∧ (L.take (k.val + 1)).contains 3 = (L.take k.val).contains 3) ∨
    (L.getD k.val 0 = 3 ∧ (L.take k.val).contains 3 = false ∧ (L.take (k.val + 1)).contains 3 = true ∧ (L.take (k.val + 1)).contains 0 = (L.take k.val).contains 0 ∧ (L.take (k.val + 1)).contains 1 = (L.take k.val).contains 1 ∧ (L.take (k.val + 1)).contains 2 = (L.take k.val).contains 2) := by
  decide
theorem fl_step {b1 b2 b3 b4 : Bool} {k : Nat} {f1 f2 f3 f4 : Bool} (hk : k < (lc b1 b2 b3 b4 4).length) (h : Fl (lc b1 b2 b3 b4 4) k f1 f2 f3 f4) :
    ((lc b1 b2 b3 b4 4).getD k 0 = 0 ∧ f1 = false ∧ Fl (lc b1 b2 b3 b4 4) (k + 1) true f2 f3 f4) ∨ ((lc b1 b2 b3 b4 4).getD k 0 = 1 ∧ f2 = false ∧ Fl (lc b1 b2 b3 b4 4) (k + 1) f1 true f3 f4) ∨
    ((lc b1 b2 b3 b4 4).getD k 0 = 2 ∧ f3 = false ∧ Fl (lc b1 b2 b3 b4 4) (k + 1) f1 f2 true f4) ∨ ((lc b1 b2 b3 b4 4).getD k 0 = 3 ∧ f4 = false ∧ Fl (lc b1 b2 b3 b4 4) (k + 1) f1 f2 f3 true) := by
  have hl := lc_len b1 b2 b3 b4 4
  obtain ⟨rfl, rfl, rfl, rfl⟩ := h
  rcases fl_all b1 b2 b3 b4 ⟨k, by omega⟩ hk with ⟨a1, a2, a3, a4, a5, a6⟩ | ⟨a1, a2, a3, a4, a5, a6⟩ | ⟨a1, a2, a3, a4, a5, a6⟩ | ⟨a1, a2, a3, a4, a5, a6⟩
  · exact .inl ⟨a1, a2, a3.symm, a4.symm, a5.symm, a6.symm⟩
  · exact .inr (.inl ⟨a1, a2, a4.symm, a3.symm, a5.symm, a6.symm⟩)
  · exact .inr (.inr (.inl ⟨a1, a2, a4.symm, a5.symm, a3.symm, a6.symm⟩))
  · exact .inr (.inr (.inr ⟨a1, a2, a4.symm, a5.symm, a6.symm, a3.symm⟩))
theorem fl_end_all : ∀ (b1 b2 b3 b4 : Bool), (lc b1 b2 b3 b4 4).contains 0 = b1 ∧ (lc b1 b2 b3 b4 4).contains 1 = b2 ∧ (lc b1 b2 b3 b4 4).contains 2 = b3 ∧ (lc b1 b2 b3 b4 4).contains 3 = b4 := by decide
theorem fl_end {b1 b2 b3 b4 : Bool} {k : Nat} {f1 f2 f3 f4 : Bool} (hk : (lc b1 b2 b3 b4 4).length ≤ k) (h : Fl (lc b1 b2 b3 b4 4) k f1 f2 f3 f4) : f1 = b1 ∧ f2 = b2 ∧ f3 = b3 ∧ f4 = b4 := by
  obtain ⟨rfl, rfl, rfl, rfl⟩ := h
  rw [List.take_of_length_le hk]
  exact fl_end_all b1 b2 b3 b4

theorem below_trans_to {w w1 w2 : World} (h : Below w.heap.size w w1) (h2 : Below w1.heap.size w1 w2) : Below w.heap.size w w2 := h.trans (h2.mono h.size)

set_option maxRecDepth 100000 in
set_option maxHeartbeats 4000000 in
theorem trip_walk (a0 : ByteArray) (a1 a2 a3 a4 : Bool) (a5 a6 a7 : ByteArray) (w0 : a0.size ≤ maxLen) (w5 : a5.size ≤ maxLen) (w6 : a6.size ≤ maxLen) (w7 : a7.size ≤ maxLen) (w : World) :
    Calls Try.prog 4 #[.string a0, .bool a1, .bool a2, .bool a3, .bool a4, .string a5, .string a6, .string a7] w fun e w' => e = .returned (.bool true) ∧ Below w.heap.size w w' := by
  go_enter Try.func4, Try.ntmps4
  go_wp2_with fail
  refine (bytesTrip_any a0 a1 a2 a3 a4 a5 a6 a7 w0 w5 w6 w7 w).mono ?_
  rintro e w' ⟨⟨r, rfl⟩, rfl⟩
  cases r with
  | false =>
    go_wp2_with fail
    go_ret
    exact ⟨rfl, Below.refl _ _⟩
  | true =>
    go_wp2_with fail
    refine (tooBig_any a0 a5 a6 a7 w0 w5 w6 w7 w').mono ?_
    rintro e w1 ⟨⟨r, rfl⟩, rfl⟩
    cases r with
    | true =>
      go_wp2_with fail
      go_ret
      exact ⟨rfl, Below.refl _ _⟩
    | false =>
      go_wp2_with fail
      refine (volume_any a0 a1 a2 a3 a4 a5 a6 a7 w1).mono ?_
      rintro e w2 ⟨rfl, hV, b2⟩
      go_wp2_with fail
      refine (zz_any w1.heap.size a1 a2 a3 a4 w2 hV).mono ?_
      rintro e w3 ⟨a, n, c, rfl, hN, b3⟩
      have B3 := below_trans_to b2 b3
      have HL : Hid ((lc a1 a2 a3 a4 4).length = n) := hN.1
      have hn4 : n ≤ 4 := by have := lc_len a1 a2 a3 a4 4; have := HL.out; omega
      clear b2 b3 hV
      go_wp2_with fail
      go_loop [19, 20, 21, 22, 23] (fun e h c s i => ∃ (k : Nat) (f1 f2 f3 f4 : Bool), k ≤ n ∧ i = .int .i64 k ∧ e = .bool f1 ∧ h = .bool f2 ∧ c = .bool f3 ∧ s = .bool f4 ∧ Fl (lc a1 a2 a3 a4 4) k f1 f2 f3 f4) (fun _ _ _ _ i => n - (intOf i).toNat)
      case atStart => exact ⟨0, false, false, false, false, Nat.zero_le _, rfl, rfl, rfl, rfl, rfl, fl_start _⟩
      case round =>
        obtain ⟨k, f1, f2, f3, f4, hk, rfl, rfl, rfl, rfl, rfl, hF⟩ := hrel
        by_cases hlt : k < n
        · obtain ⟨b, off, hab, _, hc⟩ := hN.2 k hlt
          subst hab
          rcases fl_step (by have := HL.out; omega) hF with ⟨e1, rfl, hF2⟩ | ⟨e1, rfl, hF2⟩ | ⟨e1, rfl, hF2⟩ | ⟨e1, rfl, hF2⟩
          all_goals
            rw [e1] at hc
            simp only [nm] at hc
            clear e1
            go_wp2_with fail
            go_round
            case rel => exact ⟨k + 1, _, _, _, _, by omega, by go_num, rfl, rfl, rfl, rfl, hF2⟩
            case measure => simp [intOf]; omega
        · obtain ⟨rfl, rfl, rfl, rfl⟩ := fl_end (by have := HL.out; omega) hF
          go_wp2_with fail
          refine (volume_any _ f1 f2 f3 f4 _ _ _ w3).mono ?_
          rintro e w4 ⟨rfl, hV4, b4⟩
          go_wp2_with fail
          refine (zz_any w3.heap.size f1 f2 f3 f4 w4 hV4).mono ?_
          rintro e w5 ⟨a', n', c', rfl, hN', b5⟩
          have B45 := below_trans_to b4 b5
          have hN5 := hN.later B45 rfl
          have B5 := below_trans_to B3 B45
          obtain rfl : n' = n := by rw [← hN.1, ← hN'.1]
          clear b4 b5 hV4 B45 hF hlt
          go_wp2_with fail
          go_loopw [26] (fun i wr => ∃ (k : Nat), k ≤ n' ∧ i = .int .i64 k ∧ ∃ m, wr = w5.drewN m) (fun i _ => n' - (intOf i).toNat)
          case atStart => exact ⟨0, Nat.zero_le _, rfl, 0, rfl⟩
          case round =>
            obtain ⟨j, hj, rfl, m, rfl⟩ := hrel
            by_cases hlt : j < n'
            · obtain ⟨p, q, hpq, _, hc⟩ := hN5.2 j hlt
              obtain ⟨p', q', hpq', _, hc'⟩ := hN'.2 j hlt
              subst hpq hpq'
              have hji : (j : Int) < (n' : Int) := by omega
              generalize nm ((lc f1 f2 f3 f4 4).getD j 0) = sj at hc hc'
              go_wp2_with fail
              go_quiet (fail)
              go_wp2_with fail
              go_roundw
              case rel => exact ⟨j + 1, by omega, by go_num, _, rfl⟩
              case measure => simp [intOf]; omega
            · go_wp2_with fail
              go_ret
              exact ⟨rfl, below_drewN B5 m⟩
end Go.Proofs.Qxb6603560a
