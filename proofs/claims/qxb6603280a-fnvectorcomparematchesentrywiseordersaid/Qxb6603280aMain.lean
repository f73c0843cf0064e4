/-
  Seat b6603280a. The walk of the law FnVectorCompareMatchesEntrywiseOrder.
-/
import Derived.Test.Qxb6603280aCompare
namespace Go.Proofs.Qxb6603280a
open Go.RowKit

/-- A slice of strings and a slice of numbers that came in. -/
structure Got (w : World) (a : Option Addr) (n : Nat) (S : List ByteArray) : Prop where
  strs : Strs w a n S
  max : n ≤ maxLen
  nil : a = none → n = 0
structure GotN (w : World) (a : Option Addr) (n : Nat) (Z : List Int) : Prop where
  nums : Nums w a n Z
  max : n ≤ maxLen
  nil : a = none → n = 0

theorem below_trans_to {w w1 w2 : World} (h : Below w.heap.size w w1) (h2 : Below w1.heap.size w1 w2) : Below w.heap.size w w2 := h.trans (h2.mono h.size)

set_option maxRecDepth 100000 in
set_option maxHeartbeats 1000000 in
/-- Behind all the guards: from the clones on, the law is told by the two valid vectors. -/
theorem walk (a0 : Option Addr) (n0 c0 : Nat) (S0 : List ByteArray) (a1 : Option Addr) (n1 c1 : Nat) (Z1 : List Int) (a2 : Option Addr) (n2 c2 : Nat) (S2 : List ByteArray) (a3 : Option Addr) (n3 c3 : Nat) (Z3 : List Int) (w : World)
    (g0 : Got w a0 n0 S0) (g1 : GotN w a1 n1 Z1) (g2 : Got w a2 n2 S2) (g3 : GotN w a3 n3 Z3) :
    Calls Try.prog 3 #[.slice a0 n0 c0, .slice a1 n1 c1, .slice a2 n2 c2, .slice a3 n3 c3] w fun e w' => e = .returned (.bool true) ∧ Below w.heap.size w w' := by
  have m0 := g0.max
  have m1 := g1.max
  have m2 := g2.max
  have m3 := g3.max
  unfold maxLen at m0 m1 m2 m3
  go_enter Try.func3, Try.ntmps3
  go_wp2_with fail
  refine (bytes_any a0 n0 c0 S0 a1 n1 c1 a2 n2 c2 S2 a3 n3 c3 w g0.strs g0.max g1.max g2.strs g2.max g3.max).mono ?_
  rintro e w' ⟨⟨r, rfl⟩, rfl⟩
  cases r with
  | false =>
    go_wp2_with fail
    go_ret
    exact ⟨rfl, Below.refl _ _⟩
  | true =>
    by_cases k0 : (n0 : Int) ≤ 65536
    · by_cases k1 : (n1 : Int) ≤ 65536
      · by_cases k2 : (n2 : Int) ≤ 65536
        · by_cases k3 : (n3 : Int) ≤ 65536
          · go_wp2_with fail
            refine (vecBytes_any a0 n0 c0 S0 a1 n1 c1 0 _ g0.strs g0.max (by omega) (by omega) (by omega)).mono ?_
            rintro e w' ⟨r1, rfl, hr1, hr2, rfl⟩
            go_wp2_with fail
            refine (vecBytes_any a2 n2 c2 S2 a3 n3 c3 r1 _ g2.strs g2.max (by omega) hr1 hr2).mono ?_
            rintro e w' ⟨r2, rfl, hr3, hr4, rfl⟩
            by_cases hbig : 1048576 < r2
            · go_wp2_with fail
              go_ret
              exact ⟨rfl, Below.refl _ _⟩
            · go_wp2_with fail
              refine (valid_any a0 n0 c0 S0 a1 n1 c1 Z1 _ g0.strs g1.nums g0.max).mono ?_
              rintro e w1 ⟨⟨v1, rfl, hv1⟩, m, rfl⟩
              have bm : Below w'.heap.size w' (w'.drewN m) := below_drewN (Below.refl _ _) m
              cases v1 with
              | false =>
                go_wp2_with fail
                go_ret
                exact ⟨rfl, bm⟩
              | true =>
                have V1 := hv1 rfl
                have HV1 : Hid (Val S0 Z1) := V1
                clear hv1
                go_wp2_with fail
                refine (valid_any a2 n2 c2 S2 a3 n3 c3 Z3 _ (g2.strs.later bm rfl) (g3.nums.later bm rfl) g2.max).mono ?_
                rintro e w2 ⟨⟨v2, rfl, hv2⟩, m', rfl⟩
                have bm2 : Below w'.heap.size w' ((w'.drewN m).drewN m') := below_drewN bm m'
                have bm3 : Below w'.heap.size w' (w'.drewN (m + m')) := below_drewN (Below.refl _ _) _
                cases v2 with
                | false =>
                  go_wp2_with fail
                  go_ret
                  exact ⟨rfl, bm3⟩
                | true =>
                  have HV2 : Hid (Val S2 Z3) := hv2 rfl
                  clear hv2 V1 bm bm3
                  have E1 : n0 = n1 := by have h := HV1.out.1; rw [g0.strs.1, g1.nums.1] at h; exact h
                  have E3 : n2 = n3 := by have h := HV2.out.1; rw [g2.strs.1, g3.nums.1] at h; exact h
                  subst E1 E3
                  obtain ⟨wa, hwa⟩ : ∃ wa, wa = (w'.drewN m).drewN m' := ⟨_, rfl⟩
                  rw [← hwa]
                  rw [← hwa] at bm2
                  clear hwa
                  have s0 := g0.strs.later bm2 rfl
                  have s1 := g1.nums.later bm2 rfl
                  have s2 := g2.strs.later bm2 rfl
                  have s3 := g3.nums.later bm2 rfl
                  go_wp2_with fail
                  refine (cloneS_any a0 n0 c0 S0 _ s0 (by omega) g0.nil).mono ?_
                  rintro e w3 ⟨p0, q0, rfl, t0, b3⟩
                  go_wp2_with fail
                  refine (cloneN_any a1 n0 c1 Z1 _ (s1.later b3 rfl) (by omega) g1.nil).mono ?_
                  rintro e w4 ⟨p1, q1, rfl, t1, b4⟩
                  go_wp2_with fail
                  refine (cloneS_any a2 n2 c2 S2 _ ((s2.later b3 rfl).later b4 rfl) (by omega) g2.nil).mono ?_
                  rintro e w5 ⟨p2, q2, rfl, t2, b5⟩
                  go_wp2_with fail
                  refine (cloneN_any a3 n2 c3 Z3 _ (((s3.later b3 rfl).later b4 rfl).later b5 rfl) (by omega) g3.nil).mono ?_
                  rintro e w6 ⟨p3, q3, rfl, t3, b6⟩
                  have u0 := ((t0.later b4 rfl).later b5 rfl).later b6 rfl
                  have u1 := (t1.later b5 rfl).later b6 rfl
                  have u2 := t2.later b6 rfl
                  have B6 : Below w'.heap.size w' w6 := below_trans_to (below_trans_to (below_trans_to (below_trans_to bm2 b3) b4) b5) b6
                  clear s0 s1 s2 s3 t0 t1 t2 b3 b4 b5 b6 bm2
                  go_wp2_with fail
                  refine (new_any p0 n0 q0 S0 p1 q1 Z1 _ u0 u1 (by omega)).mono ?_
                  rintro e w7 ⟨gv, rfl, ev, hgv, b7⟩
                  go_wp2_with fail
                  have b8 : ∀ o, Below w7.heap.size w7 (w7.alloc o) := fun o => (Below.refl _ _).alloc (Nat.le_refl _) o
                  refine (new_any p2 n2 q2 S2 p3 q3 Z3 _ ((u2.later b7 rfl).later (b8 _) rfl) ((t3.later b7 rfl).later (b8 _) rfl) (by omega)).mono ?_
                  rintro e w9 ⟨gw, rfl, ew, hgw, b9⟩
                  have hz9 : w7.heap.size < w9.heap.size := by have := b9.size; simp at this; omega
                  have hc9 : w9.cell? ⟨w7.heap.size, 0, none⟩ = some (.slice (some ⟨gv, 0, none⟩) n0 n0) := by
                    rw [b9.cell (p := ⟨w7.heap.size, 0, none⟩) (by simp)]
                    simp [go_sem]
                  go_wp2_with fail
                  have b10 : ∀ o, Below w9.heap.size w9 (w9.alloc o) := fun o => (Below.refl _ _).alloc (Nat.le_refl _) o
                  have ev9 := (ev.later (b8 _) rfl).later b9 rfl
                  refine (compare_any gv n0 S0 Z1 gw n2 S2 Z3 _ (ev9.later (b10 _) rfl) (ew.later (b10 _) rfl) (by omega) (by omega) u0.1 u2.1 ⟨HV1.out, u1.2.1⟩ ⟨HV2.out, t3.2.1⟩).mono ?_
                  rintro e w11 ⟨rfl, b11⟩
                  have B8 := below_trans_to b7 (b8 (Obj.cells #[Value.slice (some { block := gv, off := 0 }) n0 n0] 31))
                  have B9 := below_trans_to B8 b9
                  have B10 := below_trans_to B9 (b10 (Obj.cells #[Value.slice (some { block := gw, off := 0 }) n2 n2] 31))
                  have B11 := below_trans_to B10 b11
                  go_wp2_with fail
                  refine (model_any p0 n0 q0 S0 p1 q1 Z1 p2 n2 q2 S2 p3 q3 Z3 _ (u0.later B11 rfl) (u1.later B11 rfl) (by omega) HV1.out (u2.later B11 rfl) (t3.later B11 rfl) (by omega) HV2.out).mono ?_
                  rintro e w12 ⟨rfl, rfl⟩
                  have BW := below_trans_to B6 B11
                  clear ev9 B8 B9 B10 B11 b8 b9 b10 b11 hc9 ev ew
                  go_wp2_with fail
                  go_ret
                  exact ⟨by simp, BW⟩
          · go_wp2_with fail
            go_ret
            exact ⟨rfl, Below.refl _ _⟩
        · go_wp2_with fail
          go_ret
          exact ⟨rfl, Below.refl _ _⟩
      · go_wp2_with fail
        go_ret
        exact ⟨rfl, Below.refl _ _⟩
    · go_wp2_with fail
      go_ret
      exact ⟨rfl, Below.refl _ _⟩
end Go.Proofs.Qxb6603280a
