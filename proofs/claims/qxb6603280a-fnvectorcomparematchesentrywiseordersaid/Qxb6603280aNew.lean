/-
  Seat b6603280a. The walk of ZZNewVector.
-/
import Derived.Test.Qxb6603280aClone
import Derived.RegionTactic
import Derived.ChangeAlike
namespace Go.Proofs.Qxb6603280a
open Go.RowKit

theorem Try.info43 : (Try.prog.info? 43).map (fun i => (i.zero, i.size, i.bytes)) = some (some (.agg #[.string ByteArray.empty, .int .u64 0]), 2, 24) := by kernel_rfl

/-- The row of a Vector's entries: n places of two cells each; the first k hold S and Z. -/
def Ents (w : World) (g n k : Nat) (S : List ByteArray) (Z : List Int) : Prop :=
  g < w.heap.size ∧ (∀ j, j < n * 2 → (∃ v, w.cell? ⟨g, j, none⟩ = some v) ∧ w.frozen? ⟨g, j, none⟩ = false) ∧
  ∀ i, i < k → w.cell? ⟨g, i * 2, none⟩ = some (.string (sAt S i)) ∧ w.cell? ⟨g, i * 2 + 1, none⟩ = some (.int .u64 (nAt Z i))

/-- The result's own variable. -/
def ResCell (w : World) (r : Nat) : Prop := w.cell? ⟨r, 0, none⟩ = some (.slice none 0 0) ∧ w.frozen? ⟨r, 0, none⟩ = false ∧ r < w.heap.size

theorem ents_start {w w1 : World} {n : Nat} {o : Obj} {zs : List Value} (h : w1.ownsRow (w.heap.size + 1) 43 2 (.slice (some ⟨(w.alloc o).heap.size, 0, none⟩) n n) n zs) (S : List ByteArray) (Z : List Int) : Ents w1 (w.heap.size + 1) n 0 S Z := by
  obtain ⟨_, h2⟩ := h
  rw [World.size_alloc] at h2
  rcases h2 with ⟨h2, _⟩ | ⟨g', cap, cur, hv, hg, hh, hc, _, hs, _⟩
  · cases h2
  · obtain ⟨rfl, rfl⟩ : w.heap.size + 1 = g' ∧ n = cap := by simpa using hv
    refine ⟨lt_heap hh, fun j hj => ?_, fun i hi => absurd hi (by omega)⟩
    have hj' : j < cur.size := by omega
    exact ⟨⟨cur[j], by simp [World.cell?, hh, hj']⟩, by simp [World.frozen?, hh]⟩
theorem res_cell {w w1 : World} (h : (w.alloc (.cells #[.slice none 0 0] 31)).grownBy w1 none) : ResCell w1 w.heap.size := by
  have hb := h.block w.heap.size (by simp) (by simp)
  refine ⟨?_, ?_, ?_⟩
  · rw [World.cell?_of_block (w := w.alloc (.cells #[.slice none 0 0] 31)) hb]; simp
  · rw [World.frozen?_of_block (w := w.alloc (.cells #[.slice none 0 0] 31)) hb]; simp
  · have := h.size; simp at this; omega

theorem cso {w : World} {a b : Addr} {v : Value} (h : a ≠ b) : (w.setCell a v).cell? b = w.cell? b := World.cell?_setCell_other w a b v h
theorem css {w : World} {a : Addr} {v u : Value} (h : w.cell? a = some u) : (w.setCell a v).cell? a = some v := World.cell?_setCell_same w a v h
theorem ents_next {w : World} {g n k : Nat} {S : List ByteArray} {Z : List Int} (h : Ents w g n k S Z) (hk : k < n) :
    Ents ((w.setCell ⟨g, k * 2, none⟩ (.string (sAt S k))).setCell ⟨g, k * 2 + 1, none⟩ (.int .u64 (nAt Z k))).drew g n (k + 1) S Z := by
  obtain ⟨h0, h1, h2⟩ := h
  obtain ⟨⟨v1, c1⟩, f1⟩ := h1 (k * 2) (by omega)
  obtain ⟨⟨v2, c2⟩, f2⟩ := h1 (k * 2 + 1) (by omega)
  have other : ∀ j, j ≠ k * 2 → j ≠ k * 2 + 1 → ((w.setCell ⟨g, k * 2, none⟩ (.string (sAt S k))).setCell ⟨g, k * 2 + 1, none⟩ (.int .u64 (nAt Z k))).cell? ⟨g, j, none⟩ = w.cell? ⟨g, j, none⟩ := by
    intro j n1 n2
    rw [cso (by simp <;> omega), cso (by simp <;> omega)]
  have at1 : ((w.setCell ⟨g, k * 2, none⟩ (.string (sAt S k))).setCell ⟨g, k * 2 + 1, none⟩ (.int .u64 (nAt Z k))).cell? ⟨g, k * 2, none⟩ = some (.string (sAt S k)) := by
    rw [cso (by simp), css c1]
  have at2 : ((w.setCell ⟨g, k * 2, none⟩ (.string (sAt S k))).setCell ⟨g, k * 2 + 1, none⟩ (.int .u64 (nAt Z k))).cell? ⟨g, k * 2 + 1, none⟩ = some (.int .u64 (nAt Z k)) := by
    refine css (u := v2) ?_
    rw [cso (by simp)]
    exact c2
  refine ⟨by simpa using h0, fun j hj => ⟨?_, ?_⟩, fun i hi => ?_⟩
  · show ∃ v, ((w.setCell ⟨g, k * 2, none⟩ (.string (sAt S k))).setCell ⟨g, k * 2 + 1, none⟩ (.int .u64 (nAt Z k))).cell? ⟨g, j, none⟩ = some v
    by_cases e1 : j = k * 2
    · subst e1; exact ⟨_, at1⟩
    · by_cases e2 : j = k * 2 + 1
      · subst e2; exact ⟨_, at2⟩
      · obtain ⟨v, hv⟩ := (h1 j hj).1
        exact ⟨v, (other j e1 e2).trans hv⟩
  · have := (h1 j hj).2
    simpa using this
  · by_cases e : i = k
    · subst e; exact ⟨at1, at2⟩
    · obtain ⟨q1, q2⟩ := h2 i (by omega)
      exact ⟨(other (i * 2) (by omega) (by omega)).trans q1, (other (i * 2 + 1) (by omega) (by omega)).trans q2⟩
theorem res_next {w : World} {r g o1 o2 : Nat} {v1 v2 : Value} (h : ResCell w r) (hg : r ≠ g) : ResCell ((w.setCell ⟨g, o1, none⟩ v1).setCell ⟨g, o2, none⟩ v2).drew r := by
  obtain ⟨h1, h2, h3⟩ := h
  refine ⟨?_, by simpa using h2, by simpa using h3⟩
  show ((w.setCell ⟨g, o1, none⟩ v1).setCell ⟨g, o2, none⟩ v2).cell? ⟨r, 0, none⟩ = _
  rw [cso (by simp <;> omega), cso (by simp <;> omega)]
  exact h1
theorem below_next {w wr : World} {g o1 o2 : Nat} {v1 v2 : Value} (h : Below w.heap.size w wr) (hg : w.heap.size ≤ g) : Below w.heap.size w ((wr.setCell ⟨g, o1, none⟩ v1).setCell ⟨g, o2, none⟩ v2).drew :=
  ((h.setCell (p := ⟨g, o1, none⟩) hg _).setCell (p := ⟨g, o2, none⟩) hg _).drew
theorem ents_res {w : World} {g n k r : Nat} {S : List ByteArray} {Z : List Int} {v : Value} (h : Ents w g n k S Z) (hr : r ≠ g) : Ents (w.setCell ⟨r, 0, none⟩ v) g n k S Z := by
  obtain ⟨h0, h1, h2⟩ := h
  have other : ∀ j, (w.setCell ⟨r, 0, none⟩ v).cell? ⟨g, j, none⟩ = w.cell? ⟨g, j, none⟩ := fun j => cso (by simp <;> omega)
  refine ⟨by simpa using h0, fun j hj => ⟨?_, ?_⟩, fun i hi => ?_⟩
  · obtain ⟨v, hv⟩ := (h1 j hj).1
    exact ⟨v, (other j).trans hv⟩
  · have := (h1 j hj).2
    simpa using this
  · obtain ⟨q1, q2⟩ := h2 i hi
    exact ⟨(other _).trans q1, (other _).trans q2⟩

set_option maxHeartbeats 400000 in
/-- ZZNewVector. -/
theorem new_any (a : Option Addr) (n c : Nat) (S : List ByteArray) (b : Option Addr) (d : Nat) (Z : List Int) (w : World) (hS : Strs w a n S) (hZ : Nums w b n Z) (hn : n ≤ 65536) :
    Calls Try.prog 11 #[.slice a n c, .slice b n d] w fun e w' => ∃ g, e = .returned (.agg #[.slice (some ⟨g, 0, none⟩) n n]) ∧ Ents w' g n n S Z ∧ w.heap.size ≤ g ∧ Below w.heap.size w w' := by
  obtain ⟨i0, hi, hz0, hz1, hz2⟩ := info_parts Try.info43
  go_enter Try.func11, Try.ntmps11
  go_wp2_with (at_make; refine wpList_make_full _ rfl _ _ 29 rfl (w.heap.size + 1) 43 i0 _ 2 Try.underlying29 hi hz0 hz1 _ _ _ _ n rfl rfl rfl rfl (by rw [hz2]; omega) (by unfold maxLen; omega) (by simp) ?_; intro w1 hown hgrow)
  have E0 := ents_start hown S Z
  have hb1 : Below w.heap.size w w1 := ((Below.refl w.heap.size w).alloc (Nat.le_refl _) _).grown hgrow (by simp) (fun k h => by cases h)
  have R0 := res_cell hgrow
  clear hown hgrow
  go_loopw [7] (fun i wr => ∃ (k : Nat), k ≤ n ∧ i = .int .i64 k ∧ Ents wr (w.heap.size + 1) n k S Z ∧ ResCell wr w.heap.size ∧ Below w.heap.size w wr) (fun i _ => n - (intOf i).toNat)
  case atStart => exact ⟨0, Nat.zero_le _, rfl, E0, R0, hb1⟩
  case round =>
    obtain ⟨k, hk, rfl, hE, hR, hbr⟩ := hrel
    clear E0 R0 hb1
    by_cases hlt : k < n
    · obtain ⟨p, off, rfl, _, hc⟩ := (hS.later hbr rfl).2.2 k hlt
      obtain ⟨p2, off2, rfl, _, hc2⟩ := (hZ.later hbr rfl).2.2 k hlt
      obtain ⟨⟨v1, hv1⟩, hf1⟩ := hE.2.1 (k * 2) (by omega)
      obtain ⟨⟨v2, hv2⟩, hf2⟩ := hE.2.1 (k * 2 + 1) (by omega)
      have hki : (k : Int) < (n : Int) := by omega
      go_wp2_with fail
      go_region
      go_wp2_with fail
      go_roundw
      case rel => exact ⟨k + 1, by omega, by go_num, ents_next hE hlt, res_next hR (by omega), below_next hbr (by omega)⟩
      case measure => simp [intOf]; omega
    · have hc := hR.1
      have hf := hR.2.1
      have HK : Hid (k = n) := by have : k = n := by omega
                                  exact this
      have HE : Hid (Ents wr (w.heap.size + 1) n n S Z) := by have h := HK.out; rw [h] at hE; exact hE
      go_wp2_with fail
      refine bodyPost_ret (v := .agg #[.slice (some ⟨w.heap.size + 1, 0, none⟩) n n]) ?_ rfl ⟨_, rfl, ents_res HE.out (by omega), by omega, hbr.setCell (p := ⟨w.heap.size, 0, none⟩) (by simp) _⟩
      simp [results, Try.results11, go_sem, hc]
end Go.Proofs.Qxb6603280a
