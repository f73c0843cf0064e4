/-
  Seat b6603378a. The walks of cloneBytes and wrapIn.
-/
import Derived.Test.Qxb6603378aReads
import Derived.Lib.SliceRun
namespace Go.Proofs.Qxb6603378a
open Go.RowKit Pl

theorem Try.info5 : (Try.prog.info? 5).map (fun i => (i.zero, i.size, i.bytes)) = some (some (.int .u8 0), 1, 1) := by kernel_rfl

/-- It handed back a slice of n bytes that reads as Z does, in a later world. -/
def Back (w : World) (n : Nat) (Z : List Int) (e : Ending) (w' : World) : Prop := ∃ a c, e = .returned (.slice a n c) ∧ n ≤ c ∧ Byts w' a n Z ∧ Below w.heap.size w w'

theorem lt_heap {w : World} {g : Nat} {o : Obj} (h : w.heap[g]? = some o) : g < w.heap.size := (Array.getElem?_eq_some_iff.1 h).1

/-- A row of the call's own: n cells; the first k hold Z. -/
def RowTo (w : World) (g n k : Nat) (Z : List Int) : Prop :=
  g < w.heap.size ∧ (∀ j, j < n → (∃ v, w.cell? ⟨g, j, none⟩ = some v) ∧ w.frozen? ⟨g, j, none⟩ = false) ∧ ∀ i, i < k → w.cell? ⟨g, i, none⟩ = some (.int .u8 (bAt Z i))
theorem RowTo.start {w : World} {g n : Nat} {zs : List Value} (h : w.ownsRow g 5 1 (.slice (some ⟨g, 0, none⟩) n n) n zs) (Z : List Int) : RowTo w g n 0 Z := by
  obtain ⟨_, h2⟩ := h
  rcases h2 with ⟨h2, _⟩ | ⟨g', cap, cur, hv, hg, hh, hc, _, hs, _⟩
  · cases h2
  · obtain ⟨rfl, rfl⟩ : g = g' ∧ n = cap := by simpa using hv
    refine ⟨lt_heap hh, fun j hj => ?_, fun i hi => absurd hi (by omega)⟩
    have hj' : j < cur.size := by omega
    exact ⟨⟨cur[j], by simp [World.cell?, hh, hj']⟩, by simp [World.frozen?, hh]⟩
theorem cso {w : World} {a b : Addr} {v : Value} (h : a ≠ b) : (w.setCell a v).cell? b = w.cell? b := World.cell?_setCell_other w a b v h
theorem css {w : World} {a : Addr} {v u : Value} (h : w.cell? a = some u) : (w.setCell a v).cell? a = some v := World.cell?_setCell_same w a v h
theorem RowTo.next {w : World} {g n k : Nat} {Z : List Int} (h : RowTo w g n k Z) (hk : k < n) : RowTo (w.setCell ⟨g, k, none⟩ (.int .u8 (bAt Z k))) g n (k + 1) Z := by
  obtain ⟨h0, h1, h2⟩ := h
  obtain ⟨⟨v1, c1⟩, f1⟩ := h1 k hk
  have other : ∀ j, j ≠ k → (w.setCell ⟨g, k, none⟩ (.int .u8 (bAt Z k))).cell? ⟨g, j, none⟩ = w.cell? ⟨g, j, none⟩ := fun j hj => cso (by intro e; injection e with _ e; omega)
  refine ⟨by simpa using h0, fun j hj => ⟨?_, ?_⟩, fun i hi => ?_⟩
  · by_cases e : j = k
    · subst e; exact ⟨_, css c1⟩
    · obtain ⟨v, hv⟩ := (h1 j hj).1
      exact ⟨v, (other j e).trans hv⟩
  · have := (h1 j hj).2
    simpa using this
  · by_cases e : i = k
    · subst e; exact css c1
    · exact (other i e).trans (h2 i (by omega))
theorem RowTo.byts {w : World} {g n : Nat} {Z : List Int} (h : RowTo w g n n Z) (hl : Z.length = n) (hz : ∀ z ∈ Z, 0 ≤ z ∧ z ≤ 255) : Byts w (some ⟨g, 0, none⟩) n Z := by
  refine ⟨hl, hz, fun i hi => ⟨g, 0, rfl, h.1, ?_⟩⟩
  rw [Nat.zero_add]
  exact h.2.2 i hi

set_option maxHeartbeats 400000 in
/-- cloneBytes, on a slice that is not empty. -/
theorem clone_any (a : Option Addr) (n c : Nat) (Z : List Int) (w : World) (hZ : Byts w a n Z) (hn : n ≤ 1048576) (h0 : 0 < n) :
    Calls Try.prog 19 #[.slice a n c] w (Back w n Z) := by
  obtain ⟨b, off, hab, hbl, _⟩ := hZ.2.2 0 h0
  subst hab
  have hq := fun w => Lib.run_eql_slice_nil (P := Try.prog) w 31 5 (some ⟨b, off, none⟩) n c 0 0 Try.underlying31
  simp only [Option.isNone_some] at hq
  obtain ⟨i0, hi, hz0, hz1, hz2⟩ := info_parts Try.info5
  go_enter Try.func19, Try.ntmps19
  go_wp2_with (at_make; refine wpList_make_full _ rfl _ _ 31 rfl w.heap.size 5 i0 _ 1 Try.underlying31 hi hz0 hz1 _ _ _ _ n rfl rfl rfl rfl (by rw [hz2]; omega) (by unfold maxLen; omega) (Nat.le_refl _) ?_; intro w1 hown hgrow)
  have R0 := RowTo.start hown Z
  have hb1 : Below w.heap.size w w1 := (Below.refl w.heap.size w).grown hgrow (Nat.le_refl _) (fun k h => by cases h)
  clear hown hgrow
  go_loopw [4] (fun i wr => ∃ (k : Nat), k ≤ n ∧ i = .int .i64 k ∧ RowTo wr w.heap.size n k Z ∧ Below w.heap.size w wr) (fun i _ => n - (intOf i).toNat)
  case atStart => exact ⟨0, Nat.zero_le _, rfl, R0, hb1⟩
  case round =>
    obtain ⟨k, hk, rfl, hR, hbr⟩ := hrel
    clear R0 hb1
    by_cases hlt : k < n
    · obtain ⟨p, off', he, _, hc⟩ := (hZ.later hbr rfl).2.2 k hlt
      obtain ⟨rfl, rfl⟩ : b = p ∧ off = off' := by simpa using he
      obtain ⟨⟨v1, hv1⟩, hf1⟩ := hR.2.1 k hlt
      have hki : (k : Int) < (n : Int) := by omega
      clear he
      go_wp2_with fail
      go_roundw
      case rel => exact ⟨k + 1, by omega, by go_num, hR.next hlt, hbr.setCell (p := ⟨w.heap.size, k, none⟩) (Nat.le_refl _) _⟩
      case measure => simp [intOf]; omega
    · have HB : Hid (Byts wr (some ⟨w.heap.size, 0, none⟩) n Z) := by
        have e : k = n := by omega
        rw [e] at hR
        exact hR.byts hZ.1 hZ.2.1
      go_wp2_with fail
      go_ret
      exact ⟨some ⟨w.heap.size, 0, none⟩, n, rfl, Nat.le_refl _, HB.out, hbr⟩

/-- The cells that wrapIn has laid behind k bytes. -/
def obs (op : Int) (Z : List Int) (k : Nat) : List Value := (op :: Z.take k).map (Value.int .u8)
theorem obs_zero (op : Int) (Z : List Int) : obs op Z 0 = [.int .u8 op] := by simp [obs]
theorem obs_next (op : Int) (Z : List Int) (k : Nat) (hk : k < Z.length) : obs op Z k ++ [.int .u8 (bAt Z k)] = obs op Z (k + 1) := by
  unfold obs bAt
  rw [List.take_succ_eq_append_getElem hk, List.map_cons, List.map_cons, List.map_append, List.cons_append]
  simp only [List.map_cons, List.map_nil, List.getD, List.getElem?_eq_getElem hk, Option.getD_some]
theorem obs_done (op cl : Int) (Z : List Int) (k : Nat) (hk : Z.length ≤ k) : obs op Z k ++ [.int .u8 cl] = (op :: (Z ++ [cl])).map (Value.int .u8) := by
  unfold obs
  rw [List.take_of_length_le hk]
  simp
theorem cell_one (w : World) (x : Value) (t : TypeId) : ∀ j u, [x][j]? = some u → (w.alloc (.cells #[x] t)).cell? ((⟨w.heap.size, 0, none⟩ : Addr).add j) = some u := by
  intro j u hj
  match j, hj with
  | 0, hj => simp at hj; subst hj; simp [Addr.add]
theorem one_cell (x : Int) : ∀ u ∈ [Value.int .u8 x], u.oneCell' = true := by
  intro u hu; simp at hu; subst hu; rfl
theorem own_byts {w : World} {g n cap : Nat} {L : List Int} (h : w.ownsRow g 5 1 (.slice (some ⟨g, 0, none⟩) n cap) n (L.map (Value.int .u8))) (hl : L.length = n) (hz : ∀ z ∈ L, 0 ≤ z ∧ z ≤ 255) : Byts w (some ⟨g, 0, none⟩) n L := by
  refine ⟨hl, hz, fun i hi => ?_⟩
  have hc := h.cellAt i (by omega)
  have hi' : i < L.length := by omega
  rw [List.getElem?_map, List.getElem?_eq_getElem hi'] at hc
  have hc' : w.cell? ⟨g, 0 + i, none⟩ = some (.int .u8 (bAt L i)) := by
    rw [Nat.zero_add, hc]
    simp [bAt, List.getD, List.getElem?_eq_getElem hi']
  exact ⟨g, 0, rfl, World.block_lt_of_cell? _ _ hc', hc'⟩

theorem ret_len {k n c : Nat} {x : Option Addr} (h : k = n) : Ending.returned (.slice x (k + 1 + 1) c) = .returned (.slice x (n + 2) c) := by rw [h]

set_option maxHeartbeats 1000000 in
/-- wrapIn. -/
theorem wrap_any (a : Option Addr) (n c : Nat) (Z : List Int) (op cl : Int) (w : World) (hZ : Byts w a n Z) (hn : n ≤ 1048576) (hop : 0 ≤ op ∧ op ≤ 255) (hcl : 0 ≤ cl ∧ cl ≤ 255) :
    Calls Try.prog 26 #[.slice a n c, .int .u8 op, .int .u8 cl] w (Back w (n + 2) (op :: (Z ++ [cl]))) := by
  have HL : Hid (Z.length = n) := hZ.1
  obtain ⟨i0, hi, hz0, hz1, hz2⟩ := info_parts Try.info5
  go_enter Try.func26, Try.ntmps26
  go_wp2_with (first
    | (at_make; refine wpList_make_own _ rfl _ _ 31 rfl w.heap.size 5 i0 _ 1 Try.underlying31 hi hz0 hz1 _ _ _ (n + 2) rfl rfl (by omega) (by rw [hz2]; omega) (by unfold maxLen; omega) (Nat.le_refl _) ?_; intro w1 hown1 hgrow1)
    | (at_builtin; refine wpList_append_fits _ rfl (.tmp 13) (.tmp 15) 31 rfl w.heap.size 5 i0 1 Try.underlying31 hi hz1 w.heap.size 0 (n + 2) _ rfl (hown1.alloc _) ⟨w1.heap.size, 0, none⟩ 1 1 [.int .u8 op] rfl rfl (cell_one _ _ _) (one_cell op) (by omega) ?_; intro w2 hown2 hgrow2))
  have hb1 : Below w.heap.size w w1 := (Below.refl w.heap.size w).grown hgrow1 (Nat.le_refl _) (fun k h => by cases h)
  have hb2 : Below w.heap.size w w2 := (hb1.alloc hb1.size _).grown hgrow2 (by have := hb1.size; simp; omega) (fun k h => by cases h; exact Nat.le_refl _)
  have own2 : w2.ownsRow w.heap.size 5 1 (.slice (some ⟨w.heap.size, 0, none⟩) (0 + 1) (n + 2)) (0 + 1) (obs op Z 0) := by rw [obs_zero]; exact hown2
  clear hown1 hgrow1 hown2 hgrow2 hb1
  go_loopw [7, 8] (fun v i wr => ∃ (k : Nat), k ≤ n ∧ i = .int .i64 k ∧ v = .slice (some ⟨w.heap.size, 0, none⟩) (k + 1) (n + 2) ∧ wr.ownsRow w.heap.size 5 1 (.slice (some ⟨w.heap.size, 0, none⟩) (k + 1) (n + 2)) (k + 1) (obs op Z k) ∧ Below w.heap.size w wr) (fun _ i _ => n - (intOf i).toNat)
  case atStart => exact ⟨0, Nat.zero_le _, rfl, rfl, own2, hb2⟩
  case round =>
    obtain ⟨k, hk, rfl, rfl, hown, hbr⟩ := hrel
    clear own2 hb2
    by_cases hlt : k < n
    · obtain ⟨p, off, hap, _, hc⟩ := (hZ.later hbr rfl).2.2 k hlt
      subst hap
      go_wp2_with (at_builtin; refine wpList_append_fits _ rfl (.tmp 23) (.tmp 28) 31 rfl w.heap.size 5 i0 1 Try.underlying31 hi hz1 w.heap.size (k + 1) (n + 2) _ rfl (hown.alloc _) ⟨wr.heap.size, 0, none⟩ 1 1 [.int .u8 (bAt Z k)] rfl rfl (cell_one _ _ _) (one_cell _) (by omega) ?_; intro w3 hown3 hgrow3)
      have hb3 : Below w.heap.size w w3 := (hbr.alloc hbr.size _).grown hgrow3 (by have := hbr.size; simp; omega) (fun k h => by cases h; exact Nat.le_refl _)
      have own3 : w3.ownsRow w.heap.size 5 1 (.slice (some ⟨w.heap.size, 0, none⟩) (k + 1 + 1) (n + 2)) (k + 1 + 1) (obs op Z (k + 1)) := by rw [← obs_next op Z k (by have := HL.out; omega)]; exact hown3
      clear hown3 hgrow3 hown
      go_roundw
      case rel => exact ⟨k + 1, by omega, by go_num, rfl, own3, hb3⟩
      case measure => simp [intOf]; omega
    · have HK : Hid (k = n) := by have : k = n := by omega
                                  exact this
      go_wp2_with (at_builtin; refine wpList_append_fits _ rfl (.tmp 30) (.tmp 32) 31 rfl w.heap.size 5 i0 1 Try.underlying31 hi hz1 w.heap.size (k + 1) (n + 2) _ rfl (hown.alloc _) ⟨wr.heap.size, 0, none⟩ 1 1 [.int .u8 cl] rfl rfl (cell_one _ _ _) (one_cell _) (by omega) ?_; intro w3 hown3 hgrow3)
      have hb3 : Below w.heap.size w w3 := (hbr.alloc hbr.size _).grown hgrow3 (by have := hbr.size; simp; omega) (fun k h => by cases h; exact Nat.le_refl _)
      have HE : Hid (Byts w3 (some ⟨w.heap.size, 0, none⟩) (n + 2) (op :: (Z ++ [cl]))) := by
        have hL := HL.out
        have hKn := HK.out
        rw [obs_done op cl Z k (by omega), hKn] at hown3
        refine own_byts hown3 (by simp; omega) (fun z hz => ?_)
        simp at hz
        rcases hz with rfl | hz | rfl
        · exact hop
        · exact hZ.2.1 z hz
        · exact hcl
      clear hown3 hgrow3 hown
      go_ret
      exact ⟨some ⟨w.heap.size, 0, none⟩, n + 2, ret_len HK.out, Nat.le_refl _, HE.out, hb3⟩
end Go.Proofs.Qxb6603378a
