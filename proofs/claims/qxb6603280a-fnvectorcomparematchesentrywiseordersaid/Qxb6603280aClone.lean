/-
  Seat b6603280a. The walks of zzCloneStrings and zzCloneCounts.
-/
import Derived.Test.Qxb6603280aGuards
import Derived.Lib.SliceRun
import Derived.Laws.CopyOwn
namespace Go.Proofs.Qxb6603280a
open Go.RowKit

theorem Try.info9 : (Try.prog.info? 9).map (fun i => (i.zero, i.size, i.bytes)) = some (some (.string ByteArray.empty), 1, 16) := by kernel_rfl
theorem Try.info41 : (Try.prog.info? 41).map (fun i => (i.zero, i.size, i.bytes)) = some (some (.int .u64 0), 1, 8) := by kernel_rfl
theorem Try.size9 : (Try.prog.info? 9).map (·.size) = some 1 := by kernel_rfl
theorem Try.size41 : (Try.prog.info? 41).map (·.size) = some 1 := by kernel_rfl

/-- It handed back a slice of n elements that reads as S does, in a later world. -/
def BackS (w : World) (n : Nat) (S : List ByteArray) (e : Ending) (w' : World) : Prop := ∃ a c, e = .returned (.slice a n c) ∧ Strs w' a n S ∧ Below w.heap.size w w'
def BackN (w : World) (n : Nat) (Z : List Int) (e : Ending) (w' : World) : Prop := ∃ a c, e = .returned (.slice a n c) ∧ Nums w' a n Z ∧ Below w.heap.size w w'

/-- A row's cells, out of its block. -/
theorem cell_of_block {w : World} {g : Nat} {cs : List Value} {t : TypeId} (h : w.heap[g]? = some (.cells cs.toArray t (0, 0))) (i : Nat) (v : Value) (hv : cs[i]? = some v) : w.cell? ⟨g, i, none⟩ = some v := by
  simp [World.cell?, h, hv]

theorem made_block {w : World} {g n : Nat} {e : TypeId} {zs : List Value} (h : w.ownsRow g e 1 (.slice (some ⟨g, 0, none⟩) n n) n zs) : ∃ cur : List Value, w.heap[g]? = some (.cells cur.toArray e (0, 0)) ∧ cur.length = n := by
  obtain ⟨h1, h2⟩ := h
  rcases h2 with ⟨h2, _⟩ | ⟨g', cap, cur, hv, hg, hh, hc, _, hs, _⟩
  · cases h2
  · obtain ⟨rfl, rfl⟩ : g = g' ∧ n = cap := by simpa using hv
    exact ⟨cur.toList, by simpa using hh, by simpa using hs⟩

theorem splice_all {α : Type} (L cs : List α) (h : L.length = cs.length) : splice L 0 cs = cs := by
  unfold splice
  rw [List.take_zero, List.nil_append, List.drop_eq_nil_of_le (by omega), List.append_nil]

/-- copy(c, s) over a row of the call's own that has just as many cells. -/
theorem copy_all (T E ty : TypeId) (hu : Try.prog.underlying T = some (.slice E)) (hsz : (Try.prog.info? E).map (·.size) = some 1) (w w1 : World) (x : Addr) (n c g : Nat) (cur : List Value) (cs : List Value)
    (hg : w1.heap[g]? = some (.cells cur.toArray E (0, 0))) (hcur : cur.length = n) (hcs : cs.length = n) (hsrc : ∀ j v, cs[j]? = some v → w1.cell? (x.add j) = some v) (h1 : ∀ v ∈ cs, v.oneCell' = true)
    (hb : Below w.heap.size w w1) (hB : w.heap.size ≤ g) :
    ∃ w2, (Builtin.copy_ #[T, T] ty #[.slice (some ⟨g, 0, none⟩) n n, .slice (some x) n c]).run Try.prog w1 = .ok (goInt n) w2 ∧ w2.heap[g]? = some (.cells cs.toArray E (0, 0)) ∧ Below w.heap.size w w2 := by
  by_cases h0 : n = 0
  · subst h0
    obtain rfl : cs = [] := List.eq_nil_of_length_eq_zero hcs
    obtain rfl : cur = [] := List.eq_nil_of_length_eq_zero hcur
    exact ⟨w1, run_copy_none (P := Try.prog) w1 T T ty E _ _ 0 0 0 c hu hsz rfl, hg, hb⟩
  · have hrun := run_copy_row (P := Try.prog) w1 T T ty E g 0 n n x n c cur.toArray E cs hu hsz hg (by rw [hcs]; exact (Nat.min_self n).symm) hsrc (by simp; omega) h1
    refine ⟨_, ?_, setRow_heap w1 g _ _ E _ hg, below_setRow hb hB _⟩
    rw [hrun, hcs]
    congr 3
    simp [hcur]

theorem addp (b o i : Nat) : (⟨b, o, none⟩ : Addr).add i = ⟨b, o + i, none⟩ := by unfold Addr.add; split <;> simp_all
theorem srcS {w w1 : World} {x : Addr} {n : Nat} {S : List ByteArray} (h : Strs w (some x) n S) (hb : Below w.heap.size w w1) : ∀ j v, (S.map Value.string)[j]? = some v → w1.cell? (x.add j) = some v := by
  intro j v hv
  rw [List.getElem?_map, Option.map_eq_some_iff] at hv
  obtain ⟨s, hs, rfl⟩ := hv
  obtain ⟨hj, rfl⟩ := List.getElem?_eq_some_iff.1 hs
  obtain ⟨b, off, he, hlt, hc⟩ := (h.later hb rfl).2.2 j (by rw [← h.1]; exact hj)
  obtain rfl : x = ⟨b, off, none⟩ := by simpa using he
  rw [show sAt S j = S[j] by simp [sAt, List.getD, hs]] at hc
  rw [addp]; exact hc
theorem srcN {w w1 : World} {x : Addr} {n : Nat} {Z : List Int} (h : Nums w (some x) n Z) (hb : Below w.heap.size w w1) : ∀ j v, (Z.map (Value.int .u64))[j]? = some v → w1.cell? (x.add j) = some v := by
  intro j v hv
  rw [List.getElem?_map, Option.map_eq_some_iff] at hv
  obtain ⟨s, hs, rfl⟩ := hv
  obtain ⟨hj, rfl⟩ := List.getElem?_eq_some_iff.1 hs
  obtain ⟨b, off, he, hlt, hc⟩ := (h.later hb rfl).2.2 j (by rw [← h.1]; exact hj)
  obtain rfl : x = ⟨b, off, none⟩ := by simpa using he
  rw [show nAt Z j = Z[j] by simp [nAt, List.getD, hs]] at hc
  rw [addp]; exact hc
theorem oneS (S : List ByteArray) : ∀ v ∈ S.map Value.string, v.oneCell' = true := by
  intro v hv; obtain ⟨s, _, rfl⟩ := List.mem_map.1 hv; rfl
theorem oneN (Z : List Int) : ∀ v ∈ Z.map (Value.int .u64), v.oneCell' = true := by
  intro v hv; obtain ⟨s, _, rfl⟩ := List.mem_map.1 hv; rfl
theorem lt_heap {w : World} {g : Nat} {o : Obj} (h : w.heap[g]? = some o) : g < w.heap.size := (Array.getElem?_eq_some_iff.1 h).1
theorem newS {w2 : World} {g n : Nat} {S : List ByteArray} (hl : S.length = n) (hm : ∀ s ∈ S, s.size ≤ maxLen) (hg : w2.heap[g]? = some (.cells (S.map Value.string).toArray 9 (0, 0))) : Strs w2 (some ⟨g, 0, none⟩) n S := by
  refine ⟨hl, hm, fun i hi => ⟨g, 0, rfl, lt_heap hg, ?_⟩⟩
  have hi' : i < S.length := by omega
  rw [Nat.zero_add]
  exact cell_of_block hg i _ (by simp [sAt, List.getD, List.getElem?_eq_getElem hi'])
theorem newN {w2 : World} {g n : Nat} {Z : List Int} (hl : Z.length = n) (hm : ∀ z ∈ Z, 0 ≤ z ∧ z < 18446744073709551616) (hg : w2.heap[g]? = some (.cells (Z.map (Value.int .u64)).toArray 41 (0, 0))) : Nums w2 (some ⟨g, 0, none⟩) n Z := by
  refine ⟨hl, hm, fun i hi => ⟨g, 0, rfl, lt_heap hg, ?_⟩⟩
  have hi' : i < Z.length := by omega
  rw [Nat.zero_add]
  exact cell_of_block hg i _ (by simp [nAt, List.getD, List.getElem?_eq_getElem hi'])

set_option maxHeartbeats 400000 in
theorem cloneS_any (a : Option Addr) (n c : Nat) (S : List ByteArray) (w : World) (hS : Strs w a n S) (hn : n ≤ 65536) (hnil : a = none → n = 0) :
    Calls Try.prog 9 #[.slice a n c] w (BackS w n S) := by
  cases a with
  | none =>
    obtain rfl := hnil rfl
    have hq := fun w => Lib.run_eql_slice_nil (P := Try.prog) w 22 9 none 0 c 0 0 Try.underlying22
    simp only [Option.isNone_none] at hq
    go_enter Try.func9, Try.ntmps9
    go_wp2_with fail
    go_ret
    exact ⟨none, 0, rfl, hS, Below.refl _ _⟩
  | some x =>
    have hq := fun w => Lib.run_eql_slice_nil (P := Try.prog) w 22 9 (some x) n c 0 0 Try.underlying22
    simp only [Option.isNone_some] at hq
    obtain ⟨i0, hi, hz0, hz1, hz2⟩ := info_parts Try.info9
    go_enter Try.func9, Try.ntmps9
    have hSl := hS.1
    have HSl : Hid (S.length = n) := hSl
    clear hSl
    go_wp2_with (at_make; refine wpList_make_full _ rfl _ _ 22 rfl w.heap.size 9 i0 _ 1 Try.underlying22 hi hz0 hz1 _ _ _ _ n rfl rfl rfl rfl (by rw [hz2]; omega) (by unfold maxLen; omega) (Nat.le_refl _) ?_; intro w1 hown hgrow)
    obtain ⟨cur, hg1, hcl⟩ := made_block hown
    have hb1 := (Below.refl w.heap.size w).grown hgrow (Nat.le_refl _) (fun k h => by cases h)
    obtain ⟨w2, hrun, hg2, hb2⟩ := copy_all 22 9 3 Try.underlying22 Try.size9 w w1 x n c w.heap.size cur (S.map Value.string) hg1 hcl (by rw [List.length_map]; exact HSl.out) (srcS hS hb1) (oneS S) hb1 (Nat.le_refl _)
    have hN := newS hS.1 hS.2.1 hg2
    rw [hrun]
    clear hrun hg2 hown hgrow hg1 hcl
    go_wp2_with fail
    go_ret
    exact ⟨some ⟨w.heap.size, 0, none⟩, n, rfl, hN, hb2⟩

set_option maxHeartbeats 400000 in
theorem cloneN_any (a : Option Addr) (n c : Nat) (Z : List Int) (w : World) (hZ : Nums w a n Z) (hn : n ≤ 65536) (hnil : a = none → n = 0) :
    Calls Try.prog 10 #[.slice a n c] w (BackN w n Z) := by
  cases a with
  | none =>
    obtain rfl := hnil rfl
    have hq := fun w => Lib.run_eql_slice_nil (P := Try.prog) w 23 41 none 0 c 0 0 Try.underlying23
    simp only [Option.isNone_none] at hq
    go_enter Try.func10, Try.ntmps10
    go_wp2_with fail
    go_ret
    exact ⟨none, 0, rfl, hZ, Below.refl _ _⟩
  | some x =>
    have hq := fun w => Lib.run_eql_slice_nil (P := Try.prog) w 23 41 (some x) n c 0 0 Try.underlying23
    simp only [Option.isNone_some] at hq
    obtain ⟨i0, hi, hz0, hz1, hz2⟩ := info_parts Try.info41
    go_enter Try.func10, Try.ntmps10
    have HSl : Hid (Z.length = n) := hZ.1
    go_wp2_with (at_make; refine wpList_make_full _ rfl _ _ 23 rfl w.heap.size 41 i0 _ 1 Try.underlying23 hi hz0 hz1 _ _ _ _ n rfl rfl rfl rfl (by rw [hz2]; omega) (by unfold maxLen; omega) (Nat.le_refl _) ?_; intro w1 hown hgrow)
    obtain ⟨cur, hg1, hcl⟩ := made_block hown
    have hb1 := (Below.refl w.heap.size w).grown hgrow (Nat.le_refl _) (fun k h => by cases h)
    obtain ⟨w2, hrun, hg2, hb2⟩ := copy_all 23 41 3 Try.underlying23 Try.size41 w w1 x n c w.heap.size cur (Z.map (Value.int .u64)) hg1 hcl (by rw [List.length_map]; exact HSl.out) (srcN hZ hb1) (oneN Z) hb1 (Nat.le_refl _)
    have hN := newN hZ.1 hZ.2.1 hg2
    rw [hrun]
    clear hrun hg2 hown hgrow hg1 hcl
    go_wp2_with fail
    go_ret
    exact ⟨some ⟨w.heap.size, 0, none⟩, n, rfl, hN, hb2⟩
end Go.Proofs.Qxb6603280a
