/-
  Seat b6603560a. The walk of chosen: the names of the options that are set.
-/
import Derived.Test.Qxb6603560aGuards
namespace Go.Proofs.Qxb6603560a
open Go.RowKit

/-- The four names, by number; which of them are set; those that are, among the first k. -/
def nm : Nat → ByteArray
  | 0 => ⟨#[101, 109, 112, 116, 121, 68, 105, 114]⟩
  | 1 => ⟨#[104, 111, 115, 116, 80, 97, 116, 104]⟩
  | 2 => ⟨#[99, 111, 110, 102, 105, 103, 77, 97, 112]⟩
  | _ => ⟨#[115, 101, 99, 114, 101, 116]⟩
def bs (b1 b2 b3 b4 : Bool) : Nat → Bool
  | 0 => b1
  | 1 => b2
  | 2 => b3
  | _ => b4
def lc (b1 b2 b3 b4 : Bool) (k : Nat) : List Nat := (List.range k).filter (bs b1 b2 b3 b4)
theorem lc_hit {b1 b2 b3 b4 : Bool} {k : Nat} (h : bs b1 b2 b3 b4 k = true) : lc b1 b2 b3 b4 (k + 1) = lc b1 b2 b3 b4 k ++ [k] := by
  simp [lc, List.range_succ, List.filter_append, h]
theorem lc_miss {b1 b2 b3 b4 : Bool} {k : Nat} (h : bs b1 b2 b3 b4 k = false) : lc b1 b2 b3 b4 (k + 1) = lc b1 b2 b3 b4 k := by
  simp [lc, List.range_succ, List.filter_append, h]
theorem lc_len (b1 b2 b3 b4 : Bool) (k : Nat) : (lc b1 b2 b3 b4 k).length ≤ k := by
  have := List.length_filter_le (bs b1 b2 b3 b4) (List.range k)
  simpa [lc] using this
/-- Their cells. -/
def cl (L : List Nat) : List Value := L.map fun j => .string (nm j)

/-- A slice of names. -/
def Nms (w : World) (a : Option Addr) (n : Nat) (L : List Nat) : Prop :=
  L.length = n ∧ ∀ i, i < n → ∃ b off, a = some ⟨b, off, none⟩ ∧ b < w.heap.size ∧ w.cell? ⟨b, off + i, none⟩ = some (.string (nm (L.getD i 0)))
theorem Nms.later {w w' : World} {B : Nat} {a : Option Addr} {n : Nat} {L : List Nat} (h : Nms w a n L) (hb : Below B w w') (hB : B = w.heap.size) : Nms w' a n L := by
  subst hB
  refine ⟨h.1, fun i hi => ?_⟩
  obtain ⟨b, off, h1, h2, h3⟩ := h.2 i hi
  exact ⟨b, off, h1, Nat.lt_of_lt_of_le h2 hb.size, (hb.cell (p := ⟨b, off + i, none⟩) h2).trans h3⟩
theorem own_nms {w : World} {base : Nat} {v : Value} {L : List Nat} (h : w.ownsRow base 9 1 v L.length (cl L)) : ∃ a c, v = .slice a L.length c ∧ Nms w a L.length L := by
  rcases h.2 with ⟨hv, hn⟩ | ⟨g, cap, cur, hv, _, hh, _, _, _, ht⟩
  · exact ⟨none, 0, by rw [hv, hn], rfl, fun i hi => absurd hi (by omega)⟩
  · refine ⟨some ⟨g, 0, none⟩, cap, hv, rfl, fun i hi => ?_⟩
    rw [hv] at h
    have hc := h.cellAt i (by omega)
    have hc' : w.cell? ⟨g, 0 + i, none⟩ = some (.string (nm (L.getD i 0))) := by
      rw [Nat.zero_add, hc]
      simp [cl, List.getD, List.getElem?_eq_getElem hi]
    exact ⟨g, 0, rfl, World.block_lt_of_cell? _ _ hc', hc'⟩

theorem Try.info9 : (Try.prog.info? 9).map (fun i => (i.zero, i.size, i.bytes)) = some (some (.string ByteArray.empty), 1, 16) := by kernel_rfl

/-- The options' cells at block g. -/
def Opts (w : World) (g : Nat) (b1 b2 b3 b4 : Bool) : Prop :=
  g < w.heap.size ∧ ∀ i, i < 4 → w.cell? ⟨g, i * 2, none⟩ = some (.string (nm i)) ∧ w.cell? ⟨g, i * 2 + 1, none⟩ = some (.bool (bs b1 b2 b3 b4 i))
theorem Opts.later {w w' : World} {B : Nat} {g : Nat} {b1 b2 b3 b4 : Bool} (h : Opts w g b1 b2 b3 b4) (hb : Below B w w') (hB : B = w.heap.size) : Opts w' g b1 b2 b3 b4 := by
  subst hB
  refine ⟨Nat.lt_of_lt_of_le h.1 hb.size, fun i hi => ?_⟩
  obtain ⟨h1, h2⟩ := h.2 i hi
  exact ⟨(hb.cell (p := ⟨g, i * 2, none⟩) h.1).trans h1, (hb.cell (p := ⟨g, i * 2 + 1, none⟩) h.1).trans h2⟩

theorem cell_one2 (w : World) (o1 : Obj) (x : Value) (t : TypeId) : ∀ j u, [x][j]? = some u → ((w.alloc o1).alloc (.cells #[x] t)).cell? ((⟨w.heap.size + 1, 0, none⟩ : Addr).add j) = some u := by
  intro j u hj
  match j, hj with
  | 0, hj => simp at hj; subst hj; simp [Addr.add, go_sem]
theorem one_cell (x : ByteArray) : ∀ u ∈ [Value.string x], u.oneCell' = true := by
  intro u hu; simp at hu; subst hu; rfl
theorem own_ge {w : World} {base size n : Nat} {e : TypeId} {v : Value} {xs : List Value} (h : w.ownsRow base e size v n xs) : ∀ r, v.ownBlock = some r → base ≤ r := by
  intro r hr
  rcases h.2 with ⟨hv, _⟩ | ⟨g, cap, cur, hv, hg, _⟩
  · rw [hv] at hr; cases hr
  · rw [hv] at hr; cases hr; exact hg
theorem own_next {w : World} {base k : Nat} {v : Value} {L L' : List Nat} (hL : L' = L ++ [k]) (h : w.ownsRow base 9 1 v (L.length + 1) (cl L ++ [.string (nm k)])) : w.ownsRow base 9 1 v L'.length (cl L') := by
  subst hL
  have e1 : (L ++ [k]).length = L.length + 1 := by simp
  have e2 : cl (L ++ [k]) = cl L ++ [.string (nm k)] := by simp [cl]
  rw [e1, e2]
  exact h

theorem own_miss {w : World} {base k : Nat} {v : Value} {b1 b2 b3 b4 : Bool} (hb : bs b1 b2 b3 b4 k = false) (h : w.ownsRow base 9 1 v (lc b1 b2 b3 b4 k).length (cl (lc b1 b2 b3 b4 k))) :
    w.ownsRow base 9 1 v (lc b1 b2 b3 b4 (k + 1)).length (cl (lc b1 b2 b3 b4 (k + 1))) := by
  rw [lc_miss hb]; exact h

set_option maxHeartbeats 1000000 in
theorem chosen_any (g c : Nat) (b1 b2 b3 b4 : Bool) (w : World) (hO : Opts w g b1 b2 b3 b4) :
    Calls Try.prog 14 #[.slice (some ⟨g, 0, none⟩) 4 c] w fun e w' => ∃ a n c, e = .returned (.slice a n c) ∧ Nms w' a n (lc b1 b2 b3 b4 4) ∧ Below w.heap.size w w' := by
  obtain ⟨i0, hi, hz0, hz1, hz2⟩ := info_parts Try.info9
  go_enter Try.func14, Try.ntmps14
  go_wp2_with fail
  go_loopw [3, 8] (fun v i wr => ∃ (k : Nat), k ≤ 4 ∧ i = .int .i64 k ∧ wr.ownsRow w.heap.size 9 1 v (lc b1 b2 b3 b4 k).length (cl (lc b1 b2 b3 b4 k)) ∧ Below w.heap.size w wr) (fun _ i _ => 4 - (intOf i).toNat)
  case atStart => exact ⟨0, Nat.zero_le _, rfl, World.ownsRow_nil _ _ _ _, Below.refl _ _⟩
  case round =>
    obtain ⟨k, hk, rfl, hown, hbr⟩ := hrel
    by_cases hlt : k < 4
    · obtain ⟨hc1, hc2⟩ := (hO.later hbr rfl).2 k hlt
      have hg : g < wr.heap.size := (hO.later hbr rfl).1
      have hki : (k : Int) < 4 := by omega
      have hll := lc_len b1 b2 b3 b4 k
      cases hb : bs b1 b2 b3 b4 k with
      | true =>
        rw [hb] at hc2
        have hL := lc_hit hb
        have HL : Hid (lc b1 b2 b3 b4 (k + 1) = lc b1 b2 b3 b4 k ++ [k]) := hL
        clear hL hb
        go_wp2_with (at_builtin; refine wpList_append_own _ rfl (.tmp 14) (.tmp 17) 26 rfl w.heap.size 9 i0 (.string ByteArray.empty) 1 16 Try.underlying26 hi hz0 hz1 hz2 rfl (by decide) _ _ _ rfl ((hown.alloc _).alloc _) ⟨wr.heap.size + 1, 0, none⟩ 1 1 [.string (nm k)] rfl rfl (cell_one2 _ _ _ _) (one_cell _) (by unfold maxLen; omega) (by omega) (by have := hbr.size; simp; omega) ?_; intro v' w3 hown3 hgrow3 _)
        have hb3 : Below w.heap.size w w3 := ((hbr.alloc hbr.size _).alloc (by have := hbr.size; simp; omega) _).grown hgrow3 (by have := hbr.size; simp; omega) (own_ge hown)
        have own3 := own_next HL.out hown3
        clear hown3 hgrow3 hown
        go_roundw
        case rel => exact ⟨k + 1, by omega, by go_num, own3, hb3⟩
        case measure => simp [intOf]; omega
      | false =>
        rw [hb] at hc2
        have own3 := own_miss hb hown
        clear hb
        go_wp2_with fail
        go_roundw
        case rel => exact ⟨k + 1, by omega, by go_num, own3.alloc _, hbr.alloc hbr.size _⟩
        case measure => simp [intOf]; omega
    · have HK : Hid (k = 4) := by have : k = 4 := by omega
                                  exact this
      obtain ⟨a, c', hv, hN⟩ := own_nms hown
      have HN : Hid (Nms wr a (lc b1 b2 b3 b4 k).length (lc b1 b2 b3 b4 4)) := by have h := hN; rw [HK.out] at h ⊢; exact h
      subst hv
      clear hown hN
      go_wp2_with fail
      go_ret
      exact ⟨a, _, c', rfl, HN.out, hbr⟩
end Go.Proofs.Qxb6603560a
