/-
  Seat b6603560a. The walks of (*Volume).sources and ZZsources.
-/
import Derived.Test.Qxb6603560aChosen
import Derived.Test.Qxb6603560aVolume
import Derived.Laws.Pointers
import Derived.Deep.RegionHeld3
import Derived.Deep.RegionWith
namespace Go.Proofs.Qxb6603560a
open Go.RowKit

theorem opts_of (w : World) (b1 b2 b3 b4 : Bool) : Opts (w.alloc (.cells #[.string ⟨#[101, 109, 112, 116, 121, 68, 105, 114]⟩, .bool b1, .string ⟨#[104, 111, 115, 116, 80, 97, 116, 104]⟩, .bool b2, .string ⟨#[99, 111, 110, 102, 105, 103, 77, 97, 112]⟩, .bool b3, .string ⟨#[115, 101, 99, 114, 101, 116]⟩, .bool b4] 51)).drew w.heap.size b1 b2 b3 b4 := by
  refine ⟨by simp, fun i hi => ?_⟩
  match i, hi with
  | 0, _ => exact ⟨by simp [go_sem, nm], by simp [go_sem, bs]⟩
  | 1, _ => exact ⟨by simp [go_sem, nm], by simp [go_sem, bs]⟩
  | 2, _ => exact ⟨by simp [go_sem, nm], by simp [go_sem, bs]⟩
  | 3, _ => exact ⟨by simp [go_sem, nm], by simp [go_sem, bs]⟩
theorem kept {w w' : World} {o : Obj} {g i : Nat} {v : Value} (hb : Below (w.alloc o).drew.heap.size (w.alloc o).drew w') (hg : g < w.heap.size) (h : w.cell? ⟨g, i, none⟩ = some v) : w'.cell? ⟨g, i, none⟩ = some v := by
  have h1 : (w.alloc o).cell? ⟨g, i, none⟩ = w.cell? ⟨g, i, none⟩ := ((Below.refl w.heap.size w).alloc (Nat.le_refl _) o).cell (p := ⟨g, i, none⟩) hg
  have h2 := hb.cell (p := ⟨g, i, none⟩) (by simp; omega)
  exact h2.trans (h1.trans h)
theorem below_on {w w' : World} {o : Obj} (hb : Below (w.alloc o).drew.heap.size (w.alloc o).drew w') : Below w.heap.size w w' :=
  (((Below.refl w.heap.size w).alloc (Nat.le_refl _) o).drew).trans (hb.mono (by simp))

set_option maxRecDepth 100000 in
set_option maxHeartbeats 1000000 in
theorem sources_any (g : Nat) (b1 b2 b3 b4 : Bool) (w : World) (hV : Vol w g b1 b2 b3 b4) :
    Calls Try.prog 13 #[.pointer (some ⟨g, 0, none⟩)] w fun e w' => ∃ a n c, e = .returned (.slice a n c) ∧ Nms w' a n (lc b1 b2 b3 b4 4) ∧ Below w.heap.size w w' := by
  obtain ⟨hg, ⟨v1, c1, p1, rfl, e1⟩, ⟨v2, c2, p2, rfl, e2⟩, ⟨v3, c3, p3, rfl, e3⟩, ⟨v4, c4, p4, rfl, e4⟩⟩ := hV
  subst e1 e2 e3 e4
  go_enter Try.func13, Try.ntmps13
  go_wp2_with fail
  go_region_held3 (fun w' => w'.cell? ⟨g, 1, none⟩ = some (.pointer p1) ∧ w'.cell? ⟨g, 2, none⟩ = some (.pointer p2) ∧ w'.cell? ⟨g, 3, none⟩ = some (.pointer p3) ∧ w'.cell? ⟨g, 4, none⟩ = some (.pointer p4)) (simp [go_sem, World.cell?_alloc_past, *])
    (first | (go_at_call 14; refine (chosen_any w.heap.size 4 p1.isSome p2.isSome p3.isSome p4.isSome _ ?_).mono ?_; exact opts_of _ _ _ _ _; rintro e w' ⟨a, n, c, rfl, hN, hb⟩; have k1 := kept hb hg c1; have k2 := kept hb hg c2; have k3 := kept hb hg c3; have k4 := kept hb hg c4; have hbw := below_on hb; clear hb))
  go_wp2_with fail
  go_ret
  exact ⟨a, n, c, rfl, hN, hbw⟩

/-- ZZsources. -/
theorem zz_any (g : Nat) (b1 b2 b3 b4 : Bool) (w : World) (hV : Vol w g b1 b2 b3 b4) :
    Calls Try.prog 8 #[.pointer (some ⟨g, 0, none⟩)] w fun e w' => ∃ a n c, e = .returned (.slice a n c) ∧ Nms w' a n (lc b1 b2 b3 b4 4) ∧ Below w.heap.size w w' := by
  go_enter Try.func8, Try.ntmps8
  go_wp2_with fail
  refine (sources_any g b1 b2 b3 b4 w hV).mono ?_
  rintro e w' ⟨a, n, c, rfl, hN, hb⟩
  go_wp2_with fail
  go_ret
  exact ⟨a, n, c, rfl, hN, hb⟩
end Go.Proofs.Qxb6603560a
