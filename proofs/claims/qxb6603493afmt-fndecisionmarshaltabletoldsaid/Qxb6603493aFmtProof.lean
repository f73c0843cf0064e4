/-
  Seat b6603493aF. THE STATEMENT 'Rows.FnDecisionMarshalTableToldSaid': the row told, and tied to the program's text by the given tie.
-/
import Derived.Test.Qxb6603493aFmtWalks
import Derived.Test.Qxb6603493aFmtTie
import Derived.Test.Qxb6603493aFmtCards
import Derived.ProofKit
import Derived.OpenVars
import Derived.Deep.Strs
import Derived.MakeChecks
import Derived.LaidMore
import Derived.LaidHandle
import Derived.Stop.JoinedTold
import Derived.Deep.DeepWitnessRef
import Derived.SevenTiedAt
namespace Go.Proofs.Qxb6603493aFmt
open Go.ChangeShapes Go.WideShapes Go.ChangeAt Go.RowKit
open Go.Extern.Stop Go.Stop Go.Extern

theorem own : ownKnob Tryf.prog.godebug = none := by kernel_rfl
theorem laidOut : laidOutB Tryf.prog = true := by kernel_rfl
theorem gVar : Tryf.prog.globalNamed (Rows.fnDecisionMarshalTableSpec.vars.headD "") = some 0 := by kernel_rfl
theorem tVar : (Tryf.prog.globals[0]?).map (·.type) = some 34 := by kernel_rfl
theorem cells9 : Tryf.prog.cellsOf 9 = 1 := by kernel_rfl
theorem cells32 : Tryf.prog.cellsOf 32 = 1 := by kernel_rfl
theorem cells34 : Tryf.prog.cellsOf 34 = 3 := by kernel_rfl

theorem str_of_data {s : ByteArray} {l : List UInt8} (h : s.data.toList = l) : s = ⟨l.toArray⟩ := by
  cases s with
  | mk d => cases d with
    | mk l' => simp at h; subst h; rfl

theorem three_of {l : List Value} (h : l.length = 3) : ∃ a b c, l = [a, b, c] := by
  match l, h with
  | [a, b, c], _ => exact ⟨a, b, c, rfl⟩

/-- What the listed variable's reading gives the walks. -/
theorem of_laid {W : World} (h : laidMetH Tryf.prog Rows.fnDecisionMarshalTableRow.laid W) : ∃ t wh b off cap, VarIs W t wh b off cap := by
  rw [MakeChecks.laidMetH_plain _ _ _ (by kernel_rfl)] at h
  obtain ⟨ps, ⟨g0, t0, cs, f0, p0, q0, hg0, ht0, hv0, hd0, _, _⟩, _, _⟩ := h
  obtain rfl := Option.some.inj (gVar.symm.trans hg0)
  obtain rfl := Option.some.inj (tVar.symm.trans ht0)
  have hd : DataW.trod (fun _ => ()) Tryf.prog W 0 (fun _ => true) false f0 34 cs.toList = some (.agg [.lit (.string [76, 97, 114, 103, 101, 82, 101, 100, 101, 109, 112, 116, 105, 111, 110, 68, 101, 99, 105, 115, 105, 111, 110]), .lit (.string [97, 32, 108, 97, 114, 103, 101, 45, 114, 101, 100, 101, 109, 112, 116, 105, 111, 110, 32, 100, 101, 99, 105, 115, 105, 111, 110]), .slice [.lit (.string []), .lit (.string [97, 99, 99, 101, 112, 116, 45, 97, 108, 108]), .lit (.string [100, 101, 102, 101, 114])] []], p0) := hd0
  obtain ⟨y0, y1, y2, n, hx, hl, e0, e1, e2⟩ := Deep.trod_struct3 Tryf.underlying34 hd
  rw [cells34] at hl
  obtain ⟨v0, v1, v2, hcs⟩ := three_of hl
  have ecs : cs = #[v0, v1, v2] := by cases cs; simp at hcs; rw [hcs]
  subst ecs
  simp only [cells9, cells32, List.drop_zero, List.drop_succ_cons, List.take_succ_cons, List.take_zero] at e0 e1 e2
  obtain ⟨t, ht, _, _⟩ := DataW.trod_string Tryf.underlying9 e0
  obtain ⟨wh, hwh, _, _⟩ := DataW.trod_string Tryf.underlying9 e1
  simp only [Prod.mk.injEq, DataW.agg.injEq, List.cons.injEq, and_true] at hx
  obtain ⟨⟨_, _, hy2⟩, _⟩ := hx
  have e2' : DataW.trod (fun _ => ()) Tryf.prog W 0 (fun _ => true) false n 32 [v2] = some (.slice [.lit (.string []), .lit (.string [97, 99, 99, 101, 112, 116, 45, 97, 108, 108]), .lit (.string [100, 101, 102, 101, 114])] [], y2.2) := by
    rw [hy2]; exact e2
  obtain ⟨a, cap, hcs2, _, hel⟩ := open_row Tryf.underlying32 cells9 e2'
  obtain ⟨u1, m1, q1, hc1, hr1⟩ := hel 1 _ rfl
  obtain ⟨u2, m2, q2, hc2, hr2⟩ := hel 2 _ rfl
  obtain ⟨s1, es1, ed1, _⟩ := DataW.trod_string Tryf.underlying9 hr1
  obtain ⟨s2, es2, ed2, _⟩ := DataW.trod_string Tryf.underlying9 hr2
  obtain ⟨b, off, spot⟩ := a
  obtain ⟨u0, m0, q0', hc0, _⟩ := hel 0 _ rfl
  have hspot : spot = none := by simpa [Addr.add] using World.cell?_spot hc0
  subst hspot
  have hs1 : s1 = ⟨#[97, 99, 99, 101, 112, 116, 45, 97, 108, 108]⟩ := str_of_data (by simp only [Prod.mk.injEq, DataW.lit.injEq, Lit.string.injEq] at ed1; exact ed1.1.symm)
  have hs2 : s2 = ⟨#[100, 101, 102, 101, 114]⟩ := str_of_data (by simp only [Prod.mk.injEq, DataW.lit.injEq, Lit.string.injEq] at ed2; exact ed2.1.symm)
  have cell := World.var?_cell hg0 hv0
  simp only [List.cons.injEq, and_true] at ht hwh hcs2 es1 es2
  subst ht hwh hcs2 es1 es2 hs1 hs2
  refine ⟨t, wh, b, off, cap, ⟨?_, ?_, ?_, ?_, ?_⟩⟩
  · simpa using cell 0
  · simpa using cell 1
  · simpa using cell 2
  · rw [addp] at hc1; exact hc1
  · rw [addp] at hc2; exact hc2

/-- The door's own heap meets the row's list: closed facts. -/
theorem door_met (os : Os) (args : Array Value) : laidMetH Tryf.prog Rows.fnDecisionMarshalTableRow.laid ((World.doorLaid Tryf.prog 400 os).forCall (fun _ _ => 0) ⟨#[], args, []⟩).memory :=
  laidMetH_of_parts3 (fuel := 8) (laidMet_of_run' 8 (by kernel_rfl) (by kernel_rfl)) (by kernel_rfl) (by kernel_rfl)

theorem witness_row (os : Os) {H : Type} (enc : TypeId × Value → H) :
    (OpenSpec.ofChange Rows.fnDecisionMarshalTableSpec).preRow enc Tryf.prog Tryf.f3 Rows.fnDecisionMarshalTableRow.domain false Rows.fnDecisionMarshalTableRow.laid ((World.doorLaid Tryf.prog 400 os).forCall (fun _ _ => 0) ⟨#[], #[.int .i64 0], []⟩).memory #[.int .i64 0] :=
  OpenSpec.preRow_of_B rfl 8 (by kernel_rfl) (by kernel_rfl) (door_met os _)

set_option maxRecDepth 100000 in
theorem lifted (os : Os) (started : os.Started) (H : Type) (enc : TypeId × Value → H) :
    ReturnsInTold none {} Tryf.checked os 3 .any Input.okWide ((OpenSpec.ofChange Rows.fnDecisionMarshalTableSpec).preRow enc Tryf.prog Tryf.f3 Rows.fnDecisionMarshalTableRow.domain false Rows.fnDecisionMarshalTableRow.laid)
      (fun F => ((OpenSpec.ofChange Rows.fnDecisionMarshalTableSpec).at F).post enc Tryf.prog Tryf.f3 false true false false) (aloneAtReturn Tryf.prog) nothingAlways := by
  refine returnsInTold_of_row (C := Tryf.checked) (s := OpenSpec.ofChange Rows.fnDecisionMarshalTableSpec) (by kernel_rfl) own started (by kernel_rfl) Tryf.func3
    (OpenSpec.witness_stopped_atRef (enc := enc) (C := Tryf.checked) false (World.doorLaid Tryf.prog 400 os) #[.int .i64 0] rfl (by kernel_rfl) (by kernel_rfl) (by kernel_rfl) (witness_row os enc)) ?_
  intro F W base args ds gs before _ hF hval0 hW _ _ _ hL _
  have hval : ∀ (j : Nat) t v, Tryf.f3.params[j]? = some t → args[j]? = some v → Value.okWide Tryf.prog W .any base t v := hval0
  have hW' := hW
  obtain ⟨p, q, hA0, hV0, rfl, _, _⟩ := hW
  have hA : DataW.TrodAll enc Tryf.prog W 0 (fun _ => true) true Tryf.f3.params.toList args.toList ds p := hA0
  rw [Tryf.params3] at hA hval
  obtain ⟨v0, d0, rfl, rfl, h0⟩ := trodAll_one hA
  obtain ⟨k, rfl, rfl, rfl, wk⟩ := open_int Tryf.underlying3 (hval 0 3 v0 rfl rfl) h0
  obtain ⟨t, wh, b, off, cap, hvar⟩ := of_laid hL
  have hV : DataW.TrodVars enc Tryf.prog W (fun _ => true) Rows.fnDecisionMarshalTableSpec.vars gs q := hV0
  obtain ⟨g1, rfl⟩ : ∃ g, gs = [g] := by
    obtain ⟨_, _, _, _, d, _, e, _⟩ := trodVars_one hV
    exact ⟨d, e⟩
  clear hA0 hval0
  have walk : Calls Tryf.prog 3 #[.int .i64 k] W fun e w' => e = .returned (.bool true) ∧ Below W.heap.size W w' := by
    by_cases h1 : k = 1
    · subst h1; exact walk_one t wh b off cap W hvar
    · by_cases h2 : k = 2
      · subst h2; exact walk_two t wh b off cap W hvar
      · exact walk_err F.told t wh b off cap k W hF (by omega) hvar
  refine walk.mono fun e W' ⟨he, bel⟩ => ?_
  subst he
  exact ⟨_, rfl, _, _, _, [], [], q, hW', trodAll_mk1 (shut_bool Tryf.underlying4 _), trodAll_mk1 (shut_int Tryf.underlying3 wk), Below.trodVars laidOut bel (by kernel_rfl) hV, bel.frame _, fun h => by cases h⟩

theorem pinnedLaidOut : laidOutB Tryf.pinned.checked.prog = true := by kernel_rfl
theorem stops : Tryf.pinned.checked.prog.stops = ["fmt.errorf"] := by kernel_rfl
theorem stopKnobs : Tryf.pinned.checked.prog.stopKnobs = [] := by kernel_rfl
theorem quiet (os : Os) : Stop.quiet Tryf.pinned.checked.prog os := by
  intro k hk
  rw [stopKnobs] at hk
  cases hk

/-- ████ THE STATEMENT ████ -/
theorem proved : Rows.FnDecisionMarshalTableToldSaid :=
  Claim7.holds_of_told_tied_any_at .later 3 Tryf.f3 "fmt.errorf" [] [] _ _ _ _ _ (by kernel_rfl) rfl rfl rfl pinnedLaidOut (by kernel_rfl) rfl ⟨rfl, rfl, rfl, rfl, rfl, rfl, rfl⟩ rfl rfl (by kernel_rfl) (by kernel_rfl) Tryf.func3 (by kernel_rfl)
    (of_decide_eq_true (by kernel_rfl)) (of_decide_eq_true (by kernel_rfl)) stops.symm rfl stopKnobs.symm (by kernel_rfl)
    (by kernel_rfl) (by kernel_rfl) (by kernel_rfl) (by kernel_rfl) (by kernel_rfl) (by kernel_rfl) (by kernel_rfl) (by kernel_rfl) (by kernel_rfl) rfl (by kernel_rfl) rfl rfl
    rfl rfl
    rfl (by kernel_rfl) (by kernel_rfl) (by kernel_rfl) (by decide) (by kernel_rfl) fnDecisionMarshalTable_row_tie
    (OpenClaim.moreEntering_of (by kernel_rfl) (by kernel_rfl) (by kernel_rfl) (by kernel_rfl) (by kernel_rfl) (by kernel_rfl) (by kernel_rfl) (by kernel_rfl) (by kernel_rfl) (by kernel_rfl))
    ⟨_, WideRow.started_initial, quiet _⟩
    (fun os started _ H enc _ => lifted os started H enc)
#print axioms proved
end Go.Proofs.Qxb6603493aFmt
