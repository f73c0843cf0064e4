/-
  Seat b6603493aF. The walks of the law FnDecisionMarshalTable.
-/
import Derived.Test.Qxb6603493aFmtRows
import Derived.Stop.CallBack
import Derived.Stop.IfaceNil
import Derived.WalkKit
import Derived.WalkLawsBesides
import Derived.WalkSpells
import Derived.Lib.SliceRun
namespace Go.Proofs.Qxb6603493aFmt
open Go.RowKit Go.Extern.Stop Go.Stop Go.Extern

/-- []byte(s): a new row that holds the bytes. -/
theorem to_bytes (W : World) (s : ByteArray) : ∃ cap W', (convert 9 22 (.string s)).run Tryf.prog W = .ok (.slice (some ⟨W.heap.size, 0, none⟩) s.size cap) W' ∧
    (∀ j (hj : j < s.data.toList.length), W'.cell? ⟨W.heap.size, j, none⟩ = some (.int .u8 (s.data.toList[j].toNat : Int))) ∧ Below W.heap.size W W' := by
  refine ⟨_, _, run_bytes_of_string W 9 22 5 s Tryf.underlying9 Tryf.underlying22 Tryf.underlying5, fun j hj => ?_, ((Below.refl _ _).drew).alloc (Nat.le_refl _) _⟩
  have hj' : j < s.data.size := by simpa using hj
  have hjs : j < s.size := hj'
  have hb : ∀ (C : Array Value) (m : Nat × Nat), (W.drew.alloc (.cells C 5 m)).heap[W.heap.size]? = some (.cells C 5 m) := fun C m => by
    show (W.heap.push (.cells C 5 m))[W.heap.size]? = _
    simp
  simp only [World.cell?, hb]
  simp [bytesRow, Array.getElem?_append, hjs]

/-- (valueNames).text at a value that has a name. -/
theorem text_ok (t wh s : ByteArray) (b off cap : Nat) (k : Nat) (w : World) (hk : k = 1 ∨ k = 2) (hc : w.cell? ⟨b, off + k, none⟩ = some (.string s)) :
    Calls Tryf.prog 10 #[.agg #[.string t, .string wh, .slice (some ⟨b, off, none⟩) 3 cap], .int .i64 k] w fun e w' => e = .returned (.tuple #[.string s, .nilIface]) ∧ Below w.heap.size w w' := by
  have hb0 : b < w.heap.size := World.block_lt_of_cell? _ _ hc
  have hb1 : b < w.heap.size + 1 := by omega
  rcases hk with rfl | rfl
  all_goals
    go_enter Tryf.func10, Tryf.ntmps10
    go_wp2
    go_ret2
    exact ⟨rfl, ((Below.refl _ _).alloc (Nat.le_refl _) _).alloc (by simp) _⟩

/-- (valueNames).marshal at a value that has a name: the bytes of the name. -/
theorem marshal_ok (t wh s : ByteArray) (b off cap : Nat) (k : Nat) (w : World) (hk : k = 1 ∨ k = 2) (hc : w.cell? ⟨b, off + k, none⟩ = some (.string s)) :
    Calls Tryf.prog 8 #[.agg #[.string t, .string wh, .slice (some ⟨b, off, none⟩) 3 cap], .int .i64 k] w fun e w' => ∃ g c, e = .returned (.tuple #[.slice (some ⟨g, 0, none⟩) s.size c, .nilIface]) ∧
      (∀ j (hj : j < s.data.toList.length), w'.cell? ⟨g, j, none⟩ = some (.int .u8 (s.data.toList[j].toNat : Int))) ∧ Below w.heap.size w w' := by
  have hb0 : b < w.heap.size := World.block_lt_of_cell? _ _ hc
  have hc1 : ∀ o, (w.alloc o).cell? ⟨b, off + k, none⟩ = some (.string s) := fun o => (((Below.refl w.heap.size w).alloc (Nat.le_refl _) o).cell (p := ⟨b, off + k, none⟩) hb0).trans hc
  go_enter Tryf.func8, Tryf.ntmps8
  go_wp2_with fail
  refine (text_ok t wh s b off cap k _ hk (hc1 _)).mono ?_
  rintro e w1 ⟨rfl, b1⟩
  go_wp2_with fail
  obtain ⟨c, w2, hrun, hcell, b2⟩ := to_bytes w1 s
  have B0 : ∀ o, Below w.heap.size w (w.alloc o) := fun o => (Below.refl w.heap.size w).alloc (Nat.le_refl _) o
  have B1 : Below w.heap.size w w1 := (B0 _).trans (b1.mono (by simp))
  have B2 : Below w.heap.size w w2 := B1.trans (b2.mono B1.size)
  rw [hrun]
  clear hrun b1 b2 B0 B1 hc1
  go_wp2_with fail
  go_ret2
  exact ⟨w1.heap.size, c, rfl, hcell, B2⟩

/-- What the variable largeRedemptionDecisions leads to. -/
structure VarIs (w : World) (t wh : ByteArray) (b off cap : Nat) : Prop where
  c0 : w.cell? ⟨0, 0, none⟩ = some (.string t)
  c1 : w.cell? ⟨0, 1, none⟩ = some (.string wh)
  c2 : w.cell? ⟨0, 2, none⟩ = some (.slice (some ⟨b, off, none⟩) 3 cap)
  n1 : w.cell? ⟨b, off + 1, none⟩ = some (.string ⟨#[97, 99, 99, 101, 112, 116, 45, 97, 108, 108]⟩)
  n2 : w.cell? ⟨b, off + 2, none⟩ = some (.string ⟨#[100, 101, 102, 101, 114]⟩)

/-- MarshalText at a value that has a name. -/
theorem mt_ok (t wh s : ByteArray) (b off cap : Nat) (k : Nat) (w : World) (hk : k = 1 ∨ k = 2) (c0 : w.cell? ⟨0, 0, none⟩ = some (.string t)) (c1 : w.cell? ⟨0, 1, none⟩ = some (.string wh)) (c2 : w.cell? ⟨0, 2, none⟩ = some (.slice (some ⟨b, off, none⟩) 3 cap))
    (hc : w.cell? ⟨b, off + k, none⟩ = some (.string s)) :
    Calls Tryf.prog 5 #[.int .i64 k] w fun e w' => ∃ g c, e = .returned (.tuple #[.slice (some ⟨g, 0, none⟩) s.size c, .nilIface]) ∧
      (∀ j (hj : j < s.data.toList.length), w'.cell? ⟨g, j, none⟩ = some (.int .u8 (s.data.toList[j].toNat : Int))) ∧ Below w.heap.size w w' := by
  go_enter Tryf.func5, Tryf.ntmps5
  go_wp2_with fail
  refine (marshal_ok t wh s b off cap k w hk hc).mono ?_
  rintro e w1 ⟨g, c, rfl, hcell, b1⟩
  go_wp2_with fail
  go_ret2
  exact ⟨g, c, rfl, hcell, b1⟩

theorem addp (b o i : Nat) : (⟨b, o, none⟩ : Addr).add i = ⟨b, o + i, none⟩ := by unfold Addr.add; split <;> simp_all

theorem back (w : World) (g c : Nat) (l : List UInt8) (h : ∀ j (hj : j < l.length), w.cell? ⟨g, j, none⟩ = some (.int .u8 (l[j].toNat : Int))) :
    (convert 22 9 (.slice (some ⟨g, 0, none⟩) l.length c)).run Tryf.prog w = .ok (.string ⟨l.toArray⟩) w :=
  run_convert_bytes_back w 22 9 5 ⟨g, 0, none⟩ c l Tryf.underlying22 Tryf.underlying5 Tryf.underlying9 (fun j hj => by rw [addp, Nat.zero_add]; exact h j hj)

set_option maxHeartbeats 1000000 in
theorem walk_one (t wh : ByteArray) (b off cap : Nat) (w : World) (h : VarIs w t wh b off cap) :
    Calls Tryf.prog 3 #[.int .i64 1] w fun e w' => e = .returned (.bool true) ∧ Below w.heap.size w w' := by
  obtain ⟨c0, c1, c2, n1, n2⟩ := h
  go_enter Tryf.func3, Tryf.ntmps3
  go_wp2_with fail
  refine (mt_ok t wh _ b off cap 1 w (.inl rfl) c0 c1 c2 n1).mono ?_
  rintro e w1 ⟨g, c, rfl, hcell, b1⟩
  have hb := back w1 g c _ hcell
  clear hcell
  have hb' : (convert 22 9 (.slice (some ⟨g, 0, none⟩) 10 c)).run Tryf.prog w1 = .ok (.string ⟨#[97, 99, 99, 101, 112, 116, 45, 97, 108, 108]⟩) w1 := hb
  clear hb
  go_wp2_with fail
  go_ret
  exact ⟨rfl, b1⟩

set_option maxHeartbeats 1000000 in
theorem walk_two (t wh : ByteArray) (b off cap : Nat) (w : World) (h : VarIs w t wh b off cap) :
    Calls Tryf.prog 3 #[.int .i64 2] w fun e w' => e = .returned (.bool true) ∧ Below w.heap.size w w' := by
  obtain ⟨c0, c1, c2, n1, n2⟩ := h
  go_enter Tryf.func3, Tryf.ntmps3
  go_wp2_with fail
  refine (mt_ok t wh _ b off cap 2 w (.inr rfl) c0 c1 c2 n2).mono ?_
  rintro e w1 ⟨g, c, rfl, hcell, b1⟩
  have hb := back w1 g c _ hcell
  clear hcell
  have hb' : (convert 22 9 (.slice (some ⟨g, 0, none⟩) 5 c)).run Tryf.prog w1 = .ok (.string ⟨#[100, 101, 102, 101, 114]⟩) w1 := hb
  clear hb
  go_wp2_with fail
  go_ret
  exact ⟨rfl, b1⟩

/-! ### The way of the error: fmt.Errorf, its front stopped: closed facts, each by the kernel (after the kit's own print for such a dump: Derived/Test/CheckFmt.lean). -/
theorem call14 (args : Array Value) (w : World) : (callFunc 14 args).run Tryf.prog w = ((FmtStop.errorf #[9, 42] #[24] args).run Tryf.prog w).andThen fun v w' => .ok (.value v) w' :=
  run_callFunc_extern Tryf.func14 (by kernel_rfl) (by kernel_rfl) (by kernel_rfl) (by kernel_rfl) args w
theorem guard14 (name : String) (w : World) : (FmtStop.guard name).run Tryf.prog w = .ok () w := by kernel_rfl
theorem fmt0 : FmtStop.printed? ⟨#[37, 100, 32, 105, 115, 32, 110, 111, 116, 32, 37, 115]⟩ 2 = some [(0, 100, false), (1, 115, false)] := by kernel_rfl
theorem fmt0r (w : World) : (FmtDoors.printed ⟨#[37, 100, 32, 105, 115, 32, 110, 111, 116, 32, 37, 115]⟩ 2).run Tryf.prog w = .ok [(0, 100, false), (1, 115, false)] w := by kernel_rfl
def shape9 : List UInt8 := [12, 6, 0, 0, 0, 0, 0, 0, 0, 115, 116, 114, 105, 110, 103]
def shape3 : List UInt8 := [5, 3, 0, 0, 0, 0, 0, 0, 0, 105, 110, 116]
theorem op9_115 (name : String) (x : ByteArray) (w : World) : (FmtStop.operand name false 115 false (.iface 9 (.string x))).run Tryf.prog w = .ok (shape9, FmtStop.pack x.data.toList) w := by kernel_rfl
theorem op9_115w (name : String) (x : ByteArray) (w : World) : (FmtStop.operand name true 115 false (.iface 9 (.string x))).run Tryf.prog w = .ok (shape9, FmtStop.pack x.data.toList) w := by kernel_rfl
theorem op3_100 (name : String) (x : Int) (w : World) : (FmtStop.operand name false 100 false (.iface 3 (.int .i64 x))).run Tryf.prog w = .ok (shape3, Go.Extern.Stop.digits 8 (x % 2 ^ 64).toNat) w := by kernel_rfl
theorem op3_100w (name : String) (x : Int) (w : World) : (FmtStop.operand name true 100 false (.iface 3 (.int .i64 x))).run Tryf.prog w = .ok (shape3, Go.Extern.Stop.digits 8 (x % 2 ^ 64).toNat) w := by kernel_rfl
theorem ptr52 (w : World) : (FmtStop.ptrTo "errors.errorString").run Tryf.prog w = .ok 52 w := by kernel_rfl
theorem elem52 (w : World) : (elemOf 52).run Tryf.prog w = .ok 54 w := by kernel_rfl
theorem isError52 (w : World) : (FmtDoors.textMethod 52 "Error").run Tryf.prog w = .ok true w := by kernel_rfl

attribute [local go_sem] call14 guard14 fmt0 fmt0r op9_115 op9_115w op3_100 op3_100w ptr52 elem52 isError52

/-- (valueNames).text at a value that has no name: an error. -/
theorem text_err (F : Interp) (t wh : ByteArray) (b off cap : Nat) (k : Int) (w : World) (hF : F.answers w.tape) (hk : k ≤ 0 ∨ 3 ≤ k) :
    Calls Tryf.prog 10 #[.agg #[.string t, .string wh, .slice (some ⟨b, off, none⟩) 3 cap], .int .i64 k] w fun e w' => ∃ a, e = .returned (.tuple #[.string ⟨#[]⟩, .iface 52 (.pointer (some a))]) ∧ Below w.heap.size w w' := by
  have hF' := answers_open hF
  by_cases h0 : k ≤ 0
  · have hd : decide (0 < k) = false := decide_eq_false (by omega)
    clear hk
    go_enter Tryf.func10, Tryf.ntmps10
    go_wp2
    go_ret2
    exact ⟨_, rfl, (((((Below.refl _ _).alloc (Nat.le_refl _) _).alloc (by simp) _).alloc (by simp; omega) _).alloc (by simp; omega) _).drew⟩
  · have h3 : 3 ≤ k := by omega
    have hd : decide (k < 3) = false := decide_eq_false (by omega)
    have hd0 : decide (0 < k) = true := decide_eq_true (by omega)
    clear hk h0
    go_enter Tryf.func10, Tryf.ntmps10
    go_wp2
    go_ret2
    exact ⟨_, rfl, (((((Below.refl _ _).alloc (Nat.le_refl _) _).alloc (by simp) _).alloc (by simp; omega) _).alloc (by simp; omega) _).drew⟩

/-- (valueNames).marshal at a value that has no name. -/
theorem marshal_err (F : Interp) (t wh : ByteArray) (b off cap : Nat) (k : Int) (w : World) (hF : F.answers w.tape) (hk : k ≤ 0 ∨ 3 ≤ k) :
    Calls Tryf.prog 8 #[.agg #[.string t, .string wh, .slice (some ⟨b, off, none⟩) 3 cap], .int .i64 k] w fun e w' => ∃ a, e = .returned (.tuple #[.slice none 0 0, .iface 52 (.pointer (some a))]) ∧ Below w.heap.size w w' := by
  have B0 : ∀ o, Below w.heap.size w (w.alloc o) := fun o => (Below.refl w.heap.size w).alloc (Nat.le_refl _) o
  go_enter Tryf.func8, Tryf.ntmps8
  go_wp2_with fail
  refine (text_err F t wh b off cap k _ (by exact hF) hk).mono ?_
  rintro e w1 ⟨a, rfl, b1⟩
  have B1 : Below w.heap.size w w1 := (B0 _).trans (b1.mono (by simp))
  clear B0 b1
  go_wp2_with fail
  go_ret2
  exact ⟨a, rfl, B1⟩

/-- MarshalText at a value that has no name. -/
theorem mt_err (F : Interp) (t wh : ByteArray) (b off cap : Nat) (k : Int) (w : World) (hF : F.answers w.tape) (hk : k ≤ 0 ∨ 3 ≤ k) (c0 : w.cell? ⟨0, 0, none⟩ = some (.string t)) (c1 : w.cell? ⟨0, 1, none⟩ = some (.string wh)) (c2 : w.cell? ⟨0, 2, none⟩ = some (.slice (some ⟨b, off, none⟩) 3 cap)) :
    Calls Tryf.prog 5 #[.int .i64 k] w fun e w' => ∃ a, e = .returned (.tuple #[.slice none 0 0, .iface 52 (.pointer (some a))]) ∧ Below w.heap.size w w' := by
  go_enter Tryf.func5, Tryf.ntmps5
  go_wp2_with fail
  refine (marshal_err F t wh b off cap k w hF hk).mono ?_
  rintro e w1 ⟨a, rfl, b1⟩
  go_wp2_with fail
  go_ret2
  exact ⟨a, rfl, b1⟩

set_option maxHeartbeats 1000000 in
theorem walk_err (F : Interp) (t wh : ByteArray) (b off cap : Nat) (k : Int) (w : World) (hF : F.answers w.tape) (hk : k ≤ 0 ∨ 3 ≤ k) (h : VarIs w t wh b off cap) :
    Calls Tryf.prog 3 #[.int .i64 k] w fun e w' => e = .returned (.bool true) ∧ Below w.heap.size w w' := by
  obtain ⟨c0, c1, c2, n1, n2⟩ := h
  have hq := fun w => Lib.run_eql_slice_nil (P := Tryf.prog) w 22 5 none 0 0 0 0 Tryf.underlying22
  simp only [Option.isNone_none] at hq
  have k1 : (k == 1) = false := beq_eq_false_iff_ne.2 (by omega)
  have k2 : (k == 2) = false := beq_eq_false_iff_ne.2 (by omega)
  go_enter Tryf.func3, Tryf.ntmps3
  go_wp2_with fail
  refine (mt_err F t wh b off cap k w hF hk c0 c1 c2).mono ?_
  rintro e w1 ⟨a, rfl, b1⟩
  go_wp2_with fail
  go_ret
  exact ⟨rfl, b1⟩
end Go.Proofs.Qxb6603493aFmt
