/-
  Seat b6603378a. The walks that only read: zzBytes_FnScanWrap, stringEnd, stringModel, containerModel, completeAt, scan, ZZScan.
-/
import Derived.Test.Qxb6603378aRows
import Derived.Test.Qxb6603378aBase
import Derived.WalkKit
import Derived.WalkLawsBesides
namespace Go.Proofs.Qxb6603378a
open Go.RowKit Pl

/-- A slice of bytes: its elements are Z; where there is one, its place is known. -/
def Byts (w : World) (a : Option Addr) (n : Nat) (Z : List Int) : Prop :=
  Z.length = n ∧ (∀ z ∈ Z, 0 ≤ z ∧ z ≤ 255) ∧ ∀ i, i < n → ∃ b off, a = some ⟨b, off, none⟩ ∧ b < w.heap.size ∧ w.cell? ⟨b, off + i, none⟩ = some (.int .u8 (bAt Z i))
theorem Byts.later {w w' : World} {B : Nat} {a : Option Addr} {n : Nat} {Z : List Int} (h : Byts w a n Z) (hb : Below B w w') (hB : B = w.heap.size) : Byts w' a n Z := by
  subst hB
  refine ⟨h.1, h.2.1, fun i hi => ?_⟩
  obtain ⟨b, off, h1, h2, h3⟩ := h.2.2 i hi
  exact ⟨b, off, h1, Nat.lt_of_lt_of_le h2 hb.size, (hb.cell (p := ⟨b, off + i, none⟩) h2).trans h3⟩

/-- zzBytes_FnScanWrap: it answers something. -/
def ABool (e : Ending) : Prop := ∃ r : Bool, e = .returned (.bool r)
theorem bytes_any (a : Option Addr) (n c : Nat) (i : Int) (w : World) (hn : n ≤ maxLen) :
    Calls Try.prog 25 #[.slice a n c, .int .i64 i] w fun e w' => ABool e ∧ w' = w := by
  unfold maxLen at hn
  go_enter Try.func25, Try.ntmps25
  go_wp2_with fail
  all_goals
    go_ret
    exact ⟨⟨_, rfl⟩, rfl⟩

theorem ret_int {k : IntKind} {a b : Int} (h : a = b) : Ending.returned (.int k a) = .returned (.int k b) := by rw [h]

/-- stringEnd, where the string closes. -/
theorem strEnd_any (a : Option Addr) (n c : Nat) (Z : List Int) (i e : Nat) (w : World) (hZ : Byts w a n Z) (hn : n ≤ 2000000) (he : StrEnd Z i e) :
    Calls Try.prog 32 #[.slice a n c, .int .i64 i] w fun r w' => r = .returned (.int .i64 e) ∧ w' = w := by
  have hb := he.bound
  have HL : Hid (Z.length = n) := hZ.1
  have hin : i < n := by have := HL.out; omega
  have hen : e ≤ n := by have := HL.out; omega
  clear hb
  go_enter Try.func32, Try.ntmps32
  go_wp2_with fail
  go_loop [1] (fun x => ∃ p : Nat, p ≤ n ∧ x = .int .i64 p ∧ StrAt Z p e) (fun x => n - (intOf x).toNat)
  case atStart => exact ⟨i + 1, by omega, by go_num, StrAt.start he⟩
  case round =>
    obtain ⟨p, hp, rfl, hs⟩ := hrel
    have hlt : p < n := by have h1 := hs.lt; have h2 := HL.out; omega
    obtain ⟨b, off, rfl, _, hc⟩ := hZ.2.2 p hlt
    by_cases h34 : bAt Z p = 34
    · have HE : Hid (e = p + 1) := hs.quote h34
      go_wp2_with fail
      go_ret
      exact ⟨ret_int (by have := HE.out; omega), rfl⟩
    · by_cases h92 : bAt Z p = 92
      · have HB := hs.back h92
        have hlt2 : p + 1 < n := by have h1 := HB.2; have h2 := HL.out; omega
        have hs2 := HB.1
        clear HB
        go_wp2_with fail
        go_round
        case rel => exact ⟨p + 2, by omega, by go_num, hs2⟩
        case measure => simp [intOf]; omega
      · have hs2 := hs.plain h34 h92
        go_wp2_with fail
        go_round
        case rel => exact ⟨p + 1, by omega, by go_num, hs2⟩
        case measure => simp [intOf]; omega

/-- What stringModel answers. -/
def SRes (Z : List Int) (i : Nat) (r : Ending) : Prop := ∃ (e : Nat) (ok : Bool), r = .returned (.tuple #[.int .i64 e, .bool ok]) ∧ (ok = true → StrEnd Z i e)
theorem ret_int_bool {a b : Int} (h : a = b) (o : Bool) : Ending.returned (.tuple #[.int .i64 a, .bool o]) = .returned (.tuple #[.int .i64 b, .bool o]) := by rw [h]

set_option maxHeartbeats 400000 in
/-- stringModel. -/
theorem strModel_any (a : Option Addr) (n c : Nat) (Z : List Int) (i : Nat) (w : World) (hZ : Byts w a n Z) (hn : n ≤ 2000000) (hi : i < n) :
    Calls Try.prog 21 #[.slice a n c, .int .i64 i] w fun r w' => SRes Z i r ∧ w' = w := by
  have HL : Hid (Z.length = n) := hZ.1
  go_enter Try.func21, Try.ntmps21
  go_wp2_with fail
  go_loop [6] (fun x => ∃ q : Nat, q ≤ n ∧ x = .int .i64 q ∧ SM Z i q) (fun x => n - (intOf x).toNat)
  case atStart => exact ⟨i + 1, by omega, by go_num, SM.start Z i⟩
  case round =>
    obtain ⟨q, hq, rfl, hs⟩ := hrel
    have hle := hs.le
    by_cases hlt : q < n
    · obtain ⟨b, off, rfl, _, hc⟩ := hZ.2.2 q hlt
      by_cases h34 : bAt Z q = 34
      · go_wp2_with fail
        go_loop [7, 8] (fun x y => ∃ j : Nat, x = .int .i64 j ∧ y = .int .i64 ((q : Int) - 1 - (j : Int)) ∧ Run Z i q j) (fun x _ => q - (intOf x).toNat)
        case atStart => exact ⟨0, rfl, by simp, Run.start Z i q⟩
        case round =>
          obtain ⟨j, rfl, rfl, hr⟩ := hrel
          have hj := hr.1
          by_cases hjt : j < q - (i + 1)
          · obtain ⟨b2, off2, he, _, hc2⟩ := hZ.2.2 (q - 1 - j) (by omega)
            obtain ⟨rfl, rfl⟩ : b = b2 ∧ off = off2 := by simpa using he
            clear he
            by_cases h92 : bAt Z (q - 1 - j) = 92
            · have hr2 := hr.step hjt h92
              go_wp2_with fail
              go_round
              case rel => exact ⟨j + 1, by go_num, by go_num, hr2⟩
              case measure => simp [intOf]; omega
            · have he := hr.esc hle (.inr h92)
              by_cases hev : j % 2 = 0
              · have HF : Hid (StrEnd Z i (q + 1)) := hs.found (by have := HL.out; omega) h34 (by rw [he]; simp; omega)
                have hm : (j : Int) % 2 = 0 := by omega
                clear he hev
                go_wp2_with fail
                go_ret2
                exact ⟨⟨q + 1, true, ret_int_bool (by omega) true, fun _ => HF.out⟩, rfl⟩
              · have hs2 := hs.step (by have := HL.out; omega) (.inr (by rw [he]; simp; omega))
                have hm : (j : Int) % 2 = 1 := by omega
                clear he hev
                go_wp2_with fail
                go_round
                case rel => exact ⟨q + 1, by omega, by go_num, hs2⟩
                case measure => simp [intOf]; omega
          · have he := hr.esc hle (.inl (by omega))
            by_cases hev : j % 2 = 0
            · have HF : Hid (StrEnd Z i (q + 1)) := hs.found (by have := HL.out; omega) h34 (by rw [he]; simp; omega)
              have hm : (j : Int) % 2 = 0 := by omega
              clear he hev
              go_wp2_with fail
              go_ret2
              exact ⟨⟨q + 1, true, ret_int_bool (by omega) true, fun _ => HF.out⟩, rfl⟩
            · have hs2 := hs.step (by have := HL.out; omega) (.inr (by rw [he]; simp; omega))
              have hm : (j : Int) % 2 = 1 := by omega
              clear he hev
              go_wp2_with fail
              go_round
              case rel => exact ⟨q + 1, by omega, by go_num, hs2⟩
              case measure => simp [intOf]; omega
      · have hs2 := hs.step (by have := HL.out; omega) (.inl h34)
        go_wp2_with fail
        go_round
        case rel => exact ⟨q + 1, by omega, by go_num, hs2⟩
        case measure => simp [intOf]; omega
    · go_wp2_with fail
      go_ret2
      exact ⟨⟨0, false, rfl, fun h => by cases h⟩, rfl⟩

/-- What containerModel answers. -/
def CRes (Z : List Int) (j : Nat) (r : Ending) : Prop := ∃ (e d : Nat) (ok : Bool), r = .returned (.tuple #[.int .i64 e, .int .i64 d, .bool ok]) ∧ (ok = true → Boxed Z j e d)
theorem ret_int2_bool {a b c d : Int} (h : a = b) (h2 : c = d) (o : Bool) : Ending.returned (.tuple #[.int .i64 a, .int .i64 c, .bool o]) = .returned (.tuple #[.int .i64 b, .int .i64 d, .bool o]) := by rw [h, h2]
theorem CRes.no (Z : List Int) (j : Nat) : CRes Z j (.returned (.tuple #[.int .i64 0, .int .i64 0, .bool false])) := ⟨0, 0, false, rfl, fun h => by cases h⟩
theorem opens_of {c : Int} (h : c = 91 ∨ c = 123) : opens c = true := by rcases h with rfl | rfl <;> rfl
theorem opens_not {c : Int} (h1 : c ≠ 91) (h2 : c ≠ 123) : opens c = false := by simp [opens, h1, h2]
theorem shuts_of {c : Int} (h : c = 93 ∨ c = 125) : shuts c = true := by rcases h with rfl | rfl <;> rfl
theorem shuts_not {c : Int} (h1 : c ≠ 93) (h2 : c ≠ 125) : shuts c = false := by simp [shuts, h1, h2]

set_option maxRecDepth 100000 in
set_option maxHeartbeats 1000000 in
/-- containerModel: by induction on what is left of the text. -/
theorem contModel_any (a : Option Addr) (n c : Nat) (Z : List Int) (w : World) (hZ : Byts w a n Z) (hn : n ≤ 2000000) (f : Nat) : ∀ (j : Nat), j < n → n - j ≤ f →
    Calls Try.prog 22 #[.slice a n c, .int .i64 j] w fun r w' => CRes Z j r ∧ w' = w := by
  induction f with
  | zero => intro j h1 h2; omega
  | succ f ih =>
    intro j hj hf
    have IH : Hid (∀ (j : Nat), j < n → n - j ≤ f → Calls Try.prog 22 #[.slice a n c, .int .i64 j] w fun r w' => CRes Z j r ∧ w' = w) := ih
    have HL : Hid (Z.length = n) := hZ.1
    clear ih
    go_enter Try.func22, Try.ntmps22
    go_wp2_with fail
    go_loop [7, 8] (fun x y => ∃ k inner : Nat, k ≤ n ∧ j + 1 ≤ k ∧ inner ≤ n ∧ x = .int .i64 inner ∧ y = .int .i64 k ∧ BoxTo Z j k inner) (fun _ y => n - (intOf y).toNat)
    case atStart => exact ⟨j + 1, 0, by omega, Nat.le_refl _, Nat.zero_le _, rfl, by go_num, BoxTo.start (by have := HL.out; omega)⟩
    case round =>
      obtain ⟨k, inner, hk, hjk, hin, rfl, rfl, hB⟩ := hrel
      by_cases hlt : k < n
      · have hkZ : k < Z.length := by have := HL.out; omega
        obtain ⟨b, off, hab, _, hc⟩ := hZ.2.2 k hlt
        subst hab
        by_cases h34 : bAt Z k = 34
        · go_wp2_with fail
          refine (strModel_any _ n c Z k w hZ hn hlt).mono ?_
          rintro r w' ⟨⟨e, ok, rfl, hok⟩, rfl⟩
          cases ok with
          | false =>
            go_wp2_with fail
            go_ret3
            exact ⟨CRes.no Z j, rfl⟩
          | true =>
            have hse := hok rfl
            have hbd := hse.bound
            have hen : e ≤ n := by have := HL.out; omega
            have hke : k + 1 < e := hbd.1
            have hB2 := hB.quote hkZ h34 hse
            clear hok hbd
            go_wp2_with fail
            go_round
            case rel => exact ⟨e, inner, by omega, by omega, hin, rfl, rfl, hB2⟩
            case measure => simp [intOf]; omega
        · by_cases hop : bAt Z k = 91 ∨ bAt Z k = 123
          · have ho := opens_of hop
            rcases hop with h91 | h123
            all_goals
              go_wp2_with fail
              refine (IH.out k hlt (by omega)).mono ?_
              rintro r w' ⟨⟨e, d, ok, rfl, hok⟩, rfl⟩
              cases ok with
              | false =>
                go_wp2_with fail
                go_ret3
                exact ⟨CRes.no Z j, rfl⟩
              | true =>
                have hbx := hok rfl
                have hB2 := hB.box hkZ h34 ho hbx
                have hen : e ≤ n := by have := HL.out; have := hbx.2.1; omega
                have hdn : d ≤ n := by have := hbx.2.2.2.1; omega
                have hke : k + 1 < e := hbx.1
                clear hok
                by_cases hd : inner < d
                · go_wp2_with fail
                  go_round
                  case rel => exact ⟨e, d, hen, by omega, hdn, rfl, rfl, by rw [show max inner d = d by omega] at hB2; exact hB2⟩
                  case measure => simp [intOf]; omega
                · go_wp2_with fail
                  go_round
                  case rel => exact ⟨e, inner, hen, by omega, hin, rfl, rfl, by rw [show max inner d = inner by omega] at hB2; exact hB2⟩
                  case measure => simp [intOf]; omega
          · have h91 : ¬ bAt Z k = 91 := fun h => hop (.inl h)
            have h123 : ¬ bAt Z k = 123 := fun h => hop (.inr h)
            have ho := opens_not h91 h123
            have q91 : (bAt Z k == 91) = false := beq_eq_false_iff_ne.2 h91
            have q123 : (bAt Z k == 123) = false := beq_eq_false_iff_ne.2 h123
            clear hop
            by_cases hsh : bAt Z k = 93 ∨ bAt Z k = 125
            · have HX : Hid (Boxed Z j (k + 1) (inner + 1)) := hB.shut hkZ h34 ho (shuts_of hsh)
              rcases hsh with h93 | h125
              all_goals
                go_wp2_with fail
                go_ret3
                exact ⟨⟨k + 1, inner + 1, true, ret_int2_bool (by omega) (by omega) true, fun _ => HX.out⟩, rfl⟩
            · have h93 : ¬ bAt Z k = 93 := fun h => hsh (.inl h)
              have h125 : ¬ bAt Z k = 125 := fun h => hsh (.inr h)
              have hB2 := hB.other hkZ h34 ho (shuts_not h93 h125)
              have q93 : (bAt Z k == 93) = false := beq_eq_false_iff_ne.2 h93
              have q125 : (bAt Z k == 125) = false := beq_eq_false_iff_ne.2 h125
              clear hsh
              go_wp2_with fail
              go_round
              case rel => exact ⟨k + 1, inner, by omega, by omega, hin, rfl, by go_num, hB2⟩
              case measure => simp [intOf]; omega
      · go_wp2_with fail
        go_ret3
        exact ⟨CRes.no Z j, rfl⟩
end Go.Proofs.Qxb6603378a
