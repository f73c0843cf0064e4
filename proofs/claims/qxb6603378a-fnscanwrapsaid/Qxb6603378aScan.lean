/-
  Seat b6603378a. The walks of completeAt, scan, ZZScan.
-/
import Derived.Test.Qxb6603378aReads
namespace Go.Proofs.Qxb6603378a
open Go.RowKit Pl

def ABoolIf (e : Ending) (p : Prop) : Prop := ∃ r : Bool, e = .returned (.bool r) ∧ (r = true → p)
/-- scan's documented domain at i, where a string, array or object opens there. -/
def Fit (Z : List Int) (i : Nat) : Prop := (bAt Z i = 34 → ∃ e, StrEnd Z i e) ∧ (bAt Z i = 91 ∨ bAt Z i = 123 → ∃ e d, Boxed Z i e d)

theorem complete_no (a : Option Addr) (n c : Nat) (i : Int) (w : World) (h : i < 0 ∨ (n : Int) ≤ i) :
    Calls Try.prog 18 #[.slice a n c, .int .i64 i] w fun e w' => e = .returned (.bool false) ∧ w' = w := by
  by_cases h0 : i < 0
  · go_enter Try.func18, Try.ntmps18
    go_wp2_with fail
    go_ret
    exact ⟨rfl, rfl⟩
  · have h1 : (n : Int) ≤ i := by omega
    clear h
    go_enter Try.func18, Try.ntmps18
    go_wp2_with fail
    go_ret
    exact ⟨rfl, rfl⟩

set_option maxHeartbeats 400000 in
theorem complete_any (a : Option Addr) (n c : Nat) (Z : List Int) (i : Nat) (w : World) (hZ : Byts w a n Z) (hn : n ≤ 2000000) (hi : i < n) :
    Calls Try.prog 18 #[.slice a n c, .int .i64 i] w fun e w' => ABoolIf e (Fit Z i) ∧ w' = w := by
  have hi0 : ¬ (i : Int) < 0 := by omega
  have hi1 : (i : Int) < (n : Int) := by omega
  obtain ⟨b, off, hab, _, hc⟩ := hZ.2.2 i hi
  subst hab
  by_cases h34 : bAt Z i = 34
  · go_enter Try.func18, Try.ntmps18
    go_wp2_with fail
    refine (strModel_any _ n c Z i w hZ hn hi).mono ?_
    rintro r w' ⟨⟨e, ok, rfl, hok⟩, rfl⟩
    have HF : Hid (ok = true → Fit Z i) := fun h => ⟨fun _ => ⟨e, hok h⟩, fun h => absurd h (by rw [h34]; omega)⟩
    clear hok
    go_wp2_with fail
    go_ret
    exact ⟨⟨ok, rfl, HF.out⟩, rfl⟩
  · by_cases hop : bAt Z i = 91 ∨ bAt Z i = 123
    · rcases hop with h91 | h123
      all_goals
        go_enter Try.func18, Try.ntmps18
        go_wp2_with fail
        refine (contModel_any _ n c Z w hZ hn (n - i) i hi (Nat.le_refl _)).mono ?_
        rintro r w' ⟨⟨e, d, ok, rfl, hok⟩, rfl⟩
        have HF : Hid (ok = true → Fit Z i) := fun h => ⟨fun h' => absurd h' h34, fun _ => ⟨e, d, hok h⟩⟩
        clear hok
        go_wp2_with fail
        go_ret
        exact ⟨⟨ok, rfl, HF.out⟩, rfl⟩
    · have h91 : ¬ bAt Z i = 91 := fun h => hop (.inl h)
      have h123 : ¬ bAt Z i = 123 := fun h => hop (.inr h)
      have q91 : (bAt Z i == 91) = false := beq_eq_false_iff_ne.2 h91
      have q123 : (bAt Z i == 123) = false := beq_eq_false_iff_ne.2 h123
      have HF : Hid (Fit Z i) := ⟨fun h' => absurd h' h34, fun h' => absurd h' hop⟩
      clear hop
      go_enter Try.func18, Try.ntmps18
      go_wp2_with fail
      go_ret
      exact ⟨⟨true, rfl, fun _ => HF.out⟩, rfl⟩

/-- scan's loop at p, with 'open' o and 'depth' d, is on the road to e and x. -/
def ScAt (Z : List Int) (p o d e x : Nat) : Prop := (∃ m, scn 0 (Z.drop p) o d = some (m, x) ∧ p + m = e) ∧ (1 ≤ o ∨ (opens (bAt Z p) = true ∧ bAt Z p ≠ 34)) ∧ o ≤ p ∧ d ≤ p
theorem ScAt.start {Z : List Int} {i m x : Nat} (hi : i < Z.length) (ho : opens (bAt Z i) = true) (h34 : bAt Z i ≠ 34) (h : scn 0 (Z.drop (i + 1)) 1 1 = some (m, x)) : ScAt Z i 0 0 (i + 1 + m) x := by
  refine ⟨⟨m + 1, ?_, by omega⟩, .inr ⟨ho, h34⟩, by omega, by omega⟩
  rw [scn_open 0 0 hi h34 ho]
  show up 1 (scn 0 (Z.drop (i + 1)) 1 1) = _
  rw [h]
  rfl
theorem ScAt.lt {Z : List Int} {p o d e x : Nat} (h : ScAt Z p o d e x) : p < Z.length := by obtain ⟨⟨m, h1, _⟩, _⟩ := h; exact scn_lt h1
theorem up_some {k : Nat} {s : Option (Nat × Nat)} {m x : Nat} (h : up k s = some (m, x)) : ∃ m', s = some (m', x) ∧ m' + k = m := by
  cases s with
  | none => simp [up] at h
  | some y =>
    simp only [up, Option.some.injEq, Prod.mk.injEq] at h
    exact ⟨y.1, by rw [← h.2], h.1⟩
theorem opens_ne34 {c : Int} (h : opens c = true) : c ≠ 34 := by rintro rfl; revert h; decide
theorem ScAt.quote {Z : List Int} {p o d e x : Nat} (h : ScAt Z p o d e x) (hc : bAt Z p = 34) : ∃ k, StrEnd Z p k ∧ ScAt Z k o d e x := by
  have hl := h.lt
  obtain ⟨⟨m, h1, h2⟩, h3, h4, h5⟩ := h
  have ho : 1 ≤ o := by rcases h3 with h | h
                        · exact h
                        · exact absurd hc h.2
  have h1' := h1
  rw [scn0 o d hl, if_pos hc] at h1'
  obtain ⟨m', h6, h7⟩ := up_some h1'
  obtain ⟨mm, hmm⟩ := str_of_scn (Z.drop (p + 1)) false o d _ h6
  have hs : StrEnd Z p (p + 1 + mm) := ⟨mm, hmm, rfl⟩
  rw [scn_quote o d hs hl hc] at h1
  obtain ⟨m'', h8, h9⟩ := up_some h1
  exact ⟨p + 1 + mm, hs, ⟨m'', h8, by omega⟩, .inl ho, by omega, by omega⟩
theorem ScAt.opens {Z : List Int} {p o d e x : Nat} (h : ScAt Z p o d e x) (hc : bAt Z p ≠ 34) (ho : opens (bAt Z p) = true) : ScAt Z (p + 1) (o + 1) (max d (o + 1)) e x := by
  have hl := h.lt
  obtain ⟨⟨m, h1, h2⟩, h3, h4, h5⟩ := h
  rw [scn_open o d hl hc ho] at h1
  obtain ⟨m', h6, h7⟩ := up_some h1
  exact ⟨⟨m', h6, by omega⟩, .inl (by omega), by omega, by omega⟩
theorem ScAt.pos {Z : List Int} {p o d e x : Nat} (h : ScAt Z p o d e x) (ho : Pl.opens (bAt Z p) = false) : 1 ≤ o := by
  rcases h.2.1 with h | h
  · exact h
  · rw [ho] at h; exact absurd h.1 (by simp)
theorem ScAt.last {Z : List Int} {p d e x : Nat} (h : ScAt Z p 1 d e x) (hc : bAt Z p ≠ 34) (ho : Pl.opens (bAt Z p) = false) (hs : shuts (bAt Z p) = true) : e = p + 1 ∧ x = d := by
  have hl := h.lt
  obtain ⟨⟨m, h1, h2⟩, h3, h4, h5⟩ := h
  rw [scn_shut 1 d hl hc ho hs, if_pos rfl] at h1
  simp only [Option.some.injEq, Prod.mk.injEq] at h1
  omega
theorem ScAt.shuts {Z : List Int} {p o d e x : Nat} (h : ScAt Z p o d e x) (hc : bAt Z p ≠ 34) (ho : Pl.opens (bAt Z p) = false) (hs : shuts (bAt Z p) = true) (h2o : 2 ≤ o) : ScAt Z (p + 1) (o - 1) d e x := by
  have hl := h.lt
  obtain ⟨⟨m, h1, h2⟩, h3, h4, h5⟩ := h
  rw [scn_shut o d hl hc ho hs, if_neg (by omega)] at h1
  obtain ⟨m', h6, h7⟩ := up_some h1
  exact ⟨⟨m', h6, by omega⟩, .inl (by omega), by omega, by omega⟩
theorem ScAt.other {Z : List Int} {p o d e x : Nat} (h : ScAt Z p o d e x) (hc : bAt Z p ≠ 34) (ho : Pl.opens (bAt Z p) = false) (hs : Pl.shuts (bAt Z p) = false) : ScAt Z (p + 1) o d e x := by
  have hp := h.pos ho
  have hl := h.lt
  obtain ⟨⟨m, h1, h2⟩, h3, h4, h5⟩ := h
  rw [scn_other o d hl hc ho hs] at h1
  obtain ⟨m', h6, h7⟩ := up_some h1
  exact ⟨⟨m', h6, by omega⟩, .inl hp, by omega, by omega⟩

theorem val_max (D O : Nat) : Value.int .i64 (if (D : Int) < (O : Int) + 1 then (O : Int) + 1 else (D : Int)) = .int .i64 ((max D (O + 1) : Nat) : Int) := by
  congr 1
  split <;> omega
theorem ret_int2 {a b c d : Int} (h : a = b) (h2 : c = d) : Ending.returned (.tuple #[.int .i64 a, .int .i64 c]) = .returned (.tuple #[.int .i64 b, .int .i64 d]) := by rw [h, h2]

set_option maxRecDepth 100000 in
set_option maxHeartbeats 400000 in
theorem scanStr_any (a : Option Addr) (n c : Nat) (Z : List Int) (i e : Nat) (w : World) (hZ : Byts w a n Z) (hn : n ≤ 2000000) (hi : i < n) (h34 : bAt Z i = 34) (he : StrEnd Z i e) :
    Calls Try.prog 31 #[.slice a n c, .int .i64 i] w fun r w' => r = .returned (.tuple #[.int .i64 e, .int .i64 0]) ∧ w' = w := by
  obtain ⟨b, off, hab, _, hc⟩ := hZ.2.2 i hi
  subst hab
  go_enter Try.func31, Try.ntmps31
  go_wp2_with fail
  refine (strEnd_any _ n c Z i e w hZ hn he).mono ?_
  rintro r w' ⟨rfl, rfl⟩
  go_wp2_with fail
  go_ret2
  exact ⟨rfl, rfl⟩

set_option maxRecDepth 100000 in
set_option maxHeartbeats 1000000 in
theorem scanBox_any (a : Option Addr) (n c : Nat) (Z : List Int) (i m x : Nat) (w : World) (hZ : Byts w a n Z) (hn : n ≤ 2000000) (hi : i < n) (hop : bAt Z i = 91 ∨ bAt Z i = 123) (hs : scn 0 (Z.drop (i + 1)) 1 1 = some (m, x)) :
    Calls Try.prog 31 #[.slice a n c, .int .i64 i] w fun r w' => r = .returned (.tuple #[.int .i64 (i + 1 + m : Nat), .int .i64 x]) ∧ w' = w := by
  have HL : Hid (Z.length = n) := hZ.1
  have h34 : ¬ bAt Z i = 34 := by omega
  have S0 : ScAt Z i 0 0 (i + 1 + m) x := ScAt.start (by have := HL.out; omega) (opens_of hop) h34 hs
  clear hs
  have hZ' := hZ
  obtain ⟨b, off, hab, _, hc⟩ := hZ.2.2 i hi
  subst hab
  rcases hop with h91 | h123
  all_goals
    go_enter Try.func31, Try.ntmps31
    go_wp2_with fail
    go_loop [1, 5, 6] (fun y d o => ∃ p D O : Nat, p ≤ n ∧ y = .int .i64 p ∧ d = .int .i64 D ∧ o = .int .i64 O ∧ ScAt Z p O D (i + 1 + m) x) (fun y _ _ => n - (intOf y).toNat)
    case atStart => exact ⟨i, 0, 0, by omega, rfl, rfl, rfl, S0⟩
    case round =>
      obtain ⟨p, D, O, hp, rfl, rfl, rfl, hA⟩ := hrel
      have hlt : p < n := by have h1 := hA.lt; have := HL.out; omega
      obtain ⟨b2, off2, he2, _, hc2⟩ := hZ'.2.2 p hlt
      obtain ⟨rfl, rfl⟩ : b = b2 ∧ off = off2 := by simpa using he2
      have hO := hA.2.2.1
      have hD := hA.2.2.2
      clear he2
      by_cases p34 : bAt Z p = 34
      · obtain ⟨k, hk, hA2⟩ := hA.quote p34
        have hkb := hk.bound
        have hkn : k ≤ n := by have := HL.out; omega
        have hpk : p + 1 < k := hkb.1
        clear hkb
        go_wp2_with fail
        refine (strEnd_any _ n c Z p k w hZ hn hk).mono ?_
        rintro r w' ⟨rfl, rfl⟩
        go_wp2_with fail
        go_round
        case rel => exact ⟨k, D, O, hkn, by go_num, rfl, rfl, hA2⟩
        case measure => simp [intOf]; omega
      · by_cases pop : bAt Z p = 91 ∨ bAt Z p = 123
        · have hA2 := hA.opens p34 (opens_of pop)
          rcases pop with p91 | p123
          all_goals
            go_wp2_with fail
            go_round
            case rel => exact ⟨p + 1, max D (O + 1), O + 1, by omega, by go_num, val_max D O, by go_num, hA2⟩
            case measure => simp [intOf]; omega
        · have p91 : ¬ bAt Z p = 91 := fun h => pop (.inl h)
          have p123 : ¬ bAt Z p = 123 := fun h => pop (.inr h)
          have q91 : (bAt Z p == 91) = false := beq_eq_false_iff_ne.2 p91
          have q123 : (bAt Z p == 123) = false := beq_eq_false_iff_ne.2 p123
          have hno := opens_not p91 p123
          have hO1 := hA.pos hno
          clear pop
          by_cases psh : bAt Z p = 93 ∨ bAt Z p = 125
          · by_cases hone : O = 1
            · subst hone
              have HF : Hid (i + 1 + m = p + 1 ∧ x = D) := hA.last p34 hno (shuts_of psh)
              rcases psh with p93 | p125
              all_goals
                go_wp2_with fail
                go_ret2
                exact ⟨ret_int2 (by have := HF.out; omega) (by have := HF.out; omega), rfl⟩
            · have h2 : 2 ≤ O := by omega
              have hA2 := hA.shuts p34 hno (shuts_of psh) h2
              clear hone
              rcases psh with p93 | p125
              all_goals
                go_wp2_with fail
                go_round
                case rel => exact ⟨p + 1, D, O - 1, by omega, by go_num, rfl, by go_num, hA2⟩
                case measure => simp [intOf]; omega
          · have p93 : ¬ bAt Z p = 93 := fun h => psh (.inl h)
            have p125 : ¬ bAt Z p = 125 := fun h => psh (.inr h)
            have q93 : (bAt Z p == 93) = false := beq_eq_false_iff_ne.2 p93
            have q125 : (bAt Z p == 125) = false := beq_eq_false_iff_ne.2 p125
            have hA2 := hA.other p34 hno (shuts_not p93 p125)
            clear psh
            go_wp2_with fail
            go_round
            case rel => exact ⟨p + 1, D, O, by omega, by go_num, rfl, rfl, hA2⟩
            case measure => simp [intOf]; omega

/-- ZZScan. -/
theorem zzStr_any (a : Option Addr) (n c : Nat) (Z : List Int) (i e : Nat) (w : World) (hZ : Byts w a n Z) (hn : n ≤ 2000000) (hi : i < n) (h34 : bAt Z i = 34) (he : StrEnd Z i e) :
    Calls Try.prog 20 #[.slice a n c, .int .i64 i] w fun r w' => r = .returned (.tuple #[.int .i64 e, .int .i64 0]) ∧ w' = w := by
  go_enter Try.func20, Try.ntmps20
  go_wp2_with fail
  refine (scanStr_any a n c Z i e w hZ hn hi h34 he).mono ?_
  rintro r w' ⟨rfl, rfl⟩
  go_wp2_with fail
  go_ret2
  exact ⟨rfl, rfl⟩
theorem zzBox_any (a : Option Addr) (n c : Nat) (Z : List Int) (i m x : Nat) (w : World) (hZ : Byts w a n Z) (hn : n ≤ 2000000) (hi : i < n) (hop : bAt Z i = 91 ∨ bAt Z i = 123) (hs : scn 0 (Z.drop (i + 1)) 1 1 = some (m, x)) :
    Calls Try.prog 20 #[.slice a n c, .int .i64 i] w fun r w' => r = .returned (.tuple #[.int .i64 (i + 1 + m : Nat), .int .i64 x]) ∧ w' = w := by
  have H := scanBox_any a n c Z i m x w hZ hn hi hop hs
  clear hs
  go_enter Try.func20, Try.ntmps20
  go_wp2_with fail
  refine H.mono ?_
  rintro r w' ⟨rfl, rfl⟩
  go_wp2_with fail
  go_ret2
  exact ⟨rfl, rfl⟩
end Go.Proofs.Qxb6603378a
