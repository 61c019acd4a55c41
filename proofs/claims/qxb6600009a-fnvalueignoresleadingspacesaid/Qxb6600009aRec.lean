import Derived.Test.Qxb6600009aEsc
import Derived.Test.Qxb6600009aJson
namespace Go.Proofs.Qxb6600009a
open Go.RowKit Plain

def wsB (c : Int) : Bool := decide (c = 32 ∨ c = 9 ∨ c = 10 ∨ c = 13)
theorem wsB_iff {c : Int} : wsB c = true ↔ isWs c := decide_eq_true_iff
theorem wsB_not {c : Int} : wsB c = false ↔ ¬ isWs c := decide_eq_false_iff_not

theorem isWS_any (c : Int) (w : World) : Calls Try.prog 39 #[.int .u8 c] w fun e w' => e = .returned (.bool (wsB c)) ∧ w' = w := by
  by_cases h : c = 32 ∨ c = 9 ∨ c = 10 ∨ c = 13
  · have e : wsB c = true := decide_eq_true h
    rw [e]; clear e
    rcases h with rfl | rfl | rfl | rfl
    all_goals
      go_enter Try.func39, Try.ntmps39
      go_wp2
      go_ret
      exact ⟨rfl, rfl⟩
  · have e : wsB c = false := decide_eq_false h
    rw [e]; clear e
    have t1 : (c == 32) = false := by simp; omega
    have t2 : (c == 9) = false := by simp; omega
    have t3 : (c == 10) = false := by simp; omega
    have t4 : (c == 13) = false := by simp; omega
    clear h
    go_enter Try.func39, Try.ntmps39
    go_wp2
    go_ret
    exact ⟨rfl, rfl⟩

theorem skipWS_any (b off n cap i0 : Nat) (f : Nat → Int) (w : World) (hn : n ≤ 4194304) (hi0 : i0 ≤ n)
    (hcell : ∀ k, k < n → w.cell? ⟨b, off + k, none⟩ = some (.int .u8 (f k))) :
    Calls Try.prog 26 #[.slice (some ⟨b, off, none⟩) n cap, .int .i64 i0] w fun e w' => e = .returned (.int .i64 (ws f n i0 : Nat)) ∧ w' = w := by
  go_enter Try.func26, Try.ntmps26
  go_wp2_with fail
  go_loop [1] (fun j => ∃ i : Nat, i ≤ n ∧ j = .int .i64 i ∧ Hid (ws f n i = ws f n i0)) (fun j => n - (intOf j).toNat)
  case atStart => exact ⟨i0, by omega, rfl, rfl⟩
  case round =>
    obtain ⟨i, hi, rfl, hws⟩ := hrel
    by_cases hlt : i < n
    · have hc := hcell i hlt
      clear hcell
      go_wp2_with fail
      have Z := isWS_any (f i) w
      by_cases hw : isWs (f i)
      · rw [wsB_iff.2 hw] at Z
        refine Z.mono ?_
        rintro e w' ⟨rfl, rfl⟩
        clear Z
        go_wp2_with fail
        go_round
        case rel => exact ⟨i + 1, by omega, by go_num, (ws_in hlt hw).symm.trans hws⟩
        case measure => simp [intOf]; omega
      · rw [wsB_not.2 hw] at Z
        refine Z.mono ?_
        rintro e w' ⟨rfl, rfl⟩
        clear Z
        go_wp2_with fail
        go_ret
        have e : ws f n i = i := ws_stop hw
        exact ⟨by rw [← hws.out, e]; rfl, rfl⟩
    · clear hcell
      go_wp2_with fail
      go_ret
      have e : ws f n i = i := ws_out hlt
      exact ⟨by rw [← hws.out, e]; rfl, rfl⟩

/-- b1Digits. -/
theorem digits_any (b off n cap i0 : Nat) (f : Nat → Int) (w : World) (hn : n ≤ 4194304) (hi0 : i0 ≤ n)
    (hcell : ∀ k, k < n → w.cell? ⟨b, off + k, none⟩ = some (.int .u8 (f k))) :
    Calls Try.prog 42 #[.slice (some ⟨b, off, none⟩) n cap, .int .i64 i0] w fun e w' => ∃ j : Nat, e = .returned (.int .i64 j) ∧ w' = w ∧ i0 ≤ j ∧ j ≤ n ∧ ∀ k, i0 ≤ k → k < j → 48 ≤ f k ∧ f k ≤ 57 := by
  go_enter Try.func42, Try.ntmps42
  go_wp2_with fail
  go_loop [1] (fun j => ∃ i : Nat, i0 ≤ i ∧ i ≤ n ∧ j = .int .i64 i ∧ Hid (∀ k, i0 ≤ k → k < i → 48 ≤ f k ∧ f k ≤ 57)) (fun j => n - (intOf j).toNat)
  case atStart => exact ⟨i0, by omega, by omega, rfl, fun k _ _ => by omega⟩
  case round =>
    obtain ⟨i, hi1, hi, rfl, hd⟩ := hrel
    by_cases hlt : i < n
    · have hc := hcell i hlt
      clear hcell
      by_cases h1 : 48 ≤ f i
      · by_cases h2 : f i ≤ 57
        · go_wp2_with fail
          go_round
          case rel =>
            refine ⟨i + 1, by omega, by omega, by go_num, fun k a b => ?_⟩
            by_cases e : k = i
            · subst e; exact ⟨h1, h2⟩
            · exact hd.out k a (by omega)
          case measure => simp [intOf]; omega
        · go_wp2_with fail
          go_ret
          exact ⟨i, rfl, rfl, hi1, hi, hd⟩
      · go_wp2_with fail
        go_ret
        exact ⟨i, rfl, rfl, hi1, hi, hd⟩
    · clear hcell
      go_wp2_with fail
      go_ret
      exact ⟨i, rfl, rfl, hi1, hi, hd⟩

/-- What the recognisers answer: (0, false), or where what they recognised ends. -/
def Got (w : World) (P : Nat → Prop) (e : Ending) (w' : World) : Prop :=
  ∃ q, w' = w.drewN q ∧ (e = .returned (.tuple #[.int .i64 0, .bool false]) ∨ ∃ en : Nat, e = .returned (.tuple #[.int .i64 en, .bool true]) ∧ P en)
theorem Got.no {w : World} {P : Nat → Prop} : Got w P (.returned (.tuple #[.int .i64 0, .bool false])) w := ⟨0, rfl, .inl rfl⟩
theorem Got.yes {w : World} {P : Nat → Prop} {en : Nat} (h : P en) : Got w P (.returned (.tuple #[.int .i64 en, .bool true])) w := ⟨0, rfl, .inr ⟨en, rfl, h⟩⟩
theorem Got.yes' {w : World} {P : Nat → Prop} {x : Int} {en : Nat} (e : x = en) (h : P en) : Got w P (.returned (.tuple #[.int .i64 x, .bool true])) w := ⟨0, rfl, .inr ⟨en, by rw [e], h⟩⟩

/-- A run of hexadecimal digits is passed over by skipString. -/
theorem sk_hex (f : Nat → Int) (n : Nat) : ∀ m i, (∀ k, i ≤ k → k < i + m → isHexB (f k) = true) → i + m ≤ n → sk f n i = sk f n (i + m) := by
  intro m
  induction m with
  | zero => intro i _ _; rfl
  | succ m ih =>
    intro i h hn
    have s := of_decide_eq_true (h i (Nat.le_refl _) (by omega))
    rw [sk_other (by omega) (by omega) (by omega), ih (i + 1) (fun k h1 h2 => h k (by omega) (by omega)) (by omega)]
    rw [show i + 1 + m = i + (m + 1) by omega]
/-- A byte that may follow a backslash. -/
def escOk (e : Int) : Prop := e = 34 ∨ e = 92 ∨ e = 47 ∨ e = 98 ∨ e = 102 ∨ e = 110 ∨ e = 114 ∨ e = 116

set_option maxHeartbeats 1000000 in
set_option maxRecDepth 10000 in
theorem string_any (b off n cap i0 : Nat) (f : Nat → Int) (w : World) (hn : n ≤ 4194304) (hi0 : i0 ≤ n) (hf : ∀ k, 0 ≤ f k ∧ f k ≤ 255)
    (hcell : ∀ k, k < n → w.cell? ⟨b, off + k, none⟩ = some (.int .u8 (f k))) :
    Calls Try.prog 33 #[.slice (some ⟨b, off, none⟩) n cap, .int .i64 i0] w (Got w fun en => i0 < en ∧ en ≤ n ∧ f i0 = 34 ∧ sk f n (i0 + 1) = en) := by
  by_cases hlt0 : i0 < n
  · by_cases hq : f i0 = 34
    · have hc0 := hcell i0 hlt0
      have t0 : (f i0 == 34) = true := by simpa using hq
      have t0' : (f i0 != 34) = false := by simpa using hq
      have HQ : Hid (f i0 = 34) := hq
      have g1 : decide ((i0 : Int) < 0) = false := by simp
      have g2 : decide (n ≤ i0) = false := by simp; omega
      clear hq
      go_enter Try.func33, Try.ntmps33
      go_wp2_with fail
      clear hc0 t0 t0' g1 g2
      go_loop [1] (fun j => ∃ i : Nat, i0 < i ∧ i ≤ n ∧ j = .int .i64 i ∧ Hid (sk f n (i0 + 1) = sk f n i)) (fun j => n - (intOf j).toNat)
      case atStart => exact ⟨i0 + 1, by omega, by omega, by go_num, rfl⟩
      case round =>
        obtain ⟨i, hi1, hi, rfl, hsk⟩ := hrel
        by_cases hlt : i < n
        · have hc := hcell i hlt
          by_cases c1 : f i = 34
          · have t1 : (f i == 34) = true := by simpa using c1
            have e : sk f n i = i + 1 := sk_quote hlt c1
            have E : Hid (sk f n (i0 + 1) = i + 1) := hsk.out.trans e
            clear c1 e hcell hf
            go_wp2_with fail
            go_ret2
            exact Got.yes' (en := i + 1) (by omega) ⟨by omega, by omega, HQ, E⟩
          · have t1 : (f i == 34) = false := by simpa using c1
            by_cases c2 : f i < 32
            · clear hcell hf c1
              go_wp2_with fail
              go_ret2
              exact Got.no
            · by_cases c3 : f i = 92
              · have t3 : (f i != 92) = false := by simpa using c3
                have t3' : (f i == 92) = true := by simpa using c3
                have E2 : Hid (sk f n (i0 + 1) = sk f n (i + 2)) := hsk.out.trans (sk_back hlt c3)
                clear c1 c3
                by_cases h1 : i + 1 < n
                · have hc1 := hcell (i + 1) h1
                  obtain ⟨e, he⟩ : ∃ e, e = f (i + 1) := ⟨_, rfl⟩
                  rw [← he] at hc1
                  clear he
                  by_cases hk : escOk e
                  · clear hcell hf
                    rcases hk with rfl | rfl | rfl | rfl | rfl | rfl | rfl | rfl
                    all_goals
                      go_wp2_with fail
                      go_round
                      case rel => exact ⟨i + 2, by omega, by omega, by go_num, E2⟩
                      case measure => simp [intOf]; omega
                  · have k1 : (e == 34) = false := by simp; intro h; exact hk (by simp [escOk, h])
                    have k2 : (e == 92) = false := by simp; intro h; exact hk (by simp [escOk, h])
                    have k3 : (e == 47) = false := by simp; intro h; exact hk (by simp [escOk, h])
                    have k4 : (e == 98) = false := by simp; intro h; exact hk (by simp [escOk, h])
                    have k5 : (e == 102) = false := by simp; intro h; exact hk (by simp [escOk, h])
                    have k6 : (e == 110) = false := by simp; intro h; exact hk (by simp [escOk, h])
                    have k7 : (e == 114) = false := by simp; intro h; exact hk (by simp [escOk, h])
                    have k8 : (e == 116) = false := by simp; intro h; exact hk (by simp [escOk, h])
                    clear hk
                    by_cases hu : e = 117
                    · subst hu
                      clear k1 k2 k3 k4 k5 k6 k7 k8
                      by_cases h5 : i + 5 < n
                      · have HC : Hid (∀ k, k < n → w.cell? ⟨b, off + k, none⟩ = some (.int .u8 (f k))) := hcell
                        have HF : Hid (∀ k, 0 ≤ f k ∧ f k ≤ 255) := hf
                        clear hcell hf
                        go_wp2_with fail
                        clear hc hc1
                        go_loop [8] (fun p => ∃ d pn : Nat, d ≤ 4 ∧ Hid (pn = i + 2 + d) ∧ p = .int .i64 pn ∧ Hid (∀ k, i + 2 ≤ k → k < i + 2 + d → isHexB (f k) = true)) (fun p => i + 6 - (intOf p).toNat)
                        case atStart => exact ⟨0, i + 2, by omega, rfl, by go_num, fun k _ _ => by omega⟩
                        case round =>
                          obtain ⟨d, pn, hd, HP, rfl, hx⟩ := hrel
                          have hp := HP.out
                          by_cases hd4 : d < 4
                          · have p1 : pn < i + 6 := by omega
                            have p2 : pn < n := by omega
                            have hcd := HC.out pn p2
                            have hb := HF.out pn
                            clear HC hp
                            go_wp2_with fail
                            have Z := isHex_any (f pn) w hb.1 hb.2
                            by_cases hh : isHexB (f pn) = true
                            · rw [hh] at Z
                              have HH : Hid (isHexB (f pn) = true) := hh
                              clear hh
                              refine Z.mono ?_
                              rintro e w' ⟨rfl, rfl⟩
                              clear Z
                              go_wp2_with fail
                              go_round
                              case rel =>
                                refine ⟨d + 1, pn + 1, by omega, by show _ = _; have := HP.out; omega, by go_num, fun k a b => ?_⟩
                                by_cases ek : k = pn
                                · subst ek; exact HH
                                · exact hx.out k a (by have := HP.out; omega)
                              case measure => simp [intOf]; omega
                            · rw [Bool.eq_false_iff.2 hh] at Z
                              refine Z.mono ?_
                              rintro e w' ⟨rfl, rfl⟩
                              clear Z hh
                              go_wp2_with fail
                              go_ret2
                              exact Got.no
                          · obtain rfl : d = 4 := by omega
                            have p1 : i + 6 ≤ pn := by omega
                            have E6 : Hid (sk f n (i0 + 1) = sk f n (i + 6)) := E2.out.trans ((sk_hex f n 4 (i + 2) hx.out (by omega)).trans (by rw [show i + 2 + 4 = i + 6 by omega]))
                            clear HC HF hp
                            go_wp2_with fail
                            go_round
                            case rel => exact ⟨i + 6, by omega, by omega, by go_num, E6⟩
                            case measure => simp [intOf]; omega
                      · clear hcell hf
                        go_wp2_with fail
                        go_ret2
                        exact Got.no
                    · have k9 : (e != 117) = true := by simpa using hu
                      clear hcell hf hu
                      go_wp2_with fail
                      go_ret2
                      exact Got.no
                · clear hcell hf
                  go_wp2_with fail
                  go_ret2
                  exact Got.no
              · have t3 : (f i != 92) = true := by simpa using c3
                have E : Hid (sk f n (i0 + 1) = sk f n (i + 1)) := hsk.out.trans (sk_other hlt c3 c1)
                clear hcell hf c1 c3
                go_wp2_with fail
                go_round
                case rel => exact ⟨i + 1, by omega, by omega, by go_num, E⟩
                case measure => simp [intOf]; omega
        · clear hcell hf
          go_wp2_with fail
          go_ret2
          exact Got.no
    · have hc0 := hcell i0 hlt0
      have t0 : (f i0 == 34) = false := by simpa using hq
      have t0' : (f i0 != 34) = true := by simpa using hq
      clear hcell hq
      go_enter Try.func33, Try.ntmps33
      go_wp2_with fail
      go_ret2
      exact Got.no
  · clear hcell
    go_enter Try.func33, Try.ntmps33
    go_wp2_with fail
    go_ret2
    exact Got.no
end Go.Proofs.Qxb6600009a
