import Derived.Test.Qxb6600009aRec
import Derived.Deep.DeepCutAuto
namespace Go.Proofs.Qxb6600009a
open Go.RowKit Plain

theorem literal_any (b off n cap i0 : Nat) (s : ByteArray) (f : Nat → Int) (w : World) (hn : n ≤ 4194304) (hi0 : i0 ≤ n) (hs : s.size ≤ 16)
    (hcell : ∀ k, k < n → w.cell? ⟨b, off + k, none⟩ = some (.int .u8 (f k))) :
    Calls Try.prog 36 #[.slice (some ⟨b, off, none⟩) n cap, .int .i64 i0, .string s] w (Got w fun en => en = i0 + s.size ∧ en ≤ n ∧ ∀ k (h : k < s.size), f (i0 + k) = (s[k].toNat : Int)) := by
  by_cases hroom : n < i0 + s.size
  · clear hcell
    go_enter Try.func36, Try.ntmps36
    go_wp2
    go_ret2
    exact Got.no
  · go_enter Try.func36, Try.ntmps36
    have HC : Hid (∀ k, k < n → w.cell? ⟨b, off + k, none⟩ = some (.int .u8 (f k))) := hcell
    clear hcell
    go_wp2
    go_loopw [8] (fun j wr => ∃ k q : Nat, k ≤ s.size ∧ j = .int .i64 k ∧ wr = w.drewN q ∧ Hid (∀ m (h : m < s.size), m < k → f (i0 + m) = (s[m].toNat : Int))) (fun j _ => s.size - (intOf j).toNat)
    case atStart => exact ⟨0, 0, by omega, rfl, rfl, fun m _ h => by omega⟩
    case round =>
      obtain ⟨k, q, hk, rfl, rfl, hm⟩ := hrel
      by_cases hlt : k < s.size
      · have hc := HC.out (i0 + k) (by omega)
        have hI : (0 : Int) ≤ (k : Int) := by omega
        have hI2 : (k : Int) < (s.size : Int) := by omega
        have hI3 : (0 : Int) ≤ (i0 : Int) + (k : Int) := by omega
        have hI4 : (i0 : Int) + (k : Int) < (n : Int) := by omega
        clear HC
        go_wp2; go_quiet (fail)
        go_wp2
        · go_ret2
          exact ⟨_, World.drewN_drewN _ _ _, .inl rfl⟩
        · have t : (f (i0 + k) != ↑s[k].toNat) = false := by assumption
          go_roundw
          case rel =>
            refine ⟨k + 1, _, by omega, by go_num, rfl, fun m h hm' => ?_⟩
            by_cases e : m = k
            · subst e; simpa using t
            · exact hm.out m h (by omega)
          case measure => simp [intOf]; omega
      · go_wp2
        go_ret2
        exact ⟨q, rfl, .inr ⟨i0 + s.size, by simp, rfl, by omega, fun m h => hm.out m h (by omega)⟩⟩

/-- A byte of a number. -/
def numC (c : Int) : Prop := (48 ≤ c ∧ c ≤ 57) ∨ c = 45 ∨ c = 43 ∨ c = 46 ∨ c = 101 ∨ c = 69
/-- All bytes from i0 to j are bytes of a number. -/
def Num (f : Nat → Int) (n i0 j : Nat) : Prop := i0 ≤ j ∧ j ≤ n ∧ ∀ k, i0 ≤ k → k < j → numC (f k)
theorem Num.start {f : Nat → Int} {n i0 : Nat} (h : i0 ≤ n) : Num f n i0 i0 := ⟨Nat.le_refl _, h, fun k _ _ => by omega⟩
theorem Num.step {f : Nat → Int} {n i0 j : Nat} (h : Num f n i0 j) (hj : j < n) (c : numC (f j)) : Num f n i0 (j + 1) := by
  refine ⟨by have := h.1; omega, by omega, fun k a b => ?_⟩
  by_cases e : k = j
  · subst e; exact c
  · exact h.2.2 k a (by omega)
theorem Num.digits {f : Nat → Int} {n i0 j e : Nat} (h : Num f n i0 j) (hje : j ≤ e) (hen : e ≤ n) (c : ∀ k, j ≤ k → k < e → 48 ≤ f k ∧ f k ≤ 57) : Num f n i0 e := by
  refine ⟨by have := h.1; omega, hen, fun k a b => ?_⟩
  by_cases x : k < j
  · exact h.2.2 k a x
  · exact .inl (c k (by omega) b)

set_option maxHeartbeats 1000000 in
set_option maxRecDepth 10000 in
theorem number_any (b off n cap i0 : Nat) (f : Nat → Int) (w : World) (hn : n ≤ 4194304) (hi0 : i0 < n)
    (hcell : ∀ k, k < n → w.cell? ⟨b, off + k, none⟩ = some (.int .u8 (f k))) :
    Calls Try.prog 37 #[.slice (some ⟨b, off, none⟩) n cap, .int .i64 i0] w (Got w fun en => i0 < en ∧ Num f n i0 en) := by
  have HC : Hid (∀ k, k < n → w.cell? ⟨b, off + k, none⟩ = some (.int .u8 (f k))) := hcell
  clear hcell
  go_enter Try.func37, Try.ntmps37
  have c0 := HC.out i0 hi0
  go_upto_if 18 with fail
  go_cut [1] (fun v wx => ∃ j : Nat, v = .int .i64 j ∧ Hid (Num f n i0 j) ∧ w = wx)
  case first =>
    go_wp2_with fail
    · have t : (f i0 == 45) = true := by assumption
      go_meet
      case rel => exact ⟨i0 + 1, by go_num, (Num.start (by omega)).step hi0 (.inr (.inl (by simpa using t))), rfl⟩
    · go_meet
      case rel => exact ⟨i0, rfl, Num.start (by omega), rfl⟩
  case rest =>
    obtain ⟨j, rfl, hN, rfl⟩ := hcut
    clear c0
    have hj := hN.out.2.1
    have hj0 := hN.out.1
    by_cases hlt : j < n
    · have c1 := HC.out j hlt
      go_upto_if 29 with fail
      go_cut [1] (fun v wx => ∃ k : Nat, v = .int .i64 k ∧ i0 < k ∧ Hid (Num f n i0 k) ∧ w = wx)
      case first =>
        by_cases h48 : f j = 48
        · have t : (f j == 48) = true := by simpa using h48
          have H48 : Hid (f j = 48) := h48
          clear h48
          go_wp2_with fail
          go_meet
          case rel => exact ⟨j + 1, by go_num, by omega, hN.out.step hlt (.inl (by have := H48.out; omega)), rfl⟩
        · have t : (f j == 48) = false := by simpa using h48
          by_cases h49 : 49 ≤ f j
          · by_cases h57 : f j ≤ 57
            · clear h48
              go_wp2_with fail
              refine (digits_any b off n cap (j + 1) f w hn (by omega) HC.out).mono ?_
              rintro e w' ⟨k, rfl, rfl, hk1, hk2, hk3⟩
              have HK : Hid (∀ m, j + 1 ≤ m → m < k → 48 ≤ f m ∧ f m ≤ 57) := hk3
              clear hk3
              go_wp2_with fail
              go_meet
              case rel => exact ⟨k, rfl, by omega, (hN.out.step hlt (.inl (by omega))).digits hk1 hk2 HK.out, rfl⟩
            · clear h48
              go_wp2_with fail
              go_ret2
              exact Got.no
          · clear h48
            go_wp2_with fail
            go_ret2
            exact Got.no
      case rest =>
        obtain ⟨k, rfl, hik, hN, rfl⟩ := hcut
        clear c1 hlt hj hj0
        have hk := hN.out.2.1
        by_cases hkn : k < n
        · have c2 := HC.out k hkn
          go_upto_if 58 with fail
          go_cut [1] (fun v wx => ∃ m : Nat, v = .int .i64 m ∧ i0 < m ∧ Hid (Num f n i0 m) ∧ w = wx)
          case first =>
            by_cases h46 : f k = 46
            · have t : (f k == 46) = true := by simpa using h46
              have H46 : Hid (f k = 46) := h46
              clear h46
              go_wp2_with fail
              refine (digits_any b off n cap (k + 1) f w hn (by omega) HC.out).mono ?_
              rintro e w' ⟨m, rfl, rfl, hk1, hk2, hk3⟩
              have HK : Hid (∀ x, k + 1 ≤ x → x < m → 48 ≤ f x ∧ f x ≤ 57) := hk3
              clear hk3
              by_cases hm : m = k + 1
              · subst hm
                go_wp2_with fail
                go_ret2
                exact Got.no
              · have tm : ((m : Int) == (k : Int) + 1) = false := by simp; omega
                go_wp2_with fail
                go_meet
                case rel => exact ⟨m, rfl, by omega, (hN.out.step hkn (.inr (.inr (.inr (.inl H46.out))))).digits hk1 hk2 HK.out, rfl⟩
            · have t : (f k == 46) = false := by simpa using h46
              clear h46
              go_wp2_with fail
              go_meet
              case rel => exact ⟨k, rfl, hik, hN, rfl⟩
          case rest =>
            obtain ⟨m, rfl, him, hN, rfl⟩ := hcut
            clear c2 hkn hk hik
            have hm := hN.out.2.1
            by_cases hmn : m < n
            · have c3 := HC.out m hmn
              by_cases hE : f m = 101 ∨ f m = 69
              · have HE : Hid (numC (f m)) := by show numC _; unfold numC; omega
                have hN1 : Hid (Num f n i0 (m + 1)) := hN.out.step hmn HE
                have sp : (f m == 101) = true ∨ ((f m == 101) = false ∧ (f m == 69) = true) := by simp; omega
                clear hE HE
                rcases sp with t1 | ⟨t1, t2⟩
                all_goals
                  by_cases hp : m + 1 < n
                  · have c4 := HC.out (m + 1) hp
                    by_cases h43 : f (m + 1) = 43
                    · have s1 : (f (m + 1) == 43) = true := by simpa using h43
                      have H2 : Hid (Num f n i0 (m + 1 + 1)) := hN1.out.step hp (.inr (.inr (.inl h43)))
                      clear h43
                      go_wp2_with fail
                      refine (digits_any b off n cap (m + 2) f w hn (by omega) HC.out).mono ?_
                      rintro e w' ⟨x, rfl, rfl, hk1, hk2, hk3⟩
                      have HK : Hid (∀ y, m + 2 ≤ y → y < x → 48 ≤ f y ∧ f y ≤ 57) := hk3
                      clear hk3
                      by_cases hx : x = m + 2
                      · subst hx
                        go_wp2_with fail
                        go_ret2
                        exact Got.no
                      · have tm : ((x : Int) == (m : Int) + 1 + 1) = false := by simp; omega
                        go_wp2_with fail
                        go_ret2
                        exact Got.yes ⟨by omega, (H2.out).digits hk1 hk2 HK.out⟩
                    · have s1 : (f (m + 1) == 43) = false := by simpa using h43
                      clear h43
                      by_cases h45 : f (m + 1) = 45
                      · have s2 : (f (m + 1) == 45) = true := by simpa using h45
                        have H2 : Hid (Num f n i0 (m + 1 + 1)) := hN1.out.step hp (.inr (.inl h45))
                        clear h45
                        go_wp2_with fail
                        refine (digits_any b off n cap (m + 2) f w hn (by omega) HC.out).mono ?_
                        rintro e w' ⟨x, rfl, rfl, hk1, hk2, hk3⟩
                        have HK : Hid (∀ y, m + 2 ≤ y → y < x → 48 ≤ f y ∧ f y ≤ 57) := hk3
                        clear hk3
                        by_cases hx : x = m + 2
                        · subst hx
                          go_wp2_with fail
                          go_ret2
                          exact Got.no
                        · have tm : ((x : Int) == (m : Int) + 1 + 1) = false := by simp; omega
                          go_wp2_with fail
                          go_ret2
                          exact Got.yes ⟨by omega, (H2.out).digits hk1 hk2 HK.out⟩
                      · have s2 : (f (m + 1) == 45) = false := by simpa using h45
                        clear h45
                        go_wp2_with fail
                        refine (digits_any b off n cap (m + 1) f w hn (by omega) HC.out).mono ?_
                        rintro e w' ⟨x, rfl, rfl, hk1, hk2, hk3⟩
                        have HK : Hid (∀ y, m + 1 ≤ y → y < x → 48 ≤ f y ∧ f y ≤ 57) := hk3
                        clear hk3
                        by_cases hx : x = m + 1
                        · subst hx
                          go_wp2_with fail
                          go_ret2
                          exact Got.no
                        · have tm : ((x : Int) == (m : Int) + 1) = false := by simp; omega
                          go_wp2_with fail
                          go_ret2
                          exact Got.yes ⟨by omega, (hN1.out).digits hk1 hk2 HK.out⟩
                  · go_wp2_with fail
                    refine (digits_any b off n cap (m + 1) f w hn (by omega) HC.out).mono ?_
                    rintro e w' ⟨x, rfl, rfl, hk1, hk2, hk3⟩
                    have HK : Hid (∀ y, m + 1 ≤ y → y < x → 48 ≤ f y ∧ f y ≤ 57) := hk3
                    clear hk3
                    by_cases hx : x = m + 1
                    · subst hx
                      go_wp2_with fail
                      go_ret2
                      exact Got.no
                    · have tm : ((x : Int) == (m : Int) + 1) = false := by simp; omega
                      go_wp2_with fail
                      go_ret2
                      exact Got.yes ⟨by omega, (hN1.out).digits hk1 hk2 HK.out⟩
              · have t1 : (f m == 101) = false := by simp; omega
                have t2 : (f m == 69) = false := by simp; omega
                clear hE
                go_wp2_with fail
                go_ret2
                exact Got.yes ⟨him, hN⟩
            · go_wp2_with fail
              go_ret2
              exact Got.yes ⟨him, hN⟩
        · go_wp2_with fail
          go_ret2
          exact Got.yes ⟨hik, hN⟩
    · go_wp2_with fail
      go_ret2
      exact Got.no
end Go.Proofs.Qxb6600009a
