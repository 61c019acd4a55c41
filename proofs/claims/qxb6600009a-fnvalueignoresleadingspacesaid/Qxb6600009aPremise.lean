import Derived.Test.Qxb6600009aValue
namespace Go.Proofs.Qxb6600009a
open Go.RowKit Plain

def delim (c : Int) : Prop := c = 44 ∨ c = 93 ∨ c = 125 ∨ isWs c
def delimB (c : Int) : Bool := decide (c = 44 ∨ c = 93 ∨ c = 125 ∨ c = 32 ∨ c = 9 ∨ c = 10 ∨ c = 13)
theorem delimB_iff {c : Int} : delimB c = true ↔ delim c := decide_eq_true_iff
theorem delimB_not {c : Int} : delimB c = false ↔ ¬ delim c := decide_eq_false_iff_not
theorem plainC.not_delim {c : Int} (h : plainC c) : ¬ delim c := by unfold plainC at h; unfold delim isWs; omega

theorem isDelim_any (c : Int) (w : World) : Calls Try.prog 27 #[.int .u8 c] w fun e w' => e = .returned (.bool (delimB c)) ∧ w' = w := by
  by_cases h : c = 44 ∨ c = 93 ∨ c = 125
  · have e : delimB c = true := delimB_iff.2 (by unfold delim; omega)
    rw [e]; clear e
    rcases h with rfl | rfl | rfl
    all_goals
      go_enter Try.func27, Try.ntmps27
      go_wp2_with fail
      go_ret
      exact ⟨rfl, rfl⟩
  · have e : delimB c = wsB c := by
      by_cases hw : isWs c
      · rw [wsB_iff.2 hw]; exact delimB_iff.2 (.inr (.inr (.inr hw)))
      · rw [wsB_not.2 hw]; exact delimB_not.2 (by unfold delim; intro x; rcases x with x | x | x | x <;> first | exact hw x | omega)
    rw [e]; clear e
    have t1 : (c == 44) = false := by simp; omega
    have t2 : (c == 93) = false := by simp; omega
    have t3 : (c == 125) = false := by simp; omega
    clear h
    go_enter Try.func27, Try.ntmps27
    go_wp2_with fail
    refine (isWS_any c w).mono ?_
    rintro e w' ⟨rfl, rfl⟩
    go_wp2_with fail
    go_ret
    exact ⟨rfl, rfl⟩

/-- What follows a number or a literal. -/
def Stops (f : Nat → Int) (n i e : Nat) : Prop := f i = 34 ∨ f i = 91 ∨ f i = 123 ∨ e = n ∨ delim (f e)

set_option maxHeartbeats 1000000 in
set_option maxRecDepth 10000 in
theorem premise_any (b off n cap at0 j : Nat) (f : Nat → Int) (w : World) (hn : n ≤ 4194304) (ha : at0 ≤ n) (HJ : Hid (ws f n at0 = j)) (hf : ∀ k, 0 ≤ f k ∧ f k ≤ 255)
    (hcell : ∀ k, k < n → w.cell? ⟨b, off + k, none⟩ = some (.int .u8 (f k))) :
    Calls Try.prog 10 #[.slice (some ⟨b, off, none⟩) n cap, .int .i64 at0] w fun e w' => ∃ q, w' = w.drewN q ∧
      (e = .returned (.tuple #[.int .i64 0, .int .i64 0, .bool false]) ∨ ∃ en : Nat, e = .returned (.tuple #[.int .i64 j, .int .i64 en, .bool true]) ∧ VOK f n j en ∧ Stops f n j en) := by
  have HC : Hid (∀ k, k < n → w.cell? ⟨b, off + k, none⟩ = some (.int .u8 (f k))) := hcell
  have HF : Hid (∀ k, 0 ≤ f k ∧ f k ≤ 255) := hf
  clear hcell hf
  go_enter Try.func10, Try.ntmps10
  go_wp2_with fail
  refine (skipWS_any b off n cap at0 f w hn ha HC.out).mono ?_
  rintro e w' ⟨rfl, hw⟩
  obtain rfl : w = w' := hw.symm
  have hge := ws_ge f ha
  rw [HJ.out] at hge ⊢
  clear hw
  obtain ⟨hj1, hj2⟩ := hge
  go_wp2_with fail
  refine (value_any b off n cap f hn HF.out (n - j) j w (Nat.le_refl _) hj2 HC.out).mono ?_
  rintro e w' ⟨q2, rfl, rfl | ⟨en, rfl, hV⟩⟩
  · go_wp2_with fail
    go_ret3
    exact ⟨_, rfl, .inl rfl⟩
  · have HV : Hid (VOK f n j en) := hV
    have hv1 := hV.1
    have hv2 := hV.2.1
    clear hV
    have hjn : j < n := by omega
    have c1 := HC.out j hjn
    by_cases hs : f j = 34 ∨ f j = 91 ∨ f j = 123
    · have HS : Hid (Stops f n j en) := by show Stops _ _ _ _; unfold Stops; omega
      rcases (show ((f j != 34) = false) ∨ ((f j != 34) = true ∧ (f j != 91) = false) ∨ ((f j != 34) = true ∧ (f j != 91) = true ∧ (f j != 123) = false) by simp; omega) with t1 | ⟨t1, t2⟩ | ⟨t1, t2, t3⟩
      all_goals
        clear hs
        go_wp2_with fail
        go_ret3
        exact ⟨_, rfl, .inr ⟨en, rfl, HV, HS⟩⟩
    · have t1 : (f j != 34) = true := by simp; omega
      have t2 : (f j != 91) = true := by simp; omega
      have t3 : (f j != 123) = true := by simp; omega
      clear hs
      by_cases hen : en < n
      · have c2 := HC.out en hen
        go_wp2_with fail
        have Z := fun W => isDelim_any (f en) W
        by_cases hd : delim (f en)
        · simp only [delimB_iff.2 hd] at Z
          have HS : Hid (Stops f n j en) := .inr (.inr (.inr (.inr hd)))
          clear hd
          refine (Z _).mono ?_
          rintro e w' ⟨rfl, rfl⟩
          clear Z
          go_wp2_with fail
          go_ret3
          exact ⟨_, rfl, .inr ⟨en, rfl, HV, HS⟩⟩
        · simp only [delimB_not.2 hd] at Z
          clear hd
          refine (Z _).mono ?_
          rintro e w' ⟨rfl, rfl⟩
          clear Z
          go_wp2_with fail
          go_ret3
          exact ⟨_, rfl, .inl rfl⟩
      · have HS : Hid (Stops f n j en) := .inr (.inr (.inr (.inl (by omega))))
        go_wp2_with fail
        go_ret3
        exact ⟨_, rfl, .inr ⟨en, rfl, HV, HS⟩⟩

theorem skipWS_empty (a : Option Addr) (cap : Nat) (w : World) : Calls Try.prog 26 #[.slice a 0 cap, .int .i64 0] w fun e w' => e = .returned (.int .i64 0) ∧ w' = w := by
  go_enter Try.func26, Try.ntmps26
  go_wp2_with fail
  refine wp_loop_rounds 1 ?_
  rw [rounds_succ]
  go_wp2_with fail
  go_ret
  exact ⟨rfl, rfl⟩
theorem value_empty (a : Option Addr) (cap : Nat) (w : World) : Calls Try.prog 23 #[.slice a 0 cap, .int .i64 0] w fun e w' => e = .returned (.tuple #[.int .i64 0, .bool false]) ∧ w' = w := by
  go_enter Try.func23, Try.ntmps23
  go_wp2_with fail
  go_ret2
  exact ⟨rfl, rfl⟩
theorem premise_empty (a : Option Addr) (cap : Nat) (w : World) : Calls Try.prog 10 #[.slice a 0 cap, .int .i64 0] w fun e w' => e = .returned (.tuple #[.int .i64 0, .int .i64 0, .bool false]) ∧ w' = w := by
  go_enter Try.func10, Try.ntmps10
  go_wp2_with fail
  refine (skipWS_empty a cap w).mono ?_
  rintro e w' ⟨rfl, rfl⟩
  go_wp2_with fail
  refine (value_empty a cap w').mono ?_
  rintro e w' ⟨rfl, rfl⟩
  go_wp2_with fail
  go_ret3
  exact ⟨rfl, rfl⟩
end Go.Proofs.Qxb6600009a
