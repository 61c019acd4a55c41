import Derived.Test.Qxb6600009aPremise
import Derived.Test.Qxb6600009aNested
namespace Go.Proofs.Qxb6600009a
open Go.RowKit Plain

theorem isSpace_any (c : Int) (w : World) : Calls Try.prog 43 #[.int .u8 c] w fun e w' => e = .returned (.bool (wsB c)) ∧ w' = w := by
  by_cases h : c = 32 ∨ c = 9 ∨ c = 10 ∨ c = 13
  · have e : wsB c = true := decide_eq_true h
    rw [e]; clear e
    rcases h with rfl | rfl | rfl | rfl
    all_goals
      go_enter Try.func43, Try.ntmps43
      go_wp2
      go_ret
      exact ⟨rfl, rfl⟩
  · have e : wsB c = false := decide_eq_false h
    rw [e]; clear e
    have t1 : (c == 32) = false := by simp; omega
    have t2 : (c == 9) = false := by simp; omega
    have t3 : (c == 10) = false := by simp; omega
    have t4 : (c == 13) = false := by simp; omega
    clear h
    go_enter Try.func43, Try.ntmps43
    go_wp2
    go_ret
    exact ⟨rfl, rfl⟩

theorem isDelimiter_any (c : Int) (w : World) : Calls Try.prog 41 #[.int .u8 c] w fun e w' => e = .returned (.bool (delimB c)) ∧ w' = w := by
  by_cases h : c = 44 ∨ c = 93 ∨ c = 125
  · have e : delimB c = true := delimB_iff.2 (by unfold delim; omega)
    rw [e]; clear e
    rcases h with rfl | rfl | rfl
    all_goals
      go_enter Try.func41, Try.ntmps41
      go_wp2_with fail
      go_ret
      exact ⟨rfl, rfl⟩
  · have e : delimB c = wsB c := by
      by_cases hw : isWs c
      · rw [wsB_iff.2 hw]; exact delimB_iff.2 (.inr (.inr (.inr hw)))
      · rw [wsB_not.2 hw]; exact delimB_not.2 (by unfold delim; intro x; rcases x with x | x | x | x <;> first | exact hw x | omega)
    rw [e]; clear e
    have t1 : (c == 44) = false := by simp; omega
    have t2 : (c == 93) = false := by simp; omega
    have t3 : (c == 125) = false := by simp; omega
    clear h
    go_enter Try.func41, Try.ntmps41
    go_wp2_with fail
    refine (isSpace_any c w).mono ?_
    rintro e w' ⟨rfl, rfl⟩
    go_wp2_with fail
    go_ret
    exact ⟨rfl, rfl⟩

theorem skipSpace_any (s b off n cap i0 : Nat) (f : Nat → Int) (w : World) (hn : n ≤ 4194304) (hi0 : i0 ≤ n) (hne : b ≠ s)
    (hs : w.heap[s]? = some (.cells #[.slice (some ⟨b, off, none⟩) n cap, .int .i64 i0] 41 (0, 0)))
    (hcell : ∀ k, k < n → w.cell? ⟨b, off + k, none⟩ = some (.int .u8 (f k))) :
    Calls Try.prog 40 #[.pointer (some ⟨s, 0, none⟩)] w fun e w' => e = .returned (.tuple #[]) ∧ Scan s (.slice (some ⟨b, off, none⟩) n cap) (ws f n i0 : Nat) w w' := by
  have hS0 := Scan.start hs
  have HC : Hid (∀ k, k < n → w.cell? ⟨b, off + k, none⟩ = some (.int .u8 (f k))) := hcell
  clear hs hcell
  go_enter Try.func40, Try.ntmps40
  go_wp2_with fail
  go_loopw [] (fun wr => ∃ i : Nat, i ≤ n ∧ Scan s (.slice (some ⟨b, off, none⟩) n cap) (i : Nat) w wr ∧ Hid (ws f n i = ws f n i0))
     (fun wr => n + 1 - scanAt s wr)
  case atStart => exact ⟨i0, by omega, hS0, rfl⟩
  case round =>
    obtain ⟨i, hi, hS, hws⟩ := hrel
    have c0 := hS.cell0
    have c1 := hS.cell1
    have z1 := hS.free1
    by_cases hlt : i < n
    · have hc : wr.cell? ⟨b, off + i, none⟩ = some (.int .u8 (f i)) := (hS.other hne).trans (HC.out i hlt)
      have hI : (0 : Int) ≤ (i : Int) := by omega
      have hI2 : (i : Int) < (n : Int) := by omega
      clear HC hS0
      by_cases hw : isWs (f i)
      · have t : wsB (f i) = true := wsB_iff.2 hw
        go_wp2_with fail; go_quiet ((go_at_call 43; exact Calls.quiet_of_same (isSpace_any _ _)))
        go_wp2_with fail
        go_roundw
        case rel => exact ⟨i + 1, by omega, ((hS.drewN _).move _).to (by omega), (ws_in hlt hw).symm.trans hws⟩
        case measure => exact hS.less ((hS.drewN _).move _) (by omega) (by omega)
      · have t : wsB (f i) = false := wsB_not.2 hw
        go_wp2_with fail; go_quiet ((go_at_call 43; exact Calls.quiet_of_same (isSpace_any _ _)))
        go_wp2_with fail
        go_end0
        refine ⟨rfl, (hS.drewN _).to ?_⟩
        have e : ws f n i = i := ws_stop hw
        have e2 : ws f n i = ws f n i0 := hws
        omega
    · have hd : decide ((i : Int) < (n : Int)) = false := by simp; omega
      have hd2 : decide (i < n) = false := by simp; omega
      clear HC hS0
      go_wp2_with fail; go_quiet (fail)
      go_wp2_with fail
      go_end0
      refine ⟨rfl, (hS.drewN _).to ?_⟩
      have e : ws f n i = i := ws_out hlt
      have e2 : ws f n i = ws f n i0 := hws
      omega

set_option maxHeartbeats 1000000 in
set_option maxRecDepth 10000 in
theorem scanValue_any (s b off n cap at0 j en : Nat) (f : Nat → Int) (w : World) (hn : n ≤ 4194304) (hcap : n ≤ cap) (hcap2 : cap ≤ 9223372036854775807) (ha : at0 ≤ n) (hne : b ≠ s) (HJ : Hid (ws f n at0 = j)) (hV : VOK f n j en) (hSt : Stops f n j en)
    (hs : w.heap[s]? = some (.cells #[.slice (some ⟨b, off, none⟩) n cap, .int .i64 at0] 41 (0, 0)))
    (hcell : ∀ k, k < n → w.cell? ⟨b, off + k, none⟩ = some (.int .u8 (f k))) :
    Calls Try.prog 28 #[.pointer (some ⟨s, 0, none⟩)] w fun e w' => e = .returned (.slice (some ⟨b, off + j, none⟩) (en - j) (cap - j)) ∧ Scan s (.slice (some ⟨b, off, none⟩) n cap) (en : Nat) w w' := by
  have HC : Hid (∀ k, k < n → w.cell? ⟨b, off + k, none⟩ = some (.int .u8 (f k))) := hcell
  have HV : Hid (VOK f n j en) := hV
  have HS : Hid (Stops f n j en) := hSt
  have hv1 := hV.1
  have hv2 := hV.2.1
  have hje := ws_ge f ha
  rw [HJ.out] at hje
  obtain ⟨hj1, hj2⟩ := hje
  go_enter Try.func28, Try.ntmps28
  go_wp2_with fail
  refine (skipSpace_any s b off n cap at0 f w hn ha hne hs hcell).mono ?_
  rintro e w1 ⟨rfl, hS⟩
  rw [HJ.out] at hS
  clear hs hcell hV hSt HJ
  have c0 := hS.cell0
  have c1 := hS.cell1
  have z1 := hS.free1
  have hc : w1.cell? ⟨b, off + j, none⟩ = some (.int .u8 (f j)) := (hS.other hne).trans (HC.out j (by omega))
  have hI : (0 : Int) ≤ (j : Int) := by omega
  have hI2 : (j : Int) < (n : Int) := by omega
  have HC1 : Hid (∀ k, k < n → w1.cell? ⟨b, off + k, none⟩ = some (.int .u8 (f k))) := fun k hk => (hS.other hne).trans (HC.out k hk)
  clear HC
  go_wp2_with fail; go_quiet (fail)
  by_cases h34 : f j = 34
  · have t : (f j == 34) = true := by simpa using h34
    have hend := HV.out.string h34
    clear h34
    go_wp2_with fail
    refine (skipString_any s b off n cap j f _ hn hj2 hne (hS.drewN _).here HC1).mono ?_
    rintro e w2 ⟨rfl, hS1⟩
    rw [hend] at hS1
    have hS2 := (hS.drewN _).trans hS1
    clear hS1 HC1 hc c0 c1 z1 hend
    have c0 := hS2.cell0
    have c1 := hS2.cell1
    have b1 : (j : Int) ≤ (en : Int) := by omega
    have b2 : (en : Int) ≤ (cap : Int) := by omega
    have b3 : ¬ cap = j := by omega
    go_wp2_with fail; go_quiet (fail)
    go_wp2_with fail
    go_ret
    exact ⟨rfl, hS2.drewN _⟩
  · have t : (f j == 34) = false := by simpa using h34
    by_cases hnst : f j = 91 ∨ f j = 123
    · have hend := HV.out.nested hnst
      have sp : (f j == 91) = true ∨ ((f j == 91) = false ∧ (f j == 123) = true) := by simp; omega
      clear h34 hnst
      rcases sp with t1 | ⟨t1, t2⟩
      all_goals
        go_wp2_with fail
        refine (skipNested_any s b off n cap j f _ hn hj2 hne (hS.drewN _).here HC1).mono ?_
        rintro e w2 ⟨rfl, hS1⟩
        rw [hend] at hS1
        have hS2 := (hS.drewN _).trans hS1
        clear hS1 HC1 hc c0 c1 z1 hend
        have c0 := hS2.cell0
        have c1 := hS2.cell1
        have b1 : (j : Int) ≤ (en : Int) := by omega
        have b2 : (en : Int) ≤ (cap : Int) := by omega
        have b3 : ¬ cap = j := by omega
        go_wp2_with fail; go_quiet (fail)
        go_wp2_with fail
        go_ret
        exact ⟨rfl, hS2.drewN _⟩
    · have t1 : (f j == 91) = false := by simp; omega
      have t2 : (f j == 123) = false := by simp; omega
      have HP : Hid (∀ k, j ≤ k → k < en → ¬ delim (f k)) := fun k a b => plainC.not_delim (HV.out.scalar h34 (by omega) (by omega) k a b)
      have HQ : Hid (en < n → delim (f en)) := by
        intro h
        have x := HS.out
        rcases x with x | x | x | x | x
        · exact absurd x h34
        · omega
        · omega
        · omega
        · exact x
      clear h34 hnst HV HS
      go_wp2_with fail
      clear hc c0 c1 z1
      go_loopw [] (fun wr => ∃ i : Nat, j ≤ i ∧ i ≤ en ∧ Scan s (.slice (some ⟨b, off, none⟩) n cap) (i : Nat) w wr)
        (fun wr => n + 1 - scanAt s wr)
      case atStart => exact ⟨j, by omega, by omega, hS.drewN _⟩
      case round =>
        obtain ⟨i, hi1, hi2, hSi⟩ := hrel
        have c0 := hSi.cell0
        have c1 := hSi.cell1
        have z1 := hSi.free1
        by_cases hlt : i < n
        · have hc : wr.cell? ⟨b, off + i, none⟩ = some (.int .u8 (f i)) := (hSi.other hne).trans ((hS.other hne).symm.trans (HC1.out i hlt))
          have hI : (0 : Int) ≤ (i : Int) := by omega
          have hI3 : (i : Int) < (n : Int) := by omega
          by_cases hie : i < en
          · have td : delimB (f i) = false := delimB_not.2 (HP.out i hi1 hie)
            go_wp2_with fail; go_quiet ((go_at_call 41; exact Calls.quiet_of_same (isDelimiter_any _ _)))
            go_wp2_with fail
            go_roundw
            case rel => exact ⟨i + 1, by omega, by omega, ((hSi.drewN _).move _).to (by omega)⟩
            case measure => exact hSi.less ((hSi.drewN _).move _) (by omega) (by omega)
          · obtain rfl : i = en := by omega
            have td : delimB (f i) = true := delimB_iff.2 (HQ.out hlt)
            go_wp2_with fail; go_quiet ((go_at_call 41; exact Calls.quiet_of_same (isDelimiter_any _ _)))
            have b1 : (j : Int) ≤ (i : Int) := by omega
            have b2 : (i : Int) ≤ (cap : Int) := by omega
            have b3 : ¬ cap = j := by omega
            go_wp2_with fail; go_quiet (fail)
            go_wp2_with fail
            go_ret
            exact ⟨rfl, (hSi.drewN _).drewN _⟩
        · have hd : decide ((i : Int) < (n : Int)) = false := by simp; omega
          have hd2 : decide (i < n) = false := by simp; omega
          obtain rfl : i = en := by omega
          go_wp2_with fail; go_quiet (fail)
          have b1 : (j : Int) ≤ (i : Int) := by omega
          have b2 : (i : Int) ≤ (cap : Int) := by omega
          have b3 : ¬ cap = j := by omega
          go_wp2_with fail; go_quiet (fail)
          go_wp2_with fail
          go_ret
          exact ⟨rfl, (hSi.drewN _).drewN _⟩

theorem zzValue_any (b off n cap at0 j en : Nat) (f : Nat → Int) (w : World) (hn : n ≤ 4194304) (hcap : n ≤ cap) (hcap2 : cap ≤ 9223372036854775807) (ha : at0 ≤ n) (hb : b < w.heap.size) (HJ : Hid (ws f n at0 = j)) (hV : VOK f n j en) (hSt : Stops f n j en)
    (hcell : ∀ k, k < n → w.cell? ⟨b, off + k, none⟩ = some (.int .u8 (f k))) :
    Calls Try.prog 12 #[.slice (some ⟨b, off, none⟩) n cap, .int .i64 at0] w fun e w' => e = .returned (.tuple #[.slice (some ⟨b, off + j, none⟩) (en - j) (cap - j), .int .i64 en]) ∧ Below w.heap.size w w' := by
  have HV : Hid (VOK f n j en) := hV
  have HS : Hid (Stops f n j en) := hSt
  clear hV hSt
  go_enter Try.func12, Try.ntmps12
  go_wp2_with fail
  refine (scanValue_any w.heap.size b off n cap at0 j en f _ hn hcap hcap2 ha (by omega) HJ HV.out HS.out ?_ ?_).mono ?_
  · exact heap_alloc_new w _
  · intro k hk
    rw [World.cell?_alloc_past]
    · exact hcell k hk
    · exact hb
  · rintro e w1 ⟨rfl, hS⟩
    have c1 := hS.cell1
    clear hcell HV HS HJ
    go_wp2_with fail; go_quiet (fail)
    go_wp2_with fail
    go_ret2
    exact ⟨rfl, (((Below.refl _ _).alloc (Nat.le_refl _) _).trans (hS.below (Nat.le_refl _))).trans ⟨rfl, rfl, rfl, Nat.le_refl _, fun _ _ => rfl⟩⟩
end Go.Proofs.Qxb6600009a
