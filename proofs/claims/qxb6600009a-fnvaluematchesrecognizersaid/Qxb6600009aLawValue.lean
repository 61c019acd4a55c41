import Derived.Test.Qxb6600009aScanVal
namespace Go.Proofs.Qxb6600009a
open Go.RowKit Plain

theorem zzBytes9 (a : Option Addr) (n cap : Nat) (i : Int) (w : World) (hn : n ≤ 1048576) :
    Calls Try.prog 9 #[.slice a n cap, .int .i64 i] w fun e w' => e = .returned (.bool true) ∧ w' = w := by
  go_enter Try.func9, Try.ntmps9
  go_wp2
  go_ret
  exact ⟨rfl, rfl⟩
theorem zzBytes9_no (a : Option Addr) (n cap : Nat) (i : Int) (w : World) (hn : 1048576 < n) (hm : n ≤ 9223372036854775807) :
    Calls Try.prog 9 #[.slice a n cap, .int .i64 i] w fun e w' => e = .returned (.bool false) ∧ w' = w := by
  go_enter Try.func9, Try.ntmps9
  go_wp2
  go_ret
  exact ⟨rfl, rfl⟩

theorem below_draws' {B : Nat} {a w : World} (h : Below B a w) (n : Nat) : Below B a (w.drewN n) := h.trans ⟨rfl, rfl, rfl, Nat.le_refl _, fun _ _ => rfl⟩

set_option maxHeartbeats 1000000 in
set_option maxRecDepth 10000 in
theorem lawValue_main (b off n cap i : Nat) (f : Nat → Int) (w : World) (hn : n ≤ 1048576) (hi : i ≤ n) (hb : b < w.heap.size) (hf : ∀ k, 0 ≤ f k ∧ f k ≤ 255)
    (hcell : ∀ k, k < n → w.cell? ⟨b, off + k, none⟩ = some (.int .u8 (f k))) :
    Calls Try.prog 3 #[.slice (some ⟨b, off, none⟩) n cap, .int .i64 i] w fun e w' => e = .returned (.bool true) ∧ Below w.heap.size w w' := by
  have HC : Hid (∀ k, k < n → w.cell? ⟨b, off + k, none⟩ = some (.int .u8 (f k))) := hcell
  have HF : Hid (∀ k, 0 ≤ f k ∧ f k ≤ 255) := hf
  obtain ⟨j, hj⟩ : ∃ j, ws f n i = j := ⟨_, rfl⟩
  have HJ : Hid (ws f n i = j) := hj
  clear hcell hf hj
  go_enter Try.func3, Try.ntmps3
  go_wp2_with fail
  refine (zzBytes9 (some ⟨b, off, none⟩) n cap i w hn).mono ?_
  rintro e w' ⟨rfl, hw⟩
  obtain rfl : w = w' := hw.symm
  clear hw
  go_wp2_with fail
  refine (premise_any b off n cap i j f w (by omega) hi HJ HF.out HC.out).mono ?_
  rintro e w' ⟨q, rfl, rfl | ⟨en, rfl, hV, hSt⟩⟩
  · go_wp2_with fail
    go_ret
    exact ⟨rfl, below_draws' (Below.refl _ _) q⟩
  · have HV : Hid (VOK f n j en) := hV
    have HS : Hid (Stops f n j en) := hSt
    have hv1 := hV.1
    have hv2 := hV.2.1
    clear hV hSt
    go_wp2_with fail
    refine (clone_some b off n cap f _ hn (by exact hb) (by exact HC.out)).mono ?_
    rintro e w1 ⟨rfl, hbel, hsz, hc1⟩
    have hbel1 : Below w.heap.size w w1 := (below_draws' (Below.refl _ _) q).trans hbel
    have hsz1 : w.heap.size < w1.heap.size := hsz
    have HC1 : Hid (∀ k, k < n → w1.cell? ⟨w.heap.size, 0 + k, none⟩ = some (.int .u8 (f k))) := fun k hk => by rw [Nat.zero_add]; exact hc1 k hk
    clear hbel hsz hc1 HC
    go_wp2_with fail
    refine (zzValue_any w.heap.size 0 n n i j en f w1 (by omega) (Nat.le_refl _) (by omega) hi hsz1 HJ HV.out HS.out HC1.out).mono ?_
    rw [Nat.zero_add]
    rintro e w2 ⟨rfl, hbel2⟩
    have hbel3 : Below w.heap.size w w2 := hbel1.trans (hbel2.mono (by omega))
    have HC2 : Hid (∀ k, k < n → w2.cell? ⟨w.heap.size, k, none⟩ = some (.int .u8 (f k))) := fun k hk => by
      have := HC1.out k hk
      rw [Nat.zero_add] at this
      exact (hbel2.cell hsz1).trans this
    clear HC1 HV HS HF HJ hbel1 hbel2
    have g1 : ((en : Int) != (en : Int)) = false := by simp
    have g2 : (((en - j : Nat) : Int) != (en : Int) - (j : Int)) = false := by simp; omega
    go_wp2_with fail
    clear g1 g2
    go_loopw [10] (fun v wr => ∃ k q : Nat, k ≤ en - j ∧ v = .int .i64 k ∧ wr = w2.drewN q) (fun v _ => en - j - (intOf v).toNat)
    case atStart => exact ⟨0, 0, by omega, rfl, rfl⟩
    case round =>
      obtain ⟨k, q2, hk, rfl, rfl⟩ := hrel
      by_cases hlt : k < en - j
      · have hc := HC2.out (j + k) (by omega)
        have hI : (0 : Int) ≤ (k : Int) := by omega
        have hI2 : (k : Int) < ((en - j : Nat) : Int) := by omega
        have hI3 : (0 : Int) ≤ (j : Int) + (k : Int) := by omega
        have hI4 : (j : Int) + (k : Int) < (n : Int) := by omega
        clear HC2
        go_wp2_with fail; go_quiet (fail)
        go_wp2_with fail
        go_roundw
        case rel => exact ⟨k + 1, _, by omega, by go_num, rfl⟩
        case measure => simp [intOf]; omega
      · clear HC2
        go_wp2_with fail
        go_ret
        exact ⟨rfl, below_draws' hbel3 q2⟩

theorem lawValue_walk (a0 : Option Addr) (len0 cap0 : Nat) (z0 : List Int) (a1 : Int) (w : World) (w0 : Rowed w a0 len0 cap0 z0) :
    Calls Try.prog 3 #[.slice a0 len0 cap0, .int .i64 a1] w fun e w' => e = .returned (.bool true) ∧ Below w.heap.size w w' := by
  have hle := w0.le
  by_cases hbig : 1048576 < len0
  · go_enter Try.func3, Try.ntmps3
    go_wp2_with fail
    refine (zzBytes9_no a0 len0 cap0 a1 w hbig hle).mono ?_
    rintro e w' ⟨rfl, rfl⟩
    go_wp2_with fail
    go_ret
    exact ⟨rfl, Below.refl _ _⟩
  · by_cases hin : 0 ≤ a1 ∧ a1 ≤ len0
    · obtain ⟨h1, h2⟩ := hin
      by_cases hz : len0 = 0
      · subst hz
        obtain rfl : a1 = 0 := by omega
        go_enter Try.func3, Try.ntmps3
        go_wp2_with fail
        refine (zzBytes9 a0 0 cap0 0 w (by omega)).mono ?_
        rintro e w' ⟨rfl, rfl⟩
        go_wp2_with fail
        refine (premise_empty a0 cap0 w').mono ?_
        rintro e w1 ⟨rfl, rfl⟩
        go_wp2_with fail
        go_ret
        exact ⟨rfl, Below.refl _ _⟩
      · obtain ⟨b, off, f, rfl, hb, hcell, hf⟩ := w0.pos (by omega)
        obtain ⟨i, rfl⟩ : ∃ i : Nat, a1 = i := ⟨a1.toNat, by omega⟩
        exact lawValue_main b off len0 cap0 i f w (by omega) (by omega) hb hf hcell
    · go_enter Try.func3, Try.ntmps3
      go_wp2_with fail
      refine (zzBytes9 a0 len0 cap0 a1 w (by omega)).mono ?_
      rintro e w' ⟨rfl, rfl⟩
      by_cases h1 : a1 < 0
      · go_wp2_with fail
        go_ret
        exact ⟨rfl, Below.refl _ _⟩
      · go_wp2_with fail
        go_ret
        exact ⟨rfl, Below.refl _ _⟩
end Go.Proofs.Qxb6600009a
