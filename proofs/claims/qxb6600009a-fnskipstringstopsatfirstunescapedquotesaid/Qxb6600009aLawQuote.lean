import Derived.Test.Qxb6600009aQuote
namespace Go.Proofs.Qxb6600009a
open Go.RowKit Plain

theorem lawQuote_walk (a0 : Option Addr) (len0 cap0 : Nat) (z0 : List Int) (a1 : Int) (w : World) (w0 : Rowed w a0 len0 cap0 z0) :
    Calls Try.prog 6 #[.slice a0 len0 cap0, .int .i64 a1] w fun e w' => e = .returned (.bool true) ∧ Below w.heap.size w w' := by
  have hle := w0.le
  by_cases hbig : 1048576 < len0
  · go_enter Try.func6, Try.ntmps6
    go_wp2_with fail
    refine (zzBytes20_no a0 len0 cap0 a1 w hbig hle).mono ?_
    rintro e w' ⟨rfl, rfl⟩
    go_wp2
    go_ret
    exact ⟨rfl, Below.refl _ _⟩
  · by_cases hin : 0 ≤ a1 ∧ a1 < len0
    · obtain ⟨h1, h2⟩ := hin
      obtain ⟨b, off, f, rfl, hb, hcell, hf⟩ := w0.pos (by omega)
      obtain ⟨i, rfl⟩ : ∃ i : Nat, a1 = i := ⟨a1.toNat, by omega⟩
      clear w0
      go_enter Try.func6, Try.ntmps6
      go_wp2_with fail
      refine (zzBytes20 (some ⟨b, off, none⟩) len0 cap0 i w (by omega)).mono ?_
      rintro e w' ⟨rfl, rfl⟩
      go_wp2_with fail
      refine (clone_some b off len0 cap0 f w' (by omega) hb hcell).mono ?_
      rintro e w1 ⟨rfl, hbel, hsz, hc1⟩
      clear hcell
      go_wp2_with fail
      refine (zzSkipString_any w'.heap.size 0 len0 len0 i f w1 (by omega) (by omega) hsz (by simpa using hc1)).mono ?_
      rintro e w2 ⟨rfl, hbel2⟩
      have hc2 : ∀ k, k < len0 → w2.cell? ⟨w'.heap.size, 0 + k, none⟩ = some (.int .u8 (f k)) := by
        intro k hk
        rw [hbel2.cell hsz, Nat.zero_add]; exact hc1 k hk
      have E : Hid (sk f len0 (i + 1) = qe f len0 i (i + 1)) := skip_is_quoteEnd f len0 i (by omega)
      clear hc1
      go_wp2_with fail
      refine (quoteEnd_any w'.heap.size 0 len0 len0 i f w2 (by omega) (by omega) hc2).mono ?_
      rintro e w3 ⟨rfl, rfl⟩
      clear hc2
      go_wp2
      go_ret
      exact ⟨by rw [E.out]; simp, hbel.trans (hbel2.mono (by omega))⟩
    · go_enter Try.func6, Try.ntmps6
      go_wp2_with fail
      refine (zzBytes20 a0 len0 cap0 a1 w (by omega)).mono ?_
      rintro e w' ⟨rfl, rfl⟩
      by_cases h1 : a1 < 0
      · go_wp2
        go_ret
        exact ⟨rfl, Below.refl _ _⟩
      · go_wp2
        go_ret
        exact ⟨rfl, Below.refl _ _⟩
end Go.Proofs.Qxb6600009a
