import Derived.Test.Qxb6600009aQuote
namespace Go.Proofs.Qxb6600009a
open Go.RowKit Plain

theorem skipNested_any (s b off n cap i0 : Nat) (f : Nat → Int) (w : World) (hn : n ≤ 4194304) (hi0 : i0 ≤ n) (hne : b ≠ s)
    (hs : w.heap[s]? = some (.cells #[.slice (some ⟨b, off, none⟩) n cap, .int .i64 i0] 41 (0, 0)))
    (hcell : ∀ k, k < n → w.cell? ⟨b, off + k, none⟩ = some (.int .u8 (f k))) :
    Calls Try.prog 38 #[.pointer (some ⟨s, 0, none⟩)] w fun e w' => e = .returned (.tuple #[]) ∧ Scan s (.slice (some ⟨b, off, none⟩) n cap) (ns f n 0 i0 : Nat) w w' := by
  have hS0 := Scan.start hs
  clear hs
  go_enter Try.func38, Try.ntmps38
  go_wp2
  go_loopw [2] (fun d wr => ∃ (i : Nat) (dn : Int), i ≤ n + 1 ∧ -i ≤ dn ∧ dn ≤ i ∧ d = .int .i64 dn ∧ Scan s (.slice (some ⟨b, off, none⟩) n cap) (i : Nat) w wr ∧ Hid (ns f n dn i = ns f n 0 i0))
     (fun _ wr => n + 1 - scanAt s wr)
  case atStart => exact ⟨i0, 0, by omega, by omega, by omega, rfl, hS0, rfl⟩
  case round =>
    obtain ⟨i, dn, hi, hd1, hd2, rfl, hS, hns⟩ := hrel
    have c0 := hS.cell0
    have c1 := hS.cell1
    have z1 := hS.free1
    by_cases hlt : i < n
    · have hc : wr.cell? ⟨b, off + i, none⟩ = some (.int .u8 (f i)) := (hS.other hne).trans (hcell i hlt)
      have hI : (0 : Int) ≤ (i : Int) := by omega
      have hI2 : (i : Int) < (n : Int) := by omega
      have hrow : Hid (∀ k, k < n → wr.cell? ⟨b, off + k, none⟩ = some (.int .u8 (f k))) := fun k hk => (hS.other hne).trans (hcell k hk)
      clear hcell hS0
      go_wp2; go_quiet (fail)
      go_wp2; go_quiet (fail)
      go_wp2_with fail
      · have t : (f i == 34) = true := by assumption
        have hs2 := sk_ge f n (i + 1) (by omega)
        refine (skipString_any s b off n cap i f _ hn (by omega) hne (hS.drewN _).here hrow).mono ?_
        rintro e w1 ⟨rfl, hS1⟩
        have hS2 := (hS.drewN _).trans hS1
        clear hS1 hrow hc c0 c1 z1
        go_wp2
        go_roundw
        case rel => exact ⟨sk f n (i + 1), dn, by omega, by omega, by omega, rfl, hS2, (ns_quote hlt (by simpa using t)).symm.trans hns⟩
        case measure => exact hS.less hS2 (by omega) (by omega)
      · have t : (f i == 91) = true := by assumption
        go_roundw
        case rel => exact ⟨i + 1, dn + 1, by omega, by omega, by omega, rfl, ((hS.drewN _).move _).to (by omega), (ns_open hlt (by simp at t; omega)).symm.trans hns⟩
        case measure => exact hS.less ((hS.drewN _).move _) (by omega) (by omega)
      · have t : (f i == 123) = true := by assumption
        go_roundw
        case rel => exact ⟨i + 1, dn + 1, by omega, by omega, by omega, rfl, ((hS.drewN _).move _).to (by omega), (ns_open hlt (by simp at t; omega)).symm.trans hns⟩
        case measure => exact hS.less ((hS.drewN _).move _) (by omega) (by omega)
      · have t : (f i == 93) = true := by assumption
        have e : (dn - 1 == 0) = true := by assumption
        refine bodyPost_ret (results_none rfl _ _ _) rfl ?_
        refine ⟨rfl, ((hS.drewN _).move _).to ?_⟩
        have e1 : ns f n dn i = i + 1 := ns_last hlt (by simp at t; omega) (by simpa using e)
        have e2 : ns f n dn i = ns f n 0 i0 := hns
        omega
      · have t : (f i == 93) = true := by assumption
        have e : (dn - 1 == 0) = false := by assumption
        go_roundw
        case rel => exact ⟨i + 1, dn - 1, by omega, by omega, by omega, rfl, ((hS.drewN _).move _).to (by omega), (ns_shut hlt (by simp at t; omega) (by simpa using e)).symm.trans hns⟩
        case measure => exact hS.less ((hS.drewN _).move _) (by omega) (by omega)
      · have t : (f i == 125) = true := by assumption
        have e : (dn - 1 == 0) = true := by assumption
        refine bodyPost_ret (results_none rfl _ _ _) rfl ?_
        refine ⟨rfl, ((hS.drewN _).move _).to ?_⟩
        have e1 : ns f n dn i = i + 1 := ns_last hlt (by simp at t; omega) (by simpa using e)
        have e2 : ns f n dn i = ns f n 0 i0 := hns
        omega
      · have t : (f i == 125) = true := by assumption
        have e : (dn - 1 == 0) = false := by assumption
        go_roundw
        case rel => exact ⟨i + 1, dn - 1, by omega, by omega, by omega, rfl, ((hS.drewN _).move _).to (by omega), (ns_shut hlt (by simp at t; omega) (by simpa using e)).symm.trans hns⟩
        case measure => exact hS.less ((hS.drewN _).move _) (by omega) (by omega)
      · have t0 : (f i == 34) = false := by assumption
        have t1 : (f i == 91) = false := by assumption
        have t2 : (f i == 123) = false := by assumption
        have t3 : (f i == 93) = false := by assumption
        have t4 : (f i == 125) = false := by assumption
        simp at t0 t1 t2 t3 t4
        go_roundw
        case rel => exact ⟨i + 1, dn, by omega, by omega, by omega, rfl, ((hS.drewN _).move _).to (by omega), (ns_other hlt t0 (by omega) (by omega)).symm.trans hns⟩
        case measure => exact hS.less ((hS.drewN _).move _) (by omega) (by omega)
    · clear hcell hS0
      go_wp2; go_quiet (fail)
      go_wp2
      go_end0
      refine ⟨rfl, (hS.drewN _).to ?_⟩
      have e : ns f n dn i = i := ns_out hlt
      have e2 : ns f n dn i = ns f n 0 i0 := hns
      omega

/-- Over the nil text it stays where it is. -/
theorem skipNested_nil (s : Nat) (w : World) (hs : w.heap[s]? = some (.cells #[.slice none 0 0, .int .i64 0] 41 (0, 0))) :
    Calls Try.prog 38 #[.pointer (some ⟨s, 0, none⟩)] w fun e w' => e = .returned (.tuple #[]) ∧ Scan s (.slice none 0 0) 0 w w' := by
  have hS := Scan.start hs
  have c0 := hS.cell0
  have c1 := hS.cell1
  clear hs
  go_enter Try.func38, Try.ntmps38
  go_wp2
  refine wp_loop_rounds 1 ?_
  rw [rounds_succ]
  go_wp2; go_quiet (fail)
  go_wp2
  go_end0
  exact ⟨rfl, hS.drewN _⟩

theorem zzSkipNested_any (b off n cap i0 : Nat) (f : Nat → Int) (w : World) (hn : n ≤ 4194304) (hi0 : i0 ≤ n) (hb : b < w.heap.size)
    (hcell : ∀ k, k < n → w.cell? ⟨b, off + k, none⟩ = some (.int .u8 (f k))) :
    Calls Try.prog 24 #[.slice (some ⟨b, off, none⟩) n cap, .int .i64 i0] w fun e w' => e = .returned (.int .i64 (ns f n 0 i0 : Nat)) ∧ Below w.heap.size w w' := by
  go_enter Try.func24, Try.ntmps24
  go_wp2_with fail
  refine (skipNested_any w.heap.size b off n cap i0 f _ hn hi0 (by omega) ?_ ?_).mono ?_
  · exact heap_alloc_new w _
  · intro k hk
    rw [World.cell?_alloc_past]
    · exact hcell k hk
    · exact hb
  · rintro e w1 ⟨rfl, hS⟩
    have c1 := hS.cell1
    go_wp2
    go_ret
    exact ⟨rfl, ((Below.refl _ _).alloc (Nat.le_refl _) _).trans (hS.below (Nat.le_refl _))⟩

theorem zzSkipNested_nil (w : World) :
    Calls Try.prog 24 #[.slice none 0 0, .int .i64 0] w fun e w' => e = .returned (.int .i64 0) ∧ Below w.heap.size w w' := by
  go_enter Try.func24, Try.ntmps24
  go_wp2_with fail
  refine (skipNested_nil w.heap.size _ (heap_alloc_new w _)).mono ?_
  rintro e w1 ⟨rfl, hS⟩
  have c1 := hS.cell1
  go_wp2
  go_ret
  exact ⟨rfl, ((Below.refl _ _).alloc (Nat.le_refl _) _).trans (hS.below (Nat.le_refl _))⟩

theorem zzBytes25 (a : Option Addr) (n cap : Nat) (i : Int) (w : World) (hn : n ≤ 1048576) :
    Calls Try.prog 25 #[.slice a n cap, .int .i64 i] w fun e w' => e = .returned (.bool true) ∧ w' = w := by
  go_enter Try.func25, Try.ntmps25
  go_wp2
  go_ret
  exact ⟨rfl, rfl⟩
theorem zzBytes25_no (a : Option Addr) (n cap : Nat) (i : Int) (w : World) (hn : 1048576 < n) (hm : n ≤ 9223372036854775807) :
    Calls Try.prog 25 #[.slice a n cap, .int .i64 i] w fun e w' => e = .returned (.bool false) ∧ w' = w := by
  go_enter Try.func25, Try.ntmps25
  go_wp2
  go_ret
  exact ⟨rfl, rfl⟩

theorem lawReach_walk (a0 : Option Addr) (len0 cap0 : Nat) (z0 : List Int) (a1 : Int) (w : World) (w0 : Rowed w a0 len0 cap0 z0) :
    Calls Try.prog 8 #[.slice a0 len0 cap0, .int .i64 a1] w fun e w' => e = .returned (.bool true) ∧ Below w.heap.size w w' := by
  have hle := w0.le
  by_cases hbig : 1048576 < len0
  · go_enter Try.func8, Try.ntmps8
    go_wp2_with fail
    refine (zzBytes25_no a0 len0 cap0 a1 w hbig hle).mono ?_
    rintro e w' ⟨rfl, rfl⟩
    go_wp2
    go_ret
    exact ⟨rfl, Below.refl _ _⟩
  · by_cases hin : 0 ≤ a1 ∧ a1 ≤ len0
    · obtain ⟨h1, h2⟩ := hin
      by_cases hz : len0 = 0
      · subst hz
        obtain rfl : a1 = 0 := by omega
        cases a0 with
        | none =>
          go_enter Try.func8, Try.ntmps8
          go_wp2_with fail
          refine (zzBytes25 none 0 cap0 0 w (by omega)).mono ?_
          rintro e w' ⟨rfl, rfl⟩
          go_wp2_with fail
          refine (clone_nil 0 cap0 w').mono ?_
          rintro e w1 ⟨rfl, rfl⟩
          go_wp2_with fail
          refine (zzSkipNested_nil w1).mono ?_
          rintro e w2 ⟨rfl, hbel⟩
          go_wp2
          go_ret
          exact ⟨rfl, hbel⟩
        | some x =>
          go_enter Try.func8, Try.ntmps8
          go_wp2_with fail
          refine (zzBytes25 (some x) 0 cap0 0 w (by omega)).mono ?_
          rintro e w' ⟨rfl, rfl⟩
          go_wp2_with fail
          refine (clone_empty x cap0 w').mono ?_
          rintro e w1 ⟨rfl, hbel, hsz⟩
          go_wp2_with fail
          refine (zzSkipNested_any w'.heap.size 0 0 0 0 (fun _ => 0) w1 (by omega) (by omega) hsz (by intro k hk; omega)).mono ?_
          rintro e w2 ⟨rfl, hbel2⟩
          have e0 : ns (fun _ => 0) 0 0 0 = 0 := ns_out (by omega)
          rw [e0]
          go_wp2
          go_ret
          exact ⟨rfl, hbel.trans (hbel2.mono (by omega))⟩
      · obtain ⟨b, off, f, rfl, hb, hcell, hf⟩ := w0.pos (by omega)
        obtain ⟨i, rfl⟩ : ∃ i : Nat, a1 = i := ⟨a1.toNat, by omega⟩
        clear w0
        go_enter Try.func8, Try.ntmps8
        go_wp2_with fail
        refine (zzBytes25 (some ⟨b, off, none⟩) len0 cap0 i w (by omega)).mono ?_
        rintro e w' ⟨rfl, rfl⟩
        go_wp2_with fail
        refine (clone_some b off len0 cap0 f w' (by omega) hb hcell).mono ?_
        rintro e w1 ⟨rfl, hbel, hsz, hc1⟩
        clear hcell
        go_wp2_with fail
        refine (zzSkipNested_any w'.heap.size 0 len0 len0 i f w1 (by omega) (by omega) hsz (by simpa using hc1)).mono ?_
        rintro e w2 ⟨rfl, hbel2⟩
        have hlast : w2.cell? ⟨w'.heap.size, len0 - 1, none⟩ = some (.int .u8 (f (len0 - 1))) := (hbel2.cell hsz).trans (hc1 _ (by omega))
        have hr := ns_reach f len0 _ 0 i (Nat.le_refl _) (by omega)
        have ho : ¬ i < len0 → ns f len0 0 i = i := fun h => ns_out h
        obtain ⟨r, hr'⟩ : ∃ r, r = ns f len0 0 i := ⟨_, rfl⟩
        rw [← hr'] at hr ho ⊢
        clear hr' hc1
        obtain ⟨r1, r2, r3, r4⟩ := hr
        by_cases hi : i < len0
        · have r3' := r3 hi
          by_cases he : r = len0 + 1
          · have r4' : Hid (f (len0 - 1) = 92) := r4 (by omega) he
            clear r4 r3 ho
            subst he
            go_wp2
            go_ret
            exact ⟨by rw [r4'.out]; rfl, hbel.trans (hbel2.mono (by omega))⟩
          · clear r4 r3 ho
            go_wp2
            go_ret
            exact ⟨rfl, hbel.trans (hbel2.mono (by omega))⟩
        · have ho' := ho hi
          clear r4 r3 ho
          subst ho'
          obtain rfl : r = len0 := by omega
          go_wp2
          go_ret
          exact ⟨rfl, hbel.trans (hbel2.mono (by omega))⟩
    · go_enter Try.func8, Try.ntmps8
      go_wp2_with fail
      refine (zzBytes25 a0 len0 cap0 a1 w (by omega)).mono ?_
      rintro e w' ⟨rfl, rfl⟩
      by_cases h1 : a1 < 0
      · go_wp2
        go_ret
        exact ⟨rfl, Below.refl _ _⟩
      · go_wp2
        go_ret
        exact ⟨rfl, Below.refl _ _⟩
end Go.Proofs.Qxb6600009a
