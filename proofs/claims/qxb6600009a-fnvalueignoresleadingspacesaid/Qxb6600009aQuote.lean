import Derived.Test.Qxb6600009aScan
namespace Go.Proofs.Qxb6600009a
open Go.RowKit Plain

theorem Scan.below {s : Nat} {tv : Value} {i : Int} {w w' : World} (h : Scan s tv i w w') {B : Nat} (hB : B ≤ s) : Below B w w' :=
  ⟨h.os, h.tape, h.output, by rw [h.size]; exact Nat.le_refl _, fun k hk => h.block k (by omega)⟩

theorem zzSkipString_any (b off n cap i0 : Nat) (f : Nat → Int) (w : World) (hn : n ≤ 4194304) (hi0 : i0 ≤ n) (hb : b < w.heap.size)
    (hcell : ∀ k, k < n → w.cell? ⟨b, off + k, none⟩ = some (.int .u8 (f k))) :
    Calls Try.prog 18 #[.slice (some ⟨b, off, none⟩) n cap, .int .i64 i0] w fun e w' => e = .returned (.int .i64 (sk f n (i0 + 1) : Nat)) ∧ Below w.heap.size w w' := by
  go_enter Try.func18, Try.ntmps18
  go_wp2_with fail
  refine (skipString_any w.heap.size b off n cap i0 f _ hn hi0 (by omega) ?_ ?_).mono ?_
  · exact heap_alloc_new w _
  · intro k hk
    rw [World.cell?_alloc_past]
    · exact hcell k hk
    · exact hb
  · rintro e w1 ⟨rfl, hS⟩
    have c1 := hS.cell1
    go_wp2
    go_ret
    exact ⟨rfl, ((Below.refl _ _).alloc (Nat.le_refl _) _).trans (hS.below (Nat.le_refl _))⟩

theorem zzBytes20 (a : Option Addr) (n cap : Nat) (i : Int) (w : World) (hn : n ≤ 1048576) :
    Calls Try.prog 20 #[.slice a n cap, .int .i64 i] w fun e w' => e = .returned (.bool true) ∧ w' = w := by
  go_enter Try.func20, Try.ntmps20
  go_wp2
  go_ret
  exact ⟨rfl, rfl⟩
theorem zzBytes20_no (a : Option Addr) (n cap : Nat) (i : Int) (w : World) (hn : 1048576 < n) (hm : n ≤ 9223372036854775807) :
    Calls Try.prog 20 #[.slice a n cap, .int .i64 i] w fun e w' => e = .returned (.bool false) ∧ w' = w := by
  go_enter Try.func20, Try.ntmps20
  go_wp2
  go_ret
  exact ⟨rfl, rfl⟩

theorem bs_le (f : Nat → Int) (a : Nat) : ∀ j, bs f a j ≤ j := by
  intro j
  induction j with
  | zero => simp [bs]
  | succ j ih => rw [bs]; split <;> omega
theorem bs_hit {f : Nat → Int} {a p : Nat} (h : a < p) (c : f p = 92) : bs f a (p + 1) = bs f a p + 1 := by rw [bs, if_pos ⟨h, c⟩]
theorem bs_miss {f : Nat → Int} {a p : Nat} (h : ¬ (a < p ∧ f p = 92)) : bs f a (p + 1) = 0 := by rw [bs, if_neg h]

theorem qe_stop {f : Nat → Int} {n a j k p : Nat} (h : j < n) (t : (f j == 34) = true) (r : k + bs f a (p + 1) = bs f a j) (z : ¬ (a < p ∧ f p = 92)) (e : ((k : Int) % 2 == 0) = true) : qe f n a j = j + 1 := by
  rw [bs_miss z] at r
  rw [qe_in h, if_pos ⟨by simpa using t, by simp at e; omega⟩]
theorem qe_go {f : Nat → Int} {n a j k p : Nat} (h : j < n) (r : k + bs f a (p + 1) = bs f a j) (z : ¬ (a < p ∧ f p = 92)) (e : ((k : Int) % 2 == 0) = false) : qe f n a j = qe f n a (j + 1) := by
  rw [bs_miss z] at r
  rw [qe_in h, if_neg (by simp at e; omega)]

theorem qe_odd {f : Nat → Int} {a j k p X : Nat} (E : X = if bs f a j % 2 = 1 then j + 1 else j) (r : k + bs f a (p + 1) = bs f a j) (z : ¬ (a < p ∧ f p = 92)) (e : ((k : Int) % 2 == 1) = true) : X = j + 1 := by
  rw [bs_miss z] at r
  rw [E, if_pos (by simp at e; omega)]
theorem qe_even {f : Nat → Int} {a j k p X : Nat} (E : X = if bs f a j % 2 = 1 then j + 1 else j) (r : k + bs f a (p + 1) = bs f a j) (z : ¬ (a < p ∧ f p = 92)) (e : ((k : Int) % 2 == 1) = false) : X = j := by
  rw [bs_miss z] at r
  rw [E, if_neg (by simp at e; omega)]

theorem quoteEnd_any (b off n cap a : Nat) (f : Nat → Int) (w : World) (hn : n ≤ 4194304) (ha : a < n)
    (hcell : ∀ k, k < n → w.cell? ⟨b, off + k, none⟩ = some (.int .u8 (f k))) :
    Calls Try.prog 21 #[.slice (some ⟨b, off, none⟩) n cap, .int .i64 a] w fun e w' => e = .returned (.int .i64 (qe f n a (a + 1) : Nat)) ∧ w' = w := by
  go_enter Try.func21, Try.ntmps21
  go_wp2
  go_loop [5] (fun j => ∃ jn : Nat, a < jn ∧ jn ≤ n ∧ j = .int .i64 jn ∧ Hid (qe f n a jn = qe f n a (a + 1))) (fun j => n - (intOf j).toNat)
  case atStart => exact ⟨a + 1, by omega, by omega, by go_num, rfl⟩
  case round =>
    obtain ⟨jn, haj, hjn, rfl, hqe⟩ := hrel
    by_cases hlt : jn < n
    · have hc := hcell jn hlt
      go_wp2
      · have t1 : (f jn == 34) = true := by assumption
        have hle := bs_le f a jn
        go_loop [6, 7] (fun k p => ∃ kn pn : Nat, a ≤ pn ∧ pn < jn ∧ kn ≤ jn ∧ k = .int .i64 kn ∧ p = .int .i64 pn ∧ Hid (kn + bs f a (pn + 1) = bs f a jn)) (fun _ p => (intOf p).toNat)
        case atStart => exact ⟨0, jn - 1, by omega, by omega, by omega, rfl, by go_num, by show _ = _; rw [show jn - 1 + 1 = jn by omega]; omega⟩
        case round =>
          obtain ⟨kn, pn, hap, hpj, hkn, rfl, rfl, hrun⟩ := hrel
          have hc2 := hcell pn (by omega)
          clear hc hcell
          by_cases hgt : a < pn
          · go_wp2
            · have t2 : (f pn == 92) = true := by assumption
              go_round
              case rel =>
                have e := bs_hit hgt (by simpa using t2)
                have e2 : kn + bs f a (pn + 1) = bs f a jn := hrun
                exact ⟨kn + 1, pn - 1, by omega, by omega, by omega, by go_num, by go_num, by show _ = _; rw [show pn - 1 + 1 = pn by omega]; omega⟩
              case measure => simp [intOf]; omega
            · have t2 : (f pn == 92) = false := by assumption
              have t3 : ((kn : Int) % 2 == 0) = true := by assumption
              go_ret
              have e := qe_stop hlt t1 hrun (by simp at t2; omega) t3
              have e2 : qe f n a jn = qe f n a (a + 1) := hqe
              exact ⟨by rw [← e2, e]; go_num, rfl⟩
            · have t2 : (f pn == 92) = false := by assumption
              have t3 : ((kn : Int) % 2 == 0) = false := by assumption
              go_round
              case rel => exact ⟨jn + 1, by omega, by omega, by go_num, (qe_go hlt hrun (by simp at t2; omega) t3).symm.trans hqe⟩
              case measure => simp [intOf]; omega
          · go_wp2
            · have t3 : ((kn : Int) % 2 == 0) = true := by assumption
              go_ret
              have e := qe_stop hlt t1 hrun (by omega) t3
              have e2 : qe f n a jn = qe f n a (a + 1) := hqe
              exact ⟨by rw [← e2, e]; go_num, rfl⟩
            · have t3 : ((kn : Int) % 2 == 0) = false := by assumption
              go_round
              case rel => exact ⟨jn + 1, by omega, by omega, by go_num, (qe_go hlt hrun (by omega) t3).symm.trans hqe⟩
              case measure => simp [intOf]; omega
      · have t1 : (f jn == 34) = false := by assumption
        have e := qe_in (f := f) (a := a) hlt
        rw [if_neg (by simp at t1; omega)] at e
        go_round
        case rel => exact ⟨jn + 1, by omega, by omega, by go_num, e.symm.trans hqe⟩
        case measure => simp [intOf]; omega
    · obtain rfl : jn = n := by omega
      have e := qe_out (f := f) (a := a) hlt
      have e2 : qe f jn a jn = qe f jn a (a + 1) := hqe
      have E : Hid (qe f jn a (a + 1) = if bs f a jn % 2 = 1 then jn + 1 else jn) := e2.symm.trans e
      clear e e2 hqe
      have hle := bs_le f a jn
      go_wp2
      go_loop [8, 9] (fun k p => ∃ kn pn : Nat, a ≤ pn ∧ pn < jn ∧ kn ≤ jn ∧ k = .int .i64 kn ∧ p = .int .i64 pn ∧ Hid (kn + bs f a (pn + 1) = bs f a jn)) (fun _ p => (intOf p).toNat)
      case atStart => exact ⟨0, jn - 1, by omega, by omega, by omega, rfl, by go_num, by show _ = _; rw [show jn - 1 + 1 = jn by omega]; omega⟩
      case round =>
        obtain ⟨kn, pn, hap, hpj, hkn, rfl, rfl, hrun⟩ := hrel
        have hc2 := hcell pn (by omega)
        clear hcell
        by_cases hgt : a < pn
        · go_wp2
          · have t2 : (f pn == 92) = true := by assumption
            go_round
            case rel =>
              have e := bs_hit hgt (by simpa using t2)
              have e2 : kn + bs f a (pn + 1) = bs f a jn := hrun
              exact ⟨kn + 1, pn - 1, by omega, by omega, by omega, by go_num, by go_num, by show _ = _; rw [show pn - 1 + 1 = pn by omega]; omega⟩
            case measure => simp [intOf]; omega
          · have t2 : (f pn == 92) = false := by assumption
            have t3 : ((kn : Int) % 2 == 1) = true := by assumption
            go_ret
            exact ⟨by rw [qe_odd E hrun (by simp at t2; omega) t3]; go_num, rfl⟩
          · have t2 : (f pn == 92) = false := by assumption
            have t3 : ((kn : Int) % 2 == 1) = false := by assumption
            go_ret
            exact ⟨by rw [qe_even E hrun (by simp at t2; omega) t3]; go_num, rfl⟩
        · go_wp2
          · have t3 : ((kn : Int) % 2 == 1) = true := by assumption
            go_ret
            exact ⟨by rw [qe_odd E hrun (by omega) t3]; go_num, rfl⟩
          · have t3 : ((kn : Int) % 2 == 1) = false := by assumption
            go_ret
            exact ⟨by rw [qe_even E hrun (by omega) t3]; go_num, rfl⟩
end Go.Proofs.Qxb6600009a
