import Derived.Test.Qxb6600009aEsc
namespace Go.Proofs.Qxb6600009a
open Go.RowKit Plain

/-- The digits of a six-byte escape, and the number that they make. -/
def dg (c : Int) (d : Nat) : Int := if d = 2 then c / 16 else if d = 3 then c % 16 else 0
def acc (c : Int) : Nat → Int
  | 0 => 0
  | d + 1 => acc c d * 16 + dg c d
theorem dg_bd {c : Int} (h0 : 0 ≤ c) (h : c < 32) (d : Nat) : 0 ≤ dg c d ∧ dg c d < 16 := by
  unfold dg; split
  · omega
  · split <;> omega
theorem acc_bd {c : Int} (h0 : 0 ≤ c) (h : c < 32) {d : Nat} (hd : d ≤ 4) : 0 ≤ acc c d ∧ acc c d ≤ 31 := by
  match d, hd with
  | 0, _ => simp [acc]
  | 1, _ => simp [acc, dg]
  | 2, _ => simp [acc, dg]
  | 3, _ => simp [acc, dg]; omega
  | 4, _ => simp [acc, dg]; omega
theorem acc_four {c : Int} : acc c 4 = c := by simp [acc, dg]; omega
theorem esc1_dig {c : Int} (h0 : 0 ≤ c) (h : c < 32) {d : Nat} (hd : d < 4) : (esc1 c)[2 + d]? = some (hexd (dg c d)) := by
  rw [esc1_low h0 h]
  match d, hd with
  | 0, _ => rfl
  | 1, _ => rfl
  | 2, _ => rfl
  | 3, _ => rfl
theorem hexB_dig {v : Int} (h0 : 0 ≤ v) (h : v < 16) : isHexB (hexd v) = true := by
  have := hexd_two v h0 h
  exact decide_eq_true (by omega)

set_option maxHeartbeats 800000 in
set_option maxRecDepth 10000 in
theorem unescape_any (b off m cap : Nat) (l : List Int) (w : World) (hn : m ≤ 4194304) (hb : b < w.heap.size) (hl : Hid ((esc l).length = m)) (hr : ∀ c ∈ l, 0 ≤ c ∧ c ≤ 255)
    (hcell : ∀ j u, (esc l)[j]? = some u → w.cell? ⟨b, off + j, none⟩ = some (.int .u8 u)) :
    Calls Try.prog 19 #[.slice (some ⟨b, off, none⟩) m cap] w fun e w' => ∃ v, e = .returned (.tuple #[v, .bool true]) ∧ w'.ownsRow w.heap.size 5 1 v l.length (l.map (Value.int .u8)) ∧ Below w.heap.size w w' := by
  obtain ⟨i0, hi, hz0, hz1, hz2⟩ := info_parts Try.info5
  have hll := esc_len l
  rw [hl.out] at hll
  go_enter Try.func19, Try.ntmps19
  go_wp2_with (at_make; refine wpList_make_own _ rfl (.const (.int .i64 0)) (.tmp 11) 22 rfl w.heap.size 5 i0 (.int .u8 0) 1 Try.underlying22 hi hz0 hz1 .i64 .i64 _ m rfl rfl (by omega) (by rw [hz2]; omega) (by unfold maxLen; omega) (Nat.le_refl _) ?_; intro w1 hown0 hgrow)
  have hbel0 : Below w.heap.size w w1 := (Below.refl _ _).grown hgrow (Nat.le_refl _) (by simp)
  clear hgrow
  go_loopw [4, 5] (fun v i wr => ∃ k i' : Nat, k ≤ l.length ∧ i' ≤ m ∧ Hid ((esc (l.take k)).length = i') ∧ i = .int .i64 i' ∧ wr.ownsRow w.heap.size 5 1 v (l.take k).length ((l.take k).map (Value.int .u8)) ∧ Below w.heap.size w wr) (fun _ i _ => m - (intOf i).toNat)
  case atStart => exact ⟨0, 0, Nat.zero_le _, Nat.zero_le _, rfl, rfl, hown0, hbel0⟩
  case round =>
    obtain ⟨k, i, hk, him, HI, rfl, hown, hbel⟩ := hrel
    clear hown0 hbel0
    by_cases hkl : k < l.length
    · have hroom := esc_room hkl
      rw [HI.out, hl.out] at hroom
      have hat : Hid (∀ d u, (esc1 l[k])[d]? = some u → wr.cell? ⟨b, off + (i + d), none⟩ = some (.int .u8 u)) := by
        intro d u hd
        have := esc_at hkl hd
        rw [HI.out] at this
        exact (hbel.cell hb).trans (hcell _ _ this)
      have htl : (l.take k).length ≤ k := List.length_take_le _ _
      have hC := hr l[k] (List.getElem_mem hkl)
      have HE : Hid (l.take (k + 1) = l.take k ++ [l[k]]) := take_snoc hkl
      have HF : Hid ((esc (l.take (k + 1))).length = i + (esc1 l[k]).length) := by show _ = _; rw [esc_take hkl, List.length_append, HI.out]
      obtain ⟨c, hc⟩ : ∃ c, c = l[k] := ⟨_, rfl⟩
      rw [← hc] at hroom hat hC HE HF
      obtain ⟨xs, hxs⟩ : ∃ xs, xs = l.take k := ⟨_, rfl⟩
      rw [← hxs] at hown htl HE
      clear hc hcell hr HI hxs
      obtain ⟨hC0, hC1⟩ := hC
      have hsz := hbel.size
      by_cases mk : c = 34 ∨ c = 92
      · rw [esc1_mark mk] at hroom hat HF
        have c0 := hat.out 0 92 rfl
        have c1 := hat.out 1 c rfl
        simp only [List.length_cons, List.length_nil, Nat.add_zero] at hroom c0
        have t1 : (c == 117) = false := by simp; omega
        have h1 : i < m := by omega
        have h2 : i + 1 < m := by omega
        clear mk hat
        go_wp2_with (at_builtin; refine wpList_append_own _ rfl (.tmp 77) (.tmp 79) 22 rfl w.heap.size 5 i0 (.int .u8 0) 1 1 Try.underlying22 hi hz0 hz1 hz2 rfl (by decide) _ _ _ rfl (hown.alloc _) ⟨wr.heap.size, 0, none⟩ 1 1 ([c].map (Value.int .u8)) rfl rfl (new_cells _ _ _) (bytes_oneCell _) (by unfold maxLen; omega) (by omega) (by simp; omega) ?_; intro v' w3 hown' hgrow _)
        have R := own_push hown hbel hsz hown' hgrow rfl HE.out
        clear hown' hgrow hown hbel
        go_wp2
        go_roundw
        case rel => exact ⟨k + 1, i + 2, by omega, by omega, HF, by go_num, R.1, R.2⟩
        case measure => simp [intOf]; omega
      · by_cases lo : c < 32
        · have hdig : Hid (∀ d, d < 4 → wr.cell? ⟨b, off + (i + (2 + d)), none⟩ = some (.int .u8 (hexd (dg c d)))) := fun d hd => hat.out _ _ (esc1_dig hC0 lo hd)
          rw [esc1_low hC0 lo] at hroom hat HF
          have c0 := hat.out 0 92 rfl
          have c1 := hat.out 1 117 rfl
          simp only [List.length_cons, List.length_nil, Nat.add_zero] at hroom c0
          have h1 : i < m := by omega
          have h2 : i + 1 < m := by omega
          have h3 : i + 5 < m := by omega
          clear mk hat
          go_wp2_with fail
          clear c0 c1
          go_loop [8, 9] (fun v p => ∃ d pn : Nat, d ≤ 4 ∧ Hid (pn = i + (2 + d)) ∧ v = .int .i64 (acc c d) ∧ p = .int .i64 pn) (fun _ p => i + 6 - (intOf p).toNat)
          case atStart => exact ⟨0, i + 2, by omega, rfl, rfl, by go_num⟩
          case round =>
            obtain ⟨d, pn, hd, HP, rfl, rfl⟩ := hrel
            have hp := HP.out
            have ha := acc_bd hC0 lo hd
            by_cases hd4 : d < 4
            · have hg := dg_bd hC0 lo d
              have cd := hdig.out d hd4
              rw [← hp] at cd
              have p1 : pn < i + 6 := by omega
              have p2 : pn < m := by omega
              have HX : Hid (isHexB (hexd (dg c d)) = true) := hexB_dig hg.1 hg.2
              have hh := hexd_two (dg c d) hg.1 hg.2
              clear hp hdig
              go_wp2_with fail
              refine (isHex_any (hexd (dg c d)) _ (by omega) (by omega)).mono ?_
              rw [HX.out]
              rintro e w' ⟨rfl, rfl⟩
              go_wp2_with fail
              refine (hexVal_dig (dg c d) _ hg.1 hg.2).mono ?_
              rintro e w2 ⟨rfl, rfl⟩
              go_wp2_with fail
              go_round
              case rel => exact ⟨d + 1, pn + 1, by omega, by show _ = _; rw [HP.out]; omega, rfl, by go_num⟩
              case measure => simp [intOf]; omega
            · obtain rfl : d = 4 := by omega
              rw [acc_four]
              rw [acc_four] at ha
              have p1 : i + 6 ≤ pn := by omega
              clear hp hdig
              go_wp2_with (at_builtin; refine wpList_append_own _ rfl (.tmp 70) (.tmp 73) 22 rfl w.heap.size 5 i0 (.int .u8 0) 1 1 Try.underlying22 hi hz0 hz1 hz2 rfl (by decide) _ _ _ rfl (hown.alloc _) ⟨wr.heap.size, 0, none⟩ 1 1 ([c].map (Value.int .u8)) rfl rfl (new_cells _ _ _) (bytes_oneCell _) (by unfold maxLen; omega) (by omega) (by simp; omega) ?_; intro v' w3 hown' hgrow _)
              have R := own_push hown hbel hsz hown' hgrow rfl HE.out
              clear hown' hgrow hown hbel
              go_wp2
              go_roundw
              case rel => exact ⟨k + 1, i + 6, by omega, by omega, HF, by go_num, R.1, R.2⟩
              case measure => simp [intOf]; omega
        · rw [esc1_plain mk lo] at hroom hat HF
          have c0 := hat.out 0 c rfl
          simp only [List.length_cons, List.length_nil, Nat.add_zero] at hroom c0
          have t1 : (c == 92) = false := by simp; omega
          have t2 : (c != 92) = true := by simp; omega
          have h1 : i < m := by omega
          clear mk hat lo
          go_wp2_with (at_builtin; refine wpList_append_own _ rfl (.tmp 23) (.tmp 25) 22 rfl w.heap.size 5 i0 (.int .u8 0) 1 1 Try.underlying22 hi hz0 hz1 hz2 rfl (by decide) _ _ _ rfl (hown.alloc _) ⟨wr.heap.size, 0, none⟩ 1 1 ([c].map (Value.int .u8)) rfl rfl (new_cells _ _ _) (bytes_oneCell _) (by unfold maxLen; omega) (by omega) (by simp; omega) ?_; intro v' w3 hown' hgrow _)
          have R := own_push hown hbel hsz hown' hgrow rfl HE.out
          clear hown' hgrow hown hbel
          go_wp2
          go_roundw
          case rel => exact ⟨k + 1, i + 1, by omega, by omega, HF, by go_num, R.1, R.2⟩
          case measure => simp [intOf]; omega
    · obtain rfl : k = l.length := by omega
      have e : l.take l.length = l := List.take_of_length_le (Nat.le_refl _)
      rw [e] at hown HI
      have hi2 : i = m := HI.out.symm.trans hl.out
      clear HI hl
      subst hi2
      go_wp2
      go_ret2
      exact ⟨_, rfl, hown, hbel⟩
end Go.Proofs.Qxb6600009a
