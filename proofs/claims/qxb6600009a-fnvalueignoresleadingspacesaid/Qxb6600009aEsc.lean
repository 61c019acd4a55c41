import Derived.Test.Qxb6600009aText
import Derived.Test.Qxb6600009aEscPlain
namespace Go.Proofs.Qxb6600009a
open Go.RowKit Plain

theorem ret_int {k : IntKind} {a b : Int} (h : a = b) : Ending.returned (.int k a) = .returned (.int k b) := by rw [h]
theorem ret_bool {a b : Bool} (h : a = b) : Ending.returned (.bool a) = .returned (.bool b) := by rw [h]
theorem hexDigit_any (v : Int) (w : World) (h0 : 0 ≤ v) (h : v < 16) :
    Calls Try.prog 29 #[.int .u8 v] w fun e w' => e = .returned (.int .u8 (hexd v)) ∧ w' = w := by
  by_cases h10 : v < 10
  · have e : hexd v = 48 + v := by rw [hexd, if_pos h10]
    rw [e]; clear e
    go_enter Try.func29, Try.ntmps29
    go_wp2
    go_ret
    exact ⟨rfl, rfl⟩
  · have e : hexd v = 97 + v - 10 := by rw [hexd, if_neg h10]; omega
    rw [e]; clear e
    go_enter Try.func29, Try.ntmps29
    go_wp2
    go_ret
    exact ⟨rfl, rfl⟩

/-- The cells of a block that was just laid. -/
theorem new_cells (w : World) (cs : List Value) (t : TypeId) : ∀ j u, cs[j]? = some u → (w.alloc (.cells cs.toArray t)).cell? ((⟨w.heap.size, 0, none⟩ : Addr).add j) = some u := by
  intro j u h
  rw [Addr.add_lit, Nat.zero_add, World.cell?_alloc_new]
  simpa using h
theorem bytes_oneCell (l : List Int) : ∀ u ∈ l.map (Value.int .u8), u.oneCell' = true := by
  intro u hu
  obtain ⟨_, _, rfl⟩ := List.mem_map.1 hu
  rfl
/-- What an append by the law leaves: the row, and what was there before. -/
theorem own_push {B m : Nat} {w wr w1 : World} {o : Obj} {v v' : Value} {xs ys news : List Int} (hown : wr.ownsRow B 5 1 v xs.length (xs.map (Value.int .u8))) (hbel : Below B w wr) (hsz : B ≤ wr.heap.size)
    (hown' : w1.ownsRow B 5 1 v' (xs.length + m) (xs.map (Value.int .u8) ++ news.map (Value.int .u8))) (hg : (wr.alloc o).grownBy w1 v.ownBlock) (hm : news.length = m) (HE : ys = xs ++ news) :
    w1.ownsRow B 5 1 v' ys.length (ys.map (Value.int .u8)) ∧ Below B w w1 := by
  subst HE hm
  refine ⟨by simpa using hown', ?_⟩
  refine (hbel.alloc hsz o).grown hg (by simp; omega) ?_
  intro k hk
  exact (hown.lt k hk).1

set_option maxHeartbeats 400000 in
theorem escape_some (b off n cap : Nat) (l : List Int) (w : World) (hn : n ≤ 1048576) (hb : b < w.heap.size) (hl : Hid (l.length = n)) (hr : ∀ c ∈ l, 0 ≤ c ∧ c ≤ 255)
    (hcell : ∀ k (h : k < l.length), w.cell? ⟨b, off + k, none⟩ = some (.int .u8 l[k])) :
    Calls Try.prog 17 #[.slice (some ⟨b, off, none⟩) n cap] w fun e w' => ∃ v, e = .returned v ∧ w'.ownsRow w.heap.size 5 1 v (esc l).length ((esc l).map (Value.int .u8)) ∧ Below w.heap.size w w' := by
  obtain ⟨i0, hi, hz0, hz1, hz2⟩ := info_parts Try.info5
  go_enter Try.func17, Try.ntmps17
  go_wp2_with (at_make; refine wpList_make_own _ rfl (.const (.int .i64 0)) (.tmp 11) 22 rfl w.heap.size 5 i0 (.int .u8 0) 1 Try.underlying22 hi hz0 hz1 .i64 .i64 _ (n + n / 2) rfl rfl (by omega) (by rw [hz2]; omega) (by unfold maxLen; omega) (Nat.le_refl _) ?_; intro w1 hown hgrow)
  have hbel : Below w.heap.size w w1 := (Below.refl _ _).grown hgrow (Nat.le_refl _) (by simp)
  clear hgrow
  go_loopw [3, 4] (fun v i wr => ∃ k : Nat, k ≤ n ∧ i = .int .i64 k ∧ wr.ownsRow w.heap.size 5 1 v (esc (l.take k)).length ((esc (l.take k)).map (Value.int .u8)) ∧ Below w.heap.size w wr) (fun _ i _ => n - (intOf i).toNat)
  case atStart => exact ⟨0, Nat.zero_le _, rfl, hown, hbel⟩
  case round =>
    obtain ⟨k, hk, rfl, hown, hbel⟩ := hrel
    by_cases hlt : k < n
    · have hkl : k < l.length := by rw [hl.out]; exact hlt
      have hc0 : wr.cell? ⟨b, off + k, none⟩ = some (.int .u8 l[k]) := (hbel.cell hb).trans (hcell k hkl)
      have hlen := esc_len (l.take k)
      have htl : (l.take k).length ≤ k := List.length_take_le _ _
      have hC := hr l[k] (List.getElem_mem hkl)
      have HE : Hid (esc (l.take (k + 1)) = esc (l.take k) ++ esc1 l[k]) := esc_take hkl
      obtain ⟨c, hc⟩ : ∃ c, c = l[k] := ⟨_, rfl⟩
      rw [← hc] at hc0 hC HE
      clear hc hcell hr
      obtain ⟨hC0, hC1⟩ := hC
      have hsz := hbel.size
      by_cases m : c = 34 ∨ c = 92
      · by_cases m2 : c = 34
        · have t1 : (c == 34) = true := by simpa using m2
          have HM : Hid (c = 34 ∨ c = 92) := m
          clear m m2
          go_wp2_with (at_builtin; refine wpList_append_own _ rfl (.tmp 29) (.tmp 31) 22 rfl w.heap.size 5 i0 (.int .u8 0) 1 1 Try.underlying22 hi hz0 hz1 hz2 rfl (by decide) _ _ _ rfl (hown.alloc _) ⟨wr.heap.size, 0, none⟩ 2 2 ([92, c].map (Value.int .u8)) rfl rfl (new_cells _ _ _) (bytes_oneCell _) (by unfold maxLen; omega) (by omega) (by simp; omega) ?_; intro v' w3 hown' hgrow _)
          have R := own_push hown hbel hsz hown' hgrow rfl (HE.out.trans (by rw [esc1_mark HM.out]))
          clear hown' hgrow hown hbel
          go_wp2
          go_roundw
          case rel => exact ⟨k + 1, by omega, by go_num, R.1, R.2⟩
          case measure => simp [intOf]; omega
        · have t1 : (c == 34) = false := by simpa using m2
          have t2 : (c == 92) = true := by simp; omega
          have HM : Hid (c = 34 ∨ c = 92) := m
          clear m m2
          go_wp2_with (at_builtin; refine wpList_append_own _ rfl (.tmp 29) (.tmp 31) 22 rfl w.heap.size 5 i0 (.int .u8 0) 1 1 Try.underlying22 hi hz0 hz1 hz2 rfl (by decide) _ _ _ rfl (hown.alloc _) ⟨wr.heap.size, 0, none⟩ 2 2 ([92, c].map (Value.int .u8)) rfl rfl (new_cells _ _ _) (bytes_oneCell _) (by unfold maxLen; omega) (by omega) (by simp; omega) ?_; intro v' w3 hown' hgrow _)
          have R := own_push hown hbel hsz hown' hgrow rfl (HE.out.trans (by rw [esc1_mark HM.out]))
          clear hown' hgrow hown hbel
          go_wp2
          go_roundw
          case rel => exact ⟨k + 1, by omega, by go_num, R.1, R.2⟩
          case measure => simp [intOf]; omega
      · by_cases lo : c < 32
        · have t1 : (c == 34) = false := by simp; omega
          have t2 : (c == 92) = false := by simp; omega
          go_wp2_with fail
          refine (hexDigit_any (c / 16) wr (by omega) (by omega)).mono ?_
          rintro e w' ⟨rfl, rfl⟩
          go_wp2_with fail
          refine (hexDigit_any (c % 16) w' (by omega) (by omega)).mono ?_
          rintro e w2 ⟨rfl, rfl⟩
          go_wp2_with (at_builtin; refine wpList_append_own _ rfl (.tmp 35) (.tmp 42) 22 rfl w.heap.size 5 i0 (.int .u8 0) 1 1 Try.underlying22 hi hz0 hz1 hz2 rfl (by decide) _ _ _ rfl (hown.alloc _) ⟨w2.heap.size, 0, none⟩ 6 6 ([92, 117, 48, 48, hexd (c / 16), hexd (c % 16)].map (Value.int .u8)) rfl rfl (new_cells _ _ _) (bytes_oneCell _) (by unfold maxLen; omega) (by omega) (by simp; omega) ?_; intro v' w3 hown' hgrow _)
          have R := own_push hown hbel hsz hown' hgrow rfl (HE.out.trans (by rw [esc1_low hC0 lo]))
          clear hown' hgrow hown hbel
          go_wp2
          go_roundw
          case rel => exact ⟨k + 1, by omega, by go_num, R.1, R.2⟩
          case measure => simp [intOf]; omega
        · have t1 : (c == 34) = false := by simp; omega
          have t2 : (c == 92) = false := by simp; omega
          go_wp2_with (at_builtin; refine wpList_append_own _ rfl (.tmp 44) (.tmp 46) 22 rfl w.heap.size 5 i0 (.int .u8 0) 1 1 Try.underlying22 hi hz0 hz1 hz2 rfl (by decide) _ _ _ rfl (hown.alloc _) ⟨wr.heap.size, 0, none⟩ 1 1 ([c].map (Value.int .u8)) rfl rfl (new_cells _ _ _) (bytes_oneCell _) (by unfold maxLen; omega) (by omega) (by simp; omega) ?_; intro v' w3 hown' hgrow _)
          have R := own_push hown hbel hsz hown' hgrow rfl (HE.out.trans (by rw [esc1_plain m lo]))
          clear hown' hgrow hown hbel
          go_wp2
          go_roundw
          case rel => exact ⟨k + 1, by omega, by go_num, R.1, R.2⟩
          case measure => simp [intOf]; omega
    · go_wp2
      go_ret
      have e : l.take k = l := List.take_of_length_le (by rw [hl.out]; omega)
      rw [e] at hown
      exact ⟨_, rfl, hown, hbel⟩

theorem escape_empty (a : Option Addr) (cap : Nat) (w : World) :
    Calls Try.prog 17 #[.slice a 0 cap] w fun e w' => ∃ v, e = .returned v ∧ w'.ownsRow w.heap.size 5 1 v (esc []).length ((esc []).map (Value.int .u8)) ∧ Below w.heap.size w w' := by
  obtain ⟨i0, hi, hz0, hz1, hz2⟩ := info_parts Try.info5
  go_enter Try.func17, Try.ntmps17
  go_wp2_with (at_make; refine wpList_make_own _ rfl (.const (.int .i64 0)) (.tmp 11) 22 rfl w.heap.size 5 i0 (.int .u8 0) 1 Try.underlying22 hi hz0 hz1 .i64 .i64 _ 0 rfl rfl (by omega) (by rw [hz2]; omega) (by unfold maxLen; omega) (Nat.le_refl _) ?_; intro w1 hown hgrow)
  have hbel : Below w.heap.size w w1 := (Below.refl _ _).grown hgrow (Nat.le_refl _) (by simp)
  clear hgrow
  refine wp_loop_rounds 1 ?_
  rw [rounds_succ]
  go_wp2
  go_ret
  exact ⟨_, rfl, hown, hbel⟩

theorem escape_any (a : Option Addr) (n cap : Nat) (f : Nat → Int) (w : World) (hn : n ≤ 1048576) (hT : Text w a n f) (hf : ∀ k, 0 ≤ f k ∧ f k ≤ 255) (l : List Int) (hl : l = (List.range n).map f) :
    Calls Try.prog 17 #[.slice a n cap] w fun e w' => ∃ v, e = .returned v ∧ w'.ownsRow w.heap.size 5 1 v (esc l).length ((esc l).map (Value.int .u8)) ∧ Below w.heap.size w w' := by
  subst hl
  by_cases hp : 0 < n
  · obtain ⟨b, off, rfl, hb, hc⟩ := hT hp
    refine escape_some b off n cap _ w hn hb (by show _ = _; simp) ?_ ?_
    · intro c hc
      obtain ⟨k, _, rfl⟩ := List.mem_map.1 hc
      exact hf k
    · intro k hk
      have hk' : k < n := by simpa using hk
      rw [hc k hk']; simp
  · obtain rfl : n = 0 := by omega
    exact escape_empty a cap w

/-! ### b1IsHex, b1HexVal, b1Unescape -/
def isHexB (c : Int) : Bool := decide ((48 ≤ c ∧ c ≤ 57) ∨ (97 ≤ c ∧ c ≤ 102) ∨ (65 ≤ c ∧ c ≤ 70))
theorem isHex_any (c : Int) (w : World) (h0 : 0 ≤ c) (h1 : c ≤ 255) : Calls Try.prog 31 #[.int .u8 c] w fun e w' => e = .returned (.bool (isHexB c)) ∧ w' = w := by
  by_cases h : (48 ≤ c ∧ c ≤ 57) ∨ (97 ≤ c ∧ c ≤ 102) ∨ (65 ≤ c ∧ c ≤ 70)
  · have e : isHexB c = true := decide_eq_true h
    rw [e]; clear e
    rcases h with ⟨x, y⟩ | ⟨x, y⟩ | ⟨x, y⟩
    all_goals
      go_enter Try.func31, Try.ntmps31
      go_wp2
      go_ret
      exact ⟨rfl, rfl⟩
  · have e : isHexB c = false := decide_eq_false h
    rw [e]; clear e
    rcases (show c < 48 ∨ (57 < c ∧ c < 65) ∨ (70 < c ∧ c < 97) ∨ 102 < c by omega) with x | ⟨x, y⟩ | ⟨x, y⟩ | x
    all_goals
      clear h
      go_enter Try.func31, Try.ntmps31
      go_wp2
      go_ret
      exact ⟨ret_bool (by first | rfl | (simp; omega)), rfl⟩
theorem hexVal_dig (v : Int) (w : World) (h0 : 0 ≤ v) (h1 : v < 16) : Calls Try.prog 32 #[.int .u8 (hexd v)] w fun e w' => e = .returned (.int .i64 v) ∧ w' = w := by
  by_cases h : v < 10
  · have e : hexd v = 48 + v := by rw [hexd, if_pos h]
    rw [e]; clear e
    go_enter Try.func32, Try.ntmps32
    go_wp2
    go_ret
    exact ⟨ret_int (by omega), rfl⟩
  · have e : hexd v = 87 + v := by rw [hexd, if_neg h]
    rw [e]; clear e
    go_enter Try.func32, Try.ntmps32
    go_wp2
    go_ret
    exact ⟨ret_int (by omega), rfl⟩
end Go.Proofs.Qxb6600009a
