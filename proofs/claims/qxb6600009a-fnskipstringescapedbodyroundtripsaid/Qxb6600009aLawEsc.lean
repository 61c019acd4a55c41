import Derived.Test.Qxb6600009aSrc
namespace Go.Proofs.Qxb6600009a
open Go.RowKit Plain

theorem below_draws {B : Nat} {a w : World} (h : Below B a w) (n : Nat) : Below B a (w.drewN n) := h.trans ⟨rfl, rfl, rfl, Nat.le_refl _, fun _ _ => rfl⟩
/-- Where an element of the middle part lies in the whole text. -/
theorem text_at {P E R : List Int} {n0 m d : Nat} {u : Int} (hP : P.length = n0) (hE : E.length = m) (h : (E ++ [34])[d]? = some u) : ([] ++ P ++ [34] ++ E ++ [34] ++ R)[n0 + 1 + d]? = some u := by
  have hd : d < m + 1 := by have := (List.getElem?_eq_some_iff.1 h).1; simpa [hE] using this
  have e : [] ++ P ++ [34] ++ E ++ [34] ++ R = (P ++ [34]) ++ ((E ++ [34]) ++ R) := by simp
  have hl : (P ++ [34]).length = n0 + 1 := by simp [hP]
  rw [e, List.getElem?_append_right (by omega), hl, Nat.add_sub_cancel_left, List.getElem?_append_left (by simp [hE]; omega), h]
theorem text_skip {P E R l : List Int} {n0 m n2 : Nat} (hP : P.length = n0) (hE : E.length = m) (hR : R.length = n2) (he : E = esc l) (hb : ∀ c ∈ l, 0 ≤ c ∧ c ≤ 255) :
    sk (fun j => ([] ++ P ++ [34] ++ E ++ [34] ++ R).getD j 0) (n0 + 1 + m + 1 + n2) (n0 + 1) = n0 + 1 + m + 1 := by
  have := sk_esc (fun j => ([] ++ P ++ [34] ++ E ++ [34] ++ R).getD j 0) (n0 + 1 + m + 1 + n2) l (n0 + 1) hb (fun d u hd => by
    rw [← he] at hd
    have hlt : d < m + 1 := by have := (List.getElem?_eq_some_iff.1 hd).1; simpa [hE] using this
    have h := text_at (R := R) hP hE hd
    exact ⟨by show List.getD _ _ _ = u; rw [List.getD, h]; rfl, by omega⟩)
  rw [this, ← he, hE]

set_option maxHeartbeats 1000000 in
set_option maxRecDepth 10000 in
theorem lawEsc_main (a0 a1 a2 : Option Addr) (n0 n1 n2 cap0 cap1 cap2 : Nat) (f0 f1 f2 : Nat → Int) (w : World) (hn : n0 + 6 * n1 + n2 + 2 ≤ 1048576)
    (hT0 : Text w a0 n0 f0) (hT1 : Text w a1 n1 f1) (hT2 : Text w a2 n2 f2) (hz0 : a0 = none → n0 = 0) (hz1 : a1 = none → n1 = 0) (hz2 : a2 = none → n2 = 0) (hf1 : ∀ k, 0 ≤ f1 k ∧ f1 k ≤ 255) :
    Calls Try.prog 5 #[.slice a0 n0 cap0, .slice a1 n1 cap1, .slice a2 n2 cap2] w fun e w' => e = .returned (.bool true) ∧ Below w.heap.size w w' := by
  go_enter Try.func5, Try.ntmps5
  go_wp2_with fail
  refine (zzBytes16 a0 a1 a2 n0 n1 n2 cap0 cap1 cap2 w (by omega)).mono ?_
  rintro e w0 ⟨rfl, rfl⟩
  go_wp2_with fail
  refine (clone_any a0 n0 cap0 f0 w0 (by omega) hT0 hz0).mono ?_
  rintro e w1 ⟨b0, c0, rfl, hb1, hU0, hy0, hx0⟩
  have S0 := Src.ofClone hU0 hy0 hx0
  replace hT1 := hT1.keep hb1
  replace hT2 := hT2.keep hb1
  clear hT0 hz0 hU0 hy0 hx0
  go_wp2_with fail
  refine (clone_any a1 n1 cap1 f1 w1 (by omega) hT1 hz1).mono ?_
  rintro e w2 ⟨b1, c1, rfl, hb2, hU1, hy1, hx1⟩
  have S1 := Src.ofClone hU1 hy1 hx1
  replace S0 := S0.keep hb2
  replace hT2 := hT2.keep hb2
  clear hT1 hz1 hy1 hx1
  go_wp2_with fail
  refine (clone_any a2 n2 cap2 f2 w2 (by omega) hT2 hz2).mono ?_
  rintro e w3 ⟨b2, c2, rfl, hb3, hU2, hy2, hx2⟩
  have S2 := Src.ofClone hU2 hy2 hx2
  replace S0 := (S0.mono hb2.size).keep hb3
  replace S1 := S1.keep hb3
  replace hU1 := hU1.keep hb3
  clear hT2 hz2 hU2 hy2 hx2
  obtain ⟨l, hl⟩ : ∃ l, l = (List.range n1).map f1 := ⟨_, rfl⟩
  go_wp2_with fail
  refine (escape_any b1 n1 c1 f1 w3 (by omega) hU1 hf1 l hl).mono ?_
  rintro e w4 ⟨v, rfl, hown, hb4⟩
  obtain ⟨ea, ec, rfl, SE, _⟩ := Src.ofOwn hown
  rw [← hl] at S1
  have hll : l.length = n1 := by simp [hl]
  have hbd : Hid (∀ c ∈ l, 0 ≤ c ∧ c ≤ 255) := by
    subst hl
    intro c hc
    obtain ⟨k, _, rfl⟩ := List.mem_map.1 hc
    exact hf1 k
  have hle := esc_len l
  rw [hll] at hle
  clear hl hown hU1 hf1
  obtain ⟨P, hP⟩ : ∃ P, P = (List.range n0).map f0 := ⟨_, rfl⟩
  obtain ⟨R, hR⟩ : ∃ R, R = (List.range n2).map f2 := ⟨_, rfl⟩
  obtain ⟨E, hE⟩ : ∃ E, E = esc l := ⟨_, rfl⟩
  rw [← hP] at S0
  rw [← hR] at S2
  rw [← hE] at SE hle
  rw [← hE]
  obtain ⟨m, hm⟩ : ∃ m, m = E.length := ⟨_, rfl⟩
  rw [← hm] at SE hle
  rw [← hm]
  have HE : Hid (E = esc l) := hE
  have HL : Hid (l.length = n1) := hll
  clear hP hR hE hll hm
  replace S0 := ((S0.mono hb3.size).keep hb4).mono hb4.size
  replace S1 := ((S1.mono hb3.size).keep hb4).mono hb4.size
  replace S2 := (S2.keep hb4).mono hb4.size
  obtain ⟨hle1, hle2⟩ := hle
  have hb : Below w0.heap.size w0 w4 := ((hb1.trans (hb2.mono hb1.size)).trans (hb3.mono (Nat.le_trans hb1.size hb2.size))).trans (hb4.mono (Nat.le_trans hb1.size (Nat.le_trans hb2.size hb3.size)))
  clear hb1 hb2 hb3 hb4
  obtain ⟨i0, hi, hz0, hz1, hz2⟩ := info_parts Try.info5
  obtain ⟨H, hH⟩ : ∃ H, H = w4.heap.size := ⟨_, rfl⟩
  have HH : Hid (H = w4.heap.size) := hH
  rw [← hH] at S0 S1 S2 SE
  go_wp2_with (first
    | (at_make; refine wpList_make_own _ rfl (.const (.int .i64 0)) (.tmp 68) 22 rfl w4.heap.size 5 i0 (.int .u8 0) 1 Try.underlying22 hi hz0 hz1 .i64 .i64 _ (n0 + m + 2 + n2) rfl rfl (by omega) (by rw [hz2]; omega) (by unfold maxLen; omega) (Nat.le_refl _) ?_; rw [← hH]; intro w5 hown5 hg5; have B5 : Below H w4 w5 := (Below.refl _ _).grown hg5 (by omega) (by simp); clear hg5 hH)
    | (at_builtin; refine app_fits _ rfl (.tmp 70) (.tmp 71) rfl H 0 n0 (n0 + m + 2 + n2) [] rfl hown5 (S0.keep B5) rfl (by omega) (by omega) ?_; intro w6 hown6 hB; have B6 := B5.trans hB; clear hB hown5)
    | (at_builtin; refine app_fits _ rfl (.tmp 73) (.tmp 74) rfl H n0 (n0 + 1) (n0 + m + 2 + n2) ([] ++ P) rfl (hown6.alloc _) (Src.one _ 34 5) rfl (by omega) (by omega) ?_; intro w7 hown7 hB; have B7 := (B6.alloc (HH.out ▸ B6.size) _).trans hB; clear hB hown6)
    | (at_builtin; refine app_fits _ rfl (.tmp 76) (.tmp 77) rfl H (n0 + 1) (n0 + 1 + m) (n0 + m + 2 + n2) ([] ++ P ++ [34]) rfl hown7 (SE.keep B7) rfl (by omega) (by omega) ?_; intro w8 hown8 hB; have B8 := B7.trans hB; clear hB hown7)
    | (at_builtin; refine app_fits _ rfl (.tmp 79) (.tmp 80) rfl H (n0 + 1 + m) (n0 + 1 + m + 1) (n0 + m + 2 + n2) ([] ++ P ++ [34] ++ E) rfl (hown8.alloc _) (Src.one _ 34 5) rfl (by omega) (by omega) ?_; intro w9 hown9 hB; have B9 := (B8.alloc (HH.out ▸ B8.size) _).trans hB; clear hB hown8)
    | (at_builtin; refine app_fits _ rfl (.tmp 82) (.tmp 83) rfl H (n0 + 1 + m + 1) (n0 + 1 + m + 1 + n2) (n0 + m + 2 + n2) ([] ++ P ++ [34] ++ E ++ [34]) rfl hown9 (S2.keep B9) rfl (by omega) (by omega) ?_; intro wa howna hB; have Ba := B9.trans hB; clear hB hown9))
  obtain ⟨T, hT⟩ : ∃ T, T = [] ++ P ++ [34] ++ E ++ [34] ++ R := ⟨_, rfl⟩
  have hskip := text_skip S0.len SE.len S2.len HE.out hbd.out
  have hmid : Hid (∀ d u, E[d]? = some u → T[n0 + 1 + d]? = some u) := by
    intro d u hd
    rw [hT]
    refine text_at S0.len SE.len ?_
    rw [List.getElem?_append_left (List.getElem?_eq_some_iff.1 hd).1]; exact hd
  rw [← hT] at howna hskip
  clear hT
  have hHa : H < wa.heap.size := (howna.lt H rfl).2
  have hTl : T.length = n0 + 1 + m + 1 + n2 := by simpa using howna.1
  have hcell : ∀ k, k < n0 + 1 + m + 1 + n2 → wa.cell? ⟨H, 0 + k, none⟩ = some (.int .u8 (T.getD k 0)) := by
    intro k hk
    rw [Nat.zero_add, howna.cellAt k (by omega)]
    simp [show k < T.length by omega]
  have Z := zzSkipString_any H 0 (n0 + 1 + m + 1 + n2) (n0 + m + 2 + n2) n0 (fun j => T.getD j 0) wa (by omega) (by omega) hHa hcell
  rw [hskip] at Z
  refine Z.mono ?_
  rintro e wb ⟨rfl, hbb⟩
  have hcell2 : Hid (∀ j u, (esc l)[j]? = some u → wb.cell? ⟨H, n0 + 1 + j, none⟩ = some (.int .u8 u)) := by
    intro j u hj
    rw [← HE.out] at hj
    have h := hmid.out j u hj
    have hk : n0 + 1 + j < n0 + 1 + m + 1 + n2 := by have := (List.getElem?_eq_some_iff.1 h).1; omega
    rw [hbb.cell hHa]
    have h2 := hcell _ hk
    rw [Nat.zero_add] at h2
    rw [h2, List.getD, h]; rfl
  have HEl : Hid ((esc l).length = m) := HE.out ▸ SE.len
  have hbw : Below H w4 wb := Ba.trans (hbb.mono (by omega))
  have S1b := S1.keep hbw
  have hHb : H < wb.heap.size := Nat.lt_of_lt_of_le hHa hbb.size
  clear Z hcell hskip hmid hTl howna S0 S1 S2 SE HE B5 B6 B7 B8 B9 Ba hi hz0 hz1 hz2 hbb
  go_wp2_with fail
  refine (unescape_any H (n0 + 1) m _ l wb (by omega) hHb HEl hbd.out hcell2.out).mono ?_
  rintro e wc ⟨v, rfl, hown, hbc⟩
  obtain ⟨da, dc, hv, SD, _⟩ := Src.ofOwn hown
  rw [HL.out] at hv SD
  have TD := SD.text (Nat.le_refl _)
  have TB := ((S1b.mono (Nat.le_of_lt hHb)).keep hbc).text hbc.size
  clear hcell2 HEl S1b hown SD
  rw [hv]
  go_wp2_with fail
  refine (equal_same da b1 n1 dc c1 _ _ wc (by omega) TD TB (fun _ _ => rfl)).mono ?_
  rintro e wd ⟨rfl, q, rfl⟩
  clear TD TB
  go_wp2
  go_ret
  refine ⟨rfl, below_draws (hb.trans ((hbw.mono ?_).trans (hbc.mono ?_))) q⟩
  · rw [HH.out]; exact hb.size
  · have := hb.size; have := HH.out; omega

theorem lawEsc_walk (a0 : Option Addr) (len0 cap0 : Nat) (z0 : List Int) (a1 : Option Addr) (len1 cap1 : Nat) (z1 : List Int) (a2 : Option Addr) (len2 cap2 : Nat) (z2 : List Int) (w : World)
    (w0 : Rowed w a0 len0 cap0 z0) (w1 : Rowed w a1 len1 cap1 z1) (w2 : Rowed w a2 len2 cap2 z2) :
    Calls Try.prog 5 #[.slice a0 len0 cap0, .slice a1 len1 cap1, .slice a2 len2 cap2] w fun e w' => e = .returned (.bool true) ∧ Below w.heap.size w w' := by
  have h0 := w0.le
  have h1 := w1.le
  have h2 := w2.le
  by_cases hbig : 1048576 < len0 + len1 + len2
  · go_enter Try.func5, Try.ntmps5
    go_wp2_with fail
    refine (zzBytes16_no a0 a1 a2 len0 len1 len2 cap0 cap1 cap2 w hbig h0 h1 h2).mono ?_
    rintro e w' ⟨rfl, rfl⟩
    go_wp2
    go_ret
    exact ⟨rfl, Below.refl _ _⟩
  · by_cases hbig2 : 1048576 < len0 + 6 * len1 + len2 + 2
    · go_enter Try.func5, Try.ntmps5
      go_wp2_with fail
      refine (zzBytes16 a0 a1 a2 len0 len1 len2 cap0 cap1 cap2 w (by omega)).mono ?_
      rintro e w' ⟨rfl, rfl⟩
      go_wp2
      go_ret
      exact ⟨rfl, Below.refl _ _⟩
    · obtain ⟨f0, T0, _⟩ := w0.text
      obtain ⟨f1, T1, hf1⟩ := w1.text
      obtain ⟨f2, T2, _⟩ := w2.text
      have nil : ∀ {a : Option Addr} {len cap : Nat} {z : List Int}, Rowed w a len cap z → a = none → len = 0 := by
        intro a len cap z h e
        rcases h with ⟨_, h, _⟩ | ⟨x, hx, _⟩
        · exact h
        · rw [e] at hx; cases hx
      exact lawEsc_main a0 a1 a2 len0 len1 len2 cap0 cap1 cap2 f0 f1 f2 w (by omega) T0 T1 T2 (nil w0) (nil w1) (nil w2) hf1
end Go.Proofs.Qxb6600009a
