import Derived.Test.Qxb6600009aScanVal
import Derived.Test.Qxb6600009aShift
import Derived.Test.Qxb6600009aSrc
namespace Go.Proofs.Qxb6600009a
open Go.RowKit Plain

theorem zzBytes13 (a a2 : Option Addr) (n n2 cap cap2 : Nat) (i : Int) (w : World) (hn : n + n2 ≤ 1048576) :
    Calls Try.prog 13 #[.slice a n cap, .int .i64 i, .slice a2 n2 cap2] w fun e w' => e = .returned (.bool true) ∧ w' = w := by
  go_enter Try.func13, Try.ntmps13
  go_wp2
  go_ret
  exact ⟨rfl, rfl⟩
theorem zzBytes13_no (a a2 : Option Addr) (n n2 cap cap2 : Nat) (i : Int) (w : World) (hn : 1048576 < n + n2) (hm : n ≤ 9223372036854775807) (hm2 : n2 ≤ 9223372036854775807) :
    Calls Try.prog 13 #[.slice a n cap, .int .i64 i, .slice a2 n2 cap2] w fun e w' => e = .returned (.bool false) ∧ w' = w := by
  by_cases h1 : 1048576 < n
  · go_enter Try.func13, Try.ntmps13
    go_wp2
    go_ret
    exact ⟨rfl, rfl⟩
  · by_cases h2 : 1048576 < n2
    · go_enter Try.func13, Try.ntmps13
      go_wp2
      go_ret
      exact ⟨rfl, rfl⟩
    · go_enter Try.func13, Try.ntmps13
      go_wp2
      go_ret
      exact ⟨rfl, rfl⟩

theorem wsOf_any (c : Int) (w : World) (h0 : 0 ≤ c) (h1 : c ≤ 255) : Calls Try.prog 14 #[.int .u8 c] w fun e w' => ∃ v : Int, e = .returned (.int .u8 v) ∧ w' = w ∧ isWs v := by
  rcases (show c % 4 = 0 ∨ c % 4 = 1 ∨ c % 4 = 2 ∨ c % 4 = 3 by omega) with h | h | h | h
  · have t1 : (c % 4 == 0) = true := by simpa using h
    clear h
    go_enter Try.func14, Try.ntmps14
    go_wp2
    go_ret
    exact ⟨32, rfl, rfl, .inl rfl⟩
  · have t1 : (c % 4 == 0) = false := by simp; omega
    have t2 : (c % 4 == 1) = true := by simpa using h
    clear h
    go_enter Try.func14, Try.ntmps14
    go_wp2
    go_ret
    exact ⟨9, rfl, rfl, .inr (.inl rfl)⟩
  · have t1 : (c % 4 == 0) = false := by simp; omega
    have t2 : (c % 4 == 1) = false := by simp; omega
    have t3 : (c % 4 == 2) = true := by simpa using h
    clear h
    go_enter Try.func14, Try.ntmps14
    go_wp2
    go_ret
    exact ⟨10, rfl, rfl, .inr (.inr (.inl rfl))⟩
  · have t1 : (c % 4 == 0) = false := by simp; omega
    have t2 : (c % 4 == 1) = false := by simp; omega
    have t3 : (c % 4 == 2) = false := by simp; omega
    clear h
    go_enter Try.func14, Try.ntmps14
    go_wp2
    go_ret
    exact ⟨13, rfl, rfl, .inr (.inr (.inr rfl))⟩

/-- A part of a text that lies at the head of block b. -/
theorem Src.part {H b n i m c : Nat} {w : World} {f : Nat → Int} (hb : b < H) (hcell : ∀ k, k < n → w.cell? ⟨b, k, Option.none⟩ = some (.int .u8 (f k))) (him : i + m ≤ n) :
    Src H w (some ⟨b, i, Option.none⟩) m c ((List.range m).map fun k => f (i + k)) := by
  refine ⟨by simp, fun e => (by cases e), fun ad e => ?_, fun ad e j u hu => ?_⟩
  · obtain rfl := Option.some.inj e
    exact hb
  · obtain rfl := Option.some.inj e
    have hj : j < m := by have := (List.getElem?_eq_some_iff.1 hu).1; simpa using this
    rw [Addr.add_lit, hcell (i + j) (by omega)]
    simp [hj] at hu
    rw [hu]

theorem below_drawn {B : Nat} {a w : World} (h : Below B a w) (n : Nat) : Below B a (w.drewN n) := h.trans ⟨rfl, rfl, rfl, Nat.le_refl _, fun _ _ => rfl⟩

set_option maxHeartbeats 2000000 in
set_option maxRecDepth 10000 in
theorem lawSpace_main (b off n cap i : Nat) (a2 : Option Addr) (p cap2 : Nat) (f g : Nat → Int) (w : World) (hn : n + p ≤ 1048576) (hi : i ≤ n) (hb : b < w.heap.size) (hf : ∀ k, 0 ≤ f k ∧ f k ≤ 255) (hg : ∀ k, 0 ≤ g k ∧ g k ≤ 255)
    (hcell : ∀ k, k < n → w.cell? ⟨b, off + k, none⟩ = some (.int .u8 (f k))) (hT : Text w a2 p g) (hz : a2 = none → p = 0) :
    Calls Try.prog 4 #[.slice (some ⟨b, off, none⟩) n cap, .int .i64 i, .slice a2 p cap2] w fun e w' => e = .returned (.bool true) ∧ Below w.heap.size w w' := by
  have HC : Hid (∀ k, k < n → w.cell? ⟨b, off + k, none⟩ = some (.int .u8 (f k))) := hcell
  have HF : Hid (∀ k, 0 ≤ f k ∧ f k ≤ 255) := hf
  have HG : Hid (∀ k, 0 ≤ g k ∧ g k ≤ 255) := hg
  obtain ⟨j, hj⟩ : ∃ j, ws f n i = j := ⟨_, rfl⟩
  have HJ : Hid (ws f n i = j) := hj
  have hji := (ws_ge f hi).1
  rw [hj] at hji
  clear hcell hf hg hj
  go_enter Try.func4, Try.ntmps4
  go_wp2_with fail
  refine (zzBytes13 (some ⟨b, off, none⟩) a2 n p cap cap2 i w hn).mono ?_
  rintro e w' ⟨rfl, hw⟩
  obtain rfl : w = w' := hw.symm
  clear hw
  go_wp2_with fail
  refine (premise_any b off n cap i j f w (by omega) hi HJ HF.out HC.out).mono ?_
  rintro e w' ⟨q, rfl, rfl | ⟨en, rfl, hV, hSt⟩⟩
  · go_wp2_with fail
    go_ret
    exact ⟨rfl, below_drawn (Below.refl _ _) q⟩
  · have HV : Hid (VOK f n j en) := hV
    have HS : Hid (Stops f n j en) := hSt
    have hv1 := hV.1
    have hv2 := hV.2.1
    clear hV hSt
    go_wp2_with fail
    refine (clone_some b off n cap f _ (by omega) (by exact hb) (by exact HC.out)).mono ?_
    rintro e w1 ⟨rfl, hbel, hsz, hc1⟩
    have hbel1 : Below w.heap.size w w1 := (below_drawn (Below.refl _ _) q).trans hbel
    have hsz1 : w.heap.size < w1.heap.size := hsz
    have HC1 : Hid (∀ k, k < n → w1.cell? ⟨w.heap.size, k, none⟩ = some (.int .u8 (f k))) := hc1
    have hT1 := hT.keep hbel1
    clear hbel hsz hc1 HC hT
    go_wp2_with fail
    refine (clone_any a2 p cap2 g w1 (by omega) hT1 hz).mono ?_
    rintro e w2 ⟨pa, pc, rfl, hbel2, hTp, hpn, hps⟩
    have hbel3 : Below w.heap.size w w2 := hbel1.trans (hbel2.mono (by omega))
    have hszB := hbel2.size
    have HC2 : Hid (∀ k, k < n → w2.cell? ⟨w.heap.size, k, none⟩ = some (.int .u8 (f k))) := fun k hk => (hbel2.cell hsz1).trans (HC1.out k hk)
    have HTp : Hid (Text w2 pa p g) := hTp
    clear HC1 hT1 hbel1 hbel2 hTp hpn hps hz
    obtain ⟨tb, htb⟩ : ∃ tb, tb = w.heap.size := ⟨_, rfl⟩
    obtain ⟨H, hH⟩ : ∃ H, H = w2.heap.size := ⟨_, rfl⟩
    have HTB : Hid (tb = w.heap.size) := htb
    have HH : Hid (H = w2.heap.size) := hH
    rw [← htb] at HC2 ⊢
    have htH : tb < H := by omega
    have S0 : Src H w2 (some ⟨tb, 0, none⟩) i n ((List.range i).map fun k => f (0 + k)) := Src.part (n := n) (i := 0) (m := i) (c := n) htH HC2.out (by omega)
    obtain ⟨P, hP⟩ : ∃ P, P = (List.range i).map fun k => f (0 + k) := ⟨_, rfl⟩
    rw [← hP] at S0
    clear hP htb
    obtain ⟨i0, hi0, hz0, hz1, hz2⟩ := info_parts Try.info5
    go_wp2_with (first
      | (at_make; refine wpList_make_own _ rfl (.const (.int .i64 0)) (.tmp 62) 22 rfl w2.heap.size 5 i0 (.int .u8 0) 1 Try.underlying22 hi0 hz0 hz1 .i64 .i64 _ (n + p) rfl rfl (by omega) (by rw [hz2]; omega) (by unfold maxLen; omega) (Nat.le_refl _) ?_; rw [← hH]; intro w3 hown3 hg3; have B3 : Below H w2 w3 := (Below.refl _ _).grown hg3 (by omega) (by simp); clear hg3 hH)
      | (at_builtin; refine app_fits _ rfl (.tmp 64) (.tmp 67) rfl H 0 i (n + p) [] rfl hown3 (S0.keep B3) rfl (by omega) (by omega) ?_; intro w4 hown4 hB; have B4 := B3.trans hB; clear hB hown3))
    go_loopw [10, 11] (fun v u wr => ∃ (k : Nat) (W : List Int), k ≤ p ∧ v = .slice (some ⟨H, 0, none⟩) (i + k) (n + p) ∧ u = .int .i64 k ∧ Hid (W.length = k) ∧ Hid (∀ c ∈ W, isWs c) ∧
        wr.ownsRow H 5 1 (.slice (some ⟨H, 0, none⟩) (i + k) (n + p)) (i + k) (([] ++ P ++ W).map (Value.int .u8)) ∧ Below H w2 wr) (fun _ u _ => p - (intOf u).toNat)
    case atStart => exact ⟨0, [], by omega, rfl, rfl, rfl, fun c hc => (by cases hc), by simpa using hown4, B4⟩
    case round =>
      obtain ⟨k, W, hk, rfl, rfl, HL, HW, hown, B⟩ := hrel
      clear hown4 B4 B3
      by_cases hlt : k < p
      · obtain ⟨b2, off2, hpa, hb2, hc2⟩ := HTp.out (by omega)
        have hcp : wr.cell? ⟨b2, off2 + k, none⟩ = some (.int .u8 (g k)) := (B.cell (by rw [HH.out]; exact hb2)).trans (hc2 k hlt)
        have hgk := HG.out k
        clear hc2
        subst hpa
        go_wp2_with fail
        refine (wsOf_any (g k) wr hgk.1 hgk.2).mono ?_
        rintro e w' ⟨v, rfl, hw, hv⟩
        obtain rfl : wr = w' := hw.symm
        have HVs : Hid (isWs v) := hv
        clear hw hv
        go_wp2_with (at_builtin; refine app_fits _ rfl (.tmp 75) (.tmp 81) rfl H (i + k) (i + (k + 1)) (n + p) ([] ++ P ++ W) rfl (hown.alloc _) (Src.one _ v 5) rfl (by omega) (by omega) ?_; intro w5 hown5 hB; have B5 := (B.alloc (HH.out ▸ B.size) _).trans hB; clear hB hown B)
        go_roundw
        case rel =>
          refine ⟨k + 1, W ++ [v], by omega, rfl, by go_num, by show _ = _; simp [HL.out], fun c hc => ?_, by rw [← List.append_assoc]; exact hown5, B5⟩
          rcases List.mem_append.1 hc with h | h
          · exact HW.out c h
          · simp at h; subst h; exact HVs
        case measure => simp [intOf]; omega
      · obtain rfl : k = p := by omega
        have hin : i < n := by omega
        have b3 : ¬ n = i := by omega
        have b4 : (i : Int) ≤ (n : Int) := by omega
        have HC3 : Hid (∀ x, x < n → wr.cell? ⟨tb, x, none⟩ = some (.int .u8 (f x))) := fun x hx => (B.cell htH).trans (HC2.out x hx)
        have S2 : Src H wr (some ⟨tb, i, none⟩) (n - i) (n - i) ((List.range (n - i)).map fun x => f (i + x)) := Src.part (n := n) htH HC3.out (by omega)
        obtain ⟨R, hR⟩ : ∃ R, R = (List.range (n - i)).map fun x => f (i + x) := ⟨_, rfl⟩
        rw [← hR] at S2
        have HR : Hid (R = (List.range (n - i)).map fun x => f (i + x)) := hR
        have HPl : Hid (P.length = i) := S0.len
        clear hR S0 HC2
        go_wp2_with (at_builtin; refine app_fits _ rfl (.tmp 83) (.tmp 86) rfl H (i + k) (n + k) (n + k) ([] ++ P ++ W) rfl hown S2 rfl (by omega) (by omega) ?_; intro w6 hown6 hB; have B6 := B.trans hB; have HB6 : Hid (Below H wr w6) := hB; clear hB hown S2)
        obtain ⟨T, hTT⟩ : ∃ T, T = [] ++ P ++ W ++ R := ⟨_, rfl⟩
        have hpad := padded (P := [] ++ P) (f := f) (n := n) (a := i) hi (by simpa using HPl.out) HL.out HW.out HR.out
        rw [← hTT] at hown6 hpad
        have HSh : Hid (Shift f (fun x => T.getD x 0) n k i) := hpad.1
        have HJ2 : Hid (ws (fun x => T.getD x 0) (n + k) i = j + k) := by
          show _ = _
          rw [ws_pad hpad.1 hi hpad.2, HJ.out]
        have HV2 : Hid (VOK (fun x => T.getD x 0) (n + k) (j + k) (en + k)) := VOK.shift hpad.1 hji HV.out
        have HS2 : Hid (Stops (fun x => T.getD x 0) (n + k) (j + k) (en + k)) := Stops.shift hpad.1 hji HV.out HS.out
        have hHs : H < w6.heap.size := (hown6.lt H rfl).2
        have hTl : T.length = n + k := by simpa using hown6.1
        have HCt : Hid (∀ x, x < n → w6.cell? ⟨tb, 0 + x, none⟩ = some (.int .u8 (f x))) := fun x hx => by
          rw [Nat.zero_add]; exact (HB6.out.cell htH).trans (HC3.out x hx)
        have HCu : Hid (∀ x, x < n + k → w6.cell? ⟨H, 0 + x, none⟩ = some (.int .u8 (T.getD x 0))) := fun x hx => by
          rw [Nat.zero_add, hown6.cellAt x (by omega)]
          simp [show x < T.length by omega]
        clear hpad hTT HW HR HPl HC3 HB6 hown6 hTl
        have Z := zzValue_any tb 0 n n i j en f w6 (by omega) (Nat.le_refl _) (by omega) hi (by omega) HJ HV.out HS.out HCt.out
        rw [Nat.zero_add] at Z
        refine Z.mono ?_
        rintro e w7 ⟨rfl, hb7⟩
        clear Z
        have HCt7 : Hid (∀ x, x < n → w7.cell? ⟨tb, 0 + x, none⟩ = some (.int .u8 (f x))) := fun x hx => (hb7.cell (show tb < _ by omega)).trans (HCt.out x hx)
        have HCu7 : Hid (∀ x, x < n + k → w7.cell? ⟨H, 0 + x, none⟩ = some (.int .u8 (T.getD x 0))) := fun x hx => (hb7.cell hHs).trans (HCu.out x hx)
        have hs7 := hb7.size
        clear HCt HCu
        go_wp2_with fail
        have Z := zzValue_any H 0 (n + k) (n + k) i (j + k) (en + k) (fun x => T.getD x 0) w7 (by omega) (Nat.le_refl _) (by omega) (by omega) (by omega) HJ2 HV2.out HS2.out HCu7.out
        rw [Nat.zero_add, show en + k - (j + k) = en - j by omega] at Z
        refine Z.mono ?_
        rintro e w8 ⟨rfl, hb8⟩
        clear Z
        have T1 : Text w8 (some ⟨tb, j, none⟩) (en - j) (fun x => f (j + x)) := fun _ => ⟨tb, j, rfl, by have := hb8.size; omega, fun x hx => by
          have h := HCt7.out (j + x) (by omega)
          rw [Nat.zero_add] at h
          exact (hb8.cell (show tb < _ by omega)).trans h⟩
        have T2 : Text w8 (some ⟨H, j + k, none⟩) (en - j) (fun x => T.getD (j + k + x) 0) := fun _ => ⟨H, j + k, rfl, by have := hb8.size; omega, fun x hx => by
          have h := HCu7.out (j + k + x) (by omega)
          rw [Nat.zero_add] at h
          exact (hb8.cell (show H < _ by omega)).trans h⟩
        have HEq : Hid (∀ x, x < en - j → T.getD (j + k + x) 0 = f (j + x)) := fun x hx => by
          have h := HSh.out (j + x) (by omega) (by omega)
          rw [show j + x + k = j + k + x by omega] at h
          exact h
        have hfin : Below w.heap.size w w8 := by
          have x1 := HTB.out
          exact ((hbel3.trans (B6.mono (by omega))).trans (hb7.mono (by omega))).trans (hb8.mono (by omega))
        clear HCt7 HCu7 HV HS HV2 HS2 HJ HJ2 HSh
        go_wp2_with fail
        refine (equal_same _ _ (en - j) _ _ _ _ w8 (by omega) T1 T2 HEq.out).mono ?_
        rintro e w9 ⟨rfl, q9, rfl⟩
        clear T1 T2
        go_wp2_with fail
        go_ret
        exact ⟨rfl, below_drawn hfin q9⟩

theorem lawSpace_walk (a0 : Option Addr) (len0 cap0 : Nat) (z0 : List Int) (a1 : Int) (a2 : Option Addr) (len2 cap2 : Nat) (z2 : List Int) (w : World) (w0 : Rowed w a0 len0 cap0 z0) (w2 : Rowed w a2 len2 cap2 z2) :
    Calls Try.prog 4 #[.slice a0 len0 cap0, .int .i64 a1, .slice a2 len2 cap2] w fun e w' => e = .returned (.bool true) ∧ Below w.heap.size w w' := by
  have hle := w0.le
  have hle2 := w2.le
  by_cases hbig : 1048576 < len0 + len2
  · go_enter Try.func4, Try.ntmps4
    go_wp2_with fail
    refine (zzBytes13_no a0 a2 len0 len2 cap0 cap2 a1 w hbig hle hle2).mono ?_
    rintro e w' ⟨rfl, rfl⟩
    go_wp2_with fail
    go_ret
    exact ⟨rfl, Below.refl _ _⟩
  · by_cases hin : 0 ≤ a1 ∧ a1 ≤ len0
    · obtain ⟨h1, h2⟩ := hin
      by_cases hz : len0 = 0
      · subst hz
        obtain rfl : a1 = 0 := by omega
        go_enter Try.func4, Try.ntmps4
        go_wp2_with fail
        refine (zzBytes13 a0 a2 0 len2 cap0 cap2 0 w (by omega)).mono ?_
        rintro e w' ⟨rfl, rfl⟩
        go_wp2_with fail
        refine (premise_empty a0 cap0 w').mono ?_
        rintro e w1 ⟨rfl, rfl⟩
        go_wp2_with fail
        go_ret
        exact ⟨rfl, Below.refl _ _⟩
      · obtain ⟨b, off, f, rfl, hb, hcell, hf⟩ := w0.pos (by omega)
        obtain ⟨i, rfl⟩ : ∃ i : Nat, a1 = i := ⟨a1.toNat, by omega⟩
        obtain ⟨g, hT, hg⟩ := w2.text
        refine lawSpace_main b off len0 cap0 i a2 len2 cap2 f g w (by omega) (by omega) hb hf hg hcell hT ?_
        intro e
        rcases w2 with ⟨_, h, _⟩ | ⟨x, hx, _⟩
        · exact h
        · rw [e] at hx; cases hx
    · go_enter Try.func4, Try.ntmps4
      go_wp2_with fail
      refine (zzBytes13 a0 a2 len0 len2 cap0 cap2 a1 w (by omega)).mono ?_
      rintro e w' ⟨rfl, rfl⟩
      by_cases h1 : a1 < 0
      · go_wp2_with fail
        go_ret
        exact ⟨rfl, Below.refl _ _⟩
      · go_wp2_with fail
        go_ret
        exact ⟨rfl, Below.refl _ _⟩
end Go.Proofs.Qxb6600009a
