import Derived.Test.Qxb6600009aScalar
namespace Go.Proofs.Qxb6600009a
open Go.RowKit Plain

set_option maxHeartbeats 1000000 in
set_option maxRecDepth 10000 in
theorem array_any (b off n cap i0 : Nat) (f : Nat → Int) (w : World) (hn : n ≤ 4194304) (hi0 : i0 < n) (hc0 : f i0 = 91)
    (hcell : ∀ k, k < n → w.cell? ⟨b, off + k, none⟩ = some (.int .u8 (f k)))
    (ih : ∀ (j : Nat) (q : Nat), i0 < j → j ≤ n → Calls Try.prog 23 #[.slice (some ⟨b, off, none⟩) n cap, .int .i64 j] (w.drewN q) (Got (w.drewN q) (VOK f n j))) :
    Calls Try.prog 34 #[.slice (some ⟨b, off, none⟩) n cap, .int .i64 i0] w (Got w (VOK f n i0)) := by
  have HC : Hid (∀ k, k < n → w.cell? ⟨b, off + k, none⟩ = some (.int .u8 (f k))) := hcell
  have IH : Hid (∀ (j : Nat) (q : Nat), i0 < j → j ≤ n → Calls Try.prog 23 #[.slice (some ⟨b, off, none⟩) n cap, .int .i64 j] (w.drewN q) (Got (w.drewN q) (VOK f n j))) := ih
  have H0 : Hid (f i0 = 91 ∨ f i0 = 123) := .inl hc0
  clear hcell ih hc0
  go_enter Try.func34, Try.ntmps34
  go_wp2_with fail
  refine (skipWS_any b off n cap (i0 + 1) f w hn (by omega) HC.out).mono ?_
  rintro e w' ⟨rfl, hw⟩
  obtain rfl : w = w' := hw.symm
  have hI : Hid (Inside f n i0 (ws f n (i0 + 1))) := (Inside.start hi0).ws
  obtain ⟨j, hj⟩ : ∃ j, j = ws f n (i0 + 1) := ⟨_, rfl⟩
  rw [← hj] at hI ⊢
  clear hj
  have hj1 := hI.out.1
  have hj2 := hI.out.2.1
  by_cases hjn : j < n
  · have c1 := HC.out j hjn
    by_cases h93 : f j = 93
    · have t : (f j == 93) = true := by simpa using h93
      have HV : Hid (VOK f n i0 (j + 1)) := hI.out.close H0.out hjn (.inl h93)
      clear h93 IH
      go_wp2_with fail
      go_ret2
      exact Got.yes' (en := j + 1) (by omega) HV
    · have t : (f j == 93) = false := by simpa using h93
      clear h93
      go_wp2_with fail
      clear c1 t
      go_loopw [1] (fun v wr => ∃ p q : Nat, v = .int .i64 p ∧ i0 < p ∧ p ≤ n ∧ wr = w.drewN q ∧ Hid (Inside f n i0 p)) (fun v _ => n - (intOf v).toNat)
      case atStart => exact ⟨j, 0, rfl, by omega, by omega, rfl, hI⟩
      case round =>
        obtain ⟨p, q, rfl, hp0, hp1, rfl, hI2⟩ := hrel
        by_cases hpn : p < n
        · go_wp2_with fail
          refine (IH.out p q hp0 hp1).mono ?_
          rintro e w' ⟨q2, rfl, rfl | ⟨en, rfl, hV⟩⟩
          · clear IH
            go_wp2_with fail
            go_ret2
            exact ⟨_, rfl, .inl rfl⟩
          · have HV : Hid (VOK f n p en) := hV
            have he1 := hV.1
            have he2 := hV.2.1
            have hI3 : Hid (Inside f n i0 en) := hI2.out.value hV
            clear hV
            go_wp2_with fail
            refine (skipWS_any b off n cap en f _ hn he2 (by exact HC.out)).mono ?_
            rintro e w' ⟨rfl, rfl⟩
            have hI4 : Hid (Inside f n i0 (ws f n en)) := hI3.out.ws
            have hge := ws_ge f he2
            obtain ⟨x, hx⟩ : ∃ x, x = ws f n en := ⟨_, rfl⟩
            rw [← hx] at hI4 hge ⊢
            obtain ⟨hx1, hx2⟩ := hge
            clear hx hI3
            by_cases hxn : x < n
            · have c2 := HC.out x hxn
              by_cases h93 : f x = 93
              · have t : (f x == 93) = true := by simpa using h93
                have HV2 : Hid (VOK f n i0 (x + 1)) := hI4.out.close H0.out hxn (.inl h93)
                clear h93 IH
                go_wp2_with fail
                go_ret2
                exact ⟨_, rfl, .inr ⟨x + 1, by simp, HV2⟩⟩
              · have t : (f x == 93) = false := by simpa using h93
                clear h93
                by_cases h44 : f x = 44
                · have t2 : (f x != 44) = false := by simpa using h44
                  have hI5 : Hid (Inside f n i0 (x + 1)) := hI4.out.other hxn (by unfold still; omega)
                  clear h44
                  go_wp2_with fail
                  refine (skipWS_any b off n cap (x + 1) f _ hn (by omega) (by exact HC.out)).mono ?_
                  rintro e w' ⟨rfl, rfl⟩
                  have hI6 : Hid (Inside f n i0 (ws f n (x + 1))) := hI5.out.ws
                  have hge := ws_ge f (show x + 1 ≤ n by omega)
                  obtain ⟨y, hy⟩ : ∃ y, y = ws f n (x + 1) := ⟨_, rfl⟩
                  rw [← hy] at hI6 hge ⊢
                  obtain ⟨hy1, hy2⟩ := hge
                  clear hy hI5 hI4
                  go_wp2_with fail
                  go_roundw
                  case rel => exact ⟨y, _, rfl, by omega, hy2, rfl, hI6⟩
                  case measure => simp [intOf]; omega
                · have t2 : (f x != 44) = true := by simpa using h44
                  clear h44 IH
                  go_wp2_with fail
                  go_ret2
                  exact ⟨_, rfl, .inl rfl⟩
            · clear IH
              go_wp2_with fail
              go_ret2
              exact ⟨_, rfl, .inl rfl⟩
        · go_wp2_with fail
          go_ret2
          exact ⟨q, rfl, .inl rfl⟩
  · clear IH
    go_wp2_with fail
    refine wp_loop_rounds 1 ?_
    rw [rounds_succ]
    go_wp2_with fail
    go_ret2
    exact Got.no

set_option maxHeartbeats 1000000 in
set_option maxRecDepth 10000 in
theorem object_any (b off n cap i0 : Nat) (f : Nat → Int) (w : World) (hn : n ≤ 4194304) (hi0 : i0 < n) (hc0 : f i0 = 123) (hf : ∀ k, 0 ≤ f k ∧ f k ≤ 255)
    (hcell : ∀ k, k < n → w.cell? ⟨b, off + k, none⟩ = some (.int .u8 (f k)))
    (ih : ∀ (j : Nat) (q : Nat), i0 < j → j ≤ n → Calls Try.prog 23 #[.slice (some ⟨b, off, none⟩) n cap, .int .i64 j] (w.drewN q) (Got (w.drewN q) (VOK f n j))) :
    Calls Try.prog 35 #[.slice (some ⟨b, off, none⟩) n cap, .int .i64 i0] w (Got w (VOK f n i0)) := by
  have HC : Hid (∀ k, k < n → w.cell? ⟨b, off + k, none⟩ = some (.int .u8 (f k))) := hcell
  have HF : Hid (∀ k, 0 ≤ f k ∧ f k ≤ 255) := hf
  have IH : Hid (∀ (j : Nat) (q : Nat), i0 < j → j ≤ n → Calls Try.prog 23 #[.slice (some ⟨b, off, none⟩) n cap, .int .i64 j] (w.drewN q) (Got (w.drewN q) (VOK f n j))) := ih
  have H0 : Hid (f i0 = 91 ∨ f i0 = 123) := .inr hc0
  clear hcell ih hc0 hf
  go_enter Try.func35, Try.ntmps35
  go_wp2_with fail
  refine (skipWS_any b off n cap (i0 + 1) f w hn (by omega) HC.out).mono ?_
  rintro e w' ⟨rfl, hw⟩
  obtain rfl : w = w' := hw.symm
  have hI : Hid (Inside f n i0 (ws f n (i0 + 1))) := (Inside.start hi0).ws
  obtain ⟨j, hj⟩ : ∃ j, j = ws f n (i0 + 1) := ⟨_, rfl⟩
  rw [← hj] at hI ⊢
  clear hj
  have hj1 := hI.out.1
  have hj2 := hI.out.2.1
  by_cases hjn : j < n
  · have c1 := HC.out j hjn
    by_cases h93 : f j = 125
    · have t : (f j == 125) = true := by simpa using h93
      have HV : Hid (VOK f n i0 (j + 1)) := hI.out.close H0.out hjn (.inr h93)
      clear h93 IH
      go_wp2_with fail
      go_ret2
      exact Got.yes' (en := j + 1) (by omega) HV
    · have t : (f j == 125) = false := by simpa using h93
      clear h93
      go_wp2_with fail
      clear c1 t
      go_loopw [1] (fun v wr => ∃ p q : Nat, v = .int .i64 p ∧ i0 < p ∧ p ≤ n ∧ wr = w.drewN q ∧ Hid (Inside f n i0 p)) (fun v _ => n - (intOf v).toNat)
      case atStart => exact ⟨j, 0, rfl, by omega, by omega, rfl, hI⟩
      case round =>
        obtain ⟨p, q, rfl, hp0, hp1, rfl, hI2⟩ := hrel
        by_cases hpn : p < n
        · go_wp2_with fail
          refine (string_any b off n cap p f _ hn hp1 HF.out (by exact HC.out)).mono ?_
          rintro e w' ⟨q2, rfl, rfl | ⟨en, rfl, he1, he2, he3, he4⟩⟩
          · clear IH
            go_wp2_with fail
            go_ret2
            exact ⟨_, rfl, .inl rfl⟩
          · have hI3 : Hid (Inside f n i0 en) := hI2.out.value ⟨he1, he2, .inl ⟨he3, he4⟩⟩
            clear he3 he4
            go_wp2_with fail
            refine (skipWS_any b off n cap en f _ hn he2 (by exact HC.out)).mono ?_
            rintro e w' ⟨rfl, rfl⟩
            have hI4 : Hid (Inside f n i0 (ws f n en)) := hI3.out.ws
            have hge := ws_ge f he2
            obtain ⟨x, hx⟩ : ∃ x, x = ws f n en := ⟨_, rfl⟩
            rw [← hx] at hI4 hge ⊢
            obtain ⟨hx1, hx2⟩ := hge
            clear hx hI3
            by_cases hxn : x < n
            · have c2 := HC.out x hxn
              by_cases h58 : f x = 58
              · have t : (f x != 58) = false := by simpa using h58
                have hI5 : Hid (Inside f n i0 (x + 1)) := hI4.out.other hxn (by unfold still; omega)
                clear h58 hI4
                go_wp2_with fail
                refine (skipWS_any b off n cap (x + 1) f _ hn (by omega) (by exact HC.out)).mono ?_
                rintro e w' ⟨rfl, rfl⟩
                have hI6 : Hid (Inside f n i0 (ws f n (x + 1))) := hI5.out.ws
                have hge := ws_ge f (show x + 1 ≤ n by omega)
                obtain ⟨y, hy⟩ : ∃ y, y = ws f n (x + 1) := ⟨_, rfl⟩
                rw [← hy] at hI6 hge ⊢
                obtain ⟨hy1, hy2⟩ := hge
                clear hy hI5
                go_wp2_with fail
                refine (IH.out y _ (by omega) hy2).mono ?_
                rintro e w' ⟨q3, rfl, rfl | ⟨en2, rfl, hV⟩⟩
                · clear IH
                  go_wp2_with fail
                  go_ret2
                  exact ⟨_, rfl, .inl rfl⟩
                · have hv1 := hV.1
                  have hv2 := hV.2.1
                  have hI7 : Hid (Inside f n i0 en2) := hI6.out.value hV
                  clear hV hI6
                  go_wp2_with fail
                  refine (skipWS_any b off n cap en2 f _ hn hv2 (by exact HC.out)).mono ?_
                  rintro e w' ⟨rfl, rfl⟩
                  have hI8 : Hid (Inside f n i0 (ws f n en2)) := hI7.out.ws
                  have hge := ws_ge f hv2
                  obtain ⟨z, hz⟩ : ∃ z, z = ws f n en2 := ⟨_, rfl⟩
                  rw [← hz] at hI8 hge ⊢
                  obtain ⟨hz1, hz2⟩ := hge
                  clear hz hI7
                  by_cases hzn : z < n
                  · have c3 := HC.out z hzn
                    by_cases h93 : f z = 125
                    · have t3 : (f z == 125) = true := by simpa using h93
                      have HV2 : Hid (VOK f n i0 (z + 1)) := hI8.out.close H0.out hzn (.inr h93)
                      clear h93 IH
                      go_wp2_with fail
                      go_ret2
                      exact ⟨_, rfl, .inr ⟨z + 1, by simp, HV2⟩⟩
                    · have t3 : (f z == 125) = false := by simpa using h93
                      clear h93
                      by_cases h44 : f z = 44
                      · have t4 : (f z != 44) = false := by simpa using h44
                        have hI9 : Hid (Inside f n i0 (z + 1)) := hI8.out.other hzn (by unfold still; omega)
                        clear h44
                        go_wp2_with fail
                        refine (skipWS_any b off n cap (z + 1) f _ hn (by omega) (by exact HC.out)).mono ?_
                        rintro e w' ⟨rfl, rfl⟩
                        have hIa : Hid (Inside f n i0 (ws f n (z + 1))) := hI9.out.ws
                        have hge := ws_ge f (show z + 1 ≤ n by omega)
                        obtain ⟨v, hv⟩ : ∃ v, v = ws f n (z + 1) := ⟨_, rfl⟩
                        rw [← hv] at hIa hge ⊢
                        obtain ⟨hv1, hv2⟩ := hge
                        clear hv hI9 hI8
                        go_wp2_with fail
                        go_roundw
                        case rel => exact ⟨v, _, rfl, by omega, hv2, rfl, hIa⟩
                        case measure => simp [intOf]; omega
                      · have t4 : (f z != 44) = true := by simpa using h44
                        clear h44 IH
                        go_wp2_with fail
                        go_ret2
                        exact ⟨_, rfl, .inl rfl⟩
                  · clear IH
                    go_wp2_with fail
                    go_ret2
                    exact ⟨_, rfl, .inl rfl⟩
              · have t : (f x != 58) = true := by simpa using h58
                clear h58 IH
                go_wp2_with fail
                go_ret2
                exact ⟨_, rfl, .inl rfl⟩
            · clear IH
              go_wp2_with fail
              go_ret2
              exact ⟨_, rfl, .inl rfl⟩
        · go_wp2_with fail
          go_ret2
          exact ⟨q, rfl, .inl rfl⟩
  · clear IH
    go_wp2_with fail
    refine wp_loop_rounds 1 ?_
    rw [rounds_succ]
    go_wp2_with fail
    go_ret2
    exact Got.no
end Go.Proofs.Qxb6600009a
