import Derived.Test.Qxb6600009aNest
namespace Go.Proofs.Qxb6600009a
open Go.RowKit Plain

theorem numC.plain {c : Int} (h : numC c) : plainC c := by unfold numC at h; unfold plainC; omega
theorem VOK.num {f : Nat → Int} {n i e : Nat} (h : i < e) (hN : Num f n i e) : VOK f n i e := ⟨h, hN.2.1, .inr (.inr fun k a b => (hN.2.2 k a b).plain)⟩
theorem VOK.lit {f : Nat → Int} {n i e : Nat} {s : ByteArray} (h0 : 0 < s.size) (hs : ∀ m (h : m < s.size), plainC (s[m].toNat : Int)) (he : e = i + s.size) (hn : e ≤ n) (hf : ∀ k (h : k < s.size), f (i + k) = (s[k].toNat : Int)) : VOK f n i e := by
  refine ⟨by omega, hn, .inr (.inr fun k a b => ?_)⟩
  have h := hf (k - i) (by omega)
  rw [show i + (k - i) = k by omega] at h
  rw [h]
  exact hs _ _
def strTrue : ByteArray := ⟨#[116, 114, 117, 101]⟩
def strFalse : ByteArray := ⟨#[102, 97, 108, 115, 101]⟩
def strNull : ByteArray := ⟨#[110, 117, 108, 108]⟩
theorem lit_true : ∀ m (h : m < strTrue.size), plainC (strTrue[m].toNat : Int) := by
  intro m h
  have h4 : m < 4 := h
  match m, h4 with
  | 0, _ => show plainC (116 : Int); unfold plainC; omega
  | 1, _ => show plainC (114 : Int); unfold plainC; omega
  | 2, _ => show plainC (117 : Int); unfold plainC; omega
  | 3, _ => show plainC (101 : Int); unfold plainC; omega
theorem lit_false : ∀ m (h : m < strFalse.size), plainC (strFalse[m].toNat : Int) := by
  intro m h
  have h4 : m < 5 := h
  match m, h4 with
  | 0, _ => show plainC (102 : Int); unfold plainC; omega
  | 1, _ => show plainC (97 : Int); unfold plainC; omega
  | 2, _ => show plainC (108 : Int); unfold plainC; omega
  | 3, _ => show plainC (115 : Int); unfold plainC; omega
  | 4, _ => show plainC (101 : Int); unfold plainC; omega
theorem lit_null : ∀ m (h : m < strNull.size), plainC (strNull[m].toNat : Int) := by
  intro m h
  have h4 : m < 4 := h
  match m, h4 with
  | 0, _ => show plainC (110 : Int); unfold plainC; omega
  | 1, _ => show plainC (117 : Int); unfold plainC; omega
  | 2, _ => show plainC (108 : Int); unfold plainC; omega
  | 3, _ => show plainC (108 : Int); unfold plainC; omega

set_option maxHeartbeats 1000000 in
set_option maxRecDepth 10000 in
theorem value_any (b off n cap : Nat) (f : Nat → Int) (hn : n ≤ 4194304) (hf : ∀ k, 0 ≤ f k ∧ f k ≤ 255) : ∀ (F i : Nat) (w : World), n - i ≤ F → i ≤ n →
    (∀ k, k < n → w.cell? ⟨b, off + k, none⟩ = some (.int .u8 (f k))) →
    Calls Try.prog 23 #[.slice (some ⟨b, off, none⟩) n cap, .int .i64 i] w (Got w (VOK f n i)) := by
  intro F
  induction F with
  | zero =>
    intro i w hF hi hcell
    have hlt : n ≤ i := by omega
    clear hcell hf
    go_enter Try.func23, Try.ntmps23
    go_wp2_with fail
    go_ret2
    exact Got.no
  | succ F ihF =>
    intro i w hF hi hcell
    by_cases hlt : i < n
    · have HC : Hid (∀ k, k < n → w.cell? ⟨b, off + k, none⟩ = some (.int .u8 (f k))) := hcell
      have HF : Hid (∀ k, 0 ≤ f k ∧ f k ≤ 255) := hf
      have IH : Hid (∀ (j : Nat) (q : Nat), i < j → j ≤ n → Calls Try.prog 23 #[.slice (some ⟨b, off, none⟩) n cap, .int .i64 j] (w.drewN q) (Got (w.drewN q) (VOK f n j))) :=
        fun j q h1 h2 => ihF j (w.drewN q) (by omega) h2 (by exact hcell)
      have hc := hcell i hlt
      have hb := hf i
      clear hcell hf ihF hF
      obtain ⟨hb1, hb2⟩ := hb
      obtain ⟨c, hcd⟩ : ∃ c, c = f i := ⟨_, rfl⟩
      rw [← hcd] at hc hb1 hb2
      have HD : Hid (c = f i) := hcd
      clear hcd
      by_cases c34 : c = 34
      · subst c34
        go_enter Try.func23, Try.ntmps23
        go_wp2_with fail
        refine (string_any b off n cap i f w hn hi HF.out (by exact HC.out)).mono ?_
        rintro e w' ⟨q2, rfl, rfl | ⟨en, rfl, hv⟩⟩
        · go_wp2_with fail
          go_ret2
          exact ⟨_, rfl, .inl rfl⟩
        · have HV : Hid (VOK f n i en) := ⟨hv.1, hv.2.1, .inl hv.2.2⟩
          clear hv
          go_wp2_with fail
          go_ret2
          exact ⟨_, rfl, .inr ⟨en, rfl, HV⟩⟩
      · have k34 : (c == 34) = false := by simpa using c34
        by_cases c91 : c = 91
        · subst c91
          go_enter Try.func23, Try.ntmps23
          go_wp2_with fail
          refine (array_any b off n cap i f w hn hlt HD.out.symm (by exact HC.out) IH.out).mono ?_
          rintro e w' ⟨q2, rfl, rfl | ⟨en, rfl, hv⟩⟩
          · go_wp2_with fail
            go_ret2
            exact ⟨_, rfl, .inl rfl⟩
          · have HV : Hid (VOK f n i en) := hv
            clear hv
            go_wp2_with fail
            go_ret2
            exact ⟨_, rfl, .inr ⟨en, rfl, HV⟩⟩
        · have k91 : (c == 91) = false := by simpa using c91
          by_cases c123 : c = 123
          · subst c123
            go_enter Try.func23, Try.ntmps23
            go_wp2_with fail
            refine (object_any b off n cap i f w hn hlt HD.out.symm HF.out (by exact HC.out) IH.out).mono ?_
            rintro e w' ⟨q2, rfl, rfl | ⟨en, rfl, hv⟩⟩
            · go_wp2_with fail
              go_ret2
              exact ⟨_, rfl, .inl rfl⟩
            · have HV : Hid (VOK f n i en) := hv
              clear hv
              go_wp2_with fail
              go_ret2
              exact ⟨_, rfl, .inr ⟨en, rfl, HV⟩⟩
          · have k123 : (c == 123) = false := by simpa using c123
            by_cases c116 : c = 116
            · subst c116
              go_enter Try.func23, Try.ntmps23
              go_wp2_with fail
              refine (literal_any b off n cap i strTrue f w hn hi (by decide) (by exact HC.out)).mono ?_
              rintro e w' ⟨q2, rfl, rfl | ⟨en, rfl, hv⟩⟩
              · go_wp2_with fail
                go_ret2
                exact ⟨_, rfl, .inl rfl⟩
              · have HV : Hid (VOK f n i en) := VOK.lit (by decide) lit_true hv.1 hv.2.1 hv.2.2
                clear hv
                go_wp2_with fail
                go_ret2
                exact ⟨_, rfl, .inr ⟨en, rfl, HV⟩⟩
            · have k116 : (c == 116) = false := by simpa using c116
              by_cases c102 : c = 102
              · subst c102
                go_enter Try.func23, Try.ntmps23
                go_wp2_with fail
                refine (literal_any b off n cap i strFalse f w hn hi (by decide) (by exact HC.out)).mono ?_
                rintro e w' ⟨q2, rfl, rfl | ⟨en, rfl, hv⟩⟩
                · go_wp2_with fail
                  go_ret2
                  exact ⟨_, rfl, .inl rfl⟩
                · have HV : Hid (VOK f n i en) := VOK.lit (by decide) lit_false hv.1 hv.2.1 hv.2.2
                  clear hv
                  go_wp2_with fail
                  go_ret2
                  exact ⟨_, rfl, .inr ⟨en, rfl, HV⟩⟩
              · have k102 : (c == 102) = false := by simpa using c102
                by_cases c110 : c = 110
                · subst c110
                  go_enter Try.func23, Try.ntmps23
                  go_wp2_with fail
                  refine (literal_any b off n cap i strNull f w hn hi (by decide) (by exact HC.out)).mono ?_
                  rintro e w' ⟨q2, rfl, rfl | ⟨en, rfl, hv⟩⟩
                  · go_wp2_with fail
                    go_ret2
                    exact ⟨_, rfl, .inl rfl⟩
                  · have HV : Hid (VOK f n i en) := VOK.lit (by decide) lit_null hv.1 hv.2.1 hv.2.2
                    clear hv
                    go_wp2_with fail
                    go_ret2
                    exact ⟨_, rfl, .inr ⟨en, rfl, HV⟩⟩
                · have k110 : (c == 110) = false := by simpa using c110
                  by_cases c45 : c = 45
                  · subst c45
                    go_enter Try.func23, Try.ntmps23
                    go_wp2_with fail
                    refine (number_any b off n cap i f w hn hlt (by exact HC.out)).mono ?_
                    rintro e w' ⟨q2, rfl, rfl | ⟨en, rfl, hv⟩⟩
                    · go_wp2_with fail
                      go_ret2
                      exact ⟨_, rfl, .inl rfl⟩
                    · have HV : Hid (VOK f n i en) := VOK.num hv.1 hv.2
                      clear hv
                      go_wp2_with fail
                      go_ret2
                      exact ⟨_, rfl, .inr ⟨en, rfl, HV⟩⟩
                  · have k45 : (c == 45) = false := by simpa using c45
                    by_cases d1 : 48 ≤ c
                    · by_cases d2 : c ≤ 57
                      · clear c34 c91 c123 c116 c102 c110 c45
                        go_enter Try.func23, Try.ntmps23
                        go_wp2_with fail
                        refine (number_any b off n cap i f w hn hlt (by exact HC.out)).mono ?_
                        rintro e w' ⟨q2, rfl, rfl | ⟨en, rfl, hv⟩⟩
                        · go_wp2_with fail
                          go_ret2
                          exact ⟨_, rfl, .inl rfl⟩
                        · have HV : Hid (VOK f n i en) := VOK.num hv.1 hv.2
                          clear hv
                          go_wp2_with fail
                          go_ret2
                          exact ⟨_, rfl, .inr ⟨en, rfl, HV⟩⟩
                      · clear c34 c91 c123 c116 c102 c110 c45
                        go_enter Try.func23, Try.ntmps23
                        go_wp2_with fail
                        go_ret2
                        exact Got.no
                    · clear c34 c91 c123 c116 c102 c110 c45
                      go_enter Try.func23, Try.ntmps23
                      go_wp2_with fail
                      go_ret2
                      exact Got.no
    · clear hcell hf ihF
      go_enter Try.func23, Try.ntmps23
      go_wp2_with fail
      go_ret2
      exact Got.no
end Go.Proofs.Qxb6600009a
