import Derived.Test.Qxb6600009aPlain
/- PLAIN: b1Escape as a function on lists of bytes. -/
namespace Go.Proofs.Qxb6600009a.Plain

def hexd (v : Int) : Int := if v < 10 then 48 + v else 87 + v
def esc1 (c : Int) : List Int := if c = 34 ∨ c = 92 then [92, c] else if c < 32 then [92, 117, 48, 48, hexd (c / 16), hexd (c % 16)] else [c]
def esc : List Int → List Int
  | [] => []
  | c :: l => esc1 c ++ esc l

theorem esc_append (l m : List Int) : esc (l ++ m) = esc l ++ esc m := by
  induction l with
  | nil => rfl
  | cons c l ih => simp [esc, ih]
theorem esc1_mark {c : Int} (h : c = 34 ∨ c = 92) : esc1 c = [92, c] := by rw [esc1, if_pos h]
theorem esc1_low {c : Int} (h0 : 0 ≤ c) (h : c < 32) : esc1 c = [92, 117, 48, 48, hexd (c / 16), hexd (c % 16)] := by rw [esc1, if_neg (by omega), if_pos h]
theorem esc1_plain {c : Int} (h : ¬ (c = 34 ∨ c = 92)) (h2 : ¬ c < 32) : esc1 c = [c] := by rw [esc1, if_neg h, if_neg h2]
theorem esc1_len (c : Int) : 1 ≤ (esc1 c).length ∧ (esc1 c).length ≤ 6 := by
  unfold esc1; split
  · simp
  · split <;> simp
theorem esc_len (l : List Int) : l.length ≤ (esc l).length ∧ (esc l).length ≤ 6 * l.length := by
  induction l with
  | nil => simp [esc]
  | cons c l ih => have := esc1_len c; simp only [esc, List.length_append, List.length_cons]; omega
theorem take_snoc {l : List Int} {k : Nat} (h : k < l.length) : l.take (k + 1) = l.take k ++ [l[k]] := List.take_succ_eq_append_getElem h
theorem esc_take {l : List Int} {k : Nat} (h : k < l.length) : esc (l.take (k + 1)) = esc (l.take k) ++ esc1 l[k] := by
  rw [take_snoc h, esc_append]; simp [esc]
theorem esc_split {l : List Int} {k : Nat} (h : k < l.length) : esc l = esc (l.take k) ++ (esc1 l[k] ++ esc (l.drop (k + 1))) := by
  conv => lhs; rw [← List.take_append_drop k l, List.drop_eq_getElem_cons h, esc_append]
  rfl
theorem esc_at {l : List Int} {k d : Nat} {u : Int} (h : k < l.length) (hd : (esc1 l[k])[d]? = some u) : (esc l)[(esc (l.take k)).length + d]? = some u := by
  have hlt : d < (esc1 l[k]).length := (List.getElem?_eq_some_iff.1 hd).1
  rw [esc_split h, List.getElem?_append_right (by omega), Nat.add_sub_cancel_left, List.getElem?_append_left hlt, hd]
theorem esc_room {l : List Int} {k : Nat} (h : k < l.length) : (esc (l.take k)).length + (esc1 l[k]).length ≤ (esc l).length := by
  conv => rhs; rw [esc_split h]
  simp only [List.length_append]; omega

theorem hexd_two (v : Int) (h : 0 ≤ v) (h2 : v < 16) : (48 ≤ hexd v ∧ hexd v ≤ 57) ∨ (97 ≤ hexd v ∧ hexd v ≤ 102) := by
  unfold hexd; split <;> omega

/-- skipString over an escaped body and its closing quote. -/
theorem sk_esc (g : Nat → Int) (n : Nat) : ∀ (l : List Int) (i : Nat), (∀ c ∈ l, 0 ≤ c ∧ c ≤ 255) → (∀ d u, (esc l ++ [34])[d]? = some u → g (i + d) = u ∧ i + d < n) → sk g n i = i + (esc l).length + 1 := by
  intro l
  induction l with
  | nil =>
    intro i _ h
    have := h 0 34 rfl
    simp only [Nat.add_zero] at this
    rw [sk_quote this.2 this.1]; rfl
  | cons c l ih =>
    intro i hb h
    have hc := hb c (by simp)
    have hl : ∀ c ∈ l, 0 ≤ c ∧ c ≤ 255 := fun x hx => hb x (by simp [hx])
    have hrest : sk g n (i + (esc1 c).length) = i + (esc1 c).length + (esc l).length + 1 := by
      refine ih _ hl fun d u hd => ?_
      have := h ((esc1 c).length + d) u (by rw [esc, List.append_assoc, List.getElem?_append_right (by omega), Nat.add_sub_cancel_left]; exact hd)
      rw [← Nat.add_assoc] at this
      exact this
    have hat : ∀ d u, (esc1 c)[d]? = some u → g (i + d) = u ∧ i + d < n := by
      intro d u hd
      have hlt : d < (esc1 c).length := (List.getElem?_eq_some_iff.1 hd).1
      exact h d u (by rw [esc, List.append_assoc, List.getElem?_append_left hlt]; exact hd)
    have e : (esc (c :: l)).length = (esc1 c).length + (esc l).length := by simp [esc]
    rw [e]
    by_cases m : c = 34 ∨ c = 92
    · rw [esc1_mark m] at hrest hat ⊢
      have h0 := hat 0 92 rfl
      rw [Nat.add_zero] at h0
      rw [sk_back h0.2 h0.1]
      simp only [List.length_cons, List.length_nil] at hrest ⊢
      rw [hrest]; omega
    · by_cases lo : c < 32
      · have x1 := hexd_two (c / 16) (by omega) (by omega)
        have x2 := hexd_two (c % 16) (by omega) (by omega)
        rw [esc1_low hc.1 lo] at hrest hat ⊢
        have h0 := hat 0 92 rfl
        have h2 := hat 2 48 rfl
        have h3 := hat 3 48 rfl
        have h4 := hat 4 _ rfl
        have h5 := hat 5 _ rfl
        rw [Nat.add_zero] at h0
        rw [sk_back h0.2 h0.1, sk_other h2.2 (by omega) (by omega), sk_other h3.2 (by omega) (by omega), sk_other (i := i + 2 + 1 + 1) h4.2 (by rw [h4.1]; omega) (by rw [h4.1]; omega), sk_other (i := i + 2 + 1 + 1 + 1) h5.2 (by rw [h5.1]; omega) (by rw [h5.1]; omega)]
        simp only [List.length_cons, List.length_nil] at hrest ⊢
        rw [show i + 2 + 1 + 1 + 1 + 1 = i + (0 + 1 + 1 + 1 + 1 + 1 + 1) by omega, hrest]; omega
      · rw [esc1_plain m lo] at hrest hat ⊢
        have h0 := hat 0 c rfl
        rw [Nat.add_zero] at h0
        rw [sk_other h0.2 (by omega) (by omega)]
        simp only [List.length_cons, List.length_nil] at hrest ⊢
        rw [show i + 1 = i + (0 + 1) by omega, hrest]; omega
end Go.Proofs.Qxb6600009a.Plain
