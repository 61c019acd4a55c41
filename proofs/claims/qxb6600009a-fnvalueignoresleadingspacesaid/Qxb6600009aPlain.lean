/-
  PLAIN: the functions on bytes that the Go texts compute; no Go here. A text is 'f : Nat → Int' (its bytes) and 'n' (its length).
-/
namespace Go.Proofs.Qxb6600009a.Plain

/-- skipString's loop from i on: where the scanner stops. -/
def skF (f : Nat → Int) (n : Nat) : Nat → Nat → Nat
  | 0, i => i
  | F + 1, i => if i < n then (if f i = 92 then skF f n F (i + 2) else if f i = 34 then i + 1 else skF f n F (i + 1)) else i
def sk (f : Nat → Int) (n i : Nat) : Nat := skF f n (n - i) i

theorem skF_fuel (f : Nat → Int) (n : Nat) : ∀ F G i, n - i ≤ F → n - i ≤ G → skF f n F i = skF f n G i := by
  intro F
  induction F with
  | zero =>
    intro G i h _
    cases G with
    | zero => rfl
    | succ G => rw [skF, skF, if_neg (by omega)]
  | succ F ih =>
    intro G i h h'
    cases G with
    | zero => rw [skF, skF, if_neg (by omega)]
    | succ G => rw [skF, skF, ih G (i + 1) (by omega) (by omega), ih G (i + 2) (by omega) (by omega)]

theorem sk_eq (f : Nat → Int) (n i : Nat) : sk f n i = if i < n then (if f i = 92 then sk f n (i + 2) else if f i = 34 then i + 1 else sk f n (i + 1)) else i := by
  unfold sk
  by_cases h : i < n
  · obtain ⟨G, hG⟩ : ∃ G, n - i = G + 1 := ⟨n - i - 1, by omega⟩
    rw [hG, skF, if_pos h, if_pos h, skF_fuel f n G (n - (i + 1)) (i + 1) (by omega) (by omega), skF_fuel f n G (n - (i + 2)) (i + 2) (by omega) (by omega)]
  · rw [if_neg h, show n - i = 0 by omega, skF]
theorem sk_out {f : Nat → Int} {n i : Nat} (h : ¬ i < n) : sk f n i = i := by rw [sk_eq, if_neg h]
theorem sk_back {f : Nat → Int} {n i : Nat} (h : i < n) (c : f i = 92) : sk f n i = sk f n (i + 2) := by rw [sk_eq, if_pos h, if_pos c]
theorem sk_quote {f : Nat → Int} {n i : Nat} (h : i < n) (c : f i = 34) : sk f n i = i + 1 := by rw [sk_eq, if_pos h, if_neg (by omega), if_pos c]
theorem sk_other {f : Nat → Int} {n i : Nat} (h : i < n) (c : f i ≠ 92) (d : f i ≠ 34) : sk f n i = sk f n (i + 1) := by rw [sk_eq, if_pos h, if_neg c, if_neg d]

/-- It goes on, and no further than one past the end; one past the end only where the last byte is a backslash. -/
theorem sk_reach (f : Nat → Int) (n : Nat) : ∀ m i, n - i ≤ m → i ≤ n + 1 → i ≤ sk f n i ∧ sk f n i ≤ n + 1 ∧ (i ≤ n → sk f n i = n + 1 → f (n - 1) = 92) := by
  intro m
  induction m with
  | zero =>
    intro i h h2
    rw [sk_out (by omega)]
    exact ⟨by omega, by omega, fun _ _ => by omega⟩
  | succ m ih =>
    intro i h h2
    by_cases hi : i < n
    · by_cases c : f i = 92
      · rw [sk_back hi c]
        have r := ih (i + 2) (by omega) (by omega)
        refine ⟨by omega, r.2.1, fun _ e => ?_⟩
        by_cases h3 : i + 2 ≤ n
        · exact r.2.2 h3 e
        · rw [show n - 1 = i by omega]; exact c
      · by_cases d : f i = 34
        · rw [sk_quote hi d]; exact ⟨by omega, by omega, fun _ e => by omega⟩
        · rw [sk_other hi c d]
          have r := ih (i + 1) (by omega) (by omega)
          exact ⟨by omega, r.2.1, fun _ e => r.2.2 (by omega) e⟩
    · rw [sk_out hi]
      exact ⟨by omega, by omega, fun _ _ => by omega⟩

/-! ### b1QuoteEnd -/
/-- How many backslashes stand right ahead of j, none at or before a. -/
def bs (f : Nat → Int) (a : Nat) : Nat → Nat
  | 0 => 0
  | j + 1 => if a < j ∧ f j = 92 then bs f a j + 1 else 0
/-- b1QuoteEnd's outer loop from j on. -/
def qeF (f : Nat → Int) (n a : Nat) : Nat → Nat → Nat
  | 0, _ => if bs f a n % 2 = 1 then n + 1 else n
  | F + 1, j => if f j = 34 ∧ bs f a j % 2 = 0 then j + 1 else qeF f n a F (j + 1)
def qe (f : Nat → Int) (n a j : Nat) : Nat := qeF f n a (n - j) j
theorem qe_out {f : Nat → Int} {n a j : Nat} (h : ¬ j < n) : qe f n a j = if bs f a n % 2 = 1 then n + 1 else n := by
  unfold qe; rw [show n - j = 0 by omega, qeF]
theorem qe_in {f : Nat → Int} {n a j : Nat} (h : j < n) : qe f n a j = if f j = 34 ∧ bs f a j % 2 = 0 then j + 1 else qe f n a (j + 1) := by
  unfold qe
  obtain ⟨G, hG⟩ : ∃ G, n - j = G + 1 := ⟨n - j - 1, by omega⟩
  rw [hG, qeF, show n - (j + 1) = G by omega]

theorem sk_qe (f : Nat → Int) (n a : Nat) : ∀ m i, n - i ≤ m → a < i → i ≤ n → bs f a i % 2 = 0 → sk f n i = qe f n a i := by
  intro m
  induction m with
  | zero =>
    intro i h ha hn hb
    obtain rfl : i = n := by omega
    rw [sk_out (by omega), qe_out (by omega), if_neg (by omega)]
  | succ m ih =>
    intro i h ha hn hb
    by_cases hi : i < n
    · by_cases c : f i = 92
      · have b1 : bs f a (i + 1) = bs f a i + 1 := by rw [bs, if_pos ⟨ha, c⟩]
        rw [sk_back hi c, qe_in hi, if_neg (by omega)]
        by_cases h2 : i + 1 < n
        · rw [qe_in h2, if_neg (by omega)]
          refine ih (i + 2) (by omega) (by omega) (by omega) ?_
          rw [bs]
          by_cases c2 : a < i + 1 ∧ f (i + 1) = 92
          · rw [if_pos c2]; omega
          · rw [if_neg c2]
        · obtain rfl : n = i + 1 := by omega
          rw [qe_out h2, if_pos (by omega), sk_out (by omega)]
      · have b1 : bs f a (i + 1) = 0 := by rw [bs, if_neg (by omega)]
        by_cases d : f i = 34
        · rw [sk_quote hi d, qe_in hi, if_pos ⟨d, hb⟩]
        · rw [sk_other hi c d, qe_in hi, if_neg (by omega)]
          exact ih (i + 1) (by omega) (by omega) (by omega) (by omega)
    · obtain rfl : i = n := by omega
      rw [sk_out (by omega), qe_out (by omega), if_neg (by omega)]

theorem bs_first (f : Nat → Int) (a : Nat) : bs f a (a + 1) = 0 := by rw [bs, if_neg (by omega)]
/-- THE FIRST LAW's PLAIN PART. -/
theorem skip_is_quoteEnd (f : Nat → Int) (n a : Nat) (h : a < n) : sk f n (a + 1) = qe f n a (a + 1) :=
  sk_qe f n a (n - (a + 1)) (a + 1) (Nat.le_refl _) (by omega) (by omega) (by rw [bs_first])

/-! ### skipNested -/
theorem sk_ge (f : Nat → Int) (n i : Nat) (h : i ≤ n + 1) : i ≤ sk f n i ∧ sk f n i ≤ n + 1 := ⟨(sk_reach f n _ i (Nat.le_refl _) h).1, (sk_reach f n _ i (Nat.le_refl _) h).2.1⟩
/-- skipNested's loop at depth d from i on: where the scanner stops. -/
def nsF (f : Nat → Int) (n : Nat) : Nat → Int → Nat → Nat
  | 0, _, i => i
  | F + 1, d, i => if i < n then (if f i = 34 then nsF f n F d (sk f n (i + 1)) else if f i = 91 ∨ f i = 123 then nsF f n F (d + 1) (i + 1) else if f i = 93 ∨ f i = 125 then (if d - 1 = 0 then i + 1 else nsF f n F (d - 1) (i + 1)) else nsF f n F d (i + 1)) else i
def ns (f : Nat → Int) (n : Nat) (d : Int) (i : Nat) : Nat := nsF f n (n - i) d i

theorem nsF_fuel (f : Nat → Int) (n : Nat) : ∀ F G d i, n - i ≤ F → n - i ≤ G → nsF f n F d i = nsF f n G d i := by
  intro F
  induction F with
  | zero =>
    intro G d i h _
    cases G with
    | zero => rfl
    | succ G => rw [nsF, nsF, if_neg (by omega)]
  | succ F ih =>
    intro G d i h h'
    cases G with
    | zero => rw [nsF, nsF, if_neg (by omega)]
    | succ G =>
      by_cases hi : i < n
      · have hs := sk_ge f n (i + 1) (by omega)
        rw [nsF, nsF, ih G d (i + 1) (by omega) (by omega), ih G (d + 1) (i + 1) (by omega) (by omega), ih G (d - 1) (i + 1) (by omega) (by omega), ih G d (sk f n (i + 1)) (by omega) (by omega)]
      · rw [nsF, nsF, if_neg hi, if_neg hi]

theorem ns_eq (f : Nat → Int) (n : Nat) (d : Int) (i : Nat) : ns f n d i = if i < n then (if f i = 34 then ns f n d (sk f n (i + 1)) else if f i = 91 ∨ f i = 123 then ns f n (d + 1) (i + 1) else if f i = 93 ∨ f i = 125 then (if d - 1 = 0 then i + 1 else ns f n (d - 1) (i + 1)) else ns f n d (i + 1)) else i := by
  unfold ns
  by_cases h : i < n
  · obtain ⟨G, hG⟩ : ∃ G, n - i = G + 1 := ⟨n - i - 1, by omega⟩
    have hs := sk_ge f n (i + 1) (by omega)
    rw [hG, nsF, if_pos h, if_pos h, nsF_fuel f n G (n - (i + 1)) d (i + 1) (by omega) (by omega), nsF_fuel f n G (n - (i + 1)) (d + 1) (i + 1) (by omega) (by omega), nsF_fuel f n G (n - (i + 1)) (d - 1) (i + 1) (by omega) (by omega),
      nsF_fuel f n G (n - sk f n (i + 1)) d (sk f n (i + 1)) (by omega) (by omega)]
  · rw [if_neg h, show n - i = 0 by omega, nsF]
section
variable {f : Nat → Int} {n i : Nat} {d : Int}
theorem ns_out (h : ¬ i < n) : ns f n d i = i := by rw [ns_eq, if_neg h]
theorem ns_quote (h : i < n) (c : f i = 34) : ns f n d i = ns f n d (sk f n (i + 1)) := by rw [ns_eq, if_pos h, if_pos c]
theorem ns_open (h : i < n) (c : f i = 91 ∨ f i = 123) : ns f n d i = ns f n (d + 1) (i + 1) := by rw [ns_eq, if_pos h, if_neg (by omega), if_pos c]
theorem ns_last (h : i < n) (c : f i = 93 ∨ f i = 125) (e : d - 1 = 0) : ns f n d i = i + 1 := by rw [ns_eq, if_pos h, if_neg (by omega), if_neg (by omega), if_pos c, if_pos e]
theorem ns_shut (h : i < n) (c : f i = 93 ∨ f i = 125) (e : ¬ d - 1 = 0) : ns f n d i = ns f n (d - 1) (i + 1) := by rw [ns_eq, if_pos h, if_neg (by omega), if_neg (by omega), if_pos c, if_neg e]
theorem ns_other (h : i < n) (c0 : f i ≠ 34) (c1 : ¬ (f i = 91 ∨ f i = 123)) (c2 : ¬ (f i = 93 ∨ f i = 125)) : ns f n d i = ns f n d (i + 1) := by rw [ns_eq, if_pos h, if_neg c0, if_neg c1, if_neg c2]
end

theorem ns_reach (f : Nat → Int) (n : Nat) : ∀ m d i, n - i ≤ m → i ≤ n + 1 → i ≤ ns f n d i ∧ ns f n d i ≤ n + 1 ∧ (i < n → i < ns f n d i) ∧ (i ≤ n → ns f n d i = n + 1 → f (n - 1) = 92) := by
  intro m
  induction m with
  | zero =>
    intro d i h h2
    rw [ns_out (by omega)]
    exact ⟨by omega, by omega, fun _ => by omega, fun _ _ => by omega⟩
  | succ m ih =>
    intro d i h h2
    by_cases hi : i < n
    · by_cases c0 : f i = 34
      · rw [ns_quote hi c0]
        have hs := sk_reach f n _ (i + 1) (Nat.le_refl _) (by omega)
        have r := ih d (sk f n (i + 1)) (by omega) (by omega)
        refine ⟨by omega, r.2.1, fun _ => by omega, fun _ e => ?_⟩
        by_cases h3 : sk f n (i + 1) ≤ n
        · exact r.2.2.2 h3 e
        · exact hs.2.2 (by omega) (by omega)
      · by_cases c1 : f i = 91 ∨ f i = 123
        · rw [ns_open hi c1]
          have r := ih (d + 1) (i + 1) (by omega) (by omega)
          exact ⟨by omega, r.2.1, fun _ => by omega, fun _ e => r.2.2.2 (by omega) e⟩
        · by_cases c2 : f i = 93 ∨ f i = 125
          · by_cases e : d - 1 = 0
            · rw [ns_last hi c2 e]
              exact ⟨by omega, by omega, fun _ => by omega, fun _ e => by omega⟩
            · rw [ns_shut hi c2 e]
              have r := ih (d - 1) (i + 1) (by omega) (by omega)
              exact ⟨by omega, r.2.1, fun _ => by omega, fun _ e => r.2.2.2 (by omega) e⟩
          · rw [ns_other hi c0 c1 c2]
            have r := ih d (i + 1) (by omega) (by omega)
            exact ⟨by omega, r.2.1, fun _ => by omega, fun _ e => r.2.2.2 (by omega) e⟩
    · rw [ns_out hi]
      exact ⟨by omega, by omega, fun _ => by omega, fun _ _ => by omega⟩
end Go.Proofs.Qxb6600009a.Plain
