import Derived.Test.Qxb6600009aPlain
/- PLAIN: white space, scalars, what a recognised value means to the scanner. No Go here. -/
namespace Go.Proofs.Qxb6600009a.Plain

def isWs (c : Int) : Prop := c = 32 ∨ c = 9 ∨ c = 10 ∨ c = 13
theorem isWs_dec (c : Int) : isWs c ∨ ¬ isWs c := by unfold isWs; omega
def wsF (f : Nat → Int) (n : Nat) : Nat → Nat → Nat
  | 0, i => i
  | F + 1, i => if i < n ∧ (f i = 32 ∨ f i = 9 ∨ f i = 10 ∨ f i = 13) then wsF f n F (i + 1) else i
/-- Past white space. -/
def ws (f : Nat → Int) (n i : Nat) : Nat := wsF f n (n - i) i
theorem ws_in {f : Nat → Int} {n i : Nat} (h : i < n) (c : isWs (f i)) : ws f n i = ws f n (i + 1) := by
  unfold ws
  obtain ⟨G, hG⟩ : ∃ G, n - i = G + 1 := ⟨n - i - 1, by omega⟩
  rw [hG, wsF, if_pos ⟨h, c⟩, show n - (i + 1) = G by omega]
theorem ws_out {f : Nat → Int} {n i : Nat} (h : ¬ i < n) : ws f n i = i := by
  unfold ws; rw [show n - i = 0 by omega, wsF]
theorem ws_stop {f : Nat → Int} {n i : Nat} (c : ¬ isWs (f i)) : ws f n i = i := by
  by_cases h : i < n
  · unfold ws
    obtain ⟨G, hG⟩ : ∃ G, n - i = G + 1 := ⟨n - i - 1, by omega⟩
    rw [hG, wsF, if_neg (fun x => c x.2)]
  · exact ws_out h
theorem ws_prop (f : Nat → Int) (n : Nat) : ∀ m i, n - i ≤ m → i ≤ n → i ≤ ws f n i ∧ ws f n i ≤ n ∧ (∀ k, i ≤ k → k < ws f n i → isWs (f k)) ∧ (ws f n i < n → ¬ isWs (f (ws f n i))) := by
  intro m
  induction m with
  | zero =>
    intro i h h2
    rw [ws_out (by omega)]
    exact ⟨by omega, by omega, fun k _ _ => by omega, fun _ => by omega⟩
  | succ m ih =>
    intro i h h2
    by_cases hi : i < n
    · by_cases c : isWs (f i)
      · rw [ws_in hi c]
        obtain ⟨r1, r2, r3, r4⟩ := ih (i + 1) (by omega) (by omega)
        refine ⟨by omega, r2, fun k h1 h2 => ?_, r4⟩
        by_cases e : k = i
        · subst e; exact c
        · exact r3 k (by omega) h2
      · rw [ws_stop c]
        exact ⟨by omega, by omega, fun k _ _ => by omega, fun _ => c⟩
    · rw [ws_out hi]
      exact ⟨by omega, by omega, fun k _ _ => by omega, fun _ => by omega⟩
theorem ws_ge (f : Nat → Int) {n i : Nat} (h : i ≤ n) : i ≤ ws f n i ∧ ws f n i ≤ n := ⟨(ws_prop f n _ i (Nat.le_refl _) h).1, (ws_prop f n _ i (Nat.le_refl _) h).2.1⟩

/-- A byte at which skipNested only goes on. -/
def still (c : Int) : Prop := c ≠ 34 ∧ c ≠ 91 ∧ c ≠ 123 ∧ c ≠ 93 ∧ c ≠ 125
theorem ns_run (f : Nat → Int) (n : Nat) (d : Int) : ∀ m i, (∀ k, i ≤ k → k < i + m → still (f k)) → i + m ≤ n → ns f n d i = ns f n d (i + m) := by
  intro m
  induction m with
  | zero => intro i _ _; rfl
  | succ m ih =>
    intro i h hn
    have s := h i (Nat.le_refl _) (by omega)
    obtain ⟨s0, s1, s2, s3, s4⟩ := s
    rw [ns_other (by omega) s0 (by omega) (by omega), ih (i + 1) (fun k h1 h2 => h k (by omega) (by omega)) (by omega)]
    rw [show i + 1 + m = i + (m + 1) by omega]
theorem ns_to {f : Nat → Int} {n i e : Nat} {d : Int} (hie : i ≤ e) (hen : e ≤ n) (h : ∀ k, i ≤ k → k < e → still (f k)) : ns f n d i = ns f n d e := by
  have := ns_run f n d (e - i) i (fun k h1 h2 => h k h1 (by omega)) (by omega)
  rwa [show i + (e - i) = e by omega] at this
theorem still_ws {c : Int} (h : isWs c) : still c := by unfold isWs at h; unfold still; omega
theorem ns_ws (f : Nat → Int) {n i : Nat} (d : Int) (h : i ≤ n) : ns f n d i = ns f n d (ws f n i) := by
  obtain ⟨r1, r2, r3, _⟩ := ws_prop f n _ i (Nat.le_refl _) h
  exact ns_to r1 r2 (fun k h1 h2 => still_ws (r3 k h1 h2))

/-- A byte of a number or a literal. -/
def plainC (c : Int) : Prop := c ≠ 34 ∧ c ≠ 91 ∧ c ≠ 123 ∧ c ≠ 93 ∧ c ≠ 125 ∧ c ≠ 44 ∧ c ≠ 32 ∧ c ≠ 9 ∧ c ≠ 10 ∧ c ≠ 13
theorem plainC.still {c : Int} (h : plainC c) : still c := ⟨h.1, h.2.1, h.2.2.1, h.2.2.2.1, h.2.2.2.2.1⟩

/-- A recognised value from i to e, as the scanner meets it: a string; a list or an object; a number or a literal. -/
def VOK (f : Nat → Int) (n i e : Nat) : Prop :=
  i < e ∧ e ≤ n ∧ ((f i = 34 ∧ sk f n (i + 1) = e) ∨ ((f i = 91 ∨ f i = 123) ∧ ∀ d : Int, 0 ≤ d → ns f n (d + 1) (i + 1) = if d = 0 then e else ns f n d e) ∨ (∀ k, i ≤ k → k < e → plainC (f k)))
/-- Inside a list or an object a value is passed over. -/
theorem VOK.pass {f : Nat → Int} {n i e : Nat} (h : VOK f n i e) (d : Int) (hd : 1 ≤ d) : ns f n d i = ns f n d e := by
  obtain ⟨h1, h2, h | h | h⟩ := h
  · rw [ns_quote (by omega) h.1, h.2]
  · rw [ns_open (by omega) h.1, h.2 d (by omega), if_neg (by omega)]
  · exact ns_to (by omega) h2 (fun k a b => (h k a b).still)
/-- At the top skipNested ends with the list or the object. -/
theorem VOK.nested {f : Nat → Int} {n i e : Nat} (h : VOK f n i e) (hc : f i = 91 ∨ f i = 123) : ns f n 0 i = e := by
  obtain ⟨h1, h2, h | h | h⟩ := h
  · omega
  · rw [ns_open (by omega) h.1, h.2 0 (by omega), if_pos rfl]
  · have := h i (Nat.le_refl _) h1; unfold plainC at this; omega
theorem VOK.string {f : Nat → Int} {n i e : Nat} (h : VOK f n i e) (hc : f i = 34) : sk f n (i + 1) = e := by
  obtain ⟨h1, h2, h | h | h⟩ := h
  · exact h.2
  · omega
  · have := h i (Nat.le_refl _) h1; unfold plainC at this; omega
theorem VOK.scalar {f : Nat → Int} {n i e : Nat} (h : VOK f n i e) (h0 : f i ≠ 34) (h3 : f i ≠ 91) (h4 : f i ≠ 123) : ∀ k, i ≤ k → k < e → plainC (f k) := by
  obtain ⟨h1, h2, h | h | h⟩ := h
  · omega
  · omega
  · exact h

/-- Inside a list or an object that opens at i: the scanner at depth 1 or more has come from i + 1 to j. -/
def Inside (f : Nat → Int) (n i j : Nat) : Prop := i < j ∧ j ≤ n ∧ ∀ d : Int, 1 ≤ d → ns f n d (i + 1) = ns f n d j
theorem Inside.start {f : Nat → Int} {n i : Nat} (h : i < n) : Inside f n i (i + 1) := ⟨by omega, by omega, fun _ _ => rfl⟩
theorem Inside.ws {f : Nat → Int} {n i j : Nat} (h : Inside f n i j) : Inside f n i (ws f n j) := by
  have := ws_ge f h.2.1
  exact ⟨by have := h.1; omega, this.2, fun d hd => (h.2.2 d hd).trans (ns_ws f d h.2.1)⟩
theorem Inside.value {f : Nat → Int} {n i j e : Nat} (h : Inside f n i j) (v : VOK f n j e) : Inside f n i e :=
  ⟨by have := h.1; have := v.1; omega, v.2.1, fun d hd => (h.2.2 d hd).trans (v.pass d hd)⟩
theorem Inside.other {f : Nat → Int} {n i j : Nat} (h : Inside f n i j) (hj : j < n) (c : still (f j)) : Inside f n i (j + 1) :=
  ⟨by have := h.1; omega, by omega, fun d hd => (h.2.2 d hd).trans (ns_other hj c.1 (by have := c.2; omega) (by have := c.2; omega))⟩
theorem Inside.close {f : Nat → Int} {n i j : Nat} (h : Inside f n i j) (hi : f i = 91 ∨ f i = 123) (hj : j < n) (c : f j = 93 ∨ f j = 125) : VOK f n i (j + 1) := by
  refine ⟨by have := h.1; omega, by omega, .inr (.inl ⟨hi, fun d hd => ?_⟩)⟩
  rw [h.2.2 (d + 1) (by omega)]
  by_cases e : d = 0
  · subst e; rw [ns_last hj c (by omega), if_pos rfl]
  · rw [ns_shut hj c (by omega), if_neg e, show d + 1 - 1 = d by omega]
end Go.Proofs.Qxb6600009a.Plain
