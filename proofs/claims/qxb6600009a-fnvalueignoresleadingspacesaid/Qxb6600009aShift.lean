import Derived.Test.Qxb6600009aPremise
/- PLAIN: what white space put in ahead of a value does to the scanner: all moves on by its length. -/
namespace Go.Proofs.Qxb6600009a
open Plain

/-- f2, of length n + p, is f from a on, moved on by p. -/
def Shift (f f2 : Nat → Int) (n p a : Nat) : Prop := ∀ k, a ≤ k → k < n → f2 (k + p) = f k

theorem sk_shift {f f2 : Nat → Int} {n p a : Nat} (h : Shift f f2 n p a) : ∀ m i, n - i ≤ m → a ≤ i → sk f2 (n + p) (i + p) = sk f n i + p := by
  intro m
  induction m with
  | zero => intro i hm _; rw [sk_out (by omega), sk_out (by omega)]
  | succ m ih =>
    intro i hm ha
    by_cases hi : i < n
    · have e := h i ha hi
      by_cases c : f i = 92
      · rw [sk_back (i := i + p) (by omega) (by omega), sk_back hi c, ← ih (i + 2) (by omega) (by omega), show i + p + 2 = i + 2 + p by omega]
      · by_cases d : f i = 34
        · rw [sk_quote (i := i + p) (by omega) (by omega), sk_quote hi d]; omega
        · rw [sk_other (i := i + p) (by omega) (by omega) (by omega), sk_other hi c d, ← ih (i + 1) (by omega) (by omega), show i + p + 1 = i + 1 + p by omega]
    · rw [sk_out (by omega), sk_out hi]

theorem ns_shift {f f2 : Nat → Int} {n p a : Nat} (h : Shift f f2 n p a) : ∀ m d i, n - i ≤ m → a ≤ i → ns f2 (n + p) d (i + p) = ns f n d i + p := by
  intro m
  induction m with
  | zero => intro d i hm _; rw [ns_out (by omega), ns_out (by omega)]
  | succ m ih =>
    intro d i hm ha
    by_cases hi : i < n
    · have e := h i ha hi
      by_cases c0 : f i = 34
      · have hs := sk_ge f n (i + 1) (by omega)
        have he : sk f2 (n + p) (i + p + 1) = sk f n (i + 1) + p := by
          rw [show i + p + 1 = i + 1 + p by omega]; exact sk_shift h _ _ (Nat.le_refl _) (by omega)
        rw [ns_quote (i := i + p) (by omega) (by omega), ns_quote hi c0, he, ih d _ (by omega) (by omega)]
      · by_cases c1 : f i = 91 ∨ f i = 123
        · rw [ns_open (i := i + p) (by omega) (by omega), ns_open hi c1, ← ih (d + 1) (i + 1) (by omega) (by omega), show i + p + 1 = i + 1 + p by omega]
        · by_cases c2 : f i = 93 ∨ f i = 125
          · by_cases x : d - 1 = 0
            · rw [ns_last (i := i + p) (by omega) (by omega) x, ns_last hi c2 x]; omega
            · rw [ns_shut (i := i + p) (by omega) (by omega) x, ns_shut hi c2 x, ← ih (d - 1) (i + 1) (by omega) (by omega), show i + p + 1 = i + 1 + p by omega]
          · rw [ns_other (i := i + p) (by omega) (by omega) (by omega) (by omega), ns_other hi c0 c1 c2, ← ih d (i + 1) (by omega) (by omega), show i + p + 1 = i + 1 + p by omega]
    · rw [ns_out (by omega), ns_out hi]

theorem ws_shift {f f2 : Nat → Int} {n p a : Nat} (h : Shift f f2 n p a) : ∀ m i, n - i ≤ m → a ≤ i → ws f2 (n + p) (i + p) = ws f n i + p := by
  intro m
  induction m with
  | zero => intro i hm _; rw [ws_out (by omega), ws_out (by omega)]
  | succ m ih =>
    intro i hm ha
    by_cases hi : i < n
    · have e := h i ha hi
      by_cases c : isWs (f i)
      · rw [ws_in (i := i + p) (by omega) (by rw [e]; exact c), ws_in hi c, ← ih (i + 1) (by omega) (by omega), show i + p + 1 = i + 1 + p by omega]
      · rw [ws_stop (by rw [e]; exact c), ws_stop c]
    · rw [ws_out (by omega), ws_out hi]

theorem ws_run (f : Nat → Int) (n : Nat) : ∀ m i, (∀ k, i ≤ k → k < i + m → isWs (f k)) → i + m ≤ n → ws f n i = ws f n (i + m) := by
  intro m
  induction m with
  | zero => intro i _ _; rfl
  | succ m ih =>
    intro i h hn
    rw [ws_in (by omega) (h i (Nat.le_refl _) (by omega)), ih (i + 1) (fun k h1 h2 => h k (by omega) (by omega)) (by omega), show i + 1 + m = i + (m + 1) by omega]

theorem ws_pad {f f2 : Nat → Int} {n p a : Nat} (h : Shift f f2 n p a) (ha : a ≤ n) (hp : ∀ k, a ≤ k → k < a + p → isWs (f2 k)) : ws f2 (n + p) a = ws f n a + p := by
  rw [ws_run f2 (n + p) p a hp (by omega)]
  exact ws_shift h _ _ (Nat.le_refl _) (Nat.le_refl _)

theorem VOK.shift {f f2 : Nat → Int} {n p a i e : Nat} (h : Shift f f2 n p a) (ha : a ≤ i) (v : VOK f n i e) : VOK f2 (n + p) (i + p) (e + p) := by
  obtain ⟨v1, v2, v3⟩ := v
  have e0 := h i ha (by omega)
  refine ⟨by omega, by omega, ?_⟩
  rcases v3 with ⟨x, y⟩ | ⟨x, y⟩ | x
  · refine .inl ⟨by omega, ?_⟩
    rw [show i + p + 1 = i + 1 + p by omega, sk_shift h _ (i + 1) (Nat.le_refl _) (by omega), y]
  · refine .inr (.inl ⟨by omega, fun d hd => ?_⟩)
    rw [show i + p + 1 = i + 1 + p by omega, ns_shift h _ (d + 1) (i + 1) (Nat.le_refl _) (by omega), y d hd]
    by_cases z : d = 0
    · rw [if_pos z, if_pos z]
    · rw [if_neg z, if_neg z, ns_shift h _ d e (Nat.le_refl _) (by omega)]
  · refine .inr (.inr fun k k1 k2 => ?_)
    have := h (k - p) (by omega) (by omega)
    rw [show k - p + p = k by omega] at this
    rw [this]
    exact x (k - p) (by omega) (by omega)

theorem Stops.shift {f f2 : Nat → Int} {n p a i e : Nat} (h : Shift f f2 n p a) (ha : a ≤ i) (v : VOK f n i e) (s : Stops f n i e) : Stops f2 (n + p) (i + p) (e + p) := by
  have v1 := v.1
  have v2 := v.2.1
  have e0 := h i ha (by omega)
  unfold Stops at s ⊢
  rw [e0]
  rcases s with s | s | s | s | s
  · exact .inl s
  · exact .inr (.inl s)
  · exact .inr (.inr (.inl s))
  · exact .inr (.inr (.inr (.inl (by omega))))
  · by_cases x : e = n
    · exact .inr (.inr (.inr (.inl (by omega))))
    · refine .inr (.inr (.inr (.inr ?_)))
      rw [h e (by omega) (by omega)]; exact s

/-- The padded text, as a list. -/
theorem padded {P W R : List Int} {f : Nat → Int} {n a p : Nat} (ha : a ≤ n) (hP : P.length = a) (hW : W.length = p) (hw : ∀ c ∈ W, isWs c) (hR : R = (List.range (n - a)).map fun k => f (a + k)) :
    Shift f (fun k => (P ++ W ++ R).getD k 0) n p a ∧ ∀ k, a ≤ k → k < a + p → isWs ((P ++ W ++ R).getD k 0) := by
  have hl : (P ++ W).length = a + p := by simp [hP, hW]
  constructor
  · intro k h1 h2
    show List.getD _ _ _ = _
    rw [List.getD, List.getElem?_append_right (by omega), hl, show k + p - (a + p) = k - a by omega, hR]
    simp [show k - a < n - a by omega, show a + (k - a) = k by omega]
  · intro k h1 h2
    rw [List.getD, List.getElem?_append_left (by omega), List.getElem?_append_right (by omega), hP]
    have hk : k - a < W.length := by omega
    simp only [hk, List.getElem?_eq_getElem, Option.getD_some]
    exact hw _ (List.getElem_mem hk)
end Go.Proofs.Qxb6600009a
