import Derived.Test.Qxb6600009aBase
namespace Go.Proofs.Qxb6600009a
open Go.RowKit

/-- The slice at a, of length n, reads in w as the bytes f; nil only where it is empty. -/
def Text (w : World) (a : Option Addr) (n : Nat) (f : Nat → Int) : Prop :=
  0 < n → ∃ b off, a = some ⟨b, off, none⟩ ∧ b < w.heap.size ∧ ∀ k, k < n → w.cell? ⟨b, off + k, none⟩ = some (.int .u8 (f k))

theorem Text.keep {w w' : World} {a : Option Addr} {n : Nat} {f : Nat → Int} (h : Text w a n f) (hb : Below w.heap.size w w') : Text w' a n f := by
  intro hn
  obtain ⟨b, off, rfl, hlt, hc⟩ := h hn
  exact ⟨b, off, rfl, Nat.lt_of_lt_of_le hlt hb.size, fun k hk => (hb.cell hlt).trans (hc k hk)⟩
theorem Text.empty (w : World) (a : Option Addr) (f : Nat → Int) : Text w a 0 f := fun h => absurd h (by omega)
theorem Rowed.text {w : World} {a : Option Addr} {len cap : Nat} {zs : List Int} (h : Rowed w a len cap zs) :
    ∃ f : Nat → Int, Text w a len f ∧ ∀ k, 0 ≤ f k ∧ f k ≤ 255 := by
  by_cases hp : 0 < len
  · obtain ⟨b, off, f, rfl, hb, hc, hf⟩ := h.pos hp
    exact ⟨f, fun _ => ⟨b, off, rfl, hb, hc⟩, hf⟩
  · obtain rfl : len = 0 := by omega
    exact ⟨fun _ => 0, Text.empty _ _ _, fun _ => ⟨by simp, by simp⟩⟩

/-- b1Clone, whatever slice: a slice of the same length that reads the same, nil or in a new block. -/
theorem clone_any (a : Option Addr) (n cap : Nat) (f : Nat → Int) (w : World) (hn : n ≤ 1048576) (hT : Text w a n f) (h0 : a = none → n = 0) :
    Calls Try.prog 11 #[.slice a n cap] w fun e w' => ∃ (a' : Option Addr) (c' : Nat), e = .returned (.slice a' n c') ∧ Below w.heap.size w w' ∧ Text w' a' n f ∧
      (a' = none → n = 0 ∧ c' = 0) ∧ (∀ ad, a' = some ad → ad = ⟨w.heap.size, 0, none⟩ ∧ w.heap.size < w'.heap.size ∧ c' = n) := by
  cases a with
  | none =>
    obtain rfl := h0 rfl
    refine (clone_nil 0 cap w).mono ?_
    rintro e w' ⟨rfl, rfl⟩
    exact ⟨none, 0, rfl, Below.refl _ _, Text.empty _ _ _, fun _ => ⟨rfl, rfl⟩, fun ad h => (by cases h)⟩
  | some x =>
    by_cases hp : 0 < n
    · obtain ⟨b, off, hx, hb, hc⟩ := hT hp
      simp only [Option.some.injEq] at hx
      subst hx
      refine (clone_some b off n cap f w hn hb hc).mono ?_
      rintro e w' ⟨rfl, hbel, hsz, hc'⟩
      exact ⟨_, n, rfl, hbel, fun _ => ⟨w.heap.size, 0, rfl, hsz, by simpa using hc'⟩, fun h => (by cases h), fun ad h => ⟨(Option.some.inj h).symm, hsz, rfl⟩⟩
    · obtain rfl : n = 0 := by omega
      refine (clone_empty x cap w).mono ?_
      rintro e w' ⟨rfl, hbel, hsz⟩
      exact ⟨_, 0, rfl, hbel, Text.empty _ _ _, fun h => (by cases h), fun ad h => ⟨(Option.some.inj h).symm, hsz, rfl⟩⟩

/-- b1Equal on two slices that read the same. -/
theorem equal_same (a a2 : Option Addr) (n cap cap2 : Nat) (f f2 : Nat → Int) (w : World) (hn : n ≤ 4194304) (hT : Text w a n f) (hT2 : Text w a2 n f2) (he : ∀ k, k < n → f2 k = f k) :
    Calls Try.prog 15 #[.slice a n cap, .slice a2 n cap2] w fun e w' => e = .returned (.bool true) ∧ ∃ q, w' = w.drewN q := by
  by_cases hp : 0 < n
  · obtain ⟨b, off, rfl, hb, hc⟩ := hT hp
    obtain ⟨b2, off2, rfl, hb2, hc2⟩ := hT2 hp
    clear hT hT2 hb hb2
    go_enter Try.func15, Try.ntmps15
    go_wp2
    go_loopw [5] (fun i wr => ∃ k q : Nat, k ≤ n ∧ i = .int .i64 k ∧ wr = w.drewN q) (fun i _ => n - (intOf i).toNat)
    case atStart => exact ⟨0, 0, by omega, rfl, rfl⟩
    case round =>
      obtain ⟨k, q, hk, rfl, rfl⟩ := hrel
      by_cases hlt : k < n
      · have h1 := hc k hlt
        have h2 := hc2 k hlt
        rw [he k hlt] at h2
        have hI : (0 : Int) ≤ (k : Int) := by omega
        have hI2 : (k : Int) < (n : Int) := by omega
        clear hc hc2 he
        go_wp2; go_quiet (fail)
        go_wp2
        go_roundw
        case rel => exact ⟨k + 1, _, by omega, by go_num, rfl⟩
        case measure => simp [intOf]; omega
      · clear hc hc2 he
        go_wp2
        go_ret
        exact ⟨rfl, _, rfl⟩
  · obtain rfl : n = 0 := by omega
    clear hT hT2 he
    go_enter Try.func15, Try.ntmps15
    go_wp2
    refine wp_loop_rounds 1 ?_
    rw [rounds_succ]
    go_wp2
    go_ret
    exact ⟨rfl, 0, rfl⟩
end Go.Proofs.Qxb6600009a
