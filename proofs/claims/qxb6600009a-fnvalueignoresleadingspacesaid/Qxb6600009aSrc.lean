import Derived.Test.Qxb6600009aUnesc
import Derived.Test.Qxb6600009aQuote
namespace Go.Proofs.Qxb6600009a
open Go.RowKit Plain

theorem zzBytes16 (a a1 a2 : Option Addr) (n n1 n2 cap cap1 cap2 : Nat) (w : World) (hn : n + n1 + n2 ≤ 1048576) :
    Calls Try.prog 16 #[.slice a n cap, .slice a1 n1 cap1, .slice a2 n2 cap2] w fun e w' => e = .returned (.bool true) ∧ w' = w := by
  go_enter Try.func16, Try.ntmps16
  go_wp2
  go_ret
  exact ⟨rfl, rfl⟩
theorem zzBytes16_no (a a1 a2 : Option Addr) (n n1 n2 cap cap1 cap2 : Nat) (w : World) (hn : 1048576 < n + n1 + n2) (hm : n ≤ 9223372036854775807) (hm1 : n1 ≤ 9223372036854775807) (hm2 : n2 ≤ 9223372036854775807) :
    Calls Try.prog 16 #[.slice a n cap, .slice a1 n1 cap1, .slice a2 n2 cap2] w fun e w' => e = .returned (.bool false) ∧ w' = w := by
  by_cases h1 : 1048576 < n
  · go_enter Try.func16, Try.ntmps16
    go_wp2
    go_ret
    exact ⟨rfl, rfl⟩
  · by_cases h2 : 1048576 < n1
    · go_enter Try.func16, Try.ntmps16
      go_wp2
      go_ret
      exact ⟨rfl, rfl⟩
    · by_cases h3 : 1048576 < n + n1
      · go_enter Try.func16, Try.ntmps16
        go_wp2
        go_ret
        exact ⟨rfl, rfl⟩
      · by_cases h4 : 1048576 < n2
        · go_enter Try.func16, Try.ntmps16
          go_wp2
          go_ret
          exact ⟨rfl, rfl⟩
        · go_enter Try.func16, Try.ntmps16
          go_wp2
          go_ret
          exact ⟨rfl, rfl⟩

/-- What an append reads: a slice at a (of n elements, capacity c), all of it below block H, whose elements are xs; nil only where empty. -/
structure Src (H : Nat) (w : World) (a : Option Addr) (n c : Nat) (xs : List Int) : Prop where
  len : xs.length = n
  none : a = none → n = 0 ∧ c = 0
  low : ∀ ad, a = some ad → ad.block < H
  cell : ∀ ad, a = some ad → ∀ j u, (xs.map (Value.int .u8))[j]? = some u → w.cell? (ad.add j) = some u
theorem add_block (ad : Addr) (j : Nat) : (ad.add j).block = ad.block := by unfold Addr.add; split <;> rfl
theorem Src.keep {H : Nat} {w w' : World} {a : Option Addr} {n c : Nat} {xs : List Int} (h : Src H w a n c xs) (hb : Below H w w') : Src H w' a n c xs :=
  ⟨h.len, h.none, h.low, fun ad e j u hu => (hb.cell (by rw [add_block]; exact h.low ad e)).trans (h.cell ad e j u hu)⟩
theorem Src.mono {H H' : Nat} {w : World} {a : Option Addr} {n c : Nat} {xs : List Int} (h : Src H w a n c xs) (hH : H ≤ H') : Src H' w a n c xs :=
  ⟨h.len, h.none, fun ad e => Nat.lt_of_lt_of_le (h.low ad e) hH, h.cell⟩
/-- Out of b1Clone's contract. -/
theorem Src.ofClone {w w' : World} {a : Option Addr} {n c : Nat} {f : Nat → Int} (hT : Text w' a n f) (h0 : a = Option.none → n = 0 ∧ c = 0) (h1 : ∀ ad, a = some ad → ad = ⟨w.heap.size, 0, Option.none⟩ ∧ w.heap.size < w'.heap.size ∧ c = n) :
    Src w'.heap.size w' a n c ((List.range n).map f) := by
  refine ⟨by simp, h0, fun ad e => ?_, fun ad e j u hu => ?_⟩
  · have := h1 ad e; rw [this.1]; exact this.2.1
  · obtain ⟨rfl, hlt, _⟩ := h1 ad e
    have hj : j < n := by have := (List.getElem?_eq_some_iff.1 hu).1; simpa using this
    obtain ⟨b, off, hab, _, hc⟩ := hT (by omega)
    rw [e] at hab
    simp only [Option.some.injEq, Addr.mk.injEq, and_true] at hab
    obtain ⟨rfl, rfl⟩ := hab
    rw [Addr.add_lit, hc j hj]
    simp [hj] at hu
    rw [hu]
/-- Out of a row of the call's own. -/
theorem Src.ofOwn {w : World} {B : Nat} {v : Value} {xs : List Int} (h : w.ownsRow B 5 1 v xs.length (xs.map (Value.int .u8))) :
    ∃ a c, v = .slice a xs.length c ∧ Src w.heap.size w a xs.length c xs ∧ xs.length ≤ c := by
  rcases h.2 with ⟨rfl, h0⟩ | ⟨g, cap, cur, rfl, hb, hg, hnc, hcm, hcs, htake⟩
  · exact ⟨Option.none, 0, by rw [h0], ⟨rfl, fun _ => ⟨h0, rfl⟩, fun ad e => (by cases e), fun ad e => (by cases e)⟩, by omega⟩
  · refine ⟨some ⟨g, 0, Option.none⟩, cap, rfl, ⟨rfl, fun e => (by cases e), fun ad e => ?_, fun ad e => ?_⟩, hnc⟩
    · obtain rfl := Option.some.inj e
      exact (h.lt g rfl).2
    · obtain rfl := Option.some.inj e
      exact h.cells rfl
theorem Src.text {H : Nat} {w : World} {a : Option Addr} {n c : Nat} {xs : List Int} (h : Src H w a n c xs) (hH : H ≤ w.heap.size) : Text w a n (fun k => xs.getD k 0) := by
  intro hp
  have hl := h.len
  cases a with
  | none => have := h.none rfl; omega
  | some ad =>
    have hc := h.cell ad rfl
    have h0 := hc 0 (.int .u8 (xs.getD 0 0)) (by simp [show 0 < xs.length by omega])
    obtain ⟨b, off, spot⟩ := ad
    have hspot : spot = Option.none := by simpa [Addr.add] using World.cell?_spot h0
    subst hspot
    refine ⟨b, off, rfl, Nat.lt_of_lt_of_le (h.low _ rfl) hH, fun k hk => ?_⟩
    have := hc k (.int .u8 (xs.getD k 0)) (by simp [show k < xs.length by omega])
    rwa [Addr.add_lit] at this
/-- One byte in a new block. -/
theorem Src.one (w : World) (c : Int) (t : TypeId) : Src (w.alloc (.cells #[.int .u8 c] t)).heap.size (w.alloc (.cells #[.int .u8 c] t)) (some ⟨w.heap.size, 0, Option.none⟩) 1 1 [c] := by
  refine ⟨rfl, fun e => (by cases e), fun ad e => ?_, fun ad e j u hu => ?_⟩
  · obtain rfl := Option.some.inj e
    simp
  · obtain rfl := Option.some.inj e
    exact new_cells w _ t j u hu

/-- 'append' within the capacity onto the call's own row at block g, whatever is appended: the value stays at its row's head. -/
theorem app_fits (w : World) {ops : Array Oper} {rest : List Oper} {o : Oper} {a : Act} {Q : Exit → Act → World → Prop}
    (hg : o.guard = none) (s x : Operand) (hop : o.op = Op.call { callee := Callee.builtin Builtin.append, args := #[s, x], argTypes := #[22, 22] })
    (g k k' cap : Nat) (xs : List Int) (hs : a.eval s = .slice (some ⟨g, 0, none⟩) k cap) (hown : w.ownsRow g 5 1 (.slice (some ⟨g, 0, none⟩) k cap) k (xs.map (Value.int .u8)))
    {H : Nat} {ao : Option Addr} {m c : Nat} {news : List Int} (S : Src H w ao m c news) (hx : a.eval x = .slice ao m c) (hk : k' = k + m) (b1 : k' ≤ cap)
    (hK : ∀ w', w'.ownsRow g 5 1 (.slice (some ⟨g, 0, none⟩) k' cap) k' ((xs ++ news).map (Value.int .u8)) → Below g w w' → wpList Try.prog ops Q rest (a.put o.dst (.slice (some ⟨g, 0, none⟩) k' cap)) w') :
    wpList Try.prog ops Q (o :: rest) a w := by
  obtain ⟨i0, hi, hz0, hz1, hz2⟩ := info_parts Try.info5
  subst hk
  refine wpList_append_fits_any w hg s x 22 hop g 5 i0 1 Try.underlying22 hi hz1 g k cap _ hs hown ao m c (news.map (Value.int .u8)) hx (by simp [S.len]) S.none S.cell (bytes_oneCell _) b1 ?_
  intro w' h1 h2
  refine hK w' (by simpa using h1) ((Below.refl _ _).grown h2 ?_ (fun k e => by obtain rfl := Option.some.inj e; exact Nat.le_refl _))
  exact Nat.le_of_lt (hown.lt g rfl).2
end Go.Proofs.Qxb6600009a
