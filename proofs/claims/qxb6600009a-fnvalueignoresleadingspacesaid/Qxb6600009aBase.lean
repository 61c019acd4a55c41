import Derived.Test.Qxb6600009aRows
import Derived.WalkKit
import Derived.WalkSpells
import Derived.OpenShut
import Derived.BigQuiet
import Derived.Deep.QuietTactic
namespace Go.Proofs.Qxb6600009a
open Go.RowKit

theorem Try.info5 : (Try.prog.info? 5).map (fun i => (i.zero, i.size, i.bytes)) = some (some (.int .u8 0), 1, 1) := by kernel_rfl

/-- What the shells' 'IsRow' says, at bytes. -/
def Rowed (w : World) (a : Option Addr) (len cap : Nat) (zs : List Int) : Prop :=
  (a = none ∧ len = 0 ∧ cap = 0 ∧ zs = []) ∨
  ∃ x, a = some x ∧ len ≤ cap ∧ cap ≤ maxLen ∧ zs.length = cap ∧ (∀ i, i < zs.length → w.cell? (x.add i) = some (.int .u8 (zs.getD i 0))) ∧ ∀ n ∈ zs, (Lit.int .u8 n).wf = true
theorem Rowed.le {w : World} {a : Option Addr} {len cap : Nat} {zs : List Int} (h : Rowed w a len cap zs) : len ≤ 9223372036854775807 := by
  rcases h with ⟨_, h, _⟩ | ⟨_, _, h, h2, _⟩
  · omega
  · unfold maxLen at h2; omega
/-- A slice that is not empty: its bytes lie at a known place. -/
theorem Rowed.pos {w : World} {a : Option Addr} {len cap : Nat} {zs : List Int} (h : Rowed w a len cap zs) (hp : 0 < len) :
    ∃ (b off : Nat) (f : Nat → Int), a = some ⟨b, off, none⟩ ∧ b < w.heap.size ∧ (∀ k, k < len → w.cell? ⟨b, off + k, none⟩ = some (.int .u8 (f k))) ∧ ∀ k, 0 ≤ f k ∧ f k ≤ 255 := by
  rcases h with ⟨_, h, _⟩ | ⟨x, hx, h1, _, h3, hc, hw⟩
  · omega
  · obtain ⟨b, off, rfl, hc'⟩ := ints_at hc (by omega)
    refine ⟨b, off, fun k => zs.getD k 0, hx, ?_, fun k hk => hc' k (by omega), fun k => ?_⟩
    · exact World.block_lt_of_cell? w _ (hc' 0 (by omega))
    · have := range_u8 hw k
      simpa [List.getD] using this

/-- A byte slice at a known address: a new slice of the same bytes. -/
theorem clone_some (b off n cap : Nat) (f : Nat → Int) (w : World) (hn : n ≤ 1048576) (hb : b < w.heap.size) (hcell : ∀ k, k < n → w.cell? ⟨b, off + k, none⟩ = some (.int .u8 (f k))) :
    Calls Try.prog 11 #[.slice (some ⟨b, off, none⟩) n cap] w fun e w' => e = .returned (.slice (some ⟨w.heap.size, 0, none⟩) n n) ∧ Below w.heap.size w w' ∧ w.heap.size < w'.heap.size ∧
      ∀ k, k < n → w'.cell? ⟨w.heap.size, k, none⟩ = some (.int .u8 (f k)) := by
  obtain ⟨i0, hi, hz0, hz1, hz2⟩ := info_parts Try.info5
  have hnil : ∀ (w : World) (a : Option Addr) (n c n' c' : Nat), (binOp .eql 22 (.slice a n c) (.slice none n' c')).run Try.prog w = .ok (.bool a.isNone) w := fun w a n c n' c' => Lib.run_eql_slice_nil w _ _ a n c n' c' Try.underlying22
  go_enter Try.func11, Try.ntmps11
  go_wp2_with (at_make; refine wpList_make_full _ rfl (.tmp 8) (.tmp 8) 22 rfl w.heap.size 5 i0 (.int .u8 0) 1 Try.underlying22 hi hz0 hz1 .i64 .i64 _ _ n rfl rfl rfl rfl (by rw [hz2]; omega) (by unfold maxLen; omega) (Nat.le_refl _) ?_; intro w1 hown hgrow)
  clear hnil hi hz0 hz1 hz2
  have hbel : Below w.heap.size w w1 := (Below.refl _ _).grown hgrow (Nat.le_refl _) (by simp)
  go_loopw [4] (fun i wr => ∃ k : Nat, ∃ xs : List Value, k ≤ n ∧ i = .int .i64 k ∧ wr.ownsRow w.heap.size 5 1 (.slice (some ⟨w.heap.size, 0, none⟩) n n) n xs ∧ (∀ j, j < k → xs[j]? = some (.int .u8 (f j))) ∧ Below w.heap.size w wr)
     (fun i _ => n - (intOf i).toNat)
  case atStart => exact ⟨0, _, Nat.zero_le _, rfl, hown, fun j hj => absurd hj (by omega), hbel⟩
  case round =>
    obtain ⟨k, xs, hk, rfl, hown, hxs, hbel⟩ := hrel
    by_cases hlt : k < n
    · have hc : wr.cell? ⟨b, off + k, none⟩ = some (.int .u8 (f k)) := (hbel.cell hb).trans (hcell k hlt)
      have hd : wr.cell? ⟨w.heap.size, k, none⟩ = some (xs[k]'(by rw [hown.1]; omega)) := by rw [hown.cellAt k (by omega)]; simp [hown.1, hlt]
      have hfz := hown.frozenAt k
      go_wp2
      go_roundw
      case rel =>
        refine ⟨k + 1, _, by omega, by go_num, (hown.stored k _).1, ?_, hbel.setCell (Nat.le_refl _) _⟩
        intro j hj
        have hl := hown.1
        by_cases e : j = k
        · subst e; simp [show j < xs.length by omega]
        · rw [List.getElem?_set_ne (by omega)]; exact hxs j (by omega)
      case measure => simp [intOf]; omega
    · go_wp2
      go_ret
      have hh : w.heap.size < wr.heap.size := (hown.lt w.heap.size rfl).2
      refine ⟨rfl, hbel, hh, fun j hj => ?_⟩
      rw [hown.cellAt j (by omega), hxs j (by omega)]

/-- The nil slice stays nil. -/
theorem clone_nil (n cap : Nat) (w : World) : Calls Try.prog 11 #[.slice none n cap] w fun e w' => e = .returned (.slice none 0 0) ∧ w' = w := by
  have hnil : ∀ (w : World) (a : Option Addr) (n c n' c' : Nat), (binOp .eql 22 (.slice a n c) (.slice none n' c')).run Try.prog w = .ok (.bool a.isNone) w := fun w a n c n' c' => Lib.run_eql_slice_nil w _ _ a n c n' c' Try.underlying22
  go_enter Try.func11, Try.ntmps11
  go_wp2
  go_ret
  exact ⟨rfl, rfl⟩

/-- An empty slice that is not nil, wherever it points. -/
theorem clone_empty (a : Addr) (cap : Nat) (w : World) :
    Calls Try.prog 11 #[.slice (some a) 0 cap] w fun e w' => e = .returned (.slice (some ⟨w.heap.size, 0, none⟩) 0 0) ∧ Below w.heap.size w w' ∧ w.heap.size < w'.heap.size := by
  obtain ⟨i0, hi, hz0, hz1, hz2⟩ := info_parts Try.info5
  have hnil : ∀ (w : World) (a : Option Addr) (n c n' c' : Nat), (binOp .eql 22 (.slice a n c) (.slice none n' c')).run Try.prog w = .ok (.bool a.isNone) w := fun w a n c n' c' => Lib.run_eql_slice_nil w _ _ a n c n' c' Try.underlying22
  go_enter Try.func11, Try.ntmps11
  go_wp2_with (at_make; refine wpList_make_full _ rfl (.tmp 8) (.tmp 8) 22 rfl w.heap.size 5 i0 (.int .u8 0) 1 Try.underlying22 hi hz0 hz1 .i64 .i64 _ _ 0 rfl rfl rfl rfl (by rw [hz2]; omega) (by unfold maxLen; omega) (Nat.le_refl _) ?_; intro w1 hown hgrow)
  clear hnil hi hz0 hz1 hz2
  have hbel : Below w.heap.size w w1 := (Below.refl _ _).grown hgrow (Nat.le_refl _) (by simp)
  have hh : w.heap.size < w1.heap.size := (hown.lt w.heap.size rfl).2
  refine wp_loop_rounds 1 ?_
  rw [rounds_succ]
  go_wp2
  go_ret
  exact ⟨rfl, hbel, hh⟩
end Go.Proofs.Qxb6600009a
