import Derived.Test.Qxb6600009aBase
import Derived.Test.Qxb6600009aPlain
namespace Go.Proofs.Qxb6600009a
open Go.RowKit Plain

/-- w' is w but for block s, which holds the scanner: its text and where it stands. -/
structure Scan (s : Nat) (tv : Value) (i : Int) (w w' : World) : Prop where
  os : w'.os = w.os
  tape : w'.tape = w.tape
  output : w'.output = w.output
  size : w'.heap.size = w.heap.size
  block : ∀ k, k ≠ s → w'.heap[k]? = w.heap[k]?
  here : w'.heap[s]? = some (.cells #[tv, .int .i64 i] 41 (0, 0))

theorem Scan.start {s : Nat} {tv : Value} {i : Int} {w : World} (h : w.heap[s]? = some (.cells #[tv, .int .i64 i] 41 (0, 0))) : Scan s tv i w w := ⟨rfl, rfl, rfl, rfl, fun _ _ => rfl, h⟩
theorem Scan.drew {s : Nat} {tv : Value} {i : Int} {w w' : World} (h : Scan s tv i w w') : Scan s tv i w w'.drew := ⟨h.os, h.tape, h.output, h.size, h.block, h.here⟩
theorem Scan.drewN {s : Nat} {tv : Value} {i : Int} {w w' : World} (h : Scan s tv i w w') (q : Nat) : Scan s tv i w (w'.drewN q) := ⟨h.os, h.tape, h.output, h.size, h.block, h.here⟩
theorem Scan.cell0 {s : Nat} {tv : Value} {i : Int} {w w' : World} (h : Scan s tv i w w') : w'.cell? ⟨s, 0, none⟩ = some tv := by
  rw [cell_of_row w' s 0 _ 41 (0, 0) h.here]; rfl
theorem Scan.cell1 {s : Nat} {tv : Value} {i : Int} {w w' : World} (h : Scan s tv i w w') : w'.cell? ⟨s, 1, none⟩ = some (.int .i64 i) := by
  rw [cell_of_row w' s 1 _ 41 (0, 0) h.here]; rfl
theorem Scan.free1 {s : Nat} {tv : Value} {i : Int} {w w' : World} (h : Scan s tv i w w') : w'.frozen? ⟨s, 1, none⟩ = false := frozen_of_row w' s 1 _ 41 h.here
theorem Scan.other {s : Nat} {tv : Value} {i : Int} {w w' : World} (h : Scan s tv i w w') {p : Addr} (hp : p.block ≠ s) : w'.cell? p = w.cell? p := World.cell?_of_block (w := w) (h.block p.block hp)
theorem Scan.move {s : Nat} {tv : Value} {i : Int} {w w' : World} (h : Scan s tv i w w') (j : Int) : Scan s tv j w (w'.setCell ⟨s, 1, none⟩ (.int .i64 j)) := by
  refine ⟨h.os, h.tape, h.output, by simp [World.setCell, h.size], fun k hk => ?_, ?_⟩
  · rw [heap_setCell_other w' ⟨s, 1, none⟩ k _ hk]; exact h.block k hk
  · exact heap_setCell_same w' s 1 _ 41 _ h.here
theorem Scan.trans {s : Nat} {tv : Value} {i j : Int} {w w' w2 : World} (h : Scan s tv i w w') (k : Scan s tv j w' w2) : Scan s tv j w w2 :=
  ⟨k.os.trans h.os, k.tape.trans h.tape, k.output.trans h.output, k.size.trans h.size, fun b hb => (k.block b hb).trans (h.block b hb), k.here⟩

/-- Where the scanner stands (for a loop's measure). -/
def scanAt (s : Nat) (w : World) : Nat := (intOf ((w.cell? ⟨s, 1, none⟩).getD (.int .i64 0))).toNat
theorem Scan.scanAt {s : Nat} {tv : Value} {i : Nat} {w w' : World} (h : Scan s tv (i : Nat) w w') : scanAt s w' = i := by
  unfold Qxb6600009a.scanAt; rw [h.cell1]; simp [intOf]

theorem Scan.to {s : Nat} {tv : Value} {i j : Int} {w w' : World} (h : Scan s tv i w w') (e : i = j) : Scan s tv j w w' := e ▸ h
theorem Scan.less {s : Nat} {tv : Value} {i m : Nat} {j : Int} {w w' wr : World} (h : Scan s tv (i : Nat) w wr) (h' : Scan s tv j w w') (hij : (i : Int) < j) (hm : i < m) : m - Qxb6600009a.scanAt s w' < m - Qxb6600009a.scanAt s wr := by
  obtain ⟨j', rfl⟩ : ∃ j' : Nat, j = j' := ⟨j.toNat, by omega⟩
  rw [h.scanAt, h'.scanAt]; omega

theorem skipString_any (s b off n cap i0 : Nat) (f : Nat → Int) (w : World) (hn : n ≤ 4194304) (hi0 : i0 ≤ n) (hne : b ≠ s)
    (hs : w.heap[s]? = some (.cells #[.slice (some ⟨b, off, none⟩) n cap, .int .i64 i0] 41 (0, 0)))
    (hcell : ∀ k, k < n → w.cell? ⟨b, off + k, none⟩ = some (.int .u8 (f k))) :
    Calls Try.prog 30 #[.pointer (some ⟨s, 0, none⟩)] w fun e w' => e = .returned (.tuple #[]) ∧ Scan s (.slice (some ⟨b, off, none⟩) n cap) (sk f n (i0 + 1) : Nat) w w' := by
  have hS := Scan.start hs
  have c1 := hS.cell1
  have z1 := hS.free1
  have hS1 : Scan s (.slice (some ⟨b, off, none⟩) n cap) (↑i0 + 1) w (w.setCell ⟨s, 1, none⟩ (.int .i64 (↑i0 + 1))) := hS.move _
  clear hs hS
  go_enter Try.func30, Try.ntmps30
  go_wp2
  clear c1 z1
  go_loopw [] (fun wr => ∃ i : Nat, i ≤ n + 1 ∧ Scan s (.slice (some ⟨b, off, none⟩) n cap) (i : Nat) w wr ∧ Hid (sk f n i = sk f n (i0 + 1)))
     (fun wr => n + 1 - scanAt s wr)
  case atStart => exact ⟨i0 + 1, by omega, by simpa using hS1, rfl⟩
  case round =>
    obtain ⟨i, hi, hS, hsk⟩ := hrel
    have c0 := hS.cell0
    have c1 := hS.cell1
    have z1 := hS.free1
    by_cases hlt : i < n
    · have hc : wr.cell? ⟨b, off + i, none⟩ = some (.int .u8 (f i)) := (hS.other hne).trans (hcell i hlt)
      have hI : (0 : Int) ≤ (i : Int) := by omega
      have hI2 : (i : Int) < (n : Int) := by omega
      clear hcell hS1
      go_wp2; go_quiet (fail)
      go_wp2; go_quiet (fail)
      go_wp2
      · have t1 : (f i == 92) = true := by assumption
        go_roundw
        case rel => exact ⟨i + 2, by omega, (((hS.drewN _).move _).move _).to (by omega), (sk_back hlt (by simpa using t1)).symm.trans hsk⟩
        case measure => exact hS.less (((hS.drewN _).move _).move _) (by omega) (by omega)
      · have t1 : (f i == 34) = true := by assumption
        refine bodyPost_ret (results_none rfl _ _ _) rfl ?_
        refine ⟨rfl, ((hS.drewN _).move _).to ?_⟩
        have e : sk f n i = i + 1 := sk_quote hlt (by simpa using t1)
        have e2 : sk f n i = sk f n (i0 + 1) := hsk
        omega
      · have t1 : (f i == 92) = false := by assumption
        have t2 : (f i == 34) = false := by assumption
        go_roundw
        case rel => exact ⟨i + 1, by omega, ((hS.drewN _).move _).to (by omega), (sk_other hlt (by simpa using t1) (by simpa using t2)).symm.trans hsk⟩
        case measure => exact hS.less ((hS.drewN _).move _) (by omega) (by omega)
    · clear hcell hS1
      go_wp2; go_quiet (fail)
      go_wp2
      go_end0
      refine ⟨rfl, (hS.drewN _).to ?_⟩
      have e : sk f n i = i := sk_out hlt
      have e2 : sk f n i = sk f n (i0 + 1) := hsk
      omega
end Go.Proofs.Qxb6600009a
