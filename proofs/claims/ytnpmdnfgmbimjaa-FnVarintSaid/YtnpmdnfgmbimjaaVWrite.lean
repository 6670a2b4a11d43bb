/- The contract of bytes.Buffer.Write at a buffer that is new: the bytes (1 to 64) lie in a new row behind it, the buffer's slice leads to that row, all else is as it was. -/
import Derived.Test.YtnpmdnfgmbimjaaVNew
import Derived.Deep.QuietTactic
import Derived.BigQuiet
namespace Go.Proofs.Ytnpmdnfgmbimjaa.fnVarint
open Go.ChangeShapes Go.WideShapes Go.ChangeAt Go.RowKit

theorem c54 (b n : Nat) (w : World) (h1 : 1 ≤ n) (h2 : n ≤ 64) (hb0 : w.cell? ⟨b, 0, none⟩ = some (.slice none 0 0)) :
    Calls Try.prog 54 #[.pointer (some ⟨b, 0, none⟩), .int .i64 n] w fun e w' => e = .returned (.tuple #[.int .i64 0, .bool false]) ∧ w = w' := by
  go_enter Try.func54, Try.ntmps54
  go_wp2
  go_ret2
  exact ⟨rfl, rfl⟩
theorem c56 (b : Nat) (w : World) (hb0 : w.cell? ⟨b, 0, none⟩ = some (.slice none 0 0)) (hb1 : w.cell? ⟨b, 1, none⟩ = some (.int .i64 0)) :
    Calls Try.prog 56 #[.pointer (some ⟨b, 0, none⟩)] w fun e w' => e = .returned (.int .i64 0) ∧ ∃ q, w' = w.drewN q := by
  go_enter Try.func56, Try.ntmps56
  go_wp2
  go_quiet (fail)
  go_wp2
  go_ret
  exact ⟨rfl, _, rfl⟩
/-- The row of a new buffer. -/
def buf64 : List Value := List.replicate 64 (Value.int .u8 0)
theorem Try.info5 : (Try.prog.info? 5).map (fun i => (i.zero, i.size, i.bytes)) = some (some (.int .u8 0), 1, 1) := by kernel_rfl
theorem made64 : madeCells (Value.int .u8 0).cells (Int.toNat 64 * 1) = buf64.toArray := by kernel_rfl
theorem hmake (n : Nat) (h2 : n ≤ 64) (w : World) : (Instr.makeSlice 27 (.int .i64 n) (.int .i64 64)).run Try.prog w = .ok (.slice (some ⟨w.heap.size, 0, none⟩) n 64) (w.alloc (.cells buf64.toArray 5)) := by
  obtain ⟨i0, hi, hz0, hz1, hz2⟩ := info_parts Try.info5
  have h := run_makeSlice (P := Try.prog) w 27 5 i0 (.int .u8 0) Try.underlying27 hi hz0 .i64 .i64 (n : Int) 64 (by omega) (by omega) (by rw [hz1]; decide) (by rw [hz2]; decide) (by decide)
  rw [h, hz1, made64, Int.toNat_natCast]
  rfl
theorem c55 (b n : Nat) (w : World) (h1 : 1 ≤ n) (h2 : n ≤ 64) (hb0 : w.cell? ⟨b, 0, none⟩ = some (.slice none 0 0)) (hb1 : w.cell? ⟨b, 1, none⟩ = some (.int .i64 0)) (hf0 : w.frozen? ⟨b, 0, none⟩ = false) :
    Calls Try.prog 55 #[.pointer (some ⟨b, 0, none⟩), .int .i64 n] w fun e w' => e = .returned (.int .i64 0) ∧
      ∃ q, w' = ((w.drewN q).alloc (.cells buf64.toArray 5)).setCell ⟨b, 0, none⟩ (.slice (some ⟨w.heap.size, 0, none⟩) n 64) := by
  have hm := hmake n h2
  have hlt : b < w.heap.size := World.block_lt_of_cell? w ⟨b, 0, none⟩ hb0
  have f1 : ∀ q o, ((w.drewN q).alloc o).cell? ⟨b, 0, none⟩ = some (.slice none 0 0) := fun q o => (World.cell?_alloc_lt (w.drewN q) o ⟨b, 0, none⟩ hlt).trans hb0
  have f2 : ∀ q o, ((w.drewN q).alloc o).frozen? ⟨b, 0, none⟩ = false := fun q o => (World.frozen?_alloc_old (w.drewN q) o ⟨b, 0, none⟩ (Nat.ne_of_lt hlt)).trans hf0
  clear hlt
  have q27 : ∀ (w : World) (a : Option Addr) (n c n' c' : Nat), (binOp .eql 27 (.slice a n c) (.slice none n' c')).run Try.prog w = .ok (.bool a.isNone) w := fun w a n c n' c' => Lib.run_eql_slice_nil w _ _ a n c n' c' Try.underlying27
  go_enter Try.func55, Try.ntmps55
  go_wp2_with (first
    | (go_at_call 56; ((with_reducible refine (c56 b _ (by assumption) (by assumption)).mono ?_); rintro e w' ⟨rfl, q, rfl⟩))
    | (go_at_call 54; ((with_reducible refine (c54 b n _ h1 h2 (by simp [hb0])).mono ?_); rintro e w' ⟨rfl, rfl⟩)))
  go_ret
  exact ⟨rfl, _, rfl⟩

theorem setCell_self (w : World) (b i : Nat) (cs : Array Value) (t : TypeId) (v : Value) (hb : w.heap[b]? = some (.cells cs t (0, 0))) (hi : cs[i]? = some v) : w.setCell ⟨b, i, none⟩ v = w := by
  have hc : cs.setIfInBounds i v = cs := by
    apply Array.ext_getElem?
    intro k
    rw [Array.getElem?_setIfInBounds]
    split
    · rename_i e; subst e
      rw [hi]
      have := (Array.getElem?_eq_some_iff.1 hi).1
      simp [this]
    · rfl
  have h1 := heap_setCell_same w b i cs t v hb
  rw [hc] at h1
  have h2 : (w.setCell ⟨b, i, none⟩ v).heap = w.heap := by
    apply Array.ext_getElem?
    intro k
    by_cases hk : k = b
    · subst hk; rw [h1, hb]
    · exact Below.heap_setCell w _ v k hk
  show { w with heap := (w.setCell ⟨b, i, none⟩ v).heap } = w
  rw [h2]

/-- bytes.Buffer.grow at a new buffer, by what it leaves. -/
theorem c55b (b n : Nat) (w : World) (h1 : 1 ≤ n) (h2 : n ≤ 64) (hb : w.heap[b]? = some (.cells #[.slice none 0 0, .int .i64 0, .int .i8 0] 62 (0, 0))) :
    Calls Try.prog 55 #[.pointer (some ⟨b, 0, none⟩), .int .i64 n] w fun e w' => e = .returned (.int .i64 0) ∧ w.grownBy w' (some b) ∧
      w'.heap[b]? = some (.cells #[.slice (some ⟨w.heap.size, 0, none⟩) n 64, .int .i64 0, .int .i8 0] 62 (0, 0)) ∧ w'.heap[w.heap.size]? = some (.cells buf64.toArray 5 (0, 0)) := by
  have hlt : b < w.heap.size := (Array.getElem?_eq_some_iff.1 hb).1
  refine (c55 b n w h1 h2 (by simp [World.cell?, hb]) (by simp [World.cell?, hb]) (by simp [World.frozen?, hb])).mono ?_
  rintro e w' ⟨rfl, q, rfl⟩
  have hb2 : ((w.drewN q).alloc (.cells buf64.toArray 5)).heap[b]? = some (.cells #[.slice none 0 0, .int .i64 0, .int .i8 0] 62 (0, 0)) :=
    (Below.heap_alloc (w.drewN q) _ b hlt).trans hb
  refine ⟨rfl, ⟨rfl, rfl, rfl, ?_, ?_⟩, heap_setCell_same _ b 0 _ 62 _ hb2, ?_⟩
  · simp [World.setCell, World.alloc]
  · intro k hk hne
    rw [Below.heap_setCell _ _ _ _ (fun e => hne (by simp at e; rw [e]))]
    exact Below.heap_alloc (w.drewN q) _ k hk
  · rw [Below.heap_setCell _ _ _ _ (by simp; omega)]
    exact heap_alloc_new (w.drewN q) _

theorem copy_run (w w' : World) (b pb po n c : Nat) (xs : List Value) (hn : xs.length = n) (h2 : n ≤ 64) (hgr : w.grownBy w' (some b)) (hpb : pb ≠ b)
    (hG : w'.heap[w.heap.size]? = some (.cells buf64.toArray 5 (0, 0))) (hx : ∀ j v, xs[j]? = some v → w.cell? ⟨pb, po + j, none⟩ = some v) (h8 : ∀ v ∈ xs, v.oneCell' = true) :
    (Builtin.copy_ #[27, 27] 3 #[.slice (some ⟨w.heap.size, 0, none⟩) n 64, .slice (some ⟨pb, po, none⟩) n c]).run Try.prog w' =
      .ok (.int .i64 n) (w'.setRow w.heap.size (xs ++ buf64.drop n).toArray) := by
  have hs : (Try.prog.info? 5).map (·.size) = some 1 := by kernel_rfl
  have h := run_copy_row (P := Try.prog) w' 27 27 3 5 w.heap.size 0 n 64 ⟨pb, po, none⟩ n c buf64.toArray 5 xs Try.underlying27 hs hG (by rw [hn]; exact (Nat.min_self n).symm)
    (fun j v hj => by rw [Addr.add_lit]; exact hgr.cell (hx j v hj) (by simpa using hpb)) (by simp [buf64, hn]; exact h2) h8
  rw [h, hn]
  simp [goInt]

/-- bytes.Buffer.Write at a new buffer: the bytes lie in a new row. -/
theorem c51 (b pb po n c : Nat) (xs : List Value) (w : World) (hn : xs.length = n) (h1 : 1 ≤ n) (h2 : n ≤ 64)
    (hb : w.heap[b]? = some (.cells #[.slice none 0 0, .int .i64 0, .int .i8 0] 62 (0, 0)))
    (hx : ∀ j v, xs[j]? = some v → w.cell? ⟨pb, po + j, none⟩ = some v) (hpb : pb ≠ b) (h8 : ∀ v ∈ xs, v.oneCell' = true) :
    Calls Try.prog 51 #[.pointer (some ⟨b, 0, none⟩), .slice (some ⟨pb, po, none⟩) n c] w fun e w' => e = .returned (.tuple #[.int .i64 n, .nilIface]) ∧
      w.grownBy w' (some b) ∧ w'.heap[b]? = some (.cells #[.slice (some ⟨w.heap.size, 0, none⟩) n 64, .int .i64 0, .int .i8 0] 62 (0, 0)) ∧
        w'.heap[w.heap.size]? = some (.cells (xs ++ buf64.drop n).toArray 5 (0, 0)) := by
  have hlt : b < w.heap.size := (Array.getElem?_eq_some_iff.1 hb).1
  have hb0 : w.cell? ⟨b, 0, none⟩ = some (.slice none 0 0) := by simp [World.cell?, hb]
  have hb1 : w.cell? ⟨b, 1, none⟩ = some (.int .i64 0) := by simp [World.cell?, hb]
  have hb2 : w.cell? ⟨b, 2, none⟩ = some (.int .i8 0) := by simp [World.cell?, hb]
  have hf : ∀ o, w.frozen? ⟨b, o, none⟩ = false := fun o => by simp [World.frozen?, hb]
  have hs := setCell_self w b 2 _ 62 (.int .i8 0) hb rfl
  have HB := Lib.hid hb
  have HX := Lib.hid hx
  have HN := Lib.hid hn
  have H8 := Lib.hid h8
  have HP := Lib.hid hpb
  have HL := Lib.hid hlt
  clear hb hx hn h8 hpb hlt
  go_enter Try.func51, Try.ntmps51
  go_wp2_with (first
    | (go_at_call 54; ((with_reducible refine (c54 b n _ h1 h2 (by simp [hb0])).mono ?_); rintro e w' ⟨rfl, rfl⟩))
    | (go_at_call 55; ((with_reducible refine (c55b b n _ h1 h2 HB.out).mono ?_); rintro e w' ⟨rfl, hgr, hB, hG⟩; clear hb0 hb1 hb2 hf hs; have hb0 : w'.cell? ⟨b, 0, none⟩ = some (.slice (some ⟨w.heap.size, 0, none⟩) n 64) := (by simp [World.cell?, hB]); have hcp := copy_run w w' b pb po n c xs HN.out h2 hgr HP.out hG HX.out H8.out; have HGR := Lib.hid hgr; have HBB := Lib.hid hB; have HG := Lib.hid hG; clear hgr hB hG)))
  go_ret2
  have hgr := HGR.out
  refine ⟨rfl, ⟨hgr.os, hgr.tape, hgr.output, ?_, ?_⟩, ?_, ?_⟩
  · rw [size_setRow]; exact hgr.size
  · intro k hk hne
    rw [setRow_other _ _ _ _ (by omega)]
    exact hgr.block k hk hne
  · rw [setRow_other _ _ _ _ (Nat.ne_of_lt HL.out)]
    exact HBB.out
  · exact setRow_heap _ _ _ _ _ _ HG.out
end Go.Proofs.Ytnpmdnfgmbimjaa.fnVarint
