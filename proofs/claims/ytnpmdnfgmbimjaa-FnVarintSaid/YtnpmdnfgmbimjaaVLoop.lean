/- What the loops of writeVarint32 and writeVarint64 do to the protocol's own buffer, and how the last step hands the bytes on. -/
import Derived.Test.YtnpmdnfgmbimjaaVWrite
import Derived.Deep.RegionHeld3
import Derived.Deep.DrawnRows
namespace Go.Proofs.Ytnpmdnfgmbimjaa.fnVarint
open Go.ChangeShapes Go.WideShapes Go.ChangeAt Go.RowKit
open Go.Proofs.Ytnpmdnfgmbimjaa.Vb

/-- The protocol's block: its head, and what its buffer holds. -/
def tcRow (tr og : Value) (buf : List Value) : Obj := .cells (tcHead tr og ++ buf).toArray 43 (0, 0)

theorem tcHead_len (tr og : Value) : (tcHead tr og).length = 10 := rfl

/-- What the loop has done: k bytes lie in the protocol's buffer; no other block has turned. -/
structure Wrote (p : Nat) (tr og : Value) (done : List Int) (w wr : World) : Prop where
  row : ∃ buf : List Value, wr.heap[p]? = some (tcRow tr og buf) ∧ buf.length = 64 ∧ buf.take done.length = done.map (Value.int .u8)
  grown : w.grownBy wr (some p)
  size : wr.heap.size = w.heap.size

theorem Wrote.start {p : Nat} {tr og : Value} {w : World} {buf : List Value} (h : w.heap[p]? = some (tcRow tr og buf)) (hl : buf.length = 64) : Wrote p tr og [] w w :=
  ⟨⟨buf, h, hl, by simp⟩, ⟨rfl, rfl, rfl, Nat.le_refl _, fun _ _ _ => rfl⟩, rfl⟩

theorem Wrote.cell {p : Nat} {tr og : Value} {done : List Int} {w wr : World} (h : Wrote p tr og done w wr) (k : Nat) (hk : k < 64) : ∃ v, wr.cell? ⟨p, 10 + k, none⟩ = some v := by
  obtain ⟨buf, hb, hl, _⟩ := h.row
  refine ⟨buf[k], ?_⟩
  simp only [World.cell?, hb, tcRow, List.getElem?_toArray]
  rw [List.getElem?_append_right (by simp [tcHead_len])]
  simp [tcHead_len]
theorem Wrote.frozen {p : Nat} {tr og : Value} {done : List Int} {w wr : World} (h : Wrote p tr og done w wr) (o : Nat) : wr.frozen? ⟨p, o, none⟩ = false := by
  obtain ⟨buf, hb, _⟩ := h.row
  simp [World.frozen?, hb, tcRow]
theorem Wrote.head {p : Nat} {tr og : Value} {done : List Int} {w wr : World} (h : Wrote p tr og done w wr) : wr.cell? ⟨p, 0, none⟩ = some tr := by
  obtain ⟨buf, hb, _⟩ := h.row
  simp [World.cell?, hb, tcRow, tcHead]
theorem Wrote.step {p : Nat} {tr og : Value} {done : List Int} {w wr : World} (h : Wrote p tr og done w wr) (k : Nat) (hk : done.length = k) (h64 : k < 64) (x : Int) :
    Wrote p tr og (done ++ [x]) w (wr.setCell ⟨p, 10 + k, none⟩ (.int .u8 x)) := by
  subst hk
  obtain ⟨buf, hb, hl, ht⟩ := h.row
  have h1 := heap_setCell_same wr p (10 + done.length) _ 43 (.int .u8 x) hb
  refine ⟨⟨buf.set done.length (.int .u8 x), ?_, by simp [hl], ?_⟩, ⟨h.grown.os, h.grown.tape, h.grown.output, ?_, ?_⟩, ?_⟩
  · rw [h1]
    simp only [tcRow, List.setIfInBounds_toArray]
    rw [List.set_append_right _ _ (by simp [tcHead_len])]
    simp [tcHead_len]
  · rw [List.length_append, List.length_singleton, List.map_append, ← ht, List.take_add_one]
    simp [hl, h64, List.take_set_of_le]
  · have := h.grown.size
    simpa [World.setCell] using this
  · intro k hk hne
    rw [Below.heap_setCell _ _ _ _ (fun e => hne (by simp at e; rw [e]))]
    exact h.grown.block k hk hne
  · rw [← h.size]; simp [World.setCell]

/-- A method called on the transport: the embedded buffer's own. -/
theorem hmeth0 (m : Nat) (w : World) : (method 219 47 (.pointer (some ⟨m, 0, none⟩)) "Write").run Try.prog w =
    ((do let v ← loadVar 56 ⟨m, 0, none⟩; pure (51, v)) : Sem (FuncId × Value)).run Try.prog w := by kernel_rfl
theorem hmeth (m b : Nat) (w : World) (h : w.cell? ⟨m, 0, none⟩ = some (.pointer (some ⟨b, 0, none⟩))) :
    (method 219 47 (.pointer (some ⟨m, 0, none⟩)) "Write").run Try.prog w = .ok (51, .pointer (some ⟨b, 0, none⟩)) w := by
  rw [hmeth0]
  go_simp

/-- What a writer of the protocol leaves: the bytes L in a new row, the buffer's slice leads there; nothing below both blocks has turned. -/
structure Flushed (p m b : Nat) (L : List Int) (w w' : World) : Prop where
  at_ : ∃ g, w.heap.size ≤ g ∧ w'.heap[b]? = some (.cells #[.slice (some ⟨g, 0, none⟩) L.length 64, .int .i64 0, .int .i8 0] 62 (0, 0)) ∧
    w'.heap[g]? = some (.cells (L.map (Value.int .u8) ++ buf64.drop L.length).toArray 5 (0, 0))
  shell : w'.heap[m]? = w.heap[m]?
  below : ∀ B, B ≤ p → B ≤ b → B ≤ w.heap.size → Below B w w'

theorem Wrote.bytes {p : Nat} {tr og : Value} {done : List Int} {w wr : World} (h : Wrote p tr og done w wr) :
    ∀ j v, (done.map (Value.int .u8))[j]? = some v → wr.cell? ⟨p, 10 + j, none⟩ = some v := by
  obtain ⟨buf, hb, hl, ht⟩ := h.row
  intro j v hj
  simp only [World.cell?, hb, tcRow, List.getElem?_toArray]
  rw [List.getElem?_append_right (by simp [tcHead_len])]
  rw [← ht, List.getElem?_take] at hj
  split at hj
  · simpa [tcHead_len] using hj
  · cases hj

/-- The writer's last step, put together. -/
theorem flushed {p m b : Nat} {tr og : Value} {L : List Int} {w W1 w' : World} (hS : Wrote p tr og L w W1) (hpm : p ≠ m) (hmb : m ≠ b) (hm : m < w.heap.size)
    (hgr : W1.drew.grownBy w' (some b)) (hB : w'.heap[b]? = some (.cells #[.slice (some ⟨W1.drew.heap.size, 0, none⟩) L.length 64, .int .i64 0, .int .i8 0] 62 (0, 0)))
    (hG : w'.heap[W1.drew.heap.size]? = some (.cells (L.map (Value.int .u8) ++ buf64.drop L.length).toArray 5 (0, 0))) : Flushed p m b L w w' := by
  have hsz : W1.drew.heap.size = w.heap.size := hS.size
  refine ⟨⟨_, Nat.le_of_eq hsz.symm, hB, hG⟩, ?_, ?_⟩
  · rw [hgr.block m (by omega) (by simpa using hmb)]
    exact hS.grown.block m hm (by simpa using Ne.symm hpm)
  · intro B h1 h2 h3
    have k1 : Below B w W1 := (Below.refl B w).grown hS.grown h3 (fun k hk => by cases hk; exact h1)
    exact k1.drew.grown hgr (by rw [hsz]; exact h3) (fun k hk => by cases hk; exact h2)

end Go.Proofs.Ytnpmdnfgmbimjaa.fnVarint
