/- The contract of writeVarint32: a number's groups of seven bits are handed to the transport's new buffer, for every number of 32 bits. -/
import Derived.Test.YtnpmdnfgmbimjaaVLoop
namespace Go.Proofs.Ytnpmdnfgmbimjaa.fnVarint
open Go.ChangeShapes Go.WideShapes Go.ChangeAt Go.RowKit
open Go.Proofs.Ytnpmdnfgmbimjaa.Vb

/-- What an int32 is to the number that it reads as, unsigned. -/
def Reads32 (x : Int) (m : Nat) : Prop := x = wrap32 (m : Int) ∧ m < 4294967296
theorem Reads32.bd {x : Int} {m : Nat} (h : Reads32 x m) : -2147483648 ≤ x ∧ x ≤ 2147483647 := by
  obtain ⟨rfl, h⟩ := h; unfold wrap32; omega
theorem Reads32.small {x : Int} {m : Nat} (h : Reads32 x m) (hm : m < 128) : x = m := by
  obtain ⟨rfl, h⟩ := h; unfold wrap32; omega
theorem Reads32.test {x : Int} {m : Nat} (h : Reads32 x m) : (bits .and .i32 x (-128) == 0) = decide (m < 128) := by
  have hb := h.bd
  rw [and80_i32 x hb.1 hb.2]
  obtain ⟨rfl, h⟩ := h
  rw [Bool.eq_iff_iff]
  simp only [beq_iff_eq, decide_eq_true_eq]
  unfold wrap32
  omega
theorem Reads32.low {x : Int} {m : Nat} (h : Reads32 x m) : bits .and .i32 x 127 = ((m % 128 : Nat) : Int) := by
  rw [and7f_i32]
  obtain ⟨rfl, h⟩ := h
  unfold wrap32
  omega
theorem Reads32.back {x : Int} {m : Nat} (h : Reads32 x m) : x % 4294967296 = (m : Int) := by
  obtain ⟨rfl, h⟩ := h
  unfold wrap32; omega
theorem Reads32.next {x : Int} {m : Nat} (h : Reads32 x m) : Reads32 ((m : Int) / 128) (m / 128) := by
  obtain ⟨_, h⟩ := h
  refine ⟨?_, by omega⟩
  unfold wrap32; omega

set_option maxRecDepth 100000 in
set_option maxHeartbeats 1000000 in
theorem c20 (p m b N : Nat) (og : Value) (x : Int) (w : World) (hx : Reads32 x N)
    (hp : w.heap[p]? = some (tcRow (.iface 47 (.pointer (some ⟨m, 0, none⟩))) og buf64))
    (hm : w.heap[m]? = some (.cells #[.pointer (some ⟨b, 0, none⟩), .int .i64 0] 58 (0, 0)))
    (hb : w.heap[b]? = some (.cells #[.slice none 0 0, .int .i64 0, .int .i8 0] 62 (0, 0)))
    (hpm : p ≠ m) (hpb : p ≠ b) (hmb : m ≠ b) :
    Calls Try.prog 20 #[.pointer (some ⟨p, 0, none⟩), .int .i32 x] w fun e w' => e = .returned (.tuple #[.int .i64 ((vb N).length : Nat), .nilIface]) ∧ Flushed p m b (vb N) w w' := by
  have hw0 := Wrote.start (tr := .iface 47 (.pointer (some ⟨m, 0, none⟩))) hp rfl
  have hml : Hid (m < w.heap.size) := (Array.getElem?_eq_some_iff.1 hm).1
  have hbl : Hid (b < w.heap.size) := (Array.getElem?_eq_some_iff.1 hb).1
  have HM := Lib.hid hm
  have HB := Lib.hid hb
  have hl := vb_len5 N hx.2
  have HX := Lib.hid hx
  clear hp hm hb hx
  go_enter Try.func20, Try.ntmps20
  go_wp2
  go_loopw [1, 7] (fun n idx wr => ∃ (k y : Nat) (done : List Int) (x' : Int), n = .int .i32 x' ∧ idx = .int .i64 k ∧ Hid (done.length = k) ∧ Hid (done ++ vb y = vb N) ∧ Hid (Reads32 x' y) ∧ Hid (Wrote p (.iface 47 (.pointer (some ⟨m, 0, none⟩))) og done w wr))
    (fun n idx _ => 5 - (intOf idx).toNat)
  case atStart => exact ⟨0, N, [], x, rfl, rfl, rfl, rfl, HX, hw0⟩
  case round =>
    obtain ⟨k, y, done, x', rfl, rfl, hk, hd, hx', hW⟩ := hrel
    have hlen := done_lt hd.out
    have hpos := vb_pos y
    have hk' : done.length = k := hk.out
    have k10 : k < 5 := by omega
    have hk1 : (k : Int) < 5 := by omega
    have hbd := hx'.out.bd
    obtain ⟨v, hcell⟩ := hW.out.cell k (by omega)
    have hfr := hW.out.frozen (10 + k)
    have ht := hx'.out.test
    clear hlen hk' hw0
    by_cases hy : y < 128
    · rw [decide_eq_true hy] at ht
      go_wp2
      generalize hWW : wr.setCell ⟨p, 10 + k, none⟩ (.int .u8 (x' % 256)) = W1
      have hS := hW.out.step k hk.out (by omega) (x' % 256)
      rw [hWW] at hS
      have hxy : x' % 256 = (y : Int) := by have := hx'.out.small hy; omega
      have hL : done ++ [x' % 256] = vb N := by rw [hxy]; exact step_lt hd.out hy
      have hkN : (vb N).length = k + 1 := by rw [← hL, List.length_append, hk.out]; rfl
      rw [hL] at hS
      have hc0 := hS.head
      have hsz : W1.heap.size = w.heap.size := hS.size
      have hm1 : W1.heap[m]? = some (.cells #[.pointer (some ⟨b, 0, none⟩), .int .i64 0] 58 (0, 0)) := (hS.grown.block m hml.out (by simpa using Ne.symm hpm)).trans HM.out
      have hb1 : W1.heap[b]? = some (.cells #[.slice none 0 0, .int .i64 0, .int .i8 0] 62 (0, 0)) := (hS.grown.block b hbl.out (by simpa using Ne.symm hpb)).trans HB.out
      have hmt := hmeth m b W1.drew (by show W1.cell? _ = _; simp [World.cell?, hm1])
      have HS := Lib.hid hS
      have HB1 := Lib.hid hb1
      have HKN := Lib.hid hkN
      have HSZ := Lib.hid hsz
      clear hS hWW hcell hfr ht hbd hxy hL hkN hm1 hb1 hsz hl hpos
      have HC := Lib.hid (c51 b p 10 (k + 1) 64 ((vb N).map (Value.int .u8)) W1.drew (by rw [List.length_map]; exact HKN.out) (by omega) (by omega) HB1.out HS.out.bytes hpb (by simp [Value.oneCell']))
      have i0 : (0 : Int) ≤ (k : Int) + 1 := by omega
      have i1 : (k : Int) + 1 ≤ 64 := by omega
      go_region_held3 (fun w' => w'.cell? ⟨p, 0, none⟩ = some (.iface 47 (.pointer (some ⟨m, 0, none⟩)))) (first | assumption | go_keep)
        (first
          | (go_at_call 51; ((with_reducible refine HC.out.mono ?_); rintro e w' ⟨rfl, hgr, hB, hG⟩; have hc1 : w'.cell? ⟨p, 0, none⟩ = some (.iface 47 (.pointer (some ⟨m, 0, none⟩))) := hgr.cell (show W1.drew.cell? _ = _ from HS.out.head) (by simpa using hpb); have HGR := Lib.hid hgr; have HBB := Lib.hid hB; have HG := Lib.hid hG; clear hgr hB hG)))
      go_wp2
      go_ret2
      refine ⟨?_, flushed HS.out hpm hmb hml.out HGR.out ?_ ?_⟩
      · rw [HKN.out]; rfl
      · rw [HKN.out]; exact HBB.out
      · rw [HKN.out]; exact HG.out
    · rw [decide_eq_false hy] at ht
      obtain ⟨c, hc⟩ : ∃ c : Nat, c = y % 128 := ⟨_, rfl⟩
      have hlow := hx'.out.low
      rw [← hc] at hlow
      have hc8 : c < 128 := by omega
      have hor := or80_i32 c hc8
      have hback := hx'.out.back
      have hy2 : y < 4294967296 := hx'.out.2
      have HC := Lib.hid hc
      clear hc
      go_wp2
      have HR := step_ge hd.out hy
      have HE : ((y % 128 + 128 : Nat) : Int) = (c : Int) + 128 := by rw [← HC.out]; rfl
      rw [HE] at HR
      have HW := hW.out.step k hk.out (by omega) ((c : Int) + 128)
      go_roundw
      case rel => exact ⟨k + 1, y / 128, done ++ [(c : Int) + 128], _, rfl, by go_num, (by rw [List.length_append, hk.out]; rfl : (done ++ [(c : Int) + 128]).length = k + 1), HR, hx'.out.next, HW⟩
      case measure => simp [intOf]; omega
end Go.Proofs.Ytnpmdnfgmbimjaa.fnVarint
