/- The contract of spec.Varint: a slice in new memory that holds the number's groups of seven bits, for every number of 64 bits. -/
import Derived.Test.YtnpmdnfgmbimjaaVImpl
namespace Go.Proofs.Ytnpmdnfgmbimjaa.fnVarint
open Go.ChangeShapes Go.WideShapes Go.ChangeAt Go.RowKit
open Go.Proofs.Ytnpmdnfgmbimjaa.Vb

/-- One element, laid in a block of its own ahead of its append. -/
theorem news1 (w : World) (x : Value) (t : TypeId) (j : Nat) (u : Value) (hj : [x][j]? = some u) : (w.alloc (.cells #[x] t)).cell? ((⟨w.heap.size, 0, none⟩ : Addr).add j) = some u := by
  match j, hj with
  | 0, hj => simp at hj; subst hj; rw [Addr.add_lit]; exact World.cell?_alloc_new w #[x] t 0
theorem one1 (n : Int) : ∀ u ∈ [Value.int .u8 n], u.oneCell' = true := by
  intro u hu; simp at hu; subst hu; rfl
theorem own_grow {B : Nat} {w wr : World} (hb : Below B w wr) (hB : B ≤ w.heap.size) : B ≤ wr.heap.size := Nat.le_trans hB hb.size

set_option maxHeartbeats 1000000 in
theorem c9 (N : Nat) (w : World) (hN : N < 18446744073709551616) :
    Calls Try.prog 9 #[.int .u64 (N : Int)] w (GivesRow (vb N) w) := by
  obtain ⟨i0, hi, hz0, hz1, hz2⟩ := info_parts Try.info5
  have hl := vb_len10 N hN
  go_enter Try.func9, Try.ntmps9
  go_wp2
  go_loopw [0, 3] (fun n v wr => ∃ (y : Nat) (done : List Int), n = .int .u64 (y : Int) ∧ y < 18446744073709551616 ∧ Hid (done ++ vb y = vb N) ∧ Hid (wr.ownsRow w.heap.size 5 1 v done.length (done.map (Value.int .u8))) ∧ Hid (Below w.heap.size w wr))
    (fun n _ _ => (intOf n).toNat)
  case atStart => exact ⟨N, [], rfl, hN, rfl, World.ownsRow_made w #[] 0 (Nat.le_refl _) (by decide) rfl, (Below.refl _ _).alloc (Nat.le_refl _) _⟩
  case round =>
    obtain ⟨y, done, rfl, hy64, hd, hown, hB⟩ := hrel
    have hlen := done_lt hd.out
    have hpos := vb_pos y
    have hk : done.length + 1 ≤ 10 := by omega
    clear hlen hpos hl
    by_cases hy : y < 128
    · have hy1 : ¬ (128 : Int) ≤ (y : Int) := by omega
      go_wp2_with (at_builtin; refine wpList_append_own _ rfl _ _ 27 rfl w.heap.size 5 i0 (.int .u8 0) 1 1 Try.underlying27 hi hz0 hz1 hz2 rfl (by decide) _ _ _ rfl (hown.out.alloc _) ⟨wr.heap.size, 0, none⟩ 1 1 [.int .u8 (y : Int)] rfl rfl (news1 wr _ 5) (one1 _) ?c3 ?c4 ?c5 ?_)
      case c3 => unfold maxLen; omega
      case c4 => omega
      case c5 => have := hB.out.size; simp; omega
      intro v' w1 hown' hgrow _
      have HO : Hid (w1.ownsRow w.heap.size 5 1 v' (vb N).length ((vb N).map (Value.int .u8))) := by
        rw [← step_lt hd.out hy]
        simpa [Hid] using hown'
      have HB : Hid (Below w.heap.size w w1) := (hB.out.alloc hB.out.size _).grown hgrow (by have := hB.out.size; simp; omega) (fun k hk => (hown.out.lt k hk).1)
      clear hown' hgrow
      go_wp2
      go_ret
      exact ⟨v', rfl, HO.out, HB.out⟩
    · have hy1 : (128 : Int) ≤ (y : Int) := by omega
      obtain ⟨c, hc⟩ : ∃ c : Nat, c = y % 256 := ⟨_, rfl⟩
      have hc2 : c < 256 := by omega
      have hcy : (y : Int) % 256 = (c : Int) := by omega
      obtain ⟨d, hd'⟩ : ∃ d : Nat, d = c % 128 + 128 := ⟨_, rfl⟩
      have hor := or_u8 c hc2
      rw [← hd'] at hor
      have hdy : Hid (d = y % 128 + 128) := by show _ = _; omega
      clear hc hd'
      go_wp2_with (at_builtin; refine wpList_append_own _ rfl _ _ 27 rfl w.heap.size 5 i0 (.int .u8 0) 1 1 Try.underlying27 hi hz0 hz1 hz2 rfl (by decide) _ _ _ rfl (hown.out.alloc _) ⟨wr.heap.size, 0, none⟩ 1 1 [.int .u8 (d : Int)] rfl rfl (news1 wr _ 5) (one1 _) ?c3 ?c4 ?c5 ?_)
      case c3 => unfold maxLen; omega
      case c4 => omega
      case c5 => have := hB.out.size; simp; omega
      intro v' w1 hown' hgrow _
      have HO : Hid (w1.ownsRow w.heap.size 5 1 v' (done ++ [(d : Int)]).length ((done ++ [(d : Int)]).map (Value.int .u8))) := by
        simpa [Hid] using hown'
      have HB : Hid (Below w.heap.size w w1) := (hB.out.alloc hB.out.size _).grown hgrow (by have := hB.out.size; simp; omega) (fun k hk => (hown.out.lt k hk).1)
      have HD := step_ge hd.out hy
      rw [← hdy.out] at HD
      clear hown' hgrow
      go_wp2
      go_roundw
      case rel => exact ⟨y / 128, done ++ [(d : Int)], by go_num, by omega, HD, HO, HB⟩
      case measure => simp [intOf]; omega
end Go.Proofs.Ytnpmdnfgmbimjaa.fnVarint
