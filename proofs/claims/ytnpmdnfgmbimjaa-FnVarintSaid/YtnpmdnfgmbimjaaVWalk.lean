/- The walk of laws.FnVarint: four calls and four conversions in one statement, in whatever order Go's rules allow: true for every number of 64 bits; what was in memory is as it was. -/
import Derived.Test.YtnpmdnfgmbimjaaVSpec
import Derived.Deep.RegionWith
namespace Go.Proofs.Ytnpmdnfgmbimjaa.fnVarint
open Go.ChangeShapes Go.WideShapes Go.ChangeAt Go.RowKit
open Go.Proofs.Ytnpmdnfgmbimjaa.Vb

/-- The string of a list of bytes. -/
def strOf (L : List Int) : ByteArray := L.foldl (fun r n => r.push (UInt8.ofNat n.toNat)) ByteArray.empty

/-- 'string(b)' of a slice of the call's own, at whatever later world. -/
theorem conv_run {v : Value} {L : List Int} {B : Nat} {w1 W : World} (ho : w1.ownsRow B 5 1 v L.length (L.map (Value.int .u8))) (hb : Below w1.heap.size w1 W) (hp : 1 ≤ L.length) :
    (convert 27 9 v).run Try.prog W = .ok (.string (strOf L)) W := by
  rcases ho.2 with ⟨_, h0⟩ | ⟨g, cap, cur, rfl, _, hg, _, _, _, ht⟩
  · omega
  · have hlt : g < w1.heap.size := (Array.getElem?_eq_some_iff.1 hg).1
    have hg' : W.heap[g]? = some (.cells cur 5 (0, 0)) := (hb.block g hlt).trans hg
    rw [run_convert_bytes_string W 27 9 5 _ _ _ Try.underlying27 Try.underlying5 Try.underlying9]
    have hl := run_loadCells_list (P := Try.prog) W ⟨g, 0, none⟩ (L.map (Value.int .u8)) (by
      intro j u hj
      rw [Addr.add_lit]
      simp only [World.cell?, hg', Nat.zero_add]
      rw [← ht, List.getElem?_take] at hj
      split at hj
      · simpa using hj
      · cases hj)
    rw [List.length_map] at hl
    exact run_bytesToString (P := Try.prog) W ⟨g, 0, none⟩ L.length cap L hl

/-- Four calls, one behind the other, behind a draw. -/
theorem chain4 {w w1 w2 w3 w4 : World} (h1 : Below w.drew.heap.size w.drew w1) (h2 : Below w1.heap.size w1 w2) (h3 : Below w2.heap.size w2 w3) (h4 : Below w3.heap.size w3 w4) : Below w.heap.size w w4 := by
  have k1 : Below w.heap.size w w1 := ((Below.refl w.heap.size w).drew).trans h1
  have k2 : Below w.heap.size w w2 := k1.trans (h2.mono k1.size)
  have k3 : Below w.heap.size w w3 := k2.trans (h3.mono k2.size)
  exact k3.trans (h4.mono k3.size)

theorem low32 (N : Nat) (hN : N < 18446744073709551616) : bits .and .u64 (N : Int) 4294967295 = ((N % 4294967296 : Nat) : Int) := by
  rw [show (4294967295 : Int) = ((4294967295 : Nat) : Int) from rfl, u64_and _ _ (by omega) (by omega) (by omega) (by omega)]
  simp only [Int.toNat_natCast]
  rw [show (4294967295 : Nat) = 2 ^ 32 - 1 from rfl, Nat.and_two_pow_sub_one_eq_mod]

set_option maxRecDepth 100000 in
set_option maxHeartbeats 4000000 in
theorem walk0 (N : Nat) (w : World) (hN : N < 18446744073709551616) :
    Calls Try.prog 4 #[.int .u64 (N : Int)] w fun e w' => e = .returned (.bool true) ∧ Below w.heap.size w w' := by
  obtain ⟨M, hM, hM32⟩ : ∃ M : Nat, bits .and .u64 (N : Int) 4294967295 = (M : Int) ∧ M < 4294967296 := ⟨_, low32 N hN, Nat.mod_lt _ (by decide)⟩
  have hM64 : M < 18446744073709551616 := by omega
  go_enter Try.func4, Try.ntmps4
  go_wp2
  go_region_with (first
    | (go_at_call 8; ((with_reducible refine (c8_64 N _ hN).mono ?_); rintro e w1 ⟨v1, rfl, ho1, hb1⟩; have k1 := conv_run ho1 (Below.refl _ _) (vb_pos N); have HO1 := Lib.hid ho1; have HB1 := Lib.hid hb1; clear ho1 hb1))
    | (go_at_call 9; ((with_reducible refine (c9 N _ hN).mono ?_); rintro e w2 ⟨v2, rfl, ho2, hb2⟩; have k2 := conv_run ho2 (Below.refl _ _) (vb_pos N); have k12 := conv_run HO1.out hb2 (vb_pos N); have HO2 := Lib.hid ho2; have HB2 := Lib.hid hb2; clear ho2 hb2))
    | (go_at_call 8; ((with_reducible refine (c8_32 M _ hM32).mono ?_); rintro e w3 ⟨v3, rfl, ho3, hb3⟩; have k3 := conv_run ho3 (Below.refl _ _) (vb_pos M); have HO3 := Lib.hid ho3; have HB3 := Lib.hid hb3; clear ho3 hb3))
    | (go_at_call 9; ((with_reducible refine (c9 M _ hM64).mono ?_); rintro e w4 ⟨v4, rfl, ho4, hb4⟩; have k4 := conv_run ho4 (Below.refl _ _) (vb_pos M); have k34 := conv_run HO3.out hb4 (vb_pos M); have HO4 := Lib.hid ho4; have HB4 := Lib.hid hb4; clear ho4 hb4)))
  all_goals
    go_wp2
    go_ret
    exact ⟨rfl, chain4 HB1.out HB2.out HB3.out HB4.out⟩
end Go.Proofs.Ytnpmdnfgmbimjaa.fnVarint
