/- The contract of impl.Varint: a slice in new memory that holds the number's groups of seven bits, for every number of 64 and of 32 bits. -/
import Derived.Test.YtnpmdnfgmbimjaaVSixty
import Derived.Test.YtnpmdnfgmbimjaaVThirty
import Derived.Deep.QuietTactic
import Derived.BigQuiet
namespace Go.Proofs.Ytnpmdnfgmbimjaa.fnVarint
open Go.ChangeShapes Go.WideShapes Go.ChangeAt Go.RowKit
open Go.Proofs.Ytnpmdnfgmbimjaa.Vb

/-- (*bytes.Buffer).Bytes. -/
theorem c22 (b g n : Nat) (w : World) (hn : n ≤ 64) (hb : w.heap[b]? = some (.cells #[.slice (some ⟨g, 0, none⟩) n 64, .int .i64 0, .int .i8 0] 62 (0, 0))) :
    Calls Try.prog 22 #[.pointer (some ⟨b, 0, none⟩)] w fun e w' => e = .returned (.slice (some ⟨g, 0, none⟩) n 64) ∧ ∃ q, w' = w.drewN q := by
  have hb0 : w.cell? ⟨b, 0, none⟩ = some (.slice (some ⟨g, 0, none⟩) n 64) := by simp [World.cell?, hb]
  have hb1 : w.cell? ⟨b, 1, none⟩ = some (.int .i64 0) := by simp [World.cell?, hb]
  clear hb
  have i0 : (0 : Int) ≤ (n : Int) := by omega
  have i1 : (n : Int) ≤ 64 := by omega
  go_enter Try.func22, Try.ntmps22
  go_wp2
  go_quiet (fail)
  go_wp2
  go_ret
  exact ⟨rfl, _, rfl⟩

theorem below_drewN {B : Nat} {a w : World} (h : Below B a w) (n : Nat) : Below B a (w.drewN n) := h.trans ⟨rfl, rfl, rfl, Nat.le_refl _, fun _ _ => rfl⟩

/-- What ZZVarint hands back: a slice over a row that begins with the bytes L. -/
def HandsBytes (L : List Int) (w : World) (e : Ending) (w' : World) : Prop :=
  ∃ g rest, e = .returned (.slice (some ⟨g, 0, none⟩) L.length 64) ∧ w'.heap[g]? = some (.cells (L.map (Value.int .u8) ++ rest).toArray 5 (0, 0)) ∧ Below w.heap.size w w'

theorem reads64 (N : Nat) (h : N < 18446744073709551616) : Reads64 (wrap64 (N : Int)) N := ⟨rfl, h⟩
theorem reads32 (N : Nat) (h : N < 4294967296) : Reads32 (wrap32 (N : Int)) N := ⟨rfl, h⟩

/-- The worlds behind the two constructors. -/
abbrev ready1 (w : World) : World := w.alloc (.cells #[.slice none 0 0, .int .i64 0, .int .i8 0] 62)
abbrev ready2 (w : World) : World := (ready1 w).alloc (.cells #[.pointer (some ⟨w.heap.size, 0, none⟩), .int .i64 0] 58)
abbrev ready (w : World) : World :=
  (ready2 w).alloc (.cells (tcCells (.iface 47 (.pointer (some ⟨w.heap.size + 1, 0, none⟩))) (.iface 47 (.pointer (some ⟨w.heap.size + 1, 0, none⟩)))) 43)
theorem ready1_size (w : World) : (ready1 w).heap.size = w.heap.size + 1 := World.size_alloc _ _
theorem ready2_size (w : World) : (ready2 w).heap.size = w.heap.size + 1 + 1 := by rw [World.size_alloc, ready1_size]
theorem ready_size (w : World) : (ready w).heap.size = w.heap.size + 1 + 1 + 1 := by rw [World.size_alloc, ready2_size]
theorem ready_below (w : World) : Below w.heap.size w (ready w) :=
  (((Below.refl _ _).alloc (Nat.le_refl _) _).alloc (by rw [ready1_size]; omega) _).alloc (by rw [ready2_size]; omega) _
theorem ready_p (w : World) : (ready w).heap[w.heap.size + 1 + 1]? = some (tcRow (.iface 47 (.pointer (some ⟨w.heap.size + 1, 0, none⟩))) (.iface 47 (.pointer (some ⟨w.heap.size + 1, 0, none⟩))) buf64) := by
  rw [← ready2_size]
  exact heap_alloc_new (ready2 w) _
theorem ready_m (w : World) : (ready w).heap[w.heap.size + 1]? = some (.cells #[.pointer (some ⟨w.heap.size, 0, none⟩), .int .i64 0] 58 (0, 0)) := by
  rw [Below.heap_alloc (ready2 w) _ _ (by rw [ready2_size]; omega), ← ready1_size]
  exact heap_alloc_new (ready1 w) _
theorem ready_b (w : World) : (ready w).heap[w.heap.size]? = some (.cells #[.slice none 0 0, .int .i64 0, .int .i8 0] 62 (0, 0)) := by
  rw [Below.heap_alloc (ready2 w) _ _ (by rw [ready2_size]; omega), Below.heap_alloc (ready1 w) _ _ (by rw [ready1_size]; omega)]
  exact heap_alloc_new w _
theorem ready_shell {w w' : World} {L : List Int} (h : Flushed (w.heap.size + 1 + 1) (w.heap.size + 1) w.heap.size L (ready w) w') :
    w'.cell? ⟨w.heap.size + 1, 0, none⟩ = some (.pointer (some ⟨w.heap.size, 0, none⟩)) := by
  have e := h.shell
  rw [ready_m] at e
  simp [World.cell?, e]
theorem ready_done {w w' : World} {L : List Int} (h : Flushed (w.heap.size + 1 + 1) (w.heap.size + 1) w.heap.size L (ready w) w') : Below w.heap.size w w' :=
  (ready_below w).trans (h.below _ (by omega) (by omega) (by rw [ready_size]; omega))

theorem ready_at {w w' : World} {L : List Int} (h : Flushed (w.heap.size + 1 + 1) (w.heap.size + 1) w.heap.size L (ready w) w') :
    ∃ g, Hid (w'.heap[w.heap.size]? = some (.cells #[.slice (some ⟨g, 0, none⟩) L.length 64, .int .i64 0, .int .i8 0] 62 (0, 0))) ∧
      Hid (w'.heap[g]? = some (.cells (L.map (Value.int .u8) ++ buf64.drop L.length).toArray 5 (0, 0))) := by
  obtain ⟨g, _, h1, h2⟩ := h.at_
  exact ⟨g, h1, h2⟩

set_option maxRecDepth 100000 in
theorem c13_64 (N : Nat) (w : World) (hN : N < 18446744073709551616) :
    Calls Try.prog 13 #[.int .u64 (N : Int), .int .i64 64] w (HandsBytes (vb N) w) := by
  have HL := Lib.hid (Nat.le_trans (vb_len10 N hN) (by decide : 10 ≤ 64))
  have C := Lib.hid (c21 (w.heap.size + 1 + 1) (w.heap.size + 1) w.heap.size N _ (wrap64 (N : Int)) (ready w) (reads64 N hN) (ready_p w) (ready_m w) (ready_b w) (by omega) (by omega) (by omega))
  go_enter Try.func13, Try.ntmps13
  go_wp2_with (first
    | (go_at_call 18; ((with_reducible refine (c18 _).mono ?_); rintro e w' ⟨rfl, rfl⟩))
    | (go_at_call 19; ((with_reducible refine (c19 _ _).mono ?_); rintro e w' ⟨rfl, rfl⟩))
    | (go_at_call 21; ((with_reducible refine C.out.mono ?_); rintro e w3 ⟨rfl, hF⟩; have hsh := ready_shell hF; have HF := Lib.hid hF; clear hF))
    | (go_at_call 22; obtain ⟨g, hgb, hgr⟩ := ready_at HF.out; ((with_reducible refine (c22 _ g _ _ HL.out hgb.out).mono ?_); rintro e w' ⟨rfl, q, rfl⟩)))
  go_ret
  exact ⟨g, _, rfl, hgr.out, below_drewN (ready_done HF.out) q⟩

set_option maxRecDepth 100000 in
theorem c13_32 (N : Nat) (w : World) (hN : N < 4294967296) :
    Calls Try.prog 13 #[.int .u64 (N : Int), .int .i64 32] w (HandsBytes (vb N) w) := by
  have HL := Lib.hid (Nat.le_trans (vb_len5 N hN) (by decide : 5 ≤ 64))
  have C := Lib.hid (c20 (w.heap.size + 1 + 1) (w.heap.size + 1) w.heap.size N _ (wrap32 (N : Int)) (ready w) (reads32 N hN) (ready_p w) (ready_m w) (ready_b w) (by omega) (by omega) (by omega))
  go_enter Try.func13, Try.ntmps13
  go_wp2_with (first
    | (go_at_call 18; ((with_reducible refine (c18 _).mono ?_); rintro e w' ⟨rfl, rfl⟩))
    | (go_at_call 19; ((with_reducible refine (c19 _ _).mono ?_); rintro e w' ⟨rfl, rfl⟩))
    | (go_at_call 20; ((with_reducible refine C.out.mono ?_); rintro e w3 ⟨rfl, hF⟩; have hsh := ready_shell hF; have HF := Lib.hid hF; clear hF))
    | (go_at_call 22; obtain ⟨g, hgb, hgr⟩ := ready_at HF.out; ((with_reducible refine (c22 _ g _ _ HL.out hgb.out).mono ?_); rintro e w' ⟨rfl, q, rfl⟩)))
  go_ret
  exact ⟨g, _, rfl, hgr.out, below_drewN (ready_done HF.out) q⟩

/-- What a function that makes a slice of the bytes L leaves. -/
def GivesRow (L : List Int) (w : World) (e : Ending) (w' : World) : Prop :=
  ∃ v, e = .returned v ∧ w'.ownsRow w.heap.size 5 1 v L.length (L.map (Value.int .u8)) ∧ Below w.heap.size w w'

/-- slices.Clone of a slice that is not nil. -/
theorem c12 (g c : Nat) (L : List Int) (rest : List Value) (w : World) (h64 : L.length ≤ 64)
    (hg : w.heap[g]? = some (.cells (L.map (Value.int .u8) ++ rest).toArray 5 (0, 0))) :
    Calls Try.prog 12 #[.slice (some ⟨g, 0, none⟩) L.length c] w (GivesRow L w) := by
  obtain ⟨i0, hi, hz0, hz1, hz2⟩ := info_parts Try.info5
  have q27 : ∀ (w : World) (a : Option Addr) (n c n' c' : Nat), (binOp .eql 27 (.slice a n c) (.slice none n' c')).run Try.prog w = .ok (.bool a.isNone) w := fun w a n c n' c' => Lib.run_eql_slice_nil w _ _ a n c n' c' Try.underlying27
  have HG := Lib.hid hg
  clear hg
  go_enter Try.func12, Try.ntmps12
  go_wp2_with (at_builtin; refine wpList_append_own _ rfl _ _ 27 rfl w.heap.size 5 i0 (.int .u8 0) 1 1 Try.underlying27 hi hz0 hz1 hz2 rfl (by decide) _ _ _ rfl (World.ownsRow_made w #[] 0 (Nat.le_refl _) (by decide) rfl) ⟨g, 0, none⟩ L.length c (L.map (Value.int .u8)) rfl ?c0 ?c1 ?c2 ?c3 ?c4 ?c5 ?_)
  case c0 => simp
  case c1 =>
    intro j u hj
    have hlt : g < w.heap.size := (Array.getElem?_eq_some_iff.1 HG.out).1
    rw [Addr.add_lit, World.cell?_alloc_lt w _ ⟨g, 0 + j, none⟩ hlt]
    simp only [World.cell?, HG.out, List.getElem?_toArray, Nat.zero_add]
    rw [List.getElem?_append_left (List.getElem?_eq_some_iff.1 hj).1]
    exact hj
  case c2 => intro u hu; simp at hu; obtain ⟨n, _, rfl⟩ := hu; rfl
  case c3 => unfold maxLen; omega
  case c4 => omega
  case c5 => simp
  intro v' w1 hown hgrow _
  have HO : Hid (w1.ownsRow w.heap.size 5 1 v' L.length (L.map (Value.int .u8))) := by simpa [Hid] using hown
  have HB := Lib.hid (((Below.refl w.heap.size w).alloc (Nat.le_refl _) (.cells #[] 5)).grown hgrow (by simp) (fun k hk => by simp [Value.ownBlock] at hk; omega))
  clear hown hgrow
  go_wp2
  go_ret
  exact ⟨v', rfl, HO.out, HB.out⟩

/-- impl.Varint. -/
theorem GivesRow.later {L : List Int} {w w1 : World} {e : Ending} {w' : World} (hb : Below w.heap.size w w1) (h : GivesRow L w1 e w') : GivesRow L w e w' := by
  obtain ⟨v, he, ho, hb'⟩ := h
  have hs := hb.size
  refine ⟨v, he, ⟨ho.1, ?_⟩, hb.trans (hb'.mono hs)⟩
  rcases ho.2 with hn | ⟨g, cap, cur, hv, hbg, rest⟩
  · exact .inl hn
  · exact .inr ⟨g, cap, cur, hv, Nat.le_trans hs hbg, rest⟩
theorem c8_64 (N : Nat) (w : World) (hN : N < 18446744073709551616) :
    Calls Try.prog 8 #[.int .u64 (N : Int), .int .i64 64] w (GivesRow (vb N) w) := by
  have HL := Lib.hid (Nat.le_trans (vb_len10 N hN) (by decide : 10 ≤ 64))
  go_enter Try.func8, Try.ntmps8
  go_wp2_with (first
    | (go_at_call 13; ((with_reducible refine (c13_64 N _ hN).mono ?_); rintro e w1 ⟨g, rest, rfl, hg, hb⟩; have HG := Lib.hid hg; have HB := Lib.hid hb; clear hg hb))
    | (go_at_call 12; ((with_reducible refine (c12 g _ (vb N) rest _ HL.out HG.out).mono ?_); rintro e w2 hG; obtain ⟨v, rfl, ho, hb⟩ := GivesRow.later HB.out hG; have HO := Lib.hid ho; have HB2 := Lib.hid hb; clear ho hb hG)))
  go_ret
  exact ⟨v, rfl, HO.out, HB2.out⟩
theorem c8_32 (N : Nat) (w : World) (hN : N < 4294967296) :
    Calls Try.prog 8 #[.int .u64 (N : Int), .int .i64 32] w (GivesRow (vb N) w) := by
  have HL := Lib.hid (Nat.le_trans (vb_len5 N hN) (by decide : 5 ≤ 64))
  go_enter Try.func8, Try.ntmps8
  go_wp2_with (first
    | (go_at_call 13; ((with_reducible refine (c13_32 N _ hN).mono ?_); rintro e w1 ⟨g, rest, rfl, hg, hb⟩; have HG := Lib.hid hg; have HB := Lib.hid hb; clear hg hb))
    | (go_at_call 12; ((with_reducible refine (c12 g _ (vb N) rest _ HL.out HG.out).mono ?_); rintro e w2 hG; obtain ⟨v, rfl, ho, hb⟩ := GivesRow.later HB.out hG; have HO := Lib.hid ho; have HB2 := Lib.hid hb; clear ho hb hG)))
  go_ret
  exact ⟨v, rfl, HO.out, HB2.out⟩
end Go.Proofs.Ytnpmdnfgmbimjaa.fnVarint
