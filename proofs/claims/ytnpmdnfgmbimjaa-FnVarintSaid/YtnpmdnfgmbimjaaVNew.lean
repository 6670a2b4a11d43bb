/- The contracts of what makes a TCompactProtocol over a new TMemoryBuffer (NewTMemoryBuffer, NewTCompactProtocolConf), and of bytes.Buffer.Write at a buffer that is new. -/
import Derived.Test.YtnpmdnfgmbimjaaRows
import Derived.Test.YtnpmdnfgmbimjaaVb
import Derived.WalkKit
import Derived.ProofKit
import Derived.WalkSpells
import Derived.OpenShut
import Derived.Lib.Hide
namespace Go.Proofs.Ytnpmdnfgmbimjaa.fnVarint
open Go.ChangeShapes Go.WideShapes Go.ChangeAt Go.RowKit

/-- NewTMemoryBuffer: an empty buffer, and the struct that embeds it. -/
theorem c18 (w : World) :
    Calls Try.prog 18 #[] w fun e w' => e = .returned (.pointer (some ⟨w.heap.size + 1, 0, none⟩)) ∧
      (w.alloc (.cells #[.slice none 0 0, .int .i64 0, .int .i8 0] 62)).alloc (.cells #[.pointer (some ⟨w.heap.size, 0, none⟩), .int .i64 0] 58) = w' := by
  go_enter Try.func18, Try.ntmps18
  go_wp2
  go_ret
  exact ⟨rfl, rfl⟩

theorem c23 (i : Value) (w : World) :
    Calls Try.prog 23 #[i, .pointer none] w fun e w' => e = .returned (.tuple #[]) ∧ w = w' := by
  go_enter Try.func23, Try.ntmps23
  go_wp2
  exact bodyPost_ret (results_none rfl _ _ _) rfl ⟨rfl, rfl⟩

/-- The cells of a TCompactProtocol over a transport: its ten first cells, and its buffer. -/
def tcHead (tr og : Value) : List Value := [tr, og, .pointer none, .slice none 0 0, .int .i64 0, .string ByteArray.empty, .int .i16 0, .bool false, .bool false, .bool false]
def tcCells (tr og : Value) : Array Value := (tcHead tr og ++ List.replicate 64 (Value.int .u8 0)).toArray
theorem tc_size (tr og : Value) : (tcCells tr og).size = 74 := by simp [tcCells, tcHead]
theorem hzero (w : World) : (zeroValue 43).run Try.prog w = .ok (.agg (tcCells .nilIface .nilIface)) w := by kernel_rfl
theorem hassert (p : Value) (w : World) : (Instr.typeAssert (.iface 47 p) 37 35 true).run Try.prog w = .ok (.tuple #[.iface 47 p, .bool true]) w := by kernel_rfl

set_option maxRecDepth 100000 in
theorem c19 (p : Value) (w : World) :
    Calls Try.prog 19 #[.iface 47 p, .pointer none] w fun e w' => e = .returned (.pointer (some ⟨w.heap.size, 0, none⟩)) ∧
      w.alloc (.cells (tcCells (.iface 47 p) (.iface 47 p)) 43) = w' := by
  have kb := hzero
  have ka := hassert
  have ks := tc_size
  go_enter Try.func19, Try.ntmps19
  go_wp2_with (go_at_call 23; ((with_reducible refine (c23 _ _).mono ?_); rintro e w' ⟨rfl, rfl⟩))
  go_ret
  exact ⟨rfl, rfl⟩
end Go.Proofs.Ytnpmdnfgmbimjaa.fnVarint
