/- Closed facts over the program's tables: type assertions on interface values, comparisons with nil, the extern math.archTrunc. By a program of ours (gen_base.py). -/
import Derived.Test.YtpamlgdcnmcedaaGreatDoorProg
import Derived.Test.YtpamlgdcnmcedaaGreatDoorFl
import Derived.WalkKit
import Derived.WalkLawsBesides
import Derived.Laws.FloatArith
import Derived.KernelRfl
import Derived.BigQuiet
import Derived.Deep.QuietTactic
import Derived.Outline
import Derived.Lib.Hide
import Derived.Stop.Asserts
set_option linter.unusedVariables false
set_option linter.unusedSimpArgs false
namespace Go.Proofs.YtpamlgdcnmcedaaGreatDoor
open Go Go.RowKit

theorem zero3 (w : World) : (zeroValue 3).run Tryz.prog w = .ok (.int .i64 0) w := by kernel_rfl
@[go_sem] theorem ta_3 (t : TypeId) (v : Value) (w : World) : (Instr.typeAssert (.iface t v) 20 3 true).run Tryz.prog w = if t = 3 then .ok (.tuple #[v, .bool true]) w else .ok (.tuple #[.int .i64 0, .bool false]) w := by
  unfold Instr.typeAssert
  simp [run_underlying Tryz.underlying3]
@[go_sem] theorem ta_3_nil (w : World) : (Instr.typeAssert .nilIface 20 3 true).run Tryz.prog w = .ok (.tuple #[.int .i64 0, .bool false]) w := by
  unfold Instr.typeAssert
  simp [run_underlying Tryz.underlying3]
theorem zero4 (w : World) : (zeroValue 4).run Tryz.prog w = .ok (.bool false) w := by kernel_rfl
@[go_sem] theorem ta_4 (t : TypeId) (v : Value) (w : World) : (Instr.typeAssert (.iface t v) 20 4 true).run Tryz.prog w = if t = 4 then .ok (.tuple #[v, .bool true]) w else .ok (.tuple #[.bool false, .bool false]) w := by
  unfold Instr.typeAssert
  simp [run_underlying Tryz.underlying4]
@[go_sem] theorem ta_4_nil (w : World) : (Instr.typeAssert .nilIface 20 4 true).run Tryz.prog w = .ok (.tuple #[.bool false, .bool false]) w := by
  unfold Instr.typeAssert
  simp [run_underlying Tryz.underlying4]
theorem zero9 (w : World) : (zeroValue 9).run Tryz.prog w = .ok (.string ⟨#[]⟩) w := by kernel_rfl
@[go_sem] theorem ta_9 (t : TypeId) (v : Value) (w : World) : (Instr.typeAssert (.iface t v) 20 9 true).run Tryz.prog w = if t = 9 then .ok (.tuple #[v, .bool true]) w else .ok (.tuple #[.string ⟨#[]⟩, .bool false]) w := by
  unfold Instr.typeAssert
  simp [run_underlying Tryz.underlying9]
@[go_sem] theorem ta_9_nil (w : World) : (Instr.typeAssert .nilIface 20 9 true).run Tryz.prog w = .ok (.tuple #[.string ⟨#[]⟩, .bool false]) w := by
  unfold Instr.typeAssert
  simp [run_underlying Tryz.underlying9]
theorem zero62 (w : World) : (zeroValue 62).run Tryz.prog w = .ok (.slice none 0 0) w := by kernel_rfl
@[go_sem] theorem ta_62 (t : TypeId) (v : Value) (w : World) : (Instr.typeAssert (.iface t v) 20 62 true).run Tryz.prog w = if t = 62 then .ok (.tuple #[v, .bool true]) w else .ok (.tuple #[.slice none 0 0, .bool false]) w := by
  unfold Instr.typeAssert
  simp [run_underlying Tryz.underlying62]
@[go_sem] theorem ta_62_nil (w : World) : (Instr.typeAssert .nilIface 20 62 true).run Tryz.prog w = .ok (.tuple #[.slice none 0 0, .bool false]) w := by
  unfold Instr.typeAssert
  simp [run_underlying Tryz.underlying62]
theorem zero82 (w : World) : (zeroValue 82).run Tryz.prog w = .ok (.float .f64 0) w := by kernel_rfl
@[go_sem] theorem ta_82 (t : TypeId) (v : Value) (w : World) : (Instr.typeAssert (.iface t v) 20 82 true).run Tryz.prog w = if t = 82 then .ok (.tuple #[v, .bool true]) w else .ok (.tuple #[.float .f64 0, .bool false]) w := by
  unfold Instr.typeAssert
  simp [run_underlying Tryz.underlying82]
@[go_sem] theorem ta_82_nil (w : World) : (Instr.typeAssert .nilIface 20 82 true).run Tryz.prog w = .ok (.tuple #[.float .f64 0, .bool false]) w := by
  unfold Instr.typeAssert
  simp [run_underlying Tryz.underlying82]
theorem zero85 (w : World) : (zeroValue 85).run Tryz.prog w = .ok (.map none) w := by kernel_rfl
@[go_sem] theorem ta_85 (t : TypeId) (v : Value) (w : World) : (Instr.typeAssert (.iface t v) 20 85 true).run Tryz.prog w = if t = 85 then .ok (.tuple #[v, .bool true]) w else .ok (.tuple #[.map none, .bool false]) w := by
  unfold Instr.typeAssert
  simp [run_underlying Tryz.underlying85]
@[go_sem] theorem ta_85_nil (w : World) : (Instr.typeAssert .nilIface 20 85 true).run Tryz.prog w = .ok (.tuple #[.map none, .bool false]) w := by
  unfold Instr.typeAssert
  simp [run_underlying Tryz.underlying85]
theorem zero150 (w : World) : (zeroValue 150).run Tryz.prog w = .ok (.pointer none) w := by kernel_rfl
@[go_sem] theorem ta_150 (t : TypeId) (v : Value) (w : World) : (Instr.typeAssert (.iface t v) 20 150 true).run Tryz.prog w = if t = 150 then .ok (.tuple #[v, .bool true]) w else .ok (.tuple #[.pointer none, .bool false]) w := by
  unfold Instr.typeAssert
  simp [run_underlying Tryz.underlying150]
@[go_sem] theorem ta_150_nil (w : World) : (Instr.typeAssert .nilIface 20 150 true).run Tryz.prog w = .ok (.tuple #[.pointer none, .bool false]) w := by
  unfold Instr.typeAssert
  simp [run_underlying Tryz.underlying150]
theorem zero172 (w : World) : (zeroValue 172).run Tryz.prog w = .ok (.string ⟨#[]⟩) w := by kernel_rfl
@[go_sem] theorem ta_172 (t : TypeId) (v : Value) (w : World) : (Instr.typeAssert (.iface t v) 20 172 true).run Tryz.prog w = if t = 172 then .ok (.tuple #[v, .bool true]) w else .ok (.tuple #[.string ⟨#[]⟩, .bool false]) w := by
  unfold Instr.typeAssert
  simp [run_underlying Tryz.underlying172]
@[go_sem] theorem ta_172_nil (w : World) : (Instr.typeAssert .nilIface 20 172 true).run Tryz.prog w = .ok (.tuple #[.string ⟨#[]⟩, .bool false]) w := by
  unfold Instr.typeAssert
  simp [run_underlying Tryz.underlying172]
@[go_sem] theorem err_3 (v : Value) (w : World) : (Instr.typeAssert (.iface 3 v) 20 89 true).run Tryz.prog w = .ok (.tuple #[.nilIface, .bool false]) w := run_typeAssert_lacksB Tryz.underlying89 (by kernel_rfl) (by kernel_rfl) v 20 w
@[go_sem] theorem err_4 (v : Value) (w : World) : (Instr.typeAssert (.iface 4 v) 20 89 true).run Tryz.prog w = .ok (.tuple #[.nilIface, .bool false]) w := run_typeAssert_lacksB Tryz.underlying89 (by kernel_rfl) (by kernel_rfl) v 20 w
@[go_sem] theorem err_9 (v : Value) (w : World) : (Instr.typeAssert (.iface 9 v) 20 89 true).run Tryz.prog w = .ok (.tuple #[.nilIface, .bool false]) w := run_typeAssert_lacksB Tryz.underlying89 (by kernel_rfl) (by kernel_rfl) v 20 w
@[go_sem] theorem err_62 (v : Value) (w : World) : (Instr.typeAssert (.iface 62 v) 20 89 true).run Tryz.prog w = .ok (.tuple #[.nilIface, .bool false]) w := run_typeAssert_lacksB Tryz.underlying89 (by kernel_rfl) (by kernel_rfl) v 20 w
@[go_sem] theorem err_82 (v : Value) (w : World) : (Instr.typeAssert (.iface 82 v) 20 89 true).run Tryz.prog w = .ok (.tuple #[.nilIface, .bool false]) w := run_typeAssert_lacksB Tryz.underlying89 (by kernel_rfl) (by kernel_rfl) v 20 w
@[go_sem] theorem err_85 (v : Value) (w : World) : (Instr.typeAssert (.iface 85 v) 20 89 true).run Tryz.prog w = .ok (.tuple #[.nilIface, .bool false]) w := run_typeAssert_lacksB Tryz.underlying89 (by kernel_rfl) (by kernel_rfl) v 20 w
@[go_sem] theorem err_nil (w : World) : (Instr.typeAssert .nilIface 20 89 true).run Tryz.prog w = .ok (.tuple #[.nilIface, .bool false]) w := by kernel_rfl
@[go_sem] theorem err_132 (v : Value) (w : World) : (Instr.typeAssert (.iface 132 v) 20 89 true).run Tryz.prog w = .ok (.tuple #[.iface 132 v, .bool true]) w := run_typeAssert_hasB Tryz.underlying89 (by kernel_rfl) v 20 w
@[go_sem] theorem err_138 (v : Value) (w : World) : (Instr.typeAssert (.iface 138 v) 20 89 true).run Tryz.prog w = .ok (.tuple #[.iface 138 v, .bool true]) w := run_typeAssert_hasB Tryz.underlying89 (by kernel_rfl) v 20 w
@[go_sem] theorem err_144 (v : Value) (w : World) : (Instr.typeAssert (.iface 144 v) 20 89 true).run Tryz.prog w = .ok (.tuple #[.iface 144 v, .bool true]) w := run_typeAssert_hasB Tryz.underlying89 (by kernel_rfl) v 20 w
@[go_sem] theorem err_162 (v : Value) (w : World) : (Instr.typeAssert (.iface 162 v) 20 89 true).run Tryz.prog w = .ok (.tuple #[.iface 162 v, .bool true]) w := run_typeAssert_hasB Tryz.underlying89 (by kernel_rfl) v 20 w
@[go_sem] theorem err_169 (v : Value) (w : World) : (Instr.typeAssert (.iface 169 v) 20 89 true).run Tryz.prog w = .ok (.tuple #[.iface 169 v, .bool true]) w := run_typeAssert_hasB Tryz.underlying89 (by kernel_rfl) v 20 w
@[go_sem] theorem err_176 (v : Value) (w : World) : (Instr.typeAssert (.iface 176 v) 20 89 true).run Tryz.prog w = .ok (.tuple #[.iface 176 v, .bool true]) w := run_typeAssert_hasB Tryz.underlying89 (by kernel_rfl) v 20 w
@[go_sem] theorem err_178 (v : Value) (w : World) : (Instr.typeAssert (.iface 178 v) 20 89 true).run Tryz.prog w = .ok (.tuple #[.iface 178 v, .bool true]) w := run_typeAssert_hasB Tryz.underlying89 (by kernel_rfl) v 20 w
@[go_sem] theorem err_181 (v : Value) (w : World) : (Instr.typeAssert (.iface 181 v) 20 89 true).run Tryz.prog w = .ok (.tuple #[.iface 181 v, .bool true]) w := run_typeAssert_hasB Tryz.underlying89 (by kernel_rfl) v 20 w
@[go_sem] theorem err_183 (v : Value) (w : World) : (Instr.typeAssert (.iface 183 v) 20 89 true).run Tryz.prog w = .ok (.tuple #[.iface 183 v, .bool true]) w := run_typeAssert_hasB Tryz.underlying89 (by kernel_rfl) v 20 w
@[go_sem] theorem err_185 (v : Value) (w : World) : (Instr.typeAssert (.iface 185 v) 20 89 true).run Tryz.prog w = .ok (.tuple #[.iface 185 v, .bool true]) w := run_typeAssert_hasB Tryz.underlying89 (by kernel_rfl) v 20 w
@[go_sem] theorem err_193 (v : Value) (w : World) : (Instr.typeAssert (.iface 193 v) 20 89 true).run Tryz.prog w = .ok (.tuple #[.iface 193 v, .bool true]) w := run_typeAssert_hasB Tryz.underlying89 (by kernel_rfl) v 20 w
@[go_sem] theorem err_196 (v : Value) (w : World) : (Instr.typeAssert (.iface 196 v) 20 89 true).run Tryz.prog w = .ok (.tuple #[.iface 196 v, .bool true]) w := run_typeAssert_hasB Tryz.underlying89 (by kernel_rfl) v 20 w
end Go.Proofs.YtpamlgdcnmcedaaGreatDoor
