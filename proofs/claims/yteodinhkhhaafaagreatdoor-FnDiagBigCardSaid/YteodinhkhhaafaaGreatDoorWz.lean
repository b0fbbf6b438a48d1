/- The walk of an error's kind. -/
import Derived.Test.YteodinhkhhaafaaGreatDoorEq
set_option linter.unusedVariables false
set_option linter.unusedSimpArgs false
namespace Go.Proofs.YteodinhkhhaafaaGreatDoor
open Go.RowKit

@[go_sem] theorem ta141_142 (v : Value) (w : World) : (Instr.typeAssert (.iface 141 v) 97 142 true).run Tryz.prog w = .ok (.tuple #[.pointer none, .bool false]) w := by kernel_rfl
@[go_sem] theorem ta141_143 (v : Value) (w : World) : (Instr.typeAssert (.iface 141 v) 97 143 true).run Tryz.prog w = .ok (.tuple #[.pointer none, .bool false]) w := by kernel_rfl
@[go_sem] theorem ta141_144 (v : Value) (w : World) : (Instr.typeAssert (.iface 141 v) 97 144 true).run Tryz.prog w = .ok (.tuple #[.pointer none, .bool false]) w := by kernel_rfl
@[go_sem] theorem ta141_145 (v : Value) (w : World) : (Instr.typeAssert (.iface 141 v) 97 145 true).run Tryz.prog w = .ok (.tuple #[.pointer none, .bool false]) w := by kernel_rfl
@[go_sem] theorem ta141_146 (v : Value) (w : World) : (Instr.typeAssert (.iface 141 v) 97 146 true).run Tryz.prog w = .ok (.tuple #[.pointer none, .bool false]) w := by kernel_rfl
@[go_sem] theorem ta141_147 (v : Value) (w : World) : (Instr.typeAssert (.iface 141 v) 97 147 true).run Tryz.prog w = .ok (.tuple #[.pointer none, .bool false]) w := by kernel_rfl
@[go_sem] theorem ta141_148 (v : Value) (w : World) : (Instr.typeAssert (.iface 141 v) 97 148 true).run Tryz.prog w = .ok (.tuple #[.pointer none, .bool false]) w := by kernel_rfl
@[go_sem] theorem ta141_149 (v : Value) (w : World) : (Instr.typeAssert (.iface 141 v) 97 149 true).run Tryz.prog w = .ok (.tuple #[.pointer none, .bool false]) w := by kernel_rfl
@[go_sem] theorem ta141_150 (v : Value) (w : World) : (Instr.typeAssert (.iface 141 v) 97 150 true).run Tryz.prog w = .ok (.tuple #[.pointer none, .bool false]) w := by kernel_rfl
@[go_sem] theorem ta141_151 (v : Value) (w : World) : (Instr.typeAssert (.iface 141 v) 97 151 true).run Tryz.prog w = .ok (.tuple #[.pointer none, .bool false]) w := by kernel_rfl
@[go_sem] theorem ta141_152 (v : Value) (w : World) : (Instr.typeAssert (.iface 141 v) 97 152 true).run Tryz.prog w = .ok (.tuple #[.pointer none, .bool false]) w := by kernel_rfl
@[go_sem] theorem ta141_153 (v : Value) (w : World) : (Instr.typeAssert (.iface 141 v) 97 153 true).run Tryz.prog w = .ok (.tuple #[.pointer none, .bool false]) w := by kernel_rfl
@[go_sem] theorem ta141_154 (v : Value) (w : World) : (Instr.typeAssert (.iface 141 v) 97 154 true).run Tryz.prog w = .ok (.tuple #[.pointer none, .bool false]) w := by kernel_rfl
@[go_sem] theorem ta141_155 (v : Value) (w : World) : (Instr.typeAssert (.iface 141 v) 97 155 true).run Tryz.prog w = .ok (.tuple #[.pointer none, .bool false]) w := by kernel_rfl
@[go_sem] theorem ta141_156 (v : Value) (w : World) : (Instr.typeAssert (.iface 141 v) 97 156 true).run Tryz.prog w = .ok (.tuple #[.pointer none, .bool false]) w := by kernel_rfl
@[go_sem] theorem ta141_157 (v : Value) (w : World) : (Instr.typeAssert (.iface 141 v) 97 157 true).run Tryz.prog w = .ok (.tuple #[.pointer none, .bool false]) w := by kernel_rfl
@[go_sem] theorem ta142_142 (v : Value) (w : World) : (Instr.typeAssert (.iface 142 v) 97 142 true).run Tryz.prog w = .ok (.tuple #[v, .bool true]) w := by kernel_rfl
@[go_sem] theorem ta142_143 (v : Value) (w : World) : (Instr.typeAssert (.iface 142 v) 97 143 true).run Tryz.prog w = .ok (.tuple #[.pointer none, .bool false]) w := by kernel_rfl
@[go_sem] theorem ta142_144 (v : Value) (w : World) : (Instr.typeAssert (.iface 142 v) 97 144 true).run Tryz.prog w = .ok (.tuple #[.pointer none, .bool false]) w := by kernel_rfl
@[go_sem] theorem ta142_145 (v : Value) (w : World) : (Instr.typeAssert (.iface 142 v) 97 145 true).run Tryz.prog w = .ok (.tuple #[.pointer none, .bool false]) w := by kernel_rfl
@[go_sem] theorem ta142_146 (v : Value) (w : World) : (Instr.typeAssert (.iface 142 v) 97 146 true).run Tryz.prog w = .ok (.tuple #[.pointer none, .bool false]) w := by kernel_rfl
@[go_sem] theorem ta142_147 (v : Value) (w : World) : (Instr.typeAssert (.iface 142 v) 97 147 true).run Tryz.prog w = .ok (.tuple #[.pointer none, .bool false]) w := by kernel_rfl
@[go_sem] theorem ta142_148 (v : Value) (w : World) : (Instr.typeAssert (.iface 142 v) 97 148 true).run Tryz.prog w = .ok (.tuple #[.pointer none, .bool false]) w := by kernel_rfl
@[go_sem] theorem ta142_149 (v : Value) (w : World) : (Instr.typeAssert (.iface 142 v) 97 149 true).run Tryz.prog w = .ok (.tuple #[.pointer none, .bool false]) w := by kernel_rfl
@[go_sem] theorem ta142_150 (v : Value) (w : World) : (Instr.typeAssert (.iface 142 v) 97 150 true).run Tryz.prog w = .ok (.tuple #[.pointer none, .bool false]) w := by kernel_rfl
@[go_sem] theorem ta142_151 (v : Value) (w : World) : (Instr.typeAssert (.iface 142 v) 97 151 true).run Tryz.prog w = .ok (.tuple #[.pointer none, .bool false]) w := by kernel_rfl
@[go_sem] theorem ta142_152 (v : Value) (w : World) : (Instr.typeAssert (.iface 142 v) 97 152 true).run Tryz.prog w = .ok (.tuple #[.pointer none, .bool false]) w := by kernel_rfl
@[go_sem] theorem ta142_153 (v : Value) (w : World) : (Instr.typeAssert (.iface 142 v) 97 153 true).run Tryz.prog w = .ok (.tuple #[.pointer none, .bool false]) w := by kernel_rfl
@[go_sem] theorem ta142_154 (v : Value) (w : World) : (Instr.typeAssert (.iface 142 v) 97 154 true).run Tryz.prog w = .ok (.tuple #[.pointer none, .bool false]) w := by kernel_rfl
@[go_sem] theorem ta142_155 (v : Value) (w : World) : (Instr.typeAssert (.iface 142 v) 97 155 true).run Tryz.prog w = .ok (.tuple #[.pointer none, .bool false]) w := by kernel_rfl
@[go_sem] theorem ta142_156 (v : Value) (w : World) : (Instr.typeAssert (.iface 142 v) 97 156 true).run Tryz.prog w = .ok (.tuple #[.pointer none, .bool false]) w := by kernel_rfl
@[go_sem] theorem ta142_157 (v : Value) (w : World) : (Instr.typeAssert (.iface 142 v) 97 157 true).run Tryz.prog w = .ok (.tuple #[.pointer none, .bool false]) w := by kernel_rfl
@[go_sem] theorem ta143_142 (v : Value) (w : World) : (Instr.typeAssert (.iface 143 v) 97 142 true).run Tryz.prog w = .ok (.tuple #[.pointer none, .bool false]) w := by kernel_rfl
@[go_sem] theorem ta143_143 (v : Value) (w : World) : (Instr.typeAssert (.iface 143 v) 97 143 true).run Tryz.prog w = .ok (.tuple #[v, .bool true]) w := by kernel_rfl
@[go_sem] theorem ta143_144 (v : Value) (w : World) : (Instr.typeAssert (.iface 143 v) 97 144 true).run Tryz.prog w = .ok (.tuple #[.pointer none, .bool false]) w := by kernel_rfl
@[go_sem] theorem ta143_145 (v : Value) (w : World) : (Instr.typeAssert (.iface 143 v) 97 145 true).run Tryz.prog w = .ok (.tuple #[.pointer none, .bool false]) w := by kernel_rfl
@[go_sem] theorem ta143_146 (v : Value) (w : World) : (Instr.typeAssert (.iface 143 v) 97 146 true).run Tryz.prog w = .ok (.tuple #[.pointer none, .bool false]) w := by kernel_rfl
@[go_sem] theorem ta143_147 (v : Value) (w : World) : (Instr.typeAssert (.iface 143 v) 97 147 true).run Tryz.prog w = .ok (.tuple #[.pointer none, .bool false]) w := by kernel_rfl
@[go_sem] theorem ta143_148 (v : Value) (w : World) : (Instr.typeAssert (.iface 143 v) 97 148 true).run Tryz.prog w = .ok (.tuple #[.pointer none, .bool false]) w := by kernel_rfl
@[go_sem] theorem ta143_149 (v : Value) (w : World) : (Instr.typeAssert (.iface 143 v) 97 149 true).run Tryz.prog w = .ok (.tuple #[.pointer none, .bool false]) w := by kernel_rfl
@[go_sem] theorem ta143_150 (v : Value) (w : World) : (Instr.typeAssert (.iface 143 v) 97 150 true).run Tryz.prog w = .ok (.tuple #[.pointer none, .bool false]) w := by kernel_rfl
@[go_sem] theorem ta143_151 (v : Value) (w : World) : (Instr.typeAssert (.iface 143 v) 97 151 true).run Tryz.prog w = .ok (.tuple #[.pointer none, .bool false]) w := by kernel_rfl
@[go_sem] theorem ta143_152 (v : Value) (w : World) : (Instr.typeAssert (.iface 143 v) 97 152 true).run Tryz.prog w = .ok (.tuple #[.pointer none, .bool false]) w := by kernel_rfl
@[go_sem] theorem ta143_153 (v : Value) (w : World) : (Instr.typeAssert (.iface 143 v) 97 153 true).run Tryz.prog w = .ok (.tuple #[.pointer none, .bool false]) w := by kernel_rfl
@[go_sem] theorem ta143_154 (v : Value) (w : World) : (Instr.typeAssert (.iface 143 v) 97 154 true).run Tryz.prog w = .ok (.tuple #[.pointer none, .bool false]) w := by kernel_rfl
@[go_sem] theorem ta143_155 (v : Value) (w : World) : (Instr.typeAssert (.iface 143 v) 97 155 true).run Tryz.prog w = .ok (.tuple #[.pointer none, .bool false]) w := by kernel_rfl
@[go_sem] theorem ta143_156 (v : Value) (w : World) : (Instr.typeAssert (.iface 143 v) 97 156 true).run Tryz.prog w = .ok (.tuple #[.pointer none, .bool false]) w := by kernel_rfl
@[go_sem] theorem ta143_157 (v : Value) (w : World) : (Instr.typeAssert (.iface 143 v) 97 157 true).run Tryz.prog w = .ok (.tuple #[.pointer none, .bool false]) w := by kernel_rfl
@[go_sem] theorem ta144_142 (v : Value) (w : World) : (Instr.typeAssert (.iface 144 v) 97 142 true).run Tryz.prog w = .ok (.tuple #[.pointer none, .bool false]) w := by kernel_rfl
@[go_sem] theorem ta144_143 (v : Value) (w : World) : (Instr.typeAssert (.iface 144 v) 97 143 true).run Tryz.prog w = .ok (.tuple #[.pointer none, .bool false]) w := by kernel_rfl
@[go_sem] theorem ta144_144 (v : Value) (w : World) : (Instr.typeAssert (.iface 144 v) 97 144 true).run Tryz.prog w = .ok (.tuple #[v, .bool true]) w := by kernel_rfl
@[go_sem] theorem ta144_145 (v : Value) (w : World) : (Instr.typeAssert (.iface 144 v) 97 145 true).run Tryz.prog w = .ok (.tuple #[.pointer none, .bool false]) w := by kernel_rfl
@[go_sem] theorem ta144_146 (v : Value) (w : World) : (Instr.typeAssert (.iface 144 v) 97 146 true).run Tryz.prog w = .ok (.tuple #[.pointer none, .bool false]) w := by kernel_rfl
@[go_sem] theorem ta144_147 (v : Value) (w : World) : (Instr.typeAssert (.iface 144 v) 97 147 true).run Tryz.prog w = .ok (.tuple #[.pointer none, .bool false]) w := by kernel_rfl
@[go_sem] theorem ta144_148 (v : Value) (w : World) : (Instr.typeAssert (.iface 144 v) 97 148 true).run Tryz.prog w = .ok (.tuple #[.pointer none, .bool false]) w := by kernel_rfl
@[go_sem] theorem ta144_149 (v : Value) (w : World) : (Instr.typeAssert (.iface 144 v) 97 149 true).run Tryz.prog w = .ok (.tuple #[.pointer none, .bool false]) w := by kernel_rfl
@[go_sem] theorem ta144_150 (v : Value) (w : World) : (Instr.typeAssert (.iface 144 v) 97 150 true).run Tryz.prog w = .ok (.tuple #[.pointer none, .bool false]) w := by kernel_rfl
@[go_sem] theorem ta144_151 (v : Value) (w : World) : (Instr.typeAssert (.iface 144 v) 97 151 true).run Tryz.prog w = .ok (.tuple #[.pointer none, .bool false]) w := by kernel_rfl
@[go_sem] theorem ta144_152 (v : Value) (w : World) : (Instr.typeAssert (.iface 144 v) 97 152 true).run Tryz.prog w = .ok (.tuple #[.pointer none, .bool false]) w := by kernel_rfl
@[go_sem] theorem ta144_153 (v : Value) (w : World) : (Instr.typeAssert (.iface 144 v) 97 153 true).run Tryz.prog w = .ok (.tuple #[.pointer none, .bool false]) w := by kernel_rfl
@[go_sem] theorem ta144_154 (v : Value) (w : World) : (Instr.typeAssert (.iface 144 v) 97 154 true).run Tryz.prog w = .ok (.tuple #[.pointer none, .bool false]) w := by kernel_rfl
@[go_sem] theorem ta144_155 (v : Value) (w : World) : (Instr.typeAssert (.iface 144 v) 97 155 true).run Tryz.prog w = .ok (.tuple #[.pointer none, .bool false]) w := by kernel_rfl
@[go_sem] theorem ta144_156 (v : Value) (w : World) : (Instr.typeAssert (.iface 144 v) 97 156 true).run Tryz.prog w = .ok (.tuple #[.pointer none, .bool false]) w := by kernel_rfl
@[go_sem] theorem ta144_157 (v : Value) (w : World) : (Instr.typeAssert (.iface 144 v) 97 157 true).run Tryz.prog w = .ok (.tuple #[.pointer none, .bool false]) w := by kernel_rfl
@[go_sem] theorem ta145_142 (v : Value) (w : World) : (Instr.typeAssert (.iface 145 v) 97 142 true).run Tryz.prog w = .ok (.tuple #[.pointer none, .bool false]) w := by kernel_rfl
@[go_sem] theorem ta145_143 (v : Value) (w : World) : (Instr.typeAssert (.iface 145 v) 97 143 true).run Tryz.prog w = .ok (.tuple #[.pointer none, .bool false]) w := by kernel_rfl
@[go_sem] theorem ta145_144 (v : Value) (w : World) : (Instr.typeAssert (.iface 145 v) 97 144 true).run Tryz.prog w = .ok (.tuple #[.pointer none, .bool false]) w := by kernel_rfl
@[go_sem] theorem ta145_145 (v : Value) (w : World) : (Instr.typeAssert (.iface 145 v) 97 145 true).run Tryz.prog w = .ok (.tuple #[v, .bool true]) w := by kernel_rfl
@[go_sem] theorem ta145_146 (v : Value) (w : World) : (Instr.typeAssert (.iface 145 v) 97 146 true).run Tryz.prog w = .ok (.tuple #[.pointer none, .bool false]) w := by kernel_rfl
@[go_sem] theorem ta145_147 (v : Value) (w : World) : (Instr.typeAssert (.iface 145 v) 97 147 true).run Tryz.prog w = .ok (.tuple #[.pointer none, .bool false]) w := by kernel_rfl
@[go_sem] theorem ta145_148 (v : Value) (w : World) : (Instr.typeAssert (.iface 145 v) 97 148 true).run Tryz.prog w = .ok (.tuple #[.pointer none, .bool false]) w := by kernel_rfl
@[go_sem] theorem ta145_149 (v : Value) (w : World) : (Instr.typeAssert (.iface 145 v) 97 149 true).run Tryz.prog w = .ok (.tuple #[.pointer none, .bool false]) w := by kernel_rfl
@[go_sem] theorem ta145_150 (v : Value) (w : World) : (Instr.typeAssert (.iface 145 v) 97 150 true).run Tryz.prog w = .ok (.tuple #[.pointer none, .bool false]) w := by kernel_rfl
@[go_sem] theorem ta145_151 (v : Value) (w : World) : (Instr.typeAssert (.iface 145 v) 97 151 true).run Tryz.prog w = .ok (.tuple #[.pointer none, .bool false]) w := by kernel_rfl
@[go_sem] theorem ta145_152 (v : Value) (w : World) : (Instr.typeAssert (.iface 145 v) 97 152 true).run Tryz.prog w = .ok (.tuple #[.pointer none, .bool false]) w := by kernel_rfl
@[go_sem] theorem ta145_153 (v : Value) (w : World) : (Instr.typeAssert (.iface 145 v) 97 153 true).run Tryz.prog w = .ok (.tuple #[.pointer none, .bool false]) w := by kernel_rfl
@[go_sem] theorem ta145_154 (v : Value) (w : World) : (Instr.typeAssert (.iface 145 v) 97 154 true).run Tryz.prog w = .ok (.tuple #[.pointer none, .bool false]) w := by kernel_rfl
@[go_sem] theorem ta145_155 (v : Value) (w : World) : (Instr.typeAssert (.iface 145 v) 97 155 true).run Tryz.prog w = .ok (.tuple #[.pointer none, .bool false]) w := by kernel_rfl
@[go_sem] theorem ta145_156 (v : Value) (w : World) : (Instr.typeAssert (.iface 145 v) 97 156 true).run Tryz.prog w = .ok (.tuple #[.pointer none, .bool false]) w := by kernel_rfl
@[go_sem] theorem ta145_157 (v : Value) (w : World) : (Instr.typeAssert (.iface 145 v) 97 157 true).run Tryz.prog w = .ok (.tuple #[.pointer none, .bool false]) w := by kernel_rfl
@[go_sem] theorem ta146_142 (v : Value) (w : World) : (Instr.typeAssert (.iface 146 v) 97 142 true).run Tryz.prog w = .ok (.tuple #[.pointer none, .bool false]) w := by kernel_rfl
@[go_sem] theorem ta146_143 (v : Value) (w : World) : (Instr.typeAssert (.iface 146 v) 97 143 true).run Tryz.prog w = .ok (.tuple #[.pointer none, .bool false]) w := by kernel_rfl
@[go_sem] theorem ta146_144 (v : Value) (w : World) : (Instr.typeAssert (.iface 146 v) 97 144 true).run Tryz.prog w = .ok (.tuple #[.pointer none, .bool false]) w := by kernel_rfl
@[go_sem] theorem ta146_145 (v : Value) (w : World) : (Instr.typeAssert (.iface 146 v) 97 145 true).run Tryz.prog w = .ok (.tuple #[.pointer none, .bool false]) w := by kernel_rfl
@[go_sem] theorem ta146_146 (v : Value) (w : World) : (Instr.typeAssert (.iface 146 v) 97 146 true).run Tryz.prog w = .ok (.tuple #[v, .bool true]) w := by kernel_rfl
@[go_sem] theorem ta146_147 (v : Value) (w : World) : (Instr.typeAssert (.iface 146 v) 97 147 true).run Tryz.prog w = .ok (.tuple #[.pointer none, .bool false]) w := by kernel_rfl
@[go_sem] theorem ta146_148 (v : Value) (w : World) : (Instr.typeAssert (.iface 146 v) 97 148 true).run Tryz.prog w = .ok (.tuple #[.pointer none, .bool false]) w := by kernel_rfl
@[go_sem] theorem ta146_149 (v : Value) (w : World) : (Instr.typeAssert (.iface 146 v) 97 149 true).run Tryz.prog w = .ok (.tuple #[.pointer none, .bool false]) w := by kernel_rfl
@[go_sem] theorem ta146_150 (v : Value) (w : World) : (Instr.typeAssert (.iface 146 v) 97 150 true).run Tryz.prog w = .ok (.tuple #[.pointer none, .bool false]) w := by kernel_rfl
@[go_sem] theorem ta146_151 (v : Value) (w : World) : (Instr.typeAssert (.iface 146 v) 97 151 true).run Tryz.prog w = .ok (.tuple #[.pointer none, .bool false]) w := by kernel_rfl
@[go_sem] theorem ta146_152 (v : Value) (w : World) : (Instr.typeAssert (.iface 146 v) 97 152 true).run Tryz.prog w = .ok (.tuple #[.pointer none, .bool false]) w := by kernel_rfl
@[go_sem] theorem ta146_153 (v : Value) (w : World) : (Instr.typeAssert (.iface 146 v) 97 153 true).run Tryz.prog w = .ok (.tuple #[.pointer none, .bool false]) w := by kernel_rfl
@[go_sem] theorem ta146_154 (v : Value) (w : World) : (Instr.typeAssert (.iface 146 v) 97 154 true).run Tryz.prog w = .ok (.tuple #[.pointer none, .bool false]) w := by kernel_rfl
@[go_sem] theorem ta146_155 (v : Value) (w : World) : (Instr.typeAssert (.iface 146 v) 97 155 true).run Tryz.prog w = .ok (.tuple #[.pointer none, .bool false]) w := by kernel_rfl
@[go_sem] theorem ta146_156 (v : Value) (w : World) : (Instr.typeAssert (.iface 146 v) 97 156 true).run Tryz.prog w = .ok (.tuple #[.pointer none, .bool false]) w := by kernel_rfl
@[go_sem] theorem ta146_157 (v : Value) (w : World) : (Instr.typeAssert (.iface 146 v) 97 157 true).run Tryz.prog w = .ok (.tuple #[.pointer none, .bool false]) w := by kernel_rfl
@[go_sem] theorem ta149_142 (v : Value) (w : World) : (Instr.typeAssert (.iface 149 v) 97 142 true).run Tryz.prog w = .ok (.tuple #[.pointer none, .bool false]) w := by kernel_rfl
@[go_sem] theorem ta149_143 (v : Value) (w : World) : (Instr.typeAssert (.iface 149 v) 97 143 true).run Tryz.prog w = .ok (.tuple #[.pointer none, .bool false]) w := by kernel_rfl
@[go_sem] theorem ta149_144 (v : Value) (w : World) : (Instr.typeAssert (.iface 149 v) 97 144 true).run Tryz.prog w = .ok (.tuple #[.pointer none, .bool false]) w := by kernel_rfl
@[go_sem] theorem ta149_145 (v : Value) (w : World) : (Instr.typeAssert (.iface 149 v) 97 145 true).run Tryz.prog w = .ok (.tuple #[.pointer none, .bool false]) w := by kernel_rfl
@[go_sem] theorem ta149_146 (v : Value) (w : World) : (Instr.typeAssert (.iface 149 v) 97 146 true).run Tryz.prog w = .ok (.tuple #[.pointer none, .bool false]) w := by kernel_rfl
@[go_sem] theorem ta149_147 (v : Value) (w : World) : (Instr.typeAssert (.iface 149 v) 97 147 true).run Tryz.prog w = .ok (.tuple #[.pointer none, .bool false]) w := by kernel_rfl
@[go_sem] theorem ta149_148 (v : Value) (w : World) : (Instr.typeAssert (.iface 149 v) 97 148 true).run Tryz.prog w = .ok (.tuple #[.pointer none, .bool false]) w := by kernel_rfl
@[go_sem] theorem ta149_149 (v : Value) (w : World) : (Instr.typeAssert (.iface 149 v) 97 149 true).run Tryz.prog w = .ok (.tuple #[v, .bool true]) w := by kernel_rfl
@[go_sem] theorem ta149_150 (v : Value) (w : World) : (Instr.typeAssert (.iface 149 v) 97 150 true).run Tryz.prog w = .ok (.tuple #[.pointer none, .bool false]) w := by kernel_rfl
@[go_sem] theorem ta149_151 (v : Value) (w : World) : (Instr.typeAssert (.iface 149 v) 97 151 true).run Tryz.prog w = .ok (.tuple #[.pointer none, .bool false]) w := by kernel_rfl
@[go_sem] theorem ta149_152 (v : Value) (w : World) : (Instr.typeAssert (.iface 149 v) 97 152 true).run Tryz.prog w = .ok (.tuple #[.pointer none, .bool false]) w := by kernel_rfl
@[go_sem] theorem ta149_153 (v : Value) (w : World) : (Instr.typeAssert (.iface 149 v) 97 153 true).run Tryz.prog w = .ok (.tuple #[.pointer none, .bool false]) w := by kernel_rfl
@[go_sem] theorem ta149_154 (v : Value) (w : World) : (Instr.typeAssert (.iface 149 v) 97 154 true).run Tryz.prog w = .ok (.tuple #[.pointer none, .bool false]) w := by kernel_rfl
@[go_sem] theorem ta149_155 (v : Value) (w : World) : (Instr.typeAssert (.iface 149 v) 97 155 true).run Tryz.prog w = .ok (.tuple #[.pointer none, .bool false]) w := by kernel_rfl
@[go_sem] theorem ta149_156 (v : Value) (w : World) : (Instr.typeAssert (.iface 149 v) 97 156 true).run Tryz.prog w = .ok (.tuple #[.pointer none, .bool false]) w := by kernel_rfl
@[go_sem] theorem ta149_157 (v : Value) (w : World) : (Instr.typeAssert (.iface 149 v) 97 157 true).run Tryz.prog w = .ok (.tuple #[.pointer none, .bool false]) w := by kernel_rfl
@[go_sem] theorem ta156_142 (v : Value) (w : World) : (Instr.typeAssert (.iface 156 v) 97 142 true).run Tryz.prog w = .ok (.tuple #[.pointer none, .bool false]) w := by kernel_rfl
@[go_sem] theorem ta156_143 (v : Value) (w : World) : (Instr.typeAssert (.iface 156 v) 97 143 true).run Tryz.prog w = .ok (.tuple #[.pointer none, .bool false]) w := by kernel_rfl
@[go_sem] theorem ta156_144 (v : Value) (w : World) : (Instr.typeAssert (.iface 156 v) 97 144 true).run Tryz.prog w = .ok (.tuple #[.pointer none, .bool false]) w := by kernel_rfl
@[go_sem] theorem ta156_145 (v : Value) (w : World) : (Instr.typeAssert (.iface 156 v) 97 145 true).run Tryz.prog w = .ok (.tuple #[.pointer none, .bool false]) w := by kernel_rfl
@[go_sem] theorem ta156_146 (v : Value) (w : World) : (Instr.typeAssert (.iface 156 v) 97 146 true).run Tryz.prog w = .ok (.tuple #[.pointer none, .bool false]) w := by kernel_rfl
@[go_sem] theorem ta156_147 (v : Value) (w : World) : (Instr.typeAssert (.iface 156 v) 97 147 true).run Tryz.prog w = .ok (.tuple #[.pointer none, .bool false]) w := by kernel_rfl
@[go_sem] theorem ta156_148 (v : Value) (w : World) : (Instr.typeAssert (.iface 156 v) 97 148 true).run Tryz.prog w = .ok (.tuple #[.pointer none, .bool false]) w := by kernel_rfl
@[go_sem] theorem ta156_149 (v : Value) (w : World) : (Instr.typeAssert (.iface 156 v) 97 149 true).run Tryz.prog w = .ok (.tuple #[.pointer none, .bool false]) w := by kernel_rfl
@[go_sem] theorem ta156_150 (v : Value) (w : World) : (Instr.typeAssert (.iface 156 v) 97 150 true).run Tryz.prog w = .ok (.tuple #[.pointer none, .bool false]) w := by kernel_rfl
@[go_sem] theorem ta156_151 (v : Value) (w : World) : (Instr.typeAssert (.iface 156 v) 97 151 true).run Tryz.prog w = .ok (.tuple #[.pointer none, .bool false]) w := by kernel_rfl
@[go_sem] theorem ta156_152 (v : Value) (w : World) : (Instr.typeAssert (.iface 156 v) 97 152 true).run Tryz.prog w = .ok (.tuple #[.pointer none, .bool false]) w := by kernel_rfl
@[go_sem] theorem ta156_153 (v : Value) (w : World) : (Instr.typeAssert (.iface 156 v) 97 153 true).run Tryz.prog w = .ok (.tuple #[.pointer none, .bool false]) w := by kernel_rfl
@[go_sem] theorem ta156_154 (v : Value) (w : World) : (Instr.typeAssert (.iface 156 v) 97 154 true).run Tryz.prog w = .ok (.tuple #[.pointer none, .bool false]) w := by kernel_rfl
@[go_sem] theorem ta156_155 (v : Value) (w : World) : (Instr.typeAssert (.iface 156 v) 97 155 true).run Tryz.prog w = .ok (.tuple #[.pointer none, .bool false]) w := by kernel_rfl
@[go_sem] theorem ta156_156 (v : Value) (w : World) : (Instr.typeAssert (.iface 156 v) 97 156 true).run Tryz.prog w = .ok (.tuple #[v, .bool true]) w := by kernel_rfl
@[go_sem] theorem ta156_157 (v : Value) (w : World) : (Instr.typeAssert (.iface 156 v) 97 157 true).run Tryz.prog w = .ok (.tuple #[.pointer none, .bool false]) w := by kernel_rfl
set_option maxRecDepth 100000 in
set_option maxHeartbeats 1600000 in
theorem kind_3 (a : Addr) (w : World) : Calls Tryz.prog 58 #[.iface 142 (.pointer (some a))] w fun e w' => e = .returned (.int .i64 3) ∧ w' = w := by
  have hv : ErrV 3 (.iface 142 (.pointer (some a))) := errv_ptr 3 (by omega) a
  have e1 := errv_eof hv (by omega) w
  have e2 := errv_ueof hv (by omega) (by omega) w
  unfold ueofS at e2
  clear hv
  go_enter Tryz.func58, Tryz.ntmps58
  go_wp2
  go_ret
  exact ⟨rfl, rfl⟩
set_option maxRecDepth 100000 in
set_option maxHeartbeats 1600000 in
theorem kind_4 (a : Addr) (w : World) : Calls Tryz.prog 58 #[.iface 143 (.pointer (some a))] w fun e w' => e = .returned (.int .i64 4) ∧ w' = w := by
  have hv : ErrV 4 (.iface 143 (.pointer (some a))) := errv_ptr 4 (by omega) a
  have e1 := errv_eof hv (by omega) w
  have e2 := errv_ueof hv (by omega) (by omega) w
  unfold ueofS at e2
  clear hv
  go_enter Tryz.func58, Tryz.ntmps58
  go_wp2
  go_ret
  exact ⟨rfl, rfl⟩
set_option maxRecDepth 100000 in
set_option maxHeartbeats 1600000 in
theorem kind_5 (a : Addr) (w : World) : Calls Tryz.prog 58 #[.iface 144 (.pointer (some a))] w fun e w' => e = .returned (.int .i64 5) ∧ w' = w := by
  have hv : ErrV 5 (.iface 144 (.pointer (some a))) := errv_ptr 5 (by omega) a
  have e1 := errv_eof hv (by omega) w
  have e2 := errv_ueof hv (by omega) (by omega) w
  unfold ueofS at e2
  clear hv
  go_enter Tryz.func58, Tryz.ntmps58
  go_wp2
  go_ret
  exact ⟨rfl, rfl⟩
set_option maxRecDepth 100000 in
set_option maxHeartbeats 1600000 in
theorem kind_6 (a : Addr) (w : World) : Calls Tryz.prog 58 #[.iface 145 (.pointer (some a))] w fun e w' => e = .returned (.int .i64 6) ∧ w' = w := by
  have hv : ErrV 6 (.iface 145 (.pointer (some a))) := errv_ptr 6 (by omega) a
  have e1 := errv_eof hv (by omega) w
  have e2 := errv_ueof hv (by omega) (by omega) w
  unfold ueofS at e2
  clear hv
  go_enter Tryz.func58, Tryz.ntmps58
  go_wp2
  go_ret
  exact ⟨rfl, rfl⟩
set_option maxRecDepth 100000 in
set_option maxHeartbeats 1600000 in
theorem kind_7 (a : Addr) (w : World) : Calls Tryz.prog 58 #[.iface 146 (.pointer (some a))] w fun e w' => e = .returned (.int .i64 7) ∧ w' = w := by
  have hv : ErrV 7 (.iface 146 (.pointer (some a))) := errv_ptr 7 (by omega) a
  have e1 := errv_eof hv (by omega) w
  have e2 := errv_ueof hv (by omega) (by omega) w
  unfold ueofS at e2
  clear hv
  go_enter Tryz.func58, Tryz.ntmps58
  go_wp2
  go_ret
  exact ⟨rfl, rfl⟩
set_option maxRecDepth 100000 in
set_option maxHeartbeats 1600000 in
theorem kind_10 (a : Addr) (w : World) : Calls Tryz.prog 58 #[.iface 149 (.pointer (some a))] w fun e w' => e = .returned (.int .i64 10) ∧ w' = w := by
  have hv : ErrV 10 (.iface 149 (.pointer (some a))) := errv_ptr 10 (by omega) a
  have e1 := errv_eof hv (by omega) w
  have e2 := errv_ueof hv (by omega) (by omega) w
  unfold ueofS at e2
  clear hv
  go_enter Tryz.func58, Tryz.ntmps58
  go_wp2
  go_ret
  exact ⟨rfl, rfl⟩
set_option maxRecDepth 100000 in
set_option maxHeartbeats 1600000 in
theorem kind_17 (a : Addr) (w : World) : Calls Tryz.prog 58 #[.iface 156 (.pointer (some a))] w fun e w' => e = .returned (.int .i64 17) ∧ w' = w := by
  have hv : ErrV 17 (.iface 156 (.pointer (some a))) := errv_ptr 17 (by omega) a
  have e1 := errv_eof hv (by omega) w
  have e2 := errv_ueof hv (by omega) (by omega) w
  unfold ueofS at e2
  clear hv
  go_enter Tryz.func58, Tryz.ntmps58
  go_wp2
  go_ret
  exact ⟨rfl, rfl⟩
set_option maxRecDepth 100000 in
set_option maxHeartbeats 1600000 in
theorem kind_1 (w : World) : Calls Tryz.prog 58 #[.iface 141 (.string eofS)] w fun e w' => e = .returned (.int .i64 1) ∧ w' = w := by
  have e1 := eq_eof w
  unfold eofS
  go_enter Tryz.func58, Tryz.ntmps58
  go_wp2
  go_ret
  exact ⟨rfl, rfl⟩
set_option maxRecDepth 100000 in
set_option maxHeartbeats 1600000 in
theorem kind_2 (w : World) : Calls Tryz.prog 58 #[.iface 141 (.string ueofS)] w fun e w' => e = .returned (.int .i64 2) ∧ w' = w := by
  have e1 := errv_eof (k := 2) (v := .iface 141 (.string ueofS)) rfl (by omega) w
  have e2 : (binOp .eql 97 (.iface 141 (.string ueofS)) (.iface 141 (.string ueofS))).run Tryz.prog w = .ok (.bool true) w := by rw [eq_str]; rfl
  unfold ueofS at *
  go_enter Tryz.func58, Tryz.ntmps58
  go_wp2
  go_ret
  exact ⟨rfl, rfl⟩
set_option maxRecDepth 100000 in
set_option maxHeartbeats 1600000 in
theorem kind_16 (s : ByteArray) (h1 : s ≠ eofS) (h2 : s ≠ ueofS) (w : World) : Calls Tryz.prog 58 #[.iface 141 (.string s)] w fun e w' => e = .returned (.int .i64 16) ∧ w' = w := by
  have hv : ErrV 16 (.iface 141 (.string s)) := ⟨s, rfl, h1, h2⟩
  have e1 := errv_eof hv (by omega) w
  have e2 := errv_ueof hv (by omega) (by omega) w
  unfold ueofS at e2
  clear hv h1 h2
  go_enter Tryz.func58, Tryz.ntmps58
  go_wp2
  go_ret
  exact ⟨rfl, rfl⟩
theorem zzKind (k : Nat) (v : Value) (h : ErrV k v) (w : World) : Calls Tryz.prog 58 #[v] w fun e w' => e = .returned (.int .i64 (k : Int)) ∧ w' = w := by
  unfold ErrV at h
  split at h
  · subst h; rename_i h; subst h; exact kind_1 w
  · split at h
    · subst h; rename_i h; subst h; exact kind_2 w
    · split at h
      · obtain ⟨s, rfl, h1, h2⟩ := h
        rename_i h; subst h; exact kind_16 s h1 h2 w
      · obtain ⟨hk, a, rfl⟩ := h
        rcases hk with rfl | rfl | rfl | rfl | rfl | rfl | rfl
        · exact kind_3 a w
        · exact kind_4 a w
        · exact kind_5 a w
        · exact kind_6 a w
        · exact kind_7 a w
        · exact kind_10 a w
        · exact kind_17 a w
end Go.Proofs.YteodinhkhhaafaaGreatDoor
