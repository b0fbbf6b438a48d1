/- Walks of the program, and plain facts. -/
import Derived.Test.YteodinhkhhaafaaGreatDoorFah
import Derived.LaidEql
import Derived.Stop.Asserts
import Derived.Test.YteodinhkhhaafaaGreatDoorFai
set_option linter.unusedVariables false
set_option linter.unusedSimpArgs false
set_option maxRecDepth 100000
set_option maxHeartbeats 6400000
namespace Go.Proofs.YteodinhkhhaafaaGreatDoor
section
open Go.RowKit
theorem info141: ∃i,Tryz.prog.info? 141=some i∧i.comparable=true:=by
 have h:(Tryz.prog.info? 141).map (·.comparable)=some true:=by kernel_rfl
 obtain ⟨i,h1,h2⟩:=Option.map_eq_some_iff.1 h;exact ⟨i,h1,h2⟩
theorem ba_ne {s t:ByteArray} (h: ¬s=t):(s==t)=false:=by
 cases hb:(s==t)
 ·rfl
 ·exfalso
  apply h
  have:s.data=t.data:=by
   have h2:(s.data==t.data)=true:=hb
   simpa using h2
  cases s;cases t;simp_all
theorem eqIn_str (w:World) (d:Nat) (s t:ByteArray):(Op.equalIn (d+2) 97 (.iface 141 (.string s)) (.iface 141 (.string t))).run Tryz.prog w= .ok (s==t) w:=by
 obtain ⟨i,h1,h2⟩:=info141;simp [Op.equalIn,run_underlying Tryz.underlying97,run_underlying Tryz.underlying141,typeInfo,h1,h2]
theorem eq_str (w:World) (s t:ByteArray):(binOp .eql 97 (.iface 141 (.string s)) (.iface 141 (.string t))).run Tryz.prog w= .ok (.bool (s==t)) w:=by
 simp only [binOp];simp [Op.equal,Op.maxDepth,eqIn_str w 9998 s t]
theorem eq_eof (w:World):(binOp .eql 97 (.iface 141 (.string ⟨#[69,79,70]⟩)) (.iface 141 (.string ⟨#[69,79,70]⟩))).run Tryz.prog w= .ok (.bool true) w:=by
 rw [eq_str];rfl
theorem errv_eof {k:Nat} {v:Value} (h:ErrV k v) (hk:k≠1) (w:World):(binOp .eql 97 v (.iface 141 (.string ⟨#[69,79,70]⟩))).run Tryz.prog w= .ok (.bool false) w:=by
 unfold ErrV at h;rw [if_neg hk] at h
 split at h
 ·subst h;rw [eq_str];rfl
 ·split at h
  ·obtain ⟨s,rfl,h1,_⟩:=h;rw [eq_str,show (s==⟨#[69,79,70]⟩)=false from ba_ne h1]
  ·obtain ⟨hk,a,rfl⟩:=h;refine run_eql_iface_types _ _ _ _ Tryz.underlying97 ?_ w
   rcases hk with rfl|rfl|rfl|rfl|rfl|rfl|rfl<;>decide
theorem errv_ueof {k:Nat} {v:Value} (h:ErrV k v) (hk:k≠2) (hk1:k≠1) (w:World):(binOp .eql 97 v (.iface 141 (.string ueofS))).run Tryz.prog w= .ok (.bool false) w:=by
 unfold ErrV at h;rw [if_neg hk1,if_neg hk] at h
 split at h
 ·obtain ⟨s,rfl,_,h1⟩:=h;rw [eq_str,ba_ne h1]
 ·obtain ⟨hk,a,rfl⟩:=h;refine run_eql_iface_types _ _ _ _ Tryz.underlying97 ?_ w
  rcases hk with rfl|rfl|rfl|rfl|rfl|rfl|rfl<;>decide
end
section
open Go.RowKit
abbrev TA (t u:TypeId) (v:Value) (w:World):Prop:=(Instr.typeAssert (.iface t v) 97 u true).run Tryz.prog w= .ok (.tuple #[.pointer none,.bool false]) w
section
variable (v:Value) (w:World)
@[go_sem] theorem ta141_142:TA 141 142 v w:=by unfold TA;kernel_rfl
@[go_sem] theorem ta141_143:TA 141 143 v w:=by unfold TA;kernel_rfl
@[go_sem] theorem ta141_144:TA 141 144 v w:=by unfold TA;kernel_rfl
@[go_sem] theorem ta141_145:TA 141 145 v w:=by unfold TA;kernel_rfl
@[go_sem] theorem ta141_146:TA 141 146 v w:=by unfold TA;kernel_rfl
@[go_sem] theorem ta141_147:TA 141 147 v w:=by unfold TA;kernel_rfl
@[go_sem] theorem ta141_148:TA 141 148 v w:=by unfold TA;kernel_rfl
@[go_sem] theorem ta141_149:TA 141 149 v w:=by unfold TA;kernel_rfl
@[go_sem] theorem ta141_150:TA 141 150 v w:=by unfold TA;kernel_rfl
@[go_sem] theorem ta141_151:TA 141 151 v w:=by unfold TA;kernel_rfl
@[go_sem] theorem ta141_152:TA 141 152 v w:=by unfold TA;kernel_rfl
@[go_sem] theorem ta141_153:TA 141 153 v w:=by unfold TA;kernel_rfl
@[go_sem] theorem ta141_154:TA 141 154 v w:=by unfold TA;kernel_rfl
@[go_sem] theorem ta141_155:TA 141 155 v w:=by unfold TA;kernel_rfl
@[go_sem] theorem ta141_156:TA 141 156 v w:=by unfold TA;kernel_rfl
@[go_sem] theorem ta141_157:TA 141 157 v w:=by unfold TA;kernel_rfl
@[go_sem] theorem ta142_142 (v:Value) (w:World):(Instr.typeAssert (.iface 142 v) 97 142 true).run Tryz.prog w= .ok (.tuple #[v,.bool true]) w:=by kernel_rfl
@[go_sem] theorem ta142_143:TA 142 143 v w:=by unfold TA;kernel_rfl
@[go_sem] theorem ta142_144:TA 142 144 v w:=by unfold TA;kernel_rfl
@[go_sem] theorem ta142_145:TA 142 145 v w:=by unfold TA;kernel_rfl
@[go_sem] theorem ta142_146:TA 142 146 v w:=by unfold TA;kernel_rfl
@[go_sem] theorem ta142_147:TA 142 147 v w:=by unfold TA;kernel_rfl
@[go_sem] theorem ta142_148:TA 142 148 v w:=by unfold TA;kernel_rfl
@[go_sem] theorem ta142_149:TA 142 149 v w:=by unfold TA;kernel_rfl
@[go_sem] theorem ta142_150:TA 142 150 v w:=by unfold TA;kernel_rfl
@[go_sem] theorem ta142_151:TA 142 151 v w:=by unfold TA;kernel_rfl
@[go_sem] theorem ta142_152:TA 142 152 v w:=by unfold TA;kernel_rfl
@[go_sem] theorem ta142_153:TA 142 153 v w:=by unfold TA;kernel_rfl
@[go_sem] theorem ta142_154:TA 142 154 v w:=by unfold TA;kernel_rfl
@[go_sem] theorem ta142_155:TA 142 155 v w:=by unfold TA;kernel_rfl
@[go_sem] theorem ta142_156:TA 142 156 v w:=by unfold TA;kernel_rfl
@[go_sem] theorem ta142_157:TA 142 157 v w:=by unfold TA;kernel_rfl
@[go_sem] theorem ta143_142:TA 143 142 v w:=by unfold TA;kernel_rfl
@[go_sem] theorem ta143_143 (v:Value) (w:World):(Instr.typeAssert (.iface 143 v) 97 143 true).run Tryz.prog w= .ok (.tuple #[v,.bool true]) w:=by kernel_rfl
@[go_sem] theorem ta143_144:TA 143 144 v w:=by unfold TA;kernel_rfl
@[go_sem] theorem ta143_145:TA 143 145 v w:=by unfold TA;kernel_rfl
@[go_sem] theorem ta143_146:TA 143 146 v w:=by unfold TA;kernel_rfl
@[go_sem] theorem ta143_147:TA 143 147 v w:=by unfold TA;kernel_rfl
@[go_sem] theorem ta143_148:TA 143 148 v w:=by unfold TA;kernel_rfl
@[go_sem] theorem ta143_149:TA 143 149 v w:=by unfold TA;kernel_rfl
@[go_sem] theorem ta143_150:TA 143 150 v w:=by unfold TA;kernel_rfl
@[go_sem] theorem ta143_151:TA 143 151 v w:=by unfold TA;kernel_rfl
@[go_sem] theorem ta143_152:TA 143 152 v w:=by unfold TA;kernel_rfl
@[go_sem] theorem ta143_153:TA 143 153 v w:=by unfold TA;kernel_rfl
@[go_sem] theorem ta143_154:TA 143 154 v w:=by unfold TA;kernel_rfl
@[go_sem] theorem ta143_155:TA 143 155 v w:=by unfold TA;kernel_rfl
@[go_sem] theorem ta143_156:TA 143 156 v w:=by unfold TA;kernel_rfl
@[go_sem] theorem ta143_157:TA 143 157 v w:=by unfold TA;kernel_rfl
@[go_sem] theorem ta144_142:TA 144 142 v w:=by unfold TA;kernel_rfl
@[go_sem] theorem ta144_143:TA 144 143 v w:=by unfold TA;kernel_rfl
@[go_sem] theorem ta144_144 (v:Value) (w:World):(Instr.typeAssert (.iface 144 v) 97 144 true).run Tryz.prog w= .ok (.tuple #[v,.bool true]) w:=by kernel_rfl
@[go_sem] theorem ta144_145:TA 144 145 v w:=by unfold TA;kernel_rfl
@[go_sem] theorem ta144_146:TA 144 146 v w:=by unfold TA;kernel_rfl
@[go_sem] theorem ta144_147:TA 144 147 v w:=by unfold TA;kernel_rfl
@[go_sem] theorem ta144_148:TA 144 148 v w:=by unfold TA;kernel_rfl
@[go_sem] theorem ta144_149:TA 144 149 v w:=by unfold TA;kernel_rfl
@[go_sem] theorem ta144_150:TA 144 150 v w:=by unfold TA;kernel_rfl
@[go_sem] theorem ta144_151:TA 144 151 v w:=by unfold TA;kernel_rfl
@[go_sem] theorem ta144_152:TA 144 152 v w:=by unfold TA;kernel_rfl
@[go_sem] theorem ta144_153:TA 144 153 v w:=by unfold TA;kernel_rfl
@[go_sem] theorem ta144_154:TA 144 154 v w:=by unfold TA;kernel_rfl
@[go_sem] theorem ta144_155:TA 144 155 v w:=by unfold TA;kernel_rfl
@[go_sem] theorem ta144_156:TA 144 156 v w:=by unfold TA;kernel_rfl
@[go_sem] theorem ta144_157:TA 144 157 v w:=by unfold TA;kernel_rfl
@[go_sem] theorem ta145_142:TA 145 142 v w:=by unfold TA;kernel_rfl
@[go_sem] theorem ta145_143:TA 145 143 v w:=by unfold TA;kernel_rfl
@[go_sem] theorem ta145_144:TA 145 144 v w:=by unfold TA;kernel_rfl
@[go_sem] theorem ta145_145 (v:Value) (w:World):(Instr.typeAssert (.iface 145 v) 97 145 true).run Tryz.prog w= .ok (.tuple #[v,.bool true]) w:=by kernel_rfl
@[go_sem] theorem ta145_146:TA 145 146 v w:=by unfold TA;kernel_rfl
@[go_sem] theorem ta145_147:TA 145 147 v w:=by unfold TA;kernel_rfl
@[go_sem] theorem ta145_148:TA 145 148 v w:=by unfold TA;kernel_rfl
@[go_sem] theorem ta145_149:TA 145 149 v w:=by unfold TA;kernel_rfl
@[go_sem] theorem ta145_150:TA 145 150 v w:=by unfold TA;kernel_rfl
@[go_sem] theorem ta145_151:TA 145 151 v w:=by unfold TA;kernel_rfl
@[go_sem] theorem ta145_152:TA 145 152 v w:=by unfold TA;kernel_rfl
@[go_sem] theorem ta145_153:TA 145 153 v w:=by unfold TA;kernel_rfl
@[go_sem] theorem ta145_154:TA 145 154 v w:=by unfold TA;kernel_rfl
@[go_sem] theorem ta145_155:TA 145 155 v w:=by unfold TA;kernel_rfl
@[go_sem] theorem ta145_156:TA 145 156 v w:=by unfold TA;kernel_rfl
@[go_sem] theorem ta145_157:TA 145 157 v w:=by unfold TA;kernel_rfl
@[go_sem] theorem ta146_142:TA 146 142 v w:=by unfold TA;kernel_rfl
@[go_sem] theorem ta146_143:TA 146 143 v w:=by unfold TA;kernel_rfl
@[go_sem] theorem ta146_144:TA 146 144 v w:=by unfold TA;kernel_rfl
@[go_sem] theorem ta146_145:TA 146 145 v w:=by unfold TA;kernel_rfl
@[go_sem] theorem ta146_146 (v:Value) (w:World):(Instr.typeAssert (.iface 146 v) 97 146 true).run Tryz.prog w= .ok (.tuple #[v,.bool true]) w:=by kernel_rfl
@[go_sem] theorem ta146_147:TA 146 147 v w:=by unfold TA;kernel_rfl
@[go_sem] theorem ta146_148:TA 146 148 v w:=by unfold TA;kernel_rfl
@[go_sem] theorem ta146_149:TA 146 149 v w:=by unfold TA;kernel_rfl
@[go_sem] theorem ta146_150:TA 146 150 v w:=by unfold TA;kernel_rfl
@[go_sem] theorem ta146_151:TA 146 151 v w:=by unfold TA;kernel_rfl
@[go_sem] theorem ta146_152:TA 146 152 v w:=by unfold TA;kernel_rfl
@[go_sem] theorem ta146_153:TA 146 153 v w:=by unfold TA;kernel_rfl
@[go_sem] theorem ta146_154:TA 146 154 v w:=by unfold TA;kernel_rfl
@[go_sem] theorem ta146_155:TA 146 155 v w:=by unfold TA;kernel_rfl
@[go_sem] theorem ta146_156:TA 146 156 v w:=by unfold TA;kernel_rfl
@[go_sem] theorem ta146_157:TA 146 157 v w:=by unfold TA;kernel_rfl
@[go_sem] theorem ta149_142:TA 149 142 v w:=by unfold TA;kernel_rfl
@[go_sem] theorem ta149_143:TA 149 143 v w:=by unfold TA;kernel_rfl
@[go_sem] theorem ta149_144:TA 149 144 v w:=by unfold TA;kernel_rfl
@[go_sem] theorem ta149_145:TA 149 145 v w:=by unfold TA;kernel_rfl
@[go_sem] theorem ta149_146:TA 149 146 v w:=by unfold TA;kernel_rfl
@[go_sem] theorem ta149_147:TA 149 147 v w:=by unfold TA;kernel_rfl
@[go_sem] theorem ta149_148:TA 149 148 v w:=by unfold TA;kernel_rfl
@[go_sem] theorem ta149_149 (v:Value) (w:World):(Instr.typeAssert (.iface 149 v) 97 149 true).run Tryz.prog w= .ok (.tuple #[v,.bool true]) w:=by kernel_rfl
@[go_sem] theorem ta149_150:TA 149 150 v w:=by unfold TA;kernel_rfl
@[go_sem] theorem ta149_151:TA 149 151 v w:=by unfold TA;kernel_rfl
@[go_sem] theorem ta149_152:TA 149 152 v w:=by unfold TA;kernel_rfl
@[go_sem] theorem ta149_153:TA 149 153 v w:=by unfold TA;kernel_rfl
@[go_sem] theorem ta149_154:TA 149 154 v w:=by unfold TA;kernel_rfl
@[go_sem] theorem ta149_155:TA 149 155 v w:=by unfold TA;kernel_rfl
@[go_sem] theorem ta149_156:TA 149 156 v w:=by unfold TA;kernel_rfl
@[go_sem] theorem ta149_157:TA 149 157 v w:=by unfold TA;kernel_rfl
@[go_sem] theorem ta156_142:TA 156 142 v w:=by unfold TA;kernel_rfl
@[go_sem] theorem ta156_143:TA 156 143 v w:=by unfold TA;kernel_rfl
@[go_sem] theorem ta156_144:TA 156 144 v w:=by unfold TA;kernel_rfl
@[go_sem] theorem ta156_145:TA 156 145 v w:=by unfold TA;kernel_rfl
@[go_sem] theorem ta156_146:TA 156 146 v w:=by unfold TA;kernel_rfl
@[go_sem] theorem ta156_147:TA 156 147 v w:=by unfold TA;kernel_rfl
@[go_sem] theorem ta156_148:TA 156 148 v w:=by unfold TA;kernel_rfl
@[go_sem] theorem ta156_149:TA 156 149 v w:=by unfold TA;kernel_rfl
@[go_sem] theorem ta156_150:TA 156 150 v w:=by unfold TA;kernel_rfl
@[go_sem] theorem ta156_151:TA 156 151 v w:=by unfold TA;kernel_rfl
@[go_sem] theorem ta156_152:TA 156 152 v w:=by unfold TA;kernel_rfl
@[go_sem] theorem ta156_153:TA 156 153 v w:=by unfold TA;kernel_rfl
@[go_sem] theorem ta156_154:TA 156 154 v w:=by unfold TA;kernel_rfl
@[go_sem] theorem ta156_155:TA 156 155 v w:=by unfold TA;kernel_rfl
@[go_sem] theorem ta156_156 (v:Value) (w:World):(Instr.typeAssert (.iface 156 v) 97 156 true).run Tryz.prog w= .ok (.tuple #[v,.bool true]) w:=by kernel_rfl
@[go_sem] theorem ta156_157:TA 156 157 v w:=by unfold TA;kernel_rfl
end
theorem kind_3 (a:Addr) (w:World):Calls Tryz.prog 58 #[.iface 142 (.pointer (some a))] w fun e w'=>e= .returned (.int .i64 3)∧w'=w:=by
 have hv:ErrV 3 (.iface 142 (.pointer (some a))):=errv_ptr 3 (by omega) a
 have e1:=errv_eof hv (by omega) w
 have e2:=errv_ueof hv (by omega) (by omega) w
 unfold ueofS at e2;clear hv;go_enter Tryz.func58,Tryz.ntmps58
 go_wp2;go_ret
 exact ⟨rfl,rfl⟩
theorem kind_4 (a:Addr) (w:World):Calls Tryz.prog 58 #[.iface 143 (.pointer (some a))] w fun e w'=>e= .returned (.int .i64 4)∧w'=w:=by
 have hv:ErrV 4 (.iface 143 (.pointer (some a))):=errv_ptr 4 (by omega) a
 have e1:=errv_eof hv (by omega) w
 have e2:=errv_ueof hv (by omega) (by omega) w
 unfold ueofS at e2;clear hv;go_enter Tryz.func58,Tryz.ntmps58
 go_wp2;go_ret
 exact ⟨rfl,rfl⟩
theorem kind_5 (a:Addr) (w:World):Calls Tryz.prog 58 #[.iface 144 (.pointer (some a))] w fun e w'=>e= .returned (.int .i64 5)∧w'=w:=by
 have hv:ErrV 5 (.iface 144 (.pointer (some a))):=errv_ptr 5 (by omega) a
 have e1:=errv_eof hv (by omega) w
 have e2:=errv_ueof hv (by omega) (by omega) w
 unfold ueofS at e2;clear hv;go_enter Tryz.func58,Tryz.ntmps58
 go_wp2;go_ret
 exact ⟨rfl,rfl⟩
theorem kind_6 (a:Addr) (w:World):Calls Tryz.prog 58 #[.iface 145 (.pointer (some a))] w fun e w'=>e= .returned (.int .i64 6)∧w'=w:=by
 have hv:ErrV 6 (.iface 145 (.pointer (some a))):=errv_ptr 6 (by omega) a
 have e1:=errv_eof hv (by omega) w
 have e2:=errv_ueof hv (by omega) (by omega) w
 unfold ueofS at e2;clear hv;go_enter Tryz.func58,Tryz.ntmps58
 go_wp2;go_ret
 exact ⟨rfl,rfl⟩
theorem kind_7 (a:Addr) (w:World):Calls Tryz.prog 58 #[.iface 146 (.pointer (some a))] w fun e w'=>e= .returned (.int .i64 7)∧w'=w:=by
 have hv:ErrV 7 (.iface 146 (.pointer (some a))):=errv_ptr 7 (by omega) a
 have e1:=errv_eof hv (by omega) w
 have e2:=errv_ueof hv (by omega) (by omega) w
 unfold ueofS at e2;clear hv;go_enter Tryz.func58,Tryz.ntmps58
 go_wp2;go_ret
 exact ⟨rfl,rfl⟩
theorem kind_10 (a:Addr) (w:World):Calls Tryz.prog 58 #[.iface 149 (.pointer (some a))] w fun e w'=>e= .returned (.int .i64 10)∧w'=w:=by
 have hv:ErrV 10 (.iface 149 (.pointer (some a))):=errv_ptr 10 (by omega) a
 have e1:=errv_eof hv (by omega) w
 have e2:=errv_ueof hv (by omega) (by omega) w
 unfold ueofS at e2;clear hv;go_enter Tryz.func58,Tryz.ntmps58
 go_wp2;go_ret
 exact ⟨rfl,rfl⟩
theorem kind_17 (a:Addr) (w:World):Calls Tryz.prog 58 #[.iface 156 (.pointer (some a))] w fun e w'=>e= .returned (.int .i64 17)∧w'=w:=by
 have hv:ErrV 17 (.iface 156 (.pointer (some a))):=errv_ptr 17 (by omega) a
 have e1:=errv_eof hv (by omega) w
 have e2:=errv_ueof hv (by omega) (by omega) w
 unfold ueofS at e2;clear hv;go_enter Tryz.func58,Tryz.ntmps58
 go_wp2;go_ret
 exact ⟨rfl,rfl⟩
theorem kind_1 (w:World):Calls Tryz.prog 58 #[.iface 141 (.string eofS)] w fun e w'=>e= .returned (.int .i64 1)∧w'=w:=by
 have e1:=eq_eof w;unfold eofS;go_enter Tryz.func58,Tryz.ntmps58
 go_wp2;go_ret
 exact ⟨rfl,rfl⟩
theorem kind_2 (w:World):Calls Tryz.prog 58 #[.iface 141 (.string ueofS)] w fun e w'=>e= .returned (.int .i64 2)∧w'=w:=by
 have e1:=errv_eof (k:=2) (v:= .iface 141 (.string ueofS)) rfl (by omega) w
 have e2:(binOp .eql 97 (.iface 141 (.string ueofS)) (.iface 141 (.string ueofS))).run Tryz.prog w= .ok (.bool true) w:=by rw [eq_str];rfl
 unfold ueofS at *
 go_enter Tryz.func58,Tryz.ntmps58
 go_wp2;go_ret
 exact ⟨rfl,rfl⟩
theorem kind_16 (s:ByteArray) (h1:s≠eofS) (h2:s≠ueofS) (w:World):Calls Tryz.prog 58 #[.iface 141 (.string s)] w fun e w'=>e= .returned (.int .i64 16)∧w'=w:=by
 have hv:ErrV 16 (.iface 141 (.string s)):=⟨s,rfl,h1,h2⟩;have e1:=errv_eof hv (by omega) w
 have e2:=errv_ueof hv (by omega) (by omega) w
 unfold ueofS at e2;clear hv h1 h2;go_enter Tryz.func58,Tryz.ntmps58
 go_wp2;go_ret
 exact ⟨rfl,rfl⟩
theorem zzKind (k:Nat) (v:Value) (h:ErrV k v) (w:World):Calls Tryz.prog 58 #[v] w fun e w'=>e= .returned (.int .i64 (k:Int))∧w'=w:=by
 unfold ErrV at h
 split at h
 ·subst h;rename_i h;subst h;exact kind_1 w
 ·split at h
  ·subst h;rename_i h;subst h;exact kind_2 w
  ·split at h
   ·obtain ⟨s,rfl,h1,h2⟩:=h;rename_i h;subst h;exact kind_16 s h1 h2 w
   ·obtain ⟨hk,a,rfl⟩:=h;rcases hk with rfl|rfl|rfl|rfl|rfl|rfl|rfl
    ·exact kind_3 a w
    ·exact kind_4 a w
    ·exact kind_5 a w
    ·exact kind_6 a w
    ·exact kind_7 a w
    ·exact kind_10 a w
    ·exact kind_17 a w
end
section
set_option exponentiation.threshold 3000
open Go.RowKit
theorem itoa_nat (E:Nat):itoa (E:Int)=dec E:=by unfold itoa;rw [if_neg (by omega)];rfl
theorem expD {w:World} {p:Nat} {d:List Nat} {dp:Int} (h:DecP w p d dp) (hd: ∀x,x∈d→x<10) (hne:d≠[]) (h1:dp≤100000) (h2: -100000≤dp) (prec:Nat) (hp:prec≤100000) (hl:d.length≤100000):
  Calls Tryz.prog 213 #[.pointer (some ⟨p,0,none⟩),.int .i64 (prec:Int),.int .u8 101] w fun e w'=>e= .returned (.string ⟨(expT d dp prec).toArray⟩)∧Fr [] w w':=by
 have KD:=Hz (fun (W:World) (F:Fr [] w W) (i:Int)=>digit (h.fr F) hd i)
 have KC:=Hz (fun (W:World) (F:Fr [] w W)=>(by obtain ⟨ao,c,_,c1,_,_⟩:=(h.fr F).cells hd;exact c1:W.cell? ⟨p,1,none⟩=some (.int .i64 dp)))
 have KZ:=Hz (fun (W:World) (F:Fr [] w W)=>(by obtain ⟨ao,c,c0,_,_,_⟩:=(h.fr F).cells hd;exact ⟨ao,c,c0⟩: ∃ao c,W.cell? ⟨p,0,none⟩=some (.slice ao d.length c)))
 have hlt:=Hz (dgi_lt hd);have hl0:0<d.length:=List.length_pos_iff.2 hne;have tl:((d.length:Int)==0)=false:=by simp;omega
 have tl2: ¬(d.length:Int)=0:=by omega
 obtain ⟨E,hE⟩: ∃E:Nat,E=(dp-1).natAbs:=⟨_,rfl⟩;have hEl:E≤100001:=by omega
 have hdl:=dec_length E 6 (by omega) (by omega)
 have hE0:Hid (expT d dp prec=ch (dgt d 0)::((if prec=0 then [] else 46::(List.range prec).map fun i=>ch (dgt d (i+1)))++([101,if dp-1<(0:Int) then 45 else 43]++((if E<10 then [48] else [])++dec E)))):=Hz (by rw [hE];unfold expT;rw [if_neg hne])
 have hsg:(dp-1<0∧0<E∧dp-1= -(E:Int))∨(¬dp-1<0∧dp-1=(E:Int)):=by omega
 have KI:=Hz (fun W=>(by have:=itoa_any (E:Int) (by omega) (by omega) W;rwa [itoa_nat] at this:Calls Tryz.prog 116 #[.int .i64 (E:Int)] W fun e w'=>e= .returned (.string ⟨(dec E).toArray⟩)∧Fr [] W w'))
 have s0:IntKind.i64.wrap (dp-1)=dp-1:=IntWalk.i64_in _ (by omega)
 replace h:=Hz h;replace hd:=Hz hd;replace hE:=Hz hE;clear hne hl;obtain ⟨x0,hx0⟩: ∃x0,x0=dgt d 0:=⟨_,rfl⟩;have hx10:x0<10:=by have:=hlt.out ((0:Nat):Int);rw [dgi_nat,←hx0] at this;exact this
 have hD0:dgi d 0=x0:=by rw [hx0];exact dgi_nat d 0
 rw [←hx0] at hE0;have s1:IntKind.u8.wrap (48+(x0:Int))=48+(x0:Int):=IntWalk.u8_in _ (by omega)
 have hcx:=Hz (ch_nat hx10);replace hx0:=Hz hx0;go_enter Tryz.func213,Tryz.ntmps213
 go_wp2_with fail
 refine (KD.out w (Fr.refl _ _) 0).mono ?_
 rintro e w1 ⟨rfl,rfl⟩;rw [hD0];replace hD0:=Hz hD0;have row0:Row (w1.alloc (.cells #[.int .u8 (48+(x0:Int))] 5 (0,0))) w1.heap.size (.slice (some ⟨w1.heap.size,0,none⟩) 1 1) [ch x0]:=row_1 (w:=w1) rfl hcx.out (Nat.le_refl _);have F0:Fr [] w1 (w1.alloc (.cells #[.int .u8 (48+(x0:Int))] 5 (0,0))):=(Fr.refl [] w1).alloc _;replace row0:=Hz row0;replace F0:=Hz F0;by_cases hp0:prec=0
 ·have t2: ¬(0:Int)<(prec:Int):=by omega
  replace hp0:=Hz hp0;obtain ⟨Q,hQ⟩: ∃Q:List UInt8,Q=[ch x0]:=⟨_,rfl⟩;rw [←hQ] at row0;have hQl:Q.length≤100005:=by rw [hQ];simp
  have hlQ:Hid (Q.length+([101,43]:List UInt8).length≤140737488355328):=Hz (by simp;omega)
  replace hQ:=Hz hQ;have hR2:Hid (Rd ((w1.alloc (.cells #[.int .u8 (48+(x0:Int))] 5 (0,0))).alloc (.cells #[.int .u8 101,.int .u8 43] 5 (0,0))) (w1.heap.size+1) 0 [101,43]):=Hz (by have:=rd_new (w:=w1.alloc (.cells #[.int .u8 (48+(x0:Int))] 5 (0,0))) (W:=(w1.alloc (.cells #[.int .u8 (48+(x0:Int))] 5 (0,0))).alloc (.cells #[.int .u8 101,.int .u8 43] 5 (0,0))) (s:=[101,43]) rfl rfl;simpa using this)
  have cP:=KC.out _ F0.out;obtain ⟨aoZ,cZ,cP0⟩:=KZ.out _ F0.out;go_wp2_with (at_builtin;refine wpList_apRow rfl _ _ rfl (B:=w1.heap.size) _ (Q) [101,43] (w1.heap.size+1) 0 2 rfl rfl (hR2.out) (row0.out.push rfl) (by have:=F0.out.size;simp at this ⊢;omega) hlQ.out ?_)
  intro vA wA hrA hgA;have hFA:Fr [] w1 wA:=Fr.grown (F0.out.alloc _) hgA (fun k hk=> .inr (World.ownsRow.lt row0.out k hk).1)
  obtain ⟨aoA,mA,cA,rfl⟩:=hrA.shape;have hml:=row_len hrA;rw [show (Q)++[101,43]=((Q)++[101])++[43] by simp] at hrA
  obtain ⟨K,hK⟩: ∃K:Nat,K=((Q)++[101]).length:=⟨_,rfl⟩;have hKm:mA=K+1:=by rw [hml,hK];simp
  have hKl:K≤100010:=by rw [hK];simp;omega
  clear hml;subst hKm;replace hFA:=Hz hFA;rcases hsg with ⟨n1,n2,n3⟩|⟨n1,n3⟩
  ·obtain ⟨gA,rfl,hgB,-,hcs,hfz,hput⟩:=row_put hrA 45;rw [←hK] at hcs hfz hput;rw [show (((45:UInt8).toNat:Nat):Int)=45 from rfl] at hput
   have m1:(((K+1:Nat):Int)-1)=(K:Int):=by omega
   have m2:IntKind.i64.wrap (K:Int)=(K:Int):=IntWalk.i64_in _ (by omega)
   have m3:(K:Int)<((K+1:Nat):Int):=by omega
   have m4:IntKind.i64.wrap (-(-(E:Int)))=(E:Int):=by rw [Int.neg_neg];exact IntWalk.i64_in _ (by omega)
   have m5:IntKind.i64.wrap (E:Int)=(E:Int):=IntWalk.i64_in _ (by omega)
   have m6: -(E:Int)<0:=by omega
   obtain ⟨uA,hcs⟩:=Option.isSome_iff_exists.1 hcs;have hFB:Fr [] w1 (wA.setCell ⟨gA,K,none⟩ (.int .u8 45)):=hFA.out.setCell (.inr hgB) _;have e45:Hid ((if dp-1<(0:Int) then (45:UInt8) else 43)=45):=Hz (if_pos n1)
   rw [n3] at s0;replace n1:=Hz n1;replace hrA:=Hz hrA;replace hput:=Hz hput;replace hFB:=Hz hFB;replace hK:=Hz hK;obtain ⟨n4,hn4⟩: ∃z,z=dp-1:=⟨_,rfl⟩;by_cases h10:E<10
   ·have t10:(E:Int)<10:=by omega
    have hlen:Hid (((Q++[101])++[45]).length+[(48:UInt8)].length≤140737488355328):=Hz (by have:=hQl;simp;omega)
    have hR3:Hid (Rd ((wA.setCell ⟨gA,K,none⟩ (.int .u8 45)).alloc (.cells #[.int .u8 48] 5 (0,0))) wA.heap.size 0 [48]):=Hz (by have:=rd_new (w:=wA.setCell ⟨gA,K,none⟩ (.int .u8 45)) (W:=(wA.setCell ⟨gA,K,none⟩ (.int .u8 45)).alloc (.cells #[.int .u8 48] 5 (0,0))) (s:=[48]) rfl rfl;simpa using this)
    go_wp2_with (at_builtin;refine wpList_apRow rfl _ _ rfl (B:=w1.heap.size) _ ((Q++[101])++[45]) [48] wA.heap.size 0 1 rfl rfl hR3.out (hput.out.push rfl) (by have:=hFB.out.size;simp at this ⊢;omega) hlen.out ?_)
    intro vC wC hrC hgC;have hFC:Fr [] w1 wC:=Fr.grown (hFB.out.alloc _) hgC (fun k hk=> .inr (World.ownsRow.lt hput.out k hk).1)
    obtain ⟨aoC,mC,cC,rfl⟩:=hrC.shape;have hrD:Row wC w1.heap.size (.slice aoC mC cC) (Q++[101,45,48]):=by simpa using hrC
    clear hrC;have ht:=row_str hrD;have hk: ∀W,Fr [] wC W→(convert 59 9 (.slice aoC mC cC)).run Tryz.prog W= .ok (.string ⟨(Q++[101,45,48]).toArray⟩) W:=fun W F=>row_str (hrD.fr F (by simp))
    replace hk:=Hz hk;have hq1: ¬9223372036854775807<(Q++[101,45,48]).length+(dec E).length:=by simp;omega
    have hq2: ¬9223372036854775807<Q.length+(0+1+1+1)+(dec E).length:=by omega
    have hq3: ¬9223372036854775807<Q.length+3+(dec E).length:=by omega
    have hq4:Q.length+3+(dec E).length≤9223372036854775807:=by omega
    have hq5: ¬(9223372036854775807:Int)<(Q.length:Int)+3+((dec E).length:Int):=by omega
    have hq6:(Q.length:Int)+3+((dec E).length:Int)≤9223372036854775807:=by omega
    go_wp2
    go_region_held3 (fun w'=>(convert 59 9 (.slice aoC mC cC)).run Tryz.prog w'= .ok (.string ⟨(Q++[101,45,48]).toArray⟩) w') (first|exact hk.out _ ((Fr.refl [] _).drew)|exact hk.out _ (((Fr.refl [] _).drew).trans hfI)|exact hk.out _ ((((Fr.refl [] _).drew).trans hfI).drew)|exact ht)
     (first|(go_at_call 116;refine (KI.out _).mono ?_;rintro e wI ⟨rfl,hfI⟩))
    go_wp2;go_ret
    refine ⟨?_,by first|exact (hFC.trans hfI).drewN _|exact hFC.trans hfI|exact (hFC.drewN _).trans hfI|exact (hFC.drew).trans hfI|exact ((hFC.drew).trans hfI).drew⟩
    rw [hE0.out,e45.out,if_pos h10];rw [if_pos hp0.out,hQ.out];simp [mk_append]
   ·have t10: ¬(E:Int)<10:=by omega
    have ht:=row_str hput.out;have hk: ∀W,Fr [] (wA.setCell ⟨gA,K,none⟩ (.int .u8 45)) W→(convert 59 9 (.slice (some ⟨gA,0,none⟩) (K+1) cA)).run Tryz.prog W= .ok (.string ⟨((Q++[101])++[45]).toArray⟩) W:=fun W F=>row_str (hput.out.fr F (by simp))
    replace hk:=Hz hk;have hq1: ¬9223372036854775807<((Q++[101])++[45]).length+(dec E).length:=by simp;omega
    have hq2: ¬9223372036854775807<Q.length+1+1+(dec E).length:=by omega
    have hq3: ¬9223372036854775807<Q.length+2+(dec E).length:=by omega
    have hq4:Q.length+2+(dec E).length≤9223372036854775807:=by omega
    have hq5: ¬(9223372036854775807:Int)<(Q.length:Int)+2+((dec E).length:Int):=by omega
    have hq6:(Q.length:Int)+2+((dec E).length:Int)≤9223372036854775807:=by omega
    have hq7:(Q.length:Int)+1+1+((dec E).length:Int)≤9223372036854775807:=by omega
    have hq8: ¬(9223372036854775807:Int)<(Q.length:Int)+1+1+((dec E).length:Int):=by omega
    go_wp2
    go_region_held3 (fun w'=>(convert 59 9 (.slice (some ⟨gA,0,none⟩) (K+1) cA)).run Tryz.prog w'= .ok (.string ⟨((Q++[101])++[45]).toArray⟩) w') (first|exact hk.out _ ((Fr.refl [] _).drew)|exact hk.out _ (((Fr.refl [] _).drew).trans hfI)|exact hk.out _ ((((Fr.refl [] _).drew).trans hfI).drew)|exact ht)
     (first|(go_at_call 116;refine (KI.out _).mono ?_;rintro e wI ⟨rfl,hfI⟩))
    go_wp2;go_ret
    refine ⟨?_,by first|exact (hFB.out.trans hfI).drewN _|exact hFB.out.trans hfI|exact (hFB.out.drewN _).trans hfI|exact (hFB.out.drew).trans hfI|exact ((hFB.out.drew).trans hfI).drew⟩
    rw [hE0.out,e45.out,if_neg h10];rw [if_pos hp0.out,hQ.out];simp [mk_append]
  ·have m6: ¬(E:Int)<0:=by omega
   have e45:Hid ((if dp-1<(0:Int) then (45:UInt8) else 43)=43):=Hz (if_neg (by omega))
   rw [n3] at s0;replace n1:=Hz n1;replace hrA:=Hz hrA;replace hK:=Hz hK;by_cases h10:E<10
   ·have t10:(E:Int)<10:=by omega
    have hlen:Hid (((Q++[101])++[43]).length+[(48:UInt8)].length≤140737488355328):=Hz (by have:=hQl;simp;omega)
    have hR3:Hid (Rd ((wA).alloc (.cells #[.int .u8 48] 5 (0,0))) wA.heap.size 0 [48]):=Hz (by have:=rd_new (w:=wA) (W:=(wA).alloc (.cells #[.int .u8 48] 5 (0,0))) (s:=[48]) rfl rfl;simpa using this)
    go_wp2_with (at_builtin;refine wpList_apRow rfl _ _ rfl (B:=w1.heap.size) _ ((Q++[101])++[43]) [48] wA.heap.size 0 1 rfl rfl hR3.out (hrA.out.push rfl) (by have:=hFA.out.size;simp at this ⊢;omega) hlen.out ?_)
    intro vC wC hrC hgC;have hFC:Fr [] w1 wC:=Fr.grown (hFA.out.alloc _) hgC (fun k hk=> .inr (World.ownsRow.lt hrA.out k hk).1)
    obtain ⟨aoC,mC,cC,rfl⟩:=hrC.shape;have hrD:Row wC w1.heap.size (.slice aoC mC cC) (Q++[101,43,48]):=by simpa using hrC
    clear hrC;have ht:=row_str hrD;have hk: ∀W,Fr [] wC W→(convert 59 9 (.slice aoC mC cC)).run Tryz.prog W= .ok (.string ⟨(Q++[101,43,48]).toArray⟩) W:=fun W F=>row_str (hrD.fr F (by simp))
    replace hk:=Hz hk;have hq1: ¬9223372036854775807<(Q++[101,43,48]).length+(dec E).length:=by simp;omega
    have hq2: ¬9223372036854775807<Q.length+(0+1+1+1)+(dec E).length:=by omega
    have hq3: ¬9223372036854775807<Q.length+3+(dec E).length:=by omega
    have hq4:Q.length+3+(dec E).length≤9223372036854775807:=by omega
    have hq5: ¬(9223372036854775807:Int)<(Q.length:Int)+3+((dec E).length:Int):=by omega
    have hq6:(Q.length:Int)+3+((dec E).length:Int)≤9223372036854775807:=by omega
    go_wp2
    go_region_held3 (fun w'=>(convert 59 9 (.slice aoC mC cC)).run Tryz.prog w'= .ok (.string ⟨(Q++[101,43,48]).toArray⟩) w') (first|exact hk.out _ ((Fr.refl [] _).drew)|exact hk.out _ (((Fr.refl [] _).drew).trans hfI)|exact hk.out _ ((((Fr.refl [] _).drew).trans hfI).drew)|exact ht)
     (first|(go_at_call 116;refine (KI.out _).mono ?_;rintro e wI ⟨rfl,hfI⟩))
    go_wp2;go_ret
    refine ⟨?_,by first|exact (hFC.trans hfI).drewN _|exact hFC.trans hfI|exact (hFC.drewN _).trans hfI|exact (hFC.drew).trans hfI|exact ((hFC.drew).trans hfI).drew⟩
    rw [hE0.out,e45.out,if_pos h10];rw [if_pos hp0.out,hQ.out];simp [mk_append]
   ·have t10: ¬(E:Int)<10:=by omega
    have ht:=row_str hrA.out;have hk: ∀W,Fr [] (wA) W→(convert 59 9 (.slice aoA (K+1) cA)).run Tryz.prog W= .ok (.string ⟨((Q++[101])++[43]).toArray⟩) W:=fun W F=>row_str (hrA.out.fr F (by simp))
    replace hk:=Hz hk;have hq1: ¬9223372036854775807<((Q++[101])++[43]).length+(dec E).length:=by simp;omega
    have hq2: ¬9223372036854775807<Q.length+1+1+(dec E).length:=by omega
    have hq3: ¬9223372036854775807<Q.length+2+(dec E).length:=by omega
    have hq4:Q.length+2+(dec E).length≤9223372036854775807:=by omega
    have hq5: ¬(9223372036854775807:Int)<(Q.length:Int)+2+((dec E).length:Int):=by omega
    have hq6:(Q.length:Int)+2+((dec E).length:Int)≤9223372036854775807:=by omega
    have hq7:(Q.length:Int)+1+1+((dec E).length:Int)≤9223372036854775807:=by omega
    have hq8: ¬(9223372036854775807:Int)<(Q.length:Int)+1+1+((dec E).length:Int):=by omega
    go_wp2
    go_region_held3 (fun w'=>(convert 59 9 (.slice aoA (K+1) cA)).run Tryz.prog w'= .ok (.string ⟨((Q++[101])++[43]).toArray⟩) w') (first|exact hk.out _ ((Fr.refl [] _).drew)|exact hk.out _ (((Fr.refl [] _).drew).trans hfI)|exact hk.out _ ((((Fr.refl [] _).drew).trans hfI).drew)|exact ht)
     (first|(go_at_call 116;refine (KI.out _).mono ?_;rintro e wI ⟨rfl,hfI⟩))
    go_wp2;go_ret
    refine ⟨?_,by first|exact (hFA.out.trans hfI).drewN _|exact hFA.out.trans hfI|exact (hFA.out.drewN _).trans hfI|exact (hFA.out.drew).trans hfI|exact ((hFA.out.drew).trans hfI).drew⟩
    rw [hE0.out,e45.out,if_neg h10];rw [if_pos hp0.out,hQ.out];simp [mk_append]
 ·have t2:(0:Int)<(prec:Int):=by omega
  replace hp0:=Hz hp0;have hlen:Hid (([ch x0]:List UInt8).length+[(46:UInt8)].length≤140737488355328):=Hz (by simp)
  have hR2:Hid (Rd ((w1.alloc (.cells #[.int .u8 (48+(x0:Int))] 5 (0,0))).alloc (.cells #[.int .u8 46] 5 (0,0))) (w1.heap.size+1) 0 [46]):=Hz (by have:=rd_new (w:=w1.alloc (.cells #[.int .u8 (48+(x0:Int))] 5 (0,0))) (W:=(w1.alloc (.cells #[.int .u8 (48+(x0:Int))] 5 (0,0))).alloc (.cells #[.int .u8 46] 5 (0,0))) (s:=[46]) rfl rfl;simpa using this)
  go_wp2_with (at_builtin;refine wpList_apRow rfl _ _ rfl (B:=w1.heap.size) _ [ch x0] [46] (w1.heap.size+1) 0 1 rfl rfl hR2.out (row0.out.push rfl) (by simp;omega) hlen.out ?_)
  intro vB wB hrB hgB;have hFB0:Fr [] w1 wB:=Fr.grown (F0.out.alloc _) hgB (fun k hk=> .inr (World.ownsRow.lt row0.out k hk).1)
  obtain ⟨aoB,mB,cB,rfl⟩:=hrB.shape;replace hrB:=Hz hrB;replace hFB0:=Hz hFB0;go_wp2
  go_loopg [7,8] prec (fun gk v7 v8 wr=> ∃j:Nat,v8= .int .i64 ((j+1:Nat):Int)∧j+gk=prec∧Hid (Row wr w1.heap.size v7 (([ch x0]++[46])++(List.range j).map fun i=>ch (dgt d (i+1))))∧Hid (Fr [] w1 wr))
  case atStart=>exact ⟨0,by go_num,by omega,Hz (by rw [List.range_zero,List.map_nil,List.append_nil];exact hrB.out),hFB0⟩
  case round=>
   obtain ⟨j,rfl,hjg,hrow2,hF2⟩:=hrel;obtain ⟨ao2,m2,c2,rfl⟩:=hrow2.out.shape;by_cases hj:((j+1:Nat):Int)≤(prec:Int)
   ·obtain ⟨g2,rfl⟩: ∃g2,gk=g2+1:=⟨gk-1,by omega⟩
    have hx:=hlt.out ((j+1:Nat):Int);rw [dgi_nat] at hx;go_wp2_with fail
    refine (KD.out _ hF2.out ((j+1:Nat):Int)).mono ?_
    rintro e w2 ⟨rfl,rfl⟩;rw [dgi_nat];have hsn:=range_snoc (fun i=>ch (dgt d (i+1))) j
    generalize hxx:dgt d (j+1)=x at *
    replace hxx:=Hz hxx;replace hsn:=Hz hsn;have s1:IntKind.u8.wrap (48+(x:Int))=48+(x:Int):=IntWalk.u8_in _ (by omega)
    have hcx:=Hz (ch_nat hx);have hj':j≤100000:=by omega
    have s2:IntKind.i64.wrap (((j+1:Nat):Int)+1)=((j+1+1:Nat):Int):=by rw [IntWalk.i64_in _ (by omega)];omega
    have hl2:Hid ((([ch x0]++[46])++(List.range j).map fun i=>ch (dgt d (i+1))).length+[ch x].length≤140737488355328):=Hz (by simp;omega)
    go_wp2_with (at_builtin;refine wpList_apRow rfl _ _ rfl (B:=w1.heap.size) _ (([ch x0]++[46])++(List.range j).map fun i=>ch (dgt d (i+1))) [ch x] w2.heap.size 0 1 rfl rfl (rd_new (w:=w2) rfl (by simp only [enc,List.map_cons,List.map_nil];rw [hcx.out])) (hrow2.out.push rfl) (by have:=hF2.out.size;simp;omega) hl2.out ?_)
    intro v3 w3 hr3 hg3;have hF3:Fr [] w1 w3:=Fr.grown (hF2.out.alloc _) hg3 (fun k hk=> .inr (World.ownsRow.lt hrow2.out k hk).1)
    first|rw [List.append_assoc,←hsn.out] at hr3|rw [←hsn.out] at hr3
    go_wp2
    go_roundg g2
    case measure=>omega
    case rel=>exact ⟨j+1,by go_num,by omega,Hz hr3,Hz hF3⟩
   ·have hjp:j=prec:=by omega
    subst hjp;obtain ⟨Q,hQ⟩: ∃Q:List UInt8,Q=(([ch x0]++[46])++(List.range j).map fun i=>ch (dgt d (i+1))):=⟨_,rfl⟩
    rw [←hQ] at hrow2;have hQl:Q.length≤100005:=by rw [hQ];simp;omega
    replace hQ:=Hz hQ;have hlQ:Hid (Q.length+([101,43]:List UInt8).length≤140737488355328):=Hz (by simp;omega)
    have cP:=KC.out _ hF2.out;obtain ⟨aoZ,cZ,cP0⟩:=KZ.out _ hF2.out;go_wp2_with (at_builtin;refine wpList_apRow rfl _ _ rfl (B:=w1.heap.size) _ (Q) [101,43] (wr.heap.size) 0 2 rfl rfl (rd_new (w:=wr) rfl rfl) (hrow2.out.push rfl) (by have:=hF2.out.size;simp at this ⊢;omega) hlQ.out ?_)
    intro vA wA hrA hgA;have hFA:Fr [] w1 wA:=Fr.grown (hF2.out.alloc _) hgA (fun k hk=> .inr (World.ownsRow.lt hrow2.out k hk).1)
    obtain ⟨aoA,mA,cA,rfl⟩:=hrA.shape;have hml:=row_len hrA;rw [show (Q)++[101,43]=((Q)++[101])++[43] by simp] at hrA
    obtain ⟨K,hK⟩: ∃K:Nat,K=((Q)++[101]).length:=⟨_,rfl⟩;have hKm:mA=K+1:=by rw [hml,hK];simp
    have hKl:K≤100010:=by rw [hK];simp;omega
    clear hml;subst hKm;replace hFA:=Hz hFA;rcases hsg with ⟨n1,n2,n3⟩|⟨n1,n3⟩
    ·obtain ⟨gA,rfl,hgB,-,hcs,hfz,hput⟩:=row_put hrA 45;rw [←hK] at hcs hfz hput;rw [show (((45:UInt8).toNat:Nat):Int)=45 from rfl] at hput
     have m1:(((K+1:Nat):Int)-1)=(K:Int):=by omega
     have m2:IntKind.i64.wrap (K:Int)=(K:Int):=IntWalk.i64_in _ (by omega)
     have m3:(K:Int)<((K+1:Nat):Int):=by omega
     have m4:IntKind.i64.wrap (-(-(E:Int)))=(E:Int):=by rw [Int.neg_neg];exact IntWalk.i64_in _ (by omega)
     have m5:IntKind.i64.wrap (E:Int)=(E:Int):=IntWalk.i64_in _ (by omega)
     have m6: -(E:Int)<0:=by omega
     obtain ⟨uA,hcs⟩:=Option.isSome_iff_exists.1 hcs;have hFB:Fr [] w1 (wA.setCell ⟨gA,K,none⟩ (.int .u8 45)):=hFA.out.setCell (.inr hgB) _;have e45:Hid ((if dp-1<(0:Int) then (45:UInt8) else 43)=45):=Hz (if_pos n1)
     rw [n3] at s0;replace n1:=Hz n1;replace hrA:=Hz hrA;replace hput:=Hz hput;replace hFB:=Hz hFB;replace hK:=Hz hK;obtain ⟨n4,hn4⟩: ∃z,z=dp-1:=⟨_,rfl⟩;by_cases h10:E<10
     ·have t10:(E:Int)<10:=by omega
      have hlen:Hid (((Q++[101])++[45]).length+[(48:UInt8)].length≤140737488355328):=Hz (by have:=hQl;simp;omega)
      have hR3:Hid (Rd ((wA.setCell ⟨gA,K,none⟩ (.int .u8 45)).alloc (.cells #[.int .u8 48] 5 (0,0))) wA.heap.size 0 [48]):=Hz (by have:=rd_new (w:=wA.setCell ⟨gA,K,none⟩ (.int .u8 45)) (W:=(wA.setCell ⟨gA,K,none⟩ (.int .u8 45)).alloc (.cells #[.int .u8 48] 5 (0,0))) (s:=[48]) rfl rfl;simpa using this)
      go_wp2_with (at_builtin;refine wpList_apRow rfl _ _ rfl (B:=w1.heap.size) _ ((Q++[101])++[45]) [48] wA.heap.size 0 1 rfl rfl hR3.out (hput.out.push rfl) (by have:=hFB.out.size;simp at this ⊢;omega) hlen.out ?_)
      intro vC wC hrC hgC;have hFC:Fr [] w1 wC:=Fr.grown (hFB.out.alloc _) hgC (fun k hk=> .inr (World.ownsRow.lt hput.out k hk).1)
      obtain ⟨aoC,mC,cC,rfl⟩:=hrC.shape;have hrD:Row wC w1.heap.size (.slice aoC mC cC) (Q++[101,45,48]):=by simpa using hrC
      clear hrC;have ht:=row_str hrD;have hk: ∀W,Fr [] wC W→(convert 59 9 (.slice aoC mC cC)).run Tryz.prog W= .ok (.string ⟨(Q++[101,45,48]).toArray⟩) W:=fun W F=>row_str (hrD.fr F (by simp))
      replace hk:=Hz hk;have hq1: ¬9223372036854775807<(Q++[101,45,48]).length+(dec E).length:=by simp;omega
      have hq2: ¬9223372036854775807<Q.length+(0+1+1+1)+(dec E).length:=by omega
      have hq3: ¬9223372036854775807<Q.length+3+(dec E).length:=by omega
      have hq4:Q.length+3+(dec E).length≤9223372036854775807:=by omega
      have hq5: ¬(9223372036854775807:Int)<(Q.length:Int)+3+((dec E).length:Int):=by omega
      have hq6:(Q.length:Int)+3+((dec E).length:Int)≤9223372036854775807:=by omega
      go_wp2
      go_region_held3 (fun w'=>(convert 59 9 (.slice aoC mC cC)).run Tryz.prog w'= .ok (.string ⟨(Q++[101,45,48]).toArray⟩) w') (first|exact hk.out _ ((Fr.refl [] _).drew)|exact hk.out _ (((Fr.refl [] _).drew).trans hfI)|exact hk.out _ ((((Fr.refl [] _).drew).trans hfI).drew)|exact ht)
       (first|(go_at_call 116;refine (KI.out _).mono ?_;rintro e wI ⟨rfl,hfI⟩))
      go_wp2;go_ret
      refine ⟨?_,by first|exact (hFC.trans hfI).drewN _|exact hFC.trans hfI|exact (hFC.drewN _).trans hfI|exact (hFC.drew).trans hfI|exact ((hFC.drew).trans hfI).drew⟩
      rw [hE0.out,e45.out,if_pos h10];rw [if_neg hp0.out,hQ.out];simp [mk_append]
     ·have t10: ¬(E:Int)<10:=by omega
      have ht:=row_str hput.out;have hk: ∀W,Fr [] (wA.setCell ⟨gA,K,none⟩ (.int .u8 45)) W→(convert 59 9 (.slice (some ⟨gA,0,none⟩) (K+1) cA)).run Tryz.prog W= .ok (.string ⟨((Q++[101])++[45]).toArray⟩) W:=fun W F=>row_str (hput.out.fr F (by simp))
      replace hk:=Hz hk;have hq1: ¬9223372036854775807<((Q++[101])++[45]).length+(dec E).length:=by simp;omega
      have hq2: ¬9223372036854775807<Q.length+1+1+(dec E).length:=by omega
      have hq3: ¬9223372036854775807<Q.length+2+(dec E).length:=by omega
      have hq4:Q.length+2+(dec E).length≤9223372036854775807:=by omega
      have hq5: ¬(9223372036854775807:Int)<(Q.length:Int)+2+((dec E).length:Int):=by omega
      have hq6:(Q.length:Int)+2+((dec E).length:Int)≤9223372036854775807:=by omega
      have hq7:(Q.length:Int)+1+1+((dec E).length:Int)≤9223372036854775807:=by omega
      have hq8: ¬(9223372036854775807:Int)<(Q.length:Int)+1+1+((dec E).length:Int):=by omega
      go_wp2
      go_region_held3 (fun w'=>(convert 59 9 (.slice (some ⟨gA,0,none⟩) (K+1) cA)).run Tryz.prog w'= .ok (.string ⟨((Q++[101])++[45]).toArray⟩) w') (first|exact hk.out _ ((Fr.refl [] _).drew)|exact hk.out _ (((Fr.refl [] _).drew).trans hfI)|exact hk.out _ ((((Fr.refl [] _).drew).trans hfI).drew)|exact ht)
       (first|(go_at_call 116;refine (KI.out _).mono ?_;rintro e wI ⟨rfl,hfI⟩))
      go_wp2;go_ret
      refine ⟨?_,by first|exact (hFB.out.trans hfI).drewN _|exact hFB.out.trans hfI|exact (hFB.out.drewN _).trans hfI|exact (hFB.out.drew).trans hfI|exact ((hFB.out.drew).trans hfI).drew⟩
      rw [hE0.out,e45.out,if_neg h10];rw [if_neg hp0.out,hQ.out];simp [mk_append]
    ·have m6: ¬(E:Int)<0:=by omega
     have e45:Hid ((if dp-1<(0:Int) then (45:UInt8) else 43)=43):=Hz (if_neg (by omega))
     rw [n3] at s0;replace n1:=Hz n1;replace hrA:=Hz hrA;replace hK:=Hz hK;by_cases h10:E<10
     ·have t10:(E:Int)<10:=by omega
      have hlen:Hid (((Q++[101])++[43]).length+[(48:UInt8)].length≤140737488355328):=Hz (by have:=hQl;simp;omega)
      have hR3:Hid (Rd ((wA).alloc (.cells #[.int .u8 48] 5 (0,0))) wA.heap.size 0 [48]):=Hz (by have:=rd_new (w:=wA) (W:=(wA).alloc (.cells #[.int .u8 48] 5 (0,0))) (s:=[48]) rfl rfl;simpa using this)
      go_wp2_with (at_builtin;refine wpList_apRow rfl _ _ rfl (B:=w1.heap.size) _ ((Q++[101])++[43]) [48] wA.heap.size 0 1 rfl rfl hR3.out (hrA.out.push rfl) (by have:=hFA.out.size;simp at this ⊢;omega) hlen.out ?_)
      intro vC wC hrC hgC;have hFC:Fr [] w1 wC:=Fr.grown (hFA.out.alloc _) hgC (fun k hk=> .inr (World.ownsRow.lt hrA.out k hk).1)
      obtain ⟨aoC,mC,cC,rfl⟩:=hrC.shape;have hrD:Row wC w1.heap.size (.slice aoC mC cC) (Q++[101,43,48]):=by simpa using hrC
      clear hrC;have ht:=row_str hrD;have hk: ∀W,Fr [] wC W→(convert 59 9 (.slice aoC mC cC)).run Tryz.prog W= .ok (.string ⟨(Q++[101,43,48]).toArray⟩) W:=fun W F=>row_str (hrD.fr F (by simp))
      replace hk:=Hz hk;have hq1: ¬9223372036854775807<(Q++[101,43,48]).length+(dec E).length:=by simp;omega
      have hq2: ¬9223372036854775807<Q.length+(0+1+1+1)+(dec E).length:=by omega
      have hq3: ¬9223372036854775807<Q.length+3+(dec E).length:=by omega
      have hq4:Q.length+3+(dec E).length≤9223372036854775807:=by omega
      have hq5: ¬(9223372036854775807:Int)<(Q.length:Int)+3+((dec E).length:Int):=by omega
      have hq6:(Q.length:Int)+3+((dec E).length:Int)≤9223372036854775807:=by omega
      go_wp2
      go_region_held3 (fun w'=>(convert 59 9 (.slice aoC mC cC)).run Tryz.prog w'= .ok (.string ⟨(Q++[101,43,48]).toArray⟩) w') (first|exact hk.out _ ((Fr.refl [] _).drew)|exact hk.out _ (((Fr.refl [] _).drew).trans hfI)|exact hk.out _ ((((Fr.refl [] _).drew).trans hfI).drew)|exact ht)
       (first|(go_at_call 116;refine (KI.out _).mono ?_;rintro e wI ⟨rfl,hfI⟩))
      go_wp2;go_ret
      refine ⟨?_,by first|exact (hFC.trans hfI).drewN _|exact hFC.trans hfI|exact (hFC.drewN _).trans hfI|exact (hFC.drew).trans hfI|exact ((hFC.drew).trans hfI).drew⟩
      rw [hE0.out,e45.out,if_pos h10];rw [if_neg hp0.out,hQ.out];simp [mk_append]
     ·have t10: ¬(E:Int)<10:=by omega
      have ht:=row_str hrA.out;have hk: ∀W,Fr [] (wA) W→(convert 59 9 (.slice aoA (K+1) cA)).run Tryz.prog W= .ok (.string ⟨((Q++[101])++[43]).toArray⟩) W:=fun W F=>row_str (hrA.out.fr F (by simp))
      replace hk:=Hz hk;have hq1: ¬9223372036854775807<((Q++[101])++[43]).length+(dec E).length:=by simp;omega
      have hq2: ¬9223372036854775807<Q.length+1+1+(dec E).length:=by omega
      have hq3: ¬9223372036854775807<Q.length+2+(dec E).length:=by omega
      have hq4:Q.length+2+(dec E).length≤9223372036854775807:=by omega
      have hq5: ¬(9223372036854775807:Int)<(Q.length:Int)+2+((dec E).length:Int):=by omega
      have hq6:(Q.length:Int)+2+((dec E).length:Int)≤9223372036854775807:=by omega
      have hq7:(Q.length:Int)+1+1+((dec E).length:Int)≤9223372036854775807:=by omega
      have hq8: ¬(9223372036854775807:Int)<(Q.length:Int)+1+1+((dec E).length:Int):=by omega
      go_wp2
      go_region_held3 (fun w'=>(convert 59 9 (.slice aoA (K+1) cA)).run Tryz.prog w'= .ok (.string ⟨((Q++[101])++[43]).toArray⟩) w') (first|exact hk.out _ ((Fr.refl [] _).drew)|exact hk.out _ (((Fr.refl [] _).drew).trans hfI)|exact hk.out _ ((((Fr.refl [] _).drew).trans hfI).drew)|exact ht)
       (first|(go_at_call 116;refine (KI.out _).mono ?_;rintro e wI ⟨rfl,hfI⟩))
      go_wp2;go_ret
      refine ⟨?_,by first|exact (hFA.out.trans hfI).drewN _|exact hFA.out.trans hfI|exact (hFA.out.drewN _).trans hfI|exact (hFA.out.drew).trans hfI|exact ((hFA.out.drew).trans hfI).drew⟩
      rw [hE0.out,e45.out,if_neg h10];rw [if_neg hp0.out,hQ.out];simp [mk_append]
end
end Go.Proofs.YteodinhkhhaafaaGreatDoor
