/- Walks of the program, and plain facts. -/
import Derived.Test.YteodinhkhhaafaaGreatDoorDaj
import Derived.WideMake
set_option linter.unusedVariables false
set_option linter.unusedSimpArgs false
set_option maxRecDepth 100000
set_option maxHeartbeats 6400000
namespace Go.Proofs.YteodinhkhhaafaaGreatDoor
section
section
open Go.RowKit
def beB:Nat→Nat→List UInt8
 |0,_=>[]
 |k+1,n=>UInt8.ofNat (n/256^k%256)::beB k n
def lgB (form n:Nat):Nat:=if form≤1∧n<256 then 0 else if form≤2∧n<65536 then 1 else if form≤3∧n<4294967296 then 2 else 3
def headB (m n form:Nat):List UInt8:=
 if form=0∧n<24 then [UInt8.ofNat (m*32+n)] else UInt8.ofNat (m*32+24+lgB form n)::beB (2^lgB form n) n
theorem or_top (m a:Nat) (hm:m<8) (ha:a<32):bits .or .u8 ((m*32:Nat):Int) (a:Int)=((m*32+a:Nat):Int):=by
 have key: ∀(x:Fin 8) (y:Fin 32),bits .or .u8 ((x.val*32:Nat):Int) (y.val:Int)=((x.val*32+y.val:Nat):Int):=by decide+kernel
 exact key ⟨m,hm⟩ ⟨a,ha⟩
theorem headIn_small (m n:Nat) (hm:m<8) (hn:n<24) (w:World):
  Calls Tryz.prog 55 #[.int .i64 (m:Int),.int .u64 (n:Int),.int .i64 0] w fun e w'=>e= .returned (.string ⟨(headB m n 0).toArray⟩)∧Fr [] w w':=by
 have g1:(n:Int)<24:=by omega
 have g2:bits .or .u8 ((m:Int)*32) (n:Int)=(m:Int)*32+(n:Int):=by
  have:=or_top m n hm (by omega)
  simpa using this
 have g3:IntKind.u8.wrap (n:Int)=(n:Int):=by show (n:Int)%256=_;omega
 have g4:IntKind.u8.wrap (IntKind.i64.wrap ((m:Int)*32))=(m:Int)*32:=by
  have:IntKind.i64.wrap ((m:Int)*32)=(m:Int)*32:=by
   have h8:m<8:=hm
   have:m=0∨m=1∨m=2∨m=3∨m=4∨m=5∨m=6∨m=7:=by omega
   rcases this with rfl|rfl|rfl|rfl|rfl|rfl|rfl|rfl<;>rfl
  rw [this]
  show ((m:Int)*32)%256=_
  omega
 have hh:headB m n 0=[UInt8.ofNat (m*32+n)]:=if_pos ⟨rfl,hn⟩
 rw [hh]
 have hrd:Rd (w.alloc (.cells #[.int .u8 ((m:Int)*32+(n:Int))] 5)) w.heap.size 0 [UInt8.ofNat (m*32+n)]:=fun j hj=>by
  have hj0:j=0:=by simpa using hj
  subst hj0
  refine (cell_blk (blk_new w _) 0).trans ?_
  have:(m*32+n)%256=m*32+n:=by omega
  simp [this]
 have hcv:(convert 59 9 (.slice (some ⟨w.heap.size,0,none⟩) 1 1)).run Tryz.prog (w.alloc (.cells #[.int .u8 ((m:Int)*32+(n:Int))] 5))= .ok (.string ⟨#[UInt8.ofNat (m*32+n)]⟩) (w.alloc (.cells #[.int .u8 ((m:Int)*32+(n:Int))] 5)):=toStr hrd 1
 clear hrd
 generalize UInt8.ofNat (m*32+n)=bb at *
 go_enter Tryz.func55,Tryz.ntmps55
 go_wp2_with (first|fail)
 go_ret
 exact ⟨rfl,(Fr.refl [] w).alloc _⟩
end
section
open Go.RowKit
theorem push_set (a:Array Obj) (x y:Obj):(a.push x).setIfInBounds a.size y=a.push y:=by
 apply Array.ext'
 simp
theorem ins (w:World) (es:Array MapEntry) (c:Nat) (k:Int) (v:Value) (hn:Instr.findNow (.int .i64) (.int .i64 k) es.toList 0=some none):
  (Instr.mapUpdate 130 (.map (some w.heap.size)) (.int .i64 k) v).run Tryz.prog (w.alloc (.map es c))= .ok () (w.alloc (.map (es.push {key:= .int .i64 k,val:=v,born:=c}) (c+1))):=by
 have hb:(w.alloc (.map es c)).heap[w.heap.size]? =some (.map es c):=blk_new w _
 have hc:(Instr.checkKey false 10000 3 (.int .i64 k)).run Tryz.prog (w.alloc (.map es c))= .ok () (w.alloc (.map es c)):=MapKept.run_checkKey Tryz.underlying3 (by simp [MapKept.IsKey]) false 9999
 simp [Instr.mapUpdate,run_underlying Tryz.underlying130,MapKept.run_getObj_map hb,hc,MapKept.run_findKey Tryz.underlying3 hn,MapKept.run_setObj_map _ hb,Result.andThen]
 show ({w with heap:=(w.heap.push (.map es c)).setIfInBounds w.heap.size _}:World)=_
 rw [push_set]
 rfl
def headMap:Array MapEntry:= #[{key:= .int .i64 1,val:= .int .u8 24,born:=0},{key:= .int .i64 2,val:= .int .u8 25,born:=1},{key:= .int .i64 4,val:= .int .u8 26,born:=2},{key:= .int .i64 8,val:= .int .u8 27,born:=3}]
theorem look (w:World) (k:Int) (i:Nat) (v:Value) (hn:Instr.findNow (.int .i64) (.int .i64 k) headMap.toList 0=some (some (i,v))):
  (Instr.lookup 130 (.map (some w.heap.size)) (.int .i64 k) false).run Tryz.prog (w.alloc (.map headMap 4))= .ok v (w.alloc (.map headMap 4)):=by
 have hb:(w.alloc (.map headMap 4)).heap[w.heap.size]? =some (.map headMap 4):=blk_new w _
 have hc: ∀b,(Instr.checkKey b 10000 3 (.int .i64 k)).run Tryz.prog (w.alloc (.map headMap 4))= .ok () (w.alloc (.map headMap 4)):=fun b=>MapKept.run_checkKey Tryz.underlying3 (by simp [MapKept.IsKey]) b 9999
 simp [Instr.lookup,run_underlying Tryz.underlying130,MapKept.run_getObj_map hb,hc,MapKept.run_findKey Tryz.underlying3 hn,Result.andThen]
end
end
end Go.Proofs.YteodinhkhhaafaaGreatDoor
