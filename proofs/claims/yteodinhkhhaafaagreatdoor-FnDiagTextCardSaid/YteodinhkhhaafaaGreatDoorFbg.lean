/- Walks of the program, and plain facts. -/
import Derived.Test.YteodinhkhhaafaaGreatDoorFbb
import Derived.Test.YteodinhkhhaafaaGreatDoorFbc
set_option linter.unusedVariables false
set_option linter.unusedSimpArgs false
set_option maxRecDepth 100000
set_option maxHeartbeats 6400000
namespace Go.Proofs.YteodinhkhhaafaaGreatDoor
section
section
open Go.RowKit
def IRow (w:World) (B:Nat) (v:Value) (ds:List Nat):Prop:=w.ownsRow B 3 1 v ds.length (ds.map fun (d:Nat)=>Value.int .i64 (d:Int))
theorem IRow.fr {w w':World} {B:Nat} {v:Value} {ds:List Nat} {S:List Nat} (h:IRow w B v ds) (hf:Fr S w w') (hs: ∀k,k∈S→k<B):IRow w' B v ds:=
 hf.own h (fun k hk hm=>by have:=(World.ownsRow.lt h k hk).1;have:=hs k hm;omega)
theorem IRow.push {w W:World} {B:Nat} {v:Value} {ds:List Nat} {o:Obj} (h:IRow w B v ds) (e:W.heap=w.heap.push o):IRow W B v ds:=by
 obtain ⟨h1,h2⟩:=h;refine ⟨h1,?_⟩
 rcases h2 with h2|⟨g,cap,cur,rfl,hg,hh,r⟩
 ·exact .inl h2
 ·exact .inr ⟨g,cap,cur,rfl,hg,by rw [e];exact (Below.heap_alloc w o g (blk_lt' hh)).trans hh,r⟩
theorem IRow.put {w:World} {B:Nat} {v:Value} {ds:List Nat} (h:IRow w B v ds) (i:Nat) (hi:i<ds.length):
  ∃g c,v= .slice (some ⟨g,0,none⟩) ds.length c∧B≤g∧w.cell? ⟨g,i,none⟩=some (.int .i64 (ds[i]:Int))∧w.frozen? ⟨g,i,none⟩=false∧ ∀x:Nat,IRow (w.setCell ⟨g,i,none⟩ (.int .i64 (x:Int))) B v (ds.set i x):=by
 have h1:=h.1;rcases h.2 with ⟨hv,h0⟩|⟨g,cap,cur,hv,hg,hh,hc,hm,hs,ht⟩
 ·omega
 ·subst hv;rw [Nat.mul_one] at hs ht;refine ⟨g,cap,rfl,hg,?_,frozen_blk hh _,fun x=> ?_⟩
  ·have:=World.ownsRow.cells h (g:=g) rfl i (.int .i64 (ds[i]:Int)) (by simp [hi])
   have ha:(⟨g,0,none⟩:Addr).add i=⟨g,0+i,none⟩:=by unfold Addr.add;split<;>simp_all
   rw [ha,Nat.zero_add] at this;exact this
  ·refine ⟨by simp,.inr ⟨g,cap,_,by simp,hg,blk_setCell hh i _,by simpa using hc,hm,by simpa using hs,?_⟩⟩
   rw [List.length_set,Nat.mul_one,Array.toList_setIfInBounds,List.take_set,ht,List.map_set]
end
section
open Go.RowKit
theorem NatV.re {w:World} {y z U:Nat} {u:Value} {cs:Array Value} (h:NatV w y u U) (hb:w.heap[z]? =some (.cells cs 221 (0,0))):NatV w z u U:=by
 rcases h with h|⟨g,n,c,h1,h2,h3,h4,h5,h6,ds,h7,h8⟩
 ·exact .inl h
 ·refine .inr ⟨g,n,c,h1,h2,h3,h4,h5,fun e=> ?_,ds,h7,h8⟩
  subst e;rw [h7] at hb;injection hb with hb
  injection hb with _ h9 _
  exact absurd h9 (by decide)
theorem be_dec_len (b:List UInt8) (k:Nat) (hk:k≤1) (hl:b.length≤300000):(dec (be b+k)).length≤1000000:=by
 have h:=be_lt256 b;have h2:256^b.length≤10^(3*b.length):=by
  rw [Nat.pow_mul];exact Nat.pow_le_pow_left (by decide) _
 have h3:be b+k<10^(3*b.length+1):=by
  rw [Nat.pow_succ];have:=Nat.pow_pos (n:=3*b.length) (show 0<10 by decide)
  generalize 10^(3*b.length)=p at *
  omega
 have:=dec_length (be b+k) (3*b.length+1) h3 (by omega)
 omega
end
end
end Go.Proofs.YteodinhkhhaafaaGreatDoor
