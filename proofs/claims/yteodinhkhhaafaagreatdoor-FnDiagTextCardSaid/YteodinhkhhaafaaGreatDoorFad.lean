/- Walks of the program, and plain facts. -/
import Derived.Test.YteodinhkhhaafaaGreatDoorFaa
set_option linter.unusedVariables false
set_option linter.unusedSimpArgs false
set_option maxRecDepth 100000
set_option maxHeartbeats 6400000
namespace Go.Proofs.YteodinhkhhaafaaGreatDoor
section
open Go.RowKit
theorem u8_wrap_div (n k:Nat):IntKind.u8.wrap ((n:Int)/((256^k:Nat):Int))=((UInt8.ofNat (n/256^k%256)).toNat:Int):=by
 show ((n:Int)/((256^k:Nat):Int))%256=_
 rw [←Int.natCast_ediv,show ((256:Int))=((256:Nat):Int) from rfl,←Int.natCast_emod]
 simp
theorem row_one (W:World) {B g:Nat} (hg:g=W.heap.size) (hB:B≤W.heap.size) (b:UInt8) (x:Int) (hx:x=(b.toNat:Int)):Row (W.alloc (.cells #[.int .u8 x] 5)) B (.slice (some ⟨g,0,none⟩) 1 1) [b]:=by
 subst hg hx;exact ⟨rfl,.inr ⟨_,1,_,rfl,hB,blk_new W _,Nat.le_refl _,by decide,rfl,rfl⟩⟩
theorem Row.atR {w:World} {B:Nat} {v:Value} {bs:List UInt8} (h:Row w B v bs) (hn:bs≠[]): ∃g cap,v= .slice (some ⟨g,0,none⟩) bs.length cap∧Rd w g 0 bs:=by
 rcases h.2 with ⟨_,h0⟩|⟨g,cap,cur,rfl,r⟩
 ·exact absurd (List.eq_nil_of_length_eq_zero h0) hn
 ·exact ⟨g,cap,rfl,Rd.of_own h⟩
theorem headIn_0 (m n form:Nat) (hm:m<8) (hn:n<18446744073709551616) (hf:form≤100) (hs: ¬(form=0∧n<24)) (h1:form≤1∧n<256) (w:World):
  Calls Tryz.prog 55 #[.int .i64 (m:Int),.int .u64 (n:Int),.int .i64 (form:Int)] w fun e w'=>e= .returned (.string ⟨(UInt8.ofNat (m*32+24)::beB 1 n).toArray⟩)∧Fr [] w w':=by
 have g4:IntKind.u8.wrap (IntKind.i64.wrap ((m:Int)*32))=(m:Int)*32:=by
  have:IntKind.i64.wrap ((m:Int)*32)=(m:Int)*32:=by
   have:m=0∨m=1∨m=2∨m=3∨m=4∨m=5∨m=6∨m=7:=by omega
   rcases this with rfl|rfl|rfl|rfl|rfl|rfl|rfl|rfl<;>rfl
  rw [this]
  show ((m:Int)*32)%256=_
  omega
 have g5:bits .or .u8 ((m:Int)*32) 24=(m:Int)*32+24:=by
  have:=or_top m 24 hm (by omega)
  simpa using this
 have i0:(Instr.mapUpdate 130 (.map (some w.heap.size)) (.int .i64 1) (.int .u8 24)).run Tryz.prog (w.alloc (.map #[] 0))= .ok () (w.alloc (.map #[{key:= .int .i64 1,val:= .int .u8 24,born:=0}] 1)):=ins w #[] 0 1 _ rfl;have i1:(Instr.mapUpdate 130 (.map (some w.heap.size)) (.int .i64 2) (.int .u8 25)).run Tryz.prog (w.alloc (.map #[{key:= .int .i64 1,val:= .int .u8 24,born:=0}] 1))= .ok () (w.alloc (.map #[{key:= .int .i64 1,val:= .int .u8 24,born:=0},{key:= .int .i64 2,val:= .int .u8 25,born:=1}] 2)):=ins w #[{key:= .int .i64 1,val:= .int .u8 24,born:=0}] 1 2 _ rfl;have i2:(Instr.mapUpdate 130 (.map (some w.heap.size)) (.int .i64 4) (.int .u8 26)).run Tryz.prog (w.alloc (.map #[{key:= .int .i64 1,val:= .int .u8 24,born:=0},{key:= .int .i64 2,val:= .int .u8 25,born:=1}] 2))= .ok () (w.alloc (.map #[{key:= .int .i64 1,val:= .int .u8 24,born:=0},{key:= .int .i64 2,val:= .int .u8 25,born:=1},{key:= .int .i64 4,val:= .int .u8 26,born:=2}] 3)):=ins w #[{key:= .int .i64 1,val:= .int .u8 24,born:=0},{key:= .int .i64 2,val:= .int .u8 25,born:=1}] 2 4 _ rfl;have i3:(Instr.mapUpdate 130 (.map (some w.heap.size)) (.int .i64 8) (.int .u8 27)).run Tryz.prog (w.alloc (.map #[{key:= .int .i64 1,val:= .int .u8 24,born:=0},{key:= .int .i64 2,val:= .int .u8 25,born:=1},{key:= .int .i64 4,val:= .int .u8 26,born:=2}] 3))= .ok () (w.alloc (.map #[{key:= .int .i64 1,val:= .int .u8 24,born:=0},{key:= .int .i64 2,val:= .int .u8 25,born:=1},{key:= .int .i64 4,val:= .int .u8 26,born:=2},{key:= .int .i64 8,val:= .int .u8 27,born:=3}] 4)):=ins w #[{key:= .int .i64 1,val:= .int .u8 24,born:=0},{key:= .int .i64 2,val:= .int .u8 25,born:=1},{key:= .int .i64 4,val:= .int .u8 26,born:=2}] 3 8 _ rfl;have i4:(Instr.lookup 130 (.map (some w.heap.size)) (.int .i64 1) false).run Tryz.prog (w.alloc (.map #[{key:= .int .i64 1,val:= .int .u8 24,born:=0},{key:= .int .i64 2,val:= .int .u8 25,born:=1},{key:= .int .i64 4,val:= .int .u8 26,born:=2},{key:= .int .i64 8,val:= .int .u8 27,born:=3}] 4))= .ok (.int .u8 24) (w.alloc (.map #[{key:= .int .i64 1,val:= .int .u8 24,born:=0},{key:= .int .i64 2,val:= .int .u8 25,born:=1},{key:= .int .i64 4,val:= .int .u8 26,born:=2},{key:= .int .i64 8,val:= .int .u8 27,born:=3}] 4)):=look w 1 0 _ rfl;have hmm:= @run_makeMap Tryz.prog;go_enter Tryz.func55,Tryz.ntmps55
 by_cases h0:form=0
 ·have t0:(form:Int)≤0:=by omega
  have t1: ¬(n:Int)<24:=by omega
  go_wp2
  go_loopg [8,9] 0 (fun g v8 v9 wr=> ∃j:Nat,v8= .int .i64 ((2^j:Nat):Int)∧v9= .int .i64 ((j+1:Nat):Int)∧j+g=0∧wr=w)
  case atStart=>exact ⟨0,by go_num,by go_num,by omega,rfl⟩
  case round=>
   obtain ⟨j,rfl,rfl,hj,rfl⟩:=hrel;obtain rfl:j=0:=by omega
   ·obtain rfl:gk=0:=by omega
    have c1: ¬(1:Int)<(form:Int):=by omega
    have c2: ¬(0:Int)<(n:Int)/256:=by omega
    go_wp2;obtain ⟨wo,rfl⟩: ∃wo:World,wo=wr:=⟨_,rfl⟩
    go_loopg [11,12] 1 (fun k v11 v12 wr=> ∃bs,v12= .int .i64 ((k:Int)-1)∧Row wr wo.heap.size v11 bs∧Hid (bs++beB k n=UInt8.ofNat (m*32+24)::beB 1 n)∧k≤1∧Hid (bs≠[])∧Hid (bs.length≤100-k)∧Fr [] wo wr)
    case atStart=>
     refine ⟨[UInt8.ofNat (m*32+24)],by go_num,?_,rfl,Nat.le_refl _,Hz (by simp),Hz (by simp),((Fr.refl [] wo).alloc _).alloc _⟩
     refine row_one _ (by simp) (by simp) _ _ ?_
     have:(m*32+24)%256=m*32+24:=by omega
     simp [this]
    case round=>
     obtain ⟨bs,rfl,hrow,heq,hkn,hne,hbl,hF⟩:=hrel;have hk9:gk=0∨gk=1:=by omega
     rcases hk9 with rfl|rfl
     ·obtain ⟨g,cap,rfl,hrd⟩:=hrow.atR hne.out;have ht:=toStr hrd cap;have hfin:UInt8.ofNat (m*32+24)::beB 1 n=bs:=by rw [←heq.out];simp [beB]
      go_wp2;go_ret
      exact ⟨by rw [hfin];rfl,hF⟩
     ·have gb:IntKind.u8.wrap ((n:Int))=((UInt8.ofNat (n/256^0%256)).toNat:Int):=by
       have:=u8_wrap_div n 0
       simpa using this
      have heq2:bs++UInt8.ofNat (n/256^0%256)::beB 0 n=UInt8.ofNat (m*32+24)::beB 1 n:=heq.out;clear heq;generalize UInt8.ofNat (n/256^0%256)=bb at *
      replace heq2:=Hz heq2;obtain ⟨ao,n0,c0,rfl⟩:=hrow.shape;have hB1:=hF.size;have hr1:Row (wr.alloc (.cells #[.int .u8 (bb.toNat:Int)] 5)) wo.heap.size (.slice ao n0 c0) bs:=World.ownsRow.alloc hrow _;have hrd:Rd (wr.alloc (.cells #[.int .u8 (bb.toNat:Int)] 5)) wr.heap.size 0 [bb]:=fun j hj=>by
       have hj0:j=0:=by simpa using hj
       subst hj0;exact cell_blk (blk_new wr _) 0
      have hB2:wo.heap.size≤(wr.alloc (.cells #[.int .u8 (bb.toNat:Int)] 5)).heap.size:=by simp;omega
      replace hB2:=Hz hB2;have hl2:Hid (bs.length+[bb].length≤140737488355328):=Hz (by have:=hbl.out;simp;omega)
      go_wp2_with (at_builtin;refine wpList_apRow rfl _ _ rfl (B:=wo.heap.size) _ bs [bb] wr.heap.size 0 1 rfl rfl hrd hr1 hB2.out hl2.out ?_)
      intro v' w' hr' hg;have hF2:Fr [] wo w':=((hF.alloc _).grown hg (fun k hk=> .inr (World.ownsRow.lt hr1 k hk).1))
      go_wp2
      go_roundg 0
      case measure=>omega
      case rel=>exact ⟨bs++[bb],by go_num,hr',(show (bs++[bb])++beB 0 n=_ by rw [List.append_assoc];exact heq2.out),by omega,Hz (by simp),Hz (by have:=hbl.out;simp;omega),hF2⟩
 ·have t1: ¬(form:Int)≤0:=by omega
  go_wp2
  go_loopg [8,9] 0 (fun g v8 v9 wr=> ∃j:Nat,v8= .int .i64 ((2^j:Nat):Int)∧v9= .int .i64 ((j+1:Nat):Int)∧j+g=0∧wr=w)
  case atStart=>exact ⟨0,by go_num,by go_num,by omega,rfl⟩
  case round=>
   obtain ⟨j,rfl,rfl,hj,rfl⟩:=hrel;obtain rfl:j=0:=by omega
   ·obtain rfl:gk=0:=by omega
    have c1: ¬(1:Int)<(form:Int):=by omega
    have c2: ¬(0:Int)<(n:Int)/256:=by omega
    go_wp2;obtain ⟨wo,rfl⟩: ∃wo:World,wo=wr:=⟨_,rfl⟩
    go_loopg [11,12] 1 (fun k v11 v12 wr=> ∃bs,v12= .int .i64 ((k:Int)-1)∧Row wr wo.heap.size v11 bs∧Hid (bs++beB k n=UInt8.ofNat (m*32+24)::beB 1 n)∧k≤1∧Hid (bs≠[])∧Hid (bs.length≤100-k)∧Fr [] wo wr)
    case atStart=>
     refine ⟨[UInt8.ofNat (m*32+24)],by go_num,?_,rfl,Nat.le_refl _,Hz (by simp),Hz (by simp),((Fr.refl [] wo).alloc _).alloc _⟩
     refine row_one _ (by simp) (by simp) _ _ ?_
     have:(m*32+24)%256=m*32+24:=by omega
     simp [this]
    case round=>
     obtain ⟨bs,rfl,hrow,heq,hkn,hne,hbl,hF⟩:=hrel;have hk9:gk=0∨gk=1:=by omega
     rcases hk9 with rfl|rfl
     ·obtain ⟨g,cap,rfl,hrd⟩:=hrow.atR hne.out;have ht:=toStr hrd cap;have hfin:UInt8.ofNat (m*32+24)::beB 1 n=bs:=by rw [←heq.out];simp [beB]
      go_wp2;go_ret
      exact ⟨by rw [hfin];rfl,hF⟩
     ·have gb:IntKind.u8.wrap ((n:Int))=((UInt8.ofNat (n/256^0%256)).toNat:Int):=by
       have:=u8_wrap_div n 0
       simpa using this
      have heq2:bs++UInt8.ofNat (n/256^0%256)::beB 0 n=UInt8.ofNat (m*32+24)::beB 1 n:=heq.out;clear heq;generalize UInt8.ofNat (n/256^0%256)=bb at *
      replace heq2:=Hz heq2;obtain ⟨ao,n0,c0,rfl⟩:=hrow.shape;have hB1:=hF.size;have hr1:Row (wr.alloc (.cells #[.int .u8 (bb.toNat:Int)] 5)) wo.heap.size (.slice ao n0 c0) bs:=World.ownsRow.alloc hrow _;have hrd:Rd (wr.alloc (.cells #[.int .u8 (bb.toNat:Int)] 5)) wr.heap.size 0 [bb]:=fun j hj=>by
       have hj0:j=0:=by simpa using hj
       subst hj0;exact cell_blk (blk_new wr _) 0
      have hB2:wo.heap.size≤(wr.alloc (.cells #[.int .u8 (bb.toNat:Int)] 5)).heap.size:=by simp;omega
      replace hB2:=Hz hB2;have hl2:Hid (bs.length+[bb].length≤140737488355328):=Hz (by have:=hbl.out;simp;omega)
      go_wp2_with (at_builtin;refine wpList_apRow rfl _ _ rfl (B:=wo.heap.size) _ bs [bb] wr.heap.size 0 1 rfl rfl hrd hr1 hB2.out hl2.out ?_)
      intro v' w' hr' hg;have hF2:Fr [] wo w':=((hF.alloc _).grown hg (fun k hk=> .inr (World.ownsRow.lt hr1 k hk).1))
      go_wp2
      go_roundg 0
      case measure=>omega
      case rel=>exact ⟨bs++[bb],by go_num,hr',(show (bs++[bb])++beB 0 n=_ by rw [List.append_assoc];exact heq2.out),by omega,Hz (by simp),Hz (by have:=hbl.out;simp;omega),hF2⟩
theorem headIn_1 (m n form:Nat) (hm:m<8) (hn:n<18446744073709551616) (hf:form≤100) (hs: ¬(form=0∧n<24)) (h1: ¬(form≤1∧n<256)) (h2:form≤2∧n<65536) (w:World):
  Calls Tryz.prog 55 #[.int .i64 (m:Int),.int .u64 (n:Int),.int .i64 (form:Int)] w fun e w'=>e= .returned (.string ⟨(UInt8.ofNat (m*32+25)::beB 2 n).toArray⟩)∧Fr [] w w':=by
 have g4:IntKind.u8.wrap (IntKind.i64.wrap ((m:Int)*32))=(m:Int)*32:=by
  have:IntKind.i64.wrap ((m:Int)*32)=(m:Int)*32:=by
   have:m=0∨m=1∨m=2∨m=3∨m=4∨m=5∨m=6∨m=7:=by omega
   rcases this with rfl|rfl|rfl|rfl|rfl|rfl|rfl|rfl<;>rfl
  rw [this]
  show ((m:Int)*32)%256=_
  omega
 have g5:bits .or .u8 ((m:Int)*32) 25=(m:Int)*32+25:=by
  have:=or_top m 25 hm (by omega)
  simpa using this
 have i0:(Instr.mapUpdate 130 (.map (some w.heap.size)) (.int .i64 1) (.int .u8 24)).run Tryz.prog (w.alloc (.map #[] 0))= .ok () (w.alloc (.map #[{key:= .int .i64 1,val:= .int .u8 24,born:=0}] 1)):=ins w #[] 0 1 _ rfl;have i1:(Instr.mapUpdate 130 (.map (some w.heap.size)) (.int .i64 2) (.int .u8 25)).run Tryz.prog (w.alloc (.map #[{key:= .int .i64 1,val:= .int .u8 24,born:=0}] 1))= .ok () (w.alloc (.map #[{key:= .int .i64 1,val:= .int .u8 24,born:=0},{key:= .int .i64 2,val:= .int .u8 25,born:=1}] 2)):=ins w #[{key:= .int .i64 1,val:= .int .u8 24,born:=0}] 1 2 _ rfl;have i2:(Instr.mapUpdate 130 (.map (some w.heap.size)) (.int .i64 4) (.int .u8 26)).run Tryz.prog (w.alloc (.map #[{key:= .int .i64 1,val:= .int .u8 24,born:=0},{key:= .int .i64 2,val:= .int .u8 25,born:=1}] 2))= .ok () (w.alloc (.map #[{key:= .int .i64 1,val:= .int .u8 24,born:=0},{key:= .int .i64 2,val:= .int .u8 25,born:=1},{key:= .int .i64 4,val:= .int .u8 26,born:=2}] 3)):=ins w #[{key:= .int .i64 1,val:= .int .u8 24,born:=0},{key:= .int .i64 2,val:= .int .u8 25,born:=1}] 2 4 _ rfl;have i3:(Instr.mapUpdate 130 (.map (some w.heap.size)) (.int .i64 8) (.int .u8 27)).run Tryz.prog (w.alloc (.map #[{key:= .int .i64 1,val:= .int .u8 24,born:=0},{key:= .int .i64 2,val:= .int .u8 25,born:=1},{key:= .int .i64 4,val:= .int .u8 26,born:=2}] 3))= .ok () (w.alloc (.map #[{key:= .int .i64 1,val:= .int .u8 24,born:=0},{key:= .int .i64 2,val:= .int .u8 25,born:=1},{key:= .int .i64 4,val:= .int .u8 26,born:=2},{key:= .int .i64 8,val:= .int .u8 27,born:=3}] 4)):=ins w #[{key:= .int .i64 1,val:= .int .u8 24,born:=0},{key:= .int .i64 2,val:= .int .u8 25,born:=1},{key:= .int .i64 4,val:= .int .u8 26,born:=2}] 3 8 _ rfl;have i4:(Instr.lookup 130 (.map (some w.heap.size)) (.int .i64 2) false).run Tryz.prog (w.alloc (.map #[{key:= .int .i64 1,val:= .int .u8 24,born:=0},{key:= .int .i64 2,val:= .int .u8 25,born:=1},{key:= .int .i64 4,val:= .int .u8 26,born:=2},{key:= .int .i64 8,val:= .int .u8 27,born:=3}] 4))= .ok (.int .u8 25) (w.alloc (.map #[{key:= .int .i64 1,val:= .int .u8 24,born:=0},{key:= .int .i64 2,val:= .int .u8 25,born:=1},{key:= .int .i64 4,val:= .int .u8 26,born:=2},{key:= .int .i64 8,val:= .int .u8 27,born:=3}] 4)):=look w 2 1 _ rfl;have hmm:= @run_makeMap Tryz.prog;go_enter Tryz.func55,Tryz.ntmps55
 by_cases h0:form=0
 ·have t0:(form:Int)≤0:=by omega
  have t1: ¬(n:Int)<24:=by omega
  go_wp2
  go_loopg [8,9] 1 (fun g v8 v9 wr=> ∃j:Nat,v8= .int .i64 ((2^j:Nat):Int)∧v9= .int .i64 ((j+1:Nat):Int)∧j+g=1∧wr=w)
  case atStart=>exact ⟨0,by go_num,by go_num,by omega,rfl⟩
  case round=>
   obtain ⟨j,rfl,rfl,hj,rfl⟩:=hrel;have hj4:j=0∨j=1:=by omega
   rcases hj4 with rfl|rfl
   ·obtain rfl:gk=1:=by omega
    have c1: ¬(1:Int)<(form:Int):=by omega
    have c2:(0:Int)<(n:Int)/256:=by omega
    go_wp2
    go_roundg 0
    case measure=>omega
    case rel=>exact ⟨1,by go_num,by go_num,by omega,rfl⟩
   ·obtain rfl:gk=0:=by omega
    have c1: ¬(2:Int)<(form:Int):=by omega
    have c2: ¬(0:Int)<(n:Int)/65536:=by omega
    go_wp2;obtain ⟨wo,rfl⟩: ∃wo:World,wo=wr:=⟨_,rfl⟩
    go_loopg [11,12] 2 (fun k v11 v12 wr=> ∃bs,v12= .int .i64 ((k:Int)-1)∧Row wr wo.heap.size v11 bs∧Hid (bs++beB k n=UInt8.ofNat (m*32+25)::beB 2 n)∧k≤2∧Hid (bs≠[])∧Hid (bs.length≤100-k)∧Fr [] wo wr)
    case atStart=>
     refine ⟨[UInt8.ofNat (m*32+25)],by go_num,?_,rfl,Nat.le_refl _,Hz (by simp),Hz (by simp),((Fr.refl [] wo).alloc _).alloc _⟩
     refine row_one _ (by simp) (by simp) _ _ ?_
     have:(m*32+25)%256=m*32+25:=by omega
     simp [this]
    case round=>
     obtain ⟨bs,rfl,hrow,heq,hkn,hne,hbl,hF⟩:=hrel;have hk9:gk=0∨gk=1∨gk=2:=by omega
     rcases hk9 with rfl|rfl|rfl
     ·obtain ⟨g,cap,rfl,hrd⟩:=hrow.atR hne.out;have ht:=toStr hrd cap;have hfin:UInt8.ofNat (m*32+25)::beB 2 n=bs:=by rw [←heq.out];simp [beB]
      go_wp2;go_ret
      exact ⟨by rw [hfin];rfl,hF⟩
     ·have gb:IntKind.u8.wrap ((n:Int))=((UInt8.ofNat (n/256^0%256)).toNat:Int):=by
       have:=u8_wrap_div n 0
       simpa using this
      have heq2:bs++UInt8.ofNat (n/256^0%256)::beB 0 n=UInt8.ofNat (m*32+25)::beB 2 n:=heq.out;clear heq;generalize UInt8.ofNat (n/256^0%256)=bb at *
      replace heq2:=Hz heq2;obtain ⟨ao,n0,c0,rfl⟩:=hrow.shape;have hB1:=hF.size;have hr1:Row (wr.alloc (.cells #[.int .u8 (bb.toNat:Int)] 5)) wo.heap.size (.slice ao n0 c0) bs:=World.ownsRow.alloc hrow _;have hrd:Rd (wr.alloc (.cells #[.int .u8 (bb.toNat:Int)] 5)) wr.heap.size 0 [bb]:=fun j hj=>by
       have hj0:j=0:=by simpa using hj
       subst hj0;exact cell_blk (blk_new wr _) 0
      have hB2:wo.heap.size≤(wr.alloc (.cells #[.int .u8 (bb.toNat:Int)] 5)).heap.size:=by simp;omega
      replace hB2:=Hz hB2;have hl2:Hid (bs.length+[bb].length≤140737488355328):=Hz (by have:=hbl.out;simp;omega)
      go_wp2_with (at_builtin;refine wpList_apRow rfl _ _ rfl (B:=wo.heap.size) _ bs [bb] wr.heap.size 0 1 rfl rfl hrd hr1 hB2.out hl2.out ?_)
      intro v' w' hr' hg;have hF2:Fr [] wo w':=((hF.alloc _).grown hg (fun k hk=> .inr (World.ownsRow.lt hr1 k hk).1))
      go_wp2
      go_roundg 0
      case measure=>omega
      case rel=>exact ⟨bs++[bb],by go_num,hr',(show (bs++[bb])++beB 0 n=_ by rw [List.append_assoc];exact heq2.out),by omega,Hz (by simp),Hz (by have:=hbl.out;simp;omega),hF2⟩
     ·have gb:IntKind.u8.wrap ((n:Int)/256)=((UInt8.ofNat (n/256^1%256)).toNat:Int):=by
       have:=u8_wrap_div n 1
       simpa using this
      have heq2:bs++UInt8.ofNat (n/256^1%256)::beB 1 n=UInt8.ofNat (m*32+25)::beB 2 n:=heq.out;clear heq;generalize UInt8.ofNat (n/256^1%256)=bb at *
      replace heq2:=Hz heq2;obtain ⟨ao,n0,c0,rfl⟩:=hrow.shape;have hB1:=hF.size;have hr1:Row (wr.alloc (.cells #[.int .u8 (bb.toNat:Int)] 5)) wo.heap.size (.slice ao n0 c0) bs:=World.ownsRow.alloc hrow _;have hrd:Rd (wr.alloc (.cells #[.int .u8 (bb.toNat:Int)] 5)) wr.heap.size 0 [bb]:=fun j hj=>by
       have hj0:j=0:=by simpa using hj
       subst hj0;exact cell_blk (blk_new wr _) 0
      have hB2:wo.heap.size≤(wr.alloc (.cells #[.int .u8 (bb.toNat:Int)] 5)).heap.size:=by simp;omega
      replace hB2:=Hz hB2;have hl2:Hid (bs.length+[bb].length≤140737488355328):=Hz (by have:=hbl.out;simp;omega)
      go_wp2_with (at_builtin;refine wpList_apRow rfl _ _ rfl (B:=wo.heap.size) _ bs [bb] wr.heap.size 0 1 rfl rfl hrd hr1 hB2.out hl2.out ?_)
      intro v' w' hr' hg;have hF2:Fr [] wo w':=((hF.alloc _).grown hg (fun k hk=> .inr (World.ownsRow.lt hr1 k hk).1))
      go_wp2
      go_roundg 1
      case measure=>omega
      case rel=>exact ⟨bs++[bb],by go_num,hr',(show (bs++[bb])++beB 1 n=_ by rw [List.append_assoc];exact heq2.out),by omega,Hz (by simp),Hz (by have:=hbl.out;simp;omega),hF2⟩
 ·have t1: ¬(form:Int)≤0:=by omega
  go_wp2
  go_loopg [8,9] 1 (fun g v8 v9 wr=> ∃j:Nat,v8= .int .i64 ((2^j:Nat):Int)∧v9= .int .i64 ((j+1:Nat):Int)∧j+g=1∧wr=w)
  case atStart=>exact ⟨0,by go_num,by go_num,by omega,rfl⟩
  case round=>
   obtain ⟨j,rfl,rfl,hj,rfl⟩:=hrel;have hj4:j=0∨j=1:=by omega
   rcases hj4 with rfl|rfl
   ·obtain rfl:gk=1:=by omega
    by_cases c1:(1:Int)<(form:Int)
    ·go_wp2
     go_roundg 0
     case measure=>omega
     case rel=>exact ⟨1,by go_num,by go_num,by omega,rfl⟩
    ·have c2:(0:Int)<(n:Int)/256:=by omega
     go_wp2
     go_roundg 0
     case measure=>omega
     case rel=>exact ⟨1,by go_num,by go_num,by omega,rfl⟩
   ·obtain rfl:gk=0:=by omega
    have c1: ¬(2:Int)<(form:Int):=by omega
    have c2: ¬(0:Int)<(n:Int)/65536:=by omega
    go_wp2;obtain ⟨wo,rfl⟩: ∃wo:World,wo=wr:=⟨_,rfl⟩
    go_loopg [11,12] 2 (fun k v11 v12 wr=> ∃bs,v12= .int .i64 ((k:Int)-1)∧Row wr wo.heap.size v11 bs∧Hid (bs++beB k n=UInt8.ofNat (m*32+25)::beB 2 n)∧k≤2∧Hid (bs≠[])∧Hid (bs.length≤100-k)∧Fr [] wo wr)
    case atStart=>
     refine ⟨[UInt8.ofNat (m*32+25)],by go_num,?_,rfl,Nat.le_refl _,Hz (by simp),Hz (by simp),((Fr.refl [] wo).alloc _).alloc _⟩
     refine row_one _ (by simp) (by simp) _ _ ?_
     have:(m*32+25)%256=m*32+25:=by omega
     simp [this]
    case round=>
     obtain ⟨bs,rfl,hrow,heq,hkn,hne,hbl,hF⟩:=hrel;have hk9:gk=0∨gk=1∨gk=2:=by omega
     rcases hk9 with rfl|rfl|rfl
     ·obtain ⟨g,cap,rfl,hrd⟩:=hrow.atR hne.out;have ht:=toStr hrd cap;have hfin:UInt8.ofNat (m*32+25)::beB 2 n=bs:=by rw [←heq.out];simp [beB]
      go_wp2;go_ret
      exact ⟨by rw [hfin];rfl,hF⟩
     ·have gb:IntKind.u8.wrap ((n:Int))=((UInt8.ofNat (n/256^0%256)).toNat:Int):=by
       have:=u8_wrap_div n 0
       simpa using this
      have heq2:bs++UInt8.ofNat (n/256^0%256)::beB 0 n=UInt8.ofNat (m*32+25)::beB 2 n:=heq.out;clear heq;generalize UInt8.ofNat (n/256^0%256)=bb at *
      replace heq2:=Hz heq2;obtain ⟨ao,n0,c0,rfl⟩:=hrow.shape;have hB1:=hF.size;have hr1:Row (wr.alloc (.cells #[.int .u8 (bb.toNat:Int)] 5)) wo.heap.size (.slice ao n0 c0) bs:=World.ownsRow.alloc hrow _;have hrd:Rd (wr.alloc (.cells #[.int .u8 (bb.toNat:Int)] 5)) wr.heap.size 0 [bb]:=fun j hj=>by
       have hj0:j=0:=by simpa using hj
       subst hj0;exact cell_blk (blk_new wr _) 0
      have hB2:wo.heap.size≤(wr.alloc (.cells #[.int .u8 (bb.toNat:Int)] 5)).heap.size:=by simp;omega
      replace hB2:=Hz hB2;have hl2:Hid (bs.length+[bb].length≤140737488355328):=Hz (by have:=hbl.out;simp;omega)
      go_wp2_with (at_builtin;refine wpList_apRow rfl _ _ rfl (B:=wo.heap.size) _ bs [bb] wr.heap.size 0 1 rfl rfl hrd hr1 hB2.out hl2.out ?_)
      intro v' w' hr' hg;have hF2:Fr [] wo w':=((hF.alloc _).grown hg (fun k hk=> .inr (World.ownsRow.lt hr1 k hk).1))
      go_wp2
      go_roundg 0
      case measure=>omega
      case rel=>exact ⟨bs++[bb],by go_num,hr',(show (bs++[bb])++beB 0 n=_ by rw [List.append_assoc];exact heq2.out),by omega,Hz (by simp),Hz (by have:=hbl.out;simp;omega),hF2⟩
     ·have gb:IntKind.u8.wrap ((n:Int)/256)=((UInt8.ofNat (n/256^1%256)).toNat:Int):=by
       have:=u8_wrap_div n 1
       simpa using this
      have heq2:bs++UInt8.ofNat (n/256^1%256)::beB 1 n=UInt8.ofNat (m*32+25)::beB 2 n:=heq.out;clear heq;generalize UInt8.ofNat (n/256^1%256)=bb at *
      replace heq2:=Hz heq2;obtain ⟨ao,n0,c0,rfl⟩:=hrow.shape;have hB1:=hF.size;have hr1:Row (wr.alloc (.cells #[.int .u8 (bb.toNat:Int)] 5)) wo.heap.size (.slice ao n0 c0) bs:=World.ownsRow.alloc hrow _;have hrd:Rd (wr.alloc (.cells #[.int .u8 (bb.toNat:Int)] 5)) wr.heap.size 0 [bb]:=fun j hj=>by
       have hj0:j=0:=by simpa using hj
       subst hj0;exact cell_blk (blk_new wr _) 0
      have hB2:wo.heap.size≤(wr.alloc (.cells #[.int .u8 (bb.toNat:Int)] 5)).heap.size:=by simp;omega
      replace hB2:=Hz hB2;have hl2:Hid (bs.length+[bb].length≤140737488355328):=Hz (by have:=hbl.out;simp;omega)
      go_wp2_with (at_builtin;refine wpList_apRow rfl _ _ rfl (B:=wo.heap.size) _ bs [bb] wr.heap.size 0 1 rfl rfl hrd hr1 hB2.out hl2.out ?_)
      intro v' w' hr' hg;have hF2:Fr [] wo w':=((hF.alloc _).grown hg (fun k hk=> .inr (World.ownsRow.lt hr1 k hk).1))
      go_wp2
      go_roundg 1
      case measure=>omega
      case rel=>exact ⟨bs++[bb],by go_num,hr',(show (bs++[bb])++beB 1 n=_ by rw [List.append_assoc];exact heq2.out),by omega,Hz (by simp),Hz (by have:=hbl.out;simp;omega),hF2⟩
theorem headIn_2 (m n form:Nat) (hm:m<8) (hn:n<18446744073709551616) (hf:form≤100) (hs: ¬(form=0∧n<24)) (h1: ¬(form≤1∧n<256)) (h2: ¬(form≤2∧n<65536)) (h3:form≤3∧n<4294967296) (w:World):
  Calls Tryz.prog 55 #[.int .i64 (m:Int),.int .u64 (n:Int),.int .i64 (form:Int)] w fun e w'=>e= .returned (.string ⟨(UInt8.ofNat (m*32+26)::beB 4 n).toArray⟩)∧Fr [] w w':=by
 have g4:IntKind.u8.wrap (IntKind.i64.wrap ((m:Int)*32))=(m:Int)*32:=by
  have:IntKind.i64.wrap ((m:Int)*32)=(m:Int)*32:=by
   have:m=0∨m=1∨m=2∨m=3∨m=4∨m=5∨m=6∨m=7:=by omega
   rcases this with rfl|rfl|rfl|rfl|rfl|rfl|rfl|rfl<;>rfl
  rw [this]
  show ((m:Int)*32)%256=_
  omega
 have g5:bits .or .u8 ((m:Int)*32) 26=(m:Int)*32+26:=by
  have:=or_top m 26 hm (by omega)
  simpa using this
 have i0:(Instr.mapUpdate 130 (.map (some w.heap.size)) (.int .i64 1) (.int .u8 24)).run Tryz.prog (w.alloc (.map #[] 0))= .ok () (w.alloc (.map #[{key:= .int .i64 1,val:= .int .u8 24,born:=0}] 1)):=ins w #[] 0 1 _ rfl;have i1:(Instr.mapUpdate 130 (.map (some w.heap.size)) (.int .i64 2) (.int .u8 25)).run Tryz.prog (w.alloc (.map #[{key:= .int .i64 1,val:= .int .u8 24,born:=0}] 1))= .ok () (w.alloc (.map #[{key:= .int .i64 1,val:= .int .u8 24,born:=0},{key:= .int .i64 2,val:= .int .u8 25,born:=1}] 2)):=ins w #[{key:= .int .i64 1,val:= .int .u8 24,born:=0}] 1 2 _ rfl;have i2:(Instr.mapUpdate 130 (.map (some w.heap.size)) (.int .i64 4) (.int .u8 26)).run Tryz.prog (w.alloc (.map #[{key:= .int .i64 1,val:= .int .u8 24,born:=0},{key:= .int .i64 2,val:= .int .u8 25,born:=1}] 2))= .ok () (w.alloc (.map #[{key:= .int .i64 1,val:= .int .u8 24,born:=0},{key:= .int .i64 2,val:= .int .u8 25,born:=1},{key:= .int .i64 4,val:= .int .u8 26,born:=2}] 3)):=ins w #[{key:= .int .i64 1,val:= .int .u8 24,born:=0},{key:= .int .i64 2,val:= .int .u8 25,born:=1}] 2 4 _ rfl;have i3:(Instr.mapUpdate 130 (.map (some w.heap.size)) (.int .i64 8) (.int .u8 27)).run Tryz.prog (w.alloc (.map #[{key:= .int .i64 1,val:= .int .u8 24,born:=0},{key:= .int .i64 2,val:= .int .u8 25,born:=1},{key:= .int .i64 4,val:= .int .u8 26,born:=2}] 3))= .ok () (w.alloc (.map #[{key:= .int .i64 1,val:= .int .u8 24,born:=0},{key:= .int .i64 2,val:= .int .u8 25,born:=1},{key:= .int .i64 4,val:= .int .u8 26,born:=2},{key:= .int .i64 8,val:= .int .u8 27,born:=3}] 4)):=ins w #[{key:= .int .i64 1,val:= .int .u8 24,born:=0},{key:= .int .i64 2,val:= .int .u8 25,born:=1},{key:= .int .i64 4,val:= .int .u8 26,born:=2}] 3 8 _ rfl;have i4:(Instr.lookup 130 (.map (some w.heap.size)) (.int .i64 4) false).run Tryz.prog (w.alloc (.map #[{key:= .int .i64 1,val:= .int .u8 24,born:=0},{key:= .int .i64 2,val:= .int .u8 25,born:=1},{key:= .int .i64 4,val:= .int .u8 26,born:=2},{key:= .int .i64 8,val:= .int .u8 27,born:=3}] 4))= .ok (.int .u8 26) (w.alloc (.map #[{key:= .int .i64 1,val:= .int .u8 24,born:=0},{key:= .int .i64 2,val:= .int .u8 25,born:=1},{key:= .int .i64 4,val:= .int .u8 26,born:=2},{key:= .int .i64 8,val:= .int .u8 27,born:=3}] 4)):=look w 4 2 _ rfl;have hmm:= @run_makeMap Tryz.prog;go_enter Tryz.func55,Tryz.ntmps55
 by_cases h0:form=0
 ·have t0:(form:Int)≤0:=by omega
  have t1: ¬(n:Int)<24:=by omega
  go_wp2
  go_loopg [8,9] 2 (fun g v8 v9 wr=> ∃j:Nat,v8= .int .i64 ((2^j:Nat):Int)∧v9= .int .i64 ((j+1:Nat):Int)∧j+g=2∧wr=w)
  case atStart=>exact ⟨0,by go_num,by go_num,by omega,rfl⟩
  case round=>
   obtain ⟨j,rfl,rfl,hj,rfl⟩:=hrel;have hj4:j=0∨j=1∨j=2:=by omega
   rcases hj4 with rfl|rfl|rfl
   ·obtain rfl:gk=2:=by omega
    have c1: ¬(1:Int)<(form:Int):=by omega
    have c2:(0:Int)<(n:Int)/256:=by omega
    go_wp2
    go_roundg 1
    case measure=>omega
    case rel=>exact ⟨1,by go_num,by go_num,by omega,rfl⟩
   ·obtain rfl:gk=1:=by omega
    have c1: ¬(2:Int)<(form:Int):=by omega
    have c2:(0:Int)<(n:Int)/65536:=by omega
    go_wp2
    go_roundg 0
    case measure=>omega
    case rel=>exact ⟨2,by go_num,by go_num,by omega,rfl⟩
   ·obtain rfl:gk=0:=by omega
    have c1: ¬(3:Int)<(form:Int):=by omega
    have c2: ¬(0:Int)<(n:Int)/4294967296:=by omega
    go_wp2;obtain ⟨wo,rfl⟩: ∃wo:World,wo=wr:=⟨_,rfl⟩
    go_loopg [11,12] 4 (fun k v11 v12 wr=> ∃bs,v12= .int .i64 ((k:Int)-1)∧Row wr wo.heap.size v11 bs∧Hid (bs++beB k n=UInt8.ofNat (m*32+26)::beB 4 n)∧k≤4∧Hid (bs≠[])∧Hid (bs.length≤100-k)∧Fr [] wo wr)
    case atStart=>
     refine ⟨[UInt8.ofNat (m*32+26)],by go_num,?_,rfl,Nat.le_refl _,Hz (by simp),Hz (by simp),((Fr.refl [] wo).alloc _).alloc _⟩
     refine row_one _ (by simp) (by simp) _ _ ?_
     have:(m*32+26)%256=m*32+26:=by omega
     simp [this]
    case round=>
     obtain ⟨bs,rfl,hrow,heq,hkn,hne,hbl,hF⟩:=hrel;have hk9:gk=0∨gk=1∨gk=2∨gk=3∨gk=4:=by omega
     rcases hk9 with rfl|rfl|rfl|rfl|rfl
     ·obtain ⟨g,cap,rfl,hrd⟩:=hrow.atR hne.out;have ht:=toStr hrd cap;have hfin:UInt8.ofNat (m*32+26)::beB 4 n=bs:=by rw [←heq.out];simp [beB]
      go_wp2;go_ret
      exact ⟨by rw [hfin];rfl,hF⟩
     ·have gb:IntKind.u8.wrap ((n:Int))=((UInt8.ofNat (n/256^0%256)).toNat:Int):=by
       have:=u8_wrap_div n 0
       simpa using this
      have heq2:bs++UInt8.ofNat (n/256^0%256)::beB 0 n=UInt8.ofNat (m*32+26)::beB 4 n:=heq.out;clear heq;generalize UInt8.ofNat (n/256^0%256)=bb at *
      replace heq2:=Hz heq2;obtain ⟨ao,n0,c0,rfl⟩:=hrow.shape;have hB1:=hF.size;have hr1:Row (wr.alloc (.cells #[.int .u8 (bb.toNat:Int)] 5)) wo.heap.size (.slice ao n0 c0) bs:=World.ownsRow.alloc hrow _;have hrd:Rd (wr.alloc (.cells #[.int .u8 (bb.toNat:Int)] 5)) wr.heap.size 0 [bb]:=fun j hj=>by
       have hj0:j=0:=by simpa using hj
       subst hj0;exact cell_blk (blk_new wr _) 0
      have hB2:wo.heap.size≤(wr.alloc (.cells #[.int .u8 (bb.toNat:Int)] 5)).heap.size:=by simp;omega
      replace hB2:=Hz hB2;have hl2:Hid (bs.length+[bb].length≤140737488355328):=Hz (by have:=hbl.out;simp;omega)
      go_wp2_with (at_builtin;refine wpList_apRow rfl _ _ rfl (B:=wo.heap.size) _ bs [bb] wr.heap.size 0 1 rfl rfl hrd hr1 hB2.out hl2.out ?_)
      intro v' w' hr' hg;have hF2:Fr [] wo w':=((hF.alloc _).grown hg (fun k hk=> .inr (World.ownsRow.lt hr1 k hk).1))
      go_wp2
      go_roundg 0
      case measure=>omega
      case rel=>exact ⟨bs++[bb],by go_num,hr',(show (bs++[bb])++beB 0 n=_ by rw [List.append_assoc];exact heq2.out),by omega,Hz (by simp),Hz (by have:=hbl.out;simp;omega),hF2⟩
     ·have gb:IntKind.u8.wrap ((n:Int)/256)=((UInt8.ofNat (n/256^1%256)).toNat:Int):=by
       have:=u8_wrap_div n 1
       simpa using this
      have heq2:bs++UInt8.ofNat (n/256^1%256)::beB 1 n=UInt8.ofNat (m*32+26)::beB 4 n:=heq.out;clear heq;generalize UInt8.ofNat (n/256^1%256)=bb at *
      replace heq2:=Hz heq2;obtain ⟨ao,n0,c0,rfl⟩:=hrow.shape;have hB1:=hF.size;have hr1:Row (wr.alloc (.cells #[.int .u8 (bb.toNat:Int)] 5)) wo.heap.size (.slice ao n0 c0) bs:=World.ownsRow.alloc hrow _;have hrd:Rd (wr.alloc (.cells #[.int .u8 (bb.toNat:Int)] 5)) wr.heap.size 0 [bb]:=fun j hj=>by
       have hj0:j=0:=by simpa using hj
       subst hj0;exact cell_blk (blk_new wr _) 0
      have hB2:wo.heap.size≤(wr.alloc (.cells #[.int .u8 (bb.toNat:Int)] 5)).heap.size:=by simp;omega
      replace hB2:=Hz hB2;have hl2:Hid (bs.length+[bb].length≤140737488355328):=Hz (by have:=hbl.out;simp;omega)
      go_wp2_with (at_builtin;refine wpList_apRow rfl _ _ rfl (B:=wo.heap.size) _ bs [bb] wr.heap.size 0 1 rfl rfl hrd hr1 hB2.out hl2.out ?_)
      intro v' w' hr' hg;have hF2:Fr [] wo w':=((hF.alloc _).grown hg (fun k hk=> .inr (World.ownsRow.lt hr1 k hk).1))
      go_wp2
      go_roundg 1
      case measure=>omega
      case rel=>exact ⟨bs++[bb],by go_num,hr',(show (bs++[bb])++beB 1 n=_ by rw [List.append_assoc];exact heq2.out),by omega,Hz (by simp),Hz (by have:=hbl.out;simp;omega),hF2⟩
     ·have gb:IntKind.u8.wrap ((n:Int)/65536)=((UInt8.ofNat (n/256^2%256)).toNat:Int):=by
       have:=u8_wrap_div n 2
       simpa using this
      have heq2:bs++UInt8.ofNat (n/256^2%256)::beB 2 n=UInt8.ofNat (m*32+26)::beB 4 n:=heq.out;clear heq;generalize UInt8.ofNat (n/256^2%256)=bb at *
      replace heq2:=Hz heq2;obtain ⟨ao,n0,c0,rfl⟩:=hrow.shape;have hB1:=hF.size;have hr1:Row (wr.alloc (.cells #[.int .u8 (bb.toNat:Int)] 5)) wo.heap.size (.slice ao n0 c0) bs:=World.ownsRow.alloc hrow _;have hrd:Rd (wr.alloc (.cells #[.int .u8 (bb.toNat:Int)] 5)) wr.heap.size 0 [bb]:=fun j hj=>by
       have hj0:j=0:=by simpa using hj
       subst hj0;exact cell_blk (blk_new wr _) 0
      have hB2:wo.heap.size≤(wr.alloc (.cells #[.int .u8 (bb.toNat:Int)] 5)).heap.size:=by simp;omega
      replace hB2:=Hz hB2;have hl2:Hid (bs.length+[bb].length≤140737488355328):=Hz (by have:=hbl.out;simp;omega)
      go_wp2_with (at_builtin;refine wpList_apRow rfl _ _ rfl (B:=wo.heap.size) _ bs [bb] wr.heap.size 0 1 rfl rfl hrd hr1 hB2.out hl2.out ?_)
      intro v' w' hr' hg;have hF2:Fr [] wo w':=((hF.alloc _).grown hg (fun k hk=> .inr (World.ownsRow.lt hr1 k hk).1))
      go_wp2
      go_roundg 2
      case measure=>omega
      case rel=>exact ⟨bs++[bb],by go_num,hr',(show (bs++[bb])++beB 2 n=_ by rw [List.append_assoc];exact heq2.out),by omega,Hz (by simp),Hz (by have:=hbl.out;simp;omega),hF2⟩
     ·have gb:IntKind.u8.wrap ((n:Int)/16777216)=((UInt8.ofNat (n/256^3%256)).toNat:Int):=by
       have:=u8_wrap_div n 3
       simpa using this
      have heq2:bs++UInt8.ofNat (n/256^3%256)::beB 3 n=UInt8.ofNat (m*32+26)::beB 4 n:=heq.out;clear heq;generalize UInt8.ofNat (n/256^3%256)=bb at *
      replace heq2:=Hz heq2;obtain ⟨ao,n0,c0,rfl⟩:=hrow.shape;have hB1:=hF.size;have hr1:Row (wr.alloc (.cells #[.int .u8 (bb.toNat:Int)] 5)) wo.heap.size (.slice ao n0 c0) bs:=World.ownsRow.alloc hrow _;have hrd:Rd (wr.alloc (.cells #[.int .u8 (bb.toNat:Int)] 5)) wr.heap.size 0 [bb]:=fun j hj=>by
       have hj0:j=0:=by simpa using hj
       subst hj0;exact cell_blk (blk_new wr _) 0
      have hB2:wo.heap.size≤(wr.alloc (.cells #[.int .u8 (bb.toNat:Int)] 5)).heap.size:=by simp;omega
      replace hB2:=Hz hB2;have hl2:Hid (bs.length+[bb].length≤140737488355328):=Hz (by have:=hbl.out;simp;omega)
      go_wp2_with (at_builtin;refine wpList_apRow rfl _ _ rfl (B:=wo.heap.size) _ bs [bb] wr.heap.size 0 1 rfl rfl hrd hr1 hB2.out hl2.out ?_)
      intro v' w' hr' hg;have hF2:Fr [] wo w':=((hF.alloc _).grown hg (fun k hk=> .inr (World.ownsRow.lt hr1 k hk).1))
      go_wp2
      go_roundg 3
      case measure=>omega
      case rel=>exact ⟨bs++[bb],by go_num,hr',(show (bs++[bb])++beB 3 n=_ by rw [List.append_assoc];exact heq2.out),by omega,Hz (by simp),Hz (by have:=hbl.out;simp;omega),hF2⟩
 ·have t1: ¬(form:Int)≤0:=by omega
  go_wp2
  go_loopg [8,9] 2 (fun g v8 v9 wr=> ∃j:Nat,v8= .int .i64 ((2^j:Nat):Int)∧v9= .int .i64 ((j+1:Nat):Int)∧j+g=2∧wr=w)
  case atStart=>exact ⟨0,by go_num,by go_num,by omega,rfl⟩
  case round=>
   obtain ⟨j,rfl,rfl,hj,rfl⟩:=hrel;have hj4:j=0∨j=1∨j=2:=by omega
   rcases hj4 with rfl|rfl|rfl
   ·obtain rfl:gk=2:=by omega
    by_cases c1:(1:Int)<(form:Int)
    ·go_wp2
     go_roundg 1
     case measure=>omega
     case rel=>exact ⟨1,by go_num,by go_num,by omega,rfl⟩
    ·have c2:(0:Int)<(n:Int)/256:=by omega
     go_wp2
     go_roundg 1
     case measure=>omega
     case rel=>exact ⟨1,by go_num,by go_num,by omega,rfl⟩
   ·obtain rfl:gk=1:=by omega
    by_cases c1:(2:Int)<(form:Int)
    ·go_wp2
     go_roundg 0
     case measure=>omega
     case rel=>exact ⟨2,by go_num,by go_num,by omega,rfl⟩
    ·have c2:(0:Int)<(n:Int)/65536:=by omega
     go_wp2
     go_roundg 0
     case measure=>omega
     case rel=>exact ⟨2,by go_num,by go_num,by omega,rfl⟩
   ·obtain rfl:gk=0:=by omega
    have c1: ¬(3:Int)<(form:Int):=by omega
    have c2: ¬(0:Int)<(n:Int)/4294967296:=by omega
    go_wp2;obtain ⟨wo,rfl⟩: ∃wo:World,wo=wr:=⟨_,rfl⟩
    go_loopg [11,12] 4 (fun k v11 v12 wr=> ∃bs,v12= .int .i64 ((k:Int)-1)∧Row wr wo.heap.size v11 bs∧Hid (bs++beB k n=UInt8.ofNat (m*32+26)::beB 4 n)∧k≤4∧Hid (bs≠[])∧Hid (bs.length≤100-k)∧Fr [] wo wr)
    case atStart=>
     refine ⟨[UInt8.ofNat (m*32+26)],by go_num,?_,rfl,Nat.le_refl _,Hz (by simp),Hz (by simp),((Fr.refl [] wo).alloc _).alloc _⟩
     refine row_one _ (by simp) (by simp) _ _ ?_
     have:(m*32+26)%256=m*32+26:=by omega
     simp [this]
    case round=>
     obtain ⟨bs,rfl,hrow,heq,hkn,hne,hbl,hF⟩:=hrel;have hk9:gk=0∨gk=1∨gk=2∨gk=3∨gk=4:=by omega
     rcases hk9 with rfl|rfl|rfl|rfl|rfl
     ·obtain ⟨g,cap,rfl,hrd⟩:=hrow.atR hne.out;have ht:=toStr hrd cap;have hfin:UInt8.ofNat (m*32+26)::beB 4 n=bs:=by rw [←heq.out];simp [beB]
      go_wp2;go_ret
      exact ⟨by rw [hfin];rfl,hF⟩
     ·have gb:IntKind.u8.wrap ((n:Int))=((UInt8.ofNat (n/256^0%256)).toNat:Int):=by
       have:=u8_wrap_div n 0
       simpa using this
      have heq2:bs++UInt8.ofNat (n/256^0%256)::beB 0 n=UInt8.ofNat (m*32+26)::beB 4 n:=heq.out;clear heq;generalize UInt8.ofNat (n/256^0%256)=bb at *
      replace heq2:=Hz heq2;obtain ⟨ao,n0,c0,rfl⟩:=hrow.shape;have hB1:=hF.size;have hr1:Row (wr.alloc (.cells #[.int .u8 (bb.toNat:Int)] 5)) wo.heap.size (.slice ao n0 c0) bs:=World.ownsRow.alloc hrow _;have hrd:Rd (wr.alloc (.cells #[.int .u8 (bb.toNat:Int)] 5)) wr.heap.size 0 [bb]:=fun j hj=>by
       have hj0:j=0:=by simpa using hj
       subst hj0;exact cell_blk (blk_new wr _) 0
      have hB2:wo.heap.size≤(wr.alloc (.cells #[.int .u8 (bb.toNat:Int)] 5)).heap.size:=by simp;omega
      replace hB2:=Hz hB2;have hl2:Hid (bs.length+[bb].length≤140737488355328):=Hz (by have:=hbl.out;simp;omega)
      go_wp2_with (at_builtin;refine wpList_apRow rfl _ _ rfl (B:=wo.heap.size) _ bs [bb] wr.heap.size 0 1 rfl rfl hrd hr1 hB2.out hl2.out ?_)
      intro v' w' hr' hg;have hF2:Fr [] wo w':=((hF.alloc _).grown hg (fun k hk=> .inr (World.ownsRow.lt hr1 k hk).1))
      go_wp2
      go_roundg 0
      case measure=>omega
      case rel=>exact ⟨bs++[bb],by go_num,hr',(show (bs++[bb])++beB 0 n=_ by rw [List.append_assoc];exact heq2.out),by omega,Hz (by simp),Hz (by have:=hbl.out;simp;omega),hF2⟩
     ·have gb:IntKind.u8.wrap ((n:Int)/256)=((UInt8.ofNat (n/256^1%256)).toNat:Int):=by
       have:=u8_wrap_div n 1
       simpa using this
      have heq2:bs++UInt8.ofNat (n/256^1%256)::beB 1 n=UInt8.ofNat (m*32+26)::beB 4 n:=heq.out;clear heq;generalize UInt8.ofNat (n/256^1%256)=bb at *
      replace heq2:=Hz heq2;obtain ⟨ao,n0,c0,rfl⟩:=hrow.shape;have hB1:=hF.size;have hr1:Row (wr.alloc (.cells #[.int .u8 (bb.toNat:Int)] 5)) wo.heap.size (.slice ao n0 c0) bs:=World.ownsRow.alloc hrow _;have hrd:Rd (wr.alloc (.cells #[.int .u8 (bb.toNat:Int)] 5)) wr.heap.size 0 [bb]:=fun j hj=>by
       have hj0:j=0:=by simpa using hj
       subst hj0;exact cell_blk (blk_new wr _) 0
      have hB2:wo.heap.size≤(wr.alloc (.cells #[.int .u8 (bb.toNat:Int)] 5)).heap.size:=by simp;omega
      replace hB2:=Hz hB2;have hl2:Hid (bs.length+[bb].length≤140737488355328):=Hz (by have:=hbl.out;simp;omega)
      go_wp2_with (at_builtin;refine wpList_apRow rfl _ _ rfl (B:=wo.heap.size) _ bs [bb] wr.heap.size 0 1 rfl rfl hrd hr1 hB2.out hl2.out ?_)
      intro v' w' hr' hg;have hF2:Fr [] wo w':=((hF.alloc _).grown hg (fun k hk=> .inr (World.ownsRow.lt hr1 k hk).1))
      go_wp2
      go_roundg 1
      case measure=>omega
      case rel=>exact ⟨bs++[bb],by go_num,hr',(show (bs++[bb])++beB 1 n=_ by rw [List.append_assoc];exact heq2.out),by omega,Hz (by simp),Hz (by have:=hbl.out;simp;omega),hF2⟩
     ·have gb:IntKind.u8.wrap ((n:Int)/65536)=((UInt8.ofNat (n/256^2%256)).toNat:Int):=by
       have:=u8_wrap_div n 2
       simpa using this
      have heq2:bs++UInt8.ofNat (n/256^2%256)::beB 2 n=UInt8.ofNat (m*32+26)::beB 4 n:=heq.out;clear heq;generalize UInt8.ofNat (n/256^2%256)=bb at *
      replace heq2:=Hz heq2;obtain ⟨ao,n0,c0,rfl⟩:=hrow.shape;have hB1:=hF.size;have hr1:Row (wr.alloc (.cells #[.int .u8 (bb.toNat:Int)] 5)) wo.heap.size (.slice ao n0 c0) bs:=World.ownsRow.alloc hrow _;have hrd:Rd (wr.alloc (.cells #[.int .u8 (bb.toNat:Int)] 5)) wr.heap.size 0 [bb]:=fun j hj=>by
       have hj0:j=0:=by simpa using hj
       subst hj0;exact cell_blk (blk_new wr _) 0
      have hB2:wo.heap.size≤(wr.alloc (.cells #[.int .u8 (bb.toNat:Int)] 5)).heap.size:=by simp;omega
      replace hB2:=Hz hB2;have hl2:Hid (bs.length+[bb].length≤140737488355328):=Hz (by have:=hbl.out;simp;omega)
      go_wp2_with (at_builtin;refine wpList_apRow rfl _ _ rfl (B:=wo.heap.size) _ bs [bb] wr.heap.size 0 1 rfl rfl hrd hr1 hB2.out hl2.out ?_)
      intro v' w' hr' hg;have hF2:Fr [] wo w':=((hF.alloc _).grown hg (fun k hk=> .inr (World.ownsRow.lt hr1 k hk).1))
      go_wp2
      go_roundg 2
      case measure=>omega
      case rel=>exact ⟨bs++[bb],by go_num,hr',(show (bs++[bb])++beB 2 n=_ by rw [List.append_assoc];exact heq2.out),by omega,Hz (by simp),Hz (by have:=hbl.out;simp;omega),hF2⟩
     ·have gb:IntKind.u8.wrap ((n:Int)/16777216)=((UInt8.ofNat (n/256^3%256)).toNat:Int):=by
       have:=u8_wrap_div n 3
       simpa using this
      have heq2:bs++UInt8.ofNat (n/256^3%256)::beB 3 n=UInt8.ofNat (m*32+26)::beB 4 n:=heq.out;clear heq;generalize UInt8.ofNat (n/256^3%256)=bb at *
      replace heq2:=Hz heq2;obtain ⟨ao,n0,c0,rfl⟩:=hrow.shape;have hB1:=hF.size;have hr1:Row (wr.alloc (.cells #[.int .u8 (bb.toNat:Int)] 5)) wo.heap.size (.slice ao n0 c0) bs:=World.ownsRow.alloc hrow _;have hrd:Rd (wr.alloc (.cells #[.int .u8 (bb.toNat:Int)] 5)) wr.heap.size 0 [bb]:=fun j hj=>by
       have hj0:j=0:=by simpa using hj
       subst hj0;exact cell_blk (blk_new wr _) 0
      have hB2:wo.heap.size≤(wr.alloc (.cells #[.int .u8 (bb.toNat:Int)] 5)).heap.size:=by simp;omega
      replace hB2:=Hz hB2;have hl2:Hid (bs.length+[bb].length≤140737488355328):=Hz (by have:=hbl.out;simp;omega)
      go_wp2_with (at_builtin;refine wpList_apRow rfl _ _ rfl (B:=wo.heap.size) _ bs [bb] wr.heap.size 0 1 rfl rfl hrd hr1 hB2.out hl2.out ?_)
      intro v' w' hr' hg;have hF2:Fr [] wo w':=((hF.alloc _).grown hg (fun k hk=> .inr (World.ownsRow.lt hr1 k hk).1))
      go_wp2
      go_roundg 3
      case measure=>omega
      case rel=>exact ⟨bs++[bb],by go_num,hr',(show (bs++[bb])++beB 3 n=_ by rw [List.append_assoc];exact heq2.out),by omega,Hz (by simp),Hz (by have:=hbl.out;simp;omega),hF2⟩
theorem headIn_3 (m n form:Nat) (hm:m<8) (hn:n<18446744073709551616) (hf:form≤100) (hs: ¬(form=0∧n<24)) (h1: ¬(form≤1∧n<256)) (h2: ¬(form≤2∧n<65536)) (h3: ¬(form≤3∧n<4294967296)) (w:World):
  Calls Tryz.prog 55 #[.int .i64 (m:Int),.int .u64 (n:Int),.int .i64 (form:Int)] w fun e w'=>e= .returned (.string ⟨(UInt8.ofNat (m*32+27)::beB 8 n).toArray⟩)∧Fr [] w w':=by
 have g4:IntKind.u8.wrap (IntKind.i64.wrap ((m:Int)*32))=(m:Int)*32:=by
  have:IntKind.i64.wrap ((m:Int)*32)=(m:Int)*32:=by
   have:m=0∨m=1∨m=2∨m=3∨m=4∨m=5∨m=6∨m=7:=by omega
   rcases this with rfl|rfl|rfl|rfl|rfl|rfl|rfl|rfl<;>rfl
  rw [this]
  show ((m:Int)*32)%256=_
  omega
 have g5:bits .or .u8 ((m:Int)*32) 27=(m:Int)*32+27:=by
  have:=or_top m 27 hm (by omega)
  simpa using this
 have i0:(Instr.mapUpdate 130 (.map (some w.heap.size)) (.int .i64 1) (.int .u8 24)).run Tryz.prog (w.alloc (.map #[] 0))= .ok () (w.alloc (.map #[{key:= .int .i64 1,val:= .int .u8 24,born:=0}] 1)):=ins w #[] 0 1 _ rfl;have i1:(Instr.mapUpdate 130 (.map (some w.heap.size)) (.int .i64 2) (.int .u8 25)).run Tryz.prog (w.alloc (.map #[{key:= .int .i64 1,val:= .int .u8 24,born:=0}] 1))= .ok () (w.alloc (.map #[{key:= .int .i64 1,val:= .int .u8 24,born:=0},{key:= .int .i64 2,val:= .int .u8 25,born:=1}] 2)):=ins w #[{key:= .int .i64 1,val:= .int .u8 24,born:=0}] 1 2 _ rfl;have i2:(Instr.mapUpdate 130 (.map (some w.heap.size)) (.int .i64 4) (.int .u8 26)).run Tryz.prog (w.alloc (.map #[{key:= .int .i64 1,val:= .int .u8 24,born:=0},{key:= .int .i64 2,val:= .int .u8 25,born:=1}] 2))= .ok () (w.alloc (.map #[{key:= .int .i64 1,val:= .int .u8 24,born:=0},{key:= .int .i64 2,val:= .int .u8 25,born:=1},{key:= .int .i64 4,val:= .int .u8 26,born:=2}] 3)):=ins w #[{key:= .int .i64 1,val:= .int .u8 24,born:=0},{key:= .int .i64 2,val:= .int .u8 25,born:=1}] 2 4 _ rfl;have i3:(Instr.mapUpdate 130 (.map (some w.heap.size)) (.int .i64 8) (.int .u8 27)).run Tryz.prog (w.alloc (.map #[{key:= .int .i64 1,val:= .int .u8 24,born:=0},{key:= .int .i64 2,val:= .int .u8 25,born:=1},{key:= .int .i64 4,val:= .int .u8 26,born:=2}] 3))= .ok () (w.alloc (.map #[{key:= .int .i64 1,val:= .int .u8 24,born:=0},{key:= .int .i64 2,val:= .int .u8 25,born:=1},{key:= .int .i64 4,val:= .int .u8 26,born:=2},{key:= .int .i64 8,val:= .int .u8 27,born:=3}] 4)):=ins w #[{key:= .int .i64 1,val:= .int .u8 24,born:=0},{key:= .int .i64 2,val:= .int .u8 25,born:=1},{key:= .int .i64 4,val:= .int .u8 26,born:=2}] 3 8 _ rfl;have i4:(Instr.lookup 130 (.map (some w.heap.size)) (.int .i64 8) false).run Tryz.prog (w.alloc (.map #[{key:= .int .i64 1,val:= .int .u8 24,born:=0},{key:= .int .i64 2,val:= .int .u8 25,born:=1},{key:= .int .i64 4,val:= .int .u8 26,born:=2},{key:= .int .i64 8,val:= .int .u8 27,born:=3}] 4))= .ok (.int .u8 27) (w.alloc (.map #[{key:= .int .i64 1,val:= .int .u8 24,born:=0},{key:= .int .i64 2,val:= .int .u8 25,born:=1},{key:= .int .i64 4,val:= .int .u8 26,born:=2},{key:= .int .i64 8,val:= .int .u8 27,born:=3}] 4)):=look w 8 3 _ rfl;have hmm:= @run_makeMap Tryz.prog;go_enter Tryz.func55,Tryz.ntmps55
 by_cases h0:form=0
 ·have t0:(form:Int)≤0:=by omega
  have t1: ¬(n:Int)<24:=by omega
  go_wp2
  go_loopg [8,9] 3 (fun g v8 v9 wr=> ∃j:Nat,v8= .int .i64 ((2^j:Nat):Int)∧v9= .int .i64 ((j+1:Nat):Int)∧j+g=3∧wr=w)
  case atStart=>exact ⟨0,by go_num,by go_num,by omega,rfl⟩
  case round=>
   obtain ⟨j,rfl,rfl,hj,rfl⟩:=hrel;have hj4:j=0∨j=1∨j=2∨j=3:=by omega
   rcases hj4 with rfl|rfl|rfl|rfl
   ·obtain rfl:gk=3:=by omega
    have c1: ¬(1:Int)<(form:Int):=by omega
    have c2:(0:Int)<(n:Int)/256:=by omega
    go_wp2
    go_roundg 2
    case measure=>omega
    case rel=>exact ⟨1,by go_num,by go_num,by omega,rfl⟩
   ·obtain rfl:gk=2:=by omega
    have c1: ¬(2:Int)<(form:Int):=by omega
    have c2:(0:Int)<(n:Int)/65536:=by omega
    go_wp2
    go_roundg 1
    case measure=>omega
    case rel=>exact ⟨2,by go_num,by go_num,by omega,rfl⟩
   ·obtain rfl:gk=1:=by omega
    have c1: ¬(3:Int)<(form:Int):=by omega
    have c2:(0:Int)<(n:Int)/4294967296:=by omega
    go_wp2
    go_roundg 0
    case measure=>omega
    case rel=>exact ⟨3,by go_num,by go_num,by omega,rfl⟩
   ·obtain rfl:gk=0:=by omega
    go_wp2;obtain ⟨wo,rfl⟩: ∃wo:World,wo=wr:=⟨_,rfl⟩
    go_loopg [11,12] 8 (fun k v11 v12 wr=> ∃bs,v12= .int .i64 ((k:Int)-1)∧Row wr wo.heap.size v11 bs∧Hid (bs++beB k n=UInt8.ofNat (m*32+27)::beB 8 n)∧k≤8∧Hid (bs≠[])∧Hid (bs.length≤100-k)∧Fr [] wo wr)
    case atStart=>
     refine ⟨[UInt8.ofNat (m*32+27)],by go_num,?_,rfl,Nat.le_refl _,Hz (by simp),Hz (by simp),((Fr.refl [] wo).alloc _).alloc _⟩
     refine row_one _ (by simp) (by simp) _ _ ?_
     have:(m*32+27)%256=m*32+27:=by omega
     simp [this]
    case round=>
     obtain ⟨bs,rfl,hrow,heq,hkn,hne,hbl,hF⟩:=hrel;have hk9:gk=0∨gk=1∨gk=2∨gk=3∨gk=4∨gk=5∨gk=6∨gk=7∨gk=8:=by omega
     rcases hk9 with rfl|rfl|rfl|rfl|rfl|rfl|rfl|rfl|rfl
     ·obtain ⟨g,cap,rfl,hrd⟩:=hrow.atR hne.out;have ht:=toStr hrd cap;have hfin:UInt8.ofNat (m*32+27)::beB 8 n=bs:=by rw [←heq.out];simp [beB]
      go_wp2;go_ret
      exact ⟨by rw [hfin];rfl,hF⟩
     ·have gb:IntKind.u8.wrap ((n:Int))=((UInt8.ofNat (n/256^0%256)).toNat:Int):=by
       have:=u8_wrap_div n 0
       simpa using this
      have heq2:bs++UInt8.ofNat (n/256^0%256)::beB 0 n=UInt8.ofNat (m*32+27)::beB 8 n:=heq.out;clear heq;generalize UInt8.ofNat (n/256^0%256)=bb at *
      replace heq2:=Hz heq2;obtain ⟨ao,n0,c0,rfl⟩:=hrow.shape;have hB1:=hF.size;have hr1:Row (wr.alloc (.cells #[.int .u8 (bb.toNat:Int)] 5)) wo.heap.size (.slice ao n0 c0) bs:=World.ownsRow.alloc hrow _;have hrd:Rd (wr.alloc (.cells #[.int .u8 (bb.toNat:Int)] 5)) wr.heap.size 0 [bb]:=fun j hj=>by
       have hj0:j=0:=by simpa using hj
       subst hj0;exact cell_blk (blk_new wr _) 0
      have hB2:wo.heap.size≤(wr.alloc (.cells #[.int .u8 (bb.toNat:Int)] 5)).heap.size:=by simp;omega
      replace hB2:=Hz hB2;have hl2:Hid (bs.length+[bb].length≤140737488355328):=Hz (by have:=hbl.out;simp;omega)
      go_wp2_with (at_builtin;refine wpList_apRow rfl _ _ rfl (B:=wo.heap.size) _ bs [bb] wr.heap.size 0 1 rfl rfl hrd hr1 hB2.out hl2.out ?_)
      intro v' w' hr' hg;have hF2:Fr [] wo w':=((hF.alloc _).grown hg (fun k hk=> .inr (World.ownsRow.lt hr1 k hk).1))
      go_wp2
      go_roundg 0
      case measure=>omega
      case rel=>exact ⟨bs++[bb],by go_num,hr',(show (bs++[bb])++beB 0 n=_ by rw [List.append_assoc];exact heq2.out),by omega,Hz (by simp),Hz (by have:=hbl.out;simp;omega),hF2⟩
     ·have gb:IntKind.u8.wrap ((n:Int)/256)=((UInt8.ofNat (n/256^1%256)).toNat:Int):=by
       have:=u8_wrap_div n 1
       simpa using this
      have heq2:bs++UInt8.ofNat (n/256^1%256)::beB 1 n=UInt8.ofNat (m*32+27)::beB 8 n:=heq.out;clear heq;generalize UInt8.ofNat (n/256^1%256)=bb at *
      replace heq2:=Hz heq2;obtain ⟨ao,n0,c0,rfl⟩:=hrow.shape;have hB1:=hF.size;have hr1:Row (wr.alloc (.cells #[.int .u8 (bb.toNat:Int)] 5)) wo.heap.size (.slice ao n0 c0) bs:=World.ownsRow.alloc hrow _;have hrd:Rd (wr.alloc (.cells #[.int .u8 (bb.toNat:Int)] 5)) wr.heap.size 0 [bb]:=fun j hj=>by
       have hj0:j=0:=by simpa using hj
       subst hj0;exact cell_blk (blk_new wr _) 0
      have hB2:wo.heap.size≤(wr.alloc (.cells #[.int .u8 (bb.toNat:Int)] 5)).heap.size:=by simp;omega
      replace hB2:=Hz hB2;have hl2:Hid (bs.length+[bb].length≤140737488355328):=Hz (by have:=hbl.out;simp;omega)
      go_wp2_with (at_builtin;refine wpList_apRow rfl _ _ rfl (B:=wo.heap.size) _ bs [bb] wr.heap.size 0 1 rfl rfl hrd hr1 hB2.out hl2.out ?_)
      intro v' w' hr' hg;have hF2:Fr [] wo w':=((hF.alloc _).grown hg (fun k hk=> .inr (World.ownsRow.lt hr1 k hk).1))
      go_wp2
      go_roundg 1
      case measure=>omega
      case rel=>exact ⟨bs++[bb],by go_num,hr',(show (bs++[bb])++beB 1 n=_ by rw [List.append_assoc];exact heq2.out),by omega,Hz (by simp),Hz (by have:=hbl.out;simp;omega),hF2⟩
     ·have gb:IntKind.u8.wrap ((n:Int)/65536)=((UInt8.ofNat (n/256^2%256)).toNat:Int):=by
       have:=u8_wrap_div n 2
       simpa using this
      have heq2:bs++UInt8.ofNat (n/256^2%256)::beB 2 n=UInt8.ofNat (m*32+27)::beB 8 n:=heq.out;clear heq;generalize UInt8.ofNat (n/256^2%256)=bb at *
      replace heq2:=Hz heq2;obtain ⟨ao,n0,c0,rfl⟩:=hrow.shape;have hB1:=hF.size;have hr1:Row (wr.alloc (.cells #[.int .u8 (bb.toNat:Int)] 5)) wo.heap.size (.slice ao n0 c0) bs:=World.ownsRow.alloc hrow _;have hrd:Rd (wr.alloc (.cells #[.int .u8 (bb.toNat:Int)] 5)) wr.heap.size 0 [bb]:=fun j hj=>by
       have hj0:j=0:=by simpa using hj
       subst hj0;exact cell_blk (blk_new wr _) 0
      have hB2:wo.heap.size≤(wr.alloc (.cells #[.int .u8 (bb.toNat:Int)] 5)).heap.size:=by simp;omega
      replace hB2:=Hz hB2;have hl2:Hid (bs.length+[bb].length≤140737488355328):=Hz (by have:=hbl.out;simp;omega)
      go_wp2_with (at_builtin;refine wpList_apRow rfl _ _ rfl (B:=wo.heap.size) _ bs [bb] wr.heap.size 0 1 rfl rfl hrd hr1 hB2.out hl2.out ?_)
      intro v' w' hr' hg;have hF2:Fr [] wo w':=((hF.alloc _).grown hg (fun k hk=> .inr (World.ownsRow.lt hr1 k hk).1))
      go_wp2
      go_roundg 2
      case measure=>omega
      case rel=>exact ⟨bs++[bb],by go_num,hr',(show (bs++[bb])++beB 2 n=_ by rw [List.append_assoc];exact heq2.out),by omega,Hz (by simp),Hz (by have:=hbl.out;simp;omega),hF2⟩
     ·have gb:IntKind.u8.wrap ((n:Int)/16777216)=((UInt8.ofNat (n/256^3%256)).toNat:Int):=by
       have:=u8_wrap_div n 3
       simpa using this
      have heq2:bs++UInt8.ofNat (n/256^3%256)::beB 3 n=UInt8.ofNat (m*32+27)::beB 8 n:=heq.out;clear heq;generalize UInt8.ofNat (n/256^3%256)=bb at *
      replace heq2:=Hz heq2;obtain ⟨ao,n0,c0,rfl⟩:=hrow.shape;have hB1:=hF.size;have hr1:Row (wr.alloc (.cells #[.int .u8 (bb.toNat:Int)] 5)) wo.heap.size (.slice ao n0 c0) bs:=World.ownsRow.alloc hrow _;have hrd:Rd (wr.alloc (.cells #[.int .u8 (bb.toNat:Int)] 5)) wr.heap.size 0 [bb]:=fun j hj=>by
       have hj0:j=0:=by simpa using hj
       subst hj0;exact cell_blk (blk_new wr _) 0
      have hB2:wo.heap.size≤(wr.alloc (.cells #[.int .u8 (bb.toNat:Int)] 5)).heap.size:=by simp;omega
      replace hB2:=Hz hB2;have hl2:Hid (bs.length+[bb].length≤140737488355328):=Hz (by have:=hbl.out;simp;omega)
      go_wp2_with (at_builtin;refine wpList_apRow rfl _ _ rfl (B:=wo.heap.size) _ bs [bb] wr.heap.size 0 1 rfl rfl hrd hr1 hB2.out hl2.out ?_)
      intro v' w' hr' hg;have hF2:Fr [] wo w':=((hF.alloc _).grown hg (fun k hk=> .inr (World.ownsRow.lt hr1 k hk).1))
      go_wp2
      go_roundg 3
      case measure=>omega
      case rel=>exact ⟨bs++[bb],by go_num,hr',(show (bs++[bb])++beB 3 n=_ by rw [List.append_assoc];exact heq2.out),by omega,Hz (by simp),Hz (by have:=hbl.out;simp;omega),hF2⟩
     ·have gb:IntKind.u8.wrap ((n:Int)/4294967296)=((UInt8.ofNat (n/256^4%256)).toNat:Int):=by
       have:=u8_wrap_div n 4
       simpa using this
      have heq2:bs++UInt8.ofNat (n/256^4%256)::beB 4 n=UInt8.ofNat (m*32+27)::beB 8 n:=heq.out;clear heq;generalize UInt8.ofNat (n/256^4%256)=bb at *
      replace heq2:=Hz heq2;obtain ⟨ao,n0,c0,rfl⟩:=hrow.shape;have hB1:=hF.size;have hr1:Row (wr.alloc (.cells #[.int .u8 (bb.toNat:Int)] 5)) wo.heap.size (.slice ao n0 c0) bs:=World.ownsRow.alloc hrow _;have hrd:Rd (wr.alloc (.cells #[.int .u8 (bb.toNat:Int)] 5)) wr.heap.size 0 [bb]:=fun j hj=>by
       have hj0:j=0:=by simpa using hj
       subst hj0;exact cell_blk (blk_new wr _) 0
      have hB2:wo.heap.size≤(wr.alloc (.cells #[.int .u8 (bb.toNat:Int)] 5)).heap.size:=by simp;omega
      replace hB2:=Hz hB2;have hl2:Hid (bs.length+[bb].length≤140737488355328):=Hz (by have:=hbl.out;simp;omega)
      go_wp2_with (at_builtin;refine wpList_apRow rfl _ _ rfl (B:=wo.heap.size) _ bs [bb] wr.heap.size 0 1 rfl rfl hrd hr1 hB2.out hl2.out ?_)
      intro v' w' hr' hg;have hF2:Fr [] wo w':=((hF.alloc _).grown hg (fun k hk=> .inr (World.ownsRow.lt hr1 k hk).1))
      go_wp2
      go_roundg 4
      case measure=>omega
      case rel=>exact ⟨bs++[bb],by go_num,hr',(show (bs++[bb])++beB 4 n=_ by rw [List.append_assoc];exact heq2.out),by omega,Hz (by simp),Hz (by have:=hbl.out;simp;omega),hF2⟩
     ·have gb:IntKind.u8.wrap ((n:Int)/1099511627776)=((UInt8.ofNat (n/256^5%256)).toNat:Int):=by
       have:=u8_wrap_div n 5
       simpa using this
      have heq2:bs++UInt8.ofNat (n/256^5%256)::beB 5 n=UInt8.ofNat (m*32+27)::beB 8 n:=heq.out;clear heq;generalize UInt8.ofNat (n/256^5%256)=bb at *
      replace heq2:=Hz heq2;obtain ⟨ao,n0,c0,rfl⟩:=hrow.shape;have hB1:=hF.size;have hr1:Row (wr.alloc (.cells #[.int .u8 (bb.toNat:Int)] 5)) wo.heap.size (.slice ao n0 c0) bs:=World.ownsRow.alloc hrow _;have hrd:Rd (wr.alloc (.cells #[.int .u8 (bb.toNat:Int)] 5)) wr.heap.size 0 [bb]:=fun j hj=>by
       have hj0:j=0:=by simpa using hj
       subst hj0;exact cell_blk (blk_new wr _) 0
      have hB2:wo.heap.size≤(wr.alloc (.cells #[.int .u8 (bb.toNat:Int)] 5)).heap.size:=by simp;omega
      replace hB2:=Hz hB2;have hl2:Hid (bs.length+[bb].length≤140737488355328):=Hz (by have:=hbl.out;simp;omega)
      go_wp2_with (at_builtin;refine wpList_apRow rfl _ _ rfl (B:=wo.heap.size) _ bs [bb] wr.heap.size 0 1 rfl rfl hrd hr1 hB2.out hl2.out ?_)
      intro v' w' hr' hg;have hF2:Fr [] wo w':=((hF.alloc _).grown hg (fun k hk=> .inr (World.ownsRow.lt hr1 k hk).1))
      go_wp2
      go_roundg 5
      case measure=>omega
      case rel=>exact ⟨bs++[bb],by go_num,hr',(show (bs++[bb])++beB 5 n=_ by rw [List.append_assoc];exact heq2.out),by omega,Hz (by simp),Hz (by have:=hbl.out;simp;omega),hF2⟩
     ·have gb:IntKind.u8.wrap ((n:Int)/281474976710656)=((UInt8.ofNat (n/256^6%256)).toNat:Int):=by
       have:=u8_wrap_div n 6
       simpa using this
      have heq2:bs++UInt8.ofNat (n/256^6%256)::beB 6 n=UInt8.ofNat (m*32+27)::beB 8 n:=heq.out;clear heq;generalize UInt8.ofNat (n/256^6%256)=bb at *
      replace heq2:=Hz heq2;obtain ⟨ao,n0,c0,rfl⟩:=hrow.shape;have hB1:=hF.size;have hr1:Row (wr.alloc (.cells #[.int .u8 (bb.toNat:Int)] 5)) wo.heap.size (.slice ao n0 c0) bs:=World.ownsRow.alloc hrow _;have hrd:Rd (wr.alloc (.cells #[.int .u8 (bb.toNat:Int)] 5)) wr.heap.size 0 [bb]:=fun j hj=>by
       have hj0:j=0:=by simpa using hj
       subst hj0;exact cell_blk (blk_new wr _) 0
      have hB2:wo.heap.size≤(wr.alloc (.cells #[.int .u8 (bb.toNat:Int)] 5)).heap.size:=by simp;omega
      replace hB2:=Hz hB2;have hl2:Hid (bs.length+[bb].length≤140737488355328):=Hz (by have:=hbl.out;simp;omega)
      go_wp2_with (at_builtin;refine wpList_apRow rfl _ _ rfl (B:=wo.heap.size) _ bs [bb] wr.heap.size 0 1 rfl rfl hrd hr1 hB2.out hl2.out ?_)
      intro v' w' hr' hg;have hF2:Fr [] wo w':=((hF.alloc _).grown hg (fun k hk=> .inr (World.ownsRow.lt hr1 k hk).1))
      go_wp2
      go_roundg 6
      case measure=>omega
      case rel=>exact ⟨bs++[bb],by go_num,hr',(show (bs++[bb])++beB 6 n=_ by rw [List.append_assoc];exact heq2.out),by omega,Hz (by simp),Hz (by have:=hbl.out;simp;omega),hF2⟩
     ·have gb:IntKind.u8.wrap ((n:Int)/72057594037927936)=((UInt8.ofNat (n/256^7%256)).toNat:Int):=by
       have:=u8_wrap_div n 7
       simpa using this
      have heq2:bs++UInt8.ofNat (n/256^7%256)::beB 7 n=UInt8.ofNat (m*32+27)::beB 8 n:=heq.out;clear heq;generalize UInt8.ofNat (n/256^7%256)=bb at *
      replace heq2:=Hz heq2;obtain ⟨ao,n0,c0,rfl⟩:=hrow.shape;have hB1:=hF.size;have hr1:Row (wr.alloc (.cells #[.int .u8 (bb.toNat:Int)] 5)) wo.heap.size (.slice ao n0 c0) bs:=World.ownsRow.alloc hrow _;have hrd:Rd (wr.alloc (.cells #[.int .u8 (bb.toNat:Int)] 5)) wr.heap.size 0 [bb]:=fun j hj=>by
       have hj0:j=0:=by simpa using hj
       subst hj0;exact cell_blk (blk_new wr _) 0
      have hB2:wo.heap.size≤(wr.alloc (.cells #[.int .u8 (bb.toNat:Int)] 5)).heap.size:=by simp;omega
      replace hB2:=Hz hB2;have hl2:Hid (bs.length+[bb].length≤140737488355328):=Hz (by have:=hbl.out;simp;omega)
      go_wp2_with (at_builtin;refine wpList_apRow rfl _ _ rfl (B:=wo.heap.size) _ bs [bb] wr.heap.size 0 1 rfl rfl hrd hr1 hB2.out hl2.out ?_)
      intro v' w' hr' hg;have hF2:Fr [] wo w':=((hF.alloc _).grown hg (fun k hk=> .inr (World.ownsRow.lt hr1 k hk).1))
      go_wp2
      go_roundg 7
      case measure=>omega
      case rel=>exact ⟨bs++[bb],by go_num,hr',(show (bs++[bb])++beB 7 n=_ by rw [List.append_assoc];exact heq2.out),by omega,Hz (by simp),Hz (by have:=hbl.out;simp;omega),hF2⟩
 ·have t1: ¬(form:Int)≤0:=by omega
  go_wp2
  go_loopg [8,9] 3 (fun g v8 v9 wr=> ∃j:Nat,v8= .int .i64 ((2^j:Nat):Int)∧v9= .int .i64 ((j+1:Nat):Int)∧j+g=3∧wr=w)
  case atStart=>exact ⟨0,by go_num,by go_num,by omega,rfl⟩
  case round=>
   obtain ⟨j,rfl,rfl,hj,rfl⟩:=hrel;have hj4:j=0∨j=1∨j=2∨j=3:=by omega
   rcases hj4 with rfl|rfl|rfl|rfl
   ·obtain rfl:gk=3:=by omega
    by_cases c1:(1:Int)<(form:Int)
    ·go_wp2
     go_roundg 2
     case measure=>omega
     case rel=>exact ⟨1,by go_num,by go_num,by omega,rfl⟩
    ·have c2:(0:Int)<(n:Int)/256:=by omega
     go_wp2
     go_roundg 2
     case measure=>omega
     case rel=>exact ⟨1,by go_num,by go_num,by omega,rfl⟩
   ·obtain rfl:gk=2:=by omega
    by_cases c1:(2:Int)<(form:Int)
    ·go_wp2
     go_roundg 1
     case measure=>omega
     case rel=>exact ⟨2,by go_num,by go_num,by omega,rfl⟩
    ·have c2:(0:Int)<(n:Int)/65536:=by omega
     go_wp2
     go_roundg 1
     case measure=>omega
     case rel=>exact ⟨2,by go_num,by go_num,by omega,rfl⟩
   ·obtain rfl:gk=1:=by omega
    by_cases c1:(3:Int)<(form:Int)
    ·go_wp2
     go_roundg 0
     case measure=>omega
     case rel=>exact ⟨3,by go_num,by go_num,by omega,rfl⟩
    ·have c2:(0:Int)<(n:Int)/4294967296:=by omega
     go_wp2
     go_roundg 0
     case measure=>omega
     case rel=>exact ⟨3,by go_num,by go_num,by omega,rfl⟩
   ·obtain rfl:gk=0:=by omega
    go_wp2;obtain ⟨wo,rfl⟩: ∃wo:World,wo=wr:=⟨_,rfl⟩
    go_loopg [11,12] 8 (fun k v11 v12 wr=> ∃bs,v12= .int .i64 ((k:Int)-1)∧Row wr wo.heap.size v11 bs∧Hid (bs++beB k n=UInt8.ofNat (m*32+27)::beB 8 n)∧k≤8∧Hid (bs≠[])∧Hid (bs.length≤100-k)∧Fr [] wo wr)
    case atStart=>
     refine ⟨[UInt8.ofNat (m*32+27)],by go_num,?_,rfl,Nat.le_refl _,Hz (by simp),Hz (by simp),((Fr.refl [] wo).alloc _).alloc _⟩
     refine row_one _ (by simp) (by simp) _ _ ?_
     have:(m*32+27)%256=m*32+27:=by omega
     simp [this]
    case round=>
     obtain ⟨bs,rfl,hrow,heq,hkn,hne,hbl,hF⟩:=hrel;have hk9:gk=0∨gk=1∨gk=2∨gk=3∨gk=4∨gk=5∨gk=6∨gk=7∨gk=8:=by omega
     rcases hk9 with rfl|rfl|rfl|rfl|rfl|rfl|rfl|rfl|rfl
     ·obtain ⟨g,cap,rfl,hrd⟩:=hrow.atR hne.out;have ht:=toStr hrd cap;have hfin:UInt8.ofNat (m*32+27)::beB 8 n=bs:=by rw [←heq.out];simp [beB]
      go_wp2;go_ret
      exact ⟨by rw [hfin];rfl,hF⟩
     ·have gb:IntKind.u8.wrap ((n:Int))=((UInt8.ofNat (n/256^0%256)).toNat:Int):=by
       have:=u8_wrap_div n 0
       simpa using this
      have heq2:bs++UInt8.ofNat (n/256^0%256)::beB 0 n=UInt8.ofNat (m*32+27)::beB 8 n:=heq.out;clear heq;generalize UInt8.ofNat (n/256^0%256)=bb at *
      replace heq2:=Hz heq2;obtain ⟨ao,n0,c0,rfl⟩:=hrow.shape;have hB1:=hF.size;have hr1:Row (wr.alloc (.cells #[.int .u8 (bb.toNat:Int)] 5)) wo.heap.size (.slice ao n0 c0) bs:=World.ownsRow.alloc hrow _;have hrd:Rd (wr.alloc (.cells #[.int .u8 (bb.toNat:Int)] 5)) wr.heap.size 0 [bb]:=fun j hj=>by
       have hj0:j=0:=by simpa using hj
       subst hj0;exact cell_blk (blk_new wr _) 0
      have hB2:wo.heap.size≤(wr.alloc (.cells #[.int .u8 (bb.toNat:Int)] 5)).heap.size:=by simp;omega
      replace hB2:=Hz hB2;have hl2:Hid (bs.length+[bb].length≤140737488355328):=Hz (by have:=hbl.out;simp;omega)
      go_wp2_with (at_builtin;refine wpList_apRow rfl _ _ rfl (B:=wo.heap.size) _ bs [bb] wr.heap.size 0 1 rfl rfl hrd hr1 hB2.out hl2.out ?_)
      intro v' w' hr' hg;have hF2:Fr [] wo w':=((hF.alloc _).grown hg (fun k hk=> .inr (World.ownsRow.lt hr1 k hk).1))
      go_wp2
      go_roundg 0
      case measure=>omega
      case rel=>exact ⟨bs++[bb],by go_num,hr',(show (bs++[bb])++beB 0 n=_ by rw [List.append_assoc];exact heq2.out),by omega,Hz (by simp),Hz (by have:=hbl.out;simp;omega),hF2⟩
     ·have gb:IntKind.u8.wrap ((n:Int)/256)=((UInt8.ofNat (n/256^1%256)).toNat:Int):=by
       have:=u8_wrap_div n 1
       simpa using this
      have heq2:bs++UInt8.ofNat (n/256^1%256)::beB 1 n=UInt8.ofNat (m*32+27)::beB 8 n:=heq.out;clear heq;generalize UInt8.ofNat (n/256^1%256)=bb at *
      replace heq2:=Hz heq2;obtain ⟨ao,n0,c0,rfl⟩:=hrow.shape;have hB1:=hF.size;have hr1:Row (wr.alloc (.cells #[.int .u8 (bb.toNat:Int)] 5)) wo.heap.size (.slice ao n0 c0) bs:=World.ownsRow.alloc hrow _;have hrd:Rd (wr.alloc (.cells #[.int .u8 (bb.toNat:Int)] 5)) wr.heap.size 0 [bb]:=fun j hj=>by
       have hj0:j=0:=by simpa using hj
       subst hj0;exact cell_blk (blk_new wr _) 0
      have hB2:wo.heap.size≤(wr.alloc (.cells #[.int .u8 (bb.toNat:Int)] 5)).heap.size:=by simp;omega
      replace hB2:=Hz hB2;have hl2:Hid (bs.length+[bb].length≤140737488355328):=Hz (by have:=hbl.out;simp;omega)
      go_wp2_with (at_builtin;refine wpList_apRow rfl _ _ rfl (B:=wo.heap.size) _ bs [bb] wr.heap.size 0 1 rfl rfl hrd hr1 hB2.out hl2.out ?_)
      intro v' w' hr' hg;have hF2:Fr [] wo w':=((hF.alloc _).grown hg (fun k hk=> .inr (World.ownsRow.lt hr1 k hk).1))
      go_wp2
      go_roundg 1
      case measure=>omega
      case rel=>exact ⟨bs++[bb],by go_num,hr',(show (bs++[bb])++beB 1 n=_ by rw [List.append_assoc];exact heq2.out),by omega,Hz (by simp),Hz (by have:=hbl.out;simp;omega),hF2⟩
     ·have gb:IntKind.u8.wrap ((n:Int)/65536)=((UInt8.ofNat (n/256^2%256)).toNat:Int):=by
       have:=u8_wrap_div n 2
       simpa using this
      have heq2:bs++UInt8.ofNat (n/256^2%256)::beB 2 n=UInt8.ofNat (m*32+27)::beB 8 n:=heq.out;clear heq;generalize UInt8.ofNat (n/256^2%256)=bb at *
      replace heq2:=Hz heq2;obtain ⟨ao,n0,c0,rfl⟩:=hrow.shape;have hB1:=hF.size;have hr1:Row (wr.alloc (.cells #[.int .u8 (bb.toNat:Int)] 5)) wo.heap.size (.slice ao n0 c0) bs:=World.ownsRow.alloc hrow _;have hrd:Rd (wr.alloc (.cells #[.int .u8 (bb.toNat:Int)] 5)) wr.heap.size 0 [bb]:=fun j hj=>by
       have hj0:j=0:=by simpa using hj
       subst hj0;exact cell_blk (blk_new wr _) 0
      have hB2:wo.heap.size≤(wr.alloc (.cells #[.int .u8 (bb.toNat:Int)] 5)).heap.size:=by simp;omega
      replace hB2:=Hz hB2;have hl2:Hid (bs.length+[bb].length≤140737488355328):=Hz (by have:=hbl.out;simp;omega)
      go_wp2_with (at_builtin;refine wpList_apRow rfl _ _ rfl (B:=wo.heap.size) _ bs [bb] wr.heap.size 0 1 rfl rfl hrd hr1 hB2.out hl2.out ?_)
      intro v' w' hr' hg;have hF2:Fr [] wo w':=((hF.alloc _).grown hg (fun k hk=> .inr (World.ownsRow.lt hr1 k hk).1))
      go_wp2
      go_roundg 2
      case measure=>omega
      case rel=>exact ⟨bs++[bb],by go_num,hr',(show (bs++[bb])++beB 2 n=_ by rw [List.append_assoc];exact heq2.out),by omega,Hz (by simp),Hz (by have:=hbl.out;simp;omega),hF2⟩
     ·have gb:IntKind.u8.wrap ((n:Int)/16777216)=((UInt8.ofNat (n/256^3%256)).toNat:Int):=by
       have:=u8_wrap_div n 3
       simpa using this
      have heq2:bs++UInt8.ofNat (n/256^3%256)::beB 3 n=UInt8.ofNat (m*32+27)::beB 8 n:=heq.out;clear heq;generalize UInt8.ofNat (n/256^3%256)=bb at *
      replace heq2:=Hz heq2;obtain ⟨ao,n0,c0,rfl⟩:=hrow.shape;have hB1:=hF.size;have hr1:Row (wr.alloc (.cells #[.int .u8 (bb.toNat:Int)] 5)) wo.heap.size (.slice ao n0 c0) bs:=World.ownsRow.alloc hrow _;have hrd:Rd (wr.alloc (.cells #[.int .u8 (bb.toNat:Int)] 5)) wr.heap.size 0 [bb]:=fun j hj=>by
       have hj0:j=0:=by simpa using hj
       subst hj0;exact cell_blk (blk_new wr _) 0
      have hB2:wo.heap.size≤(wr.alloc (.cells #[.int .u8 (bb.toNat:Int)] 5)).heap.size:=by simp;omega
      replace hB2:=Hz hB2;have hl2:Hid (bs.length+[bb].length≤140737488355328):=Hz (by have:=hbl.out;simp;omega)
      go_wp2_with (at_builtin;refine wpList_apRow rfl _ _ rfl (B:=wo.heap.size) _ bs [bb] wr.heap.size 0 1 rfl rfl hrd hr1 hB2.out hl2.out ?_)
      intro v' w' hr' hg;have hF2:Fr [] wo w':=((hF.alloc _).grown hg (fun k hk=> .inr (World.ownsRow.lt hr1 k hk).1))
      go_wp2
      go_roundg 3
      case measure=>omega
      case rel=>exact ⟨bs++[bb],by go_num,hr',(show (bs++[bb])++beB 3 n=_ by rw [List.append_assoc];exact heq2.out),by omega,Hz (by simp),Hz (by have:=hbl.out;simp;omega),hF2⟩
     ·have gb:IntKind.u8.wrap ((n:Int)/4294967296)=((UInt8.ofNat (n/256^4%256)).toNat:Int):=by
       have:=u8_wrap_div n 4
       simpa using this
      have heq2:bs++UInt8.ofNat (n/256^4%256)::beB 4 n=UInt8.ofNat (m*32+27)::beB 8 n:=heq.out;clear heq;generalize UInt8.ofNat (n/256^4%256)=bb at *
      replace heq2:=Hz heq2;obtain ⟨ao,n0,c0,rfl⟩:=hrow.shape;have hB1:=hF.size;have hr1:Row (wr.alloc (.cells #[.int .u8 (bb.toNat:Int)] 5)) wo.heap.size (.slice ao n0 c0) bs:=World.ownsRow.alloc hrow _;have hrd:Rd (wr.alloc (.cells #[.int .u8 (bb.toNat:Int)] 5)) wr.heap.size 0 [bb]:=fun j hj=>by
       have hj0:j=0:=by simpa using hj
       subst hj0;exact cell_blk (blk_new wr _) 0
      have hB2:wo.heap.size≤(wr.alloc (.cells #[.int .u8 (bb.toNat:Int)] 5)).heap.size:=by simp;omega
      replace hB2:=Hz hB2;have hl2:Hid (bs.length+[bb].length≤140737488355328):=Hz (by have:=hbl.out;simp;omega)
      go_wp2_with (at_builtin;refine wpList_apRow rfl _ _ rfl (B:=wo.heap.size) _ bs [bb] wr.heap.size 0 1 rfl rfl hrd hr1 hB2.out hl2.out ?_)
      intro v' w' hr' hg;have hF2:Fr [] wo w':=((hF.alloc _).grown hg (fun k hk=> .inr (World.ownsRow.lt hr1 k hk).1))
      go_wp2
      go_roundg 4
      case measure=>omega
      case rel=>exact ⟨bs++[bb],by go_num,hr',(show (bs++[bb])++beB 4 n=_ by rw [List.append_assoc];exact heq2.out),by omega,Hz (by simp),Hz (by have:=hbl.out;simp;omega),hF2⟩
     ·have gb:IntKind.u8.wrap ((n:Int)/1099511627776)=((UInt8.ofNat (n/256^5%256)).toNat:Int):=by
       have:=u8_wrap_div n 5
       simpa using this
      have heq2:bs++UInt8.ofNat (n/256^5%256)::beB 5 n=UInt8.ofNat (m*32+27)::beB 8 n:=heq.out;clear heq;generalize UInt8.ofNat (n/256^5%256)=bb at *
      replace heq2:=Hz heq2;obtain ⟨ao,n0,c0,rfl⟩:=hrow.shape;have hB1:=hF.size;have hr1:Row (wr.alloc (.cells #[.int .u8 (bb.toNat:Int)] 5)) wo.heap.size (.slice ao n0 c0) bs:=World.ownsRow.alloc hrow _;have hrd:Rd (wr.alloc (.cells #[.int .u8 (bb.toNat:Int)] 5)) wr.heap.size 0 [bb]:=fun j hj=>by
       have hj0:j=0:=by simpa using hj
       subst hj0;exact cell_blk (blk_new wr _) 0
      have hB2:wo.heap.size≤(wr.alloc (.cells #[.int .u8 (bb.toNat:Int)] 5)).heap.size:=by simp;omega
      replace hB2:=Hz hB2;have hl2:Hid (bs.length+[bb].length≤140737488355328):=Hz (by have:=hbl.out;simp;omega)
      go_wp2_with (at_builtin;refine wpList_apRow rfl _ _ rfl (B:=wo.heap.size) _ bs [bb] wr.heap.size 0 1 rfl rfl hrd hr1 hB2.out hl2.out ?_)
      intro v' w' hr' hg;have hF2:Fr [] wo w':=((hF.alloc _).grown hg (fun k hk=> .inr (World.ownsRow.lt hr1 k hk).1))
      go_wp2
      go_roundg 5
      case measure=>omega
      case rel=>exact ⟨bs++[bb],by go_num,hr',(show (bs++[bb])++beB 5 n=_ by rw [List.append_assoc];exact heq2.out),by omega,Hz (by simp),Hz (by have:=hbl.out;simp;omega),hF2⟩
     ·have gb:IntKind.u8.wrap ((n:Int)/281474976710656)=((UInt8.ofNat (n/256^6%256)).toNat:Int):=by
       have:=u8_wrap_div n 6
       simpa using this
      have heq2:bs++UInt8.ofNat (n/256^6%256)::beB 6 n=UInt8.ofNat (m*32+27)::beB 8 n:=heq.out;clear heq;generalize UInt8.ofNat (n/256^6%256)=bb at *
      replace heq2:=Hz heq2;obtain ⟨ao,n0,c0,rfl⟩:=hrow.shape;have hB1:=hF.size;have hr1:Row (wr.alloc (.cells #[.int .u8 (bb.toNat:Int)] 5)) wo.heap.size (.slice ao n0 c0) bs:=World.ownsRow.alloc hrow _;have hrd:Rd (wr.alloc (.cells #[.int .u8 (bb.toNat:Int)] 5)) wr.heap.size 0 [bb]:=fun j hj=>by
       have hj0:j=0:=by simpa using hj
       subst hj0;exact cell_blk (blk_new wr _) 0
      have hB2:wo.heap.size≤(wr.alloc (.cells #[.int .u8 (bb.toNat:Int)] 5)).heap.size:=by simp;omega
      replace hB2:=Hz hB2;have hl2:Hid (bs.length+[bb].length≤140737488355328):=Hz (by have:=hbl.out;simp;omega)
      go_wp2_with (at_builtin;refine wpList_apRow rfl _ _ rfl (B:=wo.heap.size) _ bs [bb] wr.heap.size 0 1 rfl rfl hrd hr1 hB2.out hl2.out ?_)
      intro v' w' hr' hg;have hF2:Fr [] wo w':=((hF.alloc _).grown hg (fun k hk=> .inr (World.ownsRow.lt hr1 k hk).1))
      go_wp2
      go_roundg 6
      case measure=>omega
      case rel=>exact ⟨bs++[bb],by go_num,hr',(show (bs++[bb])++beB 6 n=_ by rw [List.append_assoc];exact heq2.out),by omega,Hz (by simp),Hz (by have:=hbl.out;simp;omega),hF2⟩
     ·have gb:IntKind.u8.wrap ((n:Int)/72057594037927936)=((UInt8.ofNat (n/256^7%256)).toNat:Int):=by
       have:=u8_wrap_div n 7
       simpa using this
      have heq2:bs++UInt8.ofNat (n/256^7%256)::beB 7 n=UInt8.ofNat (m*32+27)::beB 8 n:=heq.out;clear heq;generalize UInt8.ofNat (n/256^7%256)=bb at *
      replace heq2:=Hz heq2;obtain ⟨ao,n0,c0,rfl⟩:=hrow.shape;have hB1:=hF.size;have hr1:Row (wr.alloc (.cells #[.int .u8 (bb.toNat:Int)] 5)) wo.heap.size (.slice ao n0 c0) bs:=World.ownsRow.alloc hrow _;have hrd:Rd (wr.alloc (.cells #[.int .u8 (bb.toNat:Int)] 5)) wr.heap.size 0 [bb]:=fun j hj=>by
       have hj0:j=0:=by simpa using hj
       subst hj0;exact cell_blk (blk_new wr _) 0
      have hB2:wo.heap.size≤(wr.alloc (.cells #[.int .u8 (bb.toNat:Int)] 5)).heap.size:=by simp;omega
      replace hB2:=Hz hB2;have hl2:Hid (bs.length+[bb].length≤140737488355328):=Hz (by have:=hbl.out;simp;omega)
      go_wp2_with (at_builtin;refine wpList_apRow rfl _ _ rfl (B:=wo.heap.size) _ bs [bb] wr.heap.size 0 1 rfl rfl hrd hr1 hB2.out hl2.out ?_)
      intro v' w' hr' hg;have hF2:Fr [] wo w':=((hF.alloc _).grown hg (fun k hk=> .inr (World.ownsRow.lt hr1 k hk).1))
      go_wp2
      go_roundg 7
      case measure=>omega
      case rel=>exact ⟨bs++[bb],by go_num,hr',(show (bs++[bb])++beB 7 n=_ by rw [List.append_assoc];exact heq2.out),by omega,Hz (by simp),Hz (by have:=hbl.out;simp;omega),hF2⟩
end
end Go.Proofs.YteodinhkhhaafaaGreatDoor
