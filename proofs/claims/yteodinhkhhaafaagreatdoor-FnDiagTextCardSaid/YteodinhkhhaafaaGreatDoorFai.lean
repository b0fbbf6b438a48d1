/- Walks of the program, and plain facts. -/
import Derived.Test.YteodinhkhhaafaaGreatDoorFaf
set_option linter.unusedVariables false
set_option linter.unusedSimpArgs false
set_option maxRecDepth 100000
set_option maxHeartbeats 6400000
namespace Go.Proofs.YteodinhkhhaafaaGreatDoor
section
set_option exponentiation.threshold 3000
open Go.RowKit
theorem push2_last (h:Array Obj) (a b:Obj):((h.push a).push b)[h.size+1]? =some b:=by
 have e:h.size+1=(h.push a).size:=by simp
 rw [e];exact Array.getElem?_push_size
theorem push2_first (h:Array Obj) (a b:Obj):((h.push a).push b)[h.size]? =some a:=by
 rw [Array.getElem?_push,if_neg (by simp),Array.getElem?_push,if_pos rfl]
theorem Rd.push {w W:World} {b o:Nat} {s:List UInt8} {ob:Obj} (h:Rd w b o s) (e:W.heap=w.heap.push ob):Rd W b o s:=fun j hj=>by
 have h1:=h j hj;have hb:b<w.heap.size:=World.block_lt_of_cell? w ⟨b,o+j,none⟩ h1;exact (World.cell?_of_block (w:=w) (by rw [e];exact Below.heap_alloc w ob b hb)).trans h1
theorem row_empty {w W:World} {B:Nat} (e:W.heap=w.heap.push (.cells #[] 5 (0,0))) (hB:B≤w.heap.size):Row W B (.slice (some ⟨w.heap.size,0,none⟩) 0 0) []:=by
 refine ⟨rfl,.inr ⟨w.heap.size,0,#[],rfl,hB,by rw [e];simp,Nat.le_refl _,by decide,rfl,rfl⟩⟩
theorem dec_store {w:World} {B q:Nat} {v:Value} {d:List Nat} (hD:w.heap[q]? =some (.cells #[.slice none 0 0,.int .i64 0] 330 (0,0))) (hr:Row w B v (bt d)) (dp:Int):DecP ((w.setCell ⟨q,0,none⟩ v).setCell ⟨q,1,none⟩ (.int .i64 dp)) q d dp:=by
 have h1:=blk_setCell (blk_setCell hD 0 v) 1 (.int .i64 dp);refine ⟨v,by simpa using h1,?_⟩
 rcases hr.2 with ⟨hv,h0⟩|⟨g,cap,cur,rfl,hg,hh,hc,r⟩
 ·exact .inl ⟨List.eq_nil_of_length_eq_zero (by rw [bt_length] at h0;exact h0),hv⟩
 ·have hgq:g≠q:=by
   rintro rfl;rw [hh] at hD;injection hD with e
   injection e with e1 e2
   exact absurd e2 (by decide)
  refine .inr ⟨g,0,cap,by rw [bt_length],by rw [bt_length] at hc;exact hc,hgq,by simpa [World.setCell] using blk_lt' hh,?_⟩
  exact (Rd.of_own hr).fr (S:=[q]) (((Fr.refl [q] w).setCell (p:=⟨q,0,none⟩) (.inl (by simp)) _).setCell (p:=⟨q,1,none⟩) (.inl (by simp)) _) (by simpa using hgq)
theorem dec_new {w:World} {B:Nat} {v:Value} {d:List Nat} (hr:Row w B v (bt d)) (dp:Int):DecP (w.alloc (.cells #[v,.int .i64 dp] 330 (0,0))) w.heap.size d dp:=by
 refine ⟨v,blk_new w _,?_⟩
 rcases hr.2 with ⟨hv,h0⟩|⟨g,cap,cur,rfl,hg,hh,hc,r⟩
 ·exact .inl ⟨List.eq_nil_of_length_eq_zero (by rw [bt_length] at h0;exact h0),hv⟩
 ·have hl:=blk_lt' hh;refine .inr ⟨g,0,cap,by rw [bt_length],by rw [bt_length] at hc;exact hc,by omega,by simp;omega,?_⟩
  exact (Rd.of_own hr).fr (S:=[]) ((Fr.refl [] w).alloc _) (by simp)
def DecO (w:World) (p:Nat) (r:List Nat×Int) (e:Ending) (w':World):Prop:= ∃p',e= .returned (.pointer (some ⟨p',0,none⟩))∧DecP w' p' r.1 r.2∧Fr [] w w'
theorem downD {w:World} {p:Nat} {d:List Nat} {dp:Int} (h:DecP w p d dp) (hN:NormD d dp) (hl:d.length≤100000) (n:Nat) (hn:n≤100000):
  Calls Tryz.prog 218 #[.pointer (some ⟨p,0,none⟩),.int .i64 (n:Int)] w (DecO w p (downF d dp n)):=by
 obtain ⟨v,hb,hs⟩:=h;have c0:=cell_blk hb 0;have c1:=cell_blk hb 1;simp only [List.getElem?_toArray,List.getElem?_cons_zero,List.getElem?_cons_succ] at c0 c1;obtain ⟨ao,c,rfl⟩:=hs.shape;unfold downF;by_cases hnl:d.length≤n
 ·rw [if_pos hnl];have t0:(d.length:Int)≤(n:Int):=by omega
  replace hb:=Hz hb;replace hs:=Hz hs;clear hnl;go_enter Tryz.func218,Tryz.ntmps218
  go_wp2;go_ret
  exact ⟨p,rfl,⟨_,hb.out,hs.out⟩,Fr.refl _ _⟩
 ·rw [if_neg hnl];have t0: ¬(d.length:Int)≤(n:Int):=by omega
  rcases hs with ⟨h0,_⟩|⟨b,off,c2,hv,hc,hbp,hbl,hrd⟩
  ·rw [h0] at hnl;simp at hnl
  ·injection hv with h1 h2 h3
   subst h1 h3;have htl:(bt (d.take n)).length=n:=by rw [bt_length];simp;omega
   have hr1:Rd w b off (bt (d.take n)):=by rw [bt_take];exact hrd.take n
   have hdig: ∀x,x∈d.take n→x<10:=fun x hx=>hN.lt x (List.mem_of_mem_take hx)
   have KT:=Hz (fun (W:World) (q:Nat) (hDD:DecP W q (d.take n) dp)=>trim hDD hdig (by simp;omega))
   have hmax:(if (n:Int)<0 then (0:Int) else (n:Int))=(n:Int):=if_neg (by omega)
   have hmax2:(0:Int)≤(n:Int):=by omega
   have s1:(n:Int)≤(c:Int):=by omega
   replace hrd:=Hz hrd;replace hN:=Hz hN;replace hb:=Hz hb;clear hnl;obtain ⟨bs,hbs⟩: ∃bs,bs=bt (d.take n):=⟨_,rfl⟩;rw [←hbs] at htl hr1;have hll:([]:List UInt8).length+bs.length≤140737488355328:=by simp only [List.length_nil];omega
   have F1:Fr [] w (w.alloc (.cells #[] 5 (0,0))):=(Fr.refl [] w).alloc _;have F2:Fr [] w ((w.alloc (.cells #[] 5 (0,0))).alloc (.cells #[.slice none 0 0,.int .i64 0] 330 (0,0))):=F1.alloc _;have F3:Fr [] w (w.alloc (.cells #[.slice none 0 0,.int .i64 0] 330 (0,0))):=(Fr.refl [] w).alloc _;have F4:Fr [] w ((w.alloc (.cells #[.slice none 0 0,.int .i64 0] 330 (0,0))).alloc (.cells #[] 5 (0,0))):=F3.alloc _;have FA:Fr [] w (w.alloc (.cells #[] 5 (0,0))).drew:=F1.drewN 1;have FB:Fr [] w ((w.alloc (.cells #[] 5 (0,0))).alloc (.cells #[.slice none 0 0,.int .i64 0] 330 (0,0))).drew:=F2.drewN 1;have FC:Fr [] w ((w.alloc (.cells #[.slice none 0 0,.int .i64 0] 330 (0,0))).alloc (.cells #[] 5 (0,0))).drew:=F4.drewN 1;have zA:=Hz FA.size;have zB:=Hz FB.size;have zC:=Hz FC.size;have sA:Hid (Src (w.alloc (.cells #[] 5 (0,0))).drew (.slice (some ⟨b,off,none⟩) n c) bs):=Hz (.inr ⟨b,off,c,by rw [htl],hr1.fr FA (by simp)⟩)
   have sB:Hid (Src ((w.alloc (.cells #[] 5 (0,0))).alloc (.cells #[.slice none 0 0,.int .i64 0] 330 (0,0))).drew (.slice (some ⟨b,off,none⟩) n c) bs):=Hz (.inr ⟨b,off,c,by rw [htl],hr1.fr FB (by simp)⟩)
   have sC:Hid (Src ((w.alloc (.cells #[.slice none 0 0,.int .i64 0] 330 (0,0))).alloc (.cells #[] 5 (0,0))).drew (.slice (some ⟨b,off,none⟩) n c) bs):=Hz (.inr ⟨b,off,c,by rw [htl],hr1.fr FC (by simp)⟩)
   have rA:Hid (Row (w.alloc (.cells #[] 5 (0,0))).drew w.heap.size (.slice (some ⟨w.heap.size,0,none⟩) 0 0) []):=Hz (row_empty rfl (Nat.le_refl _));have rB:Hid (Row ((w.alloc (.cells #[] 5 (0,0))).alloc (.cells #[.slice none 0 0,.int .i64 0] 330 (0,0))).drew w.heap.size (.slice (some ⟨w.heap.size,0,none⟩) 0 0) []):=Hz (rA.out.push rfl);have rC:Hid (Row ((w.alloc (.cells #[.slice none 0 0,.int .i64 0] 330 (0,0))).alloc (.cells #[] 5 (0,0))).drew w.heap.size (.slice (some ⟨w.heap.size+1,0,none⟩) 0 0) []):=Hz (by have:=row_empty (w:=w.alloc (.cells #[.slice none 0 0,.int .i64 0] 330 (0,0))) (W:=((w.alloc (.cells #[.slice none 0 0,.int .i64 0] 330 (0,0))).alloc (.cells #[] 5 (0,0))).drew) (B:=w.heap.size) rfl F3.size;simpa using this)
   have dB:Hid (((w.alloc (.cells #[] 5 (0,0))).alloc (.cells #[.slice none 0 0,.int .i64 0] 330 (0,0))).drew.heap[w.heap.size+1]? =some (.cells #[.slice none 0 0,.int .i64 0] 330 (0,0))):=Hz (push2_last _ _ _);have dC:Hid (((w.alloc (.cells #[.slice none 0 0,.int .i64 0] 330 (0,0))).alloc (.cells #[] 5 (0,0))).drew.heap[w.heap.size]? =some (.cells #[.slice none 0 0,.int .i64 0] 330 (0,0))):=Hz (push2_first _ _ _);have c01:=F1.cell c0 (by simp)
   have c11:=F1.cell c1 (by simp)
   have c02:=F2.cell c0 (by simp)
   have c12:=F2.cell c1 (by simp)
   have c03:=F3.cell c0 (by simp)
   have c13:=F3.cell c1 (by simp)
   have c04:=F4.cell c0 (by simp)
   have c14:=F4.cell c1 (by simp)
   have KEEP:=Hz (fun (W:World) (hf:Fr [] w W)=>(⟨hf.cell c0 (by simp),hf.cell c1 (by simp)⟩:W.cell? ⟨p,0,none⟩=some (.slice (some ⟨b,off,none⟩) d.length c)∧W.cell? ⟨p,1,none⟩=some (.int .i64 dp)))
   replace hr1:=Hz hr1;replace hbs:=Hz hbs;replace F1:=Hz F1;replace F2:=Hz F2;replace F3:=Hz F3;replace F4:=Hz F4;go_enter Tryz.func218,Tryz.ntmps218
   go_wp2
   go_region_held3 (fun w'=>w'.cell? ⟨p,0,none⟩=some (.slice (some ⟨b,off,none⟩) d.length c)∧w'.cell? ⟨p,1,none⟩=some (.int .i64 dp)) (first|exact KEEP.out _ FA|exact KEEP.out _ FB|exact KEEP.out _ FC|exact KEEP.out _ F1.out|exact KEEP.out _ F2.out|exact KEEP.out _ F3.out|exact KEEP.out _ F4.out|exact KEEP.out _ hFA|exact KEEP.out _ (hFA.alloc _)|exact KEEP.out _ ((hFA.setCell (.inr (by simp)) _).setCell (.inr (by simp)) _)|exact KEEP.out _ (((hFA.alloc _).setCell (.inr hFA.size) _).setCell (.inr hFA.size) _)|go_keep) (first|(refine step_apSrc rfl (.tmp 14) (.tmp 21) rfl (B:=w.heap.size) _ [] bs (.slice (some ⟨b,off,none⟩) n c) (by simp [Act.eval,Act.put]) (by simp [Act.eval,Act.put]) sA.out rA.out zA.out hll ?_;intro v' w' hr' hg;obtain ⟨ao',n',c',rfl⟩:=hr'.shape;have hFA:=FA.grown hg (by intro k hk;right;simp [Value.ownBlock] at hk;omega);have c1'':=hFA.cell c1 (by simp);have c1a:=(hFA.alloc (.cells #[.slice none 0 0,.int .i64 0] 330 (0,0))).cell c1 (by simp);replace hr':=Hz hr';replace hg:=Hz hg)|(refine step_apSrc rfl (.tmp 14) (.tmp 21) rfl (B:=w.heap.size) _ [] bs (.slice (some ⟨b,off,none⟩) n c) (by simp [Act.eval,Act.put]) (by simp [Act.eval,Act.put]) sB.out rB.out zB.out hll ?_;intro v' w' hr' hg;obtain ⟨ao',n',c',rfl⟩:=hr'.shape;have hFA:=FB.grown hg (by intro k hk;right;simp [Value.ownBlock] at hk;omega);have c1'':=hFA.cell c1 (by simp);have hD:=((Fr.refl [w.heap.size] _).grown hg (by intro k hk;left;simp [Value.ownBlock] at hk;simp;omega)).blk dB.out (by simp);have x0:=cell_blk hD 0;have x1:=cell_blk hD 1;have y0:=frozen_blk hD 0;have y1:=frozen_blk hD 1;simp only [List.getElem?_toArray,List.getElem?_cons_zero,List.getElem?_cons_succ] at x0 x1;replace hD:=Hz hD;replace hr':=Hz hr';replace hg:=Hz hg)|(refine step_apSrc rfl (.tmp 14) (.tmp 21) rfl (B:=w.heap.size) _ [] bs (.slice (some ⟨b,off,none⟩) n c) (by simp [Act.eval,Act.put]) (by simp [Act.eval,Act.put]) sC.out rC.out zC.out hll ?_;intro v' w' hr' hg;obtain ⟨ao',n',c',rfl⟩:=hr'.shape;have hFA:=FC.grown hg (by intro k hk;right;simp [Value.ownBlock] at hk;omega);have c1'':=hFA.cell c1 (by simp);have hD:=((Fr.refl [w.heap.size+1] _).grown hg (by intro k hk;left;simp [Value.ownBlock] at hk;simp;omega)).blk dC.out (by simp);have x0:=cell_blk hD 0;have x1:=cell_blk hD 1;have y0:=frozen_blk hD 0;have y1:=frozen_blk hD 1;simp only [List.getElem?_toArray,List.getElem?_cons_zero,List.getElem?_cons_succ] at x0 x1;replace hD:=Hz hD;replace hr':=Hz hr';replace hg:=Hz hg))
   all_goals (have hrr:=hr'.out;rw [List.nil_append,hbs.out] at hrr;replace hrr:=Hz hrr)
   all_goals go_wp2_with fail
   all_goals (refine (KT.out _ _ (by first|exact dec_store hD.out hrr.out dp|exact dec_new hrr.out dp)).mono ?_;rintro e w1 ⟨rfl,hd1,hf1⟩)
   all_goals go_wp2
   all_goals go_ret
   all_goals (refine ⟨_,rfl,hd1,?_⟩)
   all_goals (first|exact ((hFA.setCell (.inr (by simp)) _).setCell (.inr (by simp)) _).then_ hf1 (by simp)|exact (hFA.alloc _).then_ hf1 (by simp;exact hFA.size))
end
section
set_option exponentiation.threshold 3000
open Go.RowKit
theorem dgi_lt {d:List Nat} (hd: ∀x,x∈d→x<10) (i:Int):dgi d i<10:=by
 by_cases h:0≤i
 ·obtain ⟨j,rfl⟩: ∃j:Nat,i=(j:Int):=⟨i.toNat,by omega⟩
  rw [dgi_nat];have:=dgt_le hd j;omega
 ·have:dgi d i=0:=if_pos (by omega)
  omega
theorem ch_nat {n:Nat} (h:n<10):((ch n).toNat:Int)=48+(n:Int):=by
 have:(ch n).toNat=48+n:=by unfold ch;simp;omega
 omega
theorem row_len {w:World} {B:Nat} {ao:Option Addr} {n c:Nat} {bs:List UInt8} (h:Row w B (.slice ao n c) bs):n=bs.length:=by
 rcases h.2 with ⟨hv,h0⟩|⟨g,cap,cur,hv,_⟩
 ·injection hv with _ e _;omega
 ·injection hv
theorem row_str {w:World} {B:Nat} {ao:Option Addr} {n c:Nat} {bs:List UInt8} (h:Row w B (.slice ao n c) bs):(convert 59 9 (.slice ao n c)).run Tryz.prog w= .ok (.string ⟨bs.toArray⟩) w:=by
 rcases h.2 with ⟨hv,h0⟩|⟨g,cap,cur,hv,_⟩
 ·have hbs:bs=[]:=List.eq_nil_of_length_eq_zero h0;subst hbs;rw [hv];exact Lib.run_convert_nil_bytes w 59 9 5 0 Tryz.underlying59 Tryz.underlying5 Tryz.underlying9
 ·rw [hv] at h ⊢;exact toStr (Rd.of_own h) cap
theorem range_snoc (f:Nat→UInt8) (i:Nat):(List.range (i+1)).map f=(List.range i).map f++[f i]:=by rw [List.range_succ];simp
theorem textD {w:World} {p:Nat} {d:List Nat} {dp:Int} (h:DecP w p d dp) (hd: ∀x,x∈d→x<10) (h1:dp≤100000) (h2: -100000≤dp) (prec:Nat) (hp:prec≤100000):
  Calls Tryz.prog 214 #[.pointer (some ⟨p,0,none⟩),.int .i64 (prec:Int)] w fun e w'=>e= .returned (.string ⟨(texT d dp prec).toArray⟩)∧Fr [] w w':=by
 have KD:=Hz (fun (W:World) (F:Fr [] w W) (i:Int)=>digit (h.fr F) hd i)
 have KC:=Hz (fun (W:World) (F:Fr [] w W)=>(by obtain ⟨ao,c,_,c1,_,_⟩:=(h.fr F).cells hd;exact c1:W.cell? ⟨p,1,none⟩=some (.int .i64 dp)))
 have hlt:=Hz (dgi_lt hd);obtain ⟨N,hN⟩: ∃N:Nat,N=dp.toNat:=⟨_,rfl⟩;replace h:=Hz h;replace hd:=Hz hd;go_enter Tryz.func214,Tryz.ntmps214
 go_wp2
 go_loopg [5,6] N (fun gk v5 v6 wr=> ∃i:Nat,v6= .int .i64 (i:Int)∧i+gk=N∧Hid (Row wr w.heap.size v5 ((List.range i).map fun i=>ch (dgt d i)))∧Hid (Fr [] w wr))
 case atStart=>exact ⟨0,by go_num,by omega,Hz (Row.nil _ _),Hz (Fr.refl _ _)⟩
 case round=>
  obtain ⟨i,rfl,hig,hrow,hF⟩:=hrel;obtain ⟨ao,m,c,rfl⟩:=hrow.out.shape;have c1:=KC.out wr hF.out;by_cases hi:(i:Int)<dp
  ·obtain ⟨g,rfl⟩: ∃g,gk=g+1:=⟨gk-1,by omega⟩
   have hx:=hlt.out (i:Int);rw [dgi_nat] at hx;go_wp2_with fail
   refine (KD.out wr hF.out (i:Int)).mono ?_
   rintro e w1 ⟨rfl,rfl⟩;rw [dgi_nat];have hsn:=range_snoc (fun i=>ch (dgt d i)) i
   generalize hxx:dgt d i=x at *
   replace hsn:=Hz hsn;replace hxx:=Hz hxx;have hi':i≤100000:=by omega
   have s1:IntKind.u8.wrap (48+(x:Int))=48+(x:Int):=IntWalk.u8_in _ (by omega)
   have hcx:=Hz (ch_nat hx);have hBs:=hF.out.size;go_wp2_with (at_builtin;refine wpList_apRow rfl _ _ rfl (B:=w.heap.size) _ ((List.range i).map fun i=>ch (dgt d i)) [ch x] w1.heap.size 0 1 rfl rfl (rd_new (w:=w1) rfl (by simp only [enc,List.map_cons,List.map_nil];rw [hcx.out])) (hrow.out.push rfl) (by simp;omega) (by simp;omega) ?_)
   intro v' w' hr' hg;have hF3:Fr [] w w':=Fr.grown (hF.out.alloc _) hg (fun k hk=> .inr (World.ownsRow.lt hrow.out k hk).1)
   rw [←hsn.out] at hr';go_wp2
   go_roundg g
   case measure=>omega
   case rel=>exact ⟨i+1,by go_num,by omega,Hz hr',Hz hF3⟩
  ·have hiN:i=N:=by omega
   subst hiN;have hml:=row_len hrow.out;rw [List.length_map,List.length_range] at hml;obtain ⟨r,rfl⟩: ∃r,r=gk:=⟨gk,rfl⟩;by_cases hN0:i=0
   ·have t1:((m:Int)==0)=true:=by simp;omega
    have hdp0:dp≤0:=by omega
    have e0:(List.range i).map (fun i=>ch (dgt d i))=[]:=by rw [hN0];rfl
    rw [e0] at hrow;clear hml e0;have hlen:Hid (([]:List UInt8).length+[(48:UInt8)].length≤140737488355328):=Hz (by simp)
    go_wp2_with (at_builtin;refine wpList_apRow rfl _ _ rfl (B:=w.heap.size) _ [] [48] wr.heap.size 0 1 rfl rfl (rd_new (w:=wr) rfl rfl) (hrow.out.push rfl) (by have:=hF.out.size;simp;omega) hlen.out ?_)
    intro vA wA hrA hgA;have hFA:Fr [] w wA:=Fr.grown (hF.out.alloc _) hgA (fun k hk=> .inr (World.ownsRow.lt hrow.out k hk).1)
    obtain ⟨aoA,mA,cA,rfl⟩:=hrA.shape;have c1A:=KC.out wA hFA;replace hrA:=Hz hrA;replace hFA:=Hz hFA;by_cases hp0:prec=0
    ·have t2: ¬(0:Int)<(prec:Int):=by omega
     replace hN:=Hz hN;replace hp0:=Hz hp0;replace hdp0:=Hz hdp0;have ht:=row_str hrA.out;go_wp2;go_ret
     refine ⟨?_,hFA.out⟩
     have:texT d dp prec=[48]:=by unfold texT;rw [if_pos hdp0.out,if_pos hp0.out];rfl
     rw [this]
     rfl
    ·have t2:(0:Int)<(prec:Int):=by omega
     replace hp0:=Hz hp0;replace hdp0:=Hz hdp0;have hlen:Hid (([]++[48]:List UInt8).length+[(46:UInt8)].length≤140737488355328):=Hz (by simp)
     go_wp2_with (at_builtin;refine wpList_apRow rfl _ _ rfl (B:=w.heap.size) _ ([]++[48]) [46] wA.heap.size 0 1 rfl rfl (rd_new (w:=wA) rfl rfl) (hrA.out.push rfl) (by have:=hFA.out.size;simp;omega) hlen.out ?_)
     intro vB wB hrB hgB;have hFB:Fr [] w wB:=Fr.grown (hFA.out.alloc _) hgB (fun k hk=> .inr (World.ownsRow.lt hrA.out k hk).1)
     obtain ⟨aoB,mB,cB,rfl⟩:=hrB.shape;have c1B:=KC.out wB hFB;replace hrB:=Hz hrB;replace hFB:=Hz hFB;obtain ⟨P,hP⟩: ∃P:List UInt8,P=[48,46]:=⟨_,rfl⟩;have hPl:P.length≤100005:=by rw [hP];simp;try omega
     rw [←hP] at hrB;replace hP:=Hz hP;replace hN:=Hz hN;go_wp2
     go_loopg [5,7] prec (fun gk v5 v7 wr2=> ∃j:Nat,v7= .int .i64 (j:Int)∧j+gk=prec∧Hid (Row wr2 w.heap.size v5 (P++(List.range j).map fun (i:Nat)=>ch (dgi d (dp+(i:Int)))))∧Hid (Fr [] w wr2))
     case atStart=>exact ⟨0,by go_num,by omega,Hz (by rw [List.range_zero,List.map_nil,List.append_nil];exact hrB.out),hFB⟩
     case round=>
      obtain ⟨j,rfl,hjg,hrow2,hF2⟩:=hrel;obtain ⟨ao2,m2,c2,rfl⟩:=hrow2.out.shape;have c12:=KC.out _ hF2.out;by_cases hj:(j:Int)<(prec:Int)
      ·obtain ⟨g2,rfl⟩: ∃g2,gk=g2+1:=⟨gk-1,by omega⟩
       have hx:=hlt.out (dp+(j:Int));have s2:IntKind.i64.wrap (dp+(j:Int))=dp+(j:Int):=IntWalk.i64_in _ (by omega)
       go_wp2_with fail
       refine (KD.out _ hF2.out (dp+(j:Int))).mono ?_
       rintro e w1 ⟨rfl,rfl⟩;have hsn:=range_snoc (fun (i:Nat)=>ch (dgi d (dp+(i:Int)))) j
       generalize hxx:dgi d (dp+(j:Int))=x at *
       replace hxx:=Hz hxx;replace hsn:=Hz hsn;have s1:IntKind.u8.wrap (48+(x:Int))=48+(x:Int):=IntWalk.u8_in _ (by omega)
       have hcx:=Hz (ch_nat hx);have hj':j≤100000:=by omega
       have hl2:Hid ((P++(List.range j).map fun (i:Nat)=>ch (dgi d (dp+(i:Int)))).length+[ch x].length≤140737488355328):=Hz (by simp;omega)
       go_wp2_with (at_builtin;refine wpList_apRow rfl _ _ rfl (B:=w.heap.size) _ (P++(List.range j).map fun (i:Nat)=>ch (dgi d (dp+(i:Int)))) [ch x] w1.heap.size 0 1 rfl rfl (rd_new (w:=w1) rfl (by simp only [enc,List.map_cons,List.map_nil];rw [hcx.out])) (hrow2.out.push rfl) (by have:=hF2.out.size;simp;omega) hl2.out ?_)
       intro v3 w3 hr3 hg3;have hF3:Fr [] w w3:=Fr.grown (hF2.out.alloc _) hg3 (fun k hk=> .inr (World.ownsRow.lt hrow2.out k hk).1)
       first|rw [List.append_assoc,←hsn.out] at hr3|rw [←hsn.out] at hr3
       go_wp2
       go_roundg g2
       case measure=>omega
       case rel=>exact ⟨j+1,by go_num,by omega,Hz hr3,Hz hF3⟩
      ·have hjp:j=prec:=by omega
       subst hjp;have ht:=row_str hrow2.out;go_wp2;go_ret
       refine ⟨?_,hF2.out⟩
       have:texT d dp j=P++(List.range j).map (fun (i:Nat)=>ch (dgi d (dp+(i:Int)))):=by rw [hP.out];unfold texT;rw [if_pos hdp0.out,if_neg hp0.out];rfl
       rw [this]
       rfl
   ·have t1:((m:Int)==0)=false:=by simp;omega
    have hdp0: ¬dp≤0:=by omega
    have hi5:i≤100000:=by omega
    clear hml;by_cases hp0:prec=0
    ·have t2: ¬(0:Int)<(prec:Int):=by omega
     replace hN:=Hz hN;replace hp0:=Hz hp0;replace hdp0:=Hz hdp0;have ht:=row_str hrow.out;go_wp2;go_ret
     refine ⟨?_,hF.out⟩
     have:texT d dp prec=((List.range i).map fun i=>ch (dgt d i)):=by unfold texT;rw [if_neg (show ¬dp≤0 by have:=hdp0.out;omega),if_pos hp0.out,hN.out,List.append_nil]
     rw [this]
     rfl
    ·have t2:(0:Int)<(prec:Int):=by omega
     replace hp0:=Hz hp0;replace hdp0:=Hz hdp0;replace hN:=Hz hN;have hlen:Hid (((List.range i).map fun i=>ch (dgt d i)).length+[(46:UInt8)].length≤140737488355328):=Hz (by simp;omega)
     go_wp2_with (at_builtin;refine wpList_apRow rfl _ _ rfl (B:=w.heap.size) _ ((List.range i).map fun i=>ch (dgt d i)) [46] wr.heap.size 0 1 rfl rfl (rd_new (w:=wr) rfl rfl) (hrow.out.push rfl) (by have:=hF.out.size;simp;omega) hlen.out ?_)
     intro vB wB hrB hgB;have hFB:Fr [] w wB:=Fr.grown (hF.out.alloc _) hgB (fun k hk=> .inr (World.ownsRow.lt hrow.out k hk).1)
     obtain ⟨aoB,mB,cB,rfl⟩:=hrB.shape;have c1B:=KC.out wB hFB;replace hrB:=Hz hrB;replace hFB:=Hz hFB;obtain ⟨P,hP⟩: ∃P:List UInt8,P=(((List.range i).map fun i=>ch (dgt d i))++[46]):=⟨_,rfl⟩
     have hPl:P.length≤100005:=by rw [hP];simp;try omega
     rw [←hP] at hrB;replace hP:=Hz hP;go_wp2
     go_loopg [5,7] prec (fun gk v5 v7 wr2=> ∃j:Nat,v7= .int .i64 (j:Int)∧j+gk=prec∧Hid (Row wr2 w.heap.size v5 (P++(List.range j).map fun (i:Nat)=>ch (dgi d (dp+(i:Int)))))∧Hid (Fr [] w wr2))
     case atStart=>exact ⟨0,by go_num,by omega,Hz (by rw [List.range_zero,List.map_nil,List.append_nil];exact hrB.out),hFB⟩
     case round=>
      obtain ⟨j,rfl,hjg,hrow2,hF2⟩:=hrel;obtain ⟨ao2,m2,c2,rfl⟩:=hrow2.out.shape;have c12:=KC.out _ hF2.out;by_cases hj:(j:Int)<(prec:Int)
      ·obtain ⟨g2,rfl⟩: ∃g2,gk=g2+1:=⟨gk-1,by omega⟩
       have hx:=hlt.out (dp+(j:Int));have s2:IntKind.i64.wrap (dp+(j:Int))=dp+(j:Int):=IntWalk.i64_in _ (by omega)
       go_wp2_with fail
       refine (KD.out _ hF2.out (dp+(j:Int))).mono ?_
       rintro e w1 ⟨rfl,rfl⟩;have hsn:=range_snoc (fun (i:Nat)=>ch (dgi d (dp+(i:Int)))) j
       generalize hxx:dgi d (dp+(j:Int))=x at *
       replace hxx:=Hz hxx;replace hsn:=Hz hsn;have s1:IntKind.u8.wrap (48+(x:Int))=48+(x:Int):=IntWalk.u8_in _ (by omega)
       have hcx:=Hz (ch_nat hx);have hj':j≤100000:=by omega
       have hl2:Hid ((P++(List.range j).map fun (i:Nat)=>ch (dgi d (dp+(i:Int)))).length+[ch x].length≤140737488355328):=Hz (by simp;omega)
       go_wp2_with (at_builtin;refine wpList_apRow rfl _ _ rfl (B:=w.heap.size) _ (P++(List.range j).map fun (i:Nat)=>ch (dgi d (dp+(i:Int)))) [ch x] w1.heap.size 0 1 rfl rfl (rd_new (w:=w1) rfl (by simp only [enc,List.map_cons,List.map_nil];rw [hcx.out])) (hrow2.out.push rfl) (by have:=hF2.out.size;simp;omega) hl2.out ?_)
       intro v3 w3 hr3 hg3;have hF3:Fr [] w w3:=Fr.grown (hF2.out.alloc _) hg3 (fun k hk=> .inr (World.ownsRow.lt hrow2.out k hk).1)
       first|rw [List.append_assoc,←hsn.out] at hr3|rw [←hsn.out] at hr3
       go_wp2
       go_roundg g2
       case measure=>omega
       case rel=>exact ⟨j+1,by go_num,by omega,Hz hr3,Hz hF3⟩
      ·have hjp:j=prec:=by omega
       subst hjp;have ht:=row_str hrow2.out;go_wp2;go_ret
       refine ⟨?_,hF2.out⟩
       have:texT d dp j=P++(List.range j).map (fun (i:Nat)=>ch (dgi d (dp+(i:Int)))):=by rw [hP.out];unfold texT;rw [if_neg (show ¬dp≤0 by have:=hdp0.out;omega),if_neg hp0.out,hN.out];simp
       rw [this]
       rfl
end
section
set_option exponentiation.threshold 3000
open Go.RowKit
theorem row_1 {w W:World} {B:Nat} {b:UInt8} {x:Int} (e:W.heap=w.heap.push (.cells #[.int .u8 x] 5 (0,0))) (hx:(b.toNat:Int)=x) (hB:B≤w.heap.size):Row W B (.slice (some ⟨w.heap.size,0,none⟩) 1 1) [b]:=by
 subst hx;refine ⟨rfl,.inr ⟨w.heap.size,1,#[.int .u8 (b.toNat:Int)],rfl,hB,by rw [e];simp,Nat.le_refl _,by decide,rfl,rfl⟩⟩
theorem row_put {w:World} {B:Nat} {ao:Option Addr} {n c:Nat} {bs:List UInt8} {b:UInt8} (h:Row w B (.slice ao n c) (bs++[b])) (b':UInt8):
  ∃g,ao=some ⟨g,0,none⟩∧B≤g∧n=bs.length+1∧(w.cell? ⟨g,bs.length,none⟩).isSome=true∧w.frozen? ⟨g,bs.length,none⟩=false∧Row (w.setCell ⟨g,bs.length,none⟩ (.int .u8 (b'.toNat:Int))) B (.slice ao n c) (bs++[b']):=by
 rcases h.2 with ⟨hv,h0⟩|⟨g,cap,cur,hv,hg,hh,hc,hm,hs,ht⟩
 ·simp at h0
 ·injection hv with e1 e2 e3
  subst e1 e2 e3;have hl:(bs++[b]).length=bs.length+1:=by simp
  rw [hl] at hc ht;have hsz:bs.length<cur.size:=by omega
  refine ⟨g,rfl,hg,hl,by rw [cell_blk hh];simp [hsz],frozen_blk hh _,?_⟩
  have hb2:=blk_setCell hh bs.length (.int .u8 (b'.toNat:Int));refine ⟨by simp [enc],.inr ⟨g,c,_,by simp,hg,hb2,by simp;omega,hm,by simp [hs],?_⟩⟩
  rw [enc_append] at ht ⊢;have e4:(bs++[b']).length*1=bs.length+1:=by simp
  rw [e4];have h5:cur.toList.take bs.length=enc bs:=by
   have h6:=congrArg (List.take bs.length) ht;rw [List.take_take,List.take_append_of_le_length (by rw [enc_length];exact Nat.le_refl _),List.take_of_length_le (l:=enc bs) (by rw [enc_length];exact Nat.le_refl _)] at h6
   rw [←h6]
   congr 1
   omega
  rw [Array.toList_setIfInBounds,List.take_succ_eq_append_getElem (by simpa using hsz),List.take_set_of_le (Nat.le_refl _),h5]
  simp [enc]
end
end Go.Proofs.YteodinhkhhaafaaGreatDoor
