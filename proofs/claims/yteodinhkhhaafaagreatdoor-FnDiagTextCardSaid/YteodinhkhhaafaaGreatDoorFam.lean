/- Walks of the program, and plain facts. -/
import Derived.Test.YteodinhkhhaafaaGreatDoorFai
import Derived.Test.YteodinhkhhaafaaGreatDoorFal
set_option linter.unusedVariables false
set_option linter.unusedSimpArgs false
set_option maxRecDepth 100000
set_option maxHeartbeats 6400000
namespace Go.Proofs.YteodinhkhhaafaaGreatDoor
section
set_option exponentiation.threshold 3000
open Go.RowKit
structure Laid0 (w0 W:World) (B q:Nat) (v:Value) (dp:Int) (d:List Nat):Prop where
 blk:W.heap[q]? =some (.cells #[v,.int .i64 dp] 330 (0,0))
 row:Row W B v (bt d)
 ne: ∀k,v.ownBlock=some k→k≠q
 fr:Fr [] w0 W
theorem laid_store {w0 w:World} {B q:Nat} {v:Value} {d:List Nat} (hD:w.heap[q]? =some (.cells #[.slice none 0 0,.int .i64 0] 330 (0,0))) (hr:Row w B v (bt d)) (dp:Int) (F:Fr [] w0 w) (hq:w0.heap.size≤q):Laid0 w0 ((w.setCell ⟨q,0,none⟩ v).setCell ⟨q,1,none⟩ (.int .i64 dp)) B q v dp d:=by
 have h1:=blk_setCell (blk_setCell hD 0 v) 1 (.int .i64 dp);refine ⟨by simpa using h1,?_,?_,(F.setCell (.inr hq) _).setCell (.inr hq) _⟩
 all_goals rcases hr.2 with ⟨hv,h0⟩|⟨g,cap,cur,rfl,hg,hh,hc,r⟩
 ·rw [List.eq_nil_of_length_eq_zero h0,hv];exact Row.nil _ _
 ·have hgq:g≠q:=by
   rintro rfl;rw [hh] at hD;injection hD with e
   injection e with e1 e2
   exact absurd e2 (by decide)
  exact ⟨hr.1,.inr ⟨g,cap,cur,rfl,hg,blk_setCell_ne (blk_setCell_ne hh (by simpa using hgq) _) (by simpa using hgq) _,hc,r⟩⟩
 ·rw [hv];intro k hk;simp [Value.ownBlock] at hk
 ·intro k hk;simp [Value.ownBlock] at hk;subst hk;rintro rfl;rw [hh] at hD;injection hD with e
  injection e with e1 e2
  exact absurd e2 (by decide)
theorem laid_new {w0 w:World} {B:Nat} {v:Value} {d:List Nat} (hr:Row w B v (bt d)) (dp:Int) (F:Fr [] w0 w):Laid0 w0 (w.alloc (.cells #[v,.int .i64 dp] 330 (0,0))) B w.heap.size v dp d:=by
 refine ⟨blk_new w _,hr.push rfl,?_,F.alloc _⟩
 intro k hk;rcases hr.2 with ⟨hv,h0⟩|⟨g,cap,cur,rfl,hg,hh,hc,r⟩
 ·rw [hv] at hk;simp [Value.ownBlock] at hk
 ·simp [Value.ownBlock] at hk;have:=blk_lt' hh;omega
theorem Laid0.last {w0 W:World} {q k:Nat} {v:Value} {dp:Int} {d:List Nat} (h:Laid0 w0 W w0.heap.size q v dp d) (hd: ∀x,x∈d→x<10) (hk:d.length=k+1): ∃g cap,v= .slice (some ⟨g,0,none⟩) (k+1) cap∧W.cell? ⟨q,0,none⟩=some v∧W.cell? ⟨g,k,none⟩=some (.int .u8 (dgt d k:Int))∧W.frozen? ⟨g,k,none⟩=false∧w0.heap.size≤g∧(∀u:Nat,u<10→DecP (W.setCell ⟨g,k,none⟩ (.int .u8 (u:Int))) q (d.take k++[u]) dp):=by
 have hbl:=bt_length d;rcases h.row.2 with ⟨hv,h0⟩|⟨g,cap,cur,rfl,hg,hh,hc,r⟩
 ·omega
 ·have hrd:=Rd.of_own h.row;have c0:=cell_blk h.blk 0;simp only [List.getElem?_toArray,List.getElem?_cons_zero] at c0;have hgq:g≠q:=h.ne g rfl;have hgk:W.cell? ⟨g,k,none⟩=some (.int .u8 (dgt d k:Int)):=by
   have:=hrd k (by omega)
   rw [bt_get hd k (by omega),Nat.zero_add] at this
   exact this
  refine ⟨g,cap,by rw [hbl,hk],c0,hgk,frozen_blk hh k,hg,fun u hu=>⟨_,blk_setCell_ne h.blk (by simpa using Ne.symm hgq) _,.inr ⟨g,0,cap,by rw [hbl];simp;omega,by simp;omega,hgq,by simpa [World.setCell] using blk_lt' hh,?_⟩⟩⟩
  have hd2: ∀x,x∈d.take k++[u]→x<10:=fun x hx=>by
   rcases List.mem_append.1 hx with hx|hx
   ·exact hd x (List.mem_of_mem_take hx)
   ·rw [List.mem_singleton.1 hx];exact hu
  intro j hj;have hj2:j<(d.take k++[u]).length:=by rwa [bt_length] at hj
  rw [bt_get hd2 j hj2,Nat.zero_add];by_cases e:j=k
  ·rw [e];have hl:(d.take k).length=k:=by simp;omega
   have e2:dgt (d.take k++[u]) k=u:=by unfold dgt;simp [List.getD,List.getElem?_append,hl]
   rw [e2];exact World.cell?_setCell_same _ _ _ hgk
  ·have hjk:j<k:=by simp at hj2;omega
   have e2:dgt (d.take k++[u]) j=dgt d j:=by unfold dgt;rw [List.getD,List.getD,List.getElem?_append_left (by simp;omega),List.getElem?_take_of_lt hjk]
   rw [e2,World.cell?_setCell_other]
   ·have:=hrd j (by omega)
    rw [bt_get hd j (by omega),Nat.zero_add] at this
    exact this
   ·intro e3;injection e3 with _ e4 _;omega
theorem upD {w:World} {p:Nat} {d:List Nat} {dp:Int} (h:DecP w p d dp) (hN:NormD d dp) (hl:d.length≤100000) (hdp:dp≤100000) (hdp2: -100000≤dp) (n:Nat) (hn:n≤100000):
  Calls Tryz.prog 219 #[.pointer (some ⟨p,0,none⟩),.int .i64 (n:Int)] w (DecO w p (upF d dp n)):=by
 obtain ⟨v,hb,hs⟩:=h;have c0:=cell_blk hb 0;have c1:=cell_blk hb 1;simp only [List.getElem?_toArray,List.getElem?_cons_zero,List.getElem?_cons_succ] at c0 c1;obtain ⟨ao,c,rfl⟩:=hs.shape;by_cases hnl:d.length≤n
 ·have hU:upF d dp n=(d,dp):=if_pos hnl;rw [hU];have t0:(d.length:Int)≤(n:Int):=by omega
  replace hb:=Hz hb;replace hs:=Hz hs;clear hnl;go_enter Tryz.func219,Tryz.ntmps219
  go_wp2;go_ret
  exact ⟨p,rfl,⟨_,hb.out,hs.out⟩,Fr.refl _ _⟩
 ·have hU:Hid (upF d dp n=match lastUp d n with|some i=>(d.take i++[dgt d i+1],dp)|none=>([1],dp+1)):=Hz (if_neg hnl)
  have t0: ¬(d.length:Int)≤(n:Int):=by omega
  rcases hs with ⟨h0,_⟩|⟨b,off,c2,hv,hc,hbp,hbl,hrd⟩
  ·rw [h0] at hnl;simp at hnl
  ·injection hv with h1 h2 h3
   subst h1 h3;clear h2;have hnd:n<d.length:=by omega
   have hlt:=Hz hN.lt;have hcell:Hid (∀i,i<d.length→w.cell? ⟨b,off+i,none⟩=some (.int .u8 (dgt d i:Int))):=Hz (fun i hi=>by
    have:=hrd i (by rw [bt_length];exact hi)
    rwa [bt_get hN.lt i hi] at this)
   have sW:IntKind.i64.wrap ((n:Int)-1)=(n:Int)-1:=IntWalk.i64_in _ (by omega)
   have hdw:IntKind.i64.wrap (dp+1)=dp+1:=IntWalk.i64_in _ (by omega)
   replace hrd:=Hz hrd;replace hN:=Hz hN;replace hb:=Hz hb;clear hnl;go_enter Tryz.func219,Tryz.ntmps219
   go_wp2
   go_loopg [5] n (fun gk v5 wr=> ∃m:Nat,v5= .int .i64 ((m:Int)-1)∧m=gk∧m≤n∧Hid (lastUp d n=lastUp d m)∧w=wr)
   case atStart=>exact ⟨n,rfl,rfl,Nat.le_refl _,Hz rfl,rfl⟩
   case round=>
    obtain ⟨m,rfl,rfl,hmn,hlu,rfl⟩:=hrel;rcases Nat.eq_zero_or_pos m with rfl|hm0
    ·have hres:Hid (upF d dp n=([1],dp+1)):=Hz (by rw [hU.out,hlu.out];rfl)
     have t2:decide ((0:Int)≤((0:Nat):Int)-1)=false:=by simp
     have c1n:=((Fr.refl [] w).alloc (.cells #[.int .u8 1] 5 (0,0))).cell c1 (by simp)
     go_wp2;go_ret
     have hr0:Rd (w.alloc (.cells #[.int .u8 1] 5 (0,0))) w.heap.size 0 (bt [1]):=rd_new (w:=w) rfl rfl;refine ⟨w.heap.size+1,rfl,?_,((Fr.refl [] w).alloc _).alloc _⟩
     rw [hres.out];refine ⟨_,push2_last _ _ _,.inr ⟨w.heap.size,0,1,rfl,Nat.le_refl _,by omega,?_,?_⟩⟩
     ·show w.heap.size<((w.heap.push _).push _).size
      simp;omega
     ·exact hr0.push rfl
    ·obtain ⟨k,rfl⟩: ∃k,m=k+1:=⟨m-1,by omega⟩
     have e0:(((k+1:Nat):Int)-1)=(k:Int):=by omega
     rw [e0];have t2:(0:Int)≤(k:Int):=by omega
     have hx:=hcell.out k (by omega)
     have hkl:(k:Int)<(d.length:Int):=by omega
     by_cases h9:dgt d k<9
     ·have hlast:lastUp d (k+1)=some k:=by rw [lastUp,if_pos h9]
      have hres:Hid (upF d dp n=(d.take k++[dgt d k+1],dp)):=Hz (by rw [hU.out,hlu.out,hlast])
      clear hlast;have hlen:Hid ((d.take (k+1)).length=k+1):=Hz (by simp;omega)
      have h10:Hid (dgt d k+1<10):=Hz (by omega)
      have htt:Hid (dgt (d.take (k+1)) k=dgt d k):=Hz (by unfold dgt;rw [List.getD,List.getD,List.getElem?_take_of_lt (by omega)])
      have htk:Hid ((d.take (k+1)).take k=d.take k):=Hz (by rw [List.take_take];congr 1;omega)
      have s4:IntKind.u8.wrap ((dgt d k:Int)+1)=((dgt d k+1:Nat):Int):=by rw [IntWalk.u8_in _ (by omega)];omega
      have t3:(dgt d k:Int)<9:=by omega
      have hmax2:(0:Int)≤(k:Int)+1:=by omega
      have s1:(k:Int)+1≤(c:Int):=by omega
      have s2:IntKind.i64.wrap ((k:Int)+1)=(k:Int)+1:=IntWalk.i64_in _ (by omega)
      have s3:((k:Int)+1).toNat=k+1:=by omega
      have htl:(bt (d.take (k+1))).length=k+1:=by rw [bt_length];simp;omega
      have hr1:Rd w b off (bt (d.take (k+1))):=by rw [bt_take];exact hrd.out.take (k+1)
      obtain ⟨bs,hbs⟩: ∃bs,bs=bt (d.take (k+1)):=⟨_,rfl⟩;rw [←hbs] at htl hr1;have hll:([]:List UInt8).length+bs.length≤140737488355328:=by simp only [List.length_nil];omega
      have F1:Fr [] w (w.alloc (.cells #[] 5 (0,0))):=(Fr.refl [] w).alloc _;have F2:Fr [] w ((w.alloc (.cells #[] 5 (0,0))).alloc (.cells #[.slice none 0 0,.int .i64 0] 330 (0,0))):=F1.alloc _;have F3:Fr [] w (w.alloc (.cells #[.slice none 0 0,.int .i64 0] 330 (0,0))):=(Fr.refl [] w).alloc _;have F4:Fr [] w ((w.alloc (.cells #[.slice none 0 0,.int .i64 0] 330 (0,0))).alloc (.cells #[] 5 (0,0))):=F3.alloc _;have FA:Fr [] w (w.alloc (.cells #[] 5 (0,0))).drew:=F1.drewN 1;have FB:Fr [] w ((w.alloc (.cells #[] 5 (0,0))).alloc (.cells #[.slice none 0 0,.int .i64 0] 330 (0,0))).drew:=F2.drewN 1;have FC:Fr [] w ((w.alloc (.cells #[.slice none 0 0,.int .i64 0] 330 (0,0))).alloc (.cells #[] 5 (0,0))).drew:=F4.drewN 1;have zA:=Hz FA.size;have zB:=Hz FB.size;have zC:=Hz FC.size;have sA:Hid (Src (w.alloc (.cells #[] 5 (0,0))).drew (.slice (some ⟨b,off,none⟩) (k+1) c) bs):=Hz (.inr ⟨b,off,c,by rw [htl],hr1.fr FA (by simp)⟩)
      have sB:Hid (Src ((w.alloc (.cells #[] 5 (0,0))).alloc (.cells #[.slice none 0 0,.int .i64 0] 330 (0,0))).drew (.slice (some ⟨b,off,none⟩) (k+1) c) bs):=Hz (.inr ⟨b,off,c,by rw [htl],hr1.fr FB (by simp)⟩)
      have sC:Hid (Src ((w.alloc (.cells #[.slice none 0 0,.int .i64 0] 330 (0,0))).alloc (.cells #[] 5 (0,0))).drew (.slice (some ⟨b,off,none⟩) (k+1) c) bs):=Hz (.inr ⟨b,off,c,by rw [htl],hr1.fr FC (by simp)⟩)
      have rA:Hid (Row (w.alloc (.cells #[] 5 (0,0))).drew w.heap.size (.slice (some ⟨w.heap.size,0,none⟩) 0 0) []):=Hz (row_empty rfl (Nat.le_refl _));have rB:Hid (Row ((w.alloc (.cells #[] 5 (0,0))).alloc (.cells #[.slice none 0 0,.int .i64 0] 330 (0,0))).drew w.heap.size (.slice (some ⟨w.heap.size,0,none⟩) 0 0) []):=Hz (rA.out.push rfl);have rC:Hid (Row ((w.alloc (.cells #[.slice none 0 0,.int .i64 0] 330 (0,0))).alloc (.cells #[] 5 (0,0))).drew w.heap.size (.slice (some ⟨w.heap.size+1,0,none⟩) 0 0) []):=Hz (by have:=row_empty (w:=w.alloc (.cells #[.slice none 0 0,.int .i64 0] 330 (0,0))) (W:=((w.alloc (.cells #[.slice none 0 0,.int .i64 0] 330 (0,0))).alloc (.cells #[] 5 (0,0))).drew) (B:=w.heap.size) rfl F3.size;simpa using this)
      have dB:Hid (((w.alloc (.cells #[] 5 (0,0))).alloc (.cells #[.slice none 0 0,.int .i64 0] 330 (0,0))).drew.heap[w.heap.size+1]? =some (.cells #[.slice none 0 0,.int .i64 0] 330 (0,0))):=Hz (push2_last _ _ _);have dC:Hid (((w.alloc (.cells #[.slice none 0 0,.int .i64 0] 330 (0,0))).alloc (.cells #[] 5 (0,0))).drew.heap[w.heap.size]? =some (.cells #[.slice none 0 0,.int .i64 0] 330 (0,0))):=Hz (push2_first _ _ _);have c01:=F1.cell c0 (by simp)
      have c11:=F1.cell c1 (by simp)
      have c02:=F2.cell c0 (by simp)
      have c12:=F2.cell c1 (by simp)
      have c03:=F3.cell c0 (by simp)
      have c13:=F3.cell c1 (by simp)
      have c04:=F4.cell c0 (by simp)
      have c14:=F4.cell c1 (by simp)
      have KEEP:=Hz (fun (W:World) (hf:Fr [] w W)=>(⟨hf.cell c0 (by simp),hf.cell c1 (by simp)⟩:W.cell? ⟨p,0,none⟩=some (.slice (some ⟨b,off,none⟩) d.length c)∧W.cell? ⟨p,1,none⟩=some (.int .i64 dp)))
      replace hr1:=Hz hr1;replace hbs:=Hz hbs;replace F1:=Hz F1;replace F2:=Hz F2;replace F3:=Hz F3;replace F4:=Hz F4;go_wp2
      go_region_held3 (fun w'=>w'.cell? ⟨p,0,none⟩=some (.slice (some ⟨b,off,none⟩) d.length c)∧w'.cell? ⟨p,1,none⟩=some (.int .i64 dp)) (first|exact KEEP.out _ FA|exact KEEP.out _ FB|exact KEEP.out _ FC|exact KEEP.out _ F1.out|exact KEEP.out _ F2.out|exact KEEP.out _ F3.out|exact KEEP.out _ F4.out|exact KEEP.out _ hFA|exact KEEP.out _ (hFA.alloc _)|exact KEEP.out _ ((hFA.setCell (.inr (by simp)) _).setCell (.inr (by simp)) _)|exact KEEP.out _ (((hFA.alloc _).setCell (.inr hFA.size) _).setCell (.inr hFA.size) _)|go_keep) (first|(refine step_apSrc rfl (.tmp 29) (.tmp 36) rfl (B:=w.heap.size) _ [] bs (.slice (some ⟨b,off,none⟩) (k+1) c) (by simp [Act.eval,Act.put]) (by simp [Act.eval,Act.put]) sA.out rA.out zA.out hll ?_;intro v' w' hr' hg;obtain ⟨ao',n',c',rfl⟩:=hr'.shape;have hFA:=FA.grown hg (by intro k hk;right;simp [Value.ownBlock] at hk;omega);have c1'':=hFA.cell c1 (by simp);have c1a:=(hFA.alloc (.cells #[.slice none 0 0,.int .i64 0] 330 (0,0))).cell c1 (by simp);replace hr':=Hz hr';replace hg:=Hz hg)|(refine step_apSrc rfl (.tmp 29) (.tmp 36) rfl (B:=w.heap.size) _ [] bs (.slice (some ⟨b,off,none⟩) (k+1) c) (by simp [Act.eval,Act.put]) (by simp [Act.eval,Act.put]) sB.out rB.out zB.out hll ?_;intro v' w' hr' hg;obtain ⟨ao',n',c',rfl⟩:=hr'.shape;have hFA:=FB.grown hg (by intro k hk;right;simp [Value.ownBlock] at hk;omega);have c1'':=hFA.cell c1 (by simp);have hD:=((Fr.refl [w.heap.size] _).grown hg (by intro k hk;left;simp [Value.ownBlock] at hk;simp;omega)).blk dB.out (by simp);have x0:=cell_blk hD 0;have x1:=cell_blk hD 1;have y0:=frozen_blk hD 0;have y1:=frozen_blk hD 1;simp only [List.getElem?_toArray,List.getElem?_cons_zero,List.getElem?_cons_succ] at x0 x1;replace hD:=Hz hD;replace hr':=Hz hr';replace hg:=Hz hg)|(refine step_apSrc rfl (.tmp 29) (.tmp 36) rfl (B:=w.heap.size) _ [] bs (.slice (some ⟨b,off,none⟩) (k+1) c) (by simp [Act.eval,Act.put]) (by simp [Act.eval,Act.put]) sC.out rC.out zC.out hll ?_;intro v' w' hr' hg;obtain ⟨ao',n',c',rfl⟩:=hr'.shape;have hFA:=FC.grown hg (by intro k hk;right;simp [Value.ownBlock] at hk;omega);have c1'':=hFA.cell c1 (by simp);have hD:=((Fr.refl [w.heap.size+1] _).grown hg (by intro k hk;left;simp [Value.ownBlock] at hk;simp;omega)).blk dC.out (by simp);have x0:=cell_blk hD 0;have x1:=cell_blk hD 1;have y0:=frozen_blk hD 0;have y1:=frozen_blk hD 1;simp only [List.getElem?_toArray,List.getElem?_cons_zero,List.getElem?_cons_succ] at x0 x1;replace hD:=Hz hD;replace hr':=Hz hr';replace hg:=Hz hg))
      all_goals (have hrr:=hr'.out;rw [List.nil_append,hbs.out] at hrr;replace hrr:=Hz hrr)
      all_goals (first|have HH:=laid_store hD.out hrr.out dp hFA (by simp)|have HH:=laid_new hrr.out dp hFA)
      all_goals (obtain ⟨g,cap,hv,x0,xk,yk,hgB,HD⟩:=HH.last (fun x hx=>hlt.out x (List.mem_of_mem_take hx)) hlen.out;injection hv with hv1 hv2 hv3;subst hv1 hv2 hv3;have HF:=HH.fr;replace HH:=Hz HH;have HD1:=HD (dgt d k+1) h10.out;rw [htt.out] at xk;rw [htk.out] at HD1;replace HD:=Hz HD)
      all_goals (first|generalize ((w'.setCell ⟨w.heap.size+1,0,none⟩ (.slice (some ⟨g,0,none⟩) (k+1) c')).setCell ⟨w.heap.size+1,1,none⟩ (.int .i64 dp))=W at * |generalize ((w'.setCell ⟨w.heap.size,0,none⟩ (.slice (some ⟨g,0,none⟩) (k+1) c')).setCell ⟨w.heap.size,1,none⟩ (.int .i64 dp))=W at * |generalize (w'.alloc (.cells #[.slice (some ⟨g,0,none⟩) (k+1) c',.int .i64 dp] 330 (0,0)))=W at *)
      all_goals (replace HD1:=Hz HD1;replace HF:=Hz HF)
      all_goals go_wp2
      all_goals go_ret
      all_goals (refine ⟨_,rfl,?_,?_⟩)
      all_goals (first|(rw [hres.out];exact HD1.out)|exact HF.out.setCell (.inr hgB) _)
     ·have hlast:lastUp d (k+1)=lastUp d k:=by rw [lastUp,if_neg h9]
      have t3: ¬(dgt d k:Int)<9:=by omega
      have s3:IntKind.i64.wrap ((k:Int)-1)=(k:Int)-1:=IntWalk.i64_in _ (by omega)
      have hlu2:Hid (lastUp d n=lastUp d k):=Hz (hlu.out.trans hlast);clear hlast h9;go_wp2
      go_roundg k
      case measure=>omega
      case rel=>exact ⟨k,by go_num,rfl,by omega,hlu2,rfl⟩
end
section
set_option exponentiation.threshold 3000
open Go.RowKit
theorem nearUpD {w:World} {p:Nat} {d:List Nat} {dp:Int} (h:DecP w p d dp) (hd: ∀x,x∈d→x<10) (hl:d.length≤100000) (n:Nat) (hn:n≤100000):
  Calls Tryz.prog 221 #[.pointer (some ⟨p,0,none⟩),.int .i64 (n:Int)] w fun e w'=>e= .returned (.bool (nearUp d n))∧w'=w:=by
 obtain ⟨ao,c,c0,c1,hc,hx⟩:=h.cells hd;have t0:decide ((n:Int)<0)=false:=by simp
 unfold nearUp;by_cases hnl:d.length≤n
 ·rw [if_pos hnl];have t1:decide ((d.length:Int)≤(n:Int))=true:=by simp;omega
  go_enter Tryz.func221,Tryz.ntmps221
  go_wp2;go_ret
  exact ⟨rfl,rfl⟩
 ·rw [if_neg hnl];have t1:decide ((d.length:Int)≤(n:Int))=false:=by simp;omega
  obtain ⟨b,off,rfl,hx1⟩:=hx n (by omega)
  have t2:(n:Int)<(d.length:Int):=by omega
  have s1:IntKind.i64.wrap ((n:Int)+1)=(n:Int)+1:=IntWalk.i64_in _ (by omega)
  by_cases h5:dgt d n=5∧n+1=d.length
  ·rw [if_pos h5];have t3:((dgt d n:Int)==5)=true:=by rw [h5.1];rfl
   have t4:((n:Int)+1==(d.length:Int))=true:=by simp;omega
   rcases Nat.eq_zero_or_pos n with h0|hn0
   ·have t5: ¬0<n:=by omega
    have t5':decide (0<n)=false:=by simp;omega
    have e1:(decide (0<n∧dgt d (n-1)%2≠0))=false:=by simp;omega
    rw [e1];clear h5 e1 hnl h0;replace hx:=Hz hx;go_enter Tryz.func221,Tryz.ntmps221
    go_wp2;go_ret
    exact ⟨rfl,rfl⟩
   ·obtain ⟨k,rfl⟩: ∃k,n=k+1:=⟨n-1,by omega⟩
    have t5:decide ((0:Int)<((k+1:Nat):Int))=true:=by simp
    obtain ⟨b',off',hab,hx2⟩:=hx k (by omega)
    injection hab with hab
    injection hab with hab1 hab2 _
    subst hab1 hab2;have e2:k+1-1=k:=by omega
    rw [e2];have s2:IntKind.i64.wrap (((k+1:Nat):Int)-1)=(k:Int):=by rw [IntWalk.i64_in _ (by omega)];omega
    have t6:(k:Int)<(d.length:Int):=by omega
    have e3:decide (0<k+1∧dgt d k%2≠0)=((dgt d k:Int)%2 !=0):=by
     rcases Nat.mod_two_eq_zero_or_one (dgt d k) with e|e
     ·rw [e,show ((dgt d k:Int)%2)=0 by omega];simp
     ·rw [e,show ((dgt d k:Int)%2)=1 by omega];simp
    rw [e3];clear h5 e3 hnl;replace hx:=Hz hx;go_enter Tryz.func221,Tryz.ntmps221
    go_wp2;go_ret
    exact ⟨rfl,rfl⟩
  ·rw [if_neg h5];have t8:(((dgt d n:Int)==5)=true→((n:Int)+1==(d.length:Int))=true→False):=fun a b=>h5 (by simp at a b;omega)
   replace hx:=Hz hx;by_cases h6:dgt d n=5
   ·have t3:((dgt d n:Int)==5)=true:=by rw [h6];rfl
    have t4:((n:Int)+1==(d.length:Int))=false:=by simp;omega
    have e4:decide (5≤dgt d n)=true:=by simp;omega
    have t9:decide ((5:Int)≤(dgt d n:Int))=true:=by simp;omega
    rw [e4];clear t8 h5 hnl h6;go_enter Tryz.func221,Tryz.ntmps221
    go_wp2;go_ret
    exact ⟨rfl,rfl⟩
   ·have t3:((dgt d n:Int)==5)=false:=by simp;omega
    have e4:decide (5≤dgt d n)=decide ((5:Int)≤(dgt d n:Int)):=by congr 1;simp;omega
    rw [e4];clear t8 h5 hnl h6;go_enter Tryz.func221,Tryz.ntmps221
    go_wp2;go_ret
    exact ⟨rfl,rfl⟩
theorem roundD {w:World} {p:Nat} {d:List Nat} {dp:Int} (h:DecP w p d dp) (hN:NormD d dp) (hl:d.length≤100000) (hdp:dp≤100000) (hdp2: -100000≤dp) (n:Nat) (hn:n≤100000):
  Calls Tryz.prog 212 #[.pointer (some ⟨p,0,none⟩),.int .i64 (n:Int)] w (DecO w p (roundF d dp n)):=by
 have K1:=Hz (nearUpD h hN.lt hl n hn);have K2:=Hz (upD h hN hl hdp hdp2 n hn);have K3:=Hz (downD h hN hl n hn);have t0: ¬(n:Int)<0:=by omega
 unfold roundF;cases hb:nearUp d n
 ·rw [hb] at K1;go_enter Tryz.func212,Tryz.ntmps212
  go_wp2_with fail
  refine K1.out.mono ?_
  rintro e w1 ⟨rfl,rfl⟩;go_wp2_with fail
  refine K3.out.mono ?_
  rintro e w1 ⟨q,rfl,h1,h2⟩;go_wp2;go_ret
  exact ⟨q,rfl,h1,h2⟩
 ·rw [hb] at K1;go_enter Tryz.func212,Tryz.ntmps212
  go_wp2_with fail
  refine K1.out.mono ?_
  rintro e w1 ⟨rfl,rfl⟩;go_wp2_with fail
  refine K2.out.mono ?_
  rintro e w1 ⟨q,rfl,h1,h2⟩;go_wp2;go_ret
  exact ⟨q,rfl,h1,h2⟩
end
section
open Go.RowKit
def Item (L:Lim) (xs:List UInt8) (f:Nat):Prop:=
 ∀(w:World) (d db o c dm off dep:Nat) (r:Except Nat (Nat×Nat)),Dec w d db o c dm xs off→DecM w dm L.nest L.el L.pa→dm≠d→dep≤65535→wfI L xs f off dep=some r→
  Calls Tryz.prog 114 #[.pointer (some ⟨d,0,none⟩),.int .i64 (dep:Int),.bool false] w (WPost w d db o c dm xs r)
theorem wfI_dep (L:Lim) (xs:List UInt8) (hn:L.nest≤65535): ∀f,(∀off dep D o,dep≤65535→wfI L xs f off dep=some (.ok (D,o))→D≤65535∧dep≤D)∧(∀m off dep D o,dep≤65535→wfS L xs f m off dep=some (.ok (D,o))→D≤65535∧dep≤D)∧
  (∀m i off dep D o,dep≤65535→wfO L xs f m i off dep=some (.ok (D,o))→D≤65535∧dep≤D)∧(∀n off dep D o,dep≤65535→wfN L xs f n off dep=some (.ok (D,o))→D≤65535∧dep≤D)∧(∀off dep D o,dep≤65535→wfT L xs f off dep=some (.ok (D,o))→D≤65535∧dep≤D):=by
 intro f;have hj: ∀D r D' o,joinD D r=some (.ok (D',o))→ ∃D1,r=some (.ok (D1,o))∧D'=max D D1:=by
  intro D r D' o h;unfold joinD at h
  split at h
  ·cases h;exact ⟨_,rfl,rfl⟩
  ·exact ⟨D',h,by rename_i hx;exact absurd h (hx _ _)⟩
 induction f with
 |zero=>simp [wfI,wfS,wfO,wfN,wfT]
 |succ f ih=>
  obtain ⟨i1,i2,i3,i4,i5⟩:=ih;refine ⟨?_,?_,?_,?_,?_⟩
  ·intro off dep D o hd h;unfold wfI at h
   split at h
   ·cases h
   ·split at h
    ·split at h
     ·exact i2 _ _ _ _ _ hd h
     ·split at h
      ·cases h
      ·split at h
       ·cases h
       ·cases h;exact ⟨hd,Nat.le_refl _⟩
    ·split at h
     ·split at h
      ·cases h
      ·split at h
       ·have:=i3 _ _ _ _ _ _ (by omega) h;omega
       ·split at h
        ·cases h
        ·split at h
         ·cases h
         ·split at h
          ·cases h
          ·have:=i4 _ _ _ _ _ (by omega) h;omega
     ·split at h
      ·exact i5 _ _ _ _ hd h
      ·cases h;exact ⟨hd,Nat.le_refl _⟩
  ·intro m off dep D o hd h;unfold wfS at h
   split at h
   ·cases h
   ·split at h
    ·cases h;exact ⟨hd,Nat.le_refl _⟩
    ·split at h
     ·cases h
     ·split at h
      ·cases h
      ·split at h
       ·rename_i D1 o1 h1;have a:=i1 _ _ _ _ hd h1;have b:=i2 _ _ _ _ _ a.1 h;omega
       ·exact i1 _ _ _ _ hd h
  ·intro m i off dep D o hd h;unfold wfO at h
   split at h
   ·cases h
   ·split at h
    ·split at h
     ·cases h
     ·cases h;exact ⟨hd,Nat.le_refl _⟩
    ·split at h
     ·rename_i D1 o1 h1
      split at h
      ·cases h
      ·split at h
       ·cases h
       ·obtain ⟨D2,h2,rfl⟩:=hj _ _ _ _ h;have a:=i1 _ _ _ _ hd h1;have b:=i3 _ _ _ _ _ _ hd h2;omega
     ·exact i1 _ _ _ _ hd h
  ·intro n off dep D o hd h;unfold wfN at h
   split at h
   ·cases h;exact ⟨hd,Nat.le_refl _⟩
   ·split at h
    ·rename_i D1 o1 h1;obtain ⟨D2,h2,rfl⟩:=hj _ _ _ _ h;have a:=i1 _ _ _ _ hd h1;have b:=i4 _ _ _ _ _ hd h2;omega
    ·exact i1 _ _ _ _ hd h
  ·intro off dep D o hd h;unfold wfT at h
   split at h
   ·cases h
   ·split at h
    ·exact i1 _ _ _ _ hd h
    ·split at h
     ·cases h
     ·split at h
      ·cases h
      ·have:=i5 _ _ _ _ (by omega) h;omega
section
variable {w:World} {d db o c dm off:Nat} {L:Lim} {xs:List UInt8}
theorem chunks_any (hn:L.nest≤65535) (f:Nat) (IH: ∀g,g<f→Item L xs g) (m:Nat) (hm:m<8) (dep:Nat) (r:Except Nat (Nat×Nat)) (h:Dec w d db o c dm xs off) (hM:DecM w dm L.nest L.el L.pa) (hmd:dm≠d) (hdep:dep≤65535)
  (hr:wfS L xs f m off dep=some r):
  Calls Tryz.prog 155 #[.pointer (some ⟨d,0,none⟩),.int .u8 ((m*32:Nat):Int),.int .i64 (dep:Int),.bool false] w (WPost w d db o c dm xs r):=by
 replace hr:=Hz hr;replace IH:=Hz IH;go_enter Tryz.func155,Tryz.ntmps155
 go_wp2
 go_loopg [2] f (fun k v2 wr=> ∃dep off:Nat,v2= .int .i64 (dep:Int)∧k≤f∧dep≤65535∧Hid (wfS L xs k m off dep=some r)∧Dec wr d db o c dm xs off∧Fr [d] w wr)
 case atStart=>exact ⟨dep,off,rfl,Nat.le_refl _,hdep,hr,h,Fr.refl _ _⟩
 case round=>
  obtain ⟨dep,off,rfl,hk,hdep,hr,hD,hf⟩:=hrel;have hr:=hr.out;rcases gk with _|g
  ·simp [wfS] at hr
  unfold wfS at hr;have h0:=hD.c0;have h1:=hD.c1;have f1:=hD.f1;have hlen:=hD.len;have n1: ¬db=d:=hD.ne;have n2: ¬d=db:=fun e=>hD.ne e.symm
  cases hx:xs[off]? with
  |none=>
   rw [hx] at hr;cases hr
   have hoff:off=xs.length:=Nat.le_antisymm hD.le (by simpa using List.getElem?_eq_none_iff.1 hx)
   have g1:((xs.length:Int)==(off:Int))=true:=by simp;omega
   have g2:(xs.length==off)=true:=by simp;omega
   clear hx;replace hoff:=Hz hoff;go_wp2
   go_quiet (fail)
   go_wp2
   go_ret2
   exact ⟨_,rfl,rfl,⟨_,hD.v.drewN _⟩,hf.drewN _⟩
  |some b=>
   obtain ⟨hl,rfl⟩:=getElem?_lt hx;rw [hx] at hr;dsimp only at hr;have ha:=hD.at_ off hl;have hb8:=u8lt xs[off];have g1:((xs.length:Int)==(off:Int))=false:=by simp;omega
   have g2:(xs.length==off)=false:=by simp;omega
   clear hx;by_cases h255:xs[off].toNat=255
   ·rw [if_pos h255] at hr;cases hr
    have g3:((xs[off].toNat:Int)==255)=true:=by simp;omega
    clear h255;go_wp2
    go_quiet (fail)
    go_wp2
    go_quiet ((go_at_call 117;exact quiet2 (quiet_same (isBreakFlag _ _))))
    go_wp2
    go_ret2
    refine ⟨rfl,DecV.dec (x:=(off:Int)+1) ?_ _ (by omega) (by omega),hf.trans ?_⟩
    ·repeat (first|with_reducible exact hD.v|with_reducible apply DecV.set|with_reducible apply DecV.drewN)
    ·repeat (first|with_reducible exact Fr.refl _ _|with_reducible refine Fr.setCell ?_ (by simp) _|with_reducible refine Fr.drewN ?_ _)
   ·rw [if_neg h255] at hr;have g3:((xs[off].toNat:Int)==255)=false:=by simp;omega
    clear h255;have K:=Hz (parseInitialByte xs[off]);by_cases hm2:xs[off].toNat/32≠m
    ·rw [if_pos hm2] at hr;cases hr
     have g4:((m:Int)*32 !=(xs[off].toNat:Int)/32*32)=true:=by rw [bne_iff_ne];omega
     have K1:=Hz (typeName m hm);have K2:=Hz (typeName (xs[off].toNat/32) (by omega))
     clear hm2;go_wp2
     go_quiet (fail)
     go_wp2
     go_quiet ((go_at_call 117;exact quiet2 (quiet_same (isBreakFlag _ _))))
     go_wp2
     go_quiet ((go_at_call 160;exact quiet2 (quiet_same (K.out _))))
     go_wp2_with fail
     refine (K2.out _).mono ?_
     rintro e w1 ⟨s1,rfl,hs1,rfl⟩;go_wp2_with fail
     refine (K1.out _).mono ?_
     rintro e w2 ⟨s2,rfl,hs2,rfl⟩;go_wp2
     go_ret2
     refine ⟨_,rfl,errv_ptr 3 (.inl rfl) _,?_,hf.trans ?_⟩
     ·apply Exists.intro
      repeat (first|with_reducible exact hD.v|with_reducible apply DecV.alloc|with_reducible apply DecV.drewN)
     ·repeat (first|with_reducible exact Fr.refl _ _|with_reducible refine Fr.alloc ?_ _|with_reducible refine Fr.drewN ?_ _)
    ·rw [if_neg hm2] at hr;have g4:((m:Int)*32 !=(xs[off].toNat:Int)/32*32)=false:=by rw [bne_eq_false_iff_eq];omega
     have hm3:xs[off].toNat/32=m:=by omega
     clear hm2;by_cases h31:xs[off].toNat%32=31
     ·rw [if_pos h31] at hr;cases hr
      have g5:((xs[off].toNat:Int)%32==31)=true:=by simp;omega
      have K1:=Hz (typeName m hm);clear h31 hm3;go_wp2
      go_quiet (fail)
      go_wp2
      go_quiet ((go_at_call 117;exact quiet2 (quiet_same (isBreakFlag _ _))))
      go_wp2
      go_quiet ((go_at_call 160;exact quiet2 (quiet_same (K.out _))))
      go_wp2_with (go_at_call 190;go_in)
      go_wp2_with fail
      refine (K1.out _).mono ?_
      rintro e w2 ⟨s2,rfl,hs2,rfl⟩;go_wp2
      go_ret2
      refine ⟨_,rfl,errv_ptr 3 (.inl rfl) _,?_,hf.trans ?_⟩
      ·apply Exists.intro
       repeat (first|with_reducible exact hD.v|with_reducible apply DecV.alloc|with_reducible apply DecV.drewN)
      ·repeat (first|with_reducible exact Fr.refl _ _|with_reducible refine Fr.alloc ?_ _|with_reducible refine Fr.drewN ?_ _)
     ·rw [if_neg h31] at hr;have g5:((xs[off].toNat:Int)%32==31)=false:=by simp;omega
      clear h31 hm3;have hMr:DecM wr dm L.nest L.el L.pa:=hM.fr hf (by simpa using hmd)
      cases hI:wfI L xs g off dep with
      |none=>rw [hI] at hr;cases hr
      |some q=>
       rw [hI] at hr;have C:=fun n:Nat=>IH.out g (by omega) (wr.drewN n) d db o c dm off dep q (hD.drewN n) hMr hmd hdep hI
       replace C:=Hz C;cases q with
       |error k=>
        cases hr
        clear hI;go_wp2
        go_quiet (fail)
        go_wp2
        go_quiet ((go_at_call 117;exact quiet2 (quiet_same (isBreakFlag _ _))))
        go_wp2
        go_quiet ((go_at_call 160;exact quiet2 (quiet_same (K.out _))))
        go_wp2_with (go_at_call 190;go_in)
        go_wp2_with fail
        refine (C.out _).mono ?_
        rintro e w2 ⟨v,rfl,hv,hu,hf2⟩;obtain ⟨t,x,rfl⟩:=hv.iface;go_wp2
        go_ret2
        exact ⟨_,rfl,hv,hu,hf.trans ⟨hf2.os,hf2.tape,hf2.output,hf2.size,hf2.block⟩⟩
       |ok p=>
        obtain ⟨D,o'⟩:=p;dsimp only at hr;have hDd:=((wfI_dep L xs hn g).1 _ _ _ _ hdep hI).1;clear hI;replace hr:=Hz hr;go_wp2
        go_quiet (fail)
        go_wp2
        go_quiet ((go_at_call 117;exact quiet2 (quiet_same (isBreakFlag _ _))))
        go_wp2
        go_quiet ((go_at_call 160;exact quiet2 (quiet_same (K.out _))))
        go_wp2_with (go_at_call 190;go_in)
        go_wp2_with fail
        refine (C.out _).mono ?_
        rintro e w2 ⟨rfl,hD2,hf2⟩;go_wp2
        go_roundg g
        case measure=>omega
        case rel=>exact ⟨D,o',rfl,by omega,hDd,hr,hD2,hf.trans ⟨hf2.os,hf2.tape,hf2.output,hf2.size,hf2.block⟩⟩
end
end
end Go.Proofs.YteodinhkhhaafaaGreatDoor
