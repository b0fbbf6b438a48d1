/- Walks of the program, and plain facts. -/
import Derived.Test.YteodinhkhhaafaaGreatDoorFbk
set_option linter.unusedVariables false
set_option linter.unusedSimpArgs false
set_option maxRecDepth 100000
set_option maxHeartbeats 6400000
namespace Go.Proofs.YteodinhkhhaafaaGreatDoor
section
open Go.RowKit
theorem step_apSrc2 {w:World} {ops:Array Oper} {o:Oper} {a:Act} {K:Act→World→Prop} {Q:Exit→Act→World→Prop} {E:Prop}
  (hg:o.guard=none) (x y:Operand) (hop:o.op=Op.call {callee:=Callee.builtin Builtin.append,args:= #[x,y],argTypes:= #[59,59]})
  {B:Nat} (v:Value) (bs s:List UInt8) (b off c:Nat) (hs:a.eval x=v) (hx:a.eval y= .slice (some ⟨b,off,none⟩) s.length c) (hr:Rd w b off s) (hown:Row w B v bs) (hne:v≠ .slice none 0 0) (hB:B≤w.heap.size) (hl:bs.length+s.length≤140737488355328)
  (hK: ∀v' w',Row w' B v' (bs++s)→w.grownBy w' v.ownBlock→v'≠ .slice none 0 0→K (a.put o.dst v') w'):
  if Region.wanted o (yielded ops a.tmps)=true then Oper.wp Tryz.prog o a w K Q else E:=by
 have hw:Region.wanted o (yielded ops a.tmps)=true:=by simp [Region.wanted,hg]
 rw [if_pos hw];have hinfo:(Tryz.prog.info? 5).map (fun i=>(i.zero,i.size,i.bytes))=some (some (.int .u8 0),1,1):=by kernel_rfl
 obtain ⟨i0,hi,hzz⟩:=Option.map_eq_some_iff.1 hinfo;simp only [Prod.mk.injEq] at hzz;obtain ⟨hz0,hz1,hz2⟩:=hzz;obtain ⟨v',w',hrun,r1,r2,r3⟩:=run_append_own (P:=Tryz.prog) w B 59 o.type 5 i0 (.int .u8 0) 1 1 Tryz.underlying59 hi hz0 hz1 hz2 rfl (by decide) v bs.length (enc bs) hown ⟨b,off,none⟩ s.length c (enc s) (by rw [enc_length,Nat.mul_one]) hr.cells (enc_one s) (by simp only [maxLen];omega) (by omega) hB
 rw [←enc_append,←List.length_append] at r1;unfold Oper.wp;simp [execOp,hop,resolve,invoke,builtin,hs,hx,hrun,Result.andThen];exact hK v' w' r1 r2 (fun e=>hne (r3.1 e).1)
section
variable {w:World} {d db o c dm off:Nat} {xs:List UInt8}
def SAt (w:World) (d db o c dm:Nat) (xs:List UInt8) (off':Nat) (b:List UInt8) (e:Ending) (w':World):Prop:=
 ∃vb q n fl,e= .returned (.tuple #[.slice (some ⟨vb,q,none⟩) b.length n,.bool fl])∧b.length≤n∧Rd w' vb q b∧vb<w'.heap.size∧Dec w' d db o c dm xs off'∧Fr [d] w w'
theorem StrAt.some {w':World} {off':Nat} {b:List UInt8} {e:Ending} (hdb:db<w.heap.size) (h:StrAt w d db o c dm xs off' b e w'):SAt w d db o c dm xs off' b e w':=by
 obtain ⟨q,n,h1,h2,h3,h4,h5⟩:=h;exact ⟨db,q,n,false,h1,h2,h3,Nat.lt_of_lt_of_le hdb h5.size,h4,h5⟩
theorem Row.some_ {B:Nat} {v:Value} {bs:List UInt8} (h:Row w B v bs) (hne:v≠ .slice none 0 0): ∃g cap,v= .slice (some ⟨g,0,none⟩) bs.length cap∧B≤g∧g<w.heap.size∧bs.length≤cap∧Rd w g 0 bs:=by
 rcases h.2 with ⟨hv,h0⟩|⟨g,cap,cur,rfl,h1,h2,h3,r⟩
 ·exact absurd hv hne
 ·exact ⟨g,cap,rfl,h1,blk_lt' h2,h3,Rd.of_own h⟩
theorem parseChunks (h:Dec w d db o c dm xs off) (hdb:db<w.heap.size) (hx:xs.length≤1000000000) {v o1 off':Nat} {l:List Tr} (hh:hd xs off= .ok (2,31,v,o1)) (hc:Chunks xs false l o1 off'):
  Calls Tryz.prog 129 #[.pointer (some ⟨d,0,none⟩)] w (SAt w d db o c dm xs off' (catS l)):=by
 have K:=Hz (getHeadF h hh);have hdl:d<w.heap.size:=blk_lt' h.blk;have hcl:=chunks_off false l _ _ hc;replace hh:=Hz hh;replace hc:=Hz hc;clear h;go_enter Tryz.func129,Tryz.ntmps129
 go_wp2_with fail
 refine K.out.mono ?_
 rintro e w1 ⟨rfl,hD,hf⟩;have hs1:=hf.size;go_wp2
 go_loopg [9] l.length (fun k v9 wr=> ∃(off1:Nat) (l1:List Tr) (acc:List UInt8),Hid (Chunks xs false l1 off1 off')∧l1.length=k∧Dec wr d db o c dm xs off1∧Row wr w.heap.size v9 acc∧v9≠ .slice none 0 0∧Hid (acc++catS l1=catS l)∧acc.length≤off1∧Fr [d] w wr)
 case atStart=>
  refine ⟨o1,l,[],hc,rfl,hD.fr ((Fr.refl [] _).alloc _) (by simp) (by simp),?_,by simp,Hz rfl,by simp,hf.alloc _⟩
  exact World.ownsRow_made w1 #[] 0 hs1 (by decide) rfl
 case round=>
  obtain ⟨off1,l1,acc,hc1,hk,hD1,hrow,hne,hacc,hal,hF⟩:=hrel;obtain ⟨g,cap,rfl,hg1,hg2,hg3,hrd⟩:=hrow.some_ hne;cases l1 with
  |nil=>
   have hcn:=hc1.out;rw [Chunks] at hcn;obtain ⟨b,hb,h255,rfl⟩:=hcn;obtain ⟨hl1,rfl⟩:=List.getElem?_eq_some_iff.1 hb;have KB:=Hz (foundBreak_yes hD1 hl1 (by simp;omega))
   have ha:=hacc.out;rw [catS,List.append_nil] at ha;subst ha;clear hb hc1 hacc;go_wp2_with fail
   refine KB.out.mono ?_
   rintro e w2 ⟨rfl,hD2,hf2⟩;go_wp2
   go_ret2
   exact ⟨g,0,cap,true,rfl,hg3,hrd.fr hf2 (by simp;omega),Nat.lt_of_lt_of_le hg2 hf2.size,hD2,hF.trans hf2⟩
  |cons t l2=>
   have hcn:=hc1.out;rw [Chunks] at hcn;obtain ⟨b,mid,hb,h255,⟨s,rfl⟩,he,hc2⟩:=hcn;rw [Enc] at he;obtain ⟨ai,v2,o2,hh2,h31,hv2,h63,rfl,hsb⟩:=he;obtain ⟨hl1,rfl⟩:=List.getElem?_eq_some_iff.1 hb;have hsl:s.length=v2:=by rw [hsb];simp;omega
   have KB:=Hz (foundBreak_no hD1 hl1 (by simp;omega))
   have KH:=Hz (fun n=>getHead (hD1.drewN n) hh2)
   obtain ⟨q,rfl⟩: ∃q,gk=q+1:=⟨gk-1,by simp at hk;omega⟩
   have hoo:=(hd_off hh2).1;have ha:Hid ((acc++s)++catS l2=catS l):=Hz (by have:=hacc.out;rw [catS] at this;rw [List.append_assoc];exact this)
   replace hc2:=Hz hc2;replace hsb:=Hz hsb;clear hb hc1 hacc h255;go_wp2_with fail
   refine KB.out.mono ?_
   rintro e w2 ⟨rfl,nm,rfl⟩;go_wp2_with fail
   refine (KH.out nm).mono ?_
   rintro e w3 ⟨rfl,hD3,hf3⟩;have hF3:Fr [d] w w3:=(hF.drewN nm).trans hf3;have h0:=hD3.c0;have h1:=hD3.c1;have f1:=hD3.f1;have hcc:=hD3.cap;have gv:IntKind.i64.wrap (v2:Int)=(v2:Int):=IntWalk.i64_in _ (by omega)
   have gs:IntKind.i64.wrap ((o2:Int)+(v2:Int))=(o2:Int)+(v2:Int):=IntWalk.i64_in _ (by omega)
   have g1:(0:Int)≤(o2:Int):=by omega
   have g2:(o2:Int).toNat=o2:=by omega
   have g3:(o2:Int)≤(o2:Int)+(v2:Int):=by omega
   have g4:(o2:Int)+(v2:Int)≤(c:Int):=by omega
   have g5:((o2:Int)+(v2:Int)).toNat=o2+v2:=by omega
   have g6:0≤(o2:Int)+(v2:Int):=by omega
   have hrow3:Row w3 w.heap.size (.slice (some ⟨g,0,none⟩) acc.length cap) acc:=(hrow.fr ((Fr.refl [] _).drewN nm) (by simp)).fr hf3 (by simp;omega)
   have hWA:Fr [] w3 w3.drew:=(Fr.refl [] w3).drew;have zA:w.heap.size≤w3.drew.heap.size:=Nat.le_trans hF3.size hWA.size;have hll:acc.length+s.length≤140737488355328:=by omega
   have hsq:Rd w3 db (o+o2) s:=by rw [hsb.out];exact (hD3.rd.drop o2).take v2
   have hrowA:=hrow3.fr hWA (by simp)
   have hsA:=hsq.fr hWA (by simp)
   have hxl:=hD3.len;replace hrowA:=Hz hrowA;replace hsA:=Hz hsA;replace zA:=Hz zA;replace hne:=Hz hne;by_cases hco:c=o2
   ·have hsA2:Hid (Rd w3.drew db o s):=Hz (by
     have:s=[]:=List.eq_nil_of_length_eq_zero (by omega)
     rw [this];exact Rd.nil _ _ _)
    have g7:(o2:Int)+(v2:Int)≤(o2:Int):=by omega
    go_wp2
    go_region_law (refine step_apSrc2 rfl (.tmp 55) (.tmp 71) rfl (B:=w.heap.size) (.slice (some ⟨g,0,none⟩) acc.length cap) acc s db o _ (by simp [Act.eval,Act.put]) (by simp [Act.eval,Act.put,hsl];rfl) hsA2.out hrowA.out hne.out zA.out hll ?_;intro v' w' hr' hg hne')
    all_goals (
     have hF4:Fr [d] w w':=(hF3.trans (hWA.mono (by simp))).grown hg (by intro k hk;right;simp [Value.ownBlock] at hk;omega)
     have hD4:Dec w' d db o c dm xs o2:=⟨(hg.block d (Nat.lt_of_lt_of_le hdl (Nat.le_trans hF3.size hWA.size)) (by simp [Value.ownBlock];omega)).trans hD3.blk,fun j hj=>hg.cell ((hWA.cell (hD3.rd j hj) (by simp))) (by simp [Value.ownBlock];omega),hD3.cap,hD3.len,hD3.ne,hD3.le⟩
     have i0:=hD4.c0;have i1:=hD4.c1;have i2:=hD4.f1;have hdg:=hg.size;replace hr':=Hz hr';replace hg:=Hz hg;replace hne':=Hz hne')
    all_goals go_wp2
    all_goals (
     go_roundg q
     case measure=>omega
     case rel=>exact ⟨o2+v2,l2,acc++s,hc2,by simp at hk;omega,DecV.dec (x:=(o2:Int)+(v2:Int)) (DecV.set hD4.v _) _ (by omega) hv2,hr'.out.fr (S:=[d]) ((Fr.refl _ _).setCell (.inl (by simp)) _) (by simp;omega),hne'.out,ha,by simp;omega,hF4.setCell (.inl (by simp)) _⟩)
   ·go_wp2
    go_region_law (refine step_apSrc2 rfl (.tmp 55) (.tmp 71) rfl (B:=w.heap.size) (.slice (some ⟨g,0,none⟩) acc.length cap) acc s db (o+o2) _ (by simp [Act.eval,Act.put]) (by simp [Act.eval,Act.put,hsl];rfl) hsA.out hrowA.out hne.out zA.out hll ?_;intro v' w' hr' hg hne')
    all_goals (
     have hF4:Fr [d] w w':=(hF3.trans (hWA.mono (by simp))).grown hg (by intro k hk;right;simp [Value.ownBlock] at hk;omega)
     have hD4:Dec w' d db o c dm xs o2:=⟨(hg.block d (Nat.lt_of_lt_of_le hdl (Nat.le_trans hF3.size hWA.size)) (by simp [Value.ownBlock];omega)).trans hD3.blk,fun j hj=>hg.cell ((hWA.cell (hD3.rd j hj) (by simp))) (by simp [Value.ownBlock];omega),hD3.cap,hD3.len,hD3.ne,hD3.le⟩
     have i0:=hD4.c0;have i1:=hD4.c1;have i2:=hD4.f1;have hdg:=hg.size;replace hr':=Hz hr';replace hg:=Hz hg;replace hne':=Hz hne')
    all_goals go_wp2
    all_goals (
     go_roundg q
     case measure=>omega
     case rel=>exact ⟨o2+v2,l2,acc++s,hc2,by simp at hk;omega,DecV.dec (x:=(o2:Int)+(v2:Int)) (DecV.set hD4.v _) _ (by omega) hv2,hr'.out.fr (S:=[d]) ((Fr.refl _ _).setCell (.inl (by simp)) _) (by simp;omega),hne'.out,ha,by simp;omega,hF4.setCell (.inl (by simp)) _⟩)
end
end
end Go.Proofs.YteodinhkhhaafaaGreatDoor
