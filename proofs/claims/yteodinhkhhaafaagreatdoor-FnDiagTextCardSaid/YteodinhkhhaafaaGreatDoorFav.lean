/- Walks of the program, and plain facts. -/
import Derived.Test.YteodinhkhhaafaaGreatDoorFau
set_option linter.unusedVariables false
set_option linter.unusedSimpArgs false
set_option maxRecDepth 100000
set_option maxHeartbeats 6400000
namespace Go.Proofs.YteodinhkhhaafaaGreatDoor
section
set_option exponentiation.threshold 3000
open Go.RowKit
def dg (n:Nat):List Nat:=(dec n).map (fun b=>b.toNat-48)
theorem dg_lt {n:Nat} (h:n<10):dg n=[n]:=by
 have:(48+n).toUInt8.toNat=48+n:=by simp;omega
 unfold dg;rw [dec_lt n h];simp only [List.map_cons,List.map_nil,this];simp
theorem dg_ge {n:Nat} (h: ¬n<10):dg n=dg (n/10)++[n%10]:=by
 have:(48+n%10).toUInt8.toNat=48+n%10:=by simp;omega
 unfold dg;rw [dec_ge n h];simp only [List.map_append,List.map_cons,List.map_nil,this];simp
theorem dg_len (n:Nat):(dg n).length=(dec n).length:=by unfold dg;simp
theorem dg_ne (n:Nat):dg n≠[]:=fun e=>dec_ne n (List.eq_nil_of_length_eq_zero (by rw [←dg_len,e];rfl))
theorem dg_spec: ∀(k n:Nat),n≤k→(∀x,x∈dg n→x<10)∧dv (dg n)=n∧(0<n→ ∀x l,dg n=x::l→x≠0):=by
 intro k
 induction k with
 |zero=>
  intro n hn;have:n=0:=by omega
  subst this;rw [dg_lt (by omega)]
  exact ⟨by simp,rfl,fun h=>by omega⟩
 |succ k ih=>
  intro n hn;by_cases h:n<10
  ·rw [dg_lt h];exact ⟨by simpa using h,by simp [dv],fun h0 x l e=>by injection e with e _;omega⟩
  ·obtain ⟨a,b,c⟩:=ih (n/10) (by omega)
   rw [dg_ge h];refine ⟨fun x hx=> ?_,by rw [dv_snoc,b];omega,fun h0 x l e=> ?_⟩
   ·rcases List.mem_append.1 hx with hx|hx
    ·exact a x hx
    ·rw [List.mem_singleton.1 hx];omega
   ·cases hd:dg (n/10) with
    |nil=>exact absurd hd (dg_ne _)
    |cons y m=>
     rw [hd] at e;injection e with e _
     exact e▸c (by omega) y m hd
theorem dec_dgt: ∀(k n:Nat),n≤k→ ∀b,b∈dec n→48≤b.toNat:=by
 intro k
 induction k with
 |zero=>
  intro n hn b hb;rw [dec_lt n (by omega),List.mem_singleton] at hb
  rw [hb];simp;omega
 |succ k ih=>
  intro n hn b hb;by_cases h:n<10
  ·rw [dec_lt n h,List.mem_singleton] at hb;rw [hb];simp;omega
  ·rw [dec_ge n h] at hb;rcases List.mem_append.1 hb with hb|hb
   ·exact ih (n/10) (by omega) b hb
   ·rw [List.mem_singleton.1 hb];simp;omega
theorem dec_at (n i:Nat) (h:i<(dec n).length):((dec n)[i]).toNat=48+dgt (dg n) i:=by
 have h1:=dec_dgt n n (Nat.le_refl _) _ (List.getElem_mem h);have h2:dgt (dg n) i=(dec n)[i].toNat-48:=by
  unfold dgt dg;rw [List.getD,List.getElem?_map,List.getElem?_eq_getElem h]
  rfl
 omega
def NewP (w:World) (n:Nat) (e:Ending) (w':World):Prop:=
 ∃q d dp,e= .returned (.pointer (some ⟨q,0,none⟩))∧DecP w' q d dp∧NormD d dp∧dV d dp=n*10^1100∧d.length≤20∧(d.length:Int)≤dp∧dp≤20∧w.heap.size≤q∧Fr [] w w'
theorem new_norm (n:Nat) (hn:n<18446744073709551616):NormD (normD (dg n) (dg n).length).1 (normD (dg n) (dg n).length).2∧dV (normD (dg n) (dg n).length).1 (normD (dg n) (dg n).length).2=n*10^1100∧(normD (dg n) (dg n).length).1.length≤20∧((normD (dg n) (dg n).length).1.length:Int)≤(normD (dg n) (dg n).length).2∧(normD (dg n) (dg n).length).2≤20:=by
 have hl:=dec_length n 20 (by omega) (by omega)
 rw [←dg_len] at hl;obtain ⟨h1,h2,h3⟩:=dg_spec n n (Nat.le_refl _);rcases Nat.eq_zero_or_pos n with rfl|h0
 ·rw [dg_lt (by omega)]
  have e:normD [0] (([0]:List Nat).length:Int)=([],0):=by decide
  rw [e];refine ⟨⟨by simp,fun _=>rfl,by simp,by simp⟩,?_,by simp,by simp,by simp⟩
  unfold dV;rw [dv_nil,Nat.zero_mul,Nat.zero_mul]
 ·obtain ⟨g1,g2,g3,g4⟩:=trim_norm (d:=dg n) (dp:=((dg n).length:Int)) h1 (h3 h0) (by omega)
  have g5:=g4 (dg_ne n);refine ⟨g1,?_,by omega,by rw [g5];omega,by rw [g5];omega⟩
  rw [g2];unfold dV;rw [h2,show (((dg n).length:Int)-((dg n).length:Int)+1100).toNat=1100 by omega]
theorem newD (w:World) (n:Nat) (hn:n<18446744073709551616):Calls Tryz.prog 209 #[.int .u64 (n:Int)] w (NewP w n):=by
 have hlen:=dec_length n 20 (by omega) (by omega)
 have hNN:=Hz (new_norm n hn);have hlt:=Hz (dg_spec n n (Nat.le_refl _)).1;have hat:=Hz (dec_at n);have hdl:=Hz (dg_len n);have KF:=Hz (formatUint n hn);clear hn;go_enter Tryz.func209,Tryz.ntmps209
 go_wp2_with fail
 refine (KF.out _).mono ?_
 rintro e w1 ⟨rfl,hf1⟩;have hb1:=hf1.blk (blk_new w (.cells #[.slice none 0 0,.int .i64 0] 330 (0,0))) (by simp)
 have hFa:Fr [] w w1:=((Fr.refl [] w).alloc _).trans hf1;obtain ⟨c,w2,hconv,hrd,hcap,hsz,hf2⟩:=toBytes w1 (dec n);have hb2:=hf2.blk hb1 (by simp)
 have hq1:=blk_lt' hb1;have hFb:=hFa.trans hf2;have hq2:=blk_lt' hb2;replace hrd:=Hz hrd;replace hb1:=Hz hb1;replace hb2:=Hz hb2;go_wp2
 go_loopg [5,10] (dec n).length (fun gk v5 v10 wr=> ∃(i:Nat) (ao:Option Addr) (m c1:Nat),v10= .int .i64 (i:Int)∧i+gk=(dec n).length∧Hid (wr.heap[w.heap.size]? =some (.cells #[.slice ao m c1,.int .i64 0] 330 (0,0)))∧Hid (Row wr w2.heap.size (.slice ao m c1) (bt ((dg n).take i)))∧Hid (Fr [w.heap.size] w2 wr))
 case atStart=>exact ⟨0,none,0,0,by go_num,by omega,hb2,Hz (Row.nil _ _),Hz (Fr.refl _ _)⟩
 case round=>
  obtain ⟨i,ao,m,c1,rfl,hig,hbk,hrow,hF⟩:=hrel;have c0:=cell_blk hbk.out 0;have c1':=cell_blk hbk.out 1;have f0:=frozen_blk hbk.out 0;have f1:=frozen_blk hbk.out 1;have hm:m=((dg n).take i).length:=by
   rcases hrow.out.2 with ⟨hv,h0⟩|⟨g,cap,cur,hv,_⟩
   ·injection hv with _ e _;rw [bt_length] at h0;omega
   ·injection hv with _ e _;rw [bt_length] at e;exact e
  simp only [List.getElem?_toArray,List.getElem?_cons_zero,List.getElem?_cons_succ] at c0 c1';have hsz2:=hF.out.size;by_cases hi:i<(dec n).length
  ·obtain ⟨g,rfl⟩: ∃g,gk=g+1:=⟨gk-1,by omega⟩
   have t1:decide ((i:Int)<((dec n).length:Int))=true:=by simp;omega
   have t2:(i:Int)<((dec n).length:Int):=by omega
   have hx0:=hF.out.cell (hrd.out i hi) (by simp;omega)
   rw [hat.out i hi,Nat.zero_add] at hx0;have hx10:dgt (dg n) i<10:=by
    have:=dgt_le hlt.out i;omega
   have htk:Hid (bt ((dg n).take i)++[UInt8.ofNat (dgt (dg n) i)]=bt ((dg n).take (i+1))):=Hz (by
    have h1:i<(dg n).length:=by have:=hdl.out;omega
    rw [List.take_add_one,List.getElem?_eq_getElem h1];have h2:dgt (dg n) i=(dg n)[i]:=by unfold dgt;rw [List.getD,List.getElem?_eq_getElem h1];rfl
    rw [h2]
    show _=bt (_++[_])
    rw [bt_snoc])
   generalize hx:dgt (dg n) i=x at *
   replace hx:=Hz hx;have s1:IntKind.u8.wrap (48+(x:Int)-48)=(x:Int):=by rw [IntWalk.u8_in _ (by omega)];omega
   have hof:Hid ((UInt8.ofNat x).toNat=x):=Hz (by simp;omega)
   have hl1:(bt ((dg n).take i)).length+1≤140737488355328:=by rw [bt_length];simp;omega
   replace hl1:=Hz hl1;clear hm;go_wp2_with (at_builtin;refine wpList_apRow rfl _ _ rfl (B:=w2.heap.size) _ (bt ((dg n).take i)) [UInt8.ofNat x] wr.heap.size 0 1 rfl rfl (rd_new (w:=wr) rfl (by simp only [enc,List.map_cons,List.map_nil];rw [hof.out])) (hrow.out.push rfl) (by simp;omega) hl1.out ?_)
   intro v' w' hr' hg;rw [htk.out] at hr';obtain ⟨ao',n',c',rfl⟩:=hr'.shape;have hb3:w'.heap[w.heap.size]? =some (.cells #[.slice ao m c1,.int .i64 0] 330 (0,0)):=(hg.block w.heap.size (by have:=blk_lt' hbk.out;simp;omega) (hrow.out.ne hq2)).trans (blk_alloc hbk.out _)
   have hF3:Fr [w.heap.size] w2 w':=Fr.grown (hF.out.alloc _) hg (fun k hk=> .inr (World.ownsRow.lt hrow.out k hk).1)
   have c03:=cell_blk hb3 0;have f03:=frozen_blk hb3 0;simp only [List.getElem?_toArray,List.getElem?_cons_zero] at c03;have hF4:Fr [w.heap.size] w2 (w'.setCell ⟨w.heap.size,0,none⟩ (.slice ao' n' c')):=hF3.setCell (.inl (by simp)) _
   have hr4:=hr'.fr ((Fr.refl [w.heap.size] w').setCell (p:=⟨w.heap.size,0,none⟩) (.inl (by simp)) (.slice ao' n' c')) (by simpa using hq2)
   have hb4:(w'.setCell ⟨w.heap.size,0,none⟩ (.slice ao' n' c')).heap[w.heap.size]? =some (.cells #[.slice ao' n' c',.int .i64 0] 330 (0,0)):=by rw [blk_setCell hb3 0 _];rfl
   replace hF4:=Hz hF4;replace hr4:=Hz hr4;replace hb4:=Hz hb4;replace hb3:=Hz hb3;go_wp2
   go_roundg g
   case measure=>omega
   case rel=>exact ⟨i+1,ao',n',c',by go_num,by omega,hb4,hr4,hF4⟩
  ·have t1:decide ((i:Int)<((dec n).length:Int))=false:=by simp;omega
   have t2: ¬(i:Int)<((dec n).length:Int):=by omega
   have hmm:m=(dg n).length:=by rw [hm,List.take_of_length_le (by have:=hdl.out;omega)]
   have htt:(dg n).take i=dg n:=List.take_of_length_le (by have:=hdl.out;omega)
   rw [htt] at hrow;clear hm;subst hmm;have hdl20:(dg n).length≤20:=by have:=hdl.out;omega
   have KT:=Hz (fun (W:World) (hD:DecP W w.heap.size (dg n) (dg n).length)=>trim hD hlt.out (by omega))
   have hb4:Hid ((wr.setCell ⟨w.heap.size,1,none⟩ (.int .i64 ((dg n).length:Int))).heap[w.heap.size]? =some (.cells #[.slice ao (dg n).length c1,.int .i64 ((dg n).length:Int)] 330 (0,0))):=Hz (by rw [blk_setCell hbk.out 1 _];rfl)
   have hDD:Hid (DecP (wr.setCell ⟨w.heap.size,1,none⟩ (.int .i64 ((dg n).length:Int))) w.heap.size (dg n) (dg n).length):=Hz (by
    refine ⟨_,hb4.out,(hrow.out.dsrc hq2).fr ((Fr.refl [w.heap.size] wr).setCell (p:=⟨w.heap.size,1,none⟩) (.inl (by simp)) _) (by simp)⟩)
   go_wp2_with fail
   refine (KT.out _ hDD.out).mono ?_
   rintro e w5 ⟨rfl,hD5,hf5⟩;go_wp2;go_ret
   obtain ⟨n1,n2,n3,n4,n5⟩:=hNN.out;exact ⟨_,_,_,rfl,hD5,n1,n2,n3,n4,n5,Nat.le_refl _,((hFb.then_ hF.out (by simp)).setCell (.inr (Nat.le_refl _)) _).then_ hf5 (by simp)⟩
end
section
open Go.RowKit
section
variable {X:Cx} {off:Nat} {bs:List UInt8} {w:World}
theorem Togo.lt {bs bs0:List UInt8} {x:UInt8} {r r0:R} (h:Togo bs (thenR (txt [x]) r) bs0 r0) (hl:bs0.length+r0.1.length≤room):bs.length<140737488355328:=by
 have:=h.len_tx hl;unfold room at this;rw [List.length_singleton] at this;omega
theorem Togo.lt1 {bs bs0:List UInt8} {x:UInt8} {r0:R} (h:Togo bs (txt [x]) bs0 r0) (hl:bs0.length+r0.1.length≤room):bs.length<140737488355328:=by
 have:=h.len hl;unfold room txt at this;rw [List.length_singleton] at this;omega
theorem di_tag (h:St X off bs w) {ai v o1 off2:Nat} {r5:R} (hh:hd X.xs off= .ok (6,ai,v,o1)) (h2:v≠2) (h3:v≠3) (hC:ItemC X o1 off2 r5) {res:R} (hres:thenR (txt (dec v)) (thenR (txt [40]) (thenR r5 (txt [41])))=res) (hlen:bs.length+res.1.length≤room):
  Calls Tryz.prog 105 #[.pointer (some ⟨X.di,0,none⟩)] w (IPost X off2 bs res w):=by
 obtain ⟨hl,hb1,hb2⟩:=hd_byte hh;have hv:=(hd_val hh).1;have hai:=(hd_off hh).2.2.2;have hai2:=(hd_off hh).2.2.1;have k1:=h.i1;have k2:=h.i2;have d0:=h.dec.c0;have d1:=h.dec.c1;have ha:=h.dec.at_ off hl;have hm:=h.dec.len;have KT:=fun n=>nextCBORType (h.dec.drewN n) hl
 rw [hb1] at KT;have KH:=fun n=>getHead (h.dec.drewN n) hh
 have KF:=Hz (formatUint v hv);have gt2:((v:Int)==2)=false:=by simp;omega
 have gt3:((v:Int)==3)=false:=by simp;omega
 have L0:Togo bs (thenR (txt (dec v)) (thenR (txt [40]) (thenR r5 (txt [41])))) bs res:=by rw [hres];exact Togo.refl _ _
 replace hres:=Hz hres;replace L0:=Hz L0;replace hC:=Hz hC;have hlen1:=Hz (L0.out.len_tx hlen);replace KT:=Hz KT;replace KH:=Hz KH;replace hh:=Hz hh;have g95:((X.xs[off].toNat:Int)==95)=false:=by simp;omega
 have g127:((X.xs[off].toNat:Int)==127)=false:=by simp;omega
 have g159:((X.xs[off].toNat:Int)==159)=false:=by simp;omega
 have g191:((X.xs[off].toNat:Int)==191)=false:=by simp;omega
 generalize (X.xs[off].toNat:Int)=x0 at *
 clear hb1 hb2 hai;have b1:(off:Int)<(X.xs.length:Int):=by omega
 have b2:(0:Int)≤(off:Int):=by omega
 have b3:(off:Int).toNat=off:=by omega
 go_enter Tryz.func105,Tryz.ntmps105
 go_wp2
 go_quiet (fail)
 go_wp2_with fail
 refine (KT.out _).mono ?_
 rintro e w1 ⟨rfl,nm,rfl⟩;go_wp2_with fail
 refine (KH.out _).mono ?_
 rintro e w1 ⟨rfl,hD,hf⟩;have h1:=(h.drewN _).moved hf hD;have G1:=h.grF (((Fr.refl [X.d] w).drewN _).trans hf);have k1:=h1.i1;have k2:=h1.i2;go_wp2
 go_region_held3 (fun w'=>w'.cell? ⟨X.di,2,none⟩=some (.pointer (some ⟨X.wb,0,none⟩))) (first|go_keep|exact h2.i2|exact h3.i2)
  (first|(go_at_call 122;refine (KF.out _).mono ?_;rintro e w2 ⟨rfl,hf2⟩;have h2:=St.kept (by first|exact h1|exact St.drewN h1 _) hf2;have G2:=(St.gr0 (by first|exact h1|exact St.drewN h1 _) hf2))|(go_at_call 104;refine (writeString h2.buf h2.lw h2.hB (dec v) hlen1.out).mono ?_;rintro e w3 ⟨⟨u3,rfl⟩,hb3,hg3⟩;have h3:=h2.wrote hg3 hb3))
 have G3:=(G1.drewN 1).trans (Gr.trans G2 (St.grW hg3));have L3:=Hz L0.out.tx;have K4:=Hz (fun n=>writeByte (h3.drewN n).buf h3.lw (h3.drewN n).hB 40 (L3.out.lt hlen))
 go_wp2_with fail
 refine (K4.out 0).mono ?_
 rintro e w4 ⟨rfl,hb4,hg4⟩;have h4:=h3.wrote hg4 hb4;have G4:=G3.trans (St.grW hg4);have L4:=Hz L3.out.tx;have K5:=Hz (hC.out _ _ h4 (L4.out.len1 hlen));go_wp2_with fail
 refine K5.out.mono ?_
 rintro e w5 ⟨v5,o5,rfl,hv5,ho5,h5,hG5⟩;have G5:=G4.trans hG5;rcases hr5:r5.2 with _|k
 ·rw [hr5] at hv5;obtain rfl:=hv5.nil;have L5:=Hz (L4.out.ok hr5);rw [ho5 hr5] at h5;have i1_5:=h5.i1;have i2_5:=h5.i2;have K6:=Hz (fun n=>writeByte (h5.drewN n).buf h5.lw (h5.drewN n).hB 41 (L5.out.lt1 hlen))
  go_wp2_with fail
  refine (K6.out 0).mono ?_
  rintro e w6 ⟨rfl,hb6,hg6⟩;have h6:=h5.wrote hg6 hb6;have G6:=G5.trans (St.grW hg6);go_wp2;go_ret
  exact IPost.done h6 G6 L5.out
 ·rw [hr5] at hv5;obtain ⟨t,x,rfl⟩:=hv5.ne;go_wp2;go_ret
  exact IPost.err (w1:=w) hv5 h5 G5 (L4.out.err hr5)
end
end
section
open Go.RowKit
theorem St.step {X:Cx} {off:Nat} {bs:List UInt8} {w:World} (h:St X off bs w) (hl:off<X.xs.length) (n:Nat):St X (off+1) bs ((w.drewN n).setCell ⟨X.d,1,none⟩ (.int .i64 ((off:Int)+1)))∧Gr X.B [X.d,X.wb] w ((w.drewN n).setCell ⟨X.d,1,none⟩ (.int .i64 ((off:Int)+1))):=by
 have hF:Fr [X.d] w ((w.drewN n).setCell ⟨X.d,1,none⟩ (.int .i64 ((off:Int)+1))):=((Fr.refl [X.d] w).drewN n).setCell (by simp) _
 exact ⟨h.moved hF (DecV.dec (x:=(off:Int)+1) ((h.dec.v.drewN n).set _) (off+1) (by omega) (by omega)),h.grF hF⟩
inductive KidsO (X:Cx):Nat→Nat→List R→Prop
 |nil {off:Nat} (hl:off<X.xs.length) (hb:X.xs[off].toNat=255):KidsO X off (off+1) []
 |cons {off mid off':Nat} {r:R} {l:List R} (hl:off<X.xs.length) (hb:X.xs[off].toNat≠255):ItemC X off mid r→KidsO X mid off' l→KidsO X off off' (r::l)
inductive KidsO2 (X:Cx):Nat→Nat→List (R×R)→Prop
 |nil {off:Nat} (hl:off<X.xs.length) (hb:X.xs[off].toNat=255):KidsO2 X off (off+1) []
 |cons {off m1 m2 off':Nat} {r s:R} {l:List (R×R)} (hl:off<X.xs.length) (hb:X.xs[off].toNat≠255):ItemC X off m1 r→ItemC X m1 m2 s→KidsO2 X m2 off' l→KidsO2 X off off' ((r,s)::l)
section
variable {X:Cx} {off:Nat} {bs:List UInt8} {w:World}
theorem di_oarr (h:St X off bs w) {off2:Nat} {l:List R} (hl:off<X.xs.length) (hb:X.xs[off].toNat=159) (hKids:KidsO X (off+1) off2 l) (hcap:l.length≤2147483647) {res:R} (hres:thenR (txt [91,95,32]) (arrR [93] 0 l)=res) (hlen:bs.length+res.1.length≤room):
  Calls Tryz.prog 105 #[.pointer (some ⟨X.di,0,none⟩)] w (IPost X off2 bs res w):=by
 have k1:=h.i1;have k2:=h.i2;have d0:=h.dec.c0;have d1:=h.dec.c1;have df:=h.dec.f1;have ha:=h.dec.at_ off hl;have hm:=h.dec.len;have g95:((X.xs[off].toNat:Int)==95)=false:=by simp;omega
 have g127:((X.xs[off].toNat:Int)==127)=false:=by simp;omega
 have g159:((X.xs[off].toNat:Int)==159)=true:=by simp;omega
 have g191:((X.xs[off].toNat:Int)==191)=false:=by simp;omega
 generalize (X.xs[off].toNat:Int)=x0 at *
 clear hb;have L0:Togo bs (thenR (txt [91,95,32]) (arrR [93] 0 l)) bs res:=by rw [hres];exact Togo.refl _ _
 replace hres:=Hz hres;replace L0:=Hz L0;replace hKids:=Hz hKids;have b1:(off:Int)<(X.xs.length:Int):=by omega
 have b2:(0:Int)≤(off:Int):=by omega
 have b3:(off:Int).toNat=off:=by omega
 have wo:IntKind.i64.wrap ((off:Int)+1)=((off+1:Nat):Int):=by
  have:=wrap_pos (off+1) (by omega)
  simpa using this
 go_enter Tryz.func105,Tryz.ntmps105
 go_wp2
 go_quiet (fail)
 obtain ⟨h1,G1⟩:=h.step hl nq;have K2:=Hz (writeString h1.buf h1.lw h1.hB [91,95,32] (L0.out.len_tx hlen));go_wp2_with fail
 refine K2.out.mono ?_
 rintro e w2 ⟨⟨u2,rfl⟩,hb2,hg2⟩;have h2:=h1.wrote hg2 hb2;have G2:=G1.trans (St.grW hg2);have L2:=Hz L0.out.tx;clear ha k1 k2 d0 d1 df;go_wp2
 go_loopg [6] l.length (fun k v6 wr=> ∃(i:Nat) (l2:List R) (off:Nat) (bs':List UInt8),v6= .int .i64 (i:Int)∧Hid (i+k=l.length)∧Hid (l2.length=k)∧Hid (KidsO X off off2 l2)∧Hid (Togo bs' (arrR [93] i l2) bs res)∧St X off bs' wr∧Gr X.B [X.d,X.wb] w wr)
 case atStart=>exact ⟨0,l,off+1,_,by go_num,Nat.zero_add _,rfl,hKids,L2,h2,G2⟩
 case round=>
  obtain ⟨i,l2,off3,bs3,rfl,hi,hlk,hK,L3,h3,G3⟩:=hrel;have i1_3:=h3.i1;have i2_3:=h3.i2;by_cases hk:gk=0
  ·subst hk;obtain rfl:=List.eq_nil_of_length_eq_zero hlk.out;obtain ⟨hl3,hb3,rfl⟩: ∃hl:off3<X.xs.length,X.xs[off3].toNat=255∧off2=off3+1:=by cases hK.out with|nil a b=>exact ⟨a,b,rfl⟩
   have KB:=Hz (foundBreak_yes h3.dec hl3 (by simp [hb3]))
   go_wp2_with fail
   refine KB.out.mono ?_
   rintro e w4 ⟨rfl,hD4,hF4⟩;have h4:=h3.moved hF4 hD4;have G4:=G3.trans (h3.grF hF4);have i2_4:=h4.i2;have K5:=Hz (fun n=>writeByte (h4.drewN n).buf h4.lw (h4.drewN n).hB 93 (L3.out.lt1 hlen))
   go_wp2_with fail
   refine (K5.out 0).mono ?_
   rintro e w5 ⟨rfl,hb5,hg5⟩;have h5:=h4.wrote hg5 hb5;have G5:=G4.trans (St.grW hg5);go_wp2;go_ret
   exact IPost.done h5 G5 L3.out
  ·obtain ⟨g,rfl⟩: ∃g,gk=g+1:=⟨gk-1,by omega⟩
   clear hk;have hi64:i≤2147483647:=by have:=hi.out;omega
   obtain ⟨r5,l5,rfl⟩: ∃r l',l2=r::l':=by
    cases l2 with
    |nil=>have:=hlk.out;simp at this
    |cons r l'=>exact ⟨r,l',rfl⟩
   obtain ⟨hl3,hb3,mid,C5,hK5⟩: ∃hl:off3<X.xs.length,X.xs[off3].toNat≠255∧ ∃mid,ItemC X off3 mid r5∧KidsO X mid off2 l5:=by cases hK.out with|cons a b c d=>exact ⟨a,b,_,c,d⟩
   replace C5:=Hz C5;replace hK5:=Hz hK5;have hl5:Hid (l5.length=g):=Hz (by have:=hlk.out;simp at this;exact this)
   replace L3:=Hz (show Togo bs3 (thenR (txt (if i=0 then [] else [44,32])) (thenR r5 (arrR [93] (i+1) l5))) bs res from L3.out)
   have KB:=Hz (foundBreak_no h3.dec hl3 (by simp;omega))
   clear hb3;go_wp2_with fail
   refine KB.out.mono ?_
   rintro e w4 ⟨rfl,m4,rfl⟩;have h4:=h3.drewN m4;have G4:=G3.drewN m4;have i2_4:=h4.i2;by_cases h0:i=0
   ·have t3: ¬(0:Int)<(i:Int):=by omega
    have L4:=Hz L3.out.tx;rw [if_pos h0,List.append_nil] at L4;have K7:=Hz (C5.out _ _ h4 (L4.out.len1 hlen));go_wp2_with fail
    refine K7.out.mono ?_
    rintro e w7 ⟨v7,o7,rfl,hv7,ho7,h7,hG7⟩;have G7:=G4.trans hG7;rcases hr5:r5.2 with _|k
    ·rw [hr5] at hv7;obtain rfl:=hv7.nil;have L7:=Hz (L4.out.ok hr5);rw [ho7 hr5] at h7;have i1_7:=h7.i1;have i2_7:=h7.i2;go_wp2
     go_roundg g
     case measure=>omega
     case rel=>exact ⟨i+1,l5,mid,_,by go_num,(show i+1+g=l.length by have:=hi.out;omega),hl5,hK5,L7,h7,G7⟩
    ·rw [hr5] at hv7;obtain ⟨t,x,rfl⟩:=hv7.ne;go_wp2;go_ret
     exact IPost.err (w1:=w) hv7 h7 G7 (L4.out.err hr5)
   ·have t3:(0:Int)<(i:Int):=by omega
    have L4':=L3;rw [if_neg h0] at L4';replace L4':=Hz L4';have L4:=Hz L4'.out.tx;have K6:=Hz (fun n=>writeString (h4.drewN n).buf h4.lw (h4.drewN n).hB [44,32] (L4'.out.len_tx hlen))
    go_wp2_with fail
    refine (K6.out 0).mono ?_
    rintro e w6 ⟨⟨u6,rfl⟩,hb6,hg6⟩;have h6:=h4.wrote hg6 hb6;have G6:=G4.trans (St.grW hg6);have i1_6:=h6.i1;have i2_6:=h6.i2;have K7:=Hz (C5.out _ _ h6 (L4.out.len1 hlen));go_wp2_with fail
    refine K7.out.mono ?_
    rintro e w7 ⟨v7,o7,rfl,hv7,ho7,h7,hG7⟩;have G7:=G6.trans hG7;rcases hr5:r5.2 with _|k
    ·rw [hr5] at hv7;obtain rfl:=hv7.nil;have L7:=Hz (L4.out.ok hr5);rw [ho7 hr5] at h7;have i1_7:=h7.i1;have i2_7:=h7.i2;go_wp2
     go_roundg g
     case measure=>omega
     case rel=>exact ⟨i+1,l5,mid,_,by go_num,(show i+1+g=l.length by have:=hi.out;omega),hl5,hK5,L7,h7,G7⟩
    ·rw [hr5] at hv7;obtain ⟨t,x,rfl⟩:=hv7.ne;go_wp2;go_ret
     exact IPost.err (w1:=w) hv7 h7 G7 (L4.out.err hr5)
theorem di_omap (h:St X off bs w) {off2:Nat} {l:List (R×R)} (hl:off<X.xs.length) (hb:X.xs[off].toNat=191) (hKids:KidsO2 X (off+1) off2 l) (hcap:l.length≤2147483647) {res:R} (hres:thenR (txt [123,95,32]) (mapR [125] 0 l)=res) (hlen:bs.length+res.1.length≤room):
  Calls Tryz.prog 105 #[.pointer (some ⟨X.di,0,none⟩)] w (IPost X off2 bs res w):=by
 have k1:=h.i1;have k2:=h.i2;have d0:=h.dec.c0;have d1:=h.dec.c1;have df:=h.dec.f1;have ha:=h.dec.at_ off hl;have hm:=h.dec.len;have g95:((X.xs[off].toNat:Int)==95)=false:=by simp;omega
 have g127:((X.xs[off].toNat:Int)==127)=false:=by simp;omega
 have g159:((X.xs[off].toNat:Int)==159)=false:=by simp;omega
 have g191:((X.xs[off].toNat:Int)==191)=true:=by simp;omega
 generalize (X.xs[off].toNat:Int)=x0 at *
 clear hb;have L0:Togo bs (thenR (txt [123,95,32]) (mapR [125] 0 l)) bs res:=by rw [hres];exact Togo.refl _ _
 replace hres:=Hz hres;replace L0:=Hz L0;replace hKids:=Hz hKids;have b1:(off:Int)<(X.xs.length:Int):=by omega
 have b2:(0:Int)≤(off:Int):=by omega
 have b3:(off:Int).toNat=off:=by omega
 have wo:IntKind.i64.wrap ((off:Int)+1)=((off+1:Nat):Int):=by
  have:=wrap_pos (off+1) (by omega)
  simpa using this
 go_enter Tryz.func105,Tryz.ntmps105
 go_wp2
 go_quiet (fail)
 obtain ⟨h1,G1⟩:=h.step hl nq;have K2:=Hz (writeString h1.buf h1.lw h1.hB [123,95,32] (L0.out.len_tx hlen));go_wp2_with fail
 refine K2.out.mono ?_
 rintro e w2 ⟨⟨u2,rfl⟩,hb2,hg2⟩;have h2:=h1.wrote hg2 hb2;have G2:=G1.trans (St.grW hg2);have L2:=Hz L0.out.tx;clear ha k1 k2 d0 d1 df;go_wp2
 go_loopg [8] l.length (fun k v6 wr=> ∃(i:Nat) (l2:List (R×R)) (off:Nat) (bs':List UInt8),v6= .int .i64 (i:Int)∧Hid (i+k=l.length)∧Hid (l2.length=k)∧Hid (KidsO2 X off off2 l2)∧Hid (Togo bs' (mapR [125] i l2) bs res)∧St X off bs' wr∧Gr X.B [X.d,X.wb] w wr)
 case atStart=>exact ⟨0,l,off+1,_,by go_num,Nat.zero_add _,rfl,hKids,L2,h2,G2⟩
 case round=>
  obtain ⟨i,l2,off3,bs3,rfl,hi,hlk,hK,L3,h3,G3⟩:=hrel;have i1_3:=h3.i1;have i2_3:=h3.i2;by_cases hk:gk=0
  ·subst hk;obtain rfl:=List.eq_nil_of_length_eq_zero hlk.out;obtain ⟨hl3,hb3,rfl⟩: ∃hl:off3<X.xs.length,X.xs[off3].toNat=255∧off2=off3+1:=by cases hK.out with|nil a b=>exact ⟨a,b,rfl⟩
   have KB:=Hz (foundBreak_yes h3.dec hl3 (by simp [hb3]))
   go_wp2_with fail
   refine KB.out.mono ?_
   rintro e w4 ⟨rfl,hD4,hF4⟩;have h4:=h3.moved hF4 hD4;have G4:=G3.trans (h3.grF hF4);have i2_4:=h4.i2;have K5:=Hz (fun n=>writeByte (h4.drewN n).buf h4.lw (h4.drewN n).hB 125 (L3.out.lt1 hlen))
   go_wp2_with fail
   refine (K5.out 0).mono ?_
   rintro e w5 ⟨rfl,hb5,hg5⟩;have h5:=h4.wrote hg5 hb5;have G5:=G4.trans (St.grW hg5);go_wp2;go_ret
   exact IPost.done h5 G5 L3.out
  ·obtain ⟨g,rfl⟩: ∃g,gk=g+1:=⟨gk-1,by omega⟩
   clear hk;have hi64:i≤2147483647:=by have:=hi.out;omega
   obtain ⟨r5,r7,l5,rfl⟩: ∃r s l',l2=(r,s)::l':=by
    cases l2 with
    |nil=>have:=hlk.out;simp at this
    |cons r l'=>exact ⟨r.1,r.2,l',rfl⟩
   obtain ⟨hl3,hb3,mid,mid2,C5,C7,hK5⟩: ∃hl:off3<X.xs.length,X.xs[off3].toNat≠255∧ ∃mid mid2,ItemC X off3 mid r5∧ItemC X mid mid2 r7∧KidsO2 X mid2 off2 l5:=by cases hK.out with|cons a b c d e=>exact ⟨a,b,_,_,c,d,e⟩
   replace C5:=Hz C5;replace C7:=Hz C7;replace hK5:=Hz hK5;have hl5:Hid (l5.length=g):=Hz (by have:=hlk.out;simp at this;exact this)
   replace L3:=Hz (show Togo bs3 (thenR (txt (if i=0 then [] else [44,32])) (thenR r5 (thenR (txt [58,32]) (thenR r7 (mapR [125] (i+1) l5))))) bs res from L3.out)
   have KB:=Hz (foundBreak_no h3.dec hl3 (by simp;omega))
   clear hb3;go_wp2_with fail
   refine KB.out.mono ?_
   rintro e w4 ⟨rfl,m4,rfl⟩;have h4:=h3.drewN m4;have G4:=G3.drewN m4;have i2_4:=h4.i2;by_cases h0:i=0
   ·have t3: ¬(0:Int)<(i:Int):=by omega
    have L4:=Hz L3.out.tx;rw [if_pos h0,List.append_nil] at L4;have K7:=Hz (C5.out _ _ h4 (L4.out.len1 hlen));go_wp2_with fail
    refine K7.out.mono ?_
    rintro e w7 ⟨v7,o7,rfl,hv7,ho7,h7,hG7⟩;have G7:=G4.trans hG7;rcases hr7:r5.2 with _|k
    ·rw [hr7] at hv7;obtain rfl:=hv7.nil;have L7:=Hz (L4.out.ok hr7);rw [ho7 hr7] at h7;have i1_7:=h7.i1;have i2_7:=h7.i2;have K8:=Hz (fun n=>writeString (h7.drewN n).buf h7.lw (h7.drewN n).hB [58,32] (L7.out.len_tx hlen))
     go_wp2_with fail
     refine (K8.out 0).mono ?_
     rintro e w8 ⟨⟨u8,rfl⟩,hb8,hg8⟩;have h8:=h7.wrote hg8 hb8;have G8:=G7.trans (St.grW hg8);have L8:=Hz L7.out.tx;have i1_8:=h8.i1;have i2_8:=h8.i2;have K9:=Hz (C7.out _ _ h8 (L8.out.len1 hlen));go_wp2_with fail
     refine K9.out.mono ?_
     rintro e w9 ⟨v9,o9,rfl,hv9,ho9,h9,hG9⟩;have G9:=G8.trans hG9;rcases hr9:r7.2 with _|k
     ·rw [hr9] at hv9;obtain rfl:=hv9.nil;have L9:=Hz (L8.out.ok hr9);rw [ho9 hr9] at h9;have i1_9:=h9.i1;have i2_9:=h9.i2;go_wp2
      go_roundg g
      case measure=>omega
      case rel=>exact ⟨i+1,l5,mid2,_,by go_num,(show i+1+g=l.length by have:=hi.out;omega),hl5,hK5,L9,h9,G9⟩
     ·rw [hr9] at hv9;obtain ⟨t,x,rfl⟩:=hv9.ne;go_wp2;go_ret
      exact IPost.err (w1:=w) hv9 h9 G9 (L8.out.err hr9)
    ·rw [hr7] at hv7;obtain ⟨t,x,rfl⟩:=hv7.ne;go_wp2;go_ret
     exact IPost.err (w1:=w) hv7 h7 G7 (L4.out.err hr7)
   ·have t3:(0:Int)<(i:Int):=by omega
    have L4':=L3;rw [if_neg h0] at L4';replace L4':=Hz L4';have L4:=Hz L4'.out.tx;have K6:=Hz (fun n=>writeString (h4.drewN n).buf h4.lw (h4.drewN n).hB [44,32] (L4'.out.len_tx hlen))
    go_wp2_with fail
    refine (K6.out 0).mono ?_
    rintro e w6 ⟨⟨u6,rfl⟩,hb6,hg6⟩;have h6:=h4.wrote hg6 hb6;have G6:=G4.trans (St.grW hg6);have i1_6:=h6.i1;have i2_6:=h6.i2;have K7:=Hz (C5.out _ _ h6 (L4.out.len1 hlen));go_wp2_with fail
    refine K7.out.mono ?_
    rintro e w7 ⟨v7,o7,rfl,hv7,ho7,h7,hG7⟩;have G7:=G6.trans hG7;rcases hr7:r5.2 with _|k
    ·rw [hr7] at hv7;obtain rfl:=hv7.nil;have L7:=Hz (L4.out.ok hr7);rw [ho7 hr7] at h7;have i1_7:=h7.i1;have i2_7:=h7.i2;have K8:=Hz (fun n=>writeString (h7.drewN n).buf h7.lw (h7.drewN n).hB [58,32] (L7.out.len_tx hlen))
     go_wp2_with fail
     refine (K8.out 0).mono ?_
     rintro e w8 ⟨⟨u8,rfl⟩,hb8,hg8⟩;have h8:=h7.wrote hg8 hb8;have G8:=G7.trans (St.grW hg8);have L8:=Hz L7.out.tx;have i1_8:=h8.i1;have i2_8:=h8.i2;have K9:=Hz (C7.out _ _ h8 (L8.out.len1 hlen));go_wp2_with fail
     refine K9.out.mono ?_
     rintro e w9 ⟨v9,o9,rfl,hv9,ho9,h9,hG9⟩;have G9:=G8.trans hG9;rcases hr9:r7.2 with _|k
     ·rw [hr9] at hv9;obtain rfl:=hv9.nil;have L9:=Hz (L8.out.ok hr9);rw [ho9 hr9] at h9;have i1_9:=h9.i1;have i2_9:=h9.i2;go_wp2
      go_roundg g
      case measure=>omega
      case rel=>exact ⟨i+1,l5,mid2,_,by go_num,(show i+1+g=l.length by have:=hi.out;omega),hl5,hK5,L9,h9,G9⟩
     ·rw [hr9] at hv9;obtain ⟨t,x,rfl⟩:=hv9.ne;go_wp2;go_ret
      exact IPost.err (w1:=w) hv9 h9 G9 (L8.out.err hr9)
    ·rw [hr7] at hv7;obtain ⟨t,x,rfl⟩:=hv7.ne;go_wp2;go_ret
     exact IPost.err (w1:=w) hv7 h7 G7 (L4.out.err hr7)
end
end
end Go.Proofs.YteodinhkhhaafaaGreatDoor
