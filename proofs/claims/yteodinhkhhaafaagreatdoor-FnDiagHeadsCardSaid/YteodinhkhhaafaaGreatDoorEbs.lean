/- Walks of the program, and plain facts. -/
import Derived.Test.YteodinhkhhaafaaGreatDoorEbq
import Derived.Test.YteodinhkhhaafaaGreatDoorEbr
import Derived.Test.YteodinhkhhaafaaGreatDoorEbn
set_option linter.unusedVariables false
set_option linter.unusedSimpArgs false
set_option maxRecDepth 100000
set_option maxHeartbeats 6400000
namespace Go.Proofs.YteodinhkhhaafaaGreatDoor
section
open Go.RowKit
mutual
def AllN (p:Tr→Prop):Tr→Prop
 | .int a b=>p (.int a b)
 | .str a b=>p (.str a b)
 | .chk a l=>p (.chk a l)∧AllNs p l
 | .arr a l=>p (.arr a l)∧AllNs p l
 | .map a l=>p (.map a l)∧AllNs p l
 | .tag a t=>p (.tag a t)∧AllN p t
 | .prim a b=>p (.prim a b)
def AllNs (p:Tr→Prop):List Tr→Prop
 |[]=>True
 |t::l=>AllN p t∧AllNs p l
end
theorem allN_self {p:Tr→Prop} {t:Tr} (h:AllN p t):p t:=by
 cases t<;>rw [AllN] at h<;>first|exact h|exact h.1
theorem allNs_mem {p:Tr→Prop}: ∀{l:List Tr} {u:Tr},AllNs p l→u∈l→AllN p u
 |[],u,_,h=>by cases h
 |t::l,u,hl,h=>by
  rw [AllNs] at hl;rcases List.mem_cons.1 h with rfl|h
  ·exact hl.1
  ·exact allNs_mem hl.2 h
theorem allN_ks {p:Tr→Prop} {t u:Tr} (h:AllN p t) (hu:u∈t.ks):AllN p u:=by
 cases t with
 |chk tx l=>rw [AllN] at h;exact allNs_mem h.2 hu
 |arr o l=>rw [AllN] at h;exact allNs_mem h.2 hu
 |map o l=>rw [AllN] at h;exact allNs_mem h.2 hu
 |tag n t=>rw [AllN] at h;simp [Tr.ks] at hu;subst hu;exact h.2
 |int neg n=>simp [Tr.ks] at hu
 |str tx b=>simp [Tr.ks] at hu
 |prim ai v=>simp [Tr.ks] at hu
def Few (B:Nat) (t:Tr):Prop:=t.ks.length≤B∧(gn t).tex.length≤B
mutual
theorem enc_few {xs:List UInt8}: ∀(t:Tr) (off o:Nat),Enc xs t off o→AllN (Few xs.length) t
 | .int _ _,off,o,h=>by rw [AllN];exact ⟨by simp [Tr.ks],by simp [gn,Gn.tex]⟩
 | .str tx b,off,o,h=>by
  rw [AllN];rw [Enc] at h;obtain ⟨ai,v,o1,h,_,hv,_,rfl,hb⟩:=h;have hl:b.length=v:=by rw [hb];simp;omega
  exact ⟨by simp [Tr.ks],by simp [gn,Gn.tex];omega⟩
 | .chk tx l,off,o,h=>by
  have he:=enc_off _ _ _ h;rw [Enc] at h;obtain ⟨v,o1,h,hc⟩:=h;have:=chunks_off tx l _ _ hc;rw [AllN];exact ⟨⟨by show l.length≤_;omega,by simp [gn,Gn.tex]⟩,chunks_few tx l _ _ hc⟩
 | .arr false l,off,o,h=>by
  rw [Enc] at h;obtain ⟨ai,o1,h,h31,hc⟩:=h;have:=encs_off l _ _ hc (hd_val h).2;rw [AllN];exact ⟨⟨by show l.length≤_;omega,by simp [gn,Gn.tex]⟩,encs_few l _ _ hc⟩
 | .arr true l,off,o,h=>by
  rw [Enc] at h;obtain ⟨v,o1,h,hc⟩:=h;have:=opens_off l _ _ hc;rw [AllN];exact ⟨⟨by show l.length≤_;omega,by simp [gn,Gn.tex]⟩,opens_few l _ _ hc⟩
 | .map false l,off,o,h=>by
  rw [Enc] at h;obtain ⟨ai,v,o1,h,h31,hv,hc⟩:=h;have:=encs_off l _ _ hc (hd_val h).2;rw [AllN];exact ⟨⟨by show l.length≤_;omega,by simp [gn,Gn.tex]⟩,encs_few l _ _ hc⟩
 | .map true l,off,o,h=>by
  rw [Enc] at h;obtain ⟨v,o1,h,h2,hc⟩:=h;have:=opens_off l _ _ hc;rw [AllN];exact ⟨⟨by show l.length≤_;omega,by simp [gn,Gn.tex]⟩,opens_few l _ _ hc⟩
 | .tag n t,off,o,h=>by
  have he:=enc_off _ _ _ h;rw [Enc] at h;obtain ⟨ai,o1,h,hc⟩:=h;rw [AllN];exact ⟨⟨by show 1≤_;omega,by simp [gn,Gn.tex]⟩,enc_few t _ _ hc⟩
 | .prim ai v,off,o,h=>by rw [AllN];exact ⟨by simp [Tr.ks],by simp [gn,Gn.tex]⟩
theorem encs_few {xs:List UInt8}: ∀(l:List Tr) (off o:Nat),Encs xs l off o→AllNs (Few xs.length) l
 |[],off,o,h=>by rw [AllNs];trivial
 |t::l,off,o,h=>by
  rw [Encs] at h;obtain ⟨mid,h1,h2⟩:=h;rw [AllNs];exact ⟨enc_few t _ _ h1,encs_few l _ _ h2⟩
theorem opens_few {xs:List UInt8}: ∀(l:List Tr) (off o:Nat),Opens xs l off o→AllNs (Few xs.length) l
 |[],off,o,h=>by rw [AllNs];trivial
 |t::l,off,o,h=>by
  rw [Opens] at h;obtain ⟨b,mid,_,_,h1,h2⟩:=h;rw [AllNs];exact ⟨enc_few t _ _ h1,opens_few l _ _ h2⟩
theorem chunks_few {xs:List UInt8} (tx:Bool): ∀(l:List Tr) (off o:Nat),Chunks xs tx l off o→AllNs (Few xs.length) l
 |[],off,o,h=>by rw [AllNs];trivial
 |t::l,off,o,h=>by
  rw [Chunks] at h;obtain ⟨b,mid,_,_,_,h1,h2⟩:=h;rw [AllNs];exact ⟨enc_few t _ _ h1,chunks_few tx l _ _ h2⟩
end
def NdIn (w:World) (t:Tr) (kv:Value):Prop:= ∃bl,(∀b,b∈bl→b<w.heap.size)∧NdV w bl (gn t) kv
theorem NdIn.fr {w w':World} {t:Tr} {kv:Value} (h:NdIn w t kv) (hf:Fr [] w w'):NdIn w' t kv:=by
 obtain ⟨bl,h1,h2⟩:=h;exact ⟨bl,fun b hb=>Nat.lt_of_lt_of_le (h1 b hb) hf.size,h2.fr (fun b hb=>hf.block b (h1 b hb) (by simp)) (fun b hb=>hb) _ _⟩
theorem NdIn.kids {w:World} {t:Tr} {kv:Value} (h:NdIn w t kv): ∃ao c g,kv= .slice ao t.ks.length c∧(t.ks≠[]→ao=some ⟨g,0,none⟩∧t.ks.length≤c)∧ ∀j (hj:j<t.ks.length),∃kv',At w g (8*j) (nd (gn t.ks[j]) kv')∧NdIn w t.ks[j] kv':=by
 obtain ⟨bl,h1,h2⟩:=h;rw [ndV_ks,gn_ks] at h2;rcases h2 with ⟨h3,ao,c,rfl⟩|⟨g,c,rfl,h3,h4,h5,h6⟩
 ·have h0:t.ks=[]:=by
   cases hk:t.ks with
   |nil=>rfl
   |cons u l=>rw [hk] at h3;simp [gns] at h3
  exact ⟨ao,c,0,by rw [h0];rfl,fun h=>absurd h0 h,fun j hj=>absurd hj (by rw [h0];simp)⟩
 ·rw [gns_length] at h3;refine ⟨some ⟨g,0,none⟩,c,g,by rw [gns_length],fun _=>⟨rfl,h3⟩,fun j hj=> ?_⟩
  have:=NdFrom.at_ (gns t.ks) 0 j (gn t.ks[j]) h6 (by rw [gns_get,List.getElem?_eq_getElem hj];rfl)
  rw [Nat.zero_add] at this;obtain ⟨kv',q1,q2⟩:=this;exact ⟨kv',q1,bl,h1,q2⟩
theorem NdIn.slice {w:World} {t:Tr} {kv:Value} (h:NdIn w t kv): ∃ao n c,kv= .slice ao n c:=by
 obtain ⟨bl,_,h2⟩:=h;exact h2.slice
theorem levs_take: ∀(l:List Tr) (j:Nat) (hj:j<l.length),Tr.levs (l.take (j+1))=max (Tr.levs (l.take j)) l[j].lev
 |[],j,hj=>by simp at hj
 |t::l,0,hj=>by simp [Tr.levs]
 |t::l,j+1,hj=>by
  simp only [List.take_succ_cons,Tr.levs,List.getElem_cons_succ];rw [levs_take l j (by simpa using hj)]
  omega
theorem levels: ∀(n:Nat) (t:Tr),SizeOf.sizeOf t≤n→t.lev≤1000000→AllN (Few 1000000000) t→ ∀(w:World) (kv:Value),NdIn w t kv→Calls Tryz.prog 53 #[.agg (nd (gn t) kv).toArray] w fun e w'=>e= .returned (.int .i64 (t.lev:Int))∧Fr [] w w':=by
 intro n
 induction n with
 |zero=>intro t h;cases t<;>simp at h<;>omega
 |succ n ih=>
  intro t hn hlv hfew w kv hN;obtain ⟨ao,c,g,rfl,hao,hks⟩:=hN.kids;have hunf:=lev_unf t;have hlk:=(allN_self hfew).1;have hks':Hid (∀(W:World),Fr [] w W→ ∀j (hj:j<t.ks.length),∃kv',At W g (8*j) (nd (gn t.ks[j]) kv')∧(∃ao n c,kv'= .slice ao n c)∧Fr [] w W∧ ∀W',Fr [] W W'→Calls Tryz.prog 53 #[.agg (nd (gn t.ks[j]) kv').toArray] W' fun e w'=>e= .returned (.int .i64 (t.ks[j].lev:Int))∧Fr [] W' w'):=Hz (fun W hW j hj=>by
   obtain ⟨kv',q1,q2⟩:=hks j hj;have hb:g<w.heap.size:=by
    have:=q1 0 _ (by simp [nd];rfl)
    exact World.block_lt_of_cell? w _ this
   have hm:=List.getElem_mem hj;refine ⟨kv',q1.fr (hW.block g hb (by simp)),q2.slice,hW,fun W' hW'=>ih _ ?_ ?_ (allN_ks hfew hm) _ _ (q2.fr (hW.trans hW'))⟩
   ·have:=ks_lt hm;omega
   ·have:=levs_le _ _ hm;omega)
  have hlt:=levs_take t.ks;have hlm: ∀j,Tr.levs (t.ks.take j)≤1000000:=by
   intro j;have h1:Tr.levs (t.ks.take j)≤Tr.levs t.ks:=by
    have: ∀(l:List Tr) j,Tr.levs (l.take j)≤Tr.levs l:=by
     intro l
     induction l with
     |nil=>intro j;simp [Tr.levs]
     |cons a l ih=>intro j;cases j with
      |zero=>simp [Tr.levs]
      |succ j=>simp only [List.take_succ_cons,Tr.levs];have:=ih j;omega
    exact this _ j
   omega
  generalize hK:t.ks=K at *
  obtain ⟨LV,hLV⟩: ∃LV,LV=t.lev:=⟨_,rfl⟩;rw [←hLV] at hunf hlv ⊢;obtain ⟨⟨m,nu,si,op,fl,bi,tx,gk0⟩,hG⟩: ∃G,G=gn t:=⟨_,rfl⟩;rw [←hG] at hunf ⊢;change LV=Tr.levs K+(if 4≤m∧m≤6 then 1 else 0) at hunf
  rw [nd_mk];replace hunf:=Hz hunf;replace hlt:=Hz hlt;replace hao:=Hz hao;replace hlm:=Hz hlm;clear hks hN hG hLV hK;go_enter Tryz.func53,Tryz.ntmps53
  go_wp2_with fail
  go_loopg [3,9] K.length (fun k v3 v9 wr=> ∃j:Nat,v9= .int .i64 (j:Int)∧j+k=K.length∧v3= .int .i64 (Tr.levs (K.take j):Int)∧Fr [] w wr∧wr.heap[w.heap.size]? =some (.cells #[.int .i64 (m:Int),.int .u64 (nu:Int),.int .i64 (si:Int),.bool op,.bool fl,.bool bi,.string ⟨tx.toArray⟩,.slice ao K.length c] 45 (0,0)))
  case atStart=>exact ⟨0,by go_num,by omega,by simp [Tr.levs],(Fr.refl _ _).alloc _,blk_new w _⟩
  case round=>
   obtain ⟨j,rfl,hj,rfl,hF,hb⟩:=hrel;by_cases hk:gk=0
   ·subst hk;obtain rfl:j=K.length:=by omega
    rw [List.take_length];have c0:=cell_blk hb 0;simp only [List.getElem?_toArray,List.getElem?_cons_zero] at c0;have hu:=hunf.out;have hl2:=hlm.out K.length;rw [List.take_length] at hl2;generalize Tr.levs K=Q at *
    clear hb hks' hao;by_cases c4:4≤m
    ·have t4:(4:Int)≤(m:Int):=by omega
     by_cases c6:m≤6
     ·have t6:(m:Int)≤6:=by omega
      rw [if_pos ⟨c4,c6⟩] at hu;subst hu;go_wp2;go_ret
      exact ⟨by go_num,hF⟩
     ·have t6: ¬(m:Int)≤6:=by omega
      rw [if_neg (by omega)] at hu
      subst hu;go_wp2;go_ret
      exact ⟨by go_num,hF⟩
    ·have t4: ¬(4:Int)≤(m:Int):=by omega
     rw [if_neg (by omega)] at hu
     subst hu;go_wp2;go_ret
     exact ⟨by go_num,hF⟩
   ·obtain ⟨q,rfl⟩: ∃q,gk=q+1:=⟨gk-1,by omega⟩
    have hjl:j<K.length:=by omega
    have t1:(j:Int)<(K.length:Int):=by omega
    obtain ⟨kv',hat,⟨ao',n',c',rfl⟩,_,KL⟩:=hks'.out wr hF j hjl;obtain ⟨rfl,hcap⟩:=hao.out (by intro e;rw [e] at hjl;simp at hjl)
    have hst:=hlt.out j hjl;have hl2:=hlm.out (j+1);have hl3:=hlm.out j;replace KL:=Hz KL;obtain ⟨⟨m2,nu2,si2,op2,fl2,bi2,tx2,gk2⟩,hG⟩: ∃G,G=gn K[j]:=⟨_,rfl⟩;rw [←hG] at hat KL;rw [nd_mk] at KL;have e0:=hat 0 _ rfl;have e1:=hat 1 _ rfl;have e2:=hat 2 _ rfl;have e3:=hat 3 _ rfl;have e4:=hat 4 _ rfl;have e5:=hat 5 _ rfl;have e6:=hat 6 _ rfl;have e7:=hat 7 _ rfl;simp only [Gn.maj,Gn.num,Gn.siz,Gn.opn,Gn.flt,Gn.big,Gn.tex] at e0 e1 e2 e3 e4 e5 e6;rw [Nat.mul_comm 8 j] at e0 e1 e2 e3 e4 e5 e6 e7;rw [Nat.add_zero] at e0;clear hat hG;obtain ⟨LJ,hLJ⟩: ∃LJ,LJ=K[j].lev:=⟨_,rfl⟩;obtain ⟨LT,hLT⟩: ∃LT,LT=Tr.levs (K.take (j+1)):=⟨_,rfl⟩;rw [←hLJ] at hst KL;rw [←hLT] at hst hl2;generalize Tr.levs (K.take j)=LQ at *
    replace hLT:=Hz hLT;replace hLJ:=Hz hLJ;replace hb:=Hz hb;have hmax:LT=max LQ LJ:=hst;replace hst:=Hz hst;clear hmax;go_wp2_with fail
    refine (KL.out _ ((Fr.refl _ _).alloc _)).mono ?_
    rintro e w2 ⟨rfl,hf2⟩;go_wp2
    go_roundg q
    case measure=>omega
    case rel=>exact ⟨j+1,by go_num,by omega,by rw [←hLT.out,hst.out];congr 1;omega,hF.trans (((Fr.refl _ _).alloc _).trans hf2),hf2.blk (blk_alloc hb.out _) (by simp)⟩
theorem take_snoc' {α:Type} (l:List α) (i:Nat) (h:i<l.length):l.take (i+1)=l.take i++[l[i]]:=by
 rw [List.take_add_one,List.getElem?_eq_getElem h];rfl
theorem hm_tag {t:Tr} (h:(gn t).maj=6): ∃u,t.ks=[u]∧t.hm=(gn u).maj:=by
 cases t with
 |tag n u=>exact ⟨u,rfl,rfl⟩
 |int neg n=>cases neg<;>simp [gn,Gn.maj] at h
 |str tx b=>cases tx<;>simp [gn,Gn.maj,majS] at h
 |chk tx b=>cases tx<;>simp [gn,Gn.maj,majS] at h
 |arr o l=>simp [gn,Gn.maj] at h
 |map o l=>simp [gn,Gn.maj] at h
 |prim ai v=>simp [gn,Gn.maj] at h
theorem opn_tex {t:Tr} (h:(gn t).opn=true):(gn t).tex=[]:=by
 cases t<;>simp [gn,Gn.opn,Gn.tex] at h ⊢
theorem sound: ∀(n:Nat) (t:Tr),SizeOf.sizeOf t≤n→AllN (Few 1000000000) t→ ∀(w:World) (kv:Value),NdIn w t kv→Calls Tryz.prog 32 #[.agg (nd (gn t) kv).toArray] w fun e w'=>e= .returned (.bool (t.snd Lib.validD))∧Fr [] w w':=by
 intro n
 induction n with
 |zero=>intro t h;cases t<;>simp at h<;>omega
 |succ n ih=>
  intro t hn hfew w kv hN;obtain ⟨ao,c,g,rfl,hao,hks⟩:=hN.kids;have hunf:=snd_unf Lib.validD t;have hlk:=(allN_self hfew).1;have hlt:=(allN_self hfew).2;have htag:= @hm_tag t;have hopn:= @opn_tex t;have hks':Hid (∀(W:World),Fr [] w W→ ∀j (hj:j<t.ks.length),∃kv',At W g (8*j) (nd (gn t.ks[j]) kv')∧(∃ao n c,kv'= .slice ao n c)∧Fr [] w W∧ ∀W',Fr [] W W'→Calls Tryz.prog 32 #[.agg (nd (gn t.ks[j]) kv').toArray] W' fun e w'=>e= .returned (.bool (t.ks[j].snd Lib.validD))∧Fr [] W' w'):=Hz (fun W hW j hj=>by
   obtain ⟨kv',q1,q2⟩:=hks j hj;have hb:g<w.heap.size:=by
    have:=q1 0 _ (by simp [nd];rfl)
    exact World.block_lt_of_cell? w _ this
   have hm:=List.getElem_mem hj;refine ⟨kv',q1.fr (hW.block g hb (by simp)),q2.slice,hW,fun W' hW'=>ih _ ?_ (allN_ks hfew hm) _ _ (q2.fr (hW.trans hW'))⟩
   have:=ks_lt hm;omega)
  obtain ⟨RR,hRR⟩: ∃RR,RR=t.snd Lib.validD:=⟨_,rfl⟩;rw [←hRR] at hunf ⊢;generalize t.hm=hm at *
  generalize hK:t.ks=K at *
  obtain ⟨⟨m,nu,si,op,fl,bi,tx,gk0⟩,hG⟩: ∃G,G=gn t:=⟨_,rfl⟩;rw [←hG] at hunf hlt htag hopn ⊢;change RR=(!(m==3&&(op==false)&& !Lib.validD tx)&& !(m==6&&(nu==2||nu==3)&&hm !=2)&&Tr.snds Lib.validD K) at hunf
  change tx.length≤1000000000 at hlt;change m=6→ ∃u,K=[u]∧hm=(gn u).maj at htag;change op=true→tx=[] at hopn;rw [nd_mk];clear hN hG hK hRR;have hbad1:m=3→Lib.validD tx=false→RR=false:=by
   intro h1 h2;rw [hunf,h1,h2];cases op with
   |false=>simp
   |true=>rw [hopn rfl] at h2;cases h2
  have hbad2:m=6→(nu=2∨nu=3)→hm≠2→RR=false:=by
   intro h1 h2 h3;rw [hunf,h1];rcases h2 with rfl|rfl<;>simp [h3]
  have hno:(∀u,u∈K→u.snd Lib.validD=false→RR=false):=by
   intro u hu h;have:Tr.snds Lib.validD K=false:=by
    cases hs:Tr.snds Lib.validD K with
    |false=>rfl
    |true=>rw [(snds_take _ K).1 hs u hu] at h;cases h
   rw [hunf,this];simp
  have hyes:(¬(m=3∧Lib.validD tx=false))→(¬(m=6∧(nu=2∨nu=3)∧hm≠2))→(∀u,u∈K→u.snd Lib.validD=true)→RR=true:=by
   intro h1 h2 h3;rw [hunf,(snds_take _ K).2 h3];have e1:(m==3&&(op==false)&& !Lib.validD tx)=false:=by
    cases hv:Lib.validD tx with
    |true=>simp
    |false=>have:m≠3:=fun e=>h1 ⟨e,hv⟩;simp [this]
   have e2:(m==6&&(nu==2||nu==3)&&hm !=2)=false:=by
    refine Bool.eq_false_iff.2 fun e=>h2 ?_
    simp at e;exact ⟨e.1.1,e.1.2,e.2⟩
   rw [e1,e2];rfl
  replace hno:=Hz hno;replace hao:=Hz hao;clear hunf hopn;have KV:=Hz (valid tx hlt);by_cases c3:m=3
  ·subst c3;cases hv:Lib.validD tx with
   |false=>
    obtain rfl:RR=false:=hbad1 rfl hv;rw [hv] at KV;clear hks' hao hno hbad1 hbad2 hyes htag hks;go_enter Tryz.func32,Tryz.ntmps32
    go_wp2_with fail
    refine (KV.out _).mono ?_
    rintro e w1 ⟨rfl,rfl⟩;go_wp2;go_ret
    exact ⟨rfl,(Fr.refl _ _).alloc _⟩
   |true=>
    rw [hv] at KV;replace hyes:=Hz (hyes (by rw [hv];simp) (by omega))
    clear hbad1 hbad2 htag hks;go_enter Tryz.func32,Tryz.ntmps32
    go_wp2_with fail
    refine (KV.out _).mono ?_
    rintro e w1 ⟨rfl,rfl⟩;go_wp2_with fail
    go_loopg [40] K.length (fun k v40 wr=> ∃j:Nat,v40= .int .i64 (j:Int)∧j+k=K.length∧Hid (∀u,u∈K.take j→u.snd Lib.validD=true)∧Fr [] w wr)
    case atStart=>exact ⟨0,by go_num,by omega,Hz (by simp),(Fr.refl _ _).alloc _⟩
    case round=>
     obtain ⟨j,rfl,hj,hsj,hF⟩:=hrel;by_cases hk:gk=0
     ·subst hk;obtain rfl:j=K.length:=by omega
      have hfin:=hsj.out;rw [List.take_length] at hfin;have hR:RR=true:=hyes.out hfin;subst hR;clear hks' hao hyes hno;go_wp2;go_ret
      exact ⟨rfl,hF⟩
     ·obtain ⟨q,rfl⟩: ∃q,gk=q+1:=⟨gk-1,by omega⟩
      have hjl:j<K.length:=by omega
      have t1:(j:Int)<(K.length:Int):=by omega
      obtain ⟨kv',hat,⟨ao',n',c',rfl⟩,_,KL⟩:=hks'.out wr hF j hjl;obtain ⟨rfl,hcap⟩:=hao.out (by intro e;rw [e] at hjl;simp at hjl)
      obtain ⟨⟨m2,nu2,si2,op2,fl2,bi2,tx2,gk2⟩,hG⟩: ∃G,G=gn K[j]:=⟨_,rfl⟩;rw [←hG] at hat KL;rw [nd_mk] at KL;have e0:=hat 0 _ rfl;have e1:=hat 1 _ rfl;have e2:=hat 2 _ rfl;have e3:=hat 3 _ rfl;have e4:=hat 4 _ rfl;have e5:=hat 5 _ rfl;have e6:=hat 6 _ rfl;have e7:=hat 7 _ rfl;simp only [Gn.maj,Gn.num,Gn.siz,Gn.opn,Gn.flt,Gn.big,Gn.tex] at e0 e1 e2 e3 e4 e5 e6;rw [Nat.mul_comm 8 j] at e0 e1 e2 e3 e4 e5 e6 e7;rw [Nat.add_zero] at e0;clear hat hG;obtain ⟨BJ,hBJ⟩: ∃BJ,BJ=K[j].snd Lib.validD:=⟨_,rfl⟩;rw [←hBJ] at KL;replace KL:=Hz KL;replace hBJ:=Hz hBJ;go_wp2_with fail
      refine (KL.out _ ((Fr.refl _ _).alloc _)).mono ?_
      rintro e w2 ⟨rfl,hf2⟩;cases BJ with
      |false=>
       have hR:RR=false:=hno.out _ (List.getElem_mem hjl) hBJ.out.symm;subst hR;clear hks' hao hyes hno;go_wp2;go_ret
       exact ⟨rfl,hF.trans (((Fr.refl _ _).alloc _).trans hf2)⟩
      |true=>
       have hsj2:Hid (∀u,u∈K.take (j+1)→u.snd Lib.validD=true):=Hz (fun u hu=>by
        rw [take_snoc' K j hjl] at hu;rcases List.mem_append.1 hu with hu|hu
        ·exact hsj.out u hu
        ·simp at hu;subst hu;exact hBJ.out.symm)
       go_wp2
       go_roundg q
       case measure=>omega
       case rel=>exact ⟨j+1,by go_num,by omega,hsj2,hF.trans (((Fr.refl _ _).alloc _).trans hf2)⟩
  ·have t3:((m:Int)==3)=false:=by simp;omega
   by_cases c6:m=6
   ·obtain ⟨u,hKu,hhm⟩:=htag c6;subst c6;have hK1:K.length=1:=by rw [hKu];rfl
    have h0:(gn (K[0]'(by omega))).maj=hm:=by simp [hKu,hhm]
    clear htag hks hbad1 hKu hhm;by_cases c2:nu=2∨nu=3
    ·obtain ⟨kv',hat,_⟩:=hks'.out w (Fr.refl _ _) 0 (by omega)
     obtain ⟨rfl,hcap⟩:=hao.out (by intro e;rw [e] at hK1;cases hK1)
     have e0:=hat 0 (.int .i64 (hm:Int)) (by rw [←h0];rfl)
     rw [show 8*0+0=0 from rfl] at e0
     have e0': ∀o,(w.alloc o).cell? ⟨g,0,none⟩=some (.int .i64 (hm:Int)):=fun o=>((Fr.refl [] w).alloc o).cell e0 (by simp)
     have t4:(0:Int)<(K.length:Int):=by omega
     clear hat h0;by_cases ch:hm=2
     ·replace hyes:=Hz (hyes (by omega) (by omega))
      subst ch;clear hbad2;rcases c2 with rfl|rfl
      ·go_enter Tryz.func32,Tryz.ntmps32
       go_wp2_with fail
       go_loopg [40] K.length (fun k v40 wr=> ∃j:Nat,v40= .int .i64 (j:Int)∧j+k=K.length∧Hid (∀u,u∈K.take j→u.snd Lib.validD=true)∧Fr [] w wr)
       case atStart=>exact ⟨0,by go_num,by omega,Hz (by simp),(Fr.refl _ _).alloc _⟩
       case round=>
        obtain ⟨j,rfl,hj,hsj,hF⟩:=hrel;by_cases hk:gk=0
        ·subst hk;obtain rfl:j=K.length:=by omega
         have hfin:=hsj.out;rw [List.take_length] at hfin;have hR:RR=true:=hyes.out hfin;subst hR;clear hks' hao hyes hno;go_wp2;go_ret
         exact ⟨rfl,hF⟩
        ·obtain ⟨q,rfl⟩: ∃q,gk=q+1:=⟨gk-1,by omega⟩
         have hjl:j<K.length:=by omega
         have t1:(j:Int)<(K.length:Int):=by omega
         obtain ⟨kv',hat,⟨ao',n',c',rfl⟩,_,KL⟩:=hks'.out wr hF j hjl;have hcap:=hao.out (by intro e;rw [e] at hjl;simp at hjl)
         obtain ⟨⟨m2,nu2,si2,op2,fl2,bi2,tx2,gk2⟩,hG⟩: ∃G,G=gn K[j]:=⟨_,rfl⟩;rw [←hG] at hat KL;rw [nd_mk] at KL;have e0:=hat 0 _ rfl;have e1:=hat 1 _ rfl;have e2:=hat 2 _ rfl;have e3:=hat 3 _ rfl;have e4:=hat 4 _ rfl;have e5:=hat 5 _ rfl;have e6:=hat 6 _ rfl;have e7:=hat 7 _ rfl;simp only [Gn.maj,Gn.num,Gn.siz,Gn.opn,Gn.flt,Gn.big,Gn.tex] at e0 e1 e2 e3 e4 e5 e6;rw [Nat.mul_comm 8 j] at e0 e1 e2 e3 e4 e5 e6 e7;rw [Nat.add_zero] at e0;clear hat hG;obtain ⟨BJ,hBJ⟩: ∃BJ,BJ=K[j].snd Lib.validD:=⟨_,rfl⟩;rw [←hBJ] at KL;replace KL:=Hz KL;replace hBJ:=Hz hBJ;go_wp2_with fail
         refine (KL.out _ ((Fr.refl _ _).alloc _)).mono ?_
         rintro e w2 ⟨rfl,hf2⟩;cases BJ with
         |false=>
          have hR:RR=false:=hno.out _ (List.getElem_mem hjl) hBJ.out.symm;subst hR;clear hks' hao hyes hno;go_wp2;go_ret
          exact ⟨rfl,hF.trans (((Fr.refl _ _).alloc _).trans hf2)⟩
         |true=>
          have hsj2:Hid (∀u,u∈K.take (j+1)→u.snd Lib.validD=true):=Hz (fun u hu=>by
           rw [take_snoc' K j hjl] at hu;rcases List.mem_append.1 hu with hu|hu
           ·exact hsj.out u hu
           ·simp at hu;subst hu;exact hBJ.out.symm)
          go_wp2
          go_roundg q
          case measure=>omega
          case rel=>exact ⟨j+1,by go_num,by omega,hsj2,hF.trans (((Fr.refl _ _).alloc _).trans hf2)⟩
      ·go_enter Tryz.func32,Tryz.ntmps32
       go_wp2_with fail
       go_loopg [40] K.length (fun k v40 wr=> ∃j:Nat,v40= .int .i64 (j:Int)∧j+k=K.length∧Hid (∀u,u∈K.take j→u.snd Lib.validD=true)∧Fr [] w wr)
       case atStart=>exact ⟨0,by go_num,by omega,Hz (by simp),(Fr.refl _ _).alloc _⟩
       case round=>
        obtain ⟨j,rfl,hj,hsj,hF⟩:=hrel;by_cases hk:gk=0
        ·subst hk;obtain rfl:j=K.length:=by omega
         have hfin:=hsj.out;rw [List.take_length] at hfin;have hR:RR=true:=hyes.out hfin;subst hR;clear hks' hao hyes hno;go_wp2;go_ret
         exact ⟨rfl,hF⟩
        ·obtain ⟨q,rfl⟩: ∃q,gk=q+1:=⟨gk-1,by omega⟩
         have hjl:j<K.length:=by omega
         have t1:(j:Int)<(K.length:Int):=by omega
         obtain ⟨kv',hat,⟨ao',n',c',rfl⟩,_,KL⟩:=hks'.out wr hF j hjl;have hcap:=hao.out (by intro e;rw [e] at hjl;simp at hjl)
         obtain ⟨⟨m2,nu2,si2,op2,fl2,bi2,tx2,gk2⟩,hG⟩: ∃G,G=gn K[j]:=⟨_,rfl⟩;rw [←hG] at hat KL;rw [nd_mk] at KL;have e0:=hat 0 _ rfl;have e1:=hat 1 _ rfl;have e2:=hat 2 _ rfl;have e3:=hat 3 _ rfl;have e4:=hat 4 _ rfl;have e5:=hat 5 _ rfl;have e6:=hat 6 _ rfl;have e7:=hat 7 _ rfl;simp only [Gn.maj,Gn.num,Gn.siz,Gn.opn,Gn.flt,Gn.big,Gn.tex] at e0 e1 e2 e3 e4 e5 e6;rw [Nat.mul_comm 8 j] at e0 e1 e2 e3 e4 e5 e6 e7;rw [Nat.add_zero] at e0;clear hat hG;obtain ⟨BJ,hBJ⟩: ∃BJ,BJ=K[j].snd Lib.validD:=⟨_,rfl⟩;rw [←hBJ] at KL;replace KL:=Hz KL;replace hBJ:=Hz hBJ;go_wp2_with fail
         refine (KL.out _ ((Fr.refl _ _).alloc _)).mono ?_
         rintro e w2 ⟨rfl,hf2⟩;cases BJ with
         |false=>
          have hR:RR=false:=hno.out _ (List.getElem_mem hjl) hBJ.out.symm;subst hR;clear hks' hao hyes hno;go_wp2;go_ret
          exact ⟨rfl,hF.trans (((Fr.refl _ _).alloc _).trans hf2)⟩
         |true=>
          have hsj2:Hid (∀u,u∈K.take (j+1)→u.snd Lib.validD=true):=Hz (fun u hu=>by
           rw [take_snoc' K j hjl] at hu;rcases List.mem_append.1 hu with hu|hu
           ·exact hsj.out u hu
           ·simp at hu;subst hu;exact hBJ.out.symm)
          go_wp2
          go_roundg q
          case measure=>omega
          case rel=>exact ⟨j+1,by go_num,by omega,hsj2,hF.trans (((Fr.refl _ _).alloc _).trans hf2)⟩
     ·obtain rfl:RR=false:=hbad2 rfl c2 ch;have t5:((hm:Int)==2)=false:=by simp;omega
      have t6: ¬(hm:Int)=2:=by omega
      clear hyes hno hks' hao hbad2;rcases c2 with rfl|rfl
      all_goals
       go_enter Tryz.func32,Tryz.ntmps32
       go_wp2;go_ret
       exact ⟨rfl,(Fr.refl _ _).alloc _⟩
    ·replace hyes:=Hz (hyes (by omega) (by omega))
     have t5:((nu:Int)==2)=false:=by simp;omega
     have t6:((nu:Int)==3)=false:=by simp;omega
     clear hbad2 h0 hK1;go_enter Tryz.func32,Tryz.ntmps32
     go_wp2_with fail
     go_loopg [40] K.length (fun k v40 wr=> ∃j:Nat,v40= .int .i64 (j:Int)∧j+k=K.length∧Hid (∀u,u∈K.take j→u.snd Lib.validD=true)∧Fr [] w wr)
     case atStart=>exact ⟨0,by go_num,by omega,Hz (by simp),(Fr.refl _ _).alloc _⟩
     case round=>
      obtain ⟨j,rfl,hj,hsj,hF⟩:=hrel;by_cases hk:gk=0
      ·subst hk;obtain rfl:j=K.length:=by omega
       have hfin:=hsj.out;rw [List.take_length] at hfin;have hR:RR=true:=hyes.out hfin;subst hR;clear hks' hao hyes hno;go_wp2;go_ret
       exact ⟨rfl,hF⟩
      ·obtain ⟨q,rfl⟩: ∃q,gk=q+1:=⟨gk-1,by omega⟩
       have hjl:j<K.length:=by omega
       have t1:(j:Int)<(K.length:Int):=by omega
       obtain ⟨kv',hat,⟨ao',n',c',rfl⟩,_,KL⟩:=hks'.out wr hF j hjl;obtain ⟨rfl,hcap⟩:=hao.out (by intro e;rw [e] at hjl;simp at hjl)
       obtain ⟨⟨m2,nu2,si2,op2,fl2,bi2,tx2,gk2⟩,hG⟩: ∃G,G=gn K[j]:=⟨_,rfl⟩;rw [←hG] at hat KL;rw [nd_mk] at KL;have e0:=hat 0 _ rfl;have e1:=hat 1 _ rfl;have e2:=hat 2 _ rfl;have e3:=hat 3 _ rfl;have e4:=hat 4 _ rfl;have e5:=hat 5 _ rfl;have e6:=hat 6 _ rfl;have e7:=hat 7 _ rfl;simp only [Gn.maj,Gn.num,Gn.siz,Gn.opn,Gn.flt,Gn.big,Gn.tex] at e0 e1 e2 e3 e4 e5 e6;rw [Nat.mul_comm 8 j] at e0 e1 e2 e3 e4 e5 e6 e7;rw [Nat.add_zero] at e0;clear hat hG;obtain ⟨BJ,hBJ⟩: ∃BJ,BJ=K[j].snd Lib.validD:=⟨_,rfl⟩;rw [←hBJ] at KL;replace KL:=Hz KL;replace hBJ:=Hz hBJ;go_wp2_with fail
       refine (KL.out _ ((Fr.refl _ _).alloc _)).mono ?_
       rintro e w2 ⟨rfl,hf2⟩;cases BJ with
       |false=>
        have hR:RR=false:=hno.out _ (List.getElem_mem hjl) hBJ.out.symm;subst hR;clear hks' hao hyes hno;go_wp2;go_ret
        exact ⟨rfl,hF.trans (((Fr.refl _ _).alloc _).trans hf2)⟩
       |true=>
        have hsj2:Hid (∀u,u∈K.take (j+1)→u.snd Lib.validD=true):=Hz (fun u hu=>by
         rw [take_snoc' K j hjl] at hu;rcases List.mem_append.1 hu with hu|hu
         ·exact hsj.out u hu
         ·simp at hu;subst hu;exact hBJ.out.symm)
        go_wp2
        go_roundg q
        case measure=>omega
        case rel=>exact ⟨j+1,by go_num,by omega,hsj2,hF.trans (((Fr.refl _ _).alloc _).trans hf2)⟩
   ·replace hyes:=Hz (hyes (by omega) (by omega))
    have t5:((m:Int)==6)=false:=by simp;omega
    clear hbad1 hbad2 htag hks;go_enter Tryz.func32,Tryz.ntmps32
    go_wp2_with fail
    go_loopg [40] K.length (fun k v40 wr=> ∃j:Nat,v40= .int .i64 (j:Int)∧j+k=K.length∧Hid (∀u,u∈K.take j→u.snd Lib.validD=true)∧Fr [] w wr)
    case atStart=>exact ⟨0,by go_num,by omega,Hz (by simp),(Fr.refl _ _).alloc _⟩
    case round=>
     obtain ⟨j,rfl,hj,hsj,hF⟩:=hrel;by_cases hk:gk=0
     ·subst hk;obtain rfl:j=K.length:=by omega
      have hfin:=hsj.out;rw [List.take_length] at hfin;have hR:RR=true:=hyes.out hfin;subst hR;clear hks' hao hyes hno;go_wp2;go_ret
      exact ⟨rfl,hF⟩
     ·obtain ⟨q,rfl⟩: ∃q,gk=q+1:=⟨gk-1,by omega⟩
      have hjl:j<K.length:=by omega
      have t1:(j:Int)<(K.length:Int):=by omega
      obtain ⟨kv',hat,⟨ao',n',c',rfl⟩,_,KL⟩:=hks'.out wr hF j hjl;obtain ⟨rfl,hcap⟩:=hao.out (by intro e;rw [e] at hjl;simp at hjl)
      obtain ⟨⟨m2,nu2,si2,op2,fl2,bi2,tx2,gk2⟩,hG⟩: ∃G,G=gn K[j]:=⟨_,rfl⟩;rw [←hG] at hat KL;rw [nd_mk] at KL;have e0:=hat 0 _ rfl;have e1:=hat 1 _ rfl;have e2:=hat 2 _ rfl;have e3:=hat 3 _ rfl;have e4:=hat 4 _ rfl;have e5:=hat 5 _ rfl;have e6:=hat 6 _ rfl;have e7:=hat 7 _ rfl;simp only [Gn.maj,Gn.num,Gn.siz,Gn.opn,Gn.flt,Gn.big,Gn.tex] at e0 e1 e2 e3 e4 e5 e6;rw [Nat.mul_comm 8 j] at e0 e1 e2 e3 e4 e5 e6 e7;rw [Nat.add_zero] at e0;clear hat hG;obtain ⟨BJ,hBJ⟩: ∃BJ,BJ=K[j].snd Lib.validD:=⟨_,rfl⟩;rw [←hBJ] at KL;replace KL:=Hz KL;replace hBJ:=Hz hBJ;go_wp2_with fail
      refine (KL.out _ ((Fr.refl _ _).alloc _)).mono ?_
      rintro e w2 ⟨rfl,hf2⟩;cases BJ with
      |false=>
       have hR:RR=false:=hno.out _ (List.getElem_mem hjl) hBJ.out.symm;subst hR;clear hks' hao hyes hno;go_wp2;go_ret
       exact ⟨rfl,hF.trans (((Fr.refl _ _).alloc _).trans hf2)⟩
      |true=>
       have hsj2:Hid (∀u,u∈K.take (j+1)→u.snd Lib.validD=true):=Hz (fun u hu=>by
        rw [take_snoc' K j hjl] at hu;rcases List.mem_append.1 hu with hu|hu
        ·exact hsj.out u hu
        ·simp at hu;subst hu;exact hBJ.out.symm)
       go_wp2
       go_roundg q
       case measure=>omega
       case rel=>exact ⟨j+1,by go_num,by omega,hsj2,hF.trans (((Fr.refl _ _).alloc _).trans hf2)⟩
end
section
open Go.RowKit
def L0:Lim:=⟨32,131072,131072⟩
theorem arrR_text (c:List UInt8): ∀(l:List R) (i:Nat),(∀r,r∈l→r.2=none)→arrR c i l=txt (joinS false i (l.map (·.1))++c)
 |[],i,_=>by rw [arrR,List.map_nil,joinS,List.nil_append]
 |r::l,i,h=>by
  rw [arrR,thenR_txt,thenR_ok (h r (List.mem_cons_self ..)),arrR_text c l (i+1) (fun q hq=>h q (List.mem_cons_of_mem _ hq)),List.map_cons,joinS]
  have e:sepS false i=if i=0 then [] else [44,32]:=by
   unfold sepS;by_cases h0:i=0
   ·subst h0;rfl
   ·simp [h0,Nat.pos_of_ne_zero h0]
  simp [txt,e]
structure NOk (N:Nt):Prop where
 tx: ∀b,Lib.validD b=true→(N.tx b).2=none
 bs: ∀n b,(N.big n (.str false b)).2=none
 bc: ∀n l,(N.big n (.chk false l)).2=none
theorem ntA_ok (L:Lim) (M:Md):NOk (ntA L M):=⟨fun b h=>by
 show (if Lib.validD b=true then txt (qT 34 b) else ([],some 10)).2=none
 rw [if_pos h];rfl,fun _ _=>rfl,fun _ _=>rfl⟩
mutual
theorem note_ok {N:Nt} (hN:NOk N): ∀t:Tr,t.snd Lib.validD=true→(note N t).2=none
 | .int false n,_=>by rw [note];rfl
 | .int true n,_=>by rw [note];rfl
 | .str false b,_=>by rw [note];rfl
 | .str true b,h=>by rw [Tr.snd] at h;rw [note];exact hN.tx b h
 | .chk tx [],_=>by rw [note];rfl
 | .chk tx (t::l),h=>by
  rw [Tr.snd] at h;have:=notes_ok hN (t::l) h;rw [notes] at this;rw [note,thenR_txt,arrR_text _ _ _ this]
  rfl
 | .arr o l,h=>by
  rw [Tr.snd] at h;rw [note,thenR_txt,arrR_text _ _ _ (notes_ok hN l h)]
  rfl
 | .map o l,h=>by
  rw [Tr.snd] at h;rw [note,thenR_txt];exact mapR_ok _ (notes N l) 0 (notes_ok hN l h)
 | .tag n t,h=>by
  unfold Tr.snd at h;rw [note];have h2:=(Bool.and_eq_true_iff.1 h).2;by_cases hn:n=2∨n=3
  ·rw [if_pos hn];have h1:=(Bool.and_eq_true_iff.1 h).1;have hb:(!(n==2||n==3))=false:=by rcases hn with rfl|rfl<;>rfl
   rw [hb,Bool.false_or] at h1
   split at h1
   ·exact hN.bs _ _
   ·exact hN.bc _ _
   ·cases h1
  ·rw [if_neg hn,thenR_txt,thenR_txt,thenR_ok (note_ok hN t h2)]
   rfl
 | .prim ai v,_=>by
  rw [note];unfold primT
  repeat' split
  all_goals rfl
theorem notes_ok {N:Nt} (hN:NOk N): ∀l:List Tr,Tr.snds Lib.validD l=true→ ∀r,r∈notes N l→r.2=none
 |[],_,r,h=>by rw [notes] at h;cases h
 |t::l,hs,r,h=>by
  rw [Tr.snds] at hs;rw [notes] at h;obtain ⟨h1,h2⟩:=Bool.and_eq_true_iff.1 hs;rcases List.mem_cons.1 h with rfl|h
  ·exact note_ok hN t h1
  ·exact notes_ok hN l h2 r h
theorem mapR_ok (c:List UInt8): ∀(l:List R) (i:Nat),(∀r,r∈l→r.2=none)→(mapR c i (pairs l)).2=none
 |[],i,_=>by show (mapR c i []).2=none;rw [mapR];rfl
 |[a],i,_=>by show (mapR c i []).2=none;rw [mapR];rfl
 |a::b::l,i,h=>by
  rw [pairs,mapR,thenR_txt,thenR_ok (h a (by simp)),thenR_txt,thenR_ok (h b (by simp))]
  exact mapR_ok c l (i+1) (fun q hq=>h q (by simp [hq]))
end
noncomputable def noteT (M:Md) (t:Tr):List UInt8:=(note (ntA L0 M) t).1
theorem note_txt {M:Md} {t:Tr} (h:t.snd Lib.validD=true):note (ntA L0 M) t=txt (noteT M t):=Prod.ext rfl (note_ok (ntA_ok L0 M) t h)
theorem hd_part {xs:List UInt8} {off m ai v o:Nat} (h:hd xs off= .ok (m,ai,v,o)) (pre post:List UInt8):hd (pre++(xs++post)) (pre.length+off)= .ok (m,ai,v,pre.length+o):=by
 unfold hd at h ⊢;cases hb:xs[off]? with
 |none=>rw [hb] at h;cases h
 |some b=>
  rw [hb] at h;obtain ⟨hl,_⟩:=List.getElem?_eq_some_iff.1 hb;have e:(pre++(xs++post))[pre.length+off]? =some b:=by
   rw [List.getElem?_append_right (by omega),Nat.add_sub_cancel_left,List.getElem?_append_left hl,hb]
  rw [e];dsimp only at h ⊢;have hd1: ∀n,off+1+n≤xs.length→((pre++(xs++post)).drop (pre.length+off+1)).take n=(xs.drop (off+1)).take n:=fun n hn=>by
   rw [Nat.add_assoc,List.drop_append,List.drop_eq_nil_of_le (by omega),List.nil_append,Nat.add_sub_cancel_left,List.drop_append_of_le_length (by omega),List.take_append_of_le_length (by rw [List.length_drop];omega)]
  split at h
  ·rename_i c;rw [if_pos c];cases h;rfl
  ·rename_i c;rw [if_neg c]
   split at h
   ·rename_i c2;rw [if_pos c2]
    split at h
    ·cases h
    ·rename_i c3;have hp:1≤2^(b.toNat%32-24):=Nat.one_le_two_pow;rw [if_neg (by simp only [List.length_append];omega),hd1 1 (by omega),hd1 _ (by omega)]
     split at h
     ·cases h
     ·rename_i c4;rw [if_neg c4];injection h with h
      simp only [Prod.mk.injEq] at h;obtain ⟨e1,e2,e3,e4⟩:=h;have e5:pre.length+off+1+2^(b.toNat%32-24)=pre.length+o:=by omega
      rw [e5,e1,e3,e2]
   ·rename_i c2;rw [if_neg c2]
    split at h
    ·rename_i c3;rw [if_pos c3]
     split at h
     ·cases h
     ·rename_i c4;rw [if_neg c4];cases h
      rfl
    ·cases h
theorem getE_part {xs:List UInt8} {off:Nat} {b:UInt8} (h:xs[off]? =some b) (pre post:List UInt8):(pre++(xs++post))[pre.length+off]? =some b:=by
 obtain ⟨hl,_⟩:=List.getElem?_eq_some_iff.1 h;rw [List.getElem?_append_right (by omega),Nat.add_sub_cancel_left,List.getElem?_append_left hl,h]
mutual
theorem enc_part {xs:List UInt8} (pre post:List UInt8): ∀(t:Tr) (off o:Nat),Enc xs t off o→Enc (pre++(xs++post)) t (pre.length+off) (pre.length+o)
 | .int neg n,off,o,h=>by
  rw [Enc] at h ⊢;obtain ⟨ai,h⟩:=h;exact ⟨ai,hd_part h pre post⟩
 | .str tx b,off,o,h=>by
  rw [Enc] at h ⊢;obtain ⟨ai,v,o1,h,h31,hv,h63,rfl,hb⟩:=h;refine ⟨ai,v,pre.length+o1,hd_part h pre post,h31,by simp only [List.length_append];omega,h63,by omega,?_⟩
  rw [hb,List.drop_append,show List.drop (pre.length+o1) pre=[] from List.drop_eq_nil_of_le (by omega),List.nil_append,Nat.add_sub_cancel_left,List.drop_append_of_le_length (by omega),List.take_append_of_le_length (by rw [List.length_drop];omega)]
 | .chk tx l,off,o,h=>by
  rw [Enc] at h ⊢;obtain ⟨v,o1,h,hc⟩:=h;exact ⟨v,_,hd_part h pre post,chunks_part pre post tx l _ _ hc⟩
 | .arr false l,off,o,h=>by
  rw [Enc] at h ⊢;obtain ⟨ai,o1,h,h31,hc⟩:=h;exact ⟨ai,_,hd_part h pre post,h31,encs_part pre post l _ _ hc⟩
 | .arr true l,off,o,h=>by
  rw [Enc] at h ⊢;obtain ⟨v,o1,h,hc⟩:=h;exact ⟨v,_,hd_part h pre post,opens_part pre post l _ _ hc⟩
 | .map false l,off,o,h=>by
  rw [Enc] at h ⊢;obtain ⟨ai,v,o1,h,h31,hv,hc⟩:=h;exact ⟨ai,v,_,hd_part h pre post,h31,hv,encs_part pre post l _ _ hc⟩
 | .map true l,off,o,h=>by
  rw [Enc] at h ⊢;obtain ⟨v,o1,h,h2,hc⟩:=h;exact ⟨v,_,hd_part h pre post,h2,opens_part pre post l _ _ hc⟩
 | .tag n t,off,o,h=>by
  rw [Enc] at h ⊢;obtain ⟨ai,o1,h,hc⟩:=h;exact ⟨ai,_,hd_part h pre post,enc_part pre post t _ _ hc⟩
 | .prim ai v,off,o,h=>by
  rw [Enc] at h ⊢;exact hd_part h pre post
theorem encs_part {xs:List UInt8} (pre post:List UInt8): ∀(l:List Tr) (off o:Nat),Encs xs l off o→Encs (pre++(xs++post)) l (pre.length+off) (pre.length+o)
 |[],off,o,h=>by rw [Encs] at h ⊢;rw [h]
 |t::l,off,o,h=>by
  rw [Encs] at h ⊢;obtain ⟨mid,h1,h2⟩:=h;exact ⟨_,enc_part pre post t _ _ h1,encs_part pre post l _ _ h2⟩
theorem opens_part {xs:List UInt8} (pre post:List UInt8): ∀(l:List Tr) (off o:Nat),Opens xs l off o→Opens (pre++(xs++post)) l (pre.length+off) (pre.length+o)
 |[],off,o,h=>by
  rw [Opens] at h ⊢;obtain ⟨b,h1,h2,rfl⟩:=h;exact ⟨b,getE_part h1 pre post,h2,by omega⟩
 |t::l,off,o,h=>by
  rw [Opens] at h ⊢;obtain ⟨b,mid,h1,h2,h3,h4⟩:=h;exact ⟨b,_,getE_part h1 pre post,h2,enc_part pre post t _ _ h3,opens_part pre post l _ _ h4⟩
theorem chunks_part {xs:List UInt8} (pre post:List UInt8) (tx:Bool): ∀(l:List Tr) (off o:Nat),Chunks xs tx l off o→Chunks (pre++(xs++post)) tx l (pre.length+off) (pre.length+o)
 |[],off,o,h=>by
  rw [Chunks] at h ⊢;obtain ⟨b,h1,h2,rfl⟩:=h;exact ⟨b,getE_part h1 pre post,h2,by omega⟩
 |t::l,off,o,h=>by
  rw [Chunks] at h ⊢;obtain ⟨b,mid,h1,h2,hs,h3,h4⟩:=h;exact ⟨b,_,getE_part h1 pre post,h2,hs,enc_part pre post t _ _ h3,chunks_part pre post tx l _ _ h4⟩
end
mutual
theorem fits_few {B:Nat} {L:Lim} (h1:B≤L.el) (h2:B≤2*L.pa): ∀t:Tr,AllN (Few B) t→t.fits L
 | .int _ _,_=>by rw [Tr.fits]<;>simp
 | .str _ _,_=>by rw [Tr.fits]<;>simp
 | .chk _ _,_=>by rw [Tr.fits]<;>simp
 | .prim _ _,_=>by rw [Tr.fits]<;>simp
 | .arr o l,h=>by
  rw [AllN] at h;have:=h.1.1;rw [Tr.ks] at this;rw [Tr.fits];exact ⟨by omega,fitss_few h1 h2 l h.2⟩
 | .map o l,h=>by
  rw [AllN] at h;have:=h.1.1;rw [Tr.ks] at this;rw [Tr.fits];exact ⟨by omega,fitss_few h1 h2 l h.2⟩
 | .tag n t,h=>by
  rw [AllN] at h;rw [Tr.fits];exact fits_few h1 h2 t h.2
theorem fitss_few {B:Nat} {L:Lim} (h1:B≤L.el) (h2:B≤2*L.pa): ∀l:List Tr,AllNs (Few B) l→Tr.fitss L l
 |[],_=>by rw [Tr.fitss];trivial
 |t::l,h=>by
  rw [AllNs] at h;rw [Tr.fitss];exact ⟨fits_few h1 h2 t h.1,fitss_few h1 h2 l h.2⟩
end
theorem enc_fits {xs:List UInt8} {t:Tr} {off o:Nat} (h:Enc xs t off o) (hx:xs.length≤131072):t.fits L0:=fits_few (B:=xs.length) hx (by show xs.length≤2*131072;omega) t (enc_few t off o h)
theorem itemR_enc {xs:List UInt8} {t:Tr} {off o:Nat} (h:Enc xs t off o) (hx:xs.length≤131072) (hl:t.lev≤32):itemR L0 xs off= .ok (t,o):=
 itemR_of (by decide) (by decide) h (enc_fits h hx) (Nat.le_trans (dp_lev t) hl)
theorem diagR_enc {xs:List UInt8} {t:Tr} {M:Md} (sq:Bool) (h:Enc xs t 0 xs.length) (hx:xs.length≤131072) (hl:t.lev≤32):diagR L0 M sq xs=note (ntA L0 M) t:=by
 have hp:=enc_lt h;have hi:=itemR_enc h hx hl;unfold diagR;cases sq with
 |false=>
  rw [if_neg (by simp)]
  unfold oneR;rw [if_neg (List.ne_nil_of_length_pos hp),hi];dsimp only;rw [if_pos rfl]
 |true=>
  rw [if_pos rfl];unfold seqR;rw [seqF,if_neg (by omega),hi]
  dsimp only;obtain ⟨n,hn⟩: ∃n,xs.length=n+1:=⟨xs.length-1,by omega⟩
  rw [show seqF L0 (ntA L0 M) xs xs.length false xs.length=([],none) by rw [hn,seqF,←hn,if_pos (Nat.le_refl _)];simp,thenR_nil,if_pos rfl,thenR_txt]
  rfl
theorem oneF_enc {xs:List UInt8} {t:Tr} (hx:xs.length≤1000000000) (h:oneF xs=some t):Enc xs t 0 xs.length:=by
 unfold oneF at h;obtain ⟨⟨t2,o⟩,h1,h2⟩:=Option.bind_eq_some_iff.1 h
 split at h2
 ·rename_i ho;injection h2 with h2
  subst h2;have:=tree_enc (by omega) _ _ _ _ h1
  have ho2:o=xs.length:=ho;rw [ho2] at this;exact this
 ·cases h2
end
end Go.Proofs.YteodinhkhhaafaaGreatDoor
