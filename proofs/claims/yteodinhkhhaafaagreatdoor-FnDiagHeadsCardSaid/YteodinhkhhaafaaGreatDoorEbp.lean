/- Walks of the program, and plain facts. -/
import Derived.Test.YteodinhkhhaafaaGreatDoorEbo
import Derived.Test.YteodinhkhhaafaaGreatDoorEay
set_option linter.unusedVariables false
set_option linter.unusedSimpArgs false
set_option maxRecDepth 100000
set_option maxHeartbeats 6400000
namespace Go.Proofs.YteodinhkhhaafaaGreatDoor
section
open Go.RowKit
theorem at_blk {w:World} {b:Nat} {cs:List Value} {t:TypeId} {fr:Nat×Nat} (h:w.heap[b]? =some (.cells cs.toArray t fr)):At w b 0 cs:=fun j u hu=>by
 rw [Nat.zero_add,cell_blk h]
 simpa using hu
theorem NdV.slice {w:World} {bl:List Nat} {g:Gn} {kv:Value} (h:NdV w bl g kv): ∃ao n c,kv= .slice ao n c:=by
 cases g
 rw [NdV] at h;rcases h with ⟨_,ao,c,rfl⟩|⟨g,cap,rfl,_⟩
 ·exact ⟨_,_,_,rfl⟩
 ·exact ⟨_,_,_,rfl⟩
theorem KidRow.shape {w:World} {T:TypeId} {lo:Nat} {v:Value} {l:List Gn} (h:KidRow w T lo v l): ∃ao n c,v= .slice ao n c:=by
 obtain ⟨cs,bl,h1,_⟩:=h;rcases h1.2 with ⟨rfl,_⟩|⟨g,cap,cur,rfl,_⟩
 ·exact ⟨_,_,_,rfl⟩
 ·exact ⟨_,_,_,rfl⟩
theorem KidRow.len {w:World} {T:TypeId} {lo:Nat} {ao:Option Addr} {n c:Nat} {l:List Gn} (h:KidRow w T lo (.slice ao n c) l):n=l.length:=by
 obtain ⟨cs,bl,h1,_⟩:=h;rcases h1.2 with ⟨e,h0⟩|⟨g,cap,cur,e,_⟩
 ·injection e with e1 e2 e3;omega
 ·injection e with e1 e2 e3
theorem KidRow.own {w:World} {T:TypeId} {lo:Nat} {v:Value} {l:List Gn} (h:KidRow w T lo v l): ∀k,v.ownBlock=some k→lo≤k∧k<w.heap.size:=by
 obtain ⟨cs,bl,h1,_⟩:=h;exact World.ownsRow.lt h1
theorem append_block {P:Program} {w:World} {base t ty e:TypeId} {i:TypeInfo} {z:Value} (ht:P.underlying t=some (.slice e)) (hi:P.info? e=some i) (hz:i.zero=some z) {size bytes:Nat} (hsize:i.size=size) (hby:i.bytes=bytes) (hsz:0<size)
  {v:Value} {n:Nat} {xs:List Value} (hown:w.ownsRow base e size v n xs) {a:Addr} {c:Nat} {news:List Value} (hl:news.length=1*size) (hnews: ∀j u,news[j]? =some u→w.cell? (a.add j)=some u) (h1: ∀u∈news,u.oneCell'=true)
  (h63:n+1≤maxLen) (hbytes:(n+1)*bytes≤140737488355328) {v':Value} {w':World} (hr:(Builtin.append_ #[t,t] ty #[v,.slice (some a) 1 c]).run P w= .ok v' w'):v'.ownBlock=v.ownBlock∨v'.ownBlock=some w.heap.size:=by
 subst hsize;subst hby;have hsmall:n+1≤9223372036854775807:=by simp only [maxLen] at h63;omega
 rcases hown.2 with ⟨rfl,rfl⟩|⟨g,cap,cur,rfl,hbg,hg,hnc,hcm,hcs,htake⟩
 ·have h2:=run_append_nil (P:=P) w t ty e i z ht hi hz a 1 c news hl hnews (by omega) (by omega) (by have hb:=hbytes;simp only [Nat.zero_add] at hb;omega)
  rw [h2] at hr;injection hr with e1 e2
  subst e1;exact .inr rfl
 ·by_cases hroom:n+1≤cap
  ·have hfit:n*i.size+news.length≤cur.size:=by rw [hl,hcs,←Nat.add_mul];exact Nat.mul_le_mul_right _ hroom
   have h2:=run_append_room (P:=P) w t ty e i ht hi g n cap cur hg a 1 c news hl hnews h1 hroom hfit;rw [h2] at hr;injection hr with e1 e2
   subst e1;exact .inl rfl
  ·have holds: ∀j u,xs[j]? =some u→w.cell? ((⟨g,0,none⟩:Addr).add j)=some u:=hown.cells (g:=g) rfl;have h2:=run_append_grow (P:=P) w t ty e i z ht hi hz ⟨g,0,none⟩ n cap xs hown.1 holds a 1 c news hl hnews (by omega) (by omega) (growslice_fits (by omega) hbytes)
   rw [h2] at hr;injection hr with e1 e2
   subst e1;exact .inr rfl
theorem Tryz.info45:(Tryz.prog.info? 45).map (fun i=>(i.zero,i.size,i.bytes))=some (some (.agg #[.int .i64 0,.int .u64 0,.int .i64 0,.bool false,.bool false,.bool false,.string ⟨#[]⟩,.slice none 0 0]),8,72):=by kernel_rfl
theorem wpList_apNode {w:World} {ops:Array Oper} {rest:List Oper} {o:Oper} {a:Act} {Q:Exit→Act→World→Prop} (hgd:o.guard=none) (x y:Operand) (ho:o.op= .call {callee:= .builtin .append,args:= #[x,y],argTypes:= #[43,43]})
  {B:Nat} (v:Value) (l:List Gn) (g:Gn) (kv:Value) (b c:Nat) (hs:a.eval x=v) (hx:a.eval y= .slice (some ⟨b,0,none⟩) 1 c) (hr:At w b 0 (nd g kv)) (hown:KidRow w 45 B v l)
  (hk: ∃bl,(∀d,d∈bl→B≤d∧d<w.heap.size∧v.ownBlock≠some d)∧NdV w bl g kv) (hB:B≤w.heap.size) (hl:l.length+1≤1000000000000)
  (h: ∀v' w',KidRow w' 45 B v' (l++[g])→w.grownBy w' v.ownBlock→wpList Tryz.prog ops Q rest (a.put o.dst v') w'):wpList Tryz.prog ops Q (o::rest) a w:=by
 obtain ⟨i0,hi,hzz⟩:=Option.map_eq_some_iff.1 Tryz.info45;simp only [Prod.mk.injEq] at hzz;obtain ⟨hz0,hz1,hz2⟩:=hzz;obtain ⟨cs,bl,c1,c2,c3⟩:=hown;obtain ⟨bl2,d1,d2⟩:=hk;have hsl:=d2.slice;have hone: ∀u∈nd g kv,u.oneCell'=true:=by
  obtain ⟨ao,n,c,rfl⟩:=hsl;intro u hu;simp [nd] at hu;rcases hu with rfl|rfl|rfl|rfl|rfl|rfl|rfl|rfl<;>rfl
 have hn8:(nd g kv).length=1*8:=by simp [nd]
 have hcell: ∀j u,(nd g kv)[j]? =some u→w.cell? ((⟨b,0,none⟩:Addr).add j)=some u:=fun j u hu=>by
  have ha:(⟨b,0,none⟩:Addr).add j=⟨b,0+j,none⟩:=by unfold Addr.add;split<;>simp_all
  rw [ha];exact hr j u hu
 obtain ⟨v',w',hrun,e1,e2,_⟩:=run_append_own (P:=Tryz.prog) w B 43 o.type 45 i0 _ 8 72 Tryz.underlying43 hi hz0 hz1 hz2 rfl (by decide) v l.length cs c1 ⟨b,0,none⟩ 1 c (nd g kv) hn8 hcell hone (by simp only [maxLen];omega) (by omega) hB
 have e3:=append_block (P:=Tryz.prog) Tryz.underlying43 hi hz0 hz1 hz2 (by decide) c1 hn8 hcell hone (by simp only [maxLen];omega) (by omega) hrun
 have e4:KidRow w' 45 B v' (l++[g]):=by
  refine ⟨cs++nd g kv,bl++bl2,by rw [List.length_append];exact e1,fun d hd=> ?_,AllNd.snoc (NdV.fr (fun d hd=>e2.block d (d1 d hd).2.1 (fun e=>(d1 d hd).2.2 e.symm)) (fun d hd=>by simp [hd]) g kv d2) l cs (AllNd.fr (fun d hd=>e2.block d (c2 d hd).2.1 (fun e=>(c2 d hd).2.2 e.symm)) (fun d hd=>by simp [hd]) l cs c3)⟩
  have hd':B≤d∧d<w.heap.size∧v.ownBlock≠some d:=by
   rcases List.mem_append.1 hd with hd|hd
   ·exact c2 d hd
   ·exact d1 d hd
  refine ⟨hd'.1,Nat.lt_of_lt_of_le hd'.2.1 e2.size,fun e=> ?_⟩
  rcases e3 with e3|e3
  ·exact hd'.2.2 (e3▸e)
  ·rw [e3] at e;injection e with e
   omega
 refine wpList_plain hgd fun _ hK=> ?_
 unfold Oper.wp execOp;simp only [ho,resolve,invoke,builtin,Sem.run_bind,Sem.run_pure,Result.andThen_ok,List.map_toArray,List.map_cons,List.map_nil,hs,hx,hrun];exact hK _ _ (h v' w' e4 e2)
theorem cells8 {w:World} {b:Nat} {a0 a1 a2 a3 a4 a5 a6 a7:Value} (h:w.heap[b]? =some (.cells #[a0,a1,a2,a3,a4,a5,a6,a7] 45 (0,0))):
  (w.cell? ⟨b,0,none⟩=some a0∧w.cell? ⟨b,1,none⟩=some a1∧w.cell? ⟨b,2,none⟩=some a2∧w.cell? ⟨b,3,none⟩=some a3∧w.cell? ⟨b,4,none⟩=some a4∧w.cell? ⟨b,5,none⟩=some a5∧w.cell? ⟨b,6,none⟩=some a6∧w.cell? ⟨b,7,none⟩=some a7)∧
  w.frozen? ⟨b,0,none⟩=false∧w.frozen? ⟨b,1,none⟩=false∧w.frozen? ⟨b,2,none⟩=false∧w.frozen? ⟨b,3,none⟩=false∧w.frozen? ⟨b,4,none⟩=false∧w.frozen? ⟨b,5,none⟩=false∧w.frozen? ⟨b,6,none⟩=false∧w.frozen? ⟨b,7,none⟩=false:=
 ⟨⟨cell_blk h 0,cell_blk h 1,cell_blk h 2,cell_blk h 3,cell_blk h 4,cell_blk h 5,cell_blk h 6,cell_blk h 7⟩,frozen_blk h 0,frozen_blk h 1,frozen_blk h 2,frozen_blk h 3,frozen_blk h 4,frozen_blk h 5,frozen_blk h 6,frozen_blk h 7⟩
def TreeP (xs:List UInt8) (r:Option (Tr×Nat)) (w:World) (e:Ending) (w':World):Prop:=
 ∃g kv rest,e= .returned (.tuple #[.agg (nd g kv).toArray,.string rest,.bool r.isSome])∧Fr [] w w'∧(∃ao n c,kv= .slice ao n c)∧
  ∀t o,r=some (t,o)→rest=⟨(xs.drop o).toArray⟩∧g=gn t∧o≤xs.length∧ ∃bl,(∀b,b∈bl→w.heap.size≤b∧b<w'.heap.size)∧NdV w' bl g kv
def KidsP (xs:List UInt8) (m nn:Nat) (o:Bool) (r:Option (List Tr×Nat)) (w:World) (e:Ending) (w':World):Prop:=
 ∃g kv rest,e= .returned (.tuple #[.agg (nd g kv).toArray,.string rest,.bool r.isSome])∧Fr [] w w'∧(∃ao n c,kv= .slice ao n c)∧
  ∀l off,r=some (l,off)→rest=⟨(xs.drop off).toArray⟩∧g= .mk m nn 0 o false false [] (gns l)∧off≤xs.length∧ ∃bl,(∀b,b∈bl→w.heap.size≤b∧b<w'.heap.size)∧NdV w' bl g kv
theorem nd_mk (a b c:Nat) (d e f:Bool) (t:List UInt8) (l:List Gn) (kv:Value):(nd (.mk a b c d e f t l) kv).toArray= #[.int .i64 (a:Int),.int .u64 (b:Int),.int .i64 (c:Int),.bool d,.bool e,.bool f,.string ⟨t.toArray⟩,kv]:=rfl
def zeroG:Gn:= .mk 0 0 0 false false false [] []
theorem kidsF_step (f:Nat→Option (Tr×Nat)) (k off:Nat):kidsF f (k+1) off=(f off).bind fun q=>(kidsF f k q.2).map fun r=>(q.1::r.1,r.2):=by
 rw [kidsF];cases f off with
 |none=>rfl
 |some q=>
  obtain ⟨t,o⟩:=q;dsimp only [Option.bind];cases kidsF f k o with
  |none=>rfl
  |some r=>rfl
theorem map_map_app (l:List Tr) (t:Tr) (p:Option (List Tr×Nat)):(p.map fun r=>(t::r.1,r.2)).map (fun r=>(l++r.1,r.2))=p.map fun r=>(l++[t]++r.1,r.2):=by
 cases p with
 |none=>rfl
 |some r=>simp
def put8 (w:World) (b:Nat) (a0 a1 a2 a3 a4 a5 a6 a7:Value):World:=
 (((((((w.setCell ⟨b,0,none⟩ a0).setCell ⟨b,1,none⟩ a1).setCell ⟨b,2,none⟩ a2).setCell ⟨b,3,none⟩ a3).setCell ⟨b,4,none⟩ a4).setCell ⟨b,5,none⟩ a5).setCell ⟨b,6,none⟩ a6).setCell ⟨b,7,none⟩ a7
theorem Fr.put8 (w:World) (b:Nat) (a0 a1 a2 a3 a4 a5 a6 a7:Value):Fr [b] w (put8 w b a0 a1 a2 a3 a4 a5 a6 a7):=by
 unfold Go.Proofs.YteodinhkhhaafaaGreatDoor.put8
 repeat (first|with_reducible exact Fr.refl _ _|with_reducible refine Fr.setCell ?_ (.inl (by simp)) _)
theorem kids_out {w wr W:World} {S:List Nat} {kv:Value} {ks:List Gn} (hrow:KidRow wr 45 (w.heap.size+2) kv ks) (hW:Fr S wr W) (hS: ∀s,s∈S→s<w.heap.size+2) (g:Gn) (hg:g.ks=ks):
  ∃bl,(∀b,b∈bl→w.heap.size≤b∧b<W.heap.size)∧NdV W bl g kv:=by
 obtain ⟨bl,h1,h2⟩:=(hrow.fr hW hS).kids;exact ⟨bl,fun b hb=>⟨by have:=h1 b hb;omega,(h1 b hb).2⟩,(ndV_ks W bl g kv).2 (by rw [hg];exact h2)⟩
theorem kids {xs:List UInt8} (hlen:xs.length≤1000000000) {k:Nat} (hk1:k≤1000) (IH: ∀off,off≤xs.length→ ∀w,Calls Tryz.prog 72 #[.string ⟨(xs.drop off).toArray⟩,.int .i64 (k:Int)] w (TreeP xs (treeF xs k off) w))
  (m nn:Nat) (o:Bool) (n off:Nat) (hoff:off≤xs.length) (hn:n≤100000000000) (w:World):
  Calls Tryz.prog 97 #[.agg #[.int .i64 (m:Int),.int .u64 (nn:Int),.int .i64 0,.bool o,.bool false,.bool false,.string ⟨#[]⟩,.slice none 0 0],.string ⟨(xs.drop off).toArray⟩,.int .i64 (n:Int),.int .i64 ((k:Int)+1)] w
   (KidsP xs m nn o (kidsF (treeF xs k) n off) w):=by
 replace IH:=Hz IH;generalize hRR:kidsF (treeF xs k) n off=RR;replace hRR:=Hz hRR;have hkk:(k:Int)+1-1=(k:Int):=by omega
 go_enter Tryz.func97,Tryz.ntmps97
 go_wp2
 go_loopg [1,11] n (fun j v1 v11 wr=> ∃(i off':Nat) (l:List Tr) (kv:Value),v1= .string ⟨(xs.drop off').toArray⟩∧v11= .int .i64 (i:Int)∧i+j=n∧off'≤xs.length∧Hid (RR=(kidsF (treeF xs k) j off').map fun r=>(l++r.1,r.2))∧l.length=i∧
  wr.heap[w.heap.size]? =some (.cells #[.int .i64 (m:Int),.int .u64 (nn:Int),.int .i64 0,.bool o,.bool false,.bool false,.string ⟨#[]⟩,kv] 45 (0,0))∧
  wr.heap[w.heap.size+1]? =some (.cells #[.int .i64 0,.int .u64 0,.int .i64 0,.bool false,.bool false,.bool false,.string ⟨#[]⟩,.slice none 0 0] 45 (0,0))∧
  KidRow wr 45 (w.heap.size+2) kv (gns l)∧Fr [] w wr∧w.heap.size+2≤wr.heap.size)
 case atStart=>
  refine ⟨0,off,[],.slice none 0 0,rfl,by go_num,by omega,hoff,?_,rfl,?_,?_,KidRow.nil _ _ _,?_,?_⟩
  ·rw [hRR.out.symm];refine Hz ?_
   cases kidsF (treeF xs k) n off<;>simp
  ·exact blk_alloc (blk_new w _) _
  ·exact blk_new' _ _ (by simp)
  ·exact ((Fr.refl _ _).alloc _).alloc _
  ·simp
 case round=>
  obtain ⟨i,off',l,kv,rfl,rfl,hj,ho',hR,hll,hb0,hb1,hrow,hF,hsz⟩:=hrel;by_cases hk0:gk=0
  ·subst hk0;obtain rfl:i=n:=by omega
   obtain ⟨⟨c0,c1,c2,c3,c4,c5,c6,c7⟩,f0,f1,f2,f3,f4,f5,f6,f7⟩:=cells8 hb0;obtain ⟨⟨d0,d1,d2,d3,d4,d5,d6,d7⟩,g0,g1,g2,g3,g4,g5,g6,g7⟩:=cells8 hb1;have hRt:=hR.out;rw [kidsF] at hRt;simp only [Option.map_some,List.append_nil] at hRt;clear hR hRR hkk;subst hRt;clear hb0 hb1;obtain ⟨ao,kn,kc,rfl⟩:=hrow.shape;go_wp2;refine bodyPost_ret (v:= .tuple #[.agg #[.int .i64 (m:Int),.int .u64 (nn:Int),.int .i64 0,.bool o,.bool false,.bool false,.string ⟨#[]⟩,.slice ao kn kc],.string ⟨(xs.drop off').toArray⟩,.bool true]) (by simp [results,Tryz.results97,go_sem,d0,d1,d2,d3,d4,d5,d6,d7]) rfl ?_
   refine ⟨.mk m nn 0 o false false [] (gns l),.slice ao kn kc,_,rfl,hF.then_ (Fr.put8 _ _ _ _ _ _ _ _ _ _) (by simp),⟨_,_,_,rfl⟩,fun l2 o2 e=> ?_⟩
   injection e with e
   injection e with e1 e2
   subst e1 e2;exact ⟨rfl,rfl,ho',kids_out hrow (Fr.put8 _ _ _ _ _ _ _ _ _ _) (by simp) _ rfl⟩
  ·obtain ⟨g,rfl⟩: ∃g,gk=g+1:=⟨gk-1,by omega⟩
   obtain ⟨ao,kn,kc,rfl⟩:=hrow.shape;have t1:(i:Int)<(n:Int):=by omega
   have hRs:=hR.out;rw [kidsF_step] at hRs;have KT:=Hz (IH.out off' ho' wr);clear hR;replace hRs:=Hz hRs;replace hb0:=Hz hb0;replace hb1:=Hz hb1;go_wp2_with fail
   refine KT.out.mono ?_
   rintro e w1 ⟨g',kv',rest,he,hf,⟨ao',kn',kc',rfl⟩,hs⟩;obtain ⟨a0,a1,a2,b0,b1,b2,tx,gks⟩:=g';rw [nd_mk] at he;have hb0':=hf.blk hb0.out (by simp)
   have hb1':=hf.blk hb1.out (by simp)
   have hF1:=hF.trans hf;cases hT:treeF xs k off' with
   |none=>
    rw [hT] at he;subst he;have hRn:RR=none:=by rw [hRs.out,hT];rfl
    subst hRn;obtain ⟨⟨d0,d1,d2,d3,d4,d5,d6,d7⟩,g0,g1,g2,g3,g4,g5,g6,g7⟩:=cells8 (blk_alloc hb1' (.cells #[.int .i64 (a0:Int),.int .u64 (a1:Int),.int .i64 (a2:Int),.bool b0,.bool b1,.bool b2,.string ⟨tx.toArray⟩,.slice ao' kn' kc'] 45));clear hb0' hb1' hT hs hRs;go_wp2;refine bodyPost_ret (v:= .tuple #[.agg #[.int .i64 0,.int .u64 0,.int .i64 0,.bool false,.bool false,.bool false,.string ⟨#[]⟩,.slice none 0 0],.string ⟨#[]⟩,.bool false]) (by simp [results,Tryz.results97,go_sem,d0,d1,d2,d3,d4,d5,d6,d7]) rfl ?_
    refine ⟨zeroG,.slice none 0 0,_,rfl,?_,⟨_,_,_,rfl⟩,fun l2 o2 e=>by cases e⟩
    exact (hF1.alloc _).then_ (Fr.put8 _ _ _ _ _ _ _ _ _ _) (by simp)
   |some q=>
    obtain ⟨t,o1⟩:=q;rw [hT] at he;subst he;obtain ⟨e1,e2,e3,bl,e4,e5⟩:=hs t o1 hT;subst e1;have hRn:RR=(kidsF (treeF xs k) g o1).map fun r=>(l++[t]++r.1,r.2):=by
     rw [hRs.out,hT];exact map_map_app l t _
    have hAT:Hid (∀(W:World) (b:Nat),W.heap[b]? =some (.cells #[.int .i64 (a0:Int),.int .u64 (a1:Int),.int .i64 (a2:Int),.bool b0,.bool b1,.bool b2,.string ⟨tx.toArray⟩,.slice ao' kn' kc'] 45 (0,0))→At W b 0 (nd (gn t) (.slice ao' kn' kc'))):=Hz (fun W b h=>by rw [←e2];exact at_blk h)
    rw [e2] at e5;clear e2;have hnd:Hid (∀W,Fr [] w1 W→ ∃bl,(∀d,d∈bl→w.heap.size+2≤d∧d<W.heap.size∧(Value.slice ao kn kc).ownBlock≠some d)∧NdV W bl (gn t) (.slice ao' kn' kc')):=Hz (fun W hW=>⟨bl,fun d hd=>⟨by have:=(e4 d hd).1;omega,Nat.lt_of_lt_of_le (e4 d hd).2 hW.size,fun e=>by have:=(hrow.own d e).2;have:=(e4 d hd).1;omega⟩,e5.fr (fun d hd=>hW.block d (e4 d hd).2 (by simp)) (fun d hd=>hd) _ _⟩)
    replace hRn:=Hz hRn;obtain ⟨⟨c0,c1,c2,c3,c4,c5,c6,c7⟩,f0,f1,f2,f3,f4,f5,f6,f7⟩:=cells8 (blk_alloc hb0' (.cells #[.int .i64 (a0:Int),.int .u64 (a1:Int),.int .i64 (a2:Int),.bool b0,.bool b1,.bool b2,.string ⟨tx.toArray⟩,.slice ao' kn' kc'] 45));have hlk:(gns l).length+1≤1000000000000:=by rw [gns_length];omega
    have hs1:=hF1.size;have hs2:=hf.size;replace hb0':=Hz hb0';replace hb1':=Hz hb1';clear hT hs hRs e4 e5;go_wp2_with (at_builtin;refine wpList_apNode rfl _ _ rfl (B:=w.heap.size+2) _ (gns l) (gn t) (.slice ao' kn' kc') (w1.heap.size+1) 1 rfl rfl (hAT.out _ _ (blk_new' _ _ (by simp))) (hrow.fr (S:=[]) ((hf.alloc _).alloc _) (by simp)) (hnd.out _ (((Fr.refl _ _).alloc _).alloc _)) (by simp;omega) hlk ?_)
    intro v' w2 hrow' hg;have hF2:Fr [] w w2:=Fr.grown ((hF1.alloc _).alloc _) hg (fun d hd=> .inr (by have:=(hrow.own d hd).1;omega))
    have hne: ∀d,d<w.heap.size+2→some d≠(Value.slice ao kn kc).ownBlock:=fun d hd e=>by have:=(hrow.own d e.symm).1;omega
    have hB0:=(hg.block w.heap.size (by simp;omega) (hne _ (by omega))).trans (blk_alloc (blk_alloc hb0'.out _) _)
    have hB1:=(hg.block (w.heap.size+1) (by simp;omega) (hne _ (by omega))).trans (blk_alloc (blk_alloc hb1'.out _) _)
    obtain ⟨ao2,kn2,kc2,rfl⟩:=hrow'.shape;have k7:=cell_blk hB0 7;have q7:=frozen_blk hB0 7;have hs3:=hg.size;simp only [List.getElem?_toArray,List.getElem?_cons_zero,List.getElem?_cons_succ] at k7;replace hB0:=Hz hB0;replace hB1:=Hz hB1;clear hne hg hlk c0 c1 c2 c3 c4 c5 c6 c7 f0 f1 f2 f3 f4 f5 f6 f7;go_wp2
    go_roundg g
    case measure=>omega
    case rel=>
     have hW:Fr [w.heap.size] w2 (w2.setCell ⟨w.heap.size,7,none⟩ (.slice ao2 kn2 kc2)):=(Fr.refl _ _).setCell (.inl (by simp)) _
     refine ⟨i+1,o1,l++[t],.slice ao2 kn2 kc2,rfl,by go_num,by omega,e3,hRn,by simp;omega,blk_setCell hB0.out 7 _,blk_setCell_ne hB1.out (by simp) _,?_,hF2.then_ hW (by simp),?_⟩
     ·rw [gns_append];exact hrow'.fr hW (by simp)
     ·have:=hW.size;simp at hs3;omega
theorem openF_step (f:Nat→Option (Tr×Nat)) (ok:Tr→Bool) (xs:List UInt8) (g off:Nat) (b:UInt8) (hb:xs[off]? =some b) (h255:b.toNat≠255):
  openF f ok xs (g+1) off=(f off).bind fun q=>if ok q.1 then (openF f ok xs g q.2).map fun r=>(q.1::r.1,r.2) else none:=by
 rw [openF,hb];dsimp only;rw [if_neg h255];cases f off with
 |none=>rfl
 |some q=>
  obtain ⟨t,o⟩:=q;dsimp only [Option.bind];cases ok t with
  |false=>rfl
  |true=>
   rw [if_pos rfl,if_pos rfl];cases openF f ok xs g o with
   |none=>rfl
   |some r=>rfl
theorem opn_fail {w W:World} {xs:List UInt8} {m nn:Nat} (hF:Fr [] w W):
  KidsP xs m nn true none w (.returned (.tuple #[.agg #[.int .i64 0,.int .u64 0,.int .i64 0,.bool false,.bool false,.bool false,.string ⟨#[]⟩,.slice none 0 0],.string ⟨#[]⟩,.bool false])) W:=
 ⟨zeroG,.slice none 0 0,_,rfl,hF,⟨_,_,_,rfl⟩,fun l2 o2 e=>by cases e⟩
theorem opens {xs:List UInt8} (hlen:xs.length≤1000000000) {k:Nat} (hk1:k≤1000) (IH: ∀off,off≤xs.length→ ∀w,Calls Tryz.prog 72 #[.string ⟨(xs.drop off).toArray⟩,.int .i64 (k:Int)] w (TreeP xs (treeF xs k off) w))
  (m nn:Nat) (okF:Tr→Bool) (hok: ∀t,okF t= !(decide (m<4)&&(!decide ((gn t).maj=m)||(gn t).opn))) (G off:Nat) (hG:xs.length-off<G) (hoff:off≤xs.length) (w:World):
  Calls Tryz.prog 96 #[.agg #[.int .i64 (m:Int),.int .u64 (nn:Int),.int .i64 0,.bool true,.bool false,.bool false,.string ⟨#[]⟩,.slice none 0 0],.string ⟨(xs.drop off).toArray⟩,.int .i64 ((k:Int)+1)] w
   (KidsP xs m nn true ((openF (treeF xs k) okF xs G off).bind fun r=>if m=5∧r.1.length%2≠0 then none else some r) w):=by
 replace IH:=Hz IH;generalize hQQ:openF (treeF xs k) okF xs G off=QQ;generalize hRR:(QQ.bind fun r=>if m=5∧r.1.length%2≠0 then none else some r)=RR
 replace hQQ:=Hz hQQ;replace hRR:=Hz hRR;replace hok:=Hz hok;have hkk:(k:Int)+1-1=(k:Int):=by omega
 go_enter Tryz.func96,Tryz.ntmps96
 go_wp2
 go_loopg [1] G (fun j v1 wr=> ∃(off':Nat) (s:List UInt8) (l:List Tr) (kv:Value),v1= .string ⟨s.toArray⟩∧Hid (s=xs.drop off')∧off'≤xs.length∧xs.length-off'<j∧Hid (QQ=(openF (treeF xs k) okF xs j off').map fun r=>(l++r.1,r.2))∧l.length≤off'∧
  wr.heap[w.heap.size]? =some (.cells #[.int .i64 (m:Int),.int .u64 (nn:Int),.int .i64 0,.bool true,.bool false,.bool false,.string ⟨#[]⟩,kv] 45 (0,0))∧
  wr.heap[w.heap.size+1]? =some (.cells #[.int .i64 0,.int .u64 0,.int .i64 0,.bool false,.bool false,.bool false,.string ⟨#[]⟩,.slice none 0 0] 45 (0,0))∧
  KidRow wr 45 (w.heap.size+2) kv (gns l)∧Fr [] w wr∧w.heap.size+2≤wr.heap.size)
 case atStart=>
  refine ⟨off,xs.drop off,[],.slice none 0 0,rfl,Hz rfl,hoff,hG,?_,by simp,?_,?_,KidRow.nil _ _ _,?_,?_⟩
  ·rw [hQQ.out.symm];refine Hz ?_
   cases openF (treeF xs k) okF xs G off<;>simp
  ·exact blk_alloc (blk_new w _) _
  ·exact blk_new' _ _ (by simp)
  ·exact ((Fr.refl _ _).alloc _).alloc _
  ·simp
 case round=>
  obtain ⟨off',s,l,kv,rfl,hs,ho',hj,hR,hll,hb0,hb1,hrow,hF,hsz⟩:=hrel;obtain ⟨g,rfl⟩: ∃g,gk=g+1:=⟨gk-1,by omega⟩
  obtain ⟨ao,kn,kc,rfl⟩:=hrow.shape;cases s with
  |nil=>
   have hx:xs[off']? =none:=by
    have:=hs.out;rw [List.getElem?_eq_none];exact List.drop_eq_nil_iff.1 this.symm
   have hQ:=hR.out;rw [openF,hx] at hQ;have hRt:RR=none:=by rw [←hRR.out,hQ];rfl
   subst hRt;have he:((⟨(#[]:Array UInt8)⟩:ByteArray)==⟨#[]⟩)=true:=by decide
   obtain ⟨⟨d0,d1,d2,d3,d4,d5,d6,d7⟩,g0,g1,g2,g3,g4,g5,g6,g7⟩:=cells8 hb1;clear hQ hR hb0 hb1 hs hx;go_wp2;refine bodyPost_ret (v:= .tuple #[.agg #[.int .i64 0,.int .u64 0,.int .i64 0,.bool false,.bool false,.bool false,.string ⟨#[]⟩,.slice none 0 0],.string ⟨#[]⟩,.bool false]) (by simp [results,Tryz.results96,go_sem,d0,d1,d2,d3,d4,d5,d6,d7]) rfl ?_
   exact opn_fail (hF.then_ (Fr.put8 _ _ _ _ _ _ _ _ _ _) (by simp))
  |cons b r=>
   have hol:off'<xs.length:=by
    have:=congrArg List.length hs.out;simp at this;omega
   have hxd:xs.drop off'=xs[off']::xs.drop (off'+1):=List.drop_eq_getElem_cons hol;have hbr:xs[off']=b∧xs.drop (off'+1)=r:=by
    have:=hs.out;rw [hxd] at this;injection this with e1 e2
    exact ⟨e1.symm,e2.symm⟩
   have hxb:xs[off']? =some b:=by rw [List.getElem?_eq_getElem hol,hbr.1]
   have he:=str_cons_ne b r;have hx0:((⟨(b::r).toArray⟩:ByteArray)[0]'(by show 0<(b::r).toArray.size;simp))=b:=rfl
   have hsz1:(⟨(b::r).toArray⟩:ByteArray).size=r.length+1:=by simp [ByteArray.size]
   have hd1:=str_drop (b::r) 1 (by simp)
   rw [List.length_cons,List.drop_succ_cons,List.drop_zero] at hd1;have hrl:r.length≤xs.length:=by rw [←hbr.2,List.length_drop];omega
   by_cases h255:b.toNat=255
   ·have t1:(b.toNat:Int)=255:=by omega
    have hQ:=hR.out;rw [openF,hxb] at hQ;dsimp only at hQ;rw [if_pos h255] at hQ;simp only [Option.map_some,List.append_nil] at hQ;have hRt:=hRR.out;rw [hQ] at hRt;simp only [Option.bind_some] at hRt;obtain ⟨⟨c0,c1,c2,c3,c4,c5,c6,c7⟩,f0,f1,f2,f3,f4,f5,f6,f7⟩:=cells8 hb0;obtain ⟨⟨d0,d1,d2,d3,d4,d5,d6,d7⟩,g0,g1,g2,g3,g4,g5,g6,g7⟩:=cells8 hb1;have hkn:=hrow.len;rw [gns_length] at hkn;subst hkn;replace hxd:=Hz hxd;have hsucc:Hid (RR=some (l,off'+1)→ ∀W e,Fr [w.heap.size+1] wr W→e= .returned (.tuple #[.agg #[.int .i64 (m:Int),.int .u64 (nn:Int),.int .i64 0,.bool true,.bool false,.bool false,.string ⟨#[]⟩,.slice ao l.length kc],.string ⟨r.toArray⟩,.bool true])→KidsP xs m nn true RR w e W):=Hz (fun hRs W e hW he=>by
     subst hRs;refine ⟨.mk m nn 0 true false false [] (gns l),.slice ao l.length kc,_,he,hF.then_ hW (by simp),⟨_,_,_,rfl⟩,fun l2 o2 e=> ?_⟩
     injection e with e
     injection e with e1 e2
     subst e1 e2;exact ⟨by rw [hbr.2],rfl,by omega,kids_out hrow hW (by simp) _ rfl⟩)
    replace hbr:=Hz hbr;clear hQ hR hb0 hb1 hRR h255 hxb;by_cases hm5:m=5∧l.length%2≠0
    ·rw [if_pos hm5] at hRt;have t2:(m:Int)=5:=by omega
     have t3:((l.length:Int)%2)=1:=by omega
     clear hsucc hm5;subst hRt;go_wp2;refine bodyPost_ret (v:= .tuple #[.agg #[.int .i64 0,.int .u64 0,.int .i64 0,.bool false,.bool false,.bool false,.string ⟨#[]⟩,.slice none 0 0],.string ⟨#[]⟩,.bool false]) (by simp [results,Tryz.results96,go_sem,d0,d1,d2,d3,d4,d5,d6,d7]) rfl ?_
     exact opn_fail (hF.then_ (Fr.put8 _ _ _ _ _ _ _ _ _ _) (by simp))
    ·rw [if_neg hm5] at hRt;replace hsucc:=Hz (hsucc.out hRt.symm);clear hRt;by_cases hm:m=5
     ·have t3:((l.length:Int)%2)=0:=by omega
      clear hm5;obtain rfl:m=5:=hm;go_wp2
      go_region
      all_goals try go_wp2
      all_goals refine bodyPost_ret (v:= .tuple #[.agg #[.int .i64 5,.int .u64 (nn:Int),.int .i64 0,.bool true,.bool false,.bool false,.string ⟨#[]⟩,.slice ao l.length kc],.string ⟨r.toArray⟩,.bool true]) (by simp [results,Tryz.results96,go_sem,d0,d1,d2,d3,d4,d5,d6,d7]) rfl ?_
      all_goals exact hsucc.out _ _ (Fr.drew (Fr.put8 _ _ _ _ _ _ _ _ _ _)) rfl
     ·have t2: ¬(m:Int)=5:=by omega
      clear hm5 hm;go_wp2
      go_region
      all_goals try go_wp2
      all_goals refine bodyPost_ret (v:= .tuple #[.agg #[.int .i64 (m:Int),.int .u64 (nn:Int),.int .i64 0,.bool true,.bool false,.bool false,.string ⟨#[]⟩,.slice ao l.length kc],.string ⟨r.toArray⟩,.bool true]) (by simp [results,Tryz.results96,go_sem,d0,d1,d2,d3,d4,d5,d6,d7]) rfl ?_
      all_goals exact hsucc.out _ _ (Fr.drew (Fr.put8 _ _ _ _ _ _ _ _ _ _)) rfl
   ·have t1: ¬(b.toNat:Int)=255:=by omega
    have hRs:=hR.out;rw [openF_step _ _ _ _ _ b hxb h255] at hRs;have KT:=IH.out off' ho' wr;rw [←hs.out] at KT;replace KT:=Hz KT;clear hR;replace hRs:=Hz hRs;replace hb0:=Hz hb0;replace hb1:=Hz hb1;replace hbr:=Hz hbr;replace hxd:=Hz hxd;clear hxb h255 hd1;go_wp2_with fail
    refine KT.out.mono ?_
    rintro e w1 ⟨g',kv',rest,he2,hf,⟨ao',kn',kc',rfl⟩,hs2⟩;obtain ⟨a0,a1,a2,b0,b1,b2,tx,gks⟩:=g';rw [nd_mk] at he2;have hb0':=hf.blk hb0.out (by simp)
    have hb1':=hf.blk hb1.out (by simp)
    have hF1:=hF.trans hf;cases hT:treeF xs k off' with
    |none=>
     rw [hT] at he2;subst he2;have hRn:RR=none:=by rw [←hRR.out,hRs.out,hT];rfl
     subst hRn;obtain ⟨⟨d0,d1,d2,d3,d4,d5,d6,d7⟩,g0,g1,g2,g3,g4,g5,g6,g7⟩:=cells8 (blk_alloc hb1' (.cells #[.int .i64 (a0:Int),.int .u64 (a1:Int),.int .i64 (a2:Int),.bool b0,.bool b1,.bool b2,.string ⟨tx.toArray⟩,.slice ao' kn' kc'] 45));clear hb0' hb1' hT hs2 hRs;go_wp2;refine bodyPost_ret (v:= .tuple #[.agg #[.int .i64 0,.int .u64 0,.int .i64 0,.bool false,.bool false,.bool false,.string ⟨#[]⟩,.slice none 0 0],.string ⟨#[]⟩,.bool false]) (by simp [results,Tryz.results96,go_sem,d0,d1,d2,d3,d4,d5,d6,d7]) rfl ?_
     exact opn_fail ((hF1.alloc _).then_ (Fr.put8 _ _ _ _ _ _ _ _ _ _) (by simp))
    |some q=>
     obtain ⟨t,o1⟩:=q;rw [hT] at he2;subst he2;obtain ⟨e1,e2,e3,bl,e4,e5⟩:=hs2 t o1 hT;subst e1;have hoff1:off'<o1:=(enc_off t _ _ (tree_enc (by omega) k off' t o1 hT)).1
     have hokt:=hok.out t;rw [←e2] at hokt;simp only [Gn.maj,Gn.opn] at hokt;cases hokv:okF t with
     |false=>
      have hRn:RR=none:=by
       rw [←hRR.out,hRs.out,hT];simp only [Option.bind_some,hokv]
       rfl
      subst hRn;rw [hokv] at hokt;have hm4:m<4:=by
       rcases Nat.lt_or_ge m 4 with h|h
       ·exact h
       ·simp [show ¬m<4 by omega] at hokt
      have hab:a0≠m∨b0=true:=by
       by_cases h:a0=m
       ·right
        cases b0 with
        |true=>rfl
        |false=>simp [hm4,h] at hokt
       ·exact .inl h
      have t2:(m:Int)<4:=by omega
      obtain ⟨⟨c0,c1,c2,c3,c4,c5,c6,c7⟩,f0,f1,f2,f3,f4,f5,f6,f7⟩:=cells8 (blk_alloc hb0' (.cells #[.int .i64 (a0:Int),.int .u64 (a1:Int),.int .i64 (a2:Int),.bool b0,.bool b1,.bool b2,.string ⟨tx.toArray⟩,.slice ao' kn' kc'] 45));obtain ⟨⟨d0,d1,d2,d3,d4,d5,d6,d7⟩,g0,g1,g2,g3,g4,g5,g6,g7⟩:=cells8 (blk_alloc hb1' (.cells #[.int .i64 (a0:Int),.int .u64 (a1:Int),.int .i64 (a2:Int),.bool b0,.bool b1,.bool b2,.string ⟨tx.toArray⟩,.slice ao' kn' kc'] 45));clear hb0' hb1' hT hs2 hRs hokt e2 e5 e4 hm4;by_cases hne:a0=m
      ·obtain rfl:b0=true:=hab.resolve_left (fun h=>h hne)
       subst hne;clear hab;go_wp2;refine bodyPost_ret (v:= .tuple #[.agg #[.int .i64 0,.int .u64 0,.int .i64 0,.bool false,.bool false,.bool false,.string ⟨#[]⟩,.slice none 0 0],.string ⟨#[]⟩,.bool false]) (by simp [results,Tryz.results96,go_sem,d0,d1,d2,d3,d4,d5,d6,d7]) rfl ?_
       exact opn_fail ((hF1.alloc _).then_ (Fr.put8 _ _ _ _ _ _ _ _ _ _) (by simp))
      ·have t3:((a0:Int)==(m:Int))=false:=by simp;omega
       have t4: ¬(a0:Int)=(m:Int):=by omega
       clear hab;go_wp2;refine bodyPost_ret (v:= .tuple #[.agg #[.int .i64 0,.int .u64 0,.int .i64 0,.bool false,.bool false,.bool false,.string ⟨#[]⟩,.slice none 0 0],.string ⟨#[]⟩,.bool false]) (by simp [results,Tryz.results96,go_sem,d0,d1,d2,d3,d4,d5,d6,d7]) rfl ?_
       exact opn_fail ((hF1.alloc _).then_ (Fr.put8 _ _ _ _ _ _ _ _ _ _) (by simp))
     |true=>
      have hQn:QQ=(openF (treeF xs k) okF xs g o1).map fun r=>(l++[t]++r.1,r.2):=by
       rw [hRs.out,hT];simp only [Option.bind_some,hokv,if_true];exact map_map_app l t _
      rw [hokv] at hokt;have hok4:m<4→a0=m∧b0=false:=by
       intro h;by_cases h2:a0=m
       ·cases b0 with
        |true=>simp [h,h2] at hokt
        |false=>exact ⟨h2,rfl⟩
       ·simp [h,h2] at hokt
      have hAT:Hid (∀(W:World) (b:Nat),W.heap[b]? =some (.cells #[.int .i64 (a0:Int),.int .u64 (a1:Int),.int .i64 (a2:Int),.bool b0,.bool b1,.bool b2,.string ⟨tx.toArray⟩,.slice ao' kn' kc'] 45 (0,0))→At W b 0 (nd (gn t) (.slice ao' kn' kc'))):=Hz (fun W b h=>by rw [←e2];exact at_blk h)
      rw [e2] at e5;clear e2 hokt hokv;have hnd:Hid (∀W,Fr [] w1 W→ ∃bl,(∀d,d∈bl→w.heap.size+2≤d∧d<W.heap.size∧(Value.slice ao kn kc).ownBlock≠some d)∧NdV W bl (gn t) (.slice ao' kn' kc')):=Hz (fun W hW=>⟨bl,fun d hd=>⟨by have:=(e4 d hd).1;omega,Nat.lt_of_lt_of_le (e4 d hd).2 hW.size,fun e=>by have:=(hrow.own d e).2;have:=(e4 d hd).1;omega⟩,e5.fr (fun d hd=>hW.block d (e4 d hd).2 (by simp)) (fun d hd=>hd) _ _⟩)
      replace hQn:=Hz hQn;have hlk:(gns l).length+1≤1000000000000:=by rw [gns_length];omega
      have hs1:=hF1.size;have hs3:=hf.size;obtain ⟨⟨c0,c1,c2,c3,c4,c5,c6,c7⟩,f0,f1,f2,f3,f4,f5,f6,f7⟩:=cells8 (blk_alloc hb0' (.cells #[.int .i64 (a0:Int),.int .u64 (a1:Int),.int .i64 (a2:Int),.bool b0,.bool b1,.bool b2,.string ⟨tx.toArray⟩,.slice ao' kn' kc'] 45));replace hb0':=Hz hb0';replace hb1':=Hz hb1';clear hT hs2 hRs e4 e5;by_cases hm4:m<4
      ·obtain ⟨rfl,rfl⟩:=hok4 hm4;have t2:(a0:Int)<4:=by omega
       clear hok4 hm4;go_wp2_with (at_builtin;refine wpList_apNode rfl _ _ rfl (B:=w.heap.size+2) _ (gns l) (gn t) (.slice ao' kn' kc') (w1.heap.size+1) 1 rfl rfl (hAT.out _ _ (blk_new' _ _ (by simp))) (hrow.fr (S:=[]) ((hf.alloc _).alloc _) (by simp)) (hnd.out _ (((Fr.refl _ _).alloc _).alloc _)) (by simp;omega) hlk ?_)
       intro v' w2 hrow' hg;have hF2:Fr [] w w2:=Fr.grown ((hF1.alloc _).alloc _) hg (fun d hd=> .inr (by have:=(hrow.own d hd).1;omega))
       have hne: ∀d,d<w.heap.size+2→some d≠(Value.slice ao kn kc).ownBlock:=fun d hd e=>by have:=(hrow.own d e.symm).1;omega
       have hB0:=(hg.block w.heap.size (by simp;omega) (hne _ (by omega))).trans (blk_alloc (blk_alloc hb0'.out _) _)
       have hB1:=(hg.block (w.heap.size+1) (by simp;omega) (hne _ (by omega))).trans (blk_alloc (blk_alloc hb1'.out _) _)
       obtain ⟨ao2,kn2,kc2,rfl⟩:=hrow'.shape;have k7:=cell_blk hB0 7;have q7:=frozen_blk hB0 7;have hs4:=hg.size;simp only [List.getElem?_toArray,List.getElem?_cons_zero,List.getElem?_cons_succ] at k7;replace hB0:=Hz hB0;replace hB1:=Hz hB1;clear hne hg hlk c0 c1 c2 c3 c4 c5 c6 c7 f0 f1 f2 f3 f4 f5 f6 f7;go_wp2
       go_roundg g
       case measure=>omega
       case rel=>
        have hW:Fr [w.heap.size] w2 (w2.setCell ⟨w.heap.size,7,none⟩ (.slice ao2 kn2 kc2)):=(Fr.refl _ _).setCell (.inl (by simp)) _
        refine ⟨o1,xs.drop o1,l++[t],.slice ao2 kn2 kc2,rfl,Hz rfl,e3,by omega,hQn,by simp;omega,blk_setCell hB0.out 7 _,blk_setCell_ne hB1.out (by simp) _,?_,hF2.then_ hW (by simp),?_⟩
        ·rw [gns_append];exact hrow'.fr hW (by simp)
        ·have:=hW.size;simp at hs4;omega
      ·have t2: ¬(m:Int)<4:=by omega
       clear hok4 hm4;go_wp2_with (at_builtin;refine wpList_apNode rfl _ _ rfl (B:=w.heap.size+2) _ (gns l) (gn t) (.slice ao' kn' kc') (w1.heap.size+1) 1 rfl rfl (hAT.out _ _ (blk_new' _ _ (by simp))) (hrow.fr (S:=[]) ((hf.alloc _).alloc _) (by simp)) (hnd.out _ (((Fr.refl _ _).alloc _).alloc _)) (by simp;omega) hlk ?_)
       intro v' w2 hrow' hg;have hF2:Fr [] w w2:=Fr.grown ((hF1.alloc _).alloc _) hg (fun d hd=> .inr (by have:=(hrow.own d hd).1;omega))
       have hne: ∀d,d<w.heap.size+2→some d≠(Value.slice ao kn kc).ownBlock:=fun d hd e=>by have:=(hrow.own d e.symm).1;omega
       have hB0:=(hg.block w.heap.size (by simp;omega) (hne _ (by omega))).trans (blk_alloc (blk_alloc hb0'.out _) _)
       have hB1:=(hg.block (w.heap.size+1) (by simp;omega) (hne _ (by omega))).trans (blk_alloc (blk_alloc hb1'.out _) _)
       obtain ⟨ao2,kn2,kc2,rfl⟩:=hrow'.shape;have k7:=cell_blk hB0 7;have q7:=frozen_blk hB0 7;have hs4:=hg.size;simp only [List.getElem?_toArray,List.getElem?_cons_zero,List.getElem?_cons_succ] at k7;replace hB0:=Hz hB0;replace hB1:=Hz hB1;clear hne hg hlk c0 c1 c2 c3 c4 c5 c6 c7 f0 f1 f2 f3 f4 f5 f6 f7;go_wp2
       go_roundg g
       case measure=>omega
       case rel=>
        have hW:Fr [w.heap.size] w2 (w2.setCell ⟨w.heap.size,7,none⟩ (.slice ao2 kn2 kc2)):=(Fr.refl _ _).setCell (.inl (by simp)) _
        refine ⟨o1,xs.drop o1,l++[t],.slice ao2 kn2 kc2,rfl,Hz rfl,e3,by omega,hQn,by simp;omega,blk_setCell hB0.out 7 _,blk_setCell_ne hB1.out (by simp) _,?_,hF2.then_ hW (by simp),?_⟩
        ·rw [gns_append];exact hrow'.fr hW (by simp)
        ·have:=hW.size;simp at hs4;omega
end
section
open Go.RowKit
def spN (ai n:Nat):Value:= .agg #[.int .i64 7,.int .u64 (wide ai n:Int),.int .i64 ((if isFl ai then 2^(ai-24) else 0:Nat):Int),.bool false,.bool (isFl ai),.bool false,.string ⟨#[]⟩,.slice none 0 0]
theorem special (ai n:Nat) (r:List UInt8) (h27:ai≤27) (h25:ai=25→n<65536) (h26:ai=26→n<4294967296) (w:World):
  Calls Tryz.prog 98 #[.agg #[.int .i64 7,.int .u64 (n:Int),.int .i64 0,.bool false,.bool false,.bool false,.string ⟨#[]⟩,.slice none 0 0],.int .i64 (ai:Int),.string ⟨r.toArray⟩] w fun e w'=>
   e= .returned (.tuple #[spN ai n,.string ⟨r.toArray⟩,.bool (decide (¬(ai=24∧n<32)))])∧Fr [] w w':=by
 by_cases c1:ai<24
 ·have e1:spN ai n= .agg #[.int .i64 7,.int .u64 (n:Int),.int .i64 0,.bool false,.bool false,.bool false,.string ⟨#[]⟩,.slice none 0 0]:=by
   have g:isFl ai=false:=by unfold isFl;simp;omega
   unfold spN wide;rw [if_neg (by omega),if_neg (by omega),g]
   rfl
  rw [e1,show decide (¬(ai=24∧n<32))=true by simp;omega]
  clear e1 h25 h26;have t1:((ai:Int)==24)=false:=by simp;omega
  have t2:((ai:Int)==25)=false:=by simp;omega
  have t3:((ai:Int)==26)=false:=by simp;omega
  have t4: ¬(24:Int)<(ai:Int):=by omega
  go_enter Tryz.func98,Tryz.ntmps98
  go_wp2;refine bodyPost_ret (v:= .tuple #[.agg #[.int .i64 7,.int .u64 (n:Int),.int .i64 0,.bool false,.bool false,.bool false,.string ⟨#[]⟩,.slice none 0 0],.string ⟨r.toArray⟩,.bool true]) (by simp [results,Tryz.results98,go_sem]) rfl ?_
  exact ⟨rfl,((Fr.refl _ _).alloc _).alloc _⟩
 ·rcases (show ai=24∨ai=25∨ai=26∨ai=27 by omega) with rfl|rfl|rfl|rfl
  ·have e1:spN 24 n= .agg #[.int .i64 7,.int .u64 (n:Int),.int .i64 0,.bool false,.bool false,.bool false,.string ⟨#[]⟩,.slice none 0 0]:=rfl;rw [e1];go_enter Tryz.func98,Tryz.ntmps98
   go_wp2
   go_region
   all_goals try go_wp2
   all_goals refine bodyPost_ret (v:= .tuple #[.agg #[.int .i64 7,.int .u64 (n:Int),.int .i64 0,.bool false,.bool false,.bool false,.string ⟨#[]⟩,.slice none 0 0],.string ⟨r.toArray⟩,.bool (decide ((32:Int)≤(n:Int)))]) (by simp [results,Tryz.results98,go_sem]) rfl ?_
   all_goals exact ⟨by simp;omega,(((Fr.refl _ _).alloc _).alloc _).drew⟩
  ·have e1:spN 25 n= .agg #[.int .i64 7,.int .u64 (widen n 5 10:Int),.int .i64 2,.bool false,.bool true,.bool false,.string ⟨#[]⟩,.slice none 0 0]:=rfl;rw [e1];have hn:=h25 rfl;have g:IntKind.u16.wrap (n:Int)=(n:Int):=IntWalk.u16_in _ (by omega)
   have K:=Hz (fromHalf n hn);generalize widen n 5 10=q at K ⊢;clear h25 h26;go_enter Tryz.func98,Tryz.ntmps98
   go_wp2_with fail
   refine (K.out _).mono ?_
   rintro e w1 ⟨rfl,hf⟩;have hb0:=hf.blk (blk_alloc (blk_new w _) _) (by simp)
   have hb1:=hf.blk (blk_new' _ _ (n:=w.heap.size+1) (by simp)) (by simp)
   have hF:Fr [] w w1:=(((Fr.refl _ _).alloc _).alloc _).trans hf;obtain ⟨⟨c0,c1,c2,c3,c4,c5,c6,c7⟩,f0,f1,f2,f3,f4,f5,f6,f7⟩:=cells8 hb0;obtain ⟨⟨d0,d1,d2,d3,d4,d5,d6,d7⟩,g0,g1,g2,g3,g4,g5,g6,g7⟩:=cells8 hb1;clear hb0 hb1;go_wp2;refine bodyPost_ret (v:= .tuple #[.agg #[.int .i64 7,.int .u64 (q:Int),.int .i64 2,.bool false,.bool true,.bool false,.string ⟨#[]⟩,.slice none 0 0],.string ⟨r.toArray⟩,.bool true]) (by simp [results,Tryz.results98,go_sem,d0,d1,d2,d3,d4,d5,d6,d7]) rfl ?_
   refine ⟨rfl,?_⟩
   repeat (first|with_reducible exact hF|with_reducible refine Fr.setCell ?_ (.inr (by simp)) _)
  ·have e1:spN 26 n= .agg #[.int .i64 7,.int .u64 (widen n 8 23:Int),.int .i64 4,.bool false,.bool true,.bool false,.string ⟨#[]⟩,.slice none 0 0]:=rfl;rw [e1];have hn:=h26 rfl;have g:IntKind.u32.wrap (n:Int)=(n:Int):=IntWalk.u32_in _ (by omega)
   have K:=Hz (fromSingle n hn);generalize widen n 8 23=q at K ⊢;clear h25 h26;go_enter Tryz.func98,Tryz.ntmps98
   go_wp2_with fail
   refine (K.out _).mono ?_
   rintro e w1 ⟨rfl,hf⟩;have hb0:=hf.blk (blk_alloc (blk_new w _) _) (by simp)
   have hb1:=hf.blk (blk_new' _ _ (n:=w.heap.size+1) (by simp)) (by simp)
   have hF:Fr [] w w1:=(((Fr.refl _ _).alloc _).alloc _).trans hf;obtain ⟨⟨c0,c1,c2,c3,c4,c5,c6,c7⟩,f0,f1,f2,f3,f4,f5,f6,f7⟩:=cells8 hb0;obtain ⟨⟨d0,d1,d2,d3,d4,d5,d6,d7⟩,g0,g1,g2,g3,g4,g5,g6,g7⟩:=cells8 hb1;clear hb0 hb1;go_wp2;refine bodyPost_ret (v:= .tuple #[.agg #[.int .i64 7,.int .u64 (q:Int),.int .i64 4,.bool false,.bool true,.bool false,.string ⟨#[]⟩,.slice none 0 0],.string ⟨r.toArray⟩,.bool true]) (by simp [results,Tryz.results98,go_sem,d0,d1,d2,d3,d4,d5,d6,d7]) rfl ?_
   refine ⟨rfl,?_⟩
   repeat (first|with_reducible exact hF|with_reducible refine Fr.setCell ?_ (.inr (by simp)) _)
  ·have e1:spN 27 n= .agg #[.int .i64 7,.int .u64 (n:Int),.int .i64 8,.bool false,.bool true,.bool false,.string ⟨#[]⟩,.slice none 0 0]:=rfl;rw [e1];clear h25 h26;go_enter Tryz.func98,Tryz.ntmps98
   go_wp2;refine bodyPost_ret (v:= .tuple #[.agg #[.int .i64 7,.int .u64 (n:Int),.int .i64 8,.bool false,.bool true,.bool false,.string ⟨#[]⟩,.slice none 0 0],.string ⟨r.toArray⟩,.bool true]) (by simp [results,Tryz.results98,go_sem]) rfl ?_
   exact ⟨rfl,((Fr.refl _ _).alloc _).alloc _⟩
theorem arg_case {xs:List UInt8} {off m ai v:Nat} {r:List UInt8} (h:argF (xs.drop off)=some (m,ai,v,r)):
  ((∃k,hd xs off= .error k)∧((ai=31∧(m<2∨5<m))∨(m=7∧ai=24∧v<32)))∨ ∃o,hd xs off= .ok (m,ai,v,o)∧r=xs.drop o∧ ¬(ai=31∧(m<2∨5<m))∧ ¬(m=7∧ai=24∧v<32):=by
 have k:=arg_hd xs off;cases hh:hd xs off with
 |error e=>
  rw [hh] at k;dsimp only at k;rcases k with k|⟨m2,ai2,v2,r2,k,hk⟩
  ·rw [k] at h;cases h
  ·rw [k] at h;injection h with h
   simp only [Prod.mk.injEq] at h;obtain ⟨rfl,rfl,rfl,rfl⟩:=h;exact .inl ⟨⟨e,rfl⟩,hk⟩
 |ok q=>
  obtain ⟨m2,ai2,v2,o⟩:=q;rw [hh] at k;dsimp only at k;obtain ⟨k1,k2,k3⟩:=k;rw [k1] at h;injection h with h
  simp only [Prod.mk.injEq] at h;obtain ⟨rfl,rfl,rfl,rfl⟩:=h;exact .inr ⟨o,rfl,rfl,k2,k3⟩
theorem arg_none {xs:List UInt8} {off:Nat} (h:argF (xs.drop off)=none): ∃k,hd xs off= .error k:=by
 have k:=arg_hd xs off;cases hh:hd xs off with
 |error e=>exact ⟨e,rfl⟩
 |ok q=>
  obtain ⟨m2,ai2,v2,o⟩:=q;rw [hh] at k;dsimp only at k;rw [k.1] at h;cases h
theorem treeF_err {xs:List UInt8} {k off e:Nat} (h:hd xs off= .error e):treeF xs k off=none:=by
 cases k with
 |zero=>rfl
 |succ k=>rw [treeF,h]
theorem tree_no {w W:World} {xs:List UInt8} {r:Option (Tr×Nat)} (hr:r=none) (hF:Fr [] w W):
  TreeP xs r w (.returned (.tuple #[.agg #[.int .i64 0,.int .u64 0,.int .i64 0,.bool false,.bool false,.bool false,.string ⟨#[]⟩,.slice none 0 0],.string ⟨#[]⟩,.bool false])) W:=by
 subst hr;exact ⟨zeroG,.slice none 0 0,_,rfl,hF,⟨_,_,_,rfl⟩,fun l2 o2 e=>by cases e⟩
theorem tree_a (s:List UInt8) (hl:s.length≤1099511627776) (k:Nat) (hs:argF s=none) (w:World):Calls Tryz.prog 72 #[.string ⟨s.toArray⟩,.int .i64 (k:Int)] w fun e w'=>e= .returned (.tuple #[.agg #[.int .i64 0,.int .u64 0,.int .i64 0,.bool false,.bool false,.bool false,.string ⟨#[]⟩,.slice none 0 0],.string ⟨#[]⟩,.bool false])∧Fr [] w w':=by
 have K:=Hz (argument s hl);rw [hs] at K;unfold argV at K;go_enter Tryz.func72,Tryz.ntmps72
 go_wp2_with fail
 refine (K.out _).mono ?_
 rintro e w1 ⟨rfl,hf⟩;have hb:=hf.blk (blk_new w _) (by simp)
 have hF:Fr [] w w1:=((Fr.refl _ _).alloc _).trans hf;obtain ⟨⟨d0,d1,d2,d3,d4,d5,d6,d7⟩,g0,g1,g2,g3,g4,g5,g6,g7⟩:=cells8 hb;clear hb;go_wp2;refine bodyPost_ret (v:= .tuple #[.agg #[.int .i64 0,.int .u64 0,.int .i64 0,.bool false,.bool false,.bool false,.string ⟨#[]⟩,.slice none 0 0],.string ⟨#[]⟩,.bool false]) (by simp [results,Tryz.results72,go_sem,d0,d1,d2,d3,d4,d5,d6,d7]) rfl ?_
 exact ⟨rfl,hF.then_ (Fr.put8 _ _ _ _ _ _ _ _ _ _) (by simp)⟩
theorem tree_b (s:List UInt8) (hl:s.length≤1099511627776) (k m ai v:Nat) (r:List UInt8) (hs:argF s=some (m,ai,v,r)) (hb:k=0∨(ai=31∧(m<2∨5<m))) (w:World):Calls Tryz.prog 72 #[.string ⟨s.toArray⟩,.int .i64 (k:Int)] w fun e w'=>e= .returned (.tuple #[.agg #[.int .i64 0,.int .u64 0,.int .i64 0,.bool false,.bool false,.bool false,.string ⟨#[]⟩,.slice none 0 0],.string ⟨#[]⟩,.bool false])∧Fr [] w w':=by
 have K:=Hz (argument s hl);rw [hs] at K;unfold argV at K;have hb3:k=0∨(k≠0∧ai=31∧m<2)∨(k≠0∧ai=31∧ ¬m<2∧5<m):=by omega
 rcases hb3 with rfl|⟨h0,rfl,h1⟩|⟨h0,rfl,h1,h2⟩
 ·go_enter Tryz.func72,Tryz.ntmps72
  go_wp2_with fail
  refine (K.out _).mono ?_
  rintro e w1 ⟨rfl,hf⟩;have hb:=hf.blk (blk_new w _) (by simp)
  have hF:Fr [] w w1:=((Fr.refl _ _).alloc _).trans hf;obtain ⟨⟨d0,d1,d2,d3,d4,d5,d6,d7⟩,g0,g1,g2,g3,g4,g5,g6,g7⟩:=cells8 hb;clear hb;go_wp2;refine bodyPost_ret (v:= .tuple #[.agg #[.int .i64 0,.int .u64 0,.int .i64 0,.bool false,.bool false,.bool false,.string ⟨#[]⟩,.slice none 0 0],.string ⟨#[]⟩,.bool false]) (by simp [results,Tryz.results72,go_sem,d0,d1,d2,d3,d4,d5,d6,d7]) rfl ?_
  exact ⟨rfl,hF.then_ (Fr.put8 _ _ _ _ _ _ _ _ _ _) (by simp)⟩
 ·have t0:((k:Int)==0)=false:=by simp;omega
  have t1:(m:Int)<2:=by omega
  go_enter Tryz.func72,Tryz.ntmps72
  go_wp2_with fail
  refine (K.out _).mono ?_
  rintro e w1 ⟨rfl,hf⟩;have hb:=hf.blk (blk_new w _) (by simp)
  have hF:Fr [] w w1:=((Fr.refl _ _).alloc _).trans hf;obtain ⟨⟨d0,d1,d2,d3,d4,d5,d6,d7⟩,g0,g1,g2,g3,g4,g5,g6,g7⟩:=cells8 hb;clear hb;go_wp2;refine bodyPost_ret (v:= .tuple #[.agg #[.int .i64 0,.int .u64 0,.int .i64 0,.bool false,.bool false,.bool false,.string ⟨#[]⟩,.slice none 0 0],.string ⟨#[]⟩,.bool false]) (by simp [results,Tryz.results72,go_sem,d0,d1,d2,d3,d4,d5,d6,d7]) rfl ?_
  exact ⟨rfl,hF.then_ (Fr.put8 _ _ _ _ _ _ _ _ _ _) (by simp)⟩
 ·have t0:((k:Int)==0)=false:=by simp;omega
  have t1: ¬(m:Int)<2:=by omega
  have t2:(5:Int)<(m:Int):=by omega
  go_enter Tryz.func72,Tryz.ntmps72
  go_wp2_with fail
  refine (K.out _).mono ?_
  rintro e w1 ⟨rfl,hf⟩;have hb:=hf.blk (blk_new w _) (by simp)
  have hF:Fr [] w w1:=((Fr.refl _ _).alloc _).trans hf;obtain ⟨⟨d0,d1,d2,d3,d4,d5,d6,d7⟩,g0,g1,g2,g3,g4,g5,g6,g7⟩:=cells8 hb;clear hb;go_wp2;refine bodyPost_ret (v:= .tuple #[.agg #[.int .i64 0,.int .u64 0,.int .i64 0,.bool false,.bool false,.bool false,.string ⟨#[]⟩,.slice none 0 0],.string ⟨#[]⟩,.bool false]) (by simp [results,Tryz.results72,go_sem,d0,d1,d2,d3,d4,d5,d6,d7]) rfl ?_
  exact ⟨rfl,hF.then_ (Fr.put8 _ _ _ _ _ _ _ _ _ _) (by simp)⟩
theorem tree_int (s:List UInt8) (hl:s.length≤1099511627776) (k m ai v:Nat) (r:List UInt8) (hs:argF s=some (m,ai,v,r)) (h31:ai≠31) (hm:m<2) (w:World):
  Calls Tryz.prog 72 #[.string ⟨s.toArray⟩,.int .i64 ((k:Int)+1)] w fun e w'=>e= .returned (.tuple #[.agg #[.int .i64 (m:Int),.int .u64 (v:Int),.int .i64 0,.bool false,.bool false,.bool false,.string ⟨#[]⟩,.slice none 0 0],.string ⟨r.toArray⟩,.bool true])∧Fr [] w w':=by
 have t1:((ai:Int)==31)=false:=by simp;omega
 have t2:((m:Int)==2)=false:=by simp;omega
 have t3:((m:Int)==3)=false:=by simp;omega
 have t4:((m:Int)==4)=false:=by simp;omega
 have t5:((m:Int)==5)=false:=by simp;omega
 have t6:((m:Int)==6)=false:=by simp;omega
 have t7:((m:Int)==7)=false:=by simp;omega
 have K:=Hz (argument s hl);rw [hs] at K;unfold argV at K;have t0:((k:Int)+1==0)=false:=by simp;omega
 go_enter Tryz.func72,Tryz.ntmps72
 go_wp2_with fail
 refine (K.out _).mono ?_
 rintro e w1 ⟨rfl,hf⟩;have hb:=hf.blk (blk_new w _) (by simp)
 have hF:Fr [] w w1:=((Fr.refl _ _).alloc _).trans hf;have hs1:=hF.size;have hs2:=hf.size;obtain ⟨⟨d0,d1,d2,d3,d4,d5,d6,d7⟩,g0,g1,g2,g3,g4,g5,g6,g7⟩:=cells8 (blk_alloc hb (.cells #[.int .i64 (m:Int),.int .u64 (v:Int),.int .i64 0,.bool false,.bool false,.bool false,.string ⟨#[]⟩,.slice none 0 0] 45));clear hb;go_wp2;refine bodyPost_ret (v:= .tuple #[.agg #[.int .i64 (m:Int),.int .u64 (v:Int),.int .i64 0,.bool false,.bool false,.bool false,.string ⟨#[]⟩,.slice none 0 0],.string ⟨r.toArray⟩,.bool true]) (by simp [results,Tryz.results72,go_sem,d0,d1,d2,d3,d4,d5,d6,d7]) rfl ?_
 exact ⟨rfl,(hF.alloc _).then_ (Fr.put8 _ _ _ _ _ _ _ _ _ _) (by simp)⟩
theorem tree_prim (s:List UInt8) (hl:s.length≤1099511627776) (k ai v:Nat) (r:List UInt8) (hs:argF s=some (7,ai,v,r)) (h31:ai≤27) (h25:ai=25→v<65536) (h26:ai=26→v<4294967296) (w:World):
  Calls Tryz.prog 72 #[.string ⟨s.toArray⟩,.int .i64 ((k:Int)+1)] w fun e w'=>e= .returned (.tuple #[spN ai v,.string ⟨r.toArray⟩,.bool (decide (¬(ai=24∧v<32)))])∧Fr [] w w':=by
 have t1:((ai:Int)==31)=false:=by simp;omega
 have KS:=Hz (special ai v r h31 h25 h26);generalize decide (¬(ai=24∧v<32))=bb at KS ⊢;unfold spN at KS ⊢;generalize wide ai v=q at KS ⊢;generalize (if isFl ai=true then 2^(ai-24) else 0)=z at KS ⊢
 generalize isFl ai=fl at KS ⊢;clear h25 h26;have K:=Hz (argument s hl);rw [hs] at K;unfold argV at K;have t0:((k:Int)+1==0)=false:=by simp;omega
 go_enter Tryz.func72,Tryz.ntmps72
 go_wp2_with fail
 refine (K.out _).mono ?_
 rintro e w1 ⟨rfl,hf⟩;have hb:=hf.blk (blk_new w _) (by simp)
 have hF:Fr [] w w1:=((Fr.refl _ _).alloc _).trans hf;have hs1:=hF.size;have hs2:=hf.size;have hb':=blk_alloc hb (.cells #[.int .i64 7,.int .u64 (v:Int),.int .i64 0,.bool false,.bool false,.bool false,.string ⟨#[]⟩,.slice none 0 0] 45);clear hb;go_wp2_with fail
 refine (KS.out _).mono ?_
 rintro e w2 ⟨rfl,hf2⟩;have hF2:=(hF.alloc _).trans hf2;obtain ⟨⟨d0,d1,d2,d3,d4,d5,d6,d7⟩,g0,g1,g2,g3,g4,g5,g6,g7⟩:=cells8 (hf2.blk hb' (by simp))
 clear hb';go_wp2;refine bodyPost_ret (v:= .tuple #[.agg #[.int .i64 7,.int .u64 (q:Int),.int .i64 (z:Int),.bool false,.bool fl,.bool false,.string ⟨#[]⟩,.slice none 0 0],.string ⟨r.toArray⟩,.bool bb]) (by simp [results,Tryz.results72,go_sem,d0,d1,d2,d3,d4,d5,d6,d7]) rfl ?_
 exact ⟨rfl,hF2.then_ (Fr.put8 _ _ _ _ _ _ _ _ _ _) (by simp)⟩
end
end Go.Proofs.YteodinhkhhaafaaGreatDoor
