/- Walks of the program, and plain facts. -/
import Derived.Test.YteodinhkhhaafaaGreatDoorEbp
set_option linter.unusedVariables false
set_option linter.unusedSimpArgs false
set_option maxRecDepth 100000
set_option maxHeartbeats 6400000
namespace Go.Proofs.YteodinhkhhaafaaGreatDoor
section
open Go.RowKit
theorem kids_tree {w w1 w2:World} {S:List Nat} {xs:List UInt8} {m nn:Nat} {o:Bool} {R:Option (List Tr×Nat)} {r:Option (Tr×Nat)} {g:Gn} {kv:Value} {rest:ByteArray} {W:World} {e:Ending} (hq: ∀l off,R=some (l,off)→rest=⟨(xs.drop off).toArray⟩∧g= .mk m nn 0 o false false [] (gns l)∧off≤xs.length∧ ∃bl,(∀b,b∈bl→w1.heap.size≤b∧b<w2.heap.size)∧NdV w2 bl g kv)
  (hsl: ∃ao n c,kv= .slice ao n c) (h1:w.heap.size<w1.heap.size) (hF:Fr [] w w2) (hW:Fr [w.heap.size] w2 W) (f:List Tr→Tr) (hf: ∀l off,R=some (l,off)→gn (f l)= .mk m nn 0 o false false [] (gns l)) (hr:r=R.map fun q=>(f q.1,q.2))
  (he:e= .returned (.tuple #[.agg (nd g kv).toArray,.string rest,.bool R.isSome])):TreeP xs r w e W:=by
 subst hr;refine ⟨g,kv,rest,?_,hF.then_ hW (by simp),hsl,fun t o2 e=> ?_⟩
 ·rw [he];cases R<;>rfl
 ·cases R with
  |none=>cases e
  |some q=>
   obtain ⟨l,off⟩:=q;injection e with e
   injection e with e1 e2
   dsimp only at e1 e2;subst e1 e2;obtain ⟨q1,q2,q3,bl,q4,q5⟩:=hq l off rfl;exact ⟨q1,by rw [q2,hf l off rfl],q3,bl,fun b hb=>⟨by have:=(q4 b hb).1;omega,Nat.lt_of_lt_of_le (q4 b hb).2 hW.size⟩,q5.fr (fun b hb=>hW.block b (q4 b hb).2 (by have:=(q4 b hb).1;simp;omega)) (fun b hb=>hb) _ _⟩
theorem tree_open {xs:List UInt8} (s:List UInt8) (hl:s.length≤1099511627776) (k m v o:Nat) (hs:argF s=some (m,31,v,xs.drop o)) (hm:m=2∨m=3∨m=4∨m=5) {RR:Option (List Tr×Nat)} {r:Option (Tr×Nat)}
  (KO: ∀w,Calls Tryz.prog 96 #[.agg #[.int .i64 (m:Int),.int .u64 0,.int .i64 0,.bool true,.bool false,.bool false,.string ⟨#[]⟩,.slice none 0 0],.string ⟨(xs.drop o).toArray⟩,.int .i64 ((k:Int)+1)] w (KidsP xs m 0 true RR w)) (f:List Tr→Tr) (hfg: ∀l,gn (f l)= .mk m 0 0 true false false [] (gns l)) (hr:r=RR.map fun q=>(f q.1,q.2)) (w:World):
  Calls Tryz.prog 72 #[.string ⟨s.toArray⟩,.int .i64 ((k:Int)+1)] w (TreeP xs r w):=by
 replace KO:=Hz KO;replace hr:=Hz hr;replace hfg:=Hz hfg;have hfin:=Hz (fun (w1 w2:World) (g:Gn) (kv:Value) (rest:ByteArray) (W:World) (e:Ending) hq hsl h1 hF hW he=>kids_tree (w:=w) (w1:=w1) (w2:=w2) (S:=[]) (xs:=xs) (m:=m) (nn:=0) (o:=true) (R:=RR) (r:=r) (g:=g) (kv:=kv) (rest:=rest) (W:=W) (e:=e) hq hsl h1 hF hW f (fun l _ _=>hfg.out l) hr.out he)
 generalize xs.drop o=rs at *
 rcases hm with rfl|rfl|rfl|rfl
 ·have K:=Hz (argument s hl);rw [hs] at K;unfold argV at K;have t0:((k:Int)+1==0)=false:=by simp;omega
  go_enter Tryz.func72,Tryz.ntmps72
  go_wp2_with fail
  refine (K.out _).mono ?_
  rintro e w1 ⟨rfl,hf⟩;have hb:=hf.blk (blk_new w _) (by simp)
  have hF:Fr [] w w1:=((Fr.refl _ _).alloc _).trans hf;have hs1:=hF.size;have hs2:=hf.size;go_wp2_with fail
  refine (KO.out _).mono ?_
  rintro e w2 ⟨g',kv',rest,he,hf2,⟨ao',kn',kc',rfl⟩,hq⟩;have hF2:=(hF.alloc _).trans hf2;have hlt:=hf2.size;have hB:=hf2.blk (blk_alloc hb (.cells #[.int .i64 2,.int .u64 0,.int .i64 0,.bool true,.bool false,.bool false,.string ⟨#[]⟩,.slice none 0 0] 45)) (by simp)
  replace hq:=Hz (fun (W:World) (hW:Fr [w.heap.size] w2 W)=>hfin.out _ w2 g' _ rest W _ hq ⟨_,_,_,rfl⟩ (by simp;omega) hF2 hW he)
  obtain ⟨a0,a1,a2,b0,b1,b2,tx,gks⟩:=g';rw [nd_mk] at he;obtain ⟨⟨d0,d1,d2,d3,d4,d5,d6,d7⟩,g0,g1,g2,g3,g4,g5,g6,g7⟩:=cells8 hB;subst he;generalize RR.isSome=bb at *
  clear hb hB;go_wp2;refine bodyPost_ret (v:= .tuple #[.agg #[.int .i64 (a0:Int),.int .u64 (a1:Int),.int .i64 (a2:Int),.bool b0,.bool b1,.bool b2,.string ⟨tx.toArray⟩,.slice ao' kn' kc'],.string rest,.bool bb]) (by simp [results,Tryz.results72,go_sem,d0,d1,d2,d3,d4,d5,d6,d7]) rfl ?_
  exact hq.out _ (Fr.put8 _ _ _ _ _ _ _ _ _ _)
 ·have K:=Hz (argument s hl);rw [hs] at K;unfold argV at K;have t0:((k:Int)+1==0)=false:=by simp;omega
  go_enter Tryz.func72,Tryz.ntmps72
  go_wp2_with fail
  refine (K.out _).mono ?_
  rintro e w1 ⟨rfl,hf⟩;have hb:=hf.blk (blk_new w _) (by simp)
  have hF:Fr [] w w1:=((Fr.refl _ _).alloc _).trans hf;have hs1:=hF.size;have hs2:=hf.size;go_wp2_with fail
  refine (KO.out _).mono ?_
  rintro e w2 ⟨g',kv',rest,he,hf2,⟨ao',kn',kc',rfl⟩,hq⟩;have hF2:=(hF.alloc _).trans hf2;have hlt:=hf2.size;have hB:=hf2.blk (blk_alloc hb (.cells #[.int .i64 3,.int .u64 0,.int .i64 0,.bool true,.bool false,.bool false,.string ⟨#[]⟩,.slice none 0 0] 45)) (by simp)
  replace hq:=Hz (fun (W:World) (hW:Fr [w.heap.size] w2 W)=>hfin.out _ w2 g' _ rest W _ hq ⟨_,_,_,rfl⟩ (by simp;omega) hF2 hW he)
  obtain ⟨a0,a1,a2,b0,b1,b2,tx,gks⟩:=g';rw [nd_mk] at he;obtain ⟨⟨d0,d1,d2,d3,d4,d5,d6,d7⟩,g0,g1,g2,g3,g4,g5,g6,g7⟩:=cells8 hB;subst he;generalize RR.isSome=bb at *
  clear hb hB;go_wp2;refine bodyPost_ret (v:= .tuple #[.agg #[.int .i64 (a0:Int),.int .u64 (a1:Int),.int .i64 (a2:Int),.bool b0,.bool b1,.bool b2,.string ⟨tx.toArray⟩,.slice ao' kn' kc'],.string rest,.bool bb]) (by simp [results,Tryz.results72,go_sem,d0,d1,d2,d3,d4,d5,d6,d7]) rfl ?_
  exact hq.out _ (Fr.put8 _ _ _ _ _ _ _ _ _ _)
 ·have K:=Hz (argument s hl);rw [hs] at K;unfold argV at K;have t0:((k:Int)+1==0)=false:=by simp;omega
  go_enter Tryz.func72,Tryz.ntmps72
  go_wp2_with fail
  refine (K.out _).mono ?_
  rintro e w1 ⟨rfl,hf⟩;have hb:=hf.blk (blk_new w _) (by simp)
  have hF:Fr [] w w1:=((Fr.refl _ _).alloc _).trans hf;have hs1:=hF.size;have hs2:=hf.size;go_wp2_with fail
  refine (KO.out _).mono ?_
  rintro e w2 ⟨g',kv',rest,he,hf2,⟨ao',kn',kc',rfl⟩,hq⟩;have hF2:=(hF.alloc _).trans hf2;have hlt:=hf2.size;have hB:=hf2.blk (blk_alloc hb (.cells #[.int .i64 4,.int .u64 0,.int .i64 0,.bool true,.bool false,.bool false,.string ⟨#[]⟩,.slice none 0 0] 45)) (by simp)
  replace hq:=Hz (fun (W:World) (hW:Fr [w.heap.size] w2 W)=>hfin.out _ w2 g' _ rest W _ hq ⟨_,_,_,rfl⟩ (by simp;omega) hF2 hW he)
  obtain ⟨a0,a1,a2,b0,b1,b2,tx,gks⟩:=g';rw [nd_mk] at he;obtain ⟨⟨d0,d1,d2,d3,d4,d5,d6,d7⟩,g0,g1,g2,g3,g4,g5,g6,g7⟩:=cells8 hB;subst he;generalize RR.isSome=bb at *
  clear hb hB;go_wp2;refine bodyPost_ret (v:= .tuple #[.agg #[.int .i64 (a0:Int),.int .u64 (a1:Int),.int .i64 (a2:Int),.bool b0,.bool b1,.bool b2,.string ⟨tx.toArray⟩,.slice ao' kn' kc'],.string rest,.bool bb]) (by simp [results,Tryz.results72,go_sem,d0,d1,d2,d3,d4,d5,d6,d7]) rfl ?_
  exact hq.out _ (Fr.put8 _ _ _ _ _ _ _ _ _ _)
 ·have K:=Hz (argument s hl);rw [hs] at K;unfold argV at K;have t0:((k:Int)+1==0)=false:=by simp;omega
  go_enter Tryz.func72,Tryz.ntmps72
  go_wp2_with fail
  refine (K.out _).mono ?_
  rintro e w1 ⟨rfl,hf⟩;have hb:=hf.blk (blk_new w _) (by simp)
  have hF:Fr [] w w1:=((Fr.refl _ _).alloc _).trans hf;have hs1:=hF.size;have hs2:=hf.size;go_wp2_with fail
  refine (KO.out _).mono ?_
  rintro e w2 ⟨g',kv',rest,he,hf2,⟨ao',kn',kc',rfl⟩,hq⟩;have hF2:=(hF.alloc _).trans hf2;have hlt:=hf2.size;have hB:=hf2.blk (blk_alloc hb (.cells #[.int .i64 5,.int .u64 0,.int .i64 0,.bool true,.bool false,.bool false,.string ⟨#[]⟩,.slice none 0 0] 45)) (by simp)
  replace hq:=Hz (fun (W:World) (hW:Fr [w.heap.size] w2 W)=>hfin.out _ w2 g' _ rest W _ hq ⟨_,_,_,rfl⟩ (by simp;omega) hF2 hW he)
  obtain ⟨a0,a1,a2,b0,b1,b2,tx,gks⟩:=g';rw [nd_mk] at he;obtain ⟨⟨d0,d1,d2,d3,d4,d5,d6,d7⟩,g0,g1,g2,g3,g4,g5,g6,g7⟩:=cells8 hB;subst he;generalize RR.isSome=bb at *
  clear hb hB;go_wp2;refine bodyPost_ret (v:= .tuple #[.agg #[.int .i64 (a0:Int),.int .u64 (a1:Int),.int .i64 (a2:Int),.bool b0,.bool b1,.bool b2,.string ⟨tx.toArray⟩,.slice ao' kn' kc'],.string rest,.bool bb]) (by simp [results,Tryz.results72,go_sem,d0,d1,d2,d3,d4,d5,d6,d7]) rfl ?_
  exact hq.out _ (Fr.put8 _ _ _ _ _ _ _ _ _ _)
theorem tree_over (s:List UInt8) (hl:s.length≤1099511627776) (k m ai v:Nat) (r:List UInt8) (hs:argF s=some (m,ai,v,r)) (h31:ai≠31) (hm:m=2∨m=3∨m=4∨m=5) (hv:r.length<v) (hrl:r.length≤1099511627776) (w:World):
  Calls Tryz.prog 72 #[.string ⟨s.toArray⟩,.int .i64 ((k:Int)+1)] w fun e w'=>e= .returned (.tuple #[.agg #[.int .i64 0,.int .u64 0,.int .i64 0,.bool false,.bool false,.bool false,.string ⟨#[]⟩,.slice none 0 0],.string ⟨#[]⟩,.bool false])∧Fr [] w w':=by
 have t1:((ai:Int)==31)=false:=by simp;omega
 have g1:IntKind.u64.wrap (r.length:Int)=(r.length:Int):=IntWalk.u64_in _ (by omega)
 have g2:(r.length:Int)<(v:Int):=by omega
 rcases hm with rfl|rfl|rfl|rfl
 ·have K:=Hz (argument s hl);rw [hs] at K;unfold argV at K;have t0:((k:Int)+1==0)=false:=by simp;omega
  go_enter Tryz.func72,Tryz.ntmps72
  go_wp2_with fail
  refine (K.out _).mono ?_
  rintro e w1 ⟨rfl,hf⟩;have hb:=hf.blk (blk_new w _) (by simp)
  have hF:Fr [] w w1:=((Fr.refl _ _).alloc _).trans hf;have hs1:=hF.size;have hs2:=hf.size;obtain ⟨⟨d0,d1,d2,d3,d4,d5,d6,d7⟩,g0,g1,g2,g3,g4,g5,g6,g7⟩:=cells8 (blk_alloc hb (.cells #[.int .i64 2,.int .u64 0,.int .i64 0,.bool false,.bool false,.bool false,.string ⟨#[]⟩,.slice none 0 0] 45));clear hb;go_wp2;refine bodyPost_ret (v:= .tuple #[.agg #[.int .i64 0,.int .u64 0,.int .i64 0,.bool false,.bool false,.bool false,.string ⟨#[]⟩,.slice none 0 0],.string ⟨#[]⟩,.bool false]) (by simp [results,Tryz.results72,go_sem,d0,d1,d2,d3,d4,d5,d6,d7]) rfl ?_
  exact ⟨rfl,(hF.alloc _).then_ (Fr.put8 _ _ _ _ _ _ _ _ _ _) (by simp)⟩
 ·have K:=Hz (argument s hl);rw [hs] at K;unfold argV at K;have t0:((k:Int)+1==0)=false:=by simp;omega
  go_enter Tryz.func72,Tryz.ntmps72
  go_wp2_with fail
  refine (K.out _).mono ?_
  rintro e w1 ⟨rfl,hf⟩;have hb:=hf.blk (blk_new w _) (by simp)
  have hF:Fr [] w w1:=((Fr.refl _ _).alloc _).trans hf;have hs1:=hF.size;have hs2:=hf.size;obtain ⟨⟨d0,d1,d2,d3,d4,d5,d6,d7⟩,g0,g1,g2,g3,g4,g5,g6,g7⟩:=cells8 (blk_alloc hb (.cells #[.int .i64 3,.int .u64 0,.int .i64 0,.bool false,.bool false,.bool false,.string ⟨#[]⟩,.slice none 0 0] 45));clear hb;go_wp2;refine bodyPost_ret (v:= .tuple #[.agg #[.int .i64 0,.int .u64 0,.int .i64 0,.bool false,.bool false,.bool false,.string ⟨#[]⟩,.slice none 0 0],.string ⟨#[]⟩,.bool false]) (by simp [results,Tryz.results72,go_sem,d0,d1,d2,d3,d4,d5,d6,d7]) rfl ?_
  exact ⟨rfl,(hF.alloc _).then_ (Fr.put8 _ _ _ _ _ _ _ _ _ _) (by simp)⟩
 ·have K:=Hz (argument s hl);rw [hs] at K;unfold argV at K;have t0:((k:Int)+1==0)=false:=by simp;omega
  go_enter Tryz.func72,Tryz.ntmps72
  go_wp2_with fail
  refine (K.out _).mono ?_
  rintro e w1 ⟨rfl,hf⟩;have hb:=hf.blk (blk_new w _) (by simp)
  have hF:Fr [] w w1:=((Fr.refl _ _).alloc _).trans hf;have hs1:=hF.size;have hs2:=hf.size;obtain ⟨⟨d0,d1,d2,d3,d4,d5,d6,d7⟩,g0,g1,g2,g3,g4,g5,g6,g7⟩:=cells8 (blk_alloc hb (.cells #[.int .i64 4,.int .u64 0,.int .i64 0,.bool false,.bool false,.bool false,.string ⟨#[]⟩,.slice none 0 0] 45));clear hb;go_wp2;refine bodyPost_ret (v:= .tuple #[.agg #[.int .i64 0,.int .u64 0,.int .i64 0,.bool false,.bool false,.bool false,.string ⟨#[]⟩,.slice none 0 0],.string ⟨#[]⟩,.bool false]) (by simp [results,Tryz.results72,go_sem,d0,d1,d2,d3,d4,d5,d6,d7]) rfl ?_
  exact ⟨rfl,(hF.alloc _).then_ (Fr.put8 _ _ _ _ _ _ _ _ _ _) (by simp)⟩
 ·have K:=Hz (argument s hl);rw [hs] at K;unfold argV at K;have t0:((k:Int)+1==0)=false:=by simp;omega
  go_enter Tryz.func72,Tryz.ntmps72
  go_wp2_with fail
  refine (K.out _).mono ?_
  rintro e w1 ⟨rfl,hf⟩;have hb:=hf.blk (blk_new w _) (by simp)
  have hF:Fr [] w w1:=((Fr.refl _ _).alloc _).trans hf;have hs1:=hF.size;have hs2:=hf.size;obtain ⟨⟨d0,d1,d2,d3,d4,d5,d6,d7⟩,g0,g1,g2,g3,g4,g5,g6,g7⟩:=cells8 (blk_alloc hb (.cells #[.int .i64 5,.int .u64 0,.int .i64 0,.bool false,.bool false,.bool false,.string ⟨#[]⟩,.slice none 0 0] 45));clear hb;go_wp2;refine bodyPost_ret (v:= .tuple #[.agg #[.int .i64 0,.int .u64 0,.int .i64 0,.bool false,.bool false,.bool false,.string ⟨#[]⟩,.slice none 0 0],.string ⟨#[]⟩,.bool false]) (by simp [results,Tryz.results72,go_sem,d0,d1,d2,d3,d4,d5,d6,d7]) rfl ?_
  exact ⟨rfl,(hF.alloc _).then_ (Fr.put8 _ _ _ _ _ _ _ _ _ _) (by simp)⟩
theorem tree_str (s:List UInt8) (hl:s.length≤1099511627776) (k m ai v:Nat) (r:List UInt8) (hs:argF s=some (m,ai,v,r)) (h31:ai≠31) (hm:m=2∨m=3) (hv:v≤r.length) (hrl:r.length≤1099511627776) (w:World):
  Calls Tryz.prog 72 #[.string ⟨s.toArray⟩,.int .i64 ((k:Int)+1)] w fun e w'=>e= .returned (.tuple #[.agg #[.int .i64 (m:Int),.int .u64 0,.int .i64 0,.bool false,.bool false,.bool false,.string ⟨(r.take v).toArray⟩,.slice none 0 0],.string ⟨(r.drop v).toArray⟩,.bool true])∧Fr [] w w':=by
 have t1:((ai:Int)==31)=false:=by simp;omega
 have q1:IntKind.u64.wrap (r.length:Int)=(r.length:Int):=IntWalk.u64_in _ (by omega)
 have q2: ¬(r.length:Int)<(v:Int):=by omega
 have q3:(v:Int)≤(r.length:Int):=by omega
 have q4:=str_take r v hv;have q5:=str_drop r v hv;have q6:(⟨r.toArray⟩:ByteArray).size=r.length:=by simp [ByteArray.size]
 obtain ⟨r1,hr1⟩: ∃r1,r1=r.take v:=⟨_,rfl⟩;obtain ⟨r2,hr2⟩: ∃r2,r2=r.drop v:=⟨_,rfl⟩;rw [←hr1] at q4 ⊢;rw [←hr2] at q5 ⊢;clear hr1 hr2 hv;rcases hm with rfl|rfl
 ·have K:=Hz (argument s hl);rw [hs] at K;unfold argV at K;have t0:((k:Int)+1==0)=false:=by simp;omega
  go_enter Tryz.func72,Tryz.ntmps72
  go_wp2_with fail
  refine (K.out _).mono ?_
  rintro e w1 ⟨rfl,hf⟩;have hb:=hf.blk (blk_new w _) (by simp)
  have hF:Fr [] w w1:=((Fr.refl _ _).alloc _).trans hf;have hs1:=hF.size;have hs2:=hf.size;have hb2:=blk_alloc hb (.cells #[.int .i64 2,.int .u64 0,.int .i64 0,.bool false,.bool false,.bool false,.string ⟨r1.toArray⟩,.slice none 0 0] 45);obtain ⟨⟨d0,d1,d2,d3,d4,d5,d6,d7⟩,g0,g1,g2,g3,g4,g5,g6,g7⟩:=cells8 hb2;clear hb hb2;go_wp2
  go_region
  all_goals try go_wp2
  all_goals refine bodyPost_ret (v:= .tuple #[.agg #[.int .i64 2,.int .u64 0,.int .i64 0,.bool false,.bool false,.bool false,.string ⟨r1.toArray⟩,.slice none 0 0],.string ⟨r2.toArray⟩,.bool true]) (by simp [results,Tryz.results72,go_sem,d0,d1,d2,d3,d4,d5,d6,d7]) rfl ?_
  all_goals exact ⟨rfl,((hF.alloc _).then_ (Fr.put8 _ _ _ _ _ _ _ _ _ _) (by simp)).drew⟩
 ·have K:=Hz (argument s hl);rw [hs] at K;unfold argV at K;have t0:((k:Int)+1==0)=false:=by simp;omega
  go_enter Tryz.func72,Tryz.ntmps72
  go_wp2_with fail
  refine (K.out _).mono ?_
  rintro e w1 ⟨rfl,hf⟩;have hb:=hf.blk (blk_new w _) (by simp)
  have hF:Fr [] w w1:=((Fr.refl _ _).alloc _).trans hf;have hs1:=hF.size;have hs2:=hf.size;have hb2:=blk_alloc hb (.cells #[.int .i64 3,.int .u64 0,.int .i64 0,.bool false,.bool false,.bool false,.string ⟨r1.toArray⟩,.slice none 0 0] 45);obtain ⟨⟨d0,d1,d2,d3,d4,d5,d6,d7⟩,g0,g1,g2,g3,g4,g5,g6,g7⟩:=cells8 hb2;clear hb hb2;go_wp2
  go_region
  all_goals try go_wp2
  all_goals refine bodyPost_ret (v:= .tuple #[.agg #[.int .i64 3,.int .u64 0,.int .i64 0,.bool false,.bool false,.bool false,.string ⟨r1.toArray⟩,.slice none 0 0],.string ⟨r2.toArray⟩,.bool true]) (by simp [results,Tryz.results72,go_sem,d0,d1,d2,d3,d4,d5,d6,d7]) rfl ?_
  all_goals exact ⟨rfl,((hF.alloc _).then_ (Fr.put8 _ _ _ _ _ _ _ _ _ _) (by simp)).drew⟩
theorem tree_list {xs:List UInt8} (s:List UInt8) (hl:s.length≤1099511627776) (k m ai v o n:Nat) (hs:argF s=some (m,ai,v,xs.drop o)) (h31:ai≠31) (hm:m=4∧n=v∧v≤(xs.drop o).length∨m=5∧n=v*2∧v≤(xs.drop o).length∨m=6∧n=1) (hrl:(xs.drop o).length≤1099511627776) {RR:Option (List Tr×Nat)} {r:Option (Tr×Nat)}
  (KO: ∀w,Calls Tryz.prog 97 #[.agg #[.int .i64 (m:Int),.int .u64 ((if m=6 then v else 0:Nat):Int),.int .i64 0,.bool false,.bool false,.bool false,.string ⟨#[]⟩,.slice none 0 0],.string ⟨(xs.drop o).toArray⟩,.int .i64 (n:Int),.int .i64 ((k:Int)+1)] w (KidsP xs m (if m=6 then v else 0) false RR w))
  (f:List Tr→Tr) (hfg: ∀l off,RR=some (l,off)→gn (f l)= .mk m (if m=6 then v else 0) 0 false false false [] (gns l)) (hr:r=RR.map fun q=>(f q.1,q.2)) (w:World):
  Calls Tryz.prog 72 #[.string ⟨s.toArray⟩,.int .i64 ((k:Int)+1)] w (TreeP xs r w):=by
 have t1:((ai:Int)==31)=false:=by simp;omega
 replace KO:=Hz KO;replace hr:=Hz hr;replace hfg:=Hz hfg;have hfin:=Hz (fun (w1 w2:World) (g:Gn) (kv:Value) (rest:ByteArray) (W:World) (e:Ending) hq hsl h1 hF hW he=>kids_tree (w:=w) (w1:=w1) (w2:=w2) (S:=[]) (xs:=xs) (m:=m) (nn:=if m=6 then v else 0) (o:=false) (R:=RR) (r:=r) (g:=g) (kv:=kv) (rest:=rest) (W:=W) (e:=e) hq hsl h1 hF hW f hfg.out hr.out he)
 generalize xs.drop o=rs at *
 have q6:(⟨rs.toArray⟩:ByteArray).size=rs.length:=by simp [ByteArray.size]
 have q1:IntKind.u64.wrap (rs.length:Int)=(rs.length:Int):=IntWalk.u64_in _ (by omega)
 rcases hm with ⟨rfl,rfl,hv⟩|⟨rfl,rfl,hv⟩|⟨rfl,rfl⟩
 ·have q2: ¬(rs.length:Int)<(n:Int):=by omega
  have q3:IntKind.i64.wrap (n:Int)=(n:Int):=IntWalk.i64_in _ (by omega)
  have K:=Hz (argument s hl);rw [hs] at K;unfold argV at K;have t0:((k:Int)+1==0)=false:=by simp;omega
  go_enter Tryz.func72,Tryz.ntmps72
  go_wp2_with fail
  refine (K.out _).mono ?_
  rintro e w1 ⟨rfl,hf⟩;have hb:=hf.blk (blk_new w _) (by simp)
  have hF:Fr [] w w1:=((Fr.refl _ _).alloc _).trans hf;have hs1:=hF.size;have hs2:=hf.size;go_wp2_with fail
  refine (KO.out _).mono ?_
  rintro e w2 ⟨g',kv',rest,he,hf2,⟨ao',kn',kc',rfl⟩,hq⟩;have hF2:=(hF.alloc _).trans hf2;have hlt:=hf2.size;have hB:=hf2.blk (blk_alloc hb (.cells #[.int .i64 4,.int .u64 0,.int .i64 0,.bool false,.bool false,.bool false,.string ⟨#[]⟩,.slice none 0 0] 45)) (by simp)
  replace hq:=Hz (fun (W:World) (hW:Fr [w.heap.size] w2 W)=>hfin.out _ w2 g' _ rest W _ hq ⟨_,_,_,rfl⟩ (by simp;omega) hF2 hW he)
  obtain ⟨a0,a1,a2,b0,b1,b2,tx,gks⟩:=g';rw [nd_mk] at he;obtain ⟨⟨d0,d1,d2,d3,d4,d5,d6,d7⟩,g0,g1,g2,g3,g4,g5,g6,g7⟩:=cells8 hB;subst he;generalize RR.isSome=bb at *
  clear hb hB;go_wp2;refine bodyPost_ret (v:= .tuple #[.agg #[.int .i64 (a0:Int),.int .u64 (a1:Int),.int .i64 (a2:Int),.bool b0,.bool b1,.bool b2,.string ⟨tx.toArray⟩,.slice ao' kn' kc'],.string rest,.bool bb]) (by simp [results,Tryz.results72,go_sem,d0,d1,d2,d3,d4,d5,d6,d7]) rfl ?_
  exact hq.out _ (Fr.put8 _ _ _ _ _ _ _ _ _ _)
 ·have q2: ¬(rs.length:Int)<(v:Int):=by omega
  have q3:IntKind.u64.wrap (2*(v:Int))=2*(v:Int):=IntWalk.u64_in _ (by omega)
  have q4:IntKind.i64.wrap (2*(v:Int))=2*(v:Int):=IntWalk.i64_in _ (by omega)
  rw [show ((v*2:Nat):Int)=2*(v:Int) by omega] at KO
  have K:=Hz (argument s hl);rw [hs] at K;unfold argV at K;have t0:((k:Int)+1==0)=false:=by simp;omega
  go_enter Tryz.func72,Tryz.ntmps72
  go_wp2_with fail
  refine (K.out _).mono ?_
  rintro e w1 ⟨rfl,hf⟩;have hb:=hf.blk (blk_new w _) (by simp)
  have hF:Fr [] w w1:=((Fr.refl _ _).alloc _).trans hf;have hs1:=hF.size;have hs2:=hf.size;go_wp2_with fail
  refine (KO.out _).mono ?_
  rintro e w2 ⟨g',kv',rest,he,hf2,⟨ao',kn',kc',rfl⟩,hq⟩;have hF2:=(hF.alloc _).trans hf2;have hlt:=hf2.size;have hB:=hf2.blk (blk_alloc hb (.cells #[.int .i64 5,.int .u64 0,.int .i64 0,.bool false,.bool false,.bool false,.string ⟨#[]⟩,.slice none 0 0] 45)) (by simp)
  replace hq:=Hz (fun (W:World) (hW:Fr [w.heap.size] w2 W)=>hfin.out _ w2 g' _ rest W _ hq ⟨_,_,_,rfl⟩ (by simp;omega) hF2 hW he)
  obtain ⟨a0,a1,a2,b0,b1,b2,tx,gks⟩:=g';rw [nd_mk] at he;obtain ⟨⟨d0,d1,d2,d3,d4,d5,d6,d7⟩,g0,g1,g2,g3,g4,g5,g6,g7⟩:=cells8 hB;subst he;generalize RR.isSome=bb at *
  clear hb hB;go_wp2;refine bodyPost_ret (v:= .tuple #[.agg #[.int .i64 (a0:Int),.int .u64 (a1:Int),.int .i64 (a2:Int),.bool b0,.bool b1,.bool b2,.string ⟨tx.toArray⟩,.slice ao' kn' kc'],.string rest,.bool bb]) (by simp [results,Tryz.results72,go_sem,d0,d1,d2,d3,d4,d5,d6,d7]) rfl ?_
  exact hq.out _ (Fr.put8 _ _ _ _ _ _ _ _ _ _)
 ·have K:=Hz (argument s hl);rw [hs] at K;unfold argV at K;have t0:((k:Int)+1==0)=false:=by simp;omega
  go_enter Tryz.func72,Tryz.ntmps72
  go_wp2_with fail
  refine (K.out _).mono ?_
  rintro e w1 ⟨rfl,hf⟩;have hb:=hf.blk (blk_new w _) (by simp)
  have hF:Fr [] w w1:=((Fr.refl _ _).alloc _).trans hf;have hs1:=hF.size;have hs2:=hf.size;go_wp2_with fail
  refine (KO.out _).mono ?_
  rintro e w2 ⟨g',kv',rest,he,hf2,⟨ao',kn',kc',rfl⟩,hq⟩;have hF2:=(hF.alloc _).trans hf2;have hlt:=hf2.size;have hB:=hf2.blk (blk_alloc hb (.cells #[.int .i64 6,.int .u64 (v:Int),.int .i64 0,.bool false,.bool false,.bool false,.string ⟨#[]⟩,.slice none 0 0] 45)) (by simp)
  replace hq:=Hz (fun (W:World) (hW:Fr [w.heap.size] w2 W)=>hfin.out _ w2 g' _ rest W _ hq ⟨_,_,_,rfl⟩ (by simp;omega) hF2 hW he)
  obtain ⟨a0,a1,a2,b0,b1,b2,tx,gks⟩:=g';rw [nd_mk] at he;obtain ⟨⟨d0,d1,d2,d3,d4,d5,d6,d7⟩,g0,g1,g2,g3,g4,g5,g6,g7⟩:=cells8 hB;subst he;generalize RR.isSome=bb at *
  clear hb hB;go_wp2;refine bodyPost_ret (v:= .tuple #[.agg #[.int .i64 (a0:Int),.int .u64 (a1:Int),.int .i64 (a2:Int),.bool b0,.bool b1,.bool b2,.string ⟨tx.toArray⟩,.slice ao' kn' kc'],.string rest,.bool bb]) (by simp [results,Tryz.results72,go_sem,d0,d1,d2,d3,d4,d5,d6,d7]) rfl ?_
  exact hq.out _ (Fr.put8 _ _ _ _ _ _ _ _ _ _)
end
section
open Go.RowKit
theorem hd_27 {xs:List UInt8} {off m ai v o:Nat} (h:hd xs off= .ok (m,ai,v,o)):ai≤27∨ai=31:=by
 unfold hd at h
 split at h
 ·cases h
 ·split at h
  ·cases h;omega
  ·split at h
   ·split at h
    ·cases h
    ·split at h
     ·cases h
     ·cases h;omega
   ·split at h
    ·split at h
     ·cases h
     ·cases h;exact .inr rfl
    ·cases h
theorem hd_ai' {xs:List UInt8} {off m ai v o:Nat} (h:hd xs off= .ok (m,ai,v,o)) (h1:24≤ai) (h2:ai<28):v<256^2^(ai-24):=by
 unfold hd at h
 split at h
 ·cases h
 ·rename_i b e
  split at h
  ·cases h;omega
  ·split at h
   ·split at h
    ·cases h
    ·split at h
     ·cases h
     ·cases h
      have:=be_lt ((xs.drop (off+1)).take (2^(b.toNat%32-24)));refine Nat.lt_of_lt_of_le this (Nat.pow_le_pow_right (by decide) ?_)
      rw [List.length_take];omega
   ·split at h
    ·split at h
     ·cases h
     ·cases h;omega
    ·cases h
theorem isS_gn (m:Nat) (hm:m=2∨m=3) (t:Tr):Tr.isS (m==3) t= !(decide (m<4)&&(!decide ((gn t).maj=m)||(gn t).opn)):=by
 rcases hm with rfl|rfl
 ·cases t with
  |int neg n=>cases neg<;>simp [Tr.isS,gn,Gn.maj]
  |str tx b=>cases tx<;>simp [Tr.isS,gn,Gn.maj,Gn.opn,majS]
  |chk tx l=>cases tx<;>simp [Tr.isS,gn,Gn.maj,Gn.opn,majS]
  |arr o l=>simp [Tr.isS,gn,Gn.maj]
  |map o l=>simp [Tr.isS,gn,Gn.maj]
  |tag n t=>simp [Tr.isS,gn,Gn.maj]
  |prim ai v=>simp [Tr.isS,gn,Gn.maj]
 ·cases t with
  |int neg n=>cases neg<;>simp [Tr.isS,gn,Gn.maj]
  |str tx b=>cases tx<;>simp [Tr.isS,gn,Gn.maj,Gn.opn,majS]
  |chk tx l=>cases tx<;>simp [Tr.isS,gn,Gn.maj,Gn.opn,majS]
  |arr o l=>simp [Tr.isS,gn,Gn.maj]
  |map o l=>simp [Tr.isS,gn,Gn.maj]
  |tag n t=>simp [Tr.isS,gn,Gn.maj]
  |prim ai v=>simp [Tr.isS,gn,Gn.maj]
theorem tree_yes {w W:World} {xs:List UInt8} {r:Option (Tr×Nat)} {t:Tr} {o:Nat} (hr:r=some (t,o)) (hk:t.ks=[]) (ho:o≤xs.length) (hF:Fr [] w W) {v:Value} (hv:v= .agg (nd (gn t) (.slice none 0 0)).toArray):
  TreeP xs r w (.returned (.tuple #[v,.string ⟨(xs.drop o).toArray⟩,.bool true])) W:=by
 subst hr hv;refine ⟨gn t,.slice none 0 0,_,rfl,hF,⟨_,_,_,rfl⟩,fun t2 o2 e=> ?_⟩
 injection e with e
 injection e with e1 e2
 subst e1 e2;refine ⟨rfl,rfl,ho,[],by simp,?_⟩
 rw [ndV_ks,gn_ks,hk];exact .inl ⟨rfl,_,_,rfl⟩
theorem tree_all {xs:List UInt8} (hlen:xs.length≤1000000000): ∀k:Nat,k≤1000→ ∀off,off≤xs.length→ ∀w,Calls Tryz.prog 72 #[.string ⟨(xs.drop off).toArray⟩,.int .i64 (k:Int)] w (TreeP xs (treeF xs k off) w):=by
 intro k
 induction k with
 |zero=>
  intro _ off ho w;have hl:(xs.drop off).length≤1099511627776:=by rw [List.length_drop];omega
  cases hA:argF (xs.drop off) with
  |none=>
   refine (tree_a _ hl 0 hA w).mono ?_
   rintro e w' ⟨rfl,hF⟩;exact tree_no rfl hF
  |some q=>
   obtain ⟨m,ai,v,r⟩:=q;refine (tree_b _ hl 0 m ai v r hA (.inl rfl) w).mono ?_
   rintro e w' ⟨rfl,hF⟩;exact tree_no rfl hF
 |succ k ih=>
  intro hk off ho w;have IH:=ih (by omega)
  have hl:(xs.drop off).length≤1099511627776:=by rw [List.length_drop];omega
  cases hA:argF (xs.drop off) with
  |none=>
   obtain ⟨e,he⟩:=arg_none hA;refine (tree_a _ hl (k+1) hA w).mono ?_
   rintro e w' ⟨rfl,hF⟩;exact tree_no (treeF_err he) hF
  |some q=>
   obtain ⟨m,ai,v,r⟩:=q;have ek:((k+1:Nat):Int)=(k:Int)+1:=by omega
   rcases arg_case hA with ⟨⟨e,he⟩,hbad⟩|⟨o,hh,rfl,hn1,hn2⟩
   ·rcases hbad with hbad|⟨rfl,rfl,hv⟩
    ·refine (tree_b _ hl (k+1) m ai v r hA (.inr hbad) w).mono ?_
     rintro e w' ⟨rfl,hF⟩;exact tree_no (treeF_err he) hF
    ·rw [ek];refine (tree_prim _ hl k 24 v r hA (by omega) (by omega) (by omega) w).mono ?_
     rintro e w' ⟨rfl,hF⟩;refine ⟨gn (.prim 24 v),.slice none 0 0,⟨r.toArray⟩,?_,hF,⟨_,_,_,rfl⟩,fun t o e=> ?_⟩
     ·rw [treeF_err he,show decide (¬(24=24∧v<32))=false by simp;omega]
      rfl
     ·rw [treeF_err he] at e;cases e
   ·obtain ⟨f1,f2,f3,f4⟩:=hd_off hh;obtain ⟨g1,g2⟩:=hd_val hh;have h27:=hd_27 hh;have hrl:(xs.drop o).length≤1099511627776:=by rw [List.length_drop];omega
    have hrl2:(xs.drop o).length=xs.length-o:=List.length_drop;rw [ek];by_cases c1:m<2
    ·refine (tree_int _ hl k m ai v _ hA (by omega) c1 w).mono ?_
     rintro e w' ⟨rfl,hF⟩;refine tree_yes (t:= .int (m==1) v) ?_ rfl g2 hF ?_
     ·rw [treeF,hh];dsimp only;rw [if_pos c1]
     ·rcases (show m=0∨m=1 by omega) with rfl|rfl<;>rfl
    ·by_cases c2:m<4
     ·have hm23:m=2∨m=3:=by omega
      have hms:majS (m==3)=m:=by rcases hm23 with rfl|rfl<;>rfl
      by_cases c3:ai=31
      ·subst c3;refine tree_open _ hl k m v o hA (by omega) (fun w=>opens hlen (by omega) IH m 0 (Tr.isS (m==3)) (isS_gn m hm23) (xs.length+1) o (by omega) g2 w) (fun l=> .chk (m==3) l) (fun l=>by rw [gn,hms]) ?_ w
       rw [treeF,hh];dsimp only;rw [if_neg c1,if_pos c2,if_pos rfl];cases openF (treeF xs k) (Tr.isS (m==3)) xs (xs.length+1) o with
       |none=>rfl
       |some q=>simp only [Option.bind_some,Option.map_some];rw [if_neg (by omega)];rfl
      ·by_cases c4:xs.length-o<v
       ·refine (tree_over _ hl k m ai v _ hA c3 (by omega) (by omega) hrl w).mono ?_
        rintro e w' ⟨rfl,hF⟩;refine tree_no ?_ hF
        rw [treeF,hh];dsimp only;rw [if_neg c1,if_pos c2,if_neg c3,if_pos c4]
       ·refine (tree_str _ hl k m ai v _ hA c3 hm23 (by omega) hrl w).mono ?_
        rintro e w' ⟨rfl,hF⟩;rw [List.drop_drop];refine tree_yes (t:= .str (m==3) ((xs.drop o).take v)) ?_ rfl (by omega) hF ?_
        ·rw [treeF,hh];dsimp only;rw [if_neg c1,if_pos c2,if_neg c3,if_neg c4]
        ·rw [gn,hms];rfl
     ·by_cases c5:m=4
      ·subst c5;by_cases c3:ai=31
       ·subst c3;refine tree_open _ hl k 4 v o hA (by omega) (fun w=>opens hlen (by omega) IH 4 0 (fun _=>true) (fun t=>by simp) (xs.length+1) o (by omega) g2 w) (fun l=> .arr true l) (fun l=>by rw [gn]) ?_ w
        rw [treeF,hh];dsimp only;rw [if_neg c1,if_neg c2,if_pos rfl,if_pos rfl];cases openF (treeF xs k) (fun _=>true) xs (xs.length+1) o with
        |none=>rfl
        |some q=>simp
       ·by_cases c4:xs.length-o<v
        ·refine (tree_over _ hl k 4 ai v _ hA c3 (by omega) (by omega) hrl w).mono ?_
         rintro e w' ⟨rfl,hF⟩;refine tree_no ?_ hF
         rw [treeF,hh];dsimp only;rw [if_neg c1,if_neg c2,if_pos rfl,if_neg c3,if_pos c4]
        ·refine tree_list _ hl k 4 ai v o v hA c3 (.inl ⟨rfl,rfl,by omega⟩) hrl (fun w=>kids hlen (by omega) IH 4 0 false v o g2 (by omega) w) (fun l=> .arr false l) (fun l _ _=>by rw [gn];rfl) ?_ w
         rw [treeF,hh];dsimp only;rw [if_neg c1,if_neg c2,if_pos rfl,if_neg c3,if_neg c4]
      ·by_cases c6:m=5
       ·subst c6;by_cases c3:ai=31
        ·subst c3;refine tree_open _ hl k 5 v o hA (by omega) (fun w=>opens hlen (by omega) IH 5 0 (fun _=>true) (fun t=>by simp) (xs.length+1) o (by omega) g2 w) (fun l=> .map true l) (fun l=>by rw [gn]) ?_ w
         rw [treeF,hh];dsimp only;rw [if_neg c1,if_neg c2,if_neg c5,if_pos rfl,if_pos rfl];cases openF (treeF xs k) (fun _=>true) xs (xs.length+1) o with
         |none=>rfl
         |some q=>
          simp only [Option.bind_some];by_cases h2:q.1.length%2=0
          ·simp [h2]
          ·simp [h2]
        ·by_cases c4:xs.length-o<v
         ·refine (tree_over _ hl k 5 ai v _ hA c3 (by omega) (by omega) hrl w).mono ?_
          rintro e w' ⟨rfl,hF⟩;refine tree_no ?_ hF
          rw [treeF,hh];dsimp only;rw [if_neg c1,if_neg c2,if_neg c5,if_pos rfl,if_neg c3,if_pos c4]
         ·refine tree_list _ hl k 5 ai v o (v*2) hA c3 (.inr (.inl ⟨rfl,rfl,by omega⟩)) hrl (fun w=>kids hlen (by omega) IH 5 0 false (v*2) o g2 (by omega) w) (fun l=> .map false l) (fun l _ _=>by rw [gn];rfl) ?_ w
          rw [treeF,hh];dsimp only;rw [if_neg c1,if_neg c2,if_neg c5,if_pos rfl,if_neg c3,if_neg c4]
       ·by_cases c7:m=6
        ·subst c7;refine tree_list _ hl k 6 ai v o 1 hA (by omega) (.inr (.inr ⟨rfl,rfl⟩)) hrl (fun w=>kids hlen (by omega) IH 6 v false 1 o g2 (by omega) w) (fun l=> .tag v (l.headD (.int false 0))) (fun l off e=> ?_) ?_ w
         ·have:=(kids_enc (xs:=xs) (fun off t o h=>tree_enc (by omega) k off t o h) 1 o l off e).1
          obtain ⟨t,rfl⟩: ∃t,l=[t]:=by
           cases l with
           |nil=>simp at this
           |cons a l=>
            cases l with
            |nil=>exact ⟨a,rfl⟩
            |cons b l=>simp at this
          rw [gn];rfl
         ·rw [treeF,hh];dsimp only;rw [if_neg c1,if_neg c2,if_neg c5,if_neg c6,if_pos rfl];rw [show (1:Nat)=0+1 from rfl,kidsF_step]
          cases treeF xs k o with
          |none=>rfl
          |some q=>rfl
        ·obtain rfl:m=7:=by omega
         have h31:ai≤27:=by omega
         refine (tree_prim _ hl k ai v _ hA h31 (fun e=> ?_) (fun e=> ?_) w).mono ?_
         ·have:=hd_ai' hh (by omega) (by omega);subst e;exact this
         ·have:=hd_ai' hh (by omega) (by omega);subst e;exact this
         rintro e w' ⟨rfl,hF⟩;rw [show decide (¬(ai=24∧v<32))=true by simp;omega]
         refine tree_yes (t:= .prim ai v) ?_ rfl g2 hF rfl
         rw [treeF,hh];dsimp only;rw [if_neg c1,if_neg c2,if_neg c5,if_neg c6,if_neg c7]
theorem treeC {xs:List UInt8} (hlen:xs.length≤1000000000) (w:World):Calls Tryz.prog 39 #[.string ⟨xs.toArray⟩] w (TreeP xs (treeF xs 200 0) w):=by
 have K:=fun w=>tree_all hlen 200 (by omega) 0 (by omega) w
 rw [List.drop_zero] at K;replace K:=Hz K;go_enter Tryz.func39,Tryz.ntmps39
 go_wp2_with fail
 refine (K.out _).mono ?_
 rintro e w1 ⟨g',kv',rest,he,hf,⟨ao',kn',kc',rfl⟩,hq⟩;have hF:Fr [] w w1:=((Fr.refl _ _).alloc _).trans hf;have hb:=hf.blk (blk_new w _) (by simp)
 have hs:=hf.size;replace hq:=Hz hq;generalize hR:treeF xs 200 0=R at *
 obtain ⟨a0,a1,a2,b0,b1,b2,tx,gks⟩:=g';rw [nd_mk] at he;obtain ⟨⟨d0,d1,d2,d3,d4,d5,d6,d7⟩,g0,g1,g2,g3,g4,g5,g6,g7⟩:=cells8 hb;subst he;replace hR:=Hz hR;obtain ⟨bb,hbb⟩: ∃bb,bb=R.isSome:=⟨_,rfl⟩;rw [←hbb];replace hbb:=Hz hbb;clear hb;go_wp2;refine bodyPost_ret (v:= .tuple #[.agg #[.int .i64 (a0:Int),.int .u64 (a1:Int),.int .i64 (a2:Int),.bool b0,.bool b1,.bool b2,.string ⟨tx.toArray⟩,.slice ao' kn' kc'],.string rest,.bool bb]) (by simp [results,Tryz.results39,go_sem,d0,d1,d2,d3,d4,d5,d6,d7]) rfl ?_
 have hW:=Fr.put8 w1 w.heap.size (.int .i64 (a0:Int)) (.int .u64 (a1:Int)) (.int .i64 (a2:Int)) (.bool b0) (.bool b1) (.bool b2) (.string ⟨tx.toArray⟩) (.slice ao' kn' kc');refine ⟨.mk a0 a1 a2 b0 b1 b2 tx gks,.slice ao' kn' kc',rest,by rw [nd_mk,hbb.out],hF.then_ hW (by simp),⟨_,_,_,rfl⟩,fun t o e=> ?_⟩
 obtain ⟨q1,q2,q3,bl,q4,q5⟩:=hq.out t o e;exact ⟨q1,q2,q3,bl,fun b hb=>⟨by have:=(q4 b hb).1;simp at this;omega,Nat.lt_of_lt_of_le (q4 b hb).2 hW.size⟩,q5.fr (fun b hb=>hW.block b (q4 b hb).2 (by have:=(q4 b hb).1;simp at this ⊢;omega)) (fun b hb=>hb) _ _⟩
def OneP (r:Option Tr) (w:World) (e:Ending) (w':World):Prop:=
 ∃g kv,e= .returned (.tuple #[.agg (nd g kv).toArray,.bool r.isSome])∧Fr [] w w'∧(∃ao n c,kv= .slice ao n c)∧
  ∀t,r=some t→g=gn t∧ ∃bl,(∀b,b∈bl→w.heap.size≤b∧b<w'.heap.size)∧NdV w' bl g kv
def oneF (xs:List UInt8):Option Tr:=(treeF xs 200 0).bind fun q=>if q.2=xs.length then some q.1 else none
theorem one {xs:List UInt8} (hlen:xs.length≤1000000000) (w:World):Calls Tryz.prog 31 #[.string ⟨xs.toArray⟩] w (OneP (oneF xs) w):=by
 have K:=Hz (fun w=>treeC hlen w)
 generalize hRR:oneF xs=RR;replace hRR:=Hz hRR;go_enter Tryz.func31,Tryz.ntmps31
 go_wp2_with fail
 refine (K.out _).mono ?_
 rintro e w1 ⟨g',kv',rest,he,hf,⟨ao',kn',kc',rfl⟩,hq⟩;have hF:Fr [] w w1:=((Fr.refl _ _).alloc _).trans hf;have hb:=hf.blk (blk_new w _) (by simp)
 have hs:=hf.size;obtain ⟨a0,a1,a2,b0,b1,b2,tx,gks⟩:=g';rw [nd_mk] at he;obtain ⟨⟨d0,d1,d2,d3,d4,d5,d6,d7⟩,g0,g1,g2,g3,g4,g5,g6,g7⟩:=cells8 (blk_alloc hb (.cells #[.int .i64 (a0:Int),.int .u64 (a1:Int),.int .i64 (a2:Int),.bool b0,.bool b1,.bool b2,.string ⟨tx.toArray⟩,.slice ao' kn' kc'] 45));have hW:=Fr.put8 (w1.alloc (.cells #[.int .i64 (a0:Int),.int .u64 (a1:Int),.int .i64 (a2:Int),.bool b0,.bool b1,.bool b2,.string ⟨tx.toArray⟩,.slice ao' kn' kc'] 45)) w.heap.size (.int .i64 (a0:Int)) (.int .u64 (a1:Int)) (.int .i64 (a2:Int)) (.bool b0) (.bool b1) (.bool b2) (.string ⟨tx.toArray⟩) (.slice ao' kn' kc');have hA:Fr [] w1 (w1.alloc (.cells #[.int .i64 (a0:Int),.int .u64 (a1:Int),.int .i64 (a2:Int),.bool b0,.bool b1,.bool b2,.string ⟨tx.toArray⟩,.slice ao' kn' kc'] 45)):=(Fr.refl _ _).alloc _;clear hb;cases hT:treeF xs 200 0 with
 |none=>
  rw [hT] at he;subst he;obtain rfl:RR=none:=by rw [←hRR.out];unfold oneF;rw [hT];rfl
  replace hW:=Hz hW;clear hq hT;go_wp2;refine bodyPost_ret (v:= .tuple #[.agg #[.int .i64 (a0:Int),.int .u64 (a1:Int),.int .i64 (a2:Int),.bool b0,.bool b1,.bool b2,.string ⟨tx.toArray⟩,.slice ao' kn' kc'],.bool false]) (by simp [results,Tryz.results31,go_sem,d0,d1,d2,d3,d4,d5,d6,d7]) rfl ?_
  exact ⟨.mk a0 a1 a2 b0 b1 b2 tx gks,.slice ao' kn' kc',rfl,(hF.trans hA).then_ hW.out (by simp),⟨_,_,_,rfl⟩,fun t e=>by cases e⟩
 |some q=>
  obtain ⟨t,o⟩:=q;rw [hT] at he;subst he;obtain ⟨rfl,q2,q3,bl,q4,q5⟩:=hq t o hT;have hfin:Hid (∀W,Fr [w.heap.size] (w1.alloc (.cells #[.int .i64 (a0:Int),.int .u64 (a1:Int),.int .i64 (a2:Int),.bool b0,.bool b1,.bool b2,.string ⟨tx.toArray⟩,.slice ao' kn' kc'] 45)) W→ ∃bl,(∀b,b∈bl→w.heap.size≤b∧b<W.heap.size)∧NdV W bl (.mk a0 a1 a2 b0 b1 b2 tx gks) (.slice ao' kn' kc')):=Hz (fun W hw=>by
   have hX:=(hA.mono (T:=[w.heap.size]) (by simp)).trans hw
   exact ⟨bl,fun b hb=>⟨by have:=(q4 b hb).1;simp at this;omega,Nat.lt_of_lt_of_le (q4 b hb).2 hX.size⟩,q5.fr (fun b hb=>hX.block b (q4 b hb).2 (by have:=(q4 b hb).1;simp at this ⊢;omega)) (fun b hb=>hb) _ _⟩)
  replace hW:=Hz hW;replace q2:=Hz q2;clear hq q4 q5;by_cases ho:o=xs.length
  ·subst ho;obtain rfl:RR=some t:=by rw [←hRR.out];unfold oneF;rw [hT];simp
   clear hT;have hd:xs.drop xs.length=[]:=List.drop_of_length_le (Nat.le_refl _);rw [hd];have he:((⟨(#[]:Array UInt8)⟩:ByteArray)==⟨#[]⟩)=true:=by decide
   go_wp2;refine bodyPost_ret (v:= .tuple #[.agg #[.int .i64 (a0:Int),.int .u64 (a1:Int),.int .i64 (a2:Int),.bool b0,.bool b1,.bool b2,.string ⟨tx.toArray⟩,.slice ao' kn' kc'],.bool true]) (by simp [results,Tryz.results31,go_sem,d0,d1,d2,d3,d4,d5,d6,d7]) rfl ?_
   refine ⟨.mk a0 a1 a2 b0 b1 b2 tx gks,.slice ao' kn' kc',rfl,(hF.trans hA).then_ hW.out (by simp),⟨_,_,_,rfl⟩,fun t2 e=> ?_⟩
   injection e with e
   subst e;exact ⟨q2.out,hfin.out _ hW.out⟩
  ·obtain rfl:RR=none:=by rw [←hRR.out];unfold oneF;rw [hT];simp [ho]
   clear hT;cases hd:xs.drop o with
   |nil=>exact absurd (List.drop_eq_nil_iff.1 hd) (by omega)
   |cons b r=>
    have he:=str_cons_ne b r;clear hfin hd;go_wp2;refine bodyPost_ret (v:= .tuple #[.agg #[.int .i64 (a0:Int),.int .u64 (a1:Int),.int .i64 (a2:Int),.bool b0,.bool b1,.bool b2,.string ⟨tx.toArray⟩,.slice ao' kn' kc'],.bool false]) (by simp [results,Tryz.results31,go_sem,d0,d1,d2,d3,d4,d5,d6,d7]) rfl ?_
    exact ⟨.mk a0 a1 a2 b0 b1 b2 tx gks,.slice ao' kn' kc',rfl,(hF.trans hA).then_ hW.out (by simp),⟨_,_,_,rfl⟩,fun t e=>by cases e⟩
end
end Go.Proofs.YteodinhkhhaafaaGreatDoor
