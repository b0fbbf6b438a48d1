/- Walks of the program, and plain facts. -/
import Derived.Test.YteodinhkhhaafaaGreatDoorDbr
set_option linter.unusedVariables false
set_option linter.unusedSimpArgs false
set_option maxRecDepth 100000
set_option maxHeartbeats 6400000
namespace Go.Proofs.YteodinhkhhaafaaGreatDoor
section
open Go.RowKit
def spN (ai n:Nat):Value:= .agg #[.int .i64 7,.int .u64 (wide ai n:Int),.int .i64 ((if isFl ai then 2^(ai-24) else 0:Nat):Int),.bool false,.bool (isFl ai),.bool false,.string ⟨#[]⟩,.slice none 0 0]
theorem special (ai n:Nat) (r:List UInt8) (h27:ai≤27) (h25:ai=25→n<65536) (h26:ai=26→n<4294967296) (w:World):
  Calls Tryz.prog 98 #[.agg #[.int .i64 7,.int .u64 (n:Int),.int .i64 0,.bool false,.bool false,.bool false,.string ⟨#[]⟩,.slice none 0 0],.int .i64 (ai:Int),.string ⟨r.toArray⟩] w fun e w'=>
   e= .returned (.tuple #[spN ai n,.string ⟨r.toArray⟩,.bool (decide (¬(ai=24∧n<32)))])∧Fr [] w w':=by
 by_cases c1:ai<24
 ·have e1:spN ai n= .agg #[.int .i64 7,.int .u64 (n:Int),.int .i64 0,.bool false,.bool false,.bool false,.string ⟨#[]⟩,.slice none 0 0]:=by
   have g:isFl ai=false:=by unfold isFl;simp;omega
   unfold spN wide
   rw [if_neg (by omega),if_neg (by omega),g]
   rfl
  rw [e1,show decide (¬(ai=24∧n<32))=true by simp;omega]
  clear e1 h25 h26
  have t1:((ai:Int)==24)=false:=by simp;omega
  have t2:((ai:Int)==25)=false:=by simp;omega
  have t3:((ai:Int)==26)=false:=by simp;omega
  have t4: ¬(24:Int)<(ai:Int):=by omega
  go_enter Tryz.func98,Tryz.ntmps98
  go_wp2
  refine bodyPost_ret (v:= .tuple #[.agg #[.int .i64 7,.int .u64 (n:Int),.int .i64 0,.bool false,.bool false,.bool false,.string ⟨#[]⟩,.slice none 0 0],.string ⟨r.toArray⟩,.bool true]) (by simp [results,Tryz.results98,go_sem]) rfl ?_
  exact ⟨rfl,((Fr.refl _ _).alloc _).alloc _⟩
 ·rcases (show ai=24∨ai=25∨ai=26∨ai=27 by omega) with rfl|rfl|rfl|rfl
  ·have e1:spN 24 n= .agg #[.int .i64 7,.int .u64 (n:Int),.int .i64 0,.bool false,.bool false,.bool false,.string ⟨#[]⟩,.slice none 0 0]:=rfl
   rw [e1]
   go_enter Tryz.func98,Tryz.ntmps98
   go_wp2
   go_region
   all_goals try go_wp2
   all_goals refine bodyPost_ret (v:= .tuple #[.agg #[.int .i64 7,.int .u64 (n:Int),.int .i64 0,.bool false,.bool false,.bool false,.string ⟨#[]⟩,.slice none 0 0],.string ⟨r.toArray⟩,.bool (decide ((32:Int)≤(n:Int)))]) (by simp [results,Tryz.results98,go_sem]) rfl ?_
   all_goals exact ⟨by simp;omega,(((Fr.refl _ _).alloc _).alloc _).drew⟩
  ·have e1:spN 25 n= .agg #[.int .i64 7,.int .u64 (widen n 5 10:Int),.int .i64 2,.bool false,.bool true,.bool false,.string ⟨#[]⟩,.slice none 0 0]:=rfl
   rw [e1]
   have hn:=h25 rfl
   have g:IntKind.u16.wrap (n:Int)=(n:Int):=IntWalk.u16_in _ (by omega)
   have K:=Hz (fromHalf n hn)
   generalize widen n 5 10=q at K ⊢
   clear h25 h26
   go_enter Tryz.func98,Tryz.ntmps98
   go_wp2_with fail
   refine (K.out _).mono ?_
   rintro e w1 ⟨rfl,hf⟩
   have hb0:=hf.blk (blk_alloc (blk_new w _) _) (by simp)
   have hb1:=hf.blk (blk_new' _ _ (n:=w.heap.size+1) (by simp)) (by simp)
   have hF:Fr [] w w1:=(((Fr.refl _ _).alloc _).alloc _).trans hf
   obtain ⟨⟨c0,c1,c2,c3,c4,c5,c6,c7⟩,f0,f1,f2,f3,f4,f5,f6,f7⟩:=cells8 hb0
   obtain ⟨⟨d0,d1,d2,d3,d4,d5,d6,d7⟩,g0,g1,g2,g3,g4,g5,g6,g7⟩:=cells8 hb1
   clear hb0 hb1
   go_wp2
   refine bodyPost_ret (v:= .tuple #[.agg #[.int .i64 7,.int .u64 (q:Int),.int .i64 2,.bool false,.bool true,.bool false,.string ⟨#[]⟩,.slice none 0 0],.string ⟨r.toArray⟩,.bool true]) (by simp [results,Tryz.results98,go_sem,d0,d1,d2,d3,d4,d5,d6,d7]) rfl ?_
   refine ⟨rfl,?_⟩
   repeat (first|with_reducible exact hF|with_reducible refine Fr.setCell ?_ (.inr (by simp)) _)
  ·have e1:spN 26 n= .agg #[.int .i64 7,.int .u64 (widen n 8 23:Int),.int .i64 4,.bool false,.bool true,.bool false,.string ⟨#[]⟩,.slice none 0 0]:=rfl
   rw [e1]
   have hn:=h26 rfl
   have g:IntKind.u32.wrap (n:Int)=(n:Int):=IntWalk.u32_in _ (by omega)
   have K:=Hz (fromSingle n hn)
   generalize widen n 8 23=q at K ⊢
   clear h25 h26
   go_enter Tryz.func98,Tryz.ntmps98
   go_wp2_with fail
   refine (K.out _).mono ?_
   rintro e w1 ⟨rfl,hf⟩
   have hb0:=hf.blk (blk_alloc (blk_new w _) _) (by simp)
   have hb1:=hf.blk (blk_new' _ _ (n:=w.heap.size+1) (by simp)) (by simp)
   have hF:Fr [] w w1:=(((Fr.refl _ _).alloc _).alloc _).trans hf
   obtain ⟨⟨c0,c1,c2,c3,c4,c5,c6,c7⟩,f0,f1,f2,f3,f4,f5,f6,f7⟩:=cells8 hb0
   obtain ⟨⟨d0,d1,d2,d3,d4,d5,d6,d7⟩,g0,g1,g2,g3,g4,g5,g6,g7⟩:=cells8 hb1
   clear hb0 hb1
   go_wp2
   refine bodyPost_ret (v:= .tuple #[.agg #[.int .i64 7,.int .u64 (q:Int),.int .i64 4,.bool false,.bool true,.bool false,.string ⟨#[]⟩,.slice none 0 0],.string ⟨r.toArray⟩,.bool true]) (by simp [results,Tryz.results98,go_sem,d0,d1,d2,d3,d4,d5,d6,d7]) rfl ?_
   refine ⟨rfl,?_⟩
   repeat (first|with_reducible exact hF|with_reducible refine Fr.setCell ?_ (.inr (by simp)) _)
  ·have e1:spN 27 n= .agg #[.int .i64 7,.int .u64 (n:Int),.int .i64 8,.bool false,.bool true,.bool false,.string ⟨#[]⟩,.slice none 0 0]:=rfl
   rw [e1]
   clear h25 h26
   go_enter Tryz.func98,Tryz.ntmps98
   go_wp2
   refine bodyPost_ret (v:= .tuple #[.agg #[.int .i64 7,.int .u64 (n:Int),.int .i64 8,.bool false,.bool true,.bool false,.string ⟨#[]⟩,.slice none 0 0],.string ⟨r.toArray⟩,.bool true]) (by simp [results,Tryz.results98,go_sem]) rfl ?_
   exact ⟨rfl,((Fr.refl _ _).alloc _).alloc _⟩
theorem arg_case {xs:List UInt8} {off m ai v:Nat} {r:List UInt8} (h:argF (xs.drop off)=some (m,ai,v,r)):
  ((∃k,hd xs off= .error k)∧((ai=31∧(m<2∨5<m))∨(m=7∧ai=24∧v<32)))∨ ∃o,hd xs off= .ok (m,ai,v,o)∧r=xs.drop o∧ ¬(ai=31∧(m<2∨5<m))∧ ¬(m=7∧ai=24∧v<32):=by
 have k:=arg_hd xs off
 cases hh:hd xs off with
 |error e=>
  rw [hh] at k
  dsimp only at k
  rcases k with k|⟨m2,ai2,v2,r2,k,hk⟩
  ·rw [k] at h;cases h
  ·rw [k] at h
   injection h with h
   simp only [Prod.mk.injEq] at h
   obtain ⟨rfl,rfl,rfl,rfl⟩:=h
   exact .inl ⟨⟨e,rfl⟩,hk⟩
 |ok q=>
  obtain ⟨m2,ai2,v2,o⟩:=q
  rw [hh] at k
  dsimp only at k
  obtain ⟨k1,k2,k3⟩:=k
  rw [k1] at h
  injection h with h
  simp only [Prod.mk.injEq] at h
  obtain ⟨rfl,rfl,rfl,rfl⟩:=h
  exact .inr ⟨o,rfl,rfl,k2,k3⟩
theorem arg_none {xs:List UInt8} {off:Nat} (h:argF (xs.drop off)=none): ∃k,hd xs off= .error k:=by
 have k:=arg_hd xs off
 cases hh:hd xs off with
 |error e=>exact ⟨e,rfl⟩
 |ok q=>
  obtain ⟨m2,ai2,v2,o⟩:=q
  rw [hh] at k
  dsimp only at k
  rw [k.1] at h
  cases h
theorem treeF_err {xs:List UInt8} {k off e:Nat} (h:hd xs off= .error e):treeF xs k off=none:=by
 cases k with
 |zero=>rfl
 |succ k=>rw [treeF,h]
theorem tree_no {w W:World} {xs:List UInt8} {r:Option (Tr×Nat)} (hr:r=none) (hF:Fr [] w W):
  TreeP xs r w (.returned (.tuple #[.agg #[.int .i64 0,.int .u64 0,.int .i64 0,.bool false,.bool false,.bool false,.string ⟨#[]⟩,.slice none 0 0],.string ⟨#[]⟩,.bool false])) W:=by
 subst hr
 exact ⟨zeroG,.slice none 0 0,_,rfl,hF,⟨_,_,_,rfl⟩,fun l2 o2 e=>by cases e⟩
theorem tree_a (s:List UInt8) (hl:s.length≤1099511627776) (k:Nat) (hs:argF s=none) (w:World):Calls Tryz.prog 72 #[.string ⟨s.toArray⟩,.int .i64 (k:Int)] w fun e w'=>e= .returned (.tuple #[.agg #[.int .i64 0,.int .u64 0,.int .i64 0,.bool false,.bool false,.bool false,.string ⟨#[]⟩,.slice none 0 0],.string ⟨#[]⟩,.bool false])∧Fr [] w w':=by
 have K:=Hz (argument s hl)
 rw [hs] at K
 unfold argV at K
 go_enter Tryz.func72,Tryz.ntmps72
 go_wp2_with fail
 refine (K.out _).mono ?_
 rintro e w1 ⟨rfl,hf⟩
 have hb:=hf.blk (blk_new w _) (by simp)
 have hF:Fr [] w w1:=((Fr.refl _ _).alloc _).trans hf
 obtain ⟨⟨d0,d1,d2,d3,d4,d5,d6,d7⟩,g0,g1,g2,g3,g4,g5,g6,g7⟩:=cells8 hb
 clear hb
 go_wp2
 refine bodyPost_ret (v:= .tuple #[.agg #[.int .i64 0,.int .u64 0,.int .i64 0,.bool false,.bool false,.bool false,.string ⟨#[]⟩,.slice none 0 0],.string ⟨#[]⟩,.bool false]) (by simp [results,Tryz.results72,go_sem,d0,d1,d2,d3,d4,d5,d6,d7]) rfl ?_
 exact ⟨rfl,hF.then_ (Fr.put8 _ _ _ _ _ _ _ _ _ _) (by simp)⟩
theorem tree_b (s:List UInt8) (hl:s.length≤1099511627776) (k m ai v:Nat) (r:List UInt8) (hs:argF s=some (m,ai,v,r)) (hb:k=0∨(ai=31∧(m<2∨5<m))) (w:World):Calls Tryz.prog 72 #[.string ⟨s.toArray⟩,.int .i64 (k:Int)] w fun e w'=>e= .returned (.tuple #[.agg #[.int .i64 0,.int .u64 0,.int .i64 0,.bool false,.bool false,.bool false,.string ⟨#[]⟩,.slice none 0 0],.string ⟨#[]⟩,.bool false])∧Fr [] w w':=by
 have K:=Hz (argument s hl)
 rw [hs] at K
 unfold argV at K
 have hb3:k=0∨(k≠0∧ai=31∧m<2)∨(k≠0∧ai=31∧ ¬m<2∧5<m):=by omega
 rcases hb3 with rfl|⟨h0,rfl,h1⟩|⟨h0,rfl,h1,h2⟩
 ·go_enter Tryz.func72,Tryz.ntmps72
  go_wp2_with fail
  refine (K.out _).mono ?_
  rintro e w1 ⟨rfl,hf⟩
  have hb:=hf.blk (blk_new w _) (by simp)
  have hF:Fr [] w w1:=((Fr.refl _ _).alloc _).trans hf
  obtain ⟨⟨d0,d1,d2,d3,d4,d5,d6,d7⟩,g0,g1,g2,g3,g4,g5,g6,g7⟩:=cells8 hb
  clear hb
  go_wp2
  refine bodyPost_ret (v:= .tuple #[.agg #[.int .i64 0,.int .u64 0,.int .i64 0,.bool false,.bool false,.bool false,.string ⟨#[]⟩,.slice none 0 0],.string ⟨#[]⟩,.bool false]) (by simp [results,Tryz.results72,go_sem,d0,d1,d2,d3,d4,d5,d6,d7]) rfl ?_
  exact ⟨rfl,hF.then_ (Fr.put8 _ _ _ _ _ _ _ _ _ _) (by simp)⟩
 ·have t0:((k:Int)==0)=false:=by simp;omega
  have t1:(m:Int)<2:=by omega
  go_enter Tryz.func72,Tryz.ntmps72
  go_wp2_with fail
  refine (K.out _).mono ?_
  rintro e w1 ⟨rfl,hf⟩
  have hb:=hf.blk (blk_new w _) (by simp)
  have hF:Fr [] w w1:=((Fr.refl _ _).alloc _).trans hf
  obtain ⟨⟨d0,d1,d2,d3,d4,d5,d6,d7⟩,g0,g1,g2,g3,g4,g5,g6,g7⟩:=cells8 hb
  clear hb
  go_wp2
  refine bodyPost_ret (v:= .tuple #[.agg #[.int .i64 0,.int .u64 0,.int .i64 0,.bool false,.bool false,.bool false,.string ⟨#[]⟩,.slice none 0 0],.string ⟨#[]⟩,.bool false]) (by simp [results,Tryz.results72,go_sem,d0,d1,d2,d3,d4,d5,d6,d7]) rfl ?_
  exact ⟨rfl,hF.then_ (Fr.put8 _ _ _ _ _ _ _ _ _ _) (by simp)⟩
 ·have t0:((k:Int)==0)=false:=by simp;omega
  have t1: ¬(m:Int)<2:=by omega
  have t2:(5:Int)<(m:Int):=by omega
  go_enter Tryz.func72,Tryz.ntmps72
  go_wp2_with fail
  refine (K.out _).mono ?_
  rintro e w1 ⟨rfl,hf⟩
  have hb:=hf.blk (blk_new w _) (by simp)
  have hF:Fr [] w w1:=((Fr.refl _ _).alloc _).trans hf
  obtain ⟨⟨d0,d1,d2,d3,d4,d5,d6,d7⟩,g0,g1,g2,g3,g4,g5,g6,g7⟩:=cells8 hb
  clear hb
  go_wp2
  refine bodyPost_ret (v:= .tuple #[.agg #[.int .i64 0,.int .u64 0,.int .i64 0,.bool false,.bool false,.bool false,.string ⟨#[]⟩,.slice none 0 0],.string ⟨#[]⟩,.bool false]) (by simp [results,Tryz.results72,go_sem,d0,d1,d2,d3,d4,d5,d6,d7]) rfl ?_
  exact ⟨rfl,hF.then_ (Fr.put8 _ _ _ _ _ _ _ _ _ _) (by simp)⟩
theorem tree_int (s:List UInt8) (hl:s.length≤1099511627776) (k m ai v:Nat) (r:List UInt8) (hs:argF s=some (m,ai,v,r)) (h31:ai≠31) (hm:m<2) (w:World):
  Calls Tryz.prog 72 #[.string ⟨s.toArray⟩,.int .i64 ((k:Int)+1)] w fun e w'=>e= .returned (.tuple #[.agg #[.int .i64 (m:Int),.int .u64 (v:Int),.int .i64 0,.bool false,.bool false,.bool false,.string ⟨#[]⟩,.slice none 0 0],.string ⟨r.toArray⟩,.bool true])∧Fr [] w w':=by
 have t1:((ai:Int)==31)=false:=by simp;omega
 have t2:((m:Int)==2)=false:=by simp;omega
 have t3:((m:Int)==3)=false:=by simp;omega
 have t4:((m:Int)==4)=false:=by simp;omega
 have t5:((m:Int)==5)=false:=by simp;omega
 have t6:((m:Int)==6)=false:=by simp;omega
 have t7:((m:Int)==7)=false:=by simp;omega
 have K:=Hz (argument s hl)
 rw [hs] at K
 unfold argV at K
 have t0:((k:Int)+1==0)=false:=by simp;omega
 go_enter Tryz.func72,Tryz.ntmps72
 go_wp2_with fail
 refine (K.out _).mono ?_
 rintro e w1 ⟨rfl,hf⟩
 have hb:=hf.blk (blk_new w _) (by simp)
 have hF:Fr [] w w1:=((Fr.refl _ _).alloc _).trans hf
 have hs1:=hF.size
 have hs2:=hf.size
 obtain ⟨⟨d0,d1,d2,d3,d4,d5,d6,d7⟩,g0,g1,g2,g3,g4,g5,g6,g7⟩:=cells8 (blk_alloc hb (.cells #[.int .i64 (m:Int),.int .u64 (v:Int),.int .i64 0,.bool false,.bool false,.bool false,.string ⟨#[]⟩,.slice none 0 0] 45))
 clear hb
 go_wp2
 refine bodyPost_ret (v:= .tuple #[.agg #[.int .i64 (m:Int),.int .u64 (v:Int),.int .i64 0,.bool false,.bool false,.bool false,.string ⟨#[]⟩,.slice none 0 0],.string ⟨r.toArray⟩,.bool true]) (by simp [results,Tryz.results72,go_sem,d0,d1,d2,d3,d4,d5,d6,d7]) rfl ?_
 exact ⟨rfl,(hF.alloc _).then_ (Fr.put8 _ _ _ _ _ _ _ _ _ _) (by simp)⟩
theorem tree_prim (s:List UInt8) (hl:s.length≤1099511627776) (k ai v:Nat) (r:List UInt8) (hs:argF s=some (7,ai,v,r)) (h31:ai≤27) (h25:ai=25→v<65536) (h26:ai=26→v<4294967296) (w:World):
  Calls Tryz.prog 72 #[.string ⟨s.toArray⟩,.int .i64 ((k:Int)+1)] w fun e w'=>e= .returned (.tuple #[spN ai v,.string ⟨r.toArray⟩,.bool (decide (¬(ai=24∧v<32)))])∧Fr [] w w':=by
 have t1:((ai:Int)==31)=false:=by simp;omega
 have KS:=Hz (special ai v r h31 h25 h26)
 generalize decide (¬(ai=24∧v<32))=bb at KS ⊢
 unfold spN at KS ⊢
 generalize wide ai v=q at KS ⊢
 generalize (if isFl ai=true then 2^(ai-24) else 0)=z at KS ⊢
 generalize isFl ai=fl at KS ⊢
 clear h25 h26
 have K:=Hz (argument s hl)
 rw [hs] at K
 unfold argV at K
 have t0:((k:Int)+1==0)=false:=by simp;omega
 go_enter Tryz.func72,Tryz.ntmps72
 go_wp2_with fail
 refine (K.out _).mono ?_
 rintro e w1 ⟨rfl,hf⟩
 have hb:=hf.blk (blk_new w _) (by simp)
 have hF:Fr [] w w1:=((Fr.refl _ _).alloc _).trans hf
 have hs1:=hF.size
 have hs2:=hf.size
 have hb':=blk_alloc hb (.cells #[.int .i64 7,.int .u64 (v:Int),.int .i64 0,.bool false,.bool false,.bool false,.string ⟨#[]⟩,.slice none 0 0] 45)
 clear hb
 go_wp2_with fail
 refine (KS.out _).mono ?_
 rintro e w2 ⟨rfl,hf2⟩
 have hF2:=(hF.alloc _).trans hf2
 obtain ⟨⟨d0,d1,d2,d3,d4,d5,d6,d7⟩,g0,g1,g2,g3,g4,g5,g6,g7⟩:=cells8 (hf2.blk hb' (by simp))
 clear hb'
 go_wp2
 refine bodyPost_ret (v:= .tuple #[.agg #[.int .i64 7,.int .u64 (q:Int),.int .i64 (z:Int),.bool false,.bool fl,.bool false,.string ⟨#[]⟩,.slice none 0 0],.string ⟨r.toArray⟩,.bool bb]) (by simp [results,Tryz.results72,go_sem,d0,d1,d2,d3,d4,d5,d6,d7]) rfl ?_
 exact ⟨rfl,hF2.then_ (Fr.put8 _ _ _ _ _ _ _ _ _ _) (by simp)⟩
end
end Go.Proofs.YteodinhkhhaafaaGreatDoor
