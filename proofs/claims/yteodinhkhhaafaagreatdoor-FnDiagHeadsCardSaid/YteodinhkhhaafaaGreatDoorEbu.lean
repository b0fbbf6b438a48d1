/- Walks of the program, and plain facts. -/
import Derived.Test.YteodinhkhhaafaaGreatDoorEbt
import Derived.SliceStrings
set_option linter.unusedVariables false
set_option linter.unusedSimpArgs false
set_option maxRecDepth 100000
set_option maxHeartbeats 6400000
namespace Go.Proofs.YteodinhkhhaafaaGreatDoor
section
open Go.RowKit
theorem cells9 {w:World} {b:Nat} {a0 a1 a2 a3 a4 a5 a6 a7 a8:Value} (h:w.heap[b]? =some (.cells #[a0,a1,a2,a3,a4,a5,a6,a7,a8] 24 (0,0))):
  (w.cell? ⟨b,0,none⟩=some a0∧w.cell? ⟨b,1,none⟩=some a1∧w.cell? ⟨b,2,none⟩=some a2∧w.cell? ⟨b,3,none⟩=some a3∧w.cell? ⟨b,4,none⟩=some a4∧w.cell? ⟨b,5,none⟩=some a5∧w.cell? ⟨b,6,none⟩=some a6∧w.cell? ⟨b,7,none⟩=some a7∧w.cell? ⟨b,8,none⟩=some a8)∧
  w.frozen? ⟨b,0,none⟩=false∧w.frozen? ⟨b,1,none⟩=false∧w.frozen? ⟨b,2,none⟩=false∧w.frozen? ⟨b,3,none⟩=false∧w.frozen? ⟨b,4,none⟩=false∧w.frozen? ⟨b,5,none⟩=false∧w.frozen? ⟨b,6,none⟩=false∧w.frozen? ⟨b,7,none⟩=false∧w.frozen? ⟨b,8,none⟩=false:=
 ⟨⟨cell_blk h 0,cell_blk h 1,cell_blk h 2,cell_blk h 3,cell_blk h 4,cell_blk h 5,cell_blk h 6,cell_blk h 7,cell_blk h 8⟩,frozen_blk h 0,frozen_blk h 1,frozen_blk h 2,frozen_blk h 3,frozen_blk h 4,frozen_blk h 5,frozen_blk h 6,frozen_blk h 7,frozen_blk h 8⟩
def put9 (w:World) (b:Nat) (a0 a1 a2 a3 a4 a5 a6 a7 a8:Value):World:=
 ((((((((w.setCell ⟨b,0,none⟩ a0).setCell ⟨b,1,none⟩ a1).setCell ⟨b,2,none⟩ a2).setCell ⟨b,3,none⟩ a3).setCell ⟨b,4,none⟩ a4).setCell ⟨b,5,none⟩ a5).setCell ⟨b,6,none⟩ a6).setCell ⟨b,7,none⟩ a7).setCell ⟨b,8,none⟩ a8
theorem Fr.put9 (w:World) (b:Nat) (a0 a1 a2 a3 a4 a5 a6 a7 a8:Value):Fr [b] w (put9 w b a0 a1 a2 a3 a4 a5 a6 a7 a8):=by
 unfold Go.Proofs.YteodinhkhhaafaaGreatDoor.put9
 repeat (first|with_reducible exact Fr.refl _ _|with_reducible refine Fr.setCell ?_ (.inl (by simp)) _)
theorem put9_blk {W:World} {b:Nat} {u0 u1 u2 u3 u4 u5 u6 u7 u8:Value} (h:W.heap[b]? =some (.cells #[u0,u1,u2,u3,u4,u5,u6,u7,u8] 24 (0,0))) (a0 a1 a2 a3 a4 a5 a6 a7 a8:Value):
  (put9 W b a0 a1 a2 a3 a4 a5 a6 a7 a8).heap[b]? =some (.cells #[a0,a1,a2,a3,a4,a5,a6,a7,a8] 24 (0,0)):=by
 have h0:(W.setCell ⟨b,0,none⟩ a0).heap[b]? =some (.cells #[a0,u1,u2,u3,u4,u5,u6,u7,u8] 24 (0,0)):=blk_setCell h 0 a0;have h1:((W.setCell ⟨b,0,none⟩ a0).setCell ⟨b,1,none⟩ a1).heap[b]? =some (.cells #[a0,a1,u2,u3,u4,u5,u6,u7,u8] 24 (0,0)):=blk_setCell h0 1 a1;have h2:(((W.setCell ⟨b,0,none⟩ a0).setCell ⟨b,1,none⟩ a1).setCell ⟨b,2,none⟩ a2).heap[b]? =some (.cells #[a0,a1,a2,u3,u4,u5,u6,u7,u8] 24 (0,0)):=blk_setCell h1 2 a2;have h3:((((W.setCell ⟨b,0,none⟩ a0).setCell ⟨b,1,none⟩ a1).setCell ⟨b,2,none⟩ a2).setCell ⟨b,3,none⟩ a3).heap[b]? =some (.cells #[a0,a1,a2,a3,u4,u5,u6,u7,u8] 24 (0,0)):=blk_setCell h2 3 a3;have h4:(((((W.setCell ⟨b,0,none⟩ a0).setCell ⟨b,1,none⟩ a1).setCell ⟨b,2,none⟩ a2).setCell ⟨b,3,none⟩ a3).setCell ⟨b,4,none⟩ a4).heap[b]? =some (.cells #[a0,a1,a2,a3,a4,u5,u6,u7,u8] 24 (0,0)):=blk_setCell h3 4 a4;have h5:((((((W.setCell ⟨b,0,none⟩ a0).setCell ⟨b,1,none⟩ a1).setCell ⟨b,2,none⟩ a2).setCell ⟨b,3,none⟩ a3).setCell ⟨b,4,none⟩ a4).setCell ⟨b,5,none⟩ a5).heap[b]? =some (.cells #[a0,a1,a2,a3,a4,a5,u6,u7,u8] 24 (0,0)):=blk_setCell h4 5 a5;have h6:(((((((W.setCell ⟨b,0,none⟩ a0).setCell ⟨b,1,none⟩ a1).setCell ⟨b,2,none⟩ a2).setCell ⟨b,3,none⟩ a3).setCell ⟨b,4,none⟩ a4).setCell ⟨b,5,none⟩ a5).setCell ⟨b,6,none⟩ a6).heap[b]? =some (.cells #[a0,a1,a2,a3,a4,a5,a6,u7,u8] 24 (0,0)):=blk_setCell h5 6 a6;have h7:((((((((W.setCell ⟨b,0,none⟩ a0).setCell ⟨b,1,none⟩ a1).setCell ⟨b,2,none⟩ a2).setCell ⟨b,3,none⟩ a3).setCell ⟨b,4,none⟩ a4).setCell ⟨b,5,none⟩ a5).setCell ⟨b,6,none⟩ a6).setCell ⟨b,7,none⟩ a7).heap[b]? =some (.cells #[a0,a1,a2,a3,a4,a5,a6,a7,u8] 24 (0,0)):=blk_setCell h6 7 a7;have h8:(((((((((W.setCell ⟨b,0,none⟩ a0).setCell ⟨b,1,none⟩ a1).setCell ⟨b,2,none⟩ a2).setCell ⟨b,3,none⟩ a3).setCell ⟨b,4,none⟩ a4).setCell ⟨b,5,none⟩ a5).setCell ⟨b,6,none⟩ a6).setCell ⟨b,7,none⟩ a7).setCell ⟨b,8,none⟩ a8).heap[b]? =some (.cells #[a0,a1,a2,a3,a4,a5,a6,a7,a8] 24 (0,0)):=blk_setCell h7 8 a8;exact h8
def OBlk (w:World) (b:Nat) (e:Nat) (sp tx em sq pr:Bool):Prop:=w.heap[b]? =some (.cells #[.int .i64 (e:Int),.bool sp,.bool tx,.bool em,.bool sq,.bool pr,.int .i64 0,.int .i64 0,.int .i64 0] 24 (0,0))
theorem OBlk.fr {w w':World} {b e:Nat} {sp tx em sq pr:Bool} (h:OBlk w b e sp tx em sq pr) (hf:Fr [] w w'):OBlk w' b e sp tx em sq pr:=hf.blk h (by simp)
theorem diag_of {xs T:List UInt8} {e:Nat} {sp tx em sq pr:Bool} (he:e<4) (hx:xs.length≤90000) (h:diagR L0 ⟨e,sp,tx,em,sq,pr⟩ sq xs=txt T) (w:World) (hu:U8 w):
  Calls Tryz.prog 26 #[.string ⟨xs.toArray⟩,.agg #[.int .i64 (e:Int),.bool sp,.bool tx,.bool em,.bool sq,.bool pr,.int .i64 0,.int .i64 0,.int .i64 0]] w fun e w'=>e= .returned (.tuple #[.string ⟨T.toArray⟩,.int .i64 0])∧Fr [] w w':=by
 have K:=implDiag_any (xs:=xs) (M:=⟨e,sp,tx,em,sq,pr⟩) (n:=0) (L:=L0) (.inl ⟨rfl,rfl⟩) he hx w hu;dsimp only at K;rw [h] at K;exact K
def StrsN (w:World) (v:Value) (ss:List (List UInt8)):Prop:=
 (ss=[]∧ ∃ao,v= .slice ao 0 0)∨ ∃g o c,v= .slice (some ⟨g,o,none⟩) ss.length c∧ss.length≤c∧ ∀j (h:j<ss.length),w.cell? ⟨g,o+j,none⟩=some (.string ⟨ss[j].toArray⟩)
theorem StrsN.fr {w w':World} {v:Value} {ss:List (List UInt8)} (h:StrsN w v ss) (hf:Fr [] w w'):StrsN w' v ss:=by
 rcases h with h|⟨g,o,c,h1,h2,h3⟩
 ·exact .inl h
 ·exact .inr ⟨g,o,c,h1,h2,fun j hj=>hf.cell (h3 j hj) (by simp)⟩
end
section
open Go.ChangeShapes Go.WideShapes Go.RowKit Go.Joins Go.Deep
section
variable {H:Type} {enc:TypeId×Value→H} {P:Program} {w:World} {base:Nat} {spare:Nat→Bool} {held:Bool}
theorem open_agg9 {r:Reach} {b0:Nat} {t:TypeId} {f0 f1 f2 f3 f4 f5 f6 f7 f8:Field} {v:Value} {d:DataW H} {p:List MemPlace} (hs:P.underlying t=some (.struct #[f0,f1,f2,f3,f4,f5,f6,f7,f8])) (hone:oneCellFields P #[f0,f1,f2,f3,f4,f5,f6,f7,f8]=true) (hC:P.cellsOf t=9)
  (hv:Value.okWide P w r b0 t v) (h:DataW.Trod enc P w base spare held t v d p):
  ∃(v0 v1 v2 v3 v4 v5 v6 v7 v8:Value) (y0 y1 y2 y3 y4 y5 y6 y7 y8:DataW H×List MemPlace) (n:Nat),v= .agg #[v0,v1,v2,v3,v4,v5,v6,v7,v8]∧DataW.trod enc P w base spare held n f0.type [v0]=some y0∧DataW.trod enc P w base spare held n f1.type [v1]=some y1∧DataW.trod enc P w base spare held n f2.type [v2]=some y2∧DataW.trod enc P w base spare held n f3.type [v3]=some y3∧DataW.trod enc P w base spare held n f4.type [v4]=some y4∧DataW.trod enc P w base spare held n f5.type [v5]=some y5∧DataW.trod enc P w base spare held n f6.type [v6]=some y6∧DataW.trod enc P w base spare held n f7.type [v7]=some y7∧DataW.trod enc P w base spare held n f8.type [v8]=some y8:=by
 obtain ⟨cs,rfl,hsz⟩:=okWide_struct hs hv;obtain ⟨l⟩:=cs
 match l,hsz.trans hC with
 |[c0,c1,c2,c3,c4,c5,c6,c7,c8],_=>
  obtain ⟨fuel,hf⟩:=h;obtain ⟨xs,n,_,hx,_,hlen,hg⟩:=DataW.trod_struct hs hf;obtain ⟨o0,k0⟩:=hone_of hone 0 f0 rfl;obtain ⟨o1,k1⟩:=hone_of hone 1 f1 rfl;obtain ⟨o2,k2⟩:=hone_of hone 2 f2 rfl;obtain ⟨o3,k3⟩:=hone_of hone 3 f3 rfl;obtain ⟨o4,k4⟩:=hone_of hone 4 f4 rfl;obtain ⟨o5,k5⟩:=hone_of hone 5 f5 rfl;obtain ⟨o6,k6⟩:=hone_of hone 6 f6 rfl;obtain ⟨o7,k7⟩:=hone_of hone 7 f7 rfl;obtain ⟨o8,k8⟩:=hone_of hone 8 f8 rfl
  match xs,hlen with
  |[y0,y1,y2,y3,y4,y5,y6,y7,y8],_=>
   exact ⟨c0,c1,c2,c3,c4,c5,c6,c7,c8,y0,y1,y2,y3,y4,y5,y6,y7,y8,n,rfl,by simpa [Value.cells,o0,k0] using hg 0 f0 rfl,by simpa [Value.cells,o1,k1] using hg 1 f1 rfl,by simpa [Value.cells,o2,k2] using hg 2 f2 rfl,by simpa [Value.cells,o3,k3] using hg 3 f3 rfl,by simpa [Value.cells,o4,k4] using hg 4 f4 rfl,by simpa [Value.cells,o5,k5] using hg 5 f5 rfl,by simpa [Value.cells,o6,k6] using hg 6 f6 rfl,by simpa [Value.cells,o7,k7] using hg 7 f7 rfl,by simpa [Value.cells,o8,k8] using hg 8 f8 rfl⟩
end
section
variable {H:Type} {enc:TypeId×Value→H} {w:World} {base:Nat} {spare:Nat→Bool} {held:Bool}
set_option linter.constructorNameAsVariable false in
theorem open_opts {r:Reach} {b0:Nat} {v:Value} {d:DataW H} {p:List MemPlace} (hv:Value.okWide Tryz.prog w r b0 24 v) (h:DataW.Trod enc Tryz.prog w base spare held 24 v d p):
  ∃(a x y z:Int) (sp tx em sq pr:Bool),v= .agg #[.int .i64 a,.bool sp,.bool tx,.bool em,.bool sq,.bool pr,.int .i64 x,.int .i64 y,.int .i64 z]:=by
 obtain ⟨v0,v1,v2,v3,v4,v5,v6,v7,v8,y0,y1,y2,y3,y4,y5,y6,y7,y8,n,rfl,h0,h1,h2,h3,h4,h5,h6,h7,h8⟩:=open_agg9 Tryz.underlying24 (by kernel_rfl) (by kernel_rfl) hv h
 obtain ⟨a,e0,_,_⟩:=DataW.trod_int Tryz.underlying3 h0;obtain ⟨sp,e1,_⟩:=DataW.trod_bool Tryz.underlying4 h1;obtain ⟨tx,e2,_⟩:=DataW.trod_bool Tryz.underlying4 h2;obtain ⟨em,e3,_⟩:=DataW.trod_bool Tryz.underlying4 h3;obtain ⟨sq,e4,_⟩:=DataW.trod_bool Tryz.underlying4 h4;obtain ⟨pr,e5,_⟩:=DataW.trod_bool Tryz.underlying4 h5;obtain ⟨x,e6,_,_⟩:=DataW.trod_int Tryz.underlying3 h6;obtain ⟨y,e7,_,_⟩:=DataW.trod_int Tryz.underlying3 h7;obtain ⟨z,e8,_,_⟩:=DataW.trod_int Tryz.underlying3 h8;simp only [List.cons.injEq,and_true] at e0 e1 e2 e3 e4 e5 e6 e7 e8;exact ⟨a,x,y,z,sp,tx,em,sq,pr,by rw [e0,e1,e2,e3,e4,e5,e6,e7,e8]⟩
end
end
end Go.Proofs.YteodinhkhhaafaaGreatDoor
