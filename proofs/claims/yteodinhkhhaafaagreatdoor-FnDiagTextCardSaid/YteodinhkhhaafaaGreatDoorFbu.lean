/- Walks of the program, and plain facts. -/
import Derived.Test.YteodinhkhhaafaaGreatDoorFbt
import Derived.SliceStrings
set_option linter.unusedVariables false
set_option linter.unusedSimpArgs false
set_option maxRecDepth 100000
set_option maxHeartbeats 6400000
namespace Go.Proofs.YteodinhkhhaafaaGreatDoor
section
open Go.RowKit
def encS (ss:List (List UInt8)):List Value:=ss.map fun s=> .string ⟨s.toArray⟩
def SRow (w:World) (B:Nat) (v:Value) (ss:List (List UInt8)):Prop:=w.ownsRow B 9 1 v ss.length (encS ss)
theorem SRow.nil (w:World) (B:Nat):SRow w B (.slice none 0 0) []:=World.ownsRow_nil _ _ _ _
theorem SRow.fr {w w':World} {B:Nat} {v:Value} {ss:List (List UInt8)} {S:List Nat} (h:SRow w B v ss) (hf:Fr S w w') (hs: ∀k,k∈S→k<B):SRow w' B v ss:=
 hf.own h (fun k hk hm=>by have:=(World.ownsRow.lt h k hk).1;have:=hs k hm;omega)
theorem SRow.shape {w:World} {B:Nat} {v:Value} {ss:List (List UInt8)} (h:SRow w B v ss): ∃ao n c,v= .slice ao n c:=by
 rcases h.2 with ⟨hv,_⟩|⟨g,cap,cur,hv,_⟩
 ·exact ⟨_,_,_,hv⟩
 ·exact ⟨_,_,_,hv⟩
end
section
open Go.RowKit
def OBlk (w:World) (b:Nat) (e:Nat) (sp tx em sq pr:Bool):Prop:=w.heap[b]? =some (.cells #[.int .i64 (e:Int),.bool sp,.bool tx,.bool em,.bool sq,.bool pr,.int .i64 0,.int .i64 0,.int .i64 0] 24 (0,0))
theorem OBlk.fr {w w':World} {b e:Nat} {sp tx em sq pr:Bool} (h:OBlk w b e sp tx em sq pr) (hf:Fr [] w w'):OBlk w' b e sp tx em sq pr:=hf.blk h (by simp)
theorem diag_of {xs T:List UInt8} {e:Nat} {sp tx em sq pr:Bool} (he:e<4) (hx:xs.length≤90000) (h:diagR L0 ⟨e,sp,tx,em,sq,pr⟩ sq xs=txt T) (w:World) (hu:U8 w):
  Calls Tryz.prog 26 #[.string ⟨xs.toArray⟩,.agg #[.int .i64 (e:Int),.bool sp,.bool tx,.bool em,.bool sq,.bool pr,.int .i64 0,.int .i64 0,.int .i64 0]] w fun e w'=>e= .returned (.tuple #[.string ⟨T.toArray⟩,.int .i64 0])∧Fr [] w w':=by
 have K:=implDiag_any (xs:=xs) (M:=⟨e,sp,tx,em,sq,pr⟩) (n:=0) (L:=L0) (.inl ⟨rfl,rfl⟩) he hx w hu;dsimp only at K;rw [h] at K;exact K
def StrsN (w:World) (v:Value) (ss:List (List UInt8)):Prop:=
 (ss=[]∧ ∃ao,v= .slice ao 0 0)∨ ∃g o c,v= .slice (some ⟨g,o,none⟩) ss.length c∧ss.length≤c∧ ∀j (h:j<ss.length),w.cell? ⟨g,o+j,none⟩=some (.string ⟨ss[j].toArray⟩)
theorem StrsN.fr {w w':World} {v:Value} {ss:List (List UInt8)} (h:StrsN w v ss) (hf:Fr [] w w'):StrsN w' v ss:=by
 rcases h with h|⟨g,o,c,h1,h2,h3⟩
 ·exact .inl h
 ·exact .inr ⟨g,o,c,h1,h2,fun j hj=>hf.cell (h3 j hj) (by simp)⟩
end
section
open Go.RowKit
theorem cod_flt (ai v:Nat) (ha:ai=25∨ai=26∨ai=27) (hv:v<256^2^(ai-24)):Enc (fltH ai v) (.prim ai v) 0 (fltH ai v).length:=by
 have hh:=hd_fltH ai v ha hv [] [];rw [List.append_nil,List.nil_append,List.length_nil,Nat.zero_add] at hh;rw [Enc];exact hh
end
section
open Go.RowKit
def NdB (B:Nat) (w:World) (t:Tr) (kv:Value):Prop:= ∃bl,(∀b,b∈bl→b<B)∧NdV w bl (gn t) kv
theorem NdB.fr {B:Nat} {w w':World} {t:Tr} {kv:Value} {S:List Nat} (h:NdB B w t kv) (hB:B≤w.heap.size) (hf:Fr S w w') (hS: ∀s,s∈S→B≤s):NdB B w' t kv:=by
 obtain ⟨bl,h1,h2⟩:=h;exact ⟨bl,h1,h2.fr (fun b hb=>hf.block b (Nat.lt_of_lt_of_le (h1 b hb) hB) (fun e=>by have:=hS b e;have:=h1 b hb;omega)) (fun b hb=>hb) _ _⟩
theorem NdB.slice {B:Nat} {w:World} {t:Tr} {kv:Value} (h:NdB B w t kv): ∃ao n c,kv= .slice ao n c:=by
 obtain ⟨bl,_,h2⟩:=h;exact h2.slice
theorem Ch.lt {w:World} {cb:Nat} (h:Ch w cb):cb<w.heap.size:=by
 obtain ⟨ao,n,c,a,h1,_⟩:=h;exact blk_lt' h1
theorem fltH_len (ai v:Nat) (ha:ai=25∨ai=26∨ai=27):(fltH ai v).length≤9:=by
 rcases ha with rfl|rfl|rfl<;>simp [fltH,beB_length]
theorem coded_flt {w:World} {cb:Nat} {ao:Option Addr} {nk c:Nat} (N sz:Nat) (T:List UInt8) (hT: ∀w,Calls Tryz.prog 74 #[.int .u64 (N:Int),.int .i64 (sz:Int)] w fun e w'=>e= .returned (.string ⟨T.toArray⟩)∧Fr [] w w') (hc:Ch w cb):
  Calls Tryz.prog 42 #[.agg #[.int .i64 (7),.int .u64 ((N:Int)),.int .i64 ((sz:Int)),.bool false,.bool true,.bool false,.string ⟨#[]⟩,.slice ao nk c],.pointer (some ⟨cb,0,none⟩)] w fun e w'=>e= .returned (.string ⟨T.toArray⟩)∧Ch w' cb∧Fr [cb] w w':=by
 replace hT:=Hz hT;have K1:=Hz (fun (o:Obj)=>next (hc.fr ((Fr.refl [] w).alloc o)) 7 (by omega) (by omega))
 have hcl:=hc.lt;go_enter Tryz.func42,Tryz.ntmps42
 go_wp2_with fail
 refine (K1.out _).mono ?_
 rintro e w1 ⟨k,hk,rfl,hc1,hf1⟩;have hb1:=hf1.blk (blk_new w (.cells #[.int .i64 (7),.int .u64 ((N:Int)),.int .i64 ((sz:Int)),.bool false,.bool true,.bool false,.string ⟨#[]⟩,.slice ao nk c] 45)) (by simp;omega)
 have hF1:Fr [cb] w w1:=((Fr.refl _ _).alloc _).trans hf1;obtain ⟨⟨d0,d1,d2,d3,d4,d5,d6,d7⟩,g0,g1,g2,g3,g4,g5,g6,g7⟩:=cells8 hb1;have hs1:=hf1.size;simp only [World.size_alloc] at hs1;replace hb1:=Hz hb1;obtain ⟨form,hform,hfo⟩: ∃f:Nat,f≤4∧(max 0 ((k:Int)-2))=(f:Int):=⟨k-2,by omega,by omega⟩
 go_wp2_with fail
 refine (hT.out _).mono ?_
 rintro e w2 ⟨rfl,hf2⟩;go_wp2;go_ret
 exact ⟨rfl,hc1.fr hf2,hF1.trans (hf2.mono (by simp))⟩
end
section
open Go.ChangeShapes Go.WideShapes Go.RowKit Go.Joins Go.Deep
theorem u64_nat {n:Int} (h:(Lit.int .u64 n).wf=true): ∃m:Nat,m<18446744073709551616∧n=(m:Int):=by
 have h2:0≤n∧n≤18446744073709551615:=by simpa [Lit.wf,IntKind.bits,IntKind.signed,IntKind.min,IntKind.max] using h
 exact ⟨n.toNat,by omega,by omega⟩
end
end Go.Proofs.YteodinhkhhaafaaGreatDoor
