/- Walks of the program, and plain facts. -/
import Derived.Test.YteodinhkhhaafaaGreatDoorDbv
import Derived.SliceStrings
set_option linter.unusedVariables false
set_option linter.unusedSimpArgs false
set_option maxRecDepth 100000
set_option maxHeartbeats 6400000
namespace Go.Proofs.YteodinhkhhaafaaGreatDoor
section
open Go.RowKit
def NotesP (M:Md) (ss:List (List UInt8)) (r:Option (List Tr)) (w:World) (e:Ending) (w':World):Prop:=
 Fr [] w w'∧match r with
 |none=>e= .returned (.tuple #[.slice none 0 0,.string ⟨#[]⟩,.bool false,.bool true])
 |some ts=> ∃v',e= .returned (.tuple #[v',.string ⟨ss.flatten.toArray⟩,.bool true,.bool true])∧SRow w' (w.heap.size+1) v' (ts.map (noteT M))
theorem flat_take (ss:List (List UInt8)) (j:Nat) (h:j<ss.length):(ss.take (j+1)).flatten=(ss.take j).flatten++ss[j]:=by
 rw [List.take_succ_eq_append_getElem h,List.flatten_append]
 simp
theorem flat_le (ss:List (List UInt8)) (hs: ∀s,s∈ss→s.length≤3000000000):ss.flatten.length≤3000000000*ss.length:=by
 induction ss with
 |nil=>simp
 |cons a l ih=>
  have h1:=hs a (by simp)
  have h2:=ih (fun s h=>hs s (by simp [h]))
  rw [List.flatten_cons,List.length_append,List.length_cons]
  omega
theorem notesW {w:World} {v:Value} {ss:List (List UInt8)} (hS:Strs w v ss) (hsz: ∀s,s∈ss→s.length≤3000000000) (e:Nat) (sp tx em sq pr:Bool) (he:e<4) (hu:U8 w):
  Calls Tryz.prog 23 #[v,.agg #[.int .i64 (e:Int),.bool sp,.bool tx,.bool em,.bool sq,.bool pr,.int .i64 0,.int .i64 0,.int .i64 0]] w (NotesP ⟨e,sp,tx,em,sq,pr⟩ ss (notesF ss) w):=by
 have hv: ∃ao c,v= .slice ao ss.length c:=by
  rcases hS with ⟨h0,ao,c,h⟩|⟨g,o,c,h,_⟩
  ·exact ⟨ao,c,by rw [h0];exact h⟩
  ·exact ⟨_,c,h⟩
 obtain ⟨ao,c,rfl⟩:=hv
 have hfl:=flat_le ss hsz
 replace hS:=Hz hS
 replace hu:=Hz hu
 obtain ⟨RR,hRR⟩: ∃R,notesF ss=R:=⟨_,rfl⟩
 rw [hRR]
 replace hRR:=Hz hRR
 obtain ⟨n,hnn⟩: ∃n,ss.length=n:=⟨_,rfl⟩
 rw [hnn] at hfl ⊢
 by_cases hn:n≤8
 ·have tn: ¬(8:Int)<(n:Int):=by omega
  replace hnn:=Hz hnn
  have hfl2:ss.flatten.length≤100000000000:=by omega
  replace hfl2:=Hz hfl2
  clear hfl
  go_enter Tryz.func23,Tryz.ntmps23
  go_wp2
  go_loopg [4,5,19] n (fun k v4 v5 v19 wr=> ∃(j:Nat) (ts:List Tr),v19= .int .i64 (j:Int)∧j+k=n∧v5= .string ⟨((ss.take j).flatten).toArray⟩∧Hid (partsF 20 (ss.take j)=some ts)∧Hid (ts.length=j)∧
   SRow wr (w.heap.size+1) v4 (ts.map (noteT ⟨e,sp,tx,em,sq,pr⟩))∧wr.heap[w.heap.size]? =some (.cells #[.int .i64 (e:Int),.bool sp,.bool tx,.bool em,.bool sq,.bool pr,.int .i64 0,.int .i64 0,.int .i64 0] 24 (0,0))∧w.heap.size+1≤wr.heap.size∧Fr [] w wr)
  case atStart=>exact ⟨0,[],rfl,by omega,by simp,Hz (by rw [List.take_zero,partsF]),Hz rfl,SRow.nil _ _,blk_new w _,by simp,(Fr.refl _ _).alloc _⟩
  case round=>
   obtain ⟨j,ts,rfl,hj,rfl,hP,htl,hrow,hb,hszr,hF⟩:=hrel
   obtain ⟨ao4,n4,c4,rfl⟩:=hrow.shape
   by_cases hk:gk=0
   ·subst hk
    obtain rfl:j=n:=by omega
    have tz: ¬(j:Int)<(j:Int):=by omega
    have hall:ss.take j=ss:=List.take_of_length_le (by rw [hnn.out];omega)
    obtain rfl:some ts=RR:=by
     rw [←hRR.out,notesF,if_pos (by rw [hnn.out];exact hn),←hP.out,hall]
    rw [hall]
    replace hall:=Hz hall
    go_wp2
    refine bodyPost_ret (res4 rfl _ _ _) rfl ?_
    exact ⟨hF,_,rfl,hrow⟩
   ·obtain ⟨g',rfl⟩: ∃g',gk=g'+1:=⟨gk-1,by omega⟩
    have hjn:j<n:=by omega
    have hjl:j<ss.length:=by rw [hnn.out];omega
    have tz:(j:Int)<(n:Int):=by omega
    obtain ⟨g,o,c',he',hcell⟩: ∃g o c',(Value.slice ao n c)= .slice (some ⟨g,o,none⟩) ss.length c'∧ ∀j (h:j<ss.length),wr.cell? ⟨g,o+j,none⟩=some (.string ⟨ss[j].toArray⟩):=by
     have h2:=hS.out.fr hF
     rw [hnn.out] at h2
     rcases h2 with ⟨h0,_⟩|⟨g,o,c',h1,h2,h3⟩
     ·rw [h0] at hjl;simp at hjl
     ·rw [hnn.out] at h1;exact ⟨g,o,c',by rw [h1,hnn.out],h3⟩
    rw [hnn.out] at he'
    cases he'
    have cj:=hcell j hjl
    have hmem:ss[j]∈ss:=List.getElem_mem hjl
    have hft:=flat_take ss j hjl
    have hPs:partsF 20 (ss.take (j+1))=(itemF ss[j] 20).map fun t=>ts++[t]:=by
     rw [List.take_succ_eq_append_getElem hjl,partsF_snoc,hP.out]
     rfl
    have hle:(ss.take (j+1)).flatten.length≤100000000000:=by
     have e1:ss=ss.take (j+1)++ss.drop (j+1):=(List.take_append_drop ..).symm
     have e2:=congrArg (fun l=>l.flatten.length) e1
     simp only [List.flatten_append,List.length_append] at e2
     have:=hfl2.out
     omega
    rw [hft,List.length_append] at hle
    have KI:=Hz (fun w=>itemW (xs:=ss[j]) (m:=20) (by omega) w)
    have hno:itemF ss[j] 20=none→RR=none:=fun hx=>by
     rw [←hRR.out,notesF,if_pos (by rw [hnn.out];exact hn)]
     exact partsF_none hx hmem
    obtain ⟨sj,hsj⟩: ∃sj,ss[j]=sj:=⟨_,rfl⟩
    rw [hsj] at cj hft hPs hle KI hno
    obtain ⟨A,hA⟩: ∃A,(ss.take j).flatten=A:=⟨_,rfl⟩
    rw [hA] at hft hle ⊢
    replace hft:=Hz hft
    replace hPs:=Hz hPs
    replace hrow:=Hz hrow
    replace hb:=Hz hb
    have q1: ¬9223372036854775807<A.length+sj.length:=by omega
    have hj8:Hid (j≤8):=Hz (by omega)
    clear hcell hsj hA hS hmem hle hjl hP
    obtain ⟨R1,hR1⟩: ∃R1,itemF sj 20=R1:=⟨_,rfl⟩
    rw [hR1] at hPs hno KI
    replace hR1:=Hz hR1
    rcases Nat.eq_zero_or_pos j with h0|h0
    all_goals
     first
      |subst h0;rw [Nat.add_zero] at cj
      |skip
     replace hno:=Hz hno
     go_wp2_with fail
     refine (KI.out _).mono ?_
     rintro e1 w1 ⟨gg,ka,kn,kc,he1,hf1,_⟩
     obtain ⟨a0,a1,a2,b0,b1,b2,tx',gks⟩:=gg
     rw [nd_mk] at he1
     subst he1
     cases R1 with
     |none=>
      obtain rfl:=hno.out rfl
      go_wp2
      refine bodyPost_ret (res4 rfl _ _ _) rfl ?_
      exact ⟨(hF.trans hf1).alloc _,rfl⟩
     |some t=>
      have hok:=itemF_ok hR1.out
      have hlen:=hok.len
      have hF1:Fr [] w (w1.alloc (.cells #[.int .i64 (a0:Int),.int .u64 (a1:Int),.int .i64 (a2:Int),.bool b0,.bool b1,.bool b2,.string ⟨tx'.toArray⟩,.slice ka kn kc] 45)):=(hF.trans hf1).alloc _
      have hb1:=(hf1.alloc (.cells #[.int .i64 (a0:Int),.int .u64 (a1:Int),.int .i64 (a2:Int),.bool b0,.bool b1,.bool b2,.string ⟨tx'.toArray⟩,.slice ka kn kc] 45)).blk hb.out (by simp)
      have hrow1:=hrow.out.fr (S:=[]) (hf1.alloc (.cells #[.int .i64 (a0:Int),.int .u64 (a1:Int),.int .i64 (a2:Int),.bool b0,.bool b1,.bool b2,.string ⟨tx'.toArray⟩,.slice ka kn kc] 45)) (by simp)
      have KD:=implDiag_any (xs:=sj) (M:=⟨e,sp,tx,em,sq,pr⟩) (n:=0) (L:=L0) (.inl ⟨rfl,rfl⟩) he (by omega) _ (hu.out.fr hF1 (by simp))
      rw [item_text (M:=⟨e,sp,tx,em,sq,pr⟩) hok (by omega),show ans (txt (noteT ⟨e,sp,tx,em,sq,pr⟩ t))=(noteT ⟨e,sp,tx,em,sq,pr⟩ t,0) from rfl] at KD
      unfold diagOpts at KD
      obtain ⟨NT,hNT⟩: ∃NT,noteT ⟨e,sp,tx,em,sq,pr⟩ t=NT:=⟨_,rfl⟩
      rw [hNT] at KD
      replace KD:=Hz KD
      replace hNT:=Hz hNT
      have hsz1:=hF1.size
      have hsz2:=hf1.size
      have o0:=cell_blk hb1 0
      have o1:=cell_blk hb1 1
      have o2:=cell_blk hb1 2
      have o3:=cell_blk hb1 3
      have o4:=cell_blk hb1 4
      have o5:=cell_blk hb1 5
      have o6:=cell_blk hb1 6
      have o7:=cell_blk hb1 7
      have o8:=cell_blk hb1 8
      simp only [List.getElem?_toArray,List.getElem?_cons_zero,List.getElem?_cons_succ] at o0 o1 o2 o3 o4 o5 o6 o7 o8
      have hsz3:w.heap.size+1≤w1.heap.size:=by omega
      replace hb1:=Hz hb1
      replace hrow1:=Hz hrow1
      replace hok:=Hz hok
      clear hlen
      go_wp2_with fail
      refine KD.out.mono ?_
      rintro e2 w2 ⟨rfl,hf2⟩
      have hb2:=hf2.blk hb1.out (by simp)
      have hrow2:=hrow1.out.fr (S:=[]) hf2 (by simp)
      have hF2:=hF1.trans hf2
      have hs2:=hf2.size
      simp only [World.size_alloc] at hs2
      have hcs:(w2.alloc (.cells #[.string ⟨NT.toArray⟩] 9)).cell? ⟨w2.heap.size,0,none⟩=some (.string ⟨NT.toArray⟩):=cell_blk (blk_new w2 _) 0
      have hB2:Hid (w.heap.size+1≤(w2.alloc (.cells #[.string ⟨NT.toArray⟩] 9)).heap.size):=Hz (by simp;omega)
      have hl2:Hid ((ts.map (noteT ⟨e,sp,tx,em,sq,pr⟩)).length+1≤8000000000):=Hz (by rw [List.length_map,htl.out];have:=hj8.out;omega)
      have hrow3:Hid (SRow (w2.alloc (.cells #[.string ⟨NT.toArray⟩] 9)) (w.heap.size+1) (.slice ao4 n4 c4) (ts.map (noteT ⟨e,sp,tx,em,sq,pr⟩))):=Hz (hrow2.fr (S:=[]) ((Fr.refl _ _).alloc _) (by simp))
      replace hcs:=Hz hcs
      replace hb2:=Hz hb2
      replace hrow2:=Hz hrow2
      clear o0 o1 o2 o3 o4 o5 o6 o7 o8 hb1 hrow1 hrow hb
      go_wp2_with (at_builtin;refine wpList_apS rfl _ _ rfl (B:=w.heap.size+1) _ (ts.map (noteT ⟨e,sp,tx,em,sq,pr⟩)) NT w2.heap.size 1 rfl rfl hcs.out hrow3.out hB2.out hl2.out ?_)
      intro v' w3 hrow' hg
      have hF3:Fr [] w w3:=Fr.grown (hF2.alloc _) hg (fun d hd=> .inr (by have:=(World.ownsRow.lt hrow3.out d hd).1;omega))
      have hb3:=(hg.block w.heap.size (by rw [World.size_alloc];omega) (fun e'=>by have:=(World.ownsRow.lt hrow3.out _ e'.symm).1;omega)).trans (blk_alloc hb2.out _)
      obtain ⟨ao5,n5,c5,rfl⟩:=hrow'.shape
      have hs3:=hg.size
      simp only [World.size_alloc] at hs3
      replace hb3:=Hz hb3
      replace hrow':=Hz hrow'
      clear hg
      go_wp2
      go_roundg g'
      case measure=>omega
      case rel=>
       first
        |refine ⟨j+1,ts++[t],by go_num,by omega,by rw [hft.out,mk_append],Hz (by rw [hPs.out];rfl),Hz (by rw [List.length_append,htl.out];rfl),?_,hb3.out,by omega,hF3⟩
        |refine ⟨0+1,ts++[t],by go_num,by omega,by rw [hft.out,mk_append],Hz (by rw [hPs.out];rfl),Hz (by rw [List.length_append,htl.out];rfl),?_,hb3.out,by omega,hF3⟩
       rw [List.map_append,List.map_cons,List.map_nil,hNT.out]
       exact hrow'.out
 ·have tn:(8:Int)<(n:Int):=by omega
  obtain rfl:none=RR:=by rw [←hRR.out,notesF,if_neg (by rw [hnn];exact hn)]
  go_enter Tryz.func23,Tryz.ntmps23
  go_wp2
  refine bodyPost_ret (res4 rfl _ _ _) rfl ?_
  exact ⟨(Fr.refl _ _).alloc _,rfl⟩
end
section
open Go.RowKit
theorem cells9 {w:World} {b:Nat} {a0 a1 a2 a3 a4 a5 a6 a7 a8:Value} (h:w.heap[b]? =some (.cells #[a0,a1,a2,a3,a4,a5,a6,a7,a8] 24 (0,0))):
  (w.cell? ⟨b,0,none⟩=some a0∧w.cell? ⟨b,1,none⟩=some a1∧w.cell? ⟨b,2,none⟩=some a2∧w.cell? ⟨b,3,none⟩=some a3∧w.cell? ⟨b,4,none⟩=some a4∧w.cell? ⟨b,5,none⟩=some a5∧w.cell? ⟨b,6,none⟩=some a6∧w.cell? ⟨b,7,none⟩=some a7∧w.cell? ⟨b,8,none⟩=some a8)∧
  w.frozen? ⟨b,0,none⟩=false∧w.frozen? ⟨b,1,none⟩=false∧w.frozen? ⟨b,2,none⟩=false∧w.frozen? ⟨b,3,none⟩=false∧w.frozen? ⟨b,4,none⟩=false∧w.frozen? ⟨b,5,none⟩=false∧w.frozen? ⟨b,6,none⟩=false∧w.frozen? ⟨b,7,none⟩=false∧w.frozen? ⟨b,8,none⟩=false:=
 ⟨⟨cell_blk h 0,cell_blk h 1,cell_blk h 2,cell_blk h 3,cell_blk h 4,cell_blk h 5,cell_blk h 6,cell_blk h 7,cell_blk h 8⟩,frozen_blk h 0,frozen_blk h 1,frozen_blk h 2,frozen_blk h 3,frozen_blk h 4,frozen_blk h 5,frozen_blk h 6,frozen_blk h 7,frozen_blk h 8⟩
def put9 (w:World) (b:Nat) (a0 a1 a2 a3 a4 a5 a6 a7 a8:Value):World:=
 ((((((((w.setCell ⟨b,0,none⟩ a0).setCell ⟨b,1,none⟩ a1).setCell ⟨b,2,none⟩ a2).setCell ⟨b,3,none⟩ a3).setCell ⟨b,4,none⟩ a4).setCell ⟨b,5,none⟩ a5).setCell ⟨b,6,none⟩ a6).setCell ⟨b,7,none⟩ a7).setCell ⟨b,8,none⟩ a8
theorem Fr.put9 (w:World) (b:Nat) (a0 a1 a2 a3 a4 a5 a6 a7 a8:Value):Fr [b] w (put9 w b a0 a1 a2 a3 a4 a5 a6 a7 a8):=by
 unfold Go.Proofs.YteodinhkhhaafaaGreatDoor.put9
 repeat (first|with_reducible exact Fr.refl _ _|with_reducible refine Fr.setCell ?_ (.inl (by simp)) _)
theorem put9_blk {W:World} {b:Nat} {u0 u1 u2 u3 u4 u5 u6 u7 u8:Value} (h:W.heap[b]? =some (.cells #[u0,u1,u2,u3,u4,u5,u6,u7,u8] 24 (0,0))) (a0 a1 a2 a3 a4 a5 a6 a7 a8:Value):
  (put9 W b a0 a1 a2 a3 a4 a5 a6 a7 a8).heap[b]? =some (.cells #[a0,a1,a2,a3,a4,a5,a6,a7,a8] 24 (0,0)):=by
 have h0:(W.setCell ⟨b,0,none⟩ a0).heap[b]? =some (.cells #[a0,u1,u2,u3,u4,u5,u6,u7,u8] 24 (0,0)):=blk_setCell h 0 a0
 have h1:((W.setCell ⟨b,0,none⟩ a0).setCell ⟨b,1,none⟩ a1).heap[b]? =some (.cells #[a0,a1,u2,u3,u4,u5,u6,u7,u8] 24 (0,0)):=blk_setCell h0 1 a1
 have h2:(((W.setCell ⟨b,0,none⟩ a0).setCell ⟨b,1,none⟩ a1).setCell ⟨b,2,none⟩ a2).heap[b]? =some (.cells #[a0,a1,a2,u3,u4,u5,u6,u7,u8] 24 (0,0)):=blk_setCell h1 2 a2
 have h3:((((W.setCell ⟨b,0,none⟩ a0).setCell ⟨b,1,none⟩ a1).setCell ⟨b,2,none⟩ a2).setCell ⟨b,3,none⟩ a3).heap[b]? =some (.cells #[a0,a1,a2,a3,u4,u5,u6,u7,u8] 24 (0,0)):=blk_setCell h2 3 a3
 have h4:(((((W.setCell ⟨b,0,none⟩ a0).setCell ⟨b,1,none⟩ a1).setCell ⟨b,2,none⟩ a2).setCell ⟨b,3,none⟩ a3).setCell ⟨b,4,none⟩ a4).heap[b]? =some (.cells #[a0,a1,a2,a3,a4,u5,u6,u7,u8] 24 (0,0)):=blk_setCell h3 4 a4
 have h5:((((((W.setCell ⟨b,0,none⟩ a0).setCell ⟨b,1,none⟩ a1).setCell ⟨b,2,none⟩ a2).setCell ⟨b,3,none⟩ a3).setCell ⟨b,4,none⟩ a4).setCell ⟨b,5,none⟩ a5).heap[b]? =some (.cells #[a0,a1,a2,a3,a4,a5,u6,u7,u8] 24 (0,0)):=blk_setCell h4 5 a5
 have h6:(((((((W.setCell ⟨b,0,none⟩ a0).setCell ⟨b,1,none⟩ a1).setCell ⟨b,2,none⟩ a2).setCell ⟨b,3,none⟩ a3).setCell ⟨b,4,none⟩ a4).setCell ⟨b,5,none⟩ a5).setCell ⟨b,6,none⟩ a6).heap[b]? =some (.cells #[a0,a1,a2,a3,a4,a5,a6,u7,u8] 24 (0,0)):=blk_setCell h5 6 a6
 have h7:((((((((W.setCell ⟨b,0,none⟩ a0).setCell ⟨b,1,none⟩ a1).setCell ⟨b,2,none⟩ a2).setCell ⟨b,3,none⟩ a3).setCell ⟨b,4,none⟩ a4).setCell ⟨b,5,none⟩ a5).setCell ⟨b,6,none⟩ a6).setCell ⟨b,7,none⟩ a7).heap[b]? =some (.cells #[a0,a1,a2,a3,a4,a5,a6,a7,u8] 24 (0,0)):=blk_setCell h6 7 a7
 have h8:(((((((((W.setCell ⟨b,0,none⟩ a0).setCell ⟨b,1,none⟩ a1).setCell ⟨b,2,none⟩ a2).setCell ⟨b,3,none⟩ a3).setCell ⟨b,4,none⟩ a4).setCell ⟨b,5,none⟩ a5).setCell ⟨b,6,none⟩ a6).setCell ⟨b,7,none⟩ a7).setCell ⟨b,8,none⟩ a8).heap[b]? =some (.cells #[a0,a1,a2,a3,a4,a5,a6,a7,a8] 24 (0,0)):=blk_setCell h7 8 a8
 exact h8
def OBlk (w:World) (b:Nat) (e:Nat) (sp tx em sq pr:Bool):Prop:=w.heap[b]? =some (.cells #[.int .i64 (e:Int),.bool sp,.bool tx,.bool em,.bool sq,.bool pr,.int .i64 0,.int .i64 0,.int .i64 0] 24 (0,0))
theorem OBlk.fr {w w':World} {b e:Nat} {sp tx em sq pr:Bool} (h:OBlk w b e sp tx em sq pr) (hf:Fr [] w w'):OBlk w' b e sp tx em sq pr:=hf.blk h (by simp)
theorem join_room {M:Md} {sq:Bool} {xs a b:List UInt8} {J:List UInt8} (h:diagR L0 M sq xs=txt (a++(J++b))) (hx:xs.length≤100000):J.length≤400000000000:=by
 have h1:=diagR_len L0 M sq xs (by omega)
 rw [h,txt_len,List.length_append,List.length_append] at h1
 unfold CC at h1
 omega
theorem diag_of {xs T:List UInt8} {e:Nat} {sp tx em sq pr:Bool} (he:e<4) (hx:xs.length≤90000) (h:diagR L0 ⟨e,sp,tx,em,sq,pr⟩ sq xs=txt T) (w:World) (hu:U8 w):
  Calls Tryz.prog 26 #[.string ⟨xs.toArray⟩,.agg #[.int .i64 (e:Int),.bool sp,.bool tx,.bool em,.bool sq,.bool pr,.int .i64 0,.int .i64 0,.int .i64 0]] w fun e w'=>e= .returned (.tuple #[.string ⟨T.toArray⟩,.int .i64 0])∧Fr [] w w':=by
 have K:=implDiag_any (xs:=xs) (M:=⟨e,sp,tx,em,sq,pr⟩) (n:=0) (L:=L0) (.inl ⟨rfl,rfl⟩) he hx w hu
 dsimp only at K
 rw [h] at K
 exact K
def StrsN (w:World) (v:Value) (ss:List (List UInt8)):Prop:=
 (ss=[]∧ ∃ao,v= .slice ao 0 0)∨ ∃g o c,v= .slice (some ⟨g,o,none⟩) ss.length c∧ss.length≤c∧ ∀j (h:j<ss.length),w.cell? ⟨g,o+j,none⟩=some (.string ⟨ss[j].toArray⟩)
theorem StrsN.strs {w:World} {v:Value} {ss:List (List UInt8)} (h:StrsN w v ss):Strs w v ss:=by
 rcases h with ⟨h1,ao,h2⟩|h
 ·exact .inl ⟨h1,ao,0,h2⟩
 ·exact .inr h
theorem StrsN.fr {w w':World} {v:Value} {ss:List (List UInt8)} (h:StrsN w v ss) (hf:Fr [] w w'):StrsN w' v ss:=by
 rcases h with h|⟨g,o,c,h1,h2,h3⟩
 ·exact .inl h
 ·exact .inr ⟨g,o,c,h1,h2,fun j hj=>hf.cell (h3 j hj) (by simp)⟩
theorem strs_take {w:World} {g o c:Nat} {ss:List (List UInt8)} (hc:ss.length≤c) (h3: ∀j (h:j<ss.length),w.cell? ⟨g,o+j,none⟩=some (.string ⟨ss[j].toArray⟩)) (m:Nat) (hm:m≤ss.length):Strs w (.slice (some ⟨g,o,none⟩) m c) (ss.take m):=by
 refine .inr ⟨g,o,c,by rw [List.length_take,Nat.min_eq_left hm],by rw [List.length_take];omega,fun j hj=> ?_⟩
 rw [List.length_take] at hj
 rw [h3 j (by omega),List.getElem_take]
theorem notes_one {p:List UInt8}:notesF [p]=(itemF p 20).map fun t=>[t]:=by
 unfold notesF
 rw [if_pos (by simp),partsF,partsF]
 cases itemF p 20<;>rfl
end
section
open Go.ChangeShapes Go.WideShapes Go.RowKit Go.Joins Go.Deep
section
variable {H:Type} {enc:TypeId×Value→H} {P:Program} {w:World} {base:Nat} {spare:Nat→Bool} {held:Bool}
theorem open_agg9 {r:Reach} {b0:Nat} {t:TypeId} {f0 f1 f2 f3 f4 f5 f6 f7 f8:Field} {v:Value} {d:DataW H} {p:List MemPlace} (hs:P.underlying t=some (.struct #[f0,f1,f2,f3,f4,f5,f6,f7,f8])) (hone:oneCellFields P #[f0,f1,f2,f3,f4,f5,f6,f7,f8]=true) (hC:P.cellsOf t=9)
  (hv:Value.okWide P w r b0 t v) (h:DataW.Trod enc P w base spare held t v d p):
  ∃(v0 v1 v2 v3 v4 v5 v6 v7 v8:Value) (y0 y1 y2 y3 y4 y5 y6 y7 y8:DataW H×List MemPlace) (n:Nat),v= .agg #[v0,v1,v2,v3,v4,v5,v6,v7,v8]∧DataW.trod enc P w base spare held n f0.type [v0]=some y0∧DataW.trod enc P w base spare held n f1.type [v1]=some y1∧DataW.trod enc P w base spare held n f2.type [v2]=some y2∧DataW.trod enc P w base spare held n f3.type [v3]=some y3∧DataW.trod enc P w base spare held n f4.type [v4]=some y4∧DataW.trod enc P w base spare held n f5.type [v5]=some y5∧DataW.trod enc P w base spare held n f6.type [v6]=some y6∧DataW.trod enc P w base spare held n f7.type [v7]=some y7∧DataW.trod enc P w base spare held n f8.type [v8]=some y8:=by
 obtain ⟨cs,rfl,hsz⟩:=okWide_struct hs hv
 obtain ⟨l⟩:=cs
 match l,hsz.trans hC with
 |[c0,c1,c2,c3,c4,c5,c6,c7,c8],_=>
  obtain ⟨fuel,hf⟩:=h
  obtain ⟨xs,n,_,hx,_,hlen,hg⟩:=DataW.trod_struct hs hf
  obtain ⟨o0,k0⟩:=hone_of hone 0 f0 rfl
  obtain ⟨o1,k1⟩:=hone_of hone 1 f1 rfl
  obtain ⟨o2,k2⟩:=hone_of hone 2 f2 rfl
  obtain ⟨o3,k3⟩:=hone_of hone 3 f3 rfl
  obtain ⟨o4,k4⟩:=hone_of hone 4 f4 rfl
  obtain ⟨o5,k5⟩:=hone_of hone 5 f5 rfl
  obtain ⟨o6,k6⟩:=hone_of hone 6 f6 rfl
  obtain ⟨o7,k7⟩:=hone_of hone 7 f7 rfl
  obtain ⟨o8,k8⟩:=hone_of hone 8 f8 rfl
  match xs,hlen with
  |[y0,y1,y2,y3,y4,y5,y6,y7,y8],_=>
   exact ⟨c0,c1,c2,c3,c4,c5,c6,c7,c8,y0,y1,y2,y3,y4,y5,y6,y7,y8,n,rfl,by simpa [Value.cells,o0,k0] using hg 0 f0 rfl,by simpa [Value.cells,o1,k1] using hg 1 f1 rfl,by simpa [Value.cells,o2,k2] using hg 2 f2 rfl,by simpa [Value.cells,o3,k3] using hg 3 f3 rfl,by simpa [Value.cells,o4,k4] using hg 4 f4 rfl,by simpa [Value.cells,o5,k5] using hg 5 f5 rfl,by simpa [Value.cells,o6,k6] using hg 6 f6 rfl,by simpa [Value.cells,o7,k7] using hg 7 f7 rfl,by simpa [Value.cells,o8,k8] using hg 8 f8 rfl⟩
end
theorem u64_nat {n:Int} (h:(Lit.int .u64 n).wf=true): ∃m:Nat,m<18446744073709551616∧n=(m:Int):=by
 have h2:0≤n∧n≤18446744073709551615:=by simpa [Lit.wf,IntKind.bits,IntKind.signed,IntKind.min,IntKind.max] using h
 exact ⟨n.toNat,by omega,by omega⟩
section
variable {H:Type} {enc:TypeId×Value→H} {w:World} {base:Nat} {spare:Nat→Bool} {held:Bool}
set_option linter.constructorNameAsVariable false in
theorem open_opts {r:Reach} {b0:Nat} {v:Value} {d:DataW H} {p:List MemPlace} (hv:Value.okWide Tryz.prog w r b0 24 v) (h:DataW.Trod enc Tryz.prog w base spare held 24 v d p):
  ∃(a x y z:Int) (sp tx em sq pr:Bool),v= .agg #[.int .i64 a,.bool sp,.bool tx,.bool em,.bool sq,.bool pr,.int .i64 x,.int .i64 y,.int .i64 z]:=by
 obtain ⟨v0,v1,v2,v3,v4,v5,v6,v7,v8,y0,y1,y2,y3,y4,y5,y6,y7,y8,n,rfl,h0,h1,h2,h3,h4,h5,h6,h7,h8⟩:=open_agg9 Tryz.underlying24 (by kernel_rfl) (by kernel_rfl) hv h
 obtain ⟨a,e0,_,_⟩:=DataW.trod_int Tryz.underlying3 h0
 obtain ⟨sp,e1,_⟩:=DataW.trod_bool Tryz.underlying4 h1
 obtain ⟨tx,e2,_⟩:=DataW.trod_bool Tryz.underlying4 h2
 obtain ⟨em,e3,_⟩:=DataW.trod_bool Tryz.underlying4 h3
 obtain ⟨sq,e4,_⟩:=DataW.trod_bool Tryz.underlying4 h4
 obtain ⟨pr,e5,_⟩:=DataW.trod_bool Tryz.underlying4 h5
 obtain ⟨x,e6,_,_⟩:=DataW.trod_int Tryz.underlying3 h6
 obtain ⟨y,e7,_,_⟩:=DataW.trod_int Tryz.underlying3 h7
 obtain ⟨z,e8,_,_⟩:=DataW.trod_int Tryz.underlying3 h8
 simp only [List.cons.injEq,and_true] at e0 e1 e2 e3 e4 e5 e6 e7 e8
 exact ⟨a,x,y,z,sp,tx,em,sq,pr,by rw [e0,e1,e2,e3,e4,e5,e6,e7,e8]⟩
set_option linter.constructorNameAsVariable false in
theorem open_strsN {r:Reach} {b0:Nat} {v:Value} {d:DataW H} {p:List MemPlace} (hv:Value.okWide Tryz.prog w r b0 22 v) (h:DataW.Trod enc Tryz.prog w base (fun _=>true) held 22 v d p): ∃ss,StrsN w v ss:=by
 obtain ⟨a0,len,cap,rfl⟩:=okWide_slice Tryz.underlying22 hv
 obtain ⟨fuel,hf⟩:=h
 have hf2:DataW.trod enc Tryz.prog w base (fun _=>true) held fuel 22 [.slice a0 len cap]=some (d,p):=by simpa [Value.cells] using hf
 rcases open_strings Tryz.underlying22 Tryz.underlying9 (by kernel_rfl) hf2 with ⟨hcs,hx⟩|⟨a,len',cap',ss,hcs,_,hl,hm,hz,hx,hcell,_⟩
 ·simp at hcs
  obtain ⟨rfl,rfl,rfl⟩:=hcs
  exact ⟨[],.inl ⟨rfl,none,rfl⟩⟩
 ·simp at hcs
  obtain ⟨rfl,rfl,rfl⟩:=hcs
  simp only [if_true] at hz
  obtain ⟨b,off,spot⟩:=a
  by_cases h0:cap=0
  ·subst h0
   obtain rfl:len=0:=by omega
   exact ⟨[],.inl ⟨rfl,_,rfl⟩⟩
  ·have hspot:spot=none:=by simpa [Addr.add] using World.cell?_spot (hcell 0 (by omega))
   subst hspot
   refine ⟨(ss.take len).map fun s=>s.data.toList,.inr ⟨b,off,cap,by simp;omega,by simp;omega,fun j hj=> ?_⟩⟩
   have hj':j<len:=by simp at hj;omega
   have:=hcell j (by omega)
   rw [show (⟨b,off,none⟩:Addr).add j=⟨b,off+j,none⟩ by unfold Addr.add;split<;>simp_all] at this
   rw [this]
   have hjs:j<ss.length:=by omega
   simp [List.getD,hjs]
end
end
end Go.Proofs.YteodinhkhhaafaaGreatDoor
