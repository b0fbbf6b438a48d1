/- FnDiagChunks, its row and its card: for all chunks and options the law returns true: the text of a string in chunks is that of its chunks, with a comma and a space between them, in parentheses, behind an underscore. -/
import Derived.Test.YteodinhkhhaafaaGreatDoorDbw
import Derived.Test.YteodinhkhhaafaaGreatDoorCards
import Derived.Test.YteodinhkhhaafaaGreatDoorTie
set_option linter.unusedVariables false
set_option linter.unusedSimpArgs false
set_option maxRecDepth 100000
set_option maxHeartbeats 6400000
namespace Go.Proofs.YteodinhkhhaafaaGreatDoor
section
open Go.RowKit
def chunkP (m:Nat) (ss:List (List UInt8)):List (List UInt8):=ss.map fun c=>headB m c.length 0++c
theorem chunk_str {m l:Nat} {tx:Bool} {c:List UInt8} {t:Tr} (hm:m=majS tx) (hc:c.length≤2147483647) (h:ItemOK l (headB m c.length 0++c) t): ∃s,t= .str tx s:=by
 subst hm
 obtain ⟨ai,hh,ha⟩:=hd_headB (majS tx) c.length 0 (by cases tx<;>simp [majS]) (by omega) [] c
 rw [List.nil_append,List.length_nil,Nat.zero_add] at hh
 obtain ⟨hl,e1,e2⟩:=byte_of_hd hh
 exact enc_str h.enc (List.getElem?_eq_getElem hl) e1 (by omega)
theorem chunks_str {m l:Nat} {tx:Bool} (hm:m=majS tx): ∀{ss:List (List UInt8)} {ts:List Tr},(∀s,s∈ss→s.length≤2147483647)→PartsOK l (chunkP m ss) ts→ ∀t,t∈ts→ ∃s,t= .str tx s
 |[],[],_,_,t,h=>by cases h
 |c::ss,u::ts,hs,h,t,ht=>by
  rcases List.mem_cons.1 ht with e|ht
  ·rw [e]
   exact chunk_str hm (hs c (by simp)) h.1
  ·exact chunks_str hm (fun s hx=>hs s (by simp [hx])) h.2 t ht
 |[],t::ts,_,h,_,_=>h.elim
 |p::ps,[],_,h,_,_=>h.elim
theorem chunkP_fits {m:Nat} {ss:List (List UInt8)} (h: ∀s,s∈ss→s.length≤2147483647): ∀s,s∈chunkP m ss→s.length≤3000000000:=by
 intro s hs
 obtain ⟨c,hc,rfl⟩:=List.mem_map.1 hs
 have h1:=h c hc
 have h2:=headB_le m c.length 0
 rw [List.length_append]
 omega
theorem chunkP_take (m:Nat) (ss:List (List UInt8)) (j:Nat) (h:j<ss.length):chunkP m (ss.take (j+1))=chunkP m (ss.take j)++[headB m ss[j].length 0++ss[j]]:=by
 unfold chunkP
 rw [List.take_succ_eq_append_getElem h,List.map_append]
 rfl
theorem chunks_false {w:World} {v:Value} {ss:List (List UInt8)} (hS:Strs w v ss) (a x y z:Int) (sp tx em sq pr:Bool) (hu:U8 w):
  Calls Tryz.prog 7 #[v,.bool false,.agg #[.int .i64 a,.bool sp,.bool tx,.bool em,.bool sq,.bool pr,.int .i64 x,.int .i64 y,.int .i64 z]] w fun e w'=>e= .returned (.bool true)∧Fr [] w w':=by
 obtain ⟨k,hk,_,hk2⟩:=rem_nat a 4 (by decide) (by decide)
 have KO:=fun w=>optionsC a x y z sp tx em sq pr k hk2 w
 unfold diagOpts at KO
 replace KO:=Hz KO
 have KF:=Hz (fun W (hf:Fr [] w W)=>zzFits2 (hS.fr hf))
 have hv: ∃ao c,v= .slice ao ss.length c:=by
  rcases hS with ⟨h0,ao,c,h⟩|⟨g,o,c,h,_⟩
  ·exact ⟨ao,c,by rw [h0];exact h⟩
  ·exact ⟨_,c,h⟩
 obtain ⟨ao,c,rfl⟩:=hv
 by_cases hfit:Fits2 ss
 ·rw [decide_eq_true hfit] at KF
  replace hS:=Hz hS
  have hss:Hid (∀s,s∈ss→s.length≤2147483647):=Hz hfit.2
  have hnl:ss.length≤2147483647:=hfit.1
  have KH:=Hz (fun l (hl:l<18446744073709551616) w=>head 2 l (by omega) hl w)
  have KN:=Hz (fun W v' (hf:Fr [] w W) (h:Strs W v' (chunkP 2 ss))=>notesW h (chunkP_fits hss.out) k sp tx false sq pr hk (hu.fr hf (by simp)))
  obtain ⟨n,hnn⟩: ∃n,ss.length=n:=⟨_,rfl⟩
  rw [hnn] at hnl KF ⊢
  replace hnn:=Hz hnn
  clear hfit
  replace hu:=Hz hu
  go_enter Tryz.func7,Tryz.ntmps7
  go_wp2_with fail
  refine (KF.out _ ((Fr.refl _ _).alloc _)).mono ?_
  rintro e w1 ⟨rfl,hf1⟩
  have hF1:Fr [] w w1:=((Fr.refl _ _).alloc _).trans hf1
  have hb1:=hf1.blk (blk_new w _) (by simp)
  obtain ⟨⟨c0,c1,c2,c3,c4,c5,c6,c7,c8⟩,f0,f1,f2,f3,f4,f5,f6,f7,f8⟩:=cells9 hb1
  replace hb1:=Hz hb1
  go_wp2_with fail
  refine (KO.out _).mono ?_
  rintro e w2 ⟨rfl,hf2⟩
  have hF2:=hF1.trans hf2
  have hb2:=hf2.blk hb1.out (by simp)
  clear c0 c1 c2 c3 c4 c5 c6 c7 c8 f0 f1 f2 f3 f4 f5 f6 f7 f8
  obtain ⟨⟨c0,c1,c2,c3,c4,c5,c6,c7,c8⟩,f0,f1,f2,f3,f4,f5,f6,f7,f8⟩:=cells9 hb2
  have hF3:Hid (Fr [] w ((put9 w2 w.heap.size (.int .i64 (k:Int)) (.bool sp) (.bool tx) (.bool em) (.bool sq) (.bool pr) (.int .i64 0) (.int .i64 0) (.int .i64 0)).setCell ⟨w.heap.size,3,none⟩ (.bool false))):=Hz ((hF2.then_ (Fr.put9 _ _ _ _ _ _ _ _ _ _ _) (by simp)).setCell (.inr (by simp)) _)
  have hb3:Hid (OBlk ((put9 w2 w.heap.size (.int .i64 (k:Int)) (.bool sp) (.bool tx) (.bool em) (.bool sq) (.bool pr) (.int .i64 0) (.int .i64 0) (.int .i64 0)).setCell ⟨w.heap.size,3,none⟩ (.bool false)) w.heap.size k sp tx false sq pr):=Hz (blk_setCell (put9_blk hb2 _ _ _ _ _ _ _ _ _) 3 _)
  have hlt2:=blk_lt' hb2
  replace hb2:=Hz hb2
  go_wp2
  replace hF3:Hid (Fr [] w ((((((((((w2.setCell ⟨w.heap.size,0,none⟩ (.int .i64 (k:Int))).setCell ⟨w.heap.size,1,none⟩ (.bool sp)).setCell ⟨w.heap.size,2,none⟩ (.bool tx)).setCell ⟨w.heap.size,3,none⟩ (.bool em)).setCell ⟨w.heap.size,4,none⟩ (.bool sq)).setCell ⟨w.heap.size,5,none⟩ (.bool pr)).setCell ⟨w.heap.size,6,none⟩ (.int .i64 0)).setCell ⟨w.heap.size,7,none⟩ (.int .i64 0)).setCell ⟨w.heap.size,8,none⟩ (.int .i64 0)).setCell ⟨w.heap.size,3,none⟩ (.bool false))):=hF3
  replace hb3:Hid (OBlk ((((((((((w2.setCell ⟨w.heap.size,0,none⟩ (.int .i64 (k:Int))).setCell ⟨w.heap.size,1,none⟩ (.bool sp)).setCell ⟨w.heap.size,2,none⟩ (.bool tx)).setCell ⟨w.heap.size,3,none⟩ (.bool em)).setCell ⟨w.heap.size,4,none⟩ (.bool sq)).setCell ⟨w.heap.size,5,none⟩ (.bool pr)).setCell ⟨w.heap.size,6,none⟩ (.int .i64 0)).setCell ⟨w.heap.size,7,none⟩ (.int .i64 0)).setCell ⟨w.heap.size,8,none⟩ (.int .i64 0)).setCell ⟨w.heap.size,3,none⟩ (.bool false)) w.heap.size k sp tx false sq pr):=hb3
  clear c0 c1 c2 c3 c4 c5 c6 c7 c8 f0 f1 f2 f3 f4 f5 f6 f7 f8
  generalize (((((((((w2.setCell ⟨w.heap.size,0,none⟩ (.int .i64 (k:Int))).setCell ⟨w.heap.size,1,none⟩ (.bool sp)).setCell ⟨w.heap.size,2,none⟩ (.bool tx)).setCell ⟨w.heap.size,3,none⟩ (.bool em)).setCell ⟨w.heap.size,4,none⟩ (.bool sq)).setCell ⟨w.heap.size,5,none⟩ (.bool pr)).setCell ⟨w.heap.size,6,none⟩ (.int .i64 0)).setCell ⟨w.heap.size,7,none⟩ (.int .i64 0)).setCell ⟨w.heap.size,8,none⟩ (.int .i64 0)).setCell ⟨w.heap.size,3,none⟩ (.bool false)=w3 at *
  have hs3:=hF3.out.size
  have hl3:=blk_lt' hb3.out
  go_loopg [8,26] n (fun gk v8 v26 wr=> ∃j:Nat,v26= .int .i64 (j:Int)∧j+gk=n∧SRow wr (w.heap.size+1) v8 (chunkP 2 (ss.take j))∧OBlk wr w.heap.size k sp tx false sq pr∧w.heap.size+1≤wr.heap.size∧Fr [] w wr)
  case atStart=>exact ⟨0,by go_num,by omega,SRow.nil _ _,hb3.out,by omega,hF3.out⟩
  case round=>
   obtain ⟨j,rfl,hj,hrow,hb,hszr,hF⟩:=hrel
   obtain ⟨ao8,n8,c8,rfl⟩:=hrow.shape
   by_cases hk0:gk=0
   ·subst hk0
    obtain rfl:j=n:=by omega
    have tz: ¬(j:Int)<(j:Int):=by omega
    rw [List.take_of_length_le (by rw [hnn.out];omega)] at hrow
    obtain ⟨⟨c0,c1,c2,c3,c4,c5,c6,c7,c8'⟩,_⟩:=cells9 hb
    have KN2:=Hz (KN.out wr _ hF hrow.strs)
    replace hb:=Hz hb
    clear KN hrow
    go_wp2_with fail
    refine KN2.out.mono ?_
    rintro e w4 ⟨hf4,h4⟩
    have hF4:=hF.trans hf4
    have hb4:=hb.out.fr hf4
    clear c0 c1 c2 c3 c4 c5 c6 c7 c8'
    cases hN:notesF (chunkP 2 ss) with
    |none=>
     rw [hN] at h4
     dsimp only at h4
     subst h4
     clear hN
     go_wp2
     go_ret
     exact ⟨rfl,hF4⟩
    |some ts=>
     rw [hN] at h4
     obtain ⟨v4,rfl,hR4⟩:=h4
     have hS4:=hR4.strs
     have h8:(chunkP 2 ss).length≤8:=by
      unfold notesF at hN
      split at hN
      ·assumption
      ·cases hN
     have hP:PartsOK 20 (chunkP 2 ss) ts:=by
      unfold notesF at hN
      rw [if_pos h8] at hN
      exact partsF_ok hN
     have hcl:(chunkP 2 ss).length=j:=by unfold chunkP;rw [List.length_map,hnn.out]
     have hlt:=hP.len
     have hfl:=hP.flat
     rw [hcl] at hlt h8 hfl
     obtain ⟨ao4,c4',rfl⟩: ∃ao c,v4= .slice ao j c:=by
      rcases hS4 with ⟨h0,ao,c,h⟩|⟨g,o,c,h,_⟩
      ·have h1:=congrArg List.length h0
       rw [List.length_map,hlt,List.length_nil] at h1
       exact ⟨ao,c,by rw [h1];exact h⟩
      ·exact ⟨_,c,by rw [h,List.length_map,hlt]⟩
     by_cases hj0:j=0
     ·have t0:((j:Int)==0)=true:=by simp;omega
      clear hN hP hlt hfl hS4 hR4 hcl
      go_wp2
      go_ret
      exact ⟨rfl,hF4⟩
     ·have t0:((j:Int)==0)=false:=by simp;omega
      have e1:=chk_text (M:=⟨k,sp,tx,false,sq,pr⟩) (sq:=sq) (tx:=false) hP (by omega) (fun e0=>by rw [e0] at hcl;simp at hcl;omega) (chunks_str rfl hss.out hP)
      have hroom:=join_room e1 (by rw [List.length_cons,List.length_append,List.length_singleton];omega)
      have KD:=diag_of hk (by rw [List.length_cons,List.length_append,List.length_singleton];omega) e1
      obtain ⟨J,hJ⟩: ∃J,joinS false 0 (ts.map (noteT ⟨k,sp,tx,false,sq,pr⟩))=J:=⟨_,rfl⟩
      have KJ: ∀W,Fr [] w4 W→Calls Tryz.prog 24 #[.slice ao4 j c4',.bool false] W fun e w'=>e= .returned (.string ⟨J.toArray⟩)∧Fr [] W w':=fun W hf=>by
       rw [←hJ]
       exact joined false (hS4.fr hf) (by rw [List.length_map];omega) (by omega)
      rw [hJ] at KD hroom
      obtain ⟨F,hFF⟩: ∃F,(chunkP 2 ss).flatten=F:=⟨_,rfl⟩
      rw [hFF] at KD hfl ⊢
      rw [show UInt8.ofNat (majS false*32+31)=95 from by decide] at KD
      have g1:(⟨(95::(F++[255])).toArray⟩:ByteArray)=⟨([95]:List UInt8).toArray⟩++⟨F.toArray⟩++⟨#[255]⟩:=by
       rw [show (⟨#[255]⟩:ByteArray)=⟨([255]:List UInt8).toArray⟩ from rfl,mk_append,mk_append]
       try simp only [List.append_assoc,List.cons_append,List.nil_append,List.singleton_append]
      have g2:(⟨([40,95,32]++(J++[41])).toArray⟩:ByteArray)=⟨#[40,95,32]⟩++⟨J.toArray⟩++⟨#[41]⟩:=by
       rw [show (⟨#[40,95,32]⟩:ByteArray)=⟨([40,95,32]:List UInt8).toArray⟩ from rfl,show (⟨#[41]⟩:ByteArray)=⟨([41]:List UInt8).toArray⟩ from rfl,mk_append,mk_append]
       try simp only [List.append_assoc,List.cons_append,List.nil_append,List.singleton_append]
      rw [g1,g2] at KD
      have hor:bits .or .i64 64 31=95:=by decide
      have hrd:Rd (w4.alloc (.cells #[.int .u8 95] 5 (0,0))) w4.heap.size 0 [95]:=rd_new (w:=w4) (s:=[95]) rfl (by simp only [enc,List.map_cons,List.map_nil];rfl)
      have ht:=toStr hrd 1
      have ht2:(convert 59 9 (.slice (some ⟨w4.heap.size,0,none⟩) 1 1)).run Tryz.prog (w4.alloc (.cells #[.int .u8 95] 5 (0,0)))= .ok (.string ⟨([95]:List UInt8).toArray⟩) (w4.alloc (.cells #[.int .u8 95] 5 (0,0))):=ht
      have q1: ¬9223372036854775807<1+F.length:=by omega
      have q2: ¬9223372036854775807<1+F.length+1:=by omega
      have q3: ¬9223372036854775807<3+J.length:=by omega
      have q4: ¬9223372036854775807<3+J.length+1:=by omega
      have hbb: ∀b:ByteArray,(b==b)=true:=ba_self
      obtain ⟨⟨c0,c1,c2,c3,c4,c5,c6,c7,c8'⟩,_⟩:=cells9 hb4
      have hlt4:=blk_lt' hb4
      have hF5:Fr [] w (w4.alloc (.cells #[.int .u8 95] 5 (0,0))):=hF4.alloc _
      have hf45:Fr [] w4 (w4.alloc (.cells #[.int .u8 95] 5 (0,0))):=(Fr.refl _ _).alloc _
      replace KJ:=Hz KJ
      replace KD:=Hz KD
      clear hN hP hlt hfl hS4 hR4 hcl e1 hroom hJ hFF g1 g2 hrd ht hb4 h8
      go_wp2_with fail
      refine (KD.out _ (hu.out.fr hF5 (by simp))).mono ?_
      rintro e w6 ⟨rfl,hf6⟩
      go_wp2_with fail
      refine (KJ.out _ (hf45.trans hf6)).mono ?_
      rintro e w7 ⟨rfl,hf7⟩
      go_wp2
      go_ret
      exact ⟨rfl,(hF5.trans hf6).trans hf7⟩
   ·obtain ⟨g',rfl⟩: ∃g',gk=g'+1:=⟨gk-1,by omega⟩
    have hjn:j<n:=by omega
    have hjl:j<ss.length:=by rw [hnn.out];omega
    have tz:(j:Int)<(n:Int):=by omega
    obtain ⟨g,o,c',he',hcell⟩: ∃g o c',(Value.slice ao n c)= .slice (some ⟨g,o,none⟩) ss.length c'∧ ∀j (h:j<ss.length),wr.cell? ⟨g,o+j,none⟩=some (.string ⟨ss[j].toArray⟩):=by
     have h2:=hS.out.fr hF
     rw [hnn.out] at h2
     rcases h2 with ⟨h0,_⟩|⟨g,o,c',h1,h2,h3⟩
     ·rw [h0] at hjl;simp at hjl
     ·rw [hnn.out] at h1;exact ⟨g,o,c',by rw [h1,hnn.out],h3⟩
    rw [hnn.out] at he'
    cases he'
    have cj:=hcell j hjl
    have hct:=chunkP_take 2 ss j hjl
    have hsl:=hss.out ss[j] (List.getElem_mem hjl)
    obtain ⟨sj,hsj⟩: ∃sj,ss[j]=sj:=⟨_,rfl⟩
    rw [hsj] at cj hct hsl
    have hhl:=headB_le 2 sj.length 0
    obtain ⟨A,hA⟩: ∃A,chunkP 2 (ss.take j)=A:=⟨_,rfl⟩
    have hAl:A.length=j:=by rw [←hA];unfold chunkP;rw [List.length_map,List.length_take];omega
    rw [hA] at hct hrow
    have KH2:=Hz (KH.out sj.length (by omega))
    obtain ⟨H,hH⟩: ∃H,headB 2 sj.length 0=H:=⟨_,rfl⟩
    rw [hH] at KH2 hct hhl
    replace hct:=Hz hct
    replace hrow:=Hz hrow
    replace hb:=Hz hb
    have q1: ¬9223372036854775807<H.length+sj.length:=by omega
    have gu:IntKind.u64.wrap (sj.length:Int)=(sj.length:Int):=by show (sj.length:Int)%18446744073709551616=_;omega
    have hAl2:Hid (A.length+1≤8000000000):=Hz (by omega)
    clear hcell hsj hS hjl hA hH hAl
    rcases Nat.eq_zero_or_pos j with h0|h0
    all_goals
     first
      |subst h0;rw [Nat.add_zero] at cj
      |skip
     go_wp2_with fail
     refine (KH2.out _).mono ?_
     rintro e w5 ⟨rfl,hf5⟩
     have hs5:=hf5.size
     have hb5:=hb.out.fr hf5
     have hcs:(w5.alloc (.cells #[.string (⟨H.toArray⟩++⟨sj.toArray⟩)] 9)).cell? ⟨w5.heap.size,0,none⟩=some (.string ⟨(H++sj).toArray⟩):=by
      rw [←mk_append]
      exact cell_blk (blk_new w5 _) 0
     have hB2:Hid (w.heap.size+1≤(w5.alloc (.cells #[.string (⟨H.toArray⟩++⟨sj.toArray⟩)] 9)).heap.size):=Hz (by simp;omega)
     have hrow3:Hid (SRow (w5.alloc (.cells #[.string (⟨H.toArray⟩++⟨sj.toArray⟩)] 9)) (w.heap.size+1) (.slice ao8 n8 c8) A):=Hz (hrow.out.fr (S:=[]) (hf5.alloc _) (by simp))
     replace hcs:=Hz hcs
     replace hb5:=Hz hb5
     go_wp2_with (at_builtin;refine wpList_apS rfl _ _ rfl (B:=w.heap.size+1) _ A (H++sj) w5.heap.size 1 rfl rfl hcs.out hrow3.out hB2.out hAl2.out ?_)
     intro v' w6 hrow' hg
     have hF6:Fr [] w w6:=Fr.grown ((hF.trans hf5).alloc _) hg (fun d hd=> .inr (by have:=(World.ownsRow.lt hrow3.out d hd).1;omega))
     have hb6:OBlk w6 w.heap.size k sp tx false sq pr:=(hg.block w.heap.size (by rw [World.size_alloc];omega) (fun e'=>by have:=(World.ownsRow.lt hrow3.out _ e'.symm).1;omega)).trans (blk_alloc hb5.out _)
     obtain ⟨ao9,n9,c9,rfl⟩:=hrow'.shape
     have hs6:=hg.size
     simp only [World.size_alloc] at hs6
     replace hb6:=Hz hb6
     replace hrow':=Hz hrow'
     clear hg
     go_wp2
     go_roundg g'
     case measure=>omega
     case rel=>
      first
       |exact ⟨j+1,by go_num,by omega,by rw [hct.out];exact hrow'.out,hb6.out,by omega,hF6⟩
       |exact ⟨0+1,by go_num,by omega,by rw [hct.out];exact hrow'.out,hb6.out,by omega,hF6⟩
 ·rw [decide_eq_false hfit] at KF
  go_enter Tryz.func7,Tryz.ntmps7
  go_wp2_with fail
  refine (KF.out _ ((Fr.refl _ _).alloc _)).mono ?_
  rintro e w1 ⟨rfl,hf1⟩
  go_wp2
  go_ret
  exact ⟨rfl,((Fr.refl _ _).alloc _).trans hf1⟩
theorem chunks_true {w:World} {v:Value} {ss:List (List UInt8)} (hS:Strs w v ss) (a x y z:Int) (sp tx em sq pr:Bool) (hu:U8 w):
  Calls Tryz.prog 7 #[v,.bool true,.agg #[.int .i64 a,.bool sp,.bool tx,.bool em,.bool sq,.bool pr,.int .i64 x,.int .i64 y,.int .i64 z]] w fun e w'=>e= .returned (.bool true)∧Fr [] w w':=by
 obtain ⟨k,hk,_,hk2⟩:=rem_nat a 4 (by decide) (by decide)
 have KO:=fun w=>optionsC a x y z sp tx em sq pr k hk2 w
 unfold diagOpts at KO
 replace KO:=Hz KO
 have KF:=Hz (fun W (hf:Fr [] w W)=>zzFits2 (hS.fr hf))
 have hv: ∃ao c,v= .slice ao ss.length c:=by
  rcases hS with ⟨h0,ao,c,h⟩|⟨g,o,c,h,_⟩
  ·exact ⟨ao,c,by rw [h0];exact h⟩
  ·exact ⟨_,c,h⟩
 obtain ⟨ao,c,rfl⟩:=hv
 by_cases hfit:Fits2 ss
 ·rw [decide_eq_true hfit] at KF
  replace hS:=Hz hS
  have hss:Hid (∀s,s∈ss→s.length≤2147483647):=Hz hfit.2
  have hnl:ss.length≤2147483647:=hfit.1
  have KH:=Hz (fun l (hl:l<18446744073709551616) w=>head 3 l (by omega) hl w)
  have KN:=Hz (fun W v' (hf:Fr [] w W) (h:Strs W v' (chunkP 3 ss))=>notesW h (chunkP_fits hss.out) k sp tx false sq pr hk (hu.fr hf (by simp)))
  obtain ⟨n,hnn⟩: ∃n,ss.length=n:=⟨_,rfl⟩
  rw [hnn] at hnl KF ⊢
  replace hnn:=Hz hnn
  clear hfit
  replace hu:=Hz hu
  go_enter Tryz.func7,Tryz.ntmps7
  go_wp2_with fail
  refine (KF.out _ ((Fr.refl _ _).alloc _)).mono ?_
  rintro e w1 ⟨rfl,hf1⟩
  have hF1:Fr [] w w1:=((Fr.refl _ _).alloc _).trans hf1
  have hb1:=hf1.blk (blk_new w _) (by simp)
  obtain ⟨⟨c0,c1,c2,c3,c4,c5,c6,c7,c8⟩,f0,f1,f2,f3,f4,f5,f6,f7,f8⟩:=cells9 hb1
  replace hb1:=Hz hb1
  go_wp2_with fail
  refine (KO.out _).mono ?_
  rintro e w2 ⟨rfl,hf2⟩
  have hF2:=hF1.trans hf2
  have hb2:=hf2.blk hb1.out (by simp)
  clear c0 c1 c2 c3 c4 c5 c6 c7 c8 f0 f1 f2 f3 f4 f5 f6 f7 f8
  obtain ⟨⟨c0,c1,c2,c3,c4,c5,c6,c7,c8⟩,f0,f1,f2,f3,f4,f5,f6,f7,f8⟩:=cells9 hb2
  have hF3:Hid (Fr [] w ((put9 w2 w.heap.size (.int .i64 (k:Int)) (.bool sp) (.bool tx) (.bool em) (.bool sq) (.bool pr) (.int .i64 0) (.int .i64 0) (.int .i64 0)).setCell ⟨w.heap.size,3,none⟩ (.bool false))):=Hz ((hF2.then_ (Fr.put9 _ _ _ _ _ _ _ _ _ _ _) (by simp)).setCell (.inr (by simp)) _)
  have hb3:Hid (OBlk ((put9 w2 w.heap.size (.int .i64 (k:Int)) (.bool sp) (.bool tx) (.bool em) (.bool sq) (.bool pr) (.int .i64 0) (.int .i64 0) (.int .i64 0)).setCell ⟨w.heap.size,3,none⟩ (.bool false)) w.heap.size k sp tx false sq pr):=Hz (blk_setCell (put9_blk hb2 _ _ _ _ _ _ _ _ _) 3 _)
  have hlt2:=blk_lt' hb2
  replace hb2:=Hz hb2
  go_wp2
  replace hF3:Hid (Fr [] w ((((((((((w2.setCell ⟨w.heap.size,0,none⟩ (.int .i64 (k:Int))).setCell ⟨w.heap.size,1,none⟩ (.bool sp)).setCell ⟨w.heap.size,2,none⟩ (.bool tx)).setCell ⟨w.heap.size,3,none⟩ (.bool em)).setCell ⟨w.heap.size,4,none⟩ (.bool sq)).setCell ⟨w.heap.size,5,none⟩ (.bool pr)).setCell ⟨w.heap.size,6,none⟩ (.int .i64 0)).setCell ⟨w.heap.size,7,none⟩ (.int .i64 0)).setCell ⟨w.heap.size,8,none⟩ (.int .i64 0)).setCell ⟨w.heap.size,3,none⟩ (.bool false))):=hF3
  replace hb3:Hid (OBlk ((((((((((w2.setCell ⟨w.heap.size,0,none⟩ (.int .i64 (k:Int))).setCell ⟨w.heap.size,1,none⟩ (.bool sp)).setCell ⟨w.heap.size,2,none⟩ (.bool tx)).setCell ⟨w.heap.size,3,none⟩ (.bool em)).setCell ⟨w.heap.size,4,none⟩ (.bool sq)).setCell ⟨w.heap.size,5,none⟩ (.bool pr)).setCell ⟨w.heap.size,6,none⟩ (.int .i64 0)).setCell ⟨w.heap.size,7,none⟩ (.int .i64 0)).setCell ⟨w.heap.size,8,none⟩ (.int .i64 0)).setCell ⟨w.heap.size,3,none⟩ (.bool false)) w.heap.size k sp tx false sq pr):=hb3
  clear c0 c1 c2 c3 c4 c5 c6 c7 c8 f0 f1 f2 f3 f4 f5 f6 f7 f8
  generalize (((((((((w2.setCell ⟨w.heap.size,0,none⟩ (.int .i64 (k:Int))).setCell ⟨w.heap.size,1,none⟩ (.bool sp)).setCell ⟨w.heap.size,2,none⟩ (.bool tx)).setCell ⟨w.heap.size,3,none⟩ (.bool em)).setCell ⟨w.heap.size,4,none⟩ (.bool sq)).setCell ⟨w.heap.size,5,none⟩ (.bool pr)).setCell ⟨w.heap.size,6,none⟩ (.int .i64 0)).setCell ⟨w.heap.size,7,none⟩ (.int .i64 0)).setCell ⟨w.heap.size,8,none⟩ (.int .i64 0)).setCell ⟨w.heap.size,3,none⟩ (.bool false)=w3 at *
  have hs3:=hF3.out.size
  have hl3:=blk_lt' hb3.out
  go_loopg [8,26] n (fun gk v8 v26 wr=> ∃j:Nat,v26= .int .i64 (j:Int)∧j+gk=n∧SRow wr (w.heap.size+1) v8 (chunkP 3 (ss.take j))∧OBlk wr w.heap.size k sp tx false sq pr∧w.heap.size+1≤wr.heap.size∧Fr [] w wr)
  case atStart=>exact ⟨0,by go_num,by omega,SRow.nil _ _,hb3.out,by omega,hF3.out⟩
  case round=>
   obtain ⟨j,rfl,hj,hrow,hb,hszr,hF⟩:=hrel
   obtain ⟨ao8,n8,c8,rfl⟩:=hrow.shape
   by_cases hk0:gk=0
   ·subst hk0
    obtain rfl:j=n:=by omega
    have tz: ¬(j:Int)<(j:Int):=by omega
    rw [List.take_of_length_le (by rw [hnn.out];omega)] at hrow
    obtain ⟨⟨c0,c1,c2,c3,c4,c5,c6,c7,c8'⟩,_⟩:=cells9 hb
    have KN2:=Hz (KN.out wr _ hF hrow.strs)
    replace hb:=Hz hb
    clear KN hrow
    go_wp2_with fail
    refine KN2.out.mono ?_
    rintro e w4 ⟨hf4,h4⟩
    have hF4:=hF.trans hf4
    have hb4:=hb.out.fr hf4
    clear c0 c1 c2 c3 c4 c5 c6 c7 c8'
    cases hN:notesF (chunkP 3 ss) with
    |none=>
     rw [hN] at h4
     dsimp only at h4
     subst h4
     clear hN
     go_wp2
     go_ret
     exact ⟨rfl,hF4⟩
    |some ts=>
     rw [hN] at h4
     obtain ⟨v4,rfl,hR4⟩:=h4
     have hS4:=hR4.strs
     have h8:(chunkP 3 ss).length≤8:=by
      unfold notesF at hN
      split at hN
      ·assumption
      ·cases hN
     have hP:PartsOK 20 (chunkP 3 ss) ts:=by
      unfold notesF at hN
      rw [if_pos h8] at hN
      exact partsF_ok hN
     have hcl:(chunkP 3 ss).length=j:=by unfold chunkP;rw [List.length_map,hnn.out]
     have hlt:=hP.len
     have hfl:=hP.flat
     rw [hcl] at hlt h8 hfl
     obtain ⟨ao4,c4',rfl⟩: ∃ao c,v4= .slice ao j c:=by
      rcases hS4 with ⟨h0,ao,c,h⟩|⟨g,o,c,h,_⟩
      ·have h1:=congrArg List.length h0
       rw [List.length_map,hlt,List.length_nil] at h1
       exact ⟨ao,c,by rw [h1];exact h⟩
      ·exact ⟨_,c,by rw [h,List.length_map,hlt]⟩
     by_cases hj0:j=0
     ·have t0:((j:Int)==0)=true:=by simp;omega
      clear hN hP hlt hfl hS4 hR4 hcl
      go_wp2
      go_ret
      exact ⟨rfl,hF4⟩
     ·have t0:((j:Int)==0)=false:=by simp;omega
      have e1:=chk_text (M:=⟨k,sp,tx,false,sq,pr⟩) (sq:=sq) (tx:=true) hP (by omega) (fun e0=>by rw [e0] at hcl;simp at hcl;omega) (chunks_str rfl hss.out hP)
      have hroom:=join_room e1 (by rw [List.length_cons,List.length_append,List.length_singleton];omega)
      have KD:=diag_of hk (by rw [List.length_cons,List.length_append,List.length_singleton];omega) e1
      obtain ⟨J,hJ⟩: ∃J,joinS false 0 (ts.map (noteT ⟨k,sp,tx,false,sq,pr⟩))=J:=⟨_,rfl⟩
      have KJ: ∀W,Fr [] w4 W→Calls Tryz.prog 24 #[.slice ao4 j c4',.bool false] W fun e w'=>e= .returned (.string ⟨J.toArray⟩)∧Fr [] W w':=fun W hf=>by
       rw [←hJ]
       exact joined false (hS4.fr hf) (by rw [List.length_map];omega) (by omega)
      rw [hJ] at KD hroom
      obtain ⟨F,hFF⟩: ∃F,(chunkP 3 ss).flatten=F:=⟨_,rfl⟩
      rw [hFF] at KD hfl ⊢
      rw [show UInt8.ofNat (majS true*32+31)=127 from by decide] at KD
      have g1:(⟨(127::(F++[255])).toArray⟩:ByteArray)=⟨([127]:List UInt8).toArray⟩++⟨F.toArray⟩++⟨#[255]⟩:=by
       rw [show (⟨#[255]⟩:ByteArray)=⟨([255]:List UInt8).toArray⟩ from rfl,mk_append,mk_append]
       try simp only [List.append_assoc,List.cons_append,List.nil_append,List.singleton_append]
      have g2:(⟨([40,95,32]++(J++[41])).toArray⟩:ByteArray)=⟨#[40,95,32]⟩++⟨J.toArray⟩++⟨#[41]⟩:=by
       rw [show (⟨#[40,95,32]⟩:ByteArray)=⟨([40,95,32]:List UInt8).toArray⟩ from rfl,show (⟨#[41]⟩:ByteArray)=⟨([41]:List UInt8).toArray⟩ from rfl,mk_append,mk_append]
       try simp only [List.append_assoc,List.cons_append,List.nil_append,List.singleton_append]
      rw [g1,g2] at KD
      have hor:bits .or .i64 96 31=127:=by decide
      have hrd:Rd (w4.alloc (.cells #[.int .u8 127] 5 (0,0))) w4.heap.size 0 [127]:=rd_new (w:=w4) (s:=[127]) rfl (by simp only [enc,List.map_cons,List.map_nil];rfl)
      have ht:=toStr hrd 1
      have ht2:(convert 59 9 (.slice (some ⟨w4.heap.size,0,none⟩) 1 1)).run Tryz.prog (w4.alloc (.cells #[.int .u8 127] 5 (0,0)))= .ok (.string ⟨([127]:List UInt8).toArray⟩) (w4.alloc (.cells #[.int .u8 127] 5 (0,0))):=ht
      have q1: ¬9223372036854775807<1+F.length:=by omega
      have q2: ¬9223372036854775807<1+F.length+1:=by omega
      have q3: ¬9223372036854775807<3+J.length:=by omega
      have q4: ¬9223372036854775807<3+J.length+1:=by omega
      have hbb: ∀b:ByteArray,(b==b)=true:=ba_self
      obtain ⟨⟨c0,c1,c2,c3,c4,c5,c6,c7,c8'⟩,_⟩:=cells9 hb4
      have hlt4:=blk_lt' hb4
      have hF5:Fr [] w (w4.alloc (.cells #[.int .u8 127] 5 (0,0))):=hF4.alloc _
      have hf45:Fr [] w4 (w4.alloc (.cells #[.int .u8 127] 5 (0,0))):=(Fr.refl _ _).alloc _
      replace KJ:=Hz KJ
      replace KD:=Hz KD
      clear hN hP hlt hfl hS4 hR4 hcl e1 hroom hJ hFF g1 g2 hrd ht hb4 h8
      go_wp2_with fail
      refine (KD.out _ (hu.out.fr hF5 (by simp))).mono ?_
      rintro e w6 ⟨rfl,hf6⟩
      go_wp2_with fail
      refine (KJ.out _ (hf45.trans hf6)).mono ?_
      rintro e w7 ⟨rfl,hf7⟩
      go_wp2
      go_ret
      exact ⟨rfl,(hF5.trans hf6).trans hf7⟩
   ·obtain ⟨g',rfl⟩: ∃g',gk=g'+1:=⟨gk-1,by omega⟩
    have hjn:j<n:=by omega
    have hjl:j<ss.length:=by rw [hnn.out];omega
    have tz:(j:Int)<(n:Int):=by omega
    obtain ⟨g,o,c',he',hcell⟩: ∃g o c',(Value.slice ao n c)= .slice (some ⟨g,o,none⟩) ss.length c'∧ ∀j (h:j<ss.length),wr.cell? ⟨g,o+j,none⟩=some (.string ⟨ss[j].toArray⟩):=by
     have h2:=hS.out.fr hF
     rw [hnn.out] at h2
     rcases h2 with ⟨h0,_⟩|⟨g,o,c',h1,h2,h3⟩
     ·rw [h0] at hjl;simp at hjl
     ·rw [hnn.out] at h1;exact ⟨g,o,c',by rw [h1,hnn.out],h3⟩
    rw [hnn.out] at he'
    cases he'
    have cj:=hcell j hjl
    have hct:=chunkP_take 3 ss j hjl
    have hsl:=hss.out ss[j] (List.getElem_mem hjl)
    obtain ⟨sj,hsj⟩: ∃sj,ss[j]=sj:=⟨_,rfl⟩
    rw [hsj] at cj hct hsl
    have hhl:=headB_le 3 sj.length 0
    obtain ⟨A,hA⟩: ∃A,chunkP 3 (ss.take j)=A:=⟨_,rfl⟩
    have hAl:A.length=j:=by rw [←hA];unfold chunkP;rw [List.length_map,List.length_take];omega
    rw [hA] at hct hrow
    have KH2:=Hz (KH.out sj.length (by omega))
    obtain ⟨H,hH⟩: ∃H,headB 3 sj.length 0=H:=⟨_,rfl⟩
    rw [hH] at KH2 hct hhl
    replace hct:=Hz hct
    replace hrow:=Hz hrow
    replace hb:=Hz hb
    have q1: ¬9223372036854775807<H.length+sj.length:=by omega
    have gu:IntKind.u64.wrap (sj.length:Int)=(sj.length:Int):=by show (sj.length:Int)%18446744073709551616=_;omega
    have hAl2:Hid (A.length+1≤8000000000):=Hz (by omega)
    clear hcell hsj hS hjl hA hH hAl
    rcases Nat.eq_zero_or_pos j with h0|h0
    all_goals
     first
      |subst h0;rw [Nat.add_zero] at cj
      |skip
     go_wp2_with fail
     refine (KH2.out _).mono ?_
     rintro e w5 ⟨rfl,hf5⟩
     have hs5:=hf5.size
     have hb5:=hb.out.fr hf5
     have hcs:(w5.alloc (.cells #[.string (⟨H.toArray⟩++⟨sj.toArray⟩)] 9)).cell? ⟨w5.heap.size,0,none⟩=some (.string ⟨(H++sj).toArray⟩):=by
      rw [←mk_append]
      exact cell_blk (blk_new w5 _) 0
     have hB2:Hid (w.heap.size+1≤(w5.alloc (.cells #[.string (⟨H.toArray⟩++⟨sj.toArray⟩)] 9)).heap.size):=Hz (by simp;omega)
     have hrow3:Hid (SRow (w5.alloc (.cells #[.string (⟨H.toArray⟩++⟨sj.toArray⟩)] 9)) (w.heap.size+1) (.slice ao8 n8 c8) A):=Hz (hrow.out.fr (S:=[]) (hf5.alloc _) (by simp))
     replace hcs:=Hz hcs
     replace hb5:=Hz hb5
     go_wp2_with (at_builtin;refine wpList_apS rfl _ _ rfl (B:=w.heap.size+1) _ A (H++sj) w5.heap.size 1 rfl rfl hcs.out hrow3.out hB2.out hAl2.out ?_)
     intro v' w6 hrow' hg
     have hF6:Fr [] w w6:=Fr.grown ((hF.trans hf5).alloc _) hg (fun d hd=> .inr (by have:=(World.ownsRow.lt hrow3.out d hd).1;omega))
     have hb6:OBlk w6 w.heap.size k sp tx false sq pr:=(hg.block w.heap.size (by rw [World.size_alloc];omega) (fun e'=>by have:=(World.ownsRow.lt hrow3.out _ e'.symm).1;omega)).trans (blk_alloc hb5.out _)
     obtain ⟨ao9,n9,c9,rfl⟩:=hrow'.shape
     have hs6:=hg.size
     simp only [World.size_alloc] at hs6
     replace hb6:=Hz hb6
     replace hrow':=Hz hrow'
     clear hg
     go_wp2
     go_roundg g'
     case measure=>omega
     case rel=>
      first
       |exact ⟨j+1,by go_num,by omega,by rw [hct.out];exact hrow'.out,hb6.out,by omega,hF6⟩
       |exact ⟨0+1,by go_num,by omega,by rw [hct.out];exact hrow'.out,hb6.out,by omega,hF6⟩
 ·rw [decide_eq_false hfit] at KF
  go_enter Tryz.func7,Tryz.ntmps7
  go_wp2_with fail
  refine (KF.out _ ((Fr.refl _ _).alloc _)).mono ?_
  rintro e w1 ⟨rfl,hf1⟩
  go_wp2
  go_ret
  exact ⟨rfl,((Fr.refl _ _).alloc _).trans hf1⟩
theorem chunkslaw_any {w:World} {v:Value} {ss:List (List UInt8)} (hS:Strs w v ss) (op:Bool) (a x y z:Int) (sp tx em sq pr:Bool) (hu:U8 w):
  Calls Tryz.prog 7 #[v,.bool op,.agg #[.int .i64 a,.bool sp,.bool tx,.bool em,.bool sq,.bool pr,.int .i64 x,.int .i64 y,.int .i64 z]] w fun e w'=>e= .returned (.bool true)∧Fr [] w w':=by
 cases op
 ·exact chunks_false hS a x y z sp tx em sq pr hu
 ·exact chunks_true hS a x y z sp tx em sq pr hu
end
section
open Go.ChangeShapes Go.WideShapes Go.RowKit
open Go.ChangeMaps (open_string)
theorem chunks_lifted (os:Os) (started:os.Started) (H:Type) (enc:TypeId×Value→H):
  ReturnsInHanded {} Tryz.checked os 7 .any (fun w args=>(Rows.fnDiagChunksSpec.pre enc Tryz.prog Tryz.f7 [] false w args∧laidMetH Tryz.prog laidU w)∧sizedMet enc Tryz.prog Tryz.f7 (OpenSpec.ofChange Rows.fnDiagChunksSpec) false w args)
   (Rows.fnDiagChunksSpec.post enc Tryz.prog Tryz.f7 false true false false):=by
 refine lift_row os started enc (by kernel_rfl) Tryz.func7 rfl rfl ?_ ?_
  (ChangeSpec.witness_at (enc:=enc) (C:=Tryz.checked) (os:=os) (X:=fun w _=>laidMetH Tryz.prog laidU w) false (laidWorld os) #[.slice none 0 0,.bool false,.agg #[.int .i64 0,.bool false,.bool false,.bool false,.bool false,.bool false,.int .i64 0,.int .i64 0,.int .i64 0]] 8 rfl (by kernel_rfl) (by kernel_rfl) (by kernel_rfl) (by kernel_rfl) (by kernel_rfl) (laid_met os _)) ?_
 ·intro ds h
  rw [Tryz.params7] at h
  match ds,h with
  |[d1,d2,d3],_=>rfl
 ·rw [Tryz.params7]
  intro t ht
  have ht2:t=22∨t=4∨t=24:=by simpa using ht
  rcases ht2 with rfl|rfl|rfl
  all_goals exact ⟨by kernel_rfl,of_decide_eq_true (by kernel_rfl)⟩
 ·intro W base args ds ps hval hA hu
  rw [Tryz.params7] at hA hval
  obtain ⟨v0,v1,v2,d0,d1,d2,p0,p1,p2,rfl,rfl,rfl,h0,h1,h2⟩:=trodAll_three hA
  obtain ⟨ss,hS⟩:=open_strsN (hval 0 22 v0 rfl rfl) h0
  obtain ⟨b,rfl,_⟩:=open_bool Tryz.underlying4 (hval 1 4 v1 rfl rfl) h1
  obtain ⟨a,x,y,z,sp,tx,em,sq,pr,rfl⟩:=open_opts (hval 2 24 v2 rfl rfl) h2
  exact chunkslaw_any hS.strs b a x y z sp tx em sq pr hu
theorem chunks_f1:Tryz.prog.inPlace 7=Rows.fnDiagChunksRow.inPlace:=by kernel_rfl
theorem chunks_f2:Tryz.prog.unfollowed 7=Rows.fnDiagChunksRow.unfollowed:=by kernel_rfl
theorem chunks_f3:Tryz.prog.recurses 7=Rows.fnDiagChunksRow.recurses:=by kernel_rfl
theorem chunks_f4:Tryz.prog.varsNamed 7=Rows.fnDiagChunksRow.named:=by kernel_rfl
theorem chunks_facts:joinedFacts Tryz.prog 7 Tryz.f7 Rows.fnDiagChunksSpec Rows.fnDiagChunksRow=true:=by
 unfold joinedFacts
 rw [chunks_f1,chunks_f2,chunks_f3,chunks_f4,Tryz.mayEnter,Tryz.liftsFinal,Tryz.make,Tryz.mapsRowed,Tryz.plainKeys,Tryz.stopsHeard,Tryz.laidOut]
 kernel_rfl
theorem chunks_goes:false=Rows.fnDiagChunksRow.goesBy Tryz.prog:=by kernel_rfl
theorem chunks_name:Tryz.prog.funcNamed "pub-necessaire/laws.FnDiagChunks" =some 7:=by kernel_rfl
theorem chunks_row:Rows.FnDiagChunksSaid:=
 OpenClaim.holds_of_wide 7 Tryz.f7 rfl rfl rfl rfl rfl rfl rfl ⟨rfl,rfl,rfl,rfl,rfl⟩ rfl rfl rfl rfl rfl chunks_name Tryz.func7 chunks_facts
  (of_decide_eq_true (by kernel_rfl)) (by unfold Func.isWrapper;first|(rw [if_pos (by decide+kernel)];kernel_rfl)|(rw [if_neg (by decide+kernel)];exact ⟨rfl,rfl⟩))
  (fun os started H enc _=>chunks_lifted os started H enc)
theorem chunks_card:Rows.FnDiagChunksCardSaid:=
 Claim7.holds_tied_plain_at .later [] [.data,.pinned] true (true, "6290c9495f33fe9badd3dbfab1b5d898f91c774e4e5da1dae7cabe16e93ab7d6") true
  chunks_row (fun _ h=>by cases h) (by kernel_rfl) (fun _ h=>by cases h) fnDiagChunks_row_tie rfl ⟨rfl,rfl⟩ Tryz.mainIs rfl
  (fun f fn hf hfn=>by
   obtain rfl:f=7:=Option.some.inj (chunks_name.symm.trans hf)|>.symm
   obtain rfl:fn=Tryz.f7:=(Option.some.inj (Tryz.func7.symm.trans hfn)).symm
   exact ⟨by kernel_rfl,fun j t ht=>by
    rw [Tryz.params7] at ht
    rcases j with _|_|_|j
    ·have h3:t=22:=by simpa using ht.symm
     subst h3
     exact (show Tryz.prog.wantsStandIn 22=false by kernel_rfl)
    ·have h3:t=4:=by simpa using ht.symm
     subst h3
     exact (show Tryz.prog.wantsStandIn 4=false by kernel_rfl)
    ·have h3:t=24:=by simpa using ht.symm
     subst h3
     exact (show Tryz.prog.wantsStandIn 24=false by kernel_rfl)
    ·simp at ht⟩)
  chunks_goes
end
end Go.Proofs.YteodinhkhhaafaaGreatDoor
