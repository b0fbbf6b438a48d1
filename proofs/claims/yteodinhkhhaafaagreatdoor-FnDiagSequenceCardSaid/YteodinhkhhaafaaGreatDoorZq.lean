/- FnDiagSequence, its row and its card: for all parts and options the law returns true: with sequences the text of several items is that of each, with a comma and a space between them; without them, more than one item is an error. -/
import Derived.Test.YteodinhkhhaafaaGreatDoorDbw
import Derived.Test.YteodinhkhhaafaaGreatDoorCards
import Derived.Test.YteodinhkhhaafaaGreatDoorTie
set_option linter.unusedVariables false
set_option linter.unusedSimpArgs false
set_option maxRecDepth 100000
set_option maxHeartbeats 6400000
namespace Go.Proofs.YteodinhkhhaafaaGreatDoor
section
open Go.RowKit
theorem sequence_any {w:World} {v:Value} {ss:List (List UInt8)} (hS:Strs w v ss) (a x y z:Int) (sp tx em sq pr:Bool) (hu:U8 w):
  Calls Tryz.prog 14 #[v,.agg #[.int .i64 a,.bool sp,.bool tx,.bool em,.bool sq,.bool pr,.int .i64 x,.int .i64 y,.int .i64 z]] w fun e w'=>e= .returned (.bool true)∧Fr [] w w':=by
 obtain ⟨k,hk,_,hk2⟩:=rem_nat a 4 (by decide) (by decide)
 have KO:=fun w=>optionsC a x y z sp tx em sq pr k hk2 w
 unfold diagOpts at KO
 replace KO:=Hz KO
 have KF:=Hz (fun W (hf:Fr [] w W)=>zzFits2 (hS.fr hf))
 by_cases hfit:Fits2 ss
 ·rw [decide_eq_true hfit] at KF
  have KN:=Hz (fun W (hf:Fr [] w W)=>notesW (hS.fr hf) (fun s hs=>Nat.le_trans (hfit.2 s hs) (by decide)) k sp tx em false pr hk (hu.fr hf (by simp)))
  replace hu:=Hz hu
  replace hS:=Hz hS
  replace hfit:=Hz hfit
  go_enter Tryz.func14,Tryz.ntmps14
  go_wp2_with fail
  refine (KF.out _ ((Fr.refl _ _).alloc _)).mono ?_
  rintro e w1 ⟨rfl,hf1⟩
  have hF1:Fr [] w w1:=((Fr.refl _ _).alloc _).trans hf1
  have hb1:=hf1.blk (blk_new w _) (by simp)
  obtain ⟨⟨c0,c1,c2,c3,c4,c5,c6,c7,c8⟩,f0,f1,f2,f3,f4,f5,f6,f7,f8⟩:=cells9 hb1
  replace hb1:=Hz hb1
  go_wp2_with fail
  refine (KO.out _).mono ?_
  rintro e w2 ⟨rfl,hf2⟩
  have hF2:=hF1.trans hf2
  have hb2:=hf2.blk hb1.out (by simp)
  clear c0 c1 c2 c3 c4 c5 c6 c7 c8 f0 f1 f2 f3 f4 f5 f6 f7 f8
  obtain ⟨⟨c0,c1,c2,c3,c4,c5,c6,c7,c8⟩,f0,f1,f2,f3,f4,f5,f6,f7,f8⟩:=cells9 hb2
  have hF3:Hid (Fr [] w ((put9 w2 w.heap.size (.int .i64 (k:Int)) (.bool sp) (.bool tx) (.bool em) (.bool sq) (.bool pr) (.int .i64 0) (.int .i64 0) (.int .i64 0)).setCell ⟨w.heap.size,4,none⟩ (.bool false))):=Hz ((hF2.then_ (Fr.put9 _ _ _ _ _ _ _ _ _ _ _) (by simp)).setCell (.inr (by simp)) _)
  have hb3:Hid (OBlk ((put9 w2 w.heap.size (.int .i64 (k:Int)) (.bool sp) (.bool tx) (.bool em) (.bool sq) (.bool pr) (.int .i64 0) (.int .i64 0) (.int .i64 0)).setCell ⟨w.heap.size,4,none⟩ (.bool false)) w.heap.size k sp tx em false pr):=Hz (blk_setCell (put9_blk hb2 _ _ _ _ _ _ _ _ _) 4 _)
  have hlt2:=blk_lt' hb2
  replace hb2:=Hz hb2
  go_upto_region 5 with fail
  replace hF3:Hid (Fr [] w ((((((((((w2.setCell ⟨w.heap.size,0,none⟩ (.int .i64 (k:Int))).setCell ⟨w.heap.size,1,none⟩ (.bool sp)).setCell ⟨w.heap.size,2,none⟩ (.bool tx)).setCell ⟨w.heap.size,3,none⟩ (.bool em)).setCell ⟨w.heap.size,4,none⟩ (.bool sq)).setCell ⟨w.heap.size,5,none⟩ (.bool pr)).setCell ⟨w.heap.size,6,none⟩ (.int .i64 0)).setCell ⟨w.heap.size,7,none⟩ (.int .i64 0)).setCell ⟨w.heap.size,8,none⟩ (.int .i64 0)).setCell ⟨w.heap.size,4,none⟩ (.bool false))):=hF3
  replace hb3:Hid (OBlk ((((((((((w2.setCell ⟨w.heap.size,0,none⟩ (.int .i64 (k:Int))).setCell ⟨w.heap.size,1,none⟩ (.bool sp)).setCell ⟨w.heap.size,2,none⟩ (.bool tx)).setCell ⟨w.heap.size,3,none⟩ (.bool em)).setCell ⟨w.heap.size,4,none⟩ (.bool sq)).setCell ⟨w.heap.size,5,none⟩ (.bool pr)).setCell ⟨w.heap.size,6,none⟩ (.int .i64 0)).setCell ⟨w.heap.size,7,none⟩ (.int .i64 0)).setCell ⟨w.heap.size,8,none⟩ (.int .i64 0)).setCell ⟨w.heap.size,4,none⟩ (.bool false)) w.heap.size k sp tx em false pr):=hb3
  clear c0 c1 c2 c3 c4 c5 c6 c7 c8 f0 f1 f2 f3 f4 f5 f6 f7 f8
  generalize (((((((((w2.setCell ⟨w.heap.size,0,none⟩ (.int .i64 (k:Int))).setCell ⟨w.heap.size,1,none⟩ (.bool sp)).setCell ⟨w.heap.size,2,none⟩ (.bool tx)).setCell ⟨w.heap.size,3,none⟩ (.bool em)).setCell ⟨w.heap.size,4,none⟩ (.bool sq)).setCell ⟨w.heap.size,5,none⟩ (.bool pr)).setCell ⟨w.heap.size,6,none⟩ (.int .i64 0)).setCell ⟨w.heap.size,7,none⟩ (.int .i64 0)).setCell ⟨w.heap.size,8,none⟩ (.int .i64 0)).setCell ⟨w.heap.size,4,none⟩ (.bool false)=w3 at *
  obtain ⟨⟨c0,c1,c2,c3,c4,c5,c6,c7,c8⟩,f0,f1,f2,f3,f4,f5,f6,f7,f8⟩:=cells9 hb3.out
  go_wp2_with fail
  refine (KN.out _ hF3.out).mono ?_
  rintro e w4 ⟨hf4,h4⟩
  have hF4:=hF3.out.trans hf4
  have hb4:=hb3.out.fr hf4
  clear c0 c1 c2 c3 c4 c5 c6 c7 c8 f0 f1 f2 f3 f4 f5 f6 f7 f8
  replace hF3:=Hz hF3
  cases hN:notesF ss with
  |none=>
   rw [hN] at h4
   dsimp only at h4
   subst h4
   clear hN
   go_wp2
   go_ret
   exact ⟨rfl,hF4⟩
  |some ts=>
   rw [hN] at h4
   obtain ⟨v4,rfl,hR4⟩:=h4
   have hS4:=hR4.strs
   have h8:ss.length≤8:=by
    unfold notesF at hN
    split at hN
    ·assumption
    ·cases hN
   have hP:PartsOK 20 ss ts:=by
    unfold notesF at hN
    rw [if_pos h8] at hN
    exact partsF_ok hN
   have hlt:=hP.len
   have hfl:=hP.flat
   have hroom2:=fun h0=>join_room (a:=[]) (b:=[]) (show diagR L0 ⟨k,sp,tx,em,true,pr⟩ true ss.flatten=txt ([]++(joinS false 0 (ts.map (noteT ⟨k,sp,tx,em,true,pr⟩))++[])) by rw [List.nil_append,List.append_nil];exact seq_text hP h8 h0) (by omega)
   have e2:=fun h0=>seq_text (M:=⟨k,sp,tx,em,true,pr⟩) hP h8 h0
   have hsq:noteT ⟨k,sp,tx,em,true,pr⟩=noteT ⟨k,sp,tx,em,false,pr⟩:=by funext t;exact noteT_sq k sp tx em true false pr t
   rw [hsq] at hroom2 e2
   have hbb: ∀b:ByteArray,(b==b)=true:=ba_self
   cases ss with
   |nil=>
    obtain rfl:ts=[]:=List.eq_nil_of_length_eq_zero hlt
    obtain ⟨ao,c,rfl⟩: ∃ao c,v4= .slice ao 0 c:=by
     rcases hS4 with ⟨_,ao,c,h⟩|⟨g,o,c,h,_⟩
     ·exact ⟨ao,c,h⟩
     ·exact ⟨_,c,h⟩
    clear hN hP hlt hfl hroom2 e2 hsq hS4
    go_wp2
    go_ret
    exact ⟨rfl,hF4⟩
   |cons p ps=>
    replace hroom2:=hroom2 (by simp)
    replace e2:=e2 (by simp)
    cases ts with
    |nil=>exact hP.elim
    |cons t ts=>
    have KD2:=diag_of hk (by omega) e2
    obtain ⟨J,hJ⟩: ∃J,joinS false 0 ((t::ts).map (noteT ⟨k,sp,tx,em,false,pr⟩))=J:=⟨_,rfl⟩
    have hlow:w.heap.size<w3.heap.size+1:=by
     have:=hF3.out.size
     omega
    have KJ: ∀W,Fr [w.heap.size] w4 W→Calls Tryz.prog 24 #[v4,.bool false] W fun e w'=>e= .returned (.string ⟨J.toArray⟩)∧Fr [] W w':=fun W hf=>by
     rw [←hJ]
     exact joined false (hR4.fr hf (by simpa using hlow)).strs (by rw [List.length_map];simp at hlt h8 ⊢;omega) (by omega)
    rw [hJ] at KD2
    obtain ⟨⟨c0,c1,c2,c3,c4,c5,c6,c7,c8⟩,f0,f1,f2,f3,f4,f5,f6,f7,f8⟩:=cells9 hb4
    cases ps with
    |nil=>
     obtain rfl:ts=[]:=List.eq_nil_of_length_eq_zero (by simpa using hlt)
     have KD1:=diag_of (sq:=false) hk (by have:=hP.1.len;omega) (item_text (M:=⟨k,sp,tx,em,false,pr⟩) (sq:=false) hP.1 (by omega))
     rw [List.flatten_cons,List.flatten_nil,List.append_nil] at KD2 ⊢
     obtain ⟨NT,hNT⟩: ∃NT,noteT ⟨k,sp,tx,em,false,pr⟩ t=NT:=⟨_,rfl⟩
     rw [hNT] at KD1
     obtain ⟨g,o,c,rfl,_,hcell⟩: ∃g o c,v4= .slice (some ⟨g,o,none⟩) 1 c∧1≤c∧ ∀W,Fr [w.heap.size] w4 W→W.cell? ⟨g,o,none⟩=some (.string ⟨NT.toArray⟩):=by
      rcases hS4 with ⟨h0,_⟩|⟨g,o,c,h1,h2,h3⟩
      ·cases h0
      ·refine ⟨g,o,c,h1,h2,fun W hf=> ?_⟩
       rcases (hR4.fr hf (by simpa using hlow)).strs with ⟨h0,_⟩|⟨g',o',c',h1',h2',h3'⟩
       ·cases h0
       ·rw [h1] at h1'
        cases h1'
        rw [←hNT]
        exact h3' 0 (by simp)
     replace hcell:=Hz hcell
     replace KJ:=Hz KJ
     replace KD1:=Hz KD1
     replace KD2:=Hz KD2
     clear hN hP hlt hfl hroom2 e2 hsq hS4 hR4 hJ hNT h8
     replace hb4:=Hz hb4
     go_wp2_with fail
     refine (KD1.out _ (hu.out.fr hF4 (by simp))).mono ?_
     rintro e w5 ⟨rfl,hf5⟩
     have hF5:=hF4.trans hf5
     have hb5:=hb4.out.fr hf5
     clear c0 c1 c2 c3 c4 c5 c6 c7 c8 f0 f1 f2 f3 f4 f5 f6 f7 f8
     obtain ⟨⟨c0,c1,c2,c3,c4,c5,c6,c7,c8⟩,f0,f1,f2,f3,f4,f5,f6,f7,f8⟩:=cells9 hb5
     have hF6:Hid (Fr [] w (w5.setCell ⟨w.heap.size,4,none⟩ (.bool true))):=Hz (hF5.setCell (.inr (by simp)) _)
     have hf6:Hid (Fr [w.heap.size] w4 (w5.setCell ⟨w.heap.size,4,none⟩ (.bool true))):=Hz ((hf5.mono (by simp)).setCell (.inl (by simp)) _)
     go_wp2_with fail
     refine (KD2.out _ (hu.out.fr hF6.out (by simp))).mono ?_
     rintro e w7 ⟨rfl,hf7⟩
     have hf47:=hf6.out.trans (hf7.mono (by simp))
     go_wp2_with fail
     refine (KJ.out _ hf47).mono ?_
     rintro e w8 ⟨rfl,hf8⟩
     have hc8:=hcell.out _ (hf47.trans (hf8.mono (by simp)))
     go_wp2
     go_ret
     exact ⟨rfl,(hF6.out.trans hf7).trans hf8⟩
    |cons q qs=>
     cases ts with
     |nil=>exact hP.2.elim
     |cons u us=>
     have e3:=seq_more (M:=⟨k,sp,tx,em,false,pr⟩) hP h8
     have KD1:=implDiag_any (xs:=(p::q::qs).flatten) (M:=⟨k,sp,tx,em,false,pr⟩) (n:=0) (L:=L0) (.inl ⟨rfl,rfl⟩) hk (by omega)
     dsimp only at KD1
     rw [e3,show ans (([],some 4):R)=([],4) from rfl] at KD1
     unfold diagOpts at KD1
     obtain ⟨ao,c,rfl⟩: ∃ao c,v4= .slice ao (qs.length+2) c:=by
      rcases hS4 with ⟨h0,_⟩|⟨g,o,c,h,_⟩
      ·cases h0
      ·refine ⟨some ⟨g,o,none⟩,c,?_⟩
       rw [h,List.length_map,hlt]
       rfl
     obtain ⟨n,hn⟩: ∃n,qs.length+2=n:=⟨_,rfl⟩
     obtain ⟨F,hF⟩: ∃F,(p::q::qs).flatten=F:=⟨_,rfl⟩
     rw [hF] at KD1 KD2 ⊢
     rw [hn] at KJ ⊢
     have t0:((n:Int)==0)=false:=by simp;omega
     have t1:((n:Int)==1)=false:=by simp;omega
     have t2:(1:Int)<(n:Int):=by omega
     replace KJ:=Hz KJ
     replace KD1:=Hz KD1
     replace KD2:=Hz KD2
     clear hN hP hlt hfl hroom2 e2 hsq hS4 hR4 hJ h8 e3 hn hF
     replace hb4:=Hz hb4
     go_wp2_with fail
     refine (KD1.out _ (hu.out.fr hF4 (by simp))).mono ?_
     rintro e w5 ⟨rfl,hf5⟩
     have hF5:=hF4.trans hf5
     have hb5:=hb4.out.fr hf5
     clear c0 c1 c2 c3 c4 c5 c6 c7 c8 f0 f1 f2 f3 f4 f5 f6 f7 f8
     obtain ⟨⟨c0,c1,c2,c3,c4,c5,c6,c7,c8⟩,f0,f1,f2,f3,f4,f5,f6,f7,f8⟩:=cells9 hb5
     have hF6:Hid (Fr [] w (w5.setCell ⟨w.heap.size,4,none⟩ (.bool true))):=Hz (hF5.setCell (.inr (by simp)) _)
     have hf6:Hid (Fr [w.heap.size] w4 (w5.setCell ⟨w.heap.size,4,none⟩ (.bool true))):=Hz ((hf5.mono (by simp)).setCell (.inl (by simp)) _)
     go_wp2_with fail
     refine (KD2.out _ (hu.out.fr hF6.out (by simp))).mono ?_
     rintro e w7 ⟨rfl,hf7⟩
     have hf47:=hf6.out.trans (hf7.mono (by simp))
     go_wp2_with fail
     refine (KJ.out _ hf47).mono ?_
     rintro e w8 ⟨rfl,hf8⟩
     go_wp2
     go_ret
     exact ⟨rfl,(hF6.out.trans hf7).trans hf8⟩
 ·rw [decide_eq_false hfit] at KF
  go_enter Tryz.func14,Tryz.ntmps14
  go_wp2_with fail
  refine (KF.out _ ((Fr.refl _ _).alloc _)).mono ?_
  rintro e w1 ⟨rfl,hf1⟩
  go_wp2
  go_ret
  exact ⟨rfl,((Fr.refl _ _).alloc _).trans hf1⟩
end
section
open Go.ChangeShapes Go.WideShapes Go.RowKit
open Go.ChangeMaps (open_string)
theorem sequence_lifted (os:Os) (started:os.Started) (H:Type) (enc:TypeId×Value→H):
  ReturnsInHanded {} Tryz.checked os 14 .any (fun w args=>(Rows.fnDiagSequenceSpec.pre enc Tryz.prog Tryz.f14 [] false w args∧laidMetH Tryz.prog laidU w)∧sizedMet enc Tryz.prog Tryz.f14 (OpenSpec.ofChange Rows.fnDiagSequenceSpec) false w args)
   (Rows.fnDiagSequenceSpec.post enc Tryz.prog Tryz.f14 false true false false):=by
 refine lift_row os started enc (by kernel_rfl) Tryz.func14 rfl rfl ?_ ?_
  (ChangeSpec.witness_at (enc:=enc) (C:=Tryz.checked) (os:=os) (X:=fun w _=>laidMetH Tryz.prog laidU w) false (laidWorld os) #[.slice none 0 0,.agg #[.int .i64 0,.bool false,.bool false,.bool false,.bool false,.bool false,.int .i64 0,.int .i64 0,.int .i64 0]] 8 rfl (by kernel_rfl) (by kernel_rfl) (by kernel_rfl) (by kernel_rfl) (by kernel_rfl) (laid_met os _)) ?_
 ·intro ds h
  rw [Tryz.params14] at h
  match ds,h with
  |[d1,d2],_=>rfl
 ·rw [Tryz.params14]
  intro t ht
  have ht2:t=22∨t=24:=by simpa using ht
  rcases ht2 with rfl|rfl
  all_goals exact ⟨by kernel_rfl,of_decide_eq_true (by kernel_rfl)⟩
 ·intro W base args ds ps hval hA hu
  rw [Tryz.params14] at hA hval
  obtain ⟨v0,v1,d0,d1,p0,p1,rfl,rfl,rfl,h0,h1⟩:=trodAll_two hA
  obtain ⟨ss,hS⟩:=open_strsN (hval 0 22 v0 rfl rfl) h0
  obtain ⟨a,x,y,z,sp,tx,em,sq,pr,rfl⟩:=open_opts (hval 1 24 v1 rfl rfl) h1
  exact sequence_any hS.strs a x y z sp tx em sq pr hu
theorem sequence_f1:Tryz.prog.inPlace 14=Rows.fnDiagSequenceRow.inPlace:=by kernel_rfl
theorem sequence_f2:Tryz.prog.unfollowed 14=Rows.fnDiagSequenceRow.unfollowed:=by kernel_rfl
theorem sequence_f3:Tryz.prog.recurses 14=Rows.fnDiagSequenceRow.recurses:=by kernel_rfl
theorem sequence_f4:Tryz.prog.varsNamed 14=Rows.fnDiagSequenceRow.named:=by kernel_rfl
theorem sequence_facts:joinedFacts Tryz.prog 14 Tryz.f14 Rows.fnDiagSequenceSpec Rows.fnDiagSequenceRow=true:=by
 unfold joinedFacts
 rw [sequence_f1,sequence_f2,sequence_f3,sequence_f4,Tryz.mayEnter,Tryz.liftsFinal,Tryz.make,Tryz.mapsRowed,Tryz.plainKeys,Tryz.stopsHeard,Tryz.laidOut]
 kernel_rfl
theorem sequence_goes:false=Rows.fnDiagSequenceRow.goesBy Tryz.prog:=by kernel_rfl
theorem sequence_name:Tryz.prog.funcNamed "pub-necessaire/laws.FnDiagSequence" =some 14:=by kernel_rfl
theorem sequence_row:Rows.FnDiagSequenceSaid:=
 OpenClaim.holds_of_wide 14 Tryz.f14 rfl rfl rfl rfl rfl rfl rfl ⟨rfl,rfl,rfl,rfl,rfl⟩ rfl rfl rfl rfl rfl sequence_name Tryz.func14 sequence_facts
  (of_decide_eq_true (by kernel_rfl)) (by unfold Func.isWrapper;first|(rw [if_pos (by decide+kernel)];kernel_rfl)|(rw [if_neg (by decide+kernel)];exact ⟨rfl,rfl⟩))
  (fun os started H enc _=>sequence_lifted os started H enc)
theorem sequence_card:Rows.FnDiagSequenceCardSaid:=
 Claim7.holds_tied_plain_at .later [] [.data,.pinned] true (true, "6290c9495f33fe9badd3dbfab1b5d898f91c774e4e5da1dae7cabe16e93ab7d6") true
  sequence_row (fun _ h=>by cases h) (by kernel_rfl) (fun _ h=>by cases h) fnDiagSequence_row_tie rfl ⟨rfl,rfl⟩ Tryz.mainIs rfl
  (fun f fn hf hfn=>by
   obtain rfl:f=14:=Option.some.inj (sequence_name.symm.trans hf)|>.symm
   obtain rfl:fn=Tryz.f14:=(Option.some.inj (Tryz.func14.symm.trans hfn)).symm
   exact ⟨by kernel_rfl,fun j t ht=>by
    rw [Tryz.params14] at ht
    rcases j with _|_|j
    ·have h3:t=22:=by simpa using ht.symm
     subst h3
     exact (show Tryz.prog.wantsStandIn 22=false by kernel_rfl)
    ·have h3:t=24:=by simpa using ht.symm
     subst h3
     exact (show Tryz.prog.wantsStandIn 24=false by kernel_rfl)
    ·simp at ht⟩)
  sequence_goes
end
end Go.Proofs.YteodinhkhhaafaaGreatDoor
