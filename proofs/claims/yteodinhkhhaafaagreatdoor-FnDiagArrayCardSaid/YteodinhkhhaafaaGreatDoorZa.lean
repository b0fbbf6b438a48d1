/- FnDiagArray, its row and its card: for all parts and options the law returns true: the text of an array is that of its elements, in order, with a comma and a space between them, in brackets; an underscore follows the opening bracket if no length is told. -/
import Derived.Test.YteodinhkhhaafaaGreatDoorDbw
import Derived.Test.YteodinhkhhaafaaGreatDoorCards
import Derived.Test.YteodinhkhhaafaaGreatDoorTie
set_option linter.unusedVariables false
set_option linter.unusedSimpArgs false
set_option maxRecDepth 100000
set_option maxHeartbeats 6400000
namespace Go.Proofs.YteodinhkhhaafaaGreatDoor
section
open Go.RowKit
theorem array_any {w:World} {v:Value} {ss:List (List UInt8)} (hS:Strs w v ss) (op:Bool) (a x y z:Int) (sp tx em sq pr:Bool) (hu:U8 w):
  Calls Tryz.prog 3 #[v,.bool op,.agg #[.int .i64 a,.bool sp,.bool tx,.bool em,.bool sq,.bool pr,.int .i64 x,.int .i64 y,.int .i64 z]] w fun e w'=>e= .returned (.bool true)∧Fr [] w w':=by
 obtain ⟨k,hk,_,hk2⟩:=rem_nat a 4 (by decide) (by decide)
 have KO:=fun w=>optionsC a x y z sp tx em sq pr k hk2 w
 unfold diagOpts at KO
 replace KO:=Hz KO
 have KF:=Hz (fun W (hf:Fr [] w W)=>zzFits2 (hS.fr hf))
 by_cases hfit:Fits2 ss
 ·rw [decide_eq_true hfit] at KF
  have KN:=Hz (fun W (hf:Fr [] w W)=>notesW (hS.fr hf) (fun s hs=>Nat.le_trans (hfit.2 s hs) (by decide)) k sp tx em sq pr hk (hu.fr hf (by simp)))
  replace hu:=Hz hu
  replace hS:=Hz hS
  replace hfit:=Hz hfit
  go_enter Tryz.func3,Tryz.ntmps3
  go_wp2_with fail
  refine (KF.out _ ((Fr.refl _ _).alloc _)).mono ?_
  rintro e w1 ⟨rfl,hf1⟩
  have hF1:Fr [] w w1:=((Fr.refl _ _).alloc _).trans hf1
  have hb1:=hf1.blk (blk_new w _) (by simp)
  obtain ⟨⟨c0,c1,c2,c3,c4,c5,c6,c7,c8⟩,f0,f1,f2,f3,f4,f5,f6,f7,f8⟩:=cells9 hb1
  replace hb1:=Hz hb1
  go_wp2_with fail
  refine (KO.out _).mono ?_
  rintro e w2 ⟨rfl,hf2⟩
  have hF2:=hF1.trans hf2
  have hb2:=hf2.blk hb1.out (by simp)
  clear c0 c1 c2 c3 c4 c5 c6 c7 c8 f0 f1 f2 f3 f4 f5 f6 f7 f8
  obtain ⟨⟨c0,c1,c2,c3,c4,c5,c6,c7,c8⟩,f0,f1,f2,f3,f4,f5,f6,f7,f8⟩:=cells9 hb2
  have hF3:Hid (Fr [] w (put9 w2 w.heap.size (.int .i64 (k:Int)) (.bool sp) (.bool tx) (.bool em) (.bool sq) (.bool pr) (.int .i64 0) (.int .i64 0) (.int .i64 0))):=Hz (hF2.then_ (Fr.put9 _ _ _ _ _ _ _ _ _ _ _) (by simp))
  have hb3:Hid (OBlk (put9 w2 w.heap.size (.int .i64 (k:Int)) (.bool sp) (.bool tx) (.bool em) (.bool sq) (.bool pr) (.int .i64 0) (.int .i64 0) (.int .i64 0)) w.heap.size k sp tx em sq pr):=Hz (put9_blk hb2 _ _ _ _ _ _ _ _ _)
  replace hb2:=Hz hb2
  go_wp2_with fail
  refine (KN.out _ hF3.out).mono ?_
  rintro e w4 ⟨hf4,h4⟩
  have hF4:=hF3.out.trans hf4
  have hb4:=hb3.out.fr hf4
  clear c0 c1 c2 c3 c4 c5 c6 c7 c8 f0 f1 f2 f3 f4 f5 f6 f7 f8
  replace hF3:=Hz hF3
  cases hN:notesF ss with
  |none=>
   rw [hN] at h4
   dsimp only at h4
   subst h4
   clear hN
   go_wp2
   go_ret
   exact ⟨rfl,hF4⟩
  |some ts=>
   rw [hN] at h4
   obtain ⟨v4,rfl,hR4⟩:=h4
   have hS4:=hR4.strs
   have h8:ss.length≤8:=by
    unfold notesF at hN
    split at hN
    ·assumption
    ·cases hN
   have hP:PartsOK 20 ss ts:=by
    unfold notesF at hN
    rw [if_pos h8] at hN
    exact partsF_ok hN
   have hlt:=hP.len
   have hfl:=hP.flat
   have hhl:=headB_le 4 ss.length 0
   have e1:=arr_text (M:=⟨k,sp,tx,em,sq,pr⟩) (sq:=sq) hP h8
   have e2:=oarr_text (M:=⟨k,sp,tx,em,sq,pr⟩) (sq:=sq) hP h8
   have hroom:=join_room e1 (by rw [List.length_append];omega)
   have KD1:=diag_of hk (by rw [List.length_append];omega) e1
   have KD2:=diag_of hk (by rw [List.length_cons,List.length_append,List.length_singleton];omega) e2
   obtain ⟨J,hJ⟩: ∃J,joinS false 0 (ts.map (noteT ⟨k,sp,tx,em,sq,pr⟩))=J:=⟨_,rfl⟩
   have KJ: ∀W,Fr [] w4 W→Calls Tryz.prog 24 #[v4,.bool false] W fun e w'=>e= .returned (.string ⟨J.toArray⟩)∧Fr [] W w':=fun W hf=>by
    rw [←hJ]
    exact joined false (hS4.fr hf) (by rw [List.length_map];omega) (by omega)
   rw [hJ] at KD1 KD2 hroom
   have hv: ∃ao c,v4= .slice ao ss.length c:=by
    rcases hS4 with ⟨h0,ao,c,h⟩|⟨g,o,c,h,_⟩
    ·have h1:=congrArg List.length h0
     rw [List.length_map,hlt,List.length_nil] at h1
     exact ⟨ao,c,by rw [h1];exact h⟩
    ·exact ⟨_,c,by rw [h,List.length_map,hlt]⟩
   obtain ⟨ao,c,rfl⟩:=hv
   have KH:=Hz (fun w=>head 4 ss.length (by omega) (by omega) w)
   obtain ⟨F,hF⟩: ∃F,ss.flatten=F:=⟨_,rfl⟩
   rw [hF] at KD1 KD2 hfl
   obtain ⟨n,hn⟩: ∃n,ss.length=n:=⟨_,rfl⟩
   rw [hn] at KH KD1 KJ hhl hfl h8
   rw [hF,hn]
   obtain ⟨H,hH⟩: ∃H,headB 4 n 0=H:=⟨_,rfl⟩
   rw [hH] at KH KD1 hhl
   have g1:(⟨(H++F).toArray⟩:ByteArray)=⟨H.toArray⟩++⟨F.toArray⟩:=(mk_append _ _).symm
   have g2:(⟨(159::(F++[255])).toArray⟩:ByteArray)=⟨#[159]⟩++⟨F.toArray⟩++⟨#[255]⟩:=by
    rw [show (⟨#[159]⟩:ByteArray)=⟨([159]:List UInt8).toArray⟩ from rfl,show (⟨#[255]⟩:ByteArray)=⟨([255]:List UInt8).toArray⟩ from rfl,mk_append,mk_append]
    rfl
   have g3:(⟨([91]++(J++[93])).toArray⟩:ByteArray)=⟨#[91]⟩++⟨J.toArray⟩++⟨#[93]⟩:=by
    rw [show (⟨#[91]⟩:ByteArray)=⟨([91]:List UInt8).toArray⟩ from rfl,show (⟨#[93]⟩:ByteArray)=⟨([93]:List UInt8).toArray⟩ from rfl,mk_append,mk_append]
    rfl
   have g4:(⟨([91,95,32]++(J++[93])).toArray⟩:ByteArray)=⟨#[91,95,32]⟩++⟨J.toArray⟩++⟨#[93]⟩:=by
    rw [show (⟨#[91,95,32]⟩:ByteArray)=⟨([91,95,32]:List UInt8).toArray⟩ from rfl,show (⟨#[93]⟩:ByteArray)=⟨([93]:List UInt8).toArray⟩ from rfl,mk_append,mk_append]
    rfl
   rw [g1,g3] at KD1
   rw [g2,g4] at KD2
   have gu:IntKind.u64.wrap (n:Int)=(n:Int):=by show (n:Int)%18446744073709551616=_;omega
   have q1: ¬9223372036854775807<1+J.length:=by omega
   have q2: ¬9223372036854775807<1+J.length+1:=by omega
   have q3: ¬9223372036854775807<1+F.length:=by omega
   have q4: ¬9223372036854775807<1+F.length+1:=by omega
   have q5: ¬9223372036854775807<3+J.length:=by omega
   have q6: ¬9223372036854775807<3+J.length+1:=by omega
   have q7: ¬9223372036854775807<H.length+F.length:=by omega
   have hbb: ∀b:ByteArray,(b==b)=true:=ba_self
   replace KJ:=Hz KJ
   replace KD1:=Hz KD1
   replace KD2:=Hz KD2
   replace hb4:=Hz hb4
   clear hN hP hlt hfl hhl e1 e2 hroom g1 g2 g3 g4 hJ hF hn hH h8 hS4 hR4
   go_wp2_with fail
   refine (KJ.out _ (Fr.refl _ _)).mono ?_
   rintro e w5 ⟨rfl,hf5⟩
   have hF5:=hF4.trans hf5
   have hb5:=hb4.out.fr hf5
   replace hb5:=Hz hb5
   cases op with
   |true=>
    go_wp2_with fail
    refine (KJ.out _ hf5).mono ?_
    rintro e w6 ⟨rfl,hf6⟩
    have hF6:=hF5.trans hf6
    obtain ⟨⟨c0,c1,c2,c3,c4,c5,c6,c7,c8⟩,_⟩:=cells9 (hb5.out.fr hf6)
    go_wp2_with fail
    refine (KD2.out _ (hu.out.fr hF6 (by simp))).mono ?_
    rintro e w7 ⟨rfl,hf7⟩
    go_wp2
    go_ret
    exact ⟨rfl,hF6.trans hf7⟩
   |false=>
    go_wp2_with fail
    refine (KH.out _).mono ?_
    rintro e w6 ⟨rfl,hf6⟩
    have hF6:=hF5.trans hf6
    obtain ⟨⟨c0,c1,c2,c3,c4,c5,c6,c7,c8⟩,_⟩:=cells9 (hb5.out.fr hf6)
    go_wp2_with fail
    refine (KD1.out _ (hu.out.fr hF6 (by simp))).mono ?_
    rintro e w7 ⟨rfl,hf7⟩
    go_wp2
    go_ret
    exact ⟨rfl,hF6.trans hf7⟩
 ·rw [decide_eq_false hfit] at KF
  go_enter Tryz.func3,Tryz.ntmps3
  go_wp2_with fail
  refine (KF.out _ ((Fr.refl _ _).alloc _)).mono ?_
  rintro e w1 ⟨rfl,hf1⟩
  go_wp2
  go_ret
  exact ⟨rfl,((Fr.refl _ _).alloc _).trans hf1⟩
end
section
open Go.ChangeShapes Go.WideShapes Go.RowKit
open Go.ChangeMaps (open_string)
theorem array_lifted (os:Os) (started:os.Started) (H:Type) (enc:TypeId×Value→H):
  ReturnsInHanded {} Tryz.checked os 3 .any (fun w args=>(Rows.fnDiagArraySpec.pre enc Tryz.prog Tryz.f3 [] false w args∧laidMetH Tryz.prog laidU w)∧sizedMet enc Tryz.prog Tryz.f3 (OpenSpec.ofChange Rows.fnDiagArraySpec) false w args)
   (Rows.fnDiagArraySpec.post enc Tryz.prog Tryz.f3 false true false false):=by
 refine lift_row os started enc (by kernel_rfl) Tryz.func3 rfl rfl ?_ ?_
  (ChangeSpec.witness_at (enc:=enc) (C:=Tryz.checked) (os:=os) (X:=fun w _=>laidMetH Tryz.prog laidU w) false (laidWorld os) #[.slice none 0 0,.bool false,.agg #[.int .i64 0,.bool false,.bool false,.bool false,.bool false,.bool false,.int .i64 0,.int .i64 0,.int .i64 0]] 8 rfl (by kernel_rfl) (by kernel_rfl) (by kernel_rfl) (by kernel_rfl) (by kernel_rfl) (laid_met os _)) ?_
 ·intro ds h
  rw [Tryz.params3] at h
  match ds,h with
  |[d1,d2,d3],_=>rfl
 ·rw [Tryz.params3]
  intro t ht
  have ht2:t=22∨t=4∨t=24:=by simpa using ht
  rcases ht2 with rfl|rfl|rfl
  all_goals exact ⟨by kernel_rfl,of_decide_eq_true (by kernel_rfl)⟩
 ·intro W base args ds ps hval hA hu
  rw [Tryz.params3] at hA hval
  obtain ⟨v0,v1,v2,d0,d1,d2,p0,p1,p2,rfl,rfl,rfl,h0,h1,h2⟩:=trodAll_three hA
  obtain ⟨ss,hS⟩:=open_strsN (hval 0 22 v0 rfl rfl) h0
  obtain ⟨b,rfl,_⟩:=open_bool Tryz.underlying4 (hval 1 4 v1 rfl rfl) h1
  obtain ⟨a,x,y,z,sp,tx,em,sq,pr,rfl⟩:=open_opts (hval 2 24 v2 rfl rfl) h2
  exact array_any hS.strs b a x y z sp tx em sq pr hu
theorem array_f1:Tryz.prog.inPlace 3=Rows.fnDiagArrayRow.inPlace:=by kernel_rfl
theorem array_f2:Tryz.prog.unfollowed 3=Rows.fnDiagArrayRow.unfollowed:=by kernel_rfl
theorem array_f3:Tryz.prog.recurses 3=Rows.fnDiagArrayRow.recurses:=by kernel_rfl
theorem array_f4:Tryz.prog.varsNamed 3=Rows.fnDiagArrayRow.named:=by kernel_rfl
theorem array_facts:joinedFacts Tryz.prog 3 Tryz.f3 Rows.fnDiagArraySpec Rows.fnDiagArrayRow=true:=by
 unfold joinedFacts
 rw [array_f1,array_f2,array_f3,array_f4,Tryz.mayEnter,Tryz.liftsFinal,Tryz.make,Tryz.mapsRowed,Tryz.plainKeys,Tryz.stopsHeard,Tryz.laidOut]
 kernel_rfl
theorem array_goes:false=Rows.fnDiagArrayRow.goesBy Tryz.prog:=by kernel_rfl
theorem array_name:Tryz.prog.funcNamed "pub-necessaire/laws.FnDiagArray" =some 3:=by kernel_rfl
theorem array_row:Rows.FnDiagArraySaid:=
 OpenClaim.holds_of_wide 3 Tryz.f3 rfl rfl rfl rfl rfl rfl rfl ⟨rfl,rfl,rfl,rfl,rfl⟩ rfl rfl rfl rfl rfl array_name Tryz.func3 array_facts
  (of_decide_eq_true (by kernel_rfl)) (by unfold Func.isWrapper;first|(rw [if_pos (by decide+kernel)];kernel_rfl)|(rw [if_neg (by decide+kernel)];exact ⟨rfl,rfl⟩))
  (fun os started H enc _=>array_lifted os started H enc)
theorem array_card:Rows.FnDiagArrayCardSaid:=
 Claim7.holds_tied_plain_at .later [] [.data,.pinned] true (true, "6290c9495f33fe9badd3dbfab1b5d898f91c774e4e5da1dae7cabe16e93ab7d6") true
  array_row (fun _ h=>by cases h) (by kernel_rfl) (fun _ h=>by cases h) fnDiagArray_row_tie rfl ⟨rfl,rfl⟩ Tryz.mainIs rfl
  (fun f fn hf hfn=>by
   obtain rfl:f=3:=Option.some.inj (array_name.symm.trans hf)|>.symm
   obtain rfl:fn=Tryz.f3:=(Option.some.inj (Tryz.func3.symm.trans hfn)).symm
   exact ⟨by kernel_rfl,fun j t ht=>by
    rw [Tryz.params3] at ht
    rcases j with _|_|_|j
    ·have h3:t=22:=by simpa using ht.symm
     subst h3
     exact (show Tryz.prog.wantsStandIn 22=false by kernel_rfl)
    ·have h3:t=4:=by simpa using ht.symm
     subst h3
     exact (show Tryz.prog.wantsStandIn 4=false by kernel_rfl)
    ·have h3:t=24:=by simpa using ht.symm
     subst h3
     exact (show Tryz.prog.wantsStandIn 24=false by kernel_rfl)
    ·simp at ht⟩)
  array_goes
end
end Go.Proofs.YteodinhkhhaafaaGreatDoor
