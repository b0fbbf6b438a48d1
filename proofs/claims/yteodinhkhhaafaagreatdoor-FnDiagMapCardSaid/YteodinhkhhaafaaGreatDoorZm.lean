/- FnDiagMap, its row and its card: for all parts and options the law returns true: the text of a map is that of its keys and values, in the order in which they are encoded, in braces; an underscore follows the opening brace if no length is told. -/
import Derived.Test.YteodinhkhhaafaaGreatDoorDbw
import Derived.Test.YteodinhkhhaafaaGreatDoorCards
import Derived.Test.YteodinhkhhaafaaGreatDoorTie
set_option linter.unusedVariables false
set_option linter.unusedSimpArgs false
set_option maxRecDepth 100000
set_option maxHeartbeats 6400000
namespace Go.Proofs.YteodinhkhhaafaaGreatDoor
section
open Go.RowKit
theorem fits_takeM {ss:List (List UInt8)} (h:Fits2 ss) (m:Nat):Fits2 (ss.take m):=
 ⟨by rw [List.length_take];have:=h.1;omega,fun s hs=>h.2 s (List.mem_of_mem_take hs)⟩
theorem map_any {w:World} {v:Value} {ss:List (List UInt8)} (hS:StrsN w v ss) (op:Bool) (a x y z:Int) (sp tx em sq pr:Bool) (hu:U8 w):
  Calls Tryz.prog 12 #[v,.bool op,.agg #[.int .i64 a,.bool sp,.bool tx,.bool em,.bool sq,.bool pr,.int .i64 x,.int .i64 y,.int .i64 z]] w fun e w'=>e= .returned (.bool true)∧Fr [] w w':=by
 obtain ⟨k,hk,_,hk2⟩:=rem_nat a 4 (by decide) (by decide)
 have KO:=fun w=>optionsC a x y z sp tx em sq pr k hk2 w
 unfold diagOpts at KO
 replace KO:=Hz KO
 have KF:=Hz (fun W (hf:Fr [] w W)=>zzFits2 (hS.fr hf).strs)
 by_cases hfit:Fits2 ss
 ·rw [decide_eq_true hfit] at KF
  obtain ⟨m,hm⟩: ∃m,m=ss.length/2*2:=⟨_,rfl⟩
  obtain ⟨ao,n,c,rfl,hn,hc,hT⟩: ∃ao n c,v= .slice ao n c∧n=ss.length∧n≤c∧ ∀W,Fr [] w W→Strs W (.slice ao m c) (ss.take m):=by
   rcases hS with ⟨h0,ao,h⟩|⟨g,o,c,h,hc,h3⟩
   ·refine ⟨ao,0,0,h,by rw [h0];rfl,Nat.le_refl _,fun W _=> .inl ⟨by rw [h0];simp,ao,0,?_⟩⟩
    rw [hm,h0]
    rfl
   ·exact ⟨_,_,c,h,rfl,hc,fun W hf=>strs_take hc (fun j hj=>hf.cell (h3 j hj) (by simp)) m (by omega)⟩
  have KN:=Hz (fun W (hf:Fr [] w W)=>notesW (hT W hf) (fun s hs=>Nat.le_trans ((fits_takeM hfit m).2 s hs) (by decide)) k sp tx em sq pr hk (hu.fr hf (by simp)))
  have hml:(ss.take m).length=m:=by rw [List.length_take];omega
  have hm2:m%2=0:=by omega
  have hmn:m≤n:=by omega
  have hnl:n≤2147483647:=by rw [hn];exact hfit.1
  obtain ⟨h,hh⟩: ∃h,h=n/2:=⟨_,rfl⟩
  have gt:Int.tdiv (n:Int) 2=(h:Int):=by rw [Int.tdiv_eq_ediv_of_nonneg (by omega)];omega
  have ge:(n:Int)/2=(h:Int):=by omega
  have gh:IntKind.i64.wrap (h:Int)=(h:Int):=IntWalk.i64_in _ (by omega)
  have gm2:(h:Int)*2=(m:Int):=by omega
  have b2:(m:Int)≤(c:Int):=by omega
  have b3:(0:Int)≤(m:Int):=by omega
  have b4:IntKind.i64.wrap (m:Int)=(m:Int):=IntWalk.i64_in _ (by omega)
  clear hh
  obtain ⟨qs,hqs⟩: ∃qs,ss.take m=qs:=⟨_,rfl⟩
  rw [hqs] at KN hml
  replace hu:=Hz hu
  replace hS:=Hz hS
  replace hfit:=Hz hfit
  clear hT hn hm hqs
  go_enter Tryz.func12,Tryz.ntmps12
  go_wp2_with fail
  refine (KF.out _ ((Fr.refl _ _).alloc _)).mono ?_
  rintro e w1 ⟨rfl,hf1⟩
  have hF1:Fr [] w w1:=((Fr.refl _ _).alloc _).trans hf1
  have hb1:=hf1.blk (blk_new w _) (by simp)
  obtain ⟨⟨c0,c1,c2,c3,c4,c5,c6,c7,c8⟩,f0,f1,f2,f3,f4,f5,f6,f7,f8⟩:=cells9 hb1
  replace hb1:=Hz hb1
  go_wp2_with fail
  refine (KO.out _).mono ?_
  rintro e w2 ⟨rfl,hf2⟩
  have hF2:=hF1.trans hf2
  have hb2:=hf2.blk hb1.out (by simp)
  clear c0 c1 c2 c3 c4 c5 c6 c7 c8 f0 f1 f2 f3 f4 f5 f6 f7 f8
  obtain ⟨⟨c0,c1,c2,c3,c4,c5,c6,c7,c8⟩,f0,f1,f2,f3,f4,f5,f6,f7,f8⟩:=cells9 hb2
  have hF3:Hid (Fr [] w (put9 w2 w.heap.size (.int .i64 (k:Int)) (.bool sp) (.bool tx) (.bool em) (.bool sq) (.bool pr) (.int .i64 0) (.int .i64 0) (.int .i64 0))):=Hz (hF2.then_ (Fr.put9 _ _ _ _ _ _ _ _ _ _ _) (by simp))
  have hb3:Hid (OBlk (put9 w2 w.heap.size (.int .i64 (k:Int)) (.bool sp) (.bool tx) (.bool em) (.bool sq) (.bool pr) (.int .i64 0) (.int .i64 0) (.int .i64 0)) w.heap.size k sp tx em sq pr):=Hz (put9_blk hb2 _ _ _ _ _ _ _ _ _)
  have hlt2:=blk_lt' hb2
  replace hb2:=Hz hb2
  go_wp2
  replace hF3:Hid (Fr [] w (((((((((w2.setCell ⟨w.heap.size,0,none⟩ (.int .i64 (k:Int))).setCell ⟨w.heap.size,1,none⟩ (.bool sp)).setCell ⟨w.heap.size,2,none⟩ (.bool tx)).setCell ⟨w.heap.size,3,none⟩ (.bool em)).setCell ⟨w.heap.size,4,none⟩ (.bool sq)).setCell ⟨w.heap.size,5,none⟩ (.bool pr)).setCell ⟨w.heap.size,6,none⟩ (.int .i64 0)).setCell ⟨w.heap.size,7,none⟩ (.int .i64 0)).setCell ⟨w.heap.size,8,none⟩ (.int .i64 0))):=hF3
  replace hb3:Hid (OBlk (((((((((w2.setCell ⟨w.heap.size,0,none⟩ (.int .i64 (k:Int))).setCell ⟨w.heap.size,1,none⟩ (.bool sp)).setCell ⟨w.heap.size,2,none⟩ (.bool tx)).setCell ⟨w.heap.size,3,none⟩ (.bool em)).setCell ⟨w.heap.size,4,none⟩ (.bool sq)).setCell ⟨w.heap.size,5,none⟩ (.bool pr)).setCell ⟨w.heap.size,6,none⟩ (.int .i64 0)).setCell ⟨w.heap.size,7,none⟩ (.int .i64 0)).setCell ⟨w.heap.size,8,none⟩ (.int .i64 0)) w.heap.size k sp tx em sq pr):=hb3
  clear c0 c1 c2 c3 c4 c5 c6 c7 c8 f0 f1 f2 f3 f4 f5 f6 f7 f8
  generalize ((((((((w2.setCell ⟨w.heap.size,0,none⟩ (.int .i64 (k:Int))).setCell ⟨w.heap.size,1,none⟩ (.bool sp)).setCell ⟨w.heap.size,2,none⟩ (.bool tx)).setCell ⟨w.heap.size,3,none⟩ (.bool em)).setCell ⟨w.heap.size,4,none⟩ (.bool sq)).setCell ⟨w.heap.size,5,none⟩ (.bool pr)).setCell ⟨w.heap.size,6,none⟩ (.int .i64 0)).setCell ⟨w.heap.size,7,none⟩ (.int .i64 0)).setCell ⟨w.heap.size,8,none⟩ (.int .i64 0)=w3 at *
  replace hb3:=hb3.out
  obtain ⟨⟨c0,c1,c2,c3,c4,c5,c6,c7,c8⟩,_⟩:=cells9 hb3
  have KEEP: ∀W,Fr [] w3 W→W.cell? ⟨w.heap.size,0,none⟩=some (.int .i64 (k:Int))∧W.cell? ⟨w.heap.size,1,none⟩=some (.bool sp)∧W.cell? ⟨w.heap.size,2,none⟩=some (.bool tx)∧W.cell? ⟨w.heap.size,3,none⟩=some (.bool em)∧W.cell? ⟨w.heap.size,4,none⟩=some (.bool sq)∧W.cell? ⟨w.heap.size,5,none⟩=some (.bool pr)∧W.cell? ⟨w.heap.size,6,none⟩=some (.int .i64 0)∧W.cell? ⟨w.heap.size,7,none⟩=some (.int .i64 0)∧W.cell? ⟨w.heap.size,8,none⟩=some (.int .i64 0):=fun W hf=>(cells9 (hb3.fr hf)).1
  replace KEEP:=Hz KEEP
  replace hb3:=Hz hb3
  cases hN:notesF qs with
  |none=>
   rw [hN] at KN
   clear hN
   go_region_held3 (fun w'=>w'.cell? ⟨w.heap.size,0,none⟩=some (.int .i64 (k:Int))∧w'.cell? ⟨w.heap.size,1,none⟩=some (.bool sp)∧w'.cell? ⟨w.heap.size,2,none⟩=some (.bool tx)∧w'.cell? ⟨w.heap.size,3,none⟩=some (.bool em)∧w'.cell? ⟨w.heap.size,4,none⟩=some (.bool sq)∧w'.cell? ⟨w.heap.size,5,none⟩=some (.bool pr)∧w'.cell? ⟨w.heap.size,6,none⟩=some (.int .i64 0)∧w'.cell? ⟨w.heap.size,7,none⟩=some (.int .i64 0)∧w'.cell? ⟨w.heap.size,8,none⟩=some (.int .i64 0)) (first|go_keep|exact KEEP.out _ hfA) (first|(go_at_call 23;refine (KN.out _ (hF3.out.drewN 1)).mono ?_;rintro e w4 ⟨hf4,rfl⟩;have hfA:=((Fr.refl [] w3).drewN 1).trans hf4))
   go_wp2
   go_ret
   exact ⟨rfl,hF3.out.trans hfA⟩
  |some ts=>
   rw [hN] at KN
   go_region_held3 (fun w'=>w'.cell? ⟨w.heap.size,0,none⟩=some (.int .i64 (k:Int))∧w'.cell? ⟨w.heap.size,1,none⟩=some (.bool sp)∧w'.cell? ⟨w.heap.size,2,none⟩=some (.bool tx)∧w'.cell? ⟨w.heap.size,3,none⟩=some (.bool em)∧w'.cell? ⟨w.heap.size,4,none⟩=some (.bool sq)∧w'.cell? ⟨w.heap.size,5,none⟩=some (.bool pr)∧w'.cell? ⟨w.heap.size,6,none⟩=some (.int .i64 0)∧w'.cell? ⟨w.heap.size,7,none⟩=some (.int .i64 0)∧w'.cell? ⟨w.heap.size,8,none⟩=some (.int .i64 0)) (first|go_keep|exact KEEP.out _ hfA) (first|(go_at_call 23;refine (KN.out _ (hF3.out.drewN 1)).mono ?_;rintro e w4 ⟨hf4,v4,rfl,hR4⟩;have hfA:=((Fr.refl [] w3).drewN 1).trans hf4))
   have hS4:=hR4.strs
   have hF4:=hF3.out.trans hfA
   have hb4:=hb3.out.fr hfA
   clear c0 c1 c2 c3 c4 c5 c6 c7 c8
   have h8:qs.length≤8:=by
    unfold notesF at hN
    split at hN
    ·assumption
    ·cases hN
   have hP:PartsOK 20 qs ts:=by
    unfold notesF at hN
    rw [if_pos h8] at hN
    exact partsF_ok hN
   have hlt:=hP.len
   have hfl:=hP.flat
   have hhl:=headB_le 5 (m/2) 0
   have e1:=map_text (M:=⟨k,sp,tx,em,sq,pr⟩) (sq:=sq) hP h8 (by omega)
   have e2:=omap_text (M:=⟨k,sp,tx,em,sq,pr⟩) (sq:=sq) hP h8 (by omega)
   rw [hml] at e1 hlt hfl h8
   have hroom:=join_room e1 (by rw [List.length_append];omega)
   have KD1:=diag_of hk (by rw [List.length_append];omega) e1
   have KD2:=diag_of hk (by rw [List.length_cons,List.length_append,List.length_singleton];omega) e2
   obtain ⟨J,hJ⟩: ∃J,joinS true 0 (ts.map (noteT ⟨k,sp,tx,em,sq,pr⟩))=J:=⟨_,rfl⟩
   have KJ: ∀W,Fr [] w4 W→Calls Tryz.prog 24 #[v4,.bool true] W fun e w'=>e= .returned (.string ⟨J.toArray⟩)∧Fr [] W w':=fun W hf=>by
    rw [←hJ]
    exact joined true (hS4.fr hf) (by rw [List.length_map];omega) (by omega)
   rw [hJ] at KD1 KD2 hroom
   have hv: ∃ao c,v4= .slice ao m c:=by
    rcases hS4 with ⟨h0,ao,c,h⟩|⟨g,o,c,h,_⟩
    ·have h1:=congrArg List.length h0
     rw [List.length_map,hlt,List.length_nil] at h1
     exact ⟨ao,c,by rw [h1];exact h⟩
    ·exact ⟨_,c,by rw [h,List.length_map,hlt]⟩
   obtain ⟨ao,c,rfl⟩:=hv
   have KH:=Hz (fun w=>head 5 (m/2) (by omega) (by omega) w)
   obtain ⟨F,hF⟩: ∃F,qs.flatten=F:=⟨_,rfl⟩
   rw [hF] at KD1 KD2 hfl
   rw [hF]
   obtain ⟨H,hH⟩: ∃H,headB 5 (m/2) 0=H:=⟨_,rfl⟩
   rw [hH] at KH KD1 hhl
   have g1:(⟨(H++F).toArray⟩:ByteArray)=⟨H.toArray⟩++⟨F.toArray⟩:=by
    rw [mk_append]
    try simp only [List.append_assoc,List.cons_append,List.nil_append,List.singleton_append]
   have g2:(⟨(191::(F++[255])).toArray⟩:ByteArray)=⟨#[191]⟩++⟨F.toArray⟩++⟨#[255]⟩:=by
    rw [show (⟨#[191]⟩:ByteArray)=⟨([191]:List UInt8).toArray⟩ from rfl,show (⟨#[255]⟩:ByteArray)=⟨([255]:List UInt8).toArray⟩ from rfl,mk_append,mk_append]
    try simp only [List.append_assoc,List.cons_append,List.nil_append,List.singleton_append]
   have g3:(⟨([123]++(J++[125])).toArray⟩:ByteArray)=⟨#[123]⟩++⟨J.toArray⟩++⟨#[125]⟩:=by
    rw [show (⟨#[123]⟩:ByteArray)=⟨([123]:List UInt8).toArray⟩ from rfl,show (⟨#[125]⟩:ByteArray)=⟨([125]:List UInt8).toArray⟩ from rfl,mk_append,mk_append]
    try simp only [List.append_assoc,List.cons_append,List.nil_append,List.singleton_append]
   have g4:(⟨([123,95,32]++(J++[125])).toArray⟩:ByteArray)=⟨#[123,95,32]⟩++⟨J.toArray⟩++⟨#[125]⟩:=by
    rw [show (⟨#[123,95,32]⟩:ByteArray)=⟨([123,95,32]:List UInt8).toArray⟩ from rfl,show (⟨#[125]⟩:ByteArray)=⟨([125]:List UInt8).toArray⟩ from rfl,mk_append,mk_append]
    try simp only [List.append_assoc,List.cons_append,List.nil_append,List.singleton_append]
   rw [g1,g3] at KD1
   rw [g2,g4] at KD2
   obtain ⟨q,hq⟩: ∃q,m/2=q:=⟨_,rfl⟩
   rw [hq] at KH
   have gu:IntKind.u64.wrap ((m:Int)/2)=(q:Int):=by show ((m:Int)/2)%18446744073709551616=_;omega
   have q1: ¬9223372036854775807<1+J.length:=by omega
   have q2: ¬9223372036854775807<1+J.length+1:=by omega
   have q3: ¬9223372036854775807<1+F.length:=by omega
   have q4: ¬9223372036854775807<1+F.length+1:=by omega
   have q5: ¬9223372036854775807<3+J.length:=by omega
   have q6: ¬9223372036854775807<3+J.length+1:=by omega
   have q7: ¬9223372036854775807<H.length+F.length:=by omega
   have hbb: ∀b:ByteArray,(b==b)=true:=ba_self
   replace KJ:=Hz KJ
   replace KD1:=Hz KD1
   replace KD2:=Hz KD2
   replace hb4:=Hz hb4
   clear hN hP hlt hfl hhl e1 e2 hroom g1 g2 g3 g4 hJ hF hH h8 hS4 hR4 gm2 ge gt gh b2 b3 hq
   go_wp2_with fail
   refine (KJ.out _ (Fr.refl _ _)).mono ?_
   rintro e w5 ⟨rfl,hf5⟩
   have hF5:=hF4.trans hf5
   have hb5:=hb4.out.fr hf5
   replace hb5:=Hz hb5
   cases op with
   |true=>
    go_wp2_with fail
    refine (KJ.out _ hf5).mono ?_
    rintro e w6 ⟨rfl,hf6⟩
    have hF6:=hF5.trans hf6
    obtain ⟨⟨c0,c1,c2,c3,c4,c5,c6,c7,c8⟩,_⟩:=cells9 (hb5.out.fr hf6)
    go_wp2_with fail
    refine (KD2.out _ (hu.out.fr hF6 (by simp))).mono ?_
    rintro e w7 ⟨rfl,hf7⟩
    go_wp2
    go_ret
    exact ⟨rfl,hF6.trans hf7⟩
   |false=>
    go_wp2_with fail
    refine (KH.out _).mono ?_
    rintro e w6 ⟨rfl,hf6⟩
    have hF6:=hF5.trans hf6
    obtain ⟨⟨c0,c1,c2,c3,c4,c5,c6,c7,c8⟩,_⟩:=cells9 (hb5.out.fr hf6)
    go_wp2_with fail
    refine (KD1.out _ (hu.out.fr hF6 (by simp))).mono ?_
    rintro e w7 ⟨rfl,hf7⟩
    go_wp2
    go_ret
    exact ⟨rfl,hF6.trans hf7⟩
 ·rw [decide_eq_false hfit] at KF
  go_enter Tryz.func12,Tryz.ntmps12
  go_wp2_with fail
  refine (KF.out _ ((Fr.refl _ _).alloc _)).mono ?_
  rintro e w1 ⟨rfl,hf1⟩
  go_wp2
  go_ret
  exact ⟨rfl,((Fr.refl _ _).alloc _).trans hf1⟩
end
section
open Go.ChangeShapes Go.WideShapes Go.RowKit
open Go.ChangeMaps (open_string)
theorem map_lifted (os:Os) (started:os.Started) (H:Type) (enc:TypeId×Value→H):
  ReturnsInHanded {} Tryz.checked os 12 .any (fun w args=>(Rows.fnDiagMapSpec.pre enc Tryz.prog Tryz.f12 [] false w args∧laidMetH Tryz.prog laidU w)∧sizedMet enc Tryz.prog Tryz.f12 (OpenSpec.ofChange Rows.fnDiagMapSpec) false w args)
   (Rows.fnDiagMapSpec.post enc Tryz.prog Tryz.f12 false true false false):=by
 refine lift_row os started enc (by kernel_rfl) Tryz.func12 rfl rfl ?_ ?_
  (ChangeSpec.witness_at (enc:=enc) (C:=Tryz.checked) (os:=os) (X:=fun w _=>laidMetH Tryz.prog laidU w) false (laidWorld os) #[.slice none 0 0,.bool false,.agg #[.int .i64 0,.bool false,.bool false,.bool false,.bool false,.bool false,.int .i64 0,.int .i64 0,.int .i64 0]] 8 rfl (by kernel_rfl) (by kernel_rfl) (by kernel_rfl) (by kernel_rfl) (by kernel_rfl) (laid_met os _)) ?_
 ·intro ds h
  rw [Tryz.params12] at h
  match ds,h with
  |[d1,d2,d3],_=>rfl
 ·rw [Tryz.params12]
  intro t ht
  have ht2:t=22∨t=4∨t=24:=by simpa using ht
  rcases ht2 with rfl|rfl|rfl
  all_goals exact ⟨by kernel_rfl,of_decide_eq_true (by kernel_rfl)⟩
 ·intro W base args ds ps hval hA hu
  rw [Tryz.params12] at hA hval
  obtain ⟨v0,v1,v2,d0,d1,d2,p0,p1,p2,rfl,rfl,rfl,h0,h1,h2⟩:=trodAll_three hA
  obtain ⟨ss,hS⟩:=open_strsN (hval 0 22 v0 rfl rfl) h0
  obtain ⟨b,rfl,_⟩:=open_bool Tryz.underlying4 (hval 1 4 v1 rfl rfl) h1
  obtain ⟨a,x,y,z,sp,tx,em,sq,pr,rfl⟩:=open_opts (hval 2 24 v2 rfl rfl) h2
  exact map_any hS b a x y z sp tx em sq pr hu
theorem map_f1:Tryz.prog.inPlace 12=Rows.fnDiagMapRow.inPlace:=by kernel_rfl
theorem map_f2:Tryz.prog.unfollowed 12=Rows.fnDiagMapRow.unfollowed:=by kernel_rfl
theorem map_f3:Tryz.prog.recurses 12=Rows.fnDiagMapRow.recurses:=by kernel_rfl
theorem map_f4:Tryz.prog.varsNamed 12=Rows.fnDiagMapRow.named:=by kernel_rfl
theorem map_facts:joinedFacts Tryz.prog 12 Tryz.f12 Rows.fnDiagMapSpec Rows.fnDiagMapRow=true:=by
 unfold joinedFacts
 rw [map_f1,map_f2,map_f3,map_f4,Tryz.mayEnter,Tryz.liftsFinal,Tryz.make,Tryz.mapsRowed,Tryz.plainKeys,Tryz.stopsHeard,Tryz.laidOut]
 kernel_rfl
theorem map_goes:false=Rows.fnDiagMapRow.goesBy Tryz.prog:=by kernel_rfl
theorem map_name:Tryz.prog.funcNamed "pub-necessaire/laws.FnDiagMap" =some 12:=by kernel_rfl
theorem map_row:Rows.FnDiagMapSaid:=
 OpenClaim.holds_of_wide 12 Tryz.f12 rfl rfl rfl rfl rfl rfl rfl ⟨rfl,rfl,rfl,rfl,rfl⟩ rfl rfl rfl rfl rfl map_name Tryz.func12 map_facts
  (of_decide_eq_true (by kernel_rfl)) (by unfold Func.isWrapper;first|(rw [if_pos (by decide+kernel)];kernel_rfl)|(rw [if_neg (by decide+kernel)];exact ⟨rfl,rfl⟩))
  (fun os started H enc _=>map_lifted os started H enc)
theorem map_card:Rows.FnDiagMapCardSaid:=
 Claim7.holds_tied_plain_at .later [] [.data,.pinned] true (true, "6290c9495f33fe9badd3dbfab1b5d898f91c774e4e5da1dae7cabe16e93ab7d6") true
  map_row (fun _ h=>by cases h) (by kernel_rfl) (fun _ h=>by cases h) fnDiagMap_row_tie rfl ⟨rfl,rfl⟩ Tryz.mainIs rfl
  (fun f fn hf hfn=>by
   obtain rfl:f=12:=Option.some.inj (map_name.symm.trans hf)|>.symm
   obtain rfl:fn=Tryz.f12:=(Option.some.inj (Tryz.func12.symm.trans hfn)).symm
   exact ⟨by kernel_rfl,fun j t ht=>by
    rw [Tryz.params12] at ht
    rcases j with _|_|_|j
    ·have h3:t=22:=by simpa using ht.symm
     subst h3
     exact (show Tryz.prog.wantsStandIn 22=false by kernel_rfl)
    ·have h3:t=4:=by simpa using ht.symm
     subst h3
     exact (show Tryz.prog.wantsStandIn 4=false by kernel_rfl)
    ·have h3:t=24:=by simpa using ht.symm
     subst h3
     exact (show Tryz.prog.wantsStandIn 24=false by kernel_rfl)
    ·simp at ht⟩)
  map_goes
end
end Go.Proofs.YteodinhkhhaafaaGreatDoor
