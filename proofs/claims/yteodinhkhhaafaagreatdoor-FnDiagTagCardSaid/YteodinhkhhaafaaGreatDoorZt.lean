/- FnDiagTag, its row and its card: for all tags, parts and options the law returns true: the text of a tagged item is the decimal number of the tag and the text of its content in parentheses; of the tags 2 and 3 this is not said. -/
import Derived.Test.YteodinhkhhaafaaGreatDoorDbw
import Derived.Test.YteodinhkhhaafaaGreatDoorCards
import Derived.Test.YteodinhkhhaafaaGreatDoorTie
set_option linter.unusedVariables false
set_option linter.unusedSimpArgs false
set_option maxRecDepth 100000
set_option maxHeartbeats 6400000
namespace Go.Proofs.YteodinhkhhaafaaGreatDoor
section
open Go.RowKit
theorem decimal (n:Nat) (hn:n<18446744073709551616) (w:World):Calls Tryz.prog 49 #[.int .u64 (n:Int)] w fun e w'=>e= .returned (.string ⟨(dec n).toArray⟩)∧Fr [] w w':=by
 have hdl:=dec20 hn
 obtain ⟨D,hD⟩: ∃D,dec n=D:=⟨_,rfl⟩
 rw [hD] at hdl ⊢
 replace hD:=Hz hD
 go_enter Tryz.func49,Tryz.ntmps49
 go_wp2
 go_loopg [0,3] n (fun k v0 v3 wr=> ∃(m:Nat) (s:List UInt8),v0= .int .u64 (m:Int)∧v3= .string ⟨s.toArray⟩∧m≤k∧m<18446744073709551616∧Hid (D=dec m++s)∧Fr [] w wr)
 case atStart=>exact ⟨n,[],rfl,rfl,Nat.le_refl _,hn,Hz (by rw [List.append_nil,hD.out]),Fr.refl _ _⟩
 case round=>
  obtain ⟨m,s,rfl,rfl,hmk,hm,hs,hF⟩:=hrel
  have hsl:s.length≤20:=by
   have:=congrArg List.length hs.out
   rw [List.length_append] at this
   omega
  by_cases h9:m<10
  ·have t9: ¬(9:Int)<(m:Int):=by omega
   have hfin:Hid (D=[(48+m).toUInt8]++s):=Hz (by rw [hs.out,dec_lt m h9])
   have hcv:(((48+m).toUInt8.toNat:Nat):Int)=48+(m:Int):=by simp;omega
   obtain ⟨cb8,hcb⟩: ∃c:UInt8,c=(48+m).toUInt8:=⟨_,rfl⟩
   rw [←hcb] at hcv hfin
   replace hcb:=Hz hcb
   have s1:IntKind.u64.wrap (48+(m:Int))=48+(m:Int):=by show (48+(m:Int))%18446744073709551616=_;omega
   have s2:IntKind.u8.wrap (48+(m:Int))=48+(m:Int):=IntWalk.u8_in _ (by omega)
   have hrd:Rd (wr.alloc (.cells #[.int .u8 (48+(m:Int))] 5 (0,0))) wr.heap.size 0 [cb8]:=rd_new (w:=wr) (s:=[cb8]) rfl (by simp only [enc,List.map_cons,List.map_nil];rw [hcv])
   have ht:=toStr hrd 1
   have ht2:(convert 59 9 (.slice (some ⟨wr.heap.size,0,none⟩) 1 1)).run Tryz.prog (wr.alloc (.cells #[.int .u8 (48+(m:Int))] 5 (0,0)))= .ok (.string ⟨[cb8].toArray⟩) (wr.alloc (.cells #[.int .u8 (48+(m:Int))] 5 (0,0))):=ht
   clear ht hrd
   have hq1: ¬9223372036854775807<1+s.length:=by omega
   have hq2: ¬9223372036854775807<[cb8].length+s.length:=by simp;omega
   replace hcv:=Hz hcv
   go_wp2
   go_ret
   exact ⟨by rw [hfin.out];first|(rw [←mk_append];rfl)|rfl,hF.alloc _⟩
  ·obtain ⟨q,rfl⟩: ∃q,gk=q+1:=⟨gk-1,by omega⟩
   have t9:(9:Int)<(m:Int):=by omega
   have hfin:Hid (D=dec (m/10)++([(48+m%10).toUInt8]++s)):=Hz (by rw [hs.out,dec_ge m h9,List.append_assoc])
   have hcv:(((48+m%10).toUInt8.toNat:Nat):Int)=48+(m:Int)%10:=by simp;omega
   obtain ⟨cb8,hcb⟩: ∃c:UInt8,c=(48+m%10).toUInt8:=⟨_,rfl⟩
   rw [←hcb] at hcv hfin
   replace hcb:=Hz hcb
   have s0:IntKind.u64.wrap ((m:Int)%10)=(m:Int)%10:=by show ((m:Int)%10)%18446744073709551616=_;omega
   have s1:IntKind.u64.wrap (48+(m:Int)%10)=48+(m:Int)%10:=by show (48+(m:Int)%10)%18446744073709551616=_;omega
   have s2:IntKind.u8.wrap (48+(m:Int)%10)=48+(m:Int)%10:=IntWalk.u8_in _ (by omega)
   have s3:IntKind.u64.wrap ((m:Int)/10)=((m/10:Nat):Int):=by show ((m:Int)/10)%18446744073709551616=_;omega
   have hrd:Rd (wr.alloc (.cells #[.int .u8 (48+(m:Int)%10)] 5 (0,0))) wr.heap.size 0 [cb8]:=rd_new (w:=wr) (s:=[cb8]) rfl (by simp only [enc,List.map_cons,List.map_nil];rw [hcv])
   have ht:=toStr hrd 1
   have ht2:(convert 59 9 (.slice (some ⟨wr.heap.size,0,none⟩) 1 1)).run Tryz.prog (wr.alloc (.cells #[.int .u8 (48+(m:Int)%10)] 5 (0,0)))= .ok (.string ⟨[cb8].toArray⟩) (wr.alloc (.cells #[.int .u8 (48+(m:Int)%10)] 5 (0,0))):=ht
   clear ht hrd
   have hq1: ¬9223372036854775807<1+s.length:=by omega
   have hq2: ¬9223372036854775807<[cb8].length+s.length:=by simp;omega
   replace hcv:=Hz hcv
   go_wp2
   go_roundg q
   case measure=>omega
   case rel=>exact ⟨m/10,[cb8]++s,rfl,by first|rfl|(rw [←mk_append];rfl),by omega,by omega,hfin,hF.alloc _⟩
end
section
open Go.RowKit
theorem tag_any {w:World} (n:Nat) (hn:n<18446744073709551616) (p:List UInt8) (a x y z:Int) (sp tx em sq pr:Bool) (hu:U8 w):
  Calls Tryz.prog 16 #[.int .u64 (n:Int),.string ⟨p.toArray⟩,.agg #[.int .i64 a,.bool sp,.bool tx,.bool em,.bool sq,.bool pr,.int .i64 x,.int .i64 y,.int .i64 z]] w fun e w'=>e= .returned (.bool true)∧Fr [] w w':=by
 obtain ⟨k,hk,_,hk2⟩:=rem_nat a 4 (by decide) (by decide)
 have KO:=fun w=>optionsC a x y z sp tx em sq pr k hk2 w
 unfold diagOpts at KO
 replace KO:=Hz KO
 have KN:=Hz (fun W g (hf:Fr [] w W) (hc:W.cell? ⟨g,0,none⟩=some (.string ⟨p.toArray⟩)) (hp:p.length≤2147483647)=>notesW (ss:=[p]) (w:=W) (v:= .slice (some ⟨g,0,none⟩) 1 1) (.inr ⟨g,0,1,rfl,Nat.le_refl _,fun j hj=>(by obtain rfl:j=0:=(by simpa using hj);exact hc)⟩) (fun s hs=>by rw [List.mem_singleton.1 hs];omega) k sp tx em sq pr hk (hu.fr hf (by simp)))
 by_cases hp:p.length≤2147483647
 ·have tp: ¬(2147483647:Int)<(p.length:Int):=by omega
  have KH:=Hz (fun w=>head 6 n (by omega) hn w)
  have KDec:=Hz (fun w=>decimal n hn w)
  replace hu:=Hz hu
  replace hn:=Hz hn
  go_enter Tryz.func16,Tryz.ntmps16
  have hF1:Fr [] w (w.alloc (.cells #[.int .i64 a,.bool sp,.bool tx,.bool em,.bool sq,.bool pr,.int .i64 x,.int .i64 y,.int .i64 z] 24)):=(Fr.refl _ _).alloc _
  have hb1:=blk_new w (.cells #[.int .i64 a,.bool sp,.bool tx,.bool em,.bool sq,.bool pr,.int .i64 x,.int .i64 y,.int .i64 z] 24)
  obtain ⟨⟨c0,c1,c2,c3,c4,c5,c6,c7,c8⟩,f0,f1,f2,f3,f4,f5,f6,f7,f8⟩:=cells9 hb1
  replace hb1:=Hz hb1
  go_wp2_with fail
  refine (KO.out _).mono ?_
  rintro e w2 ⟨rfl,hf2⟩
  have hF2:=hF1.trans hf2
  have hb2:=hf2.blk hb1.out (by simp)
  clear c0 c1 c2 c3 c4 c5 c6 c7 c8 f0 f1 f2 f3 f4 f5 f6 f7 f8
  obtain ⟨⟨c0,c1,c2,c3,c4,c5,c6,c7,c8⟩,f0,f1,f2,f3,f4,f5,f6,f7,f8⟩:=cells9 hb2
  have hF3:Hid (Fr [] w (put9 w2 w.heap.size (.int .i64 (k:Int)) (.bool sp) (.bool tx) (.bool em) (.bool sq) (.bool pr) (.int .i64 0) (.int .i64 0) (.int .i64 0))):=Hz (hF2.then_ (Fr.put9 _ _ _ _ _ _ _ _ _ _ _) (by simp))
  have hb3:Hid (OBlk (put9 w2 w.heap.size (.int .i64 (k:Int)) (.bool sp) (.bool tx) (.bool em) (.bool sq) (.bool pr) (.int .i64 0) (.int .i64 0) (.int .i64 0)) w.heap.size k sp tx em sq pr):=Hz (put9_blk hb2 _ _ _ _ _ _ _ _ _)
  have hlt2:=blk_lt' hb2
  replace hb2:=Hz hb2
  go_wp2_with fail
  have hcp:(World.alloc (put9 w2 w.heap.size (.int .i64 (k:Int)) (.bool sp) (.bool tx) (.bool em) (.bool sq) (.bool pr) (.int .i64 0) (.int .i64 0) (.int .i64 0)) (.cells #[.string ⟨p.toArray⟩] 9)).cell? ⟨w2.heap.size,0,none⟩=some (.string ⟨p.toArray⟩):=cell_blk (blk_new' _ _ (by simp [put9])) 0
  refine (KN.out _ _ (hF3.out.alloc _) hcp hp).mono ?_
  rintro e w4 ⟨hf4,h4⟩
  have hF4:=(hF3.out.alloc _).trans hf4
  have hb4:OBlk w4 w.heap.size k sp tx em sq pr:=hf4.blk (blk_alloc hb3.out _) (by simp)
  clear c0 c1 c2 c3 c4 c5 c6 c7 c8 f0 f1 f2 f3 f4 f5 f6 f7 f8
  replace hF3:=Hz hF3
  rw [notes_one] at h4
  cases hN:itemF p 20 with
  |none=>
   rw [hN] at h4
   dsimp only [Option.map_none] at h4
   subst h4
   clear hN
   go_wp2
   go_ret
   exact ⟨rfl,hF4⟩
  |some t=>
   rw [hN] at h4
   dsimp only [Option.map_some] at h4
   obtain ⟨v4,rfl,hR4⟩:=h4
   have hS4:=hR4.strs
   have hok:=itemF_ok hN
   have hpl:=hok.len
   have hhl:=headB_le 6 n 0
   have hdl:=dec20 hn.out
   have e1:=fun h2=>tag_text (M:=⟨k,sp,tx,em,sq,pr⟩) (sq:=sq) hok hn.out h2
   have hT:(noteT ⟨k,sp,tx,em,sq,pr⟩ t).length≤400000000000:=by
    have h1:=diagR_len L0 ⟨k,sp,tx,em,sq,pr⟩ sq p (by omega)
    rw [item_text hok (by omega),txt_len] at h1
    unfold CC at h1
    omega
   have KD:=fun h2=>diag_of hk (by rw [List.length_append];omega) (e1 h2)
   rw [List.flatten_cons,List.flatten_nil,List.append_nil]
   obtain ⟨NT,hNT⟩: ∃NT,noteT ⟨k,sp,tx,em,sq,pr⟩ t=NT:=⟨_,rfl⟩
   rw [List.map_cons,List.map_nil,hNT] at hS4
   rw [hNT] at KD hT
   obtain ⟨D,hD⟩: ∃D,dec n=D:=⟨_,rfl⟩
   rw [hD] at KDec KD hdl
   obtain ⟨H,hH⟩: ∃H,headB 6 n 0=H:=⟨_,rfl⟩
   rw [hH] at KH KD hhl
   obtain ⟨g,o,c,rfl,_,hcell⟩: ∃g o c,v4= .slice (some ⟨g,o,none⟩) 1 c∧1≤c∧w4.cell? ⟨g,o,none⟩=some (.string ⟨NT.toArray⟩):=by
    rcases hS4 with ⟨h0,_⟩|⟨g,o,c,h1,h2,h3⟩
    ·cases h0
    ·exact ⟨g,o,c,h1,h2,h3 0 (by simp)⟩
   have g1:(⟨(H++p).toArray⟩:ByteArray)=⟨H.toArray⟩++⟨p.toArray⟩:=by
    rw [mk_append]
    try simp only [List.append_assoc,List.cons_append,List.nil_append,List.singleton_append]
   have g2:(⟨(D++([40]++(NT++[41]))).toArray⟩:ByteArray)=⟨D.toArray⟩++⟨#[40]⟩++⟨NT.toArray⟩++⟨#[41]⟩:=by
    rw [show (⟨#[40]⟩:ByteArray)=⟨([40]:List UInt8).toArray⟩ from rfl,show (⟨#[41]⟩:ByteArray)=⟨([41]:List UInt8).toArray⟩ from rfl,mk_append,mk_append,mk_append]
    try simp only [List.append_assoc,List.cons_append,List.nil_append,List.singleton_append]
   rw [g1,g2] at KD
   have q1: ¬9223372036854775807<H.length+p.length:=by omega
   have q2: ¬9223372036854775807<D.length+1:=by omega
   have q3: ¬9223372036854775807<D.length+1+NT.length:=by omega
   have q4: ¬9223372036854775807<D.length+1+NT.length+1:=by omega
   have hbb: ∀b:ByteArray,(b==b)=true:=ba_self
   replace KD:=Hz KD
   clear hN hok hpl hhl e1 hT hdl g1 g2 hS4 hR4
   by_cases h2:n=2∨n=3
   ·rcases h2 with rfl|rfl
    all_goals
     go_wp2
     go_ret
     exact ⟨rfl,hF4⟩
   ·have t2:((n:Int)==2)=false:=by simp;omega
    have t3:((n:Int)==3)=false:=by simp;omega
    replace KD:=Hz (KD.out h2)
    clear h2
    have KEEP: ∀w',Fr [] w4 w'→w'.cell? ⟨w.heap.size,0,none⟩=some (.int .i64 (k:Int))∧w'.cell? ⟨w.heap.size,1,none⟩=some (.bool sp)∧w'.cell? ⟨w.heap.size,2,none⟩=some (.bool tx)∧w'.cell? ⟨w.heap.size,3,none⟩=some (.bool em)∧w'.cell? ⟨w.heap.size,4,none⟩=some (.bool sq)∧w'.cell? ⟨w.heap.size,5,none⟩=some (.bool pr)∧w'.cell? ⟨w.heap.size,6,none⟩=some (.int .i64 0)∧w'.cell? ⟨w.heap.size,7,none⟩=some (.int .i64 0)∧w'.cell? ⟨w.heap.size,8,none⟩=some (.int .i64 0):=fun w' hf=>(cells9 (hb4.fr hf)).1
    have KC:Hid (∀w',Fr [] w4 w'→w'.cell? ⟨g,o,none⟩=some (.string ⟨NT.toArray⟩)):=Hz (fun w' hf=>hf.cell hcell (by simp))
    obtain ⟨o0,o1,o2,o3,o4,o5,o6,o7,o8⟩:=KEEP w4 (Fr.refl _ _)
    replace KEEP:=Hz KEEP
    replace hb4:=Hz hb4
    go_wp2
    go_region_held3 (fun w'=>w'.cell? ⟨w.heap.size,0,none⟩=some (.int .i64 (k:Int))∧w'.cell? ⟨w.heap.size,1,none⟩=some (.bool sp)∧w'.cell? ⟨w.heap.size,2,none⟩=some (.bool tx)∧w'.cell? ⟨w.heap.size,3,none⟩=some (.bool em)∧w'.cell? ⟨w.heap.size,4,none⟩=some (.bool sq)∧w'.cell? ⟨w.heap.size,5,none⟩=some (.bool pr)∧w'.cell? ⟨w.heap.size,6,none⟩=some (.int .i64 0)∧w'.cell? ⟨w.heap.size,7,none⟩=some (.int .i64 0)∧w'.cell? ⟨w.heap.size,8,none⟩=some (.int .i64 0)) (first|go_keep|exact KEEP.out _ hfA|exact KEEP.out _ hfB)
     (first|(go_at_call 25;refine (KH.out _).mono ?_;rintro e wA ⟨rfl,hfA0⟩;have hfA:Fr [] w4 wA:=((Fr.refl [] w4).drewN 1).trans hfA0)|(go_at_call 26;refine (KD.out _ (hu.out.fr (hF4.trans hfA) (by simp))).mono ?_;rintro e wB ⟨rfl,hfB0⟩;have hfB:=hfA.trans hfB0))
    have hcB:=KC.out wB hfB
    have hFB:=hF4.trans hfB
    clear o0 o1 o2 o3 o4 o5 o6 o7 o8
    go_wp2
    go_region_held3 (fun w'=>w'.cell? ⟨g,o,none⟩=some (.string ⟨NT.toArray⟩)) (first|go_keep|exact KC.out _ hfC)
     (first|(go_at_call 49;refine (KDec.out _).mono ?_;rintro e wC ⟨rfl,hfC0⟩;have hfC:Fr [] w4 wC:=(hfB.drewN 1).trans hfC0))
    go_wp2
    go_ret
    exact ⟨rfl,hF4.trans hfC⟩
 ·have tp:(2147483647:Int)<(p.length:Int):=by omega
  go_enter Tryz.func16,Tryz.ntmps16
  go_wp2
  go_ret
  exact ⟨rfl,(Fr.refl _ _).alloc _⟩
end
section
open Go.ChangeShapes Go.WideShapes Go.RowKit
open Go.ChangeMaps (open_string)
theorem tag_lifted (os:Os) (started:os.Started) (H:Type) (enc:TypeId×Value→H):
  ReturnsInHanded {} Tryz.checked os 16 .any (fun w args=>(Rows.fnDiagTagSpec.pre enc Tryz.prog Tryz.f16 [] false w args∧laidMetH Tryz.prog laidU w)∧sizedMet enc Tryz.prog Tryz.f16 (OpenSpec.ofChange Rows.fnDiagTagSpec) false w args)
   (Rows.fnDiagTagSpec.post enc Tryz.prog Tryz.f16 false true false false):=by
 refine lift_row os started enc (by kernel_rfl) Tryz.func16 rfl rfl ?_ ?_
  (ChangeSpec.witness_at (enc:=enc) (C:=Tryz.checked) (os:=os) (X:=fun w _=>laidMetH Tryz.prog laidU w) false (laidWorld os) #[.int .u64 0,.string ⟨#[]⟩,.agg #[.int .i64 0,.bool false,.bool false,.bool false,.bool false,.bool false,.int .i64 0,.int .i64 0,.int .i64 0]] 8 rfl (by kernel_rfl) (by kernel_rfl) (by kernel_rfl) (by kernel_rfl) (by kernel_rfl) (laid_met os _)) ?_
 ·intro ds h
  rw [Tryz.params16] at h
  match ds,h with
  |[d1,d2,d3],_=>rfl
 ·rw [Tryz.params16]
  intro t ht
  have ht2:t=31∨t=9∨t=24:=by simpa using ht
  rcases ht2 with rfl|rfl|rfl
  all_goals exact ⟨by kernel_rfl,of_decide_eq_true (by kernel_rfl)⟩
 ·intro W base args ds ps hval hA hu
  rw [Tryz.params16] at hA hval
  obtain ⟨v0,v1,v2,d0,d1,d2,p0,p1,p2,rfl,rfl,rfl,h0,h1,h2⟩:=trodAll_three hA
  obtain ⟨n,rfl,_,_,hn⟩:=open_int Tryz.underlying31 (hval 0 31 v0 rfl rfl) h0
  obtain ⟨m,hm,rfl⟩:=u64_nat hn
  obtain ⟨s,rfl,_⟩:=open_string Tryz.underlying9 (hval 1 9 v1 rfl rfl) h1
  obtain ⟨a,x,y,z,sp,tx,em,sq,pr,rfl⟩:=open_opts (hval 2 24 v2 rfl rfl) h2
  rw [show (Value.string s)= .string ⟨s.data.toList.toArray⟩ from by cases s;simp]
  exact tag_any m hm _ a x y z sp tx em sq pr hu
theorem tag_f1:Tryz.prog.inPlace 16=Rows.fnDiagTagRow.inPlace:=by kernel_rfl
theorem tag_f2:Tryz.prog.unfollowed 16=Rows.fnDiagTagRow.unfollowed:=by kernel_rfl
theorem tag_f3:Tryz.prog.recurses 16=Rows.fnDiagTagRow.recurses:=by kernel_rfl
theorem tag_f4:Tryz.prog.varsNamed 16=Rows.fnDiagTagRow.named:=by kernel_rfl
theorem tag_facts:joinedFacts Tryz.prog 16 Tryz.f16 Rows.fnDiagTagSpec Rows.fnDiagTagRow=true:=by
 unfold joinedFacts
 rw [tag_f1,tag_f2,tag_f3,tag_f4,Tryz.mayEnter,Tryz.liftsFinal,Tryz.make,Tryz.mapsRowed,Tryz.plainKeys,Tryz.stopsHeard,Tryz.laidOut]
 kernel_rfl
theorem tag_goes:false=Rows.fnDiagTagRow.goesBy Tryz.prog:=by kernel_rfl
theorem tag_name:Tryz.prog.funcNamed "pub-necessaire/laws.FnDiagTag" =some 16:=by kernel_rfl
theorem tag_row:Rows.FnDiagTagSaid:=
 OpenClaim.holds_of_wide 16 Tryz.f16 rfl rfl rfl rfl rfl rfl rfl ⟨rfl,rfl,rfl,rfl,rfl⟩ rfl rfl rfl rfl rfl tag_name Tryz.func16 tag_facts
  (of_decide_eq_true (by kernel_rfl)) (by unfold Func.isWrapper;first|(rw [if_pos (by decide+kernel)];kernel_rfl)|(rw [if_neg (by decide+kernel)];exact ⟨rfl,rfl⟩))
  (fun os started H enc _=>tag_lifted os started H enc)
theorem tag_card:Rows.FnDiagTagCardSaid:=
 Claim7.holds_tied_plain_at .later [] [.data,.pinned] true (true, "6290c9495f33fe9badd3dbfab1b5d898f91c774e4e5da1dae7cabe16e93ab7d6") true
  tag_row (fun _ h=>by cases h) (by kernel_rfl) (fun _ h=>by cases h) fnDiagTag_row_tie rfl ⟨rfl,rfl⟩ Tryz.mainIs rfl
  (fun f fn hf hfn=>by
   obtain rfl:f=16:=Option.some.inj (tag_name.symm.trans hf)|>.symm
   obtain rfl:fn=Tryz.f16:=(Option.some.inj (Tryz.func16.symm.trans hfn)).symm
   exact ⟨by kernel_rfl,fun j t ht=>by
    rw [Tryz.params16] at ht
    rcases j with _|_|_|j
    ·have h3:t=31:=by simpa using ht.symm
     subst h3
     exact (show Tryz.prog.wantsStandIn 31=false by kernel_rfl)
    ·have h3:t=9:=by simpa using ht.symm
     subst h3
     exact (show Tryz.prog.wantsStandIn 9=false by kernel_rfl)
    ·have h3:t=24:=by simpa using ht.symm
     subst h3
     exact (show Tryz.prog.wantsStandIn 24=false by kernel_rfl)
    ·simp at ht⟩)
  tag_goes
end
end Go.Proofs.YteodinhkhhaafaaGreatDoor
