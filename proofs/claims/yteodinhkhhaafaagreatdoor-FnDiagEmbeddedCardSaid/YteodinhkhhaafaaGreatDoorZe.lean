/- FnDiagEmbedded, its row and its card: for every byte string and encoding the law returns true: what is one well-formed item is noted as that item between angle brackets if that is asked for; what is none is noted as without the option. -/
import Derived.Test.YteodinhkhhaafaaGreatDoorDbw
import Derived.Test.YteodinhkhhaafaaGreatDoorCards
import Derived.Test.YteodinhkhhaafaaGreatDoorTie
set_option linter.unusedVariables false
set_option linter.unusedSimpArgs false
set_option maxRecDepth 100000
set_option maxHeartbeats 6400000
namespace Go.Proofs.YteodinhkhhaafaaGreatDoor
section
open Go.RowKit
theorem embedded_any {w:World} (p:List UInt8) (a:Int) (hu:U8 w):Calls Tryz.prog 8 #[.string ⟨p.toArray⟩,.int .i64 a] w fun e w'=>e= .returned (.bool true)∧Fr [] w w':=by
 by_cases h1:p.length≤2147483647
 ·have t1: ¬(2147483647:Int)<(p.length:Int):=by omega
  by_cases h2:p.length≤400
  ·have t2: ¬(400:Int)<(p.length:Int):=by omega
   obtain ⟨k,hk,_,hk2⟩:=rem_nat a 4 (by decide) (by decide)
   have KO:=fun w=>optionsC a 0 0 0 false false true false false k hk2 w
   unfold diagOpts at KO
   replace KO:=Hz KO
   have KI:=Hz (fun w=>itemW (xs:=p) (m:=20) (by omega) w)
   have KN:=Hz (fun W g (hf:Fr [] w W) (hc:W.cell? ⟨g,0,none⟩=some (.string ⟨p.toArray⟩))=>notesW (ss:=[p]) (w:=W) (v:= .slice (some ⟨g,0,none⟩) 1 1) (.inr ⟨g,0,1,rfl,Nat.le_refl _,fun j hj=>(by obtain rfl:j=0:=(by simpa using hj);exact hc)⟩) (fun s hs=>by rw [List.mem_singleton.1 hs];omega) k false false true false false hk (hu.fr hf (by simp)))
   rw [notes_one] at KN
   have KH:=Hz (fun w=>head 2 p.length (by omega) (by omega) w)
   have hhl:=headB_le 2 p.length 0
   have KT:=Hz (fun w=>treeC (xs:=p) (by omega) w)
   have KB:=Hz (fun W=>byteString (w:=W) (xs:=p) (by omega) k hk)
   have KZ:=Hz (fun W (hf:Fr [] w W)=>noted W (hu.fr hf (by simp)))
   have KD:=diag_of (sq:=false) hk (by rw [List.length_append];omega) (str_text (M:=⟨k,false,false,true,false,false⟩) (sq:=false) p (by omega))
   obtain ⟨H,hH⟩: ∃H,headB 2 p.length 0=H:=⟨_,rfl⟩
   rw [hH] at KH KD hhl
   have gu:IntKind.u64.wrap (p.length:Int)=(p.length:Int):=by show (p.length:Int)%18446744073709551616=_;omega
   have q1: ¬9223372036854775807<H.length+p.length:=by omega
   have hbb: ∀b:ByteArray,(b==b)=true:=ba_self
   have g1:(⟨(H++p).toArray⟩:ByteArray)=⟨H.toArray⟩++⟨p.toArray⟩:=(mk_append _ _).symm
   rw [g1] at KD
   clear g1 hH hhl h1
   obtain ⟨R1,hR1⟩: ∃R1,itemF p 20=R1:=⟨_,rfl⟩
   rw [hR1] at KI KN
   replace hu:=Hz hu
   replace hR1:=Hz hR1
   replace KD:=Hz KD
   go_enter Tryz.func8,Tryz.ntmps8
   go_wp2_with fail
   refine (KO.out _).mono ?_
   rintro e w1 ⟨rfl,hf1⟩
   have hF1:Fr [] w (w1.alloc (.cells #[.int .i64 (k:Int),.bool false,.bool false,.bool true,.bool false,.bool false,.int .i64 0,.int .i64 0,.int .i64 0] 24)):=hf1.alloc _
   have hbo:(w1.alloc (.cells #[.int .i64 (k:Int),.bool false,.bool false,.bool true,.bool false,.bool false,.int .i64 0,.int .i64 0,.int .i64 0] 24)).heap[w1.heap.size]? =some (.cells #[.int .i64 (k:Int),.bool false,.bool false,.bool true,.bool false,.bool false,.int .i64 0,.int .i64 0,.int .i64 0] 24 (0,0)):=blk_new w1 _
   go_wp2_with fail
   refine (KI.out _).mono ?_
   generalize w1.alloc (.cells #[.int .i64 (k:Int),.bool false,.bool false,.bool true,.bool false,.bool false,.int .i64 0,.int .i64 0,.int .i64 0] 24)=w2 at *
   rintro e w3 ⟨gg,ka,kn,kc,he1,hf3,_⟩
   obtain ⟨a0,a1,a2,b0,b1,b2,tx,gks⟩:=gg
   rw [nd_mk] at he1
   subst he1
   have hF4:Hid (Fr [] w ((w3.alloc (.cells #[.int .i64 (a0:Int),.int .u64 (a1:Int),.int .i64 (a2:Int),.bool b0,.bool b1,.bool b2,.string ⟨tx.toArray⟩,.slice ka kn kc] 45)).alloc (.cells #[.string ⟨p.toArray⟩] 9))):=Hz (((hF1.trans hf3).alloc _).alloc _)
   have hf24:Hid (Fr [] w2 ((w3.alloc (.cells #[.int .i64 (a0:Int),.int .u64 (a1:Int),.int .i64 (a2:Int),.bool b0,.bool b1,.bool b2,.string ⟨tx.toArray⟩,.slice ka kn kc] 45)).alloc (.cells #[.string ⟨p.toArray⟩] 9))):=Hz ((hf3.alloc _).alloc _)
   obtain ⟨⟨o0,o1,o2,o3,o4,o5,o6,o7,o8⟩,_⟩:=cells9 (hf24.out.blk hbo (by simp))
   have hcp:Hid (((w3.alloc (.cells #[.int .i64 (a0:Int),.int .u64 (a1:Int),.int .i64 (a2:Int),.bool b0,.bool b1,.bool b2,.string ⟨tx.toArray⟩,.slice ka kn kc] 45)).alloc (.cells #[.string ⟨p.toArray⟩] 9)).cell? ⟨w3.heap.size+1,0,none⟩=some (.string ⟨p.toArray⟩)):=Hz (cell_blk (blk_new' _ _ (by simp)) 0)
   have hnd:Hid (((w3.alloc (.cells #[.int .i64 (a0:Int),.int .u64 (a1:Int),.int .i64 (a2:Int),.bool b0,.bool b1,.bool b2,.string ⟨tx.toArray⟩,.slice ka kn kc] 45)).alloc (.cells #[.string ⟨p.toArray⟩] 9)).cell? ⟨w3.heap.size,0,none⟩=some (.int .i64 (a0:Int))):=Hz (cell_blk (blk_alloc (blk_new w3 _) _) 0)
   go_wp2_with fail
   refine (KN.out _ _ hF4.out hcp.out).mono ?_
   rintro e w4 ⟨hf4,h4⟩
   have hF5:=hF4.out.trans hf4
   have hf25:=hf24.out.trans hf4
   have hnd4:=hf4.cell hnd.out (by simp)
   clear o0 o1 o2 o3 o4 o5 o6 o7 o8 hcp hnd hF4 hf24
   have KEEP: ∀W,Fr [] w4 W→W.cell? ⟨w1.heap.size,0,none⟩=some (.int .i64 (k:Int))∧W.cell? ⟨w1.heap.size,1,none⟩=some (.bool false)∧W.cell? ⟨w1.heap.size,2,none⟩=some (.bool false)∧W.cell? ⟨w1.heap.size,3,none⟩=some (.bool true)∧W.cell? ⟨w1.heap.size,4,none⟩=some (.bool false)∧W.cell? ⟨w1.heap.size,5,none⟩=some (.bool false)∧W.cell? ⟨w1.heap.size,6,none⟩=some (.int .i64 0)∧W.cell? ⟨w1.heap.size,7,none⟩=some (.int .i64 0)∧W.cell? ⟨w1.heap.size,8,none⟩=some (.int .i64 0):=fun W hf=>(cells9 ((hf25.trans hf).blk hbo (by simp))).1
   obtain ⟨o0,o1,o2,o3,o4,o5,o6,o7,o8⟩:=KEEP w4 (Fr.refl _ _)
   replace KEEP:=Hz KEEP
   replace hbo:=Hz hbo
   have ND:Hid (∀W,Fr [] w4 W→W.cell? ⟨w3.heap.size,0,none⟩=some (.int .i64 (a0:Int))):=Hz (fun W hf=>hf.cell hnd4 (by simp))
   have ta:(0:Int)≤(a0:Int):=by omega
   clear hnd4
   cases R1 with
   |some t=>
    dsimp only [Option.map_some] at h4
    obtain ⟨v4,rfl,hR4⟩:=h4
    have hok:=itemF_ok hR1.out
    have hS4:=hR4.strs
    rw [by_item hok rfl rfl] at KD
    have hT:(noteT ⟨k,false,false,true,false,false⟩ t).length≤400000000000:=by
     have h1:=diagR_len L0 ⟨k,false,false,true,false,false⟩ false p (by omega)
     rw [item_text hok (by omega),txt_len] at h1
     unfold CC at h1
     omega
    obtain ⟨NT,hNT⟩: ∃NT,noteT ⟨k,false,false,true,false,false⟩ t=NT:=⟨_,rfl⟩
    rw [List.map_cons,List.map_nil,hNT] at hS4
    rw [hNT] at KD hT
    obtain ⟨g,o,c,rfl,_,hcell⟩: ∃g o c,v4= .slice (some ⟨g,o,none⟩) 1 c∧1≤c∧w4.cell? ⟨g,o,none⟩=some (.string ⟨NT.toArray⟩):=by
     rcases hS4 with ⟨h0,_⟩|⟨g,o,c,h1,h2,h3⟩
     ·cases h0
     ·exact ⟨g,o,c,h1,h2,h3 0 (by simp)⟩
    have KC:Hid (∀w',Fr [] w4 w'→w'.cell? ⟨g,o,none⟩=some (.string ⟨NT.toArray⟩)):=Hz (fun w' hf=>hf.cell hcell (by simp))
    have g2:(⟨([60,60]++(NT++[62,62])).toArray⟩:ByteArray)=⟨#[60,60]⟩++⟨NT.toArray⟩++⟨#[62,62]⟩:=by
     rw [show (⟨#[60,60]⟩:ByteArray)=⟨([60,60]:List UInt8).toArray⟩ from rfl,show (⟨#[62,62]⟩:ByteArray)=⟨([62,62]:List UInt8).toArray⟩ from rfl,mk_append,mk_append]
     try simp only [List.append_assoc,List.cons_append,List.nil_append,List.singleton_append]
    replace KD:=Hz (g2▸KD.out)
    have q2: ¬9223372036854775807<2+NT.length:=by omega
    have q3: ¬9223372036854775807<2+NT.length+2:=by omega
    clear g2 hT hS4 hR4 hok hcell
    go_wp2
    go_region_held3 (fun w'=>w'.cell? ⟨w1.heap.size,0,none⟩=some (.int .i64 (k:Int))∧w'.cell? ⟨w1.heap.size,1,none⟩=some (.bool false)∧w'.cell? ⟨w1.heap.size,2,none⟩=some (.bool false)∧w'.cell? ⟨w1.heap.size,3,none⟩=some (.bool true)∧w'.cell? ⟨w1.heap.size,4,none⟩=some (.bool false)∧w'.cell? ⟨w1.heap.size,5,none⟩=some (.bool false)∧w'.cell? ⟨w1.heap.size,6,none⟩=some (.int .i64 0)∧w'.cell? ⟨w1.heap.size,7,none⟩=some (.int .i64 0)∧w'.cell? ⟨w1.heap.size,8,none⟩=some (.int .i64 0)) (first|go_keep|exact KEEP.out _ hfA|exact KEEP.out _ hfB)
     (first|(go_at_call 25;refine (KH.out _).mono ?_;rintro e wA ⟨rfl,hfA0⟩;have hfA:Fr [] w4 wA:=((Fr.refl [] w4).drewN 1).trans hfA0)|(go_at_call 26;refine (KD.out _ (hu.out.fr (hF5.trans hfA) (by simp))).mono ?_;rintro e wB ⟨rfl,hfB0⟩;have hfB:=hfA.trans hfB0))
    have hcB:=KC.out wB hfB
    have hnB:=ND.out wB hfB
    have hFB:=hF5.trans hfB
    clear o0 o1 o2 o3 o4 o5 o6 o7 o8
    go_wp2
    go_ret
    exact ⟨rfl,hFB⟩
   |none=>
    dsimp only [Option.map_none] at h4
    subst h4
    obtain ⟨B,hB⟩: ∃B,byA L0 ⟨k,false,false,true,false,false⟩ p=B:=⟨_,rfl⟩
    rw [hB] at KD
    obtain ⟨TF,hTF⟩: ∃TF,treeF p 200 0=TF:=⟨_,rfl⟩
    rw [hTF] at KT
    have hno:TF=none→B=noteB k false p:=fun h0=>by
     rw [←hB]
     exact by_none (by omega) (hTF.trans h0) rfl
    replace hno:=Hz hno
    clear hTF hB
    go_wp2
    go_region_held3 (fun w'=>w'.cell? ⟨w1.heap.size,0,none⟩=some (.int .i64 (k:Int))∧w'.cell? ⟨w1.heap.size,1,none⟩=some (.bool false)∧w'.cell? ⟨w1.heap.size,2,none⟩=some (.bool false)∧w'.cell? ⟨w1.heap.size,3,none⟩=some (.bool true)∧w'.cell? ⟨w1.heap.size,4,none⟩=some (.bool false)∧w'.cell? ⟨w1.heap.size,5,none⟩=some (.bool false)∧w'.cell? ⟨w1.heap.size,6,none⟩=some (.int .i64 0)∧w'.cell? ⟨w1.heap.size,7,none⟩=some (.int .i64 0)∧w'.cell? ⟨w1.heap.size,8,none⟩=some (.int .i64 0)) (first|go_keep|exact KEEP.out _ hfA|exact KEEP.out _ hfB)
     (first|(go_at_call 25;refine (KH.out _).mono ?_;rintro e wA ⟨rfl,hfA0⟩;have hfA:Fr [] w4 wA:=((Fr.refl [] w4).drewN 1).trans hfA0)|(go_at_call 26;refine (KD.out _ (hu.out.fr (hF5.trans hfA) (by simp))).mono ?_;rintro e wB ⟨rfl,hfB0⟩;have hfB:=hfA.trans hfB0))
    clear o0 o1 o2 o3 o4 o5 o6 o7 o8
    go_wp2_with fail
    refine (KT.out _).mono ?_
    rintro e w6 ⟨g',kv',rest,he,hf6,⟨ka',kn',kc',rfl⟩,_⟩
    obtain ⟨c0,c1,c2,d0,d1,d2,tx',gks'⟩:=g'
    rw [nd_mk] at he
    subst he
    have hF6:Fr [] w (w6.alloc (.cells #[.int .i64 (c0:Int),.int .u64 (c1:Int),.int .i64 (c2:Int),.bool d0,.bool d1,.bool d2,.string ⟨tx'.toArray⟩,.slice ka' kn' kc'] 45)):=((hF5.trans hfB).trans hf6).alloc _
    have hf46:Fr [] w4 (w6.alloc (.cells #[.int .i64 (c0:Int),.int .u64 (c1:Int),.int .i64 (c2:Int),.bool d0,.bool d1,.bool d2,.string ⟨tx'.toArray⟩,.slice ka' kn' kc'] 45)):=(hfB.trans hf6).alloc _
    obtain ⟨o0,_⟩:=KEEP.out _ hf46
    cases TF with
    |some q=>
     go_wp2_with fail
     refine (KZ.out _ hF6).mono ?_
     rintro e w7 ⟨rfl,hf7⟩
     go_wp2
     go_ret
     exact ⟨rfl,hF6.trans hf7⟩
    |none=>
     obtain rfl:=hno.out rfl
     cases hr:rest.toList.isEmpty with
     |false=>
      go_wp2_with fail
      refine (KZ.out _ hF6).mono ?_
      rintro e w7 ⟨rfl,hf7⟩
      go_wp2
      go_ret
      exact ⟨rfl,hF6.trans hf7⟩
     |true=>
      go_wp2_with fail
      refine (KB.out _).mono ?_
      rintro e w7 ⟨rfl,hf7⟩
      go_wp2
      go_ret
      exact ⟨rfl,hF6.trans hf7⟩
  ·have t2:(400:Int)<(p.length:Int):=by omega
   go_enter Tryz.func8,Tryz.ntmps8
   go_wp2
   go_ret
   exact ⟨rfl,Fr.refl _ _⟩
 ·have t1:(2147483647:Int)<(p.length:Int):=by omega
  go_enter Tryz.func8,Tryz.ntmps8
  go_wp2
  go_ret
  exact ⟨rfl,Fr.refl _ _⟩
end
section
open Go.ChangeShapes Go.WideShapes Go.RowKit
open Go.ChangeMaps (open_string)
theorem embedded_lifted (os:Os) (started:os.Started) (H:Type) (enc:TypeId×Value→H):
  ReturnsInHanded {} Tryz.checked os 8 .any (fun w args=>(Rows.fnDiagEmbeddedSpec.pre enc Tryz.prog Tryz.f8 [] false w args∧laidMetH Tryz.prog laidU w)∧sizedMet enc Tryz.prog Tryz.f8 (OpenSpec.ofChange Rows.fnDiagEmbeddedSpec) false w args)
   (Rows.fnDiagEmbeddedSpec.post enc Tryz.prog Tryz.f8 false true false false):=by
 refine lift_row os started enc (by kernel_rfl) Tryz.func8 rfl rfl ?_ ?_
  (ChangeSpec.witness_at (enc:=enc) (C:=Tryz.checked) (os:=os) (X:=fun w _=>laidMetH Tryz.prog laidU w) false (laidWorld os) #[.string ⟨#[]⟩,.int .i64 0] 8 rfl (by kernel_rfl) (by kernel_rfl) (by kernel_rfl) (by kernel_rfl) (by kernel_rfl) (laid_met os _)) ?_
 ·intro ds h
  rw [Tryz.params8] at h
  match ds,h with
  |[d1,d2],_=>rfl
 ·rw [Tryz.params8]
  intro t ht
  have ht2:t=9∨t=3:=by simpa using ht
  rcases ht2 with rfl|rfl
  all_goals exact ⟨by kernel_rfl,of_decide_eq_true (by kernel_rfl)⟩
 ·intro W base args ds ps hval hA hu
  rw [Tryz.params8] at hA hval
  obtain ⟨v0,v1,d0,d1,p0,p1,rfl,rfl,rfl,h0,h1⟩:=trodAll_two hA
  obtain ⟨s,rfl,_⟩:=open_string Tryz.underlying9 (hval 0 9 v0 rfl rfl) h0
  obtain ⟨a,rfl,_⟩:=open_int Tryz.underlying3 (hval 1 3 v1 rfl rfl) h1
  rw [show (Value.string s)= .string ⟨s.data.toList.toArray⟩ from by cases s;simp]
  exact embedded_any _ a hu
theorem embedded_f1:Tryz.prog.inPlace 8=Rows.fnDiagEmbeddedRow.inPlace:=by kernel_rfl
theorem embedded_f2:Tryz.prog.unfollowed 8=Rows.fnDiagEmbeddedRow.unfollowed:=by kernel_rfl
theorem embedded_f3:Tryz.prog.recurses 8=Rows.fnDiagEmbeddedRow.recurses:=by kernel_rfl
theorem embedded_f4:Tryz.prog.varsNamed 8=Rows.fnDiagEmbeddedRow.named:=by kernel_rfl
theorem embedded_facts:joinedFacts Tryz.prog 8 Tryz.f8 Rows.fnDiagEmbeddedSpec Rows.fnDiagEmbeddedRow=true:=by
 unfold joinedFacts
 rw [embedded_f1,embedded_f2,embedded_f3,embedded_f4,Tryz.mayEnter,Tryz.liftsFinal,Tryz.make,Tryz.mapsRowed,Tryz.plainKeys,Tryz.stopsHeard,Tryz.laidOut]
 kernel_rfl
theorem embedded_goes:false=Rows.fnDiagEmbeddedRow.goesBy Tryz.prog:=by kernel_rfl
theorem embedded_name:Tryz.prog.funcNamed "pub-necessaire/laws.FnDiagEmbedded" =some 8:=by kernel_rfl
theorem embedded_row:Rows.FnDiagEmbeddedSaid:=
 OpenClaim.holds_of_wide 8 Tryz.f8 rfl rfl rfl rfl rfl rfl rfl ⟨rfl,rfl,rfl,rfl,rfl⟩ rfl rfl rfl rfl rfl embedded_name Tryz.func8 embedded_facts
  (of_decide_eq_true (by kernel_rfl)) (by unfold Func.isWrapper;first|(rw [if_pos (by decide+kernel)];kernel_rfl)|(rw [if_neg (by decide+kernel)];exact ⟨rfl,rfl⟩))
  (fun os started H enc _=>embedded_lifted os started H enc)
theorem embedded_card:Rows.FnDiagEmbeddedCardSaid:=
 Claim7.holds_tied_plain_at .later [] [.data,.pinned] true (true, "6290c9495f33fe9badd3dbfab1b5d898f91c774e4e5da1dae7cabe16e93ab7d6") true
  embedded_row (fun _ h=>by cases h) (by kernel_rfl) (fun _ h=>by cases h) fnDiagEmbedded_row_tie rfl ⟨rfl,rfl⟩ Tryz.mainIs rfl
  (fun f fn hf hfn=>by
   obtain rfl:f=8:=Option.some.inj (embedded_name.symm.trans hf)|>.symm
   obtain rfl:fn=Tryz.f8:=(Option.some.inj (Tryz.func8.symm.trans hfn)).symm
   exact ⟨by kernel_rfl,fun j t ht=>by
    rw [Tryz.params8] at ht
    rcases j with _|_|j
    ·have h3:t=9:=by simpa using ht.symm
     subst h3
     exact (show Tryz.prog.wantsStandIn 9=false by kernel_rfl)
    ·have h3:t=3:=by simpa using ht.symm
     subst h3
     exact (show Tryz.prog.wantsStandIn 3=false by kernel_rfl)
    ·simp at ht⟩)
  embedded_goes
end
end Go.Proofs.YteodinhkhhaafaaGreatDoor
