/- FnDiagFirst, its row and its card: for all parts, rests and options the law returns true: DiagnoseFirst returns the text of the first item and all bytes behind it, whatever they are. -/
import Derived.Test.YteodinhkhhaafaaGreatDoorDbw
import Derived.Test.YteodinhkhhaafaaGreatDoorCards
import Derived.Test.YteodinhkhhaafaaGreatDoorTie
set_option linter.unusedVariables false
set_option linter.unusedSimpArgs false
set_option maxRecDepth 100000
set_option maxHeartbeats 6400000
namespace Go.Proofs.YteodinhkhhaafaaGreatDoor
section
open Go.RowKit
theorem item_any {X:Cx} {M:Md} (hl:X.L=L0) (hm:X.M=M) (henc:M.enc<4) (hx:X.xs.length≤90000) {t:Tr} {off o:Nat} (h:Enc X.xs t off o):ItemC X off o (note (ntA L0 M) t):=
 item_note X (ntA L0 M) t off o h (leaf_all (leafC L0 M) hl hm hx t off o h ((enc_strs t off o h).imp (fun b hb=>bytC (L:=L0) (by decide) henc b (by omega) (says_any (L:=L0) (by decide) henc b (by omega) true)) t))
theorem diagFirst {X:Cx} {w:World} (h:St X 0 [] w) (hn:X.L.nest≤65535) (hel:X.L.el≤2147483647) (hpa:X.L.pa≤2147483647) {off':Nat} {T:List UInt8} (hq:wfTop X.L X.xs true 0 none) (hC:ItemC X 0 off' (txt T)) (hlen:T.length≤room):
  Calls Tryz.prog 99 #[.pointer (some ⟨X.di,0,none⟩)] w fun e w'=> ∃q c,e= .returned (.tuple #[.string ⟨T.toArray⟩,.slice (some ⟨X.db,q,none⟩) (X.xs.length-off') c,.nilIface])∧Rd w' X.db q (X.xs.drop off')∧Gr X.B [X.d,X.wb] w w':=by
 have K:=Hz (di_wellformed h hn hel hpa true none hq)
 replace hC:=Hz hC
 clear hq
 go_enter Tryz.func99,Tryz.ntmps99
 go_wp2_with fail
 refine K.out.mono ?_
 rintro e w2 ⟨v,rfl,hv,h2,G2⟩
 obtain rfl:=hv.nil
 have KI:=Hz (hC.out _ _ h2 (by show 0+T.length≤room;omega))
 go_wp2_with fail
 refine KI.out.mono ?_
 rintro e w3 ⟨v,o2,rfl,hv,ho,h3,G3⟩
 obtain rfl:v= .nilIface:=hv
 obtain rfl:=ho rfl
 rw [List.nil_append] at h3
 replace h3:St X o2 T w3:=h3
 have k2:=h3.i2
 have k1:=h3.i1
 have d0:=h3.dec.c0
 have d1:=h3.dec.c1
 have hle:=h3.dec.le
 have hcap:=h3.dec.cap
 have KS:=Hz (fun n=>string (h3.drewN n).buf)
 have G:=G2.trans G3
 have b1:(0:Int)≤(o2:Int):=by omega
 have b2:(o2:Int)≤(X.xs.length:Int):=by omega
 by_cases hco:X.c=o2
 ·have hl0:X.xs.length-o2=0:=by omega
  have hlx:X.xs.length=o2:=by omega
  go_wp2
  go_quiet ((go_at_call 106;exact Calls.quiet_of_same (KS.out _)))
  go_wp2
  refine bodyPost_ret (v:= .tuple #[.string ⟨T.toArray⟩,.slice (some ⟨X.db,X.o,none⟩) 0 0,.nilIface]) (by simp [results,Tryz.results99,go_sem, *]) rfl ?_
  refine ⟨X.o,0,by rw [hl0],?_,by repeat (first|with_reducible exact G|with_reducible refine Gr.drewN ?_ _)⟩
  rw [List.drop_of_length_le (by omega)]
  exact Rd.nil _ _ _
 ·go_wp2
  go_quiet ((go_at_call 106;exact Calls.quiet_of_same (KS.out _)))
  go_wp2
  refine bodyPost_ret (v:= .tuple #[.string ⟨T.toArray⟩,.slice (some ⟨X.db,X.o+o2,none⟩) (X.xs.length-o2) (X.c-o2),.nilIface]) (by simp [results,Tryz.results99,go_sem, *]) rfl ?_
  refine ⟨X.o+o2,X.c-o2,rfl,?_,by repeat (first|with_reducible exact G|with_reducible refine Gr.drewN ?_ _)⟩
  exact (h3.dec.rd.drop o2).fr (S:=[]) (by repeat (first|with_reducible exact Fr.refl _ _|with_reducible refine Fr.drewN ?_ _)) (by simp)
theorem diagnoseFirst {w:World} {db o c dm dg:Nat} {xs:List UInt8} {M:Md} {L:Lim} (hL:L.nest≤65535∧L.el≤2147483647∧L.pa≤2147483647) (hrd:Rd w db o xs) (hcap:xs.length≤c) (hlen:xs.length≤1099511627776) (hdb:db<w.heap.size) (hM:DgM w dg dm M) (hD:DecM w dm L.nest L.el L.pa) (hu:U8 w)
  {T:List UInt8} {off':Nat} (hq:wfTop L xs true 0 none) (hC: ∀X:Cx,X.xs=xs→X.L=L→X.M=M→ItemC X 0 off' (txt T)) (hroom:T.length≤room):
  Calls Tryz.prog 82 #[.pointer (some ⟨dg,0,none⟩),.slice (some ⟨db,o,none⟩) xs.length c] w fun e w'=> ∃g q c',e= .returned (.tuple #[.string ⟨T.toArray⟩,.slice (some ⟨g,q,none⟩) (xs.length-off') c',.nilIface])∧Rd w' g q (xs.drop off')∧Fr [] w w':=by
 have c6:w.cell? ⟨dg,6,none⟩=some (.pointer (some ⟨dm,0,none⟩)):=cell_blk hM 6
 have K1:=Hz (newDiagnose (w:=w) hrd hcap hlen hdb hM hD hu)
 replace hC:=Hz hC
 replace hq:=Hz hq
 replace hM:=Hz hM
 clear hu
 go_enter Tryz.func82,Tryz.ntmps82
 go_wp2_with fail
 refine K1.out.mono ?_
 rintro e w1 ⟨X,rfl,hx,hl,hm,hdg,-,-,-,hB,hd,hwb,hS,hf0⟩
 subst hx
 subst hl
 have K2:=Hz (diagFirst hS hL.1 hL.2.1 hL.2.2 hq.out (hC.out X rfl rfl hm) hroom)
 go_wp2_with fail
 refine K2.out.mono ?_
 rintro e w2 ⟨q,c',rfl,hr2,hG⟩
 have hf2:Fr [] w w2:=hf0.gr hG hB (by intro k hk;simp at hk;rcases hk with rfl|rfl<;>exact .inr (by assumption))
 go_wp2
 refine bodyPost_ret (v:= .tuple #[.string ⟨T.toArray⟩,.slice (some ⟨X.db,q,none⟩) (X.xs.length-off') c',.nilIface]) (by simp [results,Tryz.results82,go_sem]) rfl ?_
 exact ⟨X.db,q,c',rfl,hr2,hf2⟩
theorem implDiagFirst {xs:List UInt8} {M:Md} {n:Nat} {L:Lim} (hL:LimOf n L) (he:M.enc<4) (hlen:xs.length≤1099511627776) {T:List UInt8} {off':Nat} (hq:wfTop L xs true 0 none) (hC: ∀X:Cx,X.xs=xs→X.L=L→X.M=M→ItemC X 0 off' (txt T)) (hroom:T.length≤room) (w:World) (hu:U8 w):
  Calls Tryz.prog 52 #[.string ⟨xs.toArray⟩,diagOpts .i64 M n] w fun e w'=>e= .returned (.tuple #[.string ⟨T.toArray⟩,.string ⟨(xs.drop off').toArray⟩,.int .i64 0])∧Fr [] w w':=by
 have K1:=Hz (implMode M hL he)
 have hl:=hL.le
 replace hC:=Hz hC
 replace hq:=Hz hq
 replace hu:=Hz hu
 unfold diagOpts at *
 go_enter Tryz.func52,Tryz.ntmps52
 go_wp2_with fail
 refine (K1.out _).mono ?_
 rintro e w1 ⟨dg,dm,rfl,h1,h2,h3,h4,h5,h6,hf1⟩
 obtain ⟨c,w2,hconv,hrd,hcap,hsz,hf2⟩:=toBytes w1 xs
 have hF:Fr [] w w2:=(((Fr.refl [] w).alloc _).trans hf1).trans hf2
 have hu2:=hu.out.fr hF (by simp)
 have K2:=Hz (diagnoseFirst hl hrd hcap hlen hsz (hf2.blk h3 (by simp)) (hf2.blk h4 (by simp)) hu2 hq.out hC.out hroom)
 clear h1 h2 h3 h4 hu2
 go_wp2_with fail
 refine K2.out.mono ?_
 rintro e w3 ⟨g,q,c',rfl,hr3,hf3⟩
 have hd:(xs.drop off').length=xs.length-off':=List.length_drop
 rw [←hd]
 obtain ⟨rs,hrs⟩: ∃rs,xs.drop off'=rs:=⟨_,rfl⟩
 rw [hrs] at hr3 ⊢
 have ht: ∀n,(convert 59 9 (.slice (some ⟨g,q,none⟩) rs.length c')).run Tryz.prog (w3.drewN n)= .ok (.string ⟨rs.toArray⟩) (w3.drewN n):=fun n=>toStr (hr3.fr (S:=[]) ((Fr.refl _ _).drewN n) (by simp)) c'
 replace hrs:=Hz hrs
 clear hd hr3
 go_wp2
 go_quiet (fail)
 go_wp2
 refine bodyPost_ret (v:= .tuple #[.string ⟨T.toArray⟩,.string ⟨rs.toArray⟩,.int .i64 0]) (by simp [results,Tryz.results52,go_sem]) rfl ?_
 exact ⟨by rw [hrs.out],by refine (hF.trans hf3).trans ?_;repeat (first|with_reducible exact Fr.refl _ _|with_reducible refine Fr.drewN ?_ _)⟩
theorem implFirst_any {p rest:List UInt8} {t:Tr} {M:Md} (he:M.enc<4) (h:ItemOK 20 p t) (hx:rest.length≤1000) (w:World) (hu:U8 w):
  Calls Tryz.prog 52 #[.string ⟨(p++rest).toArray⟩,diagOpts .i64 M 0] w fun e w'=>e= .returned (.tuple #[.string ⟨(noteT M t).toArray⟩,.string ⟨rest.toArray⟩,.int .i64 0])∧Fr [] w w':=by
 have h1:=h.len
 have hp:=enc_lt h.enc
 have he2:=enc_at h.enc [] rest
 simp only [List.nil_append,List.length_nil,Nat.zero_add] at he2
 have hl:(p++rest).length≤90000:=by rw [List.length_append];omega
 obtain ⟨f,hw⟩:=wf_item L0 (p++rest) (by decide) (by decide) t 0 p.length 0 he2 (enc_fits he2 (by omega)) (by have:=dp_lev t;have:=h.lev;show 0+t.dp≤32;omega)
 have hr:(noteT M t).length≤room:=by
  have h2:=diagR_room L0 M false p (by omega)
  rw [item_text h (by omega),txt_len] at h2
  exact h2
 have K:=implDiagFirst (xs:=p++rest) (M:=M) (n:=0) (L:=L0) (.inl ⟨rfl,rfl⟩) he (by omega) (T:=noteT M t) (off':=p.length)
  (.inr ⟨by rw [List.length_append];omega,f,_,hw,rfl⟩)
  (fun X hxs hXl hXm=>by
   have:=item_any hXl hXm he (by rw [hxs];exact hl) (t:=t) (off:=0) (o:=p.length) (by rw [hxs];exact he2)
   rwa [note_txt h.snd] at this) hr w hu
 rwa [List.drop_left] at K
end
section
open Go.RowKit
theorem first_any {w:World} (p rest:List UInt8) (a x y z:Int) (sp tx em sq pr:Bool) (hu:U8 w):
  Calls Tryz.prog 19 #[.string ⟨p.toArray⟩,.string ⟨rest.toArray⟩,.agg #[.int .i64 a,.bool sp,.bool tx,.bool em,.bool sq,.bool pr,.int .i64 x,.int .i64 y,.int .i64 z]] w fun e w'=>e= .returned (.bool true)∧Fr [] w w':=by
 obtain ⟨k,hk,_,hk2⟩:=rem_nat a 4 (by decide) (by decide)
 have KO:=fun w=>optionsC a x y z sp tx em sq pr k hk2 w
 unfold diagOpts at KO
 replace KO:=Hz KO
 have KN:=Hz (fun W g (hf:Fr [] w W) (hc:W.cell? ⟨g,0,none⟩=some (.string ⟨p.toArray⟩)) (hp:p.length≤2147483647)=>notesW (ss:=[p]) (w:=W) (v:= .slice (some ⟨g,0,none⟩) 1 1) (.inr ⟨g,0,1,rfl,Nat.le_refl _,fun j hj=>(by obtain rfl:j=0:=(by simpa using hj);exact hc)⟩) (fun s hs=>by rw [List.mem_singleton.1 hs];omega) k sp tx em false pr hk (hu.fr hf (by simp)))
 by_cases hp:p.length≤2147483647
 ·have tp: ¬(2147483647:Int)<(p.length:Int):=by omega
  by_cases hr:rest.length≤2147483647
  ·have tr: ¬(2147483647:Int)<(rest.length:Int):=by omega
   have KA:=fun (W:World) (t:Tr) (h:ItemOK 20 p t) (hx:rest.length≤1000) (hu:U8 W)=>implFirst_any (M:=⟨k,sp,tx,em,false,pr⟩) hk h hx W hu
   unfold diagOpts at KA
   replace KA:=Hz KA
   replace hu:=Hz hu
   go_enter Tryz.func19,Tryz.ntmps19
   have hF1:Fr [] w (w.alloc (.cells #[.int .i64 a,.bool sp,.bool tx,.bool em,.bool sq,.bool pr,.int .i64 x,.int .i64 y,.int .i64 z] 24)):=(Fr.refl _ _).alloc _
   have hb1:=blk_new w (.cells #[.int .i64 a,.bool sp,.bool tx,.bool em,.bool sq,.bool pr,.int .i64 x,.int .i64 y,.int .i64 z] 24)
   obtain ⟨⟨c0,c1,c2,c3,c4,c5,c6,c7,c8⟩,f0,f1,f2,f3,f4,f5,f6,f7,f8⟩:=cells9 hb1
   replace hb1:=Hz hb1
   go_wp2_with fail
   refine (KO.out _).mono ?_
   rintro e w2 ⟨rfl,hf2⟩
   have hF2:=hF1.trans hf2
   have hb2:=hf2.blk hb1.out (by simp)
   clear c0 c1 c2 c3 c4 c5 c6 c7 c8 f0 f1 f2 f3 f4 f5 f6 f7 f8
   obtain ⟨⟨c0,c1,c2,c3,c4,c5,c6,c7,c8⟩,f0,f1,f2,f3,f4,f5,f6,f7,f8⟩:=cells9 hb2
   have hF3:Hid (Fr [] w ((put9 w2 w.heap.size (.int .i64 (k:Int)) (.bool sp) (.bool tx) (.bool em) (.bool sq) (.bool pr) (.int .i64 0) (.int .i64 0) (.int .i64 0)).setCell ⟨w.heap.size,4,none⟩ (.bool false))):=Hz ((hF2.then_ (Fr.put9 _ _ _ _ _ _ _ _ _ _ _) (by simp)).setCell (.inr (by simp)) _)
   have hb3:Hid (OBlk ((put9 w2 w.heap.size (.int .i64 (k:Int)) (.bool sp) (.bool tx) (.bool em) (.bool sq) (.bool pr) (.int .i64 0) (.int .i64 0) (.int .i64 0)).setCell ⟨w.heap.size,4,none⟩ (.bool false)) w.heap.size k sp tx em false pr):=Hz (blk_setCell (put9_blk hb2 _ _ _ _ _ _ _ _ _) 4 _)
   have hlt2:=blk_lt' hb2
   replace hb2:=Hz hb2
   go_upto_region 5 with fail
   replace hF3:Hid (Fr [] w ((((((((((w2.setCell ⟨w.heap.size,0,none⟩ (.int .i64 (k:Int))).setCell ⟨w.heap.size,1,none⟩ (.bool sp)).setCell ⟨w.heap.size,2,none⟩ (.bool tx)).setCell ⟨w.heap.size,3,none⟩ (.bool em)).setCell ⟨w.heap.size,4,none⟩ (.bool sq)).setCell ⟨w.heap.size,5,none⟩ (.bool pr)).setCell ⟨w.heap.size,6,none⟩ (.int .i64 0)).setCell ⟨w.heap.size,7,none⟩ (.int .i64 0)).setCell ⟨w.heap.size,8,none⟩ (.int .i64 0)).setCell ⟨w.heap.size,4,none⟩ (.bool false))):=hF3
   replace hb3:Hid (OBlk ((((((((((w2.setCell ⟨w.heap.size,0,none⟩ (.int .i64 (k:Int))).setCell ⟨w.heap.size,1,none⟩ (.bool sp)).setCell ⟨w.heap.size,2,none⟩ (.bool tx)).setCell ⟨w.heap.size,3,none⟩ (.bool em)).setCell ⟨w.heap.size,4,none⟩ (.bool sq)).setCell ⟨w.heap.size,5,none⟩ (.bool pr)).setCell ⟨w.heap.size,6,none⟩ (.int .i64 0)).setCell ⟨w.heap.size,7,none⟩ (.int .i64 0)).setCell ⟨w.heap.size,8,none⟩ (.int .i64 0)).setCell ⟨w.heap.size,4,none⟩ (.bool false)) w.heap.size k sp tx em false pr):=hb3
   clear c0 c1 c2 c3 c4 c5 c6 c7 c8 f0 f1 f2 f3 f4 f5 f6 f7 f8
   generalize (((((((((w2.setCell ⟨w.heap.size,0,none⟩ (.int .i64 (k:Int))).setCell ⟨w.heap.size,1,none⟩ (.bool sp)).setCell ⟨w.heap.size,2,none⟩ (.bool tx)).setCell ⟨w.heap.size,3,none⟩ (.bool em)).setCell ⟨w.heap.size,4,none⟩ (.bool sq)).setCell ⟨w.heap.size,5,none⟩ (.bool pr)).setCell ⟨w.heap.size,6,none⟩ (.int .i64 0)).setCell ⟨w.heap.size,7,none⟩ (.int .i64 0)).setCell ⟨w.heap.size,8,none⟩ (.int .i64 0)).setCell ⟨w.heap.size,4,none⟩ (.bool false)=w3 at *
   obtain ⟨⟨c0,c1,c2,c3,c4,c5,c6,c7,c8⟩,_⟩:=cells9 hb3.out
   have hlt3:=blk_lt' hb3.out
   go_wp2_with fail
   have hcp:(w3.alloc (.cells #[.string ⟨p.toArray⟩] 9)).cell? ⟨w3.heap.size,0,none⟩=some (.string ⟨p.toArray⟩):=cell_blk (blk_new w3 _) 0
   refine (KN.out _ _ (hF3.out.alloc _) hcp hp).mono ?_
   rintro e w4 ⟨hf4,h4⟩
   have hF4:=(hF3.out.alloc _).trans hf4
   have hb4:OBlk w4 w.heap.size k sp tx em false pr:=hf4.blk (blk_alloc hb3.out _) (by simp)
   clear c0 c1 c2 c3 c4 c5 c6 c7 c8 hcp
   rw [notes_one] at h4
   cases hN:itemF p 20 with
   |none=>
    rw [hN] at h4
    dsimp only [Option.map_none] at h4
    subst h4
    clear hN
    go_wp2
    go_ret
    exact ⟨rfl,hF4⟩
   |some t=>
    rw [hN] at h4
    dsimp only [Option.map_some] at h4
    obtain ⟨v4,rfl,hR4⟩:=h4
    have hS4:=hR4.strs
    have hok:=itemF_ok hN
    have hpl:=hok.len
    rw [List.flatten_cons,List.flatten_nil,List.append_nil]
    by_cases h3:rest.length≤1000
    ·have t3: ¬(1000:Int)<(rest.length:Int):=by omega
     have KD:=fun W hu=>KA.out W t hok h3 hu
     obtain ⟨NT,hNT⟩: ∃NT,noteT ⟨k,sp,tx,em,false,pr⟩ t=NT:=⟨_,rfl⟩
     rw [List.map_cons,List.map_nil,hNT] at hS4
     rw [hNT] at KD
     obtain ⟨g,o,c,rfl,_,hcell⟩: ∃g o c,v4= .slice (some ⟨g,o,none⟩) 1 c∧1≤c∧w4.cell? ⟨g,o,none⟩=some (.string ⟨NT.toArray⟩):=by
      rcases hS4 with ⟨h0,_⟩|⟨g,o,c,h1,h2,h3⟩
      ·cases h0
      ·exact ⟨g,o,c,h1,h2,h3 0 (by simp)⟩
     have g1:(⟨(p++rest).toArray⟩:ByteArray)=⟨p.toArray⟩++⟨rest.toArray⟩:=(mk_append _ _).symm
     rw [g1] at KD
     have q1: ¬9223372036854775807<p.length+rest.length:=by omega
     have hbb: ∀b:ByteArray,(b==b)=true:=ba_self
     obtain ⟨⟨c0,c1,c2,c3,c4,c5,c6,c7,c8⟩,_⟩:=cells9 hb4
     replace KD:=Hz KD
     clear hN hok hpl g1 hS4 hR4 KA
     go_wp2_with fail
     refine (KD.out _ (hu.out.fr hF4 (by simp))).mono ?_
     rintro e w5 ⟨rfl,hf5⟩
     have hc5:=hf5.cell hcell (by simp)
     clear c0 c1 c2 c3 c4 c5 c6 c7 c8
     go_wp2
     go_ret
     exact ⟨rfl,hF4.trans hf5⟩
    ·have t3:(1000:Int)<(rest.length:Int):=by omega
     clear hN hok
     go_wp2
     go_ret
     exact ⟨rfl,hF4⟩
  ·have tr:(2147483647:Int)<(rest.length:Int):=by omega
   go_enter Tryz.func19,Tryz.ntmps19
   go_wp2
   go_ret
   exact ⟨rfl,(Fr.refl _ _).alloc _⟩
 ·have tp:(2147483647:Int)<(p.length:Int):=by omega
  go_enter Tryz.func19,Tryz.ntmps19
  go_wp2
  go_ret
  exact ⟨rfl,(Fr.refl _ _).alloc _⟩
end
section
open Go.ChangeShapes Go.WideShapes Go.RowKit
open Go.ChangeMaps (open_string)
theorem first_lifted (os:Os) (started:os.Started) (H:Type) (enc:TypeId×Value→H):
  ReturnsInHanded {} Tryz.checked os 19 .any (fun w args=>(Rows.fnDiagFirstSpec.pre enc Tryz.prog Tryz.f19 [] false w args∧laidMetH Tryz.prog laidU w)∧sizedMet enc Tryz.prog Tryz.f19 (OpenSpec.ofChange Rows.fnDiagFirstSpec) false w args)
   (Rows.fnDiagFirstSpec.post enc Tryz.prog Tryz.f19 false true false false):=by
 refine lift_row os started enc (by kernel_rfl) Tryz.func19 rfl rfl ?_ ?_
  (ChangeSpec.witness_at (enc:=enc) (C:=Tryz.checked) (os:=os) (X:=fun w _=>laidMetH Tryz.prog laidU w) false (laidWorld os) #[.string ⟨#[]⟩,.string ⟨#[]⟩,.agg #[.int .i64 0,.bool false,.bool false,.bool false,.bool false,.bool false,.int .i64 0,.int .i64 0,.int .i64 0]] 8 rfl (by kernel_rfl) (by kernel_rfl) (by kernel_rfl) (by kernel_rfl) (by kernel_rfl) (laid_met os _)) ?_
 ·intro ds h
  rw [Tryz.params19] at h
  match ds,h with
  |[d1,d2,d3],_=>rfl
 ·rw [Tryz.params19]
  intro t ht
  have ht2:t=9∨t=24:=by simpa using ht
  rcases ht2 with rfl|rfl
  all_goals exact ⟨by kernel_rfl,of_decide_eq_true (by kernel_rfl)⟩
 ·intro W base args ds ps hval hA hu
  rw [Tryz.params19] at hA hval
  obtain ⟨v0,v1,v2,d0,d1,d2,p0,p1,p2,rfl,rfl,rfl,h0,h1,h2⟩:=trodAll_three hA
  obtain ⟨s,rfl,_⟩:=open_string Tryz.underlying9 (hval 0 9 v0 rfl rfl) h0
  obtain ⟨q,rfl,_⟩:=open_string Tryz.underlying9 (hval 1 9 v1 rfl rfl) h1
  obtain ⟨a,x,y,z,sp,tx,em,sq,pr,rfl⟩:=open_opts (hval 2 24 v2 rfl rfl) h2
  rw [show (Value.string s)= .string ⟨s.data.toList.toArray⟩ from by cases s;simp]
  rw [show (Value.string q)= .string ⟨q.data.toList.toArray⟩ from by cases q;simp]
  exact first_any _ _ a x y z sp tx em sq pr hu
theorem first_f1:Tryz.prog.inPlace 19=Rows.fnDiagFirstRow.inPlace:=by kernel_rfl
theorem first_f2:Tryz.prog.unfollowed 19=Rows.fnDiagFirstRow.unfollowed:=by kernel_rfl
theorem first_f3:Tryz.prog.recurses 19=Rows.fnDiagFirstRow.recurses:=by kernel_rfl
theorem first_f4:Tryz.prog.varsNamed 19=Rows.fnDiagFirstRow.named:=by kernel_rfl
theorem first_facts:joinedFacts Tryz.prog 19 Tryz.f19 Rows.fnDiagFirstSpec Rows.fnDiagFirstRow=true:=by
 unfold joinedFacts
 rw [first_f1,first_f2,first_f3,first_f4,Tryz.mayEnter,Tryz.liftsFinal,Tryz.make,Tryz.mapsRowed,Tryz.plainKeys,Tryz.stopsHeard,Tryz.laidOut]
 kernel_rfl
theorem first_goes:false=Rows.fnDiagFirstRow.goesBy Tryz.prog:=by kernel_rfl
theorem first_name:Tryz.prog.funcNamed "pub-necessaire/laws.FnDiagFirst" =some 19:=by kernel_rfl
theorem first_row:Rows.FnDiagFirstSaid:=
 OpenClaim.holds_of_wide 19 Tryz.f19 rfl rfl rfl rfl rfl rfl rfl ⟨rfl,rfl,rfl,rfl,rfl⟩ rfl rfl rfl rfl rfl first_name Tryz.func19 first_facts
  (of_decide_eq_true (by kernel_rfl)) (by unfold Func.isWrapper;first|(rw [if_pos (by decide+kernel)];kernel_rfl)|(rw [if_neg (by decide+kernel)];exact ⟨rfl,rfl⟩))
  (fun os started H enc _=>first_lifted os started H enc)
theorem first_card:Rows.FnDiagFirstCardSaid:=
 Claim7.holds_tied_plain_at .later [] [.data,.pinned] true (true, "6290c9495f33fe9badd3dbfab1b5d898f91c774e4e5da1dae7cabe16e93ab7d6") true
  first_row (fun _ h=>by cases h) (by kernel_rfl) (fun _ h=>by cases h) fnDiagFirst_row_tie rfl ⟨rfl,rfl⟩ Tryz.mainIs rfl
  (fun f fn hf hfn=>by
   obtain rfl:f=19:=Option.some.inj (first_name.symm.trans hf)|>.symm
   obtain rfl:fn=Tryz.f19:=(Option.some.inj (Tryz.func19.symm.trans hfn)).symm
   exact ⟨by kernel_rfl,fun j t ht=>by
    rw [Tryz.params19] at ht
    rcases j with _|_|_|j
    ·have h3:t=9:=by simpa using ht.symm
     subst h3
     exact (show Tryz.prog.wantsStandIn 9=false by kernel_rfl)
    ·have h3:t=9:=by simpa using ht.symm
     subst h3
     exact (show Tryz.prog.wantsStandIn 9=false by kernel_rfl)
    ·have h3:t=24:=by simpa using ht.symm
     subst h3
     exact (show Tryz.prog.wantsStandIn 24=false by kernel_rfl)
    ·simp at ht⟩)
  first_goes
end
end Go.Proofs.YteodinhkhhaafaaGreatDoor
