/- Walks of the program, and plain facts. -/
import Derived.Test.YteodinhkhhaafaaGreatDoorEah
set_option linter.unusedVariables false
set_option linter.unusedSimpArgs false
set_option maxRecDepth 100000
set_option maxHeartbeats 6400000
namespace Go.Proofs.YteodinhkhhaafaaGreatDoor
section
open Go.RowKit
section
variable {X:Cx} {off:Nat} {bs:List UInt8} {w:World}
theorem di_false (h:St X off bs w) {v o1:Nat} (hh:hd X.xs off= .ok (7,20,v,o1)) (hlen:bs.length+(txt [102,97,108,115,101]).1.length≤room):
  Calls Tryz.prog 105 #[.pointer (some ⟨X.di,0,none⟩)] w (IPost X o1 bs (txt [102,97,108,115,101]) w):=by
 obtain ⟨hl,hb1,hb2⟩:=hd_byte hh;have hv:=(hd_val hh).1;have hai:=(hd_off hh).2.2.2;have hai2:=(hd_off hh).2.2.1;have k1:=h.i1;have k2:=h.i2;have d0:=h.dec.c0;have d1:=h.dec.c1;have ha:=h.dec.at_ off hl;have hm:=h.dec.len;have KT:=fun n=>nextCBORType (h.dec.drewN n) hl
 rw [hb1] at KT;have KH:=fun n=>getHead (h.dec.drewN n) hh
 replace hlen:=Hz hlen;replace KT:=Hz KT;replace KH:=Hz KH;replace hh:=Hz hh;have g95:((X.xs[off].toNat:Int)==95)=false:=by simp;omega
 have g127:((X.xs[off].toNat:Int)==127)=false:=by simp;omega
 have g159:((X.xs[off].toNat:Int)==159)=false:=by simp;omega
 have g191:((X.xs[off].toNat:Int)==191)=false:=by simp;omega
 generalize (X.xs[off].toNat:Int)=x0 at *
 clear hb1 hb2 hai;have b1:(off:Int)<(X.xs.length:Int):=by omega
 have b2:(0:Int)≤(off:Int):=by omega
 have b3:(off:Int).toNat=off:=by omega
 go_enter Tryz.func105,Tryz.ntmps105
 go_wp2
 go_quiet (fail)
 go_wp2_with fail
 refine (KT.out _).mono ?_
 rintro e w1 ⟨rfl,nm,rfl⟩;go_wp2_with fail
 refine (KH.out _).mono ?_
 rintro e w1 ⟨rfl,hD,hf⟩;have h1:=(h.drewN _).moved hf hD;have G1:=h.grF (((Fr.refl [X.d] w).drewN _).trans hf);have k1:=h1.i1;have k2:=h1.i2;have K2:=Hz (fun n=>writeString (h1.drewN n).buf h1.lw (h1.drewN n).hB [102,97,108,115,101] (hlen.out))
 go_wp2_with fail
 refine (K2.out 0).mono ?_
 rintro e w2 ⟨⟨u2,rfl⟩,hb2,hg2⟩;have h2:=h1.wrote hg2 hb2;have G2:=G1.trans (St.grW hg2);go_wp2;go_ret
 exact ⟨_,_,rfl,rfl,fun _=>rfl,h2,G2⟩
theorem di_true (h:St X off bs w) {v o1:Nat} (hh:hd X.xs off= .ok (7,21,v,o1)) (hlen:bs.length+(txt [116,114,117,101]).1.length≤room):
  Calls Tryz.prog 105 #[.pointer (some ⟨X.di,0,none⟩)] w (IPost X o1 bs (txt [116,114,117,101]) w):=by
 obtain ⟨hl,hb1,hb2⟩:=hd_byte hh;have hv:=(hd_val hh).1;have hai:=(hd_off hh).2.2.2;have hai2:=(hd_off hh).2.2.1;have k1:=h.i1;have k2:=h.i2;have d0:=h.dec.c0;have d1:=h.dec.c1;have ha:=h.dec.at_ off hl;have hm:=h.dec.len;have KT:=fun n=>nextCBORType (h.dec.drewN n) hl
 rw [hb1] at KT;have KH:=fun n=>getHead (h.dec.drewN n) hh
 replace hlen:=Hz hlen;replace KT:=Hz KT;replace KH:=Hz KH;replace hh:=Hz hh;have g95:((X.xs[off].toNat:Int)==95)=false:=by simp;omega
 have g127:((X.xs[off].toNat:Int)==127)=false:=by simp;omega
 have g159:((X.xs[off].toNat:Int)==159)=false:=by simp;omega
 have g191:((X.xs[off].toNat:Int)==191)=false:=by simp;omega
 generalize (X.xs[off].toNat:Int)=x0 at *
 clear hb1 hb2 hai;have b1:(off:Int)<(X.xs.length:Int):=by omega
 have b2:(0:Int)≤(off:Int):=by omega
 have b3:(off:Int).toNat=off:=by omega
 go_enter Tryz.func105,Tryz.ntmps105
 go_wp2
 go_quiet (fail)
 go_wp2_with fail
 refine (KT.out _).mono ?_
 rintro e w1 ⟨rfl,nm,rfl⟩;go_wp2_with fail
 refine (KH.out _).mono ?_
 rintro e w1 ⟨rfl,hD,hf⟩;have h1:=(h.drewN _).moved hf hD;have G1:=h.grF (((Fr.refl [X.d] w).drewN _).trans hf);have k1:=h1.i1;have k2:=h1.i2;have K2:=Hz (fun n=>writeString (h1.drewN n).buf h1.lw (h1.drewN n).hB [116,114,117,101] (hlen.out))
 go_wp2_with fail
 refine (K2.out 0).mono ?_
 rintro e w2 ⟨⟨u2,rfl⟩,hb2,hg2⟩;have h2:=h1.wrote hg2 hb2;have G2:=G1.trans (St.grW hg2);go_wp2;go_ret
 exact ⟨_,_,rfl,rfl,fun _=>rfl,h2,G2⟩
theorem di_null (h:St X off bs w) {v o1:Nat} (hh:hd X.xs off= .ok (7,22,v,o1)) (hlen:bs.length+(txt [110,117,108,108]).1.length≤room):
  Calls Tryz.prog 105 #[.pointer (some ⟨X.di,0,none⟩)] w (IPost X o1 bs (txt [110,117,108,108]) w):=by
 obtain ⟨hl,hb1,hb2⟩:=hd_byte hh;have hv:=(hd_val hh).1;have hai:=(hd_off hh).2.2.2;have hai2:=(hd_off hh).2.2.1;have k1:=h.i1;have k2:=h.i2;have d0:=h.dec.c0;have d1:=h.dec.c1;have ha:=h.dec.at_ off hl;have hm:=h.dec.len;have KT:=fun n=>nextCBORType (h.dec.drewN n) hl
 rw [hb1] at KT;have KH:=fun n=>getHead (h.dec.drewN n) hh
 replace hlen:=Hz hlen;replace KT:=Hz KT;replace KH:=Hz KH;replace hh:=Hz hh;have g95:((X.xs[off].toNat:Int)==95)=false:=by simp;omega
 have g127:((X.xs[off].toNat:Int)==127)=false:=by simp;omega
 have g159:((X.xs[off].toNat:Int)==159)=false:=by simp;omega
 have g191:((X.xs[off].toNat:Int)==191)=false:=by simp;omega
 generalize (X.xs[off].toNat:Int)=x0 at *
 clear hb1 hb2 hai;have b1:(off:Int)<(X.xs.length:Int):=by omega
 have b2:(0:Int)≤(off:Int):=by omega
 have b3:(off:Int).toNat=off:=by omega
 go_enter Tryz.func105,Tryz.ntmps105
 go_wp2
 go_quiet (fail)
 go_wp2_with fail
 refine (KT.out _).mono ?_
 rintro e w1 ⟨rfl,nm,rfl⟩;go_wp2_with fail
 refine (KH.out _).mono ?_
 rintro e w1 ⟨rfl,hD,hf⟩;have h1:=(h.drewN _).moved hf hD;have G1:=h.grF (((Fr.refl [X.d] w).drewN _).trans hf);have k1:=h1.i1;have k2:=h1.i2;have K2:=Hz (fun n=>writeString (h1.drewN n).buf h1.lw (h1.drewN n).hB [110,117,108,108] (hlen.out))
 go_wp2_with fail
 refine (K2.out 0).mono ?_
 rintro e w2 ⟨⟨u2,rfl⟩,hb2,hg2⟩;have h2:=h1.wrote hg2 hb2;have G2:=G1.trans (St.grW hg2);go_wp2;go_ret
 exact ⟨_,_,rfl,rfl,fun _=>rfl,h2,G2⟩
theorem di_undefined (h:St X off bs w) {v o1:Nat} (hh:hd X.xs off= .ok (7,23,v,o1)) (hlen:bs.length+(txt [117,110,100,101,102,105,110,101,100]).1.length≤room):
  Calls Tryz.prog 105 #[.pointer (some ⟨X.di,0,none⟩)] w (IPost X o1 bs (txt [117,110,100,101,102,105,110,101,100]) w):=by
 obtain ⟨hl,hb1,hb2⟩:=hd_byte hh;have hv:=(hd_val hh).1;have hai:=(hd_off hh).2.2.2;have hai2:=(hd_off hh).2.2.1;have k1:=h.i1;have k2:=h.i2;have d0:=h.dec.c0;have d1:=h.dec.c1;have ha:=h.dec.at_ off hl;have hm:=h.dec.len;have KT:=fun n=>nextCBORType (h.dec.drewN n) hl
 rw [hb1] at KT;have KH:=fun n=>getHead (h.dec.drewN n) hh
 replace hlen:=Hz hlen;replace KT:=Hz KT;replace KH:=Hz KH;replace hh:=Hz hh;have g95:((X.xs[off].toNat:Int)==95)=false:=by simp;omega
 have g127:((X.xs[off].toNat:Int)==127)=false:=by simp;omega
 have g159:((X.xs[off].toNat:Int)==159)=false:=by simp;omega
 have g191:((X.xs[off].toNat:Int)==191)=false:=by simp;omega
 generalize (X.xs[off].toNat:Int)=x0 at *
 clear hb1 hb2 hai;have b1:(off:Int)<(X.xs.length:Int):=by omega
 have b2:(0:Int)≤(off:Int):=by omega
 have b3:(off:Int).toNat=off:=by omega
 go_enter Tryz.func105,Tryz.ntmps105
 go_wp2
 go_quiet (fail)
 go_wp2_with fail
 refine (KT.out _).mono ?_
 rintro e w1 ⟨rfl,nm,rfl⟩;go_wp2_with fail
 refine (KH.out _).mono ?_
 rintro e w1 ⟨rfl,hD,hf⟩;have h1:=(h.drewN _).moved hf hD;have G1:=h.grF (((Fr.refl [X.d] w).drewN _).trans hf);have k1:=h1.i1;have k2:=h1.i2;have K2:=Hz (fun n=>writeString (h1.drewN n).buf h1.lw (h1.drewN n).hB [117,110,100,101,102,105,110,101,100] (hlen.out))
 go_wp2_with fail
 refine (K2.out 0).mono ?_
 rintro e w2 ⟨⟨u2,rfl⟩,hb2,hg2⟩;have h2:=h1.wrote hg2 hb2;have G2:=G1.trans (St.grW hg2);go_wp2;go_ret
 exact ⟨_,_,rfl,rfl,fun _=>rfl,h2,G2⟩
theorem di_simple (h:St X off bs w) {ai v o1:Nat} (hh:hd X.xs off= .ok (7,ai,v,o1)) (hn:ai<20∨ai=24∨27<ai) {res:R} (hres:thenR (txt [115,105,109,112,108,101,40]) (thenR (txt (dec v)) (txt [41]))=res) (hlen:bs.length+res.1.length≤room):
  Calls Tryz.prog 105 #[.pointer (some ⟨X.di,0,none⟩)] w (IPost X o1 bs res w):=by
 obtain ⟨hl,hb1,hb2⟩:=hd_byte hh;have hv:=(hd_val hh).1;have hai:=(hd_off hh).2.2.2;have hai2:=(hd_off hh).2.2.1;have k1:=h.i1;have k2:=h.i2;have d0:=h.dec.c0;have d1:=h.dec.c1;have ha:=h.dec.at_ off hl;have hm:=h.dec.len;have KT:=fun n=>nextCBORType (h.dec.drewN n) hl
 rw [hb1] at KT;have KH:=fun n=>getHead (h.dec.drewN n) hh
 have ga20:((ai:Int)==20)=false:=by simp;omega
 have ga21:((ai:Int)==21)=false:=by simp;omega
 have ga22:((ai:Int)==22)=false:=by simp;omega
 have ga23:((ai:Int)==23)=false:=by simp;omega
 have ga25:((ai:Int)==25)=false:=by simp;omega
 have ga26:((ai:Int)==26)=false:=by simp;omega
 have ga27:((ai:Int)==27)=false:=by simp;omega
 have KF:=Hz (formatUint v hv);have L0:Togo bs (thenR (txt [115,105,109,112,108,101,40]) (thenR (txt (dec v)) (txt [41]))) bs res:=by rw [hres];exact Togo.refl _ _
 replace hres:=Hz hres;replace L0:=Hz L0;replace KT:=Hz KT;replace KH:=Hz KH;replace hh:=Hz hh;have g95:((X.xs[off].toNat:Int)==95)=false:=by simp;omega
 have g127:((X.xs[off].toNat:Int)==127)=false:=by simp;omega
 have g159:((X.xs[off].toNat:Int)==159)=false:=by simp;omega
 have g191:((X.xs[off].toNat:Int)==191)=false:=by simp;omega
 generalize (X.xs[off].toNat:Int)=x0 at *
 clear hb1 hb2 hai;have b1:(off:Int)<(X.xs.length:Int):=by omega
 have b2:(0:Int)≤(off:Int):=by omega
 have b3:(off:Int).toNat=off:=by omega
 go_enter Tryz.func105,Tryz.ntmps105
 go_wp2
 go_quiet (fail)
 go_wp2_with fail
 refine (KT.out _).mono ?_
 rintro e w1 ⟨rfl,nm,rfl⟩;go_wp2_with fail
 refine (KH.out _).mono ?_
 rintro e w1 ⟨rfl,hD,hf⟩;have h1:=(h.drewN _).moved hf hD;have G1:=h.grF (((Fr.refl [X.d] w).drewN _).trans hf);have k1:=h1.i1;have k2:=h1.i2;have K2:=Hz (fun n=>writeString (h1.drewN n).buf h1.lw (h1.drewN n).hB [115,105,109,112,108,101,40] (L0.out.len_tx hlen))
 go_wp2_with fail
 refine (K2.out 0).mono ?_
 rintro e w2 ⟨⟨u2,rfl⟩,hb2,hg2⟩;have h2:=h1.wrote hg2 hb2;have G2:=G1.trans (St.grW hg2);have k2:=h2.i2;have L2:=Hz L0.out.tx;have hlen1:=Hz (L2.out.len_tx hlen);go_wp2
 go_region_held3 (fun w'=>w'.cell? ⟨X.di,2,none⟩=some (.pointer (some ⟨X.wb,0,none⟩))) (first|go_keep|exact h3.i2|exact h4.i2)
  (first|(go_at_call 122;refine (KF.out _).mono ?_;rintro e w3 ⟨rfl,hf3⟩;have h3:=St.kept (by first|exact h2|exact St.drewN h2 _) hf3;have G3:=(St.gr0 (by first|exact h2|exact St.drewN h2 _) hf3))|(go_at_call 104;refine (writeString h3.buf h3.lw h3.hB (dec v) hlen1.out).mono ?_;rintro e w4 ⟨⟨u3,rfl⟩,hb4,hg4⟩;have h4:=h3.wrote hg4 hb4))
 have G4:=(G2.drewN 1).trans (Gr.trans G3 (St.grW hg4));have L3:=Hz L2.out.tx;have K5:=Hz (fun n=>writeByte (h4.drewN n).buf h4.lw (h4.drewN n).hB 41 (L3.out.lt1 hlen))
 go_wp2_with fail
 refine (K5.out 0).mono ?_
 rintro e w5 ⟨rfl,hb5,hg5⟩;have h5:=h4.wrote hg5 hb5;have G5:=G4.trans (St.grW hg5);go_wp2;go_ret
 exact IPost.done h5 G5 L3.out
end
end
section
open Go.RowKit
theorem St.step {X:Cx} {off:Nat} {bs:List UInt8} {w:World} (h:St X off bs w) (hl:off<X.xs.length) (n:Nat):St X (off+1) bs ((w.drewN n).setCell ⟨X.d,1,none⟩ (.int .i64 ((off:Int)+1)))∧Gr X.B [X.d,X.wb] w ((w.drewN n).setCell ⟨X.d,1,none⟩ (.int .i64 ((off:Int)+1))):=by
 have hF:Fr [X.d] w ((w.drewN n).setCell ⟨X.d,1,none⟩ (.int .i64 ((off:Int)+1))):=((Fr.refl [X.d] w).drewN n).setCell (by simp) _
 exact ⟨h.moved hF (DecV.dec (x:=(off:Int)+1) ((h.dec.v.drewN n).set _) (off+1) (by omega) (by omega)),h.grF hF⟩
inductive KidsO (X:Cx):Nat→Nat→List R→Prop
 |nil {off:Nat} (hl:off<X.xs.length) (hb:X.xs[off].toNat=255):KidsO X off (off+1) []
 |cons {off mid off':Nat} {r:R} {l:List R} (hl:off<X.xs.length) (hb:X.xs[off].toNat≠255):ItemC X off mid r→KidsO X mid off' l→KidsO X off off' (r::l)
inductive KidsO2 (X:Cx):Nat→Nat→List (R×R)→Prop
 |nil {off:Nat} (hl:off<X.xs.length) (hb:X.xs[off].toNat=255):KidsO2 X off (off+1) []
 |cons {off m1 m2 off':Nat} {r s:R} {l:List (R×R)} (hl:off<X.xs.length) (hb:X.xs[off].toNat≠255):ItemC X off m1 r→ItemC X m1 m2 s→KidsO2 X m2 off' l→KidsO2 X off off' ((r,s)::l)
section
variable {X:Cx} {off:Nat} {bs:List UInt8} {w:World}
theorem di_oarr (h:St X off bs w) {off2:Nat} {l:List R} (hl:off<X.xs.length) (hb:X.xs[off].toNat=159) (hKids:KidsO X (off+1) off2 l) (hcap:l.length≤2147483647) {res:R} (hres:thenR (txt [91,95,32]) (arrR [93] 0 l)=res) (hlen:bs.length+res.1.length≤room):
  Calls Tryz.prog 105 #[.pointer (some ⟨X.di,0,none⟩)] w (IPost X off2 bs res w):=by
 have k1:=h.i1;have k2:=h.i2;have d0:=h.dec.c0;have d1:=h.dec.c1;have df:=h.dec.f1;have ha:=h.dec.at_ off hl;have hm:=h.dec.len;have g95:((X.xs[off].toNat:Int)==95)=false:=by simp;omega
 have g127:((X.xs[off].toNat:Int)==127)=false:=by simp;omega
 have g159:((X.xs[off].toNat:Int)==159)=true:=by simp;omega
 have g191:((X.xs[off].toNat:Int)==191)=false:=by simp;omega
 generalize (X.xs[off].toNat:Int)=x0 at *
 clear hb;have L0:Togo bs (thenR (txt [91,95,32]) (arrR [93] 0 l)) bs res:=by rw [hres];exact Togo.refl _ _
 replace hres:=Hz hres;replace L0:=Hz L0;replace hKids:=Hz hKids;have b1:(off:Int)<(X.xs.length:Int):=by omega
 have b2:(0:Int)≤(off:Int):=by omega
 have b3:(off:Int).toNat=off:=by omega
 have wo:IntKind.i64.wrap ((off:Int)+1)=((off+1:Nat):Int):=by
  have:=wrap_pos (off+1) (by omega)
  simpa using this
 go_enter Tryz.func105,Tryz.ntmps105
 go_wp2
 go_quiet (fail)
 obtain ⟨h1,G1⟩:=h.step hl nq;have K2:=Hz (writeString h1.buf h1.lw h1.hB [91,95,32] (L0.out.len_tx hlen));go_wp2_with fail
 refine K2.out.mono ?_
 rintro e w2 ⟨⟨u2,rfl⟩,hb2,hg2⟩;have h2:=h1.wrote hg2 hb2;have G2:=G1.trans (St.grW hg2);have L2:=Hz L0.out.tx;clear ha k1 k2 d0 d1 df;go_wp2
 go_loopg [6] l.length (fun k v6 wr=> ∃(i:Nat) (l2:List R) (off:Nat) (bs':List UInt8),v6= .int .i64 (i:Int)∧Hid (i+k=l.length)∧Hid (l2.length=k)∧Hid (KidsO X off off2 l2)∧Hid (Togo bs' (arrR [93] i l2) bs res)∧St X off bs' wr∧Gr X.B [X.d,X.wb] w wr)
 case atStart=>exact ⟨0,l,off+1,_,by go_num,Nat.zero_add _,rfl,hKids,L2,h2,G2⟩
 case round=>
  obtain ⟨i,l2,off3,bs3,rfl,hi,hlk,hK,L3,h3,G3⟩:=hrel;have i1_3:=h3.i1;have i2_3:=h3.i2;by_cases hk:gk=0
  ·subst hk;obtain rfl:=List.eq_nil_of_length_eq_zero hlk.out;obtain ⟨hl3,hb3,rfl⟩: ∃hl:off3<X.xs.length,X.xs[off3].toNat=255∧off2=off3+1:=by cases hK.out with|nil a b=>exact ⟨a,b,rfl⟩
   have KB:=Hz (foundBreak_yes h3.dec hl3 (by simp [hb3]))
   go_wp2_with fail
   refine KB.out.mono ?_
   rintro e w4 ⟨rfl,hD4,hF4⟩;have h4:=h3.moved hF4 hD4;have G4:=G3.trans (h3.grF hF4);have i2_4:=h4.i2;have K5:=Hz (fun n=>writeByte (h4.drewN n).buf h4.lw (h4.drewN n).hB 93 (L3.out.lt1 hlen))
   go_wp2_with fail
   refine (K5.out 0).mono ?_
   rintro e w5 ⟨rfl,hb5,hg5⟩;have h5:=h4.wrote hg5 hb5;have G5:=G4.trans (St.grW hg5);go_wp2;go_ret
   exact IPost.done h5 G5 L3.out
  ·obtain ⟨g,rfl⟩: ∃g,gk=g+1:=⟨gk-1,by omega⟩
   clear hk;have hi64:i≤2147483647:=by have:=hi.out;omega
   obtain ⟨r5,l5,rfl⟩: ∃r l',l2=r::l':=by
    cases l2 with
    |nil=>have:=hlk.out;simp at this
    |cons r l'=>exact ⟨r,l',rfl⟩
   obtain ⟨hl3,hb3,mid,C5,hK5⟩: ∃hl:off3<X.xs.length,X.xs[off3].toNat≠255∧ ∃mid,ItemC X off3 mid r5∧KidsO X mid off2 l5:=by cases hK.out with|cons a b c d=>exact ⟨a,b,_,c,d⟩
   replace C5:=Hz C5;replace hK5:=Hz hK5;have hl5:Hid (l5.length=g):=Hz (by have:=hlk.out;simp at this;exact this)
   replace L3:=Hz (show Togo bs3 (thenR (txt (if i=0 then [] else [44,32])) (thenR r5 (arrR [93] (i+1) l5))) bs res from L3.out)
   have KB:=Hz (foundBreak_no h3.dec hl3 (by simp;omega))
   clear hb3;go_wp2_with fail
   refine KB.out.mono ?_
   rintro e w4 ⟨rfl,m4,rfl⟩;have h4:=h3.drewN m4;have G4:=G3.drewN m4;have i2_4:=h4.i2;by_cases h0:i=0
   ·have t3: ¬(0:Int)<(i:Int):=by omega
    have L4:=Hz L3.out.tx;rw [if_pos h0,List.append_nil] at L4;have K7:=Hz (C5.out _ _ h4 (L4.out.len1 hlen));go_wp2_with fail
    refine K7.out.mono ?_
    rintro e w7 ⟨v7,o7,rfl,hv7,ho7,h7,hG7⟩;have G7:=G4.trans hG7;rcases hr5:r5.2 with _|k
    ·rw [hr5] at hv7;obtain rfl:=hv7.nil;have L7:=Hz (L4.out.ok hr5);rw [ho7 hr5] at h7;have i1_7:=h7.i1;have i2_7:=h7.i2;go_wp2
     go_roundg g
     case measure=>omega
     case rel=>exact ⟨i+1,l5,mid,_,by go_num,(show i+1+g=l.length by have:=hi.out;omega),hl5,hK5,L7,h7,G7⟩
    ·rw [hr5] at hv7;obtain ⟨t,x,rfl⟩:=hv7.ne;go_wp2;go_ret
     exact IPost.err (w1:=w) hv7 h7 G7 (L4.out.err hr5)
   ·have t3:(0:Int)<(i:Int):=by omega
    have L4':=L3;rw [if_neg h0] at L4';replace L4':=Hz L4';have L4:=Hz L4'.out.tx;have K6:=Hz (fun n=>writeString (h4.drewN n).buf h4.lw (h4.drewN n).hB [44,32] (L4'.out.len_tx hlen))
    go_wp2_with fail
    refine (K6.out 0).mono ?_
    rintro e w6 ⟨⟨u6,rfl⟩,hb6,hg6⟩;have h6:=h4.wrote hg6 hb6;have G6:=G4.trans (St.grW hg6);have i1_6:=h6.i1;have i2_6:=h6.i2;have K7:=Hz (C5.out _ _ h6 (L4.out.len1 hlen));go_wp2_with fail
    refine K7.out.mono ?_
    rintro e w7 ⟨v7,o7,rfl,hv7,ho7,h7,hG7⟩;have G7:=G6.trans hG7;rcases hr5:r5.2 with _|k
    ·rw [hr5] at hv7;obtain rfl:=hv7.nil;have L7:=Hz (L4.out.ok hr5);rw [ho7 hr5] at h7;have i1_7:=h7.i1;have i2_7:=h7.i2;go_wp2
     go_roundg g
     case measure=>omega
     case rel=>exact ⟨i+1,l5,mid,_,by go_num,(show i+1+g=l.length by have:=hi.out;omega),hl5,hK5,L7,h7,G7⟩
    ·rw [hr5] at hv7;obtain ⟨t,x,rfl⟩:=hv7.ne;go_wp2;go_ret
     exact IPost.err (w1:=w) hv7 h7 G7 (L4.out.err hr5)
theorem di_omap (h:St X off bs w) {off2:Nat} {l:List (R×R)} (hl:off<X.xs.length) (hb:X.xs[off].toNat=191) (hKids:KidsO2 X (off+1) off2 l) (hcap:l.length≤2147483647) {res:R} (hres:thenR (txt [123,95,32]) (mapR [125] 0 l)=res) (hlen:bs.length+res.1.length≤room):
  Calls Tryz.prog 105 #[.pointer (some ⟨X.di,0,none⟩)] w (IPost X off2 bs res w):=by
 have k1:=h.i1;have k2:=h.i2;have d0:=h.dec.c0;have d1:=h.dec.c1;have df:=h.dec.f1;have ha:=h.dec.at_ off hl;have hm:=h.dec.len;have g95:((X.xs[off].toNat:Int)==95)=false:=by simp;omega
 have g127:((X.xs[off].toNat:Int)==127)=false:=by simp;omega
 have g159:((X.xs[off].toNat:Int)==159)=false:=by simp;omega
 have g191:((X.xs[off].toNat:Int)==191)=true:=by simp;omega
 generalize (X.xs[off].toNat:Int)=x0 at *
 clear hb;have L0:Togo bs (thenR (txt [123,95,32]) (mapR [125] 0 l)) bs res:=by rw [hres];exact Togo.refl _ _
 replace hres:=Hz hres;replace L0:=Hz L0;replace hKids:=Hz hKids;have b1:(off:Int)<(X.xs.length:Int):=by omega
 have b2:(0:Int)≤(off:Int):=by omega
 have b3:(off:Int).toNat=off:=by omega
 have wo:IntKind.i64.wrap ((off:Int)+1)=((off+1:Nat):Int):=by
  have:=wrap_pos (off+1) (by omega)
  simpa using this
 go_enter Tryz.func105,Tryz.ntmps105
 go_wp2
 go_quiet (fail)
 obtain ⟨h1,G1⟩:=h.step hl nq;have K2:=Hz (writeString h1.buf h1.lw h1.hB [123,95,32] (L0.out.len_tx hlen));go_wp2_with fail
 refine K2.out.mono ?_
 rintro e w2 ⟨⟨u2,rfl⟩,hb2,hg2⟩;have h2:=h1.wrote hg2 hb2;have G2:=G1.trans (St.grW hg2);have L2:=Hz L0.out.tx;clear ha k1 k2 d0 d1 df;go_wp2
 go_loopg [8] l.length (fun k v6 wr=> ∃(i:Nat) (l2:List (R×R)) (off:Nat) (bs':List UInt8),v6= .int .i64 (i:Int)∧Hid (i+k=l.length)∧Hid (l2.length=k)∧Hid (KidsO2 X off off2 l2)∧Hid (Togo bs' (mapR [125] i l2) bs res)∧St X off bs' wr∧Gr X.B [X.d,X.wb] w wr)
 case atStart=>exact ⟨0,l,off+1,_,by go_num,Nat.zero_add _,rfl,hKids,L2,h2,G2⟩
 case round=>
  obtain ⟨i,l2,off3,bs3,rfl,hi,hlk,hK,L3,h3,G3⟩:=hrel;have i1_3:=h3.i1;have i2_3:=h3.i2;by_cases hk:gk=0
  ·subst hk;obtain rfl:=List.eq_nil_of_length_eq_zero hlk.out;obtain ⟨hl3,hb3,rfl⟩: ∃hl:off3<X.xs.length,X.xs[off3].toNat=255∧off2=off3+1:=by cases hK.out with|nil a b=>exact ⟨a,b,rfl⟩
   have KB:=Hz (foundBreak_yes h3.dec hl3 (by simp [hb3]))
   go_wp2_with fail
   refine KB.out.mono ?_
   rintro e w4 ⟨rfl,hD4,hF4⟩;have h4:=h3.moved hF4 hD4;have G4:=G3.trans (h3.grF hF4);have i2_4:=h4.i2;have K5:=Hz (fun n=>writeByte (h4.drewN n).buf h4.lw (h4.drewN n).hB 125 (L3.out.lt1 hlen))
   go_wp2_with fail
   refine (K5.out 0).mono ?_
   rintro e w5 ⟨rfl,hb5,hg5⟩;have h5:=h4.wrote hg5 hb5;have G5:=G4.trans (St.grW hg5);go_wp2;go_ret
   exact IPost.done h5 G5 L3.out
  ·obtain ⟨g,rfl⟩: ∃g,gk=g+1:=⟨gk-1,by omega⟩
   clear hk;have hi64:i≤2147483647:=by have:=hi.out;omega
   obtain ⟨r5,r7,l5,rfl⟩: ∃r s l',l2=(r,s)::l':=by
    cases l2 with
    |nil=>have:=hlk.out;simp at this
    |cons r l'=>exact ⟨r.1,r.2,l',rfl⟩
   obtain ⟨hl3,hb3,mid,mid2,C5,C7,hK5⟩: ∃hl:off3<X.xs.length,X.xs[off3].toNat≠255∧ ∃mid mid2,ItemC X off3 mid r5∧ItemC X mid mid2 r7∧KidsO2 X mid2 off2 l5:=by cases hK.out with|cons a b c d e=>exact ⟨a,b,_,_,c,d,e⟩
   replace C5:=Hz C5;replace C7:=Hz C7;replace hK5:=Hz hK5;have hl5:Hid (l5.length=g):=Hz (by have:=hlk.out;simp at this;exact this)
   replace L3:=Hz (show Togo bs3 (thenR (txt (if i=0 then [] else [44,32])) (thenR r5 (thenR (txt [58,32]) (thenR r7 (mapR [125] (i+1) l5))))) bs res from L3.out)
   have KB:=Hz (foundBreak_no h3.dec hl3 (by simp;omega))
   clear hb3;go_wp2_with fail
   refine KB.out.mono ?_
   rintro e w4 ⟨rfl,m4,rfl⟩;have h4:=h3.drewN m4;have G4:=G3.drewN m4;have i2_4:=h4.i2;by_cases h0:i=0
   ·have t3: ¬(0:Int)<(i:Int):=by omega
    have L4:=Hz L3.out.tx;rw [if_pos h0,List.append_nil] at L4;have K7:=Hz (C5.out _ _ h4 (L4.out.len1 hlen));go_wp2_with fail
    refine K7.out.mono ?_
    rintro e w7 ⟨v7,o7,rfl,hv7,ho7,h7,hG7⟩;have G7:=G4.trans hG7;rcases hr7:r5.2 with _|k
    ·rw [hr7] at hv7;obtain rfl:=hv7.nil;have L7:=Hz (L4.out.ok hr7);rw [ho7 hr7] at h7;have i1_7:=h7.i1;have i2_7:=h7.i2;have K8:=Hz (fun n=>writeString (h7.drewN n).buf h7.lw (h7.drewN n).hB [58,32] (L7.out.len_tx hlen))
     go_wp2_with fail
     refine (K8.out 0).mono ?_
     rintro e w8 ⟨⟨u8,rfl⟩,hb8,hg8⟩;have h8:=h7.wrote hg8 hb8;have G8:=G7.trans (St.grW hg8);have L8:=Hz L7.out.tx;have i1_8:=h8.i1;have i2_8:=h8.i2;have K9:=Hz (C7.out _ _ h8 (L8.out.len1 hlen));go_wp2_with fail
     refine K9.out.mono ?_
     rintro e w9 ⟨v9,o9,rfl,hv9,ho9,h9,hG9⟩;have G9:=G8.trans hG9;rcases hr9:r7.2 with _|k
     ·rw [hr9] at hv9;obtain rfl:=hv9.nil;have L9:=Hz (L8.out.ok hr9);rw [ho9 hr9] at h9;have i1_9:=h9.i1;have i2_9:=h9.i2;go_wp2
      go_roundg g
      case measure=>omega
      case rel=>exact ⟨i+1,l5,mid2,_,by go_num,(show i+1+g=l.length by have:=hi.out;omega),hl5,hK5,L9,h9,G9⟩
     ·rw [hr9] at hv9;obtain ⟨t,x,rfl⟩:=hv9.ne;go_wp2;go_ret
      exact IPost.err (w1:=w) hv9 h9 G9 (L8.out.err hr9)
    ·rw [hr7] at hv7;obtain ⟨t,x,rfl⟩:=hv7.ne;go_wp2;go_ret
     exact IPost.err (w1:=w) hv7 h7 G7 (L4.out.err hr7)
   ·have t3:(0:Int)<(i:Int):=by omega
    have L4':=L3;rw [if_neg h0] at L4';replace L4':=Hz L4';have L4:=Hz L4'.out.tx;have K6:=Hz (fun n=>writeString (h4.drewN n).buf h4.lw (h4.drewN n).hB [44,32] (L4'.out.len_tx hlen))
    go_wp2_with fail
    refine (K6.out 0).mono ?_
    rintro e w6 ⟨⟨u6,rfl⟩,hb6,hg6⟩;have h6:=h4.wrote hg6 hb6;have G6:=G4.trans (St.grW hg6);have i1_6:=h6.i1;have i2_6:=h6.i2;have K7:=Hz (C5.out _ _ h6 (L4.out.len1 hlen));go_wp2_with fail
    refine K7.out.mono ?_
    rintro e w7 ⟨v7,o7,rfl,hv7,ho7,h7,hG7⟩;have G7:=G6.trans hG7;rcases hr7:r5.2 with _|k
    ·rw [hr7] at hv7;obtain rfl:=hv7.nil;have L7:=Hz (L4.out.ok hr7);rw [ho7 hr7] at h7;have i1_7:=h7.i1;have i2_7:=h7.i2;have K8:=Hz (fun n=>writeString (h7.drewN n).buf h7.lw (h7.drewN n).hB [58,32] (L7.out.len_tx hlen))
     go_wp2_with fail
     refine (K8.out 0).mono ?_
     rintro e w8 ⟨⟨u8,rfl⟩,hb8,hg8⟩;have h8:=h7.wrote hg8 hb8;have G8:=G7.trans (St.grW hg8);have L8:=Hz L7.out.tx;have i1_8:=h8.i1;have i2_8:=h8.i2;have K9:=Hz (C7.out _ _ h8 (L8.out.len1 hlen));go_wp2_with fail
     refine K9.out.mono ?_
     rintro e w9 ⟨v9,o9,rfl,hv9,ho9,h9,hG9⟩;have G9:=G8.trans hG9;rcases hr9:r7.2 with _|k
     ·rw [hr9] at hv9;obtain rfl:=hv9.nil;have L9:=Hz (L8.out.ok hr9);rw [ho9 hr9] at h9;have i1_9:=h9.i1;have i2_9:=h9.i2;go_wp2
      go_roundg g
      case measure=>omega
      case rel=>exact ⟨i+1,l5,mid2,_,by go_num,(show i+1+g=l.length by have:=hi.out;omega),hl5,hK5,L9,h9,G9⟩
     ·rw [hr9] at hv9;obtain ⟨t,x,rfl⟩:=hv9.ne;go_wp2;go_ret
      exact IPost.err (w1:=w) hv9 h9 G9 (L8.out.err hr9)
    ·rw [hr7] at hv7;obtain ⟨t,x,rfl⟩:=hv7.ne;go_wp2;go_ret
     exact IPost.err (w1:=w) hv7 h7 G7 (L4.out.err hr7)
end
end
end Go.Proofs.YteodinhkhhaafaaGreatDoor
