/- Walks of the program, and plain facts. -/
import Derived.Test.YteodinhkhhaafaaGreatDoorFav
set_option linter.unusedVariables false
set_option linter.unusedSimpArgs false
set_option maxRecDepth 100000
set_option maxHeartbeats 6400000
namespace Go.Proofs.YteodinhkhhaafaaGreatDoor
section
open Go.RowKit
section
variable {X:Cx} {off:Nat} {bs:List UInt8} {w:World}
theorem di_false (h:St X off bs w) {v o1:Nat} (hh:hd X.xs off= .ok (7,20,v,o1)) (hlen:bs.length+(txt [102,97,108,115,101]).1.length≤room):
  Calls Tryz.prog 105 #[.pointer (some ⟨X.di,0,none⟩)] w (IPost X o1 bs (txt [102,97,108,115,101]) w):=by
 obtain ⟨hl,hb1,hb2⟩:=hd_byte hh;have hv:=(hd_val hh).1;have hai:=(hd_off hh).2.2.2;have hai2:=(hd_off hh).2.2.1;have k1:=h.i1;have k2:=h.i2;have d0:=h.dec.c0;have d1:=h.dec.c1;have ha:=h.dec.at_ off hl;have hm:=h.dec.len;have KT:=fun n=>nextCBORType (h.dec.drewN n) hl
 rw [hb1] at KT;have KH:=fun n=>getHead (h.dec.drewN n) hh
 replace hlen:=Hz hlen;replace KT:=Hz KT;replace KH:=Hz KH;replace hh:=Hz hh;have g95:((X.xs[off].toNat:Int)==95)=false:=by simp;omega
 have g127:((X.xs[off].toNat:Int)==127)=false:=by simp;omega
 have g159:((X.xs[off].toNat:Int)==159)=false:=by simp;omega
 have g191:((X.xs[off].toNat:Int)==191)=false:=by simp;omega
 generalize (X.xs[off].toNat:Int)=x0 at *
 clear hb1 hb2 hai;have b1:(off:Int)<(X.xs.length:Int):=by omega
 have b2:(0:Int)≤(off:Int):=by omega
 have b3:(off:Int).toNat=off:=by omega
 go_enter Tryz.func105,Tryz.ntmps105
 go_wp2
 go_quiet (fail)
 go_wp2_with fail
 refine (KT.out _).mono ?_
 rintro e w1 ⟨rfl,nm,rfl⟩;go_wp2_with fail
 refine (KH.out _).mono ?_
 rintro e w1 ⟨rfl,hD,hf⟩;have h1:=(h.drewN _).moved hf hD;have G1:=h.grF (((Fr.refl [X.d] w).drewN _).trans hf);have k1:=h1.i1;have k2:=h1.i2;have K2:=Hz (fun n=>writeString (h1.drewN n).buf h1.lw (h1.drewN n).hB [102,97,108,115,101] (hlen.out))
 go_wp2_with fail
 refine (K2.out 0).mono ?_
 rintro e w2 ⟨⟨u2,rfl⟩,hb2,hg2⟩;have h2:=h1.wrote hg2 hb2;have G2:=G1.trans (St.grW hg2);go_wp2;go_ret
 exact ⟨_,_,rfl,rfl,fun _=>rfl,h2,G2⟩
theorem di_true (h:St X off bs w) {v o1:Nat} (hh:hd X.xs off= .ok (7,21,v,o1)) (hlen:bs.length+(txt [116,114,117,101]).1.length≤room):
  Calls Tryz.prog 105 #[.pointer (some ⟨X.di,0,none⟩)] w (IPost X o1 bs (txt [116,114,117,101]) w):=by
 obtain ⟨hl,hb1,hb2⟩:=hd_byte hh;have hv:=(hd_val hh).1;have hai:=(hd_off hh).2.2.2;have hai2:=(hd_off hh).2.2.1;have k1:=h.i1;have k2:=h.i2;have d0:=h.dec.c0;have d1:=h.dec.c1;have ha:=h.dec.at_ off hl;have hm:=h.dec.len;have KT:=fun n=>nextCBORType (h.dec.drewN n) hl
 rw [hb1] at KT;have KH:=fun n=>getHead (h.dec.drewN n) hh
 replace hlen:=Hz hlen;replace KT:=Hz KT;replace KH:=Hz KH;replace hh:=Hz hh;have g95:((X.xs[off].toNat:Int)==95)=false:=by simp;omega
 have g127:((X.xs[off].toNat:Int)==127)=false:=by simp;omega
 have g159:((X.xs[off].toNat:Int)==159)=false:=by simp;omega
 have g191:((X.xs[off].toNat:Int)==191)=false:=by simp;omega
 generalize (X.xs[off].toNat:Int)=x0 at *
 clear hb1 hb2 hai;have b1:(off:Int)<(X.xs.length:Int):=by omega
 have b2:(0:Int)≤(off:Int):=by omega
 have b3:(off:Int).toNat=off:=by omega
 go_enter Tryz.func105,Tryz.ntmps105
 go_wp2
 go_quiet (fail)
 go_wp2_with fail
 refine (KT.out _).mono ?_
 rintro e w1 ⟨rfl,nm,rfl⟩;go_wp2_with fail
 refine (KH.out _).mono ?_
 rintro e w1 ⟨rfl,hD,hf⟩;have h1:=(h.drewN _).moved hf hD;have G1:=h.grF (((Fr.refl [X.d] w).drewN _).trans hf);have k1:=h1.i1;have k2:=h1.i2;have K2:=Hz (fun n=>writeString (h1.drewN n).buf h1.lw (h1.drewN n).hB [116,114,117,101] (hlen.out))
 go_wp2_with fail
 refine (K2.out 0).mono ?_
 rintro e w2 ⟨⟨u2,rfl⟩,hb2,hg2⟩;have h2:=h1.wrote hg2 hb2;have G2:=G1.trans (St.grW hg2);go_wp2;go_ret
 exact ⟨_,_,rfl,rfl,fun _=>rfl,h2,G2⟩
theorem di_null (h:St X off bs w) {v o1:Nat} (hh:hd X.xs off= .ok (7,22,v,o1)) (hlen:bs.length+(txt [110,117,108,108]).1.length≤room):
  Calls Tryz.prog 105 #[.pointer (some ⟨X.di,0,none⟩)] w (IPost X o1 bs (txt [110,117,108,108]) w):=by
 obtain ⟨hl,hb1,hb2⟩:=hd_byte hh;have hv:=(hd_val hh).1;have hai:=(hd_off hh).2.2.2;have hai2:=(hd_off hh).2.2.1;have k1:=h.i1;have k2:=h.i2;have d0:=h.dec.c0;have d1:=h.dec.c1;have ha:=h.dec.at_ off hl;have hm:=h.dec.len;have KT:=fun n=>nextCBORType (h.dec.drewN n) hl
 rw [hb1] at KT;have KH:=fun n=>getHead (h.dec.drewN n) hh
 replace hlen:=Hz hlen;replace KT:=Hz KT;replace KH:=Hz KH;replace hh:=Hz hh;have g95:((X.xs[off].toNat:Int)==95)=false:=by simp;omega
 have g127:((X.xs[off].toNat:Int)==127)=false:=by simp;omega
 have g159:((X.xs[off].toNat:Int)==159)=false:=by simp;omega
 have g191:((X.xs[off].toNat:Int)==191)=false:=by simp;omega
 generalize (X.xs[off].toNat:Int)=x0 at *
 clear hb1 hb2 hai;have b1:(off:Int)<(X.xs.length:Int):=by omega
 have b2:(0:Int)≤(off:Int):=by omega
 have b3:(off:Int).toNat=off:=by omega
 go_enter Tryz.func105,Tryz.ntmps105
 go_wp2
 go_quiet (fail)
 go_wp2_with fail
 refine (KT.out _).mono ?_
 rintro e w1 ⟨rfl,nm,rfl⟩;go_wp2_with fail
 refine (KH.out _).mono ?_
 rintro e w1 ⟨rfl,hD,hf⟩;have h1:=(h.drewN _).moved hf hD;have G1:=h.grF (((Fr.refl [X.d] w).drewN _).trans hf);have k1:=h1.i1;have k2:=h1.i2;have K2:=Hz (fun n=>writeString (h1.drewN n).buf h1.lw (h1.drewN n).hB [110,117,108,108] (hlen.out))
 go_wp2_with fail
 refine (K2.out 0).mono ?_
 rintro e w2 ⟨⟨u2,rfl⟩,hb2,hg2⟩;have h2:=h1.wrote hg2 hb2;have G2:=G1.trans (St.grW hg2);go_wp2;go_ret
 exact ⟨_,_,rfl,rfl,fun _=>rfl,h2,G2⟩
theorem di_undefined (h:St X off bs w) {v o1:Nat} (hh:hd X.xs off= .ok (7,23,v,o1)) (hlen:bs.length+(txt [117,110,100,101,102,105,110,101,100]).1.length≤room):
  Calls Tryz.prog 105 #[.pointer (some ⟨X.di,0,none⟩)] w (IPost X o1 bs (txt [117,110,100,101,102,105,110,101,100]) w):=by
 obtain ⟨hl,hb1,hb2⟩:=hd_byte hh;have hv:=(hd_val hh).1;have hai:=(hd_off hh).2.2.2;have hai2:=(hd_off hh).2.2.1;have k1:=h.i1;have k2:=h.i2;have d0:=h.dec.c0;have d1:=h.dec.c1;have ha:=h.dec.at_ off hl;have hm:=h.dec.len;have KT:=fun n=>nextCBORType (h.dec.drewN n) hl
 rw [hb1] at KT;have KH:=fun n=>getHead (h.dec.drewN n) hh
 replace hlen:=Hz hlen;replace KT:=Hz KT;replace KH:=Hz KH;replace hh:=Hz hh;have g95:((X.xs[off].toNat:Int)==95)=false:=by simp;omega
 have g127:((X.xs[off].toNat:Int)==127)=false:=by simp;omega
 have g159:((X.xs[off].toNat:Int)==159)=false:=by simp;omega
 have g191:((X.xs[off].toNat:Int)==191)=false:=by simp;omega
 generalize (X.xs[off].toNat:Int)=x0 at *
 clear hb1 hb2 hai;have b1:(off:Int)<(X.xs.length:Int):=by omega
 have b2:(0:Int)≤(off:Int):=by omega
 have b3:(off:Int).toNat=off:=by omega
 go_enter Tryz.func105,Tryz.ntmps105
 go_wp2
 go_quiet (fail)
 go_wp2_with fail
 refine (KT.out _).mono ?_
 rintro e w1 ⟨rfl,nm,rfl⟩;go_wp2_with fail
 refine (KH.out _).mono ?_
 rintro e w1 ⟨rfl,hD,hf⟩;have h1:=(h.drewN _).moved hf hD;have G1:=h.grF (((Fr.refl [X.d] w).drewN _).trans hf);have k1:=h1.i1;have k2:=h1.i2;have K2:=Hz (fun n=>writeString (h1.drewN n).buf h1.lw (h1.drewN n).hB [117,110,100,101,102,105,110,101,100] (hlen.out))
 go_wp2_with fail
 refine (K2.out 0).mono ?_
 rintro e w2 ⟨⟨u2,rfl⟩,hb2,hg2⟩;have h2:=h1.wrote hg2 hb2;have G2:=G1.trans (St.grW hg2);go_wp2;go_ret
 exact ⟨_,_,rfl,rfl,fun _=>rfl,h2,G2⟩
theorem di_simple (h:St X off bs w) {ai v o1:Nat} (hh:hd X.xs off= .ok (7,ai,v,o1)) (hn:ai<20∨ai=24∨27<ai) {res:R} (hres:thenR (txt [115,105,109,112,108,101,40]) (thenR (txt (dec v)) (txt [41]))=res) (hlen:bs.length+res.1.length≤room):
  Calls Tryz.prog 105 #[.pointer (some ⟨X.di,0,none⟩)] w (IPost X o1 bs res w):=by
 obtain ⟨hl,hb1,hb2⟩:=hd_byte hh;have hv:=(hd_val hh).1;have hai:=(hd_off hh).2.2.2;have hai2:=(hd_off hh).2.2.1;have k1:=h.i1;have k2:=h.i2;have d0:=h.dec.c0;have d1:=h.dec.c1;have ha:=h.dec.at_ off hl;have hm:=h.dec.len;have KT:=fun n=>nextCBORType (h.dec.drewN n) hl
 rw [hb1] at KT;have KH:=fun n=>getHead (h.dec.drewN n) hh
 have ga20:((ai:Int)==20)=false:=by simp;omega
 have ga21:((ai:Int)==21)=false:=by simp;omega
 have ga22:((ai:Int)==22)=false:=by simp;omega
 have ga23:((ai:Int)==23)=false:=by simp;omega
 have ga25:((ai:Int)==25)=false:=by simp;omega
 have ga26:((ai:Int)==26)=false:=by simp;omega
 have ga27:((ai:Int)==27)=false:=by simp;omega
 have KF:=Hz (formatUint v hv);have L0:Togo bs (thenR (txt [115,105,109,112,108,101,40]) (thenR (txt (dec v)) (txt [41]))) bs res:=by rw [hres];exact Togo.refl _ _
 replace hres:=Hz hres;replace L0:=Hz L0;replace KT:=Hz KT;replace KH:=Hz KH;replace hh:=Hz hh;have g95:((X.xs[off].toNat:Int)==95)=false:=by simp;omega
 have g127:((X.xs[off].toNat:Int)==127)=false:=by simp;omega
 have g159:((X.xs[off].toNat:Int)==159)=false:=by simp;omega
 have g191:((X.xs[off].toNat:Int)==191)=false:=by simp;omega
 generalize (X.xs[off].toNat:Int)=x0 at *
 clear hb1 hb2 hai;have b1:(off:Int)<(X.xs.length:Int):=by omega
 have b2:(0:Int)≤(off:Int):=by omega
 have b3:(off:Int).toNat=off:=by omega
 go_enter Tryz.func105,Tryz.ntmps105
 go_wp2
 go_quiet (fail)
 go_wp2_with fail
 refine (KT.out _).mono ?_
 rintro e w1 ⟨rfl,nm,rfl⟩;go_wp2_with fail
 refine (KH.out _).mono ?_
 rintro e w1 ⟨rfl,hD,hf⟩;have h1:=(h.drewN _).moved hf hD;have G1:=h.grF (((Fr.refl [X.d] w).drewN _).trans hf);have k1:=h1.i1;have k2:=h1.i2;have K2:=Hz (fun n=>writeString (h1.drewN n).buf h1.lw (h1.drewN n).hB [115,105,109,112,108,101,40] (L0.out.len_tx hlen))
 go_wp2_with fail
 refine (K2.out 0).mono ?_
 rintro e w2 ⟨⟨u2,rfl⟩,hb2,hg2⟩;have h2:=h1.wrote hg2 hb2;have G2:=G1.trans (St.grW hg2);have k2:=h2.i2;have L2:=Hz L0.out.tx;have hlen1:=Hz (L2.out.len_tx hlen);go_wp2
 go_region_held3 (fun w'=>w'.cell? ⟨X.di,2,none⟩=some (.pointer (some ⟨X.wb,0,none⟩))) (first|go_keep|exact h3.i2|exact h4.i2)
  (first|(go_at_call 122;refine (KF.out _).mono ?_;rintro e w3 ⟨rfl,hf3⟩;have h3:=St.kept (by first|exact h2|exact St.drewN h2 _) hf3;have G3:=(St.gr0 (by first|exact h2|exact St.drewN h2 _) hf3))|(go_at_call 104;refine (writeString h3.buf h3.lw h3.hB (dec v) hlen1.out).mono ?_;rintro e w4 ⟨⟨u3,rfl⟩,hb4,hg4⟩;have h4:=h3.wrote hg4 hb4))
 have G4:=(G2.drewN 1).trans (Gr.trans G3 (St.grW hg4));have L3:=Hz L2.out.tx;have K5:=Hz (fun n=>writeByte (h4.drewN n).buf h4.lw (h4.drewN n).hB 41 (L3.out.lt1 hlen))
 go_wp2_with fail
 refine (K5.out 0).mono ?_
 rintro e w5 ⟨rfl,hb5,hg5⟩;have h5:=h4.wrote hg5 hb5;have G5:=G4.trans (St.grW hg5);go_wp2;go_ret
 exact IPost.done h5 G5 L3.out
end
end
end Go.Proofs.YteodinhkhhaafaaGreatDoor
