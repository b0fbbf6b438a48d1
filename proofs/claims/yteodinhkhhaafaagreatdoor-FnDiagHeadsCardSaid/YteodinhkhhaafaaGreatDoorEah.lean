/- Walks of the program, and plain facts. -/
import Derived.Test.YteodinhkhhaafaaGreatDoorEag
set_option linter.unusedVariables false
set_option linter.unusedSimpArgs false
set_option maxRecDepth 100000
set_option maxHeartbeats 6400000
namespace Go.Proofs.YteodinhkhhaafaaGreatDoor
section
open Go.RowKit
section
variable {X:Cx} {off:Nat} {bs:List UInt8} {w:World}
theorem di_uint (h:St X off bs w) {ai v o1:Nat} (hh:hd X.xs off= .ok (0,ai,v,o1)) (hlen:bs.length+(dec v).length≤room):
  Calls Tryz.prog 105 #[.pointer (some ⟨X.di,0,none⟩)] w (IPost X o1 bs (dec v,none) w):=by
 obtain ⟨hl,hb1,hb2⟩:=hd_byte hh;have hv:=(hd_val hh).1;have hai:=(hd_off hh).2.2.2;have hai2:=(hd_off hh).2.2.1;have k1:=h.i1;have k2:=h.i2;have d0:=h.dec.c0;have d1:=h.dec.c1;have ha:=h.dec.at_ off hl;have hm:=h.dec.len;have KT:=fun n=>nextCBORType (h.dec.drewN n) hl
 rw [hb1] at KT;have KH:=fun n=>getHead (h.dec.drewN n) hh
 have KF:=Hz (formatUint v hv);replace KT:=Hz KT;replace KH:=Hz KH;replace hh:=Hz hh;have g95:((X.xs[off].toNat:Int)==95)=false:=by simp;omega
 have g127:((X.xs[off].toNat:Int)==127)=false:=by simp;omega
 have g159:((X.xs[off].toNat:Int)==159)=false:=by simp;omega
 have g191:((X.xs[off].toNat:Int)==191)=false:=by simp;omega
 generalize (X.xs[off].toNat:Int)=x0 at *
 clear hb1 hb2 hai;have b1:(off:Int)<(X.xs.length:Int):=by omega
 have b2:(0:Int)≤(off:Int):=by omega
 have b3:(off:Int).toNat=off:=by omega
 go_enter Tryz.func105,Tryz.ntmps105
 go_wp2
 go_quiet (fail)
 go_wp2_with fail
 refine (KT.out _).mono ?_
 rintro e w1 ⟨rfl,nm,rfl⟩;go_wp2_with fail
 refine (KH.out _).mono ?_
 rintro e w1 ⟨rfl,hD,hf⟩;have h1:=(h.drewN _).moved hf hD;have G1:=h.grF (((Fr.refl [X.d] w).drewN _).trans hf);have k1:=h1.i1;have k2:=h1.i2;go_wp2
 go_region_held3 (fun w'=>w'.cell? ⟨X.di,2,none⟩=some (.pointer (some ⟨X.wb,0,none⟩))) (first|go_keep|exact h2.i2|exact h3.i2)
  (first|(go_at_call 122;refine (KF.out _).mono ?_;rintro e w2 ⟨rfl,hf2⟩;have h2:=St.kept (by first|exact h1|exact St.drewN h1 _) hf2;have G2:=(St.gr0 (by first|exact h1|exact St.drewN h1 _) hf2))|(go_at_call 104;refine (writeString h2.buf h2.lw h2.hB (dec v) hlen).mono ?_;rintro e w3 ⟨⟨u3,rfl⟩,hb3,hg3⟩;have h3:=h2.wrote hg3 hb3))
 go_wp2;go_ret
 exact ⟨_,_,rfl,rfl,fun _=>rfl,h3,(G1.drewN 1).trans (Gr.trans G2 (St.grW hg3))⟩
end
end
section
open Go.RowKit
section
variable {X:Cx} {off:Nat} {bs:List UInt8} {w:World}
theorem ErrO.ne {k:Nat} {v:Value} (h:ErrO (some k) v): ∃t x,v= .iface t x:=ErrV.iface h
theorem ErrO.nil {v:Value} (h:ErrO none v):v= .nilIface:=h
def Togo (bs:List UInt8) (r:R) (bs0:List UInt8) (r0:R):Prop:=bs++r.1=bs0++r0.1∧r.2=r0.2
theorem Togo.refl (bs:List UInt8) (r:R):Togo bs r bs r:=⟨rfl,rfl⟩
theorem Togo.tx {bs bs0 s:List UInt8} {r r0:R} (h:Togo bs (thenR (txt s) r) bs0 r0):Togo (bs++s) r bs0 r0:=⟨by rw [List.append_assoc];exact h.1,h.2⟩
theorem Togo.ok {bs bs0:List UInt8} {a r r0:R} (h:Togo bs (thenR a r) bs0 r0) (ha:a.2=none):Togo (bs++a.1) r bs0 r0:=by
 rw [thenR_ok ha] at h;exact ⟨by rw [List.append_assoc];exact h.1,h.2⟩
theorem Togo.err {bs bs0:List UInt8} {a r r0:R} {k:Nat} (h:Togo bs (thenR a r) bs0 r0) (ha:a.2=some k):bs++a.1=bs0++r0.1∧r0.2=some k:=by
 rw [thenR_err ha] at h;exact ⟨h.1,h.2.symm⟩
theorem Togo.len {bs bs0:List UInt8} {r r0:R} (h:Togo bs r bs0 r0) (hl:bs0.length+r0.1.length≤room):bs.length+r.1.length≤room:=by
 have:=congrArg List.length h.1;simp only [List.length_append] at this;omega
theorem Togo.len_tx {bs bs0 s:List UInt8} {r r0:R} (h:Togo bs (thenR (txt s) r) bs0 r0) (hl:bs0.length+r0.1.length≤room):bs.length+s.length≤room:=by
 have:=h.tx.len hl;simp only [List.length_append] at this;omega
theorem Togo.len1 {bs bs0:List UInt8} {a r r0:R} (h:Togo bs (thenR a r) bs0 r0) (hl:bs0.length+r0.1.length≤room):bs.length+a.1.length≤room:=by
 have:=h.len hl;unfold thenR at this
 split at this
 ·simp only [List.length_append] at this;omega
 ·exact this
theorem IPost.err {X:Cx} {off' o2 k:Nat} {bs bs':List UInt8} {a r0:R} {w w1 w2:World} {v:Value} (hv:ErrO (some k) v) (hS:St X o2 (bs'++a.1) w2) (hG:Gr X.B [X.d,X.wb] w w2) (hL:bs'++a.1=bs++r0.1∧r0.2=some k):
  IPost X off' bs r0 w (.returned v) w2:=⟨v,o2,rfl,hL.2▸hv,fun e=>(by rw [hL.2] at e;cases e),hL.1▸hS,hG⟩
theorem IPost.done {X:Cx} {off':Nat} {bs bs':List UInt8} {s:List UInt8} {r0:R} {w w2:World} (hS:St X off' (bs'++s) w2) (hG:Gr X.B [X.d,X.wb] w w2) (hL:Togo bs' (txt s) bs r0):
  IPost X off' bs r0 w (.returned .nilIface) w2:=⟨_,off',rfl,(show ErrO r0.2 .nilIface from hL.2▸rfl),fun _=>rfl,by
   have:=hL.1;simp only [txt] at this;rw [←this];exact hS,hG⟩
theorem di_list4 (h:St X off bs w) {ai v o1 off2:Nat} {l:List R} (hh:hd X.xs off= .ok (4,ai,v,o1)) (h31:ai≠31) (hKids:Kids X o1 off2 l) (hcount:l.length=v) (hcap:v≤2147483647) {res:R} (hres:thenR (txt [91]) (arrR [93] 0 l)=res) (hlen:bs.length+res.1.length≤room):
  Calls Tryz.prog 105 #[.pointer (some ⟨X.di,0,none⟩)] w (IPost X off2 bs res w):=by
 obtain ⟨hl,hb1,hb2⟩:=hd_byte hh;have hv:=(hd_val hh).1;have hai:=(hd_off hh).2.2.2;have hai2:=(hd_off hh).2.2.1;have k1:=h.i1;have k2:=h.i2;have d0:=h.dec.c0;have d1:=h.dec.c1;have ha:=h.dec.at_ off hl;have hm:=h.dec.len;have KT:=fun n=>nextCBORType (h.dec.drewN n) hl
 rw [hb1] at KT;have KH:=fun n=>getHead (h.dec.drewN n) hh
 have gw:=wrap_pos v (by omega)
 replace KT:=Hz KT;replace KH:=Hz KH;replace hh:=Hz hh;have g95:((X.xs[off].toNat:Int)==95)=false:=by simp;omega
 have g127:((X.xs[off].toNat:Int)==127)=false:=by simp;omega
 have g159:((X.xs[off].toNat:Int)==159)=false:=by simp;omega
 have g191:((X.xs[off].toNat:Int)==191)=false:=by simp;omega
 generalize (X.xs[off].toNat:Int)=x0 at *
 clear hb1 hb2 hai;have b1:(off:Int)<(X.xs.length:Int):=by omega
 have b2:(0:Int)≤(off:Int):=by omega
 have b3:(off:Int).toNat=off:=by omega
 go_enter Tryz.func105,Tryz.ntmps105
 go_wp2
 go_quiet (fail)
 go_wp2_with fail
 refine (KT.out _).mono ?_
 rintro e w1 ⟨rfl,nm,rfl⟩;go_wp2_with fail
 refine (KH.out _).mono ?_
 rintro e w1 ⟨rfl,hD,hf⟩;have h1:=(h.drewN _).moved hf hD;have G1:=h.grF (((Fr.refl [X.d] w).drewN _).trans hf);have k1:=h1.i1;have k2:=h1.i2;have L0:Togo bs (thenR (txt [91]) (arrR [93] 0 l)) bs res:=by rw [hres];exact Togo.refl _ _
 replace hres:=Hz hres;replace L0:=Hz L0;replace hKids:=Hz hKids;replace hcount:=Hz hcount;have K2:=Hz (fun n=>writeByte (h1.drewN n).buf h1.lw (h1.drewN n).hB 91 (by have:=L0.out.len_tx hlen;unfold room at this;simp at this;omega))
 go_wp2_with fail
 refine (K2.out 0).mono ?_
 rintro e w2 ⟨rfl,hb2,hg2⟩;have h2:=h1.wrote hg2 hb2;have G2:=G1.trans (St.grW hg2);have L2:=Hz L0.out.tx;have i1_2:=h2.i1;have i2_2:=h2.i2;go_wp2
 go_loopg [28] v (fun k v28 wr=> ∃(i:Nat) (l:List R) (off:Nat) (bs':List UInt8),v28= .int .i64 (i:Int)∧Hid (i+k=v)∧Hid (l.length=k)∧Hid (Kids X off off2 l)∧Hid (Togo bs' (arrR [93] i l) bs res)∧St X off bs' wr∧Gr X.B [X.d,X.wb] w wr)
 case atStart=>exact ⟨0,l,o1,_,by go_num,Nat.zero_add v,hcount,hKids,L2,h2,G2⟩
 case round=>
  clear k1 k2 i1_2 i2_2;obtain ⟨i,l,off3,bs3,rfl,hi,hlk,hK,L3,h3,G3⟩:=hrel;have i1_3:=h3.i1;have i2_3:=h3.i2;by_cases hk:gk=0
  ·subst hk;obtain rfl:=List.eq_nil_of_length_eq_zero hlk.out;have t2: ¬(i:Int)<(v:Int):=by have:=hi.out;omega
   have ho:off3=off2:=by cases hK.out;rfl
   subst ho;have K4:=Hz (fun n=>writeByte (h3.drewN n).buf h3.lw (h3.drewN n).hB 93 (by have:=L3.out.len hlen;unfold room arrR at this;simp [txt] at this;omega))
   go_wp2_with fail
   refine (K4.out 0).mono ?_
   rintro e w4 ⟨rfl,hb4,hg4⟩;have h4:=h3.wrote hg4 hb4;have G4:=G3.trans (St.grW hg4);go_wp2;go_ret
   exact IPost.done h4 G4 L3.out
  ·have t2:(i:Int)<(v:Int):=by have:=hi.out;omega
   have hi64:i≤2147483647:=by omega
   obtain ⟨g,rfl⟩: ∃g,gk=g+1:=⟨gk-1,by omega⟩
   clear hk;obtain ⟨r5,l5,rfl⟩: ∃r l',l=r::l':=by
    cases l with
    |nil=>have:=hlk.out;simp at this
    |cons r l'=>exact ⟨r,l',rfl⟩
   obtain ⟨mid,C5,hK5⟩: ∃mid,ItemC X off3 mid r5∧Kids X mid off2 l5:=by cases hK.out with|cons a b=>exact ⟨_,a,b⟩
   replace C5:=Hz C5;replace hK5:=Hz hK5;have hl5:Hid (l5.length=g):=Hz (by have:=hlk.out;simp at this;exact this)
   replace L3:=Hz (show Togo bs3 (thenR (txt (if i=0 then [] else [44,32])) (thenR r5 (arrR [93] (i+1) l5))) bs res from L3.out)
   by_cases h0:i=0
   ·have t3: ¬(0:Int)<(i:Int):=by omega
    have L4:=Hz L3.out.tx;rw [if_pos h0,List.append_nil] at L4;have K5:=Hz (C5.out _ _ h3 (L4.out.len1 hlen));go_wp2_with fail
    refine K5.out.mono ?_
    rintro e w5 ⟨v5,o5,rfl,hv5,ho5,h5,hG5⟩;have G5:=G3.trans hG5;rcases hr5:r5.2 with _|k
    ·rw [hr5] at hv5;obtain rfl:=hv5.nil;have L5:=Hz (L4.out.ok hr5);rw [ho5 hr5] at h5;have i1_5:=h5.i1;have i2_5:=h5.i2;go_wp2
     go_roundg g
     case measure=>omega
     case rel=>exact ⟨i+1,l5,mid,_,by go_num,(show i+1+g=v by have:=hi.out;omega),hl5,hK5,L5,h5,G5⟩
    ·rw [hr5] at hv5;obtain ⟨t,x,rfl⟩:=hv5.ne;go_wp2;go_ret
     exact IPost.err (w1:=w) hv5 h5 G5 (L4.out.err hr5)
   ·have t3:(0:Int)<(i:Int):=by omega
    have L4':=L3;rw [if_neg h0] at L4';replace L4':=Hz L4';have L4:=Hz L4'.out.tx;have K4:=Hz (fun n=>writeString (h3.drewN n).buf h3.lw (h3.drewN n).hB [44,32] (L4'.out.len_tx hlen))
    go_wp2_with fail
    refine (K4.out 0).mono ?_
    rintro e w4 ⟨⟨u4,rfl⟩,hb4,hg4⟩;have h4:=h3.wrote hg4 hb4;have G4:=G3.trans (St.grW hg4);have i1_4:=h4.i1;have i2_4:=h4.i2;have K5:=Hz (C5.out _ _ h4 (L4.out.len1 hlen));go_wp2_with fail
    refine K5.out.mono ?_
    rintro e w5 ⟨v5,o5,rfl,hv5,ho5,h5,hG5⟩;have G5:=G4.trans hG5;rcases hr5:r5.2 with _|k
    ·rw [hr5] at hv5;obtain rfl:=hv5.nil;have L5:=Hz (L4.out.ok hr5);rw [ho5 hr5] at h5;have i1_5:=h5.i1;have i2_5:=h5.i2;go_wp2
     go_roundg g
     case measure=>omega
     case rel=>exact ⟨i+1,l5,mid,_,by go_num,(show i+1+g=v by have:=hi.out;omega),hl5,hK5,L5,h5,G5⟩
    ·rw [hr5] at hv5;obtain ⟨t,x,rfl⟩:=hv5.ne;go_wp2;go_ret
     exact IPost.err (w1:=w) hv5 h5 G5 (L4.out.err hr5)
theorem di_list5 (h:St X off bs w) {ai v o1 off2:Nat} {l:List (R×R)} (hh:hd X.xs off= .ok (5,ai,v,o1)) (h31:ai≠31) (hKids:Kids2 X o1 off2 l) (hcount:l.length=v) (hcap:v≤2147483647) {res:R} (hres:thenR (txt [123]) (mapR [125] 0 l)=res) (hlen:bs.length+res.1.length≤room):
  Calls Tryz.prog 105 #[.pointer (some ⟨X.di,0,none⟩)] w (IPost X off2 bs res w):=by
 obtain ⟨hl,hb1,hb2⟩:=hd_byte hh;have hv:=(hd_val hh).1;have hai:=(hd_off hh).2.2.2;have hai2:=(hd_off hh).2.2.1;have k1:=h.i1;have k2:=h.i2;have d0:=h.dec.c0;have d1:=h.dec.c1;have ha:=h.dec.at_ off hl;have hm:=h.dec.len;have KT:=fun n=>nextCBORType (h.dec.drewN n) hl
 rw [hb1] at KT;have KH:=fun n=>getHead (h.dec.drewN n) hh
 have gw:=wrap_pos v (by omega)
 replace KT:=Hz KT;replace KH:=Hz KH;replace hh:=Hz hh;have g95:((X.xs[off].toNat:Int)==95)=false:=by simp;omega
 have g127:((X.xs[off].toNat:Int)==127)=false:=by simp;omega
 have g159:((X.xs[off].toNat:Int)==159)=false:=by simp;omega
 have g191:((X.xs[off].toNat:Int)==191)=false:=by simp;omega
 generalize (X.xs[off].toNat:Int)=x0 at *
 clear hb1 hb2 hai;have b1:(off:Int)<(X.xs.length:Int):=by omega
 have b2:(0:Int)≤(off:Int):=by omega
 have b3:(off:Int).toNat=off:=by omega
 go_enter Tryz.func105,Tryz.ntmps105
 go_wp2
 go_quiet (fail)
 go_wp2_with fail
 refine (KT.out _).mono ?_
 rintro e w1 ⟨rfl,nm,rfl⟩;go_wp2_with fail
 refine (KH.out _).mono ?_
 rintro e w1 ⟨rfl,hD,hf⟩;have h1:=(h.drewN _).moved hf hD;have G1:=h.grF (((Fr.refl [X.d] w).drewN _).trans hf);have k1:=h1.i1;have k2:=h1.i2;have L0:Togo bs (thenR (txt [123]) (mapR [125] 0 l)) bs res:=by rw [hres];exact Togo.refl _ _
 replace hres:=Hz hres;replace L0:=Hz L0;replace hKids:=Hz hKids;replace hcount:=Hz hcount;have K2:=Hz (fun n=>writeByte (h1.drewN n).buf h1.lw (h1.drewN n).hB 123 (by have:=L0.out.len_tx hlen;unfold room at this;simp at this;omega))
 go_wp2_with fail
 refine (K2.out 0).mono ?_
 rintro e w2 ⟨rfl,hb2,hg2⟩;have h2:=h1.wrote hg2 hb2;have G2:=G1.trans (St.grW hg2);have L2:=Hz L0.out.tx;have i1_2:=h2.i1;have i2_2:=h2.i2;go_wp2
 go_loopg [34] v (fun k v28 wr=> ∃(i:Nat) (l:List (R×R)) (off:Nat) (bs':List UInt8),v28= .int .i64 (i:Int)∧Hid (i+k=v)∧Hid (l.length=k)∧Hid (Kids2 X off off2 l)∧Hid (Togo bs' (mapR [125] i l) bs res)∧St X off bs' wr∧Gr X.B [X.d,X.wb] w wr)
 case atStart=>exact ⟨0,l,o1,_,by go_num,Nat.zero_add v,hcount,hKids,L2,h2,G2⟩
 case round=>
  clear k1 k2 i1_2 i2_2;obtain ⟨i,l,off3,bs3,rfl,hi,hlk,hK,L3,h3,G3⟩:=hrel;have i1_3:=h3.i1;have i2_3:=h3.i2;by_cases hk:gk=0
  ·subst hk;obtain rfl:=List.eq_nil_of_length_eq_zero hlk.out;have t2: ¬(i:Int)<(v:Int):=by have:=hi.out;omega
   have ho:off3=off2:=by cases hK.out;rfl
   subst ho;have K4:=Hz (fun n=>writeByte (h3.drewN n).buf h3.lw (h3.drewN n).hB 125 (by have:=L3.out.len hlen;unfold room mapR at this;simp [txt] at this;omega))
   go_wp2_with fail
   refine (K4.out 0).mono ?_
   rintro e w4 ⟨rfl,hb4,hg4⟩;have h4:=h3.wrote hg4 hb4;have G4:=G3.trans (St.grW hg4);go_wp2;go_ret
   exact IPost.done h4 G4 L3.out
  ·have t2:(i:Int)<(v:Int):=by have:=hi.out;omega
   have hi64:i≤2147483647:=by omega
   obtain ⟨g,rfl⟩: ∃g,gk=g+1:=⟨gk-1,by omega⟩
   clear hk;obtain ⟨r5,r7,l5,rfl⟩: ∃r s l',l=(r,s)::l':=by
    cases l with
    |nil=>have:=hlk.out;simp at this
    |cons r l'=>exact ⟨r.1,r.2,l',rfl⟩
   obtain ⟨mid,mid2,C5,C7,hK5⟩: ∃mid mid2,ItemC X off3 mid r5∧ItemC X mid mid2 r7∧Kids2 X mid2 off2 l5:=by cases hK.out with|cons a b c=>exact ⟨_,_,a,b,c⟩
   replace C5:=Hz C5;replace C7:=Hz C7;replace hK5:=Hz hK5;have hl5:Hid (l5.length=g):=Hz (by have:=hlk.out;simp at this;exact this)
   replace L3:=Hz (show Togo bs3 (thenR (txt (if i=0 then [] else [44,32])) (thenR r5 (thenR (txt [58,32]) (thenR r7 (mapR [125] (i+1) l5))))) bs res from L3.out)
   by_cases h0:i=0
   ·have t3: ¬(0:Int)<(i:Int):=by omega
    have L4:=Hz L3.out.tx;rw [if_pos h0,List.append_nil] at L4;have K5:=Hz (C5.out _ _ h3 (L4.out.len1 hlen));go_wp2_with fail
    refine K5.out.mono ?_
    rintro e w5 ⟨v5,o5,rfl,hv5,ho5,h5,hG5⟩;have G5:=G3.trans hG5;rcases hr5:r5.2 with _|k
    ·rw [hr5] at hv5;obtain rfl:=hv5.nil;have L5:=Hz (L4.out.ok hr5);rw [ho5 hr5] at h5;have i1_5:=h5.i1;have i2_5:=h5.i2;have K6:=Hz (fun n=>writeString (h5.drewN n).buf h5.lw (h5.drewN n).hB [58,32] (L5.out.len_tx hlen))
     go_wp2_with fail
     refine (K6.out 0).mono ?_
     rintro e w6 ⟨⟨u6,rfl⟩,hb6,hg6⟩;have h6:=h5.wrote hg6 hb6;have G6:=G5.trans (St.grW hg6);have L6:=Hz L5.out.tx;have i1_6:=h6.i1;have i2_6:=h6.i2;have K7:=Hz (C7.out _ _ h6 (L6.out.len1 hlen));go_wp2_with fail
     refine K7.out.mono ?_
     rintro e w7 ⟨v7,o7,rfl,hv7,ho7,h7,hG7⟩;have G7:=G6.trans hG7;rcases hr7:r7.2 with _|k
     ·rw [hr7] at hv7;obtain rfl:=hv7.nil;have L7:=Hz (L6.out.ok hr7);rw [ho7 hr7] at h7;have i1_7:=h7.i1;have i2_7:=h7.i2;go_wp2
      go_roundg g
      case measure=>omega
      case rel=>exact ⟨i+1,l5,mid2,_,by go_num,(show i+1+g=v by have:=hi.out;omega),hl5,hK5,L7,h7,G7⟩
     ·rw [hr7] at hv7;obtain ⟨t,x,rfl⟩:=hv7.ne;go_wp2;go_ret
      exact IPost.err (w1:=w) hv7 h7 G7 (L6.out.err hr7)
    ·rw [hr5] at hv5;obtain ⟨t,x,rfl⟩:=hv5.ne;go_wp2;go_ret
     exact IPost.err (w1:=w) hv5 h5 G5 (L4.out.err hr5)
   ·have t3:(0:Int)<(i:Int):=by omega
    have L4':=L3;rw [if_neg h0] at L4';replace L4':=Hz L4';have L4:=Hz L4'.out.tx;have K4:=Hz (fun n=>writeString (h3.drewN n).buf h3.lw (h3.drewN n).hB [44,32] (L4'.out.len_tx hlen))
    go_wp2_with fail
    refine (K4.out 0).mono ?_
    rintro e w4 ⟨⟨u4,rfl⟩,hb4,hg4⟩;have h4:=h3.wrote hg4 hb4;have G4:=G3.trans (St.grW hg4);have i1_4:=h4.i1;have i2_4:=h4.i2;have K5:=Hz (C5.out _ _ h4 (L4.out.len1 hlen));go_wp2_with fail
    refine K5.out.mono ?_
    rintro e w5 ⟨v5,o5,rfl,hv5,ho5,h5,hG5⟩;have G5:=G4.trans hG5;rcases hr5:r5.2 with _|k
    ·rw [hr5] at hv5;obtain rfl:=hv5.nil;have L5:=Hz (L4.out.ok hr5);rw [ho5 hr5] at h5;have i1_5:=h5.i1;have i2_5:=h5.i2;have K6:=Hz (fun n=>writeString (h5.drewN n).buf h5.lw (h5.drewN n).hB [58,32] (L5.out.len_tx hlen))
     go_wp2_with fail
     refine (K6.out 0).mono ?_
     rintro e w6 ⟨⟨u6,rfl⟩,hb6,hg6⟩;have h6:=h5.wrote hg6 hb6;have G6:=G5.trans (St.grW hg6);have L6:=Hz L5.out.tx;have i1_6:=h6.i1;have i2_6:=h6.i2;have K7:=Hz (C7.out _ _ h6 (L6.out.len1 hlen));go_wp2_with fail
     refine K7.out.mono ?_
     rintro e w7 ⟨v7,o7,rfl,hv7,ho7,h7,hG7⟩;have G7:=G6.trans hG7;rcases hr7:r7.2 with _|k
     ·rw [hr7] at hv7;obtain rfl:=hv7.nil;have L7:=Hz (L6.out.ok hr7);rw [ho7 hr7] at h7;have i1_7:=h7.i1;have i2_7:=h7.i2;go_wp2
      go_roundg g
      case measure=>omega
      case rel=>exact ⟨i+1,l5,mid2,_,by go_num,(show i+1+g=v by have:=hi.out;omega),hl5,hK5,L7,h7,G7⟩
     ·rw [hr7] at hv7;obtain ⟨t,x,rfl⟩:=hv7.ne;go_wp2;go_ret
      exact IPost.err (w1:=w) hv7 h7 G7 (L6.out.err hr7)
    ·rw [hr5] at hv5;obtain ⟨t,x,rfl⟩:=hv5.ne;go_wp2;go_ret
     exact IPost.err (w1:=w) hv5 h5 G5 (L4.out.err hr5)
end
end
section
open Go.RowKit
section
variable {X:Cx} {off:Nat} {bs:List UInt8} {w:World}
theorem Togo.lt {bs bs0:List UInt8} {x:UInt8} {r r0:R} (h:Togo bs (thenR (txt [x]) r) bs0 r0) (hl:bs0.length+r0.1.length≤room):bs.length<140737488355328:=by
 have:=h.len_tx hl;unfold room at this;rw [List.length_singleton] at this;omega
theorem Togo.lt1 {bs bs0:List UInt8} {x:UInt8} {r0:R} (h:Togo bs (txt [x]) bs0 r0) (hl:bs0.length+r0.1.length≤room):bs.length<140737488355328:=by
 have:=h.len hl;unfold room txt at this;rw [List.length_singleton] at this;omega
theorem di_tag (h:St X off bs w) {ai v o1 off2:Nat} {r5:R} (hh:hd X.xs off= .ok (6,ai,v,o1)) (h2:v≠2) (h3:v≠3) (hC:ItemC X o1 off2 r5) {res:R} (hres:thenR (txt (dec v)) (thenR (txt [40]) (thenR r5 (txt [41])))=res) (hlen:bs.length+res.1.length≤room):
  Calls Tryz.prog 105 #[.pointer (some ⟨X.di,0,none⟩)] w (IPost X off2 bs res w):=by
 obtain ⟨hl,hb1,hb2⟩:=hd_byte hh;have hv:=(hd_val hh).1;have hai:=(hd_off hh).2.2.2;have hai2:=(hd_off hh).2.2.1;have k1:=h.i1;have k2:=h.i2;have d0:=h.dec.c0;have d1:=h.dec.c1;have ha:=h.dec.at_ off hl;have hm:=h.dec.len;have KT:=fun n=>nextCBORType (h.dec.drewN n) hl
 rw [hb1] at KT;have KH:=fun n=>getHead (h.dec.drewN n) hh
 have KF:=Hz (formatUint v hv);have gt2:((v:Int)==2)=false:=by simp;omega
 have gt3:((v:Int)==3)=false:=by simp;omega
 have L0:Togo bs (thenR (txt (dec v)) (thenR (txt [40]) (thenR r5 (txt [41])))) bs res:=by rw [hres];exact Togo.refl _ _
 replace hres:=Hz hres;replace L0:=Hz L0;replace hC:=Hz hC;have hlen1:=Hz (L0.out.len_tx hlen);replace KT:=Hz KT;replace KH:=Hz KH;replace hh:=Hz hh;have g95:((X.xs[off].toNat:Int)==95)=false:=by simp;omega
 have g127:((X.xs[off].toNat:Int)==127)=false:=by simp;omega
 have g159:((X.xs[off].toNat:Int)==159)=false:=by simp;omega
 have g191:((X.xs[off].toNat:Int)==191)=false:=by simp;omega
 generalize (X.xs[off].toNat:Int)=x0 at *
 clear hb1 hb2 hai;have b1:(off:Int)<(X.xs.length:Int):=by omega
 have b2:(0:Int)≤(off:Int):=by omega
 have b3:(off:Int).toNat=off:=by omega
 go_enter Tryz.func105,Tryz.ntmps105
 go_wp2
 go_quiet (fail)
 go_wp2_with fail
 refine (KT.out _).mono ?_
 rintro e w1 ⟨rfl,nm,rfl⟩;go_wp2_with fail
 refine (KH.out _).mono ?_
 rintro e w1 ⟨rfl,hD,hf⟩;have h1:=(h.drewN _).moved hf hD;have G1:=h.grF (((Fr.refl [X.d] w).drewN _).trans hf);have k1:=h1.i1;have k2:=h1.i2;go_wp2
 go_region_held3 (fun w'=>w'.cell? ⟨X.di,2,none⟩=some (.pointer (some ⟨X.wb,0,none⟩))) (first|go_keep|exact h2.i2|exact h3.i2)
  (first|(go_at_call 122;refine (KF.out _).mono ?_;rintro e w2 ⟨rfl,hf2⟩;have h2:=St.kept (by first|exact h1|exact St.drewN h1 _) hf2;have G2:=(St.gr0 (by first|exact h1|exact St.drewN h1 _) hf2))|(go_at_call 104;refine (writeString h2.buf h2.lw h2.hB (dec v) hlen1.out).mono ?_;rintro e w3 ⟨⟨u3,rfl⟩,hb3,hg3⟩;have h3:=h2.wrote hg3 hb3))
 have G3:=(G1.drewN 1).trans (Gr.trans G2 (St.grW hg3));have L3:=Hz L0.out.tx;have K4:=Hz (fun n=>writeByte (h3.drewN n).buf h3.lw (h3.drewN n).hB 40 (L3.out.lt hlen))
 go_wp2_with fail
 refine (K4.out 0).mono ?_
 rintro e w4 ⟨rfl,hb4,hg4⟩;have h4:=h3.wrote hg4 hb4;have G4:=G3.trans (St.grW hg4);have L4:=Hz L3.out.tx;have K5:=Hz (hC.out _ _ h4 (L4.out.len1 hlen));go_wp2_with fail
 refine K5.out.mono ?_
 rintro e w5 ⟨v5,o5,rfl,hv5,ho5,h5,hG5⟩;have G5:=G4.trans hG5;rcases hr5:r5.2 with _|k
 ·rw [hr5] at hv5;obtain rfl:=hv5.nil;have L5:=Hz (L4.out.ok hr5);rw [ho5 hr5] at h5;have i1_5:=h5.i1;have i2_5:=h5.i2;have K6:=Hz (fun n=>writeByte (h5.drewN n).buf h5.lw (h5.drewN n).hB 41 (L5.out.lt1 hlen))
  go_wp2_with fail
  refine (K6.out 0).mono ?_
  rintro e w6 ⟨rfl,hb6,hg6⟩;have h6:=h5.wrote hg6 hb6;have G6:=G5.trans (St.grW hg6);go_wp2;go_ret
  exact IPost.done h6 G6 L5.out
 ·rw [hr5] at hv5;obtain ⟨t,x,rfl⟩:=hv5.ne;go_wp2;go_ret
  exact IPost.err (w1:=w) hv5 h5 G5 (L4.out.err hr5)
end
end
end Go.Proofs.YteodinhkhhaafaaGreatDoor
