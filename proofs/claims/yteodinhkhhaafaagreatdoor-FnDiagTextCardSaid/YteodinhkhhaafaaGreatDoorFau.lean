/- Walks of the program, and plain facts. -/
import Derived.Test.YteodinhkhhaafaaGreatDoorFar
import Derived.Test.YteodinhkhhaafaaGreatDoorFaj
set_option linter.unusedVariables false
set_option linter.unusedSimpArgs false
set_option maxRecDepth 100000
set_option maxHeartbeats 6400000
namespace Go.Proofs.YteodinhkhhaafaaGreatDoor
section
open Go.RowKit
section
variable {X:Cx} {off:Nat} {bs:List UInt8} {w:World}
theorem ErrO.ne {k:Nat} {v:Value} (h:ErrO (some k) v): ∃t x,v= .iface t x:=ErrV.iface h
theorem ErrO.nil {v:Value} (h:ErrO none v):v= .nilIface:=h
def Togo (bs:List UInt8) (r:R) (bs0:List UInt8) (r0:R):Prop:=bs++r.1=bs0++r0.1∧r.2=r0.2
theorem Togo.refl (bs:List UInt8) (r:R):Togo bs r bs r:=⟨rfl,rfl⟩
theorem Togo.tx {bs bs0 s:List UInt8} {r r0:R} (h:Togo bs (thenR (txt s) r) bs0 r0):Togo (bs++s) r bs0 r0:=⟨by rw [List.append_assoc];exact h.1,h.2⟩
theorem Togo.ok {bs bs0:List UInt8} {a r r0:R} (h:Togo bs (thenR a r) bs0 r0) (ha:a.2=none):Togo (bs++a.1) r bs0 r0:=by
 rw [thenR_ok ha] at h;exact ⟨by rw [List.append_assoc];exact h.1,h.2⟩
theorem Togo.err {bs bs0:List UInt8} {a r r0:R} {k:Nat} (h:Togo bs (thenR a r) bs0 r0) (ha:a.2=some k):bs++a.1=bs0++r0.1∧r0.2=some k:=by
 rw [thenR_err ha] at h;exact ⟨h.1,h.2.symm⟩
theorem Togo.len {bs bs0:List UInt8} {r r0:R} (h:Togo bs r bs0 r0) (hl:bs0.length+r0.1.length≤room):bs.length+r.1.length≤room:=by
 have:=congrArg List.length h.1;simp only [List.length_append] at this;omega
theorem Togo.len_tx {bs bs0 s:List UInt8} {r r0:R} (h:Togo bs (thenR (txt s) r) bs0 r0) (hl:bs0.length+r0.1.length≤room):bs.length+s.length≤room:=by
 have:=h.tx.len hl;simp only [List.length_append] at this;omega
theorem Togo.len1 {bs bs0:List UInt8} {a r r0:R} (h:Togo bs (thenR a r) bs0 r0) (hl:bs0.length+r0.1.length≤room):bs.length+a.1.length≤room:=by
 have:=h.len hl;unfold thenR at this
 split at this
 ·simp only [List.length_append] at this;omega
 ·exact this
theorem IPost.err {X:Cx} {off' o2 k:Nat} {bs bs':List UInt8} {a r0:R} {w w1 w2:World} {v:Value} (hv:ErrO (some k) v) (hS:St X o2 (bs'++a.1) w2) (hG:Gr X.B [X.d,X.wb] w w2) (hL:bs'++a.1=bs++r0.1∧r0.2=some k):
  IPost X off' bs r0 w (.returned v) w2:=⟨v,o2,rfl,hL.2▸hv,fun e=>(by rw [hL.2] at e;cases e),hL.1▸hS,hG⟩
theorem IPost.done {X:Cx} {off':Nat} {bs bs':List UInt8} {s:List UInt8} {r0:R} {w w2:World} (hS:St X off' (bs'++s) w2) (hG:Gr X.B [X.d,X.wb] w w2) (hL:Togo bs' (txt s) bs r0):
  IPost X off' bs r0 w (.returned .nilIface) w2:=⟨_,off',rfl,(show ErrO r0.2 .nilIface from hL.2▸rfl),fun _=>rfl,by
   have:=hL.1;simp only [txt] at this;rw [←this];exact hS,hG⟩
theorem di_list4 (h:St X off bs w) {ai v o1 off2:Nat} {l:List R} (hh:hd X.xs off= .ok (4,ai,v,o1)) (h31:ai≠31) (hKids:Kids X o1 off2 l) (hcount:l.length=v) (hcap:v≤2147483647) {res:R} (hres:thenR (txt [91]) (arrR [93] 0 l)=res) (hlen:bs.length+res.1.length≤room):
  Calls Tryz.prog 105 #[.pointer (some ⟨X.di,0,none⟩)] w (IPost X off2 bs res w):=by
 obtain ⟨hl,hb1,hb2⟩:=hd_byte hh;have hv:=(hd_val hh).1;have hai:=(hd_off hh).2.2.2;have hai2:=(hd_off hh).2.2.1;have k1:=h.i1;have k2:=h.i2;have d0:=h.dec.c0;have d1:=h.dec.c1;have ha:=h.dec.at_ off hl;have hm:=h.dec.len;have KT:=fun n=>nextCBORType (h.dec.drewN n) hl
 rw [hb1] at KT;have KH:=fun n=>getHead (h.dec.drewN n) hh
 have gw:=wrap_pos v (by omega)
 replace KT:=Hz KT;replace KH:=Hz KH;replace hh:=Hz hh;have g95:((X.xs[off].toNat:Int)==95)=false:=by simp;omega
 have g127:((X.xs[off].toNat:Int)==127)=false:=by simp;omega
 have g159:((X.xs[off].toNat:Int)==159)=false:=by simp;omega
 have g191:((X.xs[off].toNat:Int)==191)=false:=by simp;omega
 generalize (X.xs[off].toNat:Int)=x0 at *
 clear hb1 hb2 hai;have b1:(off:Int)<(X.xs.length:Int):=by omega
 have b2:(0:Int)≤(off:Int):=by omega
 have b3:(off:Int).toNat=off:=by omega
 go_enter Tryz.func105,Tryz.ntmps105
 go_wp2
 go_quiet (fail)
 go_wp2_with fail
 refine (KT.out _).mono ?_
 rintro e w1 ⟨rfl,nm,rfl⟩;go_wp2_with fail
 refine (KH.out _).mono ?_
 rintro e w1 ⟨rfl,hD,hf⟩;have h1:=(h.drewN _).moved hf hD;have G1:=h.grF (((Fr.refl [X.d] w).drewN _).trans hf);have k1:=h1.i1;have k2:=h1.i2;have L0:Togo bs (thenR (txt [91]) (arrR [93] 0 l)) bs res:=by rw [hres];exact Togo.refl _ _
 replace hres:=Hz hres;replace L0:=Hz L0;replace hKids:=Hz hKids;replace hcount:=Hz hcount;have K2:=Hz (fun n=>writeByte (h1.drewN n).buf h1.lw (h1.drewN n).hB 91 (by have:=L0.out.len_tx hlen;unfold room at this;simp at this;omega))
 go_wp2_with fail
 refine (K2.out 0).mono ?_
 rintro e w2 ⟨rfl,hb2,hg2⟩;have h2:=h1.wrote hg2 hb2;have G2:=G1.trans (St.grW hg2);have L2:=Hz L0.out.tx;have i1_2:=h2.i1;have i2_2:=h2.i2;go_wp2
 go_loopg [28] v (fun k v28 wr=> ∃(i:Nat) (l:List R) (off:Nat) (bs':List UInt8),v28= .int .i64 (i:Int)∧Hid (i+k=v)∧Hid (l.length=k)∧Hid (Kids X off off2 l)∧Hid (Togo bs' (arrR [93] i l) bs res)∧St X off bs' wr∧Gr X.B [X.d,X.wb] w wr)
 case atStart=>exact ⟨0,l,o1,_,by go_num,Nat.zero_add v,hcount,hKids,L2,h2,G2⟩
 case round=>
  clear k1 k2 i1_2 i2_2;obtain ⟨i,l,off3,bs3,rfl,hi,hlk,hK,L3,h3,G3⟩:=hrel;have i1_3:=h3.i1;have i2_3:=h3.i2;by_cases hk:gk=0
  ·subst hk;obtain rfl:=List.eq_nil_of_length_eq_zero hlk.out;have t2: ¬(i:Int)<(v:Int):=by have:=hi.out;omega
   have ho:off3=off2:=by cases hK.out;rfl
   subst ho;have K4:=Hz (fun n=>writeByte (h3.drewN n).buf h3.lw (h3.drewN n).hB 93 (by have:=L3.out.len hlen;unfold room arrR at this;simp [txt] at this;omega))
   go_wp2_with fail
   refine (K4.out 0).mono ?_
   rintro e w4 ⟨rfl,hb4,hg4⟩;have h4:=h3.wrote hg4 hb4;have G4:=G3.trans (St.grW hg4);go_wp2;go_ret
   exact IPost.done h4 G4 L3.out
  ·have t2:(i:Int)<(v:Int):=by have:=hi.out;omega
   have hi64:i≤2147483647:=by omega
   obtain ⟨g,rfl⟩: ∃g,gk=g+1:=⟨gk-1,by omega⟩
   clear hk;obtain ⟨r5,l5,rfl⟩: ∃r l',l=r::l':=by
    cases l with
    |nil=>have:=hlk.out;simp at this
    |cons r l'=>exact ⟨r,l',rfl⟩
   obtain ⟨mid,C5,hK5⟩: ∃mid,ItemC X off3 mid r5∧Kids X mid off2 l5:=by cases hK.out with|cons a b=>exact ⟨_,a,b⟩
   replace C5:=Hz C5;replace hK5:=Hz hK5;have hl5:Hid (l5.length=g):=Hz (by have:=hlk.out;simp at this;exact this)
   replace L3:=Hz (show Togo bs3 (thenR (txt (if i=0 then [] else [44,32])) (thenR r5 (arrR [93] (i+1) l5))) bs res from L3.out)
   by_cases h0:i=0
   ·have t3: ¬(0:Int)<(i:Int):=by omega
    have L4:=Hz L3.out.tx;rw [if_pos h0,List.append_nil] at L4;have K5:=Hz (C5.out _ _ h3 (L4.out.len1 hlen));go_wp2_with fail
    refine K5.out.mono ?_
    rintro e w5 ⟨v5,o5,rfl,hv5,ho5,h5,hG5⟩;have G5:=G3.trans hG5;rcases hr5:r5.2 with _|k
    ·rw [hr5] at hv5;obtain rfl:=hv5.nil;have L5:=Hz (L4.out.ok hr5);rw [ho5 hr5] at h5;have i1_5:=h5.i1;have i2_5:=h5.i2;go_wp2
     go_roundg g
     case measure=>omega
     case rel=>exact ⟨i+1,l5,mid,_,by go_num,(show i+1+g=v by have:=hi.out;omega),hl5,hK5,L5,h5,G5⟩
    ·rw [hr5] at hv5;obtain ⟨t,x,rfl⟩:=hv5.ne;go_wp2;go_ret
     exact IPost.err (w1:=w) hv5 h5 G5 (L4.out.err hr5)
   ·have t3:(0:Int)<(i:Int):=by omega
    have L4':=L3;rw [if_neg h0] at L4';replace L4':=Hz L4';have L4:=Hz L4'.out.tx;have K4:=Hz (fun n=>writeString (h3.drewN n).buf h3.lw (h3.drewN n).hB [44,32] (L4'.out.len_tx hlen))
    go_wp2_with fail
    refine (K4.out 0).mono ?_
    rintro e w4 ⟨⟨u4,rfl⟩,hb4,hg4⟩;have h4:=h3.wrote hg4 hb4;have G4:=G3.trans (St.grW hg4);have i1_4:=h4.i1;have i2_4:=h4.i2;have K5:=Hz (C5.out _ _ h4 (L4.out.len1 hlen));go_wp2_with fail
    refine K5.out.mono ?_
    rintro e w5 ⟨v5,o5,rfl,hv5,ho5,h5,hG5⟩;have G5:=G4.trans hG5;rcases hr5:r5.2 with _|k
    ·rw [hr5] at hv5;obtain rfl:=hv5.nil;have L5:=Hz (L4.out.ok hr5);rw [ho5 hr5] at h5;have i1_5:=h5.i1;have i2_5:=h5.i2;go_wp2
     go_roundg g
     case measure=>omega
     case rel=>exact ⟨i+1,l5,mid,_,by go_num,(show i+1+g=v by have:=hi.out;omega),hl5,hK5,L5,h5,G5⟩
    ·rw [hr5] at hv5;obtain ⟨t,x,rfl⟩:=hv5.ne;go_wp2;go_ret
     exact IPost.err (w1:=w) hv5 h5 G5 (L4.out.err hr5)
theorem di_list5 (h:St X off bs w) {ai v o1 off2:Nat} {l:List (R×R)} (hh:hd X.xs off= .ok (5,ai,v,o1)) (h31:ai≠31) (hKids:Kids2 X o1 off2 l) (hcount:l.length=v) (hcap:v≤2147483647) {res:R} (hres:thenR (txt [123]) (mapR [125] 0 l)=res) (hlen:bs.length+res.1.length≤room):
  Calls Tryz.prog 105 #[.pointer (some ⟨X.di,0,none⟩)] w (IPost X off2 bs res w):=by
 obtain ⟨hl,hb1,hb2⟩:=hd_byte hh;have hv:=(hd_val hh).1;have hai:=(hd_off hh).2.2.2;have hai2:=(hd_off hh).2.2.1;have k1:=h.i1;have k2:=h.i2;have d0:=h.dec.c0;have d1:=h.dec.c1;have ha:=h.dec.at_ off hl;have hm:=h.dec.len;have KT:=fun n=>nextCBORType (h.dec.drewN n) hl
 rw [hb1] at KT;have KH:=fun n=>getHead (h.dec.drewN n) hh
 have gw:=wrap_pos v (by omega)
 replace KT:=Hz KT;replace KH:=Hz KH;replace hh:=Hz hh;have g95:((X.xs[off].toNat:Int)==95)=false:=by simp;omega
 have g127:((X.xs[off].toNat:Int)==127)=false:=by simp;omega
 have g159:((X.xs[off].toNat:Int)==159)=false:=by simp;omega
 have g191:((X.xs[off].toNat:Int)==191)=false:=by simp;omega
 generalize (X.xs[off].toNat:Int)=x0 at *
 clear hb1 hb2 hai;have b1:(off:Int)<(X.xs.length:Int):=by omega
 have b2:(0:Int)≤(off:Int):=by omega
 have b3:(off:Int).toNat=off:=by omega
 go_enter Tryz.func105,Tryz.ntmps105
 go_wp2
 go_quiet (fail)
 go_wp2_with fail
 refine (KT.out _).mono ?_
 rintro e w1 ⟨rfl,nm,rfl⟩;go_wp2_with fail
 refine (KH.out _).mono ?_
 rintro e w1 ⟨rfl,hD,hf⟩;have h1:=(h.drewN _).moved hf hD;have G1:=h.grF (((Fr.refl [X.d] w).drewN _).trans hf);have k1:=h1.i1;have k2:=h1.i2;have L0:Togo bs (thenR (txt [123]) (mapR [125] 0 l)) bs res:=by rw [hres];exact Togo.refl _ _
 replace hres:=Hz hres;replace L0:=Hz L0;replace hKids:=Hz hKids;replace hcount:=Hz hcount;have K2:=Hz (fun n=>writeByte (h1.drewN n).buf h1.lw (h1.drewN n).hB 123 (by have:=L0.out.len_tx hlen;unfold room at this;simp at this;omega))
 go_wp2_with fail
 refine (K2.out 0).mono ?_
 rintro e w2 ⟨rfl,hb2,hg2⟩;have h2:=h1.wrote hg2 hb2;have G2:=G1.trans (St.grW hg2);have L2:=Hz L0.out.tx;have i1_2:=h2.i1;have i2_2:=h2.i2;go_wp2
 go_loopg [34] v (fun k v28 wr=> ∃(i:Nat) (l:List (R×R)) (off:Nat) (bs':List UInt8),v28= .int .i64 (i:Int)∧Hid (i+k=v)∧Hid (l.length=k)∧Hid (Kids2 X off off2 l)∧Hid (Togo bs' (mapR [125] i l) bs res)∧St X off bs' wr∧Gr X.B [X.d,X.wb] w wr)
 case atStart=>exact ⟨0,l,o1,_,by go_num,Nat.zero_add v,hcount,hKids,L2,h2,G2⟩
 case round=>
  clear k1 k2 i1_2 i2_2;obtain ⟨i,l,off3,bs3,rfl,hi,hlk,hK,L3,h3,G3⟩:=hrel;have i1_3:=h3.i1;have i2_3:=h3.i2;by_cases hk:gk=0
  ·subst hk;obtain rfl:=List.eq_nil_of_length_eq_zero hlk.out;have t2: ¬(i:Int)<(v:Int):=by have:=hi.out;omega
   have ho:off3=off2:=by cases hK.out;rfl
   subst ho;have K4:=Hz (fun n=>writeByte (h3.drewN n).buf h3.lw (h3.drewN n).hB 125 (by have:=L3.out.len hlen;unfold room mapR at this;simp [txt] at this;omega))
   go_wp2_with fail
   refine (K4.out 0).mono ?_
   rintro e w4 ⟨rfl,hb4,hg4⟩;have h4:=h3.wrote hg4 hb4;have G4:=G3.trans (St.grW hg4);go_wp2;go_ret
   exact IPost.done h4 G4 L3.out
  ·have t2:(i:Int)<(v:Int):=by have:=hi.out;omega
   have hi64:i≤2147483647:=by omega
   obtain ⟨g,rfl⟩: ∃g,gk=g+1:=⟨gk-1,by omega⟩
   clear hk;obtain ⟨r5,r7,l5,rfl⟩: ∃r s l',l=(r,s)::l':=by
    cases l with
    |nil=>have:=hlk.out;simp at this
    |cons r l'=>exact ⟨r.1,r.2,l',rfl⟩
   obtain ⟨mid,mid2,C5,C7,hK5⟩: ∃mid mid2,ItemC X off3 mid r5∧ItemC X mid mid2 r7∧Kids2 X mid2 off2 l5:=by cases hK.out with|cons a b c=>exact ⟨_,_,a,b,c⟩
   replace C5:=Hz C5;replace C7:=Hz C7;replace hK5:=Hz hK5;have hl5:Hid (l5.length=g):=Hz (by have:=hlk.out;simp at this;exact this)
   replace L3:=Hz (show Togo bs3 (thenR (txt (if i=0 then [] else [44,32])) (thenR r5 (thenR (txt [58,32]) (thenR r7 (mapR [125] (i+1) l5))))) bs res from L3.out)
   by_cases h0:i=0
   ·have t3: ¬(0:Int)<(i:Int):=by omega
    have L4:=Hz L3.out.tx;rw [if_pos h0,List.append_nil] at L4;have K5:=Hz (C5.out _ _ h3 (L4.out.len1 hlen));go_wp2_with fail
    refine K5.out.mono ?_
    rintro e w5 ⟨v5,o5,rfl,hv5,ho5,h5,hG5⟩;have G5:=G3.trans hG5;rcases hr5:r5.2 with _|k
    ·rw [hr5] at hv5;obtain rfl:=hv5.nil;have L5:=Hz (L4.out.ok hr5);rw [ho5 hr5] at h5;have i1_5:=h5.i1;have i2_5:=h5.i2;have K6:=Hz (fun n=>writeString (h5.drewN n).buf h5.lw (h5.drewN n).hB [58,32] (L5.out.len_tx hlen))
     go_wp2_with fail
     refine (K6.out 0).mono ?_
     rintro e w6 ⟨⟨u6,rfl⟩,hb6,hg6⟩;have h6:=h5.wrote hg6 hb6;have G6:=G5.trans (St.grW hg6);have L6:=Hz L5.out.tx;have i1_6:=h6.i1;have i2_6:=h6.i2;have K7:=Hz (C7.out _ _ h6 (L6.out.len1 hlen));go_wp2_with fail
     refine K7.out.mono ?_
     rintro e w7 ⟨v7,o7,rfl,hv7,ho7,h7,hG7⟩;have G7:=G6.trans hG7;rcases hr7:r7.2 with _|k
     ·rw [hr7] at hv7;obtain rfl:=hv7.nil;have L7:=Hz (L6.out.ok hr7);rw [ho7 hr7] at h7;have i1_7:=h7.i1;have i2_7:=h7.i2;go_wp2
      go_roundg g
      case measure=>omega
      case rel=>exact ⟨i+1,l5,mid2,_,by go_num,(show i+1+g=v by have:=hi.out;omega),hl5,hK5,L7,h7,G7⟩
     ·rw [hr7] at hv7;obtain ⟨t,x,rfl⟩:=hv7.ne;go_wp2;go_ret
      exact IPost.err (w1:=w) hv7 h7 G7 (L6.out.err hr7)
    ·rw [hr5] at hv5;obtain ⟨t,x,rfl⟩:=hv5.ne;go_wp2;go_ret
     exact IPost.err (w1:=w) hv5 h5 G5 (L4.out.err hr5)
   ·have t3:(0:Int)<(i:Int):=by omega
    have L4':=L3;rw [if_neg h0] at L4';replace L4':=Hz L4';have L4:=Hz L4'.out.tx;have K4:=Hz (fun n=>writeString (h3.drewN n).buf h3.lw (h3.drewN n).hB [44,32] (L4'.out.len_tx hlen))
    go_wp2_with fail
    refine (K4.out 0).mono ?_
    rintro e w4 ⟨⟨u4,rfl⟩,hb4,hg4⟩;have h4:=h3.wrote hg4 hb4;have G4:=G3.trans (St.grW hg4);have i1_4:=h4.i1;have i2_4:=h4.i2;have K5:=Hz (C5.out _ _ h4 (L4.out.len1 hlen));go_wp2_with fail
    refine K5.out.mono ?_
    rintro e w5 ⟨v5,o5,rfl,hv5,ho5,h5,hG5⟩;have G5:=G4.trans hG5;rcases hr5:r5.2 with _|k
    ·rw [hr5] at hv5;obtain rfl:=hv5.nil;have L5:=Hz (L4.out.ok hr5);rw [ho5 hr5] at h5;have i1_5:=h5.i1;have i2_5:=h5.i2;have K6:=Hz (fun n=>writeString (h5.drewN n).buf h5.lw (h5.drewN n).hB [58,32] (L5.out.len_tx hlen))
     go_wp2_with fail
     refine (K6.out 0).mono ?_
     rintro e w6 ⟨⟨u6,rfl⟩,hb6,hg6⟩;have h6:=h5.wrote hg6 hb6;have G6:=G5.trans (St.grW hg6);have L6:=Hz L5.out.tx;have i1_6:=h6.i1;have i2_6:=h6.i2;have K7:=Hz (C7.out _ _ h6 (L6.out.len1 hlen));go_wp2_with fail
     refine K7.out.mono ?_
     rintro e w7 ⟨v7,o7,rfl,hv7,ho7,h7,hG7⟩;have G7:=G6.trans hG7;rcases hr7:r7.2 with _|k
     ·rw [hr7] at hv7;obtain rfl:=hv7.nil;have L7:=Hz (L6.out.ok hr7);rw [ho7 hr7] at h7;have i1_7:=h7.i1;have i2_7:=h7.i2;go_wp2
      go_roundg g
      case measure=>omega
      case rel=>exact ⟨i+1,l5,mid2,_,by go_num,(show i+1+g=v by have:=hi.out;omega),hl5,hK5,L7,h7,G7⟩
     ·rw [hr7] at hv7;obtain ⟨t,x,rfl⟩:=hv7.ne;go_wp2;go_ret
      exact IPost.err (w1:=w) hv7 h7 G7 (L6.out.err hr7)
    ·rw [hr5] at hv5;obtain ⟨t,x,rfl⟩:=hv5.ne;go_wp2;go_ret
     exact IPost.err (w1:=w) hv5 h5 G5 (L4.out.err hr5)
end
end
section
section
open Go.RowKit
inductive SeqC (X:Cx) (sq:Bool):Nat→Bool→Nat→R→Prop
 |none {off:Nat}:wfTop X.L X.xs sq off (some 1)→SeqC X sq 0 true off ([],some 1)
 |stop {off:Nat}:wfTop X.L X.xs sq off (some 1)→SeqC X sq 0 false off ([],none)
 |bad {off k:Nat} {first:Bool}:wfTop X.L X.xs sq off (some k)→k≠1→SeqC X sq 0 first off ([],some k)
 |item {off off' n:Nat} {first:Bool} {r r':R}:wfTop X.L X.xs sq off .none→ItemC X off off' r→(r.2= .none→SeqC X sq n false off' r')→
   SeqC X sq (n+1) first off (thenR (txt (if first then [] else [44,32])) (thenR r r'))
def SPost (X:Cx) (r:R) (w:World) (e:Ending) (w':World):Prop:=
 ∃v off',e= .returned (.tuple #[.string ⟨r.1.toArray⟩,v])∧ErrO r.2 v∧St X off' r.1 w'∧Gr X.B [X.d,X.wb] w w'
theorem SPost.of {X:Cx} {r r0:R} {w w':World} {bs:List UInt8} {v:Value} {off':Nat} (hL:Togo bs r [] r0) (h0:r.1=[]) (hv:ErrO r.2 v) (hS:St X off' bs w') (hG:Gr X.B [X.d,X.wb] w w'):
  SPost X r0 w (.returned (.tuple #[.string ⟨bs.toArray⟩,v])) w':=by
 have h1:=hL.1;rw [h0] at h1;simp only [List.append_nil,List.nil_append] at h1;subst h1;exact ⟨v,off',rfl,hL.2▸hv,hS,hG⟩
theorem SPost.err {X:Cx} {k o2:Nat} {bs':List UInt8} {a r0:R} {w w2:World} {v:Value} (hv:ErrO (some k) v) (hS:St X o2 (bs'++a.1) w2) (hG:Gr X.B [X.d,X.wb] w w2) (hL:bs'++a.1=[]++r0.1∧r0.2=some k) {bx:List UInt8} (hx:bs'++a.1=bx):
  SPost X r0 w (.returned (.tuple #[.string ⟨bx.toArray⟩,v])) w2:=by
 subst hx;have h1:=hL.1;rw [List.nil_append] at h1;rw [h1] at hS ⊢;exact ⟨v,o2,rfl,hL.2▸hv,hS,hG⟩
theorem diag {X:Cx} {w:World} (h:St X 0 [] w) (hn:X.L.nest≤65535) (hel:X.L.el≤2147483647) (hpa:X.L.pa≤2147483647) (sq:Bool) {n:Nat} {r:R} (hr:SeqC X sq n true 0 r) (hlen:r.1.length≤room):
  Calls Tryz.prog 87 #[.pointer (some ⟨X.di,0,none⟩),.bool sq] w (SPost X r w):=by
 have L0:Togo [] r [] r:=Togo.refl _ _;have hlen':([]:List UInt8).length+r.1.length≤room:=by simpa using hlen
 generalize hn0:n=n0 at *
 replace L0:=Hz L0;replace hr:=Hz hr;replace hlen':=Hz hlen';clear hlen hn0;go_enter Tryz.func87,Tryz.ntmps87
 go_wp2
 go_loopg [6] n0 (fun k v6 wr=> ∃(first:Bool) (off:Nat) (bs':List UInt8) (r':R),v6= .bool first∧Hid (SeqC X sq k first off r')∧Hid (Togo bs' r' [] r)∧St X off bs' wr∧Gr X.B [X.d,X.wb] w wr)
 case atStart=>exact ⟨true,0,[],r,rfl,hr,L0,h,Gr.refl _ _ _⟩
 case round=>
  obtain ⟨first,off,bs1,r1,rfl,hS,L1,h1,G1⟩:=hrel;have W: ∀q,wfTop X.L X.xs sq off q→Hid (Calls Tryz.prog 103 #[.pointer (some ⟨X.di,0,none⟩),.bool sq] wr fun e w'=> ∃v,e= .returned v∧ErrO q v∧St X off bs1 w'∧Gr X.B [X.d,X.wb] wr w'):=fun q hq=>Hz (di_wellformed h1 hn hel hpa sq q hq)
  rcases hS.out with hq|hq|⟨hq,hk⟩|⟨hq,hC,hrest⟩
  ·have K:=W _ hq;clear W hS;go_wp2_with fail
   refine K.out.mono ?_
   rintro e w2 ⟨v,rfl,hv,h2,G2⟩;obtain rfl:v= .iface 141 (.string eofS):=hv;have k2:=h2.i2;have KS:=Hz (string h2.buf);have he:=eq_eof w2;unfold eofS;go_wp2_with fail
   refine KS.out.mono ?_
   rintro e w3 ⟨rfl,rfl⟩;go_wp2
   go_ret2
   exact SPost.of L1.out rfl (show ErrO (some 1) _ from rfl) h2 (G1.trans G2)
  ·have K:=W _ hq;clear W hS;go_wp2_with fail
   refine K.out.mono ?_
   rintro e w2 ⟨v,rfl,hv,h2,G2⟩;obtain rfl:v= .iface 141 (.string eofS):=hv;have k2:=h2.i2;have KS:=Hz (string h2.buf);have he:=eq_eof w2;unfold eofS;go_wp2_with fail
   refine KS.out.mono ?_
   rintro e w3 ⟨rfl,rfl⟩;go_wp2
   go_ret2
   exact SPost.of L1.out rfl rfl h2 (G1.trans G2)
  ·have K:=W _ hq;clear W hS;go_wp2_with fail
   refine K.out.mono ?_
   rintro e w2 ⟨v,rfl,hv,h2,G2⟩;have k2:=h2.i2;have KS:=Hz (string h2.buf);have he:=errv_eof hv hk w2;obtain ⟨t,x,rfl⟩:=ErrV.iface hv;go_wp2_with fail
   refine KS.out.mono ?_
   rintro e w3 ⟨rfl,rfl⟩;go_wp2
   go_ret2
   exact SPost.of L1.out rfl hv h2 (G1.trans G2)
  ·rename_i off' m r2 r3 hJ;have K:=W _ hq;clear W hS;replace hC:=Hz hC;replace hrest:=Hz hrest;go_wp2_with fail
   refine K.out.mono ?_
   rintro e w2 ⟨v,rfl,hv,h2,G2⟩;obtain rfl:=hv.nil;have k2:=h2.i2;have G2':=G1.trans G2;rcases first with _|_
   ·have L2':=Hz (show Togo bs1 (thenR (txt [44,32]) (thenR r2 r3)) [] r from L1.out)
    have K3:=Hz (fun n=>writeString (h2.drewN n).buf h2.lw (h2.drewN n).hB [44,32] (L2'.out.len_tx hlen'.out))
    go_wp2_with fail
    refine (K3.out 0).mono ?_
    rintro e w3 ⟨⟨u3,rfl⟩,hb3,hg3⟩;have h3:=h2.wrote hg3 hb3;have G3:=G2'.trans (St.grW hg3);have L3:=Hz L2'.out.tx;have KI:=Hz (hC.out _ _ h3 (L3.out.len1 hlen'.out));go_wp2_with fail
    refine KI.out.mono ?_
    rintro e w4 ⟨v4,o4,rfl,hv4,ho4,h4,hG4⟩;have G4:=G3.trans hG4;rcases hr4:r2.2 with _|k
    ·rw [hr4] at hv4;obtain rfl:=hv4.nil;have L4:=Hz (L3.out.ok hr4);rw [ho4 hr4] at h4;go_wp2
     go_roundg m
     case measure=>omega
     case rel=>exact ⟨false,off',_,r3,rfl,Hz (hrest.out hr4),L4,h4,G4⟩
    ·rw [hr4] at hv4;have k4:=h4.i2;have KS:=Hz (string h4.buf);obtain ⟨t,x,rfl⟩:=hv4.ne;go_wp2_with fail
     refine KS.out.mono ?_
     rintro e w5 ⟨rfl,rfl⟩;go_wp2
     go_ret2
     exact SPost.err hv4 h4 G4 (L3.out.err hr4) (by simp)
   ·have L2':=L1.out.tx;rw [if_pos rfl,List.append_nil] at L2';replace L2':=Hz L2';have KI:=Hz (hC.out _ _ h2 (L2'.out.len1 hlen'.out));go_wp2_with fail
    refine KI.out.mono ?_
    rintro e w4 ⟨v4,o4,rfl,hv4,ho4,h4,hG4⟩;have G4:=G2'.trans hG4;rcases hr4:r2.2 with _|k
    ·rw [hr4] at hv4;obtain rfl:=hv4.nil;have L4:=Hz (L2'.out.ok hr4);rw [ho4 hr4] at h4;go_wp2
     go_roundg m
     case measure=>omega
     case rel=>exact ⟨false,off',_,r3,rfl,Hz (hrest.out hr4),L4,h4,G4⟩
    ·rw [hr4] at hv4;have k4:=h4.i2;have KS:=Hz (string h4.buf);obtain ⟨t,x,rfl⟩:=hv4.ne;go_wp2_with fail
     refine KS.out.mono ?_
     rintro e w5 ⟨rfl,rfl⟩;go_wp2
     go_ret2
     exact SPost.err hv4 h4 G4 (L2'.out.err hr4) rfl
end
section
open Go.RowKit
theorem Fr.gr {S T:List Nat} {B:Nat} {w w1 w2:World} (h:Fr S w w1) (g:Gr B T w1 w2) (hB:w.heap.size≤B) (hT: ∀k,k∈T→k∈S∨w.heap.size≤k):Fr S w w2:=
 ⟨g.os.trans h.os,g.tape.trans h.tape,g.output.trans h.output,Nat.le_trans h.size g.size,fun k hk hn=>(g.block k (by omega) (fun e=>(hT k e).elim hn (by omega))).trans (h.block k hk hn)⟩
def Says (xs:List UInt8) (L:Lim) (M:Md) (sq:Bool) (r:R):Prop:= ∀X:Cx,X.xs=xs→X.L=L→X.M=M→ ∃n,SeqC X sq n true 0 r
def GPost (r:R) (w:World) (e:Ending) (w':World):Prop:= ∃v,e= .returned (.tuple #[.string ⟨r.1.toArray⟩,v])∧ErrO r.2 v∧Fr [] w w'
theorem diagnose {w:World} {db o c dm dg:Nat} {xs:List UInt8} {M:Md} {L:Lim} (hL:L.nest≤65535∧L.el≤2147483647∧L.pa≤2147483647) (hrd:Rd w db o xs) (hcap:xs.length≤c) (hlen:xs.length≤1099511627776) (hdb:db<w.heap.size) (hM:DgM w dg dm M) (hD:DecM w dm L.nest L.el L.pa) (hu:U8 w)
  {r:R} (hr:Says xs L M M.sq r) (hroom:r.1.length≤room):
  Calls Tryz.prog 57 #[.pointer (some ⟨dg,0,none⟩),.slice (some ⟨db,o,none⟩) xs.length c] w (GPost r w):=by
 have c4:w.cell? ⟨dg,4,none⟩=some (.bool M.sq):=cell_blk hM 4;have c6:w.cell? ⟨dg,6,none⟩=some (.pointer (some ⟨dm,0,none⟩)):=cell_blk hM 6;have K1:=fun n=>newDiagnose (w:=w.drewN n) (hrd.fr ((Fr.refl [] w).drewN n) (by simp)) hcap hlen hdb hM hD (hu.fr ((Fr.refl [] w).drewN n) (by simp))
 replace K1:=Hz K1;clear hu;replace hr:=Hz hr;replace hM:=Hz hM;go_enter Tryz.func57,Tryz.ntmps57
 go_wp2
 go_region_held3 (fun w'=>w'.cell? ⟨dg,4,none⟩=some (.bool M.sq)∧w'.cell? ⟨dg,6,none⟩=some (.pointer (some ⟨dm,0,none⟩)))
  (first|go_keep|exact ⟨hf1.cell c4 (by simp),hf1.cell c6 (by simp)⟩|exact ⟨hf2.cell c4 (by simp),hf2.cell c6 (by simp)⟩)
  (first|(go_at_call 86;refine (K1.out _).mono ?_;rintro e w1 ⟨X,rfl,hx,hl,hm,hdg,-,-,-,hB,hd,hwb,hS,hf0⟩;have hf1:Fr [] w w1:=((Fr.refl [] w).drewN _).trans hf0;have hB':w.heap.size≤X.B:=hB;have hd':w.heap.size≤X.d:=hd;have hwb':w.heap.size≤X.wb:=hwb)|(go_at_call 87;obtain ⟨nn,hq⟩:=hr.out X hx hl hm;refine (diag hS (hl▸hL.1) (hl▸hL.2.1) (hl▸hL.2.2) _ hq hroom).mono ?_;rintro e w2 ⟨v,o2,rfl,hv,hS2,hG⟩;have hf2:Fr [] w w2:=hf1.gr hG hB' (by intro k hk;simp at hk;rcases hk with rfl|rfl<;>exact .inr (by assumption))))
 go_wp2
 go_ret2
 exact ⟨v,rfl,hv,hf2⟩
end
end
section
open Go.RowKit
theorem toBytes (w:World) (xs:List UInt8): ∃c w1,(convert 9 59 (.string ⟨xs.toArray⟩)).run Tryz.prog w= .ok (.slice (some ⟨w.heap.size,0,none⟩) xs.length c) w1∧Rd w1 w.heap.size 0 xs∧xs.length≤c∧w.heap.size<w1.heap.size∧Fr [] w w1:=by
 have h:=run_bytes_of_string w 9 59 5 ⟨xs.toArray⟩ Tryz.underlying9 Tryz.underlying59 Tryz.underlying5;rw [size_mk] at h;refine ⟨_,_,h,?_,grownCap_ge _ _ _ _,by simp,((Fr.refl [] w).drew).alloc _⟩
 intro j hj;refine (cell_blk (blk_new w.drew _) _).trans ?_
 simp only [bytesRow,Nat.zero_add,List.map_toArray];rw [Array.getElem?_append_left (by simpa using hj)]
 simp [hj]
def ans (r:R):List UInt8×Nat:=
 match r.2 with
 |none=>(r.1,0)
 |some k=>([],k)
theorem implDiag {xs:List UInt8} {M:Md} {n:Nat} {L:Lim} (hL:LimOf n L) (he:M.enc<4) (hlen:xs.length≤1099511627776) {r:R} (hr:Says xs L M M.sq r) (hroom:r.1.length≤room) (w:World) (hu:U8 w):
  Calls Tryz.prog 26 #[.string ⟨xs.toArray⟩,diagOpts .i64 M n] w fun e w'=>e= .returned (.tuple #[.string ⟨(ans r).1.toArray⟩,.int .i64 ((ans r).2:Int)])∧Fr [] w w':=by
 have K1:=Hz (implMode M hL he);have hl:=hL.le;replace hr:=Hz hr;replace hu:=Hz hu;unfold diagOpts at *
 go_enter Tryz.func26,Tryz.ntmps26
 go_wp2_with fail
 refine (K1.out _).mono ?_
 rintro e w1 ⟨dg,dm,rfl,h1,h2,h3,h4,h5,h6,hf1⟩;obtain ⟨c,w2,hconv,hrd,hcap,hsz,hf2⟩:=toBytes w1 xs;have hF:Fr [] w w2:=(((Fr.refl [] w).alloc _).trans hf1).trans hf2;have hu2:=hu.out.fr hF (by simp)
 have K2:=Hz (diagnose hl hrd hcap hlen hsz (hf2.blk h3 (by simp)) (hf2.blk h4 (by simp)) hu2 hr.out hroom)
 clear h1 h2 h3 h4 hu2;go_wp2_with fail
 refine K2.out.mono ?_
 rintro e w3 ⟨v,rfl,hv,hf3⟩;obtain ⟨s,q⟩:=r;cases q with
 |none=>
  obtain rfl:=hv.nil;go_wp2
  go_ret2
  exact ⟨rfl,hF.trans hf3⟩
 |some k=>
  have KK:=Hz (zzKind k v hv);obtain ⟨t,x,rfl⟩:=hv.ne;go_wp2_with fail
  refine (KK.out _).mono ?_
  rintro e w4 ⟨rfl,rfl⟩;go_wp2
  go_ret2
  exact ⟨rfl,hF.trans hf3⟩
end
end Go.Proofs.YteodinhkhhaafaaGreatDoor
