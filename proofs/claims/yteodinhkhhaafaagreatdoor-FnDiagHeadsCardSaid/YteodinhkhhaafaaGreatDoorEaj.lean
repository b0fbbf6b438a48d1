/- Walks of the program, and plain facts. -/
import Derived.Test.YteodinhkhhaafaaGreatDoorEai
set_option linter.unusedVariables false
set_option linter.unusedSimpArgs false
set_option maxRecDepth 100000
set_option maxHeartbeats 6400000
namespace Go.Proofs.YteodinhkhhaafaaGreatDoor
section
open Go.RowKit
theorem St.step2 {X:Cx} {off:Nat} {bs:List UInt8} {w:World} (h:St X off bs w) (hl:off<X.xs.length) (n:Nat) (x:Int) (hx:x=(off:Int)+1):St X (off+1) bs ((w.drewN n).setCell ⟨X.d,1,none⟩ (.int .i64 x))∧Gr X.B [X.d,X.wb] w ((w.drewN n).setCell ⟨X.d,1,none⟩ (.int .i64 x)):=by
 subst hx;exact h.step hl n
section
variable {X:Cx} {off:Nat} {bs:List UInt8} {w:World}
theorem di_none_b (h:St X off bs w) (hl:off<X.xs.length) (hb:X.xs[off].toNat=95) (hl1:off+1<X.xs.length) (hb1:X.xs[off+1].toNat=255) (hlen:bs.length+(txt [39,39,95]).1.length≤room):
  Calls Tryz.prog 105 #[.pointer (some ⟨X.di,0,none⟩)] w (IPost X (off+2) bs (txt [39,39,95]) w):=by
 have k1:=h.i1;have k2:=h.i2;have d0:=h.dec.c0;have d1:=h.dec.c1;have df:=h.dec.f1;have ha:=h.dec.at_ off hl;have hm:=h.dec.len;have g95:((X.xs[off].toNat:Int)==95)=true:=by simp;omega
 have g127:((X.xs[off].toNat:Int)==127)=false:=by simp;omega
 have g159:((X.xs[off].toNat:Int)==159)=false:=by simp;omega
 have g191:((X.xs[off].toNat:Int)==191)=false:=by simp;omega
 generalize (X.xs[off].toNat:Int)=x0 at *
 clear hb;replace hlen:=Hz hlen;have b1:(off:Int)<(X.xs.length:Int):=by omega
 have b2:(0:Int)≤(off:Int):=by omega
 have b3:(off:Int).toNat=off:=by omega
 have wo:IntKind.i64.wrap ((off:Int)+1)=((off+1:Nat):Int):=by
  have:=wrap_pos (off+1) (by omega)
  simpa using this
 go_enter Tryz.func105,Tryz.ntmps105
 go_wp2
 go_quiet (fail)
 obtain ⟨h1,G1⟩:=h.step hl nq;have e0:=h1.dec.c0;have e1:=h1.dec.c1;have ef:=h1.dec.f1;have ea:=h1.dec.at_ (off+1) hl1;have j1:=h1.i1;have j2:=h1.i2;have b4:(off:Int)+1<(X.xs.length:Int):=by omega
 have b5:(0:Int)≤(off:Int)+1:=by omega
 have b6:((off:Int)+1).toNat=off+1:=by omega
 have gE:((X.xs[off+1].toNat:Int)==255)=true:=by simp;omega
 simp only [Int.natCast_add,Int.cast_ofNat_Int] at e1;have KQ:=Hz (isBreakFlag X.xs[off+1]);generalize (X.xs[off+1].toNat:Int)=x1 at *
 clear hb1;go_wp2
 go_quiet ((go_at_call 117;exact Calls.quiet_of_same (KQ.out _)))
 obtain ⟨h2,G2⟩:=h1.step2 hl1 nq ((off:Int)+1+1) (by omega)
 have j3:=h2.i2;have K2:=Hz (writeString h2.buf h2.lw h2.hB [39,39,95] hlen.out);go_wp2_with fail
 refine K2.out.mono ?_
 rintro e w3 ⟨⟨u2,rfl⟩,hb3,hg3⟩;have h3:=h2.wrote hg3 hb3;have G3:=(G1.trans G2).trans (St.grW hg3);go_wp2;go_ret
 exact ⟨_,_,rfl,rfl,fun _=>rfl,h3,G3⟩
theorem di_none_t (h:St X off bs w) (hl:off<X.xs.length) (hb:X.xs[off].toNat=127) (hl1:off+1<X.xs.length) (hb1:X.xs[off+1].toNat=255) (hlen:bs.length+(txt [34,34,95]).1.length≤room):
  Calls Tryz.prog 105 #[.pointer (some ⟨X.di,0,none⟩)] w (IPost X (off+2) bs (txt [34,34,95]) w):=by
 have k1:=h.i1;have k2:=h.i2;have d0:=h.dec.c0;have d1:=h.dec.c1;have df:=h.dec.f1;have ha:=h.dec.at_ off hl;have hm:=h.dec.len;have g95:((X.xs[off].toNat:Int)==95)=false:=by simp;omega
 have g127:((X.xs[off].toNat:Int)==127)=true:=by simp;omega
 have g159:((X.xs[off].toNat:Int)==159)=false:=by simp;omega
 have g191:((X.xs[off].toNat:Int)==191)=false:=by simp;omega
 generalize (X.xs[off].toNat:Int)=x0 at *
 clear hb;replace hlen:=Hz hlen;have b1:(off:Int)<(X.xs.length:Int):=by omega
 have b2:(0:Int)≤(off:Int):=by omega
 have b3:(off:Int).toNat=off:=by omega
 have wo:IntKind.i64.wrap ((off:Int)+1)=((off+1:Nat):Int):=by
  have:=wrap_pos (off+1) (by omega)
  simpa using this
 go_enter Tryz.func105,Tryz.ntmps105
 go_wp2
 go_quiet (fail)
 obtain ⟨h1,G1⟩:=h.step hl nq;have e0:=h1.dec.c0;have e1:=h1.dec.c1;have ef:=h1.dec.f1;have ea:=h1.dec.at_ (off+1) hl1;have j1:=h1.i1;have j2:=h1.i2;have b4:(off:Int)+1<(X.xs.length:Int):=by omega
 have b5:(0:Int)≤(off:Int)+1:=by omega
 have b6:((off:Int)+1).toNat=off+1:=by omega
 have gE:((X.xs[off+1].toNat:Int)==255)=true:=by simp;omega
 simp only [Int.natCast_add,Int.cast_ofNat_Int] at e1;have KQ:=Hz (isBreakFlag X.xs[off+1]);generalize (X.xs[off+1].toNat:Int)=x1 at *
 clear hb1;go_wp2
 go_quiet ((go_at_call 117;exact Calls.quiet_of_same (KQ.out _)))
 obtain ⟨h2,G2⟩:=h1.step2 hl1 nq ((off:Int)+1+1) (by omega)
 have j3:=h2.i2;have K2:=Hz (writeString h2.buf h2.lw h2.hB [34,34,95] hlen.out);go_wp2_with fail
 refine K2.out.mono ?_
 rintro e w3 ⟨⟨u2,rfl⟩,hb3,hg3⟩;have h3:=h2.wrote hg3 hb3;have G3:=(G1.trans G2).trans (St.grW hg3);go_wp2;go_ret
 exact ⟨_,_,rfl,rfl,fun _=>rfl,h3,G3⟩
theorem di_chunks_b (h:St X off bs w) {off2:Nat} {l:List R} (hl:off<X.xs.length) (hb:X.xs[off].toNat=95) (hl1:off+1<X.xs.length) (hb1:X.xs[off+1].toNat≠255) (hKids:KidsO X (off+1) off2 l) (hcap:l.length≤2147483647) {res:R} (hres:thenR (txt [40,95,32]) (arrR [41] 0 l)=res) (hlen:bs.length+res.1.length≤room):
  Calls Tryz.prog 105 #[.pointer (some ⟨X.di,0,none⟩)] w (IPost X off2 bs res w):=by
 have k1:=h.i1;have k2:=h.i2;have d0:=h.dec.c0;have d1:=h.dec.c1;have df:=h.dec.f1;have ha:=h.dec.at_ off hl;have hm:=h.dec.len;have g95:((X.xs[off].toNat:Int)==95)=true:=by simp;omega
 have g127:((X.xs[off].toNat:Int)==127)=false:=by simp;omega
 have g159:((X.xs[off].toNat:Int)==159)=false:=by simp;omega
 have g191:((X.xs[off].toNat:Int)==191)=false:=by simp;omega
 generalize (X.xs[off].toNat:Int)=x0 at *
 clear hb;have L0:Togo bs (thenR (txt [40,95,32]) (arrR [41] 0 l)) bs res:=by rw [hres];exact Togo.refl _ _
 replace hres:=Hz hres;replace L0:=Hz L0;replace hKids:=Hz hKids;have b1:(off:Int)<(X.xs.length:Int):=by omega
 have b2:(0:Int)≤(off:Int):=by omega
 have b3:(off:Int).toNat=off:=by omega
 have wo:IntKind.i64.wrap ((off:Int)+1)=((off+1:Nat):Int):=by
  have:=wrap_pos (off+1) (by omega)
  simpa using this
 go_enter Tryz.func105,Tryz.ntmps105
 go_wp2
 go_quiet (fail)
 obtain ⟨h1,G1⟩:=h.step hl nq;have e0:=h1.dec.c0;have e1:=h1.dec.c1;have ef:=h1.dec.f1;have ea:=h1.dec.at_ (off+1) hl1;have j1:=h1.i1;have j2:=h1.i2;have b4:(off:Int)+1<(X.xs.length:Int):=by omega
 have b5:(0:Int)≤(off:Int)+1:=by omega
 have b6:((off:Int)+1).toNat=off+1:=by omega
 have gE:((X.xs[off+1].toNat:Int)==255)=false:=by simp;omega
 simp only [Int.natCast_add,Int.cast_ofNat_Int] at e1;have KQ:=Hz (isBreakFlag X.xs[off+1]);generalize (X.xs[off+1].toNat:Int)=x1 at *
 clear hb1;go_wp2
 go_quiet ((go_at_call 117;exact Calls.quiet_of_same (KQ.out _)))
 have h1':=h1.drewN nq;have G1':=G1.drewN nq;clear G1;have h1:=h1';have G1:=G1';clear h1' G1';have j3:=h1.i2;have K2:=Hz (writeString h1.buf h1.lw h1.hB [40,95,32] (L0.out.len_tx hlen));go_wp2_with fail
 refine K2.out.mono ?_
 rintro e w2 ⟨⟨u2,rfl⟩,hb2,hg2⟩;have h2:=h1.wrote hg2 hb2;have G2:=G1.trans (St.grW hg2);have L2:=Hz L0.out.tx;clear ha k1 k2 d0 d1 df;go_wp2
 go_loopg [4] l.length (fun k v6 wr=> ∃(i:Nat) (l2:List R) (off:Nat) (bs':List UInt8),v6= .int .i64 (i:Int)∧Hid (i+k=l.length)∧Hid (l2.length=k)∧Hid (KidsO X off off2 l2)∧Hid (Togo bs' (arrR [41] i l2) bs res)∧St X off bs' wr∧Gr X.B [X.d,X.wb] w wr)
 case atStart=>exact ⟨0,l,off+1,_,by go_num,Nat.zero_add _,rfl,hKids,L2,h2,G2⟩
 case round=>
  obtain ⟨i,l2,off3,bs3,rfl,hi,hlk,hK,L3,h3,G3⟩:=hrel;have i1_3:=h3.i1;have i2_3:=h3.i2;by_cases hk:gk=0
  ·subst hk;obtain rfl:=List.eq_nil_of_length_eq_zero hlk.out;obtain ⟨hl3,hb3,rfl⟩: ∃hl:off3<X.xs.length,X.xs[off3].toNat=255∧off2=off3+1:=by cases hK.out with|nil a b=>exact ⟨a,b,rfl⟩
   have KB:=Hz (foundBreak_yes h3.dec hl3 (by simp [hb3]))
   go_wp2_with fail
   refine KB.out.mono ?_
   rintro e w4 ⟨rfl,hD4,hF4⟩;have h4:=h3.moved hF4 hD4;have G4:=G3.trans (h3.grF hF4);have i2_4:=h4.i2;have K5:=Hz (fun n=>writeByte (h4.drewN n).buf h4.lw (h4.drewN n).hB 41 (L3.out.lt1 hlen))
   go_wp2_with fail
   refine (K5.out 0).mono ?_
   rintro e w5 ⟨rfl,hb5,hg5⟩;have h5:=h4.wrote hg5 hb5;have G5:=G4.trans (St.grW hg5);go_wp2;go_ret
   exact IPost.done h5 G5 L3.out
  ·obtain ⟨g,rfl⟩: ∃g,gk=g+1:=⟨gk-1,by omega⟩
   clear hk;have hi64:i≤2147483647:=by have:=hi.out;omega
   obtain ⟨r5,l5,rfl⟩: ∃r l',l2=r::l':=by
    cases l2 with
    |nil=>have:=hlk.out;simp at this
    |cons r l'=>exact ⟨r,l',rfl⟩
   obtain ⟨hl3,hb3,mid,C5,hK5⟩: ∃hl:off3<X.xs.length,X.xs[off3].toNat≠255∧ ∃mid,ItemC X off3 mid r5∧KidsO X mid off2 l5:=by cases hK.out with|cons a b c d=>exact ⟨a,b,_,c,d⟩
   replace C5:=Hz C5;replace hK5:=Hz hK5;have hl5:Hid (l5.length=g):=Hz (by have:=hlk.out;simp at this;exact this)
   replace L3:=Hz (show Togo bs3 (thenR (txt (if i=0 then [] else [44,32])) (thenR r5 (arrR [41] (i+1) l5))) bs res from L3.out)
   have KB:=Hz (foundBreak_no h3.dec hl3 (by simp;omega))
   clear hb3;go_wp2_with fail
   refine KB.out.mono ?_
   rintro e w4 ⟨rfl,m4,rfl⟩;have h4:=h3.drewN m4;have G4:=G3.drewN m4;have i2_4:=h4.i2;by_cases h0:i=0
   ·have t3: ¬(0:Int)<(i:Int):=by omega
    have L4:=Hz L3.out.tx;rw [if_pos h0,List.append_nil] at L4;have K7:=Hz (C5.out _ _ h4 (L4.out.len1 hlen));go_wp2_with fail
    refine K7.out.mono ?_
    rintro e w7 ⟨v7,o7,rfl,hv7,ho7,h7,hG7⟩;have G7:=G4.trans hG7;rcases hr5:r5.2 with _|k
    ·rw [hr5] at hv7;obtain rfl:=hv7.nil;have L7:=Hz (L4.out.ok hr5);rw [ho7 hr5] at h7;have i1_7:=h7.i1;have i2_7:=h7.i2;go_wp2
     go_roundg g
     case measure=>omega
     case rel=>exact ⟨i+1,l5,mid,_,by go_num,(show i+1+g=l.length by have:=hi.out;omega),hl5,hK5,L7,h7,G7⟩
    ·rw [hr5] at hv7;obtain ⟨t,x,rfl⟩:=hv7.ne;go_wp2;go_ret
     exact IPost.err (w1:=w) hv7 h7 G7 (L4.out.err hr5)
   ·have t3:(0:Int)<(i:Int):=by omega
    have L4':=L3;rw [if_neg h0] at L4';replace L4':=Hz L4';have L4:=Hz L4'.out.tx;have K6:=Hz (fun n=>writeString (h4.drewN n).buf h4.lw (h4.drewN n).hB [44,32] (L4'.out.len_tx hlen))
    go_wp2_with fail
    refine (K6.out 0).mono ?_
    rintro e w6 ⟨⟨u6,rfl⟩,hb6,hg6⟩;have h6:=h4.wrote hg6 hb6;have G6:=G4.trans (St.grW hg6);have i1_6:=h6.i1;have i2_6:=h6.i2;have K7:=Hz (C5.out _ _ h6 (L4.out.len1 hlen));go_wp2_with fail
    refine K7.out.mono ?_
    rintro e w7 ⟨v7,o7,rfl,hv7,ho7,h7,hG7⟩;have G7:=G6.trans hG7;rcases hr5:r5.2 with _|k
    ·rw [hr5] at hv7;obtain rfl:=hv7.nil;have L7:=Hz (L4.out.ok hr5);rw [ho7 hr5] at h7;have i1_7:=h7.i1;have i2_7:=h7.i2;go_wp2
     go_roundg g
     case measure=>omega
     case rel=>exact ⟨i+1,l5,mid,_,by go_num,(show i+1+g=l.length by have:=hi.out;omega),hl5,hK5,L7,h7,G7⟩
    ·rw [hr5] at hv7;obtain ⟨t,x,rfl⟩:=hv7.ne;go_wp2;go_ret
     exact IPost.err (w1:=w) hv7 h7 G7 (L4.out.err hr5)
theorem di_chunks_t (h:St X off bs w) {off2:Nat} {l:List R} (hl:off<X.xs.length) (hb:X.xs[off].toNat=127) (hl1:off+1<X.xs.length) (hb1:X.xs[off+1].toNat≠255) (hKids:KidsO X (off+1) off2 l) (hcap:l.length≤2147483647) {res:R} (hres:thenR (txt [40,95,32]) (arrR [41] 0 l)=res) (hlen:bs.length+res.1.length≤room):
  Calls Tryz.prog 105 #[.pointer (some ⟨X.di,0,none⟩)] w (IPost X off2 bs res w):=by
 have k1:=h.i1;have k2:=h.i2;have d0:=h.dec.c0;have d1:=h.dec.c1;have df:=h.dec.f1;have ha:=h.dec.at_ off hl;have hm:=h.dec.len;have g95:((X.xs[off].toNat:Int)==95)=false:=by simp;omega
 have g127:((X.xs[off].toNat:Int)==127)=true:=by simp;omega
 have g159:((X.xs[off].toNat:Int)==159)=false:=by simp;omega
 have g191:((X.xs[off].toNat:Int)==191)=false:=by simp;omega
 generalize (X.xs[off].toNat:Int)=x0 at *
 clear hb;have L0:Togo bs (thenR (txt [40,95,32]) (arrR [41] 0 l)) bs res:=by rw [hres];exact Togo.refl _ _
 replace hres:=Hz hres;replace L0:=Hz L0;replace hKids:=Hz hKids;have b1:(off:Int)<(X.xs.length:Int):=by omega
 have b2:(0:Int)≤(off:Int):=by omega
 have b3:(off:Int).toNat=off:=by omega
 have wo:IntKind.i64.wrap ((off:Int)+1)=((off+1:Nat):Int):=by
  have:=wrap_pos (off+1) (by omega)
  simpa using this
 go_enter Tryz.func105,Tryz.ntmps105
 go_wp2
 go_quiet (fail)
 obtain ⟨h1,G1⟩:=h.step hl nq;have e0:=h1.dec.c0;have e1:=h1.dec.c1;have ef:=h1.dec.f1;have ea:=h1.dec.at_ (off+1) hl1;have j1:=h1.i1;have j2:=h1.i2;have b4:(off:Int)+1<(X.xs.length:Int):=by omega
 have b5:(0:Int)≤(off:Int)+1:=by omega
 have b6:((off:Int)+1).toNat=off+1:=by omega
 have gE:((X.xs[off+1].toNat:Int)==255)=false:=by simp;omega
 simp only [Int.natCast_add,Int.cast_ofNat_Int] at e1;have KQ:=Hz (isBreakFlag X.xs[off+1]);generalize (X.xs[off+1].toNat:Int)=x1 at *
 clear hb1;go_wp2
 go_quiet ((go_at_call 117;exact Calls.quiet_of_same (KQ.out _)))
 have h1':=h1.drewN nq;have G1':=G1.drewN nq;clear G1;have h1:=h1';have G1:=G1';clear h1' G1';have j3:=h1.i2;have K2:=Hz (writeString h1.buf h1.lw h1.hB [40,95,32] (L0.out.len_tx hlen));go_wp2_with fail
 refine K2.out.mono ?_
 rintro e w2 ⟨⟨u2,rfl⟩,hb2,hg2⟩;have h2:=h1.wrote hg2 hb2;have G2:=G1.trans (St.grW hg2);have L2:=Hz L0.out.tx;clear ha k1 k2 d0 d1 df;go_wp2
 go_loopg [4] l.length (fun k v6 wr=> ∃(i:Nat) (l2:List R) (off:Nat) (bs':List UInt8),v6= .int .i64 (i:Int)∧Hid (i+k=l.length)∧Hid (l2.length=k)∧Hid (KidsO X off off2 l2)∧Hid (Togo bs' (arrR [41] i l2) bs res)∧St X off bs' wr∧Gr X.B [X.d,X.wb] w wr)
 case atStart=>exact ⟨0,l,off+1,_,by go_num,Nat.zero_add _,rfl,hKids,L2,h2,G2⟩
 case round=>
  obtain ⟨i,l2,off3,bs3,rfl,hi,hlk,hK,L3,h3,G3⟩:=hrel;have i1_3:=h3.i1;have i2_3:=h3.i2;by_cases hk:gk=0
  ·subst hk;obtain rfl:=List.eq_nil_of_length_eq_zero hlk.out;obtain ⟨hl3,hb3,rfl⟩: ∃hl:off3<X.xs.length,X.xs[off3].toNat=255∧off2=off3+1:=by cases hK.out with|nil a b=>exact ⟨a,b,rfl⟩
   have KB:=Hz (foundBreak_yes h3.dec hl3 (by simp [hb3]))
   go_wp2_with fail
   refine KB.out.mono ?_
   rintro e w4 ⟨rfl,hD4,hF4⟩;have h4:=h3.moved hF4 hD4;have G4:=G3.trans (h3.grF hF4);have i2_4:=h4.i2;have K5:=Hz (fun n=>writeByte (h4.drewN n).buf h4.lw (h4.drewN n).hB 41 (L3.out.lt1 hlen))
   go_wp2_with fail
   refine (K5.out 0).mono ?_
   rintro e w5 ⟨rfl,hb5,hg5⟩;have h5:=h4.wrote hg5 hb5;have G5:=G4.trans (St.grW hg5);go_wp2;go_ret
   exact IPost.done h5 G5 L3.out
  ·obtain ⟨g,rfl⟩: ∃g,gk=g+1:=⟨gk-1,by omega⟩
   clear hk;have hi64:i≤2147483647:=by have:=hi.out;omega
   obtain ⟨r5,l5,rfl⟩: ∃r l',l2=r::l':=by
    cases l2 with
    |nil=>have:=hlk.out;simp at this
    |cons r l'=>exact ⟨r,l',rfl⟩
   obtain ⟨hl3,hb3,mid,C5,hK5⟩: ∃hl:off3<X.xs.length,X.xs[off3].toNat≠255∧ ∃mid,ItemC X off3 mid r5∧KidsO X mid off2 l5:=by cases hK.out with|cons a b c d=>exact ⟨a,b,_,c,d⟩
   replace C5:=Hz C5;replace hK5:=Hz hK5;have hl5:Hid (l5.length=g):=Hz (by have:=hlk.out;simp at this;exact this)
   replace L3:=Hz (show Togo bs3 (thenR (txt (if i=0 then [] else [44,32])) (thenR r5 (arrR [41] (i+1) l5))) bs res from L3.out)
   have KB:=Hz (foundBreak_no h3.dec hl3 (by simp;omega))
   clear hb3;go_wp2_with fail
   refine KB.out.mono ?_
   rintro e w4 ⟨rfl,m4,rfl⟩;have h4:=h3.drewN m4;have G4:=G3.drewN m4;have i2_4:=h4.i2;by_cases h0:i=0
   ·have t3: ¬(0:Int)<(i:Int):=by omega
    have L4:=Hz L3.out.tx;rw [if_pos h0,List.append_nil] at L4;have K7:=Hz (C5.out _ _ h4 (L4.out.len1 hlen));go_wp2_with fail
    refine K7.out.mono ?_
    rintro e w7 ⟨v7,o7,rfl,hv7,ho7,h7,hG7⟩;have G7:=G4.trans hG7;rcases hr5:r5.2 with _|k
    ·rw [hr5] at hv7;obtain rfl:=hv7.nil;have L7:=Hz (L4.out.ok hr5);rw [ho7 hr5] at h7;have i1_7:=h7.i1;have i2_7:=h7.i2;go_wp2
     go_roundg g
     case measure=>omega
     case rel=>exact ⟨i+1,l5,mid,_,by go_num,(show i+1+g=l.length by have:=hi.out;omega),hl5,hK5,L7,h7,G7⟩
    ·rw [hr5] at hv7;obtain ⟨t,x,rfl⟩:=hv7.ne;go_wp2;go_ret
     exact IPost.err (w1:=w) hv7 h7 G7 (L4.out.err hr5)
   ·have t3:(0:Int)<(i:Int):=by omega
    have L4':=L3;rw [if_neg h0] at L4';replace L4':=Hz L4';have L4:=Hz L4'.out.tx;have K6:=Hz (fun n=>writeString (h4.drewN n).buf h4.lw (h4.drewN n).hB [44,32] (L4'.out.len_tx hlen))
    go_wp2_with fail
    refine (K6.out 0).mono ?_
    rintro e w6 ⟨⟨u6,rfl⟩,hb6,hg6⟩;have h6:=h4.wrote hg6 hb6;have G6:=G4.trans (St.grW hg6);have i1_6:=h6.i1;have i2_6:=h6.i2;have K7:=Hz (C5.out _ _ h6 (L4.out.len1 hlen));go_wp2_with fail
    refine K7.out.mono ?_
    rintro e w7 ⟨v7,o7,rfl,hv7,ho7,h7,hG7⟩;have G7:=G6.trans hG7;rcases hr5:r5.2 with _|k
    ·rw [hr5] at hv7;obtain rfl:=hv7.nil;have L7:=Hz (L4.out.ok hr5);rw [ho7 hr5] at h7;have i1_7:=h7.i1;have i2_7:=h7.i2;go_wp2
     go_roundg g
     case measure=>omega
     case rel=>exact ⟨i+1,l5,mid,_,by go_num,(show i+1+g=l.length by have:=hi.out;omega),hl5,hK5,L7,h7,G7⟩
    ·rw [hr5] at hv7;obtain ⟨t,x,rfl⟩:=hv7.ne;go_wp2;go_ret
     exact IPost.err (w1:=w) hv7 h7 G7 (L4.out.err hr5)
end
end
section
open Go.RowKit
theorem xor_m1 (n:Nat) (h:n<9223372036854775808):bits .xor .i64 (-1) (n:Int)= -(n:Int)-1:=by
 show IntKind.i64.wrap ((BitVec.ofInt 64 (-1)^^^BitVec.ofInt 64 (n:Int)).toNat:Int)=_
 have h1:BitVec.ofInt 64 (-1)=BitVec.allOnes 64:=by decide
 have h2:(BitVec.allOnes 64^^^BitVec.ofInt 64 (n:Int)).toNat=18446744073709551615-n:=by
  rw [BitVec.allOnes_xor,BitVec.toNat_not,BitVec.toNat_ofInt];omega
 rw [h1,h2,IntKind.wrap_i64];omega
section
variable {X:Cx} {off:Nat} {bs:List UInt8} {w:World}
theorem di_nint (h:St X off bs w) {ai v o1:Nat} (hh:hd X.xs off= .ok (1,ai,v,o1)) (h63:v<9223372036854775808) (hlen:bs.length+(txt (45::dec (v+1))).1.length≤room):
  Calls Tryz.prog 105 #[.pointer (some ⟨X.di,0,none⟩)] w (IPost X o1 bs (txt (45::dec (v+1))) w):=by
 obtain ⟨hl,hb1,hb2⟩:=hd_byte hh;have hv:=(hd_val hh).1;have hai:=(hd_off hh).2.2.2;have hai2:=(hd_off hh).2.2.1;have k1:=h.i1;have k2:=h.i2;have d0:=h.dec.c0;have d1:=h.dec.c1;have ha:=h.dec.at_ off hl;have hm:=h.dec.len;have KT:=fun n=>nextCBORType (h.dec.drewN n) hl
 rw [hb1] at KT;have KH:=fun n=>getHead (h.dec.drewN n) hh
 have gx:=xor_m1 v h63;have gw:=wrap_pos v (by omega)
 have gm: ¬(9223372036854775807:Int)<(v:Int):=by omega
 have KF: ∀w,Calls Tryz.prog 128 #[.int .i64 (-(v:Int)-1),.int .i64 10] w fun e w'=>e= .returned (.string ⟨(45::dec (v+1)).toArray⟩)∧Fr [] w w':=fun w=>by
  have:=formatInt_neg (v+1) (by omega) (by omega) w
  rwa [show (-((v+1:Nat):Int))= -(v:Int)-1 from by omega] at this
 replace KF:=Hz KF;replace hlen:=Hz hlen;replace KT:=Hz KT;replace KH:=Hz KH;replace hh:=Hz hh;have g95:((X.xs[off].toNat:Int)==95)=false:=by simp;omega
 have g127:((X.xs[off].toNat:Int)==127)=false:=by simp;omega
 have g159:((X.xs[off].toNat:Int)==159)=false:=by simp;omega
 have g191:((X.xs[off].toNat:Int)==191)=false:=by simp;omega
 generalize (X.xs[off].toNat:Int)=x0 at *
 clear hb1 hb2 hai;have b1:(off:Int)<(X.xs.length:Int):=by omega
 have b2:(0:Int)≤(off:Int):=by omega
 have b3:(off:Int).toNat=off:=by omega
 go_enter Tryz.func105,Tryz.ntmps105
 go_wp2
 go_quiet (fail)
 go_wp2_with fail
 refine (KT.out _).mono ?_
 rintro e w1 ⟨rfl,nm,rfl⟩;go_wp2_with fail
 refine (KH.out _).mono ?_
 rintro e w1 ⟨rfl,hD,hf⟩;have h1:=(h.drewN _).moved hf hD;have G1:=h.grF (((Fr.refl [X.d] w).drewN _).trans hf);have k1:=h1.i1;have k2:=h1.i2;go_wp2
 go_region_held3 (fun w'=>w'.cell? ⟨X.di,2,none⟩=some (.pointer (some ⟨X.wb,0,none⟩))) (first|go_keep|exact h2.i2|exact h3.i2)
  (first|(go_at_call 128;refine (KF.out _).mono ?_;rintro e w2 ⟨rfl,hf2⟩;have h2:=St.kept (by first|exact h1|exact St.drewN h1 _) hf2;have G2:=(St.gr0 (by first|exact h1|exact St.drewN h1 _) hf2))|(go_at_call 104;refine (writeString h2.buf h2.lw h2.hB (45::dec (v+1)) hlen.out).mono ?_;rintro e w3 ⟨⟨u3,rfl⟩,hb3,hg3⟩;have h3:=h2.wrote hg3 hb3))
 go_wp2;go_ret
 exact ⟨_,_,rfl,rfl,fun _=>rfl,h3,(G1.drewN 1).trans (Gr.trans G2 (St.grW hg3))⟩
end
end
section
open Go.RowKit
theorem wf_mono (L:Lim) (xs:List UInt8): ∀f,
  (∀off dep r,wfI L xs f off dep=some r→wfI L xs (f+1) off dep=some r)∧
  (∀m off dep r,wfS L xs f m off dep=some r→wfS L xs (f+1) m off dep=some r)∧
  (∀m i off dep r,wfO L xs f m i off dep=some r→wfO L xs (f+1) m i off dep=some r)∧
  (∀n off dep r,wfN L xs f n off dep=some r→wfN L xs (f+1) n off dep=some r)∧
  (∀off dep r,wfT L xs f off dep=some r→wfT L xs (f+1) off dep=some r):=by
 intro f;have hj: ∀(D:Nat) (p q:Option (Except Nat (Nat×Nat))) r,(∀r,p=some r→q=some r)→joinD D p=some r→joinD D q=some r:=by
  intro D p q r h1 h;cases p with
  |none=>simp [joinD] at h
  |some p=>rw [h1 p rfl];exact h
 induction f with
 |zero=>simp [wfI,wfS,wfO,wfN,wfT]
 |succ f ih=>
  obtain ⟨i1,i2,i3,i4,i5⟩:=ih;refine ⟨?_,?_,?_,?_,?_⟩
  ·intro off dep r h;rw [wfI] at h ⊢;cases hh:hd xs off with
   |error k=>rw [hh] at h;exact h
   |ok q=>
    obtain ⟨m,ai,v,o⟩:=q;rw [hh] at h;dsimp only at h ⊢;by_cases c1:m=2∨m=3
    ·rw [if_pos c1] at h ⊢;by_cases c2:ai=31
     ·rw [if_pos c2] at h ⊢;exact i2 _ _ _ _ h
     ·rw [if_neg c2] at h ⊢;exact h
    ·rw [if_neg c1] at h ⊢;by_cases c3:m=4∨m=5
     ·rw [if_pos c3] at h ⊢;by_cases c4:L.nest<dep+1
      ·rw [if_pos c4] at h ⊢;exact h
      ·rw [if_neg c4] at h ⊢;by_cases c2:ai=31
       ·rw [if_pos c2] at h ⊢;exact i3 _ _ _ _ _ h
       ·rw [if_neg c2] at h ⊢;by_cases c5:9223372036854775808≤v
        ·rw [if_pos c5] at h ⊢;exact h
        ·rw [if_neg c5] at h ⊢;by_cases c6:m=4∧L.el<v
         ·rw [if_pos c6] at h ⊢;exact h
         ·rw [if_neg c6] at h ⊢;by_cases c7:m=5∧L.pa<v
          ·rw [if_pos c7] at h ⊢;exact h
          ·rw [if_neg c7] at h ⊢;exact i4 _ _ _ _ h
     ·rw [if_neg c3] at h ⊢;by_cases c8:m=6
      ·rw [if_pos c8] at h ⊢;exact i5 _ _ _ h
      ·rw [if_neg c8] at h ⊢;exact h
  ·intro m off dep r h;rw [wfS] at h ⊢;cases hx:xs[off]? with
   |none=>rw [hx] at h;exact h
   |some b=>
    rw [hx] at h;dsimp only at h ⊢;by_cases c1:b.toNat=255
    ·rw [if_pos c1] at h ⊢;exact h
    ·rw [if_neg c1] at h ⊢;by_cases c2:b.toNat/32≠m
     ·rw [if_pos c2] at h ⊢;exact h
     ·rw [if_neg c2] at h ⊢;by_cases c3:b.toNat%32=31
      ·rw [if_pos c3] at h ⊢;exact h
      ·rw [if_neg c3] at h ⊢;cases hI:wfI L xs f off dep with
       |none=>rw [hI] at h;cases h
       |some q=>
        rw [hI] at h;rw [i1 _ _ _ hI];cases q with
        |error k=>exact h
        |ok p=>exact i2 _ _ _ _ h
  ·intro m i off dep r h;rw [wfO] at h ⊢;cases hx:xs[off]? with
   |none=>rw [hx] at h;exact h
   |some b=>
    rw [hx] at h;dsimp only at h ⊢;by_cases c1:b.toNat=255
    ·rw [if_pos c1] at h ⊢;exact h
    ·rw [if_neg c1] at h ⊢;cases hI:wfI L xs f off dep with
     |none=>rw [hI] at h;cases h
     |some q=>
      rw [hI] at h;rw [i1 _ _ _ hI];cases q with
      |error k=>exact h
      |ok p=>
       dsimp only at h ⊢;by_cases c2:m=4∧L.el<i+1
       ·rw [if_pos c2] at h ⊢;exact h
       ·rw [if_neg c2] at h ⊢;by_cases c3:m≠4∧(i+1)%2=0∧L.pa<(i+1)/2
        ·rw [if_pos c3] at h ⊢;exact h
        ·rw [if_neg c3] at h ⊢;exact hj _ _ _ _ (i3 _ _ _ _) h
  ·intro n off dep r h;cases n with
   |zero=>rw [wfN] at h ⊢;exact h
   |succ n=>
    rw [wfN] at h ⊢;cases hI:wfI L xs f off dep with
    |none=>rw [hI] at h;cases h
    |some q=>
     rw [hI] at h;rw [i1 _ _ _ hI];cases q with
     |error k=>exact h
     |ok p=>exact hj _ _ _ _ (i4 _ _ _) h
  ·intro off dep r h;rw [wfT] at h ⊢;cases hx:xs[off]? with
   |none=>rw [hx] at h;exact h
   |some b=>
    rw [hx] at h;dsimp only at h ⊢;by_cases c1:b.toNat/32≠6
    ·rw [if_pos c1] at h ⊢;exact i1 _ _ _ h
    ·rw [if_neg c1] at h ⊢;cases hh:hd xs off with
     |error k=>rw [hh] at h;exact h
     |ok q=>
      obtain ⟨m,ai,v,o⟩:=q;rw [hh] at h;dsimp only at h ⊢;by_cases c2:L.nest<dep+1
      ·rw [if_pos c2] at h ⊢;exact h
      ·rw [if_neg c2] at h ⊢;exact i5 _ _ _ h
end
end Go.Proofs.YteodinhkhhaafaaGreatDoor
