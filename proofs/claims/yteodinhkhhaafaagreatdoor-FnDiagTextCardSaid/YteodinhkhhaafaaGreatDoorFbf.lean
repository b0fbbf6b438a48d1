/- Walks of the program, and plain facts. -/
import Derived.Test.YteodinhkhhaafaaGreatDoorFbe
set_option linter.unusedVariables false
set_option linter.unusedSimpArgs false
set_option maxRecDepth 100000
set_option maxHeartbeats 6400000
namespace Go.Proofs.YteodinhkhhaafaaGreatDoor
section
set_option exponentiation.threshold 3000
open Go.RowKit
theorem formOf64 (w:World):Calls Tryz.prog 208 #[.int .i64 64] w fun e w'=>e= .returned (.agg #[.int .i64 52,.int .i64 11,.int .i64 (-1023)])∧Fr [] w w':=by
 go_enter Tryz.func208,Tryz.ntmps208
 go_wp2
 first|go_ret|refine bodyPost_ret (v:= .agg #[.int .i64 52,.int .i64 11,.int .i64 (-1023)]) (by simp [results,Tryz.results208,go_sem]) rfl ?_
 exact ⟨rfl,by first|exact (Fr.refl [] w).alloc _|exact ((Fr.refl [] w).alloc _).setCell (.inr (Nat.le_refl _)) _⟩
theorem shortL_b {d:List Nat} {dp:Int} (h:NormD d dp) (la: -1100≤dp-d.length) (hl:d.length≤2000) (hh:dp≤1000) (lo hi:Nat) (edge:Bool): ∀f n,n+f=d.length→NormD (shortL d dp lo hi edge f n).1 (shortL d dp lo hi edge f n).2∧ -1100≤(shortL d dp lo hi edge f n).2-(shortL d dp lo hi edge f n).1.length∧(shortL d dp lo hi edge f n).1.length≤100000∧(shortL d dp lo hi edge f n).2≤100000
 |0,n,hn=>by
  rw [shortL];exact ⟨h,la,by show d.length≤100000;omega,by show dp≤100000;omega⟩
 |f+1,n,hn=>by
  have D:=down_b h la hl hh n;have U:=up_b h la hl hh n (by omega)
  rw [shortL]
  split
  ·split
   ·unfold roundF
    split
    ·exact U
    ·exact D
   ·exact D
  ·split
   ·exact U
   ·exact shortL_b h la hl hh lo hi edge f (n+1) (by omega)
theorem shortR_b {m:Nat} {e:Int} (low:Bool) (hB:DigB m e (digs m e)):NormD (shortR m e low).1 (shortR m e low).2∧ -1100≤(shortR m e low).2-(shortR m e low).1.length∧(shortR m e low).1.length≤100000∧(shortR m e low).2≤100000:=by
 unfold shortR
 split
 ·have:=hB.len;have:=hB.hi;exact ⟨hB.norm,hB.la,by omega,by omega⟩
 ·exact shortL_b hB.norm hB.la hB.len hB.hi _ _ _ _ 0 (by omega)
theorem shortR_ne {m:Nat} {e:Int} (low:Bool) (hm:0<m) (hB:DigB m e (digs m e)) (he: -1090≤e):(shortR m e low).1≠[]:=(short_ok low hm hB he).ne
theorem texT_len (d:List Nat) (dp:Int) (prec:Nat) (h:dp≤100000) (hp:prec≤200000):(texT d dp prec).length≤1000000:=by
 unfold texT
 split<;>split<;>simp<;>omega
theorem expT_len (d:List Nat) (dp:Int) (prec:Nat) (h:dp≤100000) (h2: -100000≤dp) (hp:prec≤200000):(expT d dp prec).length≤1000000:=by
 unfold expT;have hE:(if d=[] then 0 else dp-1:Int).natAbs<10^6:=by split<;>omega
 generalize (if d=[] then 0 else dp-1:Int)=E at *
 have:=dec_length E.natAbs 6 hE (by omega)
 by_cases h1:prec=0
 ·rw [if_pos h1]
  split<;>split<;>simp<;>omega
 ·rw [if_neg h1]
  split<;>split<;>simp<;>omega
def fMant (b:Nat):Nat:=if b/4503599627370496%2048=0 then b%4503599627370496 else b%4503599627370496+4503599627370496
def fExp (b:Nat):Int:=if b/4503599627370496%2048=0 then-1022 else ((b/4503599627370496%2048:Nat):Int)-1023
def fLow (b:Nat):Bool:=decide (fMant b=4503599627370496)&&decide (-1022<fExp b)
def fR (b:Nat):List Nat×Int:=shortR (fMant b) (fExp b-52) (fLow b)
def sgnT (b:Nat):List UInt8:=if b/9223372036854775808=0 then [] else [45]
def fmtF (b:Nat) (e:Bool):List UInt8:=sgnT b++(if e then expT (fR b).1 (fR b).2 ((fR b).1.length-1) else texT (fR b).1 (fR b).2 ((fR b).1.length-(fR b).2).toNat)
theorem sgn_len (b:Nat):(sgnT b).length≤1:=by unfold sgnT;split<;>simp
theorem and_exp (b:Nat) (hb:b<18446744073709551616):bits .and .i64 ((b:Int)/4503599627370496) 2047=((b/4503599627370496%2048:Nat):Int):=by
 have h:=i64_and_nat (b/4503599627370496) 2047 (by omega) (by omega)
 have h2:b/4503599627370496&&&2047=b/4503599627370496%2048:=Nat.and_two_pow_sub_one_eq_mod (b/4503599627370496) 11;rw [h2,show ((b/4503599627370496:Nat):Int)=(b:Int)/4503599627370496 by omega] at h
 exact h
theorem and_fr (b:Nat) (hb:b<18446744073709551616):bits .and .u64 (b:Int) 4503599627370495=((b%4503599627370496:Nat):Int):=by
 have h:=u64_and_nat b 4503599627370495 (by omega) (by omega)
 have h2:b&&&4503599627370495=b%4503599627370496:=Nat.and_two_pow_sub_one_eq_mod b 52;rw [h2] at h;exact h
theorem or_fr (f:Nat) (hf:f<4503599627370496):bits .or .u64 (f:Int) 4503599627370496=((f+4503599627370496:Nat):Int):=by
 have h:=u64_or_nat f 4503599627370496 (by omega) (by omega)
 have t:4503599627370496+f=4503599627370496|||f:=Nat.two_pow_add_eq_or_of_lt (i:=52) (b:=f) (by omega) 1
 have h2:f|||4503599627370496=f+4503599627370496:=by rw [Nat.or_comm,←t,Nat.add_comm]
 rw [h2] at h;exact h
theorem formatT (b:Nat) (hb:b<18446744073709551616) (hfin:b/4503599627370496%2048≠2047) (w:World):
  Calls Tryz.prog 203 #[.float .f64 b,.int .u8 102,.int .i64 (-1),.int .i64 64] w fun e w'=>e= .returned (.string ⟨(fmtF b false).toArray⟩)∧Fr [] w w':=by
 have KF:=Hz (fun W=>formOf64 W)
 have x202:=fun w=>ext202 b w
 have pe:=and_exp b hb;have pf:=and_fr b hb;have pw:IntKind.i64.wrap ((b:Int)/4503599627370496)=(b:Int)/4503599627370496:=IntWalk.i64_in _ (by omega)
 have hfl:b%4503599627370496<4503599627370496:=Nat.mod_lt _ (by decide)
 have hxl:b/4503599627370496%2048<2048:=Nat.mod_lt _ (by decide)
 have hfin0:Hid (fmtF b false=sgnT b++texT (fR b).1 (fR b).2 ((fR b).1.length-(fR b).2).toNat):=Hz rfl;have hfm:Hid (fMant b=if b/4503599627370496%2048=0 then b%4503599627370496 else b%4503599627370496+4503599627370496):=Hz rfl
 have hfe:Hid (fExp b=if b/4503599627370496%2048=0 then-1022 else ((b/4503599627370496%2048:Nat):Int)-1023):=Hz rfl
 have hfl0:Hid (fLow b=(decide (fMant b=4503599627370496)&&decide (-1022<fExp b))):=Hz rfl;have hfr:Hid (fR b=shortR (fMant b) (fExp b-52) (fLow b)):=Hz rfl;have hs1:(b:Int)/9223372036854775808=0→sgnT b=[]:=fun h=>if_pos (by omega)
 have hs2:(b:Int)/9223372036854775808≠0→sgnT b=[45]:=fun h=>if_neg (by omega)
 have hsl:=sgn_len b;generalize hxx:b/4503599627370496%2048=x at *
 generalize hff:b%4503599627370496=f at *
 generalize fMant b=m0 at *
 generalize fExp b=ex0 at *
 generalize fLow b=low at *
 generalize fR b=r at *
 generalize sgnT b=sg at *
 generalize fmtF b false=OUT at *
 replace hb:=Hz hb;replace hxx:=Hz hxx;replace hff:=Hz hff;replace hs1:=Hz hs1;replace hs2:=Hz hs2;have g1:((x:Int)==2047)=false:=by simp;omega
 have g2: ¬(x:Int)=2047:=by omega
 replace hfin:=Hz hfin;go_enter Tryz.func203,Tryz.ntmps203
 go_upto_if 40 with (first|(go_at_call 208;refine (KF.out _).mono ?_;rintro e w1 ⟨rfl,F1⟩))
 go_cut [11] (fun s11 wx=>s11= .string ⟨sg.toArray⟩∧w1.alloc (.cells #[.int .i64 52,.int .i64 11,.int .i64 (-1023)] 323 (0,0))=wx)
 case first=>
  by_cases h0:(b:Int)/9223372036854775808=0
  ·have t0:((b:Int)/9223372036854775808 !=0)=false:=by simp [h0]
   have hsg:=hs1.out h0;clear h0;go_wp2_with fail
   go_meet
   exact ⟨by rw [hsg],rfl⟩
  ·have t0:((b:Int)/9223372036854775808 !=0)=true:=by simp [h0]
   have hsg:=hs2.out h0;clear h0;go_wp2_with fail
   go_meet
   exact ⟨by rw [hsg],rfl⟩
 case rest=>
 obtain ⟨rfl,rfl⟩:=hcut;have hbo:Hid ((w1.alloc (.cells #[.int .i64 52,.int .i64 11,.int .i64 (-1023)] 323 (0,0))).heap[w1.heap.size]? =some (.cells #[.int .i64 52,.int .i64 11,.int .i64 (-1023)] 323 (0,0))):=Hz (blk_new w1 _);have F2:Fr [] w (w1.alloc (.cells #[.int .i64 52,.int .i64 11,.int .i64 (-1023)] 323 (0,0))):=F1.alloc _;generalize hB1:w1.heap.size=B1 at *
 generalize w1.alloc (.cells #[.int .i64 52,.int .i64 11,.int .i64 (-1023)] 323 (0,0))=w2 at *
 have hwB:w.heap.size≤B1:=by rw [←hB1];exact F1.size
 clear F1 hB1;have o0:=cell_blk hbo.out 0;have o1:=cell_blk hbo.out 1;have o2:=cell_blk hbo.out 2;simp only [List.getElem?_toArray,List.getElem?_cons_zero,List.getElem?_cons_succ] at o0 o1 o2;have hwB2:=blk_lt' hbo.out;go_wp2
 go_quiet (fail)
 replace hbo:Hid ((w2.drewN nq).heap[B1]? =some (.cells #[.int .i64 52,.int .i64 11,.int .i64 (-1023)] 323 (0,0))):=hbo;replace F2:=F2.drewN nq;replace hwB2:B1<(w2.drewN nq).heap.size:=hwB2;generalize w2.drewN nq=w3 at *
 have o0:=cell_blk hbo.out 0;have o1:=cell_blk hbo.out 1;have o2:=cell_blk hbo.out 2;simp only [List.getElem?_toArray,List.getElem?_cons_zero,List.getElem?_cons_succ] at o0 o1 o2;by_cases hx0:x=0
 ·have g3:((x:Int)==0)=true:=by simp [hx0]
  have g4:(x:Int)=0:=by omega
  have s1:IntKind.i64.wrap ((x:Int)+1)=1:=by rw [IntWalk.i64_in _ (by omega)];omega
  have hm0:m0=f:=by rw [hfm.out,if_pos hx0]
  have he0:ex0= -1022:=by rw [hfe.out,if_pos hx0]
  have hm1:m0<18014398509481984:=by omega
  subst hm0;subst he0;replace hx0:=Hz hx0;have K1:=Hz (newD w3 m0 (by omega))
  go_wp2_with fail
  refine K1.out.mono ?_
  rintro e w4 ⟨q,d1,p1,rfl,hD1,hN1,hV1,hL1,hlo1,hhi1,hq1,hF1⟩;have hb4:=hF1.blk hbo.out (by simp)
  have o04:=cell_blk hb4 0;simp only [List.getElem?_toArray,List.getElem?_cons_zero] at o04;go_wp2_with fail
  refine (shiftD hD1 hN1 hV1 hL1 hlo1 hhi1 (-1074) (by omega) (by omega)).mono ?_
  rintro e w5 ⟨u,rfl,hD2,hB2,hF2⟩;rw [show (-1074:Int)= -1022-52 from rfl] at hD2 hB2
  have F05:Fr [] w w5:=(F2.trans hF1).then_ hF2 (by intro k hk;right;simp at hk;subst hk;have:=F2.size;omega)
  have hb5:=hF2.blk hb4 (by simp;omega)
  have o05:=cell_blk hb5 0;have o15:=cell_blk hb5 1;have o25:=cell_blk hb5 2;simp only [List.getElem?_toArray,List.getElem?_cons_zero,List.getElem?_cons_succ] at o05 o15 o25;obtain ⟨nb,la,lb,pb⟩:=shortR_b low hB2;go_wp2_with fail
  refine (shortD (ex:= -1022) (eb:=11) (bias:= -1023) (MB:=52) low (.inr ⟨rfl,rfl,hfl0.out⟩) hm1 (by omega) (by omega) hD2 hB2).mono ?_
  rintro e w6 ⟨q6,rfl,hD6,hF6⟩;replace hfr:=hfr.out;rw [←hfr] at nb la lb pb hD6;obtain ⟨ao6,c6,c60,c61,_,_⟩:=hD6.cells nb.lt;obtain ⟨P,hP⟩: ∃P:Nat,P=((r.1.length:Int)-r.2).toNat:=⟨_,rfl⟩;have hPl:P≤200000:=by omega
  have KT:=Hz (fun W (F:Fr [] w6 W)=>textD (hD6.fr F) nb.lt pb (by omega) P (by omega))
  have hlT:=texT_len r.1 r.2 P pb hPl;have w1':IntKind.i64.wrap ((r.1.length:Int)-r.2)=(r.1.length:Int)-r.2:=IntWalk.i64_in _ (by omega)
  have m1':max ((r.1.length:Int)-r.2) 0=(P:Int):=by omega
  have m2':max (P:Int) 0=(P:Int):=by omega
  have hq1': ¬9223372036854775807<sg.length+(texT r.1 r.2 P).length:=by omega
  have hq2':sg.length+(texT r.1 r.2 P).length≤9223372036854775807:=by omega
  rw [←hP] at hfin0;replace hP:=Hz hP;generalize texT r.1 r.2 P=T at *
  have F06:=F05.trans hF6;clear la nb hfr;go_wp2
  go_quiet (fail)
  go_wp2_with (first|(go_at_call 214;refine (KT.out _ ((Fr.refl [] w6).drewN _)).mono ?_;rintro e w7 ⟨rfl,hF7⟩))
  go_ret
  exact ⟨by rw [hfin0.out,mk_append];rfl,(F06.drewN _).trans hF7⟩
 ·have g3:((x:Int)==0)=false:=by simp [hx0]
  have g4: ¬(x:Int)=0:=by omega
  have s1:=or_fr f hfl;have hm0:f+4503599627370496=m0:=by rw [hfm.out,if_neg hx0]
  have he0:(x:Int)-1023=ex0:=by rw [hfe.out,if_neg hx0]
  have hm1:m0<18014398509481984:=by omega
  have hex1: -1030≤ex0:=by omega
  have hex2:ex0≤1100:=by omega
  have se:IntKind.i64.wrap (ex0-52)=ex0-52:=IntWalk.i64_in _ (by omega)
  have s2:IntKind.i64.wrap ((x:Int)+ -1023)=ex0:=by rw [IntWalk.i64_in _ (by omega)];omega
  have s3:IntKind.i64.wrap ((x:Int)-1023)=ex0:=by rw [IntWalk.i64_in _ (by omega)];omega
  rw [hm0] at s1;replace hm0:=Hz hm0;replace he0:=Hz he0;replace hx0:=Hz hx0;have K1:=Hz (newD w3 m0 (by omega))
  go_wp2_with fail
  refine K1.out.mono ?_
  rintro e w4 ⟨q,d1,p1,rfl,hD1,hN1,hV1,hL1,hlo1,hhi1,hq1,hF1⟩;have hb4:=hF1.blk hbo.out (by simp)
  have o04:=cell_blk hb4 0;simp only [List.getElem?_toArray,List.getElem?_cons_zero] at o04;go_wp2_with fail
  refine (shiftD hD1 hN1 hV1 hL1 hlo1 hhi1 (ex0-52) (by omega) (by omega)).mono ?_
  rintro e w5 ⟨u,rfl,hD2,hB2,hF2⟩;have F05:Fr [] w w5:=(F2.trans hF1).then_ hF2 (by intro k hk;right;simp at hk;subst hk;have:=F2.size;omega)
  have hb5:=hF2.blk hb4 (by simp;omega)
  have o05:=cell_blk hb5 0;have o15:=cell_blk hb5 1;have o25:=cell_blk hb5 2;simp only [List.getElem?_toArray,List.getElem?_cons_zero,List.getElem?_cons_succ] at o05 o15 o25;obtain ⟨nb,la,lb,pb⟩:=shortR_b low hB2;go_wp2_with fail
  refine (shortD (ex:=ex0) (eb:=11) (bias:= -1023) (MB:=52) low (.inr ⟨rfl,rfl,hfl0.out⟩) hm1 (by omega) (by omega) hD2 hB2).mono ?_
  rintro e w6 ⟨q6,rfl,hD6,hF6⟩;replace hfr:=hfr.out;rw [←hfr] at nb la lb pb hD6;obtain ⟨ao6,c6,c60,c61,_,_⟩:=hD6.cells nb.lt;obtain ⟨P,hP⟩: ∃P:Nat,P=((r.1.length:Int)-r.2).toNat:=⟨_,rfl⟩;have hPl:P≤200000:=by omega
  have KT:=Hz (fun W (F:Fr [] w6 W)=>textD (hD6.fr F) nb.lt pb (by omega) P (by omega))
  have hlT:=texT_len r.1 r.2 P pb hPl;have w1':IntKind.i64.wrap ((r.1.length:Int)-r.2)=(r.1.length:Int)-r.2:=IntWalk.i64_in _ (by omega)
  have m1':max ((r.1.length:Int)-r.2) 0=(P:Int):=by omega
  have m2':max (P:Int) 0=(P:Int):=by omega
  have hq1': ¬9223372036854775807<sg.length+(texT r.1 r.2 P).length:=by omega
  have hq2':sg.length+(texT r.1 r.2 P).length≤9223372036854775807:=by omega
  rw [←hP] at hfin0;replace hP:=Hz hP;generalize texT r.1 r.2 P=T at *
  have F06:=F05.trans hF6;clear la nb hfr;go_wp2
  go_quiet (fail)
  go_wp2_with (first|(go_at_call 214;refine (KT.out _ ((Fr.refl [] w6).drewN _)).mono ?_;rintro e w7 ⟨rfl,hF7⟩))
  go_ret
  exact ⟨by rw [hfin0.out,mk_append];rfl,(F06.drewN _).trans hF7⟩
theorem formatE (b:Nat) (hb:b<18446744073709551616) (hfin:b/4503599627370496%2048≠2047) (hmp:0<fMant b) (w:World):
  Calls Tryz.prog 203 #[.float .f64 b,.int .u8 101,.int .i64 (-1),.int .i64 64] w fun e w'=>e= .returned (.string ⟨(fmtF b true).toArray⟩)∧Fr [] w w':=by
 have KF:=Hz (fun W=>formOf64 W)
 have x202:=fun w=>ext202 b w
 have pe:=and_exp b hb;have pf:=and_fr b hb;have pw:IntKind.i64.wrap ((b:Int)/4503599627370496)=(b:Int)/4503599627370496:=IntWalk.i64_in _ (by omega)
 have hfl:b%4503599627370496<4503599627370496:=Nat.mod_lt _ (by decide)
 have hxl:b/4503599627370496%2048<2048:=Nat.mod_lt _ (by decide)
 have hfin0:Hid (fmtF b true=sgnT b++expT (fR b).1 (fR b).2 ((fR b).1.length-1)):=Hz rfl;have hfm:Hid (fMant b=if b/4503599627370496%2048=0 then b%4503599627370496 else b%4503599627370496+4503599627370496):=Hz rfl
 have hfe:Hid (fExp b=if b/4503599627370496%2048=0 then-1022 else ((b/4503599627370496%2048:Nat):Int)-1023):=Hz rfl
 have hfl0:Hid (fLow b=(decide (fMant b=4503599627370496)&&decide (-1022<fExp b))):=Hz rfl;have hfr:Hid (fR b=shortR (fMant b) (fExp b-52) (fLow b)):=Hz rfl;have hs1:(b:Int)/9223372036854775808=0→sgnT b=[]:=fun h=>if_pos (by omega)
 have hs2:(b:Int)/9223372036854775808≠0→sgnT b=[45]:=fun h=>if_neg (by omega)
 have hsl:=sgn_len b;generalize hxx:b/4503599627370496%2048=x at *
 generalize hff:b%4503599627370496=f at *
 generalize fMant b=m0 at *
 generalize fExp b=ex0 at *
 generalize fLow b=low at *
 generalize fR b=r at *
 generalize sgnT b=sg at *
 generalize fmtF b true=OUT at *
 replace hb:=Hz hb;replace hxx:=Hz hxx;replace hff:=Hz hff;replace hs1:=Hz hs1;replace hs2:=Hz hs2;have g1:((x:Int)==2047)=false:=by simp;omega
 have g2: ¬(x:Int)=2047:=by omega
 replace hfin:=Hz hfin;go_enter Tryz.func203,Tryz.ntmps203
 go_upto_if 40 with (first|(go_at_call 208;refine (KF.out _).mono ?_;rintro e w1 ⟨rfl,F1⟩))
 go_cut [11] (fun s11 wx=>s11= .string ⟨sg.toArray⟩∧w1.alloc (.cells #[.int .i64 52,.int .i64 11,.int .i64 (-1023)] 323 (0,0))=wx)
 case first=>
  by_cases h0:(b:Int)/9223372036854775808=0
  ·have t0:((b:Int)/9223372036854775808 !=0)=false:=by simp [h0]
   have hsg:=hs1.out h0;clear h0;go_wp2_with fail
   go_meet
   exact ⟨by rw [hsg],rfl⟩
  ·have t0:((b:Int)/9223372036854775808 !=0)=true:=by simp [h0]
   have hsg:=hs2.out h0;clear h0;go_wp2_with fail
   go_meet
   exact ⟨by rw [hsg],rfl⟩
 case rest=>
 obtain ⟨rfl,rfl⟩:=hcut;have hbo:Hid ((w1.alloc (.cells #[.int .i64 52,.int .i64 11,.int .i64 (-1023)] 323 (0,0))).heap[w1.heap.size]? =some (.cells #[.int .i64 52,.int .i64 11,.int .i64 (-1023)] 323 (0,0))):=Hz (blk_new w1 _);have F2:Fr [] w (w1.alloc (.cells #[.int .i64 52,.int .i64 11,.int .i64 (-1023)] 323 (0,0))):=F1.alloc _;generalize hB1:w1.heap.size=B1 at *
 generalize w1.alloc (.cells #[.int .i64 52,.int .i64 11,.int .i64 (-1023)] 323 (0,0))=w2 at *
 have hwB:w.heap.size≤B1:=by rw [←hB1];exact F1.size
 clear F1 hB1;have o0:=cell_blk hbo.out 0;have o1:=cell_blk hbo.out 1;have o2:=cell_blk hbo.out 2;simp only [List.getElem?_toArray,List.getElem?_cons_zero,List.getElem?_cons_succ] at o0 o1 o2;have hwB2:=blk_lt' hbo.out;go_wp2
 go_quiet (fail)
 replace hbo:Hid ((w2.drewN nq).heap[B1]? =some (.cells #[.int .i64 52,.int .i64 11,.int .i64 (-1023)] 323 (0,0))):=hbo;replace F2:=F2.drewN nq;replace hwB2:B1<(w2.drewN nq).heap.size:=hwB2;generalize w2.drewN nq=w3 at *
 have o0:=cell_blk hbo.out 0;have o1:=cell_blk hbo.out 1;have o2:=cell_blk hbo.out 2;simp only [List.getElem?_toArray,List.getElem?_cons_zero,List.getElem?_cons_succ] at o0 o1 o2;by_cases hx0:x=0
 ·have g3:((x:Int)==0)=true:=by simp [hx0]
  have g4:(x:Int)=0:=by omega
  have s1:IntKind.i64.wrap ((x:Int)+1)=1:=by rw [IntWalk.i64_in _ (by omega)];omega
  have hm0:m0=f:=by rw [hfm.out,if_pos hx0]
  have he0:ex0= -1022:=by rw [hfe.out,if_pos hx0]
  have hm1:m0<18014398509481984:=by omega
  subst hm0;subst he0;replace hx0:=Hz hx0;have K1:=Hz (newD w3 m0 (by omega))
  go_wp2_with fail
  refine K1.out.mono ?_
  rintro e w4 ⟨q,d1,p1,rfl,hD1,hN1,hV1,hL1,hlo1,hhi1,hq1,hF1⟩;have hb4:=hF1.blk hbo.out (by simp)
  have o04:=cell_blk hb4 0;simp only [List.getElem?_toArray,List.getElem?_cons_zero] at o04;go_wp2_with fail
  refine (shiftD hD1 hN1 hV1 hL1 hlo1 hhi1 (-1074) (by omega) (by omega)).mono ?_
  rintro e w5 ⟨u,rfl,hD2,hB2,hF2⟩;rw [show (-1074:Int)= -1022-52 from rfl] at hD2 hB2
  have F05:Fr [] w w5:=(F2.trans hF1).then_ hF2 (by intro k hk;right;simp at hk;subst hk;have:=F2.size;omega)
  have hb5:=hF2.blk hb4 (by simp;omega)
  have o05:=cell_blk hb5 0;have o15:=cell_blk hb5 1;have o25:=cell_blk hb5 2;simp only [List.getElem?_toArray,List.getElem?_cons_zero,List.getElem?_cons_succ] at o05 o15 o25;obtain ⟨nb,la,lb,pb⟩:=shortR_b low hB2;have hne:=shortR_ne low hmp hB2 (by omega)
  go_wp2_with fail
  refine (shortD (ex:= -1022) (eb:=11) (bias:= -1023) (MB:=52) low (.inr ⟨rfl,rfl,hfl0.out⟩) hm1 (by omega) (by omega) hD2 hB2).mono ?_
  rintro e w6 ⟨q6,rfl,hD6,hF6⟩;replace hfr:=hfr.out;rw [←hfr] at nb la lb pb hD6 hne;obtain ⟨ao6,c6,c60,c61,_,_⟩:=hD6.cells nb.lt;obtain ⟨P,hP⟩: ∃P:Nat,P=r.1.length-1:=⟨_,rfl⟩;have hPl:P≤200000:=by omega
  have hrl:0<r.1.length:=List.length_pos_iff.2 hne;have KT:=Hz (fun W (F:Fr [] w6 W)=>expD (hD6.fr F) nb.lt hne pb (by omega) P (by omega) lb)
  have hlT:=expT_len r.1 r.2 P pb (by omega) hPl
  have w1':IntKind.i64.wrap ((r.1.length:Int)-1)=(P:Int):=by rw [IntWalk.i64_in _ (by omega)];omega
  have hq1': ¬9223372036854775807<sg.length+(expT r.1 r.2 P).length:=by omega
  have hq2':sg.length+(expT r.1 r.2 P).length≤9223372036854775807:=by omega
  rw [←hP] at hfin0;replace hP:=Hz hP;generalize expT r.1 r.2 P=T at *
  have F06:=F05.trans hF6;clear la nb hfr hrl hne;go_wp2_with (first|(go_at_call 213;refine (KT.out _ (Fr.refl [] _)).mono ?_;rintro e w7 ⟨rfl,hF7⟩))
  go_ret
  exact ⟨by rw [hfin0.out,mk_append];rfl,F06.trans hF7⟩
 ·have g3:((x:Int)==0)=false:=by simp [hx0]
  have g4: ¬(x:Int)=0:=by omega
  have s1:=or_fr f hfl;have hm0:f+4503599627370496=m0:=by rw [hfm.out,if_neg hx0]
  have he0:(x:Int)-1023=ex0:=by rw [hfe.out,if_neg hx0]
  have hm1:m0<18014398509481984:=by omega
  have hex1: -1030≤ex0:=by omega
  have hex2:ex0≤1100:=by omega
  have se:IntKind.i64.wrap (ex0-52)=ex0-52:=IntWalk.i64_in _ (by omega)
  have s2:IntKind.i64.wrap ((x:Int)+ -1023)=ex0:=by rw [IntWalk.i64_in _ (by omega)];omega
  have s3:IntKind.i64.wrap ((x:Int)-1023)=ex0:=by rw [IntWalk.i64_in _ (by omega)];omega
  rw [hm0] at s1;replace hm0:=Hz hm0;replace he0:=Hz he0;replace hx0:=Hz hx0;have K1:=Hz (newD w3 m0 (by omega))
  go_wp2_with fail
  refine K1.out.mono ?_
  rintro e w4 ⟨q,d1,p1,rfl,hD1,hN1,hV1,hL1,hlo1,hhi1,hq1,hF1⟩;have hb4:=hF1.blk hbo.out (by simp)
  have o04:=cell_blk hb4 0;simp only [List.getElem?_toArray,List.getElem?_cons_zero] at o04;go_wp2_with fail
  refine (shiftD hD1 hN1 hV1 hL1 hlo1 hhi1 (ex0-52) (by omega) (by omega)).mono ?_
  rintro e w5 ⟨u,rfl,hD2,hB2,hF2⟩;have F05:Fr [] w w5:=(F2.trans hF1).then_ hF2 (by intro k hk;right;simp at hk;subst hk;have:=F2.size;omega)
  have hb5:=hF2.blk hb4 (by simp;omega)
  have o05:=cell_blk hb5 0;have o15:=cell_blk hb5 1;have o25:=cell_blk hb5 2;simp only [List.getElem?_toArray,List.getElem?_cons_zero,List.getElem?_cons_succ] at o05 o15 o25;obtain ⟨nb,la,lb,pb⟩:=shortR_b low hB2;have hne:=shortR_ne low hmp hB2 (by omega)
  go_wp2_with fail
  refine (shortD (ex:=ex0) (eb:=11) (bias:= -1023) (MB:=52) low (.inr ⟨rfl,rfl,hfl0.out⟩) hm1 (by omega) (by omega) hD2 hB2).mono ?_
  rintro e w6 ⟨q6,rfl,hD6,hF6⟩;replace hfr:=hfr.out;rw [←hfr] at nb la lb pb hD6 hne;obtain ⟨ao6,c6,c60,c61,_,_⟩:=hD6.cells nb.lt;obtain ⟨P,hP⟩: ∃P:Nat,P=r.1.length-1:=⟨_,rfl⟩;have hPl:P≤200000:=by omega
  have hrl:0<r.1.length:=List.length_pos_iff.2 hne;have KT:=Hz (fun W (F:Fr [] w6 W)=>expD (hD6.fr F) nb.lt hne pb (by omega) P (by omega) lb)
  have hlT:=expT_len r.1 r.2 P pb (by omega) hPl
  have w1':IntKind.i64.wrap ((r.1.length:Int)-1)=(P:Int):=by rw [IntWalk.i64_in _ (by omega)];omega
  have hq1': ¬9223372036854775807<sg.length+(expT r.1 r.2 P).length:=by omega
  have hq2':sg.length+(expT r.1 r.2 P).length≤9223372036854775807:=by omega
  rw [←hP] at hfin0;replace hP:=Hz hP;generalize expT r.1 r.2 P=T at *
  have F06:=F05.trans hF6;clear la nb hfr hrl hne;go_wp2_with (first|(go_at_call 213;refine (KT.out _ (Fr.refl [] _)).mono ?_;rintro e w7 ⟨rfl,hF7⟩))
  go_ret
  exact ⟨by rw [hfin0.out,mk_append];rfl,F06.trans hF7⟩
end
end Go.Proofs.YteodinhkhhaafaaGreatDoor
