/- Walks of the program, and plain facts. -/
import Derived.Test.YteodinhkhhaafaaGreatDoorFbk
import Derived.Test.YteodinhkhhaafaaGreatDoorFat
set_option linter.unusedVariables false
set_option linter.unusedSimpArgs false
set_option maxRecDepth 100000
set_option maxHeartbeats 6400000
namespace Go.Proofs.YteodinhkhhaafaaGreatDoor
section
set_option exponentiation.threshold 3000
open Go.RowKit
section
variable {X:Cx} {off:Nat} {bs:List UInt8} {w:World}
theorem di_float (h:St X off bs w) {ai v o1:Nat} (hh:hd X.xs off= .ok (7,ai,v,o1)) (ha:ai=25∨ai=26∨ai=27) (hb:v<if ai=25 then 65536 else if ai=26 then 4294967296 else 18446744073709551616) (hlen:bs.length+(fT X.M.pr ai v).length≤room):
  Calls Tryz.prog 105 #[.pointer (some ⟨X.di,0,none⟩)] w (IPost X o1 bs (txt (fT X.M.pr ai v)) w):=by
 obtain ⟨hl,hb1,hb2⟩:=hd_byte hh;have hv:=(hd_val hh).1;have k1:=h.i1;have k2:=h.i2;have d0:=h.dec.c0;have d1:=h.dec.c1;have haa:=h.dec.at_ off hl;have hm:=h.dec.len;have KT:=fun n=>nextCBORType (h.dec.drewN n) hl
 rw [hb1] at KT;have KH:=fun n=>getHead (h.dec.drewN n) hh
 have KF:=Hz (fun (W:World) (H:St X o1 bs W)=>encF H ha hb hlen)
 have hpost:Hid (∀(w1 w2:World) e,Gr X.B [X.d,X.wb] w w1→IPost X o1 bs (txt (fT X.M.pr ai v)) w1 e w2→IPost X o1 bs (txt (fT X.M.pr ai v)) w e w2):=Hz (fun w1 w2 e G ⟨v,o2,a,b,c,d,f⟩=>⟨v,o2,a,b,c,d,G.trans f⟩)
 generalize txt (fT X.M.pr ai v)=R at *
 replace hb:=Hz hb;replace KT:=Hz KT;replace KH:=Hz KH;replace hh:=Hz hh;have g95:((X.xs[off].toNat:Int)==95)=false:=by simp;omega
 have g127:((X.xs[off].toNat:Int)==127)=false:=by simp;omega
 have g159:((X.xs[off].toNat:Int)==159)=false:=by simp;omega
 have g191:((X.xs[off].toNat:Int)==191)=false:=by simp;omega
 generalize (X.xs[off].toNat:Int)=x0 at *
 clear hb1 hb2;have b1:(off:Int)<(X.xs.length:Int):=by omega
 have b2:(0:Int)≤(off:Int):=by omega
 have b3:(off:Int).toNat=off:=by omega
 go_enter Tryz.func105,Tryz.ntmps105
 go_wp2
 go_quiet (fail)
 go_wp2_with fail
 refine (KT.out _).mono ?_
 rintro e w1 ⟨rfl,nm,rfl⟩;go_wp2_with fail
 refine (KH.out _).mono ?_
 rintro e w1 ⟨rfl,hD,hf⟩;have h1:=(h.drewN _).moved hf hD;have G1:=h.grF (((Fr.refl [X.d] w).drewN _).trans hf);rcases ha with rfl|rfl|rfl
 all_goals
  go_wp2_with (go_at_call 136;refine (KF.out _ h1).mono ?_;rintro e w2 ⟨v2,o2,rfl,p1,p2,p3,p4⟩)
  go_ret
  exact hpost.out _ _ _ G1 ⟨v2,o2,rfl,p1,p2,p3,p4⟩
end
end
section
open Go.RowKit
theorem wrap_u8_nat (v:Nat):IntKind.u8.wrap (v:Int)=((v.toUInt8.toNat:Nat):Int):=by
 show (v:Int)%256=_
 have:v.toUInt8.toNat=v%256:=by simp
 rw [this];omega
section
variable {X:Cx} {off:Nat} {bs:List UInt8} {w:World}
theorem writeU16 (h:St X off bs w) (v:Nat) (hv:v<2147483648) (hlen:bs.length+6≤room):
  Calls Tryz.prog 175 #[.pointer (some ⟨X.di,0,none⟩),.int .i32 (v:Int)] w fun e w'=>(∃u,e= .returned u)∧St X off (bs++u16T v) w'∧Gr X.B [X.d,X.wb] w w':=by
 have L0:Togo bs (thenR (txt [92,117]) (thenR (txt (hexB hexD [(v/256).toUInt8,v.toUInt8])) (txt []))) bs (txt ([92,117]++(hexB hexD [(v/256).toUInt8,v.toUInt8]++[]))):=Togo.refl _ _;have hlen':bs.length+(txt ([92,117]++(hexB hexD [(v/256).toUInt8,v.toUInt8]++[]))).1.length≤room:=by
  simp [txt,hexB];omega
 have e1:(v:Int)/256=((v/256:Nat):Int):=by omega
 have g1:=wrap_u8_nat (v/256);have g2:=wrap_u8_nat v;generalize hq:v/256=q at *
 have k0:=h.i0;have k2:=h.i2;have KB:=Hz (fun (w':World) (b:Nat) (hr:Rd w' b 0 [q.toUInt8,v.toUInt8])=>zzHex (c:=2) hr (by simp))
 replace L0:=Hz L0;replace hlen':=Hz hlen';have K1:=Hz (fun n=>writeString (h.drewN n).buf h.lw (h.drewN n).hB [92,117] (L0.out.len_tx hlen'.out))
 go_enter Tryz.func175,Tryz.ntmps175
 go_wp2_with fail
 refine (K1.out 0).mono ?_
 rintro e w2 ⟨⟨u2,rfl⟩,hb2,hg2⟩;have h2:=h.wrote hg2 hb2;have G2:=St.grW hg2;have L2:=Hz L0.out.tx;go_wp2_with fail
 generalize hW:w2.alloc (Obj.cells #[Value.int IntKind.u8 ((q:Int)%256),Value.int IntKind.u8 ((v:Int)%256)] 313)=W;have hFW:Fr [] w2 W:=by rw [←hW];exact (Fr.refl _ _).alloc _
 have hR:Hid (Rd W w2.heap.size 0 [q.toUInt8,v.toUInt8]):=Hz (by
  intro j hj;rw [←hW]
  match j,hj with
  |0,_=>refine (cell_blk (blk_new _ _) 0).trans ?_;exact congrArg (fun z=>some (Value.int IntKind.u8 z)) g1
  |1,_=>refine (cell_blk (blk_new _ _) 1).trans ?_;exact congrArg (fun z=>some (Value.int IntKind.u8 z)) g2)
 clear hW;have h2':=h2.kept hFW;have G2':=G2.trans (St.gr0 h2 hFW);have k0':=h2'.i0;have k2':=h2'.i2;clear hg2 G2
 go_region_held3 (fun w'=>w'.cell? ⟨X.di,2,none⟩=some (.pointer (some ⟨X.wb,0,none⟩))) (first|go_keep|exact h3.i2|exact h4.i2)
  (first|(go_at_call 170;refine (KB.out _ _ (hR.out.fr ((Fr.refl [] W).drewN 1) (by simp))).mono ?_;rintro e w3 ⟨v3,rfl,hr3,hf3⟩;have hr3':=hr3.src;have h3:=St.kept (h2'.drewN 1) hf3;have G3:=(St.gr0 (h2'.drewN 1) hf3))|(go_at_call 171;refine (writeSrc h3.buf h3.lw h3.hB (hexB hexD [q.toUInt8,v.toUInt8]) _ hr3' (L2.out.len_tx hlen'.out)).mono ?_;rintro e w4 ⟨⟨u4,rfl⟩,hb4,hg4⟩;have h4:=h3.wrote hg4 hb4))
 have G4:=(G2'.drewN 1).trans (G3.trans (St.grW hg4));go_wp2
 go_end0
 refine ⟨⟨_,rfl⟩,?_,G4⟩
 have hu:u16T v=[92,117]++hexB hexD [q.toUInt8,v.toUInt8]:=by rw [u16T,hq]
 rw [hu,←List.append_assoc];exact h4
end
theorem and1023 (x:Nat) (hx:x<2147483648):bits .and .i32 (x:Int) 1023=((x%1024:Nat):Int):=by
 have h1:(BitVec.ofInt 32 (x:Int)).toNat=x:=by simp only [BitVec.toNat_ofInt];omega
 show IntKind.i32.wrap ((BitVec.ofInt 32 (x:Int)&&&BitVec.ofInt 32 1023).toNat:Int)=_
 rw [BitVec.toNat_and,h1,show (BitVec.ofInt 32 1023).toNat=2^10-1 from by decide,Nat.and_two_pow_sub_one_eq_mod]
 show IntKind.i32.wrap ((x%1024:Nat):Int)=_
 simp only [IntKind.wrap_i32];omega
theorem encodeRune {w:World} (c:Nat) (h1:65536≤c) (h2:c≤1114111):
  Calls Tryz.prog 177 #[.int .i32 (c:Int)] w fun e w'=>e= .returned (.tuple #[.int .i32 ((55296+(c-65536)/1024:Nat):Int),.int .i32 ((56320+(c-65536)%1024:Nat):Int)])∧Fr [] w w':=by
 obtain ⟨x,hx⟩: ∃x,c-65536=x:=⟨_,rfl⟩;rw [hx];have e1: ¬(c:Int)<65536:=by omega
 have e2: ¬(1114111:Int)<(c:Int):=by omega
 have e2b:decide ((1114111:Int)<(c:Int))=false:=decide_eq_false e2;have e3:(c:Int)-65536=(x:Int):=by omega
 obtain ⟨p,hp⟩: ∃p,x/1024=p:=⟨_,rfl⟩;obtain ⟨q,hq⟩: ∃q,x%1024=q:=⟨_,rfl⟩;have e4:(x:Int)/1024=(p:Int):=by omega
 have e5:bits .and .i32 (p:Int) 1023=(p:Int):=by rw [and1023 _ (by omega),Nat.mod_eq_of_lt (by omega)]
 have e6:bits .and .i32 (x:Int) 1023=(q:Int):=by rw [and1023 x (by omega),hq]
 obtain ⟨R1,hR1⟩: ∃R1,55296+p=R1:=⟨_,rfl⟩;obtain ⟨R2,hR2⟩: ∃R2,56320+q=R2:=⟨_,rfl⟩;have e7:(55296:Int)+(p:Int)=(R1:Int):=by omega
 have e8:(56320:Int)+(q:Int)=(R2:Int):=by omega
 rw [hp,hq,hR1,hR2];have e9:wrap32 (R1:Int)=(R1:Int):=by unfold wrap32;omega
 have e10:wrap32 (R2:Int)=(R2:Int):=by unfold wrap32;omega
 clear hx hp hq hR1 hR2;go_enter Tryz.func177,Tryz.ntmps177
 go_wp2
 go_ret2
 exact ⟨rfl,Fr.refl _ _⟩
end
section
open Go.RowKit
theorem Togo.txs {b1 A B bs0:List UInt8} {r r0:R} (h:Togo b1 (thenR (txt (A++B)) r) bs0 r0):Togo b1 (thenR (txt A) (thenR (txt B) r)) bs0 r0:=by
 rw [thenR_txt] at h;rw [thenR_txt,thenR_txt,←List.append_assoc];exact h
theorem Togo.ltx {bs bs0:List UInt8} {c:UInt8} {r r0:R} (h:Togo bs (thenR (txt [c]) r) bs0 r0) (hl:bs0.length+r0.1.length≤room):bs.length<140737488355328:=by
 have:=h.len_tx hl;simp only [List.length_cons,List.length_nil] at this;unfold room at this;omega
theorem decodeGo_L (l:List UInt8) (h:l≠[]):Lib.decodeGo ⟨l.toArray⟩=Lib.decodeL l:=by
 have:(⟨l.toArray⟩:ByteArray).size≠0:=by
  rw [Lib.size_eq];exact fun e=>h (List.eq_nil_of_length_eq_zero (by simpa using e))
 unfold Lib.decodeGo;rw [if_neg this]
 rfl
theorem str_drop' (xs:List UInt8) (k:Nat) (h:k≤xs.length):(⟨xs.toArray⟩:ByteArray).extract k xs.length=⟨(xs.drop k).toArray⟩:=by
 apply ByteArray.ext
 rw [ByteArray.data_extract];apply Array.ext'
 simp only [List.extract_toArray,List.extract_eq_take_drop,List.toList_toArray];exact List.take_of_length_le (by rw [List.length_drop];omega)
section
variable {X:Cx} {off:Nat} {bs:List UInt8} {w:World}
theorem encText (h:St X off bs w) (q:UInt8) (s:List UInt8) (hv:Lib.validD s=true) (hsl:s.length≤1099511627776) (hlen:bs.length+(qT q s).length≤room):
  Calls Tryz.prog 132 #[.pointer (some ⟨X.di,0,none⟩),.string ⟨s.toArray⟩,.int .u8 (q.toNat:Int)] w fun e w'=>e= .returned .nilIface∧St X off (bs++qT q s) w'∧Gr X.B [X.d,X.wb] w w':=by
 obtain ⟨TS,hTS⟩: ∃TS,qT q s=TS:=⟨_,rfl⟩;have L0:Togo bs (thenR (txt [q]) (thenR (txt (txtE q s.length s)) (txt [q]))) bs (txt TS):=by rw [←hTS];exact Togo.refl _ _
 rw [hTS] at hlen ⊢;have hlen':=Hz (show bs.length+(txt TS).1.length≤room from hlen)
 clear hlen hTS;have hql:=q.toNat_lt;have hssz:(⟨s.toArray⟩:ByteArray).size=s.length:=by simp [ByteArray.size]
 obtain ⟨S,hS⟩: ∃S:ByteArray,(⟨s.toArray⟩:ByteArray)=S:=⟨_,rfl⟩;have hidx:Hid (∀i (hi:i<s.length),∀hp,S[i]'hp=s[i]):=Hz (by subst hS;intro i hi hp;rfl)
 have hext:Hid (∀i,i≤s.length→S.extract i s.length=⟨(s.drop i).toArray⟩):=Hz (by subst hS;exact fun i hi=>str_drop' s i hi)
 rw [hS] at hssz ⊢;clear hS;replace hv:=Hz hv;replace L0:=Hz L0;have k0:=h.i0;have k2:=h.i2;have K1:=Hz (fun n=>writeByte (h.drewN n).buf h.lw (h.drewN n).hB q (L0.out.ltx hlen'.out))
 go_enter Tryz.func132,Tryz.ntmps132
 go_wp2_with fail
 refine (K1.out 0).mono ?_
 rintro e w1 ⟨rfl,hb1,hg1⟩;have h1:=h.wrote hg1 hb1;have G1:=St.grW hg1;have L1:=Hz L0.out.tx;clear k0 k2 K1;go_wp2
 go_loopg [7] (s.length+1) (fun gk v7 wr=> ∃(i n:Nat) (B1:List UInt8),v7= .int .i64 (i:Int)∧i≤s.length∧s.length-i≤n∧n<gk∧Hid (Lib.validD (s.drop i)=true)∧St X off B1 wr∧Gr X.B [X.d,X.wb] w wr∧Hid (Togo B1 (thenR (txt (txtE q n (s.drop i))) (txt [q])) bs (txt TS)))
 case atStart=>exact ⟨0,s.length,bs++[q],rfl,by omega,by omega,by omega,hv,h1,G1,L1⟩
 case round=>
  obtain ⟨i,n,B1,rfl,hi,hin,hng,hvi,hS1,hG,hL⟩:=hrel;clear h h1 G1 L1 hg1 hb1 L0 hv;have k0:=hS1.i0;have k2:=hS1.i2;by_cases hend:i=s.length
  ·subst hend;have tz: ¬(s.length:Int)<(s.length:Int):=by omega
   have hL2:Togo B1 (thenR (txt []) (txt [q])) bs (txt TS):=by
    have:=hL.out;rw [List.drop_of_length_le (Nat.le_refl _)] at this
    rwa [show txtE q n []=[] from by cases n<;>rfl] at this
   have hL3:=Hz hL2.tx;have K2:=Hz (fun n=>writeByte (hS1.drewN n).buf hS1.lw (hS1.drewN n).hB q (by have:=hL3.out.len hlen'.out;simp only [txt,List.length_append,List.length_nil,List.length_cons] at this;unfold room at this;omega))
   clear hL hL2;go_wp2_with fail
   refine (K2.out 0).mono ?_
   rintro e w2 ⟨rfl,hb2,hg2⟩;have h2:=hS1.wrote hg2 hb2;go_wp2;go_ret
   refine ⟨rfl,?_,hG.trans (St.grW hg2)⟩
   have:=hL3.out.1;simp only [txt,List.append_nil] at this;rw [←this];exact h2
  ·have hil:i<s.length:=by omega
   have tz:(i:Int)<(s.length:Int):=by omega
   have hdr:s.drop i=s[i]::s.drop (i+1):=List.drop_eq_getElem_cons hil;obtain ⟨b,hb⟩: ∃b,s[i]=b:=⟨_,rfl⟩;have hx0:=hidx.out i hil;rw [hb] at hdr hx0;have hbl:=b.toNat_lt;obtain ⟨n',rfl⟩: ∃n',n=n'+1:=⟨n-1,by omega⟩
   obtain ⟨g',rfl⟩: ∃g',gk=g'+1:=⟨gk-1,by omega⟩
   clear hb hend;by_cases ha:b.toNat<128
   ·have haz:(b.toNat:Int)<128:=by omega
    have hv2:Hid (Lib.validD (s.drop (i+1))=true):=Hz (by have:=hvi.out;rwa [hdr,Lib.validD_cons _ _ ha] at this)
    have hL1:Togo B1 (thenR (txt (escT q b)) (thenR (txt (txtE q n' (s.drop (i+1)))) (txt [q]))) bs (txt TS):=by
     have:=hL.out;rw [hdr,txtE,if_pos ha] at this;exact this.txs
    clear hL hdr hvi;by_cases c9:b=9
    ·as_aux_lemma=>
     have z9:(b.toNat:Int)=9:=by rw [c9];rfl
     have hesc:escT q b=[92]++[116]:=by rw [escT,if_pos c9];rfl
     rw [hesc] at hL1;have hL2:=Hz hL1.txs;have hL3:=Hz hL2.out.tx;clear hL1 hesc;have K2:=Hz (fun n=>writeByte (hS1.drewN n).buf hS1.lw (hS1.drewN n).hB 92 (hL2.out.ltx hlen'.out))
     go_wp2_with fail
     refine (K2.out 0).mono ?_
     rintro e w2 ⟨rfl,hb2,hg2⟩;have h2:=hS1.wrote hg2 hb2;have k0':=h2.i0;have k2':=h2.i2;have K3:=Hz (fun n=>writeByte (h2.drewN n).buf h2.lw (h2.drewN n).hB 116 (hL3.out.ltx hlen'.out))
     go_wp2_with fail
     refine (K3.out 0).mono ?_
     rintro e w3 ⟨rfl,hb3,hg3⟩;have h3:=h2.wrote hg3 hb3;go_wp2
     go_roundg g'
     case measure=>omega
     case rel=>exact ⟨i+1,n',_,by go_num,by omega,by omega,by omega,hv2,h3,(hG.trans (St.grW hg2)).trans (St.grW hg3),Hz hL3.out.tx⟩
    have z9: ¬(b.toNat:Int)=9:=fun e=>c9 (UInt8.toNat_inj.1 (by first|omega|(simp;omega)))
    have y9:((b.toNat:Int)==9)=false:=by simp;omega
    replace z9:=Hz z9;by_cases c10:b=10
    ·as_aux_lemma=>
     have z10:(b.toNat:Int)=10:=by rw [c10];rfl
     have hesc:escT q b=[92]++[110]:=by rw [escT,if_neg c9,if_pos c10];rfl
     rw [hesc] at hL1;have hL2:=Hz hL1.txs;have hL3:=Hz hL2.out.tx;clear hL1 hesc;have K2:=Hz (fun n=>writeByte (hS1.drewN n).buf hS1.lw (hS1.drewN n).hB 92 (hL2.out.ltx hlen'.out))
     clear z9 y9;go_wp2_with fail
     refine (K2.out 0).mono ?_
     rintro e w2 ⟨rfl,hb2,hg2⟩;have h2:=hS1.wrote hg2 hb2;have k0':=h2.i0;have k2':=h2.i2;have K3:=Hz (fun n=>writeByte (h2.drewN n).buf h2.lw (h2.drewN n).hB 110 (hL3.out.ltx hlen'.out))
     go_wp2_with fail
     refine (K3.out 0).mono ?_
     rintro e w3 ⟨rfl,hb3,hg3⟩;have h3:=h2.wrote hg3 hb3;go_wp2
     go_roundg g'
     case measure=>omega
     case rel=>exact ⟨i+1,n',_,by go_num,by omega,by omega,by omega,hv2,h3,(hG.trans (St.grW hg2)).trans (St.grW hg3),Hz hL3.out.tx⟩
    have z10: ¬(b.toNat:Int)=10:=fun e=>c10 (UInt8.toNat_inj.1 (by first|omega|(simp;omega)))
    have y10:((b.toNat:Int)==10)=false:=by simp;omega
    replace z10:=Hz z10;by_cases c13:b=13
    ·as_aux_lemma=>
     have z13:(b.toNat:Int)=13:=by rw [c13];rfl
     have hesc:escT q b=[92]++[114]:=by rw [escT,if_neg c9,if_neg c10,if_pos c13];rfl
     rw [hesc] at hL1;have hL2:=Hz hL1.txs;have hL3:=Hz hL2.out.tx;clear hL1 hesc;have K2:=Hz (fun n=>writeByte (hS1.drewN n).buf hS1.lw (hS1.drewN n).hB 92 (hL2.out.ltx hlen'.out))
     clear z9 y9;clear z10 y10;go_wp2_with fail
     refine (K2.out 0).mono ?_
     rintro e w2 ⟨rfl,hb2,hg2⟩;have h2:=hS1.wrote hg2 hb2;have k0':=h2.i0;have k2':=h2.i2;have K3:=Hz (fun n=>writeByte (h2.drewN n).buf h2.lw (h2.drewN n).hB 114 (hL3.out.ltx hlen'.out))
     go_wp2_with fail
     refine (K3.out 0).mono ?_
     rintro e w3 ⟨rfl,hb3,hg3⟩;have h3:=h2.wrote hg3 hb3;go_wp2
     go_roundg g'
     case measure=>omega
     case rel=>exact ⟨i+1,n',_,by go_num,by omega,by omega,by omega,hv2,h3,(hG.trans (St.grW hg2)).trans (St.grW hg3),Hz hL3.out.tx⟩
    have z13: ¬(b.toNat:Int)=13:=fun e=>c13 (UInt8.toNat_inj.1 (by first|omega|(simp;omega)))
    have y13:((b.toNat:Int)==13)=false:=by simp;omega
    replace z13:=Hz z13;by_cases c92:b=92
    ·as_aux_lemma=>
     have z92:(b.toNat:Int)=92:=by rw [c92];rfl
     have hesc:escT q b=[92]++[92]:=by rw [escT,if_neg c9,if_neg c10,if_neg c13,if_pos (.inl c92),c92];rfl
     rw [hesc] at hL1;have hL2:=Hz hL1.txs;have hL3:=Hz hL2.out.tx;clear hL1 hesc;have K2:=Hz (fun n=>writeByte (hS1.drewN n).buf hS1.lw (hS1.drewN n).hB 92 (hL2.out.ltx hlen'.out))
     clear z9 y9;clear z10 y10;clear z13 y13;go_wp2_with fail
     refine (K2.out 0).mono ?_
     rintro e w2 ⟨rfl,hb2,hg2⟩;have h2:=hS1.wrote hg2 hb2;have k0':=h2.i0;have k2':=h2.i2;have K3:=Hz (fun n=>writeByte (h2.drewN n).buf h2.lw (h2.drewN n).hB 92 (hL3.out.ltx hlen'.out))
     go_wp2_with fail
     refine (K3.out 0).mono ?_
     rintro e w3 ⟨rfl,hb3,hg3⟩;have h3:=h2.wrote hg3 hb3;go_wp2
     go_roundg g'
     case measure=>omega
     case rel=>exact ⟨i+1,n',_,by go_num,by omega,by omega,by omega,hv2,h3,(hG.trans (St.grW hg2)).trans (St.grW hg3),Hz hL3.out.tx⟩
    have z92: ¬(b.toNat:Int)=92:=fun e=>c92 (UInt8.toNat_inj.1 (by first|omega|(simp;omega)))
    have y92:((b.toNat:Int)==92)=false:=by simp;omega
    replace z92:=Hz z92;by_cases cq:b=q
    ·as_aux_lemma=>
     subst cq;have hesc:escT b b=[92]++[b]:=by rw [escT,if_neg c9,if_neg c10,if_neg c13,if_pos (.inr rfl)];rfl
     rw [hesc] at hL1;have hL2:=Hz hL1.txs;have hL3:=Hz hL2.out.tx;clear hL1 hesc;have K2:=Hz (fun n=>writeByte (hS1.drewN n).buf hS1.lw (hS1.drewN n).hB 92 (hL2.out.ltx hlen'.out))
     go_wp2_with fail
     refine (K2.out 0).mono ?_
     rintro e w2 ⟨rfl,hb2,hg2⟩;have h2:=hS1.wrote hg2 hb2;have k0':=h2.i0;have k2':=h2.i2;have K3:=Hz (fun n=>writeByte (h2.drewN n).buf h2.lw (h2.drewN n).hB b (hL3.out.ltx hlen'.out))
     go_wp2_with fail
     refine (K3.out 0).mono ?_
     rintro e w3 ⟨rfl,hb3,hg3⟩;have h3:=h2.wrote hg3 hb3;go_wp2
     go_roundg g'
     case measure=>omega
     case rel=>exact ⟨i+1,n',_,by go_num,by omega,by omega,by omega,hv2,h3,(hG.trans (St.grW hg2)).trans (St.grW hg3),Hz hL3.out.tx⟩
    have zq: ¬(b.toNat:Int)=(q.toNat:Int):=fun e=>cq (UInt8.toNat_inj.1 (by omega))
    have yq:((b.toNat:Int)==(q.toNat:Int))=false:=by simp;omega
    replace zq:=Hz zq;by_cases cp:32≤b.toNat∧b.toNat≤126
    ·have p1:(32:Int)≤(b.toNat:Int):=by omega
     have p2:(b.toNat:Int)≤126:=by omega
     have hesc:escT q b=[b]:=by rw [escT,if_neg c9,if_neg c10,if_neg c13,if_neg (by intro e;exact e.elim c92 cq),if_pos cp]
     rw [hesc] at hL1;have hL2:=Hz hL1;clear hL1 hesc;have K2:=Hz (fun n=>writeByte (hS1.drewN n).buf hS1.lw (hS1.drewN n).hB b (hL2.out.ltx hlen'.out))
     go_wp2_with fail
     refine (K2.out 0).mono ?_
     rintro e w2 ⟨rfl,hb2,hg2⟩;have h2:=hS1.wrote hg2 hb2;go_wp2
     go_roundg g'
     case measure=>omega
     case rel=>exact ⟨i+1,n',_,by go_num,by omega,by omega,by omega,hv2,h2,hG.trans (St.grW hg2),Hz hL2.out.tx⟩
    ·have hesc:escT q b=u16T b.toNat:=by rw [escT,if_neg c9,if_neg c10,if_neg c13,if_neg (by intro e;exact e.elim c92 cq),if_neg cp]
     rw [hesc] at hL1;have hL2:=Hz hL1;clear hL1 hesc;have K2:=Hz (fun n=>writeU16 (hS1.drewN n) b.toNat (by omega) (by have:=hL2.out.len_tx hlen'.out;rwa [u16T_length] at this))
     by_cases cp1:32≤b.toNat
     ·have p1:(32:Int)≤(b.toNat:Int):=by omega
      have p2: ¬(b.toNat:Int)≤126:=by omega
      have p2b:decide ((b.toNat:Int)≤126)=false:=decide_eq_false p2;go_wp2_with fail
      refine (K2.out 0).mono ?_
      rintro e w2 ⟨⟨u2,rfl⟩,h2,hg2⟩;go_wp2
      go_roundg g'
      case measure=>omega
      case rel=>exact ⟨i+1,n',_,by go_num,by omega,by omega,by omega,hv2,h2,hG.trans hg2,Hz hL2.out.tx⟩
     ·have p1: ¬(32:Int)≤(b.toNat:Int):=by omega
      have p1b:decide ((32:Int)≤(b.toNat:Int))=false:=decide_eq_false p1;go_wp2_with fail
      refine (K2.out 0).mono ?_
      rintro e w2 ⟨⟨u2,rfl⟩,h2,hg2⟩;go_wp2
      go_roundg g'
      case measure=>omega
      case rel=>exact ⟨i+1,n',_,by go_num,by omega,by omega,by omega,hv2,h2,hG.trans hg2,Hz hL2.out.tx⟩
   ·have haz: ¬(b.toNat:Int)<128:=by omega
    have hab:decide ((b.toNat:Int)<128)=false:=decide_eq_false haz;have hne:s.drop i≠[]:=by rw [hdr];simp
    have hst:=Lib.validD_step (s.drop i) hne;rw [hvi.out] at hst;have hw1:=Lib.decodeL_width (s.drop i);have hw2:=Lib.decodeL_le (s.drop i) hne;have hw3:=Lib.decodeL_rune (s.drop i);have KD: ∀w',U8 w'→Calls Tryz.prog 176 #[.string (S.extract i s.length)] w' fun e w''=>e= .returned (.tuple #[.int .i32 ((Lib.decodeL (s.drop i)).1:Int),.int .i64 ((Lib.decodeL (s.drop i)).2:Int)])∧Fr [] w' w'':=fun w' hu'=>by
     rw [hext.out i hi,←decodeGo_L _ hne];exact decRune _ w' hu'
    have hL1:Togo B1 (thenR (txt (runeT (Lib.decodeL (s.drop i)).1)) (thenR (txt (txtE q n' ((s.drop i).drop (Lib.decodeL (s.drop i)).2))) (txt [q]))) bs (txt TS):=by
     have:=hL.out;rw [hdr,txtE,if_neg ha,←hdr] at this;exact this.txs
    rw [List.length_drop] at hw2;rw [List.drop_drop] at hst hL1;obtain ⟨R,hR⟩: ∃R,(Lib.decodeL (s.drop i)).1=R:=⟨_,rfl⟩;obtain ⟨K,hK⟩: ∃K,(Lib.decodeL (s.drop i)).2=K:=⟨_,rfl⟩;simp only [hR,hK] at hst hw1 hw2 hw3 KD hL1;clear hL hdr hvi hne hR hK;replace KD:=Hz KD;by_cases hbad:R=65533∧K=1
    ·rw [if_pos hbad] at hst;cases hst
    ·rw [if_neg hbad] at hst;have hv2:Hid (Lib.validD (s.drop (i+K))=true):=Hz hst.symm;have hL2:=Hz hL1;clear hL1 hst;obtain ⟨m,hm⟩: ∃m,i+K=m:=⟨_,rfl⟩;rw [hm] at hv2 hL2;have gm:(i:Int)+(K:Int)=(m:Int):=by omega
     have hml:m≤s.length:=by omega
     have him:i<m:=by omega
     clear hm;have hL2x:=hL2.out;clear hL2;by_cases c6:R<65536
     ·by_cases c5:R=65533
      ·as_aux_lemma=>
       have cK:K≠1:=fun e=>hbad ⟨c5,e⟩
       clear hbad;subst c5;have yK:((K:Int)==1)=false:=by simp;omega
       go_wp2_with fail
       refine (KD.out _ hS1.u8).mono ?_
       rintro e w2 ⟨rfl,hf2⟩;have h2:=hS1.kept hf2;have G2:=hG.trans (hS1.gr0 hf2);have k0':=h2.i0;have k2':=h2.i2;rw [runeT,if_pos c6] at hL2x;have hL3:=Hz hL2x;have K2:=Hz (fun n=>writeU16 (h2.drewN n) 65533 (by omega) (by have:=hL3.out.len_tx hlen'.out;rwa [u16T_length] at this))
       go_wp2_with fail
       refine (K2.out 0).mono ?_
       rintro e w3 ⟨⟨u3,rfl⟩,h3,hg3⟩;go_wp2
       go_roundg g'
       case measure=>omega
       case rel=>exact ⟨m,n',_,rfl,by omega,by omega,by omega,hv2,h3,G2.trans hg3,Hz hL3.out.tx⟩
      ·as_aux_lemma=>
       have n5:=c5;have y5:((R:Int)==65533)=false:=by simp;omega
       have y6:decide ((R:Int)<65536)=true:=decide_eq_true (by omega)
       go_wp2_with fail
       refine (KD.out _ hS1.u8).mono ?_
       rintro e w2 ⟨rfl,hf2⟩;have h2:=hS1.kept hf2;have G2:=hG.trans (hS1.gr0 hf2);have k0':=h2.i0;have k2':=h2.i2;rw [runeT,if_pos c6] at hL2x;have hL3:=Hz hL2x;have K2:=Hz (fun n=>writeU16 (h2.drewN n) R (by omega) (by have:=hL3.out.len_tx hlen'.out;rwa [u16T_length] at this))
       go_wp2_with fail
       refine (K2.out 0).mono ?_
       rintro e w3 ⟨⟨u3,rfl⟩,h3,hg3⟩;go_wp2
       go_roundg g'
       case measure=>omega
       case rel=>exact ⟨m,n',_,rfl,by omega,by omega,by omega,hv2,h3,G2.trans hg3,Hz hL3.out.tx⟩
     ·as_aux_lemma=>
      have n5:=c6;have y5:((R:Int)==65533)=false:=by simp;omega
      have KE:=encodeRune (w:=w) R (by omega) hw3
      have y6:decide ((R:Int)<65536)=false:=decide_eq_false (by omega)
      have KR:=Hz (fun w:World=>encodeRune (w:=w) R (by omega) hw3)
      rw [runeT,if_neg c6] at hL2x;obtain ⟨R1,hR1⟩: ∃R1,55296+(R-65536)/1024=R1:=⟨_,rfl⟩;obtain ⟨R2,hR2⟩: ∃R2,56320+(R-65536)%1024=R2:=⟨_,rfl⟩;have lR1:R1<2147483648:=by omega
      have lR2:R2<2147483648:=by omega
      rw [hR1,hR2] at hL2x KR;have hL3:=Hz hL2x.txs;have hL4:=Hz hL3.out.tx;clear hL2x KE hR1 hR2;go_wp2_with fail
      refine (KD.out _ hS1.u8).mono ?_
      rintro e w2 ⟨rfl,hf2⟩;have h2:=hS1.kept hf2;have G2:=hG.trans (hS1.gr0 hf2);have k0':=h2.i0;have k2':=h2.i2;go_wp2_with fail
      refine (KR.out _).mono ?_
      rintro e w3 ⟨rfl,hf3⟩;have h3:=h2.kept hf3;have G3:=G2.trans (h2.gr0 hf3);have k0'':=h3.i0;have k2'':=h3.i2;have K4:=Hz (fun n=>writeU16 (h3.drewN n) R1 lR1 (by have:=hL3.out.len_tx hlen'.out;rwa [u16T_length] at this))
      go_wp2_with fail
      refine (K4.out 0).mono ?_
      rintro e w4 ⟨⟨u4,rfl⟩,h4,hg4⟩;have K5:=Hz (fun n=>writeU16 (h4.drewN n) R2 lR2 (by have:=hL4.out.len_tx hlen'.out;rwa [u16T_length] at this))
      go_wp2_with fail
      refine (K5.out 0).mono ?_
      rintro e w5 ⟨⟨u5,rfl⟩,h5,hg5⟩;go_wp2
      go_roundg g'
      case measure=>omega
      case rel=>exact ⟨m,n',_,rfl,by omega,by omega,by omega,hv2,h5,(G3.trans hg4).trans hg5,Hz hL4.out.tx⟩
end
end
end Go.Proofs.YteodinhkhhaafaaGreatDoor
