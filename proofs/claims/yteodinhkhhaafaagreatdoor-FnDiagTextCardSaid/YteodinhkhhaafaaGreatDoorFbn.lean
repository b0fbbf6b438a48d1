/- Walks of the program, and plain facts. -/
import Derived.Test.YteodinhkhhaafaaGreatDoorFbl
set_option linter.unusedVariables false
set_option linter.unusedSimpArgs false
set_option maxRecDepth 100000
set_option maxHeartbeats 6400000
namespace Go.Proofs.YteodinhkhhaafaaGreatDoor
section
set_option exponentiation.threshold 3000
open Go.RowKit
theorem timesD {w:World} {v:Value} {L V:Nat} (h:NumR w v L V) (hl:L≤100000) (p:Nat) (hp:p≤255):
  Calls Tryz.prog 76 #[v,.int .i64 10,.int .i64 (p:Int)] w fun e w'=> ∃ao n c,e= .returned (.slice ao n c)∧NumR w' (.slice ao n c) (L+1) (V*10+p)∧Fr [] w w':=by
 obtain ⟨X,h1,h2,h3,h4⟩:=h;refine (timesW h1 (Nat.zero_le _) h2 (by omega) 10 p (by omega) hp).mono ?_
 rintro e w' ⟨v',bs',rfl,h5,h6,h7,h8,h9⟩;obtain ⟨ao,n,c,rfl⟩:=h5.shape;exact ⟨ao,n,c,rfl,⟨bs',h5.low,h6,by omega,by rw [h8,h4]⟩,h9⟩
theorem row_zero (w:World):NumR (w.alloc (.cells #[.int .u8 0] 5)) (.slice (some ⟨w.heap.size,0,none⟩) 1 1) 1 0:=by
 refine ⟨[0],⟨rfl,.inr ⟨w.heap.size,1,_,rfl,Nat.zero_le _,blk_new w _,Nat.le_refl _,by decide,rfl,?_⟩⟩,by simp,by simp,?_⟩
 ·simp [enc]
 ·simp [be]
theorem againstX {w:World} {v:Value} {L D:Nat} (hr:NumR w v L D) (hL:L≤10000) (X t:Int) (h1: -2000≤X) (h2:X≤2000) (h3: -2000≤t) (h4:t≤2000) (y:Nat) (hy:y<18446744073709551616):
  Calls Tryz.prog 78 #[v,.int .i64 X,.int .u64 (y:Int),.int .i64 t] w fun e w'=>e= .returned (.int .i64 (cmpN (agx D X t) (agy y X t)))∧Fr [] w w':=by
 have h:=againstW hr hL X.toNat (-X).toNat t.toNat (-t).toNat y (by omega) (by omega) (by omega) (by omega) (by omega) (by omega) hy
 rw [show ((X.toNat:Nat):Int)-(((-X).toNat:Nat):Int)=X by omega,show ((t.toNat:Nat):Int)-(((-t).toNat:Nat):Int)=t by omega] at h
 exact h
theorem strip_zero {X:List UInt8} (h:be X=0):strip0 X=[]:=by
 apply Classical.byContradiction
 intro hne;obtain ⟨b,l,h1,h2⟩:=strip_head X hne;rw [←strip_be,h1,be_cons] at h;have hb:0<b.toNat:=by
  rcases Nat.eq_zero_or_pos b.toNat with e|e
  ·exact absurd (UInt8.toNat_inj.1 e) h2
  ·exact e
 have:=Nat.mul_pos hb (Nat.pow_pos (n:=l.length) (show 0<256 by decide))
 omega
theorem dv_snocB (l:List UInt8) (b:UInt8):dvB (l++[b])=dvB l*10+(b.toNat-48):=by
 rw [dvB_append];simp [dvB,dv]
theorem num_dg {t D:List UInt8} {X:Int} (h:NumT t D X):Dg D:=by
 obtain ⟨ip,fp,ep,_,_,_,h1,h2,rfl,_⟩:=h;intro b hb;rcases List.mem_append.1 hb with hb|hb
 ·exact h1 b hb
 ·exact h2 b hb
theorem numberF {b:Nat} {D:List UInt8} {X:Int} (hb:b<18446744073709551616) (hN:NumT (absT b) D X) (hl:(absT b).length≤3000) (w:World):
  Calls Tryz.prog 75 #[.string ⟨(fltB b).toArray⟩] w fun e w'=>e= .returned (.tuple #[.bool (decide (9223372036854775808≤b)),.string ⟨D.toArray⟩,.int .i64 X,.bool true])∧Fr [] w w':=by
 rw [fltB_sgn];unfold sgnT;by_cases hs:b/9223372036854775808=0
 ·rw [if_pos hs,List.nil_append,show decide (9223372036854775808≤b)=false by rw [decide_eq_false_iff_not];omega]
  exact number0 hN hl w
 ·rw [if_neg hs,show decide (9223372036854775808≤b)=true by rw [decide_eq_true_eq];omega]
  exact number1 hN hl w
theorem and_e11 (b:Nat) (hb:b<18446744073709551616):bits .and .u64 ((b:Int)/4503599627370496) 2047=((b/4503599627370496%2048:Nat):Int):=by
 have h:=u64_and_nat (b/4503599627370496) 2047 (by omega) (by omega)
 have h2:b/4503599627370496&&&2047=b/4503599627370496%2048:=Nat.and_two_pow_sub_one_eq_mod (b/4503599627370496) 11;rw [h2,show ((b/4503599627370496:Nat):Int)=(b:Int)/4503599627370496 by omega] at h
 exact h
theorem roundsF {b:Nat} (hb:b<18446744073709551616) (hf:b/4503599627370496%2048≠2047) (w:World):
  Calls Tryz.prog 45 #[.string ⟨(fltB b).toArray⟩,.int .u64 (b:Int)] w fun e w'=>e= .returned (.bool true)∧Fr [] w w':=by
 obtain ⟨D,X,hN,hl,hD,hX1,hX2,h0,h1⟩:=flt_num hf;have hdg:=Hz (num_dg hN);have KA:=nanW b hb;rw [show decide (18437736874454810624<b*2%18446744073709551616)=false by rw [decide_eq_false_iff_not];omega] at KA
 have KI:=infW b hb;rw [show decide (b*2%18446744073709551616=18437736874454810624)=false by rw [decide_eq_false_iff_not];omega] at KI
 have KN:=fun w=>numberF hb hN hl w
 obtain ⟨sg,hsg⟩: ∃sg,decide (9223372036854775808≤b)=sg:=⟨_,rfl⟩;rw [hsg] at KN;have ts:((b:Int)/9223372036854775808==1)=sg:=by
  rw [←hsg,Bool.eq_iff_iff,decide_eq_true_eq,beq_iff_eq];omega
 have ts2:(sg !=sg)=false:=by cases sg<;>rfl
 generalize fltB b=T at *
 have t1: ¬(400:Int)<X:=by omega
 have t2: ¬X<(-1200:Int):=by omega
 have t3: ¬(1200:Int)<(D.length:Int):=by omega
 have he11:=and_e11 b hb;have hfr:=and_fr b hb;obtain ⟨n,hn⟩: ∃n,D.length=n:=⟨_,rfl⟩;have hx: ∀j,(h:j<n)→((⟨D.toArray⟩:ByteArray)[j]'(by show j<D.toArray.size;simp [hn,h])).toNat=bt' D j:=fun j h=>bt_at D j (by omega)
 have hm2:0<fMant b→(∀c1 c2:Int,c1=cmpN (agx (dvB D) X (fExp b-54)) (agy (lowN (fMant b) (fLow b)) X (fExp b-54))→c2=cmpN (agx (dvB D) X (fExp b-54)) (agy (4*fMant b+2) X (fExp b-54))→(0<c1∧c2<0)∨(fMant b%2=0∧(c1=0∨c2=0))):=by
  intro h c1 c2 e1 e2;rw [e1,e2];exact cmp_rounds (h1 h)
 have hlow:fLow b=(decide (fMant b=4503599627370496)&&decide (-1022<fExp b)):=rfl;have hmt:fMant b=if b/4503599627370496%2048=0 then b%4503599627370496 else b%4503599627370496+4503599627370496:=rfl
 have hex:fExp b=if b/4503599627370496%2048=0 then-1022 else ((b/4503599627370496%2048:Nat):Int)-1023:=rfl
 obtain ⟨f,hff⟩: ∃f,b%4503599627370496=f:=⟨_,rfl⟩;have hf52:f<4503599627370496:=by omega
 obtain ⟨e0,he0⟩: ∃e0,b/4503599627370496%2048=e0:=⟨_,rfl⟩;have he48:e0<2048:=by omega
 have hor:=or_fr f hf52;have gw:IntKind.i64.wrap (e0:Int)=(e0:Int):=IntWalk.i64_in _ (by omega)
 rw [he0] at he11 hmt hex;rw [hff] at hfr hmt;generalize hFM:fMant b=m at *
 generalize hFE:fExp b=ex at *
 generalize hFL:fLow b=lw at *
 clear hFM hFE hFL hN hl h1 hf hsg hff he0;replace KA:=Hz KA;replace KI:=Hz KI;replace KN:=Hz KN;replace hm2:=Hz hm2;replace h0:=Hz h0;replace hlow:=Hz hlow;rw [hn] at t3 hD;have q2:(⟨D.toArray⟩:ByteArray).size=n:=by simp [ByteArray.size,hn]
 replace hx:=Hz hx;replace hn:=Hz hn;go_enter Tryz.func45,Tryz.ntmps45
 go_wp2_with fail
 refine (KA.out _).mono ?_
 rintro e w1 ⟨rfl,hf1⟩;go_wp2_with fail
 refine (KI.out _).mono ?_
 rintro e w2 ⟨rfl,hf2⟩;go_wp2_with fail
 refine (KN.out _).mono ?_
 rintro e w3 ⟨rfl,hf3⟩;have hF3:=(hf1.trans hf2).trans hf3;clear hf1 hf2 hf3;by_cases hz:e0=0
 ·subst hz;rw [if_pos rfl] at hmt hex;subst hmt;have hm53:m<9007199254740992:=by omega
  have hmt:=True.intro;clear hor;have hF4:Hid (Fr [] w (w3.alloc (.cells #[.int .u8 0] 5))):=Hz (hF3.alloc _);have hD4:Hid (NumR (w3.alloc (.cells #[.int .u8 0] 5)) (.slice (some ⟨w3.heap.size,0,none⟩) 1 1) 1 0):=Hz (row_zero w3);go_wp2_with fail
  go_loopg [11,12] n (fun k v11 v12 wr=> ∃(ao:Option Addr) (nn c j:Nat),v11= .slice ao nn c∧v12= .int .i64 (j:Int)∧j+k=n∧Hid (NumR wr (.slice ao nn c) (1+j) (dvB (D.take j)))∧Hid (Fr [] w wr))
  case atStart=>exact ⟨some ⟨w3.heap.size,0,none⟩,1,1,0,rfl,by first|rfl|go_num,by omega,hD4,hF4⟩
  case round=>
   clear hD4 hF4;obtain ⟨ao,nn,c,j,rfl,rfl,hj,hR,hF⟩:=hrel;by_cases hk0:gk=0
   ·subst hk0;obtain rfl:j=n:=by omega
    clear hj;have hT:D.take j=D:=by rw [←hn.out,List.take_length]
    rw [hT] at hR;clear hT;by_cases hm0:m=0
    ·have hz:=h0.out hm0;obtain ⟨X0,hr0,hne0,hl0,hb0⟩:=hR.out;rw [hz] at hb0;have hs0:=strip_zero hb0;have S1:=fun w=>strippedS X0 (by omega) w
     rw [hs0] at S1;have KEEP: ∀W,Fr [] wr W→(convert 59 9 (.slice ao nn c)).run Tryz.prog W= .ok (.string ⟨X0.toArray⟩) W:=fun W hf=>row_str (hr0.fr hf (by simp))
     have o2:=KEEP wr (Fr.refl _ _);have tm:((m:Int)==0)=true:=by simp only [beq_iff_eq];omega
     have tm2:(m:Int)=0:=by omega
     have hbb:=bq_self ⟨([]:List UInt8).toArray⟩;replace KEEP:=Hz KEEP;replace S1:=Hz S1;clear hR hr0 hb0 hs0 hx hm2 h0 hmt hex;go_wp2_with fail
     refine (S1.out _).mono ?_
     rintro e wz ⟨rfl,rfl⟩;go_wp2;go_ret
     exact ⟨rfl,hF.out⟩
    ·have hmp:0<m:=by omega
     have hE:ex-54= -1076:=by omega
     have tm:((m:Int)==0)=false:=by simp only [beq_eq_false_iff_ne];omega
     have tm2: ¬(m:Int)=0:=by omega
     have a1:IntKind.u64.wrap (4*(m:Int))=4*(m:Int):=IntWalk.u64_in _ (by omega)
     have a2:IntKind.u64.wrap (4*(m:Int)-2)=4*(m:Int)-2:=IntWalk.u64_in _ (by omega)
     have a3:IntKind.u64.wrap (4*(m:Int)+2)=4*(m:Int)+2:=IntWalk.u64_in _ (by omega)
     have a4:IntKind.u64.wrap (4*(m:Int)-1)=4*(m:Int)-1:=IntWalk.u64_in _ (by omega)
     clear hx h0;have hlw:lw=false:=by
      rw [hlow.out];have: ¬(-1022:Int)<ex:=by omega
      simp [this]
     have tq:((m:Int)==4503599627370496)=false:=by simp only [beq_eq_false_iff_ne];omega
     have tq2: ¬(m:Int)=4503599627370496:=by omega
     have A1:Hid (∀W,Fr [] wr W→Calls Tryz.prog 78 #[.slice ao nn c,.int .i64 X,.int .u64 (4*(m:Int)-2),.int .i64 (-1076)] W fun e w'=> ∃c1,e= .returned (.int .i64 c1)∧c1=cmpN (agx (dvB D) X (ex-54)) (agy (lowN m lw) X (ex-54))∧Fr [] W w'):=Hz (fun W hf=>by
      rw [show (4*(m:Int)-2:Int)=((4*m-2:Nat):Int) by omega]
      refine (againstX (hR.out.fr hf) (by omega) X (-1076) (by omega) (by omega) (by omega) (by omega) (4*m-2) (by omega)).mono ?_
      rintro e w' ⟨rfl,h⟩;exact ⟨_,rfl,by rw [hE,hlw];rfl,h⟩)
     have A2:Hid (∀W,Fr [] wr W→Calls Tryz.prog 78 #[.slice ao nn c,.int .i64 X,.int .u64 (4*(m:Int)+2),.int .i64 (-1076)] W fun e w'=> ∃c1,e= .returned (.int .i64 c1)∧c1=cmpN (agx (dvB D) X (ex-54)) (agy (4*m+2) X (ex-54))∧Fr [] W w'):=Hz (fun W hf=>by
      rw [show (4*(m:Int)+2:Int)=((4*m+2:Nat):Int) by omega]
      refine (againstX (hR.out.fr hf) (by omega) X (-1076) (by omega) (by omega) (by omega) (by omega) (4*m+2) (by omega)).mono ?_
      rintro e w' ⟨rfl,h⟩;exact ⟨_,rfl,by rw [hE],h⟩)
     clear hmt hex hE hlw hX1 hX2 hD;go_wp2_with fail
     refine (A1.out _ (Fr.refl _ _)).mono ?_
     rintro e wa ⟨c1,rfl,hc1,hfa⟩;replace hc1:=Hz hc1;go_wp2_with fail
     refine (A2.out _ hfa).mono ?_
     rintro e wb ⟨c2,rfl,hc2,hfb⟩;have hC:=hm2.out hmp c1 c2 hc1.out hc2;have hFE:=(hF.out.trans hfa).trans hfb;clear hc1 hc2 hR hfa hfb A1 A2;rcases hC with ⟨p1,p2⟩|⟨p0,p1|p2⟩
     ·go_wp2;go_ret
      exact ⟨rfl,hFE⟩
     ·subst p1;have r1:(m:Int)%2=0:=by omega
      have r2:((m:Int)%2==0)=true:=by simp [r1]
      go_wp2;go_ret
      exact ⟨rfl,hFE⟩
     ·subst p2;have r1:(m:Int)%2=0:=by omega
      have r2:((m:Int)%2==0)=true:=by simp [r1]
      by_cases q1:0<c1
      ·have q3:(c1==0)=false:=by simp;omega
       have q4: ¬c1=0:=by omega
       go_wp2;go_ret
       exact ⟨rfl,hFE⟩
      ·by_cases q2:c1=0
       ·subst q2;go_wp2;go_ret
        exact ⟨rfl,hFE⟩
       ·have q3:(c1==0)=false:=by simpa using q2
        go_wp2;go_ret
        exact ⟨rfl,hFE⟩
   ·have hjn:j<n:=by omega
    have hjl:j<D.length:=by rw [hn.out];exact hjn
    have g0:=hx.out j hjn;have hb48:=hdg.out D[j] (List.getElem_mem hjl);have e48:bt' D j=D[j].toNat:=by
     unfold bt';rw [List.getD_eq_getElem?_getD,List.getElem?_eq_getElem hjl]
     rfl
    obtain ⟨dgv,hdv⟩: ∃v,bt' D j=v+48:=⟨bt' D j-48,by omega⟩
    have hdl:dgv<10:=by omega
    have hV:dvB (D.take (j+1))=dvB (D.take j)*10+dgv:=by
     rw [take_snoc'' D j hjl,dv_snocB,←e48,hdv]
     rfl
    rw [hdv] at g0;have l1:(j:Int)<(n:Int):=by omega
    have u1:IntKind.u8.wrap (((dgv+48:Nat):Int)-48)=(dgv:Int):=by
     rw [show ((dgv+48:Nat):Int)-48=(dgv:Int) by omega]
     show (dgv:Int)%256=_
     omega
    have u1b:IntKind.u8.wrap ((dgv:Int)+48-48)=(dgv:Int):=by
     rw [show (dgv:Int)+48-48=(dgv:Int) by omega]
     show (dgv:Int)%256=_
     omega
    have u2:IntKind.i64.wrap (dgv:Int)=(dgv:Int):=IntWalk.i64_in _ (by omega)
    have u3:IntKind.i64.wrap ((j:Int)+1)=(j:Int)+1:=IntWalk.i64_in _ (by omega)
    have KT:Hid (∀W,Fr [] wr W→Calls Tryz.prog 76 #[.slice ao nn c,.int .i64 10,.int .i64 (dgv:Int)] W fun e w'=> ∃ao n c,e= .returned (.slice ao n c)∧NumR w' (.slice ao n c) (1+j+1) (dvB (D.take j)*10+dgv)∧Fr [] W w'):=Hz (fun W hf=>timesD (hR.out.fr hf) (by omega) dgv (by omega))
    clear hm2 h0 hmt hex hb48 e48 hdv;go_wp2_with fail
    refine (KT.out _ (Fr.refl _ _)).mono ?_
    rintro e wt ⟨ao',nn',c',rfl,hR',hft⟩;rw [←hV] at hR';replace hR':=Hz hR';have hF':=Hz (hF.out.trans hft);go_wp2
    go_roundg (gk-1)
    case measure=>omega
    case rel=>exact ⟨ao',nn',c',j+1,rfl,by first|rfl|go_num,by omega,hR',hF'⟩
 ·rw [if_neg hz] at hmt hex;rw [←hmt] at hor;have hm53:m<9007199254740992:=by omega
  have hmlo:4503599627370496≤m:=by omega
  replace hmt:=Hz hmt;have tz:((e0:Int)==0)=false:=by simp only [beq_eq_false_iff_ne];omega
  have tz2: ¬(e0:Int)=0:=by omega
  have hF4:Hid (Fr [] w (w3.alloc (.cells #[.int .u8 0] 5))):=Hz (hF3.alloc _);have hD4:Hid (NumR (w3.alloc (.cells #[.int .u8 0] 5)) (.slice (some ⟨w3.heap.size,0,none⟩) 1 1) 1 0):=Hz (row_zero w3);go_wp2_with fail
  go_loopg [11,12] n (fun k v11 v12 wr=> ∃(ao:Option Addr) (nn c j:Nat),v11= .slice ao nn c∧v12= .int .i64 (j:Int)∧j+k=n∧Hid (NumR wr (.slice ao nn c) (1+j) (dvB (D.take j)))∧Hid (Fr [] w wr))
  case atStart=>exact ⟨some ⟨w3.heap.size,0,none⟩,1,1,0,rfl,by first|rfl|go_num,by omega,hD4,hF4⟩
  case round=>
   clear hD4 hF4;obtain ⟨ao,nn,c,j,rfl,rfl,hj,hR,hF⟩:=hrel;by_cases hk0:gk=0
   ·subst hk0;obtain rfl:j=n:=by omega
    clear hj;have hT:D.take j=D:=by rw [←hn.out,List.take_length]
    rw [hT] at hR;clear hT;by_cases hm0:m=0
    ·omega
    ·have hmp:0<m:=by omega
     have hE:ex-54=(e0:Int)-1077:=by omega
     have tm:((m:Int)==0)=false:=by simp only [beq_eq_false_iff_ne];omega
     have tm2: ¬(m:Int)=0:=by omega
     have a1:IntKind.u64.wrap (4*(m:Int))=4*(m:Int):=IntWalk.u64_in _ (by omega)
     have a2:IntKind.u64.wrap (4*(m:Int)-2)=4*(m:Int)-2:=IntWalk.u64_in _ (by omega)
     have a3:IntKind.u64.wrap (4*(m:Int)+2)=4*(m:Int)+2:=IntWalk.u64_in _ (by omega)
     have a4:IntKind.u64.wrap (4*(m:Int)-1)=4*(m:Int)-1:=IntWalk.u64_in _ (by omega)
     clear hx h0;by_cases hq:m=4503599627370496
     ·have tq:((m:Int)==4503599627370496)=true:=by simp only [beq_iff_eq];omega
      by_cases h1e:1<e0
      ·have te:(1:Int)<(e0:Int):=by omega
       have hlw:lw=true:=by
        rw [hlow.out];have:(-1022:Int)<ex:=by omega
        simp [this,hq]
       replace hq:=Hz hq;have A1:Hid (∀W,Fr [] wr W→Calls Tryz.prog 78 #[.slice ao nn c,.int .i64 X,.int .u64 (4*(m:Int)-1),.int .i64 ((e0:Int)-1077)] W fun e w'=> ∃c1,e= .returned (.int .i64 c1)∧c1=cmpN (agx (dvB D) X (ex-54)) (agy (lowN m lw) X (ex-54))∧Fr [] W w'):=Hz (fun W hf=>by
        rw [show (4*(m:Int)-1:Int)=((4*m-1:Nat):Int) by omega]
        refine (againstX (hR.out.fr hf) (by omega) X ((e0:Int)-1077) (by omega) (by omega) (by omega) (by omega) (4*m-1) (by omega)).mono ?_
        rintro e w' ⟨rfl,h⟩;exact ⟨_,rfl,by rw [hE,hlw];rfl,h⟩)
       have A2:Hid (∀W,Fr [] wr W→Calls Tryz.prog 78 #[.slice ao nn c,.int .i64 X,.int .u64 (4*(m:Int)+2),.int .i64 ((e0:Int)-1077)] W fun e w'=> ∃c1,e= .returned (.int .i64 c1)∧c1=cmpN (agx (dvB D) X (ex-54)) (agy (4*m+2) X (ex-54))∧Fr [] W w'):=Hz (fun W hf=>by
        rw [show (4*(m:Int)+2:Int)=((4*m+2:Nat):Int) by omega]
        refine (againstX (hR.out.fr hf) (by omega) X ((e0:Int)-1077) (by omega) (by omega) (by omega) (by omega) (4*m+2) (by omega)).mono ?_
        rintro e w' ⟨rfl,h⟩;exact ⟨_,rfl,by rw [hE],h⟩)
       clear hmt hex hE hlw hX1 hX2 hD;go_wp2_with fail
       refine (A1.out _ (Fr.refl _ _)).mono ?_
       rintro e wa ⟨c1,rfl,hc1,hfa⟩;replace hc1:=Hz hc1;go_wp2_with fail
       refine (A2.out _ hfa).mono ?_
       rintro e wb ⟨c2,rfl,hc2,hfb⟩;have hC:=hm2.out hmp c1 c2 hc1.out hc2;have hFE:=(hF.out.trans hfa).trans hfb;clear hc1 hc2 hR hfa hfb A1 A2;rcases hC with ⟨p1,p2⟩|⟨p0,p1|p2⟩
       ·go_wp2;go_ret
        exact ⟨rfl,hFE⟩
       ·subst p1;have r1:(m:Int)%2=0:=by omega
        have r2:((m:Int)%2==0)=true:=by simp [r1]
        go_wp2;go_ret
        exact ⟨rfl,hFE⟩
       ·subst p2;have r1:(m:Int)%2=0:=by omega
        have r2:((m:Int)%2==0)=true:=by simp [r1]
        by_cases q1:0<c1
        ·have q3:(c1==0)=false:=by simp;omega
         have q4: ¬c1=0:=by omega
         go_wp2;go_ret
         exact ⟨rfl,hFE⟩
        ·by_cases q2:c1=0
         ·subst q2;go_wp2;go_ret
          exact ⟨rfl,hFE⟩
         ·have q3:(c1==0)=false:=by simpa using q2
          go_wp2;go_ret
          exact ⟨rfl,hFE⟩
      ·have te: ¬(1:Int)<(e0:Int):=by omega
       have hlw:lw=false:=by
        rw [hlow.out];have: ¬(-1022:Int)<ex:=by omega
        simp [this]
       replace hq:=Hz hq;have A1:Hid (∀W,Fr [] wr W→Calls Tryz.prog 78 #[.slice ao nn c,.int .i64 X,.int .u64 (4*(m:Int)-2),.int .i64 ((e0:Int)-1077)] W fun e w'=> ∃c1,e= .returned (.int .i64 c1)∧c1=cmpN (agx (dvB D) X (ex-54)) (agy (lowN m lw) X (ex-54))∧Fr [] W w'):=Hz (fun W hf=>by
        rw [show (4*(m:Int)-2:Int)=((4*m-2:Nat):Int) by omega]
        refine (againstX (hR.out.fr hf) (by omega) X ((e0:Int)-1077) (by omega) (by omega) (by omega) (by omega) (4*m-2) (by omega)).mono ?_
        rintro e w' ⟨rfl,h⟩;exact ⟨_,rfl,by rw [hE,hlw];rfl,h⟩)
       have A2:Hid (∀W,Fr [] wr W→Calls Tryz.prog 78 #[.slice ao nn c,.int .i64 X,.int .u64 (4*(m:Int)+2),.int .i64 ((e0:Int)-1077)] W fun e w'=> ∃c1,e= .returned (.int .i64 c1)∧c1=cmpN (agx (dvB D) X (ex-54)) (agy (4*m+2) X (ex-54))∧Fr [] W w'):=Hz (fun W hf=>by
        rw [show (4*(m:Int)+2:Int)=((4*m+2:Nat):Int) by omega]
        refine (againstX (hR.out.fr hf) (by omega) X ((e0:Int)-1077) (by omega) (by omega) (by omega) (by omega) (4*m+2) (by omega)).mono ?_
        rintro e w' ⟨rfl,h⟩;exact ⟨_,rfl,by rw [hE],h⟩)
       clear hmt hex hE hlw hX1 hX2 hD;go_wp2_with fail
       refine (A1.out _ (Fr.refl _ _)).mono ?_
       rintro e wa ⟨c1,rfl,hc1,hfa⟩;replace hc1:=Hz hc1;go_wp2_with fail
       refine (A2.out _ hfa).mono ?_
       rintro e wb ⟨c2,rfl,hc2,hfb⟩;have hC:=hm2.out hmp c1 c2 hc1.out hc2;have hFE:=(hF.out.trans hfa).trans hfb;clear hc1 hc2 hR hfa hfb A1 A2;rcases hC with ⟨p1,p2⟩|⟨p0,p1|p2⟩
       ·go_wp2;go_ret
        exact ⟨rfl,hFE⟩
       ·subst p1;have r1:(m:Int)%2=0:=by omega
        have r2:((m:Int)%2==0)=true:=by simp [r1]
        go_wp2;go_ret
        exact ⟨rfl,hFE⟩
       ·subst p2;have r1:(m:Int)%2=0:=by omega
        have r2:((m:Int)%2==0)=true:=by simp [r1]
        by_cases q1:0<c1
        ·have q3:(c1==0)=false:=by simp;omega
         have q4: ¬c1=0:=by omega
         go_wp2;go_ret
         exact ⟨rfl,hFE⟩
        ·by_cases q2:c1=0
         ·subst q2;go_wp2;go_ret
          exact ⟨rfl,hFE⟩
         ·have q3:(c1==0)=false:=by simpa using q2
          go_wp2;go_ret
          exact ⟨rfl,hFE⟩
     ·have tq:((m:Int)==4503599627370496)=false:=by simp only [beq_eq_false_iff_ne];omega
      have tq2: ¬(m:Int)=4503599627370496:=by omega
      have hlw:lw=false:=by
       rw [hlow.out];simp [hq]
      have A1:Hid (∀W,Fr [] wr W→Calls Tryz.prog 78 #[.slice ao nn c,.int .i64 X,.int .u64 (4*(m:Int)-2),.int .i64 ((e0:Int)-1077)] W fun e w'=> ∃c1,e= .returned (.int .i64 c1)∧c1=cmpN (agx (dvB D) X (ex-54)) (agy (lowN m lw) X (ex-54))∧Fr [] W w'):=Hz (fun W hf=>by
       rw [show (4*(m:Int)-2:Int)=((4*m-2:Nat):Int) by omega]
       refine (againstX (hR.out.fr hf) (by omega) X ((e0:Int)-1077) (by omega) (by omega) (by omega) (by omega) (4*m-2) (by omega)).mono ?_
       rintro e w' ⟨rfl,h⟩;exact ⟨_,rfl,by rw [hE,hlw];rfl,h⟩)
      have A2:Hid (∀W,Fr [] wr W→Calls Tryz.prog 78 #[.slice ao nn c,.int .i64 X,.int .u64 (4*(m:Int)+2),.int .i64 ((e0:Int)-1077)] W fun e w'=> ∃c1,e= .returned (.int .i64 c1)∧c1=cmpN (agx (dvB D) X (ex-54)) (agy (4*m+2) X (ex-54))∧Fr [] W w'):=Hz (fun W hf=>by
       rw [show (4*(m:Int)+2:Int)=((4*m+2:Nat):Int) by omega]
       refine (againstX (hR.out.fr hf) (by omega) X ((e0:Int)-1077) (by omega) (by omega) (by omega) (by omega) (4*m+2) (by omega)).mono ?_
       rintro e w' ⟨rfl,h⟩;exact ⟨_,rfl,by rw [hE],h⟩)
      clear hmt hex hE hlw hX1 hX2 hD;go_wp2_with fail
      refine (A1.out _ (Fr.refl _ _)).mono ?_
      rintro e wa ⟨c1,rfl,hc1,hfa⟩;replace hc1:=Hz hc1;go_wp2_with fail
      refine (A2.out _ hfa).mono ?_
      rintro e wb ⟨c2,rfl,hc2,hfb⟩;have hC:=hm2.out hmp c1 c2 hc1.out hc2;have hFE:=(hF.out.trans hfa).trans hfb;clear hc1 hc2 hR hfa hfb A1 A2;rcases hC with ⟨p1,p2⟩|⟨p0,p1|p2⟩
      ·go_wp2;go_ret
       exact ⟨rfl,hFE⟩
      ·subst p1;have r1:(m:Int)%2=0:=by omega
       have r2:((m:Int)%2==0)=true:=by simp [r1]
       go_wp2;go_ret
       exact ⟨rfl,hFE⟩
      ·subst p2;have r1:(m:Int)%2=0:=by omega
       have r2:((m:Int)%2==0)=true:=by simp [r1]
       by_cases q1:0<c1
       ·have q3:(c1==0)=false:=by simp;omega
        have q4: ¬c1=0:=by omega
        go_wp2;go_ret
        exact ⟨rfl,hFE⟩
       ·by_cases q2:c1=0
        ·subst q2;go_wp2;go_ret
         exact ⟨rfl,hFE⟩
        ·have q3:(c1==0)=false:=by simpa using q2
         go_wp2;go_ret
         exact ⟨rfl,hFE⟩
   ·have hjn:j<n:=by omega
    have hjl:j<D.length:=by rw [hn.out];exact hjn
    have g0:=hx.out j hjn;have hb48:=hdg.out D[j] (List.getElem_mem hjl);have e48:bt' D j=D[j].toNat:=by
     unfold bt';rw [List.getD_eq_getElem?_getD,List.getElem?_eq_getElem hjl]
     rfl
    obtain ⟨dgv,hdv⟩: ∃v,bt' D j=v+48:=⟨bt' D j-48,by omega⟩
    have hdl:dgv<10:=by omega
    have hV:dvB (D.take (j+1))=dvB (D.take j)*10+dgv:=by
     rw [take_snoc'' D j hjl,dv_snocB,←e48,hdv]
     rfl
    rw [hdv] at g0;have l1:(j:Int)<(n:Int):=by omega
    have u1:IntKind.u8.wrap (((dgv+48:Nat):Int)-48)=(dgv:Int):=by
     rw [show ((dgv+48:Nat):Int)-48=(dgv:Int) by omega]
     show (dgv:Int)%256=_
     omega
    have u1b:IntKind.u8.wrap ((dgv:Int)+48-48)=(dgv:Int):=by
     rw [show (dgv:Int)+48-48=(dgv:Int) by omega]
     show (dgv:Int)%256=_
     omega
    have u2:IntKind.i64.wrap (dgv:Int)=(dgv:Int):=IntWalk.i64_in _ (by omega)
    have u3:IntKind.i64.wrap ((j:Int)+1)=(j:Int)+1:=IntWalk.i64_in _ (by omega)
    have KT:Hid (∀W,Fr [] wr W→Calls Tryz.prog 76 #[.slice ao nn c,.int .i64 10,.int .i64 (dgv:Int)] W fun e w'=> ∃ao n c,e= .returned (.slice ao n c)∧NumR w' (.slice ao n c) (1+j+1) (dvB (D.take j)*10+dgv)∧Fr [] W w'):=Hz (fun W hf=>timesD (hR.out.fr hf) (by omega) dgv (by omega))
    clear hm2 h0 hmt hex hb48 e48 hdv;go_wp2_with fail
    refine (KT.out _ (Fr.refl _ _)).mono ?_
    rintro e wt ⟨ao',nn',c',rfl,hR',hft⟩;rw [←hV] at hR';replace hR':=Hz hR';have hF':=Hz (hF.out.trans hft);go_wp2
    go_roundg (gk-1)
    case measure=>omega
    case rel=>exact ⟨ao',nn',c',j+1,rfl,by first|rfl|go_num,by omega,hR',hF'⟩
end
section
set_option exponentiation.threshold 3000
open Go.RowKit
def CC:Nat:=4000000
def sumR:List R→Nat
 |[]=>0
 |r::l=>r.1.length+2+sumR l
theorem thenR_len (a b:R):(thenR a b).1.length≤a.1.length+b.1.length:=by
 obtain ⟨s,q⟩:=a;cases q<;>simp [thenR]
theorem txt_len (s:List UInt8):(txt s).1.length=s.length:=rfl
theorem arrR_len (c:List UInt8): ∀(l:List R) (i:Nat),(arrR c i l).1.length≤c.length+sumR l
 |[],i=>by rw [arrR,txt_len];omega
 |r::l,i=>by
  have h1:=arrR_len c l (i+1);have h2:=thenR_len (txt (if i=0 then [] else [44,32])) (thenR r (arrR c (i+1) l))
  have h3:=thenR_len r (arrR c (i+1) l);have h4:(txt (if i=0 then [] else [44,32])).1.length≤2:=by rw [txt_len];split<;>simp
  rw [arrR,sumR];omega
theorem mapR_len (c:List UInt8): ∀(l:List R) (i:Nat),(mapR c i (pairs l)).1.length≤c.length+sumR l
 |[],i=>by show (mapR c i []).1.length≤_;rw [mapR,txt_len];omega
 |[a],i=>by show (mapR c i []).1.length≤_;rw [mapR,txt_len];omega
 |a::b::l,i=>by
  have h1:=mapR_len c l (i+1);rw [pairs,mapR,sumR,sumR];have h2:=thenR_len (txt (if i=0 then [] else [44,32])) (thenR a (thenR (txt [58,32]) (thenR b (mapR c (i+1) (pairs l)))))
  have h3:=thenR_len a (thenR (txt [58,32]) (thenR b (mapR c (i+1) (pairs l))));have h4:=thenR_len (txt [58,32]) (thenR b (mapR c (i+1) (pairs l)));have h5:=thenR_len b (mapR c (i+1) (pairs l));have h6:(txt (if i=0 then [] else [44,32])).1.length≤2:=by rw [txt_len];split<;>simp
  have h7:(txt [58,32]).1.length=2:=rfl;omega
theorem hd_ai {xs:List UInt8} {off m ai v o:Nat} (h:hd xs off= .ok (m,ai,v,o)) (h1:24≤ai) (h2:ai<28):v<256^2^(ai-24):=by
 unfold hd at h
 split at h
 ·cases h
 ·rename_i b e
  split at h
  ·cases h;omega
  ·split at h
   ·split at h
    ·cases h
    ·split at h
     ·cases h
     ·cases h
      have:=be_lt ((xs.drop (off+1)).take (2^(b.toNat%32-24)));refine Nat.lt_of_lt_of_le this (Nat.pow_le_pow_right (by decide) ?_)
      rw [List.length_take];omega
   ·split at h
    ·split at h
     ·cases h
     ·cases h;omega
    ·cases h
theorem hd_fl {xs:List UInt8} {off m ai v o:Nat} (h:hd xs off= .ok (m,ai,v,o)) (ha:ai=25∨ai=26∨ai=27):v<if ai=25 then 65536 else if ai=26 then 4294967296 else 18446744073709551616:=by
 have:=hd_ai h (by omega) (by omega)
 rcases ha with rfl|rfl|rfl
 ·exact this
 ·exact this
 ·exact this
structure NLen (N:Nt):Prop where
 tx: ∀b,(N.tx b).1.length+2≤CC*(b.length+1)
 fl: ∀ai v,(ai=25∨ai=26∨ai=27)→(v<if ai=25 then 65536 else if ai=26 then 4294967296 else 18446744073709551616)→(N.fl ai v).length+2≤CC
 big: ∀xs n t off o,Enc xs t off o→(N.big n t).1.length+2≤CC*(o-off)
theorem dec20 {n:Nat} (h:n<18446744073709551616):(dec n).length≤20:=dec_length n 20 (by omega) (by omega)
mutual
theorem note_len {xs:List UInt8} {N:Nt} (hN:NLen N): ∀(t:Tr) (off o:Nat),Enc xs t off o→AllS (fun b=>(N.by_ b).length+2≤CC*(b.length+1)) t→(note N t).1.length+2≤CC*(o-off)
 | .int false n,off,o,h,hs=>by
  rw [Enc] at h;obtain ⟨ai,h⟩:=h;have h1:=(hd_off h).1;have h2:=dec20 (hd_val h).1;have h3:CC*1≤CC*(o-off):=Nat.mul_le_mul_left _ (by omega)
  unfold CC at *
  rw [note,txt_len];omega
 | .int true n,off,o,h,hs=>by
  rw [Enc] at h;obtain ⟨ai,h⟩:=h;have h1:=(hd_off h).1;have h2:=(hd_val h).1;have h4:=dec_length (n+1) 20 (by omega) (by omega)
  have h3:CC*1≤CC*(o-off):=Nat.mul_le_mul_left _ (by omega)
  unfold CC at *
  rw [note,txt_len,List.length_cons];omega
 | .str false b,off,o,h,hs=>by
  rw [AllS] at hs;rw [Enc] at h;obtain ⟨ai,v,o1,h,_,hv,_,rfl,hb⟩:=h;have hl:b.length=v:=by rw [hb];simp;omega
  have h1:=(hd_off h).1;have h3:CC*(b.length+1)≤CC*(o1+v-off):=Nat.mul_le_mul_left _ (by omega)
  rw [note,txt_len];omega
 | .str true b,off,o,h,hs=>by
  rw [Enc] at h;obtain ⟨ai,v,o1,h,_,hv,_,rfl,hb⟩:=h;have hl:b.length=v:=by rw [hb];simp;omega
  have h1:=(hd_off h).1;have h3:CC*(b.length+1)≤CC*(o1+v-off):=Nat.mul_le_mul_left _ (by omega)
  have:=hN.tx b;rw [note];omega
 | .chk tx [],off,o,h,hs=>by
  rw [Enc] at h;obtain ⟨v,o1,h,hc⟩:=h;have h1:=(hd_off h).1;have h2:=chunks_off tx [] _ _ hc;have h3:CC*1≤CC*(o-off):=Nat.mul_le_mul_left _ (by simp at h2;omega)
  unfold CC at *
  rw [note,txt_len]
  split<;>(simp;omega)
 | .chk tx (t::l),off,o,h,hs=>by
  rw [Enc] at h;obtain ⟨v,o1,h,hc⟩:=h;have h1:=(hd_off h).1;rw [AllS] at hs;have h4:=chunks_len hN tx (t::l) _ _ hc hs;rw [notes] at h4;have h2:=chunks_off tx (t::l) _ _ hc;have h5:=thenR_len (txt [40,95,32]) (arrR [41] 0 (note N t::notes N l));have h6:=arrR_len [41] (note N t::notes N l) 0;have h7:(txt [40,95,32]).1.length=3:=rfl;have h8:([41]:List UInt8).length=1:=rfl;have h9:CC*(o-o1)+CC*1≤CC*(o-off):=by rw [←Nat.mul_add];exact Nat.mul_le_mul_left _ (by omega)
  unfold CC at *
  rw [note];omega
 | .arr false l,off,o,h,hs=>by
  rw [Enc] at h;obtain ⟨ai,o1,h,h31,hc⟩:=h;have h1:=(hd_off h).1;rw [AllS] at hs;have h4:=encs_len hN l _ _ hc (hd_val h).2 hs;have h2:=encs_off l _ _ hc (hd_val h).2;have h5:=thenR_len (txt (if false=true then [91,95,32] else [91])) (arrR [93] 0 (notes N l))
  have h6:=arrR_len [93] (notes N l) 0;have h7:(txt (if false=true then [91,95,32] else [91])).1.length=1:=rfl
  have h8:([93]:List UInt8).length=1:=rfl;have h9:CC*(o-o1)+CC*1≤CC*(o-off):=by rw [←Nat.mul_add];exact Nat.mul_le_mul_left _ (by omega)
  unfold CC at *
  rw [note];omega
 | .arr true l,off,o,h,hs=>by
  rw [Enc] at h;obtain ⟨v,o1,h,hc⟩:=h;have h1:=(hd_off h).1;rw [AllS] at hs;have h4:=opens_len hN l _ _ hc hs;have h2:=opens_off l _ _ hc;have h5:=thenR_len (txt (if true=true then [91,95,32] else [91])) (arrR [93] 0 (notes N l))
  have h6:=arrR_len [93] (notes N l) 0;have h7:(txt (if true=true then [91,95,32] else [91])).1.length=3:=rfl
  have h8:([93]:List UInt8).length=1:=rfl;have h9:CC*(o-o1)+CC*1≤CC*(o-off):=by rw [←Nat.mul_add];exact Nat.mul_le_mul_left _ (by omega)
  unfold CC at *
  rw [note];omega
 | .map false l,off,o,h,hs=>by
  rw [Enc] at h;obtain ⟨ai,v,o1,h,h31,hv,hc⟩:=h;have h1:=(hd_off h).1;rw [AllS] at hs;have h4:=encs_len hN l _ _ hc (hd_val h).2 hs;have h2:=encs_off l _ _ hc (hd_val h).2;have h5:=thenR_len (txt (if false=true then [123,95,32] else [123])) (mapR [125] 0 (pairs (notes N l)))
  have h6:=mapR_len [125] (notes N l) 0;have h7:(txt (if false=true then [123,95,32] else [123])).1.length=1:=rfl
  have h8:([125]:List UInt8).length=1:=rfl;have h9:CC*(o-o1)+CC*1≤CC*(o-off):=by rw [←Nat.mul_add];exact Nat.mul_le_mul_left _ (by omega)
  unfold CC at *
  rw [note];omega
 | .map true l,off,o,h,hs=>by
  rw [Enc] at h;obtain ⟨v,o1,h,h2l,hc⟩:=h;have h1:=(hd_off h).1;rw [AllS] at hs;have h4:=opens_len hN l _ _ hc hs;have h2:=opens_off l _ _ hc;have h5:=thenR_len (txt (if true=true then [123,95,32] else [123])) (mapR [125] 0 (pairs (notes N l)))
  have h6:=mapR_len [125] (notes N l) 0;have h7:(txt (if true=true then [123,95,32] else [123])).1.length=3:=rfl
  have h8:([125]:List UInt8).length=1:=rfl;have h9:CC*(o-o1)+CC*1≤CC*(o-off):=by rw [←Nat.mul_add];exact Nat.mul_le_mul_left _ (by omega)
  unfold CC at *
  rw [note];omega
 | .tag n t,off,o,h,hs=>by
  rw [Enc] at h;obtain ⟨ai,o1,h,hc⟩:=h;have h1:=(hd_off h).1;rw [AllS] at hs;have h2:=enc_off t _ _ hc;have h9:CC*(o-o1)+CC*1≤CC*(o-off):=by rw [←Nat.mul_add];exact Nat.mul_le_mul_left _ (by omega)
  rw [note]
  split
  ·have:=hN.big xs n t o1 o hc;omega
  ·have h4:=note_len hN t _ _ hc hs;have h3:=dec20 (hd_val h).1;have h5:=thenR_len (txt (dec n)) (thenR (txt [40]) (thenR (note N t) (txt [41])));have h6:=thenR_len (txt [40]) (thenR (note N t) (txt [41]));have h7:=thenR_len (note N t) (txt [41]);have h8:(txt [40]).1.length=1:=rfl;have h10:(txt [41]).1.length=1:=rfl;rw [txt_len] at h5;unfold CC at *
   omega
 | .prim ai v,off,o,h,hs=>by
  rw [Enc] at h;have h1:=(hd_off h).1;have h3:=dec20 (hd_val h).1;have h9:CC*1≤CC*(o-off):=Nat.mul_le_mul_left _ (by omega)
  rw [note];unfold primT
  split
  ·rw [txt_len];unfold CC at *;simp;omega
  ·split
   ·rw [txt_len];unfold CC at *;simp;omega
   ·split
    ·rw [txt_len];unfold CC at *;simp;omega
    ·split
     ·rw [txt_len];unfold CC at *;simp;omega
     ·split
      ·rename_i ha;have:=hN.fl ai v ha (hd_fl h ha);rw [txt_len];omega
      ·have h5:=thenR_len (txt [115,105,109,112,108,101,40]) (thenR (txt (dec v)) (txt [41]));have h6:=thenR_len (txt (dec v)) (txt [41]);have h7:(txt [115,105,109,112,108,101,40]).1.length=7:=rfl;have h8:(txt [41]).1.length=1:=rfl;rw [txt_len] at h6;unfold CC at *
       omega
theorem encs_len {xs:List UInt8} {N:Nt} (hN:NLen N): ∀(l:List Tr) (off o:Nat),Encs xs l off o→off≤xs.length→AllSs (fun b=>(N.by_ b).length+2≤CC*(b.length+1)) l→sumR (notes N l)≤CC*(o-off)
 |[],off,o,h,_,hs=>by rw [notes,sumR];omega
 |t::l,off,o,h,hx,hs=>by
  rw [Encs] at h;rw [AllSs] at hs;obtain ⟨mid,h1,h2⟩:=h;have e1:=enc_off t _ _ h1;have e2:=encs_off l _ _ h2 e1.2;have g1:=note_len hN t _ _ h1 hs.1;have g2:=encs_len hN l _ _ h2 e1.2 hs.2;have h9:CC*(mid-off)+CC*(o-mid)=CC*(o-off):=by rw [←Nat.mul_add];congr 1;omega
  rw [notes,sumR];omega
theorem opens_len {xs:List UInt8} {N:Nt} (hN:NLen N): ∀(l:List Tr) (off o:Nat),Opens xs l off o→AllSs (fun b=>(N.by_ b).length+2≤CC*(b.length+1)) l→sumR (notes N l)≤CC*(o-off)
 |[],off,o,h,hs=>by rw [notes,sumR];omega
 |t::l,off,o,h,hs=>by
  rw [Opens] at h;rw [AllSs] at hs;obtain ⟨b,mid,_,_,h1,h2⟩:=h;have e1:=enc_off t _ _ h1;have e2:=opens_off l _ _ h2;have g1:=note_len hN t _ _ h1 hs.1;have g2:=opens_len hN l _ _ h2 hs.2;have h9:CC*(mid-off)+CC*(o-mid)=CC*(o-off):=by rw [←Nat.mul_add];congr 1;omega
  rw [notes,sumR];omega
theorem chunks_len {xs:List UInt8} {N:Nt} (hN:NLen N) (tx:Bool): ∀(l:List Tr) (off o:Nat),Chunks xs tx l off o→AllSs (fun b=>(N.by_ b).length+2≤CC*(b.length+1)) l→sumR (notes N l)≤CC*(o-off)
 |[],off,o,h,hs=>by rw [notes,sumR];omega
 |t::l,off,o,h,hs=>by
  rw [Chunks] at h;rw [AllSs] at hs;obtain ⟨b,mid,_,_,_,h1,h2⟩:=h;have e1:=enc_off t _ _ h1;have e2:=chunks_off tx l _ _ h2;have g1:=note_len hN t _ _ h1 hs.1;have g2:=chunks_len hN tx l _ _ h2 hs.2;have h9:CC*(mid-off)+CC*(o-mid)=CC*(o-off):=by rw [←Nat.mul_add];congr 1;omega
  rw [notes,sumR];omega
end
theorem dec_be (b:List UInt8):(dec (be b)).length≤3*b.length+1∧(dec (be b+1)).length≤3*b.length+1:=by
 have h:=be_lt b;have h2:256^b.length≤10^(3*b.length):=by
  rw [Nat.pow_mul];exact Nat.pow_le_pow_left (by decide) _
 have h3:(10:Nat)^(3*b.length)<10^(3*b.length+1):=Nat.pow_lt_pow_right (by decide) (by omega)
 exact ⟨dec_length _ _ (by omega) (by omega),dec_length _ _ (by omega) (by omega)⟩
theorem bigN_len (n:Nat) (b:List UInt8):(bigN n b).length≤3*b.length+2:=by
 have:=dec_be b;unfold bigN
 split
 ·omega
 ·rw [List.length_cons];omega
theorem catS_len {xs:List UInt8} (tx:Bool): ∀(l:List Tr) (off o:Nat),Chunks xs tx l off o→(catS l).length≤o-off
 |[],off,o,h=>by simp [catS]
 |t::l,off,o,h=>by
  rw [Chunks] at h;obtain ⟨b,mid,_,_,⟨s,rfl⟩,h1,h2⟩:=h;have g2:=catS_len tx l _ _ h2;have e2:=chunks_off tx l _ _ h2;rw [Enc] at h1;obtain ⟨ai,v,o1,h,_,hv,_,rfl,hb⟩:=h1;have hl:s.length=v:=by rw [hb];simp;omega
  have h1:=(hd_off h).1;rw [catS,List.length_append];omega
theorem noteB_len (enc:Nat) (sp:Bool) (b:List UInt8):(noteB enc sp b).length≤8*b.length+5:=by
 have h5:=baseB_length 5 (by decide) b32D b
 have h5':=baseB_length 5 (by decide) h32D b
 have h6:=baseB_length 6 (by decide) b64D b
 have h4:=hexB_length hexD b;have h3:=spaced_length hexD b 0;unfold noteB
 split
 ·simp;omega
 ·split
  ·simp;omega
  ·split
   ·simp;omega
   ·split<;>(simp;omega)
theorem fT_len (pr:Bool) (ai v:Nat) (ha:ai=25∨ai=26∨ai=27) (hv:v<if ai=25 then 65536 else if ai=26 then 4294967296 else 18446744073709551616):(fT pr ai v).length≤1000006:=by
 unfold fT;cases hs:spO ai v with
 |some t=>
  simp only [Option.getD_some];have:t.length≤9:=by
   have h1:t=nanT∨t=infT∨t=ninfT:=by
    unfold spO at hs
    repeat' split at hs
    all_goals first|(cases hs;done)|(injection hs with hs;simp [←hs])
   rcases h1 with rfl|rfl|rfl<;>simp [nanT,infT,ninfT]
  omega
 |none=>
  simp only [Option.getD_none];have hn:numOK ai v:=by
   unfold spO at hs;unfold numOK;rcases ha with rfl|rfl|rfl
   ·simp only [if_true] at hs hv;refine .inl ⟨rfl,hv,fun e=> ?_⟩
    rw [if_pos e] at hs;cases hs
   ·rw [if_neg (by decide),if_pos rfl] at hs hv
    refine .inr (.inl ⟨rfl,hv,fun e=> ?_⟩)
    rw [if_pos e] at hs;cases hs
   ·rw [if_neg (by decide),if_neg (by decide)] at hs hv
    refine .inr (.inr ⟨rfl,hv,fun e=> ?_⟩)
    rw [if_pos e] at hs;cases hs
  have h1:=(fltB_len (wbits ai v) (wbits_fin hn).2.1).2;have h2:(precT pr ai).length≤2:=by unfold precT;split<;>simp
  rw [List.length_append];omega
theorem ntM_len (M:Md) (f:List UInt8→List UInt8):NLen (ntM M f):=by
 refine ⟨fun b=> ?_,fun ai v ha hv=> ?_,fun xs n t off o h=> ?_⟩
 ·show (if Lib.validD b=true then txt (qT 34 b) else (([],some 10):R)).1.length+2≤_
  have h1:=qT_length 34 b;have h2:CC*1≤CC*(b.length+1):=Nat.mul_le_mul_left _ (by omega)
  split
  ·rw [txt_len];unfold CC at *
   omega
  ·unfold CC at *
   simp;omega
 ·have:=fT_len M.pr ai v ha hv
  show (fT M.pr ai v).length+2≤CC
  unfold CC;omega
 ·show (bigR n t).1.length+2≤_
  have e:=enc_off t _ _ h;have h2:CC*1≤CC*(o-off):=Nat.mul_le_mul_left _ (by omega)
  unfold bigR
  split
  ·rename_i b;rw [Enc] at h;obtain ⟨ai,v,o1,h,_,hv,_,rfl,hb⟩:=h;have hl:b.length=v:=by rw [hb];simp;omega
   have h1:=(hd_off h).1;have:=bigN_len n b;rw [txt_len];have h3:CC*(v+1)≤CC*(o1+v-off):=Nat.mul_le_mul_left _ (by omega)
   unfold CC at *
   omega
  ·rename_i l;rw [Enc] at h;obtain ⟨v,o1,h,hc⟩:=h;have h1:=(hd_off h).1;have:=bigN_len n (catS l);have h4:=catS_len false l _ _ hc;have h5:=chunks_off false l _ _ hc;rw [txt_len];have h3:CC*((catS l).length+1)≤CC*(o-off):=Nat.mul_le_mul_left _ (by omega)
   unfold CC at *
   omega
  ·unfold CC at *
   simp;omega
theorem seqF_len {L:Lim} {N:Nt} (hN:NLen N) {xs:List UInt8} (hlen:xs.length≤1099511627776) (hb: ∀b:List UInt8,b.length<xs.length→(N.by_ b).length+2≤CC*(b.length+1)): ∀n first off,(seqF L N xs n first off).1.length≤CC*(xs.length-off)
 |0,_,_=>by simp [seqF]
 |n+1,first,off=>by
  rw [seqF]
  split
  ·split<;>simp
  ·cases hi:itemR L xs off with
   |error k=>simp
   |ok q=>
    obtain ⟨t,o⟩:=q;dsimp only;have he:=(itemR_ok hlen hi).1;have e:=enc_off t _ _ he;have h1:=note_len hN t off o he ((enc_strs t off o he).imp (fun b hbb=>hb b hbb.1) t)
    have h2:=seqF_len (L:=L) hN hlen hb n false o;have h3:=thenR_len (txt (if first then [] else [44,32])) (thenR (note N t) (seqF L N xs n false o))
    have h4:=thenR_len (note N t) (seqF L N xs n false o);have h5:(txt (if first then [] else [44,32])).1.length≤2:=by rw [txt_len];split<;>simp
    have h9:CC*(o-off)+CC*(xs.length-o)=CC*(xs.length-off):=by rw [←Nat.mul_add];congr 1;omega
    omega
theorem byA_len (L:Lim) (M:Md): ∀n (b:List UInt8),b.length≤n→n≤1099511627776→(byA L M b).length+2≤CC*(b.length+1):=by
 intro n
 induction n with
 |zero=>
  intro b h _;have h0:b=[]:=List.eq_nil_of_length_eq_zero (by omega)
  subst h0;have:=noteB_len M.enc M.sp [];rw [byA_eq L M [] (by simp),if_neg (by simp),if_neg (by simp)]
  unfold CC;simp at this ⊢;omega
 |succ n ih=>
  intro b h hn;have h1:=noteB_len M.enc M.sp b;have h2:=qT_length 39 b;have h3:(seqR L (ntA L M) b).1.length≤CC*(b.length-0):=seqF_len (ntM_len _ _) (by omega) (fun c hc=>ih c (by omega) (by omega)) _ _ _
  have h9:CC*b.length+CC*1=CC*(b.length+1):=by rw [←Nat.mul_add]
  rw [byA_eq L M b (by omega)]
  rw [Nat.sub_zero] at h3
  split
  ·unfold CC at *
   omega
  ·split
   ·simp only [List.length_append,List.length_cons,List.length_nil];unfold CC at *
    omega
   ·unfold CC at *
    omega
theorem ntA_by (L:Lim) (M:Md) (b:List UInt8) (h:b.length≤1099511627776):((ntA L M).by_ b).length+2≤CC*(b.length+1):=byA_len L M b.length b (Nat.le_refl _) h
theorem diagR_len (L:Lim) (M:Md) (sq:Bool) (xs:List UInt8) (h:xs.length≤1099511627776):(diagR L M sq xs).1.length≤CC*xs.length:=by
 unfold diagR
 split
 ·exact seqF_len (ntM_len _ _) h (fun b hb=>ntA_by L M b (by omega)) _ _ _
 ·unfold oneR
  split
  ·simp
  ·cases hi:itemR L xs 0 with
   |error k=>simp
   |ok q=>
    obtain ⟨t,o⟩:=q;dsimp only;have he:=(itemR_ok h hi).1;have e:=enc_off t _ _ he
    split
    ·have h1:=note_len (N:=ntA L M) (ntM_len _ _) t 0 o he ((enc_strs t 0 o he).imp (fun b hbb=>ntA_by L M b (by omega)) t)
     have h3:CC*(o-0)≤CC*xs.length:=Nat.mul_le_mul_left _ (by omega)
     omega
    ·simp
end
end Go.Proofs.YteodinhkhhaafaaGreatDoor
