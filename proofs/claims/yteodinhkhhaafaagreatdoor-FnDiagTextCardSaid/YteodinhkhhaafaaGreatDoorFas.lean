/- Walks of the program, and plain facts. -/
import Derived.Test.YteodinhkhhaafaaGreatDoorFaq
import Derived.Lib.ValidAsc
import Derived.Lib.EndianBits
set_option linter.unusedVariables false
set_option linter.unusedSimpArgs false
set_option maxRecDepth 100000
set_option maxHeartbeats 6400000
namespace Go.Proofs.YteodinhkhhaafaaGreatDoor
section
open Go.RowKit
theorem wordB8 {w:World} {b o n c:Nat} (x0 x1 x2 x3 x4 x5 x6 x7:UInt8) (l:List UInt8) (hn:8≤n) (hr:Rd w b o (x0::x1::x2::x3::x4::x5::x6::x7::l)):
  Calls Tryz.prog 198 #[.slice (some ⟨b,o,none⟩) n c] w fun e w'=>e= .returned (.int .u64 (Lib.leNat [x0,x1,x2,x3,x4,x5,x6,x7]:Int))∧ ∃q,w'=w.drewN q:=by
 have h0:x0.toNat<256:=x0.toNat_lt;have c0:w.cell? ⟨b,o+0,none⟩=some (.int .u8 (x0.toNat:Int)):=hr 0 (by simp)
 have q0:(0:Int)<(n:Int):=by omega
 have h1:x1.toNat<256:=x1.toNat_lt;have c1:w.cell? ⟨b,o+1,none⟩=some (.int .u8 (x1.toNat:Int)):=hr 1 (by simp)
 have q1:(1:Int)<(n:Int):=by omega
 have h2:x2.toNat<256:=x2.toNat_lt;have c2:w.cell? ⟨b,o+2,none⟩=some (.int .u8 (x2.toNat:Int)):=hr 2 (by simp)
 have q2:(2:Int)<(n:Int):=by omega
 have h3:x3.toNat<256:=x3.toNat_lt;have c3:w.cell? ⟨b,o+3,none⟩=some (.int .u8 (x3.toNat:Int)):=hr 3 (by simp)
 have q3:(3:Int)<(n:Int):=by omega
 have h4:x4.toNat<256:=x4.toNat_lt;have c4:w.cell? ⟨b,o+4,none⟩=some (.int .u8 (x4.toNat:Int)):=hr 4 (by simp)
 have q4:(4:Int)<(n:Int):=by omega
 have h5:x5.toNat<256:=x5.toNat_lt;have c5:w.cell? ⟨b,o+5,none⟩=some (.int .u8 (x5.toNat:Int)):=hr 5 (by simp)
 have q5:(5:Int)<(n:Int):=by omega
 have h6:x6.toNat<256:=x6.toNat_lt;have c6:w.cell? ⟨b,o+6,none⟩=some (.int .u8 (x6.toNat:Int)):=hr 6 (by simp)
 have q6:(6:Int)<(n:Int):=by omega
 have h7:x7.toNat<256:=x7.toNat_lt;have c7:w.cell? ⟨b,o+7,none⟩=some (.int .u8 (x7.toNat:Int)):=hr 7 (by simp)
 have q7:(7:Int)<(n:Int):=by omega
 rw [Nat.add_zero] at c0;have hv:((Lib.leNat [x0,x1,x2,x3,x4,x5,x6,x7]:Nat):Int)=(x0.toNat:Int)+(x1.toNat:Int)*256+(x2.toNat:Int)*65536+(x3.toNat:Int)*16777216+(x4.toNat:Int)*4294967296+(x5.toNat:Int)*1099511627776+(x6.toNat:Int)*281474976710656+(x7.toNat:Int)*72057594037927936:=by
  simp only [Lib.leNat]
  push_cast
  omega
 rw [hv];clear hv hr;go_enter Tryz.func198,Tryz.ntmps198
 go_wp2
 go_quiet (fail)
 go_wp2;go_ret
 refine ⟨?_,_,rfl⟩
 simp (disch:=omega) only [u64_wrap_id,u64_or8,u64_or16,u64_or24,u64_or32,u64_or40,u64_or48,u64_or56]
 rfl
def asc8 (l:List UInt8):Prop:= ∀x,x∈l.take 8→x.toNat<128
theorem wordB {w:World} {b o c:Nat} {l:List UInt8} (n:Nat) (hn:n=l.length) (hl:8≤l.length) (hr:Rd w b o l):
  ∃A:Nat,A<18446744073709551616∧(A&&&9259542123273814144=0↔asc8 l)∧ ∀W,Fr [] w W→Calls Tryz.prog 198 #[.slice (some ⟨b,o,none⟩) n c] W fun e w'=>e= .returned (.int .u64 (A:Int))∧ ∃q,w'=W.drewN q:=by
 match l,hl with
 |x0::x1::x2::x3::x4::x5::x6::x7::t,_=>
  refine ⟨Lib.leNat [x0,x1,x2,x3,x4,x5,x6,x7],?_,?_,fun W hW=>wordB8 x0 x1 x2 x3 x4 x5 x6 x7 t (by simp at hn;omega) (hr.fr hW (by simp))⟩
  ·have h:=Lib.leNat_lt [x0,x1,x2,x3,x4,x5,x6,x7]
   simpa using h
  ·have:=Lib.leNat_mask [x0,x1,x2,x3,x4,x5,x6,x7];rw [show [x0,x1,x2,x3,x4,x5,x6,x7].length=8 from rfl,Lib.maskN8] at this
   exact this
theorem valid_skip8 (l:List UInt8) (h:asc8 l):Lib.validD (l.drop 8)=Lib.validD l:=(Lib.validD_ascii 8 l h).symm
theorem and7': ∀X:Fin 256,bits .and .u8 ((X.val:Nat):Int) 7=((X.val%8:Nat):Int):=by decide
theorem Rd.tail {w:World} {b o:Nat} {x:UInt8} {l:List UInt8} (h:Rd w b o (x::l)):Rd w b (o+1) l:=by have:=h.drop 1;simpa using this
theorem Rd.getD {w:World} {b o:Nat} {l:List UInt8} (h:Rd w b o l) (j:Nat) (hj:j<l.length):w.cell? ⟨b,o+j,none⟩=some (.int .u8 ((l.getD j 0).toNat:Int)):=by
 rw [h j hj];simp [List.getD,hj]
theorem utf8Valid {w:World} {b o c:Nat} {l:List UInt8} (hl:l.length≤1099511627776) (hc:l.length≤c) (hr:Rd w b o l) (hu:U8 w) (hs:2≤w.heap.size):
  Calls Tryz.prog 169 #[.slice (some ⟨b,o,none⟩) l.length c] w fun e w'=>e= .returned (.bool (Lib.validD l))∧Fr [] w w':=by
 generalize hA:Lib.validD l=ANS;replace hA:=Hz hA;have g1:(l.length:Int)≤(c:Int):=by omega
 replace hr:=Hz hr;replace hu:=Hz hu;go_enter Tryz.func169,Tryz.ntmps169
 go_wp2
 go_loopg [0] (l.length+1) (fun gk v0 wr=> ∃(oo:Nat) (t:List UInt8),v0= .slice (some ⟨b,oo,none⟩) t.length t.length∧Hid (Rd wr b oo t)∧Hid (Lib.validD t=ANS)∧t.length<gk∧t.length≤l.length∧Fr [] w wr)
 case atStart=>exact ⟨o,l,rfl,hr,hA,by omega,Nat.le_refl _,Fr.refl _ _⟩
 case round=>
  obtain ⟨oo,t,rfl,hrd,hV,hg,htl,hF⟩:=hrel;obtain ⟨g',rfl⟩: ∃g',gk=g'+1:=⟨gk-1,by omega⟩
  clear hA hr hc g1;cases t with
  |nil=>
   obtain rfl:true=ANS:=hV.out;go_wp2;go_ret
   exact ⟨rfl,hF⟩
  |cons x t=>
   have hx:=x.toNat_lt;have c0:wr.cell? ⟨b,oo,none⟩=some (.int .u8 (x.toNat:Int)):=by have:=hrd.out 0 (by simp);rw [Nat.add_zero] at this;exact this
   have hrt:=Hz hrd.out.tail;rw [List.length_cons] at hg htl ⊢;by_cases ha:x.toNat<128
   ·as_aux_lemma=>
    have haz:(x.toNat:Int)<128:=by omega
    have hv1:Hid (Lib.validD t=ANS):=Hz (by rw [←hV.out,Lib.validD_cons x t ha])
    clear hV hrd;by_cases ht0:t.length=0
    ·have c8: ¬(8:Int)<(t.length:Int):=by omega
     have ht:t=[]:=List.eq_nil_of_length_eq_zero ht0;subst ht;go_wp2
     go_roundg g'
     case measure=>omega
     case rel=>exact ⟨oo,[],rfl,Hz (Rd.nil _ _ _),hv1,by first|omega|(simp;omega),Nat.zero_le _,hF⟩
    ·by_cases c8:8<t.length
     ·have c8z:(8:Int)<(t.length:Int):=by omega
      obtain ⟨A1,lA1,hA1,KA1⟩:=wordB (c:=t.length) t.length rfl (by omega) hrt.out
      have an1:bits .and .u64 (A1:Int) 9259542123273814144=((A1&&&9259542123273814144:Nat):Int):=u64_and_nat A1 9259542123273814144 lA1 (by omega)
      obtain ⟨Z1,hZ1⟩: ∃Z1,A1&&&9259542123273814144=Z1:=⟨_,rfl⟩;rw [hZ1] at an1 hA1;replace KA1:=Hz KA1;clear hZ1;by_cases hz1:Z1=0
      ·have z1b:((Z1:Int)==0)=true:=by simp [hz1]
       have hz1z:(Z1:Int)=0:=by omega
       have hv2:Hid (Lib.validD (t.drop 8)=ANS):=Hz (by rw [valid_skip8 t (hA1.1 hz1),hv1.out])
       have hr2:Hid (Rd wr b (oo+1+8) (t.drop 8)):=Hz (hrt.out.drop 8);have hl2:(t.drop 8).length=t.length-8:=List.length_drop;obtain ⟨t2,ht2⟩: ∃t2,t2=t.drop 8:=⟨_,rfl⟩;rw [←ht2] at hv2 hr2 hl2;clear ht2 hA1 hrt hv1 hz1;obtain ⟨n2,hn2⟩: ∃n2,t.length-8=n2:=⟨_,rfl⟩;rw [hn2] at hl2;by_cases c16:16<n2
       ·have c16z:(16:Int)<((n2:Nat):Int):=by omega
        obtain ⟨A2,lA2,hA2,KA2⟩:=wordB (c:=n2) (n2) hl2.symm (by omega) hr2.out
        obtain ⟨A3,lA3,hA3,KA3⟩:=wordB (c:=n2-8) (n2-8) (by rw [List.length_drop,hl2]) (by rw [List.length_drop];omega) (hr2.out.drop 8)
        have hor2:bits .or .u64 (A2:Int) (A3:Int)=((A2|||A3:Nat):Int):=u64_or_nat A2 A3 lA2 lA3
        have lor2:A2|||A3<18446744073709551616:=Nat.or_lt_two_pow (n:=64) lA2 lA3
        have hand2:bits .and .u64 ((A2|||A3:Nat):Int) 9259542123273814144=(((A2|||A3)&&&9259542123273814144:Nat):Int):=u64_and_nat _ 9259542123273814144 lor2 (by omega)
        have k2:(A2|||A3)&&&9259542123273814144=0→asc8 t2∧asc8 (t2.drop 8):=fun h0'=>by
         obtain ⟨e1,e2⟩:=(Lib.or_mask A2 A3 _).1 h0';exact ⟨hA2.1 e1,hA3.1 e2⟩
        obtain ⟨O2,hO2⟩: ∃O2,A2|||A3=O2:=⟨_,rfl⟩
        rw [hO2] at hor2 hand2 k2;obtain ⟨Z2,hZ2⟩: ∃Z2,O2&&&9259542123273814144=Z2:=⟨_,rfl⟩;rw [hZ2] at hand2 k2;replace KA2:=Hz KA2;replace KA3:=Hz KA3;clear hA2 hA3 lor2 hO2 hZ2;go_wp2_with (go_at_call 198;refine (KA1.out _ (Fr.refl _ _)).mono ?_;rintro e W1 ⟨rfl,q1,rfl⟩)
        have hFq:Fr [] wr (wr.drewN q1):=(Fr.refl _ _).drewN q1;generalize wr.drewN q1=wq at hFq ⊢;replace hn2:=Hz hn2;by_cases hz2:Z2=0
        ·have z2b:((Z2:Int)==0)=true:=by simp [hz2]
         have z2z:(Z2:Int)=0:=by omega
         obtain ⟨k3,k4⟩:=k2 hz2
         go_big_quiet (first|(go_at_call 198;with_reducible exact Calls.quiet_of (KA2.out _ (hFq.drewN _)))|(go_at_call 198;with_reducible exact Calls.quiet_of (KA3.out _ (hFq.drewN _))))
         have hv3:Hid (Lib.validD (t2.drop 16)=ANS):=Hz (by rw [show (16:Nat)=8+8 from rfl,←List.drop_drop,valid_skip8 _ k4,valid_skip8 _ k3,hv2.out])
         have hFz:Fr [] wr (wq.drewN nq):=hFq.drewN nq;have hr3:Hid (Rd (wq.drewN nq) b (oo+1+8+16) (t2.drop 16)):=Hz ((hr2.out.drop 16).fr hFz (by simp))
         have hl3:(t2.drop 16).length=n2-16:=by rw [List.length_drop,hl2]
         obtain ⟨t3,ht3⟩: ∃t3,t3=t2.drop 16:=⟨_,rfl⟩;rw [←ht3] at hv3 hr3 hl3;have hFz2:=hF.trans hFz;have h16:=hn2.out;have hlen3:t3.length<g'∧t3.length≤l.length:=by omega
         generalize wq.drewN nq=wz at *
         clear KA2 KA3 hor2 hand2 k2 k3 k4 hv2 hr2 ht3 hz2 z2b z2z c16 h16 KA1 an1 z1b hz1z c8 c8z ht0 hFz hFq;obtain ⟨n3,hn3⟩: ∃n3,n2-16=n3:=⟨_,rfl⟩;rw [hn3] at hl3;go_wp2
         go_loopg [0] (t3.length+1) (fun g2 v0 wx=> ∃(o3:Nat) (u:List UInt8),v0= .slice (some ⟨b,o3,none⟩) u.length u.length∧Hid (Rd wx b o3 u)∧Hid (Lib.validD u=ANS)∧u.length<g2∧u.length≤t3.length∧Fr [] w wx)
         case atStart=>exact ⟨oo+1+8+16,t3,by rw [hl3],hr3,hv3,by omega,Nat.le_refl _,hFz2⟩
         case round=>
          obtain ⟨o3,u,rfl,hru,hvu,hgu,hul,hFu⟩:=hrel;clear hr3 hv3;have hru':=hru.out;by_cases c32:32<u.length
          ·obtain ⟨g3,rfl⟩: ∃g3,gk=g3+1:=⟨gk-1,by omega⟩
           have c32z:(32:Int)<(u.length:Int):=by omega
           obtain ⟨B0,lB0,hB0,KB0⟩:=wordB (c:=u.length) u.length rfl (by omega) hru'
           obtain ⟨B1,lB1,hB1,KB1⟩:=wordB (c:=u.length-8) (u.length-8) (by rw [List.length_drop]) (by rw [List.length_drop];omega) (hru'.drop 8)
           obtain ⟨B2,lB2,hB2,KB2⟩:=wordB (c:=u.length-16) (u.length-16) (by rw [List.length_drop]) (by rw [List.length_drop];omega) (hru'.drop 16)
           obtain ⟨B3,lB3,hB3,KB3⟩:=wordB (c:=u.length-24) (u.length-24) (by rw [List.length_drop]) (by rw [List.length_drop];omega) (hru'.drop 24)
           have ho1:bits .or .u64 (B0:Int) (B1:Int)=((B0|||B1:Nat):Int):=u64_or_nat B0 B1 lB0 lB1
           have ho2:bits .or .u64 (B2:Int) (B3:Int)=((B2|||B3:Nat):Int):=u64_or_nat B2 B3 lB2 lB3
           have lo1:B0|||B1<18446744073709551616:=Nat.or_lt_two_pow (n:=64) lB0 lB1
           have lo2:B2|||B3<18446744073709551616:=Nat.or_lt_two_pow (n:=64) lB2 lB3
           have ho3:bits .or .u64 ((B0|||B1:Nat):Int) ((B2|||B3:Nat):Int)=(((B0|||B1)|||(B2|||B3):Nat):Int):=u64_or_nat _ _ lo1 lo2
           have lo3:(B0|||B1)|||(B2|||B3)<18446744073709551616:=Nat.or_lt_two_pow (n:=64) lo1 lo2
           have hand3:bits .and .u64 (((B0|||B1)|||(B2|||B3):Nat):Int) 9259542123273814144=((((B0|||B1)|||(B2|||B3))&&&9259542123273814144:Nat):Int):=u64_and_nat _ 9259542123273814144 lo3 (by omega)
           have k3:((B0|||B1)|||(B2|||B3))&&&9259542123273814144=0→asc8 u∧asc8 (u.drop 8)∧asc8 (u.drop 16)∧asc8 (u.drop 24):=fun h0'=>by
            obtain ⟨e01,e23⟩:=(Lib.or_mask _ _ _).1 h0';obtain ⟨e0,e1⟩:=(Lib.or_mask _ _ _).1 e01;obtain ⟨e2,e3⟩:=(Lib.or_mask _ _ _).1 e23;exact ⟨hB0.1 e0,hB1.1 e1,hB2.1 e2,hB3.1 e3⟩
           obtain ⟨P1,hP1⟩: ∃P1,B0|||B1=P1:=⟨_,rfl⟩
           obtain ⟨P2,hP2⟩: ∃P2,B2|||B3=P2:=⟨_,rfl⟩
           rw [hP1,hP2] at ho3 hand3 k3;rw [hP1] at ho1;rw [hP2] at ho2;obtain ⟨P3,hP3⟩: ∃P3,P1|||P2=P3:=⟨_,rfl⟩
           rw [hP3] at ho3 hand3 k3;obtain ⟨Z3,hZ3⟩: ∃Z3,P3&&&9259542123273814144=Z3:=⟨_,rfl⟩;rw [hZ3] at hand3 k3;replace KB0:=Hz KB0;replace KB1:=Hz KB1;replace KB2:=Hz KB2;replace KB3:=Hz KB3;clear hB0 hB1 hB2 hB3 lo1 lo2 lo3 hP1 hP2 hP3 hZ3 hru';by_cases hz3:Z3=0
           ·have hz3b:((Z3:Int)==0)=true:=by simp [hz3]
            have hz3z:(Z3:Int)=0:=by omega
            obtain ⟨a0,a1,a2,a3⟩:=k3 hz3;have hv4:Hid (Lib.validD (u.drop 32)=ANS):=Hz (by rw [show (32:Nat)=24+8 from rfl,←List.drop_drop,valid_skip8 _ a3,show (24:Nat)=16+8 from rfl,←List.drop_drop,valid_skip8 _ a2,show (16:Nat)=8+8 from rfl,←List.drop_drop,valid_skip8 _ a1,valid_skip8 _ a0,hvu.out])
            clear k3;go_wp2_with fail
            go_big_quiet (first|(go_at_call 198;with_reducible exact Calls.quiet_of (KB0.out _ ((Fr.refl _ _).drewN _)))|(go_at_call 198;with_reducible exact Calls.quiet_of (KB1.out _ ((Fr.refl _ _).drewN _)))|(go_at_call 198;with_reducible exact Calls.quiet_of (KB2.out _ ((Fr.refl _ _).drewN _)))|(go_at_call 198;with_reducible exact Calls.quiet_of (KB3.out _ ((Fr.refl _ _).drewN _))))
            go_wp2
            go_roundg g3
            case measure=>omega
            case rel=>exact ⟨o3+32,u.drop 32,by rw [List.length_drop],Hz ((hru.out.drop 32).fr (S:=[]) ((Fr.refl _ _).drewN _) (by simp)),hv4,by rw [List.length_drop];omega,by rw [List.length_drop];omega,hFu.drewN _⟩
           ·have hz3b:((Z3:Int)==0)=false:=by simp;omega
            have hz3z: ¬(Z3:Int)=0:=by omega
            clear k3;go_wp2_with fail
            go_big_quiet (first|(go_at_call 198;with_reducible exact Calls.quiet_of (KB0.out _ ((Fr.refl _ _).drewN _)))|(go_at_call 198;with_reducible exact Calls.quiet_of (KB1.out _ ((Fr.refl _ _).drewN _)))|(go_at_call 198;with_reducible exact Calls.quiet_of (KB2.out _ ((Fr.refl _ _).drewN _)))|(go_at_call 198;with_reducible exact Calls.quiet_of (KB3.out _ ((Fr.refl _ _).drewN _))))
            go_wp2
            go_roundg g'
            case measure=>omega
            case rel=>exact ⟨o3,u,rfl,Hz (hru.out.fr (S:=[]) ((Fr.refl _ _).drewN _) (by simp)),hvu,by omega,by omega,hFu.drewN _⟩
          ·have c32z: ¬(32:Int)<(u.length:Int):=by omega
           have c32b:decide ((32:Int)<(u.length:Int))=false:=decide_eq_false c32z;go_wp2_with fail
           go_quiet (fail)
           go_wp2
           go_roundg g'
           case measure=>omega
           case rel=>exact ⟨o3,u,rfl,Hz (hru.out.fr (S:=[]) ((Fr.refl _ _).drewN _) (by simp)),hvu,by omega,by omega,hFu.drewN _⟩
        ·have z2b:((Z2:Int)==0)=false:=by simp;omega
         have z2z: ¬(Z2:Int)=0:=by omega
         go_big_quiet (first|(go_at_call 198;with_reducible exact Calls.quiet_of (KA2.out _ (hFq.drewN _)))|(go_at_call 198;with_reducible exact Calls.quiet_of (KA3.out _ (hFq.drewN _))))
         go_wp2
         go_roundg g'
         case measure=>omega
         case rel=>exact ⟨oo+1+8,t2,by rw [hl2],Hz (hr2.out.fr (hFq.drewN _) (by simp)),hv2,by have:=hn2.out;omega,by have:=hn2.out;omega,(hF.trans hFq).drewN _⟩
       ·have c16z: ¬(16:Int)<((n2:Nat):Int):=by omega
        have c16b:decide ((16:Int)<(n2:Int))=false:=decide_eq_false c16z;go_wp2_with (go_at_call 198;refine (KA1.out _ (Fr.refl _ _)).mono ?_;rintro e W1 ⟨rfl,q1,rfl⟩)
        have hFq:Fr [] wr (wr.drewN q1):=(Fr.refl _ _).drewN q1;generalize wr.drewN q1=wq at hFq ⊢;replace hn2:=Hz hn2
        go_quiet (fail)
        go_wp2
        go_roundg g'
        case measure=>omega
        case rel=>exact ⟨oo+1+8,t2,by rw [hl2],Hz (hr2.out.fr (hFq.drewN _) (by simp)),hv2,by have:=hn2.out;omega,by have:=hn2.out;omega,(hF.trans hFq).drewN _⟩
      ·have z1b:((Z1:Int)==0)=false:=by simp;omega
       have hz1z: ¬(Z1:Int)=0:=by omega
       go_wp2_with (go_at_call 198;refine (KA1.out _ (Fr.refl _ _)).mono ?_;rintro e W1 ⟨rfl,q1,rfl⟩)
       go_roundg g'
       case measure=>omega
       case rel=>exact ⟨oo+1,t,rfl,Hz (hrt.out.fr (S:=[]) ((Fr.refl _ _).drewN q1) (by simp)),hv1,by omega,by omega,hF.drewN q1⟩
     ·have c8z: ¬(8:Int)<(t.length:Int):=by omega
      go_wp2
      go_roundg g'
      case measure=>omega
      case rel=>exact ⟨oo+1,t,rfl,hrt,hv1,by omega,by omega,hF⟩
   ·as_aux_lemma=>
    have hge:128≤x.toNat:=by omega
    have hascz: ¬((x.toNat:Int)<128):=by omega
    have hascb:decide ((x.toNat:Int)<128)=false:=decide_eq_false hascz;have hlead:=Lib.validD_lead (x::t) (by simp) (by simpa using hge)
    have K1:=hrd.out.getD 1;have K2:=hrd.out.getD 2;have K3:=hrd.out.getD 3;have D2:=Hz (hrd.out.drop 2);have D3:=Hz (hrd.out.drop 3);have D4:=Hz (hrd.out.drop 4);obtain ⟨x1,hx1⟩: ∃x1,(x::t).getD 1 0=x1:=⟨_,rfl⟩;obtain ⟨x2,hx2⟩: ∃x2,(x::t).getD 2 0=x2:=⟨_,rfl⟩;obtain ⟨x3,hx3⟩: ∃x3,(x::t).getD 3 0=x3:=⟨_,rfl⟩;rw [show (x::t).getD 0 0=x from rfl,hx1,hx2,hx3,hV.out,List.length_cons] at hlead
    rw [hx1,List.length_cons] at K1;rw [hx2,List.length_cons] at K2;rw [hx3,List.length_cons] at K3;have l1:=x1.toNat_lt;have l2:=x2.toNat_lt;have l3:=x3.toNat_lt;clear hx1 hx2 hx3 hrt;have hbz:b≠wr.heap.size:=fun e=>by
     have:=World.block_lt_of_cell? _ _ c0;simp at this;omega
    have hbz2:wr.heap.size≠b:=fun e=>hbz e.symm
    have hTr:U8 wr:=hu.out.fr hF (by simp)
    have hcf:=hTr.1 x.toNat hx;have hXlt:Lib.firstT x.toNat<256:=by rcases Lib.firstT_cases x.toNat with h|h|h|h|h|h|h|h|h<;>omega
    obtain ⟨X,hX⟩: ∃X,Lib.firstT x.toNat=X:=⟨_,rfl⟩;rw [hX] at hcf hXlt hlead;have h7:=and7' ⟨X,hXlt⟩;simp only at h7;have ha0:wr.cell? ⟨1,X/16*2,none⟩=some (.int .u8 (Lib.accLo (X/16))):=by rw [Nat.mul_comm];exact (hTr.2 (X/16) (by omega)).1
    have ha1:wr.cell? ⟨1,X/16*2+1,none⟩=some (.int .u8 (Lib.accHi (X/16))):=by rw [Nat.mul_comm];exact (hTr.2 (X/16) (by omega)).2
    obtain ⟨LO,hLO⟩: ∃LO,Lib.accLo (X/16)=LO:=⟨_,rfl⟩;obtain ⟨HI,hHI⟩: ∃HI,Lib.accHi (X/16)=HI:=⟨_,rfl⟩;rw [hLO] at ha0 hlead;rw [hHI] at ha1 hlead;obtain ⟨SZ,hSZ⟩: ∃SZ,X%8=SZ:=⟨_,rfl⟩;rw [hSZ] at hlead h7;have hlen2:(x::t).length=t.length+1:=List.length_cons;obtain ⟨n,hn⟩: ∃n,t.length+1=n:=⟨_,rfl⟩;rw [hn] at hlead hg htl hlen2 K1 K2 K3 ⊢;obtain ⟨ll,hll⟩: ∃ll,x::t=ll:=⟨_,rfl⟩;rw [hll] at hlead hlen2 D2 D3 D4;have hn1:1≤n:=by omega
    have hn0:(0:Int)<(n:Int):=by omega
    clear hTr hX hV hLO hHI hrd hn hll;by_cases s2:SZ=2
    ·as_aux_lemma=>
     subst s2;have hSZz:(X:Int)%8=2:=by omega
     simp only [Lib.checkN,Nat.reduceEqDiff,if_true,if_false] at hlead;go_upto_region 18 with fail
     rw [decide_eq_true (p:=0<n) (by omega)]
     generalize hW:wr.alloc (Obj.cells #[Value.int IntKind.u8 (LO:Int),Value.int IntKind.u8 (HI:Int)] 310)=W;have hFW:Fr [] wr W:=by rw [←hW];exact (Fr.refl _ _).alloc _
     have w0:W.cell? ⟨wr.heap.size,0,none⟩=some (.int .u8 (LO:Int)):=by rw [←hW];exact cell_blk (blk_new _ _) 0
     have w1:W.cell? ⟨wr.heap.size,1,none⟩=some (.int .u8 (HI:Int)):=by rw [←hW];exact cell_blk (blk_new _ _) 1
     clear hW
     go_cut [103] from 85 to 103 (fun c wx=>c= .bool (decide (n<2∨x1.toNat<LO∨HI<x1.toNat))∧Fr [] wr wx)
     case first=>
      by_cases q0:n<2
      ·have q0z:(n:Int)<2:=by omega
       have q0b:decide ((n:Int)<2)=true:=decide_eq_true q0z
       go_big_quiet (fail)
       go_wp2
       go_meet
       exact ⟨congrArg Value.bool (decide_eq_true (p:=n<2∨x1.toNat<LO∨HI<x1.toNat) (by omega)).symm,hFW.drewN _⟩
      ·have q0z: ¬((n:Int)<2):=by omega
       have q0b:decide ((n:Int)<2)=false:=decide_eq_false q0z;have hz1:(1:Int)<(n:Int):=by omega
       have k1:=hFW.cell (K1 (by omega)) (by simp)
       by_cases q1:x1.toNat<LO
       ·have q1z:(x1.toNat:Int)<(LO:Int):=by omega
        have q1b:decide ((x1.toNat:Int)<(LO:Int))=true:=decide_eq_true q1z
        go_big_quiet (fail)
        go_wp2
        go_meet
        exact ⟨congrArg Value.bool (decide_eq_true (p:=n<2∨x1.toNat<LO∨HI<x1.toNat) (by omega)).symm,hFW.drewN _⟩
       ·have q1z: ¬((x1.toNat:Int)<(LO:Int)):=by omega
        have q1b:decide ((x1.toNat:Int)<(LO:Int))=false:=decide_eq_false q1z;by_cases q2:HI<x1.toNat
        ·have q2z:(HI:Int)<(x1.toNat:Int):=by omega
         have q2b:decide ((HI:Int)<(x1.toNat:Int))=true:=decide_eq_true q2z
         go_big_quiet (fail)
         go_wp2
         go_meet
         exact ⟨congrArg Value.bool (decide_eq_true (p:=n<2∨x1.toNat<LO∨HI<x1.toNat) (by omega)).symm,hFW.drewN _⟩
        ·have q2z: ¬((HI:Int)<(x1.toNat:Int)):=by omega
         have q2b:decide ((HI:Int)<(x1.toNat:Int))=false:=decide_eq_false q2z
         go_big_quiet (fail)
         go_wp2
         go_meet
         exact ⟨congrArg Value.bool (decide_eq_false (p:=n<2∨x1.toNat<LO∨HI<x1.toNat) (by omega)).symm,hFW.drewN _⟩
     case rest=>
      obtain ⟨rfl,hbc⟩:=hcut;by_cases hb:n<2∨x1.toNat<LO∨HI<x1.toNat
      ·have hbd:decide (n<2∨x1.toNat<LO∨HI<x1.toNat)=true:=decide_eq_true hb;rw [if_pos hb] at hlead;change ANS=false at hlead;go_wp2
       all_goals (go_ret;exact ⟨by first|rfl|rw [hlead],hF.trans hbc⟩)
      ·have hbd:decide (n<2∨x1.toNat<LO∨HI<x1.toNat)=false:=decide_eq_false hb;rw [if_neg hb] at hlead;change ANS=Lib.validD (ll.drop 2) at hlead;have hk1:(2:Int)≤(n:Int):=by omega
       have hld:(ll.drop 2).length=n-2:=by rw [List.length_drop,hlen2]
       by_cases hk:n=2
       ·subst hk;have he:ll.drop 2=[]:=List.eq_nil_of_length_eq_zero (by omega)
        rw [he] at hlead;go_wp2
        go_roundg g'
        case measure=>omega
        case rel=>exact ⟨oo,[],rfl,Hz (Rd.nil _ _ _),Hz hlead.symm,by first|omega|(simp;omega),Nat.zero_le _,hF.trans hbc⟩
       ·have hk2: ¬(n:Int)=2:=by omega
        have hk3:(2:Int)<(n:Int):=by omega
        go_wp2
        go_roundg g'
        case measure=>omega
        case rel=>exact ⟨oo+2,ll.drop 2,by rw [hld],Hz (D2.out.fr hbc (by simp)),Hz hlead.symm,by omega,by omega,hF.trans hbc⟩
    by_cases s3:SZ=3
    ·as_aux_lemma=>
     subst s3;have hSZz:(X:Int)%8=3:=by omega
     simp only [Lib.checkN,Nat.reduceEqDiff,if_true,if_false] at hlead;go_upto_region 22 with fail
     rw [decide_eq_true (p:=0<n) (by omega)]
     generalize hW:wr.alloc (Obj.cells #[Value.int IntKind.u8 (LO:Int),Value.int IntKind.u8 (HI:Int)] 310)=W;have hFW:Fr [] wr W:=by rw [←hW];exact (Fr.refl _ _).alloc _
     have w0:W.cell? ⟨wr.heap.size,0,none⟩=some (.int .u8 (LO:Int)):=by rw [←hW];exact cell_blk (blk_new _ _) 0
     have w1:W.cell? ⟨wr.heap.size,1,none⟩=some (.int .u8 (HI:Int)):=by rw [←hW];exact cell_blk (blk_new _ _) 1
     clear hW
     go_cut [138] from 108 to 138 (fun c wx=>c= .bool (decide (n<3∨x1.toNat<LO∨HI<x1.toNat∨x2.toNat<128∨191<x2.toNat))∧Fr [] wr wx)
     case first=>
      by_cases q0:n<3
      ·have q0z:(n:Int)<3:=by omega
       have q0b:decide ((n:Int)<3)=true:=decide_eq_true q0z
       go_big_quiet (fail)
       go_wp2
       go_meet
       exact ⟨congrArg Value.bool (decide_eq_true (p:=n<3∨x1.toNat<LO∨HI<x1.toNat∨x2.toNat<128∨191<x2.toNat) (by omega)).symm,hFW.drewN _⟩
      ·have q0z: ¬((n:Int)<3):=by omega
       have q0b:decide ((n:Int)<3)=false:=decide_eq_false q0z;have hz1:(1:Int)<(n:Int):=by omega
       have k1:=hFW.cell (K1 (by omega)) (by simp)
       have hz2:(2:Int)<(n:Int):=by omega
       have k2:=hFW.cell (K2 (by omega)) (by simp)
       by_cases q1:x1.toNat<LO
       ·have q1z:(x1.toNat:Int)<(LO:Int):=by omega
        have q1b:decide ((x1.toNat:Int)<(LO:Int))=true:=decide_eq_true q1z
        go_big_quiet (fail)
        go_wp2
        go_meet
        exact ⟨congrArg Value.bool (decide_eq_true (p:=n<3∨x1.toNat<LO∨HI<x1.toNat∨x2.toNat<128∨191<x2.toNat) (by omega)).symm,hFW.drewN _⟩
       ·have q1z: ¬((x1.toNat:Int)<(LO:Int)):=by omega
        have q1b:decide ((x1.toNat:Int)<(LO:Int))=false:=decide_eq_false q1z;by_cases q2:HI<x1.toNat
        ·have q2z:(HI:Int)<(x1.toNat:Int):=by omega
         have q2b:decide ((HI:Int)<(x1.toNat:Int))=true:=decide_eq_true q2z
         go_big_quiet (fail)
         go_wp2
         go_meet
         exact ⟨congrArg Value.bool (decide_eq_true (p:=n<3∨x1.toNat<LO∨HI<x1.toNat∨x2.toNat<128∨191<x2.toNat) (by omega)).symm,hFW.drewN _⟩
        ·have q2z: ¬((HI:Int)<(x1.toNat:Int)):=by omega
         have q2b:decide ((HI:Int)<(x1.toNat:Int))=false:=decide_eq_false q2z;by_cases q3:x2.toNat<128
         ·have q3z:(x2.toNat:Int)<128:=by omega
          have q3b:decide ((x2.toNat:Int)<128)=true:=decide_eq_true q3z
          go_big_quiet (fail)
          go_wp2
          go_meet
          exact ⟨congrArg Value.bool (decide_eq_true (p:=n<3∨x1.toNat<LO∨HI<x1.toNat∨x2.toNat<128∨191<x2.toNat) (by omega)).symm,hFW.drewN _⟩
         ·have q3z: ¬((x2.toNat:Int)<128):=by omega
          have q3b:decide ((x2.toNat:Int)<128)=false:=decide_eq_false q3z;by_cases q4:191<x2.toNat
          ·have q4z:(191:Int)<(x2.toNat:Int):=by omega
           have q4b:decide ((191:Int)<(x2.toNat:Int))=true:=decide_eq_true q4z
           go_big_quiet (fail)
           go_wp2
           go_meet
           exact ⟨congrArg Value.bool (decide_eq_true (p:=n<3∨x1.toNat<LO∨HI<x1.toNat∨x2.toNat<128∨191<x2.toNat) (by omega)).symm,hFW.drewN _⟩
          ·have q4z: ¬((191:Int)<(x2.toNat:Int)):=by omega
           have q4b:decide ((191:Int)<(x2.toNat:Int))=false:=decide_eq_false q4z
           go_big_quiet (fail)
           go_wp2
           go_meet
           exact ⟨congrArg Value.bool (decide_eq_false (p:=n<3∨x1.toNat<LO∨HI<x1.toNat∨x2.toNat<128∨191<x2.toNat) (by omega)).symm,hFW.drewN _⟩
     case rest=>
      obtain ⟨rfl,hbc⟩:=hcut;by_cases hb:n<3∨x1.toNat<LO∨HI<x1.toNat∨x2.toNat<128∨191<x2.toNat
      ·have hbd:decide (n<3∨x1.toNat<LO∨HI<x1.toNat∨x2.toNat<128∨191<x2.toNat)=true:=decide_eq_true hb;rw [if_pos hb] at hlead;change ANS=false at hlead;go_wp2
       all_goals (go_ret;exact ⟨by first|rfl|rw [hlead],hF.trans hbc⟩)
      ·have hbd:decide (n<3∨x1.toNat<LO∨HI<x1.toNat∨x2.toNat<128∨191<x2.toNat)=false:=decide_eq_false hb;rw [if_neg hb] at hlead;change ANS=Lib.validD (ll.drop 3) at hlead;have hk1:(3:Int)≤(n:Int):=by omega
       have hld:(ll.drop 3).length=n-3:=by rw [List.length_drop,hlen2]
       by_cases hk:n=3
       ·subst hk;have he:ll.drop 3=[]:=List.eq_nil_of_length_eq_zero (by omega)
        rw [he] at hlead;go_wp2
        go_roundg g'
        case measure=>omega
        case rel=>exact ⟨oo,[],rfl,Hz (Rd.nil _ _ _),Hz hlead.symm,by first|omega|(simp;omega),Nat.zero_le _,hF.trans hbc⟩
       ·have hk2: ¬(n:Int)=3:=by omega
        have hk3:(3:Int)<(n:Int):=by omega
        go_wp2
        go_roundg g'
        case measure=>omega
        case rel=>exact ⟨oo+3,ll.drop 3,by rw [hld],Hz (D3.out.fr hbc (by simp)),Hz hlead.symm,by omega,by omega,hF.trans hbc⟩
    by_cases s4:SZ=4
    ·as_aux_lemma=>
     subst s4;have hSZz:(X:Int)%8=4:=by omega
     simp only [Lib.checkN,Nat.reduceEqDiff,if_true,if_false] at hlead;go_upto_region 26 with fail
     rw [decide_eq_true (p:=0<n) (by omega)]
     generalize hW:wr.alloc (Obj.cells #[Value.int IntKind.u8 (LO:Int),Value.int IntKind.u8 (HI:Int)] 310)=W;have hFW:Fr [] wr W:=by rw [←hW];exact (Fr.refl _ _).alloc _
     have w0:W.cell? ⟨wr.heap.size,0,none⟩=some (.int .u8 (LO:Int)):=by rw [←hW];exact cell_blk (blk_new _ _) 0
     have w1:W.cell? ⟨wr.heap.size,1,none⟩=some (.int .u8 (HI:Int)):=by rw [←hW];exact cell_blk (blk_new _ _) 1
     clear hW
     go_cut [185] from 143 to 185 (fun c wx=>c= .bool (decide (n<4∨x1.toNat<LO∨HI<x1.toNat∨x2.toNat<128∨191<x2.toNat∨x3.toNat<128∨191<x3.toNat))∧Fr [] wr wx)
     case first=>
      by_cases q0:n<4
      ·have q0z:(n:Int)<4:=by omega
       have q0b:decide ((n:Int)<4)=true:=decide_eq_true q0z
       go_big_quiet (fail)
       go_wp2
       go_meet
       exact ⟨congrArg Value.bool (decide_eq_true (p:=n<4∨x1.toNat<LO∨HI<x1.toNat∨x2.toNat<128∨191<x2.toNat∨x3.toNat<128∨191<x3.toNat) (by omega)).symm,hFW.drewN _⟩
      ·have q0z: ¬((n:Int)<4):=by omega
       have q0b:decide ((n:Int)<4)=false:=decide_eq_false q0z;have hz1:(1:Int)<(n:Int):=by omega
       have k1:=hFW.cell (K1 (by omega)) (by simp)
       have hz2:(2:Int)<(n:Int):=by omega
       have k2:=hFW.cell (K2 (by omega)) (by simp)
       have hz3:(3:Int)<(n:Int):=by omega
       have k3:=hFW.cell (K3 (by omega)) (by simp)
       by_cases q1:x1.toNat<LO
       ·have q1z:(x1.toNat:Int)<(LO:Int):=by omega
        have q1b:decide ((x1.toNat:Int)<(LO:Int))=true:=decide_eq_true q1z
        go_big_quiet (fail)
        go_wp2
        go_meet
        exact ⟨congrArg Value.bool (decide_eq_true (p:=n<4∨x1.toNat<LO∨HI<x1.toNat∨x2.toNat<128∨191<x2.toNat∨x3.toNat<128∨191<x3.toNat) (by omega)).symm,hFW.drewN _⟩
       ·have q1z: ¬((x1.toNat:Int)<(LO:Int)):=by omega
        have q1b:decide ((x1.toNat:Int)<(LO:Int))=false:=decide_eq_false q1z;by_cases q2:HI<x1.toNat
        ·have q2z:(HI:Int)<(x1.toNat:Int):=by omega
         have q2b:decide ((HI:Int)<(x1.toNat:Int))=true:=decide_eq_true q2z
         go_big_quiet (fail)
         go_wp2
         go_meet
         exact ⟨congrArg Value.bool (decide_eq_true (p:=n<4∨x1.toNat<LO∨HI<x1.toNat∨x2.toNat<128∨191<x2.toNat∨x3.toNat<128∨191<x3.toNat) (by omega)).symm,hFW.drewN _⟩
        ·have q2z: ¬((HI:Int)<(x1.toNat:Int)):=by omega
         have q2b:decide ((HI:Int)<(x1.toNat:Int))=false:=decide_eq_false q2z;by_cases q3:x2.toNat<128
         ·have q3z:(x2.toNat:Int)<128:=by omega
          have q3b:decide ((x2.toNat:Int)<128)=true:=decide_eq_true q3z
          go_big_quiet (fail)
          go_wp2
          go_meet
          exact ⟨congrArg Value.bool (decide_eq_true (p:=n<4∨x1.toNat<LO∨HI<x1.toNat∨x2.toNat<128∨191<x2.toNat∨x3.toNat<128∨191<x3.toNat) (by omega)).symm,hFW.drewN _⟩
         ·have q3z: ¬((x2.toNat:Int)<128):=by omega
          have q3b:decide ((x2.toNat:Int)<128)=false:=decide_eq_false q3z;by_cases q4:191<x2.toNat
          ·have q4z:(191:Int)<(x2.toNat:Int):=by omega
           have q4b:decide ((191:Int)<(x2.toNat:Int))=true:=decide_eq_true q4z
           go_big_quiet (fail)
           go_wp2
           go_meet
           exact ⟨congrArg Value.bool (decide_eq_true (p:=n<4∨x1.toNat<LO∨HI<x1.toNat∨x2.toNat<128∨191<x2.toNat∨x3.toNat<128∨191<x3.toNat) (by omega)).symm,hFW.drewN _⟩
          ·have q4z: ¬((191:Int)<(x2.toNat:Int)):=by omega
           have q4b:decide ((191:Int)<(x2.toNat:Int))=false:=decide_eq_false q4z;by_cases q5:x3.toNat<128
           ·have q5z:(x3.toNat:Int)<128:=by omega
            have q5b:decide ((x3.toNat:Int)<128)=true:=decide_eq_true q5z
            go_big_quiet (fail)
            go_wp2
            go_meet
            exact ⟨congrArg Value.bool (decide_eq_true (p:=n<4∨x1.toNat<LO∨HI<x1.toNat∨x2.toNat<128∨191<x2.toNat∨x3.toNat<128∨191<x3.toNat) (by omega)).symm,hFW.drewN _⟩
           ·have q5z: ¬((x3.toNat:Int)<128):=by omega
            have q5b:decide ((x3.toNat:Int)<128)=false:=decide_eq_false q5z;by_cases q6:191<x3.toNat
            ·have q6z:(191:Int)<(x3.toNat:Int):=by omega
             have q6b:decide ((191:Int)<(x3.toNat:Int))=true:=decide_eq_true q6z
             go_big_quiet (fail)
             go_wp2
             go_meet
             exact ⟨congrArg Value.bool (decide_eq_true (p:=n<4∨x1.toNat<LO∨HI<x1.toNat∨x2.toNat<128∨191<x2.toNat∨x3.toNat<128∨191<x3.toNat) (by omega)).symm,hFW.drewN _⟩
            ·have q6z: ¬((191:Int)<(x3.toNat:Int)):=by omega
             have q6b:decide ((191:Int)<(x3.toNat:Int))=false:=decide_eq_false q6z
             go_big_quiet (fail)
             go_wp2
             go_meet
             exact ⟨congrArg Value.bool (decide_eq_false (p:=n<4∨x1.toNat<LO∨HI<x1.toNat∨x2.toNat<128∨191<x2.toNat∨x3.toNat<128∨191<x3.toNat) (by omega)).symm,hFW.drewN _⟩
     case rest=>
      obtain ⟨rfl,hbc⟩:=hcut;by_cases hb:n<4∨x1.toNat<LO∨HI<x1.toNat∨x2.toNat<128∨191<x2.toNat∨x3.toNat<128∨191<x3.toNat
      ·have hbd:decide (n<4∨x1.toNat<LO∨HI<x1.toNat∨x2.toNat<128∨191<x2.toNat∨x3.toNat<128∨191<x3.toNat)=true:=decide_eq_true hb;rw [if_pos hb] at hlead;change ANS=false at hlead;go_wp2
       all_goals (go_ret;exact ⟨by first|rfl|rw [hlead],hF.trans hbc⟩)
      ·have hbd:decide (n<4∨x1.toNat<LO∨HI<x1.toNat∨x2.toNat<128∨191<x2.toNat∨x3.toNat<128∨191<x3.toNat)=false:=decide_eq_false hb;rw [if_neg hb] at hlead;change ANS=Lib.validD (ll.drop 4) at hlead;have hk1:(4:Int)≤(n:Int):=by omega
       have hld:(ll.drop 4).length=n-4:=by rw [List.length_drop,hlen2]
       by_cases hk:n=4
       ·subst hk;have he:ll.drop 4=[]:=List.eq_nil_of_length_eq_zero (by omega)
        rw [he] at hlead;go_wp2
        go_roundg g'
        case measure=>omega
        case rel=>exact ⟨oo,[],rfl,Hz (Rd.nil _ _ _),Hz hlead.symm,by first|omega|(simp;omega),Nat.zero_le _,hF.trans hbc⟩
       ·have hk2: ¬(n:Int)=4:=by omega
        have hk3:(4:Int)<(n:Int):=by omega
        go_wp2
        go_roundg g'
        case measure=>omega
        case rel=>exact ⟨oo+4,ll.drop 4,by rw [hld],Hz (D4.out.fr hbc (by simp)),Hz hlead.symm,by omega,by omega,hF.trans hbc⟩
    have t2: ¬((SZ:Int)=2):=by omega
    have t3: ¬((SZ:Int)=3):=by omega
    have t4: ¬((SZ:Int)=4):=by omega
    have u2:((SZ:Int)==2)=false:=by simp;omega
    have u3:((SZ:Int)==3)=false:=by simp;omega
    have u4:((SZ:Int)==4)=false:=by simp;omega
    have hlf:ANS=false:=by rw [hlead];simp only [Lib.checkN,if_neg s2,if_neg s3,if_neg s4]
    clear hlead;go_upto_region 16 with fail
    go_wp2;go_ret
    exact ⟨by first|rfl|rw [hlf],hF.trans ((Fr.refl _ _).alloc _)⟩
end
end Go.Proofs.YteodinhkhhaafaaGreatDoor
