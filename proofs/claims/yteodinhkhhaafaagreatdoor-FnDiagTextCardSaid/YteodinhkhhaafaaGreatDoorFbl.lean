/- Walks of the program, and plain facts. -/
import Derived.Test.YteodinhkhhaafaaGreatDoorFbk
set_option linter.unusedVariables false
set_option linter.unusedSimpArgs false
set_option maxRecDepth 100000
set_option maxHeartbeats 6400000
namespace Go.Proofs.YteodinhkhhaafaaGreatDoor
section
open Go.RowKit
theorem dg_at {l m r:List UInt8} (h:Dg m) (j:Nat) (hj:j<m.length): ∃hl:l.length+j<(l++(m++r)).length,48≤bt' (l++(m++r)) (l.length+j)∧bt' (l++(m++r)) (l.length+j)≤57∧(l++(m++r))[l.length+j]=m[j]:=by
 have hl:l.length+j<(l++(m++r)).length:=by simp;omega
 have e:(l++(m++r))[l.length+j]=m[j]:=by
  rw [List.getElem_append_right (by omega),List.getElem_append_left (by omega)]
  congr 1
  omega
 have e2:bt' (l++(m++r)) (l.length+j)=m[j].toNat:=by
  unfold bt';rw [List.getD_eq_getElem?_getD,List.getElem?_eq_getElem hl,e]
  rfl
 have:=h m[j] (List.getElem_mem hj);exact ⟨hl,by omega,by omega,e⟩
theorem take_snoc'' {α:Type} (l:List α) (i:Nat) (h:i<l.length):l.take (i+1)=l.take i++[l[i]]:=by
 rw [List.take_add_one,List.getElem?_eq_getElem h];rfl
theorem bt_mid (l:List UInt8) (c:UInt8) (r:List UInt8):bt' (l++c::r) l.length=c.toNat:=by
 unfold bt';rw [List.getD_eq_getElem?_getD,List.getElem?_append_right (Nat.le_refl _)];simp
theorem number0 {t D:List UInt8} {X:Int} (hN:NumT t D X) (hl:t.length≤3000) (w:World):
  Calls Tryz.prog 75 #[.string ⟨t.toArray⟩] w fun e w'=>e= .returned (.tuple #[.bool false,.string ⟨D.toArray⟩,.int .i64 X,.bool true])∧Fr [] w w':=by
 obtain ⟨ip,fp,ep,ht,hi,hf,hdi,hdf,hD,hX⟩:=hN;have hi0:0<ip.length:=List.length_pos_iff.2 hi;have hf0:0<fp.length:=List.length_pos_iff.2 hf;have hx: ∀j,(h:j<t.length)→((⟨t.toArray⟩:ByteArray)[j]'(by show j<t.toArray.size;simpa using h)).toNat=bt' t j:=bt_at t
 have q2:(⟨t.toArray⟩:ByteArray).size=t.length:=by simp [ByteArray.size]
 have hn:t.length=ip.length+1+(fp.length+ep.length):=by rw [ht];simp;omega
 have K1:Hid (∀j (h:j<ip.length),48≤bt' t j∧bt' t j≤57∧(⟨t.toArray⟩:ByteArray).extract j (j+1)=⟨[ip[j]].toArray⟩):=Hz (fun j h=>by
  subst ht;obtain ⟨h1,h2,h3,h4⟩:=dg_at (l:=[]) (m:=ip) (r:=46::(fp++ep)) hdi j h;simp only [List.nil_append,List.length_nil,Nat.zero_add] at h1 h2 h3 h4;exact ⟨h2,h3,by rw [ext_one _ _ h1,h4]⟩)
 have K2:bt' t ip.length=46:=by rw [ht,bt_mid];rfl
 have K3:Hid (∀j (h:j<fp.length),48≤bt' t (ip.length+1+j)∧bt' t (ip.length+1+j)≤57∧(⟨t.toArray⟩:ByteArray).extract (ip.length+1+j) (ip.length+1+j+1)=⟨[fp[j]].toArray⟩):=Hz (fun j h=>by
  have ht2:t=(ip++[46])++(fp++ep):=by rw [ht];simp
  subst ht2;obtain ⟨h1,h2,h3,h4⟩:=dg_at (l:=ip++[46]) (m:=fp) (r:=ep) hdf j h;simp only [List.length_append,List.length_singleton] at h1 h2 h3 h4;exact ⟨h2,h3,by rw [ext_one _ _ (by simp;omega),h4]⟩)
 have h00:=(K1.out 0 hi0);have z1: ¬(bt' t 0:Int)=45:=by omega
 have z2:((bt' t 0:Int)==45)=false:=by simp;omega
 have z3:(0:Int)<(t.length:Int):=by omega
 have z4:0<t.length:=by omega
 have hne:t.isEmpty=false:=by cases t with|nil=>simp at z4|cons _ _=>rfl
 obtain ⟨a,ha⟩: ∃a,ip.length=a:=⟨_,rfl⟩;obtain ⟨b,hb⟩: ∃b,fp.length=b:=⟨_,rfl⟩;rw [ha] at hi0 hn K2;rw [hb] at hf0 hn;have g0:=hx 0 z4;replace hn:=Hz hn;replace hx:=Hz hx;clear h00;replace hX:=Hz hX;replace ht:=Hz ht;replace hD:=Hz hD;clear hdi hdf hi hf;go_enter Tryz.func75,Tryz.ntmps75
 go_upto_region 5 with fail
 clear g0 z1 z2
 go_loopg [7,9] a (fun k v7 v9 wr=> ∃(j:Nat),v9= .int .i64 (j:Int)∧j+k=a∧v7= .string ⟨(ip.take j).toArray⟩∧wr=w)
 case atStart=>exact ⟨0,by go_num,by omega,by simp,rfl⟩
 case round=>
  obtain ⟨j,rfl,hj,rfl,rfl⟩:=hrel;by_cases hk0:gk=0
  ·subst hk0;obtain rfl:j=a:=by omega
   have l1:j<t.length:=by have:=hn.out;omega
   have l2:(j:Int)<(t.length:Int):=by omega
   have g1:=hx.out j l1;rw [K2] at g1;have j0: ¬(j:Int)=0:=by omega
   have w1:IntKind.i64.wrap ((j:Int)+1)=(j:Int)+1:=IntWalk.i64_in _ (by omega)
   rw [←ha,List.take_length];clear hj;go_upto_region 13 with fail
   rw [ha] at K3;clear g1 l1 l2 j0 w1
   go_loopg [7,8,9] b (fun k v7 v8 v9 wr2=> ∃(i:Nat) (z:Int),v9= .int .i64 z∧z=((j+1+i:Nat):Int)∧i+k=b∧v7= .string ⟨(ip++fp.take i).toArray⟩∧v8= .int .i64 (-(i:Int))∧wr2=wr)
   case atStart=>exact ⟨0,(j:Int)+1,rfl,by omega,by omega,by simp,by first|rfl|go_num,rfl⟩
   case round=>
    obtain ⟨i,z,rfl,hz,hi2,rfl,rfl,rfl⟩:=hrel;by_cases hk0:gk=0
    ·subst hk0;obtain rfl:i=b:=by omega
     rw [←hb,List.take_length,hb];clear hi2;have hnl:=hn.out;obtain ⟨m,hm⟩: ∃m,j+1+i=m:=⟨_,rfl⟩;rw [hm] at hz;subst hz;have hbL:ip.length+fp.length≤3000:=by omega
     have w1:IntKind.i64.wrap ((j:Int)+1)=(j:Int)+1:=IntWalk.i64_in _ (by omega)
     have n1:((m:Int)==(j:Int)+1)=false:=by simp;omega
     have n2: ¬(m:Int)=(j:Int)+1:=by omega
     rcases hX.out with ⟨he,hXv⟩|⟨sg,ds,he,hdn,hdg,hd4,hsg⟩
     ·have l1: ¬(m:Int)<(t.length:Int):=by rw [he] at hnl;simp at hnl;omega
      have l2:((m:Int)==(t.length:Int))=true:=by rw [he] at hnl;simp at hnl;simp;omega
      have l3:(j:Int)<(m:Int):=by omega
      have hR:X= -(i:Int):=by omega
      replace hm:=Hz hm;replace hnl:=Hz hnl;replace hXv:=Hz hXv;replace hR:=Hz hR;clear he hbL;go_wp2;rw [hD.out,hR.out];refine bodyPost_ret (v:= .tuple #[.bool false,.string ⟨(ip++fp).toArray⟩,.int .i64 (-(i:Int)),.bool true]) (by simp [results,Tryz.results75,go_sem, *]) rfl ?_
      exact ⟨rfl,Fr.refl _ _⟩
     ·have hds0:0<ds.length:=List.length_pos_iff.2 hdn;rw [he,List.length_cons,List.length_cons] at hnl;have hml:(ip++46::fp).length=m:=by simp;omega
      have hml2:(ip++46::fp++[101]).length=m+1:=by rw [List.length_append,hml];rfl
      have ht1:t=(ip++46::fp)++101::(sg::ds):=by rw [ht.out,he];simp
      have htS:t=(ip++46::fp++[101])++sg::ds:=by rw [ht1];simp
      have b0:bt' t m=101:=by rw [ht1,←hml,bt_mid];rfl
      have K5:Hid (∀j' (h:j'<ds.length),48≤bt' t (m+2+j')∧bt' t (m+2+j')≤57∧ds[j'].toNat=bt' t (m+2+j')):=Hz (fun j' h=>by
       have ht2:t=(ip++46::fp++[101,sg])++(ds++[]):=by rw [ht1];simp
       have hl2:(ip++46::fp++[101,sg]).length=m+2:=by rw [List.length_append,hml];rfl
       obtain ⟨h1,h2,h3,h4⟩:=dg_at (l:=ip++46::fp++[101,sg]) (m:=ds) (r:=[]) hdg j' h;rw [hl2] at h1 h2 h3;rw [←ht2] at h1 h2 h3;refine ⟨h2,h3,?_⟩
       unfold bt';rw [List.getD_eq_getElem?_getD,List.getElem?_eq_getElem h1];simp only [Option.getD_some];rw [←h4]
       congr 1
       simp only [hl2,←ht2])
      have l1:m<t.length:=by omega
      have l2:(m:Int)<(t.length:Int):=by omega
      have g1:=hx.out m l1;rw [b0] at g1;have l3:m+1<t.length:=by omega
      have l4:(m:Int)+1<(t.length:Int):=by omega
      have g2:=hx.out (m+1) l3;have w5:IntKind.i64.wrap ((m:Int)+1)=(m:Int)+1:=IntWalk.i64_in _ (by omega)
      have w6:IntKind.i64.wrap ((m:Int)+1+1)=(m:Int)+1+1:=IntWalk.i64_in _ (by omega)
      have n3:((m:Int)+1+1==(t.length:Int))=false:=by simp;omega
      have n4: ¬(m:Int)+1+1=(t.length:Int):=by omega
      have hsg2:sg=43∨sg=45:=by rcases hsg with ⟨h,_⟩|⟨h,_⟩<;>simp [h]
      replace hsg:=Hz hsg;clear he hdn hdg b0 hml ht1;replace hm:=Hz hm;rcases hsg2 with rfl|rfl
      ·have b1:bt' t (m+1)=43:=by rw [htS,←hml2,bt_mid];rfl
       rw [b1] at g2;clear htS;replace hnl:=Hz hnl;go_upto_region 28 with fail
       go_loopg [9,12] ds.length (fun k v9 v12 wr2=> ∃(i' v:Nat) (z:Int),v9= .int .i64 z∧z=((m+2+i':Nat):Int)∧i'+k=ds.length∧v12= .int .i64 (v:Int)∧v=dvB (ds.take i')∧v<10^i'∧wr2=wr)
       case atStart=>exact ⟨0,0,(m:Int)+1+1,by first|rfl|go_num,by omega,by omega,rfl,by simp [dvB,dv],by simp,rfl⟩
       case round=>
        obtain ⟨i',v,z,rfl,hz,hi3,rfl,hv,hv2,rfl⟩:=hrel;by_cases hk0:gk=0
        ·subst hk0;obtain rfl:i'=ds.length:=by omega
         rw [List.take_length] at hv;have hv4:v<10000:=Nat.lt_of_lt_of_le hv2 (Nat.le_trans (Nat.pow_le_pow_right (by omega) hd4) (by decide))
         have hnl9:=hnl.out;have l1: ¬z<(t.length:Int):=by have:=hm.out;omega
         have l2:(z==(t.length:Int))=true:=by have:=hm.out;simp;omega
         have l3:(j:Int)<z:=by have:=hm.out;omega
         clear hnl9;have w3:IntKind.i64.wrap ((v:Int))=(v:Int):=IntWalk.i64_in _ (by omega)
         have w4:IntKind.i64.wrap (-(i:Int)+(v:Int))= -(i:Int)+(v:Int):=IntWalk.i64_in _ (by omega)
         have hR:X= -(i:Int)+(v:Int):=by rcases hsg.out with ⟨h1,h2⟩|⟨h1,h2⟩<;>first|(exact absurd h1 (by decide))|omega
         replace hR:=Hz hR;replace hv:=Hz hv;replace hz:=Hz hz;clear hv2 hi3;go_wp2;rw [hD.out,hR.out];refine bodyPost_ret (v:= .tuple #[.bool false,.string ⟨(ip++fp).toArray⟩,.int .i64 (-(i:Int)+(v:Int)),.bool true]) (by simp [results,Tryz.results75,go_sem, *]) rfl ?_
         exact ⟨rfl,Fr.refl _ _⟩
        ·obtain ⟨q,rfl⟩: ∃q,gk=q+1:=⟨gk-1,by omega⟩
         have hja:i'<ds.length:=by omega
         obtain ⟨d1,d2,d3⟩:=K5.out i' hja;obtain ⟨m2,hm2⟩: ∃m2,m+2+i'=m2:=⟨_,rfl⟩;rw [hm2] at d1 d2 d3 hz;subst hz;have l1:m2<t.length:=by have:=hm.out;have:=hnl.out;omega
         have l2:(m2:Int)<(t.length:Int):=by omega
         have g1:=hx.out m2 l1;obtain ⟨x,hx1⟩: ∃x,bt' t m2=x:=⟨_,rfl⟩;rw [hx1] at g1 d1 d2 d3;have e1:(48:Int)≤(x:Int):=by omega
         have e2:(x:Int)≤57:=by omega
         have p3:10^i'≤10^3:=Nat.pow_le_pow_right (by omega) (by omega)
         have p4:10^3=1000:=by decide
         have e3:(v:Int)<10000:=by omega
         have w1a:IntKind.i64.wrap ((m2:Int)+1)=(m2:Int)+1:=IntWalk.i64_in _ (by omega)
         have w2a:IntKind.i64.wrap (10*(v:Int))=10*(v:Int):=IntWalk.i64_in _ (by omega)
         have w3a:IntKind.u8.wrap ((x:Int)-48)=(x:Int)-48:=IntWalk.u8_in _ (by omega)
         have w4a:IntKind.i64.wrap (10*(v:Int)+((x:Int)-48))=10*(v:Int)+((x:Int)-48):=IntWalk.i64_in _ (by omega)
         have hv5:=Hz (show v*10+(x-48)=dvB (ds.take (i'+1)) by rw [take_snoc'' ds i' hja,dvB_append,←hv,show dvB [ds[i']]=ds[i'].toNat-48 by simp [dvB,dv],d3];simp)
         have hv6:v*10+(x-48)<10^(i'+1):=by rw [Nat.pow_succ];omega
         replace hv:=Hz hv;replace hv6:=Hz hv6;replace hm2:=Hz hm2;clear hk0 p3 p4 hv2 d3;go_wp2
         go_roundg q
         case measure=>omega
         case rel=>exact ⟨i'+1,v*10+(x-48),(m2:Int)+1,rfl,by have:=hm2.out;omega,by omega,by first|go_num|(congr 1;omega),hv5.out,hv6.out,rfl⟩
      ·have b1:bt' t (m+1)=45:=by rw [htS,←hml2,bt_mid];rfl
       rw [b1] at g2;clear htS;replace hnl:=Hz hnl;go_upto_region 28 with fail
       go_loopg [9,12] ds.length (fun k v9 v12 wr2=> ∃(i' v:Nat) (z:Int),v9= .int .i64 z∧z=((m+2+i':Nat):Int)∧i'+k=ds.length∧v12= .int .i64 (v:Int)∧v=dvB (ds.take i')∧v<10^i'∧wr2=wr)
       case atStart=>exact ⟨0,0,(m:Int)+1+1,by first|rfl|go_num,by omega,by omega,rfl,by simp [dvB,dv],by simp,rfl⟩
       case round=>
        obtain ⟨i',v,z,rfl,hz,hi3,rfl,hv,hv2,rfl⟩:=hrel;by_cases hk0:gk=0
        ·subst hk0;obtain rfl:i'=ds.length:=by omega
         rw [List.take_length] at hv;have hv4:v<10000:=Nat.lt_of_lt_of_le hv2 (Nat.le_trans (Nat.pow_le_pow_right (by omega) hd4) (by decide))
         have hnl9:=hnl.out;have l1: ¬z<(t.length:Int):=by have:=hm.out;omega
         have l2:(z==(t.length:Int))=true:=by have:=hm.out;simp;omega
         have l3:(j:Int)<z:=by have:=hm.out;omega
         clear hnl9;have w3:IntKind.i64.wrap (-(v:Int))= -(v:Int):=IntWalk.i64_in _ (by omega)
         have w4:IntKind.i64.wrap (-(i:Int)+ -(v:Int))= -(i:Int)+ -(v:Int):=IntWalk.i64_in _ (by omega)
         have hR:X= -(i:Int)+ -(v:Int):=by rcases hsg.out with ⟨h1,h2⟩|⟨h1,h2⟩<;>first|(exact absurd h1 (by decide))|omega
         replace hR:=Hz hR;replace hv:=Hz hv;replace hz:=Hz hz;clear hv2 hi3;go_wp2;rw [hD.out,hR.out];refine bodyPost_ret (v:= .tuple #[.bool false,.string ⟨(ip++fp).toArray⟩,.int .i64 (-(i:Int)+ -(v:Int)),.bool true]) (by simp [results,Tryz.results75,go_sem, *]) rfl ?_
         exact ⟨rfl,Fr.refl _ _⟩
        ·obtain ⟨q,rfl⟩: ∃q,gk=q+1:=⟨gk-1,by omega⟩
         have hja:i'<ds.length:=by omega
         obtain ⟨d1,d2,d3⟩:=K5.out i' hja;obtain ⟨m2,hm2⟩: ∃m2,m+2+i'=m2:=⟨_,rfl⟩;rw [hm2] at d1 d2 d3 hz;subst hz;have l1:m2<t.length:=by have:=hm.out;have:=hnl.out;omega
         have l2:(m2:Int)<(t.length:Int):=by omega
         have g1:=hx.out m2 l1;obtain ⟨x,hx1⟩: ∃x,bt' t m2=x:=⟨_,rfl⟩;rw [hx1] at g1 d1 d2 d3;have e1:(48:Int)≤(x:Int):=by omega
         have e2:(x:Int)≤57:=by omega
         have p3:10^i'≤10^3:=Nat.pow_le_pow_right (by omega) (by omega)
         have p4:10^3=1000:=by decide
         have e3:(v:Int)<10000:=by omega
         have w1a:IntKind.i64.wrap ((m2:Int)+1)=(m2:Int)+1:=IntWalk.i64_in _ (by omega)
         have w2a:IntKind.i64.wrap (10*(v:Int))=10*(v:Int):=IntWalk.i64_in _ (by omega)
         have w3a:IntKind.u8.wrap ((x:Int)-48)=(x:Int)-48:=IntWalk.u8_in _ (by omega)
         have w4a:IntKind.i64.wrap (10*(v:Int)+((x:Int)-48))=10*(v:Int)+((x:Int)-48):=IntWalk.i64_in _ (by omega)
         have hv5:=Hz (show v*10+(x-48)=dvB (ds.take (i'+1)) by rw [take_snoc'' ds i' hja,dvB_append,←hv,show dvB [ds[i']]=ds[i'].toNat-48 by simp [dvB,dv],d3];simp)
         have hv6:v*10+(x-48)<10^(i'+1):=by rw [Nat.pow_succ];omega
         replace hv:=Hz hv;replace hv6:=Hz hv6;replace hm2:=Hz hm2;clear hk0 p3 p4 hv2 d3;go_wp2
         go_roundg q
         case measure=>omega
         case rel=>exact ⟨i'+1,v*10+(x-48),(m2:Int)+1,rfl,by have:=hm2.out;omega,by omega,by first|go_num|(congr 1;omega),hv5.out,hv6.out,rfl⟩
    ·obtain ⟨q,rfl⟩: ∃q,gk=q+1:=⟨gk-1,by omega⟩
     have hja:i<fp.length:=by omega
     obtain ⟨d1,d2,d3⟩:=K3.out i hja;obtain ⟨m,hm⟩: ∃m,j+1+i=m:=⟨_,rfl⟩;rw [hm] at d1 d2 d3 hz;subst hz;have l1:m<t.length:=by have:=hn.out;omega
     have l2:(m:Int)<(t.length:Int):=by omega
     have g1:=hx.out m l1;obtain ⟨x,hx1⟩: ∃x,bt' t m=x:=⟨_,rfl⟩;rw [hx1] at g1 d1 d2;have e1:(48:Int)≤(x:Int):=by omega
     have e2:(x:Int)≤57:=by omega
     have w1:IntKind.i64.wrap ((m:Int)+1)=(m:Int)+1:=IntWalk.i64_in _ (by omega)
     have w2:IntKind.i64.wrap (-(i:Int)-1)= -(i:Int)-1:=IntWalk.i64_in _ (by omega)
     have hPl:(ip++fp.take i).length≤6000:=by simp;omega
     have htk:=Hz (take_snoc'' fp i hja);obtain ⟨y,hy⟩: ∃y,fp[i]=y:=⟨_,rfl⟩;rw [hy] at d3 htk;obtain ⟨P,hP⟩: ∃P,ip++fp.take i=P:=⟨_,rfl⟩;rw [hP] at hPl ⊢;have q1: ¬9223372036854775807<P.length+1:=by omega
     have l3:(m:Int)+1≤(t.length:Int):=by omega
     have l4:m+1≤t.length:=by omega
     replace hP:=Hz hP;replace hm:=Hz hm;clear hk0;go_wp2
     go_roundg q
     case measure=>omega
     case rel=>exact ⟨i+1,(m:Int)+1,rfl,by have:=hm.out;omega,by omega,by rw [htk.out,←List.append_assoc,hP.out];first|rfl|simp [mk_append],by first|rfl|go_num,rfl⟩
  ·obtain ⟨q,rfl⟩: ∃q,gk=q+1:=⟨gk-1,by omega⟩
   have hja:j<ip.length:=by omega
   obtain ⟨d1,d2,d3⟩:=K1.out j hja;have l1:j<t.length:=by have:=hn.out;omega
   have l2:(j:Int)<(t.length:Int):=by omega
   have g1:=hx.out j l1;obtain ⟨x,hx1⟩: ∃x,bt' t j=x:=⟨_,rfl⟩;rw [hx1] at g1 d1 d2;have e1:(48:Int)≤(x:Int):=by omega
   have e2:(x:Int)≤57:=by omega
   have w1:IntKind.i64.wrap ((j:Int)+1)=(j:Int)+1:=IntWalk.i64_in _ (by omega)
   have q1: ¬9223372036854775807<(ip.take j).length+1:=by simp;omega
   have htk:=Hz (take_snoc'' ip j hja);obtain ⟨y,hy⟩: ∃y,ip[j]=y:=⟨_,rfl⟩;rw [hy] at d3 htk;generalize ip.take j=P at *
   have l3:(j:Int)+1≤(t.length:Int):=by omega
   have l4:j+1≤t.length:=by omega
   clear hk0;go_wp2
   go_roundg q
   case measure=>omega
   case rel=>exact ⟨j+1,by go_num,by omega,by rw [htk.out];first|rfl|simp [mk_append],rfl⟩
end
section
open Go.RowKit
theorem number1 {t D:List UInt8} {X:Int} (hN:NumT t D X) (hl:t.length≤3000) (w:World):
  Calls Tryz.prog 75 #[.string ⟨(45::t).toArray⟩] w fun e w'=>e= .returned (.tuple #[.bool true,.string ⟨D.toArray⟩,.int .i64 X,.bool true])∧Fr [] w w':=by
 obtain ⟨ip,fp,ep,ht,hi,hf,hdi,hdf,hD,hX⟩:=hN;have hi0:0<ip.length:=List.length_pos_iff.2 hi;have hf0:0<fp.length:=List.length_pos_iff.2 hf;have hx: ∀j,(h:j<t.length)→((⟨t.toArray⟩:ByteArray)[j]'(by show j<t.toArray.size;simpa using h)).toNat=bt' t j:=bt_at t
 have q2:(⟨t.toArray⟩:ByteArray).size=t.length:=by simp [ByteArray.size]
 have hn:t.length=ip.length+1+(fp.length+ep.length):=by rw [ht];simp;omega
 have K1:Hid (∀j (h:j<ip.length),48≤bt' t j∧bt' t j≤57∧(⟨t.toArray⟩:ByteArray).extract j (j+1)=⟨[ip[j]].toArray⟩):=Hz (fun j h=>by
  subst ht;obtain ⟨h1,h2,h3,h4⟩:=dg_at (l:=[]) (m:=ip) (r:=46::(fp++ep)) hdi j h;simp only [List.nil_append,List.length_nil,Nat.zero_add] at h1 h2 h3 h4;exact ⟨h2,h3,by rw [ext_one _ _ h1,h4]⟩)
 have K2:bt' t ip.length=46:=by rw [ht,bt_mid];rfl
 have K3:Hid (∀j (h:j<fp.length),48≤bt' t (ip.length+1+j)∧bt' t (ip.length+1+j)≤57∧(⟨t.toArray⟩:ByteArray).extract (ip.length+1+j) (ip.length+1+j+1)=⟨[fp[j]].toArray⟩):=Hz (fun j h=>by
  have ht2:t=(ip++[46])++(fp++ep):=by rw [ht];simp
  subst ht2;obtain ⟨h1,h2,h3,h4⟩:=dg_at (l:=ip++[46]) (m:=fp) (r:=ep) hdf j h;simp only [List.length_append,List.length_singleton] at h1 h2 h3 h4;exact ⟨h2,h3,by rw [ext_one _ _ (by simp;omega),h4]⟩)
 have h00:=(K1.out 0 hi0);have z1: ¬(bt' t 0:Int)=45:=by omega
 have z2:((bt' t 0:Int)==45)=false:=by simp;omega
 have z3:(0:Int)<(t.length:Int):=by omega
 have z4:0<t.length:=by omega
 have hne:t.isEmpty=false:=by cases t with|nil=>simp at z4|cons _ _=>rfl
 obtain ⟨a,ha⟩: ∃a,ip.length=a:=⟨_,rfl⟩;obtain ⟨b,hb⟩: ∃b,fp.length=b:=⟨_,rfl⟩;rw [ha] at hi0 hn K2;rw [hb] at hf0 hn;have g0:=hx 0 z4;replace hn:=Hz hn;replace hx:=Hz hx;clear h00;replace hX:=Hz hX;replace ht:=Hz ht;replace hD:=Hz hD;clear hdi hdf hi hf;have ex:(⟨(45::t).toArray⟩:ByteArray).extract 1 (t.length+1)=⟨t.toArray⟩:=by
  have h:=str_drop (45::t) 1 (by simp)
  rw [List.length_cons] at h;rw [h]
  rfl
 go_enter Tryz.func75,Tryz.ntmps75
 go_upto_region 5 with fail
 clear g0 z1 z2
 go_loopg [7,9] a (fun k v7 v9 wr=> ∃(j:Nat),v9= .int .i64 (j:Int)∧j+k=a∧v7= .string ⟨(ip.take j).toArray⟩∧wr=w)
 case atStart=>exact ⟨0,by go_num,by omega,by simp,rfl⟩
 case round=>
  obtain ⟨j,rfl,hj,rfl,rfl⟩:=hrel;by_cases hk0:gk=0
  ·subst hk0;obtain rfl:j=a:=by omega
   have l1:j<t.length:=by have:=hn.out;omega
   have l2:(j:Int)<(t.length:Int):=by omega
   have g1:=hx.out j l1;rw [K2] at g1;have j0: ¬(j:Int)=0:=by omega
   have w1:IntKind.i64.wrap ((j:Int)+1)=(j:Int)+1:=IntWalk.i64_in _ (by omega)
   rw [←ha,List.take_length];clear hj;go_upto_region 13 with fail
   rw [ha] at K3;clear g1 l1 l2 j0 w1
   go_loopg [7,8,9] b (fun k v7 v8 v9 wr2=> ∃(i:Nat) (z:Int),v9= .int .i64 z∧z=((j+1+i:Nat):Int)∧i+k=b∧v7= .string ⟨(ip++fp.take i).toArray⟩∧v8= .int .i64 (-(i:Int))∧wr2=wr)
   case atStart=>exact ⟨0,(j:Int)+1,rfl,by omega,by omega,by simp,by first|rfl|go_num,rfl⟩
   case round=>
    obtain ⟨i,z,rfl,hz,hi2,rfl,rfl,rfl⟩:=hrel;by_cases hk0:gk=0
    ·subst hk0;obtain rfl:i=b:=by omega
     rw [←hb,List.take_length,hb];clear hi2;have hnl:=hn.out;obtain ⟨m,hm⟩: ∃m,j+1+i=m:=⟨_,rfl⟩;rw [hm] at hz;subst hz;have hbL:ip.length+fp.length≤3000:=by omega
     have w1:IntKind.i64.wrap ((j:Int)+1)=(j:Int)+1:=IntWalk.i64_in _ (by omega)
     have n1:((m:Int)==(j:Int)+1)=false:=by simp;omega
     have n2: ¬(m:Int)=(j:Int)+1:=by omega
     rcases hX.out with ⟨he,hXv⟩|⟨sg,ds,he,hdn,hdg,hd4,hsg⟩
     ·have l1: ¬(m:Int)<(t.length:Int):=by rw [he] at hnl;simp at hnl;omega
      have l2:((m:Int)==(t.length:Int))=true:=by rw [he] at hnl;simp at hnl;simp;omega
      have l3:(j:Int)<(m:Int):=by omega
      have hR:X= -(i:Int):=by omega
      replace hm:=Hz hm;replace hnl:=Hz hnl;replace hXv:=Hz hXv;replace hR:=Hz hR;clear he hbL;go_wp2;rw [hD.out,hR.out];refine bodyPost_ret (v:= .tuple #[.bool true,.string ⟨(ip++fp).toArray⟩,.int .i64 (-(i:Int)),.bool true]) (by simp [results,Tryz.results75,go_sem, *]) rfl ?_
      exact ⟨rfl,Fr.refl _ _⟩
     ·have hds0:0<ds.length:=List.length_pos_iff.2 hdn;rw [he,List.length_cons,List.length_cons] at hnl;have hml:(ip++46::fp).length=m:=by simp;omega
      have hml2:(ip++46::fp++[101]).length=m+1:=by rw [List.length_append,hml];rfl
      have ht1:t=(ip++46::fp)++101::(sg::ds):=by rw [ht.out,he];simp
      have htS:t=(ip++46::fp++[101])++sg::ds:=by rw [ht1];simp
      have b0:bt' t m=101:=by rw [ht1,←hml,bt_mid];rfl
      have K5:Hid (∀j' (h:j'<ds.length),48≤bt' t (m+2+j')∧bt' t (m+2+j')≤57∧ds[j'].toNat=bt' t (m+2+j')):=Hz (fun j' h=>by
       have ht2:t=(ip++46::fp++[101,sg])++(ds++[]):=by rw [ht1];simp
       have hl2:(ip++46::fp++[101,sg]).length=m+2:=by rw [List.length_append,hml];rfl
       obtain ⟨h1,h2,h3,h4⟩:=dg_at (l:=ip++46::fp++[101,sg]) (m:=ds) (r:=[]) hdg j' h;rw [hl2] at h1 h2 h3;rw [←ht2] at h1 h2 h3;refine ⟨h2,h3,?_⟩
       unfold bt';rw [List.getD_eq_getElem?_getD,List.getElem?_eq_getElem h1];simp only [Option.getD_some];rw [←h4]
       congr 1
       simp only [hl2,←ht2])
      have l1:m<t.length:=by omega
      have l2:(m:Int)<(t.length:Int):=by omega
      have g1:=hx.out m l1;rw [b0] at g1;have l3:m+1<t.length:=by omega
      have l4:(m:Int)+1<(t.length:Int):=by omega
      have g2:=hx.out (m+1) l3;have w5:IntKind.i64.wrap ((m:Int)+1)=(m:Int)+1:=IntWalk.i64_in _ (by omega)
      have w6:IntKind.i64.wrap ((m:Int)+1+1)=(m:Int)+1+1:=IntWalk.i64_in _ (by omega)
      have n3:((m:Int)+1+1==(t.length:Int))=false:=by simp;omega
      have n4: ¬(m:Int)+1+1=(t.length:Int):=by omega
      have hsg2:sg=43∨sg=45:=by rcases hsg with ⟨h,_⟩|⟨h,_⟩<;>simp [h]
      replace hsg:=Hz hsg;clear he hdn hdg b0 hml ht1;replace hm:=Hz hm;rcases hsg2 with rfl|rfl
      ·have b1:bt' t (m+1)=43:=by rw [htS,←hml2,bt_mid];rfl
       rw [b1] at g2;clear htS;replace hnl:=Hz hnl;go_upto_region 28 with fail
       go_loopg [9,12] ds.length (fun k v9 v12 wr2=> ∃(i' v:Nat) (z:Int),v9= .int .i64 z∧z=((m+2+i':Nat):Int)∧i'+k=ds.length∧v12= .int .i64 (v:Int)∧v=dvB (ds.take i')∧v<10^i'∧wr2=wr)
       case atStart=>exact ⟨0,0,(m:Int)+1+1,by first|rfl|go_num,by omega,by omega,rfl,by simp [dvB,dv],by simp,rfl⟩
       case round=>
        obtain ⟨i',v,z,rfl,hz,hi3,rfl,hv,hv2,rfl⟩:=hrel;by_cases hk0:gk=0
        ·subst hk0;obtain rfl:i'=ds.length:=by omega
         rw [List.take_length] at hv;have hv4:v<10000:=Nat.lt_of_lt_of_le hv2 (Nat.le_trans (Nat.pow_le_pow_right (by omega) hd4) (by decide))
         have hnl9:=hnl.out;have l1: ¬z<(t.length:Int):=by have:=hm.out;omega
         have l2:(z==(t.length:Int))=true:=by have:=hm.out;simp;omega
         have l3:(j:Int)<z:=by have:=hm.out;omega
         clear hnl9;have w3:IntKind.i64.wrap ((v:Int))=(v:Int):=IntWalk.i64_in _ (by omega)
         have w4:IntKind.i64.wrap (-(i:Int)+(v:Int))= -(i:Int)+(v:Int):=IntWalk.i64_in _ (by omega)
         have hR:X= -(i:Int)+(v:Int):=by rcases hsg.out with ⟨h1,h2⟩|⟨h1,h2⟩<;>first|(exact absurd h1 (by decide))|omega
         replace hR:=Hz hR;replace hv:=Hz hv;replace hz:=Hz hz;clear hv2 hi3;go_wp2;rw [hD.out,hR.out];refine bodyPost_ret (v:= .tuple #[.bool true,.string ⟨(ip++fp).toArray⟩,.int .i64 (-(i:Int)+(v:Int)),.bool true]) (by simp [results,Tryz.results75,go_sem, *]) rfl ?_
         exact ⟨rfl,Fr.refl _ _⟩
        ·obtain ⟨q,rfl⟩: ∃q,gk=q+1:=⟨gk-1,by omega⟩
         have hja:i'<ds.length:=by omega
         obtain ⟨d1,d2,d3⟩:=K5.out i' hja;obtain ⟨m2,hm2⟩: ∃m2,m+2+i'=m2:=⟨_,rfl⟩;rw [hm2] at d1 d2 d3 hz;subst hz;have l1:m2<t.length:=by have:=hm.out;have:=hnl.out;omega
         have l2:(m2:Int)<(t.length:Int):=by omega
         have g1:=hx.out m2 l1;obtain ⟨x,hx1⟩: ∃x,bt' t m2=x:=⟨_,rfl⟩;rw [hx1] at g1 d1 d2 d3;have e1:(48:Int)≤(x:Int):=by omega
         have e2:(x:Int)≤57:=by omega
         have p3:10^i'≤10^3:=Nat.pow_le_pow_right (by omega) (by omega)
         have p4:10^3=1000:=by decide
         have e3:(v:Int)<10000:=by omega
         have w1a:IntKind.i64.wrap ((m2:Int)+1)=(m2:Int)+1:=IntWalk.i64_in _ (by omega)
         have w2a:IntKind.i64.wrap (10*(v:Int))=10*(v:Int):=IntWalk.i64_in _ (by omega)
         have w3a:IntKind.u8.wrap ((x:Int)-48)=(x:Int)-48:=IntWalk.u8_in _ (by omega)
         have w4a:IntKind.i64.wrap (10*(v:Int)+((x:Int)-48))=10*(v:Int)+((x:Int)-48):=IntWalk.i64_in _ (by omega)
         have hv5:=Hz (show v*10+(x-48)=dvB (ds.take (i'+1)) by rw [take_snoc'' ds i' hja,dvB_append,←hv,show dvB [ds[i']]=ds[i'].toNat-48 by simp [dvB,dv],d3];simp)
         have hv6:v*10+(x-48)<10^(i'+1):=by rw [Nat.pow_succ];omega
         replace hv:=Hz hv;replace hv6:=Hz hv6;replace hm2:=Hz hm2;clear hk0 p3 p4 hv2 d3;go_wp2
         go_roundg q
         case measure=>omega
         case rel=>exact ⟨i'+1,v*10+(x-48),(m2:Int)+1,rfl,by have:=hm2.out;omega,by omega,by first|go_num|(congr 1;omega),hv5.out,hv6.out,rfl⟩
      ·have b1:bt' t (m+1)=45:=by rw [htS,←hml2,bt_mid];rfl
       rw [b1] at g2;clear htS;replace hnl:=Hz hnl;go_upto_region 28 with fail
       go_loopg [9,12] ds.length (fun k v9 v12 wr2=> ∃(i' v:Nat) (z:Int),v9= .int .i64 z∧z=((m+2+i':Nat):Int)∧i'+k=ds.length∧v12= .int .i64 (v:Int)∧v=dvB (ds.take i')∧v<10^i'∧wr2=wr)
       case atStart=>exact ⟨0,0,(m:Int)+1+1,by first|rfl|go_num,by omega,by omega,rfl,by simp [dvB,dv],by simp,rfl⟩
       case round=>
        obtain ⟨i',v,z,rfl,hz,hi3,rfl,hv,hv2,rfl⟩:=hrel;by_cases hk0:gk=0
        ·subst hk0;obtain rfl:i'=ds.length:=by omega
         rw [List.take_length] at hv;have hv4:v<10000:=Nat.lt_of_lt_of_le hv2 (Nat.le_trans (Nat.pow_le_pow_right (by omega) hd4) (by decide))
         have hnl9:=hnl.out;have l1: ¬z<(t.length:Int):=by have:=hm.out;omega
         have l2:(z==(t.length:Int))=true:=by have:=hm.out;simp;omega
         have l3:(j:Int)<z:=by have:=hm.out;omega
         clear hnl9;have w3:IntKind.i64.wrap (-(v:Int))= -(v:Int):=IntWalk.i64_in _ (by omega)
         have w4:IntKind.i64.wrap (-(i:Int)+ -(v:Int))= -(i:Int)+ -(v:Int):=IntWalk.i64_in _ (by omega)
         have hR:X= -(i:Int)+ -(v:Int):=by rcases hsg.out with ⟨h1,h2⟩|⟨h1,h2⟩<;>first|(exact absurd h1 (by decide))|omega
         replace hR:=Hz hR;replace hv:=Hz hv;replace hz:=Hz hz;clear hv2 hi3;go_wp2;rw [hD.out,hR.out];refine bodyPost_ret (v:= .tuple #[.bool true,.string ⟨(ip++fp).toArray⟩,.int .i64 (-(i:Int)+ -(v:Int)),.bool true]) (by simp [results,Tryz.results75,go_sem, *]) rfl ?_
         exact ⟨rfl,Fr.refl _ _⟩
        ·obtain ⟨q,rfl⟩: ∃q,gk=q+1:=⟨gk-1,by omega⟩
         have hja:i'<ds.length:=by omega
         obtain ⟨d1,d2,d3⟩:=K5.out i' hja;obtain ⟨m2,hm2⟩: ∃m2,m+2+i'=m2:=⟨_,rfl⟩;rw [hm2] at d1 d2 d3 hz;subst hz;have l1:m2<t.length:=by have:=hm.out;have:=hnl.out;omega
         have l2:(m2:Int)<(t.length:Int):=by omega
         have g1:=hx.out m2 l1;obtain ⟨x,hx1⟩: ∃x,bt' t m2=x:=⟨_,rfl⟩;rw [hx1] at g1 d1 d2 d3;have e1:(48:Int)≤(x:Int):=by omega
         have e2:(x:Int)≤57:=by omega
         have p3:10^i'≤10^3:=Nat.pow_le_pow_right (by omega) (by omega)
         have p4:10^3=1000:=by decide
         have e3:(v:Int)<10000:=by omega
         have w1a:IntKind.i64.wrap ((m2:Int)+1)=(m2:Int)+1:=IntWalk.i64_in _ (by omega)
         have w2a:IntKind.i64.wrap (10*(v:Int))=10*(v:Int):=IntWalk.i64_in _ (by omega)
         have w3a:IntKind.u8.wrap ((x:Int)-48)=(x:Int)-48:=IntWalk.u8_in _ (by omega)
         have w4a:IntKind.i64.wrap (10*(v:Int)+((x:Int)-48))=10*(v:Int)+((x:Int)-48):=IntWalk.i64_in _ (by omega)
         have hv5:=Hz (show v*10+(x-48)=dvB (ds.take (i'+1)) by rw [take_snoc'' ds i' hja,dvB_append,←hv,show dvB [ds[i']]=ds[i'].toNat-48 by simp [dvB,dv],d3];simp)
         have hv6:v*10+(x-48)<10^(i'+1):=by rw [Nat.pow_succ];omega
         replace hv:=Hz hv;replace hv6:=Hz hv6;replace hm2:=Hz hm2;clear hk0 p3 p4 hv2 d3;go_wp2
         go_roundg q
         case measure=>omega
         case rel=>exact ⟨i'+1,v*10+(x-48),(m2:Int)+1,rfl,by have:=hm2.out;omega,by omega,by first|go_num|(congr 1;omega),hv5.out,hv6.out,rfl⟩
    ·obtain ⟨q,rfl⟩: ∃q,gk=q+1:=⟨gk-1,by omega⟩
     have hja:i<fp.length:=by omega
     obtain ⟨d1,d2,d3⟩:=K3.out i hja;obtain ⟨m,hm⟩: ∃m,j+1+i=m:=⟨_,rfl⟩;rw [hm] at d1 d2 d3 hz;subst hz;have l1:m<t.length:=by have:=hn.out;omega
     have l2:(m:Int)<(t.length:Int):=by omega
     have g1:=hx.out m l1;obtain ⟨x,hx1⟩: ∃x,bt' t m=x:=⟨_,rfl⟩;rw [hx1] at g1 d1 d2;have e1:(48:Int)≤(x:Int):=by omega
     have e2:(x:Int)≤57:=by omega
     have w1:IntKind.i64.wrap ((m:Int)+1)=(m:Int)+1:=IntWalk.i64_in _ (by omega)
     have w2:IntKind.i64.wrap (-(i:Int)-1)= -(i:Int)-1:=IntWalk.i64_in _ (by omega)
     have hPl:(ip++fp.take i).length≤6000:=by simp;omega
     have htk:=Hz (take_snoc'' fp i hja);obtain ⟨y,hy⟩: ∃y,fp[i]=y:=⟨_,rfl⟩;rw [hy] at d3 htk;obtain ⟨P,hP⟩: ∃P,ip++fp.take i=P:=⟨_,rfl⟩;rw [hP] at hPl ⊢;have q1: ¬9223372036854775807<P.length+1:=by omega
     have l3:(m:Int)+1≤(t.length:Int):=by omega
     have l4:m+1≤t.length:=by omega
     replace hP:=Hz hP;replace hm:=Hz hm;clear hk0;go_wp2
     go_roundg q
     case measure=>omega
     case rel=>exact ⟨i+1,(m:Int)+1,rfl,by have:=hm.out;omega,by omega,by rw [htk.out,←List.append_assoc,hP.out];first|rfl|simp [mk_append],by first|rfl|go_num,rfl⟩
  ·obtain ⟨q,rfl⟩: ∃q,gk=q+1:=⟨gk-1,by omega⟩
   have hja:j<ip.length:=by omega
   obtain ⟨d1,d2,d3⟩:=K1.out j hja;have l1:j<t.length:=by have:=hn.out;omega
   have l2:(j:Int)<(t.length:Int):=by omega
   have g1:=hx.out j l1;obtain ⟨x,hx1⟩: ∃x,bt' t j=x:=⟨_,rfl⟩;rw [hx1] at g1 d1 d2;have e1:(48:Int)≤(x:Int):=by omega
   have e2:(x:Int)≤57:=by omega
   have w1:IntKind.i64.wrap ((j:Int)+1)=(j:Int)+1:=IntWalk.i64_in _ (by omega)
   have q1: ¬9223372036854775807<(ip.take j).length+1:=by simp;omega
   have htk:=Hz (take_snoc'' ip j hja);obtain ⟨y,hy⟩: ∃y,ip[j]=y:=⟨_,rfl⟩;rw [hy] at d3 htk;generalize ip.take j=P at *
   have l3:(j:Int)+1≤(t.length:Int):=by omega
   have l4:j+1≤t.length:=by omega
   clear hk0;go_wp2
   go_roundg q
   case measure=>omega
   case rel=>exact ⟨j+1,by go_num,by omega,by rw [htk.out];first|rfl|simp [mk_append],rfl⟩
end
end Go.Proofs.YteodinhkhhaafaaGreatDoor
