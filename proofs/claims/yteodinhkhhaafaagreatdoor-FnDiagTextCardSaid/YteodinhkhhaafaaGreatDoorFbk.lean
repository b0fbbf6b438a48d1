/- Walks of the program, and plain facts. -/
import Derived.Test.YteodinhkhhaafaaGreatDoorFbj
import Derived.Test.YteodinhkhhaafaaGreatDoorFbb
import Derived.Deep.Onto
import Derived.Test.YteodinhkhhaafaaGreatDoorFbi
set_option linter.unusedVariables false
set_option linter.unusedSimpArgs false
set_option maxRecDepth 100000
set_option maxHeartbeats 6400000
namespace Go.Proofs.YteodinhkhhaafaaGreatDoor
section
open Go.RowKit
theorem nanW (x:Nat) (hx:x<18446744073709551616) (w:World):Calls Tryz.prog 43 #[.int .u64 (x:Int)] w fun e w'=>e= .returned (.bool (decide (18437736874454810624<x*2%18446744073709551616)))∧Fr [] w w':=by
 have g:IntKind.u64.wrap ((x:Int)*2)=((x*2%18446744073709551616:Nat):Int):=by show (x:Int)*2%18446744073709551616=_;omega
 obtain ⟨y,hy⟩: ∃y,x*2%18446744073709551616=y:=⟨_,rfl⟩;rw [hy] at g ⊢;have g2:decide ((18437736874454810624:Int)<(y:Int))=decide (18437736874454810624<y):=by rw [decide_eq_decide];omega
 go_enter Tryz.func43,Tryz.ntmps43
 go_wp2;go_ret
 exact ⟨rfl,Fr.refl _ _⟩
theorem infW (x:Nat) (hx:x<18446744073709551616) (w:World):Calls Tryz.prog 44 #[.int .u64 (x:Int)] w fun e w'=>e= .returned (.bool (decide (x*2%18446744073709551616=18437736874454810624)))∧Fr [] w w':=by
 have g:IntKind.u64.wrap ((x:Int)*2)=((x*2%18446744073709551616:Nat):Int):=by show (x:Int)*2%18446744073709551616=_;omega
 obtain ⟨y,hy⟩: ∃y,x*2%18446744073709551616=y:=⟨_,rfl⟩;rw [hy] at g ⊢;have g2:((y:Int)==18437736874454810624)=decide (y=18437736874454810624):=by rw [Bool.eq_iff_iff];simp;omega
 go_enter Tryz.func44,Tryz.ntmps44
 go_wp2;go_ret
 exact ⟨rfl,Fr.refl _ _⟩
def strip0:List UInt8→List UInt8
 |[]=>[]
 |b::l=>if b=0 then strip0 l else b::l
end
section
open Go.RowKit
theorem row_set {w:World} {B:Nat} {g n c:Nat} {bs:List UInt8} (h:Row w B (.slice (some ⟨g,0,none⟩) n c) bs) (i:Nat) (hi:i<bs.length) (b':UInt8):
  B≤g∧w.cell? ⟨g,i,none⟩=some (.int .u8 (bs[i].toNat:Int))∧w.frozen? ⟨g,i,none⟩=false∧Row (w.setCell ⟨g,i,none⟩ (.int .u8 (b'.toNat:Int))) B (.slice (some ⟨g,0,none⟩) n c) (bs.set i b'):=by
 have hn:=row_len h;subst hn;rcases h.2 with ⟨hv,h0⟩|⟨g',cap,cur,hv,hg,hh,hc,hm,hs,ht⟩
 ·rw [h0] at hi;omega
 ·injection hv with e1 e2 e3
  injection e1 with e1
  injection e1 with e1
  subst e1 e3;have hsz:i<cur.size:=by omega
  have h1:(cur.toList.take (bs.length*1))[i]? =(enc bs)[i]? :=by rw [ht]
  rw [Nat.mul_one,List.getElem?_take_of_lt hi,Array.getElem?_toList] at h1;refine ⟨hg,by rw [cell_blk hh,h1];simp [enc,hi],frozen_blk hh _,?_⟩
  have hb2:=blk_setCell hh i (.int .u8 (b'.toNat:Int));refine ⟨by simp [enc],.inr ⟨g,c,_,by simp,hg,hb2,by simpa using hc,hm,by simp [hs],?_⟩⟩
  rw [Array.toList_setIfInBounds,List.length_set,List.take_set,ht];simp [enc,List.map_set]
theorem be_foldl: ∀(ys:List UInt8) (a:Nat),List.foldl (fun a (b:UInt8)=>a*256+b.toNat) a ys=a*256^ys.length+be ys
 |[],a=>by simp [be]
 |y::ys,a=>by
  have h1:=be_foldl ys (a*256+y.toNat);have h2:=be_foldl ys y.toNat;rw [List.foldl_cons,h1,show be (y::ys)=List.foldl (fun a (b:UInt8)=>a*256+b.toNat) y.toNat ys by simp [be],h2,List.length_cons,Nat.pow_succ,Nat.add_mul,Nat.mul_assoc,Nat.mul_comm 256,Nat.add_assoc]
theorem be_app (xs ys:List UInt8):be (xs++ys)=be xs*256^ys.length+be ys:=by
 show List.foldl _ _ _=_
 rw [List.foldl_append,be_foldl]
 rfl
theorem times_step {bs D:List UInt8} {q p by_:Nat} (hq:q<bs.length) (b':UInt8) (hb:b'.toNat=(p+bs[q].toNat*by_)%256) (V:Nat)
  (h:(be (bs.take (q+1))*by_+p)*256^D.length+be D=V):(be (bs.take q)*by_+(p+bs[q].toNat*by_)/256)*256^(b'::D).length+be (b'::D)=V:=by
 rw [be_take bs q hq] at h;rw [show b'::D=[b']++D from rfl,be_app,show be [b']=b'.toNat by simp [be],hb,List.length_append,List.length_singleton,Nat.add_comm 1,Nat.pow_succ]
 generalize be (bs.take q)=A at *
 generalize 256^D.length=P at *
 generalize bs[q].toNat=x at *
 rw [←h];have e:p+x*by_=(p+x*by_)/256*256+(p+x*by_)%256:=by omega
 generalize (p+x*by_)/256=Q at *
 generalize (p+x*by_)%256=R at *
 have e2:(A*256+x)*by_+p=(A*by_+Q)*256+R:=by
  rw [Nat.add_mul,Nat.add_mul,Nat.mul_right_comm];omega
 rw [e2,Nat.add_mul ((A*by_+Q)*256),Nat.mul_comm P 256,←Nat.mul_assoc,Nat.add_assoc]
theorem set_take {bs D:List UInt8} {q:Nat} (hq:q<bs.length) (b':UInt8):(bs.take (q+1)++D).set q b'=bs.take q++b'::D:=by
 rw [List.take_add_one,List.getElem?_eq_getElem hq];simp only [Option.toList];rw [List.append_assoc,List.set_append_right _ _ (by simp;omega)]
 have e:q-(bs.take q).length=0:=by simp;omega
 rw [e];rfl
theorem timesW {w:World} {B:Nat} {v:Value} {bs:List UInt8} (hr:Row w B v bs) (hB:B≤w.heap.size) (hne:bs≠[]) (hl:bs.length≤100000) (f p0:Nat) (hf:f≤10) (hp:p0≤255):
  Calls Tryz.prog 76 #[v,.int .i64 (f:Int),.int .i64 (p0:Int)] w fun e w'=> ∃v' bs',e= .returned v'∧Row w' w.heap.size v' bs'∧bs'≠[]∧bs'.length≤bs.length+1∧be bs'=be bs*f+p0∧Fr [] w w':=by
 obtain ⟨g0,cap0,cs0,rfl,hg0,hh0,_,_,_⟩:=hr.raw hne;have hrd:Rd w g0 0 bs:=Rd.of_own hr;replace hr:=Hz hr;go_enter Tryz.func76,Tryz.ntmps76
 have hrow0:Row (w.alloc (.cells #[] 5)) w.heap.size (.slice (some ⟨w.heap.size,0,none⟩) 0 0) []:=row_empty (w:=w) rfl (Nat.le_refl _);have hrd0:Rd (w.alloc (.cells #[] 5)) g0 0 bs:=hrd.push rfl;go_wp2_with (at_builtin;refine wpList_apRow rfl _ _ rfl (B:=w.heap.size) _ [] bs g0 0 cap0 rfl rfl hrd0 hrow0 (by simp) (by simp;omega) ?_)
 intro v1 w1 hr1 hg1;have hF1:Fr [] w w1:=Fr.grown ((Fr.refl [] w).alloc _) hg1 (fun k hk=> .inr (World.ownsRow.lt hrow0 k hk).1)
 obtain ⟨g,c,cs,rfl,hg,hh,hcl,hcs,_⟩:=hr1.raw hne;have hgl:=blk_lt' hh;obtain ⟨n,hn⟩: ∃n,bs.length=n:=⟨_,rfl⟩;rw [hn];have hn0:1≤n:=by rw [←hn];exact List.length_pos_iff.2 hne
 replace hh:=Hz hh;rw [hn] at hr1 hcl;replace hrow0:=Hz hrow0;replace hrd0:=Hz hrd0;replace hr1:=Hz hr1;have w1n:IntKind.i64.wrap ((n:Int)-1)=(n:Int)-1:=IntWalk.i64_in _ (by omega)
 go_wp2_with fail
 go_loopg [2,8] n (fun k v2 v8 wr=> ∃(p:Nat) (i:Int) (D:List UInt8),v2= .int .i64 (p:Int)∧p≤255∧v8= .int .i64 i∧i+1=k∧k+D.length=n∧Hid (Row wr w.heap.size (.slice (some ⟨g,0,none⟩) n c) (bs.take k++D))∧Hid (Fr [] w wr)∧Hid ((be (bs.take k)*f+p)*256^D.length+be D=be bs*f+p0))
 case atStart=>exact ⟨p0,(n:Int)-1,[],rfl,hp,by go_num,by omega,by simp,Hz (by rw [List.append_nil,←hn,List.take_length,hn];exact hr1.out),Hz hF1,Hz (by rw [←hn,List.take_length];simp [be])⟩
 case round=>
  obtain ⟨p,i,D,rfl,hp2,rfl,hi,hk,hrow,hF,hV⟩:=hrel;by_cases hk0:gk=0
  ·subst hk0;have ti: ¬(0:Int)≤i:=by omega
   clear hi;have hV0:=hV.out;have hr0:=hrow.out;rw [List.take_zero,List.nil_append] at hr0;rw [List.take_zero,show be []=0 from rfl,Nat.zero_mul,Nat.zero_add] at hV0
   replace hV0:=Hz hV0;replace hr0:=Hz hr0;go_wp2_with fail
   go_loopg [2,7] 1 (fun k v2 v7 wr=> ∃(p:Nat) (X:List UInt8) (ao:Option Addr) (xn xc:Nat),v2= .int .i64 (p:Int)∧p≤255∧v7= .slice ao xn xc∧(p=0∨k=1)∧X.length+k≤n+1∧X.length≥1∧Hid (Row wr w.heap.size (.slice ao xn xc) X)∧Hid (Fr [] w wr)∧Hid (p*256^X.length+be X=be bs*f+p0))
   case atStart=>exact ⟨p,D,_,_,_,rfl,hp2,rfl,.inr rfl,by omega,by omega,hr0,hF,hV0⟩
   case round=>
    obtain ⟨p,X,ao,xn,xc,rfl,hp3,rfl,hk4,hX1,hX2,hrow2,hF2,hV2⟩:=hrel;by_cases hp0:p=0
    ·subst hp0;go_wp2;go_ret
     exact ⟨_,rfl,X,hrow2.out,(by rintro rfl;simp at hX2),by omega,by have:=hV2.out;omega,hF2.out⟩
    ·have hgk:gk=1:=by omega
     subst hgk;have tp:(0:Int)<(p:Int):=by omega
     have s8:IntKind.u8.wrap (p:Int)=(p:Int):=IntWalk.u8_in _ (by omega)
     obtain ⟨g2,c2,cs2,hv2,hg2,hh2,_,_,_⟩:=hrow2.out.raw (by rintro rfl;simp at hX2)
     injection hv2 with e1 e2 e3
     subst e1 e2 e3;have hrd2:Rd wr g2 0 X:=Rd.of_own hrow2.out;have hb2:((UInt8.ofNat p).toNat:Int)=(p:Int):=by simp;omega
     have hsz:=hF2.out.size;have hrow3:=fun W e=>row_1 (w:=wr) (W:=W) (B:=w.heap.size) e hb2 hsz
     replace hh2:=Hz hh2;replace hrd2:=Hz hrd2;have hrow4:=hrow3 (wr.alloc (.cells #[.int .u8 (p:Int)] 5)) rfl;replace hrow3:=Hz hrow3;replace hrow4:=Hz hrow4;go_wp2_with (at_builtin;refine wpList_apRow rfl _ _ rfl (B:=w.heap.size) _ [UInt8.ofNat p] X g2 0 xc rfl rfl (hrd2.out.push rfl) hrow4.out (by simp;omega) (by simp;omega) ?_)
     intro v9 w9 hr9 hg9;obtain ⟨ao9,n9,c9,rfl⟩:=hr9.shape;have hF9:Fr [] w w9:=Fr.grown (hF2.out.alloc _) hg9 (fun k hk=> .inr (World.ownsRow.lt hrow4.out k hk).1)
     have e0:((p:Int)/256)=0:=by omega
     replace hr9:=Hz hr9;replace hF9:=Hz hF9;go_wp2
     go_roundg 0
     case measure=>omega
     case rel=>exact ⟨0,[UInt8.ofNat p]++X,ao9,n9,c9,by go_num,by omega,rfl,.inl rfl,by simp;omega,by simp,hr9,hF9,Hz (by rw [Nat.zero_mul,Nat.zero_add,be_app,show be [UInt8.ofNat p]=p by simp [be];omega];exact hV2.out)⟩
  ·obtain ⟨q,rfl⟩: ∃q,gk=q+1:=⟨gk-1,by omega⟩
   obtain rfl:i=(q:Int):=by omega
   have hqn:q<bs.length:=by omega
   have hlen:q<(bs.take (q+1)++D).length:=by simp;omega
   have hx0:(bs.take (q+1)++D)[q]=bs[q]:=by
    rw [List.getElem_append_left (by simp;omega)];simp
   obtain ⟨x,hx⟩: ∃x,bs[q].toNat=x:=⟨_,rfl⟩;have hx2:x<256:=by rw [←hx];exact bs[q].toNat_lt
   obtain ⟨M,hM⟩: ∃M,x*f=M:=⟨_,rfl⟩;have hMi:(x:Int)*(f:Int)=(M:Int):=by rw [←hM];simp
   have hM2:M≤2550:=by rw [←hM];exact Nat.le_trans (Nat.mul_le_mul (show x≤255 by omega) hf) (by decide)
   have hrs:=row_set hrow.out q hlen (UInt8.ofNat ((p+M)%256));have hb:(UInt8.ofNat ((p+M)%256)).toNat=(p+M)%256:=by simp
   rw [hx0,hx,hb,set_take hqn] at hrs;obtain ⟨_,hc0,hfz,hrow2⟩:=hrs;have hst:=Hz (times_step (by_:=f) hqn (UInt8.ofNat ((p+M)%256)) (by rw [hx,hM];exact hb) _ hV.out)
   have w1a:IntKind.i64.wrap (M:Int)=(M:Int):=IntWalk.i64_in _ (by omega)
   have w2a:IntKind.i64.wrap ((p:Int)+(M:Int))=(p:Int)+(M:Int):=IntWalk.i64_in _ (by omega)
   have tq:(0:Int)≤(q:Int):=by omega
   have tqn:(q:Int)<(n:Int):=by omega
   replace hrow2:=Hz hrow2;have hMh:=Hz hM;clear hk0 hi hM hlen hx0;go_wp2
   go_roundg q
   case measure=>omega
   case rel=>exact ⟨(p+M)/256,(q:Int)-1,_,by go_num,by omega,by go_num,by omega,by simp;omega,hrow2,Hz (hF.out.setCell (.inr hg) _),by rw [hx,hMh.out] at hst;exact hst⟩
end
section
open Go.RowKit
theorem Row.low {w:World} {B:Nat} {v:Value} {bs:List UInt8} (h:Row w B v bs):Row w 0 v bs:=World.ownsRow.mono h (Nat.zero_le _)
theorem times0 {w:World} {v:Value} {bs:List UInt8} (hr:Row w 0 v bs) (hne:bs≠[]) (hl:bs.length≤100000) (f:Nat) (hf:f≤10):
  Calls Tryz.prog 76 #[v,.int .i64 (f:Int),.int .i64 0] w fun e w'=> ∃ao n c bs',e= .returned (.slice ao n c)∧Row w' 0 (.slice ao n c) bs'∧bs'≠[]∧bs'.length≤bs.length+1∧be bs'=be bs*f∧Fr [] w w':=by
 refine (timesW hr (Nat.zero_le _) hne hl f 0 hf (by omega)).mono ?_
 rintro e w' ⟨v',bs',h1,h2,h3,h4,h5,h6⟩;obtain ⟨ao,n,c,rfl⟩:=h2.shape;exact ⟨ao,n,c,bs',h1,h2.low,h3,h4,by omega,h6⟩
def NumR (w:World) (v:Value) (L V:Nat):Prop:= ∃X:List UInt8,Row w 0 v X∧X≠[]∧X.length≤L∧be X=V
theorem NumR.fr {w w':World} {v:Value} {L V:Nat} (h:NumR w v L V) (hf:Fr [] w w'):NumR w' v L V:=by
 obtain ⟨X,h1,h2⟩:=h;exact ⟨X,h1.fr hf (by simp),h2⟩
theorem timesN {w:World} {v:Value} {L V:Nat} (h:NumR w v L V) (hl:L≤100000) (f:Nat) (hf:f≤10):
  Calls Tryz.prog 76 #[v,.int .i64 (f:Int),.int .i64 0] w fun e w'=> ∃ao n c,e= .returned (.slice ao n c)∧NumR w' (.slice ao n c) (L+1) (V*f)∧Fr [] w w':=by
 obtain ⟨X,h1,h2,h3,h4⟩:=h;refine (times0 h1 h2 (by omega) f hf).mono ?_
 rintro e w' ⟨ao,n,c,bs',rfl,h5,h6,h7,h8,h9⟩;exact ⟨ao,n,c,rfl,⟨bs',h5,h6,by omega,by rw [h8,h4]⟩,h9⟩
theorem row_y (w:World) (y:Nat) (hy:y<18446744073709551616):NumR (w.alloc (.cells #[.int .u8 ((y:Int)/72057594037927936),.int .u8 ((y:Int)/281474976710656%256),.int .u8 ((y:Int)/1099511627776%256),.int .u8 ((y:Int)/4294967296%256),.int .u8 ((y:Int)/16777216%256),.int .u8 ((y:Int)/65536%256),.int .u8 ((y:Int)/256%256),.int .u8 ((y:Int)%256)] 5)) (.slice (some ⟨w.heap.size,0,none⟩) 8 8) 8 y:=by
 refine ⟨[UInt8.ofNat (y/72057594037927936),UInt8.ofNat (y/281474976710656),UInt8.ofNat (y/1099511627776),UInt8.ofNat (y/4294967296),UInt8.ofNat (y/16777216),UInt8.ofNat (y/65536),UInt8.ofNat (y/256),UInt8.ofNat y],⟨rfl,.inr ⟨w.heap.size,8,_,rfl,Nat.zero_le _,blk_new w _,Nat.le_refl _,by decide,rfl,?_⟩⟩,by simp,by simp,?_⟩
 ·have e:y/72057594037927936%256=y/72057594037927936:=by omega
  simp [enc];omega
 ·simp [be];omega
theorem strippedS (xs:List UInt8) (hl:xs.length≤1000000) (w:World):Calls Tryz.prog 77 #[.string ⟨xs.toArray⟩] w fun e w'=>e= .returned (.string ⟨(strip0 xs).toArray⟩)∧w'=w:=by
 go_enter Tryz.func77,Tryz.ntmps77
 go_wp2_with fail
 go_loopg [0] xs.length (fun k v0 wr=> ∃ys:List UInt8,v0= .string ⟨ys.toArray⟩∧ys.length=k∧k≤1000000∧Hid (strip0 ys=strip0 xs)∧wr=w)
 case atStart=>exact ⟨xs,rfl,rfl,hl,Hz rfl,rfl⟩
 case round=>
  obtain ⟨ys,rfl,hk,hk2,hs,rfl⟩:=hrel;cases ys with
  |nil=>
   go_wp2;go_ret
   exact ⟨by rw [←hs.out];rfl,rfl⟩
  |cons b l=>
   have hk3:gk=l.length+1:=by simpa using hk.symm
   have t1:0<gk:=by omega
   have t2:(0:Int)<(gk:Int):=by omega
   have hx:(⟨(b::l).toArray⟩:ByteArray).extract 1 gk=⟨l.toArray⟩:=by
    have h:=str_drop (b::l) 1 (by simp)
    rw [hk] at h;rw [h]
    rfl
   have t3: ¬gk<1:=by omega
   have t4:(1:Int)≤(gk:Int):=by omega
   replace hk3:=Hz hk3;replace hx:=Hz hx;go_wp2
   ·rename_i h1;have hb:b=0:=by
     have h2:((b.toNat:Int)==0)=true:=h1;have h3:b.toNat=0:=by simpa using h2
     exact UInt8.toNat_inj.1 h3
    subst hb
    go_roundg l.length
    case measure=>have:=hk3.out;omega
    case rel=>
     refine ⟨l,?_,rfl,by have:=hk3.out;omega,Hz (by rw [←hs.out];rfl),rfl⟩
     exact congrArg _ hx.out
   ·rename_i h1;have hb: ¬b=0:=by
     rintro rfl;have h2:(((0:UInt8).toNat:Int)==0)=false:=h1;exact absurd h2 (by decide)
    go_ret
    exact ⟨by rw [←hs.out,strip0,if_neg hb];rfl,rfl⟩
theorem be_cons (x:UInt8) (X:List UInt8):be (x::X)=x.toNat*256^X.length+be X:=by
 rw [show x::X=[x]++X from rfl,be_app]
 simp [be]
theorem less_be: ∀X Y:List UInt8,X.length=Y.length→(Op.bytesLess X Y=true↔be X<be Y)∧(X=Y↔be X=be Y)
 |[],[],_=>by simp [Op.bytesLess]
 |[],y::Y,h=>by simp at h
 |x::X,[],h=>by simp at h
 |x::X,y::Y,h=>by
  have h0:X.length=Y.length:=by simpa using h
  obtain ⟨h1,h2⟩:=less_be X Y h0;have hX:=be_lt256 X;have hY:=be_lt256 Y;rw [be_cons,be_cons];rw [←h0] at hY ⊢;generalize hP:256^X.length=P at *
  have hP0:0<P:=by rw [←hP];exact Nat.pow_pos (by decide)
  have e:(x<y)↔x.toNat<y.toNat:=UInt8.lt_iff_toNat_lt;have e2:(x=y)↔x.toNat=y.toNat:=UInt8.toNat_inj.symm;rcases Nat.lt_trichotomy x.toNat y.toNat with hc|hc|hc
  ·have hm:(x.toNat+1)*P≤y.toNat*P:=Nat.mul_le_mul_right _ hc;rw [Nat.add_mul,Nat.one_mul] at hm;refine ⟨⟨fun _=>by omega,fun _=>by simp [Op.bytesLess,e.2 hc]⟩,⟨fun he=> ?_,fun he=>by omega⟩⟩
   injection he with a b
   rw [a] at hc;omega
  ·have hxy:x=y:=e2.2 hc;subst hxy;refine ⟨?_,?_⟩
   ·rw [show Op.bytesLess (x::X) (x::Y)=Op.bytesLess X Y by simp [Op.bytesLess],h1]
    omega
   ·rw [List.cons.injEq]
    constructor
    ·rintro ⟨_,h⟩;have:=h2.1 h;omega
    ·intro h;exact ⟨rfl,h2.2 (by omega)⟩
  ·have hm:(y.toNat+1)*P≤x.toNat*P:=Nat.mul_le_mul_right _ hc;rw [Nat.add_mul,Nat.one_mul] at hm;have n1: ¬x<y:=fun h=>by have:=e.1 h;omega
   have n2: ¬x=y:=fun h=>by have:=e2.1 h;omega
   refine ⟨⟨fun hh=> ?_,fun _=>by omega⟩,⟨fun he=> ?_,fun he=>by omega⟩⟩
   ·simp [Op.bytesLess,n1,n2] at hh
   ·injection he with a b
    exact absurd a n2
def cmpN (x y:Nat):Int:=if x<y then-1 else if y<x then 1 else 0
theorem strip_be: ∀X:List UInt8,be (strip0 X)=be X
 |[]=>rfl
 |b::l=>by
  unfold strip0
  split
  ·rename_i h;subst h;rw [strip_be l];simp [be]
  ·rfl
theorem strip_head: ∀X:List UInt8,strip0 X≠[]→ ∃b l,strip0 X=b::l∧b≠0
 |[],h=>absurd rfl h
 |b::l,h=>by
  unfold strip0 at h ⊢;by_cases hb:b=0
  ·rw [if_pos hb] at h ⊢;exact strip_head l h
  ·rw [if_neg hb];exact ⟨b,l,rfl,hb⟩
theorem be_ltp (l:List UInt8):be l<256^l.length:=be_lt256 l
theorem strip_ge (X:List UInt8) (n:Nat) (h:n<(strip0 X).length):256^n≤be X:=by
 obtain ⟨b,l,h1,h2⟩:=strip_head X (by intro e;rw [e] at h;simp at h)
 rw [←strip_be,h1,show b::l=[b]++l from rfl,be_app]
 rw [h1,List.length_cons] at h;have hb:1≤be [b]:=by
  have:b.toNat≠0:=fun e=>h2 (UInt8.toNat_inj.1 e)
  simp [be];omega
 have h3:256^n≤256^l.length:=Nat.pow_le_pow_right (by decide) (by omega)
 have h4:1*256^l.length≤be [b]*256^l.length:=Nat.mul_le_mul_right _ hb;omega
theorem strip_cmp (X Y:List UInt8):((strip0 X).length<(strip0 Y).length→cmpN (be X) (be Y)= -1)∧((strip0 Y).length<(strip0 X).length→cmpN (be X) (be Y)=1)∧((strip0 X).length=(strip0 Y).length→(be X=be (strip0 X)∧be Y=be (strip0 Y))):=by
 have hX:=be_ltp (strip0 X);have hY:=be_ltp (strip0 Y);rw [strip_be] at hX hY;refine ⟨fun h=> ?_,fun h=> ?_,fun _=>⟨(strip_be X).symm,(strip_be Y).symm⟩⟩
 ·have:=strip_ge Y _ h;unfold cmpN;rw [if_pos (by omega)]
 ·have:=strip_ge X _ h;unfold cmpN;rw [if_neg (by omega),if_pos (by omega)]
theorem againstW {w:World} {v:Value} {L D:Nat} (hr:NumR w v L D) (hL:L≤10000) (p m q r y:Nat) (hex1:p=0∨m=0) (hex2:q=0∨r=0) (hp:p≤2000) (hm:m≤2000) (hq:q≤2000) (hr2:r≤2000) (hy:y<18446744073709551616):
  Calls Tryz.prog 78 #[v,.int .i64 ((p:Int)-(m:Int)),.int .u64 (y:Int),.int .i64 ((q:Int)-(r:Int))] w fun e w'=>e= .returned (.int .i64 (cmpN (D*10^p*2^r) (y*10^m*2^q)))∧Fr [] w w':=by
 obtain ⟨aoX,nX,cX,rfl⟩: ∃ao n c,v= .slice ao n c:=by obtain ⟨X,h,_⟩:=hr;exact h.shape
 have hX:=Hz hr;clear hr;go_enter Tryz.func78,Tryz.ntmps78
 go_upto_region 2 with fail
 have hY:=Hz (row_y w y hy);replace hX:=Hz (hX.out.fr ((Fr.refl [] w).alloc (.cells #[.int .u8 ((y:Int)/72057594037927936),.int .u8 ((y:Int)/281474976710656%256),.int .u8 ((y:Int)/1099511627776%256),.int .u8 ((y:Int)/4294967296%256),.int .u8 ((y:Int)/16777216%256),.int .u8 ((y:Int)/65536%256),.int .u8 ((y:Int)/256%256),.int .u8 ((y:Int)%256)] 5)));have hF:=Hz ((Fr.refl [] w).alloc (.cells #[.int .u8 ((y:Int)/72057594037927936),.int .u8 ((y:Int)/281474976710656%256),.int .u8 ((y:Int)/1099511627776%256),.int .u8 ((y:Int)/4294967296%256),.int .u8 ((y:Int)/16777216%256),.int .u8 ((y:Int)/65536%256),.int .u8 ((y:Int)/256%256),.int .u8 ((y:Int)%256)] 5))
 go_loopg [1,9] p (fun k v1 v9 wr=> ∃(ao:Option Addr) (n c:Nat) (i:Int),v1= .int .i64 i∧i=(k:Int)-(m:Int)∧k≤p∧v9= .slice ao n c∧Hid (NumR wr (.slice ao n c) (L+(p-k)) (D*10^(p-k)))∧Hid (NumR wr (.slice (some ⟨w.heap.size,0,none⟩) 8 8) 8 y)∧Hid (Fr [] w wr))
 case atStart=>exact ⟨aoX,nX,cX,(p:Int)-(m:Int),by first|rfl|go_num,rfl,Nat.le_refl _,rfl,Hz (by rw [Nat.sub_self,Nat.pow_zero,Nat.mul_one,Nat.add_zero];exact hX.out),hY,hF⟩
 case round=>
  clear hX hY hF;obtain ⟨aoX1,nX1,cX1,i,rfl,hi,hk,rfl,hX,hY,hF⟩:=hrel;by_cases hk0:gk=0
  ·subst hk0;rw [Nat.sub_zero] at hX;obtain rfl:i= -(m:Int):=by omega
   have tz: ¬(0:Int)< -(m:Int):=by omega
   clear hk hi;go_wp2_with fail
   go_loopg [1,10] m (fun k v1 v10 wr=> ∃(ao:Option Addr) (n c:Nat) (i:Int),v1= .int .i64 i∧i= -(k:Int)∧k≤m∧v10= .slice ao n c∧Hid (NumR wr (.slice ao n c) (8+(m-k)) (y*10^(m-k)))∧Hid (NumR wr (.slice aoX1 nX1 cX1) (L+p) (D*10^p))∧Hid (Fr [] w wr))
   case atStart=>exact ⟨(some ⟨w.heap.size,0,none⟩),8,8,-(m:Int),by first|rfl|go_num,rfl,Nat.le_refl _,rfl,Hz (by rw [Nat.sub_self,Nat.pow_zero,Nat.mul_one,Nat.add_zero];exact hY.out),hX,hF⟩
   case round=>
    clear hY hX hF;obtain ⟨aoY2,nY2,cY2,i,rfl,hi,hk,rfl,hY,hX,hF⟩:=hrel;by_cases hk0:gk=0
    ·subst hk0;rw [Nat.sub_zero] at hY;obtain rfl:i=0:=by omega
     clear hk hi;go_wp2_with fail
     go_loopg [3,10] q (fun k v3 v10 wr=> ∃(ao:Option Addr) (n c:Nat) (i:Int),v3= .int .i64 i∧i=(k:Int)-(r:Int)∧k≤q∧v10= .slice ao n c∧Hid (NumR wr (.slice ao n c) ((8+m)+(q-k)) ((y*10^m)*2^(q-k)))∧Hid (NumR wr (.slice aoX1 nX1 cX1) (L+p) (D*10^p))∧Hid (Fr [] w wr))
     case atStart=>exact ⟨aoY2,nY2,cY2,(q:Int)-(r:Int),by first|rfl|go_num,rfl,Nat.le_refl _,rfl,Hz (by rw [Nat.sub_self,Nat.pow_zero,Nat.mul_one,Nat.add_zero];exact hY.out),hX,hF⟩
     case round=>
      clear hY hX hF;obtain ⟨aoY3,nY3,cY3,i,rfl,hi,hk,rfl,hY,hX,hF⟩:=hrel;by_cases hk0:gk=0
      ·subst hk0;rw [Nat.sub_zero] at hY;obtain rfl:i= -(r:Int):=by omega
       have tz: ¬(0:Int)< -(r:Int):=by omega
       clear hk hi;go_wp2_with fail
       go_loopg [3,9] r (fun k v3 v9 wr=> ∃(ao:Option Addr) (n c:Nat) (i:Int),v3= .int .i64 i∧i= -(k:Int)∧k≤r∧v9= .slice ao n c∧Hid (NumR wr (.slice ao n c) ((L+p)+(r-k)) ((D*10^p)*2^(r-k)))∧Hid (NumR wr (.slice aoY3 nY3 cY3) ((8+m)+q) ((y*10^m)*2^q))∧Hid (Fr [] w wr))
       case atStart=>exact ⟨aoX1,nX1,cX1,-(r:Int),by first|rfl|go_num,rfl,Nat.le_refl _,rfl,Hz (by rw [Nat.sub_self,Nat.pow_zero,Nat.mul_one,Nat.add_zero];exact hX.out),hY,hF⟩
       case round=>
        clear hX hY hF;obtain ⟨aoX4,nX4,cX4,i,rfl,hi,hk,rfl,hX,hY,hF⟩:=hrel;by_cases hk0:gk=0
        ·subst hk0;rw [Nat.sub_zero] at hX;obtain rfl:i=0:=by omega
         clear hk hi;go_wp2_with fail
         obtain ⟨X,hrX,hneX,hlX,hbX⟩:=hX.out;obtain ⟨Y,hrY,hneY,hlY,hbY⟩:=hY.out;have KEEP: ∀W,Fr [] wr W→(convert 59 9 (.slice aoX4 nX4 cX4)).run Tryz.prog W= .ok (.string ⟨X.toArray⟩) W∧(convert 59 9 (.slice aoY3 nY3 cY3)).run Tryz.prog W= .ok (.string ⟨Y.toArray⟩) W:=fun W hf=>⟨row_str (hrX.fr hf (by simp)),row_str (hrY.fr hf (by simp))⟩
         have hcs:=strip_cmp X Y;have S1:=fun w=>strippedS X (by omega) w
         have S2:=fun w=>strippedS Y (by omega) w
         rw [hbX,hbY] at hcs;generalize strip0 X=SX at *
         generalize strip0 Y=SY at *
         have o1:=fun n=>(KEEP (wr.drewN n) ((Fr.refl _ _).drewN n)).1
         have o2:=fun n=>(KEEP (wr.drewN n) ((Fr.refl _ _).drewN n)).2
         replace KEEP:=Hz KEEP;replace S1:=Hz S1;replace S2:=Hz S2;replace hcs:=Hz hcs;clear hX hY hrX hrY hbX hbY
         go_quiet (first|(go_at_call 77;with_reducible exact Calls.quiet_of_same (S1.out _))|(go_at_call 77;with_reducible exact Calls.quiet_of_same (S2.out _)))
         have hFB:=Hz (fun n=>hF.out.drewN n)
         clear o1 o2;by_cases hlen:SX.length=SY.length
         ·obtain ⟨e1,e2⟩:=hcs.out.2.2 hlen;obtain ⟨l1,l2⟩:=less_be SX SY hlen;rw [←e1,←e2] at l1 l2;replace l1:=Hz l1;replace l2:=Hz l2;clear e1 e2;by_cases hls:Op.bytesLess SX SY=true
          ·go_wp2;go_ret
           exact ⟨by unfold cmpN;rw [if_pos (l1.out.1 hls)];rfl,hFB.out _⟩
          ·by_cases hq:SX=SY
           ·have hls2:Op.bytesLess SX SY=false:=by simpa using hls
            have hqq:(SX==SY)=true:=by simpa using hq
            have hv:=l2.out.1 hq;replace hv:=Hz hv;replace hls:=Hz hls;replace hq:=Hz hq;go_wp2;go_ret
            exact ⟨by unfold cmpN;rw [hv.out,if_neg (Nat.lt_irrefl _),if_neg (Nat.lt_irrefl _)];rfl,hFB.out _⟩
           ·have hls2:Op.bytesLess SX SY=false:=by simpa using hls
            have hqq:(SX==SY)=false:=by simpa using hq
            have hv1:=Hz (fun h=>hls (l1.out.2 h))
            have hv2:=Hz (fun h=>hq (l2.out.2 h))
            replace hls:=Hz hls;replace hq:=Hz hq;go_wp2;go_ret
            exact ⟨by unfold cmpN;rw [if_neg hv1.out,if_pos (Nat.lt_of_le_of_ne (Nat.le_of_not_lt hv1.out) (fun h=>hv2.out h.symm))];rfl,hFB.out _⟩
         ·by_cases hlt:SX.length<SY.length
          ·go_wp2;go_ret
           exact ⟨by rw [hcs.out.1 hlt];rfl,hFB.out _⟩
          ·have hgt:SY.length<SX.length:=by omega
           go_wp2;go_ret
           exact ⟨by rw [hcs.out.2.1 hgt];rfl,hFB.out _⟩
        ·have ti:i<0:=by have:=hex1;have:=hex2;omega
         have wi:IntKind.i64.wrap (i+1)=i+1:=IntWalk.i64_in _ (by omega)
         have KT:=Hz (timesN hX.out (by omega) 2 (by omega))
         go_wp2_with fail
         refine KT.out.mono ?_
         rintro e w2 ⟨ao2,n2,c2,rfl,h2,hf2⟩;have hX2:=Hz h2;have hY2:=Hz (hY.out.fr hf2);have hF2:=Hz (hF.out.trans hf2);have e1:r-(gk-1)=r-gk+1:=by omega
         clear hf2 h2;go_wp2
         go_roundg (gk-1)
         case measure=>omega
         case rel=>exact ⟨ao2,n2,c2,i+1,by first|rfl|go_num,by omega,by omega,rfl,Hz (by rw [e1,Nat.pow_succ,←Nat.mul_assoc,←Nat.add_assoc];exact hX2.out),hY2,hF2⟩
      ·have ti:(0:Int)<i:=by have:=hex1;have:=hex2;omega
       have wi:IntKind.i64.wrap (i-1)=i-1:=IntWalk.i64_in _ (by omega)
       have KT:=Hz (timesN hY.out (by omega) 2 (by omega))
       go_wp2_with fail
       refine KT.out.mono ?_
       rintro e w2 ⟨ao2,n2,c2,rfl,h2,hf2⟩;have hX2:=Hz h2;have hY2:=Hz (hX.out.fr hf2);have hF2:=Hz (hF.out.trans hf2);have e1:q-(gk-1)=q-gk+1:=by omega
       clear hf2 h2;go_wp2
       go_roundg (gk-1)
       case measure=>omega
       case rel=>exact ⟨ao2,n2,c2,i-1,by first|rfl|go_num,by omega,by omega,rfl,Hz (by rw [e1,Nat.pow_succ,←Nat.mul_assoc,←Nat.add_assoc];exact hX2.out),hY2,hF2⟩
    ·have ti:i<0:=by have:=hex1;have:=hex2;omega
     have wi:IntKind.i64.wrap (i+1)=i+1:=IntWalk.i64_in _ (by omega)
     have KT:=Hz (timesN hY.out (by omega) 10 (by omega))
     go_wp2_with fail
     refine KT.out.mono ?_
     rintro e w2 ⟨ao2,n2,c2,rfl,h2,hf2⟩;have hX2:=Hz h2;have hY2:=Hz (hX.out.fr hf2);have hF2:=Hz (hF.out.trans hf2);have e1:m-(gk-1)=m-gk+1:=by omega
     clear hf2 h2;go_wp2
     go_roundg (gk-1)
     case measure=>omega
     case rel=>exact ⟨ao2,n2,c2,i+1,by first|rfl|go_num,by omega,by omega,rfl,Hz (by rw [e1,Nat.pow_succ,←Nat.mul_assoc,←Nat.add_assoc];exact hX2.out),hY2,hF2⟩
  ·have ti:(0:Int)<i:=by have:=hex1;have:=hex2;omega
   have wi:IntKind.i64.wrap (i-1)=i-1:=IntWalk.i64_in _ (by omega)
   have KT:=Hz (timesN hX.out (by omega) 10 (by omega))
   go_wp2_with fail
   refine KT.out.mono ?_
   rintro e w2 ⟨ao2,n2,c2,rfl,h2,hf2⟩;have hX2:=Hz h2;have hY2:=Hz (hY.out.fr hf2);have hF2:=Hz (hF.out.trans hf2);have e1:p-(gk-1)=p-gk+1:=by omega
   clear hf2 h2;go_wp2
   go_roundg (gk-1)
   case measure=>omega
   case rel=>exact ⟨ao2,n2,c2,i-1,by first|rfl|go_num,by omega,by omega,rfl,Hz (by rw [e1,Nat.pow_succ,←Nat.mul_assoc,←Nat.add_assoc];exact hX2.out),hY2,hF2⟩
end
section
set_option exponentiation.threshold 3000
open Go.RowKit
theorem frac_len (n k c:Nat) (hk:k≤1100) (hc:0<c) (h:n<10^c):(fracD n k).1.length≤c∧(fracD n k).2≤c:=by
 unfold fracD;by_cases h0:n=0
 ·rw [if_pos h0];simp
 ·rw [if_neg h0];obtain ⟨h1,h2,h3⟩:=dg_spec n n (Nat.le_refl _);obtain ⟨g1,g2,g3,g4⟩:=trim_norm (d:=dg n) (dp:=((dg n).length:Int)-(k:Int)) h1 (h3 (by omega)) (by omega)
  have g5:=g4 (dg_ne n);have hl:(dg n).length≤c:=by rw [dg_len];exact dec_length n c h hc
  exact ⟨Nat.le_trans g3 hl,by rw [g5];omega⟩
theorem digs_len {m:Nat} {e:Int} (hm:m<18014398509481984) (h1: -1080≤e) (h2:e≤1000):(digs m e).1.length≤800∧(digs m e).2≤800:=by
 unfold digs
 split
 ·refine frac_len _ 0 800 (by omega) (by omega) ?_
  have a:=Nat.pow_le_pow_right (show 0<2 by omega) (show e.toNat≤1000 by omega)
  have b:=Nat.mul_le_mul (Nat.le_of_lt hm) a;exact Nat.lt_of_le_of_lt b (by decide+kernel)
 ·refine frac_len _ _ 800 (by omega) (by omega) ?_
  have a:=Nat.pow_le_pow_right (show 0<5 by omega) (show (-e).toNat≤1080 by omega)
  have b:=Nat.mul_le_mul (Nat.le_of_lt hm) a;exact Nat.lt_of_le_of_lt b (by decide+kernel)
theorem digB {m:Nat} {e:Int} (hm:m<18014398509481984) (h1: -1080≤e) (h2:e≤1000):DigB m e (digs m e):=by
 obtain ⟨a,b⟩:=digs_len hm h1 h2;have c:NormD (digs m e).1 (digs m e).2∧ -1100≤(digs m e).2-(digs m e).1.length:=by
  unfold digs
  split
  ·obtain ⟨x,_,z⟩:=frac_spec (m*2^e.toNat) 0 (by omega)
   exact ⟨x,z⟩
  ·obtain ⟨x,_,z⟩:=frac_spec (m*5^(-e).toNat) (-e).toNat (by omega)
   exact ⟨x,z⟩
 have c2:=c.2;exact ⟨c.1,c.2,by omega,by omega,by omega⟩
theorem short_bd {m:Nat} {e:Int} (low:Bool) (hm:0<m) (hm2:m<9007199254740992) (h1: -1074≤e) (h2:e≤971):
  NormD (shortR m e low).1 (shortR m e low).2∧(shortR m e low).1≠[]∧(shortR m e low).1.length≤800∧ -1100≤(shortR m e low).2-(shortR m e low).1.length∧ -330<(shortR m e low).2∧(shortR m e low).2<311:=by
 have hB:=digB (m:=m) (e:=e) (by omega) (by omega) (by omega)
 have G:=short_ok low hm hB (by omega)
 obtain ⟨_,u2,u3⟩:=units m e low hm (by omega)
 have hl:=(digs_len (m:=m) (e:=e) (by omega) (by omega) (by omega)).1
 generalize shortR m e low=r at *
 refine ⟨G.norm,G.ne,Nat.le_trans G.len hl,G.la,?_,?_⟩
 ·refine Int.not_le.1 fun hc=> ?_
  have a1:=Nat.lt_of_le_of_lt (inE_le G.lo) (dV_lt_pow G.norm.lt G.la);have a2:10^(r.2+1100).toNat≤10^770:=Nat.pow_le_pow_right (by omega) (by omega)
  have a3:2^(-(e-2)).toNat≤2^1076:=Nat.pow_le_pow_right (by omega) (by omega)
  have a4:1≤2^(e-2).toNat:=Nat.pow_pos (by omega)
  have a5:1≤lowN m low:=by unfold lowN;split<;>omega
  have a6:=Nat.mul_le_mul (Nat.le_of_lt (Nat.lt_of_lt_of_le a1 a2)) a3;rw [u2] at a6;have a7:1*(10^1100*1)≤lowN m low*(10^1100*2^(e-2).toNat):=Nat.mul_le_mul a5 (Nat.mul_le_mul_left _ a4);exact absurd (Nat.le_trans a7 a6) (by decide+kernel)
 ·refine Int.not_le.1 fun hc=> ?_
  have b1:=Nat.le_trans (dV_ge_pow G.norm G.ne G.la) (inE_le G.hi);have b2:10^1410≤10^(r.2-1+1100).toNat:=Nat.pow_le_pow_right (by omega) (by omega)
  have b3:1≤2^(-(e-2)).toNat:=Nat.pow_pos (by omega)
  have b4:2^(e-2).toNat≤2^970:=Nat.pow_le_pow_right (by omega) (by omega)
  have b5:=Nat.mul_le_mul (Nat.le_trans b2 b1) b3;rw [u3] at b5;have b6:(4*m+2)*(10^1100*2^(e-2).toNat)≤72057594037927936*(10^1100*2^970):=Nat.mul_le_mul (by omega) (Nat.mul_le_mul_left _ b4)
  exact absurd (Nat.le_trans b5 b6) (by decide+kernel)
theorem idx_neg {c:UInt8} (h:(45:UInt8)≠c) (t:List UInt8):idx c (45::t)=(idx c t).map (· +1):=if_neg h
theorem dotted_neg (t:List UInt8):dotted (45::t)=45::dotted t:=by
 unfold dotted;rw [idx_neg (by decide),idx_neg (by decide)]
 cases idx 46 t with
 |some k=>rfl
 |none=>cases idx 101 t with
  |none=>rfl
  |some i=>rfl
theorem clean_neg (t:List UInt8):cleanE (45::t)=45::cleanE t:=by
 unfold cleanE;by_cases h:4≤t.length
 ·have e1:(45::t).length-4=(t.length-4)+1:=by simp;omega
  have e2:(45::t).length-2=(t.length-2)+1:=by simp;omega
  have e3:(45::t).length-1=(t.length-1)+1:=by simp;omega
  rw [e1,e2,e3];simp only [List.drop_succ_cons,List.take_succ_cons,List.length_cons];by_cases hc:(t.drop (t.length-4)).take 3=[101,45,48]
  ·rw [if_pos ⟨by omega,hc⟩,if_pos ⟨h,hc⟩]
   rfl
  ·rw [if_neg (fun x=>hc x.2),if_neg (fun x=>hc x.2)]
 ·rw [if_neg (c:=4≤t.length∧_) (fun x=>h x.1),if_neg]
  rintro ⟨h4,hc⟩;have h5:t.length=3:=by simp at h4;omega
  have e1:(45::t).length-4=0:=by simp;omega
  rw [e1,List.drop_zero] at hc;have:=congrArg List.head? hc;simp at this
def absT (b:Nat):List UInt8:=dotted (if useE b then cleanE (expT (fR b).1 (fR b).2 ((fR b).1.length-1)) else texT (fR b).1 (fR b).2 ((fR b).1.length-(fR b).2).toNat)
theorem fltB_sgn (b:Nat):fltB b=sgnT b++absT b:=by
 have k1: ∀x:List UInt8,dotted (sgnT b++x)=sgnT b++dotted x:=by
  intro x;unfold sgnT
  split
  ·rfl
  ·exact dotted_neg _
 have k2: ∀x:List UInt8,cleanE (sgnT b++x)=sgnT b++cleanE x:=by
  intro x;unfold sgnT
  split
  ·rfl
  ·exact clean_neg _
 unfold fltB preT fmtF absT;cases useE b
 ·exact k1 _
 ·show dotted (cleanE (sgnT b++_))=_
  rw [k2,k1]
  rfl
theorem digs_zero (e:Int):digs 0 e=([],0):=by
 unfold digs fracD
 split<;>simp
theorem num_len {t D:List UInt8} {X:Int} (h:NumT t D X):t.length≤D.length+7:=by
 obtain ⟨ip,fp,ep,rfl,_,_,_,_,rfl,hX⟩:=h;have:ep.length≤6:=by
  rcases hX with ⟨rfl,_⟩|⟨sg,ds,rfl,_,_,h4,_⟩
  ·simp
  ·simp;omega
 simp;omega
theorem fmant_lt (b:Nat):fMant b<9007199254740992:=by unfold fMant;split<;>omega
theorem fexp_bd (b:Nat) (hf:b/4503599627370496%2048≠2047): -1022≤fExp b∧fExp b≤1023:=by unfold fExp;split<;>omega
theorem fr_zero {b:Nat} (h:fMant b=0):fR b=([],0):=by
 unfold fR;rw [h];unfold shortR;rw [if_pos rfl];exact digs_zero _
def InR (m:Nat) (low:Bool) (D:Nat) (X t:Int):Prop:=
 (agy (lowN m low) X t<agx D X t∧agx D X t<agy (4*m+2) X t)∨(m%2=0∧(agx D X t=agy (lowN m low) X t∨agx D X t=agy (4*m+2) X t))
theorem flt_txt {b:Nat} (hf:b/4503599627370496%2048≠2047):TxtOf (absT b) (fR b).1 (fR b).2:=by
 unfold absT;rcases Nat.eq_zero_or_pos (fMant b) with h0|h0
 ·have hu:useE b=false:=by
   cases h:useE b
   ·rfl
   ·have:=useE_pos h;omega
  rw [hu,fr_zero h0];exact tex_num ⟨by simp,fun _=>rfl,by simp,by simp⟩
 ·obtain ⟨n1,n2⟩:=fexp_bd b hf;obtain ⟨a1,a2,a3,a4,a5,a6⟩:=short_bd (fLow b) h0 (fmant_lt b) (show-1074≤fExp b-52 by omega) (by omega)
  change NormD (fR b).1 (fR b).2 at a1;change (fR b).1≠[] at a2;change-330<(fR b).2 at a5;change (fR b).2<311 at a6;cases useE b
  ·exact tex_num a1
  ·exact exp_num a1 a2 (by omega)
theorem flt_num {b:Nat} (hf:b/4503599627370496%2048≠2047):
  ∃D X,NumT (absT b) D X∧(absT b).length≤3000∧D.length≤1200∧X≤400∧ -1200≤X∧(fMant b=0→dvB D=0)∧(0<fMant b→InR (fMant b) (fLow b) (dvB D) X (fExp b-54)):=by
 obtain ⟨D,X,z,hN,hD,hX,hl,hx⟩:=flt_txt hf;have hlen:=num_len hN;obtain ⟨n1,n2⟩:=fexp_bd b hf;rcases Nat.eq_zero_or_pos (fMant b) with h0|h0
 ·have hz:=fr_zero h0;rw [hz] at hD hX hl hx;simp only [List.length_nil] at hX hl hx;refine ⟨D,X,hN,by omega,by omega,by omega,by omega,fun _=>by rw [hD];simp [dv],fun h=>by omega⟩
 ·obtain ⟨a1,a2,a3,a4,a5,a6⟩:=short_bd (fLow b) h0 (fmant_lt b) (show-1074≤fExp b-52 by omega) (by omega)
  change (fR b).1.length≤800 at a3;change-1100≤(fR b).2-(fR b).1.length at a4;change-330<(fR b).2 at a5;change (fR b).2<311 at a6;have hm:=fmant_lt b;have R:=rounds_ok (fLow b) h0 (digB (by omega) (by omega) (by omega)) (show-1090≤fExp b-52 by omega) (D:=dvB D) (X:=X) (z:=z) hD hX
  rw [show fExp b-52-2=fExp b-54 by omega] at R
  exact ⟨D,X,hN,by omega,by omega,by omega,by omega,fun h=>by omega,fun _=>R⟩
theorem cmp_rounds {m D:Nat} {low:Bool} {X t:Int} (h:InR m low D X t):
  (0<cmpN (agx D X t) (agy (lowN m low) X t)∧cmpN (agx D X t) (agy (4*m+2) X t)<0)∨(m%2=0∧(cmpN (agx D X t) (agy (lowN m low) X t)=0∨cmpN (agx D X t) (agy (4*m+2) X t)=0)):=by
 unfold InR at h;unfold cmpN;rcases h with ⟨h1,h2⟩|⟨h1,h2|h2⟩
 ·exact .inl ⟨by rw [if_neg (by omega),if_pos h1];decide,by rw [if_pos h2];decide⟩
 ·exact .inr ⟨h1,.inl (by rw [if_neg (by omega),if_neg (by omega)])⟩
 ·exact .inr ⟨h1,.inr (by rw [if_neg (by omega),if_neg (by omega)])⟩
end
section
set_option exponentiation.threshold 3000
open Go.RowKit
def nanT:List UInt8:=[78,97,78]
def infT:List UInt8:=[73,110,102,105,110,105,116,121]
def ninfT:List UInt8:=[45,73,110,102,105,110,105,116,121]
def spO (ai v:Nat):Option (List UInt8):=
 if ai=25 then (if v/1024%32=31 then some (if v%1024≠0 then nanT else if v<32768 then infT else ninfT) else none)
 else if ai=26 then (if v/8388608%256=255 then some (if v%8388608≠0 then nanT else if v<2147483648 then infT else ninfT) else none)
 else (if v/4503599627370496%2048=2047 then some (if v%4503599627370496≠0 then nanT else if v<9223372036854775808 then infT else ninfT) else none)
def fT (pr:Bool) (ai v:Nat):List UInt8:=(spO ai v).getD (fltB (wbits ai v)++precT pr ai)
theorem nan16 (x:Nat) (hx:x<65536) (hf:x/1024%32=31) (w:World):Calls Tryz.prog 180 #[.int .u16 (x:Int)] w fun e w'=>e= .returned (.bool (x%1024 !=0))∧w'=w:=by
 have h:=u16_and_nat' x 31744 hx (by omega)
 have g:=u16_and_nat' x 1023 hx (by omega)
 have h2:x&&&31744=31744:=by
  have h3:(x&&&31744)/1024=x/1024&&&31:=by
   rw [show (1024:Nat)=2^10 by decide,←Nat.shiftRight_eq_div_pow,Nat.shiftRight_and_distrib,Nat.shiftRight_eq_div_pow]
   rfl
  have h4:(x&&&31744)%1024=0:=by
   rw [show (1024:Nat)=2^10 by decide,Nat.and_mod_two_pow,show 31744%2^10=0 by decide,Nat.and_zero]
  rw [show (31:Nat)=2^5-1 by decide,Nat.and_two_pow_sub_one_eq_mod] at h3
  omega
 have g2:x&&&1023=x%1024:=by rw [show (1023:Nat)=2^10-1 by decide,Nat.and_two_pow_sub_one_eq_mod]
 have h3:bits .and .u16 (x:Int) 31744=31744:=by rw [h2] at h;exact h
 have g3:bits .and .u16 (x:Int) 1023=((x%1024:Nat):Int):=by rw [g2] at g;exact g
 have g4:((((x%1024:Nat):Int)) !=0)=(x%1024 !=0):=by
  rw [Bool.eq_iff_iff];simp;omega
 rw [←g4];clear g4 h g h2 g2;obtain ⟨y,hy⟩: ∃y:Int,y=((x%1024:Nat):Int):=⟨_,rfl⟩;rw [←hy] at g3 ⊢;replace hy:=Hz hy;go_enter Tryz.func180,Tryz.ntmps180
 go_wp2;go_ret
 first|exact ⟨rfl,rfl⟩|(refine ⟨?_,rfl⟩;simp [bne])
theorem inf16p (s:Int) (w:World):Calls Tryz.prog 181 #[.int .u16 31744,.int .i64 s] w fun e w'=>e= .returned (.bool (decide (0≤s)))∧w'=w:=by
 go_enter Tryz.func181,Tryz.ntmps181
 by_cases h:0≤s
 ·have h2:=Hz h;have h3:decide (0≤s)=true:=by simp [h]
  rw [h3];go_wp2;go_ret
  exact ⟨rfl,rfl⟩
 ·have h3:decide (0≤s)=false:=by simp [h]
  rw [h3];go_wp2;go_ret
  exact ⟨rfl,rfl⟩
theorem inf16n (s:Int) (w:World):Calls Tryz.prog 181 #[.int .u16 64512,.int .i64 s] w fun e w'=>e= .returned (.bool (decide (s≤0)))∧w'=w:=by
 go_enter Tryz.func181,Tryz.ntmps181
 by_cases h:s≤0
 ·have h3:decide (s≤0)=true:=by simp [h]
  rw [h3];go_wp2;go_ret
  exact ⟨rfl,rfl⟩
 ·have h3:decide (s≤0)=false:=by simp [h]
  rw [h3];go_wp2;go_ret
  exact ⟨rfl,rfl⟩
theorem nan_order32 (v:Nat) (hf:v/8388608%256=255) (h0:v%8388608≠0):Ieee.single.order v v=none:=by
 have e1:Ieee.single.signWeight=2147483648:=by decide
 have e2:Ieee.single.binade=8388608:=by decide
 have e3:Ieee.single.infRung=2139095040:=by decide
 unfold Ieee.Format.order Ieee.Format.read;rw [e1,e2,e3];dsimp only;rw [if_neg (by omega),if_neg (by omega),if_neg (by omega)]
 rfl
theorem nan_order64 (v:Nat) (hf:v/4503599627370496%2048=2047) (h0:v%4503599627370496≠0):Ieee.double.order v v=none:=by
 have e1:Ieee.double.signWeight=9223372036854775808:=by decide
 have e2:Ieee.double.binade=4503599627370496:=by decide
 have e3:Ieee.double.infRung=9218868437227405312:=by decide
 unfold Ieee.Format.order Ieee.Format.read;rw [e1,e2,e3];dsimp only;rw [if_neg (by omega),if_neg (by omega),if_neg (by omega)]
 rfl
section
variable {X:Cx} {off:Nat} {bs:List UInt8} {w:World}
theorem encSp16 (h:St X off bs w) {v:Nat} {t:List UInt8} (hv:v<65536) (hs:spO 25 v=some t) (hlen:bs.length+t.length≤room):
  Calls Tryz.prog 136 #[.pointer (some ⟨X.di,0,none⟩),.int .u8 25,.int .u64 (v:Int)] w (IPost X off bs (txt t) w):=by
 have k2:=h.i2;unfold spO at hs;rw [if_pos rfl] at hs;have hf:v/1024%32=31:=Decidable.byContradiction fun hf=>by rw [if_neg hf] at hs;cases hs
 rw [if_pos hf] at hs;injection hs with hs
 have s0:IntKind.u16.wrap (v:Int)=(v:Int):=by show (v:Int)%65536=_;omega
 have K1:=Hz (fun W=>frombits v W)
 have K2:=Hz (fun W=>nan16 v hv hf W)
 go_enter Tryz.func136,Tryz.ntmps136
 by_cases hn:v%1024≠0
 ·rw [if_pos hn] at hs;subst hs;have hb:(v%1024 !=0)=true:=by simpa using hn
  rw [hb] at K2;replace hf:=Hz hf;replace hn:=Hz hn;clear hb hv;go_wp2_with (first|(go_at_call 179;refine (K1.out _).mono ?_;rintro e w1 ⟨rfl,rfl⟩)|(go_at_call 180;refine (K2.out _).mono ?_;rintro e w1 ⟨rfl,rfl⟩)|(go_at_call 104;refine (writeString h.buf h.lw h.hB nanT hlen).mono ?_;rintro e wC ⟨⟨uC,rfl⟩,hbC,hgC⟩))
  go_ret
  exact ⟨.nilIface,_,rfl,rfl,fun _=>rfl,h.wrote hgC hbC,St.grW hgC⟩
 ·have hn:v%1024=0:=by omega
  rw [if_neg (by omega)] at hs
  have hb:(v%1024 !=0)=false:=by simpa using hn
  rw [hb] at K2;have hvv:v=31744∨v=64512:=by omega
  clear hb hf hn hv;rcases hvv with hvv|hvv
  ·rw [if_pos (by omega)] at hs
   subst hs;have K3:Hid (∀W,Calls Tryz.prog 181 #[.int .u16 (v:Int),.int .i64 1] W fun e w'=>e= .returned (.bool true)∧w'=W):=Hz (fun W=>by rw [hvv];exact inf16p 1 W)
   replace hvv:=Hz hvv;go_wp2_with (first|(go_at_call 179;refine (K1.out _).mono ?_;rintro e w1 ⟨rfl,rfl⟩)|(go_at_call 180;refine (K2.out _).mono ?_;rintro e w1 ⟨rfl,rfl⟩)|(go_at_call 181;refine (K3.out _).mono ?_;rintro e w1 ⟨rfl,rfl⟩)|(go_at_call 104;refine (writeString h.buf h.lw h.hB infT hlen).mono ?_;rintro e wC ⟨⟨uC,rfl⟩,hbC,hgC⟩))
   go_ret
   exact ⟨.nilIface,_,rfl,rfl,fun _=>rfl,h.wrote hgC hbC,St.grW hgC⟩
  ·rw [if_neg (by omega)] at hs
   subst hs;have K3:Hid (∀W s,Calls Tryz.prog 181 #[.int .u16 (v:Int),.int .i64 s] W fun e w'=>e= .returned (.bool (decide (s≤0)))∧w'=W):=Hz (fun W s=>by rw [hvv];exact inf16n s W)
   replace hvv:=Hz hvv;go_wp2_with (first|(go_at_call 179;refine (K1.out _).mono ?_;rintro e w1 ⟨rfl,rfl⟩)|(go_at_call 180;refine (K2.out _).mono ?_;rintro e w1 ⟨rfl,rfl⟩)|(go_at_call 181;refine (K3.out _ _).mono ?_;rintro e w1 ⟨rfl,rfl⟩)|(go_at_call 104;refine (writeString h.buf h.lw h.hB ninfT hlen).mono ?_;rintro e wC ⟨⟨uC,rfl⟩,hbC,hgC⟩))
   go_ret
   exact ⟨.nilIface,_,rfl,rfl,fun _=>rfl,h.wrote hgC hbC,St.grW hgC⟩
theorem encSp32 (h:St X off bs w) {v:Nat} {t:List UInt8} (hv:v<4294967296) (hs:spO 26 v=some t) (hlen:bs.length+t.length≤room):
  Calls Tryz.prog 136 #[.pointer (some ⟨X.di,0,none⟩),.int .u8 26,.int .u64 (v:Int)] w (IPost X off bs (txt t) w):=by
 have k2:=h.i2;unfold spO at hs;rw [if_neg (by omega),if_pos rfl] at hs
 have hf:v/8388608%256=255:=Decidable.byContradiction fun hf=>by rw [if_neg hf] at hs;cases hs
 rw [if_pos hf] at hs;injection hs with hs
 have s0:IntKind.u32.wrap (v:Int)=(v:Int):=by show (v:Int)%4294967296=_;omega
 have x183:=fun w=>ext183 v w
 go_enter Tryz.func136,Tryz.ntmps136
 by_cases hn:v%8388608≠0
 ·rw [if_pos hn] at hs;subst hs;have o1:=nan_order32 v hf hn;have t1:(FloatKind.f32.format.order v v !=some Ordering.eq)=true:=by rw [show FloatKind.f32.format=Ieee.single from rfl,o1];rfl
  clear o1 hf hn hv;go_wp2_with (go_at_call 104;refine (writeString h.buf h.lw h.hB nanT hlen).mono ?_;rintro e wC ⟨⟨uC,rfl⟩,hbC,hgC⟩)
  go_ret
  exact ⟨.nilIface,_,rfl,rfl,fun _=>rfl,h.wrote hgC hbC,St.grW hgC⟩
 ·rw [if_neg hn] at hs;have hvv:v=2139095040∨v=4286578688:=by omega
  clear hf hn hv;rcases hvv with hvv|hvv
  ·rw [if_pos (by omega)] at hs
   subst hs;have t1:(FloatKind.f32.format.order v v !=some Ordering.eq)=false:=by rw [hvv];decide
   have t2:(FloatKind.f32.format.order v 2139095039==some Ordering.gt)=true:=by rw [hvv];decide
   replace hvv:=Hz hvv;go_wp2_with (go_at_call 104;refine (writeString h.buf h.lw h.hB infT hlen).mono ?_;rintro e wC ⟨⟨uC,rfl⟩,hbC,hgC⟩)
   go_ret
   exact ⟨.nilIface,_,rfl,rfl,fun _=>rfl,h.wrote hgC hbC,St.grW hgC⟩
  ·rw [if_neg (by omega)] at hs
   subst hs;have t1:(FloatKind.f32.format.order v v !=some Ordering.eq)=false:=by rw [hvv];decide
   have t2:(FloatKind.f32.format.order v 2139095039==some Ordering.gt)=false:=by rw [hvv];decide
   have t3:(FloatKind.f32.format.order v 4286578687==some Ordering.lt)=true:=by rw [hvv];decide
   replace hvv:=Hz hvv;go_wp2_with (go_at_call 104;refine (writeString h.buf h.lw h.hB ninfT hlen).mono ?_;rintro e wC ⟨⟨uC,rfl⟩,hbC,hgC⟩)
   go_ret
   exact ⟨.nilIface,_,rfl,rfl,fun _=>rfl,h.wrote hgC hbC,St.grW hgC⟩
theorem encSp64 (h:St X off bs w) {v:Nat} {t:List UInt8} (hv:v<18446744073709551616) (hs:spO 27 v=some t) (hlen:bs.length+t.length≤room):
  Calls Tryz.prog 136 #[.pointer (some ⟨X.di,0,none⟩),.int .u8 27,.int .u64 (v:Int)] w (IPost X off bs (txt t) w):=by
 have k2:=h.i2;unfold spO at hs;rw [if_neg (by omega),if_neg (by omega)] at hs
 have hf:v/4503599627370496%2048=2047:=Decidable.byContradiction fun hf=>by rw [if_neg hf] at hs;cases hs
 rw [if_pos hf] at hs;injection hs with hs
 have x184:=fun w=>ext184 v w
 go_enter Tryz.func136,Tryz.ntmps136
 by_cases hn:v%4503599627370496≠0
 ·rw [if_pos hn] at hs;subst hs;have o1:=nan_order64 v hf hn;have t1:(FloatKind.f64.format.order v v !=some Ordering.eq)=true:=by rw [show FloatKind.f64.format=Ieee.double from rfl,o1];rfl
  clear o1 hf hn hv;go_wp2_with (go_at_call 104;refine (writeString h.buf h.lw h.hB nanT hlen).mono ?_;rintro e wC ⟨⟨uC,rfl⟩,hbC,hgC⟩)
  go_ret
  exact ⟨.nilIface,_,rfl,rfl,fun _=>rfl,h.wrote hgC hbC,St.grW hgC⟩
 ·rw [if_neg hn] at hs;have hvv:v=9218868437227405312∨v=18442240474082181120:=by omega
  clear hf hn hv;rcases hvv with hvv|hvv
  ·rw [if_pos (by omega)] at hs
   subst hs;have t1:(FloatKind.f64.format.order v v !=some Ordering.eq)=false:=by rw [hvv];decide
   have t2:(FloatKind.f64.format.order v 9218868437227405311==some Ordering.gt)=true:=by rw [hvv];decide
   replace hvv:=Hz hvv;go_wp2_with (go_at_call 104;refine (writeString h.buf h.lw h.hB infT hlen).mono ?_;rintro e wC ⟨⟨uC,rfl⟩,hbC,hgC⟩)
   go_ret
   exact ⟨.nilIface,_,rfl,rfl,fun _=>rfl,h.wrote hgC hbC,St.grW hgC⟩
  ·rw [if_neg (by omega)] at hs
   subst hs;have t1:(FloatKind.f64.format.order v v !=some Ordering.eq)=false:=by rw [hvv];decide
   have t2:(FloatKind.f64.format.order v 9218868437227405311==some Ordering.gt)=false:=by rw [hvv];decide
   have t3:(FloatKind.f64.format.order v 18442240474082181119==some Ordering.lt)=true:=by rw [hvv];decide
   replace hvv:=Hz hvv;go_wp2_with (go_at_call 104;refine (writeString h.buf h.lw h.hB ninfT hlen).mono ?_;rintro e wC ⟨⟨uC,rfl⟩,hbC,hgC⟩)
   go_ret
   exact ⟨.nilIface,_,rfl,rfl,fun _=>rfl,h.wrote hgC hbC,St.grW hgC⟩
theorem encF (h:St X off bs w) {ai v:Nat} (ha:ai=25∨ai=26∨ai=27) (hv:v<if ai=25 then 65536 else if ai=26 then 4294967296 else 18446744073709551616) (hlen:bs.length+(fT X.M.pr ai v).length≤room):
  Calls Tryz.prog 136 #[.pointer (some ⟨X.di,0,none⟩),.int .u8 (ai:Int),.int .u64 (v:Int)] w (IPost X off bs (txt (fT X.M.pr ai v)) w):=by
 cases hs:spO ai v with
 |some t=>
  have e:fT X.M.pr ai v=t:=by unfold fT;rw [hs];rfl
  rw [e] at hlen ⊢;rcases ha with rfl|rfl|rfl
  ·exact encSp16 h (by simpa using hv) hs hlen
  ·exact encSp32 h (by simpa using hv) hs hlen
  ·exact encSp64 h (by simpa using hv) hs hlen
 |none=>
  have e:fT X.M.pr ai v=fltB (wbits ai v)++precT X.M.pr ai:=by unfold fT;rw [hs];rfl
  rw [e] at hlen ⊢;refine encFloat h ?_ hlen
  unfold spO at hs;rcases ha with rfl|rfl|rfl
  ·rw [if_pos rfl] at hs;refine .inl ⟨rfl,by simpa using hv,fun e=> ?_⟩
   rw [if_pos e] at hs;cases hs
  ·rw [if_neg (by omega),if_pos rfl] at hs
   refine .inr (.inl ⟨rfl,by simpa using hv,fun e=> ?_⟩)
   rw [if_pos e] at hs;cases hs
  ·rw [if_neg (by omega),if_neg (by omega)] at hs
   refine .inr (.inr ⟨rfl,by simpa using hv,fun e=> ?_⟩)
   rw [if_pos e] at hs;cases hs
end
end
section
set_option exponentiation.threshold 3000
open Go.RowKit
def KindT (B:Nat) (T P:List UInt8):Prop:=
 (B/4503599627370496%2048≠2047∧T=fltB B++P)∨(18437736874454810624<B*2%18446744073709551616∧T=nanT)∨
 (B*2%18446744073709551616=18437736874454810624∧B<9223372036854775808∧T=infT)∨(B*2%18446744073709551616=18437736874454810624∧9223372036854775808≤B∧T=ninfT)
theorem flt_kind25 (pr:Bool) (v:Nat) (hv:v<65536):wide 25 v<18446744073709551616∧KindT (wide 25 v) (fT pr 25 v) (precT pr 25):=by
 by_cases he:v/1024%32=31
 ·have e:wide 25 v=v/32768%2*9223372036854775808+2047*4503599627370496+v%1024*4398046511104:=by
   unfold wide;rw [if_pos rfl];unfold widen;simp only [Nat.reducePow,Nat.reduceAdd,Nat.reduceSub];rw [if_pos he]
  have hT:fT pr 25 v=(if v%1024≠0 then nanT else if v<32768 then infT else ninfT):=by
   unfold fT spO;rw [if_pos rfl,if_pos he]
   rfl
  rw [e,hT];refine ⟨by omega,.inr ?_⟩
  by_cases h0:v%1024=0
  ·refine .inr ?_
   rw [if_neg (fun h=>h h0)]
   by_cases h1:v<32768
   ·exact .inl ⟨by omega,by omega,if_pos h1⟩
   ·exact .inr ⟨by omega,by omega,if_neg h1⟩
  ·exact .inl ⟨by omega,if_pos h0⟩
 ·obtain ⟨a,b,c⟩:=wbits_fin (ai:=25) (v:=v) (.inl ⟨rfl,hv,he⟩);have hT:fT pr 25 v=fltB (wbits 25 v)++precT pr 25:=by
   unfold fT spO;rw [if_pos rfl,if_neg he]
   rfl
  rw [hT,←c];exact ⟨a,.inl ⟨b,rfl⟩⟩
theorem flt_kind26 (pr:Bool) (v:Nat) (hv:v<4294967296):wide 26 v<18446744073709551616∧KindT (wide 26 v) (fT pr 26 v) (precT pr 26):=by
 by_cases he:v/8388608%256=255
 ·have e:wide 26 v=v/2147483648%2*9223372036854775808+2047*4503599627370496+v%8388608*536870912:=by
   unfold wide;rw [if_neg (by omega),if_pos rfl]
   unfold widen;simp only [Nat.reducePow,Nat.reduceAdd,Nat.reduceSub];rw [if_pos he]
  have hT:fT pr 26 v=(if v%8388608≠0 then nanT else if v<2147483648 then infT else ninfT):=by
   unfold fT spO;rw [if_neg (by omega),if_pos rfl,if_pos he]
   rfl
  rw [e,hT];refine ⟨by omega,.inr ?_⟩
  by_cases h0:v%8388608=0
  ·refine .inr ?_
   rw [if_neg (fun h=>h h0)]
   by_cases h1:v<2147483648
   ·exact .inl ⟨by omega,by omega,if_pos h1⟩
   ·exact .inr ⟨by omega,by omega,if_neg h1⟩
  ·exact .inl ⟨by omega,if_pos h0⟩
 ·obtain ⟨a,b,c⟩:=wbits_fin (ai:=26) (v:=v) (.inr (.inl ⟨rfl,hv,he⟩));have hT:fT pr 26 v=fltB (wbits 26 v)++precT pr 26:=by
   unfold fT spO;rw [if_neg (by omega),if_pos rfl,if_neg he]
   rfl
  rw [hT,←c];exact ⟨a,.inl ⟨b,rfl⟩⟩
theorem flt_kind27 (pr:Bool) (v:Nat) (hv:v<18446744073709551616):wide 27 v<18446744073709551616∧KindT (wide 27 v) (fT pr 27 v) (precT pr 27):=by
 by_cases he:v/4503599627370496%2048=2047
 ·have e:wide 27 v=v:=by
   unfold wide;rw [if_neg (by omega),if_neg (by omega)]
  have hT:fT pr 27 v=(if v%4503599627370496≠0 then nanT else if v<9223372036854775808 then infT else ninfT):=by
   unfold fT spO;rw [if_neg (by omega),if_neg (by omega),if_pos he]
   rfl
  rw [e,hT];refine ⟨by omega,.inr ?_⟩
  by_cases h0:v%4503599627370496=0
  ·refine .inr ?_
   rw [if_neg (fun h=>h h0)]
   by_cases h1:v<9223372036854775808
   ·exact .inl ⟨by omega,by omega,if_pos h1⟩
   ·exact .inr ⟨by omega,by omega,if_neg h1⟩
  ·exact .inl ⟨by omega,if_pos h0⟩
 ·obtain ⟨a,b,c⟩:=wbits_fin (ai:=27) (v:=v) (.inr (.inr ⟨rfl,hv,he⟩));have hT:fT pr 27 v=fltB (wbits 27 v)++precT pr 27:=by
   unfold fT spO;rw [if_neg (by omega),if_neg (by omega),if_neg he]
   rfl
  rw [hT,←c];exact ⟨a,.inl ⟨b,rfl⟩⟩
theorem fltB_ne (B:Nat) (hf:B/4503599627370496%2048≠2047):fltB B≠[]∧(fltB B).length≤3001:=by
 obtain ⟨D,X,⟨ip,fp,ep,ht,_⟩,hl,_⟩:=flt_num hf;rw [fltB_sgn];have h1:=sgn_len B;refine ⟨?_,by rw [List.length_append];omega⟩
 rw [ht];simp
end
section
open Go.RowKit
theorem roundsNan {b:Nat} (hb:b<18446744073709551616) (h:18437736874454810624<b*2%18446744073709551616) (w:World):
  Calls Tryz.prog 45 #[.string ⟨nanT.toArray⟩,.int .u64 (b:Int)] w fun e w'=>e= .returned (.bool true)∧Fr [] w w':=by
 have KA:=nanW b hb;rw [show decide (18437736874454810624<b*2%18446744073709551616)=true by rw [decide_eq_true_eq];exact h] at KA
 have hbb:=bq_self ⟨nanT.toArray⟩;unfold nanT at *
 replace KA:=Hz KA;clear h;go_enter Tryz.func45,Tryz.ntmps45
 go_wp2_with fail
 refine (KA.out _).mono ?_
 rintro e w1 ⟨rfl,hf1⟩;go_wp2;go_ret
 exact ⟨rfl,hf1⟩
theorem roundsInf {b:Nat} (hb:b<18446744073709551616) (h:b*2%18446744073709551616=18437736874454810624) (hs:b<9223372036854775808) (w:World):
  Calls Tryz.prog 45 #[.string ⟨infT.toArray⟩,.int .u64 (b:Int)] w fun e w'=>e= .returned (.bool true)∧Fr [] w w':=by
 have KA:=nanW b hb;rw [show decide (18437736874454810624<b*2%18446744073709551616)=false by rw [decide_eq_false_iff_not];omega] at KA
 have KI:=infW b hb;rw [show decide (b*2%18446744073709551616=18437736874454810624)=true by rw [decide_eq_true_eq];exact h] at KI
 have hbb:=bq_self ⟨infT.toArray⟩;unfold infT at *
 have e1:(b:Int)/9223372036854775808=0:=by omega
 replace KA:=Hz KA;replace KI:=Hz KI;clear h;go_enter Tryz.func45,Tryz.ntmps45
 go_wp2_with fail
 refine (KA.out _).mono ?_
 rintro e w1 ⟨rfl,hf1⟩;go_wp2_with fail
 refine (KI.out _).mono ?_
 rintro e w2 ⟨rfl,hf2⟩;go_wp2;go_ret
 exact ⟨rfl,hf1.trans hf2⟩
theorem roundsNinf {b:Nat} (hb:b<18446744073709551616) (h:b*2%18446744073709551616=18437736874454810624) (hs:9223372036854775808≤b) (w:World):
  Calls Tryz.prog 45 #[.string ⟨ninfT.toArray⟩,.int .u64 (b:Int)] w fun e w'=>e= .returned (.bool true)∧Fr [] w w':=by
 have KA:=nanW b hb;rw [show decide (18437736874454810624<b*2%18446744073709551616)=false by rw [decide_eq_false_iff_not];omega] at KA
 have KI:=infW b hb;rw [show decide (b*2%18446744073709551616=18437736874454810624)=true by rw [decide_eq_true_eq];exact h] at KI
 have hbb:=bq_self ⟨ninfT.toArray⟩;have hbn:=bq_ne (l:=ninfT) (m:=infT) (by decide)
 unfold ninfT at *
 unfold infT at *
 have e1:(b:Int)/9223372036854775808=1:=by omega
 replace KA:=Hz KA;replace KI:=Hz KI;clear h;go_enter Tryz.func45,Tryz.ntmps45
 go_wp2_with fail
 refine (KA.out _).mono ?_
 rintro e w1 ⟨rfl,hf1⟩;go_wp2_with fail
 refine (KI.out _).mono ?_
 rintro e w2 ⟨rfl,hf2⟩;go_wp2;go_ret
 exact ⟨rfl,hf1.trans hf2⟩
end
section
set_option exponentiation.threshold 3000
open Go.RowKit
def u16T (v:Nat):List UInt8:=[92,117]++hexB hexD [(v/256).toUInt8,v.toUInt8]
def escT (q b:UInt8):List UInt8:=
 if b=9 then [92,116] else if b=10 then [92,110] else if b=13 then [92,114] else if b=92∨b=q then [92,b]
 else if 32≤b.toNat∧b.toNat≤126 then [b] else u16T b.toNat
def runeT (c:Nat):List UInt8:=if c<65536 then u16T c else u16T (55296+(c-65536)/1024)++u16T (56320+(c-65536)%1024)
def txtE (q:UInt8):Nat→List UInt8→List UInt8
 |0,_=>[]
 |_+1,[]=>[]
 |n+1,b::l=>if b.toNat<128 then escT q b++txtE q n l else runeT (Lib.decodeL (b::l)).1++txtE q n ((b::l).drop (Lib.decodeL (b::l)).2)
def qT (q:UInt8) (l:List UInt8):List UInt8:=q::(txtE q l.length l++[q])
theorem u16T_length (v:Nat):(u16T v).length=6:=by simp [u16T,hexB]
theorem escT_length (q b:UInt8):(escT q b).length≤6:=by
 unfold escT
 repeat' split
 all_goals first|(rw [u16T_length];omega)|simp
theorem runeT_length (c:Nat):(runeT c).length≤12:=by
 unfold runeT
 split<;>simp [u16T_length]
theorem txtE_length (q:UInt8): ∀(n:Nat) (l:List UInt8),(txtE q n l).length≤12*l.length
 |0,l=>by simp [txtE]
 |n+1,[]=>by simp [txtE]
 |n+1,b::l=>by
  rw [txtE]
  split
  ·have h1:=escT_length q b;have h2:=txtE_length q n l;rw [List.length_append,List.length_cons];omega
  ·have h1:=runeT_length (Lib.decodeL (b::l)).1;have h2:=txtE_length q n ((b::l).drop (Lib.decodeL (b::l)).2);have h3:=Lib.decodeL_width (b::l);rw [List.length_append];rw [List.length_drop,List.length_cons] at h2;rw [List.length_cons];omega
theorem qT_length (q:UInt8) (l:List UInt8):(qT q l).length≤12*l.length+2:=by
 have:=txtE_length q l.length l;simp [qT];omega
def catS:List Tr→List UInt8
 |[]=>[]
 | .str _ b::l=>b++catS l
 |_::l=>catS l
def bigN (n:Nat) (b:List UInt8):List UInt8:=if n=2 then dec (be b) else 45::dec (be b+1)
def bigR (n:Nat):Tr→R
 | .str false b=>txt (bigN n b)
 | .chk false l=>txt (bigN n (catS l))
 |_=>([],some 17)
def ntM (M:Md) (by_:List UInt8→List UInt8):Nt:=⟨by_,fun b=>if Lib.validD b=true then txt (qT 34 b) else ([],some 10),fT M.pr,bigR⟩
noncomputable def wfR (L:Lim) (xs:List UInt8) (off:Nat):Except Nat (Nat×Nat):=Classical.choose (Classical.choose_spec ((wf_total L xs _ off (Nat.le_refl _)).1 0))
theorem wfR_spec (L:Lim) (xs:List UInt8) (off:Nat): ∃f,wfI L xs f off 0=some (wfR L xs off):=⟨_,Classical.choose_spec (Classical.choose_spec ((wf_total L xs _ off (Nat.le_refl _)).1 0))⟩
theorem wfI_det {L:Lim} {xs:List UInt8} {f g off dep:Nat} {r s:Except Nat (Nat×Nat)} (h:wfI L xs f off dep=some r) (k:wfI L xs g off dep=some s):r=s:=by
 have h1:=(wf_le L xs (Nat.le_max_left f g)).1 _ _ _ h;have h2:=(wf_le L xs (Nat.le_max_right f g)).1 _ _ _ k;rw [h1] at h2;exact Option.some.inj h2
theorem wfR_eq {L:Lim} {xs:List UInt8} {f off:Nat} {r:Except Nat (Nat×Nat)} (h:wfI L xs f off 0=some r):wfR L xs off=r:=by
 obtain ⟨g,hg⟩:=wfR_spec L xs off;exact wfI_det hg h
noncomputable def itemR (L:Lim) (xs:List UInt8) (off:Nat):Except Nat (Tr×Nat):=
 match wfR L xs off with
 | .error k=> .error k
 | .ok _=>match treeF xs (2*L.nest+3) off with
  |some q=> .ok q
  |none=> .error 0
theorem itemR_of {L:Lim} {xs:List UInt8} {off o:Nat} {t:Tr} (hel:L.el≤2147483647) (hpa:L.pa≤2147483647) (h:Enc xs t off o) (hf:t.fits L) (hd:t.dp≤L.nest):itemR L xs off= .ok (t,o):=by
 obtain ⟨f,hw⟩:=wf_item L xs hel hpa t off o 0 h hf (by omega)
 have h1:=wfR_eq hw;have h2:=ht_dp t;have h3:=enc_tree t (2*L.nest+3) off o h (by split at h2<;>omega)
 unfold itemR;rw [h1,h3]
theorem itemR_ok {L:Lim} {xs:List UInt8} {off o:Nat} {t:Tr} (hlen:xs.length≤1099511627776) (h:itemR L xs off= .ok (t,o)):Enc xs t off o∧t.fits L∧t.dp≤L.nest∧ ∃f D,wfI L xs f off 0=some (.ok (D,o)):=by
 obtain ⟨g,hg⟩:=wfR_spec L xs off;unfold itemR at h;cases hw:wfR L xs off with
 |error k=>rw [hw] at h;cases h
 |ok q=>
  obtain ⟨D,o2⟩:=q;rw [hw] at h hg;obtain ⟨t2,e1,e2,e3,e4⟩:=(wf_enc L xs g).1 off 0 D o2 (Nat.zero_le _) hg;have h2:=ht_dp t2;have h3:=enc_tree t2 (2*L.nest+3) off o2 e1 (by split at h2<;>omega)
  rw [h3] at h;injection h with h
  injection h with a b
  subst a b;exact ⟨e1,e2,by omega,g,D,hg⟩
theorem itemR_err {L:Lim} {xs:List UInt8} {off k:Nat} (h:itemR L xs off= .error k): ∃f,wfI L xs f off 0=some (.error k):=by
 obtain ⟨g,hg⟩:=wfR_spec L xs off;unfold itemR at h;cases hw:wfR L xs off with
 |error k2=>
  rw [hw] at h hg;injection h with h
  subst h;exact ⟨g,hg⟩
 |ok q=>
  obtain ⟨D,o2⟩:=q;rw [hw] at h hg;obtain ⟨t2,e1,e2,e3,e4⟩:=(wf_enc L xs g).1 off 0 D o2 (Nat.zero_le _) hg;have h2:=ht_dp t2;have h3:=enc_tree t2 (2*L.nest+3) off o2 e1 (by split at h2<;>omega)
  rw [h3] at h;cases h
noncomputable def seqF (L:Lim) (N:Nt) (xs:List UInt8):Nat→Bool→Nat→R
 |0,_,_=>([],some 0)
 |n+1,first,off=>if xs.length≤off then (if first then ([],some 1) else ([],none)) else match itemR L xs off with
  | .error k=>([],some k)
  | .ok (t,o)=>thenR (txt (if first then [] else [44,32])) (thenR (note N t) (seqF L N xs n false o))
noncomputable def seqR (L:Lim) (N:Nt) (xs:List UInt8):R:=seqF L N xs (xs.length+1) true 0
noncomputable def byF (L:Lim) (M:Md):Nat→List UInt8→List UInt8
 |0,b=>if b≠[]∧M.tx=true∧Lib.validD b=true then qT 39 b else noteB M.enc M.sp b
 |n+1,b=>if b≠[]∧M.tx=true∧Lib.validD b=true then qT 39 b
  else if b≠[]∧M.em=true∧(seqR L (ntM M (byF L M n)) b).2=none then [60,60]++((seqR L (ntM M (byF L M n)) b).1++[62,62])
  else noteB M.enc M.sp b
noncomputable def byA (L:Lim) (M:Md) (b:List UInt8):List UInt8:=byF L M b.length b
noncomputable def ntA (L:Lim) (M:Md):Nt:=ntM M (byA L M)
noncomputable def oneR (L:Lim) (N:Nt) (xs:List UInt8):R:=
 if xs=[] then ([],some 1) else match itemR L xs 0 with
  | .error k=>([],some k)
  | .ok (t,o)=>if o=xs.length then note N t else ([],some 4)
noncomputable def diagR (L:Lim) (M:Md) (sq:Bool) (xs:List UInt8):R:=if sq then seqR L (ntA L M) xs else oneR L (ntA L M) xs
mutual
def AllS (p:List UInt8→Prop):Tr→Prop
 | .str false b=>p b
 | .chk _ l=>AllSs p l
 | .arr _ l=>AllSs p l
 | .map _ l=>AllSs p l
 | .tag _ t=>AllS p t
 |_=>True
def AllSs (p:List UInt8→Prop):List Tr→Prop
 |[]=>True
 |t::l=>AllS p t∧AllSs p l
end
mutual
theorem note_congr {N N':Nt} (h1:N.tx=N'.tx) (h2:N.fl=N'.fl) (h3:N.big=N'.big): ∀t:Tr,AllS (fun b=>N.by_ b=N'.by_ b) t→note N t=note N' t
 | .int false _,_=>by rw [note,note]
 | .int true _,_=>by rw [note,note]
 | .str false b,h=>by rw [AllS] at h;rw [note,note,h]
 | .str true b,_=>by rw [note,note,h1]
 | .chk tx [],h=>by rw [note,note]
 | .chk tx (t::l),h=>by
  rw [AllS,AllSs] at h;rw [note,note,note_congr h1 h2 h3 t h.1,notes_congr h1 h2 h3 l h.2]
 | .arr o l,h=>by rw [AllS] at h;rw [note,note,notes_congr h1 h2 h3 l h]
 | .map o l,h=>by rw [AllS] at h;rw [note,note,notes_congr h1 h2 h3 l h]
 | .tag n t,h=>by rw [AllS] at h;rw [note,note,note_congr h1 h2 h3 t h,h3]
 | .prim ai v,_=>by rw [note,note,h2]
theorem notes_congr {N N':Nt} (h1:N.tx=N'.tx) (h2:N.fl=N'.fl) (h3:N.big=N'.big): ∀l:List Tr,AllSs (fun b=>N.by_ b=N'.by_ b) l→notes N l=notes N' l
 |[],_=>by rw [notes,notes]
 |t::l,h=>by
  rw [AllSs] at h;rw [notes,notes,note_congr h1 h2 h3 t h.1,notes_congr h1 h2 h3 l h.2]
end
mutual
theorem enc_strs {xs:List UInt8}: ∀(t:Tr) (off o:Nat),Enc xs t off o→AllS (fun b=>b.length<xs.length∧ ∃q,b=(xs.drop q).take b.length∧q+b.length≤xs.length) t
 | .int _ _,off,o,h=>by rw [AllS]<;>simp
 | .str true _,off,o,h=>by rw [AllS]<;>simp
 | .str false b,off,o,h=>by
  rw [AllS];rw [Enc] at h;obtain ⟨ai,v,o1,h,_,hv,_,rfl,hb⟩:=h;have hl:b.length=v:=by rw [hb];simp;omega
  have:=(hd_off h).1;exact ⟨by omega,o1,by rw [hl];exact hb,by omega⟩
 | .chk tx l,off,o,h=>by
  rw [Enc] at h;obtain ⟨v,o1,h,hc⟩:=h;rw [AllS];exact chunks_strs tx l _ _ hc
 | .arr false l,off,o,h=>by
  rw [Enc] at h;obtain ⟨ai,o1,h,h31,hc⟩:=h;rw [AllS];exact encs_strs l _ _ hc
 | .arr true l,off,o,h=>by
  rw [Enc] at h;obtain ⟨v,o1,h,hc⟩:=h;rw [AllS];exact opens_strs l _ _ hc
 | .map false l,off,o,h=>by
  rw [Enc] at h;obtain ⟨ai,v,o1,h,h31,hv,hc⟩:=h;rw [AllS];exact encs_strs l _ _ hc
 | .map true l,off,o,h=>by
  rw [Enc] at h;obtain ⟨v,o1,h,h2,hc⟩:=h;rw [AllS];exact opens_strs l _ _ hc
 | .tag n t,off,o,h=>by
  rw [Enc] at h;obtain ⟨ai,o1,h,hc⟩:=h;rw [AllS];exact enc_strs t _ _ hc
 | .prim ai v,off,o,h=>by rw [AllS]<;>simp
theorem encs_strs {xs:List UInt8}: ∀(l:List Tr) (off o:Nat),Encs xs l off o→AllSs (fun b=>b.length<xs.length∧ ∃q,b=(xs.drop q).take b.length∧q+b.length≤xs.length) l
 |[],off,o,h=>by rw [AllSs];trivial
 |t::l,off,o,h=>by
  rw [Encs] at h;obtain ⟨mid,h1,h2⟩:=h;rw [AllSs];exact ⟨enc_strs t _ _ h1,encs_strs l _ _ h2⟩
theorem opens_strs {xs:List UInt8}: ∀(l:List Tr) (off o:Nat),Opens xs l off o→AllSs (fun b=>b.length<xs.length∧ ∃q,b=(xs.drop q).take b.length∧q+b.length≤xs.length) l
 |[],off,o,h=>by rw [AllSs];trivial
 |t::l,off,o,h=>by
  rw [Opens] at h;obtain ⟨b,mid,_,_,h1,h2⟩:=h;rw [AllSs];exact ⟨enc_strs t _ _ h1,opens_strs l _ _ h2⟩
theorem chunks_strs {xs:List UInt8} (tx:Bool): ∀(l:List Tr) (off o:Nat),Chunks xs tx l off o→AllSs (fun b=>b.length<xs.length∧ ∃q,b=(xs.drop q).take b.length∧q+b.length≤xs.length) l
 |[],off,o,h=>by rw [AllSs];trivial
 |t::l,off,o,h=>by
  rw [Chunks] at h;obtain ⟨b,mid,_,_,_,h1,h2⟩:=h;rw [AllSs];exact ⟨enc_strs t _ _ h1,chunks_strs tx l _ _ h2⟩
end
mutual
theorem AllS.imp {p q:List UInt8→Prop} (h: ∀b,p b→q b): ∀t:Tr,AllS p t→AllS q t
 | .int _ _,_=>by rw [AllS]<;>simp
 | .str true _,_=>by rw [AllS]<;>simp
 | .str false b,k=>by rw [AllS] at k ⊢;exact h b k
 | .chk _ l,k=>by rw [AllS] at k ⊢;exact AllSs.imp h l k
 | .arr _ l,k=>by rw [AllS] at k ⊢;exact AllSs.imp h l k
 | .map _ l,k=>by rw [AllS] at k ⊢;exact AllSs.imp h l k
 | .tag _ t,k=>by rw [AllS] at k ⊢;exact AllS.imp h t k
 | .prim _ _,_=>by rw [AllS]<;>simp
theorem AllSs.imp {p q:List UInt8→Prop} (h: ∀b,p b→q b): ∀l:List Tr,AllSs p l→AllSs q l
 |[],_=>by rw [AllSs];trivial
 |t::l,k=>by rw [AllSs] at k ⊢;exact ⟨AllS.imp h t k.1,AllSs.imp h l k.2⟩
end
theorem seqF_congr {L:Lim} {N N':Nt} {xs:List UInt8} (hlen:xs.length≤1099511627776) (h1:N.tx=N'.tx) (h2:N.fl=N'.fl) (h3:N.big=N'.big) (hb: ∀b:List UInt8,b.length<xs.length→N.by_ b=N'.by_ b): ∀n first off,seqF L N xs n first off=seqF L N' xs n first off
 |0,_,_=>rfl
 |n+1,first,off=>by
  rw [seqF,seqF]
  split
  ·rfl
  ·cases hi:itemR L xs off with
   |error k=>rfl
   |ok q=>
    obtain ⟨t,o⟩:=q;dsimp only;have he:=(itemR_ok hlen hi).1;rw [note_congr h1 h2 h3 t ((enc_strs t off o he).imp (fun b hbb=>hb b hbb.1) t),seqF_congr hlen h1 h2 h3 hb n false o]
theorem byF_stable {L:Lim} {M:Md}: ∀n (b:List UInt8),b.length≤1099511627776→b.length≤n→ ∀m,b.length≤m→byF L M n b=byF L M m b:=by
 intro n
 induction n with
 |zero=>
  intro b hlen h m hm;have h0:b=[]:=List.eq_nil_of_length_eq_zero (by omega)
  subst h0;cases m<;>simp [byF]
 |succ n ih=>
  intro b hlen h m hm;cases m with
  |zero=>
   have h0:b=[]:=List.eq_nil_of_length_eq_zero (by omega)
   subst h0;simp [byF]
  |succ m=>
   have:seqR L (ntM M (byF L M n)) b=seqR L (ntM M (byF L M m)) b:=by
    unfold seqR;exact seqF_congr (N:=ntM M (byF L M n)) (N':=ntM M (byF L M m)) hlen rfl rfl rfl (fun c hc=>ih c (by omega) (by omega) m (by omega)) _ _ _
   rw [byF,byF,this]
theorem byA_eq (L:Lim) (M:Md) (b:List UInt8) (hlen:b.length≤1099511627776):byA L M b=if b≠[]∧M.tx=true∧Lib.validD b=true then qT 39 b
  else if b≠[]∧M.em=true∧(seqR L (ntA L M) b).2=none then [60,60]++((seqR L (ntA L M) b).1++[62,62]) else noteB M.enc M.sp b:=by
 unfold byA;cases hb:b.length with
 |zero=>
  have h0:b=[]:=List.eq_nil_of_length_eq_zero hb;subst h0;simp [byF]
 |succ n=>
  have:seqR L (ntM M (byF L M n)) b=seqR L (ntA L M) b:=by
   unfold seqR ntA;exact seqF_congr (N:=ntM M (byF L M n)) (N':=ntM M (byA L M)) hlen rfl rfl rfl (fun c hc=>byF_stable n c (by omega) (by omega) _ (Nat.le_refl _)) _ _ _
  rw [byF,this]
end
end Go.Proofs.YteodinhkhhaafaaGreatDoor
