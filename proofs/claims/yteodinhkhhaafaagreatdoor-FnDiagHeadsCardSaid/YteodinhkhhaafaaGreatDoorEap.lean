/- Walks of the program, and plain facts. -/
import Derived.Test.YteodinhkhhaafaaGreatDoorEag
import Derived.Laws.AppendOwnNone
import Derived.Test.YteodinhkhhaafaaGreatDoorEao
set_option linter.unusedVariables false
set_option linter.unusedSimpArgs false
set_option maxRecDepth 100000
set_option maxHeartbeats 6400000
namespace Go.Proofs.YteodinhkhhaafaaGreatDoor
section
def dgs (n A:Nat) (h:Nat):List Nat:=if hn:n=0∨h<n then [] else A/2^(h-n)%2^n::dgs n A (h-n)
termination_by h
decreasing_by omega
theorem dgs_no {n A h:Nat} (hh:h<n):dgs n A h=[]:=by rw [dgs,dif_pos (.inr hh)]
theorem dgs_yes {n A h:Nat} (h0:0<n) (hh:n≤h):dgs n A h=A/2^(h-n)%2^n::dgs n A (h-n):=by rw [dgs,dif_neg (by omega)]
def bdg (n:Nat):List UInt8→Nat→Nat→List Nat
 |[],A,h=>if 0<h then [A*2^(n-h)] else []
 |c::l,A,h=>dgs n (A*256+c.toNat) (h+8)++bdg n l ((A*256+c.toNat)%2^((h+8)%n)) ((h+8)%n)
def ltr (ds:List UInt8) (i:Nat):UInt8:=ds.getD i 0
def baseB (n:Nat) (ds:List UInt8) (b:List UInt8):List UInt8:=(bdg n b 0 0).map (ltr ds)
theorem dgs_length (n A:Nat) (h0:0<n): ∀k h,h<k→(dgs n A h).length=h/n:=by
 intro k
 induction k with
 |zero=>intro h hk;omega
 |succ k ih=>
  intro h hk;by_cases hh:h<n
  ·rw [dgs_no hh,Nat.div_eq_of_lt hh];rfl
  ·rw [dgs_yes h0 (by omega),List.length_cons,ih _ (by omega)]
   conv=>rhs;rw [Nat.div_eq,if_pos (by omega)]
theorem bdg_length (n:Nat) (h0:0<n): ∀(b:List UInt8) (A h:Nat),h<n→(bdg n b A h).length≤h+8*b.length
 |[],A,h,hh=>by
  rw [bdg]
  split<;>simp
  omega
 |c::l,A,h,hh=>by
  have ih:=bdg_length n h0 l ((A*256+c.toNat)%2^((h+8)%n)) ((h+8)%n) (Nat.mod_lt _ h0);rw [bdg,List.length_append,dgs_length n _ h0 _ _ (Nat.lt_succ_self _),List.length_cons];have h1:=Nat.div_add_mod (h+8) n;have h2:(h+8)/n≤n*((h+8)/n):=Nat.le_mul_of_pos_left _ h0;omega
theorem baseB_length (n:Nat) (h0:0<n) (ds b:List UInt8):(baseB n ds b).length≤8*b.length:=by
 have:=bdg_length n h0 b 0 0 h0;unfold baseB;rw [List.length_map];omega
def hexB (ds:List UInt8):List UInt8→List UInt8
 |[]=>[]
 |c::l=>ds.getD (c.toNat/16) 0::ds.getD (c.toNat%16) 0::hexB ds l
theorem hexB_append (ds:List UInt8): ∀a b:List UInt8,hexB ds (a++b)=hexB ds a++hexB ds b
 |[],b=>rfl
 |c::a,b=>by simp [hexB,hexB_append ds a b]
theorem hexB_length (ds:List UInt8): ∀a:List UInt8,(hexB ds a).length=2*a.length
 |[]=>rfl
 |c::a=>by simp [hexB,hexB_length ds a];omega
def spacedB (ds:List UInt8):Nat→List UInt8→List UInt8
 |_,[]=>[]
 |i,c::l=>(if i=0 then [] else [32])++(hexB ds [c]++spacedB ds (i+1) l)
def hexD:List UInt8:=[48,49,50,51,52,53,54,55,56,57,97,98,99,100,101,102]
def b32D:List UInt8:=[65,66,67,68,69,70,71,72,73,74,75,76,77,78,79,80,81,82,83,84,85,86,87,88,89,90,50,51,52,53,54,55]
def h32D:List UInt8:=[48,49,50,51,52,53,54,55,56,57,65,66,67,68,69,70,71,72,73,74,75,76,77,78,79,80,81,82,83,84,85,86]
def b64D:List UInt8:=[65,66,67,68,69,70,71,72,73,74,75,76,77,78,79,80,81,82,83,84,85,86,87,88,89,90,97,98,99,100,101,102,103,104,105,106,107,108,109,110,111,112,113,114,115,116,117,118,119,120,121,122,48,49,50,51,52,53,54,55,56,57,45,95]
def noteB (enc:Nat) (sp:Bool) (b:List UInt8):List UInt8:=
 (if enc=1 then [98,51,50,39]++baseB 5 b32D b else if enc=2 then [104,51,50,39]++baseB 5 h32D b else if enc=3 then [98,54,52,39]++baseB 6 b64D b
 else if sp then [104,39]++spacedB hexD 0 b else [104,39]++hexB hexD b)++[39]
section
open Go.RowKit
theorem rd_new {w W:World} {s:List UInt8} {cs:Array Value} {t:TypeId} (h:W.heap=w.heap.push (.cells cs t (0,0))) (hc:cs=(enc s).toArray):Rd W w.heap.size 0 s:=fun j hj=>by
 subst hc;have hb:W.heap[w.heap.size]? =some (.cells (enc s).toArray t (0,0)):=by rw [h];simp
 rw [Nat.zero_add,cell_blk hb];simp [enc,hj]
theorem Fr.push {S:List Nat} {w w1 W:World} {o:Obj} (h:Fr S w w1) (e:W.heap=w1.heap.push o) (h1:W.os=w1.os) (h2:W.tape=w1.tape) (h3:W.output=w1.output):Fr S w W:=
 h.then_ (T:=[]) ⟨h1,h2,h3,by rw [e];simp,fun k hk _=>by rw [e];exact Below.heap_alloc w1 o k hk⟩ (by simp)
theorem Row.push {w W:World} {B:Nat} {v:Value} {bs:List UInt8} {o:Obj} (h:Row w B v bs) (e:W.heap=w.heap.push o):Row W B v bs:=by
 obtain ⟨h1,h2⟩:=h;refine ⟨h1,?_⟩
 rcases h2 with h2|⟨g,cap,cur,rfl,hg,hh,r⟩
 ·exact .inl h2
 ·exact .inr ⟨g,cap,cur,rfl,hg,by rw [e];exact (Below.heap_alloc w o g (blk_lt' hh)).trans hh,r⟩
theorem step_apRow {ops:Array Oper} {o:Oper} {a:Act} {w:World} {K:Act→World→Prop} {Q:Exit→Act→World→Prop} {E:Prop}
  (hg:o.guard=none) (x y:Operand) (hop:o.op=Op.call {callee:=Callee.builtin Builtin.append,args:= #[x,y],argTypes:= #[59,59]})
  {B:Nat} (v:Value) (bs s:List UInt8) (b off c:Nat) (hs:a.eval x=v) (hx:a.eval y= .slice (some ⟨b,off,none⟩) s.length c) (hr:Rd w b off s) (hown:Row w B v bs) (hB:B≤w.heap.size) (hl:bs.length+s.length≤140737488355328)
  (hK: ∀v' w',Row w' B v' (bs++s)→w.grownBy w' v.ownBlock→K (a.put o.dst v') w'):
  if Region.wanted o (yielded ops a.tmps)=true then Oper.wp Tryz.prog o a w K Q else E:=by
 have hw:Region.wanted o (yielded ops a.tmps)=true:=by simp [Region.wanted,hg]
 rw [if_pos hw];have hinfo:(Tryz.prog.info? 5).map (fun i=>(i.zero,i.size,i.bytes))=some (some (.int .u8 0),1,1):=by kernel_rfl
 obtain ⟨i0,hi,hzz⟩:=Option.map_eq_some_iff.1 hinfo;simp only [Prod.mk.injEq] at hzz;obtain ⟨hz0,hz1,hz2⟩:=hzz;obtain ⟨v',w',hrun,r1,r2,_⟩:=run_append_own (P:=Tryz.prog) w B 59 o.type 5 i0 (.int .u8 0) 1 1 Tryz.underlying59 hi hz0 hz1 hz2 rfl (by decide) v bs.length (enc bs) hown ⟨b,off,none⟩ s.length c (enc s) (by rw [enc_length,Nat.mul_one]) hr.cells (enc_one s) (by simp only [maxLen];omega) (by omega) hB
 unfold Oper.wp;simp [execOp,hop,resolve,invoke,builtin,hs,hx,hrun,Result.andThen];rw [←enc_append,←List.length_append] at r1;exact hK v' w' r1 r2
end
section
open Go.RowKit
theorem hex_at (k:Fin 16):((⟨#[48,49,50,51,52,53,54,55,56,57,97,98,99,100,101,102]⟩:ByteArray)[k.val]'(by have:=k.isLt;show _<16;omega)).toNat=(hexD.getD k.val 0).toNat:=by revert k;decide
theorem hex_step (xs:List UInt8) (j:Nat) (h:j<xs.length):hexB hexD (xs.take (j+1))=hexB hexD (xs.take j)++[hexD.getD (xs[j].toNat/16) 0,hexD.getD (xs[j].toNat%16) 0]:=by
 rw [List.take_succ_eq_append_getElem h,hexB_append]
 rfl
theorem u8_and15 (b:UInt8):bits .and .u8 (b.toNat:Int) 15=((b.toNat%16:Nat):Int):=by
 have hb:=b.toNat_lt;rw [show (15:Int)=((15:Nat):Int) from rfl,u8_and_nat _ _ (by omega) (by decide)]
 have key: ∀x:Fin 256,(x.val&&&15)=x.val%16:=by decide+kernel
 exact congrArg _ (key ⟨b.toNat,hb⟩)
theorem zzHex {w:World} {b o c:Nat} {xs:List UInt8} (hrd:Rd w b o xs) (hlen:xs.length≤1099511627776):
  Calls Tryz.prog 170 #[.slice (some ⟨b,o,none⟩) xs.length c] w fun e w'=> ∃v,e= .returned v∧Row w' w.heap.size v (hexB hexD xs)∧Fr [] w w':=by
 replace hrd:=Hz hrd;obtain ⟨n,hn⟩: ∃n,n=xs.length:=⟨_,rfl⟩;go_enter Tryz.func170,Tryz.ntmps170
 go_wp2
 go_loopg [3,8] xs.length (fun k v3 v8 wr=> ∃j:Nat,v8= .int .i64 (j:Int)∧j+k=xs.length∧Row wr w.heap.size v3 (hexB hexD (xs.take j))∧Fr [] w wr)
 case atStart=>exact ⟨0,by go_num,by omega,Row.nil _ _,Fr.refl _ _⟩
 case round=>
  obtain ⟨j,rfl,hj,hrow,hF⟩:=hrel;obtain ⟨ao,n0,c0,rfl⟩:=hrow.shape;by_cases hk:gk=0
  ·subst hk;obtain rfl:j=xs.length:=by omega
   rw [List.take_of_length_le (Nat.le_refl _)] at hrow;have t1: ¬(xs.length:Int)<(xs.length:Int):=by omega
   go_wp2;go_ret
   exact ⟨_,rfl,hrow,hF⟩
  ·obtain ⟨g,rfl⟩: ∃g,gk=g+1:=⟨gk-1,by omega⟩
   have hjl:j<xs.length:=by omega
   have t1:(j:Int)<(xs.length:Int):=by omega
   have hc:=hF.cell (hrd.out j hjl) (by simp)
   generalize hxe:xs[j]=x at hc;have hb:=x.toNat_lt;have ga:=u8_and15 x;have gd:(x.toNat:Int)/16=((x.toNat/16:Nat):Int):=by omega
   have hstep:=hex_step xs j hjl;rw [hxe] at hstep;have hl1:x.toNat/16<16:=by omega
   have hl2:x.toNat%16<16:=by omega
   clear hb hxe;generalize x.toNat/16=h1 at *
   generalize x.toNat%16=h2 at *
   have d1:=hex_at ⟨h1,hl1⟩;have d2:=hex_at ⟨h2,hl2⟩;have hl:(hexB hexD (xs.take j)).length+[hexD.getD h1 0,hexD.getD h2 0].length≤140737488355328:=by
    rw [hexB_length];simp;omega
   have hBs:=hF.size;have hstep':=Hz hstep;have d1':=Hz d1;have d2':=Hz d2;clear d1 d2 hstep;have i1:(h1:Int)<16:=by omega
   have i2:(h2:Int)<16:=by omega
   go_wp2
   go_region_law (refine step_apRow rfl (.tmp 12) (.tmp 19) rfl (B:=w.heap.size) _ _ [hexD.getD h1 0,hexD.getD h2 0] wr.heap.size 0 2 (by simp [Act.eval,Act.put]) (by simp [Act.eval,Act.put]) (rd_new (w:=wr) rfl (by simp only [enc,List.map_cons,List.map_nil];rw [←d1'.out,←d2'.out])) (hrow.push rfl) (by simp;omega) hl ?_;intro v' w' hr' hg)
   all_goals
    have hF2:Fr [] w w':=by
     refine Fr.grown ?_ hg (fun k hk=> .inr (World.ownsRow.lt hrow k hk).1)
     exact hF.push rfl rfl rfl rfl
    rw [←hstep'.out] at hr';go_wp2
    go_roundg g
    case measure=>omega
    case rel=>exact ⟨j+1,by go_num,by omega,hr',hF2⟩
end
section
open Go.RowKit
theorem or_acc (A x:Nat) (hA:A<128) (hx:x<256):bits .or .u64 ((A:Int)*256) (x:Int)=((A*256+x:Nat):Int):=by
 rw [show (A:Int)*256=((A*256:Nat):Int) by omega,u64_or_nat _ _ (by omega) (by omega),nat_join 8 _ _ (by omega) (by omega)]
theorem wrap64_lt (x:Nat) (h:x<18446744073709551616):IntKind.u64.wrap (x:Int)=(x:Int):=by show (x:Int)%18446744073709551616=_;omega
theorem pow_int (n:Nat):(2:Int)^n=((2^n:Nat):Int):=by simp
theorem mask_w (n:Nat) (h:n≤8):IntKind.u64.wrap (IntKind.u64.wrap (2^n)-1)=((2^n-1:Nat):Int):=by
 have hp:=Nat.pow_le_pow_right (n:=2) (by omega) h
 have h1:1≤2^n:=Nat.pow_pos (by omega)
 rw [pow_int,wrap64_lt _ (by omega),show ((2^n:Nat):Int)-1=((2^n-1:Nat):Int) by omega,wrap64_lt _ (by omega)]
theorem and_mask (A n:Nat) (hA:A<18446744073709551616) (h:n≤8):bits .and .u64 (A:Int) (IntKind.u64.wrap (IntKind.u64.wrap (2^n)-1))=((A%2^n:Nat):Int):=by
 have hp:=Nat.pow_le_pow_right (n:=2) (by omega) h
 rw [mask_w n h,u64_and_nat _ _ hA (by omega),Nat.and_two_pow_sub_one_eq_mod]
theorem ba_getD (ds:List UInt8) (z:Nat) (h:z<ds.length):((⟨ds.toArray⟩:ByteArray)[z]'(by show z<ds.toArray.size;simpa using h))=ltr ds z:=by
 unfold ltr;rw [List.getD_eq_getElem?_getD,List.getElem?_eq_getElem h]
 rfl
theorem bdg_step (n:Nat) (xs:List UInt8) (j A h:Nat) (hj:j<xs.length):bdg n (xs.drop j) A h=dgs n (A*256+xs[j].toNat) (h+8)++bdg n (xs.drop (j+1)) ((A*256+xs[j].toNat)%2^((h+8)%n)) ((h+8)%n):=by
 rw [List.drop_eq_getElem_cons hj,bdg]
theorem zzBits {w:World} {b o c n:Nat} {xs ds:List UInt8} (h0:0<n) (h8:n≤8) (hds:ds.length=2^n) (hrd:Rd w b o xs) (hlen:xs.length≤1099511627776):
  Calls Tryz.prog 199 #[.slice (some ⟨b,o,none⟩) xs.length c,.int .u64 (n:Int),.string ⟨ds.toArray⟩] w fun e w'=> ∃v,e= .returned v∧Row w' w.heap.size v (baseB n ds xs)∧Fr [] w w':=by
 replace hrd:=Hz hrd;replace hds:=Hz hds;go_enter Tryz.func199,Tryz.ntmps199
 go_wp2
 go_loopg [7,8,9,14] xs.length (fun k v7 v8 v9 v14 wr=> ∃(j A h:Nat) (out:List Nat),v14= .int .i64 (j:Int)∧j+k=xs.length∧v8= .int .u64 (A:Int)∧v9= .int .u64 (h:Int)∧A<2^h∧h<n∧Hid (out++bdg n (xs.drop j) A h=bdg n xs 0 0)∧Row wr w.heap.size v7 (out.map (ltr ds))∧Fr [] w wr)
 case atStart=>exact ⟨0,0,0,[],by go_num,by omega,by go_num,by go_num,by omega,h0,Hz (by simp),Row.nil _ _,Fr.refl _ _⟩
 case round=>
  obtain ⟨j,A,h,out,rfl,hj,rfl,rfl,hA,hh,heq,hrow,hF⟩:=hrel;obtain ⟨ao,n0,c0,rfl⟩:=hrow.shape;by_cases hk:gk=0
  ·subst hk;obtain rfl:j=xs.length:=by omega
   rw [List.drop_of_length_le (Nat.le_refl _),bdg] at heq;have t1: ¬(xs.length:Int)<(xs.length:Int):=by omega
   by_cases hz:0<h
   ·rw [if_pos hz] at heq;have t2:(0:Int)<(h:Int):=by omega
    have hfin:=heq.out;have hol:=congrArg List.length hfin;rw [List.length_append,List.length_singleton] at hol;have hbl:=bdg_length n h0 xs 0 0 h0;have hsub:(n:Int)-(h:Int)=((n-h:Nat):Int):=by omega
    have hpw:A*2^(n-h)<2^n:=by
     have h1:A*2^(n-h)<2^h*2^(n-h):=Nat.mul_lt_mul_of_pos_right hA (Nat.pow_pos (by omega))
     rwa [←Nat.pow_add,show h+(n-h)=n by omega] at h1
    have hp8:=Nat.pow_le_pow_right (n:=2) (by omega) h8
    have gsl:IntKind.u64.wrap ((A:Int)*2^(n-h))=((A*2^(n-h):Nat):Int):=by
     rw [pow_int,←Int.natCast_mul];exact wrap64_lt _ (by omega)
    have gma:=and_mask (A*2^(n-h)) n (by omega) h8
    rw [Nat.mod_eq_of_lt hpw] at gma;rw [←hds.out] at hpw;have hlo:(out.map (ltr ds)).length+[ltr ds (A*2^(n-h))].length≤140737488355328:=by simp;omega
    have hrow2:baseB n ds xs=(out.map (ltr ds))++[ltr ds (A*2^(n-h))]:=by
     unfold baseB;rw [←hfin,List.map_append]
     rfl
    have hBs:=hF.size;generalize A*2^(n-h)=z at *
    have hba:=ba_getD ds z hpw;replace hba:=Hz hba;replace hrow2:=Hz hrow2;replace heq:=Hz heq;replace hfin:=Hz hfin;clear hol hbl hp8;go_wp2_with (at_builtin;refine wpList_apRow rfl _ _ rfl (B:=w.heap.size) _ (out.map (ltr ds)) [ltr ds z] wr.heap.size 0 1 rfl rfl (rd_new (w:=wr) rfl (by simp only [enc,List.map_cons,List.map_nil];rw [←hba.out])) (hrow.push rfl) (by simp;omega) hlo ?_)
    intro v' w' hr' hg;go_wp2;go_ret
    refine ⟨_,rfl,by rw [hrow2.out];exact hr',?_⟩
    refine Fr.grown ?_ hg (fun k hk=> .inr (World.ownsRow.lt hrow k hk).1)
    exact hF.push rfl rfl rfl rfl
   ·rw [if_neg hz,List.append_nil] at heq;have t2: ¬(0:Int)<(h:Int):=by omega
    have hrow2:baseB n ds xs=out.map (ltr ds):=by unfold baseB;rw [←heq.out]
    rw [←hrow2] at hrow;clear hrow2;go_wp2;go_ret
    exact ⟨_,rfl,hrow,hF⟩
  ·obtain ⟨g,rfl⟩: ∃g,gk=g+1:=⟨gk-1,by omega⟩
   have hjl:j<xs.length:=by omega
   have t1:(j:Int)<(xs.length:Int):=by omega
   have hc:=hF.cell (hrd.out j hjl) (by simp)
   have hE:=heq.out;rw [bdg_step n xs j A h hjl] at hE;clear heq;generalize hxe:xs[j]=x at hc hE;have hb:=x.toNat_lt;have hp8:=Nat.pow_le_pow_right (n:=2) (by omega) (show h≤7 by omega)
   have hA8:A<128:=by omega
   have gor:=or_acc A x.toNat hA8 hb;generalize hBB:A*256+x.toNat=BB at *
   have hB2:BB<32768:=by omega
   replace hBB:=Hz hBB;have hmn:=Nat.mod_lt (h+8) h0;have hol:Hid (out.length+(dgs n BB (h+8)).length≤8*xs.length):=by
    have:=congrArg List.length hE;rw [List.length_append,List.length_append] at this;have hbl:=bdg_length n h0 xs 0 0 h0;exact Hz (by omega)
   replace hE:=Hz hE;go_wp2
   go_loopg [7,9] (h+8) (fun k v7 v9 wr=> ∃(out':List Nat),v9= .int .u64 (k:Int)∧k<16∧Hid (k%n=(h+8)%n)∧Hid (out'++dgs n BB k=out++dgs n BB (h+8))∧Row wr w.heap.size v7 (out'.map (ltr ds))∧Fr [] w wr)
   case atStart=>exact ⟨out,by go_num,by omega,rfl,rfl,hrow,hF⟩
   case round=>
    obtain ⟨out',rfl,hk16,hmod,heq',hrow',hF'⟩:=hrel;obtain ⟨ao',n0',c0',rfl⟩:=hrow'.shape;by_cases hkn:gk<n
    ·have t2: ¬(n:Int)≤(gk:Int):=by omega
     have gma:=and_mask BB gk (by omega) (by omega)
     have hk2:gk=(h+8)%n:=by rw [←hmod.out,Nat.mod_eq_of_lt hkn]
     have hE2:=hE.out;rw [←hk2] at hE2;have he2:=heq'.out;rw [dgs_no hkn,List.append_nil] at he2;rw [←List.append_assoc,←he2] at hE2;have hAl:=Nat.mod_lt BB (show 0<2^gk from Nat.pow_pos (by omega))
     replace hE2:=Hz hE2;replace hk2:=Hz hk2;clear he2;go_wp2
     go_roundg g
     case measure=>omega
     case rel=>exact ⟨j+1,BB%2^gk,gk,out',by go_num,by omega,rfl,rfl,hAl,hkn,hE2,hrow',hF'⟩
    ·have t2:(n:Int)≤(gk:Int):=by omega
     have gsh:(BB:Int)/2^(gk-n)=((BB/2^(gk-n):Nat):Int):=by rw [pow_int];omega
     have hdl:BB/2^(gk-n)≤BB:=Nat.div_le_self _ _;have gma:=and_mask (BB/2^(gk-n)) n (by omega) h8
     rw [←gsh] at gma;have hml:=Nat.mod_lt (BB/2^(gk-n)) (show 0<2^n from Nat.pow_pos (by omega))
     rw [←hds.out] at hml;have he2:=heq'.out;rw [dgs_yes h0 (by omega)] at he2
     have hol2:=congrArg List.length he2;rw [List.length_append,List.length_append,List.length_cons] at hol2;have:=hol.out;have hms:(gk-n)%n=(h+8)%n:=by rw [←hmod.out,Nat.mod_eq_sub_mod (show n≤gk by omega)]
     generalize hz:BB/2^(gk-n)%2^n=z at *
     rw [show out'++z::dgs n BB (gk-n)=(out'++[z])++dgs n BB (gk-n) by simp] at he2
     have hlo:(out'.map (ltr ds)).length+[ltr ds z].length≤140737488355328:=by simp;omega
     have hBs:=hF'.size;have hzl:z<ds.length:=by rw [hds.out] at hml ⊢;omega
     have hba:=ba_getD ds z hzl;replace hba:=Hz hba;replace hz:=Hz hz;replace he2:=Hz he2;replace hms:=Hz hms;clear gsh hdl hml hol2 this;go_wp2_with (at_builtin;refine wpList_apRow rfl _ _ rfl (B:=w.heap.size) _ (out'.map (ltr ds)) [ltr ds z] wr.heap.size 0 1 rfl rfl (rd_new (w:=wr) rfl (by simp only [enc,List.map_cons,List.map_nil];rw [←hba.out])) (hrow'.push rfl) (by simp;omega) hlo ?_)
     intro v' w' hr' hg;have hF2:Fr [] w w':=by
      refine Fr.grown ?_ hg (fun k hk=> .inr (World.ownsRow.lt hrow' k hk).1)
      exact hF'.push rfl rfl rfl rfl
     go_wp2
     go_roundg (gk-n)
     case measure=>omega
     case rel=>exact ⟨out'++[z],by congr 1;omega,by omega,hms,he2,by rw [List.map_append];exact hr',hF2⟩
end
section
open Go.RowKit
def Src (w:World) (v:Value) (s:List UInt8):Prop:=(s=[]∧v= .slice none 0 0)∨ ∃b off c,v= .slice (some ⟨b,off,none⟩) s.length c∧Rd w b off s
theorem Row.src {w:World} {B:Nat} {v:Value} {bs:List UInt8} (h:Row w B v bs):Src w v bs:=by
 rcases h.2 with ⟨hv,h0⟩|⟨g,cap,cur,rfl,r⟩
 ·exact .inl ⟨List.eq_nil_of_length_eq_zero h0,hv⟩
 ·exact .inr ⟨g,0,cap,rfl,Rd.of_own h⟩
theorem Src.fr {w w':World} {v:Value} {s:List UInt8} (h:Src w v s) (hf:Fr [] w w'):Src w' v s:=by
 rcases h with h|⟨b,off,c,hv,hr⟩
 ·exact .inl h
 ·exact .inr ⟨b,off,c,hv,hr.fr hf (by simp)⟩
theorem Src.shape {w:World} {v:Value} {s:List UInt8} (h:Src w v s): ∃ao n c,v= .slice ao n c:=by
 rcases h with ⟨_,rfl⟩|⟨b,off,c,rfl,_⟩<;>exact ⟨_,_,_,rfl⟩
theorem run_apSrc {w:World} {B:Nat} (v:Value) (bs s:List UInt8) (u:Value) (ty:TypeId) (hu:Src w u s) (hown:Row w B v bs) (hB:B≤w.heap.size) (hl:bs.length+s.length≤140737488355328):
  ∃v' w',(Builtin.append_ #[59,59] ty #[v,u]).run Tryz.prog w= .ok v' w'∧Row w' B v' (bs++s)∧w.grownBy w' v.ownBlock:=by
 have hinfo:(Tryz.prog.info? 5).map (fun i=>(i.zero,i.size,i.bytes))=some (some (.int .u8 0),1,1):=by kernel_rfl
 obtain ⟨i0,hi,hzz⟩:=Option.map_eq_some_iff.1 hinfo;simp only [Prod.mk.injEq] at hzz;obtain ⟨hz0,hz1,hz2⟩:=hzz;rcases hu with ⟨rfl,rfl⟩|⟨b,off,c,rfl,hr⟩
 ·have hrun:=run_append_owned_none (P:=Tryz.prog) (w:=w) B 59 ty 5 i0 1 Tryz.underlying59 hi v bs.length (enc bs) hown;exact ⟨v,w,hrun,by rw [List.append_nil];exact hown,World.grownBy.refl w _⟩
 ·obtain ⟨v',w',hrun,r1,r2,_⟩:=run_append_own (P:=Tryz.prog) w B 59 ty 5 i0 (.int .u8 0) 1 1 Tryz.underlying59 hi hz0 hz1 hz2 rfl (by decide) v bs.length (enc bs) hown ⟨b,off,none⟩ s.length c (enc s) (by rw [enc_length,Nat.mul_one]) hr.cells (enc_one s) (by simp only [maxLen];omega) (by omega) hB
  rw [←enc_append,←List.length_append] at r1;exact ⟨v',w',hrun,r1,r2⟩
theorem wpList_apSrc {w:World} {ops:Array Oper} {rest:List Oper} {o:Oper} {a:Act} {Q:Exit→Act→World→Prop} (hgd:o.guard=none) (x y:Operand) (ho:o.op= .call {callee:= .builtin .append,args:= #[x,y],argTypes:= #[59,59]})
  {B:Nat} (v:Value) (bs s:List UInt8) (u:Value) (hs:a.eval x=v) (hx:a.eval y=u) (hu:Src w u s) (hown:Row w B v bs) (hB:B≤w.heap.size) (hl:bs.length+s.length≤140737488355328)
  (h: ∀v' w',Row w' B v' (bs++s)→w.grownBy w' v.ownBlock→wpList Tryz.prog ops Q rest (a.put o.dst v') w'):wpList Tryz.prog ops Q (o::rest) a w:=by
 refine wpList_plain hgd fun K hK=> ?_
 obtain ⟨v',w',hrun,r1,r2⟩:=run_apSrc v bs s u o.type hu hown hB hl;unfold Oper.wp;simp [execOp,ho,resolve,invoke,builtin,hs,hx,hrun,Result.andThen];exact hK _ _ (h v' w' r1 r2)
theorem step_apSrc {w:World} {ops:Array Oper} {o:Oper} {a:Act} {K:Act→World→Prop} {Q:Exit→Act→World→Prop} {E:Prop}
  (hg:o.guard=none) (x y:Operand) (hop:o.op=Op.call {callee:=Callee.builtin Builtin.append,args:= #[x,y],argTypes:= #[59,59]})
  {B:Nat} (v:Value) (bs s:List UInt8) (u:Value) (hs:a.eval x=v) (hx:a.eval y=u) (hu:Src w u s) (hown:Row w B v bs) (hB:B≤w.heap.size) (hl:bs.length+s.length≤140737488355328)
  (hK: ∀v' w',Row w' B v' (bs++s)→w.grownBy w' v.ownBlock→K (a.put o.dst v') w'):
  if Region.wanted o (yielded ops a.tmps)=true then Oper.wp Tryz.prog o a w K Q else E:=by
 have hw:Region.wanted o (yielded ops a.tmps)=true:=by simp [Region.wanted,hg]
 rw [if_pos hw];obtain ⟨v',w',hrun,r1,r2⟩:=run_apSrc v bs s u o.type hu hown hB hl;unfold Oper.wp;simp [execOp,hop,resolve,invoke,builtin,hs,hx,hrun,Result.andThen];exact hK v' w' r1 r2
theorem writeSrc {w:World} {B wb:Nat} {bs:List UInt8} (h:Buf w B wb bs) (hwb:wb<B) (hB:B≤w.heap.size) (s:List UInt8) (u:Value) (hu:Src w u s) (hl:bs.length+s.length≤140737488355328):
  Calls Tryz.prog 171 #[.pointer (some ⟨wb,0,none⟩),u] w fun e w'=>(∃u,e= .returned u)∧Buf w' B wb (bs++s)∧Gr B [wb] w w':=by
 obtain ⟨v,hb,hr⟩:=h;have c0:w.cell? ⟨wb,0,none⟩=some v:=cell_blk hb 0;obtain ⟨ao,n,c,rfl⟩:=hr.shape;obtain ⟨ao2,n2,c2,rfl⟩:=hu.shape;go_enter Tryz.func171,Tryz.ntmps171
 go_wp2_with (at_builtin;refine wpList_apSrc rfl _ _ rfl (B:=B) _ bs s _ rfl rfl hu hr hB hl ?_)
 intro v' w' hr' hg;have hb':w'.heap[wb]? =some (.cells #[.slice ao n c] 194 (0,0)):=(hg.block wb (blk_lt' hb) (hr.ne hwb)).trans hb;have c0':w'.cell? ⟨wb,0,none⟩=some (.slice ao n c):=cell_blk hb' 0;have f0':w'.frozen? ⟨wb,0,none⟩=false:=frozen_blk hb' 0;obtain ⟨ao',n',c',rfl⟩:=hr'.shape;go_wp2
 go_ret2
 exact ⟨⟨_,rfl⟩,buf_stored hb hr hr' hg hwb hB⟩
theorem zzBase32 {w:World} {b o c:Nat} {xs ds:List UInt8} (hds:ds.length=32) (hrd:Rd w b o xs) (hlen:xs.length≤1099511627776):
  Calls Tryz.prog 172 #[.slice (some ⟨b,o,none⟩) xs.length c,.string ⟨ds.toArray⟩] w fun e w'=> ∃v,e= .returned v∧Row w' w.heap.size v (baseB 5 ds xs)∧Fr [] w w':=by
 have K:=Hz (zzBits (c:=c) (n:=5) (by decide) (by decide) (by rw [hds]) hrd hlen)
 clear hds hrd;go_enter Tryz.func172,Tryz.ntmps172
 go_wp2_with fail
 refine K.out.mono ?_
 rintro e w1 ⟨v,rfl,hr,hf⟩;obtain ⟨ao,n,c,rfl⟩:=hr.shape;go_wp2;go_ret
 exact ⟨_,rfl,hr,hf⟩
theorem zzBase64 {w:World} {b o c:Nat} {xs:List UInt8} (hrd:Rd w b o xs) (hlen:xs.length≤1099511627776):
  Calls Tryz.prog 173 #[.slice (some ⟨b,o,none⟩) xs.length c] w fun e w'=> ∃v,e= .returned v∧Row w' w.heap.size v (baseB 6 b64D xs)∧Fr [] w w':=by
 have K:=Hz (zzBits (c:=c) (n:=6) (ds:=b64D) (by decide) (by decide) (by decide) hrd hlen)
 clear hrd;go_enter Tryz.func173,Tryz.ntmps173
 go_wp2_with fail
 refine K.out.mono ?_
 rintro e w1 ⟨v,rfl,hr,hf⟩;obtain ⟨ao,n,c,rfl⟩:=hr.shape;go_wp2;go_ret
 exact ⟨_,rfl,hr,hf⟩
end
end
section
open Go.RowKit
def bt (d:List Nat):List UInt8:=d.map UInt8.ofNat
theorem bt_length (d:List Nat):(bt d).length=d.length:=by simp [bt]
theorem bt_get {d:List Nat} (hd: ∀x,x∈d→x<10) (j:Nat) (h:j<d.length):((bt d)[j]'(by rw [bt_length];exact h)).toNat=dgt d j:=by
 have:=hd d[j] (List.getElem_mem h);simp only [bt,List.getElem_map];rw [dgt_lt h];simp;omega
theorem bt_take (d:List Nat) (k:Nat):bt (d.take k)=(bt d).take k:=by simp [bt]
def DSrc (w:World) (p:Nat) (v:Value) (d:List Nat):Prop:=(d=[]∧v= .slice none 0 0)∨ ∃b off c,v= .slice (some ⟨b,off,none⟩) d.length c∧d.length≤c∧b≠p∧b<w.heap.size∧Rd w b off (bt d)
def DecP (w:World) (p:Nat) (d:List Nat) (dp:Int):Prop:= ∃v,w.heap[p]? =some (.cells #[v,.int .i64 dp] 330 (0,0))∧DSrc w p v d
theorem Row.dsrc {w:World} {B p:Nat} {v:Value} {d:List Nat} (h:Row w B v (bt d)) (hp:p<B):DSrc w p v d:=by
 rcases h.2 with ⟨hv,h0⟩|⟨g,cap,cur,rfl,hg,hh,hc,r⟩
 ·refine .inl ⟨List.eq_nil_of_length_eq_zero (by rw [bt_length] at h0;exact h0),hv⟩
 ·exact .inr ⟨g,0,cap,by rw [bt_length],by rw [bt_length] at hc;exact hc,by omega,blk_lt' hh,Rd.of_own h⟩
theorem DSrc.fr {w w':World} {p:Nat} {v:Value} {d:List Nat} {S:List Nat} (h:DSrc w p v d) (hf:Fr S w w') (hs: ∀k,k∈S→k=p∨w.heap.size≤k):DSrc w' p v d:=by
 rcases h with h|⟨b,off,c,hv,h1,h2,h3,h4⟩
 ·exact .inl h
 ·exact .inr ⟨b,off,c,hv,h1,h2,Nat.lt_of_lt_of_le h3 hf.size,h4.fr hf (fun hm=>by rcases hs b hm with e|e;exact h2 e;omega)⟩
theorem DecP.fr {w w':World} {p:Nat} {d:List Nat} {dp:Int} (h:DecP w p d dp) (hf:Fr [] w w'):DecP w' p d dp:=by
 obtain ⟨v,hb,hs⟩:=h;exact ⟨v,hf.blk hb (by simp),hs.fr hf (by simp)⟩
theorem DSrc.shape {w:World} {p:Nat} {v:Value} {d:List Nat} (h:DSrc w p v d): ∃ao c,v= .slice ao d.length c:=by
 rcases h with ⟨rfl,rfl⟩|⟨b,off,c,rfl,_⟩<;>exact ⟨_,_,rfl⟩
theorem trim {w:World} {p:Nat} {d:List Nat} {dp:Int} (h:DecP w p d dp) (hd: ∀x,x∈d→x<10) (hl:d.length≤1000000):
  Calls Tryz.prog 215 #[.pointer (some ⟨p,0,none⟩)] w fun e w'=>e= .returned (.pointer (some ⟨p,0,none⟩))∧DecP w' p (normD d dp).1 (normD d dp).2∧Fr [p] w w':=by
 replace hd:=Hz hd;go_enter Tryz.func215,Tryz.ntmps215
 go_wp2
 go_loopg [] d.length (fun k wr=>k≤d.length∧DecP wr p (d.take k) dp∧Hid (trimN d k=trimD d)∧Fr [p] w wr)
 case atStart=>exact ⟨Nat.le_refl _,by rw [List.take_of_length_le (Nat.le_refl _)];exact h,rfl,Fr.refl _ _⟩
 case round=>
  obtain ⟨hk,⟨v,hb,hs⟩,htr,hF⟩:=hrel;have c0:=cell_blk hb 0;have c1:=cell_blk hb 1;have f0:=frozen_blk hb 0;have f1:=frozen_blk hb 1;simp only [List.getElem?_toArray,List.getElem?_cons_zero,List.getElem?_cons_succ] at c0 c1;by_cases hk0:gk=0
  ·subst hk0;have: ∃ao c,v= .slice ao 0 c:=by
    obtain ⟨ao,c,rfl⟩:=hs.shape;exact ⟨ao,c,by simp⟩
   obtain ⟨ao,c,rfl⟩:=this;have t0:decide ((0:Int)<0)=false:=rfl;go_wp2
   go_quiet (fail)
   go_wp2;go_ret
   have hn:normD d dp=([],0):=by
    have e:trimD d=[]:=htr.out.symm;unfold normD;rw [e]
    rfl
   rw [hn];have hF2:Fr [p] w ((wr.drewN nq).setCell ⟨p,1,none⟩ (.int .i64 0)):=(hF.drewN nq).setCell (by simp) _
   refine ⟨rfl,⟨.slice ao 0 c,by rw [blk_setCell (show (wr.drewN nq).heap[p]? =_ from hb) 1 _];rfl,?_⟩,hF2⟩
   have:=hs.fr (w':=(wr.drewN nq).setCell ⟨p,1,none⟩ (.int .i64 0)) (S:=[p]) (((Fr.refl _ _).drewN nq).setCell (by simp) _) (by simp)
   simpa using this
  ·obtain ⟨k,rfl⟩: ∃k,gk=k+1:=⟨gk-1,by omega⟩
   have hlen:(d.take (k+1)).length=k+1:=by simp;omega
   rcases hs with ⟨h0,_⟩|⟨b,off,c,rfl,hc,hbp,hbl,hrd⟩
   ·rw [h0] at hlen;simp at hlen
   ·rw [hlen] at hc;have hx:=hrd k (by rw [bt_length,hlen];omega)
    rw [bt_get (fun x hx=>hd.out x (List.mem_of_mem_take hx)) k (by omega)] at hx
    have hdg:dgt (d.take (k+1)) k=dgt d k:=by rw [dgt_lt (by omega),dgt_lt (by omega),List.getElem_take]
    rw [hdg] at hx;rw [hlen] at c0 hb;have t0:decide ((0:Int)<((k+1:Nat):Int))=true:=by simp
    have t1:(0:Int)<(k:Int)+1:=by omega
    have hbp': ¬p=b:=fun e=>hbp e.symm
    clear hdg hlen;rw [trimN] at htr;by_cases hz:dgt d k=0
    ·rw [if_pos hz] at htr;have e0:((dgt d k:Int)==0)=true:=by simp [hz]
     clear hz;go_wp2
     go_quiet (fail)
     go_wp2
     go_region
     go_wp2
     go_roundg k
     case measure=>omega
     case rel=>
      have hF2:Fr [p] wr ((wr.drewN (nq+1)).setCell ⟨p,0,none⟩ (.slice (some ⟨b,off,none⟩) k c)):=((Fr.refl _ _).drewN _).setCell (by simp) _
      have hk2:(d.take k).length=k:=by simp;omega
      refine ⟨by omega,⟨.slice (some ⟨b,off,none⟩) k c,by rw [blk_setCell (show (wr.drewN (nq+1)).heap[p]? =_ from hb) 0 _];rfl,.inr ⟨b,off,c,by rw [hk2],by omega,hbp,Nat.lt_of_lt_of_le hbl hF2.size,?_⟩⟩,htr,hF.trans hF2⟩
      have h3:Rd wr b off (bt (d.take k)):=by
       have:=hrd.take k;rw [←bt_take,List.take_take,Nat.min_eq_left (by omega)] at this
       exact this
      exact h3.fr hF2 (by simpa using hbp)
    ·have e0:((dgt d k:Int)==0)=false:=by simp [hz]
     rw [if_neg hz] at htr;clear hz;go_wp2
     go_quiet (fail)
     go_wp2;go_ret
     have hk2:(d.take (k+1)).length=k+1:=by simp;omega
     have hn:normD d dp=(d.take (k+1),dp):=by
      unfold normD;rw [←htr.out,if_neg (fun e=>by rw [e] at hk2;simp at hk2)]
     rw [hn];have hF2:Fr [p] wr (wr.drewN nq):=(Fr.refl _ _).drewN _;exact ⟨rfl,⟨.slice (some ⟨b,off,none⟩) (k+1) c,hb,.inr ⟨b,off,c,by rw [hk2],by rw [hk2];exact hc,hbp,hbl,hrd.fr hF2 (by simpa using hbp)⟩⟩,hF.trans hF2⟩
end
end Go.Proofs.YteodinhkhhaafaaGreatDoor
