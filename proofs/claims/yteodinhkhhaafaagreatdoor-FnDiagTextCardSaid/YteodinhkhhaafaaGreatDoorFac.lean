/- Walks of the program, and plain facts. -/
import Derived.Test.YteodinhkhhaafaaGreatDoorFaa
import Derived.Laws.AppendOwnNone
set_option linter.unusedVariables false
set_option linter.unusedSimpArgs false
set_option maxRecDepth 100000
set_option maxHeartbeats 6400000
namespace Go.Proofs.YteodinhkhhaafaaGreatDoor
section
def dgs (n A:Nat) (h:Nat):List Nat:=if hn:n=0∨h<n then [] else A/2^(h-n)%2^n::dgs n A (h-n)
termination_by h
decreasing_by omega
theorem dgs_no {n A h:Nat} (hh:h<n):dgs n A h=[]:=by rw [dgs,dif_pos (.inr hh)]
theorem dgs_yes {n A h:Nat} (h0:0<n) (hh:n≤h):dgs n A h=A/2^(h-n)%2^n::dgs n A (h-n):=by rw [dgs,dif_neg (by omega)]
def bdg (n:Nat):List UInt8→Nat→Nat→List Nat
 |[],A,h=>if 0<h then [A*2^(n-h)] else []
 |c::l,A,h=>dgs n (A*256+c.toNat) (h+8)++bdg n l ((A*256+c.toNat)%2^((h+8)%n)) ((h+8)%n)
def ltr (ds:List UInt8) (i:Nat):UInt8:=ds.getD i 0
def baseB (n:Nat) (ds:List UInt8) (b:List UInt8):List UInt8:=(bdg n b 0 0).map (ltr ds)
theorem dgs_length (n A:Nat) (h0:0<n): ∀k h,h<k→(dgs n A h).length=h/n:=by
 intro k
 induction k with
 |zero=>intro h hk;omega
 |succ k ih=>
  intro h hk;by_cases hh:h<n
  ·rw [dgs_no hh,Nat.div_eq_of_lt hh];rfl
  ·rw [dgs_yes h0 (by omega),List.length_cons,ih _ (by omega)]
   conv=>rhs;rw [Nat.div_eq,if_pos (by omega)]
theorem bdg_length (n:Nat) (h0:0<n): ∀(b:List UInt8) (A h:Nat),h<n→(bdg n b A h).length≤h+8*b.length
 |[],A,h,hh=>by
  rw [bdg]
  split<;>simp
  omega
 |c::l,A,h,hh=>by
  have ih:=bdg_length n h0 l ((A*256+c.toNat)%2^((h+8)%n)) ((h+8)%n) (Nat.mod_lt _ h0);rw [bdg,List.length_append,dgs_length n _ h0 _ _ (Nat.lt_succ_self _),List.length_cons];have h1:=Nat.div_add_mod (h+8) n;have h2:(h+8)/n≤n*((h+8)/n):=Nat.le_mul_of_pos_left _ h0;omega
theorem baseB_length (n:Nat) (h0:0<n) (ds b:List UInt8):(baseB n ds b).length≤8*b.length:=by
 have:=bdg_length n h0 b 0 0 h0;unfold baseB;rw [List.length_map];omega
def hexB (ds:List UInt8):List UInt8→List UInt8
 |[]=>[]
 |c::l=>ds.getD (c.toNat/16) 0::ds.getD (c.toNat%16) 0::hexB ds l
theorem hexB_append (ds:List UInt8): ∀a b:List UInt8,hexB ds (a++b)=hexB ds a++hexB ds b
 |[],b=>rfl
 |c::a,b=>by simp [hexB,hexB_append ds a b]
theorem hexB_length (ds:List UInt8): ∀a:List UInt8,(hexB ds a).length=2*a.length
 |[]=>rfl
 |c::a=>by simp [hexB,hexB_length ds a];omega
def spacedB (ds:List UInt8):Nat→List UInt8→List UInt8
 |_,[]=>[]
 |i,c::l=>(if i=0 then [] else [32])++(hexB ds [c]++spacedB ds (i+1) l)
def hexD:List UInt8:=[48,49,50,51,52,53,54,55,56,57,97,98,99,100,101,102]
def b32D:List UInt8:=[65,66,67,68,69,70,71,72,73,74,75,76,77,78,79,80,81,82,83,84,85,86,87,88,89,90,50,51,52,53,54,55]
def h32D:List UInt8:=[48,49,50,51,52,53,54,55,56,57,65,66,67,68,69,70,71,72,73,74,75,76,77,78,79,80,81,82,83,84,85,86]
def b64D:List UInt8:=[65,66,67,68,69,70,71,72,73,74,75,76,77,78,79,80,81,82,83,84,85,86,87,88,89,90,97,98,99,100,101,102,103,104,105,106,107,108,109,110,111,112,113,114,115,116,117,118,119,120,121,122,48,49,50,51,52,53,54,55,56,57,45,95]
def noteB (enc:Nat) (sp:Bool) (b:List UInt8):List UInt8:=
 (if enc=1 then [98,51,50,39]++baseB 5 b32D b else if enc=2 then [104,51,50,39]++baseB 5 h32D b else if enc=3 then [98,54,52,39]++baseB 6 b64D b
 else if sp then [104,39]++spacedB hexD 0 b else [104,39]++hexB hexD b)++[39]
section
open Go.RowKit
theorem rd_new {w W:World} {s:List UInt8} {cs:Array Value} {t:TypeId} (h:W.heap=w.heap.push (.cells cs t (0,0))) (hc:cs=(enc s).toArray):Rd W w.heap.size 0 s:=fun j hj=>by
 subst hc;have hb:W.heap[w.heap.size]? =some (.cells (enc s).toArray t (0,0)):=by rw [h];simp
 rw [Nat.zero_add,cell_blk hb];simp [enc,hj]
theorem Fr.push {S:List Nat} {w w1 W:World} {o:Obj} (h:Fr S w w1) (e:W.heap=w1.heap.push o) (h1:W.os=w1.os) (h2:W.tape=w1.tape) (h3:W.output=w1.output):Fr S w W:=
 h.then_ (T:=[]) ⟨h1,h2,h3,by rw [e];simp,fun k hk _=>by rw [e];exact Below.heap_alloc w1 o k hk⟩ (by simp)
theorem Row.push {w W:World} {B:Nat} {v:Value} {bs:List UInt8} {o:Obj} (h:Row w B v bs) (e:W.heap=w.heap.push o):Row W B v bs:=by
 obtain ⟨h1,h2⟩:=h;refine ⟨h1,?_⟩
 rcases h2 with h2|⟨g,cap,cur,rfl,hg,hh,r⟩
 ·exact .inl h2
 ·exact .inr ⟨g,cap,cur,rfl,hg,by rw [e];exact (Below.heap_alloc w o g (blk_lt' hh)).trans hh,r⟩
theorem step_apRow {ops:Array Oper} {o:Oper} {a:Act} {w:World} {K:Act→World→Prop} {Q:Exit→Act→World→Prop} {E:Prop}
  (hg:o.guard=none) (x y:Operand) (hop:o.op=Op.call {callee:=Callee.builtin Builtin.append,args:= #[x,y],argTypes:= #[59,59]})
  {B:Nat} (v:Value) (bs s:List UInt8) (b off c:Nat) (hs:a.eval x=v) (hx:a.eval y= .slice (some ⟨b,off,none⟩) s.length c) (hr:Rd w b off s) (hown:Row w B v bs) (hB:B≤w.heap.size) (hl:bs.length+s.length≤140737488355328)
  (hK: ∀v' w',Row w' B v' (bs++s)→w.grownBy w' v.ownBlock→K (a.put o.dst v') w'):
  if Region.wanted o (yielded ops a.tmps)=true then Oper.wp Tryz.prog o a w K Q else E:=by
 have hw:Region.wanted o (yielded ops a.tmps)=true:=by simp [Region.wanted,hg]
 rw [if_pos hw];have hinfo:(Tryz.prog.info? 5).map (fun i=>(i.zero,i.size,i.bytes))=some (some (.int .u8 0),1,1):=by kernel_rfl
 obtain ⟨i0,hi,hzz⟩:=Option.map_eq_some_iff.1 hinfo;simp only [Prod.mk.injEq] at hzz;obtain ⟨hz0,hz1,hz2⟩:=hzz;obtain ⟨v',w',hrun,r1,r2,_⟩:=run_append_own (P:=Tryz.prog) w B 59 o.type 5 i0 (.int .u8 0) 1 1 Tryz.underlying59 hi hz0 hz1 hz2 rfl (by decide) v bs.length (enc bs) hown ⟨b,off,none⟩ s.length c (enc s) (by rw [enc_length,Nat.mul_one]) hr.cells (enc_one s) (by simp only [maxLen];omega) (by omega) hB
 unfold Oper.wp;simp [execOp,hop,resolve,invoke,builtin,hs,hx,hrun,Result.andThen];rw [←enc_append,←List.length_append] at r1;exact hK v' w' r1 r2
end
section
open Go.RowKit
theorem hex_at (k:Fin 16):((⟨#[48,49,50,51,52,53,54,55,56,57,97,98,99,100,101,102]⟩:ByteArray)[k.val]'(by have:=k.isLt;show _<16;omega)).toNat=(hexD.getD k.val 0).toNat:=by revert k;decide
theorem hex_step (xs:List UInt8) (j:Nat) (h:j<xs.length):hexB hexD (xs.take (j+1))=hexB hexD (xs.take j)++[hexD.getD (xs[j].toNat/16) 0,hexD.getD (xs[j].toNat%16) 0]:=by
 rw [List.take_succ_eq_append_getElem h,hexB_append]
 rfl
theorem u8_and15 (b:UInt8):bits .and .u8 (b.toNat:Int) 15=((b.toNat%16:Nat):Int):=by
 have hb:=b.toNat_lt;rw [show (15:Int)=((15:Nat):Int) from rfl,u8_and_nat _ _ (by omega) (by decide)]
 have key: ∀x:Fin 256,(x.val&&&15)=x.val%16:=by decide+kernel
 exact congrArg _ (key ⟨b.toNat,hb⟩)
theorem zzHex {w:World} {b o c:Nat} {xs:List UInt8} (hrd:Rd w b o xs) (hlen:xs.length≤1099511627776):
  Calls Tryz.prog 170 #[.slice (some ⟨b,o,none⟩) xs.length c] w fun e w'=> ∃v,e= .returned v∧Row w' w.heap.size v (hexB hexD xs)∧Fr [] w w':=by
 replace hrd:=Hz hrd;obtain ⟨n,hn⟩: ∃n,n=xs.length:=⟨_,rfl⟩;go_enter Tryz.func170,Tryz.ntmps170
 go_wp2
 go_loopg [3,8] xs.length (fun k v3 v8 wr=> ∃j:Nat,v8= .int .i64 (j:Int)∧j+k=xs.length∧Row wr w.heap.size v3 (hexB hexD (xs.take j))∧Fr [] w wr)
 case atStart=>exact ⟨0,by go_num,by omega,Row.nil _ _,Fr.refl _ _⟩
 case round=>
  obtain ⟨j,rfl,hj,hrow,hF⟩:=hrel;obtain ⟨ao,n0,c0,rfl⟩:=hrow.shape;by_cases hk:gk=0
  ·subst hk;obtain rfl:j=xs.length:=by omega
   rw [List.take_of_length_le (Nat.le_refl _)] at hrow;have t1: ¬(xs.length:Int)<(xs.length:Int):=by omega
   go_wp2;go_ret
   exact ⟨_,rfl,hrow,hF⟩
  ·obtain ⟨g,rfl⟩: ∃g,gk=g+1:=⟨gk-1,by omega⟩
   have hjl:j<xs.length:=by omega
   have t1:(j:Int)<(xs.length:Int):=by omega
   have hc:=hF.cell (hrd.out j hjl) (by simp)
   generalize hxe:xs[j]=x at hc;have hb:=x.toNat_lt;have ga:=u8_and15 x;have gd:(x.toNat:Int)/16=((x.toNat/16:Nat):Int):=by omega
   have hstep:=hex_step xs j hjl;rw [hxe] at hstep;have hl1:x.toNat/16<16:=by omega
   have hl2:x.toNat%16<16:=by omega
   clear hb hxe;generalize x.toNat/16=h1 at *
   generalize x.toNat%16=h2 at *
   have d1:=hex_at ⟨h1,hl1⟩;have d2:=hex_at ⟨h2,hl2⟩;have hl:(hexB hexD (xs.take j)).length+[hexD.getD h1 0,hexD.getD h2 0].length≤140737488355328:=by
    rw [hexB_length];simp;omega
   have hBs:=hF.size;have hstep':=Hz hstep;have d1':=Hz d1;have d2':=Hz d2;clear d1 d2 hstep;have i1:(h1:Int)<16:=by omega
   have i2:(h2:Int)<16:=by omega
   go_wp2
   go_region_law (refine step_apRow rfl (.tmp 12) (.tmp 19) rfl (B:=w.heap.size) _ _ [hexD.getD h1 0,hexD.getD h2 0] wr.heap.size 0 2 (by simp [Act.eval,Act.put]) (by simp [Act.eval,Act.put]) (rd_new (w:=wr) rfl (by simp only [enc,List.map_cons,List.map_nil];rw [←d1'.out,←d2'.out])) (hrow.push rfl) (by simp;omega) hl ?_;intro v' w' hr' hg)
   all_goals
    have hF2:Fr [] w w':=by
     refine Fr.grown ?_ hg (fun k hk=> .inr (World.ownsRow.lt hrow k hk).1)
     exact hF.push rfl rfl rfl rfl
    rw [←hstep'.out] at hr';go_wp2
    go_roundg g
    case measure=>omega
    case rel=>exact ⟨j+1,by go_num,by omega,hr',hF2⟩
end
section
open Go.RowKit
theorem or_acc (A x:Nat) (hA:A<128) (hx:x<256):bits .or .u64 ((A:Int)*256) (x:Int)=((A*256+x:Nat):Int):=by
 rw [show (A:Int)*256=((A*256:Nat):Int) by omega,u64_or_nat _ _ (by omega) (by omega),nat_join 8 _ _ (by omega) (by omega)]
theorem wrap64_lt (x:Nat) (h:x<18446744073709551616):IntKind.u64.wrap (x:Int)=(x:Int):=by show (x:Int)%18446744073709551616=_;omega
theorem pow_int (n:Nat):(2:Int)^n=((2^n:Nat):Int):=by simp
theorem mask_w (n:Nat) (h:n≤8):IntKind.u64.wrap (IntKind.u64.wrap (2^n)-1)=((2^n-1:Nat):Int):=by
 have hp:=Nat.pow_le_pow_right (n:=2) (by omega) h
 have h1:1≤2^n:=Nat.pow_pos (by omega)
 rw [pow_int,wrap64_lt _ (by omega),show ((2^n:Nat):Int)-1=((2^n-1:Nat):Int) by omega,wrap64_lt _ (by omega)]
theorem and_mask (A n:Nat) (hA:A<18446744073709551616) (h:n≤8):bits .and .u64 (A:Int) (IntKind.u64.wrap (IntKind.u64.wrap (2^n)-1))=((A%2^n:Nat):Int):=by
 have hp:=Nat.pow_le_pow_right (n:=2) (by omega) h
 rw [mask_w n h,u64_and_nat _ _ hA (by omega),Nat.and_two_pow_sub_one_eq_mod]
theorem ba_getD (ds:List UInt8) (z:Nat) (h:z<ds.length):((⟨ds.toArray⟩:ByteArray)[z]'(by show z<ds.toArray.size;simpa using h))=ltr ds z:=by
 unfold ltr;rw [List.getD_eq_getElem?_getD,List.getElem?_eq_getElem h]
 rfl
theorem bdg_step (n:Nat) (xs:List UInt8) (j A h:Nat) (hj:j<xs.length):bdg n (xs.drop j) A h=dgs n (A*256+xs[j].toNat) (h+8)++bdg n (xs.drop (j+1)) ((A*256+xs[j].toNat)%2^((h+8)%n)) ((h+8)%n):=by
 rw [List.drop_eq_getElem_cons hj,bdg]
theorem zzBits {w:World} {b o c n:Nat} {xs ds:List UInt8} (h0:0<n) (h8:n≤8) (hds:ds.length=2^n) (hrd:Rd w b o xs) (hlen:xs.length≤1099511627776):
  Calls Tryz.prog 199 #[.slice (some ⟨b,o,none⟩) xs.length c,.int .u64 (n:Int),.string ⟨ds.toArray⟩] w fun e w'=> ∃v,e= .returned v∧Row w' w.heap.size v (baseB n ds xs)∧Fr [] w w':=by
 replace hrd:=Hz hrd;replace hds:=Hz hds;go_enter Tryz.func199,Tryz.ntmps199
 go_wp2
 go_loopg [7,8,9,14] xs.length (fun k v7 v8 v9 v14 wr=> ∃(j A h:Nat) (out:List Nat),v14= .int .i64 (j:Int)∧j+k=xs.length∧v8= .int .u64 (A:Int)∧v9= .int .u64 (h:Int)∧A<2^h∧h<n∧Hid (out++bdg n (xs.drop j) A h=bdg n xs 0 0)∧Row wr w.heap.size v7 (out.map (ltr ds))∧Fr [] w wr)
 case atStart=>exact ⟨0,0,0,[],by go_num,by omega,by go_num,by go_num,by omega,h0,Hz (by simp),Row.nil _ _,Fr.refl _ _⟩
 case round=>
  obtain ⟨j,A,h,out,rfl,hj,rfl,rfl,hA,hh,heq,hrow,hF⟩:=hrel;obtain ⟨ao,n0,c0,rfl⟩:=hrow.shape;by_cases hk:gk=0
  ·subst hk;obtain rfl:j=xs.length:=by omega
   rw [List.drop_of_length_le (Nat.le_refl _),bdg] at heq;have t1: ¬(xs.length:Int)<(xs.length:Int):=by omega
   by_cases hz:0<h
   ·rw [if_pos hz] at heq;have t2:(0:Int)<(h:Int):=by omega
    have hfin:=heq.out;have hol:=congrArg List.length hfin;rw [List.length_append,List.length_singleton] at hol;have hbl:=bdg_length n h0 xs 0 0 h0;have hsub:(n:Int)-(h:Int)=((n-h:Nat):Int):=by omega
    have hpw:A*2^(n-h)<2^n:=by
     have h1:A*2^(n-h)<2^h*2^(n-h):=Nat.mul_lt_mul_of_pos_right hA (Nat.pow_pos (by omega))
     rwa [←Nat.pow_add,show h+(n-h)=n by omega] at h1
    have hp8:=Nat.pow_le_pow_right (n:=2) (by omega) h8
    have gsl:IntKind.u64.wrap ((A:Int)*2^(n-h))=((A*2^(n-h):Nat):Int):=by
     rw [pow_int,←Int.natCast_mul];exact wrap64_lt _ (by omega)
    have gma:=and_mask (A*2^(n-h)) n (by omega) h8
    rw [Nat.mod_eq_of_lt hpw] at gma;rw [←hds.out] at hpw;have hlo:(out.map (ltr ds)).length+[ltr ds (A*2^(n-h))].length≤140737488355328:=by simp;omega
    have hrow2:baseB n ds xs=(out.map (ltr ds))++[ltr ds (A*2^(n-h))]:=by
     unfold baseB;rw [←hfin,List.map_append]
     rfl
    have hBs:=hF.size;generalize A*2^(n-h)=z at *
    have hba:=ba_getD ds z hpw;replace hba:=Hz hba;replace hrow2:=Hz hrow2;replace heq:=Hz heq;replace hfin:=Hz hfin;clear hol hbl hp8;go_wp2_with (at_builtin;refine wpList_apRow rfl _ _ rfl (B:=w.heap.size) _ (out.map (ltr ds)) [ltr ds z] wr.heap.size 0 1 rfl rfl (rd_new (w:=wr) rfl (by simp only [enc,List.map_cons,List.map_nil];rw [←hba.out])) (hrow.push rfl) (by simp;omega) hlo ?_)
    intro v' w' hr' hg;go_wp2;go_ret
    refine ⟨_,rfl,by rw [hrow2.out];exact hr',?_⟩
    refine Fr.grown ?_ hg (fun k hk=> .inr (World.ownsRow.lt hrow k hk).1)
    exact hF.push rfl rfl rfl rfl
   ·rw [if_neg hz,List.append_nil] at heq;have t2: ¬(0:Int)<(h:Int):=by omega
    have hrow2:baseB n ds xs=out.map (ltr ds):=by unfold baseB;rw [←heq.out]
    rw [←hrow2] at hrow;clear hrow2;go_wp2;go_ret
    exact ⟨_,rfl,hrow,hF⟩
  ·obtain ⟨g,rfl⟩: ∃g,gk=g+1:=⟨gk-1,by omega⟩
   have hjl:j<xs.length:=by omega
   have t1:(j:Int)<(xs.length:Int):=by omega
   have hc:=hF.cell (hrd.out j hjl) (by simp)
   have hE:=heq.out;rw [bdg_step n xs j A h hjl] at hE;clear heq;generalize hxe:xs[j]=x at hc hE;have hb:=x.toNat_lt;have hp8:=Nat.pow_le_pow_right (n:=2) (by omega) (show h≤7 by omega)
   have hA8:A<128:=by omega
   have gor:=or_acc A x.toNat hA8 hb;generalize hBB:A*256+x.toNat=BB at *
   have hB2:BB<32768:=by omega
   replace hBB:=Hz hBB;have hmn:=Nat.mod_lt (h+8) h0;have hol:Hid (out.length+(dgs n BB (h+8)).length≤8*xs.length):=by
    have:=congrArg List.length hE;rw [List.length_append,List.length_append] at this;have hbl:=bdg_length n h0 xs 0 0 h0;exact Hz (by omega)
   replace hE:=Hz hE;go_wp2
   go_loopg [7,9] (h+8) (fun k v7 v9 wr=> ∃(out':List Nat),v9= .int .u64 (k:Int)∧k<16∧Hid (k%n=(h+8)%n)∧Hid (out'++dgs n BB k=out++dgs n BB (h+8))∧Row wr w.heap.size v7 (out'.map (ltr ds))∧Fr [] w wr)
   case atStart=>exact ⟨out,by go_num,by omega,rfl,rfl,hrow,hF⟩
   case round=>
    obtain ⟨out',rfl,hk16,hmod,heq',hrow',hF'⟩:=hrel;obtain ⟨ao',n0',c0',rfl⟩:=hrow'.shape;by_cases hkn:gk<n
    ·have t2: ¬(n:Int)≤(gk:Int):=by omega
     have gma:=and_mask BB gk (by omega) (by omega)
     have hk2:gk=(h+8)%n:=by rw [←hmod.out,Nat.mod_eq_of_lt hkn]
     have hE2:=hE.out;rw [←hk2] at hE2;have he2:=heq'.out;rw [dgs_no hkn,List.append_nil] at he2;rw [←List.append_assoc,←he2] at hE2;have hAl:=Nat.mod_lt BB (show 0<2^gk from Nat.pow_pos (by omega))
     replace hE2:=Hz hE2;replace hk2:=Hz hk2;clear he2;go_wp2
     go_roundg g
     case measure=>omega
     case rel=>exact ⟨j+1,BB%2^gk,gk,out',by go_num,by omega,rfl,rfl,hAl,hkn,hE2,hrow',hF'⟩
    ·have t2:(n:Int)≤(gk:Int):=by omega
     have gsh:(BB:Int)/2^(gk-n)=((BB/2^(gk-n):Nat):Int):=by rw [pow_int];omega
     have hdl:BB/2^(gk-n)≤BB:=Nat.div_le_self _ _;have gma:=and_mask (BB/2^(gk-n)) n (by omega) h8
     rw [←gsh] at gma;have hml:=Nat.mod_lt (BB/2^(gk-n)) (show 0<2^n from Nat.pow_pos (by omega))
     rw [←hds.out] at hml;have he2:=heq'.out;rw [dgs_yes h0 (by omega)] at he2
     have hol2:=congrArg List.length he2;rw [List.length_append,List.length_append,List.length_cons] at hol2;have:=hol.out;have hms:(gk-n)%n=(h+8)%n:=by rw [←hmod.out,Nat.mod_eq_sub_mod (show n≤gk by omega)]
     generalize hz:BB/2^(gk-n)%2^n=z at *
     rw [show out'++z::dgs n BB (gk-n)=(out'++[z])++dgs n BB (gk-n) by simp] at he2
     have hlo:(out'.map (ltr ds)).length+[ltr ds z].length≤140737488355328:=by simp;omega
     have hBs:=hF'.size;have hzl:z<ds.length:=by rw [hds.out] at hml ⊢;omega
     have hba:=ba_getD ds z hzl;replace hba:=Hz hba;replace hz:=Hz hz;replace he2:=Hz he2;replace hms:=Hz hms;clear gsh hdl hml hol2 this;go_wp2_with (at_builtin;refine wpList_apRow rfl _ _ rfl (B:=w.heap.size) _ (out'.map (ltr ds)) [ltr ds z] wr.heap.size 0 1 rfl rfl (rd_new (w:=wr) rfl (by simp only [enc,List.map_cons,List.map_nil];rw [←hba.out])) (hrow'.push rfl) (by simp;omega) hlo ?_)
     intro v' w' hr' hg;have hF2:Fr [] w w':=by
      refine Fr.grown ?_ hg (fun k hk=> .inr (World.ownsRow.lt hrow' k hk).1)
      exact hF'.push rfl rfl rfl rfl
     go_wp2
     go_roundg (gk-n)
     case measure=>omega
     case rel=>exact ⟨out'++[z],by congr 1;omega,by omega,hms,he2,by rw [List.map_append];exact hr',hF2⟩
end
section
open Go.RowKit
def Src (w:World) (v:Value) (s:List UInt8):Prop:=(s=[]∧v= .slice none 0 0)∨ ∃b off c,v= .slice (some ⟨b,off,none⟩) s.length c∧Rd w b off s
theorem Row.src {w:World} {B:Nat} {v:Value} {bs:List UInt8} (h:Row w B v bs):Src w v bs:=by
 rcases h.2 with ⟨hv,h0⟩|⟨g,cap,cur,rfl,r⟩
 ·exact .inl ⟨List.eq_nil_of_length_eq_zero h0,hv⟩
 ·exact .inr ⟨g,0,cap,rfl,Rd.of_own h⟩
theorem Src.fr {w w':World} {v:Value} {s:List UInt8} (h:Src w v s) (hf:Fr [] w w'):Src w' v s:=by
 rcases h with h|⟨b,off,c,hv,hr⟩
 ·exact .inl h
 ·exact .inr ⟨b,off,c,hv,hr.fr hf (by simp)⟩
theorem Src.shape {w:World} {v:Value} {s:List UInt8} (h:Src w v s): ∃ao n c,v= .slice ao n c:=by
 rcases h with ⟨_,rfl⟩|⟨b,off,c,rfl,_⟩<;>exact ⟨_,_,_,rfl⟩
theorem run_apSrc {w:World} {B:Nat} (v:Value) (bs s:List UInt8) (u:Value) (ty:TypeId) (hu:Src w u s) (hown:Row w B v bs) (hB:B≤w.heap.size) (hl:bs.length+s.length≤140737488355328):
  ∃v' w',(Builtin.append_ #[59,59] ty #[v,u]).run Tryz.prog w= .ok v' w'∧Row w' B v' (bs++s)∧w.grownBy w' v.ownBlock:=by
 have hinfo:(Tryz.prog.info? 5).map (fun i=>(i.zero,i.size,i.bytes))=some (some (.int .u8 0),1,1):=by kernel_rfl
 obtain ⟨i0,hi,hzz⟩:=Option.map_eq_some_iff.1 hinfo;simp only [Prod.mk.injEq] at hzz;obtain ⟨hz0,hz1,hz2⟩:=hzz;rcases hu with ⟨rfl,rfl⟩|⟨b,off,c,rfl,hr⟩
 ·have hrun:=run_append_owned_none (P:=Tryz.prog) (w:=w) B 59 ty 5 i0 1 Tryz.underlying59 hi v bs.length (enc bs) hown;exact ⟨v,w,hrun,by rw [List.append_nil];exact hown,World.grownBy.refl w _⟩
 ·obtain ⟨v',w',hrun,r1,r2,_⟩:=run_append_own (P:=Tryz.prog) w B 59 ty 5 i0 (.int .u8 0) 1 1 Tryz.underlying59 hi hz0 hz1 hz2 rfl (by decide) v bs.length (enc bs) hown ⟨b,off,none⟩ s.length c (enc s) (by rw [enc_length,Nat.mul_one]) hr.cells (enc_one s) (by simp only [maxLen];omega) (by omega) hB
  rw [←enc_append,←List.length_append] at r1;exact ⟨v',w',hrun,r1,r2⟩
theorem wpList_apSrc {w:World} {ops:Array Oper} {rest:List Oper} {o:Oper} {a:Act} {Q:Exit→Act→World→Prop} (hgd:o.guard=none) (x y:Operand) (ho:o.op= .call {callee:= .builtin .append,args:= #[x,y],argTypes:= #[59,59]})
  {B:Nat} (v:Value) (bs s:List UInt8) (u:Value) (hs:a.eval x=v) (hx:a.eval y=u) (hu:Src w u s) (hown:Row w B v bs) (hB:B≤w.heap.size) (hl:bs.length+s.length≤140737488355328)
  (h: ∀v' w',Row w' B v' (bs++s)→w.grownBy w' v.ownBlock→wpList Tryz.prog ops Q rest (a.put o.dst v') w'):wpList Tryz.prog ops Q (o::rest) a w:=by
 refine wpList_plain hgd fun K hK=> ?_
 obtain ⟨v',w',hrun,r1,r2⟩:=run_apSrc v bs s u o.type hu hown hB hl;unfold Oper.wp;simp [execOp,ho,resolve,invoke,builtin,hs,hx,hrun,Result.andThen];exact hK _ _ (h v' w' r1 r2)
theorem step_apSrc {w:World} {ops:Array Oper} {o:Oper} {a:Act} {K:Act→World→Prop} {Q:Exit→Act→World→Prop} {E:Prop}
  (hg:o.guard=none) (x y:Operand) (hop:o.op=Op.call {callee:=Callee.builtin Builtin.append,args:= #[x,y],argTypes:= #[59,59]})
  {B:Nat} (v:Value) (bs s:List UInt8) (u:Value) (hs:a.eval x=v) (hx:a.eval y=u) (hu:Src w u s) (hown:Row w B v bs) (hB:B≤w.heap.size) (hl:bs.length+s.length≤140737488355328)
  (hK: ∀v' w',Row w' B v' (bs++s)→w.grownBy w' v.ownBlock→K (a.put o.dst v') w'):
  if Region.wanted o (yielded ops a.tmps)=true then Oper.wp Tryz.prog o a w K Q else E:=by
 have hw:Region.wanted o (yielded ops a.tmps)=true:=by simp [Region.wanted,hg]
 rw [if_pos hw];obtain ⟨v',w',hrun,r1,r2⟩:=run_apSrc v bs s u o.type hu hown hB hl;unfold Oper.wp;simp [execOp,hop,resolve,invoke,builtin,hs,hx,hrun,Result.andThen];exact hK v' w' r1 r2
theorem writeSrc {w:World} {B wb:Nat} {bs:List UInt8} (h:Buf w B wb bs) (hwb:wb<B) (hB:B≤w.heap.size) (s:List UInt8) (u:Value) (hu:Src w u s) (hl:bs.length+s.length≤140737488355328):
  Calls Tryz.prog 171 #[.pointer (some ⟨wb,0,none⟩),u] w fun e w'=>(∃u,e= .returned u)∧Buf w' B wb (bs++s)∧Gr B [wb] w w':=by
 obtain ⟨v,hb,hr⟩:=h;have c0:w.cell? ⟨wb,0,none⟩=some v:=cell_blk hb 0;obtain ⟨ao,n,c,rfl⟩:=hr.shape;obtain ⟨ao2,n2,c2,rfl⟩:=hu.shape;go_enter Tryz.func171,Tryz.ntmps171
 go_wp2_with (at_builtin;refine wpList_apSrc rfl _ _ rfl (B:=B) _ bs s _ rfl rfl hu hr hB hl ?_)
 intro v' w' hr' hg;have hb':w'.heap[wb]? =some (.cells #[.slice ao n c] 194 (0,0)):=(hg.block wb (blk_lt' hb) (hr.ne hwb)).trans hb;have c0':w'.cell? ⟨wb,0,none⟩=some (.slice ao n c):=cell_blk hb' 0;have f0':w'.frozen? ⟨wb,0,none⟩=false:=frozen_blk hb' 0;obtain ⟨ao',n',c',rfl⟩:=hr'.shape;go_wp2
 go_ret2
 exact ⟨⟨_,rfl⟩,buf_stored hb hr hr' hg hwb hB⟩
theorem zzBase32 {w:World} {b o c:Nat} {xs ds:List UInt8} (hds:ds.length=32) (hrd:Rd w b o xs) (hlen:xs.length≤1099511627776):
  Calls Tryz.prog 172 #[.slice (some ⟨b,o,none⟩) xs.length c,.string ⟨ds.toArray⟩] w fun e w'=> ∃v,e= .returned v∧Row w' w.heap.size v (baseB 5 ds xs)∧Fr [] w w':=by
 have K:=Hz (zzBits (c:=c) (n:=5) (by decide) (by decide) (by rw [hds]) hrd hlen)
 clear hds hrd;go_enter Tryz.func172,Tryz.ntmps172
 go_wp2_with fail
 refine K.out.mono ?_
 rintro e w1 ⟨v,rfl,hr,hf⟩;obtain ⟨ao,n,c,rfl⟩:=hr.shape;go_wp2;go_ret
 exact ⟨_,rfl,hr,hf⟩
theorem zzBase64 {w:World} {b o c:Nat} {xs:List UInt8} (hrd:Rd w b o xs) (hlen:xs.length≤1099511627776):
  Calls Tryz.prog 173 #[.slice (some ⟨b,o,none⟩) xs.length c] w fun e w'=> ∃v,e= .returned v∧Row w' w.heap.size v (baseB 6 b64D xs)∧Fr [] w w':=by
 have K:=Hz (zzBits (c:=c) (n:=6) (ds:=b64D) (by decide) (by decide) (by decide) hrd hlen)
 clear hrd;go_enter Tryz.func173,Tryz.ntmps173
 go_wp2_with fail
 refine K.out.mono ?_
 rintro e w1 ⟨v,rfl,hr,hf⟩;obtain ⟨ao,n,c,rfl⟩:=hr.shape;go_wp2;go_ret
 exact ⟨_,rfl,hr,hf⟩
end
end
section
open Go.RowKit
theorem be1 (xs:List UInt8) (i:Nat) (h:i<xs.length):be ((xs.drop i).take 1)=xs[i].toNat:=by
 rw [List.drop_eq_getElem_cons h];simp only [List.take_succ_cons,List.take_zero,be,List.foldl_cons,List.foldl_nil];omega
theorem be2 (xs:List UInt8) (i:Nat) (h:i+1<xs.length):be ((xs.drop i).take 2)=two xs[i] xs[i+1]:=by
 rw [List.drop_eq_getElem_cons (by omega),List.drop_eq_getElem_cons h];simp only [List.take_succ_cons,List.take_zero,be,List.foldl_cons,List.foldl_nil,two];omega
theorem be4 (xs:List UInt8) (i:Nat) (h:i+3<xs.length):be ((xs.drop i).take 4)=four (two xs[i] xs[i+1]) (two xs[i+2] xs[i+3]):=by
 rw [List.drop_eq_getElem_cons (by omega),List.drop_eq_getElem_cons (show i+1<_ by omega),List.drop_eq_getElem_cons (show i+1+1<_ by omega),List.drop_eq_getElem_cons (show i+1+1+1<_ by omega)]
 simp only [List.take_succ_cons,List.take_zero,be,List.foldl_cons,List.foldl_nil,two,four,Nat.add_assoc,Nat.reduceAdd];omega
theorem be8 (xs:List UInt8) (i:Nat) (h:i+7<xs.length):be ((xs.drop i).take 8)=eight (four (two xs[i] xs[i+1]) (two xs[i+2] xs[i+3])) (four (two xs[i+4] xs[i+5]) (two xs[i+6] xs[i+7])):=by
 rw [List.drop_eq_getElem_cons (by omega),List.drop_eq_getElem_cons (show i+1<_ by omega),List.drop_eq_getElem_cons (show i+1+1<_ by omega),List.drop_eq_getElem_cons (show i+1+1+1<_ by omega),
  List.drop_eq_getElem_cons (show i+1+1+1+1<_ by omega),List.drop_eq_getElem_cons (show i+1+1+1+1+1<_ by omega),List.drop_eq_getElem_cons (show i+1+1+1+1+1+1<_ by omega),List.drop_eq_getElem_cons (show i+1+1+1+1+1+1+1<_ by omega)]
 simp only [List.take_succ_cons,List.take_zero,be,List.foldl_cons,List.foldl_nil,two,four,eight,Nat.add_assoc,Nat.reduceAdd];omega
def HeadAt (w:World) (d db o c dm:Nat) (xs:List UInt8) (m ai v off':Nat) (e:Ending) (w':World):Prop:=
 e= .returned (.tuple #[.int .u8 ((m*32:Nat):Int),.int .u8 (ai:Int),.int .u64 (v:Int)])∧Dec w' d db o c dm xs off'∧Fr [d] w w'
section
variable {w:World} {d db o c dm off:Nat} {xs:List UInt8}
theorem getHead_0 (h:Dec w d db o c dm xs off) (hl:off<xs.length) (k:Nat) (hk:xs[off].toNat%32=k) (h23:k≤23∨28≤k):
  Calls Tryz.prog 121 #[.pointer (some ⟨d,0,none⟩)] w (HeadAt w d db o c dm xs (xs[off].toNat/32) k k (off+1)):=by
 have h0:=h.c0;have h1:=h.c1;have f1:=h.f1;have ha:=h.at_ off hl;have hm:=h.len;have K:=parseInitialByte xs[off];rw [hk] at K;have K:=Hz K;have hk31:k<32:=by omega
 clear hk;rcases h23 with h23|h23
 all_goals
  go_enter Tryz.func121,Tryz.ntmps121
  go_wp2
  go_quiet ((go_at_call 160;exact Calls.quiet_of_same (K.out _)))
  go_wp2;refine bodyPost_ret (results_tmp3 rfl _ _ _) rfl ?_
  exact ⟨rfl,h.move (off+1) (by omega) _⟩
theorem getHead_1 (h:Dec w d db o c dm xs off) (hl:off+1<xs.length) (hk:xs[off].toNat%32=24):
  Calls Tryz.prog 121 #[.pointer (some ⟨d,0,none⟩)] w (HeadAt w d db o c dm xs (xs[off].toNat/32) 24 xs[off+1].toNat (off+1+1)):=by
 have h0:=h.c0;have h1:=h.c1;have f1:=h.f1;have ha:=h.at_ off (by omega)
 have hb:=h.at_ (off+1) (by omega)
 have l0:=u8lt (xs[off+1]'(by omega))
 have hm:=h.len;have hc:=h.cap;have n1: ¬db=d:=h.ne;have n2: ¬d=db:=fun e=>h.ne e.symm
 have K:=parseInitialByte (xs[off]'(by omega))
 rw [hk] at K;have K:=Hz K;clear hk;go_enter Tryz.func121,Tryz.ntmps121
 go_wp2
 go_quiet ((go_at_call 160;exact Calls.quiet_of_same (K.out _)))
 go_wp2;have g0:(off:Int)+1<(xs.length:Int):=by omega
 have g1:0≤(off:Int)+1:=by omega
 have g2:((off:Int)+1).toNat=off+1:=by omega
 go_quiet (fail)
 go_wp2;refine bodyPost_ret (results_tmp3 rfl _ _ _) rfl ?_
 refine ⟨rfl,DecV.dec (x:=(off:Int)+1+1) ?_ _ (by omega) (by omega),?_⟩
 ·repeat (first|with_reducible exact h.v|with_reducible apply DecV.set|with_reducible apply DecV.drewN)
 ·repeat (first|with_reducible exact Fr.refl _ _|with_reducible refine Fr.setCell ?_ (by simp) _|with_reducible refine Fr.drewN ?_ _)
theorem getHead_2 (h:Dec w d db o c dm xs off) (hl:off+2<xs.length) (hk:xs[off].toNat%32=25):
  Calls Tryz.prog 121 #[.pointer (some ⟨d,0,none⟩)] w (HeadAt w d db o c dm xs (xs[off].toNat/32) 25 (two xs[off+1] xs[off+2]) (off+1+2)):=by
 have h0:=h.c0;have h1:=h.c1;have f1:=h.f1;have ha:=h.at_ off (by omega)
 have hx0:=fun (v:Value) (m n:Nat)=>((Fr.refl [d] (w.drewN m)).setCell (p:=⟨d,1,none⟩) (by simp) v).drewN n|>.cell (p:=⟨db,o+(off+1),none⟩) ((show w.cell? ⟨db,o+(off+1),none⟩=w.cell? ⟨db,o+(off+1),none⟩ from congrArg (fun z=>w.cell? ⟨db,z,none⟩) (by omega)).trans (h.at_ (off+1) (by omega))) (by simpa using h.ne)
 have hx1:=fun (v:Value) (m n:Nat)=>((Fr.refl [d] (w.drewN m)).setCell (p:=⟨d,1,none⟩) (by simp) v).drewN n|>.cell (p:=⟨db,o+(off+1)+1,none⟩) ((show w.cell? ⟨db,o+(off+1)+1,none⟩=w.cell? ⟨db,o+(off+2),none⟩ from congrArg (fun z=>w.cell? ⟨db,z,none⟩) (by omega)).trans (h.at_ (off+2) (by omega))) (by simpa using h.ne)
 have l0:=two_lt (xs[off+1]'(by omega)) (xs[off+2]'(by omega))
 have hm:=h.len;have hc:=h.cap;have n1: ¬db=d:=h.ne;have n2: ¬d=db:=fun e=>h.ne e.symm
 have K:=parseInitialByte (xs[off]'(by omega))
 rw [hk] at K;have K:=Hz K;clear hk;go_enter Tryz.func121,Tryz.ntmps121
 go_wp2
 go_quiet ((go_at_call 160;exact Calls.quiet_of_same (K.out _)))
 go_wp2;have g0:(off:Int)+1<(xs.length:Int):=by omega
 have g1:0≤(off:Int)+1:=by omega
 have g2:((off:Int)+1).toNat=off+1:=by omega
 have g3:(off:Int)+1+2≤(c:Int):=by omega
 have g4:((off:Int)+1+2).toNat=off+1+2:=by omega
 have g5: ¬c=off+1:=by omega
 have g6:(off:Int)+1≤(off:Int)+1+2:=by omega
 have g7:0≤(off:Int)+1+2:=by omega
 have g8:IntKind.i64.wrap ((off:Int)+1+2)=(off:Int)+1+2:=IntWalk.i64_in _ (by omega)
 go_quiet ((go_at_call 161;exact Calls.quiet_of (beUint16 db (o+(off+1)) 2 (c-(off+1)) xs[off+1] xs[off+2] _ (by omega) (hx0 _ _ _) (hx1 _ _ _))))
 go_wp2;refine bodyPost_ret (results_tmp3 rfl _ _ _) rfl ?_
 refine ⟨rfl,DecV.dec (x:=(off:Int)+1+2) ?_ _ (by omega) (by omega),?_⟩
 ·repeat (first|with_reducible exact h.v|with_reducible apply DecV.set|with_reducible apply DecV.drewN)
 ·repeat (first|with_reducible exact Fr.refl _ _|with_reducible refine Fr.setCell ?_ (by simp) _|with_reducible refine Fr.drewN ?_ _)
theorem getHead_4 (h:Dec w d db o c dm xs off) (hl:off+4<xs.length) (hk:xs[off].toNat%32=26):
  Calls Tryz.prog 121 #[.pointer (some ⟨d,0,none⟩)] w (HeadAt w d db o c dm xs (xs[off].toNat/32) 26 (four (two xs[off+1] xs[off+2]) (two xs[off+3] xs[off+4])) (off+1+4)):=by
 have h0:=h.c0;have h1:=h.c1;have f1:=h.f1;have ha:=h.at_ off (by omega)
 have hx0:=fun (v:Value) (m n:Nat)=>((Fr.refl [d] (w.drewN m)).setCell (p:=⟨d,1,none⟩) (by simp) v).drewN n|>.cell (p:=⟨db,o+(off+1),none⟩) ((show w.cell? ⟨db,o+(off+1),none⟩=w.cell? ⟨db,o+(off+1),none⟩ from congrArg (fun z=>w.cell? ⟨db,z,none⟩) (by omega)).trans (h.at_ (off+1) (by omega))) (by simpa using h.ne)
 have hx1:=fun (v:Value) (m n:Nat)=>((Fr.refl [d] (w.drewN m)).setCell (p:=⟨d,1,none⟩) (by simp) v).drewN n|>.cell (p:=⟨db,o+(off+1)+1,none⟩) ((show w.cell? ⟨db,o+(off+1)+1,none⟩=w.cell? ⟨db,o+(off+2),none⟩ from congrArg (fun z=>w.cell? ⟨db,z,none⟩) (by omega)).trans (h.at_ (off+2) (by omega))) (by simpa using h.ne)
 have hx2:=fun (v:Value) (m n:Nat)=>((Fr.refl [d] (w.drewN m)).setCell (p:=⟨d,1,none⟩) (by simp) v).drewN n|>.cell (p:=⟨db,o+(off+1)+2,none⟩) ((show w.cell? ⟨db,o+(off+1)+2,none⟩=w.cell? ⟨db,o+(off+3),none⟩ from congrArg (fun z=>w.cell? ⟨db,z,none⟩) (by omega)).trans (h.at_ (off+3) (by omega))) (by simpa using h.ne)
 have hx3:=fun (v:Value) (m n:Nat)=>((Fr.refl [d] (w.drewN m)).setCell (p:=⟨d,1,none⟩) (by simp) v).drewN n|>.cell (p:=⟨db,o+(off+1)+2+1,none⟩) ((show w.cell? ⟨db,o+(off+1)+2+1,none⟩=w.cell? ⟨db,o+(off+4),none⟩ from congrArg (fun z=>w.cell? ⟨db,z,none⟩) (by omega)).trans (h.at_ (off+4) (by omega))) (by simpa using h.ne)
 have l0:=four_lt _ _ (two_lt (xs[off+1]'(by omega)) (xs[off+2]'(by omega))) (two_lt (xs[off+3]'(by omega)) (xs[off+4]'(by omega)))
 have hm:=h.len;have hc:=h.cap;have n1: ¬db=d:=h.ne;have n2: ¬d=db:=fun e=>h.ne e.symm
 have K:=parseInitialByte (xs[off]'(by omega))
 rw [hk] at K;have K:=Hz K;clear hk;go_enter Tryz.func121,Tryz.ntmps121
 go_wp2
 go_quiet ((go_at_call 160;exact Calls.quiet_of_same (K.out _)))
 go_wp2;have g0:(off:Int)+1<(xs.length:Int):=by omega
 have g1:0≤(off:Int)+1:=by omega
 have g2:((off:Int)+1).toNat=off+1:=by omega
 have g3:(off:Int)+1+4≤(c:Int):=by omega
 have g4:((off:Int)+1+4).toNat=off+1+4:=by omega
 have g5: ¬c=off+1:=by omega
 have g6:(off:Int)+1≤(off:Int)+1+4:=by omega
 have g7:0≤(off:Int)+1+4:=by omega
 have g8:IntKind.i64.wrap ((off:Int)+1+4)=(off:Int)+1+4:=IntWalk.i64_in _ (by omega)
 go_quiet ((go_at_call 162;exact Calls.quiet_of (beUint32 db (o+(off+1)) 4 (c-(off+1)) xs[off+1] xs[off+2] xs[off+3] xs[off+4] _ (by omega) (by omega) (hx0 _ _ _) (hx1 _ _ _) (hx2 _ _ _) (hx3 _ _ _))))
 go_wp2;refine bodyPost_ret (results_tmp3 rfl _ _ _) rfl ?_
 refine ⟨rfl,DecV.dec (x:=(off:Int)+1+4) ?_ _ (by omega) (by omega),?_⟩
 ·repeat (first|with_reducible exact h.v|with_reducible apply DecV.set|with_reducible apply DecV.drewN)
 ·repeat (first|with_reducible exact Fr.refl _ _|with_reducible refine Fr.setCell ?_ (by simp) _|with_reducible refine Fr.drewN ?_ _)
theorem getHead_8 (h:Dec w d db o c dm xs off) (hl:off+8<xs.length) (hk:xs[off].toNat%32=27):
  Calls Tryz.prog 121 #[.pointer (some ⟨d,0,none⟩)] w (HeadAt w d db o c dm xs (xs[off].toNat/32) 27 (eight (four (two xs[off+1] xs[off+2]) (two xs[off+3] xs[off+4])) (four (two xs[off+5] xs[off+6]) (two xs[off+7] xs[off+8]))) (off+1+8)):=by
 have h0:=h.c0;have h1:=h.c1;have f1:=h.f1;have ha:=h.at_ off (by omega)
 have hx0:=fun (v:Value) (m n:Nat)=>((Fr.refl [d] (w.drewN m)).setCell (p:=⟨d,1,none⟩) (by simp) v).drewN n|>.cell (p:=⟨db,o+(off+1),none⟩) ((show w.cell? ⟨db,o+(off+1),none⟩=w.cell? ⟨db,o+(off+1),none⟩ from congrArg (fun z=>w.cell? ⟨db,z,none⟩) (by omega)).trans (h.at_ (off+1) (by omega))) (by simpa using h.ne)
 have hx1:=fun (v:Value) (m n:Nat)=>((Fr.refl [d] (w.drewN m)).setCell (p:=⟨d,1,none⟩) (by simp) v).drewN n|>.cell (p:=⟨db,o+(off+1)+1,none⟩) ((show w.cell? ⟨db,o+(off+1)+1,none⟩=w.cell? ⟨db,o+(off+2),none⟩ from congrArg (fun z=>w.cell? ⟨db,z,none⟩) (by omega)).trans (h.at_ (off+2) (by omega))) (by simpa using h.ne)
 have hx2:=fun (v:Value) (m n:Nat)=>((Fr.refl [d] (w.drewN m)).setCell (p:=⟨d,1,none⟩) (by simp) v).drewN n|>.cell (p:=⟨db,o+(off+1)+2,none⟩) ((show w.cell? ⟨db,o+(off+1)+2,none⟩=w.cell? ⟨db,o+(off+3),none⟩ from congrArg (fun z=>w.cell? ⟨db,z,none⟩) (by omega)).trans (h.at_ (off+3) (by omega))) (by simpa using h.ne)
 have hx3:=fun (v:Value) (m n:Nat)=>((Fr.refl [d] (w.drewN m)).setCell (p:=⟨d,1,none⟩) (by simp) v).drewN n|>.cell (p:=⟨db,o+(off+1)+2+1,none⟩) ((show w.cell? ⟨db,o+(off+1)+2+1,none⟩=w.cell? ⟨db,o+(off+4),none⟩ from congrArg (fun z=>w.cell? ⟨db,z,none⟩) (by omega)).trans (h.at_ (off+4) (by omega))) (by simpa using h.ne)
 have hx4:=fun (v:Value) (m n:Nat)=>((Fr.refl [d] (w.drewN m)).setCell (p:=⟨d,1,none⟩) (by simp) v).drewN n|>.cell (p:=⟨db,o+(off+1)+4,none⟩) ((show w.cell? ⟨db,o+(off+1)+4,none⟩=w.cell? ⟨db,o+(off+5),none⟩ from congrArg (fun z=>w.cell? ⟨db,z,none⟩) (by omega)).trans (h.at_ (off+5) (by omega))) (by simpa using h.ne)
 have hx5:=fun (v:Value) (m n:Nat)=>((Fr.refl [d] (w.drewN m)).setCell (p:=⟨d,1,none⟩) (by simp) v).drewN n|>.cell (p:=⟨db,o+(off+1)+4+1,none⟩) ((show w.cell? ⟨db,o+(off+1)+4+1,none⟩=w.cell? ⟨db,o+(off+6),none⟩ from congrArg (fun z=>w.cell? ⟨db,z,none⟩) (by omega)).trans (h.at_ (off+6) (by omega))) (by simpa using h.ne)
 have hx6:=fun (v:Value) (m n:Nat)=>((Fr.refl [d] (w.drewN m)).setCell (p:=⟨d,1,none⟩) (by simp) v).drewN n|>.cell (p:=⟨db,o+(off+1)+4+2,none⟩) ((show w.cell? ⟨db,o+(off+1)+4+2,none⟩=w.cell? ⟨db,o+(off+7),none⟩ from congrArg (fun z=>w.cell? ⟨db,z,none⟩) (by omega)).trans (h.at_ (off+7) (by omega))) (by simpa using h.ne)
 have hx7:=fun (v:Value) (m n:Nat)=>((Fr.refl [d] (w.drewN m)).setCell (p:=⟨d,1,none⟩) (by simp) v).drewN n|>.cell (p:=⟨db,o+(off+1)+4+2+1,none⟩) ((show w.cell? ⟨db,o+(off+1)+4+2+1,none⟩=w.cell? ⟨db,o+(off+8),none⟩ from congrArg (fun z=>w.cell? ⟨db,z,none⟩) (by omega)).trans (h.at_ (off+8) (by omega))) (by simpa using h.ne)
 have hm:=h.len;have hc:=h.cap;have n1: ¬db=d:=h.ne;have n2: ¬d=db:=fun e=>h.ne e.symm
 have K:=parseInitialByte (xs[off]'(by omega))
 rw [hk] at K;have K:=Hz K;clear hk;go_enter Tryz.func121,Tryz.ntmps121
 go_wp2
 go_quiet ((go_at_call 160;exact Calls.quiet_of_same (K.out _)))
 go_wp2;have g0:(off:Int)+1<(xs.length:Int):=by omega
 have g1:0≤(off:Int)+1:=by omega
 have g2:((off:Int)+1).toNat=off+1:=by omega
 have g3:(off:Int)+1+8≤(c:Int):=by omega
 have g4:((off:Int)+1+8).toNat=off+1+8:=by omega
 have g5: ¬c=off+1:=by omega
 have g6:(off:Int)+1≤(off:Int)+1+8:=by omega
 have g7:0≤(off:Int)+1+8:=by omega
 have g8:IntKind.i64.wrap ((off:Int)+1+8)=(off:Int)+1+8:=IntWalk.i64_in _ (by omega)
 go_quiet ((go_at_call 163;exact Calls.quiet_of (beUint64 db (o+(off+1)) 8 (c-(off+1)) xs[off+1] xs[off+2] xs[off+3] xs[off+4] xs[off+5] xs[off+6] xs[off+7] xs[off+8] _ (by omega) (by omega) (hx0 _ _ _) (hx1 _ _ _) (hx2 _ _ _) (hx3 _ _ _) (hx4 _ _ _) (hx5 _ _ _) (hx6 _ _ _) (hx7 _ _ _))))
 go_wp2;refine bodyPost_ret (results_tmp3 rfl _ _ _) rfl ?_
 refine ⟨rfl,DecV.dec (x:=(off:Int)+1+8) ?_ _ (by omega) (by omega),?_⟩
 ·repeat (first|with_reducible exact h.v|with_reducible apply DecV.set|with_reducible apply DecV.drewN)
 ·repeat (first|with_reducible exact Fr.refl _ _|with_reducible refine Fr.setCell ?_ (by simp) _|with_reducible refine Fr.drewN ?_ _)
theorem getElem?_lt {xs:List UInt8} {off:Nat} {b:UInt8} (e:xs[off]? =some b): ∃hl:off<xs.length,xs[off]=b:=by
 obtain ⟨hl,h⟩:=List.getElem?_eq_some_iff.1 e;exact ⟨hl,h⟩
theorem getHead (h:Dec w d db o c dm xs off) {m ai v off':Nat} (hh:hd xs off= .ok (m,ai,v,off')):
  Calls Tryz.prog 121 #[.pointer (some ⟨d,0,none⟩)] w (HeadAt w d db o c dm xs m ai v off'):=by
 unfold hd at hh
 split at hh
 ·cases hh
 ·rename_i b e;obtain ⟨hl,rfl⟩:=getElem?_lt e
  split at hh
  ·cases hh
   exact getHead_0 h hl _ rfl (.inl (by omega))
  ·split at hh
   ·split at hh
    ·cases hh
    ·split at hh
     ·cases hh
     ·rename_i h24 h28 hlen hs;have h4:xs[off].toNat%32=24∨xs[off].toNat%32=25∨xs[off].toNat%32=26∨xs[off].toNat%32=27:=by omega
      rcases h4 with h4|h4|h4|h4<;>rw [h4] at hh hlen<;>simp only [Nat.reduceSub,Nat.reducePow] at hh hlen
      ·rw [be1 _ _ (by omega)] at hh;cases hh
       exact getHead_1 h (by omega) h4
      ·rw [be2 _ _ (by omega)] at hh;cases hh
       exact getHead_2 h (by omega) h4
      ·rw [be4 _ _ (by omega)] at hh;cases hh
       exact getHead_4 h (by omega) h4
      ·rw [be8 _ _ (by omega)] at hh;cases hh
       exact getHead_8 h (by omega) h4
   ·split at hh
    ·split at hh
     ·cases hh
     ·cases hh
      exact getHead_0 h hl _ ‹_› (.inr (by omega))
    ·cases hh
end
end
end Go.Proofs.YteodinhkhhaafaaGreatDoor
