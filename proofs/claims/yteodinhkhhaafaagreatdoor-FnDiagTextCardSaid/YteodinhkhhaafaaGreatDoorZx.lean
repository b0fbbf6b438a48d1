/- FnDiagText, its row and its card: for every byte string and encoding the law returns true: a byte string that is valid UTF-8 is written as text in single quotes and read back as the same bytes; another one is written as without the option. -/
import Derived.Test.YteodinhkhhaafaaGreatDoorFbu
import Derived.Lib.MapLaws
import Derived.Laws.Cover4
import Derived.Test.YteodinhkhhaafaaGreatDoorCards
import Derived.Test.YteodinhkhhaafaaGreatDoorTie
set_option linter.unusedVariables false
set_option linter.unusedSimpArgs false
set_option maxRecDepth 100000
set_option maxHeartbeats 6400000
namespace Go.Proofs.YteodinhkhhaafaaGreatDoor
theorem bdg4: ∀b:List UInt8,bdg 4 b 0 0=b.flatMap fun c=>[c.toNat/16,c.toNat%16]
 |[]=>by simp [bdg]
 |c::l=>by
  have hc:=c.toNat_lt;rw [bdg,dgs_yes (by omega) (by omega),dgs_yes (by omega) (by omega),dgs_no (by omega)]
  simp only [List.flatMap_cons];rw [show ((0+8)%4)=0 from rfl,show (0*256+c.toNat)%2^0=0 by simp [Nat.mod_one],bdg4 l]
  simp;omega
theorem base4 (ds:List UInt8): ∀b:List UInt8,baseB 4 ds b=hexB ds b
 |[]=>by simp [baseB,bdg,hexB]
 |c::l=>by
  have ih:=base4 ds l;unfold baseB at *
  rw [bdg4,List.flatMap_cons,List.map_append,←bdg4,ih]
  rfl
section
open Go.RowKit
theorem i64_or_nat (a b:Nat) (ha:a<9223372036854775808) (hb:b<9223372036854775808):bits .or .i64 (a:Int) (b:Int)=((a|||b:Nat):Int):=by
 have hx:a|||b<2^63:=Nat.or_lt_two_pow (by omega) (by omega)
 show IntKind.i64.wrap ((BitVec.ofInt 64 (a:Int)|||BitVec.ofInt 64 (b:Int)).toNat:Int)=_
 rw [BitVec.toNat_or,ofInt_i64 a ha,ofInt_i64 b hb];exact wrapI_lt _ (by omega)
theorem ori_acc (A x:Nat) (hA:A<128) (hx:x<256):bits .or .i64 ((A:Int)*256) (x:Int)=((A*256+x:Nat):Int):=by
 rw [show (A:Int)*256=((A*256:Nat):Int) by omega,i64_or_nat _ _ (by omega) (by omega),nat_join 8 _ _ (by omega) (by omega)]
theorem mask_i (n:Nat) (h:n≤16):IntKind.i64.wrap (IntKind.i64.wrap (2^n)-1)=((2^n-1:Nat):Int):=by
 have hp:=Nat.pow_le_pow_right (n:=2) (by omega) h
 have h1:1≤2^n:=Nat.pow_pos (by omega)
 rw [pow_int,wrapI_lt _ (by omega),show ((2^n:Nat):Int)-1=((2^n-1:Nat):Int) by omega,wrapI_lt _ (by omega)]
theorem andi_mask (A n:Nat) (hA:A<9223372036854775808) (h:n≤16):bits .and .i64 (A:Int) (IntKind.i64.wrap (IntKind.i64.wrap (2^n)-1))=((A%2^n:Nat):Int):=by
 have hp:=Nat.pow_le_pow_right (n:=2) (by omega) h
 rw [mask_i n h,i64_and_nat _ _ hA (by omega),Nat.and_two_pow_sub_one_eq_mod]
theorem wrap_eq (x:Int):IntKind.i64.wrap x=wrap64 x:=by rw [IntKind.wrap_i64,wrap64]
theorem mod_div (B k n:Nat) (h:n≤k):B%2^k/2^(k-n)=B/2^(k-n)%2^n:=by
 rw [show 2^k=2^(k-n)*2^n from by rw [←Nat.pow_add];congr 1;omega,Nat.mod_mul_right_div_self]
theorem mod_mod_le (B k m:Nat) (h:m≤k):B%2^k%2^m=B%2^m:=Nat.mod_mod_of_dvd _ (Nat.pow_dvd_pow 2 h)
theorem rowStr {w:World} {B:Nat} {v:Value} {bs:List UInt8} (h:Row w B v bs):(convert 59 9 v).run Tryz.prog w= .ok (.string ⟨bs.toArray⟩) w:=by
 rcases h.2 with ⟨rfl,hn⟩|⟨g,cap,cur,rfl,hg,hh,hr3⟩
 ·have hbs:bs=[]:=List.eq_nil_of_length_eq_zero hn;subst hbs;exact Lib.run_convert_nil_bytes w 59 9 5 0 Tryz.underlying59 Tryz.underlying5 Tryz.underlying9
 ·exact toStr (Rd.of_own h) cap
theorem based {w:World} {n:Nat} {xs ds:List UInt8} (h0:0<n) (h8:n≤8) (hds:ds.length=2^n) (hlen:xs.length≤1099511627776):
  Calls Tryz.prog 71 #[.string ⟨xs.toArray⟩,.int .i64 (n:Int),.string ⟨ds.toArray⟩] w fun e w'=>e= .returned (.string ⟨(baseB n ds xs).toArray⟩)∧Fr [] w w':=by
 replace hds:=Hz hds;go_enter Tryz.func71,Tryz.ntmps71
 go_wp2
 go_loopg [7,8,9,10] xs.length (fun k v7 v8 v9 v10 wr=> ∃(j A h:Nat) (out:List Nat),v10= .int .i64 (j:Int)∧j+k=xs.length∧v8= .int .i64 (A:Int)∧v9= .int .i64 (h:Int)∧A<2^h∧h<n∧Hid (out++bdg n (xs.drop j) A h=bdg n xs 0 0)∧Row wr w.heap.size v7 (out.map (ltr ds))∧Fr [] w wr)
 case atStart=>exact ⟨0,0,0,[],by go_num,by omega,by go_num,by go_num,by omega,h0,Hz (by simp),Row.nil _ _,Fr.refl _ _⟩
 case round=>
  obtain ⟨j,A,h,out,rfl,hj,rfl,rfl,hA,hh,heq,hrow,hF⟩:=hrel;by_cases hk:gk=0
  ·subst hk;obtain rfl:j=xs.length:=by omega
   rw [List.drop_of_length_le (Nat.le_refl _),bdg] at heq;have t1: ¬(xs.length:Int)<(xs.length:Int):=by omega
   by_cases hz:0<h
   ·rw [if_pos hz] at heq;have t2:(0:Int)<(h:Int):=by omega
    have hfin:=heq.out;have hol:=congrArg List.length hfin;rw [List.length_append,List.length_singleton] at hol;have hbl:=bdg_length n h0 xs 0 0 h0;have hpw:A*2^(n-h)<2^n:=by
     have h1:A*2^(n-h)<2^h*2^(n-h):=Nat.mul_lt_mul_of_pos_right hA (Nat.pow_pos (by omega))
     rwa [←Nat.pow_add,show h+(n-h)=n by omega] at h1
    have hp8:=Nat.pow_le_pow_right (n:=2) (by omega) h8
    have gsl:IntKind.i64.wrap ((A:Int)*2^(n-h))=((A*2^(n-h):Nat):Int):=by
     rw [pow_int,←Int.natCast_mul];exact wrapI_lt _ (by omega)
    rw [←hds.out] at hpw;have hlo:(out.map (ltr ds)).length+[ltr ds (A*2^(n-h))].length≤140737488355328:=by simp;omega
    have hrow2:baseB n ds xs=(out.map (ltr ds))++[ltr ds (A*2^(n-h))]:=by
     unfold baseB;rw [←hfin,List.map_append]
     rfl
    have hBs:=hF.size;generalize A*2^(n-h)=z at *
    have hba:=ba_getD ds z hpw;replace hba:=Hz hba;replace hrow2:=Hz hrow2;replace heq:=Hz heq;replace hfin:=Hz hfin;clear hol hbl hp8;obtain ⟨ao,n0,c0,rfl⟩:=hrow.shape;go_wp2_with (at_builtin;refine wpList_apRow rfl _ _ rfl (B:=w.heap.size) _ (out.map (ltr ds)) [ltr ds z] wr.heap.size 0 1 rfl rfl (rd_new (w:=wr) rfl (by simp only [enc,List.map_cons,List.map_nil];rw [←hba.out])) (hrow.push rfl) (by simp;omega) hlo ?_)
    intro v' w' hr' hg;have hF2:Fr [] w w':=by
     refine Fr.grown ?_ hg (fun k hk=> .inr (World.ownsRow.lt hrow k hk).1)
     exact hF.push rfl rfl rfl rfl
    rw [←hrow2.out] at hr';have hst:=rowStr hr';go_wp2;go_ret
    exact ⟨rfl,hF2⟩
   ·rw [if_neg hz,List.append_nil] at heq;have t2: ¬(0:Int)<(h:Int):=by omega
    have hrow2:baseB n ds xs=out.map (ltr ds):=by unfold baseB;rw [←heq.out]
    rw [←hrow2] at hrow;clear hrow2;have hst:=rowStr hrow;go_wp2;go_ret
    exact ⟨rfl,hF⟩
  ·obtain ⟨ao,n0,c0,rfl⟩:=hrow.shape;obtain ⟨g,rfl⟩: ∃g,gk=g+1:=⟨gk-1,by omega⟩
   have hjl:j<xs.length:=by omega
   have t1:(j:Int)<(xs.length:Int):=by omega
   have hE:=heq.out;rw [bdg_step n xs j A h hjl] at hE;clear heq;have hxb:((⟨xs.toArray⟩:ByteArray)[j]'(by show j<xs.toArray.size;simpa using hjl))=xs[j]:=rfl
   generalize hxe:xs[j]=x at hE hxb;have hb:=x.toNat_lt;have hp8:=Nat.pow_le_pow_right (n:=2) (by omega) (show h≤7 by omega)
   have hA8:A<128:=by omega
   have gor:=ori_acc A x.toNat hA8 hb;have hBm:(A*256+x.toNat)%2^(h+8)=A*256+x.toNat:=Nat.mod_eq_of_lt (by rw [Nat.pow_add];have:2^8=256:=rfl;omega)
   generalize hBB:A*256+x.toNat=BB at *
   have hB2:BB<32768:=by omega
   replace hBB:=Hz hBB;replace hBm:=Hz hBm;replace hxe:=Hz hxe;have hmn:=Nat.mod_lt (h+8) h0;have hol:Hid (out.length+(dgs n BB (h+8)).length≤8*xs.length):=by
    have:=congrArg List.length hE;rw [List.length_append,List.length_append] at this;have hbl:=bdg_length n h0 xs 0 0 h0;exact Hz (by omega)
   replace hE:=Hz hE;go_wp2
   go_loopg [7,8,9] (h+8) (fun k v7 v8 v9 wr=> ∃(x:Nat) (out':List Nat),v9= .int .i64 (k:Int)∧v8= .int .i64 (x:Int)∧Hid (x=BB%2^k)∧k<16∧Hid (k%n=(h+8)%n)∧Hid (out'++dgs n BB k=out++dgs n BB (h+8))∧Row wr w.heap.size v7 (out'.map (ltr ds))∧Fr [] w wr)
   case atStart=>exact ⟨BB,out,by go_num,rfl,Hz hBm.out.symm,by omega,rfl,rfl,hrow,hF⟩
   case round=>
    obtain ⟨x2,out',rfl,rfl,hx2,hk16,hmod,heq',hrow',hF'⟩:=hrel;obtain ⟨ao',n0',c0',rfl⟩:=hrow'.shape;by_cases hkn:gk<n
    ·have t2: ¬(n:Int)≤(gk:Int):=by omega
     have hk2:gk=(h+8)%n:=by rw [←hmod.out,Nat.mod_eq_of_lt hkn]
     have hE2:=hE.out;rw [←hk2,←hx2.out] at hE2;have he2:=heq'.out;rw [dgs_no hkn,List.append_nil] at he2;rw [←List.append_assoc,←he2] at hE2;have hAl:x2<2^gk:=by rw [hx2.out];exact Nat.mod_lt _ (Nat.pow_pos (by omega))
     replace hE2:=Hz hE2;replace hk2:=Hz hk2;clear he2;go_wp2
     go_roundg g
     case measure=>omega
     case rel=>exact ⟨j+1,x2,gk,out',by go_num,by omega,rfl,rfl,hAl,hkn,hE2,hrow',hF'⟩
    ·have t2:(n:Int)≤(gk:Int):=by omega
     have hx3:x2≤BB:=by rw [hx2.out];exact Nat.mod_le _ _
     have gsh:(x2:Int)/2^(gk-n)=((x2/2^(gk-n):Nat):Int):=by rw [pow_int];omega
     have hxd:x2/2^(gk-n)=BB/2^(gk-n)%2^n:=by rw [hx2.out];exact mod_div BB gk n (by omega)
     have gma:=andi_mask x2 (gk-n) (by omega) (by omega)
     have hxm:x2%2^(gk-n)=BB%2^(gk-n):=by rw [hx2.out];exact mod_mod_le BB gk (gk-n) (by omega)
     have hml:=Nat.mod_lt (BB/2^(gk-n)) (show 0<2^n from Nat.pow_pos (by omega))
     rw [←hxd,←hds.out] at hml;have he2:=heq'.out;rw [dgs_yes h0 (by omega),←hxd] at he2
     have hol2:=congrArg List.length he2;rw [List.length_append,List.length_append,List.length_cons] at hol2;have:=hol.out;have hms:(gk-n)%n=(h+8)%n:=by rw [←hmod.out,Nat.mod_eq_sub_mod (show n≤gk by omega)]
     generalize hz:x2/2^(gk-n)=z at *
     generalize hz2:x2%2^(gk-n)=z2 at *
     rw [show out'++z::dgs n BB (gk-n)=(out'++[z])++dgs n BB (gk-n) by simp] at he2
     have hlo:(out'.map (ltr ds)).length+[ltr ds z].length≤140737488355328:=by simp;omega
     have hBs:=hF'.size;have hba:=ba_getD ds z hml;have g9:(gk:Int)-(n:Int)=((gk-n:Nat):Int):=by omega
     replace hba:=Hz hba;replace hz:=Hz hz;replace hz2:=Hz hz2;replace he2:=Hz he2;replace hms:=Hz hms;replace hxm:=Hz hxm;replace g9:=Hz g9;clear hol2 this hxd hx3;go_wp2_with (at_builtin;refine wpList_apRow rfl _ _ rfl (B:=w.heap.size) _ (out'.map (ltr ds)) [ltr ds z] wr.heap.size 0 1 rfl rfl (rd_new (w:=wr) rfl (by simp only [enc,List.map_cons,List.map_nil];rw [←hba.out])) (hrow'.push rfl) (by simp;omega) hlo ?_)
     intro v' w' hr' hg;have hF2:Fr [] w w':=by
      refine Fr.grown ?_ hg (fun k hk=> .inr (World.ownsRow.lt hrow' k hk).1)
      exact hF'.push rfl rfl rfl rfl
     go_wp2
     go_roundg (gk-n)
     case measure=>omega
     case rel=>exact ⟨z2,out'++[z],by congr 1,by congr 1;rw [wrap_eq,wrap_eq] at gma;exact gma,Hz hxm.out,by omega,hms,he2,by rw [List.map_append];exact hr',hF2⟩
end
section
open Go.RowKit
theorem gns_length: ∀l:List Tr,(gns l).length=l.length
 |[]=>rfl
 |t::l=>by simp [gns,gns_length l]
theorem gns_append: ∀l m:List Tr,gns (l++m)=gns l++gns m
 |[],m=>by simp [gns]
 |t::l,m=>by simp [gns,gns_append l m]
def KidsV (w:World) (bl:List Nat) (l:List Gn) (kv:Value):Prop:=(l=[]∧ ∃ao c,kv= .slice ao 0 c)∨ ∃g cap,kv= .slice (some ⟨g,0,none⟩) l.length cap∧l.length≤cap∧l≠[]∧g∈bl∧NdFrom w bl g 0 l
theorem ndV_ks (w:World) (bl:List Nat) (t:Gn) (kv:Value):NdV w bl t kv↔KidsV w bl t.ks kv:=by
 cases t
 rw [NdV];exact Iff.rfl
theorem AllNd.snoc {w:World} {bl:List Nat} {t:Gn} {kv:Value} (hk:NdV w bl t kv): ∀(l:List Gn) (cs:List Value),AllNd w bl l cs→AllNd w bl (l++[t]) (cs++nd t kv)
 |[],cs,h=>by
  rw [AllNd] at h;subst h;exact ⟨kv,[],by simp,hk,rfl⟩
 |u::l,cs,h=>by
  obtain ⟨kv2,rest,h1,h2,h3⟩:=h;subst h1;exact ⟨kv2,rest++nd t kv,by simp,h2,AllNd.snoc hk l rest h3⟩
theorem AllNd.from_ {w:World} {bl:List Nat} {g:Nat}: ∀(l:List Gn) (cs:List Value) (i:Nat),AllNd w bl l cs→At w g (8*i) cs→NdFrom w bl g i l
 |[],cs,i,h,ha=>by rw [NdFrom];trivial
 |t::l,cs,i,h,ha=>by
  obtain ⟨kv,rest,h1,h2,h3⟩:=h;subst h1;rw [NdFrom];refine ⟨⟨kv,fun j u hu=>ha j u ?_,h2⟩,AllNd.from_ l rest (i+1) h3 (fun j u hu=> ?_)⟩
  ·rw [List.getElem?_append_left (List.getElem?_eq_some_iff.1 hu).1];exact hu
  ·have:=ha (8+j) u (by rw [List.getElem?_append_right (by simp [nd]),show 8+j-(nd t kv).length=j by simp [nd]];exact hu)
   rw [show 8*i+(8+j)=8*(i+1)+j by omega] at this
   exact this
theorem KidRow.kids {w:World} {T:TypeId} {lo:Nat} {v:Value} {l:List Gn} (h:KidRow w T lo v l): ∃bl,(∀b,b∈bl→lo≤b∧b<w.heap.size)∧KidsV w bl l v:=by
 obtain ⟨cs,bl,h1,h2,h3⟩:=h;rcases h1.2 with ⟨hv,h0⟩|⟨g,cap,cur,hv,hg,hh,hc,r⟩
 ·exact ⟨[],by simp,.inl ⟨List.eq_nil_of_length_eq_zero h0,_,_,hv⟩⟩
 ·subst hv;by_cases hl:l=[]
  ·subst hl;exact ⟨[],by simp,.inl ⟨rfl,_,_,rfl⟩⟩
  ·refine ⟨g::bl,fun b hb=> ?_,.inr ⟨g,cap,rfl,hc,hl,by simp,AllNd.from_ l cs 0 (AllNd.fr (fun b hb=>rfl) (fun b hb=>by simp [hb]) l cs h3) (fun j u hu=> ?_)⟩⟩
   ·rcases List.mem_cons.1 hb with rfl|hb
    ·exact ⟨hg,blk_lt' hh⟩
    ·exact ⟨(h2 b hb).1,(h2 b hb).2.1⟩
   ·have:=World.ownsRow.cells h1 (g:=g) rfl j u hu;have ha:(⟨g,0,none⟩:Addr).add j=⟨g,0+j,none⟩:=by unfold Addr.add;split<;>simp_all
    rw [ha] at this;rw [Nat.mul_zero];exact this
end
section
open Go.RowKit
def runeN (n b0 b1 b2 b3:Nat):Nat:=
 if b0<128 then 1
 else if 194≤b0∧b0<224 then (if n<2∨b1/64≠2 then 0 else if b0%32*64+b1%64<128 then 0 else 2)
 else if 224≤b0∧b0<240 then (if n<3∨b1/64≠2∨b2/64≠2 then 0
  else if b0%16*4096+b1%64*64+b2%64<2048∨(55296≤b0%16*4096+b1%64*64+b2%64∧b0%16*4096+b1%64*64+b2%64<57344) then 0 else 3)
 else if 240≤b0∧b0<245 then (if n<4∨b1/64≠2∨b2/64≠2∨b3/64≠2 then 0
  else if b0%8*262144+b1%64*4096+b2%64*64+b3%64<65536∨1114111<b0%8*262144+b1%64*4096+b2%64*64+b3%64 then 0 else 4)
 else 0
theorem runeN_eq (n b0 b1 b2 b3:Nat) (hn:1≤n) (h0:b0<256) (h1:b1<256) (h2:b2<256) (h3:b3<256):
  runeN n b0 b1 b2 b3=if (Lib.decodeN n b0 b1 b2 b3).1=65533∧(Lib.decodeN n b0 b1 b2 b3).2=1 then 0 else (Lib.decodeN n b0 b1 b2 b3).2:=by
 have key: ∀(r:Nat) (p:Nat×Nat),(p=(65533,1)∧r=0)∨(p.2=r∧(r=1→p.1<128))→r=if p.1=65533∧p.2=1 then 0 else p.2:=by
  rintro r p (⟨rfl,rfl⟩|⟨h1,h2⟩)
  ·simp
  ·rw [if_neg (by rintro ⟨a,b⟩;have:=h2 (by omega);omega),h1]
 apply key
 unfold runeN Lib.decodeN
 repeat' split
 all_goals first|(exfalso;omega)|(left;exact ⟨rfl,rfl⟩)|(right;exact ⟨rfl,by omega⟩)
end
section
open Go.RowKit
theorem and192 (b:Nat) (hb:b<256):bits .and .u8 (b:Int) 192=((b/64*64:Nat):Int):=by
 rw [show (192:Int)=((192:Nat):Int) from rfl,u8_and_nat _ _ (by omega) (by decide)]
 have key: ∀x:Fin 256,(x.val&&&192)=x.val/64*64:=by decide+kernel
 exact congrArg _ (key ⟨b,hb⟩)
theorem and_low (b k:Nat) (hb:b<256) (hk:k≤8):bits .and .u8 (b:Int) ((2^k-1:Nat):Int)=((b%2^k:Nat):Int):=by
 have hp:=Nat.pow_le_pow_right (n:=2) (by omega) hk
 rw [u8_and_nat _ _ (by omega) (by omega),Nat.and_two_pow_sub_one_eq_mod]
theorem or6 (r y:Nat) (hr:r<100000000) (hy:y<64):bits .or .i64 ((r:Int)*64) (y:Int)=((r*64+y:Nat):Int):=by
 rw [show (r:Int)*64=((r*64:Nat):Int) by omega,i64_or_nat _ _ (by omega) (by omega)]
 have t:=Nat.two_pow_add_eq_or_of_lt (i:=6) (b:=y) hy r;rw [Nat.mul_comm (2^6) r] at t;rw [←t]
theorem bt_lt (xs:List UInt8) (i:Nat):bt' xs i<256:=UInt8.toNat_lt _
def rv (xs:List UInt8) (i a:Nat):Nat→Nat
 |0=>a
 |k+1=>rv xs i a k*64+bt' xs (i+(k+1))%64
theorem runeAt2 (xs:List UInt8) (hl:xs.length≤1000000000) (i:Nat) (hi:i<xs.length) (h0:194≤bt' xs i∧bt' xs i<224) (w:World):
  Calls Tryz.prog 79 #[.string ⟨xs.toArray⟩,.int .i64 (i:Int)] w fun e w'=>e= .returned (.int .i64 (runeN (xs.length-i) (bt' xs i) (bt' xs (i+1)) (bt' xs (i+2)) (bt' xs (i+3)):Int))∧w'=w:=by
 have hx: ∀j,(h:j<xs.length)→((⟨xs.toArray⟩:ByteArray)[j]'(by show j<xs.toArray.size;simpa using h)).toNat=bt' xs j:=bt_at xs
 have hi0:=hx i hi;have q1:(i:Int)<(xs.length:Int):=by omega
 have q2:(⟨xs.toArray⟩:ByteArray).size=xs.length:=by simp [ByteArray.size]
 have am:bits .and .u8 (bt' xs i:Int) 31=((bt' xs i%32:Nat):Int):=and_low (bt' xs i) 5 (bt_lt xs i) (by omega)
 have hb:=bt_lt xs i;obtain ⟨a,ha⟩: ∃a,a=bt' xs i%32:=⟨_,rfl⟩;rw [←ha] at am;have ha2:a<32:=by omega
 have hres:runeN (xs.length-i) (bt' xs i) (bt' xs (i+1)) (bt' xs (i+2)) (bt' xs (i+3))=if xs.length-i<2∨bt' xs (i+1)/64≠2 then 0 else if a*64+bt' xs (i+1)%64<128 then 0 else 2:=by
  unfold runeN;rw [ha]
  repeat' split
  all_goals first|rfl|(exfalso;omega)
 obtain ⟨b0,hb0⟩: ∃b0,b0=bt' xs i:=⟨_,rfl⟩;rw [←hb0] at hi0 am h0 hres hb ⊢;have c1:(194:Int)≤(b0:Int):=by omega
 have c2:(b0:Int)<224:=by omega
 obtain ⟨R,hR⟩: ∃R,R=runeN (xs.length-i) b0 (bt' xs (i+1)) (bt' xs (i+2)) (bt' xs (i+3)):=⟨_,rfl⟩;rw [←hR] at hres ⊢;replace hR:=Hz hR;replace hb0:=Hz hb0;replace ha:=Hz ha;replace hx:=Hz hx;by_cases hn:xs.length-i<2
 ·rw [if_pos (.inl hn)] at hres;subst hres;have t1:(xs.length:Int)<(i:Int)+2:=by omega
  clear hn;go_enter Tryz.func79,Tryz.ntmps79
  go_wp2;go_ret
  exact ⟨rfl,rfl⟩
 ·have t1: ¬(xs.length:Int)<(i:Int)+2:=by omega
  replace hres:=Hz hres;go_enter Tryz.func79,Tryz.ntmps79
  go_wp2
  go_loopg [8,9] 1 (fun g v8 v9 wr=> ∃k:Nat,v9= .int .i64 (k:Int)∧1≤k∧k+g=2∧v8= .int .i64 (rv xs i a (k-1):Int)∧Hid (∀j,1≤j→j<k→bt' xs (i+j)/64=2)∧rv xs i a (k-1)<32*64^(k-1)∧wr=w)
  case atStart=>exact ⟨1,by go_num,by omega,by omega,rfl,Hz (fun j h1 h2=>absurd h1 (by omega)),by simp [rv];exact ha2,rfl⟩
  case round=>
   obtain ⟨k,rfl,hk1,hk,rfl,hcs,hrl,rfl⟩:=hrel;by_cases hg:gk=0
   ·subst hg;obtain rfl:k=2:=by omega
    have hC:=hcs.out;have hr:=hres.out;rw [if_neg (by have:=hC 1 (by omega) (by omega);omega)] at hr
    have hval:rv xs i a (2-1)=a*64+bt' xs (i+1)%64:=by simp [rv]
    rw [←hval] at hr;have hV:rv xs i a (2-1)<2048:=Nat.lt_of_lt_of_le hrl (by decide)
    generalize rv xs i a (2-1)=V at *
    clear hres hcs hrl hC hval;by_cases d1:V<128
    ·rw [if_pos d1] at hr;subst hr;have e1:(V:Int)<128:=by omega
     go_wp2;go_ret
     exact ⟨rfl,rfl⟩
    ·rw [if_neg d1] at hr;subst hr;have e1: ¬(V:Int)<128:=by omega
     have e2: ¬(1114111:Int)<(V:Int):=by omega
     have e3: ¬(55296:Int)≤(V:Int):=by omega
     go_wp2;go_ret
     exact ⟨rfl,rfl⟩
   ·obtain ⟨g,rfl⟩: ∃g,gk=g+1:=⟨gk-1,by omega⟩
    have hik:i+k<xs.length:=by omega
    have t5:(k:Int)<2:=by omega
    have q3:(i:Int)+(k:Int)<(xs.length:Int):=by omega
    have hxk:=hx.out (i+k) hik;have hbk:=bt_lt xs (i+k);have a1:=and192 (bt' xs (i+k)) hbk;have a2:bits .and .u8 (bt' xs (i+k):Int) 63=((bt' xs (i+k)%64:Nat):Int):=and_low (bt' xs (i+k)) 6 hbk (by omega)
    have hstep:rv xs i a k=rv xs i a (k-1)*64+bt' xs (i+k)%64:=by
     obtain ⟨k',rfl⟩: ∃k',k=k'+1:=⟨k-1,by omega⟩
     rfl
    have hpw:32*64^(k-1)≤2000000:=Nat.le_trans (Nat.mul_le_mul_left _ (Nat.pow_le_pow_right (by decide) (show k-1≤2-2 by omega))) (by decide)
    have hpk:32*64^k=32*64^(k-1)*64:=by rw [Nat.mul_assoc,←Nat.pow_succ];congr 2;omega
    have a3:=or6 (rv xs i a (k-1)) (bt' xs (i+k)%64) (by omega) (by omega)
    have hnew:rv xs i a k<32*64^k:=by rw [hstep,hpk];omega
    obtain ⟨y,hy⟩: ∃y,y=bt' xs (i+k)%64:=⟨_,rfl⟩;obtain ⟨z,hz⟩: ∃z,z=bt' xs (i+k)/64*64:=⟨_,rfl⟩;have hy64:y<64:=by omega
    rw [←hy] at a2 a3 hstep;rw [←hz] at a1;by_cases hbad:bt' xs (i+k)/64=2
    ·have t6:(z:Int)=128:=by omega
     have hcs2:Hid (∀j,1≤j→j<k+1→bt' xs (i+j)/64=2):=Hz (fun j h1 h2=>by
      by_cases e:j=k
      ·subst e;exact hbad
      ·exact hcs.out j h1 (by omega))
     generalize hB:bt' xs (i+k)=bk at *
     rw [←hstep] at a3;have hrl2:rv xs i a (k-1)<2000000:=by omega
     generalize hP:rv xs i a (k-1)=pv at *
     generalize hP2:rv xs i a k=pv2 at *
     replace hB:=Hz hB;replace hP:=Hz hP;replace hstep:=Hz hstep;replace hnew:=Hz hnew;clear hbad hrl hpw hpk hy hz;go_wp2
     go_roundg g
     case measure=>omega
     case rel=>exact ⟨k+1,by go_num,by omega,by omega,by rw [Nat.add_sub_cancel,hP2],hcs2,by rw [Nat.add_sub_cancel,hP2];exact hnew.out,rfl⟩
    ·have t6: ¬(z:Int)=128:=by omega
     have hr:=hres.out;rw [if_pos (.inr (by obtain rfl:k=1:=(by omega);exact hbad))] at hr
     subst hr;generalize bt' xs (i+k)=bk at *
     clear hbad hrl hpw hpk hstep hnew a2 a3 hy hz;go_wp2;go_ret
     exact ⟨rfl,rfl⟩
theorem runeAt3 (xs:List UInt8) (hl:xs.length≤1000000000) (i:Nat) (hi:i<xs.length) (h0:224≤bt' xs i∧bt' xs i<240) (w:World):
  Calls Tryz.prog 79 #[.string ⟨xs.toArray⟩,.int .i64 (i:Int)] w fun e w'=>e= .returned (.int .i64 (runeN (xs.length-i) (bt' xs i) (bt' xs (i+1)) (bt' xs (i+2)) (bt' xs (i+3)):Int))∧w'=w:=by
 have hx: ∀j,(h:j<xs.length)→((⟨xs.toArray⟩:ByteArray)[j]'(by show j<xs.toArray.size;simpa using h)).toNat=bt' xs j:=bt_at xs
 have hi0:=hx i hi;have q1:(i:Int)<(xs.length:Int):=by omega
 have q2:(⟨xs.toArray⟩:ByteArray).size=xs.length:=by simp [ByteArray.size]
 have am:bits .and .u8 (bt' xs i:Int) 15=((bt' xs i%16:Nat):Int):=and_low (bt' xs i) 4 (bt_lt xs i) (by omega)
 have hb:=bt_lt xs i;obtain ⟨a,ha⟩: ∃a,a=bt' xs i%16:=⟨_,rfl⟩;rw [←ha] at am;have ha2:a<16:=by omega
 have hres:runeN (xs.length-i) (bt' xs i) (bt' xs (i+1)) (bt' xs (i+2)) (bt' xs (i+3))=if xs.length-i<3∨bt' xs (i+1)/64≠2∨bt' xs (i+2)/64≠2 then 0 else if (a*64+bt' xs (i+1)%64)*64+bt' xs (i+2)%64<2048∨(55296≤(a*64+bt' xs (i+1)%64)*64+bt' xs (i+2)%64∧(a*64+bt' xs (i+1)%64)*64+bt' xs (i+2)%64<57344) then 0 else 3:=by
  unfold runeN;rw [ha]
  repeat' split
  all_goals first|rfl|(exfalso;omega)
 obtain ⟨b0,hb0⟩: ∃b0,b0=bt' xs i:=⟨_,rfl⟩;rw [←hb0] at hi0 am h0 hres hb ⊢;have c1:(224:Int)≤(b0:Int):=by omega
 have c2:(b0:Int)<240:=by omega
 obtain ⟨R,hR⟩: ∃R,R=runeN (xs.length-i) b0 (bt' xs (i+1)) (bt' xs (i+2)) (bt' xs (i+3)):=⟨_,rfl⟩;rw [←hR] at hres ⊢;replace hR:=Hz hR;replace hb0:=Hz hb0;replace ha:=Hz ha;replace hx:=Hz hx;by_cases hn:xs.length-i<3
 ·rw [if_pos (.inl hn)] at hres;subst hres;have t1:(xs.length:Int)<(i:Int)+3:=by omega
  clear hn;go_enter Tryz.func79,Tryz.ntmps79
  go_wp2;go_ret
  exact ⟨rfl,rfl⟩
 ·have t1: ¬(xs.length:Int)<(i:Int)+3:=by omega
  replace hres:=Hz hres;go_enter Tryz.func79,Tryz.ntmps79
  go_wp2
  go_loopg [8,9] 2 (fun g v8 v9 wr=> ∃k:Nat,v9= .int .i64 (k:Int)∧1≤k∧k+g=3∧v8= .int .i64 (rv xs i a (k-1):Int)∧Hid (∀j,1≤j→j<k→bt' xs (i+j)/64=2)∧rv xs i a (k-1)<16*64^(k-1)∧wr=w)
  case atStart=>exact ⟨1,by go_num,by omega,by omega,rfl,Hz (fun j h1 h2=>absurd h1 (by omega)),by simp [rv];exact ha2,rfl⟩
  case round=>
   obtain ⟨k,rfl,hk1,hk,rfl,hcs,hrl,rfl⟩:=hrel;by_cases hg:gk=0
   ·subst hg;obtain rfl:k=3:=by omega
    have hC:=hcs.out;have hr:=hres.out;rw [if_neg (by have:=hC 1 (by omega) (by omega);have:=hC 2 (by omega) (by omega);omega)] at hr
    have hval:rv xs i a (3-1)=(a*64+bt' xs (i+1)%64)*64+bt' xs (i+2)%64:=by simp [rv]
    rw [←hval] at hr;have hV:rv xs i a (3-1)<65536:=Nat.lt_of_lt_of_le hrl (by decide)
    generalize rv xs i a (3-1)=V at *
    clear hres hcs hrl hC hval;by_cases d1:V<2048
    ·rw [if_pos (.inl d1)] at hr;subst hr;have e1:(V:Int)<2048:=by omega
     go_wp2;go_ret
     exact ⟨rfl,rfl⟩
    ·have e1: ¬(V:Int)<2048:=by omega
     have e2: ¬(1114111:Int)<(V:Int):=by omega
     by_cases d2:55296≤V
     ·have e3:(55296:Int)≤(V:Int):=by omega
      by_cases d3:V<57344
      ·rw [if_pos (.inr ⟨d2,d3⟩)] at hr;subst hr;have e4:(V:Int)<57344:=by omega
       go_wp2;go_ret
       exact ⟨rfl,rfl⟩
      ·rw [if_neg (by omega)] at hr
       subst hr;have e4: ¬(V:Int)<57344:=by omega
       go_wp2;go_ret
       exact ⟨rfl,rfl⟩
     ·rw [if_neg (by omega)] at hr
      subst hr;have e3: ¬(55296:Int)≤(V:Int):=by omega
      go_wp2;go_ret
      exact ⟨rfl,rfl⟩
   ·obtain ⟨g,rfl⟩: ∃g,gk=g+1:=⟨gk-1,by omega⟩
    have hik:i+k<xs.length:=by omega
    have t5:(k:Int)<3:=by omega
    have q3:(i:Int)+(k:Int)<(xs.length:Int):=by omega
    have hxk:=hx.out (i+k) hik;have hbk:=bt_lt xs (i+k);have a1:=and192 (bt' xs (i+k)) hbk;have a2:bits .and .u8 (bt' xs (i+k):Int) 63=((bt' xs (i+k)%64:Nat):Int):=and_low (bt' xs (i+k)) 6 hbk (by omega)
    have hstep:rv xs i a k=rv xs i a (k-1)*64+bt' xs (i+k)%64:=by
     obtain ⟨k',rfl⟩: ∃k',k=k'+1:=⟨k-1,by omega⟩
     rfl
    have hpw:16*64^(k-1)≤2000000:=Nat.le_trans (Nat.mul_le_mul_left _ (Nat.pow_le_pow_right (by decide) (show k-1≤3-2 by omega))) (by decide)
    have hpk:16*64^k=16*64^(k-1)*64:=by rw [Nat.mul_assoc,←Nat.pow_succ];congr 2;omega
    have a3:=or6 (rv xs i a (k-1)) (bt' xs (i+k)%64) (by omega) (by omega)
    have hnew:rv xs i a k<16*64^k:=by rw [hstep,hpk];omega
    obtain ⟨y,hy⟩: ∃y,y=bt' xs (i+k)%64:=⟨_,rfl⟩;obtain ⟨z,hz⟩: ∃z,z=bt' xs (i+k)/64*64:=⟨_,rfl⟩;have hy64:y<64:=by omega
    rw [←hy] at a2 a3 hstep;rw [←hz] at a1;by_cases hbad:bt' xs (i+k)/64=2
    ·have t6:(z:Int)=128:=by omega
     have hcs2:Hid (∀j,1≤j→j<k+1→bt' xs (i+j)/64=2):=Hz (fun j h1 h2=>by
      by_cases e:j=k
      ·subst e;exact hbad
      ·exact hcs.out j h1 (by omega))
     generalize hB:bt' xs (i+k)=bk at *
     rw [←hstep] at a3;have hrl2:rv xs i a (k-1)<2000000:=by omega
     generalize hP:rv xs i a (k-1)=pv at *
     generalize hP2:rv xs i a k=pv2 at *
     replace hB:=Hz hB;replace hP:=Hz hP;replace hstep:=Hz hstep;replace hnew:=Hz hnew;clear hbad hrl hpw hpk hy hz;go_wp2
     go_roundg g
     case measure=>omega
     case rel=>exact ⟨k+1,by go_num,by omega,by omega,by rw [Nat.add_sub_cancel,hP2],hcs2,by rw [Nat.add_sub_cancel,hP2];exact hnew.out,rfl⟩
    ·have t6: ¬(z:Int)=128:=by omega
     have hr:=hres.out;rw [if_pos (.inr (by rcases (show k=1∨k=2 by omega) with rfl|rfl;exact .inl hbad;exact .inr hbad))] at hr
     subst hr;generalize bt' xs (i+k)=bk at *
     clear hbad hrl hpw hpk hstep hnew a2 a3 hy hz;go_wp2;go_ret
     exact ⟨rfl,rfl⟩
theorem runeAt4 (xs:List UInt8) (hl:xs.length≤1000000000) (i:Nat) (hi:i<xs.length) (h0:240≤bt' xs i∧bt' xs i<245) (w:World):
  Calls Tryz.prog 79 #[.string ⟨xs.toArray⟩,.int .i64 (i:Int)] w fun e w'=>e= .returned (.int .i64 (runeN (xs.length-i) (bt' xs i) (bt' xs (i+1)) (bt' xs (i+2)) (bt' xs (i+3)):Int))∧w'=w:=by
 have hx: ∀j,(h:j<xs.length)→((⟨xs.toArray⟩:ByteArray)[j]'(by show j<xs.toArray.size;simpa using h)).toNat=bt' xs j:=bt_at xs
 have hi0:=hx i hi;have q1:(i:Int)<(xs.length:Int):=by omega
 have q2:(⟨xs.toArray⟩:ByteArray).size=xs.length:=by simp [ByteArray.size]
 have am:bits .and .u8 (bt' xs i:Int) 7=((bt' xs i%8:Nat):Int):=and_low (bt' xs i) 3 (bt_lt xs i) (by omega)
 have hb:=bt_lt xs i;obtain ⟨a,ha⟩: ∃a,a=bt' xs i%8:=⟨_,rfl⟩;rw [←ha] at am;have ha2:a<8:=by omega
 have hres:runeN (xs.length-i) (bt' xs i) (bt' xs (i+1)) (bt' xs (i+2)) (bt' xs (i+3))=if xs.length-i<4∨bt' xs (i+1)/64≠2∨bt' xs (i+2)/64≠2∨bt' xs (i+3)/64≠2 then 0 else if ((a*64+bt' xs (i+1)%64)*64+bt' xs (i+2)%64)*64+bt' xs (i+3)%64<65536∨1114111<((a*64+bt' xs (i+1)%64)*64+bt' xs (i+2)%64)*64+bt' xs (i+3)%64 then 0 else 4:=by
  unfold runeN;rw [ha]
  repeat' split
  all_goals first|rfl|(exfalso;omega)
 obtain ⟨b0,hb0⟩: ∃b0,b0=bt' xs i:=⟨_,rfl⟩;rw [←hb0] at hi0 am h0 hres hb ⊢;have c1:(240:Int)≤(b0:Int):=by omega
 have c2:(b0:Int)<245:=by omega
 obtain ⟨R,hR⟩: ∃R,R=runeN (xs.length-i) b0 (bt' xs (i+1)) (bt' xs (i+2)) (bt' xs (i+3)):=⟨_,rfl⟩;rw [←hR] at hres ⊢;replace hR:=Hz hR;replace hb0:=Hz hb0;replace ha:=Hz ha;replace hx:=Hz hx;by_cases hn:xs.length-i<4
 ·rw [if_pos (.inl hn)] at hres;subst hres;have t1:(xs.length:Int)<(i:Int)+4:=by omega
  clear hn;go_enter Tryz.func79,Tryz.ntmps79
  go_wp2;go_ret
  exact ⟨rfl,rfl⟩
 ·have t1: ¬(xs.length:Int)<(i:Int)+4:=by omega
  replace hres:=Hz hres;go_enter Tryz.func79,Tryz.ntmps79
  go_wp2
  go_loopg [8,9] 3 (fun g v8 v9 wr=> ∃k:Nat,v9= .int .i64 (k:Int)∧1≤k∧k+g=4∧v8= .int .i64 (rv xs i a (k-1):Int)∧Hid (∀j,1≤j→j<k→bt' xs (i+j)/64=2)∧rv xs i a (k-1)<8*64^(k-1)∧wr=w)
  case atStart=>exact ⟨1,by go_num,by omega,by omega,rfl,Hz (fun j h1 h2=>absurd h1 (by omega)),by simp [rv];exact ha2,rfl⟩
  case round=>
   obtain ⟨k,rfl,hk1,hk,rfl,hcs,hrl,rfl⟩:=hrel;by_cases hg:gk=0
   ·subst hg;obtain rfl:k=4:=by omega
    have hC:=hcs.out;have hr:=hres.out;rw [if_neg (by have:=hC 1 (by omega) (by omega);have:=hC 2 (by omega) (by omega);have:=hC 3 (by omega) (by omega);omega)] at hr
    have hval:rv xs i a (4-1)=((a*64+bt' xs (i+1)%64)*64+bt' xs (i+2)%64)*64+bt' xs (i+3)%64:=by simp [rv]
    rw [←hval] at hr;have hV:rv xs i a (4-1)<2097152:=Nat.lt_of_lt_of_le hrl (by decide)
    generalize rv xs i a (4-1)=V at *
    clear hres hcs hrl hC hval;by_cases d1:V<65536
    ·rw [if_pos (.inl d1)] at hr;subst hr;have e1:(V:Int)<65536:=by omega
     go_wp2;go_ret
     exact ⟨rfl,rfl⟩
    ·have e1: ¬(V:Int)<65536:=by omega
     by_cases d2:1114111<V
     ·rw [if_pos (.inr d2)] at hr;subst hr;have e2:(1114111:Int)<(V:Int):=by omega
      go_wp2;go_ret
      exact ⟨rfl,rfl⟩
     ·rw [if_neg (by omega)] at hr
      subst hr;have e2: ¬(1114111:Int)<(V:Int):=by omega
      have e3:(55296:Int)≤(V:Int):=by omega
      have e4: ¬(V:Int)<57344:=by omega
      go_wp2;go_ret
      exact ⟨rfl,rfl⟩
   ·obtain ⟨g,rfl⟩: ∃g,gk=g+1:=⟨gk-1,by omega⟩
    have hik:i+k<xs.length:=by omega
    have t5:(k:Int)<4:=by omega
    have q3:(i:Int)+(k:Int)<(xs.length:Int):=by omega
    have hxk:=hx.out (i+k) hik;have hbk:=bt_lt xs (i+k);have a1:=and192 (bt' xs (i+k)) hbk;have a2:bits .and .u8 (bt' xs (i+k):Int) 63=((bt' xs (i+k)%64:Nat):Int):=and_low (bt' xs (i+k)) 6 hbk (by omega)
    have hstep:rv xs i a k=rv xs i a (k-1)*64+bt' xs (i+k)%64:=by
     obtain ⟨k',rfl⟩: ∃k',k=k'+1:=⟨k-1,by omega⟩
     rfl
    have hpw:8*64^(k-1)≤2000000:=Nat.le_trans (Nat.mul_le_mul_left _ (Nat.pow_le_pow_right (by decide) (show k-1≤4-2 by omega))) (by decide)
    have hpk:8*64^k=8*64^(k-1)*64:=by rw [Nat.mul_assoc,←Nat.pow_succ];congr 2;omega
    have a3:=or6 (rv xs i a (k-1)) (bt' xs (i+k)%64) (by omega) (by omega)
    have hnew:rv xs i a k<8*64^k:=by rw [hstep,hpk];omega
    obtain ⟨y,hy⟩: ∃y,y=bt' xs (i+k)%64:=⟨_,rfl⟩;obtain ⟨z,hz⟩: ∃z,z=bt' xs (i+k)/64*64:=⟨_,rfl⟩;have hy64:y<64:=by omega
    rw [←hy] at a2 a3 hstep;rw [←hz] at a1;by_cases hbad:bt' xs (i+k)/64=2
    ·have t6:(z:Int)=128:=by omega
     have hcs2:Hid (∀j,1≤j→j<k+1→bt' xs (i+j)/64=2):=Hz (fun j h1 h2=>by
      by_cases e:j=k
      ·subst e;exact hbad
      ·exact hcs.out j h1 (by omega))
     generalize hB:bt' xs (i+k)=bk at *
     rw [←hstep] at a3;have hrl2:rv xs i a (k-1)<2000000:=by omega
     generalize hP:rv xs i a (k-1)=pv at *
     generalize hP2:rv xs i a k=pv2 at *
     replace hB:=Hz hB;replace hP:=Hz hP;replace hstep:=Hz hstep;replace hnew:=Hz hnew;clear hbad hrl hpw hpk hy hz;go_wp2
     go_roundg g
     case measure=>omega
     case rel=>exact ⟨k+1,by go_num,by omega,by omega,by rw [Nat.add_sub_cancel,hP2],hcs2,by rw [Nat.add_sub_cancel,hP2];exact hnew.out,rfl⟩
    ·have t6: ¬(z:Int)=128:=by omega
     have hr:=hres.out;rw [if_pos (.inr (by rcases (show k=1∨k=2∨k=3 by omega) with rfl|rfl|rfl;exact .inl hbad;exact .inr (.inl hbad);exact .inr (.inr hbad)))] at hr
     subst hr;generalize bt' xs (i+k)=bk at *
     clear hbad hrl hpw hpk hstep hnew a2 a3 hy hz;go_wp2;go_ret
     exact ⟨rfl,rfl⟩
theorem runeAt (xs:List UInt8) (hl:xs.length≤1000000000) (i:Nat) (hi:i<xs.length) (w:World):
  Calls Tryz.prog 79 #[.string ⟨xs.toArray⟩,.int .i64 (i:Int)] w fun e w'=>e= .returned (.int .i64 (runeN (xs.length-i) (bt' xs i) (bt' xs (i+1)) (bt' xs (i+2)) (bt' xs (i+3)):Int))∧w'=w:=by
 by_cases h2:194≤bt' xs i∧bt' xs i<224
 ·exact runeAt2 xs hl i hi h2 w
 ·by_cases h3:224≤bt' xs i∧bt' xs i<240
  ·exact runeAt3 xs hl i hi h3 w
  ·by_cases h4:240≤bt' xs i∧bt' xs i<245
   ·exact runeAt4 xs hl i hi h4 w
   ·have hi0:=bt_at xs i hi;have q1:(i:Int)<(xs.length:Int):=by omega
    have q2:(⟨xs.toArray⟩:ByteArray).size=xs.length:=by simp [ByteArray.size]
    by_cases h1:bt' xs i<128
    ·have hr:runeN (xs.length-i) (bt' xs i) (bt' xs (i+1)) (bt' xs (i+2)) (bt' xs (i+3))=1:=by unfold runeN;rw [if_pos h1]
     rw [hr];generalize bt' xs i=b0 at *
     have c1:(b0:Int)<128:=by omega
     clear h2 h3 h4 hr;go_enter Tryz.func79,Tryz.ntmps79
     go_wp2;go_ret
     exact ⟨rfl,rfl⟩
    ·have hr:runeN (xs.length-i) (bt' xs i) (bt' xs (i+1)) (bt' xs (i+2)) (bt' xs (i+3))=0:=by unfold runeN;rw [if_neg h1,if_neg h2,if_neg h3,if_neg h4]
     rw [hr];generalize bt' xs i=b0 at *
     have c1: ¬(b0:Int)<128:=by omega
     clear hr;by_cases h5:b0<194
     ·have c2: ¬(194:Int)≤(b0:Int):=by omega
      have c3: ¬(224:Int)≤(b0:Int):=by omega
      have c4: ¬(240:Int)≤(b0:Int):=by omega
      clear h2 h3 h4;go_enter Tryz.func79,Tryz.ntmps79
      go_wp2;go_ret
      exact ⟨rfl,rfl⟩
     ·have c2: ¬(b0:Int)<224:=by omega
      have c3: ¬(b0:Int)<240:=by omega
      have c4: ¬(b0:Int)<245:=by omega
      clear h2 h3 h4;go_enter Tryz.func79,Tryz.ntmps79
      go_wp2;go_ret
      exact ⟨rfl,rfl⟩
theorem valid_at (xs:List UInt8) (i:Nat) (hi:i<xs.length):Lib.validD (xs.drop i)=if runeN (xs.length-i) (bt' xs i) (bt' xs (i+1)) (bt' xs (i+2)) (bt' xs (i+3))=0 then false else Lib.validD (xs.drop (i+runeN (xs.length-i) (bt' xs i) (bt' xs (i+1)) (bt' xs (i+2)) (bt' xs (i+3)))):=by
 have hne:xs.drop i≠[]:=by intro e;have:=List.drop_eq_nil_iff.1 e;omega
 have hd:Lib.decodeL (xs.drop i)=Lib.decodeN (xs.length-i) (bt' xs i) (bt' xs (i+1)) (bt' xs (i+2)) (bt' xs (i+3)):=by
  unfold Lib.decodeL;rw [Lib.decode_at];have hg: ∀j,((⟨(xs.drop i).toArray⟩:ByteArray).get! j).toNat=bt' xs (i+j):=by
   intro j;unfold bt'
   show (((xs.drop i).toArray)[j]!).toNat=_
   congr 1
   rw [List.getD_eq_getElem?_getD,←List.getElem?_drop];simp [getElem!_def]
   rfl
  rw [hg,hg,hg,hg];have hs:(⟨(xs.drop i).toArray⟩:ByteArray).size=xs.length-i:=by simp [ByteArray.size]
  rw [hs]
  rfl
 rw [Lib.validD_step _ hne,hd,runeN_eq _ _ _ _ _ (by omega) (bt_lt _ _) (bt_lt _ _) (bt_lt _ _) (bt_lt _ _)]
 have hw:=Lib.decodeL_width (xs.drop i);rw [hd] at hw;generalize Lib.decodeN (xs.length-i) (bt' xs i) (bt' xs (i+1)) (bt' xs (i+2)) (bt' xs (i+3))=p at *
 by_cases h:p.1=65533∧p.2=1
 ·rw [if_pos h,if_pos h];simp
 ·rw [if_neg h,if_neg h,if_neg (by omega),List.drop_drop]
theorem valid (xs:List UInt8) (hl:xs.length≤1000000000) (w:World):
  Calls Tryz.prog 50 #[.string ⟨xs.toArray⟩] w fun e w'=>e= .returned (.bool (Lib.validD xs))∧w'=w:=by
 generalize hV:Lib.validD xs=V;replace hV:=Hz hV;go_enter Tryz.func50,Tryz.ntmps50
 go_wp2
 go_loopg [3] (xs.length+1) (fun g v3 wr=> ∃i:Nat,v3= .int .i64 (i:Int)∧i≤xs.length+4∧xs.length<i+g∧Hid (V=Lib.validD (xs.drop i))∧wr=w)
 case atStart=>exact ⟨0,by go_num,by omega,by omega,Hz (by rw [List.drop_zero,hV.out]),rfl⟩
 case round=>
  obtain ⟨i,rfl,hi4,hg,hVi,rfl⟩:=hrel;by_cases hi:i<xs.length
  ·have t1:(i:Int)<(xs.length:Int):=by omega
   have hv:=hVi.out;rw [valid_at xs i hi] at hv;have K:=runeAt xs hl i hi wr;have hrl:runeN (xs.length-i) (bt' xs i) (bt' xs (i+1)) (bt' xs (i+2)) (bt' xs (i+3))≤4:=by unfold runeN;repeat' split<;>try omega
   generalize runeN (xs.length-i) (bt' xs i) (bt' xs (i+1)) (bt' xs (i+2)) (bt' xs (i+3))=n at *
   replace K:=Hz K;obtain ⟨g,rfl⟩: ∃g,gk=g+1:=⟨gk-1,by omega⟩
   by_cases hn:n=0
   ·subst hn;rw [if_pos rfl] at hv;subst hv;clear hVi;go_wp2_with fail
    refine K.out.mono ?_
    rintro e w1 ⟨rfl,rfl⟩;go_wp2;go_ret
    exact ⟨rfl,rfl⟩
   ·rw [if_neg hn] at hv;have t2: ¬(n:Int)=0:=by omega
    replace hv:=Hz hv;clear hVi;go_wp2_with fail
    refine K.out.mono ?_
    rintro e w1 ⟨rfl,rfl⟩;go_wp2
    go_roundg g
    case measure=>omega
    case rel=>exact ⟨i+n,by go_num,by omega,by omega,hv,rfl⟩
  ·have t1: ¬(i:Int)<(xs.length:Int):=by omega
   have hv:=hVi.out;rw [List.drop_eq_nil_of_le (by omega)] at hv
   obtain rfl:V=true:=hv;clear hVi;go_wp2;go_ret
   exact ⟨rfl,rfl⟩
end
section
open Go.RowKit
theorem at_head {S R:List UInt8} {k:Nat} {x:UInt8} (h:S.drop k=x::R):k<S.length∧bt' S k=x.toNat∧S.drop (k+1)=R:=by
 have hk:k<S.length:=by
  rcases Nat.lt_or_ge k S.length with h1|h1
  ·exact h1
  ·rw [List.drop_eq_nil_of_le h1] at h;cases h
 rw [List.drop_eq_getElem_cons hk] at h;injection h with h1 h2
 refine ⟨hk,?_,h2⟩
 unfold bt';rw [List.getD_eq_getElem?_getD,List.getElem?_eq_getElem hk,h1]
 rfl
theorem at_app {S A R:List UInt8} {k:Nat} (h:S.drop k=A++R):S.drop (k+A.length)=R:=by
 rw [←List.drop_drop,h,List.drop_left]
theorem ext_at (S:List UInt8) (a b:Nat):(⟨S.toArray⟩:ByteArray).extract a b=⟨((S.drop a).take (b-a)).toArray⟩:=by
 apply ByteArray.ext
 rw [ByteArray.data_extract];apply Array.ext'
 simp [List.extract_eq_take_drop]
def digV (c:Nat):Int:=if 48≤c∧c≤57 then (c:Int)-48 else if 97≤c∧c≤102 then (c:Int)-87 else if 65≤c∧c≤70 then (c:Int)-55 else-1
def hex4 (v:Nat):List UInt8:=hexB hexD [(v/256).toUInt8,v.toUInt8]
theorem dig_hex: ∀k,k<16→digV (hexD.getD k 0).toNat=(k:Int):=by decide
theorem hex4_eq (v:Nat): ∃a b c d:UInt8,hex4 v=[a,b,c,d]∧digV a.toNat=((v/4096%16:Nat):Int)∧digV b.toNat=((v/256%16:Nat):Int)∧digV c.toNat=((v/16%16:Nat):Int)∧digV d.toNat=((v%16:Nat):Int):=by
 have e1:(v/256).toUInt8.toNat=v/256%256:=by simp
 have e2:v.toUInt8.toNat=v%256:=by simp
 refine ⟨_,_,_,_,rfl,?_,?_,?_,?_⟩
 ·rw [e1,dig_hex _ (by omega)];omega
 ·rw [e1,dig_hex _ (by omega)];omega
 ·rw [e2,dig_hex _ (by omega)];omega
 ·rw [e2,dig_hex _ (by omega)];omega
def runeD (c:Nat):List UInt8:=if c<65536 then hex4 c else hex4 (55296+(c-65536)/1024)++92::117::hex4 (56320+(c-65536)%1024)
theorem runeT_eq (c:Nat):runeT c=92::117::runeD c:=by
 unfold runeT runeD
 split<;>rfl
theorem hex4_len (v:Nat):(hex4 v).length=4:=by simp [hex4,hexB]
def Scal (c:Nat):Prop:=c<1114112∧ ¬(55296≤c∧c<57344)
theorem utf8_enc {c:Nat} (h:Scal c):Utf8.encode (c:Int)=⟨(Lib.encodeRune (c:Int)).toArray⟩:=by
 obtain ⟨h1,h2⟩:=h;have hv:Utf8.valid (c:Int)=true:=by
  unfold Utf8.valid;rw [Bool.or_eq_true,Bool.and_eq_true,Bool.and_eq_true,decide_eq_true_eq,decide_eq_true_eq,decide_eq_true_eq,decide_eq_true_eq];omega
 unfold Utf8.encode Lib.encodeRune;simp only [hv,if_true,Int.toNat_natCast];by_cases a:c<128
 ·rw [if_pos a,Lib.encodeRuneZ_one (by omega) (by omega)]
  simp
 ·rw [if_neg a];by_cases b:c<2048
  ·rw [if_pos b,Lib.encodeRuneZ_two (by omega) (by omega)]
   simp only [List.map_cons,List.map_nil];rw [show (192+(c:Int)/64).toNat=192+c/64 by omega,show (128+(c:Int)%64).toNat=128+c%64 by omega]
  ·rw [if_neg b];by_cases d:c<65536
   ·rw [if_pos d,Lib.encodeRuneZ_three (by omega)]
    simp only [List.map_cons,List.map_nil];rw [show (224+(c:Int)/4096).toNat=224+c/4096 by omega,show (128+(c:Int)/64%64).toNat=128+c/64%64 by omega,show (128+(c:Int)%64).toNat=128+c%64 by omega]
   ·rw [if_neg d,Lib.encodeRuneZ_four (by omega) (by omega)]
    simp only [List.map_cons,List.map_nil];rw [show (240+(c:Int)/262144).toNat=240+c/262144 by omega,show (128+(c:Int)/4096%64).toNat=128+c/4096%64 by omega,show (128+(c:Int)/64%64).toNat=128+c/64%64 by omega,show (128+(c:Int)%64).toNat=128+c%64 by omega]
theorem dec_scal (l:List UInt8):Scal (Lib.decodeL l).1:=by
 rw [Lib.decodeL_N];have k0:=(l.getD 0 0).toNat_lt;have k1:=(l.getD 1 0).toNat_lt;have k2:=(l.getD 2 0).toNat_lt;have k3:=(l.getD 3 0).toNat_lt;unfold Scal;rcases Lib.decodeN_shape l.length (l.getD 0 0).toNat (l.getD 1 0).toNat (l.getD 2 0).toNat (l.getD 3 0).toNat with ⟨c,e⟩|⟨c1,c2,c3,cv,e⟩|⟨c1,c2,c3,c4,cv,cs,e⟩|⟨c1,c2,c3,c4,c5,cv,cw,e⟩|e
 all_goals
  rw [e];dsimp only;omega
theorem enc_ascii (c:UInt8) (h:c.toNat<128):Lib.encodeRune (c.toNat:Int)=[c]:=by
 unfold Lib.encodeRune;rw [Lib.encodeRuneZ_one (by omega) (by omega)]
 simp
inductive Part (q:UInt8):List UInt8→List UInt8→Prop
 |same (c:UInt8) (h1:c≠92) (h2:c≠q):Part q [c] [c]
 |esc (c x:UInt8) (h:(x=116∧c=9)∨(x=110∧c=10)∨(x=114∧c=13)∨(x=c∧(c=92∨c=q))):Part q [92,x] [c]
 |num (c:Nat) (h:Scal c):Part q (92::117::runeD c) (Lib.encodeRune (c:Int))
theorem txt_part {q:UInt8} (n:Nat) (l:List UInt8) (hn:l.length≤n) (hl:l≠[]) (hv:Lib.validD l=true):
  ∃A T n' l',l=A++l'∧txtE q n l=T++txtE q n' l'∧l'.length≤n'∧A≠[]∧Lib.validD l'=true∧Part q T A:=by
 match n,l,hl,hn with
 |0,l,hl,hn=>exact absurd (List.eq_nil_of_length_eq_zero (by omega)) hl
 |n+1,[],hl,_=>exact absurd rfl hl
 |n+1,c::t,_,hn=>
  rw [List.length_cons] at hn;rw [txtE];by_cases hc:c.toNat<128
  ·rw [if_pos hc];refine ⟨[c],escT q c,n,t,rfl,rfl,by omega,by simp,by rw [←Lib.validD_cons c t hc];exact hv,?_⟩
   have e0:u16T c.toNat=92::117::runeD c.toNat:=by
    unfold runeD;rw [if_pos (by omega)]
    rfl
   have hP:Part q (u16T c.toNat) [c]:=by
    rw [e0,←enc_ascii c hc];exact .num c.toNat ⟨by omega,by omega⟩
   unfold escT
   split
   ·rename_i h;exact .esc c 116 (.inl ⟨rfl,h⟩)
   ·split
    ·rename_i h;exact .esc c 110 (.inr (.inl ⟨rfl,h⟩))
    ·split
     ·rename_i h;exact .esc c 114 (.inr (.inr (.inl ⟨rfl,h⟩)))
     ·split
      ·rename_i h;exact .esc c c (.inr (.inr (.inr ⟨rfl,h⟩)))
      ·rename_i h
       split
       ·exact .same c (fun e=>h (.inl e)) (fun e=>h (.inr e))
       ·exact hP
  ·rw [if_neg hc];have hw:=Lib.decodeL_width (c::t);have hv2:=Lib.validD_step (c::t) (by simp)
   rw [hv] at hv2;by_cases hb:(Lib.decodeL (c::t)).1=65533∧(Lib.decodeL (c::t)).2=1
   ·rw [if_pos hb] at hv2;cases hv2
   ·rw [if_neg hb] at hv2;refine ⟨(c::t).take (Lib.decodeL (c::t)).2,runeT (Lib.decodeL (c::t)).1,n,(c::t).drop (Lib.decodeL (c::t)).2,(List.take_append_drop _ _).symm,rfl,by rw [List.length_drop,List.length_cons];omega,?_,hv2.symm,?_⟩
    ·obtain ⟨k,hk⟩: ∃k,(Lib.decodeL (c::t)).2=k+1:=⟨_,(Nat.sub_add_cancel hw).symm⟩;rw [hk];simp
    ·rw [runeT_eq,←Lib.encode_decode _ (by simp) hb]
     exact .num _ (dec_scal _)
end
section
open Go.RowKit
theorem gn_ks (t:Tr):(gn t).ks=gns t.ks:=by
 cases t<;>simp [gn,Gn.ks,Tr.ks,gns]
theorem gns_get: ∀(l:List Tr) (j:Nat),(gns l)[j]? =l[j]?.map gn
 |[],j=>by simp [gns]
 |t::l,0=>by simp [gns]
 |t::l,j+1=>by simp [gns,gns_get l j]
end
section
open Go.RowKit
theorem at_blk {w:World} {b:Nat} {cs:List Value} {t:TypeId} {fr:Nat×Nat} (h:w.heap[b]? =some (.cells cs.toArray t fr)):At w b 0 cs:=fun j u hu=>by
 rw [Nat.zero_add,cell_blk h]
 simpa using hu
theorem append_block {P:Program} {w:World} {base t ty e:TypeId} {i:TypeInfo} {z:Value} (ht:P.underlying t=some (.slice e)) (hi:P.info? e=some i) (hz:i.zero=some z) {size bytes:Nat} (hsize:i.size=size) (hby:i.bytes=bytes) (hsz:0<size)
  {v:Value} {n:Nat} {xs:List Value} (hown:w.ownsRow base e size v n xs) {a:Addr} {c:Nat} {news:List Value} (hl:news.length=1*size) (hnews: ∀j u,news[j]? =some u→w.cell? (a.add j)=some u) (h1: ∀u∈news,u.oneCell'=true)
  (h63:n+1≤maxLen) (hbytes:(n+1)*bytes≤140737488355328) {v':Value} {w':World} (hr:(Builtin.append_ #[t,t] ty #[v,.slice (some a) 1 c]).run P w= .ok v' w'):v'.ownBlock=v.ownBlock∨v'.ownBlock=some w.heap.size:=by
 subst hsize;subst hby;have hsmall:n+1≤9223372036854775807:=by simp only [maxLen] at h63;omega
 rcases hown.2 with ⟨rfl,rfl⟩|⟨g,cap,cur,rfl,hbg,hg,hnc,hcm,hcs,htake⟩
 ·have h2:=run_append_nil (P:=P) w t ty e i z ht hi hz a 1 c news hl hnews (by omega) (by omega) (by have hb:=hbytes;simp only [Nat.zero_add] at hb;omega)
  rw [h2] at hr;injection hr with e1 e2
  subst e1;exact .inr rfl
 ·by_cases hroom:n+1≤cap
  ·have hfit:n*i.size+news.length≤cur.size:=by rw [hl,hcs,←Nat.add_mul];exact Nat.mul_le_mul_right _ hroom
   have h2:=run_append_room (P:=P) w t ty e i ht hi g n cap cur hg a 1 c news hl hnews h1 hroom hfit;rw [h2] at hr;injection hr with e1 e2
   subst e1;exact .inl rfl
  ·have holds: ∀j u,xs[j]? =some u→w.cell? ((⟨g,0,none⟩:Addr).add j)=some u:=hown.cells (g:=g) rfl;have h2:=run_append_grow (P:=P) w t ty e i z ht hi hz ⟨g,0,none⟩ n cap xs hown.1 holds a 1 c news hl hnews (by omega) (by omega) (growslice_fits (by omega) hbytes)
   rw [h2] at hr;injection hr with e1 e2
   subst e1;exact .inr rfl
theorem Tryz.info45:(Tryz.prog.info? 45).map (fun i=>(i.zero,i.size,i.bytes))=some (some (.agg #[.int .i64 0,.int .u64 0,.int .i64 0,.bool false,.bool false,.bool false,.string ⟨#[]⟩,.slice none 0 0]),8,72):=by kernel_rfl
theorem wpList_apNode {w:World} {ops:Array Oper} {rest:List Oper} {o:Oper} {a:Act} {Q:Exit→Act→World→Prop} (hgd:o.guard=none) (x y:Operand) (ho:o.op= .call {callee:= .builtin .append,args:= #[x,y],argTypes:= #[43,43]})
  {B:Nat} (v:Value) (l:List Gn) (g:Gn) (kv:Value) (b c:Nat) (hs:a.eval x=v) (hx:a.eval y= .slice (some ⟨b,0,none⟩) 1 c) (hr:At w b 0 (nd g kv)) (hown:KidRow w 45 B v l)
  (hk: ∃bl,(∀d,d∈bl→B≤d∧d<w.heap.size∧v.ownBlock≠some d)∧NdV w bl g kv) (hB:B≤w.heap.size) (hl:l.length+1≤1000000000000)
  (h: ∀v' w',KidRow w' 45 B v' (l++[g])→w.grownBy w' v.ownBlock→wpList Tryz.prog ops Q rest (a.put o.dst v') w'):wpList Tryz.prog ops Q (o::rest) a w:=by
 obtain ⟨i0,hi,hzz⟩:=Option.map_eq_some_iff.1 Tryz.info45;simp only [Prod.mk.injEq] at hzz;obtain ⟨hz0,hz1,hz2⟩:=hzz;obtain ⟨cs,bl,c1,c2,c3⟩:=hown;obtain ⟨bl2,d1,d2⟩:=hk;have hsl:=d2.slice;have hone: ∀u∈nd g kv,u.oneCell'=true:=by
  obtain ⟨ao,n,c,rfl⟩:=hsl;intro u hu;simp [nd] at hu;rcases hu with rfl|rfl|rfl|rfl|rfl|rfl|rfl|rfl<;>rfl
 have hn8:(nd g kv).length=1*8:=by simp [nd]
 have hcell: ∀j u,(nd g kv)[j]? =some u→w.cell? ((⟨b,0,none⟩:Addr).add j)=some u:=fun j u hu=>by
  have ha:(⟨b,0,none⟩:Addr).add j=⟨b,0+j,none⟩:=by unfold Addr.add;split<;>simp_all
  rw [ha];exact hr j u hu
 obtain ⟨v',w',hrun,e1,e2,_⟩:=run_append_own (P:=Tryz.prog) w B 43 o.type 45 i0 _ 8 72 Tryz.underlying43 hi hz0 hz1 hz2 rfl (by decide) v l.length cs c1 ⟨b,0,none⟩ 1 c (nd g kv) hn8 hcell hone (by simp only [maxLen];omega) (by omega) hB
 have e3:=append_block (P:=Tryz.prog) Tryz.underlying43 hi hz0 hz1 hz2 (by decide) c1 hn8 hcell hone (by simp only [maxLen];omega) (by omega) hrun
 have e4:KidRow w' 45 B v' (l++[g]):=by
  refine ⟨cs++nd g kv,bl++bl2,by rw [List.length_append];exact e1,fun d hd=> ?_,AllNd.snoc (NdV.fr (fun d hd=>e2.block d (d1 d hd).2.1 (fun e=>(d1 d hd).2.2 e.symm)) (fun d hd=>by simp [hd]) g kv d2) l cs (AllNd.fr (fun d hd=>e2.block d (c2 d hd).2.1 (fun e=>(c2 d hd).2.2 e.symm)) (fun d hd=>by simp [hd]) l cs c3)⟩
  have hd':B≤d∧d<w.heap.size∧v.ownBlock≠some d:=by
   rcases List.mem_append.1 hd with hd|hd
   ·exact c2 d hd
   ·exact d1 d hd
  refine ⟨hd'.1,Nat.lt_of_lt_of_le hd'.2.1 e2.size,fun e=> ?_⟩
  rcases e3 with e3|e3
  ·exact hd'.2.2 (e3▸e)
  ·rw [e3] at e;injection e with e
   omega
 refine wpList_plain hgd fun _ hK=> ?_
 unfold Oper.wp execOp;simp only [ho,resolve,invoke,builtin,Sem.run_bind,Sem.run_pure,Result.andThen_ok,List.map_toArray,List.map_cons,List.map_nil,hs,hx,hrun];exact hK _ _ (h v' w' e4 e2)
def TreeP (xs:List UInt8) (r:Option (Tr×Nat)) (w:World) (e:Ending) (w':World):Prop:=
 ∃g kv rest,e= .returned (.tuple #[.agg (nd g kv).toArray,.string rest,.bool r.isSome])∧Fr [] w w'∧(∃ao n c,kv= .slice ao n c)∧
  ∀t o,r=some (t,o)→rest=⟨(xs.drop o).toArray⟩∧g=gn t∧o≤xs.length∧ ∃bl,(∀b,b∈bl→w.heap.size≤b∧b<w'.heap.size)∧NdV w' bl g kv
def KidsP (xs:List UInt8) (m nn:Nat) (o:Bool) (r:Option (List Tr×Nat)) (w:World) (e:Ending) (w':World):Prop:=
 ∃g kv rest,e= .returned (.tuple #[.agg (nd g kv).toArray,.string rest,.bool r.isSome])∧Fr [] w w'∧(∃ao n c,kv= .slice ao n c)∧
  ∀l off,r=some (l,off)→rest=⟨(xs.drop off).toArray⟩∧g= .mk m nn 0 o false false [] (gns l)∧off≤xs.length∧ ∃bl,(∀b,b∈bl→w.heap.size≤b∧b<w'.heap.size)∧NdV w' bl g kv
theorem nd_mk (a b c:Nat) (d e f:Bool) (t:List UInt8) (l:List Gn) (kv:Value):(nd (.mk a b c d e f t l) kv).toArray= #[.int .i64 (a:Int),.int .u64 (b:Int),.int .i64 (c:Int),.bool d,.bool e,.bool f,.string ⟨t.toArray⟩,kv]:=rfl
def zeroG:Gn:= .mk 0 0 0 false false false [] []
theorem kidsF_step (f:Nat→Option (Tr×Nat)) (k off:Nat):kidsF f (k+1) off=(f off).bind fun q=>(kidsF f k q.2).map fun r=>(q.1::r.1,r.2):=by
 rw [kidsF];cases f off with
 |none=>rfl
 |some q=>
  obtain ⟨t,o⟩:=q;dsimp only [Option.bind];cases kidsF f k o with
  |none=>rfl
  |some r=>rfl
theorem map_map_app (l:List Tr) (t:Tr) (p:Option (List Tr×Nat)):(p.map fun r=>(t::r.1,r.2)).map (fun r=>(l++r.1,r.2))=p.map fun r=>(l++[t]++r.1,r.2):=by
 cases p with
 |none=>rfl
 |some r=>simp
theorem kids_out {w wr W:World} {S:List Nat} {kv:Value} {ks:List Gn} (hrow:KidRow wr 45 (w.heap.size+2) kv ks) (hW:Fr S wr W) (hS: ∀s,s∈S→s<w.heap.size+2) (g:Gn) (hg:g.ks=ks):
  ∃bl,(∀b,b∈bl→w.heap.size≤b∧b<W.heap.size)∧NdV W bl g kv:=by
 obtain ⟨bl,h1,h2⟩:=(hrow.fr hW hS).kids;exact ⟨bl,fun b hb=>⟨by have:=h1 b hb;omega,(h1 b hb).2⟩,(ndV_ks W bl g kv).2 (by rw [hg];exact h2)⟩
theorem kids {xs:List UInt8} (hlen:xs.length≤1000000000) {k:Nat} (hk1:k≤1000) (IH: ∀off,off≤xs.length→ ∀w,Calls Tryz.prog 72 #[.string ⟨(xs.drop off).toArray⟩,.int .i64 (k:Int)] w (TreeP xs (treeF xs k off) w))
  (m nn:Nat) (o:Bool) (n off:Nat) (hoff:off≤xs.length) (hn:n≤100000000000) (w:World):
  Calls Tryz.prog 97 #[.agg #[.int .i64 (m:Int),.int .u64 (nn:Int),.int .i64 0,.bool o,.bool false,.bool false,.string ⟨#[]⟩,.slice none 0 0],.string ⟨(xs.drop off).toArray⟩,.int .i64 (n:Int),.int .i64 ((k:Int)+1)] w
   (KidsP xs m nn o (kidsF (treeF xs k) n off) w):=by
 replace IH:=Hz IH;generalize hRR:kidsF (treeF xs k) n off=RR;replace hRR:=Hz hRR;have hkk:(k:Int)+1-1=(k:Int):=by omega
 go_enter Tryz.func97,Tryz.ntmps97
 go_wp2
 go_loopg [1,11] n (fun j v1 v11 wr=> ∃(i off':Nat) (l:List Tr) (kv:Value),v1= .string ⟨(xs.drop off').toArray⟩∧v11= .int .i64 (i:Int)∧i+j=n∧off'≤xs.length∧Hid (RR=(kidsF (treeF xs k) j off').map fun r=>(l++r.1,r.2))∧l.length=i∧
  wr.heap[w.heap.size]? =some (.cells #[.int .i64 (m:Int),.int .u64 (nn:Int),.int .i64 0,.bool o,.bool false,.bool false,.string ⟨#[]⟩,kv] 45 (0,0))∧
  wr.heap[w.heap.size+1]? =some (.cells #[.int .i64 0,.int .u64 0,.int .i64 0,.bool false,.bool false,.bool false,.string ⟨#[]⟩,.slice none 0 0] 45 (0,0))∧
  KidRow wr 45 (w.heap.size+2) kv (gns l)∧Fr [] w wr∧w.heap.size+2≤wr.heap.size)
 case atStart=>
  refine ⟨0,off,[],.slice none 0 0,rfl,by go_num,by omega,hoff,?_,rfl,?_,?_,KidRow.nil _ _ _,?_,?_⟩
  ·rw [hRR.out.symm];refine Hz ?_
   cases kidsF (treeF xs k) n off<;>simp
  ·exact blk_alloc (blk_new w _) _
  ·exact blk_new' _ _ (by simp)
  ·exact ((Fr.refl _ _).alloc _).alloc _
  ·simp
 case round=>
  obtain ⟨i,off',l,kv,rfl,rfl,hj,ho',hR,hll,hb0,hb1,hrow,hF,hsz⟩:=hrel;by_cases hk0:gk=0
  ·subst hk0;obtain rfl:i=n:=by omega
   obtain ⟨⟨c0,c1,c2,c3,c4,c5,c6,c7⟩,f0,f1,f2,f3,f4,f5,f6,f7⟩:=cells8 hb0;obtain ⟨⟨d0,d1,d2,d3,d4,d5,d6,d7⟩,g0,g1,g2,g3,g4,g5,g6,g7⟩:=cells8 hb1;have hRt:=hR.out;rw [kidsF] at hRt;simp only [Option.map_some,List.append_nil] at hRt;clear hR hRR hkk;subst hRt;clear hb0 hb1;obtain ⟨ao,kn,kc,rfl⟩:=hrow.shape;go_wp2;refine bodyPost_ret (v:= .tuple #[.agg #[.int .i64 (m:Int),.int .u64 (nn:Int),.int .i64 0,.bool o,.bool false,.bool false,.string ⟨#[]⟩,.slice ao kn kc],.string ⟨(xs.drop off').toArray⟩,.bool true]) (by simp [results,Tryz.results97,go_sem,d0,d1,d2,d3,d4,d5,d6,d7]) rfl ?_
   refine ⟨.mk m nn 0 o false false [] (gns l),.slice ao kn kc,_,rfl,hF.then_ (Fr.put8 _ _ _ _ _ _ _ _ _ _) (by simp),⟨_,_,_,rfl⟩,fun l2 o2 e=> ?_⟩
   injection e with e
   injection e with e1 e2
   subst e1 e2;exact ⟨rfl,rfl,ho',kids_out hrow (Fr.put8 _ _ _ _ _ _ _ _ _ _) (by simp) _ rfl⟩
  ·obtain ⟨g,rfl⟩: ∃g,gk=g+1:=⟨gk-1,by omega⟩
   obtain ⟨ao,kn,kc,rfl⟩:=hrow.shape;have t1:(i:Int)<(n:Int):=by omega
   have hRs:=hR.out;rw [kidsF_step] at hRs;have KT:=Hz (IH.out off' ho' wr);clear hR;replace hRs:=Hz hRs;replace hb0:=Hz hb0;replace hb1:=Hz hb1;go_wp2_with fail
   refine KT.out.mono ?_
   rintro e w1 ⟨g',kv',rest,he,hf,⟨ao',kn',kc',rfl⟩,hs⟩;obtain ⟨a0,a1,a2,b0,b1,b2,tx,gks⟩:=g';rw [nd_mk] at he;have hb0':=hf.blk hb0.out (by simp)
   have hb1':=hf.blk hb1.out (by simp)
   have hF1:=hF.trans hf;cases hT:treeF xs k off' with
   |none=>
    rw [hT] at he;subst he;have hRn:RR=none:=by rw [hRs.out,hT];rfl
    subst hRn;obtain ⟨⟨d0,d1,d2,d3,d4,d5,d6,d7⟩,g0,g1,g2,g3,g4,g5,g6,g7⟩:=cells8 (blk_alloc hb1' (.cells #[.int .i64 (a0:Int),.int .u64 (a1:Int),.int .i64 (a2:Int),.bool b0,.bool b1,.bool b2,.string ⟨tx.toArray⟩,.slice ao' kn' kc'] 45));clear hb0' hb1' hT hs hRs;go_wp2;refine bodyPost_ret (v:= .tuple #[.agg #[.int .i64 0,.int .u64 0,.int .i64 0,.bool false,.bool false,.bool false,.string ⟨#[]⟩,.slice none 0 0],.string ⟨#[]⟩,.bool false]) (by simp [results,Tryz.results97,go_sem,d0,d1,d2,d3,d4,d5,d6,d7]) rfl ?_
    refine ⟨zeroG,.slice none 0 0,_,rfl,?_,⟨_,_,_,rfl⟩,fun l2 o2 e=>by cases e⟩
    exact (hF1.alloc _).then_ (Fr.put8 _ _ _ _ _ _ _ _ _ _) (by simp)
   |some q=>
    obtain ⟨t,o1⟩:=q;rw [hT] at he;subst he;obtain ⟨e1,e2,e3,bl,e4,e5⟩:=hs t o1 hT;subst e1;have hRn:RR=(kidsF (treeF xs k) g o1).map fun r=>(l++[t]++r.1,r.2):=by
     rw [hRs.out,hT];exact map_map_app l t _
    have hAT:Hid (∀(W:World) (b:Nat),W.heap[b]? =some (.cells #[.int .i64 (a0:Int),.int .u64 (a1:Int),.int .i64 (a2:Int),.bool b0,.bool b1,.bool b2,.string ⟨tx.toArray⟩,.slice ao' kn' kc'] 45 (0,0))→At W b 0 (nd (gn t) (.slice ao' kn' kc'))):=Hz (fun W b h=>by rw [←e2];exact at_blk h)
    rw [e2] at e5;clear e2;have hnd:Hid (∀W,Fr [] w1 W→ ∃bl,(∀d,d∈bl→w.heap.size+2≤d∧d<W.heap.size∧(Value.slice ao kn kc).ownBlock≠some d)∧NdV W bl (gn t) (.slice ao' kn' kc')):=Hz (fun W hW=>⟨bl,fun d hd=>⟨by have:=(e4 d hd).1;omega,Nat.lt_of_lt_of_le (e4 d hd).2 hW.size,fun e=>by have:=(hrow.own d e).2;have:=(e4 d hd).1;omega⟩,e5.fr (fun d hd=>hW.block d (e4 d hd).2 (by simp)) (fun d hd=>hd) _ _⟩)
    replace hRn:=Hz hRn;obtain ⟨⟨c0,c1,c2,c3,c4,c5,c6,c7⟩,f0,f1,f2,f3,f4,f5,f6,f7⟩:=cells8 (blk_alloc hb0' (.cells #[.int .i64 (a0:Int),.int .u64 (a1:Int),.int .i64 (a2:Int),.bool b0,.bool b1,.bool b2,.string ⟨tx.toArray⟩,.slice ao' kn' kc'] 45));have hlk:(gns l).length+1≤1000000000000:=by rw [gns_length];omega
    have hs1:=hF1.size;have hs2:=hf.size;replace hb0':=Hz hb0';replace hb1':=Hz hb1';clear hT hs hRs e4 e5;go_wp2_with (at_builtin;refine wpList_apNode rfl _ _ rfl (B:=w.heap.size+2) _ (gns l) (gn t) (.slice ao' kn' kc') (w1.heap.size+1) 1 rfl rfl (hAT.out _ _ (blk_new' _ _ (by simp))) (hrow.fr (S:=[]) ((hf.alloc _).alloc _) (by simp)) (hnd.out _ (((Fr.refl _ _).alloc _).alloc _)) (by simp;omega) hlk ?_)
    intro v' w2 hrow' hg;have hF2:Fr [] w w2:=Fr.grown ((hF1.alloc _).alloc _) hg (fun d hd=> .inr (by have:=(hrow.own d hd).1;omega))
    have hne: ∀d,d<w.heap.size+2→some d≠(Value.slice ao kn kc).ownBlock:=fun d hd e=>by have:=(hrow.own d e.symm).1;omega
    have hB0:=(hg.block w.heap.size (by simp;omega) (hne _ (by omega))).trans (blk_alloc (blk_alloc hb0'.out _) _)
    have hB1:=(hg.block (w.heap.size+1) (by simp;omega) (hne _ (by omega))).trans (blk_alloc (blk_alloc hb1'.out _) _)
    obtain ⟨ao2,kn2,kc2,rfl⟩:=hrow'.shape;have k7:=cell_blk hB0 7;have q7:=frozen_blk hB0 7;have hs3:=hg.size;simp only [List.getElem?_toArray,List.getElem?_cons_zero,List.getElem?_cons_succ] at k7;replace hB0:=Hz hB0;replace hB1:=Hz hB1;clear hne hg hlk c0 c1 c2 c3 c4 c5 c6 c7 f0 f1 f2 f3 f4 f5 f6 f7;go_wp2
    go_roundg g
    case measure=>omega
    case rel=>
     have hW:Fr [w.heap.size] w2 (w2.setCell ⟨w.heap.size,7,none⟩ (.slice ao2 kn2 kc2)):=(Fr.refl _ _).setCell (.inl (by simp)) _
     refine ⟨i+1,o1,l++[t],.slice ao2 kn2 kc2,rfl,by go_num,by omega,e3,hRn,by simp;omega,blk_setCell hB0.out 7 _,blk_setCell_ne hB1.out (by simp) _,?_,hF2.then_ hW (by simp),?_⟩
     ·rw [gns_append];exact hrow'.fr hW (by simp)
     ·have:=hW.size;simp at hs3;omega
end
section
open Go.RowKit
def PB (w:World) (p:Nat) (S:List UInt8) (k:Nat) (bad:Bool):Prop:=w.heap[p]? =some (.cells #[.string ⟨S.toArray⟩,.int .i64 (k:Int),.bool bad] 110 (0,0))
theorem PB.fr {w w':World} {p k:Nat} {S:List UInt8} {bad:Bool} (h:PB w p S k bad) (hf:Fr [] w w'):PB w' p S k bad:=hf.blk h (by simp)
theorem PB.cells {w:World} {p k:Nat} {S:List UInt8} {bad:Bool} (h:PB w p S k bad):
  (w.cell? ⟨p,0,none⟩=some (.string ⟨S.toArray⟩)∧w.cell? ⟨p,1,none⟩=some (.int .i64 (k:Int))∧w.cell? ⟨p,2,none⟩=some (.bool bad))∧w.frozen? ⟨p,1,none⟩=false∧w.frozen? ⟨p,2,none⟩=false:=
 ⟨⟨cell_blk h 0,cell_blk h 1,cell_blk h 2⟩,frozen_blk h 1,frozen_blk h 2⟩
theorem PB.put {w:World} {p k:Nat} {S:List UInt8} {bad:Bool} (h:PB w p S k bad) (k':Nat) (i:Int) (hi:i=(k':Int)):PB (w.setCell ⟨p,1,none⟩ (.int .i64 i)) p S k' bad∧Fr [p] w (w.setCell ⟨p,1,none⟩ (.int .i64 i)):=by
 subst hi;exact ⟨blk_setCell h 1 _,(Fr.refl _ _).setCell (.inl (by simp)) _⟩
theorem PB.mark {w:World} {p k:Nat} {S:List UInt8} {bad:Bool} (h:PB w p S k bad) (b:Bool):PB (w.setCell ⟨p,2,none⟩ (.bool b)) p S k b∧Fr [p] w (w.setCell ⟨p,2,none⟩ (.bool b)):=
 ⟨blk_setCell h 2 _,(Fr.refl _ _).setCell (.inl (by simp)) _⟩
theorem digitW (c:Nat) (hc:c<256) (w:World):Calls Tryz.prog 138 #[.int .u8 (c:Int)] w fun e w'=>e= .returned (.int .i64 (digV c))∧w'=w:=by
 unfold digV;by_cases h1:48≤c∧c≤57
 ·rw [if_pos h1];obtain ⟨a1,a2⟩:=h1;have t1:(48:Int)≤(c:Int):=by omega
  have t2:(c:Int)≤57:=by omega
  have u1:IntKind.u8.wrap ((c:Int)-48)=(c:Int)-48:=by show ((c:Int)-48)%256=_;omega
  have u2:IntKind.i64.wrap ((c:Int)-48)=(c:Int)-48:=IntWalk.i64_in _ (by omega)
  go_enter Tryz.func138,Tryz.ntmps138
  go_wp2;go_ret
  exact ⟨rfl,rfl⟩
 ·rw [if_neg h1];by_cases h2:97≤c∧c≤102
  ·rw [if_pos h2];obtain ⟨a1,a2⟩:=h2;have t1:(48:Int)≤(c:Int):=by omega
   have t2: ¬(c:Int)≤57:=by omega
   have t3:(97:Int)≤(c:Int):=by omega
   have t4:(c:Int)≤102:=by omega
   have u1:IntKind.u8.wrap ((c:Int)-97)=(c:Int)-97:=by show ((c:Int)-97)%256=_;omega
   have u2:IntKind.i64.wrap ((c:Int)-97)=(c:Int)-97:=IntWalk.i64_in _ (by omega)
   have u3:IntKind.i64.wrap ((c:Int)-97+10)=(c:Int)-87:=by rw [IntWalk.i64_in _ (by omega)];omega
   go_enter Tryz.func138,Tryz.ntmps138
   go_wp2;go_ret
   exact ⟨rfl,rfl⟩
  ·rw [if_neg h2];by_cases h3:65≤c∧c≤70
   ·rw [if_pos h3];obtain ⟨a1,a2⟩:=h3;have t1:(48:Int)≤(c:Int):=by omega
    have t2: ¬(c:Int)≤57:=by omega
    have t3: ¬(97:Int)≤(c:Int):=by omega
    have t5:(65:Int)≤(c:Int):=by omega
    have t6:(c:Int)≤70:=by omega
    have u1:IntKind.u8.wrap ((c:Int)-65)=(c:Int)-65:=by show ((c:Int)-65)%256=_;omega
    have u2:IntKind.i64.wrap ((c:Int)-65)=(c:Int)-65:=IntWalk.i64_in _ (by omega)
    have u3:IntKind.i64.wrap ((c:Int)-65+10)=(c:Int)-55:=by rw [IntWalk.i64_in _ (by omega)];omega
    go_enter Tryz.func138,Tryz.ntmps138
    go_wp2;go_ret
    exact ⟨rfl,rfl⟩
   ·rw [if_neg h3];by_cases q1:48≤c
    ·have t1:(48:Int)≤(c:Int):=by omega
     have t2: ¬(c:Int)≤57:=by omega
     by_cases q2:97≤c
     ·have t3:(97:Int)≤(c:Int):=by omega
      have t4: ¬(c:Int)≤102:=by omega
      have t5:(65:Int)≤(c:Int):=by omega
      have t6: ¬(c:Int)≤70:=by omega
      go_enter Tryz.func138,Tryz.ntmps138
      go_wp2;go_ret
      exact ⟨rfl,rfl⟩
     ·have t3: ¬(97:Int)≤(c:Int):=by omega
      by_cases q3:65≤c
      ·have t5:(65:Int)≤(c:Int):=by omega
       have t6: ¬(c:Int)≤70:=by omega
       go_enter Tryz.func138,Tryz.ntmps138
       go_wp2;go_ret
       exact ⟨rfl,rfl⟩
      ·have t5: ¬(65:Int)≤(c:Int):=by omega
       go_enter Tryz.func138,Tryz.ntmps138
       go_wp2;go_ret
       exact ⟨rfl,rfl⟩
    ·have t1: ¬(48:Int)≤(c:Int):=by omega
     have t3: ¬(97:Int)≤(c:Int):=by omega
     have t5: ¬(65:Int)≤(c:Int):=by omega
     go_enter Tryz.func138,Tryz.ntmps138
     go_wp2;go_ret
     exact ⟨rfl,rfl⟩
def nx (S:List UInt8) (k:Nat) (t:List UInt8):Bool:=decide ((S.drop k).take t.length=t)
theorem nextW {w:World} {p k:Nat} {S:List UInt8} {bad:Bool} (hpb:PB w p S k bad) (hk:k≤S.length) (hS:S.length≤1000000000) (t:List UInt8) (ht:t.length≤1000):
  Calls Tryz.prog 92 #[.pointer (some ⟨p,0,none⟩),.string ⟨t.toArray⟩] w fun e w'=>e= .returned (.bool (nx S k t))∧PB w' p S (if nx S k t=true then k+t.length else k) bad∧Fr [p] w w':=by
 obtain ⟨⟨c0,c1,c2⟩,f1,f2⟩:=hpb.cells;have q0:(⟨S.toArray⟩:ByteArray).size=S.length:=by simp [ByteArray.size]
 have q1:(⟨t.toArray⟩:ByteArray).size=t.length:=by simp [ByteArray.size]
 have g1:IntKind.i64.wrap ((S.length:Int)-(k:Int))=(S.length:Int)-(k:Int):=IntWalk.i64_in _ (by omega)
 have g2:IntKind.i64.wrap ((k:Int)+(t.length:Int))=(k:Int)+(t.length:Int):=IntWalk.i64_in _ (by omega)
 by_cases hlt:S.length-k<t.length
 ·have hn:nx S k t=false:=by
   unfold nx;rw [decide_eq_false_iff_not];intro e;have:=congrArg List.length e;rw [List.length_take,List.length_drop] at this;omega
  rw [hn];have t1:(S.length:Int)-(k:Int)<(t.length:Int):=by omega
  have t2:decide ((S.length:Int)-(k:Int)<(t.length:Int))=true:=by simpa using t1
  replace hpb:=Hz hpb;go_enter Tryz.func92,Tryz.ntmps92
  go_wp2
  go_quiet (fail)
  go_wp2;go_ret
  exact ⟨rfl,hpb.out.fr ((Fr.refl _ _).drewN _),(Fr.refl _ _).drewN _⟩
 ·have t1: ¬(S.length:Int)-(k:Int)<(t.length:Int):=by omega
  have t2:decide ((S.length:Int)-(k:Int)<(t.length:Int))=false:=by simpa using t1
  have hx:=ext_at S k (k+t.length);rw [Nat.add_sub_cancel_left] at hx;have b1:k+t.length≤S.length:=by omega
  have b2:(k:Int)+(t.length:Int)≤(S.length:Int):=by omega
  have b3:(k:Int)≤(k:Int)+(t.length:Int):=by omega
  have b4:(0:Int)≤(k:Int)+(t.length:Int):=by omega
  have b5:((k:Int)+(t.length:Int)).toNat=k+t.length:=by omega
  have b6:(0:Int)≤(k:Int):=by omega
  obtain ⟨X,hX⟩: ∃X,(S.drop k).take t.length=X:=⟨_,rfl⟩;have hnx:nx S k t=decide (X=t):=by unfold nx;rw [hX]
  rw [hX] at hx;rw [hnx];clear hX hnx;by_cases he:X=t
  ·subst he;rw [decide_eq_true rfl,if_pos rfl];have hq:((⟨X.toArray⟩:ByteArray)==⟨X.toArray⟩)=true:=bq_self _;have hq2:((⟨X.toArray⟩:ByteArray) !=⟨X.toArray⟩)=false:=by simp [bne,hq]
   have hP:=Hz (fun n=>(hpb.fr ((Fr.refl _ _).drewN n)).put (k+X.length) ((k:Int)+(X.length:Int)) (by omega))
   have c1':=fun n=>(hpb.fr ((Fr.refl [] w).drewN n)).cells
   replace c1':=Hz c1';replace hpb:=Hz hpb;go_enter Tryz.func92,Tryz.ntmps92
   go_wp2
   go_quiet (fail)
   go_wp2;go_ret
   exact ⟨rfl,(hP.out _).1,((Fr.refl _ _).drewN _).trans (hP.out _).2⟩
  ·rw [decide_eq_false he];have hq:((⟨X.toArray⟩:ByteArray)==⟨t.toArray⟩)=false:=bq_ne he;have hq2:((⟨X.toArray⟩:ByteArray) !=⟨t.toArray⟩)=true:=by simp [bne,hq]
   have hq3:(X==t)=false:=by simpa using he
   replace he:=Hz he;replace hpb:=Hz hpb;go_enter Tryz.func92,Tryz.ntmps92
   go_wp2
   go_quiet (fail)
   go_wp2;go_ret
   exact ⟨rfl,hpb.out.fr ((Fr.refl _ _).drewN _),(Fr.refl _ _).drewN _⟩
def isBl (c:Nat):Bool:=c==32||c==10||c==9||c==13
theorem blanksW {w:World} {p k:Nat} {S:List UInt8} {bad:Bool} (h:PB w p S k bad) (hS:S.length≤1000000000) (n:Nat) (hn: ∀j,j<n→k+j<S.length∧bt' S (k+j)=32) (hend:k+n=S.length∨(k+n<S.length∧isBl (bt' S (k+n))=false)):
  Calls Tryz.prog 91 #[.pointer (some ⟨p,0,none⟩)] w fun e w'=>(∃u,e= .returned u)∧PB w' p S (k+n) bad∧Fr [p] w w':=by
 have q0:(⟨S.toArray⟩:ByteArray).size=S.length:=by simp [ByteArray.size]
 have hx: ∀j,(h:j<S.length)→((⟨S.toArray⟩:ByteArray)[j]'(by show j<S.toArray.size;simpa using h)).toNat=bt' S j:=bt_at S
 replace hx:=Hz hx;replace hn:=Hz hn;replace hend:=Hz hend;have hP0:=Hz h;clear h;go_enter Tryz.func91,Tryz.ntmps91
 go_wp2_with fail
 go_loopg [] n (fun g wr=> ∃j:Nat,j+g=n∧Hid (PB wr p S (k+j) bad)∧Hid (Fr [p] w wr))
 case atStart=>exact ⟨0,by omega,hP0,Hz (Fr.refl _ _)⟩
 case round=>
  clear hP0;obtain ⟨j,hj,hP,hF⟩:=hrel;obtain ⟨m,hm⟩: ∃m,k+j=m:=⟨_,rfl⟩;have hm1:k+(j+1)=m+1:=by omega
  rw [hm] at hP;obtain ⟨⟨c0,c1,c2⟩,f1,f2⟩:=hP.out.cells;have m1:(0:Int)≤(m:Int):=by omega
  by_cases hk0:gk=0
  ·subst hk0;obtain rfl:j=n:=by omega
   rw [hm] at hend;rcases hend.out with he|⟨he,hb⟩
   ·have t1: ¬(m:Int)<(S.length:Int):=by omega
    have t2:decide ((m:Int)<(S.length:Int))=false:=by simpa using t1
    have t3:decide (m<S.length)=false:=by simp;omega
    have t4: ¬m<S.length:=by omega
    replace he:=Hz he;replace hm:=Hz hm;go_wp2_with fail
    go_quiet (fail)
    go_wp2;refine bodyPost_end (results_none rfl _ _ _) rfl ?_
    refine ⟨⟨_,rfl⟩,?_,hF.out.drewN _⟩
    rw [hm.out];exact hP.out.fr ((Fr.refl _ _).drewN _)
   ·have t1:(m:Int)<(S.length:Int):=by omega
    have t2:decide ((m:Int)<(S.length:Int))=true:=by simpa using t1
    have g0:=hx.out m he;obtain ⟨c,hc⟩: ∃c,bt' S m=c:=⟨_,rfl⟩;rw [hc] at g0 hb;unfold isBl at hb;simp only [Bool.or_eq_false_iff,beq_eq_false_iff_ne] at hb;have n1:((c:Int)==32)=false:=by simp;omega
    have n2:((c:Int)==10)=false:=by simp;omega
    have n3:((c:Int)==9)=false:=by simp;omega
    have n4:((c:Int)==13)=false:=by simp;omega
    replace hb:=Hz hb;replace hm:=Hz hm;replace hc:=Hz hc;go_wp2_with fail
    go_quiet (fail)
    go_wp2;refine bodyPost_end (results_none rfl _ _ _) rfl ?_
    refine ⟨⟨_,rfl⟩,?_,hF.out.drewN _⟩
    rw [hm.out];exact hP.out.fr ((Fr.refl _ _).drewN _)
  ·obtain ⟨hl,hb⟩:=hn.out j (by omega)
   rw [hm] at hl hb;have t1:(m:Int)<(S.length:Int):=by omega
   have t2:decide ((m:Int)<(S.length:Int))=true:=by simpa using t1
   have g0:=hx.out m hl;rw [hb] at g0;have w1:IntKind.i64.wrap ((m:Int)+1)=(m:Int)+1:=IntWalk.i64_in _ (by omega)
   have hQ:=Hz (fun n=>(hP.out.fr ((Fr.refl _ _).drewN n)).put (k+(j+1)) ((m:Int)+1) (by omega))
   replace hm:=Hz hm;replace hm1:=Hz hm1;clear hb;go_wp2_with fail
   go_quiet (fail)
   go_wp2
   go_roundg (gk-1)
   case measure=>omega
   case rel=>exact ⟨j+1,by omega,Hz (hQ.out _).1,Hz ((hF.out.drewN _).trans (hQ.out _).2)⟩
end
section
open Go.RowKit
theorem at_get {S R:List UInt8} {k:Nat} {A:List UInt8} (h:S.drop k=A++R) (i:Nat) (hi:i<A.length):k+i<S.length∧bt' S (k+i)=A[i].toNat:=by
 have h2:S.drop (k+i)=A[i]::(A.drop (i+1)++R):=by
  rw [←List.drop_drop,h,List.drop_append_of_le_length (by omega),List.drop_eq_getElem_cons hi]
  rfl
 obtain ⟨a,b,_⟩:=at_head h2;exact ⟨a,b⟩
def hd4 (v i:Nat):Nat:=v/16^(3-i)%16
theorem hex4_at (v:Nat) {S R:List UInt8} {k:Nat} (h:S.drop k=hex4 v++R): ∀i,i<4→k+i<S.length∧bt' S (k+i)<256∧digV (bt' S (k+i))=(hd4 v i:Int):=by
 obtain ⟨a,b,c,d,he,h0,h1,h2,h3⟩:=hex4_eq v;rw [he] at h;intro i hi;have:=at_get h i (by simpa using hi)
 refine ⟨this.1,bt_lt _ _,?_⟩
 rw [this.2];have hi4:i=0∨i=1∨i=2∨i=3:=by omega
 rcases hi4 with rfl|rfl|rfl|rfl
 ·exact h0
 ·exact h1
 ·exact h2
 ·exact h3.trans (by unfold hd4;simp)
theorem fourW {w:World} {p k v:Nat} {S R:List UInt8} (h:PB w p S k false) (hS:S.length≤1000000000) (hv:v<65536) (hd:S.drop k=hex4 v++R):
  Calls Tryz.prog 188 #[.pointer (some ⟨p,0,none⟩)] w fun e w'=>e= .returned (.int .i64 (v:Int))∧PB w' p S (k+4) false∧Fr [p] w w':=by
 have hx: ∀j,(h:j<S.length)→((⟨S.toArray⟩:ByteArray)[j]'(by show j<S.toArray.size;simpa using h)).toNat=bt' S j:=bt_at S
 have q0:(⟨S.toArray⟩:ByteArray).size=S.length:=by simp [ByteArray.size]
 have hH:=Hz (hex4_at v hd);replace hx:=Hz hx;have hP0:=Hz h;clear h hd;go_enter Tryz.func188,Tryz.ntmps188
 go_upto_region 3 with fail
 go_loopg [3,4] 4 (fun g v3 v4 wr=> ∃i n:Nat,v3= .int .i64 (n:Int)∧v4= .int .i64 (i:Int)∧i+g=4∧Hid (n=v/16^g)∧Hid (PB wr p S (k+i) false)∧Hid (Fr [p] w wr))
 case atStart=>exact ⟨0,0,rfl,rfl,by omega,Hz (by omega),hP0,Hz (Fr.refl _ _)⟩
 case round=>
  clear hP0;obtain ⟨i,n,rfl,rfl,hi,hn,hP,hF⟩:=hrel;by_cases hk0:gk=0
  ·subst hk0;obtain rfl:i=4:=by omega
   obtain rfl:n=v:=by rw [hn.out];simp
   go_wp2;go_ret
   exact ⟨rfl,hP.out,hF.out⟩
  ·have t4:(i:Int)<4:=by omega
   obtain ⟨hl,h256,hdv⟩:=hH.out i (by omega)
   have hd16:hd4 v i<16:=Nat.mod_lt _ (by decide)
   obtain ⟨⟨c0,c1,c2⟩,f1,f2⟩:=hP.out.cells;obtain ⟨m,hm⟩: ∃m,k+i=m:=⟨_,rfl⟩;have hm1:k+(i+1)=m+1:=by omega
   rw [hm] at hl h256 hdv c1 hP;have t1:(m:Int)<(S.length:Int):=by omega
   have t2:decide ((m:Int)<(S.length:Int))=true:=by simpa using t1
   have g0:=hx.out m hl;have hstep:hd4 v i+n*16=v/16^(gk-1):=by
    rw [hn.out];unfold hd4;rw [show 3-i=gk-1 by omega]
    obtain ⟨q,rfl⟩: ∃q,gk=q+1:=⟨gk-1,by omega⟩
    rw [Nat.add_sub_cancel,Nat.pow_succ,←Nat.div_div_eq_div_mul];omega
   have hn64:n<65536:=by
    rw [hn.out];exact Nat.lt_of_le_of_lt (Nat.div_le_self _ _) hv
   generalize hd4 v i=dd at *
   generalize bt' S m=cc at *
   have KD: ∀W,Calls Tryz.prog 138 #[.int .u8 (cc:Int)] W fun e w'=>e= .returned (.int .i64 (dd:Int))∧w'=W:=fun W=>by rw [←hdv];exact digitW cc h256 W
   have g5: ¬(dd:Int)<0:=by omega
   have g6:max (dd:Int) 0=(dd:Int):=by omega
   have g7:IntKind.i64.wrap ((n:Int)*16)=(n:Int)*16:=IntWalk.i64_in _ (by omega)
   have hor:bits .or .i64 ((n:Int)*16) (dd:Int)=((dd+n*16:Nat):Int):=by
    have h1:=i64_or_nat (n*16) dd (by omega) (by omega)
    have h2:n*16|||dd=dd+n*16:=by
     have:=Nat.two_pow_add_eq_or_of_lt (i:=4) (b:=dd) (by omega) n
     rw [show (16:Nat)=2^4 by decide,Nat.mul_comm,←this]
     omega
    rw [h2] at h1;rw [←h1]
    congr 1
   have w1:IntKind.i64.wrap ((i:Int)+1)=(i:Int)+1:=IntWalk.i64_in _ (by omega)
   have w2:IntKind.i64.wrap ((m:Int)+1)=(m:Int)+1:=IntWalk.i64_in _ (by omega)
   have m1:(0:Int)≤(m:Int):=by omega
   replace KD:=Hz KD;replace hstep:=Hz hstep;clear hdv;replace hm:=Hz hm;replace hm1:=Hz hm1;go_wp2_with fail
   go_quiet (fail)
   obtain ⟨hP1,hF1⟩:=And.intro (hP.out.fr ((Fr.refl [] wr).drewN nq)) (hF.out.drewN nq);generalize wr.drewN nq=W1 at *
   clear c0 c1 c2 f1 f2;obtain ⟨⟨c0,c1,c2⟩,f1,f2⟩:=hP1.cells;replace hP1:=Hz hP1;replace hF1:=Hz hF1;go_wp2_with fail
   go_quiet ((go_at_call 138;with_reducible exact Calls.quiet_of_same (KD.out _)))
   obtain ⟨hP2,hF2⟩:=And.intro (hP1.out.fr ((Fr.refl [] W1).drewN nq)) (hF1.out.drewN nq);generalize W1.drewN nq=W2 at *
   clear c0 c1 c2 f1 f2;obtain ⟨⟨c0,c1,c2⟩,f1,f2⟩:=hP2.cells;obtain ⟨hP3,hF3⟩:=hP2.put (m+1) ((m:Int)+1) (by omega)
   obtain ⟨⟨d0,d1,d2⟩,e1,e2⟩:=hP3.cells;obtain ⟨hP4,hF4⟩:=hP3.mark false;have hFF:=Hz ((hF2.trans hF3).trans hF4);replace hP2:=Hz hP2;replace hP3:=Hz hP3;replace hP4:=Hz hP4;replace hF2:=Hz hF2;replace hF3:=Hz hF3;replace hF4:=Hz hF4;go_wp2
   go_roundg (gk-1)
   case measure=>omega
   case rel=>exact ⟨i+1,dd+n*16,by first|rfl|go_num,by first|rfl|go_num,by omega,hstep,by rw [hm1.out];exact hP4,hFF⟩
end
section
open Go.RowKit
theorem runes_one (w:World) (c:Nat) (h:Scal c):(convert 298 9 (.slice (some ⟨w.heap.size,0,none⟩) 1 1)).run Tryz.prog (w.alloc (.cells #[.int .i32 (c:Int)] 21))= .ok (.string ⟨(Lib.encodeRune (c:Int)).toArray⟩) (w.alloc (.cells #[.int .i32 (c:Int)] 21)):=by
 have h1:=run_convert_runes (P:=Tryz.prog) (w.alloc (.cells #[.int .i32 (c:Int)] 21)) 298 9 21 ⟨w.heap.size,0,none⟩ 1 1 [(c:Int)] (Nat.le_refl _) Tryz.underlying298 Tryz.underlying21 Tryz.underlying9 (fun j hj=>by
  obtain rfl:j=0:=by simpa using hj
  exact cell_blk (blk_new w _) 0)
 rw [h1];have h2:runesBytes (List.take 1 [(c:Int)])=Utf8.encode (c:Int):=by
  show ByteArray.empty++Utf8.encode (c:Int)=_
  simp
 rw [h2,utf8_enc h]
theorem nx_yes {S R t:List UInt8} {k:Nat} (h:S.drop k=t++R):nx S k t=true:=by
 unfold nx;rw [h,List.take_left,decide_eq_true rfl]
theorem escapedW {w:World} {p k c:Nat} {S R:List UInt8} (h:PB w p S k false) (hS:S.length≤1000000000) (hc:Scal c) (hd:S.drop k=runeD c++R):
  Calls Tryz.prog 137 #[.pointer (some ⟨p,0,none⟩)] w fun e w'=>e= .returned (.string ⟨(Lib.encodeRune (c:Int)).toArray⟩)∧PB w' p S (k+(runeD c).length) false∧Fr [p] w w':=by
 have hR:=Hz (fun w=>runes_one w c hc)
 obtain ⟨s1,s2⟩:=hc;have gw:IntKind.i32.wrap (c:Int)=(c:Int):=IntWalk.i32_in _ (by omega)
 by_cases h6:c<65536
 ·have hrd:runeD c=hex4 c:=if_pos h6;rw [hrd] at hd ⊢;rw [hex4_len];have K:=Hz (fourW h hS h6 hd);have t0: ¬((55296:Int)≤(c:Int)∧(c:Int)<57344):=by omega
  generalize Lib.encodeRune (c:Int)=E at *
  by_cases q:55296≤c
  ·have t1:(55296:Int)≤(c:Int):=by omega
   have t2: ¬(c:Int)<56320:=by omega
   have t3: ¬(c:Int)<57344:=by omega
   have d1:decide ((55296:Int)≤(c:Int))=true:=by simpa using t1
   have d2:decide ((c:Int)<56320)=false:=by simpa using t2
   have d3:decide ((c:Int)<57344)=false:=by simpa using t3
   clear t1 t2 t3;clear hrd hd t0 s2 s1 h6;go_enter Tryz.func137,Tryz.ntmps137
   go_wp2_with fail
   refine K.out.mono ?_
   rintro e w1 ⟨rfl,hP,hF⟩;have hR1:=hR.out w1;go_wp2;go_ret
   exact ⟨rfl,hP.fr ((Fr.refl _ _).alloc _),hF.then0 ((Fr.refl _ _).alloc _)⟩
  ·have t1: ¬(55296:Int)≤(c:Int):=by omega
   have d1:decide ((55296:Int)≤(c:Int))=false:=by simpa using t1
   clear t1;clear hrd hd t0 s2 s1 h6;go_enter Tryz.func137,Tryz.ntmps137
   go_wp2_with fail
   refine K.out.mono ?_
   rintro e w1 ⟨rfl,hP,hF⟩;have hR1:=hR.out w1;go_wp2;go_ret
   exact ⟨rfl,hP.fr ((Fr.refl _ _).alloc _),hF.then0 ((Fr.refl _ _).alloc _)⟩
 ·have hrd:runeD c=hex4 (55296+(c-65536)/1024)++92::117::hex4 (56320+(c-65536)%1024):=if_neg h6;rw [hrd] at hd ⊢;obtain ⟨x,hx⟩: ∃x,55296+(c-65536)/1024=x:=⟨_,rfl⟩;obtain ⟨y,hy⟩: ∃y,56320+(c-65536)%1024=y:=⟨_,rfl⟩;rw [hx,hy] at hd ⊢;have hcx:c=65536+(x-55296)*1024+(y-56320):=by omega
  rw [List.append_assoc] at hd;have K1:=Hz (fourW h hS (by omega) hd)
  have hd2:=at_app hd;rw [hex4_len] at hd2;have hd2':S.drop (k+4)=[92,117]++(hex4 y++R):=hd2;have hn:=nx_yes hd2';have hd3:=at_app hd2';have hl2:k+4≤S.length:=by
   have:=(at_head hd2).1;omega
  have hlen:k+(hex4 x++92::117::hex4 y).length=k+4+2+4:=by
   simp only [List.length_append,List.length_cons,hex4_len]
  rw [hlen];have KN:Hid (∀W,PB W p S (k+4) false→Calls Tryz.prog 92 #[.pointer (some ⟨p,0,none⟩),.string ⟨#[92,117]⟩] W fun e w'=>e= .returned (.bool true)∧PB w' p S (k+4+2) false∧Fr [p] W w'):=Hz (fun W hW=>by
   have:=nextW hW hl2 hS [92,117] (by simp)
   rw [hn] at this;exact this)
  have KY:Hid (∀W,PB W p S (k+4+2) false→Calls Tryz.prog 188 #[.pointer (some ⟨p,0,none⟩)] W fun e w'=>e= .returned (.int .i64 (y:Int))∧PB w' p S (k+4+2+4) false∧Fr [p] W w'):=Hz (fun W hW=>fourW hW hS (by omega) hd3)
  have t1:(55296:Int)≤(x:Int):=by omega
  have t2:(x:Int)<56320:=by omega
  have t3: ¬(y:Int)<56320:=by omega
  have t4: ¬(57343:Int)<(y:Int):=by omega
  have d1:decide ((y:Int)<56320)=false:=by simpa using t3
  have d2:decide ((57343:Int)<(y:Int))=false:=by simpa using t4
  have t5:(55296:Int)≤(c:Int):=by omega
  have t6: ¬(c:Int)<57344:=by omega
  have d3:decide ((55296:Int)≤(x:Int))=true:=by simpa using t1
  have d4:decide ((x:Int)<56320)=true:=by simpa using t2
  have d5:decide ((55296:Int)≤(c:Int))=true:=by simpa using t5
  have d6:decide ((c:Int)<57344)=false:=by simpa using t6
  have a1:IntKind.i64.wrap ((x:Int)-55296)=(x:Int)-55296:=IntWalk.i64_in _ (by omega)
  have a2:IntKind.i64.wrap (((x:Int)-55296)*1024)=((x:Int)-55296)*1024:=IntWalk.i64_in _ (by omega)
  have a3:IntKind.i64.wrap (65536+((x:Int)-55296)*1024)=65536+((x:Int)-55296)*1024:=IntWalk.i64_in _ (by omega)
  have a4:IntKind.i64.wrap ((y:Int)-56320)=(y:Int)-56320:=IntWalk.i64_in _ (by omega)
  have a5:IntKind.i64.wrap (65536+((x:Int)-55296)*1024+((y:Int)-56320))=(c:Int):=by rw [IntWalk.i64_in _ (by omega)];omega
  generalize Lib.encodeRune (c:Int)=E at *
  clear hrd hd hd2 hd2' hd3 hn hlen hcx hx hy s2 t1 t2 t3 t4 t5 t6 s1 h6;go_enter Tryz.func137,Tryz.ntmps137
  go_wp2_with fail
  refine K1.out.mono ?_
  rintro e w1 ⟨rfl,hP1,hF1⟩;go_wp2_with fail
  refine (KN.out _ hP1).mono ?_
  rintro e w2 ⟨rfl,hP2,hF2⟩;go_wp2_with fail
  refine (KY.out _ hP2).mono ?_
  rintro e w3 ⟨rfl,hP3,hF3⟩;obtain ⟨⟨c0,c1,c2⟩,f1,f2⟩:=hP3.cells;obtain ⟨hP4,hF4⟩:=hP3.mark false;have hFF:=((hF1.trans hF2).trans hF3).trans hF4;have hR1:=hR.out (w3.setCell ⟨p,2,none⟩ (.bool false));rw [show (w3.setCell ⟨p,2,none⟩ (.bool false)).heap.size=w3.heap.size by simp [World.setCell]] at hR1
  replace hP1:=Hz hP1;replace hP2:=Hz hP2;replace hP3:=Hz hP3;go_wp2;go_ret
  exact ⟨rfl,hP4.fr ((Fr.refl _ _).alloc _),hFF.then0 ((Fr.refl _ _).alloc _)⟩
end
section
open Go.RowKit
theorem txtE_nil (q:UInt8) (n:Nat):txtE q n []=[]:=by cases n<;>rfl
theorem str_one (w:World) (c:UInt8):(convert 59 9 (.slice (some ⟨w.heap.size,0,none⟩) 1 1)).run Tryz.prog (w.alloc (.cells #[.int .u8 (c.toNat:Int)] 5))= .ok (.string ⟨[c].toArray⟩) (w.alloc (.cells #[.int .u8 (c.toNat:Int)] 5)):=by
 have hrd:Rd (w.alloc (.cells #[.int .u8 (c.toNat:Int)] 5)) w.heap.size 0 [c]:=fun j hj=>by
  obtain rfl:j=0:=by simpa using hj
  exact (cell_blk (blk_new w _) 0).trans rfl
 exact toStr hrd 1
theorem cat_one (l:List UInt8) (c:UInt8):(⟨l.toArray⟩:ByteArray)++⟨[c].toArray⟩=⟨(l++[c]).toArray⟩:=mk_append l [c]
theorem quoted39 {w:World} {p k:Nat} {S R b:List UInt8} (hpb:PB w p S k false) (hS:S.length≤1000000000) (hb:b.length≤1000000000) (hv:Lib.validD b=true) (hd:S.drop k=txtE 39 b.length b++39::R):
  Calls Tryz.prog 110 #[.pointer (some ⟨p,0,none⟩),.int .u8 39] w fun e w'=>e= .returned (.string ⟨b.toArray⟩)∧PB w' p S (k+(txtE 39 b.length b).length+1) false∧Fr [p] w w':=by
 have q0:(⟨S.toArray⟩:ByteArray).size=S.length:=by simp [ByteArray.size]
 have hx: ∀j,(h:j<S.length)→((⟨S.toArray⟩:ByteArray)[j]'(by show j<S.toArray.size;simpa using h)).toNat=bt' S j:=bt_at S
 replace hx:=Hz hx;have hP0:=Hz hpb;clear hpb;have hI0:Hid (b.length≤b.length∧Lib.validD b=true∧S.drop k=txtE 39 b.length b++39::R):=Hz ⟨Nat.le_refl _,hv,hd⟩;replace hd:=Hz hd;clear hv;go_enter Tryz.func110,Tryz.ntmps110
 go_wp2_with fail
 go_loopg [5,6] b.length (fun g v5 v6 wr=> ∃(done rest:List UInt8) (n kk:Nat),v5= .string ⟨done.toArray⟩∧Hid (rest.length=g)∧Hid (b=done++rest)∧Hid (rest.length≤n∧Lib.validD rest=true∧S.drop kk=txtE 39 n rest++39::R)∧Hid (PB wr p S kk false)∧Hid (Fr [p] w wr))
 case atStart=>exact ⟨[],b,b.length,k,rfl,Hz rfl,Hz rfl,hI0,hP0,Hz (Fr.refl _ _)⟩
 case round=>
  clear hP0 hI0;obtain ⟨done,rest,n,kk,rfl,hg,hdr,hI,hP,hF⟩:=hrel;have hbl:done.length+rest.length=b.length:=by rw [hdr.out];simp
  obtain ⟨⟨c0,c1,c2⟩,f1,f2⟩:=hP.out.cells;obtain ⟨hn,hvr,hsd⟩:=hI.out;have m1:(0:Int)≤(kk:Int):=by omega
  by_cases hk0:gk=0
  ·have hr:rest=[]:=List.eq_nil_of_length_eq_zero (by have:=hg.out;omega)
   subst hr;obtain rfl:b=done:=by rw [hdr.out];simp
   rw [txtE_nil,List.nil_append] at hsd;obtain ⟨l1,l2,_⟩:=at_head hsd;have hend:kk=k+(txtE 39 b.length b).length:=by
    have h1:=congrArg List.length hsd;have h2:=congrArg List.length hd.out;simp only [List.length_drop,List.length_append,List.length_cons] at h1 h2;omega
   have t1:(kk:Int)<(S.length:Int):=by omega
   have t2:decide ((kk:Int)<(S.length:Int))=true:=by simpa using t1
   have g0:=hx.out kk l1;rw [l2] at g0;have g0':(⟨S.toArray⟩:ByteArray)[kk].toNat=39:=g0;have hnx:=nx_yes (t:=[39]) hsd;have hk1:kk≤S.length:=by omega
   replace hend:=Hz hend;replace hnx:=Hz hnx;clear hsd hn hvr l2 hdr hI g0 hbl;go_wp2_with fail
   go_quiet (fail)
   obtain ⟨hP1,hF1⟩:=And.intro (hP.out.fr ((Fr.refl [] _).drewN nq)) (hF.out.drewN nq);generalize World.drewN wr nq=W1 at *
   clear c0 c1 c2 f1 f2;obtain ⟨⟨c0,c1,c2⟩,f1,f2⟩:=hP1.cells;replace hP1:=Hz hP1;replace hF1:=Hz hF1;have hA:Hid (PB (W1.alloc (.cells #[.int .u8 39] 5)) p S kk false):=Hz (hP1.out.fr ((Fr.refl _ _).alloc _));have hFA:Hid (Fr [p] w (W1.alloc (.cells #[.int .u8 39] 5))):=Hz (hF1.out.then0 ((Fr.refl _ _).alloc _));have hcv:(convert 59 9 (.slice (some ⟨W1.heap.size,0,none⟩) 1 1)).run Tryz.prog (W1.alloc (.cells #[.int .u8 39] 5))= .ok (.string ⟨#[39]⟩) (W1.alloc (.cells #[.int .u8 39] 5)):=str_one W1 39;have KN:Hid (∀W,PB W p S kk false→Calls Tryz.prog 92 #[.pointer (some ⟨p,0,none⟩),.string ⟨#[39]⟩] W fun e w'=>e= .returned (.bool true)∧PB w' p S (kk+1) false∧Fr [p] W w'):=Hz (fun W hW=>by
    have:=nextW hW hk1 hS [39] (by simp)
    rw [hnx.out] at this;exact this)
   go_wp2_with fail
   refine (KN.out _ hA.out).mono ?_
   rintro e w2 ⟨rfl,hP2,hF2⟩;obtain ⟨⟨d0,d1,d2⟩,e1,e2⟩:=hP2.cells;obtain ⟨hP3,hF3⟩:=hP2.mark false;have hFF:=(hFA.out.trans hF2).trans hF3;replace hP2:=Hz hP2;go_wp2;go_ret
   refine ⟨rfl,?_,hFF⟩
   rw [←hend.out];exact hP3
  ·have hrne:rest≠[]:=fun e=>hk0 (by rw [←hg.out,e];rfl)
   obtain ⟨A,T,n',l',hrA,hTx,hn',hA0,hv',hPt⟩:=txt_part (q:=39) n rest hn hrne hvr;have hdr':Hid (b=(done++A)++l'):=Hz (by rw [hdr.out,hrA,List.append_assoc])
   have hA1:=List.length_pos_iff.2 hA0;have hgl:Hid (l'.length<gk):=Hz (by rw [←hg.out,hrA,List.length_append];omega)
   have hrl:rest.length=A.length+l'.length:=by rw [hrA,List.length_append]
   rw [hTx,List.append_assoc] at hsd;have hI':Hid (l'.length≤n'∧Lib.validD l'=true∧S.drop (kk+T.length)=txtE 39 n' l'++39::R):=Hz ⟨hn',hv',at_app hsd⟩;have q1: ¬9223372036854775807<done.length+A.length:=by omega
   clear hn hvr hrne hTx hn' hA0 hv' hrA hI hdr hg;cases hPt with
   |same c hc1 hc2=>
    obtain ⟨l1,l2,_⟩:=at_head hsd;have t1:(kk:Int)<(S.length:Int):=by omega
    have t2:decide ((kk:Int)<(S.length:Int))=true:=by simpa using t1
    have g0:=hx.out kk l1;rw [l2] at g0;have hcv:=Hz (fun w=>str_one w c)
    have hct:=Hz (cat_one done c);have n1:c.toNat≠92:=fun e=>hc1 (UInt8.toNat_inj.1 e)
    have n2:c.toNat≠39:=fun e=>hc2 (UInt8.toNat_inj.1 e)
    obtain ⟨cn,hcn⟩: ∃cn,c.toNat=cn:=⟨_,rfl⟩;rw [hcn] at g0 n1 n2 hcv;have b1:((cn:Int)==92)=false:=by simp;omega
    have b2:((cn:Int)==39)=false:=by simp;omega
    have b3:((cn:Int) !=92)=true:=by simp;omega
    have b4:((cn:Int) !=39)=true:=by simp;omega
    have w1:IntKind.i64.wrap ((kk:Int)+1)=(kk:Int)+1:=IntWalk.i64_in _ (by omega)
    replace hcn:=Hz hcn;rw [show [c].length=1 from rfl] at q1
    clear hsd l2 hc1 hc2 n1 n2;go_wp2_with fail
    go_quiet (fail)
    obtain ⟨hP1,hF1⟩:=And.intro (hP.out.fr ((Fr.refl [] _).drewN nq)) (hF.out.drewN nq);generalize World.drewN wr nq=W1 at *
    clear c0 c1 c2 f1 f2;obtain ⟨⟨c0,c1,c2⟩,f1,f2⟩:=hP1.cells;replace hP1:=Hz hP1;replace hF1:=Hz hF1;go_wp2_with fail
    go_quiet (fail)
    obtain ⟨hP2,hF2⟩:=And.intro (hP1.out.fr ((Fr.refl [] _).drewN nq)) (hF1.out.drewN nq);generalize World.drewN W1 nq=W2 at *
    clear c0 c1 c2 f1 f2;obtain ⟨⟨c0,c1,c2⟩,f1,f2⟩:=hP2.cells;replace hP2:=Hz hP2;replace hF2:=Hz hF2;obtain ⟨hP3,hG3⟩:=hP2.out.put (kk+1) ((kk:Int)+1) (by omega)
    have hF3:=Hz (hF2.out.trans hG3);clear hG3;obtain ⟨⟨c0,c1,c2⟩,f1,f2⟩:=hP3.cells;replace hP3:=Hz hP3;have hP4:=Hz (hP3.out.fr ((Fr.refl [] _).alloc (.cells #[.int .u8 (cn:Int)] 5)));have hF4:=Hz (hF3.out.then0 ((Fr.refl [] _).alloc (.cells #[.int .u8 (cn:Int)] 5)));have hcv2:=hcv.out (W2.setCell ⟨p,1,none⟩ (.int .i64 ((kk:Int)+1)));rw [show (W2.setCell ⟨p,1,none⟩ (.int .i64 ((kk:Int)+1))).heap.size=W2.heap.size by simp [World.setCell]] at hcv2
    have hct2:=hct.out;go_wp2
    go_roundg l'.length
    case measure=>exact hgl.out
    case rel=>exact ⟨done++[c],l',n',kk+1,by first|rfl|(rw [hct2]),Hz rfl,hdr',hI',hP4,hF4⟩
   |esc c x hx'=>
    obtain ⟨l1,l2,hs2⟩:=at_head hsd;obtain ⟨r1,r2,_⟩:=at_head hs2;clear hsd hs2;have t1:(kk:Int)<(S.length:Int):=by omega
    have t2:decide ((kk:Int)<(S.length:Int))=true:=by simpa using t1
    have g0:=hx.out kk l1;rw [l2] at g0;have g0':(⟨S.toArray⟩:ByteArray)[kk].toNat=92:=g0;obtain ⟨m,hm⟩: ∃m,kk+1=m:=⟨_,rfl⟩;rw [hm] at r1 r2;have m2:(0:Int)≤(m:Int):=by omega
    have t3:((m:Int)==(S.length:Int))=false:=by simp;omega
    have t4:(m==S.length)=false:=by simp;omega
    have t5: ¬(m:Int)=(S.length:Int):=by omega
    have t6: ¬m=S.length:=by omega
    have g1:=hx.out m r1;rw [r2] at g1;have w1:IntKind.i64.wrap ((kk:Int)+1)=(kk:Int)+1:=IntWalk.i64_in _ (by omega)
    have w2:IntKind.i64.wrap ((m:Int)+1)=(m:Int)+1:=IntWalk.i64_in _ (by omega)
    replace hm:=Hz hm;clear g0 l2 r2;rw [show [c].length=1 from rfl] at q1
    rcases hx' with ⟨rfl,rfl⟩|⟨rfl,rfl⟩|⟨rfl,rfl⟩|⟨rfl,rfl|rfl⟩
    ·have g1':(⟨S.toArray⟩:ByteArray)[m].toNat=116:=g1;have hct:=Hz (cat_one done 9);clear g1;go_wp2_with fail
     go_quiet (fail)
     obtain ⟨hP1,hF1⟩:=And.intro (hP.out.fr ((Fr.refl [] _).drewN nq)) (hF.out.drewN nq);generalize World.drewN wr nq=W1 at *
     clear c0 c1 c2 f1 f2;obtain ⟨⟨c0,c1,c2⟩,f1,f2⟩:=hP1.cells;replace hP1:=Hz hP1;replace hF1:=Hz hF1;go_wp2_with fail
     go_quiet (fail)
     obtain ⟨hP2,hF2⟩:=And.intro (hP1.out.fr ((Fr.refl [] _).drewN nq)) (hF1.out.drewN nq);generalize World.drewN W1 nq=W2 at *
     clear c0 c1 c2 f1 f2;obtain ⟨⟨c0,c1,c2⟩,f1,f2⟩:=hP2.cells;replace hP2:=Hz hP2;replace hF2:=Hz hF2;obtain ⟨hP3,hG3⟩:=hP2.out.put (m) ((kk:Int)+1) (by have:=hm.out;omega)
     have hF3:=Hz (hF2.out.trans hG3);clear hG3;obtain ⟨⟨c0,c1,c2⟩,f1,f2⟩:=hP3.cells;replace hP3:=Hz hP3;go_wp2_with fail
     go_quiet (fail)
     obtain ⟨hP4,hF4⟩:=And.intro (hP3.out.fr ((Fr.refl [] _).drewN nq)) (hF3.out.drewN nq);generalize World.drewN (W2.setCell ⟨p,1,none⟩ (.int .i64 ((kk:Int)+1))) nq=W4 at *
     clear c0 c1 c2 f1 f2;obtain ⟨⟨c0,c1,c2⟩,f1,f2⟩:=hP4.cells;replace hP4:=Hz hP4;replace hF4:=Hz hF4;go_wp2_with fail
     go_quiet (fail)
     obtain ⟨hP5,hF5⟩:=And.intro (hP4.out.fr ((Fr.refl [] _).drewN nq)) (hF4.out.drewN nq);generalize World.drewN W4 nq=W5 at *
     clear c0 c1 c2 f1 f2;obtain ⟨⟨c0,c1,c2⟩,f1,f2⟩:=hP5.cells;replace hP5:=Hz hP5;replace hF5:=Hz hF5;obtain ⟨hP6,hG6⟩:=hP5.out.put (kk+2) ((m:Int)+1) (by have:=hm.out;omega)
     have hF6:=Hz (hF5.out.trans hG6);clear hG6;obtain ⟨⟨c0,c1,c2⟩,f1,f2⟩:=hP6.cells;replace hP6:=Hz hP6;have hct2:=hct.out;go_wp2
     go_roundg l'.length
     case measure=>exact hgl.out
     case rel=>exact ⟨done++[9],l',n',kk+2,by first|rfl|(rw [hct2]),Hz rfl,hdr',hI',hP6,hF6⟩
    ·have g1':(⟨S.toArray⟩:ByteArray)[m].toNat=110:=g1;have hct:=Hz (cat_one done 10);clear g1;go_wp2_with fail
     go_quiet (fail)
     obtain ⟨hP1,hF1⟩:=And.intro (hP.out.fr ((Fr.refl [] _).drewN nq)) (hF.out.drewN nq);generalize World.drewN wr nq=W1 at *
     clear c0 c1 c2 f1 f2;obtain ⟨⟨c0,c1,c2⟩,f1,f2⟩:=hP1.cells;replace hP1:=Hz hP1;replace hF1:=Hz hF1;go_wp2_with fail
     go_quiet (fail)
     obtain ⟨hP2,hF2⟩:=And.intro (hP1.out.fr ((Fr.refl [] _).drewN nq)) (hF1.out.drewN nq);generalize World.drewN W1 nq=W2 at *
     clear c0 c1 c2 f1 f2;obtain ⟨⟨c0,c1,c2⟩,f1,f2⟩:=hP2.cells;replace hP2:=Hz hP2;replace hF2:=Hz hF2;obtain ⟨hP3,hG3⟩:=hP2.out.put (m) ((kk:Int)+1) (by have:=hm.out;omega)
     have hF3:=Hz (hF2.out.trans hG3);clear hG3;obtain ⟨⟨c0,c1,c2⟩,f1,f2⟩:=hP3.cells;replace hP3:=Hz hP3;go_wp2_with fail
     go_quiet (fail)
     obtain ⟨hP4,hF4⟩:=And.intro (hP3.out.fr ((Fr.refl [] _).drewN nq)) (hF3.out.drewN nq);generalize World.drewN (W2.setCell ⟨p,1,none⟩ (.int .i64 ((kk:Int)+1))) nq=W4 at *
     clear c0 c1 c2 f1 f2;obtain ⟨⟨c0,c1,c2⟩,f1,f2⟩:=hP4.cells;replace hP4:=Hz hP4;replace hF4:=Hz hF4;go_wp2_with fail
     go_quiet (fail)
     obtain ⟨hP5,hF5⟩:=And.intro (hP4.out.fr ((Fr.refl [] _).drewN nq)) (hF4.out.drewN nq);generalize World.drewN W4 nq=W5 at *
     clear c0 c1 c2 f1 f2;obtain ⟨⟨c0,c1,c2⟩,f1,f2⟩:=hP5.cells;replace hP5:=Hz hP5;replace hF5:=Hz hF5;obtain ⟨hP6,hG6⟩:=hP5.out.put (kk+2) ((m:Int)+1) (by have:=hm.out;omega)
     have hF6:=Hz (hF5.out.trans hG6);clear hG6;obtain ⟨⟨c0,c1,c2⟩,f1,f2⟩:=hP6.cells;replace hP6:=Hz hP6;have hct2:=hct.out;go_wp2
     go_roundg l'.length
     case measure=>exact hgl.out
     case rel=>exact ⟨done++[10],l',n',kk+2,by first|rfl|(rw [hct2]),Hz rfl,hdr',hI',hP6,hF6⟩
    ·have g1':(⟨S.toArray⟩:ByteArray)[m].toNat=114:=g1;have hct:=Hz (cat_one done 13);clear g1;go_wp2_with fail
     go_quiet (fail)
     obtain ⟨hP1,hF1⟩:=And.intro (hP.out.fr ((Fr.refl [] _).drewN nq)) (hF.out.drewN nq);generalize World.drewN wr nq=W1 at *
     clear c0 c1 c2 f1 f2;obtain ⟨⟨c0,c1,c2⟩,f1,f2⟩:=hP1.cells;replace hP1:=Hz hP1;replace hF1:=Hz hF1;go_wp2_with fail
     go_quiet (fail)
     obtain ⟨hP2,hF2⟩:=And.intro (hP1.out.fr ((Fr.refl [] _).drewN nq)) (hF1.out.drewN nq);generalize World.drewN W1 nq=W2 at *
     clear c0 c1 c2 f1 f2;obtain ⟨⟨c0,c1,c2⟩,f1,f2⟩:=hP2.cells;replace hP2:=Hz hP2;replace hF2:=Hz hF2;obtain ⟨hP3,hG3⟩:=hP2.out.put (m) ((kk:Int)+1) (by have:=hm.out;omega)
     have hF3:=Hz (hF2.out.trans hG3);clear hG3;obtain ⟨⟨c0,c1,c2⟩,f1,f2⟩:=hP3.cells;replace hP3:=Hz hP3;go_wp2_with fail
     go_quiet (fail)
     obtain ⟨hP4,hF4⟩:=And.intro (hP3.out.fr ((Fr.refl [] _).drewN nq)) (hF3.out.drewN nq);generalize World.drewN (W2.setCell ⟨p,1,none⟩ (.int .i64 ((kk:Int)+1))) nq=W4 at *
     clear c0 c1 c2 f1 f2;obtain ⟨⟨c0,c1,c2⟩,f1,f2⟩:=hP4.cells;replace hP4:=Hz hP4;replace hF4:=Hz hF4;go_wp2_with fail
     go_quiet (fail)
     obtain ⟨hP5,hF5⟩:=And.intro (hP4.out.fr ((Fr.refl [] _).drewN nq)) (hF4.out.drewN nq);generalize World.drewN W4 nq=W5 at *
     clear c0 c1 c2 f1 f2;obtain ⟨⟨c0,c1,c2⟩,f1,f2⟩:=hP5.cells;replace hP5:=Hz hP5;replace hF5:=Hz hF5;obtain ⟨hP6,hG6⟩:=hP5.out.put (kk+2) ((m:Int)+1) (by have:=hm.out;omega)
     have hF6:=Hz (hF5.out.trans hG6);clear hG6;obtain ⟨⟨c0,c1,c2⟩,f1,f2⟩:=hP6.cells;replace hP6:=Hz hP6;have hct2:=hct.out;go_wp2
     go_roundg l'.length
     case measure=>exact hgl.out
     case rel=>exact ⟨done++[13],l',n',kk+2,by first|rfl|(rw [hct2]),Hz rfl,hdr',hI',hP6,hF6⟩
    ·have g1':(⟨S.toArray⟩:ByteArray)[m].toNat=92:=g1;have hct:=Hz (cat_one done 92);clear g1;go_wp2_with fail
     go_quiet (fail)
     obtain ⟨hP1,hF1⟩:=And.intro (hP.out.fr ((Fr.refl [] _).drewN nq)) (hF.out.drewN nq);generalize World.drewN wr nq=W1 at *
     clear c0 c1 c2 f1 f2;obtain ⟨⟨c0,c1,c2⟩,f1,f2⟩:=hP1.cells;replace hP1:=Hz hP1;replace hF1:=Hz hF1;go_wp2_with fail
     go_quiet (fail)
     obtain ⟨hP2,hF2⟩:=And.intro (hP1.out.fr ((Fr.refl [] _).drewN nq)) (hF1.out.drewN nq);generalize World.drewN W1 nq=W2 at *
     clear c0 c1 c2 f1 f2;obtain ⟨⟨c0,c1,c2⟩,f1,f2⟩:=hP2.cells;replace hP2:=Hz hP2;replace hF2:=Hz hF2;obtain ⟨hP3,hG3⟩:=hP2.out.put (m) ((kk:Int)+1) (by have:=hm.out;omega)
     have hF3:=Hz (hF2.out.trans hG3);clear hG3;obtain ⟨⟨c0,c1,c2⟩,f1,f2⟩:=hP3.cells;replace hP3:=Hz hP3;go_wp2_with fail
     go_quiet (fail)
     obtain ⟨hP4,hF4⟩:=And.intro (hP3.out.fr ((Fr.refl [] _).drewN nq)) (hF3.out.drewN nq);generalize World.drewN (W2.setCell ⟨p,1,none⟩ (.int .i64 ((kk:Int)+1))) nq=W4 at *
     clear c0 c1 c2 f1 f2;obtain ⟨⟨c0,c1,c2⟩,f1,f2⟩:=hP4.cells;replace hP4:=Hz hP4;replace hF4:=Hz hF4;go_wp2_with fail
     go_quiet (fail)
     obtain ⟨hP5,hF5⟩:=And.intro (hP4.out.fr ((Fr.refl [] _).drewN nq)) (hF4.out.drewN nq);generalize World.drewN W4 nq=W5 at *
     clear c0 c1 c2 f1 f2;obtain ⟨⟨c0,c1,c2⟩,f1,f2⟩:=hP5.cells;replace hP5:=Hz hP5;replace hF5:=Hz hF5;obtain ⟨hP6,hG6⟩:=hP5.out.put (kk+2) ((m:Int)+1) (by have:=hm.out;omega)
     have hF6:=Hz (hF5.out.trans hG6);clear hG6;obtain ⟨⟨c0,c1,c2⟩,f1,f2⟩:=hP6.cells;replace hP6:=Hz hP6;have hP7:=Hz (hP6.out.fr ((Fr.refl [] _).alloc (.cells #[.int .u8 92] 5)));have hF7:=Hz (hF6.out.then0 ((Fr.refl [] _).alloc (.cells #[.int .u8 92] 5)));have hcv2:=str_one (W5.setCell ⟨p,1,none⟩ (.int .i64 ((m:Int)+1))) 92;rw [show (W5.setCell ⟨p,1,none⟩ (.int .i64 ((m:Int)+1))).heap.size=W5.heap.size by simp [World.setCell]] at hcv2
     have hcv3:(convert 59 9 (.slice (some ⟨W5.heap.size,0,none⟩) 1 1)).run Tryz.prog ((W5.setCell ⟨p,1,none⟩ (.int .i64 ((m:Int)+1))).alloc (.cells #[.int .u8 92] 5))= .ok (.string ⟨#[92]⟩) ((W5.setCell ⟨p,1,none⟩ (.int .i64 ((m:Int)+1))).alloc (.cells #[.int .u8 92] 5)):=hcv2;have hct2:=hct.out;clear hcv2;go_wp2
     go_roundg l'.length
     case measure=>exact hgl.out
     case rel=>exact ⟨done++[92],l',n',kk+2,by first|rfl|(rw [hct2]),Hz rfl,hdr',hI',hP7,hF7⟩
    ·have g1':(⟨S.toArray⟩:ByteArray)[m].toNat=39:=g1;have hct:=Hz (cat_one done 39);clear g1;go_wp2_with fail
     go_quiet (fail)
     obtain ⟨hP1,hF1⟩:=And.intro (hP.out.fr ((Fr.refl [] _).drewN nq)) (hF.out.drewN nq);generalize World.drewN wr nq=W1 at *
     clear c0 c1 c2 f1 f2;obtain ⟨⟨c0,c1,c2⟩,f1,f2⟩:=hP1.cells;replace hP1:=Hz hP1;replace hF1:=Hz hF1;go_wp2_with fail
     go_quiet (fail)
     obtain ⟨hP2,hF2⟩:=And.intro (hP1.out.fr ((Fr.refl [] _).drewN nq)) (hF1.out.drewN nq);generalize World.drewN W1 nq=W2 at *
     clear c0 c1 c2 f1 f2;obtain ⟨⟨c0,c1,c2⟩,f1,f2⟩:=hP2.cells;replace hP2:=Hz hP2;replace hF2:=Hz hF2;obtain ⟨hP3,hG3⟩:=hP2.out.put (m) ((kk:Int)+1) (by have:=hm.out;omega)
     have hF3:=Hz (hF2.out.trans hG3);clear hG3;obtain ⟨⟨c0,c1,c2⟩,f1,f2⟩:=hP3.cells;replace hP3:=Hz hP3;go_wp2_with fail
     go_quiet (fail)
     obtain ⟨hP4,hF4⟩:=And.intro (hP3.out.fr ((Fr.refl [] _).drewN nq)) (hF3.out.drewN nq);generalize World.drewN (W2.setCell ⟨p,1,none⟩ (.int .i64 ((kk:Int)+1))) nq=W4 at *
     clear c0 c1 c2 f1 f2;obtain ⟨⟨c0,c1,c2⟩,f1,f2⟩:=hP4.cells;replace hP4:=Hz hP4;replace hF4:=Hz hF4;go_wp2_with fail
     go_quiet (fail)
     obtain ⟨hP5,hF5⟩:=And.intro (hP4.out.fr ((Fr.refl [] _).drewN nq)) (hF4.out.drewN nq);generalize World.drewN W4 nq=W5 at *
     clear c0 c1 c2 f1 f2;obtain ⟨⟨c0,c1,c2⟩,f1,f2⟩:=hP5.cells;replace hP5:=Hz hP5;replace hF5:=Hz hF5;obtain ⟨hP6,hG6⟩:=hP5.out.put (kk+2) ((m:Int)+1) (by have:=hm.out;omega)
     have hF6:=Hz (hF5.out.trans hG6);clear hG6;obtain ⟨⟨c0,c1,c2⟩,f1,f2⟩:=hP6.cells;replace hP6:=Hz hP6;have hP7:=Hz (hP6.out.fr ((Fr.refl [] _).alloc (.cells #[.int .u8 39] 5)));have hF7:=Hz (hF6.out.then0 ((Fr.refl [] _).alloc (.cells #[.int .u8 39] 5)));have hcv2:=str_one (W5.setCell ⟨p,1,none⟩ (.int .i64 ((m:Int)+1))) 39;rw [show (W5.setCell ⟨p,1,none⟩ (.int .i64 ((m:Int)+1))).heap.size=W5.heap.size by simp [World.setCell]] at hcv2
     have hcv3:(convert 59 9 (.slice (some ⟨W5.heap.size,0,none⟩) 1 1)).run Tryz.prog ((W5.setCell ⟨p,1,none⟩ (.int .i64 ((m:Int)+1))).alloc (.cells #[.int .u8 39] 5))= .ok (.string ⟨#[39]⟩) ((W5.setCell ⟨p,1,none⟩ (.int .i64 ((m:Int)+1))).alloc (.cells #[.int .u8 39] 5)):=hcv2;have hct2:=hct.out;clear hcv2;go_wp2
     go_roundg l'.length
     case measure=>exact hgl.out
     case rel=>exact ⟨done++[39],l',n',kk+2,by first|rfl|(rw [hct2]),Hz rfl,hdr',hI',hP7,hF7⟩
   |num c hc=>
    obtain ⟨l1,l2,hs2⟩:=at_head hsd;obtain ⟨r1,r2,hs3⟩:=at_head hs2;clear hsd hs2;have t1:(kk:Int)<(S.length:Int):=by omega
    have t2:decide ((kk:Int)<(S.length:Int))=true:=by simpa using t1
    have g0:=hx.out kk l1;rw [l2] at g0;have g0':(⟨S.toArray⟩:ByteArray)[kk].toNat=92:=g0;obtain ⟨m,hm⟩: ∃m,kk+1=m:=⟨_,rfl⟩;rw [hm] at r1 r2;have m2:(0:Int)≤(m:Int):=by omega
    have t3:((m:Int)==(S.length:Int))=false:=by simp;omega
    have t4:(m==S.length)=false:=by simp;omega
    have t5: ¬(m:Int)=(S.length:Int):=by omega
    have t6: ¬m=S.length:=by omega
    have g1:=hx.out m r1;rw [r2] at g1;have w1:IntKind.i64.wrap ((kk:Int)+1)=(kk:Int)+1:=IntWalk.i64_in _ (by omega)
    have w2:IntKind.i64.wrap ((m:Int)+1)=(m:Int)+1:=IntWalk.i64_in _ (by omega)
    replace hm:=Hz hm;clear g0 l2 r2;have g1':(⟨S.toArray⟩:ByteArray)[m].toNat=117:=g1;have KE:Hid (∀W,PB W p S (kk+2) false→Calls Tryz.prog 137 #[.pointer (some ⟨p,0,none⟩)] W fun e w'=>e= .returned (.string ⟨(Lib.encodeRune (c:Int)).toArray⟩)∧PB w' p S (kk+2+(runeD c).length) false∧Fr [p] W w'):=Hz (fun W hW=>escapedW hW hS hc hs3)
    have hlT:kk+(92::117::runeD c).length=kk+2+(runeD c).length:=by simp only [List.length_cons];omega
    rw [hlT] at hI';obtain ⟨kk',hkk'⟩: ∃k',kk+2+(runeD c).length=k':=⟨_,rfl⟩;rw [hkk'] at KE hI';generalize Lib.encodeRune (c:Int)=E at *
    have hct:=Hz (mk_append done E);clear g1 hs3 hlT hkk' hc;go_wp2_with fail
    go_quiet (fail)
    obtain ⟨hP1,hF1⟩:=And.intro (hP.out.fr ((Fr.refl [] _).drewN nq)) (hF.out.drewN nq);generalize World.drewN wr nq=W1 at *
    clear c0 c1 c2 f1 f2;obtain ⟨⟨c0,c1,c2⟩,f1,f2⟩:=hP1.cells;replace hP1:=Hz hP1;replace hF1:=Hz hF1;go_wp2_with fail
    go_quiet (fail)
    obtain ⟨hP2,hF2⟩:=And.intro (hP1.out.fr ((Fr.refl [] _).drewN nq)) (hF1.out.drewN nq);generalize World.drewN W1 nq=W2 at *
    clear c0 c1 c2 f1 f2;obtain ⟨⟨c0,c1,c2⟩,f1,f2⟩:=hP2.cells;replace hP2:=Hz hP2;replace hF2:=Hz hF2;obtain ⟨hP3,hG3⟩:=hP2.out.put (m) ((kk:Int)+1) (by have:=hm.out;omega)
    have hF3:=Hz (hF2.out.trans hG3);clear hG3;obtain ⟨⟨c0,c1,c2⟩,f1,f2⟩:=hP3.cells;replace hP3:=Hz hP3;go_wp2_with fail
    go_quiet (fail)
    obtain ⟨hP4,hF4⟩:=And.intro (hP3.out.fr ((Fr.refl [] _).drewN nq)) (hF3.out.drewN nq);generalize World.drewN (W2.setCell ⟨p,1,none⟩ (.int .i64 ((kk:Int)+1))) nq=W4 at *
    clear c0 c1 c2 f1 f2;obtain ⟨⟨c0,c1,c2⟩,f1,f2⟩:=hP4.cells;replace hP4:=Hz hP4;replace hF4:=Hz hF4;go_wp2_with fail
    go_quiet (fail)
    obtain ⟨hP5,hF5⟩:=And.intro (hP4.out.fr ((Fr.refl [] _).drewN nq)) (hF4.out.drewN nq);generalize World.drewN W4 nq=W5 at *
    clear c0 c1 c2 f1 f2;obtain ⟨⟨c0,c1,c2⟩,f1,f2⟩:=hP5.cells;replace hP5:=Hz hP5;replace hF5:=Hz hF5;obtain ⟨hP6,hG6⟩:=hP5.out.put (kk+2) ((m:Int)+1) (by have:=hm.out;omega)
    have hF6:=Hz (hF5.out.trans hG6);clear hG6;obtain ⟨⟨c0,c1,c2⟩,f1,f2⟩:=hP6.cells;replace hP6:=Hz hP6;go_wp2_with fail
    refine (KE.out _ hP6.out).mono ?_
    rintro e w7 ⟨rfl,hP7,hF7⟩;have hF8:=Hz (hF6.out.trans hF7);replace hP7:=Hz hP7;have hct2:=hct.out;go_wp2
    go_roundg l'.length
    case measure=>exact hgl.out
    case rel=>exact ⟨done++E,l',n',kk',by first|rfl|(rw [hct2]),Hz rfl,hdr',hI',hP7,hF8⟩
end
section
open Go.RowKit
theorem nx_no {S R t:List UInt8} {k:Nat} {x y:UInt8} (h:S.drop k=x::R) (hxy:x≠y):nx S k (y::t)=false:=by
 unfold nx;rw [h,decide_eq_false_iff_not,List.length_cons,List.take_succ_cons];intro e;injection e with e
 exact hxy e
theorem nx_no2 {S R t:List UInt8} {k:Nat} {a x y:UInt8} (h:S.drop k=a::x::R) (hxy:x≠y):nx S k (a::y::t)=false:=by
 unfold nx;rw [h,decide_eq_false_iff_not,List.length_cons,List.length_cons,List.take_succ_cons,List.take_succ_cons];intro e;injection e with _ e
 injection e with e
 exact hxy e
theorem txt_head {q:UInt8} (hq:q≠92) {b:List UInt8} (hb:b≠[]) (hv:Lib.validD b=true): ∃x l,txtE q b.length b=x::l∧x≠q:=by
 obtain ⟨A,T,n',l',_,hT,_,_,_,hP⟩:=txt_part (q:=q) b.length b (Nat.le_refl _) hb hv;rw [hT];cases hP with
 |same c h1 h2=>exact ⟨c,_,rfl,h2⟩
 |esc c x h=>exact ⟨92,_,rfl,fun e=>hq e.symm⟩
 |num c h=>exact ⟨92,_,rfl,fun e=>hq e.symm⟩
def ItP (S:List UInt8) (p k':Nat) (g:Gn) (w:World) (e:Ending) (w':World):Prop:=
 ∃kv,e= .returned (.agg (nd g kv).toArray)∧PB w' p S k' false∧Fr [p] w w'∧(∃ao n c,kv= .slice ao n c)∧ ∃bl,(∀b,b∈bl→w.heap.size≤b∧b<w'.heap.size)∧NdV w' bl g kv
theorem PB.lt {w:World} {p k:Nat} {S:List UInt8} {bad:Bool} (h:PB w p S k bad):p<w.heap.size:=blk_lt' h
theorem next_no {p k:Nat} {S t:List UInt8} (hk:k≤S.length) (hS:S.length≤1000000000) (ht:t.length≤1000) (hn:nx S k t=false):
  Hid (∀W,PB W p S k false→Calls Tryz.prog 92 #[.pointer (some ⟨p,0,none⟩),.string ⟨t.toArray⟩] W fun e w'=>e= .returned (.bool false)∧PB w' p S k false∧Fr [p] W w'):=Hz (fun W hW=>by
 have:=nextW hW hk hS t ht;rw [hn] at this;exact this)
theorem next_yes {p k:Nat} {S t:List UInt8} (hk:k≤S.length) (hS:S.length≤1000000000) (ht:t.length≤1000) (hn:nx S k t=true):
  Hid (∀W,PB W p S k false→Calls Tryz.prog 92 #[.pointer (some ⟨p,0,none⟩),.string ⟨t.toArray⟩] W fun e w'=>e= .returned (.bool true)∧PB w' p S (k+t.length) false∧Fr [p] W w'):=Hz (fun W hW=>by
 have:=nextW hW hk hS t ht;rw [hn] at this;exact this)
theorem item39 {w:World} {p k d:Nat} {S R b:List UInt8} (hpb:PB w p S k false) (hS:S.length≤1000000000) (hb:b.length≤1000000000) (hv:Lib.validD b=true) (hne:b≠[]) (hd:S.drop k=qT 39 b++R) (hdp:0<d):
  Calls Tryz.prog 93 #[.pointer (some ⟨p,0,none⟩),.int .i64 (d:Int)] w (ItP S p (k+(qT 39 b).length) (.mk 2 0 0 false false false b []) w):=by
 have hd1:S.drop k=39::(txtE 39 b.length b++39::R):=by
  rw [hd];unfold qT;simp
 obtain ⟨hl,h39,hd2⟩:=at_head hd1;obtain ⟨x,l,hx,hx39⟩:=txt_head (q:=39) (by decide) hne hv
 have hd3:S.drop k=39::x::(l++39::R):=by rw [hd1,hx];rfl
 have hk:k≤S.length:=by omega
 have hlen:k+(qT 39 b).length=k+1+(txtE 39 b.length b).length+1:=by unfold qT;simp;omega
 rw [hlen];have KB:Hid (∀W,PB W p S k false→Calls Tryz.prog 91 #[.pointer (some ⟨p,0,none⟩)] W fun e w'=>(∃u,e= .returned u)∧PB w' p S k false∧Fr [p] W w'):=Hz (fun W hW=>blanksW hW hS 0 (fun j hj=>by omega) (.inr ⟨hl,by rw [Nat.add_zero,h39];rfl⟩))
 have K0:=next_no (p:=p) (t:=[91]) hk hS (by decide) (nx_no hd3 (by decide))
 have K1:=next_no (p:=p) (t:=[123]) hk hS (by decide) (nx_no hd3 (by decide))
 have K2:=next_no (p:=p) (t:=[40,95]) hk hS (by decide) (nx_no hd3 (by decide))
 have K3:=next_no (p:=p) (t:=[60,60]) hk hS (by decide) (nx_no hd3 (by decide))
 have K4:=next_no (p:=p) (t:=[34,34,95]) hk hS (by decide) (nx_no hd3 (by decide))
 have K5:=next_no (p:=p) (t:=[39,39,95]) hk hS (by decide) (nx_no2 hd3 hx39)
 have K6:=next_no (p:=p) (t:=[34]) hk hS (by decide) (nx_no hd3 (by decide))
 have K7:=next_yes (p:=p) (t:=[39]) hk hS (by decide) (nx_yes (show S.drop k=[39]++(txtE 39 b.length b++39::R) from hd1))
 have KQ:Hid (∀W,PB W p S (k+1) false→Calls Tryz.prog 110 #[.pointer (some ⟨p,0,none⟩),.int .u8 39] W fun e w'=>e= .returned (.string ⟨b.toArray⟩)∧PB w' p S (k+1+(txtE 39 b.length b).length+1) false∧Fr [p] W w'):=Hz (fun W hW=>quoted39 hW hS hb hv hd2)
 have q0:(⟨S.toArray⟩:ByteArray).size=S.length:=by simp [ByteArray.size]
 have t1:((k:Int)==(S.length:Int))=false:=by simp;omega
 have t2:(k==S.length)=false:=by simp;omega
 have t3:((d:Int)==0)=false:=by simp;omega
 have t4:(d==0)=false:=by simp;omega
 have hpl:=hpb.lt;have hP0:=Hz (hpb.fr ((Fr.refl [] w).alloc (.cells #[.int .i64 0,.int .u64 0,.int .i64 0,.bool false,.bool false,.bool false,.string ⟨#[]⟩,.slice none 0 0] 45)));have hF0:Fr [p] w (w.alloc (.cells #[.int .i64 0,.int .u64 0,.int .i64 0,.bool false,.bool false,.bool false,.string ⟨#[]⟩,.slice none 0 0] 45)):=(Fr.refl _ _).alloc _;have hb0:=blk_new w (.cells #[.int .i64 0,.int .u64 0,.int .i64 0,.bool false,.bool false,.bool false,.string ⟨#[]⟩,.slice none 0 0] 45);have hrp:w.heap.size≠p:=by omega
 have hpr:p≠w.heap.size:=by omega
 generalize (txtE 39 b.length b).length=tl at *
 clear hpb hd hd1 hd2 hd3 hx hx39 h39 hlen hv hne;replace hF0:=Hz hF0;replace hb0:=Hz hb0;go_enter Tryz.func93,Tryz.ntmps93
 go_wp2_with fail
 refine (KB.out _ hP0.out).mono ?_
 rintro e w1 ⟨⟨u,rfl⟩,hP1,hf1⟩;have hF1:=hF0.out.trans hf1;have hb1:=hf1.blk hb0.out (by simp;omega)
 clear hf1;obtain ⟨⟨c0,c1,c2⟩,f1,f2⟩:=hP1.cells;replace hP1:=Hz hP1;replace hF1:=Hz hF1;replace hb1:=Hz hb1;go_wp2_with fail
 go_quiet (fail)
 obtain ⟨hP2,hF2,hb2⟩:PB (w1.drewN nq) p S k false∧Fr [p] w (w1.drewN nq)∧(w1.drewN nq).heap[w.heap.size]? =_:=⟨hP1.out.fr ((Fr.refl [] _).drewN nq),hF1.out.drewN nq,hb1.out⟩;generalize w1.drewN nq=w2 at *
 clear c0 c1 c2 f1 f2;go_wp2_with fail
 refine (K0.out _ hP2).mono ?_
 rintro e w3 ⟨rfl,hP3,hf⟩;have hF3:=hF2.trans hf;have hb3:=hf.blk hb2 (by simp;omega)
 clear hf hP2 hF2 hb2;go_wp2_with fail
 refine (K1.out _ hP3).mono ?_
 rintro e w4 ⟨rfl,hP4,hf⟩;have hF4:=hF3.trans hf;have hb4:=hf.blk hb3 (by simp;omega)
 clear hf hP3 hF3 hb3;go_wp2_with fail
 refine (K2.out _ hP4).mono ?_
 rintro e w5 ⟨rfl,hP5,hf⟩;have hF5:=hF4.trans hf;have hb5:=hf.blk hb4 (by simp;omega)
 clear hf hP4 hF4 hb4;go_wp2_with fail
 refine (K3.out _ hP5).mono ?_
 rintro e w6 ⟨rfl,hP6,hf⟩;have hF6:=hF5.trans hf;have hb6:=hf.blk hb5 (by simp;omega)
 clear hf hP5 hF5 hb5;go_wp2_with fail
 refine (K4.out _ hP6).mono ?_
 rintro e w7 ⟨rfl,hP7,hf⟩;have hF7:=hF6.trans hf;have hb7:=hf.blk hb6 (by simp;omega)
 clear hf hP6 hF6 hb6;go_wp2_with fail
 refine (K5.out _ hP7).mono ?_
 rintro e w8 ⟨rfl,hP8,hf⟩;have hF8:=hF7.trans hf;have hb8:=hf.blk hb7 (by simp;omega)
 clear hf hP7 hF7 hb7;go_wp2_with fail
 refine (K6.out _ hP8).mono ?_
 rintro e w9 ⟨rfl,hP9,hf⟩;have hF9:=hF8.trans hf;have hb9:=hf.blk hb8 (by simp;omega)
 clear hf hP8 hF8 hb8;go_wp2_with fail
 refine (K7.out _ hP9).mono ?_
 rintro e w10 ⟨rfl,hP10,hf⟩;have hF10:=hF9.trans hf;have hb10:=hf.blk hb9 (by simp;omega)
 clear hf hP9 hF9 hb9;go_wp2_with fail
 refine (KQ.out _ hP10).mono ?_
 rintro e w11 ⟨rfl,hP11,hf⟩;have hF11:=hF10.trans hf;have hb11:=hf.blk hb10 (by simp;omega)
 clear hf hP10 hF10 hb10;obtain ⟨⟨d0,d1,d2,d3,d4,d5,d6,d7⟩,g0,g1,g2,g3,g4,g5,g6,g7⟩:=cells8 hb11;have hW:=Fr.put8 w11 w.heap.size (.int .i64 2) (.int .u64 0) (.int .i64 0) (.bool false) (.bool false) (.bool false) (.string ⟨b.toArray⟩) (.slice none 0 0);have hP12:=Hz (hW.blk hP11 (by simp;omega))
 have hF12:=Hz (hF11.then_ hW (by simp))
 have hlt:=blk_lt' hb11;replace hW:=Hz hW;replace hb11:=Hz hb11;go_wp2;refine bodyPost_ret (v:= .agg #[.int .i64 2,.int .u64 0,.int .i64 0,.bool false,.bool false,.bool false,.string ⟨b.toArray⟩,.slice none 0 0]) (by simp [results,Tryz.results93,go_sem,d0,d1,d2,d3,d4,d5,d6,d7]) rfl ?_
 refine ⟨.slice none 0 0,rfl,hP12.out,hF12.out,⟨_,_,_,rfl⟩,[],by simp,?_⟩
 rw [NdV];exact .inl ⟨rfl,_,_,rfl⟩
end
section
open Go.RowKit
theorem kids_one {w:World} {T:TypeId} {lo:Nat} {v:Value} {g:Gn} (h:KidRow w T lo v [g]): ∃b c kv,v= .slice (some ⟨b,0,none⟩) 1 c∧At w b 0 (nd g kv):=by
 obtain ⟨bl,_,h2⟩:=h.kids;rcases h2 with ⟨h3,_⟩|⟨b,c,h3,_,_,_,h4⟩
 ·cases h3
 ·rw [NdFrom] at h4;obtain ⟨⟨kv,h5,_⟩,_⟩:=h4;exact ⟨b,c,kv,h3,h5⟩
def ListP (S:List UInt8) (p:Nat) (g:Gn) (w:World) (e:Ending) (w':World):Prop:=
 ∃b c kv,e= .returned (.slice (some ⟨b,0,none⟩) 1 c)∧At w' b 0 (nd g kv)∧PB w' p S S.length false∧Fr [p] w w'
theorem list39 {w:World} {p:Nat} {S b:List UInt8} (hpb:PB w p S 0 false) (hS:S.length≤1000000000) (hb:b.length≤1000000000) (hv:Lib.validD b=true) (hne:b≠[]) (hd:S=qT 39 b):
  Calls Tryz.prog 66 #[.pointer (some ⟨p,0,none⟩),.string ⟨#[]⟩,.int .i64 200] w (ListP S p (.mk 2 0 0 false false false b []) w):=by
 have hS0:0<S.length:=by rw [hd];unfold qT;simp
 have h39:bt' S 0=39:=by rw [hd];rfl
 have KB:Hid (∀W,PB W p S 0 false→Calls Tryz.prog 91 #[.pointer (some ⟨p,0,none⟩)] W fun e w'=>(∃u,e= .returned u)∧PB w' p S 0 false∧Fr [p] W w'):=Hz (fun W hW=>blanksW hW hS 0 (fun j hj=>by omega) (.inr ⟨hS0,by rw [h39];rfl⟩))
 have KB2:Hid (∀W,PB W p S S.length false→Calls Tryz.prog 91 #[.pointer (some ⟨p,0,none⟩)] W fun e w'=>(∃u,e= .returned u)∧PB w' p S S.length false∧Fr [p] W w'):=Hz (fun W hW=>blanksW hW hS 0 (fun j hj=>by omega) (.inl rfl))
 have KI:Hid (∀W,PB W p S 0 false→Calls Tryz.prog 93 #[.pointer (some ⟨p,0,none⟩),.int .i64 199] W (ItP S p S.length (.mk 2 0 0 false false false b []) W)):=Hz (fun W hW=>by
  have:=item39 (d:=199) (R:=[]) hW hS hb hv hne (by rw [List.drop_zero,List.append_nil];exact hd) (by omega)
  rw [Nat.zero_add,←hd] at this;exact this)
 have q0:(⟨S.toArray⟩:ByteArray).size=S.length:=by simp [ByteArray.size]
 have hbb:=bq_self ⟨([]:List UInt8).toArray⟩;have t1:((0:Int)==(S.length:Int))=false:=by simp;omega
 have t2:(0==S.length)=false:=by simp;omega
 have hP0:=Hz hpb;have hpl:=hpb.lt;clear hpb hd hv hne h39;go_enter Tryz.func66,Tryz.ntmps66
 go_wp2_with fail
 refine (KB.out _ hP0.out).mono ?_
 rintro e w1 ⟨⟨u,rfl⟩,hP1,hF1⟩;obtain ⟨⟨c0,c1,c2⟩,f1,f2⟩:=hP1.cells;replace hP1:=Hz hP1;replace hF1:=Hz hF1;go_wp2_with fail
 go_quiet (fail)
 obtain ⟨hP2,hF2⟩:=And.intro (hP1.out.fr ((Fr.refl [] w1).drewN nq)) (hF1.out.drewN nq);generalize w1.drewN nq=w2 at *
 clear c0 c1 c2 f1 f2 hP0;replace hP2:=Hz hP2;replace hF2:=Hz hF2;go_wp2_with fail
 go_loopg [7] 1 (fun g v7 wr=>v7= .slice none 0 0∧Hid (PB wr p S 0 false)∧Hid (Fr [p] w wr))
 case atStart=>exact ⟨rfl,hP2,hF2⟩
 case round=>
  clear hP1 hF1 hP2 hF2;obtain ⟨rfl,hP,hF⟩:=hrel;obtain ⟨⟨c0,c1,c2⟩,f1,f2⟩:=hP.out.cells;go_wp2_with fail
  refine (KI.out _ hP.out).mono ?_
  rintro e w3 ⟨kv,he,hP3,hf3,⟨ao,kn,kc,rfl⟩,bl,hbl,hnd⟩;rw [nd_mk] at he;subst he;have hF3:=hF.out.trans hf3;have hsz:=hF.out.size;have hs3:=hF3.size;have hAT:Hid (∀(W:World) (b':Nat),W.heap[b']? =some (.cells #[.int .i64 ((2:Nat):Int),.int .u64 ((0:Nat):Int),.int .i64 ((0:Nat):Int),.bool false,.bool false,.bool false,.string ⟨b.toArray⟩,.slice ao kn kc] 45 (0,0))→At W b' 0 (nd (.mk 2 0 0 false false false b []) (.slice ao kn kc))):=Hz (fun W b' h=>at_blk h)
  have hnd':Hid (∀W,Fr [] w3 W→ ∃bl,(∀d,d∈bl→w.heap.size≤d∧d<W.heap.size∧(Value.slice none 0 0).ownBlock≠some d)∧NdV W bl (.mk 2 0 0 false false false b []) (.slice ao kn kc)):=Hz (fun W hW=>⟨bl,fun d hd=>⟨by have:=(hbl d hd).1;omega,Nat.lt_of_lt_of_le (hbl d hd).2 hW.size,fun e=>by cases e⟩,hnd.fr (fun d hd=>hW.block d (hbl d hd).2 (by simp)) (fun d hd=>hd) _ _⟩)
  clear c0 c1 c2 f1 f2 hbl hnd hf3;replace hP3:=Hz hP3;replace hF3:=Hz hF3;go_wp2_with (at_builtin;refine wpList_apNode rfl _ _ rfl (B:=w.heap.size) _ [] (.mk 2 0 0 false false false b []) (.slice ao kn kc) w3.heap.size 1 rfl rfl (hAT.out _ _ (blk_new' _ _ (by simp))) (KidRow.nil _ _ _) (hnd'.out _ ((Fr.refl _ _).alloc _)) (by simp;omega) (by simp) ?_)
  intro v' w4 hrow hg;have hF4:Fr [] w3 w4:=Fr.grown ((Fr.refl [] w3).alloc _) hg (fun d hd=>by cases hd)
  have hP4:=hP3.out.fr hF4;have hF5:=hF3.out.then0 hF4;clear hg hAT hnd';obtain ⟨b',c,kv',rfl,hat⟩:=kids_one hrow;replace hrow:=Hz hrow;replace hat:=Hz hat;go_wp2_with fail
  refine (KB2.out _ hP4).mono ?_
  rintro e w5 ⟨⟨u2,rfl⟩,hP5,hf5⟩;have hF6:=hF5.trans hf5;obtain ⟨b2,c2',kv2,hv2,hat2⟩:=kids_one (hrow.out.fr hf5 (by simp;omega))
  obtain ⟨⟨c0,c1,c2⟩,f1,f2⟩:=hP5.cells;replace hP5:=Hz hP5;replace hat2:=Hz hat2;replace hv2:=Hz hv2;go_wp2_with fail
  go_quiet (fail)
  go_wp2;go_ret
  exact ⟨b2,c2',kv2,congrArg _ hv2.out,fun j u h=>((Fr.refl [] w5).drewN _).cell (hat2.out j u h) (by simp),hP5.out.fr ((Fr.refl _ _).drewN _),hF6.drewN _⟩
end
section
open Go.RowKit
theorem notation39 (b:List UInt8) (hb:b.length≤1000000) (hv:Lib.validD b=true) (hne:b≠[]) (w:World):
  Calls Tryz.prog 34 #[.string ⟨(qT 39 b).toArray⟩] w fun e w'=> ∃g c kv,e= .returned (.tuple #[.slice (some ⟨g,0,none⟩) 1 c,.bool true])∧At w' g 0 (nd (.mk 2 0 0 false false false b []) kv)∧Fr [] w w':=by
 have hS:=qT_length 39 b;obtain ⟨S,hSe⟩: ∃S,qT 39 b=S:=⟨_,rfl⟩;have hP0:PB (w.alloc (.cells #[.string ⟨S.toArray⟩,.int .i64 0,.bool false] 110)) w.heap.size S 0 false:=blk_new w _;have hF0:Hid (Fr [] w (w.alloc (.cells #[.string ⟨S.toArray⟩,.int .i64 0,.bool false] 110))):=Hz ((Fr.refl _ _).alloc _);have KL:=Hz (list39 hP0 (by rw [←hSe];omega) (by omega) hv hne hSe.symm)
 have q0:(⟨S.toArray⟩:ByteArray).size=S.length:=by simp [ByteArray.size]
 rw [hSe];replace hP0:=Hz hP0;clear hS hSe hv hne;go_enter Tryz.func34,Tryz.ntmps34
 go_wp2_with fail
 refine KL.out.mono ?_
 rintro e w1 ⟨g,c,kv,rfl,hat,hP1,hF1⟩;have hF2:Fr [] w w1:=hF0.out.then_ hF1 (by simp)
 obtain ⟨⟨c0,c1,c2⟩,f1,f2⟩:=hP1.cells;replace hat:=Hz hat;replace hP1:=Hz hP1;go_wp2_with fail
 go_quiet (fail)
 go_wp2;refine bodyPost_ret (v:= .tuple #[.slice (some ⟨g,0,none⟩) 1 c,.bool true]) (by simp [results,Tryz.results34,go_sem, *]) rfl ?_
 exact ⟨g,c,kv,rfl,fun j u h=>((Fr.refl [] w1).drewN _).cell (hat.out j u h) (by simp),hF2.drewN _⟩
end
section
section
open Go.RowKit
theorem headB_le (m n f:Nat):(headB m n f).length≤9:=by
 unfold headB
 split
 ·simp
 ·rw [List.length_cons,beB_length];have h1:=lgB_lt f n;have:=Nat.pow_le_pow_right (n:=2) (by omega) (show lgB f n≤3 by omega)
  omega
end
end
section
open Go.RowKit
theorem hexS {w:World} {xs:List UInt8} (hlen:xs.length≤1099511627776):
  Calls Tryz.prog 48 #[.string ⟨xs.toArray⟩] w fun e w'=>e= .returned (.string ⟨(hexB hexD xs).toArray⟩)∧Fr [] w w':=by
 have K:=Hz (based (w:=w) (n:=4) (ds:=hexD) (xs:=xs) (by decide) (by decide) (by decide) hlen)
 rw [←base4];clear hlen;go_enter Tryz.func48,Tryz.ntmps48
 go_wp2_with fail
 refine K.out.mono ?_
 rintro e w1 ⟨rfl,hf⟩;go_wp2;go_ret
 exact ⟨rfl,hf⟩
theorem byteString_0 {w:World} {xs:List UInt8} (hlen:xs.length≤1099511627776):
  Calls Tryz.prog 37 #[.string ⟨xs.toArray⟩,.int .i64 0] w fun e w'=>e= .returned (.string ⟨(noteB 0 false xs).toArray⟩)∧Fr [] w w':=by
 have K:=Hz (hexS (w:=w) (xs:=xs) hlen);have hl:(hexB hexD xs).length≤8*xs.length:=by rw [hexB_length];omega
 rw [noteB_0,←List.append_assoc];generalize hexB hexD xs=m at *
 have hq1: ¬9223372036854775807<2+m.length:=by omega
 have hq2: ¬9223372036854775807<2+m.length+1:=by omega
 go_enter Tryz.func37,Tryz.ntmps37
 go_wp2_with fail
 refine K.out.mono ?_
 rintro e w1 ⟨rfl,hf⟩;go_wp2;go_ret
 exact ⟨by rw [show (⟨#[104,39]⟩:ByteArray)=⟨([104,39]:List UInt8).toArray⟩ from rfl,show (⟨#[39]⟩:ByteArray)=⟨([39]:List UInt8).toArray⟩ from rfl,mk_append,mk_append];rfl,hf⟩
theorem byteString_1 {w:World} {xs:List UInt8} (hlen:xs.length≤1099511627776):
  Calls Tryz.prog 37 #[.string ⟨xs.toArray⟩,.int .i64 1] w fun e w'=>e= .returned (.string ⟨(noteB 1 false xs).toArray⟩)∧Fr [] w w':=by
 have K:=Hz (based (w:=w) (n:=5) (ds:=b32D) (xs:=xs) (by decide) (by decide) (by decide) hlen)
 have hl:(baseB 5 b32D xs).length≤8*xs.length:=by exact baseB_length 5 (by decide) _ _
 rw [noteB_1,←List.append_assoc];generalize baseB 5 b32D xs=m at *
 have hq1: ¬9223372036854775807<4+m.length:=by omega
 have hq2: ¬9223372036854775807<4+m.length+1:=by omega
 go_enter Tryz.func37,Tryz.ntmps37
 go_wp2_with fail
 refine K.out.mono ?_
 rintro e w1 ⟨rfl,hf⟩;go_wp2;go_ret
 exact ⟨by rw [show (⟨#[98,51,50,39]⟩:ByteArray)=⟨([98,51,50,39]:List UInt8).toArray⟩ from rfl,show (⟨#[39]⟩:ByteArray)=⟨([39]:List UInt8).toArray⟩ from rfl,mk_append,mk_append];rfl,hf⟩
theorem byteString_2 {w:World} {xs:List UInt8} (hlen:xs.length≤1099511627776):
  Calls Tryz.prog 37 #[.string ⟨xs.toArray⟩,.int .i64 2] w fun e w'=>e= .returned (.string ⟨(noteB 2 false xs).toArray⟩)∧Fr [] w w':=by
 have K:=Hz (based (w:=w) (n:=5) (ds:=h32D) (xs:=xs) (by decide) (by decide) (by decide) hlen)
 have hl:(baseB 5 h32D xs).length≤8*xs.length:=by exact baseB_length 5 (by decide) _ _
 rw [noteB_2,←List.append_assoc];generalize baseB 5 h32D xs=m at *
 have hq1: ¬9223372036854775807<4+m.length:=by omega
 have hq2: ¬9223372036854775807<4+m.length+1:=by omega
 go_enter Tryz.func37,Tryz.ntmps37
 go_wp2_with fail
 refine K.out.mono ?_
 rintro e w1 ⟨rfl,hf⟩;go_wp2;go_ret
 exact ⟨by rw [show (⟨#[104,51,50,39]⟩:ByteArray)=⟨([104,51,50,39]:List UInt8).toArray⟩ from rfl,show (⟨#[39]⟩:ByteArray)=⟨([39]:List UInt8).toArray⟩ from rfl,mk_append,mk_append];rfl,hf⟩
theorem byteString_3 {w:World} {xs:List UInt8} (hlen:xs.length≤1099511627776):
  Calls Tryz.prog 37 #[.string ⟨xs.toArray⟩,.int .i64 3] w fun e w'=>e= .returned (.string ⟨(noteB 3 false xs).toArray⟩)∧Fr [] w w':=by
 have K:=Hz (based (w:=w) (n:=6) (ds:=b64D) (xs:=xs) (by decide) (by decide) (by decide) hlen)
 have hl:(baseB 6 b64D xs).length≤8*xs.length:=by exact baseB_length 6 (by decide) _ _
 rw [noteB_3,←List.append_assoc];generalize baseB 6 b64D xs=m at *
 have hq1: ¬9223372036854775807<4+m.length:=by omega
 have hq2: ¬9223372036854775807<4+m.length+1:=by omega
 go_enter Tryz.func37,Tryz.ntmps37
 go_wp2_with fail
 refine K.out.mono ?_
 rintro e w1 ⟨rfl,hf⟩;go_wp2;go_ret
 exact ⟨by rw [show (⟨#[98,54,52,39]⟩:ByteArray)=⟨([98,54,52,39]:List UInt8).toArray⟩ from rfl,show (⟨#[39]⟩:ByteArray)=⟨([39]:List UInt8).toArray⟩ from rfl,mk_append,mk_append];rfl,hf⟩
theorem byteString {w:World} {xs:List UInt8} (hlen:xs.length≤1099511627776) (enc:Nat) (h4:enc<4):
  Calls Tryz.prog 37 #[.string ⟨xs.toArray⟩,.int .i64 (enc:Int)] w fun e w'=>e= .returned (.string ⟨(noteB enc false xs).toArray⟩)∧Fr [] w w':=by
 have h:enc=0∨enc=1∨enc=2∨enc=3:=by omega
 rcases h with rfl|rfl|rfl|rfl
 ·exact byteString_0 hlen
 ·exact byteString_1 hlen
 ·exact byteString_2 hlen
 ·exact byteString_3 hlen
end
section
open Go.RowKit
theorem optionsC (a x y z:Int) (sp tx em sq pr:Bool) (k:Nat) (hk:wrap64 ((IntKind.u64.wrap a).tmod 4)=(k:Int)) (w:World):
  Calls Tryz.prog 22 #[.agg #[.int .i64 a,.bool sp,.bool tx,.bool em,.bool sq,.bool pr,.int .i64 x,.int .i64 y,.int .i64 z]] w fun e w'=>e= .returned (diagOpts .i64 ⟨k,sp,tx,em,sq,pr⟩ 0)∧Fr [] w w':=by
 unfold diagOpts;go_enter Tryz.func22,Tryz.ntmps22
 go_wp2;exact bodyPost_ret (v:= .agg #[.int .i64 (k:Int),.bool sp,.bool tx,.bool em,.bool sq,.bool pr,.int .i64 0,.int .i64 0,.int .i64 0]) (by simp [results,Tryz.results22,go_sem]) rfl ⟨rfl,((Fr.refl [] w).alloc _).alloc _⟩
end
section
open Go.RowKit
instance (ss:List (List UInt8)):Decidable (Fits2 ss):=inferInstanceAs (Decidable (_∧_))
end
section
open Go.RowKit
theorem NdIn.kids {w:World} {t:Tr} {kv:Value} (h:NdIn w t kv): ∃ao c g,kv= .slice ao t.ks.length c∧(t.ks≠[]→ao=some ⟨g,0,none⟩∧t.ks.length≤c)∧ ∀j (hj:j<t.ks.length),∃kv',At w g (8*j) (nd (gn t.ks[j]) kv')∧NdIn w t.ks[j] kv':=by
 obtain ⟨bl,h1,h2⟩:=h;rw [ndV_ks,gn_ks] at h2;rcases h2 with ⟨h3,ao,c,rfl⟩|⟨g,c,rfl,h3,h4,h5,h6⟩
 ·have h0:t.ks=[]:=by
   cases hk:t.ks with
   |nil=>rfl
   |cons u l=>rw [hk] at h3;simp [gns] at h3
  exact ⟨ao,c,0,by rw [h0];rfl,fun h=>absurd h0 h,fun j hj=>absurd hj (by rw [h0];simp)⟩
 ·rw [gns_length] at h3;refine ⟨some ⟨g,0,none⟩,c,g,by rw [gns_length],fun _=>⟨rfl,h3⟩,fun j hj=> ?_⟩
  have:=NdFrom.at_ (gns t.ks) 0 j (gn t.ks[j]) h6 (by rw [gns_get,List.getElem?_eq_getElem hj];rfl)
  rw [Nat.zero_add] at this;obtain ⟨kv',q1,q2⟩:=this;exact ⟨kv',q1,bl,h1,q2⟩
end
section
open Go.RowKit
section
variable {M:Md} {m:Nat}
theorem str_enc (b:List UInt8) (hb:b.length≤100000):Enc (headB 2 b.length 0++b) (.str false b) 0 (headB 2 b.length 0++b).length:=by
 obtain ⟨ai,hh,ha⟩:=hd_headB 2 b.length 0 (by omega) (by omega) [] b
 rw [List.nil_append,List.length_nil,Nat.zero_add] at hh;rw [Enc];refine ⟨ai,b.length,_,hh,by omega,by simp,by omega,by simp,?_⟩
 rw [List.drop_left,List.take_length]
theorem str_text {sq:Bool} (b:List UInt8) (hb:b.length≤100000):diagR L0 M sq (headB 2 b.length 0++b)=txt (byA L0 M b):=by
 have h2:=headB_le 2 b.length 0;rw [diagR_enc sq (str_enc b hb) (by rw [List.length_append];omega) (by simp [Tr.lev]),note]
 rfl
end
end
section
open Go.RowKit
theorem cells9 {w:World} {b:Nat} {a0 a1 a2 a3 a4 a5 a6 a7 a8:Value} (h:w.heap[b]? =some (.cells #[a0,a1,a2,a3,a4,a5,a6,a7,a8] 24 (0,0))):
  (w.cell? ⟨b,0,none⟩=some a0∧w.cell? ⟨b,1,none⟩=some a1∧w.cell? ⟨b,2,none⟩=some a2∧w.cell? ⟨b,3,none⟩=some a3∧w.cell? ⟨b,4,none⟩=some a4∧w.cell? ⟨b,5,none⟩=some a5∧w.cell? ⟨b,6,none⟩=some a6∧w.cell? ⟨b,7,none⟩=some a7∧w.cell? ⟨b,8,none⟩=some a8)∧
  w.frozen? ⟨b,0,none⟩=false∧w.frozen? ⟨b,1,none⟩=false∧w.frozen? ⟨b,2,none⟩=false∧w.frozen? ⟨b,3,none⟩=false∧w.frozen? ⟨b,4,none⟩=false∧w.frozen? ⟨b,5,none⟩=false∧w.frozen? ⟨b,6,none⟩=false∧w.frozen? ⟨b,7,none⟩=false∧w.frozen? ⟨b,8,none⟩=false:=
 ⟨⟨cell_blk h 0,cell_blk h 1,cell_blk h 2,cell_blk h 3,cell_blk h 4,cell_blk h 5,cell_blk h 6,cell_blk h 7,cell_blk h 8⟩,frozen_blk h 0,frozen_blk h 1,frozen_blk h 2,frozen_blk h 3,frozen_blk h 4,frozen_blk h 5,frozen_blk h 6,frozen_blk h 7,frozen_blk h 8⟩
end
section
open Go.RowKit
theorem by_text {k:Nat} {p:List UInt8} (hl:p.length≤1000000) (hne:p≠[]):byA L0 ⟨k,false,true,false,false,false⟩ p=if Lib.validD p=true then qT 39 p else noteB k false p:=by
 rw [byA_eq _ _ _ (by omega)]
 by_cases hv:Lib.validD p=true
 ·rw [if_pos ⟨hne,rfl,hv⟩,if_pos hv]
 ·rw [if_neg (fun h=>hv h.2.2),if_neg (fun h=>by cases h.2.1),if_neg hv]
theorem text_any {w:World} (p:List UInt8) (a:Int) (hu:U8 w):Calls Tryz.prog 17 #[.string ⟨p.toArray⟩,.int .i64 a] w fun e w'=>e= .returned (.bool true)∧Fr [] w w':=by
 by_cases h1:p.length≤2147483647
 ·have t1: ¬(2147483647:Int)<(p.length:Int):=by omega
  by_cases h2:p.length≤300
  ·have t2: ¬(300:Int)<(p.length:Int):=by omega
   by_cases hne:p=[]
   ·subst hne;have hbb:=bq_self ⟨([]:List UInt8).toArray⟩;go_enter Tryz.func17,Tryz.ntmps17
    go_wp2;go_ret
    exact ⟨rfl,Fr.refl _ _⟩
   ·obtain ⟨k,hk,_,hk2⟩:=rem_nat a 4 (by decide) (by decide)
    have KO:=fun w=>optionsC a 0 0 0 false true false false false k hk2 w
    unfold diagOpts at KO;replace KO:=Hz KO;have KH:=Hz (fun w=>head 2 p.length (by omega) (by omega) w)
    have hhl:=headB_le 2 p.length 0;have KB:=Hz (fun W=>byteString (w:=W) (xs:=p) (by omega) k hk)
    have KV:=fun W=>valid p (by omega) W
    have KD:=diag_of (sq:=false) hk (by rw [List.length_append];omega) (str_text (M:=⟨k,false,true,false,false,false⟩) (sq:=false) p (by omega))
    obtain ⟨T,hT⟩: ∃T,byA L0 ⟨k,false,true,false,false,false⟩ p=T:=⟨_,rfl⟩;have hTv:=hT;rw [by_text (by omega) hne] at hTv
    rw [hT] at KD;have KNt:Hid (Lib.validD p=true→ ∀W,Calls Tryz.prog 34 #[.string ⟨(qT 39 p).toArray⟩] W fun e w'=> ∃g c kv,e= .returned (.tuple #[.slice (some ⟨g,0,none⟩) 1 c,.bool true])∧At w' g 0 (nd (.mk 2 0 0 false false false p []) kv)∧Fr [] W w'):=Hz (fun hv W=>notation39 p (by omega) hv hne W)
    obtain ⟨V,hV⟩: ∃V,Lib.validD p=V:=⟨_,rfl⟩;rw [hV] at KV hTv KNt;obtain ⟨H,hH⟩: ∃H,headB 2 p.length 0=H:=⟨_,rfl⟩;rw [hH] at KH KD hhl;have gu:IntKind.u64.wrap (p.length:Int)=(p.length:Int):=by show (p.length:Int)%18446744073709551616=_;omega
    have q1: ¬9223372036854775807<H.length+p.length:=by omega
    have hbp:=bq_self ⟨p.toArray⟩;have hpe:((⟨p.toArray⟩:ByteArray)==⟨([]:List UInt8).toArray⟩)=false:=bq_ne hne;have hpe2:(p==[])=false:=by simpa using hne
    have hpe3:p.isEmpty=false:=by simpa using hne
    have g1:(⟨(H++p).toArray⟩:ByteArray)=⟨H.toArray⟩++⟨p.toArray⟩:=(mk_append _ _).symm;rw [g1] at KD;clear g1 hH hhl h1 hT hV;replace hne:=Hz hne;replace hu:=Hz hu;replace KD:=Hz KD;replace KV:=Hz KV;replace hTv:=Hz hTv;go_enter Tryz.func17,Tryz.ntmps17
    go_wp2_with fail
    refine (KO.out _).mono ?_
    rintro e w1 ⟨rfl,hf1⟩;have hF2:Fr [] w (w1.alloc (.cells #[.int .i64 (k:Int),.bool false,.bool true,.bool false,.bool false,.bool false,.int .i64 0,.int .i64 0,.int .i64 0] 24)):=hf1.alloc _;have hbo:(w1.alloc (.cells #[.int .i64 (k:Int),.bool false,.bool true,.bool false,.bool false,.bool false,.int .i64 0,.int .i64 0,.int .i64 0] 24)).heap[w1.heap.size]? =some (.cells #[.int .i64 (k:Int),.bool false,.bool true,.bool false,.bool false,.bool false,.int .i64 0,.int .i64 0,.int .i64 0] 24 (0,0)):=blk_new w1 _;clear hf1;go_upto_region 6 with fail
    generalize w1.alloc (.cells #[.int .i64 (k:Int),.bool false,.bool true,.bool false,.bool false,.bool false,.int .i64 0,.int .i64 0,.int .i64 0] 24)=w2 at *
    have KEEP: ∀W,Fr [] w2 W→W.cell? ⟨w1.heap.size,0,none⟩=some (.int .i64 (k:Int))∧W.cell? ⟨w1.heap.size,1,none⟩=some (.bool false)∧W.cell? ⟨w1.heap.size,2,none⟩=some (.bool true)∧W.cell? ⟨w1.heap.size,3,none⟩=some (.bool false)∧W.cell? ⟨w1.heap.size,4,none⟩=some (.bool false)∧W.cell? ⟨w1.heap.size,5,none⟩=some (.bool false)∧W.cell? ⟨w1.heap.size,6,none⟩=some (.int .i64 0)∧W.cell? ⟨w1.heap.size,7,none⟩=some (.int .i64 0)∧W.cell? ⟨w1.heap.size,8,none⟩=some (.int .i64 0):=fun W hf=>(cells9 (hf.blk hbo (by simp))).1
    obtain ⟨o0,o1,o2,o3,o4,o5,o6,o7,o8⟩:=KEEP w2 (Fr.refl _ _);replace KEEP:=Hz KEEP;replace hbo:=Hz hbo
    go_region_held3 (fun w'=>w'.cell? ⟨w1.heap.size,0,none⟩=some (.int .i64 (k:Int))∧w'.cell? ⟨w1.heap.size,1,none⟩=some (.bool false)∧w'.cell? ⟨w1.heap.size,2,none⟩=some (.bool true)∧w'.cell? ⟨w1.heap.size,3,none⟩=some (.bool false)∧w'.cell? ⟨w1.heap.size,4,none⟩=some (.bool false)∧w'.cell? ⟨w1.heap.size,5,none⟩=some (.bool false)∧w'.cell? ⟨w1.heap.size,6,none⟩=some (.int .i64 0)∧w'.cell? ⟨w1.heap.size,7,none⟩=some (.int .i64 0)∧w'.cell? ⟨w1.heap.size,8,none⟩=some (.int .i64 0)) (first|go_keep|exact KEEP.out _ hfA|exact KEEP.out _ hfB)
     (first|(go_at_call 25;refine (KH.out _).mono ?_;rintro e wA ⟨rfl,hfA0⟩;have hfA:Fr [] w2 wA:=((Fr.refl [] w2).drewN 1).trans hfA0)|(go_at_call 26;refine (KD.out _ (hu.out.fr (hF2.trans hfA) (by simp))).mono ?_;rintro e wB ⟨rfl,hfB0⟩;have hfB:=hfA.trans hfB0))
    have hFB:=hF2.trans hfB;clear o0 o1 o2 o3 o4 o5 o6 o7 o8;obtain ⟨o0,_⟩:=KEEP.out _ hfB;go_wp2_with fail
    refine (KV.out _).mono ?_
    rintro e w3 ⟨rfl,rfl⟩;cases V with
    |false=>
     have hT2:noteB k false p=T:=hTv.out;rw [hT2] at KB;have hbt:=bq_self ⟨T.toArray⟩;go_wp2_with fail
     refine (KB.out _).mono ?_
     rintro e w7 ⟨rfl,hf7⟩;go_wp2;go_ret
     exact ⟨rfl,hFB.trans hf7⟩
    |true=>
     have hT2:qT 39 p=T:=hTv.out;have KN:=KNt.out rfl;rw [hT2] at KN;replace KN:=Hz KN;have hT0:T≠[]:=by rw [←hT2];unfold qT;simp
     have hTl:=List.length_pos_iff.2 hT0;have hTe:((⟨T.toArray⟩:ByteArray)==⟨([]:List UInt8).toArray⟩)=false:=bq_ne hT0;have hTe2:(T==[])=false:=by simpa using hT0
     have hTe3:T.isEmpty=false:=by simpa using hT0
     have g0:=bt_at T 0 hTl;rw [show bt' T 0=39 by rw [←hT2];rfl] at g0
     replace hT0:=Hz hT0;clear hT2;go_wp2_with fail
     refine (KN.out _).mono ?_
     rintro e w7 ⟨g,c,kv,rfl,hat,hf7⟩;have k0:w7.cell? ⟨g,0,none⟩=some (.int .i64 2):=hat 0 _ rfl;have k3:w7.cell? ⟨g,3,none⟩=some (.bool false):=hat 3 _ rfl;have k6:w7.cell? ⟨g,6,none⟩=some (.string ⟨p.toArray⟩):=hat 6 _ rfl;replace hat:=Hz hat;go_wp2;go_ret
     exact ⟨rfl,hFB.trans hf7⟩
  ·have t2:(300:Int)<(p.length:Int):=by omega
   go_enter Tryz.func17,Tryz.ntmps17
   go_wp2;go_ret
   exact ⟨rfl,Fr.refl _ _⟩
 ·have t1:(2147483647:Int)<(p.length:Int):=by omega
  go_enter Tryz.func17,Tryz.ntmps17
  go_wp2;go_ret
  exact ⟨rfl,Fr.refl _ _⟩
end
section
open Go.ChangeShapes Go.WideShapes Go.RowKit
open Go.ChangeMaps (open_string)
theorem text_lifted (os:Os) (started:os.Started) (H:Type) (enc:TypeId×Value→H):
  ReturnsInHanded {} Tryz.checked os 17 .any (fun w args=>(Rows.fnDiagTextSpec.pre enc Tryz.prog Tryz.f17 [] false w args∧laidMetH Tryz.prog laidU w)∧sizedMet enc Tryz.prog Tryz.f17 (OpenSpec.ofChange Rows.fnDiagTextSpec) false w args)
   (Rows.fnDiagTextSpec.post enc Tryz.prog Tryz.f17 false true false false):=by
 refine lift_row os started enc (by kernel_rfl) Tryz.func17 rfl rfl ?_ ?_
  (ChangeSpec.witness_at (enc:=enc) (C:=Tryz.checked) (os:=os) (X:=fun w _=>laidMetH Tryz.prog laidU w) false (laidWorld os) #[.string ⟨#[]⟩,.int .i64 0] 8 rfl (by kernel_rfl) (by kernel_rfl) (by kernel_rfl) (by kernel_rfl) (by kernel_rfl) (laid_met os _)) ?_
 ·intro ds h;rw [Tryz.params17] at h
  match ds,h with
  |[d1,d2],_=>rfl
 ·rw [Tryz.params17];intro t ht;have ht2:t=9∨t=3:=by simpa using ht
  rcases ht2 with rfl|rfl
  all_goals exact ⟨by kernel_rfl,of_decide_eq_true (by kernel_rfl)⟩
 ·intro W base args ds ps hval hA hu;rw [Tryz.params17] at hA hval;obtain ⟨v0,v1,d0,d1,p0,p1,rfl,rfl,rfl,h0,h1⟩:=trodAll_two hA;obtain ⟨s,rfl,_⟩:=open_string Tryz.underlying9 (hval 0 9 v0 rfl rfl) h0;obtain ⟨a,rfl,_⟩:=open_int Tryz.underlying3 (hval 1 3 v1 rfl rfl) h1;rw [show (Value.string s)= .string ⟨s.data.toList.toArray⟩ from by cases s;simp]
  exact text_any _ a hu
theorem text_f1:Tryz.prog.inPlace 17=Rows.fnDiagTextRow.inPlace:=by kernel_rfl
theorem text_f2:Tryz.prog.unfollowed 17=Rows.fnDiagTextRow.unfollowed:=by kernel_rfl
theorem text_f3:Tryz.prog.recurses 17=Rows.fnDiagTextRow.recurses:=by kernel_rfl
theorem text_f4:Tryz.prog.varsNamed 17=Rows.fnDiagTextRow.named:=by kernel_rfl
theorem text_facts:joinedFacts Tryz.prog 17 Tryz.f17 Rows.fnDiagTextSpec Rows.fnDiagTextRow=true:=by
 unfold joinedFacts;rw [text_f1,text_f2,text_f3,text_f4,Tryz.mayEnter,Tryz.liftsFinal,Tryz.make,Tryz.mapsRowed,Tryz.plainKeys,Tryz.stopsHeard,Tryz.laidOut]
 kernel_rfl
theorem text_goes:false=Rows.fnDiagTextRow.goesBy Tryz.prog:=by kernel_rfl
theorem text_name:Tryz.prog.funcNamed "pub-necessaire/laws.FnDiagText" =some 17:=by kernel_rfl
theorem text_row:Rows.FnDiagTextSaid:=
 OpenClaim.holds_of_wide 17 Tryz.f17 rfl rfl rfl rfl rfl rfl rfl ⟨rfl,rfl,rfl,rfl,rfl⟩ rfl rfl rfl rfl rfl text_name Tryz.func17 text_facts
  (of_decide_eq_true (by kernel_rfl)) (by unfold Func.isWrapper;first|(rw [if_pos (by decide+kernel)];kernel_rfl)|(rw [if_neg (by decide+kernel)];exact ⟨rfl,rfl⟩))
  (fun os started H enc _=>text_lifted os started H enc)
theorem text_card:Rows.FnDiagTextCardSaid:=
 Claim7.holds_tied_plain_at .later [] [.data,.pinned] true (true, "6290c9495f33fe9badd3dbfab1b5d898f91c774e4e5da1dae7cabe16e93ab7d6") true
  text_row (fun _ h=>by cases h) (by kernel_rfl) (fun _ h=>by cases h) fnDiagText_row_tie rfl ⟨rfl,rfl⟩ Tryz.mainIs rfl
  (fun f fn hf hfn=>by
   obtain rfl:f=17:=Option.some.inj (text_name.symm.trans hf)|>.symm
   obtain rfl:fn=Tryz.f17:=(Option.some.inj (Tryz.func17.symm.trans hfn)).symm;exact ⟨by kernel_rfl,fun j t ht=>by
    rw [Tryz.params17] at ht;rcases j with _|_|j
    ·have h3:t=9:=by simpa using ht.symm
     subst h3;exact (show Tryz.prog.wantsStandIn 9=false by kernel_rfl)
    ·have h3:t=3:=by simpa using ht.symm
     subst h3;exact (show Tryz.prog.wantsStandIn 3=false by kernel_rfl)
    ·simp at ht⟩)
  text_goes
end
end Go.Proofs.YteodinhkhhaafaaGreatDoor
