/- Walks of the program, and plain facts. -/
import Derived.Test.YteodinhkhhaafaaGreatDoorEan
set_option linter.unusedVariables false
set_option linter.unusedSimpArgs false
set_option maxRecDepth 100000
set_option maxHeartbeats 6400000
namespace Go.Proofs.YteodinhkhhaafaaGreatDoor
section
open Go.RowKit
def Tr.ks:Tr→List Tr
 | .chk _ l=>l
 | .arr _ l=>l
 | .map _ l=>l
 | .tag _ t=>[t]
 |_=>[]
theorem gn_ks (t:Tr):(gn t).ks=gns t.ks:=by
 cases t<;>simp [gn,Gn.ks,Tr.ks,gns]
theorem gns_get: ∀(l:List Tr) (j:Nat),(gns l)[j]? =l[j]?.map gn
 |[],j=>by simp [gns]
 |t::l,0=>by simp [gns]
 |t::l,j+1=>by simp [gns,gns_get l j]
theorem mem_sizeOf {u:Tr}: ∀{l:List Tr},u∈l→SizeOf.sizeOf u<SizeOf.sizeOf l
 |[],h=>by cases h
 |v::l,h=>by
  rcases List.mem_cons.1 h with rfl|h
  ·simp;omega
  ·have:=mem_sizeOf h;simp;omega
theorem ks_lt {t u:Tr} (h:u∈t.ks):SizeOf.sizeOf u<SizeOf.sizeOf t:=by
 cases t with
 |chk tx l=>have:=mem_sizeOf (l:=l) h;simp;omega
 |arr o l=>have:=mem_sizeOf (l:=l) h;simp;omega
 |map o l=>have:=mem_sizeOf (l:=l) h;simp;omega
 |tag n t=>simp [Tr.ks] at h;subst h;simp;omega
 |int neg n=>simp [Tr.ks] at h
 |str tx b=>simp [Tr.ks] at h
 |prim ai v=>simp [Tr.ks] at h
def Tr.hm:Tr→Nat
 | .tag _ t=>(gn t).maj
 |_=>0
theorem snd_unf (V:List UInt8→Bool) (t:Tr):t.snd V=(!((gn t).maj==3&&((gn t).opn==false)&& !V (gn t).tex)&& !((gn t).maj==6&&((gn t).num==2||(gn t).num==3)&&t.hm !=2)&&Tr.snds V t.ks):=by
 cases t with
 |str tx b=>cases tx<;>simp [Tr.snd,gn,Gn.maj,Gn.opn,Gn.tex,Gn.num,majS,Tr.ks,Tr.snds]
 |chk tx l=>cases tx<;>simp [Tr.snd,gn,Gn.maj,Gn.opn,Gn.tex,Gn.num,majS,Tr.ks,Tr.snds]
 |int neg n=>cases neg<;>simp [Tr.snd,gn,Gn.maj,Gn.opn,Gn.tex,Gn.num,majS,Tr.ks,Tr.snds]
 |arr o l=>simp [Tr.snd,gn,Gn.maj,Gn.opn,Gn.tex,Gn.num,majS,Tr.ks,Tr.snds]
 |map o l=>simp [Tr.snd,gn,Gn.maj,Gn.opn,Gn.tex,Gn.num,majS,Tr.ks,Tr.snds]
 |prim ai v=>simp [Tr.snd,gn,Gn.maj,Gn.opn,Gn.tex,Gn.num,majS,Tr.ks,Tr.snds]
 |tag n u=>
  have hb: ∀a b:Bool,(!a||b)= !(a&& !b):=by decide
  cases u with
  |str tx b=>cases tx<;>simp [Tr.snd,gn,Gn.maj,Gn.opn,Gn.tex,Gn.num,Tr.ks,Tr.snds,Tr.hm,majS]
  |chk tx b=>cases tx<;>simp [Tr.snd,gn,Gn.maj,Gn.opn,Gn.tex,Gn.num,Tr.ks,Tr.snds,Tr.hm,majS]
  |int neg n=>cases neg<;>simp [Tr.snd,gn,Gn.maj,Gn.opn,Gn.tex,Gn.num,Tr.ks,Tr.snds,Tr.hm]
  |arr o l=>simp [Tr.snd,gn,Gn.maj,Gn.opn,Gn.tex,Gn.num,Tr.ks,Tr.snds,Tr.hm]
  |map o l=>simp [Tr.snd,gn,Gn.maj,Gn.opn,Gn.tex,Gn.num,Tr.ks,Tr.snds,Tr.hm]
  |tag m t=>simp [Tr.snd,gn,Gn.maj,Gn.opn,Gn.tex,Gn.num,Tr.ks,Tr.snds,Tr.hm]
  |prim ai v=>simp [Tr.snd,gn,Gn.maj,Gn.opn,Gn.tex,Gn.num,Tr.ks,Tr.snds,Tr.hm]
theorem lev_unf (t:Tr):t.lev=Tr.levs t.ks+(if 4≤(gn t).maj∧(gn t).maj≤6 then 1 else 0):=by
 cases t with
 |str tx b=>cases tx<;>simp [Tr.lev,gn,Gn.maj,majS,Tr.ks,Tr.levs]
 |chk tx l=>cases tx<;>simp [Tr.lev,gn,Gn.maj,majS,Tr.ks,Tr.levs]
 |int neg n=>cases neg<;>simp [Tr.lev,gn,Gn.maj,majS,Tr.ks,Tr.levs]
 |arr o l=>simp [Tr.lev,gn,Gn.maj,Tr.ks]
 |map o l=>simp [Tr.lev,gn,Gn.maj,Tr.ks]
 |prim ai v=>simp [Tr.lev,gn,Gn.maj,Tr.ks,Tr.levs]
 |tag n u=>simp [Tr.lev,gn,Gn.maj,Tr.ks,Tr.levs]
theorem snds_take (V:List UInt8→Bool): ∀(l:List Tr),Tr.snds V l=true↔ ∀u,u∈l→u.snd V=true
 |[]=>by simp [Tr.snds]
 |t::l=>by simp [Tr.snds,snds_take V l]
theorem levs_le: ∀(l:List Tr) (u:Tr),u∈l→u.lev≤Tr.levs l
 |[],u,h=>by cases h
 |t::l,u,h=>by
  rw [Tr.levs];rcases List.mem_cons.1 h with rfl|h
  ·omega
  ·have:=levs_le l u h;omega
end
section
open Go.RowKit
def argF:List UInt8→Option (Nat×Nat×Nat×List UInt8)
 |[]=>none
 |b::l=>
  if b.toNat%32<24∨b.toNat%32=31 then some (b.toNat/32,b.toNat%32,b.toNat%32,l)
  else if 27<b.toNat%32∨l.length<2^(b.toNat%32-24) then none
  else some (b.toNat/32,b.toNat%32,be (l.take (2^(b.toNat%32-24))),l.drop (2^(b.toNat%32-24)))
def argV:Option (Nat×Nat×Nat×List UInt8)→Value
 |none=> .tuple #[.int .i64 0,.int .i64 0,.int .u64 0,.string ⟨#[]⟩,.bool false]
 |some (m,ai,v,r)=> .tuple #[.int .i64 (m:Int),.int .i64 (ai:Int),.int .u64 (v:Int),.string ⟨r.toArray⟩,.bool true]
theorem str_drop (xs:List UInt8) (k:Nat) (h:k≤xs.length):(⟨xs.toArray⟩:ByteArray).extract k xs.length=⟨(xs.drop k).toArray⟩:=by
 apply ByteArray.ext
 rw [ByteArray.data_extract];apply Array.ext'
 simp only [List.extract_toArray,List.extract_eq_take_drop,List.toList_toArray];exact List.take_of_length_le (by rw [List.length_drop];omega)
theorem str_take (xs:List UInt8) (k:Nat) (h:k≤xs.length):(⟨xs.toArray⟩:ByteArray).extract 0 k=⟨(xs.take k).toArray⟩:=by
 apply ByteArray.ext
 rw [ByteArray.data_extract];apply Array.ext'
 simp [List.extract_eq_take_drop]
theorem be_snoc (bs:List UInt8) (c:UInt8):be (bs++[c])=be bs*256+c.toNat:=by simp [be]
theorem take_snoc (l:List UInt8) (i:Nat) (h:i<l.length):l.take (i+1)=l.take i++[l[i]]:=by
 rw [List.take_add_one,List.getElem?_eq_getElem h];rfl
theorem arg_hd (xs:List UInt8) (off:Nat):match hd xs off with
  | .ok (m,ai,v,o)=>argF (xs.drop off)=some (m,ai,v,xs.drop o)∧ ¬(ai=31∧(m<2∨5<m))∧ ¬(m=7∧ai=24∧v<32)
  | .error _=>argF (xs.drop off)=none∨ ∃m ai v r,argF (xs.drop off)=some (m,ai,v,r)∧((ai=31∧(m<2∨5<m))∨(m=7∧ai=24∧v<32)):=by
 unfold hd;cases hx:xs[off]? with
 |none=>
  have:xs.drop off=[]:=List.drop_eq_nil_of_le (by simpa using hx)
  rw [this];exact .inl rfl
 |some b=>
  obtain ⟨hl,rfl⟩:=List.getElem?_eq_some_iff.1 hx;have hd:xs.drop off=xs[off]::xs.drop (off+1):=List.drop_eq_getElem_cons hl;have hb:=xs[off].toNat_lt;dsimp only;by_cases h1:xs[off].toNat%32<24
  ·rw [if_pos h1];dsimp only;rw [hd,argF,if_pos (.inl h1)];exact ⟨rfl,by omega,by omega⟩
  ·rw [if_neg h1];by_cases h2:xs[off].toNat%32<28
   ·rw [if_pos h2];by_cases h3:xs.length<off+1+2^(xs[off].toNat%32-24)
    ·rw [if_pos h3];dsimp only;refine .inl ?_
     rw [hd,argF,if_neg (by omega),if_pos (.inr (by rw [List.length_drop];omega))]
    ·rw [if_neg h3];have ha:argF (xs.drop off)=some (xs[off].toNat/32,xs[off].toNat%32,be ((xs.drop (off+1)).take (2^(xs[off].toNat%32-24))),xs.drop (off+1+2^(xs[off].toNat%32-24))):=by
      rw [hd,argF,if_neg (by omega),if_neg (by rw [List.length_drop];omega),List.drop_drop]
     by_cases h4:xs[off].toNat/32=7∧xs[off].toNat%32=24∧be ((xs.drop (off+1)).take 1)<32
     ·rw [if_pos h4];dsimp only;refine .inr ⟨_,_,_,_,ha,.inr ⟨h4.1,h4.2.1,?_⟩⟩
      rw [h4.2.1];exact h4.2.2
     ·rw [if_neg h4];dsimp only;refine ⟨ha,by omega,fun ⟨e1,e2,e3⟩=>h4 ⟨e1,e2,?_⟩⟩
      rw [e2] at e3;exact e3
   ·rw [if_neg h2];by_cases h5:xs[off].toNat%32=31
    ·rw [if_pos h5];have ha:argF (xs.drop off)=some (xs[off].toNat/32,31,31,xs.drop (off+1)):=by
      rw [hd,argF,if_pos (.inr h5),h5]
     by_cases h6:xs[off].toNat/32<2∨5<xs[off].toNat/32
     ·rw [if_pos h6];dsimp only;exact .inr ⟨_,_,_,_,ha,.inl ⟨rfl,h6⟩⟩
     ·rw [if_neg h6];dsimp only;exact ⟨ha,fun h=>h6 h.2,by omega⟩
    ·rw [if_neg h5];dsimp only;refine .inl ?_
     rw [hd,argF,if_neg (by omega),if_pos (.inl (by omega))]
theorem be_lt': ∀(l:List UInt8) (a k:Nat),a<256^k→List.foldl (fun a (b:UInt8)=>a*256+b.toNat) a l<256^(k+l.length)
 |[],a,k,h=>by simpa using h
 |b::l,a,k,h=>by
  have hb:=b.toNat_lt;have:=be_lt' l (a*256+b.toNat) (k+1) (by rw [Nat.pow_succ];omega)
  rw [List.foldl_cons,List.length_cons,show k+(l.length+1)=k+1+l.length by omega]
  exact this
theorem be_take_lt (l:List UInt8) (i:Nat) (h:i<8):be (l.take i)<72057594037927936:=by
 have h1:=be_lt' (l.take i) 0 0 (by decide)
 rw [Nat.zero_add,List.length_take] at h1;have h2:=Nat.pow_le_pow_right (n:=256) (by decide) (show min i l.length≤7 by omega)
 exact Nat.lt_of_lt_of_le h1 h2
theorem or8u (x b:Nat) (hx:x<72057594037927936) (hb:b<256):bits .or .u64 ((x:Int)*256) (b:Int)=((x*256+b:Nat):Int):=by
 have h1:=u64_or_nat (x*256) b (by omega) (by omega)
 have t:=Nat.two_pow_add_eq_or_of_lt (i:=8) (b:=b) hb x;rw [Nat.mul_comm (2^8) x] at t;rw [show (x:Int)*256=((x*256:Nat):Int) by omega,h1,←t]
theorem res5a {fn:Func} {t u v x y:Tmp} (h:fn.results= #[.tmp t,.tmp u,.tmp v,.tmp x,.tmp y]) (tmps:Array Value) (P:Program) (w:World):
  (results fn tmps).run P w= .ok (.tuple #[tmps.getD t undef,tmps.getD u undef,tmps.getD v undef,tmps.getD x undef,tmps.getD y undef]) w:=by simp [results,h]
theorem str_cons_ne (b:UInt8) (l:List UInt8):((⟨(b::l).toArray⟩:ByteArray)==⟨#[]⟩)=false:=by
 refine Bool.eq_false_iff.2 fun h=> ?_
 have h2:((b::l).toArray==(#[]:Array UInt8))=true:=h;have h3:=eq_of_beq h2;simp at h3
theorem argument (s:List UInt8) (hl:s.length≤1099511627776) (w:World):Calls Tryz.prog 95 #[.string ⟨s.toArray⟩] w fun e w'=>e= .returned (argV (argF s))∧Fr [] w w':=by
 cases s with
 |nil=>
  have he:((⟨(#[]:Array UInt8)⟩:ByteArray)==⟨#[]⟩)=true:=by decide
  go_enter Tryz.func95,Tryz.ntmps95
  go_wp2;refine bodyPost_ret (res5a rfl _ _ _) rfl ?_
  exact ⟨rfl,Fr.refl _ _⟩
 |cons b l=>
  have hb:=b.toNat_lt;rw [List.length_cons] at hl;have he:=str_cons_ne b l;have hx0:((⟨(b::l).toArray⟩:ByteArray)[0]'(by show 0<(b::l).toArray.size;simp))=b:=rfl
  have ha:=and31 b;have hd1:=str_drop (b::l) 1 (by simp)
  rw [List.length_cons,List.drop_succ_cons,List.drop_zero] at hd1;have hsz:(⟨(b::l).toArray⟩:ByteArray).size=l.length+1:=by simp [ByteArray.size]
  have hsl:(⟨l.toArray⟩:ByteArray).size=l.length:=by simp [ByteArray.size]
  have hm:(b.toNat:Int)/32=((b.toNat/32:Nat):Int):=by omega
  have hR:argF (b::l)=argF (b::l):=rfl
  conv at hR=>rhs;rw [argF]
  obtain ⟨A,hA⟩: ∃A,A=b.toNat%32:=⟨_,rfl⟩;obtain ⟨M,hM⟩: ∃M,M=b.toNat/32:=⟨_,rfl⟩;rw [←hA] at ha hR;rw [←hM] at hm hR;have hA32:A<32:=by omega
  have hM8:M<8:=by omega
  clear hA hM;by_cases c1:A<24∨A=31
  ·rw [if_pos c1] at hR;rw [hR];clear hR;by_cases c2:A<24
   ·have t1:(A:Int)<24:=by omega
    go_enter Tryz.func95,Tryz.ntmps95
    go_wp2
    go_quiet (fail)
    go_wp2;refine bodyPost_ret (res5a rfl _ _ _) rfl ?_
    exact ⟨rfl,(Fr.refl _ _).drewN _⟩
   ·obtain rfl:A=31:=by omega
    go_enter Tryz.func95,Tryz.ntmps95
    go_wp2
    go_quiet (fail)
    go_wp2;refine bodyPost_ret (res5a rfl _ _ _) rfl ?_
    exact ⟨rfl,(Fr.refl _ _).drewN _⟩
  ·rw [if_neg c1] at hR;by_cases c3:27<A
   ·rw [if_pos (.inl c3)] at hR;rw [hR];clear hR;have hA3:A=28∨A=29∨A=30:=by omega
    clear c1 c3;rcases hA3 with rfl|rfl|rfl
    all_goals
     go_enter Tryz.func95,Tryz.ntmps95
     go_wp2
     go_quiet (fail)
     go_wp2;refine bodyPost_ret (res5a rfl _ _ _) rfl ?_
     exact ⟨rfl,(Fr.refl _ _).drewN _⟩
   ·have hA4:A=24∨A=25∨A=26∨A=27:=by omega
    clear c1 c3;rcases hA4 with rfl|rfl|rfl|rfl
    ·by_cases c4:l.length<1
     ·rw [if_pos (.inr c4)] at hR;rw [hR];clear hR;have t4:(l.length:Int)<1:=by omega
      go_enter Tryz.func95,Tryz.ntmps95
      go_wp2
      go_quiet (fail)
      go_wp2;refine bodyPost_ret (res5a rfl _ _ _) rfl ?_
      exact ⟨rfl,(Fr.refl _ _).drewN _⟩
     ·rw [if_neg (by show ¬(_∨l.length<1);omega)] at hR
      change _=some (M,_,be (l.take 1),l.drop 1) at hR;rw [hR];clear hR;have t4: ¬(l.length:Int)<1:=by omega
      have hd2:=str_drop l 1 (by omega)
      obtain ⟨r,hr⟩: ∃r,r=l.drop 1:=⟨_,rfl⟩;rw [←hr] at hd2 ⊢;clear hr;go_enter Tryz.func95,Tryz.ntmps95
      go_wp2
      go_quiet (fail)
      go_wp2
      go_loopg [10,11] 1 (fun k v10 v11 wr=> ∃i:Nat,v11= .int .i64 (i:Int)∧i+k=1∧v10= .int .u64 (be (l.take i):Int)∧Fr [] w wr)
      case atStart=>exact ⟨0,by go_num,by omega,by rfl,(Fr.refl _ _).drewN _⟩
      case round=>
       obtain ⟨i,rfl,hi,rfl,hF⟩:=hrel;by_cases hk:gk=0
       ·subst hk;obtain rfl:i=1:=by omega
        go_wp2
        go_quiet (fail)
        go_wp2;refine bodyPost_ret (res5a rfl _ _ _) rfl ?_
        exact ⟨rfl,hF.drewN _⟩
       ·obtain ⟨g,rfl⟩: ∃g,gk=g+1:=⟨gk-1,by omega⟩
        have hil:i<l.length:=by omega
        have t5:(i:Int)<1:=by omega
        have hxi:((⟨l.toArray⟩:ByteArray)[i]'(by show i<l.toArray.size;simpa using hil))=l[i]:=rfl
        have hbl:=l[i].toNat_lt;have hbt:=be_take_lt l i (by omega)
        have ho:=or8u (be (l.take i)) l[i].toNat (by omega) (by omega)
        rw [←be_snoc,←take_snoc l i hil] at ho;generalize l[i]=x at hxi hbl ho;generalize hy:be (l.take (i+1))=y at ho;go_wp2
        go_roundg g
        case measure=>omega
        case rel=>exact ⟨i+1,by go_num,by omega,by rw [hy],hF⟩
    ·by_cases c4:l.length<2
     ·rw [if_pos (.inr c4)] at hR;rw [hR];clear hR;have t4:(l.length:Int)<2:=by omega
      go_enter Tryz.func95,Tryz.ntmps95
      go_wp2
      go_quiet (fail)
      go_wp2;refine bodyPost_ret (res5a rfl _ _ _) rfl ?_
      exact ⟨rfl,(Fr.refl _ _).drewN _⟩
     ·rw [if_neg (by show ¬(_∨l.length<2);omega)] at hR
      change _=some (M,_,be (l.take 2),l.drop 2) at hR;rw [hR];clear hR;have t4: ¬(l.length:Int)<2:=by omega
      have hd2:=str_drop l 2 (by omega)
      obtain ⟨r,hr⟩: ∃r,r=l.drop 2:=⟨_,rfl⟩;rw [←hr] at hd2 ⊢;clear hr;go_enter Tryz.func95,Tryz.ntmps95
      go_wp2
      go_quiet (fail)
      go_wp2
      go_loopg [10,11] 2 (fun k v10 v11 wr=> ∃i:Nat,v11= .int .i64 (i:Int)∧i+k=2∧v10= .int .u64 (be (l.take i):Int)∧Fr [] w wr)
      case atStart=>exact ⟨0,by go_num,by omega,by rfl,(Fr.refl _ _).drewN _⟩
      case round=>
       obtain ⟨i,rfl,hi,rfl,hF⟩:=hrel;by_cases hk:gk=0
       ·subst hk;obtain rfl:i=2:=by omega
        go_wp2
        go_quiet (fail)
        go_wp2;refine bodyPost_ret (res5a rfl _ _ _) rfl ?_
        exact ⟨rfl,hF.drewN _⟩
       ·obtain ⟨g,rfl⟩: ∃g,gk=g+1:=⟨gk-1,by omega⟩
        have hil:i<l.length:=by omega
        have t5:(i:Int)<2:=by omega
        have hxi:((⟨l.toArray⟩:ByteArray)[i]'(by show i<l.toArray.size;simpa using hil))=l[i]:=rfl
        have hbl:=l[i].toNat_lt;have hbt:=be_take_lt l i (by omega)
        have ho:=or8u (be (l.take i)) l[i].toNat (by omega) (by omega)
        rw [←be_snoc,←take_snoc l i hil] at ho;generalize l[i]=x at hxi hbl ho;generalize hy:be (l.take (i+1))=y at ho;go_wp2
        go_roundg g
        case measure=>omega
        case rel=>exact ⟨i+1,by go_num,by omega,by rw [hy],hF⟩
    ·by_cases c4:l.length<4
     ·rw [if_pos (.inr c4)] at hR;rw [hR];clear hR;have t4:(l.length:Int)<4:=by omega
      go_enter Tryz.func95,Tryz.ntmps95
      go_wp2
      go_quiet (fail)
      go_wp2;refine bodyPost_ret (res5a rfl _ _ _) rfl ?_
      exact ⟨rfl,(Fr.refl _ _).drewN _⟩
     ·rw [if_neg (by show ¬(_∨l.length<4);omega)] at hR
      change _=some (M,_,be (l.take 4),l.drop 4) at hR;rw [hR];clear hR;have t4: ¬(l.length:Int)<4:=by omega
      have hd2:=str_drop l 4 (by omega)
      obtain ⟨r,hr⟩: ∃r,r=l.drop 4:=⟨_,rfl⟩;rw [←hr] at hd2 ⊢;clear hr;go_enter Tryz.func95,Tryz.ntmps95
      go_wp2
      go_quiet (fail)
      go_wp2
      go_loopg [10,11] 4 (fun k v10 v11 wr=> ∃i:Nat,v11= .int .i64 (i:Int)∧i+k=4∧v10= .int .u64 (be (l.take i):Int)∧Fr [] w wr)
      case atStart=>exact ⟨0,by go_num,by omega,by rfl,(Fr.refl _ _).drewN _⟩
      case round=>
       obtain ⟨i,rfl,hi,rfl,hF⟩:=hrel;by_cases hk:gk=0
       ·subst hk;obtain rfl:i=4:=by omega
        go_wp2
        go_quiet (fail)
        go_wp2;refine bodyPost_ret (res5a rfl _ _ _) rfl ?_
        exact ⟨rfl,hF.drewN _⟩
       ·obtain ⟨g,rfl⟩: ∃g,gk=g+1:=⟨gk-1,by omega⟩
        have hil:i<l.length:=by omega
        have t5:(i:Int)<4:=by omega
        have hxi:((⟨l.toArray⟩:ByteArray)[i]'(by show i<l.toArray.size;simpa using hil))=l[i]:=rfl
        have hbl:=l[i].toNat_lt;have hbt:=be_take_lt l i (by omega)
        have ho:=or8u (be (l.take i)) l[i].toNat (by omega) (by omega)
        rw [←be_snoc,←take_snoc l i hil] at ho;generalize l[i]=x at hxi hbl ho;generalize hy:be (l.take (i+1))=y at ho;go_wp2
        go_roundg g
        case measure=>omega
        case rel=>exact ⟨i+1,by go_num,by omega,by rw [hy],hF⟩
    ·by_cases c4:l.length<8
     ·rw [if_pos (.inr c4)] at hR;rw [hR];clear hR;have t4:(l.length:Int)<8:=by omega
      go_enter Tryz.func95,Tryz.ntmps95
      go_wp2
      go_quiet (fail)
      go_wp2;refine bodyPost_ret (res5a rfl _ _ _) rfl ?_
      exact ⟨rfl,(Fr.refl _ _).drewN _⟩
     ·rw [if_neg (by show ¬(_∨l.length<8);omega)] at hR
      change _=some (M,_,be (l.take 8),l.drop 8) at hR;rw [hR];clear hR;have t4: ¬(l.length:Int)<8:=by omega
      have hd2:=str_drop l 8 (by omega)
      obtain ⟨r,hr⟩: ∃r,r=l.drop 8:=⟨_,rfl⟩;rw [←hr] at hd2 ⊢;clear hr;go_enter Tryz.func95,Tryz.ntmps95
      go_wp2
      go_quiet (fail)
      go_wp2
      go_loopg [10,11] 8 (fun k v10 v11 wr=> ∃i:Nat,v11= .int .i64 (i:Int)∧i+k=8∧v10= .int .u64 (be (l.take i):Int)∧Fr [] w wr)
      case atStart=>exact ⟨0,by go_num,by omega,by rfl,(Fr.refl _ _).drewN _⟩
      case round=>
       obtain ⟨i,rfl,hi,rfl,hF⟩:=hrel;by_cases hk:gk=0
       ·subst hk;obtain rfl:i=8:=by omega
        go_wp2
        go_quiet (fail)
        go_wp2;refine bodyPost_ret (res5a rfl _ _ _) rfl ?_
        exact ⟨rfl,hF.drewN _⟩
       ·obtain ⟨g,rfl⟩: ∃g,gk=g+1:=⟨gk-1,by omega⟩
        have hil:i<l.length:=by omega
        have t5:(i:Int)<8:=by omega
        have hxi:((⟨l.toArray⟩:ByteArray)[i]'(by show i<l.toArray.size;simpa using hil))=l[i]:=rfl
        have hbl:=l[i].toNat_lt;have hbt:=be_take_lt l i (by omega)
        have ho:=or8u (be (l.take i)) l[i].toNat (by omega) (by omega)
        rw [←be_snoc,←take_snoc l i hil] at ho;generalize l[i]=x at hxi hbl ho;generalize hy:be (l.take (i+1))=y at ho;go_wp2
        go_roundg g
        case measure=>omega
        case rel=>exact ⟨i+1,by go_num,by omega,by rw [hy],hF⟩
end
end Go.Proofs.YteodinhkhhaafaaGreatDoor
