/- Walks of the program, and plain facts. -/
import Derived.Test.YteodinhkhhaafaaGreatDoorEaj
set_option linter.unusedVariables false
set_option linter.unusedSimpArgs false
set_option maxRecDepth 100000
set_option maxHeartbeats 6400000
namespace Go.Proofs.YteodinhkhhaafaaGreatDoor
section
section
open Go.RowKit
inductive Tr where
 |int (neg:Bool) (n:Nat)
 |str (tx:Bool) (b:List UInt8)
 |chk (tx:Bool) (l:List Tr)
 |arr (opn:Bool) (l:List Tr)
 |map (opn:Bool) (l:List Tr)
 |tag (n:Nat) (t:Tr)
 |prim (ai v:Nat)
def Tr.isTag:Tr→Bool
 | .tag _ _=>true
 |_=>false
def majS (tx:Bool):Nat:=if tx then 3 else 2
mutual
def Enc (xs:List UInt8):Tr→Nat→Nat→Prop
 | .int neg n,off,off'=> ∃ai,hd xs off= .ok (if neg then 1 else 0,ai,n,off')
 | .str tx b,off,off'=> ∃ai v o,hd xs off= .ok (majS tx,ai,v,o)∧ai≠31∧o+v≤xs.length∧v<9223372036854775808∧off'=o+v∧b=(xs.drop o).take v
 | .chk tx l,off,off'=> ∃v o,hd xs off= .ok (majS tx,31,v,o)∧Chunks xs tx l o off'
 | .arr false l,off,off'=> ∃ai o,hd xs off= .ok (4,ai,l.length,o)∧ai≠31∧Encs xs l o off'
 | .arr true l,off,off'=> ∃v o,hd xs off= .ok (4,31,v,o)∧Opens xs l o off'
 | .map false l,off,off'=> ∃ai v o,hd xs off= .ok (5,ai,v,o)∧ai≠31∧l.length=v*2∧Encs xs l o off'
 | .map true l,off,off'=> ∃v o,hd xs off= .ok (5,31,v,o)∧l.length%2=0∧Opens xs l o off'
 | .tag n t,off,off'=> ∃ai o,hd xs off= .ok (6,ai,n,o)∧Enc xs t o off'
 | .prim ai v,off,off'=>hd xs off= .ok (7,ai,v,off')
def Encs (xs:List UInt8):List Tr→Nat→Nat→Prop
 |[],off,off'=>off=off'
 |t::l,off,off'=> ∃mid,Enc xs t off mid∧Encs xs l mid off'
def Opens (xs:List UInt8):List Tr→Nat→Nat→Prop
 |[],off,off'=> ∃b,xs[off]? =some b∧b.toNat=255∧off'=off+1
 |t::l,off,off'=> ∃b mid,xs[off]? =some b∧b.toNat≠255∧Enc xs t off mid∧Opens xs l mid off'
def Chunks (xs:List UInt8) (tx:Bool):List Tr→Nat→Nat→Prop
 |[],off,off'=> ∃b,xs[off]? =some b∧b.toNat=255∧off'=off+1
 |t::l,off,off'=> ∃b mid,xs[off]? =some b∧b.toNat≠255∧(∃s,t= .str tx s)∧Enc xs t off mid∧Chunks xs tx l mid off'
end
mutual
def Tr.dp:Tr→Nat
 | .arr _ l=>1+Tr.dps l
 | .map _ l=>1+Tr.dps l
 | .tag _ t=>(if t.isTag then 1 else 0)+t.dp
 |_=>0
def Tr.dps:List Tr→Nat
 |[]=>0
 |t::l=>max t.dp (Tr.dps l)
end
mutual
def Tr.fits (L:Lim):Tr→Prop
 | .arr _ l=>l.length≤L.el∧Tr.fitss L l
 | .map _ l=>l.length≤2*L.pa∧Tr.fitss L l
 | .tag _ t=>t.fits L
 |_=>True
def Tr.fitss (L:Lim):List Tr→Prop
 |[]=>True
 |t::l=>t.fits L∧Tr.fitss L l
end
theorem wf_le (L:Lim) (xs:List UInt8) {f g:Nat} (hg:f≤g):
  (∀off dep r,wfI L xs f off dep=some r→wfI L xs g off dep=some r)∧
  (∀m off dep r,wfS L xs f m off dep=some r→wfS L xs g m off dep=some r)∧
  (∀m i off dep r,wfO L xs f m i off dep=some r→wfO L xs g m i off dep=some r)∧
  (∀n off dep r,wfN L xs f n off dep=some r→wfN L xs g n off dep=some r)∧
  (∀off dep r,wfT L xs f off dep=some r→wfT L xs g off dep=some r):=by
 obtain ⟨k,rfl⟩: ∃k,g=f+k:=⟨g-f,by omega⟩
 clear hg
 induction k with
 |zero=>exact ⟨fun _ _ _ h=>h,fun _ _ _ _ h=>h,fun _ _ _ _ _ h=>h,fun _ _ _ _ h=>h,fun _ _ _ h=>h⟩
 |succ k ih=>
  obtain ⟨m1,m2,m3,m4,m5⟩:=wf_mono L xs (f+k);obtain ⟨i1,i2,i3,i4,i5⟩:=ih;exact ⟨fun _ _ _ h=>m1 _ _ _ (i1 _ _ _ h),fun _ _ _ _ h=>m2 _ _ _ _ (i2 _ _ _ _ h),fun _ _ _ _ _ h=>m3 _ _ _ _ _ (i3 _ _ _ _ _ h),fun _ _ _ _ h=>m4 _ _ _ _ (i4 _ _ _ _ h),fun _ _ _ h=>m5 _ _ _ (i5 _ _ _ h)⟩
end
section
open Go.RowKit
theorem byte_of_hd {xs:List UInt8} {off m ai v o:Nat} (h:hd xs off= .ok (m,ai,v,o)): ∃hl:off<xs.length,xs[off].toNat/32=m∧xs[off].toNat%32=ai:=by
 unfold hd at h
 split at h
 ·cases h
 ·rename_i b e;obtain ⟨hl,rfl⟩:=getElem?_lt e;refine ⟨hl,?_⟩
  split at h
  ·cases h;exact ⟨rfl,rfl⟩
  ·split at h
   ·split at h
    ·cases h
    ·split at h
     ·cases h
     ·cases h;exact ⟨rfl,rfl⟩
   ·split at h
    ·split at h
     ·cases h
     ·cases h;exact ⟨rfl,by omega⟩
    ·cases h
theorem dp_tag (n:Nat) (t:Tr):(Tr.tag n t).dp=(if t.isTag then 1 else 0)+t.dp:=by rw [Tr.dp]
theorem enc_tag {xs:List UInt8} {t:Tr} {off off':Nat} (h:Enc xs t off off'): ∃b,xs[off]? =some b∧(b.toNat/32=6↔t.isTag=true):=by
 have key: ∀m ai v o,hd xs off= .ok (m,ai,v,o)→ ∃b,xs[off]? =some b∧b.toNat/32=m:=by
  intro m ai v o h;unfold hd at h;cases hx:xs[off]? with
  |none=>rw [hx] at h;cases h
  |some b=>
   rw [hx] at h;refine ⟨b,rfl,?_⟩
   dsimp only at h
   split at h
   ·cases h;rfl
   ·split at h
    ·split at h
     ·cases h
     ·split at h
      ·cases h
      ·cases h;rfl
    ·split at h
     ·split at h
      ·cases h
      ·cases h;rfl
     ·cases h
 cases t with
 |int neg n=>
  rw [Enc] at h;obtain ⟨ai,h⟩:=h;obtain ⟨b,h1,h2⟩:=key _ _ _ _ h;refine ⟨b,h1,?_⟩
  cases neg<;>simp_all [Tr.isTag]<;>omega
 |str tx b=>
  rw [Enc] at h;obtain ⟨ai,v,o,h,_⟩:=h;obtain ⟨b,h1,h2⟩:=key _ _ _ _ h;refine ⟨b,h1,?_⟩
  cases tx<;>simp_all [Tr.isTag,majS]
 |chk tx l=>
  rw [Enc] at h;obtain ⟨v,o,h,_⟩:=h;obtain ⟨b,h1,h2⟩:=key _ _ _ _ h;refine ⟨b,h1,?_⟩
  cases tx<;>simp_all [Tr.isTag,majS]
 |arr opn l=>
  cases opn<;>rw [Enc] at h
  ·obtain ⟨ai,o,h,_⟩:=h;obtain ⟨b,h1,h2⟩:=key _ _ _ _ h;exact ⟨b,h1,by simp_all [Tr.isTag]⟩
  ·obtain ⟨ai,o,h,_⟩:=h;obtain ⟨b,h1,h2⟩:=key _ _ _ _ h;exact ⟨b,h1,by simp_all [Tr.isTag]⟩
 |map opn l=>
  cases opn<;>rw [Enc] at h
  ·obtain ⟨ai,v,o,h,_⟩:=h;obtain ⟨b,h1,h2⟩:=key _ _ _ _ h;exact ⟨b,h1,by simp_all [Tr.isTag]⟩
  ·obtain ⟨ai,o,h,_⟩:=h;obtain ⟨b,h1,h2⟩:=key _ _ _ _ h;exact ⟨b,h1,by simp_all [Tr.isTag]⟩
 |tag n t=>
  rw [Enc] at h;obtain ⟨ai,o,h,_⟩:=h;obtain ⟨b,h1,h2⟩:=key _ _ _ _ h;exact ⟨b,h1,by simp_all [Tr.isTag]⟩
 |prim ai v=>
  rw [Enc] at h;obtain ⟨b,h1,h2⟩:=key _ _ _ _ h;exact ⟨b,h1,by simp_all [Tr.isTag]⟩
mutual
theorem wf_item (L:Lim) (xs:List UInt8) (hel:L.el≤2147483647) (hpa:L.pa≤2147483647): ∀(t:Tr) (off off' dep:Nat),Enc xs t off off'→t.fits L→dep+t.dp≤L.nest→ ∃f,wfI L xs f off dep=some (.ok (dep+t.dp,off'))
 | .int neg n,off,off',dep,h,hf,hd=>by
  rw [Enc] at h;obtain ⟨ai,h⟩:=h;refine ⟨1,?_⟩
  rw [wfI,h];cases neg<;>simp [Tr.dp]
 | .str tx b,off,off',dep,h,hf,hd=>by
  rw [Enc] at h;obtain ⟨ai,v,o,h,h31,hl,hv,rfl,_⟩:=h;refine ⟨1,?_⟩
  rw [wfI,h];dsimp only;rw [if_pos (by cases tx<;>simp [majS]),if_neg h31,if_neg (by omega),if_neg (by omega)]
  simp [Tr.dp]
 | .chk tx l,off,off',dep,h,hf,hd=>by
  rw [Enc] at h;obtain ⟨v,o,h,hc⟩:=h;obtain ⟨f,hf⟩:=wf_chunks L xs hel hpa tx l o off' dep hc (by omega)
  refine ⟨f+1,?_⟩
  rw [wfI,h];dsimp only;rw [if_pos (by cases tx<;>simp [majS]),if_pos rfl,hf]
  simp [Tr.dp]
 | .arr false l,off,off',dep,h,hf,hd=>by
  rw [Enc] at h;rw [Tr.dp] at hd ⊢;rw [Tr.fits] at hf;obtain ⟨ai,o,h,h31,he⟩:=h;obtain ⟨f,hw⟩:=wf_encs L xs hel hpa l o off' (dep+1) he hf.2 (by omega)
  refine ⟨f+1,?_⟩
  rw [wfI,h];dsimp only;rw [if_neg (by decide),if_pos (.inl rfl),if_neg (by omega),if_neg h31,if_neg (by omega),if_neg (by omega),if_neg (by omega),show l.length*(4-3)=l.length from by omega,hw,Nat.add_assoc]
 | .arr true l,off,off',dep,h,hf,hd=>by
  rw [Enc] at h;rw [Tr.dp] at hd ⊢;rw [Tr.fits] at hf;obtain ⟨v,o,h,he⟩:=h;obtain ⟨f,hw⟩:=wf_opens L xs hel hpa l 4 0 o off' (dep+1) he hf.2 (by omega) (.inl ⟨rfl,by omega⟩)
  refine ⟨f+1,?_⟩
  rw [wfI,h];dsimp only;rw [if_neg (by decide),if_pos (.inl rfl),if_neg (by omega),if_pos rfl,hw,Nat.add_assoc]
 | .map false l,off,off',dep,h,hf,hd=>by
  rw [Enc] at h;rw [Tr.dp] at hd ⊢;rw [Tr.fits] at hf;obtain ⟨ai,v,o,h,h31,hlen,he⟩:=h;obtain ⟨f,hw⟩:=wf_encs L xs hel hpa l o off' (dep+1) he hf.2 (by omega)
  refine ⟨f+1,?_⟩
  rw [wfI,h];dsimp only;rw [if_neg (by decide),if_pos (.inr rfl),if_neg (by omega),if_neg h31,if_neg (by omega),if_neg (by omega),if_neg (by omega),show v*(5-3)=l.length from by omega,hw,Nat.add_assoc]
 | .map true l,off,off',dep,h,hf,hd=>by
  rw [Enc] at h;rw [Tr.dp] at hd ⊢;rw [Tr.fits] at hf;obtain ⟨v,o,h,hev,he⟩:=h;obtain ⟨f,hw⟩:=wf_opens L xs hel hpa l 5 0 o off' (dep+1) he hf.2 (by omega) (.inr ⟨rfl,by omega,by omega⟩)
  refine ⟨f+1,?_⟩
  rw [wfI,h];dsimp only;rw [if_neg (by decide),if_pos (.inr rfl),if_neg (by omega),if_pos rfl,hw,Nat.add_assoc]
 | .tag n t,off,off',dep,h,hf,hd=>by
  rw [Enc] at h;rw [Tr.fits] at hf;obtain ⟨ai,o,h,he⟩:=h;obtain ⟨f,hw⟩:=wf_tag L xs hel hpa t n o off' dep he hf hd;refine ⟨f+1,?_⟩
  rw [wfI,h];dsimp only;rw [if_neg (by decide),if_neg (by decide),if_pos rfl,hw]
 | .prim ai v,off,off',dep,h,hf,hd=>by
  rw [Enc] at h;refine ⟨1,?_⟩
  rw [wfI,h];simp [Tr.dp]
termination_by t=>(SizeOf.sizeOf t,0)
theorem wf_tag (L:Lim) (xs:List UInt8) (hel:L.el≤2147483647) (hpa:L.pa≤2147483647): ∀(t:Tr) (n off off' dep:Nat),Enc xs t off off'→t.fits L→dep+(Tr.tag n t).dp≤L.nest→ ∃f,wfT L xs f off dep=some (.ok (dep+(Tr.tag n t).dp,off'))
 |t,n,off,off',dep,h,hf,hd=>by
  obtain ⟨b,hb,hiff⟩:=enc_tag h;rw [dp_tag] at hd ⊢;by_cases ht:t.isTag=true
  ·rw [if_pos ht] at hd ⊢;obtain ⟨n',t',rfl⟩: ∃n' t',t= .tag n' t':=by
    cases t<;>simp [Tr.isTag] at ht
    exact ⟨_,_,rfl⟩
   rw [Enc] at h;rw [Tr.fits] at hf;obtain ⟨ai,o,h,he⟩:=h;obtain ⟨f,hw⟩:=wf_tag L xs hel hpa t' n' o off' (dep+1) he hf (by omega)
   refine ⟨f+1,?_⟩
   rw [wfT,hb];dsimp only;rw [if_neg (by simpa using hiff.2 ht),h]
   dsimp only;rw [if_neg (by omega),hw,Nat.add_assoc]
  ·obtain ⟨f,hw⟩:=wf_item L xs hel hpa t off off' dep h hf (by omega)
   refine ⟨f+1,?_⟩
   rw [wfT,hb];dsimp only;rw [if_pos (fun e=>ht (hiff.1 e)),if_neg ht,hw,Nat.zero_add]
termination_by t=>(SizeOf.sizeOf t,1)
theorem wf_encs (L:Lim) (xs:List UInt8) (hel:L.el≤2147483647) (hpa:L.pa≤2147483647): ∀(l:List Tr) (off off' dep:Nat),Encs xs l off off'→Tr.fitss L l→dep+Tr.dps l≤L.nest→ ∃f,wfN L xs f l.length off dep=some (.ok (dep+Tr.dps l,off'))
 |[],off,off',dep,h,hf,hd=>by
  rw [Encs] at h;exact ⟨1,by simp [wfN,Tr.dps,h]⟩
 |t::l,off,off',dep,h,hf,hd=>by
  rw [Encs] at h;rw [Tr.fitss] at hf;rw [Tr.dps] at hd ⊢;obtain ⟨mid,h1,h2⟩:=h;obtain ⟨f1,w1⟩:=wf_item L xs hel hpa t off mid dep h1 hf.1 (by omega)
  obtain ⟨f2,w2⟩:=wf_encs L xs hel hpa l mid off' dep h2 hf.2 (by omega)
  refine ⟨max f1 f2+1,?_⟩
  rw [List.length_cons,wfN,(wf_le L xs (Nat.le_max_left f1 f2)).1 _ _ _ w1];dsimp only;rw [(wf_le L xs (Nat.le_max_right f1 f2)).2.2.2.1 _ _ _ _ w2];simp only [joinD,Option.some.injEq,Except.ok.injEq,Prod.mk.injEq,and_true];omega
termination_by l=>(SizeOf.sizeOf l,0)
theorem wf_opens (L:Lim) (xs:List UInt8) (hel:L.el≤2147483647) (hpa:L.pa≤2147483647): ∀(l:List Tr) (m i off off' dep:Nat),Opens xs l off off'→Tr.fitss L l→dep+Tr.dps l≤L.nest→(m=4∧i+l.length≤L.el∨m=5∧(i+l.length)%2=0∧i+l.length≤2*L.pa)→ ∃f,wfO L xs f m i off dep=some (.ok (dep+Tr.dps l,off'))
 |[],m,i,off,off',dep,h,hf,hd,hm=>by
  rw [Opens] at h;obtain ⟨b,h1,h2,rfl⟩:=h;refine ⟨1,?_⟩
  rw [wfO,h1];dsimp only;rw [if_pos h2,if_neg (by simp at hm;omega)]
  simp [Tr.dps]
 |t::l,m,i,off,off',dep,h,hf,hd,hm=>by
  rw [Opens] at h;rw [Tr.fitss] at hf;rw [Tr.dps] at hd ⊢;obtain ⟨b,mid,h1,h2,h3,h4⟩:=h;rw [List.length_cons] at hm;obtain ⟨f1,w1⟩:=wf_item L xs hel hpa t off mid dep h3 hf.1 (by omega)
  obtain ⟨f2,w2⟩:=wf_opens L xs hel hpa l m (i+1) mid off' dep h4 hf.2 (by omega) (by omega)
  refine ⟨max f1 f2+1,?_⟩
  rw [wfO,h1];dsimp only;rw [if_neg h2,(wf_le L xs (Nat.le_max_left f1 f2)).1 _ _ _ w1];dsimp only;rw [if_neg (by omega),if_neg (by omega),(wf_le L xs (Nat.le_max_right f1 f2)).2.2.1 _ _ _ _ _ w2]
  simp only [joinD,Option.some.injEq,Except.ok.injEq,Prod.mk.injEq,and_true];omega
termination_by l=>(SizeOf.sizeOf l,0)
theorem wf_chunks (L:Lim) (xs:List UInt8) (hel:L.el≤2147483647) (hpa:L.pa≤2147483647) (tx:Bool): ∀(l:List Tr) (off off' dep:Nat),Chunks xs tx l off off'→dep≤L.nest→ ∃f,wfS L xs f (majS tx) off dep=some (.ok (dep,off'))
 |[],off,off',dep,h,hd=>by
  rw [Chunks] at h;obtain ⟨b,h1,h2,rfl⟩:=h;refine ⟨1,?_⟩
  rw [wfS,h1];dsimp only;rw [if_pos h2]
 |t::l,off,off',dep,h,hd=>by
  rw [Chunks] at h;obtain ⟨b,mid,h1,h2,⟨s,rfl⟩,h3,h4⟩:=h;obtain ⟨f2,w2⟩:=wf_chunks L xs hel hpa tx l mid off' dep h4 hd;rw [Enc] at h3;obtain ⟨ai,v,o,h3,h31,hl,hv,rfl,_⟩:=h3;obtain ⟨hlt,hb1,hb2⟩:=byte_of_hd h3;have hbb:b=xs[off]:=by rw [List.getElem?_eq_getElem hlt] at h1;exact (Option.some.inj h1).symm
  refine ⟨f2+2,?_⟩
  rw [wfS,h1];dsimp only;rw [if_neg h2,if_neg (by rw [hbb,hb1];simp),if_neg (by rw [hbb,hb2];exact h31)]
  rw [wfI,h3];dsimp only;rw [if_pos (by cases tx<;>simp [majS]),if_neg h31,if_neg (by omega),if_neg (by omega)]
  dsimp only;exact (wf_le L xs (Nat.le_succ f2)).2.1 _ _ _ _ w2
termination_by l=>(SizeOf.sizeOf l,0)
end
end
end
section
open Go.RowKit
theorem blk_new' (w:World) (o:Obj) {n:Nat} (h:n=w.heap.size):(w.alloc o).heap[n]? =some o:=h▸blk_new w o
def decOpts (n e p:Nat):Value:= .agg #[.int .i64 0,.int .i64 (n:Int),.int .i64 (e:Int),.int .i64 (p:Int),.int .i64 0,.int .i64 0,.int .i64 0,.int .i64 0,.int .i64 0,.int .i64 0,.int .i64 0,.pointer none,.int .i64 0,.int .i64 0,.int .i64 0]
theorem decMode_lim (n:Nat) (h1:16≤n) (h2:n≤60) (w:World):
  Calls Tryz.prog 113 #[decOpts n n n] w fun e w'=> ∃dm,e= .returned (.tuple #[.pointer (some ⟨dm,0,none⟩),.nilIface])∧w.heap.size≤dm∧DecM w' dm n n n∧Fr [] w w':=by
 have g1:((n:Int)==0)=false:=by simp;omega
 have g2: ¬(n:Int)<4:=by omega
 have g3: ¬(65535:Int)<(n:Int):=by omega
 have g4: ¬(n:Int)<16:=by omega
 have g5: ¬(2147483647:Int)<(n:Int):=by omega
 unfold decOpts;go_enter Tryz.func113,Tryz.ntmps113
 go_wp2_with (first|(go_at_call 143;go_in)|(go_at_call 144;go_in)|(go_at_call 145;go_in)|(go_at_call 146;go_in)|(go_at_call 147;go_in)|(go_at_call 148;go_in)|(go_at_call 149;go_in)|(go_at_call 150;go_in)|(go_at_call 151;go_in)|(go_at_call 152;go_in)|(go_at_call 153;go_in))
 go_ret2
 refine ⟨_,rfl,?_,?_,?_⟩
 ·simp
 ·exact blk_new' _ _ (by simp)
 ·repeat (first|with_reducible exact Fr.refl _ _|with_reducible refine Fr.setCell ?_ (by simp) _|with_reducible refine Fr.drewN ?_ _|with_reducible refine Fr.alloc ?_ _|with_reducible refine Fr.drew ?_)
theorem decMode_def (w:World):
  Calls Tryz.prog 113 #[decOpts 0 0 0] w fun e w'=> ∃dm,e= .returned (.tuple #[.pointer (some ⟨dm,0,none⟩),.nilIface])∧w.heap.size≤dm∧DecM w' dm 32 131072 131072∧Fr [] w w':=by
 unfold decOpts;go_enter Tryz.func113,Tryz.ntmps113
 go_wp2_with (first|(go_at_call 143;go_in)|(go_at_call 144;go_in)|(go_at_call 145;go_in)|(go_at_call 146;go_in)|(go_at_call 147;go_in)|(go_at_call 148;go_in)|(go_at_call 149;go_in)|(go_at_call 150;go_in)|(go_at_call 151;go_in)|(go_at_call 152;go_in)|(go_at_call 153;go_in))
 go_ret2
 refine ⟨_,rfl,?_,?_,?_⟩
 ·simp
 ·exact blk_new' _ _ (by simp)
 ·repeat (first|with_reducible exact Fr.refl _ _|with_reducible refine Fr.setCell ?_ (by simp) _|with_reducible refine Fr.drewN ?_ _|with_reducible refine Fr.alloc ?_ _|with_reducible refine Fr.drew ?_)
end
section
section
open Go.RowKit
def LimOf (n:Nat) (L:Lim):Prop:=(n=0∧L=⟨32,131072,131072⟩)∨(16≤n∧n≤60∧L=⟨n,n,n⟩)
theorem LimOf.le {n:Nat} {L:Lim} (h:LimOf n L):L.nest≤65535∧L.el≤2147483647∧L.pa≤2147483647:=by
 rcases h with ⟨_,rfl⟩|⟨h1,h2,rfl⟩
 ·decide
 ·dsimp only;omega
theorem decMode {n:Nat} {L:Lim} (h:LimOf n L) (w:World):
  Calls Tryz.prog 113 #[decOpts n n n] w fun e w'=> ∃dm,e= .returned (.tuple #[.pointer (some ⟨dm,0,none⟩),.nilIface])∧w.heap.size≤dm∧DecM w' dm L.nest L.el L.pa∧Fr [] w w':=by
 rcases h with ⟨rfl,rfl⟩|⟨h1,h2,rfl⟩
 ·exact decMode_def w
 ·exact decMode_lim n h1 h2 w
def diagOpts (k:IntKind) (M:Md) (n:Nat):Value:= .agg #[.int k (M.enc:Int),.bool M.sp,.bool M.tx,.bool M.em,.bool M.sq,.bool M.pr,.int .i64 (n:Int),.int .i64 (n:Int),.int .i64 (n:Int)]
def DgM (w:World) (dg dm:Nat) (M:Md):Prop:=
 w.heap[dg]? =some (.cells #[.int .u8 (M.enc:Int),.bool M.sp,.bool M.tx,.bool M.em,.bool M.sq,.bool M.pr,.pointer (some ⟨dm,0,none⟩)] 139 (0,0))
def DPost (M:Md) (L:Lim) (w:World) (last:Value) (e:Ending) (w':World):Prop:=
 ∃dg dm,e= .returned (.tuple #[.pointer (some ⟨dg,0,none⟩),last])∧w.heap.size≤dg∧w.heap.size≤dm∧DgM w' dg dm M∧DecM w' dm L.nest L.el L.pa∧dg<w'.heap.size∧dm<w'.heap.size∧Fr [] w w'
theorem dgMode (M:Md) {n:Nat} {L:Lim} (h:LimOf n L) (he:M.enc<4) (w:World):
  Calls Tryz.prog 102 #[diagOpts .u8 M n] w (DPost M L w .nilIface):=by
 have K:=Hz (decMode h);have g1:(M.enc:Int)<4:=by omega
 obtain ⟨enc,sp,tx,em,sq,pr⟩:=M;dsimp only at he g1;unfold diagOpts;go_enter Tryz.func102,Tryz.ntmps102
 go_wp2_with (go_at_call 115;go_in)
 refine (K.out _).mono ?_
 rintro e w1 ⟨dm,rfl,hdm,hM,hf⟩;have hb:w1.heap[w.heap.size]? =some (.cells #[.int .u8 (enc:Int),.bool sp,.bool tx,.bool em,.bool sq,.bool pr,.int .i64 (n:Int),.int .i64 (n:Int),.int .i64 (n:Int)] 135 (0,0)):=hf.blk (blk_new w _) (by simp)
 have c0:=cell_blk hb 0;have c1:=cell_blk hb 1;have c2:=cell_blk hb 2;have c3:=cell_blk hb 3;have c4:=cell_blk hb 4;have c5:=cell_blk hb 5;simp only [List.getElem?_toArray,List.getElem?_cons_zero,List.getElem?_cons_succ] at c0 c1 c2 c3 c4 c5;have hdl:=blk_lt' hM;have hsz:=hf.size;have hsz0:(w.alloc (.cells #[.int .u8 (enc:Int),.bool sp,.bool tx,.bool em,.bool sq,.bool pr,.int .i64 (n:Int),.int .i64 (n:Int),.int .i64 (n:Int)] 135)).heap.size=w.heap.size+1:=by simp
 rw [hsz0] at hdm hsz;have hF:Fr [] w w1:=((Fr.refl [] w).alloc _).trans hf;clear hb;go_wp2
 go_ret2
 refine ⟨_,dm,rfl,by omega,by omega,blk_new' _ _ (by simp),blk_alloc hM _,by simp,by simp;omega,hF.alloc _⟩
theorem zzMode (M:Md) {n:Nat} {L:Lim} (h:LimOf n L) (he:M.enc<4) (w:World):
  Calls Tryz.prog 85 #[diagOpts .u8 M n] w (DPost M L w .nilIface):=by
 have K:=Hz (dgMode M h he);obtain ⟨enc,sp,tx,em,sq,pr⟩:=M;unfold diagOpts at *
 go_enter Tryz.func85,Tryz.ntmps85
 go_wp2_with fail
 refine (K.out _).mono ?_
 rintro e w1 ⟨dg,dm,rfl,h1,h2,h3,h4,h5,h6,hf⟩;have hsz0:(w.alloc (.cells #[.int .u8 (enc:Int),.bool sp,.bool tx,.bool em,.bool sq,.bool pr,.int .i64 (n:Int),.int .i64 (n:Int),.int .i64 (n:Int)] 135)).heap.size=w.heap.size+1:=by simp
 rw [hsz0] at h1 h2;go_wp2
 go_ret2
 exact ⟨dg,dm,rfl,by omega,by omega,h3,h4,h5,h6,((Fr.refl [] w).alloc _).trans hf⟩
theorem implMode (M:Md) {n:Nat} {L:Lim} (h:LimOf n L) (he:M.enc<4) (w:World):
  Calls Tryz.prog 56 #[diagOpts .i64 M n] w (DPost M L w (.bool true)):=by
 have K:=Hz (zzMode M h he);obtain ⟨enc,sp,tx,em,sq,pr⟩:=M;dsimp only at he;have g0: ¬(enc:Int)<0:=by omega
 have g1: ¬(255:Int)<(enc:Int):=by omega
 have g2:IntKind.u8.wrap (enc:Int)=(enc:Int):=by
  show (enc:Int)%256=_
  omega
 unfold diagOpts at *
 go_enter Tryz.func56,Tryz.ntmps56
 go_wp2_with fail
 refine (K.out _).mono ?_
 rintro e w1 ⟨dg,dm,rfl,h1,h2,h3,h4,h5,h6,hf⟩;have hsz0:(w.alloc (.cells #[.int .i64 (enc:Int),.bool sp,.bool tx,.bool em,.bool sq,.bool pr,.int .i64 (n:Int),.int .i64 (n:Int),.int .i64 (n:Int)] 24)).heap.size=w.heap.size+1:=by simp
 rw [hsz0] at h1 h2;go_wp2
 go_quiet (fail)
 go_wp2
 go_ret2
 exact ⟨dg,dm,rfl,by omega,by omega,h3,h4,h5,h6,(((Fr.refl [] w).alloc _).trans hf).drewN _⟩
end
section
open Go.RowKit
theorem di_wellformed {X:Cx} {off:Nat} {bs:List UInt8} {w:World} (h:St X off bs w) (hn:X.L.nest≤65535) (hel:X.L.el≤2147483647) (hpa:X.L.pa≤2147483647) (more:Bool) (r:Option Nat) (hr:wfTop X.L X.xs more off r):
  Calls Tryz.prog 103 #[.pointer (some ⟨X.di,0,none⟩),.bool more] w fun e w'=> ∃v,e= .returned v∧ErrO r v∧St X off bs w'∧Gr X.B [X.d,X.wb] w w':=by
 have k1:=h.i1;have d1:=h.dec.c1;have hle:=h.dec.le;have K:=Hz (wellformed hn hel hpa h.dec h.dm h.n3 more r hr);go_enter Tryz.func103,Tryz.ntmps103
 go_wp2_with fail
 refine K.out.mono ?_
 rintro e w1 ⟨v,rfl,hv,⟨u,hu⟩,hf⟩;have k1':w1.cell? ⟨X.di,1,none⟩=some (.pointer (some ⟨X.d,0,none⟩)):=hf.cell k1 (by simpa using h.n1)
 have c1:w1.cell? ⟨X.d,1,none⟩=some u:=cell_blk hu.blk 1;have f1:w1.frozen? ⟨X.d,1,none⟩=false:=frozen_blk hu.blk 1;go_wp2;go_ret
 have hF:Fr [X.d] w (w1.setCell ⟨X.d,1,none⟩ (.int .i64 (off:Int))):=hf.setCell (by simp) _
 exact ⟨_,rfl,hv,h.moved hF (DecV.dec (x:=(off:Int)) (hu.set _) off rfl hle),h.grF hF⟩
theorem newDiagnose {w:World} {db o c dm dg:Nat} {xs:List UInt8} {M:Md} {L:Lim} (hrd:Rd w db o xs) (hcap:xs.length≤c) (hlen:xs.length≤1099511627776) (hdb:db<w.heap.size) (hM:DgM w dg dm M) (hD:DecM w dm L.nest L.el L.pa) (hu:U8 w):
  Calls Tryz.prog 86 #[.slice (some ⟨db,o,none⟩) xs.length c,.pointer (some ⟨dm,0,none⟩),.pointer (some ⟨dg,0,none⟩)] w fun e w'=> ∃X:Cx,e= .returned (.pointer (some ⟨X.di,0,none⟩))∧X.xs=xs∧X.L=L∧X.M=M∧X.dg=dg∧X.db=db∧X.o=o∧X.c=c∧w.heap.size≤X.B∧w.heap.size≤X.d∧w.heap.size≤X.wb∧St X 0 [] w'∧Fr [] w w':=by
 have l1:=blk_lt' hM;have l2:=blk_lt' hD;have lu:=hu.size;replace hu:=Hz hu;go_enter Tryz.func86,Tryz.ntmps86
 go_wp2;go_ret
 refine ⟨⟨w.heap.size+3,w.heap.size+2,dg,w.heap.size,w.heap.size+1,db,o,c,dm,xs,L,M⟩,rfl,rfl,rfl,rfl,rfl,rfl,rfl,rfl,by simp,by simp,by simp,?_,?_⟩
 ·refine ⟨blk_new' _ _ (by simp),blk_alloc (blk_alloc (blk_alloc hM _) _) _,⟨blk_alloc (blk_alloc (blk_new' _ _ (by simp)) _) _,?_,hcap,hlen,by dsimp only;omega,by simp⟩,blk_alloc (blk_alloc (blk_alloc hD _) _) _,⟨_,blk_alloc (blk_new' _ _ (by simp)) _,Row.nil _ _⟩,by simp,by simp,by dsimp only;omega,by simp,by simp,by dsimp only;omega,by dsimp only;omega,by dsimp only;omega,?_,by dsimp only;omega,by dsimp only;omega,by dsimp only;omega⟩
  rotate_left
  ·exact hu.out.fr (S:=[]) (by repeat (first|with_reducible exact Fr.refl _ _|with_reducible refine Fr.alloc ?_ _)) (by simp)
  exact hrd.fr (S:=[]) (by repeat (first|with_reducible exact Fr.refl _ _|with_reducible refine Fr.alloc ?_ _)) (by simp)
 ·repeat (first|with_reducible exact Fr.refl _ _|with_reducible refine Fr.alloc ?_ _)
end
end
end Go.Proofs.YteodinhkhhaafaaGreatDoor
