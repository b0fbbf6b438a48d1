/- Walks of the program, and plain facts. -/
import Derived.Test.YteodinhkhhaafaaGreatDoorFbn
import Derived.Test.YteodinhkhhaafaaGreatDoorFbm
import Derived.Test.YteodinhkhhaafaaGreatDoorFas
import Derived.Test.YteodinhkhhaafaaGreatDoorFbp
set_option linter.unusedVariables false
set_option linter.unusedSimpArgs false
set_option maxRecDepth 100000
set_option maxHeartbeats 6400000
namespace Go.Proofs.YteodinhkhhaafaaGreatDoor
section
set_option exponentiation.threshold 3000
open Go.RowKit
theorem hd_err {xs:List UInt8} {off k:Nat} (h:hd xs off= .error k):k=2∨k=3:=by
 unfold hd at h
 split at h
 ·cases h;exact .inl rfl
 ·split at h
  ·cases h
  ·split at h
   ·split at h
    ·cases h;exact .inl rfl
    ·split at h
     ·cases h;exact .inr rfl
     ·cases h
   ·split at h
    ·split at h
     ·cases h;exact .inr rfl
     ·cases h
    ·cases h;exact .inr rfl
theorem joinD_err {D k:Nat} {p:Option (Except Nat (Nat×Nat))} (h:joinD D p=some (.error k)):p=some (.error k):=by
 unfold joinD at h
 split at h
 ·cases h
 ·exact h
theorem wf_err (L:Lim) (xs:List UInt8): ∀f,
  (∀off dep k,wfI L xs f off dep=some (.error k)→k≠1)∧
  (∀m off dep k,wfS L xs f m off dep=some (.error k)→k≠1)∧
  (∀m i off dep k,wfO L xs f m i off dep=some (.error k)→k≠1)∧
  (∀n off dep k,wfN L xs f n off dep=some (.error k)→k≠1)∧
  (∀off dep k,wfT L xs f off dep=some (.error k)→k≠1):=by
 intro f
 induction f with
 |zero=>simp [wfI,wfS,wfO,wfN,wfT]
 |succ f ih=>
  obtain ⟨i1,i2,i3,i4,i5⟩:=ih;refine ⟨?_,?_,?_,?_,?_⟩
  ·intro off dep k h;rw [wfI] at h;cases hh:hd xs off with
   |error k2=>
    rw [hh] at h;have:=hd_err hh;injection h with h
    injection h with h
    omega
   |ok q=>
    obtain ⟨m,ai,v,o⟩:=q;rw [hh] at h;dsimp only at h
    repeat' split at h
    all_goals first
     |(injection h with h;injection h with h;omega;done)
     |exact i2 _ _ _ _ h
     |exact i3 _ _ _ _ _ h
     |exact i4 _ _ _ _ h
     |exact i5 _ _ _ h
     |(cases h;done)
  ·intro m off dep k h;rw [wfS] at h
   split at h
   ·injection h with h;injection h with h;omega
   ·repeat' split at h
    all_goals first
     |(injection h with h;injection h with h;omega;done)
     |exact i2 _ _ _ _ h
     |exact i1 _ _ _ h
     |(cases h;done)
  ·intro m i off dep k h;rw [wfO] at h
   split at h
   ·injection h with h;injection h with h;omega
   ·repeat' split at h
    all_goals first
     |(injection h with h;injection h with h;omega;done)
     |exact i3 _ _ _ _ _ (joinD_err h)
     |exact i1 _ _ _ h
     |(cases h;done)
  ·intro n off dep k h;cases n with
   |zero=>rw [wfN] at h;cases h
   |succ n=>
    rw [wfN] at h
    split at h
    ·exact i4 _ _ _ _ (joinD_err h)
    ·exact i1 _ _ _ h
  ·intro off dep k h;rw [wfT] at h
   split at h
   ·injection h with h;injection h with h;omega
   ·split at h
    ·exact i1 _ _ _ h
    ·cases hh:hd xs off with
     |error k2=>
      rw [hh] at h;have:=hd_err hh;injection h with h
      injection h with h
      omega
     |ok q=>
      rw [hh] at h;dsimp only at h
      split at h
      ·injection h with h;injection h with h;omega
      ·exact i5 _ _ _ h
structure LeafC (L:Lim) (M:Md):Prop where
 nint: ∀(X:Cx),X.L=L→X.M=M→X.xs.length≤90000→ ∀off ai n o,hd X.xs off= .ok (1,ai,n,o)→9223372036854775808≤n→ItemC X off o (txt (45::dec (n+1)))
 tag: ∀(X:Cx),X.L=L→X.M=M→X.xs.length≤90000→ ∀n t off o,n=2∨n=3→Enc X.xs (.tag n t) off o→ItemC X off o (bigR n t)
 text: ∀(X:Cx),X.L=L→X.M=M→X.xs.length≤90000→ ∀b off o,Enc X.xs (.str true b) off o→ItemC X off o (if Lib.validD b=true then txt (qT 34 b) else ([],some 10))
def BytC (L:Lim) (M:Md) (b:List UInt8):Prop:= ∀(X:Cx),X.L=L→X.M=M→X.xs.length≤90000→EncB X b (txt (byA L M b))
mutual
theorem leaf_all {L:Lim} {M:Md} (hC:LeafC L M) {X:Cx} (hl:X.L=L) (hm:X.M=M) (hx:X.xs.length≤90000): ∀(t:Tr) (off o:Nat),Enc X.xs t off o→AllS (BytC L M) t→LeafOK X (ntA L M) t
 | .int neg n,off,o,h,hs=>by
  rw [LeafOK];intro hneg h63 off' o' he;subst hneg;rw [Enc] at he;obtain ⟨ai,he⟩:=he;exact hC.nint X hl hm hx off' ai n o' he h63
 | .str false b,off,o,h,hs=>by
  rw [AllS] at hs;rw [LeafOK];intro off' o' he;rw [Enc] at he;obtain ⟨ai,v,o1,hh,h31,hvl,h63,rfl,hbb⟩:=he;have:=hs X hl hm hx;rw [note];exact fun w bs hS hlen=>di_bytes hS hh h31 hvl hbb this hlen
 | .str true b,off,o,h,hs=>by
  rw [LeafOK];intro off' o' he;rw [note];exact hC.text X hl hm hx b off' o' he
 | .chk tx l,off,o,h,hs=>by
  rw [AllS] at hs;rw [Enc] at h;obtain ⟨v,o1,h,hc⟩:=h;have:=chunks_off tx l _ _ hc;rw [LeafOK];exact ⟨by omega,chunks_all hC hl hm hx tx l _ _ hc hs⟩
 | .arr false l,off,o,h,hs=>by
  rw [AllS] at hs;rw [Enc] at h;obtain ⟨ai,o1,h,h31,hc⟩:=h;have:=encs_off l _ _ hc (hd_val h).2;rw [LeafOK];exact ⟨by omega,encs_all hC hl hm hx l _ _ hc hs⟩
 | .arr true l,off,o,h,hs=>by
  rw [AllS] at hs;rw [Enc] at h;obtain ⟨v,o1,h,hc⟩:=h;have:=opens_off l _ _ hc;rw [LeafOK];exact ⟨by omega,opens_all hC hl hm hx l _ _ hc hs⟩
 | .map false l,off,o,h,hs=>by
  rw [AllS] at hs;rw [Enc] at h;obtain ⟨ai,v,o1,h,h31,hv,hc⟩:=h;have:=encs_off l _ _ hc (hd_val h).2;rw [LeafOK];exact ⟨by omega,encs_all hC hl hm hx l _ _ hc hs⟩
 | .map true l,off,o,h,hs=>by
  rw [AllS] at hs;rw [Enc] at h;obtain ⟨v,o1,h,h2,hc⟩:=h;have:=opens_off l _ _ hc;rw [LeafOK];exact ⟨by omega,opens_all hC hl hm hx l _ _ hc hs⟩
 | .tag n t,off,o,h,hs=>by
  rw [AllS] at hs;rw [LeafOK]
  split
  ·rename_i hn;intro off' o' he;exact hC.tag X hl hm hx n t off' o' hn he
  ·rw [Enc] at h;obtain ⟨ai,o1,h,hc⟩:=h;exact leaf_all hC hl hm hx t _ _ hc hs
 | .prim ai v,off,o,h,hs=>by
  rw [LeafOK];intro ha off' o' he;rw [Enc] at he
  show ItemC X off' o' (txt (fT M.pr ai v))
  rw [←hm];exact fun w bs hS hlen=>di_float hS he ha (hd_fl he ha) hlen
theorem encs_all {L:Lim} {M:Md} (hC:LeafC L M) {X:Cx} (hl:X.L=L) (hm:X.M=M) (hx:X.xs.length≤90000): ∀(l:List Tr) (off o:Nat),Encs X.xs l off o→AllSs (BytC L M) l→LeavesOK X (ntA L M) l
 |[],off,o,h,hs=>by rw [LeavesOK];trivial
 |t::l,off,o,h,hs=>by
  rw [Encs] at h;rw [AllSs] at hs;obtain ⟨mid,h1,h2⟩:=h;rw [LeavesOK];exact ⟨leaf_all hC hl hm hx t _ _ h1 hs.1,encs_all hC hl hm hx l _ _ h2 hs.2⟩
theorem opens_all {L:Lim} {M:Md} (hC:LeafC L M) {X:Cx} (hl:X.L=L) (hm:X.M=M) (hx:X.xs.length≤90000): ∀(l:List Tr) (off o:Nat),Opens X.xs l off o→AllSs (BytC L M) l→LeavesOK X (ntA L M) l
 |[],off,o,h,hs=>by rw [LeavesOK];trivial
 |t::l,off,o,h,hs=>by
  rw [Opens] at h;rw [AllSs] at hs;obtain ⟨b,mid,_,_,h1,h2⟩:=h;rw [LeavesOK];exact ⟨leaf_all hC hl hm hx t _ _ h1 hs.1,opens_all hC hl hm hx l _ _ h2 hs.2⟩
theorem chunks_all {L:Lim} {M:Md} (hC:LeafC L M) {X:Cx} (hl:X.L=L) (hm:X.M=M) (hx:X.xs.length≤90000) (tx:Bool): ∀(l:List Tr) (off o:Nat),Chunks X.xs tx l off o→AllSs (BytC L M) l→LeavesOK X (ntA L M) l
 |[],off,o,h,hs=>by rw [LeavesOK];trivial
 |t::l,off,o,h,hs=>by
  rw [Chunks] at h;rw [AllSs] at hs;obtain ⟨b,mid,_,_,_,h1,h2⟩:=h;rw [LeavesOK];exact ⟨leaf_all hC hl hm hx t _ _ h1 hs.1,chunks_all hC hl hm hx tx l _ _ h2 hs.2⟩
end
theorem seq_says {L:Lim} {M:Md} (hC:LeafC L M) {X:Cx} (hl:X.L=L) (hm:X.M=M) (hx:X.xs.length≤90000) (hB: ∀b:List UInt8,b.length<X.xs.length→BytC L M b):
  ∀n first off,X.xs.length-off<n→off≤X.xs.length→ ∃k,SeqC X true k first off (seqF L (ntA L M) X.xs n first off)
 |0,_,_,h,_=>absurd h (by omega)
 |n+1,first,off,h,ho=>by
  rw [seqF];by_cases he:X.xs.length≤off
  ·have e:off=X.xs.length:=by omega
   rw [if_pos he];cases first
   ·exact ⟨0,.stop (.inl ⟨e,rfl⟩)⟩
   ·exact ⟨0,.none (.inl ⟨e,rfl⟩)⟩
  ·rw [if_neg he];cases hi:itemR L X.xs off with
   |error k=>
    obtain ⟨f,hf⟩:=itemR_err hi;have hk:=(wf_err L X.xs f).1 _ _ _ hf;refine ⟨0,.bad (.inr ⟨by omega,f,.error k,?_,rfl⟩) hk⟩
    rw [hl];exact hf
   |ok q=>
    obtain ⟨t,o⟩:=q;dsimp only;obtain ⟨h1,h2,h3,f,D,h4⟩:=itemR_ok (by omega) hi
    have e:=enc_off t _ _ h1;obtain ⟨k,hk⟩:=seq_says hC hl hm hx hB n false o (by omega) e.2
    refine ⟨k+1,.item (off':=o) (.inr ⟨by omega,f,_,by rw [hl];exact h4,rfl⟩) (item_note X (ntA L M) t off o h1 (leaf_all hC hl hm hx t off o h1 ?_)) (fun _=>hk)⟩
    exact (enc_strs t off o h1).imp (fun b hb=>hB b hb.1) t
theorem says_of {L:Lim} {M:Md} (hC:LeafC L M) {xs:List UInt8} (hx:xs.length≤90000) (hB: ∀b:List UInt8,b.length<xs.length→BytC L M b) (sq:Bool):Says xs L M sq (diagR L M sq xs):=by
 intro X hxs hl hm;subst hxs;cases sq with
 |true=>exact seq_says hC hl hm hx hB _ true 0 (by omega) (Nat.zero_le _)
 |false=>
  show ∃n,SeqC X false n true 0 (oneR L (ntA L M) X.xs)
  unfold oneR;by_cases h0:X.xs=[]
  ·rw [if_pos h0];exact ⟨0,.none (.inl ⟨by rw [h0];rfl,rfl⟩)⟩
  ·have hp:=List.length_pos_iff.2 h0;rw [if_neg h0];cases hi:itemR L X.xs 0 with
   |error k=>
    obtain ⟨f,hf⟩:=itemR_err hi;have hk:=(wf_err L X.xs f).1 _ _ _ hf;refine ⟨0,.bad (.inr ⟨hp,f,.error k,?_,rfl⟩) hk⟩
    rw [hl];exact hf
   |ok q=>
    obtain ⟨t,o⟩:=q;dsimp only;obtain ⟨h1,h2,h3,f,D,h4⟩:=itemR_ok (by omega) hi
    by_cases he:o=X.xs.length
    ·rw [if_pos he];have hI:=item_note X (ntA L M) t 0 o h1 (leaf_all hC hl hm hx t 0 o h1 ((enc_strs t 0 o h1).imp (fun b hb=>hB b hb.1) t))
     have:=SeqC.item (X:=X) (sq:=false) (first:=true) (n:=0) (off':=o) (r':=([],none)) (.inr ⟨hp,f,_,by rw [hl];exact h4,by simp [he]⟩) hI (fun _=> .stop (.inl ⟨he,rfl⟩))
     rw [thenR_nil] at this;exact ⟨1,by simpa [thenR_txt] using this⟩
    ·rw [if_neg he];refine ⟨0,.bad (.inr ⟨hp,f,_,by rw [hl];exact h4,by simp [he]⟩) (by decide)⟩
theorem says_all {L:Lim} {M:Md} (hC:LeafC L M) (hE: ∀b:List UInt8,b.length≤90000→Says b L M true (seqR L (ntA L M) b)→BytC L M b): ∀n (xs:List UInt8),xs.length≤n→n≤90000→ ∀sq,Says xs L M sq (diagR L M sq xs):=by
 intro n
 induction n with
 |zero=>exact fun xs hx hn sq=>says_of hC (by omega) (fun b hb=>absurd hb (by omega)) sq
 |succ n ih=>exact fun xs hx hn sq=>says_of hC (by omega) (fun b hb=>hE b (by omega) (ih b (by omega) (by omega) true)) sq
end
section
open Go.RowKit
section
variable {w:World} {d db o c dm off n el pa:Nat} {xs:List UInt8}
def TextAt (w:World) (d db o c dm:Nat) (xs:List UInt8) (off':Nat) (b:List UInt8) (e:Ending) (w':World):Prop:=
 Dec w' d db o c dm xs off'∧Fr [d] w w'∧((Lib.validD b=true∧ ∃q n,e= .returned (.tuple #[.slice (some ⟨db,q,none⟩) b.length n,.nilIface])∧b.length≤n∧Rd w' db q b)∨(Lib.validD b=false∧ ∃a,e= .returned (.tuple #[.slice none 0 0,.iface 149 (.pointer (some a))])))
theorem parseText (h:Dec w d db o c dm xs off) (hM:DecM w dm n el pa) (hmd:dm≠d) (hu:U8 w) (h2d:2≤d) {m ai v o1:Nat} (hh:hd xs off= .ok (m,ai,v,o1)) (hai:ai≠31) (hl:o1+v≤xs.length) {b:List UInt8} (hb:b=(xs.drop o1).take v):
  Calls Tryz.prog 131 #[.pointer (some ⟨d,0,none⟩)] w (TextAt w d db o c dm xs (o1+v) b):=by
 have K:=Hz (getHeadF h hh);have g31:((ai:Int)==31)=false:=by simp;omega
 have hm:=h.len;have hbl:b.length=v:=by rw [hb];simp;omega
 replace hh:=Hz hh;replace hM:=Hz hM;replace hu:=Hz hu;replace hb:=Hz hb;clear hai;go_enter Tryz.func131,Tryz.ntmps131
 go_wp2_with fail
 refine K.out.mono ?_
 rintro e w1 ⟨rfl,hD,hf⟩;have h0:=hD.c0;have h1:=hD.c1;have f1:=hD.f1;have hc:=hD.cap;have gv:IntKind.i64.wrap (v:Int)=(v:Int):=IntWalk.i64_in _ (by omega)
 have gs:IntKind.i64.wrap ((o1:Int)+(v:Int))=(o1:Int)+(v:Int):=IntWalk.i64_in _ (by omega)
 have g1:(0:Int)≤(o1:Int):=by omega
 have g2:(o1:Int).toNat=o1:=by omega
 have g3:(o1:Int)≤(o1:Int)+(v:Int):=by omega
 have g4:(o1:Int)+(v:Int)≤(c:Int):=by omega
 have g5:((o1:Int)+(v:Int)).toNat=o1+v:=by omega
 have g6:0≤(o1:Int)+(v:Int):=by omega
 go_wp2;by_cases hco:c=o1
 all_goals
  go_quiet (fail)
  go_upto_region 5 with fail
 ·have hv0:v=0:=by omega
  have hbn:b=[]:=List.eq_nil_of_length_eq_zero (by omega)
  generalize hW:(w1.drewN nq).setCell {block:=d,off:=1} (Value.int IntKind.i64 ((o1:Int)+(v:Int)))=W;have hD2:Dec W d db o c dm xs (o1+v):=by
   rw [←hW];refine DecV.dec (x:=(o1:Int)+(v:Int)) ?_ _ (by omega) (by omega)
   repeat (first|with_reducible exact hD.v|with_reducible apply DecV.set|with_reducible apply DecV.drewN)
  have hF2:Fr [d] w W:=by
   rw [←hW];refine Fr.trans hf ?_
   repeat (first|with_reducible exact Fr.refl _ _|with_reducible refine Fr.setCell ?_ (by simp) _|with_reducible refine Fr.drewN ?_ _)
  clear hW h0 h1 f1;have hM2:=hM.out.fr hF2 (by simpa using hmd)
  have hu2:=hu.out.fr hF2 (by simpa using h2d)
  have c2:=hD2.c2;have m8:W.cell? ⟨dm,8,none⟩=some (.int .i64 0):=hM2.cell 8;have hR:Hid (Rd W db o b):=Hz (by rw [hbn];exact Rd.nil _ _ _)
  have KV:=utf8Valid (c:=0) (by omega) (by omega) hR.out hu2 hu2.size
  rw [hbl] at KV;have hbc:Hid (b.length≤0):=Hz (by omega)
  replace hbl:=Hz hbl;clear hv0 hbn hco;by_cases hval:Lib.validD b=true
  ·rw [hval] at KV;replace KV:=Hz KV;go_wp2_with fail
   refine KV.out.mono ?_
   rintro e w3 ⟨rfl,hf3⟩;go_wp2
   go_ret2
   exact ⟨hD2.fr hf3 (by simp) (by simp),hF2.then0 hf3,.inl ⟨hval,o,0,by rw [hbl.out];rfl,hbc.out,hR.out.fr hf3 (by simp)⟩⟩
  ·rw [Bool.not_eq_true] at hval;rw [hval] at KV;replace KV:=Hz KV;go_wp2_with fail
   refine KV.out.mono ?_
   rintro e w3 ⟨rfl,hf3⟩;go_wp2
   go_ret2
   exact ⟨hD2.fr (hf3.alloc _) (by simp) (by simp),hF2.then0 (hf3.alloc _),.inr ⟨hval,_,rfl⟩⟩
 ·skip
  generalize hW:(w1.drewN nq).setCell {block:=d,off:=1} (Value.int IntKind.i64 ((o1:Int)+(v:Int)))=W;have hD2:Dec W d db o c dm xs (o1+v):=by
   rw [←hW];refine DecV.dec (x:=(o1:Int)+(v:Int)) ?_ _ (by omega) (by omega)
   repeat (first|with_reducible exact hD.v|with_reducible apply DecV.set|with_reducible apply DecV.drewN)
  have hF2:Fr [d] w W:=by
   rw [←hW];refine Fr.trans hf ?_
   repeat (first|with_reducible exact Fr.refl _ _|with_reducible refine Fr.setCell ?_ (by simp) _|with_reducible refine Fr.drewN ?_ _)
  clear hW h0 h1 f1;have hM2:=hM.out.fr hF2 (by simpa using hmd)
  have hu2:=hu.out.fr hF2 (by simpa using h2d)
  have c2:=hD2.c2;have m8:W.cell? ⟨dm,8,none⟩=some (.int .i64 0):=hM2.cell 8;have hR:Hid (Rd W db (o+o1) b):=Hz (by rw [hb.out];exact (hD2.rd.drop o1).take v)
  have KV:=utf8Valid (c:=(c-o1)) (by omega) (by omega) hR.out hu2 hu2.size
  rw [hbl] at KV;have hbc:Hid (b.length≤c-o1):=Hz (by omega)
  replace hbl:=Hz hbl;clear hco;by_cases hval:Lib.validD b=true
  ·rw [hval] at KV;replace KV:=Hz KV;go_wp2_with fail
   refine KV.out.mono ?_
   rintro e w3 ⟨rfl,hf3⟩;go_wp2
   go_ret2
   exact ⟨hD2.fr hf3 (by simp) (by simp),hF2.then0 hf3,.inl ⟨hval,(o+o1),(c-o1),by rw [hbl.out];rfl,hbc.out,hR.out.fr hf3 (by simp)⟩⟩
  ·rw [Bool.not_eq_true] at hval;rw [hval] at KV;replace KV:=Hz KV;go_wp2_with fail
   refine KV.out.mono ?_
   rintro e w3 ⟨rfl,hf3⟩;go_wp2
   go_ret2
   exact ⟨hD2.fr (hf3.alloc _) (by simp) (by simp),hF2.then0 (hf3.alloc _),.inr ⟨hval,_,rfl⟩⟩
end
section
variable {X:Cx} {off:Nat} {bs:List UInt8} {w:World}
theorem di_text (h:St X off bs w) {ai v o1:Nat} {b:List UInt8} (hh:hd X.xs off= .ok (3,ai,v,o1)) (h31:ai≠31) (hvl:o1+v≤X.xs.length) (hb:b=(X.xs.drop o1).take v) (hlen:bs.length+(if Lib.validD b=true then txt (qT 34 b) else ([],some 10):R).1.length≤room):
  Calls Tryz.prog 105 #[.pointer (some ⟨X.di,0,none⟩)] w (IPost X (o1+v) bs (if Lib.validD b=true then txt (qT 34 b) else ([],some 10)) w):=by
 obtain ⟨r,hr⟩: ∃r:R,(if Lib.validD b=true then txt (qT 34 b) else ([],some 10))=r:=⟨_,rfl⟩
 rw [hr] at hlen ⊢;replace hr:=Hz hr;obtain ⟨hl,hb1,hb2⟩:=hd_byte hh;have hai:=(hd_off hh).2.2.2;have hai2:=(hd_off hh).2.2.1;have k1:=h.i1;have k2:=h.i2;have d0:=h.dec.c0;have d1:=h.dec.c1;have ha:=h.dec.at_ off hl;have hm:=h.dec.len;have KT:=fun n=>nextCBORType (h.dec.drewN n) hl
 rw [hb1] at KT;have KP:=fun n=>parseText (h.dec.drewN n) (h.drewN n).dm h.n3 (h.drewN n).u8 h.l2d hh h31 hvl hb
 have hbl:b.length≤1099511627776:=by rw [hb,List.length_take,List.length_drop];omega
 replace KT:=Hz KT;replace KP:=Hz KP;replace hh:=Hz hh;replace hb:=Hz hb;replace hlen:=Hz hlen;have g95:((X.xs[off].toNat:Int)==95)=false:=by simp;omega
 have g127:((X.xs[off].toNat:Int)==127)=false:=by simp;omega
 have g159:((X.xs[off].toNat:Int)==159)=false:=by simp;omega
 have g191:((X.xs[off].toNat:Int)==191)=false:=by simp;omega
 generalize (X.xs[off].toNat:Int)=x0 at *
 clear hb1 hb2 hai h31;have b1:(off:Int)<(X.xs.length:Int):=by omega
 have b2:(0:Int)≤(off:Int):=by omega
 have b3:(off:Int).toNat=off:=by omega
 replace hbl:=Hz hbl;go_enter Tryz.func105,Tryz.ntmps105
 go_wp2
 go_quiet (fail)
 go_wp2_with fail
 refine (KT.out _).mono ?_
 rintro e w1 ⟨rfl,nm,rfl⟩;go_wp2_with fail
 refine (KP.out _).mono ?_
 rintro e w1 ⟨hD,hf,hcase⟩;have h1:=(h.drewN _).moved hf hD;have G1:=h.grF (((Fr.refl [X.d] w).drewN _).trans hf);rcases hcase with ⟨hval,q,n,rfl,hcap,hrd⟩|⟨hval,a,rfl⟩
 ·obtain rfl:txt (qT 34 b)=r:=by have:=hr.out;rwa [if_pos hval] at this
  have KE:=Hz (encText h1 34 b hval hbl.out hlen.out);have KS:=toStr hrd n;clear hval hr;go_wp2_with fail
  refine KE.out.mono ?_
  rintro e w2 ⟨rfl,h2,hG2⟩;go_wp2;go_ret
  exact ⟨.nilIface,_,rfl,rfl,fun _=>rfl,h2,G1.trans hG2⟩
 ·obtain rfl:(([],some 10):R)=r:=by have:=hr.out;rwa [if_neg (by rw [hval];simp)] at this
  clear hval hr;go_wp2;go_ret
  exact ⟨_,_,rfl,errv_ptr 10 (by omega) a,(by intro e;cases e),(by rw [List.append_nil];exact h1),G1⟩
end
end
section
open Go.RowKit
theorem leafC (L:Lim) (M:Md):LeafC L M:=by
 refine ⟨fun X hl hm hx off ai n o hh h63=>fun w bs hS hlen=>di_nbig hS hh h63 hlen,?_,?_⟩
 ·intro X hl hm hx n t off o hn he;rw [Enc] at he;obtain ⟨ai,o1,hh,he⟩:=he;have bad: ∀m ai' v' o',hd X.xs o1= .ok (m,ai',v',o')→m≠2→ItemC X off o ([],some 17):=by
   intro m ai' v' o' h2 hm2;obtain ⟨hl1,hmm,_⟩:=hd_byte h2;exact fun w bs hS hlen=>di_tagbad n hn hS hh hl1 (hd_off h2).2.1 hmm hm2 o
  have good: ∀(b:List UInt8) ai' v' o',hd X.xs o1= .ok (2,ai',v',o')→b.length≤90000→
    (∀w,Dec w X.d X.db X.o X.c X.dm X.xs o1→X.db<w.heap.size→Calls Tryz.prog 129 #[.pointer (some ⟨X.d,0,none⟩)] w (SAt w X.d X.db X.o X.c X.dm X.xs o b))→ItemC X off o (txt (bigN n b)):=by
   intro b ai' v' o' h2 hbl hP;obtain ⟨hl1,hmm,_⟩:=hd_byte h2;rcases hn with rfl|rfl
   ·have e:bigN 2 b=bigT (be b) false:=by rw [bigN,if_pos rfl];rfl
    rw [e];exact fun w bs hS hlen=>di_bg2 hS hh hl1 hmm hP hbl hlen
   ·have e:bigN 3 b=bigT (be b+1) true:=by rw [bigN,if_neg (by omega)];rfl
    rw [e];exact fun w bs hS hlen=>di_bg3 hS hh hl1 hmm hP hbl hlen
  cases t with
  |int neg v=>
   rw [Enc] at he;obtain ⟨ai',he⟩:=he;exact bad _ _ _ _ he (by cases neg<;>simp)
  |str tx b=>
   rw [Enc] at he;obtain ⟨ai',v,o2,h2,h31,hvl,h63,rfl,hb⟩:=he;cases tx with
   |true=>exact bad _ _ _ _ h2 (by simp [majS])
   |false=>
    refine good b _ _ _ h2 (by rw [hb,List.length_take,List.length_drop];omega) fun w hD hdb=> ?_
    exact (parseByteString hD h2 h31 hvl hb).mono fun _ _ h=>h.some hdb
  |chk tx l=>
   rw [Enc] at he;obtain ⟨v,o2,h2,hc⟩:=he;cases tx with
   |true=>exact bad _ _ _ _ h2 (by simp [majS])
   |false=>
    have h1:=catS_len false l _ _ hc;have h3:=chunks_off false l _ _ hc;exact good (catS l) _ _ _ h2 (by omega) fun w hD hdb=>parseChunks hD hdb (by omega) h2 hc
  |arr op l=>
   cases op<;>(rw [Enc] at he)
   ·obtain ⟨ai',o2,h2,_⟩:=he;exact bad _ _ _ _ h2 (by omega)
   ·obtain ⟨v,o2,h2,_⟩:=he;exact bad _ _ _ _ h2 (by omega)
  |map op l=>
   cases op<;>(rw [Enc] at he)
   ·obtain ⟨ai',v,o2,h2,_⟩:=he;exact bad _ _ _ _ h2 (by omega)
   ·obtain ⟨v,o2,h2,_⟩:=he;exact bad _ _ _ _ h2 (by omega)
  |tag n' t'=>
   rw [Enc] at he;obtain ⟨ai',o2,h2,_⟩:=he;exact bad _ _ _ _ h2 (by omega)
  |prim ai' v=>
   rw [Enc] at he;exact bad _ _ _ _ he (by omega)
 ·intro X hl hm hx b off o he;rw [Enc] at he;obtain ⟨ai,v,o1,hh,h31,hvl,h63,rfl,hb⟩:=he;exact fun w bs hS hlen=>di_text hS hh h31 hvl hb hlen
end
section
open Go.RowKit
section
variable {X:Cx} {off:Nat} {bs:List UInt8} {w:World}
theorem encBytes_tx (h:St X off bs w) {q c:Nat} {b:List UInt8} (hrd:Rd w X.db q b) (hcap:b.length≤c) (hbl:b.length≤1099511627776) (hne:0<b.length) (htx:X.M.tx=true) (hval:Lib.validD b=true) (hlen:bs.length+(qT 39 b).length≤room):
  Calls Tryz.prog 130 #[.pointer (some ⟨X.di,0,none⟩),.slice (some ⟨X.db,q,none⟩) b.length c] w (IPost X off bs (txt (qT 39 b)) w):=by
 have t0:(0:Int)<(b.length:Int):=by omega
 have k0:=h.i0;have k5:=h.i5;rw [htx] at k5;have KV:=utf8Valid (c:=c) hbl hcap hrd h.u8 h.u8.size;rw [hval] at KV;replace KV:=Hz KV;replace hrd:=Hz hrd;replace hval:=Hz hval;clear htx hcap;replace hbl:=Hz hbl;go_enter Tryz.func130,Tryz.ntmps130
 go_wp2_with fail
 refine KV.out.mono ?_
 rintro e w2 ⟨rfl,hf2⟩;have h2:=h.kept hf2;have G2:=h.gr0 hf2;have KS:=toStr (hrd.out.fr hf2 (by simp)) c
 have KE:=Hz (encText h2 39 b hval.out hbl.out hlen);go_wp2_with fail
 refine KE.out.mono ?_
 rintro e w3 ⟨rfl,h3,hG3⟩;go_wp2;go_ret
 exact ⟨.nilIface,_,rfl,rfl,fun _=>rfl,h3,G2.trans hG3⟩
def NoTx (X:Cx) (b:List UInt8):Prop:=X.M.tx=false∨X.M.tx=true∧Lib.validD b=false
theorem encBytes_em (h:St X off bs w) {q c:Nat} {b:List UInt8} (hL:X.L.nest≤65535∧X.L.el≤2147483647∧X.L.pa≤2147483647) (hrd:Rd w X.db q b) (hcap:b.length≤c) (hbl:b.length≤1099511627776) (hne:0<b.length) (htx:NoTx X b) (hem:X.M.em=true) {s:List UInt8} (hS:Says b X.L X.M true (txt s)) (hlen:bs.length+([60,60]++(s++[62,62])).length≤room):
  Calls Tryz.prog 130 #[.pointer (some ⟨X.di,0,none⟩),.slice (some ⟨X.db,q,none⟩) b.length c] w (IPost X off bs (txt ([60,60]++(s++[62,62]))) w):=by
 have t0:(0:Int)<(b.length:Int):=by omega
 have L0:Togo bs (thenR (txt [60,60]) (thenR (txt s) (txt [62,62]))) bs (txt ([60,60]++(s++[62,62]))):=Togo.refl _ _;have hsl:s.length≤room:=by simp at hlen;omega
 generalize [60,60]++(s++[62,62])=TS at *
 have hlen:=Hz (show bs.length+(txt TS).1.length≤room from hlen)
 replace L0:=Hz L0;have k0:=h.i0;have k5:=h.i5;have k6:=h.i6;rw [hem] at k6;have KV:=Hz (utf8Valid (c:=c) hbl hcap hrd h.u8 h.u8.size);replace hrd:=Hz hrd;replace hcap:=Hz hcap;replace hbl:=Hz hbl;replace hem:=Hz hem;replace hL:=Hz hL;replace hS:=Hz hS;go_enter Tryz.func130,Tryz.ntmps130
 go_upto_region 2 with fail
 go_cut [23] from 13 to 23 (fun s23 wx=>s23= .bool false∧Fr [] w wx)
 case first=>
  rcases htx with htx|⟨htx,hval⟩
  ·rw [htx] at k5;clear htx;go_wp2
   go_meet
   exact ⟨rfl,Fr.refl _ _⟩
  ·rw [htx] at k5;have KV2:=KV.out;rw [hval] at KV2;replace KV2:=Hz KV2;clear htx hval KV;go_wp2_with fail
   refine KV2.out.mono ?_
   rintro e w2 ⟨rfl,hf2⟩;go_wp2
   go_meet
   exact ⟨rfl,hf2⟩
 case rest=>
  obtain ⟨rfl,hf1⟩:=hcut;clear k0 k5 k6 KV;have h1:=h.kept hf1;have k0:=h1.i0;have k6:=h1.i6;have k7:=h1.i7;rw [hem.out] at k6;have K1:=Hz (fun n=>newDiagnose (w:=wc.drewN n) (hrd.out.fr (hf1.drewN n) (by simp)) hcap.out hbl.out (Nat.lt_of_lt_of_le h1.ldb h1.hB) (h1.drewN n).dg (h1.drewN n).dm (h1.drewN n).u8)
  go_wp2
  go_region_held3 (fun w'=>w'.cell? ⟨X.di,0,none⟩=some (.pointer (some ⟨X.dg,0,none⟩))∧w'.cell? ⟨X.dg,6,none⟩=some (.pointer (some ⟨X.dm,0,none⟩)))
   (first|go_keep|exact ⟨hf2.cell k0 (by simp),hf2.cell k7 (by simp)⟩)
   (first|(go_at_call 86;refine (K1.out _).mono ?_;rintro e w2 ⟨Y,rfl,hx,hl,hm,hdg,-,-,-,hB,hd,hwb,hSt,hf0⟩;have hf2:Fr [] wc w2:=((Fr.refl [] wc).drewN _).trans hf0;have hB':wc.heap.size≤Y.B:=hB;have hd':wc.heap.size≤Y.d:=hd;have hwb':wc.heap.size≤Y.wb:=hwb))
  clear K1 k0 k6 k7;obtain ⟨nn,hq⟩:=hS.out Y hx hl hm;have KD:=Hz (diag hSt (hl▸hL.out.1) (hl▸hL.out.2.1) (hl▸hL.out.2.2) true hq hsl);clear hq;go_wp2_with fail
  refine KD.out.mono ?_
  rintro e w3 ⟨v,o3,rfl,hv,hS3,hG3⟩;obtain rfl:v= .nilIface:=hv;have hf3:Fr [] wc w3:=hf2.gr hG3 hB' (by intro k hk;simp at hk;rcases hk with rfl|rfl<;>exact .inr (by assumption))
  have h3:=h1.kept hf3;have G3:=(h.gr0 hf1).trans (h1.gr0 hf3);have k0':=h3.i0;have k2':=h3.i2;have K4:=Hz (fun n=>writeString (h3.drewN n).buf h3.lw (h3.drewN n).hB [60,60] (L0.out.len_tx hlen.out))
  go_wp2_with fail
  refine (K4.out 0).mono ?_
  rintro e w4 ⟨⟨u4,rfl⟩,hb4,hg4⟩;have h4:=h3.wrote hg4 hb4;have G4:=G3.trans (St.grW hg4);have L4:=Hz L0.out.tx;have k0'':=h4.i0;have k2'':=h4.i2;have K5:=Hz (fun n=>writeString (h4.drewN n).buf h4.lw (h4.drewN n).hB s (L4.out.len_tx hlen.out))
  go_wp2_with fail
  refine (K5.out 0).mono ?_
  rintro e w5 ⟨⟨u5,rfl⟩,hb5,hg5⟩;have h5:=h4.wrote hg5 hb5;have G5:=G4.trans (St.grW hg5);have L5:=Hz L4.out.tx;have k0''':=h5.i0;have k2''':=h5.i2;have K6:=Hz (fun n=>writeString (h5.drewN n).buf h5.lw (h5.drewN n).hB [62,62] (by have:=L5.out.len hlen.out;simp only [txt] at this;unfold room at this;exact this))
  go_wp2_with fail
  refine (K6.out 0).mono ?_
  rintro e w6 ⟨⟨u6,rfl⟩,hb6,hg6⟩;have h6:=h5.wrote hg6 hb6;have G6:=G5.trans (St.grW hg6);go_wp2;go_ret
  exact IPost.done h6 G6 L5.out
end
end
end Go.Proofs.YteodinhkhhaafaaGreatDoor
