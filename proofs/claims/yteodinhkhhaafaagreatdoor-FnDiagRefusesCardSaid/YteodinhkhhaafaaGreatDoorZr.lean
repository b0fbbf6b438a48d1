/- FnDiagRefuses, its row and its card: for all bytes and options the law returns true: Diagnose returns an error, and no text, exactly if the bytes are not one well-formed item with valid texts and byte strings in the tags 2 and 3; it returns what Wellformed returns, if that is an error. -/
import Derived.Test.YteodinhkhhaafaaGreatDoorDbw
import Derived.Test.YteodinhkhhaafaaGreatDoorCards
import Derived.Test.YteodinhkhhaafaaGreatDoorTie
set_option linter.unusedVariables false
set_option linter.unusedSimpArgs false
set_option maxRecDepth 100000
set_option maxHeartbeats 6400000
namespace Go.Proofs.YteodinhkhhaafaaGreatDoor
section
open Go.RowKit
section
variable {M:Md} {m:Nat}
def Bad (r:R):Prop:= ∃k,r.2=some k∧k≠0
theorem Bad.then1 {a:R} (h:Bad a) (b:R):Bad (thenR a b):=by
 obtain ⟨k,h1,h2⟩:=h
 exact ⟨k,by rw [thenR_err h1],h2⟩
theorem Bad.then2 {a b:R} (h:Bad b) (ha:a.2=none):Bad (thenR a b):=by
 obtain ⟨k,h1,h2⟩:=h
 exact ⟨k,by rw [thenR_ok ha];exact h1,h2⟩
theorem arrR_bad (c:List UInt8): ∀(l:List R) (i:Nat),(∀r,r∈l→r.2=none∨Bad r)→(∃r,r∈l∧Bad r)→Bad (arrR c i l)
 |[],i,_,h=>by obtain ⟨r,h,_⟩:=h;cases h
 |a::l,i,h1,h2=>by
  rw [arrR]
  refine Bad.then2 ?_ rfl
  rcases h1 a (by simp) with ha|ha
  ·refine Bad.then2 (arrR_bad c l (i+1) (fun r hr=>h1 r (by simp [hr])) ?_) ha
   obtain ⟨r,hr,hb⟩:=h2
   rcases List.mem_cons.1 hr with rfl|hr
   ·obtain ⟨k,e,_⟩:=hb;rw [ha] at e;cases e
   ·exact ⟨r,hr,hb⟩
  ·exact ha.then1 _
theorem mapR_bad (c:List UInt8): ∀(l:List R) (i:Nat),l.length%2=0→(∀r,r∈l→r.2=none∨Bad r)→(∃r,r∈l∧Bad r)→Bad (mapR c i (pairs l))
 |[],i,_,_,h=>by obtain ⟨r,h,_⟩:=h;cases h
 |[a],i,hl,_,_=>by simp at hl
 |a::b::l,i,hl,h1,h2=>by
  rw [pairs,mapR]
  refine Bad.then2 ?_ rfl
  rcases h1 a (by simp) with ha|ha
  ·refine Bad.then2 (Bad.then2 ?_ rfl) ha
   rcases h1 b (by simp) with hb|hb
   ·refine Bad.then2 (mapR_bad c l (i+1) (by simp at hl;omega) (fun r hr=>h1 r (by simp [hr])) ?_) hb
    obtain ⟨r,hr,hx⟩:=h2
    rcases List.mem_cons.1 hr with rfl|hr
    ·obtain ⟨k,e,_⟩:=hx;rw [ha] at e;cases e
    ·rcases List.mem_cons.1 hr with rfl|hr
     ·obtain ⟨k,e,_⟩:=hx;rw [hb] at e;cases e
     ·exact ⟨r,hr,hx⟩
   ·exact hb.then1 _
  ·exact ha.then1 _
theorem snds_bad {N:Nt}: ∀{l:List Tr},Tr.snds Lib.validD l=false→(∀t,t∈l→t.snd Lib.validD=false→Bad (note N t))→ ∃r,r∈notes N l∧Bad r
 |[],h,_=>by rw [Tr.snds] at h;cases h
 |t::l,h,hb=>by
  rw [Tr.snds] at h
  rw [notes]
  cases ht:t.snd Lib.validD with
  |false=>exact ⟨_,List.mem_cons_self ..,hb t (List.mem_cons_self ..) ht⟩
  |true=>
   rw [ht,Bool.true_and] at h
   obtain ⟨r,h1,h2⟩:=snds_bad (N:=N) h (fun u hu=>hb u (List.mem_cons_of_mem _ hu))
   exact ⟨r,List.mem_cons_of_mem _ h1,h2⟩
theorem chunks_snd {xs:List UInt8}: ∀(l:List Tr) (off o:Nat),Chunks xs false l off o→Tr.snds Lib.validD l=true
 |[],_,_,_=>by rw [Tr.snds]
 |t::l,off,o,h=>by
  rw [Chunks] at h
  obtain ⟨b,mid,_,_,⟨s,rfl⟩,_,h2⟩:=h
  have e:(Tr.str false s).snd Lib.validD=true:=by rw [Tr.snd]<;>simp
  rw [Tr.snds,chunks_snd l _ _ h2,e]
  rfl
theorem or_bad {N:Nt} (hN:NOk N) {t:Tr} (h:t.snd Lib.validD=false→Bad (note N t)):(note N t).2=none∨Bad (note N t):=by
 cases ht:t.snd Lib.validD with
 |true=>exact .inl (note_ok hN t ht)
 |false=>exact .inr (h ht)
theorem notes_or {N:Nt} (hN:NOk N) {l:List Tr} (h: ∀t,t∈l→t.snd Lib.validD=false→Bad (note N t)): ∀r,r∈notes N l→r.2=none∨Bad r:=by
 intro r hr
 rw [notes_map] at hr
 obtain ⟨t,ht,rfl⟩:=List.mem_map.1 hr
 exact or_bad hN (h t ht)
structure NBad (N:Nt):Prop extends NOk N where
 btx: ∀b,Lib.validD b=false→Bad (N.tx b)
 bbig: ∀n t,(match t with| .str false _=>true| .chk false _=>true|_=>false)=false→Bad (N.big n t)
theorem ntA_bad (L:Lim) (M:Md):NBad (ntA L M):={ntA_ok L M with
 btx:=fun b h=>by
  show Bad (if Lib.validD b=true then txt (qT 34 b) else ([],some 10))
  rw [if_neg (by simp [h])]
  exact ⟨10,rfl,by decide⟩
 bbig:=fun n t h=>by
  show Bad (bigR n t)
  unfold bigR
  split
  ·cases h
  ·cases h
  ·exact ⟨17,rfl,by decide⟩}
mutual
theorem note_bad {xs:List UInt8} {N:Nt} (hN:NBad N): ∀(t:Tr) (off o:Nat),Enc xs t off o→t.snd Lib.validD=false→Bad (note N t)
 | .int _ _,_,_,_,h=>by rw [Tr.snd] at h;cases h;all_goals simp
 | .str false _,_,_,_,h=>by rw [Tr.snd] at h;cases h;all_goals simp
 | .prim _ _,_,_,_,h=>by rw [Tr.snd] at h;cases h;all_goals simp
 | .str true b,_,_,_,h=>by rw [Tr.snd] at h;rw [note];exact hN.btx b h
 | .chk tx [],_,_,_,h=>by rw [Tr.snd,Tr.snds] at h;cases h
 | .chk tx (t::l),off,o,he,h=>by
  rw [Tr.snd] at h
  rw [Enc] at he
  obtain ⟨v,o1,_,hc⟩:=he
  have hk:=chunks_bad hN tx (t::l) _ _ hc
  have h1:=notes_or hN.toNOk hk
  have h2:=snds_bad h hk
  rw [notes] at h1 h2
  rw [note,thenR_txt]
  exact arrR_bad _ _ _ h1 h2
 | .arr false l,off,o,he,h=>by
  rw [Tr.snd] at h
  rw [Enc] at he
  obtain ⟨ai,o1,_,_,hc⟩:=he
  have hk:=encs_bad hN l _ _ hc
  rw [note,thenR_txt]
  exact arrR_bad _ _ _ (notes_or hN.toNOk hk) (snds_bad h hk)
 | .arr true l,off,o,he,h=>by
  rw [Tr.snd] at h
  rw [Enc] at he
  obtain ⟨v,o1,_,hc⟩:=he
  have hk:=opens_bad hN l _ _ hc
  rw [note,thenR_txt]
  exact arrR_bad _ _ _ (notes_or hN.toNOk hk) (snds_bad h hk)
 | .map false l,off,o,he,h=>by
  rw [Tr.snd] at h
  rw [Enc] at he
  obtain ⟨ai,v,o1,_,_,hv,hc⟩:=he
  have hk:=encs_bad hN l _ _ hc
  rw [note,thenR_txt]
  exact mapR_bad _ _ _ (by rw [notes_length];omega) (notes_or hN.toNOk hk) (snds_bad h hk)
 | .map true l,off,o,he,h=>by
  rw [Tr.snd] at h
  rw [Enc] at he
  obtain ⟨v,o1,_,h2,hc⟩:=he
  have hk:=opens_bad hN l _ _ hc
  rw [note,thenR_txt]
  exact mapR_bad _ _ _ (by rw [notes_length];exact h2) (notes_or hN.toNOk hk) (snds_bad h hk)
 | .tag n t,off,o,he,h=>by
  unfold Tr.snd at h
  rw [Enc] at he
  obtain ⟨ai,o1,_,hc⟩:=he
  have hk:=note_bad hN t _ _ hc
  rw [note]
  by_cases hn:n=2∨n=3
  ·rw [if_pos hn]
   have hb:(!(n==2||n==3))=false:=by rcases hn with rfl|rfl<;>rfl
   rw [hb,Bool.false_or] at h
   refine hN.bbig n t ?_
   cases hm:(match t with| .str false _=>true| .chk false _=>true|_=>false) with
   |false=>rfl
   |true=>
    split at hm
    ·rename_i b
     have e:(Tr.str false b).snd Lib.validD=true:=by rw [Tr.snd]<;>simp
     rw [e] at h
     simp at h
    ·rename_i l
     rw [Enc] at hc
     obtain ⟨v,o2,_,hcc⟩:=hc
     have e:(Tr.chk false l).snd Lib.validD=true:=by rw [Tr.snd];exact chunks_snd _ _ _ hcc
     rw [e] at h
     simp at h
    ·cases hm
  ·rw [if_neg hn]
   have hb:(!(n==2||n==3))=true:=by simp;omega
   rw [hb,Bool.true_or,Bool.true_and] at h
   exact Bad.then2 (Bad.then2 ((hk h).then1 _) rfl) rfl
theorem encs_bad {xs:List UInt8} {N:Nt} (hN:NBad N): ∀(l:List Tr) (off o:Nat),Encs xs l off o→ ∀t,t∈l→t.snd Lib.validD=false→Bad (note N t)
 |[],_,_,_,t,h,_=>by cases h
 |u::l,off,o,he,t,h,hs=>by
  rw [Encs] at he
  obtain ⟨mid,h1,h2⟩:=he
  rcases List.mem_cons.1 h with e|h
  ·rw [e] at hs ⊢
   exact note_bad hN u _ _ h1 hs
  ·exact encs_bad hN l _ _ h2 t h hs
theorem opens_bad {xs:List UInt8} {N:Nt} (hN:NBad N): ∀(l:List Tr) (off o:Nat),Opens xs l off o→ ∀t,t∈l→t.snd Lib.validD=false→Bad (note N t)
 |[],_,_,_,t,h,_=>by cases h
 |u::l,off,o,he,t,h,hs=>by
  rw [Opens] at he
  obtain ⟨b,mid,_,_,h1,h2⟩:=he
  rcases List.mem_cons.1 h with e|h
  ·rw [e] at hs ⊢
   exact note_bad hN u _ _ h1 hs
  ·exact opens_bad hN l _ _ h2 t h hs
theorem chunks_bad {xs:List UInt8} {N:Nt} (hN:NBad N) (tx:Bool): ∀(l:List Tr) (off o:Nat),Chunks xs tx l off o→ ∀t,t∈l→t.snd Lib.validD=false→Bad (note N t)
 |[],_,_,_,t,h,_=>by cases h
 |u::l,off,o,he,t,h,hs=>by
  rw [Chunks] at he
  obtain ⟨b,mid,_,_,_,h1,h2⟩:=he
  rcases List.mem_cons.1 h with e|h
  ·rw [e] at hs ⊢
   exact note_bad hN u _ _ h1 hs
  ·exact chunks_bad hN tx l _ _ h2 t h hs
end
theorem noteB_ne (enc:Nat) (sp:Bool) (b:List UInt8):noteB enc sp b≠[]:=by unfold noteB;simp
theorem byA_ne (L:Lim) (M:Md) (b:List UInt8) (hb:b.length≤1099511627776):byA L M b≠[]:=by
 rw [byA_eq _ _ _ hb]
 split
 ·simp [qT]
 ·split
  ·simp
  ·exact noteB_ne _ _ _
theorem dotted_ne (t:List UInt8):dotted t≠[]:=by
 unfold dotted
 split
 ·rename_i h
  intro e
  subst e
  simp [idx] at h
 ·split<;>simp
theorem fT_ne (pr:Bool) (ai v:Nat):fT pr ai v≠[]:=by
 unfold fT
 cases hs:spO ai v with
 |none=>
  simp only [Option.getD_none]
  intro e
  exact dotted_ne _ (List.append_eq_nil_iff.1 e).1
 |some t=>
  simp only [Option.getD_some]
  unfold spO at hs
  repeat' split at hs
  all_goals first|(cases hs;done)|(injection hs with hs;rw [←hs];simp [nanT,infT,ninfT])
theorem note_ne {xs:List UInt8} {t:Tr} {off o:Nat} (hx:xs.length≤1000000) (h:Enc xs t off o) (hs:t.snd Lib.validD=true):noteT M t≠[]:=by
 cases t with
 |int neg n=>
  unfold noteT
  cases neg<;>rw [note]
  ·exact dec_ne n
  ·simp [txt]
 |str tx b=>
  unfold noteT
  cases tx<;>rw [note]
  ·rw [Enc] at h
   obtain ⟨ai,v,o1,_,_,hv,_,_,hb⟩:=h
   exact byA_ne _ _ _ (by rw [hb,List.length_take,List.length_drop];omega)
  ·rw [Tr.snd] at hs
   show (if Lib.validD b=true then txt (qT 34 b) else ([],some 10)).1≠[]
   rw [if_pos hs]
   simp [qT,txt]
 |chk tx l=>
  rw [Tr.snd] at hs
  by_cases hl:l=[]
  ·subst hl
   unfold noteT
   rw [note]
   cases tx<;>simp [txt]
  ·rw [noteT_chk hl hs]
   simp
 |arr op l=>
  rw [Tr.snd] at hs
  rw [noteT_arr hs]
  cases op<;>simp
 |map op l=>
  unfold noteT
  rw [note,thenR_txt]
  cases op<;>simp
 |tag n t=>
  unfold noteT
  rw [note]
  split
  ·rename_i hn
   show (bigR n t).1≠[]
   have hb:(!(n==2||n==3))=false:=by rcases hn with rfl|rfl<;>rfl
   unfold Tr.snd at hs
   rw [hb,Bool.false_or] at hs
   have h1:=(Bool.and_eq_true_iff.1 hs).1
   have hg: ∀b,bigN n b≠[]:=fun b=>by
    unfold bigN
    split
    ·exact dec_ne _
    ·simp
   split at h1
   ·exact hg _
   ·exact hg _
   ·cases h1
  ·rw [thenR_txt]
   intro e
   exact dec_ne n (List.append_eq_nil_iff.1 e).1
 |prim ai v=>
  unfold noteT
  rw [note]
  unfold primT
  repeat' split
  all_goals first|(simp [txt,thenR];done)|exact fT_ne _ _ _
end
end
section
open Go.RowKit
theorem wf_err0 (L:Lim) (xs:List UInt8): ∀f,
  (∀off dep k,wfI L xs f off dep=some (.error k)→k≠0)∧
  (∀m off dep k,wfS L xs f m off dep=some (.error k)→k≠0)∧
  (∀m i off dep k,wfO L xs f m i off dep=some (.error k)→k≠0)∧
  (∀n off dep k,wfN L xs f n off dep=some (.error k)→k≠0)∧
  (∀off dep k,wfT L xs f off dep=some (.error k)→k≠0):=by
 intro f
 induction f with
 |zero=>simp [wfI,wfS,wfO,wfN,wfT]
 |succ f ih=>
  obtain ⟨i1,i2,i3,i4,i5⟩:=ih
  refine ⟨?_,?_,?_,?_,?_⟩
  ·intro off dep k h
   rw [wfI] at h
   cases hh:hd xs off with
   |error k2=>
    rw [hh] at h
    have:=hd_err hh
    injection h with h
    injection h with h
    omega
   |ok q=>
    obtain ⟨m,ai,v,o⟩:=q
    rw [hh] at h
    dsimp only at h
    repeat' split at h
    all_goals first
     |(injection h with h;injection h with h;omega;done)
     |exact i2 _ _ _ _ h
     |exact i3 _ _ _ _ _ h
     |exact i4 _ _ _ _ h
     |exact i5 _ _ _ h
     |(cases h;done)
  ·intro m off dep k h
   rw [wfS] at h
   split at h
   ·injection h with h;injection h with h;omega
   ·repeat' split at h
    all_goals first
     |(injection h with h;injection h with h;omega;done)
     |exact i2 _ _ _ _ h
     |exact i1 _ _ _ h
     |(cases h;done)
  ·intro m i off dep k h
   rw [wfO] at h
   split at h
   ·injection h with h;injection h with h;omega
   ·repeat' split at h
    all_goals first
     |(injection h with h;injection h with h;omega;done)
     |exact i3 _ _ _ _ _ (joinD_err h)
     |exact i1 _ _ _ h
     |(cases h;done)
  ·intro n off dep k h
   cases n with
   |zero=>rw [wfN] at h;cases h
   |succ n=>
    rw [wfN] at h
    split at h
    ·exact i4 _ _ _ _ (joinD_err h)
    ·exact i1 _ _ _ h
  ·intro off dep k h
   rw [wfT] at h
   split at h
   ·injection h with h;injection h with h;omega
   ·split at h
    ·exact i1 _ _ _ h
    ·cases hh:hd xs off with
     |error k2=>
      rw [hh] at h
      have:=hd_err hh
      injection h with h
      injection h with h
      omega
     |ok q=>
      rw [hh] at h
      dsimp only at h
      split at h
      ·injection h with h;injection h with h;omega
      ·exact i5 _ _ _ h
theorem kind_nil (w:World):Calls Tryz.prog 58 #[.nilIface] w fun e w'=>e= .returned (.int .i64 0)∧w'=w:=by
 go_enter Tryz.func58,Tryz.ntmps58
 go_wp2
 go_ret
 exact ⟨rfl,rfl⟩
theorem zzDec (w:World):Calls Tryz.prog 100 #[decOpts 0 0 0] w fun e w'=> ∃dm,e= .returned (.tuple #[.pointer (some ⟨dm,0,none⟩),.nilIface])∧DecM w' dm 32 131072 131072∧Fr [] w w':=by
 have K:=Hz decMode_def
 unfold decOpts at *
 go_enter Tryz.func100,Tryz.ntmps100
 go_wp2_with fail
 refine (K.out _).mono ?_
 rintro e w1 ⟨dm,rfl,h1,h2,hf⟩
 go_wp2
 go_ret2
 exact ⟨dm,rfl,h2,((Fr.refl [] w).alloc _).trans hf⟩
theorem implDec (w:World):Calls Tryz.prog 83 #[.agg #[.int .i64 0,.int .i64 0,.int .i64 0,.int .i64 0,.int .i64 0,.int .i64 0,.int .i64 0,.int .i64 0,.int .i64 0,.int .i64 0,.int .i64 0,.int .i64 0,.int .i64 0,.int .i64 0]] w fun e w'=> ∃dm,e= .returned (.tuple #[.pointer (some ⟨dm,0,none⟩),.bool true])∧DecM w' dm 32 131072 131072∧Fr [] w w':=by
 have K:=Hz zzDec
 unfold decOpts at K
 go_enter Tryz.func83,Tryz.ntmps83
 go_wp2_with fail
 refine (K.out _).mono ?_
 rintro e w1 ⟨dm,rfl,h2,hf⟩
 go_wp2
 go_quiet (fail)
 go_wp2
 go_ret2
 exact ⟨dm,rfl,h2,(((Fr.refl [] w).alloc _).trans hf).drewN _⟩
theorem wellformedM {w:World} {db o c dm:Nat} {L:Lim} {xs:List UInt8} (hL:L.nest≤65535∧L.el≤2147483647∧L.pa≤2147483647) (hrd:Rd w db o xs) (hcap:xs.length≤c) (hlen:xs.length≤1099511627776) (hdb:db<w.heap.size) (hD:DecM w dm L.nest L.el L.pa) {r:Option Nat} (hr:wfTop L xs false 0 r):
  Calls Tryz.prog 84 #[.pointer (some ⟨dm,0,none⟩),.slice (some ⟨db,o,none⟩) xs.length c] w fun e w'=> ∃v,e= .returned v∧ErrO r v∧Fr [] w w':=by
 have hdm:=blk_lt' hD
 have hd:Dec (w.alloc (.cells #[.slice (some ⟨db,o,none⟩) xs.length c,.int .i64 ((0:Nat):Int),.pointer (some ⟨dm,0,none⟩)] 188)) w.heap.size db o c dm xs 0:=⟨blk_new w _,hrd.fr (S:=[]) ((Fr.refl _ _).alloc _) (by simp),hcap,hlen,by omega,Nat.zero_le _⟩
 have K:=Hz (wellformed hL.1 hL.2.1 hL.2.2 hd (blk_alloc hD _) (by omega) false r hr)
 clear hd hr
 go_enter Tryz.func84,Tryz.ntmps84
 go_wp2_with fail
 refine K.out.mono ?_
 rintro e w1 ⟨v,rfl,hv,_,hf⟩
 go_wp2
 refine bodyPost_ret (v:=v) (by simp [results,Tryz.results84,go_sem]) rfl ?_
 exact ⟨v,rfl,hv,((Fr.refl [] w).alloc _).then_ hf (by simp)⟩
def numO (r:Option Nat):Nat:=r.getD 0
theorem check {xs:List UInt8} (hlen:xs.length≤1099511627776) {r:Option Nat} (hr:wfTop L0 xs false 0 r) (w:World):
  Calls Tryz.prog 54 #[.string ⟨xs.toArray⟩,.agg #[.int .i64 0,.int .i64 0,.int .i64 0,.int .i64 0,.int .i64 0,.int .i64 0,.int .i64 0,.int .i64 0,.int .i64 0,.int .i64 0,.int .i64 0,.int .i64 0,.int .i64 0,.int .i64 0]] w fun e w'=>e= .returned (.int .i64 (numO r:Int))∧Fr [] w w':=by
 have K1:=Hz implDec
 replace hr:=Hz hr
 go_enter Tryz.func54,Tryz.ntmps54
 go_wp2_with fail
 refine (K1.out _).mono ?_
 rintro e w1 ⟨dm,rfl,h2,hf1⟩
 obtain ⟨c,w2,hconv,hrd,hcap,hsz,hf2⟩:=toBytes w1 xs
 have hF:Fr [] w w2:=(((Fr.refl [] w).alloc _).trans hf1).trans hf2
 have K2:=Hz (wellformedM (L:=L0) (by decide) hrd hcap hlen hsz (hf2.blk h2 (by simp)) hr.out)
 clear h2
 go_wp2_with fail
 refine K2.out.mono ?_
 rintro e w3 ⟨v,rfl,hv,hf3⟩
 cases r with
 |none=>
  obtain rfl:v= .nilIface:=hv
  have KK:=Hz kind_nil
  go_wp2_with fail
  refine (KK.out _).mono ?_
  rintro e w4 ⟨rfl,rfl⟩
  go_wp2
  go_ret
  exact ⟨rfl,hF.trans hf3⟩
 |some k=>
  have KK:=Hz (zzKind k v hv)
  obtain ⟨t,x,rfl⟩:=hv.ne
  go_wp2_with fail
  refine (KK.out _).mono ?_
  rintro e w4 ⟨rfl,rfl⟩
  go_wp2
  go_ret
  exact ⟨rfl,hF.trans hf3⟩
theorem refuse_none {xs:List UInt8} {M:Md} (hx:xs.length≤400) (h:oneF xs=none): ∃k,k≠0∧diagR L0 M false xs=([],some k)∧wfTop L0 xs false 0 (some k):=by
 by_cases h0:xs=[]
 ·subst h0
  exact ⟨1,by decide,rfl,.inl ⟨rfl,rfl⟩⟩
 ·have hp:=List.length_pos_iff.2 h0
  have e:diagR L0 M false xs=(match itemR L0 xs 0 with
   | .error k=>([],some k)
   | .ok (t,o)=>if o=xs.length then note (ntA L0 M) t else ([],some 4)):=by
   unfold diagR
   rw [if_neg (by simp)]
   unfold oneR
   rw [if_neg h0]
   rfl
  cases hi:itemR L0 xs 0 with
  |error k=>
   rw [hi] at e
   obtain ⟨f,hf⟩:=itemR_err hi
   exact ⟨k,(wf_err0 L0 xs f).1 _ _ _ hf,e,.inr ⟨hp,f,_,hf,rfl⟩⟩
  |ok q=>
   obtain ⟨t,o⟩:=q
   rw [hi] at e
   dsimp only at e
   obtain ⟨h1,h2,h3,f,D,h4⟩:=itemR_ok (by omega) hi
   have h5:=ht_dp t
   have h6:t.dp≤32:=h3
   have h7:=enc_tree t 200 0 o h1 (by split at h5<;>omega)
   have ho:o≠xs.length:=fun ho=>by
    unfold oneF at h
    rw [h7] at h
    simp [ho] at h
   rw [if_neg ho] at e
   exact ⟨4,by decide,e,.inr ⟨hp,f,_,h4,by dsimp only;rw [if_neg (by simp),if_neg ho]⟩⟩
theorem refuse_bad {xs:List UInt8} {M:Md} {t:Tr} (hx:xs.length≤400) (h:oneF xs=some t) (hl:t.lev≤30) (hs:t.snd Lib.validD=false): ∃s k,k≠0∧diagR L0 M false xs=(s,some k)∧wfTop L0 xs false 0 none:=by
 have he:=oneF_enc (by omega) h
 obtain ⟨k,h1,h2⟩:=note_bad (ntA_bad L0 M) t 0 xs.length he hs
 obtain ⟨f,hw⟩:=wf_item L0 xs (by decide) (by decide) t 0 xs.length 0 he (enc_fits he (by omega)) (by have:=dp_lev t;show 0+t.dp≤32;omega)
 exact ⟨_,k,h2,(diagR_enc false he (by omega) (by omega)).trans (Prod.ext rfl h1),.inr ⟨enc_lt he,f,_,hw,by simp⟩⟩
theorem refuse_ok {xs:List UInt8} {M:Md} {t:Tr} (hx:xs.length≤400) (h:oneF xs=some t) (hl:t.lev≤30) (hs:t.snd Lib.validD=true): ∃b r,diagR L0 M false xs=txt (b::r):=by
 have he:=oneF_enc (by omega) h
 have h1:=diagR_enc (M:=M) false he (by omega) (by omega)
 rw [note_txt hs] at h1
 have h2:=note_ne (M:=M) (by omega) he hs
 cases hn:noteT M t with
 |nil=>exact absurd hn h2
 |cons b r=>exact ⟨b,r,by rw [h1,hn]⟩
end
section
open Go.RowKit
theorem refuses_any {w:World} (xs:List UInt8) (a x y z:Int) (sp tx em sq pr:Bool) (hu:U8 w):
  Calls Tryz.prog 20 #[.string ⟨xs.toArray⟩,.agg #[.int .i64 a,.bool sp,.bool tx,.bool em,.bool sq,.bool pr,.int .i64 x,.int .i64 y,.int .i64 z]] w fun e w'=>e= .returned (.bool true)∧Fr [] w w':=by
 obtain ⟨k,hk,_,hk2⟩:=rem_nat a 4 (by decide) (by decide)
 have KO:=fun w=>optionsC a x y z sp tx em sq pr k hk2 w
 unfold diagOpts at KO
 replace KO:=Hz KO
 by_cases h1:xs.length≤2147483647
 ·have t1: ¬(2147483647:Int)<(xs.length:Int):=by omega
  by_cases h2:xs.length≤400
  ·have t2: ¬(400:Int)<(xs.length:Int):=by omega
   have K1:=Hz (fun w=>one (xs:=xs) (by omega) w)
   have KZ:=Hz (fun W (hf:Fr [] w W)=>noted W (hu.fr hf (by simp)))
   have KD:=fun W (hf:Fr [] w W)=>implDiag_any (xs:=xs) (M:=⟨k,sp,tx,false,false,pr⟩) (n:=0) (L:=L0) (.inl ⟨rfl,rfl⟩) hk (by omega) W (hu.fr hf (by simp))
   unfold diagOpts at KD
   dsimp only at KD
   clear hu
   go_enter Tryz.func20,Tryz.ntmps20
   have hF1:Fr [] w (w.alloc (.cells #[.int .i64 a,.bool sp,.bool tx,.bool em,.bool sq,.bool pr,.int .i64 x,.int .i64 y,.int .i64 z] 24)):=(Fr.refl _ _).alloc _
   have hb1:=blk_new w (.cells #[.int .i64 a,.bool sp,.bool tx,.bool em,.bool sq,.bool pr,.int .i64 x,.int .i64 y,.int .i64 z] 24)
   obtain ⟨⟨c0,c1,c2,c3,c4,c5,c6,c7,c8⟩,f0,f1,f2,f3,f4,f5,f6,f7,f8⟩:=cells9 hb1
   replace hb1:=Hz hb1
   go_wp2_with fail
   refine (KO.out _).mono ?_
   rintro e w2 ⟨rfl,hf2⟩
   have hF2:=hF1.trans hf2
   have hb2:=hf2.blk hb1.out (by simp)
   clear c0 c1 c2 c3 c4 c5 c6 c7 c8 f0 f1 f2 f3 f4 f5 f6 f7 f8
   obtain ⟨⟨c0,c1,c2,c3,c4,c5,c6,c7,c8⟩,f0,f1,f2,f3,f4,f5,f6,f7,f8⟩:=cells9 hb2
   have hF3:Hid (Fr [] w (((put9 w2 w.heap.size (.int .i64 (k:Int)) (.bool sp) (.bool tx) (.bool em) (.bool sq) (.bool pr) (.int .i64 0) (.int .i64 0) (.int .i64 0)).setCell ⟨w.heap.size,4,none⟩ (.bool false)).setCell ⟨w.heap.size,3,none⟩ (.bool false))):=Hz (((hF2.then_ (Fr.put9 _ _ _ _ _ _ _ _ _ _ _) (by simp)).setCell (.inr (by simp)) _).setCell (.inr (by simp)) _)
   have hb3:Hid (OBlk (((put9 w2 w.heap.size (.int .i64 (k:Int)) (.bool sp) (.bool tx) (.bool em) (.bool sq) (.bool pr) (.int .i64 0) (.int .i64 0) (.int .i64 0)).setCell ⟨w.heap.size,4,none⟩ (.bool false)).setCell ⟨w.heap.size,3,none⟩ (.bool false)) w.heap.size k sp tx false false pr):=Hz (blk_setCell (blk_setCell (put9_blk hb2 _ _ _ _ _ _ _ _ _) 4 _) 3 _)
   have hlt2:=blk_lt' hb2
   replace hb2:=Hz hb2
   go_upto_region 7 with fail
   replace hF3:Hid (Fr [] w (((((((((((w2.setCell ⟨w.heap.size,0,none⟩ (.int .i64 (k:Int))).setCell ⟨w.heap.size,1,none⟩ (.bool sp)).setCell ⟨w.heap.size,2,none⟩ (.bool tx)).setCell ⟨w.heap.size,3,none⟩ (.bool em)).setCell ⟨w.heap.size,4,none⟩ (.bool sq)).setCell ⟨w.heap.size,5,none⟩ (.bool pr)).setCell ⟨w.heap.size,6,none⟩ (.int .i64 0)).setCell ⟨w.heap.size,7,none⟩ (.int .i64 0)).setCell ⟨w.heap.size,8,none⟩ (.int .i64 0)).setCell ⟨w.heap.size,4,none⟩ (.bool false)).setCell ⟨w.heap.size,3,none⟩ (.bool false))):=hF3
   replace hb3:Hid (OBlk (((((((((((w2.setCell ⟨w.heap.size,0,none⟩ (.int .i64 (k:Int))).setCell ⟨w.heap.size,1,none⟩ (.bool sp)).setCell ⟨w.heap.size,2,none⟩ (.bool tx)).setCell ⟨w.heap.size,3,none⟩ (.bool em)).setCell ⟨w.heap.size,4,none⟩ (.bool sq)).setCell ⟨w.heap.size,5,none⟩ (.bool pr)).setCell ⟨w.heap.size,6,none⟩ (.int .i64 0)).setCell ⟨w.heap.size,7,none⟩ (.int .i64 0)).setCell ⟨w.heap.size,8,none⟩ (.int .i64 0)).setCell ⟨w.heap.size,4,none⟩ (.bool false)).setCell ⟨w.heap.size,3,none⟩ (.bool false)) w.heap.size k sp tx false false pr):=hb3
   clear c0 c1 c2 c3 c4 c5 c6 c7 c8 f0 f1 f2 f3 f4 f5 f6 f7 f8
   generalize ((((((((((w2.setCell ⟨w.heap.size,0,none⟩ (.int .i64 (k:Int))).setCell ⟨w.heap.size,1,none⟩ (.bool sp)).setCell ⟨w.heap.size,2,none⟩ (.bool tx)).setCell ⟨w.heap.size,3,none⟩ (.bool em)).setCell ⟨w.heap.size,4,none⟩ (.bool sq)).setCell ⟨w.heap.size,5,none⟩ (.bool pr)).setCell ⟨w.heap.size,6,none⟩ (.int .i64 0)).setCell ⟨w.heap.size,7,none⟩ (.int .i64 0)).setCell ⟨w.heap.size,8,none⟩ (.int .i64 0)).setCell ⟨w.heap.size,4,none⟩ (.bool false)).setCell ⟨w.heap.size,3,none⟩ (.bool false)=w3 at *
   go_wp2_with fail
   refine (K1.out _).mono ?_
   rintro e w4 ⟨g,kv,he,hf4,⟨ka,kn,kc,rfl⟩,hq⟩
   obtain ⟨a0,a1,a2,b0,b1,b2,tx0,gks⟩:=g
   rw [nd_mk] at he
   subst he
   have hF4:Fr [] w (w4.alloc (.cells #[.int .i64 (a0:Int),.int .u64 (a1:Int),.int .i64 (a2:Int),.bool b0,.bool b1,.bool b2,.string ⟨tx0.toArray⟩,.slice ka kn kc] 45)):=(hF3.out.trans hf4).alloc _
   have hb4:OBlk (w4.alloc (.cells #[.int .i64 (a0:Int),.int .u64 (a1:Int),.int .i64 (a2:Int),.bool b0,.bool b1,.bool b2,.string ⟨tx0.toArray⟩,.slice ka kn kc] 45)) w.heap.size k sp tx false false pr:=blk_alloc (hb3.out.fr hf4) _
   have hx4:=blk_new w4 (.cells #[.int .i64 (a0:Int),.int .u64 (a1:Int),.int .i64 (a2:Int),.bool b0,.bool b1,.bool b2,.string ⟨tx0.toArray⟩,.slice ka kn kc] 45)
   cases hT:oneF xs with
   |none=>
    obtain ⟨n,hn0,e1,hr⟩:=refuse_none (M:=⟨k,sp,tx,false,false,pr⟩) h2 hT
    rw [e1,show ans (([],some n):R)=([],n) from rfl] at KD
    have KC:=Hz (fun W=>check (xs:=xs) (by omega) hr W)
    rw [show numO (some n)=n from rfl] at KC
    have tn:((n:Int)==0)=false:=by simp;omega
    have tn2:((n:Int) !=0)=true:=by simp;omega
    have he:((⟨(#[]:Array UInt8)⟩:ByteArray)==⟨#[]⟩)=true:=by decide
    replace KD:=Hz KD
    clear hq e1 hr hx4 hT
    obtain ⟨⟨c0,c1,c2,c3,c4,c5,c6,c7,c8⟩,_⟩:=cells9 hb4
    go_wp2_with fail
    refine (KD.out _ hF4).mono ?_
    rintro e w6 ⟨rfl,hf6⟩
    go_wp2_with fail
    refine (KC.out _).mono ?_
    rintro e w7 ⟨rfl,hf7⟩
    go_wp2_with fail
    refine (KZ.out _ ((hF4.trans hf6).trans hf7)).mono ?_
    rintro e w8 ⟨rfl,hf8⟩
    go_wp2
    go_ret
    exact ⟨rfl,((hF4.trans hf6).trans hf7).trans hf8⟩
   |some t=>
    obtain ⟨q2,bl,q4,q5⟩:=hq t hT
    have hE:=oneF_enc (by omega) hT
    have hlv:=lev_len t _ _ hE
    have hfew:AllN (Few 1000000000) t:=allN_imp (fun u hu=>⟨by have:=hu.1;omega,by have:=hu.2;omega⟩) t (enc_few t _ _ hE)
    have ND: ∀W,Fr [] (w4.alloc (.cells #[.int .i64 (a0:Int),.int .u64 (a1:Int),.int .i64 (a2:Int),.bool b0,.bool b1,.bool b2,.string ⟨tx0.toArray⟩,.slice ka kn kc] 45)) W→NdIn W t (.slice ka kn kc):=fun W hW=>by
     rw [q2] at q5
     have hX:=((Fr.refl [] w4).alloc (.cells #[.int .i64 (a0:Int),.int .u64 (a1:Int),.int .i64 (a2:Int),.bool b0,.bool b1,.bool b2,.string ⟨tx0.toArray⟩,.slice ka kn kc] 45)).trans hW
     exact ⟨bl,fun b hb=>Nat.lt_of_lt_of_le (q4 b hb).2 hX.size,q5.fr (fun b hb=>hX.block b (q4 b hb).2 (by simp)) (fun b hb=>hb) _ _⟩
    have KS:=fun W hW=>sound _ t (Nat.le_refl _) hfew W (.slice ka kn kc) (ND W hW)
    have KL:=fun W hW=>levels _ t (Nat.le_refl _) (by omega) hfew W (.slice ka kn kc) (ND W hW)
    rw [←q2,nd_mk] at KS KL
    have XC:=fun W (hW:Fr [] (w4.alloc (.cells #[.int .i64 (a0:Int),.int .u64 (a1:Int),.int .i64 (a2:Int),.bool b0,.bool b1,.bool b2,.string ⟨tx0.toArray⟩,.slice ka kn kc] 45)) W)=>cells8 (hW.blk hx4 (by simp))
    clear hq q2 q4 q5 hE hlv hfew ND
    replace KS:=Hz KS
    replace KL:=Hz KL
    obtain ⟨⟨d0,d1,d2,d3,d4,d5,d6,d7⟩,_⟩:=XC _ (Fr.refl _ _)
    replace XC:=Hz XC
    by_cases h30:t.lev≤30
    ·have tl: ¬(30:Int)<(t.lev:Int):=by omega
     replace hx4:=Hz hx4
     cases hS:t.snd Lib.validD with
     |true=>
      obtain ⟨b,r,e1⟩:=refuse_ok (M:=⟨k,sp,tx,false,false,pr⟩) h2 hT h30 hS
      rw [e1,show ans (txt (b::r))=(b::r,0) from rfl] at KD
      rw [hS] at KS
      replace KD:=Hz KD
      have he:=str_cons_ne b r
      clear e1 hT hS
      go_wp2_with fail
      refine (KL.out _ (Fr.refl _ _)).mono ?_
      rintro e w6 ⟨rfl,hf6⟩
      obtain ⟨⟨c0,c1,c2,c3,c4,c5,c6,c7,c8⟩,_⟩:=cells9 (hb4.fr hf6)
      clear d0 d1 d2 d3 d4 d5 d6 d7
      go_wp2_with fail
      refine (KD.out _ (hF4.trans hf6)).mono ?_
      rintro e w7 ⟨rfl,hf7⟩
      obtain ⟨⟨d0,d1,d2,d3,d4,d5,d6,d7⟩,_⟩:=XC.out _ (hf6.trans hf7)
      clear c0 c1 c2 c3 c4 c5 c6 c7 c8
      go_wp2_with fail
      refine (KS.out _ (hf6.trans hf7)).mono ?_
      rintro e w8 ⟨rfl,hf8⟩
      go_wp2
      go_ret
      exact ⟨rfl,((hF4.trans hf6).trans hf7).trans hf8⟩
     |false=>
      obtain ⟨s,n,hn0,e1,hr⟩:=refuse_bad (M:=⟨k,sp,tx,false,false,pr⟩) h2 hT h30 hS
      rw [e1,show ans ((s,some n):R)=([],n) from rfl] at KD
      have KC:=Hz (fun W=>check (xs:=xs) (by omega) hr W)
      rw [show numO none=0 from rfl] at KC
      rw [hS] at KS
      have tn:((n:Int)==0)=false:=by simp;omega
      have tn2:((n:Int) !=0)=true:=by simp;omega
      have he:((⟨(#[]:Array UInt8)⟩:ByteArray)==⟨#[]⟩)=true:=by decide
      replace KD:=Hz KD
      clear e1 hr hT hS
      go_wp2_with fail
      refine (KL.out _ (Fr.refl _ _)).mono ?_
      rintro e w6 ⟨rfl,hf6⟩
      obtain ⟨⟨c0,c1,c2,c3,c4,c5,c6,c7,c8⟩,_⟩:=cells9 (hb4.fr hf6)
      clear d0 d1 d2 d3 d4 d5 d6 d7
      go_wp2_with fail
      refine (KD.out _ (hF4.trans hf6)).mono ?_
      rintro e w7 ⟨rfl,hf7⟩
      obtain ⟨⟨d0,d1,d2,d3,d4,d5,d6,d7⟩,_⟩:=XC.out _ (hf6.trans hf7)
      clear c0 c1 c2 c3 c4 c5 c6 c7 c8
      go_wp2_with fail
      refine (KS.out _ (hf6.trans hf7)).mono ?_
      rintro e w8 ⟨rfl,hf8⟩
      go_wp2_with fail
      refine (KC.out _).mono ?_
      rintro e w9 ⟨rfl,hf9⟩
      go_wp2_with fail
      refine (KZ.out _ ((((hF4.trans hf6).trans hf7).trans hf8).trans hf9)).mono ?_
      rintro e w10 ⟨rfl,hf10⟩
      go_wp2
      go_ret
      exact ⟨rfl,((((hF4.trans hf6).trans hf7).trans hf8).trans hf9).trans hf10⟩
    ·have tl:(30:Int)<(t.lev:Int):=by omega
     clear hT KD
     go_wp2_with fail
     refine (KL.out _ (Fr.refl _ _)).mono ?_
     rintro e w6 ⟨rfl,hf6⟩
     go_wp2
     go_ret
     exact ⟨rfl,hF4.trans hf6⟩
  ·have t2:(400:Int)<(xs.length:Int):=by omega
   go_enter Tryz.func20,Tryz.ntmps20
   go_wp2
   go_ret
   exact ⟨rfl,(Fr.refl _ _).alloc _⟩
 ·have t1:(2147483647:Int)<(xs.length:Int):=by omega
  go_enter Tryz.func20,Tryz.ntmps20
  go_wp2
  go_ret
  exact ⟨rfl,(Fr.refl _ _).alloc _⟩
end
section
open Go.ChangeShapes Go.WideShapes Go.RowKit
open Go.ChangeMaps (open_string)
theorem refuses_lifted (os:Os) (started:os.Started) (H:Type) (enc:TypeId×Value→H):
  ReturnsInHanded {} Tryz.checked os 20 .any (fun w args=>(Rows.fnDiagRefusesSpec.pre enc Tryz.prog Tryz.f20 [] false w args∧laidMetH Tryz.prog laidU w)∧sizedMet enc Tryz.prog Tryz.f20 (OpenSpec.ofChange Rows.fnDiagRefusesSpec) false w args)
   (Rows.fnDiagRefusesSpec.post enc Tryz.prog Tryz.f20 false true false false):=by
 refine lift_row os started enc (by kernel_rfl) Tryz.func20 rfl rfl ?_ ?_
  (ChangeSpec.witness_at (enc:=enc) (C:=Tryz.checked) (os:=os) (X:=fun w _=>laidMetH Tryz.prog laidU w) false (laidWorld os) #[.string ⟨#[]⟩,.agg #[.int .i64 0,.bool false,.bool false,.bool false,.bool false,.bool false,.int .i64 0,.int .i64 0,.int .i64 0]] 8 rfl (by kernel_rfl) (by kernel_rfl) (by kernel_rfl) (by kernel_rfl) (by kernel_rfl) (laid_met os _)) ?_
 ·intro ds h
  rw [Tryz.params20] at h
  match ds,h with
  |[d1,d2],_=>rfl
 ·rw [Tryz.params20]
  intro t ht
  have ht2:t=9∨t=24:=by simpa using ht
  rcases ht2 with rfl|rfl
  all_goals exact ⟨by kernel_rfl,of_decide_eq_true (by kernel_rfl)⟩
 ·intro W base args ds ps hval hA hu
  rw [Tryz.params20] at hA hval
  obtain ⟨v0,v1,d0,d1,p0,p1,rfl,rfl,rfl,h0,h1⟩:=trodAll_two hA
  obtain ⟨s,rfl,_⟩:=open_string Tryz.underlying9 (hval 0 9 v0 rfl rfl) h0
  obtain ⟨a,x,y,z,sp,tx,em,sq,pr,rfl⟩:=open_opts (hval 1 24 v1 rfl rfl) h1
  rw [show (Value.string s)= .string ⟨s.data.toList.toArray⟩ from by cases s;simp]
  exact refuses_any _ a x y z sp tx em sq pr hu
theorem refuses_f1:Tryz.prog.inPlace 20=Rows.fnDiagRefusesRow.inPlace:=by kernel_rfl
theorem refuses_f2:Tryz.prog.unfollowed 20=Rows.fnDiagRefusesRow.unfollowed:=by kernel_rfl
theorem refuses_f3:Tryz.prog.recurses 20=Rows.fnDiagRefusesRow.recurses:=by kernel_rfl
theorem refuses_f4:Tryz.prog.varsNamed 20=Rows.fnDiagRefusesRow.named:=by kernel_rfl
theorem refuses_facts:joinedFacts Tryz.prog 20 Tryz.f20 Rows.fnDiagRefusesSpec Rows.fnDiagRefusesRow=true:=by
 unfold joinedFacts
 rw [refuses_f1,refuses_f2,refuses_f3,refuses_f4,Tryz.mayEnter,Tryz.liftsFinal,Tryz.make,Tryz.mapsRowed,Tryz.plainKeys,Tryz.stopsHeard,Tryz.laidOut]
 kernel_rfl
theorem refuses_goes:false=Rows.fnDiagRefusesRow.goesBy Tryz.prog:=by kernel_rfl
theorem refuses_name:Tryz.prog.funcNamed "pub-necessaire/laws.FnDiagRefuses" =some 20:=by kernel_rfl
theorem refuses_row:Rows.FnDiagRefusesSaid:=
 OpenClaim.holds_of_wide 20 Tryz.f20 rfl rfl rfl rfl rfl rfl rfl ⟨rfl,rfl,rfl,rfl,rfl⟩ rfl rfl rfl rfl rfl refuses_name Tryz.func20 refuses_facts
  (of_decide_eq_true (by kernel_rfl)) (by unfold Func.isWrapper;first|(rw [if_pos (by decide+kernel)];kernel_rfl)|(rw [if_neg (by decide+kernel)];exact ⟨rfl,rfl⟩))
  (fun os started H enc _=>refuses_lifted os started H enc)
theorem refuses_card:Rows.FnDiagRefusesCardSaid:=
 Claim7.holds_tied_plain_at .later [] [.data,.pinned] true (true, "6290c9495f33fe9badd3dbfab1b5d898f91c774e4e5da1dae7cabe16e93ab7d6") true
  refuses_row (fun _ h=>by cases h) (by kernel_rfl) (fun _ h=>by cases h) fnDiagRefuses_row_tie rfl ⟨rfl,rfl⟩ Tryz.mainIs rfl
  (fun f fn hf hfn=>by
   obtain rfl:f=20:=Option.some.inj (refuses_name.symm.trans hf)|>.symm
   obtain rfl:fn=Tryz.f20:=(Option.some.inj (Tryz.func20.symm.trans hfn)).symm
   exact ⟨by kernel_rfl,fun j t ht=>by
    rw [Tryz.params20] at ht
    rcases j with _|_|j
    ·have h3:t=9:=by simpa using ht.symm
     subst h3
     exact (show Tryz.prog.wantsStandIn 9=false by kernel_rfl)
    ·have h3:t=24:=by simpa using ht.symm
     subst h3
     exact (show Tryz.prog.wantsStandIn 24=false by kernel_rfl)
    ·simp at ht⟩)
  refuses_goes
end
end Go.Proofs.YteodinhkhhaafaaGreatDoor
