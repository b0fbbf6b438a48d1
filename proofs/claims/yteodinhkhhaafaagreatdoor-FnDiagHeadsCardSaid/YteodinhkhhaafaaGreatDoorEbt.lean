/- Walks of the program, and plain facts. -/
import Derived.Test.YteodinhkhhaafaaGreatDoorEbs
set_option linter.unusedVariables false
set_option linter.unusedSimpArgs false
set_option maxRecDepth 100000
set_option maxHeartbeats 6400000
namespace Go.Proofs.YteodinhkhhaafaaGreatDoor
section
open Go.RowKit
def itemF (xs:List UInt8) (m:Nat):Option Tr:=if xs.length≤400 then (oneF xs).bind fun t=>if t.snd Lib.validD=true∧t.lev≤m then some t else none else none
structure ItemOK (m:Nat) (p:List UInt8) (t:Tr):Prop where
 len:p.length≤400
 enc:Enc p t 0 p.length
 snd:t.snd Lib.validD=true
 lev:t.lev≤m
theorem itemF_ok {xs:List UInt8} {m:Nat} {t:Tr} (h:itemF xs m=some t):ItemOK m xs t:=by
 unfold itemF at h
 split at h
 ·rename_i hl;obtain ⟨t2,h1,h2⟩:=Option.bind_eq_some_iff.1 h
  split at h2
  ·rename_i hs;injection h2 with h2
   subst h2;exact ⟨hl,oneF_enc (by omega) h1,hs.1,hs.2⟩
  ·cases h2
 ·cases h
def PartsOK (m:Nat):List (List UInt8)→List Tr→Prop
 |[],[]=>True
 |p::ps,t::ts=>ItemOK m p t∧PartsOK m ps ts
 |_,_=>False
theorem PartsOK.len {m:Nat}: ∀{ps:List (List UInt8)} {ts:List Tr},PartsOK m ps ts→ts.length=ps.length
 |[],[],_=>rfl
 |p::ps,t::ts,h=>by rw [List.length_cons,List.length_cons,PartsOK.len h.2]
 |[],t::ts,h=>h.elim
 |p::ps,[],h=>h.elim
theorem PartsOK.snds {m:Nat}: ∀{ps:List (List UInt8)} {ts:List Tr},PartsOK m ps ts→Tr.snds Lib.validD ts=true
 |[],[],_=>by rw [Tr.snds]
 |p::ps,t::ts,h=>by rw [Tr.snds,h.1.snd,PartsOK.snds h.2];rfl
 |[],t::ts,h=>h.elim
 |p::ps,[],h=>h.elim
theorem PartsOK.levs {m:Nat}: ∀{ps:List (List UInt8)} {ts:List Tr},PartsOK m ps ts→Tr.levs ts≤m
 |[],[],_=>by rw [Tr.levs];omega
 |p::ps,t::ts,h=>by
  have h1:=h.1.lev;have h2:=PartsOK.levs h.2;rw [Tr.levs];omega
 |[],t::ts,h=>h.elim
 |p::ps,[],h=>h.elim
theorem enc_at {p:List UInt8} {t:Tr} (h:Enc p t 0 p.length) (pre post:List UInt8):Enc (pre++(p++post)) t pre.length (pre.length+p.length):=by
 have:=enc_part pre post t 0 p.length h
 rwa [Nat.add_zero] at this
theorem enc_ne {xs:List UInt8} {t:Tr} {off o:Nat} (h:Enc xs t off o): ∃b,xs[off]? =some b∧b.toNat≠255:=by
 have key: ∀{m ai v o1:Nat},hd xs off= .ok (m,ai,v,o1)→ ∃b,xs[off]? =some b∧b.toNat≠255:=fun {m ai v o1} hh=>by
  obtain ⟨hl,e1,e2⟩:=byte_of_hd hh;refine ⟨xs[off],List.getElem?_eq_getElem hl,fun e=> ?_⟩
  unfold hd at hh;rw [List.getElem?_eq_getElem hl] at hh;dsimp only at hh;rw [e] at hh;simp at hh
 cases t with
 |int neg n=>rw [Enc] at h;obtain ⟨ai,h⟩:=h;exact key h
 |str tx b=>rw [Enc] at h;obtain ⟨ai,v,o1,h,_⟩:=h;exact key h
 |chk tx l=>rw [Enc] at h;obtain ⟨v,o1,h,_⟩:=h;exact key h
 |arr op l=>
  cases op<;>(rw [Enc] at h)
  ·obtain ⟨ai,o1,h,_⟩:=h;exact key h
  ·obtain ⟨v,o1,h,_⟩:=h;exact key h
 |map op l=>
  cases op<;>(rw [Enc] at h)
  ·obtain ⟨ai,v,o1,h,_⟩:=h;exact key h
  ·obtain ⟨v,o1,h,_⟩:=h;exact key h
 |tag n t=>rw [Enc] at h;obtain ⟨ai,o1,h,_⟩:=h;exact key h
 |prim ai v=>rw [Enc] at h;exact key h
theorem PartsOK.encs {m:Nat} (post:List UInt8): ∀{ps:List (List UInt8)} {ts:List Tr},PartsOK m ps ts→ ∀pre:List UInt8,Encs (pre++(ps.flatten++post)) ts pre.length (pre.length+ps.flatten.length)
 |[],[],_,pre=>by rw [Encs];simp
 |p::ps,t::ts,h,pre=>by
  have h1:=enc_at h.1.enc pre (ps.flatten++post);have h2:=PartsOK.encs post h.2 (pre++p);rw [List.append_assoc,List.length_append] at h2;rw [Encs,List.flatten_cons,List.append_assoc,List.length_append,←Nat.add_assoc];exact ⟨_,h1,h2⟩
 |[],t::ts,h,_=>h.elim
 |p::ps,[],h,_=>h.elim
theorem get_mid (pre post:List UInt8) (b:UInt8):(pre++b::post)[pre.length]? =some b:=by simp
theorem PartsOK.opens {m:Nat} (post:List UInt8): ∀{ps:List (List UInt8)} {ts:List Tr},PartsOK m ps ts→ ∀pre:List UInt8,Opens (pre++(ps.flatten++255::post)) ts pre.length (pre.length+ps.flatten.length+1)
 |[],[],_,pre=>by
  rw [Opens];exact ⟨255,by rw [List.flatten_nil,List.nil_append];exact get_mid _ _ _,rfl,by simp⟩
 |p::ps,t::ts,h,pre=>by
  have h1:=enc_at h.1.enc pre (ps.flatten++255::post);have h2:=PartsOK.opens post h.2 (pre++p);obtain ⟨b,hb,hb2⟩:=enc_ne h1;rw [List.append_assoc,List.length_append] at h2;rw [Opens,List.flatten_cons,List.append_assoc,List.length_append,←Nat.add_assoc];exact ⟨b,_,hb,hb2,h1,h2⟩
 |[],t::ts,h,_=>h.elim
 |p::ps,[],h,_=>h.elim
theorem PartsOK.chunks {m:Nat} (tx:Bool) (post:List UInt8): ∀{ps:List (List UInt8)} {ts:List Tr},PartsOK m ps ts→(∀t,t∈ts→ ∃s,t= .str tx s)→ ∀pre:List UInt8,Chunks (pre++(ps.flatten++255::post)) tx ts pre.length (pre.length+ps.flatten.length+1)
 |[],[],_,_,pre=>by
  rw [Chunks];exact ⟨255,by rw [List.flatten_nil,List.nil_append];exact get_mid _ _ _,rfl,by simp⟩
 |p::ps,t::ts,h,hs,pre=>by
  have h1:=enc_at h.1.enc pre (ps.flatten++255::post);have h2:=PartsOK.chunks tx post h.2 (fun t ht=>hs t (List.mem_cons_of_mem _ ht)) (pre++p)
  obtain ⟨b,hb,hb2⟩:=enc_ne h1;rw [List.append_assoc,List.length_append] at h2;rw [Chunks,List.flatten_cons,List.append_assoc,List.length_append,←Nat.add_assoc];exact ⟨b,_,hb,hb2,hs t (List.mem_cons_self ..),h1,h2⟩
 |[],t::ts,h,_,_=>h.elim
 |p::ps,[],h,_,_=>h.elim
theorem hd_open (m:Nat) (hm:2≤m) (hm5:m≤5) (xs:List UInt8):hd (UInt8.ofNat (m*32+31)::xs) 0= .ok (m,31,31,1):=by
 have h1:(UInt8.ofNat (m*32+31)).toNat=m*32+31:=by simp;omega
 unfold hd;simp only [List.getElem?_cons_zero,h1];have a1:(m*32+31)/32=m:=by omega
 have a2:(m*32+31)%32=31:=by omega
 rw [a1,a2,if_neg (by omega),if_neg (by omega),if_pos rfl,if_neg (by omega)]
end
section
open Go.RowKit
mutual
theorem allN_imp {p q:Tr→Prop} (h: ∀t,p t→q t): ∀t,AllN p t→AllN q t
 | .int _ _,k=>by rw [AllN] at k ⊢;exact h _ k
 | .str _ _,k=>by rw [AllN] at k ⊢;exact h _ k
 | .prim _ _,k=>by rw [AllN] at k ⊢;exact h _ k
 | .chk _ l,k=>by rw [AllN] at k ⊢;exact ⟨h _ k.1,allNs_imp h l k.2⟩
 | .arr _ l,k=>by rw [AllN] at k ⊢;exact ⟨h _ k.1,allNs_imp h l k.2⟩
 | .map _ l,k=>by rw [AllN] at k ⊢;exact ⟨h _ k.1,allNs_imp h l k.2⟩
 | .tag _ t,k=>by rw [AllN] at k ⊢;exact ⟨h _ k.1,allN_imp h t k.2⟩
theorem allNs_imp {p q:Tr→Prop} (h: ∀t,p t→q t): ∀l,AllNs p l→AllNs q l
 |[],_=>by rw [AllNs];trivial
 |t::l,k=>by rw [AllNs] at k ⊢;exact ⟨allN_imp h t k.1,allNs_imp h l k.2⟩
end
mutual
theorem lev_len {xs:List UInt8}: ∀(t:Tr) (off o:Nat),Enc xs t off o→t.lev≤o-off
 | .int _ _,off,o,h=>by simp [Tr.lev]
 | .str _ _,off,o,h=>by simp [Tr.lev]
 | .prim _ _,off,o,h=>by simp [Tr.lev]
 | .chk tx l,off,o,h=>by
  rw [Enc] at h;obtain ⟨v,o1,h,hc⟩:=h;have h1:=(hd_off h).1;have h2:=chunks_lev tx l _ _ hc;have h3:=chunks_off tx l _ _ hc;rw [Tr.lev];omega
 | .arr false l,off,o,h=>by
  rw [Enc] at h;obtain ⟨ai,o1,h,h31,hc⟩:=h;have h1:=(hd_off h).1;have h2:=encs_lev l _ _ hc;have h3:=encs_off l _ _ hc (hd_val h).2;rw [Tr.lev];omega
 | .arr true l,off,o,h=>by
  rw [Enc] at h;obtain ⟨v,o1,h,hc⟩:=h;have h1:=(hd_off h).1;have h2:=opens_lev l _ _ hc;have h3:=opens_off l _ _ hc;rw [Tr.lev];omega
 | .map false l,off,o,h=>by
  rw [Enc] at h;obtain ⟨ai,v,o1,h,h31,hv,hc⟩:=h;have h1:=(hd_off h).1;have h2:=encs_lev l _ _ hc;have h3:=encs_off l _ _ hc (hd_val h).2;rw [Tr.lev];omega
 | .map true l,off,o,h=>by
  rw [Enc] at h;obtain ⟨v,o1,h,_,hc⟩:=h;have h1:=(hd_off h).1;have h2:=opens_lev l _ _ hc;have h3:=opens_off l _ _ hc;rw [Tr.lev];omega
 | .tag n t,off,o,h=>by
  rw [Enc] at h;obtain ⟨ai,o1,h,hc⟩:=h;have h1:=(hd_off h).1;have h2:=lev_len t _ _ hc;have h3:=enc_off t _ _ hc;rw [Tr.lev];omega
theorem encs_lev {xs:List UInt8}: ∀(l:List Tr) (off o:Nat),Encs xs l off o→Tr.levs l≤o-off
 |[],off,o,h=>by rw [Tr.levs];omega
 |t::l,off,o,h=>by
  rw [Encs] at h;obtain ⟨mid,h1,h2⟩:=h;have e1:=lev_len t _ _ h1;have e2:=encs_lev l _ _ h2;have e3:=enc_off t _ _ h1;have e4:=encs_off l _ _ h2 e3.2;rw [Tr.levs];omega
theorem opens_lev {xs:List UInt8}: ∀(l:List Tr) (off o:Nat),Opens xs l off o→Tr.levs l≤o-off
 |[],off,o,h=>by rw [Tr.levs];omega
 |t::l,off,o,h=>by
  rw [Opens] at h;obtain ⟨b,mid,_,_,h1,h2⟩:=h;have e1:=lev_len t _ _ h1;have e2:=opens_lev l _ _ h2;have e3:=enc_off t _ _ h1;have e4:=opens_off l _ _ h2;rw [Tr.levs];omega
theorem chunks_lev {xs:List UInt8} (tx:Bool): ∀(l:List Tr) (off o:Nat),Chunks xs tx l off o→Tr.levs l≤o-off
 |[],off,o,h=>by rw [Tr.levs];omega
 |t::l,off,o,h=>by
  rw [Chunks] at h;obtain ⟨b,mid,_,_,_,h1,h2⟩:=h;have e1:=lev_len t _ _ h1;have e2:=chunks_lev tx l _ _ h2;have e3:=enc_off t _ _ h1;have e4:=chunks_off tx l _ _ h2;rw [Tr.levs];omega
end
def Held (b:Nat) (w W:World):Prop:=Fr [b] w W∧ ∃a0 a1 a2 a3 a4 a5 a6 a7,W.heap[b]? =some (.cells #[a0,a1,a2,a3,a4,a5,a6,a7] 45 (0,0))
theorem Held.drew {b:Nat} {w W:World} (h:Held b w W):Held b w W.drew:=⟨h.1.drew,h.2⟩
theorem Held.drewN {b:Nat} {w W:World} (h:Held b w W) (n:Nat):Held b w (W.drewN n):=⟨h.1.drewN n,h.2⟩
theorem Held.fr {b:Nat} {w W W':World} (h:Held b w W) (hf:Fr [] W W'):Held b w W':=by
 obtain ⟨h1,a0,a1,a2,a3,a4,a5,a6,a7,h2⟩:=h;exact ⟨h1.trans (hf.mono (by simp)),a0,a1,a2,a3,a4,a5,a6,a7,hf.blk h2 (by simp)⟩
theorem put8_blk {W:World} {b:Nat} {u0 u1 u2 u3 u4 u5 u6 u7:Value} (h:W.heap[b]? =some (.cells #[u0,u1,u2,u3,u4,u5,u6,u7] 45 (0,0))) (a0 a1 a2 a3 a4 a5 a6 a7:Value):
  (put8 W b a0 a1 a2 a3 a4 a5 a6 a7).heap[b]? =some (.cells #[a0,a1,a2,a3,a4,a5,a6,a7] 45 (0,0)):=by
 have h0:(W.setCell ⟨b,0,none⟩ a0).heap[b]? =some (.cells #[a0,u1,u2,u3,u4,u5,u6,u7] 45 (0,0)):=blk_setCell h 0 a0;have h1:((W.setCell ⟨b,0,none⟩ a0).setCell ⟨b,1,none⟩ a1).heap[b]? =some (.cells #[a0,a1,u2,u3,u4,u5,u6,u7] 45 (0,0)):=blk_setCell h0 1 a1;have h2:(((W.setCell ⟨b,0,none⟩ a0).setCell ⟨b,1,none⟩ a1).setCell ⟨b,2,none⟩ a2).heap[b]? =some (.cells #[a0,a1,a2,u3,u4,u5,u6,u7] 45 (0,0)):=blk_setCell h1 2 a2;have h3:((((W.setCell ⟨b,0,none⟩ a0).setCell ⟨b,1,none⟩ a1).setCell ⟨b,2,none⟩ a2).setCell ⟨b,3,none⟩ a3).heap[b]? =some (.cells #[a0,a1,a2,a3,u4,u5,u6,u7] 45 (0,0)):=blk_setCell h2 3 a3;have h4:(((((W.setCell ⟨b,0,none⟩ a0).setCell ⟨b,1,none⟩ a1).setCell ⟨b,2,none⟩ a2).setCell ⟨b,3,none⟩ a3).setCell ⟨b,4,none⟩ a4).heap[b]? =some (.cells #[a0,a1,a2,a3,a4,u5,u6,u7] 45 (0,0)):=blk_setCell h3 4 a4;have h5:((((((W.setCell ⟨b,0,none⟩ a0).setCell ⟨b,1,none⟩ a1).setCell ⟨b,2,none⟩ a2).setCell ⟨b,3,none⟩ a3).setCell ⟨b,4,none⟩ a4).setCell ⟨b,5,none⟩ a5).heap[b]? =some (.cells #[a0,a1,a2,a3,a4,a5,u6,u7] 45 (0,0)):=blk_setCell h4 5 a5;have h6:(((((((W.setCell ⟨b,0,none⟩ a0).setCell ⟨b,1,none⟩ a1).setCell ⟨b,2,none⟩ a2).setCell ⟨b,3,none⟩ a3).setCell ⟨b,4,none⟩ a4).setCell ⟨b,5,none⟩ a5).setCell ⟨b,6,none⟩ a6).heap[b]? =some (.cells #[a0,a1,a2,a3,a4,a5,a6,u7] 45 (0,0)):=blk_setCell h5 6 a6;have h7:((((((((W.setCell ⟨b,0,none⟩ a0).setCell ⟨b,1,none⟩ a1).setCell ⟨b,2,none⟩ a2).setCell ⟨b,3,none⟩ a3).setCell ⟨b,4,none⟩ a4).setCell ⟨b,5,none⟩ a5).setCell ⟨b,6,none⟩ a6).setCell ⟨b,7,none⟩ a7).heap[b]? =some (.cells #[a0,a1,a2,a3,a4,a5,a6,a7] 45 (0,0)):=blk_setCell h6 7 a7;exact h7
theorem Held.put {b:Nat} {w W:World} (h:Held b w W) (a0 a1 a2 a3 a4 a5 a6 a7:Value):Held b w (put8 W b a0 a1 a2 a3 a4 a5 a6 a7):=by
 obtain ⟨h1,u0,u1,u2,u3,u4,u5,u6,u7,h2⟩:=h;exact ⟨h1.trans (Fr.put8 W b a0 a1 a2 a3 a4 a5 a6 a7),_,_,_,_,_,_,_,_,put8_blk h2 a0 a1 a2 a3 a4 a5 a6 a7⟩
def ItemP (r:Option Tr) (w:World) (e:Ending) (w':World):Prop:=
 ∃g ao n c,e= .returned (.tuple #[.agg (nd g (.slice ao n c)).toArray,.bool r.isSome])∧Fr [] w w'∧ ∀t,r=some t→g=gn t∧ ∃bl,(∀b,b∈bl→w.heap.size≤b∧b<w'.heap.size)∧NdV w' bl g (.slice ao n c)
theorem itemW {xs:List UInt8} {m:Nat} (hm:m≤1000000) (w:World):Calls Tryz.prog 38 #[.string ⟨xs.toArray⟩,.int .i64 (m:Int)] w (ItemP (itemF xs m) w):=by
 by_cases hl:xs.length≤400
 ·have tl: ¬(400:Int)<(xs.length:Int):=by omega
  have K:=Hz (fun w=>one (xs:=xs) (by omega) w)
  go_enter Tryz.func38,Tryz.ntmps38
  go_wp2_with fail
  refine (K.out _).mono ?_
  rintro e w1 ⟨g,kv,he,hf,⟨ao,kn,kc,rfl⟩,hq⟩;obtain ⟨a0,a1,a2,b0,b1,b2,tx,gks⟩:=g;rw [nd_mk] at he;subst he;obtain ⟨B,hB⟩: ∃B,(oneF xs).isSome=B:=⟨_,rfl⟩;rw [hB];go_wp2_with fail
  have hB2:=hf.blk (blk_new w _) (by simp)
  have hs1:=hf.size;simp only [World.size_alloc] at hs1;cases hT:oneF xs with
  |none=>
   rw [hT] at hB;obtain rfl:false=B:=hB;clear hq;obtain ⟨⟨d0,d1,d2,d3,d4,d5,d6,d7⟩,g0,g1,g2,g3,g4,g5,g6,g7⟩:=cells8 (blk_alloc hB2 (.cells #[.int .i64 (a0:Int),.int .u64 (a1:Int),.int .i64 (a2:Int),.bool b0,.bool b1,.bool b2,.string ⟨tx.toArray⟩,.slice ao kn kc] 45));clear hB2
   go_region
   go_wp2;refine bodyPost_ret (v:= .tuple #[.agg #[.int .i64 (a0:Int),.int .u64 (a1:Int),.int .i64 (a2:Int),.bool b0,.bool b1,.bool b2,.string ⟨tx.toArray⟩,.slice ao kn kc],.bool false]) (by simp [results,Tryz.results38,go_sem,d0,d1,d2,d3,d4,d5,d6,d7]) rfl ?_
   have e:itemF xs m=none:=by rw [itemF,if_pos hl,hT];rfl
   rw [e];refine ⟨.mk a0 a1 a2 b0 b1 b2 tx gks,ao,kn,kc,rfl,?_,fun t e=>by cases e⟩
   have hF:Fr [] w (w1.alloc (.cells #[.int .i64 (a0:Int),.int .u64 (a1:Int),.int .i64 (a2:Int),.bool b0,.bool b1,.bool b2,.string ⟨tx.toArray⟩,.slice ao kn kc] 45)):=(((Fr.refl _ _).alloc _).trans hf).alloc _
   repeat (first|with_reducible exact hF|with_reducible refine Fr.setCell ?_ (.inr (Nat.le_refl _)) _|with_reducible refine Fr.drew ?_|with_reducible refine Fr.drewN ?_ _)
  |some t=>
   rw [hT] at hB;obtain rfl:true=B:=hB;obtain ⟨q2,bl,q4,q5⟩:=hq t hT;have hE:=oneF_enc (by omega) hT
   have hlv:=lev_len t _ _ hE;have hfew:AllN (Few 1000000000) t:=allN_imp (fun u hu=>⟨by have:=hu.1;omega,by have:=hu.2;omega⟩) t (enc_few t _ _ hE)
   have hne:w1.heap.size≠w.heap.size:=by omega
   have hx:=blk_new w1 (.cells #[.int .i64 (a0:Int),.int .u64 (a1:Int),.int .i64 (a2:Int),.bool b0,.bool b1,.bool b2,.string ⟨tx.toArray⟩,.slice ao kn kc] 45);have hr:=blk_alloc hB2 (.cells #[.int .i64 (a0:Int),.int .u64 (a1:Int),.int .i64 (a2:Int),.bool b0,.bool b1,.bool b2,.string ⟨tx.toArray⟩,.slice ao kn kc] 45);have hF2:Fr [] w (w1.alloc (.cells #[.int .i64 (a0:Int),.int .u64 (a1:Int),.int .i64 (a2:Int),.bool b0,.bool b1,.bool b2,.string ⟨tx.toArray⟩,.slice ao kn kc] 45)):=(((Fr.refl _ _).alloc _).trans hf).alloc _;have hF12:Fr [] w1 (w1.alloc (.cells #[.int .i64 (a0:Int),.int .u64 (a1:Int),.int .i64 (a2:Int),.bool b0,.bool b1,.bool b2,.string ⟨tx.toArray⟩,.slice ao kn kc] 45)):=(Fr.refl _ _).alloc _;obtain ⟨⟨d0,d1,d2,d3,d4,d5,d6,d7⟩,g0,g1,g2,g3,g4,g5,g6,g7⟩:=cells8 hr;generalize w1.alloc (.cells #[.int .i64 (a0:Int),.int .u64 (a1:Int),.int .i64 (a2:Int),.bool b0,.bool b1,.bool b2,.string ⟨tx.toArray⟩,.slice ao kn kc] 45)=w2 at *
   have hv2:Held w.heap.size w2 w2:=⟨Fr.refl _ _,_,_,_,_,_,_,_,_,hr⟩;have KEEP: ∀W,Held w.heap.size w2 W→W.cell? ⟨w1.heap.size,0,none⟩=some (.int .i64 (a0:Int))∧W.cell? ⟨w1.heap.size,1,none⟩=some (.int .u64 (a1:Int))∧W.cell? ⟨w1.heap.size,2,none⟩=some (.int .i64 (a2:Int))∧W.cell? ⟨w1.heap.size,3,none⟩=some (.bool b0)∧W.cell? ⟨w1.heap.size,4,none⟩=some (.bool b1)∧W.cell? ⟨w1.heap.size,5,none⟩=some (.bool b2)∧W.cell? ⟨w1.heap.size,6,none⟩=some (.string ⟨tx.toArray⟩)∧W.cell? ⟨w1.heap.size,7,none⟩=some (.slice ao kn kc):=fun W hW=>by
    have hb:=hW.1.blk hx (by simpa using hne)
    exact (cells8 hb).1
   have ND:Hid (∀W,Fr [w.heap.size] w2 W→ ∃bl,(∀b,b∈bl→w.heap.size≤b∧b<W.heap.size)∧NdV W bl (.mk a0 a1 a2 b0 b1 b2 tx gks) (.slice ao kn kc)):=Hz (fun W hW=>by
    have hX:=(hF12.mono (T:=[w.heap.size]) (by simp)).trans hW
    exact ⟨bl,fun b hb=>⟨by have:=(q4 b hb).1;simp at this;omega,Nat.lt_of_lt_of_le (q4 b hb).2 hX.size⟩,q5.fr (fun b hb=>hX.block b (q4 b hb).2 (by have:=(q4 b hb).1;simp at this ⊢;omega)) (fun b hb=>hb) _ _⟩)
   have KS:Hid (∀W,Held w.heap.size w2 W→Calls Tryz.prog 32 #[.agg #[.int .i64 (a0:Int),.int .u64 (a1:Int),.int .i64 (a2:Int),.bool b0,.bool b1,.bool b2,.string ⟨tx.toArray⟩,.slice ao kn kc]] W fun e w'=>e= .returned (.bool (t.snd Lib.validD))∧Fr [] W w'):=Hz (fun W hW=>by
    have h:=ND.out W hW.1;rw [q2] at h;have k:=sound _ t (Nat.le_refl _) hfew W (.slice ao kn kc) (by obtain ⟨bl,h1,h2⟩:=h;exact ⟨bl,fun b hb=>(h1 b hb).2,h2⟩)
    rw [←q2,nd_mk] at k;exact k)
   have KL:Hid (∀W,Held w.heap.size w2 W→Calls Tryz.prog 53 #[.agg #[.int .i64 (a0:Int),.int .u64 (a1:Int),.int .i64 (a2:Int),.bool b0,.bool b1,.bool b2,.string ⟨tx.toArray⟩,.slice ao kn kc]] W fun e w'=>e= .returned (.int .i64 (t.lev:Int))∧Fr [] W w'):=Hz (fun W hW=>by
    have h:=ND.out W hW.1;rw [q2] at h;have k:=levels _ t (Nat.le_refl _) (by omega) hfew W (.slice ao kn kc) (by obtain ⟨bl,h1,h2⟩:=h;exact ⟨bl,fun b hb=>(h1 b hb).2,h2⟩)
    rw [←q2,nd_mk] at k;exact k)
   obtain ⟨o0,o1,o2,o3,o4,o5,o6,o7⟩:=KEEP w2 hv2;have fin:Hid (∀W (ok:Bool),Held w.heap.size w2 W→ok=decide (t.snd Lib.validD=true∧t.lev≤m)→ItemP (itemF xs m) w (.returned (.tuple #[.agg #[.int .i64 (a0:Int),.int .u64 (a1:Int),.int .i64 (a2:Int),.bool b0,.bool b1,.bool b2,.string ⟨tx.toArray⟩,.slice ao kn kc],.bool ok])) W):=Hz (fun W ok hW hok=>by
    have e:itemF xs m=if t.snd Lib.validD=true∧t.lev≤m then some t else none:=by rw [itemF,if_pos hl,hT];rfl
    have e2:(itemF xs m).isSome=ok:=by rw [e,hok];split<;>simp_all
    refine ⟨.mk a0 a1 a2 b0 b1 b2 tx gks,ao,kn,kc,by rw [nd_mk,e2],hF2.then_ hW.1 (by simp),fun u hu=> ?_⟩
    rw [e] at hu
    split at hu
    ·injection hu with hu
     subst hu;exact ⟨q2,ND.out W hW.1⟩
    ·cases hu)
   replace KEEP:=Hz KEEP;replace hx:=Hz hx;replace hr:=Hz hr;clear hE hfew hF12 hB2 hq q2 q4 q5 hT hlv;cases hS:t.snd Lib.validD with
   |false=>
    rw [hS] at KS fin;clear KL
    first
     |go_region_with (go_at_call 32;refine (KS.out _ (Held.drewN hv2 1)).mono ?_;rintro e wA ⟨rfl,hfA0⟩;have hvA:=Held.fr (Held.drewN hv2 1) hfA0;have hbA:=hfA0.blk (show (World.drewN w2 1).heap[_]? =_ from hr.out) (by simp);obtain ⟨⟨y0,y1,y2,y3,y4,y5,y6,y7⟩,z0,z1,z2,z3,z4,z5,z6,z7⟩:=cells8 hbA;obtain ⟨p0,p1,p2,p3,p4,p5,p6,p7⟩:=KEEP.out _ hvA)
     |fail
    all_goals
     go_wp2;refine bodyPost_ret (v:= .tuple #[.agg #[.int .i64 (a0:Int),.int .u64 (a1:Int),.int .i64 (a2:Int),.bool b0,.bool b1,.bool b2,.string ⟨tx.toArray⟩,.slice ao kn kc],.bool false]) (by simp [results,Tryz.results38,go_sem, *]) rfl ?_
     exact fin.out _ _ (Held.put hvA _ _ _ _ _ _ _ _) (by simp)
   |true=>
    rw [hS] at KS fin;by_cases hml:t.lev≤m
    ·have tm:(t.lev:Int)≤(m:Int):=by omega
     have hfin:Hid (true=decide (true=true∧t.lev≤m)):=Hz (by simp [hml])
     clear hml
     first
      |go_region_held3 (fun w'=>w'.cell? ⟨w1.heap.size,0,none⟩=some (.int .i64 (a0:Int))∧w'.cell? ⟨w1.heap.size,1,none⟩=some (.int .u64 (a1:Int))∧w'.cell? ⟨w1.heap.size,2,none⟩=some (.int .i64 (a2:Int))∧w'.cell? ⟨w1.heap.size,3,none⟩=some (.bool b0)∧w'.cell? ⟨w1.heap.size,4,none⟩=some (.bool b1)∧w'.cell? ⟨w1.heap.size,5,none⟩=some (.bool b2)∧w'.cell? ⟨w1.heap.size,6,none⟩=some (.string ⟨tx.toArray⟩)∧w'.cell? ⟨w1.heap.size,7,none⟩=some (.slice ao kn kc)) (first|with_reducible exact KEEP.out _ hvB|with_reducible exact KEEP.out _ hvA|with_reducible exact KEEP.out _ (Held.drewN hv2 1)|with_reducible exact KEEP.out _ (Held.drew hv2)|exact KEEP.out _ (Held.put hvB _ _ _ _ _ _ _ _)|exact KEEP.out _ (Held.put hvA _ _ _ _ _ _ _ _)|go_keep) (first|(go_at_call 32;refine (KS.out _ (Held.drewN hv2 1)).mono ?_;rintro e wA ⟨rfl,hfA0⟩;have hvA:=Held.fr (Held.drewN hv2 1) hfA0;have hbA:=hfA0.blk (show (World.drewN w2 1).heap[_]? =_ from hr.out) (by simp);obtain ⟨⟨y0,y1,y2,y3,y4,y5,y6,y7⟩,z0,z1,z2,z3,z4,z5,z6,z7⟩:=cells8 hbA)|(go_at_call 53;refine (KL.out _ hvA).mono ?_;rintro e wB ⟨rfl,hfB0⟩;have hvB:=Held.fr hvA hfB0;obtain ⟨⟨x0,x1,x2,x3,x4,x5,x6,x7⟩,s0,s1,s2,s3,s4,s5,s6,s7⟩:=cells8 (hfB0.blk hbA (by simp))))
      |fail
     all_goals
      go_wp2;refine bodyPost_ret (v:= .tuple #[.agg #[.int .i64 (a0:Int),.int .u64 (a1:Int),.int .i64 (a2:Int),.bool b0,.bool b1,.bool b2,.string ⟨tx.toArray⟩,.slice ao kn kc],.bool true]) (by simp [results,Tryz.results38,go_sem, *]) rfl ?_
      exact fin.out _ _ (Held.put hvB _ _ _ _ _ _ _ _) hfin.out
    ·have tm: ¬(t.lev:Int)≤(m:Int):=by omega
     have tm2:m<t.lev:=by omega
     have hfin:Hid (false=decide (true=true∧t.lev≤m)):=Hz (by simp;omega)
     clear hml
     first
      |go_region_held3 (fun w'=>w'.cell? ⟨w1.heap.size,0,none⟩=some (.int .i64 (a0:Int))∧w'.cell? ⟨w1.heap.size,1,none⟩=some (.int .u64 (a1:Int))∧w'.cell? ⟨w1.heap.size,2,none⟩=some (.int .i64 (a2:Int))∧w'.cell? ⟨w1.heap.size,3,none⟩=some (.bool b0)∧w'.cell? ⟨w1.heap.size,4,none⟩=some (.bool b1)∧w'.cell? ⟨w1.heap.size,5,none⟩=some (.bool b2)∧w'.cell? ⟨w1.heap.size,6,none⟩=some (.string ⟨tx.toArray⟩)∧w'.cell? ⟨w1.heap.size,7,none⟩=some (.slice ao kn kc)) (first|with_reducible exact KEEP.out _ hvB|with_reducible exact KEEP.out _ hvA|with_reducible exact KEEP.out _ (Held.drewN hv2 1)|with_reducible exact KEEP.out _ (Held.drew hv2)|exact KEEP.out _ (Held.put hvB _ _ _ _ _ _ _ _)|exact KEEP.out _ (Held.put hvA _ _ _ _ _ _ _ _)|go_keep) (first|(go_at_call 32;refine (KS.out _ (Held.drewN hv2 1)).mono ?_;rintro e wA ⟨rfl,hfA0⟩;have hvA:=Held.fr (Held.drewN hv2 1) hfA0;have hbA:=hfA0.blk (show (World.drewN w2 1).heap[_]? =_ from hr.out) (by simp);obtain ⟨⟨y0,y1,y2,y3,y4,y5,y6,y7⟩,z0,z1,z2,z3,z4,z5,z6,z7⟩:=cells8 hbA)|(go_at_call 53;refine (KL.out _ hvA).mono ?_;rintro e wB ⟨rfl,hfB0⟩;have hvB:=Held.fr hvA hfB0;obtain ⟨⟨x0,x1,x2,x3,x4,x5,x6,x7⟩,s0,s1,s2,s3,s4,s5,s6,s7⟩:=cells8 (hfB0.blk hbA (by simp))))
      |fail
     all_goals
      go_wp2;refine bodyPost_ret (v:= .tuple #[.agg #[.int .i64 (a0:Int),.int .u64 (a1:Int),.int .i64 (a2:Int),.bool b0,.bool b1,.bool b2,.string ⟨tx.toArray⟩,.slice ao kn kc],.bool false]) (by simp [results,Tryz.results38,go_sem, *]) rfl ?_
      exact fin.out _ _ (Held.put hvB _ _ _ _ _ _ _ _) hfin.out
 ·have tl:(400:Int)<(xs.length:Int):=by omega
  obtain ⟨⟨d0,d1,d2,d3,d4,d5,d6,d7⟩,g0,g1,g2,g3,g4,g5,g6,g7⟩:=cells8 (blk_new w (.cells #[.int .i64 0,.int .u64 0,.int .i64 0,.bool false,.bool false,.bool false,.string ⟨#[]⟩,.slice none 0 0] 45));go_enter Tryz.func38,Tryz.ntmps38
  go_wp2;refine bodyPost_ret (v:= .tuple #[.agg #[.int .i64 0,.int .u64 0,.int .i64 0,.bool false,.bool false,.bool false,.string ⟨#[]⟩,.slice none 0 0],.bool false]) (by simp [results,Tryz.results38,go_sem,d0,d1,d2,d3,d4,d5,d6,d7]) rfl ?_
  have e:itemF xs m=none:=by rw [itemF,if_neg hl]
  rw [e];exact ⟨.mk 0 0 0 false false false [] [],none,0,0,rfl,(Fr.refl _ _).alloc _,fun t e=>by cases e⟩
end
section
open Go.RowKit
def encS (ss:List (List UInt8)):List Value:=ss.map fun s=> .string ⟨s.toArray⟩
def SRow (w:World) (B:Nat) (v:Value) (ss:List (List UInt8)):Prop:=w.ownsRow B 9 1 v ss.length (encS ss)
theorem SRow.nil (w:World) (B:Nat):SRow w B (.slice none 0 0) []:=World.ownsRow_nil _ _ _ _
theorem SRow.fr {w w':World} {B:Nat} {v:Value} {ss:List (List UInt8)} {S:List Nat} (h:SRow w B v ss) (hf:Fr S w w') (hs: ∀k,k∈S→k<B):SRow w' B v ss:=
 hf.own h (fun k hk hm=>by have:=(World.ownsRow.lt h k hk).1;have:=hs k hm;omega)
theorem SRow.shape {w:World} {B:Nat} {v:Value} {ss:List (List UInt8)} (h:SRow w B v ss): ∃ao n c,v= .slice ao n c:=by
 rcases h.2 with ⟨hv,_⟩|⟨g,cap,cur,hv,_⟩
 ·exact ⟨_,_,_,hv⟩
 ·exact ⟨_,_,_,hv⟩
end
end Go.Proofs.YteodinhkhhaafaaGreatDoor
