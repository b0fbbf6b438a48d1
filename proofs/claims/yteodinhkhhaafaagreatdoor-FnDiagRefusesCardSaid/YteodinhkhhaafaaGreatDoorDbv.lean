/- Walks of the program, and plain facts. -/
import Derived.Test.YteodinhkhhaafaaGreatDoorDbu
set_option linter.unusedVariables false
set_option linter.unusedSimpArgs false
set_option maxRecDepth 100000
set_option maxHeartbeats 6400000
namespace Go.Proofs.YteodinhkhhaafaaGreatDoor
section
open Go.RowKit
def L0:Lim:=⟨32,131072,131072⟩
theorem arrR_text (c:List UInt8): ∀(l:List R) (i:Nat),(∀r,r∈l→r.2=none)→arrR c i l=txt (joinS false i (l.map (·.1))++c)
 |[],i,_=>by rw [arrR,List.map_nil,joinS,List.nil_append]
 |r::l,i,h=>by
  rw [arrR,thenR_txt,thenR_ok (h r (List.mem_cons_self ..)),arrR_text c l (i+1) (fun q hq=>h q (List.mem_cons_of_mem _ hq)),List.map_cons,joinS]
  have e:sepS false i=if i=0 then [] else [44,32]:=by
   unfold sepS
   by_cases h0:i=0
   ·subst h0;rfl
   ·simp [h0,Nat.pos_of_ne_zero h0]
  simp [txt,e]
theorem mapR_text (c:List UInt8): ∀(l:List R) (i:Nat),l.length%2=0→(∀r,r∈l→r.2=none)→mapR c i (pairs l)=txt (joinS true (2*i) (l.map (·.1))++c)
 |[],i,_,_=>by show mapR c i []=_;rw [mapR,List.map_nil,joinS,List.nil_append]
 |[a],i,hl,_=>by simp at hl
 |a::b::l,i,hl,h=>by
  rw [pairs,mapR,thenR_txt,thenR_ok (h a (by simp)),thenR_txt,thenR_ok (h b (by simp)),mapR_text c l (i+1) (by simp at hl;omega) (fun q hq=>h q (by simp [hq])),List.map_cons,List.map_cons,joinS,joinS,show 2*i+1+1=2*(i+1) by omega]
  have e:sepS true (2*i)=if i=0 then [] else [44,32]:=by
   unfold sepS
   rw [if_neg (fun h=>by have:=h.2;omega)]
   by_cases h0:i=0
   ·subst h0;rfl
   ·rw [if_pos (by omega),if_neg h0]
  have e2:sepS true (2*i+1)=[58,32]:=by
   unfold sepS
   rw [if_pos ⟨rfl,by omega⟩]
  simp [txt,e,e2]
structure NOk (N:Nt):Prop where
 tx: ∀b,Lib.validD b=true→(N.tx b).2=none
 bs: ∀n b,(N.big n (.str false b)).2=none
 bc: ∀n l,(N.big n (.chk false l)).2=none
theorem ntA_ok (L:Lim) (M:Md):NOk (ntA L M):=⟨fun b h=>by
 show (if Lib.validD b=true then txt (qT 34 b) else ([],some 10)).2=none
 rw [if_pos h];rfl,fun _ _=>rfl,fun _ _=>rfl⟩
theorem notes_map (N:Nt): ∀l,notes N l=l.map (note N)
 |[]=>by rw [notes];rfl
 |t::l=>by rw [notes,notes_map N l];rfl
mutual
theorem note_ok {N:Nt} (hN:NOk N): ∀t:Tr,t.snd Lib.validD=true→(note N t).2=none
 | .int false n,_=>by rw [note];rfl
 | .int true n,_=>by rw [note];rfl
 | .str false b,_=>by rw [note];rfl
 | .str true b,h=>by rw [Tr.snd] at h;rw [note];exact hN.tx b h
 | .chk tx [],_=>by rw [note];rfl
 | .chk tx (t::l),h=>by
  rw [Tr.snd] at h
  have:=notes_ok hN (t::l) h
  rw [notes] at this
  rw [note,thenR_txt,arrR_text _ _ _ this]
  rfl
 | .arr o l,h=>by
  rw [Tr.snd] at h
  rw [note,thenR_txt,arrR_text _ _ _ (notes_ok hN l h)]
  rfl
 | .map o l,h=>by
  rw [Tr.snd] at h
  rw [note,thenR_txt]
  exact mapR_ok _ (notes N l) 0 (notes_ok hN l h)
 | .tag n t,h=>by
  unfold Tr.snd at h
  rw [note]
  have h2:=(Bool.and_eq_true_iff.1 h).2
  by_cases hn:n=2∨n=3
  ·rw [if_pos hn]
   have h1:=(Bool.and_eq_true_iff.1 h).1
   have hb:(!(n==2||n==3))=false:=by rcases hn with rfl|rfl<;>rfl
   rw [hb,Bool.false_or] at h1
   split at h1
   ·exact hN.bs _ _
   ·exact hN.bc _ _
   ·cases h1
  ·rw [if_neg hn,thenR_txt,thenR_txt,thenR_ok (note_ok hN t h2)]
   rfl
 | .prim ai v,_=>by
  rw [note]
  unfold primT
  repeat' split
  all_goals rfl
theorem notes_ok {N:Nt} (hN:NOk N): ∀l:List Tr,Tr.snds Lib.validD l=true→ ∀r,r∈notes N l→r.2=none
 |[],_,r,h=>by rw [notes] at h;cases h
 |t::l,hs,r,h=>by
  rw [Tr.snds] at hs
  rw [notes] at h
  obtain ⟨h1,h2⟩:=Bool.and_eq_true_iff.1 hs
  rcases List.mem_cons.1 h with rfl|h
  ·exact note_ok hN t h1
  ·exact notes_ok hN l h2 r h
theorem mapR_ok (c:List UInt8): ∀(l:List R) (i:Nat),(∀r,r∈l→r.2=none)→(mapR c i (pairs l)).2=none
 |[],i,_=>by show (mapR c i []).2=none;rw [mapR];rfl
 |[a],i,_=>by show (mapR c i []).2=none;rw [mapR];rfl
 |a::b::l,i,h=>by
  rw [pairs,mapR,thenR_txt,thenR_ok (h a (by simp)),thenR_txt,thenR_ok (h b (by simp))]
  exact mapR_ok c l (i+1) (fun q hq=>h q (by simp [hq]))
end
noncomputable def noteT (M:Md) (t:Tr):List UInt8:=(note (ntA L0 M) t).1
theorem note_txt {M:Md} {t:Tr} (h:t.snd Lib.validD=true):note (ntA L0 M) t=txt (noteT M t):=Prod.ext rfl (note_ok (ntA_ok L0 M) t h)
theorem notes_txt {M:Md} {l:List Tr}:(notes (ntA L0 M) l).map (·.1)=l.map (noteT M):=by
 rw [notes_map,List.map_map]
 rfl
theorem noteT_arr {M:Md} {o:Bool} {l:List Tr} (h:Tr.snds Lib.validD l=true):noteT M (.arr o l)=(if o then [91,95,32] else [91])++(joinS false 0 (l.map (noteT M))++[93]):=by
 unfold noteT
 rw [note,thenR_txt,arrR_text _ _ _ (notes_ok (ntA_ok L0 M) l h),notes_txt]
 rfl
theorem noteT_map {M:Md} {o:Bool} {l:List Tr} (hl:l.length%2=0) (h:Tr.snds Lib.validD l=true):noteT M (.map o l)=(if o then [123,95,32] else [123])++(joinS true 0 (l.map (noteT M))++[125]):=by
 unfold noteT
 rw [note,thenR_txt,mapR_text _ _ _ (by rw [notes_length];exact hl) (notes_ok (ntA_ok L0 M) l h),notes_txt]
 rfl
theorem noteT_tag {M:Md} {n:Nat} {t:Tr} (hn: ¬(n=2∨n=3)) (h:t.snd Lib.validD=true):noteT M (.tag n t)=dec n++([40]++(noteT M t++[41])):=by
 unfold noteT
 rw [note,if_neg hn,thenR_txt,thenR_txt,thenR_ok (note_ok (ntA_ok L0 M) t h)]
 rfl
theorem noteT_chk {M:Md} {tx:Bool} {l:List Tr} (hl:l≠[]) (h:Tr.snds Lib.validD l=true):noteT M (.chk tx l)=[40,95,32]++(joinS false 0 (l.map (noteT M))++[41]):=by
 cases l with
 |nil=>exact absurd rfl hl
 |cons t l=>
  have:=notes_ok (ntA_ok L0 M) (t::l) h
  have e:note (ntA L0 M) t::notes (ntA L0 M) l=notes (ntA L0 M) (t::l):=by rw [notes]
  unfold noteT
  rw [note,thenR_txt,e,arrR_text _ _ _ this,notes_txt]
  rfl
theorem hd_part {xs:List UInt8} {off m ai v o:Nat} (h:hd xs off= .ok (m,ai,v,o)) (pre post:List UInt8):hd (pre++(xs++post)) (pre.length+off)= .ok (m,ai,v,pre.length+o):=by
 unfold hd at h ⊢
 cases hb:xs[off]? with
 |none=>rw [hb] at h;cases h
 |some b=>
  rw [hb] at h
  obtain ⟨hl,_⟩:=List.getElem?_eq_some_iff.1 hb
  have e:(pre++(xs++post))[pre.length+off]? =some b:=by
   rw [List.getElem?_append_right (by omega),Nat.add_sub_cancel_left,List.getElem?_append_left hl,hb]
  rw [e]
  dsimp only at h ⊢
  have hd1: ∀n,off+1+n≤xs.length→((pre++(xs++post)).drop (pre.length+off+1)).take n=(xs.drop (off+1)).take n:=fun n hn=>by
   rw [Nat.add_assoc,List.drop_append,List.drop_eq_nil_of_le (by omega),List.nil_append,Nat.add_sub_cancel_left,List.drop_append_of_le_length (by omega),List.take_append_of_le_length (by rw [List.length_drop];omega)]
  split at h
  ·rename_i c;rw [if_pos c];cases h;rfl
  ·rename_i c
   rw [if_neg c]
   split at h
   ·rename_i c2
    rw [if_pos c2]
    split at h
    ·cases h
    ·rename_i c3
     have hp:1≤2^(b.toNat%32-24):=Nat.one_le_two_pow
     rw [if_neg (by simp only [List.length_append];omega),hd1 1 (by omega),hd1 _ (by omega)]
     split at h
     ·cases h
     ·rename_i c4
      rw [if_neg c4]
      injection h with h
      simp only [Prod.mk.injEq] at h
      obtain ⟨e1,e2,e3,e4⟩:=h
      have e5:pre.length+off+1+2^(b.toNat%32-24)=pre.length+o:=by omega
      rw [e5,e1,e3,e2]
   ·rename_i c2
    rw [if_neg c2]
    split at h
    ·rename_i c3
     rw [if_pos c3]
     split at h
     ·cases h
     ·rename_i c4
      rw [if_neg c4]
      cases h
      rfl
    ·cases h
theorem getE_part {xs:List UInt8} {off:Nat} {b:UInt8} (h:xs[off]? =some b) (pre post:List UInt8):(pre++(xs++post))[pre.length+off]? =some b:=by
 obtain ⟨hl,_⟩:=List.getElem?_eq_some_iff.1 h
 rw [List.getElem?_append_right (by omega),Nat.add_sub_cancel_left,List.getElem?_append_left hl,h]
mutual
theorem enc_part {xs:List UInt8} (pre post:List UInt8): ∀(t:Tr) (off o:Nat),Enc xs t off o→Enc (pre++(xs++post)) t (pre.length+off) (pre.length+o)
 | .int neg n,off,o,h=>by
  rw [Enc] at h ⊢
  obtain ⟨ai,h⟩:=h
  exact ⟨ai,hd_part h pre post⟩
 | .str tx b,off,o,h=>by
  rw [Enc] at h ⊢
  obtain ⟨ai,v,o1,h,h31,hv,h63,rfl,hb⟩:=h
  refine ⟨ai,v,pre.length+o1,hd_part h pre post,h31,by simp only [List.length_append];omega,h63,by omega,?_⟩
  rw [hb,List.drop_append,show List.drop (pre.length+o1) pre=[] from List.drop_eq_nil_of_le (by omega),List.nil_append,Nat.add_sub_cancel_left,List.drop_append_of_le_length (by omega),List.take_append_of_le_length (by rw [List.length_drop];omega)]
 | .chk tx l,off,o,h=>by
  rw [Enc] at h ⊢
  obtain ⟨v,o1,h,hc⟩:=h
  exact ⟨v,_,hd_part h pre post,chunks_part pre post tx l _ _ hc⟩
 | .arr false l,off,o,h=>by
  rw [Enc] at h ⊢
  obtain ⟨ai,o1,h,h31,hc⟩:=h
  exact ⟨ai,_,hd_part h pre post,h31,encs_part pre post l _ _ hc⟩
 | .arr true l,off,o,h=>by
  rw [Enc] at h ⊢
  obtain ⟨v,o1,h,hc⟩:=h
  exact ⟨v,_,hd_part h pre post,opens_part pre post l _ _ hc⟩
 | .map false l,off,o,h=>by
  rw [Enc] at h ⊢
  obtain ⟨ai,v,o1,h,h31,hv,hc⟩:=h
  exact ⟨ai,v,_,hd_part h pre post,h31,hv,encs_part pre post l _ _ hc⟩
 | .map true l,off,o,h=>by
  rw [Enc] at h ⊢
  obtain ⟨v,o1,h,h2,hc⟩:=h
  exact ⟨v,_,hd_part h pre post,h2,opens_part pre post l _ _ hc⟩
 | .tag n t,off,o,h=>by
  rw [Enc] at h ⊢
  obtain ⟨ai,o1,h,hc⟩:=h
  exact ⟨ai,_,hd_part h pre post,enc_part pre post t _ _ hc⟩
 | .prim ai v,off,o,h=>by
  rw [Enc] at h ⊢
  exact hd_part h pre post
theorem encs_part {xs:List UInt8} (pre post:List UInt8): ∀(l:List Tr) (off o:Nat),Encs xs l off o→Encs (pre++(xs++post)) l (pre.length+off) (pre.length+o)
 |[],off,o,h=>by rw [Encs] at h ⊢;rw [h]
 |t::l,off,o,h=>by
  rw [Encs] at h ⊢
  obtain ⟨mid,h1,h2⟩:=h
  exact ⟨_,enc_part pre post t _ _ h1,encs_part pre post l _ _ h2⟩
theorem opens_part {xs:List UInt8} (pre post:List UInt8): ∀(l:List Tr) (off o:Nat),Opens xs l off o→Opens (pre++(xs++post)) l (pre.length+off) (pre.length+o)
 |[],off,o,h=>by
  rw [Opens] at h ⊢
  obtain ⟨b,h1,h2,rfl⟩:=h
  exact ⟨b,getE_part h1 pre post,h2,by omega⟩
 |t::l,off,o,h=>by
  rw [Opens] at h ⊢
  obtain ⟨b,mid,h1,h2,h3,h4⟩:=h
  exact ⟨b,_,getE_part h1 pre post,h2,enc_part pre post t _ _ h3,opens_part pre post l _ _ h4⟩
theorem chunks_part {xs:List UInt8} (pre post:List UInt8) (tx:Bool): ∀(l:List Tr) (off o:Nat),Chunks xs tx l off o→Chunks (pre++(xs++post)) tx l (pre.length+off) (pre.length+o)
 |[],off,o,h=>by
  rw [Chunks] at h ⊢
  obtain ⟨b,h1,h2,rfl⟩:=h
  exact ⟨b,getE_part h1 pre post,h2,by omega⟩
 |t::l,off,o,h=>by
  rw [Chunks] at h ⊢
  obtain ⟨b,mid,h1,h2,hs,h3,h4⟩:=h
  exact ⟨b,_,getE_part h1 pre post,h2,hs,enc_part pre post t _ _ h3,chunks_part pre post tx l _ _ h4⟩
end
mutual
theorem fits_few {B:Nat} {L:Lim} (h1:B≤L.el) (h2:B≤2*L.pa): ∀t:Tr,AllN (Few B) t→t.fits L
 | .int _ _,_=>by rw [Tr.fits]<;>simp
 | .str _ _,_=>by rw [Tr.fits]<;>simp
 | .chk _ _,_=>by rw [Tr.fits]<;>simp
 | .prim _ _,_=>by rw [Tr.fits]<;>simp
 | .arr o l,h=>by
  rw [AllN] at h
  have:=h.1.1
  rw [Tr.ks] at this
  rw [Tr.fits]
  exact ⟨by omega,fitss_few h1 h2 l h.2⟩
 | .map o l,h=>by
  rw [AllN] at h
  have:=h.1.1
  rw [Tr.ks] at this
  rw [Tr.fits]
  exact ⟨by omega,fitss_few h1 h2 l h.2⟩
 | .tag n t,h=>by
  rw [AllN] at h
  rw [Tr.fits]
  exact fits_few h1 h2 t h.2
theorem fitss_few {B:Nat} {L:Lim} (h1:B≤L.el) (h2:B≤2*L.pa): ∀l:List Tr,AllNs (Few B) l→Tr.fitss L l
 |[],_=>by rw [Tr.fitss];trivial
 |t::l,h=>by
  rw [AllNs] at h
  rw [Tr.fitss]
  exact ⟨fits_few h1 h2 t h.1,fitss_few h1 h2 l h.2⟩
end
theorem enc_fits {xs:List UInt8} {t:Tr} {off o:Nat} (h:Enc xs t off o) (hx:xs.length≤131072):t.fits L0:=fits_few (B:=xs.length) hx (by show xs.length≤2*131072;omega) t (enc_few t off o h)
theorem itemR_enc {xs:List UInt8} {t:Tr} {off o:Nat} (h:Enc xs t off o) (hx:xs.length≤131072) (hl:t.lev≤32):itemR L0 xs off= .ok (t,o):=
 itemR_of (by decide) (by decide) h (enc_fits h hx) (Nat.le_trans (dp_lev t) hl)
theorem diagR_enc {xs:List UInt8} {t:Tr} {M:Md} (sq:Bool) (h:Enc xs t 0 xs.length) (hx:xs.length≤131072) (hl:t.lev≤32):diagR L0 M sq xs=note (ntA L0 M) t:=by
 have hp:=enc_lt h
 have hi:=itemR_enc h hx hl
 unfold diagR
 cases sq with
 |false=>
  rw [if_neg (by simp)]
  unfold oneR
  rw [if_neg (List.ne_nil_of_length_pos hp),hi]
  dsimp only
  rw [if_pos rfl]
 |true=>
  rw [if_pos rfl]
  unfold seqR
  rw [seqF,if_neg (by omega),hi]
  dsimp only
  obtain ⟨n,hn⟩: ∃n,xs.length=n+1:=⟨xs.length-1,by omega⟩
  rw [show seqF L0 (ntA L0 M) xs xs.length false xs.length=([],none) by rw [hn,seqF,←hn,if_pos (Nat.le_refl _)];simp,thenR_nil,if_pos rfl,thenR_txt]
  rfl
theorem oneF_enc {xs:List UInt8} {t:Tr} (hx:xs.length≤1000000000) (h:oneF xs=some t):Enc xs t 0 xs.length:=by
 unfold oneF at h
 obtain ⟨⟨t2,o⟩,h1,h2⟩:=Option.bind_eq_some_iff.1 h
 split at h2
 ·rename_i ho
  injection h2 with h2
  subst h2
  have:=tree_enc (by omega) _ _ _ _ h1
  have ho2:o=xs.length:=ho
  rw [ho2] at this
  exact this
 ·cases h2
end
section
open Go.RowKit
def itemF (xs:List UInt8) (m:Nat):Option Tr:=if xs.length≤400 then (oneF xs).bind fun t=>if t.snd Lib.validD=true∧t.lev≤m then some t else none else none
structure ItemOK (m:Nat) (p:List UInt8) (t:Tr):Prop where
 len:p.length≤400
 enc:Enc p t 0 p.length
 snd:t.snd Lib.validD=true
 lev:t.lev≤m
theorem itemF_ok {xs:List UInt8} {m:Nat} {t:Tr} (h:itemF xs m=some t):ItemOK m xs t:=by
 unfold itemF at h
 split at h
 ·rename_i hl
  obtain ⟨t2,h1,h2⟩:=Option.bind_eq_some_iff.1 h
  split at h2
  ·rename_i hs
   injection h2 with h2
   subst h2
   exact ⟨hl,oneF_enc (by omega) h1,hs.1,hs.2⟩
  ·cases h2
 ·cases h
def partsF (m:Nat):List (List UInt8)→Option (List Tr)
 |[]=>some []
 |p::l=>(itemF p m).bind fun t=>(partsF m l).map fun r=>t::r
theorem partsF_snoc (m:Nat) (p:List UInt8): ∀l,partsF m (l++[p])=(partsF m l).bind fun ts=>(itemF p m).map fun t=>ts++[t]
 |[]=>by
  rw [List.nil_append,partsF,partsF,partsF]
  cases itemF p m<;>rfl
 |q::l=>by
  rw [List.cons_append,partsF,partsF,partsF_snoc m p l]
  cases itemF q m with
  |none=>rfl
  |some t=>
   cases partsF m l with
   |none=>rfl
   |some ts=>cases itemF p m<;>rfl
theorem partsF_none {m:Nat} {p:List UInt8} (h:itemF p m=none): ∀{l},p∈l→partsF m l=none
 |[],hp=>by cases hp
 |q::l,hp=>by
  rw [partsF]
  rcases List.mem_cons.1 hp with rfl|hp
  ·rw [h];rfl
  ·rw [partsF_none h hp]
   cases itemF q m<;>rfl
def notesF (ss:List (List UInt8)):Option (List Tr):=if ss.length≤8 then partsF 20 ss else none
def PartsOK (m:Nat):List (List UInt8)→List Tr→Prop
 |[],[]=>True
 |p::ps,t::ts=>ItemOK m p t∧PartsOK m ps ts
 |_,_=>False
theorem partsF_ok {m:Nat}: ∀{ps:List (List UInt8)} {ts:List Tr},partsF m ps=some ts→PartsOK m ps ts
 |[],ts,h=>by
  rw [partsF] at h
  injection h with h
  subst h
  trivial
 |p::ps,ts,h=>by
  rw [partsF] at h
  obtain ⟨t,h1,h2⟩:=Option.bind_eq_some_iff.1 h
  obtain ⟨r,h3,h4⟩:=Option.map_eq_some_iff.1 h2
  subst h4
  exact ⟨itemF_ok h1,partsF_ok h3⟩
theorem PartsOK.len {m:Nat}: ∀{ps:List (List UInt8)} {ts:List Tr},PartsOK m ps ts→ts.length=ps.length
 |[],[],_=>rfl
 |p::ps,t::ts,h=>by rw [List.length_cons,List.length_cons,PartsOK.len h.2]
 |[],t::ts,h=>h.elim
 |p::ps,[],h=>h.elim
theorem PartsOK.flat {m:Nat}: ∀{ps:List (List UInt8)} {ts:List Tr},PartsOK m ps ts→ps.flatten.length≤400*ps.length
 |[],[],_=>by simp
 |p::ps,t::ts,h=>by
  have h1:=h.1.len
  have h2:=PartsOK.flat h.2
  rw [List.flatten_cons,List.length_append,List.length_cons]
  omega
 |[],t::ts,h=>h.elim
 |p::ps,[],h=>h.elim
theorem PartsOK.snds {m:Nat}: ∀{ps:List (List UInt8)} {ts:List Tr},PartsOK m ps ts→Tr.snds Lib.validD ts=true
 |[],[],_=>by rw [Tr.snds]
 |p::ps,t::ts,h=>by rw [Tr.snds,h.1.snd,PartsOK.snds h.2];rfl
 |[],t::ts,h=>h.elim
 |p::ps,[],h=>h.elim
theorem PartsOK.levs {m:Nat}: ∀{ps:List (List UInt8)} {ts:List Tr},PartsOK m ps ts→Tr.levs ts≤m
 |[],[],_=>by rw [Tr.levs];omega
 |p::ps,t::ts,h=>by
  have h1:=h.1.lev
  have h2:=PartsOK.levs h.2
  rw [Tr.levs]
  omega
 |[],t::ts,h=>h.elim
 |p::ps,[],h=>h.elim
theorem enc_at {p:List UInt8} {t:Tr} (h:Enc p t 0 p.length) (pre post:List UInt8):Enc (pre++(p++post)) t pre.length (pre.length+p.length):=by
 have:=enc_part pre post t 0 p.length h
 rwa [Nat.add_zero] at this
theorem enc_ne {xs:List UInt8} {t:Tr} {off o:Nat} (h:Enc xs t off o): ∃b,xs[off]? =some b∧b.toNat≠255:=by
 have key: ∀{m ai v o1:Nat},hd xs off= .ok (m,ai,v,o1)→ ∃b,xs[off]? =some b∧b.toNat≠255:=fun {m ai v o1} hh=>by
  obtain ⟨hl,e1,e2⟩:=byte_of_hd hh
  refine ⟨xs[off],List.getElem?_eq_getElem hl,fun e=> ?_⟩
  unfold hd at hh
  rw [List.getElem?_eq_getElem hl] at hh
  dsimp only at hh
  rw [e] at hh
  simp at hh
 cases t with
 |int neg n=>rw [Enc] at h;obtain ⟨ai,h⟩:=h;exact key h
 |str tx b=>rw [Enc] at h;obtain ⟨ai,v,o1,h,_⟩:=h;exact key h
 |chk tx l=>rw [Enc] at h;obtain ⟨v,o1,h,_⟩:=h;exact key h
 |arr op l=>
  cases op<;>(rw [Enc] at h)
  ·obtain ⟨ai,o1,h,_⟩:=h;exact key h
  ·obtain ⟨v,o1,h,_⟩:=h;exact key h
 |map op l=>
  cases op<;>(rw [Enc] at h)
  ·obtain ⟨ai,v,o1,h,_⟩:=h;exact key h
  ·obtain ⟨v,o1,h,_⟩:=h;exact key h
 |tag n t=>rw [Enc] at h;obtain ⟨ai,o1,h,_⟩:=h;exact key h
 |prim ai v=>rw [Enc] at h;exact key h
theorem PartsOK.encs {m:Nat} (post:List UInt8): ∀{ps:List (List UInt8)} {ts:List Tr},PartsOK m ps ts→ ∀pre:List UInt8,Encs (pre++(ps.flatten++post)) ts pre.length (pre.length+ps.flatten.length)
 |[],[],_,pre=>by rw [Encs];simp
 |p::ps,t::ts,h,pre=>by
  have h1:=enc_at h.1.enc pre (ps.flatten++post)
  have h2:=PartsOK.encs post h.2 (pre++p)
  rw [List.append_assoc,List.length_append] at h2
  rw [Encs,List.flatten_cons,List.append_assoc,List.length_append,←Nat.add_assoc]
  exact ⟨_,h1,h2⟩
 |[],t::ts,h,_=>h.elim
 |p::ps,[],h,_=>h.elim
theorem get_mid (pre post:List UInt8) (b:UInt8):(pre++b::post)[pre.length]? =some b:=by simp
theorem PartsOK.opens {m:Nat} (post:List UInt8): ∀{ps:List (List UInt8)} {ts:List Tr},PartsOK m ps ts→ ∀pre:List UInt8,Opens (pre++(ps.flatten++255::post)) ts pre.length (pre.length+ps.flatten.length+1)
 |[],[],_,pre=>by
  rw [Opens]
  exact ⟨255,by rw [List.flatten_nil,List.nil_append];exact get_mid _ _ _,rfl,by simp⟩
 |p::ps,t::ts,h,pre=>by
  have h1:=enc_at h.1.enc pre (ps.flatten++255::post)
  have h2:=PartsOK.opens post h.2 (pre++p)
  obtain ⟨b,hb,hb2⟩:=enc_ne h1
  rw [List.append_assoc,List.length_append] at h2
  rw [Opens,List.flatten_cons,List.append_assoc,List.length_append,←Nat.add_assoc]
  exact ⟨b,_,hb,hb2,h1,h2⟩
 |[],t::ts,h,_=>h.elim
 |p::ps,[],h,_=>h.elim
theorem PartsOK.chunks {m:Nat} (tx:Bool) (post:List UInt8): ∀{ps:List (List UInt8)} {ts:List Tr},PartsOK m ps ts→(∀t,t∈ts→ ∃s,t= .str tx s)→ ∀pre:List UInt8,Chunks (pre++(ps.flatten++255::post)) tx ts pre.length (pre.length+ps.flatten.length+1)
 |[],[],_,_,pre=>by
  rw [Chunks]
  exact ⟨255,by rw [List.flatten_nil,List.nil_append];exact get_mid _ _ _,rfl,by simp⟩
 |p::ps,t::ts,h,hs,pre=>by
  have h1:=enc_at h.1.enc pre (ps.flatten++255::post)
  have h2:=PartsOK.chunks tx post h.2 (fun t ht=>hs t (List.mem_cons_of_mem _ ht)) (pre++p)
  obtain ⟨b,hb,hb2⟩:=enc_ne h1
  rw [List.append_assoc,List.length_append] at h2
  rw [Chunks,List.flatten_cons,List.append_assoc,List.length_append,←Nat.add_assoc]
  exact ⟨b,_,hb,hb2,hs t (List.mem_cons_self ..),h1,h2⟩
 |[],t::ts,h,_,_=>h.elim
 |p::ps,[],h,_,_=>h.elim
theorem hd_open (m:Nat) (hm:2≤m) (hm5:m≤5) (xs:List UInt8):hd (UInt8.ofNat (m*32+31)::xs) 0= .ok (m,31,31,1):=by
 have h1:(UInt8.ofNat (m*32+31)).toNat=m*32+31:=by simp;omega
 unfold hd
 simp only [List.getElem?_cons_zero,h1]
 have a1:(m*32+31)/32=m:=by omega
 have a2:(m*32+31)%32=31:=by omega
 rw [a1,a2,if_neg (by omega),if_neg (by omega),if_pos rfl,if_neg (by omega)]
theorem arr_enc {m:Nat} {ps:List (List UInt8)} {ts:List Tr} (h:PartsOK m ps ts) (h8:ps.length≤1000):Enc (headB 4 ps.length 0++ps.flatten) (.arr false ts) 0 (headB 4 ps.length 0++ps.flatten).length:=by
 obtain ⟨ai,hh,ha⟩:=hd_headB 4 ps.length 0 (by omega) (by omega) [] ps.flatten
 rw [List.nil_append,List.length_nil,Nat.zero_add] at hh
 rw [Enc]
 refine ⟨ai,_,by rw [h.len];exact hh,by omega,?_⟩
 have:=h.encs [] (headB 4 ps.length 0)
 rwa [List.append_nil,←List.length_append] at this
theorem oarr_enc {m:Nat} {ps:List (List UInt8)} {ts:List Tr} (h:PartsOK m ps ts):Enc (159::(ps.flatten++[255])) (.arr true ts) 0 (159::(ps.flatten++[255])).length:=by
 rw [Enc]
 refine ⟨31,1,hd_open 4 (by omega) (by omega) _,?_⟩
 have:=h.opens [] [159]
 simpa [Nat.add_comm,Nat.add_left_comm] using this
theorem map_enc {m:Nat} {ps:List (List UInt8)} {ts:List Tr} (h:PartsOK m ps ts) (h8:ps.length≤1000) (h2:ps.length%2=0):Enc (headB 5 (ps.length/2) 0++ps.flatten) (.map false ts) 0 (headB 5 (ps.length/2) 0++ps.flatten).length:=by
 obtain ⟨ai,hh,ha⟩:=hd_headB 5 (ps.length/2) 0 (by omega) (by omega) [] ps.flatten
 rw [List.nil_append,List.length_nil,Nat.zero_add] at hh
 rw [Enc]
 refine ⟨ai,_,_,hh,by omega,by rw [h.len];omega,?_⟩
 have:=h.encs [] (headB 5 (ps.length/2) 0)
 rwa [List.append_nil,←List.length_append] at this
theorem omap_enc {m:Nat} {ps:List (List UInt8)} {ts:List Tr} (h:PartsOK m ps ts) (h2:ps.length%2=0):Enc (191::(ps.flatten++[255])) (.map true ts) 0 (191::(ps.flatten++[255])).length:=by
 rw [Enc]
 refine ⟨31,1,hd_open 5 (by omega) (by omega) _,by rw [h.len];exact h2,?_⟩
 have:=h.opens [] [191]
 simpa [Nat.add_comm,Nat.add_left_comm] using this
theorem tag_enc {m n:Nat} {p:List UInt8} {t:Tr} (h:ItemOK m p t) (hn:n<18446744073709551616):Enc (headB 6 n 0++p) (.tag n t) 0 (headB 6 n 0++p).length:=by
 obtain ⟨ai,hh,ha⟩:=hd_headB 6 n 0 (by omega) hn [] p
 rw [List.nil_append,List.length_nil,Nat.zero_add] at hh
 rw [Enc]
 refine ⟨ai,_,hh,?_⟩
 have:=enc_at h.enc (headB 6 n 0) []
 rwa [List.append_nil,←List.length_append] at this
theorem chk_enc {m:Nat} {tx:Bool} {ps:List (List UInt8)} {ts:List Tr} (h:PartsOK m ps ts) (hs: ∀t,t∈ts→ ∃s,t= .str tx s):Enc (UInt8.ofNat (majS tx*32+31)::(ps.flatten++[255])) (.chk tx ts) 0 (UInt8.ofNat (majS tx*32+31)::(ps.flatten++[255])).length:=by
 rw [Enc]
 refine ⟨31,1,hd_open (majS tx) (by cases tx<;>simp [majS]) (by cases tx<;>simp [majS]) _,?_⟩
 have:=h.chunks tx [] hs [UInt8.ofNat (majS tx*32+31)]
 simpa [Nat.add_comm,Nat.add_left_comm] using this
section
variable {M:Md} {sq:Bool} {ps:List (List UInt8)} {ts:List Tr} {p:List UInt8} {t:Tr} {m:Nat}
theorem item_text (h:ItemOK m p t) (hm:m≤32):diagR L0 M sq p=txt (noteT M t):=by
 have h1:=h.len
 rw [diagR_enc sq h.enc (by omega) (Nat.le_trans h.lev hm),note_txt h.snd]
theorem arr_text (h:PartsOK 20 ps ts) (h8:ps.length≤8):diagR L0 M sq (headB 4 ps.length 0++ps.flatten)=txt ([91]++(joinS false 0 (ts.map (noteT M))++[93])):=by
 have h1:=h.flat
 have h2:=headB_le 4 ps.length 0
 have h3:=h.levs
 have hs:(Tr.arr false ts).snd Lib.validD=true:=by rw [Tr.snd];exact h.snds
 rw [diagR_enc sq (arr_enc h (by omega)) (by rw [List.length_append];omega) (by rw [Tr.lev];omega),note_txt hs,noteT_arr h.snds]
 rfl
theorem oarr_text (h:PartsOK 20 ps ts) (h8:ps.length≤8):diagR L0 M sq (159::(ps.flatten++[255]))=txt ([91,95,32]++(joinS false 0 (ts.map (noteT M))++[93])):=by
 have h1:=h.flat
 have h3:=h.levs
 have hs:(Tr.arr true ts).snd Lib.validD=true:=by rw [Tr.snd];exact h.snds
 rw [diagR_enc sq (oarr_enc h) (by rw [List.length_cons,List.length_append,List.length_singleton];omega) (by rw [Tr.lev];omega),note_txt hs,noteT_arr h.snds]
 rfl
theorem map_text (h:PartsOK 20 ps ts) (h8:ps.length≤8) (h2:ps.length%2=0):diagR L0 M sq (headB 5 (ps.length/2) 0++ps.flatten)=txt ([123]++(joinS true 0 (ts.map (noteT M))++[125])):=by
 have h1:=h.flat
 have h4:=headB_le 5 (ps.length/2) 0
 have h3:=h.levs
 have hs:(Tr.map false ts).snd Lib.validD=true:=by rw [Tr.snd];exact h.snds
 rw [diagR_enc sq (map_enc h (by omega) h2) (by rw [List.length_append];omega) (by rw [Tr.lev];omega),note_txt hs,noteT_map (by rw [h.len];exact h2) h.snds]
 rfl
theorem omap_text (h:PartsOK 20 ps ts) (h8:ps.length≤8) (h2:ps.length%2=0):diagR L0 M sq (191::(ps.flatten++[255]))=txt ([123,95,32]++(joinS true 0 (ts.map (noteT M))++[125])):=by
 have h1:=h.flat
 have h3:=h.levs
 have hs:(Tr.map true ts).snd Lib.validD=true:=by rw [Tr.snd];exact h.snds
 rw [diagR_enc sq (omap_enc h h2) (by rw [List.length_cons,List.length_append,List.length_singleton];omega) (by rw [Tr.lev];omega),note_txt hs,noteT_map (by rw [h.len];exact h2) h.snds]
 rfl
theorem tag_text {n:Nat} (h:ItemOK 20 p t) (hn:n<18446744073709551616) (hn2: ¬(n=2∨n=3)):diagR L0 M sq (headB 6 n 0++p)=txt (dec n++([40]++(noteT M t++[41]))):=by
 have h1:=h.len
 have h4:=headB_le 6 n 0
 have h3:=h.lev
 have hb:(!(n==2||n==3))=true:=by simp;omega
 have hs:(Tr.tag n t).snd Lib.validD=true:=by unfold Tr.snd;rw [hb,Bool.true_or,Bool.true_and];exact h.snd
 rw [diagR_enc sq (tag_enc h hn) (by rw [List.length_append];omega) (by rw [Tr.lev];omega),note_txt hs,noteT_tag hn2 h.snd]
theorem chk_text {tx:Bool} (h:PartsOK 20 ps ts) (h8:ps.length≤8) (h0:ps≠[]) (hS: ∀t,t∈ts→ ∃s,t= .str tx s):diagR L0 M sq (UInt8.ofNat (majS tx*32+31)::(ps.flatten++[255]))=txt ([40,95,32]++(joinS false 0 (ts.map (noteT M))++[41])):=by
 have h1:=h.flat
 have h3:=h.levs
 have hs:(Tr.chk tx ts).snd Lib.validD=true:=by rw [Tr.snd];exact h.snds
 have hn:ts≠[]:=fun e=>by
  have:=h.len
  rw [e] at this
  exact h0 (List.eq_nil_of_length_eq_zero this.symm)
 rw [diagR_enc sq (chk_enc h hS) (by rw [List.length_cons,List.length_append,List.length_singleton];omega) (by rw [Tr.lev];omega),note_txt hs,noteT_chk hn h.snds]
end
end
section
open Go.RowKit
mutual
theorem allN_imp {p q:Tr→Prop} (h: ∀t,p t→q t): ∀t,AllN p t→AllN q t
 | .int _ _,k=>by rw [AllN] at k ⊢;exact h _ k
 | .str _ _,k=>by rw [AllN] at k ⊢;exact h _ k
 | .prim _ _,k=>by rw [AllN] at k ⊢;exact h _ k
 | .chk _ l,k=>by rw [AllN] at k ⊢;exact ⟨h _ k.1,allNs_imp h l k.2⟩
 | .arr _ l,k=>by rw [AllN] at k ⊢;exact ⟨h _ k.1,allNs_imp h l k.2⟩
 | .map _ l,k=>by rw [AllN] at k ⊢;exact ⟨h _ k.1,allNs_imp h l k.2⟩
 | .tag _ t,k=>by rw [AllN] at k ⊢;exact ⟨h _ k.1,allN_imp h t k.2⟩
theorem allNs_imp {p q:Tr→Prop} (h: ∀t,p t→q t): ∀l,AllNs p l→AllNs q l
 |[],_=>by rw [AllNs];trivial
 |t::l,k=>by rw [AllNs] at k ⊢;exact ⟨allN_imp h t k.1,allNs_imp h l k.2⟩
end
mutual
theorem lev_len {xs:List UInt8}: ∀(t:Tr) (off o:Nat),Enc xs t off o→t.lev≤o-off
 | .int _ _,off,o,h=>by simp [Tr.lev]
 | .str _ _,off,o,h=>by simp [Tr.lev]
 | .prim _ _,off,o,h=>by simp [Tr.lev]
 | .chk tx l,off,o,h=>by
  rw [Enc] at h
  obtain ⟨v,o1,h,hc⟩:=h
  have h1:=(hd_off h).1
  have h2:=chunks_lev tx l _ _ hc
  have h3:=chunks_off tx l _ _ hc
  rw [Tr.lev]
  omega
 | .arr false l,off,o,h=>by
  rw [Enc] at h
  obtain ⟨ai,o1,h,h31,hc⟩:=h
  have h1:=(hd_off h).1
  have h2:=encs_lev l _ _ hc
  have h3:=encs_off l _ _ hc (hd_val h).2
  rw [Tr.lev]
  omega
 | .arr true l,off,o,h=>by
  rw [Enc] at h
  obtain ⟨v,o1,h,hc⟩:=h
  have h1:=(hd_off h).1
  have h2:=opens_lev l _ _ hc
  have h3:=opens_off l _ _ hc
  rw [Tr.lev]
  omega
 | .map false l,off,o,h=>by
  rw [Enc] at h
  obtain ⟨ai,v,o1,h,h31,hv,hc⟩:=h
  have h1:=(hd_off h).1
  have h2:=encs_lev l _ _ hc
  have h3:=encs_off l _ _ hc (hd_val h).2
  rw [Tr.lev]
  omega
 | .map true l,off,o,h=>by
  rw [Enc] at h
  obtain ⟨v,o1,h,_,hc⟩:=h
  have h1:=(hd_off h).1
  have h2:=opens_lev l _ _ hc
  have h3:=opens_off l _ _ hc
  rw [Tr.lev]
  omega
 | .tag n t,off,o,h=>by
  rw [Enc] at h
  obtain ⟨ai,o1,h,hc⟩:=h
  have h1:=(hd_off h).1
  have h2:=lev_len t _ _ hc
  have h3:=enc_off t _ _ hc
  rw [Tr.lev]
  omega
theorem encs_lev {xs:List UInt8}: ∀(l:List Tr) (off o:Nat),Encs xs l off o→Tr.levs l≤o-off
 |[],off,o,h=>by rw [Tr.levs];omega
 |t::l,off,o,h=>by
  rw [Encs] at h
  obtain ⟨mid,h1,h2⟩:=h
  have e1:=lev_len t _ _ h1
  have e2:=encs_lev l _ _ h2
  have e3:=enc_off t _ _ h1
  have e4:=encs_off l _ _ h2 e3.2
  rw [Tr.levs]
  omega
theorem opens_lev {xs:List UInt8}: ∀(l:List Tr) (off o:Nat),Opens xs l off o→Tr.levs l≤o-off
 |[],off,o,h=>by rw [Tr.levs];omega
 |t::l,off,o,h=>by
  rw [Opens] at h
  obtain ⟨b,mid,_,_,h1,h2⟩:=h
  have e1:=lev_len t _ _ h1
  have e2:=opens_lev l _ _ h2
  have e3:=enc_off t _ _ h1
  have e4:=opens_off l _ _ h2
  rw [Tr.levs]
  omega
theorem chunks_lev {xs:List UInt8} (tx:Bool): ∀(l:List Tr) (off o:Nat),Chunks xs tx l off o→Tr.levs l≤o-off
 |[],off,o,h=>by rw [Tr.levs];omega
 |t::l,off,o,h=>by
  rw [Chunks] at h
  obtain ⟨b,mid,_,_,_,h1,h2⟩:=h
  have e1:=lev_len t _ _ h1
  have e2:=chunks_lev tx l _ _ h2
  have e3:=enc_off t _ _ h1
  have e4:=chunks_off tx l _ _ h2
  rw [Tr.levs]
  omega
end
def Held (b:Nat) (w W:World):Prop:=Fr [b] w W∧ ∃a0 a1 a2 a3 a4 a5 a6 a7,W.heap[b]? =some (.cells #[a0,a1,a2,a3,a4,a5,a6,a7] 45 (0,0))
theorem Held.drew {b:Nat} {w W:World} (h:Held b w W):Held b w W.drew:=⟨h.1.drew,h.2⟩
theorem Held.drewN {b:Nat} {w W:World} (h:Held b w W) (n:Nat):Held b w (W.drewN n):=⟨h.1.drewN n,h.2⟩
theorem Held.fr {b:Nat} {w W W':World} (h:Held b w W) (hf:Fr [] W W'):Held b w W':=by
 obtain ⟨h1,a0,a1,a2,a3,a4,a5,a6,a7,h2⟩:=h
 exact ⟨h1.trans (hf.mono (by simp)),a0,a1,a2,a3,a4,a5,a6,a7,hf.blk h2 (by simp)⟩
theorem put8_blk {W:World} {b:Nat} {u0 u1 u2 u3 u4 u5 u6 u7:Value} (h:W.heap[b]? =some (.cells #[u0,u1,u2,u3,u4,u5,u6,u7] 45 (0,0))) (a0 a1 a2 a3 a4 a5 a6 a7:Value):
  (put8 W b a0 a1 a2 a3 a4 a5 a6 a7).heap[b]? =some (.cells #[a0,a1,a2,a3,a4,a5,a6,a7] 45 (0,0)):=by
 have h0:(W.setCell ⟨b,0,none⟩ a0).heap[b]? =some (.cells #[a0,u1,u2,u3,u4,u5,u6,u7] 45 (0,0)):=blk_setCell h 0 a0
 have h1:((W.setCell ⟨b,0,none⟩ a0).setCell ⟨b,1,none⟩ a1).heap[b]? =some (.cells #[a0,a1,u2,u3,u4,u5,u6,u7] 45 (0,0)):=blk_setCell h0 1 a1
 have h2:(((W.setCell ⟨b,0,none⟩ a0).setCell ⟨b,1,none⟩ a1).setCell ⟨b,2,none⟩ a2).heap[b]? =some (.cells #[a0,a1,a2,u3,u4,u5,u6,u7] 45 (0,0)):=blk_setCell h1 2 a2
 have h3:((((W.setCell ⟨b,0,none⟩ a0).setCell ⟨b,1,none⟩ a1).setCell ⟨b,2,none⟩ a2).setCell ⟨b,3,none⟩ a3).heap[b]? =some (.cells #[a0,a1,a2,a3,u4,u5,u6,u7] 45 (0,0)):=blk_setCell h2 3 a3
 have h4:(((((W.setCell ⟨b,0,none⟩ a0).setCell ⟨b,1,none⟩ a1).setCell ⟨b,2,none⟩ a2).setCell ⟨b,3,none⟩ a3).setCell ⟨b,4,none⟩ a4).heap[b]? =some (.cells #[a0,a1,a2,a3,a4,u5,u6,u7] 45 (0,0)):=blk_setCell h3 4 a4
 have h5:((((((W.setCell ⟨b,0,none⟩ a0).setCell ⟨b,1,none⟩ a1).setCell ⟨b,2,none⟩ a2).setCell ⟨b,3,none⟩ a3).setCell ⟨b,4,none⟩ a4).setCell ⟨b,5,none⟩ a5).heap[b]? =some (.cells #[a0,a1,a2,a3,a4,a5,u6,u7] 45 (0,0)):=blk_setCell h4 5 a5
 have h6:(((((((W.setCell ⟨b,0,none⟩ a0).setCell ⟨b,1,none⟩ a1).setCell ⟨b,2,none⟩ a2).setCell ⟨b,3,none⟩ a3).setCell ⟨b,4,none⟩ a4).setCell ⟨b,5,none⟩ a5).setCell ⟨b,6,none⟩ a6).heap[b]? =some (.cells #[a0,a1,a2,a3,a4,a5,a6,u7] 45 (0,0)):=blk_setCell h5 6 a6
 have h7:((((((((W.setCell ⟨b,0,none⟩ a0).setCell ⟨b,1,none⟩ a1).setCell ⟨b,2,none⟩ a2).setCell ⟨b,3,none⟩ a3).setCell ⟨b,4,none⟩ a4).setCell ⟨b,5,none⟩ a5).setCell ⟨b,6,none⟩ a6).setCell ⟨b,7,none⟩ a7).heap[b]? =some (.cells #[a0,a1,a2,a3,a4,a5,a6,a7] 45 (0,0)):=blk_setCell h6 7 a7
 exact h7
theorem Held.put {b:Nat} {w W:World} (h:Held b w W) (a0 a1 a2 a3 a4 a5 a6 a7:Value):Held b w (put8 W b a0 a1 a2 a3 a4 a5 a6 a7):=by
 obtain ⟨h1,u0,u1,u2,u3,u4,u5,u6,u7,h2⟩:=h
 exact ⟨h1.trans (Fr.put8 W b a0 a1 a2 a3 a4 a5 a6 a7),_,_,_,_,_,_,_,_,put8_blk h2 a0 a1 a2 a3 a4 a5 a6 a7⟩
def ItemP (r:Option Tr) (w:World) (e:Ending) (w':World):Prop:=
 ∃g ao n c,e= .returned (.tuple #[.agg (nd g (.slice ao n c)).toArray,.bool r.isSome])∧Fr [] w w'∧ ∀t,r=some t→g=gn t∧ ∃bl,(∀b,b∈bl→w.heap.size≤b∧b<w'.heap.size)∧NdV w' bl g (.slice ao n c)
theorem itemW {xs:List UInt8} {m:Nat} (hm:m≤1000000) (w:World):Calls Tryz.prog 38 #[.string ⟨xs.toArray⟩,.int .i64 (m:Int)] w (ItemP (itemF xs m) w):=by
 by_cases hl:xs.length≤400
 ·have tl: ¬(400:Int)<(xs.length:Int):=by omega
  have K:=Hz (fun w=>one (xs:=xs) (by omega) w)
  go_enter Tryz.func38,Tryz.ntmps38
  go_wp2_with fail
  refine (K.out _).mono ?_
  rintro e w1 ⟨g,kv,he,hf,⟨ao,kn,kc,rfl⟩,hq⟩
  obtain ⟨a0,a1,a2,b0,b1,b2,tx,gks⟩:=g
  rw [nd_mk] at he
  subst he
  obtain ⟨B,hB⟩: ∃B,(oneF xs).isSome=B:=⟨_,rfl⟩
  rw [hB]
  go_wp2_with fail
  have hB2:=hf.blk (blk_new w _) (by simp)
  have hs1:=hf.size
  simp only [World.size_alloc] at hs1
  cases hT:oneF xs with
  |none=>
   rw [hT] at hB
   obtain rfl:false=B:=hB
   clear hq
   obtain ⟨⟨d0,d1,d2,d3,d4,d5,d6,d7⟩,g0,g1,g2,g3,g4,g5,g6,g7⟩:=cells8 (blk_alloc hB2 (.cells #[.int .i64 (a0:Int),.int .u64 (a1:Int),.int .i64 (a2:Int),.bool b0,.bool b1,.bool b2,.string ⟨tx.toArray⟩,.slice ao kn kc] 45))
   clear hB2
   go_region
   go_wp2
   refine bodyPost_ret (v:= .tuple #[.agg #[.int .i64 (a0:Int),.int .u64 (a1:Int),.int .i64 (a2:Int),.bool b0,.bool b1,.bool b2,.string ⟨tx.toArray⟩,.slice ao kn kc],.bool false]) (by simp [results,Tryz.results38,go_sem,d0,d1,d2,d3,d4,d5,d6,d7]) rfl ?_
   have e:itemF xs m=none:=by rw [itemF,if_pos hl,hT];rfl
   rw [e]
   refine ⟨.mk a0 a1 a2 b0 b1 b2 tx gks,ao,kn,kc,rfl,?_,fun t e=>by cases e⟩
   have hF:Fr [] w (w1.alloc (.cells #[.int .i64 (a0:Int),.int .u64 (a1:Int),.int .i64 (a2:Int),.bool b0,.bool b1,.bool b2,.string ⟨tx.toArray⟩,.slice ao kn kc] 45)):=(((Fr.refl _ _).alloc _).trans hf).alloc _
   repeat (first|with_reducible exact hF|with_reducible refine Fr.setCell ?_ (.inr (Nat.le_refl _)) _|with_reducible refine Fr.drew ?_|with_reducible refine Fr.drewN ?_ _)
  |some t=>
   rw [hT] at hB
   obtain rfl:true=B:=hB
   obtain ⟨q2,bl,q4,q5⟩:=hq t hT
   have hE:=oneF_enc (by omega) hT
   have hlv:=lev_len t _ _ hE
   have hfew:AllN (Few 1000000000) t:=allN_imp (fun u hu=>⟨by have:=hu.1;omega,by have:=hu.2;omega⟩) t (enc_few t _ _ hE)
   have hne:w1.heap.size≠w.heap.size:=by omega
   have hx:=blk_new w1 (.cells #[.int .i64 (a0:Int),.int .u64 (a1:Int),.int .i64 (a2:Int),.bool b0,.bool b1,.bool b2,.string ⟨tx.toArray⟩,.slice ao kn kc] 45)
   have hr:=blk_alloc hB2 (.cells #[.int .i64 (a0:Int),.int .u64 (a1:Int),.int .i64 (a2:Int),.bool b0,.bool b1,.bool b2,.string ⟨tx.toArray⟩,.slice ao kn kc] 45)
   have hF2:Fr [] w (w1.alloc (.cells #[.int .i64 (a0:Int),.int .u64 (a1:Int),.int .i64 (a2:Int),.bool b0,.bool b1,.bool b2,.string ⟨tx.toArray⟩,.slice ao kn kc] 45)):=(((Fr.refl _ _).alloc _).trans hf).alloc _
   have hF12:Fr [] w1 (w1.alloc (.cells #[.int .i64 (a0:Int),.int .u64 (a1:Int),.int .i64 (a2:Int),.bool b0,.bool b1,.bool b2,.string ⟨tx.toArray⟩,.slice ao kn kc] 45)):=(Fr.refl _ _).alloc _
   obtain ⟨⟨d0,d1,d2,d3,d4,d5,d6,d7⟩,g0,g1,g2,g3,g4,g5,g6,g7⟩:=cells8 hr
   generalize w1.alloc (.cells #[.int .i64 (a0:Int),.int .u64 (a1:Int),.int .i64 (a2:Int),.bool b0,.bool b1,.bool b2,.string ⟨tx.toArray⟩,.slice ao kn kc] 45)=w2 at *
   have hv2:Held w.heap.size w2 w2:=⟨Fr.refl _ _,_,_,_,_,_,_,_,_,hr⟩
   have KEEP: ∀W,Held w.heap.size w2 W→W.cell? ⟨w1.heap.size,0,none⟩=some (.int .i64 (a0:Int))∧W.cell? ⟨w1.heap.size,1,none⟩=some (.int .u64 (a1:Int))∧W.cell? ⟨w1.heap.size,2,none⟩=some (.int .i64 (a2:Int))∧W.cell? ⟨w1.heap.size,3,none⟩=some (.bool b0)∧W.cell? ⟨w1.heap.size,4,none⟩=some (.bool b1)∧W.cell? ⟨w1.heap.size,5,none⟩=some (.bool b2)∧W.cell? ⟨w1.heap.size,6,none⟩=some (.string ⟨tx.toArray⟩)∧W.cell? ⟨w1.heap.size,7,none⟩=some (.slice ao kn kc):=fun W hW=>by
    have hb:=hW.1.blk hx (by simpa using hne)
    exact (cells8 hb).1
   have ND:Hid (∀W,Fr [w.heap.size] w2 W→ ∃bl,(∀b,b∈bl→w.heap.size≤b∧b<W.heap.size)∧NdV W bl (.mk a0 a1 a2 b0 b1 b2 tx gks) (.slice ao kn kc)):=Hz (fun W hW=>by
    have hX:=(hF12.mono (T:=[w.heap.size]) (by simp)).trans hW
    exact ⟨bl,fun b hb=>⟨by have:=(q4 b hb).1;simp at this;omega,Nat.lt_of_lt_of_le (q4 b hb).2 hX.size⟩,q5.fr (fun b hb=>hX.block b (q4 b hb).2 (by have:=(q4 b hb).1;simp at this ⊢;omega)) (fun b hb=>hb) _ _⟩)
   have KS:Hid (∀W,Held w.heap.size w2 W→Calls Tryz.prog 32 #[.agg #[.int .i64 (a0:Int),.int .u64 (a1:Int),.int .i64 (a2:Int),.bool b0,.bool b1,.bool b2,.string ⟨tx.toArray⟩,.slice ao kn kc]] W fun e w'=>e= .returned (.bool (t.snd Lib.validD))∧Fr [] W w'):=Hz (fun W hW=>by
    have h:=ND.out W hW.1
    rw [q2] at h
    have k:=sound _ t (Nat.le_refl _) hfew W (.slice ao kn kc) (by obtain ⟨bl,h1,h2⟩:=h;exact ⟨bl,fun b hb=>(h1 b hb).2,h2⟩)
    rw [←q2,nd_mk] at k
    exact k)
   have KL:Hid (∀W,Held w.heap.size w2 W→Calls Tryz.prog 53 #[.agg #[.int .i64 (a0:Int),.int .u64 (a1:Int),.int .i64 (a2:Int),.bool b0,.bool b1,.bool b2,.string ⟨tx.toArray⟩,.slice ao kn kc]] W fun e w'=>e= .returned (.int .i64 (t.lev:Int))∧Fr [] W w'):=Hz (fun W hW=>by
    have h:=ND.out W hW.1
    rw [q2] at h
    have k:=levels _ t (Nat.le_refl _) (by omega) hfew W (.slice ao kn kc) (by obtain ⟨bl,h1,h2⟩:=h;exact ⟨bl,fun b hb=>(h1 b hb).2,h2⟩)
    rw [←q2,nd_mk] at k
    exact k)
   obtain ⟨o0,o1,o2,o3,o4,o5,o6,o7⟩:=KEEP w2 hv2
   have fin:Hid (∀W (ok:Bool),Held w.heap.size w2 W→ok=decide (t.snd Lib.validD=true∧t.lev≤m)→ItemP (itemF xs m) w (.returned (.tuple #[.agg #[.int .i64 (a0:Int),.int .u64 (a1:Int),.int .i64 (a2:Int),.bool b0,.bool b1,.bool b2,.string ⟨tx.toArray⟩,.slice ao kn kc],.bool ok])) W):=Hz (fun W ok hW hok=>by
    have e:itemF xs m=if t.snd Lib.validD=true∧t.lev≤m then some t else none:=by rw [itemF,if_pos hl,hT];rfl
    have e2:(itemF xs m).isSome=ok:=by rw [e,hok];split<;>simp_all
    refine ⟨.mk a0 a1 a2 b0 b1 b2 tx gks,ao,kn,kc,by rw [nd_mk,e2],hF2.then_ hW.1 (by simp),fun u hu=> ?_⟩
    rw [e] at hu
    split at hu
    ·injection hu with hu
     subst hu
     exact ⟨q2,ND.out W hW.1⟩
    ·cases hu)
   replace KEEP:=Hz KEEP
   replace hx:=Hz hx
   replace hr:=Hz hr
   clear hE hfew hF12 hB2 hq q2 q4 q5 hT hlv
   cases hS:t.snd Lib.validD with
   |false=>
    rw [hS] at KS fin
    clear KL
    first
     |go_region_with (go_at_call 32;refine (KS.out _ (Held.drewN hv2 1)).mono ?_;rintro e wA ⟨rfl,hfA0⟩;have hvA:=Held.fr (Held.drewN hv2 1) hfA0;have hbA:=hfA0.blk (show (World.drewN w2 1).heap[_]? =_ from hr.out) (by simp);obtain ⟨⟨y0,y1,y2,y3,y4,y5,y6,y7⟩,z0,z1,z2,z3,z4,z5,z6,z7⟩:=cells8 hbA;obtain ⟨p0,p1,p2,p3,p4,p5,p6,p7⟩:=KEEP.out _ hvA)
     |fail
    all_goals
     go_wp2
     refine bodyPost_ret (v:= .tuple #[.agg #[.int .i64 (a0:Int),.int .u64 (a1:Int),.int .i64 (a2:Int),.bool b0,.bool b1,.bool b2,.string ⟨tx.toArray⟩,.slice ao kn kc],.bool false]) (by simp [results,Tryz.results38,go_sem, *]) rfl ?_
     exact fin.out _ _ (Held.put hvA _ _ _ _ _ _ _ _) (by simp)
   |true=>
    rw [hS] at KS fin
    by_cases hml:t.lev≤m
    ·have tm:(t.lev:Int)≤(m:Int):=by omega
     have hfin:Hid (true=decide (true=true∧t.lev≤m)):=Hz (by simp [hml])
     clear hml
     first
      |go_region_held3 (fun w'=>w'.cell? ⟨w1.heap.size,0,none⟩=some (.int .i64 (a0:Int))∧w'.cell? ⟨w1.heap.size,1,none⟩=some (.int .u64 (a1:Int))∧w'.cell? ⟨w1.heap.size,2,none⟩=some (.int .i64 (a2:Int))∧w'.cell? ⟨w1.heap.size,3,none⟩=some (.bool b0)∧w'.cell? ⟨w1.heap.size,4,none⟩=some (.bool b1)∧w'.cell? ⟨w1.heap.size,5,none⟩=some (.bool b2)∧w'.cell? ⟨w1.heap.size,6,none⟩=some (.string ⟨tx.toArray⟩)∧w'.cell? ⟨w1.heap.size,7,none⟩=some (.slice ao kn kc)) (first|with_reducible exact KEEP.out _ hvB|with_reducible exact KEEP.out _ hvA|with_reducible exact KEEP.out _ (Held.drewN hv2 1)|with_reducible exact KEEP.out _ (Held.drew hv2)|exact KEEP.out _ (Held.put hvB _ _ _ _ _ _ _ _)|exact KEEP.out _ (Held.put hvA _ _ _ _ _ _ _ _)|go_keep) (first|(go_at_call 32;refine (KS.out _ (Held.drewN hv2 1)).mono ?_;rintro e wA ⟨rfl,hfA0⟩;have hvA:=Held.fr (Held.drewN hv2 1) hfA0;have hbA:=hfA0.blk (show (World.drewN w2 1).heap[_]? =_ from hr.out) (by simp);obtain ⟨⟨y0,y1,y2,y3,y4,y5,y6,y7⟩,z0,z1,z2,z3,z4,z5,z6,z7⟩:=cells8 hbA)|(go_at_call 53;refine (KL.out _ hvA).mono ?_;rintro e wB ⟨rfl,hfB0⟩;have hvB:=Held.fr hvA hfB0;obtain ⟨⟨x0,x1,x2,x3,x4,x5,x6,x7⟩,s0,s1,s2,s3,s4,s5,s6,s7⟩:=cells8 (hfB0.blk hbA (by simp))))
      |fail
     all_goals
      go_wp2
      refine bodyPost_ret (v:= .tuple #[.agg #[.int .i64 (a0:Int),.int .u64 (a1:Int),.int .i64 (a2:Int),.bool b0,.bool b1,.bool b2,.string ⟨tx.toArray⟩,.slice ao kn kc],.bool true]) (by simp [results,Tryz.results38,go_sem, *]) rfl ?_
      exact fin.out _ _ (Held.put hvB _ _ _ _ _ _ _ _) hfin.out
    ·have tm: ¬(t.lev:Int)≤(m:Int):=by omega
     have tm2:m<t.lev:=by omega
     have hfin:Hid (false=decide (true=true∧t.lev≤m)):=Hz (by simp;omega)
     clear hml
     first
      |go_region_held3 (fun w'=>w'.cell? ⟨w1.heap.size,0,none⟩=some (.int .i64 (a0:Int))∧w'.cell? ⟨w1.heap.size,1,none⟩=some (.int .u64 (a1:Int))∧w'.cell? ⟨w1.heap.size,2,none⟩=some (.int .i64 (a2:Int))∧w'.cell? ⟨w1.heap.size,3,none⟩=some (.bool b0)∧w'.cell? ⟨w1.heap.size,4,none⟩=some (.bool b1)∧w'.cell? ⟨w1.heap.size,5,none⟩=some (.bool b2)∧w'.cell? ⟨w1.heap.size,6,none⟩=some (.string ⟨tx.toArray⟩)∧w'.cell? ⟨w1.heap.size,7,none⟩=some (.slice ao kn kc)) (first|with_reducible exact KEEP.out _ hvB|with_reducible exact KEEP.out _ hvA|with_reducible exact KEEP.out _ (Held.drewN hv2 1)|with_reducible exact KEEP.out _ (Held.drew hv2)|exact KEEP.out _ (Held.put hvB _ _ _ _ _ _ _ _)|exact KEEP.out _ (Held.put hvA _ _ _ _ _ _ _ _)|go_keep) (first|(go_at_call 32;refine (KS.out _ (Held.drewN hv2 1)).mono ?_;rintro e wA ⟨rfl,hfA0⟩;have hvA:=Held.fr (Held.drewN hv2 1) hfA0;have hbA:=hfA0.blk (show (World.drewN w2 1).heap[_]? =_ from hr.out) (by simp);obtain ⟨⟨y0,y1,y2,y3,y4,y5,y6,y7⟩,z0,z1,z2,z3,z4,z5,z6,z7⟩:=cells8 hbA)|(go_at_call 53;refine (KL.out _ hvA).mono ?_;rintro e wB ⟨rfl,hfB0⟩;have hvB:=Held.fr hvA hfB0;obtain ⟨⟨x0,x1,x2,x3,x4,x5,x6,x7⟩,s0,s1,s2,s3,s4,s5,s6,s7⟩:=cells8 (hfB0.blk hbA (by simp))))
      |fail
     all_goals
      go_wp2
      refine bodyPost_ret (v:= .tuple #[.agg #[.int .i64 (a0:Int),.int .u64 (a1:Int),.int .i64 (a2:Int),.bool b0,.bool b1,.bool b2,.string ⟨tx.toArray⟩,.slice ao kn kc],.bool false]) (by simp [results,Tryz.results38,go_sem, *]) rfl ?_
      exact fin.out _ _ (Held.put hvB _ _ _ _ _ _ _ _) hfin.out
 ·have tl:(400:Int)<(xs.length:Int):=by omega
  obtain ⟨⟨d0,d1,d2,d3,d4,d5,d6,d7⟩,g0,g1,g2,g3,g4,g5,g6,g7⟩:=cells8 (blk_new w (.cells #[.int .i64 0,.int .u64 0,.int .i64 0,.bool false,.bool false,.bool false,.string ⟨#[]⟩,.slice none 0 0] 45))
  go_enter Tryz.func38,Tryz.ntmps38
  go_wp2
  refine bodyPost_ret (v:= .tuple #[.agg #[.int .i64 0,.int .u64 0,.int .i64 0,.bool false,.bool false,.bool false,.string ⟨#[]⟩,.slice none 0 0],.bool false]) (by simp [results,Tryz.results38,go_sem,d0,d1,d2,d3,d4,d5,d6,d7]) rfl ?_
  have e:itemF xs m=none:=by rw [itemF,if_neg hl]
  rw [e]
  exact ⟨.mk 0 0 0 false false false [] [],none,0,0,rfl,(Fr.refl _ _).alloc _,fun t e=>by cases e⟩
end
section
open Go.RowKit
def encS (ss:List (List UInt8)):List Value:=ss.map fun s=> .string ⟨s.toArray⟩
def SRow (w:World) (B:Nat) (v:Value) (ss:List (List UInt8)):Prop:=w.ownsRow B 9 1 v ss.length (encS ss)
theorem SRow.nil (w:World) (B:Nat):SRow w B (.slice none 0 0) []:=World.ownsRow_nil _ _ _ _
theorem SRow.fr {w w':World} {B:Nat} {v:Value} {ss:List (List UInt8)} {S:List Nat} (h:SRow w B v ss) (hf:Fr S w w') (hs: ∀k,k∈S→k<B):SRow w' B v ss:=
 hf.own h (fun k hk hm=>by have:=(World.ownsRow.lt h k hk).1;have:=hs k hm;omega)
theorem SRow.shape {w:World} {B:Nat} {v:Value} {ss:List (List UInt8)} (h:SRow w B v ss): ∃ao n c,v= .slice ao n c:=by
 rcases h.2 with ⟨hv,_⟩|⟨g,cap,cur,hv,_⟩
 ·exact ⟨_,_,_,hv⟩
 ·exact ⟨_,_,_,hv⟩
theorem SRow.strs {w:World} {B:Nat} {v:Value} {ss:List (List UInt8)} (h:SRow w B v ss):Strs w v ss:=by
 rcases h.2 with ⟨hv,h0⟩|⟨g,cap,cur,hv,hb,hg,h1,h2,h3⟩
 ·exact .inl ⟨List.eq_nil_of_length_eq_zero h0,none,0,hv⟩
 ·refine .inr ⟨g,0,cap,hv,h1,fun j hj=> ?_⟩
  have:=World.ownsRow.cells (g:=g) h (by rw [hv];rfl) j (.string ⟨ss[j].toArray⟩) (by simp [encS,hj])
  have ha:(⟨g,0,none⟩:Addr).add j=⟨g,0+j,none⟩:=by unfold Addr.add;split<;>simp_all
  rwa [ha] at this
theorem encS_one (ss:List (List UInt8)): ∀u∈encS ss,u.oneCell'=true:=by
 intro u hu
 simp only [encS,List.mem_map] at hu
 obtain ⟨b,_,rfl⟩:=hu
 rfl
theorem wpList_apS {w:World} {ops:Array Oper} {rest:List Oper} {o:Oper} {a:Act} {Q:Exit→Act→World→Prop} (hgd:o.guard=none) (x y:Operand) (ho:o.op= .call {callee:= .builtin .append,args:= #[x,y],argTypes:= #[22,22]})
  {B:Nat} (v:Value) (ss:List (List UInt8)) (s:List UInt8) (b c:Nat) (hs:a.eval x=v) (hx:a.eval y= .slice (some ⟨b,0,none⟩) 1 c) (hr:w.cell? ⟨b,0,none⟩=some (.string ⟨s.toArray⟩)) (hown:SRow w B v ss) (hB:B≤w.heap.size) (hl:ss.length+1≤8000000000)
  (h: ∀v' w',SRow w' B v' (ss++[s])→w.grownBy w' v.ownBlock→wpList Tryz.prog ops Q rest (a.put o.dst v') w'):wpList Tryz.prog ops Q (o::rest) a w:=by
 have hinfo:(Tryz.prog.info? 9).map (fun i=>(i.zero,i.size,i.bytes))=some (some (.string ⟨#[]⟩),1,16):=by kernel_rfl
 obtain ⟨i0,hi,hzz⟩:=Option.map_eq_some_iff.1 hinfo
 simp only [Prod.mk.injEq] at hzz
 obtain ⟨hz0,hz1,hz2⟩:=hzz
 have hcell: ∀j u,(encS [s])[j]? =some u→w.cell? ((⟨b,0,none⟩:Addr).add j)=some u:=fun j u hu=>by
  have hj:j=0:=by
   have:=(List.getElem?_eq_some_iff.1 hu).1
   simp [encS] at this
   exact this
  subst hj
  have ha:(⟨b,0,none⟩:Addr).add 0=⟨b,0,none⟩:=by unfold Addr.add;split<;>simp_all
  rw [ha,hr]
  simpa [encS] using hu
 refine wpList_append_own (w:=w) hgd x y 22 ho B 9 i0 (.string ⟨#[]⟩) 1 16 Tryz.underlying22 hi hz0 hz1 hz2 rfl (by decide) v ss.length (encS ss) hs hown ⟨b,0,none⟩ 1 c (encS [s]) hx rfl hcell (encS_one [s]) (by simp only [maxLen];omega) (by omega) hB ?_
 intro v' w' h1 h2 _
 have e:encS ss++encS [s]=encS (ss++[s]):=by simp [encS]
 rw [e] at h1
 exact h v' w' (by unfold SRow;rw [List.length_append];exact h1) h2
end
section
open Go.RowKit
theorem byF_sq (L:Lim) (e:Nat) (sp tx em s s' pr:Bool): ∀n,byF L ⟨e,sp,tx,em,s,pr⟩ n=byF L ⟨e,sp,tx,em,s',pr⟩ n
 |0=>by funext b;rw [byF,byF]
 |n+1=>by funext b;rw [byF,byF,byF_sq L e sp tx em s s' pr n];rfl
theorem ntA_sq (L:Lim) (e:Nat) (sp tx em s s' pr:Bool):ntA L ⟨e,sp,tx,em,s,pr⟩=ntA L ⟨e,sp,tx,em,s',pr⟩:=by
 unfold ntA
 have:byA L ⟨e,sp,tx,em,s,pr⟩=byA L ⟨e,sp,tx,em,s',pr⟩:=by
  funext b
  unfold byA
  rw [byF_sq L e sp tx em s s' pr]
 rw [this]
 rfl
theorem noteT_sq (e:Nat) (sp tx em s s' pr:Bool) (t:Tr):noteT ⟨e,sp,tx,em,s,pr⟩ t=noteT ⟨e,sp,tx,em,s',pr⟩ t:=by
 unfold noteT
 rw [ntA_sq L0 e sp tx em s s' pr]
section
variable {M:Md} {m:Nat}
theorem seqF_parts (hm:m≤32): ∀{ps:List (List UInt8)} {ts:List Tr},PartsOK m ps ts→ ∀(pre:List UInt8) (n j:Nat) (first:Bool),first=(j==0)→(pre++ps.flatten).length≤131072→ps.flatten.length<n→(ps=[]→j≠0)→
  seqF L0 (ntA L0 M) (pre++ps.flatten) n first pre.length=txt (joinS false j (ts.map (noteT M)))
 |[],[],_,pre,n,j,first,hf,hl,hn,hj=>by
  obtain ⟨k,rfl⟩: ∃k,n=k+1:=⟨n-1,by omega⟩
  have h0:(j==0)=false:=by simpa using hj rfl
  rw [seqF,if_pos (by simp),hf,h0]
  rfl
 |p::ps,t::ts,h,pre,n,j,first,hf,hl,hn,hj=>by
  obtain ⟨k,rfl⟩: ∃k,n=k+1:=⟨n-1,by omega⟩
  have hp:=enc_lt h.1.enc
  have he:=enc_at h.1.enc pre ps.flatten
  rw [List.flatten_cons] at hl hn ⊢
  rw [List.length_append] at hn
  have ih:=seqF_parts hm h.2 (pre++p) k (j+1) false rfl (by rw [List.append_assoc];exact hl) (by omega) (fun _=>by omega)
  rw [List.append_assoc,List.length_append] at ih
  rw [seqF,if_neg (by simp;omega),itemR_enc he hl (Nat.le_trans h.1.lev hm)]
  dsimp only
  rw [ih,note_txt h.1.snd,List.map_cons,joinS]
  have e:sepS false j=if first then [] else [44,32]:=by
   unfold sepS
   rw [hf]
   by_cases h0:j=0
   ·subst h0;rfl
   ·simp [h0,Nat.pos_of_ne_zero h0]
  rw [e]
  rfl
 |[],t::ts,h,_,_,_,_,_,_,_,_=>h.elim
 |p::ps,[],h,_,_,_,_,_,_,_,_=>h.elim
theorem seq_text {ps:List (List UInt8)} {ts:List Tr} (h:PartsOK 20 ps ts) (h8:ps.length≤8) (h0:ps≠[]):diagR L0 M true ps.flatten=txt (joinS false 0 (ts.map (noteT M))):=by
 have h1:=h.flat
 have:=seqF_parts (M:=M) (by omega) h [] (ps.flatten.length+1) 0 true rfl (by rw [List.nil_append];omega) (by omega) (fun e=>absurd e h0)
 unfold diagR
 rw [if_pos rfl]
 exact this
theorem seq_more {p q:List UInt8} {ps:List (List UInt8)} {t u:Tr} {ts:List Tr} (h:PartsOK 20 (p::q::ps) (t::u::ts)) (h8:(p::q::ps).length≤8):diagR L0 M false (p::q::ps).flatten=([],some 4):=by
 have h1:=h.flat
 have hp:=enc_lt h.1.enc
 have hq:=enc_lt h.2.1.enc
 have he:=enc_at h.1.enc [] (q::ps).flatten
 simp only [List.nil_append,List.length_nil,Nat.zero_add] at he
 have e:(p::q::ps).flatten=p++(q::ps).flatten:=rfl
 rw [e] at h1 ⊢
 have hi:=itemR_enc he (by simp only [List.length_cons] at h1 h8;omega) (Nat.le_trans h.1.lev (by omega))
 have hl:p.length≠(p++(q::ps).flatten).length:=by rw [List.length_append,List.flatten_cons,List.length_append];omega
 unfold diagR
 rw [if_neg (by simp)]
 unfold oneR
 rw [if_neg (List.ne_nil_of_length_pos (by rw [List.length_append];omega)),hi]
 dsimp only
 rw [if_neg hl]
theorem str_enc (b:List UInt8) (hb:b.length≤100000):Enc (headB 2 b.length 0++b) (.str false b) 0 (headB 2 b.length 0++b).length:=by
 obtain ⟨ai,hh,ha⟩:=hd_headB 2 b.length 0 (by omega) (by omega) [] b
 rw [List.nil_append,List.length_nil,Nat.zero_add] at hh
 rw [Enc]
 refine ⟨ai,b.length,_,hh,by omega,by simp,by omega,by simp,?_⟩
 rw [List.drop_left,List.take_length]
theorem str_text {sq:Bool} (b:List UInt8) (hb:b.length≤100000):diagR L0 M sq (headB 2 b.length 0++b)=txt (byA L0 M b):=by
 have h2:=headB_le 2 b.length 0
 rw [diagR_enc sq (str_enc b hb) (by rw [List.length_append];omega) (by simp [Tr.lev]),note]
 rfl
theorem by_item {p:List UInt8} {t:Tr} (h:ItemOK 20 p t) (htx:M.tx=false) (hem:M.em=true):byA L0 M p=[60,60]++(noteT M t++[62,62]):=by
 have h1:=h.len
 have hp:=enc_lt h.enc
 have hs:seqR L0 (ntA L0 M) p=txt (noteT M t):=by
  have:=item_text (M:=M) (sq:=true) h (by omega)
  unfold diagR at this
  rwa [if_pos rfl] at this
 rw [byA_eq _ _ _ (by omega),htx,if_neg (by simp),hs,if_pos ⟨List.ne_nil_of_length_pos hp,hem,rfl⟩]
 rfl
theorem itemR_no {p:List UInt8} (hl:p.length≤131072) (h:treeF p 200 0=none): ∃k,itemR L0 p 0= .error k:=by
 cases hi:itemR L0 p 0 with
 |error k=>exact ⟨k,rfl⟩
 |ok q=>
  obtain ⟨t,o⟩:=q
  obtain ⟨h1,h2,h3,_⟩:=itemR_ok (by omega) hi
  have h4:=ht_dp t
  have h5:t.dp≤32:=h3
  have:=enc_tree t 200 0 o h1 (by split at h4<;>omega)
  rw [h] at this
  cases this
theorem by_none {p:List UInt8} (hl:p.length≤131072) (h:treeF p 200 0=none) (htx:M.tx=false):byA L0 M p=noteB M.enc M.sp p:=by
 rw [byA_eq _ _ _ (by omega),htx,if_neg (by simp),if_neg]
 rintro ⟨h0,_,h2⟩
 obtain ⟨k,hk⟩:=itemR_no hl h
 have hp:=List.length_pos_iff.2 h0
 unfold seqR at h2
 rw [seqF,if_neg (by omega),hk] at h2
 cases h2
end
end
end Go.Proofs.YteodinhkhhaafaaGreatDoor
