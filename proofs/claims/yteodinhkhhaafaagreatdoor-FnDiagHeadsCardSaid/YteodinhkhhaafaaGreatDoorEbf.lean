/- Walks of the program, and plain facts. -/
import Derived.Test.YteodinhkhhaafaaGreatDoorEbe
set_option linter.unusedVariables false
set_option linter.unusedSimpArgs false
set_option maxRecDepth 100000
set_option maxHeartbeats 6400000
namespace Go.Proofs.YteodinhkhhaafaaGreatDoor
section
set_option exponentiation.threshold 3000
open Go.RowKit
def CC:Nat:=4000000
def sumR:List R→Nat
 |[]=>0
 |r::l=>r.1.length+2+sumR l
theorem thenR_len (a b:R):(thenR a b).1.length≤a.1.length+b.1.length:=by
 obtain ⟨s,q⟩:=a;cases q<;>simp [thenR]
theorem txt_len (s:List UInt8):(txt s).1.length=s.length:=rfl
theorem arrR_len (c:List UInt8): ∀(l:List R) (i:Nat),(arrR c i l).1.length≤c.length+sumR l
 |[],i=>by rw [arrR,txt_len];omega
 |r::l,i=>by
  have h1:=arrR_len c l (i+1);have h2:=thenR_len (txt (if i=0 then [] else [44,32])) (thenR r (arrR c (i+1) l))
  have h3:=thenR_len r (arrR c (i+1) l);have h4:(txt (if i=0 then [] else [44,32])).1.length≤2:=by rw [txt_len];split<;>simp
  rw [arrR,sumR];omega
theorem mapR_len (c:List UInt8): ∀(l:List R) (i:Nat),(mapR c i (pairs l)).1.length≤c.length+sumR l
 |[],i=>by show (mapR c i []).1.length≤_;rw [mapR,txt_len];omega
 |[a],i=>by show (mapR c i []).1.length≤_;rw [mapR,txt_len];omega
 |a::b::l,i=>by
  have h1:=mapR_len c l (i+1);rw [pairs,mapR,sumR,sumR];have h2:=thenR_len (txt (if i=0 then [] else [44,32])) (thenR a (thenR (txt [58,32]) (thenR b (mapR c (i+1) (pairs l)))))
  have h3:=thenR_len a (thenR (txt [58,32]) (thenR b (mapR c (i+1) (pairs l))));have h4:=thenR_len (txt [58,32]) (thenR b (mapR c (i+1) (pairs l)));have h5:=thenR_len b (mapR c (i+1) (pairs l));have h6:(txt (if i=0 then [] else [44,32])).1.length≤2:=by rw [txt_len];split<;>simp
  have h7:(txt [58,32]).1.length=2:=rfl;omega
theorem hd_ai {xs:List UInt8} {off m ai v o:Nat} (h:hd xs off= .ok (m,ai,v,o)) (h1:24≤ai) (h2:ai<28):v<256^2^(ai-24):=by
 unfold hd at h
 split at h
 ·cases h
 ·rename_i b e
  split at h
  ·cases h;omega
  ·split at h
   ·split at h
    ·cases h
    ·split at h
     ·cases h
     ·cases h
      have:=be_lt ((xs.drop (off+1)).take (2^(b.toNat%32-24)));refine Nat.lt_of_lt_of_le this (Nat.pow_le_pow_right (by decide) ?_)
      rw [List.length_take];omega
   ·split at h
    ·split at h
     ·cases h
     ·cases h;omega
    ·cases h
theorem hd_fl {xs:List UInt8} {off m ai v o:Nat} (h:hd xs off= .ok (m,ai,v,o)) (ha:ai=25∨ai=26∨ai=27):v<if ai=25 then 65536 else if ai=26 then 4294967296 else 18446744073709551616:=by
 have:=hd_ai h (by omega) (by omega)
 rcases ha with rfl|rfl|rfl
 ·exact this
 ·exact this
 ·exact this
structure NLen (N:Nt):Prop where
 tx: ∀b,(N.tx b).1.length+2≤CC*(b.length+1)
 fl: ∀ai v,(ai=25∨ai=26∨ai=27)→(v<if ai=25 then 65536 else if ai=26 then 4294967296 else 18446744073709551616)→(N.fl ai v).length+2≤CC
 big: ∀xs n t off o,Enc xs t off o→(N.big n t).1.length+2≤CC*(o-off)
theorem dec20 {n:Nat} (h:n<18446744073709551616):(dec n).length≤20:=dec_length n 20 (by omega) (by omega)
mutual
theorem note_len {xs:List UInt8} {N:Nt} (hN:NLen N): ∀(t:Tr) (off o:Nat),Enc xs t off o→AllS (fun b=>(N.by_ b).length+2≤CC*(b.length+1)) t→(note N t).1.length+2≤CC*(o-off)
 | .int false n,off,o,h,hs=>by
  rw [Enc] at h;obtain ⟨ai,h⟩:=h;have h1:=(hd_off h).1;have h2:=dec20 (hd_val h).1;have h3:CC*1≤CC*(o-off):=Nat.mul_le_mul_left _ (by omega)
  unfold CC at *
  rw [note,txt_len];omega
 | .int true n,off,o,h,hs=>by
  rw [Enc] at h;obtain ⟨ai,h⟩:=h;have h1:=(hd_off h).1;have h2:=(hd_val h).1;have h4:=dec_length (n+1) 20 (by omega) (by omega)
  have h3:CC*1≤CC*(o-off):=Nat.mul_le_mul_left _ (by omega)
  unfold CC at *
  rw [note,txt_len,List.length_cons];omega
 | .str false b,off,o,h,hs=>by
  rw [AllS] at hs;rw [Enc] at h;obtain ⟨ai,v,o1,h,_,hv,_,rfl,hb⟩:=h;have hl:b.length=v:=by rw [hb];simp;omega
  have h1:=(hd_off h).1;have h3:CC*(b.length+1)≤CC*(o1+v-off):=Nat.mul_le_mul_left _ (by omega)
  rw [note,txt_len];omega
 | .str true b,off,o,h,hs=>by
  rw [Enc] at h;obtain ⟨ai,v,o1,h,_,hv,_,rfl,hb⟩:=h;have hl:b.length=v:=by rw [hb];simp;omega
  have h1:=(hd_off h).1;have h3:CC*(b.length+1)≤CC*(o1+v-off):=Nat.mul_le_mul_left _ (by omega)
  have:=hN.tx b;rw [note];omega
 | .chk tx [],off,o,h,hs=>by
  rw [Enc] at h;obtain ⟨v,o1,h,hc⟩:=h;have h1:=(hd_off h).1;have h2:=chunks_off tx [] _ _ hc;have h3:CC*1≤CC*(o-off):=Nat.mul_le_mul_left _ (by simp at h2;omega)
  unfold CC at *
  rw [note,txt_len]
  split<;>(simp;omega)
 | .chk tx (t::l),off,o,h,hs=>by
  rw [Enc] at h;obtain ⟨v,o1,h,hc⟩:=h;have h1:=(hd_off h).1;rw [AllS] at hs;have h4:=chunks_len hN tx (t::l) _ _ hc hs;rw [notes] at h4;have h2:=chunks_off tx (t::l) _ _ hc;have h5:=thenR_len (txt [40,95,32]) (arrR [41] 0 (note N t::notes N l));have h6:=arrR_len [41] (note N t::notes N l) 0;have h7:(txt [40,95,32]).1.length=3:=rfl;have h8:([41]:List UInt8).length=1:=rfl;have h9:CC*(o-o1)+CC*1≤CC*(o-off):=by rw [←Nat.mul_add];exact Nat.mul_le_mul_left _ (by omega)
  unfold CC at *
  rw [note];omega
 | .arr false l,off,o,h,hs=>by
  rw [Enc] at h;obtain ⟨ai,o1,h,h31,hc⟩:=h;have h1:=(hd_off h).1;rw [AllS] at hs;have h4:=encs_len hN l _ _ hc (hd_val h).2 hs;have h2:=encs_off l _ _ hc (hd_val h).2;have h5:=thenR_len (txt (if false=true then [91,95,32] else [91])) (arrR [93] 0 (notes N l))
  have h6:=arrR_len [93] (notes N l) 0;have h7:(txt (if false=true then [91,95,32] else [91])).1.length=1:=rfl
  have h8:([93]:List UInt8).length=1:=rfl;have h9:CC*(o-o1)+CC*1≤CC*(o-off):=by rw [←Nat.mul_add];exact Nat.mul_le_mul_left _ (by omega)
  unfold CC at *
  rw [note];omega
 | .arr true l,off,o,h,hs=>by
  rw [Enc] at h;obtain ⟨v,o1,h,hc⟩:=h;have h1:=(hd_off h).1;rw [AllS] at hs;have h4:=opens_len hN l _ _ hc hs;have h2:=opens_off l _ _ hc;have h5:=thenR_len (txt (if true=true then [91,95,32] else [91])) (arrR [93] 0 (notes N l))
  have h6:=arrR_len [93] (notes N l) 0;have h7:(txt (if true=true then [91,95,32] else [91])).1.length=3:=rfl
  have h8:([93]:List UInt8).length=1:=rfl;have h9:CC*(o-o1)+CC*1≤CC*(o-off):=by rw [←Nat.mul_add];exact Nat.mul_le_mul_left _ (by omega)
  unfold CC at *
  rw [note];omega
 | .map false l,off,o,h,hs=>by
  rw [Enc] at h;obtain ⟨ai,v,o1,h,h31,hv,hc⟩:=h;have h1:=(hd_off h).1;rw [AllS] at hs;have h4:=encs_len hN l _ _ hc (hd_val h).2 hs;have h2:=encs_off l _ _ hc (hd_val h).2;have h5:=thenR_len (txt (if false=true then [123,95,32] else [123])) (mapR [125] 0 (pairs (notes N l)))
  have h6:=mapR_len [125] (notes N l) 0;have h7:(txt (if false=true then [123,95,32] else [123])).1.length=1:=rfl
  have h8:([125]:List UInt8).length=1:=rfl;have h9:CC*(o-o1)+CC*1≤CC*(o-off):=by rw [←Nat.mul_add];exact Nat.mul_le_mul_left _ (by omega)
  unfold CC at *
  rw [note];omega
 | .map true l,off,o,h,hs=>by
  rw [Enc] at h;obtain ⟨v,o1,h,h2l,hc⟩:=h;have h1:=(hd_off h).1;rw [AllS] at hs;have h4:=opens_len hN l _ _ hc hs;have h2:=opens_off l _ _ hc;have h5:=thenR_len (txt (if true=true then [123,95,32] else [123])) (mapR [125] 0 (pairs (notes N l)))
  have h6:=mapR_len [125] (notes N l) 0;have h7:(txt (if true=true then [123,95,32] else [123])).1.length=3:=rfl
  have h8:([125]:List UInt8).length=1:=rfl;have h9:CC*(o-o1)+CC*1≤CC*(o-off):=by rw [←Nat.mul_add];exact Nat.mul_le_mul_left _ (by omega)
  unfold CC at *
  rw [note];omega
 | .tag n t,off,o,h,hs=>by
  rw [Enc] at h;obtain ⟨ai,o1,h,hc⟩:=h;have h1:=(hd_off h).1;rw [AllS] at hs;have h2:=enc_off t _ _ hc;have h9:CC*(o-o1)+CC*1≤CC*(o-off):=by rw [←Nat.mul_add];exact Nat.mul_le_mul_left _ (by omega)
  rw [note]
  split
  ·have:=hN.big xs n t o1 o hc;omega
  ·have h4:=note_len hN t _ _ hc hs;have h3:=dec20 (hd_val h).1;have h5:=thenR_len (txt (dec n)) (thenR (txt [40]) (thenR (note N t) (txt [41])));have h6:=thenR_len (txt [40]) (thenR (note N t) (txt [41]));have h7:=thenR_len (note N t) (txt [41]);have h8:(txt [40]).1.length=1:=rfl;have h10:(txt [41]).1.length=1:=rfl;rw [txt_len] at h5;unfold CC at *
   omega
 | .prim ai v,off,o,h,hs=>by
  rw [Enc] at h;have h1:=(hd_off h).1;have h3:=dec20 (hd_val h).1;have h9:CC*1≤CC*(o-off):=Nat.mul_le_mul_left _ (by omega)
  rw [note];unfold primT
  split
  ·rw [txt_len];unfold CC at *;simp;omega
  ·split
   ·rw [txt_len];unfold CC at *;simp;omega
   ·split
    ·rw [txt_len];unfold CC at *;simp;omega
    ·split
     ·rw [txt_len];unfold CC at *;simp;omega
     ·split
      ·rename_i ha;have:=hN.fl ai v ha (hd_fl h ha);rw [txt_len];omega
      ·have h5:=thenR_len (txt [115,105,109,112,108,101,40]) (thenR (txt (dec v)) (txt [41]));have h6:=thenR_len (txt (dec v)) (txt [41]);have h7:(txt [115,105,109,112,108,101,40]).1.length=7:=rfl;have h8:(txt [41]).1.length=1:=rfl;rw [txt_len] at h6;unfold CC at *
       omega
theorem encs_len {xs:List UInt8} {N:Nt} (hN:NLen N): ∀(l:List Tr) (off o:Nat),Encs xs l off o→off≤xs.length→AllSs (fun b=>(N.by_ b).length+2≤CC*(b.length+1)) l→sumR (notes N l)≤CC*(o-off)
 |[],off,o,h,_,hs=>by rw [notes,sumR];omega
 |t::l,off,o,h,hx,hs=>by
  rw [Encs] at h;rw [AllSs] at hs;obtain ⟨mid,h1,h2⟩:=h;have e1:=enc_off t _ _ h1;have e2:=encs_off l _ _ h2 e1.2;have g1:=note_len hN t _ _ h1 hs.1;have g2:=encs_len hN l _ _ h2 e1.2 hs.2;have h9:CC*(mid-off)+CC*(o-mid)=CC*(o-off):=by rw [←Nat.mul_add];congr 1;omega
  rw [notes,sumR];omega
theorem opens_len {xs:List UInt8} {N:Nt} (hN:NLen N): ∀(l:List Tr) (off o:Nat),Opens xs l off o→AllSs (fun b=>(N.by_ b).length+2≤CC*(b.length+1)) l→sumR (notes N l)≤CC*(o-off)
 |[],off,o,h,hs=>by rw [notes,sumR];omega
 |t::l,off,o,h,hs=>by
  rw [Opens] at h;rw [AllSs] at hs;obtain ⟨b,mid,_,_,h1,h2⟩:=h;have e1:=enc_off t _ _ h1;have e2:=opens_off l _ _ h2;have g1:=note_len hN t _ _ h1 hs.1;have g2:=opens_len hN l _ _ h2 hs.2;have h9:CC*(mid-off)+CC*(o-mid)=CC*(o-off):=by rw [←Nat.mul_add];congr 1;omega
  rw [notes,sumR];omega
theorem chunks_len {xs:List UInt8} {N:Nt} (hN:NLen N) (tx:Bool): ∀(l:List Tr) (off o:Nat),Chunks xs tx l off o→AllSs (fun b=>(N.by_ b).length+2≤CC*(b.length+1)) l→sumR (notes N l)≤CC*(o-off)
 |[],off,o,h,hs=>by rw [notes,sumR];omega
 |t::l,off,o,h,hs=>by
  rw [Chunks] at h;rw [AllSs] at hs;obtain ⟨b,mid,_,_,_,h1,h2⟩:=h;have e1:=enc_off t _ _ h1;have e2:=chunks_off tx l _ _ h2;have g1:=note_len hN t _ _ h1 hs.1;have g2:=chunks_len hN tx l _ _ h2 hs.2;have h9:CC*(mid-off)+CC*(o-mid)=CC*(o-off):=by rw [←Nat.mul_add];congr 1;omega
  rw [notes,sumR];omega
end
theorem dec_be (b:List UInt8):(dec (be b)).length≤3*b.length+1∧(dec (be b+1)).length≤3*b.length+1:=by
 have h:=be_lt b;have h2:256^b.length≤10^(3*b.length):=by
  rw [Nat.pow_mul];exact Nat.pow_le_pow_left (by decide) _
 have h3:(10:Nat)^(3*b.length)<10^(3*b.length+1):=Nat.pow_lt_pow_right (by decide) (by omega)
 exact ⟨dec_length _ _ (by omega) (by omega),dec_length _ _ (by omega) (by omega)⟩
theorem bigN_len (n:Nat) (b:List UInt8):(bigN n b).length≤3*b.length+2:=by
 have:=dec_be b;unfold bigN
 split
 ·omega
 ·rw [List.length_cons];omega
theorem catS_len {xs:List UInt8} (tx:Bool): ∀(l:List Tr) (off o:Nat),Chunks xs tx l off o→(catS l).length≤o-off
 |[],off,o,h=>by simp [catS]
 |t::l,off,o,h=>by
  rw [Chunks] at h;obtain ⟨b,mid,_,_,⟨s,rfl⟩,h1,h2⟩:=h;have g2:=catS_len tx l _ _ h2;have e2:=chunks_off tx l _ _ h2;rw [Enc] at h1;obtain ⟨ai,v,o1,h,_,hv,_,rfl,hb⟩:=h1;have hl:s.length=v:=by rw [hb];simp;omega
  have h1:=(hd_off h).1;rw [catS,List.length_append];omega
theorem noteB_len (enc:Nat) (sp:Bool) (b:List UInt8):(noteB enc sp b).length≤8*b.length+5:=by
 have h5:=baseB_length 5 (by decide) b32D b
 have h5':=baseB_length 5 (by decide) h32D b
 have h6:=baseB_length 6 (by decide) b64D b
 have h4:=hexB_length hexD b;have h3:=spaced_length hexD b 0;unfold noteB
 split
 ·simp;omega
 ·split
  ·simp;omega
  ·split
   ·simp;omega
   ·split<;>(simp;omega)
theorem fT_len (pr:Bool) (ai v:Nat) (ha:ai=25∨ai=26∨ai=27) (hv:v<if ai=25 then 65536 else if ai=26 then 4294967296 else 18446744073709551616):(fT pr ai v).length≤1000006:=by
 unfold fT;cases hs:spO ai v with
 |some t=>
  simp only [Option.getD_some];have:t.length≤9:=by
   have h1:t=nanT∨t=infT∨t=ninfT:=by
    unfold spO at hs
    repeat' split at hs
    all_goals first|(cases hs;done)|(injection hs with hs;simp [←hs])
   rcases h1 with rfl|rfl|rfl<;>simp [nanT,infT,ninfT]
  omega
 |none=>
  simp only [Option.getD_none];have hn:numOK ai v:=by
   unfold spO at hs;unfold numOK;rcases ha with rfl|rfl|rfl
   ·simp only [if_true] at hs hv;refine .inl ⟨rfl,hv,fun e=> ?_⟩
    rw [if_pos e] at hs;cases hs
   ·rw [if_neg (by decide),if_pos rfl] at hs hv
    refine .inr (.inl ⟨rfl,hv,fun e=> ?_⟩)
    rw [if_pos e] at hs;cases hs
   ·rw [if_neg (by decide),if_neg (by decide)] at hs hv
    refine .inr (.inr ⟨rfl,hv,fun e=> ?_⟩)
    rw [if_pos e] at hs;cases hs
  have h1:=(fltB_len (wbits ai v) (wbits_fin hn).2.1).2;have h2:(precT pr ai).length≤2:=by unfold precT;split<;>simp
  rw [List.length_append];omega
theorem ntM_len (M:Md) (f:List UInt8→List UInt8):NLen (ntM M f):=by
 refine ⟨fun b=> ?_,fun ai v ha hv=> ?_,fun xs n t off o h=> ?_⟩
 ·show (if Lib.validD b=true then txt (qT 34 b) else (([],some 10):R)).1.length+2≤_
  have h1:=qT_length 34 b;have h2:CC*1≤CC*(b.length+1):=Nat.mul_le_mul_left _ (by omega)
  split
  ·rw [txt_len];unfold CC at *
   omega
  ·unfold CC at *
   simp;omega
 ·have:=fT_len M.pr ai v ha hv
  show (fT M.pr ai v).length+2≤CC
  unfold CC;omega
 ·show (bigR n t).1.length+2≤_
  have e:=enc_off t _ _ h;have h2:CC*1≤CC*(o-off):=Nat.mul_le_mul_left _ (by omega)
  unfold bigR
  split
  ·rename_i b;rw [Enc] at h;obtain ⟨ai,v,o1,h,_,hv,_,rfl,hb⟩:=h;have hl:b.length=v:=by rw [hb];simp;omega
   have h1:=(hd_off h).1;have:=bigN_len n b;rw [txt_len];have h3:CC*(v+1)≤CC*(o1+v-off):=Nat.mul_le_mul_left _ (by omega)
   unfold CC at *
   omega
  ·rename_i l;rw [Enc] at h;obtain ⟨v,o1,h,hc⟩:=h;have h1:=(hd_off h).1;have:=bigN_len n (catS l);have h4:=catS_len false l _ _ hc;have h5:=chunks_off false l _ _ hc;rw [txt_len];have h3:CC*((catS l).length+1)≤CC*(o-off):=Nat.mul_le_mul_left _ (by omega)
   unfold CC at *
   omega
  ·unfold CC at *
   simp;omega
theorem seqF_len {L:Lim} {N:Nt} (hN:NLen N) {xs:List UInt8} (hlen:xs.length≤1099511627776) (hb: ∀b:List UInt8,b.length<xs.length→(N.by_ b).length+2≤CC*(b.length+1)): ∀n first off,(seqF L N xs n first off).1.length≤CC*(xs.length-off)
 |0,_,_=>by simp [seqF]
 |n+1,first,off=>by
  rw [seqF]
  split
  ·split<;>simp
  ·cases hi:itemR L xs off with
   |error k=>simp
   |ok q=>
    obtain ⟨t,o⟩:=q;dsimp only;have he:=(itemR_ok hlen hi).1;have e:=enc_off t _ _ he;have h1:=note_len hN t off o he ((enc_strs t off o he).imp (fun b hbb=>hb b hbb.1) t)
    have h2:=seqF_len (L:=L) hN hlen hb n false o;have h3:=thenR_len (txt (if first then [] else [44,32])) (thenR (note N t) (seqF L N xs n false o))
    have h4:=thenR_len (note N t) (seqF L N xs n false o);have h5:(txt (if first then [] else [44,32])).1.length≤2:=by rw [txt_len];split<;>simp
    have h9:CC*(o-off)+CC*(xs.length-o)=CC*(xs.length-off):=by rw [←Nat.mul_add];congr 1;omega
    omega
theorem byA_len (L:Lim) (M:Md): ∀n (b:List UInt8),b.length≤n→n≤1099511627776→(byA L M b).length+2≤CC*(b.length+1):=by
 intro n
 induction n with
 |zero=>
  intro b h _;have h0:b=[]:=List.eq_nil_of_length_eq_zero (by omega)
  subst h0;have:=noteB_len M.enc M.sp [];rw [byA_eq L M [] (by simp),if_neg (by simp),if_neg (by simp)]
  unfold CC;simp at this ⊢;omega
 |succ n ih=>
  intro b h hn;have h1:=noteB_len M.enc M.sp b;have h2:=qT_length 39 b;have h3:(seqR L (ntA L M) b).1.length≤CC*(b.length-0):=seqF_len (ntM_len _ _) (by omega) (fun c hc=>ih c (by omega) (by omega)) _ _ _
  have h9:CC*b.length+CC*1=CC*(b.length+1):=by rw [←Nat.mul_add]
  rw [byA_eq L M b (by omega)]
  rw [Nat.sub_zero] at h3
  split
  ·unfold CC at *
   omega
  ·split
   ·simp only [List.length_append,List.length_cons,List.length_nil];unfold CC at *
    omega
   ·unfold CC at *
    omega
theorem ntA_by (L:Lim) (M:Md) (b:List UInt8) (h:b.length≤1099511627776):((ntA L M).by_ b).length+2≤CC*(b.length+1):=byA_len L M b.length b (Nat.le_refl _) h
theorem diagR_len (L:Lim) (M:Md) (sq:Bool) (xs:List UInt8) (h:xs.length≤1099511627776):(diagR L M sq xs).1.length≤CC*xs.length:=by
 unfold diagR
 split
 ·exact seqF_len (ntM_len _ _) h (fun b hb=>ntA_by L M b (by omega)) _ _ _
 ·unfold oneR
  split
  ·simp
  ·cases hi:itemR L xs 0 with
   |error k=>simp
   |ok q=>
    obtain ⟨t,o⟩:=q;dsimp only;have he:=(itemR_ok h hi).1;have e:=enc_off t _ _ he
    split
    ·have h1:=note_len (N:=ntA L M) (ntM_len _ _) t 0 o he ((enc_strs t 0 o he).imp (fun b hbb=>ntA_by L M b (by omega)) t)
     have h3:CC*(o-0)≤CC*xs.length:=Nat.mul_le_mul_left _ (by omega)
     omega
    ·simp
end
section
set_option exponentiation.threshold 3000
open Go.RowKit
section
variable {X:Cx} {off:Nat} {bs:List UInt8} {w:World}
theorem di_float (h:St X off bs w) {ai v o1:Nat} (hh:hd X.xs off= .ok (7,ai,v,o1)) (ha:ai=25∨ai=26∨ai=27) (hb:v<if ai=25 then 65536 else if ai=26 then 4294967296 else 18446744073709551616) (hlen:bs.length+(fT X.M.pr ai v).length≤room):
  Calls Tryz.prog 105 #[.pointer (some ⟨X.di,0,none⟩)] w (IPost X o1 bs (txt (fT X.M.pr ai v)) w):=by
 obtain ⟨hl,hb1,hb2⟩:=hd_byte hh;have hv:=(hd_val hh).1;have k1:=h.i1;have k2:=h.i2;have d0:=h.dec.c0;have d1:=h.dec.c1;have haa:=h.dec.at_ off hl;have hm:=h.dec.len;have KT:=fun n=>nextCBORType (h.dec.drewN n) hl
 rw [hb1] at KT;have KH:=fun n=>getHead (h.dec.drewN n) hh
 have KF:=Hz (fun (W:World) (H:St X o1 bs W)=>encF H ha hb hlen)
 have hpost:Hid (∀(w1 w2:World) e,Gr X.B [X.d,X.wb] w w1→IPost X o1 bs (txt (fT X.M.pr ai v)) w1 e w2→IPost X o1 bs (txt (fT X.M.pr ai v)) w e w2):=Hz (fun w1 w2 e G ⟨v,o2,a,b,c,d,f⟩=>⟨v,o2,a,b,c,d,G.trans f⟩)
 generalize txt (fT X.M.pr ai v)=R at *
 replace hb:=Hz hb;replace KT:=Hz KT;replace KH:=Hz KH;replace hh:=Hz hh;have g95:((X.xs[off].toNat:Int)==95)=false:=by simp;omega
 have g127:((X.xs[off].toNat:Int)==127)=false:=by simp;omega
 have g159:((X.xs[off].toNat:Int)==159)=false:=by simp;omega
 have g191:((X.xs[off].toNat:Int)==191)=false:=by simp;omega
 generalize (X.xs[off].toNat:Int)=x0 at *
 clear hb1 hb2;have b1:(off:Int)<(X.xs.length:Int):=by omega
 have b2:(0:Int)≤(off:Int):=by omega
 have b3:(off:Int).toNat=off:=by omega
 go_enter Tryz.func105,Tryz.ntmps105
 go_wp2
 go_quiet (fail)
 go_wp2_with fail
 refine (KT.out _).mono ?_
 rintro e w1 ⟨rfl,nm,rfl⟩;go_wp2_with fail
 refine (KH.out _).mono ?_
 rintro e w1 ⟨rfl,hD,hf⟩;have h1:=(h.drewN _).moved hf hD;have G1:=h.grF (((Fr.refl [X.d] w).drewN _).trans hf);rcases ha with rfl|rfl|rfl
 all_goals
  go_wp2_with (go_at_call 136;refine (KF.out _ h1).mono ?_;rintro e w2 ⟨v2,o2,rfl,p1,p2,p3,p4⟩)
  go_ret
  exact hpost.out _ _ _ G1 ⟨v2,o2,rfl,p1,p2,p3,p4⟩
end
end
section
set_option exponentiation.threshold 3000
open Go.RowKit
theorem hd_err {xs:List UInt8} {off k:Nat} (h:hd xs off= .error k):k=2∨k=3:=by
 unfold hd at h
 split at h
 ·cases h;exact .inl rfl
 ·split at h
  ·cases h
  ·split at h
   ·split at h
    ·cases h;exact .inl rfl
    ·split at h
     ·cases h;exact .inr rfl
     ·cases h
   ·split at h
    ·split at h
     ·cases h;exact .inr rfl
     ·cases h
    ·cases h;exact .inr rfl
theorem joinD_err {D k:Nat} {p:Option (Except Nat (Nat×Nat))} (h:joinD D p=some (.error k)):p=some (.error k):=by
 unfold joinD at h
 split at h
 ·cases h
 ·exact h
theorem wf_err (L:Lim) (xs:List UInt8): ∀f,
  (∀off dep k,wfI L xs f off dep=some (.error k)→k≠1)∧
  (∀m off dep k,wfS L xs f m off dep=some (.error k)→k≠1)∧
  (∀m i off dep k,wfO L xs f m i off dep=some (.error k)→k≠1)∧
  (∀n off dep k,wfN L xs f n off dep=some (.error k)→k≠1)∧
  (∀off dep k,wfT L xs f off dep=some (.error k)→k≠1):=by
 intro f
 induction f with
 |zero=>simp [wfI,wfS,wfO,wfN,wfT]
 |succ f ih=>
  obtain ⟨i1,i2,i3,i4,i5⟩:=ih;refine ⟨?_,?_,?_,?_,?_⟩
  ·intro off dep k h;rw [wfI] at h;cases hh:hd xs off with
   |error k2=>
    rw [hh] at h;have:=hd_err hh;injection h with h
    injection h with h
    omega
   |ok q=>
    obtain ⟨m,ai,v,o⟩:=q;rw [hh] at h;dsimp only at h
    repeat' split at h
    all_goals first
     |(injection h with h;injection h with h;omega;done)
     |exact i2 _ _ _ _ h
     |exact i3 _ _ _ _ _ h
     |exact i4 _ _ _ _ h
     |exact i5 _ _ _ h
     |(cases h;done)
  ·intro m off dep k h;rw [wfS] at h
   split at h
   ·injection h with h;injection h with h;omega
   ·repeat' split at h
    all_goals first
     |(injection h with h;injection h with h;omega;done)
     |exact i2 _ _ _ _ h
     |exact i1 _ _ _ h
     |(cases h;done)
  ·intro m i off dep k h;rw [wfO] at h
   split at h
   ·injection h with h;injection h with h;omega
   ·repeat' split at h
    all_goals first
     |(injection h with h;injection h with h;omega;done)
     |exact i3 _ _ _ _ _ (joinD_err h)
     |exact i1 _ _ _ h
     |(cases h;done)
  ·intro n off dep k h;cases n with
   |zero=>rw [wfN] at h;cases h
   |succ n=>
    rw [wfN] at h
    split at h
    ·exact i4 _ _ _ _ (joinD_err h)
    ·exact i1 _ _ _ h
  ·intro off dep k h;rw [wfT] at h
   split at h
   ·injection h with h;injection h with h;omega
   ·split at h
    ·exact i1 _ _ _ h
    ·cases hh:hd xs off with
     |error k2=>
      rw [hh] at h;have:=hd_err hh;injection h with h
      injection h with h
      omega
     |ok q=>
      rw [hh] at h;dsimp only at h
      split at h
      ·injection h with h;injection h with h;omega
      ·exact i5 _ _ _ h
structure LeafC (L:Lim) (M:Md):Prop where
 nint: ∀(X:Cx),X.L=L→X.M=M→X.xs.length≤90000→ ∀off ai n o,hd X.xs off= .ok (1,ai,n,o)→9223372036854775808≤n→ItemC X off o (txt (45::dec (n+1)))
 tag: ∀(X:Cx),X.L=L→X.M=M→X.xs.length≤90000→ ∀n t off o,n=2∨n=3→Enc X.xs (.tag n t) off o→ItemC X off o (bigR n t)
 text: ∀(X:Cx),X.L=L→X.M=M→X.xs.length≤90000→ ∀b off o,Enc X.xs (.str true b) off o→ItemC X off o (if Lib.validD b=true then txt (qT 34 b) else ([],some 10))
def BytC (L:Lim) (M:Md) (b:List UInt8):Prop:= ∀(X:Cx),X.L=L→X.M=M→X.xs.length≤90000→EncB X b (txt (byA L M b))
mutual
theorem leaf_all {L:Lim} {M:Md} (hC:LeafC L M) {X:Cx} (hl:X.L=L) (hm:X.M=M) (hx:X.xs.length≤90000): ∀(t:Tr) (off o:Nat),Enc X.xs t off o→AllS (BytC L M) t→LeafOK X (ntA L M) t
 | .int neg n,off,o,h,hs=>by
  rw [LeafOK];intro hneg h63 off' o' he;subst hneg;rw [Enc] at he;obtain ⟨ai,he⟩:=he;exact hC.nint X hl hm hx off' ai n o' he h63
 | .str false b,off,o,h,hs=>by
  rw [AllS] at hs;rw [LeafOK];intro off' o' he;rw [Enc] at he;obtain ⟨ai,v,o1,hh,h31,hvl,h63,rfl,hbb⟩:=he;have:=hs X hl hm hx;rw [note];exact fun w bs hS hlen=>di_bytes hS hh h31 hvl hbb this hlen
 | .str true b,off,o,h,hs=>by
  rw [LeafOK];intro off' o' he;rw [note];exact hC.text X hl hm hx b off' o' he
 | .chk tx l,off,o,h,hs=>by
  rw [AllS] at hs;rw [Enc] at h;obtain ⟨v,o1,h,hc⟩:=h;have:=chunks_off tx l _ _ hc;rw [LeafOK];exact ⟨by omega,chunks_all hC hl hm hx tx l _ _ hc hs⟩
 | .arr false l,off,o,h,hs=>by
  rw [AllS] at hs;rw [Enc] at h;obtain ⟨ai,o1,h,h31,hc⟩:=h;have:=encs_off l _ _ hc (hd_val h).2;rw [LeafOK];exact ⟨by omega,encs_all hC hl hm hx l _ _ hc hs⟩
 | .arr true l,off,o,h,hs=>by
  rw [AllS] at hs;rw [Enc] at h;obtain ⟨v,o1,h,hc⟩:=h;have:=opens_off l _ _ hc;rw [LeafOK];exact ⟨by omega,opens_all hC hl hm hx l _ _ hc hs⟩
 | .map false l,off,o,h,hs=>by
  rw [AllS] at hs;rw [Enc] at h;obtain ⟨ai,v,o1,h,h31,hv,hc⟩:=h;have:=encs_off l _ _ hc (hd_val h).2;rw [LeafOK];exact ⟨by omega,encs_all hC hl hm hx l _ _ hc hs⟩
 | .map true l,off,o,h,hs=>by
  rw [AllS] at hs;rw [Enc] at h;obtain ⟨v,o1,h,h2,hc⟩:=h;have:=opens_off l _ _ hc;rw [LeafOK];exact ⟨by omega,opens_all hC hl hm hx l _ _ hc hs⟩
 | .tag n t,off,o,h,hs=>by
  rw [AllS] at hs;rw [LeafOK]
  split
  ·rename_i hn;intro off' o' he;exact hC.tag X hl hm hx n t off' o' hn he
  ·rw [Enc] at h;obtain ⟨ai,o1,h,hc⟩:=h;exact leaf_all hC hl hm hx t _ _ hc hs
 | .prim ai v,off,o,h,hs=>by
  rw [LeafOK];intro ha off' o' he;rw [Enc] at he
  show ItemC X off' o' (txt (fT M.pr ai v))
  rw [←hm];exact fun w bs hS hlen=>di_float hS he ha (hd_fl he ha) hlen
theorem encs_all {L:Lim} {M:Md} (hC:LeafC L M) {X:Cx} (hl:X.L=L) (hm:X.M=M) (hx:X.xs.length≤90000): ∀(l:List Tr) (off o:Nat),Encs X.xs l off o→AllSs (BytC L M) l→LeavesOK X (ntA L M) l
 |[],off,o,h,hs=>by rw [LeavesOK];trivial
 |t::l,off,o,h,hs=>by
  rw [Encs] at h;rw [AllSs] at hs;obtain ⟨mid,h1,h2⟩:=h;rw [LeavesOK];exact ⟨leaf_all hC hl hm hx t _ _ h1 hs.1,encs_all hC hl hm hx l _ _ h2 hs.2⟩
theorem opens_all {L:Lim} {M:Md} (hC:LeafC L M) {X:Cx} (hl:X.L=L) (hm:X.M=M) (hx:X.xs.length≤90000): ∀(l:List Tr) (off o:Nat),Opens X.xs l off o→AllSs (BytC L M) l→LeavesOK X (ntA L M) l
 |[],off,o,h,hs=>by rw [LeavesOK];trivial
 |t::l,off,o,h,hs=>by
  rw [Opens] at h;rw [AllSs] at hs;obtain ⟨b,mid,_,_,h1,h2⟩:=h;rw [LeavesOK];exact ⟨leaf_all hC hl hm hx t _ _ h1 hs.1,opens_all hC hl hm hx l _ _ h2 hs.2⟩
theorem chunks_all {L:Lim} {M:Md} (hC:LeafC L M) {X:Cx} (hl:X.L=L) (hm:X.M=M) (hx:X.xs.length≤90000) (tx:Bool): ∀(l:List Tr) (off o:Nat),Chunks X.xs tx l off o→AllSs (BytC L M) l→LeavesOK X (ntA L M) l
 |[],off,o,h,hs=>by rw [LeavesOK];trivial
 |t::l,off,o,h,hs=>by
  rw [Chunks] at h;rw [AllSs] at hs;obtain ⟨b,mid,_,_,_,h1,h2⟩:=h;rw [LeavesOK];exact ⟨leaf_all hC hl hm hx t _ _ h1 hs.1,chunks_all hC hl hm hx tx l _ _ h2 hs.2⟩
end
theorem seq_says {L:Lim} {M:Md} (hC:LeafC L M) {X:Cx} (hl:X.L=L) (hm:X.M=M) (hx:X.xs.length≤90000) (hB: ∀b:List UInt8,b.length<X.xs.length→BytC L M b):
  ∀n first off,X.xs.length-off<n→off≤X.xs.length→ ∃k,SeqC X true k first off (seqF L (ntA L M) X.xs n first off)
 |0,_,_,h,_=>absurd h (by omega)
 |n+1,first,off,h,ho=>by
  rw [seqF];by_cases he:X.xs.length≤off
  ·have e:off=X.xs.length:=by omega
   rw [if_pos he];cases first
   ·exact ⟨0,.stop (.inl ⟨e,rfl⟩)⟩
   ·exact ⟨0,.none (.inl ⟨e,rfl⟩)⟩
  ·rw [if_neg he];cases hi:itemR L X.xs off with
   |error k=>
    obtain ⟨f,hf⟩:=itemR_err hi;have hk:=(wf_err L X.xs f).1 _ _ _ hf;refine ⟨0,.bad (.inr ⟨by omega,f,.error k,?_,rfl⟩) hk⟩
    rw [hl];exact hf
   |ok q=>
    obtain ⟨t,o⟩:=q;dsimp only;obtain ⟨h1,h2,h3,f,D,h4⟩:=itemR_ok (by omega) hi
    have e:=enc_off t _ _ h1;obtain ⟨k,hk⟩:=seq_says hC hl hm hx hB n false o (by omega) e.2
    refine ⟨k+1,.item (off':=o) (.inr ⟨by omega,f,_,by rw [hl];exact h4,rfl⟩) (item_note X (ntA L M) t off o h1 (leaf_all hC hl hm hx t off o h1 ?_)) (fun _=>hk)⟩
    exact (enc_strs t off o h1).imp (fun b hb=>hB b hb.1) t
theorem says_of {L:Lim} {M:Md} (hC:LeafC L M) {xs:List UInt8} (hx:xs.length≤90000) (hB: ∀b:List UInt8,b.length<xs.length→BytC L M b) (sq:Bool):Says xs L M sq (diagR L M sq xs):=by
 intro X hxs hl hm;subst hxs;cases sq with
 |true=>exact seq_says hC hl hm hx hB _ true 0 (by omega) (Nat.zero_le _)
 |false=>
  show ∃n,SeqC X false n true 0 (oneR L (ntA L M) X.xs)
  unfold oneR;by_cases h0:X.xs=[]
  ·rw [if_pos h0];exact ⟨0,.none (.inl ⟨by rw [h0];rfl,rfl⟩)⟩
  ·have hp:=List.length_pos_iff.2 h0;rw [if_neg h0];cases hi:itemR L X.xs 0 with
   |error k=>
    obtain ⟨f,hf⟩:=itemR_err hi;have hk:=(wf_err L X.xs f).1 _ _ _ hf;refine ⟨0,.bad (.inr ⟨hp,f,.error k,?_,rfl⟩) hk⟩
    rw [hl];exact hf
   |ok q=>
    obtain ⟨t,o⟩:=q;dsimp only;obtain ⟨h1,h2,h3,f,D,h4⟩:=itemR_ok (by omega) hi
    by_cases he:o=X.xs.length
    ·rw [if_pos he];have hI:=item_note X (ntA L M) t 0 o h1 (leaf_all hC hl hm hx t 0 o h1 ((enc_strs t 0 o h1).imp (fun b hb=>hB b hb.1) t))
     have:=SeqC.item (X:=X) (sq:=false) (first:=true) (n:=0) (off':=o) (r':=([],none)) (.inr ⟨hp,f,_,by rw [hl];exact h4,by simp [he]⟩) hI (fun _=> .stop (.inl ⟨he,rfl⟩))
     rw [thenR_nil] at this;exact ⟨1,by simpa [thenR_txt] using this⟩
    ·rw [if_neg he];refine ⟨0,.bad (.inr ⟨hp,f,_,by rw [hl];exact h4,by simp [he]⟩) (by decide)⟩
theorem says_all {L:Lim} {M:Md} (hC:LeafC L M) (hE: ∀b:List UInt8,b.length≤90000→Says b L M true (seqR L (ntA L M) b)→BytC L M b): ∀n (xs:List UInt8),xs.length≤n→n≤90000→ ∀sq,Says xs L M sq (diagR L M sq xs):=by
 intro n
 induction n with
 |zero=>exact fun xs hx hn sq=>says_of hC (by omega) (fun b hb=>absurd hb (by omega)) sq
 |succ n ih=>exact fun xs hx hn sq=>says_of hC (by omega) (fun b hb=>hE b (by omega) (ih b (by omega) (by omega) true)) sq
end
end Go.Proofs.YteodinhkhhaafaaGreatDoor
