/- Walks of the program, and plain facts. -/
import Derived.Test.YteodinhkhhaafaaGreatDoorFbr
set_option linter.unusedVariables false
set_option linter.unusedSimpArgs false
set_option maxRecDepth 100000
set_option maxHeartbeats 6400000
namespace Go.Proofs.YteodinhkhhaafaaGreatDoor
section
open Go.RowKit
theorem encBytes2 {X:Cx} {off:Nat} {bs:List UInt8} {w:World} (h:St X off bs w) {vb q c:Nat} {b:List UInt8} (hvb:vb<X.B) (hvw:vb≠X.wb) (hvd:vb≠X.d) (hrd:Rd w vb q b) (hbl:b.length≤1099511627776) (hcap:b.length≤c) (henc:X.M.enc<4) (hfall:Falls2 X b) (hlen:bs.length+(noteB X.M.enc X.M.sp b).length≤room):
  Calls Tryz.prog 130 #[.pointer (some ⟨X.di,0,none⟩),.slice (some ⟨vb,q,none⟩) b.length c] w (IPost X off bs (txt (noteB X.M.enc X.M.sp b)) w):=by
 have h4:X.M.enc=0∨X.M.enc=1∨X.M.enc=2∨X.M.enc=3:=by omega
 rcases h4 with e|e|e|e
 ·cases hs:X.M.sp with
  |false=>rw [←hs];exact encBytes2_hex h hvb hvw hvd hrd hbl hcap e hs hfall hlen
  |true=>rw [←hs];exact encBytes2_sp h hvb hvw hvd hrd hbl hcap e hs hfall hlen
 ·exact encBytes2_b32 h hvb hvw hvd hrd hbl hcap e hfall hlen
 ·exact encBytes2_h32 h hvb hvw hvd hrd hbl hcap e hfall hlen
 ·exact encBytes2_b64 h hvb hvw hvd hrd hbl hcap e hfall hlen
theorem seqR_room (L:Lim) (M:Md) (b:List UInt8) (hb:b.length≤90000):(seqR L (ntA L M) b).1.length≤room:=by
 have h:(seqR L (ntA L M) b).1.length≤CC*b.length:=diagR_len L M true b (by omega)
 unfold CC at h;unfold room;omega
theorem bytC {L:Lim} {M:Md} (hL:L.nest≤65535∧L.el≤2147483647∧L.pa≤2147483647) (henc:M.enc<4) (b:List UInt8) (hb:b.length≤90000) (hS:Says b L M true (seqR L (ntA L M) b)):BytC L M b:=by
 intro X hl hm hx off bs w q c h hrd hcap hlen;subst hl;subst hm;rw [byA_eq _ _ _ (by omega)] at hlen ⊢
 by_cases h1:b≠[]∧X.M.tx=true∧Lib.validD b=true
 ·rw [if_pos h1] at hlen ⊢;exact encBytes_tx h hrd hcap (by omega) (List.length_pos_iff.2 h1.1) h1.2.1 h1.2.2 hlen
 ·rw [if_neg h1] at hlen ⊢;by_cases h0:b=[]
  ·rw [if_neg (fun e=>e.1 h0)] at hlen ⊢
   exact encBytes2 h h.ldb h.nw h.dec.ne hrd (by omega) hcap henc (.inl h0) hlen
  ·have hnt:NoTx X b:=by
    unfold NoTx;cases ht:X.M.tx with
    |false=>exact .inl rfl
    |true=>exact .inr ⟨rfl,by cases hv:Lib.validD b with
     |false=>rfl
     |true=>exact absurd ⟨h0,ht,hv⟩ h1⟩
   by_cases h2:b≠[]∧X.M.em=true∧(seqR X.L (ntA X.L X.M) b).2=none
   ·rw [if_pos h2] at hlen ⊢;have e:seqR X.L (ntA X.L X.M) b=txt (seqR X.L (ntA X.L X.M) b).1:=Prod.ext rfl h2.2.2;exact encBytes_em h hL hrd hcap (by omega) (List.length_pos_iff.2 h0) hnt h2.2.1 (e▸hS) hlen
   ·rw [if_neg h2] at hlen ⊢;refine encBytes2 h h.ldb h.nw h.dec.ne hrd (by omega) hcap henc (.inr ⟨List.length_pos_iff.2 h0,hnt,?_⟩) hlen
    unfold NoEm;cases he:X.M.em with
    |false=>exact .inl rfl
    |true=>
     cases hr:(seqR X.L (ntA X.L X.M) b).2 with
     |none=>exact absurd ⟨h0,he,hr⟩ h2
     |some k=>exact .inr ⟨rfl,hL,_,k,hS,hr,seqR_room _ _ _ hb⟩
theorem says_any {L:Lim} {M:Md} (hL:L.nest≤65535∧L.el≤2147483647∧L.pa≤2147483647) (henc:M.enc<4) (xs:List UInt8) (hx:xs.length≤90000) (sq:Bool):Says xs L M sq (diagR L M sq xs):=
 says_all (leafC L M) (fun b hb hS=>bytC hL henc b hb hS) xs.length xs (Nat.le_refl _) hx sq
theorem diagR_room (L:Lim) (M:Md) (sq:Bool) (b:List UInt8) (hb:b.length≤90000):(diagR L M sq b).1.length≤room:=by
 have h:=diagR_len L M sq b (by omega)
 unfold CC at h;unfold room;omega
theorem implDiag_any {xs:List UInt8} {M:Md} {n:Nat} {L:Lim} (hL:LimOf n L) (he:M.enc<4) (hx:xs.length≤90000) (w:World) (hu:U8 w):
  Calls Tryz.prog 26 #[.string ⟨xs.toArray⟩,diagOpts .i64 M n] w fun e w'=>e= .returned (.tuple #[.string ⟨(ans (diagR L M M.sq xs)).1.toArray⟩,.int .i64 ((ans (diagR L M M.sq xs)).2:Int)])∧Fr [] w w':=
 implDiag hL he (by omega) (says_any hL.le he xs hx M.sq) (diagR_room L M M.sq xs hx) w hu
end
section
open Go.RowKit
theorem dec_1 (n:Nat) (h:n<10):dec n=[(48+n).toUInt8]:=by rw [dec_lt _ h]
theorem diag_noted (M:Md):ans (diagR ⟨32,131072,131072⟩ M false [130,1,32])=([91,49,44,32,45,49,93],0):=by
 have h:itemR ⟨32,131072,131072⟩ [130,1,32] 0= .ok (.arr false [.int false 1,.int true 0],3):=by
  refine itemR_of (by decide) (by decide) ?_ ?_ ?_
  ·rw [Enc];refine ⟨2,1,by rfl,by decide,?_⟩
   rw [Encs];refine ⟨2,?_,?_⟩
   ·rw [Enc];exact ⟨1,by rfl⟩
   ·rw [Encs];refine ⟨3,?_,?_⟩
    ·rw [Enc];exact ⟨0,by rfl⟩
    ·rw [Encs]
  ·simp [Tr.fits,Tr.fitss]
  ·simp [Tr.dp,Tr.dps]
 have e:diagR ⟨32,131072,131072⟩ M false [130,1,32]=txt [91,49,44,32,45,49,93]:=by
  unfold diagR oneR;rw [if_neg (by simp),if_neg (by simp),h]
  dsimp only;rw [if_pos (by rfl)]
  simp [note,notes,arrR,thenR,txt,dec_1]
 rw [e];rfl
theorem noted (w:World) (hu:U8 w):Calls Tryz.prog 33 #[] w fun e w'=>e= .returned (.bool true)∧Fr [] w w':=by
 have K:=implDiag_any (xs:=[130,1,32]) (M:=⟨0,false,false,false,false,false⟩) (n:=0) (L:=⟨32,131072,131072⟩) (.inl ⟨rfl,rfl⟩) (by decide) (by decide) w hu
 have e:=diag_noted ⟨0,false,false,false,false,false⟩;dsimp only at K;rw [e] at K;replace K:=Hz K;clear e;go_enter Tryz.func33,Tryz.ntmps33
 go_wp2_with fail
 refine K.out.mono ?_
 rintro e w1 ⟨rfl,hf⟩;go_wp2;go_ret
 exact ⟨rfl,hf⟩
end
section
open Go.RowKit
def Strs (w:World) (v:Value) (ss:List (List UInt8)):Prop:=
 (ss=[]∧ ∃ao c,v= .slice ao 0 c)∨ ∃g o c,v= .slice (some ⟨g,o,none⟩) ss.length c∧ss.length≤c∧ ∀j (h:j<ss.length),w.cell? ⟨g,o+j,none⟩=some (.string ⟨ss[j].toArray⟩)
theorem Strs.fr {w w':World} {v:Value} {ss:List (List UInt8)} (h:Strs w v ss) (hf:Fr [] w w'):Strs w' v ss:=by
 rcases h with h|⟨g,o,c,h1,h2,h3⟩
 ·exact .inl h
 ·exact .inr ⟨g,o,c,h1,h2,fun j hj=>hf.cell (h3 j hj) (by simp)⟩
end
section
open Go.RowKit
def Fits2 (ss:List (List UInt8)):Prop:=ss.length≤2147483647∧ ∀s,s∈ss→s.length≤2147483647
instance (ss:List (List UInt8)):Decidable (Fits2 ss):=inferInstanceAs (Decidable (_∧_))
end
section
open Go.RowKit
def L0:Lim:=⟨32,131072,131072⟩
structure NOk (N:Nt):Prop where
 tx: ∀b,Lib.validD b=true→(N.tx b).2=none
 bs: ∀n b,(N.big n (.str false b)).2=none
 bc: ∀n l,(N.big n (.chk false l)).2=none
mutual
theorem fits_few {B:Nat} {L:Lim} (h1:B≤L.el) (h2:B≤2*L.pa): ∀t:Tr,AllN (Few B) t→t.fits L
 | .int _ _,_=>by rw [Tr.fits]<;>simp
 | .str _ _,_=>by rw [Tr.fits]<;>simp
 | .chk _ _,_=>by rw [Tr.fits]<;>simp
 | .prim _ _,_=>by rw [Tr.fits]<;>simp
 | .arr o l,h=>by
  rw [AllN] at h;have:=h.1.1;rw [Tr.ks] at this;rw [Tr.fits];exact ⟨by omega,fitss_few h1 h2 l h.2⟩
 | .map o l,h=>by
  rw [AllN] at h;have:=h.1.1;rw [Tr.ks] at this;rw [Tr.fits];exact ⟨by omega,fitss_few h1 h2 l h.2⟩
 | .tag n t,h=>by
  rw [AllN] at h;rw [Tr.fits];exact fits_few h1 h2 t h.2
theorem fitss_few {B:Nat} {L:Lim} (h1:B≤L.el) (h2:B≤2*L.pa): ∀l:List Tr,AllNs (Few B) l→Tr.fitss L l
 |[],_=>by rw [Tr.fitss];trivial
 |t::l,h=>by
  rw [AllNs] at h;rw [Tr.fitss];exact ⟨fits_few h1 h2 t h.1,fitss_few h1 h2 l h.2⟩
end
theorem enc_fits {xs:List UInt8} {t:Tr} {off o:Nat} (h:Enc xs t off o) (hx:xs.length≤131072):t.fits L0:=fits_few (B:=xs.length) hx (by show xs.length≤2*131072;omega) t (enc_few t off o h)
theorem itemR_enc {xs:List UInt8} {t:Tr} {off o:Nat} (h:Enc xs t off o) (hx:xs.length≤131072) (hl:t.lev≤32):itemR L0 xs off= .ok (t,o):=
 itemR_of (by decide) (by decide) h (enc_fits h hx) (Nat.le_trans (dp_lev t) hl)
theorem diagR_enc {xs:List UInt8} {t:Tr} {M:Md} (sq:Bool) (h:Enc xs t 0 xs.length) (hx:xs.length≤131072) (hl:t.lev≤32):diagR L0 M sq xs=note (ntA L0 M) t:=by
 have hp:=enc_lt h;have hi:=itemR_enc h hx hl;unfold diagR;cases sq with
 |false=>
  rw [if_neg (by simp)]
  unfold oneR;rw [if_neg (List.ne_nil_of_length_pos hp),hi];dsimp only;rw [if_pos rfl]
 |true=>
  rw [if_pos rfl];unfold seqR;rw [seqF,if_neg (by omega),hi]
  dsimp only;obtain ⟨n,hn⟩: ∃n,xs.length=n+1:=⟨xs.length-1,by omega⟩
  rw [show seqF L0 (ntA L0 M) xs xs.length false xs.length=([],none) by rw [hn,seqF,←hn,if_pos (Nat.le_refl _)];simp,thenR_nil,if_pos rfl,thenR_txt]
  rfl
end
section
open Go.RowKit
structure ItemOK (m:Nat) (p:List UInt8) (t:Tr):Prop where
 len:p.length≤400
 enc:Enc p t 0 p.length
 snd:t.snd Lib.validD=true
 lev:t.lev≤m
def PartsOK (m:Nat):List (List UInt8)→List Tr→Prop
 |[],[]=>True
 |p::ps,t::ts=>ItemOK m p t∧PartsOK m ps ts
 |_,_=>False
theorem PartsOK.len {m:Nat}: ∀{ps:List (List UInt8)} {ts:List Tr},PartsOK m ps ts→ts.length=ps.length
 |[],[],_=>rfl
 |p::ps,t::ts,h=>by rw [List.length_cons,List.length_cons,PartsOK.len h.2]
 |[],t::ts,h=>h.elim
 |p::ps,[],h=>h.elim
theorem PartsOK.snds {m:Nat}: ∀{ps:List (List UInt8)} {ts:List Tr},PartsOK m ps ts→Tr.snds Lib.validD ts=true
 |[],[],_=>by rw [Tr.snds]
 |p::ps,t::ts,h=>by rw [Tr.snds,h.1.snd,PartsOK.snds h.2];rfl
 |[],t::ts,h=>h.elim
 |p::ps,[],h=>h.elim
theorem PartsOK.levs {m:Nat}: ∀{ps:List (List UInt8)} {ts:List Tr},PartsOK m ps ts→Tr.levs ts≤m
 |[],[],_=>by rw [Tr.levs];omega
 |p::ps,t::ts,h=>by
  have h1:=h.1.lev;have h2:=PartsOK.levs h.2;rw [Tr.levs];omega
 |[],t::ts,h=>h.elim
 |p::ps,[],h=>h.elim
end
end Go.Proofs.YteodinhkhhaafaaGreatDoor
