/- Walks of the program, and plain facts. -/
import Derived.Test.YteodinhkhhaafaaGreatDoorDbp
set_option linter.unusedVariables false
set_option linter.unusedSimpArgs false
set_option maxRecDepth 100000
set_option maxHeartbeats 6400000
namespace Go.Proofs.YteodinhkhhaafaaGreatDoor
section
open Go.RowKit
theorem encBytes2 {X:Cx} {off:Nat} {bs:List UInt8} {w:World} (h:St X off bs w) {vb q c:Nat} {b:List UInt8} (hvb:vb<X.B) (hvw:vb≠X.wb) (hvd:vb≠X.d) (hrd:Rd w vb q b) (hbl:b.length≤1099511627776) (hcap:b.length≤c) (henc:X.M.enc<4) (hfall:Falls2 X b) (hlen:bs.length+(noteB X.M.enc X.M.sp b).length≤room):
  Calls Tryz.prog 130 #[.pointer (some ⟨X.di,0,none⟩),.slice (some ⟨vb,q,none⟩) b.length c] w (IPost X off bs (txt (noteB X.M.enc X.M.sp b)) w):=by
 have h4:X.M.enc=0∨X.M.enc=1∨X.M.enc=2∨X.M.enc=3:=by omega
 rcases h4 with e|e|e|e
 ·cases hs:X.M.sp with
  |false=>rw [←hs];exact encBytes2_hex h hvb hvw hvd hrd hbl hcap e hs hfall hlen
  |true=>rw [←hs];exact encBytes2_sp h hvb hvw hvd hrd hbl hcap e hs hfall hlen
 ·exact encBytes2_b32 h hvb hvw hvd hrd hbl hcap e hfall hlen
 ·exact encBytes2_h32 h hvb hvw hvd hrd hbl hcap e hfall hlen
 ·exact encBytes2_b64 h hvb hvw hvd hrd hbl hcap e hfall hlen
theorem seqR_room (L:Lim) (M:Md) (b:List UInt8) (hb:b.length≤90000):(seqR L (ntA L M) b).1.length≤room:=by
 have h:(seqR L (ntA L M) b).1.length≤CC*b.length:=diagR_len L M true b (by omega)
 unfold CC at h
 unfold room
 omega
theorem bytC {L:Lim} {M:Md} (hL:L.nest≤65535∧L.el≤2147483647∧L.pa≤2147483647) (henc:M.enc<4) (b:List UInt8) (hb:b.length≤90000) (hS:Says b L M true (seqR L (ntA L M) b)):BytC L M b:=by
 intro X hl hm hx off bs w q c h hrd hcap hlen
 subst hl
 subst hm
 rw [byA_eq _ _ _ (by omega)] at hlen ⊢
 by_cases h1:b≠[]∧X.M.tx=true∧Lib.validD b=true
 ·rw [if_pos h1] at hlen ⊢
  exact encBytes_tx h hrd hcap (by omega) (List.length_pos_iff.2 h1.1) h1.2.1 h1.2.2 hlen
 ·rw [if_neg h1] at hlen ⊢
  by_cases h0:b=[]
  ·rw [if_neg (fun e=>e.1 h0)] at hlen ⊢
   exact encBytes2 h h.ldb h.nw h.dec.ne hrd (by omega) hcap henc (.inl h0) hlen
  ·have hnt:NoTx X b:=by
    unfold NoTx
    cases ht:X.M.tx with
    |false=>exact .inl rfl
    |true=>exact .inr ⟨rfl,by cases hv:Lib.validD b with
     |false=>rfl
     |true=>exact absurd ⟨h0,ht,hv⟩ h1⟩
   by_cases h2:b≠[]∧X.M.em=true∧(seqR X.L (ntA X.L X.M) b).2=none
   ·rw [if_pos h2] at hlen ⊢
    have e:seqR X.L (ntA X.L X.M) b=txt (seqR X.L (ntA X.L X.M) b).1:=Prod.ext rfl h2.2.2
    exact encBytes_em h hL hrd hcap (by omega) (List.length_pos_iff.2 h0) hnt h2.2.1 (e▸hS) hlen
   ·rw [if_neg h2] at hlen ⊢
    refine encBytes2 h h.ldb h.nw h.dec.ne hrd (by omega) hcap henc (.inr ⟨List.length_pos_iff.2 h0,hnt,?_⟩) hlen
    unfold NoEm
    cases he:X.M.em with
    |false=>exact .inl rfl
    |true=>
     cases hr:(seqR X.L (ntA X.L X.M) b).2 with
     |none=>exact absurd ⟨h0,he,hr⟩ h2
     |some k=>exact .inr ⟨rfl,hL,_,k,hS,hr,seqR_room _ _ _ hb⟩
theorem says_any {L:Lim} {M:Md} (hL:L.nest≤65535∧L.el≤2147483647∧L.pa≤2147483647) (henc:M.enc<4) (xs:List UInt8) (hx:xs.length≤90000) (sq:Bool):Says xs L M sq (diagR L M sq xs):=
 says_all (leafC L M) (fun b hb hS=>bytC hL henc b hb hS) xs.length xs (Nat.le_refl _) hx sq
theorem diagR_room (L:Lim) (M:Md) (sq:Bool) (b:List UInt8) (hb:b.length≤90000):(diagR L M sq b).1.length≤room:=by
 have h:=diagR_len L M sq b (by omega)
 unfold CC at h
 unfold room
 omega
theorem implDiag_any {xs:List UInt8} {M:Md} {n:Nat} {L:Lim} (hL:LimOf n L) (he:M.enc<4) (hx:xs.length≤90000) (w:World) (hu:U8 w):
  Calls Tryz.prog 26 #[.string ⟨xs.toArray⟩,diagOpts .i64 M n] w fun e w'=>e= .returned (.tuple #[.string ⟨(ans (diagR L M M.sq xs)).1.toArray⟩,.int .i64 ((ans (diagR L M M.sq xs)).2:Int)])∧Fr [] w w':=
 implDiag hL he (by omega) (says_any hL.le he xs hx M.sq) (diagR_room L M M.sq xs hx) w hu
end
section
open Go.RowKit
theorem dec_1 (n:Nat) (h:n<10):dec n=[(48+n).toUInt8]:=by rw [dec_lt _ h]
theorem diag_noted (M:Md):ans (diagR ⟨32,131072,131072⟩ M false [130,1,32])=([91,49,44,32,45,49,93],0):=by
 have h:itemR ⟨32,131072,131072⟩ [130,1,32] 0= .ok (.arr false [.int false 1,.int true 0],3):=by
  refine itemR_of (by decide) (by decide) ?_ ?_ ?_
  ·rw [Enc]
   refine ⟨2,1,by rfl,by decide,?_⟩
   rw [Encs]
   refine ⟨2,?_,?_⟩
   ·rw [Enc];exact ⟨1,by rfl⟩
   ·rw [Encs]
    refine ⟨3,?_,?_⟩
    ·rw [Enc];exact ⟨0,by rfl⟩
    ·rw [Encs]
  ·simp [Tr.fits,Tr.fitss]
  ·simp [Tr.dp,Tr.dps]
 have e:diagR ⟨32,131072,131072⟩ M false [130,1,32]=txt [91,49,44,32,45,49,93]:=by
  unfold diagR oneR
  rw [if_neg (by simp),if_neg (by simp),h]
  dsimp only
  rw [if_pos (by rfl)]
  simp [note,notes,arrR,thenR,txt,dec_1]
 rw [e];rfl
theorem noted (w:World) (hu:U8 w):Calls Tryz.prog 33 #[] w fun e w'=>e= .returned (.bool true)∧Fr [] w w':=by
 have K:=implDiag_any (xs:=[130,1,32]) (M:=⟨0,false,false,false,false,false⟩) (n:=0) (L:=⟨32,131072,131072⟩) (.inl ⟨rfl,rfl⟩) (by decide) (by decide) w hu
 have e:=diag_noted ⟨0,false,false,false,false,false⟩
 dsimp only at K
 rw [e] at K
 replace K:=Hz K
 clear e
 go_enter Tryz.func33,Tryz.ntmps33
 go_wp2_with fail
 refine K.out.mono ?_
 rintro e w1 ⟨rfl,hf⟩
 go_wp2
 go_ret
 exact ⟨rfl,hf⟩
end
section
open Go.RowKit
def Strs (w:World) (v:Value) (ss:List (List UInt8)):Prop:=
 (ss=[]∧ ∃ao c,v= .slice ao 0 c)∨ ∃g o c,v= .slice (some ⟨g,o,none⟩) ss.length c∧ss.length≤c∧ ∀j (h:j<ss.length),w.cell? ⟨g,o+j,none⟩=some (.string ⟨ss[j].toArray⟩)
theorem Strs.fr {w w':World} {v:Value} {ss:List (List UInt8)} (h:Strs w v ss) (hf:Fr [] w w'):Strs w' v ss:=by
 rcases h with h|⟨g,o,c,h1,h2,h3⟩
 ·exact .inl h
 ·exact .inr ⟨g,o,c,h1,h2,fun j hj=>hf.cell (h3 j hj) (by simp)⟩
def sepS (pairs:Bool) (i:Nat):List UInt8:=if pairs=true∧i%2=1 then [58,32] else if 0<i then [44,32] else []
def joinS (pairs:Bool):Nat→List (List UInt8)→List UInt8
 |_,[]=>[]
 |i,s::l=>sepS pairs i++(s++joinS pairs (i+1) l)
theorem joinS_snoc (p:Bool) (s:List UInt8): ∀(l:List (List UInt8)) (i:Nat),joinS p i (l++[s])=joinS p i l++(sepS p (i+l.length)++s)
 |[],i=>by simp [joinS]
 |x::l,i=>by
  rw [List.cons_append,joinS,joinS_snoc p s l (i+1),joinS,List.length_cons,show i+1+l.length=i+(l.length+1) by omega]
  simp only [List.append_assoc]
theorem joinS_take (p:Bool) (ss:List (List UInt8)) (j:Nat) (h:j<ss.length):joinS p 0 (ss.take (j+1))=joinS p 0 (ss.take j)++(sepS p j++ss[j]):=by
 have:=joinS_snoc p ss[j] (ss.take j) 0
 rw [←List.take_succ_eq_append_getElem h,Nat.zero_add,List.length_take,Nat.min_eq_left (by omega)] at this
 exact this
theorem joinS_le (p:Bool): ∀(ss:List (List UInt8)) (i j:Nat),(joinS p i (ss.take j)).length≤(joinS p i ss).length
 |[],i,j=>by simp
 |s::l,i,0=>by simp [joinS]
 |s::l,i,j+1=>by
  have:=joinS_le p l (i+1) j
  rw [List.take_succ_cons,joinS,joinS]
  simp only [List.length_append]
  omega
theorem joined {w:World} {v:Value} {ss:List (List UInt8)} (p:Bool) (hS:Strs w v ss) (hn:ss.length≤1000000000) (hlen:(joinS p 0 ss).length≤1099511627776):
  Calls Tryz.prog 24 #[v,.bool p] w fun e w'=>e= .returned (.string ⟨(joinS p 0 ss).toArray⟩)∧Fr [] w w':=by
 have hv: ∃ao c,v= .slice ao ss.length c:=by
  rcases hS with ⟨h0,ao,c,h⟩|⟨g,o,c,h,_⟩
  ·exact ⟨ao,c,by rw [h0];exact h⟩
  ·exact ⟨_,c,h⟩
 obtain ⟨ao,c,rfl⟩:=hv
 replace hS:=Hz hS
 obtain ⟨n,hnn⟩: ∃n,ss.length=n:=⟨_,rfl⟩
 rw [hnn] at hn ⊢
 replace hnn:=Hz hnn
 go_enter Tryz.func24,Tryz.ntmps24
 go_wp2
 go_loopg [5,10] n (fun k v5 v10 wr=> ∃j:Nat,v10= .int .i64 (j:Int)∧j+k=n∧v5= .string ⟨(joinS p 0 (ss.take j)).toArray⟩∧Fr [] w wr)
 case atStart=>exact ⟨0,rfl,by omega,by simp [joinS],Fr.refl _ _⟩
 case round=>
  obtain ⟨j,rfl,hj,rfl,hF⟩:=hrel
  by_cases hk:gk=0
  ·subst hk
   obtain rfl:j=n:=by omega
   have tz: ¬(j:Int)<(j:Int):=by omega
   go_wp2
   go_ret
   exact ⟨by rw [List.take_of_length_le (by rw [hnn.out];omega)];rfl,hF⟩
  ·obtain ⟨g',rfl⟩: ∃g',gk=g'+1:=⟨gk-1,by omega⟩
   have hjn:j<n:=by omega
   have hjl:j<ss.length:=by rw [hnn.out];omega
   have tz:(j:Int)<(n:Int):=by omega
   obtain ⟨g,o,c',he,hcn,hcell⟩: ∃g o c',(Value.slice ao n c)= .slice (some ⟨g,o,none⟩) ss.length c'∧ss.length≤c'∧ ∀j (h:j<ss.length),wr.cell? ⟨g,o+j,none⟩=some (.string ⟨ss[j].toArray⟩):=by
    have h2:=hS.out.fr hF
    rw [hnn.out] at h2
    rcases h2 with ⟨h0,_⟩|⟨g,o,c',h1,h2,h3⟩
    ·rw [h0] at hjl;simp at hjl
    ·rw [hnn.out] at h1 h2;exact ⟨g,o,c',by rw [h1,hnn.out],by rw [hnn.out];exact h2,h3⟩
   rw [hnn.out] at he
   cases he
   have cj:=hcell j hjl
   have hst:=joinS_take p ss j hjl
   have hle:=joinS_le p ss 0 (j+1)
   rw [hst] at hle
   simp only [List.length_append] at hle
   obtain ⟨sj,hsj⟩: ∃sj,ss[j]=sj:=⟨_,rfl⟩
   rw [hsj] at cj hst hle
   obtain ⟨A,hA⟩: ∃A,joinS p 0 (ss.take j)=A:=⟨_,rfl⟩
   rw [hA] at hst hle ⊢
   replace hst:=Hz hst
   clear hcell hsj hA hS hcn
   have q1: ¬9223372036854775807<A.length+2:=by omega
   have q2: ¬9223372036854775807<A.length+2+sj.length:=by omega
   have q3: ¬9223372036854775807<A.length+sj.length:=by omega
   by_cases hs:p=true∧j%2=1
   ·have es:sepS p j=[58,32]:=by rw [sepS,if_pos hs]
    obtain ⟨rfl,hodd⟩:=hs
    have zo:(j:Int)%2=1:=by omega
    rw [es] at hst
    go_wp2
    go_roundg g'
    case measure=>omega
    case rel=>exact ⟨j+1,by go_num,by omega,by rw [hst.out,show (⟨#[58,32]⟩:ByteArray)=⟨([58,32]:List UInt8).toArray⟩ from rfl,mk_append,mk_append,List.append_assoc],hF⟩
   ·by_cases h0:0<j
    ·have es:sepS p j=[44,32]:=by rw [sepS,if_neg hs,if_pos h0]
     have z0:(0:Int)<(j:Int):=by omega
     rw [es] at hst
     cases p with
     |false=>
      clear hs
      go_wp2
      go_roundg g'
      case measure=>omega
      case rel=>exact ⟨j+1,by go_num,by omega,by rw [hst.out,show (⟨#[44,32]⟩:ByteArray)=⟨([44,32]:List UInt8).toArray⟩ from rfl,mk_append,mk_append,List.append_assoc],hF⟩
     |true=>
      have hj2:j%2≠1:=fun e=>hs ⟨rfl,e⟩
      have zo:(j:Int)%2=0:=by omega
      clear hs
      go_wp2
      go_roundg g'
      case measure=>omega
      case rel=>exact ⟨j+1,by go_num,by omega,by rw [hst.out,show (⟨#[44,32]⟩:ByteArray)=⟨([44,32]:List UInt8).toArray⟩ from rfl,mk_append,mk_append,List.append_assoc],hF⟩
    ·obtain rfl:j=0:=by omega
     have es:sepS p 0=[]:=by rw [sepS,if_neg hs,if_neg h0]
     rw [es] at hst
     rw [Nat.add_zero] at cj
     clear hs
     cases p
     all_goals
      go_wp2
      go_roundg g'
      case measure=>omega
      case rel=>exact ⟨0+1,by go_num,by omega,by rw [hst.out,mk_append,List.nil_append],hF⟩
end
section
open Go.RowKit
def Fits2 (ss:List (List UInt8)):Prop:=ss.length≤2147483647∧ ∀s,s∈ss→s.length≤2147483647
instance (ss:List (List UInt8)):Decidable (Fits2 ss):=inferInstanceAs (Decidable (_∧_))
theorem fits_take {ss:List (List UInt8)} {j:Nat} (h:j<ss.length):(∀s,s∈ss.take (j+1)→s.length≤2147483647)↔(∀s,s∈ss.take j→s.length≤2147483647)∧ss[j].length≤2147483647:=by
 rw [List.take_succ_eq_append_getElem h]
 constructor
 ·exact fun g=>⟨fun s hs=>g s (List.mem_append_left _ hs),g _ (List.mem_append_right _ (List.mem_singleton.2 rfl))⟩
 ·rintro ⟨g1,g2⟩ s hs
  rcases List.mem_append.1 hs with hs|hs
  ·exact g1 s hs
  ·simp at hs;subst hs;exact g2
theorem zzFits2 {w:World} {v:Value} {ss:List (List UInt8)} (hS:Strs w v ss):
  Calls Tryz.prog 21 #[v] w fun e w'=>e= .returned (.bool (decide (Fits2 ss)))∧Fr [] w w':=by
 have hv: ∃ao c,v= .slice ao ss.length c:=by
  rcases hS with ⟨h0,ao,c,h⟩|⟨g,o,c,h,_⟩
  ·exact ⟨ao,c,by rw [h0];exact h⟩
  ·exact ⟨_,c,h⟩
 obtain ⟨ao,c,rfl⟩:=hv
 replace hS:=Hz hS
 obtain ⟨B,hB⟩: ∃B,decide (Fits2 ss)=B:=⟨_,rfl⟩
 rw [hB]
 replace hB:=Hz hB
 obtain ⟨n,hnn⟩: ∃n,ss.length=n:=⟨_,rfl⟩
 rw [hnn]
 by_cases hn:n≤2147483647
 ·have tn: ¬(2147483647:Int)<(n:Int):=by omega
  replace hnn:=Hz hnn
  go_enter Tryz.func21,Tryz.ntmps21
  go_wp2
  go_loopg [10] n (fun k v10 wr=> ∃j:Nat,v10= .int .i64 (j:Int)∧j+k=n∧Hid (∀s,s∈ss.take j→s.length≤2147483647)∧Fr [] w wr)
  case atStart=>exact ⟨0,rfl,by omega,Hz (by simp),Fr.refl _ _⟩
  case round=>
   obtain ⟨j,rfl,hj,hall,hF⟩:=hrel
   by_cases hk:gk=0
   ·subst hk
    obtain rfl:j=n:=by omega
    have tz: ¬(j:Int)<(j:Int):=by omega
    obtain rfl:true=B:=by
     rw [←hB.out]
     have:=hall.out
     rw [List.take_of_length_le (by rw [hnn.out];omega)] at this
     exact (decide_eq_true ⟨by rw [hnn.out];exact hn,this⟩).symm
    go_wp2
    go_ret
    exact ⟨rfl,hF⟩
   ·obtain ⟨g',rfl⟩: ∃g',gk=g'+1:=⟨gk-1,by omega⟩
    have hjn:j<n:=by omega
    have hjl:j<ss.length:=by rw [hnn.out];omega
    have tz:(j:Int)<(n:Int):=by omega
    obtain ⟨g,o,c',he,hcell⟩: ∃g o c',(Value.slice ao n c)= .slice (some ⟨g,o,none⟩) ss.length c'∧ ∀j (h:j<ss.length),wr.cell? ⟨g,o+j,none⟩=some (.string ⟨ss[j].toArray⟩):=by
     have h2:=hS.out.fr hF
     rw [hnn.out] at h2
     rcases h2 with ⟨h0,_⟩|⟨g,o,c',h1,h2,h3⟩
     ·rw [h0] at hjl;simp at hjl
     ·rw [hnn.out] at h1;exact ⟨g,o,c',by rw [h1,hnn.out],h3⟩
    rw [hnn.out] at he
    cases he
    have cj:=hcell j hjl
    have hft:=Hz (fits_take hjl)
    have hmem:ss[j]∈ss:=List.getElem_mem hjl
    obtain ⟨sj,hsj⟩: ∃sj,ss[j]=sj:=⟨_,rfl⟩
    rw [hsj] at cj hft hmem
    have hcj:Hid (wr.cell? ⟨g,o+j,none⟩=some (.string ⟨sj.toArray⟩)):=Hz cj
    replace hmem:=Hz hmem
    clear hcell hsj hS
    by_cases hs:sj.length≤2147483647
    ·have ts: ¬(2147483647:Int)<(sj.length:Int):=by omega
     have hall2:Hid (∀s,s∈ss.take (j+1)→s.length≤2147483647):=Hz (hft.out.2 ⟨hall.out,hs⟩)
     clear hs hjl
     rcases Nat.eq_zero_or_pos j with h0|h0
     ·subst h0
      rw [Nat.add_zero] at cj
      go_wp2
      go_roundg g'
      case measure=>omega
      case rel=>exact ⟨0+1,by go_num,by omega,hall2,hF⟩
     ·go_wp2
      go_roundg g'
      case measure=>omega
      case rel=>exact ⟨j+1,by go_num,by omega,hall2,hF⟩
    ·have ts:(2147483647:Int)<(sj.length:Int):=by omega
     obtain rfl:false=B:=by
      rw [←hB.out]
      exact (decide_eq_false (fun e=>hs (e.2 _ hmem.out))).symm
     clear hs hjl
     rcases Nat.eq_zero_or_pos j with h0|h0
     ·subst h0
      rw [Nat.add_zero] at cj
      go_wp2
      go_ret
      exact ⟨rfl,hF⟩
     ·go_wp2
      go_ret
      exact ⟨rfl,hF⟩
 ·have tn:(2147483647:Int)<(n:Int):=by omega
  obtain rfl:false=B:=by
   rw [←hB.out]
   exact (decide_eq_false (fun e=>hn (hnn▸e.1))).symm
  go_enter Tryz.func21,Tryz.ntmps21
  go_wp2
  go_ret
  exact ⟨rfl,Fr.refl _ _⟩
end
section
open Go.RowKit
def Tr.ks:Tr→List Tr
 | .chk _ l=>l
 | .arr _ l=>l
 | .map _ l=>l
 | .tag _ t=>[t]
 |_=>[]
theorem gn_ks (t:Tr):(gn t).ks=gns t.ks:=by
 cases t<;>simp [gn,Gn.ks,Tr.ks,gns]
theorem gns_get: ∀(l:List Tr) (j:Nat),(gns l)[j]? =l[j]?.map gn
 |[],j=>by simp [gns]
 |t::l,0=>by simp [gns]
 |t::l,j+1=>by simp [gns,gns_get l j]
theorem mem_sizeOf {u:Tr}: ∀{l:List Tr},u∈l→SizeOf.sizeOf u<SizeOf.sizeOf l
 |[],h=>by cases h
 |v::l,h=>by
  rcases List.mem_cons.1 h with rfl|h
  ·simp;omega
  ·have:=mem_sizeOf h
   simp
   omega
theorem ks_lt {t u:Tr} (h:u∈t.ks):SizeOf.sizeOf u<SizeOf.sizeOf t:=by
 cases t with
 |chk tx l=>have:=mem_sizeOf (l:=l) h;simp;omega
 |arr o l=>have:=mem_sizeOf (l:=l) h;simp;omega
 |map o l=>have:=mem_sizeOf (l:=l) h;simp;omega
 |tag n t=>simp [Tr.ks] at h;subst h;simp;omega
 |int neg n=>simp [Tr.ks] at h
 |str tx b=>simp [Tr.ks] at h
 |prim ai v=>simp [Tr.ks] at h
def Tr.hm:Tr→Nat
 | .tag _ t=>(gn t).maj
 |_=>0
theorem snd_unf (V:List UInt8→Bool) (t:Tr):t.snd V=(!((gn t).maj==3&&((gn t).opn==false)&& !V (gn t).tex)&& !((gn t).maj==6&&((gn t).num==2||(gn t).num==3)&&t.hm !=2)&&Tr.snds V t.ks):=by
 cases t with
 |str tx b=>cases tx<;>simp [Tr.snd,gn,Gn.maj,Gn.opn,Gn.tex,Gn.num,majS,Tr.ks,Tr.snds]
 |chk tx l=>cases tx<;>simp [Tr.snd,gn,Gn.maj,Gn.opn,Gn.tex,Gn.num,majS,Tr.ks,Tr.snds]
 |int neg n=>cases neg<;>simp [Tr.snd,gn,Gn.maj,Gn.opn,Gn.tex,Gn.num,majS,Tr.ks,Tr.snds]
 |arr o l=>simp [Tr.snd,gn,Gn.maj,Gn.opn,Gn.tex,Gn.num,majS,Tr.ks,Tr.snds]
 |map o l=>simp [Tr.snd,gn,Gn.maj,Gn.opn,Gn.tex,Gn.num,majS,Tr.ks,Tr.snds]
 |prim ai v=>simp [Tr.snd,gn,Gn.maj,Gn.opn,Gn.tex,Gn.num,majS,Tr.ks,Tr.snds]
 |tag n u=>
  have hb: ∀a b:Bool,(!a||b)= !(a&& !b):=by decide
  cases u with
  |str tx b=>cases tx<;>simp [Tr.snd,gn,Gn.maj,Gn.opn,Gn.tex,Gn.num,Tr.ks,Tr.snds,Tr.hm,majS]
  |chk tx b=>cases tx<;>simp [Tr.snd,gn,Gn.maj,Gn.opn,Gn.tex,Gn.num,Tr.ks,Tr.snds,Tr.hm,majS]
  |int neg n=>cases neg<;>simp [Tr.snd,gn,Gn.maj,Gn.opn,Gn.tex,Gn.num,Tr.ks,Tr.snds,Tr.hm]
  |arr o l=>simp [Tr.snd,gn,Gn.maj,Gn.opn,Gn.tex,Gn.num,Tr.ks,Tr.snds,Tr.hm]
  |map o l=>simp [Tr.snd,gn,Gn.maj,Gn.opn,Gn.tex,Gn.num,Tr.ks,Tr.snds,Tr.hm]
  |tag m t=>simp [Tr.snd,gn,Gn.maj,Gn.opn,Gn.tex,Gn.num,Tr.ks,Tr.snds,Tr.hm]
  |prim ai v=>simp [Tr.snd,gn,Gn.maj,Gn.opn,Gn.tex,Gn.num,Tr.ks,Tr.snds,Tr.hm]
theorem lev_unf (t:Tr):t.lev=Tr.levs t.ks+(if 4≤(gn t).maj∧(gn t).maj≤6 then 1 else 0):=by
 cases t with
 |str tx b=>cases tx<;>simp [Tr.lev,gn,Gn.maj,majS,Tr.ks,Tr.levs]
 |chk tx l=>cases tx<;>simp [Tr.lev,gn,Gn.maj,majS,Tr.ks,Tr.levs]
 |int neg n=>cases neg<;>simp [Tr.lev,gn,Gn.maj,majS,Tr.ks,Tr.levs]
 |arr o l=>simp [Tr.lev,gn,Gn.maj,Tr.ks]
 |map o l=>simp [Tr.lev,gn,Gn.maj,Tr.ks]
 |prim ai v=>simp [Tr.lev,gn,Gn.maj,Tr.ks,Tr.levs]
 |tag n u=>simp [Tr.lev,gn,Gn.maj,Tr.ks,Tr.levs]
theorem snds_take (V:List UInt8→Bool): ∀(l:List Tr),Tr.snds V l=true↔ ∀u,u∈l→u.snd V=true
 |[]=>by simp [Tr.snds]
 |t::l=>by simp [Tr.snds,snds_take V l]
theorem levs_le: ∀(l:List Tr) (u:Tr),u∈l→u.lev≤Tr.levs l
 |[],u,h=>by cases h
 |t::l,u,h=>by
  rw [Tr.levs]
  rcases List.mem_cons.1 h with rfl|h
  ·omega
  ·have:=levs_le l u h;omega
end
section
open Go.RowKit
def argF:List UInt8→Option (Nat×Nat×Nat×List UInt8)
 |[]=>none
 |b::l=>
  if b.toNat%32<24∨b.toNat%32=31 then some (b.toNat/32,b.toNat%32,b.toNat%32,l)
  else if 27<b.toNat%32∨l.length<2^(b.toNat%32-24) then none
  else some (b.toNat/32,b.toNat%32,be (l.take (2^(b.toNat%32-24))),l.drop (2^(b.toNat%32-24)))
def argV:Option (Nat×Nat×Nat×List UInt8)→Value
 |none=> .tuple #[.int .i64 0,.int .i64 0,.int .u64 0,.string ⟨#[]⟩,.bool false]
 |some (m,ai,v,r)=> .tuple #[.int .i64 (m:Int),.int .i64 (ai:Int),.int .u64 (v:Int),.string ⟨r.toArray⟩,.bool true]
theorem str_drop (xs:List UInt8) (k:Nat) (h:k≤xs.length):(⟨xs.toArray⟩:ByteArray).extract k xs.length=⟨(xs.drop k).toArray⟩:=by
 apply ByteArray.ext
 rw [ByteArray.data_extract]
 apply Array.ext'
 simp only [List.extract_toArray,List.extract_eq_take_drop,List.toList_toArray]
 exact List.take_of_length_le (by rw [List.length_drop];omega)
theorem str_take (xs:List UInt8) (k:Nat) (h:k≤xs.length):(⟨xs.toArray⟩:ByteArray).extract 0 k=⟨(xs.take k).toArray⟩:=by
 apply ByteArray.ext
 rw [ByteArray.data_extract]
 apply Array.ext'
 simp [List.extract_eq_take_drop]
theorem be_snoc (bs:List UInt8) (c:UInt8):be (bs++[c])=be bs*256+c.toNat:=by simp [be]
theorem take_snoc (l:List UInt8) (i:Nat) (h:i<l.length):l.take (i+1)=l.take i++[l[i]]:=by
 rw [List.take_add_one,List.getElem?_eq_getElem h];rfl
theorem arg_hd (xs:List UInt8) (off:Nat):match hd xs off with
  | .ok (m,ai,v,o)=>argF (xs.drop off)=some (m,ai,v,xs.drop o)∧ ¬(ai=31∧(m<2∨5<m))∧ ¬(m=7∧ai=24∧v<32)
  | .error _=>argF (xs.drop off)=none∨ ∃m ai v r,argF (xs.drop off)=some (m,ai,v,r)∧((ai=31∧(m<2∨5<m))∨(m=7∧ai=24∧v<32)):=by
 unfold hd
 cases hx:xs[off]? with
 |none=>
  have:xs.drop off=[]:=List.drop_eq_nil_of_le (by simpa using hx)
  rw [this]
  exact .inl rfl
 |some b=>
  obtain ⟨hl,rfl⟩:=List.getElem?_eq_some_iff.1 hx
  have hd:xs.drop off=xs[off]::xs.drop (off+1):=List.drop_eq_getElem_cons hl
  have hb:=xs[off].toNat_lt
  dsimp only
  by_cases h1:xs[off].toNat%32<24
  ·rw [if_pos h1]
   dsimp only
   rw [hd,argF,if_pos (.inl h1)]
   exact ⟨rfl,by omega,by omega⟩
  ·rw [if_neg h1]
   by_cases h2:xs[off].toNat%32<28
   ·rw [if_pos h2]
    by_cases h3:xs.length<off+1+2^(xs[off].toNat%32-24)
    ·rw [if_pos h3]
     dsimp only
     refine .inl ?_
     rw [hd,argF,if_neg (by omega),if_pos (.inr (by rw [List.length_drop];omega))]
    ·rw [if_neg h3]
     have ha:argF (xs.drop off)=some (xs[off].toNat/32,xs[off].toNat%32,be ((xs.drop (off+1)).take (2^(xs[off].toNat%32-24))),xs.drop (off+1+2^(xs[off].toNat%32-24))):=by
      rw [hd,argF,if_neg (by omega),if_neg (by rw [List.length_drop];omega),List.drop_drop]
     by_cases h4:xs[off].toNat/32=7∧xs[off].toNat%32=24∧be ((xs.drop (off+1)).take 1)<32
     ·rw [if_pos h4]
      dsimp only
      refine .inr ⟨_,_,_,_,ha,.inr ⟨h4.1,h4.2.1,?_⟩⟩
      rw [h4.2.1]
      exact h4.2.2
     ·rw [if_neg h4]
      dsimp only
      refine ⟨ha,by omega,fun ⟨e1,e2,e3⟩=>h4 ⟨e1,e2,?_⟩⟩
      rw [e2] at e3
      exact e3
   ·rw [if_neg h2]
    by_cases h5:xs[off].toNat%32=31
    ·rw [if_pos h5]
     have ha:argF (xs.drop off)=some (xs[off].toNat/32,31,31,xs.drop (off+1)):=by
      rw [hd,argF,if_pos (.inr h5),h5]
     by_cases h6:xs[off].toNat/32<2∨5<xs[off].toNat/32
     ·rw [if_pos h6]
      dsimp only
      exact .inr ⟨_,_,_,_,ha,.inl ⟨rfl,h6⟩⟩
     ·rw [if_neg h6]
      dsimp only
      exact ⟨ha,fun h=>h6 h.2,by omega⟩
    ·rw [if_neg h5]
     dsimp only
     refine .inl ?_
     rw [hd,argF,if_neg (by omega),if_pos (.inl (by omega))]
theorem be_lt': ∀(l:List UInt8) (a k:Nat),a<256^k→List.foldl (fun a (b:UInt8)=>a*256+b.toNat) a l<256^(k+l.length)
 |[],a,k,h=>by simpa using h
 |b::l,a,k,h=>by
  have hb:=b.toNat_lt
  have:=be_lt' l (a*256+b.toNat) (k+1) (by rw [Nat.pow_succ];omega)
  rw [List.foldl_cons,List.length_cons,show k+(l.length+1)=k+1+l.length by omega]
  exact this
theorem be_take_lt (l:List UInt8) (i:Nat) (h:i<8):be (l.take i)<72057594037927936:=by
 have h1:=be_lt' (l.take i) 0 0 (by decide)
 rw [Nat.zero_add,List.length_take] at h1
 have h2:=Nat.pow_le_pow_right (n:=256) (by decide) (show min i l.length≤7 by omega)
 exact Nat.lt_of_lt_of_le h1 h2
theorem or8u (x b:Nat) (hx:x<72057594037927936) (hb:b<256):bits .or .u64 ((x:Int)*256) (b:Int)=((x*256+b:Nat):Int):=by
 have h1:=u64_or_nat (x*256) b (by omega) (by omega)
 have t:=Nat.two_pow_add_eq_or_of_lt (i:=8) (b:=b) hb x
 rw [Nat.mul_comm (2^8) x] at t
 rw [show (x:Int)*256=((x*256:Nat):Int) by omega,h1,←t]
theorem res5a {fn:Func} {t u v x y:Tmp} (h:fn.results= #[.tmp t,.tmp u,.tmp v,.tmp x,.tmp y]) (tmps:Array Value) (P:Program) (w:World):
  (results fn tmps).run P w= .ok (.tuple #[tmps.getD t undef,tmps.getD u undef,tmps.getD v undef,tmps.getD x undef,tmps.getD y undef]) w:=by simp [results,h]
theorem str_cons_ne (b:UInt8) (l:List UInt8):((⟨(b::l).toArray⟩:ByteArray)==⟨#[]⟩)=false:=by
 refine Bool.eq_false_iff.2 fun h=> ?_
 have h2:((b::l).toArray==(#[]:Array UInt8))=true:=h
 have h3:=eq_of_beq h2
 simp at h3
theorem argument (s:List UInt8) (hl:s.length≤1099511627776) (w:World):Calls Tryz.prog 95 #[.string ⟨s.toArray⟩] w fun e w'=>e= .returned (argV (argF s))∧Fr [] w w':=by
 cases s with
 |nil=>
  have he:((⟨(#[]:Array UInt8)⟩:ByteArray)==⟨#[]⟩)=true:=by decide
  go_enter Tryz.func95,Tryz.ntmps95
  go_wp2
  refine bodyPost_ret (res5a rfl _ _ _) rfl ?_
  exact ⟨rfl,Fr.refl _ _⟩
 |cons b l=>
  have hb:=b.toNat_lt
  rw [List.length_cons] at hl
  have he:=str_cons_ne b l
  have hx0:((⟨(b::l).toArray⟩:ByteArray)[0]'(by show 0<(b::l).toArray.size;simp))=b:=rfl
  have ha:=and31 b
  have hd1:=str_drop (b::l) 1 (by simp)
  rw [List.length_cons,List.drop_succ_cons,List.drop_zero] at hd1
  have hsz:(⟨(b::l).toArray⟩:ByteArray).size=l.length+1:=by simp [ByteArray.size]
  have hsl:(⟨l.toArray⟩:ByteArray).size=l.length:=by simp [ByteArray.size]
  have hm:(b.toNat:Int)/32=((b.toNat/32:Nat):Int):=by omega
  have hR:argF (b::l)=argF (b::l):=rfl
  conv at hR=>rhs;rw [argF]
  obtain ⟨A,hA⟩: ∃A,A=b.toNat%32:=⟨_,rfl⟩
  obtain ⟨M,hM⟩: ∃M,M=b.toNat/32:=⟨_,rfl⟩
  rw [←hA] at ha hR
  rw [←hM] at hm hR
  have hA32:A<32:=by omega
  have hM8:M<8:=by omega
  clear hA hM
  by_cases c1:A<24∨A=31
  ·rw [if_pos c1] at hR
   rw [hR]
   clear hR
   by_cases c2:A<24
   ·have t1:(A:Int)<24:=by omega
    go_enter Tryz.func95,Tryz.ntmps95
    go_wp2
    go_quiet (fail)
    go_wp2
    refine bodyPost_ret (res5a rfl _ _ _) rfl ?_
    exact ⟨rfl,(Fr.refl _ _).drewN _⟩
   ·obtain rfl:A=31:=by omega
    go_enter Tryz.func95,Tryz.ntmps95
    go_wp2
    go_quiet (fail)
    go_wp2
    refine bodyPost_ret (res5a rfl _ _ _) rfl ?_
    exact ⟨rfl,(Fr.refl _ _).drewN _⟩
  ·rw [if_neg c1] at hR
   by_cases c3:27<A
   ·rw [if_pos (.inl c3)] at hR
    rw [hR]
    clear hR
    have hA3:A=28∨A=29∨A=30:=by omega
    clear c1 c3
    rcases hA3 with rfl|rfl|rfl
    all_goals
     go_enter Tryz.func95,Tryz.ntmps95
     go_wp2
     go_quiet (fail)
     go_wp2
     refine bodyPost_ret (res5a rfl _ _ _) rfl ?_
     exact ⟨rfl,(Fr.refl _ _).drewN _⟩
   ·have hA4:A=24∨A=25∨A=26∨A=27:=by omega
    clear c1 c3
    rcases hA4 with rfl|rfl|rfl|rfl
    ·by_cases c4:l.length<1
     ·rw [if_pos (.inr c4)] at hR
      rw [hR]
      clear hR
      have t4:(l.length:Int)<1:=by omega
      go_enter Tryz.func95,Tryz.ntmps95
      go_wp2
      go_quiet (fail)
      go_wp2
      refine bodyPost_ret (res5a rfl _ _ _) rfl ?_
      exact ⟨rfl,(Fr.refl _ _).drewN _⟩
     ·rw [if_neg (by show ¬(_∨l.length<1);omega)] at hR
      change _=some (M,_,be (l.take 1),l.drop 1) at hR
      rw [hR]
      clear hR
      have t4: ¬(l.length:Int)<1:=by omega
      have hd2:=str_drop l 1 (by omega)
      obtain ⟨r,hr⟩: ∃r,r=l.drop 1:=⟨_,rfl⟩
      rw [←hr] at hd2 ⊢
      clear hr
      go_enter Tryz.func95,Tryz.ntmps95
      go_wp2
      go_quiet (fail)
      go_wp2
      go_loopg [10,11] 1 (fun k v10 v11 wr=> ∃i:Nat,v11= .int .i64 (i:Int)∧i+k=1∧v10= .int .u64 (be (l.take i):Int)∧Fr [] w wr)
      case atStart=>exact ⟨0,by go_num,by omega,by rfl,(Fr.refl _ _).drewN _⟩
      case round=>
       obtain ⟨i,rfl,hi,rfl,hF⟩:=hrel
       by_cases hk:gk=0
       ·subst hk
        obtain rfl:i=1:=by omega
        go_wp2
        go_quiet (fail)
        go_wp2
        refine bodyPost_ret (res5a rfl _ _ _) rfl ?_
        exact ⟨rfl,hF.drewN _⟩
       ·obtain ⟨g,rfl⟩: ∃g,gk=g+1:=⟨gk-1,by omega⟩
        have hil:i<l.length:=by omega
        have t5:(i:Int)<1:=by omega
        have hxi:((⟨l.toArray⟩:ByteArray)[i]'(by show i<l.toArray.size;simpa using hil))=l[i]:=rfl
        have hbl:=l[i].toNat_lt
        have hbt:=be_take_lt l i (by omega)
        have ho:=or8u (be (l.take i)) l[i].toNat (by omega) (by omega)
        rw [←be_snoc,←take_snoc l i hil] at ho
        generalize l[i]=x at hxi hbl ho
        generalize hy:be (l.take (i+1))=y at ho
        go_wp2
        go_roundg g
        case measure=>omega
        case rel=>exact ⟨i+1,by go_num,by omega,by rw [hy],hF⟩
    ·by_cases c4:l.length<2
     ·rw [if_pos (.inr c4)] at hR
      rw [hR]
      clear hR
      have t4:(l.length:Int)<2:=by omega
      go_enter Tryz.func95,Tryz.ntmps95
      go_wp2
      go_quiet (fail)
      go_wp2
      refine bodyPost_ret (res5a rfl _ _ _) rfl ?_
      exact ⟨rfl,(Fr.refl _ _).drewN _⟩
     ·rw [if_neg (by show ¬(_∨l.length<2);omega)] at hR
      change _=some (M,_,be (l.take 2),l.drop 2) at hR
      rw [hR]
      clear hR
      have t4: ¬(l.length:Int)<2:=by omega
      have hd2:=str_drop l 2 (by omega)
      obtain ⟨r,hr⟩: ∃r,r=l.drop 2:=⟨_,rfl⟩
      rw [←hr] at hd2 ⊢
      clear hr
      go_enter Tryz.func95,Tryz.ntmps95
      go_wp2
      go_quiet (fail)
      go_wp2
      go_loopg [10,11] 2 (fun k v10 v11 wr=> ∃i:Nat,v11= .int .i64 (i:Int)∧i+k=2∧v10= .int .u64 (be (l.take i):Int)∧Fr [] w wr)
      case atStart=>exact ⟨0,by go_num,by omega,by rfl,(Fr.refl _ _).drewN _⟩
      case round=>
       obtain ⟨i,rfl,hi,rfl,hF⟩:=hrel
       by_cases hk:gk=0
       ·subst hk
        obtain rfl:i=2:=by omega
        go_wp2
        go_quiet (fail)
        go_wp2
        refine bodyPost_ret (res5a rfl _ _ _) rfl ?_
        exact ⟨rfl,hF.drewN _⟩
       ·obtain ⟨g,rfl⟩: ∃g,gk=g+1:=⟨gk-1,by omega⟩
        have hil:i<l.length:=by omega
        have t5:(i:Int)<2:=by omega
        have hxi:((⟨l.toArray⟩:ByteArray)[i]'(by show i<l.toArray.size;simpa using hil))=l[i]:=rfl
        have hbl:=l[i].toNat_lt
        have hbt:=be_take_lt l i (by omega)
        have ho:=or8u (be (l.take i)) l[i].toNat (by omega) (by omega)
        rw [←be_snoc,←take_snoc l i hil] at ho
        generalize l[i]=x at hxi hbl ho
        generalize hy:be (l.take (i+1))=y at ho
        go_wp2
        go_roundg g
        case measure=>omega
        case rel=>exact ⟨i+1,by go_num,by omega,by rw [hy],hF⟩
    ·by_cases c4:l.length<4
     ·rw [if_pos (.inr c4)] at hR
      rw [hR]
      clear hR
      have t4:(l.length:Int)<4:=by omega
      go_enter Tryz.func95,Tryz.ntmps95
      go_wp2
      go_quiet (fail)
      go_wp2
      refine bodyPost_ret (res5a rfl _ _ _) rfl ?_
      exact ⟨rfl,(Fr.refl _ _).drewN _⟩
     ·rw [if_neg (by show ¬(_∨l.length<4);omega)] at hR
      change _=some (M,_,be (l.take 4),l.drop 4) at hR
      rw [hR]
      clear hR
      have t4: ¬(l.length:Int)<4:=by omega
      have hd2:=str_drop l 4 (by omega)
      obtain ⟨r,hr⟩: ∃r,r=l.drop 4:=⟨_,rfl⟩
      rw [←hr] at hd2 ⊢
      clear hr
      go_enter Tryz.func95,Tryz.ntmps95
      go_wp2
      go_quiet (fail)
      go_wp2
      go_loopg [10,11] 4 (fun k v10 v11 wr=> ∃i:Nat,v11= .int .i64 (i:Int)∧i+k=4∧v10= .int .u64 (be (l.take i):Int)∧Fr [] w wr)
      case atStart=>exact ⟨0,by go_num,by omega,by rfl,(Fr.refl _ _).drewN _⟩
      case round=>
       obtain ⟨i,rfl,hi,rfl,hF⟩:=hrel
       by_cases hk:gk=0
       ·subst hk
        obtain rfl:i=4:=by omega
        go_wp2
        go_quiet (fail)
        go_wp2
        refine bodyPost_ret (res5a rfl _ _ _) rfl ?_
        exact ⟨rfl,hF.drewN _⟩
       ·obtain ⟨g,rfl⟩: ∃g,gk=g+1:=⟨gk-1,by omega⟩
        have hil:i<l.length:=by omega
        have t5:(i:Int)<4:=by omega
        have hxi:((⟨l.toArray⟩:ByteArray)[i]'(by show i<l.toArray.size;simpa using hil))=l[i]:=rfl
        have hbl:=l[i].toNat_lt
        have hbt:=be_take_lt l i (by omega)
        have ho:=or8u (be (l.take i)) l[i].toNat (by omega) (by omega)
        rw [←be_snoc,←take_snoc l i hil] at ho
        generalize l[i]=x at hxi hbl ho
        generalize hy:be (l.take (i+1))=y at ho
        go_wp2
        go_roundg g
        case measure=>omega
        case rel=>exact ⟨i+1,by go_num,by omega,by rw [hy],hF⟩
    ·by_cases c4:l.length<8
     ·rw [if_pos (.inr c4)] at hR
      rw [hR]
      clear hR
      have t4:(l.length:Int)<8:=by omega
      go_enter Tryz.func95,Tryz.ntmps95
      go_wp2
      go_quiet (fail)
      go_wp2
      refine bodyPost_ret (res5a rfl _ _ _) rfl ?_
      exact ⟨rfl,(Fr.refl _ _).drewN _⟩
     ·rw [if_neg (by show ¬(_∨l.length<8);omega)] at hR
      change _=some (M,_,be (l.take 8),l.drop 8) at hR
      rw [hR]
      clear hR
      have t4: ¬(l.length:Int)<8:=by omega
      have hd2:=str_drop l 8 (by omega)
      obtain ⟨r,hr⟩: ∃r,r=l.drop 8:=⟨_,rfl⟩
      rw [←hr] at hd2 ⊢
      clear hr
      go_enter Tryz.func95,Tryz.ntmps95
      go_wp2
      go_quiet (fail)
      go_wp2
      go_loopg [10,11] 8 (fun k v10 v11 wr=> ∃i:Nat,v11= .int .i64 (i:Int)∧i+k=8∧v10= .int .u64 (be (l.take i):Int)∧Fr [] w wr)
      case atStart=>exact ⟨0,by go_num,by omega,by rfl,(Fr.refl _ _).drewN _⟩
      case round=>
       obtain ⟨i,rfl,hi,rfl,hF⟩:=hrel
       by_cases hk:gk=0
       ·subst hk
        obtain rfl:i=8:=by omega
        go_wp2
        go_quiet (fail)
        go_wp2
        refine bodyPost_ret (res5a rfl _ _ _) rfl ?_
        exact ⟨rfl,hF.drewN _⟩
       ·obtain ⟨g,rfl⟩: ∃g,gk=g+1:=⟨gk-1,by omega⟩
        have hil:i<l.length:=by omega
        have t5:(i:Int)<8:=by omega
        have hxi:((⟨l.toArray⟩:ByteArray)[i]'(by show i<l.toArray.size;simpa using hil))=l[i]:=rfl
        have hbl:=l[i].toNat_lt
        have hbt:=be_take_lt l i (by omega)
        have ho:=or8u (be (l.take i)) l[i].toNat (by omega) (by omega)
        rw [←be_snoc,←take_snoc l i hil] at ho
        generalize l[i]=x at hxi hbl ho
        generalize hy:be (l.take (i+1))=y at ho
        go_wp2
        go_roundg g
        case measure=>omega
        case rel=>exact ⟨i+1,by go_num,by omega,by rw [hy],hF⟩
end
end Go.Proofs.YteodinhkhhaafaaGreatDoor
