/- Walks of the program, and plain facts. -/
import Derived.Test.YteodinhkhhaafaaGreatDoorFba
set_option linter.unusedVariables false
set_option linter.unusedSimpArgs false
set_option maxRecDepth 100000
set_option maxHeartbeats 6400000
namespace Go.Proofs.YteodinhkhhaafaaGreatDoor
section
open Go.RowKit
theorem joinD_some {D:Nat} {p:Option (Except Nat (Nat×Nat))} {D' o:Nat} (h:joinD D p=some (.ok (D',o))): ∃D2,p=some (.ok (D2,o))∧D'=max D D2:=by
 unfold joinD at h
 split at h
 ·rename_i D2 o2;injection h with h
  injection h with h
  injection h with h1 h2
  subst h1 h2;exact ⟨_,rfl,rfl⟩
 ·rename_i r hr;subst h;exact absurd rfl (hr D' o)
theorem dp_str (tx:Bool) (b:List UInt8):(Tr.str tx b).dp=0:=by simp [Tr.dp]
theorem dp_chk (tx:Bool) (l:List Tr):(Tr.chk tx l).dp=0:=by simp [Tr.dp]
theorem fits_str (L:Lim) (tx:Bool) (b:List UInt8):(Tr.str tx b).fits L:=by simp [Tr.fits]
theorem enc_str {xs:List UInt8} {t:Tr} {off off':Nat} {b:UInt8} {tx:Bool} (h:Enc xs t off off') (hb:xs[off]? =some b) (hm:b.toNat/32=majS tx) (h31:b.toNat%32≠31): ∃s,t= .str tx s:=by
 have key: ∀m ai v o,hd xs off= .ok (m,ai,v,o)→m=majS tx∧ai≠31:=by
  intro m ai v o hh;obtain ⟨hl,e1,e2⟩:=byte_of_hd hh;obtain ⟨_,e3⟩:=List.getElem?_eq_some_iff.1 hb;subst e3;omega
 have hms:majS tx=2∨majS tx=3:=by cases tx<;>simp [majS]
 cases t with
 |int neg n=>rw [Enc] at h;obtain ⟨ai,h⟩:=h;have:=key _ _ _ _ h;split at this<;>omega
 |str u s=>
  rw [Enc] at h;obtain ⟨ai,v,o,h,_⟩:=h;have:=(key _ _ _ _ h).1;refine ⟨s,?_⟩
  cases u<;>cases tx<;>first|rfl|(simp [majS] at this)
 |chk u l=>rw [Enc] at h;obtain ⟨v,o,h,_⟩:=h;exact absurd rfl (key _ _ _ _ h).2
 |arr o l=>
  cases o with
  |false=>rw [Enc] at h;obtain ⟨ai,o,h,_⟩:=h;have:=key _ _ _ _ h;omega
  |true=>rw [Enc] at h;obtain ⟨ai,o,h,_⟩:=h;have:=key _ _ _ _ h;omega
 |map o l=>
  cases o with
  |false=>rw [Enc] at h;obtain ⟨ai,v,o,h,_⟩:=h;have:=key _ _ _ _ h;omega
  |true=>rw [Enc] at h;obtain ⟨ai,o,h,_⟩:=h;have:=key _ _ _ _ h;omega
 |tag n t=>rw [Enc] at h;obtain ⟨ai,o,h,_⟩:=h;have:=key _ _ _ _ h;omega
 |prim ai v=>rw [Enc] at h;have:=key _ _ _ _ h;omega
theorem wf_enc (L:Lim) (xs:List UInt8): ∀f,
  (∀off dep D o,dep≤L.nest→wfI L xs f off dep=some (.ok (D,o))→ ∃t,Enc xs t off o∧t.fits L∧D=dep+t.dp∧D≤L.nest)∧
  (∀tx off dep D o,dep≤L.nest→wfS L xs f (majS tx) off dep=some (.ok (D,o))→ ∃l,Chunks xs tx l off o∧D=dep)∧
  (∀m i off dep D o,dep≤L.nest→m=4∨m=5→wfO L xs f m i off dep=some (.ok (D,o))→ ∃l,Opens xs l off o∧Tr.fitss L l∧D=dep+Tr.dps l∧D≤L.nest∧(m=4→l=[]∨i+l.length≤L.el)∧(m=5→(i+l.length)%2=0∧(l=[]∨i+l.length≤2*L.pa)))∧
  (∀n off dep D o,dep≤L.nest→wfN L xs f n off dep=some (.ok (D,o))→ ∃l,l.length=n∧Encs xs l off o∧Tr.fitss L l∧D=dep+Tr.dps l∧D≤L.nest)∧
  (∀off dep D o,dep≤L.nest→wfT L xs f off dep=some (.ok (D,o))→ ∃t,Enc xs t off o∧t.fits L∧D=dep+((if t.isTag then 1 else 0)+t.dp)∧D≤L.nest):=by
 intro f
 induction f with
 |zero=>simp [wfI,wfS,wfO,wfN,wfT]
 |succ f ih=>
  obtain ⟨i1,i2,i3,i4,i5⟩:=ih;refine ⟨?_,?_,?_,?_,?_⟩
  ·intro off dep D o' hdep h;rw [wfI] at h;cases hh:hd xs off with
   |error k=>rw [hh] at h;cases h
   |ok q=>
    obtain ⟨m,ai,v,o⟩:=q;obtain ⟨_,hm8,_,_⟩:=hd_off hh;obtain ⟨hv,hol⟩:=hd_val hh;rw [hh] at h;dsimp only at h;by_cases c1:m=2∨m=3
    ·rw [if_pos c1] at h;obtain ⟨tx,htx⟩: ∃tx,majS tx=m:=by
      rcases c1 with rfl|rfl
      ·exact ⟨false,rfl⟩
      ·exact ⟨true,rfl⟩
     subst htx;by_cases c2:ai=31
     ·rw [if_pos c2] at h;subst c2;obtain ⟨l,h1,h2⟩:=i2 _ _ _ _ _ hdep h;exact ⟨.chk tx l,by rw [Enc];exact ⟨v,o,hh,h1⟩,by simp [Tr.fits],by rw [dp_chk];exact h2,by omega⟩
     ·rw [if_neg c2] at h
      split at h
      ·cases h
      ·split at h
       ·cases h
       ·injection h with h
        injection h with h
        injection h with h1 h2
        subst h1 h2;exact ⟨.str tx ((xs.drop o).take v),by rw [Enc];exact ⟨ai,v,o,hh,c2,by omega,by omega,rfl,rfl⟩,fits_str _ _ _,by rw [dp_str];rfl,hdep⟩
    ·rw [if_neg c1] at h;by_cases c3:m=4∨m=5
     ·rw [if_pos c3] at h
      split at h
      ·cases h
      ·rename_i hn
       split at h
       ·rename_i c2;subst c2;obtain ⟨l,h1,h2,h3,h4,h5,h6⟩:=i3 _ _ _ _ _ _ (by omega) c3 h
        rcases c3 with rfl|rfl
        ·refine ⟨.arr true l,by rw [Enc];exact ⟨v,o,hh,h1⟩,?_,by rw [Tr.dp];omega,h4⟩
         rw [Tr.fits];refine ⟨?_,h2⟩
         rcases h5 rfl with rfl|h5
         ·simp
         ·omega
        ·obtain ⟨h7,h8⟩:=h6 rfl;refine ⟨.map true l,by rw [Enc];exact ⟨v,o,hh,by omega,h1⟩,?_,by rw [Tr.dp];omega,h4⟩
         rw [Tr.fits];refine ⟨?_,h2⟩
         rcases h8 with rfl|h8
         ·simp
         ·omega
       ·rename_i c2
        split at h
        ·cases h
        ·split at h
         ·cases h
         ·split at h
          ·cases h
          ·rename_i g1 g2 g3;obtain ⟨l,h1,h2,h3,h4,h5⟩:=i4 _ _ _ _ _ (by omega) h
           rcases c3 with rfl|rfl
           ·refine ⟨.arr false l,by rw [Enc];exact ⟨ai,o,by rw [h1];exact (by rw [hh];simp),c2,h2⟩,?_,by rw [Tr.dp];omega,h5⟩
            rw [Tr.fits];exact ⟨by omega,h3⟩
           ·refine ⟨.map false l,by rw [Enc];exact ⟨ai,v,o,hh,c2,by omega,h2⟩,?_,by rw [Tr.dp];omega,h5⟩
            rw [Tr.fits];exact ⟨by omega,h3⟩
     ·rw [if_neg c3] at h;by_cases c4:m=6
      ·rw [if_pos c4] at h;subst c4;obtain ⟨t,h1,h2,h3,h4⟩:=i5 _ _ _ _ hdep h;exact ⟨.tag v t,by rw [Enc];exact ⟨ai,o,hh,h1⟩,by rw [Tr.fits];exact h2,by rw [dp_tag];exact h3,h4⟩
      ·rw [if_neg c4] at h;injection h with h
       injection h with h
       injection h with h1 h2
       subst h1 h2;rcases (show m=0∨m=1∨m=7 by omega) with rfl|rfl|rfl
       ·exact ⟨.int false v,by rw [Enc];exact ⟨ai,hh⟩,by simp [Tr.fits],by simp [Tr.dp],hdep⟩
       ·exact ⟨.int true v,by rw [Enc];exact ⟨ai,hh⟩,by simp [Tr.fits],by simp [Tr.dp],hdep⟩
       ·exact ⟨.prim ai v,by rw [Enc];exact hh,by simp [Tr.fits],by simp [Tr.dp],hdep⟩
  ·intro tx off dep D o' hdep h;rw [wfS] at h;cases hx:xs[off]? with
   |none=>rw [hx] at h;cases h
   |some b=>
    rw [hx] at h;dsimp only at h;by_cases c1:b.toNat=255
    ·rw [if_pos c1] at h;injection h with h
     injection h with h
     injection h with h1 h2
     subst h1 h2;exact ⟨[],by rw [Chunks];exact ⟨b,hx,c1,rfl⟩,rfl⟩
    ·rw [if_neg c1] at h;by_cases c2:b.toNat/32≠majS tx
     ·rw [if_pos c2] at h;cases h
     ·rw [if_neg c2] at h;by_cases c3:b.toNat%32=31
      ·rw [if_pos c3] at h;cases h
      ·rw [if_neg c3] at h
       split at h
       ·rename_i D1 o1 h1;obtain ⟨t,t1,t2,t3,t4⟩:=i1 _ _ _ _ hdep h1;obtain ⟨s,rfl⟩:=enc_str (tx:=tx) t1 hx (by omega) c3
        rw [dp_str] at t3;subst t3;obtain ⟨l,l1,l2⟩:=i2 _ _ _ _ _ t4 h;exact ⟨.str tx s::l,by rw [Chunks];exact ⟨b,o1,hx,c1,⟨s,rfl⟩,t1,l1⟩,l2⟩
       ·rename_i hne;exact absurd h (hne D o')
  ·intro m i off dep D o' hdep hm h;rw [wfO] at h;cases hx:xs[off]? with
   |none=>rw [hx] at h;cases h
   |some b=>
    rw [hx] at h;dsimp only at h;by_cases c1:b.toNat=255
    ·rw [if_pos c1] at h
     split at h
     ·cases h
     ·rename_i c2;injection h with h
      injection h with h
      injection h with h1 h2
      subst h1 h2;exact ⟨[],by rw [Opens];exact ⟨b,hx,c1,rfl⟩,by rw [Tr.fitss];trivial,by rw [Tr.dps];rfl,hdep,fun _=> .inl rfl,fun e=>⟨by simp;omega,.inl rfl⟩⟩
    ·rw [if_neg c1] at h
     split at h
     ·rename_i D1 o1 h1;obtain ⟨t,t1,t2,t3,t4⟩:=i1 _ _ _ _ hdep h1
      split at h
      ·cases h
      ·rename_i c2
       split at h
       ·cases h
       ·rename_i c3;obtain ⟨D2,h2,h3⟩:=joinD_some h;obtain ⟨l,l1,l2,l3,l4,l5,l6⟩:=i3 _ _ _ _ _ _ hdep hm h2;refine ⟨t::l,by rw [Opens];exact ⟨b,o1,hx,c1,t1,l1⟩,by rw [Tr.fitss];exact ⟨t2,l2⟩,by rw [Tr.dps];omega,by omega,?_,?_⟩
        ·intro e;refine .inr ?_
         rw [List.length_cons];rcases l5 e with rfl|l5
         ·simp;omega
         ·omega
        ·intro e;obtain ⟨g1,g2⟩:=l6 e;rw [List.length_cons];refine ⟨by omega,.inr ?_⟩
         rcases g2 with rfl|g2
         ·simp at g1 ⊢;omega
         ·omega
     ·rename_i hne;exact absurd h (hne D o')
  ·intro n off dep D o' hdep h;cases n with
   |zero=>
    rw [wfN] at h;injection h with h
    injection h with h
    injection h with h1 h2
    subst h1 h2;exact ⟨[],rfl,by rw [Encs],by rw [Tr.fitss];trivial,by rw [Tr.dps];rfl,hdep⟩
   |succ n=>
    rw [wfN] at h
    split at h
    ·rename_i D1 o1 h1;obtain ⟨t,t1,t2,t3,t4⟩:=i1 _ _ _ _ hdep h1;obtain ⟨D2,h2,h3⟩:=joinD_some h;obtain ⟨l,l1,l2,l3,l4,l5⟩:=i4 _ _ _ _ _ hdep h2;exact ⟨t::l,by rw [List.length_cons,l1],by rw [Encs];exact ⟨o1,t1,l2⟩,by rw [Tr.fitss];exact ⟨t2,l3⟩,by rw [Tr.dps];omega,by omega⟩
    ·rename_i hne;exact absurd h (hne D o')
  ·intro off dep D o' hdep h;rw [wfT] at h;cases hx:xs[off]? with
   |none=>rw [hx] at h;cases h
   |some b=>
    rw [hx] at h;dsimp only at h;by_cases c1:b.toNat/32≠6
    ·rw [if_pos c1] at h;obtain ⟨t,t1,t2,t3,t4⟩:=i1 _ _ _ _ hdep h;refine ⟨t,t1,t2,?_,t4⟩
     obtain ⟨b2,e1,e2⟩:=enc_tag t1;rw [hx] at e1;injection e1 with e1
     subst e1;have:t.isTag=false:=by
      cases ht:t.isTag
      ·rfl
      ·exact absurd (e2.2 ht) c1
     rw [this,t3];simp
    ·rw [if_neg c1] at h;cases hh:hd xs off with
     |error k=>rw [hh] at h;cases h
     |ok q=>
      obtain ⟨m,ai,v,o⟩:=q;rw [hh] at h;dsimp only at h;obtain ⟨hl,e1,_⟩:=byte_of_hd hh;obtain ⟨_,e3⟩:=List.getElem?_eq_some_iff.1 hx;subst e3;have hm6:m=6:=by omega
      subst hm6
      split at h
      ·cases h
      ·rename_i hn;obtain ⟨t,t1,t2,t3,t4⟩:=i5 _ _ _ _ (by omega) h
       exact ⟨.tag v t,by rw [Enc];exact ⟨ai,o,hh,t1⟩,by rw [Tr.fits];exact t2,by rw [dp_tag,show (Tr.tag v t).isTag=true from rfl,if_pos rfl];omega,t4⟩
theorem wf_total (L:Lim) (xs:List UInt8): ∀s off,xs.length-off≤s→
  (∀dep,∃f r,wfI L xs f off dep=some r)∧(∀m dep,∃f r,wfS L xs f m off dep=some r)∧(∀m i dep,∃f r,wfO L xs f m i off dep=some r)∧
  (∀n dep,∃f r,wfN L xs f n off dep=some r)∧(∀dep,∃f r,wfT L xs f off dep=some r):=by
 intro s
 induction s with
 |zero=>
  intro off hs;have hx:xs[off]? =none:=List.getElem?_eq_none (by omega)
  have hh:hd xs off= .error 2:=by unfold hd;rw [hx]
  have hI: ∀dep,wfI L xs 1 off dep=some (.error 2):=fun dep=>by rw [wfI,hh]
  refine ⟨fun dep=>⟨1,_,hI dep⟩,fun m dep=>⟨1,.error 2,by rw [wfS,hx]⟩,fun m i dep=>⟨1,.error 2,by rw [wfO,hx]⟩,fun n dep=> ?_,fun dep=>⟨1,.error 2,by rw [wfT,hx]⟩⟩
  cases n with
  |zero=>exact ⟨1,_,by rw [wfN]⟩
  |succ n=>exact ⟨2,.error 2,by rw [wfN,hI]⟩
 |succ s ih=>
  intro off hs;have hT: ∀dep,∃f r,wfI L xs f off dep=some r:=by
   intro dep;cases hh:hd xs off with
   |error k=>exact ⟨1,.error k,by rw [wfI,hh]⟩
   |ok q=>
    obtain ⟨m,ai,v,o⟩:=q;obtain ⟨h1,_,_,_⟩:=hd_off hh;obtain ⟨_,h2⟩:=hd_val hh;obtain ⟨j1,j2,j3,j4,j5⟩:=ih o (by omega)
    have fin: ∀r,(∀f,wfI L xs (f+1) off dep=some r)→ ∃f r,wfI L xs f off dep=some r:=fun r h=>⟨1,r,h 0⟩
    by_cases c1:m=2∨m=3
    ·by_cases c2:ai=31
     ·obtain ⟨f,r,h⟩:=j2 m dep;exact ⟨f+1,r,by rw [wfI,hh];dsimp only;rw [if_pos c1,if_pos c2,h]⟩
     ·by_cases c3:9223372036854775808≤v
      ·exact ⟨1,.error 16,by rw [wfI,hh];dsimp only;rw [if_pos c1,if_neg c2,if_pos c3]⟩
      ·by_cases c4:xs.length-o<v
       ·exact ⟨1,.error 2,by rw [wfI,hh];dsimp only;rw [if_pos c1,if_neg c2,if_neg c3,if_pos c4]⟩
       ·exact ⟨1,.ok (dep,o+v),by rw [wfI,hh];dsimp only;rw [if_pos c1,if_neg c2,if_neg c3,if_neg c4]⟩
    ·by_cases c3:m=4∨m=5
     ·by_cases c4:L.nest<dep+1
      ·exact ⟨1,.error 5,by rw [wfI,hh];dsimp only;rw [if_neg c1,if_pos c3,if_pos c4]⟩
      ·by_cases c2:ai=31
       ·obtain ⟨f,r,h⟩:=j3 m 0 (dep+1);exact ⟨f+1,r,by rw [wfI,hh];dsimp only;rw [if_neg c1,if_pos c3,if_neg c4,if_pos c2,h]⟩
       ·by_cases c5:9223372036854775808≤v
        ·exact ⟨1,.error 16,by rw [wfI,hh];dsimp only;rw [if_neg c1,if_pos c3,if_neg c4,if_neg c2,if_pos c5]⟩
        ·by_cases c6:m=4∧L.el<v
         ·exact ⟨1,.error 6,by rw [wfI,hh];dsimp only;rw [if_neg c1,if_pos c3,if_neg c4,if_neg c2,if_neg c5,if_pos c6]⟩
         ·by_cases c7:m=5∧L.pa<v
          ·exact ⟨1,.error 7,by rw [wfI,hh];dsimp only;rw [if_neg c1,if_pos c3,if_neg c4,if_neg c2,if_neg c5,if_neg c6,if_pos c7]⟩
          ·obtain ⟨f,r,h⟩:=j4 (v*(m-3)) (dep+1);exact ⟨f+1,r,by rw [wfI,hh];dsimp only;rw [if_neg c1,if_pos c3,if_neg c4,if_neg c2,if_neg c5,if_neg c6,if_neg c7,h]⟩
     ·by_cases c6:m=6
      ·obtain ⟨f,r,h⟩:=j5 dep;exact ⟨f+1,r,by rw [wfI,hh];dsimp only;rw [if_neg c1,if_neg c3,if_pos c6,h]⟩
      ·exact ⟨1,.ok (dep,o),by rw [wfI,hh];dsimp only;rw [if_neg c1,if_neg c3,if_neg c6]⟩
  have next: ∀dep f D o,wfI L xs f off dep=some (.ok (D,o))→off<xs.length→xs.length-o≤s:=by
   intro dep f D o h hl;have:=(wfI_off L xs f).1 _ _ _ _ h;omega
  refine ⟨hT,?_,?_,?_,?_⟩
  ·intro m dep;cases hx:xs[off]? with
   |none=>exact ⟨1,.error 2,by rw [wfS,hx]⟩
   |some b=>
    obtain ⟨hl,_⟩:=List.getElem?_eq_some_iff.1 hx;by_cases c1:b.toNat=255
    ·exact ⟨1,.ok (dep,off+1),by rw [wfS,hx];dsimp only;rw [if_pos c1]⟩
    ·by_cases c2:b.toNat/32≠m
     ·exact ⟨1,.error 3,by rw [wfS,hx];dsimp only;rw [if_neg c1,if_pos c2]⟩
     ·by_cases c3:b.toNat%32=31
      ·exact ⟨1,.error 3,by rw [wfS,hx];dsimp only;rw [if_neg c1,if_neg c2,if_pos c3]⟩
      ·obtain ⟨f,r,h⟩:=hT dep;cases r with
       |error k=>exact ⟨f+1,.error k,by rw [wfS,hx];dsimp only;rw [if_neg c1,if_neg c2,if_neg c3,h]⟩
       |ok q=>
        obtain ⟨D,o⟩:=q;obtain ⟨g,r2,h2⟩:=(ih o (next _ _ _ _ h hl)).2.1 m D;refine ⟨max f g+1,r2,?_⟩
        rw [wfS,hx];dsimp only;rw [if_neg c1,if_neg c2,if_neg c3,(wf_le L xs (Nat.le_max_left f g)).1 _ _ _ h];exact (wf_le L xs (Nat.le_max_right f g)).2.1 _ _ _ _ h2
  ·intro m i dep;cases hx:xs[off]? with
   |none=>exact ⟨1,.error 2,by rw [wfO,hx]⟩
   |some b=>
    obtain ⟨hl,_⟩:=List.getElem?_eq_some_iff.1 hx;by_cases c1:b.toNat=255
    ·by_cases c2:m=5∧i%2=1
     ·exact ⟨1,.error 3,by rw [wfO,hx];dsimp only;rw [if_pos c1,if_pos c2]⟩
     ·exact ⟨1,.ok (dep,off+1),by rw [wfO,hx];dsimp only;rw [if_pos c1,if_neg c2]⟩
    ·obtain ⟨f,r,h⟩:=hT dep;cases r with
     |error k=>exact ⟨f+1,.error k,by rw [wfO,hx];dsimp only;rw [if_neg c1,h]⟩
     |ok q=>
      obtain ⟨D,o⟩:=q;by_cases c4:m=4∧L.el<i+1
      ·exact ⟨f+1,.error 6,by rw [wfO,hx];dsimp only;rw [if_neg c1,h];dsimp only;rw [if_pos c4]⟩
      ·by_cases c5:m≠4∧(i+1)%2=0∧L.pa<(i+1)/2
       ·exact ⟨f+1,.error 7,by rw [wfO,hx];dsimp only;rw [if_neg c1,h];dsimp only;rw [if_neg c4,if_pos c5]⟩
       ·obtain ⟨g,r2,h2⟩:=(ih o (next _ _ _ _ h hl)).2.2.1 m (i+1) dep;refine ⟨max f g+1,(match r2 with| .ok (D',o')=> .ok (max D D',o')| .error k=> .error k),?_⟩
        rw [wfO,hx];dsimp only;rw [if_neg c1,(wf_le L xs (Nat.le_max_left f g)).1 _ _ _ h];dsimp only;rw [if_neg c4,if_neg c5,(wf_le L xs (Nat.le_max_right f g)).2.2.1 _ _ _ _ _ h2];cases r2 with
        |error k=>rfl
        |ok q=>rfl
  ·intro n dep;cases n with
   |zero=>exact ⟨1,_,by rw [wfN]⟩
   |succ n=>
    obtain ⟨f,r,h⟩:=hT dep;cases r with
    |error k=>exact ⟨f+1,.error k,by rw [wfN,h]⟩
    |ok q=>
     obtain ⟨D,o⟩:=q;have hl:off<xs.length:=by
      cases f with
      |zero=>rw [wfI] at h;cases h
      |succ f=>
       rw [wfI] at h;cases hh:hd xs off with
       |error k=>rw [hh] at h;cases h
       |ok q=>obtain ⟨m,ai,v,o⟩:=q;exact (byte_of_hd hh).1
     obtain ⟨g,r2,h2⟩:=(ih o (next _ _ _ _ h hl)).2.2.2.1 n dep;refine ⟨max f g+1,(match r2 with| .ok (D',o')=> .ok (max D D',o')| .error k=> .error k),?_⟩
     rw [wfN];rw [(wf_le L xs (Nat.le_max_left f g)).1 _ _ _ h];dsimp only;rw [(wf_le L xs (Nat.le_max_right f g)).2.2.2.1 _ _ _ _ h2];cases r2 with
     |error k=>rfl
     |ok q=>rfl
  ·intro dep;cases hx:xs[off]? with
   |none=>exact ⟨1,.error 2,by rw [wfT,hx]⟩
   |some b=>
    obtain ⟨hl,_⟩:=List.getElem?_eq_some_iff.1 hx;by_cases c1:b.toNat/32≠6
    ·obtain ⟨f,r,h⟩:=hT dep;exact ⟨f+1,r,by rw [wfT,hx];dsimp only;rw [if_pos c1,h]⟩
    ·cases hh:hd xs off with
     |error k=>exact ⟨1,.error k,by rw [wfT,hx];dsimp only;rw [if_neg c1,hh]⟩
     |ok q=>
      obtain ⟨m,ai,v,o⟩:=q;obtain ⟨h1,_,_,_⟩:=hd_off hh;obtain ⟨_,h2⟩:=hd_val hh;by_cases c4:L.nest<dep+1
      ·exact ⟨1,.error 5,by rw [wfT,hx];dsimp only;rw [if_neg c1,hh];dsimp only;rw [if_pos c4]⟩
      ·obtain ⟨f,r,h⟩:=(ih o (by omega)).2.2.2.2 (dep+1)
       exact ⟨f+1,r,by rw [wfT,hx];dsimp only;rw [if_neg c1,hh];dsimp only;rw [if_neg c4,h]⟩
mutual
def Tr.ht:Tr→Nat
 | .chk _ _=>2
 | .arr _ l=>1+Tr.hts l
 | .map _ l=>1+Tr.hts l
 | .tag _ t=>1+t.ht
 |_=>1
def Tr.hts:List Tr→Nat
 |[]=>0
 |t::l=>max t.ht (Tr.hts l)
end
mutual
theorem ht_dp: ∀t:Tr,t.ht≤2*t.dp+2+(if t.isTag then 1 else 0)
 | .int _ _=>by simp [Tr.ht];omega
 | .str _ _=>by simp [Tr.ht];omega
 | .chk _ _=>by simp [Tr.ht];omega
 | .arr _ l=>by have:=hts_dps l;rw [Tr.ht,Tr.dp];omega
 | .map _ l=>by have:=hts_dps l;rw [Tr.ht,Tr.dp];omega
 | .tag _ t=>by
  have:=ht_dp t;rw [Tr.ht,dp_tag,show (Tr.tag _ t).isTag=true from rfl,if_pos rfl]
  omega
 | .prim _ _=>by simp [Tr.ht];omega
theorem hts_dps: ∀l:List Tr,Tr.hts l≤2*Tr.dps l+3
 |[]=>by rw [Tr.hts];omega
 |t::l=>by
  have h1:=ht_dp t;have h2:=hts_dps l;rw [Tr.hts,Tr.dps]
  split at h1<;>omega
end
mutual
theorem enc_off {xs:List UInt8}: ∀(t:Tr) (off o:Nat),Enc xs t off o→off<o∧o≤xs.length
 | .int neg n,off,o,h=>by
  rw [Enc] at h;obtain ⟨ai,h⟩:=h;exact ⟨(hd_off h).1,(hd_val h).2⟩
 | .str tx b,off,o,h=>by
  rw [Enc] at h;obtain ⟨ai,v,o1,h,h1,h2,h3,h4,h5⟩:=h;have:=(hd_off h).1;omega
 | .chk tx l,off,o,h=>by
  rw [Enc] at h;obtain ⟨v,o1,h,hc⟩:=h;have:=(hd_off h).1;have:=chunks_off tx l _ _ hc;omega
 | .arr false l,off,o,h=>by
  rw [Enc] at h;obtain ⟨ai,o1,h,_,hc⟩:=h;have:=(hd_off h).1;have:=encs_off l _ _ hc (hd_val h).2;omega
 | .arr true l,off,o,h=>by
  rw [Enc] at h;obtain ⟨v,o1,h,hc⟩:=h;have:=(hd_off h).1;have:=opens_off l _ _ hc;omega
 | .map false l,off,o,h=>by
  rw [Enc] at h;obtain ⟨ai,v,o1,h,_,_,hc⟩:=h;have:=(hd_off h).1;have:=encs_off l _ _ hc (hd_val h).2;omega
 | .map true l,off,o,h=>by
  rw [Enc] at h;obtain ⟨v,o1,h,_,hc⟩:=h;have:=(hd_off h).1;have:=opens_off l _ _ hc;omega
 | .tag n t,off,o,h=>by
  rw [Enc] at h;obtain ⟨ai,o1,h,hc⟩:=h;have:=(hd_off h).1;have:=enc_off t _ _ hc;omega
 | .prim ai v,off,o,h=>by
  rw [Enc] at h;exact ⟨(hd_off h).1,(hd_val h).2⟩
theorem encs_off {xs:List UInt8}: ∀(l:List Tr) (off o:Nat),Encs xs l off o→off≤xs.length→off+l.length≤o∧o≤xs.length
 |[],off,o,h,hl=>by rw [Encs] at h;subst h;simp;exact hl
 |t::l,off,o,h,hl=>by
  rw [Encs] at h;obtain ⟨mid,h1,h2⟩:=h;have a:=enc_off t _ _ h1;have b:=encs_off l _ _ h2 a.2;rw [List.length_cons];omega
theorem opens_off {xs:List UInt8}: ∀(l:List Tr) (off o:Nat),Opens xs l off o→off+l.length<o∧o≤xs.length
 |[],off,o,h=>by
  rw [Opens] at h;obtain ⟨b,hb,_,rfl⟩:=h;have:=(List.getElem?_eq_some_iff.1 hb).1;simp;omega
 |t::l,off,o,h=>by
  rw [Opens] at h;obtain ⟨b,mid,hb,_,h1,h2⟩:=h;have a:=enc_off t _ _ h1;have b:=opens_off l _ _ h2;rw [List.length_cons];omega
theorem chunks_off {xs:List UInt8} (tx:Bool): ∀(l:List Tr) (off o:Nat),Chunks xs tx l off o→off+l.length<o∧o≤xs.length
 |[],off,o,h=>by
  rw [Chunks] at h;obtain ⟨b,hb,_,rfl⟩:=h;have:=(List.getElem?_eq_some_iff.1 hb).1;simp;omega
 |t::l,off,o,h=>by
  rw [Chunks] at h;obtain ⟨b,mid,hb,_,_,h1,h2⟩:=h;have a:=enc_off t _ _ h1;have b:=chunks_off tx l _ _ h2;rw [List.length_cons];omega
end
mutual
theorem enc_tree {xs:List UInt8}: ∀(t:Tr) (k off o:Nat),Enc xs t off o→t.ht≤k→treeF xs k off=some (t,o)
 |t,0,off,o,h,hk=>by
  exfalso
  cases t<;>simp [Tr.ht] at hk
 | .int neg n,k+1,off,o,h,hk=>by
  rw [Enc] at h;obtain ⟨ai,h⟩:=h;rw [treeF,h];cases neg<;>rfl
 | .str tx b,k+1,off,o,h,hk=>by
  rw [Enc] at h;obtain ⟨ai,v,o1,h,h1,h2,h3,h4,h5⟩:=h;subst h4 h5;rw [treeF];cases tx
  ·rw [show hd xs off= .ok (2,ai,v,o1) from h]
   dsimp only;rw [if_neg (by omega),if_pos (by omega),if_neg h1,if_neg (by omega)]
   rfl
  ·rw [show hd xs off= .ok (3,ai,v,o1) from h]
   dsimp only;rw [if_neg (by omega),if_pos (by omega),if_neg h1,if_neg (by omega)]
   rfl
 | .chk tx l,k+1,off,o,h,hk=>by
  rw [Enc] at h;obtain ⟨v,o1,h,hc⟩:=h;rw [Tr.ht] at hk;obtain ⟨k,rfl⟩: ∃j,k=j+1:=⟨k-1,by omega⟩
  have hl:=chunks_off tx l _ _ hc;have:=chunks_tree tx l k _ _ (xs.length+1) hc (by omega)
  rw [treeF];cases tx
  ·rw [show hd xs off= .ok (2,31,v,o1) from h]
   dsimp only;rw [if_neg (by omega),if_pos (by omega),if_pos rfl,show ((2:Nat)==3)=false from rfl,this]
   rfl
  ·rw [show hd xs off= .ok (3,31,v,o1) from h]
   dsimp only;rw [if_neg (by omega),if_pos (by omega),if_pos rfl,show ((3:Nat)==3)=true from rfl,this]
   rfl
 | .arr false l,k+1,off,o,h,hk=>by
  rw [Enc] at h;obtain ⟨ai,o1,h,h31,hc⟩:=h;rw [Tr.ht] at hk;have hl:=encs_off l _ _ hc (hd_val h).2;have:=encs_tree l k _ _ hc (by omega)
  rw [treeF,h];dsimp only;rw [if_neg (by omega),if_neg (by omega),if_pos rfl,if_neg h31,if_neg (by omega),this]
  rfl
 | .arr true l,k+1,off,o,h,hk=>by
  rw [Enc] at h;obtain ⟨v,o1,h,hc⟩:=h;rw [Tr.ht] at hk;have hl:=opens_off l _ _ hc;have:=opens_tree l k _ _ (xs.length+1) hc (by omega) (by omega)
  rw [treeF,h];dsimp only;rw [if_neg (by omega),if_neg (by omega),if_pos rfl,if_pos rfl,this]
  rfl
 | .map false l,k+1,off,o,h,hk=>by
  rw [Enc] at h;obtain ⟨ai,v,o1,h,h31,hv,hc⟩:=h;rw [Tr.ht] at hk;have hl:=encs_off l _ _ hc (hd_val h).2;have:=encs_tree l k _ _ hc (by omega)
  rw [hv] at this;rw [treeF,h];dsimp only;rw [if_neg (by omega),if_neg (by omega),if_neg (by omega),if_pos rfl,if_neg h31,if_neg (by omega),this]
  rfl
 | .map true l,k+1,off,o,h,hk=>by
  rw [Enc] at h;obtain ⟨v,o1,h,h2,hc⟩:=h;rw [Tr.ht] at hk;have hl:=opens_off l _ _ hc;have:=opens_tree l k _ _ (xs.length+1) hc (by omega) (by omega)
  rw [treeF,h];dsimp only;rw [if_neg (by omega),if_neg (by omega),if_neg (by omega),if_pos rfl,if_pos rfl,this]
  dsimp only [Option.bind];rw [if_pos h2]
 | .tag n t,k+1,off,o,h,hk=>by
  rw [Enc] at h;obtain ⟨ai,o1,h,hc⟩:=h;rw [Tr.ht] at hk;have:=enc_tree t k _ _ hc (by omega)
  rw [treeF,h];dsimp only;rw [if_neg (by omega),if_neg (by omega),if_neg (by omega),if_neg (by omega),if_pos rfl,this]
  rfl
 | .prim ai v,k+1,off,o,h,hk=>by
  rw [Enc] at h;rw [treeF,h];dsimp only;rw [if_neg (by omega),if_neg (by omega),if_neg (by omega),if_neg (by omega),if_neg (by omega)]
theorem encs_tree {xs:List UInt8}: ∀(l:List Tr) (k off o:Nat),Encs xs l off o→Tr.hts l≤k→kidsF (treeF xs k) l.length off=some (l,o)
 |[],k,off,o,h,hk=>by rw [Encs] at h;subst h;rfl
 |t::l,k,off,o,h,hk=>by
  rw [Encs] at h;obtain ⟨mid,h1,h2⟩:=h;rw [Tr.hts] at hk;rw [List.length_cons,kidsF,enc_tree t k _ _ h1 (by omega)]
  dsimp only;rw [encs_tree l k _ _ h2 (by omega)]
theorem opens_tree {xs:List UInt8}: ∀(l:List Tr) (k off o g:Nat),Opens xs l off o→Tr.hts l≤k→l.length<g→openF (treeF xs k) (fun _=>true) xs g off=some (l,o)
 |l,k,off,o,0,h,hk,hg=>absurd hg (by omega)
 |[],k,off,o,g+1,h,hk,hg=>by
  rw [Opens] at h;obtain ⟨b,hb,h255,rfl⟩:=h;rw [openF,hb];dsimp only;rw [if_pos h255]
 |t::l,k,off,o,g+1,h,hk,hg=>by
  rw [Opens] at h;obtain ⟨b,mid,hb,h255,h1,h2⟩:=h;rw [Tr.hts] at hk;rw [List.length_cons] at hg;rw [openF,hb];dsimp only;rw [if_neg h255,enc_tree t k _ _ h1 (by omega)]
  dsimp only;rw [if_pos rfl,opens_tree l k _ _ g h2 (by omega) (by omega)]
theorem chunks_tree {xs:List UInt8} (tx:Bool): ∀(l:List Tr) (k off o g:Nat),Chunks xs tx l off o→l.length<g→openF (treeF xs (k+1)) (Tr.isS tx) xs g off=some (l,o)
 |l,k,off,o,0,h,hg=>absurd hg (by omega)
 |[],k,off,o,g+1,h,hg=>by
  rw [Chunks] at h;obtain ⟨b,hb,h255,rfl⟩:=h;rw [openF,hb];dsimp only;rw [if_pos h255]
 |t::l,k,off,o,g+1,h,hg=>by
  rw [Chunks] at h;obtain ⟨b,mid,hb,h255,⟨s,hs⟩,h1,h2⟩:=h;rw [List.length_cons] at hg;rw [openF,hb];dsimp only;rw [if_neg h255,enc_tree t (k+1) _ _ h1 (by rw [hs];simp [Tr.ht])]
  dsimp only;rw [if_pos (by rw [hs];simp [Tr.isS]),chunks_tree tx l k _ _ g h2 (by omega)]
end
mutual
def Tr.lev:Tr→Nat
 | .chk _ l=>Tr.levs l
 | .arr _ l=>Tr.levs l+1
 | .map _ l=>Tr.levs l+1
 | .tag _ t=>t.lev+1
 |_=>0
def Tr.levs:List Tr→Nat
 |[]=>0
 |t::l=>max t.lev (Tr.levs l)
end
mutual
theorem dp_lev: ∀t:Tr,t.dp≤t.lev
 | .int _ _=>by simp [Tr.dp]
 | .str _ _=>by simp [Tr.dp]
 | .chk _ _=>by simp [Tr.dp]
 | .arr _ l=>by have:=dps_levs l;rw [Tr.lev,Tr.dp];omega
 | .map _ l=>by have:=dps_levs l;rw [Tr.lev,Tr.dp];omega
 | .tag _ t=>by have:=dp_lev t;rw [Tr.lev,dp_tag];split<;>omega
 | .prim _ _=>by simp [Tr.dp]
theorem dps_levs: ∀l:List Tr,Tr.dps l≤Tr.levs l
 |[]=>by rw [Tr.dps];omega
 |t::l=>by
  have h1:=dp_lev t;have h2:=dps_levs l;rw [Tr.levs,Tr.dps];omega
end
mutual
def Tr.snd (V:List UInt8→Bool):Tr→Bool
 | .str true b=>V b
 | .chk _ l=>Tr.snds V l
 | .arr _ l=>Tr.snds V l
 | .map _ l=>Tr.snds V l
 | .tag n t=>(!(n==2||n==3)||(match t with| .str false _=>true| .chk false _=>true|_=>false))&&t.snd V
 |_=>true
def Tr.snds (V:List UInt8→Bool):List Tr→Bool
 |[]=>true
 |t::l=>t.snd V&&Tr.snds V l
end
end
section
open Go.RowKit
def widen (bits ex fr:Nat):Nat:=
 if bits/2^fr%2^ex=2^ex-1 then bits/2^(ex+fr)%2*2^63+2047*2^52+bits%2^fr*2^(52-fr)
 else if 0<bits/2^fr%2^ex then bits/2^(ex+fr)%2*2^63+(bits/2^fr%2^ex+1024-2^(ex-1))*2^52+bits%2^fr*2^(52-fr)
 else if bits%2^fr=0 then bits/2^(ex+fr)%2*2^63
 else bits/2^(ex+fr)%2*2^63+(1025-2^(ex-1)-(fr-Nat.log2 (bits%2^fr)))*2^52+(bits%2^fr*2^(fr-Nat.log2 (bits%2^fr))-2^fr)*2^(52-fr)
def wide (ai v:Nat):Nat:=if ai=25 then widen v 5 10 else if ai=26 then widen v 8 23 else v
def isFl (ai:Nat):Bool:=ai==25||ai==26||ai==27
inductive Gn where
 |mk (maj num siz:Nat) (opn flt big:Bool) (tex:List UInt8) (ks:List Gn)
def Gn.maj:Gn→Nat| .mk a _ _ _ _ _ _ _=>a
def Gn.num:Gn→Nat| .mk _ a _ _ _ _ _ _=>a
def Gn.siz:Gn→Nat| .mk _ _ a _ _ _ _ _=>a
def Gn.opn:Gn→Bool| .mk _ _ _ a _ _ _ _=>a
def Gn.flt:Gn→Bool| .mk _ _ _ _ a _ _ _=>a
def Gn.big:Gn→Bool| .mk _ _ _ _ _ a _ _=>a
def Gn.tex:Gn→List UInt8| .mk _ _ _ _ _ _ a _=>a
def Gn.ks:Gn→List Gn| .mk _ _ _ _ _ _ _ a=>a
mutual
def gn:Tr→Gn
 | .int neg n=> .mk (if neg then 1 else 0) n 0 false false false [] []
 | .str tx b=> .mk (majS tx) 0 0 false false false b []
 | .chk tx l=> .mk (majS tx) 0 0 true false false [] (gns l)
 | .arr o l=> .mk 4 0 0 o false false [] (gns l)
 | .map o l=> .mk 5 0 0 o false false [] (gns l)
 | .tag n t=> .mk 6 n 0 false false false [] [gn t]
 | .prim ai v=> .mk 7 (wide ai v) (if isFl ai then 2^(ai-24) else 0) false (isFl ai) false [] []
def gns:List Tr→List Gn
 |[]=>[]
 |t::l=>gn t::gns l
end
def nd (t:Gn) (kv:Value):List Value:=[.int .i64 (t.maj:Int),.int .u64 (t.num:Int),.int .i64 (t.siz:Int),.bool t.opn,.bool t.flt,.bool t.big,.string ⟨t.tex.toArray⟩,kv]
def At (w:World) (g i:Nat) (cs:List Value):Prop:= ∀j u,cs[j]? =some u→w.cell? ⟨g,i+j,none⟩=some u
mutual
def NdV (w:World) (bl:List Nat):Gn→Value→Prop
 | .mk _ _ _ _ _ _ _ l,kv=>(l=[]∧ ∃ao c,kv= .slice ao 0 c)∨ ∃g cap,kv= .slice (some ⟨g,0,none⟩) l.length cap∧l.length≤cap∧l≠[]∧g∈bl∧NdFrom w bl g 0 l
def NdFrom (w:World) (bl:List Nat) (g:Nat):Nat→List Gn→Prop
 |_,[]=>True
 |i,t::l=>(∃kv',At w g (8*i) (nd t kv')∧NdV w bl t kv')∧NdFrom w bl g (i+1) l
end
theorem At.fr {w w':World} {g i:Nat} {cs:List Value} (h:At w g i cs) (hb:w'.heap[g]? =w.heap[g]?):At w' g i cs:=fun j u hu=>(World.cell?_of_block (w:=w) hb).trans (h j u hu)
mutual
theorem NdV.fr {w w':World} {bl bl':List Nat} (hb: ∀b,b∈bl→w'.heap[b]? =w.heap[b]?) (hs: ∀b,b∈bl→b∈bl'): ∀(t:Gn) (kv:Value),NdV w bl t kv→NdV w' bl' t kv
 | .mk _ _ _ _ _ _ _ l,kv,h=>by
  rw [NdV] at h ⊢;rcases h with h|⟨g,cap,h1,h2,h3,h4,h5⟩
  ·exact .inl h
  ·exact .inr ⟨g,cap,h1,h2,h3,hs g h4,NdFrom.fr hb hs g h4 l 0 h5⟩
theorem NdFrom.fr {w w':World} {bl bl':List Nat} (hb: ∀b,b∈bl→w'.heap[b]? =w.heap[b]?) (hs: ∀b,b∈bl→b∈bl') (g:Nat) (hg:g∈bl): ∀(l:List Gn) (i:Nat),NdFrom w bl g i l→NdFrom w' bl' g i l
 |[],i,h=>by rw [NdFrom];trivial
 |t::l,i,h=>by
  rw [NdFrom] at h ⊢;obtain ⟨⟨kv',h1,h2⟩,h3⟩:=h;exact ⟨⟨kv',h1.fr (hb g hg),NdV.fr hb hs t kv' h2⟩,NdFrom.fr hb hs g hg l (i+1) h3⟩
end
theorem NdFrom.at_ {w:World} {bl:List Nat} {g:Nat}: ∀(l:List Gn) (i j:Nat) (t:Gn),NdFrom w bl g i l→l[j]? =some t→ ∃kv,At w g (8*(i+j)) (nd t kv)∧NdV w bl t kv
 |[],i,j,t,h,hj=>by simp at hj
 |u::l,i,0,t,h,hj=>by
  rw [NdFrom] at h;simp at hj;subst hj;exact h.1
 |u::l,i,j+1,t,h,hj=>by
  rw [NdFrom] at h;have:=NdFrom.at_ l (i+1) j t h.2 (by simpa using hj)
  rw [show i+1+j=i+(j+1) by omega] at this
  exact this
def NodeV (w:World) (lo:Nat) (t:Gn) (v:Value):Prop:= ∃bl kv,v= .agg (nd t kv).toArray∧(∀b,b∈bl→lo≤b∧b<w.heap.size)∧NdV w bl t kv
theorem NodeV.fr {w w':World} {lo:Nat} {t:Gn} {v:Value} {S:List Nat} (h:NodeV w lo t v) (hf:Fr S w w') (hs: ∀s,s∈S→s<lo):NodeV w' lo t v:=by
 obtain ⟨bl,kv,h1,h2,h3⟩:=h;refine ⟨bl,kv,h1,fun b hb=>⟨(h2 b hb).1,Nat.lt_of_lt_of_le (h2 b hb).2 hf.size⟩,NdV.fr (fun b hb=>hf.block b (h2 b hb).2 (fun e=>by have:=hs b e;have:=h2 b hb;omega)) (fun b hb=>hb) t kv h3⟩
theorem NodeV.lo {w:World} {lo lo':Nat} {t:Gn} {v:Value} (h:NodeV w lo t v) (hl:lo'≤lo):NodeV w lo' t v:=by
 obtain ⟨bl,kv,h1,h2,h3⟩:=h;exact ⟨bl,kv,h1,fun b hb=>⟨by have:=h2 b hb;omega,(h2 b hb).2⟩,h3⟩
def AllNd (w:World) (bl:List Nat):List Gn→List Value→Prop
 |[],cs=>cs=[]
 |t::l,cs=> ∃kv rest,cs=nd t kv++rest∧NdV w bl t kv∧AllNd w bl l rest
theorem AllNd.fr {w w':World} {bl bl':List Nat} (hb: ∀b,b∈bl→w'.heap[b]? =w.heap[b]?) (hs: ∀b,b∈bl→b∈bl'): ∀(l:List Gn) (cs:List Value),AllNd w bl l cs→AllNd w' bl' l cs
 |[],cs,h=>h
 |t::l,cs,h=>by
  obtain ⟨kv,rest,h1,h2,h3⟩:=h;exact ⟨kv,rest,h1,NdV.fr hb hs t kv h2,AllNd.fr hb hs l rest h3⟩
def KidRow (w:World) (T:TypeId) (lo:Nat) (v:Value) (l:List Gn):Prop:= ∃cs bl,w.ownsRow lo T 8 v l.length cs∧(∀b,b∈bl→lo≤b∧b<w.heap.size∧v.ownBlock≠some b)∧AllNd w bl l cs
theorem KidRow.nil (w:World) (T:TypeId) (lo:Nat):KidRow w T lo (.slice none 0 0) []:=⟨[],[],World.ownsRow_nil _ _ _ _,by simp,rfl⟩
theorem KidRow.fr {w w':World} {T:TypeId} {lo:Nat} {v:Value} {l:List Gn} {S:List Nat} (h:KidRow w T lo v l) (hf:Fr S w w') (hs: ∀s,s∈S→s<lo):KidRow w' T lo v l:=by
 obtain ⟨cs,bl,h1,h2,h3⟩:=h;refine ⟨cs,bl,hf.own h1 (fun k hk hm=> ?_),fun b hb=> ?_,AllNd.fr (fun b hb=>hf.block b (h2 b hb).2.1 (fun e=> ?_)) (fun b hb=>hb) l cs h3⟩
 ·have:=(World.ownsRow.lt h1 k hk).1;have:=hs k hm;omega
 ·obtain ⟨a,b,c⟩:=h2 b hb;exact ⟨a,Nat.lt_of_lt_of_le b hf.size,c⟩
 ·have:=hs b e;have:=(h2 b hb).1;omega
end
section
open Go.RowKit
theorem ba_self (b:ByteArray):(b==b)=true:=by
 show (b.data==b.data)=true
 exact beq_self_eq_true _
end
section
open Go.RowKit
theorem ext_one (xs:List UInt8) (j:Nat) (h:j<xs.length):(⟨xs.toArray⟩:ByteArray).extract j (j+1)=⟨[xs[j]].toArray⟩:=by
 apply ByteArray.ext
 rw [ByteArray.data_extract];apply Array.ext'
 simp [List.extract_eq_take_drop,List.take_one,h]
end
section
open Go.RowKit
def Tr.ks:Tr→List Tr
 | .chk _ l=>l
 | .arr _ l=>l
 | .map _ l=>l
 | .tag _ t=>[t]
 |_=>[]
def Tr.hm:Tr→Nat
 | .tag _ t=>(gn t).maj
 |_=>0
end
section
open Go.RowKit
def IntsAt (w:World) (ao:Option Addr) (n c:Nat):Prop:=n=0∨ ∃g o,ao=some ⟨g,o,none⟩∧n≤c∧ ∀i,i<n→ ∃x:Int,w.cell? ⟨g,o+i,none⟩=some (.int .i64 x)
def Ch (w:World) (cb:Nat):Prop:= ∃ao n c a,w.heap[cb]? =some (.cells #[.slice ao n c,.int .i64 ((a:Nat):Int)] 107 (0,0))∧a≤n∧n≤2147483647∧
 (n=0∨ ∃g o,ao=some ⟨g,o,none⟩∧n≤c∧g≠cb∧g<w.heap.size∧ ∀i,i<n→ ∃x:Int,w.cell? ⟨g,o+i,none⟩=some (.int .i64 x))
theorem Ch.fr {w w':World} {cb:Nat} (h:Ch w cb) (hf:Fr [] w w'):Ch w' cb:=by
 obtain ⟨ao,n,c,a,h1,h2,h3,h4⟩:=h;refine ⟨ao,n,c,a,hf.blk h1 (by simp),h2,h3,?_⟩
 rcases h4 with h4|⟨g,o,g1,g2,g3,g4,g5⟩
 ·exact .inl h4
 ·exact .inr ⟨g,o,g1,g2,g3,Nat.lt_of_lt_of_le g4 hf.size,fun i hi=>by obtain ⟨x,hx⟩:=g5 i hi;exact ⟨x,hf.cell hx (by simp)⟩⟩
theorem next {w:World} {cb:Nat} (h:Ch w cb) (m:Nat) (hm:1≤m) (hm2:m<1000):Calls Tryz.prog 62 #[.pointer (some ⟨cb,0,none⟩),.int .i64 (m:Int)] w fun e w'=> ∃k:Nat,k<m∧e= .returned (.int .i64 (k:Int))∧Ch w' cb∧Fr [cb] w w':=by
 obtain ⟨ao,n,c,a,h1,h2,h3,h4⟩:=h;have c0:=cell_blk h1 0;have c1:=cell_blk h1 1;have f1:=frozen_blk h1 1;simp only [List.getElem?_toArray,List.getElem?_cons_zero,List.getElem?_cons_succ] at c0 c1;by_cases ha:a=n
 ·have t1:(n:Int)≤(a:Int):=by omega
  have t2:decide ((n:Int)≤(a:Int))=true:=by simp;omega
  go_enter Tryz.func62,Tryz.ntmps62
  go_wp2
  go_quiet (fail)
  go_wp2;go_ret
  exact ⟨0,by omega,rfl,Ch.fr ⟨ao,n,c,a,h1,h2,h3,h4⟩ ((Fr.refl _ _).drewN _),(Fr.refl _ _).drewN _⟩
 ·rcases h4 with h4|⟨g,o,rfl,hc,hg,hgl,hx⟩
  ·omega
  ·obtain ⟨x,hx1⟩:=hx a (by omega)
   obtain ⟨k,hk,hk1,hk2⟩:=rem_nat x m (by omega) hm2
   have t1: ¬(n:Int)≤(a:Int):=by omega
   have t2:decide ((n:Int)≤(a:Int))=false:=by simp;omega
   have t2':decide (n≤a)=false:=by simp;omega
   have t3':decide ((m:Int)<1)=false:=by simp;omega
   have t3: ¬(m:Int)<1:=by omega
   have t4:(a:Int)<(n:Int):=by omega
   have t5:(0:Int)≤(a:Int):=by omega
   have t6:IntKind.u64.wrap (m:Int)=(m:Int):=by show (m:Int)%18446744073709551616=_;omega
   have t7: ¬(m:Int)=0:=by omega
   have w1:IntKind.i64.wrap ((a:Int)+1)=(a:Int)+1:=IntWalk.i64_in _ (by omega)
   have w2:IntKind.i64.wrap ((a:Int)+1-1)=(a:Int):=by rw [IntWalk.i64_in _ (by omega)];omega
   have w3:IntKind.i64.wrap (k:Int)=(k:Int):=IntWalk.i64_in _ (by omega)
   have hd: ∀u:Value,(w.setCell ⟨cb,1,none⟩ u).cell? ⟨g,o+a,none⟩=some (.int .i64 x):=fun u=>((Fr.refl [cb] w).setCell (by simp) u).cell hx1 (by simpa using hg)
   have he: ∀u:Value,(w.setCell ⟨cb,1,none⟩ u).cell? ⟨cb,0,none⟩=some (.slice (some ⟨g,o,none⟩) n c):=fun u=>cell_blk (blk_setCell h1 1 u) 0
   have hcb:g≠cb:=hg;have hcb2:cb≠g:=fun e=>hg e.symm
   replace hx:=Hz hx;replace h1:=Hz h1;go_enter Tryz.func62,Tryz.ntmps62
   go_wp2
   go_quiet (fail)
   go_wp2
   go_quiet (fail)
   go_wp2;go_ret
   have hF:Fr [cb] w (w.setCell ⟨cb,1,none⟩ (.int .i64 ((a:Int)+1))):=(Fr.refl _ _).setCell (by simp) _
   have hC:Ch (w.setCell ⟨cb,1,none⟩ (.int .i64 ((a:Int)+1))) cb:=by
    refine ⟨some ⟨g,o,none⟩,n,c,a+1,blk_setCell h1.out 1 _,by omega,h3,.inr ⟨g,o,rfl,hc,hg,by simpa using hgl,fun i hi=> ?_⟩⟩
    obtain ⟨y,hy⟩:=hx.out i hi;exact ⟨y,hF.cell hy (by simpa using hg)⟩
   have hC2: ∀n,Ch ((w.setCell ⟨cb,1,none⟩ (.int .i64 ((a:Int)+1))).drewN n) cb:=fun n=>hC.fr ((Fr.refl _ _).drewN n)
   refine ⟨k,hk,rfl,?_,?_⟩
   ·first|exact hC2 _|exact hC
   ·repeat (first|with_reducible exact Fr.refl _ _|with_reducible refine Fr.setCell ?_ (.inl (by simp)) _|with_reducible refine Fr.drewN ?_ _)
theorem newC {w:World} {ao:Option Addr} {n c:Nat} (h:IntsAt w ao n c) (hn:n≤2147483647):Calls Tryz.prog 30 #[.slice ao n c] w fun e w'=>e= .returned (.pointer (some ⟨w.heap.size,0,none⟩))∧Ch w' w.heap.size∧Fr [] w w':=by
 replace h:=Hz h;go_enter Tryz.func30,Tryz.ntmps30
 go_wp2;go_ret
 refine ⟨rfl,⟨ao,n,c,0,blk_new w _,by omega,hn,?_⟩,(Fr.refl _ _).alloc _⟩
 rcases h.out with h0|⟨g,o,h1,h2,h3⟩
 ·exact .inl h0
 ·by_cases h0:n=0
  ·exact .inl h0
  ·obtain ⟨x,hx⟩:=h3 0 (by omega)
   have hl:=World.block_lt_of_cell? w _ hx;exact .inr ⟨g,o,h1,h2,fun e=>by simp at hl;omega,by simp at hl ⊢;omega,fun i hi=>by obtain ⟨y,hy⟩:=h3 i hi;exact ⟨y,((Fr.refl [] w).alloc _).cell hy (by simp)⟩⟩
end
end Go.Proofs.YteodinhkhhaafaaGreatDoor
