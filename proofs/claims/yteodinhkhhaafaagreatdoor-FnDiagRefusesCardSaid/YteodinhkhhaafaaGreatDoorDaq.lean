/- Walks of the program, and plain facts. -/
import Derived.Test.YteodinhkhhaafaaGreatDoorDap
import Derived.Laws.AppendOwnNone
set_option linter.unusedVariables false
set_option linter.unusedSimpArgs false
set_option maxRecDepth 100000
set_option maxHeartbeats 6400000
set_option exponentiation.threshold 3000
namespace Go.Proofs.YteodinhkhhaafaaGreatDoor
section
open Go.RowKit
theorem joinD_some {D:Nat} {p:Option (Except Nat (Nat×Nat))} {D' o:Nat} (h:joinD D p=some (.ok (D',o))): ∃D2,p=some (.ok (D2,o))∧D'=max D D2:=by
 unfold joinD at h
 split at h
 ·rename_i D2 o2
  injection h with h
  injection h with h
  injection h with h1 h2
  subst h1 h2
  exact ⟨_,rfl,rfl⟩
 ·rename_i r hr
  subst h
  exact absurd rfl (hr D' o)
theorem dp_str (tx:Bool) (b:List UInt8):(Tr.str tx b).dp=0:=by simp [Tr.dp]
theorem dp_chk (tx:Bool) (l:List Tr):(Tr.chk tx l).dp=0:=by simp [Tr.dp]
theorem fits_str (L:Lim) (tx:Bool) (b:List UInt8):(Tr.str tx b).fits L:=by simp [Tr.fits]
theorem enc_str {xs:List UInt8} {t:Tr} {off off':Nat} {b:UInt8} {tx:Bool} (h:Enc xs t off off') (hb:xs[off]? =some b) (hm:b.toNat/32=majS tx) (h31:b.toNat%32≠31): ∃s,t= .str tx s:=by
 have key: ∀m ai v o,hd xs off= .ok (m,ai,v,o)→m=majS tx∧ai≠31:=by
  intro m ai v o hh
  obtain ⟨hl,e1,e2⟩:=byte_of_hd hh
  obtain ⟨_,e3⟩:=List.getElem?_eq_some_iff.1 hb
  subst e3
  omega
 have hms:majS tx=2∨majS tx=3:=by cases tx<;>simp [majS]
 cases t with
 |int neg n=>rw [Enc] at h;obtain ⟨ai,h⟩:=h;have:=key _ _ _ _ h;split at this<;>omega
 |str u s=>
  rw [Enc] at h
  obtain ⟨ai,v,o,h,_⟩:=h
  have:=(key _ _ _ _ h).1
  refine ⟨s,?_⟩
  cases u<;>cases tx<;>first|rfl|(simp [majS] at this)
 |chk u l=>rw [Enc] at h;obtain ⟨v,o,h,_⟩:=h;exact absurd rfl (key _ _ _ _ h).2
 |arr o l=>
  cases o with
  |false=>rw [Enc] at h;obtain ⟨ai,o,h,_⟩:=h;have:=key _ _ _ _ h;omega
  |true=>rw [Enc] at h;obtain ⟨ai,o,h,_⟩:=h;have:=key _ _ _ _ h;omega
 |map o l=>
  cases o with
  |false=>rw [Enc] at h;obtain ⟨ai,v,o,h,_⟩:=h;have:=key _ _ _ _ h;omega
  |true=>rw [Enc] at h;obtain ⟨ai,o,h,_⟩:=h;have:=key _ _ _ _ h;omega
 |tag n t=>rw [Enc] at h;obtain ⟨ai,o,h,_⟩:=h;have:=key _ _ _ _ h;omega
 |prim ai v=>rw [Enc] at h;have:=key _ _ _ _ h;omega
theorem wf_enc (L:Lim) (xs:List UInt8): ∀f,
  (∀off dep D o,dep≤L.nest→wfI L xs f off dep=some (.ok (D,o))→ ∃t,Enc xs t off o∧t.fits L∧D=dep+t.dp∧D≤L.nest)∧
  (∀tx off dep D o,dep≤L.nest→wfS L xs f (majS tx) off dep=some (.ok (D,o))→ ∃l,Chunks xs tx l off o∧D=dep)∧
  (∀m i off dep D o,dep≤L.nest→m=4∨m=5→wfO L xs f m i off dep=some (.ok (D,o))→ ∃l,Opens xs l off o∧Tr.fitss L l∧D=dep+Tr.dps l∧D≤L.nest∧(m=4→l=[]∨i+l.length≤L.el)∧(m=5→(i+l.length)%2=0∧(l=[]∨i+l.length≤2*L.pa)))∧
  (∀n off dep D o,dep≤L.nest→wfN L xs f n off dep=some (.ok (D,o))→ ∃l,l.length=n∧Encs xs l off o∧Tr.fitss L l∧D=dep+Tr.dps l∧D≤L.nest)∧
  (∀off dep D o,dep≤L.nest→wfT L xs f off dep=some (.ok (D,o))→ ∃t,Enc xs t off o∧t.fits L∧D=dep+((if t.isTag then 1 else 0)+t.dp)∧D≤L.nest):=by
 intro f
 induction f with
 |zero=>simp [wfI,wfS,wfO,wfN,wfT]
 |succ f ih=>
  obtain ⟨i1,i2,i3,i4,i5⟩:=ih
  refine ⟨?_,?_,?_,?_,?_⟩
  ·intro off dep D o' hdep h
   rw [wfI] at h
   cases hh:hd xs off with
   |error k=>rw [hh] at h;cases h
   |ok q=>
    obtain ⟨m,ai,v,o⟩:=q
    obtain ⟨_,hm8,_,_⟩:=hd_off hh
    obtain ⟨hv,hol⟩:=hd_val hh
    rw [hh] at h
    dsimp only at h
    by_cases c1:m=2∨m=3
    ·rw [if_pos c1] at h
     obtain ⟨tx,htx⟩: ∃tx,majS tx=m:=by
      rcases c1 with rfl|rfl
      ·exact ⟨false,rfl⟩
      ·exact ⟨true,rfl⟩
     subst htx
     by_cases c2:ai=31
     ·rw [if_pos c2] at h
      subst c2
      obtain ⟨l,h1,h2⟩:=i2 _ _ _ _ _ hdep h
      exact ⟨.chk tx l,by rw [Enc];exact ⟨v,o,hh,h1⟩,by simp [Tr.fits],by rw [dp_chk];exact h2,by omega⟩
     ·rw [if_neg c2] at h
      split at h
      ·cases h
      ·split at h
       ·cases h
       ·injection h with h
        injection h with h
        injection h with h1 h2
        subst h1 h2
        exact ⟨.str tx ((xs.drop o).take v),by rw [Enc];exact ⟨ai,v,o,hh,c2,by omega,by omega,rfl,rfl⟩,fits_str _ _ _,by rw [dp_str];rfl,hdep⟩
    ·rw [if_neg c1] at h
     by_cases c3:m=4∨m=5
     ·rw [if_pos c3] at h
      split at h
      ·cases h
      ·rename_i hn
       split at h
       ·rename_i c2
        subst c2
        obtain ⟨l,h1,h2,h3,h4,h5,h6⟩:=i3 _ _ _ _ _ _ (by omega) c3 h
        rcases c3 with rfl|rfl
        ·refine ⟨.arr true l,by rw [Enc];exact ⟨v,o,hh,h1⟩,?_,by rw [Tr.dp];omega,h4⟩
         rw [Tr.fits]
         refine ⟨?_,h2⟩
         rcases h5 rfl with rfl|h5
         ·simp
         ·omega
        ·obtain ⟨h7,h8⟩:=h6 rfl
         refine ⟨.map true l,by rw [Enc];exact ⟨v,o,hh,by omega,h1⟩,?_,by rw [Tr.dp];omega,h4⟩
         rw [Tr.fits]
         refine ⟨?_,h2⟩
         rcases h8 with rfl|h8
         ·simp
         ·omega
       ·rename_i c2
        split at h
        ·cases h
        ·split at h
         ·cases h
         ·split at h
          ·cases h
          ·rename_i g1 g2 g3
           obtain ⟨l,h1,h2,h3,h4,h5⟩:=i4 _ _ _ _ _ (by omega) h
           rcases c3 with rfl|rfl
           ·refine ⟨.arr false l,by rw [Enc];exact ⟨ai,o,by rw [h1];exact (by rw [hh];simp),c2,h2⟩,?_,by rw [Tr.dp];omega,h5⟩
            rw [Tr.fits]
            exact ⟨by omega,h3⟩
           ·refine ⟨.map false l,by rw [Enc];exact ⟨ai,v,o,hh,c2,by omega,h2⟩,?_,by rw [Tr.dp];omega,h5⟩
            rw [Tr.fits]
            exact ⟨by omega,h3⟩
     ·rw [if_neg c3] at h
      by_cases c4:m=6
      ·rw [if_pos c4] at h
       subst c4
       obtain ⟨t,h1,h2,h3,h4⟩:=i5 _ _ _ _ hdep h
       exact ⟨.tag v t,by rw [Enc];exact ⟨ai,o,hh,h1⟩,by rw [Tr.fits];exact h2,by rw [dp_tag];exact h3,h4⟩
      ·rw [if_neg c4] at h
       injection h with h
       injection h with h
       injection h with h1 h2
       subst h1 h2
       rcases (show m=0∨m=1∨m=7 by omega) with rfl|rfl|rfl
       ·exact ⟨.int false v,by rw [Enc];exact ⟨ai,hh⟩,by simp [Tr.fits],by simp [Tr.dp],hdep⟩
       ·exact ⟨.int true v,by rw [Enc];exact ⟨ai,hh⟩,by simp [Tr.fits],by simp [Tr.dp],hdep⟩
       ·exact ⟨.prim ai v,by rw [Enc];exact hh,by simp [Tr.fits],by simp [Tr.dp],hdep⟩
  ·intro tx off dep D o' hdep h
   rw [wfS] at h
   cases hx:xs[off]? with
   |none=>rw [hx] at h;cases h
   |some b=>
    rw [hx] at h
    dsimp only at h
    by_cases c1:b.toNat=255
    ·rw [if_pos c1] at h
     injection h with h
     injection h with h
     injection h with h1 h2
     subst h1 h2
     exact ⟨[],by rw [Chunks];exact ⟨b,hx,c1,rfl⟩,rfl⟩
    ·rw [if_neg c1] at h
     by_cases c2:b.toNat/32≠majS tx
     ·rw [if_pos c2] at h;cases h
     ·rw [if_neg c2] at h
      by_cases c3:b.toNat%32=31
      ·rw [if_pos c3] at h;cases h
      ·rw [if_neg c3] at h
       split at h
       ·rename_i D1 o1 h1
        obtain ⟨t,t1,t2,t3,t4⟩:=i1 _ _ _ _ hdep h1
        obtain ⟨s,rfl⟩:=enc_str (tx:=tx) t1 hx (by omega) c3
        rw [dp_str] at t3
        subst t3
        obtain ⟨l,l1,l2⟩:=i2 _ _ _ _ _ t4 h
        exact ⟨.str tx s::l,by rw [Chunks];exact ⟨b,o1,hx,c1,⟨s,rfl⟩,t1,l1⟩,l2⟩
       ·rename_i hne
        exact absurd h (hne D o')
  ·intro m i off dep D o' hdep hm h
   rw [wfO] at h
   cases hx:xs[off]? with
   |none=>rw [hx] at h;cases h
   |some b=>
    rw [hx] at h
    dsimp only at h
    by_cases c1:b.toNat=255
    ·rw [if_pos c1] at h
     split at h
     ·cases h
     ·rename_i c2
      injection h with h
      injection h with h
      injection h with h1 h2
      subst h1 h2
      exact ⟨[],by rw [Opens];exact ⟨b,hx,c1,rfl⟩,by rw [Tr.fitss];trivial,by rw [Tr.dps];rfl,hdep,fun _=> .inl rfl,fun e=>⟨by simp;omega,.inl rfl⟩⟩
    ·rw [if_neg c1] at h
     split at h
     ·rename_i D1 o1 h1
      obtain ⟨t,t1,t2,t3,t4⟩:=i1 _ _ _ _ hdep h1
      split at h
      ·cases h
      ·rename_i c2
       split at h
       ·cases h
       ·rename_i c3
        obtain ⟨D2,h2,h3⟩:=joinD_some h
        obtain ⟨l,l1,l2,l3,l4,l5,l6⟩:=i3 _ _ _ _ _ _ hdep hm h2
        refine ⟨t::l,by rw [Opens];exact ⟨b,o1,hx,c1,t1,l1⟩,by rw [Tr.fitss];exact ⟨t2,l2⟩,by rw [Tr.dps];omega,by omega,?_,?_⟩
        ·intro e
         refine .inr ?_
         rw [List.length_cons]
         rcases l5 e with rfl|l5
         ·simp;omega
         ·omega
        ·intro e
         obtain ⟨g1,g2⟩:=l6 e
         rw [List.length_cons]
         refine ⟨by omega,.inr ?_⟩
         rcases g2 with rfl|g2
         ·simp at g1 ⊢;omega
         ·omega
     ·rename_i hne
      exact absurd h (hne D o')
  ·intro n off dep D o' hdep h
   cases n with
   |zero=>
    rw [wfN] at h
    injection h with h
    injection h with h
    injection h with h1 h2
    subst h1 h2
    exact ⟨[],rfl,by rw [Encs],by rw [Tr.fitss];trivial,by rw [Tr.dps];rfl,hdep⟩
   |succ n=>
    rw [wfN] at h
    split at h
    ·rename_i D1 o1 h1
     obtain ⟨t,t1,t2,t3,t4⟩:=i1 _ _ _ _ hdep h1
     obtain ⟨D2,h2,h3⟩:=joinD_some h
     obtain ⟨l,l1,l2,l3,l4,l5⟩:=i4 _ _ _ _ _ hdep h2
     exact ⟨t::l,by rw [List.length_cons,l1],by rw [Encs];exact ⟨o1,t1,l2⟩,by rw [Tr.fitss];exact ⟨t2,l3⟩,by rw [Tr.dps];omega,by omega⟩
    ·rename_i hne
     exact absurd h (hne D o')
  ·intro off dep D o' hdep h
   rw [wfT] at h
   cases hx:xs[off]? with
   |none=>rw [hx] at h;cases h
   |some b=>
    rw [hx] at h
    dsimp only at h
    by_cases c1:b.toNat/32≠6
    ·rw [if_pos c1] at h
     obtain ⟨t,t1,t2,t3,t4⟩:=i1 _ _ _ _ hdep h
     refine ⟨t,t1,t2,?_,t4⟩
     obtain ⟨b2,e1,e2⟩:=enc_tag t1
     rw [hx] at e1
     injection e1 with e1
     subst e1
     have:t.isTag=false:=by
      cases ht:t.isTag
      ·rfl
      ·exact absurd (e2.2 ht) c1
     rw [this,t3]
     simp
    ·rw [if_neg c1] at h
     cases hh:hd xs off with
     |error k=>rw [hh] at h;cases h
     |ok q=>
      obtain ⟨m,ai,v,o⟩:=q
      rw [hh] at h
      dsimp only at h
      obtain ⟨hl,e1,_⟩:=byte_of_hd hh
      obtain ⟨_,e3⟩:=List.getElem?_eq_some_iff.1 hx
      subst e3
      have hm6:m=6:=by omega
      subst hm6
      split at h
      ·cases h
      ·rename_i hn
       obtain ⟨t,t1,t2,t3,t4⟩:=i5 _ _ _ _ (by omega) h
       exact ⟨.tag v t,by rw [Enc];exact ⟨ai,o,hh,t1⟩,by rw [Tr.fits];exact t2,by rw [dp_tag,show (Tr.tag v t).isTag=true from rfl,if_pos rfl];omega,t4⟩
theorem wf_total (L:Lim) (xs:List UInt8): ∀s off,xs.length-off≤s→
  (∀dep,∃f r,wfI L xs f off dep=some r)∧(∀m dep,∃f r,wfS L xs f m off dep=some r)∧(∀m i dep,∃f r,wfO L xs f m i off dep=some r)∧
  (∀n dep,∃f r,wfN L xs f n off dep=some r)∧(∀dep,∃f r,wfT L xs f off dep=some r):=by
 intro s
 induction s with
 |zero=>
  intro off hs
  have hx:xs[off]? =none:=List.getElem?_eq_none (by omega)
  have hh:hd xs off= .error 2:=by unfold hd;rw [hx]
  have hI: ∀dep,wfI L xs 1 off dep=some (.error 2):=fun dep=>by rw [wfI,hh]
  refine ⟨fun dep=>⟨1,_,hI dep⟩,fun m dep=>⟨1,.error 2,by rw [wfS,hx]⟩,fun m i dep=>⟨1,.error 2,by rw [wfO,hx]⟩,fun n dep=> ?_,fun dep=>⟨1,.error 2,by rw [wfT,hx]⟩⟩
  cases n with
  |zero=>exact ⟨1,_,by rw [wfN]⟩
  |succ n=>exact ⟨2,.error 2,by rw [wfN,hI]⟩
 |succ s ih=>
  intro off hs
  have hT: ∀dep,∃f r,wfI L xs f off dep=some r:=by
   intro dep
   cases hh:hd xs off with
   |error k=>exact ⟨1,.error k,by rw [wfI,hh]⟩
   |ok q=>
    obtain ⟨m,ai,v,o⟩:=q
    obtain ⟨h1,_,_,_⟩:=hd_off hh
    obtain ⟨_,h2⟩:=hd_val hh
    obtain ⟨j1,j2,j3,j4,j5⟩:=ih o (by omega)
    have fin: ∀r,(∀f,wfI L xs (f+1) off dep=some r)→ ∃f r,wfI L xs f off dep=some r:=fun r h=>⟨1,r,h 0⟩
    by_cases c1:m=2∨m=3
    ·by_cases c2:ai=31
     ·obtain ⟨f,r,h⟩:=j2 m dep
      exact ⟨f+1,r,by rw [wfI,hh];dsimp only;rw [if_pos c1,if_pos c2,h]⟩
     ·by_cases c3:9223372036854775808≤v
      ·exact ⟨1,.error 16,by rw [wfI,hh];dsimp only;rw [if_pos c1,if_neg c2,if_pos c3]⟩
      ·by_cases c4:xs.length-o<v
       ·exact ⟨1,.error 2,by rw [wfI,hh];dsimp only;rw [if_pos c1,if_neg c2,if_neg c3,if_pos c4]⟩
       ·exact ⟨1,.ok (dep,o+v),by rw [wfI,hh];dsimp only;rw [if_pos c1,if_neg c2,if_neg c3,if_neg c4]⟩
    ·by_cases c3:m=4∨m=5
     ·by_cases c4:L.nest<dep+1
      ·exact ⟨1,.error 5,by rw [wfI,hh];dsimp only;rw [if_neg c1,if_pos c3,if_pos c4]⟩
      ·by_cases c2:ai=31
       ·obtain ⟨f,r,h⟩:=j3 m 0 (dep+1)
        exact ⟨f+1,r,by rw [wfI,hh];dsimp only;rw [if_neg c1,if_pos c3,if_neg c4,if_pos c2,h]⟩
       ·by_cases c5:9223372036854775808≤v
        ·exact ⟨1,.error 16,by rw [wfI,hh];dsimp only;rw [if_neg c1,if_pos c3,if_neg c4,if_neg c2,if_pos c5]⟩
        ·by_cases c6:m=4∧L.el<v
         ·exact ⟨1,.error 6,by rw [wfI,hh];dsimp only;rw [if_neg c1,if_pos c3,if_neg c4,if_neg c2,if_neg c5,if_pos c6]⟩
         ·by_cases c7:m=5∧L.pa<v
          ·exact ⟨1,.error 7,by rw [wfI,hh];dsimp only;rw [if_neg c1,if_pos c3,if_neg c4,if_neg c2,if_neg c5,if_neg c6,if_pos c7]⟩
          ·obtain ⟨f,r,h⟩:=j4 (v*(m-3)) (dep+1)
           exact ⟨f+1,r,by rw [wfI,hh];dsimp only;rw [if_neg c1,if_pos c3,if_neg c4,if_neg c2,if_neg c5,if_neg c6,if_neg c7,h]⟩
     ·by_cases c6:m=6
      ·obtain ⟨f,r,h⟩:=j5 dep
       exact ⟨f+1,r,by rw [wfI,hh];dsimp only;rw [if_neg c1,if_neg c3,if_pos c6,h]⟩
      ·exact ⟨1,.ok (dep,o),by rw [wfI,hh];dsimp only;rw [if_neg c1,if_neg c3,if_neg c6]⟩
  have next: ∀dep f D o,wfI L xs f off dep=some (.ok (D,o))→off<xs.length→xs.length-o≤s:=by
   intro dep f D o h hl
   have:=(wfI_off L xs f).1 _ _ _ _ h
   omega
  refine ⟨hT,?_,?_,?_,?_⟩
  ·intro m dep
   cases hx:xs[off]? with
   |none=>exact ⟨1,.error 2,by rw [wfS,hx]⟩
   |some b=>
    obtain ⟨hl,_⟩:=List.getElem?_eq_some_iff.1 hx
    by_cases c1:b.toNat=255
    ·exact ⟨1,.ok (dep,off+1),by rw [wfS,hx];dsimp only;rw [if_pos c1]⟩
    ·by_cases c2:b.toNat/32≠m
     ·exact ⟨1,.error 3,by rw [wfS,hx];dsimp only;rw [if_neg c1,if_pos c2]⟩
     ·by_cases c3:b.toNat%32=31
      ·exact ⟨1,.error 3,by rw [wfS,hx];dsimp only;rw [if_neg c1,if_neg c2,if_pos c3]⟩
      ·obtain ⟨f,r,h⟩:=hT dep
       cases r with
       |error k=>exact ⟨f+1,.error k,by rw [wfS,hx];dsimp only;rw [if_neg c1,if_neg c2,if_neg c3,h]⟩
       |ok q=>
        obtain ⟨D,o⟩:=q
        obtain ⟨g,r2,h2⟩:=(ih o (next _ _ _ _ h hl)).2.1 m D
        refine ⟨max f g+1,r2,?_⟩
        rw [wfS,hx]
        dsimp only
        rw [if_neg c1,if_neg c2,if_neg c3,(wf_le L xs (Nat.le_max_left f g)).1 _ _ _ h]
        exact (wf_le L xs (Nat.le_max_right f g)).2.1 _ _ _ _ h2
  ·intro m i dep
   cases hx:xs[off]? with
   |none=>exact ⟨1,.error 2,by rw [wfO,hx]⟩
   |some b=>
    obtain ⟨hl,_⟩:=List.getElem?_eq_some_iff.1 hx
    by_cases c1:b.toNat=255
    ·by_cases c2:m=5∧i%2=1
     ·exact ⟨1,.error 3,by rw [wfO,hx];dsimp only;rw [if_pos c1,if_pos c2]⟩
     ·exact ⟨1,.ok (dep,off+1),by rw [wfO,hx];dsimp only;rw [if_pos c1,if_neg c2]⟩
    ·obtain ⟨f,r,h⟩:=hT dep
     cases r with
     |error k=>exact ⟨f+1,.error k,by rw [wfO,hx];dsimp only;rw [if_neg c1,h]⟩
     |ok q=>
      obtain ⟨D,o⟩:=q
      by_cases c4:m=4∧L.el<i+1
      ·exact ⟨f+1,.error 6,by rw [wfO,hx];dsimp only;rw [if_neg c1,h];dsimp only;rw [if_pos c4]⟩
      ·by_cases c5:m≠4∧(i+1)%2=0∧L.pa<(i+1)/2
       ·exact ⟨f+1,.error 7,by rw [wfO,hx];dsimp only;rw [if_neg c1,h];dsimp only;rw [if_neg c4,if_pos c5]⟩
       ·obtain ⟨g,r2,h2⟩:=(ih o (next _ _ _ _ h hl)).2.2.1 m (i+1) dep
        refine ⟨max f g+1,(match r2 with| .ok (D',o')=> .ok (max D D',o')| .error k=> .error k),?_⟩
        rw [wfO,hx]
        dsimp only
        rw [if_neg c1,(wf_le L xs (Nat.le_max_left f g)).1 _ _ _ h]
        dsimp only
        rw [if_neg c4,if_neg c5,(wf_le L xs (Nat.le_max_right f g)).2.2.1 _ _ _ _ _ h2]
        cases r2 with
        |error k=>rfl
        |ok q=>rfl
  ·intro n dep
   cases n with
   |zero=>exact ⟨1,_,by rw [wfN]⟩
   |succ n=>
    obtain ⟨f,r,h⟩:=hT dep
    cases r with
    |error k=>exact ⟨f+1,.error k,by rw [wfN,h]⟩
    |ok q=>
     obtain ⟨D,o⟩:=q
     have hl:off<xs.length:=by
      cases f with
      |zero=>rw [wfI] at h;cases h
      |succ f=>
       rw [wfI] at h
       cases hh:hd xs off with
       |error k=>rw [hh] at h;cases h
       |ok q=>obtain ⟨m,ai,v,o⟩:=q;exact (byte_of_hd hh).1
     obtain ⟨g,r2,h2⟩:=(ih o (next _ _ _ _ h hl)).2.2.2.1 n dep
     refine ⟨max f g+1,(match r2 with| .ok (D',o')=> .ok (max D D',o')| .error k=> .error k),?_⟩
     rw [wfN]
     rw [(wf_le L xs (Nat.le_max_left f g)).1 _ _ _ h]
     dsimp only
     rw [(wf_le L xs (Nat.le_max_right f g)).2.2.2.1 _ _ _ _ h2]
     cases r2 with
     |error k=>rfl
     |ok q=>rfl
  ·intro dep
   cases hx:xs[off]? with
   |none=>exact ⟨1,.error 2,by rw [wfT,hx]⟩
   |some b=>
    obtain ⟨hl,_⟩:=List.getElem?_eq_some_iff.1 hx
    by_cases c1:b.toNat/32≠6
    ·obtain ⟨f,r,h⟩:=hT dep
     exact ⟨f+1,r,by rw [wfT,hx];dsimp only;rw [if_pos c1,h]⟩
    ·cases hh:hd xs off with
     |error k=>exact ⟨1,.error k,by rw [wfT,hx];dsimp only;rw [if_neg c1,hh]⟩
     |ok q=>
      obtain ⟨m,ai,v,o⟩:=q
      obtain ⟨h1,_,_,_⟩:=hd_off hh
      obtain ⟨_,h2⟩:=hd_val hh
      by_cases c4:L.nest<dep+1
      ·exact ⟨1,.error 5,by rw [wfT,hx];dsimp only;rw [if_neg c1,hh];dsimp only;rw [if_pos c4]⟩
      ·obtain ⟨f,r,h⟩:=(ih o (by omega)).2.2.2.2 (dep+1)
       exact ⟨f+1,r,by rw [wfT,hx];dsimp only;rw [if_neg c1,hh];dsimp only;rw [if_neg c4,h]⟩
mutual
def Tr.ht:Tr→Nat
 | .chk _ _=>2
 | .arr _ l=>1+Tr.hts l
 | .map _ l=>1+Tr.hts l
 | .tag _ t=>1+t.ht
 |_=>1
def Tr.hts:List Tr→Nat
 |[]=>0
 |t::l=>max t.ht (Tr.hts l)
end
mutual
theorem ht_dp: ∀t:Tr,t.ht≤2*t.dp+2+(if t.isTag then 1 else 0)
 | .int _ _=>by simp [Tr.ht];omega
 | .str _ _=>by simp [Tr.ht];omega
 | .chk _ _=>by simp [Tr.ht];omega
 | .arr _ l=>by have:=hts_dps l;rw [Tr.ht,Tr.dp];omega
 | .map _ l=>by have:=hts_dps l;rw [Tr.ht,Tr.dp];omega
 | .tag _ t=>by
  have:=ht_dp t
  rw [Tr.ht,dp_tag,show (Tr.tag _ t).isTag=true from rfl,if_pos rfl]
  omega
 | .prim _ _=>by simp [Tr.ht];omega
theorem hts_dps: ∀l:List Tr,Tr.hts l≤2*Tr.dps l+3
 |[]=>by rw [Tr.hts];omega
 |t::l=>by
  have h1:=ht_dp t
  have h2:=hts_dps l
  rw [Tr.hts,Tr.dps]
  split at h1<;>omega
end
mutual
theorem enc_off {xs:List UInt8}: ∀(t:Tr) (off o:Nat),Enc xs t off o→off<o∧o≤xs.length
 | .int neg n,off,o,h=>by
  rw [Enc] at h
  obtain ⟨ai,h⟩:=h
  exact ⟨(hd_off h).1,(hd_val h).2⟩
 | .str tx b,off,o,h=>by
  rw [Enc] at h
  obtain ⟨ai,v,o1,h,h1,h2,h3,h4,h5⟩:=h
  have:=(hd_off h).1
  omega
 | .chk tx l,off,o,h=>by
  rw [Enc] at h
  obtain ⟨v,o1,h,hc⟩:=h
  have:=(hd_off h).1
  have:=chunks_off tx l _ _ hc
  omega
 | .arr false l,off,o,h=>by
  rw [Enc] at h
  obtain ⟨ai,o1,h,_,hc⟩:=h
  have:=(hd_off h).1
  have:=encs_off l _ _ hc (hd_val h).2
  omega
 | .arr true l,off,o,h=>by
  rw [Enc] at h
  obtain ⟨v,o1,h,hc⟩:=h
  have:=(hd_off h).1
  have:=opens_off l _ _ hc
  omega
 | .map false l,off,o,h=>by
  rw [Enc] at h
  obtain ⟨ai,v,o1,h,_,_,hc⟩:=h
  have:=(hd_off h).1
  have:=encs_off l _ _ hc (hd_val h).2
  omega
 | .map true l,off,o,h=>by
  rw [Enc] at h
  obtain ⟨v,o1,h,_,hc⟩:=h
  have:=(hd_off h).1
  have:=opens_off l _ _ hc
  omega
 | .tag n t,off,o,h=>by
  rw [Enc] at h
  obtain ⟨ai,o1,h,hc⟩:=h
  have:=(hd_off h).1
  have:=enc_off t _ _ hc
  omega
 | .prim ai v,off,o,h=>by
  rw [Enc] at h
  exact ⟨(hd_off h).1,(hd_val h).2⟩
theorem encs_off {xs:List UInt8}: ∀(l:List Tr) (off o:Nat),Encs xs l off o→off≤xs.length→off+l.length≤o∧o≤xs.length
 |[],off,o,h,hl=>by rw [Encs] at h;subst h;simp;exact hl
 |t::l,off,o,h,hl=>by
  rw [Encs] at h
  obtain ⟨mid,h1,h2⟩:=h
  have a:=enc_off t _ _ h1
  have b:=encs_off l _ _ h2 a.2
  rw [List.length_cons]
  omega
theorem opens_off {xs:List UInt8}: ∀(l:List Tr) (off o:Nat),Opens xs l off o→off+l.length<o∧o≤xs.length
 |[],off,o,h=>by
  rw [Opens] at h
  obtain ⟨b,hb,_,rfl⟩:=h
  have:=(List.getElem?_eq_some_iff.1 hb).1
  simp
  omega
 |t::l,off,o,h=>by
  rw [Opens] at h
  obtain ⟨b,mid,hb,_,h1,h2⟩:=h
  have a:=enc_off t _ _ h1
  have b:=opens_off l _ _ h2
  rw [List.length_cons]
  omega
theorem chunks_off {xs:List UInt8} (tx:Bool): ∀(l:List Tr) (off o:Nat),Chunks xs tx l off o→off+l.length<o∧o≤xs.length
 |[],off,o,h=>by
  rw [Chunks] at h
  obtain ⟨b,hb,_,rfl⟩:=h
  have:=(List.getElem?_eq_some_iff.1 hb).1
  simp
  omega
 |t::l,off,o,h=>by
  rw [Chunks] at h
  obtain ⟨b,mid,hb,_,_,h1,h2⟩:=h
  have a:=enc_off t _ _ h1
  have b:=chunks_off tx l _ _ h2
  rw [List.length_cons]
  omega
end
mutual
theorem enc_tree {xs:List UInt8}: ∀(t:Tr) (k off o:Nat),Enc xs t off o→t.ht≤k→treeF xs k off=some (t,o)
 |t,0,off,o,h,hk=>by
  exfalso
  cases t<;>simp [Tr.ht] at hk
 | .int neg n,k+1,off,o,h,hk=>by
  rw [Enc] at h
  obtain ⟨ai,h⟩:=h
  rw [treeF,h]
  cases neg<;>rfl
 | .str tx b,k+1,off,o,h,hk=>by
  rw [Enc] at h
  obtain ⟨ai,v,o1,h,h1,h2,h3,h4,h5⟩:=h
  subst h4 h5
  rw [treeF]
  cases tx
  ·rw [show hd xs off= .ok (2,ai,v,o1) from h]
   dsimp only
   rw [if_neg (by omega),if_pos (by omega),if_neg h1,if_neg (by omega)]
   rfl
  ·rw [show hd xs off= .ok (3,ai,v,o1) from h]
   dsimp only
   rw [if_neg (by omega),if_pos (by omega),if_neg h1,if_neg (by omega)]
   rfl
 | .chk tx l,k+1,off,o,h,hk=>by
  rw [Enc] at h
  obtain ⟨v,o1,h,hc⟩:=h
  rw [Tr.ht] at hk
  obtain ⟨k,rfl⟩: ∃j,k=j+1:=⟨k-1,by omega⟩
  have hl:=chunks_off tx l _ _ hc
  have:=chunks_tree tx l k _ _ (xs.length+1) hc (by omega)
  rw [treeF]
  cases tx
  ·rw [show hd xs off= .ok (2,31,v,o1) from h]
   dsimp only
   rw [if_neg (by omega),if_pos (by omega),if_pos rfl,show ((2:Nat)==3)=false from rfl,this]
   rfl
  ·rw [show hd xs off= .ok (3,31,v,o1) from h]
   dsimp only
   rw [if_neg (by omega),if_pos (by omega),if_pos rfl,show ((3:Nat)==3)=true from rfl,this]
   rfl
 | .arr false l,k+1,off,o,h,hk=>by
  rw [Enc] at h
  obtain ⟨ai,o1,h,h31,hc⟩:=h
  rw [Tr.ht] at hk
  have hl:=encs_off l _ _ hc (hd_val h).2
  have:=encs_tree l k _ _ hc (by omega)
  rw [treeF,h]
  dsimp only
  rw [if_neg (by omega),if_neg (by omega),if_pos rfl,if_neg h31,if_neg (by omega),this]
  rfl
 | .arr true l,k+1,off,o,h,hk=>by
  rw [Enc] at h
  obtain ⟨v,o1,h,hc⟩:=h
  rw [Tr.ht] at hk
  have hl:=opens_off l _ _ hc
  have:=opens_tree l k _ _ (xs.length+1) hc (by omega) (by omega)
  rw [treeF,h]
  dsimp only
  rw [if_neg (by omega),if_neg (by omega),if_pos rfl,if_pos rfl,this]
  rfl
 | .map false l,k+1,off,o,h,hk=>by
  rw [Enc] at h
  obtain ⟨ai,v,o1,h,h31,hv,hc⟩:=h
  rw [Tr.ht] at hk
  have hl:=encs_off l _ _ hc (hd_val h).2
  have:=encs_tree l k _ _ hc (by omega)
  rw [hv] at this
  rw [treeF,h]
  dsimp only
  rw [if_neg (by omega),if_neg (by omega),if_neg (by omega),if_pos rfl,if_neg h31,if_neg (by omega),this]
  rfl
 | .map true l,k+1,off,o,h,hk=>by
  rw [Enc] at h
  obtain ⟨v,o1,h,h2,hc⟩:=h
  rw [Tr.ht] at hk
  have hl:=opens_off l _ _ hc
  have:=opens_tree l k _ _ (xs.length+1) hc (by omega) (by omega)
  rw [treeF,h]
  dsimp only
  rw [if_neg (by omega),if_neg (by omega),if_neg (by omega),if_pos rfl,if_pos rfl,this]
  dsimp only [Option.bind]
  rw [if_pos h2]
 | .tag n t,k+1,off,o,h,hk=>by
  rw [Enc] at h
  obtain ⟨ai,o1,h,hc⟩:=h
  rw [Tr.ht] at hk
  have:=enc_tree t k _ _ hc (by omega)
  rw [treeF,h]
  dsimp only
  rw [if_neg (by omega),if_neg (by omega),if_neg (by omega),if_neg (by omega),if_pos rfl,this]
  rfl
 | .prim ai v,k+1,off,o,h,hk=>by
  rw [Enc] at h
  rw [treeF,h]
  dsimp only
  rw [if_neg (by omega),if_neg (by omega),if_neg (by omega),if_neg (by omega),if_neg (by omega)]
theorem encs_tree {xs:List UInt8}: ∀(l:List Tr) (k off o:Nat),Encs xs l off o→Tr.hts l≤k→kidsF (treeF xs k) l.length off=some (l,o)
 |[],k,off,o,h,hk=>by rw [Encs] at h;subst h;rfl
 |t::l,k,off,o,h,hk=>by
  rw [Encs] at h
  obtain ⟨mid,h1,h2⟩:=h
  rw [Tr.hts] at hk
  rw [List.length_cons,kidsF,enc_tree t k _ _ h1 (by omega)]
  dsimp only
  rw [encs_tree l k _ _ h2 (by omega)]
theorem opens_tree {xs:List UInt8}: ∀(l:List Tr) (k off o g:Nat),Opens xs l off o→Tr.hts l≤k→l.length<g→openF (treeF xs k) (fun _=>true) xs g off=some (l,o)
 |l,k,off,o,0,h,hk,hg=>absurd hg (by omega)
 |[],k,off,o,g+1,h,hk,hg=>by
  rw [Opens] at h
  obtain ⟨b,hb,h255,rfl⟩:=h
  rw [openF,hb]
  dsimp only
  rw [if_pos h255]
 |t::l,k,off,o,g+1,h,hk,hg=>by
  rw [Opens] at h
  obtain ⟨b,mid,hb,h255,h1,h2⟩:=h
  rw [Tr.hts] at hk
  rw [List.length_cons] at hg
  rw [openF,hb]
  dsimp only
  rw [if_neg h255,enc_tree t k _ _ h1 (by omega)]
  dsimp only
  rw [if_pos rfl,opens_tree l k _ _ g h2 (by omega) (by omega)]
theorem chunks_tree {xs:List UInt8} (tx:Bool): ∀(l:List Tr) (k off o g:Nat),Chunks xs tx l off o→l.length<g→openF (treeF xs (k+1)) (Tr.isS tx) xs g off=some (l,o)
 |l,k,off,o,0,h,hg=>absurd hg (by omega)
 |[],k,off,o,g+1,h,hg=>by
  rw [Chunks] at h
  obtain ⟨b,hb,h255,rfl⟩:=h
  rw [openF,hb]
  dsimp only
  rw [if_pos h255]
 |t::l,k,off,o,g+1,h,hg=>by
  rw [Chunks] at h
  obtain ⟨b,mid,hb,h255,⟨s,hs⟩,h1,h2⟩:=h
  rw [List.length_cons] at hg
  rw [openF,hb]
  dsimp only
  rw [if_neg h255,enc_tree t (k+1) _ _ h1 (by rw [hs];simp [Tr.ht])]
  dsimp only
  rw [if_pos (by rw [hs];simp [Tr.isS]),chunks_tree tx l k _ _ g h2 (by omega)]
end
mutual
def Tr.lev:Tr→Nat
 | .chk _ l=>Tr.levs l
 | .arr _ l=>Tr.levs l+1
 | .map _ l=>Tr.levs l+1
 | .tag _ t=>t.lev+1
 |_=>0
def Tr.levs:List Tr→Nat
 |[]=>0
 |t::l=>max t.lev (Tr.levs l)
end
mutual
theorem dp_lev: ∀t:Tr,t.dp≤t.lev
 | .int _ _=>by simp [Tr.dp]
 | .str _ _=>by simp [Tr.dp]
 | .chk _ _=>by simp [Tr.dp]
 | .arr _ l=>by have:=dps_levs l;rw [Tr.lev,Tr.dp];omega
 | .map _ l=>by have:=dps_levs l;rw [Tr.lev,Tr.dp];omega
 | .tag _ t=>by have:=dp_lev t;rw [Tr.lev,dp_tag];split<;>omega
 | .prim _ _=>by simp [Tr.dp]
theorem dps_levs: ∀l:List Tr,Tr.dps l≤Tr.levs l
 |[]=>by rw [Tr.dps];omega
 |t::l=>by
  have h1:=dp_lev t
  have h2:=dps_levs l
  rw [Tr.levs,Tr.dps]
  omega
end
mutual
def Tr.snd (V:List UInt8→Bool):Tr→Bool
 | .str true b=>V b
 | .chk _ l=>Tr.snds V l
 | .arr _ l=>Tr.snds V l
 | .map _ l=>Tr.snds V l
 | .tag n t=>(!(n==2||n==3)||(match t with| .str false _=>true| .chk false _=>true|_=>false))&&t.snd V
 |_=>true
def Tr.snds (V:List UInt8→Bool):List Tr→Bool
 |[]=>true
 |t::l=>t.snd V&&Tr.snds V l
end
end
section
def dgs (n A:Nat) (h:Nat):List Nat:=if hn:n=0∨h<n then [] else A/2^(h-n)%2^n::dgs n A (h-n)
termination_by h
decreasing_by omega
theorem dgs_no {n A h:Nat} (hh:h<n):dgs n A h=[]:=by rw [dgs,dif_pos (.inr hh)]
theorem dgs_yes {n A h:Nat} (h0:0<n) (hh:n≤h):dgs n A h=A/2^(h-n)%2^n::dgs n A (h-n):=by rw [dgs,dif_neg (by omega)]
def bdg (n:Nat):List UInt8→Nat→Nat→List Nat
 |[],A,h=>if 0<h then [A*2^(n-h)] else []
 |c::l,A,h=>dgs n (A*256+c.toNat) (h+8)++bdg n l ((A*256+c.toNat)%2^((h+8)%n)) ((h+8)%n)
def ltr (ds:List UInt8) (i:Nat):UInt8:=ds.getD i 0
def baseB (n:Nat) (ds:List UInt8) (b:List UInt8):List UInt8:=(bdg n b 0 0).map (ltr ds)
theorem dgs_length (n A:Nat) (h0:0<n): ∀k h,h<k→(dgs n A h).length=h/n:=by
 intro k
 induction k with
 |zero=>intro h hk;omega
 |succ k ih=>
  intro h hk
  by_cases hh:h<n
  ·rw [dgs_no hh,Nat.div_eq_of_lt hh];rfl
  ·rw [dgs_yes h0 (by omega),List.length_cons,ih _ (by omega)]
   conv=>rhs;rw [Nat.div_eq,if_pos (by omega)]
theorem bdg_length (n:Nat) (h0:0<n): ∀(b:List UInt8) (A h:Nat),h<n→(bdg n b A h).length≤h+8*b.length
 |[],A,h,hh=>by
  rw [bdg]
  split<;>simp
  omega
 |c::l,A,h,hh=>by
  have ih:=bdg_length n h0 l ((A*256+c.toNat)%2^((h+8)%n)) ((h+8)%n) (Nat.mod_lt _ h0)
  rw [bdg,List.length_append,dgs_length n _ h0 _ _ (Nat.lt_succ_self _),List.length_cons]
  have h1:=Nat.div_add_mod (h+8) n
  have h2:(h+8)/n≤n*((h+8)/n):=Nat.le_mul_of_pos_left _ h0
  omega
theorem baseB_length (n:Nat) (h0:0<n) (ds b:List UInt8):(baseB n ds b).length≤8*b.length:=by
 have:=bdg_length n h0 b 0 0 h0
 unfold baseB
 rw [List.length_map]
 omega
def hexB (ds:List UInt8):List UInt8→List UInt8
 |[]=>[]
 |c::l=>ds.getD (c.toNat/16) 0::ds.getD (c.toNat%16) 0::hexB ds l
theorem bdg4: ∀b:List UInt8,bdg 4 b 0 0=b.flatMap fun c=>[c.toNat/16,c.toNat%16]
 |[]=>by simp [bdg]
 |c::l=>by
  have hc:=c.toNat_lt
  rw [bdg,dgs_yes (by omega) (by omega),dgs_yes (by omega) (by omega),dgs_no (by omega)]
  simp only [List.flatMap_cons]
  rw [show ((0+8)%4)=0 from rfl,show (0*256+c.toNat)%2^0=0 by simp [Nat.mod_one],bdg4 l]
  simp
  omega
theorem base4 (ds:List UInt8): ∀b:List UInt8,baseB 4 ds b=hexB ds b
 |[]=>by simp [baseB,bdg,hexB]
 |c::l=>by
  have ih:=base4 ds l
  unfold baseB at *
  rw [bdg4,List.flatMap_cons,List.map_append,←bdg4,ih]
  rfl
theorem hexB_append (ds:List UInt8): ∀a b:List UInt8,hexB ds (a++b)=hexB ds a++hexB ds b
 |[],b=>rfl
 |c::a,b=>by simp [hexB,hexB_append ds a b]
theorem hexB_length (ds:List UInt8): ∀a:List UInt8,(hexB ds a).length=2*a.length
 |[]=>rfl
 |c::a=>by simp [hexB,hexB_length ds a];omega
def spacedB (ds:List UInt8):Nat→List UInt8→List UInt8
 |_,[]=>[]
 |i,c::l=>(if i=0 then [] else [32])++(hexB ds [c]++spacedB ds (i+1) l)
def hexD:List UInt8:=[48,49,50,51,52,53,54,55,56,57,97,98,99,100,101,102]
def b32D:List UInt8:=[65,66,67,68,69,70,71,72,73,74,75,76,77,78,79,80,81,82,83,84,85,86,87,88,89,90,50,51,52,53,54,55]
def h32D:List UInt8:=[48,49,50,51,52,53,54,55,56,57,65,66,67,68,69,70,71,72,73,74,75,76,77,78,79,80,81,82,83,84,85,86]
def b64D:List UInt8:=[65,66,67,68,69,70,71,72,73,74,75,76,77,78,79,80,81,82,83,84,85,86,87,88,89,90,97,98,99,100,101,102,103,104,105,106,107,108,109,110,111,112,113,114,115,116,117,118,119,120,121,122,48,49,50,51,52,53,54,55,56,57,45,95]
def noteB (enc:Nat) (sp:Bool) (b:List UInt8):List UInt8:=
 (if enc=1 then [98,51,50,39]++baseB 5 b32D b else if enc=2 then [104,51,50,39]++baseB 5 h32D b else if enc=3 then [98,54,52,39]++baseB 6 b64D b
 else if sp then [104,39]++spacedB hexD 0 b else [104,39]++hexB hexD b)++[39]
section
open Go.RowKit
theorem rd_new {w W:World} {s:List UInt8} {cs:Array Value} {t:TypeId} (h:W.heap=w.heap.push (.cells cs t (0,0))) (hc:cs=(enc s).toArray):Rd W w.heap.size 0 s:=fun j hj=>by
 subst hc
 have hb:W.heap[w.heap.size]? =some (.cells (enc s).toArray t (0,0)):=by rw [h];simp
 rw [Nat.zero_add,cell_blk hb]
 simp [enc,hj]
theorem Fr.push {S:List Nat} {w w1 W:World} {o:Obj} (h:Fr S w w1) (e:W.heap=w1.heap.push o) (h1:W.os=w1.os) (h2:W.tape=w1.tape) (h3:W.output=w1.output):Fr S w W:=
 h.then_ (T:=[]) ⟨h1,h2,h3,by rw [e];simp,fun k hk _=>by rw [e];exact Below.heap_alloc w1 o k hk⟩ (by simp)
theorem Row.push {w W:World} {B:Nat} {v:Value} {bs:List UInt8} {o:Obj} (h:Row w B v bs) (e:W.heap=w.heap.push o):Row W B v bs:=by
 obtain ⟨h1,h2⟩:=h
 refine ⟨h1,?_⟩
 rcases h2 with h2|⟨g,cap,cur,rfl,hg,hh,r⟩
 ·exact .inl h2
 ·exact .inr ⟨g,cap,cur,rfl,hg,by rw [e];exact (Below.heap_alloc w o g (blk_lt' hh)).trans hh,r⟩
theorem step_apRow {ops:Array Oper} {o:Oper} {a:Act} {w:World} {K:Act→World→Prop} {Q:Exit→Act→World→Prop} {E:Prop}
  (hg:o.guard=none) (x y:Operand) (hop:o.op=Op.call {callee:=Callee.builtin Builtin.append,args:= #[x,y],argTypes:= #[59,59]})
  {B:Nat} (v:Value) (bs s:List UInt8) (b off c:Nat) (hs:a.eval x=v) (hx:a.eval y= .slice (some ⟨b,off,none⟩) s.length c) (hr:Rd w b off s) (hown:Row w B v bs) (hB:B≤w.heap.size) (hl:bs.length+s.length≤140737488355328)
  (hK: ∀v' w',Row w' B v' (bs++s)→w.grownBy w' v.ownBlock→K (a.put o.dst v') w'):
  if Region.wanted o (yielded ops a.tmps)=true then Oper.wp Tryz.prog o a w K Q else E:=by
 have hw:Region.wanted o (yielded ops a.tmps)=true:=by simp [Region.wanted,hg]
 rw [if_pos hw]
 have hinfo:(Tryz.prog.info? 5).map (fun i=>(i.zero,i.size,i.bytes))=some (some (.int .u8 0),1,1):=by kernel_rfl
 obtain ⟨i0,hi,hzz⟩:=Option.map_eq_some_iff.1 hinfo
 simp only [Prod.mk.injEq] at hzz
 obtain ⟨hz0,hz1,hz2⟩:=hzz
 obtain ⟨v',w',hrun,r1,r2,_⟩:=run_append_own (P:=Tryz.prog) w B 59 o.type 5 i0 (.int .u8 0) 1 1 Tryz.underlying59 hi hz0 hz1 hz2 rfl (by decide) v bs.length (enc bs) hown ⟨b,off,none⟩ s.length c (enc s) (by rw [enc_length,Nat.mul_one]) hr.cells (enc_one s) (by simp only [maxLen];omega) (by omega) hB
 unfold Oper.wp
 simp [execOp,hop,resolve,invoke,builtin,hs,hx,hrun,Result.andThen]
 rw [←enc_append,←List.length_append] at r1
 exact hK v' w' r1 r2
end
section
open Go.RowKit
theorem hex_at (k:Fin 16):((⟨#[48,49,50,51,52,53,54,55,56,57,97,98,99,100,101,102]⟩:ByteArray)[k.val]'(by have:=k.isLt;show _<16;omega)).toNat=(hexD.getD k.val 0).toNat:=by revert k;decide
theorem hex_step (xs:List UInt8) (j:Nat) (h:j<xs.length):hexB hexD (xs.take (j+1))=hexB hexD (xs.take j)++[hexD.getD (xs[j].toNat/16) 0,hexD.getD (xs[j].toNat%16) 0]:=by
 rw [List.take_succ_eq_append_getElem h,hexB_append]
 rfl
theorem u8_and15 (b:UInt8):bits .and .u8 (b.toNat:Int) 15=((b.toNat%16:Nat):Int):=by
 have hb:=b.toNat_lt
 rw [show (15:Int)=((15:Nat):Int) from rfl,u8_and_nat _ _ (by omega) (by decide)]
 have key: ∀x:Fin 256,(x.val&&&15)=x.val%16:=by decide+kernel
 exact congrArg _ (key ⟨b.toNat,hb⟩)
theorem zzHex {w:World} {b o c:Nat} {xs:List UInt8} (hrd:Rd w b o xs) (hlen:xs.length≤1099511627776):
  Calls Tryz.prog 170 #[.slice (some ⟨b,o,none⟩) xs.length c] w fun e w'=> ∃v,e= .returned v∧Row w' w.heap.size v (hexB hexD xs)∧Fr [] w w':=by
 replace hrd:=Hz hrd
 obtain ⟨n,hn⟩: ∃n,n=xs.length:=⟨_,rfl⟩
 go_enter Tryz.func170,Tryz.ntmps170
 go_wp2
 go_loopg [3,8] xs.length (fun k v3 v8 wr=> ∃j:Nat,v8= .int .i64 (j:Int)∧j+k=xs.length∧Row wr w.heap.size v3 (hexB hexD (xs.take j))∧Fr [] w wr)
 case atStart=>exact ⟨0,by go_num,by omega,Row.nil _ _,Fr.refl _ _⟩
 case round=>
  obtain ⟨j,rfl,hj,hrow,hF⟩:=hrel
  obtain ⟨ao,n0,c0,rfl⟩:=hrow.shape
  by_cases hk:gk=0
  ·subst hk
   obtain rfl:j=xs.length:=by omega
   rw [List.take_of_length_le (Nat.le_refl _)] at hrow
   have t1: ¬(xs.length:Int)<(xs.length:Int):=by omega
   go_wp2
   go_ret
   exact ⟨_,rfl,hrow,hF⟩
  ·obtain ⟨g,rfl⟩: ∃g,gk=g+1:=⟨gk-1,by omega⟩
   have hjl:j<xs.length:=by omega
   have t1:(j:Int)<(xs.length:Int):=by omega
   have hc:=hF.cell (hrd.out j hjl) (by simp)
   generalize hxe:xs[j]=x at hc
   have hb:=x.toNat_lt
   have ga:=u8_and15 x
   have gd:(x.toNat:Int)/16=((x.toNat/16:Nat):Int):=by omega
   have hstep:=hex_step xs j hjl
   rw [hxe] at hstep
   have hl1:x.toNat/16<16:=by omega
   have hl2:x.toNat%16<16:=by omega
   clear hb hxe
   generalize x.toNat/16=h1 at *
   generalize x.toNat%16=h2 at *
   have d1:=hex_at ⟨h1,hl1⟩
   have d2:=hex_at ⟨h2,hl2⟩
   have hl:(hexB hexD (xs.take j)).length+[hexD.getD h1 0,hexD.getD h2 0].length≤140737488355328:=by
    rw [hexB_length];simp;omega
   have hBs:=hF.size
   have hstep':=Hz hstep
   have d1':=Hz d1
   have d2':=Hz d2
   clear d1 d2 hstep
   have i1:(h1:Int)<16:=by omega
   have i2:(h2:Int)<16:=by omega
   go_wp2
   go_region_law (refine step_apRow rfl (.tmp 12) (.tmp 19) rfl (B:=w.heap.size) _ _ [hexD.getD h1 0,hexD.getD h2 0] wr.heap.size 0 2 (by simp [Act.eval,Act.put]) (by simp [Act.eval,Act.put]) (rd_new (w:=wr) rfl (by simp only [enc,List.map_cons,List.map_nil];rw [←d1'.out,←d2'.out])) (hrow.push rfl) (by simp;omega) hl ?_;intro v' w' hr' hg)
   all_goals
    have hF2:Fr [] w w':=by
     refine Fr.grown ?_ hg (fun k hk=> .inr (World.ownsRow.lt hrow k hk).1)
     exact hF.push rfl rfl rfl rfl
    rw [←hstep'.out] at hr'
    go_wp2
    go_roundg g
    case measure=>omega
    case rel=>exact ⟨j+1,by go_num,by omega,hr',hF2⟩
end
section
open Go.RowKit
theorem or_acc (A x:Nat) (hA:A<128) (hx:x<256):bits .or .u64 ((A:Int)*256) (x:Int)=((A*256+x:Nat):Int):=by
 rw [show (A:Int)*256=((A*256:Nat):Int) by omega,u64_or_nat _ _ (by omega) (by omega),nat_join 8 _ _ (by omega) (by omega)]
theorem wrap64_lt (x:Nat) (h:x<18446744073709551616):IntKind.u64.wrap (x:Int)=(x:Int):=by show (x:Int)%18446744073709551616=_;omega
theorem pow_int (n:Nat):(2:Int)^n=((2^n:Nat):Int):=by simp
theorem mask_w (n:Nat) (h:n≤8):IntKind.u64.wrap (IntKind.u64.wrap (2^n)-1)=((2^n-1:Nat):Int):=by
 have hp:=Nat.pow_le_pow_right (n:=2) (by omega) h
 have h1:1≤2^n:=Nat.pow_pos (by omega)
 rw [pow_int,wrap64_lt _ (by omega),show ((2^n:Nat):Int)-1=((2^n-1:Nat):Int) by omega,wrap64_lt _ (by omega)]
theorem and_mask (A n:Nat) (hA:A<18446744073709551616) (h:n≤8):bits .and .u64 (A:Int) (IntKind.u64.wrap (IntKind.u64.wrap (2^n)-1))=((A%2^n:Nat):Int):=by
 have hp:=Nat.pow_le_pow_right (n:=2) (by omega) h
 rw [mask_w n h,u64_and_nat _ _ hA (by omega),Nat.and_two_pow_sub_one_eq_mod]
theorem ba_getD (ds:List UInt8) (z:Nat) (h:z<ds.length):((⟨ds.toArray⟩:ByteArray)[z]'(by show z<ds.toArray.size;simpa using h))=ltr ds z:=by
 unfold ltr
 rw [List.getD_eq_getElem?_getD,List.getElem?_eq_getElem h]
 rfl
theorem bdg_step (n:Nat) (xs:List UInt8) (j A h:Nat) (hj:j<xs.length):bdg n (xs.drop j) A h=dgs n (A*256+xs[j].toNat) (h+8)++bdg n (xs.drop (j+1)) ((A*256+xs[j].toNat)%2^((h+8)%n)) ((h+8)%n):=by
 rw [List.drop_eq_getElem_cons hj,bdg]
theorem zzBits {w:World} {b o c n:Nat} {xs ds:List UInt8} (h0:0<n) (h8:n≤8) (hds:ds.length=2^n) (hrd:Rd w b o xs) (hlen:xs.length≤1099511627776):
  Calls Tryz.prog 199 #[.slice (some ⟨b,o,none⟩) xs.length c,.int .u64 (n:Int),.string ⟨ds.toArray⟩] w fun e w'=> ∃v,e= .returned v∧Row w' w.heap.size v (baseB n ds xs)∧Fr [] w w':=by
 replace hrd:=Hz hrd
 replace hds:=Hz hds
 go_enter Tryz.func199,Tryz.ntmps199
 go_wp2
 go_loopg [7,8,9,14] xs.length (fun k v7 v8 v9 v14 wr=> ∃(j A h:Nat) (out:List Nat),v14= .int .i64 (j:Int)∧j+k=xs.length∧v8= .int .u64 (A:Int)∧v9= .int .u64 (h:Int)∧A<2^h∧h<n∧Hid (out++bdg n (xs.drop j) A h=bdg n xs 0 0)∧Row wr w.heap.size v7 (out.map (ltr ds))∧Fr [] w wr)
 case atStart=>exact ⟨0,0,0,[],by go_num,by omega,by go_num,by go_num,by omega,h0,Hz (by simp),Row.nil _ _,Fr.refl _ _⟩
 case round=>
  obtain ⟨j,A,h,out,rfl,hj,rfl,rfl,hA,hh,heq,hrow,hF⟩:=hrel
  obtain ⟨ao,n0,c0,rfl⟩:=hrow.shape
  by_cases hk:gk=0
  ·subst hk
   obtain rfl:j=xs.length:=by omega
   rw [List.drop_of_length_le (Nat.le_refl _),bdg] at heq
   have t1: ¬(xs.length:Int)<(xs.length:Int):=by omega
   by_cases hz:0<h
   ·rw [if_pos hz] at heq
    have t2:(0:Int)<(h:Int):=by omega
    have hfin:=heq.out
    have hol:=congrArg List.length hfin
    rw [List.length_append,List.length_singleton] at hol
    have hbl:=bdg_length n h0 xs 0 0 h0
    have hsub:(n:Int)-(h:Int)=((n-h:Nat):Int):=by omega
    have hpw:A*2^(n-h)<2^n:=by
     have h1:A*2^(n-h)<2^h*2^(n-h):=Nat.mul_lt_mul_of_pos_right hA (Nat.pow_pos (by omega))
     rwa [←Nat.pow_add,show h+(n-h)=n by omega] at h1
    have hp8:=Nat.pow_le_pow_right (n:=2) (by omega) h8
    have gsl:IntKind.u64.wrap ((A:Int)*2^(n-h))=((A*2^(n-h):Nat):Int):=by
     rw [pow_int,←Int.natCast_mul]
     exact wrap64_lt _ (by omega)
    have gma:=and_mask (A*2^(n-h)) n (by omega) h8
    rw [Nat.mod_eq_of_lt hpw] at gma
    rw [←hds.out] at hpw
    have hlo:(out.map (ltr ds)).length+[ltr ds (A*2^(n-h))].length≤140737488355328:=by simp;omega
    have hrow2:baseB n ds xs=(out.map (ltr ds))++[ltr ds (A*2^(n-h))]:=by
     unfold baseB
     rw [←hfin,List.map_append]
     rfl
    have hBs:=hF.size
    generalize A*2^(n-h)=z at *
    have hba:=ba_getD ds z hpw
    replace hba:=Hz hba
    replace hrow2:=Hz hrow2
    replace heq:=Hz heq
    replace hfin:=Hz hfin
    clear hol hbl hp8
    go_wp2_with (at_builtin;refine wpList_apRow rfl _ _ rfl (B:=w.heap.size) _ (out.map (ltr ds)) [ltr ds z] wr.heap.size 0 1 rfl rfl (rd_new (w:=wr) rfl (by simp only [enc,List.map_cons,List.map_nil];rw [←hba.out])) (hrow.push rfl) (by simp;omega) hlo ?_)
    intro v' w' hr' hg
    go_wp2
    go_ret
    refine ⟨_,rfl,by rw [hrow2.out];exact hr',?_⟩
    refine Fr.grown ?_ hg (fun k hk=> .inr (World.ownsRow.lt hrow k hk).1)
    exact hF.push rfl rfl rfl rfl
   ·rw [if_neg hz,List.append_nil] at heq
    have t2: ¬(0:Int)<(h:Int):=by omega
    have hrow2:baseB n ds xs=out.map (ltr ds):=by unfold baseB;rw [←heq.out]
    rw [←hrow2] at hrow
    clear hrow2
    go_wp2
    go_ret
    exact ⟨_,rfl,hrow,hF⟩
  ·obtain ⟨g,rfl⟩: ∃g,gk=g+1:=⟨gk-1,by omega⟩
   have hjl:j<xs.length:=by omega
   have t1:(j:Int)<(xs.length:Int):=by omega
   have hc:=hF.cell (hrd.out j hjl) (by simp)
   have hE:=heq.out
   rw [bdg_step n xs j A h hjl] at hE
   clear heq
   generalize hxe:xs[j]=x at hc hE
   have hb:=x.toNat_lt
   have hp8:=Nat.pow_le_pow_right (n:=2) (by omega) (show h≤7 by omega)
   have hA8:A<128:=by omega
   have gor:=or_acc A x.toNat hA8 hb
   generalize hBB:A*256+x.toNat=BB at *
   have hB2:BB<32768:=by omega
   replace hBB:=Hz hBB
   have hmn:=Nat.mod_lt (h+8) h0
   have hol:Hid (out.length+(dgs n BB (h+8)).length≤8*xs.length):=by
    have:=congrArg List.length hE
    rw [List.length_append,List.length_append] at this
    have hbl:=bdg_length n h0 xs 0 0 h0
    exact Hz (by omega)
   replace hE:=Hz hE
   go_wp2
   go_loopg [7,9] (h+8) (fun k v7 v9 wr=> ∃(out':List Nat),v9= .int .u64 (k:Int)∧k<16∧Hid (k%n=(h+8)%n)∧Hid (out'++dgs n BB k=out++dgs n BB (h+8))∧Row wr w.heap.size v7 (out'.map (ltr ds))∧Fr [] w wr)
   case atStart=>exact ⟨out,by go_num,by omega,rfl,rfl,hrow,hF⟩
   case round=>
    obtain ⟨out',rfl,hk16,hmod,heq',hrow',hF'⟩:=hrel
    obtain ⟨ao',n0',c0',rfl⟩:=hrow'.shape
    by_cases hkn:gk<n
    ·have t2: ¬(n:Int)≤(gk:Int):=by omega
     have gma:=and_mask BB gk (by omega) (by omega)
     have hk2:gk=(h+8)%n:=by rw [←hmod.out,Nat.mod_eq_of_lt hkn]
     have hE2:=hE.out
     rw [←hk2] at hE2
     have he2:=heq'.out
     rw [dgs_no hkn,List.append_nil] at he2
     rw [←List.append_assoc,←he2] at hE2
     have hAl:=Nat.mod_lt BB (show 0<2^gk from Nat.pow_pos (by omega))
     replace hE2:=Hz hE2
     replace hk2:=Hz hk2
     clear he2
     go_wp2
     go_roundg g
     case measure=>omega
     case rel=>exact ⟨j+1,BB%2^gk,gk,out',by go_num,by omega,rfl,rfl,hAl,hkn,hE2,hrow',hF'⟩
    ·have t2:(n:Int)≤(gk:Int):=by omega
     have gsh:(BB:Int)/2^(gk-n)=((BB/2^(gk-n):Nat):Int):=by rw [pow_int];omega
     have hdl:BB/2^(gk-n)≤BB:=Nat.div_le_self _ _
     have gma:=and_mask (BB/2^(gk-n)) n (by omega) h8
     rw [←gsh] at gma
     have hml:=Nat.mod_lt (BB/2^(gk-n)) (show 0<2^n from Nat.pow_pos (by omega))
     rw [←hds.out] at hml
     have he2:=heq'.out
     rw [dgs_yes h0 (by omega)] at he2
     have hol2:=congrArg List.length he2
     rw [List.length_append,List.length_append,List.length_cons] at hol2
     have:=hol.out
     have hms:(gk-n)%n=(h+8)%n:=by rw [←hmod.out,Nat.mod_eq_sub_mod (show n≤gk by omega)]
     generalize hz:BB/2^(gk-n)%2^n=z at *
     rw [show out'++z::dgs n BB (gk-n)=(out'++[z])++dgs n BB (gk-n) by simp] at he2
     have hlo:(out'.map (ltr ds)).length+[ltr ds z].length≤140737488355328:=by simp;omega
     have hBs:=hF'.size
     have hzl:z<ds.length:=by rw [hds.out] at hml ⊢;omega
     have hba:=ba_getD ds z hzl
     replace hba:=Hz hba
     replace hz:=Hz hz
     replace he2:=Hz he2
     replace hms:=Hz hms
     clear gsh hdl hml hol2 this
     go_wp2_with (at_builtin;refine wpList_apRow rfl _ _ rfl (B:=w.heap.size) _ (out'.map (ltr ds)) [ltr ds z] wr.heap.size 0 1 rfl rfl (rd_new (w:=wr) rfl (by simp only [enc,List.map_cons,List.map_nil];rw [←hba.out])) (hrow'.push rfl) (by simp;omega) hlo ?_)
     intro v' w' hr' hg
     have hF2:Fr [] w w':=by
      refine Fr.grown ?_ hg (fun k hk=> .inr (World.ownsRow.lt hrow' k hk).1)
      exact hF'.push rfl rfl rfl rfl
     go_wp2
     go_roundg (gk-n)
     case measure=>omega
     case rel=>exact ⟨out'++[z],by congr 1;omega,by omega,hms,he2,by rw [List.map_append];exact hr',hF2⟩
end
section
open Go.RowKit
def Src (w:World) (v:Value) (s:List UInt8):Prop:=(s=[]∧v= .slice none 0 0)∨ ∃b off c,v= .slice (some ⟨b,off,none⟩) s.length c∧Rd w b off s
theorem Row.src {w:World} {B:Nat} {v:Value} {bs:List UInt8} (h:Row w B v bs):Src w v bs:=by
 rcases h.2 with ⟨hv,h0⟩|⟨g,cap,cur,rfl,r⟩
 ·exact .inl ⟨List.eq_nil_of_length_eq_zero h0,hv⟩
 ·exact .inr ⟨g,0,cap,rfl,Rd.of_own h⟩
theorem Src.fr {w w':World} {v:Value} {s:List UInt8} (h:Src w v s) (hf:Fr [] w w'):Src w' v s:=by
 rcases h with h|⟨b,off,c,hv,hr⟩
 ·exact .inl h
 ·exact .inr ⟨b,off,c,hv,hr.fr hf (by simp)⟩
theorem Src.shape {w:World} {v:Value} {s:List UInt8} (h:Src w v s): ∃ao n c,v= .slice ao n c:=by
 rcases h with ⟨_,rfl⟩|⟨b,off,c,rfl,_⟩<;>exact ⟨_,_,_,rfl⟩
theorem run_apSrc {w:World} {B:Nat} (v:Value) (bs s:List UInt8) (u:Value) (ty:TypeId) (hu:Src w u s) (hown:Row w B v bs) (hB:B≤w.heap.size) (hl:bs.length+s.length≤140737488355328):
  ∃v' w',(Builtin.append_ #[59,59] ty #[v,u]).run Tryz.prog w= .ok v' w'∧Row w' B v' (bs++s)∧w.grownBy w' v.ownBlock:=by
 have hinfo:(Tryz.prog.info? 5).map (fun i=>(i.zero,i.size,i.bytes))=some (some (.int .u8 0),1,1):=by kernel_rfl
 obtain ⟨i0,hi,hzz⟩:=Option.map_eq_some_iff.1 hinfo
 simp only [Prod.mk.injEq] at hzz
 obtain ⟨hz0,hz1,hz2⟩:=hzz
 rcases hu with ⟨rfl,rfl⟩|⟨b,off,c,rfl,hr⟩
 ·have hrun:=run_append_owned_none (P:=Tryz.prog) (w:=w) B 59 ty 5 i0 1 Tryz.underlying59 hi v bs.length (enc bs) hown
  exact ⟨v,w,hrun,by rw [List.append_nil];exact hown,World.grownBy.refl w _⟩
 ·obtain ⟨v',w',hrun,r1,r2,_⟩:=run_append_own (P:=Tryz.prog) w B 59 ty 5 i0 (.int .u8 0) 1 1 Tryz.underlying59 hi hz0 hz1 hz2 rfl (by decide) v bs.length (enc bs) hown ⟨b,off,none⟩ s.length c (enc s) (by rw [enc_length,Nat.mul_one]) hr.cells (enc_one s) (by simp only [maxLen];omega) (by omega) hB
  rw [←enc_append,←List.length_append] at r1
  exact ⟨v',w',hrun,r1,r2⟩
theorem wpList_apSrc {w:World} {ops:Array Oper} {rest:List Oper} {o:Oper} {a:Act} {Q:Exit→Act→World→Prop} (hgd:o.guard=none) (x y:Operand) (ho:o.op= .call {callee:= .builtin .append,args:= #[x,y],argTypes:= #[59,59]})
  {B:Nat} (v:Value) (bs s:List UInt8) (u:Value) (hs:a.eval x=v) (hx:a.eval y=u) (hu:Src w u s) (hown:Row w B v bs) (hB:B≤w.heap.size) (hl:bs.length+s.length≤140737488355328)
  (h: ∀v' w',Row w' B v' (bs++s)→w.grownBy w' v.ownBlock→wpList Tryz.prog ops Q rest (a.put o.dst v') w'):wpList Tryz.prog ops Q (o::rest) a w:=by
 refine wpList_plain hgd fun K hK=> ?_
 obtain ⟨v',w',hrun,r1,r2⟩:=run_apSrc v bs s u o.type hu hown hB hl
 unfold Oper.wp
 simp [execOp,ho,resolve,invoke,builtin,hs,hx,hrun,Result.andThen]
 exact hK _ _ (h v' w' r1 r2)
theorem step_apSrc {w:World} {ops:Array Oper} {o:Oper} {a:Act} {K:Act→World→Prop} {Q:Exit→Act→World→Prop} {E:Prop}
  (hg:o.guard=none) (x y:Operand) (hop:o.op=Op.call {callee:=Callee.builtin Builtin.append,args:= #[x,y],argTypes:= #[59,59]})
  {B:Nat} (v:Value) (bs s:List UInt8) (u:Value) (hs:a.eval x=v) (hx:a.eval y=u) (hu:Src w u s) (hown:Row w B v bs) (hB:B≤w.heap.size) (hl:bs.length+s.length≤140737488355328)
  (hK: ∀v' w',Row w' B v' (bs++s)→w.grownBy w' v.ownBlock→K (a.put o.dst v') w'):
  if Region.wanted o (yielded ops a.tmps)=true then Oper.wp Tryz.prog o a w K Q else E:=by
 have hw:Region.wanted o (yielded ops a.tmps)=true:=by simp [Region.wanted,hg]
 rw [if_pos hw]
 obtain ⟨v',w',hrun,r1,r2⟩:=run_apSrc v bs s u o.type hu hown hB hl
 unfold Oper.wp
 simp [execOp,hop,resolve,invoke,builtin,hs,hx,hrun,Result.andThen]
 exact hK v' w' r1 r2
theorem writeSrc {w:World} {B wb:Nat} {bs:List UInt8} (h:Buf w B wb bs) (hwb:wb<B) (hB:B≤w.heap.size) (s:List UInt8) (u:Value) (hu:Src w u s) (hl:bs.length+s.length≤140737488355328):
  Calls Tryz.prog 171 #[.pointer (some ⟨wb,0,none⟩),u] w fun e w'=>(∃u,e= .returned u)∧Buf w' B wb (bs++s)∧Gr B [wb] w w':=by
 obtain ⟨v,hb,hr⟩:=h
 have c0:w.cell? ⟨wb,0,none⟩=some v:=cell_blk hb 0
 obtain ⟨ao,n,c,rfl⟩:=hr.shape
 obtain ⟨ao2,n2,c2,rfl⟩:=hu.shape
 go_enter Tryz.func171,Tryz.ntmps171
 go_wp2_with (at_builtin;refine wpList_apSrc rfl _ _ rfl (B:=B) _ bs s _ rfl rfl hu hr hB hl ?_)
 intro v' w' hr' hg
 have hb':w'.heap[wb]? =some (.cells #[.slice ao n c] 194 (0,0)):=(hg.block wb (blk_lt' hb) (hr.ne hwb)).trans hb
 have c0':w'.cell? ⟨wb,0,none⟩=some (.slice ao n c):=cell_blk hb' 0
 have f0':w'.frozen? ⟨wb,0,none⟩=false:=frozen_blk hb' 0
 obtain ⟨ao',n',c',rfl⟩:=hr'.shape
 go_wp2
 go_ret2
 exact ⟨⟨_,rfl⟩,buf_stored hb hr hr' hg hwb hB⟩
theorem zzBase32 {w:World} {b o c:Nat} {xs ds:List UInt8} (hds:ds.length=32) (hrd:Rd w b o xs) (hlen:xs.length≤1099511627776):
  Calls Tryz.prog 172 #[.slice (some ⟨b,o,none⟩) xs.length c,.string ⟨ds.toArray⟩] w fun e w'=> ∃v,e= .returned v∧Row w' w.heap.size v (baseB 5 ds xs)∧Fr [] w w':=by
 have K:=Hz (zzBits (c:=c) (n:=5) (by decide) (by decide) (by rw [hds]) hrd hlen)
 clear hds hrd
 go_enter Tryz.func172,Tryz.ntmps172
 go_wp2_with fail
 refine K.out.mono ?_
 rintro e w1 ⟨v,rfl,hr,hf⟩
 obtain ⟨ao,n,c,rfl⟩:=hr.shape
 go_wp2
 go_ret
 exact ⟨_,rfl,hr,hf⟩
theorem zzBase64 {w:World} {b o c:Nat} {xs:List UInt8} (hrd:Rd w b o xs) (hlen:xs.length≤1099511627776):
  Calls Tryz.prog 173 #[.slice (some ⟨b,o,none⟩) xs.length c] w fun e w'=> ∃v,e= .returned v∧Row w' w.heap.size v (baseB 6 b64D xs)∧Fr [] w w':=by
 have K:=Hz (zzBits (c:=c) (n:=6) (ds:=b64D) (by decide) (by decide) (by decide) hrd hlen)
 clear hrd
 go_enter Tryz.func173,Tryz.ntmps173
 go_wp2_with fail
 refine K.out.mono ?_
 rintro e w1 ⟨v,rfl,hr,hf⟩
 obtain ⟨ao,n,c,rfl⟩:=hr.shape
 go_wp2
 go_ret
 exact ⟨_,rfl,hr,hf⟩
end
end
def dv (l:List Nat):Nat:=l.foldl (fun a d=>a*10+d) 0
theorem dv_from: ∀(l:List Nat) (a:Nat),l.foldl (fun a d=>a*10+d) a=a*10^l.length+dv l
 |[],a=>by simp [dv]
 |d::l,a=>by
  have h1:=dv_from l (a*10+d)
  have h2:=dv_from l (0*10+d)
  rw [List.foldl_cons,h1]
  unfold dv
  rw [List.foldl_cons,h2,List.length_cons,Nat.pow_succ]
  unfold dv
  rw [Nat.add_mul,Nat.add_mul,Nat.mul_assoc,Nat.mul_comm 10]
  omega
theorem dv_nil:dv []=0:=rfl
theorem dv_append (l m:List Nat):dv (l++m)=dv l*10^m.length+dv m:=by
 unfold dv
 rw [List.foldl_append,dv_from]
 rfl
theorem dv_snoc (l:List Nat) (d:Nat):dv (l++[d])=dv l*10+d:=by simp [dv]
theorem dv_cons (d:Nat) (l:List Nat):dv (d::l)=d*10^l.length+dv l:=by
 have:=dv_append [d] l
 simpa [dv] using this
theorem dv_lt: ∀(l:List Nat),(∀d,d∈l→d<10)→dv l<10^l.length
 |[],_=>by simp [dv]
 |d::l,h=>by
  have ih:=dv_lt l (fun x hx=>h x (by simp [hx]))
  have hd:=h d (by simp)
  have:=Nat.mul_le_mul_right (10^l.length) (show d≤9 by omega)
  rw [dv_cons,List.length_cons,Nat.pow_succ]
  omega
theorem dv_zeros (l:List Nat) (n:Nat):dv (l++List.replicate n 0)=dv l*10^n:=by
 have h: ∀n,dv (List.replicate n 0)=0:=fun n=>by
  induction n with
  |zero=>rfl
  |succ n ih=>rw [List.replicate_succ,dv_cons,ih];simp
 rw [dv_append,h,List.length_replicate]
 omega
structure NormD (d:List Nat) (dp:Int):Prop where
 lt: ∀x,x∈d→x<10
 nil:d=[]→dp=0
 hd: ∀x l,d=x::l→x≠0
 last: ∀x l,d=l++[x]→x≠0
def dV (d:List Nat) (dp:Int):Nat:=dv d*10^(dp-d.length+1100).toNat
theorem dv_pos {d:List Nat} {dp:Int} (h:NormD d dp) (hn:d≠[]):10^(d.length-1)≤dv d:=by
 cases d with
 |nil=>exact absurd rfl hn
 |cons x l=>
  have hx:=h.hd x l rfl
  rw [dv_cons,List.length_cons,Nat.add_sub_cancel]
  have:=Nat.mul_le_mul_right (10^l.length) (show 1≤x by omega)
  omega
theorem dV_zero {d:List Nat} {dp:Int} (h:NormD d dp):dV d dp=0↔d=[]:=by
 constructor
 ·intro h0
  by_cases hn:d=[]
  ·exact hn
  ·have h1:=dv_pos h hn
   have h2:0<10^(d.length-1):=Nat.pow_pos (by omega)
   have h3:0<10^(dp-d.length+1100).toNat:=Nat.pow_pos (by omega)
   unfold dV at h0
   rcases Nat.mul_eq_zero.1 h0 with h|h<;>omega
 ·rintro rfl
  simp [dV,dv]
theorem dv_inj: ∀(n:Nat) (a b:List Nat),a.length=n→(∀x,x∈a→x<10)→(∀x,x∈b→x<10)→(∀x l,a=x::l→x≠0)→(∀x l,b=x::l→x≠0)→dv a=dv b→a=b:=by
 intro n
 induction n with
 |zero=>
  intro a b hl ha hb ha0 hb0 h
  have:a=[]:=List.eq_nil_of_length_eq_zero hl
  subst this
  cases b with
  |nil=>rfl
  |cons x l=>
   have hx:=hb0 x l rfl
   rw [dv_nil,dv_cons] at h
   have h2:0<10^l.length:=Nat.pow_pos (by omega)
   have:=Nat.mul_pos (show 0<x by omega) h2
   omega
 |succ n ih=>
  intro a b hl ha hb ha0 hb0 h
  rcases List.eq_nil_or_concat a with rfl|⟨a',x,rfl⟩
  ·simp at hl
  ·rw [List.concat_eq_append] at *
   rcases List.eq_nil_or_concat b with rfl|⟨b',y,rfl⟩
   ·cases ha':a'++[x] with
    |nil=>simp at ha'
    |cons z l=>
     have hz:=ha0 z l ha'
     rw [ha',dv_nil,dv_cons] at h
     have h2:0<10^l.length:=Nat.pow_pos (by omega)
     have:=Nat.mul_pos (show 0<z by omega) h2
     omega
   ·rw [List.concat_eq_append] at *
    rw [dv_snoc,dv_snoc] at h
    have hx:=ha x (by simp)
    have hy:=hb y (by simp)
    obtain rfl:x=y:=by omega
    have:=ih a' b' (by simpa using hl) (fun z hz=>ha z (by simp [hz])) (fun z hz=>hb z (by simp [hz])) (fun z l e=>ha0 z (l++[x]) (by rw [e];rfl)) (fun z l e=>hb0 z (l++[x]) (by rw [e];rfl)) (by omega)
    rw [this]
theorem norm_inj {a b:List Nat} {p q:Int} (ha:NormD a p) (hb:NormD b q) (la: -1100≤p-a.length) (lb: -1100≤q-b.length) (h:dV a p=dV b q):a=b∧p=q:=by
 by_cases ha0:a=[]
 ·have hb0:b=[]:=(dV_zero hb).1 (by rw [←h];exact (dV_zero ha).2 ha0)
  exact ⟨ha0.trans hb0.symm,(ha.nil ha0).trans (hb.nil hb0).symm⟩
 ·have hb0:b≠[]:=fun e=>ha0 ((dV_zero ha).1 (by rw [h];exact (dV_zero hb).2 e))
  have key: ∀{a b:List Nat} {p q:Int},NormD a p→NormD b q→ -1100≤p-a.length→ -1100≤q-b.length→dV a p=dV b q→b≠[]→ ¬q-b.length<p-a.length:=by
   intro a b p q ha hb la lb h hb0 hlt
   obtain ⟨k,hk⟩: ∃k:Nat,(p-a.length+1100).toNat=(q-b.length+1100).toNat+(k+1):=⟨((p-a.length)-(q-b.length)-1).toNat,by omega⟩
   unfold dV at h
   rw [hk,Nat.pow_add,Nat.mul_comm (10^_) (10^(k+1)),←Nat.mul_assoc] at h
   have h1:=Nat.eq_of_mul_eq_mul_right (Nat.pow_pos (by omega)) h
   rcases List.eq_nil_or_concat b with rfl|⟨b',y,rfl⟩
   ·exact hb0 rfl
   ·rw [List.concat_eq_append] at *
    have hy:=hb.last y b' rfl
    have hy2:=hb.lt y (by simp)
    rw [dv_snoc,Nat.pow_succ,←Nat.mul_assoc] at h1
    omega
  have h1:=key ha hb la lb h hb0
  have h2:=key hb ha lb la h.symm ha0
  have he:p-a.length=q-b.length:=by omega
  have h':=h
  unfold dV at h'
  rw [he] at h'
  have h3:=Nat.eq_of_mul_eq_mul_right (Nat.pow_pos (by omega)) h'
  have:=dv_inj a.length a b rfl ha.lt hb.lt ha.hd hb.hd h3
  subst this
  exact ⟨rfl,by omega⟩
theorem pow_split {p:Int} {n:Nat} (h: -1100≤p-n):10^(p+1100).toNat=10^n*10^(p-n+1100).toNat:=by
 rw [←Nat.pow_add]
 congr 1
 omega
theorem dV_lt_pow {a:List Nat} {p:Int} (h: ∀x,x∈a→x<10) (la: -1100≤p-a.length):dV a p<10^(p+1100).toNat:=by
 rw [pow_split la]
 exact Nat.mul_lt_mul_of_pos_right (dv_lt a h) (Nat.pow_pos (by omega))
theorem dV_ge_pow {a:List Nat} {p:Int} (h:NormD a p) (hn:a≠[]) (la: -1100≤p-a.length):10^(p-1+1100).toNat≤dV a p:=by
 have h1:=dv_pos h hn
 have hl:0<a.length:=by cases a with|nil=>exact absurd rfl hn|cons x l=>simp
 have h2:10^(p-1+1100).toNat=10^(a.length-1)*10^(p-a.length+1100).toNat:=by
  rw [←Nat.pow_add]
  congr 1
  omega
 rw [h2]
 exact Nat.mul_le_mul_right _ h1
theorem lt_dp {a b:List Nat} {p q:Int} (ha:NormD a p) (hb:NormD b q) (hb0:b≠[]) (la: -1100≤p-a.length) (lb: -1100≤q-b.length) (h:p<q):dV a p<dV b q:=by
 refine Nat.lt_of_lt_of_le (dV_lt_pow ha.lt la) (Nat.le_trans ?_ (dV_ge_pow hb hb0 lb))
 exact Nat.pow_le_pow_right (by omega) (by omega)
def dgt (a:List Nat) (i:Nat):Nat:=a.getD i 0
def padD (n:Nat) (a:List Nat):List Nat:=a++List.replicate (n-a.length) 0
theorem padD_length {n:Nat} {a:List Nat} (h:a.length≤n):(padD n a).length=n:=by simp [padD];omega
theorem padD_get? {n:Nat} {a:List Nat} (i:Nat) (hi:i<n):(padD n a)[i]? =some (dgt a i):=by
 unfold padD dgt
 by_cases h1:i<a.length
 ·rw [List.getElem?_append_left h1,List.getD_eq_getElem?_getD,List.getElem?_eq_getElem h1];rfl
 ·rw [List.getElem?_append_right (by omega),List.getElem?_replicate,if_pos (by omega),List.getD_eq_getElem?_getD,List.getElem?_eq_none (by omega)];rfl
theorem padD_get {n:Nat} {a:List Nat} (h:a.length≤n) (i:Nat) (hi:i<(padD n a).length):(padD n a)[i]=dgt a i:=by
 have h1:=padD_get? (n:=n) (a:=a) i (by rw [padD_length h] at hi;exact hi)
 rw [List.getElem?_eq_getElem hi] at h1
 exact Option.some.inj h1
theorem dV_pad {n:Nat} {a:List Nat} {p:Int} (h:a.length≤n) (hp: -1100≤p-n):dV a p=dv (padD n a)*10^(p-n+1100).toNat:=by
 unfold dV padD
 rw [dv_zeros,Nat.mul_assoc,←Nat.pow_add]
 congr 2
 omega
theorem dv_lex {x y:List Nat} (hl:x.length=y.length) (hx: ∀d,d∈x→d<10) (i:Nat) (hi:i<x.length) (hp: ∀j,(h:j<i)→x[j]'(by omega)=y[j]'(by omega)) (hd:x[i]<y[i]'(by omega)):dv x<dv y:=by
 have e1:x=x.take i++(x[i]::x.drop (i+1)):=by rw [←List.drop_eq_getElem_cons hi,List.take_append_drop]
 have e2:y=y.take i++(y[i]'(by omega)::y.drop (i+1)):=by rw [←List.drop_eq_getElem_cons,List.take_append_drop]
 have e3:x.take i=y.take i:=by
  apply List.ext_getElem
  ·simp;omega
  ·intro j h1 h2
   simp only [List.getElem_take]
   exact hp j (by simp at h1;omega)
 have h1:dv (x.drop (i+1))<10^(x.drop (i+1)).length:=dv_lt _ (fun d h=>hx d (List.mem_of_mem_drop h))
 have e4:(y.drop (i+1)).length=(x.drop (i+1)).length:=by simp;omega
 rw [e1,e2,←e3,dv_append,dv_append,List.length_cons,List.length_cons,dv_cons,dv_cons,e4]
 generalize 10^(x.drop (i+1)).length=T at *
 have:=Nat.mul_le_mul_right T (show x[i]+1≤y[i]'(by omega) by omega)
 rw [Nat.add_mul,Nat.one_mul] at this
 omega
theorem lt_digit {a b:List Nat} {p:Int} (ha: ∀x,x∈a→x<10) (la: -1100≤p-a.length) (lb: -1100≤p-b.length) (i:Nat) (hi:i<b.length) (hp: ∀j,j<i→dgt a j=dgt b j) (hd:dgt a i<dgt b i):dV a p<dV b p:=by
 have hn: ∃n,n=max a.length b.length:=⟨_,rfl⟩
 obtain ⟨n,hn⟩:=hn
 have h1:a.length≤n:=by omega
 have h2:b.length≤n:=by omega
 have hpn: -1100≤p-n:=by omega
 rw [dV_pad h1 hpn,dV_pad h2 hpn]
 have l1:=padD_length h1
 have l2:=padD_length h2
 refine Nat.mul_lt_mul_of_pos_right ?_ (Nat.pow_pos (by omega))
 refine dv_lex (by omega) ?_ i (by omega) ?_ ?_
 ·intro d h
  unfold padD at h
  rcases List.mem_append.1 h with h|h
  ·exact ha d h
  ·have:=List.eq_of_mem_replicate h;omega
 ·intro j h
  rw [padD_get h1,padD_get h2]
  exact hp j h
 ·rw [padD_get h1,padD_get h2]
  exact hd
theorem eq_digits {a b:List Nat} {p:Int} (la: -1100≤p-a.length) (lb: -1100≤p-b.length) (h: ∀j,j<a.length∨j<b.length→dgt a j=dgt b j):dV a p=dV b p:=by
 obtain ⟨n,hn⟩: ∃n,n=max a.length b.length:=⟨_,rfl⟩
 have h1:a.length≤n:=by omega
 have h2:b.length≤n:=by omega
 have hpn: -1100≤p-n:=by omega
 rw [dV_pad h1 hpn,dV_pad h2 hpn]
 congr 2
 apply List.ext_getElem
 ·rw [padD_length h1,padD_length h2]
 ·intro j h3 h4
  rw [padD_get h1,padD_get h2]
  by_cases hj:j<a.length∨j<b.length
  ·exact h j hj
  ·unfold dgt
   rw [List.getD_eq_getElem?_getD,List.getD_eq_getElem?_getD,List.getElem?_eq_none (by omega),List.getElem?_eq_none (by omega)]
def trimN (l:List Nat):Nat→List Nat
 |0=>[]
 |k+1=>if dgt l k=0 then trimN l k else l.take (k+1)
def trimD (l:List Nat):List Nat:=trimN l l.length
def normD (d:List Nat) (dp:Int):List Nat×Int:=(trimD d,if trimD d=[] then 0 else dp)
theorem trimN_spec (l:List Nat): ∀k,k≤l.length→ ∃j,j≤k∧trimN l k=l.take j∧(∀i,j≤i→i<k→dgt l i=0)∧(0<j→dgt l (j-1)≠0)
 |0,_=>⟨0,Nat.le_refl _,by simp [trimN],fun i h1 h2=>by omega,fun h=>by omega⟩
 |k+1,h=>by
  rw [trimN]
  by_cases h0:dgt l k=0
  ·rw [if_pos h0]
   obtain ⟨j,h1,h2,h3,h4⟩:=trimN_spec l k (by omega)
   refine ⟨j,by omega,h2,fun i a b=> ?_,h4⟩
   by_cases e:i=k
   ·rw [e];exact h0
   ·exact h3 i a (by omega)
  ·rw [if_neg h0]
   exact ⟨k+1,Nat.le_refl _,rfl,fun i a b=>by omega,fun _=>h0⟩
theorem dgt_lt {l:List Nat} {i:Nat} (h:i<l.length):dgt l i=l[i]:=by
 unfold dgt
 rw [List.getD_eq_getElem?_getD,List.getElem?_eq_getElem h];rfl
theorem trim_norm {d:List Nat} {dp:Int} (hlt: ∀x,x∈d→x<10) (hh: ∀x l,d=x::l→x≠0) (lo: -1100≤dp-d.length):
  NormD (normD d dp).1 (normD d dp).2∧dV (normD d dp).1 (normD d dp).2=dV d dp∧(normD d dp).1.length≤d.length∧(d≠[]→(normD d dp).2=dp):=by
 obtain ⟨j,h1,h2,h3,h4⟩:=trimN_spec d d.length (Nat.le_refl _)
 have hl:(d.take j).length=j:=by simp;omega
 have he:trimD d=d.take j:=h2
 unfold normD
 rw [he]
 dsimp only
 have hne:d≠[]→j≠0:=by
  intro hd e
  subst e
  cases d with
  |nil=>exact hd rfl
  |cons x l=>
   have:=h3 0 (Nat.le_refl _) (by simp)
   exact hh x l rfl this
 refine ⟨⟨fun x hx=>hlt x (List.mem_of_mem_take hx),fun e=>if_pos e,?_,?_⟩,?_,by rw [hl];exact h1,?_⟩
 ·intro x l e
  cases d with
  |nil=>simp at e
  |cons y m=>
   cases j with
   |zero=>simp at e
   |succ j=>simp at e;exact e.1▸hh y m rfl
 ·intro x l e
  have hj:j=l.length+1:=by rw [←hl,e];simp
  have:=h4 (by omega)
  have hx:dgt d (j-1)=x:=by
   rw [dgt_lt (by omega)]
   have h5:(d.take j)[j-1]'(by rw [hl];omega)=d[j-1]'(by omega):=List.getElem_take
   rw [←h5]
   simp only [e]
   rw [List.getElem_append_right (by omega)]
   simp [hj]
  rw [←hx]
  exact this
 ·by_cases hd:d=[]
  ·subst hd;simp [dV,dv]
  ·have hj:=hne hd
   have ht:d.take j≠[]:=by intro e;rw [e] at hl;simp at hl;omega
   rw [if_neg ht]
   refine eq_digits (by rw [hl];omega) lo ?_
   intro i hi
   by_cases hij:i<j
   ·rw [dgt_lt (by rw [hl];exact hij),dgt_lt (by omega),List.getElem_take]
   ·rw [h3 i (by omega) (by omega)]
    unfold dgt
    rw [List.getD_eq_getElem?_getD,List.getElem?_eq_none (by omega)];rfl
 ·intro hd
  have hj:=hne hd
  exact if_neg (fun e=>by rw [e] at hl;simp at hl;omega)
def downF (d:List Nat) (dp:Int) (n:Nat):List Nat×Int:=if d.length≤n then (d,dp) else normD (d.take n) dp
def lastUp (d:List Nat):Nat→Option Nat
 |0=>none
 |k+1=>if dgt d k<9 then some k else lastUp d k
def upF (d:List Nat) (dp:Int) (n:Nat):List Nat×Int:=
 if d.length≤n then (d,dp) else match lastUp d n with
 |some i=>(d.take i++[dgt d i+1],dp)
 |none=>([1],dp+1)
theorem lastUp_spec (d:List Nat): ∀n,(∃i,i<n∧lastUp d n=some i∧dgt d i<9)∨lastUp d n=none
 |0=> .inr rfl
 |k+1=>by
  rw [lastUp]
  by_cases h:dgt d k<9
  ·rw [if_pos h];exact .inl ⟨k,by omega,rfl,h⟩
  ·rw [if_neg h]
   rcases lastUp_spec d k with ⟨i,h1,h2,h3⟩|h1
   ·exact .inl ⟨i,by omega,h2,h3⟩
   ·exact .inr h1
theorem down_spec {d:List Nat} {dp:Int} (h:NormD d dp) (la: -1100≤dp-d.length) (n:Nat):NormD (downF d dp n).1 (downF d dp n).2∧dV (downF d dp n).1 (downF d dp n).2≤dV d dp∧(downF d dp n).1.length≤d.length∧((downF d dp n).1≠[]→(downF d dp n).2=dp):=by
 unfold downF
 by_cases hn:d.length≤n
 ·rw [if_pos hn];exact ⟨h,Nat.le_refl _,Nat.le_refl _,fun _=>rfl⟩
 ·rw [if_neg hn]
  have hl:(d.take n).length=n:=by simp;omega
  obtain ⟨h1,h2,h3,h4⟩:=trim_norm (d:=d.take n) (dp:=dp) (fun x hx=>h.lt x (List.mem_of_mem_take hx)) (fun x l e=>by
   cases d with
   |nil=>simp at e
   |cons y m=>
    cases n with
    |zero=>simp at e
    |succ n=>simp at e;exact e.1▸h.hd y m rfl) (by rw [hl];omega)
  refine ⟨h1,?_,by omega,fun hne=>h4 (fun e=>hne ?_)⟩
  ·rw [h2]
   have e:d=d.take n++d.drop n:=(List.take_append_drop n d).symm
   have e2:dv d=dv (d.take n)*10^(d.length-n)+dv (d.drop n):=by
    conv=>lhs;rw [e]
    rw [dv_append,List.length_drop]
   unfold dV
   rw [hl,e2]
   have e3:10^(dp-n+1100).toNat=10^(d.length-n)*10^(dp-d.length+1100).toNat:=by
    rw [←Nat.pow_add];congr 1;omega
   rw [e3,←Nat.mul_assoc]
   exact Nat.mul_le_mul_right _ (by omega)
  ·rw [e] at h3 ⊢;simp [normD,trimD,trimN]
theorem up_spec {d:List Nat} {dp:Int} (h:NormD d dp) (la: -1100≤dp-d.length) (n:Nat) (hn:n<d.length):NormD (upF d dp n).1 (upF d dp n).2∧dV d dp<dV (upF d dp n).1 (upF d dp n).2∧(upF d dp n).1.length≤d.length∧ -1100≤(upF d dp n).2-(upF d dp n).1.length:=by
 unfold upF
 rw [if_neg (by omega)]
 rcases lastUp_spec d n with ⟨i,h1,h2,h3⟩|h1
 ·rw [h2]
  dsimp only
  have hl:(d.take i).length=i:=by simp;omega
  refine ⟨⟨?_,fun e=>by simp at e,?_,?_⟩,?_,by simp;omega,by simp;omega⟩
  ·intro x hx
   rcases List.mem_append.1 hx with hx|hx
   ·exact h.lt x (List.mem_of_mem_take hx)
   ·simp at hx;omega
  ·intro x l e
   cases d with
   |nil=>simp at hn
   |cons y m=>
    cases i with
    |zero=>simp at e;omega
    |succ i=>simp at e;exact e.1▸h.hd y m rfl
  ·intro x l e
   have:=(List.append_inj' e (by simp)).2
   simp at this
   omega
  ·have e:d=d.take i++(d[i]::d.drop (i+1)):=by rw [←List.drop_eq_getElem_cons (by omega),List.take_append_drop]
   have hr:dv (d.drop (i+1))<10^(d.length-(i+1)):=by
    have:=dv_lt (d.drop (i+1)) (fun x hx=>h.lt x (List.mem_of_mem_drop hx))
    rwa [List.length_drop] at this
   have e2:dv d=(dv (d.take i)*10+d[i])*10^(d.length-(i+1))+dv (d.drop (i+1)):=by
    conv=>lhs;rw [e]
    rw [dv_append,List.length_cons,dv_cons,List.length_drop,Nat.pow_succ,Nat.add_mul,Nat.mul_comm (10^_) 10,Nat.mul_assoc]
    omega
   unfold dV
   rw [List.length_append,hl,dv_snoc,e2,dgt_lt (by omega)]
   have e3:10^(dp-((i+[d[i]+1].length:Nat):Int)+1100).toNat=10^(d.length-(i+1))*10^(dp-d.length+1100).toNat:=by
    rw [←Nat.pow_add];congr 1;simp;omega
   rw [e3,←Nat.mul_assoc]
   refine Nat.mul_lt_mul_of_pos_right ?_ (Nat.pow_pos (by omega))
   rw [show dv (d.take i)*10+(d[i]+1)=(dv (d.take i)*10+d[i])+1 by omega,Nat.add_mul _ 1,Nat.one_mul]
   omega
 ·rw [h1]
  dsimp only
  refine ⟨⟨by simp,by simp,by simp,?_⟩,?_,by simp;omega,by simp;omega⟩
  ·intro x l e
   cases l with
   |nil=>simp at e;omega
   |cons y m=>simp at e
  ·have h2:=dV_lt_pow h.lt la
   have h3:dV [1] (dp+1)=10^(dp+1100).toNat:=by
    unfold dV
    simp only [dv,List.foldl_cons,List.foldl_nil,List.length_cons,List.length_nil]
    rw [show dp+1-((0+1:Nat):Int)+1100=dp+1100 by omega]
    omega
   rw [h3]
   exact h2
def pre (d:List Nat) (i:Nat):Nat:=dv (d.take i)*10^(i-d.length)
theorem pre_zero (d:List Nat):pre d 0=0:=by simp [pre,dv]
theorem pre_succ (d:List Nat) (i:Nat):pre d (i+1)=pre d i*10+dgt d i:=by
 unfold pre
 by_cases h:i<d.length
 ·rw [show i+1-d.length=0 by omega,show i-d.length=0 by omega,dgt_lt h,List.take_succ_eq_append_getElem h,dv_snoc]
  simp
 ·rw [show i+1-d.length=(i-d.length)+1 by omega,Nat.pow_succ,List.take_of_length_le (by omega),List.take_of_length_le (by omega)]
  have:dgt d i=0:=by
   unfold dgt
   rw [List.getD_eq_getElem?_getD,List.getElem?_eq_none (by omega)];rfl
  rw [this,←Nat.mul_assoc]
  omega
theorem pre_end {d:List Nat} {i:Nat} (h:d.length≤i):pre d i=dv d*10^(i-d.length):=by
 unfold pre
 rw [List.take_of_length_le h]
theorem dgt_le {d:List Nat} (h: ∀x,x∈d→x<10) (i:Nat):dgt d i<10:=by
 by_cases hi:i<d.length
 ·rw [dgt_lt hi];exact h _ (List.getElem_mem hi)
 ·unfold dgt
  rw [List.getD_eq_getElem?_getD,List.getElem?_eq_none (by omega)]
  decide
theorem half_end {d out:List Nat} {dp:Int} {i i0 k:Nat} (hi:d.length≤i) (hp:pre d i=10*2^k*dv out) (hl:out.length+i0=i) (h0:1≤i0) (la: -1100≤dp-d.length) (lb: -1100≤dp-i):
  dV d dp=dV out (dp-((i0:Int)-1))*2^k:=by
 rw [pre_end hi] at hp
 unfold dV
 have e1:10^(dp-d.length+1100).toNat=10^(i-d.length)*10^(dp-i+1100).toNat:=by
  rw [←Nat.pow_add];congr 1;omega
 have e2:(dp-((i0:Int)-1)-out.length+1100).toNat=(dp-i+1100).toNat+1:=by omega
 rw [e1,e2,Nat.pow_succ,←Nat.mul_assoc,hp]
 generalize 10^(dp-i+1100).toNat=T
 generalize dv out=Q
 generalize 2^k=P
 rw [Nat.mul_comm T 10,←Nat.mul_assoc,Nat.mul_right_comm (Q*10) T P,Nat.mul_comm Q 10,Nat.mul_right_comm 10 Q P]
theorem double_end {d out:List Nat} {dp:Int} {k:Nat} (hp:dv out=dv d*2^k):dV out (dp+(out.length-d.length))=dV d dp*2^k:=by
 unfold dV
 rw [hp,show dp+((out.length:Int)-d.length)-out.length+1100=dp-d.length+1100 by omega,Nat.mul_right_comm]
theorem dv_reverse_snoc (out:List Nat) (x:Nat):dv (out++[x]).reverse=x*10^out.length+dv out.reverse:=by
 rw [List.reverse_append,List.reverse_singleton,List.singleton_append,dv_cons,List.length_reverse]
theorem double_step {d out:List Nat} {n k j:Nat} (hj:j<d.length) (h:dv out.reverse+n*10^out.length=dv (d.drop (j+1))*2^k) (hl:out.length=d.length-(j+1)):
  dv (out++[(n+d[j]*2^k)%10]).reverse+(n+d[j]*2^k)/10*10^(out++[(n+d[j]*2^k)%10]).length=dv (d.drop j)*2^k:=by
 rw [dv_reverse_snoc,List.length_append,List.length_singleton,Nat.pow_succ,List.drop_eq_getElem_cons hj,dv_cons,List.length_drop,←hl,Nat.add_mul,←h]
 generalize 10^out.length=T
 have:=Nat.div_add_mod (n+d[j]*2^k) 10
 generalize (n+d[j]*2^k)%10=r at *
 generalize (n+d[j]*2^k)/10=q at *
 have e:(n+d[j]*2^k)*T=(10*q+r)*T:=by rw [this]
 rw [Nat.add_mul,Nat.add_mul] at e
 have e2:q*(T*10)=10*q*T:=by rw [Nat.mul_comm T 10,←Nat.mul_assoc,Nat.mul_comm q 10]
 have e3:d[j]*T*2^k=d[j]*2^k*T:=Nat.mul_right_comm _ _ _
 omega
theorem double_more {out:List Nat} {n X:Nat} (h:dv out.reverse+n*10^out.length=X):dv (out++[n%10]).reverse+n/10*10^(out++[n%10]).length=X:=by
 rw [dv_reverse_snoc,List.length_append,List.length_singleton,Nat.pow_succ,←h]
 generalize 10^out.length=T
 have:=Nat.div_add_mod n 10
 have e:n*T=(10*(n/10)+n%10)*T:=by rw [this]
 rw [Nat.add_mul] at e
 have e2:n/10*(T*10)=10*(n/10)*T:=by rw [Nat.mul_comm T 10,←Nat.mul_assoc,Nat.mul_comm (n/10) 10]
 omega
def nearUp (d:List Nat) (n:Nat):Bool:=
 if d.length≤n then false else if dgt d n=5∧n+1=d.length then decide (0<n∧dgt d (n-1)%2≠0) else decide (5≤dgt d n)
def roundF (d:List Nat) (dp:Int) (n:Nat):List Nat×Int:=if nearUp d n then upF d dp n else downF d dp n
def inE (edge:Bool) (a b:Nat):Bool:=if edge then decide (a≤b) else decide (a<b)
def shortL (d:List Nat) (dp:Int) (lo hi:Nat) (edge:Bool):Nat→Nat→List Nat×Int
 |0,_=>(d,dp)
 |f+1,n=>
  if inE edge lo (dV (downF d dp n).1 (downF d dp n).2) then
   (if inE edge (dV (upF d dp n).1 (upF d dp n).2) hi then roundF d dp n else downF d dp n)
  else if inE edge (dV (upF d dp n).1 (upF d dp n).2) hi then upF d dp n
  else shortL d dp lo hi edge f (n+1)
theorem inE_le {e:Bool} {a b:Nat} (h:inE e a b=true):a≤b:=by
 unfold inE at h
 split at h<;>simp at h<;>omega
theorem inE_of {e:Bool} {a b:Nat} (h:a<b):inE e a b=true:=by
 unfold inE
 split<;>simp<;>omega
structure Good (d:List Nat) (dp:Int) (lo hi:Nat) (edge:Bool) (r:List Nat×Int):Prop where
 norm:NormD r.1 r.2
 lo:inE edge lo (dV r.1 r.2)=true
 hi:inE edge (dV r.1 r.2) hi=true
 len:r.1.length≤d.length
 la: -1100≤r.2-r.1.length
 ne:r.1≠[]
theorem up_ne {d:List Nat} {dp:Int} (n:Nat) (hd:d≠[]):(upF d dp n).1≠[]:=by
 unfold upF
 split
 ·exact hd
 ·split<;>simp
theorem short_good {d:List Nat} {dp:Int} (h:NormD d dp) (hd:d≠[]) (la: -1100≤dp-d.length) {lo hi:Nat} (edge:Bool) (h1:0<lo) (hlo:lo<dV d dp) (hhi:dV d dp<hi): ∀f n,n+f=d.length→Good d dp lo hi edge (shortL d dp lo hi edge f n)
 |0,n,hn=>by
  rw [shortL]
  exact ⟨h,inE_of hlo,inE_of hhi,Nat.le_refl _,la,hd⟩
 |f+1,n,hn=>by
  have hnl:n<d.length:=by omega
  obtain ⟨d1,d2,d3,d4⟩:=down_spec h la n
  obtain ⟨u1,u2,u3,u4⟩:=up_spec h la n hnl
  have GD:inE edge lo (dV (downF d dp n).1 (downF d dp n).2)=true→Good d dp lo hi edge (downF d dp n):=fun hE=>by
   have hne:(downF d dp n).1≠[]:=fun e=>by
    have:=inE_le hE
    rw [e] at this
    simp [dV,dv] at this
    omega
   exact ⟨d1,hE,inE_of (by omega),d3,by rw [d4 hne];omega,hne⟩
  have GU:inE edge (dV (upF d dp n).1 (upF d dp n).2) hi=true→Good d dp lo hi edge (upF d dp n):=fun hE=>
   ⟨u1,inE_of (by omega),hE,u3,u4,up_ne n hd⟩
  rw [shortL]
  split
  ·rename_i hE
   split
   ·rename_i hE2
    unfold roundF
    split
    ·exact GU hE2
    ·exact GD hE
   ·exact GD hE
  ·split
   ·rename_i hE2
    exact GU hE2
   ·exact short_good h hd la edge h1 hlo hhi f (n+1) (by omega)
def dgi (d:List Nat) (i:Int):Nat:=if i<0 then 0 else dgt d i.toNat
def ch (n:Nat):UInt8:=(48+n).toUInt8
def expT (d:List Nat) (dp:Int) (prec:Nat):List UInt8:=
 ch (dgt d 0)::((if prec=0 then [] else 46::(List.range prec).map fun i=>ch (dgt d (i+1)))++([101,if (if d=[] then 0 else dp-1)<(0:Int) then 45 else 43]++((if (if d=[] then 0 else dp-1:Int).natAbs<10 then [48] else [])++dec (if d=[] then 0 else dp-1:Int).natAbs)))
def texT (d:List Nat) (dp:Int) (prec:Nat):List UInt8:=
 (if dp≤0 then [48] else (List.range dp.toNat).map fun i=>ch (dgt d i))++(if prec=0 then [] else 46::(List.range prec).map fun (i:Nat)=>ch (dgi d (dp+(i:Int))))
section
open Go.RowKit
def bt (d:List Nat):List UInt8:=d.map UInt8.ofNat
theorem bt_length (d:List Nat):(bt d).length=d.length:=by simp [bt]
theorem bt_get {d:List Nat} (hd: ∀x,x∈d→x<10) (j:Nat) (h:j<d.length):((bt d)[j]'(by rw [bt_length];exact h)).toNat=dgt d j:=by
 have:=hd d[j] (List.getElem_mem h)
 simp only [bt,List.getElem_map]
 rw [dgt_lt h]
 simp
 omega
theorem bt_take (d:List Nat) (k:Nat):bt (d.take k)=(bt d).take k:=by simp [bt]
def DSrc (w:World) (p:Nat) (v:Value) (d:List Nat):Prop:=(d=[]∧v= .slice none 0 0)∨ ∃b off c,v= .slice (some ⟨b,off,none⟩) d.length c∧d.length≤c∧b≠p∧b<w.heap.size∧Rd w b off (bt d)
def DecP (w:World) (p:Nat) (d:List Nat) (dp:Int):Prop:= ∃v,w.heap[p]? =some (.cells #[v,.int .i64 dp] 330 (0,0))∧DSrc w p v d
theorem Row.dsrc {w:World} {B p:Nat} {v:Value} {d:List Nat} (h:Row w B v (bt d)) (hp:p<B):DSrc w p v d:=by
 rcases h.2 with ⟨hv,h0⟩|⟨g,cap,cur,rfl,hg,hh,hc,r⟩
 ·refine .inl ⟨List.eq_nil_of_length_eq_zero (by rw [bt_length] at h0;exact h0),hv⟩
 ·exact .inr ⟨g,0,cap,by rw [bt_length],by rw [bt_length] at hc;exact hc,by omega,blk_lt' hh,Rd.of_own h⟩
theorem DSrc.fr {w w':World} {p:Nat} {v:Value} {d:List Nat} {S:List Nat} (h:DSrc w p v d) (hf:Fr S w w') (hs: ∀k,k∈S→k=p∨w.heap.size≤k):DSrc w' p v d:=by
 rcases h with h|⟨b,off,c,hv,h1,h2,h3,h4⟩
 ·exact .inl h
 ·exact .inr ⟨b,off,c,hv,h1,h2,Nat.lt_of_lt_of_le h3 hf.size,h4.fr hf (fun hm=>by rcases hs b hm with e|e;exact h2 e;omega)⟩
theorem DecP.fr {w w':World} {p:Nat} {d:List Nat} {dp:Int} (h:DecP w p d dp) (hf:Fr [] w w'):DecP w' p d dp:=by
 obtain ⟨v,hb,hs⟩:=h
 exact ⟨v,hf.blk hb (by simp),hs.fr hf (by simp)⟩
theorem DSrc.shape {w:World} {p:Nat} {v:Value} {d:List Nat} (h:DSrc w p v d): ∃ao c,v= .slice ao d.length c:=by
 rcases h with ⟨rfl,rfl⟩|⟨b,off,c,rfl,_⟩<;>exact ⟨_,_,rfl⟩
theorem trim {w:World} {p:Nat} {d:List Nat} {dp:Int} (h:DecP w p d dp) (hd: ∀x,x∈d→x<10) (hl:d.length≤1000000):
  Calls Tryz.prog 215 #[.pointer (some ⟨p,0,none⟩)] w fun e w'=>e= .returned (.pointer (some ⟨p,0,none⟩))∧DecP w' p (normD d dp).1 (normD d dp).2∧Fr [p] w w':=by
 replace hd:=Hz hd
 go_enter Tryz.func215,Tryz.ntmps215
 go_wp2
 go_loopg [] d.length (fun k wr=>k≤d.length∧DecP wr p (d.take k) dp∧Hid (trimN d k=trimD d)∧Fr [p] w wr)
 case atStart=>exact ⟨Nat.le_refl _,by rw [List.take_of_length_le (Nat.le_refl _)];exact h,rfl,Fr.refl _ _⟩
 case round=>
  obtain ⟨hk,⟨v,hb,hs⟩,htr,hF⟩:=hrel
  have c0:=cell_blk hb 0
  have c1:=cell_blk hb 1
  have f0:=frozen_blk hb 0
  have f1:=frozen_blk hb 1
  simp only [List.getElem?_toArray,List.getElem?_cons_zero,List.getElem?_cons_succ] at c0 c1
  by_cases hk0:gk=0
  ·subst hk0
   have: ∃ao c,v= .slice ao 0 c:=by
    obtain ⟨ao,c,rfl⟩:=hs.shape
    exact ⟨ao,c,by simp⟩
   obtain ⟨ao,c,rfl⟩:=this
   have t0:decide ((0:Int)<0)=false:=rfl
   go_wp2
   go_quiet (fail)
   go_wp2
   go_ret
   have hn:normD d dp=([],0):=by
    have e:trimD d=[]:=htr.out.symm
    unfold normD
    rw [e]
    rfl
   rw [hn]
   have hF2:Fr [p] w ((wr.drewN nq).setCell ⟨p,1,none⟩ (.int .i64 0)):=(hF.drewN nq).setCell (by simp) _
   refine ⟨rfl,⟨.slice ao 0 c,by rw [blk_setCell (show (wr.drewN nq).heap[p]? =_ from hb) 1 _];rfl,?_⟩,hF2⟩
   have:=hs.fr (w':=(wr.drewN nq).setCell ⟨p,1,none⟩ (.int .i64 0)) (S:=[p]) (((Fr.refl _ _).drewN nq).setCell (by simp) _) (by simp)
   simpa using this
  ·obtain ⟨k,rfl⟩: ∃k,gk=k+1:=⟨gk-1,by omega⟩
   have hlen:(d.take (k+1)).length=k+1:=by simp;omega
   rcases hs with ⟨h0,_⟩|⟨b,off,c,rfl,hc,hbp,hbl,hrd⟩
   ·rw [h0] at hlen;simp at hlen
   ·rw [hlen] at hc
    have hx:=hrd k (by rw [bt_length,hlen];omega)
    rw [bt_get (fun x hx=>hd.out x (List.mem_of_mem_take hx)) k (by omega)] at hx
    have hdg:dgt (d.take (k+1)) k=dgt d k:=by rw [dgt_lt (by omega),dgt_lt (by omega),List.getElem_take]
    rw [hdg] at hx
    rw [hlen] at c0 hb
    have t0:decide ((0:Int)<((k+1:Nat):Int))=true:=by simp
    have t1:(0:Int)<(k:Int)+1:=by omega
    have hbp': ¬p=b:=fun e=>hbp e.symm
    clear hdg hlen
    rw [trimN] at htr
    by_cases hz:dgt d k=0
    ·rw [if_pos hz] at htr
     have e0:((dgt d k:Int)==0)=true:=by simp [hz]
     clear hz
     go_wp2
     go_quiet (fail)
     go_wp2
     go_region
     go_wp2
     go_roundg k
     case measure=>omega
     case rel=>
      have hF2:Fr [p] wr ((wr.drewN (nq+1)).setCell ⟨p,0,none⟩ (.slice (some ⟨b,off,none⟩) k c)):=((Fr.refl _ _).drewN _).setCell (by simp) _
      have hk2:(d.take k).length=k:=by simp;omega
      refine ⟨by omega,⟨.slice (some ⟨b,off,none⟩) k c,by rw [blk_setCell (show (wr.drewN (nq+1)).heap[p]? =_ from hb) 0 _];rfl,.inr ⟨b,off,c,by rw [hk2],by omega,hbp,Nat.lt_of_lt_of_le hbl hF2.size,?_⟩⟩,htr,hF.trans hF2⟩
      have h3:Rd wr b off (bt (d.take k)):=by
       have:=hrd.take k
       rw [←bt_take,List.take_take,Nat.min_eq_left (by omega)] at this
       exact this
      exact h3.fr hF2 (by simpa using hbp)
    ·have e0:((dgt d k:Int)==0)=false:=by simp [hz]
     rw [if_neg hz] at htr
     clear hz
     go_wp2
     go_quiet (fail)
     go_wp2
     go_ret
     have hk2:(d.take (k+1)).length=k+1:=by simp;omega
     have hn:normD d dp=(d.take (k+1),dp):=by
      unfold normD
      rw [←htr.out,if_neg (fun e=>by rw [e] at hk2;simp at hk2)]
     rw [hn]
     have hF2:Fr [p] wr (wr.drewN nq):=(Fr.refl _ _).drewN _
     exact ⟨rfl,⟨.slice (some ⟨b,off,none⟩) (k+1) c,hb,.inr ⟨b,off,c,by rw [hk2],by rw [hk2];exact hc,hbp,hbl,hrd.fr hF2 (by simpa using hbp)⟩⟩,hF.trans hF2⟩
end
end Go.Proofs.YteodinhkhhaafaaGreatDoor
