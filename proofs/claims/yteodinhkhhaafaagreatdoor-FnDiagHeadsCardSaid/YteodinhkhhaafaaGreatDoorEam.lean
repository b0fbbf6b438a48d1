/- Walks of the program, and plain facts. -/
import Derived.Test.YteodinhkhhaafaaGreatDoorEal
set_option linter.unusedVariables false
set_option linter.unusedSimpArgs false
set_option maxRecDepth 100000
set_option maxHeartbeats 6400000
namespace Go.Proofs.YteodinhkhhaafaaGreatDoor
section
open Go.RowKit
theorem toBytes (w:World) (xs:List UInt8): ∃c w1,(convert 9 59 (.string ⟨xs.toArray⟩)).run Tryz.prog w= .ok (.slice (some ⟨w.heap.size,0,none⟩) xs.length c) w1∧Rd w1 w.heap.size 0 xs∧xs.length≤c∧w.heap.size<w1.heap.size∧Fr [] w w1:=by
 have h:=run_bytes_of_string w 9 59 5 ⟨xs.toArray⟩ Tryz.underlying9 Tryz.underlying59 Tryz.underlying5;rw [size_mk] at h;refine ⟨_,_,h,?_,grownCap_ge _ _ _ _,by simp,((Fr.refl [] w).drew).alloc _⟩
 intro j hj;refine (cell_blk (blk_new w.drew _) _).trans ?_
 simp only [bytesRow,Nat.zero_add,List.map_toArray];rw [Array.getElem?_append_left (by simpa using hj)]
 simp [hj]
def ans (r:R):List UInt8×Nat:=
 match r.2 with
 |none=>(r.1,0)
 |some k=>([],k)
theorem implDiag {xs:List UInt8} {M:Md} {n:Nat} {L:Lim} (hL:LimOf n L) (he:M.enc<4) (hlen:xs.length≤1099511627776) {r:R} (hr:Says xs L M M.sq r) (hroom:r.1.length≤room) (w:World) (hu:U8 w):
  Calls Tryz.prog 26 #[.string ⟨xs.toArray⟩,diagOpts .i64 M n] w fun e w'=>e= .returned (.tuple #[.string ⟨(ans r).1.toArray⟩,.int .i64 ((ans r).2:Int)])∧Fr [] w w':=by
 have K1:=Hz (implMode M hL he);have hl:=hL.le;replace hr:=Hz hr;replace hu:=Hz hu;unfold diagOpts at *
 go_enter Tryz.func26,Tryz.ntmps26
 go_wp2_with fail
 refine (K1.out _).mono ?_
 rintro e w1 ⟨dg,dm,rfl,h1,h2,h3,h4,h5,h6,hf1⟩;obtain ⟨c,w2,hconv,hrd,hcap,hsz,hf2⟩:=toBytes w1 xs;have hF:Fr [] w w2:=(((Fr.refl [] w).alloc _).trans hf1).trans hf2;have hu2:=hu.out.fr hF (by simp)
 have K2:=Hz (diagnose hl hrd hcap hlen hsz (hf2.blk h3 (by simp)) (hf2.blk h4 (by simp)) hu2 hr.out hroom)
 clear h1 h2 h3 h4 hu2;go_wp2_with fail
 refine K2.out.mono ?_
 rintro e w3 ⟨v,rfl,hv,hf3⟩;obtain ⟨s,q⟩:=r;cases q with
 |none=>
  obtain rfl:=hv.nil;go_wp2
  go_ret2
  exact ⟨rfl,hF.trans hf3⟩
 |some k=>
  have KK:=Hz (zzKind k v hv);obtain ⟨t,x,rfl⟩:=hv.ne;go_wp2_with fail
  refine (KK.out _).mono ?_
  rintro e w4 ⟨rfl,rfl⟩;go_wp2
  go_ret2
  exact ⟨rfl,hF.trans hf3⟩
end
section
section
open Go.RowKit
structure Nt where
 by_:List UInt8→List UInt8
 tx:List UInt8→R
 fl:Nat→Nat→List UInt8
 big:Nat→Tr→R
def pairs:List R→List (R×R)
 |a::b::l=>(a,b)::pairs l
 |_=>[]
def primT (fl:Nat→Nat→List UInt8) (ai v:Nat):R:=
 if ai=20 then txt [102,97,108,115,101] else if ai=21 then txt [116,114,117,101] else if ai=22 then txt [110,117,108,108]
 else if ai=23 then txt [117,110,100,101,102,105,110,101,100] else if ai=25∨ai=26∨ai=27 then txt (fl ai v)
 else thenR (txt [115,105,109,112,108,101,40]) (thenR (txt (dec v)) (txt [41]))
mutual
def note (N:Nt):Tr→R
 | .int false n=>txt (dec n)
 | .int true n=>txt (45::dec (n+1))
 | .str false b=>txt (N.by_ b)
 | .str true b=>N.tx b
 | .chk tx []=>txt (if tx then [34,34,95] else [39,39,95])
 | .chk tx (t::l)=>thenR (txt [40,95,32]) (arrR [41] 0 (note N t::notes N l))
 | .arr opn l=>thenR (txt (if opn then [91,95,32] else [91])) (arrR [93] 0 (notes N l))
 | .map opn l=>thenR (txt (if opn then [123,95,32] else [123])) (mapR [125] 0 (pairs (notes N l)))
 | .tag n t=>if n=2∨n=3 then N.big n t else thenR (txt (dec n)) (thenR (txt [40]) (thenR (note N t) (txt [41])))
 | .prim ai v=>primT N.fl ai v
def notes (N:Nt):List Tr→List R
 |[]=>[]
 |t::l=>note N t::notes N l
end
theorem notes_length (N:Nt): ∀l,(notes N l).length=l.length
 |[]=>rfl
 |t::l=>by simp [notes,notes_length N l]
theorem pairs_length: ∀(l:List R) (v:Nat),l.length=v*2→(pairs l).length=v
 |[],v,h=>by simp at h;simp [pairs];omega
 |[a],v,h=>by simp at h;omega
 |a::b::l,v,h=>by
  rw [pairs,List.length_cons,pairs_length l (v-1) (by simp at h;omega)]
  simp at h;omega
mutual
def LeafOK (X:Cx) (N:Nt):Tr→Prop
 | .chk tx l=>l.length≤2147483647∧LeavesOK X N l
 | .arr opn l=>l.length≤2147483647∧LeavesOK X N l
 | .map opn l=>l.length≤2147483647∧LeavesOK X N l
 | .tag n t=>if n=2∨n=3 then ∀off off',Enc X.xs (.tag n t) off off'→ItemC X off off' (N.big n t) else LeafOK X N t
 | .int neg n=>neg=true→9223372036854775808≤n→ ∀off off',Enc X.xs (.int true n) off off'→ItemC X off off' (txt (45::dec (n+1)))
 | .str tx b=> ∀off off',Enc X.xs (.str tx b) off off'→ItemC X off off' (note N (.str tx b))
 | .prim ai v=>(ai=25∨ai=26∨ai=27)→ ∀off off',Enc X.xs (.prim ai v) off off'→ItemC X off off' (txt (N.fl ai v))
def LeavesOK (X:Cx) (N:Nt):List Tr→Prop
 |[]=>True
 |t::l=>LeafOK X N t∧LeavesOK X N l
end
end
section
open Go.RowKit
theorem hd31 {xs:List UInt8} {off m v o:Nat} (h:hd xs off= .ok (m,31,v,o)):o=off+1∧ ∃hl:off<xs.length,xs[off].toNat=m*32+31:=by
 obtain ⟨hl,h1,h2⟩:=byte_of_hd h;refine ⟨?_,hl,by omega⟩
 unfold hd at h;rw [List.getElem?_eq_getElem hl] at h;dsimp only at h;rw [if_neg (by omega),if_neg (by omega),if_pos h2] at h
 split at h
 ·cases h
 ·cases h;rfl
theorem Kids.pair {X:Cx}: ∀(rs:List R) (o o':Nat),rs.length%2=0→Kids X o o' rs→Kids2 X o o' (pairs rs)
 |[],o,o',h,hk=>by cases hk;exact .nil _
 |[a],o,o',h,hk=>by simp at h
 |a::b::l,o,o',h,hk=>by
  cases hk with
  |cons h1 hk=>
   cases hk with
   |cons h2 hk=>exact .cons h1 h2 (Kids.pair l _ _ (by simp at h;omega) hk)
theorem KidsO.pair {X:Cx}: ∀(rs:List R) (o o':Nat),rs.length%2=0→KidsO X o o' rs→KidsO2 X o o' (pairs rs)
 |[],o,o',h,hk=>by cases hk with|nil a b=>exact .nil a b
 |[a],o,o',h,hk=>by simp at h
 |a::b::l,o,o',h,hk=>by
  cases hk with
  |cons a1 b1 h1 hk=>
   cases hk with
   |cons a2 b2 h2 hk=>exact .cons a1 b1 h1 h2 (KidsO.pair l _ _ (by simp at h;omega) hk)
theorem getElem_of {xs:List UInt8} {off:Nat} {b:UInt8} (h:xs[off]? =some b): ∃hl:off<xs.length,xs[off]=b:=by
 obtain ⟨hl,e⟩:=List.getElem?_eq_some_iff.1 h;exact ⟨hl,e⟩
mutual
theorem item_note (X:Cx) (N:Nt): ∀(t:Tr) (off off':Nat),Enc X.xs t off off'→LeafOK X N t→ItemC X off off' (note N t)
 | .int false n,off,off',h,hL=>by
  rw [Enc] at h;obtain ⟨ai,h⟩:=h;rw [note];exact fun w bs hS hl=>di_uint hS h hl
 | .int true n,off,off',h,hL=>by
  rw [LeafOK] at hL;by_cases h63:9223372036854775808≤n
  ·rw [note];exact hL rfl h63 off off' h
  ·rw [Enc] at h;obtain ⟨ai,h⟩:=h;rw [note];exact fun w bs hS hl=>di_nint hS h (by omega) hl
 | .str tx b,off,off',h,hL=>by
  rw [LeafOK] at hL;exact hL off off' h
 | .chk tx [],off,off',h,hL=>by
  rw [Enc] at h;obtain ⟨v,o,h,hc⟩:=h;rw [Chunks] at hc;obtain ⟨b,hb,h255,rfl⟩:=hc;obtain ⟨rfl,hl,hx⟩:=hd31 h;obtain ⟨hl1,rfl⟩:=getElem_of hb;rw [note];cases tx
  ·exact fun w bs hS hlen=>di_none_b hS hl hx hl1 h255 hlen
  ·exact fun w bs hS hlen=>di_none_t hS hl hx hl1 h255 hlen
 | .chk tx (t::l),off,off',h,hL=>by
  rw [Enc] at h;rw [LeafOK] at hL;obtain ⟨v,o,h,hc⟩:=h;have hk:=kids_chunks X N tx (t::l) o off' hc hL.2;rw [Chunks] at hc;obtain ⟨b,mid,hb,h255,_,_,_⟩:=hc;obtain ⟨rfl,hl,hx⟩:=hd31 h;obtain ⟨hl1,rfl⟩:=getElem_of hb;rw [note];rw [notes] at hk;have hcap:(note N t::notes N l).length≤2147483647:=by rw [List.length_cons,notes_length,←List.length_cons (a:=t)];exact hL.1
  cases tx
  ·exact fun w bs hS hlen=>di_chunks_b hS hl hx hl1 h255 hk hcap rfl hlen
  ·exact fun w bs hS hlen=>di_chunks_t hS hl hx hl1 h255 hk hcap rfl hlen
 | .arr false l,off,off',h,hL=>by
  rw [Enc] at h;rw [LeafOK] at hL;obtain ⟨ai,o,h,h31,he⟩:=h;have hk:=kids_encs X N l o off' he hL.2;rw [note];exact fun w bs hS hlen=>di_list4 hS h h31 hk (notes_length N l) hL.1 rfl hlen
 | .arr true l,off,off',h,hL=>by
  rw [Enc] at h;rw [LeafOK] at hL;obtain ⟨v,o,h,he⟩:=h;have hk:=kids_opens X N l o off' he hL.2;obtain ⟨rfl,hl,hx⟩:=hd31 h;rw [note];exact fun w bs hS hlen=>di_oarr hS hl hx hk (by rw [notes_length];exact hL.1) rfl hlen
 | .map false l,off,off',h,hL=>by
  rw [Enc] at h;rw [LeafOK] at hL;obtain ⟨ai,v,o,h,h31,hlv,he⟩:=h;have hk:=(kids_encs X N l o off' he hL.2).pair _ _ _ (by rw [notes_length];omega)
  rw [note];exact fun w bs hS hlen=>di_list5 hS h h31 hk (pairs_length _ _ (by rw [notes_length];exact hlv)) (by omega) rfl hlen
 | .map true l,off,off',h,hL=>by
  rw [Enc] at h;rw [LeafOK] at hL;obtain ⟨v,o,h,hev,he⟩:=h;have hk:=(kids_opens X N l o off' he hL.2).pair _ _ _ (by rw [notes_length];exact hev)
  obtain ⟨rfl,hl,hx⟩:=hd31 h;rw [note];exact fun w bs hS hlen=>di_omap hS hl hx hk (by rw [pairs_length _ (l.length/2) (by rw [notes_length];omega)];omega) rfl hlen
 | .tag n t,off,off',h,hL=>by
  rw [LeafOK] at hL;rw [note];by_cases hn:n=2∨n=3
  ·rw [if_pos hn] at hL ⊢;exact hL off off' h
  ·rw [if_neg hn] at hL ⊢;rw [Enc] at h;obtain ⟨ai,o,h,he⟩:=h;have hC:=item_note X N t o off' he hL;exact fun w bs hS hlen=>di_tag hS h (fun e=>hn (.inl e)) (fun e=>hn (.inr e)) hC rfl hlen
 | .prim ai v,off,off',h,hL=>by
  rw [LeafOK] at hL;rw [note];unfold primT;by_cases c0:ai=20
  ·subst c0;rw [if_pos rfl];rw [Enc] at h;exact fun w bs hS hlen=>di_false hS h hlen
  ·rw [if_neg c0];by_cases c1:ai=21
   ·subst c1;rw [if_pos rfl];rw [Enc] at h;exact fun w bs hS hlen=>di_true hS h hlen
   ·rw [if_neg c1];by_cases c2:ai=22
    ·subst c2;rw [if_pos rfl];rw [Enc] at h;exact fun w bs hS hlen=>di_null hS h hlen
    ·rw [if_neg c2];by_cases c3:ai=23
     ·subst c3;rw [if_pos rfl];rw [Enc] at h;exact fun w bs hS hlen=>di_undefined hS h hlen
     ·rw [if_neg c3];by_cases c4:ai=25∨ai=26∨ai=27
      ·rw [if_pos c4];exact hL c4 off off' h
      ·rw [if_neg c4];rw [Enc] at h;exact fun w bs hS hlen=>di_simple hS h (by omega) rfl hlen
termination_by t=>SizeOf.sizeOf t
theorem kids_encs (X:Cx) (N:Nt): ∀(l:List Tr) (o o':Nat),Encs X.xs l o o'→LeavesOK X N l→Kids X o o' (notes N l)
 |[],o,o',h,hL=>by
  rw [Encs] at h;subst h;rw [notes];exact .nil _
 |t::l,o,o',h,hL=>by
  rw [Encs] at h;rw [LeavesOK] at hL;obtain ⟨mid,h1,h2⟩:=h;rw [notes];exact .cons (item_note X N t o mid h1 hL.1) (kids_encs X N l mid o' h2 hL.2)
termination_by l=>SizeOf.sizeOf l
theorem kids_opens (X:Cx) (N:Nt): ∀(l:List Tr) (o o':Nat),Opens X.xs l o o'→LeavesOK X N l→KidsO X o o' (notes N l)
 |[],o,o',h,hL=>by
  rw [Opens] at h;obtain ⟨b,hb,h255,rfl⟩:=h;obtain ⟨hl1,rfl⟩:=getElem_of hb;rw [notes];exact .nil hl1 h255
 |t::l,o,o',h,hL=>by
  rw [Opens] at h;rw [LeavesOK] at hL;obtain ⟨b,mid,hb,h255,h1,h2⟩:=h;obtain ⟨hl1,rfl⟩:=getElem_of hb;rw [notes];exact .cons hl1 h255 (item_note X N t o mid h1 hL.1) (kids_opens X N l mid o' h2 hL.2)
termination_by l=>SizeOf.sizeOf l
theorem kids_chunks (X:Cx) (N:Nt) (tx:Bool): ∀(l:List Tr) (o o':Nat),Chunks X.xs tx l o o'→LeavesOK X N l→KidsO X o o' (notes N l)
 |[],o,o',h,hL=>by
  rw [Chunks] at h;obtain ⟨b,hb,h255,rfl⟩:=h;obtain ⟨hl1,rfl⟩:=getElem_of hb;rw [notes];exact .nil hl1 h255
 |t::l,o,o',h,hL=>by
  rw [Chunks] at h;rw [LeavesOK] at hL;obtain ⟨b,mid,hb,h255,_,h1,h2⟩:=h;obtain ⟨hl1,rfl⟩:=getElem_of hb;rw [notes];exact .cons hl1 h255 (item_note X N t o mid h1 hL.1) (kids_chunks X N tx l mid o' h2 hL.2)
termination_by l=>SizeOf.sizeOf l
end
end
section
open Go.RowKit
theorem thenR_nil (a:R):thenR a ([],none)=a:=by
 obtain ⟨s,q⟩:=a;cases q<;>simp [thenR]
theorem enc_lt {xs:List UInt8} {t:Tr} {off off':Nat} (h:Enc xs t off off'):off<xs.length:=by
 obtain ⟨b,hb,_⟩:=enc_tag h;exact (List.getElem?_eq_some_iff.1 hb).1
end
end
section
open Go.RowKit
def kidsF (f:Nat→Option (Tr×Nat)):Nat→Nat→Option (List Tr×Nat)
 |0,off=>some ([],off)
 |n+1,off=>match f off with
  |none=>none
  |some (t,o)=>match kidsF f n o with
   |none=>none
   |some (l,o')=>some (t::l,o')
def openF (f:Nat→Option (Tr×Nat)) (ok:Tr→Bool) (xs:List UInt8):Nat→Nat→Option (List Tr×Nat)
 |0,_=>none
 |g+1,off=>match xs[off]? with
  |none=>none
  |some b=>if b.toNat=255 then some ([],off+1) else match f off with
   |none=>none
   |some (t,o)=>if ok t then (match openF f ok xs g o with
    |none=>none
    |some (l,o')=>some (t::l,o')) else none
def Tr.isS (tx:Bool):Tr→Bool
 | .str u _=>u==tx
 |_=>false
def treeF (xs:List UInt8):Nat→Nat→Option (Tr×Nat)
 |0,_=>none
 |k+1,off=>match hd xs off with
  | .error _=>none
  | .ok (m,ai,v,o)=>
   if m<2 then some (.int (m==1) v,o)
   else if m<4 then
    (if ai=31 then (openF (treeF xs k) (Tr.isS (m==3)) xs (xs.length+1) o).map (fun r=>(.chk (m==3) r.1,r.2))
    else if xs.length-o<v then none else some (.str (m==3) ((xs.drop o).take v),o+v))
   else if m=4 then
    (if ai=31 then (openF (treeF xs k) (fun _=>true) xs (xs.length+1) o).map (fun r=>(.arr true r.1,r.2))
    else if xs.length-o<v then none else (kidsF (treeF xs k) v o).map (fun r=>(.arr false r.1,r.2)))
   else if m=5 then
    (if ai=31 then (openF (treeF xs k) (fun _=>true) xs (xs.length+1) o).bind (fun r=>if r.1.length%2=0 then some (.map true r.1,r.2) else none)
    else if xs.length-o<v then none else (kidsF (treeF xs k) (v*2) o).map (fun r=>(.map false r.1,r.2)))
   else if m=6 then (treeF xs k o).map (fun r=>(.tag v r.1,r.2))
   else some (.prim ai v,o)
theorem kids_enc {xs:List UInt8} {f:Nat→Option (Tr×Nat)} (hf: ∀off t o,f off=some (t,o)→Enc xs t off o): ∀n off l o,kidsF f n off=some (l,o)→l.length=n∧Encs xs l off o
 |0,off,l,o,h=>by
  rw [kidsF] at h;injection h with h
  injection h with h1 h2
  subst h1 h2;exact ⟨rfl,by rw [Encs]⟩
 |n+1,off,l,o,h=>by
  rw [kidsF] at h
  split at h
  ·cases h
  ·rename_i t o1 h1
   split at h
   ·cases h
   ·rename_i l' o2 h2;injection h with h
    injection h with e1 e2
    subst e1 e2;obtain ⟨a,b⟩:=kids_enc hf n o1 l' o2 h2;refine ⟨by rw [List.length_cons,a],?_⟩
    rw [Encs];exact ⟨o1,hf _ _ _ h1,b⟩
theorem opens_enc {xs:List UInt8} {f:Nat→Option (Tr×Nat)} (hf: ∀off t o,f off=some (t,o)→Enc xs t off o): ∀g off l o,openF f (fun _=>true) xs g off=some (l,o)→Opens xs l off o
 |0,off,l,o,h=>by rw [openF] at h;cases h
 |g+1,off,l,o,h=>by
  rw [openF] at h
  split at h
  ·cases h
  ·rename_i b hb
   split at h
   ·rename_i h255;injection h with h
    injection h with h1 h2
    subst h1 h2;rw [Opens];exact ⟨b,hb,h255,rfl⟩
   ·rename_i h255
    split at h
    ·cases h
    ·rename_i t o1 h1;rw [if_pos rfl] at h
     split at h
     ·cases h
     ·rename_i l' o2 h2;injection h with h
      injection h with e1 e2
      subst e1 e2;rw [Opens];exact ⟨b,o1,hb,h255,hf _ _ _ h1,opens_enc hf g o1 l' o2 h2⟩
theorem isS_str {tx:Bool} {t:Tr} (h:t.isS tx=true): ∃s,t= .str tx s:=by
 unfold Tr.isS at h
 split at h
 ·simp at h;subst h;exact ⟨_,rfl⟩
 ·cases h
theorem chunks_enc {xs:List UInt8} {f:Nat→Option (Tr×Nat)} (tx:Bool) (hf: ∀off t o,f off=some (t,o)→Enc xs t off o): ∀g off l o,openF f (Tr.isS tx) xs g off=some (l,o)→Chunks xs tx l off o
 |0,off,l,o,h=>by rw [openF] at h;cases h
 |g+1,off,l,o,h=>by
  rw [openF] at h
  split at h
  ·cases h
  ·rename_i b hb
   split at h
   ·rename_i h255;injection h with h
    injection h with h1 h2
    subst h1 h2;rw [Chunks];exact ⟨b,hb,h255,rfl⟩
   ·rename_i h255
    split at h
    ·cases h
    ·rename_i t o1 h1
     split at h
     ·rename_i hs
      split at h
      ·cases h
      ·rename_i l' o2 h2;injection h with h
       injection h with e1 e2
       subst e1 e2;rw [Chunks];exact ⟨b,o1,hb,h255,isS_str hs,hf _ _ _ h1,chunks_enc tx hf g o1 l' o2 h2⟩
     ·cases h
theorem tree_enc {xs:List UInt8} (hlen:xs.length≤1099511627776): ∀k off t o,treeF xs k off=some (t,o)→Enc xs t off o
 |0,off,t,o,h=>by rw [treeF] at h;cases h
 |k+1,off,t,o',h=>by
  have IH:=tree_enc hlen k;rw [treeF] at h
  split at h
  ·cases h
  ·rename_i m ai v o hh;obtain ⟨f1,f2,f3,f4⟩:=hd_off hh;obtain ⟨g1,g2⟩:=hd_val hh
   split at h
   ·rename_i hm;injection h with h
    injection h with h1 h2
    subst h1 h2;rw [Enc];refine ⟨ai,?_⟩
    rw [hh];rcases (show m=0∨m=1 by omega) with rfl|rfl<;>rfl
   ·split at h
    ·have hms:majS (m==3)=m:=by
      rcases (show m=2∨m=3 by omega) with rfl|rfl<;>rfl
     split at h
     ·rename_i h31;subst h31;rw [Option.map_eq_some_iff] at h;obtain ⟨⟨l,o2⟩,h1,h2⟩:=h;injection h2 with e1 e2
      subst e1 e2;rw [Enc];exact ⟨v,o,by rw [hh,hms],chunks_enc _ IH _ _ _ _ h1⟩
     ·rename_i h31
      split at h
      ·cases h
      ·injection h with h
       injection h with h1 h2
       subst h1 h2;rw [Enc];exact ⟨ai,v,o,by rw [hh,hms],h31,by omega,by omega,rfl,rfl⟩
    ·split at h
     ·rename_i hm4;subst hm4
      split at h
      ·rename_i h31;subst h31;rw [Option.map_eq_some_iff] at h;obtain ⟨⟨l,o2⟩,h1,h2⟩:=h;injection h2 with e1 e2
       subst e1 e2;rw [Enc];exact ⟨v,o,hh,opens_enc IH _ _ _ _ h1⟩
      ·rename_i h31
       split at h
       ·cases h
       ·rw [Option.map_eq_some_iff] at h;obtain ⟨⟨l,o2⟩,h1,h2⟩:=h;injection h2 with e1 e2
        subst e1 e2;rw [Enc];obtain ⟨a,b⟩:=kids_enc IH _ _ _ _ h1;exact ⟨ai,o,by rw [a];exact hh,h31,b⟩
     ·split at h
      ·rename_i hm5;subst hm5
       split at h
       ·rename_i h31;subst h31;rw [Option.bind_eq_some_iff] at h;obtain ⟨⟨l,o2⟩,h1,h2⟩:=h
        split at h2
        ·rename_i h2l;injection h2 with h2
         injection h2 with e1 e2
         subst e1 e2;rw [Enc];exact ⟨v,o,hh,h2l,opens_enc IH _ _ _ _ h1⟩
        ·cases h2
       ·rename_i h31
        split at h
        ·cases h
        ·rw [Option.map_eq_some_iff] at h;obtain ⟨⟨l,o2⟩,h1,h2⟩:=h;injection h2 with e1 e2
         subst e1 e2;rw [Enc];obtain ⟨a,b⟩:=kids_enc IH _ _ _ _ h1;exact ⟨ai,v,o,hh,h31,a,b⟩
      ·split at h
       ·rename_i hm6;subst hm6;rw [Option.map_eq_some_iff] at h;obtain ⟨⟨l,o2⟩,h1,h2⟩:=h;injection h2 with e1 e2
        subst e1 e2;rw [Enc];exact ⟨ai,o,hh,IH _ _ _ h1⟩
       ·injection h with h
        injection h with h1 h2
        subst h1 h2;rw [Enc];rw [hh];rw [show m=7 by omega]
end
end Go.Proofs.YteodinhkhhaafaaGreatDoor
