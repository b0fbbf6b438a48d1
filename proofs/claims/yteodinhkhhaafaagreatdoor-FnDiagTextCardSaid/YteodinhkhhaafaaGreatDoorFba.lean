/- Walks of the program, and plain facts. -/
import Derived.Test.YteodinhkhhaafaaGreatDoorFaw
import Derived.Test.YteodinhkhhaafaaGreatDoorFaz
import Derived.Lib.ValidLaws
set_option linter.unusedVariables false
set_option linter.unusedSimpArgs false
set_option maxRecDepth 100000
set_option maxHeartbeats 6400000
namespace Go.Proofs.YteodinhkhhaafaaGreatDoor
section
section
open Go.RowKit
structure Nt where
 by_:List UInt8→List UInt8
 tx:List UInt8→R
 fl:Nat→Nat→List UInt8
 big:Nat→Tr→R
def pairs:List R→List (R×R)
 |a::b::l=>(a,b)::pairs l
 |_=>[]
def primT (fl:Nat→Nat→List UInt8) (ai v:Nat):R:=
 if ai=20 then txt [102,97,108,115,101] else if ai=21 then txt [116,114,117,101] else if ai=22 then txt [110,117,108,108]
 else if ai=23 then txt [117,110,100,101,102,105,110,101,100] else if ai=25∨ai=26∨ai=27 then txt (fl ai v)
 else thenR (txt [115,105,109,112,108,101,40]) (thenR (txt (dec v)) (txt [41]))
mutual
def note (N:Nt):Tr→R
 | .int false n=>txt (dec n)
 | .int true n=>txt (45::dec (n+1))
 | .str false b=>txt (N.by_ b)
 | .str true b=>N.tx b
 | .chk tx []=>txt (if tx then [34,34,95] else [39,39,95])
 | .chk tx (t::l)=>thenR (txt [40,95,32]) (arrR [41] 0 (note N t::notes N l))
 | .arr opn l=>thenR (txt (if opn then [91,95,32] else [91])) (arrR [93] 0 (notes N l))
 | .map opn l=>thenR (txt (if opn then [123,95,32] else [123])) (mapR [125] 0 (pairs (notes N l)))
 | .tag n t=>if n=2∨n=3 then N.big n t else thenR (txt (dec n)) (thenR (txt [40]) (thenR (note N t) (txt [41])))
 | .prim ai v=>primT N.fl ai v
def notes (N:Nt):List Tr→List R
 |[]=>[]
 |t::l=>note N t::notes N l
end
theorem notes_length (N:Nt): ∀l,(notes N l).length=l.length
 |[]=>rfl
 |t::l=>by simp [notes,notes_length N l]
theorem pairs_length: ∀(l:List R) (v:Nat),l.length=v*2→(pairs l).length=v
 |[],v,h=>by simp at h;simp [pairs];omega
 |[a],v,h=>by simp at h;omega
 |a::b::l,v,h=>by
  rw [pairs,List.length_cons,pairs_length l (v-1) (by simp at h;omega)]
  simp at h;omega
mutual
def LeafOK (X:Cx) (N:Nt):Tr→Prop
 | .chk tx l=>l.length≤2147483647∧LeavesOK X N l
 | .arr opn l=>l.length≤2147483647∧LeavesOK X N l
 | .map opn l=>l.length≤2147483647∧LeavesOK X N l
 | .tag n t=>if n=2∨n=3 then ∀off off',Enc X.xs (.tag n t) off off'→ItemC X off off' (N.big n t) else LeafOK X N t
 | .int neg n=>neg=true→9223372036854775808≤n→ ∀off off',Enc X.xs (.int true n) off off'→ItemC X off off' (txt (45::dec (n+1)))
 | .str tx b=> ∀off off',Enc X.xs (.str tx b) off off'→ItemC X off off' (note N (.str tx b))
 | .prim ai v=>(ai=25∨ai=26∨ai=27)→ ∀off off',Enc X.xs (.prim ai v) off off'→ItemC X off off' (txt (N.fl ai v))
def LeavesOK (X:Cx) (N:Nt):List Tr→Prop
 |[]=>True
 |t::l=>LeafOK X N t∧LeavesOK X N l
end
end
section
open Go.RowKit
theorem hd31 {xs:List UInt8} {off m v o:Nat} (h:hd xs off= .ok (m,31,v,o)):o=off+1∧ ∃hl:off<xs.length,xs[off].toNat=m*32+31:=by
 obtain ⟨hl,h1,h2⟩:=byte_of_hd h;refine ⟨?_,hl,by omega⟩
 unfold hd at h;rw [List.getElem?_eq_getElem hl] at h;dsimp only at h;rw [if_neg (by omega),if_neg (by omega),if_pos h2] at h
 split at h
 ·cases h
 ·cases h;rfl
theorem Kids.pair {X:Cx}: ∀(rs:List R) (o o':Nat),rs.length%2=0→Kids X o o' rs→Kids2 X o o' (pairs rs)
 |[],o,o',h,hk=>by cases hk;exact .nil _
 |[a],o,o',h,hk=>by simp at h
 |a::b::l,o,o',h,hk=>by
  cases hk with
  |cons h1 hk=>
   cases hk with
   |cons h2 hk=>exact .cons h1 h2 (Kids.pair l _ _ (by simp at h;omega) hk)
theorem KidsO.pair {X:Cx}: ∀(rs:List R) (o o':Nat),rs.length%2=0→KidsO X o o' rs→KidsO2 X o o' (pairs rs)
 |[],o,o',h,hk=>by cases hk with|nil a b=>exact .nil a b
 |[a],o,o',h,hk=>by simp at h
 |a::b::l,o,o',h,hk=>by
  cases hk with
  |cons a1 b1 h1 hk=>
   cases hk with
   |cons a2 b2 h2 hk=>exact .cons a1 b1 h1 h2 (KidsO.pair l _ _ (by simp at h;omega) hk)
theorem getElem_of {xs:List UInt8} {off:Nat} {b:UInt8} (h:xs[off]? =some b): ∃hl:off<xs.length,xs[off]=b:=by
 obtain ⟨hl,e⟩:=List.getElem?_eq_some_iff.1 h;exact ⟨hl,e⟩
mutual
theorem item_note (X:Cx) (N:Nt): ∀(t:Tr) (off off':Nat),Enc X.xs t off off'→LeafOK X N t→ItemC X off off' (note N t)
 | .int false n,off,off',h,hL=>by
  rw [Enc] at h;obtain ⟨ai,h⟩:=h;rw [note];exact fun w bs hS hl=>di_uint hS h hl
 | .int true n,off,off',h,hL=>by
  rw [LeafOK] at hL;by_cases h63:9223372036854775808≤n
  ·rw [note];exact hL rfl h63 off off' h
  ·rw [Enc] at h;obtain ⟨ai,h⟩:=h;rw [note];exact fun w bs hS hl=>di_nint hS h (by omega) hl
 | .str tx b,off,off',h,hL=>by
  rw [LeafOK] at hL;exact hL off off' h
 | .chk tx [],off,off',h,hL=>by
  rw [Enc] at h;obtain ⟨v,o,h,hc⟩:=h;rw [Chunks] at hc;obtain ⟨b,hb,h255,rfl⟩:=hc;obtain ⟨rfl,hl,hx⟩:=hd31 h;obtain ⟨hl1,rfl⟩:=getElem_of hb;rw [note];cases tx
  ·exact fun w bs hS hlen=>di_none_b hS hl hx hl1 h255 hlen
  ·exact fun w bs hS hlen=>di_none_t hS hl hx hl1 h255 hlen
 | .chk tx (t::l),off,off',h,hL=>by
  rw [Enc] at h;rw [LeafOK] at hL;obtain ⟨v,o,h,hc⟩:=h;have hk:=kids_chunks X N tx (t::l) o off' hc hL.2;rw [Chunks] at hc;obtain ⟨b,mid,hb,h255,_,_,_⟩:=hc;obtain ⟨rfl,hl,hx⟩:=hd31 h;obtain ⟨hl1,rfl⟩:=getElem_of hb;rw [note];rw [notes] at hk;have hcap:(note N t::notes N l).length≤2147483647:=by rw [List.length_cons,notes_length,←List.length_cons (a:=t)];exact hL.1
  cases tx
  ·exact fun w bs hS hlen=>di_chunks_b hS hl hx hl1 h255 hk hcap rfl hlen
  ·exact fun w bs hS hlen=>di_chunks_t hS hl hx hl1 h255 hk hcap rfl hlen
 | .arr false l,off,off',h,hL=>by
  rw [Enc] at h;rw [LeafOK] at hL;obtain ⟨ai,o,h,h31,he⟩:=h;have hk:=kids_encs X N l o off' he hL.2;rw [note];exact fun w bs hS hlen=>di_list4 hS h h31 hk (notes_length N l) hL.1 rfl hlen
 | .arr true l,off,off',h,hL=>by
  rw [Enc] at h;rw [LeafOK] at hL;obtain ⟨v,o,h,he⟩:=h;have hk:=kids_opens X N l o off' he hL.2;obtain ⟨rfl,hl,hx⟩:=hd31 h;rw [note];exact fun w bs hS hlen=>di_oarr hS hl hx hk (by rw [notes_length];exact hL.1) rfl hlen
 | .map false l,off,off',h,hL=>by
  rw [Enc] at h;rw [LeafOK] at hL;obtain ⟨ai,v,o,h,h31,hlv,he⟩:=h;have hk:=(kids_encs X N l o off' he hL.2).pair _ _ _ (by rw [notes_length];omega)
  rw [note];exact fun w bs hS hlen=>di_list5 hS h h31 hk (pairs_length _ _ (by rw [notes_length];exact hlv)) (by omega) rfl hlen
 | .map true l,off,off',h,hL=>by
  rw [Enc] at h;rw [LeafOK] at hL;obtain ⟨v,o,h,hev,he⟩:=h;have hk:=(kids_opens X N l o off' he hL.2).pair _ _ _ (by rw [notes_length];exact hev)
  obtain ⟨rfl,hl,hx⟩:=hd31 h;rw [note];exact fun w bs hS hlen=>di_omap hS hl hx hk (by rw [pairs_length _ (l.length/2) (by rw [notes_length];omega)];omega) rfl hlen
 | .tag n t,off,off',h,hL=>by
  rw [LeafOK] at hL;rw [note];by_cases hn:n=2∨n=3
  ·rw [if_pos hn] at hL ⊢;exact hL off off' h
  ·rw [if_neg hn] at hL ⊢;rw [Enc] at h;obtain ⟨ai,o,h,he⟩:=h;have hC:=item_note X N t o off' he hL;exact fun w bs hS hlen=>di_tag hS h (fun e=>hn (.inl e)) (fun e=>hn (.inr e)) hC rfl hlen
 | .prim ai v,off,off',h,hL=>by
  rw [LeafOK] at hL;rw [note];unfold primT;by_cases c0:ai=20
  ·subst c0;rw [if_pos rfl];rw [Enc] at h;exact fun w bs hS hlen=>di_false hS h hlen
  ·rw [if_neg c0];by_cases c1:ai=21
   ·subst c1;rw [if_pos rfl];rw [Enc] at h;exact fun w bs hS hlen=>di_true hS h hlen
   ·rw [if_neg c1];by_cases c2:ai=22
    ·subst c2;rw [if_pos rfl];rw [Enc] at h;exact fun w bs hS hlen=>di_null hS h hlen
    ·rw [if_neg c2];by_cases c3:ai=23
     ·subst c3;rw [if_pos rfl];rw [Enc] at h;exact fun w bs hS hlen=>di_undefined hS h hlen
     ·rw [if_neg c3];by_cases c4:ai=25∨ai=26∨ai=27
      ·rw [if_pos c4];exact hL c4 off off' h
      ·rw [if_neg c4];rw [Enc] at h;exact fun w bs hS hlen=>di_simple hS h (by omega) rfl hlen
termination_by t=>SizeOf.sizeOf t
theorem kids_encs (X:Cx) (N:Nt): ∀(l:List Tr) (o o':Nat),Encs X.xs l o o'→LeavesOK X N l→Kids X o o' (notes N l)
 |[],o,o',h,hL=>by
  rw [Encs] at h;subst h;rw [notes];exact .nil _
 |t::l,o,o',h,hL=>by
  rw [Encs] at h;rw [LeavesOK] at hL;obtain ⟨mid,h1,h2⟩:=h;rw [notes];exact .cons (item_note X N t o mid h1 hL.1) (kids_encs X N l mid o' h2 hL.2)
termination_by l=>SizeOf.sizeOf l
theorem kids_opens (X:Cx) (N:Nt): ∀(l:List Tr) (o o':Nat),Opens X.xs l o o'→LeavesOK X N l→KidsO X o o' (notes N l)
 |[],o,o',h,hL=>by
  rw [Opens] at h;obtain ⟨b,hb,h255,rfl⟩:=h;obtain ⟨hl1,rfl⟩:=getElem_of hb;rw [notes];exact .nil hl1 h255
 |t::l,o,o',h,hL=>by
  rw [Opens] at h;rw [LeavesOK] at hL;obtain ⟨b,mid,hb,h255,h1,h2⟩:=h;obtain ⟨hl1,rfl⟩:=getElem_of hb;rw [notes];exact .cons hl1 h255 (item_note X N t o mid h1 hL.1) (kids_opens X N l mid o' h2 hL.2)
termination_by l=>SizeOf.sizeOf l
theorem kids_chunks (X:Cx) (N:Nt) (tx:Bool): ∀(l:List Tr) (o o':Nat),Chunks X.xs tx l o o'→LeavesOK X N l→KidsO X o o' (notes N l)
 |[],o,o',h,hL=>by
  rw [Chunks] at h;obtain ⟨b,hb,h255,rfl⟩:=h;obtain ⟨hl1,rfl⟩:=getElem_of hb;rw [notes];exact .nil hl1 h255
 |t::l,o,o',h,hL=>by
  rw [Chunks] at h;rw [LeavesOK] at hL;obtain ⟨b,mid,hb,h255,_,h1,h2⟩:=h;obtain ⟨hl1,rfl⟩:=getElem_of hb;rw [notes];exact .cons hl1 h255 (item_note X N t o mid h1 hL.1) (kids_chunks X N tx l mid o' h2 hL.2)
termination_by l=>SizeOf.sizeOf l
end
end
section
open Go.RowKit
theorem thenR_nil (a:R):thenR a ([],none)=a:=by
 obtain ⟨s,q⟩:=a;cases q<;>simp [thenR]
theorem enc_lt {xs:List UInt8} {t:Tr} {off off':Nat} (h:Enc xs t off off'):off<xs.length:=by
 obtain ⟨b,hb,_⟩:=enc_tag h;exact (List.getElem?_eq_some_iff.1 hb).1
end
end
section
section
open Go.RowKit
def EncAt (bs:List UInt8) (t:Tr):Prop:= ∀pre post,Enc (pre++(bs++post)) t pre.length (pre.length+bs.length)
def EncsAt (bs:List UInt8) (l:List Tr):Prop:= ∀pre post,Encs (pre++(bs++post)) l pre.length (pre.length+bs.length)
theorem EncsAt.nil:EncsAt [] []:=fun pre post=>by rw [Encs];rfl
theorem EncsAt.cons {b c:List UInt8} {t:Tr} {l:List Tr} (h:EncAt b t) (g:EncsAt c l):EncsAt (b++c) (t::l):=fun pre post=>by
 rw [Encs];refine ⟨pre.length+b.length,?_,?_⟩
 ·have:=h pre (c++post)
  simpa [List.append_assoc] using this
 ·have:=g (pre++b) post
  simpa [List.append_assoc,Nat.add_assoc] using this
theorem EncAt.nint {n:Nat} (hn:n<18446744073709551616) (f:Nat):EncAt (headB 1 n f) (.int true n):=fun pre post=>by
 obtain ⟨ai,h,_⟩:=hd_headB 1 n f (by omega) hn pre post
 rw [Enc];exact ⟨ai,h⟩
theorem EncAt.arr {l:List Tr} {bs:List UInt8} (f:Nat) (hn:l.length<18446744073709551616) (h:EncsAt bs l):EncAt (headB 4 l.length f++bs) (.arr false l):=fun pre post=>by
 obtain ⟨ai,hh,ha⟩:=hd_headB 4 l.length f (by omega) hn pre (bs++post)
 rw [Enc];refine ⟨ai,_,by simpa [List.append_assoc] using hh,by omega,?_⟩
 have:=h (pre++headB 4 l.length f) post
 simpa [List.append_assoc,Nat.add_assoc] using this
theorem EncAt.map {l:List Tr} {bs:List UInt8} (f v:Nat) (hv:l.length=v*2) (hn:v<18446744073709551616) (h:EncsAt bs l):EncAt (headB 5 v f++bs) (.map false l):=fun pre post=>by
 obtain ⟨ai,hh,ha⟩:=hd_headB 5 v f (by omega) hn pre (bs++post)
 rw [Enc];refine ⟨ai,v,_,by simpa [List.append_assoc] using hh,by omega,hv,?_⟩
 have:=h (pre++headB 5 v f) post
 simpa [List.append_assoc,Nat.add_assoc] using this
theorem EncAt.tag {n:Nat} {t:Tr} {bs:List UInt8} (f:Nat) (hn:n<18446744073709551616) (h:EncAt bs t):EncAt (headB 6 n f++bs) (.tag n t):=fun pre post=>by
 obtain ⟨ai,hh,ha⟩:=hd_headB 6 n f (by omega) hn pre (bs++post)
 rw [Enc];refine ⟨ai,_,by simpa [List.append_assoc] using hh,?_⟩
 have:=h (pre++headB 6 n f) post
 simpa [List.append_assoc,Nat.add_assoc] using this
theorem EncAt.str {b:List UInt8} (tx:Bool) (f:Nat) (hn:b.length<9223372036854775808):EncAt (headB (majS tx) b.length f++b) (.str tx b):=fun pre post=>by
 obtain ⟨ai,hh,ha⟩:=hd_headB (majS tx) b.length f (by cases tx<;>simp [majS]) (by omega) pre (b++post)
 rw [Enc];refine ⟨ai,b.length,_,by simpa [List.append_assoc] using hh,by omega,?_,hn,?_,?_⟩
 ·simp;omega
 ·simp [Nat.add_assoc]
 ·have e:pre++(headB (majS tx) b.length f++b++post)=(pre++headB (majS tx) b.length f)++(b++post):=by simp [List.append_assoc]
  rw [e,←List.length_append,List.drop_left,List.take_left]
end
section
open Go.RowKit
theorem rem_nat (a:Int) (m:Nat) (hm:0<m) (hm2:m<1000): ∃k:Nat,k<m∧(IntKind.u64.wrap a).tmod m=(k:Int)∧wrap64 ((IntKind.u64.wrap a).tmod m)=(k:Int):=by
 have h0:0≤IntKind.u64.wrap a:=by show 0≤a%18446744073709551616;omega
 have h1:0≤IntKind.u64.wrap a%(m:Int):=Int.emod_nonneg _ (by omega)
 have h2:IntKind.u64.wrap a%(m:Int)<m:=Int.emod_lt_of_pos _ (by omega)
 rw [Int.tmod_eq_emod_of_nonneg h0];generalize IntKind.u64.wrap a%(m:Int)=z at *
 refine ⟨z.toNat,by omega,by omega,?_⟩
 unfold wrap64;omega
end
end
section
open Go.RowKit
def kidsF (f:Nat→Option (Tr×Nat)):Nat→Nat→Option (List Tr×Nat)
 |0,off=>some ([],off)
 |n+1,off=>match f off with
  |none=>none
  |some (t,o)=>match kidsF f n o with
   |none=>none
   |some (l,o')=>some (t::l,o')
def openF (f:Nat→Option (Tr×Nat)) (ok:Tr→Bool) (xs:List UInt8):Nat→Nat→Option (List Tr×Nat)
 |0,_=>none
 |g+1,off=>match xs[off]? with
  |none=>none
  |some b=>if b.toNat=255 then some ([],off+1) else match f off with
   |none=>none
   |some (t,o)=>if ok t then (match openF f ok xs g o with
    |none=>none
    |some (l,o')=>some (t::l,o')) else none
def Tr.isS (tx:Bool):Tr→Bool
 | .str u _=>u==tx
 |_=>false
def treeF (xs:List UInt8):Nat→Nat→Option (Tr×Nat)
 |0,_=>none
 |k+1,off=>match hd xs off with
  | .error _=>none
  | .ok (m,ai,v,o)=>
   if m<2 then some (.int (m==1) v,o)
   else if m<4 then
    (if ai=31 then (openF (treeF xs k) (Tr.isS (m==3)) xs (xs.length+1) o).map (fun r=>(.chk (m==3) r.1,r.2))
    else if xs.length-o<v then none else some (.str (m==3) ((xs.drop o).take v),o+v))
   else if m=4 then
    (if ai=31 then (openF (treeF xs k) (fun _=>true) xs (xs.length+1) o).map (fun r=>(.arr true r.1,r.2))
    else if xs.length-o<v then none else (kidsF (treeF xs k) v o).map (fun r=>(.arr false r.1,r.2)))
   else if m=5 then
    (if ai=31 then (openF (treeF xs k) (fun _=>true) xs (xs.length+1) o).bind (fun r=>if r.1.length%2=0 then some (.map true r.1,r.2) else none)
    else if xs.length-o<v then none else (kidsF (treeF xs k) (v*2) o).map (fun r=>(.map false r.1,r.2)))
   else if m=6 then (treeF xs k o).map (fun r=>(.tag v r.1,r.2))
   else some (.prim ai v,o)
end
section
open Go.RowKit
theorem wrapI_lt (x:Nat) (h:x<9223372036854775808):IntKind.i64.wrap (x:Int)=(x:Int):=IntWalk.i64_in _ (by omega)
theorem ofInt_i64 (a:Nat) (ha:a<9223372036854775808):(BitVec.ofInt 64 (a:Int)).toNat=a:=by
 rw [BitVec.ofInt_natCast,BitVec.toNat_ofNat];exact Nat.mod_eq_of_lt (by omega)
theorem i64_and_nat (a b:Nat) (ha:a<9223372036854775808) (hb:b<9223372036854775808):bits .and .i64 (a:Int) (b:Int)=((a&&&b:Nat):Int):=by
 have hx:a&&&b<2^63:=Nat.and_lt_two_pow _ (by omega)
 show IntKind.i64.wrap ((BitVec.ofInt 64 (a:Int)&&&BitVec.ofInt 64 (b:Int)).toNat:Int)=_
 rw [BitVec.toNat_and,ofInt_i64 a ha,ofInt_i64 b hb];exact wrapI_lt _ (by omega)
end
section
open Go.RowKit
section
variable {X:Cx} {off:Nat} {bs:List UInt8} {w:World}
def EncB (X:Cx) (b:List UInt8) (r:R):Prop:= ∀(off:Nat) (bs:List UInt8) (w:World) (q c:Nat),St X off bs w→Rd w X.db q b→b.length≤c→bs.length+r.1.length≤room→
 Calls Tryz.prog 130 #[.pointer (some ⟨X.di,0,none⟩),.slice (some ⟨X.db,q,none⟩) b.length c] w (IPost X off bs r w)
theorem di_bytes (h:St X off bs w) {ai v o1:Nat} {b:List UInt8} {r:R} (hh:hd X.xs off= .ok (2,ai,v,o1)) (h31:ai≠31) (hvl:o1+v≤X.xs.length) (hb:b=(X.xs.drop o1).take v) (hE:EncB X b r) (hlen:bs.length+r.1.length≤room):
  Calls Tryz.prog 105 #[.pointer (some ⟨X.di,0,none⟩)] w (IPost X (o1+v) bs r w):=by
 obtain ⟨hl,hb1,hb2⟩:=hd_byte hh;have hai:=(hd_off hh).2.2.2;have hai2:=(hd_off hh).2.2.1;have k1:=h.i1;have k2:=h.i2;have d0:=h.dec.c0;have d1:=h.dec.c1;have ha:=h.dec.at_ off hl;have hm:=h.dec.len;have KT:=fun n=>nextCBORType (h.dec.drewN n) hl
 rw [hb1] at KT;have KP:=fun n=>parseByteString (h.dec.drewN n) hh h31 hvl hb
 replace KT:=Hz KT;replace KP:=Hz KP;replace hh:=Hz hh;replace hE:=Hz hE;replace hb:=Hz hb;have g95:((X.xs[off].toNat:Int)==95)=false:=by simp;omega
 have g127:((X.xs[off].toNat:Int)==127)=false:=by simp;omega
 have g159:((X.xs[off].toNat:Int)==159)=false:=by simp;omega
 have g191:((X.xs[off].toNat:Int)==191)=false:=by simp;omega
 generalize (X.xs[off].toNat:Int)=x0 at *
 clear hb1 hb2 hai h31;have b1:(off:Int)<(X.xs.length:Int):=by omega
 have b2:(0:Int)≤(off:Int):=by omega
 have b3:(off:Int).toNat=off:=by omega
 go_enter Tryz.func105,Tryz.ntmps105
 go_wp2
 go_quiet (fail)
 go_wp2_with fail
 refine (KT.out _).mono ?_
 rintro e w1 ⟨rfl,nm,rfl⟩;go_wp2_with fail
 refine (KP.out _).mono ?_
 rintro e w1 ⟨q,n,rfl,hcap,hrd,hD,hf⟩;have h1:=(h.drewN _).moved hf hD;have G1:=h.grF (((Fr.refl [X.d] w).drewN _).trans hf);have KE:=Hz (hE.out _ _ _ q n h1 hrd hcap hlen);clear hrd hcap;go_wp2_with fail
 refine KE.out.mono ?_
 rintro e w2 ⟨v2,o2,rfl,hv2,ho2,h2,hG2⟩;have G2:=G1.trans hG2;rcases hr:r.2 with _|k
 ·rw [hr] at hv2;obtain rfl:=hv2.nil;go_wp2;go_ret
  exact ⟨.nilIface,o2,rfl,(by rw [hr];rfl),ho2,h2,G2⟩
 ·rw [hr] at hv2;obtain ⟨t,x,rfl⟩:=hv2.ne;go_wp2;go_ret
  exact ⟨.iface t x,o2,rfl,(by rw [hr];exact hv2),ho2,h2,G2⟩
end
end
section
open Go.RowKit
def bt' (xs:List UInt8) (i:Nat):Nat:=(xs.getD i 0).toNat
theorem bt_at (xs:List UInt8) (i:Nat) (h:i<xs.length):((⟨xs.toArray⟩:ByteArray)[i]'(by show i<xs.toArray.size;simpa using h)).toNat=bt' xs i:=by
 unfold bt';rw [List.getD_eq_getElem?_getD,List.getElem?_eq_getElem h]
 rfl
end
end Go.Proofs.YteodinhkhhaafaaGreatDoor
