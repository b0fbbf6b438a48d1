/- Walks of the program, and plain facts. -/
import Derived.Test.YteodinhkhhaafaaGreatDoorDaw
set_option linter.unusedVariables false
set_option linter.unusedSimpArgs false
set_option maxRecDepth 100000
set_option maxHeartbeats 6400000
namespace Go.Proofs.YteodinhkhhaafaaGreatDoor
section
open Go.RowKit
def widen (bits ex fr:Nat):Nat:=
 if bits/2^fr%2^ex=2^ex-1 then bits/2^(ex+fr)%2*2^63+2047*2^52+bits%2^fr*2^(52-fr)
 else if 0<bits/2^fr%2^ex then bits/2^(ex+fr)%2*2^63+(bits/2^fr%2^ex+1024-2^(ex-1))*2^52+bits%2^fr*2^(52-fr)
 else if bits%2^fr=0 then bits/2^(ex+fr)%2*2^63
 else bits/2^(ex+fr)%2*2^63+(1025-2^(ex-1)-(fr-Nat.log2 (bits%2^fr)))*2^52+(bits%2^fr*2^(fr-Nat.log2 (bits%2^fr))-2^fr)*2^(52-fr)
def wide (ai v:Nat):Nat:=if ai=25 then widen v 5 10 else if ai=26 then widen v 8 23 else v
def isFl (ai:Nat):Bool:=ai==25||ai==26||ai==27
inductive Gn where
 |mk (maj num siz:Nat) (opn flt big:Bool) (tex:List UInt8) (ks:List Gn)
def Gn.maj:Gn→Nat| .mk a _ _ _ _ _ _ _=>a
def Gn.num:Gn→Nat| .mk _ a _ _ _ _ _ _=>a
def Gn.siz:Gn→Nat| .mk _ _ a _ _ _ _ _=>a
def Gn.opn:Gn→Bool| .mk _ _ _ a _ _ _ _=>a
def Gn.flt:Gn→Bool| .mk _ _ _ _ a _ _ _=>a
def Gn.big:Gn→Bool| .mk _ _ _ _ _ a _ _=>a
def Gn.tex:Gn→List UInt8| .mk _ _ _ _ _ _ a _=>a
def Gn.ks:Gn→List Gn| .mk _ _ _ _ _ _ _ a=>a
mutual
def gn:Tr→Gn
 | .int neg n=> .mk (if neg then 1 else 0) n 0 false false false [] []
 | .str tx b=> .mk (majS tx) 0 0 false false false b []
 | .chk tx l=> .mk (majS tx) 0 0 true false false [] (gns l)
 | .arr o l=> .mk 4 0 0 o false false [] (gns l)
 | .map o l=> .mk 5 0 0 o false false [] (gns l)
 | .tag n t=> .mk 6 n 0 false false false [] [gn t]
 | .prim ai v=> .mk 7 (wide ai v) (if isFl ai then 2^(ai-24) else 0) false (isFl ai) false [] []
def gns:List Tr→List Gn
 |[]=>[]
 |t::l=>gn t::gns l
end
theorem gns_length: ∀l:List Tr,(gns l).length=l.length
 |[]=>rfl
 |t::l=>by simp [gns,gns_length l]
theorem gns_append: ∀l m:List Tr,gns (l++m)=gns l++gns m
 |[],m=>by simp [gns]
 |t::l,m=>by simp [gns,gns_append l m]
def nd (t:Gn) (kv:Value):List Value:=[.int .i64 (t.maj:Int),.int .u64 (t.num:Int),.int .i64 (t.siz:Int),.bool t.opn,.bool t.flt,.bool t.big,.string ⟨t.tex.toArray⟩,kv]
def At (w:World) (g i:Nat) (cs:List Value):Prop:= ∀j u,cs[j]? =some u→w.cell? ⟨g,i+j,none⟩=some u
mutual
def NdV (w:World) (bl:List Nat):Gn→Value→Prop
 | .mk _ _ _ _ _ _ _ l,kv=>(l=[]∧ ∃ao c,kv= .slice ao 0 c)∨ ∃g cap,kv= .slice (some ⟨g,0,none⟩) l.length cap∧l.length≤cap∧l≠[]∧g∈bl∧NdFrom w bl g 0 l
def NdFrom (w:World) (bl:List Nat) (g:Nat):Nat→List Gn→Prop
 |_,[]=>True
 |i,t::l=>(∃kv',At w g (8*i) (nd t kv')∧NdV w bl t kv')∧NdFrom w bl g (i+1) l
end
def KidsV (w:World) (bl:List Nat) (l:List Gn) (kv:Value):Prop:=(l=[]∧ ∃ao c,kv= .slice ao 0 c)∨ ∃g cap,kv= .slice (some ⟨g,0,none⟩) l.length cap∧l.length≤cap∧l≠[]∧g∈bl∧NdFrom w bl g 0 l
theorem ndV_ks (w:World) (bl:List Nat) (t:Gn) (kv:Value):NdV w bl t kv↔KidsV w bl t.ks kv:=by
 cases t
 rw [NdV]
 exact Iff.rfl
theorem At.fr {w w':World} {g i:Nat} {cs:List Value} (h:At w g i cs) (hb:w'.heap[g]? =w.heap[g]?):At w' g i cs:=fun j u hu=>(World.cell?_of_block (w:=w) hb).trans (h j u hu)
mutual
theorem NdV.fr {w w':World} {bl bl':List Nat} (hb: ∀b,b∈bl→w'.heap[b]? =w.heap[b]?) (hs: ∀b,b∈bl→b∈bl'): ∀(t:Gn) (kv:Value),NdV w bl t kv→NdV w' bl' t kv
 | .mk _ _ _ _ _ _ _ l,kv,h=>by
  rw [NdV] at h ⊢
  rcases h with h|⟨g,cap,h1,h2,h3,h4,h5⟩
  ·exact .inl h
  ·exact .inr ⟨g,cap,h1,h2,h3,hs g h4,NdFrom.fr hb hs g h4 l 0 h5⟩
theorem NdFrom.fr {w w':World} {bl bl':List Nat} (hb: ∀b,b∈bl→w'.heap[b]? =w.heap[b]?) (hs: ∀b,b∈bl→b∈bl') (g:Nat) (hg:g∈bl): ∀(l:List Gn) (i:Nat),NdFrom w bl g i l→NdFrom w' bl' g i l
 |[],i,h=>by rw [NdFrom];trivial
 |t::l,i,h=>by
  rw [NdFrom] at h ⊢
  obtain ⟨⟨kv',h1,h2⟩,h3⟩:=h
  exact ⟨⟨kv',h1.fr (hb g hg),NdV.fr hb hs t kv' h2⟩,NdFrom.fr hb hs g hg l (i+1) h3⟩
end
theorem NdFrom.at_ {w:World} {bl:List Nat} {g:Nat}: ∀(l:List Gn) (i j:Nat) (t:Gn),NdFrom w bl g i l→l[j]? =some t→ ∃kv,At w g (8*(i+j)) (nd t kv)∧NdV w bl t kv
 |[],i,j,t,h,hj=>by simp at hj
 |u::l,i,0,t,h,hj=>by
  rw [NdFrom] at h
  simp at hj
  subst hj
  exact h.1
 |u::l,i,j+1,t,h,hj=>by
  rw [NdFrom] at h
  have:=NdFrom.at_ l (i+1) j t h.2 (by simpa using hj)
  rw [show i+1+j=i+(j+1) by omega] at this
  exact this
def NodeV (w:World) (lo:Nat) (t:Gn) (v:Value):Prop:= ∃bl kv,v= .agg (nd t kv).toArray∧(∀b,b∈bl→lo≤b∧b<w.heap.size)∧NdV w bl t kv
theorem NodeV.fr {w w':World} {lo:Nat} {t:Gn} {v:Value} {S:List Nat} (h:NodeV w lo t v) (hf:Fr S w w') (hs: ∀s,s∈S→s<lo):NodeV w' lo t v:=by
 obtain ⟨bl,kv,h1,h2,h3⟩:=h
 refine ⟨bl,kv,h1,fun b hb=>⟨(h2 b hb).1,Nat.lt_of_lt_of_le (h2 b hb).2 hf.size⟩,NdV.fr (fun b hb=>hf.block b (h2 b hb).2 (fun e=>by have:=hs b e;have:=h2 b hb;omega)) (fun b hb=>hb) t kv h3⟩
theorem NodeV.lo {w:World} {lo lo':Nat} {t:Gn} {v:Value} (h:NodeV w lo t v) (hl:lo'≤lo):NodeV w lo' t v:=by
 obtain ⟨bl,kv,h1,h2,h3⟩:=h
 exact ⟨bl,kv,h1,fun b hb=>⟨by have:=h2 b hb;omega,(h2 b hb).2⟩,h3⟩
def AllNd (w:World) (bl:List Nat):List Gn→List Value→Prop
 |[],cs=>cs=[]
 |t::l,cs=> ∃kv rest,cs=nd t kv++rest∧NdV w bl t kv∧AllNd w bl l rest
theorem AllNd.fr {w w':World} {bl bl':List Nat} (hb: ∀b,b∈bl→w'.heap[b]? =w.heap[b]?) (hs: ∀b,b∈bl→b∈bl'): ∀(l:List Gn) (cs:List Value),AllNd w bl l cs→AllNd w' bl' l cs
 |[],cs,h=>h
 |t::l,cs,h=>by
  obtain ⟨kv,rest,h1,h2,h3⟩:=h
  exact ⟨kv,rest,h1,NdV.fr hb hs t kv h2,AllNd.fr hb hs l rest h3⟩
theorem AllNd.snoc {w:World} {bl:List Nat} {t:Gn} {kv:Value} (hk:NdV w bl t kv): ∀(l:List Gn) (cs:List Value),AllNd w bl l cs→AllNd w bl (l++[t]) (cs++nd t kv)
 |[],cs,h=>by
  rw [AllNd] at h
  subst h
  exact ⟨kv,[],by simp,hk,rfl⟩
 |u::l,cs,h=>by
  obtain ⟨kv2,rest,h1,h2,h3⟩:=h
  subst h1
  exact ⟨kv2,rest++nd t kv,by simp,h2,AllNd.snoc hk l rest h3⟩
theorem AllNd.from_ {w:World} {bl:List Nat} {g:Nat}: ∀(l:List Gn) (cs:List Value) (i:Nat),AllNd w bl l cs→At w g (8*i) cs→NdFrom w bl g i l
 |[],cs,i,h,ha=>by rw [NdFrom];trivial
 |t::l,cs,i,h,ha=>by
  obtain ⟨kv,rest,h1,h2,h3⟩:=h
  subst h1
  rw [NdFrom]
  refine ⟨⟨kv,fun j u hu=>ha j u ?_,h2⟩,AllNd.from_ l rest (i+1) h3 (fun j u hu=> ?_)⟩
  ·rw [List.getElem?_append_left (List.getElem?_eq_some_iff.1 hu).1]
   exact hu
  ·have:=ha (8+j) u (by rw [List.getElem?_append_right (by simp [nd]),show 8+j-(nd t kv).length=j by simp [nd]];exact hu)
   rw [show 8*i+(8+j)=8*(i+1)+j by omega] at this
   exact this
def KidRow (w:World) (T:TypeId) (lo:Nat) (v:Value) (l:List Gn):Prop:= ∃cs bl,w.ownsRow lo T 8 v l.length cs∧(∀b,b∈bl→lo≤b∧b<w.heap.size∧v.ownBlock≠some b)∧AllNd w bl l cs
theorem KidRow.nil (w:World) (T:TypeId) (lo:Nat):KidRow w T lo (.slice none 0 0) []:=⟨[],[],World.ownsRow_nil _ _ _ _,by simp,rfl⟩
theorem KidRow.fr {w w':World} {T:TypeId} {lo:Nat} {v:Value} {l:List Gn} {S:List Nat} (h:KidRow w T lo v l) (hf:Fr S w w') (hs: ∀s,s∈S→s<lo):KidRow w' T lo v l:=by
 obtain ⟨cs,bl,h1,h2,h3⟩:=h
 refine ⟨cs,bl,hf.own h1 (fun k hk hm=> ?_),fun b hb=> ?_,AllNd.fr (fun b hb=>hf.block b (h2 b hb).2.1 (fun e=> ?_)) (fun b hb=>hb) l cs h3⟩
 ·have:=(World.ownsRow.lt h1 k hk).1
  have:=hs k hm
  omega
 ·obtain ⟨a,b,c⟩:=h2 b hb
  exact ⟨a,Nat.lt_of_lt_of_le b hf.size,c⟩
 ·have:=hs b e
  have:=(h2 b hb).1
  omega
theorem KidRow.kids {w:World} {T:TypeId} {lo:Nat} {v:Value} {l:List Gn} (h:KidRow w T lo v l): ∃bl,(∀b,b∈bl→lo≤b∧b<w.heap.size)∧KidsV w bl l v:=by
 obtain ⟨cs,bl,h1,h2,h3⟩:=h
 rcases h1.2 with ⟨hv,h0⟩|⟨g,cap,cur,hv,hg,hh,hc,r⟩
 ·exact ⟨[],by simp,.inl ⟨List.eq_nil_of_length_eq_zero h0,_,_,hv⟩⟩
 ·subst hv
  by_cases hl:l=[]
  ·subst hl
   exact ⟨[],by simp,.inl ⟨rfl,_,_,rfl⟩⟩
  ·refine ⟨g::bl,fun b hb=> ?_,.inr ⟨g,cap,rfl,hc,hl,by simp,AllNd.from_ l cs 0 (AllNd.fr (fun b hb=>rfl) (fun b hb=>by simp [hb]) l cs h3) (fun j u hu=> ?_)⟩⟩
   ·rcases List.mem_cons.1 hb with rfl|hb
    ·exact ⟨hg,blk_lt' hh⟩
    ·exact ⟨(h2 b hb).1,(h2 b hb).2.1⟩
   ·have:=World.ownsRow.cells h1 (g:=g) rfl j u hu
    have ha:(⟨g,0,none⟩:Addr).add j=⟨g,0+j,none⟩:=by unfold Addr.add;split<;>simp_all
    rw [ha] at this
    rw [Nat.mul_zero]
    exact this
end
section
set_option exponentiation.threshold 3000
open Go.RowKit
theorem read64 (b:Nat) (hb:b<18446744073709551616) (hf:b/4503599627370496%2048≠2047):Ieee.double.read b= .number (b/9223372036854775808==1) (fMant b) (fExp b-52):=by
 have e1:Ieee.double.signWeight=9223372036854775808:=by decide
 have e2:Ieee.double.binade=4503599627370496:=by decide
 have e3:Ieee.double.infRung=9218868437227405312:=by decide
 have e4:Ieee.double.leastPlace= -1074:=by decide
 unfold Ieee.Format.read
 rw [e1,e2,e3,e4]
 dsimp only
 have h2:b/9223372036854775808%2=b/9223372036854775808:=by omega
 rw [h2]
 unfold fMant fExp
 by_cases h0:b/4503599627370496%2048=0
 ·rw [if_pos h0,if_pos h0,if_pos (by omega)]
  congr 1
  omega
 ·rw [if_neg h0,if_neg h0,if_neg (by omega),if_pos (by omega)]
  congr 1
  ·omega
  ·omega
theorem order_self (b:Nat) (hb:b<18446744073709551616) (hf:b/4503599627370496%2048≠2047):Ieee.double.order b b=some .eq:=by
 unfold Ieee.Format.order
 rw [read64 b hb hf]
 simp [Ieee.Datum.order]
theorem fMant_lt (b:Nat):fMant b<9007199254740992:=by unfold fMant;split<;>omega
theorem fExp_le (b:Nat) (hf:b/4503599627370496%2048≠2047):fExp b-52≤971∧ -1074≤fExp b-52:=by unfold fExp;split<;>omega
theorem shl_le (m k:Nat) (h:m<9007199254740992):m≤9007199254740991<<<k:=by
 rw [Nat.shiftLeft_eq]
 have:=Nat.mul_le_mul (show m≤9007199254740991 by omega) (Nat.pow_pos (n:=k) (show 0<2 by decide))
 omega
theorem order_max (b:Nat) (hb:b<18446744073709551616) (hf:b/4503599627370496%2048≠2047):Ieee.double.order b 9218868437227405311≠some .gt∧Ieee.double.order b 18442240474082181119≠some .lt:=by
 have r1:Ieee.double.read 9218868437227405311= .number false 9007199254740991 971:=by decide
 have r2:Ieee.double.read 18442240474082181119= .number true 9007199254740991 971:=by decide
 have hm:=fMant_lt b
 obtain ⟨he,_⟩:=fExp_le b hf
 unfold Ieee.Format.order
 rw [read64 b hb hf,r1,r2]
 generalize fMant b=m at *
 generalize fExp b-52=i at *
 generalize (b/9223372036854775808==1)=s at *
 have hk:=shl_le m (971-i).toNat hm
 simp only [Ieee.Datum.order,Int.min_eq_left he]
 have h0:(i-i).toNat=0:=by omega
 rw [h0]
 constructor
 ·intro e
  injection e with e
  rw [Int.compare_eq_gt] at e
  unfold Ieee.signed at e
  rw [Nat.shiftLeft_zero] at e
  generalize 9007199254740991<<<(971-i).toNat=S at *
  cases s
  ·simp at e;omega
  ·simp at e;omega
 ·intro e
  injection e with e
  rw [Int.compare_eq_lt] at e
  unfold Ieee.signed at e
  rw [Nat.shiftLeft_zero] at e
  generalize 9007199254740991<<<(971-i).toNat=S at *
  cases s
  ·simp at e;omega
  ·simp at e;omega
def s2d (y:Nat):Nat:=Ieee.double.write (Ieee.single.read y)
theorem double_consts:Ieee.double.signWeight=9223372036854775808∧Ieee.double.binade=4503599627370496∧Ieee.double.infRung=9218868437227405312∧Ieee.double.leastPlace= -1074∧Ieee.double.fractionBits=52:=by decide
theorem cut0 (n:Nat) (s:Bool):Ieee.Toward.even.cut s n 0=n:=by
 unfold Ieee.Toward.cut
 simp [Nat.mod_one]
theorem near64 (s:Bool) (m:Nat) (p:Int) (hm:0<m) (hm2:m<16777216) (hp1: -149≤p) (hp2:p≤104):
  Ieee.double.nearest s m p=(if s then 9223372036854775808 else 0)+(p+m.log2+1022).toNat*4503599627370496+m*2^(52-m.log2):=by
 obtain ⟨c1,c2,c3,c4,c5⟩:=double_consts
 have hl:m.log2≤23:=by
  have:=(Nat.log2_lt (n:=m) (k:=24) (by omega)).2 (by omega)
  omega
 have hup:m<2^(m.log2+1):=Nat.lt_log2_self
 have hlo:2^m.log2≤m:=Nat.log2_self_le (by omega)
 unfold Ieee.Format.nearest
 rw [if_neg (by omega),c2,c3,c4,c5]
 dsimp only
 have hmax:max (p+(m.log2:Int)-(52:Nat)) (-1074)=p+m.log2-52:=by omega
 rw [hmax,show (p-(p+(m.log2:Int)-52)).toNat=52-m.log2 by omega,show (p+(m.log2:Int)-52-p).toNat=0 by omega,cut0,Nat.shiftLeft_eq,show (p+(m.log2:Int)-52- -1074).toNat=(p+m.log2+1022).toNat by omega]
 have hkept:m*2^(52-m.log2)<9007199254740992:=by
  have h:=Nat.mul_lt_mul_of_pos_right hup (Nat.pow_pos (n:=52-m.log2) (show 0<2 by decide))
  rw [←Nat.pow_add,show m.log2+1+(52-m.log2)=53 by omega] at h
  exact h
 have hmin:min ((p+(m.log2:Int)+1022).toNat*4503599627370496+m*2^(52-m.log2)) 9218868437227405312=(p+m.log2+1022).toNat*4503599627370496+m*2^(52-m.log2):=by
  have:(p+(m.log2:Int)+1022).toNat≤1149:=by omega
  apply Nat.min_eq_left
  have h:=Nat.mul_le_mul_right 4503599627370496 this
  clear hup hlo hmax
  generalize m*2^(52-m.log2)=K at *
  generalize (p+(m.log2:Int)+1022).toNat=Q at *
  clear hl hp1 hp2 hm hm2 this c1 c2 c3 c4 c5
  exact Nat.le_trans (Nat.add_le_add h (Nat.le_of_lt hkept)) (by decide)
 rw [hmin]
 unfold Ieee.Format.word
 rw [c1]
 cases s
 ·simp
 ·simp;omega
theorem arith1 (sg l t:Nat) (h4:8388608≤t):sg+(873+l)*4503599627370496+t*536870912=sg+(874+l)*4503599627370496+(t-8388608)*536870912:=by omega
theorem arith2 (sg e f:Nat):sg+(e+895)*4503599627370496+(8388608+f)*536870912=sg+(e+1024-128)*4503599627370496+f*536870912:=by omega
theorem log2_23 (f:Nat) (h:f<8388608):(8388608+f).log2=23:=by
 have h1:=(Nat.log2_lt (n:=8388608+f) (k:=24) (by omega)).2 (by omega)
 have h2:=(Nat.le_log2 (n:=8388608+f) (k:=23) (by omega)).2 (by omega)
 omega
theorem s2d_wide (y:Nat) (hy:y<4294967296) (hf:y/8388608%256≠255):s2d y=widen y 8 23:=by
 have e1:Ieee.single.signWeight=2147483648:=by decide
 have e2:Ieee.single.binade=8388608:=by decide
 have e3:Ieee.single.infRung=2139095040:=by decide
 have e4:Ieee.single.leastPlace= -149:=by decide
 have h2:y/2147483648%2=y/2147483648:=by omega
 have hsg:(if (y/2147483648==1)=true then 9223372036854775808 else 0)=y/2147483648%2*9223372036854775808:=by
  rcases (show y/2147483648=0∨y/2147483648=1 by omega) with e|e
  ·rw [e];rfl
  ·rw [e];rfl
 unfold s2d Ieee.Format.read
 rw [e1,e2,e3,e4]
 dsimp only
 rw [h2]
 unfold widen
 rw [show (2:Nat)^23=8388608 by decide,show (2:Nat)^8=256 by decide,show (2:Nat)^(8+23)=2147483648 by decide,show (2:Nat)^63=9223372036854775808 by decide,show (2:Nat)^52=4503599627370496 by decide,show (2:Nat)^(52-23)=536870912 by decide,show (2:Nat)^(8-1)=128 by decide]
 rw [if_neg hf]
 by_cases h0:y/8388608%256=0
 ·have hr:y%2147483648=y%8388608:=by omega
  rw [if_pos (by omega),if_neg (by omega),hr]
  show Ieee.double.nearest _ _ _=_
  have hm:=Nat.mod_lt y (show 0<8388608 by decide)
  generalize y%8388608=m at *
  by_cases hm0:m=0
  ·rw [if_pos hm0,hm0,←hsg]
   unfold Ieee.Format.nearest
   rw [if_pos rfl]
   unfold Ieee.Format.word
   rw [double_consts.1]
  ·rw [if_neg hm0,near64 _ m _ (by omega) (by omega) (by omega) (by omega),hsg]
   have hl:m.log2≤22:=by
    have:=(Nat.log2_lt (n:=m) (k:=23) (by omega)).2 (by omega)
    omega
   have hlo:2^m.log2≤m:=Nat.log2_self_le (by omega)
   have h3:m*2^(52-m.log2)=m*2^(23-m.log2)*536870912:=by
    rw [Nat.mul_assoc,show (536870912:Nat)=2^29 by decide,←Nat.pow_add]
    congr 2
    omega
   have h4:8388608≤m*2^(23-m.log2):=by
    have h:=Nat.mul_le_mul_right (2^(23-m.log2)) hlo
    rw [←Nat.pow_add,show m.log2+(23-m.log2)=23 by omega] at h
    exact h
   rw [h3]
   generalize m*2^(23-m.log2)=t at *
   obtain ⟨sg,hsg2⟩: ∃sg,sg=y/2147483648%2*9223372036854775808:=⟨_,rfl⟩
   rw [←hsg2]
   clear hsg2
   generalize m.log2=l at *
   have:(-149+(l:Int)+1022).toNat=873+l:=by omega
   rw [this,show 1025-128-(23-l)=874+l by omega]
   exact arith1 sg l t h4
 ·rw [if_neg (by omega),if_pos (by omega),if_pos (by omega)]
  show Ieee.double.nearest _ _ _=_
  have hr:y%2147483648%8388608=y%8388608:=by omega
  rw [hr]
  have hm:=Nat.mod_lt y (show 0<8388608 by decide)
  have he:y%2147483648/8388608=y/8388608%256:=by omega
  rw [he]
  have hel:=Nat.mod_lt (y/8388608) (show 0<256 by decide)
  generalize y/8388608%256=e at *
  have hlog:=log2_23 (y%8388608) hm
  rw [near64 _ _ _ (by omega) (by omega) (by omega) (by omega),hsg,hlog]
  have:(-149+((e-1:Nat):Int)+((23:Nat):Int)+1022).toNat=e+895:=by omega
  rw [this,show 52-23=29 by decide,show (2:Nat)^29=536870912 by decide]
  obtain ⟨sg,hsg2⟩: ∃sg,sg=y/2147483648%2*9223372036854775808:=⟨_,rfl⟩
  rw [←hsg2]
  clear hsg2
  exact arith2 sg e (y%8388608)
end
section
set_option exponentiation.threshold 3000
open Go.RowKit
theorem idx_at {c:UInt8}: ∀{l:List UInt8} {i:Nat} (h:i<l.length),(∀j,(hj:j<i)→l[j]'(by omega)≠c)→l[i]=c→idx c l=some i
 |[],i,h,_,_=>by simp at h
 |x::l,0,h,_,e=>by rw [idx,if_pos (by simpa using e)]
 |x::l,i+1,h,hn,e=>by
  rw [idx,if_neg (by simpa using hn 0 (by omega)),idx_at (l:=l) (i:=i) (by simpa using h) (fun j hj=>by simpa using hn (j+1) (by omega)) (by simpa using e)]
  rfl
def idxI (c:UInt8) (l:List UInt8):Int:=match idx c l with
 |some i=>(i:Int)
 |none=> -1
theorem indexByte {w:World} {g cap:Nat} {bs:List UInt8} (c:UInt8) (hrd:Rd w g 0 bs) (hl:bs.length≤1099511627776):
  Calls Tryz.prog 187 #[.slice (some ⟨g,0,none⟩) bs.length cap,.int .u8 (c.toNat:Int)] w fun e w'=>w'=w∧e= .returned (.int .i64 (idxI c bs)):=by
 replace hrd:=Hz hrd
 go_enter Tryz.func187,Tryz.ntmps187
 go_wp2
 go_loopg [8] bs.length (fun gk v8 wr=> ∃i:Nat,v8= .int .i64 (i:Int)∧i+gk=bs.length∧Hid (∀j,j<i→ ∃hj:j<bs.length,bs[j]≠c)∧w=wr)
 case atStart=>exact ⟨0,by go_num,by omega,Hz (fun j hj=>by omega),rfl⟩
 case round=>
  obtain ⟨i,rfl,hig,hn,rfl⟩:=hrel
  by_cases hi:i<bs.length
  ·obtain ⟨k,rfl⟩: ∃k,gk=k+1:=⟨gk-1,by omega⟩
   have hx:=hrd.out i hi
   rw [Nat.zero_add] at hx
   have t0:(i:Int)<(bs.length:Int):=by omega
   by_cases hc:bs[i]=c
   ·have e0:((bs[i].toNat:Int)==(c.toNat:Int))=true:=by simp [hc]
    have e1:(bs[i].toNat:Int)=(c.toNat:Int):=by rw [hc]
    have hr:idxI c bs=(i:Int):=by unfold idxI;rw [idx_at hi (fun j hj=>by obtain ⟨_,h⟩:=hn.out j hj;exact h) hc]
    go_wp2
    go_ret
    exact ⟨rfl,by first|(rw [hr];rfl)|rfl⟩
   ·have e0:((bs[i].toNat:Int)==(c.toNat:Int))=false:=by
     simp only [beq_eq_false_iff_ne,ne_eq]
     intro e
     exact hc (UInt8.toNat_inj.1 (by omega))
    have e1: ¬(bs[i].toNat:Int)=(c.toNat:Int):=by simpa using e0
    have hn2:Hid (∀j,j<i+1→ ∃hj:j<bs.length,bs[j]≠c):=Hz (fun j hj=>by
     by_cases e:j=i
     ·subst e;exact ⟨hi,hc⟩
     ·exact hn.out j (by omega))
    clear hc
    go_wp2
    go_roundg k
    case measure=>omega
    case rel=>exact ⟨i+1,by go_num,by omega,hn2,rfl⟩
  ·have t0: ¬(i:Int)<(bs.length:Int):=by omega
   have hr:idxI c bs= -1:=by
    unfold idxI
    rw [idx_none c bs (fun x hx=>by
     obtain ⟨j,hj,rfl⟩:=List.getElem_of_mem hx
     obtain ⟨_,h⟩:=hn.out j (by omega)
     exact h)]
   go_wp2
   go_ret
   exact ⟨rfl,by first|(rw [hr];rfl)|rfl⟩
end
section
open Go.RowKit
section
variable {X:Cx} {off:Nat} {bs:List UInt8} {w:World}
def EncB (X:Cx) (b:List UInt8) (r:R):Prop:= ∀(off:Nat) (bs:List UInt8) (w:World) (q c:Nat),St X off bs w→Rd w X.db q b→b.length≤c→bs.length+r.1.length≤room→
 Calls Tryz.prog 130 #[.pointer (some ⟨X.di,0,none⟩),.slice (some ⟨X.db,q,none⟩) b.length c] w (IPost X off bs r w)
theorem di_bytes (h:St X off bs w) {ai v o1:Nat} {b:List UInt8} {r:R} (hh:hd X.xs off= .ok (2,ai,v,o1)) (h31:ai≠31) (hvl:o1+v≤X.xs.length) (hb:b=(X.xs.drop o1).take v) (hE:EncB X b r) (hlen:bs.length+r.1.length≤room):
  Calls Tryz.prog 105 #[.pointer (some ⟨X.di,0,none⟩)] w (IPost X (o1+v) bs r w):=by
 obtain ⟨hl,hb1,hb2⟩:=hd_byte hh
 have hai:=(hd_off hh).2.2.2
 have hai2:=(hd_off hh).2.2.1
 have k1:=h.i1
 have k2:=h.i2
 have d0:=h.dec.c0
 have d1:=h.dec.c1
 have ha:=h.dec.at_ off hl
 have hm:=h.dec.len
 have KT:=fun n=>nextCBORType (h.dec.drewN n) hl
 rw [hb1] at KT
 have KP:=fun n=>parseByteString (h.dec.drewN n) hh h31 hvl hb
 replace KT:=Hz KT
 replace KP:=Hz KP
 replace hh:=Hz hh
 replace hE:=Hz hE
 replace hb:=Hz hb
 have g95:((X.xs[off].toNat:Int)==95)=false:=by simp;omega
 have g127:((X.xs[off].toNat:Int)==127)=false:=by simp;omega
 have g159:((X.xs[off].toNat:Int)==159)=false:=by simp;omega
 have g191:((X.xs[off].toNat:Int)==191)=false:=by simp;omega
 generalize (X.xs[off].toNat:Int)=x0 at *
 clear hb1 hb2 hai h31
 have b1:(off:Int)<(X.xs.length:Int):=by omega
 have b2:(0:Int)≤(off:Int):=by omega
 have b3:(off:Int).toNat=off:=by omega
 go_enter Tryz.func105,Tryz.ntmps105
 go_wp2
 go_quiet (fail)
 go_wp2_with fail
 refine (KT.out _).mono ?_
 rintro e w1 ⟨rfl,nm,rfl⟩
 go_wp2_with fail
 refine (KP.out _).mono ?_
 rintro e w1 ⟨q,n,rfl,hcap,hrd,hD,hf⟩
 have h1:=(h.drewN _).moved hf hD
 have G1:=h.grF (((Fr.refl [X.d] w).drewN _).trans hf)
 have KE:=Hz (hE.out _ _ _ q n h1 hrd hcap hlen)
 clear hrd hcap
 go_wp2_with fail
 refine KE.out.mono ?_
 rintro e w2 ⟨v2,o2,rfl,hv2,ho2,h2,hG2⟩
 have G2:=G1.trans hG2
 rcases hr:r.2 with _|k
 ·rw [hr] at hv2
  obtain rfl:=hv2.nil
  go_wp2
  go_ret
  exact ⟨.nilIface,o2,rfl,(by rw [hr];rfl),ho2,h2,G2⟩
 ·rw [hr] at hv2
  obtain ⟨t,x,rfl⟩:=hv2.ne
  go_wp2
  go_ret
  exact ⟨.iface t x,o2,rfl,(by rw [hr];exact hv2),ho2,h2,G2⟩
end
end
section
set_option exponentiation.threshold 3000
open Go.RowKit
theorem fmtF_len (b:Nat) (e:Bool) (hR:(fR b).1.length≤100000∧(fR b).2≤100000∧ -100000≤(fR b).2):(fmtF b e).length≤1000001:=by
 obtain ⟨h1,h2,h3⟩:=hR
 unfold fmtF
 have hs:=sgn_len b
 cases e
 ·have:=texT_len (fR b).1 (fR b).2 ((fR b).1.length-(fR b).2).toNat h2 (by omega)
  simp only [List.length_append]
  simp
  omega
 ·have:=expT_len (fR b).1 (fR b).2 ((fR b).1.length-1) h2 h3 (by omega)
  simp only [List.length_append]
  simp
  omega
theorem formatF (b:Nat) (e:Bool) (hb:b<18446744073709551616) (hfin:b/4503599627370496%2048≠2047) (he:e=true→0<fMant b) (w:World):
  Calls Tryz.prog 203 #[.float .f64 b,.int .u8 (if e then 101 else 102),.int .i64 (-1),.int .i64 64] w fun e' w'=>e'= .returned (.string ⟨(fmtF b e).toArray⟩)∧Fr [] w w':=by
 cases e
 ·exact formatT b hb hfin w
 ·exact formatE b hb hfin (he rfl) w
theorem appendFloat {w:World} {B:Nat} {v:Value} {bs:List UInt8} (b:Nat) (e:Bool) (hr:Row w B v bs) (hB:B≤w.heap.size) (hb:b<18446744073709551616) (hfin:b/4503599627370496%2048≠2047) (he:e=true→0<fMant b) (hl:bs.length+(fmtF b e).length≤140737488355328):
  Calls Tryz.prog 186 #[v,.float .f64 b,.int .u8 (if e then 101 else 102),.int .i64 (-1),.int .i64 64] w fun e' w'=> ∃v',e'= .returned v'∧Row w' B v' (bs++fmtF b e)∧Gr B [] w w':=by
 have KF:=Hz (formatF b e hb hfin he w)
 replace hb:=Hz hb
 replace hfin:=Hz hfin
 replace he:=Hz he
 generalize (if e then (101:Int) else 102)=fm at *
 generalize fmtF b e=T at *
 obtain ⟨ao,n,c,rfl⟩:=hr.shape
 go_enter Tryz.func186,Tryz.ntmps186
 go_wp2_with fail
 refine KF.out.mono ?_
 rintro e' w1 ⟨rfl,hf⟩
 have hr1:=hr.fr hf (by simp)
 go_wp2_with (at_builtin;refine wpList_apStr rfl _ _ rfl (B:=B) _ bs T rfl rfl hr1 (Nat.le_trans hB hf.size) hl ?_)
 intro v' w' hr' hg
 have hG:Gr B [] w w':=(Gr.of hf hB (by simp)).grown hg (Nat.le_trans hB hf.size) (fun k hk=> .inr (World.ownsRow.lt hr1 k hk).1)
 go_wp2
 go_ret
 exact ⟨v',rfl,hr',hG⟩
end
section
set_option exponentiation.threshold 3000
open Go.RowKit
theorem u16_and_nat' (a b:Nat) (ha:a<65536) (hb:b<65536):bits .and .u16 (a:Int) (b:Int)=((a&&&b:Nat):Int):=by
 first|exact u16_and_nat a b ha hb|(have:=u16_and (a:Int) (b:Int) (by omega) (by omega) (by omega) (by omega);simpa using this)
theorem frombits (x:Nat) (w:World):Calls Tryz.prog 179 #[.int .u16 (x:Int)] w fun e w'=>e= .returned (.int .u16 (x:Int))∧w'=w:=by
 go_enter Tryz.func179,Tryz.ntmps179
 go_wp2
 go_ret
 exact ⟨rfl,rfl⟩
theorem absF (b:Nat) (hb:b<18446744073709551616) (w:World):Calls Tryz.prog 185 #[.float .f64 b] w fun e w'=>e= .returned (.float .f64 (b%9223372036854775808))∧w'=w:=by
 have h:=u64_andNot_nat b 9223372036854775808 (by omega) (by omega)
 have h2:b&&&(18446744073709551615-9223372036854775808)=b%9223372036854775808:=by
  rw [show 18446744073709551615-9223372036854775808=2^63-1 by decide,Nat.and_two_pow_sub_one_eq_mod]
 rw [h2] at h
 have h3:bits .andNot .u64 (b:Int) 9223372036854775808=((b%9223372036854775808:Nat):Int):=h
 have x202:=fun w=>ext202 b w
 have x184:=fun w=>ext184 (b%9223372036854775808) w
 clear h h2
 generalize b%9223372036854775808=a at *
 go_enter Tryz.func185,Tryz.ntmps185
 go_wp2
 go_ret
 exact ⟨rfl,rfl⟩
theorem single_num (y:Nat) (hy:y<4294967296) (hf:y/8388608%256≠255): ∃s m e,Ieee.single.read y= .number s m e:=by
 have e1:Ieee.single.signWeight=2147483648:=by decide
 have e2:Ieee.single.binade=8388608:=by decide
 have e3:Ieee.single.infRung=2139095040:=by decide
 unfold Ieee.Format.read
 rw [e1,e2,e3]
 dsimp only
 by_cases h0:y%2147483648<8388608
 ·rw [if_pos h0];exact ⟨_,_,_,rfl⟩
 ·rw [if_neg h0,if_pos (by omega)];exact ⟨_,_,_,rfl⟩
theorem s2d_fin (y:Nat) (hy:y<4294967296) (hf:y/8388608%256≠255):s2d y<18446744073709551616∧s2d y/4503599627370496%2048≠2047:=by
 have key: ∀(sg E F:Nat),sg≤1→E≤1200→F<4503599627370496→sg*9223372036854775808+E*4503599627370496+F<18446744073709551616∧(sg*9223372036854775808+E*4503599627370496+F)/4503599627370496%2048≠2047:=by
  intro sg E F h1 h2 h3
  omega
 rw [s2d_wide y hy hf]
 unfold widen
 rw [show (2:Nat)^23=8388608 by decide,show (2:Nat)^8=256 by decide,show (2:Nat)^(8+23)=2147483648 by decide,show (2:Nat)^63=9223372036854775808 by decide,show (2:Nat)^52=4503599627370496 by decide,show (2:Nat)^(52-23)=536870912 by decide,show (2:Nat)^(8-1)=128 by decide]
 rw [if_neg hf]
 have hm:=Nat.mod_lt y (show 0<8388608 by decide)
 have hel:=Nat.mod_lt (y/8388608) (show 0<256 by decide)
 have hs:=Nat.mod_lt (y/2147483648) (show 0<2 by decide)
 split
 ·exact key _ _ _ (by omega) (by omega) (by omega)
 ·split
  ·have:=key (y/2147483648%2) 0 0 (by omega) (by omega) (by omega)
   rw [Nat.zero_mul,Nat.add_zero] at this
   exact this
  ·rename_i h1 h2
   refine key _ _ _ (by omega) (by omega) ?_
   generalize y%8388608=m at *
   have hup:m<2^(m.log2+1):=Nat.lt_log2_self
   have hl:m.log2≤22:=by
    have:=(Nat.log2_lt (n:=m) (k:=23) (by omega)).2 (by omega)
    omega
   have h:=Nat.mul_lt_mul_of_pos_right hup (Nat.pow_pos (n:=23-m.log2) (show 0<2 by decide))
   rw [←Nat.pow_add,show m.log2+1+(23-m.log2)=24 by omega] at h
   have h':m*2^(23-m.log2)<16777216:=h
   obtain ⟨t,ht⟩: ∃t,t=m*2^(23-m.log2):=⟨_,rfl⟩
   rw [←ht] at h' ⊢
   clear ht h hup
   omega
theorem conv32 (y:Nat) (hy:y<4294967296) (hf:y/8388608%256≠255) (w:World):(convert 291 287 (.float .f32 y)).run Tryz.prog w= .ok (.float .f64 (s2d y)) w:=by
 obtain ⟨s,m,e,hr⟩:=single_num y hy hf
 obtain ⟨f1,f2⟩:=s2d_fin y hy hf
 have hc:(convert 291 287 (.float .f32 y)).run Tryz.prog w=(Conv.floatToFloat .f32 y .f64).run Tryz.prog w:=by
  simp [convert,run_underlying Tryz.underlying291,run_underlying Tryz.underlying287]
 rw [hc]
 have hd:FloatKind.f64.encode (.number s m e)=s2d y:=by unfold s2d;rw [hr];rfl
 have hn:(FloatKind.f64.decode (s2d y)).isInfinity=false:=by
  show (Ieee.double.read (s2d y)).isInfinity=false
  rw [read64 _ f1 f2]
  rfl
 unfold Conv.floatToFloat
 rw [if_neg (by decide)]
 rw [show FloatKind.f32.decode y= .number s m e from hr]
 dsimp only
 rw [hd,hn]
 rfl
end
end Go.Proofs.YteodinhkhhaafaaGreatDoor
