/- Walks of the program, and plain facts. -/
import Derived.Test.YteodinhkhhaafaaGreatDoorDba
import Derived.Lib.ValidLaws
set_option linter.unusedVariables false
set_option linter.unusedSimpArgs false
set_option maxRecDepth 100000
set_option maxHeartbeats 6400000
namespace Go.Proofs.YteodinhkhhaafaaGreatDoor
section
set_option exponentiation.threshold 3000
open Go.RowKit
def nanT:List UInt8:=[78,97,78]
def infT:List UInt8:=[73,110,102,105,110,105,116,121]
def ninfT:List UInt8:=[45,73,110,102,105,110,105,116,121]
def spO (ai v:Nat):Option (List UInt8):=
 if ai=25 then (if v/1024%32=31 then some (if v%1024≠0 then nanT else if v<32768 then infT else ninfT) else none)
 else if ai=26 then (if v/8388608%256=255 then some (if v%8388608≠0 then nanT else if v<2147483648 then infT else ninfT) else none)
 else (if v/4503599627370496%2048=2047 then some (if v%4503599627370496≠0 then nanT else if v<9223372036854775808 then infT else ninfT) else none)
def fT (pr:Bool) (ai v:Nat):List UInt8:=(spO ai v).getD (fltB (wbits ai v)++precT pr ai)
theorem nan16 (x:Nat) (hx:x<65536) (hf:x/1024%32=31) (w:World):Calls Tryz.prog 180 #[.int .u16 (x:Int)] w fun e w'=>e= .returned (.bool (x%1024 !=0))∧w'=w:=by
 have h:=u16_and_nat' x 31744 hx (by omega)
 have g:=u16_and_nat' x 1023 hx (by omega)
 have h2:x&&&31744=31744:=by
  have h3:(x&&&31744)/1024=x/1024&&&31:=by
   rw [show (1024:Nat)=2^10 by decide,←Nat.shiftRight_eq_div_pow,Nat.shiftRight_and_distrib,Nat.shiftRight_eq_div_pow]
   rfl
  have h4:(x&&&31744)%1024=0:=by
   rw [show (1024:Nat)=2^10 by decide,Nat.and_mod_two_pow,show 31744%2^10=0 by decide,Nat.and_zero]
  rw [show (31:Nat)=2^5-1 by decide,Nat.and_two_pow_sub_one_eq_mod] at h3
  omega
 have g2:x&&&1023=x%1024:=by rw [show (1023:Nat)=2^10-1 by decide,Nat.and_two_pow_sub_one_eq_mod]
 have h3:bits .and .u16 (x:Int) 31744=31744:=by rw [h2] at h;exact h
 have g3:bits .and .u16 (x:Int) 1023=((x%1024:Nat):Int):=by rw [g2] at g;exact g
 have g4:((((x%1024:Nat):Int)) !=0)=(x%1024 !=0):=by
  rw [Bool.eq_iff_iff]
  simp
  omega
 rw [←g4]
 clear g4 h g h2 g2
 obtain ⟨y,hy⟩: ∃y:Int,y=((x%1024:Nat):Int):=⟨_,rfl⟩
 rw [←hy] at g3 ⊢
 replace hy:=Hz hy
 go_enter Tryz.func180,Tryz.ntmps180
 go_wp2
 go_ret
 first|exact ⟨rfl,rfl⟩|(refine ⟨?_,rfl⟩;simp [bne])
theorem inf16p (s:Int) (w:World):Calls Tryz.prog 181 #[.int .u16 31744,.int .i64 s] w fun e w'=>e= .returned (.bool (decide (0≤s)))∧w'=w:=by
 go_enter Tryz.func181,Tryz.ntmps181
 by_cases h:0≤s
 ·have h2:=Hz h
  have h3:decide (0≤s)=true:=by simp [h]
  rw [h3]
  go_wp2
  go_ret
  exact ⟨rfl,rfl⟩
 ·have h3:decide (0≤s)=false:=by simp [h]
  rw [h3]
  go_wp2
  go_ret
  exact ⟨rfl,rfl⟩
theorem inf16n (s:Int) (w:World):Calls Tryz.prog 181 #[.int .u16 64512,.int .i64 s] w fun e w'=>e= .returned (.bool (decide (s≤0)))∧w'=w:=by
 go_enter Tryz.func181,Tryz.ntmps181
 by_cases h:s≤0
 ·have h3:decide (s≤0)=true:=by simp [h]
  rw [h3]
  go_wp2
  go_ret
  exact ⟨rfl,rfl⟩
 ·have h3:decide (s≤0)=false:=by simp [h]
  rw [h3]
  go_wp2
  go_ret
  exact ⟨rfl,rfl⟩
theorem nan_order32 (v:Nat) (hf:v/8388608%256=255) (h0:v%8388608≠0):Ieee.single.order v v=none:=by
 have e1:Ieee.single.signWeight=2147483648:=by decide
 have e2:Ieee.single.binade=8388608:=by decide
 have e3:Ieee.single.infRung=2139095040:=by decide
 unfold Ieee.Format.order Ieee.Format.read
 rw [e1,e2,e3]
 dsimp only
 rw [if_neg (by omega),if_neg (by omega),if_neg (by omega)]
 rfl
theorem nan_order64 (v:Nat) (hf:v/4503599627370496%2048=2047) (h0:v%4503599627370496≠0):Ieee.double.order v v=none:=by
 have e1:Ieee.double.signWeight=9223372036854775808:=by decide
 have e2:Ieee.double.binade=4503599627370496:=by decide
 have e3:Ieee.double.infRung=9218868437227405312:=by decide
 unfold Ieee.Format.order Ieee.Format.read
 rw [e1,e2,e3]
 dsimp only
 rw [if_neg (by omega),if_neg (by omega),if_neg (by omega)]
 rfl
section
variable {X:Cx} {off:Nat} {bs:List UInt8} {w:World}
theorem encSp16 (h:St X off bs w) {v:Nat} {t:List UInt8} (hv:v<65536) (hs:spO 25 v=some t) (hlen:bs.length+t.length≤room):
  Calls Tryz.prog 136 #[.pointer (some ⟨X.di,0,none⟩),.int .u8 25,.int .u64 (v:Int)] w (IPost X off bs (txt t) w):=by
 have k2:=h.i2
 unfold spO at hs
 rw [if_pos rfl] at hs
 have hf:v/1024%32=31:=Decidable.byContradiction fun hf=>by rw [if_neg hf] at hs;cases hs
 rw [if_pos hf] at hs
 injection hs with hs
 have s0:IntKind.u16.wrap (v:Int)=(v:Int):=by show (v:Int)%65536=_;omega
 have K1:=Hz (fun W=>frombits v W)
 have K2:=Hz (fun W=>nan16 v hv hf W)
 go_enter Tryz.func136,Tryz.ntmps136
 by_cases hn:v%1024≠0
 ·rw [if_pos hn] at hs
  subst hs
  have hb:(v%1024 !=0)=true:=by simpa using hn
  rw [hb] at K2
  replace hf:=Hz hf
  replace hn:=Hz hn
  clear hb hv
  go_wp2_with (first|(go_at_call 179;refine (K1.out _).mono ?_;rintro e w1 ⟨rfl,rfl⟩)|(go_at_call 180;refine (K2.out _).mono ?_;rintro e w1 ⟨rfl,rfl⟩)|(go_at_call 104;refine (writeString h.buf h.lw h.hB nanT hlen).mono ?_;rintro e wC ⟨⟨uC,rfl⟩,hbC,hgC⟩))
  go_ret
  exact ⟨.nilIface,_,rfl,rfl,fun _=>rfl,h.wrote hgC hbC,St.grW hgC⟩
 ·have hn:v%1024=0:=by omega
  rw [if_neg (by omega)] at hs
  have hb:(v%1024 !=0)=false:=by simpa using hn
  rw [hb] at K2
  have hvv:v=31744∨v=64512:=by omega
  clear hb hf hn hv
  rcases hvv with hvv|hvv
  ·rw [if_pos (by omega)] at hs
   subst hs
   have K3:Hid (∀W,Calls Tryz.prog 181 #[.int .u16 (v:Int),.int .i64 1] W fun e w'=>e= .returned (.bool true)∧w'=W):=Hz (fun W=>by rw [hvv];exact inf16p 1 W)
   replace hvv:=Hz hvv
   go_wp2_with (first|(go_at_call 179;refine (K1.out _).mono ?_;rintro e w1 ⟨rfl,rfl⟩)|(go_at_call 180;refine (K2.out _).mono ?_;rintro e w1 ⟨rfl,rfl⟩)|(go_at_call 181;refine (K3.out _).mono ?_;rintro e w1 ⟨rfl,rfl⟩)|(go_at_call 104;refine (writeString h.buf h.lw h.hB infT hlen).mono ?_;rintro e wC ⟨⟨uC,rfl⟩,hbC,hgC⟩))
   go_ret
   exact ⟨.nilIface,_,rfl,rfl,fun _=>rfl,h.wrote hgC hbC,St.grW hgC⟩
  ·rw [if_neg (by omega)] at hs
   subst hs
   have K3:Hid (∀W s,Calls Tryz.prog 181 #[.int .u16 (v:Int),.int .i64 s] W fun e w'=>e= .returned (.bool (decide (s≤0)))∧w'=W):=Hz (fun W s=>by rw [hvv];exact inf16n s W)
   replace hvv:=Hz hvv
   go_wp2_with (first|(go_at_call 179;refine (K1.out _).mono ?_;rintro e w1 ⟨rfl,rfl⟩)|(go_at_call 180;refine (K2.out _).mono ?_;rintro e w1 ⟨rfl,rfl⟩)|(go_at_call 181;refine (K3.out _ _).mono ?_;rintro e w1 ⟨rfl,rfl⟩)|(go_at_call 104;refine (writeString h.buf h.lw h.hB ninfT hlen).mono ?_;rintro e wC ⟨⟨uC,rfl⟩,hbC,hgC⟩))
   go_ret
   exact ⟨.nilIface,_,rfl,rfl,fun _=>rfl,h.wrote hgC hbC,St.grW hgC⟩
theorem encSp32 (h:St X off bs w) {v:Nat} {t:List UInt8} (hv:v<4294967296) (hs:spO 26 v=some t) (hlen:bs.length+t.length≤room):
  Calls Tryz.prog 136 #[.pointer (some ⟨X.di,0,none⟩),.int .u8 26,.int .u64 (v:Int)] w (IPost X off bs (txt t) w):=by
 have k2:=h.i2
 unfold spO at hs
 rw [if_neg (by omega),if_pos rfl] at hs
 have hf:v/8388608%256=255:=Decidable.byContradiction fun hf=>by rw [if_neg hf] at hs;cases hs
 rw [if_pos hf] at hs
 injection hs with hs
 have s0:IntKind.u32.wrap (v:Int)=(v:Int):=by show (v:Int)%4294967296=_;omega
 have x183:=fun w=>ext183 v w
 go_enter Tryz.func136,Tryz.ntmps136
 by_cases hn:v%8388608≠0
 ·rw [if_pos hn] at hs
  subst hs
  have o1:=nan_order32 v hf hn
  have t1:(FloatKind.f32.format.order v v !=some Ordering.eq)=true:=by rw [show FloatKind.f32.format=Ieee.single from rfl,o1];rfl
  clear o1 hf hn hv
  go_wp2_with (go_at_call 104;refine (writeString h.buf h.lw h.hB nanT hlen).mono ?_;rintro e wC ⟨⟨uC,rfl⟩,hbC,hgC⟩)
  go_ret
  exact ⟨.nilIface,_,rfl,rfl,fun _=>rfl,h.wrote hgC hbC,St.grW hgC⟩
 ·rw [if_neg hn] at hs
  have hvv:v=2139095040∨v=4286578688:=by omega
  clear hf hn hv
  rcases hvv with hvv|hvv
  ·rw [if_pos (by omega)] at hs
   subst hs
   have t1:(FloatKind.f32.format.order v v !=some Ordering.eq)=false:=by rw [hvv];decide
   have t2:(FloatKind.f32.format.order v 2139095039==some Ordering.gt)=true:=by rw [hvv];decide
   replace hvv:=Hz hvv
   go_wp2_with (go_at_call 104;refine (writeString h.buf h.lw h.hB infT hlen).mono ?_;rintro e wC ⟨⟨uC,rfl⟩,hbC,hgC⟩)
   go_ret
   exact ⟨.nilIface,_,rfl,rfl,fun _=>rfl,h.wrote hgC hbC,St.grW hgC⟩
  ·rw [if_neg (by omega)] at hs
   subst hs
   have t1:(FloatKind.f32.format.order v v !=some Ordering.eq)=false:=by rw [hvv];decide
   have t2:(FloatKind.f32.format.order v 2139095039==some Ordering.gt)=false:=by rw [hvv];decide
   have t3:(FloatKind.f32.format.order v 4286578687==some Ordering.lt)=true:=by rw [hvv];decide
   replace hvv:=Hz hvv
   go_wp2_with (go_at_call 104;refine (writeString h.buf h.lw h.hB ninfT hlen).mono ?_;rintro e wC ⟨⟨uC,rfl⟩,hbC,hgC⟩)
   go_ret
   exact ⟨.nilIface,_,rfl,rfl,fun _=>rfl,h.wrote hgC hbC,St.grW hgC⟩
theorem encSp64 (h:St X off bs w) {v:Nat} {t:List UInt8} (hv:v<18446744073709551616) (hs:spO 27 v=some t) (hlen:bs.length+t.length≤room):
  Calls Tryz.prog 136 #[.pointer (some ⟨X.di,0,none⟩),.int .u8 27,.int .u64 (v:Int)] w (IPost X off bs (txt t) w):=by
 have k2:=h.i2
 unfold spO at hs
 rw [if_neg (by omega),if_neg (by omega)] at hs
 have hf:v/4503599627370496%2048=2047:=Decidable.byContradiction fun hf=>by rw [if_neg hf] at hs;cases hs
 rw [if_pos hf] at hs
 injection hs with hs
 have x184:=fun w=>ext184 v w
 go_enter Tryz.func136,Tryz.ntmps136
 by_cases hn:v%4503599627370496≠0
 ·rw [if_pos hn] at hs
  subst hs
  have o1:=nan_order64 v hf hn
  have t1:(FloatKind.f64.format.order v v !=some Ordering.eq)=true:=by rw [show FloatKind.f64.format=Ieee.double from rfl,o1];rfl
  clear o1 hf hn hv
  go_wp2_with (go_at_call 104;refine (writeString h.buf h.lw h.hB nanT hlen).mono ?_;rintro e wC ⟨⟨uC,rfl⟩,hbC,hgC⟩)
  go_ret
  exact ⟨.nilIface,_,rfl,rfl,fun _=>rfl,h.wrote hgC hbC,St.grW hgC⟩
 ·rw [if_neg hn] at hs
  have hvv:v=9218868437227405312∨v=18442240474082181120:=by omega
  clear hf hn hv
  rcases hvv with hvv|hvv
  ·rw [if_pos (by omega)] at hs
   subst hs
   have t1:(FloatKind.f64.format.order v v !=some Ordering.eq)=false:=by rw [hvv];decide
   have t2:(FloatKind.f64.format.order v 9218868437227405311==some Ordering.gt)=true:=by rw [hvv];decide
   replace hvv:=Hz hvv
   go_wp2_with (go_at_call 104;refine (writeString h.buf h.lw h.hB infT hlen).mono ?_;rintro e wC ⟨⟨uC,rfl⟩,hbC,hgC⟩)
   go_ret
   exact ⟨.nilIface,_,rfl,rfl,fun _=>rfl,h.wrote hgC hbC,St.grW hgC⟩
  ·rw [if_neg (by omega)] at hs
   subst hs
   have t1:(FloatKind.f64.format.order v v !=some Ordering.eq)=false:=by rw [hvv];decide
   have t2:(FloatKind.f64.format.order v 9218868437227405311==some Ordering.gt)=false:=by rw [hvv];decide
   have t3:(FloatKind.f64.format.order v 18442240474082181119==some Ordering.lt)=true:=by rw [hvv];decide
   replace hvv:=Hz hvv
   go_wp2_with (go_at_call 104;refine (writeString h.buf h.lw h.hB ninfT hlen).mono ?_;rintro e wC ⟨⟨uC,rfl⟩,hbC,hgC⟩)
   go_ret
   exact ⟨.nilIface,_,rfl,rfl,fun _=>rfl,h.wrote hgC hbC,St.grW hgC⟩
theorem encF (h:St X off bs w) {ai v:Nat} (ha:ai=25∨ai=26∨ai=27) (hv:v<if ai=25 then 65536 else if ai=26 then 4294967296 else 18446744073709551616) (hlen:bs.length+(fT X.M.pr ai v).length≤room):
  Calls Tryz.prog 136 #[.pointer (some ⟨X.di,0,none⟩),.int .u8 (ai:Int),.int .u64 (v:Int)] w (IPost X off bs (txt (fT X.M.pr ai v)) w):=by
 cases hs:spO ai v with
 |some t=>
  have e:fT X.M.pr ai v=t:=by unfold fT;rw [hs];rfl
  rw [e] at hlen ⊢
  rcases ha with rfl|rfl|rfl
  ·exact encSp16 h (by simpa using hv) hs hlen
  ·exact encSp32 h (by simpa using hv) hs hlen
  ·exact encSp64 h (by simpa using hv) hs hlen
 |none=>
  have e:fT X.M.pr ai v=fltB (wbits ai v)++precT X.M.pr ai:=by unfold fT;rw [hs];rfl
  rw [e] at hlen ⊢
  refine encFloat h ?_ hlen
  unfold spO at hs
  rcases ha with rfl|rfl|rfl
  ·rw [if_pos rfl] at hs
   refine .inl ⟨rfl,by simpa using hv,fun e=> ?_⟩
   rw [if_pos e] at hs
   cases hs
  ·rw [if_neg (by omega),if_pos rfl] at hs
   refine .inr (.inl ⟨rfl,by simpa using hv,fun e=> ?_⟩)
   rw [if_pos e] at hs
   cases hs
  ·rw [if_neg (by omega),if_neg (by omega)] at hs
   refine .inr (.inr ⟨rfl,by simpa using hv,fun e=> ?_⟩)
   rw [if_pos e] at hs
   cases hs
end
end
section
set_option exponentiation.threshold 3000
open Go.RowKit
def u16T (v:Nat):List UInt8:=[92,117]++hexB hexD [(v/256).toUInt8,v.toUInt8]
def escT (q b:UInt8):List UInt8:=
 if b=9 then [92,116] else if b=10 then [92,110] else if b=13 then [92,114] else if b=92∨b=q then [92,b]
 else if 32≤b.toNat∧b.toNat≤126 then [b] else u16T b.toNat
def runeT (c:Nat):List UInt8:=if c<65536 then u16T c else u16T (55296+(c-65536)/1024)++u16T (56320+(c-65536)%1024)
def txtE (q:UInt8):Nat→List UInt8→List UInt8
 |0,_=>[]
 |_+1,[]=>[]
 |n+1,b::l=>if b.toNat<128 then escT q b++txtE q n l else runeT (Lib.decodeL (b::l)).1++txtE q n ((b::l).drop (Lib.decodeL (b::l)).2)
def qT (q:UInt8) (l:List UInt8):List UInt8:=q::(txtE q l.length l++[q])
theorem u16T_length (v:Nat):(u16T v).length=6:=by simp [u16T,hexB]
theorem escT_length (q b:UInt8):(escT q b).length≤6:=by
 unfold escT
 repeat' split
 all_goals first|(rw [u16T_length];omega)|simp
theorem runeT_length (c:Nat):(runeT c).length≤12:=by
 unfold runeT
 split<;>simp [u16T_length]
theorem txtE_length (q:UInt8): ∀(n:Nat) (l:List UInt8),(txtE q n l).length≤12*l.length
 |0,l=>by simp [txtE]
 |n+1,[]=>by simp [txtE]
 |n+1,b::l=>by
  rw [txtE]
  split
  ·have h1:=escT_length q b
   have h2:=txtE_length q n l
   rw [List.length_append,List.length_cons]
   omega
  ·have h1:=runeT_length (Lib.decodeL (b::l)).1
   have h2:=txtE_length q n ((b::l).drop (Lib.decodeL (b::l)).2)
   have h3:=Lib.decodeL_width (b::l)
   rw [List.length_append]
   rw [List.length_drop,List.length_cons] at h2
   rw [List.length_cons]
   omega
theorem qT_length (q:UInt8) (l:List UInt8):(qT q l).length≤12*l.length+2:=by
 have:=txtE_length q l.length l
 simp [qT]
 omega
def catS:List Tr→List UInt8
 |[]=>[]
 | .str _ b::l=>b++catS l
 |_::l=>catS l
def bigN (n:Nat) (b:List UInt8):List UInt8:=if n=2 then dec (be b) else 45::dec (be b+1)
def bigR (n:Nat):Tr→R
 | .str false b=>txt (bigN n b)
 | .chk false l=>txt (bigN n (catS l))
 |_=>([],some 17)
def ntM (M:Md) (by_:List UInt8→List UInt8):Nt:=⟨by_,fun b=>if Lib.validD b=true then txt (qT 34 b) else ([],some 10),fT M.pr,bigR⟩
noncomputable def wfR (L:Lim) (xs:List UInt8) (off:Nat):Except Nat (Nat×Nat):=Classical.choose (Classical.choose_spec ((wf_total L xs _ off (Nat.le_refl _)).1 0))
theorem wfR_spec (L:Lim) (xs:List UInt8) (off:Nat): ∃f,wfI L xs f off 0=some (wfR L xs off):=⟨_,Classical.choose_spec (Classical.choose_spec ((wf_total L xs _ off (Nat.le_refl _)).1 0))⟩
theorem wfI_det {L:Lim} {xs:List UInt8} {f g off dep:Nat} {r s:Except Nat (Nat×Nat)} (h:wfI L xs f off dep=some r) (k:wfI L xs g off dep=some s):r=s:=by
 have h1:=(wf_le L xs (Nat.le_max_left f g)).1 _ _ _ h
 have h2:=(wf_le L xs (Nat.le_max_right f g)).1 _ _ _ k
 rw [h1] at h2
 exact Option.some.inj h2
theorem wfR_eq {L:Lim} {xs:List UInt8} {f off:Nat} {r:Except Nat (Nat×Nat)} (h:wfI L xs f off 0=some r):wfR L xs off=r:=by
 obtain ⟨g,hg⟩:=wfR_spec L xs off
 exact wfI_det hg h
noncomputable def itemR (L:Lim) (xs:List UInt8) (off:Nat):Except Nat (Tr×Nat):=
 match wfR L xs off with
 | .error k=> .error k
 | .ok _=>match treeF xs (2*L.nest+3) off with
  |some q=> .ok q
  |none=> .error 0
theorem itemR_of {L:Lim} {xs:List UInt8} {off o:Nat} {t:Tr} (hel:L.el≤2147483647) (hpa:L.pa≤2147483647) (h:Enc xs t off o) (hf:t.fits L) (hd:t.dp≤L.nest):itemR L xs off= .ok (t,o):=by
 obtain ⟨f,hw⟩:=wf_item L xs hel hpa t off o 0 h hf (by omega)
 have h1:=wfR_eq hw
 have h2:=ht_dp t
 have h3:=enc_tree t (2*L.nest+3) off o h (by split at h2<;>omega)
 unfold itemR
 rw [h1,h3]
theorem itemR_ok {L:Lim} {xs:List UInt8} {off o:Nat} {t:Tr} (hlen:xs.length≤1099511627776) (h:itemR L xs off= .ok (t,o)):Enc xs t off o∧t.fits L∧t.dp≤L.nest∧ ∃f D,wfI L xs f off 0=some (.ok (D,o)):=by
 obtain ⟨g,hg⟩:=wfR_spec L xs off
 unfold itemR at h
 cases hw:wfR L xs off with
 |error k=>rw [hw] at h;cases h
 |ok q=>
  obtain ⟨D,o2⟩:=q
  rw [hw] at h hg
  obtain ⟨t2,e1,e2,e3,e4⟩:=(wf_enc L xs g).1 off 0 D o2 (Nat.zero_le _) hg
  have h2:=ht_dp t2
  have h3:=enc_tree t2 (2*L.nest+3) off o2 e1 (by split at h2<;>omega)
  rw [h3] at h
  injection h with h
  injection h with a b
  subst a b
  exact ⟨e1,e2,by omega,g,D,hg⟩
theorem itemR_err {L:Lim} {xs:List UInt8} {off k:Nat} (h:itemR L xs off= .error k): ∃f,wfI L xs f off 0=some (.error k):=by
 obtain ⟨g,hg⟩:=wfR_spec L xs off
 unfold itemR at h
 cases hw:wfR L xs off with
 |error k2=>
  rw [hw] at h hg
  injection h with h
  subst h
  exact ⟨g,hg⟩
 |ok q=>
  obtain ⟨D,o2⟩:=q
  rw [hw] at h hg
  obtain ⟨t2,e1,e2,e3,e4⟩:=(wf_enc L xs g).1 off 0 D o2 (Nat.zero_le _) hg
  have h2:=ht_dp t2
  have h3:=enc_tree t2 (2*L.nest+3) off o2 e1 (by split at h2<;>omega)
  rw [h3] at h
  cases h
noncomputable def seqF (L:Lim) (N:Nt) (xs:List UInt8):Nat→Bool→Nat→R
 |0,_,_=>([],some 0)
 |n+1,first,off=>if xs.length≤off then (if first then ([],some 1) else ([],none)) else match itemR L xs off with
  | .error k=>([],some k)
  | .ok (t,o)=>thenR (txt (if first then [] else [44,32])) (thenR (note N t) (seqF L N xs n false o))
noncomputable def seqR (L:Lim) (N:Nt) (xs:List UInt8):R:=seqF L N xs (xs.length+1) true 0
noncomputable def byF (L:Lim) (M:Md):Nat→List UInt8→List UInt8
 |0,b=>if b≠[]∧M.tx=true∧Lib.validD b=true then qT 39 b else noteB M.enc M.sp b
 |n+1,b=>if b≠[]∧M.tx=true∧Lib.validD b=true then qT 39 b
  else if b≠[]∧M.em=true∧(seqR L (ntM M (byF L M n)) b).2=none then [60,60]++((seqR L (ntM M (byF L M n)) b).1++[62,62])
  else noteB M.enc M.sp b
noncomputable def byA (L:Lim) (M:Md) (b:List UInt8):List UInt8:=byF L M b.length b
noncomputable def ntA (L:Lim) (M:Md):Nt:=ntM M (byA L M)
noncomputable def oneR (L:Lim) (N:Nt) (xs:List UInt8):R:=
 if xs=[] then ([],some 1) else match itemR L xs 0 with
  | .error k=>([],some k)
  | .ok (t,o)=>if o=xs.length then note N t else ([],some 4)
noncomputable def diagR (L:Lim) (M:Md) (sq:Bool) (xs:List UInt8):R:=if sq then seqR L (ntA L M) xs else oneR L (ntA L M) xs
mutual
def AllS (p:List UInt8→Prop):Tr→Prop
 | .str false b=>p b
 | .chk _ l=>AllSs p l
 | .arr _ l=>AllSs p l
 | .map _ l=>AllSs p l
 | .tag _ t=>AllS p t
 |_=>True
def AllSs (p:List UInt8→Prop):List Tr→Prop
 |[]=>True
 |t::l=>AllS p t∧AllSs p l
end
mutual
theorem note_congr {N N':Nt} (h1:N.tx=N'.tx) (h2:N.fl=N'.fl) (h3:N.big=N'.big): ∀t:Tr,AllS (fun b=>N.by_ b=N'.by_ b) t→note N t=note N' t
 | .int false _,_=>by rw [note,note]
 | .int true _,_=>by rw [note,note]
 | .str false b,h=>by rw [AllS] at h;rw [note,note,h]
 | .str true b,_=>by rw [note,note,h1]
 | .chk tx [],h=>by rw [note,note]
 | .chk tx (t::l),h=>by
  rw [AllS,AllSs] at h
  rw [note,note,note_congr h1 h2 h3 t h.1,notes_congr h1 h2 h3 l h.2]
 | .arr o l,h=>by rw [AllS] at h;rw [note,note,notes_congr h1 h2 h3 l h]
 | .map o l,h=>by rw [AllS] at h;rw [note,note,notes_congr h1 h2 h3 l h]
 | .tag n t,h=>by rw [AllS] at h;rw [note,note,note_congr h1 h2 h3 t h,h3]
 | .prim ai v,_=>by rw [note,note,h2]
theorem notes_congr {N N':Nt} (h1:N.tx=N'.tx) (h2:N.fl=N'.fl) (h3:N.big=N'.big): ∀l:List Tr,AllSs (fun b=>N.by_ b=N'.by_ b) l→notes N l=notes N' l
 |[],_=>by rw [notes,notes]
 |t::l,h=>by
  rw [AllSs] at h
  rw [notes,notes,note_congr h1 h2 h3 t h.1,notes_congr h1 h2 h3 l h.2]
end
mutual
theorem enc_strs {xs:List UInt8}: ∀(t:Tr) (off o:Nat),Enc xs t off o→AllS (fun b=>b.length<xs.length∧ ∃q,b=(xs.drop q).take b.length∧q+b.length≤xs.length) t
 | .int _ _,off,o,h=>by rw [AllS]<;>simp
 | .str true _,off,o,h=>by rw [AllS]<;>simp
 | .str false b,off,o,h=>by
  rw [AllS]
  rw [Enc] at h
  obtain ⟨ai,v,o1,h,_,hv,_,rfl,hb⟩:=h
  have hl:b.length=v:=by rw [hb];simp;omega
  have:=(hd_off h).1
  exact ⟨by omega,o1,by rw [hl];exact hb,by omega⟩
 | .chk tx l,off,o,h=>by
  rw [Enc] at h
  obtain ⟨v,o1,h,hc⟩:=h
  rw [AllS]
  exact chunks_strs tx l _ _ hc
 | .arr false l,off,o,h=>by
  rw [Enc] at h
  obtain ⟨ai,o1,h,h31,hc⟩:=h
  rw [AllS]
  exact encs_strs l _ _ hc
 | .arr true l,off,o,h=>by
  rw [Enc] at h
  obtain ⟨v,o1,h,hc⟩:=h
  rw [AllS]
  exact opens_strs l _ _ hc
 | .map false l,off,o,h=>by
  rw [Enc] at h
  obtain ⟨ai,v,o1,h,h31,hv,hc⟩:=h
  rw [AllS]
  exact encs_strs l _ _ hc
 | .map true l,off,o,h=>by
  rw [Enc] at h
  obtain ⟨v,o1,h,h2,hc⟩:=h
  rw [AllS]
  exact opens_strs l _ _ hc
 | .tag n t,off,o,h=>by
  rw [Enc] at h
  obtain ⟨ai,o1,h,hc⟩:=h
  rw [AllS]
  exact enc_strs t _ _ hc
 | .prim ai v,off,o,h=>by rw [AllS]<;>simp
theorem encs_strs {xs:List UInt8}: ∀(l:List Tr) (off o:Nat),Encs xs l off o→AllSs (fun b=>b.length<xs.length∧ ∃q,b=(xs.drop q).take b.length∧q+b.length≤xs.length) l
 |[],off,o,h=>by rw [AllSs];trivial
 |t::l,off,o,h=>by
  rw [Encs] at h
  obtain ⟨mid,h1,h2⟩:=h
  rw [AllSs]
  exact ⟨enc_strs t _ _ h1,encs_strs l _ _ h2⟩
theorem opens_strs {xs:List UInt8}: ∀(l:List Tr) (off o:Nat),Opens xs l off o→AllSs (fun b=>b.length<xs.length∧ ∃q,b=(xs.drop q).take b.length∧q+b.length≤xs.length) l
 |[],off,o,h=>by rw [AllSs];trivial
 |t::l,off,o,h=>by
  rw [Opens] at h
  obtain ⟨b,mid,_,_,h1,h2⟩:=h
  rw [AllSs]
  exact ⟨enc_strs t _ _ h1,opens_strs l _ _ h2⟩
theorem chunks_strs {xs:List UInt8} (tx:Bool): ∀(l:List Tr) (off o:Nat),Chunks xs tx l off o→AllSs (fun b=>b.length<xs.length∧ ∃q,b=(xs.drop q).take b.length∧q+b.length≤xs.length) l
 |[],off,o,h=>by rw [AllSs];trivial
 |t::l,off,o,h=>by
  rw [Chunks] at h
  obtain ⟨b,mid,_,_,_,h1,h2⟩:=h
  rw [AllSs]
  exact ⟨enc_strs t _ _ h1,chunks_strs tx l _ _ h2⟩
end
mutual
theorem AllS.imp {p q:List UInt8→Prop} (h: ∀b,p b→q b): ∀t:Tr,AllS p t→AllS q t
 | .int _ _,_=>by rw [AllS]<;>simp
 | .str true _,_=>by rw [AllS]<;>simp
 | .str false b,k=>by rw [AllS] at k ⊢;exact h b k
 | .chk _ l,k=>by rw [AllS] at k ⊢;exact AllSs.imp h l k
 | .arr _ l,k=>by rw [AllS] at k ⊢;exact AllSs.imp h l k
 | .map _ l,k=>by rw [AllS] at k ⊢;exact AllSs.imp h l k
 | .tag _ t,k=>by rw [AllS] at k ⊢;exact AllS.imp h t k
 | .prim _ _,_=>by rw [AllS]<;>simp
theorem AllSs.imp {p q:List UInt8→Prop} (h: ∀b,p b→q b): ∀l:List Tr,AllSs p l→AllSs q l
 |[],_=>by rw [AllSs];trivial
 |t::l,k=>by rw [AllSs] at k ⊢;exact ⟨AllS.imp h t k.1,AllSs.imp h l k.2⟩
end
theorem seqF_congr {L:Lim} {N N':Nt} {xs:List UInt8} (hlen:xs.length≤1099511627776) (h1:N.tx=N'.tx) (h2:N.fl=N'.fl) (h3:N.big=N'.big) (hb: ∀b:List UInt8,b.length<xs.length→N.by_ b=N'.by_ b): ∀n first off,seqF L N xs n first off=seqF L N' xs n first off
 |0,_,_=>rfl
 |n+1,first,off=>by
  rw [seqF,seqF]
  split
  ·rfl
  ·cases hi:itemR L xs off with
   |error k=>rfl
   |ok q=>
    obtain ⟨t,o⟩:=q
    dsimp only
    have he:=(itemR_ok hlen hi).1
    rw [note_congr h1 h2 h3 t ((enc_strs t off o he).imp (fun b hbb=>hb b hbb.1) t),seqF_congr hlen h1 h2 h3 hb n false o]
theorem byF_stable {L:Lim} {M:Md}: ∀n (b:List UInt8),b.length≤1099511627776→b.length≤n→ ∀m,b.length≤m→byF L M n b=byF L M m b:=by
 intro n
 induction n with
 |zero=>
  intro b hlen h m hm
  have h0:b=[]:=List.eq_nil_of_length_eq_zero (by omega)
  subst h0
  cases m<;>simp [byF]
 |succ n ih=>
  intro b hlen h m hm
  cases m with
  |zero=>
   have h0:b=[]:=List.eq_nil_of_length_eq_zero (by omega)
   subst h0
   simp [byF]
  |succ m=>
   have:seqR L (ntM M (byF L M n)) b=seqR L (ntM M (byF L M m)) b:=by
    unfold seqR
    exact seqF_congr (N:=ntM M (byF L M n)) (N':=ntM M (byF L M m)) hlen rfl rfl rfl (fun c hc=>ih c (by omega) (by omega) m (by omega)) _ _ _
   rw [byF,byF,this]
theorem byA_eq (L:Lim) (M:Md) (b:List UInt8) (hlen:b.length≤1099511627776):byA L M b=if b≠[]∧M.tx=true∧Lib.validD b=true then qT 39 b
  else if b≠[]∧M.em=true∧(seqR L (ntA L M) b).2=none then [60,60]++((seqR L (ntA L M) b).1++[62,62]) else noteB M.enc M.sp b:=by
 unfold byA
 cases hb:b.length with
 |zero=>
  have h0:b=[]:=List.eq_nil_of_length_eq_zero hb
  subst h0
  simp [byF]
 |succ n=>
  have:seqR L (ntM M (byF L M n)) b=seqR L (ntA L M) b:=by
   unfold seqR ntA
   exact seqF_congr (N:=ntM M (byF L M n)) (N':=ntM M (byA L M)) hlen rfl rfl rfl (fun c hc=>byF_stable n c (by omega) (by omega) _ (Nat.le_refl _)) _ _ _
  rw [byF,this]
end
section
set_option exponentiation.threshold 3000
open Go.RowKit
def CC:Nat:=4000000
def sumR:List R→Nat
 |[]=>0
 |r::l=>r.1.length+2+sumR l
theorem thenR_len (a b:R):(thenR a b).1.length≤a.1.length+b.1.length:=by
 obtain ⟨s,q⟩:=a
 cases q<;>simp [thenR]
theorem txt_len (s:List UInt8):(txt s).1.length=s.length:=rfl
theorem arrR_len (c:List UInt8): ∀(l:List R) (i:Nat),(arrR c i l).1.length≤c.length+sumR l
 |[],i=>by rw [arrR,txt_len];omega
 |r::l,i=>by
  have h1:=arrR_len c l (i+1)
  have h2:=thenR_len (txt (if i=0 then [] else [44,32])) (thenR r (arrR c (i+1) l))
  have h3:=thenR_len r (arrR c (i+1) l)
  have h4:(txt (if i=0 then [] else [44,32])).1.length≤2:=by rw [txt_len];split<;>simp
  rw [arrR,sumR]
  omega
theorem mapR_len (c:List UInt8): ∀(l:List R) (i:Nat),(mapR c i (pairs l)).1.length≤c.length+sumR l
 |[],i=>by show (mapR c i []).1.length≤_;rw [mapR,txt_len];omega
 |[a],i=>by show (mapR c i []).1.length≤_;rw [mapR,txt_len];omega
 |a::b::l,i=>by
  have h1:=mapR_len c l (i+1)
  rw [pairs,mapR,sumR,sumR]
  have h2:=thenR_len (txt (if i=0 then [] else [44,32])) (thenR a (thenR (txt [58,32]) (thenR b (mapR c (i+1) (pairs l)))))
  have h3:=thenR_len a (thenR (txt [58,32]) (thenR b (mapR c (i+1) (pairs l))))
  have h4:=thenR_len (txt [58,32]) (thenR b (mapR c (i+1) (pairs l)))
  have h5:=thenR_len b (mapR c (i+1) (pairs l))
  have h6:(txt (if i=0 then [] else [44,32])).1.length≤2:=by rw [txt_len];split<;>simp
  have h7:(txt [58,32]).1.length=2:=rfl
  omega
theorem hd_ai {xs:List UInt8} {off m ai v o:Nat} (h:hd xs off= .ok (m,ai,v,o)) (h1:24≤ai) (h2:ai<28):v<256^2^(ai-24):=by
 unfold hd at h
 split at h
 ·cases h
 ·rename_i b e
  split at h
  ·cases h;omega
  ·split at h
   ·split at h
    ·cases h
    ·split at h
     ·cases h
     ·cases h
      have:=be_lt ((xs.drop (off+1)).take (2^(b.toNat%32-24)))
      refine Nat.lt_of_lt_of_le this (Nat.pow_le_pow_right (by decide) ?_)
      rw [List.length_take]
      omega
   ·split at h
    ·split at h
     ·cases h
     ·cases h;omega
    ·cases h
theorem hd_fl {xs:List UInt8} {off m ai v o:Nat} (h:hd xs off= .ok (m,ai,v,o)) (ha:ai=25∨ai=26∨ai=27):v<if ai=25 then 65536 else if ai=26 then 4294967296 else 18446744073709551616:=by
 have:=hd_ai h (by omega) (by omega)
 rcases ha with rfl|rfl|rfl
 ·exact this
 ·exact this
 ·exact this
structure NLen (N:Nt):Prop where
 tx: ∀b,(N.tx b).1.length+2≤CC*(b.length+1)
 fl: ∀ai v,(ai=25∨ai=26∨ai=27)→(v<if ai=25 then 65536 else if ai=26 then 4294967296 else 18446744073709551616)→(N.fl ai v).length+2≤CC
 big: ∀xs n t off o,Enc xs t off o→(N.big n t).1.length+2≤CC*(o-off)
theorem dec20 {n:Nat} (h:n<18446744073709551616):(dec n).length≤20:=dec_length n 20 (by omega) (by omega)
mutual
theorem note_len {xs:List UInt8} {N:Nt} (hN:NLen N): ∀(t:Tr) (off o:Nat),Enc xs t off o→AllS (fun b=>(N.by_ b).length+2≤CC*(b.length+1)) t→(note N t).1.length+2≤CC*(o-off)
 | .int false n,off,o,h,hs=>by
  rw [Enc] at h
  obtain ⟨ai,h⟩:=h
  have h1:=(hd_off h).1
  have h2:=dec20 (hd_val h).1
  have h3:CC*1≤CC*(o-off):=Nat.mul_le_mul_left _ (by omega)
  unfold CC at *
  rw [note,txt_len]
  omega
 | .int true n,off,o,h,hs=>by
  rw [Enc] at h
  obtain ⟨ai,h⟩:=h
  have h1:=(hd_off h).1
  have h2:=(hd_val h).1
  have h4:=dec_length (n+1) 20 (by omega) (by omega)
  have h3:CC*1≤CC*(o-off):=Nat.mul_le_mul_left _ (by omega)
  unfold CC at *
  rw [note,txt_len,List.length_cons]
  omega
 | .str false b,off,o,h,hs=>by
  rw [AllS] at hs
  rw [Enc] at h
  obtain ⟨ai,v,o1,h,_,hv,_,rfl,hb⟩:=h
  have hl:b.length=v:=by rw [hb];simp;omega
  have h1:=(hd_off h).1
  have h3:CC*(b.length+1)≤CC*(o1+v-off):=Nat.mul_le_mul_left _ (by omega)
  rw [note,txt_len]
  omega
 | .str true b,off,o,h,hs=>by
  rw [Enc] at h
  obtain ⟨ai,v,o1,h,_,hv,_,rfl,hb⟩:=h
  have hl:b.length=v:=by rw [hb];simp;omega
  have h1:=(hd_off h).1
  have h3:CC*(b.length+1)≤CC*(o1+v-off):=Nat.mul_le_mul_left _ (by omega)
  have:=hN.tx b
  rw [note]
  omega
 | .chk tx [],off,o,h,hs=>by
  rw [Enc] at h
  obtain ⟨v,o1,h,hc⟩:=h
  have h1:=(hd_off h).1
  have h2:=chunks_off tx [] _ _ hc
  have h3:CC*1≤CC*(o-off):=Nat.mul_le_mul_left _ (by simp at h2;omega)
  unfold CC at *
  rw [note,txt_len]
  split<;>(simp;omega)
 | .chk tx (t::l),off,o,h,hs=>by
  rw [Enc] at h
  obtain ⟨v,o1,h,hc⟩:=h
  have h1:=(hd_off h).1
  rw [AllS] at hs
  have h4:=chunks_len hN tx (t::l) _ _ hc hs
  rw [notes] at h4
  have h2:=chunks_off tx (t::l) _ _ hc
  have h5:=thenR_len (txt [40,95,32]) (arrR [41] 0 (note N t::notes N l))
  have h6:=arrR_len [41] (note N t::notes N l) 0
  have h7:(txt [40,95,32]).1.length=3:=rfl
  have h8:([41]:List UInt8).length=1:=rfl
  have h9:CC*(o-o1)+CC*1≤CC*(o-off):=by rw [←Nat.mul_add];exact Nat.mul_le_mul_left _ (by omega)
  unfold CC at *
  rw [note]
  omega
 | .arr false l,off,o,h,hs=>by
  rw [Enc] at h
  obtain ⟨ai,o1,h,h31,hc⟩:=h
  have h1:=(hd_off h).1
  rw [AllS] at hs
  have h4:=encs_len hN l _ _ hc (hd_val h).2 hs
  have h2:=encs_off l _ _ hc (hd_val h).2
  have h5:=thenR_len (txt (if false=true then [91,95,32] else [91])) (arrR [93] 0 (notes N l))
  have h6:=arrR_len [93] (notes N l) 0
  have h7:(txt (if false=true then [91,95,32] else [91])).1.length=1:=rfl
  have h8:([93]:List UInt8).length=1:=rfl
  have h9:CC*(o-o1)+CC*1≤CC*(o-off):=by rw [←Nat.mul_add];exact Nat.mul_le_mul_left _ (by omega)
  unfold CC at *
  rw [note]
  omega
 | .arr true l,off,o,h,hs=>by
  rw [Enc] at h
  obtain ⟨v,o1,h,hc⟩:=h
  have h1:=(hd_off h).1
  rw [AllS] at hs
  have h4:=opens_len hN l _ _ hc hs
  have h2:=opens_off l _ _ hc
  have h5:=thenR_len (txt (if true=true then [91,95,32] else [91])) (arrR [93] 0 (notes N l))
  have h6:=arrR_len [93] (notes N l) 0
  have h7:(txt (if true=true then [91,95,32] else [91])).1.length=3:=rfl
  have h8:([93]:List UInt8).length=1:=rfl
  have h9:CC*(o-o1)+CC*1≤CC*(o-off):=by rw [←Nat.mul_add];exact Nat.mul_le_mul_left _ (by omega)
  unfold CC at *
  rw [note]
  omega
 | .map false l,off,o,h,hs=>by
  rw [Enc] at h
  obtain ⟨ai,v,o1,h,h31,hv,hc⟩:=h
  have h1:=(hd_off h).1
  rw [AllS] at hs
  have h4:=encs_len hN l _ _ hc (hd_val h).2 hs
  have h2:=encs_off l _ _ hc (hd_val h).2
  have h5:=thenR_len (txt (if false=true then [123,95,32] else [123])) (mapR [125] 0 (pairs (notes N l)))
  have h6:=mapR_len [125] (notes N l) 0
  have h7:(txt (if false=true then [123,95,32] else [123])).1.length=1:=rfl
  have h8:([125]:List UInt8).length=1:=rfl
  have h9:CC*(o-o1)+CC*1≤CC*(o-off):=by rw [←Nat.mul_add];exact Nat.mul_le_mul_left _ (by omega)
  unfold CC at *
  rw [note]
  omega
 | .map true l,off,o,h,hs=>by
  rw [Enc] at h
  obtain ⟨v,o1,h,h2l,hc⟩:=h
  have h1:=(hd_off h).1
  rw [AllS] at hs
  have h4:=opens_len hN l _ _ hc hs
  have h2:=opens_off l _ _ hc
  have h5:=thenR_len (txt (if true=true then [123,95,32] else [123])) (mapR [125] 0 (pairs (notes N l)))
  have h6:=mapR_len [125] (notes N l) 0
  have h7:(txt (if true=true then [123,95,32] else [123])).1.length=3:=rfl
  have h8:([125]:List UInt8).length=1:=rfl
  have h9:CC*(o-o1)+CC*1≤CC*(o-off):=by rw [←Nat.mul_add];exact Nat.mul_le_mul_left _ (by omega)
  unfold CC at *
  rw [note]
  omega
 | .tag n t,off,o,h,hs=>by
  rw [Enc] at h
  obtain ⟨ai,o1,h,hc⟩:=h
  have h1:=(hd_off h).1
  rw [AllS] at hs
  have h2:=enc_off t _ _ hc
  have h9:CC*(o-o1)+CC*1≤CC*(o-off):=by rw [←Nat.mul_add];exact Nat.mul_le_mul_left _ (by omega)
  rw [note]
  split
  ·have:=hN.big xs n t o1 o hc
   omega
  ·have h4:=note_len hN t _ _ hc hs
   have h3:=dec20 (hd_val h).1
   have h5:=thenR_len (txt (dec n)) (thenR (txt [40]) (thenR (note N t) (txt [41])))
   have h6:=thenR_len (txt [40]) (thenR (note N t) (txt [41]))
   have h7:=thenR_len (note N t) (txt [41])
   have h8:(txt [40]).1.length=1:=rfl
   have h10:(txt [41]).1.length=1:=rfl
   rw [txt_len] at h5
   unfold CC at *
   omega
 | .prim ai v,off,o,h,hs=>by
  rw [Enc] at h
  have h1:=(hd_off h).1
  have h3:=dec20 (hd_val h).1
  have h9:CC*1≤CC*(o-off):=Nat.mul_le_mul_left _ (by omega)
  rw [note]
  unfold primT
  split
  ·rw [txt_len];unfold CC at *;simp;omega
  ·split
   ·rw [txt_len];unfold CC at *;simp;omega
   ·split
    ·rw [txt_len];unfold CC at *;simp;omega
    ·split
     ·rw [txt_len];unfold CC at *;simp;omega
     ·split
      ·rename_i ha
       have:=hN.fl ai v ha (hd_fl h ha)
       rw [txt_len]
       omega
      ·have h5:=thenR_len (txt [115,105,109,112,108,101,40]) (thenR (txt (dec v)) (txt [41]))
       have h6:=thenR_len (txt (dec v)) (txt [41])
       have h7:(txt [115,105,109,112,108,101,40]).1.length=7:=rfl
       have h8:(txt [41]).1.length=1:=rfl
       rw [txt_len] at h6
       unfold CC at *
       omega
theorem encs_len {xs:List UInt8} {N:Nt} (hN:NLen N): ∀(l:List Tr) (off o:Nat),Encs xs l off o→off≤xs.length→AllSs (fun b=>(N.by_ b).length+2≤CC*(b.length+1)) l→sumR (notes N l)≤CC*(o-off)
 |[],off,o,h,_,hs=>by rw [notes,sumR];omega
 |t::l,off,o,h,hx,hs=>by
  rw [Encs] at h
  rw [AllSs] at hs
  obtain ⟨mid,h1,h2⟩:=h
  have e1:=enc_off t _ _ h1
  have e2:=encs_off l _ _ h2 e1.2
  have g1:=note_len hN t _ _ h1 hs.1
  have g2:=encs_len hN l _ _ h2 e1.2 hs.2
  have h9:CC*(mid-off)+CC*(o-mid)=CC*(o-off):=by rw [←Nat.mul_add];congr 1;omega
  rw [notes,sumR]
  omega
theorem opens_len {xs:List UInt8} {N:Nt} (hN:NLen N): ∀(l:List Tr) (off o:Nat),Opens xs l off o→AllSs (fun b=>(N.by_ b).length+2≤CC*(b.length+1)) l→sumR (notes N l)≤CC*(o-off)
 |[],off,o,h,hs=>by rw [notes,sumR];omega
 |t::l,off,o,h,hs=>by
  rw [Opens] at h
  rw [AllSs] at hs
  obtain ⟨b,mid,_,_,h1,h2⟩:=h
  have e1:=enc_off t _ _ h1
  have e2:=opens_off l _ _ h2
  have g1:=note_len hN t _ _ h1 hs.1
  have g2:=opens_len hN l _ _ h2 hs.2
  have h9:CC*(mid-off)+CC*(o-mid)=CC*(o-off):=by rw [←Nat.mul_add];congr 1;omega
  rw [notes,sumR]
  omega
theorem chunks_len {xs:List UInt8} {N:Nt} (hN:NLen N) (tx:Bool): ∀(l:List Tr) (off o:Nat),Chunks xs tx l off o→AllSs (fun b=>(N.by_ b).length+2≤CC*(b.length+1)) l→sumR (notes N l)≤CC*(o-off)
 |[],off,o,h,hs=>by rw [notes,sumR];omega
 |t::l,off,o,h,hs=>by
  rw [Chunks] at h
  rw [AllSs] at hs
  obtain ⟨b,mid,_,_,_,h1,h2⟩:=h
  have e1:=enc_off t _ _ h1
  have e2:=chunks_off tx l _ _ h2
  have g1:=note_len hN t _ _ h1 hs.1
  have g2:=chunks_len hN tx l _ _ h2 hs.2
  have h9:CC*(mid-off)+CC*(o-mid)=CC*(o-off):=by rw [←Nat.mul_add];congr 1;omega
  rw [notes,sumR]
  omega
end
theorem dec_be (b:List UInt8):(dec (be b)).length≤3*b.length+1∧(dec (be b+1)).length≤3*b.length+1:=by
 have h:=be_lt b
 have h2:256^b.length≤10^(3*b.length):=by
  rw [Nat.pow_mul]
  exact Nat.pow_le_pow_left (by decide) _
 have h3:(10:Nat)^(3*b.length)<10^(3*b.length+1):=Nat.pow_lt_pow_right (by decide) (by omega)
 exact ⟨dec_length _ _ (by omega) (by omega),dec_length _ _ (by omega) (by omega)⟩
theorem bigN_len (n:Nat) (b:List UInt8):(bigN n b).length≤3*b.length+2:=by
 have:=dec_be b
 unfold bigN
 split
 ·omega
 ·rw [List.length_cons];omega
theorem catS_len {xs:List UInt8} (tx:Bool): ∀(l:List Tr) (off o:Nat),Chunks xs tx l off o→(catS l).length≤o-off
 |[],off,o,h=>by simp [catS]
 |t::l,off,o,h=>by
  rw [Chunks] at h
  obtain ⟨b,mid,_,_,⟨s,rfl⟩,h1,h2⟩:=h
  have g2:=catS_len tx l _ _ h2
  have e2:=chunks_off tx l _ _ h2
  rw [Enc] at h1
  obtain ⟨ai,v,o1,h,_,hv,_,rfl,hb⟩:=h1
  have hl:s.length=v:=by rw [hb];simp;omega
  have h1:=(hd_off h).1
  rw [catS,List.length_append]
  omega
theorem noteB_len (enc:Nat) (sp:Bool) (b:List UInt8):(noteB enc sp b).length≤8*b.length+5:=by
 have h5:=baseB_length 5 (by decide) b32D b
 have h5':=baseB_length 5 (by decide) h32D b
 have h6:=baseB_length 6 (by decide) b64D b
 have h4:=hexB_length hexD b
 have h3:=spaced_length hexD b 0
 unfold noteB
 split
 ·simp;omega
 ·split
  ·simp;omega
  ·split
   ·simp;omega
   ·split<;>(simp;omega)
theorem fT_len (pr:Bool) (ai v:Nat) (ha:ai=25∨ai=26∨ai=27) (hv:v<if ai=25 then 65536 else if ai=26 then 4294967296 else 18446744073709551616):(fT pr ai v).length≤1000006:=by
 unfold fT
 cases hs:spO ai v with
 |some t=>
  simp only [Option.getD_some]
  have:t.length≤9:=by
   have h1:t=nanT∨t=infT∨t=ninfT:=by
    unfold spO at hs
    repeat' split at hs
    all_goals first|(cases hs;done)|(injection hs with hs;simp [←hs])
   rcases h1 with rfl|rfl|rfl<;>simp [nanT,infT,ninfT]
  omega
 |none=>
  simp only [Option.getD_none]
  have hn:numOK ai v:=by
   unfold spO at hs
   unfold numOK
   rcases ha with rfl|rfl|rfl
   ·simp only [if_true] at hs hv
    refine .inl ⟨rfl,hv,fun e=> ?_⟩
    rw [if_pos e] at hs
    cases hs
   ·rw [if_neg (by decide),if_pos rfl] at hs hv
    refine .inr (.inl ⟨rfl,hv,fun e=> ?_⟩)
    rw [if_pos e] at hs
    cases hs
   ·rw [if_neg (by decide),if_neg (by decide)] at hs hv
    refine .inr (.inr ⟨rfl,hv,fun e=> ?_⟩)
    rw [if_pos e] at hs
    cases hs
  have h1:=(fltB_len (wbits ai v) (wbits_fin hn).2.1).2
  have h2:(precT pr ai).length≤2:=by unfold precT;split<;>simp
  rw [List.length_append]
  omega
theorem ntM_len (M:Md) (f:List UInt8→List UInt8):NLen (ntM M f):=by
 refine ⟨fun b=> ?_,fun ai v ha hv=> ?_,fun xs n t off o h=> ?_⟩
 ·show (if Lib.validD b=true then txt (qT 34 b) else (([],some 10):R)).1.length+2≤_
  have h1:=qT_length 34 b
  have h2:CC*1≤CC*(b.length+1):=Nat.mul_le_mul_left _ (by omega)
  split
  ·rw [txt_len]
   unfold CC at *
   omega
  ·unfold CC at *
   simp
   omega
 ·have:=fT_len M.pr ai v ha hv
  show (fT M.pr ai v).length+2≤CC
  unfold CC
  omega
 ·show (bigR n t).1.length+2≤_
  have e:=enc_off t _ _ h
  have h2:CC*1≤CC*(o-off):=Nat.mul_le_mul_left _ (by omega)
  unfold bigR
  split
  ·rename_i b
   rw [Enc] at h
   obtain ⟨ai,v,o1,h,_,hv,_,rfl,hb⟩:=h
   have hl:b.length=v:=by rw [hb];simp;omega
   have h1:=(hd_off h).1
   have:=bigN_len n b
   rw [txt_len]
   have h3:CC*(v+1)≤CC*(o1+v-off):=Nat.mul_le_mul_left _ (by omega)
   unfold CC at *
   omega
  ·rename_i l
   rw [Enc] at h
   obtain ⟨v,o1,h,hc⟩:=h
   have h1:=(hd_off h).1
   have:=bigN_len n (catS l)
   have h4:=catS_len false l _ _ hc
   have h5:=chunks_off false l _ _ hc
   rw [txt_len]
   have h3:CC*((catS l).length+1)≤CC*(o-off):=Nat.mul_le_mul_left _ (by omega)
   unfold CC at *
   omega
  ·unfold CC at *
   simp
   omega
theorem seqF_len {L:Lim} {N:Nt} (hN:NLen N) {xs:List UInt8} (hlen:xs.length≤1099511627776) (hb: ∀b:List UInt8,b.length<xs.length→(N.by_ b).length+2≤CC*(b.length+1)): ∀n first off,(seqF L N xs n first off).1.length≤CC*(xs.length-off)
 |0,_,_=>by simp [seqF]
 |n+1,first,off=>by
  rw [seqF]
  split
  ·split<;>simp
  ·cases hi:itemR L xs off with
   |error k=>simp
   |ok q=>
    obtain ⟨t,o⟩:=q
    dsimp only
    have he:=(itemR_ok hlen hi).1
    have e:=enc_off t _ _ he
    have h1:=note_len hN t off o he ((enc_strs t off o he).imp (fun b hbb=>hb b hbb.1) t)
    have h2:=seqF_len (L:=L) hN hlen hb n false o
    have h3:=thenR_len (txt (if first then [] else [44,32])) (thenR (note N t) (seqF L N xs n false o))
    have h4:=thenR_len (note N t) (seqF L N xs n false o)
    have h5:(txt (if first then [] else [44,32])).1.length≤2:=by rw [txt_len];split<;>simp
    have h9:CC*(o-off)+CC*(xs.length-o)=CC*(xs.length-off):=by rw [←Nat.mul_add];congr 1;omega
    omega
theorem byA_len (L:Lim) (M:Md): ∀n (b:List UInt8),b.length≤n→n≤1099511627776→(byA L M b).length+2≤CC*(b.length+1):=by
 intro n
 induction n with
 |zero=>
  intro b h _
  have h0:b=[]:=List.eq_nil_of_length_eq_zero (by omega)
  subst h0
  have:=noteB_len M.enc M.sp []
  rw [byA_eq L M [] (by simp),if_neg (by simp),if_neg (by simp)]
  unfold CC
  simp at this ⊢
  omega
 |succ n ih=>
  intro b h hn
  have h1:=noteB_len M.enc M.sp b
  have h2:=qT_length 39 b
  have h3:(seqR L (ntA L M) b).1.length≤CC*(b.length-0):=seqF_len (ntM_len _ _) (by omega) (fun c hc=>ih c (by omega) (by omega)) _ _ _
  have h9:CC*b.length+CC*1=CC*(b.length+1):=by rw [←Nat.mul_add]
  rw [byA_eq L M b (by omega)]
  rw [Nat.sub_zero] at h3
  split
  ·unfold CC at *
   omega
  ·split
   ·simp only [List.length_append,List.length_cons,List.length_nil]
    unfold CC at *
    omega
   ·unfold CC at *
    omega
theorem ntA_by (L:Lim) (M:Md) (b:List UInt8) (h:b.length≤1099511627776):((ntA L M).by_ b).length+2≤CC*(b.length+1):=byA_len L M b.length b (Nat.le_refl _) h
theorem diagR_len (L:Lim) (M:Md) (sq:Bool) (xs:List UInt8) (h:xs.length≤1099511627776):(diagR L M sq xs).1.length≤CC*xs.length:=by
 unfold diagR
 split
 ·exact seqF_len (ntM_len _ _) h (fun b hb=>ntA_by L M b (by omega)) _ _ _
 ·unfold oneR
  split
  ·simp
  ·cases hi:itemR L xs 0 with
   |error k=>simp
   |ok q=>
    obtain ⟨t,o⟩:=q
    dsimp only
    have he:=(itemR_ok h hi).1
    have e:=enc_off t _ _ he
    split
    ·have h1:=note_len (N:=ntA L M) (ntM_len _ _) t 0 o he ((enc_strs t 0 o he).imp (fun b hbb=>ntA_by L M b (by omega)) t)
     have h3:CC*(o-0)≤CC*xs.length:=Nat.mul_le_mul_left _ (by omega)
     omega
    ·simp
end
section
set_option exponentiation.threshold 3000
open Go.RowKit
section
variable {X:Cx} {off:Nat} {bs:List UInt8} {w:World}
theorem di_float (h:St X off bs w) {ai v o1:Nat} (hh:hd X.xs off= .ok (7,ai,v,o1)) (ha:ai=25∨ai=26∨ai=27) (hb:v<if ai=25 then 65536 else if ai=26 then 4294967296 else 18446744073709551616) (hlen:bs.length+(fT X.M.pr ai v).length≤room):
  Calls Tryz.prog 105 #[.pointer (some ⟨X.di,0,none⟩)] w (IPost X o1 bs (txt (fT X.M.pr ai v)) w):=by
 obtain ⟨hl,hb1,hb2⟩:=hd_byte hh
 have hv:=(hd_val hh).1
 have k1:=h.i1
 have k2:=h.i2
 have d0:=h.dec.c0
 have d1:=h.dec.c1
 have haa:=h.dec.at_ off hl
 have hm:=h.dec.len
 have KT:=fun n=>nextCBORType (h.dec.drewN n) hl
 rw [hb1] at KT
 have KH:=fun n=>getHead (h.dec.drewN n) hh
 have KF:=Hz (fun (W:World) (H:St X o1 bs W)=>encF H ha hb hlen)
 have hpost:Hid (∀(w1 w2:World) e,Gr X.B [X.d,X.wb] w w1→IPost X o1 bs (txt (fT X.M.pr ai v)) w1 e w2→IPost X o1 bs (txt (fT X.M.pr ai v)) w e w2):=Hz (fun w1 w2 e G ⟨v,o2,a,b,c,d,f⟩=>⟨v,o2,a,b,c,d,G.trans f⟩)
 generalize txt (fT X.M.pr ai v)=R at *
 replace hb:=Hz hb
 replace KT:=Hz KT
 replace KH:=Hz KH
 replace hh:=Hz hh
 have g95:((X.xs[off].toNat:Int)==95)=false:=by simp;omega
 have g127:((X.xs[off].toNat:Int)==127)=false:=by simp;omega
 have g159:((X.xs[off].toNat:Int)==159)=false:=by simp;omega
 have g191:((X.xs[off].toNat:Int)==191)=false:=by simp;omega
 generalize (X.xs[off].toNat:Int)=x0 at *
 clear hb1 hb2
 have b1:(off:Int)<(X.xs.length:Int):=by omega
 have b2:(0:Int)≤(off:Int):=by omega
 have b3:(off:Int).toNat=off:=by omega
 go_enter Tryz.func105,Tryz.ntmps105
 go_wp2
 go_quiet (fail)
 go_wp2_with fail
 refine (KT.out _).mono ?_
 rintro e w1 ⟨rfl,nm,rfl⟩
 go_wp2_with fail
 refine (KH.out _).mono ?_
 rintro e w1 ⟨rfl,hD,hf⟩
 have h1:=(h.drewN _).moved hf hD
 have G1:=h.grF (((Fr.refl [X.d] w).drewN _).trans hf)
 rcases ha with rfl|rfl|rfl
 all_goals
  go_wp2_with (go_at_call 136;refine (KF.out _ h1).mono ?_;rintro e w2 ⟨v2,o2,rfl,p1,p2,p3,p4⟩)
  go_ret
  exact hpost.out _ _ _ G1 ⟨v2,o2,rfl,p1,p2,p3,p4⟩
end
end
section
set_option exponentiation.threshold 3000
open Go.RowKit
theorem hd_err {xs:List UInt8} {off k:Nat} (h:hd xs off= .error k):k=2∨k=3:=by
 unfold hd at h
 split at h
 ·cases h;exact .inl rfl
 ·split at h
  ·cases h
  ·split at h
   ·split at h
    ·cases h;exact .inl rfl
    ·split at h
     ·cases h;exact .inr rfl
     ·cases h
   ·split at h
    ·split at h
     ·cases h;exact .inr rfl
     ·cases h
    ·cases h;exact .inr rfl
theorem joinD_err {D k:Nat} {p:Option (Except Nat (Nat×Nat))} (h:joinD D p=some (.error k)):p=some (.error k):=by
 unfold joinD at h
 split at h
 ·cases h
 ·exact h
theorem wf_err (L:Lim) (xs:List UInt8): ∀f,
  (∀off dep k,wfI L xs f off dep=some (.error k)→k≠1)∧
  (∀m off dep k,wfS L xs f m off dep=some (.error k)→k≠1)∧
  (∀m i off dep k,wfO L xs f m i off dep=some (.error k)→k≠1)∧
  (∀n off dep k,wfN L xs f n off dep=some (.error k)→k≠1)∧
  (∀off dep k,wfT L xs f off dep=some (.error k)→k≠1):=by
 intro f
 induction f with
 |zero=>simp [wfI,wfS,wfO,wfN,wfT]
 |succ f ih=>
  obtain ⟨i1,i2,i3,i4,i5⟩:=ih
  refine ⟨?_,?_,?_,?_,?_⟩
  ·intro off dep k h
   rw [wfI] at h
   cases hh:hd xs off with
   |error k2=>
    rw [hh] at h
    have:=hd_err hh
    injection h with h
    injection h with h
    omega
   |ok q=>
    obtain ⟨m,ai,v,o⟩:=q
    rw [hh] at h
    dsimp only at h
    repeat' split at h
    all_goals first
     |(injection h with h;injection h with h;omega;done)
     |exact i2 _ _ _ _ h
     |exact i3 _ _ _ _ _ h
     |exact i4 _ _ _ _ h
     |exact i5 _ _ _ h
     |(cases h;done)
  ·intro m off dep k h
   rw [wfS] at h
   split at h
   ·injection h with h;injection h with h;omega
   ·repeat' split at h
    all_goals first
     |(injection h with h;injection h with h;omega;done)
     |exact i2 _ _ _ _ h
     |exact i1 _ _ _ h
     |(cases h;done)
  ·intro m i off dep k h
   rw [wfO] at h
   split at h
   ·injection h with h;injection h with h;omega
   ·repeat' split at h
    all_goals first
     |(injection h with h;injection h with h;omega;done)
     |exact i3 _ _ _ _ _ (joinD_err h)
     |exact i1 _ _ _ h
     |(cases h;done)
  ·intro n off dep k h
   cases n with
   |zero=>rw [wfN] at h;cases h
   |succ n=>
    rw [wfN] at h
    split at h
    ·exact i4 _ _ _ _ (joinD_err h)
    ·exact i1 _ _ _ h
  ·intro off dep k h
   rw [wfT] at h
   split at h
   ·injection h with h;injection h with h;omega
   ·split at h
    ·exact i1 _ _ _ h
    ·cases hh:hd xs off with
     |error k2=>
      rw [hh] at h
      have:=hd_err hh
      injection h with h
      injection h with h
      omega
     |ok q=>
      rw [hh] at h
      dsimp only at h
      split at h
      ·injection h with h;injection h with h;omega
      ·exact i5 _ _ _ h
structure LeafC (L:Lim) (M:Md):Prop where
 nint: ∀(X:Cx),X.L=L→X.M=M→X.xs.length≤90000→ ∀off ai n o,hd X.xs off= .ok (1,ai,n,o)→9223372036854775808≤n→ItemC X off o (txt (45::dec (n+1)))
 tag: ∀(X:Cx),X.L=L→X.M=M→X.xs.length≤90000→ ∀n t off o,n=2∨n=3→Enc X.xs (.tag n t) off o→ItemC X off o (bigR n t)
 text: ∀(X:Cx),X.L=L→X.M=M→X.xs.length≤90000→ ∀b off o,Enc X.xs (.str true b) off o→ItemC X off o (if Lib.validD b=true then txt (qT 34 b) else ([],some 10))
def BytC (L:Lim) (M:Md) (b:List UInt8):Prop:= ∀(X:Cx),X.L=L→X.M=M→X.xs.length≤90000→EncB X b (txt (byA L M b))
mutual
theorem leaf_all {L:Lim} {M:Md} (hC:LeafC L M) {X:Cx} (hl:X.L=L) (hm:X.M=M) (hx:X.xs.length≤90000): ∀(t:Tr) (off o:Nat),Enc X.xs t off o→AllS (BytC L M) t→LeafOK X (ntA L M) t
 | .int neg n,off,o,h,hs=>by
  rw [LeafOK]
  intro hneg h63 off' o' he
  subst hneg
  rw [Enc] at he
  obtain ⟨ai,he⟩:=he
  exact hC.nint X hl hm hx off' ai n o' he h63
 | .str false b,off,o,h,hs=>by
  rw [AllS] at hs
  rw [LeafOK]
  intro off' o' he
  rw [Enc] at he
  obtain ⟨ai,v,o1,hh,h31,hvl,h63,rfl,hbb⟩:=he
  have:=hs X hl hm hx
  rw [note]
  exact fun w bs hS hlen=>di_bytes hS hh h31 hvl hbb this hlen
 | .str true b,off,o,h,hs=>by
  rw [LeafOK]
  intro off' o' he
  rw [note]
  exact hC.text X hl hm hx b off' o' he
 | .chk tx l,off,o,h,hs=>by
  rw [AllS] at hs
  rw [Enc] at h
  obtain ⟨v,o1,h,hc⟩:=h
  have:=chunks_off tx l _ _ hc
  rw [LeafOK]
  exact ⟨by omega,chunks_all hC hl hm hx tx l _ _ hc hs⟩
 | .arr false l,off,o,h,hs=>by
  rw [AllS] at hs
  rw [Enc] at h
  obtain ⟨ai,o1,h,h31,hc⟩:=h
  have:=encs_off l _ _ hc (hd_val h).2
  rw [LeafOK]
  exact ⟨by omega,encs_all hC hl hm hx l _ _ hc hs⟩
 | .arr true l,off,o,h,hs=>by
  rw [AllS] at hs
  rw [Enc] at h
  obtain ⟨v,o1,h,hc⟩:=h
  have:=opens_off l _ _ hc
  rw [LeafOK]
  exact ⟨by omega,opens_all hC hl hm hx l _ _ hc hs⟩
 | .map false l,off,o,h,hs=>by
  rw [AllS] at hs
  rw [Enc] at h
  obtain ⟨ai,v,o1,h,h31,hv,hc⟩:=h
  have:=encs_off l _ _ hc (hd_val h).2
  rw [LeafOK]
  exact ⟨by omega,encs_all hC hl hm hx l _ _ hc hs⟩
 | .map true l,off,o,h,hs=>by
  rw [AllS] at hs
  rw [Enc] at h
  obtain ⟨v,o1,h,h2,hc⟩:=h
  have:=opens_off l _ _ hc
  rw [LeafOK]
  exact ⟨by omega,opens_all hC hl hm hx l _ _ hc hs⟩
 | .tag n t,off,o,h,hs=>by
  rw [AllS] at hs
  rw [LeafOK]
  split
  ·rename_i hn
   intro off' o' he
   exact hC.tag X hl hm hx n t off' o' hn he
  ·rw [Enc] at h
   obtain ⟨ai,o1,h,hc⟩:=h
   exact leaf_all hC hl hm hx t _ _ hc hs
 | .prim ai v,off,o,h,hs=>by
  rw [LeafOK]
  intro ha off' o' he
  rw [Enc] at he
  show ItemC X off' o' (txt (fT M.pr ai v))
  rw [←hm]
  exact fun w bs hS hlen=>di_float hS he ha (hd_fl he ha) hlen
theorem encs_all {L:Lim} {M:Md} (hC:LeafC L M) {X:Cx} (hl:X.L=L) (hm:X.M=M) (hx:X.xs.length≤90000): ∀(l:List Tr) (off o:Nat),Encs X.xs l off o→AllSs (BytC L M) l→LeavesOK X (ntA L M) l
 |[],off,o,h,hs=>by rw [LeavesOK];trivial
 |t::l,off,o,h,hs=>by
  rw [Encs] at h
  rw [AllSs] at hs
  obtain ⟨mid,h1,h2⟩:=h
  rw [LeavesOK]
  exact ⟨leaf_all hC hl hm hx t _ _ h1 hs.1,encs_all hC hl hm hx l _ _ h2 hs.2⟩
theorem opens_all {L:Lim} {M:Md} (hC:LeafC L M) {X:Cx} (hl:X.L=L) (hm:X.M=M) (hx:X.xs.length≤90000): ∀(l:List Tr) (off o:Nat),Opens X.xs l off o→AllSs (BytC L M) l→LeavesOK X (ntA L M) l
 |[],off,o,h,hs=>by rw [LeavesOK];trivial
 |t::l,off,o,h,hs=>by
  rw [Opens] at h
  rw [AllSs] at hs
  obtain ⟨b,mid,_,_,h1,h2⟩:=h
  rw [LeavesOK]
  exact ⟨leaf_all hC hl hm hx t _ _ h1 hs.1,opens_all hC hl hm hx l _ _ h2 hs.2⟩
theorem chunks_all {L:Lim} {M:Md} (hC:LeafC L M) {X:Cx} (hl:X.L=L) (hm:X.M=M) (hx:X.xs.length≤90000) (tx:Bool): ∀(l:List Tr) (off o:Nat),Chunks X.xs tx l off o→AllSs (BytC L M) l→LeavesOK X (ntA L M) l
 |[],off,o,h,hs=>by rw [LeavesOK];trivial
 |t::l,off,o,h,hs=>by
  rw [Chunks] at h
  rw [AllSs] at hs
  obtain ⟨b,mid,_,_,_,h1,h2⟩:=h
  rw [LeavesOK]
  exact ⟨leaf_all hC hl hm hx t _ _ h1 hs.1,chunks_all hC hl hm hx tx l _ _ h2 hs.2⟩
end
theorem seq_says {L:Lim} {M:Md} (hC:LeafC L M) {X:Cx} (hl:X.L=L) (hm:X.M=M) (hx:X.xs.length≤90000) (hB: ∀b:List UInt8,b.length<X.xs.length→BytC L M b):
  ∀n first off,X.xs.length-off<n→off≤X.xs.length→ ∃k,SeqC X true k first off (seqF L (ntA L M) X.xs n first off)
 |0,_,_,h,_=>absurd h (by omega)
 |n+1,first,off,h,ho=>by
  rw [seqF]
  by_cases he:X.xs.length≤off
  ·have e:off=X.xs.length:=by omega
   rw [if_pos he]
   cases first
   ·exact ⟨0,.stop (.inl ⟨e,rfl⟩)⟩
   ·exact ⟨0,.none (.inl ⟨e,rfl⟩)⟩
  ·rw [if_neg he]
   cases hi:itemR L X.xs off with
   |error k=>
    obtain ⟨f,hf⟩:=itemR_err hi
    have hk:=(wf_err L X.xs f).1 _ _ _ hf
    refine ⟨0,.bad (.inr ⟨by omega,f,.error k,?_,rfl⟩) hk⟩
    rw [hl]
    exact hf
   |ok q=>
    obtain ⟨t,o⟩:=q
    dsimp only
    obtain ⟨h1,h2,h3,f,D,h4⟩:=itemR_ok (by omega) hi
    have e:=enc_off t _ _ h1
    obtain ⟨k,hk⟩:=seq_says hC hl hm hx hB n false o (by omega) e.2
    refine ⟨k+1,.item (off':=o) (.inr ⟨by omega,f,_,by rw [hl];exact h4,rfl⟩) (item_note X (ntA L M) t off o h1 (leaf_all hC hl hm hx t off o h1 ?_)) (fun _=>hk)⟩
    exact (enc_strs t off o h1).imp (fun b hb=>hB b hb.1) t
theorem says_of {L:Lim} {M:Md} (hC:LeafC L M) {xs:List UInt8} (hx:xs.length≤90000) (hB: ∀b:List UInt8,b.length<xs.length→BytC L M b) (sq:Bool):Says xs L M sq (diagR L M sq xs):=by
 intro X hxs hl hm
 subst hxs
 cases sq with
 |true=>exact seq_says hC hl hm hx hB _ true 0 (by omega) (Nat.zero_le _)
 |false=>
  show ∃n,SeqC X false n true 0 (oneR L (ntA L M) X.xs)
  unfold oneR
  by_cases h0:X.xs=[]
  ·rw [if_pos h0]
   exact ⟨0,.none (.inl ⟨by rw [h0];rfl,rfl⟩)⟩
  ·have hp:=List.length_pos_iff.2 h0
   rw [if_neg h0]
   cases hi:itemR L X.xs 0 with
   |error k=>
    obtain ⟨f,hf⟩:=itemR_err hi
    have hk:=(wf_err L X.xs f).1 _ _ _ hf
    refine ⟨0,.bad (.inr ⟨hp,f,.error k,?_,rfl⟩) hk⟩
    rw [hl]
    exact hf
   |ok q=>
    obtain ⟨t,o⟩:=q
    dsimp only
    obtain ⟨h1,h2,h3,f,D,h4⟩:=itemR_ok (by omega) hi
    by_cases he:o=X.xs.length
    ·rw [if_pos he]
     have hI:=item_note X (ntA L M) t 0 o h1 (leaf_all hC hl hm hx t 0 o h1 ((enc_strs t 0 o h1).imp (fun b hb=>hB b hb.1) t))
     have:=SeqC.item (X:=X) (sq:=false) (first:=true) (n:=0) (off':=o) (r':=([],none)) (.inr ⟨hp,f,_,by rw [hl];exact h4,by simp [he]⟩) hI (fun _=> .stop (.inl ⟨he,rfl⟩))
     rw [thenR_nil] at this
     exact ⟨1,by simpa [thenR_txt] using this⟩
    ·rw [if_neg he]
     refine ⟨0,.bad (.inr ⟨hp,f,_,by rw [hl];exact h4,by simp [he]⟩) (by decide)⟩
theorem says_all {L:Lim} {M:Md} (hC:LeafC L M) (hE: ∀b:List UInt8,b.length≤90000→Says b L M true (seqR L (ntA L M) b)→BytC L M b): ∀n (xs:List UInt8),xs.length≤n→n≤90000→ ∀sq,Says xs L M sq (diagR L M sq xs):=by
 intro n
 induction n with
 |zero=>exact fun xs hx hn sq=>says_of hC (by omega) (fun b hb=>absurd hb (by omega)) sq
 |succ n ih=>exact fun xs hx hn sq=>says_of hC (by omega) (fun b hb=>hE b (by omega) (ih b (by omega) (by omega) true)) sq
end
end Go.Proofs.YteodinhkhhaafaaGreatDoor
