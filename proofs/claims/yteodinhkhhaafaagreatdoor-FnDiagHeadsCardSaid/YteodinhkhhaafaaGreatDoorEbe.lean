/- Walks of the program, and plain facts. -/
import Derived.Test.YteodinhkhhaafaaGreatDoorEbd
import Derived.Lib.ValidLaws
set_option linter.unusedVariables false
set_option linter.unusedSimpArgs false
set_option maxRecDepth 100000
set_option maxHeartbeats 6400000
namespace Go.Proofs.YteodinhkhhaafaaGreatDoor
section
set_option exponentiation.threshold 3000
open Go.RowKit
def nanT:List UInt8:=[78,97,78]
def infT:List UInt8:=[73,110,102,105,110,105,116,121]
def ninfT:List UInt8:=[45,73,110,102,105,110,105,116,121]
def spO (ai v:Nat):Option (List UInt8):=
 if ai=25 then (if v/1024%32=31 then some (if v%1024≠0 then nanT else if v<32768 then infT else ninfT) else none)
 else if ai=26 then (if v/8388608%256=255 then some (if v%8388608≠0 then nanT else if v<2147483648 then infT else ninfT) else none)
 else (if v/4503599627370496%2048=2047 then some (if v%4503599627370496≠0 then nanT else if v<9223372036854775808 then infT else ninfT) else none)
def fT (pr:Bool) (ai v:Nat):List UInt8:=(spO ai v).getD (fltB (wbits ai v)++precT pr ai)
theorem nan16 (x:Nat) (hx:x<65536) (hf:x/1024%32=31) (w:World):Calls Tryz.prog 180 #[.int .u16 (x:Int)] w fun e w'=>e= .returned (.bool (x%1024 !=0))∧w'=w:=by
 have h:=u16_and_nat' x 31744 hx (by omega)
 have g:=u16_and_nat' x 1023 hx (by omega)
 have h2:x&&&31744=31744:=by
  have h3:(x&&&31744)/1024=x/1024&&&31:=by
   rw [show (1024:Nat)=2^10 by decide,←Nat.shiftRight_eq_div_pow,Nat.shiftRight_and_distrib,Nat.shiftRight_eq_div_pow]
   rfl
  have h4:(x&&&31744)%1024=0:=by
   rw [show (1024:Nat)=2^10 by decide,Nat.and_mod_two_pow,show 31744%2^10=0 by decide,Nat.and_zero]
  rw [show (31:Nat)=2^5-1 by decide,Nat.and_two_pow_sub_one_eq_mod] at h3
  omega
 have g2:x&&&1023=x%1024:=by rw [show (1023:Nat)=2^10-1 by decide,Nat.and_two_pow_sub_one_eq_mod]
 have h3:bits .and .u16 (x:Int) 31744=31744:=by rw [h2] at h;exact h
 have g3:bits .and .u16 (x:Int) 1023=((x%1024:Nat):Int):=by rw [g2] at g;exact g
 have g4:((((x%1024:Nat):Int)) !=0)=(x%1024 !=0):=by
  rw [Bool.eq_iff_iff];simp;omega
 rw [←g4];clear g4 h g h2 g2;obtain ⟨y,hy⟩: ∃y:Int,y=((x%1024:Nat):Int):=⟨_,rfl⟩;rw [←hy] at g3 ⊢;replace hy:=Hz hy;go_enter Tryz.func180,Tryz.ntmps180
 go_wp2;go_ret
 first|exact ⟨rfl,rfl⟩|(refine ⟨?_,rfl⟩;simp [bne])
theorem inf16p (s:Int) (w:World):Calls Tryz.prog 181 #[.int .u16 31744,.int .i64 s] w fun e w'=>e= .returned (.bool (decide (0≤s)))∧w'=w:=by
 go_enter Tryz.func181,Tryz.ntmps181
 by_cases h:0≤s
 ·have h2:=Hz h;have h3:decide (0≤s)=true:=by simp [h]
  rw [h3];go_wp2;go_ret
  exact ⟨rfl,rfl⟩
 ·have h3:decide (0≤s)=false:=by simp [h]
  rw [h3];go_wp2;go_ret
  exact ⟨rfl,rfl⟩
theorem inf16n (s:Int) (w:World):Calls Tryz.prog 181 #[.int .u16 64512,.int .i64 s] w fun e w'=>e= .returned (.bool (decide (s≤0)))∧w'=w:=by
 go_enter Tryz.func181,Tryz.ntmps181
 by_cases h:s≤0
 ·have h3:decide (s≤0)=true:=by simp [h]
  rw [h3];go_wp2;go_ret
  exact ⟨rfl,rfl⟩
 ·have h3:decide (s≤0)=false:=by simp [h]
  rw [h3];go_wp2;go_ret
  exact ⟨rfl,rfl⟩
theorem nan_order32 (v:Nat) (hf:v/8388608%256=255) (h0:v%8388608≠0):Ieee.single.order v v=none:=by
 have e1:Ieee.single.signWeight=2147483648:=by decide
 have e2:Ieee.single.binade=8388608:=by decide
 have e3:Ieee.single.infRung=2139095040:=by decide
 unfold Ieee.Format.order Ieee.Format.read;rw [e1,e2,e3];dsimp only;rw [if_neg (by omega),if_neg (by omega),if_neg (by omega)]
 rfl
theorem nan_order64 (v:Nat) (hf:v/4503599627370496%2048=2047) (h0:v%4503599627370496≠0):Ieee.double.order v v=none:=by
 have e1:Ieee.double.signWeight=9223372036854775808:=by decide
 have e2:Ieee.double.binade=4503599627370496:=by decide
 have e3:Ieee.double.infRung=9218868437227405312:=by decide
 unfold Ieee.Format.order Ieee.Format.read;rw [e1,e2,e3];dsimp only;rw [if_neg (by omega),if_neg (by omega),if_neg (by omega)]
 rfl
section
variable {X:Cx} {off:Nat} {bs:List UInt8} {w:World}
theorem encSp16 (h:St X off bs w) {v:Nat} {t:List UInt8} (hv:v<65536) (hs:spO 25 v=some t) (hlen:bs.length+t.length≤room):
  Calls Tryz.prog 136 #[.pointer (some ⟨X.di,0,none⟩),.int .u8 25,.int .u64 (v:Int)] w (IPost X off bs (txt t) w):=by
 have k2:=h.i2;unfold spO at hs;rw [if_pos rfl] at hs;have hf:v/1024%32=31:=Decidable.byContradiction fun hf=>by rw [if_neg hf] at hs;cases hs
 rw [if_pos hf] at hs;injection hs with hs
 have s0:IntKind.u16.wrap (v:Int)=(v:Int):=by show (v:Int)%65536=_;omega
 have K1:=Hz (fun W=>frombits v W)
 have K2:=Hz (fun W=>nan16 v hv hf W)
 go_enter Tryz.func136,Tryz.ntmps136
 by_cases hn:v%1024≠0
 ·rw [if_pos hn] at hs;subst hs;have hb:(v%1024 !=0)=true:=by simpa using hn
  rw [hb] at K2;replace hf:=Hz hf;replace hn:=Hz hn;clear hb hv;go_wp2_with (first|(go_at_call 179;refine (K1.out _).mono ?_;rintro e w1 ⟨rfl,rfl⟩)|(go_at_call 180;refine (K2.out _).mono ?_;rintro e w1 ⟨rfl,rfl⟩)|(go_at_call 104;refine (writeString h.buf h.lw h.hB nanT hlen).mono ?_;rintro e wC ⟨⟨uC,rfl⟩,hbC,hgC⟩))
  go_ret
  exact ⟨.nilIface,_,rfl,rfl,fun _=>rfl,h.wrote hgC hbC,St.grW hgC⟩
 ·have hn:v%1024=0:=by omega
  rw [if_neg (by omega)] at hs
  have hb:(v%1024 !=0)=false:=by simpa using hn
  rw [hb] at K2;have hvv:v=31744∨v=64512:=by omega
  clear hb hf hn hv;rcases hvv with hvv|hvv
  ·rw [if_pos (by omega)] at hs
   subst hs;have K3:Hid (∀W,Calls Tryz.prog 181 #[.int .u16 (v:Int),.int .i64 1] W fun e w'=>e= .returned (.bool true)∧w'=W):=Hz (fun W=>by rw [hvv];exact inf16p 1 W)
   replace hvv:=Hz hvv;go_wp2_with (first|(go_at_call 179;refine (K1.out _).mono ?_;rintro e w1 ⟨rfl,rfl⟩)|(go_at_call 180;refine (K2.out _).mono ?_;rintro e w1 ⟨rfl,rfl⟩)|(go_at_call 181;refine (K3.out _).mono ?_;rintro e w1 ⟨rfl,rfl⟩)|(go_at_call 104;refine (writeString h.buf h.lw h.hB infT hlen).mono ?_;rintro e wC ⟨⟨uC,rfl⟩,hbC,hgC⟩))
   go_ret
   exact ⟨.nilIface,_,rfl,rfl,fun _=>rfl,h.wrote hgC hbC,St.grW hgC⟩
  ·rw [if_neg (by omega)] at hs
   subst hs;have K3:Hid (∀W s,Calls Tryz.prog 181 #[.int .u16 (v:Int),.int .i64 s] W fun e w'=>e= .returned (.bool (decide (s≤0)))∧w'=W):=Hz (fun W s=>by rw [hvv];exact inf16n s W)
   replace hvv:=Hz hvv;go_wp2_with (first|(go_at_call 179;refine (K1.out _).mono ?_;rintro e w1 ⟨rfl,rfl⟩)|(go_at_call 180;refine (K2.out _).mono ?_;rintro e w1 ⟨rfl,rfl⟩)|(go_at_call 181;refine (K3.out _ _).mono ?_;rintro e w1 ⟨rfl,rfl⟩)|(go_at_call 104;refine (writeString h.buf h.lw h.hB ninfT hlen).mono ?_;rintro e wC ⟨⟨uC,rfl⟩,hbC,hgC⟩))
   go_ret
   exact ⟨.nilIface,_,rfl,rfl,fun _=>rfl,h.wrote hgC hbC,St.grW hgC⟩
theorem encSp32 (h:St X off bs w) {v:Nat} {t:List UInt8} (hv:v<4294967296) (hs:spO 26 v=some t) (hlen:bs.length+t.length≤room):
  Calls Tryz.prog 136 #[.pointer (some ⟨X.di,0,none⟩),.int .u8 26,.int .u64 (v:Int)] w (IPost X off bs (txt t) w):=by
 have k2:=h.i2;unfold spO at hs;rw [if_neg (by omega),if_pos rfl] at hs
 have hf:v/8388608%256=255:=Decidable.byContradiction fun hf=>by rw [if_neg hf] at hs;cases hs
 rw [if_pos hf] at hs;injection hs with hs
 have s0:IntKind.u32.wrap (v:Int)=(v:Int):=by show (v:Int)%4294967296=_;omega
 have x183:=fun w=>ext183 v w
 go_enter Tryz.func136,Tryz.ntmps136
 by_cases hn:v%8388608≠0
 ·rw [if_pos hn] at hs;subst hs;have o1:=nan_order32 v hf hn;have t1:(FloatKind.f32.format.order v v !=some Ordering.eq)=true:=by rw [show FloatKind.f32.format=Ieee.single from rfl,o1];rfl
  clear o1 hf hn hv;go_wp2_with (go_at_call 104;refine (writeString h.buf h.lw h.hB nanT hlen).mono ?_;rintro e wC ⟨⟨uC,rfl⟩,hbC,hgC⟩)
  go_ret
  exact ⟨.nilIface,_,rfl,rfl,fun _=>rfl,h.wrote hgC hbC,St.grW hgC⟩
 ·rw [if_neg hn] at hs;have hvv:v=2139095040∨v=4286578688:=by omega
  clear hf hn hv;rcases hvv with hvv|hvv
  ·rw [if_pos (by omega)] at hs
   subst hs;have t1:(FloatKind.f32.format.order v v !=some Ordering.eq)=false:=by rw [hvv];decide
   have t2:(FloatKind.f32.format.order v 2139095039==some Ordering.gt)=true:=by rw [hvv];decide
   replace hvv:=Hz hvv;go_wp2_with (go_at_call 104;refine (writeString h.buf h.lw h.hB infT hlen).mono ?_;rintro e wC ⟨⟨uC,rfl⟩,hbC,hgC⟩)
   go_ret
   exact ⟨.nilIface,_,rfl,rfl,fun _=>rfl,h.wrote hgC hbC,St.grW hgC⟩
  ·rw [if_neg (by omega)] at hs
   subst hs;have t1:(FloatKind.f32.format.order v v !=some Ordering.eq)=false:=by rw [hvv];decide
   have t2:(FloatKind.f32.format.order v 2139095039==some Ordering.gt)=false:=by rw [hvv];decide
   have t3:(FloatKind.f32.format.order v 4286578687==some Ordering.lt)=true:=by rw [hvv];decide
   replace hvv:=Hz hvv;go_wp2_with (go_at_call 104;refine (writeString h.buf h.lw h.hB ninfT hlen).mono ?_;rintro e wC ⟨⟨uC,rfl⟩,hbC,hgC⟩)
   go_ret
   exact ⟨.nilIface,_,rfl,rfl,fun _=>rfl,h.wrote hgC hbC,St.grW hgC⟩
theorem encSp64 (h:St X off bs w) {v:Nat} {t:List UInt8} (hv:v<18446744073709551616) (hs:spO 27 v=some t) (hlen:bs.length+t.length≤room):
  Calls Tryz.prog 136 #[.pointer (some ⟨X.di,0,none⟩),.int .u8 27,.int .u64 (v:Int)] w (IPost X off bs (txt t) w):=by
 have k2:=h.i2;unfold spO at hs;rw [if_neg (by omega),if_neg (by omega)] at hs
 have hf:v/4503599627370496%2048=2047:=Decidable.byContradiction fun hf=>by rw [if_neg hf] at hs;cases hs
 rw [if_pos hf] at hs;injection hs with hs
 have x184:=fun w=>ext184 v w
 go_enter Tryz.func136,Tryz.ntmps136
 by_cases hn:v%4503599627370496≠0
 ·rw [if_pos hn] at hs;subst hs;have o1:=nan_order64 v hf hn;have t1:(FloatKind.f64.format.order v v !=some Ordering.eq)=true:=by rw [show FloatKind.f64.format=Ieee.double from rfl,o1];rfl
  clear o1 hf hn hv;go_wp2_with (go_at_call 104;refine (writeString h.buf h.lw h.hB nanT hlen).mono ?_;rintro e wC ⟨⟨uC,rfl⟩,hbC,hgC⟩)
  go_ret
  exact ⟨.nilIface,_,rfl,rfl,fun _=>rfl,h.wrote hgC hbC,St.grW hgC⟩
 ·rw [if_neg hn] at hs;have hvv:v=9218868437227405312∨v=18442240474082181120:=by omega
  clear hf hn hv;rcases hvv with hvv|hvv
  ·rw [if_pos (by omega)] at hs
   subst hs;have t1:(FloatKind.f64.format.order v v !=some Ordering.eq)=false:=by rw [hvv];decide
   have t2:(FloatKind.f64.format.order v 9218868437227405311==some Ordering.gt)=true:=by rw [hvv];decide
   replace hvv:=Hz hvv;go_wp2_with (go_at_call 104;refine (writeString h.buf h.lw h.hB infT hlen).mono ?_;rintro e wC ⟨⟨uC,rfl⟩,hbC,hgC⟩)
   go_ret
   exact ⟨.nilIface,_,rfl,rfl,fun _=>rfl,h.wrote hgC hbC,St.grW hgC⟩
  ·rw [if_neg (by omega)] at hs
   subst hs;have t1:(FloatKind.f64.format.order v v !=some Ordering.eq)=false:=by rw [hvv];decide
   have t2:(FloatKind.f64.format.order v 9218868437227405311==some Ordering.gt)=false:=by rw [hvv];decide
   have t3:(FloatKind.f64.format.order v 18442240474082181119==some Ordering.lt)=true:=by rw [hvv];decide
   replace hvv:=Hz hvv;go_wp2_with (go_at_call 104;refine (writeString h.buf h.lw h.hB ninfT hlen).mono ?_;rintro e wC ⟨⟨uC,rfl⟩,hbC,hgC⟩)
   go_ret
   exact ⟨.nilIface,_,rfl,rfl,fun _=>rfl,h.wrote hgC hbC,St.grW hgC⟩
theorem encF (h:St X off bs w) {ai v:Nat} (ha:ai=25∨ai=26∨ai=27) (hv:v<if ai=25 then 65536 else if ai=26 then 4294967296 else 18446744073709551616) (hlen:bs.length+(fT X.M.pr ai v).length≤room):
  Calls Tryz.prog 136 #[.pointer (some ⟨X.di,0,none⟩),.int .u8 (ai:Int),.int .u64 (v:Int)] w (IPost X off bs (txt (fT X.M.pr ai v)) w):=by
 cases hs:spO ai v with
 |some t=>
  have e:fT X.M.pr ai v=t:=by unfold fT;rw [hs];rfl
  rw [e] at hlen ⊢;rcases ha with rfl|rfl|rfl
  ·exact encSp16 h (by simpa using hv) hs hlen
  ·exact encSp32 h (by simpa using hv) hs hlen
  ·exact encSp64 h (by simpa using hv) hs hlen
 |none=>
  have e:fT X.M.pr ai v=fltB (wbits ai v)++precT X.M.pr ai:=by unfold fT;rw [hs];rfl
  rw [e] at hlen ⊢;refine encFloat h ?_ hlen
  unfold spO at hs;rcases ha with rfl|rfl|rfl
  ·rw [if_pos rfl] at hs;refine .inl ⟨rfl,by simpa using hv,fun e=> ?_⟩
   rw [if_pos e] at hs;cases hs
  ·rw [if_neg (by omega),if_pos rfl] at hs
   refine .inr (.inl ⟨rfl,by simpa using hv,fun e=> ?_⟩)
   rw [if_pos e] at hs;cases hs
  ·rw [if_neg (by omega),if_neg (by omega)] at hs
   refine .inr (.inr ⟨rfl,by simpa using hv,fun e=> ?_⟩)
   rw [if_pos e] at hs;cases hs
end
end
section
set_option exponentiation.threshold 3000
open Go.RowKit
def u16T (v:Nat):List UInt8:=[92,117]++hexB hexD [(v/256).toUInt8,v.toUInt8]
def escT (q b:UInt8):List UInt8:=
 if b=9 then [92,116] else if b=10 then [92,110] else if b=13 then [92,114] else if b=92∨b=q then [92,b]
 else if 32≤b.toNat∧b.toNat≤126 then [b] else u16T b.toNat
def runeT (c:Nat):List UInt8:=if c<65536 then u16T c else u16T (55296+(c-65536)/1024)++u16T (56320+(c-65536)%1024)
def txtE (q:UInt8):Nat→List UInt8→List UInt8
 |0,_=>[]
 |_+1,[]=>[]
 |n+1,b::l=>if b.toNat<128 then escT q b++txtE q n l else runeT (Lib.decodeL (b::l)).1++txtE q n ((b::l).drop (Lib.decodeL (b::l)).2)
def qT (q:UInt8) (l:List UInt8):List UInt8:=q::(txtE q l.length l++[q])
theorem u16T_length (v:Nat):(u16T v).length=6:=by simp [u16T,hexB]
theorem escT_length (q b:UInt8):(escT q b).length≤6:=by
 unfold escT
 repeat' split
 all_goals first|(rw [u16T_length];omega)|simp
theorem runeT_length (c:Nat):(runeT c).length≤12:=by
 unfold runeT
 split<;>simp [u16T_length]
theorem txtE_length (q:UInt8): ∀(n:Nat) (l:List UInt8),(txtE q n l).length≤12*l.length
 |0,l=>by simp [txtE]
 |n+1,[]=>by simp [txtE]
 |n+1,b::l=>by
  rw [txtE]
  split
  ·have h1:=escT_length q b;have h2:=txtE_length q n l;rw [List.length_append,List.length_cons];omega
  ·have h1:=runeT_length (Lib.decodeL (b::l)).1;have h2:=txtE_length q n ((b::l).drop (Lib.decodeL (b::l)).2);have h3:=Lib.decodeL_width (b::l);rw [List.length_append];rw [List.length_drop,List.length_cons] at h2;rw [List.length_cons];omega
theorem qT_length (q:UInt8) (l:List UInt8):(qT q l).length≤12*l.length+2:=by
 have:=txtE_length q l.length l;simp [qT];omega
def catS:List Tr→List UInt8
 |[]=>[]
 | .str _ b::l=>b++catS l
 |_::l=>catS l
def bigN (n:Nat) (b:List UInt8):List UInt8:=if n=2 then dec (be b) else 45::dec (be b+1)
def bigR (n:Nat):Tr→R
 | .str false b=>txt (bigN n b)
 | .chk false l=>txt (bigN n (catS l))
 |_=>([],some 17)
def ntM (M:Md) (by_:List UInt8→List UInt8):Nt:=⟨by_,fun b=>if Lib.validD b=true then txt (qT 34 b) else ([],some 10),fT M.pr,bigR⟩
noncomputable def wfR (L:Lim) (xs:List UInt8) (off:Nat):Except Nat (Nat×Nat):=Classical.choose (Classical.choose_spec ((wf_total L xs _ off (Nat.le_refl _)).1 0))
theorem wfR_spec (L:Lim) (xs:List UInt8) (off:Nat): ∃f,wfI L xs f off 0=some (wfR L xs off):=⟨_,Classical.choose_spec (Classical.choose_spec ((wf_total L xs _ off (Nat.le_refl _)).1 0))⟩
theorem wfI_det {L:Lim} {xs:List UInt8} {f g off dep:Nat} {r s:Except Nat (Nat×Nat)} (h:wfI L xs f off dep=some r) (k:wfI L xs g off dep=some s):r=s:=by
 have h1:=(wf_le L xs (Nat.le_max_left f g)).1 _ _ _ h;have h2:=(wf_le L xs (Nat.le_max_right f g)).1 _ _ _ k;rw [h1] at h2;exact Option.some.inj h2
theorem wfR_eq {L:Lim} {xs:List UInt8} {f off:Nat} {r:Except Nat (Nat×Nat)} (h:wfI L xs f off 0=some r):wfR L xs off=r:=by
 obtain ⟨g,hg⟩:=wfR_spec L xs off;exact wfI_det hg h
noncomputable def itemR (L:Lim) (xs:List UInt8) (off:Nat):Except Nat (Tr×Nat):=
 match wfR L xs off with
 | .error k=> .error k
 | .ok _=>match treeF xs (2*L.nest+3) off with
  |some q=> .ok q
  |none=> .error 0
theorem itemR_of {L:Lim} {xs:List UInt8} {off o:Nat} {t:Tr} (hel:L.el≤2147483647) (hpa:L.pa≤2147483647) (h:Enc xs t off o) (hf:t.fits L) (hd:t.dp≤L.nest):itemR L xs off= .ok (t,o):=by
 obtain ⟨f,hw⟩:=wf_item L xs hel hpa t off o 0 h hf (by omega)
 have h1:=wfR_eq hw;have h2:=ht_dp t;have h3:=enc_tree t (2*L.nest+3) off o h (by split at h2<;>omega)
 unfold itemR;rw [h1,h3]
theorem itemR_ok {L:Lim} {xs:List UInt8} {off o:Nat} {t:Tr} (hlen:xs.length≤1099511627776) (h:itemR L xs off= .ok (t,o)):Enc xs t off o∧t.fits L∧t.dp≤L.nest∧ ∃f D,wfI L xs f off 0=some (.ok (D,o)):=by
 obtain ⟨g,hg⟩:=wfR_spec L xs off;unfold itemR at h;cases hw:wfR L xs off with
 |error k=>rw [hw] at h;cases h
 |ok q=>
  obtain ⟨D,o2⟩:=q;rw [hw] at h hg;obtain ⟨t2,e1,e2,e3,e4⟩:=(wf_enc L xs g).1 off 0 D o2 (Nat.zero_le _) hg;have h2:=ht_dp t2;have h3:=enc_tree t2 (2*L.nest+3) off o2 e1 (by split at h2<;>omega)
  rw [h3] at h;injection h with h
  injection h with a b
  subst a b;exact ⟨e1,e2,by omega,g,D,hg⟩
theorem itemR_err {L:Lim} {xs:List UInt8} {off k:Nat} (h:itemR L xs off= .error k): ∃f,wfI L xs f off 0=some (.error k):=by
 obtain ⟨g,hg⟩:=wfR_spec L xs off;unfold itemR at h;cases hw:wfR L xs off with
 |error k2=>
  rw [hw] at h hg;injection h with h
  subst h;exact ⟨g,hg⟩
 |ok q=>
  obtain ⟨D,o2⟩:=q;rw [hw] at h hg;obtain ⟨t2,e1,e2,e3,e4⟩:=(wf_enc L xs g).1 off 0 D o2 (Nat.zero_le _) hg;have h2:=ht_dp t2;have h3:=enc_tree t2 (2*L.nest+3) off o2 e1 (by split at h2<;>omega)
  rw [h3] at h;cases h
noncomputable def seqF (L:Lim) (N:Nt) (xs:List UInt8):Nat→Bool→Nat→R
 |0,_,_=>([],some 0)
 |n+1,first,off=>if xs.length≤off then (if first then ([],some 1) else ([],none)) else match itemR L xs off with
  | .error k=>([],some k)
  | .ok (t,o)=>thenR (txt (if first then [] else [44,32])) (thenR (note N t) (seqF L N xs n false o))
noncomputable def seqR (L:Lim) (N:Nt) (xs:List UInt8):R:=seqF L N xs (xs.length+1) true 0
noncomputable def byF (L:Lim) (M:Md):Nat→List UInt8→List UInt8
 |0,b=>if b≠[]∧M.tx=true∧Lib.validD b=true then qT 39 b else noteB M.enc M.sp b
 |n+1,b=>if b≠[]∧M.tx=true∧Lib.validD b=true then qT 39 b
  else if b≠[]∧M.em=true∧(seqR L (ntM M (byF L M n)) b).2=none then [60,60]++((seqR L (ntM M (byF L M n)) b).1++[62,62])
  else noteB M.enc M.sp b
noncomputable def byA (L:Lim) (M:Md) (b:List UInt8):List UInt8:=byF L M b.length b
noncomputable def ntA (L:Lim) (M:Md):Nt:=ntM M (byA L M)
noncomputable def oneR (L:Lim) (N:Nt) (xs:List UInt8):R:=
 if xs=[] then ([],some 1) else match itemR L xs 0 with
  | .error k=>([],some k)
  | .ok (t,o)=>if o=xs.length then note N t else ([],some 4)
noncomputable def diagR (L:Lim) (M:Md) (sq:Bool) (xs:List UInt8):R:=if sq then seqR L (ntA L M) xs else oneR L (ntA L M) xs
mutual
def AllS (p:List UInt8→Prop):Tr→Prop
 | .str false b=>p b
 | .chk _ l=>AllSs p l
 | .arr _ l=>AllSs p l
 | .map _ l=>AllSs p l
 | .tag _ t=>AllS p t
 |_=>True
def AllSs (p:List UInt8→Prop):List Tr→Prop
 |[]=>True
 |t::l=>AllS p t∧AllSs p l
end
mutual
theorem note_congr {N N':Nt} (h1:N.tx=N'.tx) (h2:N.fl=N'.fl) (h3:N.big=N'.big): ∀t:Tr,AllS (fun b=>N.by_ b=N'.by_ b) t→note N t=note N' t
 | .int false _,_=>by rw [note,note]
 | .int true _,_=>by rw [note,note]
 | .str false b,h=>by rw [AllS] at h;rw [note,note,h]
 | .str true b,_=>by rw [note,note,h1]
 | .chk tx [],h=>by rw [note,note]
 | .chk tx (t::l),h=>by
  rw [AllS,AllSs] at h;rw [note,note,note_congr h1 h2 h3 t h.1,notes_congr h1 h2 h3 l h.2]
 | .arr o l,h=>by rw [AllS] at h;rw [note,note,notes_congr h1 h2 h3 l h]
 | .map o l,h=>by rw [AllS] at h;rw [note,note,notes_congr h1 h2 h3 l h]
 | .tag n t,h=>by rw [AllS] at h;rw [note,note,note_congr h1 h2 h3 t h,h3]
 | .prim ai v,_=>by rw [note,note,h2]
theorem notes_congr {N N':Nt} (h1:N.tx=N'.tx) (h2:N.fl=N'.fl) (h3:N.big=N'.big): ∀l:List Tr,AllSs (fun b=>N.by_ b=N'.by_ b) l→notes N l=notes N' l
 |[],_=>by rw [notes,notes]
 |t::l,h=>by
  rw [AllSs] at h;rw [notes,notes,note_congr h1 h2 h3 t h.1,notes_congr h1 h2 h3 l h.2]
end
mutual
theorem enc_strs {xs:List UInt8}: ∀(t:Tr) (off o:Nat),Enc xs t off o→AllS (fun b=>b.length<xs.length∧ ∃q,b=(xs.drop q).take b.length∧q+b.length≤xs.length) t
 | .int _ _,off,o,h=>by rw [AllS]<;>simp
 | .str true _,off,o,h=>by rw [AllS]<;>simp
 | .str false b,off,o,h=>by
  rw [AllS];rw [Enc] at h;obtain ⟨ai,v,o1,h,_,hv,_,rfl,hb⟩:=h;have hl:b.length=v:=by rw [hb];simp;omega
  have:=(hd_off h).1;exact ⟨by omega,o1,by rw [hl];exact hb,by omega⟩
 | .chk tx l,off,o,h=>by
  rw [Enc] at h;obtain ⟨v,o1,h,hc⟩:=h;rw [AllS];exact chunks_strs tx l _ _ hc
 | .arr false l,off,o,h=>by
  rw [Enc] at h;obtain ⟨ai,o1,h,h31,hc⟩:=h;rw [AllS];exact encs_strs l _ _ hc
 | .arr true l,off,o,h=>by
  rw [Enc] at h;obtain ⟨v,o1,h,hc⟩:=h;rw [AllS];exact opens_strs l _ _ hc
 | .map false l,off,o,h=>by
  rw [Enc] at h;obtain ⟨ai,v,o1,h,h31,hv,hc⟩:=h;rw [AllS];exact encs_strs l _ _ hc
 | .map true l,off,o,h=>by
  rw [Enc] at h;obtain ⟨v,o1,h,h2,hc⟩:=h;rw [AllS];exact opens_strs l _ _ hc
 | .tag n t,off,o,h=>by
  rw [Enc] at h;obtain ⟨ai,o1,h,hc⟩:=h;rw [AllS];exact enc_strs t _ _ hc
 | .prim ai v,off,o,h=>by rw [AllS]<;>simp
theorem encs_strs {xs:List UInt8}: ∀(l:List Tr) (off o:Nat),Encs xs l off o→AllSs (fun b=>b.length<xs.length∧ ∃q,b=(xs.drop q).take b.length∧q+b.length≤xs.length) l
 |[],off,o,h=>by rw [AllSs];trivial
 |t::l,off,o,h=>by
  rw [Encs] at h;obtain ⟨mid,h1,h2⟩:=h;rw [AllSs];exact ⟨enc_strs t _ _ h1,encs_strs l _ _ h2⟩
theorem opens_strs {xs:List UInt8}: ∀(l:List Tr) (off o:Nat),Opens xs l off o→AllSs (fun b=>b.length<xs.length∧ ∃q,b=(xs.drop q).take b.length∧q+b.length≤xs.length) l
 |[],off,o,h=>by rw [AllSs];trivial
 |t::l,off,o,h=>by
  rw [Opens] at h;obtain ⟨b,mid,_,_,h1,h2⟩:=h;rw [AllSs];exact ⟨enc_strs t _ _ h1,opens_strs l _ _ h2⟩
theorem chunks_strs {xs:List UInt8} (tx:Bool): ∀(l:List Tr) (off o:Nat),Chunks xs tx l off o→AllSs (fun b=>b.length<xs.length∧ ∃q,b=(xs.drop q).take b.length∧q+b.length≤xs.length) l
 |[],off,o,h=>by rw [AllSs];trivial
 |t::l,off,o,h=>by
  rw [Chunks] at h;obtain ⟨b,mid,_,_,_,h1,h2⟩:=h;rw [AllSs];exact ⟨enc_strs t _ _ h1,chunks_strs tx l _ _ h2⟩
end
mutual
theorem AllS.imp {p q:List UInt8→Prop} (h: ∀b,p b→q b): ∀t:Tr,AllS p t→AllS q t
 | .int _ _,_=>by rw [AllS]<;>simp
 | .str true _,_=>by rw [AllS]<;>simp
 | .str false b,k=>by rw [AllS] at k ⊢;exact h b k
 | .chk _ l,k=>by rw [AllS] at k ⊢;exact AllSs.imp h l k
 | .arr _ l,k=>by rw [AllS] at k ⊢;exact AllSs.imp h l k
 | .map _ l,k=>by rw [AllS] at k ⊢;exact AllSs.imp h l k
 | .tag _ t,k=>by rw [AllS] at k ⊢;exact AllS.imp h t k
 | .prim _ _,_=>by rw [AllS]<;>simp
theorem AllSs.imp {p q:List UInt8→Prop} (h: ∀b,p b→q b): ∀l:List Tr,AllSs p l→AllSs q l
 |[],_=>by rw [AllSs];trivial
 |t::l,k=>by rw [AllSs] at k ⊢;exact ⟨AllS.imp h t k.1,AllSs.imp h l k.2⟩
end
theorem seqF_congr {L:Lim} {N N':Nt} {xs:List UInt8} (hlen:xs.length≤1099511627776) (h1:N.tx=N'.tx) (h2:N.fl=N'.fl) (h3:N.big=N'.big) (hb: ∀b:List UInt8,b.length<xs.length→N.by_ b=N'.by_ b): ∀n first off,seqF L N xs n first off=seqF L N' xs n first off
 |0,_,_=>rfl
 |n+1,first,off=>by
  rw [seqF,seqF]
  split
  ·rfl
  ·cases hi:itemR L xs off with
   |error k=>rfl
   |ok q=>
    obtain ⟨t,o⟩:=q;dsimp only;have he:=(itemR_ok hlen hi).1;rw [note_congr h1 h2 h3 t ((enc_strs t off o he).imp (fun b hbb=>hb b hbb.1) t),seqF_congr hlen h1 h2 h3 hb n false o]
theorem byF_stable {L:Lim} {M:Md}: ∀n (b:List UInt8),b.length≤1099511627776→b.length≤n→ ∀m,b.length≤m→byF L M n b=byF L M m b:=by
 intro n
 induction n with
 |zero=>
  intro b hlen h m hm;have h0:b=[]:=List.eq_nil_of_length_eq_zero (by omega)
  subst h0;cases m<;>simp [byF]
 |succ n ih=>
  intro b hlen h m hm;cases m with
  |zero=>
   have h0:b=[]:=List.eq_nil_of_length_eq_zero (by omega)
   subst h0;simp [byF]
  |succ m=>
   have:seqR L (ntM M (byF L M n)) b=seqR L (ntM M (byF L M m)) b:=by
    unfold seqR;exact seqF_congr (N:=ntM M (byF L M n)) (N':=ntM M (byF L M m)) hlen rfl rfl rfl (fun c hc=>ih c (by omega) (by omega) m (by omega)) _ _ _
   rw [byF,byF,this]
theorem byA_eq (L:Lim) (M:Md) (b:List UInt8) (hlen:b.length≤1099511627776):byA L M b=if b≠[]∧M.tx=true∧Lib.validD b=true then qT 39 b
  else if b≠[]∧M.em=true∧(seqR L (ntA L M) b).2=none then [60,60]++((seqR L (ntA L M) b).1++[62,62]) else noteB M.enc M.sp b:=by
 unfold byA;cases hb:b.length with
 |zero=>
  have h0:b=[]:=List.eq_nil_of_length_eq_zero hb;subst h0;simp [byF]
 |succ n=>
  have:seqR L (ntM M (byF L M n)) b=seqR L (ntA L M) b:=by
   unfold seqR ntA;exact seqF_congr (N:=ntM M (byF L M n)) (N':=ntM M (byA L M)) hlen rfl rfl rfl (fun c hc=>byF_stable n c (by omega) (by omega) _ (Nat.le_refl _)) _ _ _
  rw [byF,this]
end
end Go.Proofs.YteodinhkhhaafaaGreatDoor
