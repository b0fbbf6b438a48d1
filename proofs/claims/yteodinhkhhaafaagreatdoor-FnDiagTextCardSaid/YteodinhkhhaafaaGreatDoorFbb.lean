/- Walks of the program, and plain facts. -/
import Derived.Test.YteodinhkhhaafaaGreatDoorFba
import Derived.Deep.OwnRows
import Derived.Deep.CutBlock
set_option linter.unusedVariables false
set_option linter.unusedSimpArgs false
set_option maxRecDepth 100000
set_option maxHeartbeats 6400000
namespace Go.Proofs.YteodinhkhhaafaaGreatDoor
section
def wd (V j:Nat):Nat:=V/4294967296^j%4294967296
theorem wd_lt (V j:Nat):wd V j<4294967296:=Nat.mod_lt _ (by decide)
theorem p32 (j:Nat):4294967296^j=256^(4*j):=by rw [show (4294967296:Nat)=256^4 by decide,←Nat.pow_mul]
theorem pos256 (j:Nat):0<256^j:=Nat.pow_pos (by decide)
theorem pos32 (j:Nat):0<4294967296^j:=Nat.pow_pos (by decide)
theorem wd_byte {A c k:Nat} (hc:c<256):wd (A*256^(k+1)+c*256^k) (k/4)=wd (A*256^(k+1)) (k/4)|||c*256^(k%4):=by
 obtain ⟨j,r,hr,rfl⟩: ∃j r,r<4∧k=4*j+r:=⟨k/4,k%4,by omega,by omega⟩
 have e1:(4*j+r)/4=j:=by omega
 have e2:(4*j+r)%4=r:=by omega
 rw [e1,e2];unfold wd;rw [p32];have h1:A*256^(4*j+r+1)+c*256^(4*j+r)=256^(4*j)*(A*256^(r+1)+c*256^r):=by
  rw [show 4*j+r+1=4*j+(r+1) by omega,Nat.pow_add 256 (4*j) (r+1),Nat.pow_add 256 (4*j) r,Nat.mul_add]
  congr 1
  ·rw [Nat.mul_left_comm]
  ·rw [Nat.mul_left_comm]
 have h2:A*256^(4*j+r+1)=256^(4*j)*(A*256^(r+1)):=by
  rw [show 4*j+r+1=4*j+(r+1) by omega,Nat.pow_add 256 (4*j) (r+1),Nat.mul_left_comm]
 rw [h1,h2,Nat.mul_div_cancel_left _ (pos256 _),Nat.mul_div_cancel_left _ (pos256 _)];have key: ∀(s a b:Nat),b<2^s→2^s*a+b=(2^s*a)|||b:=fun s a b h=>Nat.two_pow_add_eq_or_of_lt h a
 rcases (show r=0∨r=1∨r=2∨r=3 by omega) with rfl|rfl|rfl|rfl
 ·have:=key 8 (A%16777216) c (by omega)
  rw [show A*256^(0+1)%4294967296=2^8*(A%16777216) by omega,show c*256^0=c by omega,←this]
  omega
 ·have:=key 16 (A%65536) (c*256) (by omega)
  rw [show A*256^(1+1)%4294967296=2^16*(A%65536) by omega,show c*256^1=c*256 by omega,←this]
  omega
 ·have:=key 24 (A%256) (c*65536) (by omega)
  rw [show A*256^(2+1)%4294967296=2^24*(A%256) by omega,show c*256^2=c*65536 by omega,←this]
  omega
 ·rw [show A*256^(3+1)%4294967296=0 by omega,show c*256^3=c*16777216 by omega,Nat.zero_or]
  omega
theorem wd_byte_ne {A c k j:Nat} (hc:c<256) (hj:j≠k/4):wd (A*256^(k+1)+c*256^k) j=wd (A*256^(k+1)) j:=by
 unfold wd;rw [p32];rcases (show j<k/4∨k/4<j by omega) with h|h
 ·obtain ⟨s,rfl⟩: ∃s,k=4*j+(4+s):=⟨k-4*j-4,by omega⟩
  have h1:A*256^(4*j+(4+s)+1)+c*256^(4*j+(4+s))=256^(4*j)*(4294967296*(A*256^(s+1)+c*256^s)):=by
   rw [show 4*j+(4+s)+1=4*j+(4+(s+1)) by omega,Nat.pow_add 256 (4*j) (4+(s+1)),Nat.pow_add 256 (4*j) (4+s),Nat.pow_add 256 4 (s+1),Nat.pow_add 256 4 s,show (256:Nat)^4=4294967296 by decide,Nat.mul_add,Nat.mul_add]
   generalize 256^(4*j)=x;generalize 256^(s+1)=y;generalize 256^s=u
   congr 1
   ·simp only [Nat.mul_assoc,Nat.mul_comm,Nat.mul_left_comm]
   ·simp only [Nat.mul_assoc,Nat.mul_comm,Nat.mul_left_comm]
  have h2:A*256^(4*j+(4+s)+1)=256^(4*j)*(4294967296*(A*256^(s+1))):=by
   rw [show 4*j+(4+s)+1=4*j+(4+(s+1)) by omega,Nat.pow_add 256 (4*j) (4+(s+1)),Nat.pow_add 256 4 (s+1),show (256:Nat)^4=4294967296 by decide]
   generalize 256^(4*j)=x;generalize 256^(s+1)=y;simp only [Nat.mul_assoc,Nat.mul_comm,Nat.mul_left_comm]
  rw [h1,h2,Nat.mul_div_cancel_left _ (pos256 _),Nat.mul_div_cancel_left _ (pos256 _),Nat.mul_mod_right,Nat.mul_mod_right]
 ·obtain ⟨s,hs⟩: ∃s,4*j=(k+1)+s:=⟨4*j-k-1,by omega⟩
  rw [hs,Nat.pow_add 256 (k+1) s,←Nat.div_div_eq_div_mul,←Nat.div_div_eq_div_mul]
  congr 2
  rw [Nat.mul_div_cancel _ (pos256 _),Nat.add_comm,Nat.add_mul_div_right _ _ (pos256 _),Nat.div_eq_of_lt,Nat.zero_add];rw [Nat.pow_succ,Nat.mul_comm c];exact Nat.mul_lt_mul_of_pos_left hc (pos256 _)
def car (X Y i:Nat):Nat:=(X%4294967296^i+Y%4294967296^i)/4294967296^i
theorem car_le (X Y i:Nat):car X Y i≤1:=by
 unfold car;have h1:=Nat.mod_lt X (pos32 i);have h2:=Nat.mod_lt Y (pos32 i);have:(X%4294967296^i+Y%4294967296^i)/4294967296^i<2:=by
  rw [Nat.div_lt_iff_lt_mul (pos32 i)];omega
 omega
theorem car_zero (X Y:Nat):car X Y 0=0:=by simp [car,Nat.mod_one]
theorem wd_add (X Y i:Nat):(car X Y i+wd X i+wd Y i)%4294967296=wd (X+Y) i∧(car X Y i+wd X i+wd Y i)/4294967296=car X Y (i+1):=by
 unfold car wd;have hp:=pos32 i;rw [Nat.pow_succ];generalize 4294967296^i=p at *
 have e1:(X+Y)/p=(X%p+Y%p)/p+(X/p+Y/p):=by
  conv=>lhs;rw [←Nat.mod_add_div X p,←Nat.mod_add_div Y p,show X%p+p*(X/p)+(Y%p+p*(Y/p))=(X%p+Y%p)+p*(X/p+Y/p) by rw [Nat.mul_add];omega,Nat.add_mul_div_left _ _ hp]
 have e2:(X%(p*4294967296)+Y%(p*4294967296))/(p*4294967296)=((X%p+Y%p)/p+(X/p%4294967296+Y/p%4294967296))/4294967296:=by
  rw [Nat.mod_mul,Nat.mod_mul,show X%p+p*(X/p%4294967296)+(Y%p+p*(Y/p%4294967296))=(X%p+Y%p)+p*(X/p%4294967296+Y/p%4294967296) by rw [Nat.mul_add];omega,←Nat.div_div_eq_div_mul,Nat.add_mul_div_left _ _ hp]
 rw [e1,e2];generalize (X%p+Y%p)/p=a;generalize X/p=b;generalize Y/p=c
 constructor
 ·omega
 ·rw [Nat.add_assoc]
theorem wd_top {V n:Nat} (h:V<4294967296^(n+1)):wd V n=V/4294967296^n:=by
 unfold wd;apply Nat.mod_eq_of_lt
 rw [Nat.div_lt_iff_lt_mul (pos32 n),Nat.mul_comm];rw [Nat.pow_succ] at h;exact h
theorem wd_zero {V n:Nat} (h:V<4294967296^n):wd V n=0:=by
 unfold wd;rw [Nat.div_eq_of_lt h]
theorem norm_down {V n:Nat} (h:V<4294967296^(n+1)) (h0:wd V n=0):V<4294967296^n:=by
 rw [wd_top h] at h0;rcases Nat.div_eq_zero_iff.1 h0 with e|e
 ·have:=pos32 n;omega
 ·exact e
theorem norm_top {V n:Nat} (h:V<4294967296^(n+1)) (h0:wd V n≠0):4294967296^n≤V:=by
 rw [wd_top h] at h0;by_cases g:V<4294967296^n
 ·exact absurd (Nat.div_eq_of_lt g) h0
 ·omega
theorem wd_div (V y i:Nat) (hy:0<y) (hy2:y<4294967296):((V/4294967296^(i+1)%y)*4294967296+wd V i)/y=wd (V/y) i∧((V/4294967296^(i+1)%y)*4294967296+wd V i)%y=V/4294967296^i%y∧(V/4294967296^(i+1)%y)*4294967296+wd V i<y*4294967296:=by
 unfold wd;rw [Nat.pow_succ,←Nat.div_div_eq_div_mul];have e1:V/y/4294967296^i=V/4294967296^i/y:=by rw [Nat.div_div_eq_div_mul,Nat.div_div_eq_div_mul,Nat.mul_comm]
 rw [e1];generalize V/4294967296^i=T;have hc:=Nat.mod_lt (T/4294967296) hy;have hd:=Nat.mod_lt T (show 0<4294967296 by decide)
 have hT:T=y*(T/4294967296/y)*4294967296+((T/4294967296%y)*4294967296+T%4294967296):=by
  have h1:=Nat.div_add_mod T 4294967296;have h2:=Nat.div_add_mod (T/4294967296) y;rw [←Nat.add_assoc,←Nat.add_mul,h2];omega
 have hlt:(T/4294967296%y)*4294967296+T%4294967296<y*4294967296:=by
  have:(T/4294967296%y+1)*4294967296≤y*4294967296:=Nat.mul_le_mul_right _ hc;rw [Nat.add_mul] at this;omega
 refine ⟨?_,?_,hlt⟩
 ·have h3:T/y=(T/4294967296/y)*4294967296+((T/4294967296%y)*4294967296+T%4294967296)/y:=by
   conv=>lhs;rw [hT,Nat.mul_assoc,Nat.add_comm,Nat.add_mul_div_left _ _ hy,Nat.add_comm]
  rw [h3];have h4:((T/4294967296%y)*4294967296+T%4294967296)/y<4294967296:=by
   rw [Nat.div_lt_iff_lt_mul hy,Nat.mul_comm 4294967296 y];exact hlt
  generalize T/4294967296/y=a at *
  generalize ((T/4294967296%y)*4294967296+T%4294967296)/y=b at *
  generalize T/y=c at *
  omega
 ·conv=>rhs;rw [hT,Nat.mul_assoc,Nat.add_comm,Nat.add_mul_mod_self_left]
theorem be_snoc' (bs:List UInt8) (c:UInt8):be (bs++[c])=be bs*256+c.toNat:=by simp [be]
section
open Go.RowKit
def NatV (w:World) (z:Nat) (v:Value) (V:Nat):Prop:=
 (V=0∧ ∃ao c,v= .slice ao 0 c)∨ ∃g n c,v= .slice (some ⟨g,0,none⟩) (n+1) c∧n+1≤c∧n≤1000000∧V<4294967296^(n+1)∧4294967296^n≤V∧g≠z∧ ∃cs,w.heap[g]? =some (.cells cs 66 (0,0))∧ ∀j,j<n+1→cs[j]? =some (.int .u32 (wd V j:Int))
theorem NatV.fr {w w':World} {z:Nat} {v:Value} {V:Nat} {S:List Nat} (h:NatV w z v V) (hf:Fr S w w') (hs: ∀k,k∈S→k=z∨w.heap.size≤k):NatV w' z v V:=by
 rcases h with h|⟨g,n,c,h1,h2,h3,h4,h5,h6,cs,h7,h8⟩
 ·exact .inl h
 ·exact .inr ⟨g,n,c,h1,h2,h3,h4,h5,h6,cs,hf.blk h7 (fun hm=>by rcases hs g hm with e|e;exact h6 e;have:=blk_lt' h7;omega),h8⟩
theorem norm {w:World} {z g n c V:Nat} {cs:Array Value} (hnc:n≤c) (hn:n≤1000001) (hV:V<4294967296^n) (hg:g≠z) (hb:w.heap[g]? =some (.cells cs 66 (0,0))) (hc: ∀j,j<n→cs[j]? =some (.int .u32 (wd V j:Int))):
  Calls Tryz.prog 178 #[.slice (some ⟨g,0,none⟩) n c] w fun e w'=>w'=w∧ ∃v,e= .returned v∧NatV w z v V:=by
 replace hc:=Hz hc;replace hb:=Hz hb;replace hV:=Hz hV;go_enter Tryz.func178,Tryz.ntmps178
 go_wp2
 go_loopg [0] n (fun gk v0 wr=>v0= .slice (some ⟨g,0,none⟩) gk c∧gk≤n∧Hid (V<4294967296^gk)∧w=wr)
 case atStart=>exact ⟨rfl,Nat.le_refl _,hV,rfl⟩
 case round=>
  obtain ⟨rfl,hk,hVk,rfl⟩:=hrel;by_cases hk0:gk=0
  ·subst hk0;go_wp2;go_ret
   have h0:V=0:=by have:=hVk.out;simp at this;omega
   exact ⟨rfl,_,rfl,.inl ⟨h0,_,_,rfl⟩⟩
  ·obtain ⟨k,rfl⟩: ∃k,gk=k+1:=⟨gk-1,by omega⟩
   have hx:=cell_blk hb.out k;rw [hc.out k (by omega)] at hx
   have t0:(0:Int)<((k+1:Nat):Int):=by omega
   have t1:(0:Int)<(k:Int)+1:=by omega
   by_cases hz:wd V k=0
   ·have e0:((wd V k:Int)==0)=true:=by simp [hz]
    have e1:(wd V k:Int)=0:=by omega
    have hV2:=Hz (norm_down hVk.out hz);go_wp2
    go_roundg k
    case measure=>omega
    case rel=>exact ⟨rfl,by omega,hV2,rfl⟩
   ·have e0:((wd V k:Int)==0)=false:=by simp [hz]
    have e1: ¬(wd V k:Int)=0:=by omega
    have hV2:=Hz (norm_top hVk.out hz);clear hz;go_wp2;go_ret
    exact ⟨rfl,_,rfl,.inr ⟨g,k,c,rfl,by omega,by omega,hVk.out,hV2.out,hg,cs,hb.out,fun j hj=>hc.out j (by omega)⟩⟩
theorem natOf (w:World) (z V:Nat) (hz:z<w.heap.size) (hV:V<18446744073709551616):Calls Tryz.prog 164 #[.int .u64 (V:Int)] w fun e w'=> ∃v,e= .returned v∧NatV w' z v V∧Fr [] w w':=by
 have e0:wd V 0=V%4294967296:=by unfold wd;rw [Nat.pow_zero,Nat.div_one]
 have e1:wd V 1=V/4294967296:=by unfold wd;rw [Nat.pow_one];omega
 have s0:IntKind.u32.wrap (V:Int)=(wd V 0:Int):=by rw [e0];simp only [IntKind.wrap,IntKind.bits,IntKind.signed];simp
 have s1:IntKind.u32.wrap ((V:Int)/4294967296)=(wd V 1:Int):=by rw [e1];simp only [IntKind.wrap,IntKind.bits,IntKind.signed];simp;omega
 have KN:=Hz (norm (w:=w.alloc (.cells #[.int .u32 (wd V 0:Int),.int .u32 (wd V 1:Int)] 66 (0,0))) (z:=z) (g:=w.heap.size) (n:=2) (c:=2) (V:=V) (by omega) (by omega) (by omega) (by omega) (blk_new w _) (fun j hj=>by
  rcases (show j=0∨j=1 by omega) with rfl|rfl<;>rfl))
 clear e0 e1;replace hV:=Hz hV;replace hz:=Hz hz;go_enter Tryz.func164,Tryz.ntmps164
 go_wp2_with (go_at_call 178;refine KN.out.mono ?_;rintro e w1 ⟨rfl,v,rfl,hv⟩)
 go_ret
 exact ⟨v,rfl,hv,(Fr.refl [] w).alloc _⟩
theorem mk32 (n:Nat) (hn:n≤2000000) (w:World):(Instr.makeSlice 219 (.int .i64 (n:Int)) (.int .i64 (n:Int))).run Tryz.prog w= .ok (.slice (some ⟨w.heap.size,0,none⟩) n n) (w.alloc (.cells (madeCells #[.int .u32 0] n) 66)):=
 run_make_row' (P:=Tryz.prog) 219 66 (.int .u32 0) 4 Tryz.underlying219 (by kernel_rfl) rfl .i64 .i64 n (by omega) (by omega) w
theorem orw32 (a b:Nat) (hb:b<4294967296):a*4294967296|||b=a*4294967296+b:=by
 have:=Nat.two_pow_add_eq_or_of_lt (i:=32) (b:=b) hb a;rw [show (2:Nat)^32=4294967296 by decide] at this
 rw [Nat.mul_comm,this]
theorem orU (R d:Nat) (hR:R<4294967296) (hd:d<4294967296):bits .or .u64 ((R:Int)*4294967296) (d:Int)=((R*4294967296+d:Nat):Int):=by
 have o1:=u64_or_nat (R*4294967296) d (by omega) (by omega)
 rw [orw32 _ _ hd] at o1;rw [←o1]
 rfl
theorem mc_size (n:Nat):(madeCells #[Value.int .u32 0] n).size=n:=by unfold madeCells;simp
theorem mc_get (n j:Nat) (h:j<n):(madeCells #[Value.int .u32 0] n)[j]? =some (.int .u32 0):=by
 have:=mc_size n;unfold madeCells at *
 simp [h,Nat.mod_one]
theorem NatV.open_ {w:World} {z V:Nat} {v:Value} (h:NatV w z v V): ∃ao n c,v= .slice ao n c∧n≤1000001∧V<4294967296^n∧ ∀j,j<n→ ∃g,ao=some ⟨g,0,none⟩∧g<w.heap.size∧w.cell? ⟨g,j,none⟩=some (.int .u32 (wd V j:Int)):=by
 rcases h with ⟨h0,ao,c,hv⟩|⟨g,n,c,h1,h2,h3,h4,h5,h6,cs,h7,h8⟩
 ·exact ⟨ao,0,c,hv,by omega,by rw [h0];decide,fun j hj=>by omega⟩
 ·exact ⟨_,n+1,c,h1,by omega,h4,fun j hj=>⟨g,rfl,blk_lt' h7,(cell_blk h7 j).trans (h8 j hj)⟩⟩
theorem divW {w:World} {z V y:Nat} {v:Value} (h:NatV w z v V) (hy:0<y) (hy2:y<4294967296) (hz:z<w.heap.size):
  Calls Tryz.prog 206 #[v,.int .u32 (y:Int)] w fun e w'=> ∃q,e= .returned (.tuple #[q,.int .u32 ((V%y:Nat):Int)])∧NatV w' z q (V/y)∧Fr [] w w':=by
 obtain ⟨ao,n,c,rfl,hn,hV,hcell⟩:=h.open_;have hm:=mk32 n (by omega)
 replace h:=Hz h;replace hV:=Hz hV;replace hcell:=Hz hcell;replace hz:=Hz hz;go_enter Tryz.func206,Tryz.ntmps206
 go_wp2
 go_loopg [7,8] n (fun gk v7 v8 wr=>v7= .int .u64 ((V/4294967296^gk%y:Nat):Int)∧v8= .int .i64 ((gk:Int)-1)∧gk≤n∧ ∃cs,Hid (wr.heap[w.heap.size]? =some (.cells cs 66 (0,0)))∧cs.size=n∧Hid (∀j,gk≤j→j<n→cs[j]? =some (.int .u32 (wd (V/y) j:Int)))∧Hid (Fr [] w wr))
 case atStart=>
  refine ⟨?_,?_,Nat.le_refl _,_,Hz (blk_new w _),mc_size n,Hz (fun j h1 h2=>by omega),Hz ((Fr.refl [] w).alloc _)⟩
  ·rw [Nat.div_eq_of_lt hV.out,Nat.zero_mod];rfl
  ·first|rfl|go_num
 case round=>
  obtain ⟨rfl,rfl,hk,cs,hb,hcs,hdone,hF⟩:=hrel;by_cases hk0:gk=0
  ·subst hk0;have e0:V/4294967296^0%y=V%y:=by rw [Nat.pow_zero,Nat.div_one]
   rw [e0];have hl:V%y<4294967296:=Nat.lt_trans (Nat.mod_lt _ hy) hy2;have KN:=Hz (norm (w:=wr) (z:=z) (g:=w.heap.size) (n:=n) (c:=n) (V:=V/y) (Nat.le_refl _) hn (Nat.lt_of_le_of_lt (Nat.div_le_self _ _) hV.out) (by have:=hz.out;omega) hb.out (fun j hj=>hdone.out j (by omega) hj))
   have s0:IntKind.u32.wrap ((V%y:Nat):Int)=((V%y:Nat):Int):=by simp only [IntKind.wrap,IntKind.bits,IntKind.signed];simp;omega
   generalize hmm:V%y=m at *
   replace hmm:=Hz hmm;go_wp2_with (go_at_call 178;refine KN.out.mono ?_;rintro e w1 ⟨rfl,v,rfl,hv⟩)
   first|go_ret2|go_ret
   exact ⟨v,by rw [hmm.out];rfl,hv,hF.out⟩
  ·obtain ⟨k,rfl⟩: ∃k,gk=k+1:=⟨gk-1,by omega⟩
   obtain ⟨g,rfl,hgs,hx⟩:=hcell.out k (by omega)
   have hx2:=hF.out.cell hx (by simp)
   have k1:((k+1:Nat):Int)-1=(k:Int):=by omega
   have k2:(k:Int)+1-1=(k:Int):=by omega
   have k3:(0:Int)≤(k:Int):=by omega
   obtain ⟨d1,d2,d3⟩:=wd_div V y k hy hy2;have hR:V/4294967296^(k+1)%y<4294967296:=Nat.lt_trans (Nat.mod_lt _ hy) hy2;have hd:=wd_lt V k;have hq:=wd_lt (V/y) k;generalize V/4294967296^(k+1)%y=R at *
   generalize hR2:V/4294967296^k%y=R2 at *
   replace hR2:=Hz hR2;generalize hqq:wd (V/y) k=q at *
   replace hqq:=Hz hqq;generalize wd V k=d at *
   have o1:=orU R d hR hd;obtain ⟨T,hT⟩: ∃T,T=R*4294967296+d:=⟨_,rfl⟩;rw [←hT] at o1 d1 d2 d3;have t1:(T:Int).tdiv (y:Int)=(q:Int):=by rw [Int.tdiv_eq_ediv_of_nonneg (by omega),←d1];rfl
   have t2:(T:Int).tmod (y:Int)=(R2:Int):=by rw [Int.tmod_eq_emod_of_nonneg (by omega),←d2];rfl
   have t3:(T:Int)/(y:Int)=(q:Int):=by rw [←d1];rfl
   have t4:(T:Int)%(y:Int)=(R2:Int):=by rw [←d2];rfl
   have s0:IntKind.u32.wrap (q:Int)=(q:Int):=by simp only [IntKind.wrap,IntKind.bits,IntKind.signed];simp;omega
   have hy0: ¬(y:Int)=0:=by omega
   replace d1:=Hz d1;replace d2:=Hz d2;replace d3:=Hz d3;replace hT:=Hz hT;have hc2:wr.cell? ⟨w.heap.size,k,none⟩=some (cs[k]'(by omega)):=by rw [cell_blk hb.out];exact Array.getElem?_eq_getElem _
   have hf2:=frozen_blk hb.out k;have hne:g≠w.heap.size:=by omega
   go_wp2
   go_roundg k
   case measure=>omega
   case rel=>
    refine ⟨by rw [hR2.out],by first|rfl|(congr 1;omega),by omega,_,Hz (blk_setCell hb.out k _),by simpa using hcs,Hz (fun j h1 h2=> ?_),Hz (hF.out.setCell (.inr (Nat.le_refl _)) _)⟩
    by_cases hj:j=k
    ·subst hj;rw [Array.getElem?_setIfInBounds_self_of_lt (by omega),hqq.out]
    ·rw [Array.getElem?_setIfInBounds_ne (fun e=>hj e.symm)]
     exact hdone.out j (by omega) h2
end
section
open Go.RowKit
theorem Row.raw2 {w:World} {B:Nat} {v:Value} {bs:List UInt8} (h:Row w B v bs) (hne:bs≠[]): ∃g cap cs,v= .slice (some ⟨g,0,none⟩) bs.length cap∧B≤g∧w.heap[g]? =some (.cells cs 5 (0,0))∧bs.length≤cap∧cs.size=cap∧ ∀q,(h:q<bs.length)→cs[q]? =some (.int .u8 (bs[q].toNat:Int)):=by
 rcases h.2 with ⟨_,h0⟩|⟨g,cap,cur,rfl,hg,hh,hc,_,hs,ht⟩
 ·exact absurd (List.eq_nil_of_length_eq_zero h0) hne
 ·refine ⟨g,cap,cur,rfl,hg,hh,hc,by omega,fun q hq=> ?_⟩
  have h1:(cur.toList.take (bs.length*1))[q]? =(enc bs)[q]? :=by rw [ht]
  rw [Nat.mul_one,List.getElem?_take_of_lt hq,Array.getElem?_toList] at h1;rw [h1];simp [enc,hq]
def TxtI (V R:Nat) (S:List UInt8):Prop:=(R=0→S.reverse=dec V)∧(R≠0→dec R++S.reverse=dec V)
theorem TxtI.step {V R:Nat} {S:List UInt8} (h:TxtI V R S) (hR:R≠0):TxtI V (R/10) (S++[(48+R%10).toUInt8]):=by
 have h2:=h.2 hR;by_cases h10:R<10
 ·rw [dec_lt _ h10] at h2;refine ⟨fun _=> ?_,fun e=>by omega⟩
  rw [List.reverse_append,List.reverse_singleton,Nat.mod_eq_of_lt h10];exact h2
 ·rw [dec_ge _ h10] at h2;refine ⟨fun e=>by omega,fun _=> ?_⟩
  rw [List.reverse_append,List.reverse_singleton,←h2,List.append_assoc]
theorem TxtI.eq {V R R':Nat} {S:List UInt8} (h:TxtI V R S) (e:R=R'):TxtI V R' S:=e▸h
theorem digit62: ∀j:Fin 10,((⟨#[48,49,50,51,52,53,54,55,56,57,97,98,99,100,101,102,103,104,105,106,107,108,109,110,111,112,113,114,115,116,117,118,119,120,121,122,65,66,67,68,69,70,71,72,73,74,75,76,77,78,79,80,81,82,83,84,85,86,87,88,89,90]⟩:ByteArray)[j.val]'(by have:=j.isLt;show _<62;omega)).toNat=(48+j.val).toUInt8.toNat:=by decide
theorem NatV.grown {w w':World} {z V B:Nat} {v u:Value} {S:List UInt8} (h:NatV w z v V) (hr:Row w B u S) (hg:w.grownBy w' u.ownBlock):NatV w' z v V:=by
 rcases h with h|⟨g,n,c,h1,h2,h3,h4,h5,h6,cs,h7,h8⟩
 ·exact .inl h
 ·refine .inr ⟨g,n,c,h1,h2,h3,h4,h5,h6,cs,(hg.block g (blk_lt' h7) (fun e=> ?_)).trans h7,h8⟩
  rcases hr.2 with ⟨hv,_⟩|⟨k,cap,cur,rfl,_,hh,_⟩
  ·rw [hv] at e;cases e
  ·simp only [Value.ownBlock,Option.some.injEq] at e;subst e;rw [h7] at hh;injection hh with hh
   injection hh with _ h5 _
   exact absurd h5 (by decide)
theorem NatV.len {w:World} {z V:Nat} {ao:Option Addr} {n c:Nat} (h:NatV w z (.slice ao n c) V):(n=0∧V=0)∨(0<n∧0<V):=by
 rcases h with ⟨h0,a,c,hv⟩|⟨g,n,c,h1,h2,h3,h4,h5,h6⟩
 ·injection hv with _ e _;exact .inl ⟨e,h0⟩
 ·injection h1 with _ e _;exact .inr ⟨by omega,Nat.lt_of_lt_of_le (pos32 n) h5⟩
theorem TxtI.len {V R:Nat} {S:List UInt8} (h:TxtI V R S):S.length≤(dec V).length:=by
 by_cases e:R=0
 ·rw [←h.1 e];simp
 ·rw [←h.2 e];simp
def swp (T:List UInt8) (i p:Nat):UInt8:=if p<i∨T.length≤p+i then T.getD (T.length-1-p) 0 else T.getD p 0
theorem swp_set {T:List UInt8} {i j p:Nat} (hij:i+j+1=T.length) (hlt:i<j):swp T (i+1) p=if p=j then T.getD i 0 else if p=i then T.getD j 0 else swp T i p:=by
 unfold swp;by_cases h1:p=j
 ·subst h1;rw [if_pos (by omega),if_pos rfl,show T.length-1-p=i by omega]
 ·rw [if_neg h1];by_cases h2:p=i
  ·subst h2;rw [if_pos (by omega),if_pos rfl,show T.length-1-p=j by omega]
  ·rw [if_neg h2];by_cases h3:p<i∨T.length≤p+i
   ·rw [if_pos h3,if_pos (by omega)]
   ·rw [if_neg h3,if_neg (by omega)]
theorem swp_end {T:List UInt8} {i j p:Nat} (hij:i+j+1=T.length) (hge: ¬i<j) (h2:2*i≤T.length) (hp:p<T.length):swp T i p=T.reverse.getD p 0:=by
 have e:T.reverse.getD p 0=T.getD (T.length-1-p) 0:=by
  rw [List.getD_eq_getElem?_getD,List.getD_eq_getElem?_getD,List.getElem?_reverse hp]
 rw [e];unfold swp;by_cases h3:p<i∨T.length≤p+i
 ·rw [if_pos h3]
 ·rw [if_neg h3]
  congr 1
  omega
theorem natText {w:World} {z V:Nat} {v:Value} (neg:Bool) (h:NatV w z v V) (hz:z<w.heap.size) (h0:0<V) (hV:(dec V).length≤100000000):
  Calls Tryz.prog 197 #[v,.bool neg,.int .i64 10] w fun e w'=> ∃g c,e= .returned (.slice (some ⟨g,0,none⟩) ((if neg then [45] else [])++dec V).length c)∧Rd w' g 0 ((if neg then [45] else [])++dec V)∧Fr [] w w':=by
 have hv0:=h;obtain ⟨ao,n,c,rfl,hn,hVl,_⟩:=h.open_;have hn0:n≠0:=by intro e;subst e;simp at hVl;omega
 have t0:((n:Int)==0)=false:=by simp;omega
 have t1: ¬(n:Int)=0:=by omega
 replace h:=Hz h;replace hv0:=Hz hv0;replace hVl:=Hz hVl;replace hz:=Hz hz;clear hn0;go_enter Tryz.func197,Tryz.ntmps197
 go_wp2
 go_loopg [7,8] 8 (fun gk v7 v8 wr=>gk≤8∧v7= .int .u64 ((10^(9-gk):Nat):Int)∧v8= .int .i64 ((9-gk:Nat):Int)∧w=wr)
 case atStart=>exact ⟨Nat.le_refl _,rfl,rfl,rfl⟩
 case round=>
  obtain ⟨hk,rfl,rfl,rfl⟩:=hrel;by_cases hk0:gk=0
  ·subst hk0;go_wp2
   go_loopg [0,9] V (fun gk v0 v9 wr=> ∃S:List UInt8,Hid (NatV wr z v0 gk)∧Hid (TxtI V gk S)∧Hid (Row wr w.heap.size v9 S)∧Hid (Fr [] w wr))
   case atStart=>exact ⟨[],hv0,Hz ⟨fun e=>by omega,fun _=>by simp⟩,Hz (Row.nil _ _),Hz (Fr.refl _ _)⟩
   case round=>
    obtain ⟨S,hx,htx,hrow,hF⟩:=hrel;obtain ⟨ao1,n1,c1,rfl,hn1,_,_⟩:=hx.out.open_;obtain ⟨ao2,n2,c2,rfl⟩:=hrow.out.shape;rcases hx.out.len with ⟨rfl,rfl⟩|⟨hl1,hX⟩
    ·have hrev:=htx.out.1 rfl;cases neg
     ·obtain ⟨T,hT⟩: ∃T,T=S:=⟨_,rfl⟩;rw [←hT] at hrow hrev htx;have hTl:=htx.out.len;have hTr:T.reverse=(if false=true then [45] else [])++dec V:=by rw [hrev];rfl
      clear hrev;have hTne:T≠[]:=by intro e;rw [e] at hTr;simp at hTr;exact absurd hTr (dec_ne V)
      obtain ⟨g,cap,cs,hv,hBg,hhb,hcap,hcs,hcl⟩:=Row.raw2 hrow.out hTne;injection hv with e1 e2 e3
      subst e1 e2 e3;have hT0:0<T.length:=List.length_pos_iff.2 hTne;have hTl2:T.length≤100000001:=by omega
      have hTz:Hid (T.length=T.length):=Hz rfl;have hdg:Hid (∀p,p<T.length→cs[p]? =some (.int .u8 ((swp T 0 p).toNat:Int))):=Hz (fun p hp=>by
       rw [hcl p hp];unfold swp;rw [if_neg (by omega),List.getD_eq_getElem?_getD,List.getElem?_eq_getElem hp]
       rfl)
      replace hhb:=Hz hhb;obtain ⟨m,hm⟩: ∃m,m=T.length:=⟨_,rfl⟩;have hm1:IntKind.i64.wrap ((m:Int)-1)=((m-1:Nat):Int):=by rw [IntWalk.i64_in _ (by omega)];omega
      rw [←hm] at hcap hT0 hTl2 hdg;rw [←hm];replace hm:=Hz hm;replace hT:=Hz hT;replace hTl:=Hz hTl;replace hhv:=Hz hcap;clear hcl;replace hTr:=Hz hTr;replace hFT:=Hz hF.out;go_wp2
      go_loopg [12,13] m (fun gk v12 v13 wz=> ∃(i j:Nat) (ds:Array Value),v12= .int .i64 (i:Int)∧v13= .int .i64 (j:Int)∧i+gk=m∧i+j+1=m∧2*i≤m∧Hid (wz.heap[g]? =some (.cells ds 5 (0,0)))∧ds.size=cs.size∧Hid (∀p,p<m→ds[p]? =some (.int .u8 ((swp T i p).toNat:Int)))∧Hid (Fr [] w wz))
      case atStart=>exact ⟨0,m-1,cs,by go_num,by first|rfl|go_num|(congr 1;omega),by omega,by omega,by omega,hhb,rfl,hdg,hFT⟩
      case round=>
       obtain ⟨i,j,ds,rfl,rfl,hig,hij,h2i,hbz,hds,hall,hFz⟩:=hrel;by_cases hlt:i<j
       ·obtain ⟨gz,rfl⟩: ∃gz,gk=gz+1:=⟨gk-1,by omega⟩
        have q1:(i:Int)<(j:Int):=by omega
        have ci:=cell_blk hbz.out i;have cj:=cell_blk hbz.out j;have fi:=frozen_blk hbz.out i;have fj:=frozen_blk hbz.out j;rw [hall.out i (by omega)] at ci
        rw [hall.out j (by omega)] at cj
        have si:swp T i i=T.getD i 0:=if_neg (by have:=hm.out;omega)
        have sj:swp T i j=T.getD j 0:=if_neg (by have:=hm.out;omega)
        rw [si] at ci;rw [sj] at cj;have hm2:=hm.out;have sw:=fun p=>swp_set (T:=T) (p:=p) (show i+j+1=T.length by omega) hlt
        clear hm2;replace sw:=Hz sw;clear si sj;generalize hxi:T.getD i 0=xi at *
        generalize hxj:T.getD j 0=xj at *
        have hne: ¬i=j:=by omega
        have hne2: ¬j=i:=by omega
        have q2:(i:Int)<(m:Int):=by omega
        have q3:(j:Int)<(m:Int):=by omega
        have s1:IntKind.i64.wrap ((j:Int)-1)=((j-1:Nat):Int):=by rw [IntWalk.i64_in _ (by omega)];omega
        have s2:IntKind.i64.wrap ((i:Int)+1)=((i+1:Nat):Int):=by rw [IntWalk.i64_in _ (by omega)];omega
        go_wp2
        go_region
        go_wp2
        go_roundg gz
        case measure=>omega
        case rel=>
         refine ⟨i+1,j-1,(ds.setIfInBounds i (.int .u8 (xj.toNat:Int))).setIfInBounds j (.int .u8 (xi.toNat:Int)),by first|rfl|go_num|(congr 1;omega),by first|rfl|go_num|(congr 1;omega),by omega,by omega,by omega,Hz ?_,by simpa using hds,Hz (fun p hp=> ?_),Hz ?_⟩
         ·first|exact blk_setCell (blk_setCell (show wr.drew.heap[g]? =_ from hbz.out) i _) j _|(rw [blk_setCell (blk_setCell (show wr.drew.heap[g]? =_ from hbz.out) j _) i _,Array.setIfInBounds_comm _ _ hne2])
         ·rw [sw.out p];by_cases h1:p=j
          ·subst h1;rw [if_pos rfl,Array.getElem?_setIfInBounds_self_of_lt (by simp;omega)]
          ·rw [if_neg h1,Array.getElem?_setIfInBounds_ne (fun e=>h1 e.symm)]
           by_cases h2:p=i
           ·subst h2;rw [if_pos rfl,Array.getElem?_setIfInBounds_self_of_lt (by omega)]
           ·rw [if_neg h2,Array.getElem?_setIfInBounds_ne (fun e=>h2 e.symm)]
            exact hall.out p hp
         ·first|exact ((hFz.out.drew).setCell (.inr hBg) _).setCell (.inr hBg) _|exact (((hFz.out.drew).setCell (.inr hBg) _).setCell (.inr hBg) _).drew
       ·have q1: ¬(i:Int)<(j:Int):=by omega
        have hend:Hid (Rd wr g 0 T.reverse):=Hz (fun p hp=>by
         have hp2:p<T.length:=by simpa using hp
         have hm2:=hm.out;rw [Nat.zero_add,cell_blk hbz.out p,hall.out p (by omega),swp_end (j:=j) (by omega) hlt (by omega) hp2,List.getD_eq_getElem?_getD,List.getElem?_eq_getElem hp]
         rfl)
        go_wp2;go_ret
        rw [hTr.out] at hend;have hlen:m=((if false=true then [45] else [])++dec V).length:=by have e:=congrArg List.length hTr.out;rw [List.length_reverse] at e;rw [hm.out,e];try simp
        rw [hlen]
        first|exact ⟨g,_,rfl,hend.out,hFz.out⟩|exact ⟨g,⟨_,rfl⟩,hend.out,hFz.out⟩
     ·obtain ⟨T,hT⟩: ∃T,T=S++[45]:=⟨_,rfl⟩;have hSl:=htx.out.len;have hTr:T.reverse=(if true=true then [45] else [])++dec V:=by rw [hT,List.reverse_append,hrev];rfl
      have hlS:Hid (S.length+([45]:List UInt8).length≤140737488355328):=Hz (by simp;omega)
      go_wp2_with (at_builtin;refine wpList_apRow rfl _ _ rfl (B:=w.heap.size) _ S [45] wr.heap.size 0 1 rfl rfl (rd_new (w:=wr) rfl rfl) (hrow.out.push rfl) (by have:=hF.out.size;simp;omega) hlS.out ?_)
      intro vT wT hrT hgT;have hFT0:Fr [] w wT:=Fr.grown (hF.out.alloc _) hgT (fun k hk=> .inr (World.ownsRow.lt hrow.out k hk).1)
      obtain ⟨aoT,nT,cT,rfl⟩:=hrT.shape;rw [←hT] at hrT;have hTl:T.length≤(dec V).length+1:=by rw [hT];simp;omega
      have hTne:T≠[]:=by intro e;rw [e] at hTr;simp at hTr
      obtain ⟨g,cap,cs,hv,hBg,hhb,hcap,hcs,hcl⟩:=Row.raw2 hrT hTne;injection hv with e1 e2 e3
      subst e1 e2 e3;have hT0:0<T.length:=List.length_pos_iff.2 hTne;have hTl2:T.length≤100000001:=by omega
      have hTz:Hid (T.length=T.length):=Hz rfl;have hdg:Hid (∀p,p<T.length→cs[p]? =some (.int .u8 ((swp T 0 p).toNat:Int))):=Hz (fun p hp=>by
       rw [hcl p hp];unfold swp;rw [if_neg (by omega),List.getD_eq_getElem?_getD,List.getElem?_eq_getElem hp]
       rfl)
      replace hhb:=Hz hhb;obtain ⟨m,hm⟩: ∃m,m=T.length:=⟨_,rfl⟩;have hm1:IntKind.i64.wrap ((m:Int)-1)=((m-1:Nat):Int):=by rw [IntWalk.i64_in _ (by omega)];omega
      rw [←hm] at hcap hT0 hTl2 hdg;rw [←hm];replace hm:=Hz hm;replace hT:=Hz hT;replace hTl:=Hz hTl;replace hhv:=Hz hcap;clear hcl;replace hTr:=Hz hTr;replace hFT:=Hz hFT0;go_wp2
      go_loopg [12,13] m (fun gk v12 v13 wz=> ∃(i j:Nat) (ds:Array Value),v12= .int .i64 (i:Int)∧v13= .int .i64 (j:Int)∧i+gk=m∧i+j+1=m∧2*i≤m∧Hid (wz.heap[g]? =some (.cells ds 5 (0,0)))∧ds.size=cs.size∧Hid (∀p,p<m→ds[p]? =some (.int .u8 ((swp T i p).toNat:Int)))∧Hid (Fr [] w wz))
      case atStart=>exact ⟨0,m-1,cs,by go_num,by first|rfl|go_num|(congr 1;omega),by omega,by omega,by omega,hhb,rfl,hdg,hFT⟩
      case round=>
       obtain ⟨i,j,ds,rfl,rfl,hig,hij,h2i,hbz,hds,hall,hFz⟩:=hrel;by_cases hlt:i<j
       ·obtain ⟨gz,rfl⟩: ∃gz,gk=gz+1:=⟨gk-1,by omega⟩
        have q1:(i:Int)<(j:Int):=by omega
        have ci:=cell_blk hbz.out i;have cj:=cell_blk hbz.out j;have fi:=frozen_blk hbz.out i;have fj:=frozen_blk hbz.out j;rw [hall.out i (by omega)] at ci
        rw [hall.out j (by omega)] at cj
        have si:swp T i i=T.getD i 0:=if_neg (by have:=hm.out;omega)
        have sj:swp T i j=T.getD j 0:=if_neg (by have:=hm.out;omega)
        rw [si] at ci;rw [sj] at cj;have hm2:=hm.out;have sw:=fun p=>swp_set (T:=T) (p:=p) (show i+j+1=T.length by omega) hlt
        clear hm2;replace sw:=Hz sw;clear si sj;generalize hxi:T.getD i 0=xi at *
        generalize hxj:T.getD j 0=xj at *
        have hne: ¬i=j:=by omega
        have hne2: ¬j=i:=by omega
        have q2:(i:Int)<(m:Int):=by omega
        have q3:(j:Int)<(m:Int):=by omega
        have s1:IntKind.i64.wrap ((j:Int)-1)=((j-1:Nat):Int):=by rw [IntWalk.i64_in _ (by omega)];omega
        have s2:IntKind.i64.wrap ((i:Int)+1)=((i+1:Nat):Int):=by rw [IntWalk.i64_in _ (by omega)];omega
        go_wp2
        go_region
        go_wp2
        go_roundg gz
        case measure=>omega
        case rel=>
         refine ⟨i+1,j-1,(ds.setIfInBounds i (.int .u8 (xj.toNat:Int))).setIfInBounds j (.int .u8 (xi.toNat:Int)),by first|rfl|go_num|(congr 1;omega),by first|rfl|go_num|(congr 1;omega),by omega,by omega,by omega,Hz ?_,by simpa using hds,Hz (fun p hp=> ?_),Hz ?_⟩
         ·first|exact blk_setCell (blk_setCell (show wr.drew.heap[g]? =_ from hbz.out) i _) j _|(rw [blk_setCell (blk_setCell (show wr.drew.heap[g]? =_ from hbz.out) j _) i _,Array.setIfInBounds_comm _ _ hne2])
         ·rw [sw.out p];by_cases h1:p=j
          ·subst h1;rw [if_pos rfl,Array.getElem?_setIfInBounds_self_of_lt (by simp;omega)]
          ·rw [if_neg h1,Array.getElem?_setIfInBounds_ne (fun e=>h1 e.symm)]
           by_cases h2:p=i
           ·subst h2;rw [if_pos rfl,Array.getElem?_setIfInBounds_self_of_lt (by omega)]
           ·rw [if_neg h2,Array.getElem?_setIfInBounds_ne (fun e=>h2 e.symm)]
            exact hall.out p hp
         ·first|exact ((hFz.out.drew).setCell (.inr hBg) _).setCell (.inr hBg) _|exact (((hFz.out.drew).setCell (.inr hBg) _).setCell (.inr hBg) _).drew
       ·have q1: ¬(i:Int)<(j:Int):=by omega
        have hend:Hid (Rd wr g 0 T.reverse):=Hz (fun p hp=>by
         have hp2:p<T.length:=by simpa using hp
         have hm2:=hm.out;rw [Nat.zero_add,cell_blk hbz.out p,hall.out p (by omega),swp_end (j:=j) (by omega) hlt (by omega) hp2,List.getD_eq_getElem?_getD,List.getElem?_eq_getElem hp]
         rfl)
        go_wp2;go_ret
        rw [hTr.out] at hend;have hlen:m=((if true=true then [45] else [])++dec V).length:=by have e:=congrArg List.length hTr.out;rw [List.length_reverse] at e;rw [hm.out,e];try simp
        rw [hlen]
        first|exact ⟨g,_,rfl,hend.out,hFz.out⟩|exact ⟨g,⟨_,rfl⟩,hend.out,hFz.out⟩
    ·have q0:(0:Int)<(n1:Int):=by omega
     have KD:=Hz (divW (w:=wr) (z:=z) (V:=gk) (y:=1000000000) hx.out (by omega) (by omega) (by have:=hz.out;have:=hF.out.size;omega))
     obtain ⟨X,hX2⟩: ∃X,X=gk/1000000000:=⟨_,rfl⟩;obtain ⟨r0,hr0⟩: ∃r,r=gk%1000000000:=⟨_,rfl⟩;have hXl:X<gk:=by rw [hX2];omega
     have hr1:r0<10^9:=by rw [hr0];omega
     have hsum:X*10^9+r0=gk:=by rw [hX2,hr0];omega
     rw [←hX2,←hr0] at KD;have htx2:=Hz (htx.out.eq hsum.symm);clear hX2 hr0;replace hsum:=Hz hsum;go_wp2_with (go_at_call 206;refine KD.out.mono ?_;rintro e w2 ⟨qv,rfl,hqv,hf2⟩)
     have hF2:=hF.out.trans hf2;have hrow2:=hrow.out.fr hf2 (by simp)
     obtain ⟨ao3,n3,c3,rfl,hn3,_,_⟩:=hqv.open_;have hlen3:=hqv.len;replace hqv:=Hz hqv;replace hF2:=Hz hF2;replace hrow2:=Hz hrow2;go_wp2;obtain ⟨gq,rfl⟩: ∃q,q=gk:=⟨gk,rfl⟩
     go_loopg [9,10,11] 9 (fun gi v9 v10 v11 wi=> ∃(i r:Nat) (T:List UInt8),v10= .int .u32 (r:Int)∧v11= .int .i64 (i:Int)∧i+gi=9∧r<10^gi∧r<1000000000∧Hid (TxtI V (X*10^gi+r) T)∧Hid (Row wi w.heap.size v9 T)∧Hid (NatV wi z (.slice ao3 n3 c3) X)∧Hid (Fr [] w wi))
     case atStart=>exact ⟨0,r0,S,rfl,by go_num,rfl,hr1,by omega,htx2,hrow2,hqv,hF2⟩
     case round=>
      obtain ⟨i,r,T,rfl,rfl,hig,hr,hr9,htxi,hrowi,hnv,hFi⟩:=hrel;obtain ⟨ao4,n4,c4,rfl⟩:=hrowi.out.shape;have t9:(i:Int)≤9:=by omega
      by_cases hg0:gk=0
      ·subst hg0;have hi9:i=9:=by omega
       have hr0:r=0:=by simp at hr;exact hr
       subst hi9;subst hr0;have htx3:=Hz (htxi.out.eq (show X*10^0+0=X by simp))
       go_wp2
       go_roundg X
       case measure=>omega
       case rel=>exact ⟨T,hnv,htx3,hrowi,hFi⟩
      ·obtain ⟨gj,rfl⟩: ∃gj,gk=gj+1:=⟨gk-1,by omega⟩
       have q1:(i:Int)<9:=by omega
       by_cases hR:X=0∧r=0
       ·obtain ⟨hX0,rfl⟩:=hR;have hn30:n3=0:=by omega
        subst hn30;have htx3:=Hz (htxi.out.eq (show X*10^(gj+1)+0=X by rw [hX0];simp))
        replace hX0:=Hz hX0;go_wp2
        go_roundg X
        case measure=>omega
        case rel=>exact ⟨T,hnv,htx3,hrowi,hFi⟩
       ·have hRne:X*10^(gj+1)+r≠0:=by
         intro e;have h1:X*10^(gj+1)=0:=by omega
         rcases Nat.mul_eq_zero.1 h1 with h1|h1
         ·exact hR ⟨h1,by omega⟩
         ·have:=Nat.pow_pos (n:=gj+1) (show 0<10 by decide);omega
        have hst:=htxi.out.step hRne;have hl:=htxi.out.len;rw [Nat.pow_succ] at hst hr;rw [show X*(10^gj*10)+r=(X*10^gj)*10+r by rw [Nat.mul_assoc]] at hst
        rw [show ((X*10^gj)*10+r)/10=X*10^gj+r/10 by omega,show ((X*10^gj)*10+r)%10=r%10 by omega] at hst
        have hr10:r/10<10^gj:=by omega
        have hdg:=congrArg (fun z:Nat=>(z:Int)) (digit62 ⟨r%10,by omega⟩)
        obtain ⟨cb,hcb⟩: ∃cb:UInt8,cb=(48+r%10).toUInt8:=⟨_,rfl⟩;have hcv:Hid ((((48+r%10).toUInt8.toNat:Nat):Int)=(48+(r:Int)%10)%256):=Hz (by simp)
        rw [←hcb] at hst hcv;replace hcb:=Hz hcb;replace hst:=Hz hst;replace hr10:=Hz hr10;clear hRne;rcases hlen3 with ⟨h3a,h3b⟩|⟨h3a,h3b⟩
        ·subst h3a;have q2: ¬(0:Int)<((0:Nat):Int):=by omega
         have q3:(0:Int)<(r:Int):=by omega
         have hl3:Hid (T.length+[cb].length≤140737488355328):=Hz (by simp;omega)
         go_wp2_with (at_builtin;refine wpList_apRow rfl _ _ rfl (B:=w.heap.size) _ T [cb] wr.heap.size 0 1 rfl rfl (rd_new (w:=wr) rfl (by simp only [enc,List.map_cons,List.map_nil];rw [hcv.out])) (hrowi.out.push rfl) (by have:=hFi.out.size;simp;omega) hl3.out ?_)
         intro v5 w5 hr5 hg5;have hF5:Fr [] w w5:=Fr.grown (hFi.out.alloc _) hg5 (fun k hk=> .inr (World.ownsRow.lt hrowi.out k hk).1)
         have hn5:=(hnv.out.fr ((Fr.refl [] wr).alloc _) (by simp)).grown (hrowi.out.push rfl) hg5
         replace hr5:=Hz hr5;replace hF5:=Hz hF5;replace hn5:=Hz hn5;go_wp2
         go_roundg gj
         case measure=>omega
         case rel=>exact ⟨i+1,r/10,T++[cb],by first|rfl|go_num|(congr 1;omega),by first|go_num|(congr 1;omega),by omega,hr10.out,by omega,hst,hr5,hn5,hF5⟩
        ·have q2:(0:Int)<(n3:Int):=by omega
         have hl3:Hid (T.length+[cb].length≤140737488355328):=Hz (by simp;omega)
         go_wp2_with (at_builtin;refine wpList_apRow rfl _ _ rfl (B:=w.heap.size) _ T [cb] wr.heap.size 0 1 rfl rfl (rd_new (w:=wr) rfl (by simp only [enc,List.map_cons,List.map_nil];rw [hcv.out])) (hrowi.out.push rfl) (by have:=hFi.out.size;simp;omega) hl3.out ?_)
         intro v5 w5 hr5 hg5;have hF5:Fr [] w w5:=Fr.grown (hFi.out.alloc _) hg5 (fun k hk=> .inr (World.ownsRow.lt hrowi.out k hk).1)
         have hn5:=(hnv.out.fr ((Fr.refl [] wr).alloc _) (by simp)).grown (hrowi.out.push rfl) hg5
         replace hr5:=Hz hr5;replace hF5:=Hz hF5;replace hn5:=Hz hn5;go_wp2
         go_roundg gj
         case measure=>omega
         case rel=>exact ⟨i+1,r/10,T++[cb],by first|rfl|go_num|(congr 1;omega),by first|go_num|(congr 1;omega),by omega,hr10.out,by omega,hst,hr5,hn5,hF5⟩
  ·rcases (show gk=1∨gk=2∨gk=3∨gk=4∨gk=5∨gk=6∨gk=7∨gk=8 by omega) with rfl|rfl|rfl|rfl|rfl|rfl|rfl|rfl
   ·go_wp2
    go_roundg 0
    case measure=>omega
    case rel=>exact ⟨by omega,rfl,rfl,rfl⟩
   ·go_wp2
    go_roundg 1
    case measure=>omega
    case rel=>exact ⟨by omega,rfl,rfl,rfl⟩
   ·go_wp2
    go_roundg 2
    case measure=>omega
    case rel=>exact ⟨by omega,rfl,rfl,rfl⟩
   ·go_wp2
    go_roundg 3
    case measure=>omega
    case rel=>exact ⟨by omega,rfl,rfl,rfl⟩
   ·go_wp2
    go_roundg 4
    case measure=>omega
    case rel=>exact ⟨by omega,rfl,rfl,rfl⟩
   ·go_wp2
    go_roundg 5
    case measure=>omega
    case rel=>exact ⟨by omega,rfl,rfl,rfl⟩
   ·go_wp2
    go_roundg 6
    case measure=>omega
    case rel=>exact ⟨by omega,rfl,rfl,rfl⟩
   ·go_wp2
    go_roundg 7
    case measure=>omega
    case rel=>exact ⟨by omega,rfl,rfl,rfl⟩
end
section
open Go.RowKit
theorem natCmp {w:World} {z z2 V U:Nat} {v u:Value} (h:NatV w z v V) (g:NatV w z2 u U):
  Calls Tryz.prog 194 #[v,u] w fun e w'=> ∃(c:Int) (n:Nat),e= .returned (.int .i64 c)∧w'=w.drewN n:=by
 obtain ⟨ao,n,c,rfl,hn,hV,hcell⟩:=h.open_;obtain ⟨ao2,n2,c2,rfl,hn2,hV2,hcell2⟩:=g.open_;clear h g hV hV2;replace hcell:=Hz hcell;replace hcell2:=Hz hcell2;go_enter Tryz.func194,Tryz.ntmps194
 by_cases hne:n=n2
 ·subst hne;have t0:((n:Int) !=(n:Int))=false:=by simp
  have s0:IntKind.i64.wrap ((n:Int)-1)=(n:Int)-1:=IntWalk.i64_in _ (by omega)
  go_wp2
  go_loopg [5] n (fun gk v5 wr=>v5= .int .i64 ((gk:Int)-1)∧gk≤n∧ ∃q,w.drewN q=wr)
  case atStart=>exact ⟨by first|rfl|go_num,Nat.le_refl _,0,rfl⟩
  case round=>
   obtain ⟨rfl,hk,q,rfl⟩:=hrel;by_cases hk0:gk=0
   ·subst hk0;go_wp2;go_ret
    exact ⟨_,q,rfl,rfl⟩
   ·obtain ⟨k,rfl⟩: ∃k,gk=k+1:=⟨gk-1,by omega⟩
    obtain ⟨g1,rfl,hg1,hx1⟩:=hcell.out k (by omega)
    obtain ⟨g2,rfl,hg2,hx2⟩:=hcell2.out k (by omega)
    have k1:((k+1:Nat):Int)-1=(k:Int):=by omega
    have k2:(k:Int)+1-1=(k:Int):=by omega
    have k3:(0:Int)≤(k:Int):=by omega
    have k4:IntKind.i64.wrap ((k:Int)-1)=(k:Int)-1:=IntWalk.i64_in _ (by omega)
    generalize wd V k=x at *
    generalize wd U k=y at *
    by_cases he:x=y
    ·subst he;go_wp2
     go_quiet (fail)
     go_wp2
     go_roundg k
     case measure=>omega
     case rel=>exact ⟨by first|rfl|(congr 1;omega),by omega,_,rfl⟩
    ·have e1:((x:Int) !=(y:Int))=true:=by simp;omega
     have e2:((x:Int)==(y:Int))=false:=by simp;omega
     by_cases hlt:x<y
     ·have e3:(x:Int)<(y:Int):=by omega
      clear he;go_wp2
      go_quiet (fail)
      go_wp2
      go_quiet (fail)
      go_wp2;go_ret
      exact ⟨_,_,rfl,(World.drewN_drewN ..).trans (World.drewN_drewN ..)⟩
     ·have e3: ¬(x:Int)<(y:Int):=by omega
      clear he;go_wp2
      go_quiet (fail)
      go_wp2
      go_quiet (fail)
      go_wp2;go_ret
      exact ⟨_,_,rfl,(World.drewN_drewN ..).trans (World.drewN_drewN ..)⟩
 ·have t0:((n:Int) !=(n2:Int))=true:=by simp;omega
  have t1: ¬(n:Int)=(n2:Int):=by omega
  by_cases hlt:n<n2
  ·have t2:(n:Int)<(n2:Int):=by omega
   go_wp2;go_ret
   first|exact ⟨_,0,rfl,rfl⟩|exact ⟨⟨_,rfl⟩,0,rfl⟩|(refine ⟨_,0,?_,?_⟩<;>rfl)
  ·have t2: ¬(n:Int)<(n2:Int):=by omega
   go_wp2;go_ret
   first|exact ⟨_,0,rfl,rfl⟩|exact ⟨⟨_,rfl⟩,0,rfl⟩|(refine ⟨_,0,?_,?_⟩<;>rfl)
end
section
open Go.RowKit
theorem pow32_le {a b:Nat} (h:a≤b):4294967296^a≤4294967296^b:=Nat.pow_le_pow_right (by decide) h
theorem sum_lt {V U n:Nat} (hV:V<4294967296^n) (hU:U<4294967296^n):V+U<4294967296^(n+1):=by
 rw [Nat.pow_succ];generalize 4294967296^n=p at *
 omega
theorem sum_top {V U n:Nat} (hV:V<4294967296^n) (hU:U<4294967296^n):wd (V+U) n=car V U n:=by
 have h:=(wd_add V U n).1;rw [wd_zero hV,wd_zero hU] at h;have:=car_le V U n;omega
theorem NatV.small {w:World} {z V k:Nat} {ao:Option Addr} {n c:Nat} (h:NatV w z (.slice ao n c) V) (hV:V<4294967296^k):n≤k:=by
 rcases h with ⟨h0,a,c,hv⟩|⟨g,m,c,h1,h2,h3,h4,h5,h6⟩
 ·injection hv with _ e _;omega
 ·injection h1 with _ e _
  have:=(Nat.pow_lt_pow_iff_right (a:=4294967296) (by decide)).1 (Nat.lt_of_le_of_lt h5 hV)
  omega
theorem natAdd {w:World} {z z2 V U k:Nat} {v u:Value} (h:NatV w z v V) (g:NatV w z2 u U) (hz:z<w.heap.size) (hk:k≤100000) (hVk:V<4294967296^k) (hUk:U<4294967296^k):
  Calls Tryz.prog 195 #[v,u] w fun e w'=> ∃q,e= .returned q∧NatV w' z q (V+U)∧Fr [] w w':=by
 obtain ⟨ao,n,c,rfl,hn,hV,hcell⟩:=h.open_;obtain ⟨ao2,n2,c2,rfl,hn2,hU,hcell2⟩:=g.open_;have hn3:=h.small hVk;have hn4:=g.small hUk;clear h g hVk hUk hn hn2;have hn:n≤100000:=by omega
 have hn2:n2≤100000:=by omega
 clear hn3 hn4;replace hz:=Hz hz;by_cases hlt:n<n2
 ·have t0:(n:Int)<(n2:Int):=by omega
  obtain ⟨M,hM⟩: ∃M,M=n2+1:=⟨_,rfl⟩;have hm: ∀W,(Instr.makeSlice 219 (.int .i64 ((n2:Int)+1)) (.int .i64 ((n2:Int)+1))).run Tryz.prog W= .ok (.slice (some ⟨W.heap.size,0,none⟩) M M) (W.alloc (.cells (madeCells #[.int .u32 0] M) 66)):=fun W=>by rw [show (n2:Int)+1=(M:Int) by omega];exact mk32 M (by omega) W
  have hMi:(n2:Int)<(M:Int):=by omega
  have hUA:V<4294967296^n2:=Nat.lt_of_lt_of_le hV (pow32_le (by omega))
  have hz0:Hid (∀i,n≤i→wd V i=0):=Hz (fun i hi=>wd_zero (Nat.lt_of_lt_of_le hV (pow32_le hi)))
  have htop:=Hz (sum_top hU hUA);have hsl:=Hz (sum_lt hU hUA);have hcomm:U+V=V+U:=by omega
  rw [hcomm] at htop hsl;have hadd:=Hz (fun i=>(by have:=wd_add U V i;rw [hcomm] at this;exact this:(car U V i+wd U i+wd V i)%4294967296=wd (V+U) i∧(car U V i+wd U i+wd V i)/4294967296=car U V (i+1)))
  have m1:IntKind.i64.wrap ((n2:Int)+1)=(n2:Int)+1:=IntWalk.i64_in _ (by omega)
  rw [←hM] at hsl;replace hM:=Hz hM;clear hV hU hUA hcomm;replace hcell:=Hz hcell;replace hcell2:=Hz hcell2;go_enter Tryz.func195,Tryz.ntmps195
  go_wp2
  go_loopg [6,21] n2 (fun gk v6 v21 wr=> ∃(i:Nat) (cs:Array Value),v21= .int .i64 (i:Int)∧i+gk=n2∧v6= .int .u64 ((car U V i:Nat):Int)∧Hid (wr.heap[w.heap.size]? =some (.cells cs 66 (0,0)))∧cs.size=M∧Hid (∀j,j<i→cs[j]? =some (.int .u32 (wd (V+U) j:Int)))∧Hid (Fr [] w wr))
  case atStart=>exact ⟨0,_,by go_num,by omega,by rw [car_zero];rfl,Hz (blk_new w _),mc_size _,Hz (fun j hj=>by omega),Hz ((Fr.refl [] w).alloc _)⟩
  case round=>
   obtain ⟨i,cs,rfl,hig,rfl,hb,hcs,hall,hF⟩:=hrel;have hcl:=car_le U V i;by_cases hi:i<n2
   ·obtain ⟨k,rfl⟩: ∃k,gk=k+1:=⟨gk-1,by omega⟩
    obtain ⟨d1,d2⟩:=hadd.out i;have ti:(i:Int)<(n2:Int):=by omega
    have ti3:(i:Int)<(M:Int):=by omega
    obtain ⟨ga,rfl,hga,hx⟩:=hcell2.out i hi;have hx1:=hF.out.cell hx (by simp)
    have hx32:=wd_lt U i;have hy32:=wd_lt V i;have hq:=wd_lt (V+U) i;have hMs:i<cs.size:=by have:=hM.out;omega
    obtain ⟨co,hc2⟩: ∃co,wr.cell? ⟨w.heap.size,i,none⟩=some co:=⟨_,by rw [cell_blk hb.out];exact Array.getElem?_eq_getElem hMs⟩
    replace hMs:=Hz hMs;have hf2:=frozen_blk hb.out i;have hne:ga≠w.heap.size:=by omega
    by_cases hi2:i<n
    ·have ti2:(i:Int)<(n:Int):=by omega
     obtain ⟨gb,rfl,hgb,hy⟩:=hcell.out i hi2;have hy1:=hF.out.cell hy (by simp)
     have hne2:gb≠w.heap.size:=by omega
     generalize hcc:car U V i=cc at *
     replace hcc:=Hz hcc;generalize hc3:car U V (i+1)=cc2 at *
     replace hc3:=Hz hc3;generalize wd U i=xa at *
     generalize wd V i=xb at *
     generalize hqq:wd (V+U) i=qa at *
     replace hqq:=Hz hqq;obtain ⟨Y,hY⟩: ∃Y,Y=cc+xa:=⟨_,rfl⟩;obtain ⟨T,hT⟩: ∃T,T=Y+xb:=⟨_,rfl⟩;rw [←hY,←hT] at d1 d2;have s1:IntKind.u64.wrap ((cc:Int)+(xa:Int))=(Y:Int):=by rw [IntWalk.u64_in _ (by omega)];omega
     have s6:(cc:Int)+(xa:Int)=(Y:Int):=by omega
     have s2:IntKind.u64.wrap ((Y:Int)+(xb:Int))=(T:Int):=by rw [IntWalk.u64_in _ (by omega)];omega
     have s7:(Y:Int)+(xb:Int)=(T:Int):=by omega
     have hY2:Y<4294967296*2:=by omega
     have hT2:T<4294967296*3:=by omega
     replace hY:=Hz hY;replace hT:=Hz hT;have s3:IntKind.u32.wrap (T:Int)=(qa:Int):=by simp only [IntKind.wrap,IntKind.bits,IntKind.signed];simp;omega
     have s4:(T:Int)/4294967296=(cc2:Int):=by omega
     have s5:(T:Int)%4294967296=(qa:Int):=by omega
     replace d1:=Hz d1;replace d2:=Hz d2;go_wp2
     go_roundg k
     case measure=>omega
     case rel=>
      refine ⟨i+1,_,by go_num,by omega,by rw [hc3.out],Hz (blk_setCell hb.out i _),by simpa using hcs,Hz (fun j hj=> ?_),Hz (hF.out.setCell (.inr (Nat.le_refl _)) _)⟩
      by_cases e:j=i
      ·subst e;rw [Array.getElem?_setIfInBounds_self_of_lt hMs.out,hqq.out]
      ·rw [Array.getElem?_setIfInBounds_ne (fun h=>e h.symm)]
       exact hall.out j (by omega)
    ·have ti2: ¬(i:Int)<(n:Int):=by omega
     have hy0:=hz0.out i (by omega)
     rw [hy0] at d1 d2;generalize hcc:car U V i=cc at *
     replace hcc:=Hz hcc;generalize hc3:car U V (i+1)=cc2 at *
     replace hc3:=Hz hc3;generalize wd U i=xa at *
     generalize hqq:wd (V+U) i=qa at *
     replace hqq:=Hz hqq;obtain ⟨T,hT⟩: ∃T,T=cc+xa:=⟨_,rfl⟩;rw [Nat.add_zero,←hT] at d1 d2;have s1:IntKind.u64.wrap ((cc:Int)+(xa:Int))=(T:Int):=by rw [IntWalk.u64_in _ (by omega)];omega
     have s6:(cc:Int)+(xa:Int)=(T:Int):=by omega
     have hT2:T<4294967296*3:=by omega
     replace hT:=Hz hT;have s3:IntKind.u32.wrap (T:Int)=(qa:Int):=by simp only [IntKind.wrap,IntKind.bits,IntKind.signed];simp;omega
     have s4:(T:Int)/4294967296=(cc2:Int):=by omega
     have s5:(T:Int)%4294967296=(qa:Int):=by omega
     replace d1:=Hz d1;replace d2:=Hz d2;go_wp2
     go_roundg k
     case measure=>omega
     case rel=>
      refine ⟨i+1,_,by go_num,by omega,by rw [hc3.out],Hz (blk_setCell hb.out i _),by simpa using hcs,Hz (fun j hj=> ?_),Hz (hF.out.setCell (.inr (Nat.le_refl _)) _)⟩
      by_cases e:j=i
      ·subst e;rw [Array.getElem?_setIfInBounds_self_of_lt hMs.out,hqq.out]
      ·rw [Array.getElem?_setIfInBounds_ne (fun h=>e h.symm)]
       exact hall.out j (by omega)
   ·have hin:i=n2:=by omega
    subst hin;have ti: ¬(i:Int)<(i:Int):=by omega
    have hMs:i<cs.size:=by have:=hM.out;omega
    obtain ⟨co,hc2⟩: ∃co,wr.cell? ⟨w.heap.size,i,none⟩=some co:=⟨_,by rw [cell_blk hb.out];exact Array.getElem?_eq_getElem hMs⟩
    replace hMs:=Hz hMs;have hf2:=frozen_blk hb.out i;have s1:IntKind.u32.wrap ((car U V i:Nat):Int)=((car U V i:Nat):Int):=by simp only [IntKind.wrap,IntKind.bits,IntKind.signed];simp;omega
    have s2:((car U V i:Nat):Int)%4294967296=((car U V i:Nat):Int):=by omega
    have hb2:Hid ((wr.setCell ⟨w.heap.size,i,none⟩ (.int .u32 ((car U V i:Nat):Int))).heap[w.heap.size]? =some (.cells (cs.setIfInBounds i (.int .u32 ((car U V i:Nat):Int))) 66 (0,0))):=Hz (blk_setCell hb.out i _);have KN:=Hz (norm (z:=z) (n:=M) (c:=M) (V:=V+U) (Nat.le_refl _) (by have:=hM.out;omega) hsl.out (by have:=hz.out;omega) hb2.out (fun j hj=>by
     by_cases e:j=i
     ·subst e;rw [Array.getElem?_setIfInBounds_self_of_lt hMs.out,htop.out]
     ·rw [Array.getElem?_setIfInBounds_ne (fun h=>e h.symm)]
      exact hall.out j (by have:=hM.out;omega)))
    have hF2:Hid (Fr [] w (wr.setCell ⟨w.heap.size,i,none⟩ (.int .u32 ((car U V i:Nat):Int)))):=Hz (hF.out.setCell (.inr (Nat.le_refl _)) _);generalize car U V i=cc at *
    go_wp2_with (go_at_call 178;refine KN.out.mono ?_;rintro e w1 ⟨rfl,v,rfl,hv⟩)
    go_ret
    exact ⟨v,rfl,hv,hF2.out⟩
 ·have t0: ¬(n:Int)<(n2:Int):=by omega
  obtain ⟨M,hM⟩: ∃M,M=n+1:=⟨_,rfl⟩;have hm: ∀W,(Instr.makeSlice 219 (.int .i64 ((n:Int)+1)) (.int .i64 ((n:Int)+1))).run Tryz.prog W= .ok (.slice (some ⟨W.heap.size,0,none⟩) M M) (W.alloc (.cells (madeCells #[.int .u32 0] M) 66)):=fun W=>by rw [show (n:Int)+1=(M:Int) by omega];exact mk32 M (by omega) W
  have hMi:(n:Int)<(M:Int):=by omega
  have hUA:U<4294967296^n:=Nat.lt_of_lt_of_le hU (pow32_le (by omega))
  have hz0:Hid (∀i,n2≤i→wd U i=0):=Hz (fun i hi=>wd_zero (Nat.lt_of_lt_of_le hU (pow32_le hi)))
  have htop:=Hz (sum_top hV hUA);have hsl:=Hz (sum_lt hV hUA);have hcomm:V+U=V+U:=by omega
  rw [hcomm] at htop hsl;have hadd:=Hz (fun i=>(by have:=wd_add V U i;rw [hcomm] at this;exact this:(car V U i+wd V i+wd U i)%4294967296=wd (V+U) i∧(car V U i+wd V i+wd U i)/4294967296=car V U (i+1)))
  have m1:IntKind.i64.wrap ((n:Int)+1)=(n:Int)+1:=IntWalk.i64_in _ (by omega)
  rw [←hM] at hsl;replace hM:=Hz hM;clear hV hU hUA hcomm;replace hcell:=Hz hcell;replace hcell2:=Hz hcell2;go_enter Tryz.func195,Tryz.ntmps195
  go_wp2
  go_loopg [6,21] n (fun gk v6 v21 wr=> ∃(i:Nat) (cs:Array Value),v21= .int .i64 (i:Int)∧i+gk=n∧v6= .int .u64 ((car V U i:Nat):Int)∧Hid (wr.heap[w.heap.size]? =some (.cells cs 66 (0,0)))∧cs.size=M∧Hid (∀j,j<i→cs[j]? =some (.int .u32 (wd (V+U) j:Int)))∧Hid (Fr [] w wr))
  case atStart=>exact ⟨0,_,by go_num,by omega,by rw [car_zero];rfl,Hz (blk_new w _),mc_size _,Hz (fun j hj=>by omega),Hz ((Fr.refl [] w).alloc _)⟩
  case round=>
   obtain ⟨i,cs,rfl,hig,rfl,hb,hcs,hall,hF⟩:=hrel;have hcl:=car_le V U i;by_cases hi:i<n
   ·obtain ⟨k,rfl⟩: ∃k,gk=k+1:=⟨gk-1,by omega⟩
    obtain ⟨d1,d2⟩:=hadd.out i;have ti:(i:Int)<(n:Int):=by omega
    have ti3:(i:Int)<(M:Int):=by omega
    obtain ⟨ga,rfl,hga,hx⟩:=hcell.out i hi;have hx1:=hF.out.cell hx (by simp)
    have hx32:=wd_lt V i;have hy32:=wd_lt U i;have hq:=wd_lt (V+U) i;have hMs:i<cs.size:=by have:=hM.out;omega
    obtain ⟨co,hc2⟩: ∃co,wr.cell? ⟨w.heap.size,i,none⟩=some co:=⟨_,by rw [cell_blk hb.out];exact Array.getElem?_eq_getElem hMs⟩
    replace hMs:=Hz hMs;have hf2:=frozen_blk hb.out i;have hne:ga≠w.heap.size:=by omega
    by_cases hi2:i<n2
    ·have ti2:(i:Int)<(n2:Int):=by omega
     obtain ⟨gb,rfl,hgb,hy⟩:=hcell2.out i hi2;have hy1:=hF.out.cell hy (by simp)
     have hne2:gb≠w.heap.size:=by omega
     generalize hcc:car V U i=cc at *
     replace hcc:=Hz hcc;generalize hc3:car V U (i+1)=cc2 at *
     replace hc3:=Hz hc3;generalize wd V i=xa at *
     generalize wd U i=xb at *
     generalize hqq:wd (V+U) i=qa at *
     replace hqq:=Hz hqq;obtain ⟨Y,hY⟩: ∃Y,Y=cc+xa:=⟨_,rfl⟩;obtain ⟨T,hT⟩: ∃T,T=Y+xb:=⟨_,rfl⟩;rw [←hY,←hT] at d1 d2;have s1:IntKind.u64.wrap ((cc:Int)+(xa:Int))=(Y:Int):=by rw [IntWalk.u64_in _ (by omega)];omega
     have s6:(cc:Int)+(xa:Int)=(Y:Int):=by omega
     have s2:IntKind.u64.wrap ((Y:Int)+(xb:Int))=(T:Int):=by rw [IntWalk.u64_in _ (by omega)];omega
     have s7:(Y:Int)+(xb:Int)=(T:Int):=by omega
     have hY2:Y<4294967296*2:=by omega
     have hT2:T<4294967296*3:=by omega
     replace hY:=Hz hY;replace hT:=Hz hT;have s3:IntKind.u32.wrap (T:Int)=(qa:Int):=by simp only [IntKind.wrap,IntKind.bits,IntKind.signed];simp;omega
     have s4:(T:Int)/4294967296=(cc2:Int):=by omega
     have s5:(T:Int)%4294967296=(qa:Int):=by omega
     replace d1:=Hz d1;replace d2:=Hz d2;go_wp2
     go_roundg k
     case measure=>omega
     case rel=>
      refine ⟨i+1,_,by go_num,by omega,by rw [hc3.out],Hz (blk_setCell hb.out i _),by simpa using hcs,Hz (fun j hj=> ?_),Hz (hF.out.setCell (.inr (Nat.le_refl _)) _)⟩
      by_cases e:j=i
      ·subst e;rw [Array.getElem?_setIfInBounds_self_of_lt hMs.out,hqq.out]
      ·rw [Array.getElem?_setIfInBounds_ne (fun h=>e h.symm)]
       exact hall.out j (by omega)
    ·have ti2: ¬(i:Int)<(n2:Int):=by omega
     have hy0:=hz0.out i (by omega)
     rw [hy0] at d1 d2;generalize hcc:car V U i=cc at *
     replace hcc:=Hz hcc;generalize hc3:car V U (i+1)=cc2 at *
     replace hc3:=Hz hc3;generalize wd V i=xa at *
     generalize hqq:wd (V+U) i=qa at *
     replace hqq:=Hz hqq;obtain ⟨T,hT⟩: ∃T,T=cc+xa:=⟨_,rfl⟩;rw [Nat.add_zero,←hT] at d1 d2;have s1:IntKind.u64.wrap ((cc:Int)+(xa:Int))=(T:Int):=by rw [IntWalk.u64_in _ (by omega)];omega
     have s6:(cc:Int)+(xa:Int)=(T:Int):=by omega
     have hT2:T<4294967296*3:=by omega
     replace hT:=Hz hT;have s3:IntKind.u32.wrap (T:Int)=(qa:Int):=by simp only [IntKind.wrap,IntKind.bits,IntKind.signed];simp;omega
     have s4:(T:Int)/4294967296=(cc2:Int):=by omega
     have s5:(T:Int)%4294967296=(qa:Int):=by omega
     replace d1:=Hz d1;replace d2:=Hz d2;go_wp2
     go_roundg k
     case measure=>omega
     case rel=>
      refine ⟨i+1,_,by go_num,by omega,by rw [hc3.out],Hz (blk_setCell hb.out i _),by simpa using hcs,Hz (fun j hj=> ?_),Hz (hF.out.setCell (.inr (Nat.le_refl _)) _)⟩
      by_cases e:j=i
      ·subst e;rw [Array.getElem?_setIfInBounds_self_of_lt hMs.out,hqq.out]
      ·rw [Array.getElem?_setIfInBounds_ne (fun h=>e h.symm)]
       exact hall.out j (by omega)
   ·have hin:i=n:=by omega
    subst hin;have ti: ¬(i:Int)<(i:Int):=by omega
    have hMs:i<cs.size:=by have:=hM.out;omega
    obtain ⟨co,hc2⟩: ∃co,wr.cell? ⟨w.heap.size,i,none⟩=some co:=⟨_,by rw [cell_blk hb.out];exact Array.getElem?_eq_getElem hMs⟩
    replace hMs:=Hz hMs;have hf2:=frozen_blk hb.out i;have s1:IntKind.u32.wrap ((car V U i:Nat):Int)=((car V U i:Nat):Int):=by simp only [IntKind.wrap,IntKind.bits,IntKind.signed];simp;omega
    have s2:((car V U i:Nat):Int)%4294967296=((car V U i:Nat):Int):=by omega
    have hb2:Hid ((wr.setCell ⟨w.heap.size,i,none⟩ (.int .u32 ((car V U i:Nat):Int))).heap[w.heap.size]? =some (.cells (cs.setIfInBounds i (.int .u32 ((car V U i:Nat):Int))) 66 (0,0))):=Hz (blk_setCell hb.out i _);have KN:=Hz (norm (z:=z) (n:=M) (c:=M) (V:=V+U) (Nat.le_refl _) (by have:=hM.out;omega) hsl.out (by have:=hz.out;omega) hb2.out (fun j hj=>by
     by_cases e:j=i
     ·subst e;rw [Array.getElem?_setIfInBounds_self_of_lt hMs.out,htop.out]
     ·rw [Array.getElem?_setIfInBounds_ne (fun h=>e h.symm)]
      exact hall.out j (by have:=hM.out;omega)))
    have hF2:Hid (Fr [] w (wr.setCell ⟨w.heap.size,i,none⟩ (.int .u32 ((car V U i:Nat):Int)))):=Hz (hF.out.setCell (.inr (Nat.le_refl _)) _);generalize car V U i=cc at *
    go_wp2_with (go_at_call 178;refine KN.out.mono ?_;rintro e w1 ⟨rfl,v,rfl,hv⟩)
    go_ret
    exact ⟨v,rfl,hv,hF2.out⟩
def IntV (w:World) (z V:Nat) (neg:Bool):Prop:= ∃v,w.heap[z]? =some (.cells #[.bool neg,v] 221 (0,0))∧NatV w z v V
theorem IntV.cells {w:World} {z V:Nat} {neg:Bool} (h:IntV w z V neg): ∃v,w.cell? ⟨z,0,none⟩=some (.bool neg)∧w.cell? ⟨z,1,none⟩=some v∧w.frozen? ⟨z,0,none⟩=false∧w.frozen? ⟨z,1,none⟩=false∧NatV w z v V∧z<w.heap.size:=by
 obtain ⟨v,hb,hn⟩:=h;refine ⟨v,?_,?_,frozen_blk hb 0,frozen_blk hb 1,hn,blk_lt' hb⟩
 ·rw [cell_blk hb];rfl
 ·rw [cell_blk hb];rfl
theorem IntV.fr {w w':World} {z V:Nat} {neg:Bool} {S:List Nat} (h:IntV w z V neg) (hf:Fr S w w') (hs: ∀k,k∈S→w.heap.size≤k):IntV w' z V neg:=by
 obtain ⟨v,hb,hn⟩:=h;exact ⟨v,hf.blk hb (fun hm=>by have:=hs z hm;have:=blk_lt' hb;omega),hn.fr hf (fun k hk=> .inr (hs k hk))⟩
theorem IntV.stored {w:World} {z V:Nat} {v:Value} {cs:Array Value} (hb:w.heap[z]? =some (.cells cs 221 (0,0))) (hs:cs.size=2) (hv:NatV w z v V) (neg:Bool):
  IntV ((w.setCell ⟨z,1,none⟩ v).setCell ⟨z,0,none⟩ (.bool neg)) z V neg∧IntV ((w.setCell ⟨z,0,none⟩ (.bool neg)).setCell ⟨z,1,none⟩ v) z V neg:=by
 have key: ∀(w':World),w'.heap[z]? =some (.cells #[.bool neg,v] 221 (0,0))→Fr [z] w w'→IntV w' z V neg:=fun w' h1 h2=>⟨v,h1,hv.fr h2 (by simp)⟩
 have ha: ∀(cs:Array Value),cs.size=2→(cs.setIfInBounds 1 v).setIfInBounds 0 (.bool neg)= #[.bool neg,v]:=by
  intro cs hs;obtain ⟨l⟩:=cs
  match l,hs with
  |[a,b],_=>rfl
 constructor
 ·refine key _ ?_ (((Fr.refl [z] w).setCell (.inl (by simp)) _).setCell (.inl (by simp)) _)
  rw [blk_setCell (blk_setCell hb 1 _) 0 _,ha cs hs]
 ·refine key _ ?_ (((Fr.refl [z] w).setCell (.inl (by simp)) _).setCell (.inl (by simp)) _)
  rw [blk_setCell (blk_setCell hb 0 _) 1 _,Array.setIfInBounds_comm _ _ (by decide),ha cs hs]
theorem setUint64 {w:World} {z V:Nat} {cs:Array Value} (hb:w.heap[z]? =some (.cells cs 221 (0,0))) (hs:cs.size=2) (hV:V<18446744073709551616):
  Calls Tryz.prog 123 #[.pointer (some ⟨z,0,none⟩),.int .u64 (V:Int)] w fun e w'=>e= .returned (.pointer (some ⟨z,0,none⟩))∧IntV w' z V false∧Fr [z] w w':=by
 have K:=Hz (natOf w z V (blk_lt' hb) hV);replace hV:=Hz hV;have hz:=blk_lt' hb;replace hb:=Hz hb;replace hs:=Hz hs;go_enter Tryz.func123,Tryz.ntmps123
 go_wp2_with fail
 refine K.out.mono ?_
 rintro e w1 ⟨v,rfl,hv,hf⟩;have hb1:=hf.blk hb.out (by simp)
 have c0: ∃u,w1.cell? ⟨z,0,none⟩=some u:=⟨_,by rw [cell_blk hb1];exact Array.getElem?_eq_getElem (by have:=hs.out;omega)⟩
 have c1: ∃u,w1.cell? ⟨z,1,none⟩=some u:=⟨_,by rw [cell_blk hb1];exact Array.getElem?_eq_getElem (by have:=hs.out;omega)⟩
 obtain ⟨u0,c0⟩:=c0;obtain ⟨u1,c1⟩:=c1;have f0:=frozen_blk hb1 0;have f1:=frozen_blk hb1 1;have hst:=Hz (IntV.stored hb1 hs.out hv false);obtain ⟨aoV,nV,cV,rfl,_,_,_⟩:=hv.open_;have hf':=Hz hf;go_wp2;go_ret
 exact ⟨rfl,by first|exact hst.out.1|exact hst.out.2,(((hf'.out.mono (by simp)).setCell (.inl (by simp)) _).setCell (.inl (by simp)) _)⟩
theorem setInt64 {w:World} {z V:Nat} {cs:Array Value} (hb:w.heap[z]? =some (.cells cs 221 (0,0))) (hs:cs.size=2) (hV:V<9223372036854775808):
  Calls Tryz.prog 166 #[.pointer (some ⟨z,0,none⟩),.int .i64 (V:Int)] w fun e w'=>e= .returned (.pointer (some ⟨z,0,none⟩))∧IntV w' z V false∧Fr [z] w w':=by
 have K:=Hz (natOf w z V (blk_lt' hb) (by omega))
 have s0:IntKind.u64.wrap (V:Int)=(V:Int):=IntWalk.u64_in _ (by omega)
 have t0: ¬(V:Int)<0:=by omega
 replace hV:=Hz hV;have hz:=blk_lt' hb;replace hb:=Hz hb;replace hs:=Hz hs;go_enter Tryz.func166,Tryz.ntmps166
 go_wp2_with fail
 refine K.out.mono ?_
 rintro e w1 ⟨v,rfl,hv,hf⟩;have hb1:=hf.blk hb.out (by simp)
 have c0: ∃u,w1.cell? ⟨z,0,none⟩=some u:=⟨_,by rw [cell_blk hb1];exact Array.getElem?_eq_getElem (by have:=hs.out;omega)⟩
 have c1: ∃u,w1.cell? ⟨z,1,none⟩=some u:=⟨_,by rw [cell_blk hb1];exact Array.getElem?_eq_getElem (by have:=hs.out;omega)⟩
 obtain ⟨u0,c0⟩:=c0;obtain ⟨u1,c1⟩:=c1;have f0:=frozen_blk hb1 0;have f1:=frozen_blk hb1 1;have hst:=Hz (IntV.stored hb1 hs.out hv false);obtain ⟨aoV,nV,cV,rfl,_,_,_⟩:=hv.open_;have hf':=Hz hf;go_wp2;go_ret
 exact ⟨rfl,by first|exact hst.out.1|exact hst.out.2,(((hf'.out.mono (by simp)).setCell (.inl (by simp)) _).setCell (.inl (by simp)) _)⟩
theorem newInt (w:World) (V:Nat) (hV:V<9223372036854775808):
  Calls Tryz.prog 125 #[.int .i64 (V:Int)] w fun e w'=> ∃z,e= .returned (.pointer (some ⟨z,0,none⟩))∧IntV w' z V false∧w.heap.size≤z∧Fr [] w w':=by
 have K:=Hz (setInt64 (w:=w.alloc (.cells #[.bool false,.slice none 0 0] 221 (0,0))) (z:=w.heap.size) (V:=V) (blk_new w _) rfl hV);replace hV:=Hz hV;go_enter Tryz.func125,Tryz.ntmps125
 go_wp2_with fail
 refine K.out.mono ?_
 rintro e w1 ⟨rfl,hI,hf⟩;go_wp2;go_ret
 exact ⟨_,rfl,hI,Nat.le_refl _,(((Fr.refl [] w).alloc _).then_ hf (by intro k hk;right;simp at hk;omega))⟩
theorem sum0 {w:World} {z y V U k:Nat} {u:Value} (h:IntV w z V false) (hg:NatV w y u U) (hyz:NatV w z u U) (hk:k≤100000) (hVk:V<4294967296^k) (hUk:U<4294967296^k):
  Calls Tryz.prog 165 #[.pointer (some ⟨z,0,none⟩),.pointer (some ⟨z,0,none⟩),u,.bool false] w fun e w'=>e= .returned (.pointer (some ⟨z,0,none⟩))∧IntV w' z (V+U) false∧Fr [z] w w':=by
 obtain ⟨v,c0,c1,f0,f1,hn,hz⟩:=h.cells;obtain ⟨v',hb0,_⟩:=h;have KC:=Hz (natCmp hn hyz);have KA:=Hz (fun (W:World) (F:Fr [] w W)=>natAdd (hn.fr F (by simp)) (hyz.fr F (by simp)) (Nat.lt_of_lt_of_le hz F.size) hk hVk hUk)
 clear hVk hUk;go_enter Tryz.func165,Tryz.ntmps165
 go_wp2_with fail
 refine KC.out.mono ?_
 rintro e w1 ⟨cc,nn,rfl,rfl⟩;obtain ⟨aoV,nV,cV,rfl,_,_,_⟩:=hn.open_;have KEEP:=Hz (fun (W:World) (F:Fr [] w W)=>(⟨(by rw [cell_blk (F.blk hb0 (by simp))];rfl),(F.cell c1 (by simp)),frozen_blk (F.blk hb0 (by simp)) 0,frozen_blk (F.blk hb0 (by simp)) 1⟩:W.cell? ⟨z,0,none⟩=some (.bool false)∧W.cell? ⟨z,1,none⟩=some (.slice aoV nV cV)∧W.frozen? ⟨z,0,none⟩=false∧W.frozen? ⟨z,1,none⟩=false))
 have KS:=Hz (fun (W:World) (F:Fr [] w W)=>(⟨(KEEP.out W F).1,(KEEP.out W F).2.2.1,(KEEP.out W F).2.2.2⟩:W.cell? ⟨z,0,none⟩=some (.bool false)∧W.frozen? ⟨z,0,none⟩=false∧W.frozen? ⟨z,1,none⟩=false))
 obtain ⟨k0,k1,k2,k3⟩:=KEEP.out _ ((Fr.refl [] w).drewN nn);obtain ⟨j0,j1,j2,j3⟩:=KEEP.out _ (((Fr.refl [] w).drewN nn).drew);have hF1:Fr [] w ((w.drewN nn).drew):=((Fr.refl [] w).drewN nn).drew
 go_upto_block 0 with fail
 go_cut [] (fun wx=>IntV wx z (V+U) false∧Fr [z] w wx)
 case first=>
  go_wp2
  go_region_with (go_at_call 195;refine (KA.out _ hF1).mono ?_;rintro e w2 ⟨q,rfl,hq,hf2⟩;obtain ⟨aoQ,nQ,cQ,rfl,hnl,_,_⟩:=hq.open_;obtain ⟨i0,i1,i2,i3⟩:=KEEP.out _ (hF1.trans hf2);have hst:=Hz (IntV.stored ((hF1.trans hf2).blk hb0 (by simp)) rfl hq false);have hf3:=Hz ((((hF1.trans hf2).mono (T:=[z]) (by simp)))))
  all_goals (go_wp2_with fail;go_meet;exact ⟨by first|exact hst.out.1|exact hst.out.2,(hf3.out.setCell (.inl (by simp)) _).setCell (.inl (by simp)) _⟩)
 case rest=>
 obtain ⟨hI,hFz⟩:=hcut;obtain ⟨v5,d0,d1,g0,g1,hn5,hz5⟩:=hI.cells;obtain ⟨ao5,n5,c5,rfl,hl5,_,_⟩:=hn5.open_;obtain ⟨v6,hb6,hn6⟩:=hI;have hend:Hid (IntV (wc.setCell ⟨z,0,none⟩ (.bool false)) z (V+U) false):=Hz (by
  refine ⟨v6,by rw [blk_setCell hb6 0 _];rfl,hn6.fr ((Fr.refl [z] wc).setCell (.inl (by simp)) _) (by simp)⟩)
 have hFe:Hid (Fr [z] w (wc.setCell ⟨z,0,none⟩ (.bool false))):=Hz (hFz.setCell (.inl (by simp)) _)
 have tg: ∀b:Bool,(if (0:Int)<(n5:Int) then false else false)=false:=fun _=>by simp
 by_cases h5:(0:Int)<(n5:Int)
 ·go_wp2;go_ret
  exact ⟨rfl,hend.out,hFe.out⟩
 ·go_wp2;go_ret
  exact ⟨rfl,hend.out,hFe.out⟩
theorem addI {w:World} {z y V U k:Nat} (h:IntV w z V false) (hg:IntV w y U false) (hyz:y≠z) (hav: ∀u,NatV w y u U→NatV w z u U) (hk:k≤100000) (hVk:V<4294967296^k) (hUk:U<4294967296^k):
  Calls Tryz.prog 124 #[.pointer (some ⟨z,0,none⟩),.pointer (some ⟨z,0,none⟩),.pointer (some ⟨y,0,none⟩)] w fun e w'=>e= .returned (.pointer (some ⟨z,0,none⟩))∧IntV w' z (V+U) false∧Fr [z] w w':=by
 obtain ⟨u,c0,c1,f0,f1,hn,hy⟩:=hg.cells;have KS:=Hz (fun (W:World) (F:Fr [] w W)=>sum0 (h.fr F (by simp)) (hn.fr F (by simp)) ((hav u hn).fr F (by simp)) hk hVk hUk)
 clear hVk hUk;obtain ⟨ao,n,c,rfl,_,_,_⟩:=hn.open_;have hF1:Fr [] w w.drew:=(Fr.refl [] w).drew;go_enter Tryz.func124,Tryz.ntmps124
 go_wp2
 go_region_with (go_at_call 165;refine (KS.out _ hF1).mono ?_;rintro e w2 ⟨rfl,hI,hf2⟩)
 all_goals go_wp2_with fail
 all_goals go_ret
 all_goals exact ⟨rfl,hI,(hF1.mono (by simp)).trans hf2⟩
end
section
open Go.RowKit
theorem negI {w:World} {z V:Nat} (h:IntV w z V false) (hV:0<V):
  Calls Tryz.prog 126 #[.pointer (some ⟨z,0,none⟩),.pointer (some ⟨z,0,none⟩)] w fun e w'=>e= .returned (.pointer (some ⟨z,0,none⟩))∧IntV w' z V true∧Fr [z] w w':=by
 obtain ⟨v,c0,c1,f0,f1,hn,hz⟩:=h.cells;obtain ⟨v',hb0,_⟩:=h;obtain ⟨ao,n,c,rfl,hnl,_,_⟩:=hn.open_;have hn0:0<n:=by
  rcases hn.len with ⟨_,e⟩|⟨e,_⟩
  ·omega
  ·exact e
 have t0:(0:Int)<(n:Int):=by omega
 have hst:=Hz (fun m=>IntV.stored (w:=w.drewN m) (show (w.drewN m).heap[z]? =_ from hb0) rfl (hn.fr ((Fr.refl [] w).drewN m) (by simp)) true)
 have hF:=Hz (fun m=>((Fr.refl [z] w).drewN m))
 replace hb0:=Hz hb0;go_enter Tryz.func126,Tryz.ntmps126
 go_wp2
 go_region
 go_wp2;go_ret
 exact ⟨rfl,by first|exact (hst.out 1).1|exact (hst.out 1).2,((hF.out 1).setCell (.inl (by simp)) _).setCell (.inl (by simp)) _⟩
def bigT (V:Nat) (neg:Bool):List UInt8:=(if neg then [45] else [])++dec V
theorem textI {w:World} {z V:Nat} {neg:Bool} (h:IntV w z V neg) (hV:0<V) (hl:(dec V).length≤100000000):
  Calls Tryz.prog 127 #[.pointer (some ⟨z,0,none⟩)] w fun e w'=>e= .returned (.string ⟨(bigT V neg).toArray⟩)∧Fr [] w w':=by
 have K: ∀w,IntV w z V neg→Calls Tryz.prog 167 #[.pointer (some ⟨z,0,none⟩),.int .i64 10] w fun e w'=>e= .returned (.string ⟨(bigT V neg).toArray⟩)∧Fr [] w w':=by
  intro w h;have KEEP:=Hz (fun (W:World) (F:Fr [] w W)=>h.fr F (by simp))
  obtain ⟨v,c0,c1,f0,f1,hn,hz⟩:=h.cells;have KT:=Hz (fun (W:World) (F:Fr [] w W)=>natText neg (hn.fr F (by simp)) (Nat.lt_of_lt_of_le hz F.size) hV hl)
  have KC:=Hz (fun (W:World) (F:Fr [] w W)=>(⟨F.cell c0 (by simp),F.cell c1 (by simp)⟩:W.cell? ⟨z,0,none⟩=some (.bool neg)∧W.cell? ⟨z,1,none⟩=some v))
  have hF1:Fr [] w w.drew:=(Fr.refl [] w).drew;obtain ⟨ao,n,c,rfl,hnl,_,_⟩:=hn.open_;have hT:Hid (bigT V neg=(if neg then [45] else [])++dec V):=Hz rfl
  generalize bigT V neg=T at *
  rw [←hT.out] at KT;clear hn;go_enter Tryz.func167,Tryz.ntmps167
  go_wp2;obtain ⟨j0,j1⟩:=KC.out _ hF1
  go_region_with (go_at_call 197;refine (KT.out _ hF1).mono ?_;rintro e w2 ⟨g,cc,rfl,hrd,hf2⟩;have ht:=toStr hrd cc)
  all_goals go_wp2_with fail
  all_goals go_ret
  all_goals exact ⟨rfl,hF1.trans hf2⟩
 have K2:=Hz (K w h);clear K;replace h:=Hz h;generalize bigT V neg=T at *
 go_enter Tryz.func127,Tryz.ntmps127
 go_wp2_with (go_at_call 167;refine K2.out.mono ?_;rintro e w1 ⟨rfl,hf⟩)
 go_ret
 exact ⟨rfl,hf⟩
end
section
open Go.RowKit
theorem be_take (bs:List UInt8) (i:Nat) (h:i<bs.length):be (bs.take (i+1))=be (bs.take i)*256+bs[i].toNat:=by
 rw [List.take_succ_eq_append_getElem h,be_snoc']
theorem be_lt256 (bs:List UInt8):be bs<256^bs.length:=by
 have h: ∀(l:List UInt8) (a:Nat),l.foldl (fun a b=>a*256+b.toNat) a<(a+1)*256^l.length:=by
  intro l
  induction l with
  |nil=>intro a;simp
  |cons x l ih=>
   intro a;rw [List.foldl_cons,List.length_cons,Nat.pow_succ];refine Nat.lt_of_lt_of_le (ih _) ?_
   have hx:=x.toNat_lt;rw [Nat.mul_comm (256^l.length) 256,←Nat.mul_assoc];exact Nat.mul_le_mul_right _ (by omega)
 have:=h bs 0;rw [Nat.zero_add,Nat.one_mul] at this;exact this
def part (bs:List UInt8) (i:Nat):Nat:=be (bs.take i)*256^(bs.length-i)
theorem part_zero (bs:List UInt8):part bs 0=0:=by simp [part,be]
theorem part_full (bs:List UInt8):part bs bs.length=be bs:=by simp [part]
theorem part_step (bs:List UInt8) (i k:Nat) (h:i<bs.length) (hk:k+1+i=bs.length):part bs (i+1)=be (bs.take i)*256^(k+1)+bs[i].toNat*256^k∧part bs i=be (bs.take i)*256^(k+1):=by
 unfold part;rw [show bs.length-(i+1)=k by omega,show bs.length-i=k+1 by omega,be_take bs i h,Nat.add_mul,Nat.pow_succ,Nat.mul_assoc,Nat.mul_comm 256 (256^k)]
 exact ⟨rfl,rfl⟩
theorem setBytes {w:World} {z b o c:Nat} {bs:List UInt8} {cs0:Array Value} (hb:w.heap[z]? =some (.cells cs0 221 (0,0))) (hs:cs0.size=2) (hrd:Rd w b o bs) (hbz:b<w.heap.size) (hl:bs.length≤400000):
  Calls Tryz.prog 135 #[.pointer (some ⟨z,0,none⟩),.slice (some ⟨b,o,none⟩) bs.length c] w fun e w'=>e= .returned (.pointer (some ⟨z,0,none⟩))∧IntV w' z (be bs) false∧Fr [z] w w':=by
 obtain ⟨M,hM⟩: ∃M,M=(bs.length+3)/4:=⟨_,rfl⟩;have hm: ∀W,(Instr.makeSlice 219 (.int .i64 (((bs.length:Int)+3)/4)) (.int .i64 (((bs.length:Int)+3)/4))).run Tryz.prog W= .ok (.slice (some ⟨W.heap.size,0,none⟩) M M) (W.alloc (.cells (madeCells #[.int .u32 0] M) 66)):=fun W=>by rw [show ((bs.length:Int)+3)/4=(M:Int) by omega];exact mk32 M (by omega) W
 replace hM:=Hz hM;have hz:=blk_lt' hb;replace hb:=Hz hb;replace hs:=Hz hs;replace hrd:=Hz hrd;go_enter Tryz.func135,Tryz.ntmps135
 go_wp2
 go_loopg [16] bs.length (fun gk v16 wr=> ∃(i:Nat) (cs:Array Value),v16= .int .i64 (i:Int)∧i+gk=bs.length∧Hid (wr.heap[w.heap.size]? =some (.cells cs 66 (0,0)))∧cs.size=M∧Hid (∀j,j<M→cs[j]? =some (.int .u32 (wd (part bs i) j:Int)))∧Hid (Fr [] w wr))
 case atStart=>
  refine ⟨0,_,by go_num,by omega,Hz (blk_new w _),mc_size _,Hz (fun j hj=> ?_),Hz ((Fr.refl [] w).alloc _)⟩
  rw [mc_get M j hj,part_zero];have:wd 0 j=0:=by unfold wd;simp
  rw [this]
  rfl
 case round=>
  obtain ⟨i,cs,rfl,hig,hbk,hcs,hall,hF⟩:=hrel;by_cases hi:i<bs.length
  ·obtain ⟨g,rfl⟩: ∃g,gk=g+1:=⟨gk-1,by omega⟩
   obtain ⟨k,hk⟩: ∃k,k+1+i=bs.length:=⟨bs.length-1-i,by omega⟩
   have ti:(i:Int)<(bs.length:Int):=by omega
   have hx0:=hF.out.cell (hrd.out i hi) (by simp)
   have hc256:=(bs[i]).toNat_lt;obtain ⟨p1,p2⟩:=part_step bs i k hi hk;have hy1:=wd_byte (A:=be (bs.take i)) (k:=k) hc256;rw [←p1,←p2] at hy1;have hne:=Hz (fun j (hj:j≠k/4)=>(by have:=wd_byte_ne (A:=be (bs.take i)) (k:=k) hc256 hj;rw [←p1,←p2] at this;exact this.symm:wd (part bs i) j=wd (part bs (i+1)) j))
   have hq4:k/4<M:=by have:=hM.out;omega
   have hcq:=hall.out (k/4) hq4;have hyl:=wd_lt (part bs (i+1)) (k/4);have hxl:=wd_lt (part bs i) (k/4);obtain ⟨q,hq⟩: ∃q,q=k/4:=⟨_,rfl⟩;rw [←hq] at hy1 hcq hyl hxl hq4;have hne:Hid (∀j,j≠q→wd (part bs i) j=wd (part bs (i+1)) j):=Hz (by rw [hq];exact hne.out)
   generalize hy0:wd (part bs (i+1)) q=y at *
   generalize wd (part bs i) q=x at *
   generalize (bs[i]).toNat=ch at *
   replace hy0:=Hz hy0.symm;have hcell:wr.cell? ⟨w.heap.size,q,none⟩=some (.int .u32 (x:Int)):=by rw [cell_blk hbk.out];exact hcq
   have hfz:=frozen_blk hbk.out q;have hqi:(k:Int)/4=(q:Int):=by omega
   have hqt:(k:Int).tdiv 4=(q:Int):=by rw [Int.tdiv_eq_ediv_of_nonneg (by omega)];exact hqi
   have hki:(bs.length:Int)-1-(i:Int)=(k:Int):=by omega
   have hqM:(q:Int)<(M:Int):=by omega
   clear hcq p1 p2;have hrr0:k%4=0∨k%4=1∨k%4=2∨k%4=3:=by omega
   clear hq;rcases hrr0 with hrr0|hrr0|hrr0|hrr0
   ·have hrr:(k:Int)%4=0:=by omega
    have hrm:(k:Int).tmod 4=0:=by rw [Int.tmod_eq_emod_of_nonneg (by omega)];exact hrr
    have ho:bits .or .u32 (x:Int) ((ch:Int))=(y:Int):=by
     have h:=u32_or_nat x (ch*1) (by omega) (by omega)
     rw [show x|||ch*1=y by have:=hy1;rw [show k%4=0 by omega] at this;rw [this]] at h
     first|exact h|(have e:((ch*1:Nat):Int)=(ch:Int):=(by omega);rw [e] at h;exact h)
    have hw1:IntKind.u32.wrap ((ch:Int)*1)=(ch:Int)*1:=by simp only [IntKind.wrap,IntKind.bits,IntKind.signed];simp;omega
    clear hrr0 hy1;go_wp2
    go_region
    go_wp2
    go_roundg g
    case measure=>omega
    case rel=>
     refine ⟨i+1,cs.setIfInBounds q (.int .u32 (y:Int)),by first|go_num|(congr 1;omega),by omega,Hz ?_,by simpa using hcs,Hz (fun j hj=> ?_),Hz ?_⟩
     ·first|exact blk_setCell hbk.out q _|exact blk_setCell (show wr.drew.heap[w.heap.size]? =_ from hbk.out) q _
     ·by_cases e:j=q
      ·subst e;rw [Array.getElem?_setIfInBounds_self_of_lt (by omega),←hy0.out]
      ·rw [Array.getElem?_setIfInBounds_ne (fun h=>e h.symm),hall.out j hj,hne.out j e]
     ·first|exact (hF.out.setCell (.inr (Nat.le_refl _)) _).drew|exact (hF.out.drew).setCell (.inr (Nat.le_refl _)) _
   ·have hrr:(k:Int)%4=1:=by omega
    have hrm:(k:Int).tmod 4=1:=by rw [Int.tmod_eq_emod_of_nonneg (by omega)];exact hrr
    have ho:bits .or .u32 (x:Int) ((ch:Int)*256)=(y:Int):=by
     have h:=u32_or_nat x (ch*256) (by omega) (by omega)
     rw [show x|||ch*256=y by have:=hy1;rw [show k%4=1 by omega] at this;rw [this]] at h
     first|exact h|(have e:((ch*256:Nat):Int)=(ch:Int)*256:=(by omega);rw [e] at h;exact h)
    have hw1:IntKind.u32.wrap ((ch:Int)*256)=(ch:Int)*256:=by simp only [IntKind.wrap,IntKind.bits,IntKind.signed];simp;omega
    clear hrr0 hy1;go_wp2
    go_region
    go_wp2
    go_roundg g
    case measure=>omega
    case rel=>
     refine ⟨i+1,cs.setIfInBounds q (.int .u32 (y:Int)),by first|go_num|(congr 1;omega),by omega,Hz ?_,by simpa using hcs,Hz (fun j hj=> ?_),Hz ?_⟩
     ·first|exact blk_setCell hbk.out q _|exact blk_setCell (show wr.drew.heap[w.heap.size]? =_ from hbk.out) q _
     ·by_cases e:j=q
      ·subst e;rw [Array.getElem?_setIfInBounds_self_of_lt (by omega),←hy0.out]
      ·rw [Array.getElem?_setIfInBounds_ne (fun h=>e h.symm),hall.out j hj,hne.out j e]
     ·first|exact (hF.out.setCell (.inr (Nat.le_refl _)) _).drew|exact (hF.out.drew).setCell (.inr (Nat.le_refl _)) _
   ·have hrr:(k:Int)%4=2:=by omega
    have hrm:(k:Int).tmod 4=2:=by rw [Int.tmod_eq_emod_of_nonneg (by omega)];exact hrr
    have ho:bits .or .u32 (x:Int) ((ch:Int)*65536)=(y:Int):=by
     have h:=u32_or_nat x (ch*65536) (by omega) (by omega)
     rw [show x|||ch*65536=y by have:=hy1;rw [show k%4=2 by omega] at this;rw [this]] at h
     first|exact h|(have e:((ch*65536:Nat):Int)=(ch:Int)*65536:=(by omega);rw [e] at h;exact h)
    have hw1:IntKind.u32.wrap ((ch:Int)*65536)=(ch:Int)*65536:=by simp only [IntKind.wrap,IntKind.bits,IntKind.signed];simp;omega
    clear hrr0 hy1;go_wp2
    go_region
    go_wp2
    go_roundg g
    case measure=>omega
    case rel=>
     refine ⟨i+1,cs.setIfInBounds q (.int .u32 (y:Int)),by first|go_num|(congr 1;omega),by omega,Hz ?_,by simpa using hcs,Hz (fun j hj=> ?_),Hz ?_⟩
     ·first|exact blk_setCell hbk.out q _|exact blk_setCell (show wr.drew.heap[w.heap.size]? =_ from hbk.out) q _
     ·by_cases e:j=q
      ·subst e;rw [Array.getElem?_setIfInBounds_self_of_lt (by omega),←hy0.out]
      ·rw [Array.getElem?_setIfInBounds_ne (fun h=>e h.symm),hall.out j hj,hne.out j e]
     ·first|exact (hF.out.setCell (.inr (Nat.le_refl _)) _).drew|exact (hF.out.drew).setCell (.inr (Nat.le_refl _)) _
   ·have hrr:(k:Int)%4=3:=by omega
    have hrm:(k:Int).tmod 4=3:=by rw [Int.tmod_eq_emod_of_nonneg (by omega)];exact hrr
    have ho:bits .or .u32 (x:Int) ((ch:Int)*16777216)=(y:Int):=by
     have h:=u32_or_nat x (ch*16777216) (by omega) (by omega)
     rw [show x|||ch*16777216=y by have:=hy1;rw [show k%4=3 by omega] at this;rw [this]] at h
     first|exact h|(have e:((ch*16777216:Nat):Int)=(ch:Int)*16777216:=(by omega);rw [e] at h;exact h)
    have hw1:IntKind.u32.wrap ((ch:Int)*16777216)=(ch:Int)*16777216:=by simp only [IntKind.wrap,IntKind.bits,IntKind.signed];simp;omega
    clear hrr0 hy1;go_wp2
    go_region
    go_wp2
    go_roundg g
    case measure=>omega
    case rel=>
     refine ⟨i+1,cs.setIfInBounds q (.int .u32 (y:Int)),by first|go_num|(congr 1;omega),by omega,Hz ?_,by simpa using hcs,Hz (fun j hj=> ?_),Hz ?_⟩
     ·first|exact blk_setCell hbk.out q _|exact blk_setCell (show wr.drew.heap[w.heap.size]? =_ from hbk.out) q _
     ·by_cases e:j=q
      ·subst e;rw [Array.getElem?_setIfInBounds_self_of_lt (by omega),←hy0.out]
      ·rw [Array.getElem?_setIfInBounds_ne (fun h=>e h.symm),hall.out j hj,hne.out j e]
     ·first|exact (hF.out.setCell (.inr (Nat.le_refl _)) _).drew|exact (hF.out.drew).setCell (.inr (Nat.le_refl _)) _
  ·have hin:i=bs.length:=by omega
   subst hin;have ti: ¬(bs.length:Int)<(bs.length:Int):=by omega
   rw [part_full] at hall;have hlt:be bs<4294967296^M:=by
    refine Nat.lt_of_lt_of_le (be_lt256 bs) ?_
    rw [p32];exact Nat.pow_le_pow_right (by decide) (by have:=hM.out;omega)
   have KN:=Hz (norm (w:=wr) (z:=z) (n:=M) (c:=M) (V:=be bs) (Nat.le_refl _) (by have:=hM.out;omega) hlt (by omega) hbk.out (fun j hj=>hall.out j hj))
   have hb1:=hF.out.blk hb.out (by simp)
   obtain ⟨u0,c0⟩: ∃u,wr.cell? ⟨z,0,none⟩=some u:=⟨_,by rw [cell_blk hb1];exact Array.getElem?_eq_getElem (by have:=hs.out;omega)⟩
   obtain ⟨u1,c1⟩: ∃u,wr.cell? ⟨z,1,none⟩=some u:=⟨_,by rw [cell_blk hb1];exact Array.getElem?_eq_getElem (by have:=hs.out;omega)⟩
   have f0:=frozen_blk hb1 0;have f1:=frozen_blk hb1 1;replace hlt:=Hz hlt;go_wp2_with fail
   refine KN.out.mono ?_
   rintro e w1 ⟨rfl,v,rfl,hv⟩;have hst:=Hz (IntV.stored hb1 hs.out hv false);obtain ⟨aoV,nV,cV,rfl,_,_,_⟩:=hv.open_;go_wp2;go_ret
   exact ⟨rfl,by first|exact hst.out.1|exact hst.out.2,(((hF.out.mono (by simp)).setCell (.inl (by simp)) _).setCell (.inl (by simp)) _)⟩
end
end
end Go.Proofs.YteodinhkhhaafaaGreatDoor
