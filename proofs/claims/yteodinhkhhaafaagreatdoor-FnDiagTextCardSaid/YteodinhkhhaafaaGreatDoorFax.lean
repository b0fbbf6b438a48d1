/- Walks of the program, and plain facts. -/
import Derived.Test.YteodinhkhhaafaaGreatDoorFav
set_option linter.unusedVariables false
set_option linter.unusedSimpArgs false
set_option maxRecDepth 100000
set_option maxHeartbeats 6400000
namespace Go.Proofs.YteodinhkhhaafaaGreatDoor
section
set_option exponentiation.threshold 3000
open Go.RowKit
def fracD (n k:Nat):List Nat×Int:=if n=0 then ([],0) else normD (dg n) ((dg n).length-(k:Int))
def digs (m:Nat) (e:Int):List Nat×Int:=if 0≤e then fracD (m*2^e.toNat) 0 else fracD (m*5^(-e).toNat) (-e).toNat
theorem frac_spec (n k:Nat) (hk:k≤1100):NormD (fracD n k).1 (fracD n k).2∧dV (fracD n k).1 (fracD n k).2=n*10^(1100-k)∧ -1100≤(fracD n k).2-(fracD n k).1.length:=by
 unfold fracD;by_cases h0:n=0
 ·rw [if_pos h0,h0];refine ⟨⟨by simp,fun _=>rfl,by simp,by simp⟩,?_,by simp⟩
  unfold dV;rw [dv_nil,Nat.zero_mul,Nat.zero_mul]
 ·rw [if_neg h0];obtain ⟨h1,h2,h3⟩:=dg_spec n n (Nat.le_refl _);obtain ⟨g1,g2,g3,g4⟩:=trim_norm (d:=dg n) (dp:=((dg n).length:Int)-(k:Int)) h1 (h3 (by omega)) (by omega)
  have g5:=g4 (dg_ne n);refine ⟨g1,?_,by rw [g5];omega⟩
  rw [g2];unfold dV;rw [h2,show (((dg n).length:Int)-(k:Int)-((dg n).length:Int)+1100).toNat=1100-k by omega]
theorem digs_up {m k:Nat} {d:List Nat} {dp:Int} (h:NormD d dp) (la: -1100≤dp-d.length) (hv:dV d dp=m*10^1100*2^k):(d,dp)=digs m (k:Int):=by
 unfold digs;rw [if_pos (by omega),Int.toNat_natCast]
 obtain ⟨g1,g2,g3⟩:=frac_spec (m*2^k) 0 (by omega)
 obtain ⟨e1,e2⟩:=norm_inj h g1 la g3 (by rw [g2,hv,Nat.sub_zero,Nat.mul_right_comm])
 exact Prod.ext e1 e2
theorem digs_dn {m k:Nat} {d:List Nat} {dp:Int} (hk0:0<k) (hk:k≤1100) (h:NormD d dp) (la: -1100≤dp-d.length) (hv:dV d dp*2^k=m*10^1100):(d,dp)=digs m (-(k:Int)):=by
 unfold digs;rw [if_neg (by omega),show (- -(k:Int)).toNat=k by omega]
 obtain ⟨g1,g2,g3⟩:=frac_spec (m*5^k) k hk;have h10:10^1100=5^k*2^k*10^(1100-k):=by
  rw [←Nat.mul_pow,←Nat.pow_add,show k+(1100-k)=1100 by omega]
 have hv2:dV d dp=m*5^k*10^(1100-k):=by
  have hp:0<2^k:=Nat.pow_pos (by omega)
  apply Nat.eq_of_mul_eq_mul_right hp
  rw [hv,h10];generalize 5^k=a;generalize 2^k=b;generalize 10^(1100-k)=c;rw [Nat.mul_assoc,Nat.mul_assoc,Nat.mul_assoc,Nat.mul_comm b c]
 obtain ⟨e1,e2⟩:=norm_inj h g1 la g3 (by rw [g2,hv2])
 exact Prod.ext e1 e2
structure DigB (m:Nat) (e:Int) (r:List Nat×Int):Prop where
 norm:NormD r.1 r.2
 la: -1100≤r.2-r.1.length
 len:r.1.length≤2000
 hi:r.2≤1000
 lo: -2000≤r.2
theorem shiftD {w:World} {q m:Nat} {d:List Nat} {dp:Int} (hD:DecP w q d dp) (hN:NormD d dp) (hv:dV d dp=m*10^1100) (hl:d.length≤20) (hlo:(d.length:Int)≤dp) (hhi:dp≤20) (e:Int) (h1: -1090≤e) (h2:e≤1200):
  Calls Tryz.prog 210 #[.pointer (some ⟨q,0,none⟩),.int .i64 e] w fun en w'=> ∃u,en= .returned u∧DecP w' q (digs m e).1 (digs m e).2∧DigB m e (digs m e)∧Fr [q] w w':=by
 by_cases he:0≤e
 ·obtain ⟨k,rfl⟩: ∃k:Nat,e=(k:Int):=⟨e.toNat,by omega⟩
  refine (shift_up hD hN (by omega) (by omega) (by omega) (by omega)).mono ?_
  rintro en w1 ⟨d',dp',u,rfl,hD1,⟨c,hc,hU⟩,hF⟩;have hla: -1100≤dp'-d'.length:=by
   by_cases hd:d=[]
   ·rw [hU.nil hd,hU.norm.nil (hU.nil hd)];simp
   ·have:=hU.lo hd;omega
  have E:=digs_up (m:=m) (k:=k) hU.norm hla (by rw [hU.val,hv])
  rw [←E];refine ⟨u,rfl,hD1,⟨hU.norm,hla,?_,?_,?_⟩,hF⟩
  ·have:=hU.len;show d'.length≤2000;omega
  ·have:=hU.dhi;show dp'≤1000;omega
  ·show-2000≤dp'
   by_cases hd:d=[]
   ·rw [hU.norm.nil (hU.nil hd)];omega
   ·have:=hU.dlo hd;omega
 ·obtain ⟨k,rfl⟩: ∃k:Nat,e= -(k:Int):=⟨(-e).toNat,by omega⟩
  refine (shift_dn hD hN (by omega) (by omega) (by omega) (by omega) (by omega)).mono ?_
  rintro en w1 ⟨d',dp',u,rfl,hD1,⟨c,hc,hU⟩,hF⟩;have hla: -1100≤dp'-d'.length:=by
   by_cases hd:d=[]
   ·rw [hU.nil hd,hU.norm.nil (hU.nil hd)];simp
   ·have:=hU.lo hd;omega
  have E:=digs_dn (m:=m) (k:=k) (by omega) (by omega) hU.norm hla (by rw [←hU.val,hv])
  rw [←E];refine ⟨u,rfl,hD1,⟨hU.norm,hla,?_,?_,?_⟩,hF⟩
  ·have:=hU.len;show d'.length≤2000;omega
  ·show dp'≤1000
   by_cases hd:d=[]
   ·rw [hU.norm.nil (hU.nil hd)];omega
   ·have:=hU.dhi hd;omega
  ·show-2000≤dp'
   by_cases hd:d=[]
   ·rw [hU.norm.nil (hU.nil hd)];omega
   ·have:=hU.dlo hd;omega
end
section
open Go.RowKit
theorem xor_m1 (n:Nat) (h:n<9223372036854775808):bits .xor .i64 (-1) (n:Int)= -(n:Int)-1:=by
 show IntKind.i64.wrap ((BitVec.ofInt 64 (-1)^^^BitVec.ofInt 64 (n:Int)).toNat:Int)=_
 have h1:BitVec.ofInt 64 (-1)=BitVec.allOnes 64:=by decide
 have h2:(BitVec.allOnes 64^^^BitVec.ofInt 64 (n:Int)).toNat=18446744073709551615-n:=by
  rw [BitVec.allOnes_xor,BitVec.toNat_not,BitVec.toNat_ofInt];omega
 rw [h1,h2,IntKind.wrap_i64];omega
section
variable {X:Cx} {off:Nat} {bs:List UInt8} {w:World}
theorem di_nint (h:St X off bs w) {ai v o1:Nat} (hh:hd X.xs off= .ok (1,ai,v,o1)) (h63:v<9223372036854775808) (hlen:bs.length+(txt (45::dec (v+1))).1.length≤room):
  Calls Tryz.prog 105 #[.pointer (some ⟨X.di,0,none⟩)] w (IPost X o1 bs (txt (45::dec (v+1))) w):=by
 obtain ⟨hl,hb1,hb2⟩:=hd_byte hh;have hv:=(hd_val hh).1;have hai:=(hd_off hh).2.2.2;have hai2:=(hd_off hh).2.2.1;have k1:=h.i1;have k2:=h.i2;have d0:=h.dec.c0;have d1:=h.dec.c1;have ha:=h.dec.at_ off hl;have hm:=h.dec.len;have KT:=fun n=>nextCBORType (h.dec.drewN n) hl
 rw [hb1] at KT;have KH:=fun n=>getHead (h.dec.drewN n) hh
 have gx:=xor_m1 v h63;have gw:=wrap_pos v (by omega)
 have gm: ¬(9223372036854775807:Int)<(v:Int):=by omega
 have KF: ∀w,Calls Tryz.prog 128 #[.int .i64 (-(v:Int)-1),.int .i64 10] w fun e w'=>e= .returned (.string ⟨(45::dec (v+1)).toArray⟩)∧Fr [] w w':=fun w=>by
  have:=formatInt_neg (v+1) (by omega) (by omega) w
  rwa [show (-((v+1:Nat):Int))= -(v:Int)-1 from by omega] at this
 replace KF:=Hz KF;replace hlen:=Hz hlen;replace KT:=Hz KT;replace KH:=Hz KH;replace hh:=Hz hh;have g95:((X.xs[off].toNat:Int)==95)=false:=by simp;omega
 have g127:((X.xs[off].toNat:Int)==127)=false:=by simp;omega
 have g159:((X.xs[off].toNat:Int)==159)=false:=by simp;omega
 have g191:((X.xs[off].toNat:Int)==191)=false:=by simp;omega
 generalize (X.xs[off].toNat:Int)=x0 at *
 clear hb1 hb2 hai;have b1:(off:Int)<(X.xs.length:Int):=by omega
 have b2:(0:Int)≤(off:Int):=by omega
 have b3:(off:Int).toNat=off:=by omega
 go_enter Tryz.func105,Tryz.ntmps105
 go_wp2
 go_quiet (fail)
 go_wp2_with fail
 refine (KT.out _).mono ?_
 rintro e w1 ⟨rfl,nm,rfl⟩;go_wp2_with fail
 refine (KH.out _).mono ?_
 rintro e w1 ⟨rfl,hD,hf⟩;have h1:=(h.drewN _).moved hf hD;have G1:=h.grF (((Fr.refl [X.d] w).drewN _).trans hf);have k1:=h1.i1;have k2:=h1.i2;go_wp2
 go_region_held3 (fun w'=>w'.cell? ⟨X.di,2,none⟩=some (.pointer (some ⟨X.wb,0,none⟩))) (first|go_keep|exact h2.i2|exact h3.i2)
  (first|(go_at_call 128;refine (KF.out _).mono ?_;rintro e w2 ⟨rfl,hf2⟩;have h2:=St.kept (by first|exact h1|exact St.drewN h1 _) hf2;have G2:=(St.gr0 (by first|exact h1|exact St.drewN h1 _) hf2))|(go_at_call 104;refine (writeString h2.buf h2.lw h2.hB (45::dec (v+1)) hlen.out).mono ?_;rintro e w3 ⟨⟨u3,rfl⟩,hb3,hg3⟩;have h3:=h2.wrote hg3 hb3))
 go_wp2;go_ret
 exact ⟨_,_,rfl,rfl,fun _=>rfl,h3,(G1.drewN 1).trans (Gr.trans G2 (St.grW hg3))⟩
end
end
section
open Go.RowKit
theorem St.i3 {X:Cx} {off:Nat} {bs:List UInt8} {w:World} (h:St X off bs w):w.cell? ⟨X.dg,0,none⟩=some (.int .u8 (X.M.enc:Int)):=cell_blk h.dg 0
theorem St.i4 {X:Cx} {off:Nat} {bs:List UInt8} {w:World} (h:St X off bs w):w.cell? ⟨X.dg,1,none⟩=some (.bool X.M.sp):=cell_blk h.dg 1
theorem St.i5 {X:Cx} {off:Nat} {bs:List UInt8} {w:World} (h:St X off bs w):w.cell? ⟨X.dg,2,none⟩=some (.bool X.M.tx):=cell_blk h.dg 2
theorem St.i6 {X:Cx} {off:Nat} {bs:List UInt8} {w:World} (h:St X off bs w):w.cell? ⟨X.dg,3,none⟩=some (.bool X.M.em):=cell_blk h.dg 3
theorem St.i7 {X:Cx} {off:Nat} {bs:List UInt8} {w:World} (h:St X off bs w):w.cell? ⟨X.dg,6,none⟩=some (.pointer (some ⟨X.dm,0,none⟩)):=cell_blk h.dg 6
theorem noteB_0 (b:List UInt8):noteB 0 false b=[104,39]++(hexB hexD b++[39]):=by simp [noteB]
theorem noteB_s (b:List UInt8):noteB 0 true b=[104,39]++(spacedB hexD 0 b++[39]):=by simp [noteB]
theorem noteB_1 (sp:Bool) (b:List UInt8):noteB 1 sp b=[98,51,50,39]++(baseB 5 b32D b++[39]):=by simp [noteB]
theorem noteB_2 (sp:Bool) (b:List UInt8):noteB 2 sp b=[104,51,50,39]++(baseB 5 h32D b++[39]):=by simp [noteB]
theorem noteB_3 (sp:Bool) (b:List UInt8):noteB 3 sp b=[98,54,52,39]++(baseB 6 b64D b++[39]):=by simp [noteB]
theorem spaced_snoc (ds:List UInt8) (x:UInt8): ∀(l:List UInt8) (i:Nat),spacedB ds i (l++[x])=spacedB ds i l++((if i+l.length=0 then [] else [32])++hexB ds [x])
 |[],i=>by simp [spacedB]
 |c::l,i=>by
  rw [List.cons_append,spacedB,spaced_snoc ds x l (i+1),spacedB,List.length_cons,show i+1+l.length=i+(l.length+1) by omega]
  simp only [List.append_assoc]
theorem spaced_length (ds:List UInt8): ∀(l:List UInt8) (i:Nat),(spacedB ds i l).length≤3*l.length
 |[],i=>by simp [spacedB]
 |c::l,i=>by
  have:=spaced_length ds l (i+1);rw [spacedB,List.length_append,List.length_append,hexB_length];have:(if i=0 then ([]:List UInt8) else [32]).length≤1:=by split<;>simp
  simp;omega
end
end Go.Proofs.YteodinhkhhaafaaGreatDoor
