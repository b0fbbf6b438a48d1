/- Walks of the program, and plain facts. -/
import Derived.Test.YteodinhkhhaafaaGreatDoorEax
set_option linter.unusedVariables false
set_option linter.unusedSimpArgs false
set_option maxRecDepth 100000
set_option maxHeartbeats 6400000
namespace Go.Proofs.YteodinhkhhaafaaGreatDoor
section
set_option exponentiation.threshold 3000
open Go.RowKit
theorem idx_at {c:UInt8}: ∀{l:List UInt8} {i:Nat} (h:i<l.length),(∀j,(hj:j<i)→l[j]'(by omega)≠c)→l[i]=c→idx c l=some i
 |[],i,h,_,_=>by simp at h
 |x::l,0,h,_,e=>by rw [idx,if_pos (by simpa using e)]
 |x::l,i+1,h,hn,e=>by
  rw [idx,if_neg (by simpa using hn 0 (by omega)),idx_at (l:=l) (i:=i) (by simpa using h) (fun j hj=>by simpa using hn (j+1) (by omega)) (by simpa using e)]
  rfl
def idxI (c:UInt8) (l:List UInt8):Int:=match idx c l with
 |some i=>(i:Int)
 |none=> -1
theorem indexByte {w:World} {g cap:Nat} {bs:List UInt8} (c:UInt8) (hrd:Rd w g 0 bs) (hl:bs.length≤1099511627776):
  Calls Tryz.prog 187 #[.slice (some ⟨g,0,none⟩) bs.length cap,.int .u8 (c.toNat:Int)] w fun e w'=>w'=w∧e= .returned (.int .i64 (idxI c bs)):=by
 replace hrd:=Hz hrd;go_enter Tryz.func187,Tryz.ntmps187
 go_wp2
 go_loopg [8] bs.length (fun gk v8 wr=> ∃i:Nat,v8= .int .i64 (i:Int)∧i+gk=bs.length∧Hid (∀j,j<i→ ∃hj:j<bs.length,bs[j]≠c)∧w=wr)
 case atStart=>exact ⟨0,by go_num,by omega,Hz (fun j hj=>by omega),rfl⟩
 case round=>
  obtain ⟨i,rfl,hig,hn,rfl⟩:=hrel;by_cases hi:i<bs.length
  ·obtain ⟨k,rfl⟩: ∃k,gk=k+1:=⟨gk-1,by omega⟩
   have hx:=hrd.out i hi;rw [Nat.zero_add] at hx;have t0:(i:Int)<(bs.length:Int):=by omega
   by_cases hc:bs[i]=c
   ·have e0:((bs[i].toNat:Int)==(c.toNat:Int))=true:=by simp [hc]
    have e1:(bs[i].toNat:Int)=(c.toNat:Int):=by rw [hc]
    have hr:idxI c bs=(i:Int):=by unfold idxI;rw [idx_at hi (fun j hj=>by obtain ⟨_,h⟩:=hn.out j hj;exact h) hc]
    go_wp2;go_ret
    exact ⟨rfl,by first|(rw [hr];rfl)|rfl⟩
   ·have e0:((bs[i].toNat:Int)==(c.toNat:Int))=false:=by
     simp only [beq_eq_false_iff_ne,ne_eq];intro e;exact hc (UInt8.toNat_inj.1 (by omega))
    have e1: ¬(bs[i].toNat:Int)=(c.toNat:Int):=by simpa using e0
    have hn2:Hid (∀j,j<i+1→ ∃hj:j<bs.length,bs[j]≠c):=Hz (fun j hj=>by
     by_cases e:j=i
     ·subst e;exact ⟨hi,hc⟩
     ·exact hn.out j (by omega))
    clear hc;go_wp2
    go_roundg k
    case measure=>omega
    case rel=>exact ⟨i+1,by go_num,by omega,hn2,rfl⟩
  ·have t0: ¬(i:Int)<(bs.length:Int):=by omega
   have hr:idxI c bs= -1:=by
    unfold idxI;rw [idx_none c bs (fun x hx=>by
     obtain ⟨j,hj,rfl⟩:=List.getElem_of_mem hx;obtain ⟨_,h⟩:=hn.out j (by omega)
     exact h)]
   go_wp2;go_ret
   exact ⟨rfl,by first|(rw [hr];rfl)|rfl⟩
end
section
open Go.RowKit
section
variable {X:Cx} {off:Nat} {bs:List UInt8} {w:World}
def EncB (X:Cx) (b:List UInt8) (r:R):Prop:= ∀(off:Nat) (bs:List UInt8) (w:World) (q c:Nat),St X off bs w→Rd w X.db q b→b.length≤c→bs.length+r.1.length≤room→
 Calls Tryz.prog 130 #[.pointer (some ⟨X.di,0,none⟩),.slice (some ⟨X.db,q,none⟩) b.length c] w (IPost X off bs r w)
theorem di_bytes (h:St X off bs w) {ai v o1:Nat} {b:List UInt8} {r:R} (hh:hd X.xs off= .ok (2,ai,v,o1)) (h31:ai≠31) (hvl:o1+v≤X.xs.length) (hb:b=(X.xs.drop o1).take v) (hE:EncB X b r) (hlen:bs.length+r.1.length≤room):
  Calls Tryz.prog 105 #[.pointer (some ⟨X.di,0,none⟩)] w (IPost X (o1+v) bs r w):=by
 obtain ⟨hl,hb1,hb2⟩:=hd_byte hh;have hai:=(hd_off hh).2.2.2;have hai2:=(hd_off hh).2.2.1;have k1:=h.i1;have k2:=h.i2;have d0:=h.dec.c0;have d1:=h.dec.c1;have ha:=h.dec.at_ off hl;have hm:=h.dec.len;have KT:=fun n=>nextCBORType (h.dec.drewN n) hl
 rw [hb1] at KT;have KP:=fun n=>parseByteString (h.dec.drewN n) hh h31 hvl hb
 replace KT:=Hz KT;replace KP:=Hz KP;replace hh:=Hz hh;replace hE:=Hz hE;replace hb:=Hz hb;have g95:((X.xs[off].toNat:Int)==95)=false:=by simp;omega
 have g127:((X.xs[off].toNat:Int)==127)=false:=by simp;omega
 have g159:((X.xs[off].toNat:Int)==159)=false:=by simp;omega
 have g191:((X.xs[off].toNat:Int)==191)=false:=by simp;omega
 generalize (X.xs[off].toNat:Int)=x0 at *
 clear hb1 hb2 hai h31;have b1:(off:Int)<(X.xs.length:Int):=by omega
 have b2:(0:Int)≤(off:Int):=by omega
 have b3:(off:Int).toNat=off:=by omega
 go_enter Tryz.func105,Tryz.ntmps105
 go_wp2
 go_quiet (fail)
 go_wp2_with fail
 refine (KT.out _).mono ?_
 rintro e w1 ⟨rfl,nm,rfl⟩;go_wp2_with fail
 refine (KP.out _).mono ?_
 rintro e w1 ⟨q,n,rfl,hcap,hrd,hD,hf⟩;have h1:=(h.drewN _).moved hf hD;have G1:=h.grF (((Fr.refl [X.d] w).drewN _).trans hf);have KE:=Hz (hE.out _ _ _ q n h1 hrd hcap hlen);clear hrd hcap;go_wp2_with fail
 refine KE.out.mono ?_
 rintro e w2 ⟨v2,o2,rfl,hv2,ho2,h2,hG2⟩;have G2:=G1.trans hG2;rcases hr:r.2 with _|k
 ·rw [hr] at hv2;obtain rfl:=hv2.nil;go_wp2;go_ret
  exact ⟨.nilIface,o2,rfl,(by rw [hr];rfl),ho2,h2,G2⟩
 ·rw [hr] at hv2;obtain ⟨t,x,rfl⟩:=hv2.ne;go_wp2;go_ret
  exact ⟨.iface t x,o2,rfl,(by rw [hr];exact hv2),ho2,h2,G2⟩
end
end
section
set_option exponentiation.threshold 3000
open Go.RowKit
theorem fmtF_len (b:Nat) (e:Bool) (hR:(fR b).1.length≤100000∧(fR b).2≤100000∧ -100000≤(fR b).2):(fmtF b e).length≤1000001:=by
 obtain ⟨h1,h2,h3⟩:=hR;unfold fmtF;have hs:=sgn_len b;cases e
 ·have:=texT_len (fR b).1 (fR b).2 ((fR b).1.length-(fR b).2).toNat h2 (by omega)
  simp only [List.length_append];simp;omega
 ·have:=expT_len (fR b).1 (fR b).2 ((fR b).1.length-1) h2 h3 (by omega)
  simp only [List.length_append];simp;omega
theorem formatF (b:Nat) (e:Bool) (hb:b<18446744073709551616) (hfin:b/4503599627370496%2048≠2047) (he:e=true→0<fMant b) (w:World):
  Calls Tryz.prog 203 #[.float .f64 b,.int .u8 (if e then 101 else 102),.int .i64 (-1),.int .i64 64] w fun e' w'=>e'= .returned (.string ⟨(fmtF b e).toArray⟩)∧Fr [] w w':=by
 cases e
 ·exact formatT b hb hfin w
 ·exact formatE b hb hfin (he rfl) w
theorem appendFloat {w:World} {B:Nat} {v:Value} {bs:List UInt8} (b:Nat) (e:Bool) (hr:Row w B v bs) (hB:B≤w.heap.size) (hb:b<18446744073709551616) (hfin:b/4503599627370496%2048≠2047) (he:e=true→0<fMant b) (hl:bs.length+(fmtF b e).length≤140737488355328):
  Calls Tryz.prog 186 #[v,.float .f64 b,.int .u8 (if e then 101 else 102),.int .i64 (-1),.int .i64 64] w fun e' w'=> ∃v',e'= .returned v'∧Row w' B v' (bs++fmtF b e)∧Gr B [] w w':=by
 have KF:=Hz (formatF b e hb hfin he w);replace hb:=Hz hb;replace hfin:=Hz hfin;replace he:=Hz he;generalize (if e then (101:Int) else 102)=fm at *
 generalize fmtF b e=T at *
 obtain ⟨ao,n,c,rfl⟩:=hr.shape;go_enter Tryz.func186,Tryz.ntmps186
 go_wp2_with fail
 refine KF.out.mono ?_
 rintro e' w1 ⟨rfl,hf⟩;have hr1:=hr.fr hf (by simp)
 go_wp2_with (at_builtin;refine wpList_apStr rfl _ _ rfl (B:=B) _ bs T rfl rfl hr1 (Nat.le_trans hB hf.size) hl ?_)
 intro v' w' hr' hg;have hG:Gr B [] w w':=(Gr.of hf hB (by simp)).grown hg (Nat.le_trans hB hf.size) (fun k hk=> .inr (World.ownsRow.lt hr1 k hk).1)
 go_wp2;go_ret
 exact ⟨v',rfl,hr',hG⟩
end
end Go.Proofs.YteodinhkhhaafaaGreatDoor
