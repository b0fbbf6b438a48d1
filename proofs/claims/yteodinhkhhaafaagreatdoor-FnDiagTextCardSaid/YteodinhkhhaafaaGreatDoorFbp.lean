/- Walks of the program, and plain facts. -/
import Derived.Test.YteodinhkhhaafaaGreatDoorFbg
import Derived.Test.YteodinhkhhaafaaGreatDoorFbo
import Derived.Lib.SmallJoins
set_option linter.unusedVariables false
set_option linter.unusedSimpArgs false
set_option maxRecDepth 100000
set_option maxHeartbeats 6400000
namespace Go.Proofs.YteodinhkhhaafaaGreatDoor
section
open Go.RowKit
theorem dec0:dec 0=[48]:=by rw [dec_lt 0 (by decide)];rfl
theorem natText0 (w:World) (ao:Option Addr) (c:Nat):
  Calls Tryz.prog 197 #[.slice ao 0 c,.bool false,.int .i64 10] w fun e w'=> ∃g,e= .returned (.slice (some ⟨g,0,none⟩) 1 1)∧Rd w' g 0 [48]∧Fr [] w w':=by
 have hcv:=Go.Joins.run_convert_bytes_const_at (P:=Tryz.prog) w 59 5 #[.int .u8 48] 1 1 w.heap.size rfl Tryz.underlying59 Tryz.underlying5;go_enter Tryz.func197,Tryz.ntmps197
 go_wp2;go_ret
 refine ⟨w.heap.size,rfl,?_,(Fr.refl _ _).alloc _⟩
 intro j hj;obtain rfl:j=0:=by simp at hj;omega
 exact cell_blk (blk_new w _) 0
theorem textA {w:World} {z V:Nat} {neg:Bool} (h:IntV w z V neg) (hV:0<V∨neg=false) (hl:(dec V).length≤100000000):
  Calls Tryz.prog 127 #[.pointer (some ⟨z,0,none⟩)] w fun e w'=>e= .returned (.string ⟨(bigT V neg).toArray⟩)∧Fr [] w w':=by
 rcases Nat.eq_zero_or_pos V with h0|h0
 ·obtain rfl:neg=false:=hV.resolve_left (by omega)
  subst h0;have hT:bigT 0 false=[48]:=by unfold bigT;rw [dec0];rfl
  rw [hT];have K: ∀w,IntV w z 0 false→Calls Tryz.prog 167 #[.pointer (some ⟨z,0,none⟩),.int .i64 10] w fun e w'=>e= .returned (.string ⟨([48]:List UInt8).toArray⟩)∧Fr [] w w':=by
   intro w h;obtain ⟨v,c0,c1,f0,f1,hn,hz⟩:=h.cells;have hv: ∃ao c,v= .slice ao 0 c:=by
    rcases hn with ⟨_,hv⟩|⟨g,n,c,h1,h2,h3,h4,h5,_⟩
    ·exact hv
    ·have:=Nat.pow_pos (n:=n) (show 0<4294967296 by decide);omega
   obtain ⟨ao,c,rfl⟩:=hv;have KT:=Hz (fun (W:World)=>natText0 W ao c)
   have KC:=Hz (fun (W:World) (F:Fr [] w W)=>(⟨F.cell c0 (by simp),F.cell c1 (by simp)⟩:W.cell? ⟨z,0,none⟩=some (.bool false)∧W.cell? ⟨z,1,none⟩=some (.slice ao 0 c)))
   have hF1:Fr [] w w.drew:=(Fr.refl [] w).drew;clear hn;go_enter Tryz.func167,Tryz.ntmps167
   go_wp2;obtain ⟨j0,j1⟩:=KC.out _ hF1
   go_region_with (go_at_call 197;refine (KT.out _).mono ?_;rintro e w2 ⟨g,rfl,hrd,hf2⟩;have ht:(convert 59 9 (.slice (some ⟨g,0,none⟩) 1 1)).run Tryz.prog w2= .ok (.string ⟨#[48]⟩) w2:=toStr hrd 1)
   all_goals go_wp2_with fail
   all_goals go_ret
   all_goals exact ⟨rfl,hF1.trans hf2⟩
  have K2:=Hz (K w h);clear K;replace h:=Hz h;go_enter Tryz.func127,Tryz.ntmps127
  go_wp2_with (go_at_call 167;refine K2.out.mono ?_;rintro e w1 ⟨rfl,hf⟩)
  go_ret
  exact ⟨rfl,hf⟩
 ·exact textI h h0 hl
section
variable {X:Cx} {off:Nat} {bs:List UInt8} {w:World}
theorem di_bg2 (h:St X off bs w) {ai o1 off2:Nat} {b:List UInt8} (hh:hd X.xs off= .ok (6,ai,2,o1)) (hl1:o1<X.xs.length) (hm2:X.xs[o1].toNat/32=2)
  (hP: ∀w,Dec w X.d X.db X.o X.c X.dm X.xs o1→X.db<w.heap.size→Calls Tryz.prog 129 #[.pointer (some ⟨X.d,0,none⟩)] w (SAt w X.d X.db X.o X.c X.dm X.xs off2 b)) (hbl:b.length≤90000) (hlen:bs.length+(bigT (be b) false).length≤room):
  Calls Tryz.prog 105 #[.pointer (some ⟨X.di,0,none⟩)] w (IPost X off2 bs (txt (bigT (be b) false)) w):=by
 obtain ⟨hl,hb1,hb2⟩:=hd_byte hh;have hv:=(hd_val hh).1;have hai:=(hd_off hh).2.2.2;have hai2:=(hd_off hh).2.2.1;have k1:=h.i1;have k2:=h.i2;have d0:=h.dec.c0;have d1:=h.dec.c1;have ha:=h.dec.at_ off hl;have hm:=h.dec.len;have KT:=fun n=>nextCBORType (h.dec.drewN n) hl
 rw [hb1] at KT;have KH:=fun n=>getHead (h.dec.drewN n) hh
 have KT2:=Hz (fun (W:World) (H:Dec W X.d X.db X.o X.c X.dm X.xs o1)=>nextCBORType H hl1)
 rw [hm2] at KT2;replace hP:=Hz hP;replace KT:=Hz KT;replace KH:=Hz KH;replace hh:=Hz hh;have hdl:=Hz (be_dec_len b 0 (by omega) (by omega))
 try rw [Nat.add_zero] at hdl
 have g95:((X.xs[off].toNat:Int)==95)=false:=by simp;omega
 have g127:((X.xs[off].toNat:Int)==127)=false:=by simp;omega
 have g159:((X.xs[off].toNat:Int)==159)=false:=by simp;omega
 have g191:((X.xs[off].toNat:Int)==191)=false:=by simp;omega
 generalize (X.xs[off].toNat:Int)=x0 at *
 clear hb1 hb2 hai hm2;have b1:(off:Int)<(X.xs.length:Int):=by omega
 have b2:(0:Int)≤(off:Int):=by omega
 have b3:(off:Int).toNat=off:=by omega
 obtain ⟨T,hT⟩: ∃T,T=bigT (be b) false:=⟨_,rfl⟩;rw [←hT] at hlen ⊢;replace hT:=Hz hT;go_enter Tryz.func105,Tryz.ntmps105
 go_wp2
 go_quiet (fail)
 go_wp2_with fail
 refine (KT.out _).mono ?_
 rintro e w1 ⟨rfl,nm,rfl⟩;go_wp2_with fail
 refine (KH.out _).mono ?_
 rintro e w1 ⟨rfl,hD,hf⟩;have h1:=(h.drewN _).moved hf hD;have G1:=h.grF (((Fr.refl [X.d] w).drewN _).trans hf);have k1:=h1.i1;have k2:=h1.i2;go_wp2_with fail
 refine (KT2.out _ h1.dec).mono ?_
 rintro e w2 ⟨rfl,nm2,rfl⟩;have h2:=h1.drewN nm2;have k1:=h2.i1;have k2:=h2.i2;go_wp2_with fail
 refine (hP.out _ h2.dec (Nat.lt_of_lt_of_le h2.ldb h2.hB)).mono ?_
 rintro e w3 ⟨vbk,q,n,fl,rfl,hcap,hrd,hvl,hD3,hf3⟩;have h3:=h2.moved hf3 hD3;have G3:=(G1.drewN nm2).trans (h2.grF hf3);have hdb:=h3.ldb;have hdbs:=hvl;have KS:=Hz (setBytes (w:=w3.alloc (.cells #[.bool false,.slice none 0 0] 221 (0,0))) (z:=w3.heap.size) (c:=n) (bs:=b) (blk_new w3 _) rfl (hrd.fr ((Fr.refl [] w3).alloc _) (by simp)) (by simp;omega) (by omega))
 obtain ⟨lb,hlb⟩: ∃l,l=b.length:=⟨_,rfl⟩;obtain ⟨vb,hvb⟩: ∃x,x=be b:=⟨_,rfl⟩;have hvk:vb<4294967296^(lb+1):=by rw [hvb,hlb,p32];exact Nat.lt_of_lt_of_le (be_lt256 b) (Nat.pow_le_pow_right (by decide) (by omega))
 have hlb2:lb+1≤90001:=by omega
 rw [←hvb] at KS hdl hT;rw [←hlb] at KS;rw [←hlb];replace hlb:=Hz hlb;replace hvb:=Hz hvb;replace hvk:=Hz hvk;replace hrd:=Hz hrd;replace hcap:=Hz hcap;go_wp2_with fail
 refine KS.out.mono ?_
 rintro e w4 ⟨rfl,hJ4,hf4⟩;have hf34:Fr [] w3 w4:=((Fr.refl [] w3).alloc _).then_ hf4 (by intro k hk;right;simp at hk;omega)
 have h4:=h3.kept hf34;have G4:=G3.trans (h3.gr0 hf34);have hTT:T=bigT vb false:=hT.out;replace hTT:=Hz hTT;have KX:=Hz (fun W (F:Fr [] w4 W)=>textA (hJ4.fr F (by simp)) (.inr rfl) (by have:=hdl.out;omega))
 have k1:=h4.i1;have k2:=h4.i2;have hF1:Fr [] w4 w4.drew:=(Fr.refl [] w4).drew;rw [←hTT.out] at KX;go_wp2
 go_region_held3 (fun w'=>w'.cell? ⟨X.di,2,none⟩=some (.pointer (some ⟨X.wb,0,none⟩))) (first|go_keep|exact (St.kept h4 hF1).i2|exact hA.i2|exact hB.i2)
  (first|(go_at_call 127;refine (KX.out _ hF1).mono ?_;rintro e wA ⟨rfl,hfA⟩;have hA:=St.kept h4 (hF1.trans hfA))|(go_at_call 104;refine (writeString hA.buf hA.lw hA.hB T hlen).mono ?_;rintro e wB ⟨⟨uB,rfl⟩,hbB,hgB⟩;have hB:=hA.wrote hgB hbB))
 go_wp2;go_ret
 exact ⟨.nilIface,_,rfl,rfl,fun _=>rfl,hB,(G4.trans (h4.gr0 (hF1.trans hfA))).trans (St.grW hgB)⟩
theorem di_bg3 (h:St X off bs w) {ai o1 off2:Nat} {b:List UInt8} (hh:hd X.xs off= .ok (6,ai,3,o1)) (hl1:o1<X.xs.length) (hm2:X.xs[o1].toNat/32=2)
  (hP: ∀w,Dec w X.d X.db X.o X.c X.dm X.xs o1→X.db<w.heap.size→Calls Tryz.prog 129 #[.pointer (some ⟨X.d,0,none⟩)] w (SAt w X.d X.db X.o X.c X.dm X.xs off2 b)) (hbl:b.length≤90000) (hlen:bs.length+(bigT (be b+1) true).length≤room):
  Calls Tryz.prog 105 #[.pointer (some ⟨X.di,0,none⟩)] w (IPost X off2 bs (txt (bigT (be b+1) true)) w):=by
 obtain ⟨hl,hb1,hb2⟩:=hd_byte hh;have hv:=(hd_val hh).1;have hai:=(hd_off hh).2.2.2;have hai2:=(hd_off hh).2.2.1;have k1:=h.i1;have k2:=h.i2;have d0:=h.dec.c0;have d1:=h.dec.c1;have ha:=h.dec.at_ off hl;have hm:=h.dec.len;have KT:=fun n=>nextCBORType (h.dec.drewN n) hl
 rw [hb1] at KT;have KH:=fun n=>getHead (h.dec.drewN n) hh
 have KT2:=Hz (fun (W:World) (H:Dec W X.d X.db X.o X.c X.dm X.xs o1)=>nextCBORType H hl1)
 rw [hm2] at KT2;replace hP:=Hz hP;replace KT:=Hz KT;replace KH:=Hz KH;replace hh:=Hz hh;have hdl:=Hz (be_dec_len b 1 (by omega) (by omega))
 try rw [Nat.add_zero] at hdl
 have g95:((X.xs[off].toNat:Int)==95)=false:=by simp;omega
 have g127:((X.xs[off].toNat:Int)==127)=false:=by simp;omega
 have g159:((X.xs[off].toNat:Int)==159)=false:=by simp;omega
 have g191:((X.xs[off].toNat:Int)==191)=false:=by simp;omega
 generalize (X.xs[off].toNat:Int)=x0 at *
 clear hb1 hb2 hai hm2;have b1:(off:Int)<(X.xs.length:Int):=by omega
 have b2:(0:Int)≤(off:Int):=by omega
 have b3:(off:Int).toNat=off:=by omega
 obtain ⟨T,hT⟩: ∃T,T=bigT (be b+1) true:=⟨_,rfl⟩;rw [←hT] at hlen ⊢;replace hT:=Hz hT;go_enter Tryz.func105,Tryz.ntmps105
 go_wp2
 go_quiet (fail)
 go_wp2_with fail
 refine (KT.out _).mono ?_
 rintro e w1 ⟨rfl,nm,rfl⟩;go_wp2_with fail
 refine (KH.out _).mono ?_
 rintro e w1 ⟨rfl,hD,hf⟩;have h1:=(h.drewN _).moved hf hD;have G1:=h.grF (((Fr.refl [X.d] w).drewN _).trans hf);have k1:=h1.i1;have k2:=h1.i2;go_wp2_with fail
 refine (KT2.out _ h1.dec).mono ?_
 rintro e w2 ⟨rfl,nm2,rfl⟩;have h2:=h1.drewN nm2;have k1:=h2.i1;have k2:=h2.i2;go_wp2_with fail
 refine (hP.out _ h2.dec (Nat.lt_of_lt_of_le h2.ldb h2.hB)).mono ?_
 rintro e w3 ⟨vbk,q,n,fl,rfl,hcap,hrd,hvl,hD3,hf3⟩;have h3:=h2.moved hf3 hD3;have G3:=(G1.drewN nm2).trans (h2.grF hf3);have hdb:=h3.ldb;have hdbs:=hvl;have KS:=Hz (setBytes (w:=w3.alloc (.cells #[.bool false,.slice none 0 0] 221 (0,0))) (z:=w3.heap.size) (c:=n) (bs:=b) (blk_new w3 _) rfl (hrd.fr ((Fr.refl [] w3).alloc _) (by simp)) (by simp;omega) (by omega))
 obtain ⟨lb,hlb⟩: ∃l,l=b.length:=⟨_,rfl⟩;obtain ⟨vb,hvb⟩: ∃x,x=be b:=⟨_,rfl⟩;have hvk:vb<4294967296^(lb+1):=by rw [hvb,hlb,p32];exact Nat.lt_of_lt_of_le (be_lt256 b) (Nat.pow_le_pow_right (by decide) (by omega))
 have hlb2:lb+1≤90001:=by omega
 rw [←hvb] at KS hdl hT;rw [←hlb] at KS;rw [←hlb];replace hlb:=Hz hlb;replace hvb:=Hz hvb;replace hvk:=Hz hvk;replace hrd:=Hz hrd;replace hcap:=Hz hcap;go_wp2_with fail
 refine KS.out.mono ?_
 rintro e w4 ⟨rfl,hJ4,hf4⟩;have hf34:Fr [] w3 w4:=((Fr.refl [] w3).alloc _).then_ hf4 (by intro k hk;right;simp at hk;omega)
 have h4:=h3.kept hf34;have G4:=G3.trans (h3.gr0 hf34);have K1:=Hz (newInt w4 1 (by omega))
 go_wp2_with fail
 refine K1.out.mono ?_
 rintro e w5 ⟨y,rfl,hI5,hyl,hf5⟩;have hz4:w3.heap.size<w4.heap.size:=by have h9:=hf4.size;have h8:(w3.alloc (.cells #[.bool false,.slice none 0 0] 221 (0,0))).heap.size=w3.heap.size+1:=(by simp);omega
 have hJ45:IntV w5 w3.heap.size vb false:=hJ4.fr hf5 (by simp)
 obtain ⟨v0,hb0,_⟩:=hJ45;have KA:=Hz (addI (k:=lb+1) (show IntV w5 w3.heap.size vb false from hJ4.fr hf5 (by simp)) hI5 (by omega) (fun u hu=>hu.re hb0) (by omega) hvk.out (Nat.lt_of_lt_of_le (show 1<4294967296^1 by decide) (Nat.pow_le_pow_right (by decide) (by omega))))
 clear hb0;go_wp2_with fail
 refine KA.out.mono ?_
 rintro e w6 ⟨rfl,hI6,hf6⟩;have KN:=Hz (negI hI6 (by omega))
 go_wp2_with fail
 refine KN.out.mono ?_
 rintro e w7 ⟨rfl,hI7,hf7⟩;have hf47:Fr [] w3 w7:=(((hf34.trans hf5).then_ hf6 (by intro k hk;right;simp at hk;omega))).then_ hf7 (by intro k hk;right;simp at hk;omega)
 have h7:=h3.kept hf47;have G4:=G3.trans (h3.gr0 hf47);have hTT:T=bigT (vb+1) true:=hT.out;replace hTT:=Hz hTT;have KX:=Hz (fun W (F:Fr [] w7 W)=>textI (hI7.fr F (by simp)) (by omega) (by have:=hdl.out;omega))
 have k1:=h7.i1;have k2:=h7.i2;have hF1:Fr [] w7 w7.drew:=(Fr.refl [] w7).drew;rw [←hTT.out] at KX;go_wp2
 go_region_held3 (fun w'=>w'.cell? ⟨X.di,2,none⟩=some (.pointer (some ⟨X.wb,0,none⟩))) (first|go_keep|exact (St.kept h7 hF1).i2|exact hA.i2|exact hB.i2)
  (first|(go_at_call 127;refine (KX.out _ hF1).mono ?_;rintro e wA ⟨rfl,hfA⟩;have hA:=St.kept h7 (hF1.trans hfA))|(go_at_call 104;refine (writeString hA.buf hA.lw hA.hB T hlen).mono ?_;rintro e wB ⟨⟨uB,rfl⟩,hbB,hgB⟩;have hB:=hA.wrote hgB hbB))
 go_wp2;go_ret
 exact ⟨.nilIface,_,rfl,rfl,fun _=>rfl,hB,(G4.trans (h7.gr0 (hF1.trans hfA))).trans (St.grW hgB)⟩
theorem di_nbig (h:St X off bs w) {ai v o1:Nat} (hh:hd X.xs off= .ok (1,ai,v,o1)) (h63:9223372036854775808≤v) (hlen:bs.length+(bigT (v+1) true).length≤room):
  Calls Tryz.prog 105 #[.pointer (some ⟨X.di,0,none⟩)] w (IPost X o1 bs (txt (bigT (v+1) true)) w):=by
 obtain ⟨hl,hb1,hb2⟩:=hd_byte hh;have hv:=(hd_val hh).1;have hai:=(hd_off hh).2.2.2;have hai2:=(hd_off hh).2.2.1;have k1:=h.i1;have k2:=h.i2;have d0:=h.dec.c0;have d1:=h.dec.c1;have ha:=h.dec.at_ off hl;have hm:=h.dec.len;have KT:=fun n=>nextCBORType (h.dec.drewN n) hl
 rw [hb1] at KT;have KH:=fun n=>getHead (h.dec.drewN n) hh
 have gm:(9223372036854775807:Int)<(v:Int):=by omega
 have hdl:=Hz (dec_length (v+1) 20 (by omega) (by omega))
 replace KT:=Hz KT;replace KH:=Hz KH;replace hh:=Hz hh;have g95:((X.xs[off].toNat:Int)==95)=false:=by simp;omega
 have g127:((X.xs[off].toNat:Int)==127)=false:=by simp;omega
 have g159:((X.xs[off].toNat:Int)==159)=false:=by simp;omega
 have g191:((X.xs[off].toNat:Int)==191)=false:=by simp;omega
 generalize (X.xs[off].toNat:Int)=x0 at *
 clear hb1 hb2 hai;have b1:(off:Int)<(X.xs.length:Int):=by omega
 have b2:(0:Int)≤(off:Int):=by omega
 have b3:(off:Int).toNat=off:=by omega
 obtain ⟨T,hT⟩: ∃T,T=bigT (v+1) true:=⟨_,rfl⟩;rw [←hT] at hlen ⊢;replace hT:=Hz hT;go_enter Tryz.func105,Tryz.ntmps105
 go_wp2
 go_quiet (fail)
 go_wp2_with fail
 refine (KT.out _).mono ?_
 rintro e w1 ⟨rfl,nm,rfl⟩;go_wp2_with fail
 refine (KH.out _).mono ?_
 rintro e w3 ⟨rfl,hD,hf⟩;have h3:=(h.drewN _).moved hf hD;have G3:=h.grF (((Fr.refl [X.d] w).drewN _).trans hf);have k1:=h3.i1;have k2:=h3.i2;have KS:=Hz (setUint64 (w:=w3.alloc (.cells #[.bool false,.slice none 0 0] 221 (0,0))) (z:=w3.heap.size) (V:=v) (blk_new w3 _) rfl hv);go_wp2_with fail
 refine KS.out.mono ?_
 rintro e w4 ⟨rfl,hJ4,hf4⟩;have hf34:Fr [] w3 w4:=((Fr.refl [] w3).alloc _).then_ hf4 (by intro k hk;right;simp at hk;omega)
 have h4:=h3.kept hf34;have G4:=G3.trans (h3.gr0 hf34);have K1:=Hz (newInt w4 1 (by omega))
 go_wp2_with fail
 refine K1.out.mono ?_
 rintro e w5 ⟨y,rfl,hI5,hyl,hf5⟩;have hz4:w3.heap.size<w4.heap.size:=by have h9:=hf4.size;have h8:(w3.alloc (.cells #[.bool false,.slice none 0 0] 221 (0,0))).heap.size=w3.heap.size+1:=(by simp);omega
 have hJ45:IntV w5 w3.heap.size v false:=hJ4.fr hf5 (by simp)
 obtain ⟨v0,hb0,_⟩:=hJ45;have KA:=Hz (addI (k:=2) (show IntV w5 w3.heap.size v false from hJ4.fr hf5 (by simp)) hI5 (by omega) (fun u hu=>hu.re hb0) (by omega) (by exact hv) (by decide))
 clear hb0;go_wp2_with fail
 refine KA.out.mono ?_
 rintro e w6 ⟨rfl,hI6,hf6⟩;have KN:=Hz (negI hI6 (by omega))
 go_wp2_with fail
 refine KN.out.mono ?_
 rintro e w7 ⟨rfl,hI7,hf7⟩;have hf47:Fr [] w3 w7:=(((hf34.trans hf5).then_ hf6 (by intro k hk;right;simp at hk;omega))).then_ hf7 (by intro k hk;right;simp at hk;omega)
 have h7:=h3.kept hf47;have G4:=G3.trans (h3.gr0 hf47);have hTT:T=bigT (v+1) true:=hT.out;replace hTT:=Hz hTT;have KX:=Hz (fun W (F:Fr [] w7 W)=>textI (hI7.fr F (by simp)) (by omega) (by have:=hdl.out;omega))
 have k1:=h7.i1;have k2:=h7.i2;have hF1:Fr [] w7 w7.drew:=(Fr.refl [] w7).drew;rw [←hTT.out] at KX;go_wp2
 go_region_held3 (fun w'=>w'.cell? ⟨X.di,2,none⟩=some (.pointer (some ⟨X.wb,0,none⟩))) (first|go_keep|exact (St.kept h7 hF1).i2|exact hA.i2|exact hB.i2)
  (first|(go_at_call 127;refine (KX.out _ hF1).mono ?_;rintro e wA ⟨rfl,hfA⟩;have hA:=St.kept h7 (hF1.trans hfA))|(go_at_call 104;refine (writeString hA.buf hA.lw hA.hB T hlen).mono ?_;rintro e wB ⟨⟨uB,rfl⟩,hbB,hgB⟩;have hB:=hA.wrote hgB hbB))
 go_wp2;go_ret
 exact ⟨.nilIface,_,rfl,rfl,fun _=>rfl,hB,(G4.trans (h7.gr0 (hF1.trans hfA))).trans (St.grW hgB)⟩
theorem di_tagbad (n:Nat) (hn:n=2∨n=3) (h:St X off bs w) {ai o1 m:Nat} (hh:hd X.xs off= .ok (6,ai,n,o1)) (hl1:o1<X.xs.length) (hm8:m<8) (hmm:X.xs[o1].toNat/32=m) (hm2:m≠2) (off2:Nat):
  Calls Tryz.prog 105 #[.pointer (some ⟨X.di,0,none⟩)] w (IPost X off2 bs ([],some 17) w):=by
 obtain ⟨hl,hb1,hb2⟩:=hd_byte hh;have hv:=(hd_val hh).1;have hai:=(hd_off hh).2.2.2;have hai2:=(hd_off hh).2.2.1;have k1:=h.i1;have k2:=h.i2;have d0:=h.dec.c0;have d1:=h.dec.c1;have ha:=h.dec.at_ off hl;have hm:=h.dec.len;have KT:=fun n=>nextCBORType (h.dec.drewN n) hl
 rw [hb1] at KT;have KH:=fun n=>getHead (h.dec.drewN n) hh
 have KT2:=Hz (fun (W:World) (H:Dec W X.d X.db X.o X.c X.dm X.xs o1)=>nextCBORType H hl1)
 rw [hmm] at KT2;have KN:=Hz (typeName m hm8);have tm:((m*32:Nat):Int)=(m:Int)*32:=by omega
 have t64:(((m*32:Nat):Int)==64)=false:=by simp;omega
 have t64b: ¬((m*32:Nat):Int)=64:=by omega
 replace KT:=Hz KT;replace KH:=Hz KH;replace hh:=Hz hh;have g95:((X.xs[off].toNat:Int)==95)=false:=by simp;omega
 have g127:((X.xs[off].toNat:Int)==127)=false:=by simp;omega
 have g159:((X.xs[off].toNat:Int)==159)=false:=by simp;omega
 have g191:((X.xs[off].toNat:Int)==191)=false:=by simp;omega
 generalize (X.xs[off].toNat:Int)=x0 at *
 clear hb1 hb2 hai tm;have b1:(off:Int)<(X.xs.length:Int):=by omega
 have b2:(0:Int)≤(off:Int):=by omega
 have b3:(off:Int).toNat=off:=by omega
 obtain ⟨M,hM⟩: ∃M,M=m*32:=⟨_,rfl⟩;rw [←hM] at t64 t64b KT2 KN;clear hmm hm2 hM;rcases hn with rfl|rfl
 all_goals
  go_enter Tryz.func105,Tryz.ntmps105
  go_wp2
  go_quiet (fail)
  go_wp2_with fail
  refine (KT.out _).mono ?_
  rintro e w1 ⟨rfl,nm,rfl⟩;go_wp2_with fail
  refine (KH.out _).mono ?_
  rintro e w1 ⟨rfl,hD,hf⟩;have h1:=(h.drewN _).moved hf hD;have G1:=h.grF (((Fr.refl [X.d] w).drewN _).trans hf);have k1:=h1.i1;have k2:=h1.i2;go_wp2_with fail
  refine (KT2.out _ h1.dec).mono ?_
  rintro e w2 ⟨rfl,nm2,rfl⟩;have h2:=h1.drewN nm2;have G2:=G1.drewN nm2;go_wp2_with fail
  refine (KN.out _).mono ?_
  rintro e w3 ⟨s,rfl,hs20,rfl⟩;go_wp2;go_ret
  exact ⟨.iface 156 (.pointer (some ⟨_,0,none⟩)),o1,rfl,errv_ptr 17 (by omega) _,(fun h=>by cases h),(by rw [List.append_nil];exact h2.kept ((Fr.refl _ _).alloc _)),G2.trans (h2.gr0 ((Fr.refl _ _).alloc _))⟩
end
end
end Go.Proofs.YteodinhkhhaafaaGreatDoor
