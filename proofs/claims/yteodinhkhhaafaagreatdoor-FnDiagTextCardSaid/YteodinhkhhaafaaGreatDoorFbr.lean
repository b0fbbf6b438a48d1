/- Walks of the program, and plain facts. -/
import Derived.Test.YteodinhkhhaafaaGreatDoorFbq
set_option linter.unusedVariables false
set_option linter.unusedSimpArgs false
set_option maxRecDepth 100000
set_option maxHeartbeats 6400000
namespace Go.Proofs.YteodinhkhhaafaaGreatDoor
section
open Go.RowKit
def NoEm (X:Cx) (b:List UInt8):Prop:=X.M.em=false∨X.M.em=true∧(X.L.nest≤65535∧X.L.el≤2147483647∧X.L.pa≤2147483647)∧ ∃(r:R) (k:Nat),Says b X.L X.M true r∧r.2=some k∧r.1.length≤room
def Falls2 (X:Cx) (b:List UInt8):Prop:=b=[]∨0<b.length∧NoTx X b∧NoEm X b
section
variable {X:Cx} {off:Nat} {bs:List UInt8} {w:World}
theorem encBytes2_hex (h:St X off bs w) {vb q c:Nat} {b:List UInt8} (hvb:vb<X.B) (hvw:vb≠X.wb) (hvd:vb≠X.d) (hrd:Rd w vb q b) (hbl:b.length≤1099511627776) (hcap:b.length≤c) (henc:X.M.enc=0) (hsp:X.M.sp=false) (hfall:Falls2 X b) (hlen:bs.length+(noteB X.M.enc X.M.sp b).length≤room):
  Calls Tryz.prog 130 #[.pointer (some ⟨X.di,0,none⟩),.slice (some ⟨vb,q,none⟩) b.length c] w (IPost X off bs (txt (noteB X.M.enc X.M.sp b)) w):=by
 rw [henc,hsp] at hlen ⊢;rw [noteB_0] at hlen ⊢;have L0:Togo bs (thenR (txt [104,39]) (thenR (txt (hexB hexD b)) (txt [39]))) bs (txt ([104,39]++((hexB hexD b)++[39]))):=Togo.refl _ _;replace L0:=Hz L0;replace hlen:=Hz hlen;replace hrd:=Hz hrd;have KB:=Hz (fun (w':World) (hr:Rd w' vb q b)=>zzHex (c:=c) hr hbl)
 go_enter Tryz.func130,Tryz.ntmps130
 go_upto_if 12 with (fail)
 go_cut [4] (fun s4 wx=>s4= .nilIface∧St X off bs wx∧Rd wx vb q b∧Gr X.B [X.d,X.wb] w wx)
 case first=>
  rcases hfall with hb0|⟨hne,htx,hem⟩
  ·have t0: ¬(0:Int)<(b.length:Int):=by rw [hb0];simp
   clear hb0;go_wp2
   go_meet
   exact ⟨rfl,h,hrd.out,Gr.refl _ _ _⟩
  ·have t0:(0:Int)<(b.length:Int):=by omega
   have k0:=h.i0;have k5:=h.i5;have KV:=Hz (utf8Valid (c:=c) hbl hcap hrd.out h.u8 h.u8.size);replace hcap:=Hz hcap;replace hbl:=Hz hbl;go_upto_region 2 with fail
   rw [decide_eq_true (p:=0<b.length) hne]
   go_cut [23] from 13 to 23 (fun s23 wx=>s23= .bool false∧Fr [] w wx)
   case first=>
    rcases htx with htx|⟨htx,hval⟩
    ·rw [htx] at k5;clear htx;go_wp2
     go_meet
     exact ⟨rfl,Fr.refl _ _⟩
    ·rw [htx] at k5;have KV2:=KV.out;rw [hval] at KV2;replace KV2:=Hz KV2;clear htx hval KV;go_wp2_with fail
     refine KV2.out.mono ?_
     rintro e w2 ⟨rfl,hf2⟩;go_wp2
     go_meet
     exact ⟨rfl,hf2⟩
   case rest=>
    obtain ⟨rfl,hf1⟩:=hcut;clear k0 k5 KV;rename_i wc _;have h1:St X off bs _:=h.kept hf1;have k0:=h1.i0;have k6:=h1.i6;have k7:=h1.i7;rcases hem with hem|⟨hem,hLm,r,k,hS,hr2,hrl⟩
    ·rw [hem] at k6;clear hem;go_wp2
     go_meet
     exact ⟨rfl,h1,hrd.out.fr hf1 (by simp),h.gr0 hf1⟩
    ·rw [hem] at k6;replace hLm:=Hz hLm;replace hS:=Hz hS;have K1:=Hz (fun n=>newDiagnose (hrd.out.fr (hf1.drewN n) (by simp)) hcap.out hbl.out (Nat.lt_of_lt_of_le hvb h1.hB) (h1.drewN n).dg (h1.drewN n).dm (h1.drewN n).u8)
     clear hem;go_wp2
     go_region_held3 (fun w'=>w'.cell? ⟨X.di,0,none⟩=some (.pointer (some ⟨X.dg,0,none⟩))∧w'.cell? ⟨X.dg,6,none⟩=some (.pointer (some ⟨X.dm,0,none⟩)))
      (first|go_keep|exact ⟨hf2.cell k0 (by simp),hf2.cell k7 (by simp)⟩)
      (first|(go_at_call 86;refine (K1.out _).mono ?_;rintro e w2 ⟨Y,rfl,hx,hl,hm,hdg,-,-,-,hB,hd,hwb,hSt,hf0⟩;have hf2:=((Fr.refl [] _).drewN _).trans hf0;have hB':=Nat.le_trans (Nat.le_refl _) hB;have hd':=Nat.le_trans (Nat.le_refl _) hd;have hwb':=Nat.le_trans (Nat.le_refl _) hwb))
     obtain ⟨nn,hq⟩:=hS.out Y hx hl hm;have KD:=Hz (diag hSt (hl▸hLm.out.1) (hl▸hLm.out.2.1) (hl▸hLm.out.2.2) true hq hrl);clear hq;go_wp2_with fail
     refine KD.out.mono ?_
     rintro e w3 ⟨v,o3,rfl,hv,hS3,hG3⟩;rw [hr2] at hv;obtain ⟨ty,vx,rfl⟩:=hv.ne;have hf3:Fr [] _ w3:=hf2.gr hG3 hB' (by intro k hk;simp at hk;rcases hk with rfl|rfl<;>exact .inr (by assumption))
     have h3:=h1.kept hf3;go_wp2
     go_meet
     exact ⟨rfl,h3,(hrd.out.fr hf1 (by simp)).fr hf3 (by simp),(h.gr0 hf1).trans (h1.gr0 hf3)⟩
 case rest=>
  obtain ⟨rfl,h1,hR,G1⟩:=hcut;replace hR:=Hz hR;have k0:=h1.i0;have k2:=h1.i2;have k3:=h1.i3;rw [henc] at k3;clear henc hfall;have K1:=Hz (fun n=>writeString (h1.drewN n).buf h1.lw (h1.drewN n).hB [104,39] (L0.out.len_tx hlen.out))
  go_wp2_with fail
  refine (K1.out 0).mono ?_
  rintro e w2 ⟨⟨u2,rfl⟩,hb2,hg2⟩;have h2:=h1.wrote hg2 hb2;have G2:=G1.trans (St.grW hg2);have hR2:=Hz (hg2.rd hR.out hvb (by simpa using hvw))
  have L2:=Hz L0.out.tx;have k0':=h2.i0;have k2':=h2.i2;have k3':=h2.i3;have k4':=h2.i4;rw [hsp] at k4';clear hsp;go_wp2
  go_region_held3 (fun w'=>w'.cell? ⟨X.di,2,none⟩=some (.pointer (some ⟨X.wb,0,none⟩))) (first|go_keep|exact h3.i2|exact h4.i2)
   (first|(go_at_call 170;refine (KB.out _ (hR2.out.fr ((Fr.refl [] w2).drewN 1) (by simp))).mono ?_;rintro e w3 ⟨v3,rfl,hr3,hf3⟩;have hr3':=hr3.src;have h3:=St.kept (h2.drewN 1) hf3;have G3:=(St.gr0 (h2.drewN 1) hf3))|(go_at_call 171;refine (writeSrc h3.buf h3.lw h3.hB (hexB hexD b) _ hr3' (L2.out.len_tx hlen.out)).mono ?_;rintro e w4 ⟨⟨u4,rfl⟩,hb4,hg4⟩;have h4:=h3.wrote hg4 hb4))
  have G4:=(G2.drewN 1).trans (G3.trans (St.grW hg4));have L4:=Hz L2.out.tx;have k2'':=h4.i2;have K5:=Hz (fun n=>writeByte (h4.drewN n).buf h4.lw (h4.drewN n).hB 39 (L4.out.lt1 hlen.out))
  go_wp2_with fail
  refine (K5.out 0).mono ?_
  rintro e w5 ⟨rfl,hb5,hg5⟩;have h5:=h4.wrote hg5 hb5;have G5:=G4.trans (St.grW hg5);go_wp2;go_ret
  exact IPost.done h5 G5 L4.out
theorem encBytes2_b32 (h:St X off bs w) {vb q c:Nat} {b:List UInt8} (hvb:vb<X.B) (hvw:vb≠X.wb) (hvd:vb≠X.d) (hrd:Rd w vb q b) (hbl:b.length≤1099511627776) (hcap:b.length≤c) (henc:X.M.enc=1) (hfall:Falls2 X b) (hlen:bs.length+(noteB X.M.enc X.M.sp b).length≤room):
  Calls Tryz.prog 130 #[.pointer (some ⟨X.di,0,none⟩),.slice (some ⟨vb,q,none⟩) b.length c] w (IPost X off bs (txt (noteB X.M.enc X.M.sp b)) w):=by
 rw [henc] at hlen ⊢;rw [noteB_1] at hlen ⊢;have L0:Togo bs (thenR (txt [98,51,50,39]) (thenR (txt (baseB 5 b32D b)) (txt [39]))) bs (txt ([98,51,50,39]++((baseB 5 b32D b)++[39]))):=Togo.refl _ _;replace L0:=Hz L0;replace hlen:=Hz hlen;replace hrd:=Hz hrd;have KB:=Hz (fun (w':World) (hr:Rd w' vb q b)=>zzBase32 (ds:=b32D) (c:=c) rfl hr hbl)
 go_enter Tryz.func130,Tryz.ntmps130
 go_upto_if 12 with (fail)
 go_cut [4] (fun s4 wx=>s4= .nilIface∧St X off bs wx∧Rd wx vb q b∧Gr X.B [X.d,X.wb] w wx)
 case first=>
  rcases hfall with hb0|⟨hne,htx,hem⟩
  ·have t0: ¬(0:Int)<(b.length:Int):=by rw [hb0];simp
   clear hb0;go_wp2
   go_meet
   exact ⟨rfl,h,hrd.out,Gr.refl _ _ _⟩
  ·have t0:(0:Int)<(b.length:Int):=by omega
   have k0:=h.i0;have k5:=h.i5;have KV:=Hz (utf8Valid (c:=c) hbl hcap hrd.out h.u8 h.u8.size);replace hcap:=Hz hcap;replace hbl:=Hz hbl;go_upto_region 2 with fail
   rw [decide_eq_true (p:=0<b.length) hne]
   go_cut [23] from 13 to 23 (fun s23 wx=>s23= .bool false∧Fr [] w wx)
   case first=>
    rcases htx with htx|⟨htx,hval⟩
    ·rw [htx] at k5;clear htx;go_wp2
     go_meet
     exact ⟨rfl,Fr.refl _ _⟩
    ·rw [htx] at k5;have KV2:=KV.out;rw [hval] at KV2;replace KV2:=Hz KV2;clear htx hval KV;go_wp2_with fail
     refine KV2.out.mono ?_
     rintro e w2 ⟨rfl,hf2⟩;go_wp2
     go_meet
     exact ⟨rfl,hf2⟩
   case rest=>
    obtain ⟨rfl,hf1⟩:=hcut;clear k0 k5 KV;rename_i wc _;have h1:St X off bs _:=h.kept hf1;have k0:=h1.i0;have k6:=h1.i6;have k7:=h1.i7;rcases hem with hem|⟨hem,hLm,r,k,hS,hr2,hrl⟩
    ·rw [hem] at k6;clear hem;go_wp2
     go_meet
     exact ⟨rfl,h1,hrd.out.fr hf1 (by simp),h.gr0 hf1⟩
    ·rw [hem] at k6;replace hLm:=Hz hLm;replace hS:=Hz hS;have K1:=Hz (fun n=>newDiagnose (hrd.out.fr (hf1.drewN n) (by simp)) hcap.out hbl.out (Nat.lt_of_lt_of_le hvb h1.hB) (h1.drewN n).dg (h1.drewN n).dm (h1.drewN n).u8)
     clear hem;go_wp2
     go_region_held3 (fun w'=>w'.cell? ⟨X.di,0,none⟩=some (.pointer (some ⟨X.dg,0,none⟩))∧w'.cell? ⟨X.dg,6,none⟩=some (.pointer (some ⟨X.dm,0,none⟩)))
      (first|go_keep|exact ⟨hf2.cell k0 (by simp),hf2.cell k7 (by simp)⟩)
      (first|(go_at_call 86;refine (K1.out _).mono ?_;rintro e w2 ⟨Y,rfl,hx,hl,hm,hdg,-,-,-,hB,hd,hwb,hSt,hf0⟩;have hf2:=((Fr.refl [] _).drewN _).trans hf0;have hB':=Nat.le_trans (Nat.le_refl _) hB;have hd':=Nat.le_trans (Nat.le_refl _) hd;have hwb':=Nat.le_trans (Nat.le_refl _) hwb))
     obtain ⟨nn,hq⟩:=hS.out Y hx hl hm;have KD:=Hz (diag hSt (hl▸hLm.out.1) (hl▸hLm.out.2.1) (hl▸hLm.out.2.2) true hq hrl);clear hq;go_wp2_with fail
     refine KD.out.mono ?_
     rintro e w3 ⟨v,o3,rfl,hv,hS3,hG3⟩;rw [hr2] at hv;obtain ⟨ty,vx,rfl⟩:=hv.ne;have hf3:Fr [] _ w3:=hf2.gr hG3 hB' (by intro k hk;simp at hk;rcases hk with rfl|rfl<;>exact .inr (by assumption))
     have h3:=h1.kept hf3;go_wp2
     go_meet
     exact ⟨rfl,h3,(hrd.out.fr hf1 (by simp)).fr hf3 (by simp),(h.gr0 hf1).trans (h1.gr0 hf3)⟩
 case rest=>
  obtain ⟨rfl,h1,hR,G1⟩:=hcut;replace hR:=Hz hR;have k0:=h1.i0;have k2:=h1.i2;have k3:=h1.i3;rw [henc] at k3;clear henc hfall;have K1:=Hz (fun n=>writeString (h1.drewN n).buf h1.lw (h1.drewN n).hB [98,51,50,39] (L0.out.len_tx hlen.out))
  go_wp2_with fail
  refine (K1.out 0).mono ?_
  rintro e w2 ⟨⟨u2,rfl⟩,hb2,hg2⟩;have h2:=h1.wrote hg2 hb2;have G2:=G1.trans (St.grW hg2);have hR2:=Hz (hg2.rd hR.out hvb (by simpa using hvw))
  have L2:=Hz L0.out.tx;have k0':=h2.i0;have k2':=h2.i2;have k3':=h2.i3;have k4':=h2.i4;go_wp2
  go_region_held3 (fun w'=>w'.cell? ⟨X.di,2,none⟩=some (.pointer (some ⟨X.wb,0,none⟩))) (first|go_keep|exact h3.i2|exact h4.i2)
   (first|(go_at_call 172;refine (KB.out _ (hR2.out.fr ((Fr.refl [] w2).drewN 1) (by simp))).mono ?_;rintro e w3 ⟨v3,rfl,hr3,hf3⟩;have hr3':=hr3.src;have h3:=St.kept (h2.drewN 1) hf3;have G3:=(St.gr0 (h2.drewN 1) hf3))|(go_at_call 171;refine (writeSrc h3.buf h3.lw h3.hB (baseB 5 b32D b) _ hr3' (L2.out.len_tx hlen.out)).mono ?_;rintro e w4 ⟨⟨u4,rfl⟩,hb4,hg4⟩;have h4:=h3.wrote hg4 hb4))
  have G4:=(G2.drewN 1).trans (G3.trans (St.grW hg4));have L4:=Hz L2.out.tx;have k2'':=h4.i2;have K5:=Hz (fun n=>writeByte (h4.drewN n).buf h4.lw (h4.drewN n).hB 39 (L4.out.lt1 hlen.out))
  go_wp2_with fail
  refine (K5.out 0).mono ?_
  rintro e w5 ⟨rfl,hb5,hg5⟩;have h5:=h4.wrote hg5 hb5;have G5:=G4.trans (St.grW hg5);go_wp2;go_ret
  exact IPost.done h5 G5 L4.out
theorem encBytes2_h32 (h:St X off bs w) {vb q c:Nat} {b:List UInt8} (hvb:vb<X.B) (hvw:vb≠X.wb) (hvd:vb≠X.d) (hrd:Rd w vb q b) (hbl:b.length≤1099511627776) (hcap:b.length≤c) (henc:X.M.enc=2) (hfall:Falls2 X b) (hlen:bs.length+(noteB X.M.enc X.M.sp b).length≤room):
  Calls Tryz.prog 130 #[.pointer (some ⟨X.di,0,none⟩),.slice (some ⟨vb,q,none⟩) b.length c] w (IPost X off bs (txt (noteB X.M.enc X.M.sp b)) w):=by
 rw [henc] at hlen ⊢;rw [noteB_2] at hlen ⊢;have L0:Togo bs (thenR (txt [104,51,50,39]) (thenR (txt (baseB 5 h32D b)) (txt [39]))) bs (txt ([104,51,50,39]++((baseB 5 h32D b)++[39]))):=Togo.refl _ _;replace L0:=Hz L0;replace hlen:=Hz hlen;replace hrd:=Hz hrd;have KB:=Hz (fun (w':World) (hr:Rd w' vb q b)=>zzBase32 (ds:=h32D) (c:=c) rfl hr hbl)
 go_enter Tryz.func130,Tryz.ntmps130
 go_upto_if 12 with (fail)
 go_cut [4] (fun s4 wx=>s4= .nilIface∧St X off bs wx∧Rd wx vb q b∧Gr X.B [X.d,X.wb] w wx)
 case first=>
  rcases hfall with hb0|⟨hne,htx,hem⟩
  ·have t0: ¬(0:Int)<(b.length:Int):=by rw [hb0];simp
   clear hb0;go_wp2
   go_meet
   exact ⟨rfl,h,hrd.out,Gr.refl _ _ _⟩
  ·have t0:(0:Int)<(b.length:Int):=by omega
   have k0:=h.i0;have k5:=h.i5;have KV:=Hz (utf8Valid (c:=c) hbl hcap hrd.out h.u8 h.u8.size);replace hcap:=Hz hcap;replace hbl:=Hz hbl;go_upto_region 2 with fail
   rw [decide_eq_true (p:=0<b.length) hne]
   go_cut [23] from 13 to 23 (fun s23 wx=>s23= .bool false∧Fr [] w wx)
   case first=>
    rcases htx with htx|⟨htx,hval⟩
    ·rw [htx] at k5;clear htx;go_wp2
     go_meet
     exact ⟨rfl,Fr.refl _ _⟩
    ·rw [htx] at k5;have KV2:=KV.out;rw [hval] at KV2;replace KV2:=Hz KV2;clear htx hval KV;go_wp2_with fail
     refine KV2.out.mono ?_
     rintro e w2 ⟨rfl,hf2⟩;go_wp2
     go_meet
     exact ⟨rfl,hf2⟩
   case rest=>
    obtain ⟨rfl,hf1⟩:=hcut;clear k0 k5 KV;rename_i wc _;have h1:St X off bs _:=h.kept hf1;have k0:=h1.i0;have k6:=h1.i6;have k7:=h1.i7;rcases hem with hem|⟨hem,hLm,r,k,hS,hr2,hrl⟩
    ·rw [hem] at k6;clear hem;go_wp2
     go_meet
     exact ⟨rfl,h1,hrd.out.fr hf1 (by simp),h.gr0 hf1⟩
    ·rw [hem] at k6;replace hLm:=Hz hLm;replace hS:=Hz hS;have K1:=Hz (fun n=>newDiagnose (hrd.out.fr (hf1.drewN n) (by simp)) hcap.out hbl.out (Nat.lt_of_lt_of_le hvb h1.hB) (h1.drewN n).dg (h1.drewN n).dm (h1.drewN n).u8)
     clear hem;go_wp2
     go_region_held3 (fun w'=>w'.cell? ⟨X.di,0,none⟩=some (.pointer (some ⟨X.dg,0,none⟩))∧w'.cell? ⟨X.dg,6,none⟩=some (.pointer (some ⟨X.dm,0,none⟩)))
      (first|go_keep|exact ⟨hf2.cell k0 (by simp),hf2.cell k7 (by simp)⟩)
      (first|(go_at_call 86;refine (K1.out _).mono ?_;rintro e w2 ⟨Y,rfl,hx,hl,hm,hdg,-,-,-,hB,hd,hwb,hSt,hf0⟩;have hf2:=((Fr.refl [] _).drewN _).trans hf0;have hB':=Nat.le_trans (Nat.le_refl _) hB;have hd':=Nat.le_trans (Nat.le_refl _) hd;have hwb':=Nat.le_trans (Nat.le_refl _) hwb))
     obtain ⟨nn,hq⟩:=hS.out Y hx hl hm;have KD:=Hz (diag hSt (hl▸hLm.out.1) (hl▸hLm.out.2.1) (hl▸hLm.out.2.2) true hq hrl);clear hq;go_wp2_with fail
     refine KD.out.mono ?_
     rintro e w3 ⟨v,o3,rfl,hv,hS3,hG3⟩;rw [hr2] at hv;obtain ⟨ty,vx,rfl⟩:=hv.ne;have hf3:Fr [] _ w3:=hf2.gr hG3 hB' (by intro k hk;simp at hk;rcases hk with rfl|rfl<;>exact .inr (by assumption))
     have h3:=h1.kept hf3;go_wp2
     go_meet
     exact ⟨rfl,h3,(hrd.out.fr hf1 (by simp)).fr hf3 (by simp),(h.gr0 hf1).trans (h1.gr0 hf3)⟩
 case rest=>
  obtain ⟨rfl,h1,hR,G1⟩:=hcut;replace hR:=Hz hR;have k0:=h1.i0;have k2:=h1.i2;have k3:=h1.i3;rw [henc] at k3;clear henc hfall;have K1:=Hz (fun n=>writeString (h1.drewN n).buf h1.lw (h1.drewN n).hB [104,51,50,39] (L0.out.len_tx hlen.out))
  go_wp2_with fail
  refine (K1.out 0).mono ?_
  rintro e w2 ⟨⟨u2,rfl⟩,hb2,hg2⟩;have h2:=h1.wrote hg2 hb2;have G2:=G1.trans (St.grW hg2);have hR2:=Hz (hg2.rd hR.out hvb (by simpa using hvw))
  have L2:=Hz L0.out.tx;have k0':=h2.i0;have k2':=h2.i2;have k3':=h2.i3;have k4':=h2.i4;go_wp2
  go_region_held3 (fun w'=>w'.cell? ⟨X.di,2,none⟩=some (.pointer (some ⟨X.wb,0,none⟩))) (first|go_keep|exact h3.i2|exact h4.i2)
   (first|(go_at_call 172;refine (KB.out _ (hR2.out.fr ((Fr.refl [] w2).drewN 1) (by simp))).mono ?_;rintro e w3 ⟨v3,rfl,hr3,hf3⟩;have hr3':=hr3.src;have h3:=St.kept (h2.drewN 1) hf3;have G3:=(St.gr0 (h2.drewN 1) hf3))|(go_at_call 171;refine (writeSrc h3.buf h3.lw h3.hB (baseB 5 h32D b) _ hr3' (L2.out.len_tx hlen.out)).mono ?_;rintro e w4 ⟨⟨u4,rfl⟩,hb4,hg4⟩;have h4:=h3.wrote hg4 hb4))
  have G4:=(G2.drewN 1).trans (G3.trans (St.grW hg4));have L4:=Hz L2.out.tx;have k2'':=h4.i2;have K5:=Hz (fun n=>writeByte (h4.drewN n).buf h4.lw (h4.drewN n).hB 39 (L4.out.lt1 hlen.out))
  go_wp2_with fail
  refine (K5.out 0).mono ?_
  rintro e w5 ⟨rfl,hb5,hg5⟩;have h5:=h4.wrote hg5 hb5;have G5:=G4.trans (St.grW hg5);go_wp2;go_ret
  exact IPost.done h5 G5 L4.out
theorem encBytes2_b64 (h:St X off bs w) {vb q c:Nat} {b:List UInt8} (hvb:vb<X.B) (hvw:vb≠X.wb) (hvd:vb≠X.d) (hrd:Rd w vb q b) (hbl:b.length≤1099511627776) (hcap:b.length≤c) (henc:X.M.enc=3) (hfall:Falls2 X b) (hlen:bs.length+(noteB X.M.enc X.M.sp b).length≤room):
  Calls Tryz.prog 130 #[.pointer (some ⟨X.di,0,none⟩),.slice (some ⟨vb,q,none⟩) b.length c] w (IPost X off bs (txt (noteB X.M.enc X.M.sp b)) w):=by
 rw [henc] at hlen ⊢;rw [noteB_3] at hlen ⊢;have L0:Togo bs (thenR (txt [98,54,52,39]) (thenR (txt (baseB 6 b64D b)) (txt [39]))) bs (txt ([98,54,52,39]++((baseB 6 b64D b)++[39]))):=Togo.refl _ _;replace L0:=Hz L0;replace hlen:=Hz hlen;replace hrd:=Hz hrd;have KB:=Hz (fun (w':World) (hr:Rd w' vb q b)=>zzBase64 (c:=c) hr hbl)
 go_enter Tryz.func130,Tryz.ntmps130
 go_upto_if 12 with (fail)
 go_cut [4] (fun s4 wx=>s4= .nilIface∧St X off bs wx∧Rd wx vb q b∧Gr X.B [X.d,X.wb] w wx)
 case first=>
  rcases hfall with hb0|⟨hne,htx,hem⟩
  ·have t0: ¬(0:Int)<(b.length:Int):=by rw [hb0];simp
   clear hb0;go_wp2
   go_meet
   exact ⟨rfl,h,hrd.out,Gr.refl _ _ _⟩
  ·have t0:(0:Int)<(b.length:Int):=by omega
   have k0:=h.i0;have k5:=h.i5;have KV:=Hz (utf8Valid (c:=c) hbl hcap hrd.out h.u8 h.u8.size);replace hcap:=Hz hcap;replace hbl:=Hz hbl;go_upto_region 2 with fail
   rw [decide_eq_true (p:=0<b.length) hne]
   go_cut [23] from 13 to 23 (fun s23 wx=>s23= .bool false∧Fr [] w wx)
   case first=>
    rcases htx with htx|⟨htx,hval⟩
    ·rw [htx] at k5;clear htx;go_wp2
     go_meet
     exact ⟨rfl,Fr.refl _ _⟩
    ·rw [htx] at k5;have KV2:=KV.out;rw [hval] at KV2;replace KV2:=Hz KV2;clear htx hval KV;go_wp2_with fail
     refine KV2.out.mono ?_
     rintro e w2 ⟨rfl,hf2⟩;go_wp2
     go_meet
     exact ⟨rfl,hf2⟩
   case rest=>
    obtain ⟨rfl,hf1⟩:=hcut;clear k0 k5 KV;rename_i wc _;have h1:St X off bs _:=h.kept hf1;have k0:=h1.i0;have k6:=h1.i6;have k7:=h1.i7;rcases hem with hem|⟨hem,hLm,r,k,hS,hr2,hrl⟩
    ·rw [hem] at k6;clear hem;go_wp2
     go_meet
     exact ⟨rfl,h1,hrd.out.fr hf1 (by simp),h.gr0 hf1⟩
    ·rw [hem] at k6;replace hLm:=Hz hLm;replace hS:=Hz hS;have K1:=Hz (fun n=>newDiagnose (hrd.out.fr (hf1.drewN n) (by simp)) hcap.out hbl.out (Nat.lt_of_lt_of_le hvb h1.hB) (h1.drewN n).dg (h1.drewN n).dm (h1.drewN n).u8)
     clear hem;go_wp2
     go_region_held3 (fun w'=>w'.cell? ⟨X.di,0,none⟩=some (.pointer (some ⟨X.dg,0,none⟩))∧w'.cell? ⟨X.dg,6,none⟩=some (.pointer (some ⟨X.dm,0,none⟩)))
      (first|go_keep|exact ⟨hf2.cell k0 (by simp),hf2.cell k7 (by simp)⟩)
      (first|(go_at_call 86;refine (K1.out _).mono ?_;rintro e w2 ⟨Y,rfl,hx,hl,hm,hdg,-,-,-,hB,hd,hwb,hSt,hf0⟩;have hf2:=((Fr.refl [] _).drewN _).trans hf0;have hB':=Nat.le_trans (Nat.le_refl _) hB;have hd':=Nat.le_trans (Nat.le_refl _) hd;have hwb':=Nat.le_trans (Nat.le_refl _) hwb))
     obtain ⟨nn,hq⟩:=hS.out Y hx hl hm;have KD:=Hz (diag hSt (hl▸hLm.out.1) (hl▸hLm.out.2.1) (hl▸hLm.out.2.2) true hq hrl);clear hq;go_wp2_with fail
     refine KD.out.mono ?_
     rintro e w3 ⟨v,o3,rfl,hv,hS3,hG3⟩;rw [hr2] at hv;obtain ⟨ty,vx,rfl⟩:=hv.ne;have hf3:Fr [] _ w3:=hf2.gr hG3 hB' (by intro k hk;simp at hk;rcases hk with rfl|rfl<;>exact .inr (by assumption))
     have h3:=h1.kept hf3;go_wp2
     go_meet
     exact ⟨rfl,h3,(hrd.out.fr hf1 (by simp)).fr hf3 (by simp),(h.gr0 hf1).trans (h1.gr0 hf3)⟩
 case rest=>
  obtain ⟨rfl,h1,hR,G1⟩:=hcut;replace hR:=Hz hR;have k0:=h1.i0;have k2:=h1.i2;have k3:=h1.i3;rw [henc] at k3;clear henc hfall;have K1:=Hz (fun n=>writeString (h1.drewN n).buf h1.lw (h1.drewN n).hB [98,54,52,39] (L0.out.len_tx hlen.out))
  go_wp2_with fail
  refine (K1.out 0).mono ?_
  rintro e w2 ⟨⟨u2,rfl⟩,hb2,hg2⟩;have h2:=h1.wrote hg2 hb2;have G2:=G1.trans (St.grW hg2);have hR2:=Hz (hg2.rd hR.out hvb (by simpa using hvw))
  have L2:=Hz L0.out.tx;have k0':=h2.i0;have k2':=h2.i2;have k3':=h2.i3;have k4':=h2.i4;go_wp2
  go_region_held3 (fun w'=>w'.cell? ⟨X.di,2,none⟩=some (.pointer (some ⟨X.wb,0,none⟩))) (first|go_keep|exact h3.i2|exact h4.i2)
   (first|(go_at_call 173;refine (KB.out _ (hR2.out.fr ((Fr.refl [] w2).drewN 1) (by simp))).mono ?_;rintro e w3 ⟨v3,rfl,hr3,hf3⟩;have hr3':=hr3.src;have h3:=St.kept (h2.drewN 1) hf3;have G3:=(St.gr0 (h2.drewN 1) hf3))|(go_at_call 171;refine (writeSrc h3.buf h3.lw h3.hB (baseB 6 b64D b) _ hr3' (L2.out.len_tx hlen.out)).mono ?_;rintro e w4 ⟨⟨u4,rfl⟩,hb4,hg4⟩;have h4:=h3.wrote hg4 hb4))
  have G4:=(G2.drewN 1).trans (G3.trans (St.grW hg4));have L4:=Hz L2.out.tx;have k2'':=h4.i2;have K5:=Hz (fun n=>writeByte (h4.drewN n).buf h4.lw (h4.drewN n).hB 39 (L4.out.lt1 hlen.out))
  go_wp2_with fail
  refine (K5.out 0).mono ?_
  rintro e w5 ⟨rfl,hb5,hg5⟩;have h5:=h4.wrote hg5 hb5;have G5:=G4.trans (St.grW hg5);go_wp2;go_ret
  exact IPost.done h5 G5 L4.out
theorem encBytes2_sp (h:St X off bs w) {vb q c:Nat} {b:List UInt8} (hvb:vb<X.B) (hvw:vb≠X.wb) (hvd:vb≠X.d) (hrd:Rd w vb q b) (hbl:b.length≤1099511627776) (hcap:b.length≤c) (henc:X.M.enc=0) (hsp:X.M.sp=true) (hfall:Falls2 X b) (hlen:bs.length+(noteB X.M.enc X.M.sp b).length≤room):
  Calls Tryz.prog 130 #[.pointer (some ⟨X.di,0,none⟩),.slice (some ⟨vb,q,none⟩) b.length c] w (IPost X off bs (txt (noteB X.M.enc X.M.sp b)) w):=by
 rw [henc,hsp] at hlen ⊢;rw [noteB_s] at hlen ⊢;have L0:Togo bs (thenR (txt [104,39]) (thenR (txt (spacedB hexD 0 b)) (txt [39]))) bs (txt ([104,39]++((spacedB hexD 0 b)++[39]))):=Togo.refl _ _;replace L0:=Hz L0;replace hlen:=Hz hlen;replace hrd:=Hz hrd;go_enter Tryz.func130,Tryz.ntmps130
 go_upto_if 12 with (fail)
 go_cut [4] (fun s4 wx=>s4= .nilIface∧St X off bs wx∧Rd wx vb q b∧Gr X.B [X.d,X.wb] w wx)
 case first=>
  rcases hfall with hb0|⟨hne,htx,hem⟩
  ·have t0: ¬(0:Int)<(b.length:Int):=by rw [hb0];simp
   clear hb0;go_wp2
   go_meet
   exact ⟨rfl,h,hrd.out,Gr.refl _ _ _⟩
  ·have t0:(0:Int)<(b.length:Int):=by omega
   have k0:=h.i0;have k5:=h.i5;have KV:=Hz (utf8Valid (c:=c) hbl hcap hrd.out h.u8 h.u8.size);replace hcap:=Hz hcap;replace hbl:=Hz hbl;go_upto_region 2 with fail
   rw [decide_eq_true (p:=0<b.length) hne]
   go_cut [23] from 13 to 23 (fun s23 wx=>s23= .bool false∧Fr [] w wx)
   case first=>
    rcases htx with htx|⟨htx,hval⟩
    ·rw [htx] at k5;clear htx;go_wp2
     go_meet
     exact ⟨rfl,Fr.refl _ _⟩
    ·rw [htx] at k5;have KV2:=KV.out;rw [hval] at KV2;replace KV2:=Hz KV2;clear htx hval KV;go_wp2_with fail
     refine KV2.out.mono ?_
     rintro e w2 ⟨rfl,hf2⟩;go_wp2
     go_meet
     exact ⟨rfl,hf2⟩
   case rest=>
    obtain ⟨rfl,hf1⟩:=hcut;clear k0 k5 KV;rename_i wc _;have h1:St X off bs _:=h.kept hf1;have k0:=h1.i0;have k6:=h1.i6;have k7:=h1.i7;rcases hem with hem|⟨hem,hLm,r,k,hS,hr2,hrl⟩
    ·rw [hem] at k6;clear hem;go_wp2
     go_meet
     exact ⟨rfl,h1,hrd.out.fr hf1 (by simp),h.gr0 hf1⟩
    ·rw [hem] at k6;replace hLm:=Hz hLm;replace hS:=Hz hS;have K1:=Hz (fun n=>newDiagnose (hrd.out.fr (hf1.drewN n) (by simp)) hcap.out hbl.out (Nat.lt_of_lt_of_le hvb h1.hB) (h1.drewN n).dg (h1.drewN n).dm (h1.drewN n).u8)
     clear hem;go_wp2
     go_region_held3 (fun w'=>w'.cell? ⟨X.di,0,none⟩=some (.pointer (some ⟨X.dg,0,none⟩))∧w'.cell? ⟨X.dg,6,none⟩=some (.pointer (some ⟨X.dm,0,none⟩)))
      (first|go_keep|exact ⟨hf2.cell k0 (by simp),hf2.cell k7 (by simp)⟩)
      (first|(go_at_call 86;refine (K1.out _).mono ?_;rintro e w2 ⟨Y,rfl,hx,hl,hm,hdg,-,-,-,hB,hd,hwb,hSt,hf0⟩;have hf2:=((Fr.refl [] _).drewN _).trans hf0;have hB':=Nat.le_trans (Nat.le_refl _) hB;have hd':=Nat.le_trans (Nat.le_refl _) hd;have hwb':=Nat.le_trans (Nat.le_refl _) hwb))
     obtain ⟨nn,hq⟩:=hS.out Y hx hl hm;have KD:=Hz (diag hSt (hl▸hLm.out.1) (hl▸hLm.out.2.1) (hl▸hLm.out.2.2) true hq hrl);clear hq;go_wp2_with fail
     refine KD.out.mono ?_
     rintro e w3 ⟨v,o3,rfl,hv,hS3,hG3⟩;rw [hr2] at hv;obtain ⟨ty,vx,rfl⟩:=hv.ne;have hf3:Fr [] _ w3:=hf2.gr hG3 hB' (by intro k hk;simp at hk;rcases hk with rfl|rfl<;>exact .inr (by assumption))
     have h3:=h1.kept hf3;go_wp2
     go_meet
     exact ⟨rfl,h3,(hrd.out.fr hf1 (by simp)).fr hf3 (by simp),(h.gr0 hf1).trans (h1.gr0 hf3)⟩
 case rest=>
  obtain ⟨rfl,h1,hR,G1⟩:=hcut;replace hR:=Hz hR;have k0:=h1.i0;have k2:=h1.i2;have k3:=h1.i3;rw [henc] at k3;clear henc hfall;have K1:=Hz (fun n=>writeString (h1.drewN n).buf h1.lw (h1.drewN n).hB [104,39] (L0.out.len_tx hlen.out))
  go_wp2_with fail
  refine (K1.out 0).mono ?_
  rintro e w2 ⟨⟨u2,rfl⟩,hb2,hg2⟩;have h2:=h1.wrote hg2 hb2;have G2:=G1.trans (St.grW hg2);have hR2:=Hz (hg2.rd hR.out hvb (by simpa using hvw))
  have L2:=Hz L0.out.tx;have k0':=h2.i0;have k2':=h2.i2;have k3':=h2.i3;have k4':=h2.i4;rw [hsp] at k4';clear hsp;go_wp2
  go_loopg [8,9,95] b.length (fun k v8 v9 v95 wr=> ∃j:Nat,v95= .int .i64 (j:Int)∧j+k=b.length∧Row wr w2.heap.size v8 (spacedB hexD 0 (b.take j))∧Fr [] w2 wr)
  case atStart=>exact ⟨0,by go_num,by omega,Row.nil _ _,Fr.refl _ _⟩
  case round=>
   obtain ⟨j,rfl,hj,hrow,hF⟩:=hrel;obtain ⟨ao,n0,c0,rfl⟩:=hrow.shape;have h3:=h2.kept hF;by_cases hk:gk=0
   ·subst hk;obtain rfl:j=b.length:=by omega
    rw [List.take_of_length_le (Nat.le_refl _)] at hrow;have t1: ¬(b.length:Int)<(b.length:Int):=by omega
    have k2'':=h3.i2;have KW:=Hz (fun n=>writeSrc (h3.drewN n).buf h3.lw (h3.drewN n).hB (spacedB hexD 0 b) _ (hrow.src.fr ((Fr.refl [] wr).drewN n)) (L2.out.len_tx hlen.out))
    go_wp2_with fail
    refine (KW.out 0).mono ?_
    rintro e w4 ⟨⟨u4,rfl⟩,hb4,hg4⟩;have h4:=h3.wrote hg4 hb4;have G4:=G2.trans ((St.gr0 h2 hF).trans (St.grW hg4));have L4:=Hz L2.out.tx;have k24:=h4.i2;have K5:=Hz (fun n=>writeByte (h4.drewN n).buf h4.lw (h4.drewN n).hB 39 (L4.out.lt1 hlen.out))
    go_wp2_with fail
    refine (K5.out 0).mono ?_
    rintro e w5 ⟨rfl,hb5,hg5⟩;have h5:=h4.wrote hg5 hb5;have G5:=G4.trans (St.grW hg5);go_wp2;go_ret
    exact IPost.done h5 G5 L4.out
   ·obtain ⟨g,rfl⟩: ∃g,gk=g+1:=⟨gk-1,by omega⟩
    have hjl:j<b.length:=by omega
    have t1:(j:Int)<(b.length:Int):=by omega
    have hsn:=spaced_snoc hexD b[j] (b.take j) 0;rw [←List.take_succ_eq_append_getElem hjl,Nat.zero_add,List.length_take,Nat.min_eq_left (by omega)] at hsn
    have hsl:=spaced_length hexD (b.take j) 0;rw [List.length_take,Nat.min_eq_left (by omega)] at hsl
    have hR1:Rd wr vb (q+j) [b[j]]:=fun i hi=>by
     have:i=0:=by simpa using hi
     subst this;exact hF.cell (hR2.out j hjl) (by simp)
    replace hsn:=Hz hsn;have s1: ¬c=j:=by omega
    have s2:(j:Int)+1≤(c:Int):=by omega
    have s3:((j:Int)+1).toNat=j+1:=by omega
    have hBs:=hF.size;by_cases hj0:j=0
    ·subst hj0;have KH:Hid (Calls Tryz.prog 170 #[.slice (some ⟨vb,q,none⟩) 1 c] wr fun e w'=> ∃v,e= .returned v∧Row w' wr.heap.size v (hexB hexD [b[0]])∧Fr [] wr w'):=Hz (zzHex (xs:=[b[0]]) (c:=c) (by simpa using hR1) (by simp))
     rw [if_pos rfl,List.nil_append] at hsn;generalize hexB hexD [b[0]]=hx at *
     have hxl:(spacedB hexD 0 (b.take 0)).length+hx.length≤140737488355328:=by
      have:=congrArg List.length hsn.out;rw [List.length_append] at this;have h9:=spaced_length hexD (b.take (0+1)) 0;rw [List.length_take] at h9;omega
     go_wp2_with fail
     refine KH.out.mono ?_
     rintro e w4 ⟨v4,rfl,hr4,hf4⟩;have hs4:=hr4.src;obtain ⟨ao4,n4,c4,rfl⟩:=hr4.shape;have hrow4:=hrow.fr hf4 (by simp)
     have hB4:=hf4.size;go_wp2_with (at_builtin;refine wpList_apSrc rfl _ _ rfl (B:=w2.heap.size) _ (spacedB hexD 0 (b.take 0)) hx _ rfl rfl hs4 hrow4 (by omega) hxl ?_)
     intro v5 w5 hr5 hg5;have hr5':Row w5 w2.heap.size v5 (spacedB hexD 0 (b.take (0+1))):=by rw [hsn.out];exact hr5
     have hF5:Fr [] w2 w5:=(hF.trans hf4).grown hg5 (fun k hk=> .inr (World.ownsRow.lt hrow4 k hk).1)
     go_wp2
     go_roundg g
     case measure=>omega
     case rel=>exact ⟨0+1,by go_num,by omega,hr5',hF5⟩
    ·have t2:(0:Int)<(j:Int):=by omega
     rw [if_neg hj0] at hsn;have hxl:(spacedB hexD 0 (b.take j)).length+3≤140737488355328:=by omega
     go_wp2_with (at_builtin;refine wpList_apRow rfl _ _ rfl (B:=w2.heap.size) _ (spacedB hexD 0 (b.take j)) [32] wr.heap.size 0 1 rfl rfl (rd_new (w:=wr) rfl (by simp [enc])) (hrow.push rfl) (by simp;omega) (by simp;omega) ?_)
     intro v3 w3 hr3 hg3;have hF3:Fr [] w2 w3:=by
      refine Fr.grown ?_ hg3 (fun k hk=> .inr (World.ownsRow.lt hrow k hk).1)
      exact hF.push rfl rfl rfl rfl
     obtain ⟨ao3,n3,c3,rfl⟩:=hr3.shape;have hR3:Rd w3 vb (q+j) [b[j]]:=fun i hi=>by
      have:i=0:=by simpa using hi
      subst this;exact hF3.cell (hR2.out j hjl) (by simp)
     have KH:Hid (Calls Tryz.prog 170 #[.slice (some ⟨vb,q+j,none⟩) 1 (c-j)] w3 fun e w'=> ∃v,e= .returned v∧Row w' w3.heap.size v (hexB hexD [b[j]])∧Fr [] w3 w'):=Hz (zzHex (xs:=[b[j]]) (c:=c-j) hR3 (by simp))
     have hhl:(hexB hexD [b[j]]).length=2:=by rw [hexB_length];rfl
     generalize hexB hexD [b[j]]=hx at *
     have hB3:=hF3.size;go_wp2_with fail
     refine KH.out.mono ?_
     rintro e w4 ⟨v4,rfl,hr4,hf4⟩;have hs4:=hr4.src;obtain ⟨ao4,n4,c4,rfl⟩:=hr4.shape;have hrow4:=hr3.fr hf4 (by simp)
     have hB4:=hf4.size;go_wp2_with (at_builtin;refine wpList_apSrc rfl _ _ rfl (B:=w2.heap.size) _ (spacedB hexD 0 (b.take j)++[32]) hx _ rfl rfl hs4 hrow4 (by omega) (by simp;omega) ?_)
     intro v5 w5 hr5 hg5;have hr5':Row w5 w2.heap.size v5 (spacedB hexD 0 (b.take (j+1))):=by rw [hsn.out];exact hr5
     have hF5:Fr [] w2 w5:=(hF3.trans hf4).grown hg5 (fun k hk=> .inr (World.ownsRow.lt hrow4 k hk).1)
     go_wp2
     go_roundg g
     case measure=>omega
     case rel=>exact ⟨j+1,by go_num,by omega,hr5',hF5⟩
end
end
end Go.Proofs.YteodinhkhhaafaaGreatDoor
