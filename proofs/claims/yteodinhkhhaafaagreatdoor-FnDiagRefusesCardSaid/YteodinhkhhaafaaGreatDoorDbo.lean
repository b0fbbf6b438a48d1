/- Walks of the program, and plain facts. -/
import Derived.Test.YteodinhkhhaafaaGreatDoorDbn
set_option linter.unusedVariables false
set_option linter.unusedSimpArgs false
set_option maxRecDepth 100000
set_option maxHeartbeats 6400000
namespace Go.Proofs.YteodinhkhhaafaaGreatDoor
section
open Go.RowKit
section
variable {X:Cx} {off:Nat} {bs:List UInt8} {w:World}
theorem encBytes_tx (h:St X off bs w) {q c:Nat} {b:List UInt8} (hrd:Rd w X.db q b) (hcap:b.length≤c) (hbl:b.length≤1099511627776) (hne:0<b.length) (htx:X.M.tx=true) (hval:Lib.validD b=true) (hlen:bs.length+(qT 39 b).length≤room):
  Calls Tryz.prog 130 #[.pointer (some ⟨X.di,0,none⟩),.slice (some ⟨X.db,q,none⟩) b.length c] w (IPost X off bs (txt (qT 39 b)) w):=by
 have t0:(0:Int)<(b.length:Int):=by omega
 have k0:=h.i0
 have k5:=h.i5
 rw [htx] at k5
 have KV:=utf8Valid (c:=c) hbl hcap hrd h.u8 h.u8.size
 rw [hval] at KV
 replace KV:=Hz KV
 replace hrd:=Hz hrd
 replace hval:=Hz hval
 clear htx hcap
 replace hbl:=Hz hbl
 go_enter Tryz.func130,Tryz.ntmps130
 go_wp2_with fail
 refine KV.out.mono ?_
 rintro e w2 ⟨rfl,hf2⟩
 have h2:=h.kept hf2
 have G2:=h.gr0 hf2
 have KS:=toStr (hrd.out.fr hf2 (by simp)) c
 have KE:=Hz (encText h2 39 b hval.out hbl.out hlen)
 go_wp2_with fail
 refine KE.out.mono ?_
 rintro e w3 ⟨rfl,h3,hG3⟩
 go_wp2
 go_ret
 exact ⟨.nilIface,_,rfl,rfl,fun _=>rfl,h3,G2.trans hG3⟩
def NoTx (X:Cx) (b:List UInt8):Prop:=X.M.tx=false∨X.M.tx=true∧Lib.validD b=false
theorem encBytes_em (h:St X off bs w) {q c:Nat} {b:List UInt8} (hL:X.L.nest≤65535∧X.L.el≤2147483647∧X.L.pa≤2147483647) (hrd:Rd w X.db q b) (hcap:b.length≤c) (hbl:b.length≤1099511627776) (hne:0<b.length) (htx:NoTx X b) (hem:X.M.em=true) {s:List UInt8} (hS:Says b X.L X.M true (txt s)) (hlen:bs.length+([60,60]++(s++[62,62])).length≤room):
  Calls Tryz.prog 130 #[.pointer (some ⟨X.di,0,none⟩),.slice (some ⟨X.db,q,none⟩) b.length c] w (IPost X off bs (txt ([60,60]++(s++[62,62]))) w):=by
 have t0:(0:Int)<(b.length:Int):=by omega
 have L0:Togo bs (thenR (txt [60,60]) (thenR (txt s) (txt [62,62]))) bs (txt ([60,60]++(s++[62,62]))):=Togo.refl _ _
 have hsl:s.length≤room:=by simp at hlen;omega
 generalize [60,60]++(s++[62,62])=TS at *
 have hlen:=Hz (show bs.length+(txt TS).1.length≤room from hlen)
 replace L0:=Hz L0
 have k0:=h.i0
 have k5:=h.i5
 have k6:=h.i6
 rw [hem] at k6
 have KV:=Hz (utf8Valid (c:=c) hbl hcap hrd h.u8 h.u8.size)
 replace hrd:=Hz hrd
 replace hcap:=Hz hcap
 replace hbl:=Hz hbl
 replace hem:=Hz hem
 replace hL:=Hz hL
 replace hS:=Hz hS
 go_enter Tryz.func130,Tryz.ntmps130
 go_upto_region 2 with fail
 go_cut [23] from 13 to 23 (fun s23 wx=>s23= .bool false∧Fr [] w wx)
 case first=>
  rcases htx with htx|⟨htx,hval⟩
  ·rw [htx] at k5
   clear htx
   go_wp2
   go_meet
   exact ⟨rfl,Fr.refl _ _⟩
  ·rw [htx] at k5
   have KV2:=KV.out
   rw [hval] at KV2
   replace KV2:=Hz KV2
   clear htx hval KV
   go_wp2_with fail
   refine KV2.out.mono ?_
   rintro e w2 ⟨rfl,hf2⟩
   go_wp2
   go_meet
   exact ⟨rfl,hf2⟩
 case rest=>
  obtain ⟨rfl,hf1⟩:=hcut
  clear k0 k5 k6 KV
  have h1:=h.kept hf1
  have k0:=h1.i0
  have k6:=h1.i6
  have k7:=h1.i7
  rw [hem.out] at k6
  have K1:=Hz (fun n=>newDiagnose (w:=wc.drewN n) (hrd.out.fr (hf1.drewN n) (by simp)) hcap.out hbl.out (Nat.lt_of_lt_of_le h1.ldb h1.hB) (h1.drewN n).dg (h1.drewN n).dm (h1.drewN n).u8)
  go_wp2
  go_region_held3 (fun w'=>w'.cell? ⟨X.di,0,none⟩=some (.pointer (some ⟨X.dg,0,none⟩))∧w'.cell? ⟨X.dg,6,none⟩=some (.pointer (some ⟨X.dm,0,none⟩)))
   (first|go_keep|exact ⟨hf2.cell k0 (by simp),hf2.cell k7 (by simp)⟩)
   (first|(go_at_call 86;refine (K1.out _).mono ?_;rintro e w2 ⟨Y,rfl,hx,hl,hm,hdg,-,-,-,hB,hd,hwb,hSt,hf0⟩;have hf2:Fr [] wc w2:=((Fr.refl [] wc).drewN _).trans hf0;have hB':wc.heap.size≤Y.B:=hB;have hd':wc.heap.size≤Y.d:=hd;have hwb':wc.heap.size≤Y.wb:=hwb))
  clear K1 k0 k6 k7
  obtain ⟨nn,hq⟩:=hS.out Y hx hl hm
  have KD:=Hz (diag hSt (hl▸hL.out.1) (hl▸hL.out.2.1) (hl▸hL.out.2.2) true hq hsl)
  clear hq
  go_wp2_with fail
  refine KD.out.mono ?_
  rintro e w3 ⟨v,o3,rfl,hv,hS3,hG3⟩
  obtain rfl:v= .nilIface:=hv
  have hf3:Fr [] wc w3:=hf2.gr hG3 hB' (by intro k hk;simp at hk;rcases hk with rfl|rfl<;>exact .inr (by assumption))
  have h3:=h1.kept hf3
  have G3:=(h.gr0 hf1).trans (h1.gr0 hf3)
  have k0':=h3.i0
  have k2':=h3.i2
  have K4:=Hz (fun n=>writeString (h3.drewN n).buf h3.lw (h3.drewN n).hB [60,60] (L0.out.len_tx hlen.out))
  go_wp2_with fail
  refine (K4.out 0).mono ?_
  rintro e w4 ⟨⟨u4,rfl⟩,hb4,hg4⟩
  have h4:=h3.wrote hg4 hb4
  have G4:=G3.trans (St.grW hg4)
  have L4:=Hz L0.out.tx
  have k0'':=h4.i0
  have k2'':=h4.i2
  have K5:=Hz (fun n=>writeString (h4.drewN n).buf h4.lw (h4.drewN n).hB s (L4.out.len_tx hlen.out))
  go_wp2_with fail
  refine (K5.out 0).mono ?_
  rintro e w5 ⟨⟨u5,rfl⟩,hb5,hg5⟩
  have h5:=h4.wrote hg5 hb5
  have G5:=G4.trans (St.grW hg5)
  have L5:=Hz L4.out.tx
  have k0''':=h5.i0
  have k2''':=h5.i2
  have K6:=Hz (fun n=>writeString (h5.drewN n).buf h5.lw (h5.drewN n).hB [62,62] (by have:=L5.out.len hlen.out;simp only [txt] at this;unfold room at this;exact this))
  go_wp2_with fail
  refine (K6.out 0).mono ?_
  rintro e w6 ⟨⟨u6,rfl⟩,hb6,hg6⟩
  have h6:=h5.wrote hg6 hb6
  have G6:=G5.trans (St.grW hg6)
  go_wp2
  go_ret
  exact IPost.done h6 G6 L5.out
end
end
end Go.Proofs.YteodinhkhhaafaaGreatDoor
