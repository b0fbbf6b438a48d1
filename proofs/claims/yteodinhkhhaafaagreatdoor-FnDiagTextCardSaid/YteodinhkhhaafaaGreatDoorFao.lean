/- Walks of the program, and plain facts. -/
import Derived.Test.YteodinhkhhaafaaGreatDoorFan
import Derived.Test.YteodinhkhhaafaaGreatDoorFad
set_option linter.unusedVariables false
set_option linter.unusedSimpArgs false
set_option maxRecDepth 100000
set_option maxHeartbeats 6400000
namespace Go.Proofs.YteodinhkhhaafaaGreatDoor
section
open Go.RowKit
theorem wrap_neg (v:Nat) (h:9223372036854775808≤v) (h2:v<18446744073709551616): ∃z:Int,IntKind.i64.wrap (v:Int)=z∧z<0:=by
 refine ⟨_,rfl,?_⟩
 rw [IntKind.wrap_i64];omega
theorem wrap_pos (v:Nat) (h: ¬9223372036854775808≤v):IntKind.i64.wrap (v:Int)=(v:Int):=by
 rw [IntKind.wrap_i64];omega
theorem err16 (s:ByteArray) (h:14<s.size):ErrV 16 (.iface 141 (.string s)):=by
 unfold ErrV;rw [if_neg (by omega),if_neg (by omega),if_pos rfl]
 refine ⟨s,rfl,?_,?_⟩
 ·rintro rfl;exact absurd h (by decide)
 ·rintro rfl;exact absurd h (by decide)
theorem size_last (a b:ByteArray) (h:14<b.size):14<(a++b).size:=by rw [ByteArray.size_append];omega
theorem be_lt: ∀(l:List UInt8),be l<256^l.length:=by
 intro l;unfold be;have key: ∀(l:List UInt8) (a n:Nat),a<256^n→l.foldl (fun a b=>a*256+b.toNat) a<256^(n+l.length):=by
  intro l
  induction l with
  |nil=>intro a n h;simpa using h
  |cons b l ih=>
   intro a n h;have hb:=u8lt b;have:=ih (a*256+b.toNat) (n+1) (by rw [Nat.pow_succ];omega)
   simpa [Nat.add_assoc,Nat.add_comm 1] using this
 simpa using key l 0 0 (by simp)
theorem hd_val {xs:List UInt8} {off m ai v o:Nat} (h:hd xs off= .ok (m,ai,v,o)):v<18446744073709551616∧o≤xs.length:=by
 unfold hd at h
 split at h
 ·cases h
 ·rename_i b e;obtain ⟨hl,rfl⟩:=getElem?_lt e;have hb:=u8lt xs[off]
  split at h
  ·cases h;omega
  ·split at h
   ·split at h
    ·cases h
    ·split at h
     ·cases h
     ·rename_i h24 h28 hlen hs;have h4:xs[off].toNat%32=24∨xs[off].toNat%32=25∨xs[off].toNat%32=26∨xs[off].toNat%32=27:=by omega
      rcases h4 with h4|h4|h4|h4<;>rw [h4] at h hlen<;>simp only [Nat.reduceSub,Nat.reducePow] at h hlen<;>cases h<;>refine ⟨?_,by omega⟩
      ·exact Nat.lt_of_lt_of_le (be_lt _) (by simp;exact Nat.le_trans (Nat.pow_le_pow_right (by omega) (Nat.min_le_left _ _)) (by decide))
      ·exact Nat.lt_of_lt_of_le (be_lt _) (by simp;exact Nat.le_trans (Nat.pow_le_pow_right (by omega) (Nat.min_le_left _ _)) (by decide))
      ·exact Nat.lt_of_lt_of_le (be_lt _) (by simp;exact Nat.le_trans (Nat.pow_le_pow_right (by omega) (Nat.min_le_left _ _)) (by decide))
      ·exact Nat.lt_of_lt_of_le (be_lt _) (by simp;exact Nat.le_trans (Nat.pow_le_pow_right (by omega) (Nat.min_le_left _ _)) (by decide))
   ·split at h
    ·split at h
     ·cases h
     ·cases h;omega
    ·cases h
section
variable {w:World} {d db o c dm off dep:Nat} {L:Lim} {xs:List UInt8}
theorem item_err (h:Dec w d db o c dm xs off) (hM:DecM w dm L.nest L.el L.pa) (hmd:dm≠d) {k:Nat} (hh:hd xs off= .error k):
  Calls Tryz.prog 114 #[.pointer (some ⟨d,0,none⟩),.int .i64 (dep:Int),.bool false] w (WPost w d db o c dm xs (.error k)):=by
 have KI:=ihead h hM hmd;rw [hh] at KI;replace KI:=Hz KI;clear hh;go_enter Tryz.func114,Tryz.ntmps114
 go_wp2_with fail
 refine KI.out.mono ?_
 rintro e w1 ⟨v,rfl,hv,hu,hf⟩;obtain ⟨t,x,rfl⟩:=hv.iface;go_wp2
 go_ret2
 exact ⟨_,rfl,hv,hu,hf⟩
theorem item_int0 (h:Dec w d db o c dm xs off) (hM:DecM w dm L.nest L.el L.pa) (hmd:dm≠d) (hdep:dep≤65535) {ai v o1:Nat} (hh:hd xs off= .ok (0,ai,v,o1)):
  Calls Tryz.prog 114 #[.pointer (some ⟨d,0,none⟩),.int .i64 (dep:Int),.bool false] w (WPost w d db o c dm xs (.ok (dep,o1))):=by
 have KI:=ihead h hM hmd;rw [hh] at KI;have hv:=hd_val hh;have hm:=h.len;have n3: ¬dm=d:=hmd;have n4: ¬d=dm:=fun e=>hmd e.symm
 have g0:((ai:Int)==31)=false:=by have:=(hd_off hh).2.2.2;simp;omega
 replace KI:=Hz KI;replace hh:=Hz hh;clear hv;go_enter Tryz.func114,Tryz.ntmps114
 go_wp2_with fail
 refine KI.out.mono ?_
 rintro e w1 ⟨rfl,hD,hf⟩;have hM1:=hM.fr hf (by simpa using hmd)
 have k0:=hD.c0;have k1:=hD.c1;have k2:=hD.c2;have kf:=hD.f1;have m1:w1.cell? ⟨dm,1,none⟩=some (.int .i64 (L.nest:Int)):=hM1.cell 1;have m2:w1.cell? ⟨dm,2,none⟩=some (.int .i64 (L.el:Int)):=hM1.cell 2;have m3:w1.cell? ⟨dm,3,none⟩=some (.int .i64 (L.pa:Int)):=hM1.cell 3;have m4:w1.cell? ⟨dm,4,none⟩=some (.int .i64 0):=hM1.cell 4;have m5:w1.cell? ⟨dm,5,none⟩=some (.int .i64 0):=hM1.cell 5;have m11:w1.cell? ⟨dm,11,none⟩=some (.pointer none):=hM1.cell 11;have m14:w1.cell? ⟨dm,14,none⟩=some (.int .i64 0):=hM1.cell 14;go_wp2
 go_ret2
 exact ⟨rfl,hD,hf⟩
theorem item_int1 (h:Dec w d db o c dm xs off) (hM:DecM w dm L.nest L.el L.pa) (hmd:dm≠d) (hdep:dep≤65535) {ai v o1:Nat} (hh:hd xs off= .ok (1,ai,v,o1)):
  Calls Tryz.prog 114 #[.pointer (some ⟨d,0,none⟩),.int .i64 (dep:Int),.bool false] w (WPost w d db o c dm xs (.ok (dep,o1))):=by
 have KI:=ihead h hM hmd;rw [hh] at KI;have hv:=hd_val hh;have hm:=h.len;have n3: ¬dm=d:=hmd;have n4: ¬d=dm:=fun e=>hmd e.symm
 have g0:((ai:Int)==31)=false:=by have:=(hd_off hh).2.2.2;simp;omega
 replace KI:=Hz KI;replace hh:=Hz hh;clear hv;go_enter Tryz.func114,Tryz.ntmps114
 go_wp2_with fail
 refine KI.out.mono ?_
 rintro e w1 ⟨rfl,hD,hf⟩;have hM1:=hM.fr hf (by simpa using hmd)
 have k0:=hD.c0;have k1:=hD.c1;have k2:=hD.c2;have kf:=hD.f1;have m1:w1.cell? ⟨dm,1,none⟩=some (.int .i64 (L.nest:Int)):=hM1.cell 1;have m2:w1.cell? ⟨dm,2,none⟩=some (.int .i64 (L.el:Int)):=hM1.cell 2;have m3:w1.cell? ⟨dm,3,none⟩=some (.int .i64 (L.pa:Int)):=hM1.cell 3;have m4:w1.cell? ⟨dm,4,none⟩=some (.int .i64 0):=hM1.cell 4;have m5:w1.cell? ⟨dm,5,none⟩=some (.int .i64 0):=hM1.cell 5;have m11:w1.cell? ⟨dm,11,none⟩=some (.pointer none):=hM1.cell 11;have m14:w1.cell? ⟨dm,14,none⟩=some (.int .i64 0):=hM1.cell 14;go_wp2
 go_ret2
 exact ⟨rfl,hD,hf⟩
theorem item_prim (h:Dec w d db o c dm xs off) (hM:DecM w dm L.nest L.el L.pa) (hmd:dm≠d) (hdep:dep≤65535) {ai v o1:Nat} (hh:hd xs off= .ok (7,ai,v,o1)):
  Calls Tryz.prog 114 #[.pointer (some ⟨d,0,none⟩),.int .i64 (dep:Int),.bool false] w (WPost w d db o c dm xs (.ok (dep,o1))):=by
 have KI:=ihead h hM hmd;rw [hh] at KI;have hv:=hd_val hh;have hm:=h.len;have n3: ¬dm=d:=hmd;have n4: ¬d=dm:=fun e=>hmd e.symm
 have g0:((ai:Int)==31)=false:=by have:=(hd_off hh).2.2.2;simp;omega
 replace KI:=Hz KI;replace hh:=Hz hh;clear hv;go_enter Tryz.func114,Tryz.ntmps114
 go_wp2_with fail
 refine KI.out.mono ?_
 rintro e w1 ⟨rfl,hD,hf⟩;have hM1:=hM.fr hf (by simpa using hmd)
 have k0:=hD.c0;have k1:=hD.c1;have k2:=hD.c2;have kf:=hD.f1;have m1:w1.cell? ⟨dm,1,none⟩=some (.int .i64 (L.nest:Int)):=hM1.cell 1;have m2:w1.cell? ⟨dm,2,none⟩=some (.int .i64 (L.el:Int)):=hM1.cell 2;have m3:w1.cell? ⟨dm,3,none⟩=some (.int .i64 (L.pa:Int)):=hM1.cell 3;have m4:w1.cell? ⟨dm,4,none⟩=some (.int .i64 0):=hM1.cell 4;have m5:w1.cell? ⟨dm,5,none⟩=some (.int .i64 0):=hM1.cell 5;have m11:w1.cell? ⟨dm,11,none⟩=some (.pointer none):=hM1.cell 11;have m14:w1.cell? ⟨dm,14,none⟩=some (.int .i64 0):=hM1.cell 14;by_cases g24:(ai:Int)≤24
 all_goals
  go_wp2
  go_ret2
  exact ⟨rfl,hD,hf⟩
theorem item_str_short2 (h:Dec w d db o c dm xs off) (hM:DecM w dm L.nest L.el L.pa) (hmd:dm≠d) (hdep:dep≤65535) {ai v o1:Nat} (hh:hd xs off= .ok (2,ai,v,o1)) (h31:ai≠31) (h63: ¬9223372036854775808≤v) (hs:xs.length-o1<v):
  Calls Tryz.prog 114 #[.pointer (some ⟨d,0,none⟩),.int .i64 (dep:Int),.bool false] w (WPost w d db o c dm xs (.error 2)):=by
 have KI:=ihead h hM hmd;rw [hh] at KI;have hv:=hd_val hh;have hm:=h.len;have n3: ¬dm=d:=hmd;have n4: ¬d=dm:=fun e=>hmd e.symm
 have g0:((ai:Int)==31)=false:=by simp;omega
 have g1:=wrap_pos v h63;have g2:(xs.length:Int)-(o1:Int)<(v:Int):=by omega
 have g3:IntKind.i64.wrap ((xs.length:Int)-(o1:Int))=(xs.length:Int)-(o1:Int):=IntWalk.i64_in _ (by omega)
 have g4:(o1:Int)≤(xs.length:Int):=by omega
 clear h63;replace KI:=Hz KI;replace hh:=Hz hh;clear hv;go_enter Tryz.func114,Tryz.ntmps114
 go_wp2_with fail
 refine KI.out.mono ?_
 rintro e w1 ⟨rfl,hD,hf⟩;have hM1:=hM.fr hf (by simpa using hmd)
 have k0:=hD.c0;have k1:=hD.c1;have k2:=hD.c2;have kf:=hD.f1;have m1:w1.cell? ⟨dm,1,none⟩=some (.int .i64 (L.nest:Int)):=hM1.cell 1;have m2:w1.cell? ⟨dm,2,none⟩=some (.int .i64 (L.el:Int)):=hM1.cell 2;have m3:w1.cell? ⟨dm,3,none⟩=some (.int .i64 (L.pa:Int)):=hM1.cell 3;have m4:w1.cell? ⟨dm,4,none⟩=some (.int .i64 0):=hM1.cell 4;have m5:w1.cell? ⟨dm,5,none⟩=some (.int .i64 0):=hM1.cell 5;have m11:w1.cell? ⟨dm,11,none⟩=some (.pointer none):=hM1.cell 11;have m14:w1.cell? ⟨dm,14,none⟩=some (.int .i64 0):=hM1.cell 14;go_wp2
 go_quiet (fail)
 go_wp2
 go_ret2
 refine ⟨_,rfl,rfl,?_,hf.trans ?_⟩
 ·apply Exists.intro
  repeat (first|with_reducible exact hD.v|with_reducible apply DecV.set|with_reducible apply DecV.drewN|with_reducible apply DecV.alloc|with_reducible apply DecV.drew)
 ·repeat (first|with_reducible exact Fr.refl _ _|with_reducible refine Fr.setCell ?_ (by simp) _|with_reducible refine Fr.drewN ?_ _|with_reducible refine Fr.alloc ?_ _|with_reducible refine Fr.drew ?_)
theorem item_str2 (h:Dec w d db o c dm xs off) (hM:DecM w dm L.nest L.el L.pa) (hmd:dm≠d) (hdep:dep≤65535) {ai v o1:Nat} (hh:hd xs off= .ok (2,ai,v,o1)) (h31:ai≠31) (hs: ¬xs.length-o1<v):
  Calls Tryz.prog 114 #[.pointer (some ⟨d,0,none⟩),.int .i64 (dep:Int),.bool false] w (WPost w d db o c dm xs (.ok (dep,o1+v))):=by
 have KI:=ihead h hM hmd;rw [hh] at KI;have hv:=hd_val hh;have hm:=h.len;have n3: ¬dm=d:=hmd;have n4: ¬d=dm:=fun e=>hmd e.symm
 have g0:((ai:Int)==31)=false:=by simp;omega
 have g1:=wrap_pos v (by omega)
 have g2: ¬(xs.length:Int)-(o1:Int)<(v:Int):=by omega
 have g3:IntKind.i64.wrap ((xs.length:Int)-(o1:Int))=(xs.length:Int)-(o1:Int):=IntWalk.i64_in _ (by omega)
 have g4:(o1:Int)≤(xs.length:Int):=by omega
 have g5:o1+v≤xs.length:=by omega
 replace KI:=Hz KI;replace hh:=Hz hh;clear hv;go_enter Tryz.func114,Tryz.ntmps114
 go_wp2_with fail
 refine KI.out.mono ?_
 rintro e w1 ⟨rfl,hD,hf⟩;have hM1:=hM.fr hf (by simpa using hmd)
 have k0:=hD.c0;have k1:=hD.c1;have k2:=hD.c2;have kf:=hD.f1;have m1:w1.cell? ⟨dm,1,none⟩=some (.int .i64 (L.nest:Int)):=hM1.cell 1;have m2:w1.cell? ⟨dm,2,none⟩=some (.int .i64 (L.el:Int)):=hM1.cell 2;have m3:w1.cell? ⟨dm,3,none⟩=some (.int .i64 (L.pa:Int)):=hM1.cell 3;have m4:w1.cell? ⟨dm,4,none⟩=some (.int .i64 0):=hM1.cell 4;have m5:w1.cell? ⟨dm,5,none⟩=some (.int .i64 0):=hM1.cell 5;have m11:w1.cell? ⟨dm,11,none⟩=some (.pointer none):=hM1.cell 11;have m14:w1.cell? ⟨dm,14,none⟩=some (.int .i64 0):=hM1.cell 14;go_wp2
 go_quiet (fail)
 go_wp2
 go_ret2
 refine ⟨rfl,DecV.dec (x:=(o1:Int)+(v:Int)) ?_ _ (by omega) (by omega),hf.trans ?_⟩
 ·repeat (first|with_reducible exact hD.v|with_reducible apply DecV.set|with_reducible apply DecV.drewN|with_reducible apply DecV.alloc|with_reducible apply DecV.drew)
 ·repeat (first|with_reducible exact Fr.refl _ _|with_reducible refine Fr.setCell ?_ (by simp) _|with_reducible refine Fr.drewN ?_ _|with_reducible refine Fr.alloc ?_ _|with_reducible refine Fr.drew ?_)
theorem item_str_neg2 (h:Dec w d db o c dm xs off) (hM:DecM w dm L.nest L.el L.pa) (hmd:dm≠d) (hdep:dep≤65535) {ai v o1:Nat} (hh:hd xs off= .ok (2,ai,v,o1)) (h31:ai≠31) (h63:9223372036854775808≤v):
  Calls Tryz.prog 114 #[.pointer (some ⟨d,0,none⟩),.int .i64 (dep:Int),.bool false] w (WPost w d db o c dm xs (.error 16)):=by
 have KI:=ihead h hM hmd;rw [hh] at KI;have hv:=hd_val hh;have hm:=h.len;have n3: ¬dm=d:=hmd;have n4: ¬d=dm:=fun e=>hmd e.symm
 have g0:((ai:Int)==31)=false:=by simp;omega
 obtain ⟨z,g1,g2⟩:=wrap_neg v h63 hv.1;have K1:=Hz (typeName 2 (by omega))
 have K2:=Hz (formatUint v hv.1);have K3:=dec_length v 20 (by omega) (by omega)
 clear h63;replace KI:=Hz KI;replace hh:=Hz hh;clear hv;go_enter Tryz.func114,Tryz.ntmps114
 go_wp2_with fail
 refine KI.out.mono ?_
 rintro e w1 ⟨rfl,hD,hf⟩;have hM1:=hM.fr hf (by simpa using hmd)
 have k0:=hD.c0;have k1:=hD.c1;have k2:=hD.c2;have kf:=hD.f1;have m1:w1.cell? ⟨dm,1,none⟩=some (.int .i64 (L.nest:Int)):=hM1.cell 1;have m2:w1.cell? ⟨dm,2,none⟩=some (.int .i64 (L.el:Int)):=hM1.cell 2;have m3:w1.cell? ⟨dm,3,none⟩=some (.int .i64 (L.pa:Int)):=hM1.cell 3;have m4:w1.cell? ⟨dm,4,none⟩=some (.int .i64 0):=hM1.cell 4;have m5:w1.cell? ⟨dm,5,none⟩=some (.int .i64 0):=hM1.cell 5;have m11:w1.cell? ⟨dm,11,none⟩=some (.pointer none):=hM1.cell 11;have m14:w1.cell? ⟨dm,14,none⟩=some (.int .i64 0):=hM1.cell 14;go_wp2_with fail
 refine (K1.out _).mono ?_
 rintro e w2 ⟨s1,rfl,hs1,rfl⟩;go_wp2_with fail
 refine (K2.out _).mono ?_
 rintro e w3 ⟨rfl,hf9⟩;go_wp2
 go_ret2
 refine ⟨_,rfl,err16 _ (size_last _ _ (by decide)),?_,hf.trans ?_⟩
 ·apply Exists.intro
  repeat (first|with_reducible exact hD.v|with_reducible apply DecV.set|with_reducible apply DecV.drewN|with_reducible apply DecV.alloc|with_reducible apply DecV.drew|with_reducible apply DecV.fr0 hf9)
 ·repeat (first|with_reducible exact Fr.refl _ _|with_reducible refine Fr.setCell ?_ (by simp) _|with_reducible refine Fr.drewN ?_ _|with_reducible refine Fr.alloc ?_ _|with_reducible refine Fr.drew ?_|with_reducible refine Fr.then0 ?_ hf9)
theorem item_chunks2 (h:Dec w d db o c dm xs off) (hM:DecM w dm L.nest L.el L.pa) (hmd:dm≠d) (hdep:dep≤65535) {v o1 f:Nat} (hn:L.nest≤65535) (IH: ∀g,g<f→Item L xs g) (r:Except Nat (Nat×Nat)) (hh:hd xs off= .ok (2,31,v,o1)) (hr:wfS L xs f 2 o1 dep=some r):
  Calls Tryz.prog 114 #[.pointer (some ⟨d,0,none⟩),.int .i64 (dep:Int),.bool false] w (WPost w d db o c dm xs r):=by
 have KI:=ihead h hM hmd;rw [hh] at KI;have hv:=hd_val hh;have hm:=h.len;have n3: ¬dm=d:=hmd;have n4: ¬d=dm:=fun e=>hmd e.symm
 replace hr:=Hz hr;replace IH:=Hz IH;replace KI:=Hz KI;replace hh:=Hz hh;clear hv;go_enter Tryz.func114,Tryz.ntmps114
 go_wp2_with fail
 refine KI.out.mono ?_
 rintro e w1 ⟨rfl,hD,hf⟩;have hM1:=hM.fr hf (by simpa using hmd)
 have k0:=hD.c0;have k1:=hD.c1;have k2:=hD.c2;have kf:=hD.f1;have m1:w1.cell? ⟨dm,1,none⟩=some (.int .i64 (L.nest:Int)):=hM1.cell 1;have m2:w1.cell? ⟨dm,2,none⟩=some (.int .i64 (L.el:Int)):=hM1.cell 2;have m3:w1.cell? ⟨dm,3,none⟩=some (.int .i64 (L.pa:Int)):=hM1.cell 3;have m4:w1.cell? ⟨dm,4,none⟩=some (.int .i64 0):=hM1.cell 4;have m5:w1.cell? ⟨dm,5,none⟩=some (.int .i64 0):=hM1.cell 5;have m11:w1.cell? ⟨dm,11,none⟩=some (.pointer none):=hM1.cell 11;have m14:w1.cell? ⟨dm,14,none⟩=some (.int .i64 0):=hM1.cell 14;have K:=Hz (chunks_any hn f IH.out 2 (by omega) dep r hD hM1 hmd hdep hr.out)
 go_wp2_with fail
 refine K.out.mono ?_
 rintro e w2 h2;rcases r with k|⟨D,o'⟩
 ·obtain ⟨v2,rfl,hv2,hu2,hf2⟩:=h2;go_wp2
  go_ret2
  exact ⟨_,rfl,hv2,hu2,hf.trans hf2⟩
 ·obtain ⟨rfl,hD2,hf2⟩:=h2;go_wp2
  go_ret2
  exact ⟨rfl,hD2,hf.trans hf2⟩
theorem item_str_short3 (h:Dec w d db o c dm xs off) (hM:DecM w dm L.nest L.el L.pa) (hmd:dm≠d) (hdep:dep≤65535) {ai v o1:Nat} (hh:hd xs off= .ok (3,ai,v,o1)) (h31:ai≠31) (h63: ¬9223372036854775808≤v) (hs:xs.length-o1<v):
  Calls Tryz.prog 114 #[.pointer (some ⟨d,0,none⟩),.int .i64 (dep:Int),.bool false] w (WPost w d db o c dm xs (.error 2)):=by
 have KI:=ihead h hM hmd;rw [hh] at KI;have hv:=hd_val hh;have hm:=h.len;have n3: ¬dm=d:=hmd;have n4: ¬d=dm:=fun e=>hmd e.symm
 have g0:((ai:Int)==31)=false:=by simp;omega
 have g1:=wrap_pos v h63;have g2:(xs.length:Int)-(o1:Int)<(v:Int):=by omega
 have g3:IntKind.i64.wrap ((xs.length:Int)-(o1:Int))=(xs.length:Int)-(o1:Int):=IntWalk.i64_in _ (by omega)
 have g4:(o1:Int)≤(xs.length:Int):=by omega
 clear h63;replace KI:=Hz KI;replace hh:=Hz hh;clear hv;go_enter Tryz.func114,Tryz.ntmps114
 go_wp2_with fail
 refine KI.out.mono ?_
 rintro e w1 ⟨rfl,hD,hf⟩;have hM1:=hM.fr hf (by simpa using hmd)
 have k0:=hD.c0;have k1:=hD.c1;have k2:=hD.c2;have kf:=hD.f1;have m1:w1.cell? ⟨dm,1,none⟩=some (.int .i64 (L.nest:Int)):=hM1.cell 1;have m2:w1.cell? ⟨dm,2,none⟩=some (.int .i64 (L.el:Int)):=hM1.cell 2;have m3:w1.cell? ⟨dm,3,none⟩=some (.int .i64 (L.pa:Int)):=hM1.cell 3;have m4:w1.cell? ⟨dm,4,none⟩=some (.int .i64 0):=hM1.cell 4;have m5:w1.cell? ⟨dm,5,none⟩=some (.int .i64 0):=hM1.cell 5;have m11:w1.cell? ⟨dm,11,none⟩=some (.pointer none):=hM1.cell 11;have m14:w1.cell? ⟨dm,14,none⟩=some (.int .i64 0):=hM1.cell 14;go_wp2
 go_quiet (fail)
 go_wp2
 go_ret2
 refine ⟨_,rfl,rfl,?_,hf.trans ?_⟩
 ·apply Exists.intro
  repeat (first|with_reducible exact hD.v|with_reducible apply DecV.set|with_reducible apply DecV.drewN|with_reducible apply DecV.alloc|with_reducible apply DecV.drew)
 ·repeat (first|with_reducible exact Fr.refl _ _|with_reducible refine Fr.setCell ?_ (by simp) _|with_reducible refine Fr.drewN ?_ _|with_reducible refine Fr.alloc ?_ _|with_reducible refine Fr.drew ?_)
theorem item_str3 (h:Dec w d db o c dm xs off) (hM:DecM w dm L.nest L.el L.pa) (hmd:dm≠d) (hdep:dep≤65535) {ai v o1:Nat} (hh:hd xs off= .ok (3,ai,v,o1)) (h31:ai≠31) (hs: ¬xs.length-o1<v):
  Calls Tryz.prog 114 #[.pointer (some ⟨d,0,none⟩),.int .i64 (dep:Int),.bool false] w (WPost w d db o c dm xs (.ok (dep,o1+v))):=by
 have KI:=ihead h hM hmd;rw [hh] at KI;have hv:=hd_val hh;have hm:=h.len;have n3: ¬dm=d:=hmd;have n4: ¬d=dm:=fun e=>hmd e.symm
 have g0:((ai:Int)==31)=false:=by simp;omega
 have g1:=wrap_pos v (by omega)
 have g2: ¬(xs.length:Int)-(o1:Int)<(v:Int):=by omega
 have g3:IntKind.i64.wrap ((xs.length:Int)-(o1:Int))=(xs.length:Int)-(o1:Int):=IntWalk.i64_in _ (by omega)
 have g4:(o1:Int)≤(xs.length:Int):=by omega
 have g5:o1+v≤xs.length:=by omega
 replace KI:=Hz KI;replace hh:=Hz hh;clear hv;go_enter Tryz.func114,Tryz.ntmps114
 go_wp2_with fail
 refine KI.out.mono ?_
 rintro e w1 ⟨rfl,hD,hf⟩;have hM1:=hM.fr hf (by simpa using hmd)
 have k0:=hD.c0;have k1:=hD.c1;have k2:=hD.c2;have kf:=hD.f1;have m1:w1.cell? ⟨dm,1,none⟩=some (.int .i64 (L.nest:Int)):=hM1.cell 1;have m2:w1.cell? ⟨dm,2,none⟩=some (.int .i64 (L.el:Int)):=hM1.cell 2;have m3:w1.cell? ⟨dm,3,none⟩=some (.int .i64 (L.pa:Int)):=hM1.cell 3;have m4:w1.cell? ⟨dm,4,none⟩=some (.int .i64 0):=hM1.cell 4;have m5:w1.cell? ⟨dm,5,none⟩=some (.int .i64 0):=hM1.cell 5;have m11:w1.cell? ⟨dm,11,none⟩=some (.pointer none):=hM1.cell 11;have m14:w1.cell? ⟨dm,14,none⟩=some (.int .i64 0):=hM1.cell 14;go_wp2
 go_quiet (fail)
 go_wp2
 go_ret2
 refine ⟨rfl,DecV.dec (x:=(o1:Int)+(v:Int)) ?_ _ (by omega) (by omega),hf.trans ?_⟩
 ·repeat (first|with_reducible exact hD.v|with_reducible apply DecV.set|with_reducible apply DecV.drewN|with_reducible apply DecV.alloc|with_reducible apply DecV.drew)
 ·repeat (first|with_reducible exact Fr.refl _ _|with_reducible refine Fr.setCell ?_ (by simp) _|with_reducible refine Fr.drewN ?_ _|with_reducible refine Fr.alloc ?_ _|with_reducible refine Fr.drew ?_)
theorem item_str_neg3 (h:Dec w d db o c dm xs off) (hM:DecM w dm L.nest L.el L.pa) (hmd:dm≠d) (hdep:dep≤65535) {ai v o1:Nat} (hh:hd xs off= .ok (3,ai,v,o1)) (h31:ai≠31) (h63:9223372036854775808≤v):
  Calls Tryz.prog 114 #[.pointer (some ⟨d,0,none⟩),.int .i64 (dep:Int),.bool false] w (WPost w d db o c dm xs (.error 16)):=by
 have KI:=ihead h hM hmd;rw [hh] at KI;have hv:=hd_val hh;have hm:=h.len;have n3: ¬dm=d:=hmd;have n4: ¬d=dm:=fun e=>hmd e.symm
 have g0:((ai:Int)==31)=false:=by simp;omega
 obtain ⟨z,g1,g2⟩:=wrap_neg v h63 hv.1;have K1:=Hz (typeName 3 (by omega))
 have K2:=Hz (formatUint v hv.1);have K3:=dec_length v 20 (by omega) (by omega)
 clear h63;replace KI:=Hz KI;replace hh:=Hz hh;clear hv;go_enter Tryz.func114,Tryz.ntmps114
 go_wp2_with fail
 refine KI.out.mono ?_
 rintro e w1 ⟨rfl,hD,hf⟩;have hM1:=hM.fr hf (by simpa using hmd)
 have k0:=hD.c0;have k1:=hD.c1;have k2:=hD.c2;have kf:=hD.f1;have m1:w1.cell? ⟨dm,1,none⟩=some (.int .i64 (L.nest:Int)):=hM1.cell 1;have m2:w1.cell? ⟨dm,2,none⟩=some (.int .i64 (L.el:Int)):=hM1.cell 2;have m3:w1.cell? ⟨dm,3,none⟩=some (.int .i64 (L.pa:Int)):=hM1.cell 3;have m4:w1.cell? ⟨dm,4,none⟩=some (.int .i64 0):=hM1.cell 4;have m5:w1.cell? ⟨dm,5,none⟩=some (.int .i64 0):=hM1.cell 5;have m11:w1.cell? ⟨dm,11,none⟩=some (.pointer none):=hM1.cell 11;have m14:w1.cell? ⟨dm,14,none⟩=some (.int .i64 0):=hM1.cell 14;go_wp2_with fail
 refine (K1.out _).mono ?_
 rintro e w2 ⟨s1,rfl,hs1,rfl⟩;go_wp2_with fail
 refine (K2.out _).mono ?_
 rintro e w3 ⟨rfl,hf9⟩;go_wp2
 go_ret2
 refine ⟨_,rfl,err16 _ (size_last _ _ (by decide)),?_,hf.trans ?_⟩
 ·apply Exists.intro
  repeat (first|with_reducible exact hD.v|with_reducible apply DecV.set|with_reducible apply DecV.drewN|with_reducible apply DecV.alloc|with_reducible apply DecV.drew|with_reducible apply DecV.fr0 hf9)
 ·repeat (first|with_reducible exact Fr.refl _ _|with_reducible refine Fr.setCell ?_ (by simp) _|with_reducible refine Fr.drewN ?_ _|with_reducible refine Fr.alloc ?_ _|with_reducible refine Fr.drew ?_|with_reducible refine Fr.then0 ?_ hf9)
theorem item_chunks3 (h:Dec w d db o c dm xs off) (hM:DecM w dm L.nest L.el L.pa) (hmd:dm≠d) (hdep:dep≤65535) {v o1 f:Nat} (hn:L.nest≤65535) (IH: ∀g,g<f→Item L xs g) (r:Except Nat (Nat×Nat)) (hh:hd xs off= .ok (3,31,v,o1)) (hr:wfS L xs f 3 o1 dep=some r):
  Calls Tryz.prog 114 #[.pointer (some ⟨d,0,none⟩),.int .i64 (dep:Int),.bool false] w (WPost w d db o c dm xs r):=by
 have KI:=ihead h hM hmd;rw [hh] at KI;have hv:=hd_val hh;have hm:=h.len;have n3: ¬dm=d:=hmd;have n4: ¬d=dm:=fun e=>hmd e.symm
 replace hr:=Hz hr;replace IH:=Hz IH;replace KI:=Hz KI;replace hh:=Hz hh;clear hv;go_enter Tryz.func114,Tryz.ntmps114
 go_wp2_with fail
 refine KI.out.mono ?_
 rintro e w1 ⟨rfl,hD,hf⟩;have hM1:=hM.fr hf (by simpa using hmd)
 have k0:=hD.c0;have k1:=hD.c1;have k2:=hD.c2;have kf:=hD.f1;have m1:w1.cell? ⟨dm,1,none⟩=some (.int .i64 (L.nest:Int)):=hM1.cell 1;have m2:w1.cell? ⟨dm,2,none⟩=some (.int .i64 (L.el:Int)):=hM1.cell 2;have m3:w1.cell? ⟨dm,3,none⟩=some (.int .i64 (L.pa:Int)):=hM1.cell 3;have m4:w1.cell? ⟨dm,4,none⟩=some (.int .i64 0):=hM1.cell 4;have m5:w1.cell? ⟨dm,5,none⟩=some (.int .i64 0):=hM1.cell 5;have m11:w1.cell? ⟨dm,11,none⟩=some (.pointer none):=hM1.cell 11;have m14:w1.cell? ⟨dm,14,none⟩=some (.int .i64 0):=hM1.cell 14;have K:=Hz (chunks_any hn f IH.out 3 (by omega) dep r hD hM1 hmd hdep hr.out)
 go_wp2_with fail
 refine K.out.mono ?_
 rintro e w2 h2;rcases r with k|⟨D,o'⟩
 ·obtain ⟨v2,rfl,hv2,hu2,hf2⟩:=h2;go_wp2
  go_ret2
  exact ⟨_,rfl,hv2,hu2,hf.trans hf2⟩
 ·obtain ⟨rfl,hD2,hf2⟩:=h2;go_wp2
  go_ret2
  exact ⟨rfl,hD2,hf.trans hf2⟩
end
end
section
open Go.RowKit
theorem wf_mono (L:Lim) (xs:List UInt8): ∀f,
  (∀off dep r,wfI L xs f off dep=some r→wfI L xs (f+1) off dep=some r)∧
  (∀m off dep r,wfS L xs f m off dep=some r→wfS L xs (f+1) m off dep=some r)∧
  (∀m i off dep r,wfO L xs f m i off dep=some r→wfO L xs (f+1) m i off dep=some r)∧
  (∀n off dep r,wfN L xs f n off dep=some r→wfN L xs (f+1) n off dep=some r)∧
  (∀off dep r,wfT L xs f off dep=some r→wfT L xs (f+1) off dep=some r):=by
 intro f;have hj: ∀(D:Nat) (p q:Option (Except Nat (Nat×Nat))) r,(∀r,p=some r→q=some r)→joinD D p=some r→joinD D q=some r:=by
  intro D p q r h1 h;cases p with
  |none=>simp [joinD] at h
  |some p=>rw [h1 p rfl];exact h
 induction f with
 |zero=>simp [wfI,wfS,wfO,wfN,wfT]
 |succ f ih=>
  obtain ⟨i1,i2,i3,i4,i5⟩:=ih;refine ⟨?_,?_,?_,?_,?_⟩
  ·intro off dep r h;rw [wfI] at h ⊢;cases hh:hd xs off with
   |error k=>rw [hh] at h;exact h
   |ok q=>
    obtain ⟨m,ai,v,o⟩:=q;rw [hh] at h;dsimp only at h ⊢;by_cases c1:m=2∨m=3
    ·rw [if_pos c1] at h ⊢;by_cases c2:ai=31
     ·rw [if_pos c2] at h ⊢;exact i2 _ _ _ _ h
     ·rw [if_neg c2] at h ⊢;exact h
    ·rw [if_neg c1] at h ⊢;by_cases c3:m=4∨m=5
     ·rw [if_pos c3] at h ⊢;by_cases c4:L.nest<dep+1
      ·rw [if_pos c4] at h ⊢;exact h
      ·rw [if_neg c4] at h ⊢;by_cases c2:ai=31
       ·rw [if_pos c2] at h ⊢;exact i3 _ _ _ _ _ h
       ·rw [if_neg c2] at h ⊢;by_cases c5:9223372036854775808≤v
        ·rw [if_pos c5] at h ⊢;exact h
        ·rw [if_neg c5] at h ⊢;by_cases c6:m=4∧L.el<v
         ·rw [if_pos c6] at h ⊢;exact h
         ·rw [if_neg c6] at h ⊢;by_cases c7:m=5∧L.pa<v
          ·rw [if_pos c7] at h ⊢;exact h
          ·rw [if_neg c7] at h ⊢;exact i4 _ _ _ _ h
     ·rw [if_neg c3] at h ⊢;by_cases c8:m=6
      ·rw [if_pos c8] at h ⊢;exact i5 _ _ _ h
      ·rw [if_neg c8] at h ⊢;exact h
  ·intro m off dep r h;rw [wfS] at h ⊢;cases hx:xs[off]? with
   |none=>rw [hx] at h;exact h
   |some b=>
    rw [hx] at h;dsimp only at h ⊢;by_cases c1:b.toNat=255
    ·rw [if_pos c1] at h ⊢;exact h
    ·rw [if_neg c1] at h ⊢;by_cases c2:b.toNat/32≠m
     ·rw [if_pos c2] at h ⊢;exact h
     ·rw [if_neg c2] at h ⊢;by_cases c3:b.toNat%32=31
      ·rw [if_pos c3] at h ⊢;exact h
      ·rw [if_neg c3] at h ⊢;cases hI:wfI L xs f off dep with
       |none=>rw [hI] at h;cases h
       |some q=>
        rw [hI] at h;rw [i1 _ _ _ hI];cases q with
        |error k=>exact h
        |ok p=>exact i2 _ _ _ _ h
  ·intro m i off dep r h;rw [wfO] at h ⊢;cases hx:xs[off]? with
   |none=>rw [hx] at h;exact h
   |some b=>
    rw [hx] at h;dsimp only at h ⊢;by_cases c1:b.toNat=255
    ·rw [if_pos c1] at h ⊢;exact h
    ·rw [if_neg c1] at h ⊢;cases hI:wfI L xs f off dep with
     |none=>rw [hI] at h;cases h
     |some q=>
      rw [hI] at h;rw [i1 _ _ _ hI];cases q with
      |error k=>exact h
      |ok p=>
       dsimp only at h ⊢;by_cases c2:m=4∧L.el<i+1
       ·rw [if_pos c2] at h ⊢;exact h
       ·rw [if_neg c2] at h ⊢;by_cases c3:m≠4∧(i+1)%2=0∧L.pa<(i+1)/2
        ·rw [if_pos c3] at h ⊢;exact h
        ·rw [if_neg c3] at h ⊢;exact hj _ _ _ _ (i3 _ _ _ _) h
  ·intro n off dep r h;cases n with
   |zero=>rw [wfN] at h ⊢;exact h
   |succ n=>
    rw [wfN] at h ⊢;cases hI:wfI L xs f off dep with
    |none=>rw [hI] at h;cases h
    |some q=>
     rw [hI] at h;rw [i1 _ _ _ hI];cases q with
     |error k=>exact h
     |ok p=>exact hj _ _ _ _ (i4 _ _ _) h
  ·intro off dep r h;rw [wfT] at h ⊢;cases hx:xs[off]? with
   |none=>rw [hx] at h;exact h
   |some b=>
    rw [hx] at h;dsimp only at h ⊢;by_cases c1:b.toNat/32≠6
    ·rw [if_pos c1] at h ⊢;exact i1 _ _ _ h
    ·rw [if_neg c1] at h ⊢;cases hh:hd xs off with
     |error k=>rw [hh] at h;exact h
     |ok q=>
      obtain ⟨m,ai,v,o⟩:=q;rw [hh] at h;dsimp only at h ⊢;by_cases c2:L.nest<dep+1
      ·rw [if_pos c2] at h ⊢;exact h
      ·rw [if_neg c2] at h ⊢;exact i5 _ _ _ h
end
section
section
open Go.RowKit
inductive Tr where
 |int (neg:Bool) (n:Nat)
 |str (tx:Bool) (b:List UInt8)
 |chk (tx:Bool) (l:List Tr)
 |arr (opn:Bool) (l:List Tr)
 |map (opn:Bool) (l:List Tr)
 |tag (n:Nat) (t:Tr)
 |prim (ai v:Nat)
def Tr.isTag:Tr→Bool
 | .tag _ _=>true
 |_=>false
def majS (tx:Bool):Nat:=if tx then 3 else 2
mutual
def Enc (xs:List UInt8):Tr→Nat→Nat→Prop
 | .int neg n,off,off'=> ∃ai,hd xs off= .ok (if neg then 1 else 0,ai,n,off')
 | .str tx b,off,off'=> ∃ai v o,hd xs off= .ok (majS tx,ai,v,o)∧ai≠31∧o+v≤xs.length∧v<9223372036854775808∧off'=o+v∧b=(xs.drop o).take v
 | .chk tx l,off,off'=> ∃v o,hd xs off= .ok (majS tx,31,v,o)∧Chunks xs tx l o off'
 | .arr false l,off,off'=> ∃ai o,hd xs off= .ok (4,ai,l.length,o)∧ai≠31∧Encs xs l o off'
 | .arr true l,off,off'=> ∃v o,hd xs off= .ok (4,31,v,o)∧Opens xs l o off'
 | .map false l,off,off'=> ∃ai v o,hd xs off= .ok (5,ai,v,o)∧ai≠31∧l.length=v*2∧Encs xs l o off'
 | .map true l,off,off'=> ∃v o,hd xs off= .ok (5,31,v,o)∧l.length%2=0∧Opens xs l o off'
 | .tag n t,off,off'=> ∃ai o,hd xs off= .ok (6,ai,n,o)∧Enc xs t o off'
 | .prim ai v,off,off'=>hd xs off= .ok (7,ai,v,off')
def Encs (xs:List UInt8):List Tr→Nat→Nat→Prop
 |[],off,off'=>off=off'
 |t::l,off,off'=> ∃mid,Enc xs t off mid∧Encs xs l mid off'
def Opens (xs:List UInt8):List Tr→Nat→Nat→Prop
 |[],off,off'=> ∃b,xs[off]? =some b∧b.toNat=255∧off'=off+1
 |t::l,off,off'=> ∃b mid,xs[off]? =some b∧b.toNat≠255∧Enc xs t off mid∧Opens xs l mid off'
def Chunks (xs:List UInt8) (tx:Bool):List Tr→Nat→Nat→Prop
 |[],off,off'=> ∃b,xs[off]? =some b∧b.toNat=255∧off'=off+1
 |t::l,off,off'=> ∃b mid,xs[off]? =some b∧b.toNat≠255∧(∃s,t= .str tx s)∧Enc xs t off mid∧Chunks xs tx l mid off'
end
mutual
def Tr.dp:Tr→Nat
 | .arr _ l=>1+Tr.dps l
 | .map _ l=>1+Tr.dps l
 | .tag _ t=>(if t.isTag then 1 else 0)+t.dp
 |_=>0
def Tr.dps:List Tr→Nat
 |[]=>0
 |t::l=>max t.dp (Tr.dps l)
end
mutual
def Tr.fits (L:Lim):Tr→Prop
 | .arr _ l=>l.length≤L.el∧Tr.fitss L l
 | .map _ l=>l.length≤2*L.pa∧Tr.fitss L l
 | .tag _ t=>t.fits L
 |_=>True
def Tr.fitss (L:Lim):List Tr→Prop
 |[]=>True
 |t::l=>t.fits L∧Tr.fitss L l
end
theorem wf_le (L:Lim) (xs:List UInt8) {f g:Nat} (hg:f≤g):
  (∀off dep r,wfI L xs f off dep=some r→wfI L xs g off dep=some r)∧
  (∀m off dep r,wfS L xs f m off dep=some r→wfS L xs g m off dep=some r)∧
  (∀m i off dep r,wfO L xs f m i off dep=some r→wfO L xs g m i off dep=some r)∧
  (∀n off dep r,wfN L xs f n off dep=some r→wfN L xs g n off dep=some r)∧
  (∀off dep r,wfT L xs f off dep=some r→wfT L xs g off dep=some r):=by
 obtain ⟨k,rfl⟩: ∃k,g=f+k:=⟨g-f,by omega⟩
 clear hg
 induction k with
 |zero=>exact ⟨fun _ _ _ h=>h,fun _ _ _ _ h=>h,fun _ _ _ _ _ h=>h,fun _ _ _ _ h=>h,fun _ _ _ h=>h⟩
 |succ k ih=>
  obtain ⟨m1,m2,m3,m4,m5⟩:=wf_mono L xs (f+k);obtain ⟨i1,i2,i3,i4,i5⟩:=ih;exact ⟨fun _ _ _ h=>m1 _ _ _ (i1 _ _ _ h),fun _ _ _ _ h=>m2 _ _ _ _ (i2 _ _ _ _ h),fun _ _ _ _ _ h=>m3 _ _ _ _ _ (i3 _ _ _ _ _ h),fun _ _ _ _ h=>m4 _ _ _ _ (i4 _ _ _ _ h),fun _ _ _ h=>m5 _ _ _ (i5 _ _ _ h)⟩
end
section
open Go.RowKit
theorem byte_of_hd {xs:List UInt8} {off m ai v o:Nat} (h:hd xs off= .ok (m,ai,v,o)): ∃hl:off<xs.length,xs[off].toNat/32=m∧xs[off].toNat%32=ai:=by
 unfold hd at h
 split at h
 ·cases h
 ·rename_i b e;obtain ⟨hl,rfl⟩:=getElem?_lt e;refine ⟨hl,?_⟩
  split at h
  ·cases h;exact ⟨rfl,rfl⟩
  ·split at h
   ·split at h
    ·cases h
    ·split at h
     ·cases h
     ·cases h;exact ⟨rfl,rfl⟩
   ·split at h
    ·split at h
     ·cases h
     ·cases h;exact ⟨rfl,by omega⟩
    ·cases h
theorem dp_tag (n:Nat) (t:Tr):(Tr.tag n t).dp=(if t.isTag then 1 else 0)+t.dp:=by rw [Tr.dp]
theorem enc_tag {xs:List UInt8} {t:Tr} {off off':Nat} (h:Enc xs t off off'): ∃b,xs[off]? =some b∧(b.toNat/32=6↔t.isTag=true):=by
 have key: ∀m ai v o,hd xs off= .ok (m,ai,v,o)→ ∃b,xs[off]? =some b∧b.toNat/32=m:=by
  intro m ai v o h;unfold hd at h;cases hx:xs[off]? with
  |none=>rw [hx] at h;cases h
  |some b=>
   rw [hx] at h;refine ⟨b,rfl,?_⟩
   dsimp only at h
   split at h
   ·cases h;rfl
   ·split at h
    ·split at h
     ·cases h
     ·split at h
      ·cases h
      ·cases h;rfl
    ·split at h
     ·split at h
      ·cases h
      ·cases h;rfl
     ·cases h
 cases t with
 |int neg n=>
  rw [Enc] at h;obtain ⟨ai,h⟩:=h;obtain ⟨b,h1,h2⟩:=key _ _ _ _ h;refine ⟨b,h1,?_⟩
  cases neg<;>simp_all [Tr.isTag]<;>omega
 |str tx b=>
  rw [Enc] at h;obtain ⟨ai,v,o,h,_⟩:=h;obtain ⟨b,h1,h2⟩:=key _ _ _ _ h;refine ⟨b,h1,?_⟩
  cases tx<;>simp_all [Tr.isTag,majS]
 |chk tx l=>
  rw [Enc] at h;obtain ⟨v,o,h,_⟩:=h;obtain ⟨b,h1,h2⟩:=key _ _ _ _ h;refine ⟨b,h1,?_⟩
  cases tx<;>simp_all [Tr.isTag,majS]
 |arr opn l=>
  cases opn<;>rw [Enc] at h
  ·obtain ⟨ai,o,h,_⟩:=h;obtain ⟨b,h1,h2⟩:=key _ _ _ _ h;exact ⟨b,h1,by simp_all [Tr.isTag]⟩
  ·obtain ⟨ai,o,h,_⟩:=h;obtain ⟨b,h1,h2⟩:=key _ _ _ _ h;exact ⟨b,h1,by simp_all [Tr.isTag]⟩
 |map opn l=>
  cases opn<;>rw [Enc] at h
  ·obtain ⟨ai,v,o,h,_⟩:=h;obtain ⟨b,h1,h2⟩:=key _ _ _ _ h;exact ⟨b,h1,by simp_all [Tr.isTag]⟩
  ·obtain ⟨ai,o,h,_⟩:=h;obtain ⟨b,h1,h2⟩:=key _ _ _ _ h;exact ⟨b,h1,by simp_all [Tr.isTag]⟩
 |tag n t=>
  rw [Enc] at h;obtain ⟨ai,o,h,_⟩:=h;obtain ⟨b,h1,h2⟩:=key _ _ _ _ h;exact ⟨b,h1,by simp_all [Tr.isTag]⟩
 |prim ai v=>
  rw [Enc] at h;obtain ⟨b,h1,h2⟩:=key _ _ _ _ h;exact ⟨b,h1,by simp_all [Tr.isTag]⟩
mutual
theorem wf_item (L:Lim) (xs:List UInt8) (hel:L.el≤2147483647) (hpa:L.pa≤2147483647): ∀(t:Tr) (off off' dep:Nat),Enc xs t off off'→t.fits L→dep+t.dp≤L.nest→ ∃f,wfI L xs f off dep=some (.ok (dep+t.dp,off'))
 | .int neg n,off,off',dep,h,hf,hd=>by
  rw [Enc] at h;obtain ⟨ai,h⟩:=h;refine ⟨1,?_⟩
  rw [wfI,h];cases neg<;>simp [Tr.dp]
 | .str tx b,off,off',dep,h,hf,hd=>by
  rw [Enc] at h;obtain ⟨ai,v,o,h,h31,hl,hv,rfl,_⟩:=h;refine ⟨1,?_⟩
  rw [wfI,h];dsimp only;rw [if_pos (by cases tx<;>simp [majS]),if_neg h31,if_neg (by omega),if_neg (by omega)]
  simp [Tr.dp]
 | .chk tx l,off,off',dep,h,hf,hd=>by
  rw [Enc] at h;obtain ⟨v,o,h,hc⟩:=h;obtain ⟨f,hf⟩:=wf_chunks L xs hel hpa tx l o off' dep hc (by omega)
  refine ⟨f+1,?_⟩
  rw [wfI,h];dsimp only;rw [if_pos (by cases tx<;>simp [majS]),if_pos rfl,hf]
  simp [Tr.dp]
 | .arr false l,off,off',dep,h,hf,hd=>by
  rw [Enc] at h;rw [Tr.dp] at hd ⊢;rw [Tr.fits] at hf;obtain ⟨ai,o,h,h31,he⟩:=h;obtain ⟨f,hw⟩:=wf_encs L xs hel hpa l o off' (dep+1) he hf.2 (by omega)
  refine ⟨f+1,?_⟩
  rw [wfI,h];dsimp only;rw [if_neg (by decide),if_pos (.inl rfl),if_neg (by omega),if_neg h31,if_neg (by omega),if_neg (by omega),if_neg (by omega),show l.length*(4-3)=l.length from by omega,hw,Nat.add_assoc]
 | .arr true l,off,off',dep,h,hf,hd=>by
  rw [Enc] at h;rw [Tr.dp] at hd ⊢;rw [Tr.fits] at hf;obtain ⟨v,o,h,he⟩:=h;obtain ⟨f,hw⟩:=wf_opens L xs hel hpa l 4 0 o off' (dep+1) he hf.2 (by omega) (.inl ⟨rfl,by omega⟩)
  refine ⟨f+1,?_⟩
  rw [wfI,h];dsimp only;rw [if_neg (by decide),if_pos (.inl rfl),if_neg (by omega),if_pos rfl,hw,Nat.add_assoc]
 | .map false l,off,off',dep,h,hf,hd=>by
  rw [Enc] at h;rw [Tr.dp] at hd ⊢;rw [Tr.fits] at hf;obtain ⟨ai,v,o,h,h31,hlen,he⟩:=h;obtain ⟨f,hw⟩:=wf_encs L xs hel hpa l o off' (dep+1) he hf.2 (by omega)
  refine ⟨f+1,?_⟩
  rw [wfI,h];dsimp only;rw [if_neg (by decide),if_pos (.inr rfl),if_neg (by omega),if_neg h31,if_neg (by omega),if_neg (by omega),if_neg (by omega),show v*(5-3)=l.length from by omega,hw,Nat.add_assoc]
 | .map true l,off,off',dep,h,hf,hd=>by
  rw [Enc] at h;rw [Tr.dp] at hd ⊢;rw [Tr.fits] at hf;obtain ⟨v,o,h,hev,he⟩:=h;obtain ⟨f,hw⟩:=wf_opens L xs hel hpa l 5 0 o off' (dep+1) he hf.2 (by omega) (.inr ⟨rfl,by omega,by omega⟩)
  refine ⟨f+1,?_⟩
  rw [wfI,h];dsimp only;rw [if_neg (by decide),if_pos (.inr rfl),if_neg (by omega),if_pos rfl,hw,Nat.add_assoc]
 | .tag n t,off,off',dep,h,hf,hd=>by
  rw [Enc] at h;rw [Tr.fits] at hf;obtain ⟨ai,o,h,he⟩:=h;obtain ⟨f,hw⟩:=wf_tag L xs hel hpa t n o off' dep he hf hd;refine ⟨f+1,?_⟩
  rw [wfI,h];dsimp only;rw [if_neg (by decide),if_neg (by decide),if_pos rfl,hw]
 | .prim ai v,off,off',dep,h,hf,hd=>by
  rw [Enc] at h;refine ⟨1,?_⟩
  rw [wfI,h];simp [Tr.dp]
termination_by t=>(SizeOf.sizeOf t,0)
theorem wf_tag (L:Lim) (xs:List UInt8) (hel:L.el≤2147483647) (hpa:L.pa≤2147483647): ∀(t:Tr) (n off off' dep:Nat),Enc xs t off off'→t.fits L→dep+(Tr.tag n t).dp≤L.nest→ ∃f,wfT L xs f off dep=some (.ok (dep+(Tr.tag n t).dp,off'))
 |t,n,off,off',dep,h,hf,hd=>by
  obtain ⟨b,hb,hiff⟩:=enc_tag h;rw [dp_tag] at hd ⊢;by_cases ht:t.isTag=true
  ·rw [if_pos ht] at hd ⊢;obtain ⟨n',t',rfl⟩: ∃n' t',t= .tag n' t':=by
    cases t<;>simp [Tr.isTag] at ht
    exact ⟨_,_,rfl⟩
   rw [Enc] at h;rw [Tr.fits] at hf;obtain ⟨ai,o,h,he⟩:=h;obtain ⟨f,hw⟩:=wf_tag L xs hel hpa t' n' o off' (dep+1) he hf (by omega)
   refine ⟨f+1,?_⟩
   rw [wfT,hb];dsimp only;rw [if_neg (by simpa using hiff.2 ht),h]
   dsimp only;rw [if_neg (by omega),hw,Nat.add_assoc]
  ·obtain ⟨f,hw⟩:=wf_item L xs hel hpa t off off' dep h hf (by omega)
   refine ⟨f+1,?_⟩
   rw [wfT,hb];dsimp only;rw [if_pos (fun e=>ht (hiff.1 e)),if_neg ht,hw,Nat.zero_add]
termination_by t=>(SizeOf.sizeOf t,1)
theorem wf_encs (L:Lim) (xs:List UInt8) (hel:L.el≤2147483647) (hpa:L.pa≤2147483647): ∀(l:List Tr) (off off' dep:Nat),Encs xs l off off'→Tr.fitss L l→dep+Tr.dps l≤L.nest→ ∃f,wfN L xs f l.length off dep=some (.ok (dep+Tr.dps l,off'))
 |[],off,off',dep,h,hf,hd=>by
  rw [Encs] at h;exact ⟨1,by simp [wfN,Tr.dps,h]⟩
 |t::l,off,off',dep,h,hf,hd=>by
  rw [Encs] at h;rw [Tr.fitss] at hf;rw [Tr.dps] at hd ⊢;obtain ⟨mid,h1,h2⟩:=h;obtain ⟨f1,w1⟩:=wf_item L xs hel hpa t off mid dep h1 hf.1 (by omega)
  obtain ⟨f2,w2⟩:=wf_encs L xs hel hpa l mid off' dep h2 hf.2 (by omega)
  refine ⟨max f1 f2+1,?_⟩
  rw [List.length_cons,wfN,(wf_le L xs (Nat.le_max_left f1 f2)).1 _ _ _ w1];dsimp only;rw [(wf_le L xs (Nat.le_max_right f1 f2)).2.2.2.1 _ _ _ _ w2];simp only [joinD,Option.some.injEq,Except.ok.injEq,Prod.mk.injEq,and_true];omega
termination_by l=>(SizeOf.sizeOf l,0)
theorem wf_opens (L:Lim) (xs:List UInt8) (hel:L.el≤2147483647) (hpa:L.pa≤2147483647): ∀(l:List Tr) (m i off off' dep:Nat),Opens xs l off off'→Tr.fitss L l→dep+Tr.dps l≤L.nest→(m=4∧i+l.length≤L.el∨m=5∧(i+l.length)%2=0∧i+l.length≤2*L.pa)→ ∃f,wfO L xs f m i off dep=some (.ok (dep+Tr.dps l,off'))
 |[],m,i,off,off',dep,h,hf,hd,hm=>by
  rw [Opens] at h;obtain ⟨b,h1,h2,rfl⟩:=h;refine ⟨1,?_⟩
  rw [wfO,h1];dsimp only;rw [if_pos h2,if_neg (by simp at hm;omega)]
  simp [Tr.dps]
 |t::l,m,i,off,off',dep,h,hf,hd,hm=>by
  rw [Opens] at h;rw [Tr.fitss] at hf;rw [Tr.dps] at hd ⊢;obtain ⟨b,mid,h1,h2,h3,h4⟩:=h;rw [List.length_cons] at hm;obtain ⟨f1,w1⟩:=wf_item L xs hel hpa t off mid dep h3 hf.1 (by omega)
  obtain ⟨f2,w2⟩:=wf_opens L xs hel hpa l m (i+1) mid off' dep h4 hf.2 (by omega) (by omega)
  refine ⟨max f1 f2+1,?_⟩
  rw [wfO,h1];dsimp only;rw [if_neg h2,(wf_le L xs (Nat.le_max_left f1 f2)).1 _ _ _ w1];dsimp only;rw [if_neg (by omega),if_neg (by omega),(wf_le L xs (Nat.le_max_right f1 f2)).2.2.1 _ _ _ _ _ w2]
  simp only [joinD,Option.some.injEq,Except.ok.injEq,Prod.mk.injEq,and_true];omega
termination_by l=>(SizeOf.sizeOf l,0)
theorem wf_chunks (L:Lim) (xs:List UInt8) (hel:L.el≤2147483647) (hpa:L.pa≤2147483647) (tx:Bool): ∀(l:List Tr) (off off' dep:Nat),Chunks xs tx l off off'→dep≤L.nest→ ∃f,wfS L xs f (majS tx) off dep=some (.ok (dep,off'))
 |[],off,off',dep,h,hd=>by
  rw [Chunks] at h;obtain ⟨b,h1,h2,rfl⟩:=h;refine ⟨1,?_⟩
  rw [wfS,h1];dsimp only;rw [if_pos h2]
 |t::l,off,off',dep,h,hd=>by
  rw [Chunks] at h;obtain ⟨b,mid,h1,h2,⟨s,rfl⟩,h3,h4⟩:=h;obtain ⟨f2,w2⟩:=wf_chunks L xs hel hpa tx l mid off' dep h4 hd;rw [Enc] at h3;obtain ⟨ai,v,o,h3,h31,hl,hv,rfl,_⟩:=h3;obtain ⟨hlt,hb1,hb2⟩:=byte_of_hd h3;have hbb:b=xs[off]:=by rw [List.getElem?_eq_getElem hlt] at h1;exact (Option.some.inj h1).symm
  refine ⟨f2+2,?_⟩
  rw [wfS,h1];dsimp only;rw [if_neg h2,if_neg (by rw [hbb,hb1];simp),if_neg (by rw [hbb,hb2];exact h31)]
  rw [wfI,h3];dsimp only;rw [if_pos (by cases tx<;>simp [majS]),if_neg h31,if_neg (by omega),if_neg (by omega)]
  dsimp only;exact (wf_le L xs (Nat.le_succ f2)).2.1 _ _ _ _ w2
termination_by l=>(SizeOf.sizeOf l,0)
end
end
end
section
open Go.RowKit
theorem headIn (m n form:Nat) (hm:m<8) (hn:n<18446744073709551616) (hf:form≤100) (w:World):
  Calls Tryz.prog 55 #[.int .i64 (m:Int),.int .u64 (n:Int),.int .i64 (form:Int)] w fun e w'=>e= .returned (.string ⟨(headB m n form).toArray⟩)∧Fr [] w w':=by
 by_cases hs:form=0∧n<24
 ·obtain ⟨rfl,hs⟩:=hs;exact headIn_small m n hm hs w
 ·have e:headB m n form=UInt8.ofNat (m*32+24+lgB form n)::beB (2^lgB form n) n:=if_neg hs;rw [e];by_cases h1:form≤1∧n<256
  ·have:lgB form n=0:=if_pos h1;rw [this];exact headIn_0 m n form hm hn hf hs h1 w
  ·by_cases h2:form≤2∧n<65536
   ·have:lgB form n=1:=by unfold lgB;rw [if_neg h1,if_pos h2]
    rw [this];exact headIn_1 m n form hm hn hf hs h1 h2 w
   ·by_cases h3:form≤3∧n<4294967296
    ·have:lgB form n=2:=by unfold lgB;rw [if_neg h1,if_neg h2,if_pos h3]
     rw [this];exact headIn_2 m n form hm hn hf hs h1 h2 h3 w
    ·have:lgB form n=3:=by unfold lgB;rw [if_neg h1,if_neg h2,if_neg h3]
     rw [this];exact headIn_3 m n form hm hn hf hs h1 h2 h3 w
theorem head (m n:Nat) (hm:m<8) (hn:n<18446744073709551616) (w:World):
  Calls Tryz.prog 25 #[.int .i64 (m:Int),.int .u64 (n:Int)] w fun e w'=>e= .returned (.string ⟨(headB m n 0).toArray⟩)∧Fr [] w w':=by
 have K:=Hz (headIn m n 0 hm hn (by omega))
 go_enter Tryz.func25,Tryz.ntmps25
 go_wp2_with fail
 refine (K.out _).mono ?_
 rintro e w1 ⟨rfl,hf⟩;go_wp2;go_ret
 exact ⟨rfl,hf⟩
theorem beB_length: ∀k n,(beB k n).length=k
 |0,_=>rfl
 |k+1,n=>by simp [beB,beB_length k n]
theorem be_beB: ∀k n,∀a,List.foldl (fun a (b:UInt8)=>a*256+b.toNat) a (beB k n)=a*256^k+n%256^k
 |0,n,a=>by simp [beB,Nat.mod_one]
 |k+1,n,a=>by
  simp only [beB,List.foldl_cons];rw [be_beB k n];have h1:(UInt8.ofNat (n/256^k%256)).toNat=n/256^k%256:=by simp
  rw [h1,Nat.pow_succ,Nat.mod_mul,Nat.add_mul,Nat.mul_assoc a 256,Nat.mul_comm 256 (256^k),Nat.mul_comm (n/256^k%256)];omega
theorem be_beB0 (k n:Nat) (h:n<256^k):be (beB k n)=n:=by
 unfold be;rw [be_beB k n 0,Nat.mod_eq_of_lt h];omega
theorem lgB_lt (form n:Nat):lgB form n<4:=by unfold lgB;split;omega;split;omega;split<;>omega
theorem lgB_fits (form n:Nat) (hn:n<18446744073709551616):n<256^2^lgB form n:=by
 unfold lgB
 split
 ·rename_i h;simpa using h.2
 ·split
  ·rename_i h;simpa using h.2
  ·split
   ·rename_i h;simpa using h.2
   ·simpa using hn
theorem hd_headB (m n form:Nat) (hm:m<7) (hn:n<18446744073709551616) (pre post:List UInt8):
  ∃ai,hd (pre++(headB m n form++post)) pre.length= .ok (m,ai,n,pre.length+(headB m n form).length)∧ai<28:=by
 unfold hd;by_cases hs:form=0∧n<24
 ·have e:headB m n form=[UInt8.ofNat (m*32+n)]:=if_pos hs;rw [e];have h1:(UInt8.ofNat (m*32+n)).toNat=m*32+n:=by simp;omega
  refine ⟨n,?_,by omega⟩
  simp only [List.singleton_append,List.getElem?_append_right (Nat.le_refl _),Nat.sub_self,List.getElem?_cons_zero,h1];rw [if_pos (by omega)]
  have a1:(m*32+n)/32=m:=by omega
  have a2:(m*32+n)%32=n:=by omega
  rw [a1,a2]
  rfl
 ·have e:headB m n form=UInt8.ofNat (m*32+24+lgB form n)::beB (2^lgB form n) n:=if_neg hs;have hl:=lgB_lt form n;have hfit:=lgB_fits form n hn;rw [e];generalize lgB form n=J at *
  have h1:(UInt8.ofNat (m*32+24+J)).toNat=m*32+24+J:=by simp;omega
  refine ⟨24+J,?_,by omega⟩
  simp only [List.cons_append,List.getElem?_append_right (Nat.le_refl _),Nat.sub_self,List.getElem?_cons_zero,h1];have a1:(m*32+24+J)/32=m:=by omega
  have a2:(m*32+24+J)%32=24+J:=by omega
  rw [a1,a2,if_neg (by omega),if_pos (by omega),show 24+J-24=J from by omega]
  have hlen:(pre++UInt8.ofNat (m*32+24+J)::(beB (2^J) n++post)).length=pre.length+1+2^J+post.length:=by
   simp [beB_length];omega
  rw [if_neg (by rw [hlen];omega),if_neg (by omega)]
  have hd1:List.drop (pre.length+1) (pre++UInt8.ofNat (m*32+24+J)::(beB (2^J) n++post))=beB (2^J) n++post:=by
   rw [List.drop_append,List.drop_eq_nil_of_le (by omega),List.nil_append,show pre.length+1-pre.length=1 from by omega]
   rfl
  rw [hd1,List.take_append_of_le_length (by rw [beB_length];omega),List.take_of_length_le (by rw [beB_length];omega),be_beB0 _ _ hfit]
  simp [beB_length];omega
end
section
open Go.RowKit
section
variable {w:World} {d db o c dm off:Nat} {xs:List UInt8}
def HeadFAt (w:World) (d db o c dm:Nat) (xs:List UInt8) (m ai v off':Nat) (e:Ending) (w':World):Prop:=
 e= .returned (.tuple #[.int .u8 ((m*32:Nat):Int),.int .u8 (ai:Int),.int .u64 (v:Int),.bool ((ai:Int)==31)])∧Dec w' d db o c dm xs off'∧Fr [d] w w'
theorem getHeadF (h:Dec w d db o c dm xs off) {m ai v off':Nat} (hh:hd xs off= .ok (m,ai,v,off')):
  Calls Tryz.prog 168 #[.pointer (some ⟨d,0,none⟩)] w (HeadFAt w d db o c dm xs m ai v off'):=by
 have K:=Hz (getHead h hh);clear hh;go_enter Tryz.func168,Tryz.ntmps168
 go_wp2_with fail
 refine K.out.mono ?_
 rintro e w1 ⟨rfl,hD,hf⟩;go_wp2;refine bodyPost_ret (res4 rfl _ _ _) rfl ?_
 exact ⟨rfl,hD,hf⟩
def StrAt (w:World) (d db o c dm:Nat) (xs:List UInt8) (off':Nat) (b:List UInt8) (e:Ending) (w':World):Prop:=
 ∃q n,e= .returned (.tuple #[.slice (some ⟨db,q,none⟩) b.length n,.bool false])∧b.length≤n∧Rd w' db q b∧Dec w' d db o c dm xs off'∧Fr [d] w w'
theorem parseByteString (h:Dec w d db o c dm xs off) {m ai v o1:Nat} (hh:hd xs off= .ok (m,ai,v,o1)) (hai:ai≠31) (hl:o1+v≤xs.length) {b:List UInt8} (hb:b=(xs.drop o1).take v):
  Calls Tryz.prog 129 #[.pointer (some ⟨d,0,none⟩)] w (StrAt w d db o c dm xs (o1+v) b):=by
 have K:=Hz (getHeadF h hh);have g31:((ai:Int)==31)=false:=by simp;omega
 have hm:=h.len;have hbl:b.length=v:=by rw [hb];simp;omega
 replace hh:=Hz hh;clear hai;go_enter Tryz.func129,Tryz.ntmps129
 go_wp2_with fail
 refine K.out.mono ?_
 rintro e w1 ⟨rfl,hD,hf⟩;have h0:=hD.c0;have h1:=hD.c1;have f1:=hD.f1;have hc:=hD.cap;have gv:IntKind.i64.wrap (v:Int)=(v:Int):=IntWalk.i64_in _ (by omega)
 have gs:IntKind.i64.wrap ((o1:Int)+(v:Int))=(o1:Int)+(v:Int):=IntWalk.i64_in _ (by omega)
 have g1:(0:Int)≤(o1:Int):=by omega
 have g2:(o1:Int).toNat=o1:=by omega
 have g3:(o1:Int)≤(o1:Int)+(v:Int):=by omega
 have g4:(o1:Int)+(v:Int)≤(c:Int):=by omega
 have g5:((o1:Int)+(v:Int)).toNat=o1+v:=by omega
 have g6:0≤(o1:Int)+(v:Int):=by omega
 go_wp2;by_cases hco:c=o1
 all_goals
  go_quiet (fail)
  go_wp2
  go_ret2
 ·have hv0:v=0:=by omega
  subst hv0;have hbn:b=[]:=List.eq_nil_of_length_eq_zero hbl;refine ⟨o,_,by rw [hbl];rfl,by omega,by rw [hbn];exact Rd.nil _ _ _,DecV.dec (x:=(o1:Int)+((0:Nat):Int)) ?_ _ (by omega) (by omega),Fr.trans hf ?_⟩
  ·repeat (first|with_reducible exact hD.v|with_reducible apply DecV.set|with_reducible apply DecV.drewN)
  ·repeat (first|with_reducible exact Fr.refl _ _|with_reducible refine Fr.setCell ?_ (by simp) _|with_reducible refine Fr.drewN ?_ _)
 ·have hD2:Dec ((w1.drewN nq).setCell ⟨d,1,none⟩ (.int .i64 ((o1:Int)+(v:Int)))) d db o c dm xs (o1+v):=by
   refine DecV.dec (x:=(o1:Int)+(v:Int)) ?_ _ (by omega) (by omega)
   repeat (first|with_reducible exact hD.v|with_reducible apply DecV.set|with_reducible apply DecV.drewN)
  refine ⟨o+o1,_,by rw [hbl];rfl,by omega,?_,hD2,Fr.trans hf ?_⟩
  ·rw [hb];exact (hD2.rd.drop o1).take v
  ·repeat (first|with_reducible exact Fr.refl _ _|with_reducible refine Fr.setCell ?_ (by simp) _|with_reducible refine Fr.drewN ?_ _)
end
end
end Go.Proofs.YteodinhkhhaafaaGreatDoor
