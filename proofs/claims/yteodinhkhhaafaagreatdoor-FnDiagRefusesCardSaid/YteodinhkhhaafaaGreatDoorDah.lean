/- Walks of the program, and plain facts. -/
import Derived.Test.YteodinhkhhaafaaGreatDoorDag
set_option linter.unusedVariables false
set_option linter.unusedSimpArgs false
set_option maxRecDepth 100000
set_option maxHeartbeats 6400000
namespace Go.Proofs.YteodinhkhhaafaaGreatDoor
section
open Go.RowKit
theorem wrap_neg (v:Nat) (h:9223372036854775808≤v) (h2:v<18446744073709551616): ∃z:Int,IntKind.i64.wrap (v:Int)=z∧z<0:=by
 refine ⟨_,rfl,?_⟩
 rw [IntKind.wrap_i64];omega
theorem wrap_pos (v:Nat) (h: ¬9223372036854775808≤v):IntKind.i64.wrap (v:Int)=(v:Int):=by
 rw [IntKind.wrap_i64];omega
theorem err16 (s:ByteArray) (h:14<s.size):ErrV 16 (.iface 141 (.string s)):=by
 unfold ErrV
 rw [if_neg (by omega),if_neg (by omega),if_pos rfl]
 refine ⟨s,rfl,?_,?_⟩
 ·rintro rfl;exact absurd h (by decide)
 ·rintro rfl;exact absurd h (by decide)
theorem size_last (a b:ByteArray) (h:14<b.size):14<(a++b).size:=by rw [ByteArray.size_append];omega
theorem be_lt: ∀(l:List UInt8),be l<256^l.length:=by
 intro l
 unfold be
 have key: ∀(l:List UInt8) (a n:Nat),a<256^n→l.foldl (fun a b=>a*256+b.toNat) a<256^(n+l.length):=by
  intro l
  induction l with
  |nil=>intro a n h;simpa using h
  |cons b l ih=>
   intro a n h
   have hb:=u8lt b
   have:=ih (a*256+b.toNat) (n+1) (by rw [Nat.pow_succ];omega)
   simpa [Nat.add_assoc,Nat.add_comm 1] using this
 simpa using key l 0 0 (by simp)
theorem hd_val {xs:List UInt8} {off m ai v o:Nat} (h:hd xs off= .ok (m,ai,v,o)):v<18446744073709551616∧o≤xs.length:=by
 unfold hd at h
 split at h
 ·cases h
 ·rename_i b e
  obtain ⟨hl,rfl⟩:=getElem?_lt e
  have hb:=u8lt xs[off]
  split at h
  ·cases h;omega
  ·split at h
   ·split at h
    ·cases h
    ·split at h
     ·cases h
     ·rename_i h24 h28 hlen hs
      have h4:xs[off].toNat%32=24∨xs[off].toNat%32=25∨xs[off].toNat%32=26∨xs[off].toNat%32=27:=by omega
      rcases h4 with h4|h4|h4|h4<;>rw [h4] at h hlen<;>simp only [Nat.reduceSub,Nat.reducePow] at h hlen<;>cases h<;>refine ⟨?_,by omega⟩
      ·exact Nat.lt_of_lt_of_le (be_lt _) (by simp;exact Nat.le_trans (Nat.pow_le_pow_right (by omega) (Nat.min_le_left _ _)) (by decide))
      ·exact Nat.lt_of_lt_of_le (be_lt _) (by simp;exact Nat.le_trans (Nat.pow_le_pow_right (by omega) (Nat.min_le_left _ _)) (by decide))
      ·exact Nat.lt_of_lt_of_le (be_lt _) (by simp;exact Nat.le_trans (Nat.pow_le_pow_right (by omega) (Nat.min_le_left _ _)) (by decide))
      ·exact Nat.lt_of_lt_of_le (be_lt _) (by simp;exact Nat.le_trans (Nat.pow_le_pow_right (by omega) (Nat.min_le_left _ _)) (by decide))
   ·split at h
    ·split at h
     ·cases h
     ·cases h;omega
    ·cases h
section
variable {w:World} {d db o c dm off dep:Nat} {L:Lim} {xs:List UInt8}
theorem item_err (h:Dec w d db o c dm xs off) (hM:DecM w dm L.nest L.el L.pa) (hmd:dm≠d) {k:Nat} (hh:hd xs off= .error k):
  Calls Tryz.prog 114 #[.pointer (some ⟨d,0,none⟩),.int .i64 (dep:Int),.bool false] w (WPost w d db o c dm xs (.error k)):=by
 have KI:=ihead h hM hmd
 rw [hh] at KI
 replace KI:=Hz KI
 clear hh
 go_enter Tryz.func114,Tryz.ntmps114
 go_wp2_with fail
 refine KI.out.mono ?_
 rintro e w1 ⟨v,rfl,hv,hu,hf⟩
 obtain ⟨t,x,rfl⟩:=hv.iface
 go_wp2
 go_ret2
 exact ⟨_,rfl,hv,hu,hf⟩
theorem item_int0 (h:Dec w d db o c dm xs off) (hM:DecM w dm L.nest L.el L.pa) (hmd:dm≠d) (hdep:dep≤65535) {ai v o1:Nat} (hh:hd xs off= .ok (0,ai,v,o1)):
  Calls Tryz.prog 114 #[.pointer (some ⟨d,0,none⟩),.int .i64 (dep:Int),.bool false] w (WPost w d db o c dm xs (.ok (dep,o1))):=by
 have KI:=ihead h hM hmd
 rw [hh] at KI
 have hv:=hd_val hh
 have hm:=h.len
 have n3: ¬dm=d:=hmd
 have n4: ¬d=dm:=fun e=>hmd e.symm
 have g0:((ai:Int)==31)=false:=by have:=(hd_off hh).2.2.2;simp;omega
 replace KI:=Hz KI
 replace hh:=Hz hh
 clear hv
 go_enter Tryz.func114,Tryz.ntmps114
 go_wp2_with fail
 refine KI.out.mono ?_
 rintro e w1 ⟨rfl,hD,hf⟩
 have hM1:=hM.fr hf (by simpa using hmd)
 have k0:=hD.c0
 have k1:=hD.c1
 have k2:=hD.c2
 have kf:=hD.f1
 have m1:w1.cell? ⟨dm,1,none⟩=some (.int .i64 (L.nest:Int)):=hM1.cell 1
 have m2:w1.cell? ⟨dm,2,none⟩=some (.int .i64 (L.el:Int)):=hM1.cell 2
 have m3:w1.cell? ⟨dm,3,none⟩=some (.int .i64 (L.pa:Int)):=hM1.cell 3
 have m4:w1.cell? ⟨dm,4,none⟩=some (.int .i64 0):=hM1.cell 4
 have m5:w1.cell? ⟨dm,5,none⟩=some (.int .i64 0):=hM1.cell 5
 have m11:w1.cell? ⟨dm,11,none⟩=some (.pointer none):=hM1.cell 11
 have m14:w1.cell? ⟨dm,14,none⟩=some (.int .i64 0):=hM1.cell 14
 go_wp2
 go_ret2
 exact ⟨rfl,hD,hf⟩
theorem item_int1 (h:Dec w d db o c dm xs off) (hM:DecM w dm L.nest L.el L.pa) (hmd:dm≠d) (hdep:dep≤65535) {ai v o1:Nat} (hh:hd xs off= .ok (1,ai,v,o1)):
  Calls Tryz.prog 114 #[.pointer (some ⟨d,0,none⟩),.int .i64 (dep:Int),.bool false] w (WPost w d db o c dm xs (.ok (dep,o1))):=by
 have KI:=ihead h hM hmd
 rw [hh] at KI
 have hv:=hd_val hh
 have hm:=h.len
 have n3: ¬dm=d:=hmd
 have n4: ¬d=dm:=fun e=>hmd e.symm
 have g0:((ai:Int)==31)=false:=by have:=(hd_off hh).2.2.2;simp;omega
 replace KI:=Hz KI
 replace hh:=Hz hh
 clear hv
 go_enter Tryz.func114,Tryz.ntmps114
 go_wp2_with fail
 refine KI.out.mono ?_
 rintro e w1 ⟨rfl,hD,hf⟩
 have hM1:=hM.fr hf (by simpa using hmd)
 have k0:=hD.c0
 have k1:=hD.c1
 have k2:=hD.c2
 have kf:=hD.f1
 have m1:w1.cell? ⟨dm,1,none⟩=some (.int .i64 (L.nest:Int)):=hM1.cell 1
 have m2:w1.cell? ⟨dm,2,none⟩=some (.int .i64 (L.el:Int)):=hM1.cell 2
 have m3:w1.cell? ⟨dm,3,none⟩=some (.int .i64 (L.pa:Int)):=hM1.cell 3
 have m4:w1.cell? ⟨dm,4,none⟩=some (.int .i64 0):=hM1.cell 4
 have m5:w1.cell? ⟨dm,5,none⟩=some (.int .i64 0):=hM1.cell 5
 have m11:w1.cell? ⟨dm,11,none⟩=some (.pointer none):=hM1.cell 11
 have m14:w1.cell? ⟨dm,14,none⟩=some (.int .i64 0):=hM1.cell 14
 go_wp2
 go_ret2
 exact ⟨rfl,hD,hf⟩
theorem item_prim (h:Dec w d db o c dm xs off) (hM:DecM w dm L.nest L.el L.pa) (hmd:dm≠d) (hdep:dep≤65535) {ai v o1:Nat} (hh:hd xs off= .ok (7,ai,v,o1)):
  Calls Tryz.prog 114 #[.pointer (some ⟨d,0,none⟩),.int .i64 (dep:Int),.bool false] w (WPost w d db o c dm xs (.ok (dep,o1))):=by
 have KI:=ihead h hM hmd
 rw [hh] at KI
 have hv:=hd_val hh
 have hm:=h.len
 have n3: ¬dm=d:=hmd
 have n4: ¬d=dm:=fun e=>hmd e.symm
 have g0:((ai:Int)==31)=false:=by have:=(hd_off hh).2.2.2;simp;omega
 replace KI:=Hz KI
 replace hh:=Hz hh
 clear hv
 go_enter Tryz.func114,Tryz.ntmps114
 go_wp2_with fail
 refine KI.out.mono ?_
 rintro e w1 ⟨rfl,hD,hf⟩
 have hM1:=hM.fr hf (by simpa using hmd)
 have k0:=hD.c0
 have k1:=hD.c1
 have k2:=hD.c2
 have kf:=hD.f1
 have m1:w1.cell? ⟨dm,1,none⟩=some (.int .i64 (L.nest:Int)):=hM1.cell 1
 have m2:w1.cell? ⟨dm,2,none⟩=some (.int .i64 (L.el:Int)):=hM1.cell 2
 have m3:w1.cell? ⟨dm,3,none⟩=some (.int .i64 (L.pa:Int)):=hM1.cell 3
 have m4:w1.cell? ⟨dm,4,none⟩=some (.int .i64 0):=hM1.cell 4
 have m5:w1.cell? ⟨dm,5,none⟩=some (.int .i64 0):=hM1.cell 5
 have m11:w1.cell? ⟨dm,11,none⟩=some (.pointer none):=hM1.cell 11
 have m14:w1.cell? ⟨dm,14,none⟩=some (.int .i64 0):=hM1.cell 14
 by_cases g24:(ai:Int)≤24
 all_goals
  go_wp2
  go_ret2
  exact ⟨rfl,hD,hf⟩
theorem item_str_short2 (h:Dec w d db o c dm xs off) (hM:DecM w dm L.nest L.el L.pa) (hmd:dm≠d) (hdep:dep≤65535) {ai v o1:Nat} (hh:hd xs off= .ok (2,ai,v,o1)) (h31:ai≠31) (h63: ¬9223372036854775808≤v) (hs:xs.length-o1<v):
  Calls Tryz.prog 114 #[.pointer (some ⟨d,0,none⟩),.int .i64 (dep:Int),.bool false] w (WPost w d db o c dm xs (.error 2)):=by
 have KI:=ihead h hM hmd
 rw [hh] at KI
 have hv:=hd_val hh
 have hm:=h.len
 have n3: ¬dm=d:=hmd
 have n4: ¬d=dm:=fun e=>hmd e.symm
 have g0:((ai:Int)==31)=false:=by simp;omega
 have g1:=wrap_pos v h63
 have g2:(xs.length:Int)-(o1:Int)<(v:Int):=by omega
 have g3:IntKind.i64.wrap ((xs.length:Int)-(o1:Int))=(xs.length:Int)-(o1:Int):=IntWalk.i64_in _ (by omega)
 have g4:(o1:Int)≤(xs.length:Int):=by omega
 clear h63
 replace KI:=Hz KI
 replace hh:=Hz hh
 clear hv
 go_enter Tryz.func114,Tryz.ntmps114
 go_wp2_with fail
 refine KI.out.mono ?_
 rintro e w1 ⟨rfl,hD,hf⟩
 have hM1:=hM.fr hf (by simpa using hmd)
 have k0:=hD.c0
 have k1:=hD.c1
 have k2:=hD.c2
 have kf:=hD.f1
 have m1:w1.cell? ⟨dm,1,none⟩=some (.int .i64 (L.nest:Int)):=hM1.cell 1
 have m2:w1.cell? ⟨dm,2,none⟩=some (.int .i64 (L.el:Int)):=hM1.cell 2
 have m3:w1.cell? ⟨dm,3,none⟩=some (.int .i64 (L.pa:Int)):=hM1.cell 3
 have m4:w1.cell? ⟨dm,4,none⟩=some (.int .i64 0):=hM1.cell 4
 have m5:w1.cell? ⟨dm,5,none⟩=some (.int .i64 0):=hM1.cell 5
 have m11:w1.cell? ⟨dm,11,none⟩=some (.pointer none):=hM1.cell 11
 have m14:w1.cell? ⟨dm,14,none⟩=some (.int .i64 0):=hM1.cell 14
 go_wp2
 go_quiet (fail)
 go_wp2
 go_ret2
 refine ⟨_,rfl,rfl,?_,hf.trans ?_⟩
 ·apply Exists.intro
  repeat (first|with_reducible exact hD.v|with_reducible apply DecV.set|with_reducible apply DecV.drewN|with_reducible apply DecV.alloc|with_reducible apply DecV.drew)
 ·repeat (first|with_reducible exact Fr.refl _ _|with_reducible refine Fr.setCell ?_ (by simp) _|with_reducible refine Fr.drewN ?_ _|with_reducible refine Fr.alloc ?_ _|with_reducible refine Fr.drew ?_)
theorem item_str2 (h:Dec w d db o c dm xs off) (hM:DecM w dm L.nest L.el L.pa) (hmd:dm≠d) (hdep:dep≤65535) {ai v o1:Nat} (hh:hd xs off= .ok (2,ai,v,o1)) (h31:ai≠31) (hs: ¬xs.length-o1<v):
  Calls Tryz.prog 114 #[.pointer (some ⟨d,0,none⟩),.int .i64 (dep:Int),.bool false] w (WPost w d db o c dm xs (.ok (dep,o1+v))):=by
 have KI:=ihead h hM hmd
 rw [hh] at KI
 have hv:=hd_val hh
 have hm:=h.len
 have n3: ¬dm=d:=hmd
 have n4: ¬d=dm:=fun e=>hmd e.symm
 have g0:((ai:Int)==31)=false:=by simp;omega
 have g1:=wrap_pos v (by omega)
 have g2: ¬(xs.length:Int)-(o1:Int)<(v:Int):=by omega
 have g3:IntKind.i64.wrap ((xs.length:Int)-(o1:Int))=(xs.length:Int)-(o1:Int):=IntWalk.i64_in _ (by omega)
 have g4:(o1:Int)≤(xs.length:Int):=by omega
 have g5:o1+v≤xs.length:=by omega
 replace KI:=Hz KI
 replace hh:=Hz hh
 clear hv
 go_enter Tryz.func114,Tryz.ntmps114
 go_wp2_with fail
 refine KI.out.mono ?_
 rintro e w1 ⟨rfl,hD,hf⟩
 have hM1:=hM.fr hf (by simpa using hmd)
 have k0:=hD.c0
 have k1:=hD.c1
 have k2:=hD.c2
 have kf:=hD.f1
 have m1:w1.cell? ⟨dm,1,none⟩=some (.int .i64 (L.nest:Int)):=hM1.cell 1
 have m2:w1.cell? ⟨dm,2,none⟩=some (.int .i64 (L.el:Int)):=hM1.cell 2
 have m3:w1.cell? ⟨dm,3,none⟩=some (.int .i64 (L.pa:Int)):=hM1.cell 3
 have m4:w1.cell? ⟨dm,4,none⟩=some (.int .i64 0):=hM1.cell 4
 have m5:w1.cell? ⟨dm,5,none⟩=some (.int .i64 0):=hM1.cell 5
 have m11:w1.cell? ⟨dm,11,none⟩=some (.pointer none):=hM1.cell 11
 have m14:w1.cell? ⟨dm,14,none⟩=some (.int .i64 0):=hM1.cell 14
 go_wp2
 go_quiet (fail)
 go_wp2
 go_ret2
 refine ⟨rfl,DecV.dec (x:=(o1:Int)+(v:Int)) ?_ _ (by omega) (by omega),hf.trans ?_⟩
 ·repeat (first|with_reducible exact hD.v|with_reducible apply DecV.set|with_reducible apply DecV.drewN|with_reducible apply DecV.alloc|with_reducible apply DecV.drew)
 ·repeat (first|with_reducible exact Fr.refl _ _|with_reducible refine Fr.setCell ?_ (by simp) _|with_reducible refine Fr.drewN ?_ _|with_reducible refine Fr.alloc ?_ _|with_reducible refine Fr.drew ?_)
theorem item_str_neg2 (h:Dec w d db o c dm xs off) (hM:DecM w dm L.nest L.el L.pa) (hmd:dm≠d) (hdep:dep≤65535) {ai v o1:Nat} (hh:hd xs off= .ok (2,ai,v,o1)) (h31:ai≠31) (h63:9223372036854775808≤v):
  Calls Tryz.prog 114 #[.pointer (some ⟨d,0,none⟩),.int .i64 (dep:Int),.bool false] w (WPost w d db o c dm xs (.error 16)):=by
 have KI:=ihead h hM hmd
 rw [hh] at KI
 have hv:=hd_val hh
 have hm:=h.len
 have n3: ¬dm=d:=hmd
 have n4: ¬d=dm:=fun e=>hmd e.symm
 have g0:((ai:Int)==31)=false:=by simp;omega
 obtain ⟨z,g1,g2⟩:=wrap_neg v h63 hv.1
 have K1:=Hz (typeName 2 (by omega))
 have K2:=Hz (formatUint v hv.1)
 have K3:=dec_length v 20 (by omega) (by omega)
 clear h63
 replace KI:=Hz KI
 replace hh:=Hz hh
 clear hv
 go_enter Tryz.func114,Tryz.ntmps114
 go_wp2_with fail
 refine KI.out.mono ?_
 rintro e w1 ⟨rfl,hD,hf⟩
 have hM1:=hM.fr hf (by simpa using hmd)
 have k0:=hD.c0
 have k1:=hD.c1
 have k2:=hD.c2
 have kf:=hD.f1
 have m1:w1.cell? ⟨dm,1,none⟩=some (.int .i64 (L.nest:Int)):=hM1.cell 1
 have m2:w1.cell? ⟨dm,2,none⟩=some (.int .i64 (L.el:Int)):=hM1.cell 2
 have m3:w1.cell? ⟨dm,3,none⟩=some (.int .i64 (L.pa:Int)):=hM1.cell 3
 have m4:w1.cell? ⟨dm,4,none⟩=some (.int .i64 0):=hM1.cell 4
 have m5:w1.cell? ⟨dm,5,none⟩=some (.int .i64 0):=hM1.cell 5
 have m11:w1.cell? ⟨dm,11,none⟩=some (.pointer none):=hM1.cell 11
 have m14:w1.cell? ⟨dm,14,none⟩=some (.int .i64 0):=hM1.cell 14
 go_wp2_with fail
 refine (K1.out _).mono ?_
 rintro e w2 ⟨s1,rfl,hs1,rfl⟩
 go_wp2_with fail
 refine (K2.out _).mono ?_
 rintro e w3 ⟨rfl,hf9⟩
 go_wp2
 go_ret2
 refine ⟨_,rfl,err16 _ (size_last _ _ (by decide)),?_,hf.trans ?_⟩
 ·apply Exists.intro
  repeat (first|with_reducible exact hD.v|with_reducible apply DecV.set|with_reducible apply DecV.drewN|with_reducible apply DecV.alloc|with_reducible apply DecV.drew|with_reducible apply DecV.fr0 hf9)
 ·repeat (first|with_reducible exact Fr.refl _ _|with_reducible refine Fr.setCell ?_ (by simp) _|with_reducible refine Fr.drewN ?_ _|with_reducible refine Fr.alloc ?_ _|with_reducible refine Fr.drew ?_|with_reducible refine Fr.then0 ?_ hf9)
theorem item_chunks2 (h:Dec w d db o c dm xs off) (hM:DecM w dm L.nest L.el L.pa) (hmd:dm≠d) (hdep:dep≤65535) {v o1 f:Nat} (hn:L.nest≤65535) (IH: ∀g,g<f→Item L xs g) (r:Except Nat (Nat×Nat)) (hh:hd xs off= .ok (2,31,v,o1)) (hr:wfS L xs f 2 o1 dep=some r):
  Calls Tryz.prog 114 #[.pointer (some ⟨d,0,none⟩),.int .i64 (dep:Int),.bool false] w (WPost w d db o c dm xs r):=by
 have KI:=ihead h hM hmd
 rw [hh] at KI
 have hv:=hd_val hh
 have hm:=h.len
 have n3: ¬dm=d:=hmd
 have n4: ¬d=dm:=fun e=>hmd e.symm
 replace hr:=Hz hr
 replace IH:=Hz IH
 replace KI:=Hz KI
 replace hh:=Hz hh
 clear hv
 go_enter Tryz.func114,Tryz.ntmps114
 go_wp2_with fail
 refine KI.out.mono ?_
 rintro e w1 ⟨rfl,hD,hf⟩
 have hM1:=hM.fr hf (by simpa using hmd)
 have k0:=hD.c0
 have k1:=hD.c1
 have k2:=hD.c2
 have kf:=hD.f1
 have m1:w1.cell? ⟨dm,1,none⟩=some (.int .i64 (L.nest:Int)):=hM1.cell 1
 have m2:w1.cell? ⟨dm,2,none⟩=some (.int .i64 (L.el:Int)):=hM1.cell 2
 have m3:w1.cell? ⟨dm,3,none⟩=some (.int .i64 (L.pa:Int)):=hM1.cell 3
 have m4:w1.cell? ⟨dm,4,none⟩=some (.int .i64 0):=hM1.cell 4
 have m5:w1.cell? ⟨dm,5,none⟩=some (.int .i64 0):=hM1.cell 5
 have m11:w1.cell? ⟨dm,11,none⟩=some (.pointer none):=hM1.cell 11
 have m14:w1.cell? ⟨dm,14,none⟩=some (.int .i64 0):=hM1.cell 14
 have K:=Hz (chunks_any hn f IH.out 2 (by omega) dep r hD hM1 hmd hdep hr.out)
 go_wp2_with fail
 refine K.out.mono ?_
 rintro e w2 h2
 rcases r with k|⟨D,o'⟩
 ·obtain ⟨v2,rfl,hv2,hu2,hf2⟩:=h2
  go_wp2
  go_ret2
  exact ⟨_,rfl,hv2,hu2,hf.trans hf2⟩
 ·obtain ⟨rfl,hD2,hf2⟩:=h2
  go_wp2
  go_ret2
  exact ⟨rfl,hD2,hf.trans hf2⟩
theorem item_str_short3 (h:Dec w d db o c dm xs off) (hM:DecM w dm L.nest L.el L.pa) (hmd:dm≠d) (hdep:dep≤65535) {ai v o1:Nat} (hh:hd xs off= .ok (3,ai,v,o1)) (h31:ai≠31) (h63: ¬9223372036854775808≤v) (hs:xs.length-o1<v):
  Calls Tryz.prog 114 #[.pointer (some ⟨d,0,none⟩),.int .i64 (dep:Int),.bool false] w (WPost w d db o c dm xs (.error 2)):=by
 have KI:=ihead h hM hmd
 rw [hh] at KI
 have hv:=hd_val hh
 have hm:=h.len
 have n3: ¬dm=d:=hmd
 have n4: ¬d=dm:=fun e=>hmd e.symm
 have g0:((ai:Int)==31)=false:=by simp;omega
 have g1:=wrap_pos v h63
 have g2:(xs.length:Int)-(o1:Int)<(v:Int):=by omega
 have g3:IntKind.i64.wrap ((xs.length:Int)-(o1:Int))=(xs.length:Int)-(o1:Int):=IntWalk.i64_in _ (by omega)
 have g4:(o1:Int)≤(xs.length:Int):=by omega
 clear h63
 replace KI:=Hz KI
 replace hh:=Hz hh
 clear hv
 go_enter Tryz.func114,Tryz.ntmps114
 go_wp2_with fail
 refine KI.out.mono ?_
 rintro e w1 ⟨rfl,hD,hf⟩
 have hM1:=hM.fr hf (by simpa using hmd)
 have k0:=hD.c0
 have k1:=hD.c1
 have k2:=hD.c2
 have kf:=hD.f1
 have m1:w1.cell? ⟨dm,1,none⟩=some (.int .i64 (L.nest:Int)):=hM1.cell 1
 have m2:w1.cell? ⟨dm,2,none⟩=some (.int .i64 (L.el:Int)):=hM1.cell 2
 have m3:w1.cell? ⟨dm,3,none⟩=some (.int .i64 (L.pa:Int)):=hM1.cell 3
 have m4:w1.cell? ⟨dm,4,none⟩=some (.int .i64 0):=hM1.cell 4
 have m5:w1.cell? ⟨dm,5,none⟩=some (.int .i64 0):=hM1.cell 5
 have m11:w1.cell? ⟨dm,11,none⟩=some (.pointer none):=hM1.cell 11
 have m14:w1.cell? ⟨dm,14,none⟩=some (.int .i64 0):=hM1.cell 14
 go_wp2
 go_quiet (fail)
 go_wp2
 go_ret2
 refine ⟨_,rfl,rfl,?_,hf.trans ?_⟩
 ·apply Exists.intro
  repeat (first|with_reducible exact hD.v|with_reducible apply DecV.set|with_reducible apply DecV.drewN|with_reducible apply DecV.alloc|with_reducible apply DecV.drew)
 ·repeat (first|with_reducible exact Fr.refl _ _|with_reducible refine Fr.setCell ?_ (by simp) _|with_reducible refine Fr.drewN ?_ _|with_reducible refine Fr.alloc ?_ _|with_reducible refine Fr.drew ?_)
theorem item_str3 (h:Dec w d db o c dm xs off) (hM:DecM w dm L.nest L.el L.pa) (hmd:dm≠d) (hdep:dep≤65535) {ai v o1:Nat} (hh:hd xs off= .ok (3,ai,v,o1)) (h31:ai≠31) (hs: ¬xs.length-o1<v):
  Calls Tryz.prog 114 #[.pointer (some ⟨d,0,none⟩),.int .i64 (dep:Int),.bool false] w (WPost w d db o c dm xs (.ok (dep,o1+v))):=by
 have KI:=ihead h hM hmd
 rw [hh] at KI
 have hv:=hd_val hh
 have hm:=h.len
 have n3: ¬dm=d:=hmd
 have n4: ¬d=dm:=fun e=>hmd e.symm
 have g0:((ai:Int)==31)=false:=by simp;omega
 have g1:=wrap_pos v (by omega)
 have g2: ¬(xs.length:Int)-(o1:Int)<(v:Int):=by omega
 have g3:IntKind.i64.wrap ((xs.length:Int)-(o1:Int))=(xs.length:Int)-(o1:Int):=IntWalk.i64_in _ (by omega)
 have g4:(o1:Int)≤(xs.length:Int):=by omega
 have g5:o1+v≤xs.length:=by omega
 replace KI:=Hz KI
 replace hh:=Hz hh
 clear hv
 go_enter Tryz.func114,Tryz.ntmps114
 go_wp2_with fail
 refine KI.out.mono ?_
 rintro e w1 ⟨rfl,hD,hf⟩
 have hM1:=hM.fr hf (by simpa using hmd)
 have k0:=hD.c0
 have k1:=hD.c1
 have k2:=hD.c2
 have kf:=hD.f1
 have m1:w1.cell? ⟨dm,1,none⟩=some (.int .i64 (L.nest:Int)):=hM1.cell 1
 have m2:w1.cell? ⟨dm,2,none⟩=some (.int .i64 (L.el:Int)):=hM1.cell 2
 have m3:w1.cell? ⟨dm,3,none⟩=some (.int .i64 (L.pa:Int)):=hM1.cell 3
 have m4:w1.cell? ⟨dm,4,none⟩=some (.int .i64 0):=hM1.cell 4
 have m5:w1.cell? ⟨dm,5,none⟩=some (.int .i64 0):=hM1.cell 5
 have m11:w1.cell? ⟨dm,11,none⟩=some (.pointer none):=hM1.cell 11
 have m14:w1.cell? ⟨dm,14,none⟩=some (.int .i64 0):=hM1.cell 14
 go_wp2
 go_quiet (fail)
 go_wp2
 go_ret2
 refine ⟨rfl,DecV.dec (x:=(o1:Int)+(v:Int)) ?_ _ (by omega) (by omega),hf.trans ?_⟩
 ·repeat (first|with_reducible exact hD.v|with_reducible apply DecV.set|with_reducible apply DecV.drewN|with_reducible apply DecV.alloc|with_reducible apply DecV.drew)
 ·repeat (first|with_reducible exact Fr.refl _ _|with_reducible refine Fr.setCell ?_ (by simp) _|with_reducible refine Fr.drewN ?_ _|with_reducible refine Fr.alloc ?_ _|with_reducible refine Fr.drew ?_)
theorem item_str_neg3 (h:Dec w d db o c dm xs off) (hM:DecM w dm L.nest L.el L.pa) (hmd:dm≠d) (hdep:dep≤65535) {ai v o1:Nat} (hh:hd xs off= .ok (3,ai,v,o1)) (h31:ai≠31) (h63:9223372036854775808≤v):
  Calls Tryz.prog 114 #[.pointer (some ⟨d,0,none⟩),.int .i64 (dep:Int),.bool false] w (WPost w d db o c dm xs (.error 16)):=by
 have KI:=ihead h hM hmd
 rw [hh] at KI
 have hv:=hd_val hh
 have hm:=h.len
 have n3: ¬dm=d:=hmd
 have n4: ¬d=dm:=fun e=>hmd e.symm
 have g0:((ai:Int)==31)=false:=by simp;omega
 obtain ⟨z,g1,g2⟩:=wrap_neg v h63 hv.1
 have K1:=Hz (typeName 3 (by omega))
 have K2:=Hz (formatUint v hv.1)
 have K3:=dec_length v 20 (by omega) (by omega)
 clear h63
 replace KI:=Hz KI
 replace hh:=Hz hh
 clear hv
 go_enter Tryz.func114,Tryz.ntmps114
 go_wp2_with fail
 refine KI.out.mono ?_
 rintro e w1 ⟨rfl,hD,hf⟩
 have hM1:=hM.fr hf (by simpa using hmd)
 have k0:=hD.c0
 have k1:=hD.c1
 have k2:=hD.c2
 have kf:=hD.f1
 have m1:w1.cell? ⟨dm,1,none⟩=some (.int .i64 (L.nest:Int)):=hM1.cell 1
 have m2:w1.cell? ⟨dm,2,none⟩=some (.int .i64 (L.el:Int)):=hM1.cell 2
 have m3:w1.cell? ⟨dm,3,none⟩=some (.int .i64 (L.pa:Int)):=hM1.cell 3
 have m4:w1.cell? ⟨dm,4,none⟩=some (.int .i64 0):=hM1.cell 4
 have m5:w1.cell? ⟨dm,5,none⟩=some (.int .i64 0):=hM1.cell 5
 have m11:w1.cell? ⟨dm,11,none⟩=some (.pointer none):=hM1.cell 11
 have m14:w1.cell? ⟨dm,14,none⟩=some (.int .i64 0):=hM1.cell 14
 go_wp2_with fail
 refine (K1.out _).mono ?_
 rintro e w2 ⟨s1,rfl,hs1,rfl⟩
 go_wp2_with fail
 refine (K2.out _).mono ?_
 rintro e w3 ⟨rfl,hf9⟩
 go_wp2
 go_ret2
 refine ⟨_,rfl,err16 _ (size_last _ _ (by decide)),?_,hf.trans ?_⟩
 ·apply Exists.intro
  repeat (first|with_reducible exact hD.v|with_reducible apply DecV.set|with_reducible apply DecV.drewN|with_reducible apply DecV.alloc|with_reducible apply DecV.drew|with_reducible apply DecV.fr0 hf9)
 ·repeat (first|with_reducible exact Fr.refl _ _|with_reducible refine Fr.setCell ?_ (by simp) _|with_reducible refine Fr.drewN ?_ _|with_reducible refine Fr.alloc ?_ _|with_reducible refine Fr.drew ?_|with_reducible refine Fr.then0 ?_ hf9)
theorem item_chunks3 (h:Dec w d db o c dm xs off) (hM:DecM w dm L.nest L.el L.pa) (hmd:dm≠d) (hdep:dep≤65535) {v o1 f:Nat} (hn:L.nest≤65535) (IH: ∀g,g<f→Item L xs g) (r:Except Nat (Nat×Nat)) (hh:hd xs off= .ok (3,31,v,o1)) (hr:wfS L xs f 3 o1 dep=some r):
  Calls Tryz.prog 114 #[.pointer (some ⟨d,0,none⟩),.int .i64 (dep:Int),.bool false] w (WPost w d db o c dm xs r):=by
 have KI:=ihead h hM hmd
 rw [hh] at KI
 have hv:=hd_val hh
 have hm:=h.len
 have n3: ¬dm=d:=hmd
 have n4: ¬d=dm:=fun e=>hmd e.symm
 replace hr:=Hz hr
 replace IH:=Hz IH
 replace KI:=Hz KI
 replace hh:=Hz hh
 clear hv
 go_enter Tryz.func114,Tryz.ntmps114
 go_wp2_with fail
 refine KI.out.mono ?_
 rintro e w1 ⟨rfl,hD,hf⟩
 have hM1:=hM.fr hf (by simpa using hmd)
 have k0:=hD.c0
 have k1:=hD.c1
 have k2:=hD.c2
 have kf:=hD.f1
 have m1:w1.cell? ⟨dm,1,none⟩=some (.int .i64 (L.nest:Int)):=hM1.cell 1
 have m2:w1.cell? ⟨dm,2,none⟩=some (.int .i64 (L.el:Int)):=hM1.cell 2
 have m3:w1.cell? ⟨dm,3,none⟩=some (.int .i64 (L.pa:Int)):=hM1.cell 3
 have m4:w1.cell? ⟨dm,4,none⟩=some (.int .i64 0):=hM1.cell 4
 have m5:w1.cell? ⟨dm,5,none⟩=some (.int .i64 0):=hM1.cell 5
 have m11:w1.cell? ⟨dm,11,none⟩=some (.pointer none):=hM1.cell 11
 have m14:w1.cell? ⟨dm,14,none⟩=some (.int .i64 0):=hM1.cell 14
 have K:=Hz (chunks_any hn f IH.out 3 (by omega) dep r hD hM1 hmd hdep hr.out)
 go_wp2_with fail
 refine K.out.mono ?_
 rintro e w2 h2
 rcases r with k|⟨D,o'⟩
 ·obtain ⟨v2,rfl,hv2,hu2,hf2⟩:=h2
  go_wp2
  go_ret2
  exact ⟨_,rfl,hv2,hu2,hf.trans hf2⟩
 ·obtain ⟨rfl,hD2,hf2⟩:=h2
  go_wp2
  go_ret2
  exact ⟨rfl,hD2,hf.trans hf2⟩
end
end
end Go.Proofs.YteodinhkhhaafaaGreatDoor
