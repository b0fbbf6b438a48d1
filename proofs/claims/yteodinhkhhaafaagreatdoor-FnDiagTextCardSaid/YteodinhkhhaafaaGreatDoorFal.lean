/- Walks of the program, and plain facts. -/
import Derived.Test.YteodinhkhhaafaaGreatDoorFak
set_option linter.unusedVariables false
set_option linter.unusedSimpArgs false
set_option maxRecDepth 100000
set_option maxHeartbeats 6400000
namespace Go.Proofs.YteodinhkhhaafaaGreatDoor
section
open Go.RowKit
section
variable {w:World} {d db o c dm off n el pa:Nat} {xs:List UInt8}
theorem whead_31_2 (h:Dec w d db o c dm xs off) (hM:DecM w dm n el pa) (hmd:dm≠d) (hl:off<xs.length) (hk:xs[off].toNat%32=31) (hmt:xs[off].toNat/32=2):
  Calls Tryz.prog 159 #[.pointer (some ⟨d,0,none⟩)] w (WHead w d db o c dm xs (.ok (2,31,31,off+1))):=by
 have h0:=h.c0;have h1:=h.c1;have f1:=h.f1;have ha:=h.at_ off (by omega)
 have hm:=h.len;have hc:=h.cap;have n1: ¬db=d:=h.ne;have n2: ¬d=db:=fun e=>h.ne e.symm
 have z0:((xs.length:Int)-(off:Int)==0)=false:=by simp;omega
 have w0:IntKind.i64.wrap ((xs.length:Int)-(off:Int))=(xs.length:Int)-(off:Int):=IntWalk.i64_in _ (by omega)
 have K:=parseInitialByte (xs[off]'(by omega))
 rw [hk,hmt] at K;replace K:=Hz K;clear hk hmt;go_enter Tryz.func159,Tryz.ntmps159
 go_wp2
 go_quiet (fail)
 go_wp2
 go_quiet ((go_at_call 160;exact quiet2 (quiet_same (K.out _))))
 go_wp2;refine bodyPost_ret (res4 rfl _ _ _) rfl ?_
 refine ⟨rfl,DecV.dec (x:=(off:Int)+1) ?_ _ (by omega) (by omega),?_⟩
 ·repeat (first|with_reducible exact h.v|with_reducible apply DecV.set|with_reducible apply DecV.drewN|with_reducible apply DecV.alloc)
 ·repeat (first|with_reducible exact Fr.refl _ _|with_reducible refine Fr.setCell ?_ (by simp) _|with_reducible refine Fr.drewN ?_ _|with_reducible refine Fr.alloc ?_ _)
theorem whead_31_3 (h:Dec w d db o c dm xs off) (hM:DecM w dm n el pa) (hmd:dm≠d) (hl:off<xs.length) (hk:xs[off].toNat%32=31) (hmt:xs[off].toNat/32=3):
  Calls Tryz.prog 159 #[.pointer (some ⟨d,0,none⟩)] w (WHead w d db o c dm xs (.ok (3,31,31,off+1))):=by
 have h0:=h.c0;have h1:=h.c1;have f1:=h.f1;have ha:=h.at_ off (by omega)
 have hm:=h.len;have hc:=h.cap;have n1: ¬db=d:=h.ne;have n2: ¬d=db:=fun e=>h.ne e.symm
 have z0:((xs.length:Int)-(off:Int)==0)=false:=by simp;omega
 have w0:IntKind.i64.wrap ((xs.length:Int)-(off:Int))=(xs.length:Int)-(off:Int):=IntWalk.i64_in _ (by omega)
 have K:=parseInitialByte (xs[off]'(by omega))
 rw [hk,hmt] at K;replace K:=Hz K;clear hk hmt;go_enter Tryz.func159,Tryz.ntmps159
 go_wp2
 go_quiet (fail)
 go_wp2
 go_quiet ((go_at_call 160;exact quiet2 (quiet_same (K.out _))))
 go_wp2;refine bodyPost_ret (res4 rfl _ _ _) rfl ?_
 refine ⟨rfl,DecV.dec (x:=(off:Int)+1) ?_ _ (by omega) (by omega),?_⟩
 ·repeat (first|with_reducible exact h.v|with_reducible apply DecV.set|with_reducible apply DecV.drewN|with_reducible apply DecV.alloc)
 ·repeat (first|with_reducible exact Fr.refl _ _|with_reducible refine Fr.setCell ?_ (by simp) _|with_reducible refine Fr.drewN ?_ _|with_reducible refine Fr.alloc ?_ _)
theorem whead_31_4 (h:Dec w d db o c dm xs off) (hM:DecM w dm n el pa) (hmd:dm≠d) (hl:off<xs.length) (hk:xs[off].toNat%32=31) (hmt:xs[off].toNat/32=4):
  Calls Tryz.prog 159 #[.pointer (some ⟨d,0,none⟩)] w (WHead w d db o c dm xs (.ok (4,31,31,off+1))):=by
 have h0:=h.c0;have h1:=h.c1;have f1:=h.f1;have ha:=h.at_ off (by omega)
 have hm:=h.len;have hc:=h.cap;have n1: ¬db=d:=h.ne;have n2: ¬d=db:=fun e=>h.ne e.symm
 have z0:((xs.length:Int)-(off:Int)==0)=false:=by simp;omega
 have w0:IntKind.i64.wrap ((xs.length:Int)-(off:Int))=(xs.length:Int)-(off:Int):=IntWalk.i64_in _ (by omega)
 have K:=parseInitialByte (xs[off]'(by omega))
 rw [hk,hmt] at K;replace K:=Hz K;clear hk hmt;go_enter Tryz.func159,Tryz.ntmps159
 go_wp2
 go_quiet (fail)
 go_wp2
 go_quiet ((go_at_call 160;exact quiet2 (quiet_same (K.out _))))
 go_wp2;refine bodyPost_ret (res4 rfl _ _ _) rfl ?_
 refine ⟨rfl,DecV.dec (x:=(off:Int)+1) ?_ _ (by omega) (by omega),?_⟩
 ·repeat (first|with_reducible exact h.v|with_reducible apply DecV.set|with_reducible apply DecV.drewN|with_reducible apply DecV.alloc)
 ·repeat (first|with_reducible exact Fr.refl _ _|with_reducible refine Fr.setCell ?_ (by simp) _|with_reducible refine Fr.drewN ?_ _|with_reducible refine Fr.alloc ?_ _)
theorem whead_31_5 (h:Dec w d db o c dm xs off) (hM:DecM w dm n el pa) (hmd:dm≠d) (hl:off<xs.length) (hk:xs[off].toNat%32=31) (hmt:xs[off].toNat/32=5):
  Calls Tryz.prog 159 #[.pointer (some ⟨d,0,none⟩)] w (WHead w d db o c dm xs (.ok (5,31,31,off+1))):=by
 have h0:=h.c0;have h1:=h.c1;have f1:=h.f1;have ha:=h.at_ off (by omega)
 have hm:=h.len;have hc:=h.cap;have n1: ¬db=d:=h.ne;have n2: ¬d=db:=fun e=>h.ne e.symm
 have z0:((xs.length:Int)-(off:Int)==0)=false:=by simp;omega
 have w0:IntKind.i64.wrap ((xs.length:Int)-(off:Int))=(xs.length:Int)-(off:Int):=IntWalk.i64_in _ (by omega)
 have K:=parseInitialByte (xs[off]'(by omega))
 rw [hk,hmt] at K;replace K:=Hz K;clear hk hmt;go_enter Tryz.func159,Tryz.ntmps159
 go_wp2
 go_quiet (fail)
 go_wp2
 go_quiet ((go_at_call 160;exact quiet2 (quiet_same (K.out _))))
 go_wp2;refine bodyPost_ret (res4 rfl _ _ _) rfl ?_
 refine ⟨rfl,DecV.dec (x:=(off:Int)+1) ?_ _ (by omega) (by omega),?_⟩
 ·repeat (first|with_reducible exact h.v|with_reducible apply DecV.set|with_reducible apply DecV.drewN|with_reducible apply DecV.alloc)
 ·repeat (first|with_reducible exact Fr.refl _ _|with_reducible refine Fr.setCell ?_ (by simp) _|with_reducible refine Fr.drewN ?_ _|with_reducible refine Fr.alloc ?_ _)
theorem whead_31_0 (h:Dec w d db o c dm xs off) (hM:DecM w dm n el pa) (hmd:dm≠d) (hl:off<xs.length) (hk:xs[off].toNat%32=31) (hmt:xs[off].toNat/32=0):
  Calls Tryz.prog 159 #[.pointer (some ⟨d,0,none⟩)] w (WHead w d db o c dm xs (.error 3)):=by
 have h0:=h.c0;have h1:=h.c1;have f1:=h.f1;have ha:=h.at_ off (by omega)
 have hm:=h.len;have hc:=h.cap;have n1: ¬db=d:=h.ne;have n2: ¬d=db:=fun e=>h.ne e.symm
 have z0:((xs.length:Int)-(off:Int)==0)=false:=by simp;omega
 have w0:IntKind.i64.wrap ((xs.length:Int)-(off:Int))=(xs.length:Int)-(off:Int):=IntWalk.i64_in _ (by omega)
 have K1:=Hz (itoa_any 31 (by omega) (by omega))
 have K1l:=itoa_length 31 (by omega) (by omega)
 have K2:=Hz (typeName 0 (by omega))
 have K:=parseInitialByte (xs[off]'(by omega))
 rw [hk,hmt] at K;replace K:=Hz K;clear hk hmt;go_enter Tryz.func159,Tryz.ntmps159
 go_wp2
 go_quiet (fail)
 go_wp2
 go_quiet ((go_at_call 160;exact quiet2 (quiet_same (K.out _))))
 go_wp2_with (go_at_call 190;go_in)
 go_wp2_with fail
 refine (K1.out _).mono ?_
 rintro e w1 ⟨rfl,hf1⟩;go_wp2_with fail
 refine (K2.out _).mono ?_
 rintro e w2 ⟨s,rfl,hs,rfl⟩;go_wp2;refine bodyPost_ret (res4 rfl _ _ _) rfl ?_
 refine ⟨_,rfl,errv_ptr 3 (.inl rfl) _,?_,?_⟩
 ·apply Exists.intro
  repeat (first|with_reducible apply DecV.fr0 hf1|with_reducible exact h.v|with_reducible apply DecV.set|with_reducible apply DecV.drewN|with_reducible apply DecV.alloc)
 ·repeat (first|with_reducible refine Fr.then0 ?_ hf1|with_reducible exact Fr.refl _ _|with_reducible refine Fr.setCell ?_ (by simp) _|with_reducible refine Fr.drewN ?_ _|with_reducible refine Fr.alloc ?_ _)
theorem whead_31_1 (h:Dec w d db o c dm xs off) (hM:DecM w dm n el pa) (hmd:dm≠d) (hl:off<xs.length) (hk:xs[off].toNat%32=31) (hmt:xs[off].toNat/32=1):
  Calls Tryz.prog 159 #[.pointer (some ⟨d,0,none⟩)] w (WHead w d db o c dm xs (.error 3)):=by
 have h0:=h.c0;have h1:=h.c1;have f1:=h.f1;have ha:=h.at_ off (by omega)
 have hm:=h.len;have hc:=h.cap;have n1: ¬db=d:=h.ne;have n2: ¬d=db:=fun e=>h.ne e.symm
 have z0:((xs.length:Int)-(off:Int)==0)=false:=by simp;omega
 have w0:IntKind.i64.wrap ((xs.length:Int)-(off:Int))=(xs.length:Int)-(off:Int):=IntWalk.i64_in _ (by omega)
 have K1:=Hz (itoa_any 31 (by omega) (by omega))
 have K1l:=itoa_length 31 (by omega) (by omega)
 have K2:=Hz (typeName 1 (by omega))
 have K:=parseInitialByte (xs[off]'(by omega))
 rw [hk,hmt] at K;replace K:=Hz K;clear hk hmt;go_enter Tryz.func159,Tryz.ntmps159
 go_wp2
 go_quiet (fail)
 go_wp2
 go_quiet ((go_at_call 160;exact quiet2 (quiet_same (K.out _))))
 go_wp2_with (go_at_call 190;go_in)
 go_wp2_with fail
 refine (K1.out _).mono ?_
 rintro e w1 ⟨rfl,hf1⟩;go_wp2_with fail
 refine (K2.out _).mono ?_
 rintro e w2 ⟨s,rfl,hs,rfl⟩;go_wp2;refine bodyPost_ret (res4 rfl _ _ _) rfl ?_
 refine ⟨_,rfl,errv_ptr 3 (.inl rfl) _,?_,?_⟩
 ·apply Exists.intro
  repeat (first|with_reducible apply DecV.fr0 hf1|with_reducible exact h.v|with_reducible apply DecV.set|with_reducible apply DecV.drewN|with_reducible apply DecV.alloc)
 ·repeat (first|with_reducible refine Fr.then0 ?_ hf1|with_reducible exact Fr.refl _ _|with_reducible refine Fr.setCell ?_ (by simp) _|with_reducible refine Fr.drewN ?_ _|with_reducible refine Fr.alloc ?_ _)
theorem whead_31_6 (h:Dec w d db o c dm xs off) (hM:DecM w dm n el pa) (hmd:dm≠d) (hl:off<xs.length) (hk:xs[off].toNat%32=31) (hmt:xs[off].toNat/32=6):
  Calls Tryz.prog 159 #[.pointer (some ⟨d,0,none⟩)] w (WHead w d db o c dm xs (.error 3)):=by
 have h0:=h.c0;have h1:=h.c1;have f1:=h.f1;have ha:=h.at_ off (by omega)
 have hm:=h.len;have hc:=h.cap;have n1: ¬db=d:=h.ne;have n2: ¬d=db:=fun e=>h.ne e.symm
 have z0:((xs.length:Int)-(off:Int)==0)=false:=by simp;omega
 have w0:IntKind.i64.wrap ((xs.length:Int)-(off:Int))=(xs.length:Int)-(off:Int):=IntWalk.i64_in _ (by omega)
 have K1:=Hz (itoa_any 31 (by omega) (by omega))
 have K1l:=itoa_length 31 (by omega) (by omega)
 have K2:=Hz (typeName 6 (by omega))
 have K:=parseInitialByte (xs[off]'(by omega))
 rw [hk,hmt] at K;replace K:=Hz K;clear hk hmt;go_enter Tryz.func159,Tryz.ntmps159
 go_wp2
 go_quiet (fail)
 go_wp2
 go_quiet ((go_at_call 160;exact quiet2 (quiet_same (K.out _))))
 go_wp2_with (go_at_call 190;go_in)
 go_wp2_with fail
 refine (K1.out _).mono ?_
 rintro e w1 ⟨rfl,hf1⟩;go_wp2_with fail
 refine (K2.out _).mono ?_
 rintro e w2 ⟨s,rfl,hs,rfl⟩;go_wp2;refine bodyPost_ret (res4 rfl _ _ _) rfl ?_
 refine ⟨_,rfl,errv_ptr 3 (.inl rfl) _,?_,?_⟩
 ·apply Exists.intro
  repeat (first|with_reducible apply DecV.fr0 hf1|with_reducible exact h.v|with_reducible apply DecV.set|with_reducible apply DecV.drewN|with_reducible apply DecV.alloc)
 ·repeat (first|with_reducible refine Fr.then0 ?_ hf1|with_reducible exact Fr.refl _ _|with_reducible refine Fr.setCell ?_ (by simp) _|with_reducible refine Fr.drewN ?_ _|with_reducible refine Fr.alloc ?_ _)
theorem whead_31_7 (h:Dec w d db o c dm xs off) (hM:DecM w dm n el pa) (hmd:dm≠d) (hl:off<xs.length) (hk:xs[off].toNat%32=31) (hmt:xs[off].toNat/32=7):
  Calls Tryz.prog 159 #[.pointer (some ⟨d,0,none⟩)] w (WHead w d db o c dm xs (.error 3)):=by
 have h0:=h.c0;have h1:=h.c1;have f1:=h.f1;have ha:=h.at_ off (by omega)
 have hm:=h.len;have hc:=h.cap;have n1: ¬db=d:=h.ne;have n2: ¬d=db:=fun e=>h.ne e.symm
 have z0:((xs.length:Int)-(off:Int)==0)=false:=by simp;omega
 have w0:IntKind.i64.wrap ((xs.length:Int)-(off:Int))=(xs.length:Int)-(off:Int):=IntWalk.i64_in _ (by omega)
 have K:=parseInitialByte (xs[off]'(by omega))
 rw [hk,hmt] at K;replace K:=Hz K;clear hk hmt;go_enter Tryz.func159,Tryz.ntmps159
 go_wp2
 go_quiet (fail)
 go_wp2
 go_quiet ((go_at_call 160;exact quiet2 (quiet_same (K.out _))))
 go_wp2;refine bodyPost_ret (res4 rfl _ _ _) rfl ?_
 refine ⟨_,rfl,errv_ptr 3 (.inl rfl) _,?_,?_⟩
 ·apply Exists.intro
  repeat (first|with_reducible exact h.v|with_reducible apply DecV.set|with_reducible apply DecV.drewN|with_reducible apply DecV.alloc)
 ·repeat (first|with_reducible exact Fr.refl _ _|with_reducible refine Fr.setCell ?_ (by simp) _|with_reducible refine Fr.drewN ?_ _|with_reducible refine Fr.alloc ?_ _)
theorem whead_28 (h:Dec w d db o c dm xs off) (hM:DecM w dm n el pa) (hmd:dm≠d) (hl:off<xs.length) (k:Nat) (hk:xs[off].toNat%32=k) (h28:28≤k) (h30:k≤30):
  Calls Tryz.prog 159 #[.pointer (some ⟨d,0,none⟩)] w (WHead w d db o c dm xs (.error 3)):=by
 have h0:=h.c0;have h1:=h.c1;have f1:=h.f1;have ha:=h.at_ off (by omega)
 have hm:=h.len;have hc:=h.cap;have n1: ¬db=d:=h.ne;have n2: ¬d=db:=fun e=>h.ne e.symm
 have z0:((xs.length:Int)-(off:Int)==0)=false:=by simp;omega
 have w0:IntKind.i64.wrap ((xs.length:Int)-(off:Int))=(xs.length:Int)-(off:Int):=IntWalk.i64_in _ (by omega)
 have K1:=Hz (itoa_any (k:Int) (by omega) (by omega))
 have K1l:=itoa_length (k:Int) (by omega) (by omega)
 have K2:=Hz (typeName (xs[off].toNat/32) (by have:=u8lt xs[off];omega))
 have b31:((k:Int)==31)=false:=by simp;omega
 have K:=parseInitialByte (xs[off]'(by omega))
 rw [hk] at K;replace K:=Hz K;clear hk;go_enter Tryz.func159,Tryz.ntmps159
 go_wp2
 go_quiet (fail)
 go_wp2
 go_quiet ((go_at_call 160;exact quiet2 (quiet_same (K.out _))))
 go_wp2_with (go_at_call 190;go_in)
 go_wp2_with fail
 refine (K1.out _).mono ?_
 rintro e w1 ⟨rfl,hf1⟩;go_wp2_with fail
 refine (K2.out _).mono ?_
 rintro e w2 ⟨s,rfl,hs,rfl⟩;go_wp2;refine bodyPost_ret (res4 rfl _ _ _) rfl ?_
 refine ⟨_,rfl,errv_ptr 3 (.inl rfl) _,?_,?_⟩
 ·apply Exists.intro
  repeat (first|with_reducible apply DecV.fr0 hf1|with_reducible exact h.v|with_reducible apply DecV.set|with_reducible apply DecV.drewN|with_reducible apply DecV.alloc)
 ·repeat (first|with_reducible refine Fr.then0 ?_ hf1|with_reducible exact Fr.refl _ _|with_reducible refine Fr.setCell ?_ (by simp) _|with_reducible refine Fr.drewN ?_ _|with_reducible refine Fr.alloc ?_ _)
theorem wellformedHead (h:Dec w d db o c dm xs off) (hM:DecM w dm n el pa) (hmd:dm≠d):
  Calls Tryz.prog 159 #[.pointer (some ⟨d,0,none⟩)] w (WHead w d db o c dm xs (hd xs off)):=by
 unfold hd
 split
 ·rename_i e;exact whead_end h (Nat.le_antisymm h.le (by simpa using List.getElem?_eq_none_iff.1 e))
 ·rename_i b e;obtain ⟨hl,rfl⟩:=getElem?_lt e;have hb8:=u8lt xs[off]
  split
  ·exact whead_0 h hM hmd hl _ rfl (by omega)
  ·rename_i h24
   split
   ·rename_i h28;have h4:xs[off].toNat%32=24∨xs[off].toNat%32=25∨xs[off].toNat%32=26∨xs[off].toNat%32=27:=by omega
    rcases h4 with h4|h4|h4|h4<;>simp only [h4,Nat.reduceSub,Nat.reducePow,Nat.reduceEqDiff,false_and,and_false,if_false,true_and]
    ·split
     ·exact whead_short1 h hM hmd hl h4 (by omega)
     ·rw [be1 _ _ (by omega)]
      split
      ·rename_i hs;exact whead_1b h hM hmd (by omega) h4 hs.1 hs.2
      ·rename_i hs;by_cases h7:xs[off].toNat/32=7
       ·rw [h7];exact whead_1s h hM hmd (by omega) h4 h7 (by omega)
       ·exact whead_1 h hM hmd (by omega) h4 _ rfl h7
    ·split
     ·exact whead_short2 h hM hmd hl h4 (by omega)
     ·rw [be2 _ _ (by omega)]
      by_cases h7:xs[off].toNat/32=7
      ·rw [h7];exact whead_2f h hM hmd (by omega) h4 h7
      ·exact whead_2 h hM hmd (by omega) h4 _ rfl h7
    ·split
     ·exact whead_short4 h hM hmd hl h4 (by omega)
     ·rw [be4 _ _ (by omega)]
      by_cases h7:xs[off].toNat/32=7
      ·rw [h7];exact whead_4f h hM hmd (by omega) h4 h7
      ·exact whead_4 h hM hmd (by omega) h4 _ rfl h7
    ·split
     ·exact whead_short8 h hM hmd hl h4 (by omega)
     ·rw [be8 _ _ (by omega)]
      by_cases h7:xs[off].toNat/32=7
      ·rw [h7];exact whead_8f h hM hmd (by omega) h4 h7
      ·exact whead_8 h hM hmd (by omega) h4 _ rfl h7
   ·split
    ·rename_i h31;have hm8:xs[off].toNat/32<8:=by omega
     split
     ·rename_i hs;have h4:xs[off].toNat/32=0∨xs[off].toNat/32=1∨xs[off].toNat/32=6∨xs[off].toNat/32=7:=by omega
      rcases h4 with h4|h4|h4|h4
      ·exact whead_31_0 h hM hmd hl h31 h4
      ·exact whead_31_1 h hM hmd hl h31 h4
      ·exact whead_31_6 h hM hmd hl h31 h4
      ·exact whead_31_7 h hM hmd hl h31 h4
     ·have h4:xs[off].toNat/32=2∨xs[off].toNat/32=3∨xs[off].toNat/32=4∨xs[off].toNat/32=5:=by omega
      rcases h4 with h4|h4|h4|h4<;>rw [h4]
      ·exact whead_31_2 h hM hmd hl h31 h4
      ·exact whead_31_3 h hM hmd hl h31 h4
      ·exact whead_31_4 h hM hmd hl h31 h4
      ·exact whead_31_5 h hM hmd hl h31 h4
    ·exact whead_28 h hM hmd hl _ rfl (by omega) (by omega)
end
end
section
open Go.RowKit
structure Lim where
 nest:Nat
 el:Nat
 pa:Nat
def joinD (D:Nat):Option (Except Nat (Nat×Nat))→Option (Except Nat (Nat×Nat))
 |some (.ok (D',o))=>some (.ok (max D D',o))
 |r=>r
mutual
def wfI (L:Lim) (xs:List UInt8):Nat→Nat→Nat→Option (Except Nat (Nat×Nat))
 |0,_,_=>none
 |f+1,off,dep=>
  match hd xs off with
  | .error k=>some (.error k)
  | .ok (m,ai,v,o)=>
   if m=2∨m=3 then
    (if ai=31 then wfS L xs f m o dep
    else if 9223372036854775808≤v then some (.error 16)
    else if xs.length-o<v then some (.error 2)
    else some (.ok (dep,o+v)))
   else if m=4∨m=5 then
    (if L.nest<dep+1 then some (.error 5)
    else if ai=31 then wfO L xs f m 0 o (dep+1)
    else if 9223372036854775808≤v then some (.error 16)
    else if m=4∧L.el<v then some (.error 6)
    else if m=5∧L.pa<v then some (.error 7)
    else wfN L xs f (v*(m-3)) o (dep+1))
   else if m=6 then wfT L xs f o dep
   else some (.ok (dep,o))
def wfS (L:Lim) (xs:List UInt8):Nat→Nat→Nat→Nat→Option (Except Nat (Nat×Nat))
 |0,_,_,_=>none
 |f+1,m,off,dep=>
  match xs[off]? with
  |none=>some (.error 2)
  |some b=>
   if b.toNat=255 then some (.ok (dep,off+1))
   else if b.toNat/32≠m then some (.error 3)
   else if b.toNat%32=31 then some (.error 3)
   else match wfI L xs f off dep with
    |some (.ok (D,o))=>wfS L xs f m o D
    |r=>r
def wfO (L:Lim) (xs:List UInt8):Nat→Nat→Nat→Nat→Nat→Option (Except Nat (Nat×Nat))
 |0,_,_,_,_=>none
 |f+1,m,i,off,dep=>
  match xs[off]? with
  |none=>some (.error 2)
  |some b=>
   if b.toNat=255 then (if m=5∧i%2=1 then some (.error 3) else some (.ok (dep,off+1)))
   else match wfI L xs f off dep with
    |some (.ok (D,o))=>
     if m=4∧L.el<i+1 then some (.error 6)
     else if m≠4∧(i+1)%2=0∧L.pa<(i+1)/2 then some (.error 7)
     else joinD D (wfO L xs f m (i+1) o dep)
    |r=>r
def wfN (L:Lim) (xs:List UInt8):Nat→Nat→Nat→Nat→Option (Except Nat (Nat×Nat))
 |0,_,_,_=>none
 |f+1,n,off,dep=>
  match n with
  |0=>some (.ok (dep,off))
  |n+1=>match wfI L xs f off dep with
   |some (.ok (D,o))=>joinD D (wfN L xs f n o dep)
   |r=>r
def wfT (L:Lim) (xs:List UInt8):Nat→Nat→Nat→Option (Except Nat (Nat×Nat))
 |0,_,_=>none
 |f+1,off,dep=>
  match xs[off]? with
  |none=>some (.error 2)
  |some b=>
   if b.toNat/32≠6 then wfI L xs f off dep
   else match hd xs off with
    | .error k=>some (.error k)
    | .ok (_,_,_,o)=>if L.nest<dep+1 then some (.error 5) else wfT L xs f o (dep+1)
end
def IHead (w:World) (d db o c dm:Nat) (xs:List UInt8) (r:Except Nat (Nat×Nat×Nat×Nat)) (e:Ending) (w':World):Prop:=
 match r with
 | .ok (m,ai,v,off')=>e= .returned (.tuple #[.int .u8 ((m*32:Nat):Int),.int .u8 (ai:Int),.int .u64 (v:Int),.bool ((ai:Int)==31),.nilIface])∧Dec w' d db o c dm xs off'∧Fr [d] w w'
 | .error k=> ∃v,e= .returned (.tuple #[.int .u8 0,.int .u8 0,.int .u64 0,.bool false,v])∧ErrV k v∧(∃u,DecV w' d db o c dm xs u)∧Fr [d] w w'
def WPost (w:World) (d db o c dm:Nat) (xs:List UInt8) (r:Except Nat (Nat×Nat)) (e:Ending) (w':World):Prop:=
 match r with
 | .ok (D,off')=>e= .returned (.tuple #[.int .i64 (D:Int),.nilIface])∧Dec w' d db o c dm xs off'∧Fr [d] w w'
 | .error k=> ∃v,e= .returned (.tuple #[.int .i64 0,v])∧ErrV k v∧(∃u,DecV w' d db o c dm xs u)∧Fr [d] w w'
theorem res5 {fn:Func} {t u v x y:Tmp} (h:fn.results= #[.tmp t,.tmp u,.tmp v,.tmp x,.tmp y]) (tmps:Array Value) (P:Program) (w:World):
  (results fn tmps).run P w= .ok (.tuple #[tmps.getD t undef,tmps.getD u undef,tmps.getD v undef,tmps.getD x undef,tmps.getD y undef]) w:=by simp [results,h]
theorem ErrV.iface {k:Nat} {v:Value} (h:ErrV k v): ∃t x,v= .iface t x:=by
 unfold ErrV at h
 split at h
 ·exact ⟨_,_,h⟩
 ·split at h
  ·exact ⟨_,_,h⟩
  ·split at h
   ·obtain ⟨s,h,_⟩:=h;exact ⟨_,_,h⟩
   ·obtain ⟨_,a,h⟩:=h;exact ⟨_,_,h⟩
section
variable {w:World} {d db o c dm off n el pa:Nat} {xs:List UInt8}
theorem ihead (h:Dec w d db o c dm xs off) (hM:DecM w dm n el pa) (hmd:dm≠d):
  Calls Tryz.prog 154 #[.pointer (some ⟨d,0,none⟩)] w (IHead w d db o c dm xs (hd xs off)):=by
 have K:=wellformedHead h hM hmd;cases hh:hd xs off with
 |error k=>
  rw [hh] at K;replace K:=Hz K;clear hh;go_enter Tryz.func154,Tryz.ntmps154
  go_wp2_with fail
  refine K.out.mono ?_
  rintro e w1 ⟨v,rfl,hv,hu,hf⟩;obtain ⟨t,x,rfl⟩:=hv.iface;go_wp2;refine bodyPost_ret (res5 rfl _ _ _) rfl ?_
  exact ⟨_,rfl,hv,hu,hf⟩
 |ok p=>
  obtain ⟨m,ai,v,off'⟩:=p;rw [hh] at K;replace K:=Hz K;clear hh;go_enter Tryz.func154,Tryz.ntmps154
  go_wp2_with fail
  refine K.out.mono ?_
  rintro e w1 ⟨rfl,hD,hf⟩;go_wp2;refine bodyPost_ret (res5 rfl _ _ _) rfl ?_
  exact ⟨rfl,hD,hf⟩
end
end
end Go.Proofs.YteodinhkhhaafaaGreatDoor
