/- Walks of the program, and plain facts. -/
import Derived.Test.YteodinhkhhaafaaGreatDoorFaq
set_option linter.unusedVariables false
set_option linter.unusedSimpArgs false
set_option maxRecDepth 100000
set_option maxHeartbeats 6400000
namespace Go.Proofs.YteodinhkhhaafaaGreatDoor
section
open Go.RowKit
open Go.Lib (slowN)
theorem decSlow (s:ByteArray) (w:World) (hT:U8 w):
  Calls Tryz.prog 200 #[.string s] w fun e w'=>e= .returned (.tuple #[.int .i32 (Lib.decodeGo s).1,.int .i64 (Lib.decodeGo s).2])∧Fr [] w w':=by
 by_cases h0:s.size=0
 ·have hz:(s.size:Int)<1:=by omega
  simp only [Lib.decodeGo,h0,if_true];go_enter Tryz.func200,Tryz.ntmps200
  go_wp2
  go_ret2
  exact ⟨rfl,Fr.refl _ _⟩
 ·have hz0:(0:Int)<(s.size:Int):=by omega
  have hz0': ¬((s.size:Int)<1):=by omega
  obtain ⟨x0,hx0⟩: ∃x0,s.get! 0=x0:=⟨_,rfl⟩;obtain ⟨x1,hx1⟩: ∃x1,s.get! 1=x1:=⟨_,rfl⟩;obtain ⟨x2,hx2⟩: ∃x2,s.get! 2=x2:=⟨_,rfl⟩;obtain ⟨x3,hx3⟩: ∃x3,s.get! 3=x3:=⟨_,rfl⟩;have hs0:s[0]'(by omega)=x0:=by rw [←hx0];exact (Go.Proofs.Utf8W.get!_of_lt s 0 (by omega)).symm
  have l0:=x0.toNat_lt;have l1:=x1.toNat_lt;have l2:=x2.toNat_lt;have l3:=x3.toNat_lt;have hdec:Lib.decodeGo s=Lib.decodeN s.size x0.toNat x1.toNat x2.toNat x3.toNat:=by
   simp only [Lib.decodeGo,h0,if_false];rw [Lib.decode_at,Nat.sub_zero,Nat.zero_add,Nat.zero_add,Nat.zero_add,hx0,hx1,hx2,hx3]
  rw [hdec];clear hdec;have hc0:=hT.1 x0.toNat (by omega)
  have hres:Lib.firstT x0.toNat<240→Lib.decodeN s.size x0.toNat x1.toNat x2.toNat x3.toNat=Lib.slowN s.size x0.toNat x1.toNat x2.toNat x3.toNat (Lib.firstT x0.toNat%8) (Lib.accLo (Lib.firstT x0.toNat/16)) (Lib.accHi (Lib.firstT x0.toNat/16)):=
   fun h=>(Lib.slow_eq _ _ _ _ _ (by omega) (by omega) (by omega) (by omega) h).symm
  rcases Lib.firstT_cases x0.toNat with hX|hX|hX|hX|hX|hX|hX|hX|hX
  ·
   rw [Lib.ascii_eq _ _ _ _ _ hX];rw [hX] at hc0;clear hres hT hX;go_enter Tryz.func200,Tryz.ntmps200
   go_wp2;rw [Go.Proofs.Utf8W.mask240,Go.Proofs.Utf8W.keep_byte ⟨x0.toNat,l0⟩]
   go_ret2
   exact ⟨rfl,Fr.refl _ _⟩
  ·
   rw [Lib.bad_eq _ _ _ _ _ (by omega) hX]
   rw [hX] at hc0;clear hres hT hX;go_enter Tryz.func200,Tryz.ntmps200
   go_wp2;rw [Go.Proofs.Utf8W.mask241,Go.Proofs.Utf8W.drop_byte ⟨x0.toNat,l0⟩]
   go_ret2
   exact ⟨rfl,Fr.refl _ _⟩
  all_goals replace hres:=hres (by omega)
  ·
   rw [hX] at hc0 hres;have ha0:=(hT.2 0 (by omega)).1
   have ha1:=(hT.2 0 (by omega)).2
   simp only [Lib.accLo,Lib.accHi,Nat.reduceMul,Nat.reduceAdd,Nat.reduceEqDiff,if_true,if_false,Nat.reduceMod,Nat.reduceDiv] at ha0 ha1 hres;rw [hres];clear hres hT hX;by_cases hn:s.size<2
   ·
    have hnz:(s.size:Int)<2:=by omega
    go_enter Tryz.func200,Tryz.ntmps200
    go_wp2
    all_goals (go_ret2;refine ⟨?_,(Fr.refl _ _).alloc _⟩;utf8_leaf)
   ·
    have hz1:(1:Int)<(s.size:Int):=by omega
    have hs1:s[1]'(by omega)=x1:=by rw [←hx1];exact (Go.Proofs.Utf8W.get!_of_lt s 1 (by omega)).symm
    go_enter Tryz.func200,Tryz.ntmps200
    go_wp2
    all_goals (go_ret2;refine ⟨?_,(Fr.refl _ _).alloc _⟩;utf8_leaf)
  ·
   rw [hX] at hc0 hres;have ha0:=(hT.2 1 (by omega)).1
   have ha1:=(hT.2 1 (by omega)).2
   simp only [Lib.accLo,Lib.accHi,Nat.reduceMul,Nat.reduceAdd,Nat.reduceEqDiff,if_true,if_false,Nat.reduceMod,Nat.reduceDiv] at ha0 ha1 hres;rw [hres];clear hres hT hX;by_cases hn:s.size<3
   ·
    have hnz:(s.size:Int)<3:=by omega
    go_enter Tryz.func200,Tryz.ntmps200
    go_wp2
    all_goals (go_ret2;refine ⟨?_,(Fr.refl _ _).alloc _⟩;utf8_leaf)
   ·
    have hz1:(1:Int)<(s.size:Int):=by omega
    have hz2:(2:Int)<(s.size:Int):=by omega
    have hs1:s[1]'(by omega)=x1:=by rw [←hx1];exact (Go.Proofs.Utf8W.get!_of_lt s 1 (by omega)).symm
    have hs2:s[2]'(by omega)=x2:=by rw [←hx2];exact (Go.Proofs.Utf8W.get!_of_lt s 2 (by omega)).symm
    go_enter Tryz.func200,Tryz.ntmps200
    go_wp2
    all_goals (go_ret2;refine ⟨?_,(Fr.refl _ _).alloc _⟩;utf8_leaf)
  ·
   rw [hX] at hc0 hres;have ha0:=(hT.2 0 (by omega)).1
   have ha1:=(hT.2 0 (by omega)).2
   simp only [Lib.accLo,Lib.accHi,Nat.reduceMul,Nat.reduceAdd,Nat.reduceEqDiff,if_true,if_false,Nat.reduceMod,Nat.reduceDiv] at ha0 ha1 hres;rw [hres];clear hres hT hX;by_cases hn:s.size<3
   ·
    have hnz:(s.size:Int)<3:=by omega
    go_enter Tryz.func200,Tryz.ntmps200
    go_wp2
    all_goals (go_ret2;refine ⟨?_,(Fr.refl _ _).alloc _⟩;utf8_leaf)
   ·
    have hz1:(1:Int)<(s.size:Int):=by omega
    have hz2:(2:Int)<(s.size:Int):=by omega
    have hs1:s[1]'(by omega)=x1:=by rw [←hx1];exact (Go.Proofs.Utf8W.get!_of_lt s 1 (by omega)).symm
    have hs2:s[2]'(by omega)=x2:=by rw [←hx2];exact (Go.Proofs.Utf8W.get!_of_lt s 2 (by omega)).symm
    go_enter Tryz.func200,Tryz.ntmps200
    go_wp2
    all_goals (go_ret2;refine ⟨?_,(Fr.refl _ _).alloc _⟩;utf8_leaf)
  ·
   rw [hX] at hc0 hres;have ha0:=(hT.2 2 (by omega)).1
   have ha1:=(hT.2 2 (by omega)).2
   simp only [Lib.accLo,Lib.accHi,Nat.reduceMul,Nat.reduceAdd,Nat.reduceEqDiff,if_true,if_false,Nat.reduceMod,Nat.reduceDiv] at ha0 ha1 hres;rw [hres];clear hres hT hX;by_cases hn:s.size<3
   ·
    have hnz:(s.size:Int)<3:=by omega
    go_enter Tryz.func200,Tryz.ntmps200
    go_wp2
    all_goals (go_ret2;refine ⟨?_,(Fr.refl _ _).alloc _⟩;utf8_leaf)
   ·
    have hz1:(1:Int)<(s.size:Int):=by omega
    have hz2:(2:Int)<(s.size:Int):=by omega
    have hs1:s[1]'(by omega)=x1:=by rw [←hx1];exact (Go.Proofs.Utf8W.get!_of_lt s 1 (by omega)).symm
    have hs2:s[2]'(by omega)=x2:=by rw [←hx2];exact (Go.Proofs.Utf8W.get!_of_lt s 2 (by omega)).symm
    go_enter Tryz.func200,Tryz.ntmps200
    go_wp2
    all_goals (go_ret2;refine ⟨?_,(Fr.refl _ _).alloc _⟩;utf8_leaf)
  ·
   rw [hX] at hc0 hres;have ha0:=(hT.2 3 (by omega)).1
   have ha1:=(hT.2 3 (by omega)).2
   simp only [Lib.accLo,Lib.accHi,Nat.reduceMul,Nat.reduceAdd,Nat.reduceEqDiff,if_true,if_false,Nat.reduceMod,Nat.reduceDiv] at ha0 ha1 hres;rw [hres];clear hres hT hX;by_cases hn:s.size<4
   ·
    have hnz:(s.size:Int)<4:=by omega
    go_enter Tryz.func200,Tryz.ntmps200
    go_wp2
    all_goals (go_ret2;refine ⟨?_,(Fr.refl _ _).alloc _⟩;utf8_leaf)
   ·
    have hz1:(1:Int)<(s.size:Int):=by omega
    have hz2:(2:Int)<(s.size:Int):=by omega
    have hz3:(3:Int)<(s.size:Int):=by omega
    have hs1:s[1]'(by omega)=x1:=by rw [←hx1];exact (Go.Proofs.Utf8W.get!_of_lt s 1 (by omega)).symm
    have hs2:s[2]'(by omega)=x2:=by rw [←hx2];exact (Go.Proofs.Utf8W.get!_of_lt s 2 (by omega)).symm
    have hs3:s[3]'(by omega)=x3:=by rw [←hx3];exact (Go.Proofs.Utf8W.get!_of_lt s 3 (by omega)).symm
    go_enter Tryz.func200,Tryz.ntmps200
    go_wp2
    all_goals (go_ret2;refine ⟨?_,(Fr.refl _ _).alloc _⟩;utf8_leaf)
  ·
   rw [hX] at hc0 hres;have ha0:=(hT.2 0 (by omega)).1
   have ha1:=(hT.2 0 (by omega)).2
   simp only [Lib.accLo,Lib.accHi,Nat.reduceMul,Nat.reduceAdd,Nat.reduceEqDiff,if_true,if_false,Nat.reduceMod,Nat.reduceDiv] at ha0 ha1 hres;rw [hres];clear hres hT hX;by_cases hn:s.size<4
   ·
    have hnz:(s.size:Int)<4:=by omega
    go_enter Tryz.func200,Tryz.ntmps200
    go_wp2
    all_goals (go_ret2;refine ⟨?_,(Fr.refl _ _).alloc _⟩;utf8_leaf)
   ·
    have hz1:(1:Int)<(s.size:Int):=by omega
    have hz2:(2:Int)<(s.size:Int):=by omega
    have hz3:(3:Int)<(s.size:Int):=by omega
    have hs1:s[1]'(by omega)=x1:=by rw [←hx1];exact (Go.Proofs.Utf8W.get!_of_lt s 1 (by omega)).symm
    have hs2:s[2]'(by omega)=x2:=by rw [←hx2];exact (Go.Proofs.Utf8W.get!_of_lt s 2 (by omega)).symm
    have hs3:s[3]'(by omega)=x3:=by rw [←hx3];exact (Go.Proofs.Utf8W.get!_of_lt s 3 (by omega)).symm
    go_enter Tryz.func200,Tryz.ntmps200
    go_wp2
    all_goals (go_ret2;refine ⟨?_,(Fr.refl _ _).alloc _⟩;utf8_leaf)
  ·
   rw [hX] at hc0 hres;have ha0:=(hT.2 4 (by omega)).1
   have ha1:=(hT.2 4 (by omega)).2
   simp only [Lib.accLo,Lib.accHi,Nat.reduceMul,Nat.reduceAdd,Nat.reduceEqDiff,if_true,if_false,Nat.reduceMod,Nat.reduceDiv] at ha0 ha1 hres;rw [hres];clear hres hT hX;by_cases hn:s.size<4
   ·
    have hnz:(s.size:Int)<4:=by omega
    go_enter Tryz.func200,Tryz.ntmps200
    go_wp2
    all_goals (go_ret2;refine ⟨?_,(Fr.refl _ _).alloc _⟩;utf8_leaf)
   ·
    have hz1:(1:Int)<(s.size:Int):=by omega
    have hz2:(2:Int)<(s.size:Int):=by omega
    have hz3:(3:Int)<(s.size:Int):=by omega
    have hs1:s[1]'(by omega)=x1:=by rw [←hx1];exact (Go.Proofs.Utf8W.get!_of_lt s 1 (by omega)).symm
    have hs2:s[2]'(by omega)=x2:=by rw [←hx2];exact (Go.Proofs.Utf8W.get!_of_lt s 2 (by omega)).symm
    have hs3:s[3]'(by omega)=x3:=by rw [←hx3];exact (Go.Proofs.Utf8W.get!_of_lt s 3 (by omega)).symm
    go_enter Tryz.func200,Tryz.ntmps200
    go_wp2
    all_goals (go_ret2;refine ⟨?_,(Fr.refl _ _).alloc _⟩;utf8_leaf)
theorem decRune (s:ByteArray) (w:World) (hT:U8 w):
  Calls Tryz.prog 176 #[.string s] w fun e w'=>e= .returned (.tuple #[.int .i32 (Lib.decodeGo s).1,.int .i64 (Lib.decodeGo s).2])∧Fr [] w w':=by
 have cS:=decSlow s w hT;obtain ⟨R,hR⟩: ∃R,(Lib.decodeGo s).1=R:=⟨_,rfl⟩;obtain ⟨K,hK⟩: ∃K,(Lib.decodeGo s).2=K:=⟨_,rfl⟩;rw [hR,hK] at cS ⊢;by_cases h0:s.size=0
 ·have hne:s.toList.isEmpty=true:=by
   rw [Lib.toList_data];have:s.data.toList=[]:=List.eq_nil_of_length_eq_zero (by rw [←Lib.size_eq];exact h0)
   rw [this];rfl
  go_enter Tryz.func176,Tryz.ntmps176
  go_wp2_with (go_at_call 200;refine cS.mono ?_;rintro e w' ⟨rfl,hb⟩)
  go_ret2
  exact ⟨rfl,hb⟩
 ·have hne:s.toList.isEmpty=false:=by
   rw [Lib.toList_data];cases h:s.data.toList with
   |nil=>exact absurd (by rw [Lib.size_eq,h];rfl) h0
   |cons _ _=>rfl
  have hz0:(0:Int)<(s.size:Int):=by omega
  obtain ⟨x0,hx0⟩: ∃x0,s.get! 0=x0:=⟨_,rfl⟩;have hs0:s[0]'(by omega)=x0:=by rw [←hx0];exact (Go.Proofs.Utf8W.get!_of_lt s 0 (by omega)).symm
  by_cases ha:x0.toNat<128
  ·
   have haz:(x0.toNat:Int)<128:=by omega
   have hd:Lib.decodeGo s=(x0.toNat,1):=by
    simp only [Lib.decodeGo,h0,if_false];rw [Lib.decode_at,hx0];simp [Lib.decodeN,ha]
   rw [hd] at hR hK;subst hR;subst hK;go_enter Tryz.func176,Tryz.ntmps176
   go_wp2
   go_ret2
   exact ⟨rfl,Fr.refl _ _⟩
  ·have haz: ¬((x0.toNat:Int)<128):=by omega
   go_enter Tryz.func176,Tryz.ntmps176
   go_wp2_with (go_at_call 200;refine cS.mono ?_;rintro e w' ⟨rfl,hb⟩)
   go_ret2
   exact ⟨rfl,hb⟩
end
end Go.Proofs.YteodinhkhhaafaaGreatDoor
