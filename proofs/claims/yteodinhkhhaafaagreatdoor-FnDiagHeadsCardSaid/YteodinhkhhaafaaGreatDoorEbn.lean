/- Walks of the program, and plain facts. -/
import Derived.Test.YteodinhkhhaafaaGreatDoorEbm
set_option linter.unusedVariables false
set_option linter.unusedSimpArgs false
set_option maxRecDepth 100000
set_option maxHeartbeats 6400000
namespace Go.Proofs.YteodinhkhhaafaaGreatDoor
section
open Go.RowKit
theorem dec_1 (n:Nat) (h:n<10):dec n=[(48+n).toUInt8]:=by rw [dec_lt _ h]
theorem diag_noted (M:Md):ans (diagR ⟨32,131072,131072⟩ M false [130,1,32])=([91,49,44,32,45,49,93],0):=by
 have h:itemR ⟨32,131072,131072⟩ [130,1,32] 0= .ok (.arr false [.int false 1,.int true 0],3):=by
  refine itemR_of (by decide) (by decide) ?_ ?_ ?_
  ·rw [Enc];refine ⟨2,1,by rfl,by decide,?_⟩
   rw [Encs];refine ⟨2,?_,?_⟩
   ·rw [Enc];exact ⟨1,by rfl⟩
   ·rw [Encs];refine ⟨3,?_,?_⟩
    ·rw [Enc];exact ⟨0,by rfl⟩
    ·rw [Encs]
  ·simp [Tr.fits,Tr.fitss]
  ·simp [Tr.dp,Tr.dps]
 have e:diagR ⟨32,131072,131072⟩ M false [130,1,32]=txt [91,49,44,32,45,49,93]:=by
  unfold diagR oneR;rw [if_neg (by simp),if_neg (by simp),h]
  dsimp only;rw [if_pos (by rfl)]
  simp [note,notes,arrR,thenR,txt,dec_1]
 rw [e];rfl
theorem noted (w:World) (hu:U8 w):Calls Tryz.prog 33 #[] w fun e w'=>e= .returned (.bool true)∧Fr [] w w':=by
 have K:=implDiag_any (xs:=[130,1,32]) (M:=⟨0,false,false,false,false,false⟩) (n:=0) (L:=⟨32,131072,131072⟩) (.inl ⟨rfl,rfl⟩) (by decide) (by decide) w hu
 have e:=diag_noted ⟨0,false,false,false,false,false⟩;dsimp only at K;rw [e] at K;replace K:=Hz K;clear e;go_enter Tryz.func33,Tryz.ntmps33
 go_wp2_with fail
 refine K.out.mono ?_
 rintro e w1 ⟨rfl,hf⟩;go_wp2;go_ret
 exact ⟨rfl,hf⟩
end
section
open Go.RowKit
def Strs (w:World) (v:Value) (ss:List (List UInt8)):Prop:=
 (ss=[]∧ ∃ao c,v= .slice ao 0 c)∨ ∃g o c,v= .slice (some ⟨g,o,none⟩) ss.length c∧ss.length≤c∧ ∀j (h:j<ss.length),w.cell? ⟨g,o+j,none⟩=some (.string ⟨ss[j].toArray⟩)
theorem Strs.fr {w w':World} {v:Value} {ss:List (List UInt8)} (h:Strs w v ss) (hf:Fr [] w w'):Strs w' v ss:=by
 rcases h with h|⟨g,o,c,h1,h2,h3⟩
 ·exact .inl h
 ·exact .inr ⟨g,o,c,h1,h2,fun j hj=>hf.cell (h3 j hj) (by simp)⟩
def sepS (pairs:Bool) (i:Nat):List UInt8:=if pairs=true∧i%2=1 then [58,32] else if 0<i then [44,32] else []
def joinS (pairs:Bool):Nat→List (List UInt8)→List UInt8
 |_,[]=>[]
 |i,s::l=>sepS pairs i++(s++joinS pairs (i+1) l)
end
section
open Go.RowKit
def Fits2 (ss:List (List UInt8)):Prop:=ss.length≤2147483647∧ ∀s,s∈ss→s.length≤2147483647
instance (ss:List (List UInt8)):Decidable (Fits2 ss):=inferInstanceAs (Decidable (_∧_))
end
end Go.Proofs.YteodinhkhhaafaaGreatDoor
