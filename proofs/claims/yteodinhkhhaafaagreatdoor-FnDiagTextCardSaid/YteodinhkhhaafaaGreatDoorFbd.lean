/- Walks of the program, and plain facts. -/
import Derived.Test.YteodinhkhhaafaaGreatDoorFbc
set_option linter.unusedVariables false
set_option linter.unusedSimpArgs false
set_option maxRecDepth 100000
set_option maxHeartbeats 6400000
namespace Go.Proofs.YteodinhkhhaafaaGreatDoor
def allTo (P:Nat→Bool):Nat→Bool
 |0=>true
 |n+1=>P n&&allTo P n
theorem allTo_at {P:Nat→Bool}: ∀n,allTo P n=true→ ∀i,i<n→P i=true
 |0,_,i,h=>by omega
 |n+1,h,i,hi=>by
  rw [allTo,Bool.and_eq_true] at h;by_cases e:i=n
  ·rw [e];exact h.1
  ·exact allTo_at n h.2 i (by omega)
def halfOK (x:Nat):Bool:=Nat.beq (x/1024%32) 31||(Nat.beq (widen (h2s x) 8 23) (widen x 5 10)&&Nat.blt (h2s x) 4294967296&& !Nat.beq (h2s x/8388608%256) 255)
theorem half_tab:allTo (fun i=>allTo (fun j=>halfOK (i*256+j)) 256) 256=true:=by kernel_rfl
theorem half_fin (x:Nat) (hx:x<65536) (hf:x/1024%32≠31):widen (h2s x) 8 23=widen x 5 10∧h2s x<4294967296∧h2s x/8388608%256≠255:=by
 have h:=allTo_at 256 (allTo_at 256 half_tab (x/256) (by omega)) (x%256) (by omega)
 rw [show x/256*256+x%256=x by omega] at h
 unfold halfOK at h;simp only [Bool.or_eq_true,Bool.and_eq_true,Bool.not_eq_true',Nat.beq_eq,Nat.blt_eq] at h;rcases h with h|⟨⟨h1,h2⟩,h3⟩
 ·exact absurd h hf
 ·refine ⟨h1,h2,fun e=> ?_⟩
  rw [e] at h3;exact absurd h3 (by decide)
end Go.Proofs.YteodinhkhhaafaaGreatDoor
