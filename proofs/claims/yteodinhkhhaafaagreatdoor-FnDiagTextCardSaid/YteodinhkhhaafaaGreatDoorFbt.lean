/- Walks of the program, and plain facts. -/
import Derived.Test.YteodinhkhhaafaaGreatDoorFbs
set_option linter.unusedVariables false
set_option linter.unusedSimpArgs false
set_option maxRecDepth 100000
set_option maxHeartbeats 6400000
namespace Go.Proofs.YteodinhkhhaafaaGreatDoor
section
open Go.RowKit
def Held (b:Nat) (w W:World):Prop:=Fr [b] w W∧ ∃a0 a1 a2 a3 a4 a5 a6 a7,W.heap[b]? =some (.cells #[a0,a1,a2,a3,a4,a5,a6,a7] 45 (0,0))
theorem Held.drew {b:Nat} {w W:World} (h:Held b w W):Held b w W.drew:=⟨h.1.drew,h.2⟩
theorem Held.drewN {b:Nat} {w W:World} (h:Held b w W) (n:Nat):Held b w (W.drewN n):=⟨h.1.drewN n,h.2⟩
theorem Held.fr {b:Nat} {w W W':World} (h:Held b w W) (hf:Fr [] W W'):Held b w W':=by
 obtain ⟨h1,a0,a1,a2,a3,a4,a5,a6,a7,h2⟩:=h;exact ⟨h1.trans (hf.mono (by simp)),a0,a1,a2,a3,a4,a5,a6,a7,hf.blk h2 (by simp)⟩
theorem put8_blk {W:World} {b:Nat} {u0 u1 u2 u3 u4 u5 u6 u7:Value} (h:W.heap[b]? =some (.cells #[u0,u1,u2,u3,u4,u5,u6,u7] 45 (0,0))) (a0 a1 a2 a3 a4 a5 a6 a7:Value):
  (put8 W b a0 a1 a2 a3 a4 a5 a6 a7).heap[b]? =some (.cells #[a0,a1,a2,a3,a4,a5,a6,a7] 45 (0,0)):=by
 have h0:(W.setCell ⟨b,0,none⟩ a0).heap[b]? =some (.cells #[a0,u1,u2,u3,u4,u5,u6,u7] 45 (0,0)):=blk_setCell h 0 a0;have h1:((W.setCell ⟨b,0,none⟩ a0).setCell ⟨b,1,none⟩ a1).heap[b]? =some (.cells #[a0,a1,u2,u3,u4,u5,u6,u7] 45 (0,0)):=blk_setCell h0 1 a1;have h2:(((W.setCell ⟨b,0,none⟩ a0).setCell ⟨b,1,none⟩ a1).setCell ⟨b,2,none⟩ a2).heap[b]? =some (.cells #[a0,a1,a2,u3,u4,u5,u6,u7] 45 (0,0)):=blk_setCell h1 2 a2;have h3:((((W.setCell ⟨b,0,none⟩ a0).setCell ⟨b,1,none⟩ a1).setCell ⟨b,2,none⟩ a2).setCell ⟨b,3,none⟩ a3).heap[b]? =some (.cells #[a0,a1,a2,a3,u4,u5,u6,u7] 45 (0,0)):=blk_setCell h2 3 a3;have h4:(((((W.setCell ⟨b,0,none⟩ a0).setCell ⟨b,1,none⟩ a1).setCell ⟨b,2,none⟩ a2).setCell ⟨b,3,none⟩ a3).setCell ⟨b,4,none⟩ a4).heap[b]? =some (.cells #[a0,a1,a2,a3,a4,u5,u6,u7] 45 (0,0)):=blk_setCell h3 4 a4;have h5:((((((W.setCell ⟨b,0,none⟩ a0).setCell ⟨b,1,none⟩ a1).setCell ⟨b,2,none⟩ a2).setCell ⟨b,3,none⟩ a3).setCell ⟨b,4,none⟩ a4).setCell ⟨b,5,none⟩ a5).heap[b]? =some (.cells #[a0,a1,a2,a3,a4,a5,u6,u7] 45 (0,0)):=blk_setCell h4 5 a5;have h6:(((((((W.setCell ⟨b,0,none⟩ a0).setCell ⟨b,1,none⟩ a1).setCell ⟨b,2,none⟩ a2).setCell ⟨b,3,none⟩ a3).setCell ⟨b,4,none⟩ a4).setCell ⟨b,5,none⟩ a5).setCell ⟨b,6,none⟩ a6).heap[b]? =some (.cells #[a0,a1,a2,a3,a4,a5,a6,u7] 45 (0,0)):=blk_setCell h5 6 a6;have h7:((((((((W.setCell ⟨b,0,none⟩ a0).setCell ⟨b,1,none⟩ a1).setCell ⟨b,2,none⟩ a2).setCell ⟨b,3,none⟩ a3).setCell ⟨b,4,none⟩ a4).setCell ⟨b,5,none⟩ a5).setCell ⟨b,6,none⟩ a6).setCell ⟨b,7,none⟩ a7).heap[b]? =some (.cells #[a0,a1,a2,a3,a4,a5,a6,a7] 45 (0,0)):=blk_setCell h6 7 a7;exact h7
theorem Held.put {b:Nat} {w W:World} (h:Held b w W) (a0 a1 a2 a3 a4 a5 a6 a7:Value):Held b w (put8 W b a0 a1 a2 a3 a4 a5 a6 a7):=by
 obtain ⟨h1,u0,u1,u2,u3,u4,u5,u6,u7,h2⟩:=h;exact ⟨h1.trans (Fr.put8 W b a0 a1 a2 a3 a4 a5 a6 a7),_,_,_,_,_,_,_,_,put8_blk h2 a0 a1 a2 a3 a4 a5 a6 a7⟩
end
end Go.Proofs.YteodinhkhhaafaaGreatDoor
