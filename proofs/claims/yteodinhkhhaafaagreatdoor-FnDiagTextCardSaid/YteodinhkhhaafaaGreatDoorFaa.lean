/- Walks of the program, and plain facts. -/
import Derived.Lib.Hide
import Derived.Test.YteodinhkhhaafaaGreatDoorProg
import Derived.WalkKit
import Derived.BigQuiet
import Derived.Deep.QuietTactic
import Derived.Deep.LoopGhost
import Derived.Deep.DeepFit
import Derived.Deep.DeepCutAuto
import Derived.Deep.RegionLaw
import Derived.Deep.RegionHeld3
import Derived.StillTailTactics
import Derived.Outline
import Derived.WalkLawsBesides
import Derived.WalkSpells
import Derived.Laws.BitsAllLaws
import Derived.Laws.BitsLemmas
import Derived.KernelRfl
import Derived.Laws.IdiomStrings
import Derived.LoopTactic
import Derived.Lib.AppendStr
import Derived.OwnWalk
import Derived.RegionTactic
import Derived.Lib.BufferRead
import Derived.WideMake
set_option linter.unusedVariables false
set_option linter.unusedSimpArgs false
set_option maxRecDepth 100000
set_option maxHeartbeats 6400000
namespace Go.Proofs.YteodinhkhhaafaaGreatDoor
theorem Hz {p:Prop} (h:p):Go.RowKit.Hid p:=Lib.hid h
section
open Go.RowKit
structure Fr (S:List Nat) (w w':World):Prop where
 os:w'.os=w.os
 tape:w'.tape=w.tape
 output:w'.output=w.output
 size:w.heap.size≤w'.heap.size
 block: ∀k,k<w.heap.size→k∉S→w'.heap[k]? =w.heap[k]?
section
variable {S T:List Nat} {w w' w'':World}
theorem Fr.refl (S:List Nat) (w:World):Fr S w w:=⟨rfl,rfl,rfl,Nat.le_refl _,fun _ _ _=>rfl⟩
theorem Fr.mono (h:Fr S w w') (hs: ∀k,k∈S→k∈T):Fr T w w':=⟨h.os,h.tape,h.output,h.size,fun k hk hn=>h.block k hk (fun e=>hn (hs k e))⟩
theorem Fr.then_ (h:Fr S w w') (g:Fr T w' w'') (hs: ∀k,k∈T→k∈S∨w.heap.size≤k):Fr S w w'':=
 ⟨g.os.trans h.os,g.tape.trans h.tape,g.output.trans h.output,Nat.le_trans h.size g.size,
  fun k hk hn=>(g.block k (Nat.lt_of_lt_of_le hk h.size) (fun e=>(hs k e).elim hn (fun h2=>by omega))).trans (h.block k hk hn)⟩
theorem Fr.trans (h:Fr S w w') (g:Fr S w' w''):Fr S w w'':=h.then_ g (fun _ hk=> .inl hk)
theorem Fr.then0 (h:Fr S w w') (g:Fr [] w' w''):Fr S w w'':=h.then_ g (by simp)
theorem Fr.drewN (h:Fr S w w') (n:Nat):Fr S w (w'.drewN n):=⟨h.os,h.tape,h.output,h.size,h.block⟩
theorem Fr.drew (h:Fr S w w'):Fr S w w'.drew:=⟨h.os,h.tape,h.output,h.size,h.block⟩
theorem Fr.alloc (h:Fr S w w') (o:Obj):Fr S w (w'.alloc o):=
 h.then_ (T:=[]) ⟨rfl,rfl,rfl,by simp,fun k hk _=>Below.heap_alloc _ _ _ hk⟩ (by simp)
theorem Fr.setCell (h:Fr S w w') {p:Addr} (hp:p.block∈S∨w.heap.size≤p.block) (u:Value):Fr S w (w'.setCell p u):=
 h.then_ (T:=[p.block]) ⟨rfl,rfl,rfl,by simp [World.setCell],fun k hk hn=>Below.heap_setCell _ _ _ _ (by simpa using hn)⟩ (by intro k hk;simp at hk;subst hk;exact hp)
theorem Fr.below (h:Fr [] w w'):Below w.heap.size w w':=⟨h.os,h.tape,h.output,h.size,fun k hk=>h.block k hk (by simp)⟩
theorem Fr.grown {row:Option Nat} (h:Fr S w w') (hg:w'.grownBy w'' row) (hr: ∀k,row=some k→k∈S∨w.heap.size≤k):Fr S w w'':=
 h.then_ (T:=row.toList) ⟨hg.os,hg.tape,hg.output,hg.size,fun k hk hn=>hg.block k hk (fun e=>hn (by rw [←e];simp))⟩ (by intro k hk;exact hr k (by simpa using hk))
theorem Fr.blk (h:Fr S w w') {k:Nat} {o:Obj} (hb:w.heap[k]? =some o) (hn:k∉S):w'.heap[k]? =some o:=
 (h.block k (Array.getElem?_eq_some_iff.1 hb).1 hn).trans hb
theorem Fr.cell (h:Fr S w w') {p:Addr} {v:Value} (hc:w.cell? p=some v) (hn:p.block∉S):w'.cell? p=some v:=
 (World.cell?_of_block (w:=w) (h.block p.block (World.block_lt_of_cell? w p hc) hn)).trans hc
theorem Fr.frozen (h:Fr S w w') {p:Addr} (hl:p.block<w.heap.size) (hn:p.block∉S):w'.frozen? p=w.frozen? p:=
 World.frozen?_of_block (w:=w) (h.block p.block hl hn)
theorem Fr.own (h:Fr S w w') {base n size:Nat} {e:TypeId} {v:Value} {xs:List Value} (ho:w.ownsRow base e size v n xs) (hn: ∀k,v.ownBlock=some k→k∉S):w'.ownsRow base e size v n xs:=by
 obtain ⟨h1,h2⟩:=ho;refine ⟨h1,?_⟩
 rcases h2 with h2|⟨g,cap,cur,rfl,hg,hh,r⟩
 ·exact .inl h2
 ·exact .inr ⟨g,cap,cur,rfl,hg,h.blk hh (hn g rfl),r⟩
end
theorem cell_blk {w:World} {b:Nat} {cs:Array Value} {t:TypeId} {fr:Nat×Nat} (h:w.heap[b]? =some (.cells cs t fr)) (i:Nat):w.cell? ⟨b,i,none⟩=cs[i]? :=by simp [World.cell?,h]
theorem frozen_blk {w:World} {b:Nat} {cs:Array Value} {t:TypeId} (h:w.heap[b]? =some (.cells cs t (0,0))) (i:Nat):w.frozen? ⟨b,i,none⟩=false:=by simp [World.frozen?,h]
theorem blk_lt' {w:World} {b:Nat} {o:Obj} (h:w.heap[b]? =some o):b<w.heap.size:=(Array.getElem?_eq_some_iff.1 h).1
theorem blk_setCell {w:World} {b:Nat} {cs:Array Value} {t:TypeId} {fr:Nat×Nat} (h:w.heap[b]? =some (.cells cs t fr)) (i:Nat) (u:Value):(w.setCell ⟨b,i,none⟩ u).heap[b]? =some (.cells (cs.setIfInBounds i u) t fr):=by
 simp [World.setCell,Array.getElem?_modify,h]
theorem blk_setCell_ne {w:World} {b:Nat} {o:Obj} (h:w.heap[b]? =some o) {p:Addr} (hp:b≠p.block) (u:Value):(w.setCell p u).heap[b]? =some o:=(Below.heap_setCell _ _ _ _ hp).trans h
theorem blk_alloc {w:World} {b:Nat} {o:Obj} (h:w.heap[b]? =some o) (o':Obj):(w.alloc o').heap[b]? =some o:=(Below.heap_alloc _ _ _ (blk_lt' h)).trans h
theorem blk_new (w:World) (o:Obj):(w.alloc o).heap[w.heap.size]? =some o:=by
 show (w.heap.push o)[w.heap.size]? =_
 simp
theorem quiet2 {P:Program} {f:FuncId} {args:Array Value} {w:World} {a n:Nat} {v:Value} (h:Calls P f args (w.drewN (a+n)) fun e w'=>e= .returned v∧ ∃m,w'=(w.drewN (a+n)).drewN m):
  Calls P f args (w.drewN (a+n)) fun e w''=>e= .returned v∧ ∃m,w''=w.drewN (a+m):=
 h.mono fun _ _ hh=>⟨hh.1,by obtain ⟨m,hm⟩:=hh.2;exact ⟨n+m,by rw [hm,World.drewN_drewN,Nat.add_assoc]⟩⟩
theorem quiet_same {P:Program} {f:FuncId} {args:Array Value} {w:World} {v:Value} (h:Calls P f args w fun e w'=>e= .returned v∧w'=w):Calls P f args w fun e w'=>e= .returned v∧ ∃m,w'=w.drewN m:=
 h.mono fun _ _ hh=>⟨hh.1,0,hh.2⟩
def Rd (w:World) (b o:Nat) (xs:List UInt8):Prop:= ∀j,(h:j<xs.length)→w.cell? ⟨b,o+j,none⟩=some (.int .u8 (xs[j].toNat:Int))
theorem Rd.fr {S:List Nat} {w w':World} {b o:Nat} {xs:List UInt8} (h:Rd w b o xs) (hf:Fr S w w') (hn:b∉S):Rd w' b o xs:=fun j hj=>hf.cell (h j hj) hn
theorem Rd.drop {w:World} {b o:Nat} {xs:List UInt8} (h:Rd w b o xs) (k:Nat):Rd w b (o+k) (xs.drop k):=fun j hj=>by
 have hj':k+j<xs.length:=by simp at hj;omega
 have:=h (k+j) hj';rw [Nat.add_assoc,this];simp
theorem Rd.take {w:World} {b o:Nat} {xs:List UInt8} (h:Rd w b o xs) (k:Nat):Rd w b o (xs.take k):=fun j hj=>by
 have hj':j<xs.length:=by simp at hj;omega
 rw [h j hj'];simp
theorem Rd.nil (w:World) (b o:Nat):Rd w b o []:=fun j hj=>absurd hj (by simp)
def enc (xs:List UInt8):List Value:=xs.map fun c=> .int .u8 (c.toNat:Int)
theorem enc_length (xs:List UInt8):(enc xs).length=xs.length:=by simp [enc]
theorem enc_append (xs ys:List UInt8):enc (xs++ys)=enc xs++enc ys:=by simp [enc]
theorem Rd.cells {w:World} {b o:Nat} {xs:List UInt8} (h:Rd w b o xs): ∀j u,(enc xs)[j]? =some u→w.cell? ((⟨b,o,none⟩:Addr).add j)=some u:=by
 intro j u hu;have hj:j<xs.length:=by have:=(List.getElem?_eq_some_iff.1 hu).1;simpa [enc] using this
 have ha:(⟨b,o,none⟩:Addr).add j=⟨b,o+j,none⟩:=by unfold Addr.add;split<;>simp_all
 rw [ha,h j hj];simp [enc,hj] at hu;rw [←hu]
theorem Rd.of_own {w:World} {base:Nat} {e:TypeId} {g cap n:Nat} {xs:List UInt8} (h:w.ownsRow base e 1 (.slice (some ⟨g,0,none⟩) n cap) n (enc xs)):Rd w g 0 xs:=fun j hj=>by
 have:=h.cells (g:=g) rfl j (.int .u8 (xs[j].toNat:Int)) (by simp [enc,hj])
 have ha:(⟨g,0,none⟩:Addr).add j=⟨g,0+j,none⟩:=by unfold Addr.add;split<;>simp_all
 rwa [ha] at this
theorem toStr {w:World} {b o:Nat} {xs:List UInt8} (h:Rd w b o xs) (c:Nat):(convert 59 9 (.slice (some ⟨b,o,none⟩) xs.length c)).run Tryz.prog w= .ok (.string ⟨xs.toArray⟩) w:=
 run_convert_bytes_back w 59 9 5 ⟨b,o,none⟩ c xs Tryz.underlying59 Tryz.underlying5 Tryz.underlying9 fun j hj=>by
  have ha:(⟨b,o,none⟩:Addr).add j=⟨b,o+j,none⟩:=by unfold Addr.add;split<;>simp_all
  rw [ha];exact h j hj
theorem and224 (b:UInt8):bits .and .u8 (b.toNat:Int) 224=((b.toNat/32*32:Nat):Int):=by
 have hb:=b.toNat_lt;rw [show (224:Int)=((224:Nat):Int) from rfl,u8_and_nat _ _ (by omega) (by decide)]
 have key: ∀x:Fin 256,(x.val&&&224)=x.val/32*32:=by decide+kernel
 exact congrArg _ (key ⟨b.toNat,hb⟩)
theorem and31 (b:UInt8):bits .and .u8 (b.toNat:Int) 31=((b.toNat%32:Nat):Int):=by
 have hb:=b.toNat_lt;rw [u8_and31 (x:=(b.toNat:Int)) (by omega) (by omega)]
 omega
theorem parseInitialByte (b:UInt8) (w:World):
  Calls Tryz.prog 160 #[.int .u8 (b.toNat:Int)] w fun e w'=>e= .returned (.tuple #[.int .u8 ((b.toNat/32*32:Nat):Int),.int .u8 ((b.toNat%32:Nat):Int)])∧w'=w:=by
 rw [←and224,←and31];go_enter Tryz.func160,Tryz.ntmps160
 go_wp2
 go_ret2
 exact ⟨rfl,rfl⟩
theorem getType (b:UInt8) (w:World):
  Calls Tryz.prog 158 #[.int .u8 (b.toNat:Int)] w fun e w'=>e= .returned (.int .u8 ((b.toNat/32*32:Nat):Int))∧w'=w:=by
 rw [←and224];go_enter Tryz.func158,Tryz.ntmps158
 go_wp2;go_ret
 exact ⟨rfl,rfl⟩
theorem isBreakFlag (b:UInt8) (w:World):
  Calls Tryz.prog 117 #[.int .u8 (b.toNat:Int)] w fun e w'=>e= .returned (.bool ((b.toNat:Int)==255))∧w'=w:=by
 go_enter Tryz.func117,Tryz.ntmps117
 go_wp2;go_ret
 exact ⟨rfl,rfl⟩
end
section
set_option exponentiation.threshold 3000
def dv (l:List Nat):Nat:=l.foldl (fun a d=>a*10+d) 0
theorem dv_from: ∀(l:List Nat) (a:Nat),l.foldl (fun a d=>a*10+d) a=a*10^l.length+dv l
 |[],a=>by simp [dv]
 |d::l,a=>by
  have h1:=dv_from l (a*10+d);have h2:=dv_from l (0*10+d);rw [List.foldl_cons,h1];unfold dv;rw [List.foldl_cons,h2,List.length_cons,Nat.pow_succ];unfold dv;rw [Nat.add_mul,Nat.add_mul,Nat.mul_assoc,Nat.mul_comm 10];omega
theorem dv_nil:dv []=0:=rfl
theorem dv_append (l m:List Nat):dv (l++m)=dv l*10^m.length+dv m:=by
 unfold dv;rw [List.foldl_append,dv_from]
 rfl
theorem dv_snoc (l:List Nat) (d:Nat):dv (l++[d])=dv l*10+d:=by simp [dv]
theorem dv_cons (d:Nat) (l:List Nat):dv (d::l)=d*10^l.length+dv l:=by
 have:=dv_append [d] l
 simpa [dv] using this
theorem dv_lt: ∀(l:List Nat),(∀d,d∈l→d<10)→dv l<10^l.length
 |[],_=>by simp [dv]
 |d::l,h=>by
  have ih:=dv_lt l (fun x hx=>h x (by simp [hx]))
  have hd:=h d (by simp)
  have:=Nat.mul_le_mul_right (10^l.length) (show d≤9 by omega)
  rw [dv_cons,List.length_cons,Nat.pow_succ];omega
theorem dv_zeros (l:List Nat) (n:Nat):dv (l++List.replicate n 0)=dv l*10^n:=by
 have h: ∀n,dv (List.replicate n 0)=0:=fun n=>by
  induction n with
  |zero=>rfl
  |succ n ih=>rw [List.replicate_succ,dv_cons,ih];simp
 rw [dv_append,h,List.length_replicate];omega
structure NormD (d:List Nat) (dp:Int):Prop where
 lt: ∀x,x∈d→x<10
 nil:d=[]→dp=0
 hd: ∀x l,d=x::l→x≠0
 last: ∀x l,d=l++[x]→x≠0
def dV (d:List Nat) (dp:Int):Nat:=dv d*10^(dp-d.length+1100).toNat
theorem dv_pos {d:List Nat} {dp:Int} (h:NormD d dp) (hn:d≠[]):10^(d.length-1)≤dv d:=by
 cases d with
 |nil=>exact absurd rfl hn
 |cons x l=>
  have hx:=h.hd x l rfl;rw [dv_cons,List.length_cons,Nat.add_sub_cancel];have:=Nat.mul_le_mul_right (10^l.length) (show 1≤x by omega)
  omega
theorem dV_zero {d:List Nat} {dp:Int} (h:NormD d dp):dV d dp=0↔d=[]:=by
 constructor
 ·intro h0;by_cases hn:d=[]
  ·exact hn
  ·have h1:=dv_pos h hn;have h2:0<10^(d.length-1):=Nat.pow_pos (by omega)
   have h3:0<10^(dp-d.length+1100).toNat:=Nat.pow_pos (by omega)
   unfold dV at h0;rcases Nat.mul_eq_zero.1 h0 with h|h<;>omega
 ·rintro rfl;simp [dV,dv]
theorem dv_inj: ∀(n:Nat) (a b:List Nat),a.length=n→(∀x,x∈a→x<10)→(∀x,x∈b→x<10)→(∀x l,a=x::l→x≠0)→(∀x l,b=x::l→x≠0)→dv a=dv b→a=b:=by
 intro n
 induction n with
 |zero=>
  intro a b hl ha hb ha0 hb0 h;have:a=[]:=List.eq_nil_of_length_eq_zero hl;subst this;cases b with
  |nil=>rfl
  |cons x l=>
   have hx:=hb0 x l rfl;rw [dv_nil,dv_cons] at h;have h2:0<10^l.length:=Nat.pow_pos (by omega)
   have:=Nat.mul_pos (show 0<x by omega) h2
   omega
 |succ n ih=>
  intro a b hl ha hb ha0 hb0 h;rcases List.eq_nil_or_concat a with rfl|⟨a',x,rfl⟩
  ·simp at hl
  ·rw [List.concat_eq_append] at *
   rcases List.eq_nil_or_concat b with rfl|⟨b',y,rfl⟩
   ·cases ha':a'++[x] with
    |nil=>simp at ha'
    |cons z l=>
     have hz:=ha0 z l ha';rw [ha',dv_nil,dv_cons] at h;have h2:0<10^l.length:=Nat.pow_pos (by omega)
     have:=Nat.mul_pos (show 0<z by omega) h2
     omega
   ·rw [List.concat_eq_append] at *
    rw [dv_snoc,dv_snoc] at h;have hx:=ha x (by simp)
    have hy:=hb y (by simp)
    obtain rfl:x=y:=by omega
    have:=ih a' b' (by simpa using hl) (fun z hz=>ha z (by simp [hz])) (fun z hz=>hb z (by simp [hz])) (fun z l e=>ha0 z (l++[x]) (by rw [e];rfl)) (fun z l e=>hb0 z (l++[x]) (by rw [e];rfl)) (by omega)
    rw [this]
theorem norm_inj {a b:List Nat} {p q:Int} (ha:NormD a p) (hb:NormD b q) (la: -1100≤p-a.length) (lb: -1100≤q-b.length) (h:dV a p=dV b q):a=b∧p=q:=by
 by_cases ha0:a=[]
 ·have hb0:b=[]:=(dV_zero hb).1 (by rw [←h];exact (dV_zero ha).2 ha0)
  exact ⟨ha0.trans hb0.symm,(ha.nil ha0).trans (hb.nil hb0).symm⟩
 ·have hb0:b≠[]:=fun e=>ha0 ((dV_zero ha).1 (by rw [h];exact (dV_zero hb).2 e))
  have key: ∀{a b:List Nat} {p q:Int},NormD a p→NormD b q→ -1100≤p-a.length→ -1100≤q-b.length→dV a p=dV b q→b≠[]→ ¬q-b.length<p-a.length:=by
   intro a b p q ha hb la lb h hb0 hlt;obtain ⟨k,hk⟩: ∃k:Nat,(p-a.length+1100).toNat=(q-b.length+1100).toNat+(k+1):=⟨((p-a.length)-(q-b.length)-1).toNat,by omega⟩
   unfold dV at h;rw [hk,Nat.pow_add,Nat.mul_comm (10^_) (10^(k+1)),←Nat.mul_assoc] at h;have h1:=Nat.eq_of_mul_eq_mul_right (Nat.pow_pos (by omega)) h
   rcases List.eq_nil_or_concat b with rfl|⟨b',y,rfl⟩
   ·exact hb0 rfl
   ·rw [List.concat_eq_append] at *
    have hy:=hb.last y b' rfl;have hy2:=hb.lt y (by simp)
    rw [dv_snoc,Nat.pow_succ,←Nat.mul_assoc] at h1;omega
  have h1:=key ha hb la lb h hb0;have h2:=key hb ha lb la h.symm ha0;have he:p-a.length=q-b.length:=by omega
  have h':=h;unfold dV at h';rw [he] at h';have h3:=Nat.eq_of_mul_eq_mul_right (Nat.pow_pos (by omega)) h'
  have:=dv_inj a.length a b rfl ha.lt hb.lt ha.hd hb.hd h3;subst this;exact ⟨rfl,by omega⟩
theorem pow_split {p:Int} {n:Nat} (h: -1100≤p-n):10^(p+1100).toNat=10^n*10^(p-n+1100).toNat:=by
 rw [←Nat.pow_add]
 congr 1
 omega
theorem dV_lt_pow {a:List Nat} {p:Int} (h: ∀x,x∈a→x<10) (la: -1100≤p-a.length):dV a p<10^(p+1100).toNat:=by
 rw [pow_split la];exact Nat.mul_lt_mul_of_pos_right (dv_lt a h) (Nat.pow_pos (by omega))
theorem dV_ge_pow {a:List Nat} {p:Int} (h:NormD a p) (hn:a≠[]) (la: -1100≤p-a.length):10^(p-1+1100).toNat≤dV a p:=by
 have h1:=dv_pos h hn;have hl:0<a.length:=by cases a with|nil=>exact absurd rfl hn|cons x l=>simp
 have h2:10^(p-1+1100).toNat=10^(a.length-1)*10^(p-a.length+1100).toNat:=by
  rw [←Nat.pow_add]
  congr 1
  omega
 rw [h2];exact Nat.mul_le_mul_right _ h1
theorem lt_dp {a b:List Nat} {p q:Int} (ha:NormD a p) (hb:NormD b q) (hb0:b≠[]) (la: -1100≤p-a.length) (lb: -1100≤q-b.length) (h:p<q):dV a p<dV b q:=by
 refine Nat.lt_of_lt_of_le (dV_lt_pow ha.lt la) (Nat.le_trans ?_ (dV_ge_pow hb hb0 lb))
 exact Nat.pow_le_pow_right (by omega) (by omega)
def dgt (a:List Nat) (i:Nat):Nat:=a.getD i 0
def padD (n:Nat) (a:List Nat):List Nat:=a++List.replicate (n-a.length) 0
theorem padD_length {n:Nat} {a:List Nat} (h:a.length≤n):(padD n a).length=n:=by simp [padD];omega
theorem padD_get? {n:Nat} {a:List Nat} (i:Nat) (hi:i<n):(padD n a)[i]? =some (dgt a i):=by
 unfold padD dgt;by_cases h1:i<a.length
 ·rw [List.getElem?_append_left h1,List.getD_eq_getElem?_getD,List.getElem?_eq_getElem h1];rfl
 ·rw [List.getElem?_append_right (by omega),List.getElem?_replicate,if_pos (by omega),List.getD_eq_getElem?_getD,List.getElem?_eq_none (by omega)];rfl
theorem padD_get {n:Nat} {a:List Nat} (h:a.length≤n) (i:Nat) (hi:i<(padD n a).length):(padD n a)[i]=dgt a i:=by
 have h1:=padD_get? (n:=n) (a:=a) i (by rw [padD_length h] at hi;exact hi)
 rw [List.getElem?_eq_getElem hi] at h1;exact Option.some.inj h1
theorem dV_pad {n:Nat} {a:List Nat} {p:Int} (h:a.length≤n) (hp: -1100≤p-n):dV a p=dv (padD n a)*10^(p-n+1100).toNat:=by
 unfold dV padD;rw [dv_zeros,Nat.mul_assoc,←Nat.pow_add]
 congr 2
 omega
theorem dv_lex {x y:List Nat} (hl:x.length=y.length) (hx: ∀d,d∈x→d<10) (i:Nat) (hi:i<x.length) (hp: ∀j,(h:j<i)→x[j]'(by omega)=y[j]'(by omega)) (hd:x[i]<y[i]'(by omega)):dv x<dv y:=by
 have e1:x=x.take i++(x[i]::x.drop (i+1)):=by rw [←List.drop_eq_getElem_cons hi,List.take_append_drop]
 have e2:y=y.take i++(y[i]'(by omega)::y.drop (i+1)):=by rw [←List.drop_eq_getElem_cons,List.take_append_drop]
 have e3:x.take i=y.take i:=by
  apply List.ext_getElem
  ·simp;omega
  ·intro j h1 h2;simp only [List.getElem_take];exact hp j (by simp at h1;omega)
 have h1:dv (x.drop (i+1))<10^(x.drop (i+1)).length:=dv_lt _ (fun d h=>hx d (List.mem_of_mem_drop h))
 have e4:(y.drop (i+1)).length=(x.drop (i+1)).length:=by simp;omega
 rw [e1,e2,←e3,dv_append,dv_append,List.length_cons,List.length_cons,dv_cons,dv_cons,e4];generalize 10^(x.drop (i+1)).length=T at *
 have:=Nat.mul_le_mul_right T (show x[i]+1≤y[i]'(by omega) by omega)
 rw [Nat.add_mul,Nat.one_mul] at this;omega
theorem lt_digit {a b:List Nat} {p:Int} (ha: ∀x,x∈a→x<10) (la: -1100≤p-a.length) (lb: -1100≤p-b.length) (i:Nat) (hi:i<b.length) (hp: ∀j,j<i→dgt a j=dgt b j) (hd:dgt a i<dgt b i):dV a p<dV b p:=by
 have hn: ∃n,n=max a.length b.length:=⟨_,rfl⟩;obtain ⟨n,hn⟩:=hn;have h1:a.length≤n:=by omega
 have h2:b.length≤n:=by omega
 have hpn: -1100≤p-n:=by omega
 rw [dV_pad h1 hpn,dV_pad h2 hpn];have l1:=padD_length h1;have l2:=padD_length h2;refine Nat.mul_lt_mul_of_pos_right ?_ (Nat.pow_pos (by omega))
 refine dv_lex (by omega) ?_ i (by omega) ?_ ?_
 ·intro d h;unfold padD at h;rcases List.mem_append.1 h with h|h
  ·exact ha d h
  ·have:=List.eq_of_mem_replicate h;omega
 ·intro j h;rw [padD_get h1,padD_get h2];exact hp j h
 ·rw [padD_get h1,padD_get h2];exact hd
theorem eq_digits {a b:List Nat} {p:Int} (la: -1100≤p-a.length) (lb: -1100≤p-b.length) (h: ∀j,j<a.length∨j<b.length→dgt a j=dgt b j):dV a p=dV b p:=by
 obtain ⟨n,hn⟩: ∃n,n=max a.length b.length:=⟨_,rfl⟩;have h1:a.length≤n:=by omega
 have h2:b.length≤n:=by omega
 have hpn: -1100≤p-n:=by omega
 rw [dV_pad h1 hpn,dV_pad h2 hpn]
 congr 2
 apply List.ext_getElem
 ·rw [padD_length h1,padD_length h2]
 ·intro j h3 h4;rw [padD_get h1,padD_get h2];by_cases hj:j<a.length∨j<b.length
  ·exact h j hj
  ·unfold dgt;rw [List.getD_eq_getElem?_getD,List.getD_eq_getElem?_getD,List.getElem?_eq_none (by omega),List.getElem?_eq_none (by omega)]
def trimN (l:List Nat):Nat→List Nat
 |0=>[]
 |k+1=>if dgt l k=0 then trimN l k else l.take (k+1)
def trimD (l:List Nat):List Nat:=trimN l l.length
def normD (d:List Nat) (dp:Int):List Nat×Int:=(trimD d,if trimD d=[] then 0 else dp)
theorem trimN_spec (l:List Nat): ∀k,k≤l.length→ ∃j,j≤k∧trimN l k=l.take j∧(∀i,j≤i→i<k→dgt l i=0)∧(0<j→dgt l (j-1)≠0)
 |0,_=>⟨0,Nat.le_refl _,by simp [trimN],fun i h1 h2=>by omega,fun h=>by omega⟩
 |k+1,h=>by
  rw [trimN];by_cases h0:dgt l k=0
  ·rw [if_pos h0];obtain ⟨j,h1,h2,h3,h4⟩:=trimN_spec l k (by omega)
   refine ⟨j,by omega,h2,fun i a b=> ?_,h4⟩
   by_cases e:i=k
   ·rw [e];exact h0
   ·exact h3 i a (by omega)
  ·rw [if_neg h0];exact ⟨k+1,Nat.le_refl _,rfl,fun i a b=>by omega,fun _=>h0⟩
theorem dgt_lt {l:List Nat} {i:Nat} (h:i<l.length):dgt l i=l[i]:=by
 unfold dgt;rw [List.getD_eq_getElem?_getD,List.getElem?_eq_getElem h];rfl
theorem trim_norm {d:List Nat} {dp:Int} (hlt: ∀x,x∈d→x<10) (hh: ∀x l,d=x::l→x≠0) (lo: -1100≤dp-d.length):
  NormD (normD d dp).1 (normD d dp).2∧dV (normD d dp).1 (normD d dp).2=dV d dp∧(normD d dp).1.length≤d.length∧(d≠[]→(normD d dp).2=dp):=by
 obtain ⟨j,h1,h2,h3,h4⟩:=trimN_spec d d.length (Nat.le_refl _);have hl:(d.take j).length=j:=by simp;omega
 have he:trimD d=d.take j:=h2;unfold normD;rw [he];dsimp only;have hne:d≠[]→j≠0:=by
  intro hd e;subst e;cases d with
  |nil=>exact hd rfl
  |cons x l=>
   have:=h3 0 (Nat.le_refl _) (by simp)
   exact hh x l rfl this
 refine ⟨⟨fun x hx=>hlt x (List.mem_of_mem_take hx),fun e=>if_pos e,?_,?_⟩,?_,by rw [hl];exact h1,?_⟩
 ·intro x l e;cases d with
  |nil=>simp at e
  |cons y m=>
   cases j with
   |zero=>simp at e
   |succ j=>simp at e;exact e.1▸hh y m rfl
 ·intro x l e;have hj:j=l.length+1:=by rw [←hl,e];simp
  have:=h4 (by omega)
  have hx:dgt d (j-1)=x:=by
   rw [dgt_lt (by omega)]
   have h5:(d.take j)[j-1]'(by rw [hl];omega)=d[j-1]'(by omega):=List.getElem_take
   rw [←h5];simp only [e];rw [List.getElem_append_right (by omega)]
   simp [hj]
  rw [←hx];exact this
 ·by_cases hd:d=[]
  ·subst hd;simp [dV,dv]
  ·have hj:=hne hd;have ht:d.take j≠[]:=by intro e;rw [e] at hl;simp at hl;omega
   rw [if_neg ht];refine eq_digits (by rw [hl];omega) lo ?_
   intro i hi;by_cases hij:i<j
   ·rw [dgt_lt (by rw [hl];exact hij),dgt_lt (by omega),List.getElem_take]
   ·rw [h3 i (by omega) (by omega)]
    unfold dgt;rw [List.getD_eq_getElem?_getD,List.getElem?_eq_none (by omega)];rfl
 ·intro hd;have hj:=hne hd;exact if_neg (fun e=>by rw [e] at hl;simp at hl;omega)
def downF (d:List Nat) (dp:Int) (n:Nat):List Nat×Int:=if d.length≤n then (d,dp) else normD (d.take n) dp
def lastUp (d:List Nat):Nat→Option Nat
 |0=>none
 |k+1=>if dgt d k<9 then some k else lastUp d k
def upF (d:List Nat) (dp:Int) (n:Nat):List Nat×Int:=
 if d.length≤n then (d,dp) else match lastUp d n with
 |some i=>(d.take i++[dgt d i+1],dp)
 |none=>([1],dp+1)
theorem lastUp_spec (d:List Nat): ∀n,(∃i,i<n∧lastUp d n=some i∧dgt d i<9)∨lastUp d n=none
 |0=> .inr rfl
 |k+1=>by
  rw [lastUp];by_cases h:dgt d k<9
  ·rw [if_pos h];exact .inl ⟨k,by omega,rfl,h⟩
  ·rw [if_neg h];rcases lastUp_spec d k with ⟨i,h1,h2,h3⟩|h1
   ·exact .inl ⟨i,by omega,h2,h3⟩
   ·exact .inr h1
theorem down_spec {d:List Nat} {dp:Int} (h:NormD d dp) (la: -1100≤dp-d.length) (n:Nat):NormD (downF d dp n).1 (downF d dp n).2∧dV (downF d dp n).1 (downF d dp n).2≤dV d dp∧(downF d dp n).1.length≤d.length∧((downF d dp n).1≠[]→(downF d dp n).2=dp):=by
 unfold downF;by_cases hn:d.length≤n
 ·rw [if_pos hn];exact ⟨h,Nat.le_refl _,Nat.le_refl _,fun _=>rfl⟩
 ·rw [if_neg hn];have hl:(d.take n).length=n:=by simp;omega
  obtain ⟨h1,h2,h3,h4⟩:=trim_norm (d:=d.take n) (dp:=dp) (fun x hx=>h.lt x (List.mem_of_mem_take hx)) (fun x l e=>by
   cases d with
   |nil=>simp at e
   |cons y m=>
    cases n with
    |zero=>simp at e
    |succ n=>simp at e;exact e.1▸h.hd y m rfl) (by rw [hl];omega)
  refine ⟨h1,?_,by omega,fun hne=>h4 (fun e=>hne ?_)⟩
  ·rw [h2];have e:d=d.take n++d.drop n:=(List.take_append_drop n d).symm;have e2:dv d=dv (d.take n)*10^(d.length-n)+dv (d.drop n):=by
    conv=>lhs;rw [e]
    rw [dv_append,List.length_drop]
   unfold dV;rw [hl,e2];have e3:10^(dp-n+1100).toNat=10^(d.length-n)*10^(dp-d.length+1100).toNat:=by
    rw [←Nat.pow_add];congr 1;omega
   rw [e3,←Nat.mul_assoc];exact Nat.mul_le_mul_right _ (by omega)
  ·rw [e] at h3 ⊢;simp [normD,trimD,trimN]
theorem up_spec {d:List Nat} {dp:Int} (h:NormD d dp) (la: -1100≤dp-d.length) (n:Nat) (hn:n<d.length):NormD (upF d dp n).1 (upF d dp n).2∧dV d dp<dV (upF d dp n).1 (upF d dp n).2∧(upF d dp n).1.length≤d.length∧ -1100≤(upF d dp n).2-(upF d dp n).1.length:=by
 unfold upF;rw [if_neg (by omega)]
 rcases lastUp_spec d n with ⟨i,h1,h2,h3⟩|h1
 ·rw [h2];dsimp only;have hl:(d.take i).length=i:=by simp;omega
  refine ⟨⟨?_,fun e=>by simp at e,?_,?_⟩,?_,by simp;omega,by simp;omega⟩
  ·intro x hx;rcases List.mem_append.1 hx with hx|hx
   ·exact h.lt x (List.mem_of_mem_take hx)
   ·simp at hx;omega
  ·intro x l e;cases d with
   |nil=>simp at hn
   |cons y m=>
    cases i with
    |zero=>simp at e;omega
    |succ i=>simp at e;exact e.1▸h.hd y m rfl
  ·intro x l e;have:=(List.append_inj' e (by simp)).2
   simp at this;omega
  ·have e:d=d.take i++(d[i]::d.drop (i+1)):=by rw [←List.drop_eq_getElem_cons (by omega),List.take_append_drop]
   have hr:dv (d.drop (i+1))<10^(d.length-(i+1)):=by
    have:=dv_lt (d.drop (i+1)) (fun x hx=>h.lt x (List.mem_of_mem_drop hx))
    rwa [List.length_drop] at this
   have e2:dv d=(dv (d.take i)*10+d[i])*10^(d.length-(i+1))+dv (d.drop (i+1)):=by
    conv=>lhs;rw [e]
    rw [dv_append,List.length_cons,dv_cons,List.length_drop,Nat.pow_succ,Nat.add_mul,Nat.mul_comm (10^_) 10,Nat.mul_assoc];omega
   unfold dV;rw [List.length_append,hl,dv_snoc,e2,dgt_lt (by omega)]
   have e3:10^(dp-((i+[d[i]+1].length:Nat):Int)+1100).toNat=10^(d.length-(i+1))*10^(dp-d.length+1100).toNat:=by
    rw [←Nat.pow_add];congr 1;simp;omega
   rw [e3,←Nat.mul_assoc];refine Nat.mul_lt_mul_of_pos_right ?_ (Nat.pow_pos (by omega))
   rw [show dv (d.take i)*10+(d[i]+1)=(dv (d.take i)*10+d[i])+1 by omega,Nat.add_mul _ 1,Nat.one_mul]
   omega
 ·rw [h1];dsimp only;refine ⟨⟨by simp,by simp,by simp,?_⟩,?_,by simp;omega,by simp;omega⟩
  ·intro x l e;cases l with
   |nil=>simp at e;omega
   |cons y m=>simp at e
  ·have h2:=dV_lt_pow h.lt la;have h3:dV [1] (dp+1)=10^(dp+1100).toNat:=by
    unfold dV;simp only [dv,List.foldl_cons,List.foldl_nil,List.length_cons,List.length_nil];rw [show dp+1-((0+1:Nat):Int)+1100=dp+1100 by omega]
    omega
   rw [h3];exact h2
def pre (d:List Nat) (i:Nat):Nat:=dv (d.take i)*10^(i-d.length)
theorem pre_zero (d:List Nat):pre d 0=0:=by simp [pre,dv]
theorem pre_succ (d:List Nat) (i:Nat):pre d (i+1)=pre d i*10+dgt d i:=by
 unfold pre;by_cases h:i<d.length
 ·rw [show i+1-d.length=0 by omega,show i-d.length=0 by omega,dgt_lt h,List.take_succ_eq_append_getElem h,dv_snoc]
  simp
 ·rw [show i+1-d.length=(i-d.length)+1 by omega,Nat.pow_succ,List.take_of_length_le (by omega),List.take_of_length_le (by omega)]
  have:dgt d i=0:=by
   unfold dgt;rw [List.getD_eq_getElem?_getD,List.getElem?_eq_none (by omega)];rfl
  rw [this,←Nat.mul_assoc];omega
theorem pre_end {d:List Nat} {i:Nat} (h:d.length≤i):pre d i=dv d*10^(i-d.length):=by
 unfold pre;rw [List.take_of_length_le h]
theorem dgt_le {d:List Nat} (h: ∀x,x∈d→x<10) (i:Nat):dgt d i<10:=by
 by_cases hi:i<d.length
 ·rw [dgt_lt hi];exact h _ (List.getElem_mem hi)
 ·unfold dgt;rw [List.getD_eq_getElem?_getD,List.getElem?_eq_none (by omega)]
  decide
theorem half_end {d out:List Nat} {dp:Int} {i i0 k:Nat} (hi:d.length≤i) (hp:pre d i=10*2^k*dv out) (hl:out.length+i0=i) (h0:1≤i0) (la: -1100≤dp-d.length) (lb: -1100≤dp-i):
  dV d dp=dV out (dp-((i0:Int)-1))*2^k:=by
 rw [pre_end hi] at hp;unfold dV;have e1:10^(dp-d.length+1100).toNat=10^(i-d.length)*10^(dp-i+1100).toNat:=by
  rw [←Nat.pow_add];congr 1;omega
 have e2:(dp-((i0:Int)-1)-out.length+1100).toNat=(dp-i+1100).toNat+1:=by omega
 rw [e1,e2,Nat.pow_succ,←Nat.mul_assoc,hp];generalize 10^(dp-i+1100).toNat=T;generalize dv out=Q;generalize 2^k=P;rw [Nat.mul_comm T 10,←Nat.mul_assoc,Nat.mul_right_comm (Q*10) T P,Nat.mul_comm Q 10,Nat.mul_right_comm 10 Q P]
theorem double_end {d out:List Nat} {dp:Int} {k:Nat} (hp:dv out=dv d*2^k):dV out (dp+(out.length-d.length))=dV d dp*2^k:=by
 unfold dV;rw [hp,show dp+((out.length:Int)-d.length)-out.length+1100=dp-d.length+1100 by omega,Nat.mul_right_comm]
theorem dv_reverse_snoc (out:List Nat) (x:Nat):dv (out++[x]).reverse=x*10^out.length+dv out.reverse:=by
 rw [List.reverse_append,List.reverse_singleton,List.singleton_append,dv_cons,List.length_reverse]
theorem double_step {d out:List Nat} {n k j:Nat} (hj:j<d.length) (h:dv out.reverse+n*10^out.length=dv (d.drop (j+1))*2^k) (hl:out.length=d.length-(j+1)):
  dv (out++[(n+d[j]*2^k)%10]).reverse+(n+d[j]*2^k)/10*10^(out++[(n+d[j]*2^k)%10]).length=dv (d.drop j)*2^k:=by
 rw [dv_reverse_snoc,List.length_append,List.length_singleton,Nat.pow_succ,List.drop_eq_getElem_cons hj,dv_cons,List.length_drop,←hl,Nat.add_mul,←h];generalize 10^out.length=T;have:=Nat.div_add_mod (n+d[j]*2^k) 10;generalize (n+d[j]*2^k)%10=r at *
 generalize (n+d[j]*2^k)/10=q at *
 have e:(n+d[j]*2^k)*T=(10*q+r)*T:=by rw [this]
 rw [Nat.add_mul,Nat.add_mul] at e;have e2:q*(T*10)=10*q*T:=by rw [Nat.mul_comm T 10,←Nat.mul_assoc,Nat.mul_comm q 10]
 have e3:d[j]*T*2^k=d[j]*2^k*T:=Nat.mul_right_comm _ _ _;omega
theorem double_more {out:List Nat} {n X:Nat} (h:dv out.reverse+n*10^out.length=X):dv (out++[n%10]).reverse+n/10*10^(out++[n%10]).length=X:=by
 rw [dv_reverse_snoc,List.length_append,List.length_singleton,Nat.pow_succ,←h];generalize 10^out.length=T;have:=Nat.div_add_mod n 10;have e:n*T=(10*(n/10)+n%10)*T:=by rw [this]
 rw [Nat.add_mul] at e;have e2:n/10*(T*10)=10*(n/10)*T:=by rw [Nat.mul_comm T 10,←Nat.mul_assoc,Nat.mul_comm (n/10) 10]
 omega
end
section
open Go.RowKit
def dec (n:Nat):List UInt8:=if h:n<10 then [(48+n).toUInt8] else dec (n/10)++[(48+n%10).toUInt8]
termination_by n
decreasing_by omega
theorem dec_lt (n:Nat) (h:n<10):dec n=[(48+n).toUInt8]:=by rw [dec];simp [h]
theorem dec_ge (n:Nat) (h: ¬n<10):dec n=dec (n/10)++[(48+n%10).toUInt8]:=by rw [dec];simp [h]
theorem dec_ne (n:Nat):dec n≠[]:=by
 rw [dec]
 split<;>simp
theorem digit_at: ∀j:Fin 10,((⟨#[48,49,50,51,52,53,54,55,56,57,97,98,99,100,101,102,103,104,105,106,107,108,109,110,111,112,113,114,115,116,117,118,119,120,121,122]⟩:ByteArray)[j.val]'(by have:=j.isLt;show _<36;omega)).toNat=(48+j.val).toUInt8.toNat:=by decide
def Left (n0 n i:Nat) (tail:List UInt8):Prop:=if i=64 then n=n0∧tail=[] else if n=0 then tail=dec n0 else dec n++tail=dec n0
def FU (w:World) (n0:Nat) (v0 v6:Value) (wr:World):Prop:=
 ∃(n i:Nat) (tail:List UInt8) (cs:Array Value),v0= .int .u64 (n:Int)∧v6= .int .i64 (i:Int)∧i+tail.length=64∧n<10^(i-44)∧44≤i∧n≤n0∧Left n0 n i tail∧
  wr.heap[w.heap.size]? =some (.cells cs 268 (0,0))∧cs.size=64∧(∀j,(h:j<tail.length)→cs[i+j]? =some (.int .u8 (tail[j].toNat:Int)))∧Fr [] w wr
theorem fu_step {w wr:World} {n0 n i:Nat} {tail:List UInt8} {cs:Array Value} (hi:i+tail.length=64) (hp:n<10^(i-44)) (h44:44≤i) (hle:n≤n0) (hn0:n0<18446744073709551616) (hL:Left n0 n i tail)
  (hb:wr.heap[w.heap.size]? =some (.cells cs 268 (0,0))) (hs:cs.size=64) (hc: ∀j,(h:j<tail.length)→cs[i+j]? =some (.int .u8 (tail[j].toNat:Int))) (hf:Fr [] w wr)
  (h45:45≤i) (hz:i=64∨n≠0) (x:Int) (hx:x=((48+n%10).toUInt8.toNat:Int)):
  FU w n0 (.int .u64 (IntKind.u64.wrap ((n:Int)/10))) (.int .i64 ((i:Int)-1)) (wr.setCell ⟨w.heap.size,i-1,none⟩ (.int .u8 x)):=by
 subst hx;refine ⟨n/10,i-1,(48+n%10).toUInt8::tail,_,?_,?_,by simp;omega,?_,by omega,by omega,?_,blk_setCell hb _ _,by simpa using hs,?_,hf.setCell (.inr (by simp)) _⟩
 ·have:IntKind.u64.wrap ((n:Int)/10)=((n/10:Nat):Int):=by
   simp only [IntKind.wrap,IntKind.bits,IntKind.signed];simp;omega
  rw [this]
 ·congr 1;omega
 ·obtain ⟨k,rfl⟩: ∃k,i=k+45:=⟨i-45,by omega⟩
  rw [show k+45-44=k+1 by omega,Nat.pow_succ] at hp
  rw [show k+45-1-44=k by omega]
  omega
 ·unfold Left at hL ⊢;rw [if_neg (by omega)]
  by_cases h64:i=64
  ·rw [if_pos h64] at hL;obtain ⟨rfl,rfl⟩:=hL;by_cases h10:n<10
   ·rw [if_pos (by omega),dec_lt n h10,Nat.mod_eq_of_lt h10]
   ·rw [if_neg (by omega),dec_ge n h10]
  ·rw [if_neg h64,if_neg (hz.resolve_left h64)] at hL;by_cases h10:n<10
   ·rw [if_pos (by omega),←hL,dec_lt n h10,Nat.mod_eq_of_lt h10];rfl
   ·rw [if_neg (by omega),←hL,dec_ge n h10];simp
 ·intro j hj;rcases j with _|j
  ·rw [Nat.add_zero,Array.getElem?_setIfInBounds_self_of_lt (by omega)];rfl
  ·have hj':j<tail.length:=by simpa using hj
   rw [Array.getElem?_setIfInBounds_ne (by omega),show i-1+(j+1)=i+j by omega,hc j hj']
   rfl
theorem slice64 (B i:Nat) (hi:i<64) (w:World):(Instr.sliceAt 268 (.pointer (some ⟨B,0,none⟩)) (some (.int .i64 (i:Int))) none none).run Tryz.prog w= .ok (.slice (some ⟨B,i,none⟩) (64-i) (64-i)) w:=by
 have e1:Tryz.prog.arrayLen 268=64:=by kernel_rfl
 have e2:Tryz.prog.elem 268=5:=by kernel_rfl
 have e3:(sizeOf 5).run Tryz.prog w= .ok 1 w:=by kernel_rfl
 rw [run_sliceAt_array_l w 268 _ (by rw [e1,e2];exact Tryz.underlying268) _ _ (by omega) (by rw [e1];omega),e1,e2,e3]
 simp only [Result.andThen,slicedAt,Int.toNat_natCast,Nat.mul_one];rw [if_neg (by omega)]
 unfold Addr.add
 split
 ·rename_i h;subst h;rfl
 ·simp
theorem formatUint (n:Nat) (hn:n<18446744073709551616) (w:World):
  Calls Tryz.prog 122 #[.int .u64 (n:Int),.int .i64 10] w fun e w'=>e= .returned (.string ⟨(dec n).toArray⟩)∧Fr [] w w':=by
 replace hn:=Hz hn;go_enter Tryz.func122,Tryz.ntmps122
 go_wp2
 go_loopw [0,6] (fun v0 v6 wr=>FU w n v0 v6 wr) (fun v0 v6 _=>(intOf v6).toNat)
 case atStart=>
  refine ⟨n,64,[],_,rfl,rfl,by simp,?_,by omega,Nat.le_refl _,?_,blk_new _ _,by rfl,by simp,(Fr.refl _ _).alloc _⟩
  ·have:=hn.out;omega
  ·unfold Left;simp
 case round=>
  obtain ⟨m,i,tail,cs,rfl,rfl,hi,hp,h44,hle,hL,hb,hs,hc,hf⟩:=hrel;replace hi:=Hz hi;replace hp:=Hz hp;replace hb:=Hz hb;replace hs:=Hz hs;replace hc:=Hz hc;have hi64:i≤64:=by have:=hi.out;omega
  by_cases hz:i=64∨m≠0
  ·have h45:45≤i:=by
    rcases hz with hz|hz
    ·omega
    ·have:=hp.out;by_cases h:i=44
     ·subst h;simp at this;omega
     ·omega
   have hcell: ∃u,wr.cell? ⟨w.heap.size,i-1,none⟩=some u:=by
    rw [cell_blk hb.out];exact ⟨_,Array.getElem?_eq_getElem (by rw [hs.out];omega)⟩
   obtain ⟨u,hcell⟩:=hcell;have hfr:wr.frozen? ⟨w.heap.size,i-1,none⟩=false:=frozen_blk hb.out _;have step:=fu_step hi.out hp.out h44 hle hn.out hL hb.out hs.out hc.out hf h45 hz _ (congrArg (fun z:Nat=>(z:Int)) (digit_at ⟨m%10,by omega⟩))
   have i36:(m:Int)%10<36:=by omega
   replace step:=Hz step;replace hL:=Hz hL;by_cases h64:i=64
   ·have g1:((i:Int)==64)=true:=by simp;omega
    clear hz h64;go_wp2
    go_roundw
    case rel=>exact step.out
    case measure=>simp [intOf];omega
   ·have g1:((i:Int)==64)=false:=by simp;omega
    have hm0:m≠0:=hz.resolve_left h64;have g2:0<m:=by omega
    clear hz h64 hm0;go_wp2
    go_roundw
    case rel=>exact step.out
    case measure=>simp [intOf];omega
  ·have h64:i≠64:=fun e=>hz (.inl e)
   have hm:m=0:=by
    by_cases h:m=0
    ·exact h
    ·exact absurd (.inr h) hz
   have g1:((i:Int)==64)=false:=by simp;omega
   have g2: ¬0<m:=by omega
   have hsl:=slice64 w.heap.size i (by omega) wr
   unfold Left at hL;rw [if_neg h64,if_pos hm] at hL;clear hz hm h64;have hrd:Rd wr w.heap.size i tail:=fun j hj=>by rw [cell_blk hb.out];exact hc.out j hj
   have hcv:=toStr hrd (64-i);have hl:tail.length=64-i:=by have:=hi.out;omega
   rw [hl,hL] at hcv;replace hl:=Hz hl;replace hL:=Hz hL;clear hrd;have i44: ¬i=64:=fun e=>by simp [e] at g1
   go_wp2;go_ret
   exact ⟨rfl,hf⟩
theorem mk_append (a b:List UInt8):(⟨a.toArray⟩:ByteArray)++⟨b.toArray⟩=⟨(a++b).toArray⟩:=by
 apply ByteArray.ext
 simp
theorem dec_length (n:Nat) (k:Nat) (h:n<10^k) (hk:1≤k):(dec n).length≤k:=by
 induction k generalizing n with
 |zero=>omega
 |succ k ih=>
  by_cases h10:n<10
  ·rw [dec_lt n h10];simp
  ·rw [dec_ge n h10];rw [Nat.pow_succ] at h;rcases k with _|k
   ·simp at h;omega
   ·have:=ih (n/10) (by omega) (by omega)
    simp;omega
def itoa (n:Int):List UInt8:=if n<0 then 45::dec n.natAbs else dec n.natAbs
theorem formatInt_pos (n:Nat) (hn:n<9223372036854775808) (w:World):
  Calls Tryz.prog 128 #[.int .i64 (n:Int),.int .i64 10] w fun e w'=>e= .returned (.string ⟨(dec n).toArray⟩)∧Fr [] w w':=by
 have K:=Hz (formatUint n (by omega))
 have g:n≤9223372036854775807:=by omega
 clear hn;go_enter Tryz.func128,Tryz.ntmps128
 go_wp2_with fail
 refine (K.out _).mono ?_
 rintro e w' ⟨rfl,hf⟩;go_wp2;go_ret
 exact ⟨rfl,hf⟩
theorem formatInt_neg (n:Nat) (h0:0<n) (hn:n≤9223372036854775808) (w:World):
  Calls Tryz.prog 128 #[.int .i64 (-(n:Int)),.int .i64 10] w fun e w'=>e= .returned (.string ⟨(45::dec n).toArray⟩)∧Fr [] w w':=by
 have K:=Hz (formatUint n (by omega))
 have hl:=dec_length n 19 (by omega) (by omega)
 have g1: -(n:Int)<0:=by omega
 have hw:IntKind.u64.wrap (-IntKind.u64.wrap (-(n:Int)))=(n:Int):=by
  simp only [IntKind.wrap,IntKind.bits,IntKind.signed];simp;omega
 clear hn;go_enter Tryz.func128,Tryz.ntmps128
 go_wp2_with fail
 refine (K.out _).mono ?_
 rintro e w' ⟨rfl,hf⟩;go_wp2;go_ret
 exact ⟨rfl,hf⟩
theorem formatInt (n:Int) (h1: -9223372036854775808≤n) (h2:n<9223372036854775808) (w:World):
  Calls Tryz.prog 128 #[.int .i64 n,.int .i64 10] w fun e w'=>e= .returned (.string ⟨(itoa n).toArray⟩)∧Fr [] w w':=by
 by_cases h:n<0
 ·have e:n= -((n.natAbs:Nat):Int):=by omega
  have hi:itoa n=45::dec n.natAbs:=by unfold itoa;rw [if_pos h]
  rw [hi];generalize n.natAbs=k at *
  subst e;exact formatInt_neg k (by omega) (by omega) w
 ·have e:n=((n.natAbs:Nat):Int):=by omega
  have hi:itoa n=dec n.natAbs:=by unfold itoa;rw [if_neg h]
  rw [hi];generalize n.natAbs=k at *
  subst e;exact formatInt_pos k (by omega) w
theorem itoa_length (n:Int) (h1: -9223372036854775808≤n) (h2:n<9223372036854775808):(itoa n).length≤20:=by
 have:=dec_length n.natAbs 19 (by omega) (by omega)
 unfold itoa
 split
 ·simp;omega
 ·omega
theorem itoa_any (n:Int) (h1: -9223372036854775808≤n) (h2:n<9223372036854775808) (w:World):
  Calls Tryz.prog 116 #[.int .i64 n] w fun e w'=>e= .returned (.string ⟨(itoa n).toArray⟩)∧Fr [] w w':=by
 have K:=Hz (formatInt n h1 h2);clear h1 h2;go_enter Tryz.func116,Tryz.ntmps116
 go_wp2_with fail
 refine (K.out _).mono ?_
 rintro e w' ⟨rfl,hf⟩;go_wp2;go_ret
 exact ⟨rfl,hf⟩
theorem typeName (m:Nat) (hm:m<8) (w:World):
  Calls Tryz.prog 134 #[.int .u8 ((m*32:Nat):Int)] w fun e w'=> ∃s:ByteArray,e= .returned (.string s)∧s.size≤20∧w'=w:=by
 have h8:m=0∨m=1∨m=2∨m=3∨m=4∨m=5∨m=6∨m=7:=by omega
 rcases h8 with rfl|rfl|rfl|rfl|rfl|rfl|rfl|rfl
 all_goals
  go_enter Tryz.func134,Tryz.ntmps134
  go_wp2;go_ret
  refine ⟨_,rfl,?_,rfl⟩
  decide
end
def nearUp (d:List Nat) (n:Nat):Bool:=
 if d.length≤n then false else if dgt d n=5∧n+1=d.length then decide (0<n∧dgt d (n-1)%2≠0) else decide (5≤dgt d n)
def roundF (d:List Nat) (dp:Int) (n:Nat):List Nat×Int:=if nearUp d n then upF d dp n else downF d dp n
def inE (edge:Bool) (a b:Nat):Bool:=if edge then decide (a≤b) else decide (a<b)
def shortL (d:List Nat) (dp:Int) (lo hi:Nat) (edge:Bool):Nat→Nat→List Nat×Int
 |0,_=>(d,dp)
 |f+1,n=>
  if inE edge lo (dV (downF d dp n).1 (downF d dp n).2) then
   (if inE edge (dV (upF d dp n).1 (upF d dp n).2) hi then roundF d dp n else downF d dp n)
  else if inE edge (dV (upF d dp n).1 (upF d dp n).2) hi then upF d dp n
  else shortL d dp lo hi edge f (n+1)
theorem inE_le {e:Bool} {a b:Nat} (h:inE e a b=true):a≤b:=by
 unfold inE at h
 split at h<;>simp at h<;>omega
theorem inE_of {e:Bool} {a b:Nat} (h:a<b):inE e a b=true:=by
 unfold inE
 split<;>simp<;>omega
structure Good (d:List Nat) (dp:Int) (lo hi:Nat) (edge:Bool) (r:List Nat×Int):Prop where
 norm:NormD r.1 r.2
 lo:inE edge lo (dV r.1 r.2)=true
 hi:inE edge (dV r.1 r.2) hi=true
 len:r.1.length≤d.length
 la: -1100≤r.2-r.1.length
 ne:r.1≠[]
theorem up_ne {d:List Nat} {dp:Int} (n:Nat) (hd:d≠[]):(upF d dp n).1≠[]:=by
 unfold upF
 split
 ·exact hd
 ·split<;>simp
theorem short_good {d:List Nat} {dp:Int} (h:NormD d dp) (hd:d≠[]) (la: -1100≤dp-d.length) {lo hi:Nat} (edge:Bool) (h1:0<lo) (hlo:lo<dV d dp) (hhi:dV d dp<hi): ∀f n,n+f=d.length→Good d dp lo hi edge (shortL d dp lo hi edge f n)
 |0,n,hn=>by
  rw [shortL];exact ⟨h,inE_of hlo,inE_of hhi,Nat.le_refl _,la,hd⟩
 |f+1,n,hn=>by
  have hnl:n<d.length:=by omega
  obtain ⟨d1,d2,d3,d4⟩:=down_spec h la n;obtain ⟨u1,u2,u3,u4⟩:=up_spec h la n hnl;have GD:inE edge lo (dV (downF d dp n).1 (downF d dp n).2)=true→Good d dp lo hi edge (downF d dp n):=fun hE=>by
   have hne:(downF d dp n).1≠[]:=fun e=>by
    have:=inE_le hE;rw [e] at this;simp [dV,dv] at this;omega
   exact ⟨d1,hE,inE_of (by omega),d3,by rw [d4 hne];omega,hne⟩
  have GU:inE edge (dV (upF d dp n).1 (upF d dp n).2) hi=true→Good d dp lo hi edge (upF d dp n):=fun hE=>
   ⟨u1,inE_of (by omega),hE,u3,u4,up_ne n hd⟩
  rw [shortL]
  split
  ·rename_i hE
   split
   ·rename_i hE2;unfold roundF
    split
    ·exact GU hE2
    ·exact GD hE
   ·exact GD hE
  ·split
   ·rename_i hE2;exact GU hE2
   ·exact short_good h hd la edge h1 hlo hhi f (n+1) (by omega)
def dgi (d:List Nat) (i:Int):Nat:=if i<0 then 0 else dgt d i.toNat
def ch (n:Nat):UInt8:=(48+n).toUInt8
def expT (d:List Nat) (dp:Int) (prec:Nat):List UInt8:=
 ch (dgt d 0)::((if prec=0 then [] else 46::(List.range prec).map fun i=>ch (dgt d (i+1)))++([101,if (if d=[] then 0 else dp-1)<(0:Int) then 45 else 43]++((if (if d=[] then 0 else dp-1:Int).natAbs<10 then [48] else [])++dec (if d=[] then 0 else dp-1:Int).natAbs)))
def texT (d:List Nat) (dp:Int) (prec:Nat):List UInt8:=
 (if dp≤0 then [48] else (List.range dp.toNat).map fun i=>ch (dgt d i))++(if prec=0 then [] else 46::(List.range prec).map fun (i:Nat)=>ch (dgi d (dp+(i:Int))))
section
open Go.RowKit
structure Gr (B:Nat) (S:List Nat) (w w':World):Prop where
 os:w'.os=w.os
 tape:w'.tape=w.tape
 output:w'.output=w.output
 size:w.heap.size≤w'.heap.size
 block: ∀k,k<B→k∉S→w'.heap[k]? =w.heap[k]?
section
variable {B C:Nat} {S T:List Nat} {w w' w'':World}
theorem Gr.refl (B:Nat) (S:List Nat) (w:World):Gr B S w w:=⟨rfl,rfl,rfl,Nat.le_refl _,fun _ _ _=>rfl⟩
theorem Gr.trans (h:Gr B S w w') (g:Gr B S w' w''):Gr B S w w'':=
 ⟨g.os.trans h.os,g.tape.trans h.tape,g.output.trans h.output,Nat.le_trans h.size g.size,fun k hk hn=>(g.block k hk hn).trans (h.block k hk hn)⟩
theorem Gr.mono (h:Gr B S w w') (hc:C≤B) (hs: ∀k,k∈S→k∈T∨C≤k):Gr C T w w':=
 ⟨h.os,h.tape,h.output,h.size,fun k hk hn=>h.block k (by omega) (fun e=>(hs k e).elim hn (by omega))⟩
theorem Gr.of (h:Fr T w w') (hB:B≤w.heap.size) (hs: ∀k,k∈T→k∈S∨B≤k):Gr B S w w':=
 ⟨h.os,h.tape,h.output,h.size,fun k hk hn=>h.block k (by omega) (fun e=>(hs k e).elim hn (by omega))⟩
theorem Gr.fr (h:Gr w.heap.size S w w'):Fr S w w':=⟨h.os,h.tape,h.output,h.size,h.block⟩
theorem Gr.grown {row:Option Nat} (h:Gr B S w w') (hg:w'.grownBy w'' row) (hB:B≤w'.heap.size) (hr: ∀k,row=some k→k∈S∨B≤k):Gr B S w w'':=
 h.trans ⟨hg.os,hg.tape,hg.output,hg.size,fun k hk hn=>hg.block k (by omega) (fun e=>by have:=hr k e.symm;rcases this with h1|h1;exact hn h1;omega)⟩
theorem Gr.drewN (h:Gr B S w w') (n:Nat):Gr B S w (w'.drewN n):=⟨h.os,h.tape,h.output,h.size,h.block⟩
theorem Gr.drew (h:Gr B S w w'):Gr B S w w'.drew:=⟨h.os,h.tape,h.output,h.size,h.block⟩
theorem Gr.alloc (h:Gr B S w w') (hB:B≤w'.heap.size) (o:Obj):Gr B S w (w'.alloc o):=
 h.trans ⟨rfl,rfl,rfl,by simp,fun k hk _=>Below.heap_alloc _ _ _ (by omega)⟩
theorem Gr.setCell (h:Gr B S w w') {p:Addr} (hp:p.block∈S∨B≤p.block) (u:Value):Gr B S w (w'.setCell p u):=
 h.trans ⟨rfl,rfl,rfl,by simp [World.setCell],fun k hk hn=>Below.heap_setCell _ _ _ _ (by rcases hp with hp|hp;exact fun e=>hn (e▸hp);omega)⟩
theorem Gr.blk (h:Gr B S w w') {k:Nat} {o:Obj} (hb:w.heap[k]? =some o) (hk:k<B) (hn:k∉S):w'.heap[k]? =some o:=(h.block k hk hn).trans hb
theorem Gr.cell (h:Gr B S w w') {p:Addr} {v:Value} (hc:w.cell? p=some v) (hk:p.block<B) (hn:p.block∉S):w'.cell? p=some v:=
 (World.cell?_of_block (w:=w) (h.block p.block hk hn)).trans hc
theorem Gr.rd (h:Gr B S w w') {b o:Nat} {xs:List UInt8} (hr:Rd w b o xs) (hk:b<B) (hn:b∉S):Rd w' b o xs:=fun j hj=>h.cell (hr j hj) hk hn
end
def Row (w:World) (B:Nat) (v:Value) (bs:List UInt8):Prop:=w.ownsRow B 5 1 v bs.length (enc bs)
theorem Row.nil (w:World) (B:Nat):Row w B (.slice none 0 0) []:=World.ownsRow_nil _ _ _ _
theorem Row.kept {w w':World} {B:Nat} {v:Value} {bs:List UInt8} {row:Option Nat} (h:Row w B v bs) (hg:w.grownBy w' row) (hne:v.ownBlock=none∨v.ownBlock≠row):Row w' B v bs:=World.ownsRow.kept h hg hne
theorem Row.fr {w w':World} {B:Nat} {v:Value} {bs:List UInt8} {S:List Nat} (h:Row w B v bs) (hf:Fr S w w') (hs: ∀k,k∈S→k<B):Row w' B v bs:=
 hf.own h (fun k hk hm=>by have:=(World.ownsRow.lt h k hk).1;have:=hs k hm;omega)
theorem strCells_mk (s:List UInt8):Lib.strCells ⟨s.toArray⟩=enc s:=by simp [Lib.strCells,enc]
theorem size_mk (s:List UInt8):(⟨s.toArray⟩:ByteArray).size=s.length:=by simp [ByteArray.size]
theorem enc_one (s:List UInt8): ∀u∈enc s,u.oneCell'=true:=by
 intro u hu;simp only [enc,List.mem_map] at hu;obtain ⟨b,_,rfl⟩:=hu
 rfl
section
variable {w:World} {ops:Array Oper} {rest:List Oper} {o:Oper} {a:Act} {Q:Exit→Act→World→Prop}
theorem wpList_apStr (hgd:o.guard=none) (x y:Operand) (ho:o.op= .call {callee:= .builtin .append,args:= #[x,y],argTypes:= #[59,9]})
  {B:Nat} (v:Value) (bs s:List UInt8) (hs:a.eval x=v) (hx:a.eval y= .string ⟨s.toArray⟩) (hown:Row w B v bs) (hB:B≤w.heap.size) (hl:bs.length+s.length≤140737488355328)
  (h: ∀v' w',Row w' B v' (bs++s)→w.grownBy w' v.ownBlock→wpList Tryz.prog ops Q rest (a.put o.dst v') w'):wpList Tryz.prog ops Q (o::rest) a w:=by
 have hinfo:(Tryz.prog.info? 5).map (fun i=>(i.zero,i.size,i.bytes))=some (some (.int .u8 0),1,1):=by kernel_rfl
 obtain ⟨i0,hi,hzz⟩:=Option.map_eq_some_iff.1 hinfo;simp only [Prod.mk.injEq] at hzz;obtain ⟨hz0,hz1,hz2⟩:=hzz;refine Lib.wpList_append_own_string w hgd x y 59 9 ho B 5 i0 Tryz.underlying59 Tryz.underlying9 hi hz0 hz1 hz2 v bs.length (enc bs) hs hown ⟨s.toArray⟩ hx (by rw [size_mk];simp only [maxLen];omega) (by rw [size_mk];omega) hB ?_
 intro v' w' h1 h2 _;rw [size_mk,strCells_mk,←enc_append,←List.length_append] at h1;exact h v' w' h1 h2
theorem wpList_apRow (hgd:o.guard=none) (x y:Operand) (ho:o.op= .call {callee:= .builtin .append,args:= #[x,y],argTypes:= #[59,59]})
  {B:Nat} (v:Value) (bs s:List UInt8) (b off c:Nat) (hs:a.eval x=v) (hx:a.eval y= .slice (some ⟨b,off,none⟩) s.length c) (hr:Rd w b off s) (hown:Row w B v bs) (hB:B≤w.heap.size) (hl:bs.length+s.length≤140737488355328)
  (h: ∀v' w',Row w' B v' (bs++s)→w.grownBy w' v.ownBlock→wpList Tryz.prog ops Q rest (a.put o.dst v') w'):wpList Tryz.prog ops Q (o::rest) a w:=by
 have hinfo:(Tryz.prog.info? 5).map (fun i=>(i.zero,i.size,i.bytes))=some (some (.int .u8 0),1,1):=by kernel_rfl
 obtain ⟨i0,hi,hzz⟩:=Option.map_eq_some_iff.1 hinfo;simp only [Prod.mk.injEq] at hzz;obtain ⟨hz0,hz1,hz2⟩:=hzz;refine wpList_append_own (w:=w) hgd x y 59 ho B 5 i0 (.int .u8 0) 1 1 Tryz.underlying59 hi hz0 hz1 hz2 rfl (by decide) v bs.length (enc bs) hs hown ⟨b,off,none⟩ s.length c (enc s) hx (by rw [enc_length,Nat.mul_one]) hr.cells (enc_one s) (by simp only [maxLen];omega) (by omega) hB ?_
 intro v' w' h1 h2 _;rw [←enc_append,←List.length_append] at h1;exact h v' w' h1 h2
end
def Buf (w:World) (B wb:Nat) (bs:List UInt8):Prop:= ∃v,w.heap[wb]? =some (.cells #[v] 194 (0,0))∧Row w B v bs
theorem Row.shape {w:World} {B:Nat} {v:Value} {bs:List UInt8} (h:Row w B v bs): ∃ao n c,v= .slice ao n c:=by
 rcases h.2 with ⟨hv,_⟩|⟨g,cap,cur,hv,_⟩
 ·exact ⟨_,_,_,hv⟩
 ·exact ⟨_,_,_,hv⟩
theorem Row.ne {w:World} {B:Nat} {v:Value} {bs:List UInt8} (h:Row w B v bs) {k:Nat} (hk:k<B):some k≠v.ownBlock:=fun e=>by have:=(World.ownsRow.lt h k e.symm).1;omega
section
variable {w:World} {B wb:Nat} {bs:List UInt8}
theorem buf_stored {w w':World} {B wb:Nat} {v v':Value} {bs bs':List UInt8} (hb:w.heap[wb]? =some (.cells #[v] 194 (0,0))) (hr:Row w B v bs) (hr':Row w' B v' bs') (hg:w.grownBy w' v.ownBlock) (hwb:wb<B) (hB:B≤w.heap.size):
  Buf (w'.setCell ⟨wb,0,none⟩ v') B wb bs'∧Gr B [wb] w (w'.setCell ⟨wb,0,none⟩ v'):=by
 have hb':w'.heap[wb]? =some (.cells #[v] 194 (0,0)):=(hg.block wb (blk_lt' hb) (hr.ne hwb)).trans hb;refine ⟨⟨v',by rw [blk_setCell hb' 0 v'];rfl,hr'.fr ((Fr.refl [wb] w').setCell (by simp) _) (by simpa using hwb)⟩,((Gr.refl B [wb] w).grown hg hB (fun k hk=> .inr (World.ownsRow.lt hr k hk).1)).setCell (by simp) _⟩
theorem writeString (h:Buf w B wb bs) (hwb:wb<B) (hB:B≤w.heap.size) (s:List UInt8) (hl:bs.length+s.length≤140737488355328):
  Calls Tryz.prog 104 #[.pointer (some ⟨wb,0,none⟩),.string ⟨s.toArray⟩] w fun e w'=>(∃u,e= .returned u)∧Buf w' B wb (bs++s)∧Gr B [wb] w w':=by
 obtain ⟨v,hb,hr⟩:=h;have c0:w.cell? ⟨wb,0,none⟩=some v:=cell_blk hb 0;obtain ⟨ao,n,c,rfl⟩:=hr.shape;go_enter Tryz.func104,Tryz.ntmps104
 go_wp2_with (at_builtin;refine wpList_apStr rfl _ _ rfl (B:=B) _ bs s rfl rfl hr hB hl ?_)
 intro v' w' hr' hg;have hb':w'.heap[wb]? =some (.cells #[.slice ao n c] 194 (0,0)):=(hg.block wb (blk_lt' hb) (hr.ne hwb)).trans hb;have c0':w'.cell? ⟨wb,0,none⟩=some (.slice ao n c):=cell_blk hb' 0;have f0':w'.frozen? ⟨wb,0,none⟩=false:=frozen_blk hb' 0;obtain ⟨ao',n',c',rfl⟩:=hr'.shape;go_wp2
 go_ret2
 exact ⟨⟨_,rfl⟩,buf_stored hb hr hr' hg hwb hB⟩
theorem write (h:Buf w B wb bs) (hwb:wb<B) (hB:B≤w.heap.size) (s:List UInt8) (b off cap:Nat) (hrd:Rd w b off s) (hl:bs.length+s.length≤140737488355328):
  Calls Tryz.prog 171 #[.pointer (some ⟨wb,0,none⟩),.slice (some ⟨b,off,none⟩) s.length cap] w fun e w'=>(∃u,e= .returned u)∧Buf w' B wb (bs++s)∧Gr B [wb] w w':=by
 obtain ⟨v,hb,hr⟩:=h;have c0:w.cell? ⟨wb,0,none⟩=some v:=cell_blk hb 0;obtain ⟨ao,n,c,rfl⟩:=hr.shape;go_enter Tryz.func171,Tryz.ntmps171
 go_wp2_with (at_builtin;refine wpList_apRow rfl _ _ rfl (B:=B) _ bs s b off cap rfl rfl hrd hr hB hl ?_)
 intro v' w' hr' hg;have hb':w'.heap[wb]? =some (.cells #[.slice ao n c] 194 (0,0)):=(hg.block wb (blk_lt' hb) (hr.ne hwb)).trans hb;have c0':w'.cell? ⟨wb,0,none⟩=some (.slice ao n c):=cell_blk hb' 0;have f0':w'.frozen? ⟨wb,0,none⟩=false:=frozen_blk hb' 0;obtain ⟨ao',n',c',rfl⟩:=hr'.shape;go_wp2
 go_ret2
 exact ⟨⟨_,rfl⟩,buf_stored hb hr hr' hg hwb hB⟩
theorem writeByte (h:Buf w B wb bs) (hwb:wb<B) (hB:B≤w.heap.size) (s:UInt8) (hl:bs.length<140737488355328):
  Calls Tryz.prog 119 #[.pointer (some ⟨wb,0,none⟩),.int .u8 (s.toNat:Int)] w fun e w'=>e= .returned .nilIface∧Buf w' B wb (bs++[s])∧Gr B [wb] w w':=by
 obtain ⟨v,hb,hr⟩:=h;have c0:w.cell? ⟨wb,0,none⟩=some v:=cell_blk hb 0;obtain ⟨ao,n,c,rfl⟩:=hr.shape;go_enter Tryz.func119,Tryz.ntmps119
 have hr1:Row (w.alloc (.cells #[.int .u8 (s.toNat:Int)] 5)) B (.slice ao n c) bs:=World.ownsRow.alloc hr _;have hb1:(w.alloc (.cells #[.int .u8 (s.toNat:Int)] 5)).heap[wb]? =some (.cells #[.slice ao n c] 194 (0,0)):=blk_alloc hb _;have hrd:Rd (w.alloc (.cells #[.int .u8 (s.toNat:Int)] 5)) w.heap.size 0 [s]:=fun j hj=>by
  have hj0:j=0:=by simpa using hj
  subst hj0;exact cell_blk (blk_new w _) 0
 have hB1:B≤(w.alloc (.cells #[.int .u8 (s.toNat:Int)] 5)).heap.size:=by simp;omega
 have g1:Gr B [wb] w (w.alloc (.cells #[.int .u8 (s.toNat:Int)] 5)):=(Gr.refl _ _ _).alloc hB _;replace hB1:=Hz hB1;go_wp2_with (at_builtin;refine wpList_apRow rfl _ _ rfl (B:=B) _ bs [s] w.heap.size 0 1 rfl rfl hrd hr1 hB1.out (by simp;omega) ?_)
 intro v' w' hr' hg;have hb':w'.heap[wb]? =some (.cells #[.slice ao n c] 194 (0,0)):=(hg.block wb (blk_lt' hb1) (hr.ne hwb)).trans hb1;have c0':w'.cell? ⟨wb,0,none⟩=some (.slice ao n c):=cell_blk hb' 0;have f0':w'.frozen? ⟨wb,0,none⟩=false:=frozen_blk hb' 0;obtain ⟨ao',n',c',rfl⟩:=hr'.shape;go_wp2;go_ret
 exact ⟨rfl,(buf_stored hb1 hr1 hr' hg hwb hB1.out).1,g1.trans (buf_stored hb1 hr1 hr' hg hwb hB1.out).2⟩
theorem string (h:Buf w B wb bs):
  Calls Tryz.prog 106 #[.pointer (some ⟨wb,0,none⟩)] w fun e w'=>e= .returned (.string ⟨bs.toArray⟩)∧w'=w:=by
 obtain ⟨v,hb,hr⟩:=h;have c0:w.cell? ⟨wb,0,none⟩=some v:=cell_blk hb 0;rcases hr.2 with ⟨rfl,hn⟩|⟨g,cap,cur,rfl,hg,hh,hr3⟩
 ·have hbs:bs=[]:=List.eq_nil_of_length_eq_zero hn;subst hbs;have ht:(convert 59 9 (.slice none 0 0)).run Tryz.prog w= .ok (.string ⟨#[]⟩) w:=Lib.run_convert_nil_bytes w 59 9 5 0 Tryz.underlying59 Tryz.underlying5 Tryz.underlying9;go_enter Tryz.func106,Tryz.ntmps106
  go_wp2;go_ret
  exact ⟨rfl,rfl⟩
 ·have ht:(convert 59 9 (.slice (some ⟨g,0,none⟩) bs.length cap)).run Tryz.prog w= .ok (.string ⟨bs.toArray⟩) w:=toStr (Rd.of_own hr) cap;go_enter Tryz.func106,Tryz.ntmps106
  go_wp2;go_ret
  exact ⟨rfl,rfl⟩
end
end
section
open Go.RowKit
def two (x y:UInt8):Nat:=x.toNat*256+y.toNat
def four (p q:Nat):Nat:=p*65536+q
def eight (p q:Nat):Nat:=p*4294967296+q
theorem u8lt (x:UInt8):x.toNat<256:=x.toNat_lt
theorem two_lt (x y:UInt8):two x y<65536:=by have:=u8lt x;have:=u8lt y;unfold two;omega
theorem four_lt (p q:Nat) (hp:p<65536) (hq:q<65536):four p q<4294967296:=by unfold four;omega
theorem or16 (x y:UInt8):bits .or .u16 (IntKind.u16.wrap (IntKind.u16.wrap (x.toNat:Int)*256)) (IntKind.u16.wrap (y.toNat:Int))=(two x y:Int):=by
 have hx:=x.toNat_lt;have hy:=y.toNat_lt;rw [IntKind.wrap_u16,IntKind.wrap_u16,IntKind.wrap_u16];have e1:(x.toNat:Int)%65536*256%65536=((x.toNat*256:Nat):Int):=by omega
 have e2:(y.toNat:Int)%65536=(y.toNat:Int):=by omega
 rw [e1,e2,u16_or_nat _ _ (by omega) (by omega),nat_join 8 _ _ (by omega) (by omega)]
 rfl
theorem or32 (x y:Nat) (hx:x<65536) (hy:y<65536):bits .or .u32 ((x:Int)*65536) (y:Int)=(four x y:Int):=by
 have e1:(x:Int)*65536=((x*65536:Nat):Int):=by omega
 rw [e1,u32_or_nat _ _ (by omega) (by omega),nat_join 16 _ _ (by omega) (by omega)]
 rfl
theorem or64 (x y:Nat) (hx:x<4294967296) (hy:y<4294967296):bits .or .u64 ((x:Int)*4294967296) (y:Int)=(eight x y:Int):=by
 have e1:(x:Int)*4294967296=((x*4294967296:Nat):Int):=by omega
 rw [e1,u64_or_nat _ _ (by omega) (by omega),nat_join 32 _ _ (by omega) (by omega)]
 rfl
theorem beUint16 (b o n c:Nat) (x y:UInt8) (w:World) (hn:2≤n) (h0:w.cell? ⟨b,o,none⟩=some (.int .u8 (x.toNat:Int))) (h1:w.cell? ⟨b,o+1,none⟩=some (.int .u8 (y.toNat:Int))):
  Calls Tryz.prog 161 #[.slice (some ⟨b,o,none⟩) n c] w fun e w'=>e= .returned (.int .u16 (two x y:Int))∧ ∃m,w'=w.drewN m:=by
 rw [←or16];go_enter Tryz.func161,Tryz.ntmps161
 go_wp2
 go_quiet (fail)
 go_wp2;go_ret
 exact ⟨rfl,_,rfl⟩
theorem beUint32 (b o n c:Nat) (x0 x1 x2 x3:UInt8) (w:World) (hn:4≤n) (hc:n≤c) (h0:w.cell? ⟨b,o,none⟩=some (.int .u8 (x0.toNat:Int))) (h1:w.cell? ⟨b,o+1,none⟩=some (.int .u8 (x1.toNat:Int)))
  (h2:w.cell? ⟨b,o+2,none⟩=some (.int .u8 (x2.toNat:Int))) (h3:w.cell? ⟨b,o+2+1,none⟩=some (.int .u8 (x3.toNat:Int))):
  Calls Tryz.prog 162 #[.slice (some ⟨b,o,none⟩) n c] w fun e w'=>e= .returned (.int .u32 (four (two x0 x1) (two x2 x3):Int))∧ ∃m,w'=w.drewN m:=by
 have l0:=two_lt x0 x1;have l1:=two_lt x2 x3;rw [←or32 _ _ l0 l1];have g0:(2:Int)≤(n:Int):=by omega
 have g1: ¬c=2:=by omega
 go_enter Tryz.func162,Tryz.ntmps162
 go_wp2
 go_quiet (first|(go_at_call_of 161 (Value.slice (some ⟨b,o,none⟩) n c);exact Calls.quiet_of (beUint16 b o n c x0 x1 _ (by omega) h0 h1))|(go_at_call 161;exact Calls.quiet_of (beUint16 b (o+2) (n-2) (c-2) x2 x3 _ (by omega) h2 h3)))
 go_wp2;go_ret
 exact ⟨rfl,_,rfl⟩
theorem beUint64 (b o n c:Nat) (x0 x1 x2 x3 x4 x5 x6 x7:UInt8) (w:World) (hn:8≤n) (hc:n≤c) (h0:w.cell? ⟨b,o,none⟩=some (.int .u8 (x0.toNat:Int))) (h1:w.cell? ⟨b,o+1,none⟩=some (.int .u8 (x1.toNat:Int)))
  (h2:w.cell? ⟨b,o+2,none⟩=some (.int .u8 (x2.toNat:Int))) (h3:w.cell? ⟨b,o+2+1,none⟩=some (.int .u8 (x3.toNat:Int))) (h4:w.cell? ⟨b,o+4,none⟩=some (.int .u8 (x4.toNat:Int)))
  (h5:w.cell? ⟨b,o+4+1,none⟩=some (.int .u8 (x5.toNat:Int))) (h6:w.cell? ⟨b,o+4+2,none⟩=some (.int .u8 (x6.toNat:Int))) (h7:w.cell? ⟨b,o+4+2+1,none⟩=some (.int .u8 (x7.toNat:Int))):
  Calls Tryz.prog 163 #[.slice (some ⟨b,o,none⟩) n c] w fun e w'=>e= .returned (.int .u64 (eight (four (two x0 x1) (two x2 x3)) (four (two x4 x5) (two x6 x7)):Int))∧ ∃m,w'=w.drewN m:=by
 have l0:=four_lt _ _ (two_lt x0 x1) (two_lt x2 x3);have l1:=four_lt _ _ (two_lt x4 x5) (two_lt x6 x7);rw [←or64 _ _ l0 l1];have g0:(4:Int)≤(n:Int):=by omega
 have g1: ¬c=4:=by omega
 go_enter Tryz.func163,Tryz.ntmps163
 go_wp2
 go_quiet (first|(go_at_call_of 162 (Value.slice (some ⟨b,o,none⟩) n c);exact Calls.quiet_of (beUint32 b o n c x0 x1 x2 x3 _ (by omega) hc h0 h1 h2 h3))|(go_at_call 162;exact Calls.quiet_of (beUint32 b (o+4) (n-4) (c-4) x4 x5 x6 x7 _ (by omega) (by omega) h4 h5 h6 h7)))
 go_wp2;go_ret
 exact ⟨rfl,_,rfl⟩
def be (l:List UInt8):Nat:=l.foldl (fun a b=>a*256+b.toNat) 0
def hd (xs:List UInt8) (off:Nat):Except Nat (Nat×Nat×Nat×Nat):=
 match xs[off]? with
 |none=> .error 2
 |some b=>
  if b.toNat%32<24 then .ok (b.toNat/32,b.toNat%32,b.toNat%32,off+1)
  else if b.toNat%32<28 then
   if xs.length<off+1+2^(b.toNat%32-24) then .error 2
   else if b.toNat/32=7∧b.toNat%32=24∧be ((xs.drop (off+1)).take 1)<32 then .error 3
   else .ok (b.toNat/32,b.toNat%32,be ((xs.drop (off+1)).take (2^(b.toNat%32-24))),off+1+2^(b.toNat%32-24))
  else if b.toNat%32=31 then (if b.toNat/32<2∨5<b.toNat/32 then .error 3 else .ok (b.toNat/32,31,31,off+1))
  else .error 3
structure Dec (w:World) (d db o c dm:Nat) (xs:List UInt8) (off:Nat):Prop where
 blk:w.heap[d]? =some (.cells #[.slice (some ⟨db,o,none⟩) xs.length c,.int .i64 (off:Int),.pointer (some ⟨dm,0,none⟩)] 188 (0,0))
 rd:Rd w db o xs
 cap:xs.length≤c
 len:xs.length≤1099511627776
 ne:db≠d
 le:off≤xs.length
section
variable {w w':World} {d db o c dm off:Nat} {xs:List UInt8}
theorem Dec.c0 (h:Dec w d db o c dm xs off):w.cell? ⟨d,0,none⟩=some (.slice (some ⟨db,o,none⟩) xs.length c):=cell_blk h.blk 0
theorem Dec.c1 (h:Dec w d db o c dm xs off):w.cell? ⟨d,1,none⟩=some (.int .i64 (off:Int)):=cell_blk h.blk 1
theorem Dec.c2 (h:Dec w d db o c dm xs off):w.cell? ⟨d,2,none⟩=some (.pointer (some ⟨dm,0,none⟩)):=cell_blk h.blk 2
theorem Dec.f1 (h:Dec w d db o c dm xs off):w.frozen? ⟨d,1,none⟩=false:=frozen_blk h.blk 1
theorem Dec.at_ (h:Dec w d db o c dm xs off) (j:Nat) (hj:j<xs.length):w.cell? ⟨db,o+j,none⟩=some (.int .u8 (xs[j].toNat:Int)):=h.rd j hj
theorem Dec.fr {S:List Nat} (h:Dec w d db o c dm xs off) (hf:Fr S w w') (h1:d∉S) (h2:db∉S):Dec w' d db o c dm xs off:=⟨hf.blk h.blk h1,h.rd.fr hf h2,h.cap,h.len,h.ne,h.le⟩
theorem Dec.drewN (h:Dec w d db o c dm xs off) (n:Nat):Dec (w.drewN n) d db o c dm xs off:=⟨h.blk,h.rd,h.cap,h.len,h.ne,h.le⟩
structure DecV (w:World) (d db o c dm:Nat) (xs:List UInt8) (v:Value):Prop where
 blk:w.heap[d]? =some (.cells #[.slice (some ⟨db,o,none⟩) xs.length c,v,.pointer (some ⟨dm,0,none⟩)] 188 (0,0))
 rd:Rd w db o xs
 cap:xs.length≤c
 len:xs.length≤1099511627776
 ne:db≠d
theorem Dec.v (h:Dec w d db o c dm xs off):DecV w d db o c dm xs (.int .i64 (off:Int)):=⟨h.blk,h.rd,h.cap,h.len,h.ne⟩
theorem DecV.drewN {v:Value} (h:DecV w d db o c dm xs v) (n:Nat):DecV (w.drewN n) d db o c dm xs v:=⟨h.blk,h.rd,h.cap,h.len,h.ne⟩
theorem DecV.drew {v:Value} (h:DecV w d db o c dm xs v):DecV w.drew d db o c dm xs v:=⟨h.blk,h.rd,h.cap,h.len,h.ne⟩
theorem DecV.alloc {v:Value} (h:DecV w d db o c dm xs v) (u:Obj):DecV (w.alloc u) d db o c dm xs v:=⟨blk_alloc h.blk u,h.rd.fr ((Fr.refl [] w).alloc u) (by simp),h.cap,h.len,h.ne⟩
theorem DecV.set {v:Value} (h:DecV w d db o c dm xs v) (u:Value):DecV (w.setCell ⟨d,1,none⟩ u) d db o c dm xs u:=
 ⟨blk_setCell h.blk 1 _,h.rd.fr ((Fr.refl [d] w).setCell (by simp) u) (by simpa using h.ne),h.cap,h.len,h.ne⟩
theorem DecV.fr0 {v:Value} (hf:Fr [] w w') (h:DecV w d db o c dm xs v):DecV w' d db o c dm xs v:=⟨hf.blk h.blk (by simp),h.rd.fr hf (by simp),h.cap,h.len,h.ne⟩
theorem DecV.dec {x:Int} (h:DecV w d db o c dm xs (.int .i64 x)) (off':Nat) (hx:x=(off':Int)) (hl:off'≤xs.length):Dec w d db o c dm xs off':=by
 subst hx;exact ⟨h.blk,h.rd,h.cap,h.len,h.ne,hl⟩
theorem Dec.move (h:Dec w d db o c dm xs off) (off':Nat) (hl:off'≤xs.length) (n:Nat):Dec ((w.setCell ⟨d,1,none⟩ (.int .i64 (off':Int))).drewN n) d db o c dm xs off'∧Fr [d] w ((w.setCell ⟨d,1,none⟩ (.int .i64 (off':Int))).drewN n):=by
 have hf:Fr [d] w ((w.setCell ⟨d,1,none⟩ (.int .i64 (off':Int))).drewN n):=((Fr.refl _ _).setCell (by simp) _).drewN n
 exact ⟨⟨blk_setCell h.blk 1 _,h.rd.fr hf (by simpa using h.ne),h.cap,h.len,h.ne,hl⟩,hf⟩
end
theorem nextCBORType {w:World} {d db o c dm off:Nat} {xs:List UInt8} (h:Dec w d db o c dm xs off) (hl:off<xs.length):
  Calls Tryz.prog 120 #[.pointer (some ⟨d,0,none⟩)] w fun e w'=>e= .returned (.int .u8 ((xs[off].toNat/32*32:Nat):Int))∧ ∃m,w'=w.drewN m:=by
 have h0:=h.c0;have h1:=h.c1;have ha:=h.at_ off hl;have hm:=h.len;go_enter Tryz.func120,Tryz.ntmps120
 go_wp2
 go_quiet ((go_at_call 158;exact Calls.quiet_of_same (getType _ _)))
 go_wp2;go_ret
 exact ⟨rfl,_,rfl⟩
theorem foundBreak_no {w:World} {d db o c dm off:Nat} {xs:List UInt8} (h:Dec w d db o c dm xs off) (hl:off<xs.length) (hb:((xs[off].toNat:Int)==255)=false):
  Calls Tryz.prog 118 #[.pointer (some ⟨d,0,none⟩)] w fun e w'=>e= .returned (.bool false)∧ ∃m,w'=w.drewN m:=by
 have h0:=h.c0;have h1:=h.c1;have ha:=h.at_ off hl;have hm:=h.len;go_enter Tryz.func118,Tryz.ntmps118
 go_wp2
 go_quiet ((go_at_call 117;exact Calls.quiet_of_same (isBreakFlag _ _)))
 go_wp2;go_ret
 exact ⟨rfl,_,rfl⟩
theorem foundBreak_yes {w:World} {d db o c dm off:Nat} {xs:List UInt8} (h:Dec w d db o c dm xs off) (hl:off<xs.length) (hb:((xs[off].toNat:Int)==255)=true):
  Calls Tryz.prog 118 #[.pointer (some ⟨d,0,none⟩)] w fun e w'=>e= .returned (.bool true)∧Dec w' d db o c dm xs (off+1)∧Fr [d] w w':=by
 have h0:=h.c0;have h1:=h.c1;have f1:=h.f1;have ha:=h.at_ off hl;have hm:=h.len;go_enter Tryz.func118,Tryz.ntmps118
 go_wp2
 go_quiet ((go_at_call 117;exact Calls.quiet_of_same (isBreakFlag _ _)))
 go_wp2;go_ret
 exact ⟨rfl,h.move (off+1) (by omega) _⟩
end
section
section
open Go.RowKit
def beB:Nat→Nat→List UInt8
 |0,_=>[]
 |k+1,n=>UInt8.ofNat (n/256^k%256)::beB k n
def lgB (form n:Nat):Nat:=if form≤1∧n<256 then 0 else if form≤2∧n<65536 then 1 else if form≤3∧n<4294967296 then 2 else 3
def headB (m n form:Nat):List UInt8:=
 if form=0∧n<24 then [UInt8.ofNat (m*32+n)] else UInt8.ofNat (m*32+24+lgB form n)::beB (2^lgB form n) n
theorem or_top (m a:Nat) (hm:m<8) (ha:a<32):bits .or .u8 ((m*32:Nat):Int) (a:Int)=((m*32+a:Nat):Int):=by
 have key: ∀(x:Fin 8) (y:Fin 32),bits .or .u8 ((x.val*32:Nat):Int) (y.val:Int)=((x.val*32+y.val:Nat):Int):=by decide+kernel
 exact key ⟨m,hm⟩ ⟨a,ha⟩
theorem headIn_small (m n:Nat) (hm:m<8) (hn:n<24) (w:World):
  Calls Tryz.prog 55 #[.int .i64 (m:Int),.int .u64 (n:Int),.int .i64 0] w fun e w'=>e= .returned (.string ⟨(headB m n 0).toArray⟩)∧Fr [] w w':=by
 have g1:(n:Int)<24:=by omega
 have g2:bits .or .u8 ((m:Int)*32) (n:Int)=(m:Int)*32+(n:Int):=by
  have:=or_top m n hm (by omega)
  simpa using this
 have g3:IntKind.u8.wrap (n:Int)=(n:Int):=by show (n:Int)%256=_;omega
 have g4:IntKind.u8.wrap (IntKind.i64.wrap ((m:Int)*32))=(m:Int)*32:=by
  have:IntKind.i64.wrap ((m:Int)*32)=(m:Int)*32:=by
   have h8:m<8:=hm;have:m=0∨m=1∨m=2∨m=3∨m=4∨m=5∨m=6∨m=7:=by omega
   rcases this with rfl|rfl|rfl|rfl|rfl|rfl|rfl|rfl<;>rfl
  rw [this]
  show ((m:Int)*32)%256=_
  omega
 have hh:headB m n 0=[UInt8.ofNat (m*32+n)]:=if_pos ⟨rfl,hn⟩;rw [hh];have hrd:Rd (w.alloc (.cells #[.int .u8 ((m:Int)*32+(n:Int))] 5)) w.heap.size 0 [UInt8.ofNat (m*32+n)]:=fun j hj=>by
  have hj0:j=0:=by simpa using hj
  subst hj0;refine (cell_blk (blk_new w _) 0).trans ?_
  have:(m*32+n)%256=m*32+n:=by omega
  simp [this]
 have hcv:(convert 59 9 (.slice (some ⟨w.heap.size,0,none⟩) 1 1)).run Tryz.prog (w.alloc (.cells #[.int .u8 ((m:Int)*32+(n:Int))] 5))= .ok (.string ⟨#[UInt8.ofNat (m*32+n)]⟩) (w.alloc (.cells #[.int .u8 ((m:Int)*32+(n:Int))] 5)):=toStr hrd 1;clear hrd;generalize UInt8.ofNat (m*32+n)=bb at *
 go_enter Tryz.func55,Tryz.ntmps55
 go_wp2_with (first|fail)
 go_ret
 exact ⟨rfl,(Fr.refl [] w).alloc _⟩
end
section
open Go.RowKit
theorem push_set (a:Array Obj) (x y:Obj):(a.push x).setIfInBounds a.size y=a.push y:=by
 apply Array.ext'
 simp
theorem ins (w:World) (es:Array MapEntry) (c:Nat) (k:Int) (v:Value) (hn:Instr.findNow (.int .i64) (.int .i64 k) es.toList 0=some none):
  (Instr.mapUpdate 130 (.map (some w.heap.size)) (.int .i64 k) v).run Tryz.prog (w.alloc (.map es c))= .ok () (w.alloc (.map (es.push {key:= .int .i64 k,val:=v,born:=c}) (c+1))):=by
 have hb:(w.alloc (.map es c)).heap[w.heap.size]? =some (.map es c):=blk_new w _;have hc:(Instr.checkKey false 10000 3 (.int .i64 k)).run Tryz.prog (w.alloc (.map es c))= .ok () (w.alloc (.map es c)):=MapKept.run_checkKey Tryz.underlying3 (by simp [MapKept.IsKey]) false 9999
 simp [Instr.mapUpdate,run_underlying Tryz.underlying130,MapKept.run_getObj_map hb,hc,MapKept.run_findKey Tryz.underlying3 hn,MapKept.run_setObj_map _ hb,Result.andThen]
 show ({w with heap:=(w.heap.push (.map es c)).setIfInBounds w.heap.size _}:World)=_
 rw [push_set]
 rfl
def headMap:Array MapEntry:= #[{key:= .int .i64 1,val:= .int .u8 24,born:=0},{key:= .int .i64 2,val:= .int .u8 25,born:=1},{key:= .int .i64 4,val:= .int .u8 26,born:=2},{key:= .int .i64 8,val:= .int .u8 27,born:=3}]
theorem look (w:World) (k:Int) (i:Nat) (v:Value) (hn:Instr.findNow (.int .i64) (.int .i64 k) headMap.toList 0=some (some (i,v))):
  (Instr.lookup 130 (.map (some w.heap.size)) (.int .i64 k) false).run Tryz.prog (w.alloc (.map headMap 4))= .ok v (w.alloc (.map headMap 4)):=by
 have hb:(w.alloc (.map headMap 4)).heap[w.heap.size]? =some (.map headMap 4):=blk_new w _;have hc: ∀b,(Instr.checkKey b 10000 3 (.int .i64 k)).run Tryz.prog (w.alloc (.map headMap 4))= .ok () (w.alloc (.map headMap 4)):=fun b=>MapKept.run_checkKey Tryz.underlying3 (by simp [MapKept.IsKey]) b 9999
 simp [Instr.lookup,run_underlying Tryz.underlying130,MapKept.run_getObj_map hb,hc,MapKept.run_findKey Tryz.underlying3 hn,Result.andThen]
end
end
section
open Go.RowKit
theorem str_drop (xs:List UInt8) (k:Nat) (h:k≤xs.length):(⟨xs.toArray⟩:ByteArray).extract k xs.length=⟨(xs.drop k).toArray⟩:=by
 apply ByteArray.ext
 rw [ByteArray.data_extract];apply Array.ext'
 simp only [List.extract_toArray,List.extract_eq_take_drop,List.toList_toArray];exact List.take_of_length_le (by rw [List.length_drop];omega)
theorem str_take (xs:List UInt8) (k:Nat) (h:k≤xs.length):(⟨xs.toArray⟩:ByteArray).extract 0 k=⟨(xs.take k).toArray⟩:=by
 apply ByteArray.ext
 rw [ByteArray.data_extract];apply Array.ext'
 simp [List.extract_eq_take_drop]
end
end Go.Proofs.YteodinhkhhaafaaGreatDoor
