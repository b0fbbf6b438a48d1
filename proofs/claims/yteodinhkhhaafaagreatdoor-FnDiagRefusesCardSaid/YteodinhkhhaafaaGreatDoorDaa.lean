/- Walks of the program, and plain facts. -/
import Derived.Lib.Hide
import Derived.Test.YteodinhkhhaafaaGreatDoorProg
import Derived.WalkKit
import Derived.BigQuiet
import Derived.Deep.QuietTactic
import Derived.Deep.LoopGhost
import Derived.Deep.DeepFit
import Derived.Deep.DeepCutAuto
import Derived.Deep.RegionLaw
import Derived.Deep.RegionHeld3
import Derived.StillTailTactics
import Derived.Outline
import Derived.WalkLawsBesides
import Derived.WalkSpells
import Derived.Laws.BitsAllLaws
import Derived.Laws.BitsLemmas
import Derived.KernelRfl
import Derived.Laws.IdiomStrings
set_option linter.unusedVariables false
set_option linter.unusedSimpArgs false
set_option maxRecDepth 100000
set_option maxHeartbeats 6400000
namespace Go.Proofs.YteodinhkhhaafaaGreatDoor
theorem Hz {p:Prop} (h:p):Go.RowKit.Hid p:=Lib.hid h
section
open Go.RowKit
structure Fr (S:List Nat) (w w':World):Prop where
 os:w'.os=w.os
 tape:w'.tape=w.tape
 output:w'.output=w.output
 size:w.heap.size≤w'.heap.size
 block: ∀k,k<w.heap.size→k∉S→w'.heap[k]? =w.heap[k]?
section
variable {S T:List Nat} {w w' w'':World}
theorem Fr.refl (S:List Nat) (w:World):Fr S w w:=⟨rfl,rfl,rfl,Nat.le_refl _,fun _ _ _=>rfl⟩
theorem Fr.mono (h:Fr S w w') (hs: ∀k,k∈S→k∈T):Fr T w w':=⟨h.os,h.tape,h.output,h.size,fun k hk hn=>h.block k hk (fun e=>hn (hs k e))⟩
theorem Fr.then_ (h:Fr S w w') (g:Fr T w' w'') (hs: ∀k,k∈T→k∈S∨w.heap.size≤k):Fr S w w'':=
 ⟨g.os.trans h.os,g.tape.trans h.tape,g.output.trans h.output,Nat.le_trans h.size g.size,
  fun k hk hn=>(g.block k (Nat.lt_of_lt_of_le hk h.size) (fun e=>(hs k e).elim hn (fun h2=>by omega))).trans (h.block k hk hn)⟩
theorem Fr.trans (h:Fr S w w') (g:Fr S w' w''):Fr S w w'':=h.then_ g (fun _ hk=> .inl hk)
theorem Fr.then0 (h:Fr S w w') (g:Fr [] w' w''):Fr S w w'':=h.then_ g (by simp)
theorem Fr.drewN (h:Fr S w w') (n:Nat):Fr S w (w'.drewN n):=⟨h.os,h.tape,h.output,h.size,h.block⟩
theorem Fr.drew (h:Fr S w w'):Fr S w w'.drew:=⟨h.os,h.tape,h.output,h.size,h.block⟩
theorem Fr.alloc (h:Fr S w w') (o:Obj):Fr S w (w'.alloc o):=
 h.then_ (T:=[]) ⟨rfl,rfl,rfl,by simp,fun k hk _=>Below.heap_alloc _ _ _ hk⟩ (by simp)
theorem Fr.setCell (h:Fr S w w') {p:Addr} (hp:p.block∈S∨w.heap.size≤p.block) (u:Value):Fr S w (w'.setCell p u):=
 h.then_ (T:=[p.block]) ⟨rfl,rfl,rfl,by simp [World.setCell],fun k hk hn=>Below.heap_setCell _ _ _ _ (by simpa using hn)⟩ (by intro k hk;simp at hk;subst hk;exact hp)
theorem Fr.below (h:Fr [] w w'):Below w.heap.size w w':=⟨h.os,h.tape,h.output,h.size,fun k hk=>h.block k hk (by simp)⟩
theorem Fr.grown {row:Option Nat} (h:Fr S w w') (hg:w'.grownBy w'' row) (hr: ∀k,row=some k→k∈S∨w.heap.size≤k):Fr S w w'':=
 h.then_ (T:=row.toList) ⟨hg.os,hg.tape,hg.output,hg.size,fun k hk hn=>hg.block k hk (fun e=>hn (by rw [←e];simp))⟩ (by intro k hk;exact hr k (by simpa using hk))
theorem Fr.blk (h:Fr S w w') {k:Nat} {o:Obj} (hb:w.heap[k]? =some o) (hn:k∉S):w'.heap[k]? =some o:=
 (h.block k (Array.getElem?_eq_some_iff.1 hb).1 hn).trans hb
theorem Fr.cell (h:Fr S w w') {p:Addr} {v:Value} (hc:w.cell? p=some v) (hn:p.block∉S):w'.cell? p=some v:=
 (World.cell?_of_block (w:=w) (h.block p.block (World.block_lt_of_cell? w p hc) hn)).trans hc
theorem Fr.frozen (h:Fr S w w') {p:Addr} (hl:p.block<w.heap.size) (hn:p.block∉S):w'.frozen? p=w.frozen? p:=
 World.frozen?_of_block (w:=w) (h.block p.block hl hn)
theorem Fr.own (h:Fr S w w') {base n size:Nat} {e:TypeId} {v:Value} {xs:List Value} (ho:w.ownsRow base e size v n xs) (hn: ∀k,v.ownBlock=some k→k∉S):w'.ownsRow base e size v n xs:=by
 obtain ⟨h1,h2⟩:=ho
 refine ⟨h1,?_⟩
 rcases h2 with h2|⟨g,cap,cur,rfl,hg,hh,r⟩
 ·exact .inl h2
 ·exact .inr ⟨g,cap,cur,rfl,hg,h.blk hh (hn g rfl),r⟩
end
theorem cell_blk {w:World} {b:Nat} {cs:Array Value} {t:TypeId} {fr:Nat×Nat} (h:w.heap[b]? =some (.cells cs t fr)) (i:Nat):w.cell? ⟨b,i,none⟩=cs[i]? :=by simp [World.cell?,h]
theorem frozen_blk {w:World} {b:Nat} {cs:Array Value} {t:TypeId} (h:w.heap[b]? =some (.cells cs t (0,0))) (i:Nat):w.frozen? ⟨b,i,none⟩=false:=by simp [World.frozen?,h]
theorem blk_lt' {w:World} {b:Nat} {o:Obj} (h:w.heap[b]? =some o):b<w.heap.size:=(Array.getElem?_eq_some_iff.1 h).1
theorem blk_setCell {w:World} {b:Nat} {cs:Array Value} {t:TypeId} {fr:Nat×Nat} (h:w.heap[b]? =some (.cells cs t fr)) (i:Nat) (u:Value):(w.setCell ⟨b,i,none⟩ u).heap[b]? =some (.cells (cs.setIfInBounds i u) t fr):=by
 simp [World.setCell,Array.getElem?_modify,h]
theorem blk_setCell_ne {w:World} {b:Nat} {o:Obj} (h:w.heap[b]? =some o) {p:Addr} (hp:b≠p.block) (u:Value):(w.setCell p u).heap[b]? =some o:=(Below.heap_setCell _ _ _ _ hp).trans h
theorem blk_alloc {w:World} {b:Nat} {o:Obj} (h:w.heap[b]? =some o) (o':Obj):(w.alloc o').heap[b]? =some o:=(Below.heap_alloc _ _ _ (blk_lt' h)).trans h
theorem blk_new (w:World) (o:Obj):(w.alloc o).heap[w.heap.size]? =some o:=by
 show (w.heap.push o)[w.heap.size]? =_
 simp
theorem quiet2 {P:Program} {f:FuncId} {args:Array Value} {w:World} {a n:Nat} {v:Value} (h:Calls P f args (w.drewN (a+n)) fun e w'=>e= .returned v∧ ∃m,w'=(w.drewN (a+n)).drewN m):
  Calls P f args (w.drewN (a+n)) fun e w''=>e= .returned v∧ ∃m,w''=w.drewN (a+m):=
 h.mono fun _ _ hh=>⟨hh.1,by obtain ⟨m,hm⟩:=hh.2;exact ⟨n+m,by rw [hm,World.drewN_drewN,Nat.add_assoc]⟩⟩
theorem quiet_same {P:Program} {f:FuncId} {args:Array Value} {w:World} {v:Value} (h:Calls P f args w fun e w'=>e= .returned v∧w'=w):Calls P f args w fun e w'=>e= .returned v∧ ∃m,w'=w.drewN m:=
 h.mono fun _ _ hh=>⟨hh.1,0,hh.2⟩
def Rd (w:World) (b o:Nat) (xs:List UInt8):Prop:= ∀j,(h:j<xs.length)→w.cell? ⟨b,o+j,none⟩=some (.int .u8 (xs[j].toNat:Int))
theorem Rd.fr {S:List Nat} {w w':World} {b o:Nat} {xs:List UInt8} (h:Rd w b o xs) (hf:Fr S w w') (hn:b∉S):Rd w' b o xs:=fun j hj=>hf.cell (h j hj) hn
theorem Rd.drop {w:World} {b o:Nat} {xs:List UInt8} (h:Rd w b o xs) (k:Nat):Rd w b (o+k) (xs.drop k):=fun j hj=>by
 have hj':k+j<xs.length:=by simp at hj;omega
 have:=h (k+j) hj'
 rw [Nat.add_assoc,this];simp
theorem Rd.take {w:World} {b o:Nat} {xs:List UInt8} (h:Rd w b o xs) (k:Nat):Rd w b o (xs.take k):=fun j hj=>by
 have hj':j<xs.length:=by simp at hj;omega
 rw [h j hj'];simp
theorem Rd.nil (w:World) (b o:Nat):Rd w b o []:=fun j hj=>absurd hj (by simp)
def enc (xs:List UInt8):List Value:=xs.map fun c=> .int .u8 (c.toNat:Int)
theorem enc_length (xs:List UInt8):(enc xs).length=xs.length:=by simp [enc]
theorem enc_append (xs ys:List UInt8):enc (xs++ys)=enc xs++enc ys:=by simp [enc]
theorem Rd.cells {w:World} {b o:Nat} {xs:List UInt8} (h:Rd w b o xs): ∀j u,(enc xs)[j]? =some u→w.cell? ((⟨b,o,none⟩:Addr).add j)=some u:=by
 intro j u hu
 have hj:j<xs.length:=by have:=(List.getElem?_eq_some_iff.1 hu).1;simpa [enc] using this
 have ha:(⟨b,o,none⟩:Addr).add j=⟨b,o+j,none⟩:=by unfold Addr.add;split<;>simp_all
 rw [ha,h j hj]
 simp [enc,hj] at hu
 rw [←hu]
theorem Rd.of_own {w:World} {base:Nat} {e:TypeId} {g cap n:Nat} {xs:List UInt8} (h:w.ownsRow base e 1 (.slice (some ⟨g,0,none⟩) n cap) n (enc xs)):Rd w g 0 xs:=fun j hj=>by
 have:=h.cells (g:=g) rfl j (.int .u8 (xs[j].toNat:Int)) (by simp [enc,hj])
 have ha:(⟨g,0,none⟩:Addr).add j=⟨g,0+j,none⟩:=by unfold Addr.add;split<;>simp_all
 rwa [ha] at this
theorem toStr {w:World} {b o:Nat} {xs:List UInt8} (h:Rd w b o xs) (c:Nat):(convert 59 9 (.slice (some ⟨b,o,none⟩) xs.length c)).run Tryz.prog w= .ok (.string ⟨xs.toArray⟩) w:=
 run_convert_bytes_back w 59 9 5 ⟨b,o,none⟩ c xs Tryz.underlying59 Tryz.underlying5 Tryz.underlying9 fun j hj=>by
  have ha:(⟨b,o,none⟩:Addr).add j=⟨b,o+j,none⟩:=by unfold Addr.add;split<;>simp_all
  rw [ha];exact h j hj
theorem and224 (b:UInt8):bits .and .u8 (b.toNat:Int) 224=((b.toNat/32*32:Nat):Int):=by
 have hb:=b.toNat_lt
 rw [show (224:Int)=((224:Nat):Int) from rfl,u8_and_nat _ _ (by omega) (by decide)]
 have key: ∀x:Fin 256,(x.val&&&224)=x.val/32*32:=by decide+kernel
 exact congrArg _ (key ⟨b.toNat,hb⟩)
theorem and31 (b:UInt8):bits .and .u8 (b.toNat:Int) 31=((b.toNat%32:Nat):Int):=by
 have hb:=b.toNat_lt
 rw [u8_and31 (x:=(b.toNat:Int)) (by omega) (by omega)]
 omega
theorem parseInitialByte (b:UInt8) (w:World):
  Calls Tryz.prog 160 #[.int .u8 (b.toNat:Int)] w fun e w'=>e= .returned (.tuple #[.int .u8 ((b.toNat/32*32:Nat):Int),.int .u8 ((b.toNat%32:Nat):Int)])∧w'=w:=by
 rw [←and224,←and31]
 go_enter Tryz.func160,Tryz.ntmps160
 go_wp2
 go_ret2
 exact ⟨rfl,rfl⟩
theorem getType (b:UInt8) (w:World):
  Calls Tryz.prog 158 #[.int .u8 (b.toNat:Int)] w fun e w'=>e= .returned (.int .u8 ((b.toNat/32*32:Nat):Int))∧w'=w:=by
 rw [←and224]
 go_enter Tryz.func158,Tryz.ntmps158
 go_wp2
 go_ret
 exact ⟨rfl,rfl⟩
theorem isBreakFlag (b:UInt8) (w:World):
  Calls Tryz.prog 117 #[.int .u8 (b.toNat:Int)] w fun e w'=>e= .returned (.bool ((b.toNat:Int)==255))∧w'=w:=by
 go_enter Tryz.func117,Tryz.ntmps117
 go_wp2
 go_ret
 exact ⟨rfl,rfl⟩
end
section
open Go.RowKit
def two (x y:UInt8):Nat:=x.toNat*256+y.toNat
def four (p q:Nat):Nat:=p*65536+q
def eight (p q:Nat):Nat:=p*4294967296+q
theorem u8lt (x:UInt8):x.toNat<256:=x.toNat_lt
theorem two_lt (x y:UInt8):two x y<65536:=by have:=u8lt x;have:=u8lt y;unfold two;omega
theorem four_lt (p q:Nat) (hp:p<65536) (hq:q<65536):four p q<4294967296:=by unfold four;omega
theorem or16 (x y:UInt8):bits .or .u16 (IntKind.u16.wrap (IntKind.u16.wrap (x.toNat:Int)*256)) (IntKind.u16.wrap (y.toNat:Int))=(two x y:Int):=by
 have hx:=x.toNat_lt
 have hy:=y.toNat_lt
 rw [IntKind.wrap_u16,IntKind.wrap_u16,IntKind.wrap_u16]
 have e1:(x.toNat:Int)%65536*256%65536=((x.toNat*256:Nat):Int):=by omega
 have e2:(y.toNat:Int)%65536=(y.toNat:Int):=by omega
 rw [e1,e2,u16_or_nat _ _ (by omega) (by omega),nat_join 8 _ _ (by omega) (by omega)]
 rfl
theorem or32 (x y:Nat) (hx:x<65536) (hy:y<65536):bits .or .u32 ((x:Int)*65536) (y:Int)=(four x y:Int):=by
 have e1:(x:Int)*65536=((x*65536:Nat):Int):=by omega
 rw [e1,u32_or_nat _ _ (by omega) (by omega),nat_join 16 _ _ (by omega) (by omega)]
 rfl
theorem or64 (x y:Nat) (hx:x<4294967296) (hy:y<4294967296):bits .or .u64 ((x:Int)*4294967296) (y:Int)=(eight x y:Int):=by
 have e1:(x:Int)*4294967296=((x*4294967296:Nat):Int):=by omega
 rw [e1,u64_or_nat _ _ (by omega) (by omega),nat_join 32 _ _ (by omega) (by omega)]
 rfl
theorem beUint16 (b o n c:Nat) (x y:UInt8) (w:World) (hn:2≤n) (h0:w.cell? ⟨b,o,none⟩=some (.int .u8 (x.toNat:Int))) (h1:w.cell? ⟨b,o+1,none⟩=some (.int .u8 (y.toNat:Int))):
  Calls Tryz.prog 161 #[.slice (some ⟨b,o,none⟩) n c] w fun e w'=>e= .returned (.int .u16 (two x y:Int))∧ ∃m,w'=w.drewN m:=by
 rw [←or16]
 go_enter Tryz.func161,Tryz.ntmps161
 go_wp2
 go_quiet (fail)
 go_wp2
 go_ret
 exact ⟨rfl,_,rfl⟩
theorem beUint32 (b o n c:Nat) (x0 x1 x2 x3:UInt8) (w:World) (hn:4≤n) (hc:n≤c) (h0:w.cell? ⟨b,o,none⟩=some (.int .u8 (x0.toNat:Int))) (h1:w.cell? ⟨b,o+1,none⟩=some (.int .u8 (x1.toNat:Int)))
  (h2:w.cell? ⟨b,o+2,none⟩=some (.int .u8 (x2.toNat:Int))) (h3:w.cell? ⟨b,o+2+1,none⟩=some (.int .u8 (x3.toNat:Int))):
  Calls Tryz.prog 162 #[.slice (some ⟨b,o,none⟩) n c] w fun e w'=>e= .returned (.int .u32 (four (two x0 x1) (two x2 x3):Int))∧ ∃m,w'=w.drewN m:=by
 have l0:=two_lt x0 x1
 have l1:=two_lt x2 x3
 rw [←or32 _ _ l0 l1]
 have g0:(2:Int)≤(n:Int):=by omega
 have g1: ¬c=2:=by omega
 go_enter Tryz.func162,Tryz.ntmps162
 go_wp2
 go_quiet (first|(go_at_call_of 161 (Value.slice (some ⟨b,o,none⟩) n c);exact Calls.quiet_of (beUint16 b o n c x0 x1 _ (by omega) h0 h1))|(go_at_call 161;exact Calls.quiet_of (beUint16 b (o+2) (n-2) (c-2) x2 x3 _ (by omega) h2 h3)))
 go_wp2
 go_ret
 exact ⟨rfl,_,rfl⟩
theorem beUint64 (b o n c:Nat) (x0 x1 x2 x3 x4 x5 x6 x7:UInt8) (w:World) (hn:8≤n) (hc:n≤c) (h0:w.cell? ⟨b,o,none⟩=some (.int .u8 (x0.toNat:Int))) (h1:w.cell? ⟨b,o+1,none⟩=some (.int .u8 (x1.toNat:Int)))
  (h2:w.cell? ⟨b,o+2,none⟩=some (.int .u8 (x2.toNat:Int))) (h3:w.cell? ⟨b,o+2+1,none⟩=some (.int .u8 (x3.toNat:Int))) (h4:w.cell? ⟨b,o+4,none⟩=some (.int .u8 (x4.toNat:Int)))
  (h5:w.cell? ⟨b,o+4+1,none⟩=some (.int .u8 (x5.toNat:Int))) (h6:w.cell? ⟨b,o+4+2,none⟩=some (.int .u8 (x6.toNat:Int))) (h7:w.cell? ⟨b,o+4+2+1,none⟩=some (.int .u8 (x7.toNat:Int))):
  Calls Tryz.prog 163 #[.slice (some ⟨b,o,none⟩) n c] w fun e w'=>e= .returned (.int .u64 (eight (four (two x0 x1) (two x2 x3)) (four (two x4 x5) (two x6 x7)):Int))∧ ∃m,w'=w.drewN m:=by
 have l0:=four_lt _ _ (two_lt x0 x1) (two_lt x2 x3)
 have l1:=four_lt _ _ (two_lt x4 x5) (two_lt x6 x7)
 rw [←or64 _ _ l0 l1]
 have g0:(4:Int)≤(n:Int):=by omega
 have g1: ¬c=4:=by omega
 go_enter Tryz.func163,Tryz.ntmps163
 go_wp2
 go_quiet (first|(go_at_call_of 162 (Value.slice (some ⟨b,o,none⟩) n c);exact Calls.quiet_of (beUint32 b o n c x0 x1 x2 x3 _ (by omega) hc h0 h1 h2 h3))|(go_at_call 162;exact Calls.quiet_of (beUint32 b (o+4) (n-4) (c-4) x4 x5 x6 x7 _ (by omega) (by omega) h4 h5 h6 h7)))
 go_wp2
 go_ret
 exact ⟨rfl,_,rfl⟩
def be (l:List UInt8):Nat:=l.foldl (fun a b=>a*256+b.toNat) 0
def hd (xs:List UInt8) (off:Nat):Except Nat (Nat×Nat×Nat×Nat):=
 match xs[off]? with
 |none=> .error 2
 |some b=>
  if b.toNat%32<24 then .ok (b.toNat/32,b.toNat%32,b.toNat%32,off+1)
  else if b.toNat%32<28 then
   if xs.length<off+1+2^(b.toNat%32-24) then .error 2
   else if b.toNat/32=7∧b.toNat%32=24∧be ((xs.drop (off+1)).take 1)<32 then .error 3
   else .ok (b.toNat/32,b.toNat%32,be ((xs.drop (off+1)).take (2^(b.toNat%32-24))),off+1+2^(b.toNat%32-24))
  else if b.toNat%32=31 then (if b.toNat/32<2∨5<b.toNat/32 then .error 3 else .ok (b.toNat/32,31,31,off+1))
  else .error 3
structure Dec (w:World) (d db o c dm:Nat) (xs:List UInt8) (off:Nat):Prop where
 blk:w.heap[d]? =some (.cells #[.slice (some ⟨db,o,none⟩) xs.length c,.int .i64 (off:Int),.pointer (some ⟨dm,0,none⟩)] 188 (0,0))
 rd:Rd w db o xs
 cap:xs.length≤c
 len:xs.length≤1099511627776
 ne:db≠d
 le:off≤xs.length
section
variable {w w':World} {d db o c dm off:Nat} {xs:List UInt8}
theorem Dec.c0 (h:Dec w d db o c dm xs off):w.cell? ⟨d,0,none⟩=some (.slice (some ⟨db,o,none⟩) xs.length c):=cell_blk h.blk 0
theorem Dec.c1 (h:Dec w d db o c dm xs off):w.cell? ⟨d,1,none⟩=some (.int .i64 (off:Int)):=cell_blk h.blk 1
theorem Dec.c2 (h:Dec w d db o c dm xs off):w.cell? ⟨d,2,none⟩=some (.pointer (some ⟨dm,0,none⟩)):=cell_blk h.blk 2
theorem Dec.f1 (h:Dec w d db o c dm xs off):w.frozen? ⟨d,1,none⟩=false:=frozen_blk h.blk 1
theorem Dec.at_ (h:Dec w d db o c dm xs off) (j:Nat) (hj:j<xs.length):w.cell? ⟨db,o+j,none⟩=some (.int .u8 (xs[j].toNat:Int)):=h.rd j hj
theorem Dec.fr {S:List Nat} (h:Dec w d db o c dm xs off) (hf:Fr S w w') (h1:d∉S) (h2:db∉S):Dec w' d db o c dm xs off:=⟨hf.blk h.blk h1,h.rd.fr hf h2,h.cap,h.len,h.ne,h.le⟩
theorem Dec.drewN (h:Dec w d db o c dm xs off) (n:Nat):Dec (w.drewN n) d db o c dm xs off:=⟨h.blk,h.rd,h.cap,h.len,h.ne,h.le⟩
structure DecV (w:World) (d db o c dm:Nat) (xs:List UInt8) (v:Value):Prop where
 blk:w.heap[d]? =some (.cells #[.slice (some ⟨db,o,none⟩) xs.length c,v,.pointer (some ⟨dm,0,none⟩)] 188 (0,0))
 rd:Rd w db o xs
 cap:xs.length≤c
 len:xs.length≤1099511627776
 ne:db≠d
theorem Dec.v (h:Dec w d db o c dm xs off):DecV w d db o c dm xs (.int .i64 (off:Int)):=⟨h.blk,h.rd,h.cap,h.len,h.ne⟩
theorem DecV.drewN {v:Value} (h:DecV w d db o c dm xs v) (n:Nat):DecV (w.drewN n) d db o c dm xs v:=⟨h.blk,h.rd,h.cap,h.len,h.ne⟩
theorem DecV.drew {v:Value} (h:DecV w d db o c dm xs v):DecV w.drew d db o c dm xs v:=⟨h.blk,h.rd,h.cap,h.len,h.ne⟩
theorem DecV.alloc {v:Value} (h:DecV w d db o c dm xs v) (u:Obj):DecV (w.alloc u) d db o c dm xs v:=⟨blk_alloc h.blk u,h.rd.fr ((Fr.refl [] w).alloc u) (by simp),h.cap,h.len,h.ne⟩
theorem DecV.set {v:Value} (h:DecV w d db o c dm xs v) (u:Value):DecV (w.setCell ⟨d,1,none⟩ u) d db o c dm xs u:=
 ⟨blk_setCell h.blk 1 _,h.rd.fr ((Fr.refl [d] w).setCell (by simp) u) (by simpa using h.ne),h.cap,h.len,h.ne⟩
theorem DecV.fr0 {v:Value} (hf:Fr [] w w') (h:DecV w d db o c dm xs v):DecV w' d db o c dm xs v:=⟨hf.blk h.blk (by simp),h.rd.fr hf (by simp),h.cap,h.len,h.ne⟩
theorem DecV.dec {x:Int} (h:DecV w d db o c dm xs (.int .i64 x)) (off':Nat) (hx:x=(off':Int)) (hl:off'≤xs.length):Dec w d db o c dm xs off':=by
 subst hx
 exact ⟨h.blk,h.rd,h.cap,h.len,h.ne,hl⟩
theorem Dec.move (h:Dec w d db o c dm xs off) (off':Nat) (hl:off'≤xs.length) (n:Nat):Dec ((w.setCell ⟨d,1,none⟩ (.int .i64 (off':Int))).drewN n) d db o c dm xs off'∧Fr [d] w ((w.setCell ⟨d,1,none⟩ (.int .i64 (off':Int))).drewN n):=by
 have hf:Fr [d] w ((w.setCell ⟨d,1,none⟩ (.int .i64 (off':Int))).drewN n):=((Fr.refl _ _).setCell (by simp) _).drewN n
 exact ⟨⟨blk_setCell h.blk 1 _,h.rd.fr hf (by simpa using h.ne),h.cap,h.len,h.ne,hl⟩,hf⟩
end
theorem nextCBORType {w:World} {d db o c dm off:Nat} {xs:List UInt8} (h:Dec w d db o c dm xs off) (hl:off<xs.length):
  Calls Tryz.prog 120 #[.pointer (some ⟨d,0,none⟩)] w fun e w'=>e= .returned (.int .u8 ((xs[off].toNat/32*32:Nat):Int))∧ ∃m,w'=w.drewN m:=by
 have h0:=h.c0
 have h1:=h.c1
 have ha:=h.at_ off hl
 have hm:=h.len
 go_enter Tryz.func120,Tryz.ntmps120
 go_wp2
 go_quiet ((go_at_call 158;exact Calls.quiet_of_same (getType _ _)))
 go_wp2
 go_ret
 exact ⟨rfl,_,rfl⟩
theorem foundBreak_no {w:World} {d db o c dm off:Nat} {xs:List UInt8} (h:Dec w d db o c dm xs off) (hl:off<xs.length) (hb:((xs[off].toNat:Int)==255)=false):
  Calls Tryz.prog 118 #[.pointer (some ⟨d,0,none⟩)] w fun e w'=>e= .returned (.bool false)∧ ∃m,w'=w.drewN m:=by
 have h0:=h.c0
 have h1:=h.c1
 have ha:=h.at_ off hl
 have hm:=h.len
 go_enter Tryz.func118,Tryz.ntmps118
 go_wp2
 go_quiet ((go_at_call 117;exact Calls.quiet_of_same (isBreakFlag _ _)))
 go_wp2
 go_ret
 exact ⟨rfl,_,rfl⟩
theorem foundBreak_yes {w:World} {d db o c dm off:Nat} {xs:List UInt8} (h:Dec w d db o c dm xs off) (hl:off<xs.length) (hb:((xs[off].toNat:Int)==255)=true):
  Calls Tryz.prog 118 #[.pointer (some ⟨d,0,none⟩)] w fun e w'=>e= .returned (.bool true)∧Dec w' d db o c dm xs (off+1)∧Fr [d] w w':=by
 have h0:=h.c0
 have h1:=h.c1
 have f1:=h.f1
 have ha:=h.at_ off hl
 have hm:=h.len
 go_enter Tryz.func118,Tryz.ntmps118
 go_wp2
 go_quiet ((go_at_call 117;exact Calls.quiet_of_same (isBreakFlag _ _)))
 go_wp2
 go_ret
 exact ⟨rfl,h.move (off+1) (by omega) _⟩
end
section
open Go.RowKit
theorem be1 (xs:List UInt8) (i:Nat) (h:i<xs.length):be ((xs.drop i).take 1)=xs[i].toNat:=by
 rw [List.drop_eq_getElem_cons h];simp only [List.take_succ_cons,List.take_zero,be,List.foldl_cons,List.foldl_nil];omega
theorem be2 (xs:List UInt8) (i:Nat) (h:i+1<xs.length):be ((xs.drop i).take 2)=two xs[i] xs[i+1]:=by
 rw [List.drop_eq_getElem_cons (by omega),List.drop_eq_getElem_cons h];simp only [List.take_succ_cons,List.take_zero,be,List.foldl_cons,List.foldl_nil,two];omega
theorem be4 (xs:List UInt8) (i:Nat) (h:i+3<xs.length):be ((xs.drop i).take 4)=four (two xs[i] xs[i+1]) (two xs[i+2] xs[i+3]):=by
 rw [List.drop_eq_getElem_cons (by omega),List.drop_eq_getElem_cons (show i+1<_ by omega),List.drop_eq_getElem_cons (show i+1+1<_ by omega),List.drop_eq_getElem_cons (show i+1+1+1<_ by omega)]
 simp only [List.take_succ_cons,List.take_zero,be,List.foldl_cons,List.foldl_nil,two,four,Nat.add_assoc,Nat.reduceAdd];omega
theorem be8 (xs:List UInt8) (i:Nat) (h:i+7<xs.length):be ((xs.drop i).take 8)=eight (four (two xs[i] xs[i+1]) (two xs[i+2] xs[i+3])) (four (two xs[i+4] xs[i+5]) (two xs[i+6] xs[i+7])):=by
 rw [List.drop_eq_getElem_cons (by omega),List.drop_eq_getElem_cons (show i+1<_ by omega),List.drop_eq_getElem_cons (show i+1+1<_ by omega),List.drop_eq_getElem_cons (show i+1+1+1<_ by omega),
  List.drop_eq_getElem_cons (show i+1+1+1+1<_ by omega),List.drop_eq_getElem_cons (show i+1+1+1+1+1<_ by omega),List.drop_eq_getElem_cons (show i+1+1+1+1+1+1<_ by omega),List.drop_eq_getElem_cons (show i+1+1+1+1+1+1+1<_ by omega)]
 simp only [List.take_succ_cons,List.take_zero,be,List.foldl_cons,List.foldl_nil,two,four,eight,Nat.add_assoc,Nat.reduceAdd];omega
def HeadAt (w:World) (d db o c dm:Nat) (xs:List UInt8) (m ai v off':Nat) (e:Ending) (w':World):Prop:=
 e= .returned (.tuple #[.int .u8 ((m*32:Nat):Int),.int .u8 (ai:Int),.int .u64 (v:Int)])∧Dec w' d db o c dm xs off'∧Fr [d] w w'
section
variable {w:World} {d db o c dm off:Nat} {xs:List UInt8}
theorem getHead_0 (h:Dec w d db o c dm xs off) (hl:off<xs.length) (k:Nat) (hk:xs[off].toNat%32=k) (h23:k≤23∨28≤k):
  Calls Tryz.prog 121 #[.pointer (some ⟨d,0,none⟩)] w (HeadAt w d db o c dm xs (xs[off].toNat/32) k k (off+1)):=by
 have h0:=h.c0
 have h1:=h.c1
 have f1:=h.f1
 have ha:=h.at_ off hl
 have hm:=h.len
 have K:=parseInitialByte xs[off]
 rw [hk] at K
 have K:=Hz K
 have hk31:k<32:=by omega
 clear hk
 rcases h23 with h23|h23
 all_goals
  go_enter Tryz.func121,Tryz.ntmps121
  go_wp2
  go_quiet ((go_at_call 160;exact Calls.quiet_of_same (K.out _)))
  go_wp2
  refine bodyPost_ret (results_tmp3 rfl _ _ _) rfl ?_
  exact ⟨rfl,h.move (off+1) (by omega) _⟩
theorem getHead_1 (h:Dec w d db o c dm xs off) (hl:off+1<xs.length) (hk:xs[off].toNat%32=24):
  Calls Tryz.prog 121 #[.pointer (some ⟨d,0,none⟩)] w (HeadAt w d db o c dm xs (xs[off].toNat/32) 24 xs[off+1].toNat (off+1+1)):=by
 have h0:=h.c0
 have h1:=h.c1
 have f1:=h.f1
 have ha:=h.at_ off (by omega)
 have hb:=h.at_ (off+1) (by omega)
 have l0:=u8lt (xs[off+1]'(by omega))
 have hm:=h.len
 have hc:=h.cap
 have n1: ¬db=d:=h.ne
 have n2: ¬d=db:=fun e=>h.ne e.symm
 have K:=parseInitialByte (xs[off]'(by omega))
 rw [hk] at K
 have K:=Hz K
 clear hk
 go_enter Tryz.func121,Tryz.ntmps121
 go_wp2
 go_quiet ((go_at_call 160;exact Calls.quiet_of_same (K.out _)))
 go_wp2
 have g0:(off:Int)+1<(xs.length:Int):=by omega
 have g1:0≤(off:Int)+1:=by omega
 have g2:((off:Int)+1).toNat=off+1:=by omega
 go_quiet (fail)
 go_wp2
 refine bodyPost_ret (results_tmp3 rfl _ _ _) rfl ?_
 refine ⟨rfl,DecV.dec (x:=(off:Int)+1+1) ?_ _ (by omega) (by omega),?_⟩
 ·repeat (first|with_reducible exact h.v|with_reducible apply DecV.set|with_reducible apply DecV.drewN)
 ·repeat (first|with_reducible exact Fr.refl _ _|with_reducible refine Fr.setCell ?_ (by simp) _|with_reducible refine Fr.drewN ?_ _)
theorem getHead_2 (h:Dec w d db o c dm xs off) (hl:off+2<xs.length) (hk:xs[off].toNat%32=25):
  Calls Tryz.prog 121 #[.pointer (some ⟨d,0,none⟩)] w (HeadAt w d db o c dm xs (xs[off].toNat/32) 25 (two xs[off+1] xs[off+2]) (off+1+2)):=by
 have h0:=h.c0
 have h1:=h.c1
 have f1:=h.f1
 have ha:=h.at_ off (by omega)
 have hx0:=fun (v:Value) (m n:Nat)=>((Fr.refl [d] (w.drewN m)).setCell (p:=⟨d,1,none⟩) (by simp) v).drewN n|>.cell (p:=⟨db,o+(off+1),none⟩) ((show w.cell? ⟨db,o+(off+1),none⟩=w.cell? ⟨db,o+(off+1),none⟩ from congrArg (fun z=>w.cell? ⟨db,z,none⟩) (by omega)).trans (h.at_ (off+1) (by omega))) (by simpa using h.ne)
 have hx1:=fun (v:Value) (m n:Nat)=>((Fr.refl [d] (w.drewN m)).setCell (p:=⟨d,1,none⟩) (by simp) v).drewN n|>.cell (p:=⟨db,o+(off+1)+1,none⟩) ((show w.cell? ⟨db,o+(off+1)+1,none⟩=w.cell? ⟨db,o+(off+2),none⟩ from congrArg (fun z=>w.cell? ⟨db,z,none⟩) (by omega)).trans (h.at_ (off+2) (by omega))) (by simpa using h.ne)
 have l0:=two_lt (xs[off+1]'(by omega)) (xs[off+2]'(by omega))
 have hm:=h.len
 have hc:=h.cap
 have n1: ¬db=d:=h.ne
 have n2: ¬d=db:=fun e=>h.ne e.symm
 have K:=parseInitialByte (xs[off]'(by omega))
 rw [hk] at K
 have K:=Hz K
 clear hk
 go_enter Tryz.func121,Tryz.ntmps121
 go_wp2
 go_quiet ((go_at_call 160;exact Calls.quiet_of_same (K.out _)))
 go_wp2
 have g0:(off:Int)+1<(xs.length:Int):=by omega
 have g1:0≤(off:Int)+1:=by omega
 have g2:((off:Int)+1).toNat=off+1:=by omega
 have g3:(off:Int)+1+2≤(c:Int):=by omega
 have g4:((off:Int)+1+2).toNat=off+1+2:=by omega
 have g5: ¬c=off+1:=by omega
 have g6:(off:Int)+1≤(off:Int)+1+2:=by omega
 have g7:0≤(off:Int)+1+2:=by omega
 have g8:IntKind.i64.wrap ((off:Int)+1+2)=(off:Int)+1+2:=IntWalk.i64_in _ (by omega)
 go_quiet ((go_at_call 161;exact Calls.quiet_of (beUint16 db (o+(off+1)) 2 (c-(off+1)) xs[off+1] xs[off+2] _ (by omega) (hx0 _ _ _) (hx1 _ _ _))))
 go_wp2
 refine bodyPost_ret (results_tmp3 rfl _ _ _) rfl ?_
 refine ⟨rfl,DecV.dec (x:=(off:Int)+1+2) ?_ _ (by omega) (by omega),?_⟩
 ·repeat (first|with_reducible exact h.v|with_reducible apply DecV.set|with_reducible apply DecV.drewN)
 ·repeat (first|with_reducible exact Fr.refl _ _|with_reducible refine Fr.setCell ?_ (by simp) _|with_reducible refine Fr.drewN ?_ _)
theorem getHead_4 (h:Dec w d db o c dm xs off) (hl:off+4<xs.length) (hk:xs[off].toNat%32=26):
  Calls Tryz.prog 121 #[.pointer (some ⟨d,0,none⟩)] w (HeadAt w d db o c dm xs (xs[off].toNat/32) 26 (four (two xs[off+1] xs[off+2]) (two xs[off+3] xs[off+4])) (off+1+4)):=by
 have h0:=h.c0
 have h1:=h.c1
 have f1:=h.f1
 have ha:=h.at_ off (by omega)
 have hx0:=fun (v:Value) (m n:Nat)=>((Fr.refl [d] (w.drewN m)).setCell (p:=⟨d,1,none⟩) (by simp) v).drewN n|>.cell (p:=⟨db,o+(off+1),none⟩) ((show w.cell? ⟨db,o+(off+1),none⟩=w.cell? ⟨db,o+(off+1),none⟩ from congrArg (fun z=>w.cell? ⟨db,z,none⟩) (by omega)).trans (h.at_ (off+1) (by omega))) (by simpa using h.ne)
 have hx1:=fun (v:Value) (m n:Nat)=>((Fr.refl [d] (w.drewN m)).setCell (p:=⟨d,1,none⟩) (by simp) v).drewN n|>.cell (p:=⟨db,o+(off+1)+1,none⟩) ((show w.cell? ⟨db,o+(off+1)+1,none⟩=w.cell? ⟨db,o+(off+2),none⟩ from congrArg (fun z=>w.cell? ⟨db,z,none⟩) (by omega)).trans (h.at_ (off+2) (by omega))) (by simpa using h.ne)
 have hx2:=fun (v:Value) (m n:Nat)=>((Fr.refl [d] (w.drewN m)).setCell (p:=⟨d,1,none⟩) (by simp) v).drewN n|>.cell (p:=⟨db,o+(off+1)+2,none⟩) ((show w.cell? ⟨db,o+(off+1)+2,none⟩=w.cell? ⟨db,o+(off+3),none⟩ from congrArg (fun z=>w.cell? ⟨db,z,none⟩) (by omega)).trans (h.at_ (off+3) (by omega))) (by simpa using h.ne)
 have hx3:=fun (v:Value) (m n:Nat)=>((Fr.refl [d] (w.drewN m)).setCell (p:=⟨d,1,none⟩) (by simp) v).drewN n|>.cell (p:=⟨db,o+(off+1)+2+1,none⟩) ((show w.cell? ⟨db,o+(off+1)+2+1,none⟩=w.cell? ⟨db,o+(off+4),none⟩ from congrArg (fun z=>w.cell? ⟨db,z,none⟩) (by omega)).trans (h.at_ (off+4) (by omega))) (by simpa using h.ne)
 have l0:=four_lt _ _ (two_lt (xs[off+1]'(by omega)) (xs[off+2]'(by omega))) (two_lt (xs[off+3]'(by omega)) (xs[off+4]'(by omega)))
 have hm:=h.len
 have hc:=h.cap
 have n1: ¬db=d:=h.ne
 have n2: ¬d=db:=fun e=>h.ne e.symm
 have K:=parseInitialByte (xs[off]'(by omega))
 rw [hk] at K
 have K:=Hz K
 clear hk
 go_enter Tryz.func121,Tryz.ntmps121
 go_wp2
 go_quiet ((go_at_call 160;exact Calls.quiet_of_same (K.out _)))
 go_wp2
 have g0:(off:Int)+1<(xs.length:Int):=by omega
 have g1:0≤(off:Int)+1:=by omega
 have g2:((off:Int)+1).toNat=off+1:=by omega
 have g3:(off:Int)+1+4≤(c:Int):=by omega
 have g4:((off:Int)+1+4).toNat=off+1+4:=by omega
 have g5: ¬c=off+1:=by omega
 have g6:(off:Int)+1≤(off:Int)+1+4:=by omega
 have g7:0≤(off:Int)+1+4:=by omega
 have g8:IntKind.i64.wrap ((off:Int)+1+4)=(off:Int)+1+4:=IntWalk.i64_in _ (by omega)
 go_quiet ((go_at_call 162;exact Calls.quiet_of (beUint32 db (o+(off+1)) 4 (c-(off+1)) xs[off+1] xs[off+2] xs[off+3] xs[off+4] _ (by omega) (by omega) (hx0 _ _ _) (hx1 _ _ _) (hx2 _ _ _) (hx3 _ _ _))))
 go_wp2
 refine bodyPost_ret (results_tmp3 rfl _ _ _) rfl ?_
 refine ⟨rfl,DecV.dec (x:=(off:Int)+1+4) ?_ _ (by omega) (by omega),?_⟩
 ·repeat (first|with_reducible exact h.v|with_reducible apply DecV.set|with_reducible apply DecV.drewN)
 ·repeat (first|with_reducible exact Fr.refl _ _|with_reducible refine Fr.setCell ?_ (by simp) _|with_reducible refine Fr.drewN ?_ _)
theorem getHead_8 (h:Dec w d db o c dm xs off) (hl:off+8<xs.length) (hk:xs[off].toNat%32=27):
  Calls Tryz.prog 121 #[.pointer (some ⟨d,0,none⟩)] w (HeadAt w d db o c dm xs (xs[off].toNat/32) 27 (eight (four (two xs[off+1] xs[off+2]) (two xs[off+3] xs[off+4])) (four (two xs[off+5] xs[off+6]) (two xs[off+7] xs[off+8]))) (off+1+8)):=by
 have h0:=h.c0
 have h1:=h.c1
 have f1:=h.f1
 have ha:=h.at_ off (by omega)
 have hx0:=fun (v:Value) (m n:Nat)=>((Fr.refl [d] (w.drewN m)).setCell (p:=⟨d,1,none⟩) (by simp) v).drewN n|>.cell (p:=⟨db,o+(off+1),none⟩) ((show w.cell? ⟨db,o+(off+1),none⟩=w.cell? ⟨db,o+(off+1),none⟩ from congrArg (fun z=>w.cell? ⟨db,z,none⟩) (by omega)).trans (h.at_ (off+1) (by omega))) (by simpa using h.ne)
 have hx1:=fun (v:Value) (m n:Nat)=>((Fr.refl [d] (w.drewN m)).setCell (p:=⟨d,1,none⟩) (by simp) v).drewN n|>.cell (p:=⟨db,o+(off+1)+1,none⟩) ((show w.cell? ⟨db,o+(off+1)+1,none⟩=w.cell? ⟨db,o+(off+2),none⟩ from congrArg (fun z=>w.cell? ⟨db,z,none⟩) (by omega)).trans (h.at_ (off+2) (by omega))) (by simpa using h.ne)
 have hx2:=fun (v:Value) (m n:Nat)=>((Fr.refl [d] (w.drewN m)).setCell (p:=⟨d,1,none⟩) (by simp) v).drewN n|>.cell (p:=⟨db,o+(off+1)+2,none⟩) ((show w.cell? ⟨db,o+(off+1)+2,none⟩=w.cell? ⟨db,o+(off+3),none⟩ from congrArg (fun z=>w.cell? ⟨db,z,none⟩) (by omega)).trans (h.at_ (off+3) (by omega))) (by simpa using h.ne)
 have hx3:=fun (v:Value) (m n:Nat)=>((Fr.refl [d] (w.drewN m)).setCell (p:=⟨d,1,none⟩) (by simp) v).drewN n|>.cell (p:=⟨db,o+(off+1)+2+1,none⟩) ((show w.cell? ⟨db,o+(off+1)+2+1,none⟩=w.cell? ⟨db,o+(off+4),none⟩ from congrArg (fun z=>w.cell? ⟨db,z,none⟩) (by omega)).trans (h.at_ (off+4) (by omega))) (by simpa using h.ne)
 have hx4:=fun (v:Value) (m n:Nat)=>((Fr.refl [d] (w.drewN m)).setCell (p:=⟨d,1,none⟩) (by simp) v).drewN n|>.cell (p:=⟨db,o+(off+1)+4,none⟩) ((show w.cell? ⟨db,o+(off+1)+4,none⟩=w.cell? ⟨db,o+(off+5),none⟩ from congrArg (fun z=>w.cell? ⟨db,z,none⟩) (by omega)).trans (h.at_ (off+5) (by omega))) (by simpa using h.ne)
 have hx5:=fun (v:Value) (m n:Nat)=>((Fr.refl [d] (w.drewN m)).setCell (p:=⟨d,1,none⟩) (by simp) v).drewN n|>.cell (p:=⟨db,o+(off+1)+4+1,none⟩) ((show w.cell? ⟨db,o+(off+1)+4+1,none⟩=w.cell? ⟨db,o+(off+6),none⟩ from congrArg (fun z=>w.cell? ⟨db,z,none⟩) (by omega)).trans (h.at_ (off+6) (by omega))) (by simpa using h.ne)
 have hx6:=fun (v:Value) (m n:Nat)=>((Fr.refl [d] (w.drewN m)).setCell (p:=⟨d,1,none⟩) (by simp) v).drewN n|>.cell (p:=⟨db,o+(off+1)+4+2,none⟩) ((show w.cell? ⟨db,o+(off+1)+4+2,none⟩=w.cell? ⟨db,o+(off+7),none⟩ from congrArg (fun z=>w.cell? ⟨db,z,none⟩) (by omega)).trans (h.at_ (off+7) (by omega))) (by simpa using h.ne)
 have hx7:=fun (v:Value) (m n:Nat)=>((Fr.refl [d] (w.drewN m)).setCell (p:=⟨d,1,none⟩) (by simp) v).drewN n|>.cell (p:=⟨db,o+(off+1)+4+2+1,none⟩) ((show w.cell? ⟨db,o+(off+1)+4+2+1,none⟩=w.cell? ⟨db,o+(off+8),none⟩ from congrArg (fun z=>w.cell? ⟨db,z,none⟩) (by omega)).trans (h.at_ (off+8) (by omega))) (by simpa using h.ne)
 have hm:=h.len
 have hc:=h.cap
 have n1: ¬db=d:=h.ne
 have n2: ¬d=db:=fun e=>h.ne e.symm
 have K:=parseInitialByte (xs[off]'(by omega))
 rw [hk] at K
 have K:=Hz K
 clear hk
 go_enter Tryz.func121,Tryz.ntmps121
 go_wp2
 go_quiet ((go_at_call 160;exact Calls.quiet_of_same (K.out _)))
 go_wp2
 have g0:(off:Int)+1<(xs.length:Int):=by omega
 have g1:0≤(off:Int)+1:=by omega
 have g2:((off:Int)+1).toNat=off+1:=by omega
 have g3:(off:Int)+1+8≤(c:Int):=by omega
 have g4:((off:Int)+1+8).toNat=off+1+8:=by omega
 have g5: ¬c=off+1:=by omega
 have g6:(off:Int)+1≤(off:Int)+1+8:=by omega
 have g7:0≤(off:Int)+1+8:=by omega
 have g8:IntKind.i64.wrap ((off:Int)+1+8)=(off:Int)+1+8:=IntWalk.i64_in _ (by omega)
 go_quiet ((go_at_call 163;exact Calls.quiet_of (beUint64 db (o+(off+1)) 8 (c-(off+1)) xs[off+1] xs[off+2] xs[off+3] xs[off+4] xs[off+5] xs[off+6] xs[off+7] xs[off+8] _ (by omega) (by omega) (hx0 _ _ _) (hx1 _ _ _) (hx2 _ _ _) (hx3 _ _ _) (hx4 _ _ _) (hx5 _ _ _) (hx6 _ _ _) (hx7 _ _ _))))
 go_wp2
 refine bodyPost_ret (results_tmp3 rfl _ _ _) rfl ?_
 refine ⟨rfl,DecV.dec (x:=(off:Int)+1+8) ?_ _ (by omega) (by omega),?_⟩
 ·repeat (first|with_reducible exact h.v|with_reducible apply DecV.set|with_reducible apply DecV.drewN)
 ·repeat (first|with_reducible exact Fr.refl _ _|with_reducible refine Fr.setCell ?_ (by simp) _|with_reducible refine Fr.drewN ?_ _)
theorem getElem?_lt {xs:List UInt8} {off:Nat} {b:UInt8} (e:xs[off]? =some b): ∃hl:off<xs.length,xs[off]=b:=by
 obtain ⟨hl,h⟩:=List.getElem?_eq_some_iff.1 e
 exact ⟨hl,h⟩
theorem getHead (h:Dec w d db o c dm xs off) {m ai v off':Nat} (hh:hd xs off= .ok (m,ai,v,off')):
  Calls Tryz.prog 121 #[.pointer (some ⟨d,0,none⟩)] w (HeadAt w d db o c dm xs m ai v off'):=by
 unfold hd at hh
 split at hh
 ·cases hh
 ·rename_i b e
  obtain ⟨hl,rfl⟩:=getElem?_lt e
  split at hh
  ·cases hh
   exact getHead_0 h hl _ rfl (.inl (by omega))
  ·split at hh
   ·split at hh
    ·cases hh
    ·split at hh
     ·cases hh
     ·rename_i h24 h28 hlen hs
      have h4:xs[off].toNat%32=24∨xs[off].toNat%32=25∨xs[off].toNat%32=26∨xs[off].toNat%32=27:=by omega
      rcases h4 with h4|h4|h4|h4<;>rw [h4] at hh hlen<;>simp only [Nat.reduceSub,Nat.reducePow] at hh hlen
      ·rw [be1 _ _ (by omega)] at hh;cases hh
       exact getHead_1 h (by omega) h4
      ·rw [be2 _ _ (by omega)] at hh;cases hh
       exact getHead_2 h (by omega) h4
      ·rw [be4 _ _ (by omega)] at hh;cases hh
       exact getHead_4 h (by omega) h4
      ·rw [be8 _ _ (by omega)] at hh;cases hh
       exact getHead_8 h (by omega) h4
   ·split at hh
    ·split at hh
     ·cases hh
     ·cases hh
      exact getHead_0 h hl _ ‹_› (.inr (by omega))
    ·cases hh
end
end
section
section
open Go.RowKit
def subn:Nat→Nat→Nat→Nat×Nat
 |0,c,E=>(c,E)
 |f+1,c,E=>if c<8388608 then subn f (c*2) (E-1) else (c,E)
def h2s (x:Nat):Nat:=
 let s:=(x&&&32768)*65536
 let e:=(x&&&31744)/1024
 let c:=(x&&&1023)*8192
 if e=31 then (if c=0 then (s|||2139095040)|||c else (s|||2143289344)|||c)
 else if e=0 then (if c=0 then s else (s|||(subn 11 c 113).2*8388608)|||((subn 11 c 113).1&&&8388607))
 else (s|||(e+112)*8388608)|||c
theorem or_u32 (a b:Nat) (ha:a<4294967296) (hb:b<4294967296):bits .or .u32 (a:Int) (b:Int)=((a|||b:Nat):Int):=u32_or_nat a b ha hb
theorem or_lt32 {a b:Nat} (ha:a<4294967296) (hb:b<4294967296):a|||b<4294967296:=Nat.or_lt_two_pow (n:=32) ha hb
theorem or2_u32 (a b c:Nat) (ha:a<4294967296) (hb:b<4294967296) (hc:c<4294967296):bits .or .u32 (bits .or .u32 (a:Int) (b:Int)) (c:Int)=((a|||b|||c:Nat):Int):=by
 rw [or_u32 a b ha hb,or_u32 _ c (or_lt32 ha hb) hc]
section
variable (x a b c:Nat) (w:World) (e1:bits .and .u16 (x:Int) 32768=(a:Int)) (e2:bits .and .u16 (x:Int) 31744=(b:Int)) (e3:bits .and .u16 (x:Int) 1023=(c:Int)) (la:a≤32768) (lb:b≤31744) (lc:c≤1023)
include e1 e2 e3 la lb lc
theorem half_inf (h1:((b:Int)/1024==31)=true) (h2:((c:Int)*8192==0)=true):
  Calls Tryz.prog 201 #[.int .u16 (x:Int)] w fun e w'=>e= .returned (.int .u32 ((a*65536|||2139095040|||c*8192:Nat):Int))∧w'=w:=by
 rw [←or2_u32 _ _ _ (by omega) (by omega) (by omega)]
 go_enter Tryz.func201,Tryz.ntmps201
 go_wp2
 go_ret
 exact ⟨rfl,rfl⟩
theorem half_nan (h1:((b:Int)/1024==31)=true) (h2:((c:Int)*8192==0)=false):
  Calls Tryz.prog 201 #[.int .u16 (x:Int)] w fun e w'=>e= .returned (.int .u32 ((a*65536|||2143289344|||c*8192:Nat):Int))∧w'=w:=by
 rw [←or2_u32 _ _ _ (by omega) (by omega) (by omega)]
 go_enter Tryz.func201,Tryz.ntmps201
 go_wp2
 go_ret
 exact ⟨rfl,rfl⟩
theorem half_zero (h1:((b:Int)/1024==31)=false) (h0:((b:Int)/1024==0)=true) (h2:((c:Int)*8192==0)=true):
  Calls Tryz.prog 201 #[.int .u16 (x:Int)] w fun e w'=>e= .returned (.int .u32 ((a*65536:Nat):Int))∧w'=w:=by
 go_enter Tryz.func201,Tryz.ntmps201
 go_wp2
 go_ret
 exact ⟨rfl,rfl⟩
theorem half_norm (h1:((b:Int)/1024==31)=false) (h0:((b:Int)/1024==0)=false):
  Calls Tryz.prog 201 #[.int .u16 (x:Int)] w fun e w'=>e= .returned (.int .u32 ((a*65536|||(b/1024+112)*8388608|||c*8192:Nat):Int))∧w'=w:=by
 rw [←or2_u32 _ _ _ (by omega) (by omega) (by omega)]
 go_enter Tryz.func201,Tryz.ntmps201
 go_wp2
 go_ret
 exact ⟨rfl,rfl⟩
omit e1 e2 e3 la lb lc in
theorem subn_lt: ∀(f c E:Nat),c<16777216→(subn f c E).1<16777216
 |0,c,E,h=>h
 |f+1,c,E,h=>by
  unfold subn
  split
  ·exact subn_lt f _ _ (by omega)
  ·exact h
theorem half_sub (h1:((b:Int)/1024==31)=false) (h0:((b:Int)/1024==0)=true) (h2:((c:Int)*8192==0)=false):
  Calls Tryz.prog 201 #[.int .u16 (x:Int)] w fun e w'=>e= .returned (.int .u32 ((a*65536|||(subn 11 (c*8192) 113).2*8388608|||((subn 11 (c*8192) 113).1&&&8388607):Nat):Int))∧w'=w:=by
 obtain ⟨p,hp⟩: ∃p,subn 11 (c*8192) 113=p:=⟨_,rfl⟩
 rw [hp]
 replace hp:=Hz hp
 go_enter Tryz.func201,Tryz.ntmps201
 go_wp2
 go_loop [4,5] (fun ve vc=> ∃f k E:Nat,8192≤k∧k<16777216∧8388608≤k*2^f∧103+f≤E+1∧E≤113∧Hid (subn f k E=p)∧ve= .int .u32 (IntKind.u32.wrap ((E:Int)-112))∧vc= .int .u32 (k:Int)) (fun _ vc=>16777216-(intOf vc).toNat)
 case atStart=>
  have hb:b/1024=0:=by simp at h0;omega
  refine ⟨11,c*8192,113,by simp at h2;omega,by omega,by simp at h2;omega,by omega,by omega,hp,?_,rfl⟩
  rw [show (b:Int)/1024=0 by omega]
  rfl
 case round=>
  obtain ⟨f,k,E,g1,g2,g3,g4,g5,hq,rfl,rfl⟩:=hrel
  have key:bits .and .u32 (k:Int) 2139095040=((k/8388608*8388608:Nat):Int):=by
   rw [show (2139095040:Int)=((2139095040:Nat):Int) from rfl,u32_and_nat k 2139095040 (by omega) (by omega)]
   have e:k&&&2139095040=k/8388608*8388608:=by
    have h24:k&&&16777215=k:=by rw [show (16777215:Nat)=2^24-1 from rfl,Nat.and_two_pow_sub_one_eq_mod,Nat.mod_eq_of_lt (by omega)]
    rw [←h24,Nat.and_assoc,show (16777215&&&2139095040:Nat)=2^23 from rfl,h24,nat_bit]
    omega
   rw [e]
  by_cases hk:k<8388608
  ·have ht:(bits .and .u32 (k:Int) 2139095040==0)=true:=by rw [key];simp;omega
   replace key:=Hz key
   go_wp2
   go_round
   case rel=>
    obtain ⟨f,rfl⟩: ∃f',f=f'+1:=by
     rcases f with _|f
     ·simp at g3;omega
     ·exact ⟨f,rfl⟩
    refine ⟨f,k*2,E-1,by omega,by omega,by rw [Nat.pow_succ] at g3;rw [Nat.mul_assoc,Nat.mul_comm 2];exact g3,by omega,by omega,?_,?_,by go_num⟩
    ·have:=hq.out
     unfold subn at this
     rw [if_pos hk] at this
     exact this
    ·rw [IntKind.wrap_u32]
     congr 1
     omega
   case measure=>simp [intOf];omega
  ·have ht:(bits .and .u32 (k:Int) 2139095040==0)=false:=by rw [key];simp;omega
   replace key:=Hz key
   have hs:subn f k E=(k,E):=by
    rcases f with _|f
    ·rfl
    ·unfold subn
     rw [if_neg hk]
   rw [hs] at hq
   have hq:=hq.out
   subst hq
   have m1:bits .and .u32 (k:Int) 8388607=((k&&&8388607:Nat):Int):=u32_and_nat k 8388607 (by omega) (by omega)
   have l1:k&&&8388607≤8388607:=Nat.and_le_right
   have fin:bits .or .u32 (bits .or .u32 ((a:Int)*65536) ((E:Int)%4294967296*8388608)) (bits .and .u32 (k:Int) 8388607)=((a*65536|||E*8388608|||k&&&8388607:Nat):Int):=by
    rw [m1,←or2_u32 _ _ _ (by omega) (by omega) (by omega),show (E:Int)%4294967296*8388608=((E*8388608:Nat):Int) by omega]
    rfl
   replace fin:=Hz fin
   clear m1 l1
   go_wp2
   go_ret
   exact ⟨by rw [←fin.out];rfl,rfl⟩
end
theorem half_any (x:Nat) (hx:x<65536) (w:World):
  Calls Tryz.prog 201 #[.int .u16 (x:Int)] w fun e w'=>e= .returned (.int .u32 (h2s x:Int))∧w'=w:=by
 have e1:bits .and .u16 (x:Int) 32768=((x&&&32768:Nat):Int):=u16_and_nat x 32768 hx (by decide)
 have e2:bits .and .u16 (x:Int) 31744=((x&&&31744:Nat):Int):=u16_and_nat x 31744 hx (by decide)
 have e3:bits .and .u16 (x:Int) 1023=((x&&&1023:Nat):Int):=u16_and_nat x 1023 hx (by decide)
 have la:x&&&32768≤32768:=Nat.and_le_right
 have lb:x&&&31744≤31744:=Nat.and_le_right
 have lc:x&&&1023≤1023:=Nat.and_le_right
 unfold h2s
 dsimp only
 by_cases h1:(x&&&31744)/1024=31
 ·rw [if_pos h1]
  by_cases h2:(x&&&1023)*8192=0
  ·rw [if_pos h2]
   exact half_inf x _ _ _ w e1 e2 e3 la lb lc (by simp;omega) (by simp;omega)
  ·rw [if_neg h2]
   exact half_nan x _ _ _ w e1 e2 e3 la lb lc (by simp;omega) (by simp;omega)
 ·rw [if_neg h1]
  by_cases h0:(x&&&31744)/1024=0
  ·rw [if_pos h0]
   by_cases h2:(x&&&1023)*8192=0
   ·rw [if_pos h2]
    exact half_zero x _ _ _ w e1 e2 e3 la lb lc (by simp;omega) (by simp;omega) (by simp;omega)
   ·rw [if_neg h2]
    exact half_sub x _ _ _ w e1 e2 e3 la lb lc (by simp;omega) (by simp;omega) (by simp;omega)
  ·rw [if_neg h0]
   exact half_norm x _ _ _ w e1 e2 e3 la lb lc (by simp;omega) (by simp;omega)
end
section
open Go.RowKit
theorem ext183 (n:Nat) (w:World):(callFunc 183 #[.int .u32 (n:Int)]).run Tryz.prog w= .ok (.value (.float .f32 n)) w:=
 (run_callFunc_extern Tryz.func183 (by kernel_rfl) (by kernel_rfl) (by kernel_rfl) (show Extern.find Tryz.f183=some Extern.MathFloatBits.float32frombits by kernel_rfl) _ w).trans rfl
theorem ext184 (n:Nat) (w:World):(callFunc 184 #[.int .u64 (n:Int)]).run Tryz.prog w= .ok (.value (.float .f64 n)) w:=
 (run_callFunc_extern Tryz.func184 (by kernel_rfl) (by kernel_rfl) (by kernel_rfl) (show Extern.find Tryz.f184=some Extern.MathFloatBits.float64frombits by kernel_rfl) _ w).trans rfl
theorem ext202 (n:Nat) (w:World):(callFunc 202 #[.float .f64 n]).run Tryz.prog w= .ok (.value (.int .u64 (n:Int))) w:=
 (run_callFunc_extern Tryz.func202 (by kernel_rfl) (by kernel_rfl) (by kernel_rfl) (show Extern.find Tryz.f202=some Extern.MathFloatBits.float64bits by kernel_rfl) _ w).trans rfl
theorem float32_any (x:Nat) (hx:x<65536) (w:World):
  Calls Tryz.prog 182 #[.int .u16 (x:Int)] w fun e w'=>e= .returned (.float .f32 (h2s x))∧w'=w:=by
 have K:=Hz (half_any x hx)
 clear hx
 generalize h2s x=y at K
 have he:=ext183 y
 go_enter Tryz.func182,Tryz.ntmps182
 go_wp2_with (go_at_call 201;refine (K.out _).mono ?_;rintro e w' ⟨rfl,rfl⟩)
 go_wp2
 go_ret
 exact ⟨rfl,rfl⟩
def DecM (w:World) (dm nest elems pairs:Nat):Prop:=
 w.heap[dm]? =some (.cells #[.int .i64 0,.int .i64 (nest:Int),.int .i64 (elems:Int),.int .i64 (pairs:Int),.int .i64 0,.int .i64 0,.int .i64 0,.int .i64 0,.int .i64 0,.int .i64 0,.int .i64 0,.pointer none,.int .i64 0,.int .i64 0,.int .i64 0] 239 (0,0))
theorem DecM.fr {S:List Nat} {w w':World} {dm n e p:Nat} (h:DecM w dm n e p) (hf:Fr S w w') (hn:dm∉S):DecM w' dm n e p:=hf.blk h hn
theorem DecM.cell {w:World} {dm n e p:Nat} (h:DecM w dm n e p) (i:Nat):w.cell? ⟨dm,i,none⟩=(#[.int .i64 0,.int .i64 (n:Int),.int .i64 (e:Int),.int .i64 (p:Int),.int .i64 0,.int .i64 0,.int .i64 0,.int .i64 0,.int .i64 0,.int .i64 0,.int .i64 0,.pointer none,.int .i64 0,.int .i64 0,.int .i64 0]:Array Value)[i]? :=cell_blk h i
theorem acceptableFloat {w:World} {d db o c dm n el pa:Nat} {xs:List UInt8} {v:Value} (h:DecV w d db o c dm xs v) (hm:DecM w dm n el pa) (b:Nat):
  Calls Tryz.prog 192 #[.pointer (some ⟨d,0,none⟩),.float .f64 b] w fun e w'=>e= .returned .nilIface∧w'=w:=by
 have h2:w.cell? ⟨d,2,none⟩=some (.pointer (some ⟨dm,0,none⟩)):=cell_blk h.blk 2
 have h12:w.cell? ⟨dm,12,none⟩=some (.int .i64 0):=hm.cell 12
 have h13:w.cell? ⟨dm,13,none⟩=some (.int .i64 0):=hm.cell 13
 go_enter Tryz.func192,Tryz.ntmps192
 go_wp2
 go_ret
 exact ⟨rfl,rfl⟩
theorem convert_f32 (b:Nat):(∃f:World→Nat,∀w,(convert 291 287 (.float .f32 b)).run Tryz.prog w= .ok (.float .f64 (f w)) w)∨(∃f:World→Nat,∀w,(convert 291 287 (.float .f32 b)).run Tryz.prog w= .ok (.float .f64 (f w)) w.drew):=by
 have hc: ∀w,(convert 291 287 (.float .f32 b)).run Tryz.prog w=(Conv.floatToFloat .f32 b .f64).run Tryz.prog w:=fun w=>by
  simp [convert,run_underlying Tryz.underlying291,run_underlying Tryz.underlying287]
 simp only [hc]
 unfold Conv.floatToFloat
 simp only [reduceCtorEq,if_false]
 split
 ·simp only [Sem.run_bind,run_choose_drew]
  by_cases hq:(Question.nanConv .f64 b).forced=true
  ·exact .inl ⟨fun w=>0,fun w=>by rw [if_pos hq];rfl⟩
  ·exact .inr ⟨fun w=>(Question.nanConv .f64 b).cut (w.tape w.drawn (Question.nanConv .f64 b)),fun w=>by rw [if_neg hq];rfl⟩
 ·exact .inl ⟨_,fun w=>rfl⟩
 ·skip
  split
  ·simp only [Sem.run_bind,run_choose_drew]
   by_cases hq:(Question.floatToFloat b).forced=true
   ·exact .inl ⟨fun w=>0,fun w=>by rw [if_pos hq];rfl⟩
   ·exact .inr ⟨fun w=>(Question.floatToFloat b).cut (w.tape w.drawn (Question.floatToFloat b)),fun w=>by rw [if_neg hq];rfl⟩
  ·exact .inl ⟨fun _=>_,fun w=>rfl⟩
end
end
end Go.Proofs.YteodinhkhhaafaaGreatDoor
