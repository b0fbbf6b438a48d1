/- Walks of the program, and plain facts. -/
import Derived.Lib.Hide
import Derived.Test.YteodinhkhhaafaaGreatDoorProg
import Derived.WalkKit
import Derived.BigQuiet
import Derived.Deep.QuietTactic
import Derived.Deep.LoopGhost
import Derived.Deep.DeepFit
import Derived.Deep.DeepCutAuto
import Derived.Deep.RegionLaw
import Derived.Deep.RegionHeld3
import Derived.StillTailTactics
import Derived.Outline
import Derived.WalkLawsBesides
import Derived.WalkSpells
import Derived.Laws.BitsAllLaws
import Derived.Laws.BitsLemmas
import Derived.KernelRfl
import Derived.Laws.IdiomStrings
set_option linter.unusedVariables false
set_option linter.unusedSimpArgs false
set_option maxRecDepth 100000
set_option maxHeartbeats 6400000
namespace Go.Proofs.YteodinhkhhaafaaGreatDoor
theorem Hz {p:Prop} (h:p):Go.RowKit.Hid p:=Lib.hid h
section
open Go.RowKit
structure Fr (S:List Nat) (w w':World):Prop where
 os:w'.os=w.os
 tape:w'.tape=w.tape
 output:w'.output=w.output
 size:w.heap.size≤w'.heap.size
 block: ∀k,k<w.heap.size→k∉S→w'.heap[k]? =w.heap[k]?
section
variable {S T:List Nat} {w w' w'':World}
theorem Fr.refl (S:List Nat) (w:World):Fr S w w:=⟨rfl,rfl,rfl,Nat.le_refl _,fun _ _ _=>rfl⟩
theorem Fr.mono (h:Fr S w w') (hs: ∀k,k∈S→k∈T):Fr T w w':=⟨h.os,h.tape,h.output,h.size,fun k hk hn=>h.block k hk (fun e=>hn (hs k e))⟩
theorem Fr.then_ (h:Fr S w w') (g:Fr T w' w'') (hs: ∀k,k∈T→k∈S∨w.heap.size≤k):Fr S w w'':=
 ⟨g.os.trans h.os,g.tape.trans h.tape,g.output.trans h.output,Nat.le_trans h.size g.size,
  fun k hk hn=>(g.block k (Nat.lt_of_lt_of_le hk h.size) (fun e=>(hs k e).elim hn (fun h2=>by omega))).trans (h.block k hk hn)⟩
theorem Fr.trans (h:Fr S w w') (g:Fr S w' w''):Fr S w w'':=h.then_ g (fun _ hk=> .inl hk)
theorem Fr.then0 (h:Fr S w w') (g:Fr [] w' w''):Fr S w w'':=h.then_ g (by simp)
theorem Fr.drewN (h:Fr S w w') (n:Nat):Fr S w (w'.drewN n):=⟨h.os,h.tape,h.output,h.size,h.block⟩
theorem Fr.drew (h:Fr S w w'):Fr S w w'.drew:=⟨h.os,h.tape,h.output,h.size,h.block⟩
theorem Fr.alloc (h:Fr S w w') (o:Obj):Fr S w (w'.alloc o):=
 h.then_ (T:=[]) ⟨rfl,rfl,rfl,by simp,fun k hk _=>Below.heap_alloc _ _ _ hk⟩ (by simp)
theorem Fr.setCell (h:Fr S w w') {p:Addr} (hp:p.block∈S∨w.heap.size≤p.block) (u:Value):Fr S w (w'.setCell p u):=
 h.then_ (T:=[p.block]) ⟨rfl,rfl,rfl,by simp [World.setCell],fun k hk hn=>Below.heap_setCell _ _ _ _ (by simpa using hn)⟩ (by intro k hk;simp at hk;subst hk;exact hp)
theorem Fr.below (h:Fr [] w w'):Below w.heap.size w w':=⟨h.os,h.tape,h.output,h.size,fun k hk=>h.block k hk (by simp)⟩
theorem Fr.grown {row:Option Nat} (h:Fr S w w') (hg:w'.grownBy w'' row) (hr: ∀k,row=some k→k∈S∨w.heap.size≤k):Fr S w w'':=
 h.then_ (T:=row.toList) ⟨hg.os,hg.tape,hg.output,hg.size,fun k hk hn=>hg.block k hk (fun e=>hn (by rw [←e];simp))⟩ (by intro k hk;exact hr k (by simpa using hk))
theorem Fr.blk (h:Fr S w w') {k:Nat} {o:Obj} (hb:w.heap[k]? =some o) (hn:k∉S):w'.heap[k]? =some o:=
 (h.block k (Array.getElem?_eq_some_iff.1 hb).1 hn).trans hb
theorem Fr.cell (h:Fr S w w') {p:Addr} {v:Value} (hc:w.cell? p=some v) (hn:p.block∉S):w'.cell? p=some v:=
 (World.cell?_of_block (w:=w) (h.block p.block (World.block_lt_of_cell? w p hc) hn)).trans hc
theorem Fr.frozen (h:Fr S w w') {p:Addr} (hl:p.block<w.heap.size) (hn:p.block∉S):w'.frozen? p=w.frozen? p:=
 World.frozen?_of_block (w:=w) (h.block p.block hl hn)
theorem Fr.own (h:Fr S w w') {base n size:Nat} {e:TypeId} {v:Value} {xs:List Value} (ho:w.ownsRow base e size v n xs) (hn: ∀k,v.ownBlock=some k→k∉S):w'.ownsRow base e size v n xs:=by
 obtain ⟨h1,h2⟩:=ho;refine ⟨h1,?_⟩
 rcases h2 with h2|⟨g,cap,cur,rfl,hg,hh,r⟩
 ·exact .inl h2
 ·exact .inr ⟨g,cap,cur,rfl,hg,h.blk hh (hn g rfl),r⟩
end
theorem cell_blk {w:World} {b:Nat} {cs:Array Value} {t:TypeId} {fr:Nat×Nat} (h:w.heap[b]? =some (.cells cs t fr)) (i:Nat):w.cell? ⟨b,i,none⟩=cs[i]? :=by simp [World.cell?,h]
theorem frozen_blk {w:World} {b:Nat} {cs:Array Value} {t:TypeId} (h:w.heap[b]? =some (.cells cs t (0,0))) (i:Nat):w.frozen? ⟨b,i,none⟩=false:=by simp [World.frozen?,h]
theorem blk_lt' {w:World} {b:Nat} {o:Obj} (h:w.heap[b]? =some o):b<w.heap.size:=(Array.getElem?_eq_some_iff.1 h).1
theorem blk_setCell {w:World} {b:Nat} {cs:Array Value} {t:TypeId} {fr:Nat×Nat} (h:w.heap[b]? =some (.cells cs t fr)) (i:Nat) (u:Value):(w.setCell ⟨b,i,none⟩ u).heap[b]? =some (.cells (cs.setIfInBounds i u) t fr):=by
 simp [World.setCell,Array.getElem?_modify,h]
theorem blk_setCell_ne {w:World} {b:Nat} {o:Obj} (h:w.heap[b]? =some o) {p:Addr} (hp:b≠p.block) (u:Value):(w.setCell p u).heap[b]? =some o:=(Below.heap_setCell _ _ _ _ hp).trans h
theorem blk_alloc {w:World} {b:Nat} {o:Obj} (h:w.heap[b]? =some o) (o':Obj):(w.alloc o').heap[b]? =some o:=(Below.heap_alloc _ _ _ (blk_lt' h)).trans h
theorem blk_new (w:World) (o:Obj):(w.alloc o).heap[w.heap.size]? =some o:=by
 show (w.heap.push o)[w.heap.size]? =_
 simp
theorem quiet2 {P:Program} {f:FuncId} {args:Array Value} {w:World} {a n:Nat} {v:Value} (h:Calls P f args (w.drewN (a+n)) fun e w'=>e= .returned v∧ ∃m,w'=(w.drewN (a+n)).drewN m):
  Calls P f args (w.drewN (a+n)) fun e w''=>e= .returned v∧ ∃m,w''=w.drewN (a+m):=
 h.mono fun _ _ hh=>⟨hh.1,by obtain ⟨m,hm⟩:=hh.2;exact ⟨n+m,by rw [hm,World.drewN_drewN,Nat.add_assoc]⟩⟩
theorem quiet_same {P:Program} {f:FuncId} {args:Array Value} {w:World} {v:Value} (h:Calls P f args w fun e w'=>e= .returned v∧w'=w):Calls P f args w fun e w'=>e= .returned v∧ ∃m,w'=w.drewN m:=
 h.mono fun _ _ hh=>⟨hh.1,0,hh.2⟩
def Rd (w:World) (b o:Nat) (xs:List UInt8):Prop:= ∀j,(h:j<xs.length)→w.cell? ⟨b,o+j,none⟩=some (.int .u8 (xs[j].toNat:Int))
theorem Rd.fr {S:List Nat} {w w':World} {b o:Nat} {xs:List UInt8} (h:Rd w b o xs) (hf:Fr S w w') (hn:b∉S):Rd w' b o xs:=fun j hj=>hf.cell (h j hj) hn
theorem Rd.drop {w:World} {b o:Nat} {xs:List UInt8} (h:Rd w b o xs) (k:Nat):Rd w b (o+k) (xs.drop k):=fun j hj=>by
 have hj':k+j<xs.length:=by simp at hj;omega
 have:=h (k+j) hj';rw [Nat.add_assoc,this];simp
theorem Rd.take {w:World} {b o:Nat} {xs:List UInt8} (h:Rd w b o xs) (k:Nat):Rd w b o (xs.take k):=fun j hj=>by
 have hj':j<xs.length:=by simp at hj;omega
 rw [h j hj'];simp
theorem Rd.nil (w:World) (b o:Nat):Rd w b o []:=fun j hj=>absurd hj (by simp)
def enc (xs:List UInt8):List Value:=xs.map fun c=> .int .u8 (c.toNat:Int)
theorem enc_length (xs:List UInt8):(enc xs).length=xs.length:=by simp [enc]
theorem enc_append (xs ys:List UInt8):enc (xs++ys)=enc xs++enc ys:=by simp [enc]
theorem Rd.cells {w:World} {b o:Nat} {xs:List UInt8} (h:Rd w b o xs): ∀j u,(enc xs)[j]? =some u→w.cell? ((⟨b,o,none⟩:Addr).add j)=some u:=by
 intro j u hu;have hj:j<xs.length:=by have:=(List.getElem?_eq_some_iff.1 hu).1;simpa [enc] using this
 have ha:(⟨b,o,none⟩:Addr).add j=⟨b,o+j,none⟩:=by unfold Addr.add;split<;>simp_all
 rw [ha,h j hj];simp [enc,hj] at hu;rw [←hu]
theorem Rd.of_own {w:World} {base:Nat} {e:TypeId} {g cap n:Nat} {xs:List UInt8} (h:w.ownsRow base e 1 (.slice (some ⟨g,0,none⟩) n cap) n (enc xs)):Rd w g 0 xs:=fun j hj=>by
 have:=h.cells (g:=g) rfl j (.int .u8 (xs[j].toNat:Int)) (by simp [enc,hj])
 have ha:(⟨g,0,none⟩:Addr).add j=⟨g,0+j,none⟩:=by unfold Addr.add;split<;>simp_all
 rwa [ha] at this
theorem toStr {w:World} {b o:Nat} {xs:List UInt8} (h:Rd w b o xs) (c:Nat):(convert 59 9 (.slice (some ⟨b,o,none⟩) xs.length c)).run Tryz.prog w= .ok (.string ⟨xs.toArray⟩) w:=
 run_convert_bytes_back w 59 9 5 ⟨b,o,none⟩ c xs Tryz.underlying59 Tryz.underlying5 Tryz.underlying9 fun j hj=>by
  have ha:(⟨b,o,none⟩:Addr).add j=⟨b,o+j,none⟩:=by unfold Addr.add;split<;>simp_all
  rw [ha];exact h j hj
theorem and224 (b:UInt8):bits .and .u8 (b.toNat:Int) 224=((b.toNat/32*32:Nat):Int):=by
 have hb:=b.toNat_lt;rw [show (224:Int)=((224:Nat):Int) from rfl,u8_and_nat _ _ (by omega) (by decide)]
 have key: ∀x:Fin 256,(x.val&&&224)=x.val/32*32:=by decide+kernel
 exact congrArg _ (key ⟨b.toNat,hb⟩)
theorem and31 (b:UInt8):bits .and .u8 (b.toNat:Int) 31=((b.toNat%32:Nat):Int):=by
 have hb:=b.toNat_lt;rw [u8_and31 (x:=(b.toNat:Int)) (by omega) (by omega)]
 omega
theorem parseInitialByte (b:UInt8) (w:World):
  Calls Tryz.prog 160 #[.int .u8 (b.toNat:Int)] w fun e w'=>e= .returned (.tuple #[.int .u8 ((b.toNat/32*32:Nat):Int),.int .u8 ((b.toNat%32:Nat):Int)])∧w'=w:=by
 rw [←and224,←and31];go_enter Tryz.func160,Tryz.ntmps160
 go_wp2
 go_ret2
 exact ⟨rfl,rfl⟩
theorem getType (b:UInt8) (w:World):
  Calls Tryz.prog 158 #[.int .u8 (b.toNat:Int)] w fun e w'=>e= .returned (.int .u8 ((b.toNat/32*32:Nat):Int))∧w'=w:=by
 rw [←and224];go_enter Tryz.func158,Tryz.ntmps158
 go_wp2;go_ret
 exact ⟨rfl,rfl⟩
theorem isBreakFlag (b:UInt8) (w:World):
  Calls Tryz.prog 117 #[.int .u8 (b.toNat:Int)] w fun e w'=>e= .returned (.bool ((b.toNat:Int)==255))∧w'=w:=by
 go_enter Tryz.func117,Tryz.ntmps117
 go_wp2;go_ret
 exact ⟨rfl,rfl⟩
end
section
open Go.RowKit
def two (x y:UInt8):Nat:=x.toNat*256+y.toNat
def four (p q:Nat):Nat:=p*65536+q
def eight (p q:Nat):Nat:=p*4294967296+q
theorem u8lt (x:UInt8):x.toNat<256:=x.toNat_lt
theorem two_lt (x y:UInt8):two x y<65536:=by have:=u8lt x;have:=u8lt y;unfold two;omega
theorem four_lt (p q:Nat) (hp:p<65536) (hq:q<65536):four p q<4294967296:=by unfold four;omega
theorem or16 (x y:UInt8):bits .or .u16 (IntKind.u16.wrap (IntKind.u16.wrap (x.toNat:Int)*256)) (IntKind.u16.wrap (y.toNat:Int))=(two x y:Int):=by
 have hx:=x.toNat_lt;have hy:=y.toNat_lt;rw [IntKind.wrap_u16,IntKind.wrap_u16,IntKind.wrap_u16];have e1:(x.toNat:Int)%65536*256%65536=((x.toNat*256:Nat):Int):=by omega
 have e2:(y.toNat:Int)%65536=(y.toNat:Int):=by omega
 rw [e1,e2,u16_or_nat _ _ (by omega) (by omega),nat_join 8 _ _ (by omega) (by omega)]
 rfl
theorem or32 (x y:Nat) (hx:x<65536) (hy:y<65536):bits .or .u32 ((x:Int)*65536) (y:Int)=(four x y:Int):=by
 have e1:(x:Int)*65536=((x*65536:Nat):Int):=by omega
 rw [e1,u32_or_nat _ _ (by omega) (by omega),nat_join 16 _ _ (by omega) (by omega)]
 rfl
theorem or64 (x y:Nat) (hx:x<4294967296) (hy:y<4294967296):bits .or .u64 ((x:Int)*4294967296) (y:Int)=(eight x y:Int):=by
 have e1:(x:Int)*4294967296=((x*4294967296:Nat):Int):=by omega
 rw [e1,u64_or_nat _ _ (by omega) (by omega),nat_join 32 _ _ (by omega) (by omega)]
 rfl
theorem beUint16 (b o n c:Nat) (x y:UInt8) (w:World) (hn:2≤n) (h0:w.cell? ⟨b,o,none⟩=some (.int .u8 (x.toNat:Int))) (h1:w.cell? ⟨b,o+1,none⟩=some (.int .u8 (y.toNat:Int))):
  Calls Tryz.prog 161 #[.slice (some ⟨b,o,none⟩) n c] w fun e w'=>e= .returned (.int .u16 (two x y:Int))∧ ∃m,w'=w.drewN m:=by
 rw [←or16];go_enter Tryz.func161,Tryz.ntmps161
 go_wp2
 go_quiet (fail)
 go_wp2;go_ret
 exact ⟨rfl,_,rfl⟩
theorem beUint32 (b o n c:Nat) (x0 x1 x2 x3:UInt8) (w:World) (hn:4≤n) (hc:n≤c) (h0:w.cell? ⟨b,o,none⟩=some (.int .u8 (x0.toNat:Int))) (h1:w.cell? ⟨b,o+1,none⟩=some (.int .u8 (x1.toNat:Int)))
  (h2:w.cell? ⟨b,o+2,none⟩=some (.int .u8 (x2.toNat:Int))) (h3:w.cell? ⟨b,o+2+1,none⟩=some (.int .u8 (x3.toNat:Int))):
  Calls Tryz.prog 162 #[.slice (some ⟨b,o,none⟩) n c] w fun e w'=>e= .returned (.int .u32 (four (two x0 x1) (two x2 x3):Int))∧ ∃m,w'=w.drewN m:=by
 have l0:=two_lt x0 x1;have l1:=two_lt x2 x3;rw [←or32 _ _ l0 l1];have g0:(2:Int)≤(n:Int):=by omega
 have g1: ¬c=2:=by omega
 go_enter Tryz.func162,Tryz.ntmps162
 go_wp2
 go_quiet (first|(go_at_call_of 161 (Value.slice (some ⟨b,o,none⟩) n c);exact Calls.quiet_of (beUint16 b o n c x0 x1 _ (by omega) h0 h1))|(go_at_call 161;exact Calls.quiet_of (beUint16 b (o+2) (n-2) (c-2) x2 x3 _ (by omega) h2 h3)))
 go_wp2;go_ret
 exact ⟨rfl,_,rfl⟩
theorem beUint64 (b o n c:Nat) (x0 x1 x2 x3 x4 x5 x6 x7:UInt8) (w:World) (hn:8≤n) (hc:n≤c) (h0:w.cell? ⟨b,o,none⟩=some (.int .u8 (x0.toNat:Int))) (h1:w.cell? ⟨b,o+1,none⟩=some (.int .u8 (x1.toNat:Int)))
  (h2:w.cell? ⟨b,o+2,none⟩=some (.int .u8 (x2.toNat:Int))) (h3:w.cell? ⟨b,o+2+1,none⟩=some (.int .u8 (x3.toNat:Int))) (h4:w.cell? ⟨b,o+4,none⟩=some (.int .u8 (x4.toNat:Int)))
  (h5:w.cell? ⟨b,o+4+1,none⟩=some (.int .u8 (x5.toNat:Int))) (h6:w.cell? ⟨b,o+4+2,none⟩=some (.int .u8 (x6.toNat:Int))) (h7:w.cell? ⟨b,o+4+2+1,none⟩=some (.int .u8 (x7.toNat:Int))):
  Calls Tryz.prog 163 #[.slice (some ⟨b,o,none⟩) n c] w fun e w'=>e= .returned (.int .u64 (eight (four (two x0 x1) (two x2 x3)) (four (two x4 x5) (two x6 x7)):Int))∧ ∃m,w'=w.drewN m:=by
 have l0:=four_lt _ _ (two_lt x0 x1) (two_lt x2 x3);have l1:=four_lt _ _ (two_lt x4 x5) (two_lt x6 x7);rw [←or64 _ _ l0 l1];have g0:(4:Int)≤(n:Int):=by omega
 have g1: ¬c=4:=by omega
 go_enter Tryz.func163,Tryz.ntmps163
 go_wp2
 go_quiet (first|(go_at_call_of 162 (Value.slice (some ⟨b,o,none⟩) n c);exact Calls.quiet_of (beUint32 b o n c x0 x1 x2 x3 _ (by omega) hc h0 h1 h2 h3))|(go_at_call 162;exact Calls.quiet_of (beUint32 b (o+4) (n-4) (c-4) x4 x5 x6 x7 _ (by omega) (by omega) h4 h5 h6 h7)))
 go_wp2;go_ret
 exact ⟨rfl,_,rfl⟩
def be (l:List UInt8):Nat:=l.foldl (fun a b=>a*256+b.toNat) 0
def hd (xs:List UInt8) (off:Nat):Except Nat (Nat×Nat×Nat×Nat):=
 match xs[off]? with
 |none=> .error 2
 |some b=>
  if b.toNat%32<24 then .ok (b.toNat/32,b.toNat%32,b.toNat%32,off+1)
  else if b.toNat%32<28 then
   if xs.length<off+1+2^(b.toNat%32-24) then .error 2
   else if b.toNat/32=7∧b.toNat%32=24∧be ((xs.drop (off+1)).take 1)<32 then .error 3
   else .ok (b.toNat/32,b.toNat%32,be ((xs.drop (off+1)).take (2^(b.toNat%32-24))),off+1+2^(b.toNat%32-24))
  else if b.toNat%32=31 then (if b.toNat/32<2∨5<b.toNat/32 then .error 3 else .ok (b.toNat/32,31,31,off+1))
  else .error 3
structure Dec (w:World) (d db o c dm:Nat) (xs:List UInt8) (off:Nat):Prop where
 blk:w.heap[d]? =some (.cells #[.slice (some ⟨db,o,none⟩) xs.length c,.int .i64 (off:Int),.pointer (some ⟨dm,0,none⟩)] 188 (0,0))
 rd:Rd w db o xs
 cap:xs.length≤c
 len:xs.length≤1099511627776
 ne:db≠d
 le:off≤xs.length
section
variable {w w':World} {d db o c dm off:Nat} {xs:List UInt8}
theorem Dec.c0 (h:Dec w d db o c dm xs off):w.cell? ⟨d,0,none⟩=some (.slice (some ⟨db,o,none⟩) xs.length c):=cell_blk h.blk 0
theorem Dec.c1 (h:Dec w d db o c dm xs off):w.cell? ⟨d,1,none⟩=some (.int .i64 (off:Int)):=cell_blk h.blk 1
theorem Dec.c2 (h:Dec w d db o c dm xs off):w.cell? ⟨d,2,none⟩=some (.pointer (some ⟨dm,0,none⟩)):=cell_blk h.blk 2
theorem Dec.f1 (h:Dec w d db o c dm xs off):w.frozen? ⟨d,1,none⟩=false:=frozen_blk h.blk 1
theorem Dec.at_ (h:Dec w d db o c dm xs off) (j:Nat) (hj:j<xs.length):w.cell? ⟨db,o+j,none⟩=some (.int .u8 (xs[j].toNat:Int)):=h.rd j hj
theorem Dec.fr {S:List Nat} (h:Dec w d db o c dm xs off) (hf:Fr S w w') (h1:d∉S) (h2:db∉S):Dec w' d db o c dm xs off:=⟨hf.blk h.blk h1,h.rd.fr hf h2,h.cap,h.len,h.ne,h.le⟩
theorem Dec.drewN (h:Dec w d db o c dm xs off) (n:Nat):Dec (w.drewN n) d db o c dm xs off:=⟨h.blk,h.rd,h.cap,h.len,h.ne,h.le⟩
structure DecV (w:World) (d db o c dm:Nat) (xs:List UInt8) (v:Value):Prop where
 blk:w.heap[d]? =some (.cells #[.slice (some ⟨db,o,none⟩) xs.length c,v,.pointer (some ⟨dm,0,none⟩)] 188 (0,0))
 rd:Rd w db o xs
 cap:xs.length≤c
 len:xs.length≤1099511627776
 ne:db≠d
theorem Dec.v (h:Dec w d db o c dm xs off):DecV w d db o c dm xs (.int .i64 (off:Int)):=⟨h.blk,h.rd,h.cap,h.len,h.ne⟩
theorem DecV.drewN {v:Value} (h:DecV w d db o c dm xs v) (n:Nat):DecV (w.drewN n) d db o c dm xs v:=⟨h.blk,h.rd,h.cap,h.len,h.ne⟩
theorem DecV.drew {v:Value} (h:DecV w d db o c dm xs v):DecV w.drew d db o c dm xs v:=⟨h.blk,h.rd,h.cap,h.len,h.ne⟩
theorem DecV.alloc {v:Value} (h:DecV w d db o c dm xs v) (u:Obj):DecV (w.alloc u) d db o c dm xs v:=⟨blk_alloc h.blk u,h.rd.fr ((Fr.refl [] w).alloc u) (by simp),h.cap,h.len,h.ne⟩
theorem DecV.set {v:Value} (h:DecV w d db o c dm xs v) (u:Value):DecV (w.setCell ⟨d,1,none⟩ u) d db o c dm xs u:=
 ⟨blk_setCell h.blk 1 _,h.rd.fr ((Fr.refl [d] w).setCell (by simp) u) (by simpa using h.ne),h.cap,h.len,h.ne⟩
theorem DecV.fr0 {v:Value} (hf:Fr [] w w') (h:DecV w d db o c dm xs v):DecV w' d db o c dm xs v:=⟨hf.blk h.blk (by simp),h.rd.fr hf (by simp),h.cap,h.len,h.ne⟩
theorem DecV.dec {x:Int} (h:DecV w d db o c dm xs (.int .i64 x)) (off':Nat) (hx:x=(off':Int)) (hl:off'≤xs.length):Dec w d db o c dm xs off':=by
 subst hx;exact ⟨h.blk,h.rd,h.cap,h.len,h.ne,hl⟩
theorem Dec.move (h:Dec w d db o c dm xs off) (off':Nat) (hl:off'≤xs.length) (n:Nat):Dec ((w.setCell ⟨d,1,none⟩ (.int .i64 (off':Int))).drewN n) d db o c dm xs off'∧Fr [d] w ((w.setCell ⟨d,1,none⟩ (.int .i64 (off':Int))).drewN n):=by
 have hf:Fr [d] w ((w.setCell ⟨d,1,none⟩ (.int .i64 (off':Int))).drewN n):=((Fr.refl _ _).setCell (by simp) _).drewN n
 exact ⟨⟨blk_setCell h.blk 1 _,h.rd.fr hf (by simpa using h.ne),h.cap,h.len,h.ne,hl⟩,hf⟩
end
theorem nextCBORType {w:World} {d db o c dm off:Nat} {xs:List UInt8} (h:Dec w d db o c dm xs off) (hl:off<xs.length):
  Calls Tryz.prog 120 #[.pointer (some ⟨d,0,none⟩)] w fun e w'=>e= .returned (.int .u8 ((xs[off].toNat/32*32:Nat):Int))∧ ∃m,w'=w.drewN m:=by
 have h0:=h.c0;have h1:=h.c1;have ha:=h.at_ off hl;have hm:=h.len;go_enter Tryz.func120,Tryz.ntmps120
 go_wp2
 go_quiet ((go_at_call 158;exact Calls.quiet_of_same (getType _ _)))
 go_wp2;go_ret
 exact ⟨rfl,_,rfl⟩
theorem foundBreak_no {w:World} {d db o c dm off:Nat} {xs:List UInt8} (h:Dec w d db o c dm xs off) (hl:off<xs.length) (hb:((xs[off].toNat:Int)==255)=false):
  Calls Tryz.prog 118 #[.pointer (some ⟨d,0,none⟩)] w fun e w'=>e= .returned (.bool false)∧ ∃m,w'=w.drewN m:=by
 have h0:=h.c0;have h1:=h.c1;have ha:=h.at_ off hl;have hm:=h.len;go_enter Tryz.func118,Tryz.ntmps118
 go_wp2
 go_quiet ((go_at_call 117;exact Calls.quiet_of_same (isBreakFlag _ _)))
 go_wp2;go_ret
 exact ⟨rfl,_,rfl⟩
theorem foundBreak_yes {w:World} {d db o c dm off:Nat} {xs:List UInt8} (h:Dec w d db o c dm xs off) (hl:off<xs.length) (hb:((xs[off].toNat:Int)==255)=true):
  Calls Tryz.prog 118 #[.pointer (some ⟨d,0,none⟩)] w fun e w'=>e= .returned (.bool true)∧Dec w' d db o c dm xs (off+1)∧Fr [d] w w':=by
 have h0:=h.c0;have h1:=h.c1;have f1:=h.f1;have ha:=h.at_ off hl;have hm:=h.len;go_enter Tryz.func118,Tryz.ntmps118
 go_wp2
 go_quiet ((go_at_call 117;exact Calls.quiet_of_same (isBreakFlag _ _)))
 go_wp2;go_ret
 exact ⟨rfl,h.move (off+1) (by omega) _⟩
end
section
open Go.RowKit
theorem be1 (xs:List UInt8) (i:Nat) (h:i<xs.length):be ((xs.drop i).take 1)=xs[i].toNat:=by
 rw [List.drop_eq_getElem_cons h];simp only [List.take_succ_cons,List.take_zero,be,List.foldl_cons,List.foldl_nil];omega
theorem be2 (xs:List UInt8) (i:Nat) (h:i+1<xs.length):be ((xs.drop i).take 2)=two xs[i] xs[i+1]:=by
 rw [List.drop_eq_getElem_cons (by omega),List.drop_eq_getElem_cons h];simp only [List.take_succ_cons,List.take_zero,be,List.foldl_cons,List.foldl_nil,two];omega
theorem be4 (xs:List UInt8) (i:Nat) (h:i+3<xs.length):be ((xs.drop i).take 4)=four (two xs[i] xs[i+1]) (two xs[i+2] xs[i+3]):=by
 rw [List.drop_eq_getElem_cons (by omega),List.drop_eq_getElem_cons (show i+1<_ by omega),List.drop_eq_getElem_cons (show i+1+1<_ by omega),List.drop_eq_getElem_cons (show i+1+1+1<_ by omega)]
 simp only [List.take_succ_cons,List.take_zero,be,List.foldl_cons,List.foldl_nil,two,four,Nat.add_assoc,Nat.reduceAdd];omega
theorem be8 (xs:List UInt8) (i:Nat) (h:i+7<xs.length):be ((xs.drop i).take 8)=eight (four (two xs[i] xs[i+1]) (two xs[i+2] xs[i+3])) (four (two xs[i+4] xs[i+5]) (two xs[i+6] xs[i+7])):=by
 rw [List.drop_eq_getElem_cons (by omega),List.drop_eq_getElem_cons (show i+1<_ by omega),List.drop_eq_getElem_cons (show i+1+1<_ by omega),List.drop_eq_getElem_cons (show i+1+1+1<_ by omega),
  List.drop_eq_getElem_cons (show i+1+1+1+1<_ by omega),List.drop_eq_getElem_cons (show i+1+1+1+1+1<_ by omega),List.drop_eq_getElem_cons (show i+1+1+1+1+1+1<_ by omega),List.drop_eq_getElem_cons (show i+1+1+1+1+1+1+1<_ by omega)]
 simp only [List.take_succ_cons,List.take_zero,be,List.foldl_cons,List.foldl_nil,two,four,eight,Nat.add_assoc,Nat.reduceAdd];omega
def HeadAt (w:World) (d db o c dm:Nat) (xs:List UInt8) (m ai v off':Nat) (e:Ending) (w':World):Prop:=
 e= .returned (.tuple #[.int .u8 ((m*32:Nat):Int),.int .u8 (ai:Int),.int .u64 (v:Int)])∧Dec w' d db o c dm xs off'∧Fr [d] w w'
section
variable {w:World} {d db o c dm off:Nat} {xs:List UInt8}
theorem getHead_0 (h:Dec w d db o c dm xs off) (hl:off<xs.length) (k:Nat) (hk:xs[off].toNat%32=k) (h23:k≤23∨28≤k):
  Calls Tryz.prog 121 #[.pointer (some ⟨d,0,none⟩)] w (HeadAt w d db o c dm xs (xs[off].toNat/32) k k (off+1)):=by
 have h0:=h.c0;have h1:=h.c1;have f1:=h.f1;have ha:=h.at_ off hl;have hm:=h.len;have K:=parseInitialByte xs[off];rw [hk] at K;have K:=Hz K;have hk31:k<32:=by omega
 clear hk;rcases h23 with h23|h23
 all_goals
  go_enter Tryz.func121,Tryz.ntmps121
  go_wp2
  go_quiet ((go_at_call 160;exact Calls.quiet_of_same (K.out _)))
  go_wp2;refine bodyPost_ret (results_tmp3 rfl _ _ _) rfl ?_
  exact ⟨rfl,h.move (off+1) (by omega) _⟩
theorem getHead_1 (h:Dec w d db o c dm xs off) (hl:off+1<xs.length) (hk:xs[off].toNat%32=24):
  Calls Tryz.prog 121 #[.pointer (some ⟨d,0,none⟩)] w (HeadAt w d db o c dm xs (xs[off].toNat/32) 24 xs[off+1].toNat (off+1+1)):=by
 have h0:=h.c0;have h1:=h.c1;have f1:=h.f1;have ha:=h.at_ off (by omega)
 have hb:=h.at_ (off+1) (by omega)
 have l0:=u8lt (xs[off+1]'(by omega))
 have hm:=h.len;have hc:=h.cap;have n1: ¬db=d:=h.ne;have n2: ¬d=db:=fun e=>h.ne e.symm
 have K:=parseInitialByte (xs[off]'(by omega))
 rw [hk] at K;have K:=Hz K;clear hk;go_enter Tryz.func121,Tryz.ntmps121
 go_wp2
 go_quiet ((go_at_call 160;exact Calls.quiet_of_same (K.out _)))
 go_wp2;have g0:(off:Int)+1<(xs.length:Int):=by omega
 have g1:0≤(off:Int)+1:=by omega
 have g2:((off:Int)+1).toNat=off+1:=by omega
 go_quiet (fail)
 go_wp2;refine bodyPost_ret (results_tmp3 rfl _ _ _) rfl ?_
 refine ⟨rfl,DecV.dec (x:=(off:Int)+1+1) ?_ _ (by omega) (by omega),?_⟩
 ·repeat (first|with_reducible exact h.v|with_reducible apply DecV.set|with_reducible apply DecV.drewN)
 ·repeat (first|with_reducible exact Fr.refl _ _|with_reducible refine Fr.setCell ?_ (by simp) _|with_reducible refine Fr.drewN ?_ _)
theorem getHead_2 (h:Dec w d db o c dm xs off) (hl:off+2<xs.length) (hk:xs[off].toNat%32=25):
  Calls Tryz.prog 121 #[.pointer (some ⟨d,0,none⟩)] w (HeadAt w d db o c dm xs (xs[off].toNat/32) 25 (two xs[off+1] xs[off+2]) (off+1+2)):=by
 have h0:=h.c0;have h1:=h.c1;have f1:=h.f1;have ha:=h.at_ off (by omega)
 have hx0:=fun (v:Value) (m n:Nat)=>((Fr.refl [d] (w.drewN m)).setCell (p:=⟨d,1,none⟩) (by simp) v).drewN n|>.cell (p:=⟨db,o+(off+1),none⟩) ((show w.cell? ⟨db,o+(off+1),none⟩=w.cell? ⟨db,o+(off+1),none⟩ from congrArg (fun z=>w.cell? ⟨db,z,none⟩) (by omega)).trans (h.at_ (off+1) (by omega))) (by simpa using h.ne)
 have hx1:=fun (v:Value) (m n:Nat)=>((Fr.refl [d] (w.drewN m)).setCell (p:=⟨d,1,none⟩) (by simp) v).drewN n|>.cell (p:=⟨db,o+(off+1)+1,none⟩) ((show w.cell? ⟨db,o+(off+1)+1,none⟩=w.cell? ⟨db,o+(off+2),none⟩ from congrArg (fun z=>w.cell? ⟨db,z,none⟩) (by omega)).trans (h.at_ (off+2) (by omega))) (by simpa using h.ne)
 have l0:=two_lt (xs[off+1]'(by omega)) (xs[off+2]'(by omega))
 have hm:=h.len;have hc:=h.cap;have n1: ¬db=d:=h.ne;have n2: ¬d=db:=fun e=>h.ne e.symm
 have K:=parseInitialByte (xs[off]'(by omega))
 rw [hk] at K;have K:=Hz K;clear hk;go_enter Tryz.func121,Tryz.ntmps121
 go_wp2
 go_quiet ((go_at_call 160;exact Calls.quiet_of_same (K.out _)))
 go_wp2;have g0:(off:Int)+1<(xs.length:Int):=by omega
 have g1:0≤(off:Int)+1:=by omega
 have g2:((off:Int)+1).toNat=off+1:=by omega
 have g3:(off:Int)+1+2≤(c:Int):=by omega
 have g4:((off:Int)+1+2).toNat=off+1+2:=by omega
 have g5: ¬c=off+1:=by omega
 have g6:(off:Int)+1≤(off:Int)+1+2:=by omega
 have g7:0≤(off:Int)+1+2:=by omega
 have g8:IntKind.i64.wrap ((off:Int)+1+2)=(off:Int)+1+2:=IntWalk.i64_in _ (by omega)
 go_quiet ((go_at_call 161;exact Calls.quiet_of (beUint16 db (o+(off+1)) 2 (c-(off+1)) xs[off+1] xs[off+2] _ (by omega) (hx0 _ _ _) (hx1 _ _ _))))
 go_wp2;refine bodyPost_ret (results_tmp3 rfl _ _ _) rfl ?_
 refine ⟨rfl,DecV.dec (x:=(off:Int)+1+2) ?_ _ (by omega) (by omega),?_⟩
 ·repeat (first|with_reducible exact h.v|with_reducible apply DecV.set|with_reducible apply DecV.drewN)
 ·repeat (first|with_reducible exact Fr.refl _ _|with_reducible refine Fr.setCell ?_ (by simp) _|with_reducible refine Fr.drewN ?_ _)
theorem getHead_4 (h:Dec w d db o c dm xs off) (hl:off+4<xs.length) (hk:xs[off].toNat%32=26):
  Calls Tryz.prog 121 #[.pointer (some ⟨d,0,none⟩)] w (HeadAt w d db o c dm xs (xs[off].toNat/32) 26 (four (two xs[off+1] xs[off+2]) (two xs[off+3] xs[off+4])) (off+1+4)):=by
 have h0:=h.c0;have h1:=h.c1;have f1:=h.f1;have ha:=h.at_ off (by omega)
 have hx0:=fun (v:Value) (m n:Nat)=>((Fr.refl [d] (w.drewN m)).setCell (p:=⟨d,1,none⟩) (by simp) v).drewN n|>.cell (p:=⟨db,o+(off+1),none⟩) ((show w.cell? ⟨db,o+(off+1),none⟩=w.cell? ⟨db,o+(off+1),none⟩ from congrArg (fun z=>w.cell? ⟨db,z,none⟩) (by omega)).trans (h.at_ (off+1) (by omega))) (by simpa using h.ne)
 have hx1:=fun (v:Value) (m n:Nat)=>((Fr.refl [d] (w.drewN m)).setCell (p:=⟨d,1,none⟩) (by simp) v).drewN n|>.cell (p:=⟨db,o+(off+1)+1,none⟩) ((show w.cell? ⟨db,o+(off+1)+1,none⟩=w.cell? ⟨db,o+(off+2),none⟩ from congrArg (fun z=>w.cell? ⟨db,z,none⟩) (by omega)).trans (h.at_ (off+2) (by omega))) (by simpa using h.ne)
 have hx2:=fun (v:Value) (m n:Nat)=>((Fr.refl [d] (w.drewN m)).setCell (p:=⟨d,1,none⟩) (by simp) v).drewN n|>.cell (p:=⟨db,o+(off+1)+2,none⟩) ((show w.cell? ⟨db,o+(off+1)+2,none⟩=w.cell? ⟨db,o+(off+3),none⟩ from congrArg (fun z=>w.cell? ⟨db,z,none⟩) (by omega)).trans (h.at_ (off+3) (by omega))) (by simpa using h.ne)
 have hx3:=fun (v:Value) (m n:Nat)=>((Fr.refl [d] (w.drewN m)).setCell (p:=⟨d,1,none⟩) (by simp) v).drewN n|>.cell (p:=⟨db,o+(off+1)+2+1,none⟩) ((show w.cell? ⟨db,o+(off+1)+2+1,none⟩=w.cell? ⟨db,o+(off+4),none⟩ from congrArg (fun z=>w.cell? ⟨db,z,none⟩) (by omega)).trans (h.at_ (off+4) (by omega))) (by simpa using h.ne)
 have l0:=four_lt _ _ (two_lt (xs[off+1]'(by omega)) (xs[off+2]'(by omega))) (two_lt (xs[off+3]'(by omega)) (xs[off+4]'(by omega)))
 have hm:=h.len;have hc:=h.cap;have n1: ¬db=d:=h.ne;have n2: ¬d=db:=fun e=>h.ne e.symm
 have K:=parseInitialByte (xs[off]'(by omega))
 rw [hk] at K;have K:=Hz K;clear hk;go_enter Tryz.func121,Tryz.ntmps121
 go_wp2
 go_quiet ((go_at_call 160;exact Calls.quiet_of_same (K.out _)))
 go_wp2;have g0:(off:Int)+1<(xs.length:Int):=by omega
 have g1:0≤(off:Int)+1:=by omega
 have g2:((off:Int)+1).toNat=off+1:=by omega
 have g3:(off:Int)+1+4≤(c:Int):=by omega
 have g4:((off:Int)+1+4).toNat=off+1+4:=by omega
 have g5: ¬c=off+1:=by omega
 have g6:(off:Int)+1≤(off:Int)+1+4:=by omega
 have g7:0≤(off:Int)+1+4:=by omega
 have g8:IntKind.i64.wrap ((off:Int)+1+4)=(off:Int)+1+4:=IntWalk.i64_in _ (by omega)
 go_quiet ((go_at_call 162;exact Calls.quiet_of (beUint32 db (o+(off+1)) 4 (c-(off+1)) xs[off+1] xs[off+2] xs[off+3] xs[off+4] _ (by omega) (by omega) (hx0 _ _ _) (hx1 _ _ _) (hx2 _ _ _) (hx3 _ _ _))))
 go_wp2;refine bodyPost_ret (results_tmp3 rfl _ _ _) rfl ?_
 refine ⟨rfl,DecV.dec (x:=(off:Int)+1+4) ?_ _ (by omega) (by omega),?_⟩
 ·repeat (first|with_reducible exact h.v|with_reducible apply DecV.set|with_reducible apply DecV.drewN)
 ·repeat (first|with_reducible exact Fr.refl _ _|with_reducible refine Fr.setCell ?_ (by simp) _|with_reducible refine Fr.drewN ?_ _)
theorem getHead_8 (h:Dec w d db o c dm xs off) (hl:off+8<xs.length) (hk:xs[off].toNat%32=27):
  Calls Tryz.prog 121 #[.pointer (some ⟨d,0,none⟩)] w (HeadAt w d db o c dm xs (xs[off].toNat/32) 27 (eight (four (two xs[off+1] xs[off+2]) (two xs[off+3] xs[off+4])) (four (two xs[off+5] xs[off+6]) (two xs[off+7] xs[off+8]))) (off+1+8)):=by
 have h0:=h.c0;have h1:=h.c1;have f1:=h.f1;have ha:=h.at_ off (by omega)
 have hx0:=fun (v:Value) (m n:Nat)=>((Fr.refl [d] (w.drewN m)).setCell (p:=⟨d,1,none⟩) (by simp) v).drewN n|>.cell (p:=⟨db,o+(off+1),none⟩) ((show w.cell? ⟨db,o+(off+1),none⟩=w.cell? ⟨db,o+(off+1),none⟩ from congrArg (fun z=>w.cell? ⟨db,z,none⟩) (by omega)).trans (h.at_ (off+1) (by omega))) (by simpa using h.ne)
 have hx1:=fun (v:Value) (m n:Nat)=>((Fr.refl [d] (w.drewN m)).setCell (p:=⟨d,1,none⟩) (by simp) v).drewN n|>.cell (p:=⟨db,o+(off+1)+1,none⟩) ((show w.cell? ⟨db,o+(off+1)+1,none⟩=w.cell? ⟨db,o+(off+2),none⟩ from congrArg (fun z=>w.cell? ⟨db,z,none⟩) (by omega)).trans (h.at_ (off+2) (by omega))) (by simpa using h.ne)
 have hx2:=fun (v:Value) (m n:Nat)=>((Fr.refl [d] (w.drewN m)).setCell (p:=⟨d,1,none⟩) (by simp) v).drewN n|>.cell (p:=⟨db,o+(off+1)+2,none⟩) ((show w.cell? ⟨db,o+(off+1)+2,none⟩=w.cell? ⟨db,o+(off+3),none⟩ from congrArg (fun z=>w.cell? ⟨db,z,none⟩) (by omega)).trans (h.at_ (off+3) (by omega))) (by simpa using h.ne)
 have hx3:=fun (v:Value) (m n:Nat)=>((Fr.refl [d] (w.drewN m)).setCell (p:=⟨d,1,none⟩) (by simp) v).drewN n|>.cell (p:=⟨db,o+(off+1)+2+1,none⟩) ((show w.cell? ⟨db,o+(off+1)+2+1,none⟩=w.cell? ⟨db,o+(off+4),none⟩ from congrArg (fun z=>w.cell? ⟨db,z,none⟩) (by omega)).trans (h.at_ (off+4) (by omega))) (by simpa using h.ne)
 have hx4:=fun (v:Value) (m n:Nat)=>((Fr.refl [d] (w.drewN m)).setCell (p:=⟨d,1,none⟩) (by simp) v).drewN n|>.cell (p:=⟨db,o+(off+1)+4,none⟩) ((show w.cell? ⟨db,o+(off+1)+4,none⟩=w.cell? ⟨db,o+(off+5),none⟩ from congrArg (fun z=>w.cell? ⟨db,z,none⟩) (by omega)).trans (h.at_ (off+5) (by omega))) (by simpa using h.ne)
 have hx5:=fun (v:Value) (m n:Nat)=>((Fr.refl [d] (w.drewN m)).setCell (p:=⟨d,1,none⟩) (by simp) v).drewN n|>.cell (p:=⟨db,o+(off+1)+4+1,none⟩) ((show w.cell? ⟨db,o+(off+1)+4+1,none⟩=w.cell? ⟨db,o+(off+6),none⟩ from congrArg (fun z=>w.cell? ⟨db,z,none⟩) (by omega)).trans (h.at_ (off+6) (by omega))) (by simpa using h.ne)
 have hx6:=fun (v:Value) (m n:Nat)=>((Fr.refl [d] (w.drewN m)).setCell (p:=⟨d,1,none⟩) (by simp) v).drewN n|>.cell (p:=⟨db,o+(off+1)+4+2,none⟩) ((show w.cell? ⟨db,o+(off+1)+4+2,none⟩=w.cell? ⟨db,o+(off+7),none⟩ from congrArg (fun z=>w.cell? ⟨db,z,none⟩) (by omega)).trans (h.at_ (off+7) (by omega))) (by simpa using h.ne)
 have hx7:=fun (v:Value) (m n:Nat)=>((Fr.refl [d] (w.drewN m)).setCell (p:=⟨d,1,none⟩) (by simp) v).drewN n|>.cell (p:=⟨db,o+(off+1)+4+2+1,none⟩) ((show w.cell? ⟨db,o+(off+1)+4+2+1,none⟩=w.cell? ⟨db,o+(off+8),none⟩ from congrArg (fun z=>w.cell? ⟨db,z,none⟩) (by omega)).trans (h.at_ (off+8) (by omega))) (by simpa using h.ne)
 have hm:=h.len;have hc:=h.cap;have n1: ¬db=d:=h.ne;have n2: ¬d=db:=fun e=>h.ne e.symm
 have K:=parseInitialByte (xs[off]'(by omega))
 rw [hk] at K;have K:=Hz K;clear hk;go_enter Tryz.func121,Tryz.ntmps121
 go_wp2
 go_quiet ((go_at_call 160;exact Calls.quiet_of_same (K.out _)))
 go_wp2;have g0:(off:Int)+1<(xs.length:Int):=by omega
 have g1:0≤(off:Int)+1:=by omega
 have g2:((off:Int)+1).toNat=off+1:=by omega
 have g3:(off:Int)+1+8≤(c:Int):=by omega
 have g4:((off:Int)+1+8).toNat=off+1+8:=by omega
 have g5: ¬c=off+1:=by omega
 have g6:(off:Int)+1≤(off:Int)+1+8:=by omega
 have g7:0≤(off:Int)+1+8:=by omega
 have g8:IntKind.i64.wrap ((off:Int)+1+8)=(off:Int)+1+8:=IntWalk.i64_in _ (by omega)
 go_quiet ((go_at_call 163;exact Calls.quiet_of (beUint64 db (o+(off+1)) 8 (c-(off+1)) xs[off+1] xs[off+2] xs[off+3] xs[off+4] xs[off+5] xs[off+6] xs[off+7] xs[off+8] _ (by omega) (by omega) (hx0 _ _ _) (hx1 _ _ _) (hx2 _ _ _) (hx3 _ _ _) (hx4 _ _ _) (hx5 _ _ _) (hx6 _ _ _) (hx7 _ _ _))))
 go_wp2;refine bodyPost_ret (results_tmp3 rfl _ _ _) rfl ?_
 refine ⟨rfl,DecV.dec (x:=(off:Int)+1+8) ?_ _ (by omega) (by omega),?_⟩
 ·repeat (first|with_reducible exact h.v|with_reducible apply DecV.set|with_reducible apply DecV.drewN)
 ·repeat (first|with_reducible exact Fr.refl _ _|with_reducible refine Fr.setCell ?_ (by simp) _|with_reducible refine Fr.drewN ?_ _)
theorem getElem?_lt {xs:List UInt8} {off:Nat} {b:UInt8} (e:xs[off]? =some b): ∃hl:off<xs.length,xs[off]=b:=by
 obtain ⟨hl,h⟩:=List.getElem?_eq_some_iff.1 e;exact ⟨hl,h⟩
theorem getHead (h:Dec w d db o c dm xs off) {m ai v off':Nat} (hh:hd xs off= .ok (m,ai,v,off')):
  Calls Tryz.prog 121 #[.pointer (some ⟨d,0,none⟩)] w (HeadAt w d db o c dm xs m ai v off'):=by
 unfold hd at hh
 split at hh
 ·cases hh
 ·rename_i b e;obtain ⟨hl,rfl⟩:=getElem?_lt e
  split at hh
  ·cases hh
   exact getHead_0 h hl _ rfl (.inl (by omega))
  ·split at hh
   ·split at hh
    ·cases hh
    ·split at hh
     ·cases hh
     ·rename_i h24 h28 hlen hs;have h4:xs[off].toNat%32=24∨xs[off].toNat%32=25∨xs[off].toNat%32=26∨xs[off].toNat%32=27:=by omega
      rcases h4 with h4|h4|h4|h4<;>rw [h4] at hh hlen<;>simp only [Nat.reduceSub,Nat.reducePow] at hh hlen
      ·rw [be1 _ _ (by omega)] at hh;cases hh
       exact getHead_1 h (by omega) h4
      ·rw [be2 _ _ (by omega)] at hh;cases hh
       exact getHead_2 h (by omega) h4
      ·rw [be4 _ _ (by omega)] at hh;cases hh
       exact getHead_4 h (by omega) h4
      ·rw [be8 _ _ (by omega)] at hh;cases hh
       exact getHead_8 h (by omega) h4
   ·split at hh
    ·split at hh
     ·cases hh
     ·cases hh
      exact getHead_0 h hl _ ‹_› (.inr (by omega))
    ·cases hh
end
end
end Go.Proofs.YteodinhkhhaafaaGreatDoor
