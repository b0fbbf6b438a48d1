/- Walks of the program, and plain facts. -/
import Derived.LaidEql
import Derived.Stop.Asserts
import Derived.Test.YteodinhkhhaafaaGreatDoorEak
set_option linter.unusedVariables false
set_option linter.unusedSimpArgs false
set_option maxRecDepth 100000
set_option maxHeartbeats 6400000
namespace Go.Proofs.YteodinhkhhaafaaGreatDoor
section
open Go.RowKit
theorem info141: ∃i,Tryz.prog.info? 141=some i∧i.comparable=true:=by
 have h:(Tryz.prog.info? 141).map (·.comparable)=some true:=by kernel_rfl
 obtain ⟨i,h1,h2⟩:=Option.map_eq_some_iff.1 h;exact ⟨i,h1,h2⟩
theorem ba_ne {s t:ByteArray} (h: ¬s=t):(s==t)=false:=by
 cases hb:(s==t)
 ·rfl
 ·exfalso
  apply h
  have:s.data=t.data:=by
   have h2:(s.data==t.data)=true:=hb
   simpa using h2
  cases s;cases t;simp_all
theorem eqIn_str (w:World) (d:Nat) (s t:ByteArray):(Op.equalIn (d+2) 97 (.iface 141 (.string s)) (.iface 141 (.string t))).run Tryz.prog w= .ok (s==t) w:=by
 obtain ⟨i,h1,h2⟩:=info141;simp [Op.equalIn,run_underlying Tryz.underlying97,run_underlying Tryz.underlying141,typeInfo,h1,h2]
theorem eq_str (w:World) (s t:ByteArray):(binOp .eql 97 (.iface 141 (.string s)) (.iface 141 (.string t))).run Tryz.prog w= .ok (.bool (s==t)) w:=by
 simp only [binOp];simp [Op.equal,Op.maxDepth,eqIn_str w 9998 s t]
theorem eq_eof (w:World):(binOp .eql 97 (.iface 141 (.string ⟨#[69,79,70]⟩)) (.iface 141 (.string ⟨#[69,79,70]⟩))).run Tryz.prog w= .ok (.bool true) w:=by
 rw [eq_str];rfl
theorem errv_eof {k:Nat} {v:Value} (h:ErrV k v) (hk:k≠1) (w:World):(binOp .eql 97 v (.iface 141 (.string ⟨#[69,79,70]⟩))).run Tryz.prog w= .ok (.bool false) w:=by
 unfold ErrV at h;rw [if_neg hk] at h
 split at h
 ·subst h;rw [eq_str];rfl
 ·split at h
  ·obtain ⟨s,rfl,h1,_⟩:=h;rw [eq_str,show (s==⟨#[69,79,70]⟩)=false from ba_ne h1]
  ·obtain ⟨hk,a,rfl⟩:=h;refine run_eql_iface_types _ _ _ _ Tryz.underlying97 ?_ w
   rcases hk with rfl|rfl|rfl|rfl|rfl|rfl|rfl<;>decide
theorem errv_ueof {k:Nat} {v:Value} (h:ErrV k v) (hk:k≠2) (hk1:k≠1) (w:World):(binOp .eql 97 v (.iface 141 (.string ueofS))).run Tryz.prog w= .ok (.bool false) w:=by
 unfold ErrV at h;rw [if_neg hk1,if_neg hk] at h
 split at h
 ·obtain ⟨s,rfl,_,h1⟩:=h;rw [eq_str,ba_ne h1]
 ·obtain ⟨hk,a,rfl⟩:=h;refine run_eql_iface_types _ _ _ _ Tryz.underlying97 ?_ w
  rcases hk with rfl|rfl|rfl|rfl|rfl|rfl|rfl<;>decide
end
section
section
open Go.RowKit
inductive SeqC (X:Cx) (sq:Bool):Nat→Bool→Nat→R→Prop
 |none {off:Nat}:wfTop X.L X.xs sq off (some 1)→SeqC X sq 0 true off ([],some 1)
 |stop {off:Nat}:wfTop X.L X.xs sq off (some 1)→SeqC X sq 0 false off ([],none)
 |bad {off k:Nat} {first:Bool}:wfTop X.L X.xs sq off (some k)→k≠1→SeqC X sq 0 first off ([],some k)
 |item {off off' n:Nat} {first:Bool} {r r':R}:wfTop X.L X.xs sq off .none→ItemC X off off' r→(r.2= .none→SeqC X sq n false off' r')→
   SeqC X sq (n+1) first off (thenR (txt (if first then [] else [44,32])) (thenR r r'))
def SPost (X:Cx) (r:R) (w:World) (e:Ending) (w':World):Prop:=
 ∃v off',e= .returned (.tuple #[.string ⟨r.1.toArray⟩,v])∧ErrO r.2 v∧St X off' r.1 w'∧Gr X.B [X.d,X.wb] w w'
theorem SPost.of {X:Cx} {r r0:R} {w w':World} {bs:List UInt8} {v:Value} {off':Nat} (hL:Togo bs r [] r0) (h0:r.1=[]) (hv:ErrO r.2 v) (hS:St X off' bs w') (hG:Gr X.B [X.d,X.wb] w w'):
  SPost X r0 w (.returned (.tuple #[.string ⟨bs.toArray⟩,v])) w':=by
 have h1:=hL.1;rw [h0] at h1;simp only [List.append_nil,List.nil_append] at h1;subst h1;exact ⟨v,off',rfl,hL.2▸hv,hS,hG⟩
theorem SPost.err {X:Cx} {k o2:Nat} {bs':List UInt8} {a r0:R} {w w2:World} {v:Value} (hv:ErrO (some k) v) (hS:St X o2 (bs'++a.1) w2) (hG:Gr X.B [X.d,X.wb] w w2) (hL:bs'++a.1=[]++r0.1∧r0.2=some k) {bx:List UInt8} (hx:bs'++a.1=bx):
  SPost X r0 w (.returned (.tuple #[.string ⟨bx.toArray⟩,v])) w2:=by
 subst hx;have h1:=hL.1;rw [List.nil_append] at h1;rw [h1] at hS ⊢;exact ⟨v,o2,rfl,hL.2▸hv,hS,hG⟩
theorem diag {X:Cx} {w:World} (h:St X 0 [] w) (hn:X.L.nest≤65535) (hel:X.L.el≤2147483647) (hpa:X.L.pa≤2147483647) (sq:Bool) {n:Nat} {r:R} (hr:SeqC X sq n true 0 r) (hlen:r.1.length≤room):
  Calls Tryz.prog 87 #[.pointer (some ⟨X.di,0,none⟩),.bool sq] w (SPost X r w):=by
 have L0:Togo [] r [] r:=Togo.refl _ _;have hlen':([]:List UInt8).length+r.1.length≤room:=by simpa using hlen
 generalize hn0:n=n0 at *
 replace L0:=Hz L0;replace hr:=Hz hr;replace hlen':=Hz hlen';clear hlen hn0;go_enter Tryz.func87,Tryz.ntmps87
 go_wp2
 go_loopg [6] n0 (fun k v6 wr=> ∃(first:Bool) (off:Nat) (bs':List UInt8) (r':R),v6= .bool first∧Hid (SeqC X sq k first off r')∧Hid (Togo bs' r' [] r)∧St X off bs' wr∧Gr X.B [X.d,X.wb] w wr)
 case atStart=>exact ⟨true,0,[],r,rfl,hr,L0,h,Gr.refl _ _ _⟩
 case round=>
  obtain ⟨first,off,bs1,r1,rfl,hS,L1,h1,G1⟩:=hrel;have W: ∀q,wfTop X.L X.xs sq off q→Hid (Calls Tryz.prog 103 #[.pointer (some ⟨X.di,0,none⟩),.bool sq] wr fun e w'=> ∃v,e= .returned v∧ErrO q v∧St X off bs1 w'∧Gr X.B [X.d,X.wb] wr w'):=fun q hq=>Hz (di_wellformed h1 hn hel hpa sq q hq)
  rcases hS.out with hq|hq|⟨hq,hk⟩|⟨hq,hC,hrest⟩
  ·have K:=W _ hq;clear W hS;go_wp2_with fail
   refine K.out.mono ?_
   rintro e w2 ⟨v,rfl,hv,h2,G2⟩;obtain rfl:v= .iface 141 (.string eofS):=hv;have k2:=h2.i2;have KS:=Hz (string h2.buf);have he:=eq_eof w2;unfold eofS;go_wp2_with fail
   refine KS.out.mono ?_
   rintro e w3 ⟨rfl,rfl⟩;go_wp2
   go_ret2
   exact SPost.of L1.out rfl (show ErrO (some 1) _ from rfl) h2 (G1.trans G2)
  ·have K:=W _ hq;clear W hS;go_wp2_with fail
   refine K.out.mono ?_
   rintro e w2 ⟨v,rfl,hv,h2,G2⟩;obtain rfl:v= .iface 141 (.string eofS):=hv;have k2:=h2.i2;have KS:=Hz (string h2.buf);have he:=eq_eof w2;unfold eofS;go_wp2_with fail
   refine KS.out.mono ?_
   rintro e w3 ⟨rfl,rfl⟩;go_wp2
   go_ret2
   exact SPost.of L1.out rfl rfl h2 (G1.trans G2)
  ·have K:=W _ hq;clear W hS;go_wp2_with fail
   refine K.out.mono ?_
   rintro e w2 ⟨v,rfl,hv,h2,G2⟩;have k2:=h2.i2;have KS:=Hz (string h2.buf);have he:=errv_eof hv hk w2;obtain ⟨t,x,rfl⟩:=ErrV.iface hv;go_wp2_with fail
   refine KS.out.mono ?_
   rintro e w3 ⟨rfl,rfl⟩;go_wp2
   go_ret2
   exact SPost.of L1.out rfl hv h2 (G1.trans G2)
  ·rename_i off' m r2 r3 hJ;have K:=W _ hq;clear W hS;replace hC:=Hz hC;replace hrest:=Hz hrest;go_wp2_with fail
   refine K.out.mono ?_
   rintro e w2 ⟨v,rfl,hv,h2,G2⟩;obtain rfl:=hv.nil;have k2:=h2.i2;have G2':=G1.trans G2;rcases first with _|_
   ·have L2':=Hz (show Togo bs1 (thenR (txt [44,32]) (thenR r2 r3)) [] r from L1.out)
    have K3:=Hz (fun n=>writeString (h2.drewN n).buf h2.lw (h2.drewN n).hB [44,32] (L2'.out.len_tx hlen'.out))
    go_wp2_with fail
    refine (K3.out 0).mono ?_
    rintro e w3 ⟨⟨u3,rfl⟩,hb3,hg3⟩;have h3:=h2.wrote hg3 hb3;have G3:=G2'.trans (St.grW hg3);have L3:=Hz L2'.out.tx;have KI:=Hz (hC.out _ _ h3 (L3.out.len1 hlen'.out));go_wp2_with fail
    refine KI.out.mono ?_
    rintro e w4 ⟨v4,o4,rfl,hv4,ho4,h4,hG4⟩;have G4:=G3.trans hG4;rcases hr4:r2.2 with _|k
    ·rw [hr4] at hv4;obtain rfl:=hv4.nil;have L4:=Hz (L3.out.ok hr4);rw [ho4 hr4] at h4;go_wp2
     go_roundg m
     case measure=>omega
     case rel=>exact ⟨false,off',_,r3,rfl,Hz (hrest.out hr4),L4,h4,G4⟩
    ·rw [hr4] at hv4;have k4:=h4.i2;have KS:=Hz (string h4.buf);obtain ⟨t,x,rfl⟩:=hv4.ne;go_wp2_with fail
     refine KS.out.mono ?_
     rintro e w5 ⟨rfl,rfl⟩;go_wp2
     go_ret2
     exact SPost.err hv4 h4 G4 (L3.out.err hr4) (by simp)
   ·have L2':=L1.out.tx;rw [if_pos rfl,List.append_nil] at L2';replace L2':=Hz L2';have KI:=Hz (hC.out _ _ h2 (L2'.out.len1 hlen'.out));go_wp2_with fail
    refine KI.out.mono ?_
    rintro e w4 ⟨v4,o4,rfl,hv4,ho4,h4,hG4⟩;have G4:=G2'.trans hG4;rcases hr4:r2.2 with _|k
    ·rw [hr4] at hv4;obtain rfl:=hv4.nil;have L4:=Hz (L2'.out.ok hr4);rw [ho4 hr4] at h4;go_wp2
     go_roundg m
     case measure=>omega
     case rel=>exact ⟨false,off',_,r3,rfl,Hz (hrest.out hr4),L4,h4,G4⟩
    ·rw [hr4] at hv4;have k4:=h4.i2;have KS:=Hz (string h4.buf);obtain ⟨t,x,rfl⟩:=hv4.ne;go_wp2_with fail
     refine KS.out.mono ?_
     rintro e w5 ⟨rfl,rfl⟩;go_wp2
     go_ret2
     exact SPost.err hv4 h4 G4 (L2'.out.err hr4) rfl
end
section
open Go.RowKit
theorem Fr.gr {S T:List Nat} {B:Nat} {w w1 w2:World} (h:Fr S w w1) (g:Gr B T w1 w2) (hB:w.heap.size≤B) (hT: ∀k,k∈T→k∈S∨w.heap.size≤k):Fr S w w2:=
 ⟨g.os.trans h.os,g.tape.trans h.tape,g.output.trans h.output,Nat.le_trans h.size g.size,fun k hk hn=>(g.block k (by omega) (fun e=>(hT k e).elim hn (by omega))).trans (h.block k hk hn)⟩
def Says (xs:List UInt8) (L:Lim) (M:Md) (sq:Bool) (r:R):Prop:= ∀X:Cx,X.xs=xs→X.L=L→X.M=M→ ∃n,SeqC X sq n true 0 r
def GPost (r:R) (w:World) (e:Ending) (w':World):Prop:= ∃v,e= .returned (.tuple #[.string ⟨r.1.toArray⟩,v])∧ErrO r.2 v∧Fr [] w w'
theorem diagnose {w:World} {db o c dm dg:Nat} {xs:List UInt8} {M:Md} {L:Lim} (hL:L.nest≤65535∧L.el≤2147483647∧L.pa≤2147483647) (hrd:Rd w db o xs) (hcap:xs.length≤c) (hlen:xs.length≤1099511627776) (hdb:db<w.heap.size) (hM:DgM w dg dm M) (hD:DecM w dm L.nest L.el L.pa) (hu:U8 w)
  {r:R} (hr:Says xs L M M.sq r) (hroom:r.1.length≤room):
  Calls Tryz.prog 57 #[.pointer (some ⟨dg,0,none⟩),.slice (some ⟨db,o,none⟩) xs.length c] w (GPost r w):=by
 have c4:w.cell? ⟨dg,4,none⟩=some (.bool M.sq):=cell_blk hM 4;have c6:w.cell? ⟨dg,6,none⟩=some (.pointer (some ⟨dm,0,none⟩)):=cell_blk hM 6;have K1:=fun n=>newDiagnose (w:=w.drewN n) (hrd.fr ((Fr.refl [] w).drewN n) (by simp)) hcap hlen hdb hM hD (hu.fr ((Fr.refl [] w).drewN n) (by simp))
 replace K1:=Hz K1;clear hu;replace hr:=Hz hr;replace hM:=Hz hM;go_enter Tryz.func57,Tryz.ntmps57
 go_wp2
 go_region_held3 (fun w'=>w'.cell? ⟨dg,4,none⟩=some (.bool M.sq)∧w'.cell? ⟨dg,6,none⟩=some (.pointer (some ⟨dm,0,none⟩)))
  (first|go_keep|exact ⟨hf1.cell c4 (by simp),hf1.cell c6 (by simp)⟩|exact ⟨hf2.cell c4 (by simp),hf2.cell c6 (by simp)⟩)
  (first|(go_at_call 86;refine (K1.out _).mono ?_;rintro e w1 ⟨X,rfl,hx,hl,hm,hdg,-,-,-,hB,hd,hwb,hS,hf0⟩;have hf1:Fr [] w w1:=((Fr.refl [] w).drewN _).trans hf0;have hB':w.heap.size≤X.B:=hB;have hd':w.heap.size≤X.d:=hd;have hwb':w.heap.size≤X.wb:=hwb)|(go_at_call 87;obtain ⟨nn,hq⟩:=hr.out X hx hl hm;refine (diag hS (hl▸hL.1) (hl▸hL.2.1) (hl▸hL.2.2) _ hq hroom).mono ?_;rintro e w2 ⟨v,o2,rfl,hv,hS2,hG⟩;have hf2:Fr [] w w2:=hf1.gr hG hB' (by intro k hk;simp at hk;rcases hk with rfl|rfl<;>exact .inr (by assumption))))
 go_wp2
 go_ret2
 exact ⟨v,rfl,hv,hf2⟩
end
end
section
open Go.RowKit
abbrev TA (t u:TypeId) (v:Value) (w:World):Prop:=(Instr.typeAssert (.iface t v) 97 u true).run Tryz.prog w= .ok (.tuple #[.pointer none,.bool false]) w
section
variable (v:Value) (w:World)
@[go_sem] theorem ta141_142:TA 141 142 v w:=by unfold TA;kernel_rfl
@[go_sem] theorem ta141_143:TA 141 143 v w:=by unfold TA;kernel_rfl
@[go_sem] theorem ta141_144:TA 141 144 v w:=by unfold TA;kernel_rfl
@[go_sem] theorem ta141_145:TA 141 145 v w:=by unfold TA;kernel_rfl
@[go_sem] theorem ta141_146:TA 141 146 v w:=by unfold TA;kernel_rfl
@[go_sem] theorem ta141_147:TA 141 147 v w:=by unfold TA;kernel_rfl
@[go_sem] theorem ta141_148:TA 141 148 v w:=by unfold TA;kernel_rfl
@[go_sem] theorem ta141_149:TA 141 149 v w:=by unfold TA;kernel_rfl
@[go_sem] theorem ta141_150:TA 141 150 v w:=by unfold TA;kernel_rfl
@[go_sem] theorem ta141_151:TA 141 151 v w:=by unfold TA;kernel_rfl
@[go_sem] theorem ta141_152:TA 141 152 v w:=by unfold TA;kernel_rfl
@[go_sem] theorem ta141_153:TA 141 153 v w:=by unfold TA;kernel_rfl
@[go_sem] theorem ta141_154:TA 141 154 v w:=by unfold TA;kernel_rfl
@[go_sem] theorem ta141_155:TA 141 155 v w:=by unfold TA;kernel_rfl
@[go_sem] theorem ta141_156:TA 141 156 v w:=by unfold TA;kernel_rfl
@[go_sem] theorem ta141_157:TA 141 157 v w:=by unfold TA;kernel_rfl
@[go_sem] theorem ta142_142 (v:Value) (w:World):(Instr.typeAssert (.iface 142 v) 97 142 true).run Tryz.prog w= .ok (.tuple #[v,.bool true]) w:=by kernel_rfl
@[go_sem] theorem ta142_143:TA 142 143 v w:=by unfold TA;kernel_rfl
@[go_sem] theorem ta142_144:TA 142 144 v w:=by unfold TA;kernel_rfl
@[go_sem] theorem ta142_145:TA 142 145 v w:=by unfold TA;kernel_rfl
@[go_sem] theorem ta142_146:TA 142 146 v w:=by unfold TA;kernel_rfl
@[go_sem] theorem ta142_147:TA 142 147 v w:=by unfold TA;kernel_rfl
@[go_sem] theorem ta142_148:TA 142 148 v w:=by unfold TA;kernel_rfl
@[go_sem] theorem ta142_149:TA 142 149 v w:=by unfold TA;kernel_rfl
@[go_sem] theorem ta142_150:TA 142 150 v w:=by unfold TA;kernel_rfl
@[go_sem] theorem ta142_151:TA 142 151 v w:=by unfold TA;kernel_rfl
@[go_sem] theorem ta142_152:TA 142 152 v w:=by unfold TA;kernel_rfl
@[go_sem] theorem ta142_153:TA 142 153 v w:=by unfold TA;kernel_rfl
@[go_sem] theorem ta142_154:TA 142 154 v w:=by unfold TA;kernel_rfl
@[go_sem] theorem ta142_155:TA 142 155 v w:=by unfold TA;kernel_rfl
@[go_sem] theorem ta142_156:TA 142 156 v w:=by unfold TA;kernel_rfl
@[go_sem] theorem ta142_157:TA 142 157 v w:=by unfold TA;kernel_rfl
@[go_sem] theorem ta143_142:TA 143 142 v w:=by unfold TA;kernel_rfl
@[go_sem] theorem ta143_143 (v:Value) (w:World):(Instr.typeAssert (.iface 143 v) 97 143 true).run Tryz.prog w= .ok (.tuple #[v,.bool true]) w:=by kernel_rfl
@[go_sem] theorem ta143_144:TA 143 144 v w:=by unfold TA;kernel_rfl
@[go_sem] theorem ta143_145:TA 143 145 v w:=by unfold TA;kernel_rfl
@[go_sem] theorem ta143_146:TA 143 146 v w:=by unfold TA;kernel_rfl
@[go_sem] theorem ta143_147:TA 143 147 v w:=by unfold TA;kernel_rfl
@[go_sem] theorem ta143_148:TA 143 148 v w:=by unfold TA;kernel_rfl
@[go_sem] theorem ta143_149:TA 143 149 v w:=by unfold TA;kernel_rfl
@[go_sem] theorem ta143_150:TA 143 150 v w:=by unfold TA;kernel_rfl
@[go_sem] theorem ta143_151:TA 143 151 v w:=by unfold TA;kernel_rfl
@[go_sem] theorem ta143_152:TA 143 152 v w:=by unfold TA;kernel_rfl
@[go_sem] theorem ta143_153:TA 143 153 v w:=by unfold TA;kernel_rfl
@[go_sem] theorem ta143_154:TA 143 154 v w:=by unfold TA;kernel_rfl
@[go_sem] theorem ta143_155:TA 143 155 v w:=by unfold TA;kernel_rfl
@[go_sem] theorem ta143_156:TA 143 156 v w:=by unfold TA;kernel_rfl
@[go_sem] theorem ta143_157:TA 143 157 v w:=by unfold TA;kernel_rfl
@[go_sem] theorem ta144_142:TA 144 142 v w:=by unfold TA;kernel_rfl
@[go_sem] theorem ta144_143:TA 144 143 v w:=by unfold TA;kernel_rfl
@[go_sem] theorem ta144_144 (v:Value) (w:World):(Instr.typeAssert (.iface 144 v) 97 144 true).run Tryz.prog w= .ok (.tuple #[v,.bool true]) w:=by kernel_rfl
@[go_sem] theorem ta144_145:TA 144 145 v w:=by unfold TA;kernel_rfl
@[go_sem] theorem ta144_146:TA 144 146 v w:=by unfold TA;kernel_rfl
@[go_sem] theorem ta144_147:TA 144 147 v w:=by unfold TA;kernel_rfl
@[go_sem] theorem ta144_148:TA 144 148 v w:=by unfold TA;kernel_rfl
@[go_sem] theorem ta144_149:TA 144 149 v w:=by unfold TA;kernel_rfl
@[go_sem] theorem ta144_150:TA 144 150 v w:=by unfold TA;kernel_rfl
@[go_sem] theorem ta144_151:TA 144 151 v w:=by unfold TA;kernel_rfl
@[go_sem] theorem ta144_152:TA 144 152 v w:=by unfold TA;kernel_rfl
@[go_sem] theorem ta144_153:TA 144 153 v w:=by unfold TA;kernel_rfl
@[go_sem] theorem ta144_154:TA 144 154 v w:=by unfold TA;kernel_rfl
@[go_sem] theorem ta144_155:TA 144 155 v w:=by unfold TA;kernel_rfl
@[go_sem] theorem ta144_156:TA 144 156 v w:=by unfold TA;kernel_rfl
@[go_sem] theorem ta144_157:TA 144 157 v w:=by unfold TA;kernel_rfl
@[go_sem] theorem ta145_142:TA 145 142 v w:=by unfold TA;kernel_rfl
@[go_sem] theorem ta145_143:TA 145 143 v w:=by unfold TA;kernel_rfl
@[go_sem] theorem ta145_144:TA 145 144 v w:=by unfold TA;kernel_rfl
@[go_sem] theorem ta145_145 (v:Value) (w:World):(Instr.typeAssert (.iface 145 v) 97 145 true).run Tryz.prog w= .ok (.tuple #[v,.bool true]) w:=by kernel_rfl
@[go_sem] theorem ta145_146:TA 145 146 v w:=by unfold TA;kernel_rfl
@[go_sem] theorem ta145_147:TA 145 147 v w:=by unfold TA;kernel_rfl
@[go_sem] theorem ta145_148:TA 145 148 v w:=by unfold TA;kernel_rfl
@[go_sem] theorem ta145_149:TA 145 149 v w:=by unfold TA;kernel_rfl
@[go_sem] theorem ta145_150:TA 145 150 v w:=by unfold TA;kernel_rfl
@[go_sem] theorem ta145_151:TA 145 151 v w:=by unfold TA;kernel_rfl
@[go_sem] theorem ta145_152:TA 145 152 v w:=by unfold TA;kernel_rfl
@[go_sem] theorem ta145_153:TA 145 153 v w:=by unfold TA;kernel_rfl
@[go_sem] theorem ta145_154:TA 145 154 v w:=by unfold TA;kernel_rfl
@[go_sem] theorem ta145_155:TA 145 155 v w:=by unfold TA;kernel_rfl
@[go_sem] theorem ta145_156:TA 145 156 v w:=by unfold TA;kernel_rfl
@[go_sem] theorem ta145_157:TA 145 157 v w:=by unfold TA;kernel_rfl
@[go_sem] theorem ta146_142:TA 146 142 v w:=by unfold TA;kernel_rfl
@[go_sem] theorem ta146_143:TA 146 143 v w:=by unfold TA;kernel_rfl
@[go_sem] theorem ta146_144:TA 146 144 v w:=by unfold TA;kernel_rfl
@[go_sem] theorem ta146_145:TA 146 145 v w:=by unfold TA;kernel_rfl
@[go_sem] theorem ta146_146 (v:Value) (w:World):(Instr.typeAssert (.iface 146 v) 97 146 true).run Tryz.prog w= .ok (.tuple #[v,.bool true]) w:=by kernel_rfl
@[go_sem] theorem ta146_147:TA 146 147 v w:=by unfold TA;kernel_rfl
@[go_sem] theorem ta146_148:TA 146 148 v w:=by unfold TA;kernel_rfl
@[go_sem] theorem ta146_149:TA 146 149 v w:=by unfold TA;kernel_rfl
@[go_sem] theorem ta146_150:TA 146 150 v w:=by unfold TA;kernel_rfl
@[go_sem] theorem ta146_151:TA 146 151 v w:=by unfold TA;kernel_rfl
@[go_sem] theorem ta146_152:TA 146 152 v w:=by unfold TA;kernel_rfl
@[go_sem] theorem ta146_153:TA 146 153 v w:=by unfold TA;kernel_rfl
@[go_sem] theorem ta146_154:TA 146 154 v w:=by unfold TA;kernel_rfl
@[go_sem] theorem ta146_155:TA 146 155 v w:=by unfold TA;kernel_rfl
@[go_sem] theorem ta146_156:TA 146 156 v w:=by unfold TA;kernel_rfl
@[go_sem] theorem ta146_157:TA 146 157 v w:=by unfold TA;kernel_rfl
@[go_sem] theorem ta149_142:TA 149 142 v w:=by unfold TA;kernel_rfl
@[go_sem] theorem ta149_143:TA 149 143 v w:=by unfold TA;kernel_rfl
@[go_sem] theorem ta149_144:TA 149 144 v w:=by unfold TA;kernel_rfl
@[go_sem] theorem ta149_145:TA 149 145 v w:=by unfold TA;kernel_rfl
@[go_sem] theorem ta149_146:TA 149 146 v w:=by unfold TA;kernel_rfl
@[go_sem] theorem ta149_147:TA 149 147 v w:=by unfold TA;kernel_rfl
@[go_sem] theorem ta149_148:TA 149 148 v w:=by unfold TA;kernel_rfl
@[go_sem] theorem ta149_149 (v:Value) (w:World):(Instr.typeAssert (.iface 149 v) 97 149 true).run Tryz.prog w= .ok (.tuple #[v,.bool true]) w:=by kernel_rfl
@[go_sem] theorem ta149_150:TA 149 150 v w:=by unfold TA;kernel_rfl
@[go_sem] theorem ta149_151:TA 149 151 v w:=by unfold TA;kernel_rfl
@[go_sem] theorem ta149_152:TA 149 152 v w:=by unfold TA;kernel_rfl
@[go_sem] theorem ta149_153:TA 149 153 v w:=by unfold TA;kernel_rfl
@[go_sem] theorem ta149_154:TA 149 154 v w:=by unfold TA;kernel_rfl
@[go_sem] theorem ta149_155:TA 149 155 v w:=by unfold TA;kernel_rfl
@[go_sem] theorem ta149_156:TA 149 156 v w:=by unfold TA;kernel_rfl
@[go_sem] theorem ta149_157:TA 149 157 v w:=by unfold TA;kernel_rfl
@[go_sem] theorem ta156_142:TA 156 142 v w:=by unfold TA;kernel_rfl
@[go_sem] theorem ta156_143:TA 156 143 v w:=by unfold TA;kernel_rfl
@[go_sem] theorem ta156_144:TA 156 144 v w:=by unfold TA;kernel_rfl
@[go_sem] theorem ta156_145:TA 156 145 v w:=by unfold TA;kernel_rfl
@[go_sem] theorem ta156_146:TA 156 146 v w:=by unfold TA;kernel_rfl
@[go_sem] theorem ta156_147:TA 156 147 v w:=by unfold TA;kernel_rfl
@[go_sem] theorem ta156_148:TA 156 148 v w:=by unfold TA;kernel_rfl
@[go_sem] theorem ta156_149:TA 156 149 v w:=by unfold TA;kernel_rfl
@[go_sem] theorem ta156_150:TA 156 150 v w:=by unfold TA;kernel_rfl
@[go_sem] theorem ta156_151:TA 156 151 v w:=by unfold TA;kernel_rfl
@[go_sem] theorem ta156_152:TA 156 152 v w:=by unfold TA;kernel_rfl
@[go_sem] theorem ta156_153:TA 156 153 v w:=by unfold TA;kernel_rfl
@[go_sem] theorem ta156_154:TA 156 154 v w:=by unfold TA;kernel_rfl
@[go_sem] theorem ta156_155:TA 156 155 v w:=by unfold TA;kernel_rfl
@[go_sem] theorem ta156_156 (v:Value) (w:World):(Instr.typeAssert (.iface 156 v) 97 156 true).run Tryz.prog w= .ok (.tuple #[v,.bool true]) w:=by kernel_rfl
@[go_sem] theorem ta156_157:TA 156 157 v w:=by unfold TA;kernel_rfl
end
theorem kind_3 (a:Addr) (w:World):Calls Tryz.prog 58 #[.iface 142 (.pointer (some a))] w fun e w'=>e= .returned (.int .i64 3)∧w'=w:=by
 have hv:ErrV 3 (.iface 142 (.pointer (some a))):=errv_ptr 3 (by omega) a
 have e1:=errv_eof hv (by omega) w
 have e2:=errv_ueof hv (by omega) (by omega) w
 unfold ueofS at e2;clear hv;go_enter Tryz.func58,Tryz.ntmps58
 go_wp2;go_ret
 exact ⟨rfl,rfl⟩
theorem kind_4 (a:Addr) (w:World):Calls Tryz.prog 58 #[.iface 143 (.pointer (some a))] w fun e w'=>e= .returned (.int .i64 4)∧w'=w:=by
 have hv:ErrV 4 (.iface 143 (.pointer (some a))):=errv_ptr 4 (by omega) a
 have e1:=errv_eof hv (by omega) w
 have e2:=errv_ueof hv (by omega) (by omega) w
 unfold ueofS at e2;clear hv;go_enter Tryz.func58,Tryz.ntmps58
 go_wp2;go_ret
 exact ⟨rfl,rfl⟩
theorem kind_5 (a:Addr) (w:World):Calls Tryz.prog 58 #[.iface 144 (.pointer (some a))] w fun e w'=>e= .returned (.int .i64 5)∧w'=w:=by
 have hv:ErrV 5 (.iface 144 (.pointer (some a))):=errv_ptr 5 (by omega) a
 have e1:=errv_eof hv (by omega) w
 have e2:=errv_ueof hv (by omega) (by omega) w
 unfold ueofS at e2;clear hv;go_enter Tryz.func58,Tryz.ntmps58
 go_wp2;go_ret
 exact ⟨rfl,rfl⟩
theorem kind_6 (a:Addr) (w:World):Calls Tryz.prog 58 #[.iface 145 (.pointer (some a))] w fun e w'=>e= .returned (.int .i64 6)∧w'=w:=by
 have hv:ErrV 6 (.iface 145 (.pointer (some a))):=errv_ptr 6 (by omega) a
 have e1:=errv_eof hv (by omega) w
 have e2:=errv_ueof hv (by omega) (by omega) w
 unfold ueofS at e2;clear hv;go_enter Tryz.func58,Tryz.ntmps58
 go_wp2;go_ret
 exact ⟨rfl,rfl⟩
theorem kind_7 (a:Addr) (w:World):Calls Tryz.prog 58 #[.iface 146 (.pointer (some a))] w fun e w'=>e= .returned (.int .i64 7)∧w'=w:=by
 have hv:ErrV 7 (.iface 146 (.pointer (some a))):=errv_ptr 7 (by omega) a
 have e1:=errv_eof hv (by omega) w
 have e2:=errv_ueof hv (by omega) (by omega) w
 unfold ueofS at e2;clear hv;go_enter Tryz.func58,Tryz.ntmps58
 go_wp2;go_ret
 exact ⟨rfl,rfl⟩
theorem kind_10 (a:Addr) (w:World):Calls Tryz.prog 58 #[.iface 149 (.pointer (some a))] w fun e w'=>e= .returned (.int .i64 10)∧w'=w:=by
 have hv:ErrV 10 (.iface 149 (.pointer (some a))):=errv_ptr 10 (by omega) a
 have e1:=errv_eof hv (by omega) w
 have e2:=errv_ueof hv (by omega) (by omega) w
 unfold ueofS at e2;clear hv;go_enter Tryz.func58,Tryz.ntmps58
 go_wp2;go_ret
 exact ⟨rfl,rfl⟩
theorem kind_17 (a:Addr) (w:World):Calls Tryz.prog 58 #[.iface 156 (.pointer (some a))] w fun e w'=>e= .returned (.int .i64 17)∧w'=w:=by
 have hv:ErrV 17 (.iface 156 (.pointer (some a))):=errv_ptr 17 (by omega) a
 have e1:=errv_eof hv (by omega) w
 have e2:=errv_ueof hv (by omega) (by omega) w
 unfold ueofS at e2;clear hv;go_enter Tryz.func58,Tryz.ntmps58
 go_wp2;go_ret
 exact ⟨rfl,rfl⟩
theorem kind_1 (w:World):Calls Tryz.prog 58 #[.iface 141 (.string eofS)] w fun e w'=>e= .returned (.int .i64 1)∧w'=w:=by
 have e1:=eq_eof w;unfold eofS;go_enter Tryz.func58,Tryz.ntmps58
 go_wp2;go_ret
 exact ⟨rfl,rfl⟩
theorem kind_2 (w:World):Calls Tryz.prog 58 #[.iface 141 (.string ueofS)] w fun e w'=>e= .returned (.int .i64 2)∧w'=w:=by
 have e1:=errv_eof (k:=2) (v:= .iface 141 (.string ueofS)) rfl (by omega) w
 have e2:(binOp .eql 97 (.iface 141 (.string ueofS)) (.iface 141 (.string ueofS))).run Tryz.prog w= .ok (.bool true) w:=by rw [eq_str];rfl
 unfold ueofS at *
 go_enter Tryz.func58,Tryz.ntmps58
 go_wp2;go_ret
 exact ⟨rfl,rfl⟩
theorem kind_16 (s:ByteArray) (h1:s≠eofS) (h2:s≠ueofS) (w:World):Calls Tryz.prog 58 #[.iface 141 (.string s)] w fun e w'=>e= .returned (.int .i64 16)∧w'=w:=by
 have hv:ErrV 16 (.iface 141 (.string s)):=⟨s,rfl,h1,h2⟩;have e1:=errv_eof hv (by omega) w
 have e2:=errv_ueof hv (by omega) (by omega) w
 unfold ueofS at e2;clear hv h1 h2;go_enter Tryz.func58,Tryz.ntmps58
 go_wp2;go_ret
 exact ⟨rfl,rfl⟩
theorem zzKind (k:Nat) (v:Value) (h:ErrV k v) (w:World):Calls Tryz.prog 58 #[v] w fun e w'=>e= .returned (.int .i64 (k:Int))∧w'=w:=by
 unfold ErrV at h
 split at h
 ·subst h;rename_i h;subst h;exact kind_1 w
 ·split at h
  ·subst h;rename_i h;subst h;exact kind_2 w
  ·split at h
   ·obtain ⟨s,rfl,h1,h2⟩:=h;rename_i h;subst h;exact kind_16 s h1 h2 w
   ·obtain ⟨hk,a,rfl⟩:=h;rcases hk with rfl|rfl|rfl|rfl|rfl|rfl|rfl
    ·exact kind_3 a w
    ·exact kind_4 a w
    ·exact kind_5 a w
    ·exact kind_6 a w
    ·exact kind_7 a w
    ·exact kind_10 a w
    ·exact kind_17 a w
end
end Go.Proofs.YteodinhkhhaafaaGreatDoor
