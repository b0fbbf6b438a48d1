/- Walks of the program, and plain facts. -/
import Derived.Test.YteodinhkhhaafaaGreatDoorEaf
import Derived.Lib.AppendStr
import Derived.OwnWalk
import Derived.Lib.BufferRead
import Derived.Shelf.Unicode.DecodeSlow
set_option linter.unusedVariables false
set_option linter.unusedSimpArgs false
set_option maxRecDepth 100000
set_option maxHeartbeats 6400000
namespace Go.Proofs.YteodinhkhhaafaaGreatDoor
section
section
open Go.RowKit
theorem item_all (L:Lim) (xs:List UInt8) (hn:L.nest≤65535) (hel:L.el≤2147483647) (hpa:L.pa≤2147483647): ∀f,Item L xs f:=by
 intro f
 induction f using Nat.strongRecOn with
 |_ f IH=>
  intro w d db o c dm off dep r h hM hmd hdep hr;rcases f with _|f
  ·simp [wfI] at hr
  have IH': ∀g,g<f→Item L xs g:=fun g hg=>IH g (by omega)
  unfold wfI at hr;cases hh:hd xs off with
  |error k=>
   rw [hh] at hr;cases hr
   exact item_err h hM hmd hh
  |ok q=>
   obtain ⟨m,ai,v,o1⟩:=q;rw [hh] at hr;dsimp only at hr;have hoff:=hd_off hh;have hval:=hd_val hh;have m8:m=0∨m=1∨m=2∨m=3∨m=4∨m=5∨m=6∨m=7:=by omega
   rcases m8 with rfl|rfl|rfl|rfl|rfl|rfl|rfl|rfl
   ·rw [if_neg (by decide),if_neg (by decide),if_neg (by decide)] at hr
    cases hr
    exact item_int0 h hM hmd hdep hh
   ·rw [if_neg (by decide),if_neg (by decide),if_neg (by decide)] at hr
    cases hr
    exact item_int1 h hM hmd hdep hh
   ·rw [if_pos (.inl rfl)] at hr;by_cases h31:ai=31
    ·subst h31;rw [if_pos rfl] at hr;exact item_chunks2 h hM hmd hdep hn IH' r hh hr
    ·rw [if_neg h31] at hr;by_cases h63:9223372036854775808≤v
     ·rw [if_pos h63] at hr;cases hr
      exact item_str_neg2 h hM hmd hdep hh h31 h63
     ·rw [if_neg h63] at hr;by_cases hs:xs.length-o1<v
      ·rw [if_pos hs] at hr;cases hr
       exact item_str_short2 h hM hmd hdep hh h31 h63 hs
      ·rw [if_neg hs] at hr;cases hr
       exact item_str2 h hM hmd hdep hh h31 hs
   ·rw [if_pos (.inr rfl)] at hr;by_cases h31:ai=31
    ·subst h31;rw [if_pos rfl] at hr;exact item_chunks3 h hM hmd hdep hn IH' r hh hr
    ·rw [if_neg h31] at hr;by_cases h63:9223372036854775808≤v
     ·rw [if_pos h63] at hr;cases hr
      exact item_str_neg3 h hM hmd hdep hh h31 h63
     ·rw [if_neg h63] at hr;by_cases hs:xs.length-o1<v
      ·rw [if_pos hs] at hr;cases hr
       exact item_str_short3 h hM hmd hdep hh h31 h63 hs
      ·rw [if_neg hs] at hr;cases hr
       exact item_str3 h hM hmd hdep hh h31 hs
   ·rw [if_neg (by decide),if_pos (.inl rfl)] at hr
    by_cases hs:L.nest<dep+1
    ·rw [if_pos hs] at hr;cases hr
     exact item_deep4 h hM hmd hdep hh hs
    ·rw [if_neg hs] at hr;by_cases h31:ai=31
     ·subst h31;rw [if_pos rfl] at hr;exact item_open4 h hM hmd hdep hn hel hpa IH' r hh hs hr
     ·rw [if_neg h31] at hr;by_cases h63:9223372036854775808≤v
      ·rw [if_pos h63] at hr;cases hr
       exact item_list_neg4 h hM hmd hdep hh hs h31 h63
      ·rw [if_neg h63] at hr;by_cases h2:L.el<v
       ·rw [if_pos ⟨rfl,h2⟩] at hr;cases hr
        exact item_many4 h hM hmd hdep hh hs h31 h63 h2
       ·rw [if_neg (fun e=>h2 e.2),if_neg (by omega)] at hr
        exact item_list4 h hM hmd hdep hn hel IH' r hh hs h31 h2 hr
   ·rw [if_neg (by decide),if_pos (.inr rfl)] at hr
    by_cases hs:L.nest<dep+1
    ·rw [if_pos hs] at hr;cases hr
     exact item_deep5 h hM hmd hdep hh hs
    ·rw [if_neg hs] at hr;by_cases h31:ai=31
     ·subst h31;rw [if_pos rfl] at hr;exact item_open5 h hM hmd hdep hn hel hpa IH' r hh hs hr
     ·rw [if_neg h31] at hr;by_cases h63:9223372036854775808≤v
      ·rw [if_pos h63] at hr;cases hr
       exact item_list_neg5 h hM hmd hdep hh hs h31 h63
      ·rw [if_neg h63] at hr;rw [if_neg (by omega)] at hr
       by_cases h2:L.pa<v
       ·rw [if_pos ⟨rfl,h2⟩] at hr;cases hr
        exact item_many5 h hM hmd hdep hh hs h31 h63 h2
       ·rw [if_neg (fun e=>h2 e.2)] at hr
        exact item_list5 h hM hmd hdep hn hpa IH' r hh hs h31 h2 hr
   ·rw [if_neg (by decide),if_neg (by decide),if_pos rfl] at hr
    exact item_tag h hM hmd hdep hn IH' r hh hr
   ·rw [if_neg (by decide),if_neg (by decide),if_neg (by decide)] at hr
    cases hr
    exact item_prim h hM hmd hdep hh
end
section
open Go.RowKit
def wfTop (L:Lim) (xs:List UInt8) (more:Bool) (off:Nat) (r:Option Nat):Prop:=
 (off=xs.length∧r=some 1)∨(off<xs.length∧ ∃f r1,wfI L xs f off 0=some r1∧
  r=(match r1 with| .error k=>some k| .ok (_,o)=>if more then none else if o=xs.length then none else some 4))
def ErrO (r:Option Nat) (v:Value):Prop:=
 match r with
 |none=>v= .nilIface
 |some k=>ErrV k v
section
variable {w:World} {d db o c dm off n el pa:Nat} {L:Lim} {xs:List UInt8}
theorem wellformed (hn:L.nest≤65535) (hel:L.el≤2147483647) (hpa:L.pa≤2147483647) (h:Dec w d db o c dm xs off) (hM:DecM w dm L.nest L.el L.pa) (hmd:dm≠d) (more:Bool) (r:Option Nat) (hr:wfTop L xs more off r):
  Calls Tryz.prog 101 #[.pointer (some ⟨d,0,none⟩),.bool more,.bool false] w fun e w'=> ∃v,e= .returned v∧ErrO r v∧(∃u,DecV w' d db o c dm xs u)∧Fr [d] w w':=by
 have k0:=h.c0;have k1:=h.c1;have hle:=h.le;have hlen:=h.len;rcases hr with ⟨hl,rfl⟩|⟨hl,f,r1,hr1,rfl⟩
 ·have g0:((xs.length:Int)==(off:Int))=true:=by simp;omega
  go_enter Tryz.func101,Tryz.ntmps101
  go_wp2
  go_quiet (fail)
  go_wp2;go_ret
  exact ⟨_,rfl,by simp [ErrO,ErrV,eofS],⟨_,by repeat (first|with_reducible exact h.v|with_reducible apply DecV.drewN)⟩,by
   repeat (first|with_reducible exact Fr.refl _ _|with_reducible refine Fr.drewN ?_ _)⟩
 ·have g0:((xs.length:Int)==(off:Int))=false:=by simp;omega
  go_enter Tryz.func101,Tryz.ntmps101
  go_wp2
  go_quiet (fail)
  have K: ∀m,Calls Tryz.prog 114 #[.pointer (some ⟨d,0,none⟩),.int .i64 ((0:Nat):Int),.bool false] (w.drewN m) (WPost (w.drewN m) d db o c dm xs r1):=fun m=>item_all L xs hn hel hpa f (w.drewN m) d db o c dm off 0 r1 (h.drewN m) hM hmd (by omega) hr1
  replace K:=Hz K;go_wp2_with fail
  refine (K.out _).mono ?_
  rintro e w1 h1;rcases r1 with k|⟨D,o'⟩
  ·obtain ⟨v,rfl,hv,⟨u,hu⟩,hf⟩:=h1;obtain ⟨t,x,rfl⟩:=hv.iface;go_wp2;go_ret
   exact ⟨_,rfl,hv,⟨_,hu⟩,by
    refine Fr.trans ?_ hf
    repeat (first|with_reducible exact Fr.refl _ _|with_reducible refine Fr.drewN ?_ _)⟩
  ·obtain ⟨rfl,hD,hf⟩:=h1;have k0:=hD.c0;have k1:=hD.c1;go_wp2;rcases more with _|_
   ·by_cases he:o'=xs.length
    ·have g1:((o':Int) !=(xs.length:Int))=false:=by simp;omega
     go_quiet (fail)
     go_wp2;go_ret
     exact ⟨_,rfl,by simp [he,ErrO],⟨_,by repeat (first|with_reducible exact hD.v|with_reducible apply DecV.drewN)⟩,by
      refine Fr.trans (w':=w1) ?_ ?_
      ·refine Fr.trans ?_ hf
       repeat (first|with_reducible exact Fr.refl _ _|with_reducible refine Fr.drewN ?_ _)
      ·repeat (first|with_reducible exact Fr.refl _ _|with_reducible refine Fr.drewN ?_ _)⟩
    ·have g1:((o':Int) !=(xs.length:Int))=true:=by simp;omega
     go_quiet (fail)
     go_wp2
     go_region
     all_goals
      go_wp2;go_ret
      refine ⟨_,rfl,?_,?_,?_⟩
      ·simp only [he,if_false,Bool.false_eq_true];exact errv_ptr 4 (by omega) _
      ·apply Exists.intro
       repeat (first|with_reducible exact hD.v|with_reducible apply DecV.drewN|with_reducible apply DecV.alloc|with_reducible apply DecV.drew)
      ·refine Fr.trans (w':=w1) ?_ ?_
       ·refine Fr.trans ?_ hf
        repeat (first|with_reducible exact Fr.refl _ _|with_reducible refine Fr.drewN ?_ _)
       ·repeat (first|with_reducible exact Fr.refl _ _|with_reducible refine Fr.drewN ?_ _|with_reducible refine Fr.alloc ?_ _|with_reducible refine Fr.drew ?_)
   ·go_quiet (fail)
    go_wp2;go_ret
    exact ⟨_,rfl,rfl,⟨_,by repeat (first|with_reducible exact hD.v|with_reducible apply DecV.drewN)⟩,by
     refine Fr.trans (w':=w1) ?_ ?_
     ·refine Fr.trans ?_ hf
      repeat (first|with_reducible exact Fr.refl _ _|with_reducible refine Fr.drewN ?_ _)
     ·repeat (first|with_reducible exact Fr.refl _ _|with_reducible refine Fr.drewN ?_ _)⟩
end
end
end
section
open Go.RowKit
structure Gr (B:Nat) (S:List Nat) (w w':World):Prop where
 os:w'.os=w.os
 tape:w'.tape=w.tape
 output:w'.output=w.output
 size:w.heap.size≤w'.heap.size
 block: ∀k,k<B→k∉S→w'.heap[k]? =w.heap[k]?
section
variable {B C:Nat} {S T:List Nat} {w w' w'':World}
theorem Gr.refl (B:Nat) (S:List Nat) (w:World):Gr B S w w:=⟨rfl,rfl,rfl,Nat.le_refl _,fun _ _ _=>rfl⟩
theorem Gr.trans (h:Gr B S w w') (g:Gr B S w' w''):Gr B S w w'':=
 ⟨g.os.trans h.os,g.tape.trans h.tape,g.output.trans h.output,Nat.le_trans h.size g.size,fun k hk hn=>(g.block k hk hn).trans (h.block k hk hn)⟩
theorem Gr.mono (h:Gr B S w w') (hc:C≤B) (hs: ∀k,k∈S→k∈T∨C≤k):Gr C T w w':=
 ⟨h.os,h.tape,h.output,h.size,fun k hk hn=>h.block k (by omega) (fun e=>(hs k e).elim hn (by omega))⟩
theorem Gr.of (h:Fr T w w') (hB:B≤w.heap.size) (hs: ∀k,k∈T→k∈S∨B≤k):Gr B S w w':=
 ⟨h.os,h.tape,h.output,h.size,fun k hk hn=>h.block k (by omega) (fun e=>(hs k e).elim hn (by omega))⟩
theorem Gr.fr (h:Gr w.heap.size S w w'):Fr S w w':=⟨h.os,h.tape,h.output,h.size,h.block⟩
theorem Gr.grown {row:Option Nat} (h:Gr B S w w') (hg:w'.grownBy w'' row) (hB:B≤w'.heap.size) (hr: ∀k,row=some k→k∈S∨B≤k):Gr B S w w'':=
 h.trans ⟨hg.os,hg.tape,hg.output,hg.size,fun k hk hn=>hg.block k (by omega) (fun e=>by have:=hr k e.symm;rcases this with h1|h1;exact hn h1;omega)⟩
theorem Gr.drewN (h:Gr B S w w') (n:Nat):Gr B S w (w'.drewN n):=⟨h.os,h.tape,h.output,h.size,h.block⟩
theorem Gr.drew (h:Gr B S w w'):Gr B S w w'.drew:=⟨h.os,h.tape,h.output,h.size,h.block⟩
theorem Gr.alloc (h:Gr B S w w') (hB:B≤w'.heap.size) (o:Obj):Gr B S w (w'.alloc o):=
 h.trans ⟨rfl,rfl,rfl,by simp,fun k hk _=>Below.heap_alloc _ _ _ (by omega)⟩
theorem Gr.setCell (h:Gr B S w w') {p:Addr} (hp:p.block∈S∨B≤p.block) (u:Value):Gr B S w (w'.setCell p u):=
 h.trans ⟨rfl,rfl,rfl,by simp [World.setCell],fun k hk hn=>Below.heap_setCell _ _ _ _ (by rcases hp with hp|hp;exact fun e=>hn (e▸hp);omega)⟩
theorem Gr.blk (h:Gr B S w w') {k:Nat} {o:Obj} (hb:w.heap[k]? =some o) (hk:k<B) (hn:k∉S):w'.heap[k]? =some o:=(h.block k hk hn).trans hb
theorem Gr.cell (h:Gr B S w w') {p:Addr} {v:Value} (hc:w.cell? p=some v) (hk:p.block<B) (hn:p.block∉S):w'.cell? p=some v:=
 (World.cell?_of_block (w:=w) (h.block p.block hk hn)).trans hc
theorem Gr.rd (h:Gr B S w w') {b o:Nat} {xs:List UInt8} (hr:Rd w b o xs) (hk:b<B) (hn:b∉S):Rd w' b o xs:=fun j hj=>h.cell (hr j hj) hk hn
end
def Row (w:World) (B:Nat) (v:Value) (bs:List UInt8):Prop:=w.ownsRow B 5 1 v bs.length (enc bs)
theorem Row.nil (w:World) (B:Nat):Row w B (.slice none 0 0) []:=World.ownsRow_nil _ _ _ _
theorem Row.kept {w w':World} {B:Nat} {v:Value} {bs:List UInt8} {row:Option Nat} (h:Row w B v bs) (hg:w.grownBy w' row) (hne:v.ownBlock=none∨v.ownBlock≠row):Row w' B v bs:=World.ownsRow.kept h hg hne
theorem Row.fr {w w':World} {B:Nat} {v:Value} {bs:List UInt8} {S:List Nat} (h:Row w B v bs) (hf:Fr S w w') (hs: ∀k,k∈S→k<B):Row w' B v bs:=
 hf.own h (fun k hk hm=>by have:=(World.ownsRow.lt h k hk).1;have:=hs k hm;omega)
theorem strCells_mk (s:List UInt8):Lib.strCells ⟨s.toArray⟩=enc s:=by simp [Lib.strCells,enc]
theorem size_mk (s:List UInt8):(⟨s.toArray⟩:ByteArray).size=s.length:=by simp [ByteArray.size]
theorem enc_one (s:List UInt8): ∀u∈enc s,u.oneCell'=true:=by
 intro u hu;simp only [enc,List.mem_map] at hu;obtain ⟨b,_,rfl⟩:=hu
 rfl
section
variable {w:World} {ops:Array Oper} {rest:List Oper} {o:Oper} {a:Act} {Q:Exit→Act→World→Prop}
theorem wpList_apStr (hgd:o.guard=none) (x y:Operand) (ho:o.op= .call {callee:= .builtin .append,args:= #[x,y],argTypes:= #[59,9]})
  {B:Nat} (v:Value) (bs s:List UInt8) (hs:a.eval x=v) (hx:a.eval y= .string ⟨s.toArray⟩) (hown:Row w B v bs) (hB:B≤w.heap.size) (hl:bs.length+s.length≤140737488355328)
  (h: ∀v' w',Row w' B v' (bs++s)→w.grownBy w' v.ownBlock→wpList Tryz.prog ops Q rest (a.put o.dst v') w'):wpList Tryz.prog ops Q (o::rest) a w:=by
 have hinfo:(Tryz.prog.info? 5).map (fun i=>(i.zero,i.size,i.bytes))=some (some (.int .u8 0),1,1):=by kernel_rfl
 obtain ⟨i0,hi,hzz⟩:=Option.map_eq_some_iff.1 hinfo;simp only [Prod.mk.injEq] at hzz;obtain ⟨hz0,hz1,hz2⟩:=hzz;refine Lib.wpList_append_own_string w hgd x y 59 9 ho B 5 i0 Tryz.underlying59 Tryz.underlying9 hi hz0 hz1 hz2 v bs.length (enc bs) hs hown ⟨s.toArray⟩ hx (by rw [size_mk];simp only [maxLen];omega) (by rw [size_mk];omega) hB ?_
 intro v' w' h1 h2 _;rw [size_mk,strCells_mk,←enc_append,←List.length_append] at h1;exact h v' w' h1 h2
theorem wpList_apRow (hgd:o.guard=none) (x y:Operand) (ho:o.op= .call {callee:= .builtin .append,args:= #[x,y],argTypes:= #[59,59]})
  {B:Nat} (v:Value) (bs s:List UInt8) (b off c:Nat) (hs:a.eval x=v) (hx:a.eval y= .slice (some ⟨b,off,none⟩) s.length c) (hr:Rd w b off s) (hown:Row w B v bs) (hB:B≤w.heap.size) (hl:bs.length+s.length≤140737488355328)
  (h: ∀v' w',Row w' B v' (bs++s)→w.grownBy w' v.ownBlock→wpList Tryz.prog ops Q rest (a.put o.dst v') w'):wpList Tryz.prog ops Q (o::rest) a w:=by
 have hinfo:(Tryz.prog.info? 5).map (fun i=>(i.zero,i.size,i.bytes))=some (some (.int .u8 0),1,1):=by kernel_rfl
 obtain ⟨i0,hi,hzz⟩:=Option.map_eq_some_iff.1 hinfo;simp only [Prod.mk.injEq] at hzz;obtain ⟨hz0,hz1,hz2⟩:=hzz;refine wpList_append_own (w:=w) hgd x y 59 ho B 5 i0 (.int .u8 0) 1 1 Tryz.underlying59 hi hz0 hz1 hz2 rfl (by decide) v bs.length (enc bs) hs hown ⟨b,off,none⟩ s.length c (enc s) hx (by rw [enc_length,Nat.mul_one]) hr.cells (enc_one s) (by simp only [maxLen];omega) (by omega) hB ?_
 intro v' w' h1 h2 _;rw [←enc_append,←List.length_append] at h1;exact h v' w' h1 h2
end
def Buf (w:World) (B wb:Nat) (bs:List UInt8):Prop:= ∃v,w.heap[wb]? =some (.cells #[v] 194 (0,0))∧Row w B v bs
theorem Row.shape {w:World} {B:Nat} {v:Value} {bs:List UInt8} (h:Row w B v bs): ∃ao n c,v= .slice ao n c:=by
 rcases h.2 with ⟨hv,_⟩|⟨g,cap,cur,hv,_⟩
 ·exact ⟨_,_,_,hv⟩
 ·exact ⟨_,_,_,hv⟩
theorem Row.ne {w:World} {B:Nat} {v:Value} {bs:List UInt8} (h:Row w B v bs) {k:Nat} (hk:k<B):some k≠v.ownBlock:=fun e=>by have:=(World.ownsRow.lt h k e.symm).1;omega
section
variable {w:World} {B wb:Nat} {bs:List UInt8}
theorem buf_stored {w w':World} {B wb:Nat} {v v':Value} {bs bs':List UInt8} (hb:w.heap[wb]? =some (.cells #[v] 194 (0,0))) (hr:Row w B v bs) (hr':Row w' B v' bs') (hg:w.grownBy w' v.ownBlock) (hwb:wb<B) (hB:B≤w.heap.size):
  Buf (w'.setCell ⟨wb,0,none⟩ v') B wb bs'∧Gr B [wb] w (w'.setCell ⟨wb,0,none⟩ v'):=by
 have hb':w'.heap[wb]? =some (.cells #[v] 194 (0,0)):=(hg.block wb (blk_lt' hb) (hr.ne hwb)).trans hb;refine ⟨⟨v',by rw [blk_setCell hb' 0 v'];rfl,hr'.fr ((Fr.refl [wb] w').setCell (by simp) _) (by simpa using hwb)⟩,((Gr.refl B [wb] w).grown hg hB (fun k hk=> .inr (World.ownsRow.lt hr k hk).1)).setCell (by simp) _⟩
theorem writeString (h:Buf w B wb bs) (hwb:wb<B) (hB:B≤w.heap.size) (s:List UInt8) (hl:bs.length+s.length≤140737488355328):
  Calls Tryz.prog 104 #[.pointer (some ⟨wb,0,none⟩),.string ⟨s.toArray⟩] w fun e w'=>(∃u,e= .returned u)∧Buf w' B wb (bs++s)∧Gr B [wb] w w':=by
 obtain ⟨v,hb,hr⟩:=h;have c0:w.cell? ⟨wb,0,none⟩=some v:=cell_blk hb 0;obtain ⟨ao,n,c,rfl⟩:=hr.shape;go_enter Tryz.func104,Tryz.ntmps104
 go_wp2_with (at_builtin;refine wpList_apStr rfl _ _ rfl (B:=B) _ bs s rfl rfl hr hB hl ?_)
 intro v' w' hr' hg;have hb':w'.heap[wb]? =some (.cells #[.slice ao n c] 194 (0,0)):=(hg.block wb (blk_lt' hb) (hr.ne hwb)).trans hb;have c0':w'.cell? ⟨wb,0,none⟩=some (.slice ao n c):=cell_blk hb' 0;have f0':w'.frozen? ⟨wb,0,none⟩=false:=frozen_blk hb' 0;obtain ⟨ao',n',c',rfl⟩:=hr'.shape;go_wp2
 go_ret2
 exact ⟨⟨_,rfl⟩,buf_stored hb hr hr' hg hwb hB⟩
theorem write (h:Buf w B wb bs) (hwb:wb<B) (hB:B≤w.heap.size) (s:List UInt8) (b off cap:Nat) (hrd:Rd w b off s) (hl:bs.length+s.length≤140737488355328):
  Calls Tryz.prog 171 #[.pointer (some ⟨wb,0,none⟩),.slice (some ⟨b,off,none⟩) s.length cap] w fun e w'=>(∃u,e= .returned u)∧Buf w' B wb (bs++s)∧Gr B [wb] w w':=by
 obtain ⟨v,hb,hr⟩:=h;have c0:w.cell? ⟨wb,0,none⟩=some v:=cell_blk hb 0;obtain ⟨ao,n,c,rfl⟩:=hr.shape;go_enter Tryz.func171,Tryz.ntmps171
 go_wp2_with (at_builtin;refine wpList_apRow rfl _ _ rfl (B:=B) _ bs s b off cap rfl rfl hrd hr hB hl ?_)
 intro v' w' hr' hg;have hb':w'.heap[wb]? =some (.cells #[.slice ao n c] 194 (0,0)):=(hg.block wb (blk_lt' hb) (hr.ne hwb)).trans hb;have c0':w'.cell? ⟨wb,0,none⟩=some (.slice ao n c):=cell_blk hb' 0;have f0':w'.frozen? ⟨wb,0,none⟩=false:=frozen_blk hb' 0;obtain ⟨ao',n',c',rfl⟩:=hr'.shape;go_wp2
 go_ret2
 exact ⟨⟨_,rfl⟩,buf_stored hb hr hr' hg hwb hB⟩
theorem writeByte (h:Buf w B wb bs) (hwb:wb<B) (hB:B≤w.heap.size) (s:UInt8) (hl:bs.length<140737488355328):
  Calls Tryz.prog 119 #[.pointer (some ⟨wb,0,none⟩),.int .u8 (s.toNat:Int)] w fun e w'=>e= .returned .nilIface∧Buf w' B wb (bs++[s])∧Gr B [wb] w w':=by
 obtain ⟨v,hb,hr⟩:=h;have c0:w.cell? ⟨wb,0,none⟩=some v:=cell_blk hb 0;obtain ⟨ao,n,c,rfl⟩:=hr.shape;go_enter Tryz.func119,Tryz.ntmps119
 have hr1:Row (w.alloc (.cells #[.int .u8 (s.toNat:Int)] 5)) B (.slice ao n c) bs:=World.ownsRow.alloc hr _;have hb1:(w.alloc (.cells #[.int .u8 (s.toNat:Int)] 5)).heap[wb]? =some (.cells #[.slice ao n c] 194 (0,0)):=blk_alloc hb _;have hrd:Rd (w.alloc (.cells #[.int .u8 (s.toNat:Int)] 5)) w.heap.size 0 [s]:=fun j hj=>by
  have hj0:j=0:=by simpa using hj
  subst hj0;exact cell_blk (blk_new w _) 0
 have hB1:B≤(w.alloc (.cells #[.int .u8 (s.toNat:Int)] 5)).heap.size:=by simp;omega
 have g1:Gr B [wb] w (w.alloc (.cells #[.int .u8 (s.toNat:Int)] 5)):=(Gr.refl _ _ _).alloc hB _;replace hB1:=Hz hB1;go_wp2_with (at_builtin;refine wpList_apRow rfl _ _ rfl (B:=B) _ bs [s] w.heap.size 0 1 rfl rfl hrd hr1 hB1.out (by simp;omega) ?_)
 intro v' w' hr' hg;have hb':w'.heap[wb]? =some (.cells #[.slice ao n c] 194 (0,0)):=(hg.block wb (blk_lt' hb1) (hr.ne hwb)).trans hb1;have c0':w'.cell? ⟨wb,0,none⟩=some (.slice ao n c):=cell_blk hb' 0;have f0':w'.frozen? ⟨wb,0,none⟩=false:=frozen_blk hb' 0;obtain ⟨ao',n',c',rfl⟩:=hr'.shape;go_wp2;go_ret
 exact ⟨rfl,(buf_stored hb1 hr1 hr' hg hwb hB1.out).1,g1.trans (buf_stored hb1 hr1 hr' hg hwb hB1.out).2⟩
theorem string (h:Buf w B wb bs):
  Calls Tryz.prog 106 #[.pointer (some ⟨wb,0,none⟩)] w fun e w'=>e= .returned (.string ⟨bs.toArray⟩)∧w'=w:=by
 obtain ⟨v,hb,hr⟩:=h;have c0:w.cell? ⟨wb,0,none⟩=some v:=cell_blk hb 0;rcases hr.2 with ⟨rfl,hn⟩|⟨g,cap,cur,rfl,hg,hh,hr3⟩
 ·have hbs:bs=[]:=List.eq_nil_of_length_eq_zero hn;subst hbs;have ht:(convert 59 9 (.slice none 0 0)).run Tryz.prog w= .ok (.string ⟨#[]⟩) w:=Lib.run_convert_nil_bytes w 59 9 5 0 Tryz.underlying59 Tryz.underlying5 Tryz.underlying9;go_enter Tryz.func106,Tryz.ntmps106
  go_wp2;go_ret
  exact ⟨rfl,rfl⟩
 ·have ht:(convert 59 9 (.slice (some ⟨g,0,none⟩) bs.length cap)).run Tryz.prog w= .ok (.string ⟨bs.toArray⟩) w:=toStr (Rd.of_own hr) cap;go_enter Tryz.func106,Tryz.ntmps106
  go_wp2;go_ret
  exact ⟨rfl,rfl⟩
end
end
section
open Go.RowKit
def U8 (w:World):Prop:=Lib.Utf8Tabs 0 1 w
theorem U8.keep {w w':World} (h:U8 w) (hk: ∀k,k<2→w'.heap[k]? =w.heap[k]?):U8 w':=by
 have hc: ∀p:Addr,p.block<2→w'.cell? p=w.cell? p:=fun p hp=>World.cell?_of_block (w:=w) (hk p.block hp)
 obtain ⟨h1,h2⟩:=h;refine ⟨fun c hl=>(hc ⟨0,c,none⟩ (by simp)).trans (h1 c hl),fun i hi=>⟨(hc ⟨1,2*i,none⟩ (by simp)).trans (h2 i hi).1,(hc ⟨1,2*i+1,none⟩ (by simp)).trans (h2 i hi).2⟩⟩
theorem U8.size {w:World} (h:U8 w):2≤w.heap.size:=by
 have:=World.block_lt_of_cell? w ⟨1,2*0,none⟩ (h.2 0 (by omega)).1
 exact this
theorem U8.fr {w w':World} {S:List Nat} (h:U8 w) (hf:Fr S w w') (hs: ∀k,k∈S→2≤k):U8 w':=h.keep fun k hk=>hf.block k (by have:=h.size;omega) (fun e=>by have:=hs k e;omega)
theorem U8.gr {w w':World} {S:List Nat} {B:Nat} (h:U8 w) (hf:Gr B S w w') (hB:2≤B) (hs: ∀k,k∈S→2≤k):U8 w':=h.keep fun k hk=>hf.block k (by omega) (fun e=>by have:=hs k e;omega)
structure Md where
 enc:Nat
 sp:Bool
 tx:Bool
 em:Bool
 sq:Bool
 pr:Bool
structure Cx where
 B:Nat
 di:Nat
 dg:Nat
 d:Nat
 wb:Nat
 db:Nat
 o:Nat
 c:Nat
 dm:Nat
 xs:List UInt8
 L:Lim
 M:Md
structure St (X:Cx) (off:Nat) (bs:List UInt8) (w:World):Prop where
 di:w.heap[X.di]? =some (.cells #[.pointer (some ⟨X.dg,0,none⟩),.pointer (some ⟨X.d,0,none⟩),.pointer (some ⟨X.wb,0,none⟩)] 196 (0,0))
 dg:w.heap[X.dg]? =some (.cells #[.int .u8 (X.M.enc:Int),.bool X.M.sp,.bool X.M.tx,.bool X.M.em,.bool X.M.sq,.bool X.M.pr,.pointer (some ⟨X.dm,0,none⟩)] 139 (0,0))
 dec:Dec w X.d X.db X.o X.c X.dm X.xs off
 dm:DecM w X.dm X.L.nest X.L.el X.L.pa
 buf:Buf w X.B X.wb bs
 hB:X.B≤w.heap.size
 ldi:X.di<X.B
 ldg:X.dg<X.B
 ld:X.d<X.B
 lw:X.wb<X.B
 ldb:X.db<X.B
 ldm:X.dm<X.B
 nw:X.db≠X.wb
 u8:U8 w
 l2B:2≤X.B
 l2d:2≤X.d
 l2w:2≤X.wb
section
variable {X:Cx} {off:Nat} {bs:List UInt8} {w:World}
theorem St.n1 (h:St X off bs w):X.di≠X.d:=fun e=>by have h1:=h.di;rw [e,h.dec.blk] at h1;simp at h1
theorem St.n2 (h:St X off bs w):X.dg≠X.d:=fun e=>by have h1:=h.dg;rw [e,h.dec.blk] at h1;simp at h1
theorem St.n3 (h:St X off bs w):X.dm≠X.d:=fun e=>by have h1:=h.dm;unfold DecM at h1;rw [e,h.dec.blk] at h1;simp at h1
theorem St.n4 (h:St X off bs w):X.di≠X.wb:=fun e=>by obtain ⟨v,hv,_⟩:=h.buf;have h1:=h.di;rw [e,hv] at h1;simp at h1
theorem St.n5 (h:St X off bs w):X.dg≠X.wb:=fun e=>by obtain ⟨v,hv,_⟩:=h.buf;have h1:=h.dg;rw [e,hv] at h1;simp at h1
theorem St.n6 (h:St X off bs w):X.dm≠X.wb:=fun e=>by obtain ⟨v,hv,_⟩:=h.buf;have h1:=h.dm;unfold DecM at h1;rw [e,hv] at h1;simp at h1
theorem St.n7 (h:St X off bs w):X.d≠X.wb:=fun e=>by obtain ⟨v,hv,_⟩:=h.buf;have h1:=h.dec.blk;rw [e,hv] at h1;simp at h1
theorem St.i0 (h:St X off bs w):w.cell? ⟨X.di,0,none⟩=some (.pointer (some ⟨X.dg,0,none⟩)):=cell_blk h.di 0
theorem St.i1 (h:St X off bs w):w.cell? ⟨X.di,1,none⟩=some (.pointer (some ⟨X.d,0,none⟩)):=cell_blk h.di 1
theorem St.i2 (h:St X off bs w):w.cell? ⟨X.di,2,none⟩=some (.pointer (some ⟨X.wb,0,none⟩)):=cell_blk h.di 2
theorem St.moved {w':World} (h:St X off bs w) (hf:Fr [X.d] w w') {off':Nat} (hd:Dec w' X.d X.db X.o X.c X.dm X.xs off'):St X off' bs w':=
 ⟨hf.blk h.di (by simpa using h.n1),hf.blk h.dg (by simpa using h.n2),hd,h.dm.fr hf (by simpa using h.n3),by
  obtain ⟨v,hv,hr⟩:=h.buf;exact ⟨v,hf.blk hv (by simpa using fun e=>h.n7 e.symm),hr.fr hf (by simpa using h.ld)⟩,Nat.le_trans h.hB hf.size,h.ldi,h.ldg,h.ld,h.lw,h.ldb,h.ldm,h.nw,h.u8.fr hf (by simpa using h.l2d),h.l2B,h.l2d,h.l2w⟩
theorem St.wrote {w':World} (h:St X off bs w) (hf:Gr X.B [X.wb] w w') {bs':List UInt8} (hd:Buf w' X.B X.wb bs'):St X off bs' w':=
 ⟨hf.blk h.di h.ldi (by simpa using h.n4),hf.blk h.dg h.ldg (by simpa using h.n5),
  ⟨hf.blk h.dec.blk h.ld (by simpa using h.n7),hf.rd h.dec.rd h.ldb (by simpa using h.nw),h.dec.cap,h.dec.len,h.dec.ne,h.dec.le⟩,
  hf.blk h.dm h.ldm (by simpa using h.n6),hd,Nat.le_trans h.hB hf.size,h.ldi,h.ldg,h.ld,h.lw,h.ldb,h.ldm,h.nw,h.u8.gr hf h.l2B (by simpa using h.l2w),h.l2B,h.l2d,h.l2w⟩
theorem St.kept {w':World} (h:St X off bs w) (hf:Fr [] w w'):St X off bs w':=h.moved (hf.mono (by simp)) (h.dec.fr hf (by simp) (by simp))
theorem St.drewN (h:St X off bs w) (n:Nat):St X off bs (w.drewN n):=h.kept ((Fr.refl _ _).drewN n)
theorem St.grF {w':World} (h:St X off bs w) (hf:Fr [X.d] w w'):Gr X.B [X.d,X.wb] w w':=Gr.of hf h.hB (by simp)
theorem St.gr0 {w':World} (h:St X off bs w) (hf:Fr [] w w'):Gr X.B [X.d,X.wb] w w':=Gr.of hf h.hB (by simp)
theorem St.grW {w':World} (hf:Gr X.B [X.wb] w w'):Gr X.B [X.d,X.wb] w w':=hf.mono (Nat.le_refl _) (by simp)
end
def IPost (X:Cx) (off':Nat) (bs:List UInt8) (r:List UInt8×Option Nat) (w:World) (e:Ending) (w':World):Prop:=
 ∃v o2,e= .returned v∧ErrO r.2 v∧(r.2=none→o2=off')∧St X o2 (bs++r.1) w'∧Gr X.B [X.d,X.wb] w w'
def room:Nat:=140737488355328
theorem hd_byte {xs:List UInt8} {off m ai v o:Nat} (h:hd xs off= .ok (m,ai,v,o)): ∃hl:off<xs.length,xs[off].toNat/32=m∧xs[off].toNat%32=ai:=by
 unfold hd at h
 split at h
 ·cases h
 ·rename_i b e;obtain ⟨hl,rfl⟩:=getElem?_lt e;refine ⟨hl,?_⟩
  split at h
  ·cases h;exact ⟨rfl,rfl⟩
  ·split at h
   ·split at h
    ·cases h
    ·split at h
     ·cases h
     ·cases h;exact ⟨rfl,rfl⟩
   ·split at h
    ·split at h
     ·cases h
     ·cases h;exact ⟨rfl,by omega⟩
    ·cases h
abbrev R:=List UInt8×Option Nat
def txt (s:List UInt8):R:=(s,none)
def thenR (a b:R):R:=
 match a.2 with
 |none=>(a.1++b.1,b.2)
 |some k=>(a.1,some k)
def arrR (close:List UInt8):Nat→List R→R
 |_,[]=>txt close
 |i,r::l=>thenR (txt (if i=0 then [] else [44,32])) (thenR r (arrR close (i+1) l))
def mapR (close:List UInt8):Nat→List (R×R)→R
 |_,[]=>txt close
 |i,(k,v)::l=>thenR (txt (if i=0 then [] else [44,32])) (thenR k (thenR (txt [58,32]) (thenR v (mapR close (i+1) l))))
theorem thenR_txt (s:List UInt8) (b:R):thenR (txt s) b=(s++b.1,b.2):=rfl
theorem thenR_ok {a:R} (h:a.2=none) (b:R):thenR a b=(a.1++b.1,b.2):=by simp [thenR,h]
theorem thenR_err {a:R} {k:Nat} (h:a.2=some k) (b:R):thenR a b=(a.1,some k):=by simp [thenR,h]
def ItemC (X:Cx) (off off':Nat) (r:R):Prop:=
 ∀w bs,St X off bs w→bs.length+r.1.length≤room→Calls Tryz.prog 105 #[.pointer (some ⟨X.di,0,none⟩)] w (IPost X off' bs r w)
inductive Kids (X:Cx):Nat→Nat→List R→Prop
 |nil (off:Nat):Kids X off off []
 |cons {off mid off':Nat} {r:R} {l:List R}:ItemC X off mid r→Kids X mid off' l→Kids X off off' (r::l)
inductive Kids2 (X:Cx):Nat→Nat→List (R×R)→Prop
 |nil (off:Nat):Kids2 X off off []
 |cons {off m1 m2 off':Nat} {r s:R} {l:List (R×R)}:ItemC X off m1 r→ItemC X m1 m2 s→Kids2 X m2 off' l→Kids2 X off off' ((r,s)::l)
end
end Go.Proofs.YteodinhkhhaafaaGreatDoor
