/- Walks of the program, and plain facts. -/
import Derived.Test.YteodinhkhhaafaaGreatDoorFbh
import Derived.Deep.CutBlock
set_option linter.unusedVariables false
set_option linter.unusedSimpArgs false
set_option maxRecDepth 100000
set_option maxHeartbeats 6400000
namespace Go.Proofs.YteodinhkhhaafaaGreatDoor
section
set_option exponentiation.threshold 3000
open Go.RowKit
theorem bq_self (b:ByteArray):(b==b)=true:=by
 show (b.data==b.data)=true
 exact beq_self_eq_true _
theorem bq_ne {l m:List UInt8} (h:l≠m):((⟨l.toArray⟩:ByteArray)==⟨m.toArray⟩)=false:=by
 have e:((⟨l.toArray⟩:ByteArray)==⟨m.toArray⟩)=(l.toArray==m.toArray):=rfl;rw [e]
 simpa using h
section
variable {X:Cx} {off:Nat} {bs:List UInt8} {w:World}
theorem encFloat (h:St X off bs w) {ai v:Nat} (hn:numOK ai v) (hlen:bs.length+(fltB (wbits ai v)++precT X.M.pr ai).length≤room):
  Calls Tryz.prog 136 #[.pointer (some ⟨X.di,0,none⟩),.int .u8 (ai:Int),.int .u64 (v:Int)] w (IPost X off bs (txt (fltB (wbits ai v)++precT X.M.pr ai)) w):=by
 have hwf:=Hz (wbits_fin hn);obtain ⟨b,hb⟩: ∃b,b=wbits ai v:=⟨_,rfl⟩;rw [←hb] at hwf hlen ⊢;replace hb:=Hz hb;have h25:(ai:Int)=25∨(ai:Int)=26∨(ai:Int)=27:=by rcases hn with ⟨e,_⟩|⟨e,_⟩|⟨e,_⟩<;>omega
 go_enter Tryz.func136,Tryz.ntmps136
 go_upto_block 0 with fail
 go_cut [7] (fun s7 wx=>s7= .float .f64 b∧w=wx)
 case first=>as_aux_lemma=>
  rcases hn with ⟨rfl,h1,h2⟩|⟨rfl,h1,h2⟩|⟨rfl,h1,h2⟩
  ·have hbv:s2d (h2s v)=b:=by rw [hb.out];rfl
   obtain ⟨e1,e2,e3⟩:=half_fin v h1 h2;have s0:IntKind.u16.wrap (v:Int)=(v:Int):=by show (v:Int)%65536=_;omega
   have K1:=Hz (fun W=>frombits v W)
   have K2:=Hz (fun W=>isNaN16 v h1 h2 W)
   have K3:=Hz (fun W s=>isInf16 v s h2 W)
   have K4:=Hz (fun W=>float32_any v h1 W)
   have hcv:=fun W=>conv32 (h2s v) e2 e3 W
   rw [hbv] at hcv;clear e1 e2 e3 h1 h2 h25;go_wp2_with (first|(go_at_call 179;refine (K1.out _).mono ?_;rintro e w1 ⟨rfl,rfl⟩)|(go_at_call 180;refine (K2.out _).mono ?_;rintro e w1 ⟨rfl,rfl⟩)|(go_at_call 181;refine (K3.out _ _).mono ?_;rintro e w1 ⟨rfl,rfl⟩)|(go_at_call 182;refine (K4.out _).mono ?_;rintro e w1 ⟨rfl,rfl⟩))
   go_meet
   exact ⟨rfl,rfl⟩
  ·have hbv:s2d v=b:=by rw [hb.out];rfl
   have s0:IntKind.u32.wrap (v:Int)=(v:Int):=by show (v:Int)%4294967296=_;omega
   have hcv:=fun W=>conv32 v h1 h2 W
   rw [hbv] at hcv;have x183:=fun w=>ext183 v w
   have o1:=order_self32 v h1 h2;obtain ⟨o2,o3⟩:=order_max32 v h1 h2;have t1:(FloatKind.f32.format.order v v !=some Ordering.eq)=false:=by rw [show FloatKind.f32.format=Ieee.single from rfl,o1];rfl
   have t2:(FloatKind.f32.format.order v 2139095039==some Ordering.gt)=false:=beq_eq_false_iff_ne.2 o2;have t3:(FloatKind.f32.format.order v 4286578687==some Ordering.lt)=false:=beq_eq_false_iff_ne.2 o3;clear h1 h2 h25 o1 o2 o3;go_wp2
   go_meet
   exact ⟨rfl,rfl⟩
  ·have hbv:v=b:=by rw [hb.out];rfl
   subst hbv;have x184:=fun w=>ext184 v w
   have o1:=order_self v h1 h2;obtain ⟨o2,o3⟩:=order_max v h1 h2;have t1:(FloatKind.f64.format.order v v !=some Ordering.eq)=false:=by rw [show FloatKind.f64.format=Ieee.double from rfl,o1];rfl
   have t2:(FloatKind.f64.format.order v 9218868437227405311==some Ordering.gt)=false:=beq_eq_false_iff_ne.2 o2;have t3:(FloatKind.f64.format.order v 18442240474082181119==some Ordering.lt)=false:=beq_eq_false_iff_ne.2 o3;clear h1 h2 h25 o1 o2 o3;go_wp2
   go_meet
   exact ⟨rfl,rfl⟩
 case rest=>
 obtain ⟨rfl,rfl⟩:=hcut;clear hn;have KA:=Hz (fun W=>absF b hwf.out.1 W)
 have hmk: ∀W,(Instr.makeSlice 59 (.int .i64 0) (.int .i64 32)).run Tryz.prog W= .ok (.slice (some ⟨W.heap.size,0,none⟩) 0 32) (W.alloc (.cells (madeCells #[.int .u8 0] 32) 5)):=fun W=>by kernel_rfl
 have hR0:Hid (Row (w.alloc (.cells (madeCells #[.int .u8 0] 32) 5)) w.heap.size (.slice (some ⟨w.heap.size,0,none⟩) 0 32) []):=Hz (World.ownsRow_made w _ 32 (Nat.le_refl _) (by decide) (by simp [madeCells]))
 have hF0:Hid (Fr [] w (w.alloc (.cells (madeCells #[.int .u8 0] 32) 5))):=Hz ((Fr.refl [] w).alloc _);obtain ⟨a,ha⟩: ∃a,a=b%9223372036854775808:=⟨_,rfl⟩;rw [←ha] at KA;obtain ⟨c1,hc1⟩: ∃c,c=(FloatKind.f64.format.order a 0 !=some Ordering.eq):=⟨_,rfl⟩;obtain ⟨c2,hc2⟩: ∃c,c=(FloatKind.f64.format.order a 4517329193108106637==some Ordering.lt):=⟨_,rfl⟩;obtain ⟨c3,hc3⟩: ∃c,c=(FloatKind.f64.format.order a 4921056587992461136==some Ordering.gt):=⟨_,rfl⟩;obtain ⟨c4,hc4⟩: ∃c,c=(FloatKind.f64.format.order a 4921056587992461136==some Ordering.eq):=⟨_,rfl⟩;have hE:Hid (useE b=(c1&&(c2||(c3||c4)))):=Hz (by rw [hc1,hc2,hc3,hc4,ha];rfl)
 replace hc1:=hc1.symm;replace hc2:=hc2.symm;replace hc3:=hc3.symm;replace hc4:=hc4.symm;replace ha:=Hz ha;go_upto_region 40 with (go_at_call 185;refine (KA.out _).mono ?_;rintro e w1 ⟨rfl,rfl⟩)
 obtain ⟨W0,hW0⟩: ∃W0,W0=w.alloc (.cells (madeCells #[.int .u8 0] 32) 5):=⟨_,rfl⟩;rw [←hW0] at hR0 hF0 ⊢;replace hW0:=Hz hW0
 go_cut [120] (fun s120 wx=>s120= .bool (useE b)∧W0=wx)
 case first=>as_aux_lemma=>
  go_wp2_with fail
  all_goals (go_meet;refine ⟨?_,rfl⟩;rw [hE.out];simp_all)
 case rest=>
 obtain ⟨rfl,rfl⟩:=hcut;clear hc1 hc2 hc3 hc4 hE KA;have hTl:=fun e=>fmtF_le b e hwf.out.2.1
 have hBw:w.heap.size≤W0.heap.size:=hF0.out.size;have KB0:Hid (Calls Tryz.prog 186 #[.slice (some ⟨w.heap.size,0,none⟩) 0 32,.float .f64 b,.int .u8 102,.int .i64 (-1),.int .i64 64] W0 fun e' w'=> ∃v',e'= .returned v'∧Row w' w.heap.size v' ([]++fmtF b false)∧Gr w.heap.size [] W0 w'):=Hz (appendFloat b false hR0.out hBw hwf.out.1 hwf.out.2.1 (by intro e;cases e) (by have:=hTl false;simp;omega))
 have KB1:useE b=true→Hid (Calls Tryz.prog 186 #[.slice (some ⟨w.heap.size,0,none⟩) 0 32,.float .f64 b,.int .u8 101,.int .i64 (-1),.int .i64 64] W0 fun e' w'=> ∃v',e'= .returned v'∧Row w' w.heap.size v' ([]++fmtF b true)∧Gr w.heap.size [] W0 w'):=fun hu=>Hz (appendFloat b true hR0.out hBw hwf.out.1 hwf.out.2.1 (fun _=>useE_pos hu) (by have:=hTl true;simp;omega))
 have hpre:Hid (preT b=if useE b then cleanE (fmtF b true) else fmtF b false):=Hz rfl
 have hlT:=hTl true
 go_upto_if 120 with fail
 go_cut [10] (fun s10 wx=>Row wx w.heap.size s10 (preT b)∧Fr [] w wx)
 case first=>
  cases hu:useE b
  ·clear KB1;go_wp2_with fail
   refine KB0.out.mono ?_
   rintro e w1 ⟨v1,rfl,hr1,hG1⟩;go_wp2
   go_meet
   exact ⟨by rw [hpre.out,hu];exact hr1,(Gr.of hF0.out (Nat.le_refl _) (by simp)).trans hG1|>.fr⟩
  ·have KB1:=KB1 hu;clear KB0;go_wp2_with fail
   refine KB1.out.mono ?_
   rintro e w1 ⟨v1,rfl,hr1,hG1⟩;rw [List.nil_append] at hr1;have hF1:Fr [] w w1:=(Gr.of hF0.out (Nat.le_refl _) (by simp)).trans hG1|>.fr
   have hpreT:preT b=cleanE (fmtF b true):=by rw [hpre.out,hu];rfl
   obtain ⟨T,hT⟩: ∃T,T=fmtF b true:=⟨_,rfl⟩;rw [←hT] at hr1 hlT hpreT;replace hT:=Hz hT;replace hpreT:=Hz hpreT;obtain ⟨ao,n,c,rfl⟩:=hr1.shape;have hn:=row_len hr1;subst hn;by_cases h4:4≤T.length
   ·have t4:(4:Int)≤(T.length:Int):=by omega
    obtain ⟨g,cap,hv,hBg,_,_,_⟩:=hr1.set 0 (by omega)
    injection hv with e1 e2 e3
    subst e1 e3;clear e2;have hrd:=Rd.of_own hr1;obtain ⟨n4,hn4⟩: ∃k,k+4=T.length:=⟨T.length-4,by omega⟩
    have hcap:T.length≤c:=by
     rcases hr1.2 with ⟨hv,_⟩|⟨g',cap,cur,hv,hg,hh,hc,_⟩
     ·cases hv
     ·injection hv with e1 e2 e3;omega
    have s1:IntKind.i64.wrap ((T.length:Int)-4)=(n4:Int):=by rw [IntWalk.i64_in _ (by omega)];omega
    have s2:(T.length:Int)-4=(n4:Int):=by omega
    have s3:IntKind.i64.wrap ((T.length:Int)-1)=((n4+3:Nat):Int):=by rw [IntWalk.i64_in _ (by omega)];omega
    obtain ⟨M,hM⟩: ∃M,M=(T.drop n4).take 3:=⟨_,rfl⟩;have hMl:M.length=3:=by rw [hM];simp;omega
    have hrd2:Rd w1 g n4 M:=by have:=(hrd.drop n4).take 3;rw [←hM,Nat.zero_add] at this;exact this
    have ht:=toStr hrd2 (c-n4);rw [hMl] at ht;have hcl:cleanE T=if M=[101,45,48] then T.take (n4+2)++T.drop (n4+3) else T:=by
     unfold cleanE;rw [show T.length-4=n4 by omega,←hM,show T.length-2=n4+2 by omega,show T.length-1=n4+3 by omega]
     by_cases e:M=[101,45,48]
     ·rw [if_pos ⟨h4,e⟩,if_pos e]
     ·rw [if_neg (fun h=>e h.2),if_neg e]
    replace hM:=Hz hM;by_cases hM2:M=[101,45,48]
    ·rw [if_pos hM2] at hcl;subst hM2;replace hcl:=Hz hcl;have hn4':=Hz hn4;have hbq:=bq_self ⟨#[101,45,48]⟩;have hi3:n4+3<T.length:=by omega
     obtain ⟨x,hx⟩: ∃x,x=T[n4+3]'hi3:=⟨_,rfl⟩;have hdr:T.drop (n4+3)=[x]:=by rw [List.drop_eq_getElem_cons hi3,hx,List.drop_eq_nil_of_le (by omega)]
     have hcx:=hrd (n4+3) hi3;rw [Nat.zero_add,←hx] at hcx;replace hx:=Hz hx;have s4:IntKind.i64.wrap ((T.length:Int)-2)=((n4+2:Nat):Int):=by rw [IntWalk.i64_in _ (by omega)];omega
     have s5:(T.length:Int)-2=((n4+2:Nat):Int):=by omega
     have s6:IntKind.i64.wrap ((n4:Int)+2)=(n4:Int)+2:=IntWalk.i64_in _ (by omega)
     have s7:IntKind.i64.wrap ((n4:Int)+3)=(n4:Int)+3:=IntWalk.i64_in _ (by omega)
     have s8:(n4:Int)+2≤(c:Int):=by omega
     have s9:(0:Int)≤(n4:Int)+2:=by omega
     have s10:(n4:Int)+3<(T.length:Int):=by omega
     have s11:(0:Int)≤(n4:Int)+3:=by omega
     have s12:((n4:Int)+2).toNat=n4+2:=by omega
     have s13:((n4:Int)+3).toNat=n4+3:=by omega
     have hrT:=hr1.take (n4+2) (by omega)
     have hWA:Fr [] w1 (w1.alloc (.cells #[.int .u8 (x.toNat:Int)] 5 (0,0))).drew:=((Fr.refl [] w1).alloc _).drew;have sA:Hid (Src (w1.alloc (.cells #[.int .u8 (x.toNat:Int)] 5 (0,0))).drew (.slice (some ⟨w1.heap.size,0,none⟩) 1 1) [x]):=Hz (.inr ⟨w1.heap.size,0,1,rfl,rd_new (w:=w1) rfl rfl⟩);have rA:Hid (Row (w1.alloc (.cells #[.int .u8 (x.toNat:Int)] 5 (0,0))).drew w.heap.size (.slice (some ⟨g,0,none⟩) (n4+2) c) (T.take (n4+2))):=Hz (hrT.fr hWA (by simp))
     have zA:w.heap.size≤(w1.alloc (.cells #[.int .u8 (x.toNat:Int)] 5 (0,0))).drew.heap.size:=Nat.le_trans hF1.size hWA.size;have hll:(T.take (n4+2)).length+[x].length≤140737488355328:=by simp;omega
     rw [hdr] at hcl;replace zA:=Hz zA;replace hll:=Hz hll;replace hrT:=Hz hrT;replace hr1:=Hz hr1;replace hrd:=Hz hrd;go_wp2
     go_region_law (refine step_apSrc rfl (.tmp 141) (.tmp 147) rfl (B:=w.heap.size) (.slice (some ⟨g,0,none⟩) (n4+2) c) (T.take (n4+2)) [x] (.slice (some ⟨w1.heap.size,0,none⟩) 1 1) (by simp [Act.eval,Act.put]) (by simp [Act.eval,Act.put]) sA.out rA.out zA.out hll.out ?_;intro v' w' hr' hg)
     all_goals go_wp2_with fail
     all_goals go_meet
     all_goals exact ⟨by rw [hpreT.out,hcl.out];exact hr',(hF1.trans hWA).grown hg (by intro k hk;right;simp [Value.ownBlock] at hk;omega)⟩
    ·rw [if_neg hM2] at hcl;have hbq:((⟨M.toArray⟩:ByteArray)==⟨#[101,45,48]⟩)=false:=bq_ne (m:=[101,45,48]) hM2;have hbq2: ¬(M.toArray= #[101,45,48]):=fun e=>hM2 (by have:=congrArg Array.toList e;simpa using this)
     have hbq4:(M==[101,45,48])=false:=by simpa using hM2
     have hbq3: ¬((⟨M.toArray⟩:ByteArray)=⟨#[101,45,48]⟩):=fun e=>hbq2 (by injection e)
     go_wp2
     go_meet
     exact ⟨by rw [hpreT.out,hcl];exact hr1,hF1⟩
   ·have t4: ¬(4:Int)≤(T.length:Int):=by omega
    have hcl:cleanE T=T:=if_neg (fun h=>h4 h.1)
    go_wp2
    go_meet
    exact ⟨by rw [hpreT.out,hcl];exact hr1,hF1⟩
 case rest=>
 obtain ⟨hr,hF⟩:=hcut;clear KB0 KB1;obtain ⟨hpl,hfl⟩:=fltB_len b hwf.out.2.1;obtain ⟨hp2,hpne⟩:=pre_sp b hwf.out.2.1;have hfT:Hid (fltB b=dotted (preT b)):=Hz rfl;obtain ⟨T,hT⟩: ∃T,T=preT b:=⟨_,rfl⟩;rw [←hT] at hr hpl hp2 hpne hfT;replace hT:=Hz hT;replace hpre:=Hz hpre;obtain ⟨g,c,rfl,hBg,_,_,_⟩:=hr.set 0 (List.length_pos_iff.2 hpne);have hTl0:0<T.length:=List.length_pos_iff.2 hpne;have hrd:=Rd.of_own hr;have hcap:T.length≤c:=by
  rcases hr.2 with ⟨hv,_⟩|⟨g',cap,cur,hv,hg,hh,hc,_⟩
  ·cases hv
  ·injection hv with e1 e2 e3;omega
 have KD1:=Hz (indexByte (cap:=c) 46 hrd (by omega))
 have KD2:=Hz (indexByte (cap:=c) 101 hrd (by omega))
 have k46:(((46:UInt8).toNat:Nat):Int)=46:=rfl;have k101:(((101:UInt8).toNat:Nat):Int)=101:=rfl;rw [k46] at KD1;rw [k101] at KD2
 go_upto_if 154 with (go_at_call 187;refine KD1.out.mono ?_;rintro e w1 ⟨rfl,rfl⟩)
 go_cut [10] (fun s10 wx=>Row wx w.heap.size s10 (fltB b)∧Fr [] w wx)
 case first=>
  cases h46:idx 46 T with
  |some i46=>
   have e1:idxI 46 T=(i46:Int):=by unfold idxI;rw [h46]
   have e2: ¬(i46:Int)<0:=by omega
   have e3:fltB b=T:=by rw [hfT.out];unfold dotted;rw [h46]
   go_wp2
   go_meet
   exact ⟨by rw [e3];exact hr,hF⟩
  |none=>
   have e1:idxI 46 T= -1:=by unfold idxI;rw [h46]
   cases h101:idx 101 T with
   |none=>
    have e2:idxI 101 T= -1:=by unfold idxI;rw [h101]
    have e3:fltB b=T++[46,48]:=by rw [hfT.out];unfold dotted;rw [h46,h101]
    have hll:Hid (T.length+([46,48]:List UInt8).length≤140737488355328):=Hz (by simp;omega)
    replace e3:=Hz e3;replace hr:=Hz hr;go_wp2_with (first|(go_at_call 187;refine KD2.out.mono ?_;rintro e w1 ⟨rfl,rfl⟩)|(at_builtin;refine wpList_apRow rfl _ _ rfl (B:=w.heap.size) _ T [46,48] w1.heap.size 0 2 rfl rfl (rd_new (w:=w1) rfl rfl) (hr.out.push rfl) (by have:=hF.size;simp;omega) hll.out ?_;intro v' w' hr' hg))
    go_wp2
    go_meet
    refine ⟨by rw [e3.out];exact hr',(hF.alloc _).grown hg ?_⟩
    intro k hk
    right
    replace hk:some g=some k:=hk;injection hk with hk
    omega
   |some i=>
    have e2:idxI 101 T=(i:Int):=by unfold idxI;rw [h101]
    have e4: ¬(i:Int)<0:=by omega
    have hi2:=hp2 i h101;have e3:fltB b=T.take i++46::48::T.drop i:=by rw [hfT.out];unfold dotted;rw [h46,h101]
    have e5:=put2 T i hi2 46 48;rw [←e3] at e5;replace e3:=Hz e3;replace e5:=Hz e5;have hrT:=hr.take (i+2) (by omega)
    have hWA:Fr [] w1 w1.drew:=(Fr.refl [] w1).drew;have hdl:(T.drop i).length=T.length-i:=by simp
    have hci: ¬c=i:=by omega
    have hci2:c=i→0=i:=fun e=>absurd e hci
    have sA:Hid (Src w1.drew (.slice (some ⟨g,i,none⟩) (T.length-i) (c-i)) (T.drop i)):=Hz (.inr ⟨g,i,c-i,by rw [hdl],by have:=(hrd.drop i).fr hWA (by simp);rw [Nat.zero_add] at this;exact this⟩)
    have rA:Hid (Row w1.drew w.heap.size (.slice (some ⟨g,0,none⟩) (i+2) c) (T.take (i+2))):=Hz (hrT.fr hWA (by simp))
    have zA:Hid (w.heap.size≤w1.drew.heap.size):=Hz hF.size;have hll:Hid ((T.take (i+2)).length+(T.drop i).length≤140737488355328):=Hz (by simp;omega)
    have q1:IntKind.i64.wrap ((i:Int)+2)=(i:Int)+2:=IntWalk.i64_in _ (by omega)
    have q2:(i:Int)+2≤(c:Int):=by omega
    have q3:(0:Int)≤(i:Int)+2:=by omega
    have q4:((i:Int)+2).toNat=i+2:=by omega
    have q5:(i:Int)≤(T.length:Int):=by omega
    have q6:(0:Int)≤(i:Int):=by omega
    have q7:IntKind.i64.wrap ((i:Int)+1)=(i:Int)+1:=IntWalk.i64_in _ (by omega)
    have q8:(i:Int)+1<(T.length:Int)+2:=by omega
    have q9:((i:Int)+1).toNat=i+1:=by omega
    have q10:(0:Int)≤(i:Int)+1:=by omega
    have hLn:(T.take (i+2)++T.drop i).length=T.length+2:=by simp;omega
    replace hr:=Hz hr;replace hrd:=Hz hrd;clear hp2;go_wp2_with (go_at_call 187;refine KD2.out.mono ?_;rintro e w1 ⟨rfl,rfl⟩)
    go_wp2
    go_region_law (refine step_apSrc rfl (.tmp 165) (.tmp 168) rfl (B:=w.heap.size) (.slice (some ⟨g,0,none⟩) (i+2) c) (T.take (i+2)) (T.drop i) (.slice (some ⟨g,i,none⟩) (T.length-i) (c-i)) (by simp [Act.eval,Act.put]) (by simp [Act.eval,Act.put]) sA.out rA.out zA.out hll.out ?_;intro v' w' hr' hg)
    obtain ⟨g2,cc2,hv2,hB2,⟨u2,hu2⟩,hz2,hS2⟩:=hr'.set i (by rw [hLn];omega)
    rw [hLn] at hv2;subst hv2;have hS46:=hS2 46;rw [k46] at hS46;obtain ⟨g3,cc3,hv3,hB3,⟨u3,hu3⟩,hz3,hS3⟩:=hS46.set (i+1) (by rw [List.length_set,hLn];omega)
    injection hv3 with hv3 hv4 hv5
    injection hv3 with hv3
    injection hv3 with hv3 _ _
    subst hv3 hv5;clear hv4;have hS3:=hS3 48;rw [show (((48:UInt8).toNat:Nat):Int)=48 from rfl] at hS3
    rw [e5.out] at hS3;have hFn:Fr [] w ((w'.setCell ⟨g2,i,none⟩ (.int .u8 46)).setCell ⟨g2,i+1,none⟩ (.int .u8 48)):=(((hF.trans hWA).grown hg (by intro k hk;right;replace hk:some g=some k:=hk;injection hk with hk;omega)).setCell (.inr hB2) _).setCell (.inr hB2) _
    replace hFn:=Hz hFn;replace hS3:=Hz hS3;have hz4:w'.frozen? ⟨g2,i+1,none⟩=false:=(World.frozen?_setCell _ _ _ _).symm.trans hz3;clear hS2 hS46 hr' hrT;go_wp2
    go_meet
    exact ⟨hS3.out,hFn.out⟩
 case rest=>
 obtain ⟨hr,hF⟩:=hcut;obtain ⟨aF,nF,cF,rfl⟩:=hr.shape;have hnF:=row_len hr;subst hnF;have h0:=h.kept hF;have G0:=h.gr0 hF;obtain ⟨F,hFF⟩: ∃F,F=fltB b:=⟨_,rfl⟩;rw [←hFF] at hr hlen ⊢;replace hFF:=Hz hFF;clear hTl hlT hfT hpne hpl hfl hcap hTl0 KD1 KD2 hrd;have hk:Hid (∀W,Fr [] wc W→(convert 59 9 (.slice aF F.length cF)).run Tryz.prog W= .ok (.string ⟨F.toArray⟩) W):=Hz (fun W f=>row_str (hr.fr f (by simp)))
 have hF1:Fr [] wc wc.drew:=(Fr.refl [] wc).drew;have hlen1:bs.length+F.length≤room:=by rw [List.length_append] at hlen;omega
 have h1:=h0.kept hF1;have k2:=h0.i2;have hk1:=hk.out _ hF1;replace hr:=Hz hr;go_upto_region 54 with fail
 go_cut [] (fun wx=>St X off (bs++F) wx∧Gr X.B [X.d,X.wb] w wx)
 case first=>as_aux_lemma=>
  go_wp2
  go_region_with (go_at_call 104;refine (writeString h1.buf h1.lw h1.hB F hlen1).mono ?_;rintro e wB ⟨⟨uB,rfl⟩,hbB,hgB⟩;have hB:=Hz (h1.wrote hgB hbB);replace hgB:=Hz hgB)
  all_goals (go_wp2_with fail;go_meet;exact ⟨hB.out,(G0.trans (h0.gr0 hF1)).trans (St.grW hgB.out)⟩)
 case rest=>
 obtain ⟨hB,GB⟩:=hcut;rw [hFF.out] at hB;have hlen2:X.M.pr=true→(bs++fltB b).length+2≤room:=fun e=>by
  rw [hFF.out] at hlen;simp [precT,e] at hlen ⊢;omega
 have k0:=hB.i0;have k2:=hB.i2;have k5:wc.cell? ⟨X.dg,5,none⟩=some (.bool X.M.pr):=cell_blk hB.dg 5;clear hlen hlen1;cases hpr:X.M.pr with
 |false=>
  rw [hpr] at k5;go_wp2;go_ret
  exact ⟨.nilIface,_,rfl,rfl,fun _=>rfl,by simpa [txt,precT,hpr] using hB,GB⟩
 |true=>
  rw [hpr] at k5;have hlen2:=hlen2 hpr;rcases h25 with e25|e25|e25
  ·have hp:precT X.M.pr ai=[95,49]:=by rw [hpr];unfold precT;rw [if_pos rfl,if_pos (by omega)]
   rw [e25];go_wp2_with (go_at_call 104;refine (writeString hB.buf hB.lw hB.hB [95,49] hlen2).mono ?_;rintro e wC ⟨⟨uC,rfl⟩,hbC,hgC⟩)
   go_ret
   exact ⟨.nilIface,_,rfl,rfl,fun _=>rfl,by rw [hp,txt,←List.append_assoc];exact hB.wrote hgC hbC,GB.trans (St.grW hgC)⟩
  ·have hp:precT X.M.pr ai=[95,50]:=by rw [hpr];unfold precT;rw [if_pos rfl,if_neg (by omega),if_pos (by omega)]
   rw [e25];go_wp2_with (go_at_call 104;refine (writeString hB.buf hB.lw hB.hB [95,50] hlen2).mono ?_;rintro e wC ⟨⟨uC,rfl⟩,hbC,hgC⟩)
   go_ret
   exact ⟨.nilIface,_,rfl,rfl,fun _=>rfl,by rw [hp,txt,←List.append_assoc];exact hB.wrote hgC hbC,GB.trans (St.grW hgC)⟩
  ·have hp:precT X.M.pr ai=[95,51]:=by rw [hpr];unfold precT;rw [if_pos rfl,if_neg (by omega),if_neg (by omega)]
   rw [e25];go_wp2_with (go_at_call 104;refine (writeString hB.buf hB.lw hB.hB [95,51] hlen2).mono ?_;rintro e wC ⟨⟨uC,rfl⟩,hbC,hgC⟩)
   go_ret
   exact ⟨.nilIface,_,rfl,rfl,fun _=>rfl,by rw [hp,txt,←List.append_assoc];exact hB.wrote hgC hbC,GB.trans (St.grW hgC)⟩
end
end
end Go.Proofs.YteodinhkhhaafaaGreatDoor
