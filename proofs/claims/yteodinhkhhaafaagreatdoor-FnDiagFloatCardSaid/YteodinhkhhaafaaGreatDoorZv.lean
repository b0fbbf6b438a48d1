/- FnDiagFloat, its row and its card: for all bits, sizes and both settings of the precision the law returns true: the text of a float denotes exactly its value, and its size where that is asked for. -/
import Derived.Test.YteodinhkhhaafaaGreatDoorFbu
import Derived.Test.YteodinhkhhaafaaGreatDoorCards
import Derived.Test.YteodinhkhhaafaaGreatDoorTie
set_option linter.unusedVariables false
set_option linter.unusedSimpArgs false
set_option maxRecDepth 100000
set_option maxHeartbeats 6400000
namespace Go.Proofs.YteodinhkhhaafaaGreatDoor
section
open Go.RowKit
theorem ins68 (w:World) (es:Array MapEntry) (c:Nat) (k:Int) (v:Value) (hn:Instr.findNow (.int .i64) (.int .i64 k) es.toList 0=some none):
  (Instr.mapUpdate 68 (.map (some w.heap.size)) (.int .i64 k) v).run Tryz.prog (w.alloc (.map es c))= .ok () (w.alloc (.map (es.push {key:= .int .i64 k,val:=v,born:=c}) (c+1))):=by
 have hb:(w.alloc (.map es c)).heap[w.heap.size]? =some (.map es c):=blk_new w _;have hc:(Instr.checkKey false 10000 3 (.int .i64 k)).run Tryz.prog (w.alloc (.map es c))= .ok () (w.alloc (.map es c)):=MapKept.run_checkKey Tryz.underlying3 (by simp [MapKept.IsKey]) false 9999
 simp [Instr.mapUpdate,run_underlying Tryz.underlying68,MapKept.run_getObj_map hb,hc,MapKept.run_findKey Tryz.underlying3 hn,MapKept.run_setObj_map _ hb,Result.andThen]
 show ({w with heap:=(w.heap.push (.map es c)).setIfInBounds w.heap.size _}:World)=_
 rw [push_set]
 rfl
def sufMap:Array MapEntry:= #[{key:= .int .i64 2,val:= .string ⟨#[95,49]⟩,born:=0},{key:= .int .i64 4,val:= .string ⟨#[95,50]⟩,born:=1},{key:= .int .i64 8,val:= .string ⟨#[95,51]⟩,born:=2}]
theorem look68 (w:World) (k:Int) (i:Nat) (v:Value) (hn:Instr.findNow (.int .i64) (.int .i64 k) sufMap.toList 0=some (some (i,v))):
  (Instr.lookup 68 (.map (some w.heap.size)) (.int .i64 k) false).run Tryz.prog (w.alloc (.map sufMap 3))= .ok v (w.alloc (.map sufMap 3)):=by
 have hb:(w.alloc (.map sufMap 3)).heap[w.heap.size]? =some (.map sufMap 3):=blk_new w _;have hc: ∀b,(Instr.checkKey b 10000 3 (.int .i64 k)).run Tryz.prog (w.alloc (.map sufMap 3))= .ok () (w.alloc (.map sufMap 3)):=fun b=>MapKept.run_checkKey Tryz.underlying3 (by simp [MapKept.IsKey]) b 9999
 simp [Instr.lookup,run_underlying Tryz.underlying68,MapKept.run_getObj_map hb,hc,MapKept.run_findKey Tryz.underlying3 hn,Result.andThen]
theorem nan_no {B:Nat} (hf:B/4503599627370496%2048≠2047):decide (18437736874454810624<B*2%18446744073709551616)=false∧decide (B*2%18446744073709551616=18437736874454810624)=false:=by
 rw [decide_eq_false_iff_not,decide_eq_false_iff_not];omega
theorem rounds_T {B:Nat} {T:List UInt8} (hB:B<18446744073709551616) (h:KindT B T []):0<T.length∧T.length≤4000∧ ∀w,Calls Tryz.prog 45 #[.string ⟨T.toArray⟩,.int .u64 (B:Int)] w fun e w'=>e= .returned (.bool true)∧Fr [] w w':=by
 rcases h with ⟨h1,rfl⟩|⟨h1,rfl⟩|⟨h1,h2,rfl⟩|⟨h1,h2,rfl⟩
 ·obtain ⟨a,b⟩:=fltB_ne B h1;rw [List.append_nil];exact ⟨List.length_pos_iff.2 a,by omega,fun w=>roundsF hB h1 w⟩
 ·exact ⟨by decide,by decide,fun w=>roundsNan hB h1 w⟩
 ·exact ⟨by decide,by decide,fun w=>roundsInf hB h1 h2 w⟩
 ·exact ⟨by decide,by decide,fun w=>roundsNinf hB h1 h2 w⟩
theorem flt_diag (pr:Bool) (ai v:Nat) (ha:ai=25∨ai=26∨ai=27) (hv:v<256^2^(ai-24)) (w:World) (hu:U8 w):
  Calls Tryz.prog 26 #[.string ⟨(fltH ai v).toArray⟩,.agg #[.int .i64 0,.bool false,.bool false,.bool false,.bool false,.bool pr,.int .i64 0,.int .i64 0,.int .i64 0]] w fun e w'=>e= .returned (.tuple #[.string ⟨(fT pr ai v).toArray⟩,.int .i64 0])∧Fr [] w w':=by
 have hl:=fltH_len ai v ha;have hd:diagR L0 ⟨0,false,false,false,false,pr⟩ false (fltH ai v)=txt (fT pr ai v):=by
  rw [diagR_enc false (cod_flt ai v ha hv) (by omega) (by simp [Tr.lev])]
  show primT (fT pr) ai v=_
  unfold primT;rcases ha with rfl|rfl|rfl<;>rfl
 exact diag_of (e:=0) (by omega) (by omega) hd w hu
theorem float_0 {w:World} (b:Nat) (hb:b<18446744073709551616) (a:Int) (pr:Bool) (hu:U8 w) (hk2:wrap64 ((IntKind.u64.wrap a).tmod 3)=0):
  Calls Tryz.prog 9 #[.int .u64 (b:Int),.int .i64 a,.bool pr] w fun e w'=>e= .returned (.bool true)∧Fr [] w w':=by
 obtain ⟨v,hv,hvb⟩: ∃v,v<65536∧b%65536=v:=⟨b%65536,Nat.mod_lt _ (by decide),rfl⟩
 have g1:IntKind.u16.wrap (b:Int)=(v:Int):=by
  show (b:Int)%65536=_
  omega
 have KF:=Hz (fun w=>fromHalf v hv w)
 have hkind:=flt_kind25 pr v hv;have KS:=fun w=>sized16 v hv w
 rw [show wide 25 v=widen v 5 10 from rfl] at hkind
 obtain ⟨hB,hkd⟩:=hkind;have KD:=fun W (hf:Fr [] w W)=>flt_diag pr 25 v (.inl rfl) (by simpa using hv) W (hu.fr hf (by simp))
 have hhl:=fltH_len 25 v (.inl rfl);obtain ⟨H,hH⟩: ∃H,fltH 25 v=H:=⟨_,rfl⟩;rw [hH] at KS KD;clear hH hhl;obtain ⟨B,hBe⟩: ∃B,widen v 5 10=B:=⟨_,rfl⟩;rw [hBe] at KF KS hkd hB;clear hBe;obtain ⟨T,hT⟩: ∃T,fT pr 25 v=T:=⟨_,rfl⟩;rw [hT] at KD hkd;clear hT;have KZ:=Hz (fun W (hf:Fr [] w W)=>noted W (hu.fr hf (by simp)))
 have KA:=Hz (fun w=>nanW B hB w)
 have KI:=Hz (fun w=>infW B hB w)
 have KN:=Hz (fun w=>newC (w:=w) (ao:=none) (n:=0) (c:=0) (.inl rfl) (by decide))
 have KC:=Hz (fun w cb (hc:Ch w cb)=>coded_flt (w:=w) (cb:=cb) (ao:=none) (nk:=0) (c:=0) B 2 H KS hc)
 have hbb: ∀x:ByteArray,(x==x)=true:=ba_self;replace KD:=Hz KD;replace hkd:=Hz hkd;clear KS;have hc0:(w.alloc (.cells #[.int .i64 2,.int .i64 4,.int .i64 8] 3)).cell? ⟨w.heap.size,0,none⟩=some (.int .i64 2):=cell_blk (blk_new w _) 0;have FRA:Hid (Fr [] w (w.alloc (.cells #[.int .i64 2,.int .i64 4,.int .i64 8] 3))):=Hz ((Fr.refl _ _).alloc _);go_enter Tryz.func9,Tryz.ntmps9
 go_wp2_with fail
 refine (KF.out _).mono ?_
 rintro e w1 ⟨rfl,hf1⟩;have HFX:Fr [] w w1:=FRA.out.trans hf1;clear hf1;go_wp2_with fail
 refine (KN.out _).mono ?_
 rintro e w2 ⟨rfl,hc2,hf2⟩;go_wp2_with fail
 refine (KC.out _ _ hc2).mono ?_
 rintro e w3 ⟨rfl,_,hf3⟩;have hF3:Fr [] w w3:=(HFX.trans hf2).then_ hf3 (by have:=HFX.size;simp at this ⊢;omega)
 clear hc0 hc2 hf2 hf3;go_wp2_with fail
 refine (KD.out _ hF3).mono ?_
 rintro e w4 ⟨rfl,hf4⟩;have hF4:=hF3.trans hf4;clear hf4 hF3 HFX FRA;cases pr with
 |false=>
  obtain ⟨r1,r2,KR⟩:=rounds_T hB (show KindT B T [] from hkd.out)
  replace KR:=Hz KR;have e1:=str_drop T T.length (Nat.le_refl _);have e2:=str_take T T.length (Nat.le_refl _);rw [List.drop_length] at e1;rw [List.take_length] at e2;have q2:(⟨T.toArray⟩:ByteArray).size=T.length:=by simp [ByteArray.size]
  obtain ⟨n,hn⟩: ∃n,T.length=n:=⟨_,rfl⟩;rw [hn] at e1 e2 q2 r1 r2;have g1:IntKind.i64.wrap (n:Int)=(n:Int):=IntWalk.i64_in _ (by omega)
  have g2:(0:Int)<(n:Int):=by omega
  have g3:(0:Int)≤(n:Int):=by omega
  have hbe:=hbb ⟨([]:List UInt8).toArray⟩;clear hbb;go_wp2_with fail
  refine (KR.out _).mono ?_
  rintro e w5 ⟨rfl,hf5⟩;go_wp2;go_ret
  exact ⟨rfl,hF4.trans hf5⟩
 |true=>
  replace hkd:Hid (KindT B T [95,49]):=Hz hkd.out;have hmm:= @run_makeMap Tryz.prog;have i0:(Instr.mapUpdate 68 (.map (some w4.heap.size)) (.int .i64 2) (.string ⟨#[95,49]⟩)).run Tryz.prog (w4.alloc (.map #[] 0))= .ok () (w4.alloc (.map #[{key:= .int .i64 2,val:= .string ⟨#[95,49]⟩,born:=0}] 1)):=ins68 w4 #[] 0 2 _ rfl;have i1:(Instr.mapUpdate 68 (.map (some w4.heap.size)) (.int .i64 4) (.string ⟨#[95,50]⟩)).run Tryz.prog (w4.alloc (.map #[{key:= .int .i64 2,val:= .string ⟨#[95,49]⟩,born:=0}] 1))= .ok () (w4.alloc (.map #[{key:= .int .i64 2,val:= .string ⟨#[95,49]⟩,born:=0},{key:= .int .i64 4,val:= .string ⟨#[95,50]⟩,born:=1}] 2)):=ins68 w4 #[{key:= .int .i64 2,val:= .string ⟨#[95,49]⟩,born:=0}] 1 4 _ rfl;have i2:(Instr.mapUpdate 68 (.map (some w4.heap.size)) (.int .i64 8) (.string ⟨#[95,51]⟩)).run Tryz.prog (w4.alloc (.map #[{key:= .int .i64 2,val:= .string ⟨#[95,49]⟩,born:=0},{key:= .int .i64 4,val:= .string ⟨#[95,50]⟩,born:=1}] 2))= .ok () (w4.alloc (.map #[{key:= .int .i64 2,val:= .string ⟨#[95,49]⟩,born:=0},{key:= .int .i64 4,val:= .string ⟨#[95,50]⟩,born:=1},{key:= .int .i64 8,val:= .string ⟨#[95,51]⟩,born:=2}] 3)):=ins68 w4 #[{key:= .int .i64 2,val:= .string ⟨#[95,49]⟩,born:=0},{key:= .int .i64 4,val:= .string ⟨#[95,50]⟩,born:=1}] 2 8 _ rfl;have i3:(Instr.lookup 68 (.map (some w4.heap.size)) (.int .i64 2) false).run Tryz.prog (w4.alloc (.map #[{key:= .int .i64 2,val:= .string ⟨#[95,49]⟩,born:=0},{key:= .int .i64 4,val:= .string ⟨#[95,50]⟩,born:=1},{key:= .int .i64 8,val:= .string ⟨#[95,51]⟩,born:=2}] 3))= .ok (.string ⟨#[95,49]⟩) (w4.alloc (.map #[{key:= .int .i64 2,val:= .string ⟨#[95,49]⟩,born:=0},{key:= .int .i64 4,val:= .string ⟨#[95,50]⟩,born:=1},{key:= .int .i64 8,val:= .string ⟨#[95,51]⟩,born:=2}] 3)):=look68 w4 2 0 _ rfl;have hF5:Hid (Fr [] w (w4.alloc (.map #[{key:= .int .i64 2,val:= .string ⟨#[95,49]⟩,born:=0},{key:= .int .i64 4,val:= .string ⟨#[95,50]⟩,born:=1},{key:= .int .i64 8,val:= .string ⟨#[95,51]⟩,born:=2}] 3))):=Hz (hF4.alloc _);rcases hkd.out with ⟨k1,k2⟩|⟨k1,k2⟩|⟨k1,k2,k3⟩|⟨k1,k2,k3⟩
  ·obtain ⟨a1,a2⟩:=nan_no k1;obtain ⟨s1,s2⟩:=fltB_ne B k1;rw [a1] at KA;rw [a2] at KI;have KR:=Hz (fun w=>roundsF hB k1 w)
   obtain ⟨F,hF⟩: ∃F,fltB B=F:=⟨_,rfl⟩;rw [hF] at k2 s1 s2 KR;have r1:0<F.length:=List.length_pos_iff.2 s1;have hTl:T.length=F.length+2:=by rw [k2];simp
   have e1:=str_drop T F.length (by omega)
   have e2:=str_take T F.length (by omega)
   rw [k2,List.drop_left,←k2,hTl] at e1;rw [k2,List.take_left,←k2] at e2;have q2:(⟨T.toArray⟩:ByteArray).size=F.length+2:=by simp [ByteArray.size,hTl]
   obtain ⟨n,hn⟩: ∃n,F.length=n:=⟨_,rfl⟩;rw [hn] at e1 e2 q2 r1 s2 hTl;have g1:IntKind.i64.wrap (n:Int)=(n:Int):=IntWalk.i64_in _ (by omega)
   have g2:(0:Int)<(n:Int):=by omega
   have g3:(0:Int)≤(n:Int):=by omega
   have g4:(n:Int)≤(n:Int)+2:=by omega
   have g5:IntKind.i64.wrap ((n:Int)+2-2)=(n:Int):=by rw [show (n:Int)+2-2=(n:Int) by omega];exact g1
   have hbe:=hbb ⟨([95,49]:List UInt8).toArray⟩;clear hbb k2 s1 a1 a2 hF hkd;go_wp2_with fail
   refine (KA.out _).mono ?_
   rintro e w6 ⟨rfl,hf6⟩;go_wp2_with fail
   refine (KI.out _).mono ?_
   rintro e w7 ⟨rfl,hf7⟩;clear i0 i1 i2 i3 hmm;go_wp2_with fail
   refine (KR.out _).mono ?_
   rintro e w8 ⟨rfl,hf8⟩;go_wp2;go_ret
   exact ⟨rfl,((hF5.out.trans hf6).trans hf7).trans hf8⟩
  ·rw [decide_eq_true k1] at KA;clear k2 hkd;go_wp2_with fail
   refine (KA.out _).mono ?_
   rintro e w6 ⟨rfl,hf6⟩;go_wp2_with fail
   refine (KZ.out _ (hF5.out.trans hf6)).mono ?_
   rintro e w7 ⟨rfl,hf7⟩;go_wp2;go_ret
   exact ⟨rfl,(hF5.out.trans hf6).trans hf7⟩
  ·rw [show decide (18437736874454810624<B*2%18446744073709551616)=false by rw [decide_eq_false_iff_not];omega] at KA
   rw [decide_eq_true k1] at KI;clear k2 k3 hkd;go_wp2_with fail
   refine (KA.out _).mono ?_
   rintro e w6 ⟨rfl,hf6⟩;go_wp2_with fail
   refine (KI.out _).mono ?_
   rintro e w7 ⟨rfl,hf7⟩;go_wp2_with fail
   refine (KZ.out _ ((hF5.out.trans hf6).trans hf7)).mono ?_
   rintro e w8 ⟨rfl,hf8⟩;go_wp2;go_ret
   exact ⟨rfl,((hF5.out.trans hf6).trans hf7).trans hf8⟩
  ·rw [show decide (18437736874454810624<B*2%18446744073709551616)=false by rw [decide_eq_false_iff_not];omega] at KA
   rw [decide_eq_true k1] at KI;clear k2 k3 hkd;go_wp2_with fail
   refine (KA.out _).mono ?_
   rintro e w6 ⟨rfl,hf6⟩;go_wp2_with fail
   refine (KI.out _).mono ?_
   rintro e w7 ⟨rfl,hf7⟩;go_wp2_with fail
   refine (KZ.out _ ((hF5.out.trans hf6).trans hf7)).mono ?_
   rintro e w8 ⟨rfl,hf8⟩;go_wp2;go_ret
   exact ⟨rfl,((hF5.out.trans hf6).trans hf7).trans hf8⟩
theorem float_1 {w:World} (b:Nat) (hb:b<18446744073709551616) (a:Int) (pr:Bool) (hu:U8 w) (hk2:wrap64 ((IntKind.u64.wrap a).tmod 3)=1):
  Calls Tryz.prog 9 #[.int .u64 (b:Int),.int .i64 a,.bool pr] w fun e w'=>e= .returned (.bool true)∧Fr [] w w':=by
 obtain ⟨v,hv,hvb⟩: ∃v,v<4294967296∧b%4294967296=v:=⟨b%4294967296,Nat.mod_lt _ (by decide),rfl⟩
 have g1:IntKind.u32.wrap (b:Int)=(v:Int):=by
  show (b:Int)%4294967296=_
  omega
 have KF:=Hz (fun w=>fromSingle v hv w)
 have hkind:=flt_kind26 pr v hv;have KS:=fun w=>sized32 v hv w
 rw [show wide 26 v=widen v 8 23 from rfl] at hkind
 obtain ⟨hB,hkd⟩:=hkind;have KD:=fun W (hf:Fr [] w W)=>flt_diag pr 26 v (.inr (.inl rfl)) (by simpa using hv) W (hu.fr hf (by simp))
 have hhl:=fltH_len 26 v (.inr (.inl rfl));obtain ⟨H,hH⟩: ∃H,fltH 26 v=H:=⟨_,rfl⟩;rw [hH] at KS KD;clear hH hhl;obtain ⟨B,hBe⟩: ∃B,widen v 8 23=B:=⟨_,rfl⟩;rw [hBe] at KF KS hkd hB;clear hBe;obtain ⟨T,hT⟩: ∃T,fT pr 26 v=T:=⟨_,rfl⟩;rw [hT] at KD hkd;clear hT;have KZ:=Hz (fun W (hf:Fr [] w W)=>noted W (hu.fr hf (by simp)))
 have KA:=Hz (fun w=>nanW B hB w)
 have KI:=Hz (fun w=>infW B hB w)
 have KN:=Hz (fun w=>newC (w:=w) (ao:=none) (n:=0) (c:=0) (.inl rfl) (by decide))
 have KC:=Hz (fun w cb (hc:Ch w cb)=>coded_flt (w:=w) (cb:=cb) (ao:=none) (nk:=0) (c:=0) B 4 H KS hc)
 have hbb: ∀x:ByteArray,(x==x)=true:=ba_self;replace KD:=Hz KD;replace hkd:=Hz hkd;clear KS;have hc0:(w.alloc (.cells #[.int .i64 2,.int .i64 4,.int .i64 8] 3)).cell? ⟨w.heap.size,1,none⟩=some (.int .i64 4):=cell_blk (blk_new w _) 1;have FRA:Hid (Fr [] w (w.alloc (.cells #[.int .i64 2,.int .i64 4,.int .i64 8] 3))):=Hz ((Fr.refl _ _).alloc _);go_enter Tryz.func9,Tryz.ntmps9
 go_wp2_with fail
 refine (KF.out _).mono ?_
 rintro e w1 ⟨rfl,hf1⟩;have HFX:Fr [] w w1:=FRA.out.trans hf1;clear hf1;go_wp2_with fail
 refine (KN.out _).mono ?_
 rintro e w2 ⟨rfl,hc2,hf2⟩;go_wp2_with fail
 refine (KC.out _ _ hc2).mono ?_
 rintro e w3 ⟨rfl,_,hf3⟩;have hF3:Fr [] w w3:=(HFX.trans hf2).then_ hf3 (by have:=HFX.size;simp at this ⊢;omega)
 clear hc0 hc2 hf2 hf3;go_wp2_with fail
 refine (KD.out _ hF3).mono ?_
 rintro e w4 ⟨rfl,hf4⟩;have hF4:=hF3.trans hf4;clear hf4 hF3 HFX FRA;cases pr with
 |false=>
  obtain ⟨r1,r2,KR⟩:=rounds_T hB (show KindT B T [] from hkd.out)
  replace KR:=Hz KR;have e1:=str_drop T T.length (Nat.le_refl _);have e2:=str_take T T.length (Nat.le_refl _);rw [List.drop_length] at e1;rw [List.take_length] at e2;have q2:(⟨T.toArray⟩:ByteArray).size=T.length:=by simp [ByteArray.size]
  obtain ⟨n,hn⟩: ∃n,T.length=n:=⟨_,rfl⟩;rw [hn] at e1 e2 q2 r1 r2;have g1:IntKind.i64.wrap (n:Int)=(n:Int):=IntWalk.i64_in _ (by omega)
  have g2:(0:Int)<(n:Int):=by omega
  have g3:(0:Int)≤(n:Int):=by omega
  have hbe:=hbb ⟨([]:List UInt8).toArray⟩;clear hbb;go_wp2_with fail
  refine (KR.out _).mono ?_
  rintro e w5 ⟨rfl,hf5⟩;go_wp2;go_ret
  exact ⟨rfl,hF4.trans hf5⟩
 |true=>
  replace hkd:Hid (KindT B T [95,50]):=Hz hkd.out;have hmm:= @run_makeMap Tryz.prog;have i0:(Instr.mapUpdate 68 (.map (some w4.heap.size)) (.int .i64 2) (.string ⟨#[95,49]⟩)).run Tryz.prog (w4.alloc (.map #[] 0))= .ok () (w4.alloc (.map #[{key:= .int .i64 2,val:= .string ⟨#[95,49]⟩,born:=0}] 1)):=ins68 w4 #[] 0 2 _ rfl;have i1:(Instr.mapUpdate 68 (.map (some w4.heap.size)) (.int .i64 4) (.string ⟨#[95,50]⟩)).run Tryz.prog (w4.alloc (.map #[{key:= .int .i64 2,val:= .string ⟨#[95,49]⟩,born:=0}] 1))= .ok () (w4.alloc (.map #[{key:= .int .i64 2,val:= .string ⟨#[95,49]⟩,born:=0},{key:= .int .i64 4,val:= .string ⟨#[95,50]⟩,born:=1}] 2)):=ins68 w4 #[{key:= .int .i64 2,val:= .string ⟨#[95,49]⟩,born:=0}] 1 4 _ rfl;have i2:(Instr.mapUpdate 68 (.map (some w4.heap.size)) (.int .i64 8) (.string ⟨#[95,51]⟩)).run Tryz.prog (w4.alloc (.map #[{key:= .int .i64 2,val:= .string ⟨#[95,49]⟩,born:=0},{key:= .int .i64 4,val:= .string ⟨#[95,50]⟩,born:=1}] 2))= .ok () (w4.alloc (.map #[{key:= .int .i64 2,val:= .string ⟨#[95,49]⟩,born:=0},{key:= .int .i64 4,val:= .string ⟨#[95,50]⟩,born:=1},{key:= .int .i64 8,val:= .string ⟨#[95,51]⟩,born:=2}] 3)):=ins68 w4 #[{key:= .int .i64 2,val:= .string ⟨#[95,49]⟩,born:=0},{key:= .int .i64 4,val:= .string ⟨#[95,50]⟩,born:=1}] 2 8 _ rfl;have i3:(Instr.lookup 68 (.map (some w4.heap.size)) (.int .i64 4) false).run Tryz.prog (w4.alloc (.map #[{key:= .int .i64 2,val:= .string ⟨#[95,49]⟩,born:=0},{key:= .int .i64 4,val:= .string ⟨#[95,50]⟩,born:=1},{key:= .int .i64 8,val:= .string ⟨#[95,51]⟩,born:=2}] 3))= .ok (.string ⟨#[95,50]⟩) (w4.alloc (.map #[{key:= .int .i64 2,val:= .string ⟨#[95,49]⟩,born:=0},{key:= .int .i64 4,val:= .string ⟨#[95,50]⟩,born:=1},{key:= .int .i64 8,val:= .string ⟨#[95,51]⟩,born:=2}] 3)):=look68 w4 4 1 _ rfl;have hF5:Hid (Fr [] w (w4.alloc (.map #[{key:= .int .i64 2,val:= .string ⟨#[95,49]⟩,born:=0},{key:= .int .i64 4,val:= .string ⟨#[95,50]⟩,born:=1},{key:= .int .i64 8,val:= .string ⟨#[95,51]⟩,born:=2}] 3))):=Hz (hF4.alloc _);rcases hkd.out with ⟨k1,k2⟩|⟨k1,k2⟩|⟨k1,k2,k3⟩|⟨k1,k2,k3⟩
  ·obtain ⟨a1,a2⟩:=nan_no k1;obtain ⟨s1,s2⟩:=fltB_ne B k1;rw [a1] at KA;rw [a2] at KI;have KR:=Hz (fun w=>roundsF hB k1 w)
   obtain ⟨F,hF⟩: ∃F,fltB B=F:=⟨_,rfl⟩;rw [hF] at k2 s1 s2 KR;have r1:0<F.length:=List.length_pos_iff.2 s1;have hTl:T.length=F.length+2:=by rw [k2];simp
   have e1:=str_drop T F.length (by omega)
   have e2:=str_take T F.length (by omega)
   rw [k2,List.drop_left,←k2,hTl] at e1;rw [k2,List.take_left,←k2] at e2;have q2:(⟨T.toArray⟩:ByteArray).size=F.length+2:=by simp [ByteArray.size,hTl]
   obtain ⟨n,hn⟩: ∃n,F.length=n:=⟨_,rfl⟩;rw [hn] at e1 e2 q2 r1 s2 hTl;have g1:IntKind.i64.wrap (n:Int)=(n:Int):=IntWalk.i64_in _ (by omega)
   have g2:(0:Int)<(n:Int):=by omega
   have g3:(0:Int)≤(n:Int):=by omega
   have g4:(n:Int)≤(n:Int)+2:=by omega
   have g5:IntKind.i64.wrap ((n:Int)+2-2)=(n:Int):=by rw [show (n:Int)+2-2=(n:Int) by omega];exact g1
   have hbe:=hbb ⟨([95,50]:List UInt8).toArray⟩;clear hbb k2 s1 a1 a2 hF hkd;go_wp2_with fail
   refine (KA.out _).mono ?_
   rintro e w6 ⟨rfl,hf6⟩;go_wp2_with fail
   refine (KI.out _).mono ?_
   rintro e w7 ⟨rfl,hf7⟩;clear i0 i1 i2 i3 hmm;go_wp2_with fail
   refine (KR.out _).mono ?_
   rintro e w8 ⟨rfl,hf8⟩;go_wp2;go_ret
   exact ⟨rfl,((hF5.out.trans hf6).trans hf7).trans hf8⟩
  ·rw [decide_eq_true k1] at KA;clear k2 hkd;go_wp2_with fail
   refine (KA.out _).mono ?_
   rintro e w6 ⟨rfl,hf6⟩;go_wp2_with fail
   refine (KZ.out _ (hF5.out.trans hf6)).mono ?_
   rintro e w7 ⟨rfl,hf7⟩;go_wp2;go_ret
   exact ⟨rfl,(hF5.out.trans hf6).trans hf7⟩
  ·rw [show decide (18437736874454810624<B*2%18446744073709551616)=false by rw [decide_eq_false_iff_not];omega] at KA
   rw [decide_eq_true k1] at KI;clear k2 k3 hkd;go_wp2_with fail
   refine (KA.out _).mono ?_
   rintro e w6 ⟨rfl,hf6⟩;go_wp2_with fail
   refine (KI.out _).mono ?_
   rintro e w7 ⟨rfl,hf7⟩;go_wp2_with fail
   refine (KZ.out _ ((hF5.out.trans hf6).trans hf7)).mono ?_
   rintro e w8 ⟨rfl,hf8⟩;go_wp2;go_ret
   exact ⟨rfl,((hF5.out.trans hf6).trans hf7).trans hf8⟩
  ·rw [show decide (18437736874454810624<B*2%18446744073709551616)=false by rw [decide_eq_false_iff_not];omega] at KA
   rw [decide_eq_true k1] at KI;clear k2 k3 hkd;go_wp2_with fail
   refine (KA.out _).mono ?_
   rintro e w6 ⟨rfl,hf6⟩;go_wp2_with fail
   refine (KI.out _).mono ?_
   rintro e w7 ⟨rfl,hf7⟩;go_wp2_with fail
   refine (KZ.out _ ((hF5.out.trans hf6).trans hf7)).mono ?_
   rintro e w8 ⟨rfl,hf8⟩;go_wp2;go_ret
   exact ⟨rfl,((hF5.out.trans hf6).trans hf7).trans hf8⟩
theorem float_2 {w:World} (b:Nat) (hb:b<18446744073709551616) (a:Int) (pr:Bool) (hu:U8 w) (hk2:wrap64 ((IntKind.u64.wrap a).tmod 3)=2):
  Calls Tryz.prog 9 #[.int .u64 (b:Int),.int .i64 a,.bool pr] w fun e w'=>e= .returned (.bool true)∧Fr [] w w':=by
 have hv:=hb;have hkind:=flt_kind27 pr b hv;have KS:=fun w=>sized64 b hv w
 rw [show wide 27 b=b from rfl] at hkind
 obtain ⟨hB,hkd⟩:=hkind;have KD:=fun W (hf:Fr [] w W)=>flt_diag pr 27 b (.inr (.inr rfl)) (by simpa using hv) W (hu.fr hf (by simp))
 have hhl:=fltH_len 27 b (.inr (.inr rfl));obtain ⟨H,hH⟩: ∃H,fltH 27 b=H:=⟨_,rfl⟩;rw [hH] at KS KD;clear hH hhl;obtain ⟨T,hT⟩: ∃T,fT pr 27 b=T:=⟨_,rfl⟩;rw [hT] at KD hkd;clear hT;have KZ:=Hz (fun W (hf:Fr [] w W)=>noted W (hu.fr hf (by simp)))
 have KA:=Hz (fun w=>nanW b hB w)
 have KI:=Hz (fun w=>infW b hB w)
 have KN:=Hz (fun w=>newC (w:=w) (ao:=none) (n:=0) (c:=0) (.inl rfl) (by decide))
 have KC:=Hz (fun w cb (hc:Ch w cb)=>coded_flt (w:=w) (cb:=cb) (ao:=none) (nk:=0) (c:=0) b 8 H KS hc)
 have hbb: ∀x:ByteArray,(x==x)=true:=ba_self;replace KD:=Hz KD;replace hkd:=Hz hkd;clear KS;have hc0:(w.alloc (.cells #[.int .i64 2,.int .i64 4,.int .i64 8] 3)).cell? ⟨w.heap.size,2,none⟩=some (.int .i64 8):=cell_blk (blk_new w _) 2;have FRA:Hid (Fr [] w (w.alloc (.cells #[.int .i64 2,.int .i64 4,.int .i64 8] 3))):=Hz ((Fr.refl _ _).alloc _);go_enter Tryz.func9,Tryz.ntmps9
 have HFX:=FRA.out;go_wp2_with fail
 refine (KN.out _).mono ?_
 rintro e w2 ⟨rfl,hc2,hf2⟩;rw [World.size_alloc] at hc2;go_wp2_with fail
 refine (KC.out _ _ hc2).mono ?_
 rintro e w3 ⟨rfl,_,hf3⟩;have hF3:Fr [] w w3:=(HFX.trans hf2).then_ hf3 (by simp)
 clear hc0 hc2 hf2 hf3;go_wp2_with fail
 refine (KD.out _ hF3).mono ?_
 rintro e w4 ⟨rfl,hf4⟩;have hF4:=hF3.trans hf4;clear hf4 hF3 HFX FRA;cases pr with
 |false=>
  obtain ⟨r1,r2,KR⟩:=rounds_T hB (show KindT b T [] from hkd.out)
  replace KR:=Hz KR;have e1:=str_drop T T.length (Nat.le_refl _);have e2:=str_take T T.length (Nat.le_refl _);rw [List.drop_length] at e1;rw [List.take_length] at e2;have q2:(⟨T.toArray⟩:ByteArray).size=T.length:=by simp [ByteArray.size]
  obtain ⟨n,hn⟩: ∃n,T.length=n:=⟨_,rfl⟩;rw [hn] at e1 e2 q2 r1 r2;have g1:IntKind.i64.wrap (n:Int)=(n:Int):=IntWalk.i64_in _ (by omega)
  have g2:(0:Int)<(n:Int):=by omega
  have g3:(0:Int)≤(n:Int):=by omega
  have hbe:=hbb ⟨([]:List UInt8).toArray⟩;clear hbb;go_wp2_with fail
  refine (KR.out _).mono ?_
  rintro e w5 ⟨rfl,hf5⟩;go_wp2;go_ret
  exact ⟨rfl,hF4.trans hf5⟩
 |true=>
  replace hkd:Hid (KindT b T [95,51]):=Hz hkd.out;have hmm:= @run_makeMap Tryz.prog;have i0:(Instr.mapUpdate 68 (.map (some w4.heap.size)) (.int .i64 2) (.string ⟨#[95,49]⟩)).run Tryz.prog (w4.alloc (.map #[] 0))= .ok () (w4.alloc (.map #[{key:= .int .i64 2,val:= .string ⟨#[95,49]⟩,born:=0}] 1)):=ins68 w4 #[] 0 2 _ rfl;have i1:(Instr.mapUpdate 68 (.map (some w4.heap.size)) (.int .i64 4) (.string ⟨#[95,50]⟩)).run Tryz.prog (w4.alloc (.map #[{key:= .int .i64 2,val:= .string ⟨#[95,49]⟩,born:=0}] 1))= .ok () (w4.alloc (.map #[{key:= .int .i64 2,val:= .string ⟨#[95,49]⟩,born:=0},{key:= .int .i64 4,val:= .string ⟨#[95,50]⟩,born:=1}] 2)):=ins68 w4 #[{key:= .int .i64 2,val:= .string ⟨#[95,49]⟩,born:=0}] 1 4 _ rfl;have i2:(Instr.mapUpdate 68 (.map (some w4.heap.size)) (.int .i64 8) (.string ⟨#[95,51]⟩)).run Tryz.prog (w4.alloc (.map #[{key:= .int .i64 2,val:= .string ⟨#[95,49]⟩,born:=0},{key:= .int .i64 4,val:= .string ⟨#[95,50]⟩,born:=1}] 2))= .ok () (w4.alloc (.map #[{key:= .int .i64 2,val:= .string ⟨#[95,49]⟩,born:=0},{key:= .int .i64 4,val:= .string ⟨#[95,50]⟩,born:=1},{key:= .int .i64 8,val:= .string ⟨#[95,51]⟩,born:=2}] 3)):=ins68 w4 #[{key:= .int .i64 2,val:= .string ⟨#[95,49]⟩,born:=0},{key:= .int .i64 4,val:= .string ⟨#[95,50]⟩,born:=1}] 2 8 _ rfl;have i3:(Instr.lookup 68 (.map (some w4.heap.size)) (.int .i64 8) false).run Tryz.prog (w4.alloc (.map #[{key:= .int .i64 2,val:= .string ⟨#[95,49]⟩,born:=0},{key:= .int .i64 4,val:= .string ⟨#[95,50]⟩,born:=1},{key:= .int .i64 8,val:= .string ⟨#[95,51]⟩,born:=2}] 3))= .ok (.string ⟨#[95,51]⟩) (w4.alloc (.map #[{key:= .int .i64 2,val:= .string ⟨#[95,49]⟩,born:=0},{key:= .int .i64 4,val:= .string ⟨#[95,50]⟩,born:=1},{key:= .int .i64 8,val:= .string ⟨#[95,51]⟩,born:=2}] 3)):=look68 w4 8 2 _ rfl;have hF5:Hid (Fr [] w (w4.alloc (.map #[{key:= .int .i64 2,val:= .string ⟨#[95,49]⟩,born:=0},{key:= .int .i64 4,val:= .string ⟨#[95,50]⟩,born:=1},{key:= .int .i64 8,val:= .string ⟨#[95,51]⟩,born:=2}] 3))):=Hz (hF4.alloc _);rcases hkd.out with ⟨k1,k2⟩|⟨k1,k2⟩|⟨k1,k2,k3⟩|⟨k1,k2,k3⟩
  ·obtain ⟨a1,a2⟩:=nan_no k1;obtain ⟨s1,s2⟩:=fltB_ne b k1;rw [a1] at KA;rw [a2] at KI;have KR:=Hz (fun w=>roundsF hB k1 w)
   obtain ⟨F,hF⟩: ∃F,fltB b=F:=⟨_,rfl⟩;rw [hF] at k2 s1 s2 KR;have r1:0<F.length:=List.length_pos_iff.2 s1;have hTl:T.length=F.length+2:=by rw [k2];simp
   have e1:=str_drop T F.length (by omega)
   have e2:=str_take T F.length (by omega)
   rw [k2,List.drop_left,←k2,hTl] at e1;rw [k2,List.take_left,←k2] at e2;have q2:(⟨T.toArray⟩:ByteArray).size=F.length+2:=by simp [ByteArray.size,hTl]
   obtain ⟨n,hn⟩: ∃n,F.length=n:=⟨_,rfl⟩;rw [hn] at e1 e2 q2 r1 s2 hTl;have g1:IntKind.i64.wrap (n:Int)=(n:Int):=IntWalk.i64_in _ (by omega)
   have g2:(0:Int)<(n:Int):=by omega
   have g3:(0:Int)≤(n:Int):=by omega
   have g4:(n:Int)≤(n:Int)+2:=by omega
   have g5:IntKind.i64.wrap ((n:Int)+2-2)=(n:Int):=by rw [show (n:Int)+2-2=(n:Int) by omega];exact g1
   have hbe:=hbb ⟨([95,51]:List UInt8).toArray⟩;clear hbb k2 s1 a1 a2 hF hkd;go_wp2_with fail
   refine (KA.out _).mono ?_
   rintro e w6 ⟨rfl,hf6⟩;go_wp2_with fail
   refine (KI.out _).mono ?_
   rintro e w7 ⟨rfl,hf7⟩;clear i0 i1 i2 i3 hmm;go_wp2_with fail
   refine (KR.out _).mono ?_
   rintro e w8 ⟨rfl,hf8⟩;go_wp2;go_ret
   exact ⟨rfl,((hF5.out.trans hf6).trans hf7).trans hf8⟩
  ·rw [decide_eq_true k1] at KA;clear k2 hkd;go_wp2_with fail
   refine (KA.out _).mono ?_
   rintro e w6 ⟨rfl,hf6⟩;go_wp2_with fail
   refine (KZ.out _ (hF5.out.trans hf6)).mono ?_
   rintro e w7 ⟨rfl,hf7⟩;go_wp2;go_ret
   exact ⟨rfl,(hF5.out.trans hf6).trans hf7⟩
  ·rw [show decide (18437736874454810624<b*2%18446744073709551616)=false by rw [decide_eq_false_iff_not];omega] at KA
   rw [decide_eq_true k1] at KI;clear k2 k3 hkd;go_wp2_with fail
   refine (KA.out _).mono ?_
   rintro e w6 ⟨rfl,hf6⟩;go_wp2_with fail
   refine (KI.out _).mono ?_
   rintro e w7 ⟨rfl,hf7⟩;go_wp2_with fail
   refine (KZ.out _ ((hF5.out.trans hf6).trans hf7)).mono ?_
   rintro e w8 ⟨rfl,hf8⟩;go_wp2;go_ret
   exact ⟨rfl,((hF5.out.trans hf6).trans hf7).trans hf8⟩
  ·rw [show decide (18437736874454810624<b*2%18446744073709551616)=false by rw [decide_eq_false_iff_not];omega] at KA
   rw [decide_eq_true k1] at KI;clear k2 k3 hkd;go_wp2_with fail
   refine (KA.out _).mono ?_
   rintro e w6 ⟨rfl,hf6⟩;go_wp2_with fail
   refine (KI.out _).mono ?_
   rintro e w7 ⟨rfl,hf7⟩;go_wp2_with fail
   refine (KZ.out _ ((hF5.out.trans hf6).trans hf7)).mono ?_
   rintro e w8 ⟨rfl,hf8⟩;go_wp2;go_ret
   exact ⟨rfl,((hF5.out.trans hf6).trans hf7).trans hf8⟩
theorem float_any {w:World} (b:Nat) (hb:b<18446744073709551616) (a:Int) (pr:Bool) (hu:U8 w):
  Calls Tryz.prog 9 #[.int .u64 (b:Int),.int .i64 a,.bool pr] w fun e w'=>e= .returned (.bool true)∧Fr [] w w':=by
 obtain ⟨k,hk,_,hk2⟩:=rem_nat a 3 (by decide) (by decide)
 have h3:k=0∨k=1∨k=2:=by omega
 rcases h3 with rfl|rfl|rfl
 ·exact float_0 b hb a pr hu hk2
 ·exact float_1 b hb a pr hu hk2
 ·exact float_2 b hb a pr hu hk2
end
section
open Go.ChangeShapes Go.WideShapes Go.RowKit
open Go.ChangeMaps (open_string)
theorem float_lifted (os:Os) (started:os.Started) (H:Type) (enc:TypeId×Value→H):
  ReturnsInHanded {} Tryz.checked os 9 .any (fun w args=>(Rows.fnDiagFloatSpec.pre enc Tryz.prog Tryz.f9 [] false w args∧laidMetH Tryz.prog laidU w)∧sizedMet enc Tryz.prog Tryz.f9 (OpenSpec.ofChange Rows.fnDiagFloatSpec) false w args)
   (Rows.fnDiagFloatSpec.post enc Tryz.prog Tryz.f9 false true false false):=by
 refine lift_row os started enc (by kernel_rfl) Tryz.func9 rfl rfl ?_ ?_
  (ChangeSpec.witness_at (enc:=enc) (C:=Tryz.checked) (os:=os) (X:=fun w _=>laidMetH Tryz.prog laidU w) false (laidWorld os) #[.int .u64 0,.int .i64 0,.bool false] 8 rfl (by kernel_rfl) (by kernel_rfl) (by kernel_rfl) (by kernel_rfl) (by kernel_rfl) (laid_met os _)) ?_
 ·intro ds h;rw [Tryz.params9] at h
  match ds,h with
  |[d1,d2,d3],_=>rfl
 ·rw [Tryz.params9];intro t ht;have ht2:t=31∨t=3∨t=4:=by simpa using ht
  rcases ht2 with rfl|rfl|rfl
  all_goals exact ⟨by kernel_rfl,of_decide_eq_true (by kernel_rfl)⟩
 ·intro W base args ds ps hval hA hu;rw [Tryz.params9] at hA hval;obtain ⟨v0,v1,v2,d0,d1,d2,p0,p1,p2,rfl,rfl,rfl,h0,h1,h2⟩:=trodAll_three hA;obtain ⟨n,rfl,_,_,hn⟩:=open_int Tryz.underlying31 (hval 0 31 v0 rfl rfl) h0;obtain ⟨m,hm,rfl⟩:=u64_nat hn;obtain ⟨a,rfl,_⟩:=open_int Tryz.underlying3 (hval 1 3 v1 rfl rfl) h1;obtain ⟨b,rfl,_⟩:=open_bool Tryz.underlying4 (hval 2 4 v2 rfl rfl) h2;exact float_any m hm a b hu
theorem float_f1:Tryz.prog.inPlace 9=Rows.fnDiagFloatRow.inPlace:=by kernel_rfl
theorem float_f2:Tryz.prog.unfollowed 9=Rows.fnDiagFloatRow.unfollowed:=by kernel_rfl
theorem float_f3:Tryz.prog.recurses 9=Rows.fnDiagFloatRow.recurses:=by kernel_rfl
theorem float_f4:Tryz.prog.varsNamed 9=Rows.fnDiagFloatRow.named:=by kernel_rfl
theorem float_facts:joinedFacts Tryz.prog 9 Tryz.f9 Rows.fnDiagFloatSpec Rows.fnDiagFloatRow=true:=by
 unfold joinedFacts;rw [float_f1,float_f2,float_f3,float_f4,Tryz.mayEnter,Tryz.liftsFinal,Tryz.make,Tryz.mapsRowed,Tryz.plainKeys,Tryz.stopsHeard,Tryz.laidOut]
 kernel_rfl
theorem float_goes:false=Rows.fnDiagFloatRow.goesBy Tryz.prog:=by kernel_rfl
theorem float_name:Tryz.prog.funcNamed "pub-necessaire/laws.FnDiagFloat" =some 9:=by kernel_rfl
theorem float_row:Rows.FnDiagFloatSaid:=
 OpenClaim.holds_of_wide 9 Tryz.f9 rfl rfl rfl rfl rfl rfl rfl ⟨rfl,rfl,rfl,rfl,rfl⟩ rfl rfl rfl rfl rfl float_name Tryz.func9 float_facts
  (of_decide_eq_true (by kernel_rfl)) (by unfold Func.isWrapper;first|(rw [if_pos (by decide+kernel)];kernel_rfl)|(rw [if_neg (by decide+kernel)];exact ⟨rfl,rfl⟩))
  (fun os started H enc _=>float_lifted os started H enc)
theorem float_card:Rows.FnDiagFloatCardSaid:=
 Claim7.holds_tied_plain_at .later [] [.data,.pinned] true (true, "6290c9495f33fe9badd3dbfab1b5d898f91c774e4e5da1dae7cabe16e93ab7d6") true
  float_row (fun _ h=>by cases h) (by kernel_rfl) (fun _ h=>by cases h) fnDiagFloat_row_tie rfl ⟨rfl,rfl⟩ Tryz.mainIs rfl
  (fun f fn hf hfn=>by
   obtain rfl:f=9:=Option.some.inj (float_name.symm.trans hf)|>.symm
   obtain rfl:fn=Tryz.f9:=(Option.some.inj (Tryz.func9.symm.trans hfn)).symm;exact ⟨by kernel_rfl,fun j t ht=>by
    rw [Tryz.params9] at ht;rcases j with _|_|_|j
    ·have h3:t=31:=by simpa using ht.symm
     subst h3;exact (show Tryz.prog.wantsStandIn 31=false by kernel_rfl)
    ·have h3:t=3:=by simpa using ht.symm
     subst h3;exact (show Tryz.prog.wantsStandIn 3=false by kernel_rfl)
    ·have h3:t=4:=by simpa using ht.symm
     subst h3;exact (show Tryz.prog.wantsStandIn 4=false by kernel_rfl)
    ·simp at ht⟩)
  float_goes
end
end Go.Proofs.YteodinhkhhaafaaGreatDoor
