import JvmDerived
import JvmDerived.Pilot.@@N@@Statement
import JvmDerived.Pilot.@@N@@Code
set_option linter.unusedVariables false
set_option linter.unusedSimpArgs false
@@BLOCK:NumsL.lean.txt@@
namespace Jvm.RoadKit
open Sem ClassFile Op Lib Jvm.Stand Jvm.Free Jvm.LawKit
section New
variable {p : Program} {l : Launch} {e : Env} {R : Room} {s : State} {m : MethodId} {args : Array Value} {below : List Frame} {meth : Method} {c : Code} {T : State} {locs : List Loc} {cells slots : Nat}
theorem retI (X : Stand p l e R s m args below meth c T locs cells slots) (hx : p.tables.exec = Jvm.exec) {pc : Nat} {Ls : Array Slot} {z : Int32} {rest : List Value} (hret : meth.sig.returnType = some .int) (hd : decode c.code pc = .ok (.ireturn, 1)) {fs : List Frame}
    (hl : ∀ (f : JFrame) (acts : List Action), f.method = m → f.locked = none → f.entered = [] → (doReturn e (T.setTop f) acts (some (.int z))).1 = T.setFrames fs) : Steps p.tables e below (T.setTop (mkF m pc Ls (.int z :: rest))) (T.setFrames fs) := by
  have hm' : T.vm.method? m = some meth := X.method'
  have hn : narrow .int (.int z) = .int z := rfl
  show Steps p.tables e below (T.setTop { method := m, pc := pc, locals := Ls, stack := _ :: rest, locked := none }) _
  jvm_step X.here [X.here.top, hx, hd, hm', hret, hn]
  first | (intro acts; rw [hl _ acts rfl rfl rfl]) | rw [hl _ _ rfl rfl rfl]
  exact Steps.refl _
end New
end Jvm.RoadKit
namespace Jvm.Pilot.@@N@@
open Jvm Jvm.ClassFile Sem Op Lib Jvm.Free Jvm.Stand Jvm.LawKit Jvm.RoadKit Bundle Jvm.Pilot.@@N@@.Jvm.D
theorem own_adv {tb : Tables} {e : Env} {below : List Frame} {A B : State} {P : State → Outcome → Prop} (h : ∀ t, Steps tb e below B t → Steps tb e below A t) (g : ∃ t o, Steps tb e below B t ∧ P t o) : ∃ t o, Steps tb e below A t ∧ P t o := by
  obtain ⟨t, o, h1, h2⟩ := g
  exact ⟨t, o, h t h1, h2⟩
theorem own_pack {p : Program} {l : Launch} {e : Env} {R : Room} {s : State} {m : MethodId} {args : Array Value} {below : List Frame} {meth : Method} {c : Code} {T : State} {locs : List Loc} {cells slots : Nat} {n0 : Nat} (X : Stand p l e R s m args below meth c T locs cells slots) (N : Fr n0 locs) : ∃ lo, Stand p l e R s m args below meth c T lo cells slots ∧ Fr n0 lo := ⟨_, X, N⟩
theorem own_h7 (x : Int32) : (¬ (x &&& (7 : Int32)) < 0 ∧ (x &&& (7 : Int32)) < (12 : Int32)) ∧ (¬ (x &&& (7 : Int32)) + (1 : Int32) < 0 ∧ (x &&& (7 : Int32)) + (1 : Int32) < (12 : Int32)) ∧ (¬ (x &&& (7 : Int32)) + (2 : Int32) < 0 ∧ (x &&& (7 : Int32)) + (2 : Int32) < (12 : Int32)) := by
  have e : (x &&& (7 : Int32)).toInt = x.toInt % 2 ^ 3 := Jvm.Kit.i32_mask x 7 (k := 3) (by decide) (by decide)
  have c1 : (1 : Int32).toInt = 1 := rfl
  have c2 : (2 : Int32).toInt = 2 := rfl
  have e1 : ((x &&& (7 : Int32)) + (1 : Int32)).toInt = (x &&& (7 : Int32)).toInt + 1 := by rw [Jvm.Kit.i32_add (by rw [c1]; omega) (by rw [c1]; omega), c1]
  have e2 : ((x &&& (7 : Int32)) + (2 : Int32)).toInt = (x &&& (7 : Int32)).toInt + 2 := by rw [Jvm.Kit.i32_add (by rw [c2]; omega) (by rw [c2]; omega), c2]
  simp only [Int32.lt_iff_toInt_lt, e1, e2, show (0 : Int32).toInt = 0 from rfl, show (12 : Int32).toInt = 12 from rfl]
  omega
theorem own_12 (x : Int32) : ¬ x + (1 : Int32) = x + (2 : Int32) := fun h => by
  have := (Int32.add_right_inj x).mp h
  exact absurd this (by decide)
theorem d1_0 : decode method_3_code 0 = .ok (.lload_n 0, 1) := by decide +kernel
theorem d1_1 : decode method_3_code 1 = .ok (.bipush 8, 2) := by decide +kernel
theorem d1_3 : decode method_3_code 3 = .ok (.iload_n 2, 1) := by decide +kernel
theorem d1_4 : decode method_3_code 4 = .ok (.imul, 1) := by decide +kernel
theorem d1_5 : decode method_3_code 5 = .ok (.lushr, 1) := by decide +kernel
theorem d1_6 : decode method_3_code 6 = .ok (.l2i, 1) := by decide +kernel
theorem d1_7 : decode method_3_code 7 = .ok (.i2b, 1) := by decide +kernel
theorem d1_8 : decode method_3_code 8 = .ok (.ireturn, 1) := by decide +kernel
theorem pn_1 : plainName "org/sipwright/message/SipParserBodyStartPinLaw" = true := by first | (simp [plainName, overriddenIn]; done) | decide +kernel
theorem d2_0 : decode prog_31_method_5_code 0 = .ok (.aload_n 0, 1) := by decide +kernel
theorem d2_1 : decode prog_31_method_5_code 1 = .ok (.iload_n 1, 1) := by decide +kernel
theorem d2_2 : decode prog_31_method_5_code 2 = .ok (.iconst 1, 1) := by decide +kernel
theorem d2_3 : decode prog_31_method_5_code 3 = .ok (.iadd, 1) := by decide +kernel
theorem d2_4 : decode prog_31_method_5_code 4 = .ok (.baload, 1) := by decide +kernel
theorem d2_5 : decode prog_31_method_5_code 5 = .ok (.bipush 13, 2) := by decide +kernel
theorem d2_7 : decode prog_31_method_5_code 7 = .ok (.if_icmp .ne 9, 3) := by decide +kernel
theorem d2_10 : decode prog_31_method_5_code 10 = .ok (.iload_n 1, 1) := by decide +kernel
theorem d2_11 : decode prog_31_method_5_code 11 = .ok (.iconst 2, 1) := by decide +kernel
theorem d2_12 : decode prog_31_method_5_code 12 = .ok (.iadd, 1) := by decide +kernel
theorem d2_13 : decode prog_31_method_5_code 13 = .ok (.goto 6, 3) := by decide +kernel
theorem d2_16 : decode prog_31_method_5_code 16 = .ok (.iload_n 1, 1) := by decide +kernel
theorem d2_17 : decode prog_31_method_5_code 17 = .ok (.iconst 1, 1) := by decide +kernel
theorem d2_18 : decode prog_31_method_5_code 18 = .ok (.iadd, 1) := by decide +kernel
theorem d2_19 : decode prog_31_method_5_code 19 = .ok (.iconst 1, 1) := by decide +kernel
theorem d2_20 : decode prog_31_method_5_code 20 = .ok (.iadd, 1) := by decide +kernel
theorem d2_21 : decode prog_31_method_5_code 21 = .ok (.ireturn, 1) := by decide +kernel
theorem pn_2 : plainName "org/sipwright/message/SipParser" = true := by first | (simp [plainName, overriddenIn]; done) | decide +kernel
theorem pn_0 : plainName "org/sipwright/message/SipParserBodyStartPinLaw" = true := by first | (simp [plainName, overriddenIn]; done) | decide +kernel
theorem pd_0 : parseMethodDescriptor "(JI)B" = some ⟨[.long, .int], some .byte⟩ := by decide +kernel
theorem pd_1 : parseMethodDescriptor "([BI)I" = some ⟨[(.array .byte), .int], some .int⟩ := by decide +kernel
theorem ef_1 (m : MethodId) (x0 : Int64) (x1 : Int32) : entryFrame m #[(.long x0), (.int x1)] 3 = mkF m 0 #[.val (.long x0), .second, .val (.int x1)] [] := by first | (simp [entryFrame, mkF, argsToLocals, Value.category]; done) | rfl
def Q1 (Z : State) (q1 : Int64) (p2 : Int32) (h0 : Heap) (n0 : Nat) (v : Option Value) (h : Heap) (L : List Loc) : Prop := ∃ z : Int32, v = some (.int z) ∧ Fr n0 L ∧ h = h0
set_option maxRecDepth 65536 in
set_option maxHeartbeats 40000000 in
theorem rm1 (l : Launch) (Z : State) (a0 : Array Value) (hw : ∀ d ∈ tables_1, d.before a0 Z = true) (ws : List Jvm.Cond) (q1 : Int64) (p2 : Int32) (h0 : Heap) (n0 : Nat) (Z0 : n0 ≤ h0.size) :
    MetFree l (⟨"org/sipwright/message/SipParserBodyStartPinLaw", "b", "(JI)B"⟩ : MethodName) (head1 (Jvm.Cond.code (⟨"org/sipwright/message/SipParserBodyStartPinLaw", "b", "(JI)B"⟩ : MethodName) method_3_code 3 (some .byte) :: ws) ({ frames := 0, cells := 0, slots := 0, locals := 0 } : Room)) (fun a U => a = #[(.long q1), (.int p2)] ∧ Z.Warmed39 U.vm ∧ U.heap = h0) (fun _ _ _ _ _ => True) (fun _ U o U' => ∃ v L, o = .returned v ∧ Q1 Z q1 p2 h0 n0 v U'.heap L ∧ FrameEnd U o U' L ({ frames := 0, cells := 0, slots := 0, locals := 0 } : Room).cells ({ frames := 0, cells := 0, slots := 0, locals := 0 } : Room).slots) := by
  refine MetFree.of_bodySF (plainFor_of_name pn_1) hisR ?_
  intro p e s m args below meth c s₁ Bd hml0 hP hK
  obtain ⟨rfl, hZ, hh⟩ := hP
  have hx := Bd.exec
  have hby := Bd.bytes
  have hml : c.maxLocals = 3 := hml0
  have hown : s.vm.findClass "org/sipwright/message/SipParserBodyStartPinLaw" = some m.cls := findClass_of_methodNamed Bd.named
  have hnm := (name_of_methodNamed Bd.named Bd.method).1
  have X0 : Stand p l e ({ frames := 0, cells := 0, slots := 0, locals := 0 } : Room) s m #[(.long q1), (.int p2)] below meth c s₁ [] 0 0 := Stand.of_body Bd
  have e0 : s₁.heap = h0 := by rw [← hh, Bd.state]; rfl
  have N0 := Fr.nil n0
  refine own_adv (B := (s₁.setTop (mkF m 0 #[.val (.long q1), .second, .val (.int p2)] []))) (fun t k => castTop (ef_1 m q1 p2) k) ?_
  refine own_adv (B := (s₁.setTop (mkF m 8 #[.val (.long q1), .second, .val (.int p2)] [(.int ((((q1.toUInt64 >>> (((8 : Int32) * p2) &&& 0x3f).toInt64.toUInt64).toInt64).toInt32).toInt8.toInt32))]))) (fun t kS => ?_) ?_
  · show Steps p.tables e below (s₁.setTop (mkF m 0 #[.val (.long q1), .second, .val (.int p2)] [])) _
    refine XS.lloadN X0.here hx rfl (hb hby d1_0) rfl ?_
    show Steps p.tables e below (s₁.setTop (mkF m 1 #[.val (.long q1), .second, .val (.int p2)] [(.long q1)])) _
    refine XS.bipush X0.here hx rfl (hb hby d1_1) ?_
    show Steps p.tables e below (s₁.setTop (mkF m 3 #[.val (.long q1), .second, .val (.int p2)] [(.int (8 : Int32)), (.long q1)])) _
    refine XS.iloadN X0.here hx rfl (hb hby d1_3) rfl ?_
    show Steps p.tables e below (s₁.setTop (mkF m 4 #[.val (.long q1), .second, .val (.int p2)] [(.int p2), (.int (8 : Int32)), (.long q1)])) _
    refine XS.imul X0.here hx rfl (hb hby d1_4) rfl ?_
    show Steps p.tables e below (s₁.setTop (mkF m 5 #[.val (.long q1), .second, .val (.int p2)] [(.int ((8 : Int32) * p2)), (.long q1)])) _
    refine XS.lushr X0.here hx rfl (hb hby d1_5) rfl ?_
    show Steps p.tables e below (s₁.setTop (mkF m 6 #[.val (.long q1), .second, .val (.int p2)] [(.long ((q1.toUInt64 >>> (((8 : Int32) * p2) &&& 0x3f).toInt64.toUInt64).toInt64))])) _
    refine XS.l2i X0.here hx rfl (hb hby d1_6) rfl ?_
    show Steps p.tables e below (s₁.setTop (mkF m 7 #[.val (.long q1), .second, .val (.int p2)] [(.int (((q1.toUInt64 >>> (((8 : Int32) * p2) &&& 0x3f).toInt64.toUInt64).toInt64).toInt32))])) _
    refine XS.i2b X0.here hx rfl (hb hby d1_7) rfl ?_
    exact kS
  obtain ⟨fs, hr, hrun, hended, hW, hsame⟩ := X0.leave (v := some (.int (nar .byte ((((q1.toUInt64 >>> (((8 : Int32) * p2) &&& 0x3f).toInt64.toUInt64).toInt64).toInt32).toInt8.toInt32)))) (fun h => by rw [Bd.returns] at h; cases h)
  refine ⟨_, _, ?_, hrun, hended, _, _, rfl, ?_, ⟨_, rfl⟩, hW, hsame.mono (by decide) (by decide)⟩
  · show Steps p.tables e below (s₁.setTop (mkF m 8 #[.val (.long q1), .second, .val (.int p2)] [(.int ((((q1.toUInt64 >>> (((8 : Int32) * p2) &&& 0x3f).toInt64.toUInt64).toInt64).toInt32).toInt8.toInt32))])) _
    exact retN X0 hx (t := .byte) Bd.returns (by simp) (hb hby d1_8) hr
  · show Q1 Z q1 p2 h0 n0 _ s₁.heap _
    rw [e0]
    exact ⟨_, rfl, N0, rfl⟩
theorem ef_2c (m : MethodId) (x0 : Addr) (x1 : Int32) : entryFrame m #[(.ref x0), (.int x1)] 2 = mkF m 0 #[.val (.ref x0), .val (.int x1)] [] := by first | (simp [entryFrame, mkF, argsToLocals, Value.category]; done) | rfl
def Q2c (Z : State) (a1 : Addr) (p2 : Int32) (cl : Cell) (h0 : Heap) (n0 : Nat) (v : Option Value) (h : Heap) (L : List Loc) : Prop := v = some (.int ((p2 + (2 : Int32)) + (1 : Int32))) ∧ Fr n0 L ∧ h = h0
set_option maxRecDepth 65536 in
set_option maxHeartbeats 40000000 in
theorem rm2c (l : Launch) (Z : State) (a0 : Array Value) (hw : ∀ d ∈ tables_1, d.before a0 Z = true) (ws : List Jvm.Cond) (a1 : Addr) (p2 : Int32) (cl : Cell) (h0 : Heap) (n0 : Nat) (Z0 : n0 ≤ h0.size) (Ar : Arr Z h0 a1 cl .byte) (hin : ¬ ((p2 + (1 : Int32)) < 0 ∨ cl.slots.size ≤ (p2 + (1 : Int32)).toNatClampNeg)) (hat : cl.slots[(p2 + (1 : Int32)).toNatClampNeg]? = some (.int (13 : Int32))) :
    MetFree l (⟨"org/sipwright/message/SipParser", "bodyStart", "([BI)I"⟩ : MethodName) (head1 (Jvm.Cond.code (⟨"org/sipwright/message/SipParser", "bodyStart", "([BI)I"⟩ : MethodName) prog_31_method_5_code 2 (some .int) :: ws) ({ frames := 0, cells := 0, slots := 0, locals := 0 } : Room)) (fun a U => a = #[(.ref a1), (.int p2)] ∧ Z.Warmed39 U.vm ∧ U.heap = h0) (fun _ _ _ _ _ => True) (fun _ U o U' => ∃ v L, o = .returned v ∧ Q2c Z a1 p2 cl h0 n0 v U'.heap L ∧ FrameEnd U o U' L ({ frames := 0, cells := 0, slots := 0, locals := 0 } : Room).cells ({ frames := 0, cells := 0, slots := 0, locals := 0 } : Room).slots) := by
  refine MetFree.of_bodySF (plainFor_of_name pn_2) hisR ?_
  intro p e s m args below meth c s₁ Bd hml0 hP hK
  obtain ⟨rfl, hZ, hh⟩ := hP
  have hx := Bd.exec
  have hby := Bd.bytes
  have hml : c.maxLocals = 2 := hml0
  have hown : s.vm.findClass "org/sipwright/message/SipParser" = some m.cls := findClass_of_methodNamed Bd.named
  have hnm := (name_of_methodNamed Bd.named Bd.method).1
  have X0 : Stand p l e ({ frames := 0, cells := 0, slots := 0, locals := 0 } : Room) s m #[(.ref a1), (.int p2)] below meth c s₁ [] 0 0 := Stand.of_body Bd
  have e0 : s₁.heap = h0 := by rw [← hh, Bd.state]; rfl
  have N0 := Fr.nil n0
  refine own_adv (B := (s₁.setTop (mkF m 0 #[.val (.ref a1), .val (.int p2)] []))) (fun t k => castTop (ef_2c m a1 p2) k) ?_
  refine own_adv (B := (s₁.setTop (mkF m 21 #[.val (.ref a1), .val (.int p2)] [(.int ((p2 + (2 : Int32)) + (1 : Int32)))]))) (fun t kS => ?_) ?_
  · show Steps p.tables e below (s₁.setTop (mkF m 0 #[.val (.ref a1), .val (.int p2)] [])) _
    refine XS.aloadN X0.here hx rfl (hb hby d2_0) rfl rfl ?_
    show Steps p.tables e below (s₁.setTop (mkF m 1 #[.val (.ref a1), .val (.int p2)] [(.ref a1)])) _
    refine XS.iloadN X0.here hx rfl (hb hby d2_1) rfl ?_
    show Steps p.tables e below (s₁.setTop (mkF m 2 #[.val (.ref a1), .val (.int p2)] [(.int p2), (.ref a1)])) _
    refine XS.iconst X0.here hx rfl (hb hby d2_2) ?_
    show Steps p.tables e below (s₁.setTop (mkF m 3 #[.val (.ref a1), .val (.int p2)] [(.int (1 : Int32)), (.int p2), (.ref a1)])) _
    refine XS.iadd X0.here hx rfl (hb hby d2_3) rfl ?_
    show Steps p.tables e below (s₁.setTop (mkF m 4 #[.val (.ref a1), .val (.int p2)] [(.int (p2 + (1 : Int32))), (.ref a1)])) _
    refine X0.baloadBytes hx (j := (p2 + (1 : Int32))) (v := (.int (13 : Int32))) (by rw [e0]; exact Ar.1) (State.isArrayOf_alike hZ.alike Ar.2.1) Ar.2.2 hin hat (g := (mkF m 4 #[.val (.ref a1), .val (.int p2)] [(.int (p2 + (1 : Int32))), (.ref a1)])) rfl rfl (hb hby d2_4) _ ?_
    show Steps p.tables e below (s₁.setTop (mkF m 5 #[.val (.ref a1), .val (.int p2)] [(.int (13 : Int32))])) _
    refine XS.bipush X0.here hx rfl (hb hby d2_5) ?_
    show Steps p.tables e below (s₁.setTop (mkF m 7 #[.val (.ref a1), .val (.int p2)] [(.int (13 : Int32)), (.int (13 : Int32))])) _
    refine XS.icmpNo X0.here hx rfl (hb hby d2_7) rfl (teq rfl).2 ?_
    show Steps p.tables e below (s₁.setTop (mkF m 10 #[.val (.ref a1), .val (.int p2)] [])) _
    refine XS.iloadN X0.here hx rfl (hb hby d2_10) rfl ?_
    show Steps p.tables e below (s₁.setTop (mkF m 11 #[.val (.ref a1), .val (.int p2)] [(.int p2)])) _
    refine XS.iconst X0.here hx rfl (hb hby d2_11) ?_
    show Steps p.tables e below (s₁.setTop (mkF m 12 #[.val (.ref a1), .val (.int p2)] [(.int (2 : Int32)), (.int p2)])) _
    refine XS.iadd X0.here hx rfl (hb hby d2_12) rfl ?_
    show Steps p.tables e below (s₁.setTop (mkF m 13 #[.val (.ref a1), .val (.int p2)] [(.int (p2 + (2 : Int32)))])) _
    refine XS.goto X0.here hx rfl (pc0 := 13) (pc' := 19) rfl (hb hby d2_13) (by decide) (by decide) ?_
    show Steps p.tables e below (s₁.setTop (mkF m 19 #[.val (.ref a1), .val (.int p2)] [(.int (p2 + (2 : Int32)))])) _
    refine XS.iconst X0.here hx rfl (hb hby d2_19) ?_
    show Steps p.tables e below (s₁.setTop (mkF m 20 #[.val (.ref a1), .val (.int p2)] [(.int (1 : Int32)), (.int (p2 + (2 : Int32)))])) _
    refine XS.iadd X0.here hx rfl (hb hby d2_20) rfl ?_
    exact kS
  obtain ⟨fs, hr, hrun, hended, hW, hsame⟩ := X0.leave (v := some (.int ((p2 + (2 : Int32)) + (1 : Int32)))) (fun h => by rw [Bd.returns] at h; cases h)
  refine ⟨_, _, ?_, hrun, hended, _, _, rfl, ?_, ⟨_, rfl⟩, hW, hsame.mono (by decide) (by decide)⟩
  · show Steps p.tables e below (s₁.setTop (mkF m 21 #[.val (.ref a1), .val (.int p2)] [(.int ((p2 + (2 : Int32)) + (1 : Int32)))])) _
    exact retI X0 hx Bd.returns (hb hby d2_21) hr
  · show Q2c Z a1 p2 cl h0 n0 _ s₁.heap _
    rw [e0]
    exact ⟨rfl, N0, rfl⟩
theorem ef_2n (m : MethodId) (x0 : Addr) (x1 : Int32) : entryFrame m #[(.ref x0), (.int x1)] 2 = mkF m 0 #[.val (.ref x0), .val (.int x1)] [] := by first | (simp [entryFrame, mkF, argsToLocals, Value.category]; done) | rfl
def Q2n (Z : State) (a1 : Addr) (p2 : Int32) (cl : Cell) (h0 : Heap) (n0 : Nat) (v : Option Value) (h : Heap) (L : List Loc) : Prop := v = some (.int ((p2 + (1 : Int32)) + (1 : Int32))) ∧ Fr n0 L ∧ h = h0
set_option maxRecDepth 65536 in
set_option maxHeartbeats 40000000 in
theorem rm2n (l : Launch) (Z : State) (a0 : Array Value) (hw : ∀ d ∈ tables_1, d.before a0 Z = true) (ws : List Jvm.Cond) (a1 : Addr) (p2 : Int32) (cl : Cell) (h0 : Heap) (n0 : Nat) (Z0 : n0 ≤ h0.size) (Ar : Arr Z h0 a1 cl .byte) (hin : ¬ ((p2 + (1 : Int32)) < 0 ∨ cl.slots.size ≤ (p2 + (1 : Int32)).toNatClampNeg)) (hat : cl.slots[(p2 + (1 : Int32)).toNatClampNeg]? = some (.int (10 : Int32))) :
    MetFree l (⟨"org/sipwright/message/SipParser", "bodyStart", "([BI)I"⟩ : MethodName) (head1 (Jvm.Cond.code (⟨"org/sipwright/message/SipParser", "bodyStart", "([BI)I"⟩ : MethodName) prog_31_method_5_code 2 (some .int) :: ws) ({ frames := 0, cells := 0, slots := 0, locals := 0 } : Room)) (fun a U => a = #[(.ref a1), (.int p2)] ∧ Z.Warmed39 U.vm ∧ U.heap = h0) (fun _ _ _ _ _ => True) (fun _ U o U' => ∃ v L, o = .returned v ∧ Q2n Z a1 p2 cl h0 n0 v U'.heap L ∧ FrameEnd U o U' L ({ frames := 0, cells := 0, slots := 0, locals := 0 } : Room).cells ({ frames := 0, cells := 0, slots := 0, locals := 0 } : Room).slots) := by
  refine MetFree.of_bodySF (plainFor_of_name pn_2) hisR ?_
  intro p e s m args below meth c s₁ Bd hml0 hP hK
  obtain ⟨rfl, hZ, hh⟩ := hP
  have hx := Bd.exec
  have hby := Bd.bytes
  have hml : c.maxLocals = 2 := hml0
  have hown : s.vm.findClass "org/sipwright/message/SipParser" = some m.cls := findClass_of_methodNamed Bd.named
  have hnm := (name_of_methodNamed Bd.named Bd.method).1
  have X0 : Stand p l e ({ frames := 0, cells := 0, slots := 0, locals := 0 } : Room) s m #[(.ref a1), (.int p2)] below meth c s₁ [] 0 0 := Stand.of_body Bd
  have e0 : s₁.heap = h0 := by rw [← hh, Bd.state]; rfl
  have N0 := Fr.nil n0
  refine own_adv (B := (s₁.setTop (mkF m 0 #[.val (.ref a1), .val (.int p2)] []))) (fun t k => castTop (ef_2n m a1 p2) k) ?_
  refine own_adv (B := (s₁.setTop (mkF m 21 #[.val (.ref a1), .val (.int p2)] [(.int ((p2 + (1 : Int32)) + (1 : Int32)))]))) (fun t kS => ?_) ?_
  · show Steps p.tables e below (s₁.setTop (mkF m 0 #[.val (.ref a1), .val (.int p2)] [])) _
    refine XS.aloadN X0.here hx rfl (hb hby d2_0) rfl rfl ?_
    show Steps p.tables e below (s₁.setTop (mkF m 1 #[.val (.ref a1), .val (.int p2)] [(.ref a1)])) _
    refine XS.iloadN X0.here hx rfl (hb hby d2_1) rfl ?_
    show Steps p.tables e below (s₁.setTop (mkF m 2 #[.val (.ref a1), .val (.int p2)] [(.int p2), (.ref a1)])) _
    refine XS.iconst X0.here hx rfl (hb hby d2_2) ?_
    show Steps p.tables e below (s₁.setTop (mkF m 3 #[.val (.ref a1), .val (.int p2)] [(.int (1 : Int32)), (.int p2), (.ref a1)])) _
    refine XS.iadd X0.here hx rfl (hb hby d2_3) rfl ?_
    show Steps p.tables e below (s₁.setTop (mkF m 4 #[.val (.ref a1), .val (.int p2)] [(.int (p2 + (1 : Int32))), (.ref a1)])) _
    refine X0.baloadBytes hx (j := (p2 + (1 : Int32))) (v := (.int (10 : Int32))) (by rw [e0]; exact Ar.1) (State.isArrayOf_alike hZ.alike Ar.2.1) Ar.2.2 hin hat (g := (mkF m 4 #[.val (.ref a1), .val (.int p2)] [(.int (p2 + (1 : Int32))), (.ref a1)])) rfl rfl (hb hby d2_4) _ ?_
    show Steps p.tables e below (s₁.setTop (mkF m 5 #[.val (.ref a1), .val (.int p2)] [(.int (10 : Int32))])) _
    refine XS.bipush X0.here hx rfl (hb hby d2_5) ?_
    show Steps p.tables e below (s₁.setTop (mkF m 7 #[.val (.ref a1), .val (.int p2)] [(.int (13 : Int32)), (.int (10 : Int32))])) _
    refine XS.icmpYes X0.here hx rfl (pc0 := 7) (pc' := 16) rfl (hb hby d2_7) rfl (feq (by decide)).2 (by decide) (by decide) ?_
    show Steps p.tables e below (s₁.setTop (mkF m 16 #[.val (.ref a1), .val (.int p2)] [])) _
    refine XS.iloadN X0.here hx rfl (hb hby d2_16) rfl ?_
    show Steps p.tables e below (s₁.setTop (mkF m 17 #[.val (.ref a1), .val (.int p2)] [(.int p2)])) _
    refine XS.iconst X0.here hx rfl (hb hby d2_17) ?_
    show Steps p.tables e below (s₁.setTop (mkF m 18 #[.val (.ref a1), .val (.int p2)] [(.int (1 : Int32)), (.int p2)])) _
    refine XS.iadd X0.here hx rfl (hb hby d2_18) rfl ?_
    show Steps p.tables e below (s₁.setTop (mkF m 19 #[.val (.ref a1), .val (.int p2)] [(.int (p2 + (1 : Int32)))])) _
    refine XS.iconst X0.here hx rfl (hb hby d2_19) ?_
    show Steps p.tables e below (s₁.setTop (mkF m 20 #[.val (.ref a1), .val (.int p2)] [(.int (1 : Int32)), (.int (p2 + (1 : Int32)))])) _
    refine XS.iadd X0.here hx rfl (hb hby d2_20) rfl ?_
    exact kS
  obtain ⟨fs, hr, hrun, hended, hW, hsame⟩ := X0.leave (v := some (.int ((p2 + (1 : Int32)) + (1 : Int32)))) (fun h => by rw [Bd.returns] at h; cases h)
  refine ⟨_, _, ?_, hrun, hended, _, _, rfl, ?_, ⟨_, rfl⟩, hW, hsame.mono (by decide) (by decide)⟩
  · show Steps p.tables e below (s₁.setTop (mkF m 21 #[.val (.ref a1), .val (.int p2)] [(.int ((p2 + (1 : Int32)) + (1 : Int32)))])) _
    exact retI X0 hx Bd.returns (hb hby d2_21) hr
  · show Q2n Z a1 p2 cl h0 n0 _ s₁.heap _
    rw [e0]
    exact ⟨rfl, N0, rfl⟩
theorem ef_0 (m : MethodId) (x0 : Int32) (x1 : Int32) (x2 : Int64) (x3 : Int64) : entryFrame m #[(.int x0), (.int x1), (.long x2), (.long x3)] maxLocals = mkF m 0 #[.val (.int x0), .val (.int x1), .val (.long x2), .second, .val (.long x3), .second, .unset, .unset, .unset, .unset, .unset] [] := by first | (simp [entryFrame, mkF, argsToLocals, Value.category, maxLocals]; done) | rfl
def Q0 (Z : State) (p1 : Int32) (p2 : Int32) (q3 : Int64) (q4 : Int64) (h0 : Heap) (n0 : Nat) (v : Option Value) (h : Heap) (L : List Loc) : Prop := v = some (.int (1 : Int32)) ∧ Fr n0 L
set_option maxRecDepth 65536 in
set_option maxHeartbeats 40000000 in
theorem rm0 (l : Launch) (Z : State) (a0 : Array Value) (hw : ∀ d ∈ tables_1, d.before a0 Z = true) (ws : List Jvm.Cond) (p1 : Int32) (p2 : Int32) (q3 : Int64) (q4 : Int64) (h0 : Heap) (n0 : Nat) (Z0 : n0 ≤ h0.size) :
    MetFree l x (head1 (Jvm.Cond.code x code maxLocals ret :: ws) room_1) (fun a U => a = #[(.int p1), (.int p2), (.long q3), (.long q4)] ∧ Z.Warmed39 U.vm ∧ U.heap = h0) (fun _ _ _ _ _ => True) (fun _ U o U' => ∃ v L, o = .returned v ∧ Q0 Z p1 p2 q3 q4 h0 n0 v U'.heap L ∧ FrameEnd U o U' L room_1.cells room_1.slots) := by
  refine MetFree.of_bodySF (plainFor_of_name pn_0) hisR ?_
  intro p e s m args below meth c s₁ Bd hml0 hP hK
  obtain ⟨rfl, hZ, hh⟩ := hP
  have hx := Bd.exec
  have hby := Bd.bytes
  have hml : c.maxLocals = 11 := hml0
  have hown : s.vm.findClass "org/sipwright/message/SipParserBodyStartPinLaw" = some m.cls := findClass_of_methodNamed Bd.named
  have hnm := (name_of_methodNamed Bd.named Bd.method).1
  have X0 : Stand p l e room_1 s m #[(.int p1), (.int p2), (.long q3), (.long q4)] below meth c s₁ [] 0 0 := Stand.of_body Bd
  have e0 : s₁.heap = h0 := by rw [← hh, Bd.state]; rfl
  have N0 := Fr.nil n0
  refine own_adv (B := (s₁.setTop (mkF m 0 #[.val (.int p1), .val (.int p2), .val (.long q3), .second, .val (.long q4), .second, .unset, .unset, .unset, .unset, .unset] []))) (fun t k => castTop (ef_0 m p1 p2 q3 q4) k) ?_
  refine own_adv (B := (s₁.setTop (mkF m 2 #[.val (.int p1), .val (.int p2), .val (.long q3), .second, .val (.long q4), .second, .unset, .unset, .unset, .unset, .unset] [(.int (12 : Int32))]))) (fun t kS => ?_) ?_
  · show Steps p.tables e below (s₁.setTop (mkF m 0 #[.val (.int p1), .val (.int p2), .val (.long q3), .second, .val (.long q4), .second, .unset, .unset, .unset, .unset, .unset] [])) _
    refine XS.bipush X0.here hx rfl (hb hby at_0) ?_
    exact kS
  obtain ⟨T1, h1, k1, X1, e1, E1, A1, st1⟩ := newP X0 hx hZ (hw _ (List.mem_of_getElem? (i := 0) rfl)) e0 (g := (mkF m 2 #[.val (.int p1), .val (.int p2), .val (.long q3), .second, .val (.long q4), .second, .unset, .unset, .unset, .unset, .unset] [(.int (12 : Int32))])) rfl (hb hby at_2) rfl (by decide) (cap := 12) (by decide) (by decide) (by decide) (by decide)
  obtain ⟨o, g1⟩ : ∃ z, z = h0.size := ⟨_, rfl⟩
  rw [← g1] at A1 st1
  have V_o : Arv Z h1 o k1 .byte (12 : Int32) [(.int (0 : Int32)), (.int (0 : Int32)), (.int (0 : Int32)), (.int (0 : Int32)), (.int (0 : Int32)), (.int (0 : Int32)), (.int (0 : Int32)), (.int (0 : Int32)), (.int (0 : Int32)), (.int (0 : Int32)), (.int (0 : Int32)), (.int (0 : Int32))] (.int (0 : Int32)) := (Arv.new A1 (by decide)).pad (pad_rep [] (.int (0 : Int32)) 12)
  replace X1 : Stand p l e _ s m _ below meth c T1 _ 1 12 := X1
  refine own_adv (B := (T1.setTop (mkF m 4 #[.val (.int p1), .val (.int p2), .val (.long q3), .second, .val (.long q4), .second, .unset, .unset, .unset, .unset, .unset] [(.ref o)]))) st1 ?_
  have g_o : n0 ≤ o := by rw [g1]; exact Z0
  have ZZ : n0 ≤ h1.size := Nat.le_trans Z0 E1.1
  obtain ⟨c0, Ar0, S0⟩ : ∃ c0 : Cell, Arr Z h1 o c0 .byte ∧ c0.slots.size = (12 : Int32).toNatClampNeg := ⟨_, A1, sz_new _ _ _⟩
  refine own_adv (B := (T1.setTop (mkF m 11 #[.val (.int p1), .val (.int p2), .val (.long q3), .second, .val (.long q4), .second, .val (.ref o), .unset, .unset, .unset, .unset] [(.int (0 : Int32)), (.long q3), (.int (0 : Int32)), (.ref o)]))) (fun t kS => ?_) ?_
  · show Steps p.tables e below (T1.setTop (mkF m 4 #[.val (.int p1), .val (.int p2), .val (.long q3), .second, .val (.long q4), .second, .unset, .unset, .unset, .unset, .unset] [(.ref o)])) _
    refine XS.astore X1.here hx rfl (hb hby at_4) rfl rfl (l' := #[.val (.int p1), .val (.int p2), .val (.long q3), .second, .val (.long q4), .second, .val (.ref o), .unset, .unset, .unset, .unset]) rfl ?_
    show Steps p.tables e below (T1.setTop (mkF m 6 #[.val (.int p1), .val (.int p2), .val (.long q3), .second, .val (.long q4), .second, .val (.ref o), .unset, .unset, .unset, .unset] [])) _
    refine XS.aload X1.here hx rfl (hb hby at_6) rfl rfl ?_
    show Steps p.tables e below (T1.setTop (mkF m 8 #[.val (.int p1), .val (.int p2), .val (.long q3), .second, .val (.long q4), .second, .val (.ref o), .unset, .unset, .unset, .unset] [(.ref o)])) _
    refine XS.iconst X1.here hx rfl (hb hby at_8) ?_
    show Steps p.tables e below (T1.setTop (mkF m 9 #[.val (.int p1), .val (.int p2), .val (.long q3), .second, .val (.long q4), .second, .val (.ref o), .unset, .unset, .unset, .unset] [(.int (0 : Int32)), (.ref o)])) _
    refine XS.lloadN X1.here hx rfl (hb hby at_9) rfl ?_
    show Steps p.tables e below (T1.setTop (mkF m 10 #[.val (.int p1), .val (.int p2), .val (.long q3), .second, .val (.long q4), .second, .val (.ref o), .unset, .unset, .unset, .unset] [(.long q3), (.int (0 : Int32)), (.ref o)])) _
    refine XS.iconst X1.here hx rfl (hb hby at_10) ?_
    exact kS
  obtain ⟨_, _, ⟨T2, L2, k2, n2⟩, -, X2, ⟨Lc2, hQ2, l2, y2, z2⟩, st2⟩ := Jvm.LawKit.callS X1 hx (y := (⟨"org/sipwright/message/SipParserBodyStartPinLaw", "b", "(JI)B"⟩ : MethodName)) hown (mvT hZ (hw _ (List.mem_of_getElem? (i := 1) rfl))) (mvT hZ (hw _ (List.mem_of_getElem? (i := 2) rfl))) (mvT hZ (hw _ (List.mem_of_getElem? (i := 3) rfl))) (mvT hZ (hw _ (List.mem_of_getElem? (i := 4) rfl))) (by decide) (backOf (W := 2) (rm1 l Z a0 hw [] q3 (0 : Int32) h1 n0 ZZ) hZ (hw _ (List.mem_of_getElem? (i := 4) rfl)) (hw _ (List.mem_of_getElem? (i := 3) rfl)) (by decide) (by decide)) (g := (mkF m 11 #[.val (.int p1), .val (.int p2), .val (.long q3), .second, .val (.long q4), .second, .val (.ref o), .unset, .unset, .unset, .unset] [(.int (0 : Int32)), (.long q3), (.int (0 : Int32)), (.ref o)])) rfl (by rw [hml]; rfl) (argsL := [(.long q3), (.int (0 : Int32))]) (rest := [(.int (0 : Int32)), (.ref o)]) (lenOf pd_0 rfl) rfl (by show 2 * 0 + _ ≤ _; exact Nat.le_of_eq rfl) (hb hby at_11) (fun _ _ => ⟨rfl, e1, (by decide : 1 + 0 ≤ _), (by decide : 12 + 0 ≤ _)⟩)
  dsimp only [Pt.U, Pt.locs, Pt.cells, Pt.slots] at X2 l2 y2 z2 st2 hQ2
  subst l2 y2 z2
  obtain ⟨z, rfl, N2q, hH2⟩ := hQ2
  have N2 := Fr.app N0 N2q
  obtain ⟨lo2, X2, N2⟩ := own_pack X2 N2
  replace X2 : Stand p l e _ s m _ below meth c T2 _ 1 12 := X2
  refine own_adv (B := (T2.setTop (mkF m 14 #[.val (.int p1), .val (.int p2), .val (.long q3), .second, .val (.long q4), .second, .val (.ref o), .unset, .unset, .unset, .unset] [(.int z), (.int (0 : Int32)), (.ref o)]))) (fun t kS => st2 t kS) ?_
  obtain ⟨T3, h3, X3, e3, W3, st3⟩ := stB X2 hx hZ hH2 Ar0 (j := (0 : Int32)) (inb_of S0 ⟨by decide, by decide⟩) (g := (mkF m 14 #[.val (.int p1), .val (.int p2), .val (.long q3), .second, .val (.long q4), .second, .val (.ref o), .unset, .unset, .unset, .unset] [(.int z), (.int (0 : Int32)), (.ref o)])) rfl rfl (hb hby at_14)
  have N3 := Fr.snoc X3 N2 g_o
  obtain ⟨lo3, X3, N3⟩ := own_pack X3 N3
  refine own_adv (B := (T3.setTop (mkF m 15 #[.val (.int p1), .val (.int p2), .val (.long q3), .second, .val (.long q4), .second, .val (.ref o), .unset, .unset, .unset, .unset] []))) st3 ?_
  obtain ⟨c1, Ar1, S1⟩ : ∃ c0 : Cell, Arr Z h3 o c0 .byte ∧ c0.slots.size = (12 : Int32).toNatClampNeg := ⟨_, Ar0.same W3, by rw [sz_set]; exact S0⟩
  have ZZ3 : n0 ≤ h3.size := Nat.le_trans ZZ (Keep.of_wr W3).1
  refine own_adv (B := (T3.setTop (mkF m 20 #[.val (.int p1), .val (.int p2), .val (.long q3), .second, .val (.long q4), .second, .val (.ref o), .unset, .unset, .unset, .unset] [(.int (1 : Int32)), (.long q3), (.int (1 : Int32)), (.ref o)]))) (fun t kS => ?_) ?_
  · show Steps p.tables e below (T3.setTop (mkF m 15 #[.val (.int p1), .val (.int p2), .val (.long q3), .second, .val (.long q4), .second, .val (.ref o), .unset, .unset, .unset, .unset] [])) _
    refine XS.aload X3.here hx rfl (hb hby at_15) rfl rfl ?_
    show Steps p.tables e below (T3.setTop (mkF m 17 #[.val (.int p1), .val (.int p2), .val (.long q3), .second, .val (.long q4), .second, .val (.ref o), .unset, .unset, .unset, .unset] [(.ref o)])) _
    refine XS.iconst X3.here hx rfl (hb hby at_17) ?_
    show Steps p.tables e below (T3.setTop (mkF m 18 #[.val (.int p1), .val (.int p2), .val (.long q3), .second, .val (.long q4), .second, .val (.ref o), .unset, .unset, .unset, .unset] [(.int (1 : Int32)), (.ref o)])) _
    refine XS.lloadN X3.here hx rfl (hb hby at_18) rfl ?_
    show Steps p.tables e below (T3.setTop (mkF m 19 #[.val (.int p1), .val (.int p2), .val (.long q3), .second, .val (.long q4), .second, .val (.ref o), .unset, .unset, .unset, .unset] [(.long q3), (.int (1 : Int32)), (.ref o)])) _
    refine XS.iconst X3.here hx rfl (hb hby at_19) ?_
    exact kS
  obtain ⟨_, _, ⟨T4, L4, k4, n4⟩, -, X4, ⟨Lc4, hQ4, l4, y4, z4⟩, st4⟩ := Jvm.LawKit.callS X3 hx (y := (⟨"org/sipwright/message/SipParserBodyStartPinLaw", "b", "(JI)B"⟩ : MethodName)) hown (mvT hZ (hw _ (List.mem_of_getElem? (i := 1) rfl))) (mvT hZ (hw _ (List.mem_of_getElem? (i := 2) rfl))) (mvT hZ (hw _ (List.mem_of_getElem? (i := 3) rfl))) (mvT hZ (hw _ (List.mem_of_getElem? (i := 4) rfl))) (by decide) (backOf (W := 2) (rm1 l Z a0 hw [] q3 (1 : Int32) h3 n0 ZZ3) hZ (hw _ (List.mem_of_getElem? (i := 4) rfl)) (hw _ (List.mem_of_getElem? (i := 3) rfl)) (by decide) (by decide)) (g := (mkF m 20 #[.val (.int p1), .val (.int p2), .val (.long q3), .second, .val (.long q4), .second, .val (.ref o), .unset, .unset, .unset, .unset] [(.int (1 : Int32)), (.long q3), (.int (1 : Int32)), (.ref o)])) rfl (by rw [hml]; rfl) (argsL := [(.long q3), (.int (1 : Int32))]) (rest := [(.int (1 : Int32)), (.ref o)]) (lenOf pd_0 rfl) rfl (by show 2 * 0 + _ ≤ _; exact Nat.le_of_eq rfl) (hb hby at_20) (fun _ _ => ⟨rfl, e3, (by decide : 1 + 0 ≤ _), (by decide : 12 + 0 ≤ _)⟩)
  dsimp only [Pt.U, Pt.locs, Pt.cells, Pt.slots] at X4 l4 y4 z4 st4 hQ4
  subst l4 y4 z4
  obtain ⟨z, rfl, N4q, hH4⟩ := hQ4
  have N4 := Fr.app N3 N4q
  obtain ⟨lo4, X4, N4⟩ := own_pack X4 N4
  replace X4 : Stand p l e _ s m _ below meth c T4 _ 1 12 := X4
  refine own_adv (B := (T4.setTop (mkF m 23 #[.val (.int p1), .val (.int p2), .val (.long q3), .second, .val (.long q4), .second, .val (.ref o), .unset, .unset, .unset, .unset] [(.int z), (.int (1 : Int32)), (.ref o)]))) (fun t kS => st4 t kS) ?_
  obtain ⟨T5, h5, X5, e5, W5, st5⟩ := stB X4 hx hZ hH4 Ar1 (j := (1 : Int32)) (inb_of S1 ⟨by decide, by decide⟩) (g := (mkF m 23 #[.val (.int p1), .val (.int p2), .val (.long q3), .second, .val (.long q4), .second, .val (.ref o), .unset, .unset, .unset, .unset] [(.int z), (.int (1 : Int32)), (.ref o)])) rfl rfl (hb hby at_23)
  have N5 := Fr.snoc X5 N4 g_o
  obtain ⟨lo5, X5, N5⟩ := own_pack X5 N5
  refine own_adv (B := (T5.setTop (mkF m 24 #[.val (.int p1), .val (.int p2), .val (.long q3), .second, .val (.long q4), .second, .val (.ref o), .unset, .unset, .unset, .unset] []))) st5 ?_
  obtain ⟨c2, Ar2, S2⟩ : ∃ c0 : Cell, Arr Z h5 o c0 .byte ∧ c0.slots.size = (12 : Int32).toNatClampNeg := ⟨_, Ar1.same W5, by rw [sz_set]; exact S1⟩
  have ZZ5 : n0 ≤ h5.size := Nat.le_trans ZZ3 (Keep.of_wr W5).1
  refine own_adv (B := (T5.setTop (mkF m 29 #[.val (.int p1), .val (.int p2), .val (.long q3), .second, .val (.long q4), .second, .val (.ref o), .unset, .unset, .unset, .unset] [(.int (2 : Int32)), (.long q3), (.int (2 : Int32)), (.ref o)]))) (fun t kS => ?_) ?_
  · show Steps p.tables e below (T5.setTop (mkF m 24 #[.val (.int p1), .val (.int p2), .val (.long q3), .second, .val (.long q4), .second, .val (.ref o), .unset, .unset, .unset, .unset] [])) _
    refine XS.aload X5.here hx rfl (hb hby at_24) rfl rfl ?_
    show Steps p.tables e below (T5.setTop (mkF m 26 #[.val (.int p1), .val (.int p2), .val (.long q3), .second, .val (.long q4), .second, .val (.ref o), .unset, .unset, .unset, .unset] [(.ref o)])) _
    refine XS.iconst X5.here hx rfl (hb hby at_26) ?_
    show Steps p.tables e below (T5.setTop (mkF m 27 #[.val (.int p1), .val (.int p2), .val (.long q3), .second, .val (.long q4), .second, .val (.ref o), .unset, .unset, .unset, .unset] [(.int (2 : Int32)), (.ref o)])) _
    refine XS.lloadN X5.here hx rfl (hb hby at_27) rfl ?_
    show Steps p.tables e below (T5.setTop (mkF m 28 #[.val (.int p1), .val (.int p2), .val (.long q3), .second, .val (.long q4), .second, .val (.ref o), .unset, .unset, .unset, .unset] [(.long q3), (.int (2 : Int32)), (.ref o)])) _
    refine XS.iconst X5.here hx rfl (hb hby at_28) ?_
    exact kS
  obtain ⟨_, _, ⟨T6, L6, k6, n6⟩, -, X6, ⟨Lc6, hQ6, l6, y6, z6⟩, st6⟩ := Jvm.LawKit.callS X5 hx (y := (⟨"org/sipwright/message/SipParserBodyStartPinLaw", "b", "(JI)B"⟩ : MethodName)) hown (mvT hZ (hw _ (List.mem_of_getElem? (i := 1) rfl))) (mvT hZ (hw _ (List.mem_of_getElem? (i := 2) rfl))) (mvT hZ (hw _ (List.mem_of_getElem? (i := 3) rfl))) (mvT hZ (hw _ (List.mem_of_getElem? (i := 4) rfl))) (by decide) (backOf (W := 2) (rm1 l Z a0 hw [] q3 (2 : Int32) h5 n0 ZZ5) hZ (hw _ (List.mem_of_getElem? (i := 4) rfl)) (hw _ (List.mem_of_getElem? (i := 3) rfl)) (by decide) (by decide)) (g := (mkF m 29 #[.val (.int p1), .val (.int p2), .val (.long q3), .second, .val (.long q4), .second, .val (.ref o), .unset, .unset, .unset, .unset] [(.int (2 : Int32)), (.long q3), (.int (2 : Int32)), (.ref o)])) rfl (by rw [hml]; rfl) (argsL := [(.long q3), (.int (2 : Int32))]) (rest := [(.int (2 : Int32)), (.ref o)]) (lenOf pd_0 rfl) rfl (by show 2 * 0 + _ ≤ _; exact Nat.le_of_eq rfl) (hb hby at_29) (fun _ _ => ⟨rfl, e5, (by decide : 1 + 0 ≤ _), (by decide : 12 + 0 ≤ _)⟩)
  dsimp only [Pt.U, Pt.locs, Pt.cells, Pt.slots] at X6 l6 y6 z6 st6 hQ6
  subst l6 y6 z6
  obtain ⟨z, rfl, N6q, hH6⟩ := hQ6
  have N6 := Fr.app N5 N6q
  obtain ⟨lo6, X6, N6⟩ := own_pack X6 N6
  replace X6 : Stand p l e _ s m _ below meth c T6 _ 1 12 := X6
  refine own_adv (B := (T6.setTop (mkF m 32 #[.val (.int p1), .val (.int p2), .val (.long q3), .second, .val (.long q4), .second, .val (.ref o), .unset, .unset, .unset, .unset] [(.int z), (.int (2 : Int32)), (.ref o)]))) (fun t kS => st6 t kS) ?_
  obtain ⟨T7, h7, X7, e7, W7, st7⟩ := stB X6 hx hZ hH6 Ar2 (j := (2 : Int32)) (inb_of S2 ⟨by decide, by decide⟩) (g := (mkF m 32 #[.val (.int p1), .val (.int p2), .val (.long q3), .second, .val (.long q4), .second, .val (.ref o), .unset, .unset, .unset, .unset] [(.int z), (.int (2 : Int32)), (.ref o)])) rfl rfl (hb hby at_32)
  have N7 := Fr.snoc X7 N6 g_o
  obtain ⟨lo7, X7, N7⟩ := own_pack X7 N7
  refine own_adv (B := (T7.setTop (mkF m 33 #[.val (.int p1), .val (.int p2), .val (.long q3), .second, .val (.long q4), .second, .val (.ref o), .unset, .unset, .unset, .unset] []))) st7 ?_
  obtain ⟨c3, Ar3, S3⟩ : ∃ c0 : Cell, Arr Z h7 o c0 .byte ∧ c0.slots.size = (12 : Int32).toNatClampNeg := ⟨_, Ar2.same W7, by rw [sz_set]; exact S2⟩
  have ZZ7 : n0 ≤ h7.size := Nat.le_trans ZZ5 (Keep.of_wr W7).1
  refine own_adv (B := (T7.setTop (mkF m 38 #[.val (.int p1), .val (.int p2), .val (.long q3), .second, .val (.long q4), .second, .val (.ref o), .unset, .unset, .unset, .unset] [(.int (3 : Int32)), (.long q3), (.int (3 : Int32)), (.ref o)]))) (fun t kS => ?_) ?_
  · show Steps p.tables e below (T7.setTop (mkF m 33 #[.val (.int p1), .val (.int p2), .val (.long q3), .second, .val (.long q4), .second, .val (.ref o), .unset, .unset, .unset, .unset] [])) _
    refine XS.aload X7.here hx rfl (hb hby at_33) rfl rfl ?_
    show Steps p.tables e below (T7.setTop (mkF m 35 #[.val (.int p1), .val (.int p2), .val (.long q3), .second, .val (.long q4), .second, .val (.ref o), .unset, .unset, .unset, .unset] [(.ref o)])) _
    refine XS.iconst X7.here hx rfl (hb hby at_35) ?_
    show Steps p.tables e below (T7.setTop (mkF m 36 #[.val (.int p1), .val (.int p2), .val (.long q3), .second, .val (.long q4), .second, .val (.ref o), .unset, .unset, .unset, .unset] [(.int (3 : Int32)), (.ref o)])) _
    refine XS.lloadN X7.here hx rfl (hb hby at_36) rfl ?_
    show Steps p.tables e below (T7.setTop (mkF m 37 #[.val (.int p1), .val (.int p2), .val (.long q3), .second, .val (.long q4), .second, .val (.ref o), .unset, .unset, .unset, .unset] [(.long q3), (.int (3 : Int32)), (.ref o)])) _
    refine XS.iconst X7.here hx rfl (hb hby at_37) ?_
    exact kS
  obtain ⟨_, _, ⟨T8, L8, k8, n8⟩, -, X8, ⟨Lc8, hQ8, l8, y8, z8⟩, st8⟩ := Jvm.LawKit.callS X7 hx (y := (⟨"org/sipwright/message/SipParserBodyStartPinLaw", "b", "(JI)B"⟩ : MethodName)) hown (mvT hZ (hw _ (List.mem_of_getElem? (i := 1) rfl))) (mvT hZ (hw _ (List.mem_of_getElem? (i := 2) rfl))) (mvT hZ (hw _ (List.mem_of_getElem? (i := 3) rfl))) (mvT hZ (hw _ (List.mem_of_getElem? (i := 4) rfl))) (by decide) (backOf (W := 2) (rm1 l Z a0 hw [] q3 (3 : Int32) h7 n0 ZZ7) hZ (hw _ (List.mem_of_getElem? (i := 4) rfl)) (hw _ (List.mem_of_getElem? (i := 3) rfl)) (by decide) (by decide)) (g := (mkF m 38 #[.val (.int p1), .val (.int p2), .val (.long q3), .second, .val (.long q4), .second, .val (.ref o), .unset, .unset, .unset, .unset] [(.int (3 : Int32)), (.long q3), (.int (3 : Int32)), (.ref o)])) rfl (by rw [hml]; rfl) (argsL := [(.long q3), (.int (3 : Int32))]) (rest := [(.int (3 : Int32)), (.ref o)]) (lenOf pd_0 rfl) rfl (by show 2 * 0 + _ ≤ _; exact Nat.le_of_eq rfl) (hb hby at_38) (fun _ _ => ⟨rfl, e7, (by decide : 1 + 0 ≤ _), (by decide : 12 + 0 ≤ _)⟩)
  dsimp only [Pt.U, Pt.locs, Pt.cells, Pt.slots] at X8 l8 y8 z8 st8 hQ8
  subst l8 y8 z8
  obtain ⟨z, rfl, N8q, hH8⟩ := hQ8
  have N8 := Fr.app N7 N8q
  obtain ⟨lo8, X8, N8⟩ := own_pack X8 N8
  replace X8 : Stand p l e _ s m _ below meth c T8 _ 1 12 := X8
  refine own_adv (B := (T8.setTop (mkF m 41 #[.val (.int p1), .val (.int p2), .val (.long q3), .second, .val (.long q4), .second, .val (.ref o), .unset, .unset, .unset, .unset] [(.int z), (.int (3 : Int32)), (.ref o)]))) (fun t kS => st8 t kS) ?_
  obtain ⟨T9, h9, X9, e9, W9, st9⟩ := stB X8 hx hZ hH8 Ar3 (j := (3 : Int32)) (inb_of S3 ⟨by decide, by decide⟩) (g := (mkF m 41 #[.val (.int p1), .val (.int p2), .val (.long q3), .second, .val (.long q4), .second, .val (.ref o), .unset, .unset, .unset, .unset] [(.int z), (.int (3 : Int32)), (.ref o)])) rfl rfl (hb hby at_41)
  have N9 := Fr.snoc X9 N8 g_o
  obtain ⟨lo9, X9, N9⟩ := own_pack X9 N9
  refine own_adv (B := (T9.setTop (mkF m 42 #[.val (.int p1), .val (.int p2), .val (.long q3), .second, .val (.long q4), .second, .val (.ref o), .unset, .unset, .unset, .unset] []))) st9 ?_
  obtain ⟨c4, Ar4, S4⟩ : ∃ c0 : Cell, Arr Z h9 o c0 .byte ∧ c0.slots.size = (12 : Int32).toNatClampNeg := ⟨_, Ar3.same W9, by rw [sz_set]; exact S3⟩
  have ZZ9 : n0 ≤ h9.size := Nat.le_trans ZZ7 (Keep.of_wr W9).1
  refine own_adv (B := (T9.setTop (mkF m 47 #[.val (.int p1), .val (.int p2), .val (.long q3), .second, .val (.long q4), .second, .val (.ref o), .unset, .unset, .unset, .unset] [(.int (4 : Int32)), (.long q3), (.int (4 : Int32)), (.ref o)]))) (fun t kS => ?_) ?_
  · show Steps p.tables e below (T9.setTop (mkF m 42 #[.val (.int p1), .val (.int p2), .val (.long q3), .second, .val (.long q4), .second, .val (.ref o), .unset, .unset, .unset, .unset] [])) _
    refine XS.aload X9.here hx rfl (hb hby at_42) rfl rfl ?_
    show Steps p.tables e below (T9.setTop (mkF m 44 #[.val (.int p1), .val (.int p2), .val (.long q3), .second, .val (.long q4), .second, .val (.ref o), .unset, .unset, .unset, .unset] [(.ref o)])) _
    refine XS.iconst X9.here hx rfl (hb hby at_44) ?_
    show Steps p.tables e below (T9.setTop (mkF m 45 #[.val (.int p1), .val (.int p2), .val (.long q3), .second, .val (.long q4), .second, .val (.ref o), .unset, .unset, .unset, .unset] [(.int (4 : Int32)), (.ref o)])) _
    refine XS.lloadN X9.here hx rfl (hb hby at_45) rfl ?_
    show Steps p.tables e below (T9.setTop (mkF m 46 #[.val (.int p1), .val (.int p2), .val (.long q3), .second, .val (.long q4), .second, .val (.ref o), .unset, .unset, .unset, .unset] [(.long q3), (.int (4 : Int32)), (.ref o)])) _
    refine XS.iconst X9.here hx rfl (hb hby at_46) ?_
    exact kS
  obtain ⟨_, _, ⟨T10, L10, k10, n10⟩, -, X10, ⟨Lc10, hQ10, l10, y10, z10⟩, st10⟩ := Jvm.LawKit.callS X9 hx (y := (⟨"org/sipwright/message/SipParserBodyStartPinLaw", "b", "(JI)B"⟩ : MethodName)) hown (mvT hZ (hw _ (List.mem_of_getElem? (i := 1) rfl))) (mvT hZ (hw _ (List.mem_of_getElem? (i := 2) rfl))) (mvT hZ (hw _ (List.mem_of_getElem? (i := 3) rfl))) (mvT hZ (hw _ (List.mem_of_getElem? (i := 4) rfl))) (by decide) (backOf (W := 2) (rm1 l Z a0 hw [] q3 (4 : Int32) h9 n0 ZZ9) hZ (hw _ (List.mem_of_getElem? (i := 4) rfl)) (hw _ (List.mem_of_getElem? (i := 3) rfl)) (by decide) (by decide)) (g := (mkF m 47 #[.val (.int p1), .val (.int p2), .val (.long q3), .second, .val (.long q4), .second, .val (.ref o), .unset, .unset, .unset, .unset] [(.int (4 : Int32)), (.long q3), (.int (4 : Int32)), (.ref o)])) rfl (by rw [hml]; rfl) (argsL := [(.long q3), (.int (4 : Int32))]) (rest := [(.int (4 : Int32)), (.ref o)]) (lenOf pd_0 rfl) rfl (by show 2 * 0 + _ ≤ _; exact Nat.le_of_eq rfl) (hb hby at_47) (fun _ _ => ⟨rfl, e9, (by decide : 1 + 0 ≤ _), (by decide : 12 + 0 ≤ _)⟩)
  dsimp only [Pt.U, Pt.locs, Pt.cells, Pt.slots] at X10 l10 y10 z10 st10 hQ10
  subst l10 y10 z10
  obtain ⟨z, rfl, N10q, hH10⟩ := hQ10
  have N10 := Fr.app N9 N10q
  obtain ⟨lo10, X10, N10⟩ := own_pack X10 N10
  replace X10 : Stand p l e _ s m _ below meth c T10 _ 1 12 := X10
  refine own_adv (B := (T10.setTop (mkF m 50 #[.val (.int p1), .val (.int p2), .val (.long q3), .second, .val (.long q4), .second, .val (.ref o), .unset, .unset, .unset, .unset] [(.int z), (.int (4 : Int32)), (.ref o)]))) (fun t kS => st10 t kS) ?_
  obtain ⟨T11, h11, X11, e11, W11, st11⟩ := stB X10 hx hZ hH10 Ar4 (j := (4 : Int32)) (inb_of S4 ⟨by decide, by decide⟩) (g := (mkF m 50 #[.val (.int p1), .val (.int p2), .val (.long q3), .second, .val (.long q4), .second, .val (.ref o), .unset, .unset, .unset, .unset] [(.int z), (.int (4 : Int32)), (.ref o)])) rfl rfl (hb hby at_50)
  have N11 := Fr.snoc X11 N10 g_o
  obtain ⟨lo11, X11, N11⟩ := own_pack X11 N11
  refine own_adv (B := (T11.setTop (mkF m 51 #[.val (.int p1), .val (.int p2), .val (.long q3), .second, .val (.long q4), .second, .val (.ref o), .unset, .unset, .unset, .unset] []))) st11 ?_
  obtain ⟨c5, Ar5, S5⟩ : ∃ c0 : Cell, Arr Z h11 o c0 .byte ∧ c0.slots.size = (12 : Int32).toNatClampNeg := ⟨_, Ar4.same W11, by rw [sz_set]; exact S4⟩
  have ZZ11 : n0 ≤ h11.size := Nat.le_trans ZZ9 (Keep.of_wr W11).1
  refine own_adv (B := (T11.setTop (mkF m 56 #[.val (.int p1), .val (.int p2), .val (.long q3), .second, .val (.long q4), .second, .val (.ref o), .unset, .unset, .unset, .unset] [(.int (5 : Int32)), (.long q3), (.int (5 : Int32)), (.ref o)]))) (fun t kS => ?_) ?_
  · show Steps p.tables e below (T11.setTop (mkF m 51 #[.val (.int p1), .val (.int p2), .val (.long q3), .second, .val (.long q4), .second, .val (.ref o), .unset, .unset, .unset, .unset] [])) _
    refine XS.aload X11.here hx rfl (hb hby at_51) rfl rfl ?_
    show Steps p.tables e below (T11.setTop (mkF m 53 #[.val (.int p1), .val (.int p2), .val (.long q3), .second, .val (.long q4), .second, .val (.ref o), .unset, .unset, .unset, .unset] [(.ref o)])) _
    refine XS.iconst X11.here hx rfl (hb hby at_53) ?_
    show Steps p.tables e below (T11.setTop (mkF m 54 #[.val (.int p1), .val (.int p2), .val (.long q3), .second, .val (.long q4), .second, .val (.ref o), .unset, .unset, .unset, .unset] [(.int (5 : Int32)), (.ref o)])) _
    refine XS.lloadN X11.here hx rfl (hb hby at_54) rfl ?_
    show Steps p.tables e below (T11.setTop (mkF m 55 #[.val (.int p1), .val (.int p2), .val (.long q3), .second, .val (.long q4), .second, .val (.ref o), .unset, .unset, .unset, .unset] [(.long q3), (.int (5 : Int32)), (.ref o)])) _
    refine XS.iconst X11.here hx rfl (hb hby at_55) ?_
    exact kS
  obtain ⟨_, _, ⟨T12, L12, k12, n12⟩, -, X12, ⟨Lc12, hQ12, l12, y12, z12⟩, st12⟩ := Jvm.LawKit.callS X11 hx (y := (⟨"org/sipwright/message/SipParserBodyStartPinLaw", "b", "(JI)B"⟩ : MethodName)) hown (mvT hZ (hw _ (List.mem_of_getElem? (i := 1) rfl))) (mvT hZ (hw _ (List.mem_of_getElem? (i := 2) rfl))) (mvT hZ (hw _ (List.mem_of_getElem? (i := 3) rfl))) (mvT hZ (hw _ (List.mem_of_getElem? (i := 4) rfl))) (by decide) (backOf (W := 2) (rm1 l Z a0 hw [] q3 (5 : Int32) h11 n0 ZZ11) hZ (hw _ (List.mem_of_getElem? (i := 4) rfl)) (hw _ (List.mem_of_getElem? (i := 3) rfl)) (by decide) (by decide)) (g := (mkF m 56 #[.val (.int p1), .val (.int p2), .val (.long q3), .second, .val (.long q4), .second, .val (.ref o), .unset, .unset, .unset, .unset] [(.int (5 : Int32)), (.long q3), (.int (5 : Int32)), (.ref o)])) rfl (by rw [hml]; rfl) (argsL := [(.long q3), (.int (5 : Int32))]) (rest := [(.int (5 : Int32)), (.ref o)]) (lenOf pd_0 rfl) rfl (by show 2 * 0 + _ ≤ _; exact Nat.le_of_eq rfl) (hb hby at_56) (fun _ _ => ⟨rfl, e11, (by decide : 1 + 0 ≤ _), (by decide : 12 + 0 ≤ _)⟩)
  dsimp only [Pt.U, Pt.locs, Pt.cells, Pt.slots] at X12 l12 y12 z12 st12 hQ12
  subst l12 y12 z12
  obtain ⟨z, rfl, N12q, hH12⟩ := hQ12
  have N12 := Fr.app N11 N12q
  obtain ⟨lo12, X12, N12⟩ := own_pack X12 N12
  replace X12 : Stand p l e _ s m _ below meth c T12 _ 1 12 := X12
  refine own_adv (B := (T12.setTop (mkF m 59 #[.val (.int p1), .val (.int p2), .val (.long q3), .second, .val (.long q4), .second, .val (.ref o), .unset, .unset, .unset, .unset] [(.int z), (.int (5 : Int32)), (.ref o)]))) (fun t kS => st12 t kS) ?_
  obtain ⟨T13, h13, X13, e13, W13, st13⟩ := stB X12 hx hZ hH12 Ar5 (j := (5 : Int32)) (inb_of S5 ⟨by decide, by decide⟩) (g := (mkF m 59 #[.val (.int p1), .val (.int p2), .val (.long q3), .second, .val (.long q4), .second, .val (.ref o), .unset, .unset, .unset, .unset] [(.int z), (.int (5 : Int32)), (.ref o)])) rfl rfl (hb hby at_59)
  have N13 := Fr.snoc X13 N12 g_o
  obtain ⟨lo13, X13, N13⟩ := own_pack X13 N13
  refine own_adv (B := (T13.setTop (mkF m 60 #[.val (.int p1), .val (.int p2), .val (.long q3), .second, .val (.long q4), .second, .val (.ref o), .unset, .unset, .unset, .unset] []))) st13 ?_
  obtain ⟨c6, Ar6, S6⟩ : ∃ c0 : Cell, Arr Z h13 o c0 .byte ∧ c0.slots.size = (12 : Int32).toNatClampNeg := ⟨_, Ar5.same W13, by rw [sz_set]; exact S5⟩
  have ZZ13 : n0 ≤ h13.size := Nat.le_trans ZZ11 (Keep.of_wr W13).1
  refine own_adv (B := (T13.setTop (mkF m 67 #[.val (.int p1), .val (.int p2), .val (.long q3), .second, .val (.long q4), .second, .val (.ref o), .unset, .unset, .unset, .unset] [(.int (6 : Int32)), (.long q3), (.int (6 : Int32)), (.ref o)]))) (fun t kS => ?_) ?_
  · show Steps p.tables e below (T13.setTop (mkF m 60 #[.val (.int p1), .val (.int p2), .val (.long q3), .second, .val (.long q4), .second, .val (.ref o), .unset, .unset, .unset, .unset] [])) _
    refine XS.aload X13.here hx rfl (hb hby at_60) rfl rfl ?_
    show Steps p.tables e below (T13.setTop (mkF m 62 #[.val (.int p1), .val (.int p2), .val (.long q3), .second, .val (.long q4), .second, .val (.ref o), .unset, .unset, .unset, .unset] [(.ref o)])) _
    refine XS.bipush X13.here hx rfl (hb hby at_62) ?_
    show Steps p.tables e below (T13.setTop (mkF m 64 #[.val (.int p1), .val (.int p2), .val (.long q3), .second, .val (.long q4), .second, .val (.ref o), .unset, .unset, .unset, .unset] [(.int (6 : Int32)), (.ref o)])) _
    refine XS.lloadN X13.here hx rfl (hb hby at_64) rfl ?_
    show Steps p.tables e below (T13.setTop (mkF m 65 #[.val (.int p1), .val (.int p2), .val (.long q3), .second, .val (.long q4), .second, .val (.ref o), .unset, .unset, .unset, .unset] [(.long q3), (.int (6 : Int32)), (.ref o)])) _
    refine XS.bipush X13.here hx rfl (hb hby at_65) ?_
    exact kS
  obtain ⟨_, _, ⟨T14, L14, k14, n14⟩, -, X14, ⟨Lc14, hQ14, l14, y14, z14⟩, st14⟩ := Jvm.LawKit.callS X13 hx (y := (⟨"org/sipwright/message/SipParserBodyStartPinLaw", "b", "(JI)B"⟩ : MethodName)) hown (mvT hZ (hw _ (List.mem_of_getElem? (i := 1) rfl))) (mvT hZ (hw _ (List.mem_of_getElem? (i := 2) rfl))) (mvT hZ (hw _ (List.mem_of_getElem? (i := 3) rfl))) (mvT hZ (hw _ (List.mem_of_getElem? (i := 4) rfl))) (by decide) (backOf (W := 2) (rm1 l Z a0 hw [] q3 (6 : Int32) h13 n0 ZZ13) hZ (hw _ (List.mem_of_getElem? (i := 4) rfl)) (hw _ (List.mem_of_getElem? (i := 3) rfl)) (by decide) (by decide)) (g := (mkF m 67 #[.val (.int p1), .val (.int p2), .val (.long q3), .second, .val (.long q4), .second, .val (.ref o), .unset, .unset, .unset, .unset] [(.int (6 : Int32)), (.long q3), (.int (6 : Int32)), (.ref o)])) rfl (by rw [hml]; rfl) (argsL := [(.long q3), (.int (6 : Int32))]) (rest := [(.int (6 : Int32)), (.ref o)]) (lenOf pd_0 rfl) rfl (by show 2 * 0 + _ ≤ _; exact Nat.le_of_eq rfl) (hb hby at_67) (fun _ _ => ⟨rfl, e13, (by decide : 1 + 0 ≤ _), (by decide : 12 + 0 ≤ _)⟩)
  dsimp only [Pt.U, Pt.locs, Pt.cells, Pt.slots] at X14 l14 y14 z14 st14 hQ14
  subst l14 y14 z14
  obtain ⟨z, rfl, N14q, hH14⟩ := hQ14
  have N14 := Fr.app N13 N14q
  obtain ⟨lo14, X14, N14⟩ := own_pack X14 N14
  replace X14 : Stand p l e _ s m _ below meth c T14 _ 1 12 := X14
  refine own_adv (B := (T14.setTop (mkF m 70 #[.val (.int p1), .val (.int p2), .val (.long q3), .second, .val (.long q4), .second, .val (.ref o), .unset, .unset, .unset, .unset] [(.int z), (.int (6 : Int32)), (.ref o)]))) (fun t kS => st14 t kS) ?_
  obtain ⟨T15, h15, X15, e15, W15, st15⟩ := stB X14 hx hZ hH14 Ar6 (j := (6 : Int32)) (inb_of S6 ⟨by decide, by decide⟩) (g := (mkF m 70 #[.val (.int p1), .val (.int p2), .val (.long q3), .second, .val (.long q4), .second, .val (.ref o), .unset, .unset, .unset, .unset] [(.int z), (.int (6 : Int32)), (.ref o)])) rfl rfl (hb hby at_70)
  have N15 := Fr.snoc X15 N14 g_o
  obtain ⟨lo15, X15, N15⟩ := own_pack X15 N15
  refine own_adv (B := (T15.setTop (mkF m 71 #[.val (.int p1), .val (.int p2), .val (.long q3), .second, .val (.long q4), .second, .val (.ref o), .unset, .unset, .unset, .unset] []))) st15 ?_
  obtain ⟨c7, Ar7, S7⟩ : ∃ c0 : Cell, Arr Z h15 o c0 .byte ∧ c0.slots.size = (12 : Int32).toNatClampNeg := ⟨_, Ar6.same W15, by rw [sz_set]; exact S6⟩
  have ZZ15 : n0 ≤ h15.size := Nat.le_trans ZZ13 (Keep.of_wr W15).1
  refine own_adv (B := (T15.setTop (mkF m 78 #[.val (.int p1), .val (.int p2), .val (.long q3), .second, .val (.long q4), .second, .val (.ref o), .unset, .unset, .unset, .unset] [(.int (7 : Int32)), (.long q3), (.int (7 : Int32)), (.ref o)]))) (fun t kS => ?_) ?_
  · show Steps p.tables e below (T15.setTop (mkF m 71 #[.val (.int p1), .val (.int p2), .val (.long q3), .second, .val (.long q4), .second, .val (.ref o), .unset, .unset, .unset, .unset] [])) _
    refine XS.aload X15.here hx rfl (hb hby at_71) rfl rfl ?_
    show Steps p.tables e below (T15.setTop (mkF m 73 #[.val (.int p1), .val (.int p2), .val (.long q3), .second, .val (.long q4), .second, .val (.ref o), .unset, .unset, .unset, .unset] [(.ref o)])) _
    refine XS.bipush X15.here hx rfl (hb hby at_73) ?_
    show Steps p.tables e below (T15.setTop (mkF m 75 #[.val (.int p1), .val (.int p2), .val (.long q3), .second, .val (.long q4), .second, .val (.ref o), .unset, .unset, .unset, .unset] [(.int (7 : Int32)), (.ref o)])) _
    refine XS.lloadN X15.here hx rfl (hb hby at_75) rfl ?_
    show Steps p.tables e below (T15.setTop (mkF m 76 #[.val (.int p1), .val (.int p2), .val (.long q3), .second, .val (.long q4), .second, .val (.ref o), .unset, .unset, .unset, .unset] [(.long q3), (.int (7 : Int32)), (.ref o)])) _
    refine XS.bipush X15.here hx rfl (hb hby at_76) ?_
    exact kS
  obtain ⟨_, _, ⟨T16, L16, k16, n16⟩, -, X16, ⟨Lc16, hQ16, l16, y16, z16⟩, st16⟩ := Jvm.LawKit.callS X15 hx (y := (⟨"org/sipwright/message/SipParserBodyStartPinLaw", "b", "(JI)B"⟩ : MethodName)) hown (mvT hZ (hw _ (List.mem_of_getElem? (i := 1) rfl))) (mvT hZ (hw _ (List.mem_of_getElem? (i := 2) rfl))) (mvT hZ (hw _ (List.mem_of_getElem? (i := 3) rfl))) (mvT hZ (hw _ (List.mem_of_getElem? (i := 4) rfl))) (by decide) (backOf (W := 2) (rm1 l Z a0 hw [] q3 (7 : Int32) h15 n0 ZZ15) hZ (hw _ (List.mem_of_getElem? (i := 4) rfl)) (hw _ (List.mem_of_getElem? (i := 3) rfl)) (by decide) (by decide)) (g := (mkF m 78 #[.val (.int p1), .val (.int p2), .val (.long q3), .second, .val (.long q4), .second, .val (.ref o), .unset, .unset, .unset, .unset] [(.int (7 : Int32)), (.long q3), (.int (7 : Int32)), (.ref o)])) rfl (by rw [hml]; rfl) (argsL := [(.long q3), (.int (7 : Int32))]) (rest := [(.int (7 : Int32)), (.ref o)]) (lenOf pd_0 rfl) rfl (by show 2 * 0 + _ ≤ _; exact Nat.le_of_eq rfl) (hb hby at_78) (fun _ _ => ⟨rfl, e15, (by decide : 1 + 0 ≤ _), (by decide : 12 + 0 ≤ _)⟩)
  dsimp only [Pt.U, Pt.locs, Pt.cells, Pt.slots] at X16 l16 y16 z16 st16 hQ16
  subst l16 y16 z16
  obtain ⟨z, rfl, N16q, hH16⟩ := hQ16
  have N16 := Fr.app N15 N16q
  obtain ⟨lo16, X16, N16⟩ := own_pack X16 N16
  replace X16 : Stand p l e _ s m _ below meth c T16 _ 1 12 := X16
  refine own_adv (B := (T16.setTop (mkF m 81 #[.val (.int p1), .val (.int p2), .val (.long q3), .second, .val (.long q4), .second, .val (.ref o), .unset, .unset, .unset, .unset] [(.int z), (.int (7 : Int32)), (.ref o)]))) (fun t kS => st16 t kS) ?_
  obtain ⟨T17, h17, X17, e17, W17, st17⟩ := stB X16 hx hZ hH16 Ar7 (j := (7 : Int32)) (inb_of S7 ⟨by decide, by decide⟩) (g := (mkF m 81 #[.val (.int p1), .val (.int p2), .val (.long q3), .second, .val (.long q4), .second, .val (.ref o), .unset, .unset, .unset, .unset] [(.int z), (.int (7 : Int32)), (.ref o)])) rfl rfl (hb hby at_81)
  have N17 := Fr.snoc X17 N16 g_o
  obtain ⟨lo17, X17, N17⟩ := own_pack X17 N17
  refine own_adv (B := (T17.setTop (mkF m 82 #[.val (.int p1), .val (.int p2), .val (.long q3), .second, .val (.long q4), .second, .val (.ref o), .unset, .unset, .unset, .unset] []))) st17 ?_
  obtain ⟨c8, Ar8, S8⟩ : ∃ c0 : Cell, Arr Z h17 o c0 .byte ∧ c0.slots.size = (12 : Int32).toNatClampNeg := ⟨_, Ar7.same W17, by rw [sz_set]; exact S7⟩
  have ZZ17 : n0 ≤ h17.size := Nat.le_trans ZZ15 (Keep.of_wr W17).1
  refine own_adv (B := (T17.setTop (mkF m 89 #[.val (.int p1), .val (.int p2), .val (.long q3), .second, .val (.long q4), .second, .val (.ref o), .unset, .unset, .unset, .unset] [(.int (0 : Int32)), (.long q4), (.int (8 : Int32)), (.ref o)]))) (fun t kS => ?_) ?_
  · show Steps p.tables e below (T17.setTop (mkF m 82 #[.val (.int p1), .val (.int p2), .val (.long q3), .second, .val (.long q4), .second, .val (.ref o), .unset, .unset, .unset, .unset] [])) _
    refine XS.aload X17.here hx rfl (hb hby at_82) rfl rfl ?_
    show Steps p.tables e below (T17.setTop (mkF m 84 #[.val (.int p1), .val (.int p2), .val (.long q3), .second, .val (.long q4), .second, .val (.ref o), .unset, .unset, .unset, .unset] [(.ref o)])) _
    refine XS.bipush X17.here hx rfl (hb hby at_84) ?_
    show Steps p.tables e below (T17.setTop (mkF m 86 #[.val (.int p1), .val (.int p2), .val (.long q3), .second, .val (.long q4), .second, .val (.ref o), .unset, .unset, .unset, .unset] [(.int (8 : Int32)), (.ref o)])) _
    refine XS.lload X17.here hx rfl (hb hby at_86) rfl ?_
    show Steps p.tables e below (T17.setTop (mkF m 88 #[.val (.int p1), .val (.int p2), .val (.long q3), .second, .val (.long q4), .second, .val (.ref o), .unset, .unset, .unset, .unset] [(.long q4), (.int (8 : Int32)), (.ref o)])) _
    refine XS.iconst X17.here hx rfl (hb hby at_88) ?_
    exact kS
  obtain ⟨_, _, ⟨T18, L18, k18, n18⟩, -, X18, ⟨Lc18, hQ18, l18, y18, z18⟩, st18⟩ := Jvm.LawKit.callS X17 hx (y := (⟨"org/sipwright/message/SipParserBodyStartPinLaw", "b", "(JI)B"⟩ : MethodName)) hown (mvT hZ (hw _ (List.mem_of_getElem? (i := 1) rfl))) (mvT hZ (hw _ (List.mem_of_getElem? (i := 2) rfl))) (mvT hZ (hw _ (List.mem_of_getElem? (i := 3) rfl))) (mvT hZ (hw _ (List.mem_of_getElem? (i := 4) rfl))) (by decide) (backOf (W := 2) (rm1 l Z a0 hw [] q4 (0 : Int32) h17 n0 ZZ17) hZ (hw _ (List.mem_of_getElem? (i := 4) rfl)) (hw _ (List.mem_of_getElem? (i := 3) rfl)) (by decide) (by decide)) (g := (mkF m 89 #[.val (.int p1), .val (.int p2), .val (.long q3), .second, .val (.long q4), .second, .val (.ref o), .unset, .unset, .unset, .unset] [(.int (0 : Int32)), (.long q4), (.int (8 : Int32)), (.ref o)])) rfl (by rw [hml]; rfl) (argsL := [(.long q4), (.int (0 : Int32))]) (rest := [(.int (8 : Int32)), (.ref o)]) (lenOf pd_0 rfl) rfl (by show 2 * 0 + _ ≤ _; exact Nat.le_of_eq rfl) (hb hby at_89) (fun _ _ => ⟨rfl, e17, (by decide : 1 + 0 ≤ _), (by decide : 12 + 0 ≤ _)⟩)
  dsimp only [Pt.U, Pt.locs, Pt.cells, Pt.slots] at X18 l18 y18 z18 st18 hQ18
  subst l18 y18 z18
  obtain ⟨z, rfl, N18q, hH18⟩ := hQ18
  have N18 := Fr.app N17 N18q
  obtain ⟨lo18, X18, N18⟩ := own_pack X18 N18
  replace X18 : Stand p l e _ s m _ below meth c T18 _ 1 12 := X18
  refine own_adv (B := (T18.setTop (mkF m 92 #[.val (.int p1), .val (.int p2), .val (.long q3), .second, .val (.long q4), .second, .val (.ref o), .unset, .unset, .unset, .unset] [(.int z), (.int (8 : Int32)), (.ref o)]))) (fun t kS => st18 t kS) ?_
  obtain ⟨T19, h19, X19, e19, W19, st19⟩ := stB X18 hx hZ hH18 Ar8 (j := (8 : Int32)) (inb_of S8 ⟨by decide, by decide⟩) (g := (mkF m 92 #[.val (.int p1), .val (.int p2), .val (.long q3), .second, .val (.long q4), .second, .val (.ref o), .unset, .unset, .unset, .unset] [(.int z), (.int (8 : Int32)), (.ref o)])) rfl rfl (hb hby at_92)
  have N19 := Fr.snoc X19 N18 g_o
  obtain ⟨lo19, X19, N19⟩ := own_pack X19 N19
  refine own_adv (B := (T19.setTop (mkF m 93 #[.val (.int p1), .val (.int p2), .val (.long q3), .second, .val (.long q4), .second, .val (.ref o), .unset, .unset, .unset, .unset] []))) st19 ?_
  obtain ⟨c9, Ar9, S9⟩ : ∃ c0 : Cell, Arr Z h19 o c0 .byte ∧ c0.slots.size = (12 : Int32).toNatClampNeg := ⟨_, Ar8.same W19, by rw [sz_set]; exact S8⟩
  have ZZ19 : n0 ≤ h19.size := Nat.le_trans ZZ17 (Keep.of_wr W19).1
  refine own_adv (B := (T19.setTop (mkF m 100 #[.val (.int p1), .val (.int p2), .val (.long q3), .second, .val (.long q4), .second, .val (.ref o), .unset, .unset, .unset, .unset] [(.int (1 : Int32)), (.long q4), (.int (9 : Int32)), (.ref o)]))) (fun t kS => ?_) ?_
  · show Steps p.tables e below (T19.setTop (mkF m 93 #[.val (.int p1), .val (.int p2), .val (.long q3), .second, .val (.long q4), .second, .val (.ref o), .unset, .unset, .unset, .unset] [])) _
    refine XS.aload X19.here hx rfl (hb hby at_93) rfl rfl ?_
    show Steps p.tables e below (T19.setTop (mkF m 95 #[.val (.int p1), .val (.int p2), .val (.long q3), .second, .val (.long q4), .second, .val (.ref o), .unset, .unset, .unset, .unset] [(.ref o)])) _
    refine XS.bipush X19.here hx rfl (hb hby at_95) ?_
    show Steps p.tables e below (T19.setTop (mkF m 97 #[.val (.int p1), .val (.int p2), .val (.long q3), .second, .val (.long q4), .second, .val (.ref o), .unset, .unset, .unset, .unset] [(.int (9 : Int32)), (.ref o)])) _
    refine XS.lload X19.here hx rfl (hb hby at_97) rfl ?_
    show Steps p.tables e below (T19.setTop (mkF m 99 #[.val (.int p1), .val (.int p2), .val (.long q3), .second, .val (.long q4), .second, .val (.ref o), .unset, .unset, .unset, .unset] [(.long q4), (.int (9 : Int32)), (.ref o)])) _
    refine XS.iconst X19.here hx rfl (hb hby at_99) ?_
    exact kS
  obtain ⟨_, _, ⟨T20, L20, k20, n20⟩, -, X20, ⟨Lc20, hQ20, l20, y20, z20⟩, st20⟩ := Jvm.LawKit.callS X19 hx (y := (⟨"org/sipwright/message/SipParserBodyStartPinLaw", "b", "(JI)B"⟩ : MethodName)) hown (mvT hZ (hw _ (List.mem_of_getElem? (i := 1) rfl))) (mvT hZ (hw _ (List.mem_of_getElem? (i := 2) rfl))) (mvT hZ (hw _ (List.mem_of_getElem? (i := 3) rfl))) (mvT hZ (hw _ (List.mem_of_getElem? (i := 4) rfl))) (by decide) (backOf (W := 2) (rm1 l Z a0 hw [] q4 (1 : Int32) h19 n0 ZZ19) hZ (hw _ (List.mem_of_getElem? (i := 4) rfl)) (hw _ (List.mem_of_getElem? (i := 3) rfl)) (by decide) (by decide)) (g := (mkF m 100 #[.val (.int p1), .val (.int p2), .val (.long q3), .second, .val (.long q4), .second, .val (.ref o), .unset, .unset, .unset, .unset] [(.int (1 : Int32)), (.long q4), (.int (9 : Int32)), (.ref o)])) rfl (by rw [hml]; rfl) (argsL := [(.long q4), (.int (1 : Int32))]) (rest := [(.int (9 : Int32)), (.ref o)]) (lenOf pd_0 rfl) rfl (by show 2 * 0 + _ ≤ _; exact Nat.le_of_eq rfl) (hb hby at_100) (fun _ _ => ⟨rfl, e19, (by decide : 1 + 0 ≤ _), (by decide : 12 + 0 ≤ _)⟩)
  dsimp only [Pt.U, Pt.locs, Pt.cells, Pt.slots] at X20 l20 y20 z20 st20 hQ20
  subst l20 y20 z20
  obtain ⟨z, rfl, N20q, hH20⟩ := hQ20
  have N20 := Fr.app N19 N20q
  obtain ⟨lo20, X20, N20⟩ := own_pack X20 N20
  replace X20 : Stand p l e _ s m _ below meth c T20 _ 1 12 := X20
  refine own_adv (B := (T20.setTop (mkF m 103 #[.val (.int p1), .val (.int p2), .val (.long q3), .second, .val (.long q4), .second, .val (.ref o), .unset, .unset, .unset, .unset] [(.int z), (.int (9 : Int32)), (.ref o)]))) (fun t kS => st20 t kS) ?_
  obtain ⟨T21, h21, X21, e21, W21, st21⟩ := stB X20 hx hZ hH20 Ar9 (j := (9 : Int32)) (inb_of S9 ⟨by decide, by decide⟩) (g := (mkF m 103 #[.val (.int p1), .val (.int p2), .val (.long q3), .second, .val (.long q4), .second, .val (.ref o), .unset, .unset, .unset, .unset] [(.int z), (.int (9 : Int32)), (.ref o)])) rfl rfl (hb hby at_103)
  have N21 := Fr.snoc X21 N20 g_o
  obtain ⟨lo21, X21, N21⟩ := own_pack X21 N21
  refine own_adv (B := (T21.setTop (mkF m 104 #[.val (.int p1), .val (.int p2), .val (.long q3), .second, .val (.long q4), .second, .val (.ref o), .unset, .unset, .unset, .unset] []))) st21 ?_
  obtain ⟨c10, Ar10, S10⟩ : ∃ c0 : Cell, Arr Z h21 o c0 .byte ∧ c0.slots.size = (12 : Int32).toNatClampNeg := ⟨_, Ar9.same W21, by rw [sz_set]; exact S9⟩
  have ZZ21 : n0 ≤ h21.size := Nat.le_trans ZZ19 (Keep.of_wr W21).1
  refine own_adv (B := (T21.setTop (mkF m 111 #[.val (.int p1), .val (.int p2), .val (.long q3), .second, .val (.long q4), .second, .val (.ref o), .unset, .unset, .unset, .unset] [(.int (2 : Int32)), (.long q4), (.int (10 : Int32)), (.ref o)]))) (fun t kS => ?_) ?_
  · show Steps p.tables e below (T21.setTop (mkF m 104 #[.val (.int p1), .val (.int p2), .val (.long q3), .second, .val (.long q4), .second, .val (.ref o), .unset, .unset, .unset, .unset] [])) _
    refine XS.aload X21.here hx rfl (hb hby at_104) rfl rfl ?_
    show Steps p.tables e below (T21.setTop (mkF m 106 #[.val (.int p1), .val (.int p2), .val (.long q3), .second, .val (.long q4), .second, .val (.ref o), .unset, .unset, .unset, .unset] [(.ref o)])) _
    refine XS.bipush X21.here hx rfl (hb hby at_106) ?_
    show Steps p.tables e below (T21.setTop (mkF m 108 #[.val (.int p1), .val (.int p2), .val (.long q3), .second, .val (.long q4), .second, .val (.ref o), .unset, .unset, .unset, .unset] [(.int (10 : Int32)), (.ref o)])) _
    refine XS.lload X21.here hx rfl (hb hby at_108) rfl ?_
    show Steps p.tables e below (T21.setTop (mkF m 110 #[.val (.int p1), .val (.int p2), .val (.long q3), .second, .val (.long q4), .second, .val (.ref o), .unset, .unset, .unset, .unset] [(.long q4), (.int (10 : Int32)), (.ref o)])) _
    refine XS.iconst X21.here hx rfl (hb hby at_110) ?_
    exact kS
  obtain ⟨_, _, ⟨T22, L22, k22, n22⟩, -, X22, ⟨Lc22, hQ22, l22, y22, z22⟩, st22⟩ := Jvm.LawKit.callS X21 hx (y := (⟨"org/sipwright/message/SipParserBodyStartPinLaw", "b", "(JI)B"⟩ : MethodName)) hown (mvT hZ (hw _ (List.mem_of_getElem? (i := 1) rfl))) (mvT hZ (hw _ (List.mem_of_getElem? (i := 2) rfl))) (mvT hZ (hw _ (List.mem_of_getElem? (i := 3) rfl))) (mvT hZ (hw _ (List.mem_of_getElem? (i := 4) rfl))) (by decide) (backOf (W := 2) (rm1 l Z a0 hw [] q4 (2 : Int32) h21 n0 ZZ21) hZ (hw _ (List.mem_of_getElem? (i := 4) rfl)) (hw _ (List.mem_of_getElem? (i := 3) rfl)) (by decide) (by decide)) (g := (mkF m 111 #[.val (.int p1), .val (.int p2), .val (.long q3), .second, .val (.long q4), .second, .val (.ref o), .unset, .unset, .unset, .unset] [(.int (2 : Int32)), (.long q4), (.int (10 : Int32)), (.ref o)])) rfl (by rw [hml]; rfl) (argsL := [(.long q4), (.int (2 : Int32))]) (rest := [(.int (10 : Int32)), (.ref o)]) (lenOf pd_0 rfl) rfl (by show 2 * 0 + _ ≤ _; exact Nat.le_of_eq rfl) (hb hby at_111) (fun _ _ => ⟨rfl, e21, (by decide : 1 + 0 ≤ _), (by decide : 12 + 0 ≤ _)⟩)
  dsimp only [Pt.U, Pt.locs, Pt.cells, Pt.slots] at X22 l22 y22 z22 st22 hQ22
  subst l22 y22 z22
  obtain ⟨z, rfl, N22q, hH22⟩ := hQ22
  have N22 := Fr.app N21 N22q
  obtain ⟨lo22, X22, N22⟩ := own_pack X22 N22
  replace X22 : Stand p l e _ s m _ below meth c T22 _ 1 12 := X22
  refine own_adv (B := (T22.setTop (mkF m 114 #[.val (.int p1), .val (.int p2), .val (.long q3), .second, .val (.long q4), .second, .val (.ref o), .unset, .unset, .unset, .unset] [(.int z), (.int (10 : Int32)), (.ref o)]))) (fun t kS => st22 t kS) ?_
  obtain ⟨T23, h23, X23, e23, W23, st23⟩ := stB X22 hx hZ hH22 Ar10 (j := (10 : Int32)) (inb_of S10 ⟨by decide, by decide⟩) (g := (mkF m 114 #[.val (.int p1), .val (.int p2), .val (.long q3), .second, .val (.long q4), .second, .val (.ref o), .unset, .unset, .unset, .unset] [(.int z), (.int (10 : Int32)), (.ref o)])) rfl rfl (hb hby at_114)
  have N23 := Fr.snoc X23 N22 g_o
  obtain ⟨lo23, X23, N23⟩ := own_pack X23 N23
  refine own_adv (B := (T23.setTop (mkF m 115 #[.val (.int p1), .val (.int p2), .val (.long q3), .second, .val (.long q4), .second, .val (.ref o), .unset, .unset, .unset, .unset] []))) st23 ?_
  obtain ⟨c11, Ar11, S11⟩ : ∃ c0 : Cell, Arr Z h23 o c0 .byte ∧ c0.slots.size = (12 : Int32).toNatClampNeg := ⟨_, Ar10.same W23, by rw [sz_set]; exact S10⟩
  have ZZ23 : n0 ≤ h23.size := Nat.le_trans ZZ21 (Keep.of_wr W23).1
  refine own_adv (B := (T23.setTop (mkF m 122 #[.val (.int p1), .val (.int p2), .val (.long q3), .second, .val (.long q4), .second, .val (.ref o), .unset, .unset, .unset, .unset] [(.int (3 : Int32)), (.long q4), (.int (11 : Int32)), (.ref o)]))) (fun t kS => ?_) ?_
  · show Steps p.tables e below (T23.setTop (mkF m 115 #[.val (.int p1), .val (.int p2), .val (.long q3), .second, .val (.long q4), .second, .val (.ref o), .unset, .unset, .unset, .unset] [])) _
    refine XS.aload X23.here hx rfl (hb hby at_115) rfl rfl ?_
    show Steps p.tables e below (T23.setTop (mkF m 117 #[.val (.int p1), .val (.int p2), .val (.long q3), .second, .val (.long q4), .second, .val (.ref o), .unset, .unset, .unset, .unset] [(.ref o)])) _
    refine XS.bipush X23.here hx rfl (hb hby at_117) ?_
    show Steps p.tables e below (T23.setTop (mkF m 119 #[.val (.int p1), .val (.int p2), .val (.long q3), .second, .val (.long q4), .second, .val (.ref o), .unset, .unset, .unset, .unset] [(.int (11 : Int32)), (.ref o)])) _
    refine XS.lload X23.here hx rfl (hb hby at_119) rfl ?_
    show Steps p.tables e below (T23.setTop (mkF m 121 #[.val (.int p1), .val (.int p2), .val (.long q3), .second, .val (.long q4), .second, .val (.ref o), .unset, .unset, .unset, .unset] [(.long q4), (.int (11 : Int32)), (.ref o)])) _
    refine XS.iconst X23.here hx rfl (hb hby at_121) ?_
    exact kS
  obtain ⟨_, _, ⟨T24, L24, k24, n24⟩, -, X24, ⟨Lc24, hQ24, l24, y24, z24⟩, st24⟩ := Jvm.LawKit.callS X23 hx (y := (⟨"org/sipwright/message/SipParserBodyStartPinLaw", "b", "(JI)B"⟩ : MethodName)) hown (mvT hZ (hw _ (List.mem_of_getElem? (i := 1) rfl))) (mvT hZ (hw _ (List.mem_of_getElem? (i := 2) rfl))) (mvT hZ (hw _ (List.mem_of_getElem? (i := 3) rfl))) (mvT hZ (hw _ (List.mem_of_getElem? (i := 4) rfl))) (by decide) (backOf (W := 2) (rm1 l Z a0 hw [] q4 (3 : Int32) h23 n0 ZZ23) hZ (hw _ (List.mem_of_getElem? (i := 4) rfl)) (hw _ (List.mem_of_getElem? (i := 3) rfl)) (by decide) (by decide)) (g := (mkF m 122 #[.val (.int p1), .val (.int p2), .val (.long q3), .second, .val (.long q4), .second, .val (.ref o), .unset, .unset, .unset, .unset] [(.int (3 : Int32)), (.long q4), (.int (11 : Int32)), (.ref o)])) rfl (by rw [hml]; rfl) (argsL := [(.long q4), (.int (3 : Int32))]) (rest := [(.int (11 : Int32)), (.ref o)]) (lenOf pd_0 rfl) rfl (by show 2 * 0 + _ ≤ _; exact Nat.le_of_eq rfl) (hb hby at_122) (fun _ _ => ⟨rfl, e23, (by decide : 1 + 0 ≤ _), (by decide : 12 + 0 ≤ _)⟩)
  dsimp only [Pt.U, Pt.locs, Pt.cells, Pt.slots] at X24 l24 y24 z24 st24 hQ24
  subst l24 y24 z24
  obtain ⟨z, rfl, N24q, hH24⟩ := hQ24
  have N24 := Fr.app N23 N24q
  obtain ⟨lo24, X24, N24⟩ := own_pack X24 N24
  replace X24 : Stand p l e _ s m _ below meth c T24 _ 1 12 := X24
  refine own_adv (B := (T24.setTop (mkF m 125 #[.val (.int p1), .val (.int p2), .val (.long q3), .second, .val (.long q4), .second, .val (.ref o), .unset, .unset, .unset, .unset] [(.int z), (.int (11 : Int32)), (.ref o)]))) (fun t kS => st24 t kS) ?_
  obtain ⟨T25, h25, X25, e25, W25, st25⟩ := stB X24 hx hZ hH24 Ar11 (j := (11 : Int32)) (inb_of S11 ⟨by decide, by decide⟩) (g := (mkF m 125 #[.val (.int p1), .val (.int p2), .val (.long q3), .second, .val (.long q4), .second, .val (.ref o), .unset, .unset, .unset, .unset] [(.int z), (.int (11 : Int32)), (.ref o)])) rfl rfl (hb hby at_125)
  have N25 := Fr.snoc X25 N24 g_o
  obtain ⟨lo25, X25, N25⟩ := own_pack X25 N25
  refine own_adv (B := (T25.setTop (mkF m 126 #[.val (.int p1), .val (.int p2), .val (.long q3), .second, .val (.long q4), .second, .val (.ref o), .unset, .unset, .unset, .unset] []))) st25 ?_
  obtain ⟨c12, Ar12, S12⟩ : ∃ c0 : Cell, Arr Z h25 o c0 .byte ∧ c0.slots.size = (12 : Int32).toNatClampNeg := ⟨_, Ar11.same W25, by rw [sz_set]; exact S11⟩
  have ZZ25 : n0 ≤ h25.size := Nat.le_trans ZZ23 (Keep.of_wr W25).1
  refine own_adv (B := (T25.setTop (mkF m 135 #[.val (.int p1), .val (.int p2), .val (.long q3), .second, .val (.long q4), .second, .val (.ref o), .val (.int (p1 &&& (7 : Int32))), .unset, .unset, .unset] [(.int (p2 &&& (1 : Int32)))]))) (fun t kS => ?_) ?_
  · show Steps p.tables e below (T25.setTop (mkF m 126 #[.val (.int p1), .val (.int p2), .val (.long q3), .second, .val (.long q4), .second, .val (.ref o), .unset, .unset, .unset, .unset] [])) _
    refine XS.iloadN X25.here hx rfl (hb hby at_126) rfl ?_
    show Steps p.tables e below (T25.setTop (mkF m 127 #[.val (.int p1), .val (.int p2), .val (.long q3), .second, .val (.long q4), .second, .val (.ref o), .unset, .unset, .unset, .unset] [(.int p1)])) _
    refine XS.bipush X25.here hx rfl (hb hby at_127) ?_
    show Steps p.tables e below (T25.setTop (mkF m 129 #[.val (.int p1), .val (.int p2), .val (.long q3), .second, .val (.long q4), .second, .val (.ref o), .unset, .unset, .unset, .unset] [(.int (7 : Int32)), (.int p1)])) _
    refine XS.iand X25.here hx rfl (hb hby at_129) rfl ?_
    show Steps p.tables e below (T25.setTop (mkF m 130 #[.val (.int p1), .val (.int p2), .val (.long q3), .second, .val (.long q4), .second, .val (.ref o), .unset, .unset, .unset, .unset] [(.int (p1 &&& (7 : Int32)))])) _
    refine XS.istore X25.here hx rfl (hb hby at_130) rfl (l' := #[.val (.int p1), .val (.int p2), .val (.long q3), .second, .val (.long q4), .second, .val (.ref o), .val (.int (p1 &&& (7 : Int32))), .unset, .unset, .unset]) rfl ?_
    show Steps p.tables e below (T25.setTop (mkF m 132 #[.val (.int p1), .val (.int p2), .val (.long q3), .second, .val (.long q4), .second, .val (.ref o), .val (.int (p1 &&& (7 : Int32))), .unset, .unset, .unset] [])) _
    refine XS.iloadN X25.here hx rfl (hb hby at_132) rfl ?_
    show Steps p.tables e below (T25.setTop (mkF m 133 #[.val (.int p1), .val (.int p2), .val (.long q3), .second, .val (.long q4), .second, .val (.ref o), .val (.int (p1 &&& (7 : Int32))), .unset, .unset, .unset] [(.int p2)])) _
    refine XS.iconst X25.here hx rfl (hb hby at_133) ?_
    show Steps p.tables e below (T25.setTop (mkF m 134 #[.val (.int p1), .val (.int p2), .val (.long q3), .second, .val (.long q4), .second, .val (.ref o), .val (.int (p1 &&& (7 : Int32))), .unset, .unset, .unset] [(.int (1 : Int32)), (.int p2)])) _
    refine XS.iand X25.here hx rfl (hb hby at_134) rfl ?_
    exact kS
  generalize hhv : (p1 &&& (7 : Int32)) = hv
  obtain ⟨hk0, hk1, hk2⟩ := own_h7 p1
  rw [hhv] at hk0 hk1 hk2
  by_cases hcr : (p2 &&& (1 : Int32)) = (0 : Int32)
  · refine own_adv (B := (T25.setTop (mkF m 151 #[.val (.int p1), .val (.int p2), .val (.long q3), .second, .val (.long q4), .second, .val (.ref o), .val (.int hv), .val (.int (0 : Int32)), .unset, .unset] [(.int (10 : Int32)), (.int hv), (.ref o)]))) (fun t kS => ?_) ?_
    · show Steps p.tables e below (T25.setTop (mkF m 135 #[.val (.int p1), .val (.int p2), .val (.long q3), .second, .val (.long q4), .second, .val (.ref o), .val (.int hv), .unset, .unset, .unset] [(.int (p2 &&& (1 : Int32)))])) _
      refine XS.ifYes X25.here hx rfl (pc0 := 135) (pc' := 142) rfl (hb hby at_135) rfl ((if0 _ _).trans (teq hcr).1) (by decide) (by decide) ?_
      show Steps p.tables e below (T25.setTop (mkF m 142 #[.val (.int p1), .val (.int p2), .val (.long q3), .second, .val (.long q4), .second, .val (.ref o), .val (.int hv), .unset, .unset, .unset] [])) _
      refine XS.iconst X25.here hx rfl (hb hby at_142) ?_
      show Steps p.tables e below (T25.setTop (mkF m 143 #[.val (.int p1), .val (.int p2), .val (.long q3), .second, .val (.long q4), .second, .val (.ref o), .val (.int hv), .unset, .unset, .unset] [(.int (0 : Int32))])) _
      refine XS.istore X25.here hx rfl (hb hby at_143) rfl (l' := #[.val (.int p1), .val (.int p2), .val (.long q3), .second, .val (.long q4), .second, .val (.ref o), .val (.int hv), .val (.int (0 : Int32)), .unset, .unset]) rfl ?_
      show Steps p.tables e below (T25.setTop (mkF m 145 #[.val (.int p1), .val (.int p2), .val (.long q3), .second, .val (.long q4), .second, .val (.ref o), .val (.int hv), .val (.int (0 : Int32)), .unset, .unset] [])) _
      refine XS.aload X25.here hx rfl (hb hby at_145) rfl rfl ?_
      show Steps p.tables e below (T25.setTop (mkF m 147 #[.val (.int p1), .val (.int p2), .val (.long q3), .second, .val (.long q4), .second, .val (.ref o), .val (.int hv), .val (.int (0 : Int32)), .unset, .unset] [(.ref o)])) _
      refine XS.iload X25.here hx rfl (hb hby at_147) rfl ?_
      show Steps p.tables e below (T25.setTop (mkF m 149 #[.val (.int p1), .val (.int p2), .val (.long q3), .second, .val (.long q4), .second, .val (.ref o), .val (.int hv), .val (.int (0 : Int32)), .unset, .unset] [(.int hv), (.ref o)])) _
      refine XS.bipush X25.here hx rfl (hb hby at_149) ?_
      exact kS
    obtain ⟨T26, h26, X26, e26, W26, st26⟩ := stB X25 hx hZ e25 Ar12 (j := hv) (inb_of S12 hk0) (g := (mkF m 151 #[.val (.int p1), .val (.int p2), .val (.long q3), .second, .val (.long q4), .second, .val (.ref o), .val (.int hv), .val (.int (0 : Int32)), .unset, .unset] [(.int (10 : Int32)), (.int hv), (.ref o)])) rfl rfl (hb hby at_151)
    have N26 := Fr.snoc X26 N25 g_o
    obtain ⟨lo26, X26, N26⟩ := own_pack X26 N26
    refine own_adv (B := (T26.setTop (mkF m 152 #[.val (.int p1), .val (.int p2), .val (.long q3), .second, .val (.long q4), .second, .val (.ref o), .val (.int hv), .val (.int (0 : Int32)), .unset, .unset] []))) st26 ?_
    obtain ⟨c13, hc13⟩ : ∃ c0 : Cell, c0 = c12.setSlot (hv).toNatClampNeg (.int (nar .byte (10 : Int32))) := ⟨_, rfl⟩
    have Ar13 : Arr Z h26 o c13 .byte := by rw [hc13]; exact Ar12.same W26
    have S13 : c13.slots.size = (12 : Int32).toNatClampNeg := by rw [hc13, sz_set]; exact S12
    have ZZ26 : n0 ≤ h26.size := Nat.le_trans ZZ25 (Keep.of_wr W26).1
    refine own_adv (B := (T26.setTop (mkF m 186 #[.val (.int p1), .val (.int p2), .val (.long q3), .second, .val (.long q4), .second, .val (.ref o), .val (.int hv), .val (.int (0 : Int32)), .unset, .unset] [(.int (10 : Int32)), (.int (hv + (1 : Int32))), (.ref o)]))) (fun t kS => ?_) ?_
    · show Steps p.tables e below (T26.setTop (mkF m 152 #[.val (.int p1), .val (.int p2), .val (.long q3), .second, .val (.long q4), .second, .val (.ref o), .val (.int hv), .val (.int (0 : Int32)), .unset, .unset] [])) _
      refine XS.iload X26.here hx rfl (hb hby at_152) rfl ?_
      show Steps p.tables e below (T26.setTop (mkF m 154 #[.val (.int p1), .val (.int p2), .val (.long q3), .second, .val (.long q4), .second, .val (.ref o), .val (.int hv), .val (.int (0 : Int32)), .unset, .unset] [(.int (0 : Int32))])) _
      refine XS.ifYes X26.here hx rfl (pc0 := 154) (pc' := 178) rfl (hb hby at_154) rfl ((if0 _ _).trans (teq (rfl : (0 : Int32) = 0)).1) (by decide) (by decide) ?_
      show Steps p.tables e below (T26.setTop (mkF m 178 #[.val (.int p1), .val (.int p2), .val (.long q3), .second, .val (.long q4), .second, .val (.ref o), .val (.int hv), .val (.int (0 : Int32)), .unset, .unset] [])) _
      refine XS.aload X26.here hx rfl (hb hby at_178) rfl rfl ?_
      show Steps p.tables e below (T26.setTop (mkF m 180 #[.val (.int p1), .val (.int p2), .val (.long q3), .second, .val (.long q4), .second, .val (.ref o), .val (.int hv), .val (.int (0 : Int32)), .unset, .unset] [(.ref o)])) _
      refine XS.iload X26.here hx rfl (hb hby at_180) rfl ?_
      show Steps p.tables e below (T26.setTop (mkF m 182 #[.val (.int p1), .val (.int p2), .val (.long q3), .second, .val (.long q4), .second, .val (.ref o), .val (.int hv), .val (.int (0 : Int32)), .unset, .unset] [(.int hv), (.ref o)])) _
      refine XS.iconst X26.here hx rfl (hb hby at_182) ?_
      show Steps p.tables e below (T26.setTop (mkF m 183 #[.val (.int p1), .val (.int p2), .val (.long q3), .second, .val (.long q4), .second, .val (.ref o), .val (.int hv), .val (.int (0 : Int32)), .unset, .unset] [(.int (1 : Int32)), (.int hv), (.ref o)])) _
      refine XS.iadd X26.here hx rfl (hb hby at_183) rfl ?_
      show Steps p.tables e below (T26.setTop (mkF m 184 #[.val (.int p1), .val (.int p2), .val (.long q3), .second, .val (.long q4), .second, .val (.ref o), .val (.int hv), .val (.int (0 : Int32)), .unset, .unset] [(.int (hv + (1 : Int32))), (.ref o)])) _
      refine XS.bipush X26.here hx rfl (hb hby at_184) ?_
      exact kS
    obtain ⟨T27, h27, X27, e27, W27, st27⟩ := stB X26 hx hZ e26 Ar13 (j := (hv + (1 : Int32))) (inb_of S13 hk1) (g := (mkF m 186 #[.val (.int p1), .val (.int p2), .val (.long q3), .second, .val (.long q4), .second, .val (.ref o), .val (.int hv), .val (.int (0 : Int32)), .unset, .unset] [(.int (10 : Int32)), (.int (hv + (1 : Int32))), (.ref o)])) rfl rfl (hb hby at_186)
    have N27 := Fr.snoc X27 N26 g_o
    obtain ⟨lo27, X27, N27⟩ := own_pack X27 N27
    refine own_adv (B := (T27.setTop (mkF m 187 #[.val (.int p1), .val (.int p2), .val (.long q3), .second, .val (.long q4), .second, .val (.ref o), .val (.int hv), .val (.int (0 : Int32)), .unset, .unset] []))) st27 ?_
    obtain ⟨c14, hc14⟩ : ∃ c0 : Cell, c0 = c13.setSlot (hv + (1 : Int32)).toNatClampNeg (.int (nar .byte (10 : Int32))) := ⟨_, rfl⟩
    have Ar14 : Arr Z h27 o c14 .byte := by rw [hc14]; exact Ar13.same W27
    have S14 : c14.slots.size = (12 : Int32).toNatClampNeg := by rw [hc14, sz_set]; exact S13
    have ZZ27 : n0 ≤ h27.size := Nat.le_trans ZZ26 (Keep.of_wr W27).1
    have at1 : c14.slots[(hv + (1 : Int32)).toNatClampNeg]? = some (.int (10 : Int32)) := by
      rw [hc14]
      exact get_hit (inb_of S13 hk1) rfl
    have eJ : (hv + (1 : Int32)) + (1 : Int32) - (1 : Int32) = hv + (1 : Int32) := Int32.add_sub_cancel _ _
    have eG : (hv + (1 : Int32)) + (1 : Int32) = hv + (2 : Int32) := by rw [Int32.add_assoc]; rfl
    have at2 : c14.slots[((hv + (1 : Int32)) + (1 : Int32) - (1 : Int32)).toNatClampNeg]? = some (.int (10 : Int32)) := by
      rw [eJ]
      exact at1
    have in2 : ¬ (((hv + (1 : Int32)) + (1 : Int32) - (1 : Int32)) < 0 ∨ c14.slots.size ≤ ((hv + (1 : Int32)) + (1 : Int32) - (1 : Int32)).toNatClampNeg) := by rw [eJ]; exact inb_of S14 hk1
    refine own_adv (B := (T27.setTop (mkF m 205 #[.val (.int p1), .val (.int p2), .val (.long q3), .second, .val (.long q4), .second, .val (.ref o), .val (.int hv), .val (.int (0 : Int32)), .val (.int (hv + (2 : Int32))), .unset] []))) (fun t kS => ?_) ?_
    · show Steps p.tables e below (T27.setTop (mkF m 187 #[.val (.int p1), .val (.int p2), .val (.long q3), .second, .val (.long q4), .second, .val (.ref o), .val (.int hv), .val (.int (0 : Int32)), .unset, .unset] [])) _
      refine XS.iload X27.here hx rfl (hb hby at_187) rfl ?_
      show Steps p.tables e below (T27.setTop (mkF m 189 #[.val (.int p1), .val (.int p2), .val (.long q3), .second, .val (.long q4), .second, .val (.ref o), .val (.int hv), .val (.int (0 : Int32)), .unset, .unset] [(.int (0 : Int32))])) _
      refine XS.ifYes X27.here hx rfl (pc0 := 189) (pc' := 199) rfl (hb hby at_189) rfl ((if0 _ _).trans (teq (rfl : (0 : Int32) = 0)).1) (by decide) (by decide) ?_
      show Steps p.tables e below (T27.setTop (mkF m 199 #[.val (.int p1), .val (.int p2), .val (.long q3), .second, .val (.long q4), .second, .val (.ref o), .val (.int hv), .val (.int (0 : Int32)), .unset, .unset] [])) _
      refine XS.iload X27.here hx rfl (hb hby at_199) rfl ?_
      show Steps p.tables e below (T27.setTop (mkF m 201 #[.val (.int p1), .val (.int p2), .val (.long q3), .second, .val (.long q4), .second, .val (.ref o), .val (.int hv), .val (.int (0 : Int32)), .unset, .unset] [(.int hv)])) _
      refine XS.iconst X27.here hx rfl (hb hby at_201) ?_
      show Steps p.tables e below (T27.setTop (mkF m 202 #[.val (.int p1), .val (.int p2), .val (.long q3), .second, .val (.long q4), .second, .val (.ref o), .val (.int hv), .val (.int (0 : Int32)), .unset, .unset] [(.int (2 : Int32)), (.int hv)])) _
      refine XS.iadd X27.here hx rfl (hb hby at_202) rfl ?_
      show Steps p.tables e below (T27.setTop (mkF m 203 #[.val (.int p1), .val (.int p2), .val (.long q3), .second, .val (.long q4), .second, .val (.ref o), .val (.int hv), .val (.int (0 : Int32)), .unset, .unset] [(.int (hv + (2 : Int32)))])) _
      refine XS.istore X27.here hx rfl (hb hby at_203) rfl (l' := #[.val (.int p1), .val (.int p2), .val (.long q3), .second, .val (.long q4), .second, .val (.ref o), .val (.int hv), .val (.int (0 : Int32)), .val (.int (hv + (2 : Int32))), .unset]) rfl ?_
      exact kS
    refine own_adv (B := (T27.setTop (mkF m 209 #[.val (.int p1), .val (.int p2), .val (.long q3), .second, .val (.long q4), .second, .val (.ref o), .val (.int hv), .val (.int (0 : Int32)), .val (.int (hv + (2 : Int32))), .unset] [(.int hv), (.ref o)]))) (fun t kS => ?_) ?_
    · show Steps p.tables e below (T27.setTop (mkF m 205 #[.val (.int p1), .val (.int p2), .val (.long q3), .second, .val (.long q4), .second, .val (.ref o), .val (.int hv), .val (.int (0 : Int32)), .val (.int (hv + (2 : Int32))), .unset] [])) _
      refine XS.aload X27.here hx rfl (hb hby at_205) rfl rfl ?_
      show Steps p.tables e below (T27.setTop (mkF m 207 #[.val (.int p1), .val (.int p2), .val (.long q3), .second, .val (.long q4), .second, .val (.ref o), .val (.int hv), .val (.int (0 : Int32)), .val (.int (hv + (2 : Int32))), .unset] [(.ref o)])) _
      refine XS.iload X27.here hx rfl (hb hby at_207) rfl ?_
      exact kS
    obtain ⟨_, _, ⟨T28, L28, k28, n28⟩, -, X28, ⟨Lc28, hQ28, l28, y28, z28⟩, st28⟩ := Jvm.LawKit.callS X27 hx (y := (⟨"org/sipwright/message/SipParser", "bodyStart", "([BI)I"⟩ : MethodName)) hown (mvT hZ (hw _ (List.mem_of_getElem? (i := 5) rfl))) (mvT hZ (hw _ (List.mem_of_getElem? (i := 6) rfl))) (mvT hZ (hw _ (List.mem_of_getElem? (i := 7) rfl))) (mvT hZ (hw _ (List.mem_of_getElem? (i := 8) rfl))) (by decide) (backOf (W := 0) (rm2n l Z a0 hw [] o hv c14 h27 n0 ZZ27 Ar14 (inb_of S14 hk1) at1) hZ (hw _ (List.mem_of_getElem? (i := 8) rfl)) (hw _ (List.mem_of_getElem? (i := 7) rfl)) (by decide) (by decide)) (g := (mkF m 209 #[.val (.int p1), .val (.int p2), .val (.long q3), .second, .val (.long q4), .second, .val (.ref o), .val (.int hv), .val (.int (0 : Int32)), .val (.int (hv + (2 : Int32))), .unset] [(.int hv), (.ref o)])) rfl (by rw [hml]; rfl) (argsL := [(.ref o), (.int hv)]) (rest := []) (lenOf pd_1 rfl) rfl (by show 2 * 0 + _ ≤ _; exact Nat.le_of_eq rfl) (hb hby at_209) (fun _ _ => ⟨rfl, e27, (by decide : 1 + 0 ≤ _), (by decide : 12 + 0 ≤ _)⟩)
    dsimp only [Pt.U, Pt.locs, Pt.cells, Pt.slots] at X28 l28 y28 z28 st28 hQ28
    subst l28 y28 z28
    obtain ⟨rfl, N28q, hH28⟩ := hQ28
    have N28 := Fr.app N27 N28q
    obtain ⟨lo28, X28, N28⟩ := own_pack X28 N28
    replace X28 : Stand p l e _ s m _ below meth c T28 _ 1 12 := X28
    refine own_adv (B := (T28.setTop (mkF m 212 #[.val (.int p1), .val (.int p2), .val (.long q3), .second, .val (.long q4), .second, .val (.ref o), .val (.int hv), .val (.int (0 : Int32)), .val (.int (hv + (2 : Int32))), .unset] [(.int ((hv + (1 : Int32)) + (1 : Int32)))]))) (fun t kS => st28 t kS) ?_
    refine own_adv (B := (T28.setTop (mkF m 238 #[.val (.int p1), .val (.int p2), .val (.long q3), .second, .val (.long q4), .second, .val (.ref o), .val (.int hv), .val (.int (0 : Int32)), .val (.int (hv + (2 : Int32))), .val (.int ((hv + (1 : Int32)) + (1 : Int32)))] [(.int (1 : Int32))]))) (fun t kS => ?_) ?_
    · show Steps p.tables e below (T28.setTop (mkF m 212 #[.val (.int p1), .val (.int p2), .val (.long q3), .second, .val (.long q4), .second, .val (.ref o), .val (.int hv), .val (.int (0 : Int32)), .val (.int (hv + (2 : Int32))), .unset] [(.int ((hv + (1 : Int32)) + (1 : Int32)))])) _
      refine XS.istore X28.here hx rfl (hb hby at_212) rfl (l' := #[.val (.int p1), .val (.int p2), .val (.long q3), .second, .val (.long q4), .second, .val (.ref o), .val (.int hv), .val (.int (0 : Int32)), .val (.int (hv + (2 : Int32))), .val (.int ((hv + (1 : Int32)) + (1 : Int32)))]) rfl ?_
      show Steps p.tables e below (T28.setTop (mkF m 214 #[.val (.int p1), .val (.int p2), .val (.long q3), .second, .val (.long q4), .second, .val (.ref o), .val (.int hv), .val (.int (0 : Int32)), .val (.int (hv + (2 : Int32))), .val (.int ((hv + (1 : Int32)) + (1 : Int32)))] [])) _
      refine XS.iload X28.here hx rfl (hb hby at_214) rfl ?_
      show Steps p.tables e below (T28.setTop (mkF m 216 #[.val (.int p1), .val (.int p2), .val (.long q3), .second, .val (.long q4), .second, .val (.ref o), .val (.int hv), .val (.int (0 : Int32)), .val (.int (hv + (2 : Int32))), .val (.int ((hv + (1 : Int32)) + (1 : Int32)))] [(.int ((hv + (1 : Int32)) + (1 : Int32)))])) _
      refine XS.iload X28.here hx rfl (hb hby at_216) rfl ?_
      show Steps p.tables e below (T28.setTop (mkF m 218 #[.val (.int p1), .val (.int p2), .val (.long q3), .second, .val (.long q4), .second, .val (.ref o), .val (.int hv), .val (.int (0 : Int32)), .val (.int (hv + (2 : Int32))), .val (.int ((hv + (1 : Int32)) + (1 : Int32)))] [(.int (hv + (2 : Int32))), (.int ((hv + (1 : Int32)) + (1 : Int32)))])) _
      refine XS.icmpNo X28.here hx rfl (hb hby at_218) rfl (teq eG).2 ?_
      show Steps p.tables e below (T28.setTop (mkF m 221 #[.val (.int p1), .val (.int p2), .val (.long q3), .second, .val (.long q4), .second, .val (.ref o), .val (.int hv), .val (.int (0 : Int32)), .val (.int (hv + (2 : Int32))), .val (.int ((hv + (1 : Int32)) + (1 : Int32)))] [])) _
      refine XS.aload X28.here hx rfl (hb hby at_221) rfl rfl ?_
      show Steps p.tables e below (T28.setTop (mkF m 223 #[.val (.int p1), .val (.int p2), .val (.long q3), .second, .val (.long q4), .second, .val (.ref o), .val (.int hv), .val (.int (0 : Int32)), .val (.int (hv + (2 : Int32))), .val (.int ((hv + (1 : Int32)) + (1 : Int32)))] [(.ref o)])) _
      refine XS.iload X28.here hx rfl (hb hby at_223) rfl ?_
      show Steps p.tables e below (T28.setTop (mkF m 225 #[.val (.int p1), .val (.int p2), .val (.long q3), .second, .val (.long q4), .second, .val (.ref o), .val (.int hv), .val (.int (0 : Int32)), .val (.int (hv + (2 : Int32))), .val (.int ((hv + (1 : Int32)) + (1 : Int32)))] [(.int ((hv + (1 : Int32)) + (1 : Int32))), (.ref o)])) _
      refine XS.iconst X28.here hx rfl (hb hby at_225) ?_
      show Steps p.tables e below (T28.setTop (mkF m 226 #[.val (.int p1), .val (.int p2), .val (.long q3), .second, .val (.long q4), .second, .val (.ref o), .val (.int hv), .val (.int (0 : Int32)), .val (.int (hv + (2 : Int32))), .val (.int ((hv + (1 : Int32)) + (1 : Int32)))] [(.int (1 : Int32)), (.int ((hv + (1 : Int32)) + (1 : Int32))), (.ref o)])) _
      refine XS.isub X28.here hx rfl (hb hby at_226) rfl ?_
      show Steps p.tables e below (T28.setTop (mkF m 227 #[.val (.int p1), .val (.int p2), .val (.long q3), .second, .val (.long q4), .second, .val (.ref o), .val (.int hv), .val (.int (0 : Int32)), .val (.int (hv + (2 : Int32))), .val (.int ((hv + (1 : Int32)) + (1 : Int32)))] [(.int (((hv + (1 : Int32)) + (1 : Int32)) - (1 : Int32))), (.ref o)])) _
      refine X28.baloadBytes hx (j := (((hv + (1 : Int32)) + (1 : Int32)) - (1 : Int32))) (v := (.int (10 : Int32))) (by rw [hH28]; exact Ar14.1) (State.isArrayOf_alike hZ.alike Ar14.2.1) Ar14.2.2 in2 at2 (g := (mkF m 227 #[.val (.int p1), .val (.int p2), .val (.long q3), .second, .val (.long q4), .second, .val (.ref o), .val (.int hv), .val (.int (0 : Int32)), .val (.int (hv + (2 : Int32))), .val (.int ((hv + (1 : Int32)) + (1 : Int32)))] [(.int (((hv + (1 : Int32)) + (1 : Int32)) - (1 : Int32))), (.ref o)])) rfl rfl (hb hby at_227) _ ?_
      show Steps p.tables e below (T28.setTop (mkF m 228 #[.val (.int p1), .val (.int p2), .val (.long q3), .second, .val (.long q4), .second, .val (.ref o), .val (.int hv), .val (.int (0 : Int32)), .val (.int (hv + (2 : Int32))), .val (.int ((hv + (1 : Int32)) + (1 : Int32)))] [(.int (10 : Int32))])) _
      refine XS.bipush X28.here hx rfl (hb hby at_228) ?_
      show Steps p.tables e below (T28.setTop (mkF m 230 #[.val (.int p1), .val (.int p2), .val (.long q3), .second, .val (.long q4), .second, .val (.ref o), .val (.int hv), .val (.int (0 : Int32)), .val (.int (hv + (2 : Int32))), .val (.int ((hv + (1 : Int32)) + (1 : Int32)))] [(.int (10 : Int32)), (.int (10 : Int32))])) _
      refine XS.icmpNo X28.here hx rfl (hb hby at_230) rfl (teq rfl).2 ?_
      show Steps p.tables e below (T28.setTop (mkF m 233 #[.val (.int p1), .val (.int p2), .val (.long q3), .second, .val (.long q4), .second, .val (.ref o), .val (.int hv), .val (.int (0 : Int32)), .val (.int (hv + (2 : Int32))), .val (.int ((hv + (1 : Int32)) + (1 : Int32)))] [])) _
      refine XS.iconst X28.here hx rfl (hb hby at_233) ?_
      show Steps p.tables e below (T28.setTop (mkF m 234 #[.val (.int p1), .val (.int p2), .val (.long q3), .second, .val (.long q4), .second, .val (.ref o), .val (.int hv), .val (.int (0 : Int32)), .val (.int (hv + (2 : Int32))), .val (.int ((hv + (1 : Int32)) + (1 : Int32)))] [(.int (1 : Int32))])) _
      refine XS.goto X28.here hx rfl (pc0 := 234) (pc' := 238) rfl (hb hby at_234) (by decide) (by decide) ?_
      exact kS
    obtain ⟨fs, hr, hrun, hended, hW, hsame⟩ := X28.leave (v := some (.int (1 : Int32))) (fun h => by rw [Bd.returns] at h; cases h)
    refine ⟨_, _, ?_, hrun, hended, _, _, rfl, ?_, ⟨_, rfl⟩, hW, hsame.mono (by decide) (by decide)⟩
    · show Steps p.tables e below (T28.setTop (mkF m 238 #[.val (.int p1), .val (.int p2), .val (.long q3), .second, .val (.long q4), .second, .val (.ref o), .val (.int hv), .val (.int (0 : Int32)), .val (.int (hv + (2 : Int32))), .val (.int ((hv + (1 : Int32)) + (1 : Int32)))] [(.int (1 : Int32))])) _
      exact retN X28 hx (t := .boolean) Bd.returns (by simp) (hb hby at_238) hr
    · show Q0 Z p1 p2 q3 q4 h0 n0 _ T28.heap _
      rw [hH28]
      exact ⟨rfl, N28⟩
  · refine own_adv (B := (T25.setTop (mkF m 151 #[.val (.int p1), .val (.int p2), .val (.long q3), .second, .val (.long q4), .second, .val (.ref o), .val (.int hv), .val (.int (1 : Int32)), .unset, .unset] [(.int (10 : Int32)), (.int hv), (.ref o)]))) (fun t kS => ?_) ?_
    · show Steps p.tables e below (T25.setTop (mkF m 135 #[.val (.int p1), .val (.int p2), .val (.long q3), .second, .val (.long q4), .second, .val (.ref o), .val (.int hv), .unset, .unset, .unset] [(.int (p2 &&& (1 : Int32)))])) _
      refine XS.ifNo X25.here hx rfl (hb hby at_135) rfl ((if0 _ _).trans (feq hcr).1) ?_
      show Steps p.tables e below (T25.setTop (mkF m 138 #[.val (.int p1), .val (.int p2), .val (.long q3), .second, .val (.long q4), .second, .val (.ref o), .val (.int hv), .unset, .unset, .unset] [])) _
      refine XS.iconst X25.here hx rfl (hb hby at_138) ?_
      show Steps p.tables e below (T25.setTop (mkF m 139 #[.val (.int p1), .val (.int p2), .val (.long q3), .second, .val (.long q4), .second, .val (.ref o), .val (.int hv), .unset, .unset, .unset] [(.int (1 : Int32))])) _
      refine XS.goto X25.here hx rfl (pc0 := 139) (pc' := 143) rfl (hb hby at_139) (by decide) (by decide) ?_
      show Steps p.tables e below (T25.setTop (mkF m 143 #[.val (.int p1), .val (.int p2), .val (.long q3), .second, .val (.long q4), .second, .val (.ref o), .val (.int hv), .unset, .unset, .unset] [(.int (1 : Int32))])) _
      refine XS.istore X25.here hx rfl (hb hby at_143) rfl (l' := #[.val (.int p1), .val (.int p2), .val (.long q3), .second, .val (.long q4), .second, .val (.ref o), .val (.int hv), .val (.int (1 : Int32)), .unset, .unset]) rfl ?_
      show Steps p.tables e below (T25.setTop (mkF m 145 #[.val (.int p1), .val (.int p2), .val (.long q3), .second, .val (.long q4), .second, .val (.ref o), .val (.int hv), .val (.int (1 : Int32)), .unset, .unset] [])) _
      refine XS.aload X25.here hx rfl (hb hby at_145) rfl rfl ?_
      show Steps p.tables e below (T25.setTop (mkF m 147 #[.val (.int p1), .val (.int p2), .val (.long q3), .second, .val (.long q4), .second, .val (.ref o), .val (.int hv), .val (.int (1 : Int32)), .unset, .unset] [(.ref o)])) _
      refine XS.iload X25.here hx rfl (hb hby at_147) rfl ?_
      show Steps p.tables e below (T25.setTop (mkF m 149 #[.val (.int p1), .val (.int p2), .val (.long q3), .second, .val (.long q4), .second, .val (.ref o), .val (.int hv), .val (.int (1 : Int32)), .unset, .unset] [(.int hv), (.ref o)])) _
      refine XS.bipush X25.here hx rfl (hb hby at_149) ?_
      exact kS
    obtain ⟨T29, h29, X29, e29, W29, st29⟩ := stB X25 hx hZ e25 Ar12 (j := hv) (inb_of S12 hk0) (g := (mkF m 151 #[.val (.int p1), .val (.int p2), .val (.long q3), .second, .val (.long q4), .second, .val (.ref o), .val (.int hv), .val (.int (1 : Int32)), .unset, .unset] [(.int (10 : Int32)), (.int hv), (.ref o)])) rfl rfl (hb hby at_151)
    have N29 := Fr.snoc X29 N25 g_o
    obtain ⟨lo29, X29, N29⟩ := own_pack X29 N29
    refine own_adv (B := (T29.setTop (mkF m 152 #[.val (.int p1), .val (.int p2), .val (.long q3), .second, .val (.long q4), .second, .val (.ref o), .val (.int hv), .val (.int (1 : Int32)), .unset, .unset] []))) st29 ?_
    obtain ⟨c13, hc13⟩ : ∃ c0 : Cell, c0 = c12.setSlot (hv).toNatClampNeg (.int (nar .byte (10 : Int32))) := ⟨_, rfl⟩
    have Ar13 : Arr Z h29 o c13 .byte := by rw [hc13]; exact Ar12.same W29
    have S13 : c13.slots.size = (12 : Int32).toNatClampNeg := by rw [hc13, sz_set]; exact S12
    have ZZ29 : n0 ≤ h29.size := Nat.le_trans ZZ25 (Keep.of_wr W29).1
    refine own_adv (B := (T29.setTop (mkF m 165 #[.val (.int p1), .val (.int p2), .val (.long q3), .second, .val (.long q4), .second, .val (.ref o), .val (.int hv), .val (.int (1 : Int32)), .unset, .unset] [(.int (13 : Int32)), (.int (hv + (1 : Int32))), (.ref o)]))) (fun t kS => ?_) ?_
    · show Steps p.tables e below (T29.setTop (mkF m 152 #[.val (.int p1), .val (.int p2), .val (.long q3), .second, .val (.long q4), .second, .val (.ref o), .val (.int hv), .val (.int (1 : Int32)), .unset, .unset] [])) _
      refine XS.iload X29.here hx rfl (hb hby at_152) rfl ?_
      show Steps p.tables e below (T29.setTop (mkF m 154 #[.val (.int p1), .val (.int p2), .val (.long q3), .second, .val (.long q4), .second, .val (.ref o), .val (.int hv), .val (.int (1 : Int32)), .unset, .unset] [(.int (1 : Int32))])) _
      refine XS.ifNo X29.here hx rfl (hb hby at_154) rfl ((if0 _ _).trans (feq (by decide)).1) ?_
      show Steps p.tables e below (T29.setTop (mkF m 157 #[.val (.int p1), .val (.int p2), .val (.long q3), .second, .val (.long q4), .second, .val (.ref o), .val (.int hv), .val (.int (1 : Int32)), .unset, .unset] [])) _
      refine XS.aload X29.here hx rfl (hb hby at_157) rfl rfl ?_
      show Steps p.tables e below (T29.setTop (mkF m 159 #[.val (.int p1), .val (.int p2), .val (.long q3), .second, .val (.long q4), .second, .val (.ref o), .val (.int hv), .val (.int (1 : Int32)), .unset, .unset] [(.ref o)])) _
      refine XS.iload X29.here hx rfl (hb hby at_159) rfl ?_
      show Steps p.tables e below (T29.setTop (mkF m 161 #[.val (.int p1), .val (.int p2), .val (.long q3), .second, .val (.long q4), .second, .val (.ref o), .val (.int hv), .val (.int (1 : Int32)), .unset, .unset] [(.int hv), (.ref o)])) _
      refine XS.iconst X29.here hx rfl (hb hby at_161) ?_
      show Steps p.tables e below (T29.setTop (mkF m 162 #[.val (.int p1), .val (.int p2), .val (.long q3), .second, .val (.long q4), .second, .val (.ref o), .val (.int hv), .val (.int (1 : Int32)), .unset, .unset] [(.int (1 : Int32)), (.int hv), (.ref o)])) _
      refine XS.iadd X29.here hx rfl (hb hby at_162) rfl ?_
      show Steps p.tables e below (T29.setTop (mkF m 163 #[.val (.int p1), .val (.int p2), .val (.long q3), .second, .val (.long q4), .second, .val (.ref o), .val (.int hv), .val (.int (1 : Int32)), .unset, .unset] [(.int (hv + (1 : Int32))), (.ref o)])) _
      refine XS.bipush X29.here hx rfl (hb hby at_163) ?_
      exact kS
    obtain ⟨T30, h30, X30, e30, W30, st30⟩ := stB X29 hx hZ e29 Ar13 (j := (hv + (1 : Int32))) (inb_of S13 hk1) (g := (mkF m 165 #[.val (.int p1), .val (.int p2), .val (.long q3), .second, .val (.long q4), .second, .val (.ref o), .val (.int hv), .val (.int (1 : Int32)), .unset, .unset] [(.int (13 : Int32)), (.int (hv + (1 : Int32))), (.ref o)])) rfl rfl (hb hby at_165)
    have N30 := Fr.snoc X30 N29 g_o
    obtain ⟨lo30, X30, N30⟩ := own_pack X30 N30
    refine own_adv (B := (T30.setTop (mkF m 166 #[.val (.int p1), .val (.int p2), .val (.long q3), .second, .val (.long q4), .second, .val (.ref o), .val (.int hv), .val (.int (1 : Int32)), .unset, .unset] []))) st30 ?_
    obtain ⟨c14, hc14⟩ : ∃ c0 : Cell, c0 = c13.setSlot (hv + (1 : Int32)).toNatClampNeg (.int (nar .byte (13 : Int32))) := ⟨_, rfl⟩
    have Ar14 : Arr Z h30 o c14 .byte := by rw [hc14]; exact Ar13.same W30
    have S14 : c14.slots.size = (12 : Int32).toNatClampNeg := by rw [hc14, sz_set]; exact S13
    have ZZ30 : n0 ≤ h30.size := Nat.le_trans ZZ29 (Keep.of_wr W30).1
    refine own_adv (B := (T30.setTop (mkF m 174 #[.val (.int p1), .val (.int p2), .val (.long q3), .second, .val (.long q4), .second, .val (.ref o), .val (.int hv), .val (.int (1 : Int32)), .unset, .unset] [(.int (10 : Int32)), (.int (hv + (2 : Int32))), (.ref o)]))) (fun t kS => ?_) ?_
    · show Steps p.tables e below (T30.setTop (mkF m 166 #[.val (.int p1), .val (.int p2), .val (.long q3), .second, .val (.long q4), .second, .val (.ref o), .val (.int hv), .val (.int (1 : Int32)), .unset, .unset] [])) _
      refine XS.aload X30.here hx rfl (hb hby at_166) rfl rfl ?_
      show Steps p.tables e below (T30.setTop (mkF m 168 #[.val (.int p1), .val (.int p2), .val (.long q3), .second, .val (.long q4), .second, .val (.ref o), .val (.int hv), .val (.int (1 : Int32)), .unset, .unset] [(.ref o)])) _
      refine XS.iload X30.here hx rfl (hb hby at_168) rfl ?_
      show Steps p.tables e below (T30.setTop (mkF m 170 #[.val (.int p1), .val (.int p2), .val (.long q3), .second, .val (.long q4), .second, .val (.ref o), .val (.int hv), .val (.int (1 : Int32)), .unset, .unset] [(.int hv), (.ref o)])) _
      refine XS.iconst X30.here hx rfl (hb hby at_170) ?_
      show Steps p.tables e below (T30.setTop (mkF m 171 #[.val (.int p1), .val (.int p2), .val (.long q3), .second, .val (.long q4), .second, .val (.ref o), .val (.int hv), .val (.int (1 : Int32)), .unset, .unset] [(.int (2 : Int32)), (.int hv), (.ref o)])) _
      refine XS.iadd X30.here hx rfl (hb hby at_171) rfl ?_
      show Steps p.tables e below (T30.setTop (mkF m 172 #[.val (.int p1), .val (.int p2), .val (.long q3), .second, .val (.long q4), .second, .val (.ref o), .val (.int hv), .val (.int (1 : Int32)), .unset, .unset] [(.int (hv + (2 : Int32))), (.ref o)])) _
      refine XS.bipush X30.here hx rfl (hb hby at_172) ?_
      exact kS
    obtain ⟨T31, h31, X31, e31, W31, st31⟩ := stB X30 hx hZ e30 Ar14 (j := (hv + (2 : Int32))) (inb_of S14 hk2) (g := (mkF m 174 #[.val (.int p1), .val (.int p2), .val (.long q3), .second, .val (.long q4), .second, .val (.ref o), .val (.int hv), .val (.int (1 : Int32)), .unset, .unset] [(.int (10 : Int32)), (.int (hv + (2 : Int32))), (.ref o)])) rfl rfl (hb hby at_174)
    have N31 := Fr.snoc X31 N30 g_o
    obtain ⟨lo31, X31, N31⟩ := own_pack X31 N31
    refine own_adv (B := (T31.setTop (mkF m 175 #[.val (.int p1), .val (.int p2), .val (.long q3), .second, .val (.long q4), .second, .val (.ref o), .val (.int hv), .val (.int (1 : Int32)), .unset, .unset] []))) st31 ?_
    obtain ⟨c15, hc15⟩ : ∃ c0 : Cell, c0 = c14.setSlot (hv + (2 : Int32)).toNatClampNeg (.int (nar .byte (10 : Int32))) := ⟨_, rfl⟩
    have Ar15 : Arr Z h31 o c15 .byte := by rw [hc15]; exact Ar14.same W31
    have S15 : c15.slots.size = (12 : Int32).toNatClampNeg := by rw [hc15, sz_set]; exact S14
    have ZZ31 : n0 ≤ h31.size := Nat.le_trans ZZ30 (Keep.of_wr W31).1
    have at1 : c15.slots[(hv + (1 : Int32)).toNatClampNeg]? = some (.int (13 : Int32)) := by
      rw [hc15, get_miss hk2.1 hk1.1 (own_12 hv), hc14]
      exact get_hit (inb_of S13 hk1) rfl
    have eJ : (hv + (2 : Int32)) + (1 : Int32) - (1 : Int32) = hv + (2 : Int32) := Int32.add_sub_cancel _ _
    have eG : (hv + (2 : Int32)) + (1 : Int32) = hv + (3 : Int32) := by rw [Int32.add_assoc]; rfl
    have at2 : c15.slots[((hv + (2 : Int32)) + (1 : Int32) - (1 : Int32)).toNatClampNeg]? = some (.int (10 : Int32)) := by
      rw [hc15]
      exact get_hit (inb_of S14 hk2) eJ
    have in2 : ¬ (((hv + (2 : Int32)) + (1 : Int32) - (1 : Int32)) < 0 ∨ c15.slots.size ≤ ((hv + (2 : Int32)) + (1 : Int32) - (1 : Int32)).toNatClampNeg) := by rw [eJ]; exact inb_of S15 hk2
    refine own_adv (B := (T31.setTop (mkF m 205 #[.val (.int p1), .val (.int p2), .val (.long q3), .second, .val (.long q4), .second, .val (.ref o), .val (.int hv), .val (.int (1 : Int32)), .val (.int (hv + (3 : Int32))), .unset] []))) (fun t kS => ?_) ?_
    · show Steps p.tables e below (T31.setTop (mkF m 175 #[.val (.int p1), .val (.int p2), .val (.long q3), .second, .val (.long q4), .second, .val (.ref o), .val (.int hv), .val (.int (1 : Int32)), .unset, .unset] [])) _
      refine XS.goto X31.here hx rfl (pc0 := 175) (pc' := 187) rfl (hb hby at_175) (by decide) (by decide) ?_
      show Steps p.tables e below (T31.setTop (mkF m 187 #[.val (.int p1), .val (.int p2), .val (.long q3), .second, .val (.long q4), .second, .val (.ref o), .val (.int hv), .val (.int (1 : Int32)), .unset, .unset] [])) _
      refine XS.iload X31.here hx rfl (hb hby at_187) rfl ?_
      show Steps p.tables e below (T31.setTop (mkF m 189 #[.val (.int p1), .val (.int p2), .val (.long q3), .second, .val (.long q4), .second, .val (.ref o), .val (.int hv), .val (.int (1 : Int32)), .unset, .unset] [(.int (1 : Int32))])) _
      refine XS.ifNo X31.here hx rfl (hb hby at_189) rfl ((if0 _ _).trans (feq (by decide)).1) ?_
      show Steps p.tables e below (T31.setTop (mkF m 192 #[.val (.int p1), .val (.int p2), .val (.long q3), .second, .val (.long q4), .second, .val (.ref o), .val (.int hv), .val (.int (1 : Int32)), .unset, .unset] [])) _
      refine XS.iload X31.here hx rfl (hb hby at_192) rfl ?_
      show Steps p.tables e below (T31.setTop (mkF m 194 #[.val (.int p1), .val (.int p2), .val (.long q3), .second, .val (.long q4), .second, .val (.ref o), .val (.int hv), .val (.int (1 : Int32)), .unset, .unset] [(.int hv)])) _
      refine XS.iconst X31.here hx rfl (hb hby at_194) ?_
      show Steps p.tables e below (T31.setTop (mkF m 195 #[.val (.int p1), .val (.int p2), .val (.long q3), .second, .val (.long q4), .second, .val (.ref o), .val (.int hv), .val (.int (1 : Int32)), .unset, .unset] [(.int (3 : Int32)), (.int hv)])) _
      refine XS.iadd X31.here hx rfl (hb hby at_195) rfl ?_
      show Steps p.tables e below (T31.setTop (mkF m 196 #[.val (.int p1), .val (.int p2), .val (.long q3), .second, .val (.long q4), .second, .val (.ref o), .val (.int hv), .val (.int (1 : Int32)), .unset, .unset] [(.int (hv + (3 : Int32)))])) _
      refine XS.goto X31.here hx rfl (pc0 := 196) (pc' := 203) rfl (hb hby at_196) (by decide) (by decide) ?_
      show Steps p.tables e below (T31.setTop (mkF m 203 #[.val (.int p1), .val (.int p2), .val (.long q3), .second, .val (.long q4), .second, .val (.ref o), .val (.int hv), .val (.int (1 : Int32)), .unset, .unset] [(.int (hv + (3 : Int32)))])) _
      refine XS.istore X31.here hx rfl (hb hby at_203) rfl (l' := #[.val (.int p1), .val (.int p2), .val (.long q3), .second, .val (.long q4), .second, .val (.ref o), .val (.int hv), .val (.int (1 : Int32)), .val (.int (hv + (3 : Int32))), .unset]) rfl ?_
      exact kS
    refine own_adv (B := (T31.setTop (mkF m 209 #[.val (.int p1), .val (.int p2), .val (.long q3), .second, .val (.long q4), .second, .val (.ref o), .val (.int hv), .val (.int (1 : Int32)), .val (.int (hv + (3 : Int32))), .unset] [(.int hv), (.ref o)]))) (fun t kS => ?_) ?_
    · show Steps p.tables e below (T31.setTop (mkF m 205 #[.val (.int p1), .val (.int p2), .val (.long q3), .second, .val (.long q4), .second, .val (.ref o), .val (.int hv), .val (.int (1 : Int32)), .val (.int (hv + (3 : Int32))), .unset] [])) _
      refine XS.aload X31.here hx rfl (hb hby at_205) rfl rfl ?_
      show Steps p.tables e below (T31.setTop (mkF m 207 #[.val (.int p1), .val (.int p2), .val (.long q3), .second, .val (.long q4), .second, .val (.ref o), .val (.int hv), .val (.int (1 : Int32)), .val (.int (hv + (3 : Int32))), .unset] [(.ref o)])) _
      refine XS.iload X31.here hx rfl (hb hby at_207) rfl ?_
      exact kS
    obtain ⟨_, _, ⟨T32, L32, k32, n32⟩, -, X32, ⟨Lc32, hQ32, l32, y32, z32⟩, st32⟩ := Jvm.LawKit.callS X31 hx (y := (⟨"org/sipwright/message/SipParser", "bodyStart", "([BI)I"⟩ : MethodName)) hown (mvT hZ (hw _ (List.mem_of_getElem? (i := 5) rfl))) (mvT hZ (hw _ (List.mem_of_getElem? (i := 6) rfl))) (mvT hZ (hw _ (List.mem_of_getElem? (i := 7) rfl))) (mvT hZ (hw _ (List.mem_of_getElem? (i := 8) rfl))) (by decide) (backOf (W := 0) (rm2c l Z a0 hw [] o hv c15 h31 n0 ZZ31 Ar15 (inb_of S15 hk1) at1) hZ (hw _ (List.mem_of_getElem? (i := 8) rfl)) (hw _ (List.mem_of_getElem? (i := 7) rfl)) (by decide) (by decide)) (g := (mkF m 209 #[.val (.int p1), .val (.int p2), .val (.long q3), .second, .val (.long q4), .second, .val (.ref o), .val (.int hv), .val (.int (1 : Int32)), .val (.int (hv + (3 : Int32))), .unset] [(.int hv), (.ref o)])) rfl (by rw [hml]; rfl) (argsL := [(.ref o), (.int hv)]) (rest := []) (lenOf pd_1 rfl) rfl (by show 2 * 0 + _ ≤ _; exact Nat.le_of_eq rfl) (hb hby at_209) (fun _ _ => ⟨rfl, e31, (by decide : 1 + 0 ≤ _), (by decide : 12 + 0 ≤ _)⟩)
    dsimp only [Pt.U, Pt.locs, Pt.cells, Pt.slots] at X32 l32 y32 z32 st32 hQ32
    subst l32 y32 z32
    obtain ⟨rfl, N32q, hH32⟩ := hQ32
    have N32 := Fr.app N31 N32q
    obtain ⟨lo32, X32, N32⟩ := own_pack X32 N32
    replace X32 : Stand p l e _ s m _ below meth c T32 _ 1 12 := X32
    refine own_adv (B := (T32.setTop (mkF m 212 #[.val (.int p1), .val (.int p2), .val (.long q3), .second, .val (.long q4), .second, .val (.ref o), .val (.int hv), .val (.int (1 : Int32)), .val (.int (hv + (3 : Int32))), .unset] [(.int ((hv + (2 : Int32)) + (1 : Int32)))]))) (fun t kS => st32 t kS) ?_
    refine own_adv (B := (T32.setTop (mkF m 238 #[.val (.int p1), .val (.int p2), .val (.long q3), .second, .val (.long q4), .second, .val (.ref o), .val (.int hv), .val (.int (1 : Int32)), .val (.int (hv + (3 : Int32))), .val (.int ((hv + (2 : Int32)) + (1 : Int32)))] [(.int (1 : Int32))]))) (fun t kS => ?_) ?_
    · show Steps p.tables e below (T32.setTop (mkF m 212 #[.val (.int p1), .val (.int p2), .val (.long q3), .second, .val (.long q4), .second, .val (.ref o), .val (.int hv), .val (.int (1 : Int32)), .val (.int (hv + (3 : Int32))), .unset] [(.int ((hv + (2 : Int32)) + (1 : Int32)))])) _
      refine XS.istore X32.here hx rfl (hb hby at_212) rfl (l' := #[.val (.int p1), .val (.int p2), .val (.long q3), .second, .val (.long q4), .second, .val (.ref o), .val (.int hv), .val (.int (1 : Int32)), .val (.int (hv + (3 : Int32))), .val (.int ((hv + (2 : Int32)) + (1 : Int32)))]) rfl ?_
      show Steps p.tables e below (T32.setTop (mkF m 214 #[.val (.int p1), .val (.int p2), .val (.long q3), .second, .val (.long q4), .second, .val (.ref o), .val (.int hv), .val (.int (1 : Int32)), .val (.int (hv + (3 : Int32))), .val (.int ((hv + (2 : Int32)) + (1 : Int32)))] [])) _
      refine XS.iload X32.here hx rfl (hb hby at_214) rfl ?_
      show Steps p.tables e below (T32.setTop (mkF m 216 #[.val (.int p1), .val (.int p2), .val (.long q3), .second, .val (.long q4), .second, .val (.ref o), .val (.int hv), .val (.int (1 : Int32)), .val (.int (hv + (3 : Int32))), .val (.int ((hv + (2 : Int32)) + (1 : Int32)))] [(.int ((hv + (2 : Int32)) + (1 : Int32)))])) _
      refine XS.iload X32.here hx rfl (hb hby at_216) rfl ?_
      show Steps p.tables e below (T32.setTop (mkF m 218 #[.val (.int p1), .val (.int p2), .val (.long q3), .second, .val (.long q4), .second, .val (.ref o), .val (.int hv), .val (.int (1 : Int32)), .val (.int (hv + (3 : Int32))), .val (.int ((hv + (2 : Int32)) + (1 : Int32)))] [(.int (hv + (3 : Int32))), (.int ((hv + (2 : Int32)) + (1 : Int32)))])) _
      refine XS.icmpNo X32.here hx rfl (hb hby at_218) rfl (teq eG).2 ?_
      show Steps p.tables e below (T32.setTop (mkF m 221 #[.val (.int p1), .val (.int p2), .val (.long q3), .second, .val (.long q4), .second, .val (.ref o), .val (.int hv), .val (.int (1 : Int32)), .val (.int (hv + (3 : Int32))), .val (.int ((hv + (2 : Int32)) + (1 : Int32)))] [])) _
      refine XS.aload X32.here hx rfl (hb hby at_221) rfl rfl ?_
      show Steps p.tables e below (T32.setTop (mkF m 223 #[.val (.int p1), .val (.int p2), .val (.long q3), .second, .val (.long q4), .second, .val (.ref o), .val (.int hv), .val (.int (1 : Int32)), .val (.int (hv + (3 : Int32))), .val (.int ((hv + (2 : Int32)) + (1 : Int32)))] [(.ref o)])) _
      refine XS.iload X32.here hx rfl (hb hby at_223) rfl ?_
      show Steps p.tables e below (T32.setTop (mkF m 225 #[.val (.int p1), .val (.int p2), .val (.long q3), .second, .val (.long q4), .second, .val (.ref o), .val (.int hv), .val (.int (1 : Int32)), .val (.int (hv + (3 : Int32))), .val (.int ((hv + (2 : Int32)) + (1 : Int32)))] [(.int ((hv + (2 : Int32)) + (1 : Int32))), (.ref o)])) _
      refine XS.iconst X32.here hx rfl (hb hby at_225) ?_
      show Steps p.tables e below (T32.setTop (mkF m 226 #[.val (.int p1), .val (.int p2), .val (.long q3), .second, .val (.long q4), .second, .val (.ref o), .val (.int hv), .val (.int (1 : Int32)), .val (.int (hv + (3 : Int32))), .val (.int ((hv + (2 : Int32)) + (1 : Int32)))] [(.int (1 : Int32)), (.int ((hv + (2 : Int32)) + (1 : Int32))), (.ref o)])) _
      refine XS.isub X32.here hx rfl (hb hby at_226) rfl ?_
      show Steps p.tables e below (T32.setTop (mkF m 227 #[.val (.int p1), .val (.int p2), .val (.long q3), .second, .val (.long q4), .second, .val (.ref o), .val (.int hv), .val (.int (1 : Int32)), .val (.int (hv + (3 : Int32))), .val (.int ((hv + (2 : Int32)) + (1 : Int32)))] [(.int (((hv + (2 : Int32)) + (1 : Int32)) - (1 : Int32))), (.ref o)])) _
      refine X32.baloadBytes hx (j := (((hv + (2 : Int32)) + (1 : Int32)) - (1 : Int32))) (v := (.int (10 : Int32))) (by rw [hH32]; exact Ar15.1) (State.isArrayOf_alike hZ.alike Ar15.2.1) Ar15.2.2 in2 at2 (g := (mkF m 227 #[.val (.int p1), .val (.int p2), .val (.long q3), .second, .val (.long q4), .second, .val (.ref o), .val (.int hv), .val (.int (1 : Int32)), .val (.int (hv + (3 : Int32))), .val (.int ((hv + (2 : Int32)) + (1 : Int32)))] [(.int (((hv + (2 : Int32)) + (1 : Int32)) - (1 : Int32))), (.ref o)])) rfl rfl (hb hby at_227) _ ?_
      show Steps p.tables e below (T32.setTop (mkF m 228 #[.val (.int p1), .val (.int p2), .val (.long q3), .second, .val (.long q4), .second, .val (.ref o), .val (.int hv), .val (.int (1 : Int32)), .val (.int (hv + (3 : Int32))), .val (.int ((hv + (2 : Int32)) + (1 : Int32)))] [(.int (10 : Int32))])) _
      refine XS.bipush X32.here hx rfl (hb hby at_228) ?_
      show Steps p.tables e below (T32.setTop (mkF m 230 #[.val (.int p1), .val (.int p2), .val (.long q3), .second, .val (.long q4), .second, .val (.ref o), .val (.int hv), .val (.int (1 : Int32)), .val (.int (hv + (3 : Int32))), .val (.int ((hv + (2 : Int32)) + (1 : Int32)))] [(.int (10 : Int32)), (.int (10 : Int32))])) _
      refine XS.icmpNo X32.here hx rfl (hb hby at_230) rfl (teq rfl).2 ?_
      show Steps p.tables e below (T32.setTop (mkF m 233 #[.val (.int p1), .val (.int p2), .val (.long q3), .second, .val (.long q4), .second, .val (.ref o), .val (.int hv), .val (.int (1 : Int32)), .val (.int (hv + (3 : Int32))), .val (.int ((hv + (2 : Int32)) + (1 : Int32)))] [])) _
      refine XS.iconst X32.here hx rfl (hb hby at_233) ?_
      show Steps p.tables e below (T32.setTop (mkF m 234 #[.val (.int p1), .val (.int p2), .val (.long q3), .second, .val (.long q4), .second, .val (.ref o), .val (.int hv), .val (.int (1 : Int32)), .val (.int (hv + (3 : Int32))), .val (.int ((hv + (2 : Int32)) + (1 : Int32)))] [(.int (1 : Int32))])) _
      refine XS.goto X32.here hx rfl (pc0 := 234) (pc' := 238) rfl (hb hby at_234) (by decide) (by decide) ?_
      exact kS
    obtain ⟨fs, hr, hrun, hended, hW, hsame⟩ := X32.leave (v := some (.int (1 : Int32))) (fun h => by rw [Bd.returns] at h; cases h)
    refine ⟨_, _, ?_, hrun, hended, _, _, rfl, ?_, ⟨_, rfl⟩, hW, hsame.mono (by decide) (by decide)⟩
    · show Steps p.tables e below (T32.setTop (mkF m 238 #[.val (.int p1), .val (.int p2), .val (.long q3), .second, .val (.long q4), .second, .val (.ref o), .val (.int hv), .val (.int (1 : Int32)), .val (.int (hv + (3 : Int32))), .val (.int ((hv + (2 : Int32)) + (1 : Int32)))] [(.int (1 : Int32))])) _
      exact retN X32 hx (t := .boolean) Bd.returns (by simp) (hb hby at_238) hr
    · show Q0 Z p1 p2 q3 q4 h0 n0 _ T32.heap _
      rw [hH32]
      exact ⟨rfl, N32⟩
set_option maxRecDepth 65536 in
set_option maxHeartbeats 40000000 in
theorem comes_1 {Post : Tables → Env → Array Value → State → Outcome → State → Prop} (hpost : ∀ tb e args s v u, (limb_1_1.after args s (.returned v) u = true ∧ limb_1_2.after args s (.returned v) u = true ∧ True) → FrameEnd s (.returned v) u (Jvm.fieldLocs frame_1_writes args s ++ Jvm.arrayLocs frame_1_arrays args s ++ Jvm.staticLocs frame_1_statics s) 16 128 → Post tb e args s (.returned v) u) :
    ArmFor flags0 classFile x code maxLocals ret World_1 tables_1 room_1 Calls_1 rest_1 Pre_1 Post := by
  intro l hfl _ _ p e ha hc hk s m args below hf hA hF happ hP
  obtain ⟨hcalls, hrest, hpre⟩ := hP
  obtain ⟨-, -, -, hnamed, -, -, -, hat⟩ := (Spec.applies_iff hf).mp happ
  obtain ⟨hg, hn⟩ := and_e (Cond.before_iff.mp (show (Jvm.Cond.and given_1 narrow_1).before args s = true from hpre))
  obtain ⟨gc, gr0⟩ := and_e hg
  obtain ⟨ga0, gr1⟩ := and_e gr0
  obtain ⟨ga1, gr2⟩ := and_e gr1
  obtain ⟨ga2, gr3⟩ := and_e gr2
  obtain ⟨w0, w1, w2, w3, rfl⟩ : ∃ w0 w1 w2 w3 : Value, args = #[w0, w1, w2, w3] := by
    have hs : args.size = 4 := by simpa [Cond.value, given_1] using gc
    obtain ⟨L⟩ := args
    match L, hs with
    | [w0, w1, w2, w3], _ => exact ⟨w0, w1, w2, w3, rfl⟩
  have hw := fun d (hd : d ∈ tables_1) => atoms_spec (ws := Jvm.Cond.code x code maxLocals ret :: tables_1) hat d (List.mem_cons_of_mem _ hd)
  obtain ⟨i0, ei0⟩ := is_v ga0
  obtain rfl : w0 = (.int i0) := Option.some.inj ei0
  obtain ⟨i1, ei1⟩ := is_v ga1
  obtain rfl : w1 = (.int i1) := Option.some.inj ei1
  obtain ⟨i2, ei2⟩ := isL_v ga2
  obtain rfl : w2 = (.long i2) := Option.some.inj ei2
  obtain ⟨i3, ei3⟩ := isL_v gr3
  obtain rfl : w3 = (.long i3) := Option.some.inj ei3
  obtain ⟨n, o, h1, h2, h3, _, L, rfl, ⟨rfl, N⟩, hq⟩ := rm0 l s _ hw tables_1 i0 i1 i2 i3 s.heap s.heap.size (Nat.le_refl _) p e ha hc hk s m _ below hf ((Spec.applies_iff_loose hf).mp happ).1 ⟨rfl, State.Warmed39.refl s, rfl⟩ trivial
  refine ⟨n, _, h1, h2, h3, hpost _ _ _ _ _ _ ⟨Cond.after_iff.mpr rfl, Cond.after_iff.mpr (eq_i res_at (Term.int_eval (1)) rfl), trivial⟩ ⟨hq.1, hq.2.1, (hq.2.2.sift fun y hy => Or.inr (N y hy)).mono (by decide) (by decide)⟩⟩
theorem main_1_1 : Claimed_1_1 := comes_1 fun _ _ _ _ _ _ h hF => ⟨h.1, hF⟩
theorem main_1_2 : Claimed_1_2 := comes_1 fun _ _ _ _ _ _ h hF => ⟨h.2.1, hF⟩
end Jvm.Pilot.@@N@@
namespace Jvm.Pilot.@@N@@
open Jvm Jvm.ClassFile Sem Op Lib Jvm.Free Jvm.Stand Jvm.Pilot.@@N@@.Jvm.D
/-! MADE BY PROGRAM (witnessworld.py) out of the Statement's table words and the real class files: 9 classes; the members and pool entries that the words name. The judged class is class 1, her method 1. -/
namespace start1
open Jvm.ClassFile
def u (s : String) : CpInfo := .utf8 (stringToUtf16 s)
/-- a pool by its gaps: so many unusable entries, then the entry; so many at the end -/
def gap : Nat → List CpInfo → List CpInfo
  | 0, r => r
  | n + 1, r => .unusable :: gap n r
def poolList (es : List (Nat × CpInfo)) (last : Nat) : List CpInfo := es.foldr (fun e r => gap e.1 (e.2 :: r)) (gap last [])
def pool (es : List (Nat × CpInfo)) (last : Nat) : Array CpInfo := ⟨poolList es last⟩
def fileOf (pool : Array CpInfo) (this : Nat) (attrs : Array Attribute := #[]) (ms : Array MethodInfo := #[]) (fl : Nat := 33) (sup : Nat := 0) (ifs : Array Nat := #[]) (fds : Array FieldInfo := #[]) : ClassFile where
  minorVersion := 0
  majorVersion := 65
  constantPool := pool
  accessFlags := fl
  thisClass := this
  superClass := sup
  interfaces := ifs
  fields := fds
  methods := ms
  attributes := attrs
def plain (name : String) (sup : Option ClassId) : Class where
  name := name
  kind := .ordinary
  loader := none
  accessFlags := 33
  super := sup
  interfaces := #[]
  cf := none
  fields := #[]
  methods := #[]
  instanceTypes := #[]
  staticTypes := #[]
  resolved := #[]
  callSites := []
  init := .initialized
  statics := none
  mirror := none

def pool0 : Array CpInfo := pool [(5, u "<init>"), (0, u "()V"), (1, .class_ 10), (1, u "java/lang/Object")] 113

def k0m0 : Method := { name := "<init>", desc := "()V", sig := { parameters := [], returnType := none }, accessFlags := 1, code := none }
/-- java/lang/Object -/
def k0 : Class := { plain "java/lang/Object" none with
  accessFlags := 33
  interfaces := #[]
  cf := some (fileOf pool0 8 #[] #[{ accessFlags := 1, nameIndex := 5, descriptorIndex := 6, attributes := #[] }] 33 0 #[] #[])
  fields := #[]
  methods := #[k0m0]
  instanceTypes := #[]
  staticTypes := #[]
  resolved := Array.replicate 124 none
  statics := none }

def pool1 : Array CpInfo := pool [(2, .class_ 4), (1, u "java/lang/Object"), (0, u "<init>"), (0, u "()V"), (0, .methodref 8 9), (0, .class_ 10), (0, .nameAndType 11 12), (0, u "org/sipwright/message/SipParserBodyStartPinLaw"), (0, u "b"), (0, u "(JI)B"), (0, .methodref 14 15), (0, .class_ 16), (0, .nameAndType 17 18), (0, u "org/sipwright/message/SipParser"), (0, u "bodyStart"), (0, u "([BI)I"), (2, u "law"), (0, u "(IIJJ)Z")] 5

def k1m0 : Method := { name := "<init>", desc := "()V", sig := { parameters := [], returnType := none }, accessFlags := 2, code := none }
def k1c1 : Code := { maxStack := 5, maxLocals := 11, code := code, exceptionTable := #[], attributes := #[] }
def k1m1 : Method := { name := "law", desc := "(IIJJ)Z", sig := { parameters := [.int, .int, .long, .long], returnType := some .boolean }, accessFlags := 9, code := some k1c1 }
def k1c2 : Code := { maxStack := 4, maxLocals := 3, code := method_3_code, exceptionTable := #[], attributes := #[] }
def k1m2 : Method := { name := "b", desc := "(JI)B", sig := { parameters := [.long, .int], returnType := some .byte }, accessFlags := 10, code := some k1c2 }
/-- org/sipwright/message/SipParserBodyStartPinLaw -/
def k1 : Class := { plain "org/sipwright/message/SipParserBodyStartPinLaw" (some 0) with
  accessFlags := 49
  interfaces := #[]
  cf := some (fileOf pool1 8 #[] #[{ accessFlags := 2, nameIndex := 5, descriptorIndex := 6, attributes := #[] }, { accessFlags := 9, nameIndex := 21, descriptorIndex := 22, attributes := #[] }, { accessFlags := 10, nameIndex := 11, descriptorIndex := 12, attributes := #[] }] 49 2 #[] #[])
  fields := #[]
  methods := #[k1m0, k1m1, k1m2]
  instanceTypes := #[]
  staticTypes := #[]
  resolved := Array.replicate 28 none
  statics := none }

def pool2 : Array CpInfo := pool [(2, .class_ 4), (1, u "java/lang/Object"), (0, u "<init>"), (0, u "()V"), (1, .class_ 10), (1, u "org/sipwright/message/SipParser"), (44, u "bodyStart"), (0, u "([BI)I"), (1, .class_ 60), (1, u "org/sipwright/message/SipParser$Head"), (171, u "LONG_NAMES"), (0, u "Ljava/util/Map;"), (55, u "SINGLE_VALUED"), (0, u "Ljava/util/List;"), (21, u "MANDATORY"), (11, u "ADDRESSES"), (199, u "SIP_VERSION"), (0, u "Ljava/lang/String;"), (4, u "MAX_CSEQ"), (0, u "J")] 85

def k2m0 : Method := { name := "<init>", desc := "()V", sig := { parameters := [], returnType := none }, accessFlags := 2, code := none }
def k2c1 : Code := { maxStack := 3, maxLocals := 2, code := prog_31_method_5_code, exceptionTable := #[], attributes := #[] }
def k2m1 : Method := { name := "bodyStart", desc := "([BI)I", sig := { parameters := [(.array .byte), .int], returnType := some .int }, accessFlags := 8, code := some k2c1 }
/-- org/sipwright/message/SipParser -/
def k2 : Class := { plain "org/sipwright/message/SipParser" (some 0) with
  accessFlags := 49
  interfaces := #[]
  cf := some (fileOf pool2 8 #[.nestMembers #[58]] #[{ accessFlags := 2, nameIndex := 5, descriptorIndex := 6, attributes := #[] }, { accessFlags := 8, nameIndex := 55, descriptorIndex := 56, attributes := #[] }] 49 2 #[] #[{ accessFlags := 26, nameIndex := 524, descriptorIndex := 525, attributes := #[] }, { accessFlags := 26, nameIndex := 232, descriptorIndex := 233, attributes := #[] }, { accessFlags := 26, nameIndex := 312, descriptorIndex := 290, attributes := #[] }, { accessFlags := 26, nameIndex := 324, descriptorIndex := 290, attributes := #[] }, { accessFlags := 26, nameIndex := 289, descriptorIndex := 290, attributes := #[] }, { accessFlags := 26, nameIndex := 530, descriptorIndex := 531, attributes := #[] }])
  fields := #[{ name := "SIP_VERSION", type := (.object "java/lang/String"), accessFlags := 26, slot := 0, constantValue := 0 }, { name := "LONG_NAMES", type := (.object "java/util/Map"), accessFlags := 26, slot := 1, constantValue := 0 }, { name := "MANDATORY", type := (.object "java/util/List"), accessFlags := 26, slot := 2, constantValue := 0 }, { name := "ADDRESSES", type := (.object "java/util/List"), accessFlags := 26, slot := 3, constantValue := 0 }, { name := "SINGLE_VALUED", type := (.object "java/util/List"), accessFlags := 26, slot := 4, constantValue := 0 }, { name := "MAX_CSEQ", type := .long, accessFlags := 26, slot := 5, constantValue := 0 }]
  methods := #[k2m0, k2m1]
  instanceTypes := #[]
  staticTypes := #[(.object "java/lang/String"), (.object "java/util/Map"), (.object "java/util/List"), (.object "java/util/List"), (.object "java/util/List"), .long]
  resolved := Array.replicate 617 none
  statics := none }

def pool3 : Array CpInfo := pool [(1, u "java/lang/Cloneable"), (0, .class_ 1), (0, u "java/lang/Object"), (0, .class_ 3)] 3

/-- java/lang/Cloneable -/
def k3 : Class := { plain "java/lang/Cloneable" (some 0) with
  accessFlags := 1537
  interfaces := #[]
  cf := some (fileOf pool3 2 #[] #[] 1537 4 #[] #[])
  fields := #[]
  methods := #[]
  instanceTypes := #[]
  staticTypes := #[]
  resolved := Array.replicate 8 none
  statics := none }

def pool4 : Array CpInfo := pool [(1, u "java/io/Serializable"), (0, .class_ 1), (0, u "java/lang/Object"), (0, .class_ 3)] 3

/-- java/io/Serializable -/
def k4 : Class := { plain "java/io/Serializable" (some 0) with
  accessFlags := 1537
  interfaces := #[]
  cf := some (fileOf pool4 2 #[] #[] 1537 4 #[] #[])
  fields := #[]
  methods := #[]
  instanceTypes := #[]
  staticTypes := #[]
  resolved := Array.replicate 8 none
  statics := none }

/-- the primitive byte -/
def k5 : Class := { plain "byte" none with kind := .primitive 'B', accessFlags := 0x411 }
/-- [B -/
def k6 : Class := { plain "[B" (some 0) with kind := .array 5 .byte, interfaces := #[3, 4], accessFlags := 1041 }

/-- the primitive int -/
def k7 : Class := { plain "int" none with kind := .primitive 'I', accessFlags := 0x411 }
/-- [I -/
def k8 : Class := { plain "[I" (some 0) with kind := .array 7 .int, interfaces := #[3, 4], accessFlags := 1041 }

def heap : Heap := #[]
def classes : Array Class := #[k0, k1, k2, k3, k4, k5, k6, k7, k8]
def interned : List (Array UInt16 × Addr) := []
def slotsUsed : Nat := 0
def theMethod : MethodId := ⟨1, 1⟩
def args0 : Array Value := #[.int 5, .int 7, .long 3, .long 4]
def aboutOver (below : List Frame) : State where
  vm := { classes := classes, interned := interned.toArray }
  heap := heap
  slotsUsed := slotsUsed
  threads := #[{ frames := .invoking theMethod args0 :: below }]
def below0 : List Frame := [.native { method := ⟨0, 0⟩, args := #[] }]
def about1 : State := aboutOver below0
def p0 : Program := .bare "" "" ""
def e0 : Env := launch0.env 0 0 0
theorem w_frames : about1.frames = Frame.invoking theMethod args0 :: below0 := rfl
set_option maxRecDepth 65536 in
theorem w_args : argsFit about1.vm theMethod args0 = true := by decide +kernel
set_option maxRecDepth 65536 in
theorem w_heap : heapFits about1 = true := by decide +kernel
set_option maxRecDepth 65536 in
theorem w_runnable : about1.curStatus? = some .runnable := by decide +kernel
set_option maxRecDepth 65536 in
theorem w_alone : about1.alone = true := by decide +kernel
set_option maxRecDepth 65536 in
theorem w_named : about1.methodNamed? x = some theMethod := by decide +kernel
set_option maxRecDepth 65536 in
theorem w_hears : about1.hears theMethod below0 = true := by decide +kernel
set_option maxRecDepth 65536 in
theorem w_ripe : about1.ripe theMethod args0 below0 = true := by decide +kernel
theorem w_running : about1.status = .running := rfl
set_option maxRecDepth 65536 in
theorem w_room : about1.hasRoom e0.platform room_1 = true :=
  launch0.hasRoom_least _ room_1 (by decide +kernel) (by decide +kernel) (by decide +kernel) (by decide +kernel) (by decide +kernel) (by decide +kernel)
theorem allAtoms_all (ts : List Jvm.Cond) (a : Array Jvm.Value) (st : Jvm.State) : (allAtoms ts).before a st = ts.all (fun c => c.before a st) := by
  induction ts with
  | nil => rfl
  | cons c t ih =>
    show (Jvm.Cond.and c (allAtoms t)).before a st = _
    rw [Jvm.Cond.before_and, ih, List.all_cons]
def words1 : List Jvm.Cond := Jvm.Cond.code x code maxLocals ret :: tables_1
/-- a 'code' word, met by the world's own term for the bytes: nothing is compared byte by byte -/
theorem code_word {y : MethodName} {bytes : ByteArray} {mx : Nat} {rt : Option FieldType} {a : Array Value} {s : State} {m : MethodId} {meth : Method} {c : Code} (h1 : s.methodNamed? y = some m) (h2 : s.vm.method? m = some meth) (h3 : meth.code = some c) (h4 : c.code = bytes)
    (h5 : (c.maxLocals == mx && c.exceptionTable.isEmpty && decide (c.maxStack ≤ mostOperands) && decide (meth.sig.returnType = rt) && !meth.locks && decide (parseMethodDescriptor y.desc = some meth.sig)) = true) : (Jvm.Cond.code y bytes mx rt).before a s = true := by
  simp only [Bool.and_eq_true, beq_iff_eq, Bool.not_eq_true', decide_eq_true_eq] at h5
  obtain ⟨⟨⟨⟨⟨g1, g2⟩, g3⟩, g4⟩, g5⟩, g6⟩ := h5
  simp [Cond.before, Cond.holds, Cond.value, h1, h2, h3, h4, g1, g2, g3, g4, g5, g6]
def isCode : Jvm.Cond → Bool
  | .code _ _ _ _ => true
  | _ => false
theorem all_split {L : List Jvm.Cond} {P : Jvm.Cond → Bool} (h1 : L.all (fun c => isCode c || P c) = true) (h2 : ∀ c ∈ L.filter isCode, P c = true) : L.all P = true := by
  refine List.all_eq_true.mpr fun c hc => ?_
  have h := List.all_eq_true.mp h1 c hc
  rcases Bool.eq_false_or_eq_true (isCode c) with hi | hi
  · exact h2 c (List.mem_filter.mpr ⟨hc, hi⟩)
  · simpa [hi] using h
set_option maxRecDepth 65536 in
theorem w_c0 : (Jvm.Cond.code x code maxLocals ret).before args0 about1 = true := code_word (m := ⟨1, 1⟩) (meth := k1m1) (c := k1c1) (by decide +kernel) rfl rfl rfl (by decide +kernel)
set_option maxRecDepth 65536 in
theorem w_c1 : (Jvm.Cond.code ({ cls := "org/sipwright/message/SipParserBodyStartPinLaw", name := "b", desc := "(JI)B" } : Jvm.MethodName) method_3_code (3 : Nat) (Option.some Jvm.ClassFile.FieldType.byte)).before args0 about1 = true := code_word (m := ⟨1, 2⟩) (meth := k1m2) (c := k1c2) (by decide +kernel) rfl rfl rfl (by decide +kernel)
set_option maxRecDepth 65536 in
theorem w_c2 : (Jvm.Cond.code ({ cls := "org/sipwright/message/SipParser", name := "bodyStart", desc := "([BI)I" } : Jvm.MethodName) prog_31_method_5_code (2 : Nat) (Option.some Jvm.ClassFile.FieldType.int)).before args0 about1 = true := code_word (m := ⟨2, 1⟩) (meth := k2m1) (c := k2c1) (by decide +kernel) rfl rfl rfl (by decide +kernel)
def codes1 : List Jvm.Cond := [Jvm.Cond.code x code maxLocals ret, Jvm.Cond.code ({ cls := "org/sipwright/message/SipParserBodyStartPinLaw", name := "b", desc := "(JI)B" } : Jvm.MethodName) method_3_code (3 : Nat) (Option.some Jvm.ClassFile.FieldType.byte), Jvm.Cond.code ({ cls := "org/sipwright/message/SipParser", name := "bodyStart", desc := "([BI)I" } : Jvm.MethodName) prog_31_method_5_code (2 : Nat) (Option.some Jvm.ClassFile.FieldType.int)]
set_option maxRecDepth 65536 in
theorem codes_eq : words1.filter isCode = codes1 := rfl
theorem w_codes : ∀ c ∈ words1.filter isCode, c.before args0 about1 = true := by
  rw [codes_eq]
  intro c hc
  simp only [codes1, List.mem_cons, List.not_mem_nil, or_false] at hc
  rcases hc with rfl | rfl | rfl
  · exact w_c0
  · exact w_c1
  · exact w_c2
set_option maxRecDepth 65536 in
theorem w_t1 : words1.all (fun c => isCode c || c.before args0 about1) = true := by decide +kernel
theorem w_tables : (allAtoms (Jvm.Cond.code x code maxLocals ret :: tables_1)).before args0 about1 = true := by
  rw [allAtoms_all]
  show words1.all (fun c => c.before args0 about1) = true
  refine all_split ?_ w_codes
  rw [w_t1]
set_option maxRecDepth 65536 in
theorem w_case : (Jvm.Cond.and given_1 narrow_1).before args0 about1 = true := by decide +kernel
theorem w_applies : (headSpec (Jvm.Cond.code x code maxLocals ret :: tables_1) room_1).applies x e0.platform about1 = true :=
  (Spec.applies_iff w_frames).mpr ⟨w_running, w_runnable, w_alone, w_named, w_hears, w_ripe, w_room, w_tables⟩
theorem atStart : AtStart classFile x code maxLocals ret World_1 tables_1 room_1 Calls_1 rest_1 Pre_1 launch0 p0 e0 about1 theMethod args0 below0 :=
  ⟨lists_1, trivial, launch0.admits_env _ _ _, launch0.least_env, fairChoices_fair.cas, fairChoices_fair.clock, w_frames, w_args, w_heap, w_applies, trivial, trivial, w_case⟩
end start1
theorem witness_1 : WitnessClaimed_1 := ⟨start1.p0, start1.e0, start1.about1, start1.theMethod, start1.args0, start1.below0, start1.atStart⟩
end Jvm.Pilot.@@N@@
