import JvmDerived
import JvmDerived.Pilot.@@N@@Statement
import JvmDerived.Pilot.@@N@@Code
set_option linter.unusedVariables false
set_option linter.unusedSimpArgs false
namespace Jvm.RoadKit
open Sem ClassFile Op Lib Jvm.Stand Jvm.Free Jvm.LawKit
section New
variable {p : Program} {l : Launch} {e : Env} {R : Room} {s : State} {m : MethodId} {args : Array Value} {below : List Frame} {meth : Method} {c : Code} {T : State} {locs : List Loc} {cells slots : Nat}
theorem retI (X : Stand p l e R s m args below meth c T locs cells slots) (hx : p.tables.exec = Jvm.exec) {pc : Nat} {Ls : Array Slot} {z : Int32} {rest : List Value} (hret : meth.sig.returnType = some .int) (hd : decode c.code pc = .ok (.ireturn, 1)) {fs : List Frame}
    (hl : ∀ (f : JFrame) (acts : List Action), f.method = m → f.locked = none → f.entered = [] → (doReturn e (T.setTop f) acts (some (.int z))).1 = T.setFrames fs) : Steps p.tables e below (T.setTop (mkF m pc Ls (.int z :: rest))) (T.setFrames fs) := by
  have hm' : T.vm.method? m = some meth := X.method'
  have hn : narrow .int (.int z) = .int z := rfl
  show Steps p.tables e below (T.setTop { method := m, pc := pc, locals := Ls, stack := _ :: rest, locked := none }) _
  jvm_step X.here [X.here.top, hx, hd, hm', hret, hn]
  first | (intro acts; rw [hl _ acts rfl rfl rfl]) | rw [hl _ _ rfl rfl rfl]
  exact Steps.refl _
end New
end Jvm.RoadKit
namespace Jvm.Pilot.@@N@@
open Jvm Jvm.ClassFile Sem Op Lib Jvm.Free Jvm.Stand Jvm.LawKit Jvm.RoadKit Bundle Jvm.Pilot.@@N@@.Jvm.D
theorem own_adv {tb : Tables} {e : Env} {below : List Frame} {A B : State} {P : State → Outcome → Prop} (h : ∀ t, Steps tb e below B t → Steps tb e below A t) (g : ∃ t o, Steps tb e below B t ∧ P t o) : ∃ t o, Steps tb e below A t ∧ P t o := by
  obtain ⟨t, o, h1, h2⟩ := g
  exact ⟨t, o, h t h1, h2⟩
theorem own_lc (x : Int64) : lcmpW x x = 0 := (lw_eq x x).mpr rfl
theorem own_01 (p : Int32) : (p &&& (1 : Int32)).toInt64 = (1 : Int64) ∨ (p &&& (1 : Int32)).toInt64 = (0 : Int64) := by
  have h : p &&& (1 : Int32) = 1 ∨ p &&& (1 : Int32) = 0 := by
    have e : (p &&& (1 : Int32)).toBitVec.toNat = p.toBitVec.toNat % 2 := by
      rw [Int32.toBitVec_and, BitVec.toNat_and]
      exact Nat.and_one_is_mod _
    rcases Nat.mod_two_eq_zero_or_one p.toBitVec.toNat with h0 | h0
    · right
      apply Int32.toBitVec_inj.mp
      apply BitVec.eq_of_toNat_eq
      rw [e, h0]; rfl
    · left
      apply Int32.toBitVec_inj.mp
      apply BitVec.eq_of_toNat_eq
      rw [e, h0]; rfl
  rcases h with h | h
  · left; rw [h]; rfl
  · right; rw [h]; rfl
theorem own_not1 {s : Int64} (h : s = 1 ∨ s = 0) (n : ¬ s = 1) : s = 0 := h.resolve_left n
theorem own_m1 (z : Int64) : (-(1 : Int64)) &&& z = z := by
  have : (-(1 : Int64)) = -1 := rfl
  rw [this, Int64.neg_one_and]
theorem own_s1a (x y : Int64) : x ^^^ ((-(1 : Int64)) &&& (x ^^^ y)) = y := by
  rw [own_m1, ← Int64.xor_assoc, Int64.xor_self, Int64.zero_xor]
theorem own_s1b (x y : Int64) : y ^^^ ((-(1 : Int64)) &&& (x ^^^ y)) = x := by
  rw [own_m1, Int64.xor_comm x y, ← Int64.xor_assoc, Int64.xor_self, Int64.zero_xor]
theorem own_s0 (x z : Int64) : x ^^^ ((-(0 : Int64)) &&& z) = x := by
  have : (-(0 : Int64)) = 0 := rfl
  rw [this, Int64.zero_and, Int64.xor_zero]
theorem d1_0 : decode prog_19_method_15_code 0 = .ok (.lload_n 2, 1) := by decide +kernel
theorem d1_1 : decode prog_19_method_15_code 1 = .ok (.lneg, 1) := by decide +kernel
theorem d1_2 : decode prog_19_method_15_code 2 = .ok (.lstore 4, 2) := by decide +kernel
theorem d1_4 : decode prog_19_method_15_code 4 = .ok (.iconst 0, 1) := by decide +kernel
theorem d1_5 : decode prog_19_method_15_code 5 = .ok (.istore 6, 2) := by decide +kernel
theorem d1_7 : decode prog_19_method_15_code 7 = .ok (.iload 6, 2) := by decide +kernel
theorem d1_9 : decode prog_19_method_15_code 9 = .ok (.iconst 5, 1) := by decide +kernel
theorem d1_10 : decode prog_19_method_15_code 10 = .ok (.if_icmp .ge 41, 3) := by decide +kernel
theorem d1_13 : decode prog_19_method_15_code 13 = .ok (.lload 4, 2) := by decide +kernel
theorem d1_15 : decode prog_19_method_15_code 15 = .ok (.aload_n 0, 1) := by decide +kernel
theorem d1_16 : decode prog_19_method_15_code 16 = .ok (.iload 6, 2) := by decide +kernel
theorem d1_18 : decode prog_19_method_15_code 18 = .ok (.laload, 1) := by decide +kernel
theorem d1_19 : decode prog_19_method_15_code 19 = .ok (.aload_n 1, 1) := by decide +kernel
theorem d1_20 : decode prog_19_method_15_code 20 = .ok (.iload 6, 2) := by decide +kernel
theorem d1_22 : decode prog_19_method_15_code 22 = .ok (.laload, 1) := by decide +kernel
theorem d1_23 : decode prog_19_method_15_code 23 = .ok (.lxor, 1) := by decide +kernel
theorem d1_24 : decode prog_19_method_15_code 24 = .ok (.land, 1) := by decide +kernel
theorem d1_25 : decode prog_19_method_15_code 25 = .ok (.lstore 7, 2) := by decide +kernel
theorem d1_27 : decode prog_19_method_15_code 27 = .ok (.aload_n 0, 1) := by decide +kernel
theorem d1_28 : decode prog_19_method_15_code 28 = .ok (.iload 6, 2) := by decide +kernel
theorem d1_30 : decode prog_19_method_15_code 30 = .ok (.dup2, 1) := by decide +kernel
theorem d1_31 : decode prog_19_method_15_code 31 = .ok (.laload, 1) := by decide +kernel
theorem d1_32 : decode prog_19_method_15_code 32 = .ok (.lload 7, 2) := by decide +kernel
theorem d1_34 : decode prog_19_method_15_code 34 = .ok (.lxor, 1) := by decide +kernel
theorem d1_35 : decode prog_19_method_15_code 35 = .ok (.lastore, 1) := by decide +kernel
theorem d1_36 : decode prog_19_method_15_code 36 = .ok (.aload_n 1, 1) := by decide +kernel
theorem d1_37 : decode prog_19_method_15_code 37 = .ok (.iload 6, 2) := by decide +kernel
theorem d1_39 : decode prog_19_method_15_code 39 = .ok (.dup2, 1) := by decide +kernel
theorem d1_40 : decode prog_19_method_15_code 40 = .ok (.laload, 1) := by decide +kernel
theorem d1_41 : decode prog_19_method_15_code 41 = .ok (.lload 7, 2) := by decide +kernel
theorem d1_43 : decode prog_19_method_15_code 43 = .ok (.lxor, 1) := by decide +kernel
theorem d1_44 : decode prog_19_method_15_code 44 = .ok (.lastore, 1) := by decide +kernel
theorem d1_45 : decode prog_19_method_15_code 45 = .ok (.iinc 6 1, 3) := by decide +kernel
theorem d1_48 : decode prog_19_method_15_code 48 = .ok (.goto (-41), 3) := by decide +kernel
theorem d1_51 : decode prog_19_method_15_code 51 = .ok (.return_, 1) := by decide +kernel
theorem pn_1 : plainName "com/example/meyrin/meyrin/crypto/Field25519" = true := by first | (simp [plainName, overriddenIn]; done) | decide +kernel
theorem pn_0 : plainName "com/example/meyrin/meyrin/crypto/Field25519ConditionalSwapPinLaw" = true := by first | (simp [plainName, overriddenIn]; done) | decide +kernel
theorem pd_0 : parseMethodDescriptor "([J[JJ)V" = some ⟨[(.array .long), (.array .long), .long], none⟩ := by decide +kernel
theorem ef_1 (m : MethodId) (x0 : Addr) (x1 : Addr) (x2 : Int64) : entryFrame m #[(.ref x0), (.ref x1), (.long x2)] 9 = mkF m 0 #[.val (.ref x0), .val (.ref x1), .val (.long x2), .second, .unset, .unset, .unset, .unset, .unset] [] := by first | (simp [entryFrame, mkF, argsToLocals, Value.category]; done) | rfl
def Q1 (Z : State) (a1 : Addr) (a2 : Addr) (q3 : Int64) (x0 x1 x2 x3 x4 y0 y1 y2 y3 y4 : Int64) (k1 k2 : ClassId) (h0 : Heap) (n0 : Nat) (v : Option Value) (h : Heap) (L : List Loc) : Prop := v = none ∧ Fr n0 L ∧ n0 ≤ h.size ∧ Arv Z h a1 k1 .long (5 : Int32) [(.long (x0 ^^^ ((-q3) &&& (x0 ^^^ y0)))), (.long (x1 ^^^ ((-q3) &&& (x1 ^^^ y1)))), (.long (x2 ^^^ ((-q3) &&& (x2 ^^^ y2)))), (.long (x3 ^^^ ((-q3) &&& (x3 ^^^ y3)))), (.long (x4 ^^^ ((-q3) &&& (x4 ^^^ y4))))] (.long (0 : Int64)) ∧ Arv Z h a2 k2 .long (5 : Int32) [(.long (y0 ^^^ ((-q3) &&& (x0 ^^^ y0)))), (.long (y1 ^^^ ((-q3) &&& (x1 ^^^ y1)))), (.long (y2 ^^^ ((-q3) &&& (x2 ^^^ y2)))), (.long (y3 ^^^ ((-q3) &&& (x3 ^^^ y3)))), (.long (y4 ^^^ ((-q3) &&& (x4 ^^^ y4))))] (.long (0 : Int64))
set_option maxRecDepth 65536 in
set_option maxHeartbeats 40000000 in
theorem rm1 (l : Launch) (Z : State) (a0 : Array Value) (hw : ∀ d ∈ tables_1, d.before a0 Z = true) (ws : List Jvm.Cond) (a1 : Addr) (a2 : Addr) (q3 : Int64) (x0 x1 x2 x3 x4 y0 y1 y2 y3 y4 : Int64) (k1 k2 : ClassId) (h0 : Heap) (n0 : Nat) (Z0 : n0 ≤ h0.size) (V1 : Arv Z h0 a1 k1 .long (5 : Int32) [(.long x0), (.long x1), (.long x2), (.long x3), (.long x4)] (.long (0 : Int64))) (V2 : Arv Z h0 a2 k2 .long (5 : Int32) [(.long y0), (.long y1), (.long y2), (.long y3), (.long y4)] (.long (0 : Int64))) (hne : a1 ≠ a2) (g1 : n0 ≤ a1) (g2 : n0 ≤ a2) :
    MetFree l (⟨"com/example/meyrin/meyrin/crypto/Field25519", "conditionalSwap", "([J[JJ)V"⟩ : MethodName) (head1 (Jvm.Cond.code (⟨"com/example/meyrin/meyrin/crypto/Field25519", "conditionalSwap", "([J[JJ)V"⟩ : MethodName) prog_19_method_15_code 9 none :: ws) ({ frames := 0, cells := 0, slots := 0, locals := 0 } : Room)) (fun a U => a = #[(.ref a1), (.ref a2), (.long q3)] ∧ Z.Warmed39 U.vm ∧ U.heap = h0) (fun _ _ _ _ _ => True) (fun _ U o U' => ∃ v L, o = .returned v ∧ Q1 Z a1 a2 q3 x0 x1 x2 x3 x4 y0 y1 y2 y3 y4 k1 k2 h0 n0 v U'.heap L ∧ FrameEnd U o U' L ({ frames := 0, cells := 0, slots := 0, locals := 0 } : Room).cells ({ frames := 0, cells := 0, slots := 0, locals := 0 } : Room).slots) := by
  refine MetFree.of_bodySF (plainFor_of_name pn_1) hisR ?_
  intro p e s m args below meth c s₁ Bd hml0 hP hK
  obtain ⟨rfl, hZ, hh⟩ := hP
  have hx := Bd.exec
  have hby := Bd.bytes
  have hml : c.maxLocals = 9 := hml0
  have hown : s.vm.findClass "com/example/meyrin/meyrin/crypto/Field25519" = some m.cls := findClass_of_methodNamed Bd.named
  have hnm := (name_of_methodNamed Bd.named Bd.method).1
  have X0 : Stand p l e ({ frames := 0, cells := 0, slots := 0, locals := 0 } : Room) s m #[(.ref a1), (.ref a2), (.long q3)] below meth c s₁ [] 0 0 := Stand.of_body Bd
  have e0 : s₁.heap = h0 := by rw [← hh, Bd.state]; rfl
  have N0 := Fr.nil n0
  refine own_adv (B := (s₁.setTop (mkF m 0 #[.val (.ref a1), .val (.ref a2), .val (.long q3), .second, .unset, .unset, .unset, .unset, .unset] []))) (fun t k => castTop (ef_1 m a1 a2 q3) k) ?_
  refine own_adv (B := (s₁.setTop (mkF m 7 #[.val (.ref a1), .val (.ref a2), .val (.long q3), .second, .val (.long (-q3)), .second, .val (.int (0 : Int32)), .unset, .unset] []))) (fun t k => ?_) ?_
  · show Steps p.tables e below (s₁.setTop (mkF m 0 #[.val (.ref a1), .val (.ref a2), .val (.long q3), .second, .unset, .unset, .unset, .unset, .unset] [])) _
    refine XS.lloadN X0.here hx rfl (hb hby d1_0) rfl ?_
    show Steps p.tables e below (s₁.setTop (mkF m 1 #[.val (.ref a1), .val (.ref a2), .val (.long q3), .second, .unset, .unset, .unset, .unset, .unset] [(.long q3)])) _
    refine XS.lneg X0.here hx rfl (hb hby d1_1) rfl ?_
    show Steps p.tables e below (s₁.setTop (mkF m 2 #[.val (.ref a1), .val (.ref a2), .val (.long q3), .second, .unset, .unset, .unset, .unset, .unset] [(.long (-q3))])) _
    refine XS.lstore X0.here hx rfl (hb hby d1_2) rfl (l' := #[.val (.ref a1), .val (.ref a2), .val (.long q3), .second, .val (.long (-q3)), .second, .unset, .unset, .unset]) rfl ?_
    show Steps p.tables e below (s₁.setTop (mkF m 4 #[.val (.ref a1), .val (.ref a2), .val (.long q3), .second, .val (.long (-q3)), .second, .unset, .unset, .unset] [])) _
    refine XS.iconst X0.here hx rfl (hb hby d1_4) ?_
    show Steps p.tables e below (s₁.setTop (mkF m 5 #[.val (.ref a1), .val (.ref a2), .val (.long q3), .second, .val (.long (-q3)), .second, .unset, .unset, .unset] [(.int (0 : Int32))])) _
    refine XS.istore X0.here hx rfl (hb hby d1_5) rfl (l' := #[.val (.ref a1), .val (.ref a2), .val (.long q3), .second, .val (.long (-q3)), .second, .val (.int (0 : Int32)), .unset, .unset]) rfl ?_
    exact k
  obtain ⟨cl1, Ar1, Aq1, AS1, AN1, AH1, AG1⟩ := id V1
  obtain ⟨cl2, Ar2, Aq2, AS2, AN2, AH2, AG2⟩ := id V2
  have at3 : cl1.slots[(0 : Int32).toNatClampNeg]? = some (.long x0) := AH1 0 (by rw [AS1]; decide)
  have at4 : cl2.slots[(0 : Int32).toNatClampNeg]? = some (.long y0) := AH2 0 (by rw [AS2]; decide)
  refine own_adv (B := (s₁.setTop (mkF m 35 #[.val (.ref a1), .val (.ref a2), .val (.long q3), .second, .val (.long (-q3)), .second, .val (.int (0 : Int32)), .val (.long ((-q3) &&& (x0 ^^^ y0))), .second] [(.long (x0 ^^^ ((-q3) &&& (x0 ^^^ y0)))), (.int (0 : Int32)), (.ref a1)]))) (fun t k => ?_) ?_
  · show Steps p.tables e below (s₁.setTop (mkF m 7 #[.val (.ref a1), .val (.ref a2), .val (.long q3), .second, .val (.long (-q3)), .second, .val (.int (0 : Int32)), .unset, .unset] [])) _
    refine XS.iload X0.here hx rfl (hb hby d1_7) rfl ?_
    show Steps p.tables e below (s₁.setTop (mkF m 9 #[.val (.ref a1), .val (.ref a2), .val (.long q3), .second, .val (.long (-q3)), .second, .val (.int (0 : Int32)), .unset, .unset] [(.int (0 : Int32))])) _
    refine XS.iconst X0.here hx rfl (hb hby d1_9) ?_
    show Steps p.tables e below (s₁.setTop (mkF m 10 #[.val (.ref a1), .val (.ref a2), .val (.long q3), .second, .val (.long (-q3)), .second, .val (.int (0 : Int32)), .unset, .unset] [(.int (5 : Int32)), (.int (0 : Int32))])) _
    refine XS.icmpNo X0.here hx rfl (hb hby d1_10) rfl (tlt (by decide)).2.1 ?_
    show Steps p.tables e below (s₁.setTop (mkF m 13 #[.val (.ref a1), .val (.ref a2), .val (.long q3), .second, .val (.long (-q3)), .second, .val (.int (0 : Int32)), .unset, .unset] [])) _
    refine XS.lload X0.here hx rfl (hb hby d1_13) rfl ?_
    show Steps p.tables e below (s₁.setTop (mkF m 15 #[.val (.ref a1), .val (.ref a2), .val (.long q3), .second, .val (.long (-q3)), .second, .val (.int (0 : Int32)), .unset, .unset] [(.long (-q3))])) _
    refine XS.aloadN X0.here hx rfl (hb hby d1_15) rfl rfl ?_
    show Steps p.tables e below (s₁.setTop (mkF m 16 #[.val (.ref a1), .val (.ref a2), .val (.long q3), .second, .val (.long (-q3)), .second, .val (.int (0 : Int32)), .unset, .unset] [(.ref a1), (.long (-q3))])) _
    refine XS.iload X0.here hx rfl (hb hby d1_16) rfl ?_
    show Steps p.tables e below (s₁.setTop (mkF m 18 #[.val (.ref a1), .val (.ref a2), .val (.long q3), .second, .val (.long (-q3)), .second, .val (.int (0 : Int32)), .unset, .unset] [(.int (0 : Int32)), (.ref a1), (.long (-q3))])) _
    refine X0.laload hx (j := (0 : Int32)) (v := (.long x0)) (by rw [e0]; exact Ar1.1) (State.isArrayOf_alike hZ.alike Ar1.2.1) Ar1.2.2 (inb_of AS1 ⟨by decide, by decide⟩) at3 (g := (mkF m 18 #[.val (.ref a1), .val (.ref a2), .val (.long q3), .second, .val (.long (-q3)), .second, .val (.int (0 : Int32)), .unset, .unset] [(.int (0 : Int32)), (.ref a1), (.long (-q3))])) rfl rfl (hb hby d1_18) _ ?_
    show Steps p.tables e below (s₁.setTop (mkF m 19 #[.val (.ref a1), .val (.ref a2), .val (.long q3), .second, .val (.long (-q3)), .second, .val (.int (0 : Int32)), .unset, .unset] [(.long x0), (.long (-q3))])) _
    refine XS.aloadN X0.here hx rfl (hb hby d1_19) rfl rfl ?_
    show Steps p.tables e below (s₁.setTop (mkF m 20 #[.val (.ref a1), .val (.ref a2), .val (.long q3), .second, .val (.long (-q3)), .second, .val (.int (0 : Int32)), .unset, .unset] [(.ref a2), (.long x0), (.long (-q3))])) _
    refine XS.iload X0.here hx rfl (hb hby d1_20) rfl ?_
    show Steps p.tables e below (s₁.setTop (mkF m 22 #[.val (.ref a1), .val (.ref a2), .val (.long q3), .second, .val (.long (-q3)), .second, .val (.int (0 : Int32)), .unset, .unset] [(.int (0 : Int32)), (.ref a2), (.long x0), (.long (-q3))])) _
    refine X0.laload hx (j := (0 : Int32)) (v := (.long y0)) (by rw [e0]; exact Ar2.1) (State.isArrayOf_alike hZ.alike Ar2.2.1) Ar2.2.2 (inb_of AS2 ⟨by decide, by decide⟩) at4 (g := (mkF m 22 #[.val (.ref a1), .val (.ref a2), .val (.long q3), .second, .val (.long (-q3)), .second, .val (.int (0 : Int32)), .unset, .unset] [(.int (0 : Int32)), (.ref a2), (.long x0), (.long (-q3))])) rfl rfl (hb hby d1_22) _ ?_
    show Steps p.tables e below (s₁.setTop (mkF m 23 #[.val (.ref a1), .val (.ref a2), .val (.long q3), .second, .val (.long (-q3)), .second, .val (.int (0 : Int32)), .unset, .unset] [(.long y0), (.long x0), (.long (-q3))])) _
    refine XS.lxor X0.here hx rfl (hb hby d1_23) rfl ?_
    show Steps p.tables e below (s₁.setTop (mkF m 24 #[.val (.ref a1), .val (.ref a2), .val (.long q3), .second, .val (.long (-q3)), .second, .val (.int (0 : Int32)), .unset, .unset] [(.long (x0 ^^^ y0)), (.long (-q3))])) _
    refine XS.land X0.here hx rfl (hb hby d1_24) rfl ?_
    show Steps p.tables e below (s₁.setTop (mkF m 25 #[.val (.ref a1), .val (.ref a2), .val (.long q3), .second, .val (.long (-q3)), .second, .val (.int (0 : Int32)), .unset, .unset] [(.long ((-q3) &&& (x0 ^^^ y0)))])) _
    refine XS.lstore X0.here hx rfl (hb hby d1_25) rfl (l' := #[.val (.ref a1), .val (.ref a2), .val (.long q3), .second, .val (.long (-q3)), .second, .val (.int (0 : Int32)), .val (.long ((-q3) &&& (x0 ^^^ y0))), .second]) rfl ?_
    show Steps p.tables e below (s₁.setTop (mkF m 27 #[.val (.ref a1), .val (.ref a2), .val (.long q3), .second, .val (.long (-q3)), .second, .val (.int (0 : Int32)), .val (.long ((-q3) &&& (x0 ^^^ y0))), .second] [])) _
    refine XS.aloadN X0.here hx rfl (hb hby d1_27) rfl rfl ?_
    show Steps p.tables e below (s₁.setTop (mkF m 28 #[.val (.ref a1), .val (.ref a2), .val (.long q3), .second, .val (.long (-q3)), .second, .val (.int (0 : Int32)), .val (.long ((-q3) &&& (x0 ^^^ y0))), .second] [(.ref a1)])) _
    refine XS.iload X0.here hx rfl (hb hby d1_28) rfl ?_
    show Steps p.tables e below (s₁.setTop (mkF m 30 #[.val (.ref a1), .val (.ref a2), .val (.long q3), .second, .val (.long (-q3)), .second, .val (.int (0 : Int32)), .val (.long ((-q3) &&& (x0 ^^^ y0))), .second] [(.int (0 : Int32)), (.ref a1)])) _
    refine XT.dup2 X0.here hx rfl (hb hby d1_30) rfl rfl rfl ?_
    show Steps p.tables e below (s₁.setTop (mkF m 31 #[.val (.ref a1), .val (.ref a2), .val (.long q3), .second, .val (.long (-q3)), .second, .val (.int (0 : Int32)), .val (.long ((-q3) &&& (x0 ^^^ y0))), .second] [(.int (0 : Int32)), (.ref a1), (.int (0 : Int32)), (.ref a1)])) _
    refine X0.laload hx (j := (0 : Int32)) (v := (.long x0)) (by rw [e0]; exact Ar1.1) (State.isArrayOf_alike hZ.alike Ar1.2.1) Ar1.2.2 (inb_of AS1 ⟨by decide, by decide⟩) at3 (g := (mkF m 31 #[.val (.ref a1), .val (.ref a2), .val (.long q3), .second, .val (.long (-q3)), .second, .val (.int (0 : Int32)), .val (.long ((-q3) &&& (x0 ^^^ y0))), .second] [(.int (0 : Int32)), (.ref a1), (.int (0 : Int32)), (.ref a1)])) rfl rfl (hb hby d1_31) _ ?_
    show Steps p.tables e below (s₁.setTop (mkF m 32 #[.val (.ref a1), .val (.ref a2), .val (.long q3), .second, .val (.long (-q3)), .second, .val (.int (0 : Int32)), .val (.long ((-q3) &&& (x0 ^^^ y0))), .second] [(.long x0), (.int (0 : Int32)), (.ref a1)])) _
    refine XS.lload X0.here hx rfl (hb hby d1_32) rfl ?_
    show Steps p.tables e below (s₁.setTop (mkF m 34 #[.val (.ref a1), .val (.ref a2), .val (.long q3), .second, .val (.long (-q3)), .second, .val (.int (0 : Int32)), .val (.long ((-q3) &&& (x0 ^^^ y0))), .second] [(.long ((-q3) &&& (x0 ^^^ y0))), (.long x0), (.int (0 : Int32)), (.ref a1)])) _
    refine XS.lxor X0.here hx rfl (hb hby d1_34) rfl ?_
    exact k
  obtain ⟨T5, h5, X5, e5, W5, st5⟩ := stJ X0 hx hZ e0 Ar1 (j := (0 : Int32)) (inb_of AS1 ⟨by decide, by decide⟩) (g := (mkF m 35 #[.val (.ref a1), .val (.ref a2), .val (.long q3), .second, .val (.long (-q3)), .second, .val (.int (0 : Int32)), .val (.long ((-q3) &&& (x0 ^^^ y0))), .second] [(.long (x0 ^^^ ((-q3) &&& (x0 ^^^ y0)))), (.int (0 : Int32)), (.ref a1)])) rfl rfl (hb hby d1_35)
  have N5 := Fr.snoc X5 N0 g1
  refine own_adv (B := (T5.setTop (mkF m 36 #[.val (.ref a1), .val (.ref a2), .val (.long q3), .second, .val (.long (-q3)), .second, .val (.int (0 : Int32)), .val (.long ((-q3) &&& (x0 ^^^ y0))), .second] []))) st5 ?_
  have Va1_5 : Arv Z h5 a1 k1 .long (5 : Int32) [(.long (x0 ^^^ ((-q3) &&& (x0 ^^^ y0)))), (.long x1), (.long x2), (.long x3), (.long x4)] (.long (0 : Int64)) := Arv.set Ar1 Aq1 AS1 AN1 AH1 AG1 rfl W5 0 rfl (Nat.le_of_ble_eq_true rfl)
  have Va2_5 := V2.other W5 hne.symm
  have ZZ5 : n0 ≤ h5.size := Nat.le_trans Z0 (Keep.of_wr W5).1
  obtain ⟨cl6, Ar6, Aq6, AS6, AN6, AH6, AG6⟩ := id Va2_5
  have at7 : cl6.slots[(0 : Int32).toNatClampNeg]? = some (.long y0) := AH6 0 (by rw [AS6]; decide)
  refine own_adv (B := (T5.setTop (mkF m 44 #[.val (.ref a1), .val (.ref a2), .val (.long q3), .second, .val (.long (-q3)), .second, .val (.int (0 : Int32)), .val (.long ((-q3) &&& (x0 ^^^ y0))), .second] [(.long (y0 ^^^ ((-q3) &&& (x0 ^^^ y0)))), (.int (0 : Int32)), (.ref a2)]))) (fun t k => ?_) ?_
  · show Steps p.tables e below (T5.setTop (mkF m 36 #[.val (.ref a1), .val (.ref a2), .val (.long q3), .second, .val (.long (-q3)), .second, .val (.int (0 : Int32)), .val (.long ((-q3) &&& (x0 ^^^ y0))), .second] [])) _
    refine XS.aloadN X5.here hx rfl (hb hby d1_36) rfl rfl ?_
    show Steps p.tables e below (T5.setTop (mkF m 37 #[.val (.ref a1), .val (.ref a2), .val (.long q3), .second, .val (.long (-q3)), .second, .val (.int (0 : Int32)), .val (.long ((-q3) &&& (x0 ^^^ y0))), .second] [(.ref a2)])) _
    refine XS.iload X5.here hx rfl (hb hby d1_37) rfl ?_
    show Steps p.tables e below (T5.setTop (mkF m 39 #[.val (.ref a1), .val (.ref a2), .val (.long q3), .second, .val (.long (-q3)), .second, .val (.int (0 : Int32)), .val (.long ((-q3) &&& (x0 ^^^ y0))), .second] [(.int (0 : Int32)), (.ref a2)])) _
    refine XT.dup2 X5.here hx rfl (hb hby d1_39) rfl rfl rfl ?_
    show Steps p.tables e below (T5.setTop (mkF m 40 #[.val (.ref a1), .val (.ref a2), .val (.long q3), .second, .val (.long (-q3)), .second, .val (.int (0 : Int32)), .val (.long ((-q3) &&& (x0 ^^^ y0))), .second] [(.int (0 : Int32)), (.ref a2), (.int (0 : Int32)), (.ref a2)])) _
    refine X5.laload hx (j := (0 : Int32)) (v := (.long y0)) (by rw [e5]; exact Ar6.1) (State.isArrayOf_alike hZ.alike Ar6.2.1) Ar6.2.2 (inb_of AS6 ⟨by decide, by decide⟩) at7 (g := (mkF m 40 #[.val (.ref a1), .val (.ref a2), .val (.long q3), .second, .val (.long (-q3)), .second, .val (.int (0 : Int32)), .val (.long ((-q3) &&& (x0 ^^^ y0))), .second] [(.int (0 : Int32)), (.ref a2), (.int (0 : Int32)), (.ref a2)])) rfl rfl (hb hby d1_40) _ ?_
    show Steps p.tables e below (T5.setTop (mkF m 41 #[.val (.ref a1), .val (.ref a2), .val (.long q3), .second, .val (.long (-q3)), .second, .val (.int (0 : Int32)), .val (.long ((-q3) &&& (x0 ^^^ y0))), .second] [(.long y0), (.int (0 : Int32)), (.ref a2)])) _
    refine XS.lload X5.here hx rfl (hb hby d1_41) rfl ?_
    show Steps p.tables e below (T5.setTop (mkF m 43 #[.val (.ref a1), .val (.ref a2), .val (.long q3), .second, .val (.long (-q3)), .second, .val (.int (0 : Int32)), .val (.long ((-q3) &&& (x0 ^^^ y0))), .second] [(.long ((-q3) &&& (x0 ^^^ y0))), (.long y0), (.int (0 : Int32)), (.ref a2)])) _
    refine XS.lxor X5.here hx rfl (hb hby d1_43) rfl ?_
    exact k
  obtain ⟨T8, h8, X8, e8, W8, st8⟩ := stJ X5 hx hZ e5 Ar6 (j := (0 : Int32)) (inb_of AS6 ⟨by decide, by decide⟩) (g := (mkF m 44 #[.val (.ref a1), .val (.ref a2), .val (.long q3), .second, .val (.long (-q3)), .second, .val (.int (0 : Int32)), .val (.long ((-q3) &&& (x0 ^^^ y0))), .second] [(.long (y0 ^^^ ((-q3) &&& (x0 ^^^ y0)))), (.int (0 : Int32)), (.ref a2)])) rfl rfl (hb hby d1_44)
  have N8 := Fr.snoc X8 N5 g2
  refine own_adv (B := (T8.setTop (mkF m 45 #[.val (.ref a1), .val (.ref a2), .val (.long q3), .second, .val (.long (-q3)), .second, .val (.int (0 : Int32)), .val (.long ((-q3) &&& (x0 ^^^ y0))), .second] []))) st8 ?_
  have Va2_8 : Arv Z h8 a2 k2 .long (5 : Int32) [(.long (y0 ^^^ ((-q3) &&& (x0 ^^^ y0)))), (.long y1), (.long y2), (.long y3), (.long y4)] (.long (0 : Int64)) := Arv.set Ar6 Aq6 AS6 AN6 AH6 AG6 rfl W8 0 rfl (Nat.le_of_ble_eq_true rfl)
  have Va1_8 := Va1_5.other W8 hne
  have ZZ8 : n0 ≤ h8.size := Nat.le_trans ZZ5 (Keep.of_wr W8).1
  refine own_adv (B := (T8.setTop (mkF m 7 #[.val (.ref a1), .val (.ref a2), .val (.long q3), .second, .val (.long (-q3)), .second, .val (.int (1 : Int32)), .val (.long ((-q3) &&& (x0 ^^^ y0))), .second] []))) (fun t k => ?_) ?_
  · show Steps p.tables e below (T8.setTop (mkF m 45 #[.val (.ref a1), .val (.ref a2), .val (.long q3), .second, .val (.long (-q3)), .second, .val (.int (0 : Int32)), .val (.long ((-q3) &&& (x0 ^^^ y0))), .second] [])) _
    refine XS.iinc X8.here hx rfl (hb hby d1_45) rfl (l' := #[.val (.ref a1), .val (.ref a2), .val (.long q3), .second, .val (.long (-q3)), .second, .val (.int (1 : Int32)), .val (.long ((-q3) &&& (x0 ^^^ y0))), .second]) rfl ?_
    show Steps p.tables e below (T8.setTop (mkF m 48 #[.val (.ref a1), .val (.ref a2), .val (.long q3), .second, .val (.long (-q3)), .second, .val (.int (1 : Int32)), .val (.long ((-q3) &&& (x0 ^^^ y0))), .second] [])) _
    refine XS.goto X8.here hx rfl (pc0 := 48) (pc' := 7) rfl (hb hby d1_48) (by decide) (by decide) ?_
    exact k
  obtain ⟨cl9, Ar9, Aq9, AS9, AN9, AH9, AG9⟩ := id Va1_8
  obtain ⟨cl10, Ar10, Aq10, AS10, AN10, AH10, AG10⟩ := id Va2_8
  have at11 : cl9.slots[(1 : Int32).toNatClampNeg]? = some (.long x1) := AH9 1 (by rw [AS9]; decide)
  have at12 : cl10.slots[(1 : Int32).toNatClampNeg]? = some (.long y1) := AH10 1 (by rw [AS10]; decide)
  refine own_adv (B := (T8.setTop (mkF m 35 #[.val (.ref a1), .val (.ref a2), .val (.long q3), .second, .val (.long (-q3)), .second, .val (.int (1 : Int32)), .val (.long ((-q3) &&& (x1 ^^^ y1))), .second] [(.long (x1 ^^^ ((-q3) &&& (x1 ^^^ y1)))), (.int (1 : Int32)), (.ref a1)]))) (fun t k => ?_) ?_
  · show Steps p.tables e below (T8.setTop (mkF m 7 #[.val (.ref a1), .val (.ref a2), .val (.long q3), .second, .val (.long (-q3)), .second, .val (.int (1 : Int32)), .val (.long ((-q3) &&& (x0 ^^^ y0))), .second] [])) _
    refine XS.iload X8.here hx rfl (hb hby d1_7) rfl ?_
    show Steps p.tables e below (T8.setTop (mkF m 9 #[.val (.ref a1), .val (.ref a2), .val (.long q3), .second, .val (.long (-q3)), .second, .val (.int (1 : Int32)), .val (.long ((-q3) &&& (x0 ^^^ y0))), .second] [(.int (1 : Int32))])) _
    refine XS.iconst X8.here hx rfl (hb hby d1_9) ?_
    show Steps p.tables e below (T8.setTop (mkF m 10 #[.val (.ref a1), .val (.ref a2), .val (.long q3), .second, .val (.long (-q3)), .second, .val (.int (1 : Int32)), .val (.long ((-q3) &&& (x0 ^^^ y0))), .second] [(.int (5 : Int32)), (.int (1 : Int32))])) _
    refine XS.icmpNo X8.here hx rfl (hb hby d1_10) rfl (tlt (by decide)).2.1 ?_
    show Steps p.tables e below (T8.setTop (mkF m 13 #[.val (.ref a1), .val (.ref a2), .val (.long q3), .second, .val (.long (-q3)), .second, .val (.int (1 : Int32)), .val (.long ((-q3) &&& (x0 ^^^ y0))), .second] [])) _
    refine XS.lload X8.here hx rfl (hb hby d1_13) rfl ?_
    show Steps p.tables e below (T8.setTop (mkF m 15 #[.val (.ref a1), .val (.ref a2), .val (.long q3), .second, .val (.long (-q3)), .second, .val (.int (1 : Int32)), .val (.long ((-q3) &&& (x0 ^^^ y0))), .second] [(.long (-q3))])) _
    refine XS.aloadN X8.here hx rfl (hb hby d1_15) rfl rfl ?_
    show Steps p.tables e below (T8.setTop (mkF m 16 #[.val (.ref a1), .val (.ref a2), .val (.long q3), .second, .val (.long (-q3)), .second, .val (.int (1 : Int32)), .val (.long ((-q3) &&& (x0 ^^^ y0))), .second] [(.ref a1), (.long (-q3))])) _
    refine XS.iload X8.here hx rfl (hb hby d1_16) rfl ?_
    show Steps p.tables e below (T8.setTop (mkF m 18 #[.val (.ref a1), .val (.ref a2), .val (.long q3), .second, .val (.long (-q3)), .second, .val (.int (1 : Int32)), .val (.long ((-q3) &&& (x0 ^^^ y0))), .second] [(.int (1 : Int32)), (.ref a1), (.long (-q3))])) _
    refine X8.laload hx (j := (1 : Int32)) (v := (.long x1)) (by rw [e8]; exact Ar9.1) (State.isArrayOf_alike hZ.alike Ar9.2.1) Ar9.2.2 (inb_of AS9 ⟨by decide, by decide⟩) at11 (g := (mkF m 18 #[.val (.ref a1), .val (.ref a2), .val (.long q3), .second, .val (.long (-q3)), .second, .val (.int (1 : Int32)), .val (.long ((-q3) &&& (x0 ^^^ y0))), .second] [(.int (1 : Int32)), (.ref a1), (.long (-q3))])) rfl rfl (hb hby d1_18) _ ?_
    show Steps p.tables e below (T8.setTop (mkF m 19 #[.val (.ref a1), .val (.ref a2), .val (.long q3), .second, .val (.long (-q3)), .second, .val (.int (1 : Int32)), .val (.long ((-q3) &&& (x0 ^^^ y0))), .second] [(.long x1), (.long (-q3))])) _
    refine XS.aloadN X8.here hx rfl (hb hby d1_19) rfl rfl ?_
    show Steps p.tables e below (T8.setTop (mkF m 20 #[.val (.ref a1), .val (.ref a2), .val (.long q3), .second, .val (.long (-q3)), .second, .val (.int (1 : Int32)), .val (.long ((-q3) &&& (x0 ^^^ y0))), .second] [(.ref a2), (.long x1), (.long (-q3))])) _
    refine XS.iload X8.here hx rfl (hb hby d1_20) rfl ?_
    show Steps p.tables e below (T8.setTop (mkF m 22 #[.val (.ref a1), .val (.ref a2), .val (.long q3), .second, .val (.long (-q3)), .second, .val (.int (1 : Int32)), .val (.long ((-q3) &&& (x0 ^^^ y0))), .second] [(.int (1 : Int32)), (.ref a2), (.long x1), (.long (-q3))])) _
    refine X8.laload hx (j := (1 : Int32)) (v := (.long y1)) (by rw [e8]; exact Ar10.1) (State.isArrayOf_alike hZ.alike Ar10.2.1) Ar10.2.2 (inb_of AS10 ⟨by decide, by decide⟩) at12 (g := (mkF m 22 #[.val (.ref a1), .val (.ref a2), .val (.long q3), .second, .val (.long (-q3)), .second, .val (.int (1 : Int32)), .val (.long ((-q3) &&& (x0 ^^^ y0))), .second] [(.int (1 : Int32)), (.ref a2), (.long x1), (.long (-q3))])) rfl rfl (hb hby d1_22) _ ?_
    show Steps p.tables e below (T8.setTop (mkF m 23 #[.val (.ref a1), .val (.ref a2), .val (.long q3), .second, .val (.long (-q3)), .second, .val (.int (1 : Int32)), .val (.long ((-q3) &&& (x0 ^^^ y0))), .second] [(.long y1), (.long x1), (.long (-q3))])) _
    refine XS.lxor X8.here hx rfl (hb hby d1_23) rfl ?_
    show Steps p.tables e below (T8.setTop (mkF m 24 #[.val (.ref a1), .val (.ref a2), .val (.long q3), .second, .val (.long (-q3)), .second, .val (.int (1 : Int32)), .val (.long ((-q3) &&& (x0 ^^^ y0))), .second] [(.long (x1 ^^^ y1)), (.long (-q3))])) _
    refine XS.land X8.here hx rfl (hb hby d1_24) rfl ?_
    show Steps p.tables e below (T8.setTop (mkF m 25 #[.val (.ref a1), .val (.ref a2), .val (.long q3), .second, .val (.long (-q3)), .second, .val (.int (1 : Int32)), .val (.long ((-q3) &&& (x0 ^^^ y0))), .second] [(.long ((-q3) &&& (x1 ^^^ y1)))])) _
    refine XS.lstore X8.here hx rfl (hb hby d1_25) rfl (l' := #[.val (.ref a1), .val (.ref a2), .val (.long q3), .second, .val (.long (-q3)), .second, .val (.int (1 : Int32)), .val (.long ((-q3) &&& (x1 ^^^ y1))), .second]) rfl ?_
    show Steps p.tables e below (T8.setTop (mkF m 27 #[.val (.ref a1), .val (.ref a2), .val (.long q3), .second, .val (.long (-q3)), .second, .val (.int (1 : Int32)), .val (.long ((-q3) &&& (x1 ^^^ y1))), .second] [])) _
    refine XS.aloadN X8.here hx rfl (hb hby d1_27) rfl rfl ?_
    show Steps p.tables e below (T8.setTop (mkF m 28 #[.val (.ref a1), .val (.ref a2), .val (.long q3), .second, .val (.long (-q3)), .second, .val (.int (1 : Int32)), .val (.long ((-q3) &&& (x1 ^^^ y1))), .second] [(.ref a1)])) _
    refine XS.iload X8.here hx rfl (hb hby d1_28) rfl ?_
    show Steps p.tables e below (T8.setTop (mkF m 30 #[.val (.ref a1), .val (.ref a2), .val (.long q3), .second, .val (.long (-q3)), .second, .val (.int (1 : Int32)), .val (.long ((-q3) &&& (x1 ^^^ y1))), .second] [(.int (1 : Int32)), (.ref a1)])) _
    refine XT.dup2 X8.here hx rfl (hb hby d1_30) rfl rfl rfl ?_
    show Steps p.tables e below (T8.setTop (mkF m 31 #[.val (.ref a1), .val (.ref a2), .val (.long q3), .second, .val (.long (-q3)), .second, .val (.int (1 : Int32)), .val (.long ((-q3) &&& (x1 ^^^ y1))), .second] [(.int (1 : Int32)), (.ref a1), (.int (1 : Int32)), (.ref a1)])) _
    refine X8.laload hx (j := (1 : Int32)) (v := (.long x1)) (by rw [e8]; exact Ar9.1) (State.isArrayOf_alike hZ.alike Ar9.2.1) Ar9.2.2 (inb_of AS9 ⟨by decide, by decide⟩) at11 (g := (mkF m 31 #[.val (.ref a1), .val (.ref a2), .val (.long q3), .second, .val (.long (-q3)), .second, .val (.int (1 : Int32)), .val (.long ((-q3) &&& (x1 ^^^ y1))), .second] [(.int (1 : Int32)), (.ref a1), (.int (1 : Int32)), (.ref a1)])) rfl rfl (hb hby d1_31) _ ?_
    show Steps p.tables e below (T8.setTop (mkF m 32 #[.val (.ref a1), .val (.ref a2), .val (.long q3), .second, .val (.long (-q3)), .second, .val (.int (1 : Int32)), .val (.long ((-q3) &&& (x1 ^^^ y1))), .second] [(.long x1), (.int (1 : Int32)), (.ref a1)])) _
    refine XS.lload X8.here hx rfl (hb hby d1_32) rfl ?_
    show Steps p.tables e below (T8.setTop (mkF m 34 #[.val (.ref a1), .val (.ref a2), .val (.long q3), .second, .val (.long (-q3)), .second, .val (.int (1 : Int32)), .val (.long ((-q3) &&& (x1 ^^^ y1))), .second] [(.long ((-q3) &&& (x1 ^^^ y1))), (.long x1), (.int (1 : Int32)), (.ref a1)])) _
    refine XS.lxor X8.here hx rfl (hb hby d1_34) rfl ?_
    exact k
  obtain ⟨T13, h13, X13, e13, W13, st13⟩ := stJ X8 hx hZ e8 Ar9 (j := (1 : Int32)) (inb_of AS9 ⟨by decide, by decide⟩) (g := (mkF m 35 #[.val (.ref a1), .val (.ref a2), .val (.long q3), .second, .val (.long (-q3)), .second, .val (.int (1 : Int32)), .val (.long ((-q3) &&& (x1 ^^^ y1))), .second] [(.long (x1 ^^^ ((-q3) &&& (x1 ^^^ y1)))), (.int (1 : Int32)), (.ref a1)])) rfl rfl (hb hby d1_35)
  have N13 := Fr.snoc X13 N8 g1
  refine own_adv (B := (T13.setTop (mkF m 36 #[.val (.ref a1), .val (.ref a2), .val (.long q3), .second, .val (.long (-q3)), .second, .val (.int (1 : Int32)), .val (.long ((-q3) &&& (x1 ^^^ y1))), .second] []))) st13 ?_
  have Va1_13 : Arv Z h13 a1 k1 .long (5 : Int32) [(.long (x0 ^^^ ((-q3) &&& (x0 ^^^ y0)))), (.long (x1 ^^^ ((-q3) &&& (x1 ^^^ y1)))), (.long x2), (.long x3), (.long x4)] (.long (0 : Int64)) := Arv.set Ar9 Aq9 AS9 AN9 AH9 AG9 rfl W13 1 rfl (Nat.le_of_ble_eq_true rfl)
  have Va2_13 := Va2_8.other W13 hne.symm
  have ZZ13 : n0 ≤ h13.size := Nat.le_trans ZZ8 (Keep.of_wr W13).1
  obtain ⟨cl14, Ar14, Aq14, AS14, AN14, AH14, AG14⟩ := id Va2_13
  have at15 : cl14.slots[(1 : Int32).toNatClampNeg]? = some (.long y1) := AH14 1 (by rw [AS14]; decide)
  refine own_adv (B := (T13.setTop (mkF m 44 #[.val (.ref a1), .val (.ref a2), .val (.long q3), .second, .val (.long (-q3)), .second, .val (.int (1 : Int32)), .val (.long ((-q3) &&& (x1 ^^^ y1))), .second] [(.long (y1 ^^^ ((-q3) &&& (x1 ^^^ y1)))), (.int (1 : Int32)), (.ref a2)]))) (fun t k => ?_) ?_
  · show Steps p.tables e below (T13.setTop (mkF m 36 #[.val (.ref a1), .val (.ref a2), .val (.long q3), .second, .val (.long (-q3)), .second, .val (.int (1 : Int32)), .val (.long ((-q3) &&& (x1 ^^^ y1))), .second] [])) _
    refine XS.aloadN X13.here hx rfl (hb hby d1_36) rfl rfl ?_
    show Steps p.tables e below (T13.setTop (mkF m 37 #[.val (.ref a1), .val (.ref a2), .val (.long q3), .second, .val (.long (-q3)), .second, .val (.int (1 : Int32)), .val (.long ((-q3) &&& (x1 ^^^ y1))), .second] [(.ref a2)])) _
    refine XS.iload X13.here hx rfl (hb hby d1_37) rfl ?_
    show Steps p.tables e below (T13.setTop (mkF m 39 #[.val (.ref a1), .val (.ref a2), .val (.long q3), .second, .val (.long (-q3)), .second, .val (.int (1 : Int32)), .val (.long ((-q3) &&& (x1 ^^^ y1))), .second] [(.int (1 : Int32)), (.ref a2)])) _
    refine XT.dup2 X13.here hx rfl (hb hby d1_39) rfl rfl rfl ?_
    show Steps p.tables e below (T13.setTop (mkF m 40 #[.val (.ref a1), .val (.ref a2), .val (.long q3), .second, .val (.long (-q3)), .second, .val (.int (1 : Int32)), .val (.long ((-q3) &&& (x1 ^^^ y1))), .second] [(.int (1 : Int32)), (.ref a2), (.int (1 : Int32)), (.ref a2)])) _
    refine X13.laload hx (j := (1 : Int32)) (v := (.long y1)) (by rw [e13]; exact Ar14.1) (State.isArrayOf_alike hZ.alike Ar14.2.1) Ar14.2.2 (inb_of AS14 ⟨by decide, by decide⟩) at15 (g := (mkF m 40 #[.val (.ref a1), .val (.ref a2), .val (.long q3), .second, .val (.long (-q3)), .second, .val (.int (1 : Int32)), .val (.long ((-q3) &&& (x1 ^^^ y1))), .second] [(.int (1 : Int32)), (.ref a2), (.int (1 : Int32)), (.ref a2)])) rfl rfl (hb hby d1_40) _ ?_
    show Steps p.tables e below (T13.setTop (mkF m 41 #[.val (.ref a1), .val (.ref a2), .val (.long q3), .second, .val (.long (-q3)), .second, .val (.int (1 : Int32)), .val (.long ((-q3) &&& (x1 ^^^ y1))), .second] [(.long y1), (.int (1 : Int32)), (.ref a2)])) _
    refine XS.lload X13.here hx rfl (hb hby d1_41) rfl ?_
    show Steps p.tables e below (T13.setTop (mkF m 43 #[.val (.ref a1), .val (.ref a2), .val (.long q3), .second, .val (.long (-q3)), .second, .val (.int (1 : Int32)), .val (.long ((-q3) &&& (x1 ^^^ y1))), .second] [(.long ((-q3) &&& (x1 ^^^ y1))), (.long y1), (.int (1 : Int32)), (.ref a2)])) _
    refine XS.lxor X13.here hx rfl (hb hby d1_43) rfl ?_
    exact k
  obtain ⟨T16, h16, X16, e16, W16, st16⟩ := stJ X13 hx hZ e13 Ar14 (j := (1 : Int32)) (inb_of AS14 ⟨by decide, by decide⟩) (g := (mkF m 44 #[.val (.ref a1), .val (.ref a2), .val (.long q3), .second, .val (.long (-q3)), .second, .val (.int (1 : Int32)), .val (.long ((-q3) &&& (x1 ^^^ y1))), .second] [(.long (y1 ^^^ ((-q3) &&& (x1 ^^^ y1)))), (.int (1 : Int32)), (.ref a2)])) rfl rfl (hb hby d1_44)
  have N16 := Fr.snoc X16 N13 g2
  refine own_adv (B := (T16.setTop (mkF m 45 #[.val (.ref a1), .val (.ref a2), .val (.long q3), .second, .val (.long (-q3)), .second, .val (.int (1 : Int32)), .val (.long ((-q3) &&& (x1 ^^^ y1))), .second] []))) st16 ?_
  have Va2_16 : Arv Z h16 a2 k2 .long (5 : Int32) [(.long (y0 ^^^ ((-q3) &&& (x0 ^^^ y0)))), (.long (y1 ^^^ ((-q3) &&& (x1 ^^^ y1)))), (.long y2), (.long y3), (.long y4)] (.long (0 : Int64)) := Arv.set Ar14 Aq14 AS14 AN14 AH14 AG14 rfl W16 1 rfl (Nat.le_of_ble_eq_true rfl)
  have Va1_16 := Va1_13.other W16 hne
  have ZZ16 : n0 ≤ h16.size := Nat.le_trans ZZ13 (Keep.of_wr W16).1
  refine own_adv (B := (T16.setTop (mkF m 7 #[.val (.ref a1), .val (.ref a2), .val (.long q3), .second, .val (.long (-q3)), .second, .val (.int (2 : Int32)), .val (.long ((-q3) &&& (x1 ^^^ y1))), .second] []))) (fun t k => ?_) ?_
  · show Steps p.tables e below (T16.setTop (mkF m 45 #[.val (.ref a1), .val (.ref a2), .val (.long q3), .second, .val (.long (-q3)), .second, .val (.int (1 : Int32)), .val (.long ((-q3) &&& (x1 ^^^ y1))), .second] [])) _
    refine XS.iinc X16.here hx rfl (hb hby d1_45) rfl (l' := #[.val (.ref a1), .val (.ref a2), .val (.long q3), .second, .val (.long (-q3)), .second, .val (.int (2 : Int32)), .val (.long ((-q3) &&& (x1 ^^^ y1))), .second]) rfl ?_
    show Steps p.tables e below (T16.setTop (mkF m 48 #[.val (.ref a1), .val (.ref a2), .val (.long q3), .second, .val (.long (-q3)), .second, .val (.int (2 : Int32)), .val (.long ((-q3) &&& (x1 ^^^ y1))), .second] [])) _
    refine XS.goto X16.here hx rfl (pc0 := 48) (pc' := 7) rfl (hb hby d1_48) (by decide) (by decide) ?_
    exact k
  obtain ⟨cl17, Ar17, Aq17, AS17, AN17, AH17, AG17⟩ := id Va1_16
  obtain ⟨cl18, Ar18, Aq18, AS18, AN18, AH18, AG18⟩ := id Va2_16
  have at19 : cl17.slots[(2 : Int32).toNatClampNeg]? = some (.long x2) := AH17 2 (by rw [AS17]; decide)
  have at20 : cl18.slots[(2 : Int32).toNatClampNeg]? = some (.long y2) := AH18 2 (by rw [AS18]; decide)
  refine own_adv (B := (T16.setTop (mkF m 35 #[.val (.ref a1), .val (.ref a2), .val (.long q3), .second, .val (.long (-q3)), .second, .val (.int (2 : Int32)), .val (.long ((-q3) &&& (x2 ^^^ y2))), .second] [(.long (x2 ^^^ ((-q3) &&& (x2 ^^^ y2)))), (.int (2 : Int32)), (.ref a1)]))) (fun t k => ?_) ?_
  · show Steps p.tables e below (T16.setTop (mkF m 7 #[.val (.ref a1), .val (.ref a2), .val (.long q3), .second, .val (.long (-q3)), .second, .val (.int (2 : Int32)), .val (.long ((-q3) &&& (x1 ^^^ y1))), .second] [])) _
    refine XS.iload X16.here hx rfl (hb hby d1_7) rfl ?_
    show Steps p.tables e below (T16.setTop (mkF m 9 #[.val (.ref a1), .val (.ref a2), .val (.long q3), .second, .val (.long (-q3)), .second, .val (.int (2 : Int32)), .val (.long ((-q3) &&& (x1 ^^^ y1))), .second] [(.int (2 : Int32))])) _
    refine XS.iconst X16.here hx rfl (hb hby d1_9) ?_
    show Steps p.tables e below (T16.setTop (mkF m 10 #[.val (.ref a1), .val (.ref a2), .val (.long q3), .second, .val (.long (-q3)), .second, .val (.int (2 : Int32)), .val (.long ((-q3) &&& (x1 ^^^ y1))), .second] [(.int (5 : Int32)), (.int (2 : Int32))])) _
    refine XS.icmpNo X16.here hx rfl (hb hby d1_10) rfl (tlt (by decide)).2.1 ?_
    show Steps p.tables e below (T16.setTop (mkF m 13 #[.val (.ref a1), .val (.ref a2), .val (.long q3), .second, .val (.long (-q3)), .second, .val (.int (2 : Int32)), .val (.long ((-q3) &&& (x1 ^^^ y1))), .second] [])) _
    refine XS.lload X16.here hx rfl (hb hby d1_13) rfl ?_
    show Steps p.tables e below (T16.setTop (mkF m 15 #[.val (.ref a1), .val (.ref a2), .val (.long q3), .second, .val (.long (-q3)), .second, .val (.int (2 : Int32)), .val (.long ((-q3) &&& (x1 ^^^ y1))), .second] [(.long (-q3))])) _
    refine XS.aloadN X16.here hx rfl (hb hby d1_15) rfl rfl ?_
    show Steps p.tables e below (T16.setTop (mkF m 16 #[.val (.ref a1), .val (.ref a2), .val (.long q3), .second, .val (.long (-q3)), .second, .val (.int (2 : Int32)), .val (.long ((-q3) &&& (x1 ^^^ y1))), .second] [(.ref a1), (.long (-q3))])) _
    refine XS.iload X16.here hx rfl (hb hby d1_16) rfl ?_
    show Steps p.tables e below (T16.setTop (mkF m 18 #[.val (.ref a1), .val (.ref a2), .val (.long q3), .second, .val (.long (-q3)), .second, .val (.int (2 : Int32)), .val (.long ((-q3) &&& (x1 ^^^ y1))), .second] [(.int (2 : Int32)), (.ref a1), (.long (-q3))])) _
    refine X16.laload hx (j := (2 : Int32)) (v := (.long x2)) (by rw [e16]; exact Ar17.1) (State.isArrayOf_alike hZ.alike Ar17.2.1) Ar17.2.2 (inb_of AS17 ⟨by decide, by decide⟩) at19 (g := (mkF m 18 #[.val (.ref a1), .val (.ref a2), .val (.long q3), .second, .val (.long (-q3)), .second, .val (.int (2 : Int32)), .val (.long ((-q3) &&& (x1 ^^^ y1))), .second] [(.int (2 : Int32)), (.ref a1), (.long (-q3))])) rfl rfl (hb hby d1_18) _ ?_
    show Steps p.tables e below (T16.setTop (mkF m 19 #[.val (.ref a1), .val (.ref a2), .val (.long q3), .second, .val (.long (-q3)), .second, .val (.int (2 : Int32)), .val (.long ((-q3) &&& (x1 ^^^ y1))), .second] [(.long x2), (.long (-q3))])) _
    refine XS.aloadN X16.here hx rfl (hb hby d1_19) rfl rfl ?_
    show Steps p.tables e below (T16.setTop (mkF m 20 #[.val (.ref a1), .val (.ref a2), .val (.long q3), .second, .val (.long (-q3)), .second, .val (.int (2 : Int32)), .val (.long ((-q3) &&& (x1 ^^^ y1))), .second] [(.ref a2), (.long x2), (.long (-q3))])) _
    refine XS.iload X16.here hx rfl (hb hby d1_20) rfl ?_
    show Steps p.tables e below (T16.setTop (mkF m 22 #[.val (.ref a1), .val (.ref a2), .val (.long q3), .second, .val (.long (-q3)), .second, .val (.int (2 : Int32)), .val (.long ((-q3) &&& (x1 ^^^ y1))), .second] [(.int (2 : Int32)), (.ref a2), (.long x2), (.long (-q3))])) _
    refine X16.laload hx (j := (2 : Int32)) (v := (.long y2)) (by rw [e16]; exact Ar18.1) (State.isArrayOf_alike hZ.alike Ar18.2.1) Ar18.2.2 (inb_of AS18 ⟨by decide, by decide⟩) at20 (g := (mkF m 22 #[.val (.ref a1), .val (.ref a2), .val (.long q3), .second, .val (.long (-q3)), .second, .val (.int (2 : Int32)), .val (.long ((-q3) &&& (x1 ^^^ y1))), .second] [(.int (2 : Int32)), (.ref a2), (.long x2), (.long (-q3))])) rfl rfl (hb hby d1_22) _ ?_
    show Steps p.tables e below (T16.setTop (mkF m 23 #[.val (.ref a1), .val (.ref a2), .val (.long q3), .second, .val (.long (-q3)), .second, .val (.int (2 : Int32)), .val (.long ((-q3) &&& (x1 ^^^ y1))), .second] [(.long y2), (.long x2), (.long (-q3))])) _
    refine XS.lxor X16.here hx rfl (hb hby d1_23) rfl ?_
    show Steps p.tables e below (T16.setTop (mkF m 24 #[.val (.ref a1), .val (.ref a2), .val (.long q3), .second, .val (.long (-q3)), .second, .val (.int (2 : Int32)), .val (.long ((-q3) &&& (x1 ^^^ y1))), .second] [(.long (x2 ^^^ y2)), (.long (-q3))])) _
    refine XS.land X16.here hx rfl (hb hby d1_24) rfl ?_
    show Steps p.tables e below (T16.setTop (mkF m 25 #[.val (.ref a1), .val (.ref a2), .val (.long q3), .second, .val (.long (-q3)), .second, .val (.int (2 : Int32)), .val (.long ((-q3) &&& (x1 ^^^ y1))), .second] [(.long ((-q3) &&& (x2 ^^^ y2)))])) _
    refine XS.lstore X16.here hx rfl (hb hby d1_25) rfl (l' := #[.val (.ref a1), .val (.ref a2), .val (.long q3), .second, .val (.long (-q3)), .second, .val (.int (2 : Int32)), .val (.long ((-q3) &&& (x2 ^^^ y2))), .second]) rfl ?_
    show Steps p.tables e below (T16.setTop (mkF m 27 #[.val (.ref a1), .val (.ref a2), .val (.long q3), .second, .val (.long (-q3)), .second, .val (.int (2 : Int32)), .val (.long ((-q3) &&& (x2 ^^^ y2))), .second] [])) _
    refine XS.aloadN X16.here hx rfl (hb hby d1_27) rfl rfl ?_
    show Steps p.tables e below (T16.setTop (mkF m 28 #[.val (.ref a1), .val (.ref a2), .val (.long q3), .second, .val (.long (-q3)), .second, .val (.int (2 : Int32)), .val (.long ((-q3) &&& (x2 ^^^ y2))), .second] [(.ref a1)])) _
    refine XS.iload X16.here hx rfl (hb hby d1_28) rfl ?_
    show Steps p.tables e below (T16.setTop (mkF m 30 #[.val (.ref a1), .val (.ref a2), .val (.long q3), .second, .val (.long (-q3)), .second, .val (.int (2 : Int32)), .val (.long ((-q3) &&& (x2 ^^^ y2))), .second] [(.int (2 : Int32)), (.ref a1)])) _
    refine XT.dup2 X16.here hx rfl (hb hby d1_30) rfl rfl rfl ?_
    show Steps p.tables e below (T16.setTop (mkF m 31 #[.val (.ref a1), .val (.ref a2), .val (.long q3), .second, .val (.long (-q3)), .second, .val (.int (2 : Int32)), .val (.long ((-q3) &&& (x2 ^^^ y2))), .second] [(.int (2 : Int32)), (.ref a1), (.int (2 : Int32)), (.ref a1)])) _
    refine X16.laload hx (j := (2 : Int32)) (v := (.long x2)) (by rw [e16]; exact Ar17.1) (State.isArrayOf_alike hZ.alike Ar17.2.1) Ar17.2.2 (inb_of AS17 ⟨by decide, by decide⟩) at19 (g := (mkF m 31 #[.val (.ref a1), .val (.ref a2), .val (.long q3), .second, .val (.long (-q3)), .second, .val (.int (2 : Int32)), .val (.long ((-q3) &&& (x2 ^^^ y2))), .second] [(.int (2 : Int32)), (.ref a1), (.int (2 : Int32)), (.ref a1)])) rfl rfl (hb hby d1_31) _ ?_
    show Steps p.tables e below (T16.setTop (mkF m 32 #[.val (.ref a1), .val (.ref a2), .val (.long q3), .second, .val (.long (-q3)), .second, .val (.int (2 : Int32)), .val (.long ((-q3) &&& (x2 ^^^ y2))), .second] [(.long x2), (.int (2 : Int32)), (.ref a1)])) _
    refine XS.lload X16.here hx rfl (hb hby d1_32) rfl ?_
    show Steps p.tables e below (T16.setTop (mkF m 34 #[.val (.ref a1), .val (.ref a2), .val (.long q3), .second, .val (.long (-q3)), .second, .val (.int (2 : Int32)), .val (.long ((-q3) &&& (x2 ^^^ y2))), .second] [(.long ((-q3) &&& (x2 ^^^ y2))), (.long x2), (.int (2 : Int32)), (.ref a1)])) _
    refine XS.lxor X16.here hx rfl (hb hby d1_34) rfl ?_
    exact k
  obtain ⟨T21, h21, X21, e21, W21, st21⟩ := stJ X16 hx hZ e16 Ar17 (j := (2 : Int32)) (inb_of AS17 ⟨by decide, by decide⟩) (g := (mkF m 35 #[.val (.ref a1), .val (.ref a2), .val (.long q3), .second, .val (.long (-q3)), .second, .val (.int (2 : Int32)), .val (.long ((-q3) &&& (x2 ^^^ y2))), .second] [(.long (x2 ^^^ ((-q3) &&& (x2 ^^^ y2)))), (.int (2 : Int32)), (.ref a1)])) rfl rfl (hb hby d1_35)
  have N21 := Fr.snoc X21 N16 g1
  refine own_adv (B := (T21.setTop (mkF m 36 #[.val (.ref a1), .val (.ref a2), .val (.long q3), .second, .val (.long (-q3)), .second, .val (.int (2 : Int32)), .val (.long ((-q3) &&& (x2 ^^^ y2))), .second] []))) st21 ?_
  have Va1_21 : Arv Z h21 a1 k1 .long (5 : Int32) [(.long (x0 ^^^ ((-q3) &&& (x0 ^^^ y0)))), (.long (x1 ^^^ ((-q3) &&& (x1 ^^^ y1)))), (.long (x2 ^^^ ((-q3) &&& (x2 ^^^ y2)))), (.long x3), (.long x4)] (.long (0 : Int64)) := Arv.set Ar17 Aq17 AS17 AN17 AH17 AG17 rfl W21 2 rfl (Nat.le_of_ble_eq_true rfl)
  have Va2_21 := Va2_16.other W21 hne.symm
  have ZZ21 : n0 ≤ h21.size := Nat.le_trans ZZ16 (Keep.of_wr W21).1
  obtain ⟨cl22, Ar22, Aq22, AS22, AN22, AH22, AG22⟩ := id Va2_21
  have at23 : cl22.slots[(2 : Int32).toNatClampNeg]? = some (.long y2) := AH22 2 (by rw [AS22]; decide)
  refine own_adv (B := (T21.setTop (mkF m 44 #[.val (.ref a1), .val (.ref a2), .val (.long q3), .second, .val (.long (-q3)), .second, .val (.int (2 : Int32)), .val (.long ((-q3) &&& (x2 ^^^ y2))), .second] [(.long (y2 ^^^ ((-q3) &&& (x2 ^^^ y2)))), (.int (2 : Int32)), (.ref a2)]))) (fun t k => ?_) ?_
  · show Steps p.tables e below (T21.setTop (mkF m 36 #[.val (.ref a1), .val (.ref a2), .val (.long q3), .second, .val (.long (-q3)), .second, .val (.int (2 : Int32)), .val (.long ((-q3) &&& (x2 ^^^ y2))), .second] [])) _
    refine XS.aloadN X21.here hx rfl (hb hby d1_36) rfl rfl ?_
    show Steps p.tables e below (T21.setTop (mkF m 37 #[.val (.ref a1), .val (.ref a2), .val (.long q3), .second, .val (.long (-q3)), .second, .val (.int (2 : Int32)), .val (.long ((-q3) &&& (x2 ^^^ y2))), .second] [(.ref a2)])) _
    refine XS.iload X21.here hx rfl (hb hby d1_37) rfl ?_
    show Steps p.tables e below (T21.setTop (mkF m 39 #[.val (.ref a1), .val (.ref a2), .val (.long q3), .second, .val (.long (-q3)), .second, .val (.int (2 : Int32)), .val (.long ((-q3) &&& (x2 ^^^ y2))), .second] [(.int (2 : Int32)), (.ref a2)])) _
    refine XT.dup2 X21.here hx rfl (hb hby d1_39) rfl rfl rfl ?_
    show Steps p.tables e below (T21.setTop (mkF m 40 #[.val (.ref a1), .val (.ref a2), .val (.long q3), .second, .val (.long (-q3)), .second, .val (.int (2 : Int32)), .val (.long ((-q3) &&& (x2 ^^^ y2))), .second] [(.int (2 : Int32)), (.ref a2), (.int (2 : Int32)), (.ref a2)])) _
    refine X21.laload hx (j := (2 : Int32)) (v := (.long y2)) (by rw [e21]; exact Ar22.1) (State.isArrayOf_alike hZ.alike Ar22.2.1) Ar22.2.2 (inb_of AS22 ⟨by decide, by decide⟩) at23 (g := (mkF m 40 #[.val (.ref a1), .val (.ref a2), .val (.long q3), .second, .val (.long (-q3)), .second, .val (.int (2 : Int32)), .val (.long ((-q3) &&& (x2 ^^^ y2))), .second] [(.int (2 : Int32)), (.ref a2), (.int (2 : Int32)), (.ref a2)])) rfl rfl (hb hby d1_40) _ ?_
    show Steps p.tables e below (T21.setTop (mkF m 41 #[.val (.ref a1), .val (.ref a2), .val (.long q3), .second, .val (.long (-q3)), .second, .val (.int (2 : Int32)), .val (.long ((-q3) &&& (x2 ^^^ y2))), .second] [(.long y2), (.int (2 : Int32)), (.ref a2)])) _
    refine XS.lload X21.here hx rfl (hb hby d1_41) rfl ?_
    show Steps p.tables e below (T21.setTop (mkF m 43 #[.val (.ref a1), .val (.ref a2), .val (.long q3), .second, .val (.long (-q3)), .second, .val (.int (2 : Int32)), .val (.long ((-q3) &&& (x2 ^^^ y2))), .second] [(.long ((-q3) &&& (x2 ^^^ y2))), (.long y2), (.int (2 : Int32)), (.ref a2)])) _
    refine XS.lxor X21.here hx rfl (hb hby d1_43) rfl ?_
    exact k
  obtain ⟨T24, h24, X24, e24, W24, st24⟩ := stJ X21 hx hZ e21 Ar22 (j := (2 : Int32)) (inb_of AS22 ⟨by decide, by decide⟩) (g := (mkF m 44 #[.val (.ref a1), .val (.ref a2), .val (.long q3), .second, .val (.long (-q3)), .second, .val (.int (2 : Int32)), .val (.long ((-q3) &&& (x2 ^^^ y2))), .second] [(.long (y2 ^^^ ((-q3) &&& (x2 ^^^ y2)))), (.int (2 : Int32)), (.ref a2)])) rfl rfl (hb hby d1_44)
  have N24 := Fr.snoc X24 N21 g2
  refine own_adv (B := (T24.setTop (mkF m 45 #[.val (.ref a1), .val (.ref a2), .val (.long q3), .second, .val (.long (-q3)), .second, .val (.int (2 : Int32)), .val (.long ((-q3) &&& (x2 ^^^ y2))), .second] []))) st24 ?_
  have Va2_24 : Arv Z h24 a2 k2 .long (5 : Int32) [(.long (y0 ^^^ ((-q3) &&& (x0 ^^^ y0)))), (.long (y1 ^^^ ((-q3) &&& (x1 ^^^ y1)))), (.long (y2 ^^^ ((-q3) &&& (x2 ^^^ y2)))), (.long y3), (.long y4)] (.long (0 : Int64)) := Arv.set Ar22 Aq22 AS22 AN22 AH22 AG22 rfl W24 2 rfl (Nat.le_of_ble_eq_true rfl)
  have Va1_24 := Va1_21.other W24 hne
  have ZZ24 : n0 ≤ h24.size := Nat.le_trans ZZ21 (Keep.of_wr W24).1
  refine own_adv (B := (T24.setTop (mkF m 7 #[.val (.ref a1), .val (.ref a2), .val (.long q3), .second, .val (.long (-q3)), .second, .val (.int (3 : Int32)), .val (.long ((-q3) &&& (x2 ^^^ y2))), .second] []))) (fun t k => ?_) ?_
  · show Steps p.tables e below (T24.setTop (mkF m 45 #[.val (.ref a1), .val (.ref a2), .val (.long q3), .second, .val (.long (-q3)), .second, .val (.int (2 : Int32)), .val (.long ((-q3) &&& (x2 ^^^ y2))), .second] [])) _
    refine XS.iinc X24.here hx rfl (hb hby d1_45) rfl (l' := #[.val (.ref a1), .val (.ref a2), .val (.long q3), .second, .val (.long (-q3)), .second, .val (.int (3 : Int32)), .val (.long ((-q3) &&& (x2 ^^^ y2))), .second]) rfl ?_
    show Steps p.tables e below (T24.setTop (mkF m 48 #[.val (.ref a1), .val (.ref a2), .val (.long q3), .second, .val (.long (-q3)), .second, .val (.int (3 : Int32)), .val (.long ((-q3) &&& (x2 ^^^ y2))), .second] [])) _
    refine XS.goto X24.here hx rfl (pc0 := 48) (pc' := 7) rfl (hb hby d1_48) (by decide) (by decide) ?_
    exact k
  obtain ⟨cl25, Ar25, Aq25, AS25, AN25, AH25, AG25⟩ := id Va1_24
  obtain ⟨cl26, Ar26, Aq26, AS26, AN26, AH26, AG26⟩ := id Va2_24
  have at27 : cl25.slots[(3 : Int32).toNatClampNeg]? = some (.long x3) := AH25 3 (by rw [AS25]; decide)
  have at28 : cl26.slots[(3 : Int32).toNatClampNeg]? = some (.long y3) := AH26 3 (by rw [AS26]; decide)
  refine own_adv (B := (T24.setTop (mkF m 35 #[.val (.ref a1), .val (.ref a2), .val (.long q3), .second, .val (.long (-q3)), .second, .val (.int (3 : Int32)), .val (.long ((-q3) &&& (x3 ^^^ y3))), .second] [(.long (x3 ^^^ ((-q3) &&& (x3 ^^^ y3)))), (.int (3 : Int32)), (.ref a1)]))) (fun t k => ?_) ?_
  · show Steps p.tables e below (T24.setTop (mkF m 7 #[.val (.ref a1), .val (.ref a2), .val (.long q3), .second, .val (.long (-q3)), .second, .val (.int (3 : Int32)), .val (.long ((-q3) &&& (x2 ^^^ y2))), .second] [])) _
    refine XS.iload X24.here hx rfl (hb hby d1_7) rfl ?_
    show Steps p.tables e below (T24.setTop (mkF m 9 #[.val (.ref a1), .val (.ref a2), .val (.long q3), .second, .val (.long (-q3)), .second, .val (.int (3 : Int32)), .val (.long ((-q3) &&& (x2 ^^^ y2))), .second] [(.int (3 : Int32))])) _
    refine XS.iconst X24.here hx rfl (hb hby d1_9) ?_
    show Steps p.tables e below (T24.setTop (mkF m 10 #[.val (.ref a1), .val (.ref a2), .val (.long q3), .second, .val (.long (-q3)), .second, .val (.int (3 : Int32)), .val (.long ((-q3) &&& (x2 ^^^ y2))), .second] [(.int (5 : Int32)), (.int (3 : Int32))])) _
    refine XS.icmpNo X24.here hx rfl (hb hby d1_10) rfl (tlt (by decide)).2.1 ?_
    show Steps p.tables e below (T24.setTop (mkF m 13 #[.val (.ref a1), .val (.ref a2), .val (.long q3), .second, .val (.long (-q3)), .second, .val (.int (3 : Int32)), .val (.long ((-q3) &&& (x2 ^^^ y2))), .second] [])) _
    refine XS.lload X24.here hx rfl (hb hby d1_13) rfl ?_
    show Steps p.tables e below (T24.setTop (mkF m 15 #[.val (.ref a1), .val (.ref a2), .val (.long q3), .second, .val (.long (-q3)), .second, .val (.int (3 : Int32)), .val (.long ((-q3) &&& (x2 ^^^ y2))), .second] [(.long (-q3))])) _
    refine XS.aloadN X24.here hx rfl (hb hby d1_15) rfl rfl ?_
    show Steps p.tables e below (T24.setTop (mkF m 16 #[.val (.ref a1), .val (.ref a2), .val (.long q3), .second, .val (.long (-q3)), .second, .val (.int (3 : Int32)), .val (.long ((-q3) &&& (x2 ^^^ y2))), .second] [(.ref a1), (.long (-q3))])) _
    refine XS.iload X24.here hx rfl (hb hby d1_16) rfl ?_
    show Steps p.tables e below (T24.setTop (mkF m 18 #[.val (.ref a1), .val (.ref a2), .val (.long q3), .second, .val (.long (-q3)), .second, .val (.int (3 : Int32)), .val (.long ((-q3) &&& (x2 ^^^ y2))), .second] [(.int (3 : Int32)), (.ref a1), (.long (-q3))])) _
    refine X24.laload hx (j := (3 : Int32)) (v := (.long x3)) (by rw [e24]; exact Ar25.1) (State.isArrayOf_alike hZ.alike Ar25.2.1) Ar25.2.2 (inb_of AS25 ⟨by decide, by decide⟩) at27 (g := (mkF m 18 #[.val (.ref a1), .val (.ref a2), .val (.long q3), .second, .val (.long (-q3)), .second, .val (.int (3 : Int32)), .val (.long ((-q3) &&& (x2 ^^^ y2))), .second] [(.int (3 : Int32)), (.ref a1), (.long (-q3))])) rfl rfl (hb hby d1_18) _ ?_
    show Steps p.tables e below (T24.setTop (mkF m 19 #[.val (.ref a1), .val (.ref a2), .val (.long q3), .second, .val (.long (-q3)), .second, .val (.int (3 : Int32)), .val (.long ((-q3) &&& (x2 ^^^ y2))), .second] [(.long x3), (.long (-q3))])) _
    refine XS.aloadN X24.here hx rfl (hb hby d1_19) rfl rfl ?_
    show Steps p.tables e below (T24.setTop (mkF m 20 #[.val (.ref a1), .val (.ref a2), .val (.long q3), .second, .val (.long (-q3)), .second, .val (.int (3 : Int32)), .val (.long ((-q3) &&& (x2 ^^^ y2))), .second] [(.ref a2), (.long x3), (.long (-q3))])) _
    refine XS.iload X24.here hx rfl (hb hby d1_20) rfl ?_
    show Steps p.tables e below (T24.setTop (mkF m 22 #[.val (.ref a1), .val (.ref a2), .val (.long q3), .second, .val (.long (-q3)), .second, .val (.int (3 : Int32)), .val (.long ((-q3) &&& (x2 ^^^ y2))), .second] [(.int (3 : Int32)), (.ref a2), (.long x3), (.long (-q3))])) _
    refine X24.laload hx (j := (3 : Int32)) (v := (.long y3)) (by rw [e24]; exact Ar26.1) (State.isArrayOf_alike hZ.alike Ar26.2.1) Ar26.2.2 (inb_of AS26 ⟨by decide, by decide⟩) at28 (g := (mkF m 22 #[.val (.ref a1), .val (.ref a2), .val (.long q3), .second, .val (.long (-q3)), .second, .val (.int (3 : Int32)), .val (.long ((-q3) &&& (x2 ^^^ y2))), .second] [(.int (3 : Int32)), (.ref a2), (.long x3), (.long (-q3))])) rfl rfl (hb hby d1_22) _ ?_
    show Steps p.tables e below (T24.setTop (mkF m 23 #[.val (.ref a1), .val (.ref a2), .val (.long q3), .second, .val (.long (-q3)), .second, .val (.int (3 : Int32)), .val (.long ((-q3) &&& (x2 ^^^ y2))), .second] [(.long y3), (.long x3), (.long (-q3))])) _
    refine XS.lxor X24.here hx rfl (hb hby d1_23) rfl ?_
    show Steps p.tables e below (T24.setTop (mkF m 24 #[.val (.ref a1), .val (.ref a2), .val (.long q3), .second, .val (.long (-q3)), .second, .val (.int (3 : Int32)), .val (.long ((-q3) &&& (x2 ^^^ y2))), .second] [(.long (x3 ^^^ y3)), (.long (-q3))])) _
    refine XS.land X24.here hx rfl (hb hby d1_24) rfl ?_
    show Steps p.tables e below (T24.setTop (mkF m 25 #[.val (.ref a1), .val (.ref a2), .val (.long q3), .second, .val (.long (-q3)), .second, .val (.int (3 : Int32)), .val (.long ((-q3) &&& (x2 ^^^ y2))), .second] [(.long ((-q3) &&& (x3 ^^^ y3)))])) _
    refine XS.lstore X24.here hx rfl (hb hby d1_25) rfl (l' := #[.val (.ref a1), .val (.ref a2), .val (.long q3), .second, .val (.long (-q3)), .second, .val (.int (3 : Int32)), .val (.long ((-q3) &&& (x3 ^^^ y3))), .second]) rfl ?_
    show Steps p.tables e below (T24.setTop (mkF m 27 #[.val (.ref a1), .val (.ref a2), .val (.long q3), .second, .val (.long (-q3)), .second, .val (.int (3 : Int32)), .val (.long ((-q3) &&& (x3 ^^^ y3))), .second] [])) _
    refine XS.aloadN X24.here hx rfl (hb hby d1_27) rfl rfl ?_
    show Steps p.tables e below (T24.setTop (mkF m 28 #[.val (.ref a1), .val (.ref a2), .val (.long q3), .second, .val (.long (-q3)), .second, .val (.int (3 : Int32)), .val (.long ((-q3) &&& (x3 ^^^ y3))), .second] [(.ref a1)])) _
    refine XS.iload X24.here hx rfl (hb hby d1_28) rfl ?_
    show Steps p.tables e below (T24.setTop (mkF m 30 #[.val (.ref a1), .val (.ref a2), .val (.long q3), .second, .val (.long (-q3)), .second, .val (.int (3 : Int32)), .val (.long ((-q3) &&& (x3 ^^^ y3))), .second] [(.int (3 : Int32)), (.ref a1)])) _
    refine XT.dup2 X24.here hx rfl (hb hby d1_30) rfl rfl rfl ?_
    show Steps p.tables e below (T24.setTop (mkF m 31 #[.val (.ref a1), .val (.ref a2), .val (.long q3), .second, .val (.long (-q3)), .second, .val (.int (3 : Int32)), .val (.long ((-q3) &&& (x3 ^^^ y3))), .second] [(.int (3 : Int32)), (.ref a1), (.int (3 : Int32)), (.ref a1)])) _
    refine X24.laload hx (j := (3 : Int32)) (v := (.long x3)) (by rw [e24]; exact Ar25.1) (State.isArrayOf_alike hZ.alike Ar25.2.1) Ar25.2.2 (inb_of AS25 ⟨by decide, by decide⟩) at27 (g := (mkF m 31 #[.val (.ref a1), .val (.ref a2), .val (.long q3), .second, .val (.long (-q3)), .second, .val (.int (3 : Int32)), .val (.long ((-q3) &&& (x3 ^^^ y3))), .second] [(.int (3 : Int32)), (.ref a1), (.int (3 : Int32)), (.ref a1)])) rfl rfl (hb hby d1_31) _ ?_
    show Steps p.tables e below (T24.setTop (mkF m 32 #[.val (.ref a1), .val (.ref a2), .val (.long q3), .second, .val (.long (-q3)), .second, .val (.int (3 : Int32)), .val (.long ((-q3) &&& (x3 ^^^ y3))), .second] [(.long x3), (.int (3 : Int32)), (.ref a1)])) _
    refine XS.lload X24.here hx rfl (hb hby d1_32) rfl ?_
    show Steps p.tables e below (T24.setTop (mkF m 34 #[.val (.ref a1), .val (.ref a2), .val (.long q3), .second, .val (.long (-q3)), .second, .val (.int (3 : Int32)), .val (.long ((-q3) &&& (x3 ^^^ y3))), .second] [(.long ((-q3) &&& (x3 ^^^ y3))), (.long x3), (.int (3 : Int32)), (.ref a1)])) _
    refine XS.lxor X24.here hx rfl (hb hby d1_34) rfl ?_
    exact k
  obtain ⟨T29, h29, X29, e29, W29, st29⟩ := stJ X24 hx hZ e24 Ar25 (j := (3 : Int32)) (inb_of AS25 ⟨by decide, by decide⟩) (g := (mkF m 35 #[.val (.ref a1), .val (.ref a2), .val (.long q3), .second, .val (.long (-q3)), .second, .val (.int (3 : Int32)), .val (.long ((-q3) &&& (x3 ^^^ y3))), .second] [(.long (x3 ^^^ ((-q3) &&& (x3 ^^^ y3)))), (.int (3 : Int32)), (.ref a1)])) rfl rfl (hb hby d1_35)
  have N29 := Fr.snoc X29 N24 g1
  refine own_adv (B := (T29.setTop (mkF m 36 #[.val (.ref a1), .val (.ref a2), .val (.long q3), .second, .val (.long (-q3)), .second, .val (.int (3 : Int32)), .val (.long ((-q3) &&& (x3 ^^^ y3))), .second] []))) st29 ?_
  have Va1_29 : Arv Z h29 a1 k1 .long (5 : Int32) [(.long (x0 ^^^ ((-q3) &&& (x0 ^^^ y0)))), (.long (x1 ^^^ ((-q3) &&& (x1 ^^^ y1)))), (.long (x2 ^^^ ((-q3) &&& (x2 ^^^ y2)))), (.long (x3 ^^^ ((-q3) &&& (x3 ^^^ y3)))), (.long x4)] (.long (0 : Int64)) := Arv.set Ar25 Aq25 AS25 AN25 AH25 AG25 rfl W29 3 rfl (Nat.le_of_ble_eq_true rfl)
  have Va2_29 := Va2_24.other W29 hne.symm
  have ZZ29 : n0 ≤ h29.size := Nat.le_trans ZZ24 (Keep.of_wr W29).1
  obtain ⟨cl30, Ar30, Aq30, AS30, AN30, AH30, AG30⟩ := id Va2_29
  have at31 : cl30.slots[(3 : Int32).toNatClampNeg]? = some (.long y3) := AH30 3 (by rw [AS30]; decide)
  refine own_adv (B := (T29.setTop (mkF m 44 #[.val (.ref a1), .val (.ref a2), .val (.long q3), .second, .val (.long (-q3)), .second, .val (.int (3 : Int32)), .val (.long ((-q3) &&& (x3 ^^^ y3))), .second] [(.long (y3 ^^^ ((-q3) &&& (x3 ^^^ y3)))), (.int (3 : Int32)), (.ref a2)]))) (fun t k => ?_) ?_
  · show Steps p.tables e below (T29.setTop (mkF m 36 #[.val (.ref a1), .val (.ref a2), .val (.long q3), .second, .val (.long (-q3)), .second, .val (.int (3 : Int32)), .val (.long ((-q3) &&& (x3 ^^^ y3))), .second] [])) _
    refine XS.aloadN X29.here hx rfl (hb hby d1_36) rfl rfl ?_
    show Steps p.tables e below (T29.setTop (mkF m 37 #[.val (.ref a1), .val (.ref a2), .val (.long q3), .second, .val (.long (-q3)), .second, .val (.int (3 : Int32)), .val (.long ((-q3) &&& (x3 ^^^ y3))), .second] [(.ref a2)])) _
    refine XS.iload X29.here hx rfl (hb hby d1_37) rfl ?_
    show Steps p.tables e below (T29.setTop (mkF m 39 #[.val (.ref a1), .val (.ref a2), .val (.long q3), .second, .val (.long (-q3)), .second, .val (.int (3 : Int32)), .val (.long ((-q3) &&& (x3 ^^^ y3))), .second] [(.int (3 : Int32)), (.ref a2)])) _
    refine XT.dup2 X29.here hx rfl (hb hby d1_39) rfl rfl rfl ?_
    show Steps p.tables e below (T29.setTop (mkF m 40 #[.val (.ref a1), .val (.ref a2), .val (.long q3), .second, .val (.long (-q3)), .second, .val (.int (3 : Int32)), .val (.long ((-q3) &&& (x3 ^^^ y3))), .second] [(.int (3 : Int32)), (.ref a2), (.int (3 : Int32)), (.ref a2)])) _
    refine X29.laload hx (j := (3 : Int32)) (v := (.long y3)) (by rw [e29]; exact Ar30.1) (State.isArrayOf_alike hZ.alike Ar30.2.1) Ar30.2.2 (inb_of AS30 ⟨by decide, by decide⟩) at31 (g := (mkF m 40 #[.val (.ref a1), .val (.ref a2), .val (.long q3), .second, .val (.long (-q3)), .second, .val (.int (3 : Int32)), .val (.long ((-q3) &&& (x3 ^^^ y3))), .second] [(.int (3 : Int32)), (.ref a2), (.int (3 : Int32)), (.ref a2)])) rfl rfl (hb hby d1_40) _ ?_
    show Steps p.tables e below (T29.setTop (mkF m 41 #[.val (.ref a1), .val (.ref a2), .val (.long q3), .second, .val (.long (-q3)), .second, .val (.int (3 : Int32)), .val (.long ((-q3) &&& (x3 ^^^ y3))), .second] [(.long y3), (.int (3 : Int32)), (.ref a2)])) _
    refine XS.lload X29.here hx rfl (hb hby d1_41) rfl ?_
    show Steps p.tables e below (T29.setTop (mkF m 43 #[.val (.ref a1), .val (.ref a2), .val (.long q3), .second, .val (.long (-q3)), .second, .val (.int (3 : Int32)), .val (.long ((-q3) &&& (x3 ^^^ y3))), .second] [(.long ((-q3) &&& (x3 ^^^ y3))), (.long y3), (.int (3 : Int32)), (.ref a2)])) _
    refine XS.lxor X29.here hx rfl (hb hby d1_43) rfl ?_
    exact k
  obtain ⟨T32, h32, X32, e32, W32, st32⟩ := stJ X29 hx hZ e29 Ar30 (j := (3 : Int32)) (inb_of AS30 ⟨by decide, by decide⟩) (g := (mkF m 44 #[.val (.ref a1), .val (.ref a2), .val (.long q3), .second, .val (.long (-q3)), .second, .val (.int (3 : Int32)), .val (.long ((-q3) &&& (x3 ^^^ y3))), .second] [(.long (y3 ^^^ ((-q3) &&& (x3 ^^^ y3)))), (.int (3 : Int32)), (.ref a2)])) rfl rfl (hb hby d1_44)
  have N32 := Fr.snoc X32 N29 g2
  refine own_adv (B := (T32.setTop (mkF m 45 #[.val (.ref a1), .val (.ref a2), .val (.long q3), .second, .val (.long (-q3)), .second, .val (.int (3 : Int32)), .val (.long ((-q3) &&& (x3 ^^^ y3))), .second] []))) st32 ?_
  have Va2_32 : Arv Z h32 a2 k2 .long (5 : Int32) [(.long (y0 ^^^ ((-q3) &&& (x0 ^^^ y0)))), (.long (y1 ^^^ ((-q3) &&& (x1 ^^^ y1)))), (.long (y2 ^^^ ((-q3) &&& (x2 ^^^ y2)))), (.long (y3 ^^^ ((-q3) &&& (x3 ^^^ y3)))), (.long y4)] (.long (0 : Int64)) := Arv.set Ar30 Aq30 AS30 AN30 AH30 AG30 rfl W32 3 rfl (Nat.le_of_ble_eq_true rfl)
  have Va1_32 := Va1_29.other W32 hne
  have ZZ32 : n0 ≤ h32.size := Nat.le_trans ZZ29 (Keep.of_wr W32).1
  refine own_adv (B := (T32.setTop (mkF m 7 #[.val (.ref a1), .val (.ref a2), .val (.long q3), .second, .val (.long (-q3)), .second, .val (.int (4 : Int32)), .val (.long ((-q3) &&& (x3 ^^^ y3))), .second] []))) (fun t k => ?_) ?_
  · show Steps p.tables e below (T32.setTop (mkF m 45 #[.val (.ref a1), .val (.ref a2), .val (.long q3), .second, .val (.long (-q3)), .second, .val (.int (3 : Int32)), .val (.long ((-q3) &&& (x3 ^^^ y3))), .second] [])) _
    refine XS.iinc X32.here hx rfl (hb hby d1_45) rfl (l' := #[.val (.ref a1), .val (.ref a2), .val (.long q3), .second, .val (.long (-q3)), .second, .val (.int (4 : Int32)), .val (.long ((-q3) &&& (x3 ^^^ y3))), .second]) rfl ?_
    show Steps p.tables e below (T32.setTop (mkF m 48 #[.val (.ref a1), .val (.ref a2), .val (.long q3), .second, .val (.long (-q3)), .second, .val (.int (4 : Int32)), .val (.long ((-q3) &&& (x3 ^^^ y3))), .second] [])) _
    refine XS.goto X32.here hx rfl (pc0 := 48) (pc' := 7) rfl (hb hby d1_48) (by decide) (by decide) ?_
    exact k
  obtain ⟨cl33, Ar33, Aq33, AS33, AN33, AH33, AG33⟩ := id Va1_32
  obtain ⟨cl34, Ar34, Aq34, AS34, AN34, AH34, AG34⟩ := id Va2_32
  have at35 : cl33.slots[(4 : Int32).toNatClampNeg]? = some (.long x4) := AH33 4 (by rw [AS33]; decide)
  have at36 : cl34.slots[(4 : Int32).toNatClampNeg]? = some (.long y4) := AH34 4 (by rw [AS34]; decide)
  refine own_adv (B := (T32.setTop (mkF m 35 #[.val (.ref a1), .val (.ref a2), .val (.long q3), .second, .val (.long (-q3)), .second, .val (.int (4 : Int32)), .val (.long ((-q3) &&& (x4 ^^^ y4))), .second] [(.long (x4 ^^^ ((-q3) &&& (x4 ^^^ y4)))), (.int (4 : Int32)), (.ref a1)]))) (fun t k => ?_) ?_
  · show Steps p.tables e below (T32.setTop (mkF m 7 #[.val (.ref a1), .val (.ref a2), .val (.long q3), .second, .val (.long (-q3)), .second, .val (.int (4 : Int32)), .val (.long ((-q3) &&& (x3 ^^^ y3))), .second] [])) _
    refine XS.iload X32.here hx rfl (hb hby d1_7) rfl ?_
    show Steps p.tables e below (T32.setTop (mkF m 9 #[.val (.ref a1), .val (.ref a2), .val (.long q3), .second, .val (.long (-q3)), .second, .val (.int (4 : Int32)), .val (.long ((-q3) &&& (x3 ^^^ y3))), .second] [(.int (4 : Int32))])) _
    refine XS.iconst X32.here hx rfl (hb hby d1_9) ?_
    show Steps p.tables e below (T32.setTop (mkF m 10 #[.val (.ref a1), .val (.ref a2), .val (.long q3), .second, .val (.long (-q3)), .second, .val (.int (4 : Int32)), .val (.long ((-q3) &&& (x3 ^^^ y3))), .second] [(.int (5 : Int32)), (.int (4 : Int32))])) _
    refine XS.icmpNo X32.here hx rfl (hb hby d1_10) rfl (tlt (by decide)).2.1 ?_
    show Steps p.tables e below (T32.setTop (mkF m 13 #[.val (.ref a1), .val (.ref a2), .val (.long q3), .second, .val (.long (-q3)), .second, .val (.int (4 : Int32)), .val (.long ((-q3) &&& (x3 ^^^ y3))), .second] [])) _
    refine XS.lload X32.here hx rfl (hb hby d1_13) rfl ?_
    show Steps p.tables e below (T32.setTop (mkF m 15 #[.val (.ref a1), .val (.ref a2), .val (.long q3), .second, .val (.long (-q3)), .second, .val (.int (4 : Int32)), .val (.long ((-q3) &&& (x3 ^^^ y3))), .second] [(.long (-q3))])) _
    refine XS.aloadN X32.here hx rfl (hb hby d1_15) rfl rfl ?_
    show Steps p.tables e below (T32.setTop (mkF m 16 #[.val (.ref a1), .val (.ref a2), .val (.long q3), .second, .val (.long (-q3)), .second, .val (.int (4 : Int32)), .val (.long ((-q3) &&& (x3 ^^^ y3))), .second] [(.ref a1), (.long (-q3))])) _
    refine XS.iload X32.here hx rfl (hb hby d1_16) rfl ?_
    show Steps p.tables e below (T32.setTop (mkF m 18 #[.val (.ref a1), .val (.ref a2), .val (.long q3), .second, .val (.long (-q3)), .second, .val (.int (4 : Int32)), .val (.long ((-q3) &&& (x3 ^^^ y3))), .second] [(.int (4 : Int32)), (.ref a1), (.long (-q3))])) _
    refine X32.laload hx (j := (4 : Int32)) (v := (.long x4)) (by rw [e32]; exact Ar33.1) (State.isArrayOf_alike hZ.alike Ar33.2.1) Ar33.2.2 (inb_of AS33 ⟨by decide, by decide⟩) at35 (g := (mkF m 18 #[.val (.ref a1), .val (.ref a2), .val (.long q3), .second, .val (.long (-q3)), .second, .val (.int (4 : Int32)), .val (.long ((-q3) &&& (x3 ^^^ y3))), .second] [(.int (4 : Int32)), (.ref a1), (.long (-q3))])) rfl rfl (hb hby d1_18) _ ?_
    show Steps p.tables e below (T32.setTop (mkF m 19 #[.val (.ref a1), .val (.ref a2), .val (.long q3), .second, .val (.long (-q3)), .second, .val (.int (4 : Int32)), .val (.long ((-q3) &&& (x3 ^^^ y3))), .second] [(.long x4), (.long (-q3))])) _
    refine XS.aloadN X32.here hx rfl (hb hby d1_19) rfl rfl ?_
    show Steps p.tables e below (T32.setTop (mkF m 20 #[.val (.ref a1), .val (.ref a2), .val (.long q3), .second, .val (.long (-q3)), .second, .val (.int (4 : Int32)), .val (.long ((-q3) &&& (x3 ^^^ y3))), .second] [(.ref a2), (.long x4), (.long (-q3))])) _
    refine XS.iload X32.here hx rfl (hb hby d1_20) rfl ?_
    show Steps p.tables e below (T32.setTop (mkF m 22 #[.val (.ref a1), .val (.ref a2), .val (.long q3), .second, .val (.long (-q3)), .second, .val (.int (4 : Int32)), .val (.long ((-q3) &&& (x3 ^^^ y3))), .second] [(.int (4 : Int32)), (.ref a2), (.long x4), (.long (-q3))])) _
    refine X32.laload hx (j := (4 : Int32)) (v := (.long y4)) (by rw [e32]; exact Ar34.1) (State.isArrayOf_alike hZ.alike Ar34.2.1) Ar34.2.2 (inb_of AS34 ⟨by decide, by decide⟩) at36 (g := (mkF m 22 #[.val (.ref a1), .val (.ref a2), .val (.long q3), .second, .val (.long (-q3)), .second, .val (.int (4 : Int32)), .val (.long ((-q3) &&& (x3 ^^^ y3))), .second] [(.int (4 : Int32)), (.ref a2), (.long x4), (.long (-q3))])) rfl rfl (hb hby d1_22) _ ?_
    show Steps p.tables e below (T32.setTop (mkF m 23 #[.val (.ref a1), .val (.ref a2), .val (.long q3), .second, .val (.long (-q3)), .second, .val (.int (4 : Int32)), .val (.long ((-q3) &&& (x3 ^^^ y3))), .second] [(.long y4), (.long x4), (.long (-q3))])) _
    refine XS.lxor X32.here hx rfl (hb hby d1_23) rfl ?_
    show Steps p.tables e below (T32.setTop (mkF m 24 #[.val (.ref a1), .val (.ref a2), .val (.long q3), .second, .val (.long (-q3)), .second, .val (.int (4 : Int32)), .val (.long ((-q3) &&& (x3 ^^^ y3))), .second] [(.long (x4 ^^^ y4)), (.long (-q3))])) _
    refine XS.land X32.here hx rfl (hb hby d1_24) rfl ?_
    show Steps p.tables e below (T32.setTop (mkF m 25 #[.val (.ref a1), .val (.ref a2), .val (.long q3), .second, .val (.long (-q3)), .second, .val (.int (4 : Int32)), .val (.long ((-q3) &&& (x3 ^^^ y3))), .second] [(.long ((-q3) &&& (x4 ^^^ y4)))])) _
    refine XS.lstore X32.here hx rfl (hb hby d1_25) rfl (l' := #[.val (.ref a1), .val (.ref a2), .val (.long q3), .second, .val (.long (-q3)), .second, .val (.int (4 : Int32)), .val (.long ((-q3) &&& (x4 ^^^ y4))), .second]) rfl ?_
    show Steps p.tables e below (T32.setTop (mkF m 27 #[.val (.ref a1), .val (.ref a2), .val (.long q3), .second, .val (.long (-q3)), .second, .val (.int (4 : Int32)), .val (.long ((-q3) &&& (x4 ^^^ y4))), .second] [])) _
    refine XS.aloadN X32.here hx rfl (hb hby d1_27) rfl rfl ?_
    show Steps p.tables e below (T32.setTop (mkF m 28 #[.val (.ref a1), .val (.ref a2), .val (.long q3), .second, .val (.long (-q3)), .second, .val (.int (4 : Int32)), .val (.long ((-q3) &&& (x4 ^^^ y4))), .second] [(.ref a1)])) _
    refine XS.iload X32.here hx rfl (hb hby d1_28) rfl ?_
    show Steps p.tables e below (T32.setTop (mkF m 30 #[.val (.ref a1), .val (.ref a2), .val (.long q3), .second, .val (.long (-q3)), .second, .val (.int (4 : Int32)), .val (.long ((-q3) &&& (x4 ^^^ y4))), .second] [(.int (4 : Int32)), (.ref a1)])) _
    refine XT.dup2 X32.here hx rfl (hb hby d1_30) rfl rfl rfl ?_
    show Steps p.tables e below (T32.setTop (mkF m 31 #[.val (.ref a1), .val (.ref a2), .val (.long q3), .second, .val (.long (-q3)), .second, .val (.int (4 : Int32)), .val (.long ((-q3) &&& (x4 ^^^ y4))), .second] [(.int (4 : Int32)), (.ref a1), (.int (4 : Int32)), (.ref a1)])) _
    refine X32.laload hx (j := (4 : Int32)) (v := (.long x4)) (by rw [e32]; exact Ar33.1) (State.isArrayOf_alike hZ.alike Ar33.2.1) Ar33.2.2 (inb_of AS33 ⟨by decide, by decide⟩) at35 (g := (mkF m 31 #[.val (.ref a1), .val (.ref a2), .val (.long q3), .second, .val (.long (-q3)), .second, .val (.int (4 : Int32)), .val (.long ((-q3) &&& (x4 ^^^ y4))), .second] [(.int (4 : Int32)), (.ref a1), (.int (4 : Int32)), (.ref a1)])) rfl rfl (hb hby d1_31) _ ?_
    show Steps p.tables e below (T32.setTop (mkF m 32 #[.val (.ref a1), .val (.ref a2), .val (.long q3), .second, .val (.long (-q3)), .second, .val (.int (4 : Int32)), .val (.long ((-q3) &&& (x4 ^^^ y4))), .second] [(.long x4), (.int (4 : Int32)), (.ref a1)])) _
    refine XS.lload X32.here hx rfl (hb hby d1_32) rfl ?_
    show Steps p.tables e below (T32.setTop (mkF m 34 #[.val (.ref a1), .val (.ref a2), .val (.long q3), .second, .val (.long (-q3)), .second, .val (.int (4 : Int32)), .val (.long ((-q3) &&& (x4 ^^^ y4))), .second] [(.long ((-q3) &&& (x4 ^^^ y4))), (.long x4), (.int (4 : Int32)), (.ref a1)])) _
    refine XS.lxor X32.here hx rfl (hb hby d1_34) rfl ?_
    exact k
  obtain ⟨T37, h37, X37, e37, W37, st37⟩ := stJ X32 hx hZ e32 Ar33 (j := (4 : Int32)) (inb_of AS33 ⟨by decide, by decide⟩) (g := (mkF m 35 #[.val (.ref a1), .val (.ref a2), .val (.long q3), .second, .val (.long (-q3)), .second, .val (.int (4 : Int32)), .val (.long ((-q3) &&& (x4 ^^^ y4))), .second] [(.long (x4 ^^^ ((-q3) &&& (x4 ^^^ y4)))), (.int (4 : Int32)), (.ref a1)])) rfl rfl (hb hby d1_35)
  have N37 := Fr.snoc X37 N32 g1
  refine own_adv (B := (T37.setTop (mkF m 36 #[.val (.ref a1), .val (.ref a2), .val (.long q3), .second, .val (.long (-q3)), .second, .val (.int (4 : Int32)), .val (.long ((-q3) &&& (x4 ^^^ y4))), .second] []))) st37 ?_
  have Va1_37 : Arv Z h37 a1 k1 .long (5 : Int32) [(.long (x0 ^^^ ((-q3) &&& (x0 ^^^ y0)))), (.long (x1 ^^^ ((-q3) &&& (x1 ^^^ y1)))), (.long (x2 ^^^ ((-q3) &&& (x2 ^^^ y2)))), (.long (x3 ^^^ ((-q3) &&& (x3 ^^^ y3)))), (.long (x4 ^^^ ((-q3) &&& (x4 ^^^ y4))))] (.long (0 : Int64)) := Arv.set Ar33 Aq33 AS33 AN33 AH33 AG33 rfl W37 4 rfl (Nat.le_of_ble_eq_true rfl)
  have Va2_37 := Va2_32.other W37 hne.symm
  have ZZ37 : n0 ≤ h37.size := Nat.le_trans ZZ32 (Keep.of_wr W37).1
  obtain ⟨cl38, Ar38, Aq38, AS38, AN38, AH38, AG38⟩ := id Va2_37
  have at39 : cl38.slots[(4 : Int32).toNatClampNeg]? = some (.long y4) := AH38 4 (by rw [AS38]; decide)
  refine own_adv (B := (T37.setTop (mkF m 44 #[.val (.ref a1), .val (.ref a2), .val (.long q3), .second, .val (.long (-q3)), .second, .val (.int (4 : Int32)), .val (.long ((-q3) &&& (x4 ^^^ y4))), .second] [(.long (y4 ^^^ ((-q3) &&& (x4 ^^^ y4)))), (.int (4 : Int32)), (.ref a2)]))) (fun t k => ?_) ?_
  · show Steps p.tables e below (T37.setTop (mkF m 36 #[.val (.ref a1), .val (.ref a2), .val (.long q3), .second, .val (.long (-q3)), .second, .val (.int (4 : Int32)), .val (.long ((-q3) &&& (x4 ^^^ y4))), .second] [])) _
    refine XS.aloadN X37.here hx rfl (hb hby d1_36) rfl rfl ?_
    show Steps p.tables e below (T37.setTop (mkF m 37 #[.val (.ref a1), .val (.ref a2), .val (.long q3), .second, .val (.long (-q3)), .second, .val (.int (4 : Int32)), .val (.long ((-q3) &&& (x4 ^^^ y4))), .second] [(.ref a2)])) _
    refine XS.iload X37.here hx rfl (hb hby d1_37) rfl ?_
    show Steps p.tables e below (T37.setTop (mkF m 39 #[.val (.ref a1), .val (.ref a2), .val (.long q3), .second, .val (.long (-q3)), .second, .val (.int (4 : Int32)), .val (.long ((-q3) &&& (x4 ^^^ y4))), .second] [(.int (4 : Int32)), (.ref a2)])) _
    refine XT.dup2 X37.here hx rfl (hb hby d1_39) rfl rfl rfl ?_
    show Steps p.tables e below (T37.setTop (mkF m 40 #[.val (.ref a1), .val (.ref a2), .val (.long q3), .second, .val (.long (-q3)), .second, .val (.int (4 : Int32)), .val (.long ((-q3) &&& (x4 ^^^ y4))), .second] [(.int (4 : Int32)), (.ref a2), (.int (4 : Int32)), (.ref a2)])) _
    refine X37.laload hx (j := (4 : Int32)) (v := (.long y4)) (by rw [e37]; exact Ar38.1) (State.isArrayOf_alike hZ.alike Ar38.2.1) Ar38.2.2 (inb_of AS38 ⟨by decide, by decide⟩) at39 (g := (mkF m 40 #[.val (.ref a1), .val (.ref a2), .val (.long q3), .second, .val (.long (-q3)), .second, .val (.int (4 : Int32)), .val (.long ((-q3) &&& (x4 ^^^ y4))), .second] [(.int (4 : Int32)), (.ref a2), (.int (4 : Int32)), (.ref a2)])) rfl rfl (hb hby d1_40) _ ?_
    show Steps p.tables e below (T37.setTop (mkF m 41 #[.val (.ref a1), .val (.ref a2), .val (.long q3), .second, .val (.long (-q3)), .second, .val (.int (4 : Int32)), .val (.long ((-q3) &&& (x4 ^^^ y4))), .second] [(.long y4), (.int (4 : Int32)), (.ref a2)])) _
    refine XS.lload X37.here hx rfl (hb hby d1_41) rfl ?_
    show Steps p.tables e below (T37.setTop (mkF m 43 #[.val (.ref a1), .val (.ref a2), .val (.long q3), .second, .val (.long (-q3)), .second, .val (.int (4 : Int32)), .val (.long ((-q3) &&& (x4 ^^^ y4))), .second] [(.long ((-q3) &&& (x4 ^^^ y4))), (.long y4), (.int (4 : Int32)), (.ref a2)])) _
    refine XS.lxor X37.here hx rfl (hb hby d1_43) rfl ?_
    exact k
  obtain ⟨T40, h40, X40, e40, W40, st40⟩ := stJ X37 hx hZ e37 Ar38 (j := (4 : Int32)) (inb_of AS38 ⟨by decide, by decide⟩) (g := (mkF m 44 #[.val (.ref a1), .val (.ref a2), .val (.long q3), .second, .val (.long (-q3)), .second, .val (.int (4 : Int32)), .val (.long ((-q3) &&& (x4 ^^^ y4))), .second] [(.long (y4 ^^^ ((-q3) &&& (x4 ^^^ y4)))), (.int (4 : Int32)), (.ref a2)])) rfl rfl (hb hby d1_44)
  have N40 := Fr.snoc X40 N37 g2
  refine own_adv (B := (T40.setTop (mkF m 45 #[.val (.ref a1), .val (.ref a2), .val (.long q3), .second, .val (.long (-q3)), .second, .val (.int (4 : Int32)), .val (.long ((-q3) &&& (x4 ^^^ y4))), .second] []))) st40 ?_
  have Va2_40 : Arv Z h40 a2 k2 .long (5 : Int32) [(.long (y0 ^^^ ((-q3) &&& (x0 ^^^ y0)))), (.long (y1 ^^^ ((-q3) &&& (x1 ^^^ y1)))), (.long (y2 ^^^ ((-q3) &&& (x2 ^^^ y2)))), (.long (y3 ^^^ ((-q3) &&& (x3 ^^^ y3)))), (.long (y4 ^^^ ((-q3) &&& (x4 ^^^ y4))))] (.long (0 : Int64)) := Arv.set Ar38 Aq38 AS38 AN38 AH38 AG38 rfl W40 4 rfl (Nat.le_of_ble_eq_true rfl)
  have Va1_40 := Va1_37.other W40 hne
  have ZZ40 : n0 ≤ h40.size := Nat.le_trans ZZ37 (Keep.of_wr W40).1
  refine own_adv (B := (T40.setTop (mkF m 7 #[.val (.ref a1), .val (.ref a2), .val (.long q3), .second, .val (.long (-q3)), .second, .val (.int (5 : Int32)), .val (.long ((-q3) &&& (x4 ^^^ y4))), .second] []))) (fun t k => ?_) ?_
  · show Steps p.tables e below (T40.setTop (mkF m 45 #[.val (.ref a1), .val (.ref a2), .val (.long q3), .second, .val (.long (-q3)), .second, .val (.int (4 : Int32)), .val (.long ((-q3) &&& (x4 ^^^ y4))), .second] [])) _
    refine XS.iinc X40.here hx rfl (hb hby d1_45) rfl (l' := #[.val (.ref a1), .val (.ref a2), .val (.long q3), .second, .val (.long (-q3)), .second, .val (.int (5 : Int32)), .val (.long ((-q3) &&& (x4 ^^^ y4))), .second]) rfl ?_
    show Steps p.tables e below (T40.setTop (mkF m 48 #[.val (.ref a1), .val (.ref a2), .val (.long q3), .second, .val (.long (-q3)), .second, .val (.int (5 : Int32)), .val (.long ((-q3) &&& (x4 ^^^ y4))), .second] [])) _
    refine XS.goto X40.here hx rfl (pc0 := 48) (pc' := 7) rfl (hb hby d1_48) (by decide) (by decide) ?_
    exact k
  refine own_adv (B := (T40.setTop (mkF m 51 #[.val (.ref a1), .val (.ref a2), .val (.long q3), .second, .val (.long (-q3)), .second, .val (.int (5 : Int32)), .val (.long ((-q3) &&& (x4 ^^^ y4))), .second] []))) (fun t k => ?_) ?_
  · show Steps p.tables e below (T40.setTop (mkF m 7 #[.val (.ref a1), .val (.ref a2), .val (.long q3), .second, .val (.long (-q3)), .second, .val (.int (5 : Int32)), .val (.long ((-q3) &&& (x4 ^^^ y4))), .second] [])) _
    refine XS.iload X40.here hx rfl (hb hby d1_7) rfl ?_
    show Steps p.tables e below (T40.setTop (mkF m 9 #[.val (.ref a1), .val (.ref a2), .val (.long q3), .second, .val (.long (-q3)), .second, .val (.int (5 : Int32)), .val (.long ((-q3) &&& (x4 ^^^ y4))), .second] [(.int (5 : Int32))])) _
    refine XS.iconst X40.here hx rfl (hb hby d1_9) ?_
    show Steps p.tables e below (T40.setTop (mkF m 10 #[.val (.ref a1), .val (.ref a2), .val (.long q3), .second, .val (.long (-q3)), .second, .val (.int (5 : Int32)), .val (.long ((-q3) &&& (x4 ^^^ y4))), .second] [(.int (5 : Int32)), (.int (5 : Int32))])) _
    refine XS.icmpYes X40.here hx rfl (pc0 := 10) (pc' := 51) rfl (hb hby d1_10) rfl (flt (by decide)).2.1 (by decide) (by decide) ?_
    exact k
  obtain ⟨fs, hr, hrun, hended, hW, hsame⟩ := X40.leave (v := none) (fun _ => rfl)
  refine ⟨_, _, ?_, hrun, hended, _, _, rfl, ?_, ⟨_, rfl⟩, hW, hsame.mono (by decide) (by decide)⟩
  · show Steps p.tables e below (T40.setTop (mkF m 51 #[.val (.ref a1), .val (.ref a2), .val (.long q3), .second, .val (.long (-q3)), .second, .val (.int (5 : Int32)), .val (.long ((-q3) &&& (x4 ^^^ y4))), .second] [])) _
    exact X40.returnOut hx Bd.returns (hb hby d1_51) hr
  · show Q1 Z a1 a2 q3 x0 x1 x2 x3 x4 y0 y1 y2 y3 y4 k1 k2 h0 n0 _ T40.heap _
    rw [e40]
    exact ⟨rfl, N40, ZZ40, Va1_40, Va2_40⟩
theorem ef_0 (m : MethodId) (x0 : Int64) (x1 : Int64) (x2 : Int64) (x3 : Int64) (x4 : Int64) (x5 : Int32) : entryFrame m #[(.long x0), (.long x1), (.long x2), (.long x3), (.long x4), (.int x5)] maxLocals = mkF m 0 #[.val (.long x0), .second, .val (.long x1), .second, .val (.long x2), .second, .val (.long x3), .second, .val (.long x4), .second, .val (.int x5), .unset, .unset, .unset, .unset] [] := by first | (simp [entryFrame, mkF, argsToLocals, Value.category, maxLocals]; done) | rfl
def Q0 (Z : State) (q0 : Int64) (q1 : Int64) (q2 : Int64) (q3 : Int64) (q4 : Int64) (p5 : Int32) (h0 : Heap) (n0 : Nat) (v : Option Value) (h : Heap) (L : List Loc) : Prop := v = some (.int (1 : Int32)) ∧ Fr n0 L
set_option maxRecDepth 65536 in
set_option maxHeartbeats 40000000 in
theorem rm0 (l : Launch) (Z : State) (a0 : Array Value) (hw : ∀ d ∈ tables_1, d.before a0 Z = true) (ws : List Jvm.Cond) (q0 : Int64) (q1 : Int64) (q2 : Int64) (q3 : Int64) (q4 : Int64) (p5 : Int32) (h0 : Heap) (n0 : Nat) (Z0 : n0 ≤ h0.size) :
    MetFree l x (head1 (Jvm.Cond.code x code maxLocals ret :: ws) room_1) (fun a U => a = #[(.long q0), (.long q1), (.long q2), (.long q3), (.long q4), (.int p5)] ∧ Z.Warmed39 U.vm ∧ U.heap = h0) (fun _ _ _ _ _ => True) (fun _ U o U' => ∃ v L, o = .returned v ∧ Q0 Z q0 q1 q2 q3 q4 p5 h0 n0 v U'.heap L ∧ FrameEnd U o U' L room_1.cells room_1.slots) := by
  refine MetFree.of_bodySF (plainFor_of_name pn_0) hisR ?_
  intro p e s m args below meth c s₁ Bd hml0 hP hK
  obtain ⟨rfl, hZ, hh⟩ := hP
  have hx := Bd.exec
  have hby := Bd.bytes
  have hml : c.maxLocals = 15 := hml0
  have hown : s.vm.findClass "com/example/meyrin/meyrin/crypto/Field25519ConditionalSwapPinLaw" = some m.cls := findClass_of_methodNamed Bd.named
  have hnm := (name_of_methodNamed Bd.named Bd.method).1
  have X0 : Stand p l e room_1 s m #[(.long q0), (.long q1), (.long q2), (.long q3), (.long q4), (.int p5)] below meth c s₁ [] 0 0 := Stand.of_body Bd
  have e0 : s₁.heap = h0 := by rw [← hh, Bd.state]; rfl
  have N0 := Fr.nil n0
  refine own_adv (B := (s₁.setTop (mkF m 0 #[.val (.long q0), .second, .val (.long q1), .second, .val (.long q2), .second, .val (.long q3), .second, .val (.long q4), .second, .val (.int p5), .unset, .unset, .unset, .unset] []))) (fun t k => castTop (ef_0 m q0 q1 q2 q3 q4 p5) k) ?_
  refine own_adv (B := (s₁.setTop (mkF m 7 #[.val (.long q0), .second, .val (.long q1), .second, .val (.long q2), .second, .val (.long q3), .second, .val (.long q4), .second, .val (.int p5), .val (.long ((p5 &&& (1 : Int32)).toInt64)), .second, .unset, .unset] []))) (fun t k => ?_) ?_
  · show Steps p.tables e below (s₁.setTop (mkF m 0 #[.val (.long q0), .second, .val (.long q1), .second, .val (.long q2), .second, .val (.long q3), .second, .val (.long q4), .second, .val (.int p5), .unset, .unset, .unset, .unset] [])) _
    refine XS.iload X0.here hx rfl (hb hby at_0) rfl ?_
    show Steps p.tables e below (s₁.setTop (mkF m 2 #[.val (.long q0), .second, .val (.long q1), .second, .val (.long q2), .second, .val (.long q3), .second, .val (.long q4), .second, .val (.int p5), .unset, .unset, .unset, .unset] [(.int p5)])) _
    refine XS.iconst X0.here hx rfl (hb hby at_2) ?_
    show Steps p.tables e below (s₁.setTop (mkF m 3 #[.val (.long q0), .second, .val (.long q1), .second, .val (.long q2), .second, .val (.long q3), .second, .val (.long q4), .second, .val (.int p5), .unset, .unset, .unset, .unset] [(.int (1 : Int32)), (.int p5)])) _
    refine XS.iand X0.here hx rfl (hb hby at_3) rfl ?_
    show Steps p.tables e below (s₁.setTop (mkF m 4 #[.val (.long q0), .second, .val (.long q1), .second, .val (.long q2), .second, .val (.long q3), .second, .val (.long q4), .second, .val (.int p5), .unset, .unset, .unset, .unset] [(.int (p5 &&& (1 : Int32)))])) _
    refine XS.i2l X0.here hx rfl (hb hby at_4) rfl ?_
    show Steps p.tables e below (s₁.setTop (mkF m 5 #[.val (.long q0), .second, .val (.long q1), .second, .val (.long q2), .second, .val (.long q3), .second, .val (.long q4), .second, .val (.int p5), .unset, .unset, .unset, .unset] [(.long ((p5 &&& (1 : Int32)).toInt64))])) _
    refine XS.lstore X0.here hx rfl (hb hby at_5) rfl (l' := #[.val (.long q0), .second, .val (.long q1), .second, .val (.long q2), .second, .val (.long q3), .second, .val (.long q4), .second, .val (.int p5), .val (.long ((p5 &&& (1 : Int32)).toInt64)), .second, .unset, .unset]) rfl ?_
    exact k
  have hsw := own_01 p5
  generalize hsw0 : ((p5 &&& (1 : Int32)).toInt64) = sw at hsw ⊢
  refine own_adv (B := (s₁.setTop (mkF m 8 #[.val (.long q0), .second, .val (.long q1), .second, .val (.long q2), .second, .val (.long q3), .second, .val (.long q4), .second, .val (.int p5), .val (.long sw), .second, .unset, .unset] [(.int (5 : Int32))]))) (fun t k => ?_) ?_
  · show Steps p.tables e below (s₁.setTop (mkF m 7 #[.val (.long q0), .second, .val (.long q1), .second, .val (.long q2), .second, .val (.long q3), .second, .val (.long q4), .second, .val (.int p5), .val (.long sw), .second, .unset, .unset] [])) _
    refine XS.iconst X0.here hx rfl (hb hby at_7) ?_
    exact k
  obtain ⟨T41, h41, k41, X41, e41, E41, A41, st41⟩ := newP X0 hx hZ (hw _ (List.mem_of_getElem? (i := 0) rfl)) e0 (g := (mkF m 8 #[.val (.long q0), .second, .val (.long q1), .second, .val (.long q2), .second, .val (.long q3), .second, .val (.long q4), .second, .val (.int p5), .val (.long sw), .second, .unset, .unset] [(.int (5 : Int32))])) rfl (hb hby at_8) rfl (by decide) (cap := 5) (by decide) (by decide) (by decide) (by decide)
  obtain ⟨a, g41⟩ : ∃ z, z = h0.size := ⟨_, rfl⟩
  rw [← g41] at A41 st41
  have V_a : Arv Z h41 a k41 .long (5 : Int32) [(.long (0 : Int64)), (.long (0 : Int64)), (.long (0 : Int64)), (.long (0 : Int64)), (.long (0 : Int64))] (.long (0 : Int64)) := (Arv.new A41 (by decide)).pad (pad_rep [] (.long (0 : Int64)) 5)
  refine own_adv (B := (T41.setTop (mkF m 10 #[.val (.long q0), .second, .val (.long q1), .second, .val (.long q2), .second, .val (.long q3), .second, .val (.long q4), .second, .val (.int p5), .val (.long sw), .second, .unset, .unset] [(.ref a)]))) st41 ?_
  have g_a : n0 ≤ a := by rw [g41]; exact Z0
  have ZZ41 : n0 ≤ h41.size := Nat.le_trans Z0 E41.1
  refine own_adv (B := (T41.setTop (mkF m 13 #[.val (.long q0), .second, .val (.long q1), .second, .val (.long q2), .second, .val (.long q3), .second, .val (.long q4), .second, .val (.int p5), .val (.long sw), .second, .unset, .unset] [(.long q0), (.int (0 : Int32)), (.ref a), (.ref a)]))) (fun t k => ?_) ?_
  · show Steps p.tables e below (T41.setTop (mkF m 10 #[.val (.long q0), .second, .val (.long q1), .second, .val (.long q2), .second, .val (.long q3), .second, .val (.long q4), .second, .val (.int p5), .val (.long sw), .second, .unset, .unset] [(.ref a)])) _
    refine XS.dup X41.here hx rfl (hb hby at_10) rfl rfl ?_
    show Steps p.tables e below (T41.setTop (mkF m 11 #[.val (.long q0), .second, .val (.long q1), .second, .val (.long q2), .second, .val (.long q3), .second, .val (.long q4), .second, .val (.int p5), .val (.long sw), .second, .unset, .unset] [(.ref a), (.ref a)])) _
    refine XS.iconst X41.here hx rfl (hb hby at_11) ?_
    show Steps p.tables e below (T41.setTop (mkF m 12 #[.val (.long q0), .second, .val (.long q1), .second, .val (.long q2), .second, .val (.long q3), .second, .val (.long q4), .second, .val (.int p5), .val (.long sw), .second, .unset, .unset] [(.int (0 : Int32)), (.ref a), (.ref a)])) _
    refine XS.lloadN X41.here hx rfl (hb hby at_12) rfl ?_
    exact k
  obtain ⟨cl42, Ar42, Aq42, AS42, AN42, AH42, AG42⟩ := id V_a
  obtain ⟨T43, h43, X43, e43, W43, st43⟩ := stJ X41 hx hZ e41 Ar42 (j := (0 : Int32)) (inb_of AS42 ⟨by decide, by decide⟩) (g := (mkF m 13 #[.val (.long q0), .second, .val (.long q1), .second, .val (.long q2), .second, .val (.long q3), .second, .val (.long q4), .second, .val (.int p5), .val (.long sw), .second, .unset, .unset] [(.long q0), (.int (0 : Int32)), (.ref a), (.ref a)])) rfl rfl (hb hby at_13)
  have N43 := Fr.snoc X43 N0 g_a
  refine own_adv (B := (T43.setTop (mkF m 14 #[.val (.long q0), .second, .val (.long q1), .second, .val (.long q2), .second, .val (.long q3), .second, .val (.long q4), .second, .val (.int p5), .val (.long sw), .second, .unset, .unset] [(.ref a)]))) st43 ?_
  have Va_43 : Arv Z h43 a k41 .long (5 : Int32) [(.long q0), (.long (0 : Int64)), (.long (0 : Int64)), (.long (0 : Int64)), (.long (0 : Int64))] (.long (0 : Int64)) := Arv.set Ar42 Aq42 AS42 AN42 AH42 AG42 rfl W43 0 rfl (Nat.le_of_ble_eq_true rfl)
  have ZZ43 : n0 ≤ h43.size := Nat.le_trans ZZ41 (Keep.of_wr W43).1
  refine own_adv (B := (T43.setTop (mkF m 17 #[.val (.long q0), .second, .val (.long q1), .second, .val (.long q2), .second, .val (.long q3), .second, .val (.long q4), .second, .val (.int p5), .val (.long sw), .second, .unset, .unset] [(.long q1), (.int (1 : Int32)), (.ref a), (.ref a)]))) (fun t k => ?_) ?_
  · show Steps p.tables e below (T43.setTop (mkF m 14 #[.val (.long q0), .second, .val (.long q1), .second, .val (.long q2), .second, .val (.long q3), .second, .val (.long q4), .second, .val (.int p5), .val (.long sw), .second, .unset, .unset] [(.ref a)])) _
    refine XS.dup X43.here hx rfl (hb hby at_14) rfl rfl ?_
    show Steps p.tables e below (T43.setTop (mkF m 15 #[.val (.long q0), .second, .val (.long q1), .second, .val (.long q2), .second, .val (.long q3), .second, .val (.long q4), .second, .val (.int p5), .val (.long sw), .second, .unset, .unset] [(.ref a), (.ref a)])) _
    refine XS.iconst X43.here hx rfl (hb hby at_15) ?_
    show Steps p.tables e below (T43.setTop (mkF m 16 #[.val (.long q0), .second, .val (.long q1), .second, .val (.long q2), .second, .val (.long q3), .second, .val (.long q4), .second, .val (.int p5), .val (.long sw), .second, .unset, .unset] [(.int (1 : Int32)), (.ref a), (.ref a)])) _
    refine XS.lloadN X43.here hx rfl (hb hby at_16) rfl ?_
    exact k
  obtain ⟨cl44, Ar44, Aq44, AS44, AN44, AH44, AG44⟩ := id Va_43
  obtain ⟨T45, h45, X45, e45, W45, st45⟩ := stJ X43 hx hZ e43 Ar44 (j := (1 : Int32)) (inb_of AS44 ⟨by decide, by decide⟩) (g := (mkF m 17 #[.val (.long q0), .second, .val (.long q1), .second, .val (.long q2), .second, .val (.long q3), .second, .val (.long q4), .second, .val (.int p5), .val (.long sw), .second, .unset, .unset] [(.long q1), (.int (1 : Int32)), (.ref a), (.ref a)])) rfl rfl (hb hby at_17)
  have N45 := Fr.snoc X45 N43 g_a
  refine own_adv (B := (T45.setTop (mkF m 18 #[.val (.long q0), .second, .val (.long q1), .second, .val (.long q2), .second, .val (.long q3), .second, .val (.long q4), .second, .val (.int p5), .val (.long sw), .second, .unset, .unset] [(.ref a)]))) st45 ?_
  have Va_45 : Arv Z h45 a k41 .long (5 : Int32) [(.long q0), (.long q1), (.long (0 : Int64)), (.long (0 : Int64)), (.long (0 : Int64))] (.long (0 : Int64)) := Arv.set Ar44 Aq44 AS44 AN44 AH44 AG44 rfl W45 1 rfl (Nat.le_of_ble_eq_true rfl)
  have ZZ45 : n0 ≤ h45.size := Nat.le_trans ZZ43 (Keep.of_wr W45).1
  refine own_adv (B := (T45.setTop (mkF m 22 #[.val (.long q0), .second, .val (.long q1), .second, .val (.long q2), .second, .val (.long q3), .second, .val (.long q4), .second, .val (.int p5), .val (.long sw), .second, .unset, .unset] [(.long q2), (.int (2 : Int32)), (.ref a), (.ref a)]))) (fun t k => ?_) ?_
  · show Steps p.tables e below (T45.setTop (mkF m 18 #[.val (.long q0), .second, .val (.long q1), .second, .val (.long q2), .second, .val (.long q3), .second, .val (.long q4), .second, .val (.int p5), .val (.long sw), .second, .unset, .unset] [(.ref a)])) _
    refine XS.dup X45.here hx rfl (hb hby at_18) rfl rfl ?_
    show Steps p.tables e below (T45.setTop (mkF m 19 #[.val (.long q0), .second, .val (.long q1), .second, .val (.long q2), .second, .val (.long q3), .second, .val (.long q4), .second, .val (.int p5), .val (.long sw), .second, .unset, .unset] [(.ref a), (.ref a)])) _
    refine XS.iconst X45.here hx rfl (hb hby at_19) ?_
    show Steps p.tables e below (T45.setTop (mkF m 20 #[.val (.long q0), .second, .val (.long q1), .second, .val (.long q2), .second, .val (.long q3), .second, .val (.long q4), .second, .val (.int p5), .val (.long sw), .second, .unset, .unset] [(.int (2 : Int32)), (.ref a), (.ref a)])) _
    refine XS.lload X45.here hx rfl (hb hby at_20) rfl ?_
    exact k
  obtain ⟨cl46, Ar46, Aq46, AS46, AN46, AH46, AG46⟩ := id Va_45
  obtain ⟨T47, h47, X47, e47, W47, st47⟩ := stJ X45 hx hZ e45 Ar46 (j := (2 : Int32)) (inb_of AS46 ⟨by decide, by decide⟩) (g := (mkF m 22 #[.val (.long q0), .second, .val (.long q1), .second, .val (.long q2), .second, .val (.long q3), .second, .val (.long q4), .second, .val (.int p5), .val (.long sw), .second, .unset, .unset] [(.long q2), (.int (2 : Int32)), (.ref a), (.ref a)])) rfl rfl (hb hby at_22)
  have N47 := Fr.snoc X47 N45 g_a
  refine own_adv (B := (T47.setTop (mkF m 23 #[.val (.long q0), .second, .val (.long q1), .second, .val (.long q2), .second, .val (.long q3), .second, .val (.long q4), .second, .val (.int p5), .val (.long sw), .second, .unset, .unset] [(.ref a)]))) st47 ?_
  have Va_47 : Arv Z h47 a k41 .long (5 : Int32) [(.long q0), (.long q1), (.long q2), (.long (0 : Int64)), (.long (0 : Int64))] (.long (0 : Int64)) := Arv.set Ar46 Aq46 AS46 AN46 AH46 AG46 rfl W47 2 rfl (Nat.le_of_ble_eq_true rfl)
  have ZZ47 : n0 ≤ h47.size := Nat.le_trans ZZ45 (Keep.of_wr W47).1
  refine own_adv (B := (T47.setTop (mkF m 27 #[.val (.long q0), .second, .val (.long q1), .second, .val (.long q2), .second, .val (.long q3), .second, .val (.long q4), .second, .val (.int p5), .val (.long sw), .second, .unset, .unset] [(.long q3), (.int (3 : Int32)), (.ref a), (.ref a)]))) (fun t k => ?_) ?_
  · show Steps p.tables e below (T47.setTop (mkF m 23 #[.val (.long q0), .second, .val (.long q1), .second, .val (.long q2), .second, .val (.long q3), .second, .val (.long q4), .second, .val (.int p5), .val (.long sw), .second, .unset, .unset] [(.ref a)])) _
    refine XS.dup X47.here hx rfl (hb hby at_23) rfl rfl ?_
    show Steps p.tables e below (T47.setTop (mkF m 24 #[.val (.long q0), .second, .val (.long q1), .second, .val (.long q2), .second, .val (.long q3), .second, .val (.long q4), .second, .val (.int p5), .val (.long sw), .second, .unset, .unset] [(.ref a), (.ref a)])) _
    refine XS.iconst X47.here hx rfl (hb hby at_24) ?_
    show Steps p.tables e below (T47.setTop (mkF m 25 #[.val (.long q0), .second, .val (.long q1), .second, .val (.long q2), .second, .val (.long q3), .second, .val (.long q4), .second, .val (.int p5), .val (.long sw), .second, .unset, .unset] [(.int (3 : Int32)), (.ref a), (.ref a)])) _
    refine XS.lload X47.here hx rfl (hb hby at_25) rfl ?_
    exact k
  obtain ⟨cl48, Ar48, Aq48, AS48, AN48, AH48, AG48⟩ := id Va_47
  obtain ⟨T49, h49, X49, e49, W49, st49⟩ := stJ X47 hx hZ e47 Ar48 (j := (3 : Int32)) (inb_of AS48 ⟨by decide, by decide⟩) (g := (mkF m 27 #[.val (.long q0), .second, .val (.long q1), .second, .val (.long q2), .second, .val (.long q3), .second, .val (.long q4), .second, .val (.int p5), .val (.long sw), .second, .unset, .unset] [(.long q3), (.int (3 : Int32)), (.ref a), (.ref a)])) rfl rfl (hb hby at_27)
  have N49 := Fr.snoc X49 N47 g_a
  refine own_adv (B := (T49.setTop (mkF m 28 #[.val (.long q0), .second, .val (.long q1), .second, .val (.long q2), .second, .val (.long q3), .second, .val (.long q4), .second, .val (.int p5), .val (.long sw), .second, .unset, .unset] [(.ref a)]))) st49 ?_
  have Va_49 : Arv Z h49 a k41 .long (5 : Int32) [(.long q0), (.long q1), (.long q2), (.long q3), (.long (0 : Int64))] (.long (0 : Int64)) := Arv.set Ar48 Aq48 AS48 AN48 AH48 AG48 rfl W49 3 rfl (Nat.le_of_ble_eq_true rfl)
  have ZZ49 : n0 ≤ h49.size := Nat.le_trans ZZ47 (Keep.of_wr W49).1
  refine own_adv (B := (T49.setTop (mkF m 32 #[.val (.long q0), .second, .val (.long q1), .second, .val (.long q2), .second, .val (.long q3), .second, .val (.long q4), .second, .val (.int p5), .val (.long sw), .second, .unset, .unset] [(.long q4), (.int (4 : Int32)), (.ref a), (.ref a)]))) (fun t k => ?_) ?_
  · show Steps p.tables e below (T49.setTop (mkF m 28 #[.val (.long q0), .second, .val (.long q1), .second, .val (.long q2), .second, .val (.long q3), .second, .val (.long q4), .second, .val (.int p5), .val (.long sw), .second, .unset, .unset] [(.ref a)])) _
    refine XS.dup X49.here hx rfl (hb hby at_28) rfl rfl ?_
    show Steps p.tables e below (T49.setTop (mkF m 29 #[.val (.long q0), .second, .val (.long q1), .second, .val (.long q2), .second, .val (.long q3), .second, .val (.long q4), .second, .val (.int p5), .val (.long sw), .second, .unset, .unset] [(.ref a), (.ref a)])) _
    refine XS.iconst X49.here hx rfl (hb hby at_29) ?_
    show Steps p.tables e below (T49.setTop (mkF m 30 #[.val (.long q0), .second, .val (.long q1), .second, .val (.long q2), .second, .val (.long q3), .second, .val (.long q4), .second, .val (.int p5), .val (.long sw), .second, .unset, .unset] [(.int (4 : Int32)), (.ref a), (.ref a)])) _
    refine XS.lload X49.here hx rfl (hb hby at_30) rfl ?_
    exact k
  obtain ⟨cl50, Ar50, Aq50, AS50, AN50, AH50, AG50⟩ := id Va_49
  obtain ⟨T51, h51, X51, e51, W51, st51⟩ := stJ X49 hx hZ e49 Ar50 (j := (4 : Int32)) (inb_of AS50 ⟨by decide, by decide⟩) (g := (mkF m 32 #[.val (.long q0), .second, .val (.long q1), .second, .val (.long q2), .second, .val (.long q3), .second, .val (.long q4), .second, .val (.int p5), .val (.long sw), .second, .unset, .unset] [(.long q4), (.int (4 : Int32)), (.ref a), (.ref a)])) rfl rfl (hb hby at_32)
  have N51 := Fr.snoc X51 N49 g_a
  refine own_adv (B := (T51.setTop (mkF m 33 #[.val (.long q0), .second, .val (.long q1), .second, .val (.long q2), .second, .val (.long q3), .second, .val (.long q4), .second, .val (.int p5), .val (.long sw), .second, .unset, .unset] [(.ref a)]))) st51 ?_
  have Va_51 : Arv Z h51 a k41 .long (5 : Int32) [(.long q0), (.long q1), (.long q2), (.long q3), (.long q4)] (.long (0 : Int64)) := Arv.set Ar50 Aq50 AS50 AN50 AH50 AG50 rfl W51 4 rfl (Nat.le_of_ble_eq_true rfl)
  have ZZ51 : n0 ≤ h51.size := Nat.le_trans ZZ49 (Keep.of_wr W51).1
  refine own_adv (B := (T51.setTop (mkF m 36 #[.val (.long q0), .second, .val (.long q1), .second, .val (.long q2), .second, .val (.long q3), .second, .val (.long q4), .second, .val (.int p5), .val (.long sw), .second, .val (.ref a), .unset] [(.int (5 : Int32))]))) (fun t k => ?_) ?_
  · show Steps p.tables e below (T51.setTop (mkF m 33 #[.val (.long q0), .second, .val (.long q1), .second, .val (.long q2), .second, .val (.long q3), .second, .val (.long q4), .second, .val (.int p5), .val (.long sw), .second, .unset, .unset] [(.ref a)])) _
    refine XS.astore X51.here hx rfl (hb hby at_33) rfl rfl (l' := #[.val (.long q0), .second, .val (.long q1), .second, .val (.long q2), .second, .val (.long q3), .second, .val (.long q4), .second, .val (.int p5), .val (.long sw), .second, .val (.ref a), .unset]) rfl ?_
    show Steps p.tables e below (T51.setTop (mkF m 35 #[.val (.long q0), .second, .val (.long q1), .second, .val (.long q2), .second, .val (.long q3), .second, .val (.long q4), .second, .val (.int p5), .val (.long sw), .second, .val (.ref a), .unset] [])) _
    refine XS.iconst X51.here hx rfl (hb hby at_35) ?_
    exact k
  obtain ⟨T52, h52, k52, X52, e52, E52, A52, st52⟩ := newP X51 hx hZ (hw _ (List.mem_of_getElem? (i := 0) rfl)) e51 (g := (mkF m 36 #[.val (.long q0), .second, .val (.long q1), .second, .val (.long q2), .second, .val (.long q3), .second, .val (.long q4), .second, .val (.int p5), .val (.long sw), .second, .val (.ref a), .unset] [(.int (5 : Int32))])) rfl (hb hby at_36) rfl (by decide) (cap := 5) (by decide) (by decide) (by decide) (by decide)
  obtain ⟨b, g52⟩ : ∃ z, z = h51.size := ⟨_, rfl⟩
  rw [← g52] at A52 st52
  have V_b : Arv Z h52 b k52 .long (5 : Int32) [(.long (0 : Int64)), (.long (0 : Int64)), (.long (0 : Int64)), (.long (0 : Int64)), (.long (0 : Int64))] (.long (0 : Int64)) := (Arv.new A52 (by decide)).pad (pad_rep [] (.long (0 : Int64)) 5)
  refine own_adv (B := (T52.setTop (mkF m 38 #[.val (.long q0), .second, .val (.long q1), .second, .val (.long q2), .second, .val (.long q3), .second, .val (.long q4), .second, .val (.int p5), .val (.long sw), .second, .val (.ref a), .unset] [(.ref b)]))) st52 ?_
  have g_b : n0 ≤ b := by rw [g52]; exact ZZ51
  have ZZ52 : n0 ≤ h52.size := Nat.le_trans ZZ51 E52.1
  have Va_52 := Va_51.ext E52
  have ne_a_b : a ≠ b := Nat.ne_of_lt (Nat.lt_of_lt_of_le Va_51.lt (Nat.le_of_eq g52.symm))
  refine own_adv (B := (T52.setTop (mkF m 41 #[.val (.long q0), .second, .val (.long q1), .second, .val (.long q2), .second, .val (.long q3), .second, .val (.long q4), .second, .val (.int p5), .val (.long sw), .second, .val (.ref a), .unset] [(.long q1), (.int (0 : Int32)), (.ref b), (.ref b)]))) (fun t k => ?_) ?_
  · show Steps p.tables e below (T52.setTop (mkF m 38 #[.val (.long q0), .second, .val (.long q1), .second, .val (.long q2), .second, .val (.long q3), .second, .val (.long q4), .second, .val (.int p5), .val (.long sw), .second, .val (.ref a), .unset] [(.ref b)])) _
    refine XS.dup X52.here hx rfl (hb hby at_38) rfl rfl ?_
    show Steps p.tables e below (T52.setTop (mkF m 39 #[.val (.long q0), .second, .val (.long q1), .second, .val (.long q2), .second, .val (.long q3), .second, .val (.long q4), .second, .val (.int p5), .val (.long sw), .second, .val (.ref a), .unset] [(.ref b), (.ref b)])) _
    refine XS.iconst X52.here hx rfl (hb hby at_39) ?_
    show Steps p.tables e below (T52.setTop (mkF m 40 #[.val (.long q0), .second, .val (.long q1), .second, .val (.long q2), .second, .val (.long q3), .second, .val (.long q4), .second, .val (.int p5), .val (.long sw), .second, .val (.ref a), .unset] [(.int (0 : Int32)), (.ref b), (.ref b)])) _
    refine XS.lloadN X52.here hx rfl (hb hby at_40) rfl ?_
    exact k
  obtain ⟨cl53, Ar53, Aq53, AS53, AN53, AH53, AG53⟩ := id V_b
  obtain ⟨T54, h54, X54, e54, W54, st54⟩ := stJ X52 hx hZ e52 Ar53 (j := (0 : Int32)) (inb_of AS53 ⟨by decide, by decide⟩) (g := (mkF m 41 #[.val (.long q0), .second, .val (.long q1), .second, .val (.long q2), .second, .val (.long q3), .second, .val (.long q4), .second, .val (.int p5), .val (.long sw), .second, .val (.ref a), .unset] [(.long q1), (.int (0 : Int32)), (.ref b), (.ref b)])) rfl rfl (hb hby at_41)
  have N54 := Fr.snoc X54 N51 g_b
  refine own_adv (B := (T54.setTop (mkF m 42 #[.val (.long q0), .second, .val (.long q1), .second, .val (.long q2), .second, .val (.long q3), .second, .val (.long q4), .second, .val (.int p5), .val (.long sw), .second, .val (.ref a), .unset] [(.ref b)]))) st54 ?_
  have Vb_54 : Arv Z h54 b k52 .long (5 : Int32) [(.long q1), (.long (0 : Int64)), (.long (0 : Int64)), (.long (0 : Int64)), (.long (0 : Int64))] (.long (0 : Int64)) := Arv.set Ar53 Aq53 AS53 AN53 AH53 AG53 rfl W54 0 rfl (Nat.le_of_ble_eq_true rfl)
  have Va_54 := Va_52.other W54 ne_a_b
  have ZZ54 : n0 ≤ h54.size := Nat.le_trans ZZ52 (Keep.of_wr W54).1
  refine own_adv (B := (T54.setTop (mkF m 46 #[.val (.long q0), .second, .val (.long q1), .second, .val (.long q2), .second, .val (.long q3), .second, .val (.long q4), .second, .val (.int p5), .val (.long sw), .second, .val (.ref a), .unset] [(.long q2), (.int (1 : Int32)), (.ref b), (.ref b)]))) (fun t k => ?_) ?_
  · show Steps p.tables e below (T54.setTop (mkF m 42 #[.val (.long q0), .second, .val (.long q1), .second, .val (.long q2), .second, .val (.long q3), .second, .val (.long q4), .second, .val (.int p5), .val (.long sw), .second, .val (.ref a), .unset] [(.ref b)])) _
    refine XS.dup X54.here hx rfl (hb hby at_42) rfl rfl ?_
    show Steps p.tables e below (T54.setTop (mkF m 43 #[.val (.long q0), .second, .val (.long q1), .second, .val (.long q2), .second, .val (.long q3), .second, .val (.long q4), .second, .val (.int p5), .val (.long sw), .second, .val (.ref a), .unset] [(.ref b), (.ref b)])) _
    refine XS.iconst X54.here hx rfl (hb hby at_43) ?_
    show Steps p.tables e below (T54.setTop (mkF m 44 #[.val (.long q0), .second, .val (.long q1), .second, .val (.long q2), .second, .val (.long q3), .second, .val (.long q4), .second, .val (.int p5), .val (.long sw), .second, .val (.ref a), .unset] [(.int (1 : Int32)), (.ref b), (.ref b)])) _
    refine XS.lload X54.here hx rfl (hb hby at_44) rfl ?_
    exact k
  obtain ⟨cl55, Ar55, Aq55, AS55, AN55, AH55, AG55⟩ := id Vb_54
  obtain ⟨T56, h56, X56, e56, W56, st56⟩ := stJ X54 hx hZ e54 Ar55 (j := (1 : Int32)) (inb_of AS55 ⟨by decide, by decide⟩) (g := (mkF m 46 #[.val (.long q0), .second, .val (.long q1), .second, .val (.long q2), .second, .val (.long q3), .second, .val (.long q4), .second, .val (.int p5), .val (.long sw), .second, .val (.ref a), .unset] [(.long q2), (.int (1 : Int32)), (.ref b), (.ref b)])) rfl rfl (hb hby at_46)
  have N56 := Fr.snoc X56 N54 g_b
  refine own_adv (B := (T56.setTop (mkF m 47 #[.val (.long q0), .second, .val (.long q1), .second, .val (.long q2), .second, .val (.long q3), .second, .val (.long q4), .second, .val (.int p5), .val (.long sw), .second, .val (.ref a), .unset] [(.ref b)]))) st56 ?_
  have Vb_56 : Arv Z h56 b k52 .long (5 : Int32) [(.long q1), (.long q2), (.long (0 : Int64)), (.long (0 : Int64)), (.long (0 : Int64))] (.long (0 : Int64)) := Arv.set Ar55 Aq55 AS55 AN55 AH55 AG55 rfl W56 1 rfl (Nat.le_of_ble_eq_true rfl)
  have Va_56 := Va_54.other W56 ne_a_b
  have ZZ56 : n0 ≤ h56.size := Nat.le_trans ZZ54 (Keep.of_wr W56).1
  refine own_adv (B := (T56.setTop (mkF m 51 #[.val (.long q0), .second, .val (.long q1), .second, .val (.long q2), .second, .val (.long q3), .second, .val (.long q4), .second, .val (.int p5), .val (.long sw), .second, .val (.ref a), .unset] [(.long q3), (.int (2 : Int32)), (.ref b), (.ref b)]))) (fun t k => ?_) ?_
  · show Steps p.tables e below (T56.setTop (mkF m 47 #[.val (.long q0), .second, .val (.long q1), .second, .val (.long q2), .second, .val (.long q3), .second, .val (.long q4), .second, .val (.int p5), .val (.long sw), .second, .val (.ref a), .unset] [(.ref b)])) _
    refine XS.dup X56.here hx rfl (hb hby at_47) rfl rfl ?_
    show Steps p.tables e below (T56.setTop (mkF m 48 #[.val (.long q0), .second, .val (.long q1), .second, .val (.long q2), .second, .val (.long q3), .second, .val (.long q4), .second, .val (.int p5), .val (.long sw), .second, .val (.ref a), .unset] [(.ref b), (.ref b)])) _
    refine XS.iconst X56.here hx rfl (hb hby at_48) ?_
    show Steps p.tables e below (T56.setTop (mkF m 49 #[.val (.long q0), .second, .val (.long q1), .second, .val (.long q2), .second, .val (.long q3), .second, .val (.long q4), .second, .val (.int p5), .val (.long sw), .second, .val (.ref a), .unset] [(.int (2 : Int32)), (.ref b), (.ref b)])) _
    refine XS.lload X56.here hx rfl (hb hby at_49) rfl ?_
    exact k
  obtain ⟨cl57, Ar57, Aq57, AS57, AN57, AH57, AG57⟩ := id Vb_56
  obtain ⟨T58, h58, X58, e58, W58, st58⟩ := stJ X56 hx hZ e56 Ar57 (j := (2 : Int32)) (inb_of AS57 ⟨by decide, by decide⟩) (g := (mkF m 51 #[.val (.long q0), .second, .val (.long q1), .second, .val (.long q2), .second, .val (.long q3), .second, .val (.long q4), .second, .val (.int p5), .val (.long sw), .second, .val (.ref a), .unset] [(.long q3), (.int (2 : Int32)), (.ref b), (.ref b)])) rfl rfl (hb hby at_51)
  have N58 := Fr.snoc X58 N56 g_b
  refine own_adv (B := (T58.setTop (mkF m 52 #[.val (.long q0), .second, .val (.long q1), .second, .val (.long q2), .second, .val (.long q3), .second, .val (.long q4), .second, .val (.int p5), .val (.long sw), .second, .val (.ref a), .unset] [(.ref b)]))) st58 ?_
  have Vb_58 : Arv Z h58 b k52 .long (5 : Int32) [(.long q1), (.long q2), (.long q3), (.long (0 : Int64)), (.long (0 : Int64))] (.long (0 : Int64)) := Arv.set Ar57 Aq57 AS57 AN57 AH57 AG57 rfl W58 2 rfl (Nat.le_of_ble_eq_true rfl)
  have Va_58 := Va_56.other W58 ne_a_b
  have ZZ58 : n0 ≤ h58.size := Nat.le_trans ZZ56 (Keep.of_wr W58).1
  refine own_adv (B := (T58.setTop (mkF m 56 #[.val (.long q0), .second, .val (.long q1), .second, .val (.long q2), .second, .val (.long q3), .second, .val (.long q4), .second, .val (.int p5), .val (.long sw), .second, .val (.ref a), .unset] [(.long q4), (.int (3 : Int32)), (.ref b), (.ref b)]))) (fun t k => ?_) ?_
  · show Steps p.tables e below (T58.setTop (mkF m 52 #[.val (.long q0), .second, .val (.long q1), .second, .val (.long q2), .second, .val (.long q3), .second, .val (.long q4), .second, .val (.int p5), .val (.long sw), .second, .val (.ref a), .unset] [(.ref b)])) _
    refine XS.dup X58.here hx rfl (hb hby at_52) rfl rfl ?_
    show Steps p.tables e below (T58.setTop (mkF m 53 #[.val (.long q0), .second, .val (.long q1), .second, .val (.long q2), .second, .val (.long q3), .second, .val (.long q4), .second, .val (.int p5), .val (.long sw), .second, .val (.ref a), .unset] [(.ref b), (.ref b)])) _
    refine XS.iconst X58.here hx rfl (hb hby at_53) ?_
    show Steps p.tables e below (T58.setTop (mkF m 54 #[.val (.long q0), .second, .val (.long q1), .second, .val (.long q2), .second, .val (.long q3), .second, .val (.long q4), .second, .val (.int p5), .val (.long sw), .second, .val (.ref a), .unset] [(.int (3 : Int32)), (.ref b), (.ref b)])) _
    refine XS.lload X58.here hx rfl (hb hby at_54) rfl ?_
    exact k
  obtain ⟨cl59, Ar59, Aq59, AS59, AN59, AH59, AG59⟩ := id Vb_58
  obtain ⟨T60, h60, X60, e60, W60, st60⟩ := stJ X58 hx hZ e58 Ar59 (j := (3 : Int32)) (inb_of AS59 ⟨by decide, by decide⟩) (g := (mkF m 56 #[.val (.long q0), .second, .val (.long q1), .second, .val (.long q2), .second, .val (.long q3), .second, .val (.long q4), .second, .val (.int p5), .val (.long sw), .second, .val (.ref a), .unset] [(.long q4), (.int (3 : Int32)), (.ref b), (.ref b)])) rfl rfl (hb hby at_56)
  have N60 := Fr.snoc X60 N58 g_b
  refine own_adv (B := (T60.setTop (mkF m 57 #[.val (.long q0), .second, .val (.long q1), .second, .val (.long q2), .second, .val (.long q3), .second, .val (.long q4), .second, .val (.int p5), .val (.long sw), .second, .val (.ref a), .unset] [(.ref b)]))) st60 ?_
  have Vb_60 : Arv Z h60 b k52 .long (5 : Int32) [(.long q1), (.long q2), (.long q3), (.long q4), (.long (0 : Int64))] (.long (0 : Int64)) := Arv.set Ar59 Aq59 AS59 AN59 AH59 AG59 rfl W60 3 rfl (Nat.le_of_ble_eq_true rfl)
  have Va_60 := Va_58.other W60 ne_a_b
  have ZZ60 : n0 ≤ h60.size := Nat.le_trans ZZ58 (Keep.of_wr W60).1
  refine own_adv (B := (T60.setTop (mkF m 60 #[.val (.long q0), .second, .val (.long q1), .second, .val (.long q2), .second, .val (.long q3), .second, .val (.long q4), .second, .val (.int p5), .val (.long sw), .second, .val (.ref a), .unset] [(.long q0), (.int (4 : Int32)), (.ref b), (.ref b)]))) (fun t k => ?_) ?_
  · show Steps p.tables e below (T60.setTop (mkF m 57 #[.val (.long q0), .second, .val (.long q1), .second, .val (.long q2), .second, .val (.long q3), .second, .val (.long q4), .second, .val (.int p5), .val (.long sw), .second, .val (.ref a), .unset] [(.ref b)])) _
    refine XS.dup X60.here hx rfl (hb hby at_57) rfl rfl ?_
    show Steps p.tables e below (T60.setTop (mkF m 58 #[.val (.long q0), .second, .val (.long q1), .second, .val (.long q2), .second, .val (.long q3), .second, .val (.long q4), .second, .val (.int p5), .val (.long sw), .second, .val (.ref a), .unset] [(.ref b), (.ref b)])) _
    refine XS.iconst X60.here hx rfl (hb hby at_58) ?_
    show Steps p.tables e below (T60.setTop (mkF m 59 #[.val (.long q0), .second, .val (.long q1), .second, .val (.long q2), .second, .val (.long q3), .second, .val (.long q4), .second, .val (.int p5), .val (.long sw), .second, .val (.ref a), .unset] [(.int (4 : Int32)), (.ref b), (.ref b)])) _
    refine XS.lloadN X60.here hx rfl (hb hby at_59) rfl ?_
    exact k
  obtain ⟨cl61, Ar61, Aq61, AS61, AN61, AH61, AG61⟩ := id Vb_60
  obtain ⟨T62, h62, X62, e62, W62, st62⟩ := stJ X60 hx hZ e60 Ar61 (j := (4 : Int32)) (inb_of AS61 ⟨by decide, by decide⟩) (g := (mkF m 60 #[.val (.long q0), .second, .val (.long q1), .second, .val (.long q2), .second, .val (.long q3), .second, .val (.long q4), .second, .val (.int p5), .val (.long sw), .second, .val (.ref a), .unset] [(.long q0), (.int (4 : Int32)), (.ref b), (.ref b)])) rfl rfl (hb hby at_60)
  have N62 := Fr.snoc X62 N60 g_b
  refine own_adv (B := (T62.setTop (mkF m 61 #[.val (.long q0), .second, .val (.long q1), .second, .val (.long q2), .second, .val (.long q3), .second, .val (.long q4), .second, .val (.int p5), .val (.long sw), .second, .val (.ref a), .unset] [(.ref b)]))) st62 ?_
  have Vb_62 : Arv Z h62 b k52 .long (5 : Int32) [(.long q1), (.long q2), (.long q3), (.long q4), (.long q0)] (.long (0 : Int64)) := Arv.set Ar61 Aq61 AS61 AN61 AH61 AG61 rfl W62 4 rfl (Nat.le_of_ble_eq_true rfl)
  have Va_62 := Va_60.other W62 ne_a_b
  have ZZ62 : n0 ≤ h62.size := Nat.le_trans ZZ60 (Keep.of_wr W62).1
  refine own_adv (B := (T62.setTop (mkF m 69 #[.val (.long q0), .second, .val (.long q1), .second, .val (.long q2), .second, .val (.long q3), .second, .val (.long q4), .second, .val (.int p5), .val (.long sw), .second, .val (.ref a), .val (.ref b)] [(.long sw), (.ref b), (.ref a)]))) (fun t k => ?_) ?_
  · show Steps p.tables e below (T62.setTop (mkF m 61 #[.val (.long q0), .second, .val (.long q1), .second, .val (.long q2), .second, .val (.long q3), .second, .val (.long q4), .second, .val (.int p5), .val (.long sw), .second, .val (.ref a), .unset] [(.ref b)])) _
    refine XS.astore X62.here hx rfl (hb hby at_61) rfl rfl (l' := #[.val (.long q0), .second, .val (.long q1), .second, .val (.long q2), .second, .val (.long q3), .second, .val (.long q4), .second, .val (.int p5), .val (.long sw), .second, .val (.ref a), .val (.ref b)]) rfl ?_
    show Steps p.tables e below (T62.setTop (mkF m 63 #[.val (.long q0), .second, .val (.long q1), .second, .val (.long q2), .second, .val (.long q3), .second, .val (.long q4), .second, .val (.int p5), .val (.long sw), .second, .val (.ref a), .val (.ref b)] [])) _
    refine XS.aload X62.here hx rfl (hb hby at_63) rfl rfl ?_
    show Steps p.tables e below (T62.setTop (mkF m 65 #[.val (.long q0), .second, .val (.long q1), .second, .val (.long q2), .second, .val (.long q3), .second, .val (.long q4), .second, .val (.int p5), .val (.long sw), .second, .val (.ref a), .val (.ref b)] [(.ref a)])) _
    refine XS.aload X62.here hx rfl (hb hby at_65) rfl rfl ?_
    show Steps p.tables e below (T62.setTop (mkF m 67 #[.val (.long q0), .second, .val (.long q1), .second, .val (.long q2), .second, .val (.long q3), .second, .val (.long q4), .second, .val (.int p5), .val (.long sw), .second, .val (.ref a), .val (.ref b)] [(.ref b), (.ref a)])) _
    refine XS.lload X62.here hx rfl (hb hby at_67) rfl ?_
    exact k
  obtain ⟨_, _, ⟨T63, L63, k63, n63⟩, -, X63, ⟨Lc63, hQ63, l63, y63, z63⟩, st63⟩ := Jvm.LawKit.callS X62 hx (y := (⟨"com/example/meyrin/meyrin/crypto/Field25519", "conditionalSwap", "([J[JJ)V"⟩ : MethodName)) hown (mvT hZ (hw _ (List.mem_of_getElem? (i := 1) rfl))) (mvT hZ (hw _ (List.mem_of_getElem? (i := 2) rfl))) (mvT hZ (hw _ (List.mem_of_getElem? (i := 3) rfl))) (mvT hZ (hw _ (List.mem_of_getElem? (i := 4) rfl))) (by decide) (backOf (W := 0) (rm1 l Z a0 hw [] a b sw q0 q1 q2 q3 q4 q1 q2 q3 q4 q0 k41 k52 h62 n0 ZZ62 Va_62 Vb_62 ne_a_b g_a g_b) hZ (hw _ (List.mem_of_getElem? (i := 4) rfl)) (hw _ (List.mem_of_getElem? (i := 3) rfl)) (by decide) (by decide)) (g := (mkF m 69 #[.val (.long q0), .second, .val (.long q1), .second, .val (.long q2), .second, .val (.long q3), .second, .val (.long q4), .second, .val (.int p5), .val (.long sw), .second, .val (.ref a), .val (.ref b)] [(.long sw), (.ref b), (.ref a)])) rfl (by rw [hml]; rfl) (argsL := [(.ref a), (.ref b), (.long sw)]) (rest := []) (lenOf pd_0 rfl) rfl (by show 2 * 0 + _ ≤ _; exact Nat.le_of_eq rfl) (hb hby at_69) (fun _ _ => ⟨rfl, e62, (by decide : 2 + 0 ≤ _), (by decide : 10 + 0 ≤ _)⟩)
  dsimp only [Pt.U, Pt.locs, Pt.cells, Pt.slots] at X63 l63 y63 z63 st63 hQ63
  subst l63 y63 z63
  obtain ⟨rfl, N63q, S63, VA, VB⟩ := hQ63
  have N63 := Fr.app N62 N63q
  refine own_adv (B := (T63.setTop (mkF m 72 #[.val (.long q0), .second, .val (.long q1), .second, .val (.long q2), .second, .val (.long q3), .second, .val (.long q4), .second, .val (.int p5), .val (.long sw), .second, .val (.ref a), .val (.ref b)] []))) (fun t k => st63 t k) ?_
  refine own_adv (B := (T63.setTop (mkF m 76 #[.val (.long q0), .second, .val (.long q1), .second, .val (.long q2), .second, .val (.long q3), .second, .val (.long q4), .second, .val (.int p5), .val (.long sw), .second, .val (.ref a), .val (.ref b)] [(.int (lcmpW sw (1 : Int64)))]))) (fun t k => ?_) ?_
  · show Steps p.tables e below (T63.setTop (mkF m 72 #[.val (.long q0), .second, .val (.long q1), .second, .val (.long q2), .second, .val (.long q3), .second, .val (.long q4), .second, .val (.int p5), .val (.long sw), .second, .val (.ref a), .val (.ref b)] [])) _
    refine XS.lload X63.here hx rfl (hb hby at_72) rfl ?_
    show Steps p.tables e below (T63.setTop (mkF m 74 #[.val (.long q0), .second, .val (.long q1), .second, .val (.long q2), .second, .val (.long q3), .second, .val (.long q4), .second, .val (.int p5), .val (.long sw), .second, .val (.ref a), .val (.ref b)] [(.long sw)])) _
    refine XS.lconst X63.here hx rfl (hb hby at_74) ?_
    show Steps p.tables e below (T63.setTop (mkF m 75 #[.val (.long q0), .second, .val (.long q1), .second, .val (.long q2), .second, .val (.long q3), .second, .val (.long q4), .second, .val (.int p5), .val (.long sw), .second, .val (.ref a), .val (.ref b)] [(.long (1 : Int64)), (.long sw)])) _
    refine XS.lcmp X63.here hx rfl (hb hby at_75) rfl ?_
    exact k
  by_cases hs : (lcmpW sw (1 : Int64)) = (0 : Int32)
  · have hs' : sw = (1 : Int64) := (lw_eq _ _).mp hs
    subst hs'
    have VA' : Arv Z T63.heap a k41 .long (5 : Int32) [(.long q1), (.long q2), (.long q3), (.long q4), (.long q0)] (.long (0 : Int64)) := by
      have q := VA
      simp only [own_s1a, own_s1b] at q
      exact q
    have VB' : Arv Z T63.heap b k52 .long (5 : Int32) [(.long q0), (.long q1), (.long q2), (.long q3), (.long q4)] (.long (0 : Int64)) := by
      have q := VB
      simp only [own_s1a, own_s1b] at q
      exact q
    obtain ⟨cl64, Ar64, Aq64, AS64, AN64, AH64, AG64⟩ := id VA'
    obtain ⟨cl65, Ar65, Aq65, AS65, AN65, AH65, AG65⟩ := id VB'
    have at66 : cl64.slots[(0 : Int32).toNatClampNeg]? = some (.long q1) := AH64 0 (by rw [AS64]; decide)
    have at67 : cl64.slots[(1 : Int32).toNatClampNeg]? = some (.long q2) := AH64 1 (by rw [AS64]; decide)
    have at68 : cl64.slots[(2 : Int32).toNatClampNeg]? = some (.long q3) := AH64 2 (by rw [AS64]; decide)
    have at69 : cl64.slots[(3 : Int32).toNatClampNeg]? = some (.long q4) := AH64 3 (by rw [AS64]; decide)
    have at70 : cl64.slots[(4 : Int32).toNatClampNeg]? = some (.long q0) := AH64 4 (by rw [AS64]; decide)
    have at71 : cl65.slots[(0 : Int32).toNatClampNeg]? = some (.long q0) := AH65 0 (by rw [AS65]; decide)
    have at72 : cl65.slots[(1 : Int32).toNatClampNeg]? = some (.long q1) := AH65 1 (by rw [AS65]; decide)
    have at73 : cl65.slots[(2 : Int32).toNatClampNeg]? = some (.long q2) := AH65 2 (by rw [AS65]; decide)
    have at74 : cl65.slots[(3 : Int32).toNatClampNeg]? = some (.long q3) := AH65 3 (by rw [AS65]; decide)
    have at75 : cl65.slots[(4 : Int32).toNatClampNeg]? = some (.long q4) := AH65 4 (by rw [AS65]; decide)
    refine own_adv (B := (T63.setTop (mkF m 180 #[.val (.long q0), .second, .val (.long q1), .second, .val (.long q2), .second, .val (.long q3), .second, .val (.long q4), .second, .val (.int p5), .val (.long (1 : Int64)), .second, .val (.ref a), .val (.ref b)] [(.int (1 : Int32))]))) (fun t k => ?_) ?_
    · show Steps p.tables e below (T63.setTop (mkF m 76 #[.val (.long q0), .second, .val (.long q1), .second, .val (.long q2), .second, .val (.long q3), .second, .val (.long q4), .second, .val (.int p5), .val (.long (1 : Int64)), .second, .val (.ref a), .val (.ref b)] [(.int (lcmpW (1 : Int64) (1 : Int64)))])) _
      refine XS.ifNo X63.here hx rfl (hb hby at_76) rfl ((if0 _ _).trans (teq hs).2) ?_
      show Steps p.tables e below (T63.setTop (mkF m 79 #[.val (.long q0), .second, .val (.long q1), .second, .val (.long q2), .second, .val (.long q3), .second, .val (.long q4), .second, .val (.int p5), .val (.long (1 : Int64)), .second, .val (.ref a), .val (.ref b)] [])) _
      refine XS.aload X63.here hx rfl (hb hby at_79) rfl rfl ?_
      show Steps p.tables e below (T63.setTop (mkF m 81 #[.val (.long q0), .second, .val (.long q1), .second, .val (.long q2), .second, .val (.long q3), .second, .val (.long q4), .second, .val (.int p5), .val (.long (1 : Int64)), .second, .val (.ref a), .val (.ref b)] [(.ref a)])) _
      refine XS.iconst X63.here hx rfl (hb hby at_81) ?_
      show Steps p.tables e below (T63.setTop (mkF m 82 #[.val (.long q0), .second, .val (.long q1), .second, .val (.long q2), .second, .val (.long q3), .second, .val (.long q4), .second, .val (.int p5), .val (.long (1 : Int64)), .second, .val (.ref a), .val (.ref b)] [(.int (0 : Int32)), (.ref a)])) _
      refine X63.laload hx (j := (0 : Int32)) (v := (.long q1)) Ar64.1 (State.isArrayOf_alike hZ.alike Ar64.2.1) Ar64.2.2 (inb_of AS64 ⟨by decide, by decide⟩) at66 (g := (mkF m 82 #[.val (.long q0), .second, .val (.long q1), .second, .val (.long q2), .second, .val (.long q3), .second, .val (.long q4), .second, .val (.int p5), .val (.long (1 : Int64)), .second, .val (.ref a), .val (.ref b)] [(.int (0 : Int32)), (.ref a)])) rfl rfl (hb hby at_82) _ ?_
      show Steps p.tables e below (T63.setTop (mkF m 83 #[.val (.long q0), .second, .val (.long q1), .second, .val (.long q2), .second, .val (.long q3), .second, .val (.long q4), .second, .val (.int p5), .val (.long (1 : Int64)), .second, .val (.ref a), .val (.ref b)] [(.long q1)])) _
      refine XS.lloadN X63.here hx rfl (hb hby at_83) rfl ?_
      show Steps p.tables e below (T63.setTop (mkF m 84 #[.val (.long q0), .second, .val (.long q1), .second, .val (.long q2), .second, .val (.long q3), .second, .val (.long q4), .second, .val (.int p5), .val (.long (1 : Int64)), .second, .val (.ref a), .val (.ref b)] [(.long q1), (.long q1)])) _
      refine XS.lcmp X63.here hx rfl (hb hby at_84) rfl ?_
      show Steps p.tables e below (T63.setTop (mkF m 85 #[.val (.long q0), .second, .val (.long q1), .second, .val (.long q2), .second, .val (.long q3), .second, .val (.long q4), .second, .val (.int p5), .val (.long (1 : Int64)), .second, .val (.ref a), .val (.ref b)] [(.int (lcmpW q1 q1))])) _
      refine XS.ifNo X63.here hx rfl (hb hby at_85) rfl ((if0 _ _).trans (teq (own_lc _)).2) ?_
      show Steps p.tables e below (T63.setTop (mkF m 88 #[.val (.long q0), .second, .val (.long q1), .second, .val (.long q2), .second, .val (.long q3), .second, .val (.long q4), .second, .val (.int p5), .val (.long (1 : Int64)), .second, .val (.ref a), .val (.ref b)] [])) _
      refine XS.aload X63.here hx rfl (hb hby at_88) rfl rfl ?_
      show Steps p.tables e below (T63.setTop (mkF m 90 #[.val (.long q0), .second, .val (.long q1), .second, .val (.long q2), .second, .val (.long q3), .second, .val (.long q4), .second, .val (.int p5), .val (.long (1 : Int64)), .second, .val (.ref a), .val (.ref b)] [(.ref a)])) _
      refine XS.iconst X63.here hx rfl (hb hby at_90) ?_
      show Steps p.tables e below (T63.setTop (mkF m 91 #[.val (.long q0), .second, .val (.long q1), .second, .val (.long q2), .second, .val (.long q3), .second, .val (.long q4), .second, .val (.int p5), .val (.long (1 : Int64)), .second, .val (.ref a), .val (.ref b)] [(.int (1 : Int32)), (.ref a)])) _
      refine X63.laload hx (j := (1 : Int32)) (v := (.long q2)) Ar64.1 (State.isArrayOf_alike hZ.alike Ar64.2.1) Ar64.2.2 (inb_of AS64 ⟨by decide, by decide⟩) at67 (g := (mkF m 91 #[.val (.long q0), .second, .val (.long q1), .second, .val (.long q2), .second, .val (.long q3), .second, .val (.long q4), .second, .val (.int p5), .val (.long (1 : Int64)), .second, .val (.ref a), .val (.ref b)] [(.int (1 : Int32)), (.ref a)])) rfl rfl (hb hby at_91) _ ?_
      show Steps p.tables e below (T63.setTop (mkF m 92 #[.val (.long q0), .second, .val (.long q1), .second, .val (.long q2), .second, .val (.long q3), .second, .val (.long q4), .second, .val (.int p5), .val (.long (1 : Int64)), .second, .val (.ref a), .val (.ref b)] [(.long q2)])) _
      refine XS.lload X63.here hx rfl (hb hby at_92) rfl ?_
      show Steps p.tables e below (T63.setTop (mkF m 94 #[.val (.long q0), .second, .val (.long q1), .second, .val (.long q2), .second, .val (.long q3), .second, .val (.long q4), .second, .val (.int p5), .val (.long (1 : Int64)), .second, .val (.ref a), .val (.ref b)] [(.long q2), (.long q2)])) _
      refine XS.lcmp X63.here hx rfl (hb hby at_94) rfl ?_
      show Steps p.tables e below (T63.setTop (mkF m 95 #[.val (.long q0), .second, .val (.long q1), .second, .val (.long q2), .second, .val (.long q3), .second, .val (.long q4), .second, .val (.int p5), .val (.long (1 : Int64)), .second, .val (.ref a), .val (.ref b)] [(.int (lcmpW q2 q2))])) _
      refine XS.ifNo X63.here hx rfl (hb hby at_95) rfl ((if0 _ _).trans (teq (own_lc _)).2) ?_
      show Steps p.tables e below (T63.setTop (mkF m 98 #[.val (.long q0), .second, .val (.long q1), .second, .val (.long q2), .second, .val (.long q3), .second, .val (.long q4), .second, .val (.int p5), .val (.long (1 : Int64)), .second, .val (.ref a), .val (.ref b)] [])) _
      refine XS.aload X63.here hx rfl (hb hby at_98) rfl rfl ?_
      show Steps p.tables e below (T63.setTop (mkF m 100 #[.val (.long q0), .second, .val (.long q1), .second, .val (.long q2), .second, .val (.long q3), .second, .val (.long q4), .second, .val (.int p5), .val (.long (1 : Int64)), .second, .val (.ref a), .val (.ref b)] [(.ref a)])) _
      refine XS.iconst X63.here hx rfl (hb hby at_100) ?_
      show Steps p.tables e below (T63.setTop (mkF m 101 #[.val (.long q0), .second, .val (.long q1), .second, .val (.long q2), .second, .val (.long q3), .second, .val (.long q4), .second, .val (.int p5), .val (.long (1 : Int64)), .second, .val (.ref a), .val (.ref b)] [(.int (2 : Int32)), (.ref a)])) _
      refine X63.laload hx (j := (2 : Int32)) (v := (.long q3)) Ar64.1 (State.isArrayOf_alike hZ.alike Ar64.2.1) Ar64.2.2 (inb_of AS64 ⟨by decide, by decide⟩) at68 (g := (mkF m 101 #[.val (.long q0), .second, .val (.long q1), .second, .val (.long q2), .second, .val (.long q3), .second, .val (.long q4), .second, .val (.int p5), .val (.long (1 : Int64)), .second, .val (.ref a), .val (.ref b)] [(.int (2 : Int32)), (.ref a)])) rfl rfl (hb hby at_101) _ ?_
      show Steps p.tables e below (T63.setTop (mkF m 102 #[.val (.long q0), .second, .val (.long q1), .second, .val (.long q2), .second, .val (.long q3), .second, .val (.long q4), .second, .val (.int p5), .val (.long (1 : Int64)), .second, .val (.ref a), .val (.ref b)] [(.long q3)])) _
      refine XS.lload X63.here hx rfl (hb hby at_102) rfl ?_
      show Steps p.tables e below (T63.setTop (mkF m 104 #[.val (.long q0), .second, .val (.long q1), .second, .val (.long q2), .second, .val (.long q3), .second, .val (.long q4), .second, .val (.int p5), .val (.long (1 : Int64)), .second, .val (.ref a), .val (.ref b)] [(.long q3), (.long q3)])) _
      refine XS.lcmp X63.here hx rfl (hb hby at_104) rfl ?_
      show Steps p.tables e below (T63.setTop (mkF m 105 #[.val (.long q0), .second, .val (.long q1), .second, .val (.long q2), .second, .val (.long q3), .second, .val (.long q4), .second, .val (.int p5), .val (.long (1 : Int64)), .second, .val (.ref a), .val (.ref b)] [(.int (lcmpW q3 q3))])) _
      refine XS.ifNo X63.here hx rfl (hb hby at_105) rfl ((if0 _ _).trans (teq (own_lc _)).2) ?_
      show Steps p.tables e below (T63.setTop (mkF m 108 #[.val (.long q0), .second, .val (.long q1), .second, .val (.long q2), .second, .val (.long q3), .second, .val (.long q4), .second, .val (.int p5), .val (.long (1 : Int64)), .second, .val (.ref a), .val (.ref b)] [])) _
      refine XS.aload X63.here hx rfl (hb hby at_108) rfl rfl ?_
      show Steps p.tables e below (T63.setTop (mkF m 110 #[.val (.long q0), .second, .val (.long q1), .second, .val (.long q2), .second, .val (.long q3), .second, .val (.long q4), .second, .val (.int p5), .val (.long (1 : Int64)), .second, .val (.ref a), .val (.ref b)] [(.ref a)])) _
      refine XS.iconst X63.here hx rfl (hb hby at_110) ?_
      show Steps p.tables e below (T63.setTop (mkF m 111 #[.val (.long q0), .second, .val (.long q1), .second, .val (.long q2), .second, .val (.long q3), .second, .val (.long q4), .second, .val (.int p5), .val (.long (1 : Int64)), .second, .val (.ref a), .val (.ref b)] [(.int (3 : Int32)), (.ref a)])) _
      refine X63.laload hx (j := (3 : Int32)) (v := (.long q4)) Ar64.1 (State.isArrayOf_alike hZ.alike Ar64.2.1) Ar64.2.2 (inb_of AS64 ⟨by decide, by decide⟩) at69 (g := (mkF m 111 #[.val (.long q0), .second, .val (.long q1), .second, .val (.long q2), .second, .val (.long q3), .second, .val (.long q4), .second, .val (.int p5), .val (.long (1 : Int64)), .second, .val (.ref a), .val (.ref b)] [(.int (3 : Int32)), (.ref a)])) rfl rfl (hb hby at_111) _ ?_
      show Steps p.tables e below (T63.setTop (mkF m 112 #[.val (.long q0), .second, .val (.long q1), .second, .val (.long q2), .second, .val (.long q3), .second, .val (.long q4), .second, .val (.int p5), .val (.long (1 : Int64)), .second, .val (.ref a), .val (.ref b)] [(.long q4)])) _
      refine XS.lload X63.here hx rfl (hb hby at_112) rfl ?_
      show Steps p.tables e below (T63.setTop (mkF m 114 #[.val (.long q0), .second, .val (.long q1), .second, .val (.long q2), .second, .val (.long q3), .second, .val (.long q4), .second, .val (.int p5), .val (.long (1 : Int64)), .second, .val (.ref a), .val (.ref b)] [(.long q4), (.long q4)])) _
      refine XS.lcmp X63.here hx rfl (hb hby at_114) rfl ?_
      show Steps p.tables e below (T63.setTop (mkF m 115 #[.val (.long q0), .second, .val (.long q1), .second, .val (.long q2), .second, .val (.long q3), .second, .val (.long q4), .second, .val (.int p5), .val (.long (1 : Int64)), .second, .val (.ref a), .val (.ref b)] [(.int (lcmpW q4 q4))])) _
      refine XS.ifNo X63.here hx rfl (hb hby at_115) rfl ((if0 _ _).trans (teq (own_lc _)).2) ?_
      show Steps p.tables e below (T63.setTop (mkF m 118 #[.val (.long q0), .second, .val (.long q1), .second, .val (.long q2), .second, .val (.long q3), .second, .val (.long q4), .second, .val (.int p5), .val (.long (1 : Int64)), .second, .val (.ref a), .val (.ref b)] [])) _
      refine XS.aload X63.here hx rfl (hb hby at_118) rfl rfl ?_
      show Steps p.tables e below (T63.setTop (mkF m 120 #[.val (.long q0), .second, .val (.long q1), .second, .val (.long q2), .second, .val (.long q3), .second, .val (.long q4), .second, .val (.int p5), .val (.long (1 : Int64)), .second, .val (.ref a), .val (.ref b)] [(.ref a)])) _
      refine XS.iconst X63.here hx rfl (hb hby at_120) ?_
      show Steps p.tables e below (T63.setTop (mkF m 121 #[.val (.long q0), .second, .val (.long q1), .second, .val (.long q2), .second, .val (.long q3), .second, .val (.long q4), .second, .val (.int p5), .val (.long (1 : Int64)), .second, .val (.ref a), .val (.ref b)] [(.int (4 : Int32)), (.ref a)])) _
      refine X63.laload hx (j := (4 : Int32)) (v := (.long q0)) Ar64.1 (State.isArrayOf_alike hZ.alike Ar64.2.1) Ar64.2.2 (inb_of AS64 ⟨by decide, by decide⟩) at70 (g := (mkF m 121 #[.val (.long q0), .second, .val (.long q1), .second, .val (.long q2), .second, .val (.long q3), .second, .val (.long q4), .second, .val (.int p5), .val (.long (1 : Int64)), .second, .val (.ref a), .val (.ref b)] [(.int (4 : Int32)), (.ref a)])) rfl rfl (hb hby at_121) _ ?_
      show Steps p.tables e below (T63.setTop (mkF m 122 #[.val (.long q0), .second, .val (.long q1), .second, .val (.long q2), .second, .val (.long q3), .second, .val (.long q4), .second, .val (.int p5), .val (.long (1 : Int64)), .second, .val (.ref a), .val (.ref b)] [(.long q0)])) _
      refine XS.lloadN X63.here hx rfl (hb hby at_122) rfl ?_
      show Steps p.tables e below (T63.setTop (mkF m 123 #[.val (.long q0), .second, .val (.long q1), .second, .val (.long q2), .second, .val (.long q3), .second, .val (.long q4), .second, .val (.int p5), .val (.long (1 : Int64)), .second, .val (.ref a), .val (.ref b)] [(.long q0), (.long q0)])) _
      refine XS.lcmp X63.here hx rfl (hb hby at_123) rfl ?_
      show Steps p.tables e below (T63.setTop (mkF m 124 #[.val (.long q0), .second, .val (.long q1), .second, .val (.long q2), .second, .val (.long q3), .second, .val (.long q4), .second, .val (.int p5), .val (.long (1 : Int64)), .second, .val (.ref a), .val (.ref b)] [(.int (lcmpW q0 q0))])) _
      refine XS.ifNo X63.here hx rfl (hb hby at_124) rfl ((if0 _ _).trans (teq (own_lc _)).2) ?_
      show Steps p.tables e below (T63.setTop (mkF m 127 #[.val (.long q0), .second, .val (.long q1), .second, .val (.long q2), .second, .val (.long q3), .second, .val (.long q4), .second, .val (.int p5), .val (.long (1 : Int64)), .second, .val (.ref a), .val (.ref b)] [])) _
      refine XS.aload X63.here hx rfl (hb hby at_127) rfl rfl ?_
      show Steps p.tables e below (T63.setTop (mkF m 129 #[.val (.long q0), .second, .val (.long q1), .second, .val (.long q2), .second, .val (.long q3), .second, .val (.long q4), .second, .val (.int p5), .val (.long (1 : Int64)), .second, .val (.ref a), .val (.ref b)] [(.ref b)])) _
      refine XS.iconst X63.here hx rfl (hb hby at_129) ?_
      show Steps p.tables e below (T63.setTop (mkF m 130 #[.val (.long q0), .second, .val (.long q1), .second, .val (.long q2), .second, .val (.long q3), .second, .val (.long q4), .second, .val (.int p5), .val (.long (1 : Int64)), .second, .val (.ref a), .val (.ref b)] [(.int (0 : Int32)), (.ref b)])) _
      refine X63.laload hx (j := (0 : Int32)) (v := (.long q0)) Ar65.1 (State.isArrayOf_alike hZ.alike Ar65.2.1) Ar65.2.2 (inb_of AS65 ⟨by decide, by decide⟩) at71 (g := (mkF m 130 #[.val (.long q0), .second, .val (.long q1), .second, .val (.long q2), .second, .val (.long q3), .second, .val (.long q4), .second, .val (.int p5), .val (.long (1 : Int64)), .second, .val (.ref a), .val (.ref b)] [(.int (0 : Int32)), (.ref b)])) rfl rfl (hb hby at_130) _ ?_
      show Steps p.tables e below (T63.setTop (mkF m 131 #[.val (.long q0), .second, .val (.long q1), .second, .val (.long q2), .second, .val (.long q3), .second, .val (.long q4), .second, .val (.int p5), .val (.long (1 : Int64)), .second, .val (.ref a), .val (.ref b)] [(.long q0)])) _
      refine XS.lloadN X63.here hx rfl (hb hby at_131) rfl ?_
      show Steps p.tables e below (T63.setTop (mkF m 132 #[.val (.long q0), .second, .val (.long q1), .second, .val (.long q2), .second, .val (.long q3), .second, .val (.long q4), .second, .val (.int p5), .val (.long (1 : Int64)), .second, .val (.ref a), .val (.ref b)] [(.long q0), (.long q0)])) _
      refine XS.lcmp X63.here hx rfl (hb hby at_132) rfl ?_
      show Steps p.tables e below (T63.setTop (mkF m 133 #[.val (.long q0), .second, .val (.long q1), .second, .val (.long q2), .second, .val (.long q3), .second, .val (.long q4), .second, .val (.int p5), .val (.long (1 : Int64)), .second, .val (.ref a), .val (.ref b)] [(.int (lcmpW q0 q0))])) _
      refine XS.ifNo X63.here hx rfl (hb hby at_133) rfl ((if0 _ _).trans (teq (own_lc _)).2) ?_
      show Steps p.tables e below (T63.setTop (mkF m 136 #[.val (.long q0), .second, .val (.long q1), .second, .val (.long q2), .second, .val (.long q3), .second, .val (.long q4), .second, .val (.int p5), .val (.long (1 : Int64)), .second, .val (.ref a), .val (.ref b)] [])) _
      refine XS.aload X63.here hx rfl (hb hby at_136) rfl rfl ?_
      show Steps p.tables e below (T63.setTop (mkF m 138 #[.val (.long q0), .second, .val (.long q1), .second, .val (.long q2), .second, .val (.long q3), .second, .val (.long q4), .second, .val (.int p5), .val (.long (1 : Int64)), .second, .val (.ref a), .val (.ref b)] [(.ref b)])) _
      refine XS.iconst X63.here hx rfl (hb hby at_138) ?_
      show Steps p.tables e below (T63.setTop (mkF m 139 #[.val (.long q0), .second, .val (.long q1), .second, .val (.long q2), .second, .val (.long q3), .second, .val (.long q4), .second, .val (.int p5), .val (.long (1 : Int64)), .second, .val (.ref a), .val (.ref b)] [(.int (1 : Int32)), (.ref b)])) _
      refine X63.laload hx (j := (1 : Int32)) (v := (.long q1)) Ar65.1 (State.isArrayOf_alike hZ.alike Ar65.2.1) Ar65.2.2 (inb_of AS65 ⟨by decide, by decide⟩) at72 (g := (mkF m 139 #[.val (.long q0), .second, .val (.long q1), .second, .val (.long q2), .second, .val (.long q3), .second, .val (.long q4), .second, .val (.int p5), .val (.long (1 : Int64)), .second, .val (.ref a), .val (.ref b)] [(.int (1 : Int32)), (.ref b)])) rfl rfl (hb hby at_139) _ ?_
      show Steps p.tables e below (T63.setTop (mkF m 140 #[.val (.long q0), .second, .val (.long q1), .second, .val (.long q2), .second, .val (.long q3), .second, .val (.long q4), .second, .val (.int p5), .val (.long (1 : Int64)), .second, .val (.ref a), .val (.ref b)] [(.long q1)])) _
      refine XS.lloadN X63.here hx rfl (hb hby at_140) rfl ?_
      show Steps p.tables e below (T63.setTop (mkF m 141 #[.val (.long q0), .second, .val (.long q1), .second, .val (.long q2), .second, .val (.long q3), .second, .val (.long q4), .second, .val (.int p5), .val (.long (1 : Int64)), .second, .val (.ref a), .val (.ref b)] [(.long q1), (.long q1)])) _
      refine XS.lcmp X63.here hx rfl (hb hby at_141) rfl ?_
      show Steps p.tables e below (T63.setTop (mkF m 142 #[.val (.long q0), .second, .val (.long q1), .second, .val (.long q2), .second, .val (.long q3), .second, .val (.long q4), .second, .val (.int p5), .val (.long (1 : Int64)), .second, .val (.ref a), .val (.ref b)] [(.int (lcmpW q1 q1))])) _
      refine XS.ifNo X63.here hx rfl (hb hby at_142) rfl ((if0 _ _).trans (teq (own_lc _)).2) ?_
      show Steps p.tables e below (T63.setTop (mkF m 145 #[.val (.long q0), .second, .val (.long q1), .second, .val (.long q2), .second, .val (.long q3), .second, .val (.long q4), .second, .val (.int p5), .val (.long (1 : Int64)), .second, .val (.ref a), .val (.ref b)] [])) _
      refine XS.aload X63.here hx rfl (hb hby at_145) rfl rfl ?_
      show Steps p.tables e below (T63.setTop (mkF m 147 #[.val (.long q0), .second, .val (.long q1), .second, .val (.long q2), .second, .val (.long q3), .second, .val (.long q4), .second, .val (.int p5), .val (.long (1 : Int64)), .second, .val (.ref a), .val (.ref b)] [(.ref b)])) _
      refine XS.iconst X63.here hx rfl (hb hby at_147) ?_
      show Steps p.tables e below (T63.setTop (mkF m 148 #[.val (.long q0), .second, .val (.long q1), .second, .val (.long q2), .second, .val (.long q3), .second, .val (.long q4), .second, .val (.int p5), .val (.long (1 : Int64)), .second, .val (.ref a), .val (.ref b)] [(.int (2 : Int32)), (.ref b)])) _
      refine X63.laload hx (j := (2 : Int32)) (v := (.long q2)) Ar65.1 (State.isArrayOf_alike hZ.alike Ar65.2.1) Ar65.2.2 (inb_of AS65 ⟨by decide, by decide⟩) at73 (g := (mkF m 148 #[.val (.long q0), .second, .val (.long q1), .second, .val (.long q2), .second, .val (.long q3), .second, .val (.long q4), .second, .val (.int p5), .val (.long (1 : Int64)), .second, .val (.ref a), .val (.ref b)] [(.int (2 : Int32)), (.ref b)])) rfl rfl (hb hby at_148) _ ?_
      show Steps p.tables e below (T63.setTop (mkF m 149 #[.val (.long q0), .second, .val (.long q1), .second, .val (.long q2), .second, .val (.long q3), .second, .val (.long q4), .second, .val (.int p5), .val (.long (1 : Int64)), .second, .val (.ref a), .val (.ref b)] [(.long q2)])) _
      refine XS.lload X63.here hx rfl (hb hby at_149) rfl ?_
      show Steps p.tables e below (T63.setTop (mkF m 151 #[.val (.long q0), .second, .val (.long q1), .second, .val (.long q2), .second, .val (.long q3), .second, .val (.long q4), .second, .val (.int p5), .val (.long (1 : Int64)), .second, .val (.ref a), .val (.ref b)] [(.long q2), (.long q2)])) _
      refine XS.lcmp X63.here hx rfl (hb hby at_151) rfl ?_
      show Steps p.tables e below (T63.setTop (mkF m 152 #[.val (.long q0), .second, .val (.long q1), .second, .val (.long q2), .second, .val (.long q3), .second, .val (.long q4), .second, .val (.int p5), .val (.long (1 : Int64)), .second, .val (.ref a), .val (.ref b)] [(.int (lcmpW q2 q2))])) _
      refine XS.ifNo X63.here hx rfl (hb hby at_152) rfl ((if0 _ _).trans (teq (own_lc _)).2) ?_
      show Steps p.tables e below (T63.setTop (mkF m 155 #[.val (.long q0), .second, .val (.long q1), .second, .val (.long q2), .second, .val (.long q3), .second, .val (.long q4), .second, .val (.int p5), .val (.long (1 : Int64)), .second, .val (.ref a), .val (.ref b)] [])) _
      refine XS.aload X63.here hx rfl (hb hby at_155) rfl rfl ?_
      show Steps p.tables e below (T63.setTop (mkF m 157 #[.val (.long q0), .second, .val (.long q1), .second, .val (.long q2), .second, .val (.long q3), .second, .val (.long q4), .second, .val (.int p5), .val (.long (1 : Int64)), .second, .val (.ref a), .val (.ref b)] [(.ref b)])) _
      refine XS.iconst X63.here hx rfl (hb hby at_157) ?_
      show Steps p.tables e below (T63.setTop (mkF m 158 #[.val (.long q0), .second, .val (.long q1), .second, .val (.long q2), .second, .val (.long q3), .second, .val (.long q4), .second, .val (.int p5), .val (.long (1 : Int64)), .second, .val (.ref a), .val (.ref b)] [(.int (3 : Int32)), (.ref b)])) _
      refine X63.laload hx (j := (3 : Int32)) (v := (.long q3)) Ar65.1 (State.isArrayOf_alike hZ.alike Ar65.2.1) Ar65.2.2 (inb_of AS65 ⟨by decide, by decide⟩) at74 (g := (mkF m 158 #[.val (.long q0), .second, .val (.long q1), .second, .val (.long q2), .second, .val (.long q3), .second, .val (.long q4), .second, .val (.int p5), .val (.long (1 : Int64)), .second, .val (.ref a), .val (.ref b)] [(.int (3 : Int32)), (.ref b)])) rfl rfl (hb hby at_158) _ ?_
      show Steps p.tables e below (T63.setTop (mkF m 159 #[.val (.long q0), .second, .val (.long q1), .second, .val (.long q2), .second, .val (.long q3), .second, .val (.long q4), .second, .val (.int p5), .val (.long (1 : Int64)), .second, .val (.ref a), .val (.ref b)] [(.long q3)])) _
      refine XS.lload X63.here hx rfl (hb hby at_159) rfl ?_
      show Steps p.tables e below (T63.setTop (mkF m 161 #[.val (.long q0), .second, .val (.long q1), .second, .val (.long q2), .second, .val (.long q3), .second, .val (.long q4), .second, .val (.int p5), .val (.long (1 : Int64)), .second, .val (.ref a), .val (.ref b)] [(.long q3), (.long q3)])) _
      refine XS.lcmp X63.here hx rfl (hb hby at_161) rfl ?_
      show Steps p.tables e below (T63.setTop (mkF m 162 #[.val (.long q0), .second, .val (.long q1), .second, .val (.long q2), .second, .val (.long q3), .second, .val (.long q4), .second, .val (.int p5), .val (.long (1 : Int64)), .second, .val (.ref a), .val (.ref b)] [(.int (lcmpW q3 q3))])) _
      refine XS.ifNo X63.here hx rfl (hb hby at_162) rfl ((if0 _ _).trans (teq (own_lc _)).2) ?_
      show Steps p.tables e below (T63.setTop (mkF m 165 #[.val (.long q0), .second, .val (.long q1), .second, .val (.long q2), .second, .val (.long q3), .second, .val (.long q4), .second, .val (.int p5), .val (.long (1 : Int64)), .second, .val (.ref a), .val (.ref b)] [])) _
      refine XS.aload X63.here hx rfl (hb hby at_165) rfl rfl ?_
      show Steps p.tables e below (T63.setTop (mkF m 167 #[.val (.long q0), .second, .val (.long q1), .second, .val (.long q2), .second, .val (.long q3), .second, .val (.long q4), .second, .val (.int p5), .val (.long (1 : Int64)), .second, .val (.ref a), .val (.ref b)] [(.ref b)])) _
      refine XS.iconst X63.here hx rfl (hb hby at_167) ?_
      show Steps p.tables e below (T63.setTop (mkF m 168 #[.val (.long q0), .second, .val (.long q1), .second, .val (.long q2), .second, .val (.long q3), .second, .val (.long q4), .second, .val (.int p5), .val (.long (1 : Int64)), .second, .val (.ref a), .val (.ref b)] [(.int (4 : Int32)), (.ref b)])) _
      refine X63.laload hx (j := (4 : Int32)) (v := (.long q4)) Ar65.1 (State.isArrayOf_alike hZ.alike Ar65.2.1) Ar65.2.2 (inb_of AS65 ⟨by decide, by decide⟩) at75 (g := (mkF m 168 #[.val (.long q0), .second, .val (.long q1), .second, .val (.long q2), .second, .val (.long q3), .second, .val (.long q4), .second, .val (.int p5), .val (.long (1 : Int64)), .second, .val (.ref a), .val (.ref b)] [(.int (4 : Int32)), (.ref b)])) rfl rfl (hb hby at_168) _ ?_
      show Steps p.tables e below (T63.setTop (mkF m 169 #[.val (.long q0), .second, .val (.long q1), .second, .val (.long q2), .second, .val (.long q3), .second, .val (.long q4), .second, .val (.int p5), .val (.long (1 : Int64)), .second, .val (.ref a), .val (.ref b)] [(.long q4)])) _
      refine XS.lload X63.here hx rfl (hb hby at_169) rfl ?_
      show Steps p.tables e below (T63.setTop (mkF m 171 #[.val (.long q0), .second, .val (.long q1), .second, .val (.long q2), .second, .val (.long q3), .second, .val (.long q4), .second, .val (.int p5), .val (.long (1 : Int64)), .second, .val (.ref a), .val (.ref b)] [(.long q4), (.long q4)])) _
      refine XS.lcmp X63.here hx rfl (hb hby at_171) rfl ?_
      show Steps p.tables e below (T63.setTop (mkF m 172 #[.val (.long q0), .second, .val (.long q1), .second, .val (.long q2), .second, .val (.long q3), .second, .val (.long q4), .second, .val (.int p5), .val (.long (1 : Int64)), .second, .val (.ref a), .val (.ref b)] [(.int (lcmpW q4 q4))])) _
      refine XS.ifNo X63.here hx rfl (hb hby at_172) rfl ((if0 _ _).trans (teq (own_lc _)).2) ?_
      show Steps p.tables e below (T63.setTop (mkF m 175 #[.val (.long q0), .second, .val (.long q1), .second, .val (.long q2), .second, .val (.long q3), .second, .val (.long q4), .second, .val (.int p5), .val (.long (1 : Int64)), .second, .val (.ref a), .val (.ref b)] [])) _
      refine XS.iconst X63.here hx rfl (hb hby at_175) ?_
      show Steps p.tables e below (T63.setTop (mkF m 176 #[.val (.long q0), .second, .val (.long q1), .second, .val (.long q2), .second, .val (.long q3), .second, .val (.long q4), .second, .val (.int p5), .val (.long (1 : Int64)), .second, .val (.ref a), .val (.ref b)] [(.int (1 : Int32))])) _
      refine XS.goto X63.here hx rfl (pc0 := 176) (pc' := 180) rfl (hb hby at_176) (by decide) (by decide) ?_
      exact k
    obtain ⟨fs, hr, hrun, hended, hW, hsame⟩ := X63.leave (v := some (.int (1 : Int32))) (fun h => by rw [Bd.returns] at h; cases h)
    refine ⟨_, _, ?_, hrun, hended, _, _, rfl, ?_, ⟨_, rfl⟩, hW, hsame.mono (by decide) (by decide)⟩
    · show Steps p.tables e below (T63.setTop (mkF m 180 #[.val (.long q0), .second, .val (.long q1), .second, .val (.long q2), .second, .val (.long q3), .second, .val (.long q4), .second, .val (.int p5), .val (.long (1 : Int64)), .second, .val (.ref a), .val (.ref b)] [(.int (1 : Int32))])) _
      exact retN X63 hx (t := .boolean) Bd.returns (by simp) (hb hby at_180) hr
    · show Q0 Z q0 q1 q2 q3 q4 p5 h0 n0 _ T63.heap _
      exact ⟨rfl, N63⟩
  · have hs' : sw = (0 : Int64) := own_not1 hsw (fun q => hs ((lw_eq _ _).mpr q))
    subst hs'
    have VA' : Arv Z T63.heap a k41 .long (5 : Int32) [(.long q0), (.long q1), (.long q2), (.long q3), (.long q4)] (.long (0 : Int64)) := by
      have q := VA
      simp only [own_s0] at q
      exact q
    have VB' : Arv Z T63.heap b k52 .long (5 : Int32) [(.long q1), (.long q2), (.long q3), (.long q4), (.long q0)] (.long (0 : Int64)) := by
      have q := VB
      simp only [own_s0] at q
      exact q
    obtain ⟨cl76, Ar76, Aq76, AS76, AN76, AH76, AG76⟩ := id VA'
    obtain ⟨cl77, Ar77, Aq77, AS77, AN77, AH77, AG77⟩ := id VB'
    have at78 : cl76.slots[(0 : Int32).toNatClampNeg]? = some (.long q0) := AH76 0 (by rw [AS76]; decide)
    have at79 : cl76.slots[(1 : Int32).toNatClampNeg]? = some (.long q1) := AH76 1 (by rw [AS76]; decide)
    have at80 : cl76.slots[(2 : Int32).toNatClampNeg]? = some (.long q2) := AH76 2 (by rw [AS76]; decide)
    have at81 : cl76.slots[(3 : Int32).toNatClampNeg]? = some (.long q3) := AH76 3 (by rw [AS76]; decide)
    have at82 : cl76.slots[(4 : Int32).toNatClampNeg]? = some (.long q4) := AH76 4 (by rw [AS76]; decide)
    have at83 : cl77.slots[(0 : Int32).toNatClampNeg]? = some (.long q1) := AH77 0 (by rw [AS77]; decide)
    have at84 : cl77.slots[(1 : Int32).toNatClampNeg]? = some (.long q2) := AH77 1 (by rw [AS77]; decide)
    have at85 : cl77.slots[(2 : Int32).toNatClampNeg]? = some (.long q3) := AH77 2 (by rw [AS77]; decide)
    have at86 : cl77.slots[(3 : Int32).toNatClampNeg]? = some (.long q4) := AH77 3 (by rw [AS77]; decide)
    have at87 : cl77.slots[(4 : Int32).toNatClampNeg]? = some (.long q0) := AH77 4 (by rw [AS77]; decide)
    refine own_adv (B := (T63.setTop (mkF m 282 #[.val (.long q0), .second, .val (.long q1), .second, .val (.long q2), .second, .val (.long q3), .second, .val (.long q4), .second, .val (.int p5), .val (.long (0 : Int64)), .second, .val (.ref a), .val (.ref b)] [(.int (1 : Int32))]))) (fun t k => ?_) ?_
    · show Steps p.tables e below (T63.setTop (mkF m 76 #[.val (.long q0), .second, .val (.long q1), .second, .val (.long q2), .second, .val (.long q3), .second, .val (.long q4), .second, .val (.int p5), .val (.long (0 : Int64)), .second, .val (.ref a), .val (.ref b)] [(.int (lcmpW (0 : Int64) (1 : Int64)))])) _
      refine XS.ifYes X63.here hx rfl (pc0 := 76) (pc' := 181) rfl (hb hby at_76) rfl ((if0 _ _).trans (feq hs).2) (by decide) (by decide) ?_
      show Steps p.tables e below (T63.setTop (mkF m 181 #[.val (.long q0), .second, .val (.long q1), .second, .val (.long q2), .second, .val (.long q3), .second, .val (.long q4), .second, .val (.int p5), .val (.long (0 : Int64)), .second, .val (.ref a), .val (.ref b)] [])) _
      refine XS.aload X63.here hx rfl (hb hby at_181) rfl rfl ?_
      show Steps p.tables e below (T63.setTop (mkF m 183 #[.val (.long q0), .second, .val (.long q1), .second, .val (.long q2), .second, .val (.long q3), .second, .val (.long q4), .second, .val (.int p5), .val (.long (0 : Int64)), .second, .val (.ref a), .val (.ref b)] [(.ref a)])) _
      refine XS.iconst X63.here hx rfl (hb hby at_183) ?_
      show Steps p.tables e below (T63.setTop (mkF m 184 #[.val (.long q0), .second, .val (.long q1), .second, .val (.long q2), .second, .val (.long q3), .second, .val (.long q4), .second, .val (.int p5), .val (.long (0 : Int64)), .second, .val (.ref a), .val (.ref b)] [(.int (0 : Int32)), (.ref a)])) _
      refine X63.laload hx (j := (0 : Int32)) (v := (.long q0)) Ar76.1 (State.isArrayOf_alike hZ.alike Ar76.2.1) Ar76.2.2 (inb_of AS76 ⟨by decide, by decide⟩) at78 (g := (mkF m 184 #[.val (.long q0), .second, .val (.long q1), .second, .val (.long q2), .second, .val (.long q3), .second, .val (.long q4), .second, .val (.int p5), .val (.long (0 : Int64)), .second, .val (.ref a), .val (.ref b)] [(.int (0 : Int32)), (.ref a)])) rfl rfl (hb hby at_184) _ ?_
      show Steps p.tables e below (T63.setTop (mkF m 185 #[.val (.long q0), .second, .val (.long q1), .second, .val (.long q2), .second, .val (.long q3), .second, .val (.long q4), .second, .val (.int p5), .val (.long (0 : Int64)), .second, .val (.ref a), .val (.ref b)] [(.long q0)])) _
      refine XS.lloadN X63.here hx rfl (hb hby at_185) rfl ?_
      show Steps p.tables e below (T63.setTop (mkF m 186 #[.val (.long q0), .second, .val (.long q1), .second, .val (.long q2), .second, .val (.long q3), .second, .val (.long q4), .second, .val (.int p5), .val (.long (0 : Int64)), .second, .val (.ref a), .val (.ref b)] [(.long q0), (.long q0)])) _
      refine XS.lcmp X63.here hx rfl (hb hby at_186) rfl ?_
      show Steps p.tables e below (T63.setTop (mkF m 187 #[.val (.long q0), .second, .val (.long q1), .second, .val (.long q2), .second, .val (.long q3), .second, .val (.long q4), .second, .val (.int p5), .val (.long (0 : Int64)), .second, .val (.ref a), .val (.ref b)] [(.int (lcmpW q0 q0))])) _
      refine XS.ifNo X63.here hx rfl (hb hby at_187) rfl ((if0 _ _).trans (teq (own_lc _)).2) ?_
      show Steps p.tables e below (T63.setTop (mkF m 190 #[.val (.long q0), .second, .val (.long q1), .second, .val (.long q2), .second, .val (.long q3), .second, .val (.long q4), .second, .val (.int p5), .val (.long (0 : Int64)), .second, .val (.ref a), .val (.ref b)] [])) _
      refine XS.aload X63.here hx rfl (hb hby at_190) rfl rfl ?_
      show Steps p.tables e below (T63.setTop (mkF m 192 #[.val (.long q0), .second, .val (.long q1), .second, .val (.long q2), .second, .val (.long q3), .second, .val (.long q4), .second, .val (.int p5), .val (.long (0 : Int64)), .second, .val (.ref a), .val (.ref b)] [(.ref a)])) _
      refine XS.iconst X63.here hx rfl (hb hby at_192) ?_
      show Steps p.tables e below (T63.setTop (mkF m 193 #[.val (.long q0), .second, .val (.long q1), .second, .val (.long q2), .second, .val (.long q3), .second, .val (.long q4), .second, .val (.int p5), .val (.long (0 : Int64)), .second, .val (.ref a), .val (.ref b)] [(.int (1 : Int32)), (.ref a)])) _
      refine X63.laload hx (j := (1 : Int32)) (v := (.long q1)) Ar76.1 (State.isArrayOf_alike hZ.alike Ar76.2.1) Ar76.2.2 (inb_of AS76 ⟨by decide, by decide⟩) at79 (g := (mkF m 193 #[.val (.long q0), .second, .val (.long q1), .second, .val (.long q2), .second, .val (.long q3), .second, .val (.long q4), .second, .val (.int p5), .val (.long (0 : Int64)), .second, .val (.ref a), .val (.ref b)] [(.int (1 : Int32)), (.ref a)])) rfl rfl (hb hby at_193) _ ?_
      show Steps p.tables e below (T63.setTop (mkF m 194 #[.val (.long q0), .second, .val (.long q1), .second, .val (.long q2), .second, .val (.long q3), .second, .val (.long q4), .second, .val (.int p5), .val (.long (0 : Int64)), .second, .val (.ref a), .val (.ref b)] [(.long q1)])) _
      refine XS.lloadN X63.here hx rfl (hb hby at_194) rfl ?_
      show Steps p.tables e below (T63.setTop (mkF m 195 #[.val (.long q0), .second, .val (.long q1), .second, .val (.long q2), .second, .val (.long q3), .second, .val (.long q4), .second, .val (.int p5), .val (.long (0 : Int64)), .second, .val (.ref a), .val (.ref b)] [(.long q1), (.long q1)])) _
      refine XS.lcmp X63.here hx rfl (hb hby at_195) rfl ?_
      show Steps p.tables e below (T63.setTop (mkF m 196 #[.val (.long q0), .second, .val (.long q1), .second, .val (.long q2), .second, .val (.long q3), .second, .val (.long q4), .second, .val (.int p5), .val (.long (0 : Int64)), .second, .val (.ref a), .val (.ref b)] [(.int (lcmpW q1 q1))])) _
      refine XS.ifNo X63.here hx rfl (hb hby at_196) rfl ((if0 _ _).trans (teq (own_lc _)).2) ?_
      show Steps p.tables e below (T63.setTop (mkF m 199 #[.val (.long q0), .second, .val (.long q1), .second, .val (.long q2), .second, .val (.long q3), .second, .val (.long q4), .second, .val (.int p5), .val (.long (0 : Int64)), .second, .val (.ref a), .val (.ref b)] [])) _
      refine XS.aload X63.here hx rfl (hb hby at_199) rfl rfl ?_
      show Steps p.tables e below (T63.setTop (mkF m 201 #[.val (.long q0), .second, .val (.long q1), .second, .val (.long q2), .second, .val (.long q3), .second, .val (.long q4), .second, .val (.int p5), .val (.long (0 : Int64)), .second, .val (.ref a), .val (.ref b)] [(.ref a)])) _
      refine XS.iconst X63.here hx rfl (hb hby at_201) ?_
      show Steps p.tables e below (T63.setTop (mkF m 202 #[.val (.long q0), .second, .val (.long q1), .second, .val (.long q2), .second, .val (.long q3), .second, .val (.long q4), .second, .val (.int p5), .val (.long (0 : Int64)), .second, .val (.ref a), .val (.ref b)] [(.int (2 : Int32)), (.ref a)])) _
      refine X63.laload hx (j := (2 : Int32)) (v := (.long q2)) Ar76.1 (State.isArrayOf_alike hZ.alike Ar76.2.1) Ar76.2.2 (inb_of AS76 ⟨by decide, by decide⟩) at80 (g := (mkF m 202 #[.val (.long q0), .second, .val (.long q1), .second, .val (.long q2), .second, .val (.long q3), .second, .val (.long q4), .second, .val (.int p5), .val (.long (0 : Int64)), .second, .val (.ref a), .val (.ref b)] [(.int (2 : Int32)), (.ref a)])) rfl rfl (hb hby at_202) _ ?_
      show Steps p.tables e below (T63.setTop (mkF m 203 #[.val (.long q0), .second, .val (.long q1), .second, .val (.long q2), .second, .val (.long q3), .second, .val (.long q4), .second, .val (.int p5), .val (.long (0 : Int64)), .second, .val (.ref a), .val (.ref b)] [(.long q2)])) _
      refine XS.lload X63.here hx rfl (hb hby at_203) rfl ?_
      show Steps p.tables e below (T63.setTop (mkF m 205 #[.val (.long q0), .second, .val (.long q1), .second, .val (.long q2), .second, .val (.long q3), .second, .val (.long q4), .second, .val (.int p5), .val (.long (0 : Int64)), .second, .val (.ref a), .val (.ref b)] [(.long q2), (.long q2)])) _
      refine XS.lcmp X63.here hx rfl (hb hby at_205) rfl ?_
      show Steps p.tables e below (T63.setTop (mkF m 206 #[.val (.long q0), .second, .val (.long q1), .second, .val (.long q2), .second, .val (.long q3), .second, .val (.long q4), .second, .val (.int p5), .val (.long (0 : Int64)), .second, .val (.ref a), .val (.ref b)] [(.int (lcmpW q2 q2))])) _
      refine XS.ifNo X63.here hx rfl (hb hby at_206) rfl ((if0 _ _).trans (teq (own_lc _)).2) ?_
      show Steps p.tables e below (T63.setTop (mkF m 209 #[.val (.long q0), .second, .val (.long q1), .second, .val (.long q2), .second, .val (.long q3), .second, .val (.long q4), .second, .val (.int p5), .val (.long (0 : Int64)), .second, .val (.ref a), .val (.ref b)] [])) _
      refine XS.aload X63.here hx rfl (hb hby at_209) rfl rfl ?_
      show Steps p.tables e below (T63.setTop (mkF m 211 #[.val (.long q0), .second, .val (.long q1), .second, .val (.long q2), .second, .val (.long q3), .second, .val (.long q4), .second, .val (.int p5), .val (.long (0 : Int64)), .second, .val (.ref a), .val (.ref b)] [(.ref a)])) _
      refine XS.iconst X63.here hx rfl (hb hby at_211) ?_
      show Steps p.tables e below (T63.setTop (mkF m 212 #[.val (.long q0), .second, .val (.long q1), .second, .val (.long q2), .second, .val (.long q3), .second, .val (.long q4), .second, .val (.int p5), .val (.long (0 : Int64)), .second, .val (.ref a), .val (.ref b)] [(.int (3 : Int32)), (.ref a)])) _
      refine X63.laload hx (j := (3 : Int32)) (v := (.long q3)) Ar76.1 (State.isArrayOf_alike hZ.alike Ar76.2.1) Ar76.2.2 (inb_of AS76 ⟨by decide, by decide⟩) at81 (g := (mkF m 212 #[.val (.long q0), .second, .val (.long q1), .second, .val (.long q2), .second, .val (.long q3), .second, .val (.long q4), .second, .val (.int p5), .val (.long (0 : Int64)), .second, .val (.ref a), .val (.ref b)] [(.int (3 : Int32)), (.ref a)])) rfl rfl (hb hby at_212) _ ?_
      show Steps p.tables e below (T63.setTop (mkF m 213 #[.val (.long q0), .second, .val (.long q1), .second, .val (.long q2), .second, .val (.long q3), .second, .val (.long q4), .second, .val (.int p5), .val (.long (0 : Int64)), .second, .val (.ref a), .val (.ref b)] [(.long q3)])) _
      refine XS.lload X63.here hx rfl (hb hby at_213) rfl ?_
      show Steps p.tables e below (T63.setTop (mkF m 215 #[.val (.long q0), .second, .val (.long q1), .second, .val (.long q2), .second, .val (.long q3), .second, .val (.long q4), .second, .val (.int p5), .val (.long (0 : Int64)), .second, .val (.ref a), .val (.ref b)] [(.long q3), (.long q3)])) _
      refine XS.lcmp X63.here hx rfl (hb hby at_215) rfl ?_
      show Steps p.tables e below (T63.setTop (mkF m 216 #[.val (.long q0), .second, .val (.long q1), .second, .val (.long q2), .second, .val (.long q3), .second, .val (.long q4), .second, .val (.int p5), .val (.long (0 : Int64)), .second, .val (.ref a), .val (.ref b)] [(.int (lcmpW q3 q3))])) _
      refine XS.ifNo X63.here hx rfl (hb hby at_216) rfl ((if0 _ _).trans (teq (own_lc _)).2) ?_
      show Steps p.tables e below (T63.setTop (mkF m 219 #[.val (.long q0), .second, .val (.long q1), .second, .val (.long q2), .second, .val (.long q3), .second, .val (.long q4), .second, .val (.int p5), .val (.long (0 : Int64)), .second, .val (.ref a), .val (.ref b)] [])) _
      refine XS.aload X63.here hx rfl (hb hby at_219) rfl rfl ?_
      show Steps p.tables e below (T63.setTop (mkF m 221 #[.val (.long q0), .second, .val (.long q1), .second, .val (.long q2), .second, .val (.long q3), .second, .val (.long q4), .second, .val (.int p5), .val (.long (0 : Int64)), .second, .val (.ref a), .val (.ref b)] [(.ref a)])) _
      refine XS.iconst X63.here hx rfl (hb hby at_221) ?_
      show Steps p.tables e below (T63.setTop (mkF m 222 #[.val (.long q0), .second, .val (.long q1), .second, .val (.long q2), .second, .val (.long q3), .second, .val (.long q4), .second, .val (.int p5), .val (.long (0 : Int64)), .second, .val (.ref a), .val (.ref b)] [(.int (4 : Int32)), (.ref a)])) _
      refine X63.laload hx (j := (4 : Int32)) (v := (.long q4)) Ar76.1 (State.isArrayOf_alike hZ.alike Ar76.2.1) Ar76.2.2 (inb_of AS76 ⟨by decide, by decide⟩) at82 (g := (mkF m 222 #[.val (.long q0), .second, .val (.long q1), .second, .val (.long q2), .second, .val (.long q3), .second, .val (.long q4), .second, .val (.int p5), .val (.long (0 : Int64)), .second, .val (.ref a), .val (.ref b)] [(.int (4 : Int32)), (.ref a)])) rfl rfl (hb hby at_222) _ ?_
      show Steps p.tables e below (T63.setTop (mkF m 223 #[.val (.long q0), .second, .val (.long q1), .second, .val (.long q2), .second, .val (.long q3), .second, .val (.long q4), .second, .val (.int p5), .val (.long (0 : Int64)), .second, .val (.ref a), .val (.ref b)] [(.long q4)])) _
      refine XS.lload X63.here hx rfl (hb hby at_223) rfl ?_
      show Steps p.tables e below (T63.setTop (mkF m 225 #[.val (.long q0), .second, .val (.long q1), .second, .val (.long q2), .second, .val (.long q3), .second, .val (.long q4), .second, .val (.int p5), .val (.long (0 : Int64)), .second, .val (.ref a), .val (.ref b)] [(.long q4), (.long q4)])) _
      refine XS.lcmp X63.here hx rfl (hb hby at_225) rfl ?_
      show Steps p.tables e below (T63.setTop (mkF m 226 #[.val (.long q0), .second, .val (.long q1), .second, .val (.long q2), .second, .val (.long q3), .second, .val (.long q4), .second, .val (.int p5), .val (.long (0 : Int64)), .second, .val (.ref a), .val (.ref b)] [(.int (lcmpW q4 q4))])) _
      refine XS.ifNo X63.here hx rfl (hb hby at_226) rfl ((if0 _ _).trans (teq (own_lc _)).2) ?_
      show Steps p.tables e below (T63.setTop (mkF m 229 #[.val (.long q0), .second, .val (.long q1), .second, .val (.long q2), .second, .val (.long q3), .second, .val (.long q4), .second, .val (.int p5), .val (.long (0 : Int64)), .second, .val (.ref a), .val (.ref b)] [])) _
      refine XS.aload X63.here hx rfl (hb hby at_229) rfl rfl ?_
      show Steps p.tables e below (T63.setTop (mkF m 231 #[.val (.long q0), .second, .val (.long q1), .second, .val (.long q2), .second, .val (.long q3), .second, .val (.long q4), .second, .val (.int p5), .val (.long (0 : Int64)), .second, .val (.ref a), .val (.ref b)] [(.ref b)])) _
      refine XS.iconst X63.here hx rfl (hb hby at_231) ?_
      show Steps p.tables e below (T63.setTop (mkF m 232 #[.val (.long q0), .second, .val (.long q1), .second, .val (.long q2), .second, .val (.long q3), .second, .val (.long q4), .second, .val (.int p5), .val (.long (0 : Int64)), .second, .val (.ref a), .val (.ref b)] [(.int (0 : Int32)), (.ref b)])) _
      refine X63.laload hx (j := (0 : Int32)) (v := (.long q1)) Ar77.1 (State.isArrayOf_alike hZ.alike Ar77.2.1) Ar77.2.2 (inb_of AS77 ⟨by decide, by decide⟩) at83 (g := (mkF m 232 #[.val (.long q0), .second, .val (.long q1), .second, .val (.long q2), .second, .val (.long q3), .second, .val (.long q4), .second, .val (.int p5), .val (.long (0 : Int64)), .second, .val (.ref a), .val (.ref b)] [(.int (0 : Int32)), (.ref b)])) rfl rfl (hb hby at_232) _ ?_
      show Steps p.tables e below (T63.setTop (mkF m 233 #[.val (.long q0), .second, .val (.long q1), .second, .val (.long q2), .second, .val (.long q3), .second, .val (.long q4), .second, .val (.int p5), .val (.long (0 : Int64)), .second, .val (.ref a), .val (.ref b)] [(.long q1)])) _
      refine XS.lloadN X63.here hx rfl (hb hby at_233) rfl ?_
      show Steps p.tables e below (T63.setTop (mkF m 234 #[.val (.long q0), .second, .val (.long q1), .second, .val (.long q2), .second, .val (.long q3), .second, .val (.long q4), .second, .val (.int p5), .val (.long (0 : Int64)), .second, .val (.ref a), .val (.ref b)] [(.long q1), (.long q1)])) _
      refine XS.lcmp X63.here hx rfl (hb hby at_234) rfl ?_
      show Steps p.tables e below (T63.setTop (mkF m 235 #[.val (.long q0), .second, .val (.long q1), .second, .val (.long q2), .second, .val (.long q3), .second, .val (.long q4), .second, .val (.int p5), .val (.long (0 : Int64)), .second, .val (.ref a), .val (.ref b)] [(.int (lcmpW q1 q1))])) _
      refine XS.ifNo X63.here hx rfl (hb hby at_235) rfl ((if0 _ _).trans (teq (own_lc _)).2) ?_
      show Steps p.tables e below (T63.setTop (mkF m 238 #[.val (.long q0), .second, .val (.long q1), .second, .val (.long q2), .second, .val (.long q3), .second, .val (.long q4), .second, .val (.int p5), .val (.long (0 : Int64)), .second, .val (.ref a), .val (.ref b)] [])) _
      refine XS.aload X63.here hx rfl (hb hby at_238) rfl rfl ?_
      show Steps p.tables e below (T63.setTop (mkF m 240 #[.val (.long q0), .second, .val (.long q1), .second, .val (.long q2), .second, .val (.long q3), .second, .val (.long q4), .second, .val (.int p5), .val (.long (0 : Int64)), .second, .val (.ref a), .val (.ref b)] [(.ref b)])) _
      refine XS.iconst X63.here hx rfl (hb hby at_240) ?_
      show Steps p.tables e below (T63.setTop (mkF m 241 #[.val (.long q0), .second, .val (.long q1), .second, .val (.long q2), .second, .val (.long q3), .second, .val (.long q4), .second, .val (.int p5), .val (.long (0 : Int64)), .second, .val (.ref a), .val (.ref b)] [(.int (1 : Int32)), (.ref b)])) _
      refine X63.laload hx (j := (1 : Int32)) (v := (.long q2)) Ar77.1 (State.isArrayOf_alike hZ.alike Ar77.2.1) Ar77.2.2 (inb_of AS77 ⟨by decide, by decide⟩) at84 (g := (mkF m 241 #[.val (.long q0), .second, .val (.long q1), .second, .val (.long q2), .second, .val (.long q3), .second, .val (.long q4), .second, .val (.int p5), .val (.long (0 : Int64)), .second, .val (.ref a), .val (.ref b)] [(.int (1 : Int32)), (.ref b)])) rfl rfl (hb hby at_241) _ ?_
      show Steps p.tables e below (T63.setTop (mkF m 242 #[.val (.long q0), .second, .val (.long q1), .second, .val (.long q2), .second, .val (.long q3), .second, .val (.long q4), .second, .val (.int p5), .val (.long (0 : Int64)), .second, .val (.ref a), .val (.ref b)] [(.long q2)])) _
      refine XS.lload X63.here hx rfl (hb hby at_242) rfl ?_
      show Steps p.tables e below (T63.setTop (mkF m 244 #[.val (.long q0), .second, .val (.long q1), .second, .val (.long q2), .second, .val (.long q3), .second, .val (.long q4), .second, .val (.int p5), .val (.long (0 : Int64)), .second, .val (.ref a), .val (.ref b)] [(.long q2), (.long q2)])) _
      refine XS.lcmp X63.here hx rfl (hb hby at_244) rfl ?_
      show Steps p.tables e below (T63.setTop (mkF m 245 #[.val (.long q0), .second, .val (.long q1), .second, .val (.long q2), .second, .val (.long q3), .second, .val (.long q4), .second, .val (.int p5), .val (.long (0 : Int64)), .second, .val (.ref a), .val (.ref b)] [(.int (lcmpW q2 q2))])) _
      refine XS.ifNo X63.here hx rfl (hb hby at_245) rfl ((if0 _ _).trans (teq (own_lc _)).2) ?_
      show Steps p.tables e below (T63.setTop (mkF m 248 #[.val (.long q0), .second, .val (.long q1), .second, .val (.long q2), .second, .val (.long q3), .second, .val (.long q4), .second, .val (.int p5), .val (.long (0 : Int64)), .second, .val (.ref a), .val (.ref b)] [])) _
      refine XS.aload X63.here hx rfl (hb hby at_248) rfl rfl ?_
      show Steps p.tables e below (T63.setTop (mkF m 250 #[.val (.long q0), .second, .val (.long q1), .second, .val (.long q2), .second, .val (.long q3), .second, .val (.long q4), .second, .val (.int p5), .val (.long (0 : Int64)), .second, .val (.ref a), .val (.ref b)] [(.ref b)])) _
      refine XS.iconst X63.here hx rfl (hb hby at_250) ?_
      show Steps p.tables e below (T63.setTop (mkF m 251 #[.val (.long q0), .second, .val (.long q1), .second, .val (.long q2), .second, .val (.long q3), .second, .val (.long q4), .second, .val (.int p5), .val (.long (0 : Int64)), .second, .val (.ref a), .val (.ref b)] [(.int (2 : Int32)), (.ref b)])) _
      refine X63.laload hx (j := (2 : Int32)) (v := (.long q3)) Ar77.1 (State.isArrayOf_alike hZ.alike Ar77.2.1) Ar77.2.2 (inb_of AS77 ⟨by decide, by decide⟩) at85 (g := (mkF m 251 #[.val (.long q0), .second, .val (.long q1), .second, .val (.long q2), .second, .val (.long q3), .second, .val (.long q4), .second, .val (.int p5), .val (.long (0 : Int64)), .second, .val (.ref a), .val (.ref b)] [(.int (2 : Int32)), (.ref b)])) rfl rfl (hb hby at_251) _ ?_
      show Steps p.tables e below (T63.setTop (mkF m 252 #[.val (.long q0), .second, .val (.long q1), .second, .val (.long q2), .second, .val (.long q3), .second, .val (.long q4), .second, .val (.int p5), .val (.long (0 : Int64)), .second, .val (.ref a), .val (.ref b)] [(.long q3)])) _
      refine XS.lload X63.here hx rfl (hb hby at_252) rfl ?_
      show Steps p.tables e below (T63.setTop (mkF m 254 #[.val (.long q0), .second, .val (.long q1), .second, .val (.long q2), .second, .val (.long q3), .second, .val (.long q4), .second, .val (.int p5), .val (.long (0 : Int64)), .second, .val (.ref a), .val (.ref b)] [(.long q3), (.long q3)])) _
      refine XS.lcmp X63.here hx rfl (hb hby at_254) rfl ?_
      show Steps p.tables e below (T63.setTop (mkF m 255 #[.val (.long q0), .second, .val (.long q1), .second, .val (.long q2), .second, .val (.long q3), .second, .val (.long q4), .second, .val (.int p5), .val (.long (0 : Int64)), .second, .val (.ref a), .val (.ref b)] [(.int (lcmpW q3 q3))])) _
      refine XS.ifNo X63.here hx rfl (hb hby at_255) rfl ((if0 _ _).trans (teq (own_lc _)).2) ?_
      show Steps p.tables e below (T63.setTop (mkF m 258 #[.val (.long q0), .second, .val (.long q1), .second, .val (.long q2), .second, .val (.long q3), .second, .val (.long q4), .second, .val (.int p5), .val (.long (0 : Int64)), .second, .val (.ref a), .val (.ref b)] [])) _
      refine XS.aload X63.here hx rfl (hb hby at_258) rfl rfl ?_
      show Steps p.tables e below (T63.setTop (mkF m 260 #[.val (.long q0), .second, .val (.long q1), .second, .val (.long q2), .second, .val (.long q3), .second, .val (.long q4), .second, .val (.int p5), .val (.long (0 : Int64)), .second, .val (.ref a), .val (.ref b)] [(.ref b)])) _
      refine XS.iconst X63.here hx rfl (hb hby at_260) ?_
      show Steps p.tables e below (T63.setTop (mkF m 261 #[.val (.long q0), .second, .val (.long q1), .second, .val (.long q2), .second, .val (.long q3), .second, .val (.long q4), .second, .val (.int p5), .val (.long (0 : Int64)), .second, .val (.ref a), .val (.ref b)] [(.int (3 : Int32)), (.ref b)])) _
      refine X63.laload hx (j := (3 : Int32)) (v := (.long q4)) Ar77.1 (State.isArrayOf_alike hZ.alike Ar77.2.1) Ar77.2.2 (inb_of AS77 ⟨by decide, by decide⟩) at86 (g := (mkF m 261 #[.val (.long q0), .second, .val (.long q1), .second, .val (.long q2), .second, .val (.long q3), .second, .val (.long q4), .second, .val (.int p5), .val (.long (0 : Int64)), .second, .val (.ref a), .val (.ref b)] [(.int (3 : Int32)), (.ref b)])) rfl rfl (hb hby at_261) _ ?_
      show Steps p.tables e below (T63.setTop (mkF m 262 #[.val (.long q0), .second, .val (.long q1), .second, .val (.long q2), .second, .val (.long q3), .second, .val (.long q4), .second, .val (.int p5), .val (.long (0 : Int64)), .second, .val (.ref a), .val (.ref b)] [(.long q4)])) _
      refine XS.lload X63.here hx rfl (hb hby at_262) rfl ?_
      show Steps p.tables e below (T63.setTop (mkF m 264 #[.val (.long q0), .second, .val (.long q1), .second, .val (.long q2), .second, .val (.long q3), .second, .val (.long q4), .second, .val (.int p5), .val (.long (0 : Int64)), .second, .val (.ref a), .val (.ref b)] [(.long q4), (.long q4)])) _
      refine XS.lcmp X63.here hx rfl (hb hby at_264) rfl ?_
      show Steps p.tables e below (T63.setTop (mkF m 265 #[.val (.long q0), .second, .val (.long q1), .second, .val (.long q2), .second, .val (.long q3), .second, .val (.long q4), .second, .val (.int p5), .val (.long (0 : Int64)), .second, .val (.ref a), .val (.ref b)] [(.int (lcmpW q4 q4))])) _
      refine XS.ifNo X63.here hx rfl (hb hby at_265) rfl ((if0 _ _).trans (teq (own_lc _)).2) ?_
      show Steps p.tables e below (T63.setTop (mkF m 268 #[.val (.long q0), .second, .val (.long q1), .second, .val (.long q2), .second, .val (.long q3), .second, .val (.long q4), .second, .val (.int p5), .val (.long (0 : Int64)), .second, .val (.ref a), .val (.ref b)] [])) _
      refine XS.aload X63.here hx rfl (hb hby at_268) rfl rfl ?_
      show Steps p.tables e below (T63.setTop (mkF m 270 #[.val (.long q0), .second, .val (.long q1), .second, .val (.long q2), .second, .val (.long q3), .second, .val (.long q4), .second, .val (.int p5), .val (.long (0 : Int64)), .second, .val (.ref a), .val (.ref b)] [(.ref b)])) _
      refine XS.iconst X63.here hx rfl (hb hby at_270) ?_
      show Steps p.tables e below (T63.setTop (mkF m 271 #[.val (.long q0), .second, .val (.long q1), .second, .val (.long q2), .second, .val (.long q3), .second, .val (.long q4), .second, .val (.int p5), .val (.long (0 : Int64)), .second, .val (.ref a), .val (.ref b)] [(.int (4 : Int32)), (.ref b)])) _
      refine X63.laload hx (j := (4 : Int32)) (v := (.long q0)) Ar77.1 (State.isArrayOf_alike hZ.alike Ar77.2.1) Ar77.2.2 (inb_of AS77 ⟨by decide, by decide⟩) at87 (g := (mkF m 271 #[.val (.long q0), .second, .val (.long q1), .second, .val (.long q2), .second, .val (.long q3), .second, .val (.long q4), .second, .val (.int p5), .val (.long (0 : Int64)), .second, .val (.ref a), .val (.ref b)] [(.int (4 : Int32)), (.ref b)])) rfl rfl (hb hby at_271) _ ?_
      show Steps p.tables e below (T63.setTop (mkF m 272 #[.val (.long q0), .second, .val (.long q1), .second, .val (.long q2), .second, .val (.long q3), .second, .val (.long q4), .second, .val (.int p5), .val (.long (0 : Int64)), .second, .val (.ref a), .val (.ref b)] [(.long q0)])) _
      refine XS.lloadN X63.here hx rfl (hb hby at_272) rfl ?_
      show Steps p.tables e below (T63.setTop (mkF m 273 #[.val (.long q0), .second, .val (.long q1), .second, .val (.long q2), .second, .val (.long q3), .second, .val (.long q4), .second, .val (.int p5), .val (.long (0 : Int64)), .second, .val (.ref a), .val (.ref b)] [(.long q0), (.long q0)])) _
      refine XS.lcmp X63.here hx rfl (hb hby at_273) rfl ?_
      show Steps p.tables e below (T63.setTop (mkF m 274 #[.val (.long q0), .second, .val (.long q1), .second, .val (.long q2), .second, .val (.long q3), .second, .val (.long q4), .second, .val (.int p5), .val (.long (0 : Int64)), .second, .val (.ref a), .val (.ref b)] [(.int (lcmpW q0 q0))])) _
      refine XS.ifNo X63.here hx rfl (hb hby at_274) rfl ((if0 _ _).trans (teq (own_lc _)).2) ?_
      show Steps p.tables e below (T63.setTop (mkF m 277 #[.val (.long q0), .second, .val (.long q1), .second, .val (.long q2), .second, .val (.long q3), .second, .val (.long q4), .second, .val (.int p5), .val (.long (0 : Int64)), .second, .val (.ref a), .val (.ref b)] [])) _
      refine XS.iconst X63.here hx rfl (hb hby at_277) ?_
      show Steps p.tables e below (T63.setTop (mkF m 278 #[.val (.long q0), .second, .val (.long q1), .second, .val (.long q2), .second, .val (.long q3), .second, .val (.long q4), .second, .val (.int p5), .val (.long (0 : Int64)), .second, .val (.ref a), .val (.ref b)] [(.int (1 : Int32))])) _
      refine XS.goto X63.here hx rfl (pc0 := 278) (pc' := 282) rfl (hb hby at_278) (by decide) (by decide) ?_
      exact k
    obtain ⟨fs, hr, hrun, hended, hW, hsame⟩ := X63.leave (v := some (.int (1 : Int32))) (fun h => by rw [Bd.returns] at h; cases h)
    refine ⟨_, _, ?_, hrun, hended, _, _, rfl, ?_, ⟨_, rfl⟩, hW, hsame.mono (by decide) (by decide)⟩
    · show Steps p.tables e below (T63.setTop (mkF m 282 #[.val (.long q0), .second, .val (.long q1), .second, .val (.long q2), .second, .val (.long q3), .second, .val (.long q4), .second, .val (.int p5), .val (.long (0 : Int64)), .second, .val (.ref a), .val (.ref b)] [(.int (1 : Int32))])) _
      exact retN X63 hx (t := .boolean) Bd.returns (by simp) (hb hby at_282) hr
    · show Q0 Z q0 q1 q2 q3 q4 p5 h0 n0 _ T63.heap _
      exact ⟨rfl, N63⟩
set_option maxRecDepth 65536 in
set_option maxHeartbeats 40000000 in
theorem comes_1 {Post : Tables → Env → Array Value → State → Outcome → State → Prop} (hpost : ∀ tb e args s v u, (limb_1_1.after args s (.returned v) u = true ∧ limb_1_2.after args s (.returned v) u = true ∧ True) → FrameEnd s (.returned v) u (Jvm.fieldLocs frame_1_writes args s ++ Jvm.arrayLocs frame_1_arrays args s ++ Jvm.staticLocs frame_1_statics s) 16 128 → Post tb e args s (.returned v) u) :
    ArmFor flags0 classFile x code maxLocals ret World_1 tables_1 room_1 Calls_1 rest_1 Pre_1 Post := by
  intro l hfl _ _ p e ha hc hk s m args below hf hA hF happ hP
  obtain ⟨hcalls, hrest, hpre⟩ := hP
  obtain ⟨-, -, -, hnamed, -, -, -, hat⟩ := (Spec.applies_iff hf).mp happ
  obtain ⟨hg, hn⟩ := and_e (Cond.before_iff.mp (show (Jvm.Cond.and given_1 narrow_1).before args s = true from hpre))
  obtain ⟨gc, gr0⟩ := and_e hg
  obtain ⟨ga0, gr1⟩ := and_e gr0
  obtain ⟨ga1, gr2⟩ := and_e gr1
  obtain ⟨ga2, gr3⟩ := and_e gr2
  obtain ⟨ga3, gr4⟩ := and_e gr3
  obtain ⟨ga4, gr5⟩ := and_e gr4
  obtain ⟨w0, w1, w2, w3, w4, w5, rfl⟩ : ∃ w0 w1 w2 w3 w4 w5 : Value, args = #[w0, w1, w2, w3, w4, w5] := by
    have hs : args.size = 6 := by simpa [Cond.value, given_1] using gc
    obtain ⟨L⟩ := args
    match L, hs with
    | [w0, w1, w2, w3, w4, w5], _ => exact ⟨w0, w1, w2, w3, w4, w5, rfl⟩
  have hw := fun d (hd : d ∈ tables_1) => atoms_spec (ws := Jvm.Cond.code x code maxLocals ret :: tables_1) hat d (List.mem_cons_of_mem _ hd)
  obtain ⟨i0, ei0⟩ := isL_v ga0
  obtain rfl : w0 = (.long i0) := Option.some.inj ei0
  obtain ⟨i1, ei1⟩ := isL_v ga1
  obtain rfl : w1 = (.long i1) := Option.some.inj ei1
  obtain ⟨i2, ei2⟩ := isL_v ga2
  obtain rfl : w2 = (.long i2) := Option.some.inj ei2
  obtain ⟨i3, ei3⟩ := isL_v ga3
  obtain rfl : w3 = (.long i3) := Option.some.inj ei3
  obtain ⟨i4, ei4⟩ := isL_v ga4
  obtain rfl : w4 = (.long i4) := Option.some.inj ei4
  obtain ⟨i5, ei5⟩ := is_v gr5
  obtain rfl : w5 = (.int i5) := Option.some.inj ei5
  obtain ⟨n, o, h1, h2, h3, _, L, rfl, ⟨rfl, N⟩, hq⟩ := rm0 l s _ hw tables_1 i0 i1 i2 i3 i4 i5 s.heap s.heap.size (Nat.le_refl _) p e ha hc hk s m _ below hf ((Spec.applies_iff_loose hf).mp happ).1 ⟨rfl, State.Warmed39.refl s, rfl⟩ trivial
  refine ⟨n, _, h1, h2, h3, hpost _ _ _ _ _ _ ⟨Cond.after_iff.mpr rfl, Cond.after_iff.mpr (eq_i res_at (Term.int_eval (1)) rfl), trivial⟩ ⟨hq.1, hq.2.1, (hq.2.2.sift fun y hy => Or.inr (N y hy)).mono (by decide) (by decide)⟩⟩
theorem main_1_1 : Claimed_1_1 := comes_1 fun _ _ _ _ _ _ h hF => ⟨h.1, hF⟩
theorem main_1_2 : Claimed_1_2 := comes_1 fun _ _ _ _ _ _ h hF => ⟨h.2.1, hF⟩
end Jvm.Pilot.@@N@@
namespace Jvm.Pilot.@@N@@
open Jvm Jvm.ClassFile Sem Op Lib Jvm.Free Jvm.Stand Jvm.Pilot.@@N@@.Jvm.D
/-! MADE BY PROGRAM (witnessworld.py) out of the Statement's table words and the real class files: 11 classes; the members and pool entries that the words name. The judged class is class 1, her method 1. -/
namespace start1
open Jvm.ClassFile
def u (s : String) : CpInfo := .utf8 (stringToUtf16 s)
/-- a pool by its gaps: so many unusable entries, then the entry; so many at the end -/
def gap : Nat → List CpInfo → List CpInfo
  | 0, r => r
  | n + 1, r => .unusable :: gap n r
def poolList (es : List (Nat × CpInfo)) (last : Nat) : List CpInfo := es.foldr (fun e r => gap e.1 (e.2 :: r)) (gap last [])
def pool (es : List (Nat × CpInfo)) (last : Nat) : Array CpInfo := ⟨poolList es last⟩
def fileOf (pool : Array CpInfo) (this : Nat) (attrs : Array Attribute := #[]) (ms : Array MethodInfo := #[]) (fl : Nat := 33) (sup : Nat := 0) (ifs : Array Nat := #[]) (fds : Array FieldInfo := #[]) : ClassFile where
  minorVersion := 0
  majorVersion := 65
  constantPool := pool
  accessFlags := fl
  thisClass := this
  superClass := sup
  interfaces := ifs
  fields := fds
  methods := ms
  attributes := attrs
def plain (name : String) (sup : Option ClassId) : Class where
  name := name
  kind := .ordinary
  loader := none
  accessFlags := 33
  super := sup
  interfaces := #[]
  cf := none
  fields := #[]
  methods := #[]
  instanceTypes := #[]
  staticTypes := #[]
  resolved := #[]
  callSites := []
  init := .initialized
  statics := none
  mirror := none

def pool0 : Array CpInfo := pool [(5, u "<init>"), (0, u "()V"), (1, .class_ 10), (1, u "java/lang/Object")] 113

def k0m0 : Method := { name := "<init>", desc := "()V", sig := { parameters := [], returnType := none }, accessFlags := 1, code := none }
/-- java/lang/Object -/
def k0 : Class := { plain "java/lang/Object" none with
  accessFlags := 33
  interfaces := #[]
  cf := some (fileOf pool0 8 #[] #[{ accessFlags := 1, nameIndex := 5, descriptorIndex := 6, attributes := #[] }] 33 0 #[] #[])
  fields := #[]
  methods := #[k0m0]
  instanceTypes := #[]
  staticTypes := #[]
  resolved := Array.replicate 124 none
  statics := none }

def pool1 : Array CpInfo := pool [(2, .class_ 4), (1, u "java/lang/Object"), (0, u "<init>"), (0, u "()V"), (0, .methodref 8 9), (0, .class_ 10), (0, .nameAndType 11 12), (0, u "com/example/meyrin/meyrin/crypto/Field25519"), (0, u "conditionalSwap"), (0, u "([J[JJ)V"), (0, .class_ 14), (0, u "com/example/meyrin/meyrin/crypto/Field25519ConditionalSwapPinLaw"), (2, u "law"), (0, u "(JJJJJI)Z")] 5

def k1m0 : Method := { name := "<init>", desc := "()V", sig := { parameters := [], returnType := none }, accessFlags := 1, code := none }
def k1c1 : Code := { maxStack := 5, maxLocals := 15, code := code, exceptionTable := #[], attributes := #[] }
def k1m1 : Method := { name := "law", desc := "(JJJJJI)Z", sig := { parameters := [.long, .long, .long, .long, .long, .int], returnType := some .boolean }, accessFlags := 9, code := some k1c1 }
/-- com/example/meyrin/meyrin/crypto/Field25519ConditionalSwapPinLaw -/
def k1 : Class := { plain "com/example/meyrin/meyrin/crypto/Field25519ConditionalSwapPinLaw" (some 0) with
  accessFlags := 49
  interfaces := #[]
  cf := some (fileOf pool1 13 #[] #[{ accessFlags := 1, nameIndex := 5, descriptorIndex := 6, attributes := #[] }, { accessFlags := 9, nameIndex := 17, descriptorIndex := 18, attributes := #[] }] 49 2 #[] #[])
  fields := #[]
  methods := #[k1m0, k1m1]
  instanceTypes := #[]
  staticTypes := #[]
  resolved := Array.replicate 24 none
  statics := none }

def pool2 : Array CpInfo := pool [(2, .class_ 4), (1, u "java/lang/Object"), (0, u "<init>"), (0, u "()V"), (0, .class_ 8), (0, u "com/example/meyrin/meyrin/crypto/Field25519"), (2, u "LITTLE_ENDIAN"), (0, u "Ljava/lang/invoke/VarHandle;"), (36, .class_ 50), (0, u "com/example/meyrin/meyrin/crypto/Field25519$Column"), (31, u "J"), (17, u "LIMBS"), (0, u "I"), (2, u "ENCODED_LENGTH"), (1, u "MASK"), (11, u "([J[JJ)V"), (1, u "conditionalSwap")] 7

def k2m0 : Method := { name := "<init>", desc := "()V", sig := { parameters := [], returnType := none }, accessFlags := 2, code := none }
def k2c1 : Code := { maxStack := 6, maxLocals := 9, code := prog_19_method_15_code, exceptionTable := #[], attributes := #[] }
def k2m1 : Method := { name := "conditionalSwap", desc := "([J[JJ)V", sig := { parameters := [(.array .long), (.array .long), .long], returnType := none }, accessFlags := 8, code := some k2c1 }
/-- com/example/meyrin/meyrin/crypto/Field25519 -/
def k2 : Class := { plain "com/example/meyrin/meyrin/crypto/Field25519" (some 0) with
  accessFlags := 48
  interfaces := #[]
  cf := some (fileOf pool2 7 #[.nestMembers #[49]] #[{ accessFlags := 2, nameIndex := 5, descriptorIndex := 6, attributes := #[] }, { accessFlags := 8, nameIndex := 120, descriptorIndex := 118, attributes := #[] }] 48 2 #[] #[{ accessFlags := 24, nameIndex := 100, descriptorIndex := 101, attributes := #[] }, { accessFlags := 24, nameIndex := 104, descriptorIndex := 101, attributes := #[] }, { accessFlags := 26, nameIndex := 106, descriptorIndex := 82, attributes := #[] }, { accessFlags := 26, nameIndex := 11, descriptorIndex := 12, attributes := #[] }])
  fields := #[{ name := "LIMBS", type := .int, accessFlags := 24, slot := 0, constantValue := 0 }, { name := "ENCODED_LENGTH", type := .int, accessFlags := 24, slot := 1, constantValue := 0 }, { name := "MASK", type := .long, accessFlags := 26, slot := 2, constantValue := 0 }, { name := "LITTLE_ENDIAN", type := (.object "java/lang/invoke/VarHandle"), accessFlags := 26, slot := 3, constantValue := 0 }]
  methods := #[k2m0, k2m1]
  instanceTypes := #[]
  staticTypes := #[.int, .int, .long, (.object "java/lang/invoke/VarHandle")]
  resolved := Array.replicate 128 none
  statics := none }

def pool3 : Array CpInfo := pool [(1, u "java/lang/Cloneable"), (0, .class_ 1), (0, u "java/lang/Object"), (0, .class_ 3)] 3

/-- java/lang/Cloneable -/
def k3 : Class := { plain "java/lang/Cloneable" (some 0) with
  accessFlags := 1537
  interfaces := #[]
  cf := some (fileOf pool3 2 #[] #[] 1537 4 #[] #[])
  fields := #[]
  methods := #[]
  instanceTypes := #[]
  staticTypes := #[]
  resolved := Array.replicate 8 none
  statics := none }

def pool4 : Array CpInfo := pool [(1, u "java/io/Serializable"), (0, .class_ 1), (0, u "java/lang/Object"), (0, .class_ 3)] 3

/-- java/io/Serializable -/
def k4 : Class := { plain "java/io/Serializable" (some 0) with
  accessFlags := 1537
  interfaces := #[]
  cf := some (fileOf pool4 2 #[] #[] 1537 4 #[] #[])
  fields := #[]
  methods := #[]
  instanceTypes := #[]
  staticTypes := #[]
  resolved := Array.replicate 8 none
  statics := none }

/-- the primitive byte -/
def k5 : Class := { plain "byte" none with kind := .primitive 'B', accessFlags := 0x411 }
/-- [B -/
def k6 : Class := { plain "[B" (some 0) with kind := .array 5 .byte, interfaces := #[3, 4], accessFlags := 1041 }

/-- the primitive int -/
def k7 : Class := { plain "int" none with kind := .primitive 'I', accessFlags := 0x411 }
/-- [I -/
def k8 : Class := { plain "[I" (some 0) with kind := .array 7 .int, interfaces := #[3, 4], accessFlags := 1041 }

/-- the primitive long -/
def k9 : Class := { plain "long" none with kind := .primitive 'J', accessFlags := 0x411 }
/-- [J -/
def k10 : Class := { plain "[J" (some 0) with kind := .array 9 .long, interfaces := #[3, 4], accessFlags := 1041 }

def heap : Heap := #[]
def classes : Array Class := #[k0, k1, k2, k3, k4, k5, k6, k7, k8, k9, k10]
def interned : List (Array UInt16 × Addr) := []
def slotsUsed : Nat := 0
def theMethod : MethodId := ⟨1, 1⟩
def args0 : Array Value := #[.long 5, .long 7, .long 3, .long 4, .long 9, .int 1]
def aboutOver (below : List Frame) : State where
  vm := { classes := classes, interned := interned.toArray }
  heap := heap
  slotsUsed := slotsUsed
  threads := #[{ frames := .invoking theMethod args0 :: below }]
def below0 : List Frame := [.native { method := ⟨0, 0⟩, args := #[] }]
def about1 : State := aboutOver below0
def p0 : Program := .bare "" "" ""
def e0 : Env := launch0.env 0 0 0
theorem w_frames : about1.frames = Frame.invoking theMethod args0 :: below0 := rfl
set_option maxRecDepth 65536 in
theorem w_args : argsFit about1.vm theMethod args0 = true := by decide +kernel
set_option maxRecDepth 65536 in
theorem w_heap : heapFits about1 = true := by decide +kernel
set_option maxRecDepth 65536 in
theorem w_runnable : about1.curStatus? = some .runnable := by decide +kernel
set_option maxRecDepth 65536 in
theorem w_alone : about1.alone = true := by decide +kernel
set_option maxRecDepth 65536 in
theorem w_named : about1.methodNamed? x = some theMethod := by decide +kernel
set_option maxRecDepth 65536 in
theorem w_hears : about1.hears theMethod below0 = true := by decide +kernel
set_option maxRecDepth 65536 in
theorem w_ripe : about1.ripe theMethod args0 below0 = true := by decide +kernel
theorem w_running : about1.status = .running := rfl
set_option maxRecDepth 65536 in
theorem w_room : about1.hasRoom e0.platform room_1 = true :=
  launch0.hasRoom_least _ room_1 (by decide +kernel) (by decide +kernel) (by decide +kernel) (by decide +kernel) (by decide +kernel) (by decide +kernel)
theorem allAtoms_all (ts : List Jvm.Cond) (a : Array Jvm.Value) (st : Jvm.State) : (allAtoms ts).before a st = ts.all (fun c => c.before a st) := by
  induction ts with
  | nil => rfl
  | cons c t ih =>
    show (Jvm.Cond.and c (allAtoms t)).before a st = _
    rw [Jvm.Cond.before_and, ih, List.all_cons]
def words1 : List Jvm.Cond := Jvm.Cond.code x code maxLocals ret :: tables_1
/-- a 'code' word, met by the world's own term for the bytes: nothing is compared byte by byte -/
theorem code_word {y : MethodName} {bytes : ByteArray} {mx : Nat} {rt : Option FieldType} {a : Array Value} {s : State} {m : MethodId} {meth : Method} {c : Code} (h1 : s.methodNamed? y = some m) (h2 : s.vm.method? m = some meth) (h3 : meth.code = some c) (h4 : c.code = bytes)
    (h5 : (c.maxLocals == mx && c.exceptionTable.isEmpty && decide (c.maxStack ≤ mostOperands) && decide (meth.sig.returnType = rt) && !meth.locks && decide (parseMethodDescriptor y.desc = some meth.sig)) = true) : (Jvm.Cond.code y bytes mx rt).before a s = true := by
  simp only [Bool.and_eq_true, beq_iff_eq, Bool.not_eq_true', decide_eq_true_eq] at h5
  obtain ⟨⟨⟨⟨⟨g1, g2⟩, g3⟩, g4⟩, g5⟩, g6⟩ := h5
  simp [Cond.before, Cond.holds, Cond.value, h1, h2, h3, h4, g1, g2, g3, g4, g5, g6]
def isCode : Jvm.Cond → Bool
  | .code _ _ _ _ => true
  | _ => false
theorem all_split {L : List Jvm.Cond} {P : Jvm.Cond → Bool} (h1 : L.all (fun c => isCode c || P c) = true) (h2 : ∀ c ∈ L.filter isCode, P c = true) : L.all P = true := by
  refine List.all_eq_true.mpr fun c hc => ?_
  have h := List.all_eq_true.mp h1 c hc
  rcases Bool.eq_false_or_eq_true (isCode c) with hi | hi
  · exact h2 c (List.mem_filter.mpr ⟨hc, hi⟩)
  · simpa [hi] using h
set_option maxRecDepth 65536 in
theorem w_c0 : (Jvm.Cond.code x code maxLocals ret).before args0 about1 = true := code_word (m := ⟨1, 1⟩) (meth := k1m1) (c := k1c1) (by decide +kernel) rfl rfl rfl (by decide +kernel)
set_option maxRecDepth 65536 in
theorem w_c1 : (Jvm.Cond.code ({ cls := "com/example/meyrin/meyrin/crypto/Field25519", name := "conditionalSwap", desc := "([J[JJ)V" } : Jvm.MethodName) prog_19_method_15_code (9 : Nat) (Option.none : Option Jvm.ClassFile.FieldType)).before args0 about1 = true := code_word (m := ⟨2, 1⟩) (meth := k2m1) (c := k2c1) (by decide +kernel) rfl rfl rfl (by decide +kernel)
def codes1 : List Jvm.Cond := [Jvm.Cond.code x code maxLocals ret, Jvm.Cond.code ({ cls := "com/example/meyrin/meyrin/crypto/Field25519", name := "conditionalSwap", desc := "([J[JJ)V" } : Jvm.MethodName) prog_19_method_15_code (9 : Nat) (Option.none : Option Jvm.ClassFile.FieldType)]
set_option maxRecDepth 65536 in
theorem codes_eq : words1.filter isCode = codes1 := rfl
theorem w_codes : ∀ c ∈ words1.filter isCode, c.before args0 about1 = true := by
  rw [codes_eq]
  intro c hc
  simp only [codes1, List.mem_cons, List.not_mem_nil, or_false] at hc
  rcases hc with rfl | rfl
  · exact w_c0
  · exact w_c1
set_option maxRecDepth 65536 in
theorem w_t1 : words1.all (fun c => isCode c || c.before args0 about1) = true := by decide +kernel
theorem w_tables : (allAtoms (Jvm.Cond.code x code maxLocals ret :: tables_1)).before args0 about1 = true := by
  rw [allAtoms_all]
  show words1.all (fun c => c.before args0 about1) = true
  refine all_split ?_ w_codes
  rw [w_t1]
set_option maxRecDepth 65536 in
theorem w_case : (Jvm.Cond.and given_1 narrow_1).before args0 about1 = true := by decide +kernel
theorem w_applies : (headSpec (Jvm.Cond.code x code maxLocals ret :: tables_1) room_1).applies x e0.platform about1 = true :=
  (Spec.applies_iff w_frames).mpr ⟨w_running, w_runnable, w_alone, w_named, w_hears, w_ripe, w_room, w_tables⟩
theorem atStart : AtStart classFile x code maxLocals ret World_1 tables_1 room_1 Calls_1 rest_1 Pre_1 launch0 p0 e0 about1 theMethod args0 below0 :=
  ⟨lists_1, trivial, launch0.admits_env _ _ _, launch0.least_env, fairChoices_fair.cas, fairChoices_fair.clock, w_frames, w_args, w_heap, w_applies, trivial, trivial, w_case⟩
end start1
theorem witness_1 : WitnessClaimed_1 := ⟨start1.p0, start1.e0, start1.about1, start1.theMethod, start1.args0, start1.below0, start1.atStart⟩
end Jvm.Pilot.@@N@@
