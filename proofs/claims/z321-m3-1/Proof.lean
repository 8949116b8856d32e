import JvmDerived
import JvmDerived.Pilot.@@N@@Statement
import JvmDerived.Pilot.@@N@@Code
set_option linter.unusedVariables false
set_option linter.unusedSimpArgs false
@@BLOCK:NumsL.lean.txt@@
namespace Jvm.RoadKit
open Sem ClassFile Op Lib Jvm.Stand Jvm.Free Jvm.LawKit
section New
variable {p : Program} {l : Launch} {e : Env} {R : Room} {s : State} {m : MethodId} {args : Array Value} {below : List Frame} {meth : Method} {c : Code} {T : State} {locs : List Loc} {cells slots : Nat}
theorem retI (X : Stand p l e R s m args below meth c T locs cells slots) (hx : p.tables.exec = Jvm.exec) {pc : Nat} {Ls : Array Slot} {z : Int32} {rest : List Value} (hret : meth.sig.returnType = some .int) (hd : decode c.code pc = .ok (.ireturn, 1)) {fs : List Frame}
    (hl : ∀ (f : JFrame) (acts : List Action), f.method = m → f.locked = none → f.entered = [] → (doReturn e (T.setTop f) acts (some (.int z))).1 = T.setFrames fs) : Steps p.tables e below (T.setTop (mkF m pc Ls (.int z :: rest))) (T.setFrames fs) := by
  have hm' : T.vm.method? m = some meth := X.method'
  have hn : narrow .int (.int z) = .int z := rfl
  show Steps p.tables e below (T.setTop { method := m, pc := pc, locals := Ls, stack := _ :: rest, locked := none }) _
  jvm_step X.here [X.here.top, hx, hd, hm', hret, hn]
  first | (intro acts; rw [hl _ acts rfl rfl rfl]) | rw [hl _ _ rfl rfl rfl]
  exact Steps.refl _
end New
end Jvm.RoadKit
namespace Jvm.Pilot.@@N@@
open Jvm Jvm.ClassFile Sem Op Lib Jvm.Free Jvm.Stand Jvm.LawKit Jvm.RoadKit Bundle Jvm.Pilot.@@N@@.Jvm.D
theorem own_adv {tb : Tables} {e : Env} {below : List Frame} {A B : State} {P : State → Outcome → Prop} (h : ∀ t, Steps tb e below B t → Steps tb e below A t) (g : ∃ t o, Steps tb e below B t ∧ P t o) : ∃ t o, Steps tb e below A t ∧ P t o := by
  obtain ⟨t, o, h1, h2⟩ := g
  exact ⟨t, o, h t h1, h2⟩
def own_g (a b : Int32) : Int32 := if (0 : Int32) < lcmpW (a.toInt64 + (2 : Int64)) b.toInt64 then 1 else 0
theorem own_g_nar (a b : Int32) : nar .boolean (own_g a b) = own_g a b := by
  unfold own_g
  by_cases h1 : (0 : Int32) < lcmpW (a.toInt64 + (2 : Int64)) b.toInt64
  · rw [if_pos h1]; rfl
  · rw [if_neg h1]; rfl
def own_h (a b : Int32) : Int32 := if lcmpW (b.toInt64 - a.toInt64) (2 : Int64) < (0 : Int32) then 1 else 0
def own_k (d : Int32) : Int32 := if d < (2 : Int32) then 1 else 0
theorem own_bm64 {n : Int} (h1 : -2 ^ 63 ≤ n) (h2 : n < 2 ^ 63) : n.bmod (2 ^ 64) = n := by
  rw [Int.bmod_def]; omega
theorem own_add2 (a : Int32) : (a.toInt64 + (2 : Int64)).toInt = a.toInt + 2 := by
  have h1 := a.le_toInt
  have h2 := a.toInt_lt
  rw [Int64.toInt_add, Int32.toInt_toInt64, show (2 : Int64).toInt = 2 from rfl]
  exact own_bm64 (by omega) (by omega)
theorem own_sub (a b : Int32) : (b.toInt64 - a.toInt64).toInt = b.toInt - a.toInt := by
  have h1 := a.le_toInt
  have h2 := a.toInt_lt
  have h3 := b.le_toInt
  have h4 := b.toInt_lt
  rw [Int64.toInt_sub, Int32.toInt_toInt64, Int32.toInt_toInt64]
  exact own_bm64 (by omega) (by omega)
theorem own_gh (a b : Int32) : own_g a b = own_h a b := by
  have e : ((0 : Int32) < lcmpW (a.toInt64 + (2 : Int64)) b.toInt64) ↔ (lcmpW (b.toInt64 - a.toInt64) (2 : Int64) < (0 : Int32)) := by
    rw [lw_gt, lw_lt, Int64.lt_iff_toInt_lt, Int64.lt_iff_toInt_lt, own_add2, own_sub, Int32.toInt_toInt64, show (2 : Int64).toInt = 2 from rfl]
    omega
  by_cases h : (0 : Int32) < lcmpW (a.toInt64 + (2 : Int64)) b.toInt64
  · rw [own_g, own_h, if_pos h, if_pos (e.mp h)]
  · rw [own_g, own_h, if_neg h, if_neg (fun q => h (e.mpr q))]
theorem own_gk (a d : Int32) (hc : ¬ (2147483644 : Int32) < a) : own_g a (a + (d &&& (3 : Int32))) = own_k (d &&& (3 : Int32)) := by
  have e2 : (d &&& (3 : Int32)).toInt = d.toInt % 2 ^ 2 := Jvm.Kit.i32_mask d 3 (k := 2) (by decide) (by decide)
  have hc' : a.toInt ≤ 2147483644 := by
    rw [Int32.lt_iff_toInt_lt, show (2147483644 : Int32).toInt = 2147483644 from rfl] at hc
    omega
  have h1 := a.le_toInt
  have e3 : (a + (d &&& (3 : Int32))).toInt = a.toInt + (d &&& (3 : Int32)).toInt := Jvm.Kit.i32_add (by omega) (by omega)
  have e : ((0 : Int32) < lcmpW (a.toInt64 + (2 : Int64)) (a + (d &&& (3 : Int32))).toInt64) ↔ ((d &&& (3 : Int32)) < (2 : Int32)) := by
    rw [lw_gt, Int64.lt_iff_toInt_lt, own_add2, Int32.toInt_toInt64, Int32.lt_iff_toInt_lt, e3, show (2 : Int32).toInt = 2 from rfl]
    omega
  by_cases h : (0 : Int32) < lcmpW (a.toInt64 + (2 : Int64)) (a + (d &&& (3 : Int32))).toInt64
  · rw [own_g, own_k, if_pos h, if_pos (e.mp h)]
  · rw [own_g, own_k, if_neg h, if_neg (fun q => h (e.mpr q))]
theorem d1_0 : decode prog_207_method_2_code 0 = .ok (.iload_n 0, 1) := by decide +kernel
theorem d1_1 : decode prog_207_method_2_code 1 = .ok (.i2l, 1) := by decide +kernel
theorem d1_2 : decode prog_207_method_2_code 2 = .ok (.ldc2_w 7, 3) := by decide +kernel
theorem d1_5 : decode prog_207_method_2_code 5 = .ok (.ladd, 1) := by decide +kernel
theorem d1_6 : decode prog_207_method_2_code 6 = .ok (.iload_n 1, 1) := by decide +kernel
theorem d1_7 : decode prog_207_method_2_code 7 = .ok (.i2l, 1) := by decide +kernel
theorem d1_8 : decode prog_207_method_2_code 8 = .ok (.lcmp, 1) := by decide +kernel
theorem d1_9 : decode prog_207_method_2_code 9 = .ok (.ifCond .le 7, 3) := by decide +kernel
theorem d1_12 : decode prog_207_method_2_code 12 = .ok (.iconst 1, 1) := by decide +kernel
theorem d1_13 : decode prog_207_method_2_code 13 = .ok (.goto 4, 3) := by decide +kernel
theorem d1_16 : decode prog_207_method_2_code 16 = .ok (.iconst 0, 1) := by decide +kernel
theorem d1_17 : decode prog_207_method_2_code 17 = .ok (.ireturn, 1) := by decide +kernel
theorem pn_1 : plainName "com/example/partenope/partenope/service/HandOverRule" = true := by first | (simp [plainName, overriddenIn]; done) | decide +kernel
theorem pn_0 : plainName "com/example/partenope/partenope/service/HandOverRuleHandsBeforeSplitPinLaw" = true := by first | (simp [plainName, overriddenIn]; done) | decide +kernel
theorem pd_0 : parseMethodDescriptor "(II)Z" = some ⟨[.int, .int], some .boolean⟩ := by decide +kernel
theorem ef_1 (m : MethodId) (x0 : Int32) (x1 : Int32) : entryFrame m #[(.int x0), (.int x1)] 2 = mkF m 0 #[.val (.int x0), .val (.int x1)] [] := by first | (simp [entryFrame, mkF, argsToLocals, Value.category]; done) | rfl
def Q1 (Z : State) (p1 : Int32) (p2 : Int32) (h0 : Heap) (n0 : Nat) (v : Option Value) (h : Heap) (L : List Loc) : Prop := v = some (.int (own_g p1 p2)) ∧ Fr n0 L ∧ h = h0
set_option maxRecDepth 65536 in
set_option maxHeartbeats 40000000 in
theorem rm1 (l : Launch) (Z : State) (a0 : Array Value) (hw : ∀ d ∈ tables_1, d.before a0 Z = true) (ws : List Jvm.Cond) (p1 : Int32) (p2 : Int32) (h0 : Heap) (n0 : Nat) (Z0 : n0 ≤ h0.size) :
    MetFree l (⟨"com/example/partenope/partenope/service/HandOverRule", "handsBeforeSplit", "(II)Z"⟩ : MethodName) (head1 (Jvm.Cond.code (⟨"com/example/partenope/partenope/service/HandOverRule", "handsBeforeSplit", "(II)Z"⟩ : MethodName) prog_207_method_2_code 2 (some .boolean) :: ws) ({ frames := 0, cells := 0, slots := 0, locals := 0 } : Room)) (fun a U => a = #[(.int p1), (.int p2)] ∧ Z.Warmed39 U.vm ∧ U.heap = h0) (fun _ _ _ _ _ => True) (fun _ U o U' => ∃ v L, o = .returned v ∧ Q1 Z p1 p2 h0 n0 v U'.heap L ∧ FrameEnd U o U' L ({ frames := 0, cells := 0, slots := 0, locals := 0 } : Room).cells ({ frames := 0, cells := 0, slots := 0, locals := 0 } : Room).slots) := by
  refine MetFree.of_bodySF (plainFor_of_name pn_1) hisR ?_
  intro p e s m args below meth c s₁ Bd hml0 hP hK
  obtain ⟨rfl, hZ, hh⟩ := hP
  have hx := Bd.exec
  have hby := Bd.bytes
  have hml : c.maxLocals = 2 := hml0
  have hown : s.vm.findClass "com/example/partenope/partenope/service/HandOverRule" = some m.cls := findClass_of_methodNamed Bd.named
  have hnm := (name_of_methodNamed Bd.named Bd.method).1
  have X0 : Stand p l e ({ frames := 0, cells := 0, slots := 0, locals := 0 } : Room) s m #[(.int p1), (.int p2)] below meth c s₁ [] 0 0 := Stand.of_body Bd
  have e0 : s₁.heap = h0 := by rw [← hh, Bd.state]; rfl
  have N0 := Fr.nil n0
  refine own_adv (B := (s₁.setTop (mkF m 0 #[.val (.int p1), .val (.int p2)] []))) (fun t k => castTop (ef_1 m p1 p2) k) ?_
  obtain ⟨v, hv, st1⟩ : ∃ (v : Int32), (v = own_g p1 p2) ∧ ∀ t, Steps p.tables e below (s₁.setTop (mkF m 17 #[.val (.int p1), .val (.int p2)] [(.int v)])) t → Steps p.tables e below (s₁.setTop (mkF m 0 #[.val (.int p1), .val (.int p2)] [])) t := by
    by_cases hb1_9 : (0 : Int32) < (lcmpW ((p1.toInt64) + (2 : Int64)) (p2.toInt64))
    · refine ⟨(1 : Int32), by simp [own_g, hb1_9], fun t k => ?_⟩
      show Steps p.tables e below (s₁.setTop (mkF m 0 #[.val (.int p1), .val (.int p2)] [])) _
      refine XS.iloadN X0.here hx rfl (hb hby d1_0) rfl ?_
      show Steps p.tables e below (s₁.setTop (mkF m 1 #[.val (.int p1), .val (.int p2)] [(.int p1)])) _
      refine XS.i2l X0.here hx rfl (hb hby d1_1) rfl ?_
      show Steps p.tables e below (s₁.setTop (mkF m 2 #[.val (.int p1), .val (.int p2)] [(.long (p1.toInt64))])) _
      refine X0.ldc2Long hx hown (mvT hZ (hw _ (List.mem_of_getElem? (i := 4) rfl))) (g := (mkF m 2 #[.val (.int p1), .val (.int p2)] [(.long (p1.toInt64))])) rfl (hb hby d1_2) _ ?_
      show Steps p.tables e below (s₁.setTop (mkF m 5 #[.val (.int p1), .val (.int p2)] [(.long (2 : Int64)), (.long (p1.toInt64))])) _
      refine XS.ladd X0.here hx rfl (hb hby d1_5) rfl ?_
      show Steps p.tables e below (s₁.setTop (mkF m 6 #[.val (.int p1), .val (.int p2)] [(.long ((p1.toInt64) + (2 : Int64)))])) _
      refine XS.iloadN X0.here hx rfl (hb hby d1_6) rfl ?_
      show Steps p.tables e below (s₁.setTop (mkF m 7 #[.val (.int p1), .val (.int p2)] [(.int p2), (.long ((p1.toInt64) + (2 : Int64)))])) _
      refine XS.i2l X0.here hx rfl (hb hby d1_7) rfl ?_
      show Steps p.tables e below (s₁.setTop (mkF m 8 #[.val (.int p1), .val (.int p2)] [(.long (p2.toInt64)), (.long ((p1.toInt64) + (2 : Int64)))])) _
      refine XS.lcmp X0.here hx rfl (hb hby d1_8) rfl ?_
      show Steps p.tables e below (s₁.setTop (mkF m 9 #[.val (.int p1), .val (.int p2)] [(.int (lcmpW ((p1.toInt64) + (2 : Int64)) (p2.toInt64)))])) _
      refine XS.ifNo X0.here hx rfl (hb hby d1_9) rfl ((if0 _ _).trans (tlt hb1_9).2.2.2) ?_
      show Steps p.tables e below (s₁.setTop (mkF m 12 #[.val (.int p1), .val (.int p2)] [])) _
      refine XS.iconst X0.here hx rfl (hb hby d1_12) ?_
      show Steps p.tables e below (s₁.setTop (mkF m 13 #[.val (.int p1), .val (.int p2)] [(.int (1 : Int32))])) _
      refine XS.goto X0.here hx rfl (pc0 := 13) (pc' := 17) rfl (hb hby d1_13) (by decide) (by decide) ?_
      exact k
    · refine ⟨(0 : Int32), by simp [own_g, hb1_9], fun t k => ?_⟩
      show Steps p.tables e below (s₁.setTop (mkF m 0 #[.val (.int p1), .val (.int p2)] [])) _
      refine XS.iloadN X0.here hx rfl (hb hby d1_0) rfl ?_
      show Steps p.tables e below (s₁.setTop (mkF m 1 #[.val (.int p1), .val (.int p2)] [(.int p1)])) _
      refine XS.i2l X0.here hx rfl (hb hby d1_1) rfl ?_
      show Steps p.tables e below (s₁.setTop (mkF m 2 #[.val (.int p1), .val (.int p2)] [(.long (p1.toInt64))])) _
      refine X0.ldc2Long hx hown (mvT hZ (hw _ (List.mem_of_getElem? (i := 4) rfl))) (g := (mkF m 2 #[.val (.int p1), .val (.int p2)] [(.long (p1.toInt64))])) rfl (hb hby d1_2) _ ?_
      show Steps p.tables e below (s₁.setTop (mkF m 5 #[.val (.int p1), .val (.int p2)] [(.long (2 : Int64)), (.long (p1.toInt64))])) _
      refine XS.ladd X0.here hx rfl (hb hby d1_5) rfl ?_
      show Steps p.tables e below (s₁.setTop (mkF m 6 #[.val (.int p1), .val (.int p2)] [(.long ((p1.toInt64) + (2 : Int64)))])) _
      refine XS.iloadN X0.here hx rfl (hb hby d1_6) rfl ?_
      show Steps p.tables e below (s₁.setTop (mkF m 7 #[.val (.int p1), .val (.int p2)] [(.int p2), (.long ((p1.toInt64) + (2 : Int64)))])) _
      refine XS.i2l X0.here hx rfl (hb hby d1_7) rfl ?_
      show Steps p.tables e below (s₁.setTop (mkF m 8 #[.val (.int p1), .val (.int p2)] [(.long (p2.toInt64)), (.long ((p1.toInt64) + (2 : Int64)))])) _
      refine XS.lcmp X0.here hx rfl (hb hby d1_8) rfl ?_
      show Steps p.tables e below (s₁.setTop (mkF m 9 #[.val (.int p1), .val (.int p2)] [(.int (lcmpW ((p1.toInt64) + (2 : Int64)) (p2.toInt64)))])) _
      refine XS.ifYes X0.here hx rfl (pc0 := 9) (pc' := 16) rfl (hb hby d1_9) rfl ((if0 _ _).trans (flt hb1_9).2.2.2) (by decide) (by decide) ?_
      show Steps p.tables e below (s₁.setTop (mkF m 16 #[.val (.int p1), .val (.int p2)] [])) _
      refine XS.iconst X0.here hx rfl (hb hby d1_16) ?_
      exact k
  refine own_adv st1 ?_
  subst hv
  obtain ⟨fs, hr, hrun, hended, hW, hsame⟩ := X0.leave (v := some (.int (own_g p1 p2))) (fun h => by rw [Bd.returns] at h; cases h)
  refine ⟨_, _, ?_, hrun, hended, _, _, rfl, ?_, ⟨_, rfl⟩, hW, hsame.mono (by decide) (by decide)⟩
  · show Steps p.tables e below (s₁.setTop (mkF m 17 #[.val (.int p1), .val (.int p2)] [(.int (own_g p1 p2))])) _
    exact retN X0 hx (t := .boolean) Bd.returns (by simp) (hb hby d1_17) (by rw [own_g_nar]; exact hr)
  · show Q1 Z p1 p2 h0 n0 _ s₁.heap _
    rw [e0]
    exact ⟨rfl, N0, rfl⟩
theorem ef_0 (m : MethodId) (x0 : Int32) (x1 : Int32) (x2 : Int32) : entryFrame m #[(.int x0), (.int x1), (.int x2)] maxLocals = mkF m 0 #[.val (.int x0), .val (.int x1), .val (.int x2), .unset, .unset, .unset, .unset, .unset] [] := by first | (simp [entryFrame, mkF, argsToLocals, Value.category, maxLocals]; done) | rfl
def Q0 (Z : State) (p1 : Int32) (p2 : Int32) (p3 : Int32) (h0 : Heap) (n0 : Nat) (v : Option Value) (h : Heap) (L : List Loc) : Prop := v = some (.int (1 : Int32)) ∧ Fr n0 L
set_option maxRecDepth 65536 in
set_option maxHeartbeats 40000000 in
theorem rm0 (l : Launch) (Z : State) (a0 : Array Value) (hw : ∀ d ∈ tables_1, d.before a0 Z = true) (ws : List Jvm.Cond) (p1 : Int32) (p2 : Int32) (p3 : Int32) (h0 : Heap) (n0 : Nat) (Z0 : n0 ≤ h0.size) :
    MetFree l x (head1 (Jvm.Cond.code x code maxLocals ret :: ws) room_1) (fun a U => a = #[(.int p1), (.int p2), (.int p3)] ∧ Z.Warmed39 U.vm ∧ U.heap = h0) (fun _ _ _ _ _ => True) (fun _ U o U' => ∃ v L, o = .returned v ∧ Q0 Z p1 p2 p3 h0 n0 v U'.heap L ∧ FrameEnd U o U' L room_1.cells room_1.slots) := by
  refine MetFree.of_bodySF (plainFor_of_name pn_0) hisR ?_
  intro p e s m args below meth c s₁ Bd hml0 hP hK
  obtain ⟨rfl, hZ, hh⟩ := hP
  have hx := Bd.exec
  have hby := Bd.bytes
  have hml : c.maxLocals = 8 := hml0
  have hown : s.vm.findClass "com/example/partenope/partenope/service/HandOverRuleHandsBeforeSplitPinLaw" = some m.cls := findClass_of_methodNamed Bd.named
  have hnm := (name_of_methodNamed Bd.named Bd.method).1
  have X0 : Stand p l e room_1 s m #[(.int p1), (.int p2), (.int p3)] below meth c s₁ [] 0 0 := Stand.of_body Bd
  have e0 : s₁.heap = h0 := by rw [← hh, Bd.state]; rfl
  have N0 := Fr.nil n0
  refine own_adv (B := (s₁.setTop (mkF m 0 #[.val (.int p1), .val (.int p2), .val (.int p3), .unset, .unset, .unset, .unset, .unset] []))) (fun t k => castTop (ef_0 m p1 p2 p3) k) ?_
  refine own_adv (B := (s₁.setTop (mkF m 2 #[.val (.int p1), .val (.int p2), .val (.int p3), .unset, .unset, .unset, .unset, .unset] [(.int p2), (.int p1)]))) (fun t k => ?_) ?_
  · show Steps p.tables e below (s₁.setTop (mkF m 0 #[.val (.int p1), .val (.int p2), .val (.int p3), .unset, .unset, .unset, .unset, .unset] [])) _
    refine XS.iloadN X0.here hx rfl (hb hby at_0) rfl ?_
    show Steps p.tables e below (s₁.setTop (mkF m 1 #[.val (.int p1), .val (.int p2), .val (.int p3), .unset, .unset, .unset, .unset, .unset] [(.int p1)])) _
    refine XS.iloadN X0.here hx rfl (hb hby at_1) rfl ?_
    exact k
  obtain ⟨_, _, ⟨T2, L2, k2, n2⟩, -, X2, ⟨Lc2, hQ2, l2, y2, z2⟩, st2⟩ := Jvm.LawKit.callS X0 hx (y := (⟨"com/example/partenope/partenope/service/HandOverRule", "handsBeforeSplit", "(II)Z"⟩ : MethodName)) hown (mvT hZ (hw _ (List.mem_of_getElem? (i := 0) rfl))) (mvT hZ (hw _ (List.mem_of_getElem? (i := 1) rfl))) (mvT hZ (hw _ (List.mem_of_getElem? (i := 2) rfl))) (mvT hZ (hw _ (List.mem_of_getElem? (i := 3) rfl))) (by decide) (backOf (W := 0) (rm1 l Z a0 hw [] p1 p2 h0 n0 Z0) hZ (hw _ (List.mem_of_getElem? (i := 3) rfl)) (hw _ (List.mem_of_getElem? (i := 2) rfl)) (by decide) (by decide)) (g := (mkF m 2 #[.val (.int p1), .val (.int p2), .val (.int p3), .unset, .unset, .unset, .unset, .unset] [(.int p2), (.int p1)])) rfl (by rw [hml]; rfl) (argsL := [(.int p1), (.int p2)]) (rest := []) (lenOf pd_0 rfl) rfl (by show 2 * 0 + _ ≤ _; exact Nat.le_of_eq rfl) (hb hby at_2) (fun _ _ => ⟨rfl, e0, (by decide : 0 + 0 ≤ _), (by decide : 0 + 0 ≤ _)⟩)
  dsimp only [Pt.U, Pt.locs, Pt.cells, Pt.slots] at X2 l2 y2 z2 st2 hQ2
  subst l2 y2 z2
  obtain ⟨rfl, N2q, hH2⟩ := hQ2
  have N2 := Fr.app N0 N2q
  refine own_adv (B := (T2.setTop (mkF m 5 #[.val (.int p1), .val (.int p2), .val (.int p3), .unset, .unset, .unset, .unset, .unset] [(.int (own_g p1 p2))]))) (fun t k => st2 t k) ?_
  refine own_adv (B := (T2.setTop (mkF m 13 #[.val (.int p1), .val (.int p2), .val (.int p3), .val (.int (own_g p1 p2)), .val (.long ((p2.toInt64) - (p1.toInt64))), .second, .unset, .unset] []))) (fun t k => ?_) ?_
  · show Steps p.tables e below (T2.setTop (mkF m 5 #[.val (.int p1), .val (.int p2), .val (.int p3), .unset, .unset, .unset, .unset, .unset] [(.int (own_g p1 p2))])) _
    refine XS.istoreN X2.here hx rfl (hb hby at_5) rfl (l' := #[.val (.int p1), .val (.int p2), .val (.int p3), .val (.int (own_g p1 p2)), .unset, .unset, .unset, .unset]) rfl ?_
    show Steps p.tables e below (T2.setTop (mkF m 6 #[.val (.int p1), .val (.int p2), .val (.int p3), .val (.int (own_g p1 p2)), .unset, .unset, .unset, .unset] [])) _
    refine XS.iloadN X2.here hx rfl (hb hby at_6) rfl ?_
    show Steps p.tables e below (T2.setTop (mkF m 7 #[.val (.int p1), .val (.int p2), .val (.int p3), .val (.int (own_g p1 p2)), .unset, .unset, .unset, .unset] [(.int p2)])) _
    refine XS.i2l X2.here hx rfl (hb hby at_7) rfl ?_
    show Steps p.tables e below (T2.setTop (mkF m 8 #[.val (.int p1), .val (.int p2), .val (.int p3), .val (.int (own_g p1 p2)), .unset, .unset, .unset, .unset] [(.long (p2.toInt64))])) _
    refine XS.iloadN X2.here hx rfl (hb hby at_8) rfl ?_
    show Steps p.tables e below (T2.setTop (mkF m 9 #[.val (.int p1), .val (.int p2), .val (.int p3), .val (.int (own_g p1 p2)), .unset, .unset, .unset, .unset] [(.int p1), (.long (p2.toInt64))])) _
    refine XS.i2l X2.here hx rfl (hb hby at_9) rfl ?_
    show Steps p.tables e below (T2.setTop (mkF m 10 #[.val (.int p1), .val (.int p2), .val (.int p3), .val (.int (own_g p1 p2)), .unset, .unset, .unset, .unset] [(.long (p1.toInt64)), (.long (p2.toInt64))])) _
    refine XS.lsub X2.here hx rfl (hb hby at_10) rfl ?_
    show Steps p.tables e below (T2.setTop (mkF m 11 #[.val (.int p1), .val (.int p2), .val (.int p3), .val (.int (own_g p1 p2)), .unset, .unset, .unset, .unset] [(.long ((p2.toInt64) - (p1.toInt64)))])) _
    refine XS.lstore X2.here hx rfl (hb hby at_11) rfl (l' := #[.val (.int p1), .val (.int p2), .val (.int p3), .val (.int (own_g p1 p2)), .val (.long ((p2.toInt64) - (p1.toInt64))), .second, .unset, .unset]) rfl ?_
    exact k
  obtain ⟨v, hv, st3⟩ : ∃ (v : Int32), (v = own_h p1 p2) ∧ ∀ t, Steps p.tables e below (T2.setTop (mkF m 28 #[.val (.int p1), .val (.int p2), .val (.int p3), .val (.int (own_g p1 p2)), .val (.long ((p2.toInt64) - (p1.toInt64))), .second, .unset, .unset] [(.int v), (.int (own_g p1 p2))])) t → Steps p.tables e below (T2.setTop (mkF m 13 #[.val (.int p1), .val (.int p2), .val (.int p3), .val (.int (own_g p1 p2)), .val (.long ((p2.toInt64) - (p1.toInt64))), .second, .unset, .unset] [])) t := by
    by_cases hb3_20 : (lcmpW ((p2.toInt64) - (p1.toInt64)) (2 : Int64)) < (0 : Int32)
    · refine ⟨(1 : Int32), by simp [own_h, hb3_20], fun t k => ?_⟩
      show Steps p.tables e below (T2.setTop (mkF m 13 #[.val (.int p1), .val (.int p2), .val (.int p3), .val (.int (own_g p1 p2)), .val (.long ((p2.toInt64) - (p1.toInt64))), .second, .unset, .unset] [])) _
      refine XS.iloadN X2.here hx rfl (hb hby at_13) rfl ?_
      show Steps p.tables e below (T2.setTop (mkF m 14 #[.val (.int p1), .val (.int p2), .val (.int p3), .val (.int (own_g p1 p2)), .val (.long ((p2.toInt64) - (p1.toInt64))), .second, .unset, .unset] [(.int (own_g p1 p2))])) _
      refine XS.lload X2.here hx rfl (hb hby at_14) rfl ?_
      show Steps p.tables e below (T2.setTop (mkF m 16 #[.val (.int p1), .val (.int p2), .val (.int p3), .val (.int (own_g p1 p2)), .val (.long ((p2.toInt64) - (p1.toInt64))), .second, .unset, .unset] [(.long ((p2.toInt64) - (p1.toInt64))), (.int (own_g p1 p2))])) _
      refine X2.ldc2Long hx hown (mvT hZ (hw _ (List.mem_of_getElem? (i := 5) rfl))) (g := (mkF m 16 #[.val (.int p1), .val (.int p2), .val (.int p3), .val (.int (own_g p1 p2)), .val (.long ((p2.toInt64) - (p1.toInt64))), .second, .unset, .unset] [(.long ((p2.toInt64) - (p1.toInt64))), (.int (own_g p1 p2))])) rfl (hb hby at_16) _ ?_
      show Steps p.tables e below (T2.setTop (mkF m 19 #[.val (.int p1), .val (.int p2), .val (.int p3), .val (.int (own_g p1 p2)), .val (.long ((p2.toInt64) - (p1.toInt64))), .second, .unset, .unset] [(.long (2 : Int64)), (.long ((p2.toInt64) - (p1.toInt64))), (.int (own_g p1 p2))])) _
      refine XS.lcmp X2.here hx rfl (hb hby at_19) rfl ?_
      show Steps p.tables e below (T2.setTop (mkF m 20 #[.val (.int p1), .val (.int p2), .val (.int p3), .val (.int (own_g p1 p2)), .val (.long ((p2.toInt64) - (p1.toInt64))), .second, .unset, .unset] [(.int (lcmpW ((p2.toInt64) - (p1.toInt64)) (2 : Int64))), (.int (own_g p1 p2))])) _
      refine XS.ifNo X2.here hx rfl (hb hby at_20) rfl ((if0 _ _).trans (tlt hb3_20).2.1) ?_
      show Steps p.tables e below (T2.setTop (mkF m 23 #[.val (.int p1), .val (.int p2), .val (.int p3), .val (.int (own_g p1 p2)), .val (.long ((p2.toInt64) - (p1.toInt64))), .second, .unset, .unset] [(.int (own_g p1 p2))])) _
      refine XS.iconst X2.here hx rfl (hb hby at_23) ?_
      show Steps p.tables e below (T2.setTop (mkF m 24 #[.val (.int p1), .val (.int p2), .val (.int p3), .val (.int (own_g p1 p2)), .val (.long ((p2.toInt64) - (p1.toInt64))), .second, .unset, .unset] [(.int (1 : Int32)), (.int (own_g p1 p2))])) _
      refine XS.goto X2.here hx rfl (pc0 := 24) (pc' := 28) rfl (hb hby at_24) (by decide) (by decide) ?_
      exact k
    · refine ⟨(0 : Int32), by simp [own_h, hb3_20], fun t k => ?_⟩
      show Steps p.tables e below (T2.setTop (mkF m 13 #[.val (.int p1), .val (.int p2), .val (.int p3), .val (.int (own_g p1 p2)), .val (.long ((p2.toInt64) - (p1.toInt64))), .second, .unset, .unset] [])) _
      refine XS.iloadN X2.here hx rfl (hb hby at_13) rfl ?_
      show Steps p.tables e below (T2.setTop (mkF m 14 #[.val (.int p1), .val (.int p2), .val (.int p3), .val (.int (own_g p1 p2)), .val (.long ((p2.toInt64) - (p1.toInt64))), .second, .unset, .unset] [(.int (own_g p1 p2))])) _
      refine XS.lload X2.here hx rfl (hb hby at_14) rfl ?_
      show Steps p.tables e below (T2.setTop (mkF m 16 #[.val (.int p1), .val (.int p2), .val (.int p3), .val (.int (own_g p1 p2)), .val (.long ((p2.toInt64) - (p1.toInt64))), .second, .unset, .unset] [(.long ((p2.toInt64) - (p1.toInt64))), (.int (own_g p1 p2))])) _
      refine X2.ldc2Long hx hown (mvT hZ (hw _ (List.mem_of_getElem? (i := 5) rfl))) (g := (mkF m 16 #[.val (.int p1), .val (.int p2), .val (.int p3), .val (.int (own_g p1 p2)), .val (.long ((p2.toInt64) - (p1.toInt64))), .second, .unset, .unset] [(.long ((p2.toInt64) - (p1.toInt64))), (.int (own_g p1 p2))])) rfl (hb hby at_16) _ ?_
      show Steps p.tables e below (T2.setTop (mkF m 19 #[.val (.int p1), .val (.int p2), .val (.int p3), .val (.int (own_g p1 p2)), .val (.long ((p2.toInt64) - (p1.toInt64))), .second, .unset, .unset] [(.long (2 : Int64)), (.long ((p2.toInt64) - (p1.toInt64))), (.int (own_g p1 p2))])) _
      refine XS.lcmp X2.here hx rfl (hb hby at_19) rfl ?_
      show Steps p.tables e below (T2.setTop (mkF m 20 #[.val (.int p1), .val (.int p2), .val (.int p3), .val (.int (own_g p1 p2)), .val (.long ((p2.toInt64) - (p1.toInt64))), .second, .unset, .unset] [(.int (lcmpW ((p2.toInt64) - (p1.toInt64)) (2 : Int64))), (.int (own_g p1 p2))])) _
      refine XS.ifYes X2.here hx rfl (pc0 := 20) (pc' := 27) rfl (hb hby at_20) rfl ((if0 _ _).trans (flt hb3_20).2.1) (by decide) (by decide) ?_
      show Steps p.tables e below (T2.setTop (mkF m 27 #[.val (.int p1), .val (.int p2), .val (.int p3), .val (.int (own_g p1 p2)), .val (.long ((p2.toInt64) - (p1.toInt64))), .second, .unset, .unset] [(.int (own_g p1 p2))])) _
      refine XS.iconst X2.here hx rfl (hb hby at_27) ?_
      exact k
  refine own_adv st3 ?_
  subst hv
  refine own_adv (B := (T2.setTop (mkF m 33 #[.val (.int p1), .val (.int p2), .val (.int p3), .val (.int (own_g p1 p2)), .val (.long ((p2.toInt64) - (p1.toInt64))), .second, .unset, .unset] []))) (fun t k => ?_) ?_
  · show Steps p.tables e below (T2.setTop (mkF m 28 #[.val (.int p1), .val (.int p2), .val (.int p3), .val (.int (own_g p1 p2)), .val (.long ((p2.toInt64) - (p1.toInt64))), .second, .unset, .unset] [(.int (own_h p1 p2)), (.int (own_g p1 p2))])) _
    refine XS.icmpYes X2.here hx rfl (pc0 := 28) (pc' := 33) rfl (hb hby at_28) rfl (teq (own_gh p1 p2)).1 (by decide) (by decide) ?_
    exact k
  refine own_adv (B := (T2.setTop (mkF m 41 #[.val (.int p1), .val (.int p2), .val (.int p3), .val (.int (own_g p1 p2)), .val (.long ((p2.toInt64) - (p1.toInt64))), .second, .val (.int (p3 &&& (3 : Int32))), .unset] [(.int (2147483644 : Int32)), (.int p1)]))) (fun t k => ?_) ?_
  · show Steps p.tables e below (T2.setTop (mkF m 33 #[.val (.int p1), .val (.int p2), .val (.int p3), .val (.int (own_g p1 p2)), .val (.long ((p2.toInt64) - (p1.toInt64))), .second, .unset, .unset] [])) _
    refine XS.iloadN X2.here hx rfl (hb hby at_33) rfl ?_
    show Steps p.tables e below (T2.setTop (mkF m 34 #[.val (.int p1), .val (.int p2), .val (.int p3), .val (.int (own_g p1 p2)), .val (.long ((p2.toInt64) - (p1.toInt64))), .second, .unset, .unset] [(.int p3)])) _
    refine XS.iconst X2.here hx rfl (hb hby at_34) ?_
    show Steps p.tables e below (T2.setTop (mkF m 35 #[.val (.int p1), .val (.int p2), .val (.int p3), .val (.int (own_g p1 p2)), .val (.long ((p2.toInt64) - (p1.toInt64))), .second, .unset, .unset] [(.int (3 : Int32)), (.int p3)])) _
    refine XS.iand X2.here hx rfl (hb hby at_35) rfl ?_
    show Steps p.tables e below (T2.setTop (mkF m 36 #[.val (.int p1), .val (.int p2), .val (.int p3), .val (.int (own_g p1 p2)), .val (.long ((p2.toInt64) - (p1.toInt64))), .second, .unset, .unset] [(.int (p3 &&& (3 : Int32)))])) _
    refine XS.istore X2.here hx rfl (hb hby at_36) rfl (l' := #[.val (.int p1), .val (.int p2), .val (.int p3), .val (.int (own_g p1 p2)), .val (.long ((p2.toInt64) - (p1.toInt64))), .second, .val (.int (p3 &&& (3 : Int32))), .unset]) rfl ?_
    show Steps p.tables e below (T2.setTop (mkF m 38 #[.val (.int p1), .val (.int p2), .val (.int p3), .val (.int (own_g p1 p2)), .val (.long ((p2.toInt64) - (p1.toInt64))), .second, .val (.int (p3 &&& (3 : Int32))), .unset] [])) _
    refine XS.iloadN X2.here hx rfl (hb hby at_38) rfl ?_
    show Steps p.tables e below (T2.setTop (mkF m 39 #[.val (.int p1), .val (.int p2), .val (.int p3), .val (.int (own_g p1 p2)), .val (.long ((p2.toInt64) - (p1.toInt64))), .second, .val (.int (p3 &&& (3 : Int32))), .unset] [(.int p1)])) _
    refine X2.ldcInt hx hown (mvT hZ (hw _ (List.mem_of_getElem? (i := 6) rfl))) (g := (mkF m 39 #[.val (.int p1), .val (.int p2), .val (.int p3), .val (.int (own_g p1 p2)), .val (.long ((p2.toInt64) - (p1.toInt64))), .second, .val (.int (p3 &&& (3 : Int32))), .unset] [(.int p1)])) rfl (hb hby at_39) _ ?_
    exact k
  by_cases hc41 : (2147483644 : Int32) < p1
  · refine own_adv (B := (T2.setTop (mkF m 73 #[.val (.int p1), .val (.int p2), .val (.int p3), .val (.int (own_g p1 p2)), .val (.long ((p2.toInt64) - (p1.toInt64))), .second, .val (.int (p3 &&& (3 : Int32))), .unset] [(.int (1 : Int32))]))) (fun t k => ?_) ?_
    · show Steps p.tables e below (T2.setTop (mkF m 41 #[.val (.int p1), .val (.int p2), .val (.int p3), .val (.int (own_g p1 p2)), .val (.long ((p2.toInt64) - (p1.toInt64))), .second, .val (.int (p3 &&& (3 : Int32))), .unset] [(.int (2147483644 : Int32)), (.int p1)])) _
      refine XS.icmpYes X2.here hx rfl (pc0 := 41) (pc' := 72) rfl (hb hby at_41) rfl (tlt hc41).2.2.1 (by decide) (by decide) ?_
      show Steps p.tables e below (T2.setTop (mkF m 72 #[.val (.int p1), .val (.int p2), .val (.int p3), .val (.int (own_g p1 p2)), .val (.long ((p2.toInt64) - (p1.toInt64))), .second, .val (.int (p3 &&& (3 : Int32))), .unset] [])) _
      refine XS.iconst X2.here hx rfl (hb hby at_72) ?_
      exact k
    obtain ⟨fs, hr, hrun, hended, hW, hsame⟩ := X2.leave (v := some (.int (1 : Int32))) (fun h => by rw [Bd.returns] at h; cases h)
    refine ⟨_, _, ?_, hrun, hended, _, _, rfl, ?_, ⟨_, rfl⟩, hW, hsame.mono (by decide) (by decide)⟩
    · show Steps p.tables e below (T2.setTop (mkF m 73 #[.val (.int p1), .val (.int p2), .val (.int p3), .val (.int (own_g p1 p2)), .val (.long ((p2.toInt64) - (p1.toInt64))), .second, .val (.int (p3 &&& (3 : Int32))), .unset] [(.int (1 : Int32))])) _
      exact retN X2 hx (t := .boolean) Bd.returns (by simp) (hb hby at_73) hr
    · show Q0 Z p1 p2 p3 h0 n0 _ T2.heap _
      rw [hH2]
      exact ⟨rfl, N2⟩
  · refine own_adv (B := (T2.setTop (mkF m 49 #[.val (.int p1), .val (.int p2), .val (.int p3), .val (.int (own_g p1 p2)), .val (.long ((p2.toInt64) - (p1.toInt64))), .second, .val (.int (p3 &&& (3 : Int32))), .unset] [(.int (p1 + (p3 &&& (3 : Int32)))), (.int p1)]))) (fun t k => ?_) ?_
    · show Steps p.tables e below (T2.setTop (mkF m 41 #[.val (.int p1), .val (.int p2), .val (.int p3), .val (.int (own_g p1 p2)), .val (.long ((p2.toInt64) - (p1.toInt64))), .second, .val (.int (p3 &&& (3 : Int32))), .unset] [(.int (2147483644 : Int32)), (.int p1)])) _
      refine XS.icmpNo X2.here hx rfl (hb hby at_41) rfl (flt hc41).2.2.1 ?_
      show Steps p.tables e below (T2.setTop (mkF m 44 #[.val (.int p1), .val (.int p2), .val (.int p3), .val (.int (own_g p1 p2)), .val (.long ((p2.toInt64) - (p1.toInt64))), .second, .val (.int (p3 &&& (3 : Int32))), .unset] [])) _
      refine XS.iloadN X2.here hx rfl (hb hby at_44) rfl ?_
      show Steps p.tables e below (T2.setTop (mkF m 45 #[.val (.int p1), .val (.int p2), .val (.int p3), .val (.int (own_g p1 p2)), .val (.long ((p2.toInt64) - (p1.toInt64))), .second, .val (.int (p3 &&& (3 : Int32))), .unset] [(.int p1)])) _
      refine XS.iloadN X2.here hx rfl (hb hby at_45) rfl ?_
      show Steps p.tables e below (T2.setTop (mkF m 46 #[.val (.int p1), .val (.int p2), .val (.int p3), .val (.int (own_g p1 p2)), .val (.long ((p2.toInt64) - (p1.toInt64))), .second, .val (.int (p3 &&& (3 : Int32))), .unset] [(.int p1), (.int p1)])) _
      refine XS.iload X2.here hx rfl (hb hby at_46) rfl ?_
      show Steps p.tables e below (T2.setTop (mkF m 48 #[.val (.int p1), .val (.int p2), .val (.int p3), .val (.int (own_g p1 p2)), .val (.long ((p2.toInt64) - (p1.toInt64))), .second, .val (.int (p3 &&& (3 : Int32))), .unset] [(.int (p3 &&& (3 : Int32))), (.int p1), (.int p1)])) _
      refine XS.iadd X2.here hx rfl (hb hby at_48) rfl ?_
      exact k
    obtain ⟨_, _, ⟨T4, L4, k4, n4⟩, -, X4, ⟨Lc4, hQ4, l4, y4, z4⟩, st4⟩ := Jvm.LawKit.callS X2 hx (y := (⟨"com/example/partenope/partenope/service/HandOverRule", "handsBeforeSplit", "(II)Z"⟩ : MethodName)) hown (mvT hZ (hw _ (List.mem_of_getElem? (i := 0) rfl))) (mvT hZ (hw _ (List.mem_of_getElem? (i := 1) rfl))) (mvT hZ (hw _ (List.mem_of_getElem? (i := 2) rfl))) (mvT hZ (hw _ (List.mem_of_getElem? (i := 3) rfl))) (by decide) (backOf (W := 0) (rm1 l Z a0 hw [] p1 (p1 + (p3 &&& (3 : Int32))) h0 n0 Z0) hZ (hw _ (List.mem_of_getElem? (i := 3) rfl)) (hw _ (List.mem_of_getElem? (i := 2) rfl)) (by decide) (by decide)) (g := (mkF m 49 #[.val (.int p1), .val (.int p2), .val (.int p3), .val (.int (own_g p1 p2)), .val (.long ((p2.toInt64) - (p1.toInt64))), .second, .val (.int (p3 &&& (3 : Int32))), .unset] [(.int (p1 + (p3 &&& (3 : Int32)))), (.int p1)])) rfl (by rw [hml]; rfl) (argsL := [(.int p1), (.int (p1 + (p3 &&& (3 : Int32))))]) (rest := []) (lenOf pd_0 rfl) rfl (by show 2 * 0 + _ ≤ _; exact Nat.le_of_eq rfl) (hb hby at_49) (fun _ _ => ⟨rfl, hH2, (by decide : 0 + 0 ≤ _), (by decide : 0 + 0 ≤ _)⟩)
    dsimp only [Pt.U, Pt.locs, Pt.cells, Pt.slots] at X4 l4 y4 z4 st4 hQ4
    subst l4 y4 z4
    obtain ⟨rfl, N4q, hH4⟩ := hQ4
    have N4 := Fr.app N2 N4q
    refine own_adv (B := (T4.setTop (mkF m 52 #[.val (.int p1), .val (.int p2), .val (.int p3), .val (.int (own_g p1 p2)), .val (.long ((p2.toInt64) - (p1.toInt64))), .second, .val (.int (p3 &&& (3 : Int32))), .unset] [(.int (own_g p1 (p1 + (p3 &&& (3 : Int32)))))]))) (fun t k => st4 t k) ?_
    refine own_adv (B := (T4.setTop (mkF m 54 #[.val (.int p1), .val (.int p2), .val (.int p3), .val (.int (own_g p1 p2)), .val (.long ((p2.toInt64) - (p1.toInt64))), .second, .val (.int (p3 &&& (3 : Int32))), .val (.int (own_g p1 (p1 + (p3 &&& (3 : Int32)))))] []))) (fun t k => ?_) ?_
    · show Steps p.tables e below (T4.setTop (mkF m 52 #[.val (.int p1), .val (.int p2), .val (.int p3), .val (.int (own_g p1 p2)), .val (.long ((p2.toInt64) - (p1.toInt64))), .second, .val (.int (p3 &&& (3 : Int32))), .unset] [(.int (own_g p1 (p1 + (p3 &&& (3 : Int32)))))])) _
      refine XS.istore X4.here hx rfl (hb hby at_52) rfl (l' := #[.val (.int p1), .val (.int p2), .val (.int p3), .val (.int (own_g p1 p2)), .val (.long ((p2.toInt64) - (p1.toInt64))), .second, .val (.int (p3 &&& (3 : Int32))), .val (.int (own_g p1 (p1 + (p3 &&& (3 : Int32)))))]) rfl ?_
      exact k
    obtain ⟨v, hv, st5⟩ : ∃ (v : Int32), (v = own_k (p3 &&& (3 : Int32))) ∧ ∀ t, Steps p.tables e below (T4.setTop (mkF m 67 #[.val (.int p1), .val (.int p2), .val (.int p3), .val (.int (own_g p1 p2)), .val (.long ((p2.toInt64) - (p1.toInt64))), .second, .val (.int (p3 &&& (3 : Int32))), .val (.int (own_g p1 (p1 + (p3 &&& (3 : Int32)))))] [(.int v), (.int (own_g p1 (p1 + (p3 &&& (3 : Int32)))))])) t → Steps p.tables e below (T4.setTop (mkF m 54 #[.val (.int p1), .val (.int p2), .val (.int p3), .val (.int (own_g p1 p2)), .val (.long ((p2.toInt64) - (p1.toInt64))), .second, .val (.int (p3 &&& (3 : Int32))), .val (.int (own_g p1 (p1 + (p3 &&& (3 : Int32)))))] [])) t := by
      by_cases hb5_59 : (p3 &&& (3 : Int32)) < (2 : Int32)
      · refine ⟨(1 : Int32), by simp [own_k, hb5_59], fun t k => ?_⟩
        show Steps p.tables e below (T4.setTop (mkF m 54 #[.val (.int p1), .val (.int p2), .val (.int p3), .val (.int (own_g p1 p2)), .val (.long ((p2.toInt64) - (p1.toInt64))), .second, .val (.int (p3 &&& (3 : Int32))), .val (.int (own_g p1 (p1 + (p3 &&& (3 : Int32)))))] [])) _
        refine XS.iload X4.here hx rfl (hb hby at_54) rfl ?_
        show Steps p.tables e below (T4.setTop (mkF m 56 #[.val (.int p1), .val (.int p2), .val (.int p3), .val (.int (own_g p1 p2)), .val (.long ((p2.toInt64) - (p1.toInt64))), .second, .val (.int (p3 &&& (3 : Int32))), .val (.int (own_g p1 (p1 + (p3 &&& (3 : Int32)))))] [(.int (own_g p1 (p1 + (p3 &&& (3 : Int32)))))])) _
        refine XS.iload X4.here hx rfl (hb hby at_56) rfl ?_
        show Steps p.tables e below (T4.setTop (mkF m 58 #[.val (.int p1), .val (.int p2), .val (.int p3), .val (.int (own_g p1 p2)), .val (.long ((p2.toInt64) - (p1.toInt64))), .second, .val (.int (p3 &&& (3 : Int32))), .val (.int (own_g p1 (p1 + (p3 &&& (3 : Int32)))))] [(.int (p3 &&& (3 : Int32))), (.int (own_g p1 (p1 + (p3 &&& (3 : Int32)))))])) _
        refine XS.iconst X4.here hx rfl (hb hby at_58) ?_
        show Steps p.tables e below (T4.setTop (mkF m 59 #[.val (.int p1), .val (.int p2), .val (.int p3), .val (.int (own_g p1 p2)), .val (.long ((p2.toInt64) - (p1.toInt64))), .second, .val (.int (p3 &&& (3 : Int32))), .val (.int (own_g p1 (p1 + (p3 &&& (3 : Int32)))))] [(.int (2 : Int32)), (.int (p3 &&& (3 : Int32))), (.int (own_g p1 (p1 + (p3 &&& (3 : Int32)))))])) _
        refine XS.icmpNo X4.here hx rfl (hb hby at_59) rfl (tlt hb5_59).2.1 ?_
        show Steps p.tables e below (T4.setTop (mkF m 62 #[.val (.int p1), .val (.int p2), .val (.int p3), .val (.int (own_g p1 p2)), .val (.long ((p2.toInt64) - (p1.toInt64))), .second, .val (.int (p3 &&& (3 : Int32))), .val (.int (own_g p1 (p1 + (p3 &&& (3 : Int32)))))] [(.int (own_g p1 (p1 + (p3 &&& (3 : Int32)))))])) _
        refine XS.iconst X4.here hx rfl (hb hby at_62) ?_
        show Steps p.tables e below (T4.setTop (mkF m 63 #[.val (.int p1), .val (.int p2), .val (.int p3), .val (.int (own_g p1 p2)), .val (.long ((p2.toInt64) - (p1.toInt64))), .second, .val (.int (p3 &&& (3 : Int32))), .val (.int (own_g p1 (p1 + (p3 &&& (3 : Int32)))))] [(.int (1 : Int32)), (.int (own_g p1 (p1 + (p3 &&& (3 : Int32)))))])) _
        refine XS.goto X4.here hx rfl (pc0 := 63) (pc' := 67) rfl (hb hby at_63) (by decide) (by decide) ?_
        exact k
      · refine ⟨(0 : Int32), by simp [own_k, hb5_59], fun t k => ?_⟩
        show Steps p.tables e below (T4.setTop (mkF m 54 #[.val (.int p1), .val (.int p2), .val (.int p3), .val (.int (own_g p1 p2)), .val (.long ((p2.toInt64) - (p1.toInt64))), .second, .val (.int (p3 &&& (3 : Int32))), .val (.int (own_g p1 (p1 + (p3 &&& (3 : Int32)))))] [])) _
        refine XS.iload X4.here hx rfl (hb hby at_54) rfl ?_
        show Steps p.tables e below (T4.setTop (mkF m 56 #[.val (.int p1), .val (.int p2), .val (.int p3), .val (.int (own_g p1 p2)), .val (.long ((p2.toInt64) - (p1.toInt64))), .second, .val (.int (p3 &&& (3 : Int32))), .val (.int (own_g p1 (p1 + (p3 &&& (3 : Int32)))))] [(.int (own_g p1 (p1 + (p3 &&& (3 : Int32)))))])) _
        refine XS.iload X4.here hx rfl (hb hby at_56) rfl ?_
        show Steps p.tables e below (T4.setTop (mkF m 58 #[.val (.int p1), .val (.int p2), .val (.int p3), .val (.int (own_g p1 p2)), .val (.long ((p2.toInt64) - (p1.toInt64))), .second, .val (.int (p3 &&& (3 : Int32))), .val (.int (own_g p1 (p1 + (p3 &&& (3 : Int32)))))] [(.int (p3 &&& (3 : Int32))), (.int (own_g p1 (p1 + (p3 &&& (3 : Int32)))))])) _
        refine XS.iconst X4.here hx rfl (hb hby at_58) ?_
        show Steps p.tables e below (T4.setTop (mkF m 59 #[.val (.int p1), .val (.int p2), .val (.int p3), .val (.int (own_g p1 p2)), .val (.long ((p2.toInt64) - (p1.toInt64))), .second, .val (.int (p3 &&& (3 : Int32))), .val (.int (own_g p1 (p1 + (p3 &&& (3 : Int32)))))] [(.int (2 : Int32)), (.int (p3 &&& (3 : Int32))), (.int (own_g p1 (p1 + (p3 &&& (3 : Int32)))))])) _
        refine XS.icmpYes X4.here hx rfl (pc0 := 59) (pc' := 66) rfl (hb hby at_59) rfl (flt hb5_59).2.1 (by decide) (by decide) ?_
        show Steps p.tables e below (T4.setTop (mkF m 66 #[.val (.int p1), .val (.int p2), .val (.int p3), .val (.int (own_g p1 p2)), .val (.long ((p2.toInt64) - (p1.toInt64))), .second, .val (.int (p3 &&& (3 : Int32))), .val (.int (own_g p1 (p1 + (p3 &&& (3 : Int32)))))] [(.int (own_g p1 (p1 + (p3 &&& (3 : Int32)))))])) _
        refine XS.iconst X4.here hx rfl (hb hby at_66) ?_
        exact k
    refine own_adv st5 ?_
    subst hv
    refine own_adv (B := (T4.setTop (mkF m 73 #[.val (.int p1), .val (.int p2), .val (.int p3), .val (.int (own_g p1 p2)), .val (.long ((p2.toInt64) - (p1.toInt64))), .second, .val (.int (p3 &&& (3 : Int32))), .val (.int (own_g p1 (p1 + (p3 &&& (3 : Int32)))))] [(.int (1 : Int32))]))) (fun t k => ?_) ?_
    · show Steps p.tables e below (T4.setTop (mkF m 67 #[.val (.int p1), .val (.int p2), .val (.int p3), .val (.int (own_g p1 p2)), .val (.long ((p2.toInt64) - (p1.toInt64))), .second, .val (.int (p3 &&& (3 : Int32))), .val (.int (own_g p1 (p1 + (p3 &&& (3 : Int32)))))] [(.int (own_k (p3 &&& (3 : Int32)))), (.int (own_g p1 (p1 + (p3 &&& (3 : Int32)))))])) _
      refine XS.icmpYes X4.here hx rfl (pc0 := 67) (pc' := 72) rfl (hb hby at_67) rfl (teq (own_gk p1 p3 hc41)).1 (by decide) (by decide) ?_
      show Steps p.tables e below (T4.setTop (mkF m 72 #[.val (.int p1), .val (.int p2), .val (.int p3), .val (.int (own_g p1 p2)), .val (.long ((p2.toInt64) - (p1.toInt64))), .second, .val (.int (p3 &&& (3 : Int32))), .val (.int (own_g p1 (p1 + (p3 &&& (3 : Int32)))))] [])) _
      refine XS.iconst X4.here hx rfl (hb hby at_72) ?_
      exact k
    obtain ⟨fs, hr, hrun, hended, hW, hsame⟩ := X4.leave (v := some (.int (1 : Int32))) (fun h => by rw [Bd.returns] at h; cases h)
    refine ⟨_, _, ?_, hrun, hended, _, _, rfl, ?_, ⟨_, rfl⟩, hW, hsame.mono (by decide) (by decide)⟩
    · show Steps p.tables e below (T4.setTop (mkF m 73 #[.val (.int p1), .val (.int p2), .val (.int p3), .val (.int (own_g p1 p2)), .val (.long ((p2.toInt64) - (p1.toInt64))), .second, .val (.int (p3 &&& (3 : Int32))), .val (.int (own_g p1 (p1 + (p3 &&& (3 : Int32)))))] [(.int (1 : Int32))])) _
      exact retN X4 hx (t := .boolean) Bd.returns (by simp) (hb hby at_73) hr
    · show Q0 Z p1 p2 p3 h0 n0 _ T4.heap _
      rw [hH4]
      exact ⟨rfl, N4⟩
set_option maxRecDepth 65536 in
set_option maxHeartbeats 40000000 in
theorem comes_1 {Post : Tables → Env → Array Value → State → Outcome → State → Prop} (hpost : ∀ tb e args s v u, (limb_1_1.after args s (.returned v) u = true ∧ limb_1_2.after args s (.returned v) u = true ∧ True) → FrameEnd s (.returned v) u (Jvm.fieldLocs frame_1_writes args s ++ Jvm.arrayLocs frame_1_arrays args s ++ Jvm.staticLocs frame_1_statics s) 0 0 → Post tb e args s (.returned v) u) :
    ArmFor flags0 classFile x code maxLocals ret World_1 tables_1 room_1 Calls_1 rest_1 Pre_1 Post := by
  intro l hfl _ _ p e ha hc hk s m args below hf hA hF happ hP
  obtain ⟨hcalls, hrest, hpre⟩ := hP
  obtain ⟨-, -, -, hnamed, -, -, -, hat⟩ := (Spec.applies_iff hf).mp happ
  obtain ⟨hg, hn⟩ := and_e (Cond.before_iff.mp (show (Jvm.Cond.and given_1 narrow_1).before args s = true from hpre))
  obtain ⟨gc, gr0⟩ := and_e hg
  obtain ⟨ga0, gr1⟩ := and_e gr0
  obtain ⟨ga1, gr2⟩ := and_e gr1
  obtain ⟨w0, w1, w2, rfl⟩ : ∃ w0 w1 w2 : Value, args = #[w0, w1, w2] := by
    have hs : args.size = 3 := by simpa [Cond.value, given_1] using gc
    obtain ⟨L⟩ := args
    match L, hs with
    | [w0, w1, w2], _ => exact ⟨w0, w1, w2, rfl⟩
  have hw := fun d (hd : d ∈ tables_1) => atoms_spec (ws := Jvm.Cond.code x code maxLocals ret :: tables_1) hat d (List.mem_cons_of_mem _ hd)
  obtain ⟨i0, ei0⟩ := is_v ga0
  obtain rfl : w0 = (.int i0) := Option.some.inj ei0
  obtain ⟨i1, ei1⟩ := is_v ga1
  obtain rfl : w1 = (.int i1) := Option.some.inj ei1
  obtain ⟨i2, ei2⟩ := is_v gr2
  obtain rfl : w2 = (.int i2) := Option.some.inj ei2
  obtain ⟨n, o, h1, h2, h3, _, L, rfl, ⟨rfl, N⟩, hq⟩ := rm0 l s _ hw tables_1 i0 i1 i2 s.heap s.heap.size (Nat.le_refl _) p e ha hc hk s m _ below hf ((Spec.applies_iff_loose hf).mp happ).1 ⟨rfl, State.Warmed39.refl s, rfl⟩ trivial
  refine ⟨n, _, h1, h2, h3, hpost _ _ _ _ _ _ ⟨Cond.after_iff.mpr rfl, Cond.after_iff.mpr (eq_i res_at (Term.int_eval (1)) rfl), trivial⟩ ⟨hq.1, hq.2.1, (hq.2.2.sift fun y hy => Or.inr (N y hy)).mono (by decide) (by decide)⟩⟩
theorem main_1_1 : Claimed_1_1 := comes_1 fun _ _ _ _ _ _ h hF => ⟨h.1, hF⟩
theorem main_1_2 : Claimed_1_2 := comes_1 fun _ _ _ _ _ _ h hF => ⟨h.2.1, hF⟩
end Jvm.Pilot.@@N@@
namespace Jvm.Pilot.@@N@@
open Jvm Jvm.ClassFile Sem Op Lib Jvm.Free Jvm.Stand Jvm.Pilot.@@N@@.Jvm.D
/-! MADE BY PROGRAM (witnessworld.py) out of the Statement's table words and the real class files: 7 classes; the members and pool entries that the words name. The judged class is class 1, her method 1. -/
namespace start1
open Jvm.ClassFile
def u (s : String) : CpInfo := .utf8 (stringToUtf16 s)
/-- a pool by its gaps: so many unusable entries, then the entry; so many at the end -/
def gap : Nat → List CpInfo → List CpInfo
  | 0, r => r
  | n + 1, r => .unusable :: gap n r
def poolList (es : List (Nat × CpInfo)) (last : Nat) : List CpInfo := es.foldr (fun e r => gap e.1 (e.2 :: r)) (gap last [])
def pool (es : List (Nat × CpInfo)) (last : Nat) : Array CpInfo := ⟨poolList es last⟩
def fileOf (pool : Array CpInfo) (this : Nat) (attrs : Array Attribute := #[]) (ms : Array MethodInfo := #[]) (fl : Nat := 33) (sup : Nat := 0) (ifs : Array Nat := #[]) (fds : Array FieldInfo := #[]) : ClassFile where
  minorVersion := 0
  majorVersion := 65
  constantPool := pool
  accessFlags := fl
  thisClass := this
  superClass := sup
  interfaces := ifs
  fields := fds
  methods := ms
  attributes := attrs
def plain (name : String) (sup : Option ClassId) : Class where
  name := name
  kind := .ordinary
  loader := none
  accessFlags := 33
  super := sup
  interfaces := #[]
  cf := none
  fields := #[]
  methods := #[]
  instanceTypes := #[]
  staticTypes := #[]
  resolved := #[]
  callSites := []
  init := .initialized
  statics := none
  mirror := none

def pool0 : Array CpInfo := pool [(5, u "<init>"), (0, u "()V"), (1, .class_ 10), (1, u "java/lang/Object")] 113

def k0m0 : Method := { name := "<init>", desc := "()V", sig := { parameters := [], returnType := none }, accessFlags := 1, code := none }
/-- java/lang/Object -/
def k0 : Class := { plain "java/lang/Object" none with
  accessFlags := 33
  interfaces := #[]
  cf := some (fileOf pool0 8 #[] #[{ accessFlags := 1, nameIndex := 5, descriptorIndex := 6, attributes := #[] }] 33 0 #[] #[])
  fields := #[]
  methods := #[k0m0]
  instanceTypes := #[]
  staticTypes := #[]
  resolved := Array.replicate 124 none
  statics := none }

def pool1 : Array CpInfo := pool [(2, .class_ 4), (1, u "java/lang/Object"), (0, u "<init>"), (0, u "()V"), (0, .methodref 8 9), (0, .class_ 10), (0, .nameAndType 11 12), (0, u "com/example/partenope/partenope/service/HandOverRule"), (0, u "handsBeforeSplit"), (0, u "(II)Z"), (0, .long 2), (3, .integer 2147483644), (0, .class_ 19), (0, u "com/example/partenope/partenope/service/HandOverRuleHandsBeforeSplitPinLaw"), (2, u "law"), (0, u "(III)Z")] 3

def k1m0 : Method := { name := "<init>", desc := "()V", sig := { parameters := [], returnType := none }, accessFlags := 2, code := none }
def k1c1 : Code := { maxStack := 5, maxLocals := 8, code := code, exceptionTable := #[], attributes := #[] }
def k1m1 : Method := { name := "law", desc := "(III)Z", sig := { parameters := [.int, .int, .int], returnType := some .boolean }, accessFlags := 9, code := some k1c1 }
/-- com/example/partenope/partenope/service/HandOverRuleHandsBeforeSplitPinLaw -/
def k1 : Class := { plain "com/example/partenope/partenope/service/HandOverRuleHandsBeforeSplitPinLaw" (some 0) with
  accessFlags := 49
  interfaces := #[]
  cf := some (fileOf pool1 18 #[] #[{ accessFlags := 2, nameIndex := 5, descriptorIndex := 6, attributes := #[] }, { accessFlags := 9, nameIndex := 22, descriptorIndex := 23, attributes := #[] }] 49 2 #[] #[])
  fields := #[]
  methods := #[k1m0, k1m1]
  instanceTypes := #[]
  staticTypes := #[]
  resolved := Array.replicate 27 none
  statics := none }

def pool2 : Array CpInfo := pool [(2, .class_ 4), (1, u "java/lang/Object"), (0, u "<init>"), (0, u "()V"), (0, .long 2), (2, .class_ 12), (1, u "com/example/partenope/partenope/service/HandOverRule"), (137, u "handsBeforeSplit"), (0, u "(II)Z")] 43

def k2m0 : Method := { name := "<init>", desc := "()V", sig := { parameters := [], returnType := none }, accessFlags := 2, code := none }
def k2c1 : Code := { maxStack := 4, maxLocals := 2, code := prog_207_method_2_code, exceptionTable := #[], attributes := #[] }
def k2m1 : Method := { name := "handsBeforeSplit", desc := "(II)Z", sig := { parameters := [.int, .int], returnType := some .boolean }, accessFlags := 8, code := some k2c1 }
/-- com/example/partenope/partenope/service/HandOverRule -/
def k2 : Class := { plain "com/example/partenope/partenope/service/HandOverRule" (some 0) with
  accessFlags := 48
  interfaces := #[]
  cf := some (fileOf pool2 10 #[] #[{ accessFlags := 2, nameIndex := 5, descriptorIndex := 6, attributes := #[] }, { accessFlags := 8, nameIndex := 150, descriptorIndex := 151, attributes := #[] }] 48 2 #[] #[])
  fields := #[]
  methods := #[k2m0, k2m1]
  instanceTypes := #[]
  staticTypes := #[]
  resolved := Array.replicate 195 none
  statics := none }

def pool3 : Array CpInfo := pool [(1, u "java/lang/Cloneable"), (0, .class_ 1), (0, u "java/lang/Object"), (0, .class_ 3)] 3

/-- java/lang/Cloneable -/
def k3 : Class := { plain "java/lang/Cloneable" (some 0) with
  accessFlags := 1537
  interfaces := #[]
  cf := some (fileOf pool3 2 #[] #[] 1537 4 #[] #[])
  fields := #[]
  methods := #[]
  instanceTypes := #[]
  staticTypes := #[]
  resolved := Array.replicate 8 none
  statics := none }

def pool4 : Array CpInfo := pool [(1, u "java/io/Serializable"), (0, .class_ 1), (0, u "java/lang/Object"), (0, .class_ 3)] 3

/-- java/io/Serializable -/
def k4 : Class := { plain "java/io/Serializable" (some 0) with
  accessFlags := 1537
  interfaces := #[]
  cf := some (fileOf pool4 2 #[] #[] 1537 4 #[] #[])
  fields := #[]
  methods := #[]
  instanceTypes := #[]
  staticTypes := #[]
  resolved := Array.replicate 8 none
  statics := none }

/-- the primitive byte -/
def k5 : Class := { plain "byte" none with kind := .primitive 'B', accessFlags := 0x411 }
/-- [B -/
def k6 : Class := { plain "[B" (some 0) with kind := .array 5 .byte, interfaces := #[3, 4], accessFlags := 1041 }

def heap : Heap := #[]
def classes : Array Class := #[k0, k1, k2, k3, k4, k5, k6]
def interned : List (Array UInt16 × Addr) := []
def slotsUsed : Nat := 0
def theMethod : MethodId := ⟨1, 1⟩
def args0 : Array Value := #[.int 5, .int 7, .int 3]
def aboutOver (below : List Frame) : State where
  vm := { classes := classes, interned := interned.toArray }
  heap := heap
  slotsUsed := slotsUsed
  threads := #[{ frames := .invoking theMethod args0 :: below }]
def below0 : List Frame := [.native { method := ⟨0, 0⟩, args := #[] }]
def about1 : State := aboutOver below0
def p0 : Program := .bare "" "" ""
def e0 : Env := launch0.env 0 0 0
theorem w_frames : about1.frames = Frame.invoking theMethod args0 :: below0 := rfl
set_option maxRecDepth 65536 in
theorem w_args : argsFit about1.vm theMethod args0 = true := by decide +kernel
set_option maxRecDepth 65536 in
theorem w_heap : heapFits about1 = true := by decide +kernel
set_option maxRecDepth 65536 in
theorem w_runnable : about1.curStatus? = some .runnable := by decide +kernel
set_option maxRecDepth 65536 in
theorem w_alone : about1.alone = true := by decide +kernel
set_option maxRecDepth 65536 in
theorem w_named : about1.methodNamed? x = some theMethod := by decide +kernel
set_option maxRecDepth 65536 in
theorem w_hears : about1.hears theMethod below0 = true := by decide +kernel
set_option maxRecDepth 65536 in
theorem w_ripe : about1.ripe theMethod args0 below0 = true := by decide +kernel
theorem w_running : about1.status = .running := rfl
set_option maxRecDepth 65536 in
theorem w_room : about1.hasRoom e0.platform room_1 = true :=
  launch0.hasRoom_least _ room_1 (by decide +kernel) (by decide +kernel) (by decide +kernel) (by decide +kernel) (by decide +kernel) (by decide +kernel)
theorem allAtoms_all (ts : List Jvm.Cond) (a : Array Jvm.Value) (st : Jvm.State) : (allAtoms ts).before a st = ts.all (fun c => c.before a st) := by
  induction ts with
  | nil => rfl
  | cons c t ih =>
    show (Jvm.Cond.and c (allAtoms t)).before a st = _
    rw [Jvm.Cond.before_and, ih, List.all_cons]
def words1 : List Jvm.Cond := Jvm.Cond.code x code maxLocals ret :: tables_1
/-- a 'code' word, met by the world's own term for the bytes: nothing is compared byte by byte -/
theorem code_word {y : MethodName} {bytes : ByteArray} {mx : Nat} {rt : Option FieldType} {a : Array Value} {s : State} {m : MethodId} {meth : Method} {c : Code} (h1 : s.methodNamed? y = some m) (h2 : s.vm.method? m = some meth) (h3 : meth.code = some c) (h4 : c.code = bytes)
    (h5 : (c.maxLocals == mx && c.exceptionTable.isEmpty && decide (c.maxStack ≤ mostOperands) && decide (meth.sig.returnType = rt) && !meth.locks && decide (parseMethodDescriptor y.desc = some meth.sig)) = true) : (Jvm.Cond.code y bytes mx rt).before a s = true := by
  simp only [Bool.and_eq_true, beq_iff_eq, Bool.not_eq_true', decide_eq_true_eq] at h5
  obtain ⟨⟨⟨⟨⟨g1, g2⟩, g3⟩, g4⟩, g5⟩, g6⟩ := h5
  simp [Cond.before, Cond.holds, Cond.value, h1, h2, h3, h4, g1, g2, g3, g4, g5, g6]
def isCode : Jvm.Cond → Bool
  | .code _ _ _ _ => true
  | _ => false
theorem all_split {L : List Jvm.Cond} {P : Jvm.Cond → Bool} (h1 : L.all (fun c => isCode c || P c) = true) (h2 : ∀ c ∈ L.filter isCode, P c = true) : L.all P = true := by
  refine List.all_eq_true.mpr fun c hc => ?_
  have h := List.all_eq_true.mp h1 c hc
  rcases Bool.eq_false_or_eq_true (isCode c) with hi | hi
  · exact h2 c (List.mem_filter.mpr ⟨hc, hi⟩)
  · simpa [hi] using h
set_option maxRecDepth 65536 in
theorem w_c0 : (Jvm.Cond.code x code maxLocals ret).before args0 about1 = true := code_word (m := ⟨1, 1⟩) (meth := k1m1) (c := k1c1) (by decide +kernel) rfl rfl rfl (by decide +kernel)
set_option maxRecDepth 65536 in
theorem w_c1 : (Jvm.Cond.code ({ cls := "com/example/partenope/partenope/service/HandOverRule", name := "handsBeforeSplit", desc := "(II)Z" } : Jvm.MethodName) prog_207_method_2_code (2 : Nat) (Option.some Jvm.ClassFile.FieldType.boolean)).before args0 about1 = true := code_word (m := ⟨2, 1⟩) (meth := k2m1) (c := k2c1) (by decide +kernel) rfl rfl rfl (by decide +kernel)
def codes1 : List Jvm.Cond := [Jvm.Cond.code x code maxLocals ret, Jvm.Cond.code ({ cls := "com/example/partenope/partenope/service/HandOverRule", name := "handsBeforeSplit", desc := "(II)Z" } : Jvm.MethodName) prog_207_method_2_code (2 : Nat) (Option.some Jvm.ClassFile.FieldType.boolean)]
set_option maxRecDepth 65536 in
theorem codes_eq : words1.filter isCode = codes1 := rfl
theorem w_codes : ∀ c ∈ words1.filter isCode, c.before args0 about1 = true := by
  rw [codes_eq]
  intro c hc
  simp only [codes1, List.mem_cons, List.not_mem_nil, or_false] at hc
  rcases hc with rfl | rfl
  · exact w_c0
  · exact w_c1
set_option maxRecDepth 65536 in
theorem w_t1 : words1.all (fun c => isCode c || c.before args0 about1) = true := by decide +kernel
theorem w_tables : (allAtoms (Jvm.Cond.code x code maxLocals ret :: tables_1)).before args0 about1 = true := by
  rw [allAtoms_all]
  show words1.all (fun c => c.before args0 about1) = true
  refine all_split ?_ w_codes
  rw [w_t1]
set_option maxRecDepth 65536 in
theorem w_case : (Jvm.Cond.and given_1 narrow_1).before args0 about1 = true := by decide +kernel
theorem w_applies : (headSpec (Jvm.Cond.code x code maxLocals ret :: tables_1) room_1).applies x e0.platform about1 = true :=
  (Spec.applies_iff w_frames).mpr ⟨w_running, w_runnable, w_alone, w_named, w_hears, w_ripe, w_room, w_tables⟩
theorem atStart : AtStart classFile x code maxLocals ret World_1 tables_1 room_1 Calls_1 rest_1 Pre_1 launch0 p0 e0 about1 theMethod args0 below0 :=
  ⟨lists_1, trivial, launch0.admits_env _ _ _, launch0.least_env, fairChoices_fair.cas, fairChoices_fair.clock, w_frames, w_args, w_heap, w_applies, trivial, trivial, w_case⟩
end start1
theorem witness_1 : WitnessClaimed_1 := ⟨start1.p0, start1.e0, start1.about1, start1.theMethod, start1.args0, start1.below0, start1.atStart⟩
end Jvm.Pilot.@@N@@
