import JvmDerived
import JvmDerived.Pilot.@@N@@Statement
import JvmDerived.Pilot.@@N@@Code
set_option linter.unusedVariables false
set_option linter.unusedSimpArgs false
@@BLOCK:NumsL.lean.txt@@
namespace Jvm.RoadKit
open Sem ClassFile Op Lib Jvm.Stand Jvm.Free Jvm.LawKit
section New
variable {p : Program} {l : Launch} {e : Env} {R : Room} {s : State} {m : MethodId} {args : Array Value} {below : List Frame} {meth : Method} {c : Code} {T : State} {locs : List Loc} {cells slots : Nat}
theorem retI (X : Stand p l e R s m args below meth c T locs cells slots) (hx : p.tables.exec = Jvm.exec) {pc : Nat} {Ls : Array Slot} {z : Int32} {rest : List Value} (hret : meth.sig.returnType = some .int) (hd : decode c.code pc = .ok (.ireturn, 1)) {fs : List Frame}
    (hl : ∀ (f : JFrame) (acts : List Action), f.method = m → f.locked = none → f.entered = [] → (doReturn e (T.setTop f) acts (some (.int z))).1 = T.setFrames fs) : Steps p.tables e below (T.setTop (mkF m pc Ls (.int z :: rest))) (T.setFrames fs) := by
  have hm' : T.vm.method? m = some meth := X.method'
  have hn : narrow .int (.int z) = .int z := rfl
  show Steps p.tables e below (T.setTop { method := m, pc := pc, locals := Ls, stack := _ :: rest, locked := none }) _
  jvm_step X.here [X.here.top, hx, hd, hm', hret, hn]
  first | (intro acts; rw [hl _ acts rfl rfl rfl]) | rw [hl _ _ rfl rfl rfl]
  exact Steps.refl _
end New
end Jvm.RoadKit
namespace Jvm.Pilot.@@N@@
open Jvm Jvm.ClassFile Sem Op Lib Jvm.Free Jvm.Stand Jvm.LawKit Jvm.RoadKit Bundle Jvm.Pilot.@@N@@.Jvm.D
theorem own_adv {tb : Tables} {e : Env} {below : List Frame} {A B : State} {P : State → Outcome → Prop} (h : ∀ t, Steps tb e below B t → Steps tb e below A t) (g : ∃ t o, Steps tb e below B t ∧ P t o) : ∃ t o, Steps tb e below A t ∧ P t o := by
  obtain ⟨t, o, h1, h2⟩ := g
  exact ⟨t, o, h t h1, h2⟩
def own_bd (n : Int32) : Int32 := if n = 4 then 215 else if n = 3 then 1290 else if n = 2 then 46340 else 2147483647
theorem own_bd_pos (n : Int32) : 1 ≤ (own_bd n).toInt := by
  unfold own_bd
  by_cases h4 : n = 4
  · rw [if_pos h4]; decide
  · rw [if_neg h4]
    by_cases h3 : n = 3
    · rw [if_pos h3]; decide
    · rw [if_neg h3]
      by_cases h2 : n = 2
      · rw [if_pos h2]; decide
      · rw [if_neg h2]; decide
theorem own_pos {x : Int32} (h : 1 ≤ x.toInt) : ¬ x = 0 := fun q => by
  rw [q] at h; exact absurd h (by decide)
theorem own_mask (x : Int32) : 0 ≤ (x &&& (2147483647 : Int32)).toInt := by
  rw [Jvm.Kit.i32_mask x 2147483647 (k := 31) (by decide) (by decide)]; omega
theorem own_dig (x : Int32) {s : Int32} (h : 1 ≤ s.toInt) : 0 ≤ ((x &&& (2147483647 : Int32)) % s).toInt ∧ ((x &&& (2147483647 : Int32)) % s).toInt < s.toInt := by
  rw [Jvm.Kit.i32_rem_nonneg (own_mask x)]
  exact ⟨Int.emod_nonneg _ (by omega), Int.emod_lt_of_pos _ (by omega)⟩
theorem own_len5 (x : Int32) : 0 ≤ ((x &&& (2147483647 : Int32)) % (5 : Int32)).toInt ∧ ((x &&& (2147483647 : Int32)) % (5 : Int32)).toInt < 5 := own_dig x (s := 5) (by decide)
theorem own_sv (x : Int32) {b : Int32} (h : 1 ≤ b.toInt) : 1 ≤ ((1 : Int32) + ((x &&& (2147483647 : Int32)) % b)).toInt ∧ ((1 : Int32) + ((x &&& (2147483647 : Int32)) % b)).toInt ≤ b.toInt := by
  have h1 := own_dig x h
  have h2 := b.toInt_lt
  have c1 : (1 : Int32).toInt = 1 := rfl
  rw [Jvm.Kit.i32_add (by rw [c1]; omega) (by rw [c1]; omega), c1]
  omega
theorem own_small {q s : Int32} (h0 : 0 ≤ q.toInt) (h1 : q.toInt < s.toInt) : q % s = q := by
  apply Int32.toInt_inj.mp
  rw [Jvm.Kit.i32_rem_nonneg h0]
  exact Int.emod_eq_of_lt h0 h1
theorem own_nn {q r s : Int32} (h0 : 0 ≤ q.toInt) (hs : 1 ≤ s.toInt) (hr : 0 ≤ r.toInt) : 0 ≤ q.toInt * s.toInt + r.toInt := by
  have := Int.mul_nonneg h0 (Int.le_trans (by decide) hs : (0 : Int) ≤ s.toInt)
  omega
theorem own_dm {q r s : Int32} (hs : 1 ≤ s.toInt) (hq : 0 ≤ q.toInt) (hr : 0 ≤ r.toInt) (hrs : r.toInt < s.toInt) (hb : q.toInt * s.toInt + r.toInt < 2 ^ 31) : (q * s + r) % s = r ∧ (q * s + r) / s = q ∧ (q * s + r).toInt = q.toInt * s.toInt + r.toInt := by
  have hm : 0 ≤ q.toInt * s.toInt := Int.mul_nonneg hq (by omega)
  have em : (q * s).toInt = q.toInt * s.toInt := Jvm.Kit.i32_mul (by omega) (by omega)
  have ea : (q * s + r).toInt = q.toInt * s.toInt + r.toInt := by
    rw [Jvm.Kit.i32_add (by rw [em]; omega) (by rw [em]; omega), em]
  refine ⟨?_, ?_, ea⟩
  · apply Int32.toInt_inj.mp
    rw [Jvm.Kit.i32_rem_nonneg (by rw [ea]; omega), ea, Int.add_comm, Int.add_mul_emod_self_right]
    exact Int.emod_eq_of_lt hr hrs
  · apply Int32.toInt_inj.mp
    rw [Jvm.Kit.i32_div (by omega), ea, Int.tdiv_eq_ediv_of_nonneg (by omega), Int.add_comm, Int.add_mul_ediv_right _ _ (by omega), Int.ediv_eq_zero_of_lt hr hrs, Int.zero_add]
theorem own_bnd {q r s : Int32} {S : Int} (hq : 0 ≤ q.toInt) (hq1 : q.toInt < S) (hr : 0 ≤ r.toInt) (hrs : r.toInt < s.toInt) (hs : 1 ≤ s.toInt) : q.toInt * s.toInt + r.toInt < S * s.toInt := by
  have h := Int.mul_le_mul_of_nonneg_right (show q.toInt + 1 ≤ S by omega) (show 0 ≤ s.toInt by omega)
  rw [Int.add_mul, Int.one_mul] at h
  omega
theorem own_pw {s c : Int} {k m : Int} (h1 : 1 ≤ s) (h2 : s ≤ c) (hk : k ≤ m) (hm : 0 ≤ m) : k * s ≤ m * c := Int.le_trans (Int.mul_le_mul_of_nonneg_right hk (by omega)) (Int.mul_le_mul_of_nonneg_left h2 hm)
theorem own_cap2_2 {s : Int32} {z : Int} (h1 : 1 ≤ s.toInt) (hc : s.toInt ≤ 46340) (h : z < s.toInt * s.toInt) : z < 2 ^ 31 := by
  have := own_pw h1 hc hc (by decide)
  omega
theorem own_cap3_2 {s : Int32} {z : Int} (h1 : 1 ≤ s.toInt) (hc : s.toInt ≤ 1290) (h : z < s.toInt * s.toInt) : z < 2 ^ 31 := by
  have := own_pw h1 hc hc (by decide)
  omega
theorem own_cap3_3 {s : Int32} {z : Int} (h1 : 1 ≤ s.toInt) (hc : s.toInt ≤ 1290) (h : z < s.toInt * s.toInt * s.toInt) : z < 2 ^ 31 := by
  have := own_pw h1 hc (own_pw h1 hc hc (by decide)) (by decide)
  omega
theorem own_cap4_2 {s : Int32} {z : Int} (h1 : 1 ≤ s.toInt) (hc : s.toInt ≤ 215) (h : z < s.toInt * s.toInt) : z < 2 ^ 31 := by
  have := own_pw h1 hc hc (by decide)
  omega
theorem own_cap4_3 {s : Int32} {z : Int} (h1 : 1 ≤ s.toInt) (hc : s.toInt ≤ 215) (h : z < s.toInt * s.toInt * s.toInt) : z < 2 ^ 31 := by
  have := own_pw h1 hc (own_pw h1 hc hc (by decide)) (by decide)
  omega
theorem own_cap4_4 {s : Int32} {z : Int} (h1 : 1 ≤ s.toInt) (hc : s.toInt ≤ 215) (h : z < s.toInt * s.toInt * s.toInt * s.toInt) : z < 2 ^ 31 := by
  have := own_pw h1 hc (own_pw h1 hc (own_pw h1 hc hc (by decide)) (by decide)) (by decide)
  omega
theorem own_four {n : Int32} (h : 0 ≤ n.toInt ∧ n.toInt < 5) (h0 : ¬ n = 0) (h1 : ¬ n = 1) (h2 : ¬ n = 2) (h3 : ¬ n = 3) : n = 4 := by
  simp only [← Int32.toInt_inj, show (0 : Int32).toInt = 0 from rfl, show (1 : Int32).toInt = 1 from rfl, show (2 : Int32).toInt = 2 from rfl, show (3 : Int32).toInt = 3 from rfl, show (4 : Int32).toInt = 4 from rfl] at *
  omega
theorem d1_0 : decode prog_45_method_12_code 0 = .ok (.iload_n 0, 1) := by decide +kernel
theorem d1_1 : decode prog_45_method_12_code 1 = .ok (.istore_n 3, 1) := by decide +kernel
theorem d1_2 : decode prog_45_method_12_code 2 = .ok (.aload_n 2, 1) := by decide +kernel
theorem d1_3 : decode prog_45_method_12_code 3 = .ok (.arraylength, 1) := by decide +kernel
theorem d1_4 : decode prog_45_method_12_code 4 = .ok (.iconst 1, 1) := by decide +kernel
theorem d1_5 : decode prog_45_method_12_code 5 = .ok (.isub, 1) := by decide +kernel
theorem d1_6 : decode prog_45_method_12_code 6 = .ok (.istore 4, 2) := by decide +kernel
theorem d1_8 : decode prog_45_method_12_code 8 = .ok (.iload 4, 2) := by decide +kernel
theorem d1_10 : decode prog_45_method_12_code 10 = .ok (.ifCond .lt 20, 3) := by decide +kernel
theorem d1_13 : decode prog_45_method_12_code 13 = .ok (.aload_n 2, 1) := by decide +kernel
theorem d1_14 : decode prog_45_method_12_code 14 = .ok (.iload 4, 2) := by decide +kernel
theorem d1_16 : decode prog_45_method_12_code 16 = .ok (.iload_n 3, 1) := by decide +kernel
theorem d1_17 : decode prog_45_method_12_code 17 = .ok (.iload_n 1, 1) := by decide +kernel
theorem d1_18 : decode prog_45_method_12_code 18 = .ok (.irem, 1) := by decide +kernel
theorem d1_19 : decode prog_45_method_12_code 19 = .ok (.iastore, 1) := by decide +kernel
theorem d1_20 : decode prog_45_method_12_code 20 = .ok (.iload_n 3, 1) := by decide +kernel
theorem d1_21 : decode prog_45_method_12_code 21 = .ok (.iload_n 1, 1) := by decide +kernel
theorem d1_22 : decode prog_45_method_12_code 22 = .ok (.idiv, 1) := by decide +kernel
theorem d1_23 : decode prog_45_method_12_code 23 = .ok (.istore_n 3, 1) := by decide +kernel
theorem d1_24 : decode prog_45_method_12_code 24 = .ok (.iinc 4 (-1), 3) := by decide +kernel
theorem d1_27 : decode prog_45_method_12_code 27 = .ok (.goto (-19), 3) := by decide +kernel
theorem d1_30 : decode prog_45_method_12_code 30 = .ok (.return_, 1) := by decide +kernel
theorem pn_1 : plainName "com/example/grovebra/grovebra/TreeAlgebra" = true := by first | (simp [plainName, overriddenIn]; done) | decide +kernel
theorem pn_0 : plainName "com/example/grovebra/grovebra/TreeAlgebraTupleAtPinLaw" = true := by first | (simp [plainName, overriddenIn]; done) | decide +kernel
theorem pd_0 : parseMethodDescriptor "(II[I)V" = some ⟨[.int, .int, (.array .int)], none⟩ := by decide +kernel
theorem ef_1_0 (m : MethodId) (x0 : Int32) (x1 : Int32) (x2 : Addr) : entryFrame m #[(.int x0), (.int x1), (.ref x2)] 5 = mkF m 0 #[.val (.int x0), .val (.int x1), .val (.ref x2), .unset, .unset] [] := by first | (simp [entryFrame, mkF, argsToLocals, Value.category]; done) | rfl
def Q1_0 (Z : State) (p1 : Int32) (p2 : Int32) (a3 : Addr) (k3 : ClassId) (h0 : Heap) (n0 : Nat) (v : Option Value) (h : Heap) (L : List Loc) : Prop := v = none ∧ Fr n0 L ∧ n0 ≤ h.size ∧ Arv Z h a3 k3 .int (0 : Int32) [] (.int (0 : Int32))
set_option maxRecDepth 65536 in
set_option maxHeartbeats 40000000 in
theorem rm1_0 (l : Launch) (Z : State) (a0 : Array Value) (hw : ∀ d ∈ tables_1, d.before a0 Z = true) (ws : List Jvm.Cond) (p1 : Int32) (p2 : Int32) (a3 : Addr) (k3 : ClassId) (h0 : Heap) (n0 : Nat) (Z0 : n0 ≤ h0.size) (V3 : Arv Z h0 a3 k3 .int (0 : Int32) [] (.int (0 : Int32))) (hnz : ¬ p2 = 0) (g3 : n0 ≤ a3) :
    MetFree l (⟨"com/example/grovebra/grovebra/TreeAlgebra", "tupleAt", "(II[I)V"⟩ : MethodName) (head1 (Jvm.Cond.code (⟨"com/example/grovebra/grovebra/TreeAlgebra", "tupleAt", "(II[I)V"⟩ : MethodName) prog_45_method_12_code 5 none :: ws) ({ frames := 0, cells := 0, slots := 0, locals := 0 } : Room)) (fun a U => a = #[(.int p1), (.int p2), (.ref a3)] ∧ Z.Warmed39 U.vm ∧ U.heap = h0) (fun _ _ _ _ _ => True) (fun _ U o U' => ∃ v L, o = .returned v ∧ Q1_0 Z p1 p2 a3  k3 h0 n0 v U'.heap L ∧ FrameEnd U o U' L ({ frames := 0, cells := 0, slots := 0, locals := 0 } : Room).cells ({ frames := 0, cells := 0, slots := 0, locals := 0 } : Room).slots) := by
  refine MetFree.of_bodySF (plainFor_of_name pn_1) hisR ?_
  intro p e s m args below meth c s₁ Bd hml0 hP hK
  obtain ⟨rfl, hZ, hh⟩ := hP
  have hx := Bd.exec
  have hby := Bd.bytes
  have hml : c.maxLocals = 5 := hml0
  have hown : s.vm.findClass "com/example/grovebra/grovebra/TreeAlgebra" = some m.cls := findClass_of_methodNamed Bd.named
  have hnm := (name_of_methodNamed Bd.named Bd.method).1
  have X0 : Stand p l e ({ frames := 0, cells := 0, slots := 0, locals := 0 } : Room) s m #[(.int p1), (.int p2), (.ref a3)] below meth c s₁ [] 0 0 := Stand.of_body Bd
  have e0 : s₁.heap = h0 := by rw [← hh, Bd.state]; rfl
  have N0 := Fr.nil n0
  refine own_adv (B := (s₁.setTop (mkF m 0 #[.val (.int p1), .val (.int p2), .val (.ref a3), .unset, .unset] []))) (fun t k => castTop (ef_1_0 m p1 p2 a3) k) ?_
  obtain ⟨cl1, Ar1, Aq1, AS1, AN1, AH1, AG1⟩ := id V3
  refine own_adv (B := (s₁.setTop (mkF m 8 #[.val (.int p1), .val (.int p2), .val (.ref a3), .val (.int p1), .val (.int (-1 : Int32))] []))) (fun t k => ?_) ?_
  · show Steps p.tables e below (s₁.setTop (mkF m 0 #[.val (.int p1), .val (.int p2), .val (.ref a3), .unset, .unset] [])) _
    refine XS.iloadN X0.here hx rfl (hb hby d1_0) rfl ?_
    show Steps p.tables e below (s₁.setTop (mkF m 1 #[.val (.int p1), .val (.int p2), .val (.ref a3), .unset, .unset] [(.int p1)])) _
    refine XS.istoreN X0.here hx rfl (hb hby d1_1) rfl (l' := #[.val (.int p1), .val (.int p2), .val (.ref a3), .val (.int p1), .unset]) rfl ?_
    show Steps p.tables e below (s₁.setTop (mkF m 2 #[.val (.int p1), .val (.int p2), .val (.ref a3), .val (.int p1), .unset] [])) _
    refine XS.aloadN X0.here hx rfl (hb hby d1_2) rfl rfl ?_
    show Steps p.tables e below (s₁.setTop (mkF m 3 #[.val (.int p1), .val (.int p2), .val (.ref a3), .val (.int p1), .unset] [(.ref a3)])) _
    refine X0.arraylength hx (by rw [e0]; exact Ar1.1) (State.isArrayOf_alike hZ.alike Ar1.2.1) (g := (mkF m 3 #[.val (.int p1), .val (.int p2), .val (.ref a3), .val (.int p1), .unset] [(.ref a3)])) rfl rfl (hb hby d1_3) _ ?_
    rw [len_of AS1 AN1]
    show Steps p.tables e below (s₁.setTop (mkF m 4 #[.val (.int p1), .val (.int p2), .val (.ref a3), .val (.int p1), .unset] [(.int (0 : Int32))])) _
    refine XS.iconst X0.here hx rfl (hb hby d1_4) ?_
    show Steps p.tables e below (s₁.setTop (mkF m 5 #[.val (.int p1), .val (.int p2), .val (.ref a3), .val (.int p1), .unset] [(.int (1 : Int32)), (.int (0 : Int32))])) _
    refine XS.isub X0.here hx rfl (hb hby d1_5) rfl ?_
    show Steps p.tables e below (s₁.setTop (mkF m 6 #[.val (.int p1), .val (.int p2), .val (.ref a3), .val (.int p1), .unset] [(.int (-1 : Int32))])) _
    refine XS.istore X0.here hx rfl (hb hby d1_6) rfl (l' := #[.val (.int p1), .val (.int p2), .val (.ref a3), .val (.int p1), .val (.int (-1 : Int32))]) rfl ?_
    exact k
  refine own_adv (B := (s₁.setTop (mkF m 30 #[.val (.int p1), .val (.int p2), .val (.ref a3), .val (.int p1), .val (.int (-1 : Int32))] []))) (fun t k => ?_) ?_
  · show Steps p.tables e below (s₁.setTop (mkF m 8 #[.val (.int p1), .val (.int p2), .val (.ref a3), .val (.int p1), .val (.int (-1 : Int32))] [])) _
    refine XS.iload X0.here hx rfl (hb hby d1_8) rfl ?_
    show Steps p.tables e below (s₁.setTop (mkF m 10 #[.val (.int p1), .val (.int p2), .val (.ref a3), .val (.int p1), .val (.int (-1 : Int32))] [(.int (-1 : Int32))])) _
    refine XS.ifYes X0.here hx rfl (pc0 := 10) (pc' := 30) rfl (hb hby d1_10) rfl ((if0 _ _).trans (tlt (by decide)).1) (by decide) (by decide) ?_
    exact k
  obtain ⟨fs, hr, hrun, hended, hW, hsame⟩ := X0.leave (v := none) (fun _ => rfl)
  refine ⟨_, _, ?_, hrun, hended, _, _, rfl, ?_, ⟨_, rfl⟩, hW, hsame.mono (by decide) (by decide)⟩
  · show Steps p.tables e below (s₁.setTop (mkF m 30 #[.val (.int p1), .val (.int p2), .val (.ref a3), .val (.int p1), .val (.int (-1 : Int32))] [])) _
    exact X0.returnOut hx Bd.returns (hb hby d1_30) hr
  · show Q1_0 Z p1 p2 a3  k3 h0 n0 _ s₁.heap _
    rw [e0]
    exact ⟨rfl, N0, Z0, V3⟩
theorem ef_1_1 (m : MethodId) (x0 : Int32) (x1 : Int32) (x2 : Addr) : entryFrame m #[(.int x0), (.int x1), (.ref x2)] 5 = mkF m 0 #[.val (.int x0), .val (.int x1), .val (.ref x2), .unset, .unset] [] := by first | (simp [entryFrame, mkF, argsToLocals, Value.category]; done) | rfl
def Q1_1 (Z : State) (p1 : Int32) (p2 : Int32) (a3 : Addr) (u0 : Int32) (k3 : ClassId) (h0 : Heap) (n0 : Nat) (v : Option Value) (h : Heap) (L : List Loc) : Prop := v = none ∧ Fr n0 L ∧ n0 ≤ h.size ∧ Arv Z h a3 k3 .int (1 : Int32) [(.int (p1 % p2))] (.int (0 : Int32))
set_option maxRecDepth 65536 in
set_option maxHeartbeats 40000000 in
theorem rm1_1 (l : Launch) (Z : State) (a0 : Array Value) (hw : ∀ d ∈ tables_1, d.before a0 Z = true) (ws : List Jvm.Cond) (p1 : Int32) (p2 : Int32) (a3 : Addr) (u0 : Int32) (k3 : ClassId) (h0 : Heap) (n0 : Nat) (Z0 : n0 ≤ h0.size) (V3 : Arv Z h0 a3 k3 .int (1 : Int32) [(.int u0)] (.int (0 : Int32))) (hnz : ¬ p2 = 0) (g3 : n0 ≤ a3) :
    MetFree l (⟨"com/example/grovebra/grovebra/TreeAlgebra", "tupleAt", "(II[I)V"⟩ : MethodName) (head1 (Jvm.Cond.code (⟨"com/example/grovebra/grovebra/TreeAlgebra", "tupleAt", "(II[I)V"⟩ : MethodName) prog_45_method_12_code 5 none :: ws) ({ frames := 0, cells := 0, slots := 0, locals := 0 } : Room)) (fun a U => a = #[(.int p1), (.int p2), (.ref a3)] ∧ Z.Warmed39 U.vm ∧ U.heap = h0) (fun _ _ _ _ _ => True) (fun _ U o U' => ∃ v L, o = .returned v ∧ Q1_1 Z p1 p2 a3 u0 k3 h0 n0 v U'.heap L ∧ FrameEnd U o U' L ({ frames := 0, cells := 0, slots := 0, locals := 0 } : Room).cells ({ frames := 0, cells := 0, slots := 0, locals := 0 } : Room).slots) := by
  refine MetFree.of_bodySF (plainFor_of_name pn_1) hisR ?_
  intro p e s m args below meth c s₁ Bd hml0 hP hK
  obtain ⟨rfl, hZ, hh⟩ := hP
  have hx := Bd.exec
  have hby := Bd.bytes
  have hml : c.maxLocals = 5 := hml0
  have hown : s.vm.findClass "com/example/grovebra/grovebra/TreeAlgebra" = some m.cls := findClass_of_methodNamed Bd.named
  have hnm := (name_of_methodNamed Bd.named Bd.method).1
  have X0 : Stand p l e ({ frames := 0, cells := 0, slots := 0, locals := 0 } : Room) s m #[(.int p1), (.int p2), (.ref a3)] below meth c s₁ [] 0 0 := Stand.of_body Bd
  have e0 : s₁.heap = h0 := by rw [← hh, Bd.state]; rfl
  have N0 := Fr.nil n0
  refine own_adv (B := (s₁.setTop (mkF m 0 #[.val (.int p1), .val (.int p2), .val (.ref a3), .unset, .unset] []))) (fun t k => castTop (ef_1_1 m p1 p2 a3) k) ?_
  obtain ⟨cl2, Ar2, Aq2, AS2, AN2, AH2, AG2⟩ := id V3
  refine own_adv (B := (s₁.setTop (mkF m 8 #[.val (.int p1), .val (.int p2), .val (.ref a3), .val (.int p1), .val (.int (0 : Int32))] []))) (fun t k => ?_) ?_
  · show Steps p.tables e below (s₁.setTop (mkF m 0 #[.val (.int p1), .val (.int p2), .val (.ref a3), .unset, .unset] [])) _
    refine XS.iloadN X0.here hx rfl (hb hby d1_0) rfl ?_
    show Steps p.tables e below (s₁.setTop (mkF m 1 #[.val (.int p1), .val (.int p2), .val (.ref a3), .unset, .unset] [(.int p1)])) _
    refine XS.istoreN X0.here hx rfl (hb hby d1_1) rfl (l' := #[.val (.int p1), .val (.int p2), .val (.ref a3), .val (.int p1), .unset]) rfl ?_
    show Steps p.tables e below (s₁.setTop (mkF m 2 #[.val (.int p1), .val (.int p2), .val (.ref a3), .val (.int p1), .unset] [])) _
    refine XS.aloadN X0.here hx rfl (hb hby d1_2) rfl rfl ?_
    show Steps p.tables e below (s₁.setTop (mkF m 3 #[.val (.int p1), .val (.int p2), .val (.ref a3), .val (.int p1), .unset] [(.ref a3)])) _
    refine X0.arraylength hx (by rw [e0]; exact Ar2.1) (State.isArrayOf_alike hZ.alike Ar2.2.1) (g := (mkF m 3 #[.val (.int p1), .val (.int p2), .val (.ref a3), .val (.int p1), .unset] [(.ref a3)])) rfl rfl (hb hby d1_3) _ ?_
    rw [len_of AS2 AN2]
    show Steps p.tables e below (s₁.setTop (mkF m 4 #[.val (.int p1), .val (.int p2), .val (.ref a3), .val (.int p1), .unset] [(.int (1 : Int32))])) _
    refine XS.iconst X0.here hx rfl (hb hby d1_4) ?_
    show Steps p.tables e below (s₁.setTop (mkF m 5 #[.val (.int p1), .val (.int p2), .val (.ref a3), .val (.int p1), .unset] [(.int (1 : Int32)), (.int (1 : Int32))])) _
    refine XS.isub X0.here hx rfl (hb hby d1_5) rfl ?_
    show Steps p.tables e below (s₁.setTop (mkF m 6 #[.val (.int p1), .val (.int p2), .val (.ref a3), .val (.int p1), .unset] [(.int (0 : Int32))])) _
    refine XS.istore X0.here hx rfl (hb hby d1_6) rfl (l' := #[.val (.int p1), .val (.int p2), .val (.ref a3), .val (.int p1), .val (.int (0 : Int32))]) rfl ?_
    exact k
  refine own_adv (B := (s₁.setTop (mkF m 19 #[.val (.int p1), .val (.int p2), .val (.ref a3), .val (.int p1), .val (.int (0 : Int32))] [(.int (p1 % p2)), (.int (0 : Int32)), (.ref a3)]))) (fun t k => ?_) ?_
  · show Steps p.tables e below (s₁.setTop (mkF m 8 #[.val (.int p1), .val (.int p2), .val (.ref a3), .val (.int p1), .val (.int (0 : Int32))] [])) _
    refine XS.iload X0.here hx rfl (hb hby d1_8) rfl ?_
    show Steps p.tables e below (s₁.setTop (mkF m 10 #[.val (.int p1), .val (.int p2), .val (.ref a3), .val (.int p1), .val (.int (0 : Int32))] [(.int (0 : Int32))])) _
    refine XS.ifNo X0.here hx rfl (hb hby d1_10) rfl ((if0 _ _).trans (flt (by decide)).1) ?_
    show Steps p.tables e below (s₁.setTop (mkF m 13 #[.val (.int p1), .val (.int p2), .val (.ref a3), .val (.int p1), .val (.int (0 : Int32))] [])) _
    refine XS.aloadN X0.here hx rfl (hb hby d1_13) rfl rfl ?_
    show Steps p.tables e below (s₁.setTop (mkF m 14 #[.val (.int p1), .val (.int p2), .val (.ref a3), .val (.int p1), .val (.int (0 : Int32))] [(.ref a3)])) _
    refine XS.iload X0.here hx rfl (hb hby d1_14) rfl ?_
    show Steps p.tables e below (s₁.setTop (mkF m 16 #[.val (.int p1), .val (.int p2), .val (.ref a3), .val (.int p1), .val (.int (0 : Int32))] [(.int (0 : Int32)), (.ref a3)])) _
    refine XS.iloadN X0.here hx rfl (hb hby d1_16) rfl ?_
    show Steps p.tables e below (s₁.setTop (mkF m 17 #[.val (.int p1), .val (.int p2), .val (.ref a3), .val (.int p1), .val (.int (0 : Int32))] [(.int p1), (.int (0 : Int32)), (.ref a3)])) _
    refine XS.iloadN X0.here hx rfl (hb hby d1_17) rfl ?_
    show Steps p.tables e below (s₁.setTop (mkF m 18 #[.val (.int p1), .val (.int p2), .val (.ref a3), .val (.int p1), .val (.int (0 : Int32))] [(.int p2), (.int p1), (.int (0 : Int32)), (.ref a3)])) _
    refine iremM X0 hx rfl (hb hby d1_18) rfl hnz ?_
    exact k
  obtain ⟨T3, h3, X3, e3, W3, st3⟩ := stI X0 hx hZ e0 Ar2 (j := (0 : Int32)) (inb_of AS2 ⟨by decide, by decide⟩) (g := (mkF m 19 #[.val (.int p1), .val (.int p2), .val (.ref a3), .val (.int p1), .val (.int (0 : Int32))] [(.int (p1 % p2)), (.int (0 : Int32)), (.ref a3)])) rfl rfl (hb hby d1_19)
  have N3 := Fr.snoc X3 N0 g3
  refine own_adv (B := (T3.setTop (mkF m 20 #[.val (.int p1), .val (.int p2), .val (.ref a3), .val (.int p1), .val (.int (0 : Int32))] []))) st3 ?_
  have Va3_3 : Arv Z h3 a3 k3 .int (1 : Int32) [(.int (p1 % p2))] (.int (0 : Int32)) := Arv.set Ar2 Aq2 AS2 AN2 AH2 AG2 rfl W3 0 rfl (Nat.le_of_ble_eq_true rfl)
  have ZZ3 : n0 ≤ h3.size := Nat.le_trans Z0 (Keep.of_wr W3).1
  refine own_adv (B := (T3.setTop (mkF m 8 #[.val (.int p1), .val (.int p2), .val (.ref a3), .val (.int (p1 / p2)), .val (.int (-1 : Int32))] []))) (fun t k => ?_) ?_
  · show Steps p.tables e below (T3.setTop (mkF m 20 #[.val (.int p1), .val (.int p2), .val (.ref a3), .val (.int p1), .val (.int (0 : Int32))] [])) _
    refine XS.iloadN X3.here hx rfl (hb hby d1_20) rfl ?_
    show Steps p.tables e below (T3.setTop (mkF m 21 #[.val (.int p1), .val (.int p2), .val (.ref a3), .val (.int p1), .val (.int (0 : Int32))] [(.int p1)])) _
    refine XS.iloadN X3.here hx rfl (hb hby d1_21) rfl ?_
    show Steps p.tables e below (T3.setTop (mkF m 22 #[.val (.int p1), .val (.int p2), .val (.ref a3), .val (.int p1), .val (.int (0 : Int32))] [(.int p2), (.int p1)])) _
    refine XS.idiv X3.here hx rfl (hb hby d1_22) rfl hnz ?_
    show Steps p.tables e below (T3.setTop (mkF m 23 #[.val (.int p1), .val (.int p2), .val (.ref a3), .val (.int p1), .val (.int (0 : Int32))] [(.int (p1 / p2))])) _
    refine XS.istoreN X3.here hx rfl (hb hby d1_23) rfl (l' := #[.val (.int p1), .val (.int p2), .val (.ref a3), .val (.int (p1 / p2)), .val (.int (0 : Int32))]) rfl ?_
    show Steps p.tables e below (T3.setTop (mkF m 24 #[.val (.int p1), .val (.int p2), .val (.ref a3), .val (.int (p1 / p2)), .val (.int (0 : Int32))] [])) _
    refine XS.iinc X3.here hx rfl (hb hby d1_24) rfl (l' := #[.val (.int p1), .val (.int p2), .val (.ref a3), .val (.int (p1 / p2)), .val (.int (-1 : Int32))]) rfl ?_
    show Steps p.tables e below (T3.setTop (mkF m 27 #[.val (.int p1), .val (.int p2), .val (.ref a3), .val (.int (p1 / p2)), .val (.int (-1 : Int32))] [])) _
    refine XS.goto X3.here hx rfl (pc0 := 27) (pc' := 8) rfl (hb hby d1_27) (by decide) (by decide) ?_
    exact k
  refine own_adv (B := (T3.setTop (mkF m 30 #[.val (.int p1), .val (.int p2), .val (.ref a3), .val (.int (p1 / p2)), .val (.int (-1 : Int32))] []))) (fun t k => ?_) ?_
  · show Steps p.tables e below (T3.setTop (mkF m 8 #[.val (.int p1), .val (.int p2), .val (.ref a3), .val (.int (p1 / p2)), .val (.int (-1 : Int32))] [])) _
    refine XS.iload X3.here hx rfl (hb hby d1_8) rfl ?_
    show Steps p.tables e below (T3.setTop (mkF m 10 #[.val (.int p1), .val (.int p2), .val (.ref a3), .val (.int (p1 / p2)), .val (.int (-1 : Int32))] [(.int (-1 : Int32))])) _
    refine XS.ifYes X3.here hx rfl (pc0 := 10) (pc' := 30) rfl (hb hby d1_10) rfl ((if0 _ _).trans (tlt (by decide)).1) (by decide) (by decide) ?_
    exact k
  obtain ⟨fs, hr, hrun, hended, hW, hsame⟩ := X3.leave (v := none) (fun _ => rfl)
  refine ⟨_, _, ?_, hrun, hended, _, _, rfl, ?_, ⟨_, rfl⟩, hW, hsame.mono (by decide) (by decide)⟩
  · show Steps p.tables e below (T3.setTop (mkF m 30 #[.val (.int p1), .val (.int p2), .val (.ref a3), .val (.int (p1 / p2)), .val (.int (-1 : Int32))] [])) _
    exact X3.returnOut hx Bd.returns (hb hby d1_30) hr
  · show Q1_1 Z p1 p2 a3 u0 k3 h0 n0 _ T3.heap _
    rw [e3]
    exact ⟨rfl, N3, ZZ3, Va3_3⟩
theorem ef_1_2 (m : MethodId) (x0 : Int32) (x1 : Int32) (x2 : Addr) : entryFrame m #[(.int x0), (.int x1), (.ref x2)] 5 = mkF m 0 #[.val (.int x0), .val (.int x1), .val (.ref x2), .unset, .unset] [] := by first | (simp [entryFrame, mkF, argsToLocals, Value.category]; done) | rfl
def Q1_2 (Z : State) (p1 : Int32) (p2 : Int32) (a3 : Addr) (u0 u1 : Int32) (k3 : ClassId) (h0 : Heap) (n0 : Nat) (v : Option Value) (h : Heap) (L : List Loc) : Prop := v = none ∧ Fr n0 L ∧ n0 ≤ h.size ∧ Arv Z h a3 k3 .int (2 : Int32) [(.int ((p1 / p2) % p2)), (.int (p1 % p2))] (.int (0 : Int32))
set_option maxRecDepth 65536 in
set_option maxHeartbeats 40000000 in
theorem rm1_2 (l : Launch) (Z : State) (a0 : Array Value) (hw : ∀ d ∈ tables_1, d.before a0 Z = true) (ws : List Jvm.Cond) (p1 : Int32) (p2 : Int32) (a3 : Addr) (u0 u1 : Int32) (k3 : ClassId) (h0 : Heap) (n0 : Nat) (Z0 : n0 ≤ h0.size) (V3 : Arv Z h0 a3 k3 .int (2 : Int32) [(.int u0), (.int u1)] (.int (0 : Int32))) (hnz : ¬ p2 = 0) (g3 : n0 ≤ a3) :
    MetFree l (⟨"com/example/grovebra/grovebra/TreeAlgebra", "tupleAt", "(II[I)V"⟩ : MethodName) (head1 (Jvm.Cond.code (⟨"com/example/grovebra/grovebra/TreeAlgebra", "tupleAt", "(II[I)V"⟩ : MethodName) prog_45_method_12_code 5 none :: ws) ({ frames := 0, cells := 0, slots := 0, locals := 0 } : Room)) (fun a U => a = #[(.int p1), (.int p2), (.ref a3)] ∧ Z.Warmed39 U.vm ∧ U.heap = h0) (fun _ _ _ _ _ => True) (fun _ U o U' => ∃ v L, o = .returned v ∧ Q1_2 Z p1 p2 a3 u0 u1 k3 h0 n0 v U'.heap L ∧ FrameEnd U o U' L ({ frames := 0, cells := 0, slots := 0, locals := 0 } : Room).cells ({ frames := 0, cells := 0, slots := 0, locals := 0 } : Room).slots) := by
  refine MetFree.of_bodySF (plainFor_of_name pn_1) hisR ?_
  intro p e s m args below meth c s₁ Bd hml0 hP hK
  obtain ⟨rfl, hZ, hh⟩ := hP
  have hx := Bd.exec
  have hby := Bd.bytes
  have hml : c.maxLocals = 5 := hml0
  have hown : s.vm.findClass "com/example/grovebra/grovebra/TreeAlgebra" = some m.cls := findClass_of_methodNamed Bd.named
  have hnm := (name_of_methodNamed Bd.named Bd.method).1
  have X0 : Stand p l e ({ frames := 0, cells := 0, slots := 0, locals := 0 } : Room) s m #[(.int p1), (.int p2), (.ref a3)] below meth c s₁ [] 0 0 := Stand.of_body Bd
  have e0 : s₁.heap = h0 := by rw [← hh, Bd.state]; rfl
  have N0 := Fr.nil n0
  refine own_adv (B := (s₁.setTop (mkF m 0 #[.val (.int p1), .val (.int p2), .val (.ref a3), .unset, .unset] []))) (fun t k => castTop (ef_1_2 m p1 p2 a3) k) ?_
  obtain ⟨cl4, Ar4, Aq4, AS4, AN4, AH4, AG4⟩ := id V3
  refine own_adv (B := (s₁.setTop (mkF m 8 #[.val (.int p1), .val (.int p2), .val (.ref a3), .val (.int p1), .val (.int (1 : Int32))] []))) (fun t k => ?_) ?_
  · show Steps p.tables e below (s₁.setTop (mkF m 0 #[.val (.int p1), .val (.int p2), .val (.ref a3), .unset, .unset] [])) _
    refine XS.iloadN X0.here hx rfl (hb hby d1_0) rfl ?_
    show Steps p.tables e below (s₁.setTop (mkF m 1 #[.val (.int p1), .val (.int p2), .val (.ref a3), .unset, .unset] [(.int p1)])) _
    refine XS.istoreN X0.here hx rfl (hb hby d1_1) rfl (l' := #[.val (.int p1), .val (.int p2), .val (.ref a3), .val (.int p1), .unset]) rfl ?_
    show Steps p.tables e below (s₁.setTop (mkF m 2 #[.val (.int p1), .val (.int p2), .val (.ref a3), .val (.int p1), .unset] [])) _
    refine XS.aloadN X0.here hx rfl (hb hby d1_2) rfl rfl ?_
    show Steps p.tables e below (s₁.setTop (mkF m 3 #[.val (.int p1), .val (.int p2), .val (.ref a3), .val (.int p1), .unset] [(.ref a3)])) _
    refine X0.arraylength hx (by rw [e0]; exact Ar4.1) (State.isArrayOf_alike hZ.alike Ar4.2.1) (g := (mkF m 3 #[.val (.int p1), .val (.int p2), .val (.ref a3), .val (.int p1), .unset] [(.ref a3)])) rfl rfl (hb hby d1_3) _ ?_
    rw [len_of AS4 AN4]
    show Steps p.tables e below (s₁.setTop (mkF m 4 #[.val (.int p1), .val (.int p2), .val (.ref a3), .val (.int p1), .unset] [(.int (2 : Int32))])) _
    refine XS.iconst X0.here hx rfl (hb hby d1_4) ?_
    show Steps p.tables e below (s₁.setTop (mkF m 5 #[.val (.int p1), .val (.int p2), .val (.ref a3), .val (.int p1), .unset] [(.int (1 : Int32)), (.int (2 : Int32))])) _
    refine XS.isub X0.here hx rfl (hb hby d1_5) rfl ?_
    show Steps p.tables e below (s₁.setTop (mkF m 6 #[.val (.int p1), .val (.int p2), .val (.ref a3), .val (.int p1), .unset] [(.int (1 : Int32))])) _
    refine XS.istore X0.here hx rfl (hb hby d1_6) rfl (l' := #[.val (.int p1), .val (.int p2), .val (.ref a3), .val (.int p1), .val (.int (1 : Int32))]) rfl ?_
    exact k
  refine own_adv (B := (s₁.setTop (mkF m 19 #[.val (.int p1), .val (.int p2), .val (.ref a3), .val (.int p1), .val (.int (1 : Int32))] [(.int (p1 % p2)), (.int (1 : Int32)), (.ref a3)]))) (fun t k => ?_) ?_
  · show Steps p.tables e below (s₁.setTop (mkF m 8 #[.val (.int p1), .val (.int p2), .val (.ref a3), .val (.int p1), .val (.int (1 : Int32))] [])) _
    refine XS.iload X0.here hx rfl (hb hby d1_8) rfl ?_
    show Steps p.tables e below (s₁.setTop (mkF m 10 #[.val (.int p1), .val (.int p2), .val (.ref a3), .val (.int p1), .val (.int (1 : Int32))] [(.int (1 : Int32))])) _
    refine XS.ifNo X0.here hx rfl (hb hby d1_10) rfl ((if0 _ _).trans (flt (by decide)).1) ?_
    show Steps p.tables e below (s₁.setTop (mkF m 13 #[.val (.int p1), .val (.int p2), .val (.ref a3), .val (.int p1), .val (.int (1 : Int32))] [])) _
    refine XS.aloadN X0.here hx rfl (hb hby d1_13) rfl rfl ?_
    show Steps p.tables e below (s₁.setTop (mkF m 14 #[.val (.int p1), .val (.int p2), .val (.ref a3), .val (.int p1), .val (.int (1 : Int32))] [(.ref a3)])) _
    refine XS.iload X0.here hx rfl (hb hby d1_14) rfl ?_
    show Steps p.tables e below (s₁.setTop (mkF m 16 #[.val (.int p1), .val (.int p2), .val (.ref a3), .val (.int p1), .val (.int (1 : Int32))] [(.int (1 : Int32)), (.ref a3)])) _
    refine XS.iloadN X0.here hx rfl (hb hby d1_16) rfl ?_
    show Steps p.tables e below (s₁.setTop (mkF m 17 #[.val (.int p1), .val (.int p2), .val (.ref a3), .val (.int p1), .val (.int (1 : Int32))] [(.int p1), (.int (1 : Int32)), (.ref a3)])) _
    refine XS.iloadN X0.here hx rfl (hb hby d1_17) rfl ?_
    show Steps p.tables e below (s₁.setTop (mkF m 18 #[.val (.int p1), .val (.int p2), .val (.ref a3), .val (.int p1), .val (.int (1 : Int32))] [(.int p2), (.int p1), (.int (1 : Int32)), (.ref a3)])) _
    refine iremM X0 hx rfl (hb hby d1_18) rfl hnz ?_
    exact k
  obtain ⟨T5, h5, X5, e5, W5, st5⟩ := stI X0 hx hZ e0 Ar4 (j := (1 : Int32)) (inb_of AS4 ⟨by decide, by decide⟩) (g := (mkF m 19 #[.val (.int p1), .val (.int p2), .val (.ref a3), .val (.int p1), .val (.int (1 : Int32))] [(.int (p1 % p2)), (.int (1 : Int32)), (.ref a3)])) rfl rfl (hb hby d1_19)
  have N5 := Fr.snoc X5 N0 g3
  refine own_adv (B := (T5.setTop (mkF m 20 #[.val (.int p1), .val (.int p2), .val (.ref a3), .val (.int p1), .val (.int (1 : Int32))] []))) st5 ?_
  have Va3_5 : Arv Z h5 a3 k3 .int (2 : Int32) [(.int u0), (.int (p1 % p2))] (.int (0 : Int32)) := Arv.set Ar4 Aq4 AS4 AN4 AH4 AG4 rfl W5 1 rfl (Nat.le_of_ble_eq_true rfl)
  have ZZ5 : n0 ≤ h5.size := Nat.le_trans Z0 (Keep.of_wr W5).1
  refine own_adv (B := (T5.setTop (mkF m 8 #[.val (.int p1), .val (.int p2), .val (.ref a3), .val (.int (p1 / p2)), .val (.int (0 : Int32))] []))) (fun t k => ?_) ?_
  · show Steps p.tables e below (T5.setTop (mkF m 20 #[.val (.int p1), .val (.int p2), .val (.ref a3), .val (.int p1), .val (.int (1 : Int32))] [])) _
    refine XS.iloadN X5.here hx rfl (hb hby d1_20) rfl ?_
    show Steps p.tables e below (T5.setTop (mkF m 21 #[.val (.int p1), .val (.int p2), .val (.ref a3), .val (.int p1), .val (.int (1 : Int32))] [(.int p1)])) _
    refine XS.iloadN X5.here hx rfl (hb hby d1_21) rfl ?_
    show Steps p.tables e below (T5.setTop (mkF m 22 #[.val (.int p1), .val (.int p2), .val (.ref a3), .val (.int p1), .val (.int (1 : Int32))] [(.int p2), (.int p1)])) _
    refine XS.idiv X5.here hx rfl (hb hby d1_22) rfl hnz ?_
    show Steps p.tables e below (T5.setTop (mkF m 23 #[.val (.int p1), .val (.int p2), .val (.ref a3), .val (.int p1), .val (.int (1 : Int32))] [(.int (p1 / p2))])) _
    refine XS.istoreN X5.here hx rfl (hb hby d1_23) rfl (l' := #[.val (.int p1), .val (.int p2), .val (.ref a3), .val (.int (p1 / p2)), .val (.int (1 : Int32))]) rfl ?_
    show Steps p.tables e below (T5.setTop (mkF m 24 #[.val (.int p1), .val (.int p2), .val (.ref a3), .val (.int (p1 / p2)), .val (.int (1 : Int32))] [])) _
    refine XS.iinc X5.here hx rfl (hb hby d1_24) rfl (l' := #[.val (.int p1), .val (.int p2), .val (.ref a3), .val (.int (p1 / p2)), .val (.int (0 : Int32))]) rfl ?_
    show Steps p.tables e below (T5.setTop (mkF m 27 #[.val (.int p1), .val (.int p2), .val (.ref a3), .val (.int (p1 / p2)), .val (.int (0 : Int32))] [])) _
    refine XS.goto X5.here hx rfl (pc0 := 27) (pc' := 8) rfl (hb hby d1_27) (by decide) (by decide) ?_
    exact k
  obtain ⟨cl6, Ar6, Aq6, AS6, AN6, AH6, AG6⟩ := id Va3_5
  refine own_adv (B := (T5.setTop (mkF m 19 #[.val (.int p1), .val (.int p2), .val (.ref a3), .val (.int (p1 / p2)), .val (.int (0 : Int32))] [(.int ((p1 / p2) % p2)), (.int (0 : Int32)), (.ref a3)]))) (fun t k => ?_) ?_
  · show Steps p.tables e below (T5.setTop (mkF m 8 #[.val (.int p1), .val (.int p2), .val (.ref a3), .val (.int (p1 / p2)), .val (.int (0 : Int32))] [])) _
    refine XS.iload X5.here hx rfl (hb hby d1_8) rfl ?_
    show Steps p.tables e below (T5.setTop (mkF m 10 #[.val (.int p1), .val (.int p2), .val (.ref a3), .val (.int (p1 / p2)), .val (.int (0 : Int32))] [(.int (0 : Int32))])) _
    refine XS.ifNo X5.here hx rfl (hb hby d1_10) rfl ((if0 _ _).trans (flt (by decide)).1) ?_
    show Steps p.tables e below (T5.setTop (mkF m 13 #[.val (.int p1), .val (.int p2), .val (.ref a3), .val (.int (p1 / p2)), .val (.int (0 : Int32))] [])) _
    refine XS.aloadN X5.here hx rfl (hb hby d1_13) rfl rfl ?_
    show Steps p.tables e below (T5.setTop (mkF m 14 #[.val (.int p1), .val (.int p2), .val (.ref a3), .val (.int (p1 / p2)), .val (.int (0 : Int32))] [(.ref a3)])) _
    refine XS.iload X5.here hx rfl (hb hby d1_14) rfl ?_
    show Steps p.tables e below (T5.setTop (mkF m 16 #[.val (.int p1), .val (.int p2), .val (.ref a3), .val (.int (p1 / p2)), .val (.int (0 : Int32))] [(.int (0 : Int32)), (.ref a3)])) _
    refine XS.iloadN X5.here hx rfl (hb hby d1_16) rfl ?_
    show Steps p.tables e below (T5.setTop (mkF m 17 #[.val (.int p1), .val (.int p2), .val (.ref a3), .val (.int (p1 / p2)), .val (.int (0 : Int32))] [(.int (p1 / p2)), (.int (0 : Int32)), (.ref a3)])) _
    refine XS.iloadN X5.here hx rfl (hb hby d1_17) rfl ?_
    show Steps p.tables e below (T5.setTop (mkF m 18 #[.val (.int p1), .val (.int p2), .val (.ref a3), .val (.int (p1 / p2)), .val (.int (0 : Int32))] [(.int p2), (.int (p1 / p2)), (.int (0 : Int32)), (.ref a3)])) _
    refine iremM X5 hx rfl (hb hby d1_18) rfl hnz ?_
    exact k
  obtain ⟨T7, h7, X7, e7, W7, st7⟩ := stI X5 hx hZ e5 Ar6 (j := (0 : Int32)) (inb_of AS6 ⟨by decide, by decide⟩) (g := (mkF m 19 #[.val (.int p1), .val (.int p2), .val (.ref a3), .val (.int (p1 / p2)), .val (.int (0 : Int32))] [(.int ((p1 / p2) % p2)), (.int (0 : Int32)), (.ref a3)])) rfl rfl (hb hby d1_19)
  have N7 := Fr.snoc X7 N5 g3
  refine own_adv (B := (T7.setTop (mkF m 20 #[.val (.int p1), .val (.int p2), .val (.ref a3), .val (.int (p1 / p2)), .val (.int (0 : Int32))] []))) st7 ?_
  have Va3_7 : Arv Z h7 a3 k3 .int (2 : Int32) [(.int ((p1 / p2) % p2)), (.int (p1 % p2))] (.int (0 : Int32)) := Arv.set Ar6 Aq6 AS6 AN6 AH6 AG6 rfl W7 0 rfl (Nat.le_of_ble_eq_true rfl)
  have ZZ7 : n0 ≤ h7.size := Nat.le_trans ZZ5 (Keep.of_wr W7).1
  refine own_adv (B := (T7.setTop (mkF m 8 #[.val (.int p1), .val (.int p2), .val (.ref a3), .val (.int ((p1 / p2) / p2)), .val (.int (-1 : Int32))] []))) (fun t k => ?_) ?_
  · show Steps p.tables e below (T7.setTop (mkF m 20 #[.val (.int p1), .val (.int p2), .val (.ref a3), .val (.int (p1 / p2)), .val (.int (0 : Int32))] [])) _
    refine XS.iloadN X7.here hx rfl (hb hby d1_20) rfl ?_
    show Steps p.tables e below (T7.setTop (mkF m 21 #[.val (.int p1), .val (.int p2), .val (.ref a3), .val (.int (p1 / p2)), .val (.int (0 : Int32))] [(.int (p1 / p2))])) _
    refine XS.iloadN X7.here hx rfl (hb hby d1_21) rfl ?_
    show Steps p.tables e below (T7.setTop (mkF m 22 #[.val (.int p1), .val (.int p2), .val (.ref a3), .val (.int (p1 / p2)), .val (.int (0 : Int32))] [(.int p2), (.int (p1 / p2))])) _
    refine XS.idiv X7.here hx rfl (hb hby d1_22) rfl hnz ?_
    show Steps p.tables e below (T7.setTop (mkF m 23 #[.val (.int p1), .val (.int p2), .val (.ref a3), .val (.int (p1 / p2)), .val (.int (0 : Int32))] [(.int ((p1 / p2) / p2))])) _
    refine XS.istoreN X7.here hx rfl (hb hby d1_23) rfl (l' := #[.val (.int p1), .val (.int p2), .val (.ref a3), .val (.int ((p1 / p2) / p2)), .val (.int (0 : Int32))]) rfl ?_
    show Steps p.tables e below (T7.setTop (mkF m 24 #[.val (.int p1), .val (.int p2), .val (.ref a3), .val (.int ((p1 / p2) / p2)), .val (.int (0 : Int32))] [])) _
    refine XS.iinc X7.here hx rfl (hb hby d1_24) rfl (l' := #[.val (.int p1), .val (.int p2), .val (.ref a3), .val (.int ((p1 / p2) / p2)), .val (.int (-1 : Int32))]) rfl ?_
    show Steps p.tables e below (T7.setTop (mkF m 27 #[.val (.int p1), .val (.int p2), .val (.ref a3), .val (.int ((p1 / p2) / p2)), .val (.int (-1 : Int32))] [])) _
    refine XS.goto X7.here hx rfl (pc0 := 27) (pc' := 8) rfl (hb hby d1_27) (by decide) (by decide) ?_
    exact k
  refine own_adv (B := (T7.setTop (mkF m 30 #[.val (.int p1), .val (.int p2), .val (.ref a3), .val (.int ((p1 / p2) / p2)), .val (.int (-1 : Int32))] []))) (fun t k => ?_) ?_
  · show Steps p.tables e below (T7.setTop (mkF m 8 #[.val (.int p1), .val (.int p2), .val (.ref a3), .val (.int ((p1 / p2) / p2)), .val (.int (-1 : Int32))] [])) _
    refine XS.iload X7.here hx rfl (hb hby d1_8) rfl ?_
    show Steps p.tables e below (T7.setTop (mkF m 10 #[.val (.int p1), .val (.int p2), .val (.ref a3), .val (.int ((p1 / p2) / p2)), .val (.int (-1 : Int32))] [(.int (-1 : Int32))])) _
    refine XS.ifYes X7.here hx rfl (pc0 := 10) (pc' := 30) rfl (hb hby d1_10) rfl ((if0 _ _).trans (tlt (by decide)).1) (by decide) (by decide) ?_
    exact k
  obtain ⟨fs, hr, hrun, hended, hW, hsame⟩ := X7.leave (v := none) (fun _ => rfl)
  refine ⟨_, _, ?_, hrun, hended, _, _, rfl, ?_, ⟨_, rfl⟩, hW, hsame.mono (by decide) (by decide)⟩
  · show Steps p.tables e below (T7.setTop (mkF m 30 #[.val (.int p1), .val (.int p2), .val (.ref a3), .val (.int ((p1 / p2) / p2)), .val (.int (-1 : Int32))] [])) _
    exact X7.returnOut hx Bd.returns (hb hby d1_30) hr
  · show Q1_2 Z p1 p2 a3 u0 u1 k3 h0 n0 _ T7.heap _
    rw [e7]
    exact ⟨rfl, N7, ZZ7, Va3_7⟩
theorem ef_1_3 (m : MethodId) (x0 : Int32) (x1 : Int32) (x2 : Addr) : entryFrame m #[(.int x0), (.int x1), (.ref x2)] 5 = mkF m 0 #[.val (.int x0), .val (.int x1), .val (.ref x2), .unset, .unset] [] := by first | (simp [entryFrame, mkF, argsToLocals, Value.category]; done) | rfl
def Q1_3 (Z : State) (p1 : Int32) (p2 : Int32) (a3 : Addr) (u0 u1 u2 : Int32) (k3 : ClassId) (h0 : Heap) (n0 : Nat) (v : Option Value) (h : Heap) (L : List Loc) : Prop := v = none ∧ Fr n0 L ∧ n0 ≤ h.size ∧ Arv Z h a3 k3 .int (3 : Int32) [(.int (((p1 / p2) / p2) % p2)), (.int ((p1 / p2) % p2)), (.int (p1 % p2))] (.int (0 : Int32))
set_option maxRecDepth 65536 in
set_option maxHeartbeats 40000000 in
theorem rm1_3 (l : Launch) (Z : State) (a0 : Array Value) (hw : ∀ d ∈ tables_1, d.before a0 Z = true) (ws : List Jvm.Cond) (p1 : Int32) (p2 : Int32) (a3 : Addr) (u0 u1 u2 : Int32) (k3 : ClassId) (h0 : Heap) (n0 : Nat) (Z0 : n0 ≤ h0.size) (V3 : Arv Z h0 a3 k3 .int (3 : Int32) [(.int u0), (.int u1), (.int u2)] (.int (0 : Int32))) (hnz : ¬ p2 = 0) (g3 : n0 ≤ a3) :
    MetFree l (⟨"com/example/grovebra/grovebra/TreeAlgebra", "tupleAt", "(II[I)V"⟩ : MethodName) (head1 (Jvm.Cond.code (⟨"com/example/grovebra/grovebra/TreeAlgebra", "tupleAt", "(II[I)V"⟩ : MethodName) prog_45_method_12_code 5 none :: ws) ({ frames := 0, cells := 0, slots := 0, locals := 0 } : Room)) (fun a U => a = #[(.int p1), (.int p2), (.ref a3)] ∧ Z.Warmed39 U.vm ∧ U.heap = h0) (fun _ _ _ _ _ => True) (fun _ U o U' => ∃ v L, o = .returned v ∧ Q1_3 Z p1 p2 a3 u0 u1 u2 k3 h0 n0 v U'.heap L ∧ FrameEnd U o U' L ({ frames := 0, cells := 0, slots := 0, locals := 0 } : Room).cells ({ frames := 0, cells := 0, slots := 0, locals := 0 } : Room).slots) := by
  refine MetFree.of_bodySF (plainFor_of_name pn_1) hisR ?_
  intro p e s m args below meth c s₁ Bd hml0 hP hK
  obtain ⟨rfl, hZ, hh⟩ := hP
  have hx := Bd.exec
  have hby := Bd.bytes
  have hml : c.maxLocals = 5 := hml0
  have hown : s.vm.findClass "com/example/grovebra/grovebra/TreeAlgebra" = some m.cls := findClass_of_methodNamed Bd.named
  have hnm := (name_of_methodNamed Bd.named Bd.method).1
  have X0 : Stand p l e ({ frames := 0, cells := 0, slots := 0, locals := 0 } : Room) s m #[(.int p1), (.int p2), (.ref a3)] below meth c s₁ [] 0 0 := Stand.of_body Bd
  have e0 : s₁.heap = h0 := by rw [← hh, Bd.state]; rfl
  have N0 := Fr.nil n0
  refine own_adv (B := (s₁.setTop (mkF m 0 #[.val (.int p1), .val (.int p2), .val (.ref a3), .unset, .unset] []))) (fun t k => castTop (ef_1_3 m p1 p2 a3) k) ?_
  obtain ⟨cl8, Ar8, Aq8, AS8, AN8, AH8, AG8⟩ := id V3
  refine own_adv (B := (s₁.setTop (mkF m 8 #[.val (.int p1), .val (.int p2), .val (.ref a3), .val (.int p1), .val (.int (2 : Int32))] []))) (fun t k => ?_) ?_
  · show Steps p.tables e below (s₁.setTop (mkF m 0 #[.val (.int p1), .val (.int p2), .val (.ref a3), .unset, .unset] [])) _
    refine XS.iloadN X0.here hx rfl (hb hby d1_0) rfl ?_
    show Steps p.tables e below (s₁.setTop (mkF m 1 #[.val (.int p1), .val (.int p2), .val (.ref a3), .unset, .unset] [(.int p1)])) _
    refine XS.istoreN X0.here hx rfl (hb hby d1_1) rfl (l' := #[.val (.int p1), .val (.int p2), .val (.ref a3), .val (.int p1), .unset]) rfl ?_
    show Steps p.tables e below (s₁.setTop (mkF m 2 #[.val (.int p1), .val (.int p2), .val (.ref a3), .val (.int p1), .unset] [])) _
    refine XS.aloadN X0.here hx rfl (hb hby d1_2) rfl rfl ?_
    show Steps p.tables e below (s₁.setTop (mkF m 3 #[.val (.int p1), .val (.int p2), .val (.ref a3), .val (.int p1), .unset] [(.ref a3)])) _
    refine X0.arraylength hx (by rw [e0]; exact Ar8.1) (State.isArrayOf_alike hZ.alike Ar8.2.1) (g := (mkF m 3 #[.val (.int p1), .val (.int p2), .val (.ref a3), .val (.int p1), .unset] [(.ref a3)])) rfl rfl (hb hby d1_3) _ ?_
    rw [len_of AS8 AN8]
    show Steps p.tables e below (s₁.setTop (mkF m 4 #[.val (.int p1), .val (.int p2), .val (.ref a3), .val (.int p1), .unset] [(.int (3 : Int32))])) _
    refine XS.iconst X0.here hx rfl (hb hby d1_4) ?_
    show Steps p.tables e below (s₁.setTop (mkF m 5 #[.val (.int p1), .val (.int p2), .val (.ref a3), .val (.int p1), .unset] [(.int (1 : Int32)), (.int (3 : Int32))])) _
    refine XS.isub X0.here hx rfl (hb hby d1_5) rfl ?_
    show Steps p.tables e below (s₁.setTop (mkF m 6 #[.val (.int p1), .val (.int p2), .val (.ref a3), .val (.int p1), .unset] [(.int (2 : Int32))])) _
    refine XS.istore X0.here hx rfl (hb hby d1_6) rfl (l' := #[.val (.int p1), .val (.int p2), .val (.ref a3), .val (.int p1), .val (.int (2 : Int32))]) rfl ?_
    exact k
  refine own_adv (B := (s₁.setTop (mkF m 19 #[.val (.int p1), .val (.int p2), .val (.ref a3), .val (.int p1), .val (.int (2 : Int32))] [(.int (p1 % p2)), (.int (2 : Int32)), (.ref a3)]))) (fun t k => ?_) ?_
  · show Steps p.tables e below (s₁.setTop (mkF m 8 #[.val (.int p1), .val (.int p2), .val (.ref a3), .val (.int p1), .val (.int (2 : Int32))] [])) _
    refine XS.iload X0.here hx rfl (hb hby d1_8) rfl ?_
    show Steps p.tables e below (s₁.setTop (mkF m 10 #[.val (.int p1), .val (.int p2), .val (.ref a3), .val (.int p1), .val (.int (2 : Int32))] [(.int (2 : Int32))])) _
    refine XS.ifNo X0.here hx rfl (hb hby d1_10) rfl ((if0 _ _).trans (flt (by decide)).1) ?_
    show Steps p.tables e below (s₁.setTop (mkF m 13 #[.val (.int p1), .val (.int p2), .val (.ref a3), .val (.int p1), .val (.int (2 : Int32))] [])) _
    refine XS.aloadN X0.here hx rfl (hb hby d1_13) rfl rfl ?_
    show Steps p.tables e below (s₁.setTop (mkF m 14 #[.val (.int p1), .val (.int p2), .val (.ref a3), .val (.int p1), .val (.int (2 : Int32))] [(.ref a3)])) _
    refine XS.iload X0.here hx rfl (hb hby d1_14) rfl ?_
    show Steps p.tables e below (s₁.setTop (mkF m 16 #[.val (.int p1), .val (.int p2), .val (.ref a3), .val (.int p1), .val (.int (2 : Int32))] [(.int (2 : Int32)), (.ref a3)])) _
    refine XS.iloadN X0.here hx rfl (hb hby d1_16) rfl ?_
    show Steps p.tables e below (s₁.setTop (mkF m 17 #[.val (.int p1), .val (.int p2), .val (.ref a3), .val (.int p1), .val (.int (2 : Int32))] [(.int p1), (.int (2 : Int32)), (.ref a3)])) _
    refine XS.iloadN X0.here hx rfl (hb hby d1_17) rfl ?_
    show Steps p.tables e below (s₁.setTop (mkF m 18 #[.val (.int p1), .val (.int p2), .val (.ref a3), .val (.int p1), .val (.int (2 : Int32))] [(.int p2), (.int p1), (.int (2 : Int32)), (.ref a3)])) _
    refine iremM X0 hx rfl (hb hby d1_18) rfl hnz ?_
    exact k
  obtain ⟨T9, h9, X9, e9, W9, st9⟩ := stI X0 hx hZ e0 Ar8 (j := (2 : Int32)) (inb_of AS8 ⟨by decide, by decide⟩) (g := (mkF m 19 #[.val (.int p1), .val (.int p2), .val (.ref a3), .val (.int p1), .val (.int (2 : Int32))] [(.int (p1 % p2)), (.int (2 : Int32)), (.ref a3)])) rfl rfl (hb hby d1_19)
  have N9 := Fr.snoc X9 N0 g3
  refine own_adv (B := (T9.setTop (mkF m 20 #[.val (.int p1), .val (.int p2), .val (.ref a3), .val (.int p1), .val (.int (2 : Int32))] []))) st9 ?_
  have Va3_9 : Arv Z h9 a3 k3 .int (3 : Int32) [(.int u0), (.int u1), (.int (p1 % p2))] (.int (0 : Int32)) := Arv.set Ar8 Aq8 AS8 AN8 AH8 AG8 rfl W9 2 rfl (Nat.le_of_ble_eq_true rfl)
  have ZZ9 : n0 ≤ h9.size := Nat.le_trans Z0 (Keep.of_wr W9).1
  refine own_adv (B := (T9.setTop (mkF m 8 #[.val (.int p1), .val (.int p2), .val (.ref a3), .val (.int (p1 / p2)), .val (.int (1 : Int32))] []))) (fun t k => ?_) ?_
  · show Steps p.tables e below (T9.setTop (mkF m 20 #[.val (.int p1), .val (.int p2), .val (.ref a3), .val (.int p1), .val (.int (2 : Int32))] [])) _
    refine XS.iloadN X9.here hx rfl (hb hby d1_20) rfl ?_
    show Steps p.tables e below (T9.setTop (mkF m 21 #[.val (.int p1), .val (.int p2), .val (.ref a3), .val (.int p1), .val (.int (2 : Int32))] [(.int p1)])) _
    refine XS.iloadN X9.here hx rfl (hb hby d1_21) rfl ?_
    show Steps p.tables e below (T9.setTop (mkF m 22 #[.val (.int p1), .val (.int p2), .val (.ref a3), .val (.int p1), .val (.int (2 : Int32))] [(.int p2), (.int p1)])) _
    refine XS.idiv X9.here hx rfl (hb hby d1_22) rfl hnz ?_
    show Steps p.tables e below (T9.setTop (mkF m 23 #[.val (.int p1), .val (.int p2), .val (.ref a3), .val (.int p1), .val (.int (2 : Int32))] [(.int (p1 / p2))])) _
    refine XS.istoreN X9.here hx rfl (hb hby d1_23) rfl (l' := #[.val (.int p1), .val (.int p2), .val (.ref a3), .val (.int (p1 / p2)), .val (.int (2 : Int32))]) rfl ?_
    show Steps p.tables e below (T9.setTop (mkF m 24 #[.val (.int p1), .val (.int p2), .val (.ref a3), .val (.int (p1 / p2)), .val (.int (2 : Int32))] [])) _
    refine XS.iinc X9.here hx rfl (hb hby d1_24) rfl (l' := #[.val (.int p1), .val (.int p2), .val (.ref a3), .val (.int (p1 / p2)), .val (.int (1 : Int32))]) rfl ?_
    show Steps p.tables e below (T9.setTop (mkF m 27 #[.val (.int p1), .val (.int p2), .val (.ref a3), .val (.int (p1 / p2)), .val (.int (1 : Int32))] [])) _
    refine XS.goto X9.here hx rfl (pc0 := 27) (pc' := 8) rfl (hb hby d1_27) (by decide) (by decide) ?_
    exact k
  obtain ⟨cl10, Ar10, Aq10, AS10, AN10, AH10, AG10⟩ := id Va3_9
  refine own_adv (B := (T9.setTop (mkF m 19 #[.val (.int p1), .val (.int p2), .val (.ref a3), .val (.int (p1 / p2)), .val (.int (1 : Int32))] [(.int ((p1 / p2) % p2)), (.int (1 : Int32)), (.ref a3)]))) (fun t k => ?_) ?_
  · show Steps p.tables e below (T9.setTop (mkF m 8 #[.val (.int p1), .val (.int p2), .val (.ref a3), .val (.int (p1 / p2)), .val (.int (1 : Int32))] [])) _
    refine XS.iload X9.here hx rfl (hb hby d1_8) rfl ?_
    show Steps p.tables e below (T9.setTop (mkF m 10 #[.val (.int p1), .val (.int p2), .val (.ref a3), .val (.int (p1 / p2)), .val (.int (1 : Int32))] [(.int (1 : Int32))])) _
    refine XS.ifNo X9.here hx rfl (hb hby d1_10) rfl ((if0 _ _).trans (flt (by decide)).1) ?_
    show Steps p.tables e below (T9.setTop (mkF m 13 #[.val (.int p1), .val (.int p2), .val (.ref a3), .val (.int (p1 / p2)), .val (.int (1 : Int32))] [])) _
    refine XS.aloadN X9.here hx rfl (hb hby d1_13) rfl rfl ?_
    show Steps p.tables e below (T9.setTop (mkF m 14 #[.val (.int p1), .val (.int p2), .val (.ref a3), .val (.int (p1 / p2)), .val (.int (1 : Int32))] [(.ref a3)])) _
    refine XS.iload X9.here hx rfl (hb hby d1_14) rfl ?_
    show Steps p.tables e below (T9.setTop (mkF m 16 #[.val (.int p1), .val (.int p2), .val (.ref a3), .val (.int (p1 / p2)), .val (.int (1 : Int32))] [(.int (1 : Int32)), (.ref a3)])) _
    refine XS.iloadN X9.here hx rfl (hb hby d1_16) rfl ?_
    show Steps p.tables e below (T9.setTop (mkF m 17 #[.val (.int p1), .val (.int p2), .val (.ref a3), .val (.int (p1 / p2)), .val (.int (1 : Int32))] [(.int (p1 / p2)), (.int (1 : Int32)), (.ref a3)])) _
    refine XS.iloadN X9.here hx rfl (hb hby d1_17) rfl ?_
    show Steps p.tables e below (T9.setTop (mkF m 18 #[.val (.int p1), .val (.int p2), .val (.ref a3), .val (.int (p1 / p2)), .val (.int (1 : Int32))] [(.int p2), (.int (p1 / p2)), (.int (1 : Int32)), (.ref a3)])) _
    refine iremM X9 hx rfl (hb hby d1_18) rfl hnz ?_
    exact k
  obtain ⟨T11, h11, X11, e11, W11, st11⟩ := stI X9 hx hZ e9 Ar10 (j := (1 : Int32)) (inb_of AS10 ⟨by decide, by decide⟩) (g := (mkF m 19 #[.val (.int p1), .val (.int p2), .val (.ref a3), .val (.int (p1 / p2)), .val (.int (1 : Int32))] [(.int ((p1 / p2) % p2)), (.int (1 : Int32)), (.ref a3)])) rfl rfl (hb hby d1_19)
  have N11 := Fr.snoc X11 N9 g3
  refine own_adv (B := (T11.setTop (mkF m 20 #[.val (.int p1), .val (.int p2), .val (.ref a3), .val (.int (p1 / p2)), .val (.int (1 : Int32))] []))) st11 ?_
  have Va3_11 : Arv Z h11 a3 k3 .int (3 : Int32) [(.int u0), (.int ((p1 / p2) % p2)), (.int (p1 % p2))] (.int (0 : Int32)) := Arv.set Ar10 Aq10 AS10 AN10 AH10 AG10 rfl W11 1 rfl (Nat.le_of_ble_eq_true rfl)
  have ZZ11 : n0 ≤ h11.size := Nat.le_trans ZZ9 (Keep.of_wr W11).1
  refine own_adv (B := (T11.setTop (mkF m 8 #[.val (.int p1), .val (.int p2), .val (.ref a3), .val (.int ((p1 / p2) / p2)), .val (.int (0 : Int32))] []))) (fun t k => ?_) ?_
  · show Steps p.tables e below (T11.setTop (mkF m 20 #[.val (.int p1), .val (.int p2), .val (.ref a3), .val (.int (p1 / p2)), .val (.int (1 : Int32))] [])) _
    refine XS.iloadN X11.here hx rfl (hb hby d1_20) rfl ?_
    show Steps p.tables e below (T11.setTop (mkF m 21 #[.val (.int p1), .val (.int p2), .val (.ref a3), .val (.int (p1 / p2)), .val (.int (1 : Int32))] [(.int (p1 / p2))])) _
    refine XS.iloadN X11.here hx rfl (hb hby d1_21) rfl ?_
    show Steps p.tables e below (T11.setTop (mkF m 22 #[.val (.int p1), .val (.int p2), .val (.ref a3), .val (.int (p1 / p2)), .val (.int (1 : Int32))] [(.int p2), (.int (p1 / p2))])) _
    refine XS.idiv X11.here hx rfl (hb hby d1_22) rfl hnz ?_
    show Steps p.tables e below (T11.setTop (mkF m 23 #[.val (.int p1), .val (.int p2), .val (.ref a3), .val (.int (p1 / p2)), .val (.int (1 : Int32))] [(.int ((p1 / p2) / p2))])) _
    refine XS.istoreN X11.here hx rfl (hb hby d1_23) rfl (l' := #[.val (.int p1), .val (.int p2), .val (.ref a3), .val (.int ((p1 / p2) / p2)), .val (.int (1 : Int32))]) rfl ?_
    show Steps p.tables e below (T11.setTop (mkF m 24 #[.val (.int p1), .val (.int p2), .val (.ref a3), .val (.int ((p1 / p2) / p2)), .val (.int (1 : Int32))] [])) _
    refine XS.iinc X11.here hx rfl (hb hby d1_24) rfl (l' := #[.val (.int p1), .val (.int p2), .val (.ref a3), .val (.int ((p1 / p2) / p2)), .val (.int (0 : Int32))]) rfl ?_
    show Steps p.tables e below (T11.setTop (mkF m 27 #[.val (.int p1), .val (.int p2), .val (.ref a3), .val (.int ((p1 / p2) / p2)), .val (.int (0 : Int32))] [])) _
    refine XS.goto X11.here hx rfl (pc0 := 27) (pc' := 8) rfl (hb hby d1_27) (by decide) (by decide) ?_
    exact k
  obtain ⟨cl12, Ar12, Aq12, AS12, AN12, AH12, AG12⟩ := id Va3_11
  refine own_adv (B := (T11.setTop (mkF m 19 #[.val (.int p1), .val (.int p2), .val (.ref a3), .val (.int ((p1 / p2) / p2)), .val (.int (0 : Int32))] [(.int (((p1 / p2) / p2) % p2)), (.int (0 : Int32)), (.ref a3)]))) (fun t k => ?_) ?_
  · show Steps p.tables e below (T11.setTop (mkF m 8 #[.val (.int p1), .val (.int p2), .val (.ref a3), .val (.int ((p1 / p2) / p2)), .val (.int (0 : Int32))] [])) _
    refine XS.iload X11.here hx rfl (hb hby d1_8) rfl ?_
    show Steps p.tables e below (T11.setTop (mkF m 10 #[.val (.int p1), .val (.int p2), .val (.ref a3), .val (.int ((p1 / p2) / p2)), .val (.int (0 : Int32))] [(.int (0 : Int32))])) _
    refine XS.ifNo X11.here hx rfl (hb hby d1_10) rfl ((if0 _ _).trans (flt (by decide)).1) ?_
    show Steps p.tables e below (T11.setTop (mkF m 13 #[.val (.int p1), .val (.int p2), .val (.ref a3), .val (.int ((p1 / p2) / p2)), .val (.int (0 : Int32))] [])) _
    refine XS.aloadN X11.here hx rfl (hb hby d1_13) rfl rfl ?_
    show Steps p.tables e below (T11.setTop (mkF m 14 #[.val (.int p1), .val (.int p2), .val (.ref a3), .val (.int ((p1 / p2) / p2)), .val (.int (0 : Int32))] [(.ref a3)])) _
    refine XS.iload X11.here hx rfl (hb hby d1_14) rfl ?_
    show Steps p.tables e below (T11.setTop (mkF m 16 #[.val (.int p1), .val (.int p2), .val (.ref a3), .val (.int ((p1 / p2) / p2)), .val (.int (0 : Int32))] [(.int (0 : Int32)), (.ref a3)])) _
    refine XS.iloadN X11.here hx rfl (hb hby d1_16) rfl ?_
    show Steps p.tables e below (T11.setTop (mkF m 17 #[.val (.int p1), .val (.int p2), .val (.ref a3), .val (.int ((p1 / p2) / p2)), .val (.int (0 : Int32))] [(.int ((p1 / p2) / p2)), (.int (0 : Int32)), (.ref a3)])) _
    refine XS.iloadN X11.here hx rfl (hb hby d1_17) rfl ?_
    show Steps p.tables e below (T11.setTop (mkF m 18 #[.val (.int p1), .val (.int p2), .val (.ref a3), .val (.int ((p1 / p2) / p2)), .val (.int (0 : Int32))] [(.int p2), (.int ((p1 / p2) / p2)), (.int (0 : Int32)), (.ref a3)])) _
    refine iremM X11 hx rfl (hb hby d1_18) rfl hnz ?_
    exact k
  obtain ⟨T13, h13, X13, e13, W13, st13⟩ := stI X11 hx hZ e11 Ar12 (j := (0 : Int32)) (inb_of AS12 ⟨by decide, by decide⟩) (g := (mkF m 19 #[.val (.int p1), .val (.int p2), .val (.ref a3), .val (.int ((p1 / p2) / p2)), .val (.int (0 : Int32))] [(.int (((p1 / p2) / p2) % p2)), (.int (0 : Int32)), (.ref a3)])) rfl rfl (hb hby d1_19)
  have N13 := Fr.snoc X13 N11 g3
  refine own_adv (B := (T13.setTop (mkF m 20 #[.val (.int p1), .val (.int p2), .val (.ref a3), .val (.int ((p1 / p2) / p2)), .val (.int (0 : Int32))] []))) st13 ?_
  have Va3_13 : Arv Z h13 a3 k3 .int (3 : Int32) [(.int (((p1 / p2) / p2) % p2)), (.int ((p1 / p2) % p2)), (.int (p1 % p2))] (.int (0 : Int32)) := Arv.set Ar12 Aq12 AS12 AN12 AH12 AG12 rfl W13 0 rfl (Nat.le_of_ble_eq_true rfl)
  have ZZ13 : n0 ≤ h13.size := Nat.le_trans ZZ11 (Keep.of_wr W13).1
  refine own_adv (B := (T13.setTop (mkF m 8 #[.val (.int p1), .val (.int p2), .val (.ref a3), .val (.int (((p1 / p2) / p2) / p2)), .val (.int (-1 : Int32))] []))) (fun t k => ?_) ?_
  · show Steps p.tables e below (T13.setTop (mkF m 20 #[.val (.int p1), .val (.int p2), .val (.ref a3), .val (.int ((p1 / p2) / p2)), .val (.int (0 : Int32))] [])) _
    refine XS.iloadN X13.here hx rfl (hb hby d1_20) rfl ?_
    show Steps p.tables e below (T13.setTop (mkF m 21 #[.val (.int p1), .val (.int p2), .val (.ref a3), .val (.int ((p1 / p2) / p2)), .val (.int (0 : Int32))] [(.int ((p1 / p2) / p2))])) _
    refine XS.iloadN X13.here hx rfl (hb hby d1_21) rfl ?_
    show Steps p.tables e below (T13.setTop (mkF m 22 #[.val (.int p1), .val (.int p2), .val (.ref a3), .val (.int ((p1 / p2) / p2)), .val (.int (0 : Int32))] [(.int p2), (.int ((p1 / p2) / p2))])) _
    refine XS.idiv X13.here hx rfl (hb hby d1_22) rfl hnz ?_
    show Steps p.tables e below (T13.setTop (mkF m 23 #[.val (.int p1), .val (.int p2), .val (.ref a3), .val (.int ((p1 / p2) / p2)), .val (.int (0 : Int32))] [(.int (((p1 / p2) / p2) / p2))])) _
    refine XS.istoreN X13.here hx rfl (hb hby d1_23) rfl (l' := #[.val (.int p1), .val (.int p2), .val (.ref a3), .val (.int (((p1 / p2) / p2) / p2)), .val (.int (0 : Int32))]) rfl ?_
    show Steps p.tables e below (T13.setTop (mkF m 24 #[.val (.int p1), .val (.int p2), .val (.ref a3), .val (.int (((p1 / p2) / p2) / p2)), .val (.int (0 : Int32))] [])) _
    refine XS.iinc X13.here hx rfl (hb hby d1_24) rfl (l' := #[.val (.int p1), .val (.int p2), .val (.ref a3), .val (.int (((p1 / p2) / p2) / p2)), .val (.int (-1 : Int32))]) rfl ?_
    show Steps p.tables e below (T13.setTop (mkF m 27 #[.val (.int p1), .val (.int p2), .val (.ref a3), .val (.int (((p1 / p2) / p2) / p2)), .val (.int (-1 : Int32))] [])) _
    refine XS.goto X13.here hx rfl (pc0 := 27) (pc' := 8) rfl (hb hby d1_27) (by decide) (by decide) ?_
    exact k
  refine own_adv (B := (T13.setTop (mkF m 30 #[.val (.int p1), .val (.int p2), .val (.ref a3), .val (.int (((p1 / p2) / p2) / p2)), .val (.int (-1 : Int32))] []))) (fun t k => ?_) ?_
  · show Steps p.tables e below (T13.setTop (mkF m 8 #[.val (.int p1), .val (.int p2), .val (.ref a3), .val (.int (((p1 / p2) / p2) / p2)), .val (.int (-1 : Int32))] [])) _
    refine XS.iload X13.here hx rfl (hb hby d1_8) rfl ?_
    show Steps p.tables e below (T13.setTop (mkF m 10 #[.val (.int p1), .val (.int p2), .val (.ref a3), .val (.int (((p1 / p2) / p2) / p2)), .val (.int (-1 : Int32))] [(.int (-1 : Int32))])) _
    refine XS.ifYes X13.here hx rfl (pc0 := 10) (pc' := 30) rfl (hb hby d1_10) rfl ((if0 _ _).trans (tlt (by decide)).1) (by decide) (by decide) ?_
    exact k
  obtain ⟨fs, hr, hrun, hended, hW, hsame⟩ := X13.leave (v := none) (fun _ => rfl)
  refine ⟨_, _, ?_, hrun, hended, _, _, rfl, ?_, ⟨_, rfl⟩, hW, hsame.mono (by decide) (by decide)⟩
  · show Steps p.tables e below (T13.setTop (mkF m 30 #[.val (.int p1), .val (.int p2), .val (.ref a3), .val (.int (((p1 / p2) / p2) / p2)), .val (.int (-1 : Int32))] [])) _
    exact X13.returnOut hx Bd.returns (hb hby d1_30) hr
  · show Q1_3 Z p1 p2 a3 u0 u1 u2 k3 h0 n0 _ T13.heap _
    rw [e13]
    exact ⟨rfl, N13, ZZ13, Va3_13⟩
theorem ef_1_4 (m : MethodId) (x0 : Int32) (x1 : Int32) (x2 : Addr) : entryFrame m #[(.int x0), (.int x1), (.ref x2)] 5 = mkF m 0 #[.val (.int x0), .val (.int x1), .val (.ref x2), .unset, .unset] [] := by first | (simp [entryFrame, mkF, argsToLocals, Value.category]; done) | rfl
def Q1_4 (Z : State) (p1 : Int32) (p2 : Int32) (a3 : Addr) (u0 u1 u2 u3 : Int32) (k3 : ClassId) (h0 : Heap) (n0 : Nat) (v : Option Value) (h : Heap) (L : List Loc) : Prop := v = none ∧ Fr n0 L ∧ n0 ≤ h.size ∧ Arv Z h a3 k3 .int (4 : Int32) [(.int ((((p1 / p2) / p2) / p2) % p2)), (.int (((p1 / p2) / p2) % p2)), (.int ((p1 / p2) % p2)), (.int (p1 % p2))] (.int (0 : Int32))
set_option maxRecDepth 65536 in
set_option maxHeartbeats 40000000 in
theorem rm1_4 (l : Launch) (Z : State) (a0 : Array Value) (hw : ∀ d ∈ tables_1, d.before a0 Z = true) (ws : List Jvm.Cond) (p1 : Int32) (p2 : Int32) (a3 : Addr) (u0 u1 u2 u3 : Int32) (k3 : ClassId) (h0 : Heap) (n0 : Nat) (Z0 : n0 ≤ h0.size) (V3 : Arv Z h0 a3 k3 .int (4 : Int32) [(.int u0), (.int u1), (.int u2), (.int u3)] (.int (0 : Int32))) (hnz : ¬ p2 = 0) (g3 : n0 ≤ a3) :
    MetFree l (⟨"com/example/grovebra/grovebra/TreeAlgebra", "tupleAt", "(II[I)V"⟩ : MethodName) (head1 (Jvm.Cond.code (⟨"com/example/grovebra/grovebra/TreeAlgebra", "tupleAt", "(II[I)V"⟩ : MethodName) prog_45_method_12_code 5 none :: ws) ({ frames := 0, cells := 0, slots := 0, locals := 0 } : Room)) (fun a U => a = #[(.int p1), (.int p2), (.ref a3)] ∧ Z.Warmed39 U.vm ∧ U.heap = h0) (fun _ _ _ _ _ => True) (fun _ U o U' => ∃ v L, o = .returned v ∧ Q1_4 Z p1 p2 a3 u0 u1 u2 u3 k3 h0 n0 v U'.heap L ∧ FrameEnd U o U' L ({ frames := 0, cells := 0, slots := 0, locals := 0 } : Room).cells ({ frames := 0, cells := 0, slots := 0, locals := 0 } : Room).slots) := by
  refine MetFree.of_bodySF (plainFor_of_name pn_1) hisR ?_
  intro p e s m args below meth c s₁ Bd hml0 hP hK
  obtain ⟨rfl, hZ, hh⟩ := hP
  have hx := Bd.exec
  have hby := Bd.bytes
  have hml : c.maxLocals = 5 := hml0
  have hown : s.vm.findClass "com/example/grovebra/grovebra/TreeAlgebra" = some m.cls := findClass_of_methodNamed Bd.named
  have hnm := (name_of_methodNamed Bd.named Bd.method).1
  have X0 : Stand p l e ({ frames := 0, cells := 0, slots := 0, locals := 0 } : Room) s m #[(.int p1), (.int p2), (.ref a3)] below meth c s₁ [] 0 0 := Stand.of_body Bd
  have e0 : s₁.heap = h0 := by rw [← hh, Bd.state]; rfl
  have N0 := Fr.nil n0
  refine own_adv (B := (s₁.setTop (mkF m 0 #[.val (.int p1), .val (.int p2), .val (.ref a3), .unset, .unset] []))) (fun t k => castTop (ef_1_4 m p1 p2 a3) k) ?_
  obtain ⟨cl14, Ar14, Aq14, AS14, AN14, AH14, AG14⟩ := id V3
  refine own_adv (B := (s₁.setTop (mkF m 8 #[.val (.int p1), .val (.int p2), .val (.ref a3), .val (.int p1), .val (.int (3 : Int32))] []))) (fun t k => ?_) ?_
  · show Steps p.tables e below (s₁.setTop (mkF m 0 #[.val (.int p1), .val (.int p2), .val (.ref a3), .unset, .unset] [])) _
    refine XS.iloadN X0.here hx rfl (hb hby d1_0) rfl ?_
    show Steps p.tables e below (s₁.setTop (mkF m 1 #[.val (.int p1), .val (.int p2), .val (.ref a3), .unset, .unset] [(.int p1)])) _
    refine XS.istoreN X0.here hx rfl (hb hby d1_1) rfl (l' := #[.val (.int p1), .val (.int p2), .val (.ref a3), .val (.int p1), .unset]) rfl ?_
    show Steps p.tables e below (s₁.setTop (mkF m 2 #[.val (.int p1), .val (.int p2), .val (.ref a3), .val (.int p1), .unset] [])) _
    refine XS.aloadN X0.here hx rfl (hb hby d1_2) rfl rfl ?_
    show Steps p.tables e below (s₁.setTop (mkF m 3 #[.val (.int p1), .val (.int p2), .val (.ref a3), .val (.int p1), .unset] [(.ref a3)])) _
    refine X0.arraylength hx (by rw [e0]; exact Ar14.1) (State.isArrayOf_alike hZ.alike Ar14.2.1) (g := (mkF m 3 #[.val (.int p1), .val (.int p2), .val (.ref a3), .val (.int p1), .unset] [(.ref a3)])) rfl rfl (hb hby d1_3) _ ?_
    rw [len_of AS14 AN14]
    show Steps p.tables e below (s₁.setTop (mkF m 4 #[.val (.int p1), .val (.int p2), .val (.ref a3), .val (.int p1), .unset] [(.int (4 : Int32))])) _
    refine XS.iconst X0.here hx rfl (hb hby d1_4) ?_
    show Steps p.tables e below (s₁.setTop (mkF m 5 #[.val (.int p1), .val (.int p2), .val (.ref a3), .val (.int p1), .unset] [(.int (1 : Int32)), (.int (4 : Int32))])) _
    refine XS.isub X0.here hx rfl (hb hby d1_5) rfl ?_
    show Steps p.tables e below (s₁.setTop (mkF m 6 #[.val (.int p1), .val (.int p2), .val (.ref a3), .val (.int p1), .unset] [(.int (3 : Int32))])) _
    refine XS.istore X0.here hx rfl (hb hby d1_6) rfl (l' := #[.val (.int p1), .val (.int p2), .val (.ref a3), .val (.int p1), .val (.int (3 : Int32))]) rfl ?_
    exact k
  refine own_adv (B := (s₁.setTop (mkF m 19 #[.val (.int p1), .val (.int p2), .val (.ref a3), .val (.int p1), .val (.int (3 : Int32))] [(.int (p1 % p2)), (.int (3 : Int32)), (.ref a3)]))) (fun t k => ?_) ?_
  · show Steps p.tables e below (s₁.setTop (mkF m 8 #[.val (.int p1), .val (.int p2), .val (.ref a3), .val (.int p1), .val (.int (3 : Int32))] [])) _
    refine XS.iload X0.here hx rfl (hb hby d1_8) rfl ?_
    show Steps p.tables e below (s₁.setTop (mkF m 10 #[.val (.int p1), .val (.int p2), .val (.ref a3), .val (.int p1), .val (.int (3 : Int32))] [(.int (3 : Int32))])) _
    refine XS.ifNo X0.here hx rfl (hb hby d1_10) rfl ((if0 _ _).trans (flt (by decide)).1) ?_
    show Steps p.tables e below (s₁.setTop (mkF m 13 #[.val (.int p1), .val (.int p2), .val (.ref a3), .val (.int p1), .val (.int (3 : Int32))] [])) _
    refine XS.aloadN X0.here hx rfl (hb hby d1_13) rfl rfl ?_
    show Steps p.tables e below (s₁.setTop (mkF m 14 #[.val (.int p1), .val (.int p2), .val (.ref a3), .val (.int p1), .val (.int (3 : Int32))] [(.ref a3)])) _
    refine XS.iload X0.here hx rfl (hb hby d1_14) rfl ?_
    show Steps p.tables e below (s₁.setTop (mkF m 16 #[.val (.int p1), .val (.int p2), .val (.ref a3), .val (.int p1), .val (.int (3 : Int32))] [(.int (3 : Int32)), (.ref a3)])) _
    refine XS.iloadN X0.here hx rfl (hb hby d1_16) rfl ?_
    show Steps p.tables e below (s₁.setTop (mkF m 17 #[.val (.int p1), .val (.int p2), .val (.ref a3), .val (.int p1), .val (.int (3 : Int32))] [(.int p1), (.int (3 : Int32)), (.ref a3)])) _
    refine XS.iloadN X0.here hx rfl (hb hby d1_17) rfl ?_
    show Steps p.tables e below (s₁.setTop (mkF m 18 #[.val (.int p1), .val (.int p2), .val (.ref a3), .val (.int p1), .val (.int (3 : Int32))] [(.int p2), (.int p1), (.int (3 : Int32)), (.ref a3)])) _
    refine iremM X0 hx rfl (hb hby d1_18) rfl hnz ?_
    exact k
  obtain ⟨T15, h15, X15, e15, W15, st15⟩ := stI X0 hx hZ e0 Ar14 (j := (3 : Int32)) (inb_of AS14 ⟨by decide, by decide⟩) (g := (mkF m 19 #[.val (.int p1), .val (.int p2), .val (.ref a3), .val (.int p1), .val (.int (3 : Int32))] [(.int (p1 % p2)), (.int (3 : Int32)), (.ref a3)])) rfl rfl (hb hby d1_19)
  have N15 := Fr.snoc X15 N0 g3
  refine own_adv (B := (T15.setTop (mkF m 20 #[.val (.int p1), .val (.int p2), .val (.ref a3), .val (.int p1), .val (.int (3 : Int32))] []))) st15 ?_
  have Va3_15 : Arv Z h15 a3 k3 .int (4 : Int32) [(.int u0), (.int u1), (.int u2), (.int (p1 % p2))] (.int (0 : Int32)) := Arv.set Ar14 Aq14 AS14 AN14 AH14 AG14 rfl W15 3 rfl (Nat.le_of_ble_eq_true rfl)
  have ZZ15 : n0 ≤ h15.size := Nat.le_trans Z0 (Keep.of_wr W15).1
  refine own_adv (B := (T15.setTop (mkF m 8 #[.val (.int p1), .val (.int p2), .val (.ref a3), .val (.int (p1 / p2)), .val (.int (2 : Int32))] []))) (fun t k => ?_) ?_
  · show Steps p.tables e below (T15.setTop (mkF m 20 #[.val (.int p1), .val (.int p2), .val (.ref a3), .val (.int p1), .val (.int (3 : Int32))] [])) _
    refine XS.iloadN X15.here hx rfl (hb hby d1_20) rfl ?_
    show Steps p.tables e below (T15.setTop (mkF m 21 #[.val (.int p1), .val (.int p2), .val (.ref a3), .val (.int p1), .val (.int (3 : Int32))] [(.int p1)])) _
    refine XS.iloadN X15.here hx rfl (hb hby d1_21) rfl ?_
    show Steps p.tables e below (T15.setTop (mkF m 22 #[.val (.int p1), .val (.int p2), .val (.ref a3), .val (.int p1), .val (.int (3 : Int32))] [(.int p2), (.int p1)])) _
    refine XS.idiv X15.here hx rfl (hb hby d1_22) rfl hnz ?_
    show Steps p.tables e below (T15.setTop (mkF m 23 #[.val (.int p1), .val (.int p2), .val (.ref a3), .val (.int p1), .val (.int (3 : Int32))] [(.int (p1 / p2))])) _
    refine XS.istoreN X15.here hx rfl (hb hby d1_23) rfl (l' := #[.val (.int p1), .val (.int p2), .val (.ref a3), .val (.int (p1 / p2)), .val (.int (3 : Int32))]) rfl ?_
    show Steps p.tables e below (T15.setTop (mkF m 24 #[.val (.int p1), .val (.int p2), .val (.ref a3), .val (.int (p1 / p2)), .val (.int (3 : Int32))] [])) _
    refine XS.iinc X15.here hx rfl (hb hby d1_24) rfl (l' := #[.val (.int p1), .val (.int p2), .val (.ref a3), .val (.int (p1 / p2)), .val (.int (2 : Int32))]) rfl ?_
    show Steps p.tables e below (T15.setTop (mkF m 27 #[.val (.int p1), .val (.int p2), .val (.ref a3), .val (.int (p1 / p2)), .val (.int (2 : Int32))] [])) _
    refine XS.goto X15.here hx rfl (pc0 := 27) (pc' := 8) rfl (hb hby d1_27) (by decide) (by decide) ?_
    exact k
  obtain ⟨cl16, Ar16, Aq16, AS16, AN16, AH16, AG16⟩ := id Va3_15
  refine own_adv (B := (T15.setTop (mkF m 19 #[.val (.int p1), .val (.int p2), .val (.ref a3), .val (.int (p1 / p2)), .val (.int (2 : Int32))] [(.int ((p1 / p2) % p2)), (.int (2 : Int32)), (.ref a3)]))) (fun t k => ?_) ?_
  · show Steps p.tables e below (T15.setTop (mkF m 8 #[.val (.int p1), .val (.int p2), .val (.ref a3), .val (.int (p1 / p2)), .val (.int (2 : Int32))] [])) _
    refine XS.iload X15.here hx rfl (hb hby d1_8) rfl ?_
    show Steps p.tables e below (T15.setTop (mkF m 10 #[.val (.int p1), .val (.int p2), .val (.ref a3), .val (.int (p1 / p2)), .val (.int (2 : Int32))] [(.int (2 : Int32))])) _
    refine XS.ifNo X15.here hx rfl (hb hby d1_10) rfl ((if0 _ _).trans (flt (by decide)).1) ?_
    show Steps p.tables e below (T15.setTop (mkF m 13 #[.val (.int p1), .val (.int p2), .val (.ref a3), .val (.int (p1 / p2)), .val (.int (2 : Int32))] [])) _
    refine XS.aloadN X15.here hx rfl (hb hby d1_13) rfl rfl ?_
    show Steps p.tables e below (T15.setTop (mkF m 14 #[.val (.int p1), .val (.int p2), .val (.ref a3), .val (.int (p1 / p2)), .val (.int (2 : Int32))] [(.ref a3)])) _
    refine XS.iload X15.here hx rfl (hb hby d1_14) rfl ?_
    show Steps p.tables e below (T15.setTop (mkF m 16 #[.val (.int p1), .val (.int p2), .val (.ref a3), .val (.int (p1 / p2)), .val (.int (2 : Int32))] [(.int (2 : Int32)), (.ref a3)])) _
    refine XS.iloadN X15.here hx rfl (hb hby d1_16) rfl ?_
    show Steps p.tables e below (T15.setTop (mkF m 17 #[.val (.int p1), .val (.int p2), .val (.ref a3), .val (.int (p1 / p2)), .val (.int (2 : Int32))] [(.int (p1 / p2)), (.int (2 : Int32)), (.ref a3)])) _
    refine XS.iloadN X15.here hx rfl (hb hby d1_17) rfl ?_
    show Steps p.tables e below (T15.setTop (mkF m 18 #[.val (.int p1), .val (.int p2), .val (.ref a3), .val (.int (p1 / p2)), .val (.int (2 : Int32))] [(.int p2), (.int (p1 / p2)), (.int (2 : Int32)), (.ref a3)])) _
    refine iremM X15 hx rfl (hb hby d1_18) rfl hnz ?_
    exact k
  obtain ⟨T17, h17, X17, e17, W17, st17⟩ := stI X15 hx hZ e15 Ar16 (j := (2 : Int32)) (inb_of AS16 ⟨by decide, by decide⟩) (g := (mkF m 19 #[.val (.int p1), .val (.int p2), .val (.ref a3), .val (.int (p1 / p2)), .val (.int (2 : Int32))] [(.int ((p1 / p2) % p2)), (.int (2 : Int32)), (.ref a3)])) rfl rfl (hb hby d1_19)
  have N17 := Fr.snoc X17 N15 g3
  refine own_adv (B := (T17.setTop (mkF m 20 #[.val (.int p1), .val (.int p2), .val (.ref a3), .val (.int (p1 / p2)), .val (.int (2 : Int32))] []))) st17 ?_
  have Va3_17 : Arv Z h17 a3 k3 .int (4 : Int32) [(.int u0), (.int u1), (.int ((p1 / p2) % p2)), (.int (p1 % p2))] (.int (0 : Int32)) := Arv.set Ar16 Aq16 AS16 AN16 AH16 AG16 rfl W17 2 rfl (Nat.le_of_ble_eq_true rfl)
  have ZZ17 : n0 ≤ h17.size := Nat.le_trans ZZ15 (Keep.of_wr W17).1
  refine own_adv (B := (T17.setTop (mkF m 8 #[.val (.int p1), .val (.int p2), .val (.ref a3), .val (.int ((p1 / p2) / p2)), .val (.int (1 : Int32))] []))) (fun t k => ?_) ?_
  · show Steps p.tables e below (T17.setTop (mkF m 20 #[.val (.int p1), .val (.int p2), .val (.ref a3), .val (.int (p1 / p2)), .val (.int (2 : Int32))] [])) _
    refine XS.iloadN X17.here hx rfl (hb hby d1_20) rfl ?_
    show Steps p.tables e below (T17.setTop (mkF m 21 #[.val (.int p1), .val (.int p2), .val (.ref a3), .val (.int (p1 / p2)), .val (.int (2 : Int32))] [(.int (p1 / p2))])) _
    refine XS.iloadN X17.here hx rfl (hb hby d1_21) rfl ?_
    show Steps p.tables e below (T17.setTop (mkF m 22 #[.val (.int p1), .val (.int p2), .val (.ref a3), .val (.int (p1 / p2)), .val (.int (2 : Int32))] [(.int p2), (.int (p1 / p2))])) _
    refine XS.idiv X17.here hx rfl (hb hby d1_22) rfl hnz ?_
    show Steps p.tables e below (T17.setTop (mkF m 23 #[.val (.int p1), .val (.int p2), .val (.ref a3), .val (.int (p1 / p2)), .val (.int (2 : Int32))] [(.int ((p1 / p2) / p2))])) _
    refine XS.istoreN X17.here hx rfl (hb hby d1_23) rfl (l' := #[.val (.int p1), .val (.int p2), .val (.ref a3), .val (.int ((p1 / p2) / p2)), .val (.int (2 : Int32))]) rfl ?_
    show Steps p.tables e below (T17.setTop (mkF m 24 #[.val (.int p1), .val (.int p2), .val (.ref a3), .val (.int ((p1 / p2) / p2)), .val (.int (2 : Int32))] [])) _
    refine XS.iinc X17.here hx rfl (hb hby d1_24) rfl (l' := #[.val (.int p1), .val (.int p2), .val (.ref a3), .val (.int ((p1 / p2) / p2)), .val (.int (1 : Int32))]) rfl ?_
    show Steps p.tables e below (T17.setTop (mkF m 27 #[.val (.int p1), .val (.int p2), .val (.ref a3), .val (.int ((p1 / p2) / p2)), .val (.int (1 : Int32))] [])) _
    refine XS.goto X17.here hx rfl (pc0 := 27) (pc' := 8) rfl (hb hby d1_27) (by decide) (by decide) ?_
    exact k
  obtain ⟨cl18, Ar18, Aq18, AS18, AN18, AH18, AG18⟩ := id Va3_17
  refine own_adv (B := (T17.setTop (mkF m 19 #[.val (.int p1), .val (.int p2), .val (.ref a3), .val (.int ((p1 / p2) / p2)), .val (.int (1 : Int32))] [(.int (((p1 / p2) / p2) % p2)), (.int (1 : Int32)), (.ref a3)]))) (fun t k => ?_) ?_
  · show Steps p.tables e below (T17.setTop (mkF m 8 #[.val (.int p1), .val (.int p2), .val (.ref a3), .val (.int ((p1 / p2) / p2)), .val (.int (1 : Int32))] [])) _
    refine XS.iload X17.here hx rfl (hb hby d1_8) rfl ?_
    show Steps p.tables e below (T17.setTop (mkF m 10 #[.val (.int p1), .val (.int p2), .val (.ref a3), .val (.int ((p1 / p2) / p2)), .val (.int (1 : Int32))] [(.int (1 : Int32))])) _
    refine XS.ifNo X17.here hx rfl (hb hby d1_10) rfl ((if0 _ _).trans (flt (by decide)).1) ?_
    show Steps p.tables e below (T17.setTop (mkF m 13 #[.val (.int p1), .val (.int p2), .val (.ref a3), .val (.int ((p1 / p2) / p2)), .val (.int (1 : Int32))] [])) _
    refine XS.aloadN X17.here hx rfl (hb hby d1_13) rfl rfl ?_
    show Steps p.tables e below (T17.setTop (mkF m 14 #[.val (.int p1), .val (.int p2), .val (.ref a3), .val (.int ((p1 / p2) / p2)), .val (.int (1 : Int32))] [(.ref a3)])) _
    refine XS.iload X17.here hx rfl (hb hby d1_14) rfl ?_
    show Steps p.tables e below (T17.setTop (mkF m 16 #[.val (.int p1), .val (.int p2), .val (.ref a3), .val (.int ((p1 / p2) / p2)), .val (.int (1 : Int32))] [(.int (1 : Int32)), (.ref a3)])) _
    refine XS.iloadN X17.here hx rfl (hb hby d1_16) rfl ?_
    show Steps p.tables e below (T17.setTop (mkF m 17 #[.val (.int p1), .val (.int p2), .val (.ref a3), .val (.int ((p1 / p2) / p2)), .val (.int (1 : Int32))] [(.int ((p1 / p2) / p2)), (.int (1 : Int32)), (.ref a3)])) _
    refine XS.iloadN X17.here hx rfl (hb hby d1_17) rfl ?_
    show Steps p.tables e below (T17.setTop (mkF m 18 #[.val (.int p1), .val (.int p2), .val (.ref a3), .val (.int ((p1 / p2) / p2)), .val (.int (1 : Int32))] [(.int p2), (.int ((p1 / p2) / p2)), (.int (1 : Int32)), (.ref a3)])) _
    refine iremM X17 hx rfl (hb hby d1_18) rfl hnz ?_
    exact k
  obtain ⟨T19, h19, X19, e19, W19, st19⟩ := stI X17 hx hZ e17 Ar18 (j := (1 : Int32)) (inb_of AS18 ⟨by decide, by decide⟩) (g := (mkF m 19 #[.val (.int p1), .val (.int p2), .val (.ref a3), .val (.int ((p1 / p2) / p2)), .val (.int (1 : Int32))] [(.int (((p1 / p2) / p2) % p2)), (.int (1 : Int32)), (.ref a3)])) rfl rfl (hb hby d1_19)
  have N19 := Fr.snoc X19 N17 g3
  refine own_adv (B := (T19.setTop (mkF m 20 #[.val (.int p1), .val (.int p2), .val (.ref a3), .val (.int ((p1 / p2) / p2)), .val (.int (1 : Int32))] []))) st19 ?_
  have Va3_19 : Arv Z h19 a3 k3 .int (4 : Int32) [(.int u0), (.int (((p1 / p2) / p2) % p2)), (.int ((p1 / p2) % p2)), (.int (p1 % p2))] (.int (0 : Int32)) := Arv.set Ar18 Aq18 AS18 AN18 AH18 AG18 rfl W19 1 rfl (Nat.le_of_ble_eq_true rfl)
  have ZZ19 : n0 ≤ h19.size := Nat.le_trans ZZ17 (Keep.of_wr W19).1
  refine own_adv (B := (T19.setTop (mkF m 8 #[.val (.int p1), .val (.int p2), .val (.ref a3), .val (.int (((p1 / p2) / p2) / p2)), .val (.int (0 : Int32))] []))) (fun t k => ?_) ?_
  · show Steps p.tables e below (T19.setTop (mkF m 20 #[.val (.int p1), .val (.int p2), .val (.ref a3), .val (.int ((p1 / p2) / p2)), .val (.int (1 : Int32))] [])) _
    refine XS.iloadN X19.here hx rfl (hb hby d1_20) rfl ?_
    show Steps p.tables e below (T19.setTop (mkF m 21 #[.val (.int p1), .val (.int p2), .val (.ref a3), .val (.int ((p1 / p2) / p2)), .val (.int (1 : Int32))] [(.int ((p1 / p2) / p2))])) _
    refine XS.iloadN X19.here hx rfl (hb hby d1_21) rfl ?_
    show Steps p.tables e below (T19.setTop (mkF m 22 #[.val (.int p1), .val (.int p2), .val (.ref a3), .val (.int ((p1 / p2) / p2)), .val (.int (1 : Int32))] [(.int p2), (.int ((p1 / p2) / p2))])) _
    refine XS.idiv X19.here hx rfl (hb hby d1_22) rfl hnz ?_
    show Steps p.tables e below (T19.setTop (mkF m 23 #[.val (.int p1), .val (.int p2), .val (.ref a3), .val (.int ((p1 / p2) / p2)), .val (.int (1 : Int32))] [(.int (((p1 / p2) / p2) / p2))])) _
    refine XS.istoreN X19.here hx rfl (hb hby d1_23) rfl (l' := #[.val (.int p1), .val (.int p2), .val (.ref a3), .val (.int (((p1 / p2) / p2) / p2)), .val (.int (1 : Int32))]) rfl ?_
    show Steps p.tables e below (T19.setTop (mkF m 24 #[.val (.int p1), .val (.int p2), .val (.ref a3), .val (.int (((p1 / p2) / p2) / p2)), .val (.int (1 : Int32))] [])) _
    refine XS.iinc X19.here hx rfl (hb hby d1_24) rfl (l' := #[.val (.int p1), .val (.int p2), .val (.ref a3), .val (.int (((p1 / p2) / p2) / p2)), .val (.int (0 : Int32))]) rfl ?_
    show Steps p.tables e below (T19.setTop (mkF m 27 #[.val (.int p1), .val (.int p2), .val (.ref a3), .val (.int (((p1 / p2) / p2) / p2)), .val (.int (0 : Int32))] [])) _
    refine XS.goto X19.here hx rfl (pc0 := 27) (pc' := 8) rfl (hb hby d1_27) (by decide) (by decide) ?_
    exact k
  obtain ⟨cl20, Ar20, Aq20, AS20, AN20, AH20, AG20⟩ := id Va3_19
  refine own_adv (B := (T19.setTop (mkF m 19 #[.val (.int p1), .val (.int p2), .val (.ref a3), .val (.int (((p1 / p2) / p2) / p2)), .val (.int (0 : Int32))] [(.int ((((p1 / p2) / p2) / p2) % p2)), (.int (0 : Int32)), (.ref a3)]))) (fun t k => ?_) ?_
  · show Steps p.tables e below (T19.setTop (mkF m 8 #[.val (.int p1), .val (.int p2), .val (.ref a3), .val (.int (((p1 / p2) / p2) / p2)), .val (.int (0 : Int32))] [])) _
    refine XS.iload X19.here hx rfl (hb hby d1_8) rfl ?_
    show Steps p.tables e below (T19.setTop (mkF m 10 #[.val (.int p1), .val (.int p2), .val (.ref a3), .val (.int (((p1 / p2) / p2) / p2)), .val (.int (0 : Int32))] [(.int (0 : Int32))])) _
    refine XS.ifNo X19.here hx rfl (hb hby d1_10) rfl ((if0 _ _).trans (flt (by decide)).1) ?_
    show Steps p.tables e below (T19.setTop (mkF m 13 #[.val (.int p1), .val (.int p2), .val (.ref a3), .val (.int (((p1 / p2) / p2) / p2)), .val (.int (0 : Int32))] [])) _
    refine XS.aloadN X19.here hx rfl (hb hby d1_13) rfl rfl ?_
    show Steps p.tables e below (T19.setTop (mkF m 14 #[.val (.int p1), .val (.int p2), .val (.ref a3), .val (.int (((p1 / p2) / p2) / p2)), .val (.int (0 : Int32))] [(.ref a3)])) _
    refine XS.iload X19.here hx rfl (hb hby d1_14) rfl ?_
    show Steps p.tables e below (T19.setTop (mkF m 16 #[.val (.int p1), .val (.int p2), .val (.ref a3), .val (.int (((p1 / p2) / p2) / p2)), .val (.int (0 : Int32))] [(.int (0 : Int32)), (.ref a3)])) _
    refine XS.iloadN X19.here hx rfl (hb hby d1_16) rfl ?_
    show Steps p.tables e below (T19.setTop (mkF m 17 #[.val (.int p1), .val (.int p2), .val (.ref a3), .val (.int (((p1 / p2) / p2) / p2)), .val (.int (0 : Int32))] [(.int (((p1 / p2) / p2) / p2)), (.int (0 : Int32)), (.ref a3)])) _
    refine XS.iloadN X19.here hx rfl (hb hby d1_17) rfl ?_
    show Steps p.tables e below (T19.setTop (mkF m 18 #[.val (.int p1), .val (.int p2), .val (.ref a3), .val (.int (((p1 / p2) / p2) / p2)), .val (.int (0 : Int32))] [(.int p2), (.int (((p1 / p2) / p2) / p2)), (.int (0 : Int32)), (.ref a3)])) _
    refine iremM X19 hx rfl (hb hby d1_18) rfl hnz ?_
    exact k
  obtain ⟨T21, h21, X21, e21, W21, st21⟩ := stI X19 hx hZ e19 Ar20 (j := (0 : Int32)) (inb_of AS20 ⟨by decide, by decide⟩) (g := (mkF m 19 #[.val (.int p1), .val (.int p2), .val (.ref a3), .val (.int (((p1 / p2) / p2) / p2)), .val (.int (0 : Int32))] [(.int ((((p1 / p2) / p2) / p2) % p2)), (.int (0 : Int32)), (.ref a3)])) rfl rfl (hb hby d1_19)
  have N21 := Fr.snoc X21 N19 g3
  refine own_adv (B := (T21.setTop (mkF m 20 #[.val (.int p1), .val (.int p2), .val (.ref a3), .val (.int (((p1 / p2) / p2) / p2)), .val (.int (0 : Int32))] []))) st21 ?_
  have Va3_21 : Arv Z h21 a3 k3 .int (4 : Int32) [(.int ((((p1 / p2) / p2) / p2) % p2)), (.int (((p1 / p2) / p2) % p2)), (.int ((p1 / p2) % p2)), (.int (p1 % p2))] (.int (0 : Int32)) := Arv.set Ar20 Aq20 AS20 AN20 AH20 AG20 rfl W21 0 rfl (Nat.le_of_ble_eq_true rfl)
  have ZZ21 : n0 ≤ h21.size := Nat.le_trans ZZ19 (Keep.of_wr W21).1
  refine own_adv (B := (T21.setTop (mkF m 8 #[.val (.int p1), .val (.int p2), .val (.ref a3), .val (.int ((((p1 / p2) / p2) / p2) / p2)), .val (.int (-1 : Int32))] []))) (fun t k => ?_) ?_
  · show Steps p.tables e below (T21.setTop (mkF m 20 #[.val (.int p1), .val (.int p2), .val (.ref a3), .val (.int (((p1 / p2) / p2) / p2)), .val (.int (0 : Int32))] [])) _
    refine XS.iloadN X21.here hx rfl (hb hby d1_20) rfl ?_
    show Steps p.tables e below (T21.setTop (mkF m 21 #[.val (.int p1), .val (.int p2), .val (.ref a3), .val (.int (((p1 / p2) / p2) / p2)), .val (.int (0 : Int32))] [(.int (((p1 / p2) / p2) / p2))])) _
    refine XS.iloadN X21.here hx rfl (hb hby d1_21) rfl ?_
    show Steps p.tables e below (T21.setTop (mkF m 22 #[.val (.int p1), .val (.int p2), .val (.ref a3), .val (.int (((p1 / p2) / p2) / p2)), .val (.int (0 : Int32))] [(.int p2), (.int (((p1 / p2) / p2) / p2))])) _
    refine XS.idiv X21.here hx rfl (hb hby d1_22) rfl hnz ?_
    show Steps p.tables e below (T21.setTop (mkF m 23 #[.val (.int p1), .val (.int p2), .val (.ref a3), .val (.int (((p1 / p2) / p2) / p2)), .val (.int (0 : Int32))] [(.int ((((p1 / p2) / p2) / p2) / p2))])) _
    refine XS.istoreN X21.here hx rfl (hb hby d1_23) rfl (l' := #[.val (.int p1), .val (.int p2), .val (.ref a3), .val (.int ((((p1 / p2) / p2) / p2) / p2)), .val (.int (0 : Int32))]) rfl ?_
    show Steps p.tables e below (T21.setTop (mkF m 24 #[.val (.int p1), .val (.int p2), .val (.ref a3), .val (.int ((((p1 / p2) / p2) / p2) / p2)), .val (.int (0 : Int32))] [])) _
    refine XS.iinc X21.here hx rfl (hb hby d1_24) rfl (l' := #[.val (.int p1), .val (.int p2), .val (.ref a3), .val (.int ((((p1 / p2) / p2) / p2) / p2)), .val (.int (-1 : Int32))]) rfl ?_
    show Steps p.tables e below (T21.setTop (mkF m 27 #[.val (.int p1), .val (.int p2), .val (.ref a3), .val (.int ((((p1 / p2) / p2) / p2) / p2)), .val (.int (-1 : Int32))] [])) _
    refine XS.goto X21.here hx rfl (pc0 := 27) (pc' := 8) rfl (hb hby d1_27) (by decide) (by decide) ?_
    exact k
  refine own_adv (B := (T21.setTop (mkF m 30 #[.val (.int p1), .val (.int p2), .val (.ref a3), .val (.int ((((p1 / p2) / p2) / p2) / p2)), .val (.int (-1 : Int32))] []))) (fun t k => ?_) ?_
  · show Steps p.tables e below (T21.setTop (mkF m 8 #[.val (.int p1), .val (.int p2), .val (.ref a3), .val (.int ((((p1 / p2) / p2) / p2) / p2)), .val (.int (-1 : Int32))] [])) _
    refine XS.iload X21.here hx rfl (hb hby d1_8) rfl ?_
    show Steps p.tables e below (T21.setTop (mkF m 10 #[.val (.int p1), .val (.int p2), .val (.ref a3), .val (.int ((((p1 / p2) / p2) / p2) / p2)), .val (.int (-1 : Int32))] [(.int (-1 : Int32))])) _
    refine XS.ifYes X21.here hx rfl (pc0 := 10) (pc' := 30) rfl (hb hby d1_10) rfl ((if0 _ _).trans (tlt (by decide)).1) (by decide) (by decide) ?_
    exact k
  obtain ⟨fs, hr, hrun, hended, hW, hsame⟩ := X21.leave (v := none) (fun _ => rfl)
  refine ⟨_, _, ?_, hrun, hended, _, _, rfl, ?_, ⟨_, rfl⟩, hW, hsame.mono (by decide) (by decide)⟩
  · show Steps p.tables e below (T21.setTop (mkF m 30 #[.val (.int p1), .val (.int p2), .val (.ref a3), .val (.int ((((p1 / p2) / p2) / p2) / p2)), .val (.int (-1 : Int32))] [])) _
    exact X21.returnOut hx Bd.returns (hb hby d1_30) hr
  · show Q1_4 Z p1 p2 a3 u0 u1 u2 u3 k3 h0 n0 _ T21.heap _
    rw [e21]
    exact ⟨rfl, N21, ZZ21, Va3_21⟩
theorem ef_0 (m : MethodId) (x0 : Int32) (x1 : Int32) (x2 : Int32) (x3 : Int32) (x4 : Int32) (x5 : Int32) : entryFrame m #[(.int x0), (.int x1), (.int x2), (.int x3), (.int x4), (.int x5)] maxLocals = mkF m 0 #[.val (.int x0), .val (.int x1), .val (.int x2), .val (.int x3), .val (.int x4), .val (.int x5), .unset, .unset, .unset, .unset, .unset, .unset, .unset, .unset, .unset, .unset, .unset, .unset] [] := by first | (simp [entryFrame, mkF, argsToLocals, Value.category, maxLocals]; done) | rfl
def Q0 (Z : State) (p1 : Int32) (p2 : Int32) (p3 : Int32) (p4 : Int32) (p5 : Int32) (p6 : Int32) (h0 : Heap) (n0 : Nat) (v : Option Value) (h : Heap) (L : List Loc) : Prop := v = some (.int (1 : Int32)) ∧ Fr n0 L
set_option maxRecDepth 65536 in
set_option maxHeartbeats 40000000 in
theorem rm0 (l : Launch) (Z : State) (a0 : Array Value) (hw : ∀ d ∈ tables_1, d.before a0 Z = true) (ws : List Jvm.Cond) (p1 : Int32) (p2 : Int32) (p3 : Int32) (p4 : Int32) (p5 : Int32) (p6 : Int32) (h0 : Heap) (n0 : Nat) (Z0 : n0 ≤ h0.size) :
    MetFree l x (head1 (Jvm.Cond.code x code maxLocals ret :: ws) room_1) (fun a U => a = #[(.int p1), (.int p2), (.int p3), (.int p4), (.int p5), (.int p6)] ∧ Z.Warmed39 U.vm ∧ U.heap = h0) (fun _ _ _ _ _ => True) (fun _ U o U' => ∃ v L, o = .returned v ∧ Q0 Z p1 p2 p3 p4 p5 p6 h0 n0 v U'.heap L ∧ FrameEnd U o U' L room_1.cells room_1.slots) := by
  refine MetFree.of_bodySF (plainFor_of_name pn_0) hisR ?_
  intro p e s m args below meth c s₁ Bd hml0 hP hK
  obtain ⟨rfl, hZ, hh⟩ := hP
  have hx := Bd.exec
  have hby := Bd.bytes
  have hml : c.maxLocals = 18 := hml0
  have hown : s.vm.findClass "com/example/grovebra/grovebra/TreeAlgebraTupleAtPinLaw" = some m.cls := findClass_of_methodNamed Bd.named
  have hnm := (name_of_methodNamed Bd.named Bd.method).1
  have X0 : Stand p l e room_1 s m #[(.int p1), (.int p2), (.int p3), (.int p4), (.int p5), (.int p6)] below meth c s₁ [] 0 0 := Stand.of_body Bd
  have e0 : s₁.heap = h0 := by rw [← hh, Bd.state]; rfl
  have N0 := Fr.nil n0
  refine own_adv (B := (s₁.setTop (mkF m 0 #[.val (.int p1), .val (.int p2), .val (.int p3), .val (.int p4), .val (.int p5), .val (.int p6), .unset, .unset, .unset, .unset, .unset, .unset, .unset, .unset, .unset, .unset, .unset, .unset] []))) (fun t k => castTop (ef_0 m p1 p2 p3 p4 p5 p6) k) ?_
  refine own_adv (B := (s₁.setTop (mkF m 8 #[.val (.int p1), .val (.int p2), .val (.int p3), .val (.int p4), .val (.int p5), .val (.int p6), .val (.int ((p1 &&& (2147483647 : Int32)) % (5 : Int32))), .unset, .unset, .unset, .unset, .unset, .unset, .unset, .unset, .unset, .unset, .unset] []))) (fun t k => ?_) ?_
  · show Steps p.tables e below (s₁.setTop (mkF m 0 #[.val (.int p1), .val (.int p2), .val (.int p3), .val (.int p4), .val (.int p5), .val (.int p6), .unset, .unset, .unset, .unset, .unset, .unset, .unset, .unset, .unset, .unset, .unset, .unset] [])) _
    refine XS.iloadN X0.here hx rfl (hb hby at_0) rfl ?_
    show Steps p.tables e below (s₁.setTop (mkF m 1 #[.val (.int p1), .val (.int p2), .val (.int p3), .val (.int p4), .val (.int p5), .val (.int p6), .unset, .unset, .unset, .unset, .unset, .unset, .unset, .unset, .unset, .unset, .unset, .unset] [(.int p1)])) _
    refine X0.ldcInt hx hown (mvT hZ (hw _ (List.mem_of_getElem? (i := 0) rfl))) (g := (mkF m 1 #[.val (.int p1), .val (.int p2), .val (.int p3), .val (.int p4), .val (.int p5), .val (.int p6), .unset, .unset, .unset, .unset, .unset, .unset, .unset, .unset, .unset, .unset, .unset, .unset] [(.int p1)])) rfl (hb hby at_1) _ ?_
    show Steps p.tables e below (s₁.setTop (mkF m 3 #[.val (.int p1), .val (.int p2), .val (.int p3), .val (.int p4), .val (.int p5), .val (.int p6), .unset, .unset, .unset, .unset, .unset, .unset, .unset, .unset, .unset, .unset, .unset, .unset] [(.int (2147483647 : Int32)), (.int p1)])) _
    refine XS.iand X0.here hx rfl (hb hby at_3) rfl ?_
    show Steps p.tables e below (s₁.setTop (mkF m 4 #[.val (.int p1), .val (.int p2), .val (.int p3), .val (.int p4), .val (.int p5), .val (.int p6), .unset, .unset, .unset, .unset, .unset, .unset, .unset, .unset, .unset, .unset, .unset, .unset] [(.int (p1 &&& (2147483647 : Int32)))])) _
    refine XS.iconst X0.here hx rfl (hb hby at_4) ?_
    show Steps p.tables e below (s₁.setTop (mkF m 5 #[.val (.int p1), .val (.int p2), .val (.int p3), .val (.int p4), .val (.int p5), .val (.int p6), .unset, .unset, .unset, .unset, .unset, .unset, .unset, .unset, .unset, .unset, .unset, .unset] [(.int (5 : Int32)), (.int (p1 &&& (2147483647 : Int32)))])) _
    refine iremM X0 hx rfl (hb hby at_5) rfl (by decide) ?_
    show Steps p.tables e below (s₁.setTop (mkF m 6 #[.val (.int p1), .val (.int p2), .val (.int p3), .val (.int p4), .val (.int p5), .val (.int p6), .unset, .unset, .unset, .unset, .unset, .unset, .unset, .unset, .unset, .unset, .unset, .unset] [(.int ((p1 &&& (2147483647 : Int32)) % (5 : Int32)))])) _
    refine XS.istore X0.here hx rfl (hb hby at_6) rfl (l' := #[.val (.int p1), .val (.int p2), .val (.int p3), .val (.int p4), .val (.int p5), .val (.int p6), .val (.int ((p1 &&& (2147483647 : Int32)) % (5 : Int32))), .unset, .unset, .unset, .unset, .unset, .unset, .unset, .unset, .unset, .unset, .unset]) rfl ?_
    exact k
  have hlen := own_len5 p1
  generalize hlen0 : ((p1 &&& (2147483647 : Int32)) % (5 : Int32)) = len at hlen ⊢
  refine own_adv (B := (s₁.setTop (mkF m 9 #[.val (.int p1), .val (.int p2), .val (.int p3), .val (.int p4), .val (.int p5), .val (.int p6), .val (.int len), .unset, .unset, .unset, .unset, .unset, .unset, .unset, .unset, .unset, .unset, .unset] [(.int (0 : Int32))]))) (fun t k => ?_) ?_
  · show Steps p.tables e below (s₁.setTop (mkF m 8 #[.val (.int p1), .val (.int p2), .val (.int p3), .val (.int p4), .val (.int p5), .val (.int p6), .val (.int len), .unset, .unset, .unset, .unset, .unset, .unset, .unset, .unset, .unset, .unset, .unset] [])) _
    refine XS.iconst X0.here hx rfl (hb hby at_8) ?_
    exact k
  obtain ⟨T22, h22, k22, X22, e22, E22, A22, st22⟩ := newP X0 hx hZ (hw _ (List.mem_of_getElem? (i := 1) rfl)) e0 (g := (mkF m 9 #[.val (.int p1), .val (.int p2), .val (.int p3), .val (.int p4), .val (.int p5), .val (.int p6), .val (.int len), .unset, .unset, .unset, .unset, .unset, .unset, .unset, .unset, .unset, .unset, .unset] [(.int (0 : Int32))])) rfl (hb hby at_9) rfl (by decide) (cap := 0) (by decide) (by decide) (by decide) (by decide)
  obtain ⟨t0, g22⟩ : ∃ z, z = h0.size := ⟨_, rfl⟩
  rw [← g22] at A22 st22
  have V_t0 : Arv Z h22 t0 k22 .int (0 : Int32) [] (.int (0 : Int32)) := (Arv.new A22 (by decide)).pad (pad_rep [] (.int (0 : Int32)) 0)
  refine own_adv (B := (T22.setTop (mkF m 11 #[.val (.int p1), .val (.int p2), .val (.int p3), .val (.int p4), .val (.int p5), .val (.int p6), .val (.int len), .unset, .unset, .unset, .unset, .unset, .unset, .unset, .unset, .unset, .unset, .unset] [(.ref t0)]))) st22 ?_
  have g_t0 : n0 ≤ t0 := by rw [g22]; exact Z0
  have ZZ22 : n0 ≤ h22.size := Nat.le_trans Z0 E22.1
  refine own_adv (B := (T22.setTop (mkF m 14 #[.val (.int p1), .val (.int p2), .val (.int p3), .val (.int p4), .val (.int p5), .val (.int p6), .val (.int len), .val (.ref t0), .unset, .unset, .unset, .unset, .unset, .unset, .unset, .unset, .unset, .unset] [(.int (1 : Int32))]))) (fun t k => ?_) ?_
  · show Steps p.tables e below (T22.setTop (mkF m 11 #[.val (.int p1), .val (.int p2), .val (.int p3), .val (.int p4), .val (.int p5), .val (.int p6), .val (.int len), .unset, .unset, .unset, .unset, .unset, .unset, .unset, .unset, .unset, .unset, .unset] [(.ref t0)])) _
    refine XS.astore X22.here hx rfl (hb hby at_11) rfl rfl (l' := #[.val (.int p1), .val (.int p2), .val (.int p3), .val (.int p4), .val (.int p5), .val (.int p6), .val (.int len), .val (.ref t0), .unset, .unset, .unset, .unset, .unset, .unset, .unset, .unset, .unset, .unset]) rfl ?_
    show Steps p.tables e below (T22.setTop (mkF m 13 #[.val (.int p1), .val (.int p2), .val (.int p3), .val (.int p4), .val (.int p5), .val (.int p6), .val (.int len), .val (.ref t0), .unset, .unset, .unset, .unset, .unset, .unset, .unset, .unset, .unset, .unset] [])) _
    refine XS.iconst X22.here hx rfl (hb hby at_13) ?_
    exact k
  obtain ⟨T23, h23, k23, X23, e23, E23, A23, st23⟩ := newP X22 hx hZ (hw _ (List.mem_of_getElem? (i := 1) rfl)) e22 (g := (mkF m 14 #[.val (.int p1), .val (.int p2), .val (.int p3), .val (.int p4), .val (.int p5), .val (.int p6), .val (.int len), .val (.ref t0), .unset, .unset, .unset, .unset, .unset, .unset, .unset, .unset, .unset, .unset] [(.int (1 : Int32))])) rfl (hb hby at_14) rfl (by decide) (cap := 1) (by decide) (by decide) (by decide) (by decide)
  obtain ⟨t1, g23⟩ : ∃ z, z = h22.size := ⟨_, rfl⟩
  rw [← g23] at A23 st23
  have V_t1 : Arv Z h23 t1 k23 .int (1 : Int32) [(.int (0 : Int32))] (.int (0 : Int32)) := (Arv.new A23 (by decide)).pad (pad_rep [] (.int (0 : Int32)) 1)
  refine own_adv (B := (T23.setTop (mkF m 16 #[.val (.int p1), .val (.int p2), .val (.int p3), .val (.int p4), .val (.int p5), .val (.int p6), .val (.int len), .val (.ref t0), .unset, .unset, .unset, .unset, .unset, .unset, .unset, .unset, .unset, .unset] [(.ref t1)]))) st23 ?_
  have g_t1 : n0 ≤ t1 := by rw [g23]; exact ZZ22
  have ZZ23 : n0 ≤ h23.size := Nat.le_trans ZZ22 E23.1
  have Vt0_23 := V_t0.ext E23
  have ne_t0_t1 : t0 ≠ t1 := Nat.ne_of_lt (Nat.lt_of_lt_of_le V_t0.lt (Nat.le_of_eq g23.symm))
  refine own_adv (B := (T23.setTop (mkF m 19 #[.val (.int p1), .val (.int p2), .val (.int p3), .val (.int p4), .val (.int p5), .val (.int p6), .val (.int len), .val (.ref t0), .unset, .unset, .unset, .unset, .unset, .unset, .unset, .unset, .unset, .unset] [(.int p1), (.int (0 : Int32)), (.ref t1), (.ref t1)]))) (fun t k => ?_) ?_
  · show Steps p.tables e below (T23.setTop (mkF m 16 #[.val (.int p1), .val (.int p2), .val (.int p3), .val (.int p4), .val (.int p5), .val (.int p6), .val (.int len), .val (.ref t0), .unset, .unset, .unset, .unset, .unset, .unset, .unset, .unset, .unset, .unset] [(.ref t1)])) _
    refine XS.dup X23.here hx rfl (hb hby at_16) rfl rfl ?_
    show Steps p.tables e below (T23.setTop (mkF m 17 #[.val (.int p1), .val (.int p2), .val (.int p3), .val (.int p4), .val (.int p5), .val (.int p6), .val (.int len), .val (.ref t0), .unset, .unset, .unset, .unset, .unset, .unset, .unset, .unset, .unset, .unset] [(.ref t1), (.ref t1)])) _
    refine XS.iconst X23.here hx rfl (hb hby at_17) ?_
    show Steps p.tables e below (T23.setTop (mkF m 18 #[.val (.int p1), .val (.int p2), .val (.int p3), .val (.int p4), .val (.int p5), .val (.int p6), .val (.int len), .val (.ref t0), .unset, .unset, .unset, .unset, .unset, .unset, .unset, .unset, .unset, .unset] [(.int (0 : Int32)), (.ref t1), (.ref t1)])) _
    refine XS.iloadN X23.here hx rfl (hb hby at_18) rfl ?_
    exact k
  obtain ⟨cl24, Ar24, Aq24, AS24, AN24, AH24, AG24⟩ := id V_t1
  obtain ⟨T25, h25, X25, e25, W25, st25⟩ := stI X23 hx hZ e23 Ar24 (j := (0 : Int32)) (inb_of AS24 ⟨by decide, by decide⟩) (g := (mkF m 19 #[.val (.int p1), .val (.int p2), .val (.int p3), .val (.int p4), .val (.int p5), .val (.int p6), .val (.int len), .val (.ref t0), .unset, .unset, .unset, .unset, .unset, .unset, .unset, .unset, .unset, .unset] [(.int p1), (.int (0 : Int32)), (.ref t1), (.ref t1)])) rfl rfl (hb hby at_19)
  have N25 := Fr.snoc X25 N0 g_t1
  refine own_adv (B := (T25.setTop (mkF m 20 #[.val (.int p1), .val (.int p2), .val (.int p3), .val (.int p4), .val (.int p5), .val (.int p6), .val (.int len), .val (.ref t0), .unset, .unset, .unset, .unset, .unset, .unset, .unset, .unset, .unset, .unset] [(.ref t1)]))) st25 ?_
  have Vt1_25 : Arv Z h25 t1 k23 .int (1 : Int32) [(.int p1)] (.int (0 : Int32)) := Arv.set Ar24 Aq24 AS24 AN24 AH24 AG24 rfl W25 0 rfl (Nat.le_of_ble_eq_true rfl)
  have Vt0_25 := Vt0_23.other W25 ne_t0_t1
  have ZZ25 : n0 ≤ h25.size := Nat.le_trans ZZ23 (Keep.of_wr W25).1
  refine own_adv (B := (T25.setTop (mkF m 23 #[.val (.int p1), .val (.int p2), .val (.int p3), .val (.int p4), .val (.int p5), .val (.int p6), .val (.int len), .val (.ref t0), .val (.ref t1), .unset, .unset, .unset, .unset, .unset, .unset, .unset, .unset, .unset] [(.int (2 : Int32))]))) (fun t k => ?_) ?_
  · show Steps p.tables e below (T25.setTop (mkF m 20 #[.val (.int p1), .val (.int p2), .val (.int p3), .val (.int p4), .val (.int p5), .val (.int p6), .val (.int len), .val (.ref t0), .unset, .unset, .unset, .unset, .unset, .unset, .unset, .unset, .unset, .unset] [(.ref t1)])) _
    refine XS.astore X25.here hx rfl (hb hby at_20) rfl rfl (l' := #[.val (.int p1), .val (.int p2), .val (.int p3), .val (.int p4), .val (.int p5), .val (.int p6), .val (.int len), .val (.ref t0), .val (.ref t1), .unset, .unset, .unset, .unset, .unset, .unset, .unset, .unset, .unset]) rfl ?_
    show Steps p.tables e below (T25.setTop (mkF m 22 #[.val (.int p1), .val (.int p2), .val (.int p3), .val (.int p4), .val (.int p5), .val (.int p6), .val (.int len), .val (.ref t0), .val (.ref t1), .unset, .unset, .unset, .unset, .unset, .unset, .unset, .unset, .unset] [])) _
    refine XS.iconst X25.here hx rfl (hb hby at_22) ?_
    exact k
  obtain ⟨T26, h26, k26, X26, e26, E26, A26, st26⟩ := newP X25 hx hZ (hw _ (List.mem_of_getElem? (i := 1) rfl)) e25 (g := (mkF m 23 #[.val (.int p1), .val (.int p2), .val (.int p3), .val (.int p4), .val (.int p5), .val (.int p6), .val (.int len), .val (.ref t0), .val (.ref t1), .unset, .unset, .unset, .unset, .unset, .unset, .unset, .unset, .unset] [(.int (2 : Int32))])) rfl (hb hby at_23) rfl (by decide) (cap := 2) (by decide) (by decide) (by decide) (by decide)
  obtain ⟨t2, g26⟩ : ∃ z, z = h25.size := ⟨_, rfl⟩
  rw [← g26] at A26 st26
  have V_t2 : Arv Z h26 t2 k26 .int (2 : Int32) [(.int (0 : Int32)), (.int (0 : Int32))] (.int (0 : Int32)) := (Arv.new A26 (by decide)).pad (pad_rep [] (.int (0 : Int32)) 2)
  refine own_adv (B := (T26.setTop (mkF m 25 #[.val (.int p1), .val (.int p2), .val (.int p3), .val (.int p4), .val (.int p5), .val (.int p6), .val (.int len), .val (.ref t0), .val (.ref t1), .unset, .unset, .unset, .unset, .unset, .unset, .unset, .unset, .unset] [(.ref t2)]))) st26 ?_
  have g_t2 : n0 ≤ t2 := by rw [g26]; exact ZZ25
  have ZZ26 : n0 ≤ h26.size := Nat.le_trans ZZ25 E26.1
  have Vt0_26 := Vt0_25.ext E26
  have ne_t0_t2 : t0 ≠ t2 := Nat.ne_of_lt (Nat.lt_of_lt_of_le Vt0_25.lt (Nat.le_of_eq g26.symm))
  have Vt1_26 := Vt1_25.ext E26
  have ne_t1_t2 : t1 ≠ t2 := Nat.ne_of_lt (Nat.lt_of_lt_of_le Vt1_25.lt (Nat.le_of_eq g26.symm))
  refine own_adv (B := (T26.setTop (mkF m 28 #[.val (.int p1), .val (.int p2), .val (.int p3), .val (.int p4), .val (.int p5), .val (.int p6), .val (.int len), .val (.ref t0), .val (.ref t1), .unset, .unset, .unset, .unset, .unset, .unset, .unset, .unset, .unset] [(.int p1), (.int (0 : Int32)), (.ref t2), (.ref t2)]))) (fun t k => ?_) ?_
  · show Steps p.tables e below (T26.setTop (mkF m 25 #[.val (.int p1), .val (.int p2), .val (.int p3), .val (.int p4), .val (.int p5), .val (.int p6), .val (.int len), .val (.ref t0), .val (.ref t1), .unset, .unset, .unset, .unset, .unset, .unset, .unset, .unset, .unset] [(.ref t2)])) _
    refine XS.dup X26.here hx rfl (hb hby at_25) rfl rfl ?_
    show Steps p.tables e below (T26.setTop (mkF m 26 #[.val (.int p1), .val (.int p2), .val (.int p3), .val (.int p4), .val (.int p5), .val (.int p6), .val (.int len), .val (.ref t0), .val (.ref t1), .unset, .unset, .unset, .unset, .unset, .unset, .unset, .unset, .unset] [(.ref t2), (.ref t2)])) _
    refine XS.iconst X26.here hx rfl (hb hby at_26) ?_
    show Steps p.tables e below (T26.setTop (mkF m 27 #[.val (.int p1), .val (.int p2), .val (.int p3), .val (.int p4), .val (.int p5), .val (.int p6), .val (.int len), .val (.ref t0), .val (.ref t1), .unset, .unset, .unset, .unset, .unset, .unset, .unset, .unset, .unset] [(.int (0 : Int32)), (.ref t2), (.ref t2)])) _
    refine XS.iloadN X26.here hx rfl (hb hby at_27) rfl ?_
    exact k
  obtain ⟨cl27, Ar27, Aq27, AS27, AN27, AH27, AG27⟩ := id V_t2
  obtain ⟨T28, h28, X28, e28, W28, st28⟩ := stI X26 hx hZ e26 Ar27 (j := (0 : Int32)) (inb_of AS27 ⟨by decide, by decide⟩) (g := (mkF m 28 #[.val (.int p1), .val (.int p2), .val (.int p3), .val (.int p4), .val (.int p5), .val (.int p6), .val (.int len), .val (.ref t0), .val (.ref t1), .unset, .unset, .unset, .unset, .unset, .unset, .unset, .unset, .unset] [(.int p1), (.int (0 : Int32)), (.ref t2), (.ref t2)])) rfl rfl (hb hby at_28)
  have N28 := Fr.snoc X28 N25 g_t2
  refine own_adv (B := (T28.setTop (mkF m 29 #[.val (.int p1), .val (.int p2), .val (.int p3), .val (.int p4), .val (.int p5), .val (.int p6), .val (.int len), .val (.ref t0), .val (.ref t1), .unset, .unset, .unset, .unset, .unset, .unset, .unset, .unset, .unset] [(.ref t2)]))) st28 ?_
  have Vt2_28 : Arv Z h28 t2 k26 .int (2 : Int32) [(.int p1), (.int (0 : Int32))] (.int (0 : Int32)) := Arv.set Ar27 Aq27 AS27 AN27 AH27 AG27 rfl W28 0 rfl (Nat.le_of_ble_eq_true rfl)
  have Vt0_28 := Vt0_26.other W28 ne_t0_t2
  have Vt1_28 := Vt1_26.other W28 ne_t1_t2
  have ZZ28 : n0 ≤ h28.size := Nat.le_trans ZZ26 (Keep.of_wr W28).1
  refine own_adv (B := (T28.setTop (mkF m 32 #[.val (.int p1), .val (.int p2), .val (.int p3), .val (.int p4), .val (.int p5), .val (.int p6), .val (.int len), .val (.ref t0), .val (.ref t1), .unset, .unset, .unset, .unset, .unset, .unset, .unset, .unset, .unset] [(.int p1), (.int (1 : Int32)), (.ref t2), (.ref t2)]))) (fun t k => ?_) ?_
  · show Steps p.tables e below (T28.setTop (mkF m 29 #[.val (.int p1), .val (.int p2), .val (.int p3), .val (.int p4), .val (.int p5), .val (.int p6), .val (.int len), .val (.ref t0), .val (.ref t1), .unset, .unset, .unset, .unset, .unset, .unset, .unset, .unset, .unset] [(.ref t2)])) _
    refine XS.dup X28.here hx rfl (hb hby at_29) rfl rfl ?_
    show Steps p.tables e below (T28.setTop (mkF m 30 #[.val (.int p1), .val (.int p2), .val (.int p3), .val (.int p4), .val (.int p5), .val (.int p6), .val (.int len), .val (.ref t0), .val (.ref t1), .unset, .unset, .unset, .unset, .unset, .unset, .unset, .unset, .unset] [(.ref t2), (.ref t2)])) _
    refine XS.iconst X28.here hx rfl (hb hby at_30) ?_
    show Steps p.tables e below (T28.setTop (mkF m 31 #[.val (.int p1), .val (.int p2), .val (.int p3), .val (.int p4), .val (.int p5), .val (.int p6), .val (.int len), .val (.ref t0), .val (.ref t1), .unset, .unset, .unset, .unset, .unset, .unset, .unset, .unset, .unset] [(.int (1 : Int32)), (.ref t2), (.ref t2)])) _
    refine XS.iloadN X28.here hx rfl (hb hby at_31) rfl ?_
    exact k
  obtain ⟨cl29, Ar29, Aq29, AS29, AN29, AH29, AG29⟩ := id Vt2_28
  obtain ⟨T30, h30, X30, e30, W30, st30⟩ := stI X28 hx hZ e28 Ar29 (j := (1 : Int32)) (inb_of AS29 ⟨by decide, by decide⟩) (g := (mkF m 32 #[.val (.int p1), .val (.int p2), .val (.int p3), .val (.int p4), .val (.int p5), .val (.int p6), .val (.int len), .val (.ref t0), .val (.ref t1), .unset, .unset, .unset, .unset, .unset, .unset, .unset, .unset, .unset] [(.int p1), (.int (1 : Int32)), (.ref t2), (.ref t2)])) rfl rfl (hb hby at_32)
  have N30 := Fr.snoc X30 N28 g_t2
  refine own_adv (B := (T30.setTop (mkF m 33 #[.val (.int p1), .val (.int p2), .val (.int p3), .val (.int p4), .val (.int p5), .val (.int p6), .val (.int len), .val (.ref t0), .val (.ref t1), .unset, .unset, .unset, .unset, .unset, .unset, .unset, .unset, .unset] [(.ref t2)]))) st30 ?_
  have Vt2_30 : Arv Z h30 t2 k26 .int (2 : Int32) [(.int p1), (.int p1)] (.int (0 : Int32)) := Arv.set Ar29 Aq29 AS29 AN29 AH29 AG29 rfl W30 1 rfl (Nat.le_of_ble_eq_true rfl)
  have Vt0_30 := Vt0_28.other W30 ne_t0_t2
  have Vt1_30 := Vt1_28.other W30 ne_t1_t2
  have ZZ30 : n0 ≤ h30.size := Nat.le_trans ZZ28 (Keep.of_wr W30).1
  refine own_adv (B := (T30.setTop (mkF m 36 #[.val (.int p1), .val (.int p2), .val (.int p3), .val (.int p4), .val (.int p5), .val (.int p6), .val (.int len), .val (.ref t0), .val (.ref t1), .val (.ref t2), .unset, .unset, .unset, .unset, .unset, .unset, .unset, .unset] [(.int (3 : Int32))]))) (fun t k => ?_) ?_
  · show Steps p.tables e below (T30.setTop (mkF m 33 #[.val (.int p1), .val (.int p2), .val (.int p3), .val (.int p4), .val (.int p5), .val (.int p6), .val (.int len), .val (.ref t0), .val (.ref t1), .unset, .unset, .unset, .unset, .unset, .unset, .unset, .unset, .unset] [(.ref t2)])) _
    refine XS.astore X30.here hx rfl (hb hby at_33) rfl rfl (l' := #[.val (.int p1), .val (.int p2), .val (.int p3), .val (.int p4), .val (.int p5), .val (.int p6), .val (.int len), .val (.ref t0), .val (.ref t1), .val (.ref t2), .unset, .unset, .unset, .unset, .unset, .unset, .unset, .unset]) rfl ?_
    show Steps p.tables e below (T30.setTop (mkF m 35 #[.val (.int p1), .val (.int p2), .val (.int p3), .val (.int p4), .val (.int p5), .val (.int p6), .val (.int len), .val (.ref t0), .val (.ref t1), .val (.ref t2), .unset, .unset, .unset, .unset, .unset, .unset, .unset, .unset] [])) _
    refine XS.iconst X30.here hx rfl (hb hby at_35) ?_
    exact k
  obtain ⟨T31, h31, k31, X31, e31, E31, A31, st31⟩ := newP X30 hx hZ (hw _ (List.mem_of_getElem? (i := 1) rfl)) e30 (g := (mkF m 36 #[.val (.int p1), .val (.int p2), .val (.int p3), .val (.int p4), .val (.int p5), .val (.int p6), .val (.int len), .val (.ref t0), .val (.ref t1), .val (.ref t2), .unset, .unset, .unset, .unset, .unset, .unset, .unset, .unset] [(.int (3 : Int32))])) rfl (hb hby at_36) rfl (by decide) (cap := 3) (by decide) (by decide) (by decide) (by decide)
  obtain ⟨t3, g31⟩ : ∃ z, z = h30.size := ⟨_, rfl⟩
  rw [← g31] at A31 st31
  have V_t3 : Arv Z h31 t3 k31 .int (3 : Int32) [(.int (0 : Int32)), (.int (0 : Int32)), (.int (0 : Int32))] (.int (0 : Int32)) := (Arv.new A31 (by decide)).pad (pad_rep [] (.int (0 : Int32)) 3)
  refine own_adv (B := (T31.setTop (mkF m 38 #[.val (.int p1), .val (.int p2), .val (.int p3), .val (.int p4), .val (.int p5), .val (.int p6), .val (.int len), .val (.ref t0), .val (.ref t1), .val (.ref t2), .unset, .unset, .unset, .unset, .unset, .unset, .unset, .unset] [(.ref t3)]))) st31 ?_
  have g_t3 : n0 ≤ t3 := by rw [g31]; exact ZZ30
  have ZZ31 : n0 ≤ h31.size := Nat.le_trans ZZ30 E31.1
  have Vt0_31 := Vt0_30.ext E31
  have ne_t0_t3 : t0 ≠ t3 := Nat.ne_of_lt (Nat.lt_of_lt_of_le Vt0_30.lt (Nat.le_of_eq g31.symm))
  have Vt1_31 := Vt1_30.ext E31
  have ne_t1_t3 : t1 ≠ t3 := Nat.ne_of_lt (Nat.lt_of_lt_of_le Vt1_30.lt (Nat.le_of_eq g31.symm))
  have Vt2_31 := Vt2_30.ext E31
  have ne_t2_t3 : t2 ≠ t3 := Nat.ne_of_lt (Nat.lt_of_lt_of_le Vt2_30.lt (Nat.le_of_eq g31.symm))
  refine own_adv (B := (T31.setTop (mkF m 41 #[.val (.int p1), .val (.int p2), .val (.int p3), .val (.int p4), .val (.int p5), .val (.int p6), .val (.int len), .val (.ref t0), .val (.ref t1), .val (.ref t2), .unset, .unset, .unset, .unset, .unset, .unset, .unset, .unset] [(.int p1), (.int (0 : Int32)), (.ref t3), (.ref t3)]))) (fun t k => ?_) ?_
  · show Steps p.tables e below (T31.setTop (mkF m 38 #[.val (.int p1), .val (.int p2), .val (.int p3), .val (.int p4), .val (.int p5), .val (.int p6), .val (.int len), .val (.ref t0), .val (.ref t1), .val (.ref t2), .unset, .unset, .unset, .unset, .unset, .unset, .unset, .unset] [(.ref t3)])) _
    refine XS.dup X31.here hx rfl (hb hby at_38) rfl rfl ?_
    show Steps p.tables e below (T31.setTop (mkF m 39 #[.val (.int p1), .val (.int p2), .val (.int p3), .val (.int p4), .val (.int p5), .val (.int p6), .val (.int len), .val (.ref t0), .val (.ref t1), .val (.ref t2), .unset, .unset, .unset, .unset, .unset, .unset, .unset, .unset] [(.ref t3), (.ref t3)])) _
    refine XS.iconst X31.here hx rfl (hb hby at_39) ?_
    show Steps p.tables e below (T31.setTop (mkF m 40 #[.val (.int p1), .val (.int p2), .val (.int p3), .val (.int p4), .val (.int p5), .val (.int p6), .val (.int len), .val (.ref t0), .val (.ref t1), .val (.ref t2), .unset, .unset, .unset, .unset, .unset, .unset, .unset, .unset] [(.int (0 : Int32)), (.ref t3), (.ref t3)])) _
    refine XS.iloadN X31.here hx rfl (hb hby at_40) rfl ?_
    exact k
  obtain ⟨cl32, Ar32, Aq32, AS32, AN32, AH32, AG32⟩ := id V_t3
  obtain ⟨T33, h33, X33, e33, W33, st33⟩ := stI X31 hx hZ e31 Ar32 (j := (0 : Int32)) (inb_of AS32 ⟨by decide, by decide⟩) (g := (mkF m 41 #[.val (.int p1), .val (.int p2), .val (.int p3), .val (.int p4), .val (.int p5), .val (.int p6), .val (.int len), .val (.ref t0), .val (.ref t1), .val (.ref t2), .unset, .unset, .unset, .unset, .unset, .unset, .unset, .unset] [(.int p1), (.int (0 : Int32)), (.ref t3), (.ref t3)])) rfl rfl (hb hby at_41)
  have N33 := Fr.snoc X33 N30 g_t3
  refine own_adv (B := (T33.setTop (mkF m 42 #[.val (.int p1), .val (.int p2), .val (.int p3), .val (.int p4), .val (.int p5), .val (.int p6), .val (.int len), .val (.ref t0), .val (.ref t1), .val (.ref t2), .unset, .unset, .unset, .unset, .unset, .unset, .unset, .unset] [(.ref t3)]))) st33 ?_
  have Vt3_33 : Arv Z h33 t3 k31 .int (3 : Int32) [(.int p1), (.int (0 : Int32)), (.int (0 : Int32))] (.int (0 : Int32)) := Arv.set Ar32 Aq32 AS32 AN32 AH32 AG32 rfl W33 0 rfl (Nat.le_of_ble_eq_true rfl)
  have Vt0_33 := Vt0_31.other W33 ne_t0_t3
  have Vt1_33 := Vt1_31.other W33 ne_t1_t3
  have Vt2_33 := Vt2_31.other W33 ne_t2_t3
  have ZZ33 : n0 ≤ h33.size := Nat.le_trans ZZ31 (Keep.of_wr W33).1
  refine own_adv (B := (T33.setTop (mkF m 45 #[.val (.int p1), .val (.int p2), .val (.int p3), .val (.int p4), .val (.int p5), .val (.int p6), .val (.int len), .val (.ref t0), .val (.ref t1), .val (.ref t2), .unset, .unset, .unset, .unset, .unset, .unset, .unset, .unset] [(.int p1), (.int (1 : Int32)), (.ref t3), (.ref t3)]))) (fun t k => ?_) ?_
  · show Steps p.tables e below (T33.setTop (mkF m 42 #[.val (.int p1), .val (.int p2), .val (.int p3), .val (.int p4), .val (.int p5), .val (.int p6), .val (.int len), .val (.ref t0), .val (.ref t1), .val (.ref t2), .unset, .unset, .unset, .unset, .unset, .unset, .unset, .unset] [(.ref t3)])) _
    refine XS.dup X33.here hx rfl (hb hby at_42) rfl rfl ?_
    show Steps p.tables e below (T33.setTop (mkF m 43 #[.val (.int p1), .val (.int p2), .val (.int p3), .val (.int p4), .val (.int p5), .val (.int p6), .val (.int len), .val (.ref t0), .val (.ref t1), .val (.ref t2), .unset, .unset, .unset, .unset, .unset, .unset, .unset, .unset] [(.ref t3), (.ref t3)])) _
    refine XS.iconst X33.here hx rfl (hb hby at_43) ?_
    show Steps p.tables e below (T33.setTop (mkF m 44 #[.val (.int p1), .val (.int p2), .val (.int p3), .val (.int p4), .val (.int p5), .val (.int p6), .val (.int len), .val (.ref t0), .val (.ref t1), .val (.ref t2), .unset, .unset, .unset, .unset, .unset, .unset, .unset, .unset] [(.int (1 : Int32)), (.ref t3), (.ref t3)])) _
    refine XS.iloadN X33.here hx rfl (hb hby at_44) rfl ?_
    exact k
  obtain ⟨cl34, Ar34, Aq34, AS34, AN34, AH34, AG34⟩ := id Vt3_33
  obtain ⟨T35, h35, X35, e35, W35, st35⟩ := stI X33 hx hZ e33 Ar34 (j := (1 : Int32)) (inb_of AS34 ⟨by decide, by decide⟩) (g := (mkF m 45 #[.val (.int p1), .val (.int p2), .val (.int p3), .val (.int p4), .val (.int p5), .val (.int p6), .val (.int len), .val (.ref t0), .val (.ref t1), .val (.ref t2), .unset, .unset, .unset, .unset, .unset, .unset, .unset, .unset] [(.int p1), (.int (1 : Int32)), (.ref t3), (.ref t3)])) rfl rfl (hb hby at_45)
  have N35 := Fr.snoc X35 N33 g_t3
  refine own_adv (B := (T35.setTop (mkF m 46 #[.val (.int p1), .val (.int p2), .val (.int p3), .val (.int p4), .val (.int p5), .val (.int p6), .val (.int len), .val (.ref t0), .val (.ref t1), .val (.ref t2), .unset, .unset, .unset, .unset, .unset, .unset, .unset, .unset] [(.ref t3)]))) st35 ?_
  have Vt3_35 : Arv Z h35 t3 k31 .int (3 : Int32) [(.int p1), (.int p1), (.int (0 : Int32))] (.int (0 : Int32)) := Arv.set Ar34 Aq34 AS34 AN34 AH34 AG34 rfl W35 1 rfl (Nat.le_of_ble_eq_true rfl)
  have Vt0_35 := Vt0_33.other W35 ne_t0_t3
  have Vt1_35 := Vt1_33.other W35 ne_t1_t3
  have Vt2_35 := Vt2_33.other W35 ne_t2_t3
  have ZZ35 : n0 ≤ h35.size := Nat.le_trans ZZ33 (Keep.of_wr W35).1
  refine own_adv (B := (T35.setTop (mkF m 49 #[.val (.int p1), .val (.int p2), .val (.int p3), .val (.int p4), .val (.int p5), .val (.int p6), .val (.int len), .val (.ref t0), .val (.ref t1), .val (.ref t2), .unset, .unset, .unset, .unset, .unset, .unset, .unset, .unset] [(.int p1), (.int (2 : Int32)), (.ref t3), (.ref t3)]))) (fun t k => ?_) ?_
  · show Steps p.tables e below (T35.setTop (mkF m 46 #[.val (.int p1), .val (.int p2), .val (.int p3), .val (.int p4), .val (.int p5), .val (.int p6), .val (.int len), .val (.ref t0), .val (.ref t1), .val (.ref t2), .unset, .unset, .unset, .unset, .unset, .unset, .unset, .unset] [(.ref t3)])) _
    refine XS.dup X35.here hx rfl (hb hby at_46) rfl rfl ?_
    show Steps p.tables e below (T35.setTop (mkF m 47 #[.val (.int p1), .val (.int p2), .val (.int p3), .val (.int p4), .val (.int p5), .val (.int p6), .val (.int len), .val (.ref t0), .val (.ref t1), .val (.ref t2), .unset, .unset, .unset, .unset, .unset, .unset, .unset, .unset] [(.ref t3), (.ref t3)])) _
    refine XS.iconst X35.here hx rfl (hb hby at_47) ?_
    show Steps p.tables e below (T35.setTop (mkF m 48 #[.val (.int p1), .val (.int p2), .val (.int p3), .val (.int p4), .val (.int p5), .val (.int p6), .val (.int len), .val (.ref t0), .val (.ref t1), .val (.ref t2), .unset, .unset, .unset, .unset, .unset, .unset, .unset, .unset] [(.int (2 : Int32)), (.ref t3), (.ref t3)])) _
    refine XS.iloadN X35.here hx rfl (hb hby at_48) rfl ?_
    exact k
  obtain ⟨cl36, Ar36, Aq36, AS36, AN36, AH36, AG36⟩ := id Vt3_35
  obtain ⟨T37, h37, X37, e37, W37, st37⟩ := stI X35 hx hZ e35 Ar36 (j := (2 : Int32)) (inb_of AS36 ⟨by decide, by decide⟩) (g := (mkF m 49 #[.val (.int p1), .val (.int p2), .val (.int p3), .val (.int p4), .val (.int p5), .val (.int p6), .val (.int len), .val (.ref t0), .val (.ref t1), .val (.ref t2), .unset, .unset, .unset, .unset, .unset, .unset, .unset, .unset] [(.int p1), (.int (2 : Int32)), (.ref t3), (.ref t3)])) rfl rfl (hb hby at_49)
  have N37 := Fr.snoc X37 N35 g_t3
  refine own_adv (B := (T37.setTop (mkF m 50 #[.val (.int p1), .val (.int p2), .val (.int p3), .val (.int p4), .val (.int p5), .val (.int p6), .val (.int len), .val (.ref t0), .val (.ref t1), .val (.ref t2), .unset, .unset, .unset, .unset, .unset, .unset, .unset, .unset] [(.ref t3)]))) st37 ?_
  have Vt3_37 : Arv Z h37 t3 k31 .int (3 : Int32) [(.int p1), (.int p1), (.int p1)] (.int (0 : Int32)) := Arv.set Ar36 Aq36 AS36 AN36 AH36 AG36 rfl W37 2 rfl (Nat.le_of_ble_eq_true rfl)
  have Vt0_37 := Vt0_35.other W37 ne_t0_t3
  have Vt1_37 := Vt1_35.other W37 ne_t1_t3
  have Vt2_37 := Vt2_35.other W37 ne_t2_t3
  have ZZ37 : n0 ≤ h37.size := Nat.le_trans ZZ35 (Keep.of_wr W37).1
  refine own_adv (B := (T37.setTop (mkF m 53 #[.val (.int p1), .val (.int p2), .val (.int p3), .val (.int p4), .val (.int p5), .val (.int p6), .val (.int len), .val (.ref t0), .val (.ref t1), .val (.ref t2), .val (.ref t3), .unset, .unset, .unset, .unset, .unset, .unset, .unset] [(.int (4 : Int32))]))) (fun t k => ?_) ?_
  · show Steps p.tables e below (T37.setTop (mkF m 50 #[.val (.int p1), .val (.int p2), .val (.int p3), .val (.int p4), .val (.int p5), .val (.int p6), .val (.int len), .val (.ref t0), .val (.ref t1), .val (.ref t2), .unset, .unset, .unset, .unset, .unset, .unset, .unset, .unset] [(.ref t3)])) _
    refine XS.astore X37.here hx rfl (hb hby at_50) rfl rfl (l' := #[.val (.int p1), .val (.int p2), .val (.int p3), .val (.int p4), .val (.int p5), .val (.int p6), .val (.int len), .val (.ref t0), .val (.ref t1), .val (.ref t2), .val (.ref t3), .unset, .unset, .unset, .unset, .unset, .unset, .unset]) rfl ?_
    show Steps p.tables e below (T37.setTop (mkF m 52 #[.val (.int p1), .val (.int p2), .val (.int p3), .val (.int p4), .val (.int p5), .val (.int p6), .val (.int len), .val (.ref t0), .val (.ref t1), .val (.ref t2), .val (.ref t3), .unset, .unset, .unset, .unset, .unset, .unset, .unset] [])) _
    refine XS.iconst X37.here hx rfl (hb hby at_52) ?_
    exact k
  obtain ⟨T38, h38, k38, X38, e38, E38, A38, st38⟩ := newP X37 hx hZ (hw _ (List.mem_of_getElem? (i := 1) rfl)) e37 (g := (mkF m 53 #[.val (.int p1), .val (.int p2), .val (.int p3), .val (.int p4), .val (.int p5), .val (.int p6), .val (.int len), .val (.ref t0), .val (.ref t1), .val (.ref t2), .val (.ref t3), .unset, .unset, .unset, .unset, .unset, .unset, .unset] [(.int (4 : Int32))])) rfl (hb hby at_53) rfl (by decide) (cap := 4) (by decide) (by decide) (by decide) (by decide)
  obtain ⟨t4, g38⟩ : ∃ z, z = h37.size := ⟨_, rfl⟩
  rw [← g38] at A38 st38
  have V_t4 : Arv Z h38 t4 k38 .int (4 : Int32) [(.int (0 : Int32)), (.int (0 : Int32)), (.int (0 : Int32)), (.int (0 : Int32))] (.int (0 : Int32)) := (Arv.new A38 (by decide)).pad (pad_rep [] (.int (0 : Int32)) 4)
  refine own_adv (B := (T38.setTop (mkF m 55 #[.val (.int p1), .val (.int p2), .val (.int p3), .val (.int p4), .val (.int p5), .val (.int p6), .val (.int len), .val (.ref t0), .val (.ref t1), .val (.ref t2), .val (.ref t3), .unset, .unset, .unset, .unset, .unset, .unset, .unset] [(.ref t4)]))) st38 ?_
  have g_t4 : n0 ≤ t4 := by rw [g38]; exact ZZ37
  have ZZ38 : n0 ≤ h38.size := Nat.le_trans ZZ37 E38.1
  have Vt0_38 := Vt0_37.ext E38
  have ne_t0_t4 : t0 ≠ t4 := Nat.ne_of_lt (Nat.lt_of_lt_of_le Vt0_37.lt (Nat.le_of_eq g38.symm))
  have Vt1_38 := Vt1_37.ext E38
  have ne_t1_t4 : t1 ≠ t4 := Nat.ne_of_lt (Nat.lt_of_lt_of_le Vt1_37.lt (Nat.le_of_eq g38.symm))
  have Vt2_38 := Vt2_37.ext E38
  have ne_t2_t4 : t2 ≠ t4 := Nat.ne_of_lt (Nat.lt_of_lt_of_le Vt2_37.lt (Nat.le_of_eq g38.symm))
  have Vt3_38 := Vt3_37.ext E38
  have ne_t3_t4 : t3 ≠ t4 := Nat.ne_of_lt (Nat.lt_of_lt_of_le Vt3_37.lt (Nat.le_of_eq g38.symm))
  refine own_adv (B := (T38.setTop (mkF m 58 #[.val (.int p1), .val (.int p2), .val (.int p3), .val (.int p4), .val (.int p5), .val (.int p6), .val (.int len), .val (.ref t0), .val (.ref t1), .val (.ref t2), .val (.ref t3), .unset, .unset, .unset, .unset, .unset, .unset, .unset] [(.int p1), (.int (0 : Int32)), (.ref t4), (.ref t4)]))) (fun t k => ?_) ?_
  · show Steps p.tables e below (T38.setTop (mkF m 55 #[.val (.int p1), .val (.int p2), .val (.int p3), .val (.int p4), .val (.int p5), .val (.int p6), .val (.int len), .val (.ref t0), .val (.ref t1), .val (.ref t2), .val (.ref t3), .unset, .unset, .unset, .unset, .unset, .unset, .unset] [(.ref t4)])) _
    refine XS.dup X38.here hx rfl (hb hby at_55) rfl rfl ?_
    show Steps p.tables e below (T38.setTop (mkF m 56 #[.val (.int p1), .val (.int p2), .val (.int p3), .val (.int p4), .val (.int p5), .val (.int p6), .val (.int len), .val (.ref t0), .val (.ref t1), .val (.ref t2), .val (.ref t3), .unset, .unset, .unset, .unset, .unset, .unset, .unset] [(.ref t4), (.ref t4)])) _
    refine XS.iconst X38.here hx rfl (hb hby at_56) ?_
    show Steps p.tables e below (T38.setTop (mkF m 57 #[.val (.int p1), .val (.int p2), .val (.int p3), .val (.int p4), .val (.int p5), .val (.int p6), .val (.int len), .val (.ref t0), .val (.ref t1), .val (.ref t2), .val (.ref t3), .unset, .unset, .unset, .unset, .unset, .unset, .unset] [(.int (0 : Int32)), (.ref t4), (.ref t4)])) _
    refine XS.iloadN X38.here hx rfl (hb hby at_57) rfl ?_
    exact k
  obtain ⟨cl39, Ar39, Aq39, AS39, AN39, AH39, AG39⟩ := id V_t4
  obtain ⟨T40, h40, X40, e40, W40, st40⟩ := stI X38 hx hZ e38 Ar39 (j := (0 : Int32)) (inb_of AS39 ⟨by decide, by decide⟩) (g := (mkF m 58 #[.val (.int p1), .val (.int p2), .val (.int p3), .val (.int p4), .val (.int p5), .val (.int p6), .val (.int len), .val (.ref t0), .val (.ref t1), .val (.ref t2), .val (.ref t3), .unset, .unset, .unset, .unset, .unset, .unset, .unset] [(.int p1), (.int (0 : Int32)), (.ref t4), (.ref t4)])) rfl rfl (hb hby at_58)
  have N40 := Fr.snoc X40 N37 g_t4
  refine own_adv (B := (T40.setTop (mkF m 59 #[.val (.int p1), .val (.int p2), .val (.int p3), .val (.int p4), .val (.int p5), .val (.int p6), .val (.int len), .val (.ref t0), .val (.ref t1), .val (.ref t2), .val (.ref t3), .unset, .unset, .unset, .unset, .unset, .unset, .unset] [(.ref t4)]))) st40 ?_
  have Vt4_40 : Arv Z h40 t4 k38 .int (4 : Int32) [(.int p1), (.int (0 : Int32)), (.int (0 : Int32)), (.int (0 : Int32))] (.int (0 : Int32)) := Arv.set Ar39 Aq39 AS39 AN39 AH39 AG39 rfl W40 0 rfl (Nat.le_of_ble_eq_true rfl)
  have Vt0_40 := Vt0_38.other W40 ne_t0_t4
  have Vt1_40 := Vt1_38.other W40 ne_t1_t4
  have Vt2_40 := Vt2_38.other W40 ne_t2_t4
  have Vt3_40 := Vt3_38.other W40 ne_t3_t4
  have ZZ40 : n0 ≤ h40.size := Nat.le_trans ZZ38 (Keep.of_wr W40).1
  refine own_adv (B := (T40.setTop (mkF m 62 #[.val (.int p1), .val (.int p2), .val (.int p3), .val (.int p4), .val (.int p5), .val (.int p6), .val (.int len), .val (.ref t0), .val (.ref t1), .val (.ref t2), .val (.ref t3), .unset, .unset, .unset, .unset, .unset, .unset, .unset] [(.int p1), (.int (1 : Int32)), (.ref t4), (.ref t4)]))) (fun t k => ?_) ?_
  · show Steps p.tables e below (T40.setTop (mkF m 59 #[.val (.int p1), .val (.int p2), .val (.int p3), .val (.int p4), .val (.int p5), .val (.int p6), .val (.int len), .val (.ref t0), .val (.ref t1), .val (.ref t2), .val (.ref t3), .unset, .unset, .unset, .unset, .unset, .unset, .unset] [(.ref t4)])) _
    refine XS.dup X40.here hx rfl (hb hby at_59) rfl rfl ?_
    show Steps p.tables e below (T40.setTop (mkF m 60 #[.val (.int p1), .val (.int p2), .val (.int p3), .val (.int p4), .val (.int p5), .val (.int p6), .val (.int len), .val (.ref t0), .val (.ref t1), .val (.ref t2), .val (.ref t3), .unset, .unset, .unset, .unset, .unset, .unset, .unset] [(.ref t4), (.ref t4)])) _
    refine XS.iconst X40.here hx rfl (hb hby at_60) ?_
    show Steps p.tables e below (T40.setTop (mkF m 61 #[.val (.int p1), .val (.int p2), .val (.int p3), .val (.int p4), .val (.int p5), .val (.int p6), .val (.int len), .val (.ref t0), .val (.ref t1), .val (.ref t2), .val (.ref t3), .unset, .unset, .unset, .unset, .unset, .unset, .unset] [(.int (1 : Int32)), (.ref t4), (.ref t4)])) _
    refine XS.iloadN X40.here hx rfl (hb hby at_61) rfl ?_
    exact k
  obtain ⟨cl41, Ar41, Aq41, AS41, AN41, AH41, AG41⟩ := id Vt4_40
  obtain ⟨T42, h42, X42, e42, W42, st42⟩ := stI X40 hx hZ e40 Ar41 (j := (1 : Int32)) (inb_of AS41 ⟨by decide, by decide⟩) (g := (mkF m 62 #[.val (.int p1), .val (.int p2), .val (.int p3), .val (.int p4), .val (.int p5), .val (.int p6), .val (.int len), .val (.ref t0), .val (.ref t1), .val (.ref t2), .val (.ref t3), .unset, .unset, .unset, .unset, .unset, .unset, .unset] [(.int p1), (.int (1 : Int32)), (.ref t4), (.ref t4)])) rfl rfl (hb hby at_62)
  have N42 := Fr.snoc X42 N40 g_t4
  refine own_adv (B := (T42.setTop (mkF m 63 #[.val (.int p1), .val (.int p2), .val (.int p3), .val (.int p4), .val (.int p5), .val (.int p6), .val (.int len), .val (.ref t0), .val (.ref t1), .val (.ref t2), .val (.ref t3), .unset, .unset, .unset, .unset, .unset, .unset, .unset] [(.ref t4)]))) st42 ?_
  have Vt4_42 : Arv Z h42 t4 k38 .int (4 : Int32) [(.int p1), (.int p1), (.int (0 : Int32)), (.int (0 : Int32))] (.int (0 : Int32)) := Arv.set Ar41 Aq41 AS41 AN41 AH41 AG41 rfl W42 1 rfl (Nat.le_of_ble_eq_true rfl)
  have Vt0_42 := Vt0_40.other W42 ne_t0_t4
  have Vt1_42 := Vt1_40.other W42 ne_t1_t4
  have Vt2_42 := Vt2_40.other W42 ne_t2_t4
  have Vt3_42 := Vt3_40.other W42 ne_t3_t4
  have ZZ42 : n0 ≤ h42.size := Nat.le_trans ZZ40 (Keep.of_wr W42).1
  refine own_adv (B := (T42.setTop (mkF m 66 #[.val (.int p1), .val (.int p2), .val (.int p3), .val (.int p4), .val (.int p5), .val (.int p6), .val (.int len), .val (.ref t0), .val (.ref t1), .val (.ref t2), .val (.ref t3), .unset, .unset, .unset, .unset, .unset, .unset, .unset] [(.int p1), (.int (2 : Int32)), (.ref t4), (.ref t4)]))) (fun t k => ?_) ?_
  · show Steps p.tables e below (T42.setTop (mkF m 63 #[.val (.int p1), .val (.int p2), .val (.int p3), .val (.int p4), .val (.int p5), .val (.int p6), .val (.int len), .val (.ref t0), .val (.ref t1), .val (.ref t2), .val (.ref t3), .unset, .unset, .unset, .unset, .unset, .unset, .unset] [(.ref t4)])) _
    refine XS.dup X42.here hx rfl (hb hby at_63) rfl rfl ?_
    show Steps p.tables e below (T42.setTop (mkF m 64 #[.val (.int p1), .val (.int p2), .val (.int p3), .val (.int p4), .val (.int p5), .val (.int p6), .val (.int len), .val (.ref t0), .val (.ref t1), .val (.ref t2), .val (.ref t3), .unset, .unset, .unset, .unset, .unset, .unset, .unset] [(.ref t4), (.ref t4)])) _
    refine XS.iconst X42.here hx rfl (hb hby at_64) ?_
    show Steps p.tables e below (T42.setTop (mkF m 65 #[.val (.int p1), .val (.int p2), .val (.int p3), .val (.int p4), .val (.int p5), .val (.int p6), .val (.int len), .val (.ref t0), .val (.ref t1), .val (.ref t2), .val (.ref t3), .unset, .unset, .unset, .unset, .unset, .unset, .unset] [(.int (2 : Int32)), (.ref t4), (.ref t4)])) _
    refine XS.iloadN X42.here hx rfl (hb hby at_65) rfl ?_
    exact k
  obtain ⟨cl43, Ar43, Aq43, AS43, AN43, AH43, AG43⟩ := id Vt4_42
  obtain ⟨T44, h44, X44, e44, W44, st44⟩ := stI X42 hx hZ e42 Ar43 (j := (2 : Int32)) (inb_of AS43 ⟨by decide, by decide⟩) (g := (mkF m 66 #[.val (.int p1), .val (.int p2), .val (.int p3), .val (.int p4), .val (.int p5), .val (.int p6), .val (.int len), .val (.ref t0), .val (.ref t1), .val (.ref t2), .val (.ref t3), .unset, .unset, .unset, .unset, .unset, .unset, .unset] [(.int p1), (.int (2 : Int32)), (.ref t4), (.ref t4)])) rfl rfl (hb hby at_66)
  have N44 := Fr.snoc X44 N42 g_t4
  refine own_adv (B := (T44.setTop (mkF m 67 #[.val (.int p1), .val (.int p2), .val (.int p3), .val (.int p4), .val (.int p5), .val (.int p6), .val (.int len), .val (.ref t0), .val (.ref t1), .val (.ref t2), .val (.ref t3), .unset, .unset, .unset, .unset, .unset, .unset, .unset] [(.ref t4)]))) st44 ?_
  have Vt4_44 : Arv Z h44 t4 k38 .int (4 : Int32) [(.int p1), (.int p1), (.int p1), (.int (0 : Int32))] (.int (0 : Int32)) := Arv.set Ar43 Aq43 AS43 AN43 AH43 AG43 rfl W44 2 rfl (Nat.le_of_ble_eq_true rfl)
  have Vt0_44 := Vt0_42.other W44 ne_t0_t4
  have Vt1_44 := Vt1_42.other W44 ne_t1_t4
  have Vt2_44 := Vt2_42.other W44 ne_t2_t4
  have Vt3_44 := Vt3_42.other W44 ne_t3_t4
  have ZZ44 : n0 ≤ h44.size := Nat.le_trans ZZ42 (Keep.of_wr W44).1
  refine own_adv (B := (T44.setTop (mkF m 70 #[.val (.int p1), .val (.int p2), .val (.int p3), .val (.int p4), .val (.int p5), .val (.int p6), .val (.int len), .val (.ref t0), .val (.ref t1), .val (.ref t2), .val (.ref t3), .unset, .unset, .unset, .unset, .unset, .unset, .unset] [(.int p1), (.int (3 : Int32)), (.ref t4), (.ref t4)]))) (fun t k => ?_) ?_
  · show Steps p.tables e below (T44.setTop (mkF m 67 #[.val (.int p1), .val (.int p2), .val (.int p3), .val (.int p4), .val (.int p5), .val (.int p6), .val (.int len), .val (.ref t0), .val (.ref t1), .val (.ref t2), .val (.ref t3), .unset, .unset, .unset, .unset, .unset, .unset, .unset] [(.ref t4)])) _
    refine XS.dup X44.here hx rfl (hb hby at_67) rfl rfl ?_
    show Steps p.tables e below (T44.setTop (mkF m 68 #[.val (.int p1), .val (.int p2), .val (.int p3), .val (.int p4), .val (.int p5), .val (.int p6), .val (.int len), .val (.ref t0), .val (.ref t1), .val (.ref t2), .val (.ref t3), .unset, .unset, .unset, .unset, .unset, .unset, .unset] [(.ref t4), (.ref t4)])) _
    refine XS.iconst X44.here hx rfl (hb hby at_68) ?_
    show Steps p.tables e below (T44.setTop (mkF m 69 #[.val (.int p1), .val (.int p2), .val (.int p3), .val (.int p4), .val (.int p5), .val (.int p6), .val (.int len), .val (.ref t0), .val (.ref t1), .val (.ref t2), .val (.ref t3), .unset, .unset, .unset, .unset, .unset, .unset, .unset] [(.int (3 : Int32)), (.ref t4), (.ref t4)])) _
    refine XS.iloadN X44.here hx rfl (hb hby at_69) rfl ?_
    exact k
  obtain ⟨cl45, Ar45, Aq45, AS45, AN45, AH45, AG45⟩ := id Vt4_44
  obtain ⟨T46, h46, X46, e46, W46, st46⟩ := stI X44 hx hZ e44 Ar45 (j := (3 : Int32)) (inb_of AS45 ⟨by decide, by decide⟩) (g := (mkF m 70 #[.val (.int p1), .val (.int p2), .val (.int p3), .val (.int p4), .val (.int p5), .val (.int p6), .val (.int len), .val (.ref t0), .val (.ref t1), .val (.ref t2), .val (.ref t3), .unset, .unset, .unset, .unset, .unset, .unset, .unset] [(.int p1), (.int (3 : Int32)), (.ref t4), (.ref t4)])) rfl rfl (hb hby at_70)
  have N46 := Fr.snoc X46 N44 g_t4
  refine own_adv (B := (T46.setTop (mkF m 71 #[.val (.int p1), .val (.int p2), .val (.int p3), .val (.int p4), .val (.int p5), .val (.int p6), .val (.int len), .val (.ref t0), .val (.ref t1), .val (.ref t2), .val (.ref t3), .unset, .unset, .unset, .unset, .unset, .unset, .unset] [(.ref t4)]))) st46 ?_
  have Vt4_46 : Arv Z h46 t4 k38 .int (4 : Int32) [(.int p1), (.int p1), (.int p1), (.int p1)] (.int (0 : Int32)) := Arv.set Ar45 Aq45 AS45 AN45 AH45 AG45 rfl W46 3 rfl (Nat.le_of_ble_eq_true rfl)
  have Vt0_46 := Vt0_44.other W46 ne_t0_t4
  have Vt1_46 := Vt1_44.other W46 ne_t1_t4
  have Vt2_46 := Vt2_44.other W46 ne_t2_t4
  have Vt3_46 := Vt3_44.other W46 ne_t3_t4
  have ZZ46 : n0 ≤ h46.size := Nat.le_trans ZZ44 (Keep.of_wr W46).1
  refine own_adv (B := (T46.setTop (mkF m 73 #[.val (.int p1), .val (.int p2), .val (.int p3), .val (.int p4), .val (.int p5), .val (.int p6), .val (.int len), .val (.ref t0), .val (.ref t1), .val (.ref t2), .val (.ref t3), .val (.ref t4), .unset, .unset, .unset, .unset, .unset, .unset] []))) (fun t k => ?_) ?_
  · show Steps p.tables e below (T46.setTop (mkF m 71 #[.val (.int p1), .val (.int p2), .val (.int p3), .val (.int p4), .val (.int p5), .val (.int p6), .val (.int len), .val (.ref t0), .val (.ref t1), .val (.ref t2), .val (.ref t3), .unset, .unset, .unset, .unset, .unset, .unset, .unset] [(.ref t4)])) _
    refine XS.astore X46.here hx rfl (hb hby at_71) rfl rfl (l' := #[.val (.int p1), .val (.int p2), .val (.int p3), .val (.int p4), .val (.int p5), .val (.int p6), .val (.int len), .val (.ref t0), .val (.ref t1), .val (.ref t2), .val (.ref t3), .val (.ref t4), .unset, .unset, .unset, .unset, .unset, .unset]) rfl ?_
    exact k
  obtain ⟨bd, hbd, st47⟩ : ∃ (bd : Int32), (bd = own_bd len) ∧ ∀ t, Steps p.tables e below (T46.setTop (mkF m 118 #[.val (.int p1), .val (.int p2), .val (.int p3), .val (.int p4), .val (.int p5), .val (.int p6), .val (.int len), .val (.ref t0), .val (.ref t1), .val (.ref t2), .val (.ref t3), .val (.ref t4), .val (.int bd), .unset, .unset, .unset, .unset, .unset] [])) t → Steps p.tables e below (T46.setTop (mkF m 73 #[.val (.int p1), .val (.int p2), .val (.int p3), .val (.int p4), .val (.int p5), .val (.int p6), .val (.int len), .val (.ref t0), .val (.ref t1), .val (.ref t2), .val (.ref t3), .val (.ref t4), .unset, .unset, .unset, .unset, .unset, .unset] [])) t := by
    by_cases hb47_76 : len = (4 : Int32)
    · refine ⟨(215 : Int32), by simp [own_bd, hb47_76], fun t k => ?_⟩
      show Steps p.tables e below (T46.setTop (mkF m 73 #[.val (.int p1), .val (.int p2), .val (.int p3), .val (.int p4), .val (.int p5), .val (.int p6), .val (.int len), .val (.ref t0), .val (.ref t1), .val (.ref t2), .val (.ref t3), .val (.ref t4), .unset, .unset, .unset, .unset, .unset, .unset] [])) _
      refine XS.iload X46.here hx rfl (hb hby at_73) rfl ?_
      show Steps p.tables e below (T46.setTop (mkF m 75 #[.val (.int p1), .val (.int p2), .val (.int p3), .val (.int p4), .val (.int p5), .val (.int p6), .val (.int len), .val (.ref t0), .val (.ref t1), .val (.ref t2), .val (.ref t3), .val (.ref t4), .unset, .unset, .unset, .unset, .unset, .unset] [(.int len)])) _
      refine XS.iconst X46.here hx rfl (hb hby at_75) ?_
      show Steps p.tables e below (T46.setTop (mkF m 76 #[.val (.int p1), .val (.int p2), .val (.int p3), .val (.int p4), .val (.int p5), .val (.int p6), .val (.int len), .val (.ref t0), .val (.ref t1), .val (.ref t2), .val (.ref t3), .val (.ref t4), .unset, .unset, .unset, .unset, .unset, .unset] [(.int (4 : Int32)), (.int len)])) _
      refine XS.icmpNo X46.here hx rfl (hb hby at_76) rfl (teq hb47_76).2 ?_
      show Steps p.tables e below (T46.setTop (mkF m 79 #[.val (.int p1), .val (.int p2), .val (.int p3), .val (.int p4), .val (.int p5), .val (.int p6), .val (.int len), .val (.ref t0), .val (.ref t1), .val (.ref t2), .val (.ref t3), .val (.ref t4), .unset, .unset, .unset, .unset, .unset, .unset] [])) _
      refine XS.sipush X46.here hx rfl (hb hby at_79) ?_
      show Steps p.tables e below (T46.setTop (mkF m 82 #[.val (.int p1), .val (.int p2), .val (.int p3), .val (.int p4), .val (.int p5), .val (.int p6), .val (.int len), .val (.ref t0), .val (.ref t1), .val (.ref t2), .val (.ref t3), .val (.ref t4), .unset, .unset, .unset, .unset, .unset, .unset] [(.int (215 : Int32))])) _
      refine XS.istore X46.here hx rfl (hb hby at_82) rfl (l' := #[.val (.int p1), .val (.int p2), .val (.int p3), .val (.int p4), .val (.int p5), .val (.int p6), .val (.int len), .val (.ref t0), .val (.ref t1), .val (.ref t2), .val (.ref t3), .val (.ref t4), .val (.int (215 : Int32)), .unset, .unset, .unset, .unset, .unset]) rfl ?_
      show Steps p.tables e below (T46.setTop (mkF m 84 #[.val (.int p1), .val (.int p2), .val (.int p3), .val (.int p4), .val (.int p5), .val (.int p6), .val (.int len), .val (.ref t0), .val (.ref t1), .val (.ref t2), .val (.ref t3), .val (.ref t4), .val (.int (215 : Int32)), .unset, .unset, .unset, .unset, .unset] [])) _
      refine XS.goto X46.here hx rfl (pc0 := 84) (pc' := 118) rfl (hb hby at_84) (by decide) (by decide) ?_
      exact k
    · by_cases hb47_90 : len = (3 : Int32)
      · refine ⟨(1290 : Int32), by simp [own_bd, hb47_76, hb47_90], fun t k => ?_⟩
        show Steps p.tables e below (T46.setTop (mkF m 73 #[.val (.int p1), .val (.int p2), .val (.int p3), .val (.int p4), .val (.int p5), .val (.int p6), .val (.int len), .val (.ref t0), .val (.ref t1), .val (.ref t2), .val (.ref t3), .val (.ref t4), .unset, .unset, .unset, .unset, .unset, .unset] [])) _
        refine XS.iload X46.here hx rfl (hb hby at_73) rfl ?_
        show Steps p.tables e below (T46.setTop (mkF m 75 #[.val (.int p1), .val (.int p2), .val (.int p3), .val (.int p4), .val (.int p5), .val (.int p6), .val (.int len), .val (.ref t0), .val (.ref t1), .val (.ref t2), .val (.ref t3), .val (.ref t4), .unset, .unset, .unset, .unset, .unset, .unset] [(.int len)])) _
        refine XS.iconst X46.here hx rfl (hb hby at_75) ?_
        show Steps p.tables e below (T46.setTop (mkF m 76 #[.val (.int p1), .val (.int p2), .val (.int p3), .val (.int p4), .val (.int p5), .val (.int p6), .val (.int len), .val (.ref t0), .val (.ref t1), .val (.ref t2), .val (.ref t3), .val (.ref t4), .unset, .unset, .unset, .unset, .unset, .unset] [(.int (4 : Int32)), (.int len)])) _
        refine XS.icmpYes X46.here hx rfl (pc0 := 76) (pc' := 87) rfl (hb hby at_76) rfl (feq hb47_76).2 (by decide) (by decide) ?_
        show Steps p.tables e below (T46.setTop (mkF m 87 #[.val (.int p1), .val (.int p2), .val (.int p3), .val (.int p4), .val (.int p5), .val (.int p6), .val (.int len), .val (.ref t0), .val (.ref t1), .val (.ref t2), .val (.ref t3), .val (.ref t4), .unset, .unset, .unset, .unset, .unset, .unset] [])) _
        refine XS.iload X46.here hx rfl (hb hby at_87) rfl ?_
        show Steps p.tables e below (T46.setTop (mkF m 89 #[.val (.int p1), .val (.int p2), .val (.int p3), .val (.int p4), .val (.int p5), .val (.int p6), .val (.int len), .val (.ref t0), .val (.ref t1), .val (.ref t2), .val (.ref t3), .val (.ref t4), .unset, .unset, .unset, .unset, .unset, .unset] [(.int len)])) _
        refine XS.iconst X46.here hx rfl (hb hby at_89) ?_
        show Steps p.tables e below (T46.setTop (mkF m 90 #[.val (.int p1), .val (.int p2), .val (.int p3), .val (.int p4), .val (.int p5), .val (.int p6), .val (.int len), .val (.ref t0), .val (.ref t1), .val (.ref t2), .val (.ref t3), .val (.ref t4), .unset, .unset, .unset, .unset, .unset, .unset] [(.int (3 : Int32)), (.int len)])) _
        refine XS.icmpNo X46.here hx rfl (hb hby at_90) rfl (teq hb47_90).2 ?_
        show Steps p.tables e below (T46.setTop (mkF m 93 #[.val (.int p1), .val (.int p2), .val (.int p3), .val (.int p4), .val (.int p5), .val (.int p6), .val (.int len), .val (.ref t0), .val (.ref t1), .val (.ref t2), .val (.ref t3), .val (.ref t4), .unset, .unset, .unset, .unset, .unset, .unset] [])) _
        refine XS.sipush X46.here hx rfl (hb hby at_93) ?_
        show Steps p.tables e below (T46.setTop (mkF m 96 #[.val (.int p1), .val (.int p2), .val (.int p3), .val (.int p4), .val (.int p5), .val (.int p6), .val (.int len), .val (.ref t0), .val (.ref t1), .val (.ref t2), .val (.ref t3), .val (.ref t4), .unset, .unset, .unset, .unset, .unset, .unset] [(.int (1290 : Int32))])) _
        refine XS.istore X46.here hx rfl (hb hby at_96) rfl (l' := #[.val (.int p1), .val (.int p2), .val (.int p3), .val (.int p4), .val (.int p5), .val (.int p6), .val (.int len), .val (.ref t0), .val (.ref t1), .val (.ref t2), .val (.ref t3), .val (.ref t4), .val (.int (1290 : Int32)), .unset, .unset, .unset, .unset, .unset]) rfl ?_
        show Steps p.tables e below (T46.setTop (mkF m 98 #[.val (.int p1), .val (.int p2), .val (.int p3), .val (.int p4), .val (.int p5), .val (.int p6), .val (.int len), .val (.ref t0), .val (.ref t1), .val (.ref t2), .val (.ref t3), .val (.ref t4), .val (.int (1290 : Int32)), .unset, .unset, .unset, .unset, .unset] [])) _
        refine XS.goto X46.here hx rfl (pc0 := 98) (pc' := 118) rfl (hb hby at_98) (by decide) (by decide) ?_
        exact k
      · by_cases hb47_104 : len = (2 : Int32)
        · refine ⟨(46340 : Int32), by simp [own_bd, hb47_76, hb47_90, hb47_104], fun t k => ?_⟩
          show Steps p.tables e below (T46.setTop (mkF m 73 #[.val (.int p1), .val (.int p2), .val (.int p3), .val (.int p4), .val (.int p5), .val (.int p6), .val (.int len), .val (.ref t0), .val (.ref t1), .val (.ref t2), .val (.ref t3), .val (.ref t4), .unset, .unset, .unset, .unset, .unset, .unset] [])) _
          refine XS.iload X46.here hx rfl (hb hby at_73) rfl ?_
          show Steps p.tables e below (T46.setTop (mkF m 75 #[.val (.int p1), .val (.int p2), .val (.int p3), .val (.int p4), .val (.int p5), .val (.int p6), .val (.int len), .val (.ref t0), .val (.ref t1), .val (.ref t2), .val (.ref t3), .val (.ref t4), .unset, .unset, .unset, .unset, .unset, .unset] [(.int len)])) _
          refine XS.iconst X46.here hx rfl (hb hby at_75) ?_
          show Steps p.tables e below (T46.setTop (mkF m 76 #[.val (.int p1), .val (.int p2), .val (.int p3), .val (.int p4), .val (.int p5), .val (.int p6), .val (.int len), .val (.ref t0), .val (.ref t1), .val (.ref t2), .val (.ref t3), .val (.ref t4), .unset, .unset, .unset, .unset, .unset, .unset] [(.int (4 : Int32)), (.int len)])) _
          refine XS.icmpYes X46.here hx rfl (pc0 := 76) (pc' := 87) rfl (hb hby at_76) rfl (feq hb47_76).2 (by decide) (by decide) ?_
          show Steps p.tables e below (T46.setTop (mkF m 87 #[.val (.int p1), .val (.int p2), .val (.int p3), .val (.int p4), .val (.int p5), .val (.int p6), .val (.int len), .val (.ref t0), .val (.ref t1), .val (.ref t2), .val (.ref t3), .val (.ref t4), .unset, .unset, .unset, .unset, .unset, .unset] [])) _
          refine XS.iload X46.here hx rfl (hb hby at_87) rfl ?_
          show Steps p.tables e below (T46.setTop (mkF m 89 #[.val (.int p1), .val (.int p2), .val (.int p3), .val (.int p4), .val (.int p5), .val (.int p6), .val (.int len), .val (.ref t0), .val (.ref t1), .val (.ref t2), .val (.ref t3), .val (.ref t4), .unset, .unset, .unset, .unset, .unset, .unset] [(.int len)])) _
          refine XS.iconst X46.here hx rfl (hb hby at_89) ?_
          show Steps p.tables e below (T46.setTop (mkF m 90 #[.val (.int p1), .val (.int p2), .val (.int p3), .val (.int p4), .val (.int p5), .val (.int p6), .val (.int len), .val (.ref t0), .val (.ref t1), .val (.ref t2), .val (.ref t3), .val (.ref t4), .unset, .unset, .unset, .unset, .unset, .unset] [(.int (3 : Int32)), (.int len)])) _
          refine XS.icmpYes X46.here hx rfl (pc0 := 90) (pc' := 101) rfl (hb hby at_90) rfl (feq hb47_90).2 (by decide) (by decide) ?_
          show Steps p.tables e below (T46.setTop (mkF m 101 #[.val (.int p1), .val (.int p2), .val (.int p3), .val (.int p4), .val (.int p5), .val (.int p6), .val (.int len), .val (.ref t0), .val (.ref t1), .val (.ref t2), .val (.ref t3), .val (.ref t4), .unset, .unset, .unset, .unset, .unset, .unset] [])) _
          refine XS.iload X46.here hx rfl (hb hby at_101) rfl ?_
          show Steps p.tables e below (T46.setTop (mkF m 103 #[.val (.int p1), .val (.int p2), .val (.int p3), .val (.int p4), .val (.int p5), .val (.int p6), .val (.int len), .val (.ref t0), .val (.ref t1), .val (.ref t2), .val (.ref t3), .val (.ref t4), .unset, .unset, .unset, .unset, .unset, .unset] [(.int len)])) _
          refine XS.iconst X46.here hx rfl (hb hby at_103) ?_
          show Steps p.tables e below (T46.setTop (mkF m 104 #[.val (.int p1), .val (.int p2), .val (.int p3), .val (.int p4), .val (.int p5), .val (.int p6), .val (.int len), .val (.ref t0), .val (.ref t1), .val (.ref t2), .val (.ref t3), .val (.ref t4), .unset, .unset, .unset, .unset, .unset, .unset] [(.int (2 : Int32)), (.int len)])) _
          refine XS.icmpNo X46.here hx rfl (hb hby at_104) rfl (teq hb47_104).2 ?_
          show Steps p.tables e below (T46.setTop (mkF m 107 #[.val (.int p1), .val (.int p2), .val (.int p3), .val (.int p4), .val (.int p5), .val (.int p6), .val (.int len), .val (.ref t0), .val (.ref t1), .val (.ref t2), .val (.ref t3), .val (.ref t4), .unset, .unset, .unset, .unset, .unset, .unset] [])) _
          refine X46.ldcInt hx hown (mvT hZ (hw _ (List.mem_of_getElem? (i := 6) rfl))) (g := (mkF m 107 #[.val (.int p1), .val (.int p2), .val (.int p3), .val (.int p4), .val (.int p5), .val (.int p6), .val (.int len), .val (.ref t0), .val (.ref t1), .val (.ref t2), .val (.ref t3), .val (.ref t4), .unset, .unset, .unset, .unset, .unset, .unset] [])) rfl (hb hby at_107) _ ?_
          show Steps p.tables e below (T46.setTop (mkF m 109 #[.val (.int p1), .val (.int p2), .val (.int p3), .val (.int p4), .val (.int p5), .val (.int p6), .val (.int len), .val (.ref t0), .val (.ref t1), .val (.ref t2), .val (.ref t3), .val (.ref t4), .unset, .unset, .unset, .unset, .unset, .unset] [(.int (46340 : Int32))])) _
          refine XS.istore X46.here hx rfl (hb hby at_109) rfl (l' := #[.val (.int p1), .val (.int p2), .val (.int p3), .val (.int p4), .val (.int p5), .val (.int p6), .val (.int len), .val (.ref t0), .val (.ref t1), .val (.ref t2), .val (.ref t3), .val (.ref t4), .val (.int (46340 : Int32)), .unset, .unset, .unset, .unset, .unset]) rfl ?_
          show Steps p.tables e below (T46.setTop (mkF m 111 #[.val (.int p1), .val (.int p2), .val (.int p3), .val (.int p4), .val (.int p5), .val (.int p6), .val (.int len), .val (.ref t0), .val (.ref t1), .val (.ref t2), .val (.ref t3), .val (.ref t4), .val (.int (46340 : Int32)), .unset, .unset, .unset, .unset, .unset] [])) _
          refine XS.goto X46.here hx rfl (pc0 := 111) (pc' := 118) rfl (hb hby at_111) (by decide) (by decide) ?_
          exact k
        · refine ⟨(2147483647 : Int32), by simp [own_bd, hb47_76, hb47_90, hb47_104], fun t k => ?_⟩
          show Steps p.tables e below (T46.setTop (mkF m 73 #[.val (.int p1), .val (.int p2), .val (.int p3), .val (.int p4), .val (.int p5), .val (.int p6), .val (.int len), .val (.ref t0), .val (.ref t1), .val (.ref t2), .val (.ref t3), .val (.ref t4), .unset, .unset, .unset, .unset, .unset, .unset] [])) _
          refine XS.iload X46.here hx rfl (hb hby at_73) rfl ?_
          show Steps p.tables e below (T46.setTop (mkF m 75 #[.val (.int p1), .val (.int p2), .val (.int p3), .val (.int p4), .val (.int p5), .val (.int p6), .val (.int len), .val (.ref t0), .val (.ref t1), .val (.ref t2), .val (.ref t3), .val (.ref t4), .unset, .unset, .unset, .unset, .unset, .unset] [(.int len)])) _
          refine XS.iconst X46.here hx rfl (hb hby at_75) ?_
          show Steps p.tables e below (T46.setTop (mkF m 76 #[.val (.int p1), .val (.int p2), .val (.int p3), .val (.int p4), .val (.int p5), .val (.int p6), .val (.int len), .val (.ref t0), .val (.ref t1), .val (.ref t2), .val (.ref t3), .val (.ref t4), .unset, .unset, .unset, .unset, .unset, .unset] [(.int (4 : Int32)), (.int len)])) _
          refine XS.icmpYes X46.here hx rfl (pc0 := 76) (pc' := 87) rfl (hb hby at_76) rfl (feq hb47_76).2 (by decide) (by decide) ?_
          show Steps p.tables e below (T46.setTop (mkF m 87 #[.val (.int p1), .val (.int p2), .val (.int p3), .val (.int p4), .val (.int p5), .val (.int p6), .val (.int len), .val (.ref t0), .val (.ref t1), .val (.ref t2), .val (.ref t3), .val (.ref t4), .unset, .unset, .unset, .unset, .unset, .unset] [])) _
          refine XS.iload X46.here hx rfl (hb hby at_87) rfl ?_
          show Steps p.tables e below (T46.setTop (mkF m 89 #[.val (.int p1), .val (.int p2), .val (.int p3), .val (.int p4), .val (.int p5), .val (.int p6), .val (.int len), .val (.ref t0), .val (.ref t1), .val (.ref t2), .val (.ref t3), .val (.ref t4), .unset, .unset, .unset, .unset, .unset, .unset] [(.int len)])) _
          refine XS.iconst X46.here hx rfl (hb hby at_89) ?_
          show Steps p.tables e below (T46.setTop (mkF m 90 #[.val (.int p1), .val (.int p2), .val (.int p3), .val (.int p4), .val (.int p5), .val (.int p6), .val (.int len), .val (.ref t0), .val (.ref t1), .val (.ref t2), .val (.ref t3), .val (.ref t4), .unset, .unset, .unset, .unset, .unset, .unset] [(.int (3 : Int32)), (.int len)])) _
          refine XS.icmpYes X46.here hx rfl (pc0 := 90) (pc' := 101) rfl (hb hby at_90) rfl (feq hb47_90).2 (by decide) (by decide) ?_
          show Steps p.tables e below (T46.setTop (mkF m 101 #[.val (.int p1), .val (.int p2), .val (.int p3), .val (.int p4), .val (.int p5), .val (.int p6), .val (.int len), .val (.ref t0), .val (.ref t1), .val (.ref t2), .val (.ref t3), .val (.ref t4), .unset, .unset, .unset, .unset, .unset, .unset] [])) _
          refine XS.iload X46.here hx rfl (hb hby at_101) rfl ?_
          show Steps p.tables e below (T46.setTop (mkF m 103 #[.val (.int p1), .val (.int p2), .val (.int p3), .val (.int p4), .val (.int p5), .val (.int p6), .val (.int len), .val (.ref t0), .val (.ref t1), .val (.ref t2), .val (.ref t3), .val (.ref t4), .unset, .unset, .unset, .unset, .unset, .unset] [(.int len)])) _
          refine XS.iconst X46.here hx rfl (hb hby at_103) ?_
          show Steps p.tables e below (T46.setTop (mkF m 104 #[.val (.int p1), .val (.int p2), .val (.int p3), .val (.int p4), .val (.int p5), .val (.int p6), .val (.int len), .val (.ref t0), .val (.ref t1), .val (.ref t2), .val (.ref t3), .val (.ref t4), .unset, .unset, .unset, .unset, .unset, .unset] [(.int (2 : Int32)), (.int len)])) _
          refine XS.icmpYes X46.here hx rfl (pc0 := 104) (pc' := 114) rfl (hb hby at_104) rfl (feq hb47_104).2 (by decide) (by decide) ?_
          show Steps p.tables e below (T46.setTop (mkF m 114 #[.val (.int p1), .val (.int p2), .val (.int p3), .val (.int p4), .val (.int p5), .val (.int p6), .val (.int len), .val (.ref t0), .val (.ref t1), .val (.ref t2), .val (.ref t3), .val (.ref t4), .unset, .unset, .unset, .unset, .unset, .unset] [])) _
          refine X46.ldcInt hx hown (mvT hZ (hw _ (List.mem_of_getElem? (i := 0) rfl))) (g := (mkF m 114 #[.val (.int p1), .val (.int p2), .val (.int p3), .val (.int p4), .val (.int p5), .val (.int p6), .val (.int len), .val (.ref t0), .val (.ref t1), .val (.ref t2), .val (.ref t3), .val (.ref t4), .unset, .unset, .unset, .unset, .unset, .unset] [])) rfl (hb hby at_114) _ ?_
          show Steps p.tables e below (T46.setTop (mkF m 116 #[.val (.int p1), .val (.int p2), .val (.int p3), .val (.int p4), .val (.int p5), .val (.int p6), .val (.int len), .val (.ref t0), .val (.ref t1), .val (.ref t2), .val (.ref t3), .val (.ref t4), .unset, .unset, .unset, .unset, .unset, .unset] [(.int (2147483647 : Int32))])) _
          refine XS.istore X46.here hx rfl (hb hby at_116) rfl (l' := #[.val (.int p1), .val (.int p2), .val (.int p3), .val (.int p4), .val (.int p5), .val (.int p6), .val (.int len), .val (.ref t0), .val (.ref t1), .val (.ref t2), .val (.ref t3), .val (.ref t4), .val (.int (2147483647 : Int32)), .unset, .unset, .unset, .unset, .unset]) rfl ?_
          exact k
  refine own_adv st47 ?_
  have hb1 : 1 ≤ bd.toInt := by rw [hbd]; exact own_bd_pos len
  have hbn : ¬ bd = 0 := own_pos hb1
  refine own_adv (B := (T46.setTop (mkF m 129 #[.val (.int p1), .val (.int p2), .val (.int p3), .val (.int p4), .val (.int p5), .val (.int p6), .val (.int len), .val (.ref t0), .val (.ref t1), .val (.ref t2), .val (.ref t3), .val (.ref t4), .val (.int bd), .val (.int ((1 : Int32) + ((p2 &&& (2147483647 : Int32)) % bd))), .unset, .unset, .unset, .unset] []))) (fun t k => ?_) ?_
  · show Steps p.tables e below (T46.setTop (mkF m 118 #[.val (.int p1), .val (.int p2), .val (.int p3), .val (.int p4), .val (.int p5), .val (.int p6), .val (.int len), .val (.ref t0), .val (.ref t1), .val (.ref t2), .val (.ref t3), .val (.ref t4), .val (.int bd), .unset, .unset, .unset, .unset, .unset] [])) _
    refine XS.iconst X46.here hx rfl (hb hby at_118) ?_
    show Steps p.tables e below (T46.setTop (mkF m 119 #[.val (.int p1), .val (.int p2), .val (.int p3), .val (.int p4), .val (.int p5), .val (.int p6), .val (.int len), .val (.ref t0), .val (.ref t1), .val (.ref t2), .val (.ref t3), .val (.ref t4), .val (.int bd), .unset, .unset, .unset, .unset, .unset] [(.int (1 : Int32))])) _
    refine XS.iloadN X46.here hx rfl (hb hby at_119) rfl ?_
    show Steps p.tables e below (T46.setTop (mkF m 120 #[.val (.int p1), .val (.int p2), .val (.int p3), .val (.int p4), .val (.int p5), .val (.int p6), .val (.int len), .val (.ref t0), .val (.ref t1), .val (.ref t2), .val (.ref t3), .val (.ref t4), .val (.int bd), .unset, .unset, .unset, .unset, .unset] [(.int p2), (.int (1 : Int32))])) _
    refine X46.ldcInt hx hown (mvT hZ (hw _ (List.mem_of_getElem? (i := 0) rfl))) (g := (mkF m 120 #[.val (.int p1), .val (.int p2), .val (.int p3), .val (.int p4), .val (.int p5), .val (.int p6), .val (.int len), .val (.ref t0), .val (.ref t1), .val (.ref t2), .val (.ref t3), .val (.ref t4), .val (.int bd), .unset, .unset, .unset, .unset, .unset] [(.int p2), (.int (1 : Int32))])) rfl (hb hby at_120) _ ?_
    show Steps p.tables e below (T46.setTop (mkF m 122 #[.val (.int p1), .val (.int p2), .val (.int p3), .val (.int p4), .val (.int p5), .val (.int p6), .val (.int len), .val (.ref t0), .val (.ref t1), .val (.ref t2), .val (.ref t3), .val (.ref t4), .val (.int bd), .unset, .unset, .unset, .unset, .unset] [(.int (2147483647 : Int32)), (.int p2), (.int (1 : Int32))])) _
    refine XS.iand X46.here hx rfl (hb hby at_122) rfl ?_
    show Steps p.tables e below (T46.setTop (mkF m 123 #[.val (.int p1), .val (.int p2), .val (.int p3), .val (.int p4), .val (.int p5), .val (.int p6), .val (.int len), .val (.ref t0), .val (.ref t1), .val (.ref t2), .val (.ref t3), .val (.ref t4), .val (.int bd), .unset, .unset, .unset, .unset, .unset] [(.int (p2 &&& (2147483647 : Int32))), (.int (1 : Int32))])) _
    refine XS.iload X46.here hx rfl (hb hby at_123) rfl ?_
    show Steps p.tables e below (T46.setTop (mkF m 125 #[.val (.int p1), .val (.int p2), .val (.int p3), .val (.int p4), .val (.int p5), .val (.int p6), .val (.int len), .val (.ref t0), .val (.ref t1), .val (.ref t2), .val (.ref t3), .val (.ref t4), .val (.int bd), .unset, .unset, .unset, .unset, .unset] [(.int bd), (.int (p2 &&& (2147483647 : Int32))), (.int (1 : Int32))])) _
    refine iremM X46 hx rfl (hb hby at_125) rfl hbn ?_
    show Steps p.tables e below (T46.setTop (mkF m 126 #[.val (.int p1), .val (.int p2), .val (.int p3), .val (.int p4), .val (.int p5), .val (.int p6), .val (.int len), .val (.ref t0), .val (.ref t1), .val (.ref t2), .val (.ref t3), .val (.ref t4), .val (.int bd), .unset, .unset, .unset, .unset, .unset] [(.int ((p2 &&& (2147483647 : Int32)) % bd)), (.int (1 : Int32))])) _
    refine XS.iadd X46.here hx rfl (hb hby at_126) rfl ?_
    show Steps p.tables e below (T46.setTop (mkF m 127 #[.val (.int p1), .val (.int p2), .val (.int p3), .val (.int p4), .val (.int p5), .val (.int p6), .val (.int len), .val (.ref t0), .val (.ref t1), .val (.ref t2), .val (.ref t3), .val (.ref t4), .val (.int bd), .unset, .unset, .unset, .unset, .unset] [(.int ((1 : Int32) + ((p2 &&& (2147483647 : Int32)) % bd)))])) _
    refine XS.istore X46.here hx rfl (hb hby at_127) rfl (l' := #[.val (.int p1), .val (.int p2), .val (.int p3), .val (.int p4), .val (.int p5), .val (.int p6), .val (.int len), .val (.ref t0), .val (.ref t1), .val (.ref t2), .val (.ref t3), .val (.ref t4), .val (.int bd), .val (.int ((1 : Int32) + ((p2 &&& (2147483647 : Int32)) % bd))), .unset, .unset, .unset, .unset]) rfl ?_
    exact k
  obtain ⟨hs1, hs2⟩ := own_sv p2 hb1
  generalize hsv0 : ((1 : Int32) + ((p2 &&& (2147483647 : Int32)) % bd)) = sv at hs1 hs2 ⊢
  have hsn : ¬ sv = 0 := own_pos hs1
  refine own_adv (B := (T46.setTop (mkF m 138 #[.val (.int p1), .val (.int p2), .val (.int p3), .val (.int p4), .val (.int p5), .val (.int p6), .val (.int len), .val (.ref t0), .val (.ref t1), .val (.ref t2), .val (.ref t3), .val (.ref t4), .val (.int bd), .val (.int sv), .val (.int ((p3 &&& (2147483647 : Int32)) % sv)), .unset, .unset, .unset] []))) (fun t k => ?_) ?_
  · show Steps p.tables e below (T46.setTop (mkF m 129 #[.val (.int p1), .val (.int p2), .val (.int p3), .val (.int p4), .val (.int p5), .val (.int p6), .val (.int len), .val (.ref t0), .val (.ref t1), .val (.ref t2), .val (.ref t3), .val (.ref t4), .val (.int bd), .val (.int sv), .unset, .unset, .unset, .unset] [])) _
    refine XS.iloadN X46.here hx rfl (hb hby at_129) rfl ?_
    show Steps p.tables e below (T46.setTop (mkF m 130 #[.val (.int p1), .val (.int p2), .val (.int p3), .val (.int p4), .val (.int p5), .val (.int p6), .val (.int len), .val (.ref t0), .val (.ref t1), .val (.ref t2), .val (.ref t3), .val (.ref t4), .val (.int bd), .val (.int sv), .unset, .unset, .unset, .unset] [(.int p3)])) _
    refine X46.ldcInt hx hown (mvT hZ (hw _ (List.mem_of_getElem? (i := 0) rfl))) (g := (mkF m 130 #[.val (.int p1), .val (.int p2), .val (.int p3), .val (.int p4), .val (.int p5), .val (.int p6), .val (.int len), .val (.ref t0), .val (.ref t1), .val (.ref t2), .val (.ref t3), .val (.ref t4), .val (.int bd), .val (.int sv), .unset, .unset, .unset, .unset] [(.int p3)])) rfl (hb hby at_130) _ ?_
    show Steps p.tables e below (T46.setTop (mkF m 132 #[.val (.int p1), .val (.int p2), .val (.int p3), .val (.int p4), .val (.int p5), .val (.int p6), .val (.int len), .val (.ref t0), .val (.ref t1), .val (.ref t2), .val (.ref t3), .val (.ref t4), .val (.int bd), .val (.int sv), .unset, .unset, .unset, .unset] [(.int (2147483647 : Int32)), (.int p3)])) _
    refine XS.iand X46.here hx rfl (hb hby at_132) rfl ?_
    show Steps p.tables e below (T46.setTop (mkF m 133 #[.val (.int p1), .val (.int p2), .val (.int p3), .val (.int p4), .val (.int p5), .val (.int p6), .val (.int len), .val (.ref t0), .val (.ref t1), .val (.ref t2), .val (.ref t3), .val (.ref t4), .val (.int bd), .val (.int sv), .unset, .unset, .unset, .unset] [(.int (p3 &&& (2147483647 : Int32)))])) _
    refine XS.iload X46.here hx rfl (hb hby at_133) rfl ?_
    show Steps p.tables e below (T46.setTop (mkF m 135 #[.val (.int p1), .val (.int p2), .val (.int p3), .val (.int p4), .val (.int p5), .val (.int p6), .val (.int len), .val (.ref t0), .val (.ref t1), .val (.ref t2), .val (.ref t3), .val (.ref t4), .val (.int bd), .val (.int sv), .unset, .unset, .unset, .unset] [(.int sv), (.int (p3 &&& (2147483647 : Int32)))])) _
    refine iremM X46 hx rfl (hb hby at_135) rfl hsn ?_
    show Steps p.tables e below (T46.setTop (mkF m 136 #[.val (.int p1), .val (.int p2), .val (.int p3), .val (.int p4), .val (.int p5), .val (.int p6), .val (.int len), .val (.ref t0), .val (.ref t1), .val (.ref t2), .val (.ref t3), .val (.ref t4), .val (.int bd), .val (.int sv), .unset, .unset, .unset, .unset] [(.int ((p3 &&& (2147483647 : Int32)) % sv))])) _
    refine XS.istore X46.here hx rfl (hb hby at_136) rfl (l' := #[.val (.int p1), .val (.int p2), .val (.int p3), .val (.int p4), .val (.int p5), .val (.int p6), .val (.int len), .val (.ref t0), .val (.ref t1), .val (.ref t2), .val (.ref t3), .val (.ref t4), .val (.int bd), .val (.int sv), .val (.int ((p3 &&& (2147483647 : Int32)) % sv)), .unset, .unset, .unset]) rfl ?_
    exact k
  obtain ⟨da0, da1⟩ := own_dig p3 hs1
  generalize hda : ((p3 &&& (2147483647 : Int32)) % sv) = da at da0 da1 ⊢
  refine own_adv (B := (T46.setTop (mkF m 147 #[.val (.int p1), .val (.int p2), .val (.int p3), .val (.int p4), .val (.int p5), .val (.int p6), .val (.int len), .val (.ref t0), .val (.ref t1), .val (.ref t2), .val (.ref t3), .val (.ref t4), .val (.int bd), .val (.int sv), .val (.int da), .val (.int ((p4 &&& (2147483647 : Int32)) % sv)), .unset, .unset] []))) (fun t k => ?_) ?_
  · show Steps p.tables e below (T46.setTop (mkF m 138 #[.val (.int p1), .val (.int p2), .val (.int p3), .val (.int p4), .val (.int p5), .val (.int p6), .val (.int len), .val (.ref t0), .val (.ref t1), .val (.ref t2), .val (.ref t3), .val (.ref t4), .val (.int bd), .val (.int sv), .val (.int da), .unset, .unset, .unset] [])) _
    refine XS.iloadN X46.here hx rfl (hb hby at_138) rfl ?_
    show Steps p.tables e below (T46.setTop (mkF m 139 #[.val (.int p1), .val (.int p2), .val (.int p3), .val (.int p4), .val (.int p5), .val (.int p6), .val (.int len), .val (.ref t0), .val (.ref t1), .val (.ref t2), .val (.ref t3), .val (.ref t4), .val (.int bd), .val (.int sv), .val (.int da), .unset, .unset, .unset] [(.int p4)])) _
    refine X46.ldcInt hx hown (mvT hZ (hw _ (List.mem_of_getElem? (i := 0) rfl))) (g := (mkF m 139 #[.val (.int p1), .val (.int p2), .val (.int p3), .val (.int p4), .val (.int p5), .val (.int p6), .val (.int len), .val (.ref t0), .val (.ref t1), .val (.ref t2), .val (.ref t3), .val (.ref t4), .val (.int bd), .val (.int sv), .val (.int da), .unset, .unset, .unset] [(.int p4)])) rfl (hb hby at_139) _ ?_
    show Steps p.tables e below (T46.setTop (mkF m 141 #[.val (.int p1), .val (.int p2), .val (.int p3), .val (.int p4), .val (.int p5), .val (.int p6), .val (.int len), .val (.ref t0), .val (.ref t1), .val (.ref t2), .val (.ref t3), .val (.ref t4), .val (.int bd), .val (.int sv), .val (.int da), .unset, .unset, .unset] [(.int (2147483647 : Int32)), (.int p4)])) _
    refine XS.iand X46.here hx rfl (hb hby at_141) rfl ?_
    show Steps p.tables e below (T46.setTop (mkF m 142 #[.val (.int p1), .val (.int p2), .val (.int p3), .val (.int p4), .val (.int p5), .val (.int p6), .val (.int len), .val (.ref t0), .val (.ref t1), .val (.ref t2), .val (.ref t3), .val (.ref t4), .val (.int bd), .val (.int sv), .val (.int da), .unset, .unset, .unset] [(.int (p4 &&& (2147483647 : Int32)))])) _
    refine XS.iload X46.here hx rfl (hb hby at_142) rfl ?_
    show Steps p.tables e below (T46.setTop (mkF m 144 #[.val (.int p1), .val (.int p2), .val (.int p3), .val (.int p4), .val (.int p5), .val (.int p6), .val (.int len), .val (.ref t0), .val (.ref t1), .val (.ref t2), .val (.ref t3), .val (.ref t4), .val (.int bd), .val (.int sv), .val (.int da), .unset, .unset, .unset] [(.int sv), (.int (p4 &&& (2147483647 : Int32)))])) _
    refine iremM X46 hx rfl (hb hby at_144) rfl hsn ?_
    show Steps p.tables e below (T46.setTop (mkF m 145 #[.val (.int p1), .val (.int p2), .val (.int p3), .val (.int p4), .val (.int p5), .val (.int p6), .val (.int len), .val (.ref t0), .val (.ref t1), .val (.ref t2), .val (.ref t3), .val (.ref t4), .val (.int bd), .val (.int sv), .val (.int da), .unset, .unset, .unset] [(.int ((p4 &&& (2147483647 : Int32)) % sv))])) _
    refine XS.istore X46.here hx rfl (hb hby at_145) rfl (l' := #[.val (.int p1), .val (.int p2), .val (.int p3), .val (.int p4), .val (.int p5), .val (.int p6), .val (.int len), .val (.ref t0), .val (.ref t1), .val (.ref t2), .val (.ref t3), .val (.ref t4), .val (.int bd), .val (.int sv), .val (.int da), .val (.int ((p4 &&& (2147483647 : Int32)) % sv)), .unset, .unset]) rfl ?_
    exact k
  obtain ⟨db0, db1⟩ := own_dig p4 hs1
  generalize hdb : ((p4 &&& (2147483647 : Int32)) % sv) = db at db0 db1 ⊢
  refine own_adv (B := (T46.setTop (mkF m 157 #[.val (.int p1), .val (.int p2), .val (.int p3), .val (.int p4), .val (.int p5), .val (.int p6), .val (.int len), .val (.ref t0), .val (.ref t1), .val (.ref t2), .val (.ref t3), .val (.ref t4), .val (.int bd), .val (.int sv), .val (.int da), .val (.int db), .val (.int ((p5 &&& (2147483647 : Int32)) % sv)), .unset] []))) (fun t k => ?_) ?_
  · show Steps p.tables e below (T46.setTop (mkF m 147 #[.val (.int p1), .val (.int p2), .val (.int p3), .val (.int p4), .val (.int p5), .val (.int p6), .val (.int len), .val (.ref t0), .val (.ref t1), .val (.ref t2), .val (.ref t3), .val (.ref t4), .val (.int bd), .val (.int sv), .val (.int da), .val (.int db), .unset, .unset] [])) _
    refine XS.iload X46.here hx rfl (hb hby at_147) rfl ?_
    show Steps p.tables e below (T46.setTop (mkF m 149 #[.val (.int p1), .val (.int p2), .val (.int p3), .val (.int p4), .val (.int p5), .val (.int p6), .val (.int len), .val (.ref t0), .val (.ref t1), .val (.ref t2), .val (.ref t3), .val (.ref t4), .val (.int bd), .val (.int sv), .val (.int da), .val (.int db), .unset, .unset] [(.int p5)])) _
    refine X46.ldcInt hx hown (mvT hZ (hw _ (List.mem_of_getElem? (i := 0) rfl))) (g := (mkF m 149 #[.val (.int p1), .val (.int p2), .val (.int p3), .val (.int p4), .val (.int p5), .val (.int p6), .val (.int len), .val (.ref t0), .val (.ref t1), .val (.ref t2), .val (.ref t3), .val (.ref t4), .val (.int bd), .val (.int sv), .val (.int da), .val (.int db), .unset, .unset] [(.int p5)])) rfl (hb hby at_149) _ ?_
    show Steps p.tables e below (T46.setTop (mkF m 151 #[.val (.int p1), .val (.int p2), .val (.int p3), .val (.int p4), .val (.int p5), .val (.int p6), .val (.int len), .val (.ref t0), .val (.ref t1), .val (.ref t2), .val (.ref t3), .val (.ref t4), .val (.int bd), .val (.int sv), .val (.int da), .val (.int db), .unset, .unset] [(.int (2147483647 : Int32)), (.int p5)])) _
    refine XS.iand X46.here hx rfl (hb hby at_151) rfl ?_
    show Steps p.tables e below (T46.setTop (mkF m 152 #[.val (.int p1), .val (.int p2), .val (.int p3), .val (.int p4), .val (.int p5), .val (.int p6), .val (.int len), .val (.ref t0), .val (.ref t1), .val (.ref t2), .val (.ref t3), .val (.ref t4), .val (.int bd), .val (.int sv), .val (.int da), .val (.int db), .unset, .unset] [(.int (p5 &&& (2147483647 : Int32)))])) _
    refine XS.iload X46.here hx rfl (hb hby at_152) rfl ?_
    show Steps p.tables e below (T46.setTop (mkF m 154 #[.val (.int p1), .val (.int p2), .val (.int p3), .val (.int p4), .val (.int p5), .val (.int p6), .val (.int len), .val (.ref t0), .val (.ref t1), .val (.ref t2), .val (.ref t3), .val (.ref t4), .val (.int bd), .val (.int sv), .val (.int da), .val (.int db), .unset, .unset] [(.int sv), (.int (p5 &&& (2147483647 : Int32)))])) _
    refine iremM X46 hx rfl (hb hby at_154) rfl hsn ?_
    show Steps p.tables e below (T46.setTop (mkF m 155 #[.val (.int p1), .val (.int p2), .val (.int p3), .val (.int p4), .val (.int p5), .val (.int p6), .val (.int len), .val (.ref t0), .val (.ref t1), .val (.ref t2), .val (.ref t3), .val (.ref t4), .val (.int bd), .val (.int sv), .val (.int da), .val (.int db), .unset, .unset] [(.int ((p5 &&& (2147483647 : Int32)) % sv))])) _
    refine XS.istore X46.here hx rfl (hb hby at_155) rfl (l' := #[.val (.int p1), .val (.int p2), .val (.int p3), .val (.int p4), .val (.int p5), .val (.int p6), .val (.int len), .val (.ref t0), .val (.ref t1), .val (.ref t2), .val (.ref t3), .val (.ref t4), .val (.int bd), .val (.int sv), .val (.int da), .val (.int db), .val (.int ((p5 &&& (2147483647 : Int32)) % sv)), .unset]) rfl ?_
    exact k
  obtain ⟨dc0, dc1⟩ := own_dig p5 hs1
  generalize hdc : ((p5 &&& (2147483647 : Int32)) % sv) = dc at dc0 dc1 ⊢
  refine own_adv (B := (T46.setTop (mkF m 167 #[.val (.int p1), .val (.int p2), .val (.int p3), .val (.int p4), .val (.int p5), .val (.int p6), .val (.int len), .val (.ref t0), .val (.ref t1), .val (.ref t2), .val (.ref t3), .val (.ref t4), .val (.int bd), .val (.int sv), .val (.int da), .val (.int db), .val (.int dc), .val (.int ((p6 &&& (2147483647 : Int32)) % sv))] []))) (fun t k => ?_) ?_
  · show Steps p.tables e below (T46.setTop (mkF m 157 #[.val (.int p1), .val (.int p2), .val (.int p3), .val (.int p4), .val (.int p5), .val (.int p6), .val (.int len), .val (.ref t0), .val (.ref t1), .val (.ref t2), .val (.ref t3), .val (.ref t4), .val (.int bd), .val (.int sv), .val (.int da), .val (.int db), .val (.int dc), .unset] [])) _
    refine XS.iload X46.here hx rfl (hb hby at_157) rfl ?_
    show Steps p.tables e below (T46.setTop (mkF m 159 #[.val (.int p1), .val (.int p2), .val (.int p3), .val (.int p4), .val (.int p5), .val (.int p6), .val (.int len), .val (.ref t0), .val (.ref t1), .val (.ref t2), .val (.ref t3), .val (.ref t4), .val (.int bd), .val (.int sv), .val (.int da), .val (.int db), .val (.int dc), .unset] [(.int p6)])) _
    refine X46.ldcInt hx hown (mvT hZ (hw _ (List.mem_of_getElem? (i := 0) rfl))) (g := (mkF m 159 #[.val (.int p1), .val (.int p2), .val (.int p3), .val (.int p4), .val (.int p5), .val (.int p6), .val (.int len), .val (.ref t0), .val (.ref t1), .val (.ref t2), .val (.ref t3), .val (.ref t4), .val (.int bd), .val (.int sv), .val (.int da), .val (.int db), .val (.int dc), .unset] [(.int p6)])) rfl (hb hby at_159) _ ?_
    show Steps p.tables e below (T46.setTop (mkF m 161 #[.val (.int p1), .val (.int p2), .val (.int p3), .val (.int p4), .val (.int p5), .val (.int p6), .val (.int len), .val (.ref t0), .val (.ref t1), .val (.ref t2), .val (.ref t3), .val (.ref t4), .val (.int bd), .val (.int sv), .val (.int da), .val (.int db), .val (.int dc), .unset] [(.int (2147483647 : Int32)), (.int p6)])) _
    refine XS.iand X46.here hx rfl (hb hby at_161) rfl ?_
    show Steps p.tables e below (T46.setTop (mkF m 162 #[.val (.int p1), .val (.int p2), .val (.int p3), .val (.int p4), .val (.int p5), .val (.int p6), .val (.int len), .val (.ref t0), .val (.ref t1), .val (.ref t2), .val (.ref t3), .val (.ref t4), .val (.int bd), .val (.int sv), .val (.int da), .val (.int db), .val (.int dc), .unset] [(.int (p6 &&& (2147483647 : Int32)))])) _
    refine XS.iload X46.here hx rfl (hb hby at_162) rfl ?_
    show Steps p.tables e below (T46.setTop (mkF m 164 #[.val (.int p1), .val (.int p2), .val (.int p3), .val (.int p4), .val (.int p5), .val (.int p6), .val (.int len), .val (.ref t0), .val (.ref t1), .val (.ref t2), .val (.ref t3), .val (.ref t4), .val (.int bd), .val (.int sv), .val (.int da), .val (.int db), .val (.int dc), .unset] [(.int sv), (.int (p6 &&& (2147483647 : Int32)))])) _
    refine iremM X46 hx rfl (hb hby at_164) rfl hsn ?_
    show Steps p.tables e below (T46.setTop (mkF m 165 #[.val (.int p1), .val (.int p2), .val (.int p3), .val (.int p4), .val (.int p5), .val (.int p6), .val (.int len), .val (.ref t0), .val (.ref t1), .val (.ref t2), .val (.ref t3), .val (.ref t4), .val (.int bd), .val (.int sv), .val (.int da), .val (.int db), .val (.int dc), .unset] [(.int ((p6 &&& (2147483647 : Int32)) % sv))])) _
    refine XS.istore X46.here hx rfl (hb hby at_165) rfl (l' := #[.val (.int p1), .val (.int p2), .val (.int p3), .val (.int p4), .val (.int p5), .val (.int p6), .val (.int len), .val (.ref t0), .val (.ref t1), .val (.ref t2), .val (.ref t3), .val (.ref t4), .val (.int bd), .val (.int sv), .val (.int da), .val (.int db), .val (.int dc), .val (.int ((p6 &&& (2147483647 : Int32)) % sv))]) rfl ?_
    exact k
  obtain ⟨dd0, dd1⟩ := own_dig p6 hs1
  generalize hdd : ((p6 &&& (2147483647 : Int32)) % sv) = dd at dd0 dd1 ⊢
  refine own_adv (B := (T46.setTop (mkF m 169 #[.val (.int p1), .val (.int p2), .val (.int p3), .val (.int p4), .val (.int p5), .val (.int p6), .val (.int len), .val (.ref t0), .val (.ref t1), .val (.ref t2), .val (.ref t3), .val (.ref t4), .val (.int bd), .val (.int sv), .val (.int da), .val (.int db), .val (.int dc), .val (.int dd)] [(.int len)]))) (fun t k => ?_) ?_
  · show Steps p.tables e below (T46.setTop (mkF m 167 #[.val (.int p1), .val (.int p2), .val (.int p3), .val (.int p4), .val (.int p5), .val (.int p6), .val (.int len), .val (.ref t0), .val (.ref t1), .val (.ref t2), .val (.ref t3), .val (.ref t4), .val (.int bd), .val (.int sv), .val (.int da), .val (.int db), .val (.int dc), .val (.int dd)] [])) _
    refine XS.iload X46.here hx rfl (hb hby at_167) rfl ?_
    exact k
  by_cases hl0 : len = (0 : Int32)
  · have hln : len = 0 := hl0
    refine own_adv (B := (T46.setTop (mkF m 177 #[.val (.int p1), .val (.int p2), .val (.int p3), .val (.int p4), .val (.int p5), .val (.int p6), .val (.int len), .val (.ref t0), .val (.ref t1), .val (.ref t2), .val (.ref t3), .val (.ref t4), .val (.int bd), .val (.int sv), .val (.int da), .val (.int db), .val (.int dc), .val (.int dd)] [(.ref t0), (.int sv), (.int (0 : Int32))]))) (fun t k => ?_) ?_
    · show Steps p.tables e below (T46.setTop (mkF m 169 #[.val (.int p1), .val (.int p2), .val (.int p3), .val (.int p4), .val (.int p5), .val (.int p6), .val (.int len), .val (.ref t0), .val (.ref t1), .val (.ref t2), .val (.ref t3), .val (.ref t4), .val (.int bd), .val (.int sv), .val (.int da), .val (.int db), .val (.int dc), .val (.int dd)] [(.int len)])) _
      refine XS.ifNo X46.here hx rfl (hb hby at_169) rfl ((if0 _ _).trans (teq hl0).2) ?_
      show Steps p.tables e below (T46.setTop (mkF m 172 #[.val (.int p1), .val (.int p2), .val (.int p3), .val (.int p4), .val (.int p5), .val (.int p6), .val (.int len), .val (.ref t0), .val (.ref t1), .val (.ref t2), .val (.ref t3), .val (.ref t4), .val (.int bd), .val (.int sv), .val (.int da), .val (.int db), .val (.int dc), .val (.int dd)] [])) _
      refine XS.iconst X46.here hx rfl (hb hby at_172) ?_
      show Steps p.tables e below (T46.setTop (mkF m 173 #[.val (.int p1), .val (.int p2), .val (.int p3), .val (.int p4), .val (.int p5), .val (.int p6), .val (.int len), .val (.ref t0), .val (.ref t1), .val (.ref t2), .val (.ref t3), .val (.ref t4), .val (.int bd), .val (.int sv), .val (.int da), .val (.int db), .val (.int dc), .val (.int dd)] [(.int (0 : Int32))])) _
      refine XS.iload X46.here hx rfl (hb hby at_173) rfl ?_
      show Steps p.tables e below (T46.setTop (mkF m 175 #[.val (.int p1), .val (.int p2), .val (.int p3), .val (.int p4), .val (.int p5), .val (.int p6), .val (.int len), .val (.ref t0), .val (.ref t1), .val (.ref t2), .val (.ref t3), .val (.ref t4), .val (.int bd), .val (.int sv), .val (.int da), .val (.int db), .val (.int dc), .val (.int dd)] [(.int sv), (.int (0 : Int32))])) _
      refine XS.aload X46.here hx rfl (hb hby at_175) rfl rfl ?_
      exact k
    obtain ⟨_, _, ⟨T48, L48, k48, n48⟩, -, X48, ⟨Lc48, hQ48, l48, y48, z48⟩, st48⟩ := Jvm.LawKit.callS X46 hx (y := (⟨"com/example/grovebra/grovebra/TreeAlgebra", "tupleAt", "(II[I)V"⟩ : MethodName)) hown (mvT hZ (hw _ (List.mem_of_getElem? (i := 2) rfl))) (mvT hZ (hw _ (List.mem_of_getElem? (i := 3) rfl))) (mvT hZ (hw _ (List.mem_of_getElem? (i := 4) rfl))) (mvT hZ (hw _ (List.mem_of_getElem? (i := 5) rfl))) (by decide) (backOf (W := 0) (rm1_0 l Z a0 hw [] (0 : Int32) sv t0  k22 h46 n0 ZZ46 Vt0_46 hsn g_t0) hZ (hw _ (List.mem_of_getElem? (i := 5) rfl)) (hw _ (List.mem_of_getElem? (i := 4) rfl)) (by decide) (by decide)) (g := (mkF m 177 #[.val (.int p1), .val (.int p2), .val (.int p3), .val (.int p4), .val (.int p5), .val (.int p6), .val (.int len), .val (.ref t0), .val (.ref t1), .val (.ref t2), .val (.ref t3), .val (.ref t4), .val (.int bd), .val (.int sv), .val (.int da), .val (.int db), .val (.int dc), .val (.int dd)] [(.ref t0), (.int sv), (.int (0 : Int32))])) rfl (by rw [hml]; rfl) (argsL := [(.int (0 : Int32)), (.int sv), (.ref t0)]) (rest := []) (lenOf pd_0 rfl) rfl (by show 2 * 0 + _ ≤ _; exact Nat.le_of_eq rfl) (hb hby at_177) (fun _ _ => ⟨rfl, e46, (by decide : 5 + 0 ≤ _), (by decide : 10 + 0 ≤ _)⟩)
    dsimp only [Pt.U, Pt.locs, Pt.cells, Pt.slots] at X48 l48 y48 z48 st48 hQ48
    subst l48 y48 z48
    obtain ⟨rfl, N48q, S48, VT⟩ := hQ48
    have N48 := Fr.app N46 N48q
    refine own_adv (B := (T48.setTop (mkF m 180 #[.val (.int p1), .val (.int p2), .val (.int p3), .val (.int p4), .val (.int p5), .val (.int p6), .val (.int len), .val (.ref t0), .val (.ref t1), .val (.ref t2), .val (.ref t3), .val (.ref t4), .val (.int bd), .val (.int sv), .val (.int da), .val (.int db), .val (.int dc), .val (.int dd)] []))) (fun t k => st48 t k) ?_
    obtain ⟨cl49, Ar49, Aq49, AS49, AN49, AH49, AG49⟩ := id VT
    refine own_adv (B := (T48.setTop (mkF m 191 #[.val (.int p1), .val (.int p2), .val (.int p3), .val (.int p4), .val (.int p5), .val (.int p6), .val (.int len), .val (.ref t0), .val (.ref t1), .val (.ref t2), .val (.ref t3), .val (.ref t4), .val (.int bd), .val (.int sv), .val (.int da), .val (.int db), .val (.int dc), .val (.int dd)] [(.int (1 : Int32))]))) (fun t k => ?_) ?_
    · show Steps p.tables e below (T48.setTop (mkF m 180 #[.val (.int p1), .val (.int p2), .val (.int p3), .val (.int p4), .val (.int p5), .val (.int p6), .val (.int len), .val (.ref t0), .val (.ref t1), .val (.ref t2), .val (.ref t3), .val (.ref t4), .val (.int bd), .val (.int sv), .val (.int da), .val (.int db), .val (.int dc), .val (.int dd)] [])) _
      refine XS.aload X48.here hx rfl (hb hby at_180) rfl rfl ?_
      show Steps p.tables e below (T48.setTop (mkF m 182 #[.val (.int p1), .val (.int p2), .val (.int p3), .val (.int p4), .val (.int p5), .val (.int p6), .val (.int len), .val (.ref t0), .val (.ref t1), .val (.ref t2), .val (.ref t3), .val (.ref t4), .val (.int bd), .val (.int sv), .val (.int da), .val (.int db), .val (.int dc), .val (.int dd)] [(.ref t0)])) _
      refine X48.arraylength hx Ar49.1 (State.isArrayOf_alike hZ.alike Ar49.2.1) (g := (mkF m 182 #[.val (.int p1), .val (.int p2), .val (.int p3), .val (.int p4), .val (.int p5), .val (.int p6), .val (.int len), .val (.ref t0), .val (.ref t1), .val (.ref t2), .val (.ref t3), .val (.ref t4), .val (.int bd), .val (.int sv), .val (.int da), .val (.int db), .val (.int dc), .val (.int dd)] [(.ref t0)])) rfl rfl (hb hby at_182) _ ?_
      rw [len_of AS49 AN49]
      show Steps p.tables e below (T48.setTop (mkF m 183 #[.val (.int p1), .val (.int p2), .val (.int p3), .val (.int p4), .val (.int p5), .val (.int p6), .val (.int len), .val (.ref t0), .val (.ref t1), .val (.ref t2), .val (.ref t3), .val (.ref t4), .val (.int bd), .val (.int sv), .val (.int da), .val (.int db), .val (.int dc), .val (.int dd)] [(.int (0 : Int32))])) _
      refine XS.ifNo X48.here hx rfl (hb hby at_183) rfl ((if0 _ _).trans (teq (rfl : (0 : Int32) = 0)).2) ?_
      show Steps p.tables e below (T48.setTop (mkF m 186 #[.val (.int p1), .val (.int p2), .val (.int p3), .val (.int p4), .val (.int p5), .val (.int p6), .val (.int len), .val (.ref t0), .val (.ref t1), .val (.ref t2), .val (.ref t3), .val (.ref t4), .val (.int bd), .val (.int sv), .val (.int da), .val (.int db), .val (.int dc), .val (.int dd)] [])) _
      refine XS.iconst X48.here hx rfl (hb hby at_186) ?_
      show Steps p.tables e below (T48.setTop (mkF m 187 #[.val (.int p1), .val (.int p2), .val (.int p3), .val (.int p4), .val (.int p5), .val (.int p6), .val (.int len), .val (.ref t0), .val (.ref t1), .val (.ref t2), .val (.ref t3), .val (.ref t4), .val (.int bd), .val (.int sv), .val (.int da), .val (.int db), .val (.int dc), .val (.int dd)] [(.int (1 : Int32))])) _
      refine XS.goto X48.here hx rfl (pc0 := 187) (pc' := 191) rfl (hb hby at_187) (by decide) (by decide) ?_
      exact k
    obtain ⟨fs, hr, hrun, hended, hW, hsame⟩ := X48.leave (v := some (.int (1 : Int32))) (fun h => by rw [Bd.returns] at h; cases h)
    refine ⟨_, _, ?_, hrun, hended, _, _, rfl, ?_, ⟨_, rfl⟩, hW, hsame.mono (by decide) (by decide)⟩
    · show Steps p.tables e below (T48.setTop (mkF m 191 #[.val (.int p1), .val (.int p2), .val (.int p3), .val (.int p4), .val (.int p5), .val (.int p6), .val (.int len), .val (.ref t0), .val (.ref t1), .val (.ref t2), .val (.ref t3), .val (.ref t4), .val (.int bd), .val (.int sv), .val (.int da), .val (.int db), .val (.int dc), .val (.int dd)] [(.int (1 : Int32))])) _
      exact retN X48 hx (t := .boolean) Bd.returns (by simp) (hb hby at_191) hr
    · show Q0 Z p1 p2 p3 p4 p5 p6 h0 n0 _ T48.heap _
      exact ⟨rfl, N48⟩
  · refine own_adv (B := (T46.setTop (mkF m 195 #[.val (.int p1), .val (.int p2), .val (.int p3), .val (.int p4), .val (.int p5), .val (.int p6), .val (.int len), .val (.ref t0), .val (.ref t1), .val (.ref t2), .val (.ref t3), .val (.ref t4), .val (.int bd), .val (.int sv), .val (.int da), .val (.int db), .val (.int dc), .val (.int dd)] [(.int (1 : Int32)), (.int len)]))) (fun t k => ?_) ?_
    · show Steps p.tables e below (T46.setTop (mkF m 169 #[.val (.int p1), .val (.int p2), .val (.int p3), .val (.int p4), .val (.int p5), .val (.int p6), .val (.int len), .val (.ref t0), .val (.ref t1), .val (.ref t2), .val (.ref t3), .val (.ref t4), .val (.int bd), .val (.int sv), .val (.int da), .val (.int db), .val (.int dc), .val (.int dd)] [(.int len)])) _
      refine XS.ifYes X46.here hx rfl (pc0 := 169) (pc' := 192) rfl (hb hby at_169) rfl ((if0 _ _).trans (feq hl0).2) (by decide) (by decide) ?_
      show Steps p.tables e below (T46.setTop (mkF m 192 #[.val (.int p1), .val (.int p2), .val (.int p3), .val (.int p4), .val (.int p5), .val (.int p6), .val (.int len), .val (.ref t0), .val (.ref t1), .val (.ref t2), .val (.ref t3), .val (.ref t4), .val (.int bd), .val (.int sv), .val (.int da), .val (.int db), .val (.int dc), .val (.int dd)] [])) _
      refine XS.iload X46.here hx rfl (hb hby at_192) rfl ?_
      show Steps p.tables e below (T46.setTop (mkF m 194 #[.val (.int p1), .val (.int p2), .val (.int p3), .val (.int p4), .val (.int p5), .val (.int p6), .val (.int len), .val (.ref t0), .val (.ref t1), .val (.ref t2), .val (.ref t3), .val (.ref t4), .val (.int bd), .val (.int sv), .val (.int da), .val (.int db), .val (.int dc), .val (.int dd)] [(.int len)])) _
      refine XS.iconst X46.here hx rfl (hb hby at_194) ?_
      exact k
    by_cases hl1 : len = (1 : Int32)
    · have hln : len = 1 := hl1
      refine own_adv (B := (T46.setTop (mkF m 204 #[.val (.int p1), .val (.int p2), .val (.int p3), .val (.int p4), .val (.int p5), .val (.int p6), .val (.int len), .val (.ref t0), .val (.ref t1), .val (.ref t2), .val (.ref t3), .val (.ref t4), .val (.int bd), .val (.int sv), .val (.int da), .val (.int db), .val (.int dc), .val (.int dd)] [(.ref t1), (.int sv), (.int da)]))) (fun t k => ?_) ?_
      · show Steps p.tables e below (T46.setTop (mkF m 195 #[.val (.int p1), .val (.int p2), .val (.int p3), .val (.int p4), .val (.int p5), .val (.int p6), .val (.int len), .val (.ref t0), .val (.ref t1), .val (.ref t2), .val (.ref t3), .val (.ref t4), .val (.int bd), .val (.int sv), .val (.int da), .val (.int db), .val (.int dc), .val (.int dd)] [(.int (1 : Int32)), (.int len)])) _
        refine XS.icmpNo X46.here hx rfl (hb hby at_195) rfl (teq hl1).2 ?_
        show Steps p.tables e below (T46.setTop (mkF m 198 #[.val (.int p1), .val (.int p2), .val (.int p3), .val (.int p4), .val (.int p5), .val (.int p6), .val (.int len), .val (.ref t0), .val (.ref t1), .val (.ref t2), .val (.ref t3), .val (.ref t4), .val (.int bd), .val (.int sv), .val (.int da), .val (.int db), .val (.int dc), .val (.int dd)] [])) _
        refine XS.iload X46.here hx rfl (hb hby at_198) rfl ?_
        show Steps p.tables e below (T46.setTop (mkF m 200 #[.val (.int p1), .val (.int p2), .val (.int p3), .val (.int p4), .val (.int p5), .val (.int p6), .val (.int len), .val (.ref t0), .val (.ref t1), .val (.ref t2), .val (.ref t3), .val (.ref t4), .val (.int bd), .val (.int sv), .val (.int da), .val (.int db), .val (.int dc), .val (.int dd)] [(.int da)])) _
        refine XS.iload X46.here hx rfl (hb hby at_200) rfl ?_
        show Steps p.tables e below (T46.setTop (mkF m 202 #[.val (.int p1), .val (.int p2), .val (.int p3), .val (.int p4), .val (.int p5), .val (.int p6), .val (.int len), .val (.ref t0), .val (.ref t1), .val (.ref t2), .val (.ref t3), .val (.ref t4), .val (.int bd), .val (.int sv), .val (.int da), .val (.int db), .val (.int dc), .val (.int dd)] [(.int sv), (.int da)])) _
        refine XS.aload X46.here hx rfl (hb hby at_202) rfl rfl ?_
        exact k
      obtain ⟨_, _, ⟨T50, L50, k50, n50⟩, -, X50, ⟨Lc50, hQ50, l50, y50, z50⟩, st50⟩ := Jvm.LawKit.callS X46 hx (y := (⟨"com/example/grovebra/grovebra/TreeAlgebra", "tupleAt", "(II[I)V"⟩ : MethodName)) hown (mvT hZ (hw _ (List.mem_of_getElem? (i := 2) rfl))) (mvT hZ (hw _ (List.mem_of_getElem? (i := 3) rfl))) (mvT hZ (hw _ (List.mem_of_getElem? (i := 4) rfl))) (mvT hZ (hw _ (List.mem_of_getElem? (i := 5) rfl))) (by decide) (backOf (W := 0) (rm1_1 l Z a0 hw [] da sv t1 p1 k23 h46 n0 ZZ46 Vt1_46 hsn g_t1) hZ (hw _ (List.mem_of_getElem? (i := 5) rfl)) (hw _ (List.mem_of_getElem? (i := 4) rfl)) (by decide) (by decide)) (g := (mkF m 204 #[.val (.int p1), .val (.int p2), .val (.int p3), .val (.int p4), .val (.int p5), .val (.int p6), .val (.int len), .val (.ref t0), .val (.ref t1), .val (.ref t2), .val (.ref t3), .val (.ref t4), .val (.int bd), .val (.int sv), .val (.int da), .val (.int db), .val (.int dc), .val (.int dd)] [(.ref t1), (.int sv), (.int da)])) rfl (by rw [hml]; rfl) (argsL := [(.int da), (.int sv), (.ref t1)]) (rest := []) (lenOf pd_0 rfl) rfl (by show 2 * 0 + _ ≤ _; exact Nat.le_of_eq rfl) (hb hby at_204) (fun _ _ => ⟨rfl, e46, (by decide : 5 + 0 ≤ _), (by decide : 10 + 0 ≤ _)⟩)
      dsimp only [Pt.U, Pt.locs, Pt.cells, Pt.slots] at X50 l50 y50 z50 st50 hQ50
      subst l50 y50 z50
      obtain ⟨rfl, N50q, S50, VT⟩ := hQ50
      have N50 := Fr.app N46 N50q
      refine own_adv (B := (T50.setTop (mkF m 207 #[.val (.int p1), .val (.int p2), .val (.int p3), .val (.int p4), .val (.int p5), .val (.int p6), .val (.int len), .val (.ref t0), .val (.ref t1), .val (.ref t2), .val (.ref t3), .val (.ref t4), .val (.int bd), .val (.int sv), .val (.int da), .val (.int db), .val (.int dc), .val (.int dd)] []))) (fun t k => st50 t k) ?_
      have VT' : Arv Z T50.heap t1 k23 .int (1 : Int32) [(.int da)] (.int (0 : Int32)) := by
        have q := VT
        simp only [own_small da0 da1] at q
        exact q
      obtain ⟨cl51, Ar51, Aq51, AS51, AN51, AH51, AG51⟩ := id VT'
      have at52 : cl51.slots[(0 : Int32).toNatClampNeg]? = some (.int da) := AH51 0 (by rw [AS51]; decide)
      refine own_adv (B := (T50.setTop (mkF m 221 #[.val (.int p1), .val (.int p2), .val (.int p3), .val (.int p4), .val (.int p5), .val (.int p6), .val (.int len), .val (.ref t0), .val (.ref t1), .val (.ref t2), .val (.ref t3), .val (.ref t4), .val (.int bd), .val (.int sv), .val (.int da), .val (.int db), .val (.int dc), .val (.int dd)] [(.int (1 : Int32))]))) (fun t k => ?_) ?_
      · show Steps p.tables e below (T50.setTop (mkF m 207 #[.val (.int p1), .val (.int p2), .val (.int p3), .val (.int p4), .val (.int p5), .val (.int p6), .val (.int len), .val (.ref t0), .val (.ref t1), .val (.ref t2), .val (.ref t3), .val (.ref t4), .val (.int bd), .val (.int sv), .val (.int da), .val (.int db), .val (.int dc), .val (.int dd)] [])) _
        refine XS.aload X50.here hx rfl (hb hby at_207) rfl rfl ?_
        show Steps p.tables e below (T50.setTop (mkF m 209 #[.val (.int p1), .val (.int p2), .val (.int p3), .val (.int p4), .val (.int p5), .val (.int p6), .val (.int len), .val (.ref t0), .val (.ref t1), .val (.ref t2), .val (.ref t3), .val (.ref t4), .val (.int bd), .val (.int sv), .val (.int da), .val (.int db), .val (.int dc), .val (.int dd)] [(.ref t1)])) _
        refine XS.iconst X50.here hx rfl (hb hby at_209) ?_
        show Steps p.tables e below (T50.setTop (mkF m 210 #[.val (.int p1), .val (.int p2), .val (.int p3), .val (.int p4), .val (.int p5), .val (.int p6), .val (.int len), .val (.ref t0), .val (.ref t1), .val (.ref t2), .val (.ref t3), .val (.ref t4), .val (.int bd), .val (.int sv), .val (.int da), .val (.int db), .val (.int dc), .val (.int dd)] [(.int (0 : Int32)), (.ref t1)])) _
        refine X50.iaload hx (j := (0 : Int32)) (v := (.int da)) Ar51.1 (State.isArrayOf_alike hZ.alike Ar51.2.1) Ar51.2.2 (inb_of AS51 ⟨by decide, by decide⟩) at52 (g := (mkF m 210 #[.val (.int p1), .val (.int p2), .val (.int p3), .val (.int p4), .val (.int p5), .val (.int p6), .val (.int len), .val (.ref t0), .val (.ref t1), .val (.ref t2), .val (.ref t3), .val (.ref t4), .val (.int bd), .val (.int sv), .val (.int da), .val (.int db), .val (.int dc), .val (.int dd)] [(.int (0 : Int32)), (.ref t1)])) rfl rfl (hb hby at_210) _ ?_
        show Steps p.tables e below (T50.setTop (mkF m 211 #[.val (.int p1), .val (.int p2), .val (.int p3), .val (.int p4), .val (.int p5), .val (.int p6), .val (.int len), .val (.ref t0), .val (.ref t1), .val (.ref t2), .val (.ref t3), .val (.ref t4), .val (.int bd), .val (.int sv), .val (.int da), .val (.int db), .val (.int dc), .val (.int dd)] [(.int da)])) _
        refine XS.iload X50.here hx rfl (hb hby at_211) rfl ?_
        show Steps p.tables e below (T50.setTop (mkF m 213 #[.val (.int p1), .val (.int p2), .val (.int p3), .val (.int p4), .val (.int p5), .val (.int p6), .val (.int len), .val (.ref t0), .val (.ref t1), .val (.ref t2), .val (.ref t3), .val (.ref t4), .val (.int bd), .val (.int sv), .val (.int da), .val (.int db), .val (.int dc), .val (.int dd)] [(.int da), (.int da)])) _
        refine XS.icmpNo X50.here hx rfl (hb hby at_213) rfl (teq rfl).2 ?_
        show Steps p.tables e below (T50.setTop (mkF m 216 #[.val (.int p1), .val (.int p2), .val (.int p3), .val (.int p4), .val (.int p5), .val (.int p6), .val (.int len), .val (.ref t0), .val (.ref t1), .val (.ref t2), .val (.ref t3), .val (.ref t4), .val (.int bd), .val (.int sv), .val (.int da), .val (.int db), .val (.int dc), .val (.int dd)] [])) _
        refine XS.iconst X50.here hx rfl (hb hby at_216) ?_
        show Steps p.tables e below (T50.setTop (mkF m 217 #[.val (.int p1), .val (.int p2), .val (.int p3), .val (.int p4), .val (.int p5), .val (.int p6), .val (.int len), .val (.ref t0), .val (.ref t1), .val (.ref t2), .val (.ref t3), .val (.ref t4), .val (.int bd), .val (.int sv), .val (.int da), .val (.int db), .val (.int dc), .val (.int dd)] [(.int (1 : Int32))])) _
        refine XS.goto X50.here hx rfl (pc0 := 217) (pc' := 221) rfl (hb hby at_217) (by decide) (by decide) ?_
        exact k
      obtain ⟨fs, hr, hrun, hended, hW, hsame⟩ := X50.leave (v := some (.int (1 : Int32))) (fun h => by rw [Bd.returns] at h; cases h)
      refine ⟨_, _, ?_, hrun, hended, _, _, rfl, ?_, ⟨_, rfl⟩, hW, hsame.mono (by decide) (by decide)⟩
      · show Steps p.tables e below (T50.setTop (mkF m 221 #[.val (.int p1), .val (.int p2), .val (.int p3), .val (.int p4), .val (.int p5), .val (.int p6), .val (.int len), .val (.ref t0), .val (.ref t1), .val (.ref t2), .val (.ref t3), .val (.ref t4), .val (.int bd), .val (.int sv), .val (.int da), .val (.int db), .val (.int dc), .val (.int dd)] [(.int (1 : Int32))])) _
        exact retN X50 hx (t := .boolean) Bd.returns (by simp) (hb hby at_221) hr
      · show Q0 Z p1 p2 p3 p4 p5 p6 h0 n0 _ T50.heap _
        exact ⟨rfl, N50⟩
    · refine own_adv (B := (T46.setTop (mkF m 225 #[.val (.int p1), .val (.int p2), .val (.int p3), .val (.int p4), .val (.int p5), .val (.int p6), .val (.int len), .val (.ref t0), .val (.ref t1), .val (.ref t2), .val (.ref t3), .val (.ref t4), .val (.int bd), .val (.int sv), .val (.int da), .val (.int db), .val (.int dc), .val (.int dd)] [(.int (2 : Int32)), (.int len)]))) (fun t k => ?_) ?_
      · show Steps p.tables e below (T46.setTop (mkF m 195 #[.val (.int p1), .val (.int p2), .val (.int p3), .val (.int p4), .val (.int p5), .val (.int p6), .val (.int len), .val (.ref t0), .val (.ref t1), .val (.ref t2), .val (.ref t3), .val (.ref t4), .val (.int bd), .val (.int sv), .val (.int da), .val (.int db), .val (.int dc), .val (.int dd)] [(.int (1 : Int32)), (.int len)])) _
        refine XS.icmpYes X46.here hx rfl (pc0 := 195) (pc' := 222) rfl (hb hby at_195) rfl (feq hl1).2 (by decide) (by decide) ?_
        show Steps p.tables e below (T46.setTop (mkF m 222 #[.val (.int p1), .val (.int p2), .val (.int p3), .val (.int p4), .val (.int p5), .val (.int p6), .val (.int len), .val (.ref t0), .val (.ref t1), .val (.ref t2), .val (.ref t3), .val (.ref t4), .val (.int bd), .val (.int sv), .val (.int da), .val (.int db), .val (.int dc), .val (.int dd)] [])) _
        refine XS.iload X46.here hx rfl (hb hby at_222) rfl ?_
        show Steps p.tables e below (T46.setTop (mkF m 224 #[.val (.int p1), .val (.int p2), .val (.int p3), .val (.int p4), .val (.int p5), .val (.int p6), .val (.int len), .val (.ref t0), .val (.ref t1), .val (.ref t2), .val (.ref t3), .val (.ref t4), .val (.int bd), .val (.int sv), .val (.int da), .val (.int db), .val (.int dc), .val (.int dd)] [(.int len)])) _
        refine XS.iconst X46.here hx rfl (hb hby at_224) ?_
        exact k
      by_cases hl2 : len = (2 : Int32)
      · have hln : len = 2 := hl2
        have hcap : sv.toInt ≤ 46340 := by
          rw [hbd, hln] at hs2
          exact hs2
        have c2 := own_bnd da0 da1 db0 db1 hs1
        obtain ⟨e2, f2, i2⟩ := own_dm hs1 da0 db0 db1 (own_cap2_2 hs1 hcap c2)
        refine own_adv (B := (T46.setTop (mkF m 240 #[.val (.int p1), .val (.int p2), .val (.int p3), .val (.int p4), .val (.int p5), .val (.int p6), .val (.int len), .val (.ref t0), .val (.ref t1), .val (.ref t2), .val (.ref t3), .val (.ref t4), .val (.int bd), .val (.int sv), .val (.int da), .val (.int db), .val (.int dc), .val (.int dd)] [(.ref t2), (.int sv), (.int ((da * sv) + db))]))) (fun t k => ?_) ?_
        · show Steps p.tables e below (T46.setTop (mkF m 225 #[.val (.int p1), .val (.int p2), .val (.int p3), .val (.int p4), .val (.int p5), .val (.int p6), .val (.int len), .val (.ref t0), .val (.ref t1), .val (.ref t2), .val (.ref t3), .val (.ref t4), .val (.int bd), .val (.int sv), .val (.int da), .val (.int db), .val (.int dc), .val (.int dd)] [(.int (2 : Int32)), (.int len)])) _
          refine XS.icmpNo X46.here hx rfl (hb hby at_225) rfl (teq hl2).2 ?_
          show Steps p.tables e below (T46.setTop (mkF m 228 #[.val (.int p1), .val (.int p2), .val (.int p3), .val (.int p4), .val (.int p5), .val (.int p6), .val (.int len), .val (.ref t0), .val (.ref t1), .val (.ref t2), .val (.ref t3), .val (.ref t4), .val (.int bd), .val (.int sv), .val (.int da), .val (.int db), .val (.int dc), .val (.int dd)] [])) _
          refine XS.iload X46.here hx rfl (hb hby at_228) rfl ?_
          show Steps p.tables e below (T46.setTop (mkF m 230 #[.val (.int p1), .val (.int p2), .val (.int p3), .val (.int p4), .val (.int p5), .val (.int p6), .val (.int len), .val (.ref t0), .val (.ref t1), .val (.ref t2), .val (.ref t3), .val (.ref t4), .val (.int bd), .val (.int sv), .val (.int da), .val (.int db), .val (.int dc), .val (.int dd)] [(.int da)])) _
          refine XS.iload X46.here hx rfl (hb hby at_230) rfl ?_
          show Steps p.tables e below (T46.setTop (mkF m 232 #[.val (.int p1), .val (.int p2), .val (.int p3), .val (.int p4), .val (.int p5), .val (.int p6), .val (.int len), .val (.ref t0), .val (.ref t1), .val (.ref t2), .val (.ref t3), .val (.ref t4), .val (.int bd), .val (.int sv), .val (.int da), .val (.int db), .val (.int dc), .val (.int dd)] [(.int sv), (.int da)])) _
          refine XS.imul X46.here hx rfl (hb hby at_232) rfl ?_
          show Steps p.tables e below (T46.setTop (mkF m 233 #[.val (.int p1), .val (.int p2), .val (.int p3), .val (.int p4), .val (.int p5), .val (.int p6), .val (.int len), .val (.ref t0), .val (.ref t1), .val (.ref t2), .val (.ref t3), .val (.ref t4), .val (.int bd), .val (.int sv), .val (.int da), .val (.int db), .val (.int dc), .val (.int dd)] [(.int (da * sv))])) _
          refine XS.iload X46.here hx rfl (hb hby at_233) rfl ?_
          show Steps p.tables e below (T46.setTop (mkF m 235 #[.val (.int p1), .val (.int p2), .val (.int p3), .val (.int p4), .val (.int p5), .val (.int p6), .val (.int len), .val (.ref t0), .val (.ref t1), .val (.ref t2), .val (.ref t3), .val (.ref t4), .val (.int bd), .val (.int sv), .val (.int da), .val (.int db), .val (.int dc), .val (.int dd)] [(.int db), (.int (da * sv))])) _
          refine XS.iadd X46.here hx rfl (hb hby at_235) rfl ?_
          show Steps p.tables e below (T46.setTop (mkF m 236 #[.val (.int p1), .val (.int p2), .val (.int p3), .val (.int p4), .val (.int p5), .val (.int p6), .val (.int len), .val (.ref t0), .val (.ref t1), .val (.ref t2), .val (.ref t3), .val (.ref t4), .val (.int bd), .val (.int sv), .val (.int da), .val (.int db), .val (.int dc), .val (.int dd)] [(.int ((da * sv) + db))])) _
          refine XS.iload X46.here hx rfl (hb hby at_236) rfl ?_
          show Steps p.tables e below (T46.setTop (mkF m 238 #[.val (.int p1), .val (.int p2), .val (.int p3), .val (.int p4), .val (.int p5), .val (.int p6), .val (.int len), .val (.ref t0), .val (.ref t1), .val (.ref t2), .val (.ref t3), .val (.ref t4), .val (.int bd), .val (.int sv), .val (.int da), .val (.int db), .val (.int dc), .val (.int dd)] [(.int sv), (.int ((da * sv) + db))])) _
          refine XS.aload X46.here hx rfl (hb hby at_238) rfl rfl ?_
          exact k
        obtain ⟨_, _, ⟨T53, L53, k53, n53⟩, -, X53, ⟨Lc53, hQ53, l53, y53, z53⟩, st53⟩ := Jvm.LawKit.callS X46 hx (y := (⟨"com/example/grovebra/grovebra/TreeAlgebra", "tupleAt", "(II[I)V"⟩ : MethodName)) hown (mvT hZ (hw _ (List.mem_of_getElem? (i := 2) rfl))) (mvT hZ (hw _ (List.mem_of_getElem? (i := 3) rfl))) (mvT hZ (hw _ (List.mem_of_getElem? (i := 4) rfl))) (mvT hZ (hw _ (List.mem_of_getElem? (i := 5) rfl))) (by decide) (backOf (W := 0) (rm1_2 l Z a0 hw [] ((da * sv) + db) sv t2 p1 p1 k26 h46 n0 ZZ46 Vt2_46 hsn g_t2) hZ (hw _ (List.mem_of_getElem? (i := 5) rfl)) (hw _ (List.mem_of_getElem? (i := 4) rfl)) (by decide) (by decide)) (g := (mkF m 240 #[.val (.int p1), .val (.int p2), .val (.int p3), .val (.int p4), .val (.int p5), .val (.int p6), .val (.int len), .val (.ref t0), .val (.ref t1), .val (.ref t2), .val (.ref t3), .val (.ref t4), .val (.int bd), .val (.int sv), .val (.int da), .val (.int db), .val (.int dc), .val (.int dd)] [(.ref t2), (.int sv), (.int ((da * sv) + db))])) rfl (by rw [hml]; rfl) (argsL := [(.int ((da * sv) + db)), (.int sv), (.ref t2)]) (rest := []) (lenOf pd_0 rfl) rfl (by show 2 * 0 + _ ≤ _; exact Nat.le_of_eq rfl) (hb hby at_240) (fun _ _ => ⟨rfl, e46, (by decide : 5 + 0 ≤ _), (by decide : 10 + 0 ≤ _)⟩)
        dsimp only [Pt.U, Pt.locs, Pt.cells, Pt.slots] at X53 l53 y53 z53 st53 hQ53
        subst l53 y53 z53
        obtain ⟨rfl, N53q, S53, VT⟩ := hQ53
        have N53 := Fr.app N46 N53q
        refine own_adv (B := (T53.setTop (mkF m 243 #[.val (.int p1), .val (.int p2), .val (.int p3), .val (.int p4), .val (.int p5), .val (.int p6), .val (.int len), .val (.ref t0), .val (.ref t1), .val (.ref t2), .val (.ref t3), .val (.ref t4), .val (.int bd), .val (.int sv), .val (.int da), .val (.int db), .val (.int dc), .val (.int dd)] []))) (fun t k => st53 t k) ?_
        have VT' : Arv Z T53.heap t2 k26 .int (2 : Int32) [(.int da), (.int db)] (.int (0 : Int32)) := by
          have q := VT
          simp only [f2, e2, own_small da0 da1] at q
          exact q
        obtain ⟨cl54, Ar54, Aq54, AS54, AN54, AH54, AG54⟩ := id VT'
        have at55 : cl54.slots[(0 : Int32).toNatClampNeg]? = some (.int da) := AH54 0 (by rw [AS54]; decide)
        have at56 : cl54.slots[(1 : Int32).toNatClampNeg]? = some (.int db) := AH54 1 (by rw [AS54]; decide)
        refine own_adv (B := (T53.setTop (mkF m 266 #[.val (.int p1), .val (.int p2), .val (.int p3), .val (.int p4), .val (.int p5), .val (.int p6), .val (.int len), .val (.ref t0), .val (.ref t1), .val (.ref t2), .val (.ref t3), .val (.ref t4), .val (.int bd), .val (.int sv), .val (.int da), .val (.int db), .val (.int dc), .val (.int dd)] [(.int (1 : Int32))]))) (fun t k => ?_) ?_
        · show Steps p.tables e below (T53.setTop (mkF m 243 #[.val (.int p1), .val (.int p2), .val (.int p3), .val (.int p4), .val (.int p5), .val (.int p6), .val (.int len), .val (.ref t0), .val (.ref t1), .val (.ref t2), .val (.ref t3), .val (.ref t4), .val (.int bd), .val (.int sv), .val (.int da), .val (.int db), .val (.int dc), .val (.int dd)] [])) _
          refine XS.aload X53.here hx rfl (hb hby at_243) rfl rfl ?_
          show Steps p.tables e below (T53.setTop (mkF m 245 #[.val (.int p1), .val (.int p2), .val (.int p3), .val (.int p4), .val (.int p5), .val (.int p6), .val (.int len), .val (.ref t0), .val (.ref t1), .val (.ref t2), .val (.ref t3), .val (.ref t4), .val (.int bd), .val (.int sv), .val (.int da), .val (.int db), .val (.int dc), .val (.int dd)] [(.ref t2)])) _
          refine XS.iconst X53.here hx rfl (hb hby at_245) ?_
          show Steps p.tables e below (T53.setTop (mkF m 246 #[.val (.int p1), .val (.int p2), .val (.int p3), .val (.int p4), .val (.int p5), .val (.int p6), .val (.int len), .val (.ref t0), .val (.ref t1), .val (.ref t2), .val (.ref t3), .val (.ref t4), .val (.int bd), .val (.int sv), .val (.int da), .val (.int db), .val (.int dc), .val (.int dd)] [(.int (0 : Int32)), (.ref t2)])) _
          refine X53.iaload hx (j := (0 : Int32)) (v := (.int da)) Ar54.1 (State.isArrayOf_alike hZ.alike Ar54.2.1) Ar54.2.2 (inb_of AS54 ⟨by decide, by decide⟩) at55 (g := (mkF m 246 #[.val (.int p1), .val (.int p2), .val (.int p3), .val (.int p4), .val (.int p5), .val (.int p6), .val (.int len), .val (.ref t0), .val (.ref t1), .val (.ref t2), .val (.ref t3), .val (.ref t4), .val (.int bd), .val (.int sv), .val (.int da), .val (.int db), .val (.int dc), .val (.int dd)] [(.int (0 : Int32)), (.ref t2)])) rfl rfl (hb hby at_246) _ ?_
          show Steps p.tables e below (T53.setTop (mkF m 247 #[.val (.int p1), .val (.int p2), .val (.int p3), .val (.int p4), .val (.int p5), .val (.int p6), .val (.int len), .val (.ref t0), .val (.ref t1), .val (.ref t2), .val (.ref t3), .val (.ref t4), .val (.int bd), .val (.int sv), .val (.int da), .val (.int db), .val (.int dc), .val (.int dd)] [(.int da)])) _
          refine XS.iload X53.here hx rfl (hb hby at_247) rfl ?_
          show Steps p.tables e below (T53.setTop (mkF m 249 #[.val (.int p1), .val (.int p2), .val (.int p3), .val (.int p4), .val (.int p5), .val (.int p6), .val (.int len), .val (.ref t0), .val (.ref t1), .val (.ref t2), .val (.ref t3), .val (.ref t4), .val (.int bd), .val (.int sv), .val (.int da), .val (.int db), .val (.int dc), .val (.int dd)] [(.int da), (.int da)])) _
          refine XS.icmpNo X53.here hx rfl (hb hby at_249) rfl (teq rfl).2 ?_
          show Steps p.tables e below (T53.setTop (mkF m 252 #[.val (.int p1), .val (.int p2), .val (.int p3), .val (.int p4), .val (.int p5), .val (.int p6), .val (.int len), .val (.ref t0), .val (.ref t1), .val (.ref t2), .val (.ref t3), .val (.ref t4), .val (.int bd), .val (.int sv), .val (.int da), .val (.int db), .val (.int dc), .val (.int dd)] [])) _
          refine XS.aload X53.here hx rfl (hb hby at_252) rfl rfl ?_
          show Steps p.tables e below (T53.setTop (mkF m 254 #[.val (.int p1), .val (.int p2), .val (.int p3), .val (.int p4), .val (.int p5), .val (.int p6), .val (.int len), .val (.ref t0), .val (.ref t1), .val (.ref t2), .val (.ref t3), .val (.ref t4), .val (.int bd), .val (.int sv), .val (.int da), .val (.int db), .val (.int dc), .val (.int dd)] [(.ref t2)])) _
          refine XS.iconst X53.here hx rfl (hb hby at_254) ?_
          show Steps p.tables e below (T53.setTop (mkF m 255 #[.val (.int p1), .val (.int p2), .val (.int p3), .val (.int p4), .val (.int p5), .val (.int p6), .val (.int len), .val (.ref t0), .val (.ref t1), .val (.ref t2), .val (.ref t3), .val (.ref t4), .val (.int bd), .val (.int sv), .val (.int da), .val (.int db), .val (.int dc), .val (.int dd)] [(.int (1 : Int32)), (.ref t2)])) _
          refine X53.iaload hx (j := (1 : Int32)) (v := (.int db)) Ar54.1 (State.isArrayOf_alike hZ.alike Ar54.2.1) Ar54.2.2 (inb_of AS54 ⟨by decide, by decide⟩) at56 (g := (mkF m 255 #[.val (.int p1), .val (.int p2), .val (.int p3), .val (.int p4), .val (.int p5), .val (.int p6), .val (.int len), .val (.ref t0), .val (.ref t1), .val (.ref t2), .val (.ref t3), .val (.ref t4), .val (.int bd), .val (.int sv), .val (.int da), .val (.int db), .val (.int dc), .val (.int dd)] [(.int (1 : Int32)), (.ref t2)])) rfl rfl (hb hby at_255) _ ?_
          show Steps p.tables e below (T53.setTop (mkF m 256 #[.val (.int p1), .val (.int p2), .val (.int p3), .val (.int p4), .val (.int p5), .val (.int p6), .val (.int len), .val (.ref t0), .val (.ref t1), .val (.ref t2), .val (.ref t3), .val (.ref t4), .val (.int bd), .val (.int sv), .val (.int da), .val (.int db), .val (.int dc), .val (.int dd)] [(.int db)])) _
          refine XS.iload X53.here hx rfl (hb hby at_256) rfl ?_
          show Steps p.tables e below (T53.setTop (mkF m 258 #[.val (.int p1), .val (.int p2), .val (.int p3), .val (.int p4), .val (.int p5), .val (.int p6), .val (.int len), .val (.ref t0), .val (.ref t1), .val (.ref t2), .val (.ref t3), .val (.ref t4), .val (.int bd), .val (.int sv), .val (.int da), .val (.int db), .val (.int dc), .val (.int dd)] [(.int db), (.int db)])) _
          refine XS.icmpNo X53.here hx rfl (hb hby at_258) rfl (teq rfl).2 ?_
          show Steps p.tables e below (T53.setTop (mkF m 261 #[.val (.int p1), .val (.int p2), .val (.int p3), .val (.int p4), .val (.int p5), .val (.int p6), .val (.int len), .val (.ref t0), .val (.ref t1), .val (.ref t2), .val (.ref t3), .val (.ref t4), .val (.int bd), .val (.int sv), .val (.int da), .val (.int db), .val (.int dc), .val (.int dd)] [])) _
          refine XS.iconst X53.here hx rfl (hb hby at_261) ?_
          show Steps p.tables e below (T53.setTop (mkF m 262 #[.val (.int p1), .val (.int p2), .val (.int p3), .val (.int p4), .val (.int p5), .val (.int p6), .val (.int len), .val (.ref t0), .val (.ref t1), .val (.ref t2), .val (.ref t3), .val (.ref t4), .val (.int bd), .val (.int sv), .val (.int da), .val (.int db), .val (.int dc), .val (.int dd)] [(.int (1 : Int32))])) _
          refine XS.goto X53.here hx rfl (pc0 := 262) (pc' := 266) rfl (hb hby at_262) (by decide) (by decide) ?_
          exact k
        obtain ⟨fs, hr, hrun, hended, hW, hsame⟩ := X53.leave (v := some (.int (1 : Int32))) (fun h => by rw [Bd.returns] at h; cases h)
        refine ⟨_, _, ?_, hrun, hended, _, _, rfl, ?_, ⟨_, rfl⟩, hW, hsame.mono (by decide) (by decide)⟩
        · show Steps p.tables e below (T53.setTop (mkF m 266 #[.val (.int p1), .val (.int p2), .val (.int p3), .val (.int p4), .val (.int p5), .val (.int p6), .val (.int len), .val (.ref t0), .val (.ref t1), .val (.ref t2), .val (.ref t3), .val (.ref t4), .val (.int bd), .val (.int sv), .val (.int da), .val (.int db), .val (.int dc), .val (.int dd)] [(.int (1 : Int32))])) _
          exact retN X53 hx (t := .boolean) Bd.returns (by simp) (hb hby at_266) hr
        · show Q0 Z p1 p2 p3 p4 p5 p6 h0 n0 _ T53.heap _
          exact ⟨rfl, N53⟩
      · refine own_adv (B := (T46.setTop (mkF m 270 #[.val (.int p1), .val (.int p2), .val (.int p3), .val (.int p4), .val (.int p5), .val (.int p6), .val (.int len), .val (.ref t0), .val (.ref t1), .val (.ref t2), .val (.ref t3), .val (.ref t4), .val (.int bd), .val (.int sv), .val (.int da), .val (.int db), .val (.int dc), .val (.int dd)] [(.int (3 : Int32)), (.int len)]))) (fun t k => ?_) ?_
        · show Steps p.tables e below (T46.setTop (mkF m 225 #[.val (.int p1), .val (.int p2), .val (.int p3), .val (.int p4), .val (.int p5), .val (.int p6), .val (.int len), .val (.ref t0), .val (.ref t1), .val (.ref t2), .val (.ref t3), .val (.ref t4), .val (.int bd), .val (.int sv), .val (.int da), .val (.int db), .val (.int dc), .val (.int dd)] [(.int (2 : Int32)), (.int len)])) _
          refine XS.icmpYes X46.here hx rfl (pc0 := 225) (pc' := 267) rfl (hb hby at_225) rfl (feq hl2).2 (by decide) (by decide) ?_
          show Steps p.tables e below (T46.setTop (mkF m 267 #[.val (.int p1), .val (.int p2), .val (.int p3), .val (.int p4), .val (.int p5), .val (.int p6), .val (.int len), .val (.ref t0), .val (.ref t1), .val (.ref t2), .val (.ref t3), .val (.ref t4), .val (.int bd), .val (.int sv), .val (.int da), .val (.int db), .val (.int dc), .val (.int dd)] [])) _
          refine XS.iload X46.here hx rfl (hb hby at_267) rfl ?_
          show Steps p.tables e below (T46.setTop (mkF m 269 #[.val (.int p1), .val (.int p2), .val (.int p3), .val (.int p4), .val (.int p5), .val (.int p6), .val (.int len), .val (.ref t0), .val (.ref t1), .val (.ref t2), .val (.ref t3), .val (.ref t4), .val (.int bd), .val (.int sv), .val (.int da), .val (.int db), .val (.int dc), .val (.int dd)] [(.int len)])) _
          refine XS.iconst X46.here hx rfl (hb hby at_269) ?_
          exact k
        by_cases hl3 : len = (3 : Int32)
        · have hln : len = 3 := hl3
          have hcap : sv.toInt ≤ 1290 := by
            rw [hbd, hln] at hs2
            exact hs2
          have c2 := own_bnd da0 da1 db0 db1 hs1
          obtain ⟨e2, f2, i2⟩ := own_dm hs1 da0 db0 db1 (own_cap3_2 hs1 hcap c2)
          have g2 : 0 ≤ ((da * sv) + db).toInt := by rw [i2]; exact own_nn da0 hs1 db0
          rw [← i2] at c2
          have c3 := own_bnd g2 c2 dc0 dc1 hs1
          obtain ⟨e3, f3, i3⟩ := own_dm hs1 g2 dc0 dc1 (own_cap3_3 hs1 hcap c3)
          refine own_adv (B := (T46.setTop (mkF m 291 #[.val (.int p1), .val (.int p2), .val (.int p3), .val (.int p4), .val (.int p5), .val (.int p6), .val (.int len), .val (.ref t0), .val (.ref t1), .val (.ref t2), .val (.ref t3), .val (.ref t4), .val (.int bd), .val (.int sv), .val (.int da), .val (.int db), .val (.int dc), .val (.int dd)] [(.ref t3), (.int sv), (.int ((((da * sv) + db) * sv) + dc))]))) (fun t k => ?_) ?_
          · show Steps p.tables e below (T46.setTop (mkF m 270 #[.val (.int p1), .val (.int p2), .val (.int p3), .val (.int p4), .val (.int p5), .val (.int p6), .val (.int len), .val (.ref t0), .val (.ref t1), .val (.ref t2), .val (.ref t3), .val (.ref t4), .val (.int bd), .val (.int sv), .val (.int da), .val (.int db), .val (.int dc), .val (.int dd)] [(.int (3 : Int32)), (.int len)])) _
            refine XS.icmpNo X46.here hx rfl (hb hby at_270) rfl (teq hl3).2 ?_
            show Steps p.tables e below (T46.setTop (mkF m 273 #[.val (.int p1), .val (.int p2), .val (.int p3), .val (.int p4), .val (.int p5), .val (.int p6), .val (.int len), .val (.ref t0), .val (.ref t1), .val (.ref t2), .val (.ref t3), .val (.ref t4), .val (.int bd), .val (.int sv), .val (.int da), .val (.int db), .val (.int dc), .val (.int dd)] [])) _
            refine XS.iload X46.here hx rfl (hb hby at_273) rfl ?_
            show Steps p.tables e below (T46.setTop (mkF m 275 #[.val (.int p1), .val (.int p2), .val (.int p3), .val (.int p4), .val (.int p5), .val (.int p6), .val (.int len), .val (.ref t0), .val (.ref t1), .val (.ref t2), .val (.ref t3), .val (.ref t4), .val (.int bd), .val (.int sv), .val (.int da), .val (.int db), .val (.int dc), .val (.int dd)] [(.int da)])) _
            refine XS.iload X46.here hx rfl (hb hby at_275) rfl ?_
            show Steps p.tables e below (T46.setTop (mkF m 277 #[.val (.int p1), .val (.int p2), .val (.int p3), .val (.int p4), .val (.int p5), .val (.int p6), .val (.int len), .val (.ref t0), .val (.ref t1), .val (.ref t2), .val (.ref t3), .val (.ref t4), .val (.int bd), .val (.int sv), .val (.int da), .val (.int db), .val (.int dc), .val (.int dd)] [(.int sv), (.int da)])) _
            refine XS.imul X46.here hx rfl (hb hby at_277) rfl ?_
            show Steps p.tables e below (T46.setTop (mkF m 278 #[.val (.int p1), .val (.int p2), .val (.int p3), .val (.int p4), .val (.int p5), .val (.int p6), .val (.int len), .val (.ref t0), .val (.ref t1), .val (.ref t2), .val (.ref t3), .val (.ref t4), .val (.int bd), .val (.int sv), .val (.int da), .val (.int db), .val (.int dc), .val (.int dd)] [(.int (da * sv))])) _
            refine XS.iload X46.here hx rfl (hb hby at_278) rfl ?_
            show Steps p.tables e below (T46.setTop (mkF m 280 #[.val (.int p1), .val (.int p2), .val (.int p3), .val (.int p4), .val (.int p5), .val (.int p6), .val (.int len), .val (.ref t0), .val (.ref t1), .val (.ref t2), .val (.ref t3), .val (.ref t4), .val (.int bd), .val (.int sv), .val (.int da), .val (.int db), .val (.int dc), .val (.int dd)] [(.int db), (.int (da * sv))])) _
            refine XS.iadd X46.here hx rfl (hb hby at_280) rfl ?_
            show Steps p.tables e below (T46.setTop (mkF m 281 #[.val (.int p1), .val (.int p2), .val (.int p3), .val (.int p4), .val (.int p5), .val (.int p6), .val (.int len), .val (.ref t0), .val (.ref t1), .val (.ref t2), .val (.ref t3), .val (.ref t4), .val (.int bd), .val (.int sv), .val (.int da), .val (.int db), .val (.int dc), .val (.int dd)] [(.int ((da * sv) + db))])) _
            refine XS.iload X46.here hx rfl (hb hby at_281) rfl ?_
            show Steps p.tables e below (T46.setTop (mkF m 283 #[.val (.int p1), .val (.int p2), .val (.int p3), .val (.int p4), .val (.int p5), .val (.int p6), .val (.int len), .val (.ref t0), .val (.ref t1), .val (.ref t2), .val (.ref t3), .val (.ref t4), .val (.int bd), .val (.int sv), .val (.int da), .val (.int db), .val (.int dc), .val (.int dd)] [(.int sv), (.int ((da * sv) + db))])) _
            refine XS.imul X46.here hx rfl (hb hby at_283) rfl ?_
            show Steps p.tables e below (T46.setTop (mkF m 284 #[.val (.int p1), .val (.int p2), .val (.int p3), .val (.int p4), .val (.int p5), .val (.int p6), .val (.int len), .val (.ref t0), .val (.ref t1), .val (.ref t2), .val (.ref t3), .val (.ref t4), .val (.int bd), .val (.int sv), .val (.int da), .val (.int db), .val (.int dc), .val (.int dd)] [(.int (((da * sv) + db) * sv))])) _
            refine XS.iload X46.here hx rfl (hb hby at_284) rfl ?_
            show Steps p.tables e below (T46.setTop (mkF m 286 #[.val (.int p1), .val (.int p2), .val (.int p3), .val (.int p4), .val (.int p5), .val (.int p6), .val (.int len), .val (.ref t0), .val (.ref t1), .val (.ref t2), .val (.ref t3), .val (.ref t4), .val (.int bd), .val (.int sv), .val (.int da), .val (.int db), .val (.int dc), .val (.int dd)] [(.int dc), (.int (((da * sv) + db) * sv))])) _
            refine XS.iadd X46.here hx rfl (hb hby at_286) rfl ?_
            show Steps p.tables e below (T46.setTop (mkF m 287 #[.val (.int p1), .val (.int p2), .val (.int p3), .val (.int p4), .val (.int p5), .val (.int p6), .val (.int len), .val (.ref t0), .val (.ref t1), .val (.ref t2), .val (.ref t3), .val (.ref t4), .val (.int bd), .val (.int sv), .val (.int da), .val (.int db), .val (.int dc), .val (.int dd)] [(.int ((((da * sv) + db) * sv) + dc))])) _
            refine XS.iload X46.here hx rfl (hb hby at_287) rfl ?_
            show Steps p.tables e below (T46.setTop (mkF m 289 #[.val (.int p1), .val (.int p2), .val (.int p3), .val (.int p4), .val (.int p5), .val (.int p6), .val (.int len), .val (.ref t0), .val (.ref t1), .val (.ref t2), .val (.ref t3), .val (.ref t4), .val (.int bd), .val (.int sv), .val (.int da), .val (.int db), .val (.int dc), .val (.int dd)] [(.int sv), (.int ((((da * sv) + db) * sv) + dc))])) _
            refine XS.aload X46.here hx rfl (hb hby at_289) rfl rfl ?_
            exact k
          obtain ⟨_, _, ⟨T57, L57, k57, n57⟩, -, X57, ⟨Lc57, hQ57, l57, y57, z57⟩, st57⟩ := Jvm.LawKit.callS X46 hx (y := (⟨"com/example/grovebra/grovebra/TreeAlgebra", "tupleAt", "(II[I)V"⟩ : MethodName)) hown (mvT hZ (hw _ (List.mem_of_getElem? (i := 2) rfl))) (mvT hZ (hw _ (List.mem_of_getElem? (i := 3) rfl))) (mvT hZ (hw _ (List.mem_of_getElem? (i := 4) rfl))) (mvT hZ (hw _ (List.mem_of_getElem? (i := 5) rfl))) (by decide) (backOf (W := 0) (rm1_3 l Z a0 hw [] ((((da * sv) + db) * sv) + dc) sv t3 p1 p1 p1 k31 h46 n0 ZZ46 Vt3_46 hsn g_t3) hZ (hw _ (List.mem_of_getElem? (i := 5) rfl)) (hw _ (List.mem_of_getElem? (i := 4) rfl)) (by decide) (by decide)) (g := (mkF m 291 #[.val (.int p1), .val (.int p2), .val (.int p3), .val (.int p4), .val (.int p5), .val (.int p6), .val (.int len), .val (.ref t0), .val (.ref t1), .val (.ref t2), .val (.ref t3), .val (.ref t4), .val (.int bd), .val (.int sv), .val (.int da), .val (.int db), .val (.int dc), .val (.int dd)] [(.ref t3), (.int sv), (.int ((((da * sv) + db) * sv) + dc))])) rfl (by rw [hml]; rfl) (argsL := [(.int ((((da * sv) + db) * sv) + dc)), (.int sv), (.ref t3)]) (rest := []) (lenOf pd_0 rfl) rfl (by show 2 * 0 + _ ≤ _; exact Nat.le_of_eq rfl) (hb hby at_291) (fun _ _ => ⟨rfl, e46, (by decide : 5 + 0 ≤ _), (by decide : 10 + 0 ≤ _)⟩)
          dsimp only [Pt.U, Pt.locs, Pt.cells, Pt.slots] at X57 l57 y57 z57 st57 hQ57
          subst l57 y57 z57
          obtain ⟨rfl, N57q, S57, VT⟩ := hQ57
          have N57 := Fr.app N46 N57q
          refine own_adv (B := (T57.setTop (mkF m 294 #[.val (.int p1), .val (.int p2), .val (.int p3), .val (.int p4), .val (.int p5), .val (.int p6), .val (.int len), .val (.ref t0), .val (.ref t1), .val (.ref t2), .val (.ref t3), .val (.ref t4), .val (.int bd), .val (.int sv), .val (.int da), .val (.int db), .val (.int dc), .val (.int dd)] []))) (fun t k => st57 t k) ?_
          have VT' : Arv Z T57.heap t3 k31 .int (3 : Int32) [(.int da), (.int db), (.int dc)] (.int (0 : Int32)) := by
            have q := VT
            simp only [f3, e3, f2, e2, own_small da0 da1] at q
            exact q
          obtain ⟨cl58, Ar58, Aq58, AS58, AN58, AH58, AG58⟩ := id VT'
          have at59 : cl58.slots[(0 : Int32).toNatClampNeg]? = some (.int da) := AH58 0 (by rw [AS58]; decide)
          have at60 : cl58.slots[(1 : Int32).toNatClampNeg]? = some (.int db) := AH58 1 (by rw [AS58]; decide)
          have at61 : cl58.slots[(2 : Int32).toNatClampNeg]? = some (.int dc) := AH58 2 (by rw [AS58]; decide)
          refine own_adv (B := (T57.setTop (mkF m 326 #[.val (.int p1), .val (.int p2), .val (.int p3), .val (.int p4), .val (.int p5), .val (.int p6), .val (.int len), .val (.ref t0), .val (.ref t1), .val (.ref t2), .val (.ref t3), .val (.ref t4), .val (.int bd), .val (.int sv), .val (.int da), .val (.int db), .val (.int dc), .val (.int dd)] [(.int (1 : Int32))]))) (fun t k => ?_) ?_
          · show Steps p.tables e below (T57.setTop (mkF m 294 #[.val (.int p1), .val (.int p2), .val (.int p3), .val (.int p4), .val (.int p5), .val (.int p6), .val (.int len), .val (.ref t0), .val (.ref t1), .val (.ref t2), .val (.ref t3), .val (.ref t4), .val (.int bd), .val (.int sv), .val (.int da), .val (.int db), .val (.int dc), .val (.int dd)] [])) _
            refine XS.aload X57.here hx rfl (hb hby at_294) rfl rfl ?_
            show Steps p.tables e below (T57.setTop (mkF m 296 #[.val (.int p1), .val (.int p2), .val (.int p3), .val (.int p4), .val (.int p5), .val (.int p6), .val (.int len), .val (.ref t0), .val (.ref t1), .val (.ref t2), .val (.ref t3), .val (.ref t4), .val (.int bd), .val (.int sv), .val (.int da), .val (.int db), .val (.int dc), .val (.int dd)] [(.ref t3)])) _
            refine XS.iconst X57.here hx rfl (hb hby at_296) ?_
            show Steps p.tables e below (T57.setTop (mkF m 297 #[.val (.int p1), .val (.int p2), .val (.int p3), .val (.int p4), .val (.int p5), .val (.int p6), .val (.int len), .val (.ref t0), .val (.ref t1), .val (.ref t2), .val (.ref t3), .val (.ref t4), .val (.int bd), .val (.int sv), .val (.int da), .val (.int db), .val (.int dc), .val (.int dd)] [(.int (0 : Int32)), (.ref t3)])) _
            refine X57.iaload hx (j := (0 : Int32)) (v := (.int da)) Ar58.1 (State.isArrayOf_alike hZ.alike Ar58.2.1) Ar58.2.2 (inb_of AS58 ⟨by decide, by decide⟩) at59 (g := (mkF m 297 #[.val (.int p1), .val (.int p2), .val (.int p3), .val (.int p4), .val (.int p5), .val (.int p6), .val (.int len), .val (.ref t0), .val (.ref t1), .val (.ref t2), .val (.ref t3), .val (.ref t4), .val (.int bd), .val (.int sv), .val (.int da), .val (.int db), .val (.int dc), .val (.int dd)] [(.int (0 : Int32)), (.ref t3)])) rfl rfl (hb hby at_297) _ ?_
            show Steps p.tables e below (T57.setTop (mkF m 298 #[.val (.int p1), .val (.int p2), .val (.int p3), .val (.int p4), .val (.int p5), .val (.int p6), .val (.int len), .val (.ref t0), .val (.ref t1), .val (.ref t2), .val (.ref t3), .val (.ref t4), .val (.int bd), .val (.int sv), .val (.int da), .val (.int db), .val (.int dc), .val (.int dd)] [(.int da)])) _
            refine XS.iload X57.here hx rfl (hb hby at_298) rfl ?_
            show Steps p.tables e below (T57.setTop (mkF m 300 #[.val (.int p1), .val (.int p2), .val (.int p3), .val (.int p4), .val (.int p5), .val (.int p6), .val (.int len), .val (.ref t0), .val (.ref t1), .val (.ref t2), .val (.ref t3), .val (.ref t4), .val (.int bd), .val (.int sv), .val (.int da), .val (.int db), .val (.int dc), .val (.int dd)] [(.int da), (.int da)])) _
            refine XS.icmpNo X57.here hx rfl (hb hby at_300) rfl (teq rfl).2 ?_
            show Steps p.tables e below (T57.setTop (mkF m 303 #[.val (.int p1), .val (.int p2), .val (.int p3), .val (.int p4), .val (.int p5), .val (.int p6), .val (.int len), .val (.ref t0), .val (.ref t1), .val (.ref t2), .val (.ref t3), .val (.ref t4), .val (.int bd), .val (.int sv), .val (.int da), .val (.int db), .val (.int dc), .val (.int dd)] [])) _
            refine XS.aload X57.here hx rfl (hb hby at_303) rfl rfl ?_
            show Steps p.tables e below (T57.setTop (mkF m 305 #[.val (.int p1), .val (.int p2), .val (.int p3), .val (.int p4), .val (.int p5), .val (.int p6), .val (.int len), .val (.ref t0), .val (.ref t1), .val (.ref t2), .val (.ref t3), .val (.ref t4), .val (.int bd), .val (.int sv), .val (.int da), .val (.int db), .val (.int dc), .val (.int dd)] [(.ref t3)])) _
            refine XS.iconst X57.here hx rfl (hb hby at_305) ?_
            show Steps p.tables e below (T57.setTop (mkF m 306 #[.val (.int p1), .val (.int p2), .val (.int p3), .val (.int p4), .val (.int p5), .val (.int p6), .val (.int len), .val (.ref t0), .val (.ref t1), .val (.ref t2), .val (.ref t3), .val (.ref t4), .val (.int bd), .val (.int sv), .val (.int da), .val (.int db), .val (.int dc), .val (.int dd)] [(.int (1 : Int32)), (.ref t3)])) _
            refine X57.iaload hx (j := (1 : Int32)) (v := (.int db)) Ar58.1 (State.isArrayOf_alike hZ.alike Ar58.2.1) Ar58.2.2 (inb_of AS58 ⟨by decide, by decide⟩) at60 (g := (mkF m 306 #[.val (.int p1), .val (.int p2), .val (.int p3), .val (.int p4), .val (.int p5), .val (.int p6), .val (.int len), .val (.ref t0), .val (.ref t1), .val (.ref t2), .val (.ref t3), .val (.ref t4), .val (.int bd), .val (.int sv), .val (.int da), .val (.int db), .val (.int dc), .val (.int dd)] [(.int (1 : Int32)), (.ref t3)])) rfl rfl (hb hby at_306) _ ?_
            show Steps p.tables e below (T57.setTop (mkF m 307 #[.val (.int p1), .val (.int p2), .val (.int p3), .val (.int p4), .val (.int p5), .val (.int p6), .val (.int len), .val (.ref t0), .val (.ref t1), .val (.ref t2), .val (.ref t3), .val (.ref t4), .val (.int bd), .val (.int sv), .val (.int da), .val (.int db), .val (.int dc), .val (.int dd)] [(.int db)])) _
            refine XS.iload X57.here hx rfl (hb hby at_307) rfl ?_
            show Steps p.tables e below (T57.setTop (mkF m 309 #[.val (.int p1), .val (.int p2), .val (.int p3), .val (.int p4), .val (.int p5), .val (.int p6), .val (.int len), .val (.ref t0), .val (.ref t1), .val (.ref t2), .val (.ref t3), .val (.ref t4), .val (.int bd), .val (.int sv), .val (.int da), .val (.int db), .val (.int dc), .val (.int dd)] [(.int db), (.int db)])) _
            refine XS.icmpNo X57.here hx rfl (hb hby at_309) rfl (teq rfl).2 ?_
            show Steps p.tables e below (T57.setTop (mkF m 312 #[.val (.int p1), .val (.int p2), .val (.int p3), .val (.int p4), .val (.int p5), .val (.int p6), .val (.int len), .val (.ref t0), .val (.ref t1), .val (.ref t2), .val (.ref t3), .val (.ref t4), .val (.int bd), .val (.int sv), .val (.int da), .val (.int db), .val (.int dc), .val (.int dd)] [])) _
            refine XS.aload X57.here hx rfl (hb hby at_312) rfl rfl ?_
            show Steps p.tables e below (T57.setTop (mkF m 314 #[.val (.int p1), .val (.int p2), .val (.int p3), .val (.int p4), .val (.int p5), .val (.int p6), .val (.int len), .val (.ref t0), .val (.ref t1), .val (.ref t2), .val (.ref t3), .val (.ref t4), .val (.int bd), .val (.int sv), .val (.int da), .val (.int db), .val (.int dc), .val (.int dd)] [(.ref t3)])) _
            refine XS.iconst X57.here hx rfl (hb hby at_314) ?_
            show Steps p.tables e below (T57.setTop (mkF m 315 #[.val (.int p1), .val (.int p2), .val (.int p3), .val (.int p4), .val (.int p5), .val (.int p6), .val (.int len), .val (.ref t0), .val (.ref t1), .val (.ref t2), .val (.ref t3), .val (.ref t4), .val (.int bd), .val (.int sv), .val (.int da), .val (.int db), .val (.int dc), .val (.int dd)] [(.int (2 : Int32)), (.ref t3)])) _
            refine X57.iaload hx (j := (2 : Int32)) (v := (.int dc)) Ar58.1 (State.isArrayOf_alike hZ.alike Ar58.2.1) Ar58.2.2 (inb_of AS58 ⟨by decide, by decide⟩) at61 (g := (mkF m 315 #[.val (.int p1), .val (.int p2), .val (.int p3), .val (.int p4), .val (.int p5), .val (.int p6), .val (.int len), .val (.ref t0), .val (.ref t1), .val (.ref t2), .val (.ref t3), .val (.ref t4), .val (.int bd), .val (.int sv), .val (.int da), .val (.int db), .val (.int dc), .val (.int dd)] [(.int (2 : Int32)), (.ref t3)])) rfl rfl (hb hby at_315) _ ?_
            show Steps p.tables e below (T57.setTop (mkF m 316 #[.val (.int p1), .val (.int p2), .val (.int p3), .val (.int p4), .val (.int p5), .val (.int p6), .val (.int len), .val (.ref t0), .val (.ref t1), .val (.ref t2), .val (.ref t3), .val (.ref t4), .val (.int bd), .val (.int sv), .val (.int da), .val (.int db), .val (.int dc), .val (.int dd)] [(.int dc)])) _
            refine XS.iload X57.here hx rfl (hb hby at_316) rfl ?_
            show Steps p.tables e below (T57.setTop (mkF m 318 #[.val (.int p1), .val (.int p2), .val (.int p3), .val (.int p4), .val (.int p5), .val (.int p6), .val (.int len), .val (.ref t0), .val (.ref t1), .val (.ref t2), .val (.ref t3), .val (.ref t4), .val (.int bd), .val (.int sv), .val (.int da), .val (.int db), .val (.int dc), .val (.int dd)] [(.int dc), (.int dc)])) _
            refine XS.icmpNo X57.here hx rfl (hb hby at_318) rfl (teq rfl).2 ?_
            show Steps p.tables e below (T57.setTop (mkF m 321 #[.val (.int p1), .val (.int p2), .val (.int p3), .val (.int p4), .val (.int p5), .val (.int p6), .val (.int len), .val (.ref t0), .val (.ref t1), .val (.ref t2), .val (.ref t3), .val (.ref t4), .val (.int bd), .val (.int sv), .val (.int da), .val (.int db), .val (.int dc), .val (.int dd)] [])) _
            refine XS.iconst X57.here hx rfl (hb hby at_321) ?_
            show Steps p.tables e below (T57.setTop (mkF m 322 #[.val (.int p1), .val (.int p2), .val (.int p3), .val (.int p4), .val (.int p5), .val (.int p6), .val (.int len), .val (.ref t0), .val (.ref t1), .val (.ref t2), .val (.ref t3), .val (.ref t4), .val (.int bd), .val (.int sv), .val (.int da), .val (.int db), .val (.int dc), .val (.int dd)] [(.int (1 : Int32))])) _
            refine XS.goto X57.here hx rfl (pc0 := 322) (pc' := 326) rfl (hb hby at_322) (by decide) (by decide) ?_
            exact k
          obtain ⟨fs, hr, hrun, hended, hW, hsame⟩ := X57.leave (v := some (.int (1 : Int32))) (fun h => by rw [Bd.returns] at h; cases h)
          refine ⟨_, _, ?_, hrun, hended, _, _, rfl, ?_, ⟨_, rfl⟩, hW, hsame.mono (by decide) (by decide)⟩
          · show Steps p.tables e below (T57.setTop (mkF m 326 #[.val (.int p1), .val (.int p2), .val (.int p3), .val (.int p4), .val (.int p5), .val (.int p6), .val (.int len), .val (.ref t0), .val (.ref t1), .val (.ref t2), .val (.ref t3), .val (.ref t4), .val (.int bd), .val (.int sv), .val (.int da), .val (.int db), .val (.int dc), .val (.int dd)] [(.int (1 : Int32))])) _
            exact retN X57 hx (t := .boolean) Bd.returns (by simp) (hb hby at_326) hr
          · show Q0 Z p1 p2 p3 p4 p5 p6 h0 n0 _ T57.heap _
            exact ⟨rfl, N57⟩
        · have hln : len = 4 := own_four hlen hl0 hl1 hl2 hl3
          have hcap : sv.toInt ≤ 215 := by
            rw [hbd, hln] at hs2
            exact hs2
          have c2 := own_bnd da0 da1 db0 db1 hs1
          obtain ⟨e2, f2, i2⟩ := own_dm hs1 da0 db0 db1 (own_cap4_2 hs1 hcap c2)
          have g2 : 0 ≤ ((da * sv) + db).toInt := by rw [i2]; exact own_nn da0 hs1 db0
          rw [← i2] at c2
          have c3 := own_bnd g2 c2 dc0 dc1 hs1
          obtain ⟨e3, f3, i3⟩ := own_dm hs1 g2 dc0 dc1 (own_cap4_3 hs1 hcap c3)
          have g3 : 0 ≤ ((((da * sv) + db) * sv) + dc).toInt := by rw [i3]; exact own_nn g2 hs1 dc0
          rw [← i3] at c3
          have c4 := own_bnd g3 c3 dd0 dd1 hs1
          obtain ⟨e4, f4, i4⟩ := own_dm hs1 g3 dd0 dd1 (own_cap4_4 hs1 hcap c4)
          refine own_adv (B := (T46.setTop (mkF m 351 #[.val (.int p1), .val (.int p2), .val (.int p3), .val (.int p4), .val (.int p5), .val (.int p6), .val (.int len), .val (.ref t0), .val (.ref t1), .val (.ref t2), .val (.ref t3), .val (.ref t4), .val (.int bd), .val (.int sv), .val (.int da), .val (.int db), .val (.int dc), .val (.int dd)] [(.ref t4), (.int sv), (.int ((((((da * sv) + db) * sv) + dc) * sv) + dd))]))) (fun t k => ?_) ?_
          · show Steps p.tables e below (T46.setTop (mkF m 270 #[.val (.int p1), .val (.int p2), .val (.int p3), .val (.int p4), .val (.int p5), .val (.int p6), .val (.int len), .val (.ref t0), .val (.ref t1), .val (.ref t2), .val (.ref t3), .val (.ref t4), .val (.int bd), .val (.int sv), .val (.int da), .val (.int db), .val (.int dc), .val (.int dd)] [(.int (3 : Int32)), (.int len)])) _
            refine XS.icmpYes X46.here hx rfl (pc0 := 270) (pc' := 327) rfl (hb hby at_270) rfl (feq hl3).2 (by decide) (by decide) ?_
            show Steps p.tables e below (T46.setTop (mkF m 327 #[.val (.int p1), .val (.int p2), .val (.int p3), .val (.int p4), .val (.int p5), .val (.int p6), .val (.int len), .val (.ref t0), .val (.ref t1), .val (.ref t2), .val (.ref t3), .val (.ref t4), .val (.int bd), .val (.int sv), .val (.int da), .val (.int db), .val (.int dc), .val (.int dd)] [])) _
            refine XS.iload X46.here hx rfl (hb hby at_327) rfl ?_
            show Steps p.tables e below (T46.setTop (mkF m 329 #[.val (.int p1), .val (.int p2), .val (.int p3), .val (.int p4), .val (.int p5), .val (.int p6), .val (.int len), .val (.ref t0), .val (.ref t1), .val (.ref t2), .val (.ref t3), .val (.ref t4), .val (.int bd), .val (.int sv), .val (.int da), .val (.int db), .val (.int dc), .val (.int dd)] [(.int da)])) _
            refine XS.iload X46.here hx rfl (hb hby at_329) rfl ?_
            show Steps p.tables e below (T46.setTop (mkF m 331 #[.val (.int p1), .val (.int p2), .val (.int p3), .val (.int p4), .val (.int p5), .val (.int p6), .val (.int len), .val (.ref t0), .val (.ref t1), .val (.ref t2), .val (.ref t3), .val (.ref t4), .val (.int bd), .val (.int sv), .val (.int da), .val (.int db), .val (.int dc), .val (.int dd)] [(.int sv), (.int da)])) _
            refine XS.imul X46.here hx rfl (hb hby at_331) rfl ?_
            show Steps p.tables e below (T46.setTop (mkF m 332 #[.val (.int p1), .val (.int p2), .val (.int p3), .val (.int p4), .val (.int p5), .val (.int p6), .val (.int len), .val (.ref t0), .val (.ref t1), .val (.ref t2), .val (.ref t3), .val (.ref t4), .val (.int bd), .val (.int sv), .val (.int da), .val (.int db), .val (.int dc), .val (.int dd)] [(.int (da * sv))])) _
            refine XS.iload X46.here hx rfl (hb hby at_332) rfl ?_
            show Steps p.tables e below (T46.setTop (mkF m 334 #[.val (.int p1), .val (.int p2), .val (.int p3), .val (.int p4), .val (.int p5), .val (.int p6), .val (.int len), .val (.ref t0), .val (.ref t1), .val (.ref t2), .val (.ref t3), .val (.ref t4), .val (.int bd), .val (.int sv), .val (.int da), .val (.int db), .val (.int dc), .val (.int dd)] [(.int db), (.int (da * sv))])) _
            refine XS.iadd X46.here hx rfl (hb hby at_334) rfl ?_
            show Steps p.tables e below (T46.setTop (mkF m 335 #[.val (.int p1), .val (.int p2), .val (.int p3), .val (.int p4), .val (.int p5), .val (.int p6), .val (.int len), .val (.ref t0), .val (.ref t1), .val (.ref t2), .val (.ref t3), .val (.ref t4), .val (.int bd), .val (.int sv), .val (.int da), .val (.int db), .val (.int dc), .val (.int dd)] [(.int ((da * sv) + db))])) _
            refine XS.iload X46.here hx rfl (hb hby at_335) rfl ?_
            show Steps p.tables e below (T46.setTop (mkF m 337 #[.val (.int p1), .val (.int p2), .val (.int p3), .val (.int p4), .val (.int p5), .val (.int p6), .val (.int len), .val (.ref t0), .val (.ref t1), .val (.ref t2), .val (.ref t3), .val (.ref t4), .val (.int bd), .val (.int sv), .val (.int da), .val (.int db), .val (.int dc), .val (.int dd)] [(.int sv), (.int ((da * sv) + db))])) _
            refine XS.imul X46.here hx rfl (hb hby at_337) rfl ?_
            show Steps p.tables e below (T46.setTop (mkF m 338 #[.val (.int p1), .val (.int p2), .val (.int p3), .val (.int p4), .val (.int p5), .val (.int p6), .val (.int len), .val (.ref t0), .val (.ref t1), .val (.ref t2), .val (.ref t3), .val (.ref t4), .val (.int bd), .val (.int sv), .val (.int da), .val (.int db), .val (.int dc), .val (.int dd)] [(.int (((da * sv) + db) * sv))])) _
            refine XS.iload X46.here hx rfl (hb hby at_338) rfl ?_
            show Steps p.tables e below (T46.setTop (mkF m 340 #[.val (.int p1), .val (.int p2), .val (.int p3), .val (.int p4), .val (.int p5), .val (.int p6), .val (.int len), .val (.ref t0), .val (.ref t1), .val (.ref t2), .val (.ref t3), .val (.ref t4), .val (.int bd), .val (.int sv), .val (.int da), .val (.int db), .val (.int dc), .val (.int dd)] [(.int dc), (.int (((da * sv) + db) * sv))])) _
            refine XS.iadd X46.here hx rfl (hb hby at_340) rfl ?_
            show Steps p.tables e below (T46.setTop (mkF m 341 #[.val (.int p1), .val (.int p2), .val (.int p3), .val (.int p4), .val (.int p5), .val (.int p6), .val (.int len), .val (.ref t0), .val (.ref t1), .val (.ref t2), .val (.ref t3), .val (.ref t4), .val (.int bd), .val (.int sv), .val (.int da), .val (.int db), .val (.int dc), .val (.int dd)] [(.int ((((da * sv) + db) * sv) + dc))])) _
            refine XS.iload X46.here hx rfl (hb hby at_341) rfl ?_
            show Steps p.tables e below (T46.setTop (mkF m 343 #[.val (.int p1), .val (.int p2), .val (.int p3), .val (.int p4), .val (.int p5), .val (.int p6), .val (.int len), .val (.ref t0), .val (.ref t1), .val (.ref t2), .val (.ref t3), .val (.ref t4), .val (.int bd), .val (.int sv), .val (.int da), .val (.int db), .val (.int dc), .val (.int dd)] [(.int sv), (.int ((((da * sv) + db) * sv) + dc))])) _
            refine XS.imul X46.here hx rfl (hb hby at_343) rfl ?_
            show Steps p.tables e below (T46.setTop (mkF m 344 #[.val (.int p1), .val (.int p2), .val (.int p3), .val (.int p4), .val (.int p5), .val (.int p6), .val (.int len), .val (.ref t0), .val (.ref t1), .val (.ref t2), .val (.ref t3), .val (.ref t4), .val (.int bd), .val (.int sv), .val (.int da), .val (.int db), .val (.int dc), .val (.int dd)] [(.int (((((da * sv) + db) * sv) + dc) * sv))])) _
            refine XS.iload X46.here hx rfl (hb hby at_344) rfl ?_
            show Steps p.tables e below (T46.setTop (mkF m 346 #[.val (.int p1), .val (.int p2), .val (.int p3), .val (.int p4), .val (.int p5), .val (.int p6), .val (.int len), .val (.ref t0), .val (.ref t1), .val (.ref t2), .val (.ref t3), .val (.ref t4), .val (.int bd), .val (.int sv), .val (.int da), .val (.int db), .val (.int dc), .val (.int dd)] [(.int dd), (.int (((((da * sv) + db) * sv) + dc) * sv))])) _
            refine XS.iadd X46.here hx rfl (hb hby at_346) rfl ?_
            show Steps p.tables e below (T46.setTop (mkF m 347 #[.val (.int p1), .val (.int p2), .val (.int p3), .val (.int p4), .val (.int p5), .val (.int p6), .val (.int len), .val (.ref t0), .val (.ref t1), .val (.ref t2), .val (.ref t3), .val (.ref t4), .val (.int bd), .val (.int sv), .val (.int da), .val (.int db), .val (.int dc), .val (.int dd)] [(.int ((((((da * sv) + db) * sv) + dc) * sv) + dd))])) _
            refine XS.iload X46.here hx rfl (hb hby at_347) rfl ?_
            show Steps p.tables e below (T46.setTop (mkF m 349 #[.val (.int p1), .val (.int p2), .val (.int p3), .val (.int p4), .val (.int p5), .val (.int p6), .val (.int len), .val (.ref t0), .val (.ref t1), .val (.ref t2), .val (.ref t3), .val (.ref t4), .val (.int bd), .val (.int sv), .val (.int da), .val (.int db), .val (.int dc), .val (.int dd)] [(.int sv), (.int ((((((da * sv) + db) * sv) + dc) * sv) + dd))])) _
            refine XS.aload X46.here hx rfl (hb hby at_349) rfl rfl ?_
            exact k
          obtain ⟨_, _, ⟨T62, L62, k62, n62⟩, -, X62, ⟨Lc62, hQ62, l62, y62, z62⟩, st62⟩ := Jvm.LawKit.callS X46 hx (y := (⟨"com/example/grovebra/grovebra/TreeAlgebra", "tupleAt", "(II[I)V"⟩ : MethodName)) hown (mvT hZ (hw _ (List.mem_of_getElem? (i := 2) rfl))) (mvT hZ (hw _ (List.mem_of_getElem? (i := 3) rfl))) (mvT hZ (hw _ (List.mem_of_getElem? (i := 4) rfl))) (mvT hZ (hw _ (List.mem_of_getElem? (i := 5) rfl))) (by decide) (backOf (W := 0) (rm1_4 l Z a0 hw [] ((((((da * sv) + db) * sv) + dc) * sv) + dd) sv t4 p1 p1 p1 p1 k38 h46 n0 ZZ46 Vt4_46 hsn g_t4) hZ (hw _ (List.mem_of_getElem? (i := 5) rfl)) (hw _ (List.mem_of_getElem? (i := 4) rfl)) (by decide) (by decide)) (g := (mkF m 351 #[.val (.int p1), .val (.int p2), .val (.int p3), .val (.int p4), .val (.int p5), .val (.int p6), .val (.int len), .val (.ref t0), .val (.ref t1), .val (.ref t2), .val (.ref t3), .val (.ref t4), .val (.int bd), .val (.int sv), .val (.int da), .val (.int db), .val (.int dc), .val (.int dd)] [(.ref t4), (.int sv), (.int ((((((da * sv) + db) * sv) + dc) * sv) + dd))])) rfl (by rw [hml]; rfl) (argsL := [(.int ((((((da * sv) + db) * sv) + dc) * sv) + dd)), (.int sv), (.ref t4)]) (rest := []) (lenOf pd_0 rfl) rfl (by show 2 * 0 + _ ≤ _; exact Nat.le_of_eq rfl) (hb hby at_351) (fun _ _ => ⟨rfl, e46, (by decide : 5 + 0 ≤ _), (by decide : 10 + 0 ≤ _)⟩)
          dsimp only [Pt.U, Pt.locs, Pt.cells, Pt.slots] at X62 l62 y62 z62 st62 hQ62
          subst l62 y62 z62
          obtain ⟨rfl, N62q, S62, VT⟩ := hQ62
          have N62 := Fr.app N46 N62q
          refine own_adv (B := (T62.setTop (mkF m 354 #[.val (.int p1), .val (.int p2), .val (.int p3), .val (.int p4), .val (.int p5), .val (.int p6), .val (.int len), .val (.ref t0), .val (.ref t1), .val (.ref t2), .val (.ref t3), .val (.ref t4), .val (.int bd), .val (.int sv), .val (.int da), .val (.int db), .val (.int dc), .val (.int dd)] []))) (fun t k => st62 t k) ?_
          have VT' : Arv Z T62.heap t4 k38 .int (4 : Int32) [(.int da), (.int db), (.int dc), (.int dd)] (.int (0 : Int32)) := by
            have q := VT
            simp only [f4, e4, f3, e3, f2, e2, own_small da0 da1] at q
            exact q
          obtain ⟨cl63, Ar63, Aq63, AS63, AN63, AH63, AG63⟩ := id VT'
          have at64 : cl63.slots[(0 : Int32).toNatClampNeg]? = some (.int da) := AH63 0 (by rw [AS63]; decide)
          have at65 : cl63.slots[(1 : Int32).toNatClampNeg]? = some (.int db) := AH63 1 (by rw [AS63]; decide)
          have at66 : cl63.slots[(2 : Int32).toNatClampNeg]? = some (.int dc) := AH63 2 (by rw [AS63]; decide)
          have at67 : cl63.slots[(3 : Int32).toNatClampNeg]? = some (.int dd) := AH63 3 (by rw [AS63]; decide)
          refine own_adv (B := (T62.setTop (mkF m 395 #[.val (.int p1), .val (.int p2), .val (.int p3), .val (.int p4), .val (.int p5), .val (.int p6), .val (.int len), .val (.ref t0), .val (.ref t1), .val (.ref t2), .val (.ref t3), .val (.ref t4), .val (.int bd), .val (.int sv), .val (.int da), .val (.int db), .val (.int dc), .val (.int dd)] [(.int (1 : Int32))]))) (fun t k => ?_) ?_
          · show Steps p.tables e below (T62.setTop (mkF m 354 #[.val (.int p1), .val (.int p2), .val (.int p3), .val (.int p4), .val (.int p5), .val (.int p6), .val (.int len), .val (.ref t0), .val (.ref t1), .val (.ref t2), .val (.ref t3), .val (.ref t4), .val (.int bd), .val (.int sv), .val (.int da), .val (.int db), .val (.int dc), .val (.int dd)] [])) _
            refine XS.aload X62.here hx rfl (hb hby at_354) rfl rfl ?_
            show Steps p.tables e below (T62.setTop (mkF m 356 #[.val (.int p1), .val (.int p2), .val (.int p3), .val (.int p4), .val (.int p5), .val (.int p6), .val (.int len), .val (.ref t0), .val (.ref t1), .val (.ref t2), .val (.ref t3), .val (.ref t4), .val (.int bd), .val (.int sv), .val (.int da), .val (.int db), .val (.int dc), .val (.int dd)] [(.ref t4)])) _
            refine XS.iconst X62.here hx rfl (hb hby at_356) ?_
            show Steps p.tables e below (T62.setTop (mkF m 357 #[.val (.int p1), .val (.int p2), .val (.int p3), .val (.int p4), .val (.int p5), .val (.int p6), .val (.int len), .val (.ref t0), .val (.ref t1), .val (.ref t2), .val (.ref t3), .val (.ref t4), .val (.int bd), .val (.int sv), .val (.int da), .val (.int db), .val (.int dc), .val (.int dd)] [(.int (0 : Int32)), (.ref t4)])) _
            refine X62.iaload hx (j := (0 : Int32)) (v := (.int da)) Ar63.1 (State.isArrayOf_alike hZ.alike Ar63.2.1) Ar63.2.2 (inb_of AS63 ⟨by decide, by decide⟩) at64 (g := (mkF m 357 #[.val (.int p1), .val (.int p2), .val (.int p3), .val (.int p4), .val (.int p5), .val (.int p6), .val (.int len), .val (.ref t0), .val (.ref t1), .val (.ref t2), .val (.ref t3), .val (.ref t4), .val (.int bd), .val (.int sv), .val (.int da), .val (.int db), .val (.int dc), .val (.int dd)] [(.int (0 : Int32)), (.ref t4)])) rfl rfl (hb hby at_357) _ ?_
            show Steps p.tables e below (T62.setTop (mkF m 358 #[.val (.int p1), .val (.int p2), .val (.int p3), .val (.int p4), .val (.int p5), .val (.int p6), .val (.int len), .val (.ref t0), .val (.ref t1), .val (.ref t2), .val (.ref t3), .val (.ref t4), .val (.int bd), .val (.int sv), .val (.int da), .val (.int db), .val (.int dc), .val (.int dd)] [(.int da)])) _
            refine XS.iload X62.here hx rfl (hb hby at_358) rfl ?_
            show Steps p.tables e below (T62.setTop (mkF m 360 #[.val (.int p1), .val (.int p2), .val (.int p3), .val (.int p4), .val (.int p5), .val (.int p6), .val (.int len), .val (.ref t0), .val (.ref t1), .val (.ref t2), .val (.ref t3), .val (.ref t4), .val (.int bd), .val (.int sv), .val (.int da), .val (.int db), .val (.int dc), .val (.int dd)] [(.int da), (.int da)])) _
            refine XS.icmpNo X62.here hx rfl (hb hby at_360) rfl (teq rfl).2 ?_
            show Steps p.tables e below (T62.setTop (mkF m 363 #[.val (.int p1), .val (.int p2), .val (.int p3), .val (.int p4), .val (.int p5), .val (.int p6), .val (.int len), .val (.ref t0), .val (.ref t1), .val (.ref t2), .val (.ref t3), .val (.ref t4), .val (.int bd), .val (.int sv), .val (.int da), .val (.int db), .val (.int dc), .val (.int dd)] [])) _
            refine XS.aload X62.here hx rfl (hb hby at_363) rfl rfl ?_
            show Steps p.tables e below (T62.setTop (mkF m 365 #[.val (.int p1), .val (.int p2), .val (.int p3), .val (.int p4), .val (.int p5), .val (.int p6), .val (.int len), .val (.ref t0), .val (.ref t1), .val (.ref t2), .val (.ref t3), .val (.ref t4), .val (.int bd), .val (.int sv), .val (.int da), .val (.int db), .val (.int dc), .val (.int dd)] [(.ref t4)])) _
            refine XS.iconst X62.here hx rfl (hb hby at_365) ?_
            show Steps p.tables e below (T62.setTop (mkF m 366 #[.val (.int p1), .val (.int p2), .val (.int p3), .val (.int p4), .val (.int p5), .val (.int p6), .val (.int len), .val (.ref t0), .val (.ref t1), .val (.ref t2), .val (.ref t3), .val (.ref t4), .val (.int bd), .val (.int sv), .val (.int da), .val (.int db), .val (.int dc), .val (.int dd)] [(.int (1 : Int32)), (.ref t4)])) _
            refine X62.iaload hx (j := (1 : Int32)) (v := (.int db)) Ar63.1 (State.isArrayOf_alike hZ.alike Ar63.2.1) Ar63.2.2 (inb_of AS63 ⟨by decide, by decide⟩) at65 (g := (mkF m 366 #[.val (.int p1), .val (.int p2), .val (.int p3), .val (.int p4), .val (.int p5), .val (.int p6), .val (.int len), .val (.ref t0), .val (.ref t1), .val (.ref t2), .val (.ref t3), .val (.ref t4), .val (.int bd), .val (.int sv), .val (.int da), .val (.int db), .val (.int dc), .val (.int dd)] [(.int (1 : Int32)), (.ref t4)])) rfl rfl (hb hby at_366) _ ?_
            show Steps p.tables e below (T62.setTop (mkF m 367 #[.val (.int p1), .val (.int p2), .val (.int p3), .val (.int p4), .val (.int p5), .val (.int p6), .val (.int len), .val (.ref t0), .val (.ref t1), .val (.ref t2), .val (.ref t3), .val (.ref t4), .val (.int bd), .val (.int sv), .val (.int da), .val (.int db), .val (.int dc), .val (.int dd)] [(.int db)])) _
            refine XS.iload X62.here hx rfl (hb hby at_367) rfl ?_
            show Steps p.tables e below (T62.setTop (mkF m 369 #[.val (.int p1), .val (.int p2), .val (.int p3), .val (.int p4), .val (.int p5), .val (.int p6), .val (.int len), .val (.ref t0), .val (.ref t1), .val (.ref t2), .val (.ref t3), .val (.ref t4), .val (.int bd), .val (.int sv), .val (.int da), .val (.int db), .val (.int dc), .val (.int dd)] [(.int db), (.int db)])) _
            refine XS.icmpNo X62.here hx rfl (hb hby at_369) rfl (teq rfl).2 ?_
            show Steps p.tables e below (T62.setTop (mkF m 372 #[.val (.int p1), .val (.int p2), .val (.int p3), .val (.int p4), .val (.int p5), .val (.int p6), .val (.int len), .val (.ref t0), .val (.ref t1), .val (.ref t2), .val (.ref t3), .val (.ref t4), .val (.int bd), .val (.int sv), .val (.int da), .val (.int db), .val (.int dc), .val (.int dd)] [])) _
            refine XS.aload X62.here hx rfl (hb hby at_372) rfl rfl ?_
            show Steps p.tables e below (T62.setTop (mkF m 374 #[.val (.int p1), .val (.int p2), .val (.int p3), .val (.int p4), .val (.int p5), .val (.int p6), .val (.int len), .val (.ref t0), .val (.ref t1), .val (.ref t2), .val (.ref t3), .val (.ref t4), .val (.int bd), .val (.int sv), .val (.int da), .val (.int db), .val (.int dc), .val (.int dd)] [(.ref t4)])) _
            refine XS.iconst X62.here hx rfl (hb hby at_374) ?_
            show Steps p.tables e below (T62.setTop (mkF m 375 #[.val (.int p1), .val (.int p2), .val (.int p3), .val (.int p4), .val (.int p5), .val (.int p6), .val (.int len), .val (.ref t0), .val (.ref t1), .val (.ref t2), .val (.ref t3), .val (.ref t4), .val (.int bd), .val (.int sv), .val (.int da), .val (.int db), .val (.int dc), .val (.int dd)] [(.int (2 : Int32)), (.ref t4)])) _
            refine X62.iaload hx (j := (2 : Int32)) (v := (.int dc)) Ar63.1 (State.isArrayOf_alike hZ.alike Ar63.2.1) Ar63.2.2 (inb_of AS63 ⟨by decide, by decide⟩) at66 (g := (mkF m 375 #[.val (.int p1), .val (.int p2), .val (.int p3), .val (.int p4), .val (.int p5), .val (.int p6), .val (.int len), .val (.ref t0), .val (.ref t1), .val (.ref t2), .val (.ref t3), .val (.ref t4), .val (.int bd), .val (.int sv), .val (.int da), .val (.int db), .val (.int dc), .val (.int dd)] [(.int (2 : Int32)), (.ref t4)])) rfl rfl (hb hby at_375) _ ?_
            show Steps p.tables e below (T62.setTop (mkF m 376 #[.val (.int p1), .val (.int p2), .val (.int p3), .val (.int p4), .val (.int p5), .val (.int p6), .val (.int len), .val (.ref t0), .val (.ref t1), .val (.ref t2), .val (.ref t3), .val (.ref t4), .val (.int bd), .val (.int sv), .val (.int da), .val (.int db), .val (.int dc), .val (.int dd)] [(.int dc)])) _
            refine XS.iload X62.here hx rfl (hb hby at_376) rfl ?_
            show Steps p.tables e below (T62.setTop (mkF m 378 #[.val (.int p1), .val (.int p2), .val (.int p3), .val (.int p4), .val (.int p5), .val (.int p6), .val (.int len), .val (.ref t0), .val (.ref t1), .val (.ref t2), .val (.ref t3), .val (.ref t4), .val (.int bd), .val (.int sv), .val (.int da), .val (.int db), .val (.int dc), .val (.int dd)] [(.int dc), (.int dc)])) _
            refine XS.icmpNo X62.here hx rfl (hb hby at_378) rfl (teq rfl).2 ?_
            show Steps p.tables e below (T62.setTop (mkF m 381 #[.val (.int p1), .val (.int p2), .val (.int p3), .val (.int p4), .val (.int p5), .val (.int p6), .val (.int len), .val (.ref t0), .val (.ref t1), .val (.ref t2), .val (.ref t3), .val (.ref t4), .val (.int bd), .val (.int sv), .val (.int da), .val (.int db), .val (.int dc), .val (.int dd)] [])) _
            refine XS.aload X62.here hx rfl (hb hby at_381) rfl rfl ?_
            show Steps p.tables e below (T62.setTop (mkF m 383 #[.val (.int p1), .val (.int p2), .val (.int p3), .val (.int p4), .val (.int p5), .val (.int p6), .val (.int len), .val (.ref t0), .val (.ref t1), .val (.ref t2), .val (.ref t3), .val (.ref t4), .val (.int bd), .val (.int sv), .val (.int da), .val (.int db), .val (.int dc), .val (.int dd)] [(.ref t4)])) _
            refine XS.iconst X62.here hx rfl (hb hby at_383) ?_
            show Steps p.tables e below (T62.setTop (mkF m 384 #[.val (.int p1), .val (.int p2), .val (.int p3), .val (.int p4), .val (.int p5), .val (.int p6), .val (.int len), .val (.ref t0), .val (.ref t1), .val (.ref t2), .val (.ref t3), .val (.ref t4), .val (.int bd), .val (.int sv), .val (.int da), .val (.int db), .val (.int dc), .val (.int dd)] [(.int (3 : Int32)), (.ref t4)])) _
            refine X62.iaload hx (j := (3 : Int32)) (v := (.int dd)) Ar63.1 (State.isArrayOf_alike hZ.alike Ar63.2.1) Ar63.2.2 (inb_of AS63 ⟨by decide, by decide⟩) at67 (g := (mkF m 384 #[.val (.int p1), .val (.int p2), .val (.int p3), .val (.int p4), .val (.int p5), .val (.int p6), .val (.int len), .val (.ref t0), .val (.ref t1), .val (.ref t2), .val (.ref t3), .val (.ref t4), .val (.int bd), .val (.int sv), .val (.int da), .val (.int db), .val (.int dc), .val (.int dd)] [(.int (3 : Int32)), (.ref t4)])) rfl rfl (hb hby at_384) _ ?_
            show Steps p.tables e below (T62.setTop (mkF m 385 #[.val (.int p1), .val (.int p2), .val (.int p3), .val (.int p4), .val (.int p5), .val (.int p6), .val (.int len), .val (.ref t0), .val (.ref t1), .val (.ref t2), .val (.ref t3), .val (.ref t4), .val (.int bd), .val (.int sv), .val (.int da), .val (.int db), .val (.int dc), .val (.int dd)] [(.int dd)])) _
            refine XS.iload X62.here hx rfl (hb hby at_385) rfl ?_
            show Steps p.tables e below (T62.setTop (mkF m 387 #[.val (.int p1), .val (.int p2), .val (.int p3), .val (.int p4), .val (.int p5), .val (.int p6), .val (.int len), .val (.ref t0), .val (.ref t1), .val (.ref t2), .val (.ref t3), .val (.ref t4), .val (.int bd), .val (.int sv), .val (.int da), .val (.int db), .val (.int dc), .val (.int dd)] [(.int dd), (.int dd)])) _
            refine XS.icmpNo X62.here hx rfl (hb hby at_387) rfl (teq rfl).2 ?_
            show Steps p.tables e below (T62.setTop (mkF m 390 #[.val (.int p1), .val (.int p2), .val (.int p3), .val (.int p4), .val (.int p5), .val (.int p6), .val (.int len), .val (.ref t0), .val (.ref t1), .val (.ref t2), .val (.ref t3), .val (.ref t4), .val (.int bd), .val (.int sv), .val (.int da), .val (.int db), .val (.int dc), .val (.int dd)] [])) _
            refine XS.iconst X62.here hx rfl (hb hby at_390) ?_
            show Steps p.tables e below (T62.setTop (mkF m 391 #[.val (.int p1), .val (.int p2), .val (.int p3), .val (.int p4), .val (.int p5), .val (.int p6), .val (.int len), .val (.ref t0), .val (.ref t1), .val (.ref t2), .val (.ref t3), .val (.ref t4), .val (.int bd), .val (.int sv), .val (.int da), .val (.int db), .val (.int dc), .val (.int dd)] [(.int (1 : Int32))])) _
            refine XS.goto X62.here hx rfl (pc0 := 391) (pc' := 395) rfl (hb hby at_391) (by decide) (by decide) ?_
            exact k
          obtain ⟨fs, hr, hrun, hended, hW, hsame⟩ := X62.leave (v := some (.int (1 : Int32))) (fun h => by rw [Bd.returns] at h; cases h)
          refine ⟨_, _, ?_, hrun, hended, _, _, rfl, ?_, ⟨_, rfl⟩, hW, hsame.mono (by decide) (by decide)⟩
          · show Steps p.tables e below (T62.setTop (mkF m 395 #[.val (.int p1), .val (.int p2), .val (.int p3), .val (.int p4), .val (.int p5), .val (.int p6), .val (.int len), .val (.ref t0), .val (.ref t1), .val (.ref t2), .val (.ref t3), .val (.ref t4), .val (.int bd), .val (.int sv), .val (.int da), .val (.int db), .val (.int dc), .val (.int dd)] [(.int (1 : Int32))])) _
            exact retN X62 hx (t := .boolean) Bd.returns (by simp) (hb hby at_395) hr
          · show Q0 Z p1 p2 p3 p4 p5 p6 h0 n0 _ T62.heap _
            exact ⟨rfl, N62⟩
set_option maxRecDepth 65536 in
set_option maxHeartbeats 40000000 in
theorem comes_1 {Post : Tables → Env → Array Value → State → Outcome → State → Prop} (hpost : ∀ tb e args s v u, (limb_1_1.after args s (.returned v) u = true ∧ limb_1_2.after args s (.returned v) u = true ∧ True) → FrameEnd s (.returned v) u (Jvm.fieldLocs frame_1_writes args s ++ Jvm.arrayLocs frame_1_arrays args s ++ Jvm.staticLocs frame_1_statics s) 24 128 → Post tb e args s (.returned v) u) :
    ArmFor flags0 classFile x code maxLocals ret World_1 tables_1 room_1 Calls_1 rest_1 Pre_1 Post := by
  intro l hfl _ _ p e ha hc hk s m args below hf hA hF happ hP
  obtain ⟨hcalls, hrest, hpre⟩ := hP
  obtain ⟨-, -, -, hnamed, -, -, -, hat⟩ := (Spec.applies_iff hf).mp happ
  obtain ⟨hg, hn⟩ := and_e (Cond.before_iff.mp (show (Jvm.Cond.and given_1 narrow_1).before args s = true from hpre))
  obtain ⟨gc, gr0⟩ := and_e hg
  obtain ⟨ga0, gr1⟩ := and_e gr0
  obtain ⟨ga1, gr2⟩ := and_e gr1
  obtain ⟨ga2, gr3⟩ := and_e gr2
  obtain ⟨ga3, gr4⟩ := and_e gr3
  obtain ⟨ga4, gr5⟩ := and_e gr4
  obtain ⟨w0, w1, w2, w3, w4, w5, rfl⟩ : ∃ w0 w1 w2 w3 w4 w5 : Value, args = #[w0, w1, w2, w3, w4, w5] := by
    have hs : args.size = 6 := by simpa [Cond.value, given_1] using gc
    obtain ⟨L⟩ := args
    match L, hs with
    | [w0, w1, w2, w3, w4, w5], _ => exact ⟨w0, w1, w2, w3, w4, w5, rfl⟩
  have hw := fun d (hd : d ∈ tables_1) => atoms_spec (ws := Jvm.Cond.code x code maxLocals ret :: tables_1) hat d (List.mem_cons_of_mem _ hd)
  obtain ⟨i0, ei0⟩ := is_v ga0
  obtain rfl : w0 = (.int i0) := Option.some.inj ei0
  obtain ⟨i1, ei1⟩ := is_v ga1
  obtain rfl : w1 = (.int i1) := Option.some.inj ei1
  obtain ⟨i2, ei2⟩ := is_v ga2
  obtain rfl : w2 = (.int i2) := Option.some.inj ei2
  obtain ⟨i3, ei3⟩ := is_v ga3
  obtain rfl : w3 = (.int i3) := Option.some.inj ei3
  obtain ⟨i4, ei4⟩ := is_v ga4
  obtain rfl : w4 = (.int i4) := Option.some.inj ei4
  obtain ⟨i5, ei5⟩ := is_v gr5
  obtain rfl : w5 = (.int i5) := Option.some.inj ei5
  obtain ⟨n, o, h1, h2, h3, _, L, rfl, ⟨rfl, N⟩, hq⟩ := rm0 l s _ hw tables_1 i0 i1 i2 i3 i4 i5 s.heap s.heap.size (Nat.le_refl _) p e ha hc hk s m _ below hf ((Spec.applies_iff_loose hf).mp happ).1 ⟨rfl, State.Warmed39.refl s, rfl⟩ trivial
  refine ⟨n, _, h1, h2, h3, hpost _ _ _ _ _ _ ⟨Cond.after_iff.mpr rfl, Cond.after_iff.mpr (eq_i res_at (Term.int_eval (1)) rfl), trivial⟩ ⟨hq.1, hq.2.1, (hq.2.2.sift fun y hy => Or.inr (N y hy)).mono (by decide) (by decide)⟩⟩
theorem main_1_1 : Claimed_1_1 := comes_1 fun _ _ _ _ _ _ h hF => ⟨h.1, hF⟩
theorem main_1_2 : Claimed_1_2 := comes_1 fun _ _ _ _ _ _ h hF => ⟨h.2.1, hF⟩
end Jvm.Pilot.@@N@@
namespace Jvm.Pilot.@@N@@
open Jvm Jvm.ClassFile Sem Op Lib Jvm.Free Jvm.Stand Jvm.Pilot.@@N@@.Jvm.D
/-! MADE BY PROGRAM (witnessworld.py) out of the Statement's table words and the real class files: 9 classes; the members and pool entries that the words name. The judged class is class 1, her method 1. -/
namespace start1
open Jvm.ClassFile
def u (s : String) : CpInfo := .utf8 (stringToUtf16 s)
/-- a pool by its gaps: so many unusable entries, then the entry; so many at the end -/
def gap : Nat → List CpInfo → List CpInfo
  | 0, r => r
  | n + 1, r => .unusable :: gap n r
def poolList (es : List (Nat × CpInfo)) (last : Nat) : List CpInfo := es.foldr (fun e r => gap e.1 (e.2 :: r)) (gap last [])
def pool (es : List (Nat × CpInfo)) (last : Nat) : Array CpInfo := ⟨poolList es last⟩
def fileOf (pool : Array CpInfo) (this : Nat) (attrs : Array Attribute := #[]) (ms : Array MethodInfo := #[]) (fl : Nat := 33) (sup : Nat := 0) (ifs : Array Nat := #[]) (fds : Array FieldInfo := #[]) : ClassFile where
  minorVersion := 0
  majorVersion := 65
  constantPool := pool
  accessFlags := fl
  thisClass := this
  superClass := sup
  interfaces := ifs
  fields := fds
  methods := ms
  attributes := attrs
def plain (name : String) (sup : Option ClassId) : Class where
  name := name
  kind := .ordinary
  loader := none
  accessFlags := 33
  super := sup
  interfaces := #[]
  cf := none
  fields := #[]
  methods := #[]
  instanceTypes := #[]
  staticTypes := #[]
  resolved := #[]
  callSites := []
  init := .initialized
  statics := none
  mirror := none

def pool0 : Array CpInfo := pool [(5, u "<init>"), (0, u "()V"), (1, .class_ 10), (1, u "java/lang/Object")] 113

def k0m0 : Method := { name := "<init>", desc := "()V", sig := { parameters := [], returnType := none }, accessFlags := 1, code := none }
/-- java/lang/Object -/
def k0 : Class := { plain "java/lang/Object" none with
  accessFlags := 33
  interfaces := #[]
  cf := some (fileOf pool0 8 #[] #[{ accessFlags := 1, nameIndex := 5, descriptorIndex := 6, attributes := #[] }] 33 0 #[] #[])
  fields := #[]
  methods := #[k0m0]
  instanceTypes := #[]
  staticTypes := #[]
  resolved := Array.replicate 124 none
  statics := none }

def pool1 : Array CpInfo := pool [(2, .class_ 4), (1, u "java/lang/Object"), (0, u "<init>"), (0, u "()V"), (0, .integer 2147483647), (0, .integer 46340), (2, .methodref 12 13), (0, .class_ 14), (0, .nameAndType 15 16), (0, u "com/example/grovebra/grovebra/TreeAlgebra"), (0, u "tupleAt"), (0, u "(II[I)V"), (0, .class_ 18), (0, u "com/example/grovebra/grovebra/TreeAlgebraTupleAtPinLaw"), (2, u "law"), (0, u "(IIIIII)Z")] 5

def k1m0 : Method := { name := "<init>", desc := "()V", sig := { parameters := [], returnType := none }, accessFlags := 1, code := none }
def k1c1 : Code := { maxStack := 4, maxLocals := 18, code := code, exceptionTable := #[], attributes := #[] }
def k1m1 : Method := { name := "law", desc := "(IIIIII)Z", sig := { parameters := [.int, .int, .int, .int, .int, .int], returnType := some .boolean }, accessFlags := 9, code := some k1c1 }
/-- com/example/grovebra/grovebra/TreeAlgebraTupleAtPinLaw -/
def k1 : Class := { plain "com/example/grovebra/grovebra/TreeAlgebraTupleAtPinLaw" (some 0) with
  accessFlags := 49
  interfaces := #[]
  cf := some (fileOf pool1 17 #[] #[{ accessFlags := 1, nameIndex := 5, descriptorIndex := 6, attributes := #[] }, { accessFlags := 9, nameIndex := 21, descriptorIndex := 22, attributes := #[] }] 49 2 #[] #[])
  fields := #[]
  methods := #[k1m0, k1m1]
  instanceTypes := #[]
  staticTypes := #[]
  resolved := Array.replicate 28 none
  statics := none }

def pool2 : Array CpInfo := pool [(2, .class_ 4), (1, u "java/lang/Object"), (6, .class_ 13), (1, u "com/example/grovebra/grovebra/TreeAlgebra"), (0, u "symbols"), (0, u "Ljava/util/Map;"), (2, u "arities"), (2, u "arityOf"), (0, u "[I"), (2, u "names"), (0, u "Ljava/util/List;"), (2, u "least"), (0, u "[Lcom/example/grovebra/grovebra/TreeAlgebra$Derivation;"), (1, .class_ 34), (1, u "com/example/grovebra/grovebra/TreeAlgebra$Deterministic"), (4, u "size"), (0, u "I"), (2, u "tables"), (3, u "[[I"), (2, u "accepting"), (3, u "[Z"), (101, .class_ 158), (1, u "com/example/grovebra/grovebra/TreeAlgebra$Settlement"), (137, .class_ 297), (0, u "com/example/grovebra/grovebra/TreeAlgebra$Derivation"), (44, u "tupleAt"), (0, u "(II[I)V"), (45, .class_ 391), (1, u "com/example/grovebra/grovebra/TreeAlgebra$TransitionAction")] 197

def k2c0 : Code := { maxStack := 4, maxLocals := 5, code := prog_45_method_12_code, exceptionTable := #[], attributes := #[] }
def k2m0 : Method := { name := "tupleAt", desc := "(II[I)V", sig := { parameters := [.int, .int, (.array .int)], returnType := none }, accessFlags := 8, code := some k2c0 }
/-- com/example/grovebra/grovebra/TreeAlgebra -/
def k2 : Class := { plain "com/example/grovebra/grovebra/TreeAlgebra" (some 0) with
  accessFlags := 49
  interfaces := #[]
  cf := some (fileOf pool2 11 #[.nestMembers #[32, 389, 156, 296]] #[{ accessFlags := 8, nameIndex := 342, descriptorIndex := 343, attributes := #[] }] 49 2 #[] #[{ accessFlags := 18, nameIndex := 18, descriptorIndex := 15, attributes := #[] }, { accessFlags := 18, nameIndex := 14, descriptorIndex := 15, attributes := #[] }, { accessFlags := 18, nameIndex := 21, descriptorIndex := 22, attributes := #[] }, { accessFlags := 18, nameIndex := 39, descriptorIndex := 40, attributes := #[] }, { accessFlags := 18, nameIndex := 43, descriptorIndex := 47, attributes := #[] }, { accessFlags := 18, nameIndex := 50, descriptorIndex := 54, attributes := #[] }, { accessFlags := 18, nameIndex := 25, descriptorIndex := 26, attributes := #[] }, { accessFlags := 18, nameIndex := 29, descriptorIndex := 30, attributes := #[] }])
  fields := #[{ name := "arities", type := (.object "java/util/Map"), accessFlags := 18, slot := 0, constantValue := 0 }, { name := "symbols", type := (.object "java/util/Map"), accessFlags := 18, slot := 1, constantValue := 0 }, { name := "arityOf", type := (.array .int), accessFlags := 18, slot := 2, constantValue := 0 }, { name := "size", type := .int, accessFlags := 18, slot := 3, constantValue := 0 }, { name := "tables", type := (.array (.array .int)), accessFlags := 18, slot := 4, constantValue := 0 }, { name := "accepting", type := (.array .boolean), accessFlags := 18, slot := 5, constantValue := 0 }, { name := "names", type := (.object "java/util/List"), accessFlags := 18, slot := 6, constantValue := 0 }, { name := "least", type := (.array (.object "com/example/grovebra/grovebra/TreeAlgebra$Derivation")), accessFlags := 18, slot := 7, constantValue := 0 }]
  methods := #[k2m0]
  instanceTypes := #[(.object "java/util/Map"), (.object "java/util/Map"), (.array .int), .int, (.array (.array .int)), (.array .boolean), (.object "java/util/List"), (.array (.object "com/example/grovebra/grovebra/TreeAlgebra$Derivation"))]
  staticTypes := #[]
  resolved := Array.replicate 589 none
  statics := none }

def pool3 : Array CpInfo := pool [(1, u "java/lang/Cloneable"), (0, .class_ 1), (0, u "java/lang/Object"), (0, .class_ 3)] 3

/-- java/lang/Cloneable -/
def k3 : Class := { plain "java/lang/Cloneable" (some 0) with
  accessFlags := 1537
  interfaces := #[]
  cf := some (fileOf pool3 2 #[] #[] 1537 4 #[] #[])
  fields := #[]
  methods := #[]
  instanceTypes := #[]
  staticTypes := #[]
  resolved := Array.replicate 8 none
  statics := none }

def pool4 : Array CpInfo := pool [(1, u "java/io/Serializable"), (0, .class_ 1), (0, u "java/lang/Object"), (0, .class_ 3)] 3

/-- java/io/Serializable -/
def k4 : Class := { plain "java/io/Serializable" (some 0) with
  accessFlags := 1537
  interfaces := #[]
  cf := some (fileOf pool4 2 #[] #[] 1537 4 #[] #[])
  fields := #[]
  methods := #[]
  instanceTypes := #[]
  staticTypes := #[]
  resolved := Array.replicate 8 none
  statics := none }

/-- the primitive byte -/
def k5 : Class := { plain "byte" none with kind := .primitive 'B', accessFlags := 0x411 }
/-- [B -/
def k6 : Class := { plain "[B" (some 0) with kind := .array 5 .byte, interfaces := #[3, 4], accessFlags := 1041 }

/-- the primitive int -/
def k7 : Class := { plain "int" none with kind := .primitive 'I', accessFlags := 0x411 }
/-- [I -/
def k8 : Class := { plain "[I" (some 0) with kind := .array 7 .int, interfaces := #[3, 4], accessFlags := 1041 }

def heap : Heap := #[]
def classes : Array Class := #[k0, k1, k2, k3, k4, k5, k6, k7, k8]
def interned : List (Array UInt16 × Addr) := []
def slotsUsed : Nat := 0
def theMethod : MethodId := ⟨1, 1⟩
def args0 : Array Value := #[.int 5, .int 7, .int 3, .int 4, .int 9, .int 1]
def aboutOver (below : List Frame) : State where
  vm := { classes := classes, interned := interned.toArray }
  heap := heap
  slotsUsed := slotsUsed
  threads := #[{ frames := .invoking theMethod args0 :: below }]
def below0 : List Frame := [.native { method := ⟨0, 0⟩, args := #[] }]
def about1 : State := aboutOver below0
def p0 : Program := .bare "" "" ""
def e0 : Env := launch0.env 0 0 0
theorem w_frames : about1.frames = Frame.invoking theMethod args0 :: below0 := rfl
set_option maxRecDepth 65536 in
theorem w_args : argsFit about1.vm theMethod args0 = true := by decide +kernel
set_option maxRecDepth 65536 in
theorem w_heap : heapFits about1 = true := by decide +kernel
set_option maxRecDepth 65536 in
theorem w_runnable : about1.curStatus? = some .runnable := by decide +kernel
set_option maxRecDepth 65536 in
theorem w_alone : about1.alone = true := by decide +kernel
set_option maxRecDepth 65536 in
theorem w_named : about1.methodNamed? x = some theMethod := by decide +kernel
set_option maxRecDepth 65536 in
theorem w_hears : about1.hears theMethod below0 = true := by decide +kernel
set_option maxRecDepth 65536 in
theorem w_ripe : about1.ripe theMethod args0 below0 = true := by decide +kernel
theorem w_running : about1.status = .running := rfl
set_option maxRecDepth 65536 in
theorem w_room : about1.hasRoom e0.platform room_1 = true :=
  launch0.hasRoom_least _ room_1 (by decide +kernel) (by decide +kernel) (by decide +kernel) (by decide +kernel) (by decide +kernel) (by decide +kernel)
theorem allAtoms_all (ts : List Jvm.Cond) (a : Array Jvm.Value) (st : Jvm.State) : (allAtoms ts).before a st = ts.all (fun c => c.before a st) := by
  induction ts with
  | nil => rfl
  | cons c t ih =>
    show (Jvm.Cond.and c (allAtoms t)).before a st = _
    rw [Jvm.Cond.before_and, ih, List.all_cons]
def words1 : List Jvm.Cond := Jvm.Cond.code x code maxLocals ret :: tables_1
/-- a 'code' word, met by the world's own term for the bytes: nothing is compared byte by byte -/
theorem code_word {y : MethodName} {bytes : ByteArray} {mx : Nat} {rt : Option FieldType} {a : Array Value} {s : State} {m : MethodId} {meth : Method} {c : Code} (h1 : s.methodNamed? y = some m) (h2 : s.vm.method? m = some meth) (h3 : meth.code = some c) (h4 : c.code = bytes)
    (h5 : (c.maxLocals == mx && c.exceptionTable.isEmpty && decide (c.maxStack ≤ mostOperands) && decide (meth.sig.returnType = rt) && !meth.locks && decide (parseMethodDescriptor y.desc = some meth.sig)) = true) : (Jvm.Cond.code y bytes mx rt).before a s = true := by
  simp only [Bool.and_eq_true, beq_iff_eq, Bool.not_eq_true', decide_eq_true_eq] at h5
  obtain ⟨⟨⟨⟨⟨g1, g2⟩, g3⟩, g4⟩, g5⟩, g6⟩ := h5
  simp [Cond.before, Cond.holds, Cond.value, h1, h2, h3, h4, g1, g2, g3, g4, g5, g6]
def isCode : Jvm.Cond → Bool
  | .code _ _ _ _ => true
  | _ => false
theorem all_split {L : List Jvm.Cond} {P : Jvm.Cond → Bool} (h1 : L.all (fun c => isCode c || P c) = true) (h2 : ∀ c ∈ L.filter isCode, P c = true) : L.all P = true := by
  refine List.all_eq_true.mpr fun c hc => ?_
  have h := List.all_eq_true.mp h1 c hc
  rcases Bool.eq_false_or_eq_true (isCode c) with hi | hi
  · exact h2 c (List.mem_filter.mpr ⟨hc, hi⟩)
  · simpa [hi] using h
set_option maxRecDepth 65536 in
theorem w_c0 : (Jvm.Cond.code x code maxLocals ret).before args0 about1 = true := code_word (m := ⟨1, 1⟩) (meth := k1m1) (c := k1c1) (by decide +kernel) rfl rfl rfl (by decide +kernel)
set_option maxRecDepth 65536 in
theorem w_c1 : (Jvm.Cond.code ({ cls := "com/example/grovebra/grovebra/TreeAlgebra", name := "tupleAt", desc := "(II[I)V" } : Jvm.MethodName) prog_45_method_12_code (5 : Nat) (Option.none : Option Jvm.ClassFile.FieldType)).before args0 about1 = true := code_word (m := ⟨2, 0⟩) (meth := k2m0) (c := k2c0) (by decide +kernel) rfl rfl rfl (by decide +kernel)
def codes1 : List Jvm.Cond := [Jvm.Cond.code x code maxLocals ret, Jvm.Cond.code ({ cls := "com/example/grovebra/grovebra/TreeAlgebra", name := "tupleAt", desc := "(II[I)V" } : Jvm.MethodName) prog_45_method_12_code (5 : Nat) (Option.none : Option Jvm.ClassFile.FieldType)]
set_option maxRecDepth 65536 in
theorem codes_eq : words1.filter isCode = codes1 := rfl
theorem w_codes : ∀ c ∈ words1.filter isCode, c.before args0 about1 = true := by
  rw [codes_eq]
  intro c hc
  simp only [codes1, List.mem_cons, List.not_mem_nil, or_false] at hc
  rcases hc with rfl | rfl
  · exact w_c0
  · exact w_c1
set_option maxRecDepth 65536 in
theorem w_t1 : words1.all (fun c => isCode c || c.before args0 about1) = true := by decide +kernel
theorem w_tables : (allAtoms (Jvm.Cond.code x code maxLocals ret :: tables_1)).before args0 about1 = true := by
  rw [allAtoms_all]
  show words1.all (fun c => c.before args0 about1) = true
  refine all_split ?_ w_codes
  rw [w_t1]
set_option maxRecDepth 65536 in
theorem w_case : (Jvm.Cond.and given_1 narrow_1).before args0 about1 = true := by decide +kernel
theorem w_applies : (headSpec (Jvm.Cond.code x code maxLocals ret :: tables_1) room_1).applies x e0.platform about1 = true :=
  (Spec.applies_iff w_frames).mpr ⟨w_running, w_runnable, w_alone, w_named, w_hears, w_ripe, w_room, w_tables⟩
theorem atStart : AtStart classFile x code maxLocals ret World_1 tables_1 room_1 Calls_1 rest_1 Pre_1 launch0 p0 e0 about1 theMethod args0 below0 :=
  ⟨lists_1, trivial, launch0.admits_env _ _ _, launch0.least_env, fairChoices_fair.cas, fairChoices_fair.clock, w_frames, w_args, w_heap, w_applies, trivial, trivial, w_case⟩
end start1
theorem witness_1 : WitnessClaimed_1 := ⟨start1.p0, start1.e0, start1.about1, start1.theMethod, start1.args0, start1.below0, start1.atStart⟩
end Jvm.Pilot.@@N@@
