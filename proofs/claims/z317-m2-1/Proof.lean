import JvmDerived
import JvmDerived.Pilot.@@N@@Statement
import JvmDerived.Pilot.@@N@@Code
set_option linter.unusedVariables false
set_option linter.unusedSimpArgs false
namespace Jvm.RoadKit
open Sem ClassFile Op Lib Jvm.Stand Jvm.Free Jvm.LawKit
section New
variable {p : Program} {l : Launch} {e : Env} {R : Room} {s : State} {m : MethodId} {args : Array Value} {below : List Frame} {meth : Method} {c : Code} {T : State} {locs : List Loc} {cells slots : Nat}
theorem retI (X : Stand p l e R s m args below meth c T locs cells slots) (hx : p.tables.exec = Jvm.exec) {pc : Nat} {Ls : Array Slot} {z : Int32} {rest : List Value} (hret : meth.sig.returnType = some .int) (hd : decode c.code pc = .ok (.ireturn, 1)) {fs : List Frame}
    (hl : ∀ (f : JFrame) (acts : List Action), f.method = m → f.locked = none → f.entered = [] → (doReturn e (T.setTop f) acts (some (.int z))).1 = T.setFrames fs) : Steps p.tables e below (T.setTop (mkF m pc Ls (.int z :: rest))) (T.setFrames fs) := by
  have hm' : T.vm.method? m = some meth := X.method'
  have hn : narrow .int (.int z) = .int z := rfl
  show Steps p.tables e below (T.setTop { method := m, pc := pc, locals := Ls, stack := _ :: rest, locked := none }) _
  jvm_step X.here [X.here.top, hx, hd, hm', hret, hn]
  first | (intro acts; rw [hl _ acts rfl rfl rfl]) | rw [hl _ _ rfl rfl rfl]
  exact Steps.refl _
end New
end Jvm.RoadKit
namespace Jvm.Pilot.@@N@@
open Jvm Jvm.ClassFile Sem Op Lib Jvm.Free Jvm.Stand Jvm.LawKit Jvm.RoadKit Bundle Jvm.Pilot.@@N@@.Jvm.D
theorem own_adv {tb : Tables} {e : Env} {below : List Frame} {A B : State} {P : State → Outcome → Prop} (h : ∀ t, Steps tb e below B t → Steps tb e below A t) (g : ∃ t o, Steps tb e below B t ∧ P t o) : ∃ t o, Steps tb e below A t ∧ P t o := by
  obtain ⟨t, o, h1, h2⟩ := g
  exact ⟨t, o, h t h1, h2⟩
theorem own_pack {p : Program} {l : Launch} {e : Env} {R : Room} {s : State} {m : MethodId} {args : Array Value} {below : List Frame} {meth : Method} {c : Code} {T : State} {locs : List Loc} {cells slots : Nat} {n0 : Nat} (X : Stand p l e R s m args below meth c T locs cells slots) (N : Fr n0 locs) : ∃ lo, Stand p l e R s m args below meth c T lo cells slots ∧ Fr n0 lo := ⟨_, X, N⟩
theorem own_sel {Z s : State} {a0 args : Array Value} {y : MethodName} {n : Nat} (hZ : Z.Warmed39 s.vm) (wi : (Jvm.Cond.instantiable y.cls n).before a0 Z = true) (wp : (Jvm.Cond.privateMethod y).before a0 Z = true) (wm : (Jvm.Cond.instanceMethod y).before a0 Z = true) (hy : y.cls ≠ "java/lang/invoke/MethodHandle" ∧ y.cls ≠ "java/lang/invoke/VarHandle") : (Jvm.Cond.selects y.cls y y).before args s = true := by
  have wi' : (Jvm.Cond.instantiable y.cls n).before args s = true := mvT hZ wi
  obtain ⟨c, k, h1, h2, -, h4, -⟩ := Cond.instantiable_spec wi'
  have hni : k.isInterface = false := by
    cases hq : k.isInterface with
    | false => rfl
    | true => rw [hq] at h4; simp at h4
  exact selects_self_of_private h1 h2 hni (Cond.privateMethod_at (mvP hZ wp (args := #[]))) (mvT hZ wm) hy
/-- what the register does with a zero bit -/
def own_t (R p : BitVec 64) : BitVec 64 := if p.getLsbD 0 then (p >>> 1) ^^^ R else p >>> 1
theorem own_t_xor (R a b : BitVec 64) : own_t R (a ^^^ b) = own_t R a ^^^ own_t R b := by
  unfold own_t
  rw [BitVec.getLsbD_xor, BitVec.ushiftRight_xor_distrib]
  cases a.getLsbD 0 <;> cases b.getLsbD 0 <;> simp
  · rw [BitVec.xor_assoc]
  · rw [BitVec.xor_assoc, BitVec.xor_assoc, BitVec.xor_comm (b >>> 1) R]
  · rw [BitVec.xor_assoc, BitVec.xor_comm (b >>> 1) R, ← BitVec.xor_assoc R R, BitVec.xor_self, BitVec.zero_xor]
theorem own_t_zero (R : BitVec 64) : own_t R 0#64 = 0#64 := by simp [own_t]
def own_it (R : BitVec 64) : Nat → BitVec 64 → BitVec 64
  | 0, p => p
  | n + 1, p => own_it R n (own_t R p)
theorem own_it_t (R : BitVec 64) (n : Nat) (p : BitVec 64) : own_it R n (own_t R p) = own_t R (own_it R n p) := by
  induction n generalizing p with
  | zero => rfl
  | succ n ih => exact ih (own_t R p)
theorem own_it_add (R : BitVec 64) (m n : Nat) (p : BitVec 64) : own_it R (m + n) p = own_it R m (own_it R n p) := by
  induction n generalizing p with
  | zero => rfl
  | succ n ih => exact ih (own_t R p)
theorem own_it_xor (R : BitVec 64) (n : Nat) (a b : BitVec 64) : own_it R n (a ^^^ b) = own_it R n a ^^^ own_it R n b := by
  induction n generalizing a b with
  | zero => rfl
  | succ n ih => show own_it R n (own_t R (a ^^^ b)) = _; rw [own_t_xor, ih]; rfl
theorem own_it_zero (R : BitVec 64) (n : Nat) : own_it R n 0#64 = 0#64 := by
  induction n with
  | zero => rfl
  | succ n ih => show own_it R n (own_t R 0#64) = 0#64; rw [own_t_zero, ih]
/-- bits at w and above are 0 -/
def own_In (w : Nat) (p : BitVec 64) : Prop := ∀ i, w ≤ i → p.getLsbD i = false
theorem own_In_xor {w : Nat} {a b : BitVec 64} (ha : own_In w a) (hb : own_In w b) : own_In w (a ^^^ b) := fun i hi => by
  rw [BitVec.getLsbD_xor, ha i hi, hb i hi]; rfl
theorem own_In_shr {w n : Nat} {a : BitVec 64} (ha : own_In w a) : own_In w (a >>> n) := fun i hi => by
  rw [BitVec.getLsbD_ushiftRight]; exact ha _ (by omega)
theorem own_In_t {w : Nat} {R p : BitVec 64} (hR : own_In w R) (hp : own_In w p) : own_In w (own_t R p) := by
  unfold own_t
  by_cases h : p.getLsbD 0 = true
  · rw [if_pos h]; exact own_In_xor (own_In_shr hp) hR
  · rw [if_neg h]; exact own_In_shr hp
theorem own_In_it {w : Nat} {R : BitVec 64} (hR : own_In w R) (n : Nat) {p : BitVec 64} (hp : own_In w p) : own_In w (own_it R n p) := by
  induction n generalizing p with
  | zero => exact hp
  | succ n ih => exact ih (own_In_t hR hp)
/-- the term of a turn: k turns left -/
def own_term (k : Nat) : BitVec 64 := BitVec.ofNat 64 (2 ^ k / 2)
theorem own_term_bit (k i : Nat) (hk : k ≤ 64) : (own_term k).getLsbD i = decide (i + 1 = k) := by
  unfold own_term
  rw [BitVec.getLsbD_ofNat]
  cases k with
  | zero => simp
  | succ k =>
    rw [Nat.pow_succ, Nat.mul_div_cancel _ (by decide), Nat.testBit_two_pow]
    by_cases h : i = k
    · subst h; simp; omega
    · have : ¬ k = i := fun q => h q.symm
      simp [h, this]
theorem own_term_shr (k : Nat) (hk : k + 1 ≤ 64) : own_term (k + 1) >>> 1 = own_term k := by
  apply BitVec.eq_of_getLsbD_eq
  intro i hi
  rw [BitVec.getLsbD_ushiftRight, own_term_bit _ _ hk, own_term_bit _ _ (by omega)]
  by_cases h : i + 1 = k
  · have h' : 1 + i + 1 = k + 1 := by omega
    simp [h, h']
  · have h' : ¬ 1 + i = k := by omega
    simp [h, h']
theorem own_term_t (R : BitVec 64) (k : Nat) (hk : k + 2 ≤ 64) : own_t R (own_term (k + 2)) = own_term (k + 1) := by
  unfold own_t
  rw [own_term_bit _ _ hk, if_neg (by simp), own_term_shr _ hk]
theorem own_term_In (k : Nat) (hk : k ≤ 64) : own_In k (own_term k) := fun i hi => by
  rw [own_term_bit _ _ hk]; simp; omega
/-- multiply's loop: k turns left -/
def own_mulF (R a : BitVec 64) : Nat → BitVec 64 → BitVec 64 → BitVec 64
  | 0, _, q => q
  | k + 1, s, q => own_mulF R a k (own_t R s) (if a.getLsbD k then q ^^^ s else q)
theorem own_mulF_q (R a : BitVec 64) (k : Nat) (s q : BitVec 64) : own_mulF R a k s q = q ^^^ own_mulF R a k s 0#64 := by
  induction k generalizing s q with
  | zero => simp [own_mulF]
  | succ k ih =>
    show own_mulF R a k (own_t R s) (if a.getLsbD k then q ^^^ s else q) = q ^^^ own_mulF R a k (own_t R s) (if a.getLsbD k then 0#64 ^^^ s else 0#64)
    rw [ih _ (if a.getLsbD k then q ^^^ s else q), ih _ (if a.getLsbD k then 0#64 ^^^ s else 0#64)]
    cases a.getLsbD k
    · simp
    · simp [BitVec.xor_assoc]
/-- it goes with t in the second factor -/
theorem own_mulF_t (R a : BitVec 64) (k : Nat) (s : BitVec 64) : own_mulF R a k (own_t R s) 0#64 = own_t R (own_mulF R a k s 0#64) := by
  induction k generalizing s with
  | zero => simp [own_mulF, own_t_zero]
  | succ k ih =>
    show own_mulF R a k (own_t R (own_t R s)) (if a.getLsbD k then 0#64 ^^^ own_t R s else 0#64) = own_t R (own_mulF R a k (own_t R s) (if a.getLsbD k then 0#64 ^^^ s else 0#64))
    rw [own_mulF_q R a k _ (if a.getLsbD k then 0#64 ^^^ own_t R s else 0#64), own_mulF_q R a k _ (if a.getLsbD k then 0#64 ^^^ s else 0#64), own_t_xor, ih]
    cases a.getLsbD k <;> simp [own_t_zero]
theorem own_mulF_it (R a : BitVec 64) (k n : Nat) (s : BitVec 64) : own_mulF R a k (own_it R n s) 0#64 = own_it R n (own_mulF R a k s 0#64) := by
  induction n generalizing s with
  | zero => rfl
  | succ n ih => show own_mulF R a k (own_it R n (own_t R s)) 0#64 = own_it R n (own_t R (own_mulF R a k s 0#64)); rw [ih, own_mulF_t]
/-- a times one is a -/
theorem own_mulF_one (R a : BitVec 64) (k : Nat) (hk : k ≤ 64) (i : Nat) : (own_mulF R a k (own_term k) 0#64).getLsbD i = (decide (i < k) && a.getLsbD i) := by
  induction k with
  | zero => simp [own_mulF]
  | succ k ih =>
    have e : own_mulF R a (k + 1) (own_term (k + 1)) 0#64 = (if a.getLsbD k then own_term (k + 1) else 0#64) ^^^ own_mulF R a k (own_term k) 0#64 := by
      cases k with
      | zero =>
        show (if a.getLsbD 0 then 0#64 ^^^ own_term 1 else 0#64) = (if a.getLsbD 0 then own_term 1 else 0#64) ^^^ 0#64
        simp
      | succ k =>
        show own_mulF R a (k + 1) (own_t R (own_term (k + 2))) (if a.getLsbD (k + 1) then 0#64 ^^^ own_term (k + 2) else 0#64) = _
        rw [own_mulF_q, own_term_t R k (by omega)]
        cases a.getLsbD (k + 1) <;> simp
    rw [e, BitVec.getLsbD_xor, ih (by omega)]
    by_cases h : i = k
    · subst h
      cases ha : a.getLsbD i
      · simp
      · simp [own_term_bit _ _ hk]
    · have h2 : (if a.getLsbD k then own_term (k + 1) else 0#64).getLsbD i = false := by
        cases a.getLsbD k
        · simp
        · simp [own_term_bit _ _ hk, h]
      rw [h2]
      by_cases h3 : i < k
      · have : i < k + 1 := by omega
        simp [h3, this]
      · have : ¬ i < k + 1 := by omega
        simp [h3, this]
theorem own_mulF_id (R a : BitVec 64) (w : Nat) (hw : w ≤ 64) (ha : own_In w a) : own_mulF R a w (own_term w) 0#64 = a := by
  apply BitVec.eq_of_getLsbD_eq
  intro i _
  rw [own_mulF_one R a w hw i]
  by_cases h : i < w
  · simp [h]
  · rw [ha i (by omega)]; simp
/-- a times x^n -/
theorem own_mulF_pow (R a : BitVec 64) (w n : Nat) (hw : w ≤ 64) (ha : own_In w a) : own_mulF R a w (own_it R n (own_term w)) 0#64 = own_it R n a := by
  rw [own_mulF_it, own_mulF_id R a w hw ha]
/-- power's loop, n turns at most -/
def own_powF (R : BitVec 64) (w : Nat) : Nat → BitVec 64 → BitVec 64 → BitVec 64 → BitVec 64
  | 0, _, r, _ => r
  | n + 1, bits, r, q => if bits = 0#64 then r else own_powF R w n (bits >>> 1) (if bits.getLsbD 0 then own_mulF R r w q 0#64 else r) (own_mulF R q w q 0#64)
theorem own_powF_eq (R : BitVec 64) (w : Nat) (hw : w ≤ 64) (hR : own_In w R) (n : Nat) (bits : BitVec 64) (hn : bits.toNat < 2 ^ n) (r s : Nat) :
    own_powF R w n bits (own_it R r (own_term w)) (own_it R s (own_term w)) = own_it R (r + s * bits.toNat) (own_term w) := by
  induction n generalizing bits r s with
  | zero =>
    have : bits.toNat = 0 := by omega
    rw [this]; rfl
  | succ n ih =>
    unfold own_powF
    by_cases hb : bits = 0#64
    · rw [if_pos hb, hb]; rfl
    · rw [if_neg hb]
      have e2 : own_mulF R (own_it R s (own_term w)) w (own_it R s (own_term w)) 0#64 = own_it R (s + s) (own_term w) := by
        rw [own_mulF_pow R _ w s hw (own_In_it hR s (own_term_In w hw)), own_it_add]
      have hs : (bits >>> 1).toNat = bits.toNat / 2 := by rw [BitVec.toNat_ushiftRight, Nat.shiftRight_eq_div_pow]
      have hl : bits.getLsbD 0 = decide (bits.toNat % 2 = 1) := by
        rw [BitVec.getLsbD, Nat.testBit_zero]
      by_cases h0 : bits.toNat % 2 = 1
      · have e1 : (if bits.getLsbD 0 then own_mulF R (own_it R r (own_term w)) w (own_it R s (own_term w)) 0#64 else own_it R r (own_term w)) = own_it R (s + r) (own_term w) := by
          rw [if_pos (by rw [hl]; simp [h0]), own_mulF_pow R _ w s hw (own_In_it hR r (own_term_In w hw)), own_it_add]
        rw [e1, e2, ih _ (by rw [hs]; omega), hs]
        congr 1
        have : bits.toNat = 2 * (bits.toNat / 2) + 1 := by omega
        have h3 : (s + s) * (bits.toNat / 2) = s * (2 * (bits.toNat / 2)) := by rw [← Nat.two_mul, Nat.mul_assoc, Nat.mul_left_comm]
        rw [h3]
        conv => rhs; rw [this, Nat.mul_add]
        omega
      · have e1 : (if bits.getLsbD 0 then own_mulF R (own_it R r (own_term w)) w (own_it R s (own_term w)) 0#64 else own_it R r (own_term w)) = own_it R r (own_term w) := by
          rw [if_neg (by rw [hl]; simp [h0])]
        rw [e1, e2, ih _ (by rw [hs]; omega), hs]
        congr 1
        have : bits.toNat = 2 * (bits.toNat / 2) := by omega
        have h3 : (s + s) * (bits.toNat / 2) = s * (2 * (bits.toNat / 2)) := by rw [← Nat.two_mul, Nat.mul_assoc, Nat.mul_left_comm]
        rw [h3, ← this]
/-- combine -/
def own_combF (R : BitVec 64) (w : Nat) (f s e : BitVec 64) : BitVec 64 := own_mulF R f w (own_powF R w 64 e (own_term w) (own_term w >>> 1)) 0#64 ^^^ s
theorem own_combF_eq (R : BitVec 64) (w : Nat) (h2 : 2 ≤ w) (hw : w ≤ 64) (hR : own_In w R) (f s e : BitVec 64) (hf : own_In w f) : own_combF R w f s e = own_it R e.toNat f ^^^ s := by
  have hx : own_term w >>> 1 = own_it R 1 (own_term w) := by
    obtain ⟨k, rfl⟩ : ∃ k, w = k + 2 := ⟨w - 2, by omega⟩
    show _ = own_t R (own_term (k + 2))
    rw [own_term_t R k hw, own_term_shr _ hw]
  unfold own_combF
  have hp : own_powF R w 64 e (own_term w) (own_term w >>> 1) = own_it R e.toNat (own_term w) := by
    rw [hx]
    have := own_powF_eq R w hw hR 64 e e.isLt 0 1
    rw [Nat.one_mul, Nat.zero_add] at this
    exact this
  rw [hp, own_mulF_pow R f w _ hw hf]
/-- associativity -/
theorem own_assoc (R : BitVec 64) (w : Nat) (h2 : 2 ≤ w) (hw : w ≤ 64) (hR : own_In w R) (f g h m n mn : BitVec 64) (hf : own_In w f) (hg : own_In w g) (hmn : mn.toNat = m.toNat + n.toNat) :
    own_combF R w (own_combF R w f g m) h n = own_combF R w f (own_combF R w g h n) mn := by
  rw [own_combF_eq R w h2 hw hR f g m hf, own_combF_eq R w h2 hw hR _ h n (own_In_xor (own_In_it hR _ hf) hg), own_combF_eq R w h2 hw hR g h n hg, own_combF_eq R w h2 hw hR f _ mn hf, own_it_xor, hmn, Nat.add_comm m.toNat, own_it_add, BitVec.xor_assoc]
/-- feeding -/
def own_bitF (R r d : BitVec 64) : BitVec 64 := own_t R (r ^^^ d)
def own_byteF (R r v : BitVec 64) : BitVec 64 :=
  own_bitF R (own_bitF R (own_bitF R (own_bitF R (own_bitF R (own_bitF R (own_bitF R (own_bitF R r (v &&& 1)) ((v >>> 1) &&& 1)) ((v >>> 2) &&& 1)) ((v >>> 3) &&& 1)) ((v >>> 4) &&& 1)) ((v >>> 5) &&& 1)) ((v >>> 6) &&& 1)) ((v >>> 7) &&& 1)
theorem own_byteF_lin (R r v : BitVec 64) : own_byteF R r v = own_it R 8 r ^^^ own_byteF R 0#64 v := by
  have h : ∀ (n : Nat) (r q d : BitVec 64), own_bitF R (own_it R n r ^^^ q) d = own_it R (n + 1) r ^^^ own_bitF R q d := by
    intro n r q d
    unfold own_bitF
    rw [BitVec.xor_assoc, own_t_xor]
    congr 1
    exact (own_it_t R n r).symm
  have h0 : ∀ (r d : BitVec 64), own_bitF R r d = own_it R 1 r ^^^ own_bitF R 0#64 d := by
    intro r d
    have := h 0 r 0#64 d
    rw [BitVec.xor_zero] at this
    exact this
  unfold own_byteF
  rw [h0 r (v &&& 1), h 1, h 2, h 3, h 4, h 5, h 6, h 7]
theorem own_In_bit {w : Nat} (hw : 1 ≤ w) (v : BitVec 64) : own_In w (v &&& 1) := fun i hi => by
  rw [BitVec.getLsbD_and]
  have : (1 : BitVec 64).getLsbD i = false := by
    rw [show (1 : BitVec 64) = BitVec.ofNat 64 1 from rfl, BitVec.getLsbD_ofNat]
    have : Nat.testBit 1 i = false := by
      cases hq : Nat.testBit 1 i with
      | false => rfl
      | true => have := Nat.testBit_one_eq_true_iff_self_eq_zero.mp hq; omega
    simp [this]
  rw [this]; simp
theorem own_In_byteF {w : Nat} (hw : 1 ≤ w) {R r : BitVec 64} (hR : own_In w R) (hr : own_In w r) (v : BitVec 64) : own_In w (own_byteF R r v) := by
  have h : ∀ {q : BitVec 64} (u : BitVec 64), own_In w q → own_In w (own_bitF R q (u &&& 1)) := fun u hq => own_In_t hR (own_In_xor hq (own_In_bit hw u))
  exact h _ (h _ (h _ (h _ (h _ (h _ (h _ (h _ hr)))))))
def own_by (d : BitVec 64) (i : Nat) : BitVec 64 := (d >>> (8 * i)) &&& 255
def own_feed (R : BitVec 64) (bs : List (BitVec 64)) (r : BitVec 64) : BitVec 64 := bs.foldl (own_byteF R) r
theorem own_feed_lin (R : BitVec 64) (bs : List (BitVec 64)) (r : BitVec 64) : own_feed R bs r = own_it R (8 * bs.length) r ^^^ own_feed R bs 0#64 := by
  induction bs generalizing r with
  | nil => simp [own_feed, own_it]
  | cons b bs ih =>
    show own_feed R bs (own_byteF R r b) = own_it R (8 * (bs.length + 1)) r ^^^ own_feed R bs (own_byteF R 0#64 b)
    rw [ih, ih (own_byteF R 0#64 b), own_byteF_lin R r b, own_it_xor, ← own_it_add, BitVec.xor_assoc, Nat.mul_add]
theorem own_In_feed {w : Nat} (hw : 1 ≤ w) {R : BitVec 64} (hR : own_In w R) (bs : List (BitVec 64)) {r : BitVec 64} (hr : own_In w r) : own_In w (own_feed R bs r) := by
  induction bs generalizing r with
  | nil => exact hr
  | cons b bs ih => exact ih (own_In_byteF hw hR hr b)
def own_bytes (d : BitVec 64) (n : Nat) : List (BitVec 64) := (List.range n).map (own_by d)
def own_crcF (R ones d : BitVec 64) (n : Nat) : BitVec 64 := own_feed R (own_bytes d n) ones ^^^ ones
theorem own_bytes_join (a b j : BitVec 64) (la lb : Nat) (h1 : ∀ i, i < la → own_by j i = own_by a i) (h2 : ∀ i, i < lb → own_by j (la + i) = own_by b i) : own_bytes j (la + lb) = own_bytes a la ++ own_bytes b lb := by
  unfold own_bytes
  rw [List.range_add, List.map_append, List.map_map]
  congr 1
  · exact List.map_congr_left fun i hi => h1 i (List.mem_range.mp hi)
  · exact List.map_congr_left fun i hi => h2 i (List.mem_range.mp hi)
theorem own_direct (R : BitVec 64) (w : Nat) (h2 : 2 ≤ w) (hw : w ≤ 64) (hR : own_In w R) (ones a b j e : BitVec 64) (la lb : Nat) (ho : own_In w ones) (hj : own_bytes j (la + lb) = own_bytes a la ++ own_bytes b lb) (he : e.toNat = 8 * lb) :
    own_combF R w (own_crcF R ones a la) (own_crcF R ones b lb) e = own_crcF R ones j (la + lb) := by
  have hb : (own_bytes b lb).length = lb := by simp [own_bytes]
  rw [own_combF_eq R w h2 hw hR (own_crcF R ones a la) _ e (own_In_xor (own_In_feed (by omega) hR _ ho) ho), he]
  unfold own_crcF
  rw [hj, show own_feed R (own_bytes a la ++ own_bytes b lb) ones = own_feed R (own_bytes b lb) (own_feed R (own_bytes a la) ones) from List.foldl_append, own_feed_lin R (own_bytes b lb) ones, own_feed_lin R (own_bytes b lb) (own_feed R (own_bytes a la) ones), hb, own_it_xor]
  generalize own_it R (8 * lb) (own_feed R (own_bytes a la) ones) = A
  generalize own_it R (8 * lb) ones = O
  generalize own_feed R (own_bytes b lb) 0#64 = F
  rw [BitVec.xor_assoc A O, BitVec.xor_assoc O F, ← BitVec.xor_assoc O O, BitVec.xor_self, BitVec.zero_xor, BitVec.xor_assoc]
/-- the joined data -/
theorem own_join_low (a b mask : BitVec 64) (la i : Nat) (hi : i < la) (hm : ∀ q, mask.getLsbD q = decide (q < 8 * la)) : own_by ((a &&& mask) ||| (b <<< (8 * la))) i = own_by a i := by
  apply BitVec.eq_of_getLsbD_eq
  intro q hq
  unfold own_by
  rw [BitVec.getLsbD_and, BitVec.getLsbD_and, BitVec.getLsbD_ushiftRight, BitVec.getLsbD_ushiftRight, BitVec.getLsbD_or, BitVec.getLsbD_and, BitVec.getLsbD_shiftLeft, hm]
  by_cases h8 : q < 8
  · have h : 8 * i + q < 8 * la := by omega
    simp [h]
  · have : (255 : BitVec 64).getLsbD q = false := by
      rw [show (255 : BitVec 64) = BitVec.ofNat 64 (2 ^ 8 - 1) from rfl, BitVec.getLsbD_ofNat, Nat.testBit_two_pow_sub_one]
      simp [h8]
    rw [this]; simp
theorem own_join_high (a b mask : BitVec 64) (la i : Nat) (hi : 8 * la + 8 * i + 8 ≤ 64) (hm : ∀ q, mask.getLsbD q = decide (q < 8 * la)) : own_by ((a &&& mask) ||| (b <<< (8 * la))) (la + i) = own_by b i := by
  apply BitVec.eq_of_getLsbD_eq
  intro q hq
  unfold own_by
  rw [BitVec.getLsbD_and, BitVec.getLsbD_and, BitVec.getLsbD_ushiftRight, BitVec.getLsbD_ushiftRight, BitVec.getLsbD_or, BitVec.getLsbD_and, BitVec.getLsbD_shiftLeft, hm]
  by_cases h8 : q < 8
  · have h : ¬ 8 * (la + i) + q < 8 * la := by omega
    have h' : 8 * (la + i) + q < 64 := by omega
    have h'' : 8 * (la + i) + q - 8 * la = 8 * i + q := by omega
    simp [h, h', h'']
  · have : (255 : BitVec 64).getLsbD q = false := by
      rw [show (255 : BitVec 64) = BitVec.ofNat 64 (2 ^ 8 - 1) from rfl, BitVec.getLsbD_ofNat, Nat.testBit_two_pow_sub_one]
      simp [h8]
    rw [this]; simp
/-! the Java longs -/
def own_T (R p : Int64) : Int64 := Int64.ofBitVec (own_t R.toBitVec p.toBitVec)
theorem own_T_bv (R p : Int64) : (own_T R p).toBitVec = own_t R.toBitVec p.toBitVec := rfl
theorem own_ext64 {x y : Int64} (h : x.toBitVec = y.toBitVec) : x = y := Int64.toBitVec_inj.mp h
theorem own_shr1 (p : Int64) : ((p.toUInt64 >>> ((1 : Int32) &&& 0x3f).toInt64.toUInt64).toInt64).toBitVec = p.toBitVec >>> 1 := rfl
theorem own_lsb (p : Int64) : lcmpW (p &&& (1 : Int64)) (0 : Int64) = 0 ↔ p.toBitVec.getLsbD 0 = false := by
  rw [lw_eq]
  constructor
  · intro h
    have h1 : (p &&& (1 : Int64)).toBitVec.getLsbD 0 = false := by rw [h]; rfl
    rw [Int64.toBitVec_and, BitVec.getLsbD_and] at h1
    simpa using h1
  · intro h
    apply own_ext64
    apply BitVec.eq_of_getLsbD_eq
    intro i _
    rw [Int64.toBitVec_and, BitVec.getLsbD_and]
    cases i with
    | zero => rw [h]; rfl
    | succ i =>
      have : (1 : Int64).toBitVec.getLsbD (i + 1) = false := by
        show (BitVec.ofNat 64 1).getLsbD (i + 1) = false
        rw [BitVec.getLsbD_ofNat]
        have : Nat.testBit 1 (i + 1) = false := by
          cases hq : Nat.testBit 1 (i + 1) with
          | false => rfl
          | true => have := Nat.testBit_one_eq_true_iff_self_eq_zero.mp hq; omega
        simp [this]
      rw [this]
      show _ = (BitVec.ofNat 64 0).getLsbD (i + 1)
      simp
theorem own_T_even (R p : Int64) (h : lcmpW (p &&& (1 : Int64)) (0 : Int64) = 0) : ((p.toUInt64 >>> ((1 : Int32) &&& 0x3f).toInt64.toUInt64).toInt64) = own_T R p := by
  apply own_ext64
  rw [own_T_bv, own_shr1, own_t, if_neg (by rw [(own_lsb p).mp h]; decide)]
theorem own_T_odd (R p : Int64) (h : ¬ lcmpW (p &&& (1 : Int64)) (0 : Int64) = 0) : (((p.toUInt64 >>> ((1 : Int32) &&& 0x3f).toInt64.toUInt64).toInt64) ^^^ R) = own_T R p := by
  apply own_ext64
  have h1 : p.toBitVec.getLsbD 0 = true := by
    cases hq : p.toBitVec.getLsbD 0 with
    | false => exact absurd ((own_lsb p).mpr hq) h
    | true => rfl
  rw [own_T_bv, Int64.toBitVec_xor, own_shr1, own_t, if_pos h1]
/-- multiply -/
def own_tm (k : Nat) : Int64 := Int64.ofBitVec (own_term k)
def own_Mf (R a : Int64) (k : Nat) (s q : Int64) : Int64 := Int64.ofBitVec (own_mulF R.toBitVec a.toBitVec k s.toBitVec q.toBitVec)
def own_step (a : Int64) (k : Nat) (q s : Int64) : Int64 := if a.toBitVec.getLsbD k then q ^^^ s else q
theorem own_Mf_zero (R a s q : Int64) : own_Mf R a 0 s q = q := rfl
theorem own_Mf_succ (R a : Int64) (k : Nat) (s q : Int64) : own_Mf R a (k + 1) s q = own_Mf R a k (own_T R s) (own_step a k q s) := by
  apply own_ext64
  show own_mulF R.toBitVec a.toBitVec k (own_t R.toBitVec s.toBitVec) (if a.toBitVec.getLsbD k then q.toBitVec ^^^ s.toBitVec else q.toBitVec) = own_mulF R.toBitVec a.toBitVec k (own_t R.toBitVec s.toBitVec) (own_step a k q s).toBitVec
  congr 1
  unfold own_step
  cases a.toBitVec.getLsbD k
  · rfl
  · rfl
theorem own_tm_zero : lcmpW (own_tm 0) (0 : Int64) = 0 := (lw_eq _ _).mpr rfl
theorem own_tm_ne (k : Nat) (hk : k + 1 ≤ 64) : ¬ lcmpW (own_tm (k + 1)) (0 : Int64) = 0 := fun h => by
  have h1 := (lw_eq _ _).mp h
  have h2 : (own_tm (k + 1)).toBitVec.getLsbD k = true := by
    show (own_term (k + 1)).getLsbD k = true
    rw [own_term_bit _ _ hk]; simp
  rw [h1] at h2
  have h3 : (BitVec.ofNat 64 0).getLsbD k = true := h2
  simp at h3
theorem own_tm_shr (k : Nat) (hk : k + 1 ≤ 64) : (((own_tm (k + 1)).toUInt64 >>> ((1 : Int32) &&& 0x3f).toInt64.toUInt64).toInt64) = own_tm k := by
  apply own_ext64
  rw [own_shr1]
  exact own_term_shr k hk
theorem own_tm_bit (a : Int64) (k : Nat) (hk : k + 1 ≤ 64) : lcmpW (a &&& own_tm (k + 1)) (0 : Int64) = 0 ↔ a.toBitVec.getLsbD k = false := by
  rw [lw_eq]
  constructor
  · intro h
    have h1 : (a &&& own_tm (k + 1)).toBitVec.getLsbD k = false := by
      rw [h]
      show (BitVec.ofNat 64 0).getLsbD k = false
      simp
    rw [Int64.toBitVec_and, BitVec.getLsbD_and, show (own_tm (k + 1)).toBitVec = own_term (k + 1) from rfl, own_term_bit _ _ hk] at h1
    simpa using h1
  · intro h
    apply own_ext64
    apply BitVec.eq_of_getLsbD_eq
    intro i _
    rw [Int64.toBitVec_and, BitVec.getLsbD_and, show (own_tm (k + 1)).toBitVec = own_term (k + 1) from rfl, own_term_bit _ _ hk, show (0 : Int64).toBitVec = BitVec.ofNat 64 0 from rfl]
    by_cases hi : i = k
    · subst hi; rw [h]; simp
    · simp [hi]
theorem own_step_no (a q s : Int64) (k : Nat) (hk : k + 1 ≤ 64) (h : lcmpW (a &&& own_tm (k + 1)) (0 : Int64) = 0) : q = own_step a k q s := by
  rw [own_step, (own_tm_bit a k hk).mp h]; rfl
theorem own_step_yes (a q s : Int64) (k : Nat) (hk : k + 1 ≤ 64) (h : ¬ lcmpW (a &&& own_tm (k + 1)) (0 : Int64) = 0) : q ^^^ s = own_step a k q s := by
  have h1 : a.toBitVec.getLsbD k = true := by
    cases hq : a.toBitVec.getLsbD k with
    | false => exact absurd ((own_tm_bit a k hk).mpr hq) h
    | true => rfl
  rw [own_step, h1]; rfl
/-- power -/
def own_Mul (R : Int64) (w : Nat) (a b : Int64) : Int64 := own_Mf R a w b (0 : Int64)
def own_Pf (R : Int64) (w n : Nat) (b r q : Int64) : Int64 := Int64.ofBitVec (own_powF R.toBitVec w n b.toBitVec r.toBitVec q.toBitVec)
theorem own_Pf_zero (R : Int64) (w : Nat) (b r q : Int64) : own_Pf R w 0 b r q = r := rfl
theorem own_Pf_stop (R : Int64) (w n : Nat) (b r q : Int64) (h : lcmpW b (0 : Int64) = 0) : own_Pf R w (n + 1) b r q = r := by
  apply own_ext64
  show own_powF R.toBitVec w (n + 1) b.toBitVec r.toBitVec q.toBitVec = r.toBitVec
  rw [(lw_eq _ _).mp h, own_powF, if_pos (show (0 : Int64).toBitVec = 0#64 from rfl)]
theorem own_nz {b : Int64} (h : ¬ lcmpW b (0 : Int64) = 0) : ¬ b.toBitVec = 0#64 := fun q => h ((lw_eq _ _).mpr (own_ext64 q))
theorem own_Pf_even (R : Int64) (w n : Nat) (b r q : Int64) (h : ¬ lcmpW b (0 : Int64) = 0) (h2 : lcmpW (b &&& (1 : Int64)) (0 : Int64) = 0) : own_Pf R w (n + 1) b r q = own_Pf R w n ((b.toUInt64 >>> ((1 : Int32) &&& 0x3f).toInt64.toUInt64).toInt64) r (own_Mul R w q q) := by
  apply own_ext64
  show own_powF R.toBitVec w (n + 1) b.toBitVec r.toBitVec q.toBitVec = own_powF R.toBitVec w n (b.toBitVec >>> 1) r.toBitVec (own_mulF R.toBitVec q.toBitVec w q.toBitVec 0#64)
  rw [own_powF, if_neg (own_nz h), if_neg (by rw [(own_lsb b).mp h2]; decide)]
theorem own_Pf_odd (R : Int64) (w n : Nat) (b r q : Int64) (h : ¬ lcmpW b (0 : Int64) = 0) (h2 : ¬ lcmpW (b &&& (1 : Int64)) (0 : Int64) = 0) : own_Pf R w (n + 1) b r q = own_Pf R w n ((b.toUInt64 >>> ((1 : Int32) &&& 0x3f).toInt64.toUInt64).toInt64) (own_Mul R w r q) (own_Mul R w q q) := by
  apply own_ext64
  have h1 : b.toBitVec.getLsbD 0 = true := by
    cases hq : b.toBitVec.getLsbD 0 with
    | false => exact absurd ((own_lsb b).mpr hq) h2
    | true => rfl
  show own_powF R.toBitVec w (n + 1) b.toBitVec r.toBitVec q.toBitVec = own_powF R.toBitVec w n (b.toBitVec >>> 1) (own_mulF R.toBitVec r.toBitVec w q.toBitVec 0#64) (own_mulF R.toBitVec q.toBitVec w q.toBitVec 0#64)
  rw [own_powF, if_neg (own_nz h), if_pos h1]
theorem own_half (b : Int64) (n : Nat) (h : b.toBitVec.toNat < 2 ^ (n + 1)) : ((b.toUInt64 >>> ((1 : Int32) &&& 0x3f).toInt64.toUInt64).toInt64).toBitVec.toNat < 2 ^ n := by
  rw [own_shr1, BitVec.toNat_ushiftRight, Nat.shiftRight_eq_div_pow]
  have : 2 ^ (n + 1) = 2 ^ n * 2 := Nat.pow_succ 2 n
  omega
theorem own_none {b : Int64} (h : b.toBitVec.toNat < 2 ^ 0) : lcmpW b (0 : Int64) = 0 := by
  refine (lw_eq _ _).mpr (own_ext64 (BitVec.eq_of_toNat_eq ?_))
  show b.toBitVec.toNat = 0
  omega
/-- combine -/
def own_Comb (R : Int64) (w : Nat) (f s n : Int64) : Int64 := own_Mul R w f (own_Pf R w 64 ((8 : Int64) * n) (own_tm w) (((own_tm w).toUInt64 >>> ((1 : Int32) &&& 0x3f).toInt64.toUInt64).toInt64)) ^^^ s
theorem own_Comb_bv (R : Int64) (w : Nat) (f s n : Int64) : (own_Comb R w f s n).toBitVec = own_combF R.toBitVec w f.toBitVec s.toBitVec ((8 : Int64) * n).toBitVec := rfl
/-- bytes -/
def own_By (R r v : Int64) : Int64 := own_T R ((own_T R ((own_T R ((own_T R ((own_T R ((own_T R ((own_T R ((own_T R (r ^^^ (v &&& (1 : Int64)))) ^^^ (((v.toUInt64 >>> ((1 : Int32) &&& 0x3f).toInt64.toUInt64).toInt64) &&& (1 : Int64)))) ^^^ (((v.toUInt64 >>> ((2 : Int32) &&& 0x3f).toInt64.toUInt64).toInt64) &&& (1 : Int64)))) ^^^ (((v.toUInt64 >>> ((3 : Int32) &&& 0x3f).toInt64.toUInt64).toInt64) &&& (1 : Int64)))) ^^^ (((v.toUInt64 >>> ((4 : Int32) &&& 0x3f).toInt64.toUInt64).toInt64) &&& (1 : Int64)))) ^^^ (((v.toUInt64 >>> ((5 : Int32) &&& 0x3f).toInt64.toUInt64).toInt64) &&& (1 : Int64)))) ^^^ (((v.toUInt64 >>> ((6 : Int32) &&& 0x3f).toInt64.toUInt64).toInt64) &&& (1 : Int64)))) ^^^ (((v.toUInt64 >>> ((7 : Int32) &&& 0x3f).toInt64.toUInt64).toInt64) &&& (1 : Int64)))
theorem own_By_bv (R r v : Int64) : (own_By R r v).toBitVec = own_byteF R.toBitVec r.toBitVec v.toBitVec := rfl
def own_d0 (d : Int64) : Int64 := d &&& (255 : Int64)
def own_d1 (d : Int64) : Int64 := ((d.toUInt64 >>> ((8 : Int32) &&& 0x3f).toInt64.toUInt64).toInt64) &&& (255 : Int64)
def own_d2 (d : Int64) : Int64 := ((d.toUInt64 >>> ((16 : Int32) &&& 0x3f).toInt64.toUInt64).toInt64) &&& (255 : Int64)
def own_d3 (d : Int64) : Int64 := ((d.toUInt64 >>> ((24 : Int32) &&& 0x3f).toInt64.toUInt64).toInt64) &&& (255 : Int64)
def own_d4 (d : Int64) : Int64 := ((d.toUInt64 >>> ((32 : Int32) &&& 0x3f).toInt64.toUInt64).toInt64) &&& (255 : Int64)
def own_d5 (d : Int64) : Int64 := ((d.toUInt64 >>> ((40 : Int32) &&& 0x3f).toInt64.toUInt64).toInt64) &&& (255 : Int64)
theorem own_d0_bv (d : Int64) : (own_d0 d).toBitVec = own_by d.toBitVec 0 := rfl
theorem own_d1_bv (d : Int64) : (own_d1 d).toBitVec = own_by d.toBitVec 1 := rfl
theorem own_d2_bv (d : Int64) : (own_d2 d).toBitVec = own_by d.toBitVec 2 := rfl
theorem own_d3_bv (d : Int64) : (own_d3 d).toBitVec = own_by d.toBitVec 3 := rfl
theorem own_d4_bv (d : Int64) : (own_d4 d).toBitVec = own_by d.toBitVec 4 := rfl
theorem own_d5_bv (d : Int64) : (own_d5 d).toBitVec = own_by d.toBitVec 5 := rfl
def own_c1 (d R o : Int64) : Int64 := own_By R o (own_d0 d)
def own_c2 (d R o : Int64) : Int64 := own_By R (own_c1 d R o) (own_d1 d)
def own_c3 (d R o : Int64) : Int64 := own_By R (own_c2 d R o) (own_d2 d)
def own_c4 (d R o : Int64) : Int64 := own_By R (own_c3 d R o) (own_d3 d)
def own_c5 (d R o : Int64) : Int64 := own_By R (own_c4 d R o) (own_d4 d)
def own_c6 (d R o : Int64) : Int64 := own_By R (own_c5 d R o) (own_d5 d)
def own_crc (d : Int64) (n : Int32) (R o : Int64) : Int64 := (if (0 : Int32) < n then (if (1 : Int32) < n then (if (2 : Int32) < n then (if (3 : Int32) < n then (if (4 : Int32) < n then (if (5 : Int32) < n then own_c6 d R o else own_c5 d R o) else own_c4 d R o) else own_c3 d R o) else own_c2 d R o) else own_c1 d R o) else o) ^^^ o
theorem own_c1_bv (d R o : Int64) : (own_c1 d R o).toBitVec = own_feed R.toBitVec (own_bytes d.toBitVec 1) o.toBitVec := rfl
theorem own_feed_snoc (R : BitVec 64) (d : BitVec 64) (k : Nat) (r : BitVec 64) : own_feed R (own_bytes d (k + 1)) r = own_byteF R (own_feed R (own_bytes d k) r) (own_by d k) := by
  unfold own_feed own_bytes
  rw [List.range_succ, List.map_append, List.foldl_append]; rfl
theorem own_c2_bv (d R o : Int64) : (own_c2 d R o).toBitVec = own_feed R.toBitVec (own_bytes d.toBitVec 2) o.toBitVec := by
  rw [own_feed_snoc, ← own_c1_bv, own_c2, own_By_bv, own_d1_bv]
theorem own_c3_bv (d R o : Int64) : (own_c3 d R o).toBitVec = own_feed R.toBitVec (own_bytes d.toBitVec 3) o.toBitVec := by
  rw [own_feed_snoc, ← own_c2_bv, own_c3, own_By_bv, own_d2_bv]
theorem own_c4_bv (d R o : Int64) : (own_c4 d R o).toBitVec = own_feed R.toBitVec (own_bytes d.toBitVec 4) o.toBitVec := by
  rw [own_feed_snoc, ← own_c3_bv, own_c4, own_By_bv, own_d3_bv]
theorem own_c5_bv (d R o : Int64) : (own_c5 d R o).toBitVec = own_feed R.toBitVec (own_bytes d.toBitVec 5) o.toBitVec := by
  rw [own_feed_snoc, ← own_c4_bv, own_c5, own_By_bv, own_d4_bv]
theorem own_c6_bv (d R o : Int64) : (own_c6 d R o).toBitVec = own_feed R.toBitVec (own_bytes d.toBitVec 6) o.toBitVec := by
  rw [own_feed_snoc, ← own_c5_bv, own_c6, own_By_bv, own_d5_bv]
theorem own_crc_bv (d R o : Int64) (n : Int32) (k : Nat) (hk : k ≤ 6) (hn : n = Int32.ofNat k) : (own_crc d n R o).toBitVec = own_crcF R.toBitVec o.toBitVec d.toBitVec k := by
  subst hn
  have h : k = 0 ∨ k = 1 ∨ k = 2 ∨ k = 3 ∨ k = 4 ∨ k = 5 ∨ k = 6 := by omega
  unfold own_crc own_crcF
  rw [Int64.toBitVec_xor]
  congr 1
  rcases h with rfl | rfl | rfl | rfl | rfl | rfl | rfl
  · rw [if_neg (by decide)]; rfl
  · rw [if_pos (by decide), if_neg (by decide)]; exact own_c1_bv d R o
  · rw [if_pos (by decide), if_pos (by decide), if_neg (by decide)]; exact own_c2_bv d R o
  · rw [if_pos (by decide), if_pos (by decide), if_pos (by decide), if_neg (by decide)]; exact own_c3_bv d R o
  · rw [if_pos (by decide), if_pos (by decide), if_pos (by decide), if_pos (by decide), if_neg (by decide)]; exact own_c4_bv d R o
  · rw [if_pos (by decide), if_pos (by decide), if_pos (by decide), if_pos (by decide), if_pos (by decide), if_neg (by decide)]; exact own_c5_bv d R o
  · rw [if_pos (by decide), if_pos (by decide), if_pos (by decide), if_pos (by decide), if_pos (by decide), if_pos (by decide)]; exact own_c6_bv d R o
/-- the lengths -/
theorem own_len (x : Int32) : ∃ k : Nat, k ≤ 3 ∧ (x &&& (3 : Int32)) = Int32.ofNat k := by
  refine ⟨(x &&& 3).toBitVec.toNat, ?_, ?_⟩
  · simp only [Int32.toBitVec_and, BitVec.toNat_and]
    exact Nat.and_le_right
  · apply Int32.toBitVec_inj.mp
    show _ = BitVec.ofNat 32 _
    rw [BitVec.ofNat_toNat]; simp
def own_bm (n : Int32) : Int64 := if n = (0 : Int32) then (0 : Int64) else ((1 : Int64) <<< (((8 : Int32) * n) &&& 0x3f).toInt64) - (1 : Int64)
theorem own_mask_bit (k q : Nat) (hk : k < 64) : (BitVec.ofNat 64 (2 ^ k - 1)).getLsbD q = decide (q < k) := by
  rw [BitVec.getLsbD_ofNat, Nat.testBit_two_pow_sub_one]
  by_cases h : q < k
  · have : q < 64 := by omega
    simp [h, this]
  · simp [h]
theorem own_bm_bv (k : Nat) (hk : k ≤ 3) (q : Nat) : (own_bm (Int32.ofNat k)).toBitVec.getLsbD q = decide (q < 8 * k) := by
  have h : k = 0 ∨ k = 1 ∨ k = 2 ∨ k = 3 := by omega
  rw [← own_mask_bit (8 * k) q (by omega)]
  rcases h with rfl | rfl | rfl | rfl <;> rfl
def own_jn (a b : Int64) (n : Int32) : Int64 := (a &&& own_bm n) ||| (b <<< (((8 : Int32) * n) &&& 0x3f).toInt64)
theorem own_jn_bv (a b : Int64) (k : Nat) (hk : k ≤ 3) : (own_jn a b (Int32.ofNat k)).toBitVec = (a.toBitVec &&& (own_bm (Int32.ofNat k)).toBitVec) ||| (b.toBitVec <<< (8 * k)) := by
  have h : k = 0 ∨ k = 1 ∨ k = 2 ∨ k = 3 := by omega
  rcases h with rfl | rfl | rfl | rfl <;> rfl
theorem own_dirJ (R : Int64) (w : Nat) (h2 : 2 ≤ w) (h64 : w ≤ 64) (hR : own_In w R.toBitVec) (o a b : Int64) (ho : own_In w o.toBitVec) (la lb : Int32) (ka kb : Nat) (hka : ka ≤ 3) (hkb : kb ≤ 3) (ea : la = Int32.ofNat ka) (eb : lb = Int32.ofNat kb) :
    own_Comb R w (own_crc a la R o) (own_crc b lb R o) lb.toInt64 = own_crc (own_jn a b la) (la + lb) R o := by
  apply own_ext64
  rw [own_Comb_bv, own_crc_bv a R o la ka (by omega) ea, own_crc_bv b R o lb kb (by omega) eb, own_crc_bv (own_jn a b la) R o (la + lb) (ka + kb) (by omega) (by rw [ea, eb]; exact (Int32.ofNat_add ka kb).symm)]
  refine own_direct R.toBitVec w h2 h64 hR o.toBitVec a.toBitVec b.toBitVec _ _ ka kb ho ?_ ?_
  · rw [ea, own_jn_bv a b ka hka]
    exact own_bytes_join _ _ _ ka kb (fun i hi => own_join_low _ _ _ ka i hi (own_bm_bv ka hka)) (fun i hi => own_join_high _ _ _ ka i (by omega) (own_bm_bv ka hka))
  · have h : kb = 0 ∨ kb = 1 ∨ kb = 2 ∨ kb = 3 := by omega
    rw [eb]
    rcases h with rfl | rfl | rfl | rfl <;> rfl
theorem own_In_and {w : Nat} (a : BitVec 64) {o : BitVec 64} (h : own_In w o) : own_In w (a &&& o) := fun i hi => by
  rw [BitVec.getLsbD_and, h i hi, Bool.and_false]
theorem own_mul8 (x : BitVec 64) (h : x.toNat < 2 ^ 61) : ((8 : BitVec 64) * x).toNat = 8 * x.toNat := by
  rw [BitVec.toNat_mul]
  have : (8 : BitVec 64).toNat = 8 := rfl
  rw [this, Nat.mod_eq_of_lt (by omega)]
theorem own_lt58 (x : Int64) : (x &&& (288230376151711743 : Int64)).toBitVec.toNat < 2 ^ 58 := by
  rw [Int64.toBitVec_and, BitVec.toNat_and]
  have : (288230376151711743 : Int64).toBitVec.toNat = 2 ^ 58 - 1 := rfl
  rw [this]
  exact Nat.lt_of_le_of_lt Nat.and_le_right (by decide)
theorem own_assocJ (R : Int64) (w : Nat) (h2 : 2 ≤ w) (h64 : w ≤ 64) (hR : own_In w R.toBitVec) (o a b c m n : Int64) (ho : own_In w o.toBitVec) :
    own_Comb R w (own_Comb R w (a &&& o) (b &&& o) (m &&& (288230376151711743 : Int64))) (c &&& o) (n &&& (288230376151711743 : Int64)) = own_Comb R w (a &&& o) (own_Comb R w (b &&& o) (c &&& o) (n &&& (288230376151711743 : Int64))) ((m &&& (288230376151711743 : Int64)) + (n &&& (288230376151711743 : Int64))) := by
  apply own_ext64
  have hm := own_lt58 m
  have hn := own_lt58 n
  generalize (m &&& (288230376151711743 : Int64)) = mm at hm ⊢
  generalize (n &&& (288230376151711743 : Int64)) = nn at hn ⊢
  rw [own_Comb_bv, own_Comb_bv, own_Comb_bv, own_Comb_bv]
  refine own_assoc R.toBitVec w h2 h64 hR _ _ _ _ _ _ (own_In_and _ ho) (own_In_and _ ho) ?_
  have e1 : (mm + nn).toBitVec.toNat = mm.toBitVec.toNat + nn.toBitVec.toNat := by
    rw [Int64.toBitVec_add, BitVec.toNat_add, Nat.mod_eq_of_lt (by omega)]
  have f : ∀ x : Int64, x.toBitVec.toNat < 2 ^ 61 → ((8 : Int64) * x).toBitVec.toNat = 8 * x.toBitVec.toNat := fun x hx => by
    rw [Int64.toBitVec_mul]
    exact own_mul8 x.toBitVec hx
  rw [f _ (by rw [e1]; omega), f _ (by omega), f _ (by omega), e1, Nat.mul_add]
theorem own_In_lt {w : Nat} {p : BitVec 64} (h : p.toNat < 2 ^ w) : own_In w p := fun i hi => by
  rw [BitVec.getLsbD]
  exact Nat.testBit_lt_two_pow (Nat.lt_of_lt_of_le h (Nat.pow_le_pow_right (by decide) hi))
def own_poly (k : Int32) : Int64 := if k = (0 : Int32) then (3 : Int64) else if k = (1 : Int32) then (5 : Int64) else if k = (2 : Int32) then (49 : Int64) else if k = (3 : Int32) then (32773 : Int64) else if k = (4 : Int32) then (79764919 : Int64) else if k = (5 : Int32) then (517762881 : Int64) else if k = (6 : Int32) then (-5939172356000237991 : Int64) else (4823603603198064275 : Int64)
def own_wid (k : Int32) : Int32 := if k = (0 : Int32) then (3 : Int32) else if k = (1 : Int32) then (5 : Int32) else if k = (2 : Int32) then (8 : Int32) else if k = (3 : Int32) then (16 : Int32) else if k = (4 : Int32) then (32 : Int32) else if k = (5 : Int32) then (32 : Int32) else (64 : Int32)
def own_ref (k : Int32) : Int64 := if k = (0 : Int32) then (6 : Int64) else if k = (1 : Int32) then (20 : Int64) else if k = (2 : Int32) then (140 : Int64) else if k = (3 : Int32) then (40961 : Int64) else if k = (4 : Int32) then (3988292384 : Int64) else if k = (5 : Int32) then (2197175160 : Int64) else if k = (6 : Int32) then (-7319313487190308427 : Int64) else (-3932672073523589310 : Int64)
def own_rb1 (x : Int64) : Int64 := (((x &&& (71777214294589695 : Int64)) <<< ((8 : Int32) &&& 0x3f).toInt64) ||| (((x.toUInt64 >>> ((8 : Int32) &&& 0x3f).toInt64.toUInt64).toInt64) &&& (71777214294589695 : Int64)))
def own_rb2 (x : Int64) : Int64 := ((((x <<< ((48 : Int32) &&& 0x3f).toInt64) ||| ((x &&& (4294901760 : Int64)) <<< ((16 : Int32) &&& 0x3f).toInt64)) ||| (((x.toUInt64 >>> ((16 : Int32) &&& 0x3f).toInt64.toUInt64).toInt64) &&& (4294901760 : Int64))) ||| ((x.toUInt64 >>> ((48 : Int32) &&& 0x3f).toInt64.toUInt64).toInt64))
def own_rb (x : Int64) : Int64 := own_rb2 (own_rb1 x)
def own_r1 (x : Int64) : Int64 := (((x &&& (6148914691236517205 : Int64)) <<< ((1 : Int32) &&& 0x3f).toInt64) ||| (((x.toUInt64 >>> ((1 : Int32) &&& 0x3f).toInt64.toUInt64).toInt64) &&& (6148914691236517205 : Int64)))
def own_r2 (x : Int64) : Int64 := (((x &&& (3689348814741910323 : Int64)) <<< ((2 : Int32) &&& 0x3f).toInt64) ||| (((x.toUInt64 >>> ((2 : Int32) &&& 0x3f).toInt64.toUInt64).toInt64) &&& (3689348814741910323 : Int64)))
def own_r4 (x : Int64) : Int64 := (((x &&& (1085102592571150095 : Int64)) <<< ((4 : Int32) &&& 0x3f).toInt64) ||| (((x.toUInt64 >>> ((4 : Int32) &&& 0x3f).toInt64.toUInt64).toInt64) &&& (1085102592571150095 : Int64)))
def own_rev (x : Int64) : Int64 := own_rb (own_r4 (own_r2 (own_r1 x)))
theorem own_nlt {i j p : Int32} (hij : i < j) (h : ¬ i < p) : ¬ j < p := fun q => h (Int32.lt_trans hij q)
def own_ones (k : Int32) : Int64 := if (own_wid k) = (64 : Int32) then (-1 : Int64) else (((1 : Int64) <<< ((own_wid k) &&& 0x3f).toInt64) - (1 : Int64))
def own_raw1 (po : Int64) (wi : Int32) : Int64 := (((own_rev po).toUInt64 >>> (((64 : Int32) - wi) &&& 0x3f).toInt64.toUInt64).toInt64)
def own_raw2 (wi : Int32) : Int64 := ((1 : Int64) <<< ((wi - (1 : Int32)) &&& 0x3f).toInt64)
theorem own_k (k : Int32) : ∃ w : Nat, 2 ≤ w ∧ w ≤ 64 ∧ (((own_rev (own_poly k)).toUInt64 >>> (((64 : Int32) - (own_wid k)) &&& 0x3f).toInt64.toUInt64).toInt64) = own_ref k ∧ own_In w (own_ref k).toBitVec ∧ ((1 : Int64) <<< (((own_wid k) - (1 : Int32)) &&& 0x3f).toInt64) = own_tm w ∧ own_In w (own_ones k).toBitVec := by
  show ∃ w : Nat, 2 ≤ w ∧ w ≤ 64 ∧ own_raw1 (own_poly k) (own_wid k) = own_ref k ∧ own_In w (own_ref k).toBitVec ∧ own_raw2 (own_wid k) = own_tm w ∧ own_In w (own_ones k).toBitVec
  by_cases h0 : k = (0 : Int32)
  · subst h0
    exact ⟨3, by decide, by decide, by decide +kernel, own_In_lt (by decide +kernel), by decide +kernel, own_In_lt (by decide +kernel)⟩
  by_cases h1 : k = (1 : Int32)
  · subst h1
    exact ⟨5, by decide, by decide, by decide +kernel, own_In_lt (by decide +kernel), by decide +kernel, own_In_lt (by decide +kernel)⟩
  by_cases h2 : k = (2 : Int32)
  · subst h2
    exact ⟨8, by decide, by decide, by decide +kernel, own_In_lt (by decide +kernel), by decide +kernel, own_In_lt (by decide +kernel)⟩
  by_cases h3 : k = (3 : Int32)
  · subst h3
    exact ⟨16, by decide, by decide, by decide +kernel, own_In_lt (by decide +kernel), by decide +kernel, own_In_lt (by decide +kernel)⟩
  by_cases h4 : k = (4 : Int32)
  · subst h4
    exact ⟨32, by decide, by decide, by decide +kernel, own_In_lt (by decide +kernel), by decide +kernel, own_In_lt (by decide +kernel)⟩
  by_cases h5 : k = (5 : Int32)
  · subst h5
    exact ⟨32, by decide, by decide, by decide +kernel, own_In_lt (by decide +kernel), by decide +kernel, own_In_lt (by decide +kernel)⟩
  by_cases h6 : k = (6 : Int32)
  · subst h6
    exact ⟨64, by decide, by decide, by decide +kernel, own_In_lt (by decide +kernel), by decide +kernel, own_In_lt (by decide +kernel)⟩
  have e1 : own_poly k = (4823603603198064275 : Int64) := by rw [own_poly, if_neg h0, if_neg h1, if_neg h2, if_neg h3, if_neg h4, if_neg h5, if_neg h6]
  have e2 : own_wid k = (64 : Int32) := by rw [own_wid, if_neg h0, if_neg h1, if_neg h2, if_neg h3, if_neg h4, if_neg h5]
  have e3 : own_ref k = (-3932672073523589310 : Int64) := by rw [own_ref, if_neg h0, if_neg h1, if_neg h2, if_neg h3, if_neg h4, if_neg h5, if_neg h6]
  have e4 : own_ones k = (-1 : Int64) := by rw [own_ones, if_pos e2]
  rw [e1, e2, e3, e4]
  exact ⟨64, by decide, by decide, by decide +kernel, own_In_lt (by decide +kernel), by decide +kernel, own_In_lt (by decide +kernel)⟩
theorem d4_0 : decode prog_13_method_1_code 0 = .ok (.aload_n 0, 1) := by decide +kernel
theorem d4_1 : decode prog_13_method_1_code 1 = .ok (.invokespecial 1, 3) := by decide +kernel
theorem d4_4 : decode prog_13_method_1_code 4 = .ok (.aload_n 0, 1) := by decide +kernel
theorem d4_5 : decode prog_13_method_1_code 5 = .ok (.lload_n 1, 1) := by decide +kernel
theorem d4_6 : decode prog_13_method_1_code 6 = .ok (.invokestatic 7, 3) := by decide +kernel
theorem d4_9 : decode prog_13_method_1_code 9 = .ok (.bipush 64, 2) := by decide +kernel
theorem d4_11 : decode prog_13_method_1_code 11 = .ok (.iload_n 3, 1) := by decide +kernel
theorem d4_12 : decode prog_13_method_1_code 12 = .ok (.isub, 1) := by decide +kernel
theorem d4_13 : decode prog_13_method_1_code 13 = .ok (.lushr, 1) := by decide +kernel
theorem d4_14 : decode prog_13_method_1_code 14 = .ok (.putfield 13, 3) := by decide +kernel
theorem d4_17 : decode prog_13_method_1_code 17 = .ok (.aload_n 0, 1) := by decide +kernel
theorem d4_18 : decode prog_13_method_1_code 18 = .ok (.lconst 1, 1) := by decide +kernel
theorem d4_19 : decode prog_13_method_1_code 19 = .ok (.iload_n 3, 1) := by decide +kernel
theorem d4_20 : decode prog_13_method_1_code 20 = .ok (.iconst 1, 1) := by decide +kernel
theorem d4_21 : decode prog_13_method_1_code 21 = .ok (.isub, 1) := by decide +kernel
theorem d4_22 : decode prog_13_method_1_code 22 = .ok (.lshl, 1) := by decide +kernel
theorem d4_23 : decode prog_13_method_1_code 23 = .ok (.putfield 19, 3) := by decide +kernel
theorem d4_26 : decode prog_13_method_1_code 26 = .ok (.return_, 1) := by decide +kernel
theorem pn_4 : plainName "com/example/latchkey/latchkey/server/gateway/CrcCombination" = true := by first | (simp [plainName, overriddenIn]; done) | decide +kernel
theorem d1_0 : decode method_3_code 0 = .ok (.iload_n 0, 1) := by decide +kernel
theorem d1_1 : decode method_3_code 1 = .ok (.ifCond .ne 7, 3) := by decide +kernel
theorem d1_4 : decode method_3_code 4 = .ok (.ldc2_w 40, 3) := by decide +kernel
theorem d1_7 : decode method_3_code 7 = .ok (.lreturn, 1) := by decide +kernel
theorem d1_8 : decode method_3_code 8 = .ok (.iload_n 0, 1) := by decide +kernel
theorem d1_9 : decode method_3_code 9 = .ok (.iconst 1, 1) := by decide +kernel
theorem d1_10 : decode method_3_code 10 = .ok (.if_icmp .ne 7, 3) := by decide +kernel
theorem d1_13 : decode method_3_code 13 = .ok (.ldc2_w 42, 3) := by decide +kernel
theorem d1_16 : decode method_3_code 16 = .ok (.lreturn, 1) := by decide +kernel
theorem d1_17 : decode method_3_code 17 = .ok (.iload_n 0, 1) := by decide +kernel
theorem d1_18 : decode method_3_code 18 = .ok (.iconst 2, 1) := by decide +kernel
theorem d1_19 : decode method_3_code 19 = .ok (.if_icmp .ne 7, 3) := by decide +kernel
theorem d1_22 : decode method_3_code 22 = .ok (.ldc2_w 44, 3) := by decide +kernel
theorem d1_25 : decode method_3_code 25 = .ok (.lreturn, 1) := by decide +kernel
theorem d1_26 : decode method_3_code 26 = .ok (.iload_n 0, 1) := by decide +kernel
theorem d1_27 : decode method_3_code 27 = .ok (.iconst 3, 1) := by decide +kernel
theorem d1_28 : decode method_3_code 28 = .ok (.if_icmp .ne 7, 3) := by decide +kernel
theorem d1_31 : decode method_3_code 31 = .ok (.ldc2_w 46, 3) := by decide +kernel
theorem d1_34 : decode method_3_code 34 = .ok (.lreturn, 1) := by decide +kernel
theorem d1_35 : decode method_3_code 35 = .ok (.iload_n 0, 1) := by decide +kernel
theorem d1_36 : decode method_3_code 36 = .ok (.iconst 4, 1) := by decide +kernel
theorem d1_37 : decode method_3_code 37 = .ok (.if_icmp .ne 7, 3) := by decide +kernel
theorem d1_40 : decode method_3_code 40 = .ok (.ldc2_w 48, 3) := by decide +kernel
theorem d1_43 : decode method_3_code 43 = .ok (.lreturn, 1) := by decide +kernel
theorem d1_44 : decode method_3_code 44 = .ok (.iload_n 0, 1) := by decide +kernel
theorem d1_45 : decode method_3_code 45 = .ok (.iconst 5, 1) := by decide +kernel
theorem d1_46 : decode method_3_code 46 = .ok (.if_icmp .ne 7, 3) := by decide +kernel
theorem d1_49 : decode method_3_code 49 = .ok (.ldc2_w 50, 3) := by decide +kernel
theorem d1_52 : decode method_3_code 52 = .ok (.lreturn, 1) := by decide +kernel
theorem d1_53 : decode method_3_code 53 = .ok (.iload_n 0, 1) := by decide +kernel
theorem d1_54 : decode method_3_code 54 = .ok (.bipush 6, 2) := by decide +kernel
theorem d1_56 : decode method_3_code 56 = .ok (.if_icmp .ne 7, 3) := by decide +kernel
theorem d1_59 : decode method_3_code 59 = .ok (.ldc2_w 52, 3) := by decide +kernel
theorem d1_62 : decode method_3_code 62 = .ok (.lreturn, 1) := by decide +kernel
theorem d1_63 : decode method_3_code 63 = .ok (.ldc2_w 54, 3) := by decide +kernel
theorem d1_66 : decode method_3_code 66 = .ok (.lreturn, 1) := by decide +kernel
theorem pn_1 : plainName "com/example/latchkey/latchkey/server/gateway/CrcCombinationCombinePinLaw" = true := by first | (simp [plainName, overriddenIn]; done) | decide +kernel
theorem d2_0 : decode method_4_code 0 = .ok (.iload_n 0, 1) := by decide +kernel
theorem d2_1 : decode method_4_code 1 = .ok (.ifCond .ne 5, 3) := by decide +kernel
theorem d2_4 : decode method_4_code 4 = .ok (.iconst 3, 1) := by decide +kernel
theorem d2_5 : decode method_4_code 5 = .ok (.ireturn, 1) := by decide +kernel
theorem d2_6 : decode method_4_code 6 = .ok (.iload_n 0, 1) := by decide +kernel
theorem d2_7 : decode method_4_code 7 = .ok (.iconst 1, 1) := by decide +kernel
theorem d2_8 : decode method_4_code 8 = .ok (.if_icmp .ne 5, 3) := by decide +kernel
theorem d2_11 : decode method_4_code 11 = .ok (.iconst 5, 1) := by decide +kernel
theorem d2_12 : decode method_4_code 12 = .ok (.ireturn, 1) := by decide +kernel
theorem d2_13 : decode method_4_code 13 = .ok (.iload_n 0, 1) := by decide +kernel
theorem d2_14 : decode method_4_code 14 = .ok (.iconst 2, 1) := by decide +kernel
theorem d2_15 : decode method_4_code 15 = .ok (.if_icmp .ne 6, 3) := by decide +kernel
theorem d2_18 : decode method_4_code 18 = .ok (.bipush 8, 2) := by decide +kernel
theorem d2_20 : decode method_4_code 20 = .ok (.ireturn, 1) := by decide +kernel
theorem d2_21 : decode method_4_code 21 = .ok (.iload_n 0, 1) := by decide +kernel
theorem d2_22 : decode method_4_code 22 = .ok (.iconst 3, 1) := by decide +kernel
theorem d2_23 : decode method_4_code 23 = .ok (.if_icmp .ne 6, 3) := by decide +kernel
theorem d2_26 : decode method_4_code 26 = .ok (.bipush 16, 2) := by decide +kernel
theorem d2_28 : decode method_4_code 28 = .ok (.ireturn, 1) := by decide +kernel
theorem d2_29 : decode method_4_code 29 = .ok (.iload_n 0, 1) := by decide +kernel
theorem d2_30 : decode method_4_code 30 = .ok (.iconst 4, 1) := by decide +kernel
theorem d2_31 : decode method_4_code 31 = .ok (.if_icmp .ne 6, 3) := by decide +kernel
theorem d2_34 : decode method_4_code 34 = .ok (.bipush 32, 2) := by decide +kernel
theorem d2_36 : decode method_4_code 36 = .ok (.ireturn, 1) := by decide +kernel
theorem d2_37 : decode method_4_code 37 = .ok (.iload_n 0, 1) := by decide +kernel
theorem d2_38 : decode method_4_code 38 = .ok (.iconst 5, 1) := by decide +kernel
theorem d2_39 : decode method_4_code 39 = .ok (.if_icmp .ne 6, 3) := by decide +kernel
theorem d2_42 : decode method_4_code 42 = .ok (.bipush 32, 2) := by decide +kernel
theorem d2_44 : decode method_4_code 44 = .ok (.ireturn, 1) := by decide +kernel
theorem d2_45 : decode method_4_code 45 = .ok (.bipush 64, 2) := by decide +kernel
theorem d2_47 : decode method_4_code 47 = .ok (.ireturn, 1) := by decide +kernel
theorem pn_2 : plainName "com/example/latchkey/latchkey/server/gateway/CrcCombinationCombinePinLaw" = true := by first | (simp [plainName, overriddenIn]; done) | decide +kernel
theorem d3_0 : decode method_5_code 0 = .ok (.iload_n 0, 1) := by decide +kernel
theorem d3_1 : decode method_5_code 1 = .ok (.ifCond .ne 7, 3) := by decide +kernel
theorem d3_4 : decode method_5_code 4 = .ok (.ldc2_w 56, 3) := by decide +kernel
theorem d3_7 : decode method_5_code 7 = .ok (.lreturn, 1) := by decide +kernel
theorem d3_8 : decode method_5_code 8 = .ok (.iload_n 0, 1) := by decide +kernel
theorem d3_9 : decode method_5_code 9 = .ok (.iconst 1, 1) := by decide +kernel
theorem d3_10 : decode method_5_code 10 = .ok (.if_icmp .ne 7, 3) := by decide +kernel
theorem d3_13 : decode method_5_code 13 = .ok (.ldc2_w 58, 3) := by decide +kernel
theorem d3_16 : decode method_5_code 16 = .ok (.lreturn, 1) := by decide +kernel
theorem d3_17 : decode method_5_code 17 = .ok (.iload_n 0, 1) := by decide +kernel
theorem d3_18 : decode method_5_code 18 = .ok (.iconst 2, 1) := by decide +kernel
theorem d3_19 : decode method_5_code 19 = .ok (.if_icmp .ne 7, 3) := by decide +kernel
theorem d3_22 : decode method_5_code 22 = .ok (.ldc2_w 60, 3) := by decide +kernel
theorem d3_25 : decode method_5_code 25 = .ok (.lreturn, 1) := by decide +kernel
theorem d3_26 : decode method_5_code 26 = .ok (.iload_n 0, 1) := by decide +kernel
theorem d3_27 : decode method_5_code 27 = .ok (.iconst 3, 1) := by decide +kernel
theorem d3_28 : decode method_5_code 28 = .ok (.if_icmp .ne 7, 3) := by decide +kernel
theorem d3_31 : decode method_5_code 31 = .ok (.ldc2_w 62, 3) := by decide +kernel
theorem d3_34 : decode method_5_code 34 = .ok (.lreturn, 1) := by decide +kernel
theorem d3_35 : decode method_5_code 35 = .ok (.iload_n 0, 1) := by decide +kernel
theorem d3_36 : decode method_5_code 36 = .ok (.iconst 4, 1) := by decide +kernel
theorem d3_37 : decode method_5_code 37 = .ok (.if_icmp .ne 7, 3) := by decide +kernel
theorem d3_40 : decode method_5_code 40 = .ok (.ldc2_w 64, 3) := by decide +kernel
theorem d3_43 : decode method_5_code 43 = .ok (.lreturn, 1) := by decide +kernel
theorem d3_44 : decode method_5_code 44 = .ok (.iload_n 0, 1) := by decide +kernel
theorem d3_45 : decode method_5_code 45 = .ok (.iconst 5, 1) := by decide +kernel
theorem d3_46 : decode method_5_code 46 = .ok (.if_icmp .ne 7, 3) := by decide +kernel
theorem d3_49 : decode method_5_code 49 = .ok (.ldc2_w 66, 3) := by decide +kernel
theorem d3_52 : decode method_5_code 52 = .ok (.lreturn, 1) := by decide +kernel
theorem d3_53 : decode method_5_code 53 = .ok (.iload_n 0, 1) := by decide +kernel
theorem d3_54 : decode method_5_code 54 = .ok (.bipush 6, 2) := by decide +kernel
theorem d3_56 : decode method_5_code 56 = .ok (.if_icmp .ne 7, 3) := by decide +kernel
theorem d3_59 : decode method_5_code 59 = .ok (.ldc2_w 68, 3) := by decide +kernel
theorem d3_62 : decode method_5_code 62 = .ok (.lreturn, 1) := by decide +kernel
theorem d3_63 : decode method_5_code 63 = .ok (.ldc2_w 70, 3) := by decide +kernel
theorem d3_66 : decode method_5_code 66 = .ok (.lreturn, 1) := by decide +kernel
theorem pn_3 : plainName "com/example/latchkey/latchkey/server/gateway/CrcCombinationCombinePinLaw" = true := by first | (simp [plainName, overriddenIn]; done) | decide +kernel
theorem d6_0 : decode jdk_35_method_53_code 0 = .ok (.lload_n 0, 1) := by decide +kernel
theorem d6_1 : decode jdk_35_method_53_code 1 = .ok (.ldc2_w 314, 3) := by decide +kernel
theorem d6_4 : decode jdk_35_method_53_code 4 = .ok (.land, 1) := by decide +kernel
theorem d6_5 : decode jdk_35_method_53_code 5 = .ok (.iconst 1, 1) := by decide +kernel
theorem d6_6 : decode jdk_35_method_53_code 6 = .ok (.lshl, 1) := by decide +kernel
theorem d6_7 : decode jdk_35_method_53_code 7 = .ok (.lload_n 0, 1) := by decide +kernel
theorem d6_8 : decode jdk_35_method_53_code 8 = .ok (.iconst 1, 1) := by decide +kernel
theorem d6_9 : decode jdk_35_method_53_code 9 = .ok (.lushr, 1) := by decide +kernel
theorem d6_10 : decode jdk_35_method_53_code 10 = .ok (.ldc2_w 314, 3) := by decide +kernel
theorem d6_13 : decode jdk_35_method_53_code 13 = .ok (.land, 1) := by decide +kernel
theorem d6_14 : decode jdk_35_method_53_code 14 = .ok (.lor, 1) := by decide +kernel
theorem d6_15 : decode jdk_35_method_53_code 15 = .ok (.lstore_n 0, 1) := by decide +kernel
theorem d6_16 : decode jdk_35_method_53_code 16 = .ok (.lload_n 0, 1) := by decide +kernel
theorem d6_17 : decode jdk_35_method_53_code 17 = .ok (.ldc2_w 316, 3) := by decide +kernel
theorem d6_20 : decode jdk_35_method_53_code 20 = .ok (.land, 1) := by decide +kernel
theorem d6_21 : decode jdk_35_method_53_code 21 = .ok (.iconst 2, 1) := by decide +kernel
theorem d6_22 : decode jdk_35_method_53_code 22 = .ok (.lshl, 1) := by decide +kernel
theorem d6_23 : decode jdk_35_method_53_code 23 = .ok (.lload_n 0, 1) := by decide +kernel
theorem d6_24 : decode jdk_35_method_53_code 24 = .ok (.iconst 2, 1) := by decide +kernel
theorem d6_25 : decode jdk_35_method_53_code 25 = .ok (.lushr, 1) := by decide +kernel
theorem d6_26 : decode jdk_35_method_53_code 26 = .ok (.ldc2_w 316, 3) := by decide +kernel
theorem d6_29 : decode jdk_35_method_53_code 29 = .ok (.land, 1) := by decide +kernel
theorem d6_30 : decode jdk_35_method_53_code 30 = .ok (.lor, 1) := by decide +kernel
theorem d6_31 : decode jdk_35_method_53_code 31 = .ok (.lstore_n 0, 1) := by decide +kernel
theorem d6_32 : decode jdk_35_method_53_code 32 = .ok (.lload_n 0, 1) := by decide +kernel
theorem d6_33 : decode jdk_35_method_53_code 33 = .ok (.ldc2_w 318, 3) := by decide +kernel
theorem d6_36 : decode jdk_35_method_53_code 36 = .ok (.land, 1) := by decide +kernel
theorem d6_37 : decode jdk_35_method_53_code 37 = .ok (.iconst 4, 1) := by decide +kernel
theorem d6_38 : decode jdk_35_method_53_code 38 = .ok (.lshl, 1) := by decide +kernel
theorem d6_39 : decode jdk_35_method_53_code 39 = .ok (.lload_n 0, 1) := by decide +kernel
theorem d6_40 : decode jdk_35_method_53_code 40 = .ok (.iconst 4, 1) := by decide +kernel
theorem d6_41 : decode jdk_35_method_53_code 41 = .ok (.lushr, 1) := by decide +kernel
theorem d6_42 : decode jdk_35_method_53_code 42 = .ok (.ldc2_w 318, 3) := by decide +kernel
theorem d6_45 : decode jdk_35_method_53_code 45 = .ok (.land, 1) := by decide +kernel
theorem d6_46 : decode jdk_35_method_53_code 46 = .ok (.lor, 1) := by decide +kernel
theorem d6_47 : decode jdk_35_method_53_code 47 = .ok (.lstore_n 0, 1) := by decide +kernel
theorem d6_48 : decode jdk_35_method_53_code 48 = .ok (.lload_n 0, 1) := by decide +kernel
theorem d6_49 : decode jdk_35_method_53_code 49 = .ok (.invokestatic 320, 3) := by decide +kernel
theorem d6_52 : decode jdk_35_method_53_code 52 = .ok (.lreturn, 1) := by decide +kernel
theorem pn_6 : plainName "java/lang/Long" = true := by first | (simp [plainName, overriddenIn]; done) | decide +kernel
theorem d7_0 : decode jdk_35_method_58_code 0 = .ok (.lload_n 0, 1) := by decide +kernel
theorem d7_1 : decode jdk_35_method_58_code 1 = .ok (.ldc2_w 327, 3) := by decide +kernel
theorem d7_4 : decode jdk_35_method_58_code 4 = .ok (.land, 1) := by decide +kernel
theorem d7_5 : decode jdk_35_method_58_code 5 = .ok (.bipush 8, 2) := by decide +kernel
theorem d7_7 : decode jdk_35_method_58_code 7 = .ok (.lshl, 1) := by decide +kernel
theorem d7_8 : decode jdk_35_method_58_code 8 = .ok (.lload_n 0, 1) := by decide +kernel
theorem d7_9 : decode jdk_35_method_58_code 9 = .ok (.bipush 8, 2) := by decide +kernel
theorem d7_11 : decode jdk_35_method_58_code 11 = .ok (.lushr, 1) := by decide +kernel
theorem d7_12 : decode jdk_35_method_58_code 12 = .ok (.ldc2_w 327, 3) := by decide +kernel
theorem d7_15 : decode jdk_35_method_58_code 15 = .ok (.land, 1) := by decide +kernel
theorem d7_16 : decode jdk_35_method_58_code 16 = .ok (.lor, 1) := by decide +kernel
theorem d7_17 : decode jdk_35_method_58_code 17 = .ok (.lstore_n 0, 1) := by decide +kernel
theorem d7_18 : decode jdk_35_method_58_code 18 = .ok (.lload_n 0, 1) := by decide +kernel
theorem d7_19 : decode jdk_35_method_58_code 19 = .ok (.bipush 48, 2) := by decide +kernel
theorem d7_21 : decode jdk_35_method_58_code 21 = .ok (.lshl, 1) := by decide +kernel
theorem d7_22 : decode jdk_35_method_58_code 22 = .ok (.lload_n 0, 1) := by decide +kernel
theorem d7_23 : decode jdk_35_method_58_code 23 = .ok (.ldc2_w 329, 3) := by decide +kernel
theorem d7_26 : decode jdk_35_method_58_code 26 = .ok (.land, 1) := by decide +kernel
theorem d7_27 : decode jdk_35_method_58_code 27 = .ok (.bipush 16, 2) := by decide +kernel
theorem d7_29 : decode jdk_35_method_58_code 29 = .ok (.lshl, 1) := by decide +kernel
theorem d7_30 : decode jdk_35_method_58_code 30 = .ok (.lor, 1) := by decide +kernel
theorem d7_31 : decode jdk_35_method_58_code 31 = .ok (.lload_n 0, 1) := by decide +kernel
theorem d7_32 : decode jdk_35_method_58_code 32 = .ok (.bipush 16, 2) := by decide +kernel
theorem d7_34 : decode jdk_35_method_58_code 34 = .ok (.lushr, 1) := by decide +kernel
theorem d7_35 : decode jdk_35_method_58_code 35 = .ok (.ldc2_w 329, 3) := by decide +kernel
theorem d7_38 : decode jdk_35_method_58_code 38 = .ok (.land, 1) := by decide +kernel
theorem d7_39 : decode jdk_35_method_58_code 39 = .ok (.lor, 1) := by decide +kernel
theorem d7_40 : decode jdk_35_method_58_code 40 = .ok (.lload_n 0, 1) := by decide +kernel
theorem d7_41 : decode jdk_35_method_58_code 41 = .ok (.bipush 48, 2) := by decide +kernel
theorem d7_43 : decode jdk_35_method_58_code 43 = .ok (.lushr, 1) := by decide +kernel
theorem d7_44 : decode jdk_35_method_58_code 44 = .ok (.lor, 1) := by decide +kernel
theorem d7_45 : decode jdk_35_method_58_code 45 = .ok (.lreturn, 1) := by decide +kernel
theorem pn_7 : plainName "java/lang/Long" = true := by first | (simp [plainName, overriddenIn]; done) | decide +kernel
theorem d8_0 : decode method_9_code 0 = .ok (.lload 5, 2) := by decide +kernel
theorem d8_2 : decode method_9_code 2 = .ok (.lstore 7, 2) := by decide +kernel
theorem d8_4 : decode method_9_code 4 = .ok (.iload_n 2, 1) := by decide +kernel
theorem d8_5 : decode method_9_code 5 = .ok (.ifCond .le 16, 3) := by decide +kernel
theorem d8_8 : decode method_9_code 8 = .ok (.lload 7, 2) := by decide +kernel
theorem d8_10 : decode method_9_code 10 = .ok (.lload_n 0, 1) := by decide +kernel
theorem d8_11 : decode method_9_code 11 = .ok (.ldc2_w 75, 3) := by decide +kernel
theorem d8_14 : decode method_9_code 14 = .ok (.land, 1) := by decide +kernel
theorem d8_15 : decode method_9_code 15 = .ok (.lload_n 3, 1) := by decide +kernel
theorem d8_16 : decode method_9_code 16 = .ok (.invokestatic 77, 3) := by decide +kernel
theorem d8_19 : decode method_9_code 19 = .ok (.lstore 7, 2) := by decide +kernel
theorem d8_21 : decode method_9_code 21 = .ok (.iload_n 2, 1) := by decide +kernel
theorem d8_22 : decode method_9_code 22 = .ok (.iconst 1, 1) := by decide +kernel
theorem d8_23 : decode method_9_code 23 = .ok (.if_icmp .le 19, 3) := by decide +kernel
theorem d8_26 : decode method_9_code 26 = .ok (.lload 7, 2) := by decide +kernel
theorem d8_28 : decode method_9_code 28 = .ok (.lload_n 0, 1) := by decide +kernel
theorem d8_29 : decode method_9_code 29 = .ok (.bipush 8, 2) := by decide +kernel
theorem d8_31 : decode method_9_code 31 = .ok (.lushr, 1) := by decide +kernel
theorem d8_32 : decode method_9_code 32 = .ok (.ldc2_w 75, 3) := by decide +kernel
theorem d8_35 : decode method_9_code 35 = .ok (.land, 1) := by decide +kernel
theorem d8_36 : decode method_9_code 36 = .ok (.lload_n 3, 1) := by decide +kernel
theorem d8_37 : decode method_9_code 37 = .ok (.invokestatic 77, 3) := by decide +kernel
theorem d8_40 : decode method_9_code 40 = .ok (.lstore 7, 2) := by decide +kernel
theorem d8_42 : decode method_9_code 42 = .ok (.iload_n 2, 1) := by decide +kernel
theorem d8_43 : decode method_9_code 43 = .ok (.iconst 2, 1) := by decide +kernel
theorem d8_44 : decode method_9_code 44 = .ok (.if_icmp .le 19, 3) := by decide +kernel
theorem d8_47 : decode method_9_code 47 = .ok (.lload 7, 2) := by decide +kernel
theorem d8_49 : decode method_9_code 49 = .ok (.lload_n 0, 1) := by decide +kernel
theorem d8_50 : decode method_9_code 50 = .ok (.bipush 16, 2) := by decide +kernel
theorem d8_52 : decode method_9_code 52 = .ok (.lushr, 1) := by decide +kernel
theorem d8_53 : decode method_9_code 53 = .ok (.ldc2_w 75, 3) := by decide +kernel
theorem d8_56 : decode method_9_code 56 = .ok (.land, 1) := by decide +kernel
theorem d8_57 : decode method_9_code 57 = .ok (.lload_n 3, 1) := by decide +kernel
theorem d8_58 : decode method_9_code 58 = .ok (.invokestatic 77, 3) := by decide +kernel
theorem d8_61 : decode method_9_code 61 = .ok (.lstore 7, 2) := by decide +kernel
theorem d8_63 : decode method_9_code 63 = .ok (.iload_n 2, 1) := by decide +kernel
theorem d8_64 : decode method_9_code 64 = .ok (.iconst 3, 1) := by decide +kernel
theorem d8_65 : decode method_9_code 65 = .ok (.if_icmp .le 19, 3) := by decide +kernel
theorem d8_68 : decode method_9_code 68 = .ok (.lload 7, 2) := by decide +kernel
theorem d8_70 : decode method_9_code 70 = .ok (.lload_n 0, 1) := by decide +kernel
theorem d8_71 : decode method_9_code 71 = .ok (.bipush 24, 2) := by decide +kernel
theorem d8_73 : decode method_9_code 73 = .ok (.lushr, 1) := by decide +kernel
theorem d8_74 : decode method_9_code 74 = .ok (.ldc2_w 75, 3) := by decide +kernel
theorem d8_77 : decode method_9_code 77 = .ok (.land, 1) := by decide +kernel
theorem d8_78 : decode method_9_code 78 = .ok (.lload_n 3, 1) := by decide +kernel
theorem d8_79 : decode method_9_code 79 = .ok (.invokestatic 77, 3) := by decide +kernel
theorem d8_82 : decode method_9_code 82 = .ok (.lstore 7, 2) := by decide +kernel
theorem d8_84 : decode method_9_code 84 = .ok (.iload_n 2, 1) := by decide +kernel
theorem d8_85 : decode method_9_code 85 = .ok (.iconst 4, 1) := by decide +kernel
theorem d8_86 : decode method_9_code 86 = .ok (.if_icmp .le 19, 3) := by decide +kernel
theorem d8_89 : decode method_9_code 89 = .ok (.lload 7, 2) := by decide +kernel
theorem d8_91 : decode method_9_code 91 = .ok (.lload_n 0, 1) := by decide +kernel
theorem d8_92 : decode method_9_code 92 = .ok (.bipush 32, 2) := by decide +kernel
theorem d8_94 : decode method_9_code 94 = .ok (.lushr, 1) := by decide +kernel
theorem d8_95 : decode method_9_code 95 = .ok (.ldc2_w 75, 3) := by decide +kernel
theorem d8_98 : decode method_9_code 98 = .ok (.land, 1) := by decide +kernel
theorem d8_99 : decode method_9_code 99 = .ok (.lload_n 3, 1) := by decide +kernel
theorem d8_100 : decode method_9_code 100 = .ok (.invokestatic 77, 3) := by decide +kernel
theorem d8_103 : decode method_9_code 103 = .ok (.lstore 7, 2) := by decide +kernel
theorem d8_105 : decode method_9_code 105 = .ok (.iload_n 2, 1) := by decide +kernel
theorem d8_106 : decode method_9_code 106 = .ok (.iconst 5, 1) := by decide +kernel
theorem d8_107 : decode method_9_code 107 = .ok (.if_icmp .le 19, 3) := by decide +kernel
theorem d8_110 : decode method_9_code 110 = .ok (.lload 7, 2) := by decide +kernel
theorem d8_112 : decode method_9_code 112 = .ok (.lload_n 0, 1) := by decide +kernel
theorem d8_113 : decode method_9_code 113 = .ok (.bipush 40, 2) := by decide +kernel
theorem d8_115 : decode method_9_code 115 = .ok (.lushr, 1) := by decide +kernel
theorem d8_116 : decode method_9_code 116 = .ok (.ldc2_w 75, 3) := by decide +kernel
theorem d8_119 : decode method_9_code 119 = .ok (.land, 1) := by decide +kernel
theorem d8_120 : decode method_9_code 120 = .ok (.lload_n 3, 1) := by decide +kernel
theorem d8_121 : decode method_9_code 121 = .ok (.invokestatic 77, 3) := by decide +kernel
theorem d8_124 : decode method_9_code 124 = .ok (.lstore 7, 2) := by decide +kernel
theorem d8_126 : decode method_9_code 126 = .ok (.lload 7, 2) := by decide +kernel
theorem d8_128 : decode method_9_code 128 = .ok (.lload 5, 2) := by decide +kernel
theorem d8_130 : decode method_9_code 130 = .ok (.lxor, 1) := by decide +kernel
theorem d8_131 : decode method_9_code 131 = .ok (.lreturn, 1) := by decide +kernel
theorem pn_8 : plainName "com/example/latchkey/latchkey/server/gateway/CrcCombinationCombinePinLaw" = true := by first | (simp [plainName, overriddenIn]; done) | decide +kernel
theorem d9_0 : decode method_6_code 0 = .ok (.iload_n 0, 1) := by decide +kernel
theorem d9_1 : decode method_6_code 1 = .ok (.ifCond .ne 5, 3) := by decide +kernel
theorem d9_4 : decode method_6_code 4 = .ok (.lconst 0, 1) := by decide +kernel
theorem d9_5 : decode method_6_code 5 = .ok (.lreturn, 1) := by decide +kernel
theorem d9_6 : decode method_6_code 6 = .ok (.lconst 1, 1) := by decide +kernel
theorem d9_7 : decode method_6_code 7 = .ok (.bipush 8, 2) := by decide +kernel
theorem d9_9 : decode method_6_code 9 = .ok (.iload_n 0, 1) := by decide +kernel
theorem d9_10 : decode method_6_code 10 = .ok (.imul, 1) := by decide +kernel
theorem d9_11 : decode method_6_code 11 = .ok (.lshl, 1) := by decide +kernel
theorem d9_12 : decode method_6_code 12 = .ok (.lconst 1, 1) := by decide +kernel
theorem d9_13 : decode method_6_code 13 = .ok (.lsub, 1) := by decide +kernel
theorem d9_14 : decode method_6_code 14 = .ok (.lreturn, 1) := by decide +kernel
theorem pn_9 : plainName "com/example/latchkey/latchkey/server/gateway/CrcCombinationCombinePinLaw" = true := by first | (simp [plainName, overriddenIn]; done) | decide +kernel
theorem d10_0 : decode prog_13_method_2_code 0 = .ok (.aload_n 0, 1) := by decide +kernel
theorem d10_1 : decode prog_13_method_2_code 1 = .ok (.lload_n 1, 1) := by decide +kernel
theorem d10_2 : decode prog_13_method_2_code 2 = .ok (.aload_n 0, 1) := by decide +kernel
theorem d10_3 : decode prog_13_method_2_code 3 = .ok (.ldc2_w 24, 3) := by decide +kernel
theorem d10_6 : decode prog_13_method_2_code 6 = .ok (.lload 5, 2) := by decide +kernel
theorem d10_8 : decode prog_13_method_2_code 8 = .ok (.lmul, 1) := by decide +kernel
theorem d10_9 : decode prog_13_method_2_code 9 = .ok (.invokevirtual 26, 3) := by decide +kernel
theorem d10_12 : decode prog_13_method_2_code 12 = .ok (.invokevirtual 29, 3) := by decide +kernel
theorem d10_15 : decode prog_13_method_2_code 15 = .ok (.lload_n 3, 1) := by decide +kernel
theorem d10_16 : decode prog_13_method_2_code 16 = .ok (.lxor, 1) := by decide +kernel
theorem d10_17 : decode prog_13_method_2_code 17 = .ok (.lreturn, 1) := by decide +kernel
theorem pn_10 : plainName "com/example/latchkey/latchkey/server/gateway/CrcCombination" = true := by first | (simp [plainName, overriddenIn]; done) | decide +kernel
theorem d11_0 : decode prog_13_method_3_code 0 = .ok (.aload_n 0, 1) := by decide +kernel
theorem d11_1 : decode prog_13_method_3_code 1 = .ok (.getfield 19, 3) := by decide +kernel
theorem d11_4 : decode prog_13_method_3_code 4 = .ok (.lstore_n 3, 1) := by decide +kernel
theorem d11_5 : decode prog_13_method_3_code 5 = .ok (.aload_n 0, 1) := by decide +kernel
theorem d11_6 : decode prog_13_method_3_code 6 = .ok (.getfield 19, 3) := by decide +kernel
theorem d11_9 : decode prog_13_method_3_code 9 = .ok (.iconst 1, 1) := by decide +kernel
theorem d11_10 : decode prog_13_method_3_code 10 = .ok (.lushr, 1) := by decide +kernel
theorem d11_11 : decode prog_13_method_3_code 11 = .ok (.lstore 5, 2) := by decide +kernel
theorem d11_13 : decode prog_13_method_3_code 13 = .ok (.lload_n 1, 1) := by decide +kernel
theorem d11_14 : decode prog_13_method_3_code 14 = .ok (.lstore 7, 2) := by decide +kernel
theorem d11_16 : decode prog_13_method_3_code 16 = .ok (.lload 7, 2) := by decide +kernel
theorem d11_18 : decode prog_13_method_3_code 18 = .ok (.lconst 0, 1) := by decide +kernel
theorem d11_19 : decode prog_13_method_3_code 19 = .ok (.lcmp, 1) := by decide +kernel
theorem d11_20 : decode prog_13_method_3_code 20 = .ok (.ifCond .eq 39, 3) := by decide +kernel
theorem d11_23 : decode prog_13_method_3_code 23 = .ok (.lload 7, 2) := by decide +kernel
theorem d11_25 : decode prog_13_method_3_code 25 = .ok (.lconst 1, 1) := by decide +kernel
theorem d11_26 : decode prog_13_method_3_code 26 = .ok (.land, 1) := by decide +kernel
theorem d11_27 : decode prog_13_method_3_code 27 = .ok (.lconst 0, 1) := by decide +kernel
theorem d11_28 : decode prog_13_method_3_code 28 = .ok (.lcmp, 1) := by decide +kernel
theorem d11_29 : decode prog_13_method_3_code 29 = .ok (.ifCond .eq 11, 3) := by decide +kernel
theorem d11_32 : decode prog_13_method_3_code 32 = .ok (.aload_n 0, 1) := by decide +kernel
theorem d11_33 : decode prog_13_method_3_code 33 = .ok (.lload_n 3, 1) := by decide +kernel
theorem d11_34 : decode prog_13_method_3_code 34 = .ok (.lload 5, 2) := by decide +kernel
theorem d11_36 : decode prog_13_method_3_code 36 = .ok (.invokevirtual 29, 3) := by decide +kernel
theorem d11_39 : decode prog_13_method_3_code 39 = .ok (.lstore_n 3, 1) := by decide +kernel
theorem d11_40 : decode prog_13_method_3_code 40 = .ok (.aload_n 0, 1) := by decide +kernel
theorem d11_41 : decode prog_13_method_3_code 41 = .ok (.lload 5, 2) := by decide +kernel
theorem d11_43 : decode prog_13_method_3_code 43 = .ok (.lload 5, 2) := by decide +kernel
theorem d11_45 : decode prog_13_method_3_code 45 = .ok (.invokevirtual 29, 3) := by decide +kernel
theorem d11_48 : decode prog_13_method_3_code 48 = .ok (.lstore 5, 2) := by decide +kernel
theorem d11_50 : decode prog_13_method_3_code 50 = .ok (.lload 7, 2) := by decide +kernel
theorem d11_52 : decode prog_13_method_3_code 52 = .ok (.iconst 1, 1) := by decide +kernel
theorem d11_53 : decode prog_13_method_3_code 53 = .ok (.lushr, 1) := by decide +kernel
theorem d11_54 : decode prog_13_method_3_code 54 = .ok (.lstore 7, 2) := by decide +kernel
theorem d11_56 : decode prog_13_method_3_code 56 = .ok (.goto (-40), 3) := by decide +kernel
theorem d11_59 : decode prog_13_method_3_code 59 = .ok (.lload_n 3, 1) := by decide +kernel
theorem d11_60 : decode prog_13_method_3_code 60 = .ok (.lreturn, 1) := by decide +kernel
theorem pn_11 : plainName "com/example/latchkey/latchkey/server/gateway/CrcCombination" = true := by first | (simp [plainName, overriddenIn]; done) | decide +kernel
theorem d12_0 : decode prog_13_method_4_code 0 = .ok (.lconst 0, 1) := by decide +kernel
theorem d12_1 : decode prog_13_method_4_code 1 = .ok (.lstore 5, 2) := by decide +kernel
theorem d12_3 : decode prog_13_method_4_code 3 = .ok (.lload_n 3, 1) := by decide +kernel
theorem d12_4 : decode prog_13_method_4_code 4 = .ok (.lstore 7, 2) := by decide +kernel
theorem d12_6 : decode prog_13_method_4_code 6 = .ok (.aload_n 0, 1) := by decide +kernel
theorem d12_7 : decode prog_13_method_4_code 7 = .ok (.getfield 19, 3) := by decide +kernel
theorem d12_10 : decode prog_13_method_4_code 10 = .ok (.lstore 9, 2) := by decide +kernel
theorem d12_12 : decode prog_13_method_4_code 12 = .ok (.lload 9, 2) := by decide +kernel
theorem d12_14 : decode prog_13_method_4_code 14 = .ok (.lconst 0, 1) := by decide +kernel
theorem d12_15 : decode prog_13_method_4_code 15 = .ok (.lcmp, 1) := by decide +kernel
theorem d12_16 : decode prog_13_method_4_code 16 = .ok (.ifCond .eq 36, 3) := by decide +kernel
theorem d12_19 : decode prog_13_method_4_code 19 = .ok (.lload_n 1, 1) := by decide +kernel
theorem d12_20 : decode prog_13_method_4_code 20 = .ok (.lload 9, 2) := by decide +kernel
theorem d12_22 : decode prog_13_method_4_code 22 = .ok (.land, 1) := by decide +kernel
theorem d12_23 : decode prog_13_method_4_code 23 = .ok (.lconst 0, 1) := by decide +kernel
theorem d12_24 : decode prog_13_method_4_code 24 = .ok (.lcmp, 1) := by decide +kernel
theorem d12_25 : decode prog_13_method_4_code 25 = .ok (.ifCond .eq 10, 3) := by decide +kernel
theorem d12_28 : decode prog_13_method_4_code 28 = .ok (.lload 5, 2) := by decide +kernel
theorem d12_30 : decode prog_13_method_4_code 30 = .ok (.lload 7, 2) := by decide +kernel
theorem d12_32 : decode prog_13_method_4_code 32 = .ok (.lxor, 1) := by decide +kernel
theorem d12_33 : decode prog_13_method_4_code 33 = .ok (.lstore 5, 2) := by decide +kernel
theorem d12_35 : decode prog_13_method_4_code 35 = .ok (.aload_n 0, 1) := by decide +kernel
theorem d12_36 : decode prog_13_method_4_code 36 = .ok (.lload 7, 2) := by decide +kernel
theorem d12_38 : decode prog_13_method_4_code 38 = .ok (.invokevirtual 33, 3) := by decide +kernel
theorem d12_41 : decode prog_13_method_4_code 41 = .ok (.lstore 7, 2) := by decide +kernel
theorem d12_43 : decode prog_13_method_4_code 43 = .ok (.lload 9, 2) := by decide +kernel
theorem d12_45 : decode prog_13_method_4_code 45 = .ok (.iconst 1, 1) := by decide +kernel
theorem d12_46 : decode prog_13_method_4_code 46 = .ok (.lushr, 1) := by decide +kernel
theorem d12_47 : decode prog_13_method_4_code 47 = .ok (.lstore 9, 2) := by decide +kernel
theorem d12_49 : decode prog_13_method_4_code 49 = .ok (.goto (-37), 3) := by decide +kernel
theorem d12_52 : decode prog_13_method_4_code 52 = .ok (.lload 5, 2) := by decide +kernel
theorem d12_54 : decode prog_13_method_4_code 54 = .ok (.lreturn, 1) := by decide +kernel
theorem pn_12 : plainName "com/example/latchkey/latchkey/server/gateway/CrcCombination" = true := by first | (simp [plainName, overriddenIn]; done) | decide +kernel
theorem d13_0 : decode prog_13_method_5_code 0 = .ok (.lload_n 1, 1) := by decide +kernel
theorem d13_1 : decode prog_13_method_5_code 1 = .ok (.lconst 1, 1) := by decide +kernel
theorem d13_2 : decode prog_13_method_5_code 2 = .ok (.land, 1) := by decide +kernel
theorem d13_3 : decode prog_13_method_5_code 3 = .ok (.lconst 0, 1) := by decide +kernel
theorem d13_4 : decode prog_13_method_5_code 4 = .ok (.lcmp, 1) := by decide +kernel
theorem d13_5 : decode prog_13_method_5_code 5 = .ok (.ifCond .eq 14, 3) := by decide +kernel
theorem d13_8 : decode prog_13_method_5_code 8 = .ok (.lload_n 1, 1) := by decide +kernel
theorem d13_9 : decode prog_13_method_5_code 9 = .ok (.iconst 1, 1) := by decide +kernel
theorem d13_10 : decode prog_13_method_5_code 10 = .ok (.lushr, 1) := by decide +kernel
theorem d13_11 : decode prog_13_method_5_code 11 = .ok (.aload_n 0, 1) := by decide +kernel
theorem d13_12 : decode prog_13_method_5_code 12 = .ok (.getfield 13, 3) := by decide +kernel
theorem d13_15 : decode prog_13_method_5_code 15 = .ok (.lxor, 1) := by decide +kernel
theorem d13_16 : decode prog_13_method_5_code 16 = .ok (.goto 6, 3) := by decide +kernel
theorem d13_19 : decode prog_13_method_5_code 19 = .ok (.lload_n 1, 1) := by decide +kernel
theorem d13_20 : decode prog_13_method_5_code 20 = .ok (.iconst 1, 1) := by decide +kernel
theorem d13_21 : decode prog_13_method_5_code 21 = .ok (.lushr, 1) := by decide +kernel
theorem d13_22 : decode prog_13_method_5_code 22 = .ok (.lreturn, 1) := by decide +kernel
theorem pn_13 : plainName "com/example/latchkey/latchkey/server/gateway/CrcCombination" = true := by first | (simp [plainName, overriddenIn]; done) | decide +kernel
theorem d14_0 : decode method_8_code 0 = .ok (.lload_n 0, 1) := by decide +kernel
theorem d14_1 : decode method_8_code 1 = .ok (.lstore 6, 2) := by decide +kernel
theorem d14_3 : decode method_8_code 3 = .ok (.lload 6, 2) := by decide +kernel
theorem d14_5 : decode method_8_code 5 = .ok (.lload_n 2, 1) := by decide +kernel
theorem d14_6 : decode method_8_code 6 = .ok (.lconst 1, 1) := by decide +kernel
theorem d14_7 : decode method_8_code 7 = .ok (.land, 1) := by decide +kernel
theorem d14_8 : decode method_8_code 8 = .ok (.lload 4, 2) := by decide +kernel
theorem d14_10 : decode method_8_code 10 = .ok (.invokestatic 72, 3) := by decide +kernel
theorem d14_13 : decode method_8_code 13 = .ok (.lstore 6, 2) := by decide +kernel
theorem d14_15 : decode method_8_code 15 = .ok (.lload 6, 2) := by decide +kernel
theorem d14_17 : decode method_8_code 17 = .ok (.lload_n 2, 1) := by decide +kernel
theorem d14_18 : decode method_8_code 18 = .ok (.iconst 1, 1) := by decide +kernel
theorem d14_19 : decode method_8_code 19 = .ok (.lushr, 1) := by decide +kernel
theorem d14_20 : decode method_8_code 20 = .ok (.lconst 1, 1) := by decide +kernel
theorem d14_21 : decode method_8_code 21 = .ok (.land, 1) := by decide +kernel
theorem d14_22 : decode method_8_code 22 = .ok (.lload 4, 2) := by decide +kernel
theorem d14_24 : decode method_8_code 24 = .ok (.invokestatic 72, 3) := by decide +kernel
theorem d14_27 : decode method_8_code 27 = .ok (.lstore 6, 2) := by decide +kernel
theorem d14_29 : decode method_8_code 29 = .ok (.lload 6, 2) := by decide +kernel
theorem d14_31 : decode method_8_code 31 = .ok (.lload_n 2, 1) := by decide +kernel
theorem d14_32 : decode method_8_code 32 = .ok (.iconst 2, 1) := by decide +kernel
theorem d14_33 : decode method_8_code 33 = .ok (.lushr, 1) := by decide +kernel
theorem d14_34 : decode method_8_code 34 = .ok (.lconst 1, 1) := by decide +kernel
theorem d14_35 : decode method_8_code 35 = .ok (.land, 1) := by decide +kernel
theorem d14_36 : decode method_8_code 36 = .ok (.lload 4, 2) := by decide +kernel
theorem d14_38 : decode method_8_code 38 = .ok (.invokestatic 72, 3) := by decide +kernel
theorem d14_41 : decode method_8_code 41 = .ok (.lstore 6, 2) := by decide +kernel
theorem d14_43 : decode method_8_code 43 = .ok (.lload 6, 2) := by decide +kernel
theorem d14_45 : decode method_8_code 45 = .ok (.lload_n 2, 1) := by decide +kernel
theorem d14_46 : decode method_8_code 46 = .ok (.iconst 3, 1) := by decide +kernel
theorem d14_47 : decode method_8_code 47 = .ok (.lushr, 1) := by decide +kernel
theorem d14_48 : decode method_8_code 48 = .ok (.lconst 1, 1) := by decide +kernel
theorem d14_49 : decode method_8_code 49 = .ok (.land, 1) := by decide +kernel
theorem d14_50 : decode method_8_code 50 = .ok (.lload 4, 2) := by decide +kernel
theorem d14_52 : decode method_8_code 52 = .ok (.invokestatic 72, 3) := by decide +kernel
theorem d14_55 : decode method_8_code 55 = .ok (.lstore 6, 2) := by decide +kernel
theorem d14_57 : decode method_8_code 57 = .ok (.lload 6, 2) := by decide +kernel
theorem d14_59 : decode method_8_code 59 = .ok (.lload_n 2, 1) := by decide +kernel
theorem d14_60 : decode method_8_code 60 = .ok (.iconst 4, 1) := by decide +kernel
theorem d14_61 : decode method_8_code 61 = .ok (.lushr, 1) := by decide +kernel
theorem d14_62 : decode method_8_code 62 = .ok (.lconst 1, 1) := by decide +kernel
theorem d14_63 : decode method_8_code 63 = .ok (.land, 1) := by decide +kernel
theorem d14_64 : decode method_8_code 64 = .ok (.lload 4, 2) := by decide +kernel
theorem d14_66 : decode method_8_code 66 = .ok (.invokestatic 72, 3) := by decide +kernel
theorem d14_69 : decode method_8_code 69 = .ok (.lstore 6, 2) := by decide +kernel
theorem d14_71 : decode method_8_code 71 = .ok (.lload 6, 2) := by decide +kernel
theorem d14_73 : decode method_8_code 73 = .ok (.lload_n 2, 1) := by decide +kernel
theorem d14_74 : decode method_8_code 74 = .ok (.iconst 5, 1) := by decide +kernel
theorem d14_75 : decode method_8_code 75 = .ok (.lushr, 1) := by decide +kernel
theorem d14_76 : decode method_8_code 76 = .ok (.lconst 1, 1) := by decide +kernel
theorem d14_77 : decode method_8_code 77 = .ok (.land, 1) := by decide +kernel
theorem d14_78 : decode method_8_code 78 = .ok (.lload 4, 2) := by decide +kernel
theorem d14_80 : decode method_8_code 80 = .ok (.invokestatic 72, 3) := by decide +kernel
theorem d14_83 : decode method_8_code 83 = .ok (.lstore 6, 2) := by decide +kernel
theorem d14_85 : decode method_8_code 85 = .ok (.lload 6, 2) := by decide +kernel
theorem d14_87 : decode method_8_code 87 = .ok (.lload_n 2, 1) := by decide +kernel
theorem d14_88 : decode method_8_code 88 = .ok (.bipush 6, 2) := by decide +kernel
theorem d14_90 : decode method_8_code 90 = .ok (.lushr, 1) := by decide +kernel
theorem d14_91 : decode method_8_code 91 = .ok (.lconst 1, 1) := by decide +kernel
theorem d14_92 : decode method_8_code 92 = .ok (.land, 1) := by decide +kernel
theorem d14_93 : decode method_8_code 93 = .ok (.lload 4, 2) := by decide +kernel
theorem d14_95 : decode method_8_code 95 = .ok (.invokestatic 72, 3) := by decide +kernel
theorem d14_98 : decode method_8_code 98 = .ok (.lstore 6, 2) := by decide +kernel
theorem d14_100 : decode method_8_code 100 = .ok (.lload 6, 2) := by decide +kernel
theorem d14_102 : decode method_8_code 102 = .ok (.lload_n 2, 1) := by decide +kernel
theorem d14_103 : decode method_8_code 103 = .ok (.bipush 7, 2) := by decide +kernel
theorem d14_105 : decode method_8_code 105 = .ok (.lushr, 1) := by decide +kernel
theorem d14_106 : decode method_8_code 106 = .ok (.lconst 1, 1) := by decide +kernel
theorem d14_107 : decode method_8_code 107 = .ok (.land, 1) := by decide +kernel
theorem d14_108 : decode method_8_code 108 = .ok (.lload 4, 2) := by decide +kernel
theorem d14_110 : decode method_8_code 110 = .ok (.invokestatic 72, 3) := by decide +kernel
theorem d14_113 : decode method_8_code 113 = .ok (.lstore 6, 2) := by decide +kernel
theorem d14_115 : decode method_8_code 115 = .ok (.lload 6, 2) := by decide +kernel
theorem d14_117 : decode method_8_code 117 = .ok (.lreturn, 1) := by decide +kernel
theorem pn_14 : plainName "com/example/latchkey/latchkey/server/gateway/CrcCombinationCombinePinLaw" = true := by first | (simp [plainName, overriddenIn]; done) | decide +kernel
theorem d15_0 : decode method_7_code 0 = .ok (.lload_n 0, 1) := by decide +kernel
theorem d15_1 : decode method_7_code 1 = .ok (.lload_n 2, 1) := by decide +kernel
theorem d15_2 : decode method_7_code 2 = .ok (.lxor, 1) := by decide +kernel
theorem d15_3 : decode method_7_code 3 = .ok (.lstore 6, 2) := by decide +kernel
theorem d15_5 : decode method_7_code 5 = .ok (.lload 6, 2) := by decide +kernel
theorem d15_7 : decode method_7_code 7 = .ok (.lconst 1, 1) := by decide +kernel
theorem d15_8 : decode method_7_code 8 = .ok (.land, 1) := by decide +kernel
theorem d15_9 : decode method_7_code 9 = .ok (.lconst 0, 1) := by decide +kernel
theorem d15_10 : decode method_7_code 10 = .ok (.lcmp, 1) := by decide +kernel
theorem d15_11 : decode method_7_code 11 = .ok (.ifCond .eq 13, 3) := by decide +kernel
theorem d15_14 : decode method_7_code 14 = .ok (.lload 6, 2) := by decide +kernel
theorem d15_16 : decode method_7_code 16 = .ok (.iconst 1, 1) := by decide +kernel
theorem d15_17 : decode method_7_code 17 = .ok (.lushr, 1) := by decide +kernel
theorem d15_18 : decode method_7_code 18 = .ok (.lload 4, 2) := by decide +kernel
theorem d15_20 : decode method_7_code 20 = .ok (.lxor, 1) := by decide +kernel
theorem d15_21 : decode method_7_code 21 = .ok (.goto 7, 3) := by decide +kernel
theorem d15_24 : decode method_7_code 24 = .ok (.lload 6, 2) := by decide +kernel
theorem d15_26 : decode method_7_code 26 = .ok (.iconst 1, 1) := by decide +kernel
theorem d15_27 : decode method_7_code 27 = .ok (.lushr, 1) := by decide +kernel
theorem d15_28 : decode method_7_code 28 = .ok (.lreturn, 1) := by decide +kernel
theorem pn_15 : plainName "com/example/latchkey/latchkey/server/gateway/CrcCombinationCombinePinLaw" = true := by first | (simp [plainName, overriddenIn]; done) | decide +kernel
theorem pn_0 : plainName "com/example/latchkey/latchkey/server/gateway/CrcCombinationCombinePinLaw" = true := by first | (simp [plainName, overriddenIn]; done) | decide +kernel
theorem pd_0 : parseMethodDescriptor "(JJJ)J" = some ⟨[.long, .long, .long], some .long⟩ := by decide +kernel
theorem pd_1 : parseMethodDescriptor "(J)J" = some ⟨[.long], some .long⟩ := by decide +kernel
theorem pd_2 : parseMethodDescriptor "(JJ)J" = some ⟨[.long, .long], some .long⟩ := by decide +kernel
theorem pd_3 : parseMethodDescriptor "(I)J" = some ⟨[.int], some .long⟩ := by decide +kernel
theorem pd_4 : parseMethodDescriptor "(I)I" = some ⟨[.int], some .int⟩ := by decide +kernel
theorem pd_5 : parseMethodDescriptor "(JI)V" = some ⟨[.long, .int], none⟩ := by decide +kernel
theorem pd_6 : parseMethodDescriptor "(JIJJ)J" = some ⟨[.long, .int, .long, .long], some .long⟩ := by decide +kernel
theorem ef_1 (m : MethodId) (x0 : Int32) : entryFrame m #[(.int x0)] 1 = mkF m 0 #[.val (.int x0)] [] := by first | (simp [entryFrame, mkF, argsToLocals, Value.category]; done) | rfl
def Q1 (Z : State) (p1 : Int32) (h0 : Heap) (n0 : Nat) (v : Option Value) (h : Heap) (L : List Loc) : Prop := v = some (.long (own_poly p1)) ∧ Fr n0 L ∧ h = h0
set_option maxRecDepth 65536 in
set_option maxHeartbeats 40000000 in
theorem rm1 (l : Launch) (Z : State) (a0 : Array Value) (hw : ∀ d ∈ tables_1, d.before a0 Z = true) (ws : List Jvm.Cond) (p1 : Int32) (h0 : Heap) (n0 : Nat) (Z0 : n0 ≤ h0.size) :
    MetFree l (⟨"com/example/latchkey/latchkey/server/gateway/CrcCombinationCombinePinLaw", "polynomial", "(I)J"⟩ : MethodName) (head1 (Jvm.Cond.code (⟨"com/example/latchkey/latchkey/server/gateway/CrcCombinationCombinePinLaw", "polynomial", "(I)J"⟩ : MethodName) method_3_code 1 (some .long) :: ws) ({ frames := 0, cells := 0, slots := 0, locals := 0 } : Room)) (fun a U => a = #[(.int p1)] ∧ Z.Warmed39 U.vm ∧ U.heap = h0) (fun _ _ _ _ _ => True) (fun _ U o U' => ∃ v L, o = .returned v ∧ Q1 Z p1 h0 n0 v U'.heap L ∧ FrameEnd U o U' L ({ frames := 0, cells := 0, slots := 0, locals := 0 } : Room).cells ({ frames := 0, cells := 0, slots := 0, locals := 0 } : Room).slots) := by
  refine MetFree.of_bodySF (plainFor_of_name pn_1) hisR ?_
  intro p e s m args below meth c s₁ Bd hml0 hP hK
  obtain ⟨rfl, hZ, hh⟩ := hP
  have hx := Bd.exec
  have hby := Bd.bytes
  have hml : c.maxLocals = 1 := hml0
  have hown : s.vm.findClass "com/example/latchkey/latchkey/server/gateway/CrcCombinationCombinePinLaw" = some m.cls := findClass_of_methodNamed Bd.named
  have hnm := (name_of_methodNamed Bd.named Bd.method).1
  have X0 : Stand p l e ({ frames := 0, cells := 0, slots := 0, locals := 0 } : Room) s m #[(.int p1)] below meth c s₁ [] 0 0 := Stand.of_body Bd
  have e0 : s₁.heap = h0 := by rw [← hh, Bd.state]; rfl
  have N0 := Fr.nil n0
  refine own_adv (B := (s₁.setTop (mkF m 0 #[.val (.int p1)] []))) (fun t k => castTop (ef_1 m p1) k) ?_
  refine own_adv (B := (s₁.setTop (mkF m 1 #[.val (.int p1)] [(.int p1)]))) (fun t kS => ?_) ?_
  · show Steps p.tables e below (s₁.setTop (mkF m 0 #[.val (.int p1)] [])) _
    refine XS.iloadN X0.here hx rfl (hb hby d1_0) rfl ?_
    exact kS
  by_cases hk0 : p1 = (0 : Int32)
  · refine own_adv (B := (s₁.setTop (mkF m 7 #[.val (.int p1)] [(.long (3 : Int64))]))) (fun t kS => ?_) ?_
    · show Steps p.tables e below (s₁.setTop (mkF m 1 #[.val (.int p1)] [(.int p1)])) _
      refine XS.ifNo X0.here hx rfl (hb hby d1_1) rfl ((if0 _ _).trans (teq hk0).2) ?_
      show Steps p.tables e below (s₁.setTop (mkF m 4 #[.val (.int p1)] [])) _
      refine X0.ldc2Long hx hown (mvT hZ (hw _ (List.mem_of_getElem? (i := 4) rfl))) (g := (mkF m 4 #[.val (.int p1)] [])) rfl (hb hby d1_4) _ ?_
      exact kS
    have hv : own_poly p1 = (3 : Int64) := by rw [own_poly, if_pos hk0]
    obtain ⟨fs, hr, hrun, hended, hW, hsame⟩ := X0.leave (v := some (.long (3 : Int64))) (fun h => by rw [Bd.returns] at h; cases h)
    refine ⟨_, _, ?_, hrun, hended, _, _, rfl, ?_, ⟨_, rfl⟩, hW, hsame.mono (by decide) (by decide)⟩
    · show Steps p.tables e below (s₁.setTop (mkF m 7 #[.val (.int p1)] [(.long (3 : Int64))])) _
      exact retOut X0 hx (t := .long) Bd.returns rfl (Or.inr (Or.inl ⟨rfl, rfl, _, rfl⟩)) (hb hby d1_7) hr
    · show Q1 Z p1 h0 n0 _ s₁.heap _
      rw [e0]
      exact ⟨by rw [hv], N0, rfl⟩
  · refine own_adv (B := (s₁.setTop (mkF m 10 #[.val (.int p1)] [(.int (1 : Int32)), (.int p1)]))) (fun t kS => ?_) ?_
    · show Steps p.tables e below (s₁.setTop (mkF m 1 #[.val (.int p1)] [(.int p1)])) _
      refine XS.ifYes X0.here hx rfl (pc0 := 1) (pc' := 8) rfl (hb hby d1_1) rfl ((if0 _ _).trans (feq hk0).2) (by decide) (by decide) ?_
      show Steps p.tables e below (s₁.setTop (mkF m 8 #[.val (.int p1)] [])) _
      refine XS.iloadN X0.here hx rfl (hb hby d1_8) rfl ?_
      show Steps p.tables e below (s₁.setTop (mkF m 9 #[.val (.int p1)] [(.int p1)])) _
      refine XS.iconst X0.here hx rfl (hb hby d1_9) ?_
      exact kS
    by_cases hk1 : p1 = (1 : Int32)
    · refine own_adv (B := (s₁.setTop (mkF m 16 #[.val (.int p1)] [(.long (5 : Int64))]))) (fun t kS => ?_) ?_
      · show Steps p.tables e below (s₁.setTop (mkF m 10 #[.val (.int p1)] [(.int (1 : Int32)), (.int p1)])) _
        refine XS.icmpNo X0.here hx rfl (hb hby d1_10) rfl (teq hk1).2 ?_
        show Steps p.tables e below (s₁.setTop (mkF m 13 #[.val (.int p1)] [])) _
        refine X0.ldc2Long hx hown (mvT hZ (hw _ (List.mem_of_getElem? (i := 71) rfl))) (g := (mkF m 13 #[.val (.int p1)] [])) rfl (hb hby d1_13) _ ?_
        exact kS
      have hv : own_poly p1 = (5 : Int64) := by rw [own_poly, if_neg hk0, if_pos hk1]
      obtain ⟨fs, hr, hrun, hended, hW, hsame⟩ := X0.leave (v := some (.long (5 : Int64))) (fun h => by rw [Bd.returns] at h; cases h)
      refine ⟨_, _, ?_, hrun, hended, _, _, rfl, ?_, ⟨_, rfl⟩, hW, hsame.mono (by decide) (by decide)⟩
      · show Steps p.tables e below (s₁.setTop (mkF m 16 #[.val (.int p1)] [(.long (5 : Int64))])) _
        exact retOut X0 hx (t := .long) Bd.returns rfl (Or.inr (Or.inl ⟨rfl, rfl, _, rfl⟩)) (hb hby d1_16) hr
      · show Q1 Z p1 h0 n0 _ s₁.heap _
        rw [e0]
        exact ⟨by rw [hv], N0, rfl⟩
    · refine own_adv (B := (s₁.setTop (mkF m 19 #[.val (.int p1)] [(.int (2 : Int32)), (.int p1)]))) (fun t kS => ?_) ?_
      · show Steps p.tables e below (s₁.setTop (mkF m 10 #[.val (.int p1)] [(.int (1 : Int32)), (.int p1)])) _
        refine XS.icmpYes X0.here hx rfl (pc0 := 10) (pc' := 17) rfl (hb hby d1_10) rfl (feq hk1).2 (by decide) (by decide) ?_
        show Steps p.tables e below (s₁.setTop (mkF m 17 #[.val (.int p1)] [])) _
        refine XS.iloadN X0.here hx rfl (hb hby d1_17) rfl ?_
        show Steps p.tables e below (s₁.setTop (mkF m 18 #[.val (.int p1)] [(.int p1)])) _
        refine XS.iconst X0.here hx rfl (hb hby d1_18) ?_
        exact kS
      by_cases hk2 : p1 = (2 : Int32)
      · refine own_adv (B := (s₁.setTop (mkF m 25 #[.val (.int p1)] [(.long (49 : Int64))]))) (fun t kS => ?_) ?_
        · show Steps p.tables e below (s₁.setTop (mkF m 19 #[.val (.int p1)] [(.int (2 : Int32)), (.int p1)])) _
          refine XS.icmpNo X0.here hx rfl (hb hby d1_19) rfl (teq hk2).2 ?_
          show Steps p.tables e below (s₁.setTop (mkF m 22 #[.val (.int p1)] [])) _
          refine X0.ldc2Long hx hown (mvT hZ (hw _ (List.mem_of_getElem? (i := 82) rfl))) (g := (mkF m 22 #[.val (.int p1)] [])) rfl (hb hby d1_22) _ ?_
          exact kS
        have hv : own_poly p1 = (49 : Int64) := by rw [own_poly, if_neg hk0, if_neg hk1, if_pos hk2]
        obtain ⟨fs, hr, hrun, hended, hW, hsame⟩ := X0.leave (v := some (.long (49 : Int64))) (fun h => by rw [Bd.returns] at h; cases h)
        refine ⟨_, _, ?_, hrun, hended, _, _, rfl, ?_, ⟨_, rfl⟩, hW, hsame.mono (by decide) (by decide)⟩
        · show Steps p.tables e below (s₁.setTop (mkF m 25 #[.val (.int p1)] [(.long (49 : Int64))])) _
          exact retOut X0 hx (t := .long) Bd.returns rfl (Or.inr (Or.inl ⟨rfl, rfl, _, rfl⟩)) (hb hby d1_25) hr
        · show Q1 Z p1 h0 n0 _ s₁.heap _
          rw [e0]
          exact ⟨by rw [hv], N0, rfl⟩
      · refine own_adv (B := (s₁.setTop (mkF m 28 #[.val (.int p1)] [(.int (3 : Int32)), (.int p1)]))) (fun t kS => ?_) ?_
        · show Steps p.tables e below (s₁.setTop (mkF m 19 #[.val (.int p1)] [(.int (2 : Int32)), (.int p1)])) _
          refine XS.icmpYes X0.here hx rfl (pc0 := 19) (pc' := 26) rfl (hb hby d1_19) rfl (feq hk2).2 (by decide) (by decide) ?_
          show Steps p.tables e below (s₁.setTop (mkF m 26 #[.val (.int p1)] [])) _
          refine XS.iloadN X0.here hx rfl (hb hby d1_26) rfl ?_
          show Steps p.tables e below (s₁.setTop (mkF m 27 #[.val (.int p1)] [(.int p1)])) _
          refine XS.iconst X0.here hx rfl (hb hby d1_27) ?_
          exact kS
        by_cases hk3 : p1 = (3 : Int32)
        · refine own_adv (B := (s₁.setTop (mkF m 34 #[.val (.int p1)] [(.long (32773 : Int64))]))) (fun t kS => ?_) ?_
          · show Steps p.tables e below (s₁.setTop (mkF m 28 #[.val (.int p1)] [(.int (3 : Int32)), (.int p1)])) _
            refine XS.icmpNo X0.here hx rfl (hb hby d1_28) rfl (teq hk3).2 ?_
            show Steps p.tables e below (s₁.setTop (mkF m 31 #[.val (.int p1)] [])) _
            refine X0.ldc2Long hx hown (mvT hZ (hw _ (List.mem_of_getElem? (i := 62) rfl))) (g := (mkF m 31 #[.val (.int p1)] [])) rfl (hb hby d1_31) _ ?_
            exact kS
          have hv : own_poly p1 = (32773 : Int64) := by rw [own_poly, if_neg hk0, if_neg hk1, if_neg hk2, if_pos hk3]
          obtain ⟨fs, hr, hrun, hended, hW, hsame⟩ := X0.leave (v := some (.long (32773 : Int64))) (fun h => by rw [Bd.returns] at h; cases h)
          refine ⟨_, _, ?_, hrun, hended, _, _, rfl, ?_, ⟨_, rfl⟩, hW, hsame.mono (by decide) (by decide)⟩
          · show Steps p.tables e below (s₁.setTop (mkF m 34 #[.val (.int p1)] [(.long (32773 : Int64))])) _
            exact retOut X0 hx (t := .long) Bd.returns rfl (Or.inr (Or.inl ⟨rfl, rfl, _, rfl⟩)) (hb hby d1_34) hr
          · show Q1 Z p1 h0 n0 _ s₁.heap _
            rw [e0]
            exact ⟨by rw [hv], N0, rfl⟩
        · refine own_adv (B := (s₁.setTop (mkF m 37 #[.val (.int p1)] [(.int (4 : Int32)), (.int p1)]))) (fun t kS => ?_) ?_
          · show Steps p.tables e below (s₁.setTop (mkF m 28 #[.val (.int p1)] [(.int (3 : Int32)), (.int p1)])) _
            refine XS.icmpYes X0.here hx rfl (pc0 := 28) (pc' := 35) rfl (hb hby d1_28) rfl (feq hk3).2 (by decide) (by decide) ?_
            show Steps p.tables e below (s₁.setTop (mkF m 35 #[.val (.int p1)] [])) _
            refine XS.iloadN X0.here hx rfl (hb hby d1_35) rfl ?_
            show Steps p.tables e below (s₁.setTop (mkF m 36 #[.val (.int p1)] [(.int p1)])) _
            refine XS.iconst X0.here hx rfl (hb hby d1_36) ?_
            exact kS
          by_cases hk4 : p1 = (4 : Int32)
          · refine own_adv (B := (s₁.setTop (mkF m 43 #[.val (.int p1)] [(.long (79764919 : Int64))]))) (fun t kS => ?_) ?_
            · show Steps p.tables e below (s₁.setTop (mkF m 37 #[.val (.int p1)] [(.int (4 : Int32)), (.int p1)])) _
              refine XS.icmpNo X0.here hx rfl (hb hby d1_37) rfl (teq hk4).2 ?_
              show Steps p.tables e below (s₁.setTop (mkF m 40 #[.val (.int p1)] [])) _
              refine X0.ldc2Long hx hown (mvT hZ (hw _ (List.mem_of_getElem? (i := 73) rfl))) (g := (mkF m 40 #[.val (.int p1)] [])) rfl (hb hby d1_40) _ ?_
              exact kS
            have hv : own_poly p1 = (79764919 : Int64) := by rw [own_poly, if_neg hk0, if_neg hk1, if_neg hk2, if_neg hk3, if_pos hk4]
            obtain ⟨fs, hr, hrun, hended, hW, hsame⟩ := X0.leave (v := some (.long (79764919 : Int64))) (fun h => by rw [Bd.returns] at h; cases h)
            refine ⟨_, _, ?_, hrun, hended, _, _, rfl, ?_, ⟨_, rfl⟩, hW, hsame.mono (by decide) (by decide)⟩
            · show Steps p.tables e below (s₁.setTop (mkF m 43 #[.val (.int p1)] [(.long (79764919 : Int64))])) _
              exact retOut X0 hx (t := .long) Bd.returns rfl (Or.inr (Or.inl ⟨rfl, rfl, _, rfl⟩)) (hb hby d1_43) hr
            · show Q1 Z p1 h0 n0 _ s₁.heap _
              rw [e0]
              exact ⟨by rw [hv], N0, rfl⟩
          · refine own_adv (B := (s₁.setTop (mkF m 46 #[.val (.int p1)] [(.int (5 : Int32)), (.int p1)]))) (fun t kS => ?_) ?_
            · show Steps p.tables e below (s₁.setTop (mkF m 37 #[.val (.int p1)] [(.int (4 : Int32)), (.int p1)])) _
              refine XS.icmpYes X0.here hx rfl (pc0 := 37) (pc' := 44) rfl (hb hby d1_37) rfl (feq hk4).2 (by decide) (by decide) ?_
              show Steps p.tables e below (s₁.setTop (mkF m 44 #[.val (.int p1)] [])) _
              refine XS.iloadN X0.here hx rfl (hb hby d1_44) rfl ?_
              show Steps p.tables e below (s₁.setTop (mkF m 45 #[.val (.int p1)] [(.int p1)])) _
              refine XS.iconst X0.here hx rfl (hb hby d1_45) ?_
              exact kS
            by_cases hk5 : p1 = (5 : Int32)
            · refine own_adv (B := (s₁.setTop (mkF m 52 #[.val (.int p1)] [(.long (517762881 : Int64))]))) (fun t kS => ?_) ?_
              · show Steps p.tables e below (s₁.setTop (mkF m 46 #[.val (.int p1)] [(.int (5 : Int32)), (.int p1)])) _
                refine XS.icmpNo X0.here hx rfl (hb hby d1_46) rfl (teq hk5).2 ?_
                show Steps p.tables e below (s₁.setTop (mkF m 49 #[.val (.int p1)] [])) _
                refine X0.ldc2Long hx hown (mvT hZ (hw _ (List.mem_of_getElem? (i := 80) rfl))) (g := (mkF m 49 #[.val (.int p1)] [])) rfl (hb hby d1_49) _ ?_
                exact kS
              have hv : own_poly p1 = (517762881 : Int64) := by rw [own_poly, if_neg hk0, if_neg hk1, if_neg hk2, if_neg hk3, if_neg hk4, if_pos hk5]
              obtain ⟨fs, hr, hrun, hended, hW, hsame⟩ := X0.leave (v := some (.long (517762881 : Int64))) (fun h => by rw [Bd.returns] at h; cases h)
              refine ⟨_, _, ?_, hrun, hended, _, _, rfl, ?_, ⟨_, rfl⟩, hW, hsame.mono (by decide) (by decide)⟩
              · show Steps p.tables e below (s₁.setTop (mkF m 52 #[.val (.int p1)] [(.long (517762881 : Int64))])) _
                exact retOut X0 hx (t := .long) Bd.returns rfl (Or.inr (Or.inl ⟨rfl, rfl, _, rfl⟩)) (hb hby d1_52) hr
              · show Q1 Z p1 h0 n0 _ s₁.heap _
                rw [e0]
                exact ⟨by rw [hv], N0, rfl⟩
            · refine own_adv (B := (s₁.setTop (mkF m 56 #[.val (.int p1)] [(.int (6 : Int32)), (.int p1)]))) (fun t kS => ?_) ?_
              · show Steps p.tables e below (s₁.setTop (mkF m 46 #[.val (.int p1)] [(.int (5 : Int32)), (.int p1)])) _
                refine XS.icmpYes X0.here hx rfl (pc0 := 46) (pc' := 53) rfl (hb hby d1_46) rfl (feq hk5).2 (by decide) (by decide) ?_
                show Steps p.tables e below (s₁.setTop (mkF m 53 #[.val (.int p1)] [])) _
                refine XS.iloadN X0.here hx rfl (hb hby d1_53) rfl ?_
                show Steps p.tables e below (s₁.setTop (mkF m 54 #[.val (.int p1)] [(.int p1)])) _
                refine XS.bipush X0.here hx rfl (hb hby d1_54) ?_
                exact kS
              by_cases hk6 : p1 = (6 : Int32)
              · refine own_adv (B := (s₁.setTop (mkF m 62 #[.val (.int p1)] [(.long (-5939172356000237991 : Int64))]))) (fun t kS => ?_) ?_
                · show Steps p.tables e below (s₁.setTop (mkF m 56 #[.val (.int p1)] [(.int (6 : Int32)), (.int p1)])) _
                  refine XS.icmpNo X0.here hx rfl (hb hby d1_56) rfl (teq hk6).2 ?_
                  show Steps p.tables e below (s₁.setTop (mkF m 59 #[.val (.int p1)] [])) _
                  refine X0.ldc2Long hx hown (mvT hZ (hw _ (List.mem_of_getElem? (i := 78) rfl))) (g := (mkF m 59 #[.val (.int p1)] [])) rfl (hb hby d1_59) _ ?_
                  exact kS
                have hv : own_poly p1 = (-5939172356000237991 : Int64) := by rw [own_poly, if_neg hk0, if_neg hk1, if_neg hk2, if_neg hk3, if_neg hk4, if_neg hk5, if_pos hk6]
                obtain ⟨fs, hr, hrun, hended, hW, hsame⟩ := X0.leave (v := some (.long (-5939172356000237991 : Int64))) (fun h => by rw [Bd.returns] at h; cases h)
                refine ⟨_, _, ?_, hrun, hended, _, _, rfl, ?_, ⟨_, rfl⟩, hW, hsame.mono (by decide) (by decide)⟩
                · show Steps p.tables e below (s₁.setTop (mkF m 62 #[.val (.int p1)] [(.long (-5939172356000237991 : Int64))])) _
                  exact retOut X0 hx (t := .long) Bd.returns rfl (Or.inr (Or.inl ⟨rfl, rfl, _, rfl⟩)) (hb hby d1_62) hr
                · show Q1 Z p1 h0 n0 _ s₁.heap _
                  rw [e0]
                  exact ⟨by rw [hv], N0, rfl⟩
              · refine own_adv (B := (s₁.setTop (mkF m 66 #[.val (.int p1)] [(.long (4823603603198064275 : Int64))]))) (fun t kS => ?_) ?_
                · show Steps p.tables e below (s₁.setTop (mkF m 56 #[.val (.int p1)] [(.int (6 : Int32)), (.int p1)])) _
                  refine XS.icmpYes X0.here hx rfl (pc0 := 56) (pc' := 63) rfl (hb hby d1_56) rfl (feq hk6).2 (by decide) (by decide) ?_
                  show Steps p.tables e below (s₁.setTop (mkF m 63 #[.val (.int p1)] [])) _
                  refine X0.ldc2Long hx hown (mvT hZ (hw _ (List.mem_of_getElem? (i := 75) rfl))) (g := (mkF m 63 #[.val (.int p1)] [])) rfl (hb hby d1_63) _ ?_
                  exact kS
                have hv : own_poly p1 = (4823603603198064275 : Int64) := by rw [own_poly, if_neg hk0, if_neg hk1, if_neg hk2, if_neg hk3, if_neg hk4, if_neg hk5, if_neg hk6]
                obtain ⟨fs, hr, hrun, hended, hW, hsame⟩ := X0.leave (v := some (.long (4823603603198064275 : Int64))) (fun h => by rw [Bd.returns] at h; cases h)
                refine ⟨_, _, ?_, hrun, hended, _, _, rfl, ?_, ⟨_, rfl⟩, hW, hsame.mono (by decide) (by decide)⟩
                · show Steps p.tables e below (s₁.setTop (mkF m 66 #[.val (.int p1)] [(.long (4823603603198064275 : Int64))])) _
                  exact retOut X0 hx (t := .long) Bd.returns rfl (Or.inr (Or.inl ⟨rfl, rfl, _, rfl⟩)) (hb hby d1_66) hr
                · show Q1 Z p1 h0 n0 _ s₁.heap _
                  rw [e0]
                  exact ⟨by rw [hv], N0, rfl⟩
theorem ef_2 (m : MethodId) (x0 : Int32) : entryFrame m #[(.int x0)] 1 = mkF m 0 #[.val (.int x0)] [] := by first | (simp [entryFrame, mkF, argsToLocals, Value.category]; done) | rfl
def Q2 (Z : State) (p1 : Int32) (h0 : Heap) (n0 : Nat) (v : Option Value) (h : Heap) (L : List Loc) : Prop := v = some (.int (own_wid p1)) ∧ Fr n0 L ∧ h = h0
set_option maxRecDepth 65536 in
set_option maxHeartbeats 40000000 in
theorem rm2 (l : Launch) (Z : State) (a0 : Array Value) (hw : ∀ d ∈ tables_1, d.before a0 Z = true) (ws : List Jvm.Cond) (p1 : Int32) (h0 : Heap) (n0 : Nat) (Z0 : n0 ≤ h0.size) :
    MetFree l (⟨"com/example/latchkey/latchkey/server/gateway/CrcCombinationCombinePinLaw", "width", "(I)I"⟩ : MethodName) (head1 (Jvm.Cond.code (⟨"com/example/latchkey/latchkey/server/gateway/CrcCombinationCombinePinLaw", "width", "(I)I"⟩ : MethodName) method_4_code 1 (some .int) :: ws) ({ frames := 0, cells := 0, slots := 0, locals := 0 } : Room)) (fun a U => a = #[(.int p1)] ∧ Z.Warmed39 U.vm ∧ U.heap = h0) (fun _ _ _ _ _ => True) (fun _ U o U' => ∃ v L, o = .returned v ∧ Q2 Z p1 h0 n0 v U'.heap L ∧ FrameEnd U o U' L ({ frames := 0, cells := 0, slots := 0, locals := 0 } : Room).cells ({ frames := 0, cells := 0, slots := 0, locals := 0 } : Room).slots) := by
  refine MetFree.of_bodySF (plainFor_of_name pn_2) hisR ?_
  intro p e s m args below meth c s₁ Bd hml0 hP hK
  obtain ⟨rfl, hZ, hh⟩ := hP
  have hx := Bd.exec
  have hby := Bd.bytes
  have hml : c.maxLocals = 1 := hml0
  have hown : s.vm.findClass "com/example/latchkey/latchkey/server/gateway/CrcCombinationCombinePinLaw" = some m.cls := findClass_of_methodNamed Bd.named
  have hnm := (name_of_methodNamed Bd.named Bd.method).1
  have X0 : Stand p l e ({ frames := 0, cells := 0, slots := 0, locals := 0 } : Room) s m #[(.int p1)] below meth c s₁ [] 0 0 := Stand.of_body Bd
  have e0 : s₁.heap = h0 := by rw [← hh, Bd.state]; rfl
  have N0 := Fr.nil n0
  refine own_adv (B := (s₁.setTop (mkF m 0 #[.val (.int p1)] []))) (fun t k => castTop (ef_2 m p1) k) ?_
  refine own_adv (B := (s₁.setTop (mkF m 1 #[.val (.int p1)] [(.int p1)]))) (fun t kS => ?_) ?_
  · show Steps p.tables e below (s₁.setTop (mkF m 0 #[.val (.int p1)] [])) _
    refine XS.iloadN X0.here hx rfl (hb hby d2_0) rfl ?_
    exact kS
  by_cases hk0 : p1 = (0 : Int32)
  · refine own_adv (B := (s₁.setTop (mkF m 5 #[.val (.int p1)] [(.int (3 : Int32))]))) (fun t kS => ?_) ?_
    · show Steps p.tables e below (s₁.setTop (mkF m 1 #[.val (.int p1)] [(.int p1)])) _
      refine XS.ifNo X0.here hx rfl (hb hby d2_1) rfl ((if0 _ _).trans (teq hk0).2) ?_
      show Steps p.tables e below (s₁.setTop (mkF m 4 #[.val (.int p1)] [])) _
      refine XS.iconst X0.here hx rfl (hb hby d2_4) ?_
      exact kS
    have hv : own_wid p1 = (3 : Int32) := by rw [own_wid, if_pos hk0]
    obtain ⟨fs, hr, hrun, hended, hW, hsame⟩ := X0.leave (v := some (.int (3 : Int32))) (fun h => by rw [Bd.returns] at h; cases h)
    refine ⟨_, _, ?_, hrun, hended, _, _, rfl, ?_, ⟨_, rfl⟩, hW, hsame.mono (by decide) (by decide)⟩
    · show Steps p.tables e below (s₁.setTop (mkF m 5 #[.val (.int p1)] [(.int (3 : Int32))])) _
      exact retI X0 hx Bd.returns (hb hby d2_5) hr
    · show Q2 Z p1 h0 n0 _ s₁.heap _
      rw [e0]
      exact ⟨by rw [hv], N0, rfl⟩
  · refine own_adv (B := (s₁.setTop (mkF m 8 #[.val (.int p1)] [(.int (1 : Int32)), (.int p1)]))) (fun t kS => ?_) ?_
    · show Steps p.tables e below (s₁.setTop (mkF m 1 #[.val (.int p1)] [(.int p1)])) _
      refine XS.ifYes X0.here hx rfl (pc0 := 1) (pc' := 6) rfl (hb hby d2_1) rfl ((if0 _ _).trans (feq hk0).2) (by decide) (by decide) ?_
      show Steps p.tables e below (s₁.setTop (mkF m 6 #[.val (.int p1)] [])) _
      refine XS.iloadN X0.here hx rfl (hb hby d2_6) rfl ?_
      show Steps p.tables e below (s₁.setTop (mkF m 7 #[.val (.int p1)] [(.int p1)])) _
      refine XS.iconst X0.here hx rfl (hb hby d2_7) ?_
      exact kS
    by_cases hk1 : p1 = (1 : Int32)
    · refine own_adv (B := (s₁.setTop (mkF m 12 #[.val (.int p1)] [(.int (5 : Int32))]))) (fun t kS => ?_) ?_
      · show Steps p.tables e below (s₁.setTop (mkF m 8 #[.val (.int p1)] [(.int (1 : Int32)), (.int p1)])) _
        refine XS.icmpNo X0.here hx rfl (hb hby d2_8) rfl (teq hk1).2 ?_
        show Steps p.tables e below (s₁.setTop (mkF m 11 #[.val (.int p1)] [])) _
        refine XS.iconst X0.here hx rfl (hb hby d2_11) ?_
        exact kS
      have hv : own_wid p1 = (5 : Int32) := by rw [own_wid, if_neg hk0, if_pos hk1]
      obtain ⟨fs, hr, hrun, hended, hW, hsame⟩ := X0.leave (v := some (.int (5 : Int32))) (fun h => by rw [Bd.returns] at h; cases h)
      refine ⟨_, _, ?_, hrun, hended, _, _, rfl, ?_, ⟨_, rfl⟩, hW, hsame.mono (by decide) (by decide)⟩
      · show Steps p.tables e below (s₁.setTop (mkF m 12 #[.val (.int p1)] [(.int (5 : Int32))])) _
        exact retI X0 hx Bd.returns (hb hby d2_12) hr
      · show Q2 Z p1 h0 n0 _ s₁.heap _
        rw [e0]
        exact ⟨by rw [hv], N0, rfl⟩
    · refine own_adv (B := (s₁.setTop (mkF m 15 #[.val (.int p1)] [(.int (2 : Int32)), (.int p1)]))) (fun t kS => ?_) ?_
      · show Steps p.tables e below (s₁.setTop (mkF m 8 #[.val (.int p1)] [(.int (1 : Int32)), (.int p1)])) _
        refine XS.icmpYes X0.here hx rfl (pc0 := 8) (pc' := 13) rfl (hb hby d2_8) rfl (feq hk1).2 (by decide) (by decide) ?_
        show Steps p.tables e below (s₁.setTop (mkF m 13 #[.val (.int p1)] [])) _
        refine XS.iloadN X0.here hx rfl (hb hby d2_13) rfl ?_
        show Steps p.tables e below (s₁.setTop (mkF m 14 #[.val (.int p1)] [(.int p1)])) _
        refine XS.iconst X0.here hx rfl (hb hby d2_14) ?_
        exact kS
      by_cases hk2 : p1 = (2 : Int32)
      · refine own_adv (B := (s₁.setTop (mkF m 20 #[.val (.int p1)] [(.int (8 : Int32))]))) (fun t kS => ?_) ?_
        · show Steps p.tables e below (s₁.setTop (mkF m 15 #[.val (.int p1)] [(.int (2 : Int32)), (.int p1)])) _
          refine XS.icmpNo X0.here hx rfl (hb hby d2_15) rfl (teq hk2).2 ?_
          show Steps p.tables e below (s₁.setTop (mkF m 18 #[.val (.int p1)] [])) _
          refine XS.bipush X0.here hx rfl (hb hby d2_18) ?_
          exact kS
        have hv : own_wid p1 = (8 : Int32) := by rw [own_wid, if_neg hk0, if_neg hk1, if_pos hk2]
        obtain ⟨fs, hr, hrun, hended, hW, hsame⟩ := X0.leave (v := some (.int (8 : Int32))) (fun h => by rw [Bd.returns] at h; cases h)
        refine ⟨_, _, ?_, hrun, hended, _, _, rfl, ?_, ⟨_, rfl⟩, hW, hsame.mono (by decide) (by decide)⟩
        · show Steps p.tables e below (s₁.setTop (mkF m 20 #[.val (.int p1)] [(.int (8 : Int32))])) _
          exact retI X0 hx Bd.returns (hb hby d2_20) hr
        · show Q2 Z p1 h0 n0 _ s₁.heap _
          rw [e0]
          exact ⟨by rw [hv], N0, rfl⟩
      · refine own_adv (B := (s₁.setTop (mkF m 23 #[.val (.int p1)] [(.int (3 : Int32)), (.int p1)]))) (fun t kS => ?_) ?_
        · show Steps p.tables e below (s₁.setTop (mkF m 15 #[.val (.int p1)] [(.int (2 : Int32)), (.int p1)])) _
          refine XS.icmpYes X0.here hx rfl (pc0 := 15) (pc' := 21) rfl (hb hby d2_15) rfl (feq hk2).2 (by decide) (by decide) ?_
          show Steps p.tables e below (s₁.setTop (mkF m 21 #[.val (.int p1)] [])) _
          refine XS.iloadN X0.here hx rfl (hb hby d2_21) rfl ?_
          show Steps p.tables e below (s₁.setTop (mkF m 22 #[.val (.int p1)] [(.int p1)])) _
          refine XS.iconst X0.here hx rfl (hb hby d2_22) ?_
          exact kS
        by_cases hk3 : p1 = (3 : Int32)
        · refine own_adv (B := (s₁.setTop (mkF m 28 #[.val (.int p1)] [(.int (16 : Int32))]))) (fun t kS => ?_) ?_
          · show Steps p.tables e below (s₁.setTop (mkF m 23 #[.val (.int p1)] [(.int (3 : Int32)), (.int p1)])) _
            refine XS.icmpNo X0.here hx rfl (hb hby d2_23) rfl (teq hk3).2 ?_
            show Steps p.tables e below (s₁.setTop (mkF m 26 #[.val (.int p1)] [])) _
            refine XS.bipush X0.here hx rfl (hb hby d2_26) ?_
            exact kS
          have hv : own_wid p1 = (16 : Int32) := by rw [own_wid, if_neg hk0, if_neg hk1, if_neg hk2, if_pos hk3]
          obtain ⟨fs, hr, hrun, hended, hW, hsame⟩ := X0.leave (v := some (.int (16 : Int32))) (fun h => by rw [Bd.returns] at h; cases h)
          refine ⟨_, _, ?_, hrun, hended, _, _, rfl, ?_, ⟨_, rfl⟩, hW, hsame.mono (by decide) (by decide)⟩
          · show Steps p.tables e below (s₁.setTop (mkF m 28 #[.val (.int p1)] [(.int (16 : Int32))])) _
            exact retI X0 hx Bd.returns (hb hby d2_28) hr
          · show Q2 Z p1 h0 n0 _ s₁.heap _
            rw [e0]
            exact ⟨by rw [hv], N0, rfl⟩
        · refine own_adv (B := (s₁.setTop (mkF m 31 #[.val (.int p1)] [(.int (4 : Int32)), (.int p1)]))) (fun t kS => ?_) ?_
          · show Steps p.tables e below (s₁.setTop (mkF m 23 #[.val (.int p1)] [(.int (3 : Int32)), (.int p1)])) _
            refine XS.icmpYes X0.here hx rfl (pc0 := 23) (pc' := 29) rfl (hb hby d2_23) rfl (feq hk3).2 (by decide) (by decide) ?_
            show Steps p.tables e below (s₁.setTop (mkF m 29 #[.val (.int p1)] [])) _
            refine XS.iloadN X0.here hx rfl (hb hby d2_29) rfl ?_
            show Steps p.tables e below (s₁.setTop (mkF m 30 #[.val (.int p1)] [(.int p1)])) _
            refine XS.iconst X0.here hx rfl (hb hby d2_30) ?_
            exact kS
          by_cases hk4 : p1 = (4 : Int32)
          · refine own_adv (B := (s₁.setTop (mkF m 36 #[.val (.int p1)] [(.int (32 : Int32))]))) (fun t kS => ?_) ?_
            · show Steps p.tables e below (s₁.setTop (mkF m 31 #[.val (.int p1)] [(.int (4 : Int32)), (.int p1)])) _
              refine XS.icmpNo X0.here hx rfl (hb hby d2_31) rfl (teq hk4).2 ?_
              show Steps p.tables e below (s₁.setTop (mkF m 34 #[.val (.int p1)] [])) _
              refine XS.bipush X0.here hx rfl (hb hby d2_34) ?_
              exact kS
            have hv : own_wid p1 = (32 : Int32) := by rw [own_wid, if_neg hk0, if_neg hk1, if_neg hk2, if_neg hk3, if_pos hk4]
            obtain ⟨fs, hr, hrun, hended, hW, hsame⟩ := X0.leave (v := some (.int (32 : Int32))) (fun h => by rw [Bd.returns] at h; cases h)
            refine ⟨_, _, ?_, hrun, hended, _, _, rfl, ?_, ⟨_, rfl⟩, hW, hsame.mono (by decide) (by decide)⟩
            · show Steps p.tables e below (s₁.setTop (mkF m 36 #[.val (.int p1)] [(.int (32 : Int32))])) _
              exact retI X0 hx Bd.returns (hb hby d2_36) hr
            · show Q2 Z p1 h0 n0 _ s₁.heap _
              rw [e0]
              exact ⟨by rw [hv], N0, rfl⟩
          · refine own_adv (B := (s₁.setTop (mkF m 39 #[.val (.int p1)] [(.int (5 : Int32)), (.int p1)]))) (fun t kS => ?_) ?_
            · show Steps p.tables e below (s₁.setTop (mkF m 31 #[.val (.int p1)] [(.int (4 : Int32)), (.int p1)])) _
              refine XS.icmpYes X0.here hx rfl (pc0 := 31) (pc' := 37) rfl (hb hby d2_31) rfl (feq hk4).2 (by decide) (by decide) ?_
              show Steps p.tables e below (s₁.setTop (mkF m 37 #[.val (.int p1)] [])) _
              refine XS.iloadN X0.here hx rfl (hb hby d2_37) rfl ?_
              show Steps p.tables e below (s₁.setTop (mkF m 38 #[.val (.int p1)] [(.int p1)])) _
              refine XS.iconst X0.here hx rfl (hb hby d2_38) ?_
              exact kS
            by_cases hk5 : p1 = (5 : Int32)
            · refine own_adv (B := (s₁.setTop (mkF m 44 #[.val (.int p1)] [(.int (32 : Int32))]))) (fun t kS => ?_) ?_
              · show Steps p.tables e below (s₁.setTop (mkF m 39 #[.val (.int p1)] [(.int (5 : Int32)), (.int p1)])) _
                refine XS.icmpNo X0.here hx rfl (hb hby d2_39) rfl (teq hk5).2 ?_
                show Steps p.tables e below (s₁.setTop (mkF m 42 #[.val (.int p1)] [])) _
                refine XS.bipush X0.here hx rfl (hb hby d2_42) ?_
                exact kS
              have hv : own_wid p1 = (32 : Int32) := by rw [own_wid, if_neg hk0, if_neg hk1, if_neg hk2, if_neg hk3, if_neg hk4, if_pos hk5]
              obtain ⟨fs, hr, hrun, hended, hW, hsame⟩ := X0.leave (v := some (.int (32 : Int32))) (fun h => by rw [Bd.returns] at h; cases h)
              refine ⟨_, _, ?_, hrun, hended, _, _, rfl, ?_, ⟨_, rfl⟩, hW, hsame.mono (by decide) (by decide)⟩
              · show Steps p.tables e below (s₁.setTop (mkF m 44 #[.val (.int p1)] [(.int (32 : Int32))])) _
                exact retI X0 hx Bd.returns (hb hby d2_44) hr
              · show Q2 Z p1 h0 n0 _ s₁.heap _
                rw [e0]
                exact ⟨by rw [hv], N0, rfl⟩
            · refine own_adv (B := (s₁.setTop (mkF m 47 #[.val (.int p1)] [(.int (64 : Int32))]))) (fun t kS => ?_) ?_
              · show Steps p.tables e below (s₁.setTop (mkF m 39 #[.val (.int p1)] [(.int (5 : Int32)), (.int p1)])) _
                refine XS.icmpYes X0.here hx rfl (pc0 := 39) (pc' := 45) rfl (hb hby d2_39) rfl (feq hk5).2 (by decide) (by decide) ?_
                show Steps p.tables e below (s₁.setTop (mkF m 45 #[.val (.int p1)] [])) _
                refine XS.bipush X0.here hx rfl (hb hby d2_45) ?_
                exact kS
              have hv : own_wid p1 = (64 : Int32) := by rw [own_wid, if_neg hk0, if_neg hk1, if_neg hk2, if_neg hk3, if_neg hk4, if_neg hk5]
              obtain ⟨fs, hr, hrun, hended, hW, hsame⟩ := X0.leave (v := some (.int (64 : Int32))) (fun h => by rw [Bd.returns] at h; cases h)
              refine ⟨_, _, ?_, hrun, hended, _, _, rfl, ?_, ⟨_, rfl⟩, hW, hsame.mono (by decide) (by decide)⟩
              · show Steps p.tables e below (s₁.setTop (mkF m 47 #[.val (.int p1)] [(.int (64 : Int32))])) _
                exact retI X0 hx Bd.returns (hb hby d2_47) hr
              · show Q2 Z p1 h0 n0 _ s₁.heap _
                rw [e0]
                exact ⟨by rw [hv], N0, rfl⟩
theorem ef_3 (m : MethodId) (x0 : Int32) : entryFrame m #[(.int x0)] 1 = mkF m 0 #[.val (.int x0)] [] := by first | (simp [entryFrame, mkF, argsToLocals, Value.category]; done) | rfl
def Q3 (Z : State) (p1 : Int32) (h0 : Heap) (n0 : Nat) (v : Option Value) (h : Heap) (L : List Loc) : Prop := v = some (.long (own_ref p1)) ∧ Fr n0 L ∧ h = h0
set_option maxRecDepth 65536 in
set_option maxHeartbeats 40000000 in
theorem rm3 (l : Launch) (Z : State) (a0 : Array Value) (hw : ∀ d ∈ tables_1, d.before a0 Z = true) (ws : List Jvm.Cond) (p1 : Int32) (h0 : Heap) (n0 : Nat) (Z0 : n0 ≤ h0.size) :
    MetFree l (⟨"com/example/latchkey/latchkey/server/gateway/CrcCombinationCombinePinLaw", "reflected", "(I)J"⟩ : MethodName) (head1 (Jvm.Cond.code (⟨"com/example/latchkey/latchkey/server/gateway/CrcCombinationCombinePinLaw", "reflected", "(I)J"⟩ : MethodName) method_5_code 1 (some .long) :: ws) ({ frames := 0, cells := 0, slots := 0, locals := 0 } : Room)) (fun a U => a = #[(.int p1)] ∧ Z.Warmed39 U.vm ∧ U.heap = h0) (fun _ _ _ _ _ => True) (fun _ U o U' => ∃ v L, o = .returned v ∧ Q3 Z p1 h0 n0 v U'.heap L ∧ FrameEnd U o U' L ({ frames := 0, cells := 0, slots := 0, locals := 0 } : Room).cells ({ frames := 0, cells := 0, slots := 0, locals := 0 } : Room).slots) := by
  refine MetFree.of_bodySF (plainFor_of_name pn_3) hisR ?_
  intro p e s m args below meth c s₁ Bd hml0 hP hK
  obtain ⟨rfl, hZ, hh⟩ := hP
  have hx := Bd.exec
  have hby := Bd.bytes
  have hml : c.maxLocals = 1 := hml0
  have hown : s.vm.findClass "com/example/latchkey/latchkey/server/gateway/CrcCombinationCombinePinLaw" = some m.cls := findClass_of_methodNamed Bd.named
  have hnm := (name_of_methodNamed Bd.named Bd.method).1
  have X0 : Stand p l e ({ frames := 0, cells := 0, slots := 0, locals := 0 } : Room) s m #[(.int p1)] below meth c s₁ [] 0 0 := Stand.of_body Bd
  have e0 : s₁.heap = h0 := by rw [← hh, Bd.state]; rfl
  have N0 := Fr.nil n0
  refine own_adv (B := (s₁.setTop (mkF m 0 #[.val (.int p1)] []))) (fun t k => castTop (ef_3 m p1) k) ?_
  refine own_adv (B := (s₁.setTop (mkF m 1 #[.val (.int p1)] [(.int p1)]))) (fun t kS => ?_) ?_
  · show Steps p.tables e below (s₁.setTop (mkF m 0 #[.val (.int p1)] [])) _
    refine XS.iloadN X0.here hx rfl (hb hby d3_0) rfl ?_
    exact kS
  by_cases hk0 : p1 = (0 : Int32)
  · refine own_adv (B := (s₁.setTop (mkF m 7 #[.val (.int p1)] [(.long (6 : Int64))]))) (fun t kS => ?_) ?_
    · show Steps p.tables e below (s₁.setTop (mkF m 1 #[.val (.int p1)] [(.int p1)])) _
      refine XS.ifNo X0.here hx rfl (hb hby d3_1) rfl ((if0 _ _).trans (teq hk0).2) ?_
      show Steps p.tables e below (s₁.setTop (mkF m 4 #[.val (.int p1)] [])) _
      refine X0.ldc2Long hx hown (mvT hZ (hw _ (List.mem_of_getElem? (i := 11) rfl))) (g := (mkF m 4 #[.val (.int p1)] [])) rfl (hb hby d3_4) _ ?_
      exact kS
    have hv : own_ref p1 = (6 : Int64) := by rw [own_ref, if_pos hk0]
    obtain ⟨fs, hr, hrun, hended, hW, hsame⟩ := X0.leave (v := some (.long (6 : Int64))) (fun h => by rw [Bd.returns] at h; cases h)
    refine ⟨_, _, ?_, hrun, hended, _, _, rfl, ?_, ⟨_, rfl⟩, hW, hsame.mono (by decide) (by decide)⟩
    · show Steps p.tables e below (s₁.setTop (mkF m 7 #[.val (.int p1)] [(.long (6 : Int64))])) _
      exact retOut X0 hx (t := .long) Bd.returns rfl (Or.inr (Or.inl ⟨rfl, rfl, _, rfl⟩)) (hb hby d3_7) hr
    · show Q3 Z p1 h0 n0 _ s₁.heap _
      rw [e0]
      exact ⟨by rw [hv], N0, rfl⟩
  · refine own_adv (B := (s₁.setTop (mkF m 10 #[.val (.int p1)] [(.int (1 : Int32)), (.int p1)]))) (fun t kS => ?_) ?_
    · show Steps p.tables e below (s₁.setTop (mkF m 1 #[.val (.int p1)] [(.int p1)])) _
      refine XS.ifYes X0.here hx rfl (pc0 := 1) (pc' := 8) rfl (hb hby d3_1) rfl ((if0 _ _).trans (feq hk0).2) (by decide) (by decide) ?_
      show Steps p.tables e below (s₁.setTop (mkF m 8 #[.val (.int p1)] [])) _
      refine XS.iloadN X0.here hx rfl (hb hby d3_8) rfl ?_
      show Steps p.tables e below (s₁.setTop (mkF m 9 #[.val (.int p1)] [(.int p1)])) _
      refine XS.iconst X0.here hx rfl (hb hby d3_9) ?_
      exact kS
    by_cases hk1 : p1 = (1 : Int32)
    · refine own_adv (B := (s₁.setTop (mkF m 16 #[.val (.int p1)] [(.long (20 : Int64))]))) (fun t kS => ?_) ?_
      · show Steps p.tables e below (s₁.setTop (mkF m 10 #[.val (.int p1)] [(.int (1 : Int32)), (.int p1)])) _
        refine XS.icmpNo X0.here hx rfl (hb hby d3_10) rfl (teq hk1).2 ?_
        show Steps p.tables e below (s₁.setTop (mkF m 13 #[.val (.int p1)] [])) _
        refine X0.ldc2Long hx hown (mvT hZ (hw _ (List.mem_of_getElem? (i := 72) rfl))) (g := (mkF m 13 #[.val (.int p1)] [])) rfl (hb hby d3_13) _ ?_
        exact kS
      have hv : own_ref p1 = (20 : Int64) := by rw [own_ref, if_neg hk0, if_pos hk1]
      obtain ⟨fs, hr, hrun, hended, hW, hsame⟩ := X0.leave (v := some (.long (20 : Int64))) (fun h => by rw [Bd.returns] at h; cases h)
      refine ⟨_, _, ?_, hrun, hended, _, _, rfl, ?_, ⟨_, rfl⟩, hW, hsame.mono (by decide) (by decide)⟩
      · show Steps p.tables e below (s₁.setTop (mkF m 16 #[.val (.int p1)] [(.long (20 : Int64))])) _
        exact retOut X0 hx (t := .long) Bd.returns rfl (Or.inr (Or.inl ⟨rfl, rfl, _, rfl⟩)) (hb hby d3_16) hr
      · show Q3 Z p1 h0 n0 _ s₁.heap _
        rw [e0]
        exact ⟨by rw [hv], N0, rfl⟩
    · refine own_adv (B := (s₁.setTop (mkF m 19 #[.val (.int p1)] [(.int (2 : Int32)), (.int p1)]))) (fun t kS => ?_) ?_
      · show Steps p.tables e below (s₁.setTop (mkF m 10 #[.val (.int p1)] [(.int (1 : Int32)), (.int p1)])) _
        refine XS.icmpYes X0.here hx rfl (pc0 := 10) (pc' := 17) rfl (hb hby d3_10) rfl (feq hk1).2 (by decide) (by decide) ?_
        show Steps p.tables e below (s₁.setTop (mkF m 17 #[.val (.int p1)] [])) _
        refine XS.iloadN X0.here hx rfl (hb hby d3_17) rfl ?_
        show Steps p.tables e below (s₁.setTop (mkF m 18 #[.val (.int p1)] [(.int p1)])) _
        refine XS.iconst X0.here hx rfl (hb hby d3_18) ?_
        exact kS
      by_cases hk2 : p1 = (2 : Int32)
      · refine own_adv (B := (s₁.setTop (mkF m 25 #[.val (.int p1)] [(.long (140 : Int64))]))) (fun t kS => ?_) ?_
        · show Steps p.tables e below (s₁.setTop (mkF m 19 #[.val (.int p1)] [(.int (2 : Int32)), (.int p1)])) _
          refine XS.icmpNo X0.here hx rfl (hb hby d3_19) rfl (teq hk2).2 ?_
          show Steps p.tables e below (s₁.setTop (mkF m 22 #[.val (.int p1)] [])) _
          refine X0.ldc2Long hx hown (mvT hZ (hw _ (List.mem_of_getElem? (i := 83) rfl))) (g := (mkF m 22 #[.val (.int p1)] [])) rfl (hb hby d3_22) _ ?_
          exact kS
        have hv : own_ref p1 = (140 : Int64) := by rw [own_ref, if_neg hk0, if_neg hk1, if_pos hk2]
        obtain ⟨fs, hr, hrun, hended, hW, hsame⟩ := X0.leave (v := some (.long (140 : Int64))) (fun h => by rw [Bd.returns] at h; cases h)
        refine ⟨_, _, ?_, hrun, hended, _, _, rfl, ?_, ⟨_, rfl⟩, hW, hsame.mono (by decide) (by decide)⟩
        · show Steps p.tables e below (s₁.setTop (mkF m 25 #[.val (.int p1)] [(.long (140 : Int64))])) _
          exact retOut X0 hx (t := .long) Bd.returns rfl (Or.inr (Or.inl ⟨rfl, rfl, _, rfl⟩)) (hb hby d3_25) hr
        · show Q3 Z p1 h0 n0 _ s₁.heap _
          rw [e0]
          exact ⟨by rw [hv], N0, rfl⟩
      · refine own_adv (B := (s₁.setTop (mkF m 28 #[.val (.int p1)] [(.int (3 : Int32)), (.int p1)]))) (fun t kS => ?_) ?_
        · show Steps p.tables e below (s₁.setTop (mkF m 19 #[.val (.int p1)] [(.int (2 : Int32)), (.int p1)])) _
          refine XS.icmpYes X0.here hx rfl (pc0 := 19) (pc' := 26) rfl (hb hby d3_19) rfl (feq hk2).2 (by decide) (by decide) ?_
          show Steps p.tables e below (s₁.setTop (mkF m 26 #[.val (.int p1)] [])) _
          refine XS.iloadN X0.here hx rfl (hb hby d3_26) rfl ?_
          show Steps p.tables e below (s₁.setTop (mkF m 27 #[.val (.int p1)] [(.int p1)])) _
          refine XS.iconst X0.here hx rfl (hb hby d3_27) ?_
          exact kS
        by_cases hk3 : p1 = (3 : Int32)
        · refine own_adv (B := (s₁.setTop (mkF m 34 #[.val (.int p1)] [(.long (40961 : Int64))]))) (fun t kS => ?_) ?_
          · show Steps p.tables e below (s₁.setTop (mkF m 28 #[.val (.int p1)] [(.int (3 : Int32)), (.int p1)])) _
            refine XS.icmpNo X0.here hx rfl (hb hby d3_28) rfl (teq hk3).2 ?_
            show Steps p.tables e below (s₁.setTop (mkF m 31 #[.val (.int p1)] [])) _
            refine X0.ldc2Long hx hown (mvT hZ (hw _ (List.mem_of_getElem? (i := 63) rfl))) (g := (mkF m 31 #[.val (.int p1)] [])) rfl (hb hby d3_31) _ ?_
            exact kS
          have hv : own_ref p1 = (40961 : Int64) := by rw [own_ref, if_neg hk0, if_neg hk1, if_neg hk2, if_pos hk3]
          obtain ⟨fs, hr, hrun, hended, hW, hsame⟩ := X0.leave (v := some (.long (40961 : Int64))) (fun h => by rw [Bd.returns] at h; cases h)
          refine ⟨_, _, ?_, hrun, hended, _, _, rfl, ?_, ⟨_, rfl⟩, hW, hsame.mono (by decide) (by decide)⟩
          · show Steps p.tables e below (s₁.setTop (mkF m 34 #[.val (.int p1)] [(.long (40961 : Int64))])) _
            exact retOut X0 hx (t := .long) Bd.returns rfl (Or.inr (Or.inl ⟨rfl, rfl, _, rfl⟩)) (hb hby d3_34) hr
          · show Q3 Z p1 h0 n0 _ s₁.heap _
            rw [e0]
            exact ⟨by rw [hv], N0, rfl⟩
        · refine own_adv (B := (s₁.setTop (mkF m 37 #[.val (.int p1)] [(.int (4 : Int32)), (.int p1)]))) (fun t kS => ?_) ?_
          · show Steps p.tables e below (s₁.setTop (mkF m 28 #[.val (.int p1)] [(.int (3 : Int32)), (.int p1)])) _
            refine XS.icmpYes X0.here hx rfl (pc0 := 28) (pc' := 35) rfl (hb hby d3_28) rfl (feq hk3).2 (by decide) (by decide) ?_
            show Steps p.tables e below (s₁.setTop (mkF m 35 #[.val (.int p1)] [])) _
            refine XS.iloadN X0.here hx rfl (hb hby d3_35) rfl ?_
            show Steps p.tables e below (s₁.setTop (mkF m 36 #[.val (.int p1)] [(.int p1)])) _
            refine XS.iconst X0.here hx rfl (hb hby d3_36) ?_
            exact kS
          by_cases hk4 : p1 = (4 : Int32)
          · refine own_adv (B := (s₁.setTop (mkF m 43 #[.val (.int p1)] [(.long (3988292384 : Int64))]))) (fun t kS => ?_) ?_
            · show Steps p.tables e below (s₁.setTop (mkF m 37 #[.val (.int p1)] [(.int (4 : Int32)), (.int p1)])) _
              refine XS.icmpNo X0.here hx rfl (hb hby d3_37) rfl (teq hk4).2 ?_
              show Steps p.tables e below (s₁.setTop (mkF m 40 #[.val (.int p1)] [])) _
              refine X0.ldc2Long hx hown (mvT hZ (hw _ (List.mem_of_getElem? (i := 74) rfl))) (g := (mkF m 40 #[.val (.int p1)] [])) rfl (hb hby d3_40) _ ?_
              exact kS
            have hv : own_ref p1 = (3988292384 : Int64) := by rw [own_ref, if_neg hk0, if_neg hk1, if_neg hk2, if_neg hk3, if_pos hk4]
            obtain ⟨fs, hr, hrun, hended, hW, hsame⟩ := X0.leave (v := some (.long (3988292384 : Int64))) (fun h => by rw [Bd.returns] at h; cases h)
            refine ⟨_, _, ?_, hrun, hended, _, _, rfl, ?_, ⟨_, rfl⟩, hW, hsame.mono (by decide) (by decide)⟩
            · show Steps p.tables e below (s₁.setTop (mkF m 43 #[.val (.int p1)] [(.long (3988292384 : Int64))])) _
              exact retOut X0 hx (t := .long) Bd.returns rfl (Or.inr (Or.inl ⟨rfl, rfl, _, rfl⟩)) (hb hby d3_43) hr
            · show Q3 Z p1 h0 n0 _ s₁.heap _
              rw [e0]
              exact ⟨by rw [hv], N0, rfl⟩
          · refine own_adv (B := (s₁.setTop (mkF m 46 #[.val (.int p1)] [(.int (5 : Int32)), (.int p1)]))) (fun t kS => ?_) ?_
            · show Steps p.tables e below (s₁.setTop (mkF m 37 #[.val (.int p1)] [(.int (4 : Int32)), (.int p1)])) _
              refine XS.icmpYes X0.here hx rfl (pc0 := 37) (pc' := 44) rfl (hb hby d3_37) rfl (feq hk4).2 (by decide) (by decide) ?_
              show Steps p.tables e below (s₁.setTop (mkF m 44 #[.val (.int p1)] [])) _
              refine XS.iloadN X0.here hx rfl (hb hby d3_44) rfl ?_
              show Steps p.tables e below (s₁.setTop (mkF m 45 #[.val (.int p1)] [(.int p1)])) _
              refine XS.iconst X0.here hx rfl (hb hby d3_45) ?_
              exact kS
            by_cases hk5 : p1 = (5 : Int32)
            · refine own_adv (B := (s₁.setTop (mkF m 52 #[.val (.int p1)] [(.long (2197175160 : Int64))]))) (fun t kS => ?_) ?_
              · show Steps p.tables e below (s₁.setTop (mkF m 46 #[.val (.int p1)] [(.int (5 : Int32)), (.int p1)])) _
                refine XS.icmpNo X0.here hx rfl (hb hby d3_46) rfl (teq hk5).2 ?_
                show Steps p.tables e below (s₁.setTop (mkF m 49 #[.val (.int p1)] [])) _
                refine X0.ldc2Long hx hown (mvT hZ (hw _ (List.mem_of_getElem? (i := 81) rfl))) (g := (mkF m 49 #[.val (.int p1)] [])) rfl (hb hby d3_49) _ ?_
                exact kS
              have hv : own_ref p1 = (2197175160 : Int64) := by rw [own_ref, if_neg hk0, if_neg hk1, if_neg hk2, if_neg hk3, if_neg hk4, if_pos hk5]
              obtain ⟨fs, hr, hrun, hended, hW, hsame⟩ := X0.leave (v := some (.long (2197175160 : Int64))) (fun h => by rw [Bd.returns] at h; cases h)
              refine ⟨_, _, ?_, hrun, hended, _, _, rfl, ?_, ⟨_, rfl⟩, hW, hsame.mono (by decide) (by decide)⟩
              · show Steps p.tables e below (s₁.setTop (mkF m 52 #[.val (.int p1)] [(.long (2197175160 : Int64))])) _
                exact retOut X0 hx (t := .long) Bd.returns rfl (Or.inr (Or.inl ⟨rfl, rfl, _, rfl⟩)) (hb hby d3_52) hr
              · show Q3 Z p1 h0 n0 _ s₁.heap _
                rw [e0]
                exact ⟨by rw [hv], N0, rfl⟩
            · refine own_adv (B := (s₁.setTop (mkF m 56 #[.val (.int p1)] [(.int (6 : Int32)), (.int p1)]))) (fun t kS => ?_) ?_
              · show Steps p.tables e below (s₁.setTop (mkF m 46 #[.val (.int p1)] [(.int (5 : Int32)), (.int p1)])) _
                refine XS.icmpYes X0.here hx rfl (pc0 := 46) (pc' := 53) rfl (hb hby d3_46) rfl (feq hk5).2 (by decide) (by decide) ?_
                show Steps p.tables e below (s₁.setTop (mkF m 53 #[.val (.int p1)] [])) _
                refine XS.iloadN X0.here hx rfl (hb hby d3_53) rfl ?_
                show Steps p.tables e below (s₁.setTop (mkF m 54 #[.val (.int p1)] [(.int p1)])) _
                refine XS.bipush X0.here hx rfl (hb hby d3_54) ?_
                exact kS
              by_cases hk6 : p1 = (6 : Int32)
              · refine own_adv (B := (s₁.setTop (mkF m 62 #[.val (.int p1)] [(.long (-7319313487190308427 : Int64))]))) (fun t kS => ?_) ?_
                · show Steps p.tables e below (s₁.setTop (mkF m 56 #[.val (.int p1)] [(.int (6 : Int32)), (.int p1)])) _
                  refine XS.icmpNo X0.here hx rfl (hb hby d3_56) rfl (teq hk6).2 ?_
                  show Steps p.tables e below (s₁.setTop (mkF m 59 #[.val (.int p1)] [])) _
                  refine X0.ldc2Long hx hown (mvT hZ (hw _ (List.mem_of_getElem? (i := 79) rfl))) (g := (mkF m 59 #[.val (.int p1)] [])) rfl (hb hby d3_59) _ ?_
                  exact kS
                have hv : own_ref p1 = (-7319313487190308427 : Int64) := by rw [own_ref, if_neg hk0, if_neg hk1, if_neg hk2, if_neg hk3, if_neg hk4, if_neg hk5, if_pos hk6]
                obtain ⟨fs, hr, hrun, hended, hW, hsame⟩ := X0.leave (v := some (.long (-7319313487190308427 : Int64))) (fun h => by rw [Bd.returns] at h; cases h)
                refine ⟨_, _, ?_, hrun, hended, _, _, rfl, ?_, ⟨_, rfl⟩, hW, hsame.mono (by decide) (by decide)⟩
                · show Steps p.tables e below (s₁.setTop (mkF m 62 #[.val (.int p1)] [(.long (-7319313487190308427 : Int64))])) _
                  exact retOut X0 hx (t := .long) Bd.returns rfl (Or.inr (Or.inl ⟨rfl, rfl, _, rfl⟩)) (hb hby d3_62) hr
                · show Q3 Z p1 h0 n0 _ s₁.heap _
                  rw [e0]
                  exact ⟨by rw [hv], N0, rfl⟩
              · refine own_adv (B := (s₁.setTop (mkF m 66 #[.val (.int p1)] [(.long (-3932672073523589310 : Int64))]))) (fun t kS => ?_) ?_
                · show Steps p.tables e below (s₁.setTop (mkF m 56 #[.val (.int p1)] [(.int (6 : Int32)), (.int p1)])) _
                  refine XS.icmpYes X0.here hx rfl (pc0 := 56) (pc' := 63) rfl (hb hby d3_56) rfl (feq hk6).2 (by decide) (by decide) ?_
                  show Steps p.tables e below (s₁.setTop (mkF m 63 #[.val (.int p1)] [])) _
                  refine X0.ldc2Long hx hown (mvT hZ (hw _ (List.mem_of_getElem? (i := 76) rfl))) (g := (mkF m 63 #[.val (.int p1)] [])) rfl (hb hby d3_63) _ ?_
                  exact kS
                have hv : own_ref p1 = (-3932672073523589310 : Int64) := by rw [own_ref, if_neg hk0, if_neg hk1, if_neg hk2, if_neg hk3, if_neg hk4, if_neg hk5, if_neg hk6]
                obtain ⟨fs, hr, hrun, hended, hW, hsame⟩ := X0.leave (v := some (.long (-3932672073523589310 : Int64))) (fun h => by rw [Bd.returns] at h; cases h)
                refine ⟨_, _, ?_, hrun, hended, _, _, rfl, ?_, ⟨_, rfl⟩, hW, hsame.mono (by decide) (by decide)⟩
                · show Steps p.tables e below (s₁.setTop (mkF m 66 #[.val (.int p1)] [(.long (-3932672073523589310 : Int64))])) _
                  exact retOut X0 hx (t := .long) Bd.returns rfl (Or.inr (Or.inl ⟨rfl, rfl, _, rfl⟩)) (hb hby d3_66) hr
                · show Q3 Z p1 h0 n0 _ s₁.heap _
                  rw [e0]
                  exact ⟨by rw [hv], N0, rfl⟩
theorem ef_9 (m : MethodId) (x0 : Int32) : entryFrame m #[(.int x0)] 1 = mkF m 0 #[.val (.int x0)] [] := by first | (simp [entryFrame, mkF, argsToLocals, Value.category]; done) | rfl
def Q9 (Z : State) (p1 : Int32) (h0 : Heap) (n0 : Nat) (v : Option Value) (h : Heap) (L : List Loc) : Prop := v = some (.long (own_bm p1)) ∧ Fr n0 L ∧ h = h0
set_option maxRecDepth 65536 in
set_option maxHeartbeats 40000000 in
theorem rm9 (l : Launch) (Z : State) (a0 : Array Value) (hw : ∀ d ∈ tables_1, d.before a0 Z = true) (ws : List Jvm.Cond) (p1 : Int32) (h0 : Heap) (n0 : Nat) (Z0 : n0 ≤ h0.size) :
    MetFree l (⟨"com/example/latchkey/latchkey/server/gateway/CrcCombinationCombinePinLaw", "byteMask", "(I)J"⟩ : MethodName) (head1 (Jvm.Cond.code (⟨"com/example/latchkey/latchkey/server/gateway/CrcCombinationCombinePinLaw", "byteMask", "(I)J"⟩ : MethodName) method_6_code 1 (some .long) :: ws) ({ frames := 0, cells := 0, slots := 0, locals := 0 } : Room)) (fun a U => a = #[(.int p1)] ∧ Z.Warmed39 U.vm ∧ U.heap = h0) (fun _ _ _ _ _ => True) (fun _ U o U' => ∃ v L, o = .returned v ∧ Q9 Z p1 h0 n0 v U'.heap L ∧ FrameEnd U o U' L ({ frames := 0, cells := 0, slots := 0, locals := 0 } : Room).cells ({ frames := 0, cells := 0, slots := 0, locals := 0 } : Room).slots) := by
  refine MetFree.of_bodySF (plainFor_of_name pn_9) hisR ?_
  intro p e s m args below meth c s₁ Bd hml0 hP hK
  obtain ⟨rfl, hZ, hh⟩ := hP
  have hx := Bd.exec
  have hby := Bd.bytes
  have hml : c.maxLocals = 1 := hml0
  have hown : s.vm.findClass "com/example/latchkey/latchkey/server/gateway/CrcCombinationCombinePinLaw" = some m.cls := findClass_of_methodNamed Bd.named
  have hnm := (name_of_methodNamed Bd.named Bd.method).1
  have X0 : Stand p l e ({ frames := 0, cells := 0, slots := 0, locals := 0 } : Room) s m #[(.int p1)] below meth c s₁ [] 0 0 := Stand.of_body Bd
  have e0 : s₁.heap = h0 := by rw [← hh, Bd.state]; rfl
  have N0 := Fr.nil n0
  refine own_adv (B := (s₁.setTop (mkF m 0 #[.val (.int p1)] []))) (fun t k => castTop (ef_9 m p1) k) ?_
  refine own_adv (B := (s₁.setTop (mkF m 1 #[.val (.int p1)] [(.int p1)]))) (fun t kS => ?_) ?_
  · show Steps p.tables e below (s₁.setTop (mkF m 0 #[.val (.int p1)] [])) _
    refine XS.iloadN X0.here hx rfl (hb hby d9_0) rfl ?_
    exact kS
  by_cases h0n : p1 = (0 : Int32)
  · refine own_adv (B := (s₁.setTop (mkF m 5 #[.val (.int p1)] [(.long (0 : Int64))]))) (fun t kS => ?_) ?_
    · show Steps p.tables e below (s₁.setTop (mkF m 1 #[.val (.int p1)] [(.int p1)])) _
      refine XS.ifNo X0.here hx rfl (hb hby d9_1) rfl ((if0 _ _).trans (teq h0n).2) ?_
      show Steps p.tables e below (s₁.setTop (mkF m 4 #[.val (.int p1)] [])) _
      refine XS.lconst X0.here hx rfl (hb hby d9_4) ?_
      exact kS
    have hv : own_bm p1 = (0 : Int64) := by rw [own_bm, if_pos h0n]
    obtain ⟨fs, hr, hrun, hended, hW, hsame⟩ := X0.leave (v := some (.long (0 : Int64))) (fun h => by rw [Bd.returns] at h; cases h)
    refine ⟨_, _, ?_, hrun, hended, _, _, rfl, ?_, ⟨_, rfl⟩, hW, hsame.mono (by decide) (by decide)⟩
    · show Steps p.tables e below (s₁.setTop (mkF m 5 #[.val (.int p1)] [(.long (0 : Int64))])) _
      exact retOut X0 hx (t := .long) Bd.returns rfl (Or.inr (Or.inl ⟨rfl, rfl, _, rfl⟩)) (hb hby d9_5) hr
    · show Q9 Z p1 h0 n0 _ s₁.heap _
      rw [e0]
      exact ⟨by rw [hv], N0, rfl⟩
  · refine own_adv (B := (s₁.setTop (mkF m 14 #[.val (.int p1)] [(.long (((1 : Int64) <<< (((8 : Int32) * p1) &&& 0x3f).toInt64) - (1 : Int64)))]))) (fun t kS => ?_) ?_
    · show Steps p.tables e below (s₁.setTop (mkF m 1 #[.val (.int p1)] [(.int p1)])) _
      refine XS.ifYes X0.here hx rfl (pc0 := 1) (pc' := 6) rfl (hb hby d9_1) rfl ((if0 _ _).trans (feq h0n).2) (by decide) (by decide) ?_
      show Steps p.tables e below (s₁.setTop (mkF m 6 #[.val (.int p1)] [])) _
      refine XS.lconst X0.here hx rfl (hb hby d9_6) ?_
      show Steps p.tables e below (s₁.setTop (mkF m 7 #[.val (.int p1)] [(.long (1 : Int64))])) _
      refine XS.bipush X0.here hx rfl (hb hby d9_7) ?_
      show Steps p.tables e below (s₁.setTop (mkF m 9 #[.val (.int p1)] [(.int (8 : Int32)), (.long (1 : Int64))])) _
      refine XS.iloadN X0.here hx rfl (hb hby d9_9) rfl ?_
      show Steps p.tables e below (s₁.setTop (mkF m 10 #[.val (.int p1)] [(.int p1), (.int (8 : Int32)), (.long (1 : Int64))])) _
      refine XS.imul X0.here hx rfl (hb hby d9_10) rfl ?_
      show Steps p.tables e below (s₁.setTop (mkF m 11 #[.val (.int p1)] [(.int ((8 : Int32) * p1)), (.long (1 : Int64))])) _
      refine XS.lshl X0.here hx rfl (hb hby d9_11) rfl ?_
      show Steps p.tables e below (s₁.setTop (mkF m 12 #[.val (.int p1)] [(.long ((1 : Int64) <<< (((8 : Int32) * p1) &&& 0x3f).toInt64))])) _
      refine XS.lconst X0.here hx rfl (hb hby d9_12) ?_
      show Steps p.tables e below (s₁.setTop (mkF m 13 #[.val (.int p1)] [(.long (1 : Int64)), (.long ((1 : Int64) <<< (((8 : Int32) * p1) &&& 0x3f).toInt64))])) _
      refine XS.lsub X0.here hx rfl (hb hby d9_13) rfl ?_
      exact kS
    have hv : own_bm p1 = (((1 : Int64) <<< (((8 : Int32) * p1) &&& 0x3f).toInt64) - (1 : Int64)) := by rw [own_bm, if_neg h0n]
    obtain ⟨fs, hr, hrun, hended, hW, hsame⟩ := X0.leave (v := some (.long (((1 : Int64) <<< (((8 : Int32) * p1) &&& 0x3f).toInt64) - (1 : Int64)))) (fun h => by rw [Bd.returns] at h; cases h)
    refine ⟨_, _, ?_, hrun, hended, _, _, rfl, ?_, ⟨_, rfl⟩, hW, hsame.mono (by decide) (by decide)⟩
    · show Steps p.tables e below (s₁.setTop (mkF m 14 #[.val (.int p1)] [(.long (((1 : Int64) <<< (((8 : Int32) * p1) &&& 0x3f).toInt64) - (1 : Int64)))])) _
      exact retOut X0 hx (t := .long) Bd.returns rfl (Or.inr (Or.inl ⟨rfl, rfl, _, rfl⟩)) (hb hby d9_14) hr
    · show Q9 Z p1 h0 n0 _ s₁.heap _
      rw [e0]
      exact ⟨by rw [hv], N0, rfl⟩
theorem ef_15 (m : MethodId) (x0 : Int64) (x1 : Int64) (x2 : Int64) : entryFrame m #[(.long x0), (.long x1), (.long x2)] 8 = mkF m 0 #[.val (.long x0), .second, .val (.long x1), .second, .val (.long x2), .second, .unset, .unset] [] := by first | (simp [entryFrame, mkF, argsToLocals, Value.category]; done) | rfl
def Q15 (Z : State) (q1 : Int64) (q2 : Int64) (q3 : Int64) (h0 : Heap) (n0 : Nat) (v : Option Value) (h : Heap) (L : List Loc) : Prop := v = some (.long (own_T q3 (q1 ^^^ q2))) ∧ Fr n0 L ∧ h = h0
set_option maxRecDepth 65536 in
set_option maxHeartbeats 40000000 in
theorem rm15 (l : Launch) (Z : State) (a0 : Array Value) (hw : ∀ d ∈ tables_1, d.before a0 Z = true) (ws : List Jvm.Cond) (q1 : Int64) (q2 : Int64) (q3 : Int64) (h0 : Heap) (n0 : Nat) (Z0 : n0 ≤ h0.size) :
    MetFree l (⟨"com/example/latchkey/latchkey/server/gateway/CrcCombinationCombinePinLaw", "bit", "(JJJ)J"⟩ : MethodName) (head1 (Jvm.Cond.code (⟨"com/example/latchkey/latchkey/server/gateway/CrcCombinationCombinePinLaw", "bit", "(JJJ)J"⟩ : MethodName) method_7_code 8 (some .long) :: ws) ({ frames := 0, cells := 0, slots := 0, locals := 0 } : Room)) (fun a U => a = #[(.long q1), (.long q2), (.long q3)] ∧ Z.Warmed39 U.vm ∧ U.heap = h0) (fun _ _ _ _ _ => True) (fun _ U o U' => ∃ v L, o = .returned v ∧ Q15 Z q1 q2 q3 h0 n0 v U'.heap L ∧ FrameEnd U o U' L ({ frames := 0, cells := 0, slots := 0, locals := 0 } : Room).cells ({ frames := 0, cells := 0, slots := 0, locals := 0 } : Room).slots) := by
  refine MetFree.of_bodySF (plainFor_of_name pn_15) hisR ?_
  intro p e s m args below meth c s₁ Bd hml0 hP hK
  obtain ⟨rfl, hZ, hh⟩ := hP
  have hx := Bd.exec
  have hby := Bd.bytes
  have hml : c.maxLocals = 8 := hml0
  have hown : s.vm.findClass "com/example/latchkey/latchkey/server/gateway/CrcCombinationCombinePinLaw" = some m.cls := findClass_of_methodNamed Bd.named
  have hnm := (name_of_methodNamed Bd.named Bd.method).1
  have X0 : Stand p l e ({ frames := 0, cells := 0, slots := 0, locals := 0 } : Room) s m #[(.long q1), (.long q2), (.long q3)] below meth c s₁ [] 0 0 := Stand.of_body Bd
  have e0 : s₁.heap = h0 := by rw [← hh, Bd.state]; rfl
  have N0 := Fr.nil n0
  refine own_adv (B := (s₁.setTop (mkF m 0 #[.val (.long q1), .second, .val (.long q2), .second, .val (.long q3), .second, .unset, .unset] []))) (fun t k => castTop (ef_15 m q1 q2 q3) k) ?_
  obtain ⟨v, hv, st1⟩ : ∃ (v : Int64), (v = (own_T q3 (q1 ^^^ q2))) ∧ ∀ t, Steps p.tables e below (s₁.setTop (mkF m 28 #[.val (.long q1), .second, .val (.long q2), .second, .val (.long q3), .second, .val (.long (q1 ^^^ q2)), .second] [(.long v)])) t → Steps p.tables e below (s₁.setTop (mkF m 0 #[.val (.long q1), .second, .val (.long q2), .second, .val (.long q3), .second, .unset, .unset] [])) t := by
    by_cases hb1_11 : (lcmpW ((q1 ^^^ q2) &&& (1 : Int64)) (0 : Int64)) = (0 : Int32)
    · refine ⟨(((q1 ^^^ q2).toUInt64 >>> ((1 : Int32) &&& 0x3f).toInt64.toUInt64).toInt64), own_T_even q3 (q1 ^^^ q2) hb1_11, fun t kS => ?_⟩
      show Steps p.tables e below (s₁.setTop (mkF m 0 #[.val (.long q1), .second, .val (.long q2), .second, .val (.long q3), .second, .unset, .unset] [])) _
      refine XS.lloadN X0.here hx rfl (hb hby d15_0) rfl ?_
      show Steps p.tables e below (s₁.setTop (mkF m 1 #[.val (.long q1), .second, .val (.long q2), .second, .val (.long q3), .second, .unset, .unset] [(.long q1)])) _
      refine XS.lloadN X0.here hx rfl (hb hby d15_1) rfl ?_
      show Steps p.tables e below (s₁.setTop (mkF m 2 #[.val (.long q1), .second, .val (.long q2), .second, .val (.long q3), .second, .unset, .unset] [(.long q2), (.long q1)])) _
      refine XS.lxor X0.here hx rfl (hb hby d15_2) rfl ?_
      show Steps p.tables e below (s₁.setTop (mkF m 3 #[.val (.long q1), .second, .val (.long q2), .second, .val (.long q3), .second, .unset, .unset] [(.long (q1 ^^^ q2))])) _
      refine XS.lstore X0.here hx rfl (hb hby d15_3) rfl (l' := #[.val (.long q1), .second, .val (.long q2), .second, .val (.long q3), .second, .val (.long (q1 ^^^ q2)), .second]) rfl ?_
      show Steps p.tables e below (s₁.setTop (mkF m 5 #[.val (.long q1), .second, .val (.long q2), .second, .val (.long q3), .second, .val (.long (q1 ^^^ q2)), .second] [])) _
      refine XS.lload X0.here hx rfl (hb hby d15_5) rfl ?_
      show Steps p.tables e below (s₁.setTop (mkF m 7 #[.val (.long q1), .second, .val (.long q2), .second, .val (.long q3), .second, .val (.long (q1 ^^^ q2)), .second] [(.long (q1 ^^^ q2))])) _
      refine XS.lconst X0.here hx rfl (hb hby d15_7) ?_
      show Steps p.tables e below (s₁.setTop (mkF m 8 #[.val (.long q1), .second, .val (.long q2), .second, .val (.long q3), .second, .val (.long (q1 ^^^ q2)), .second] [(.long (1 : Int64)), (.long (q1 ^^^ q2))])) _
      refine XS.land X0.here hx rfl (hb hby d15_8) rfl ?_
      show Steps p.tables e below (s₁.setTop (mkF m 9 #[.val (.long q1), .second, .val (.long q2), .second, .val (.long q3), .second, .val (.long (q1 ^^^ q2)), .second] [(.long ((q1 ^^^ q2) &&& (1 : Int64)))])) _
      refine XS.lconst X0.here hx rfl (hb hby d15_9) ?_
      show Steps p.tables e below (s₁.setTop (mkF m 10 #[.val (.long q1), .second, .val (.long q2), .second, .val (.long q3), .second, .val (.long (q1 ^^^ q2)), .second] [(.long (0 : Int64)), (.long ((q1 ^^^ q2) &&& (1 : Int64)))])) _
      refine XS.lcmp X0.here hx rfl (hb hby d15_10) rfl ?_
      show Steps p.tables e below (s₁.setTop (mkF m 11 #[.val (.long q1), .second, .val (.long q2), .second, .val (.long q3), .second, .val (.long (q1 ^^^ q2)), .second] [(.int (lcmpW ((q1 ^^^ q2) &&& (1 : Int64)) (0 : Int64)))])) _
      refine XS.ifYes X0.here hx rfl (pc0 := 11) (pc' := 24) rfl (hb hby d15_11) rfl ((if0 _ _).trans (teq hb1_11).1) (by decide) (by decide) ?_
      show Steps p.tables e below (s₁.setTop (mkF m 24 #[.val (.long q1), .second, .val (.long q2), .second, .val (.long q3), .second, .val (.long (q1 ^^^ q2)), .second] [])) _
      refine XS.lload X0.here hx rfl (hb hby d15_24) rfl ?_
      show Steps p.tables e below (s₁.setTop (mkF m 26 #[.val (.long q1), .second, .val (.long q2), .second, .val (.long q3), .second, .val (.long (q1 ^^^ q2)), .second] [(.long (q1 ^^^ q2))])) _
      refine XS.iconst X0.here hx rfl (hb hby d15_26) ?_
      show Steps p.tables e below (s₁.setTop (mkF m 27 #[.val (.long q1), .second, .val (.long q2), .second, .val (.long q3), .second, .val (.long (q1 ^^^ q2)), .second] [(.int (1 : Int32)), (.long (q1 ^^^ q2))])) _
      refine XS.lushr X0.here hx rfl (hb hby d15_27) rfl ?_
      exact kS
    · refine ⟨((((q1 ^^^ q2).toUInt64 >>> ((1 : Int32) &&& 0x3f).toInt64.toUInt64).toInt64) ^^^ q3), own_T_odd q3 (q1 ^^^ q2) hb1_11, fun t kS => ?_⟩
      show Steps p.tables e below (s₁.setTop (mkF m 0 #[.val (.long q1), .second, .val (.long q2), .second, .val (.long q3), .second, .unset, .unset] [])) _
      refine XS.lloadN X0.here hx rfl (hb hby d15_0) rfl ?_
      show Steps p.tables e below (s₁.setTop (mkF m 1 #[.val (.long q1), .second, .val (.long q2), .second, .val (.long q3), .second, .unset, .unset] [(.long q1)])) _
      refine XS.lloadN X0.here hx rfl (hb hby d15_1) rfl ?_
      show Steps p.tables e below (s₁.setTop (mkF m 2 #[.val (.long q1), .second, .val (.long q2), .second, .val (.long q3), .second, .unset, .unset] [(.long q2), (.long q1)])) _
      refine XS.lxor X0.here hx rfl (hb hby d15_2) rfl ?_
      show Steps p.tables e below (s₁.setTop (mkF m 3 #[.val (.long q1), .second, .val (.long q2), .second, .val (.long q3), .second, .unset, .unset] [(.long (q1 ^^^ q2))])) _
      refine XS.lstore X0.here hx rfl (hb hby d15_3) rfl (l' := #[.val (.long q1), .second, .val (.long q2), .second, .val (.long q3), .second, .val (.long (q1 ^^^ q2)), .second]) rfl ?_
      show Steps p.tables e below (s₁.setTop (mkF m 5 #[.val (.long q1), .second, .val (.long q2), .second, .val (.long q3), .second, .val (.long (q1 ^^^ q2)), .second] [])) _
      refine XS.lload X0.here hx rfl (hb hby d15_5) rfl ?_
      show Steps p.tables e below (s₁.setTop (mkF m 7 #[.val (.long q1), .second, .val (.long q2), .second, .val (.long q3), .second, .val (.long (q1 ^^^ q2)), .second] [(.long (q1 ^^^ q2))])) _
      refine XS.lconst X0.here hx rfl (hb hby d15_7) ?_
      show Steps p.tables e below (s₁.setTop (mkF m 8 #[.val (.long q1), .second, .val (.long q2), .second, .val (.long q3), .second, .val (.long (q1 ^^^ q2)), .second] [(.long (1 : Int64)), (.long (q1 ^^^ q2))])) _
      refine XS.land X0.here hx rfl (hb hby d15_8) rfl ?_
      show Steps p.tables e below (s₁.setTop (mkF m 9 #[.val (.long q1), .second, .val (.long q2), .second, .val (.long q3), .second, .val (.long (q1 ^^^ q2)), .second] [(.long ((q1 ^^^ q2) &&& (1 : Int64)))])) _
      refine XS.lconst X0.here hx rfl (hb hby d15_9) ?_
      show Steps p.tables e below (s₁.setTop (mkF m 10 #[.val (.long q1), .second, .val (.long q2), .second, .val (.long q3), .second, .val (.long (q1 ^^^ q2)), .second] [(.long (0 : Int64)), (.long ((q1 ^^^ q2) &&& (1 : Int64)))])) _
      refine XS.lcmp X0.here hx rfl (hb hby d15_10) rfl ?_
      show Steps p.tables e below (s₁.setTop (mkF m 11 #[.val (.long q1), .second, .val (.long q2), .second, .val (.long q3), .second, .val (.long (q1 ^^^ q2)), .second] [(.int (lcmpW ((q1 ^^^ q2) &&& (1 : Int64)) (0 : Int64)))])) _
      refine XS.ifNo X0.here hx rfl (hb hby d15_11) rfl ((if0 _ _).trans (feq hb1_11).1) ?_
      show Steps p.tables e below (s₁.setTop (mkF m 14 #[.val (.long q1), .second, .val (.long q2), .second, .val (.long q3), .second, .val (.long (q1 ^^^ q2)), .second] [])) _
      refine XS.lload X0.here hx rfl (hb hby d15_14) rfl ?_
      show Steps p.tables e below (s₁.setTop (mkF m 16 #[.val (.long q1), .second, .val (.long q2), .second, .val (.long q3), .second, .val (.long (q1 ^^^ q2)), .second] [(.long (q1 ^^^ q2))])) _
      refine XS.iconst X0.here hx rfl (hb hby d15_16) ?_
      show Steps p.tables e below (s₁.setTop (mkF m 17 #[.val (.long q1), .second, .val (.long q2), .second, .val (.long q3), .second, .val (.long (q1 ^^^ q2)), .second] [(.int (1 : Int32)), (.long (q1 ^^^ q2))])) _
      refine XS.lushr X0.here hx rfl (hb hby d15_17) rfl ?_
      show Steps p.tables e below (s₁.setTop (mkF m 18 #[.val (.long q1), .second, .val (.long q2), .second, .val (.long q3), .second, .val (.long (q1 ^^^ q2)), .second] [(.long (((q1 ^^^ q2).toUInt64 >>> ((1 : Int32) &&& 0x3f).toInt64.toUInt64).toInt64))])) _
      refine XS.lload X0.here hx rfl (hb hby d15_18) rfl ?_
      show Steps p.tables e below (s₁.setTop (mkF m 20 #[.val (.long q1), .second, .val (.long q2), .second, .val (.long q3), .second, .val (.long (q1 ^^^ q2)), .second] [(.long q3), (.long (((q1 ^^^ q2).toUInt64 >>> ((1 : Int32) &&& 0x3f).toInt64.toUInt64).toInt64))])) _
      refine XS.lxor X0.here hx rfl (hb hby d15_20) rfl ?_
      show Steps p.tables e below (s₁.setTop (mkF m 21 #[.val (.long q1), .second, .val (.long q2), .second, .val (.long q3), .second, .val (.long (q1 ^^^ q2)), .second] [(.long ((((q1 ^^^ q2).toUInt64 >>> ((1 : Int32) &&& 0x3f).toInt64.toUInt64).toInt64) ^^^ q3))])) _
      refine XS.goto X0.here hx rfl (pc0 := 21) (pc' := 28) rfl (hb hby d15_21) (by decide) (by decide) ?_
      exact kS
  refine own_adv st1 ?_
  subst hv
  obtain ⟨fs, hr, hrun, hended, hW, hsame⟩ := X0.leave (v := some (.long (own_T q3 (q1 ^^^ q2)))) (fun h => by rw [Bd.returns] at h; cases h)
  refine ⟨_, _, ?_, hrun, hended, _, _, rfl, ?_, ⟨_, rfl⟩, hW, hsame.mono (by decide) (by decide)⟩
  · show Steps p.tables e below (s₁.setTop (mkF m 28 #[.val (.long q1), .second, .val (.long q2), .second, .val (.long q3), .second, .val (.long (q1 ^^^ q2)), .second] [(.long (own_T q3 (q1 ^^^ q2)))])) _
    exact retOut X0 hx (t := .long) Bd.returns rfl (Or.inr (Or.inl ⟨rfl, rfl, _, rfl⟩)) (hb hby d15_28) hr
  · show Q15 Z q1 q2 q3 h0 n0 _ s₁.heap _
    rw [e0]
    exact ⟨rfl, N0, rfl⟩
theorem ef_14 (m : MethodId) (x0 : Int64) (x1 : Int64) (x2 : Int64) : entryFrame m #[(.long x0), (.long x1), (.long x2)] 8 = mkF m 0 #[.val (.long x0), .second, .val (.long x1), .second, .val (.long x2), .second, .unset, .unset] [] := by first | (simp [entryFrame, mkF, argsToLocals, Value.category]; done) | rfl
def Q14 (Z : State) (q1 : Int64) (q2 : Int64) (q3 : Int64) (h0 : Heap) (n0 : Nat) (v : Option Value) (h : Heap) (L : List Loc) : Prop := v = some (.long (own_By q3 q1 q2)) ∧ Fr n0 L ∧ h = h0
set_option maxRecDepth 65536 in
set_option maxHeartbeats 40000000 in
theorem rm14 (l : Launch) (Z : State) (a0 : Array Value) (hw : ∀ d ∈ tables_1, d.before a0 Z = true) (ws : List Jvm.Cond) (q1 : Int64) (q2 : Int64) (q3 : Int64) (h0 : Heap) (n0 : Nat) (Z0 : n0 ≤ h0.size) :
    MetFree l (⟨"com/example/latchkey/latchkey/server/gateway/CrcCombinationCombinePinLaw", "byteStep", "(JJJ)J"⟩ : MethodName) (head1 (Jvm.Cond.code (⟨"com/example/latchkey/latchkey/server/gateway/CrcCombinationCombinePinLaw", "byteStep", "(JJJ)J"⟩ : MethodName) method_8_code 8 (some .long) :: ws) ({ frames := 1, cells := 0, slots := 0, locals := 19 } : Room)) (fun a U => a = #[(.long q1), (.long q2), (.long q3)] ∧ Z.Warmed39 U.vm ∧ U.heap = h0) (fun _ _ _ _ _ => True) (fun _ U o U' => ∃ v L, o = .returned v ∧ Q14 Z q1 q2 q3 h0 n0 v U'.heap L ∧ FrameEnd U o U' L ({ frames := 1, cells := 0, slots := 0, locals := 19 } : Room).cells ({ frames := 1, cells := 0, slots := 0, locals := 19 } : Room).slots) := by
  refine MetFree.of_bodySF (plainFor_of_name pn_14) hisR ?_
  intro p e s m args below meth c s₁ Bd hml0 hP hK
  obtain ⟨rfl, hZ, hh⟩ := hP
  have hx := Bd.exec
  have hby := Bd.bytes
  have hml : c.maxLocals = 8 := hml0
  have hown : s.vm.findClass "com/example/latchkey/latchkey/server/gateway/CrcCombinationCombinePinLaw" = some m.cls := findClass_of_methodNamed Bd.named
  have hnm := (name_of_methodNamed Bd.named Bd.method).1
  have X0 : Stand p l e ({ frames := 1, cells := 0, slots := 0, locals := 19 } : Room) s m #[(.long q1), (.long q2), (.long q3)] below meth c s₁ [] 0 0 := Stand.of_body Bd
  have e0 : s₁.heap = h0 := by rw [← hh, Bd.state]; rfl
  have N0 := Fr.nil n0
  refine own_adv (B := (s₁.setTop (mkF m 0 #[.val (.long q1), .second, .val (.long q2), .second, .val (.long q3), .second, .unset, .unset] []))) (fun t k => castTop (ef_14 m q1 q2 q3) k) ?_
  refine own_adv (B := (s₁.setTop (mkF m 10 #[.val (.long q1), .second, .val (.long q2), .second, .val (.long q3), .second, .val (.long q1), .second] [(.long q3), (.long (q2 &&& (1 : Int64))), (.long q1)]))) (fun t kS => ?_) ?_
  · show Steps p.tables e below (s₁.setTop (mkF m 0 #[.val (.long q1), .second, .val (.long q2), .second, .val (.long q3), .second, .unset, .unset] [])) _
    refine XS.lloadN X0.here hx rfl (hb hby d14_0) rfl ?_
    show Steps p.tables e below (s₁.setTop (mkF m 1 #[.val (.long q1), .second, .val (.long q2), .second, .val (.long q3), .second, .unset, .unset] [(.long q1)])) _
    refine XS.lstore X0.here hx rfl (hb hby d14_1) rfl (l' := #[.val (.long q1), .second, .val (.long q2), .second, .val (.long q3), .second, .val (.long q1), .second]) rfl ?_
    show Steps p.tables e below (s₁.setTop (mkF m 3 #[.val (.long q1), .second, .val (.long q2), .second, .val (.long q3), .second, .val (.long q1), .second] [])) _
    refine XS.lload X0.here hx rfl (hb hby d14_3) rfl ?_
    show Steps p.tables e below (s₁.setTop (mkF m 5 #[.val (.long q1), .second, .val (.long q2), .second, .val (.long q3), .second, .val (.long q1), .second] [(.long q1)])) _
    refine XS.lloadN X0.here hx rfl (hb hby d14_5) rfl ?_
    show Steps p.tables e below (s₁.setTop (mkF m 6 #[.val (.long q1), .second, .val (.long q2), .second, .val (.long q3), .second, .val (.long q1), .second] [(.long q2), (.long q1)])) _
    refine XS.lconst X0.here hx rfl (hb hby d14_6) ?_
    show Steps p.tables e below (s₁.setTop (mkF m 7 #[.val (.long q1), .second, .val (.long q2), .second, .val (.long q3), .second, .val (.long q1), .second] [(.long (1 : Int64)), (.long q2), (.long q1)])) _
    refine XS.land X0.here hx rfl (hb hby d14_7) rfl ?_
    show Steps p.tables e below (s₁.setTop (mkF m 8 #[.val (.long q1), .second, .val (.long q2), .second, .val (.long q3), .second, .val (.long q1), .second] [(.long (q2 &&& (1 : Int64))), (.long q1)])) _
    refine XS.lload X0.here hx rfl (hb hby d14_8) rfl ?_
    exact kS
  obtain ⟨_, _, ⟨T2, L2, k2, n2⟩, -, X2, ⟨Lc2, hQ2, l2, y2, z2⟩, st2⟩ := Jvm.LawKit.callS X0 hx (y := (⟨"com/example/latchkey/latchkey/server/gateway/CrcCombinationCombinePinLaw", "bit", "(JJJ)J"⟩ : MethodName)) hown (mvT hZ (hw _ (List.mem_of_getElem? (i := 68) rfl))) (mvT hZ (hw _ (List.mem_of_getElem? (i := 69) rfl))) (mvT hZ (hw _ (List.mem_of_getElem? (i := 2) rfl))) (mvT hZ (hw _ (List.mem_of_getElem? (i := 70) rfl))) (by decide) (backOf (W := 0) (rm15 l Z a0 hw [] q1 (q2 &&& (1 : Int64)) q3 h0 n0 Z0) hZ (hw _ (List.mem_of_getElem? (i := 70) rfl)) (hw _ (List.mem_of_getElem? (i := 2) rfl)) (by decide) (by decide)) (g := (mkF m 10 #[.val (.long q1), .second, .val (.long q2), .second, .val (.long q3), .second, .val (.long q1), .second] [(.long q3), (.long (q2 &&& (1 : Int64))), (.long q1)])) rfl (by rw [hml]; rfl) (argsL := [(.long q1), (.long (q2 &&& (1 : Int64))), (.long q3)]) (rest := []) (lenOf pd_0 rfl) rfl (by show 2 * 0 + _ ≤ _; exact Nat.le_of_eq rfl) (hb hby d14_10) (fun _ _ => ⟨rfl, e0, (by decide : 0 + 0 ≤ _), (by decide : 0 + 0 ≤ _)⟩)
  dsimp only [Pt.U, Pt.locs, Pt.cells, Pt.slots] at X2 l2 y2 z2 st2 hQ2
  subst l2 y2 z2
  obtain ⟨rfl, N2q, hH2⟩ := hQ2
  have N2 := Fr.app N0 N2q
  obtain ⟨lo2, X2, N2⟩ := own_pack X2 N2
  replace X2 : Stand p l e _ s m _ below meth c T2 _ 0 0 := X2
  refine own_adv (B := (T2.setTop (mkF m 13 #[.val (.long q1), .second, .val (.long q2), .second, .val (.long q3), .second, .val (.long q1), .second] [(.long (own_T q3 (q1 ^^^ (q2 &&& (1 : Int64)))))]))) (fun t kS => st2 t kS) ?_
  refine own_adv (B := (T2.setTop (mkF m 24 #[.val (.long q1), .second, .val (.long q2), .second, .val (.long q3), .second, .val (.long (own_T q3 (q1 ^^^ (q2 &&& (1 : Int64))))), .second] [(.long q3), (.long (((q2.toUInt64 >>> ((1 : Int32) &&& 0x3f).toInt64.toUInt64).toInt64) &&& (1 : Int64))), (.long (own_T q3 (q1 ^^^ (q2 &&& (1 : Int64)))))]))) (fun t kS => ?_) ?_
  · show Steps p.tables e below (T2.setTop (mkF m 13 #[.val (.long q1), .second, .val (.long q2), .second, .val (.long q3), .second, .val (.long q1), .second] [(.long (own_T q3 (q1 ^^^ (q2 &&& (1 : Int64)))))])) _
    refine XS.lstore X2.here hx rfl (hb hby d14_13) rfl (l' := #[.val (.long q1), .second, .val (.long q2), .second, .val (.long q3), .second, .val (.long (own_T q3 (q1 ^^^ (q2 &&& (1 : Int64))))), .second]) rfl ?_
    show Steps p.tables e below (T2.setTop (mkF m 15 #[.val (.long q1), .second, .val (.long q2), .second, .val (.long q3), .second, .val (.long (own_T q3 (q1 ^^^ (q2 &&& (1 : Int64))))), .second] [])) _
    refine XS.lload X2.here hx rfl (hb hby d14_15) rfl ?_
    show Steps p.tables e below (T2.setTop (mkF m 17 #[.val (.long q1), .second, .val (.long q2), .second, .val (.long q3), .second, .val (.long (own_T q3 (q1 ^^^ (q2 &&& (1 : Int64))))), .second] [(.long (own_T q3 (q1 ^^^ (q2 &&& (1 : Int64)))))])) _
    refine XS.lloadN X2.here hx rfl (hb hby d14_17) rfl ?_
    show Steps p.tables e below (T2.setTop (mkF m 18 #[.val (.long q1), .second, .val (.long q2), .second, .val (.long q3), .second, .val (.long (own_T q3 (q1 ^^^ (q2 &&& (1 : Int64))))), .second] [(.long q2), (.long (own_T q3 (q1 ^^^ (q2 &&& (1 : Int64)))))])) _
    refine XS.iconst X2.here hx rfl (hb hby d14_18) ?_
    show Steps p.tables e below (T2.setTop (mkF m 19 #[.val (.long q1), .second, .val (.long q2), .second, .val (.long q3), .second, .val (.long (own_T q3 (q1 ^^^ (q2 &&& (1 : Int64))))), .second] [(.int (1 : Int32)), (.long q2), (.long (own_T q3 (q1 ^^^ (q2 &&& (1 : Int64)))))])) _
    refine XS.lushr X2.here hx rfl (hb hby d14_19) rfl ?_
    show Steps p.tables e below (T2.setTop (mkF m 20 #[.val (.long q1), .second, .val (.long q2), .second, .val (.long q3), .second, .val (.long (own_T q3 (q1 ^^^ (q2 &&& (1 : Int64))))), .second] [(.long ((q2.toUInt64 >>> ((1 : Int32) &&& 0x3f).toInt64.toUInt64).toInt64)), (.long (own_T q3 (q1 ^^^ (q2 &&& (1 : Int64)))))])) _
    refine XS.lconst X2.here hx rfl (hb hby d14_20) ?_
    show Steps p.tables e below (T2.setTop (mkF m 21 #[.val (.long q1), .second, .val (.long q2), .second, .val (.long q3), .second, .val (.long (own_T q3 (q1 ^^^ (q2 &&& (1 : Int64))))), .second] [(.long (1 : Int64)), (.long ((q2.toUInt64 >>> ((1 : Int32) &&& 0x3f).toInt64.toUInt64).toInt64)), (.long (own_T q3 (q1 ^^^ (q2 &&& (1 : Int64)))))])) _
    refine XS.land X2.here hx rfl (hb hby d14_21) rfl ?_
    show Steps p.tables e below (T2.setTop (mkF m 22 #[.val (.long q1), .second, .val (.long q2), .second, .val (.long q3), .second, .val (.long (own_T q3 (q1 ^^^ (q2 &&& (1 : Int64))))), .second] [(.long (((q2.toUInt64 >>> ((1 : Int32) &&& 0x3f).toInt64.toUInt64).toInt64) &&& (1 : Int64))), (.long (own_T q3 (q1 ^^^ (q2 &&& (1 : Int64)))))])) _
    refine XS.lload X2.here hx rfl (hb hby d14_22) rfl ?_
    exact kS
  obtain ⟨_, _, ⟨T3, L3, k3, n3⟩, -, X3, ⟨Lc3, hQ3, l3, y3, z3⟩, st3⟩ := Jvm.LawKit.callS X2 hx (y := (⟨"com/example/latchkey/latchkey/server/gateway/CrcCombinationCombinePinLaw", "bit", "(JJJ)J"⟩ : MethodName)) hown (mvT hZ (hw _ (List.mem_of_getElem? (i := 68) rfl))) (mvT hZ (hw _ (List.mem_of_getElem? (i := 69) rfl))) (mvT hZ (hw _ (List.mem_of_getElem? (i := 2) rfl))) (mvT hZ (hw _ (List.mem_of_getElem? (i := 70) rfl))) (by decide) (backOf (W := 0) (rm15 l Z a0 hw [] (own_T q3 (q1 ^^^ (q2 &&& (1 : Int64)))) (((q2.toUInt64 >>> ((1 : Int32) &&& 0x3f).toInt64.toUInt64).toInt64) &&& (1 : Int64)) q3 h0 n0 Z0) hZ (hw _ (List.mem_of_getElem? (i := 70) rfl)) (hw _ (List.mem_of_getElem? (i := 2) rfl)) (by decide) (by decide)) (g := (mkF m 24 #[.val (.long q1), .second, .val (.long q2), .second, .val (.long q3), .second, .val (.long (own_T q3 (q1 ^^^ (q2 &&& (1 : Int64))))), .second] [(.long q3), (.long (((q2.toUInt64 >>> ((1 : Int32) &&& 0x3f).toInt64.toUInt64).toInt64) &&& (1 : Int64))), (.long (own_T q3 (q1 ^^^ (q2 &&& (1 : Int64)))))])) rfl (by rw [hml]; rfl) (argsL := [(.long (own_T q3 (q1 ^^^ (q2 &&& (1 : Int64))))), (.long (((q2.toUInt64 >>> ((1 : Int32) &&& 0x3f).toInt64.toUInt64).toInt64) &&& (1 : Int64))), (.long q3)]) (rest := []) (lenOf pd_0 rfl) rfl (by show 2 * 0 + _ ≤ _; exact Nat.le_of_eq rfl) (hb hby d14_24) (fun _ _ => ⟨rfl, hH2, (by decide : 0 + 0 ≤ _), (by decide : 0 + 0 ≤ _)⟩)
  dsimp only [Pt.U, Pt.locs, Pt.cells, Pt.slots] at X3 l3 y3 z3 st3 hQ3
  subst l3 y3 z3
  obtain ⟨rfl, N3q, hH3⟩ := hQ3
  have N3 := Fr.app N2 N3q
  obtain ⟨lo3, X3, N3⟩ := own_pack X3 N3
  replace X3 : Stand p l e _ s m _ below meth c T3 _ 0 0 := X3
  refine own_adv (B := (T3.setTop (mkF m 27 #[.val (.long q1), .second, .val (.long q2), .second, .val (.long q3), .second, .val (.long (own_T q3 (q1 ^^^ (q2 &&& (1 : Int64))))), .second] [(.long (own_T q3 ((own_T q3 (q1 ^^^ (q2 &&& (1 : Int64)))) ^^^ (((q2.toUInt64 >>> ((1 : Int32) &&& 0x3f).toInt64.toUInt64).toInt64) &&& (1 : Int64)))))]))) (fun t kS => st3 t kS) ?_
  refine own_adv (B := (T3.setTop (mkF m 38 #[.val (.long q1), .second, .val (.long q2), .second, .val (.long q3), .second, .val (.long (own_T q3 ((own_T q3 (q1 ^^^ (q2 &&& (1 : Int64)))) ^^^ (((q2.toUInt64 >>> ((1 : Int32) &&& 0x3f).toInt64.toUInt64).toInt64) &&& (1 : Int64))))), .second] [(.long q3), (.long (((q2.toUInt64 >>> ((2 : Int32) &&& 0x3f).toInt64.toUInt64).toInt64) &&& (1 : Int64))), (.long (own_T q3 ((own_T q3 (q1 ^^^ (q2 &&& (1 : Int64)))) ^^^ (((q2.toUInt64 >>> ((1 : Int32) &&& 0x3f).toInt64.toUInt64).toInt64) &&& (1 : Int64)))))]))) (fun t kS => ?_) ?_
  · show Steps p.tables e below (T3.setTop (mkF m 27 #[.val (.long q1), .second, .val (.long q2), .second, .val (.long q3), .second, .val (.long (own_T q3 (q1 ^^^ (q2 &&& (1 : Int64))))), .second] [(.long (own_T q3 ((own_T q3 (q1 ^^^ (q2 &&& (1 : Int64)))) ^^^ (((q2.toUInt64 >>> ((1 : Int32) &&& 0x3f).toInt64.toUInt64).toInt64) &&& (1 : Int64)))))])) _
    refine XS.lstore X3.here hx rfl (hb hby d14_27) rfl (l' := #[.val (.long q1), .second, .val (.long q2), .second, .val (.long q3), .second, .val (.long (own_T q3 ((own_T q3 (q1 ^^^ (q2 &&& (1 : Int64)))) ^^^ (((q2.toUInt64 >>> ((1 : Int32) &&& 0x3f).toInt64.toUInt64).toInt64) &&& (1 : Int64))))), .second]) rfl ?_
    show Steps p.tables e below (T3.setTop (mkF m 29 #[.val (.long q1), .second, .val (.long q2), .second, .val (.long q3), .second, .val (.long (own_T q3 ((own_T q3 (q1 ^^^ (q2 &&& (1 : Int64)))) ^^^ (((q2.toUInt64 >>> ((1 : Int32) &&& 0x3f).toInt64.toUInt64).toInt64) &&& (1 : Int64))))), .second] [])) _
    refine XS.lload X3.here hx rfl (hb hby d14_29) rfl ?_
    show Steps p.tables e below (T3.setTop (mkF m 31 #[.val (.long q1), .second, .val (.long q2), .second, .val (.long q3), .second, .val (.long (own_T q3 ((own_T q3 (q1 ^^^ (q2 &&& (1 : Int64)))) ^^^ (((q2.toUInt64 >>> ((1 : Int32) &&& 0x3f).toInt64.toUInt64).toInt64) &&& (1 : Int64))))), .second] [(.long (own_T q3 ((own_T q3 (q1 ^^^ (q2 &&& (1 : Int64)))) ^^^ (((q2.toUInt64 >>> ((1 : Int32) &&& 0x3f).toInt64.toUInt64).toInt64) &&& (1 : Int64)))))])) _
    refine XS.lloadN X3.here hx rfl (hb hby d14_31) rfl ?_
    show Steps p.tables e below (T3.setTop (mkF m 32 #[.val (.long q1), .second, .val (.long q2), .second, .val (.long q3), .second, .val (.long (own_T q3 ((own_T q3 (q1 ^^^ (q2 &&& (1 : Int64)))) ^^^ (((q2.toUInt64 >>> ((1 : Int32) &&& 0x3f).toInt64.toUInt64).toInt64) &&& (1 : Int64))))), .second] [(.long q2), (.long (own_T q3 ((own_T q3 (q1 ^^^ (q2 &&& (1 : Int64)))) ^^^ (((q2.toUInt64 >>> ((1 : Int32) &&& 0x3f).toInt64.toUInt64).toInt64) &&& (1 : Int64)))))])) _
    refine XS.iconst X3.here hx rfl (hb hby d14_32) ?_
    show Steps p.tables e below (T3.setTop (mkF m 33 #[.val (.long q1), .second, .val (.long q2), .second, .val (.long q3), .second, .val (.long (own_T q3 ((own_T q3 (q1 ^^^ (q2 &&& (1 : Int64)))) ^^^ (((q2.toUInt64 >>> ((1 : Int32) &&& 0x3f).toInt64.toUInt64).toInt64) &&& (1 : Int64))))), .second] [(.int (2 : Int32)), (.long q2), (.long (own_T q3 ((own_T q3 (q1 ^^^ (q2 &&& (1 : Int64)))) ^^^ (((q2.toUInt64 >>> ((1 : Int32) &&& 0x3f).toInt64.toUInt64).toInt64) &&& (1 : Int64)))))])) _
    refine XS.lushr X3.here hx rfl (hb hby d14_33) rfl ?_
    show Steps p.tables e below (T3.setTop (mkF m 34 #[.val (.long q1), .second, .val (.long q2), .second, .val (.long q3), .second, .val (.long (own_T q3 ((own_T q3 (q1 ^^^ (q2 &&& (1 : Int64)))) ^^^ (((q2.toUInt64 >>> ((1 : Int32) &&& 0x3f).toInt64.toUInt64).toInt64) &&& (1 : Int64))))), .second] [(.long ((q2.toUInt64 >>> ((2 : Int32) &&& 0x3f).toInt64.toUInt64).toInt64)), (.long (own_T q3 ((own_T q3 (q1 ^^^ (q2 &&& (1 : Int64)))) ^^^ (((q2.toUInt64 >>> ((1 : Int32) &&& 0x3f).toInt64.toUInt64).toInt64) &&& (1 : Int64)))))])) _
    refine XS.lconst X3.here hx rfl (hb hby d14_34) ?_
    show Steps p.tables e below (T3.setTop (mkF m 35 #[.val (.long q1), .second, .val (.long q2), .second, .val (.long q3), .second, .val (.long (own_T q3 ((own_T q3 (q1 ^^^ (q2 &&& (1 : Int64)))) ^^^ (((q2.toUInt64 >>> ((1 : Int32) &&& 0x3f).toInt64.toUInt64).toInt64) &&& (1 : Int64))))), .second] [(.long (1 : Int64)), (.long ((q2.toUInt64 >>> ((2 : Int32) &&& 0x3f).toInt64.toUInt64).toInt64)), (.long (own_T q3 ((own_T q3 (q1 ^^^ (q2 &&& (1 : Int64)))) ^^^ (((q2.toUInt64 >>> ((1 : Int32) &&& 0x3f).toInt64.toUInt64).toInt64) &&& (1 : Int64)))))])) _
    refine XS.land X3.here hx rfl (hb hby d14_35) rfl ?_
    show Steps p.tables e below (T3.setTop (mkF m 36 #[.val (.long q1), .second, .val (.long q2), .second, .val (.long q3), .second, .val (.long (own_T q3 ((own_T q3 (q1 ^^^ (q2 &&& (1 : Int64)))) ^^^ (((q2.toUInt64 >>> ((1 : Int32) &&& 0x3f).toInt64.toUInt64).toInt64) &&& (1 : Int64))))), .second] [(.long (((q2.toUInt64 >>> ((2 : Int32) &&& 0x3f).toInt64.toUInt64).toInt64) &&& (1 : Int64))), (.long (own_T q3 ((own_T q3 (q1 ^^^ (q2 &&& (1 : Int64)))) ^^^ (((q2.toUInt64 >>> ((1 : Int32) &&& 0x3f).toInt64.toUInt64).toInt64) &&& (1 : Int64)))))])) _
    refine XS.lload X3.here hx rfl (hb hby d14_36) rfl ?_
    exact kS
  obtain ⟨_, _, ⟨T4, L4, k4, n4⟩, -, X4, ⟨Lc4, hQ4, l4, y4, z4⟩, st4⟩ := Jvm.LawKit.callS X3 hx (y := (⟨"com/example/latchkey/latchkey/server/gateway/CrcCombinationCombinePinLaw", "bit", "(JJJ)J"⟩ : MethodName)) hown (mvT hZ (hw _ (List.mem_of_getElem? (i := 68) rfl))) (mvT hZ (hw _ (List.mem_of_getElem? (i := 69) rfl))) (mvT hZ (hw _ (List.mem_of_getElem? (i := 2) rfl))) (mvT hZ (hw _ (List.mem_of_getElem? (i := 70) rfl))) (by decide) (backOf (W := 0) (rm15 l Z a0 hw [] (own_T q3 ((own_T q3 (q1 ^^^ (q2 &&& (1 : Int64)))) ^^^ (((q2.toUInt64 >>> ((1 : Int32) &&& 0x3f).toInt64.toUInt64).toInt64) &&& (1 : Int64)))) (((q2.toUInt64 >>> ((2 : Int32) &&& 0x3f).toInt64.toUInt64).toInt64) &&& (1 : Int64)) q3 h0 n0 Z0) hZ (hw _ (List.mem_of_getElem? (i := 70) rfl)) (hw _ (List.mem_of_getElem? (i := 2) rfl)) (by decide) (by decide)) (g := (mkF m 38 #[.val (.long q1), .second, .val (.long q2), .second, .val (.long q3), .second, .val (.long (own_T q3 ((own_T q3 (q1 ^^^ (q2 &&& (1 : Int64)))) ^^^ (((q2.toUInt64 >>> ((1 : Int32) &&& 0x3f).toInt64.toUInt64).toInt64) &&& (1 : Int64))))), .second] [(.long q3), (.long (((q2.toUInt64 >>> ((2 : Int32) &&& 0x3f).toInt64.toUInt64).toInt64) &&& (1 : Int64))), (.long (own_T q3 ((own_T q3 (q1 ^^^ (q2 &&& (1 : Int64)))) ^^^ (((q2.toUInt64 >>> ((1 : Int32) &&& 0x3f).toInt64.toUInt64).toInt64) &&& (1 : Int64)))))])) rfl (by rw [hml]; rfl) (argsL := [(.long (own_T q3 ((own_T q3 (q1 ^^^ (q2 &&& (1 : Int64)))) ^^^ (((q2.toUInt64 >>> ((1 : Int32) &&& 0x3f).toInt64.toUInt64).toInt64) &&& (1 : Int64))))), (.long (((q2.toUInt64 >>> ((2 : Int32) &&& 0x3f).toInt64.toUInt64).toInt64) &&& (1 : Int64))), (.long q3)]) (rest := []) (lenOf pd_0 rfl) rfl (by show 2 * 0 + _ ≤ _; exact Nat.le_of_eq rfl) (hb hby d14_38) (fun _ _ => ⟨rfl, hH3, (by decide : 0 + 0 ≤ _), (by decide : 0 + 0 ≤ _)⟩)
  dsimp only [Pt.U, Pt.locs, Pt.cells, Pt.slots] at X4 l4 y4 z4 st4 hQ4
  subst l4 y4 z4
  obtain ⟨rfl, N4q, hH4⟩ := hQ4
  have N4 := Fr.app N3 N4q
  obtain ⟨lo4, X4, N4⟩ := own_pack X4 N4
  replace X4 : Stand p l e _ s m _ below meth c T4 _ 0 0 := X4
  refine own_adv (B := (T4.setTop (mkF m 41 #[.val (.long q1), .second, .val (.long q2), .second, .val (.long q3), .second, .val (.long (own_T q3 ((own_T q3 (q1 ^^^ (q2 &&& (1 : Int64)))) ^^^ (((q2.toUInt64 >>> ((1 : Int32) &&& 0x3f).toInt64.toUInt64).toInt64) &&& (1 : Int64))))), .second] [(.long (own_T q3 ((own_T q3 ((own_T q3 (q1 ^^^ (q2 &&& (1 : Int64)))) ^^^ (((q2.toUInt64 >>> ((1 : Int32) &&& 0x3f).toInt64.toUInt64).toInt64) &&& (1 : Int64)))) ^^^ (((q2.toUInt64 >>> ((2 : Int32) &&& 0x3f).toInt64.toUInt64).toInt64) &&& (1 : Int64)))))]))) (fun t kS => st4 t kS) ?_
  refine own_adv (B := (T4.setTop (mkF m 52 #[.val (.long q1), .second, .val (.long q2), .second, .val (.long q3), .second, .val (.long (own_T q3 ((own_T q3 ((own_T q3 (q1 ^^^ (q2 &&& (1 : Int64)))) ^^^ (((q2.toUInt64 >>> ((1 : Int32) &&& 0x3f).toInt64.toUInt64).toInt64) &&& (1 : Int64)))) ^^^ (((q2.toUInt64 >>> ((2 : Int32) &&& 0x3f).toInt64.toUInt64).toInt64) &&& (1 : Int64))))), .second] [(.long q3), (.long (((q2.toUInt64 >>> ((3 : Int32) &&& 0x3f).toInt64.toUInt64).toInt64) &&& (1 : Int64))), (.long (own_T q3 ((own_T q3 ((own_T q3 (q1 ^^^ (q2 &&& (1 : Int64)))) ^^^ (((q2.toUInt64 >>> ((1 : Int32) &&& 0x3f).toInt64.toUInt64).toInt64) &&& (1 : Int64)))) ^^^ (((q2.toUInt64 >>> ((2 : Int32) &&& 0x3f).toInt64.toUInt64).toInt64) &&& (1 : Int64)))))]))) (fun t kS => ?_) ?_
  · show Steps p.tables e below (T4.setTop (mkF m 41 #[.val (.long q1), .second, .val (.long q2), .second, .val (.long q3), .second, .val (.long (own_T q3 ((own_T q3 (q1 ^^^ (q2 &&& (1 : Int64)))) ^^^ (((q2.toUInt64 >>> ((1 : Int32) &&& 0x3f).toInt64.toUInt64).toInt64) &&& (1 : Int64))))), .second] [(.long (own_T q3 ((own_T q3 ((own_T q3 (q1 ^^^ (q2 &&& (1 : Int64)))) ^^^ (((q2.toUInt64 >>> ((1 : Int32) &&& 0x3f).toInt64.toUInt64).toInt64) &&& (1 : Int64)))) ^^^ (((q2.toUInt64 >>> ((2 : Int32) &&& 0x3f).toInt64.toUInt64).toInt64) &&& (1 : Int64)))))])) _
    refine XS.lstore X4.here hx rfl (hb hby d14_41) rfl (l' := #[.val (.long q1), .second, .val (.long q2), .second, .val (.long q3), .second, .val (.long (own_T q3 ((own_T q3 ((own_T q3 (q1 ^^^ (q2 &&& (1 : Int64)))) ^^^ (((q2.toUInt64 >>> ((1 : Int32) &&& 0x3f).toInt64.toUInt64).toInt64) &&& (1 : Int64)))) ^^^ (((q2.toUInt64 >>> ((2 : Int32) &&& 0x3f).toInt64.toUInt64).toInt64) &&& (1 : Int64))))), .second]) rfl ?_
    show Steps p.tables e below (T4.setTop (mkF m 43 #[.val (.long q1), .second, .val (.long q2), .second, .val (.long q3), .second, .val (.long (own_T q3 ((own_T q3 ((own_T q3 (q1 ^^^ (q2 &&& (1 : Int64)))) ^^^ (((q2.toUInt64 >>> ((1 : Int32) &&& 0x3f).toInt64.toUInt64).toInt64) &&& (1 : Int64)))) ^^^ (((q2.toUInt64 >>> ((2 : Int32) &&& 0x3f).toInt64.toUInt64).toInt64) &&& (1 : Int64))))), .second] [])) _
    refine XS.lload X4.here hx rfl (hb hby d14_43) rfl ?_
    show Steps p.tables e below (T4.setTop (mkF m 45 #[.val (.long q1), .second, .val (.long q2), .second, .val (.long q3), .second, .val (.long (own_T q3 ((own_T q3 ((own_T q3 (q1 ^^^ (q2 &&& (1 : Int64)))) ^^^ (((q2.toUInt64 >>> ((1 : Int32) &&& 0x3f).toInt64.toUInt64).toInt64) &&& (1 : Int64)))) ^^^ (((q2.toUInt64 >>> ((2 : Int32) &&& 0x3f).toInt64.toUInt64).toInt64) &&& (1 : Int64))))), .second] [(.long (own_T q3 ((own_T q3 ((own_T q3 (q1 ^^^ (q2 &&& (1 : Int64)))) ^^^ (((q2.toUInt64 >>> ((1 : Int32) &&& 0x3f).toInt64.toUInt64).toInt64) &&& (1 : Int64)))) ^^^ (((q2.toUInt64 >>> ((2 : Int32) &&& 0x3f).toInt64.toUInt64).toInt64) &&& (1 : Int64)))))])) _
    refine XS.lloadN X4.here hx rfl (hb hby d14_45) rfl ?_
    show Steps p.tables e below (T4.setTop (mkF m 46 #[.val (.long q1), .second, .val (.long q2), .second, .val (.long q3), .second, .val (.long (own_T q3 ((own_T q3 ((own_T q3 (q1 ^^^ (q2 &&& (1 : Int64)))) ^^^ (((q2.toUInt64 >>> ((1 : Int32) &&& 0x3f).toInt64.toUInt64).toInt64) &&& (1 : Int64)))) ^^^ (((q2.toUInt64 >>> ((2 : Int32) &&& 0x3f).toInt64.toUInt64).toInt64) &&& (1 : Int64))))), .second] [(.long q2), (.long (own_T q3 ((own_T q3 ((own_T q3 (q1 ^^^ (q2 &&& (1 : Int64)))) ^^^ (((q2.toUInt64 >>> ((1 : Int32) &&& 0x3f).toInt64.toUInt64).toInt64) &&& (1 : Int64)))) ^^^ (((q2.toUInt64 >>> ((2 : Int32) &&& 0x3f).toInt64.toUInt64).toInt64) &&& (1 : Int64)))))])) _
    refine XS.iconst X4.here hx rfl (hb hby d14_46) ?_
    show Steps p.tables e below (T4.setTop (mkF m 47 #[.val (.long q1), .second, .val (.long q2), .second, .val (.long q3), .second, .val (.long (own_T q3 ((own_T q3 ((own_T q3 (q1 ^^^ (q2 &&& (1 : Int64)))) ^^^ (((q2.toUInt64 >>> ((1 : Int32) &&& 0x3f).toInt64.toUInt64).toInt64) &&& (1 : Int64)))) ^^^ (((q2.toUInt64 >>> ((2 : Int32) &&& 0x3f).toInt64.toUInt64).toInt64) &&& (1 : Int64))))), .second] [(.int (3 : Int32)), (.long q2), (.long (own_T q3 ((own_T q3 ((own_T q3 (q1 ^^^ (q2 &&& (1 : Int64)))) ^^^ (((q2.toUInt64 >>> ((1 : Int32) &&& 0x3f).toInt64.toUInt64).toInt64) &&& (1 : Int64)))) ^^^ (((q2.toUInt64 >>> ((2 : Int32) &&& 0x3f).toInt64.toUInt64).toInt64) &&& (1 : Int64)))))])) _
    refine XS.lushr X4.here hx rfl (hb hby d14_47) rfl ?_
    show Steps p.tables e below (T4.setTop (mkF m 48 #[.val (.long q1), .second, .val (.long q2), .second, .val (.long q3), .second, .val (.long (own_T q3 ((own_T q3 ((own_T q3 (q1 ^^^ (q2 &&& (1 : Int64)))) ^^^ (((q2.toUInt64 >>> ((1 : Int32) &&& 0x3f).toInt64.toUInt64).toInt64) &&& (1 : Int64)))) ^^^ (((q2.toUInt64 >>> ((2 : Int32) &&& 0x3f).toInt64.toUInt64).toInt64) &&& (1 : Int64))))), .second] [(.long ((q2.toUInt64 >>> ((3 : Int32) &&& 0x3f).toInt64.toUInt64).toInt64)), (.long (own_T q3 ((own_T q3 ((own_T q3 (q1 ^^^ (q2 &&& (1 : Int64)))) ^^^ (((q2.toUInt64 >>> ((1 : Int32) &&& 0x3f).toInt64.toUInt64).toInt64) &&& (1 : Int64)))) ^^^ (((q2.toUInt64 >>> ((2 : Int32) &&& 0x3f).toInt64.toUInt64).toInt64) &&& (1 : Int64)))))])) _
    refine XS.lconst X4.here hx rfl (hb hby d14_48) ?_
    show Steps p.tables e below (T4.setTop (mkF m 49 #[.val (.long q1), .second, .val (.long q2), .second, .val (.long q3), .second, .val (.long (own_T q3 ((own_T q3 ((own_T q3 (q1 ^^^ (q2 &&& (1 : Int64)))) ^^^ (((q2.toUInt64 >>> ((1 : Int32) &&& 0x3f).toInt64.toUInt64).toInt64) &&& (1 : Int64)))) ^^^ (((q2.toUInt64 >>> ((2 : Int32) &&& 0x3f).toInt64.toUInt64).toInt64) &&& (1 : Int64))))), .second] [(.long (1 : Int64)), (.long ((q2.toUInt64 >>> ((3 : Int32) &&& 0x3f).toInt64.toUInt64).toInt64)), (.long (own_T q3 ((own_T q3 ((own_T q3 (q1 ^^^ (q2 &&& (1 : Int64)))) ^^^ (((q2.toUInt64 >>> ((1 : Int32) &&& 0x3f).toInt64.toUInt64).toInt64) &&& (1 : Int64)))) ^^^ (((q2.toUInt64 >>> ((2 : Int32) &&& 0x3f).toInt64.toUInt64).toInt64) &&& (1 : Int64)))))])) _
    refine XS.land X4.here hx rfl (hb hby d14_49) rfl ?_
    show Steps p.tables e below (T4.setTop (mkF m 50 #[.val (.long q1), .second, .val (.long q2), .second, .val (.long q3), .second, .val (.long (own_T q3 ((own_T q3 ((own_T q3 (q1 ^^^ (q2 &&& (1 : Int64)))) ^^^ (((q2.toUInt64 >>> ((1 : Int32) &&& 0x3f).toInt64.toUInt64).toInt64) &&& (1 : Int64)))) ^^^ (((q2.toUInt64 >>> ((2 : Int32) &&& 0x3f).toInt64.toUInt64).toInt64) &&& (1 : Int64))))), .second] [(.long (((q2.toUInt64 >>> ((3 : Int32) &&& 0x3f).toInt64.toUInt64).toInt64) &&& (1 : Int64))), (.long (own_T q3 ((own_T q3 ((own_T q3 (q1 ^^^ (q2 &&& (1 : Int64)))) ^^^ (((q2.toUInt64 >>> ((1 : Int32) &&& 0x3f).toInt64.toUInt64).toInt64) &&& (1 : Int64)))) ^^^ (((q2.toUInt64 >>> ((2 : Int32) &&& 0x3f).toInt64.toUInt64).toInt64) &&& (1 : Int64)))))])) _
    refine XS.lload X4.here hx rfl (hb hby d14_50) rfl ?_
    exact kS
  obtain ⟨_, _, ⟨T5, L5, k5, n5⟩, -, X5, ⟨Lc5, hQ5, l5, y5, z5⟩, st5⟩ := Jvm.LawKit.callS X4 hx (y := (⟨"com/example/latchkey/latchkey/server/gateway/CrcCombinationCombinePinLaw", "bit", "(JJJ)J"⟩ : MethodName)) hown (mvT hZ (hw _ (List.mem_of_getElem? (i := 68) rfl))) (mvT hZ (hw _ (List.mem_of_getElem? (i := 69) rfl))) (mvT hZ (hw _ (List.mem_of_getElem? (i := 2) rfl))) (mvT hZ (hw _ (List.mem_of_getElem? (i := 70) rfl))) (by decide) (backOf (W := 0) (rm15 l Z a0 hw [] (own_T q3 ((own_T q3 ((own_T q3 (q1 ^^^ (q2 &&& (1 : Int64)))) ^^^ (((q2.toUInt64 >>> ((1 : Int32) &&& 0x3f).toInt64.toUInt64).toInt64) &&& (1 : Int64)))) ^^^ (((q2.toUInt64 >>> ((2 : Int32) &&& 0x3f).toInt64.toUInt64).toInt64) &&& (1 : Int64)))) (((q2.toUInt64 >>> ((3 : Int32) &&& 0x3f).toInt64.toUInt64).toInt64) &&& (1 : Int64)) q3 h0 n0 Z0) hZ (hw _ (List.mem_of_getElem? (i := 70) rfl)) (hw _ (List.mem_of_getElem? (i := 2) rfl)) (by decide) (by decide)) (g := (mkF m 52 #[.val (.long q1), .second, .val (.long q2), .second, .val (.long q3), .second, .val (.long (own_T q3 ((own_T q3 ((own_T q3 (q1 ^^^ (q2 &&& (1 : Int64)))) ^^^ (((q2.toUInt64 >>> ((1 : Int32) &&& 0x3f).toInt64.toUInt64).toInt64) &&& (1 : Int64)))) ^^^ (((q2.toUInt64 >>> ((2 : Int32) &&& 0x3f).toInt64.toUInt64).toInt64) &&& (1 : Int64))))), .second] [(.long q3), (.long (((q2.toUInt64 >>> ((3 : Int32) &&& 0x3f).toInt64.toUInt64).toInt64) &&& (1 : Int64))), (.long (own_T q3 ((own_T q3 ((own_T q3 (q1 ^^^ (q2 &&& (1 : Int64)))) ^^^ (((q2.toUInt64 >>> ((1 : Int32) &&& 0x3f).toInt64.toUInt64).toInt64) &&& (1 : Int64)))) ^^^ (((q2.toUInt64 >>> ((2 : Int32) &&& 0x3f).toInt64.toUInt64).toInt64) &&& (1 : Int64)))))])) rfl (by rw [hml]; rfl) (argsL := [(.long (own_T q3 ((own_T q3 ((own_T q3 (q1 ^^^ (q2 &&& (1 : Int64)))) ^^^ (((q2.toUInt64 >>> ((1 : Int32) &&& 0x3f).toInt64.toUInt64).toInt64) &&& (1 : Int64)))) ^^^ (((q2.toUInt64 >>> ((2 : Int32) &&& 0x3f).toInt64.toUInt64).toInt64) &&& (1 : Int64))))), (.long (((q2.toUInt64 >>> ((3 : Int32) &&& 0x3f).toInt64.toUInt64).toInt64) &&& (1 : Int64))), (.long q3)]) (rest := []) (lenOf pd_0 rfl) rfl (by show 2 * 0 + _ ≤ _; exact Nat.le_of_eq rfl) (hb hby d14_52) (fun _ _ => ⟨rfl, hH4, (by decide : 0 + 0 ≤ _), (by decide : 0 + 0 ≤ _)⟩)
  dsimp only [Pt.U, Pt.locs, Pt.cells, Pt.slots] at X5 l5 y5 z5 st5 hQ5
  subst l5 y5 z5
  obtain ⟨rfl, N5q, hH5⟩ := hQ5
  have N5 := Fr.app N4 N5q
  obtain ⟨lo5, X5, N5⟩ := own_pack X5 N5
  replace X5 : Stand p l e _ s m _ below meth c T5 _ 0 0 := X5
  refine own_adv (B := (T5.setTop (mkF m 55 #[.val (.long q1), .second, .val (.long q2), .second, .val (.long q3), .second, .val (.long (own_T q3 ((own_T q3 ((own_T q3 (q1 ^^^ (q2 &&& (1 : Int64)))) ^^^ (((q2.toUInt64 >>> ((1 : Int32) &&& 0x3f).toInt64.toUInt64).toInt64) &&& (1 : Int64)))) ^^^ (((q2.toUInt64 >>> ((2 : Int32) &&& 0x3f).toInt64.toUInt64).toInt64) &&& (1 : Int64))))), .second] [(.long (own_T q3 ((own_T q3 ((own_T q3 ((own_T q3 (q1 ^^^ (q2 &&& (1 : Int64)))) ^^^ (((q2.toUInt64 >>> ((1 : Int32) &&& 0x3f).toInt64.toUInt64).toInt64) &&& (1 : Int64)))) ^^^ (((q2.toUInt64 >>> ((2 : Int32) &&& 0x3f).toInt64.toUInt64).toInt64) &&& (1 : Int64)))) ^^^ (((q2.toUInt64 >>> ((3 : Int32) &&& 0x3f).toInt64.toUInt64).toInt64) &&& (1 : Int64)))))]))) (fun t kS => st5 t kS) ?_
  refine own_adv (B := (T5.setTop (mkF m 66 #[.val (.long q1), .second, .val (.long q2), .second, .val (.long q3), .second, .val (.long (own_T q3 ((own_T q3 ((own_T q3 ((own_T q3 (q1 ^^^ (q2 &&& (1 : Int64)))) ^^^ (((q2.toUInt64 >>> ((1 : Int32) &&& 0x3f).toInt64.toUInt64).toInt64) &&& (1 : Int64)))) ^^^ (((q2.toUInt64 >>> ((2 : Int32) &&& 0x3f).toInt64.toUInt64).toInt64) &&& (1 : Int64)))) ^^^ (((q2.toUInt64 >>> ((3 : Int32) &&& 0x3f).toInt64.toUInt64).toInt64) &&& (1 : Int64))))), .second] [(.long q3), (.long (((q2.toUInt64 >>> ((4 : Int32) &&& 0x3f).toInt64.toUInt64).toInt64) &&& (1 : Int64))), (.long (own_T q3 ((own_T q3 ((own_T q3 ((own_T q3 (q1 ^^^ (q2 &&& (1 : Int64)))) ^^^ (((q2.toUInt64 >>> ((1 : Int32) &&& 0x3f).toInt64.toUInt64).toInt64) &&& (1 : Int64)))) ^^^ (((q2.toUInt64 >>> ((2 : Int32) &&& 0x3f).toInt64.toUInt64).toInt64) &&& (1 : Int64)))) ^^^ (((q2.toUInt64 >>> ((3 : Int32) &&& 0x3f).toInt64.toUInt64).toInt64) &&& (1 : Int64)))))]))) (fun t kS => ?_) ?_
  · show Steps p.tables e below (T5.setTop (mkF m 55 #[.val (.long q1), .second, .val (.long q2), .second, .val (.long q3), .second, .val (.long (own_T q3 ((own_T q3 ((own_T q3 (q1 ^^^ (q2 &&& (1 : Int64)))) ^^^ (((q2.toUInt64 >>> ((1 : Int32) &&& 0x3f).toInt64.toUInt64).toInt64) &&& (1 : Int64)))) ^^^ (((q2.toUInt64 >>> ((2 : Int32) &&& 0x3f).toInt64.toUInt64).toInt64) &&& (1 : Int64))))), .second] [(.long (own_T q3 ((own_T q3 ((own_T q3 ((own_T q3 (q1 ^^^ (q2 &&& (1 : Int64)))) ^^^ (((q2.toUInt64 >>> ((1 : Int32) &&& 0x3f).toInt64.toUInt64).toInt64) &&& (1 : Int64)))) ^^^ (((q2.toUInt64 >>> ((2 : Int32) &&& 0x3f).toInt64.toUInt64).toInt64) &&& (1 : Int64)))) ^^^ (((q2.toUInt64 >>> ((3 : Int32) &&& 0x3f).toInt64.toUInt64).toInt64) &&& (1 : Int64)))))])) _
    refine XS.lstore X5.here hx rfl (hb hby d14_55) rfl (l' := #[.val (.long q1), .second, .val (.long q2), .second, .val (.long q3), .second, .val (.long (own_T q3 ((own_T q3 ((own_T q3 ((own_T q3 (q1 ^^^ (q2 &&& (1 : Int64)))) ^^^ (((q2.toUInt64 >>> ((1 : Int32) &&& 0x3f).toInt64.toUInt64).toInt64) &&& (1 : Int64)))) ^^^ (((q2.toUInt64 >>> ((2 : Int32) &&& 0x3f).toInt64.toUInt64).toInt64) &&& (1 : Int64)))) ^^^ (((q2.toUInt64 >>> ((3 : Int32) &&& 0x3f).toInt64.toUInt64).toInt64) &&& (1 : Int64))))), .second]) rfl ?_
    show Steps p.tables e below (T5.setTop (mkF m 57 #[.val (.long q1), .second, .val (.long q2), .second, .val (.long q3), .second, .val (.long (own_T q3 ((own_T q3 ((own_T q3 ((own_T q3 (q1 ^^^ (q2 &&& (1 : Int64)))) ^^^ (((q2.toUInt64 >>> ((1 : Int32) &&& 0x3f).toInt64.toUInt64).toInt64) &&& (1 : Int64)))) ^^^ (((q2.toUInt64 >>> ((2 : Int32) &&& 0x3f).toInt64.toUInt64).toInt64) &&& (1 : Int64)))) ^^^ (((q2.toUInt64 >>> ((3 : Int32) &&& 0x3f).toInt64.toUInt64).toInt64) &&& (1 : Int64))))), .second] [])) _
    refine XS.lload X5.here hx rfl (hb hby d14_57) rfl ?_
    show Steps p.tables e below (T5.setTop (mkF m 59 #[.val (.long q1), .second, .val (.long q2), .second, .val (.long q3), .second, .val (.long (own_T q3 ((own_T q3 ((own_T q3 ((own_T q3 (q1 ^^^ (q2 &&& (1 : Int64)))) ^^^ (((q2.toUInt64 >>> ((1 : Int32) &&& 0x3f).toInt64.toUInt64).toInt64) &&& (1 : Int64)))) ^^^ (((q2.toUInt64 >>> ((2 : Int32) &&& 0x3f).toInt64.toUInt64).toInt64) &&& (1 : Int64)))) ^^^ (((q2.toUInt64 >>> ((3 : Int32) &&& 0x3f).toInt64.toUInt64).toInt64) &&& (1 : Int64))))), .second] [(.long (own_T q3 ((own_T q3 ((own_T q3 ((own_T q3 (q1 ^^^ (q2 &&& (1 : Int64)))) ^^^ (((q2.toUInt64 >>> ((1 : Int32) &&& 0x3f).toInt64.toUInt64).toInt64) &&& (1 : Int64)))) ^^^ (((q2.toUInt64 >>> ((2 : Int32) &&& 0x3f).toInt64.toUInt64).toInt64) &&& (1 : Int64)))) ^^^ (((q2.toUInt64 >>> ((3 : Int32) &&& 0x3f).toInt64.toUInt64).toInt64) &&& (1 : Int64)))))])) _
    refine XS.lloadN X5.here hx rfl (hb hby d14_59) rfl ?_
    show Steps p.tables e below (T5.setTop (mkF m 60 #[.val (.long q1), .second, .val (.long q2), .second, .val (.long q3), .second, .val (.long (own_T q3 ((own_T q3 ((own_T q3 ((own_T q3 (q1 ^^^ (q2 &&& (1 : Int64)))) ^^^ (((q2.toUInt64 >>> ((1 : Int32) &&& 0x3f).toInt64.toUInt64).toInt64) &&& (1 : Int64)))) ^^^ (((q2.toUInt64 >>> ((2 : Int32) &&& 0x3f).toInt64.toUInt64).toInt64) &&& (1 : Int64)))) ^^^ (((q2.toUInt64 >>> ((3 : Int32) &&& 0x3f).toInt64.toUInt64).toInt64) &&& (1 : Int64))))), .second] [(.long q2), (.long (own_T q3 ((own_T q3 ((own_T q3 ((own_T q3 (q1 ^^^ (q2 &&& (1 : Int64)))) ^^^ (((q2.toUInt64 >>> ((1 : Int32) &&& 0x3f).toInt64.toUInt64).toInt64) &&& (1 : Int64)))) ^^^ (((q2.toUInt64 >>> ((2 : Int32) &&& 0x3f).toInt64.toUInt64).toInt64) &&& (1 : Int64)))) ^^^ (((q2.toUInt64 >>> ((3 : Int32) &&& 0x3f).toInt64.toUInt64).toInt64) &&& (1 : Int64)))))])) _
    refine XS.iconst X5.here hx rfl (hb hby d14_60) ?_
    show Steps p.tables e below (T5.setTop (mkF m 61 #[.val (.long q1), .second, .val (.long q2), .second, .val (.long q3), .second, .val (.long (own_T q3 ((own_T q3 ((own_T q3 ((own_T q3 (q1 ^^^ (q2 &&& (1 : Int64)))) ^^^ (((q2.toUInt64 >>> ((1 : Int32) &&& 0x3f).toInt64.toUInt64).toInt64) &&& (1 : Int64)))) ^^^ (((q2.toUInt64 >>> ((2 : Int32) &&& 0x3f).toInt64.toUInt64).toInt64) &&& (1 : Int64)))) ^^^ (((q2.toUInt64 >>> ((3 : Int32) &&& 0x3f).toInt64.toUInt64).toInt64) &&& (1 : Int64))))), .second] [(.int (4 : Int32)), (.long q2), (.long (own_T q3 ((own_T q3 ((own_T q3 ((own_T q3 (q1 ^^^ (q2 &&& (1 : Int64)))) ^^^ (((q2.toUInt64 >>> ((1 : Int32) &&& 0x3f).toInt64.toUInt64).toInt64) &&& (1 : Int64)))) ^^^ (((q2.toUInt64 >>> ((2 : Int32) &&& 0x3f).toInt64.toUInt64).toInt64) &&& (1 : Int64)))) ^^^ (((q2.toUInt64 >>> ((3 : Int32) &&& 0x3f).toInt64.toUInt64).toInt64) &&& (1 : Int64)))))])) _
    refine XS.lushr X5.here hx rfl (hb hby d14_61) rfl ?_
    show Steps p.tables e below (T5.setTop (mkF m 62 #[.val (.long q1), .second, .val (.long q2), .second, .val (.long q3), .second, .val (.long (own_T q3 ((own_T q3 ((own_T q3 ((own_T q3 (q1 ^^^ (q2 &&& (1 : Int64)))) ^^^ (((q2.toUInt64 >>> ((1 : Int32) &&& 0x3f).toInt64.toUInt64).toInt64) &&& (1 : Int64)))) ^^^ (((q2.toUInt64 >>> ((2 : Int32) &&& 0x3f).toInt64.toUInt64).toInt64) &&& (1 : Int64)))) ^^^ (((q2.toUInt64 >>> ((3 : Int32) &&& 0x3f).toInt64.toUInt64).toInt64) &&& (1 : Int64))))), .second] [(.long ((q2.toUInt64 >>> ((4 : Int32) &&& 0x3f).toInt64.toUInt64).toInt64)), (.long (own_T q3 ((own_T q3 ((own_T q3 ((own_T q3 (q1 ^^^ (q2 &&& (1 : Int64)))) ^^^ (((q2.toUInt64 >>> ((1 : Int32) &&& 0x3f).toInt64.toUInt64).toInt64) &&& (1 : Int64)))) ^^^ (((q2.toUInt64 >>> ((2 : Int32) &&& 0x3f).toInt64.toUInt64).toInt64) &&& (1 : Int64)))) ^^^ (((q2.toUInt64 >>> ((3 : Int32) &&& 0x3f).toInt64.toUInt64).toInt64) &&& (1 : Int64)))))])) _
    refine XS.lconst X5.here hx rfl (hb hby d14_62) ?_
    show Steps p.tables e below (T5.setTop (mkF m 63 #[.val (.long q1), .second, .val (.long q2), .second, .val (.long q3), .second, .val (.long (own_T q3 ((own_T q3 ((own_T q3 ((own_T q3 (q1 ^^^ (q2 &&& (1 : Int64)))) ^^^ (((q2.toUInt64 >>> ((1 : Int32) &&& 0x3f).toInt64.toUInt64).toInt64) &&& (1 : Int64)))) ^^^ (((q2.toUInt64 >>> ((2 : Int32) &&& 0x3f).toInt64.toUInt64).toInt64) &&& (1 : Int64)))) ^^^ (((q2.toUInt64 >>> ((3 : Int32) &&& 0x3f).toInt64.toUInt64).toInt64) &&& (1 : Int64))))), .second] [(.long (1 : Int64)), (.long ((q2.toUInt64 >>> ((4 : Int32) &&& 0x3f).toInt64.toUInt64).toInt64)), (.long (own_T q3 ((own_T q3 ((own_T q3 ((own_T q3 (q1 ^^^ (q2 &&& (1 : Int64)))) ^^^ (((q2.toUInt64 >>> ((1 : Int32) &&& 0x3f).toInt64.toUInt64).toInt64) &&& (1 : Int64)))) ^^^ (((q2.toUInt64 >>> ((2 : Int32) &&& 0x3f).toInt64.toUInt64).toInt64) &&& (1 : Int64)))) ^^^ (((q2.toUInt64 >>> ((3 : Int32) &&& 0x3f).toInt64.toUInt64).toInt64) &&& (1 : Int64)))))])) _
    refine XS.land X5.here hx rfl (hb hby d14_63) rfl ?_
    show Steps p.tables e below (T5.setTop (mkF m 64 #[.val (.long q1), .second, .val (.long q2), .second, .val (.long q3), .second, .val (.long (own_T q3 ((own_T q3 ((own_T q3 ((own_T q3 (q1 ^^^ (q2 &&& (1 : Int64)))) ^^^ (((q2.toUInt64 >>> ((1 : Int32) &&& 0x3f).toInt64.toUInt64).toInt64) &&& (1 : Int64)))) ^^^ (((q2.toUInt64 >>> ((2 : Int32) &&& 0x3f).toInt64.toUInt64).toInt64) &&& (1 : Int64)))) ^^^ (((q2.toUInt64 >>> ((3 : Int32) &&& 0x3f).toInt64.toUInt64).toInt64) &&& (1 : Int64))))), .second] [(.long (((q2.toUInt64 >>> ((4 : Int32) &&& 0x3f).toInt64.toUInt64).toInt64) &&& (1 : Int64))), (.long (own_T q3 ((own_T q3 ((own_T q3 ((own_T q3 (q1 ^^^ (q2 &&& (1 : Int64)))) ^^^ (((q2.toUInt64 >>> ((1 : Int32) &&& 0x3f).toInt64.toUInt64).toInt64) &&& (1 : Int64)))) ^^^ (((q2.toUInt64 >>> ((2 : Int32) &&& 0x3f).toInt64.toUInt64).toInt64) &&& (1 : Int64)))) ^^^ (((q2.toUInt64 >>> ((3 : Int32) &&& 0x3f).toInt64.toUInt64).toInt64) &&& (1 : Int64)))))])) _
    refine XS.lload X5.here hx rfl (hb hby d14_64) rfl ?_
    exact kS
  obtain ⟨_, _, ⟨T6, L6, k6, n6⟩, -, X6, ⟨Lc6, hQ6, l6, y6, z6⟩, st6⟩ := Jvm.LawKit.callS X5 hx (y := (⟨"com/example/latchkey/latchkey/server/gateway/CrcCombinationCombinePinLaw", "bit", "(JJJ)J"⟩ : MethodName)) hown (mvT hZ (hw _ (List.mem_of_getElem? (i := 68) rfl))) (mvT hZ (hw _ (List.mem_of_getElem? (i := 69) rfl))) (mvT hZ (hw _ (List.mem_of_getElem? (i := 2) rfl))) (mvT hZ (hw _ (List.mem_of_getElem? (i := 70) rfl))) (by decide) (backOf (W := 0) (rm15 l Z a0 hw [] (own_T q3 ((own_T q3 ((own_T q3 ((own_T q3 (q1 ^^^ (q2 &&& (1 : Int64)))) ^^^ (((q2.toUInt64 >>> ((1 : Int32) &&& 0x3f).toInt64.toUInt64).toInt64) &&& (1 : Int64)))) ^^^ (((q2.toUInt64 >>> ((2 : Int32) &&& 0x3f).toInt64.toUInt64).toInt64) &&& (1 : Int64)))) ^^^ (((q2.toUInt64 >>> ((3 : Int32) &&& 0x3f).toInt64.toUInt64).toInt64) &&& (1 : Int64)))) (((q2.toUInt64 >>> ((4 : Int32) &&& 0x3f).toInt64.toUInt64).toInt64) &&& (1 : Int64)) q3 h0 n0 Z0) hZ (hw _ (List.mem_of_getElem? (i := 70) rfl)) (hw _ (List.mem_of_getElem? (i := 2) rfl)) (by decide) (by decide)) (g := (mkF m 66 #[.val (.long q1), .second, .val (.long q2), .second, .val (.long q3), .second, .val (.long (own_T q3 ((own_T q3 ((own_T q3 ((own_T q3 (q1 ^^^ (q2 &&& (1 : Int64)))) ^^^ (((q2.toUInt64 >>> ((1 : Int32) &&& 0x3f).toInt64.toUInt64).toInt64) &&& (1 : Int64)))) ^^^ (((q2.toUInt64 >>> ((2 : Int32) &&& 0x3f).toInt64.toUInt64).toInt64) &&& (1 : Int64)))) ^^^ (((q2.toUInt64 >>> ((3 : Int32) &&& 0x3f).toInt64.toUInt64).toInt64) &&& (1 : Int64))))), .second] [(.long q3), (.long (((q2.toUInt64 >>> ((4 : Int32) &&& 0x3f).toInt64.toUInt64).toInt64) &&& (1 : Int64))), (.long (own_T q3 ((own_T q3 ((own_T q3 ((own_T q3 (q1 ^^^ (q2 &&& (1 : Int64)))) ^^^ (((q2.toUInt64 >>> ((1 : Int32) &&& 0x3f).toInt64.toUInt64).toInt64) &&& (1 : Int64)))) ^^^ (((q2.toUInt64 >>> ((2 : Int32) &&& 0x3f).toInt64.toUInt64).toInt64) &&& (1 : Int64)))) ^^^ (((q2.toUInt64 >>> ((3 : Int32) &&& 0x3f).toInt64.toUInt64).toInt64) &&& (1 : Int64)))))])) rfl (by rw [hml]; rfl) (argsL := [(.long (own_T q3 ((own_T q3 ((own_T q3 ((own_T q3 (q1 ^^^ (q2 &&& (1 : Int64)))) ^^^ (((q2.toUInt64 >>> ((1 : Int32) &&& 0x3f).toInt64.toUInt64).toInt64) &&& (1 : Int64)))) ^^^ (((q2.toUInt64 >>> ((2 : Int32) &&& 0x3f).toInt64.toUInt64).toInt64) &&& (1 : Int64)))) ^^^ (((q2.toUInt64 >>> ((3 : Int32) &&& 0x3f).toInt64.toUInt64).toInt64) &&& (1 : Int64))))), (.long (((q2.toUInt64 >>> ((4 : Int32) &&& 0x3f).toInt64.toUInt64).toInt64) &&& (1 : Int64))), (.long q3)]) (rest := []) (lenOf pd_0 rfl) rfl (by show 2 * 0 + _ ≤ _; exact Nat.le_of_eq rfl) (hb hby d14_66) (fun _ _ => ⟨rfl, hH5, (by decide : 0 + 0 ≤ _), (by decide : 0 + 0 ≤ _)⟩)
  dsimp only [Pt.U, Pt.locs, Pt.cells, Pt.slots] at X6 l6 y6 z6 st6 hQ6
  subst l6 y6 z6
  obtain ⟨rfl, N6q, hH6⟩ := hQ6
  have N6 := Fr.app N5 N6q
  obtain ⟨lo6, X6, N6⟩ := own_pack X6 N6
  replace X6 : Stand p l e _ s m _ below meth c T6 _ 0 0 := X6
  refine own_adv (B := (T6.setTop (mkF m 69 #[.val (.long q1), .second, .val (.long q2), .second, .val (.long q3), .second, .val (.long (own_T q3 ((own_T q3 ((own_T q3 ((own_T q3 (q1 ^^^ (q2 &&& (1 : Int64)))) ^^^ (((q2.toUInt64 >>> ((1 : Int32) &&& 0x3f).toInt64.toUInt64).toInt64) &&& (1 : Int64)))) ^^^ (((q2.toUInt64 >>> ((2 : Int32) &&& 0x3f).toInt64.toUInt64).toInt64) &&& (1 : Int64)))) ^^^ (((q2.toUInt64 >>> ((3 : Int32) &&& 0x3f).toInt64.toUInt64).toInt64) &&& (1 : Int64))))), .second] [(.long (own_T q3 ((own_T q3 ((own_T q3 ((own_T q3 ((own_T q3 (q1 ^^^ (q2 &&& (1 : Int64)))) ^^^ (((q2.toUInt64 >>> ((1 : Int32) &&& 0x3f).toInt64.toUInt64).toInt64) &&& (1 : Int64)))) ^^^ (((q2.toUInt64 >>> ((2 : Int32) &&& 0x3f).toInt64.toUInt64).toInt64) &&& (1 : Int64)))) ^^^ (((q2.toUInt64 >>> ((3 : Int32) &&& 0x3f).toInt64.toUInt64).toInt64) &&& (1 : Int64)))) ^^^ (((q2.toUInt64 >>> ((4 : Int32) &&& 0x3f).toInt64.toUInt64).toInt64) &&& (1 : Int64)))))]))) (fun t kS => st6 t kS) ?_
  refine own_adv (B := (T6.setTop (mkF m 80 #[.val (.long q1), .second, .val (.long q2), .second, .val (.long q3), .second, .val (.long (own_T q3 ((own_T q3 ((own_T q3 ((own_T q3 ((own_T q3 (q1 ^^^ (q2 &&& (1 : Int64)))) ^^^ (((q2.toUInt64 >>> ((1 : Int32) &&& 0x3f).toInt64.toUInt64).toInt64) &&& (1 : Int64)))) ^^^ (((q2.toUInt64 >>> ((2 : Int32) &&& 0x3f).toInt64.toUInt64).toInt64) &&& (1 : Int64)))) ^^^ (((q2.toUInt64 >>> ((3 : Int32) &&& 0x3f).toInt64.toUInt64).toInt64) &&& (1 : Int64)))) ^^^ (((q2.toUInt64 >>> ((4 : Int32) &&& 0x3f).toInt64.toUInt64).toInt64) &&& (1 : Int64))))), .second] [(.long q3), (.long (((q2.toUInt64 >>> ((5 : Int32) &&& 0x3f).toInt64.toUInt64).toInt64) &&& (1 : Int64))), (.long (own_T q3 ((own_T q3 ((own_T q3 ((own_T q3 ((own_T q3 (q1 ^^^ (q2 &&& (1 : Int64)))) ^^^ (((q2.toUInt64 >>> ((1 : Int32) &&& 0x3f).toInt64.toUInt64).toInt64) &&& (1 : Int64)))) ^^^ (((q2.toUInt64 >>> ((2 : Int32) &&& 0x3f).toInt64.toUInt64).toInt64) &&& (1 : Int64)))) ^^^ (((q2.toUInt64 >>> ((3 : Int32) &&& 0x3f).toInt64.toUInt64).toInt64) &&& (1 : Int64)))) ^^^ (((q2.toUInt64 >>> ((4 : Int32) &&& 0x3f).toInt64.toUInt64).toInt64) &&& (1 : Int64)))))]))) (fun t kS => ?_) ?_
  · show Steps p.tables e below (T6.setTop (mkF m 69 #[.val (.long q1), .second, .val (.long q2), .second, .val (.long q3), .second, .val (.long (own_T q3 ((own_T q3 ((own_T q3 ((own_T q3 (q1 ^^^ (q2 &&& (1 : Int64)))) ^^^ (((q2.toUInt64 >>> ((1 : Int32) &&& 0x3f).toInt64.toUInt64).toInt64) &&& (1 : Int64)))) ^^^ (((q2.toUInt64 >>> ((2 : Int32) &&& 0x3f).toInt64.toUInt64).toInt64) &&& (1 : Int64)))) ^^^ (((q2.toUInt64 >>> ((3 : Int32) &&& 0x3f).toInt64.toUInt64).toInt64) &&& (1 : Int64))))), .second] [(.long (own_T q3 ((own_T q3 ((own_T q3 ((own_T q3 ((own_T q3 (q1 ^^^ (q2 &&& (1 : Int64)))) ^^^ (((q2.toUInt64 >>> ((1 : Int32) &&& 0x3f).toInt64.toUInt64).toInt64) &&& (1 : Int64)))) ^^^ (((q2.toUInt64 >>> ((2 : Int32) &&& 0x3f).toInt64.toUInt64).toInt64) &&& (1 : Int64)))) ^^^ (((q2.toUInt64 >>> ((3 : Int32) &&& 0x3f).toInt64.toUInt64).toInt64) &&& (1 : Int64)))) ^^^ (((q2.toUInt64 >>> ((4 : Int32) &&& 0x3f).toInt64.toUInt64).toInt64) &&& (1 : Int64)))))])) _
    refine XS.lstore X6.here hx rfl (hb hby d14_69) rfl (l' := #[.val (.long q1), .second, .val (.long q2), .second, .val (.long q3), .second, .val (.long (own_T q3 ((own_T q3 ((own_T q3 ((own_T q3 ((own_T q3 (q1 ^^^ (q2 &&& (1 : Int64)))) ^^^ (((q2.toUInt64 >>> ((1 : Int32) &&& 0x3f).toInt64.toUInt64).toInt64) &&& (1 : Int64)))) ^^^ (((q2.toUInt64 >>> ((2 : Int32) &&& 0x3f).toInt64.toUInt64).toInt64) &&& (1 : Int64)))) ^^^ (((q2.toUInt64 >>> ((3 : Int32) &&& 0x3f).toInt64.toUInt64).toInt64) &&& (1 : Int64)))) ^^^ (((q2.toUInt64 >>> ((4 : Int32) &&& 0x3f).toInt64.toUInt64).toInt64) &&& (1 : Int64))))), .second]) rfl ?_
    show Steps p.tables e below (T6.setTop (mkF m 71 #[.val (.long q1), .second, .val (.long q2), .second, .val (.long q3), .second, .val (.long (own_T q3 ((own_T q3 ((own_T q3 ((own_T q3 ((own_T q3 (q1 ^^^ (q2 &&& (1 : Int64)))) ^^^ (((q2.toUInt64 >>> ((1 : Int32) &&& 0x3f).toInt64.toUInt64).toInt64) &&& (1 : Int64)))) ^^^ (((q2.toUInt64 >>> ((2 : Int32) &&& 0x3f).toInt64.toUInt64).toInt64) &&& (1 : Int64)))) ^^^ (((q2.toUInt64 >>> ((3 : Int32) &&& 0x3f).toInt64.toUInt64).toInt64) &&& (1 : Int64)))) ^^^ (((q2.toUInt64 >>> ((4 : Int32) &&& 0x3f).toInt64.toUInt64).toInt64) &&& (1 : Int64))))), .second] [])) _
    refine XS.lload X6.here hx rfl (hb hby d14_71) rfl ?_
    show Steps p.tables e below (T6.setTop (mkF m 73 #[.val (.long q1), .second, .val (.long q2), .second, .val (.long q3), .second, .val (.long (own_T q3 ((own_T q3 ((own_T q3 ((own_T q3 ((own_T q3 (q1 ^^^ (q2 &&& (1 : Int64)))) ^^^ (((q2.toUInt64 >>> ((1 : Int32) &&& 0x3f).toInt64.toUInt64).toInt64) &&& (1 : Int64)))) ^^^ (((q2.toUInt64 >>> ((2 : Int32) &&& 0x3f).toInt64.toUInt64).toInt64) &&& (1 : Int64)))) ^^^ (((q2.toUInt64 >>> ((3 : Int32) &&& 0x3f).toInt64.toUInt64).toInt64) &&& (1 : Int64)))) ^^^ (((q2.toUInt64 >>> ((4 : Int32) &&& 0x3f).toInt64.toUInt64).toInt64) &&& (1 : Int64))))), .second] [(.long (own_T q3 ((own_T q3 ((own_T q3 ((own_T q3 ((own_T q3 (q1 ^^^ (q2 &&& (1 : Int64)))) ^^^ (((q2.toUInt64 >>> ((1 : Int32) &&& 0x3f).toInt64.toUInt64).toInt64) &&& (1 : Int64)))) ^^^ (((q2.toUInt64 >>> ((2 : Int32) &&& 0x3f).toInt64.toUInt64).toInt64) &&& (1 : Int64)))) ^^^ (((q2.toUInt64 >>> ((3 : Int32) &&& 0x3f).toInt64.toUInt64).toInt64) &&& (1 : Int64)))) ^^^ (((q2.toUInt64 >>> ((4 : Int32) &&& 0x3f).toInt64.toUInt64).toInt64) &&& (1 : Int64)))))])) _
    refine XS.lloadN X6.here hx rfl (hb hby d14_73) rfl ?_
    show Steps p.tables e below (T6.setTop (mkF m 74 #[.val (.long q1), .second, .val (.long q2), .second, .val (.long q3), .second, .val (.long (own_T q3 ((own_T q3 ((own_T q3 ((own_T q3 ((own_T q3 (q1 ^^^ (q2 &&& (1 : Int64)))) ^^^ (((q2.toUInt64 >>> ((1 : Int32) &&& 0x3f).toInt64.toUInt64).toInt64) &&& (1 : Int64)))) ^^^ (((q2.toUInt64 >>> ((2 : Int32) &&& 0x3f).toInt64.toUInt64).toInt64) &&& (1 : Int64)))) ^^^ (((q2.toUInt64 >>> ((3 : Int32) &&& 0x3f).toInt64.toUInt64).toInt64) &&& (1 : Int64)))) ^^^ (((q2.toUInt64 >>> ((4 : Int32) &&& 0x3f).toInt64.toUInt64).toInt64) &&& (1 : Int64))))), .second] [(.long q2), (.long (own_T q3 ((own_T q3 ((own_T q3 ((own_T q3 ((own_T q3 (q1 ^^^ (q2 &&& (1 : Int64)))) ^^^ (((q2.toUInt64 >>> ((1 : Int32) &&& 0x3f).toInt64.toUInt64).toInt64) &&& (1 : Int64)))) ^^^ (((q2.toUInt64 >>> ((2 : Int32) &&& 0x3f).toInt64.toUInt64).toInt64) &&& (1 : Int64)))) ^^^ (((q2.toUInt64 >>> ((3 : Int32) &&& 0x3f).toInt64.toUInt64).toInt64) &&& (1 : Int64)))) ^^^ (((q2.toUInt64 >>> ((4 : Int32) &&& 0x3f).toInt64.toUInt64).toInt64) &&& (1 : Int64)))))])) _
    refine XS.iconst X6.here hx rfl (hb hby d14_74) ?_
    show Steps p.tables e below (T6.setTop (mkF m 75 #[.val (.long q1), .second, .val (.long q2), .second, .val (.long q3), .second, .val (.long (own_T q3 ((own_T q3 ((own_T q3 ((own_T q3 ((own_T q3 (q1 ^^^ (q2 &&& (1 : Int64)))) ^^^ (((q2.toUInt64 >>> ((1 : Int32) &&& 0x3f).toInt64.toUInt64).toInt64) &&& (1 : Int64)))) ^^^ (((q2.toUInt64 >>> ((2 : Int32) &&& 0x3f).toInt64.toUInt64).toInt64) &&& (1 : Int64)))) ^^^ (((q2.toUInt64 >>> ((3 : Int32) &&& 0x3f).toInt64.toUInt64).toInt64) &&& (1 : Int64)))) ^^^ (((q2.toUInt64 >>> ((4 : Int32) &&& 0x3f).toInt64.toUInt64).toInt64) &&& (1 : Int64))))), .second] [(.int (5 : Int32)), (.long q2), (.long (own_T q3 ((own_T q3 ((own_T q3 ((own_T q3 ((own_T q3 (q1 ^^^ (q2 &&& (1 : Int64)))) ^^^ (((q2.toUInt64 >>> ((1 : Int32) &&& 0x3f).toInt64.toUInt64).toInt64) &&& (1 : Int64)))) ^^^ (((q2.toUInt64 >>> ((2 : Int32) &&& 0x3f).toInt64.toUInt64).toInt64) &&& (1 : Int64)))) ^^^ (((q2.toUInt64 >>> ((3 : Int32) &&& 0x3f).toInt64.toUInt64).toInt64) &&& (1 : Int64)))) ^^^ (((q2.toUInt64 >>> ((4 : Int32) &&& 0x3f).toInt64.toUInt64).toInt64) &&& (1 : Int64)))))])) _
    refine XS.lushr X6.here hx rfl (hb hby d14_75) rfl ?_
    show Steps p.tables e below (T6.setTop (mkF m 76 #[.val (.long q1), .second, .val (.long q2), .second, .val (.long q3), .second, .val (.long (own_T q3 ((own_T q3 ((own_T q3 ((own_T q3 ((own_T q3 (q1 ^^^ (q2 &&& (1 : Int64)))) ^^^ (((q2.toUInt64 >>> ((1 : Int32) &&& 0x3f).toInt64.toUInt64).toInt64) &&& (1 : Int64)))) ^^^ (((q2.toUInt64 >>> ((2 : Int32) &&& 0x3f).toInt64.toUInt64).toInt64) &&& (1 : Int64)))) ^^^ (((q2.toUInt64 >>> ((3 : Int32) &&& 0x3f).toInt64.toUInt64).toInt64) &&& (1 : Int64)))) ^^^ (((q2.toUInt64 >>> ((4 : Int32) &&& 0x3f).toInt64.toUInt64).toInt64) &&& (1 : Int64))))), .second] [(.long ((q2.toUInt64 >>> ((5 : Int32) &&& 0x3f).toInt64.toUInt64).toInt64)), (.long (own_T q3 ((own_T q3 ((own_T q3 ((own_T q3 ((own_T q3 (q1 ^^^ (q2 &&& (1 : Int64)))) ^^^ (((q2.toUInt64 >>> ((1 : Int32) &&& 0x3f).toInt64.toUInt64).toInt64) &&& (1 : Int64)))) ^^^ (((q2.toUInt64 >>> ((2 : Int32) &&& 0x3f).toInt64.toUInt64).toInt64) &&& (1 : Int64)))) ^^^ (((q2.toUInt64 >>> ((3 : Int32) &&& 0x3f).toInt64.toUInt64).toInt64) &&& (1 : Int64)))) ^^^ (((q2.toUInt64 >>> ((4 : Int32) &&& 0x3f).toInt64.toUInt64).toInt64) &&& (1 : Int64)))))])) _
    refine XS.lconst X6.here hx rfl (hb hby d14_76) ?_
    show Steps p.tables e below (T6.setTop (mkF m 77 #[.val (.long q1), .second, .val (.long q2), .second, .val (.long q3), .second, .val (.long (own_T q3 ((own_T q3 ((own_T q3 ((own_T q3 ((own_T q3 (q1 ^^^ (q2 &&& (1 : Int64)))) ^^^ (((q2.toUInt64 >>> ((1 : Int32) &&& 0x3f).toInt64.toUInt64).toInt64) &&& (1 : Int64)))) ^^^ (((q2.toUInt64 >>> ((2 : Int32) &&& 0x3f).toInt64.toUInt64).toInt64) &&& (1 : Int64)))) ^^^ (((q2.toUInt64 >>> ((3 : Int32) &&& 0x3f).toInt64.toUInt64).toInt64) &&& (1 : Int64)))) ^^^ (((q2.toUInt64 >>> ((4 : Int32) &&& 0x3f).toInt64.toUInt64).toInt64) &&& (1 : Int64))))), .second] [(.long (1 : Int64)), (.long ((q2.toUInt64 >>> ((5 : Int32) &&& 0x3f).toInt64.toUInt64).toInt64)), (.long (own_T q3 ((own_T q3 ((own_T q3 ((own_T q3 ((own_T q3 (q1 ^^^ (q2 &&& (1 : Int64)))) ^^^ (((q2.toUInt64 >>> ((1 : Int32) &&& 0x3f).toInt64.toUInt64).toInt64) &&& (1 : Int64)))) ^^^ (((q2.toUInt64 >>> ((2 : Int32) &&& 0x3f).toInt64.toUInt64).toInt64) &&& (1 : Int64)))) ^^^ (((q2.toUInt64 >>> ((3 : Int32) &&& 0x3f).toInt64.toUInt64).toInt64) &&& (1 : Int64)))) ^^^ (((q2.toUInt64 >>> ((4 : Int32) &&& 0x3f).toInt64.toUInt64).toInt64) &&& (1 : Int64)))))])) _
    refine XS.land X6.here hx rfl (hb hby d14_77) rfl ?_
    show Steps p.tables e below (T6.setTop (mkF m 78 #[.val (.long q1), .second, .val (.long q2), .second, .val (.long q3), .second, .val (.long (own_T q3 ((own_T q3 ((own_T q3 ((own_T q3 ((own_T q3 (q1 ^^^ (q2 &&& (1 : Int64)))) ^^^ (((q2.toUInt64 >>> ((1 : Int32) &&& 0x3f).toInt64.toUInt64).toInt64) &&& (1 : Int64)))) ^^^ (((q2.toUInt64 >>> ((2 : Int32) &&& 0x3f).toInt64.toUInt64).toInt64) &&& (1 : Int64)))) ^^^ (((q2.toUInt64 >>> ((3 : Int32) &&& 0x3f).toInt64.toUInt64).toInt64) &&& (1 : Int64)))) ^^^ (((q2.toUInt64 >>> ((4 : Int32) &&& 0x3f).toInt64.toUInt64).toInt64) &&& (1 : Int64))))), .second] [(.long (((q2.toUInt64 >>> ((5 : Int32) &&& 0x3f).toInt64.toUInt64).toInt64) &&& (1 : Int64))), (.long (own_T q3 ((own_T q3 ((own_T q3 ((own_T q3 ((own_T q3 (q1 ^^^ (q2 &&& (1 : Int64)))) ^^^ (((q2.toUInt64 >>> ((1 : Int32) &&& 0x3f).toInt64.toUInt64).toInt64) &&& (1 : Int64)))) ^^^ (((q2.toUInt64 >>> ((2 : Int32) &&& 0x3f).toInt64.toUInt64).toInt64) &&& (1 : Int64)))) ^^^ (((q2.toUInt64 >>> ((3 : Int32) &&& 0x3f).toInt64.toUInt64).toInt64) &&& (1 : Int64)))) ^^^ (((q2.toUInt64 >>> ((4 : Int32) &&& 0x3f).toInt64.toUInt64).toInt64) &&& (1 : Int64)))))])) _
    refine XS.lload X6.here hx rfl (hb hby d14_78) rfl ?_
    exact kS
  obtain ⟨_, _, ⟨T7, L7, k7, n7⟩, -, X7, ⟨Lc7, hQ7, l7, y7, z7⟩, st7⟩ := Jvm.LawKit.callS X6 hx (y := (⟨"com/example/latchkey/latchkey/server/gateway/CrcCombinationCombinePinLaw", "bit", "(JJJ)J"⟩ : MethodName)) hown (mvT hZ (hw _ (List.mem_of_getElem? (i := 68) rfl))) (mvT hZ (hw _ (List.mem_of_getElem? (i := 69) rfl))) (mvT hZ (hw _ (List.mem_of_getElem? (i := 2) rfl))) (mvT hZ (hw _ (List.mem_of_getElem? (i := 70) rfl))) (by decide) (backOf (W := 0) (rm15 l Z a0 hw [] (own_T q3 ((own_T q3 ((own_T q3 ((own_T q3 ((own_T q3 (q1 ^^^ (q2 &&& (1 : Int64)))) ^^^ (((q2.toUInt64 >>> ((1 : Int32) &&& 0x3f).toInt64.toUInt64).toInt64) &&& (1 : Int64)))) ^^^ (((q2.toUInt64 >>> ((2 : Int32) &&& 0x3f).toInt64.toUInt64).toInt64) &&& (1 : Int64)))) ^^^ (((q2.toUInt64 >>> ((3 : Int32) &&& 0x3f).toInt64.toUInt64).toInt64) &&& (1 : Int64)))) ^^^ (((q2.toUInt64 >>> ((4 : Int32) &&& 0x3f).toInt64.toUInt64).toInt64) &&& (1 : Int64)))) (((q2.toUInt64 >>> ((5 : Int32) &&& 0x3f).toInt64.toUInt64).toInt64) &&& (1 : Int64)) q3 h0 n0 Z0) hZ (hw _ (List.mem_of_getElem? (i := 70) rfl)) (hw _ (List.mem_of_getElem? (i := 2) rfl)) (by decide) (by decide)) (g := (mkF m 80 #[.val (.long q1), .second, .val (.long q2), .second, .val (.long q3), .second, .val (.long (own_T q3 ((own_T q3 ((own_T q3 ((own_T q3 ((own_T q3 (q1 ^^^ (q2 &&& (1 : Int64)))) ^^^ (((q2.toUInt64 >>> ((1 : Int32) &&& 0x3f).toInt64.toUInt64).toInt64) &&& (1 : Int64)))) ^^^ (((q2.toUInt64 >>> ((2 : Int32) &&& 0x3f).toInt64.toUInt64).toInt64) &&& (1 : Int64)))) ^^^ (((q2.toUInt64 >>> ((3 : Int32) &&& 0x3f).toInt64.toUInt64).toInt64) &&& (1 : Int64)))) ^^^ (((q2.toUInt64 >>> ((4 : Int32) &&& 0x3f).toInt64.toUInt64).toInt64) &&& (1 : Int64))))), .second] [(.long q3), (.long (((q2.toUInt64 >>> ((5 : Int32) &&& 0x3f).toInt64.toUInt64).toInt64) &&& (1 : Int64))), (.long (own_T q3 ((own_T q3 ((own_T q3 ((own_T q3 ((own_T q3 (q1 ^^^ (q2 &&& (1 : Int64)))) ^^^ (((q2.toUInt64 >>> ((1 : Int32) &&& 0x3f).toInt64.toUInt64).toInt64) &&& (1 : Int64)))) ^^^ (((q2.toUInt64 >>> ((2 : Int32) &&& 0x3f).toInt64.toUInt64).toInt64) &&& (1 : Int64)))) ^^^ (((q2.toUInt64 >>> ((3 : Int32) &&& 0x3f).toInt64.toUInt64).toInt64) &&& (1 : Int64)))) ^^^ (((q2.toUInt64 >>> ((4 : Int32) &&& 0x3f).toInt64.toUInt64).toInt64) &&& (1 : Int64)))))])) rfl (by rw [hml]; rfl) (argsL := [(.long (own_T q3 ((own_T q3 ((own_T q3 ((own_T q3 ((own_T q3 (q1 ^^^ (q2 &&& (1 : Int64)))) ^^^ (((q2.toUInt64 >>> ((1 : Int32) &&& 0x3f).toInt64.toUInt64).toInt64) &&& (1 : Int64)))) ^^^ (((q2.toUInt64 >>> ((2 : Int32) &&& 0x3f).toInt64.toUInt64).toInt64) &&& (1 : Int64)))) ^^^ (((q2.toUInt64 >>> ((3 : Int32) &&& 0x3f).toInt64.toUInt64).toInt64) &&& (1 : Int64)))) ^^^ (((q2.toUInt64 >>> ((4 : Int32) &&& 0x3f).toInt64.toUInt64).toInt64) &&& (1 : Int64))))), (.long (((q2.toUInt64 >>> ((5 : Int32) &&& 0x3f).toInt64.toUInt64).toInt64) &&& (1 : Int64))), (.long q3)]) (rest := []) (lenOf pd_0 rfl) rfl (by show 2 * 0 + _ ≤ _; exact Nat.le_of_eq rfl) (hb hby d14_80) (fun _ _ => ⟨rfl, hH6, (by decide : 0 + 0 ≤ _), (by decide : 0 + 0 ≤ _)⟩)
  dsimp only [Pt.U, Pt.locs, Pt.cells, Pt.slots] at X7 l7 y7 z7 st7 hQ7
  subst l7 y7 z7
  obtain ⟨rfl, N7q, hH7⟩ := hQ7
  have N7 := Fr.app N6 N7q
  obtain ⟨lo7, X7, N7⟩ := own_pack X7 N7
  replace X7 : Stand p l e _ s m _ below meth c T7 _ 0 0 := X7
  refine own_adv (B := (T7.setTop (mkF m 83 #[.val (.long q1), .second, .val (.long q2), .second, .val (.long q3), .second, .val (.long (own_T q3 ((own_T q3 ((own_T q3 ((own_T q3 ((own_T q3 (q1 ^^^ (q2 &&& (1 : Int64)))) ^^^ (((q2.toUInt64 >>> ((1 : Int32) &&& 0x3f).toInt64.toUInt64).toInt64) &&& (1 : Int64)))) ^^^ (((q2.toUInt64 >>> ((2 : Int32) &&& 0x3f).toInt64.toUInt64).toInt64) &&& (1 : Int64)))) ^^^ (((q2.toUInt64 >>> ((3 : Int32) &&& 0x3f).toInt64.toUInt64).toInt64) &&& (1 : Int64)))) ^^^ (((q2.toUInt64 >>> ((4 : Int32) &&& 0x3f).toInt64.toUInt64).toInt64) &&& (1 : Int64))))), .second] [(.long (own_T q3 ((own_T q3 ((own_T q3 ((own_T q3 ((own_T q3 ((own_T q3 (q1 ^^^ (q2 &&& (1 : Int64)))) ^^^ (((q2.toUInt64 >>> ((1 : Int32) &&& 0x3f).toInt64.toUInt64).toInt64) &&& (1 : Int64)))) ^^^ (((q2.toUInt64 >>> ((2 : Int32) &&& 0x3f).toInt64.toUInt64).toInt64) &&& (1 : Int64)))) ^^^ (((q2.toUInt64 >>> ((3 : Int32) &&& 0x3f).toInt64.toUInt64).toInt64) &&& (1 : Int64)))) ^^^ (((q2.toUInt64 >>> ((4 : Int32) &&& 0x3f).toInt64.toUInt64).toInt64) &&& (1 : Int64)))) ^^^ (((q2.toUInt64 >>> ((5 : Int32) &&& 0x3f).toInt64.toUInt64).toInt64) &&& (1 : Int64)))))]))) (fun t kS => st7 t kS) ?_
  refine own_adv (B := (T7.setTop (mkF m 95 #[.val (.long q1), .second, .val (.long q2), .second, .val (.long q3), .second, .val (.long (own_T q3 ((own_T q3 ((own_T q3 ((own_T q3 ((own_T q3 ((own_T q3 (q1 ^^^ (q2 &&& (1 : Int64)))) ^^^ (((q2.toUInt64 >>> ((1 : Int32) &&& 0x3f).toInt64.toUInt64).toInt64) &&& (1 : Int64)))) ^^^ (((q2.toUInt64 >>> ((2 : Int32) &&& 0x3f).toInt64.toUInt64).toInt64) &&& (1 : Int64)))) ^^^ (((q2.toUInt64 >>> ((3 : Int32) &&& 0x3f).toInt64.toUInt64).toInt64) &&& (1 : Int64)))) ^^^ (((q2.toUInt64 >>> ((4 : Int32) &&& 0x3f).toInt64.toUInt64).toInt64) &&& (1 : Int64)))) ^^^ (((q2.toUInt64 >>> ((5 : Int32) &&& 0x3f).toInt64.toUInt64).toInt64) &&& (1 : Int64))))), .second] [(.long q3), (.long (((q2.toUInt64 >>> ((6 : Int32) &&& 0x3f).toInt64.toUInt64).toInt64) &&& (1 : Int64))), (.long (own_T q3 ((own_T q3 ((own_T q3 ((own_T q3 ((own_T q3 ((own_T q3 (q1 ^^^ (q2 &&& (1 : Int64)))) ^^^ (((q2.toUInt64 >>> ((1 : Int32) &&& 0x3f).toInt64.toUInt64).toInt64) &&& (1 : Int64)))) ^^^ (((q2.toUInt64 >>> ((2 : Int32) &&& 0x3f).toInt64.toUInt64).toInt64) &&& (1 : Int64)))) ^^^ (((q2.toUInt64 >>> ((3 : Int32) &&& 0x3f).toInt64.toUInt64).toInt64) &&& (1 : Int64)))) ^^^ (((q2.toUInt64 >>> ((4 : Int32) &&& 0x3f).toInt64.toUInt64).toInt64) &&& (1 : Int64)))) ^^^ (((q2.toUInt64 >>> ((5 : Int32) &&& 0x3f).toInt64.toUInt64).toInt64) &&& (1 : Int64)))))]))) (fun t kS => ?_) ?_
  · show Steps p.tables e below (T7.setTop (mkF m 83 #[.val (.long q1), .second, .val (.long q2), .second, .val (.long q3), .second, .val (.long (own_T q3 ((own_T q3 ((own_T q3 ((own_T q3 ((own_T q3 (q1 ^^^ (q2 &&& (1 : Int64)))) ^^^ (((q2.toUInt64 >>> ((1 : Int32) &&& 0x3f).toInt64.toUInt64).toInt64) &&& (1 : Int64)))) ^^^ (((q2.toUInt64 >>> ((2 : Int32) &&& 0x3f).toInt64.toUInt64).toInt64) &&& (1 : Int64)))) ^^^ (((q2.toUInt64 >>> ((3 : Int32) &&& 0x3f).toInt64.toUInt64).toInt64) &&& (1 : Int64)))) ^^^ (((q2.toUInt64 >>> ((4 : Int32) &&& 0x3f).toInt64.toUInt64).toInt64) &&& (1 : Int64))))), .second] [(.long (own_T q3 ((own_T q3 ((own_T q3 ((own_T q3 ((own_T q3 ((own_T q3 (q1 ^^^ (q2 &&& (1 : Int64)))) ^^^ (((q2.toUInt64 >>> ((1 : Int32) &&& 0x3f).toInt64.toUInt64).toInt64) &&& (1 : Int64)))) ^^^ (((q2.toUInt64 >>> ((2 : Int32) &&& 0x3f).toInt64.toUInt64).toInt64) &&& (1 : Int64)))) ^^^ (((q2.toUInt64 >>> ((3 : Int32) &&& 0x3f).toInt64.toUInt64).toInt64) &&& (1 : Int64)))) ^^^ (((q2.toUInt64 >>> ((4 : Int32) &&& 0x3f).toInt64.toUInt64).toInt64) &&& (1 : Int64)))) ^^^ (((q2.toUInt64 >>> ((5 : Int32) &&& 0x3f).toInt64.toUInt64).toInt64) &&& (1 : Int64)))))])) _
    refine XS.lstore X7.here hx rfl (hb hby d14_83) rfl (l' := #[.val (.long q1), .second, .val (.long q2), .second, .val (.long q3), .second, .val (.long (own_T q3 ((own_T q3 ((own_T q3 ((own_T q3 ((own_T q3 ((own_T q3 (q1 ^^^ (q2 &&& (1 : Int64)))) ^^^ (((q2.toUInt64 >>> ((1 : Int32) &&& 0x3f).toInt64.toUInt64).toInt64) &&& (1 : Int64)))) ^^^ (((q2.toUInt64 >>> ((2 : Int32) &&& 0x3f).toInt64.toUInt64).toInt64) &&& (1 : Int64)))) ^^^ (((q2.toUInt64 >>> ((3 : Int32) &&& 0x3f).toInt64.toUInt64).toInt64) &&& (1 : Int64)))) ^^^ (((q2.toUInt64 >>> ((4 : Int32) &&& 0x3f).toInt64.toUInt64).toInt64) &&& (1 : Int64)))) ^^^ (((q2.toUInt64 >>> ((5 : Int32) &&& 0x3f).toInt64.toUInt64).toInt64) &&& (1 : Int64))))), .second]) rfl ?_
    show Steps p.tables e below (T7.setTop (mkF m 85 #[.val (.long q1), .second, .val (.long q2), .second, .val (.long q3), .second, .val (.long (own_T q3 ((own_T q3 ((own_T q3 ((own_T q3 ((own_T q3 ((own_T q3 (q1 ^^^ (q2 &&& (1 : Int64)))) ^^^ (((q2.toUInt64 >>> ((1 : Int32) &&& 0x3f).toInt64.toUInt64).toInt64) &&& (1 : Int64)))) ^^^ (((q2.toUInt64 >>> ((2 : Int32) &&& 0x3f).toInt64.toUInt64).toInt64) &&& (1 : Int64)))) ^^^ (((q2.toUInt64 >>> ((3 : Int32) &&& 0x3f).toInt64.toUInt64).toInt64) &&& (1 : Int64)))) ^^^ (((q2.toUInt64 >>> ((4 : Int32) &&& 0x3f).toInt64.toUInt64).toInt64) &&& (1 : Int64)))) ^^^ (((q2.toUInt64 >>> ((5 : Int32) &&& 0x3f).toInt64.toUInt64).toInt64) &&& (1 : Int64))))), .second] [])) _
    refine XS.lload X7.here hx rfl (hb hby d14_85) rfl ?_
    show Steps p.tables e below (T7.setTop (mkF m 87 #[.val (.long q1), .second, .val (.long q2), .second, .val (.long q3), .second, .val (.long (own_T q3 ((own_T q3 ((own_T q3 ((own_T q3 ((own_T q3 ((own_T q3 (q1 ^^^ (q2 &&& (1 : Int64)))) ^^^ (((q2.toUInt64 >>> ((1 : Int32) &&& 0x3f).toInt64.toUInt64).toInt64) &&& (1 : Int64)))) ^^^ (((q2.toUInt64 >>> ((2 : Int32) &&& 0x3f).toInt64.toUInt64).toInt64) &&& (1 : Int64)))) ^^^ (((q2.toUInt64 >>> ((3 : Int32) &&& 0x3f).toInt64.toUInt64).toInt64) &&& (1 : Int64)))) ^^^ (((q2.toUInt64 >>> ((4 : Int32) &&& 0x3f).toInt64.toUInt64).toInt64) &&& (1 : Int64)))) ^^^ (((q2.toUInt64 >>> ((5 : Int32) &&& 0x3f).toInt64.toUInt64).toInt64) &&& (1 : Int64))))), .second] [(.long (own_T q3 ((own_T q3 ((own_T q3 ((own_T q3 ((own_T q3 ((own_T q3 (q1 ^^^ (q2 &&& (1 : Int64)))) ^^^ (((q2.toUInt64 >>> ((1 : Int32) &&& 0x3f).toInt64.toUInt64).toInt64) &&& (1 : Int64)))) ^^^ (((q2.toUInt64 >>> ((2 : Int32) &&& 0x3f).toInt64.toUInt64).toInt64) &&& (1 : Int64)))) ^^^ (((q2.toUInt64 >>> ((3 : Int32) &&& 0x3f).toInt64.toUInt64).toInt64) &&& (1 : Int64)))) ^^^ (((q2.toUInt64 >>> ((4 : Int32) &&& 0x3f).toInt64.toUInt64).toInt64) &&& (1 : Int64)))) ^^^ (((q2.toUInt64 >>> ((5 : Int32) &&& 0x3f).toInt64.toUInt64).toInt64) &&& (1 : Int64)))))])) _
    refine XS.lloadN X7.here hx rfl (hb hby d14_87) rfl ?_
    show Steps p.tables e below (T7.setTop (mkF m 88 #[.val (.long q1), .second, .val (.long q2), .second, .val (.long q3), .second, .val (.long (own_T q3 ((own_T q3 ((own_T q3 ((own_T q3 ((own_T q3 ((own_T q3 (q1 ^^^ (q2 &&& (1 : Int64)))) ^^^ (((q2.toUInt64 >>> ((1 : Int32) &&& 0x3f).toInt64.toUInt64).toInt64) &&& (1 : Int64)))) ^^^ (((q2.toUInt64 >>> ((2 : Int32) &&& 0x3f).toInt64.toUInt64).toInt64) &&& (1 : Int64)))) ^^^ (((q2.toUInt64 >>> ((3 : Int32) &&& 0x3f).toInt64.toUInt64).toInt64) &&& (1 : Int64)))) ^^^ (((q2.toUInt64 >>> ((4 : Int32) &&& 0x3f).toInt64.toUInt64).toInt64) &&& (1 : Int64)))) ^^^ (((q2.toUInt64 >>> ((5 : Int32) &&& 0x3f).toInt64.toUInt64).toInt64) &&& (1 : Int64))))), .second] [(.long q2), (.long (own_T q3 ((own_T q3 ((own_T q3 ((own_T q3 ((own_T q3 ((own_T q3 (q1 ^^^ (q2 &&& (1 : Int64)))) ^^^ (((q2.toUInt64 >>> ((1 : Int32) &&& 0x3f).toInt64.toUInt64).toInt64) &&& (1 : Int64)))) ^^^ (((q2.toUInt64 >>> ((2 : Int32) &&& 0x3f).toInt64.toUInt64).toInt64) &&& (1 : Int64)))) ^^^ (((q2.toUInt64 >>> ((3 : Int32) &&& 0x3f).toInt64.toUInt64).toInt64) &&& (1 : Int64)))) ^^^ (((q2.toUInt64 >>> ((4 : Int32) &&& 0x3f).toInt64.toUInt64).toInt64) &&& (1 : Int64)))) ^^^ (((q2.toUInt64 >>> ((5 : Int32) &&& 0x3f).toInt64.toUInt64).toInt64) &&& (1 : Int64)))))])) _
    refine XS.bipush X7.here hx rfl (hb hby d14_88) ?_
    show Steps p.tables e below (T7.setTop (mkF m 90 #[.val (.long q1), .second, .val (.long q2), .second, .val (.long q3), .second, .val (.long (own_T q3 ((own_T q3 ((own_T q3 ((own_T q3 ((own_T q3 ((own_T q3 (q1 ^^^ (q2 &&& (1 : Int64)))) ^^^ (((q2.toUInt64 >>> ((1 : Int32) &&& 0x3f).toInt64.toUInt64).toInt64) &&& (1 : Int64)))) ^^^ (((q2.toUInt64 >>> ((2 : Int32) &&& 0x3f).toInt64.toUInt64).toInt64) &&& (1 : Int64)))) ^^^ (((q2.toUInt64 >>> ((3 : Int32) &&& 0x3f).toInt64.toUInt64).toInt64) &&& (1 : Int64)))) ^^^ (((q2.toUInt64 >>> ((4 : Int32) &&& 0x3f).toInt64.toUInt64).toInt64) &&& (1 : Int64)))) ^^^ (((q2.toUInt64 >>> ((5 : Int32) &&& 0x3f).toInt64.toUInt64).toInt64) &&& (1 : Int64))))), .second] [(.int (6 : Int32)), (.long q2), (.long (own_T q3 ((own_T q3 ((own_T q3 ((own_T q3 ((own_T q3 ((own_T q3 (q1 ^^^ (q2 &&& (1 : Int64)))) ^^^ (((q2.toUInt64 >>> ((1 : Int32) &&& 0x3f).toInt64.toUInt64).toInt64) &&& (1 : Int64)))) ^^^ (((q2.toUInt64 >>> ((2 : Int32) &&& 0x3f).toInt64.toUInt64).toInt64) &&& (1 : Int64)))) ^^^ (((q2.toUInt64 >>> ((3 : Int32) &&& 0x3f).toInt64.toUInt64).toInt64) &&& (1 : Int64)))) ^^^ (((q2.toUInt64 >>> ((4 : Int32) &&& 0x3f).toInt64.toUInt64).toInt64) &&& (1 : Int64)))) ^^^ (((q2.toUInt64 >>> ((5 : Int32) &&& 0x3f).toInt64.toUInt64).toInt64) &&& (1 : Int64)))))])) _
    refine XS.lushr X7.here hx rfl (hb hby d14_90) rfl ?_
    show Steps p.tables e below (T7.setTop (mkF m 91 #[.val (.long q1), .second, .val (.long q2), .second, .val (.long q3), .second, .val (.long (own_T q3 ((own_T q3 ((own_T q3 ((own_T q3 ((own_T q3 ((own_T q3 (q1 ^^^ (q2 &&& (1 : Int64)))) ^^^ (((q2.toUInt64 >>> ((1 : Int32) &&& 0x3f).toInt64.toUInt64).toInt64) &&& (1 : Int64)))) ^^^ (((q2.toUInt64 >>> ((2 : Int32) &&& 0x3f).toInt64.toUInt64).toInt64) &&& (1 : Int64)))) ^^^ (((q2.toUInt64 >>> ((3 : Int32) &&& 0x3f).toInt64.toUInt64).toInt64) &&& (1 : Int64)))) ^^^ (((q2.toUInt64 >>> ((4 : Int32) &&& 0x3f).toInt64.toUInt64).toInt64) &&& (1 : Int64)))) ^^^ (((q2.toUInt64 >>> ((5 : Int32) &&& 0x3f).toInt64.toUInt64).toInt64) &&& (1 : Int64))))), .second] [(.long ((q2.toUInt64 >>> ((6 : Int32) &&& 0x3f).toInt64.toUInt64).toInt64)), (.long (own_T q3 ((own_T q3 ((own_T q3 ((own_T q3 ((own_T q3 ((own_T q3 (q1 ^^^ (q2 &&& (1 : Int64)))) ^^^ (((q2.toUInt64 >>> ((1 : Int32) &&& 0x3f).toInt64.toUInt64).toInt64) &&& (1 : Int64)))) ^^^ (((q2.toUInt64 >>> ((2 : Int32) &&& 0x3f).toInt64.toUInt64).toInt64) &&& (1 : Int64)))) ^^^ (((q2.toUInt64 >>> ((3 : Int32) &&& 0x3f).toInt64.toUInt64).toInt64) &&& (1 : Int64)))) ^^^ (((q2.toUInt64 >>> ((4 : Int32) &&& 0x3f).toInt64.toUInt64).toInt64) &&& (1 : Int64)))) ^^^ (((q2.toUInt64 >>> ((5 : Int32) &&& 0x3f).toInt64.toUInt64).toInt64) &&& (1 : Int64)))))])) _
    refine XS.lconst X7.here hx rfl (hb hby d14_91) ?_
    show Steps p.tables e below (T7.setTop (mkF m 92 #[.val (.long q1), .second, .val (.long q2), .second, .val (.long q3), .second, .val (.long (own_T q3 ((own_T q3 ((own_T q3 ((own_T q3 ((own_T q3 ((own_T q3 (q1 ^^^ (q2 &&& (1 : Int64)))) ^^^ (((q2.toUInt64 >>> ((1 : Int32) &&& 0x3f).toInt64.toUInt64).toInt64) &&& (1 : Int64)))) ^^^ (((q2.toUInt64 >>> ((2 : Int32) &&& 0x3f).toInt64.toUInt64).toInt64) &&& (1 : Int64)))) ^^^ (((q2.toUInt64 >>> ((3 : Int32) &&& 0x3f).toInt64.toUInt64).toInt64) &&& (1 : Int64)))) ^^^ (((q2.toUInt64 >>> ((4 : Int32) &&& 0x3f).toInt64.toUInt64).toInt64) &&& (1 : Int64)))) ^^^ (((q2.toUInt64 >>> ((5 : Int32) &&& 0x3f).toInt64.toUInt64).toInt64) &&& (1 : Int64))))), .second] [(.long (1 : Int64)), (.long ((q2.toUInt64 >>> ((6 : Int32) &&& 0x3f).toInt64.toUInt64).toInt64)), (.long (own_T q3 ((own_T q3 ((own_T q3 ((own_T q3 ((own_T q3 ((own_T q3 (q1 ^^^ (q2 &&& (1 : Int64)))) ^^^ (((q2.toUInt64 >>> ((1 : Int32) &&& 0x3f).toInt64.toUInt64).toInt64) &&& (1 : Int64)))) ^^^ (((q2.toUInt64 >>> ((2 : Int32) &&& 0x3f).toInt64.toUInt64).toInt64) &&& (1 : Int64)))) ^^^ (((q2.toUInt64 >>> ((3 : Int32) &&& 0x3f).toInt64.toUInt64).toInt64) &&& (1 : Int64)))) ^^^ (((q2.toUInt64 >>> ((4 : Int32) &&& 0x3f).toInt64.toUInt64).toInt64) &&& (1 : Int64)))) ^^^ (((q2.toUInt64 >>> ((5 : Int32) &&& 0x3f).toInt64.toUInt64).toInt64) &&& (1 : Int64)))))])) _
    refine XS.land X7.here hx rfl (hb hby d14_92) rfl ?_
    show Steps p.tables e below (T7.setTop (mkF m 93 #[.val (.long q1), .second, .val (.long q2), .second, .val (.long q3), .second, .val (.long (own_T q3 ((own_T q3 ((own_T q3 ((own_T q3 ((own_T q3 ((own_T q3 (q1 ^^^ (q2 &&& (1 : Int64)))) ^^^ (((q2.toUInt64 >>> ((1 : Int32) &&& 0x3f).toInt64.toUInt64).toInt64) &&& (1 : Int64)))) ^^^ (((q2.toUInt64 >>> ((2 : Int32) &&& 0x3f).toInt64.toUInt64).toInt64) &&& (1 : Int64)))) ^^^ (((q2.toUInt64 >>> ((3 : Int32) &&& 0x3f).toInt64.toUInt64).toInt64) &&& (1 : Int64)))) ^^^ (((q2.toUInt64 >>> ((4 : Int32) &&& 0x3f).toInt64.toUInt64).toInt64) &&& (1 : Int64)))) ^^^ (((q2.toUInt64 >>> ((5 : Int32) &&& 0x3f).toInt64.toUInt64).toInt64) &&& (1 : Int64))))), .second] [(.long (((q2.toUInt64 >>> ((6 : Int32) &&& 0x3f).toInt64.toUInt64).toInt64) &&& (1 : Int64))), (.long (own_T q3 ((own_T q3 ((own_T q3 ((own_T q3 ((own_T q3 ((own_T q3 (q1 ^^^ (q2 &&& (1 : Int64)))) ^^^ (((q2.toUInt64 >>> ((1 : Int32) &&& 0x3f).toInt64.toUInt64).toInt64) &&& (1 : Int64)))) ^^^ (((q2.toUInt64 >>> ((2 : Int32) &&& 0x3f).toInt64.toUInt64).toInt64) &&& (1 : Int64)))) ^^^ (((q2.toUInt64 >>> ((3 : Int32) &&& 0x3f).toInt64.toUInt64).toInt64) &&& (1 : Int64)))) ^^^ (((q2.toUInt64 >>> ((4 : Int32) &&& 0x3f).toInt64.toUInt64).toInt64) &&& (1 : Int64)))) ^^^ (((q2.toUInt64 >>> ((5 : Int32) &&& 0x3f).toInt64.toUInt64).toInt64) &&& (1 : Int64)))))])) _
    refine XS.lload X7.here hx rfl (hb hby d14_93) rfl ?_
    exact kS
  obtain ⟨_, _, ⟨T8, L8, k8, n8⟩, -, X8, ⟨Lc8, hQ8, l8, y8, z8⟩, st8⟩ := Jvm.LawKit.callS X7 hx (y := (⟨"com/example/latchkey/latchkey/server/gateway/CrcCombinationCombinePinLaw", "bit", "(JJJ)J"⟩ : MethodName)) hown (mvT hZ (hw _ (List.mem_of_getElem? (i := 68) rfl))) (mvT hZ (hw _ (List.mem_of_getElem? (i := 69) rfl))) (mvT hZ (hw _ (List.mem_of_getElem? (i := 2) rfl))) (mvT hZ (hw _ (List.mem_of_getElem? (i := 70) rfl))) (by decide) (backOf (W := 0) (rm15 l Z a0 hw [] (own_T q3 ((own_T q3 ((own_T q3 ((own_T q3 ((own_T q3 ((own_T q3 (q1 ^^^ (q2 &&& (1 : Int64)))) ^^^ (((q2.toUInt64 >>> ((1 : Int32) &&& 0x3f).toInt64.toUInt64).toInt64) &&& (1 : Int64)))) ^^^ (((q2.toUInt64 >>> ((2 : Int32) &&& 0x3f).toInt64.toUInt64).toInt64) &&& (1 : Int64)))) ^^^ (((q2.toUInt64 >>> ((3 : Int32) &&& 0x3f).toInt64.toUInt64).toInt64) &&& (1 : Int64)))) ^^^ (((q2.toUInt64 >>> ((4 : Int32) &&& 0x3f).toInt64.toUInt64).toInt64) &&& (1 : Int64)))) ^^^ (((q2.toUInt64 >>> ((5 : Int32) &&& 0x3f).toInt64.toUInt64).toInt64) &&& (1 : Int64)))) (((q2.toUInt64 >>> ((6 : Int32) &&& 0x3f).toInt64.toUInt64).toInt64) &&& (1 : Int64)) q3 h0 n0 Z0) hZ (hw _ (List.mem_of_getElem? (i := 70) rfl)) (hw _ (List.mem_of_getElem? (i := 2) rfl)) (by decide) (by decide)) (g := (mkF m 95 #[.val (.long q1), .second, .val (.long q2), .second, .val (.long q3), .second, .val (.long (own_T q3 ((own_T q3 ((own_T q3 ((own_T q3 ((own_T q3 ((own_T q3 (q1 ^^^ (q2 &&& (1 : Int64)))) ^^^ (((q2.toUInt64 >>> ((1 : Int32) &&& 0x3f).toInt64.toUInt64).toInt64) &&& (1 : Int64)))) ^^^ (((q2.toUInt64 >>> ((2 : Int32) &&& 0x3f).toInt64.toUInt64).toInt64) &&& (1 : Int64)))) ^^^ (((q2.toUInt64 >>> ((3 : Int32) &&& 0x3f).toInt64.toUInt64).toInt64) &&& (1 : Int64)))) ^^^ (((q2.toUInt64 >>> ((4 : Int32) &&& 0x3f).toInt64.toUInt64).toInt64) &&& (1 : Int64)))) ^^^ (((q2.toUInt64 >>> ((5 : Int32) &&& 0x3f).toInt64.toUInt64).toInt64) &&& (1 : Int64))))), .second] [(.long q3), (.long (((q2.toUInt64 >>> ((6 : Int32) &&& 0x3f).toInt64.toUInt64).toInt64) &&& (1 : Int64))), (.long (own_T q3 ((own_T q3 ((own_T q3 ((own_T q3 ((own_T q3 ((own_T q3 (q1 ^^^ (q2 &&& (1 : Int64)))) ^^^ (((q2.toUInt64 >>> ((1 : Int32) &&& 0x3f).toInt64.toUInt64).toInt64) &&& (1 : Int64)))) ^^^ (((q2.toUInt64 >>> ((2 : Int32) &&& 0x3f).toInt64.toUInt64).toInt64) &&& (1 : Int64)))) ^^^ (((q2.toUInt64 >>> ((3 : Int32) &&& 0x3f).toInt64.toUInt64).toInt64) &&& (1 : Int64)))) ^^^ (((q2.toUInt64 >>> ((4 : Int32) &&& 0x3f).toInt64.toUInt64).toInt64) &&& (1 : Int64)))) ^^^ (((q2.toUInt64 >>> ((5 : Int32) &&& 0x3f).toInt64.toUInt64).toInt64) &&& (1 : Int64)))))])) rfl (by rw [hml]; rfl) (argsL := [(.long (own_T q3 ((own_T q3 ((own_T q3 ((own_T q3 ((own_T q3 ((own_T q3 (q1 ^^^ (q2 &&& (1 : Int64)))) ^^^ (((q2.toUInt64 >>> ((1 : Int32) &&& 0x3f).toInt64.toUInt64).toInt64) &&& (1 : Int64)))) ^^^ (((q2.toUInt64 >>> ((2 : Int32) &&& 0x3f).toInt64.toUInt64).toInt64) &&& (1 : Int64)))) ^^^ (((q2.toUInt64 >>> ((3 : Int32) &&& 0x3f).toInt64.toUInt64).toInt64) &&& (1 : Int64)))) ^^^ (((q2.toUInt64 >>> ((4 : Int32) &&& 0x3f).toInt64.toUInt64).toInt64) &&& (1 : Int64)))) ^^^ (((q2.toUInt64 >>> ((5 : Int32) &&& 0x3f).toInt64.toUInt64).toInt64) &&& (1 : Int64))))), (.long (((q2.toUInt64 >>> ((6 : Int32) &&& 0x3f).toInt64.toUInt64).toInt64) &&& (1 : Int64))), (.long q3)]) (rest := []) (lenOf pd_0 rfl) rfl (by show 2 * 0 + _ ≤ _; exact Nat.le_of_eq rfl) (hb hby d14_95) (fun _ _ => ⟨rfl, hH7, (by decide : 0 + 0 ≤ _), (by decide : 0 + 0 ≤ _)⟩)
  dsimp only [Pt.U, Pt.locs, Pt.cells, Pt.slots] at X8 l8 y8 z8 st8 hQ8
  subst l8 y8 z8
  obtain ⟨rfl, N8q, hH8⟩ := hQ8
  have N8 := Fr.app N7 N8q
  obtain ⟨lo8, X8, N8⟩ := own_pack X8 N8
  replace X8 : Stand p l e _ s m _ below meth c T8 _ 0 0 := X8
  refine own_adv (B := (T8.setTop (mkF m 98 #[.val (.long q1), .second, .val (.long q2), .second, .val (.long q3), .second, .val (.long (own_T q3 ((own_T q3 ((own_T q3 ((own_T q3 ((own_T q3 ((own_T q3 (q1 ^^^ (q2 &&& (1 : Int64)))) ^^^ (((q2.toUInt64 >>> ((1 : Int32) &&& 0x3f).toInt64.toUInt64).toInt64) &&& (1 : Int64)))) ^^^ (((q2.toUInt64 >>> ((2 : Int32) &&& 0x3f).toInt64.toUInt64).toInt64) &&& (1 : Int64)))) ^^^ (((q2.toUInt64 >>> ((3 : Int32) &&& 0x3f).toInt64.toUInt64).toInt64) &&& (1 : Int64)))) ^^^ (((q2.toUInt64 >>> ((4 : Int32) &&& 0x3f).toInt64.toUInt64).toInt64) &&& (1 : Int64)))) ^^^ (((q2.toUInt64 >>> ((5 : Int32) &&& 0x3f).toInt64.toUInt64).toInt64) &&& (1 : Int64))))), .second] [(.long (own_T q3 ((own_T q3 ((own_T q3 ((own_T q3 ((own_T q3 ((own_T q3 ((own_T q3 (q1 ^^^ (q2 &&& (1 : Int64)))) ^^^ (((q2.toUInt64 >>> ((1 : Int32) &&& 0x3f).toInt64.toUInt64).toInt64) &&& (1 : Int64)))) ^^^ (((q2.toUInt64 >>> ((2 : Int32) &&& 0x3f).toInt64.toUInt64).toInt64) &&& (1 : Int64)))) ^^^ (((q2.toUInt64 >>> ((3 : Int32) &&& 0x3f).toInt64.toUInt64).toInt64) &&& (1 : Int64)))) ^^^ (((q2.toUInt64 >>> ((4 : Int32) &&& 0x3f).toInt64.toUInt64).toInt64) &&& (1 : Int64)))) ^^^ (((q2.toUInt64 >>> ((5 : Int32) &&& 0x3f).toInt64.toUInt64).toInt64) &&& (1 : Int64)))) ^^^ (((q2.toUInt64 >>> ((6 : Int32) &&& 0x3f).toInt64.toUInt64).toInt64) &&& (1 : Int64)))))]))) (fun t kS => st8 t kS) ?_
  refine own_adv (B := (T8.setTop (mkF m 110 #[.val (.long q1), .second, .val (.long q2), .second, .val (.long q3), .second, .val (.long (own_T q3 ((own_T q3 ((own_T q3 ((own_T q3 ((own_T q3 ((own_T q3 ((own_T q3 (q1 ^^^ (q2 &&& (1 : Int64)))) ^^^ (((q2.toUInt64 >>> ((1 : Int32) &&& 0x3f).toInt64.toUInt64).toInt64) &&& (1 : Int64)))) ^^^ (((q2.toUInt64 >>> ((2 : Int32) &&& 0x3f).toInt64.toUInt64).toInt64) &&& (1 : Int64)))) ^^^ (((q2.toUInt64 >>> ((3 : Int32) &&& 0x3f).toInt64.toUInt64).toInt64) &&& (1 : Int64)))) ^^^ (((q2.toUInt64 >>> ((4 : Int32) &&& 0x3f).toInt64.toUInt64).toInt64) &&& (1 : Int64)))) ^^^ (((q2.toUInt64 >>> ((5 : Int32) &&& 0x3f).toInt64.toUInt64).toInt64) &&& (1 : Int64)))) ^^^ (((q2.toUInt64 >>> ((6 : Int32) &&& 0x3f).toInt64.toUInt64).toInt64) &&& (1 : Int64))))), .second] [(.long q3), (.long (((q2.toUInt64 >>> ((7 : Int32) &&& 0x3f).toInt64.toUInt64).toInt64) &&& (1 : Int64))), (.long (own_T q3 ((own_T q3 ((own_T q3 ((own_T q3 ((own_T q3 ((own_T q3 ((own_T q3 (q1 ^^^ (q2 &&& (1 : Int64)))) ^^^ (((q2.toUInt64 >>> ((1 : Int32) &&& 0x3f).toInt64.toUInt64).toInt64) &&& (1 : Int64)))) ^^^ (((q2.toUInt64 >>> ((2 : Int32) &&& 0x3f).toInt64.toUInt64).toInt64) &&& (1 : Int64)))) ^^^ (((q2.toUInt64 >>> ((3 : Int32) &&& 0x3f).toInt64.toUInt64).toInt64) &&& (1 : Int64)))) ^^^ (((q2.toUInt64 >>> ((4 : Int32) &&& 0x3f).toInt64.toUInt64).toInt64) &&& (1 : Int64)))) ^^^ (((q2.toUInt64 >>> ((5 : Int32) &&& 0x3f).toInt64.toUInt64).toInt64) &&& (1 : Int64)))) ^^^ (((q2.toUInt64 >>> ((6 : Int32) &&& 0x3f).toInt64.toUInt64).toInt64) &&& (1 : Int64)))))]))) (fun t kS => ?_) ?_
  · show Steps p.tables e below (T8.setTop (mkF m 98 #[.val (.long q1), .second, .val (.long q2), .second, .val (.long q3), .second, .val (.long (own_T q3 ((own_T q3 ((own_T q3 ((own_T q3 ((own_T q3 ((own_T q3 (q1 ^^^ (q2 &&& (1 : Int64)))) ^^^ (((q2.toUInt64 >>> ((1 : Int32) &&& 0x3f).toInt64.toUInt64).toInt64) &&& (1 : Int64)))) ^^^ (((q2.toUInt64 >>> ((2 : Int32) &&& 0x3f).toInt64.toUInt64).toInt64) &&& (1 : Int64)))) ^^^ (((q2.toUInt64 >>> ((3 : Int32) &&& 0x3f).toInt64.toUInt64).toInt64) &&& (1 : Int64)))) ^^^ (((q2.toUInt64 >>> ((4 : Int32) &&& 0x3f).toInt64.toUInt64).toInt64) &&& (1 : Int64)))) ^^^ (((q2.toUInt64 >>> ((5 : Int32) &&& 0x3f).toInt64.toUInt64).toInt64) &&& (1 : Int64))))), .second] [(.long (own_T q3 ((own_T q3 ((own_T q3 ((own_T q3 ((own_T q3 ((own_T q3 ((own_T q3 (q1 ^^^ (q2 &&& (1 : Int64)))) ^^^ (((q2.toUInt64 >>> ((1 : Int32) &&& 0x3f).toInt64.toUInt64).toInt64) &&& (1 : Int64)))) ^^^ (((q2.toUInt64 >>> ((2 : Int32) &&& 0x3f).toInt64.toUInt64).toInt64) &&& (1 : Int64)))) ^^^ (((q2.toUInt64 >>> ((3 : Int32) &&& 0x3f).toInt64.toUInt64).toInt64) &&& (1 : Int64)))) ^^^ (((q2.toUInt64 >>> ((4 : Int32) &&& 0x3f).toInt64.toUInt64).toInt64) &&& (1 : Int64)))) ^^^ (((q2.toUInt64 >>> ((5 : Int32) &&& 0x3f).toInt64.toUInt64).toInt64) &&& (1 : Int64)))) ^^^ (((q2.toUInt64 >>> ((6 : Int32) &&& 0x3f).toInt64.toUInt64).toInt64) &&& (1 : Int64)))))])) _
    refine XS.lstore X8.here hx rfl (hb hby d14_98) rfl (l' := #[.val (.long q1), .second, .val (.long q2), .second, .val (.long q3), .second, .val (.long (own_T q3 ((own_T q3 ((own_T q3 ((own_T q3 ((own_T q3 ((own_T q3 ((own_T q3 (q1 ^^^ (q2 &&& (1 : Int64)))) ^^^ (((q2.toUInt64 >>> ((1 : Int32) &&& 0x3f).toInt64.toUInt64).toInt64) &&& (1 : Int64)))) ^^^ (((q2.toUInt64 >>> ((2 : Int32) &&& 0x3f).toInt64.toUInt64).toInt64) &&& (1 : Int64)))) ^^^ (((q2.toUInt64 >>> ((3 : Int32) &&& 0x3f).toInt64.toUInt64).toInt64) &&& (1 : Int64)))) ^^^ (((q2.toUInt64 >>> ((4 : Int32) &&& 0x3f).toInt64.toUInt64).toInt64) &&& (1 : Int64)))) ^^^ (((q2.toUInt64 >>> ((5 : Int32) &&& 0x3f).toInt64.toUInt64).toInt64) &&& (1 : Int64)))) ^^^ (((q2.toUInt64 >>> ((6 : Int32) &&& 0x3f).toInt64.toUInt64).toInt64) &&& (1 : Int64))))), .second]) rfl ?_
    show Steps p.tables e below (T8.setTop (mkF m 100 #[.val (.long q1), .second, .val (.long q2), .second, .val (.long q3), .second, .val (.long (own_T q3 ((own_T q3 ((own_T q3 ((own_T q3 ((own_T q3 ((own_T q3 ((own_T q3 (q1 ^^^ (q2 &&& (1 : Int64)))) ^^^ (((q2.toUInt64 >>> ((1 : Int32) &&& 0x3f).toInt64.toUInt64).toInt64) &&& (1 : Int64)))) ^^^ (((q2.toUInt64 >>> ((2 : Int32) &&& 0x3f).toInt64.toUInt64).toInt64) &&& (1 : Int64)))) ^^^ (((q2.toUInt64 >>> ((3 : Int32) &&& 0x3f).toInt64.toUInt64).toInt64) &&& (1 : Int64)))) ^^^ (((q2.toUInt64 >>> ((4 : Int32) &&& 0x3f).toInt64.toUInt64).toInt64) &&& (1 : Int64)))) ^^^ (((q2.toUInt64 >>> ((5 : Int32) &&& 0x3f).toInt64.toUInt64).toInt64) &&& (1 : Int64)))) ^^^ (((q2.toUInt64 >>> ((6 : Int32) &&& 0x3f).toInt64.toUInt64).toInt64) &&& (1 : Int64))))), .second] [])) _
    refine XS.lload X8.here hx rfl (hb hby d14_100) rfl ?_
    show Steps p.tables e below (T8.setTop (mkF m 102 #[.val (.long q1), .second, .val (.long q2), .second, .val (.long q3), .second, .val (.long (own_T q3 ((own_T q3 ((own_T q3 ((own_T q3 ((own_T q3 ((own_T q3 ((own_T q3 (q1 ^^^ (q2 &&& (1 : Int64)))) ^^^ (((q2.toUInt64 >>> ((1 : Int32) &&& 0x3f).toInt64.toUInt64).toInt64) &&& (1 : Int64)))) ^^^ (((q2.toUInt64 >>> ((2 : Int32) &&& 0x3f).toInt64.toUInt64).toInt64) &&& (1 : Int64)))) ^^^ (((q2.toUInt64 >>> ((3 : Int32) &&& 0x3f).toInt64.toUInt64).toInt64) &&& (1 : Int64)))) ^^^ (((q2.toUInt64 >>> ((4 : Int32) &&& 0x3f).toInt64.toUInt64).toInt64) &&& (1 : Int64)))) ^^^ (((q2.toUInt64 >>> ((5 : Int32) &&& 0x3f).toInt64.toUInt64).toInt64) &&& (1 : Int64)))) ^^^ (((q2.toUInt64 >>> ((6 : Int32) &&& 0x3f).toInt64.toUInt64).toInt64) &&& (1 : Int64))))), .second] [(.long (own_T q3 ((own_T q3 ((own_T q3 ((own_T q3 ((own_T q3 ((own_T q3 ((own_T q3 (q1 ^^^ (q2 &&& (1 : Int64)))) ^^^ (((q2.toUInt64 >>> ((1 : Int32) &&& 0x3f).toInt64.toUInt64).toInt64) &&& (1 : Int64)))) ^^^ (((q2.toUInt64 >>> ((2 : Int32) &&& 0x3f).toInt64.toUInt64).toInt64) &&& (1 : Int64)))) ^^^ (((q2.toUInt64 >>> ((3 : Int32) &&& 0x3f).toInt64.toUInt64).toInt64) &&& (1 : Int64)))) ^^^ (((q2.toUInt64 >>> ((4 : Int32) &&& 0x3f).toInt64.toUInt64).toInt64) &&& (1 : Int64)))) ^^^ (((q2.toUInt64 >>> ((5 : Int32) &&& 0x3f).toInt64.toUInt64).toInt64) &&& (1 : Int64)))) ^^^ (((q2.toUInt64 >>> ((6 : Int32) &&& 0x3f).toInt64.toUInt64).toInt64) &&& (1 : Int64)))))])) _
    refine XS.lloadN X8.here hx rfl (hb hby d14_102) rfl ?_
    show Steps p.tables e below (T8.setTop (mkF m 103 #[.val (.long q1), .second, .val (.long q2), .second, .val (.long q3), .second, .val (.long (own_T q3 ((own_T q3 ((own_T q3 ((own_T q3 ((own_T q3 ((own_T q3 ((own_T q3 (q1 ^^^ (q2 &&& (1 : Int64)))) ^^^ (((q2.toUInt64 >>> ((1 : Int32) &&& 0x3f).toInt64.toUInt64).toInt64) &&& (1 : Int64)))) ^^^ (((q2.toUInt64 >>> ((2 : Int32) &&& 0x3f).toInt64.toUInt64).toInt64) &&& (1 : Int64)))) ^^^ (((q2.toUInt64 >>> ((3 : Int32) &&& 0x3f).toInt64.toUInt64).toInt64) &&& (1 : Int64)))) ^^^ (((q2.toUInt64 >>> ((4 : Int32) &&& 0x3f).toInt64.toUInt64).toInt64) &&& (1 : Int64)))) ^^^ (((q2.toUInt64 >>> ((5 : Int32) &&& 0x3f).toInt64.toUInt64).toInt64) &&& (1 : Int64)))) ^^^ (((q2.toUInt64 >>> ((6 : Int32) &&& 0x3f).toInt64.toUInt64).toInt64) &&& (1 : Int64))))), .second] [(.long q2), (.long (own_T q3 ((own_T q3 ((own_T q3 ((own_T q3 ((own_T q3 ((own_T q3 ((own_T q3 (q1 ^^^ (q2 &&& (1 : Int64)))) ^^^ (((q2.toUInt64 >>> ((1 : Int32) &&& 0x3f).toInt64.toUInt64).toInt64) &&& (1 : Int64)))) ^^^ (((q2.toUInt64 >>> ((2 : Int32) &&& 0x3f).toInt64.toUInt64).toInt64) &&& (1 : Int64)))) ^^^ (((q2.toUInt64 >>> ((3 : Int32) &&& 0x3f).toInt64.toUInt64).toInt64) &&& (1 : Int64)))) ^^^ (((q2.toUInt64 >>> ((4 : Int32) &&& 0x3f).toInt64.toUInt64).toInt64) &&& (1 : Int64)))) ^^^ (((q2.toUInt64 >>> ((5 : Int32) &&& 0x3f).toInt64.toUInt64).toInt64) &&& (1 : Int64)))) ^^^ (((q2.toUInt64 >>> ((6 : Int32) &&& 0x3f).toInt64.toUInt64).toInt64) &&& (1 : Int64)))))])) _
    refine XS.bipush X8.here hx rfl (hb hby d14_103) ?_
    show Steps p.tables e below (T8.setTop (mkF m 105 #[.val (.long q1), .second, .val (.long q2), .second, .val (.long q3), .second, .val (.long (own_T q3 ((own_T q3 ((own_T q3 ((own_T q3 ((own_T q3 ((own_T q3 ((own_T q3 (q1 ^^^ (q2 &&& (1 : Int64)))) ^^^ (((q2.toUInt64 >>> ((1 : Int32) &&& 0x3f).toInt64.toUInt64).toInt64) &&& (1 : Int64)))) ^^^ (((q2.toUInt64 >>> ((2 : Int32) &&& 0x3f).toInt64.toUInt64).toInt64) &&& (1 : Int64)))) ^^^ (((q2.toUInt64 >>> ((3 : Int32) &&& 0x3f).toInt64.toUInt64).toInt64) &&& (1 : Int64)))) ^^^ (((q2.toUInt64 >>> ((4 : Int32) &&& 0x3f).toInt64.toUInt64).toInt64) &&& (1 : Int64)))) ^^^ (((q2.toUInt64 >>> ((5 : Int32) &&& 0x3f).toInt64.toUInt64).toInt64) &&& (1 : Int64)))) ^^^ (((q2.toUInt64 >>> ((6 : Int32) &&& 0x3f).toInt64.toUInt64).toInt64) &&& (1 : Int64))))), .second] [(.int (7 : Int32)), (.long q2), (.long (own_T q3 ((own_T q3 ((own_T q3 ((own_T q3 ((own_T q3 ((own_T q3 ((own_T q3 (q1 ^^^ (q2 &&& (1 : Int64)))) ^^^ (((q2.toUInt64 >>> ((1 : Int32) &&& 0x3f).toInt64.toUInt64).toInt64) &&& (1 : Int64)))) ^^^ (((q2.toUInt64 >>> ((2 : Int32) &&& 0x3f).toInt64.toUInt64).toInt64) &&& (1 : Int64)))) ^^^ (((q2.toUInt64 >>> ((3 : Int32) &&& 0x3f).toInt64.toUInt64).toInt64) &&& (1 : Int64)))) ^^^ (((q2.toUInt64 >>> ((4 : Int32) &&& 0x3f).toInt64.toUInt64).toInt64) &&& (1 : Int64)))) ^^^ (((q2.toUInt64 >>> ((5 : Int32) &&& 0x3f).toInt64.toUInt64).toInt64) &&& (1 : Int64)))) ^^^ (((q2.toUInt64 >>> ((6 : Int32) &&& 0x3f).toInt64.toUInt64).toInt64) &&& (1 : Int64)))))])) _
    refine XS.lushr X8.here hx rfl (hb hby d14_105) rfl ?_
    show Steps p.tables e below (T8.setTop (mkF m 106 #[.val (.long q1), .second, .val (.long q2), .second, .val (.long q3), .second, .val (.long (own_T q3 ((own_T q3 ((own_T q3 ((own_T q3 ((own_T q3 ((own_T q3 ((own_T q3 (q1 ^^^ (q2 &&& (1 : Int64)))) ^^^ (((q2.toUInt64 >>> ((1 : Int32) &&& 0x3f).toInt64.toUInt64).toInt64) &&& (1 : Int64)))) ^^^ (((q2.toUInt64 >>> ((2 : Int32) &&& 0x3f).toInt64.toUInt64).toInt64) &&& (1 : Int64)))) ^^^ (((q2.toUInt64 >>> ((3 : Int32) &&& 0x3f).toInt64.toUInt64).toInt64) &&& (1 : Int64)))) ^^^ (((q2.toUInt64 >>> ((4 : Int32) &&& 0x3f).toInt64.toUInt64).toInt64) &&& (1 : Int64)))) ^^^ (((q2.toUInt64 >>> ((5 : Int32) &&& 0x3f).toInt64.toUInt64).toInt64) &&& (1 : Int64)))) ^^^ (((q2.toUInt64 >>> ((6 : Int32) &&& 0x3f).toInt64.toUInt64).toInt64) &&& (1 : Int64))))), .second] [(.long ((q2.toUInt64 >>> ((7 : Int32) &&& 0x3f).toInt64.toUInt64).toInt64)), (.long (own_T q3 ((own_T q3 ((own_T q3 ((own_T q3 ((own_T q3 ((own_T q3 ((own_T q3 (q1 ^^^ (q2 &&& (1 : Int64)))) ^^^ (((q2.toUInt64 >>> ((1 : Int32) &&& 0x3f).toInt64.toUInt64).toInt64) &&& (1 : Int64)))) ^^^ (((q2.toUInt64 >>> ((2 : Int32) &&& 0x3f).toInt64.toUInt64).toInt64) &&& (1 : Int64)))) ^^^ (((q2.toUInt64 >>> ((3 : Int32) &&& 0x3f).toInt64.toUInt64).toInt64) &&& (1 : Int64)))) ^^^ (((q2.toUInt64 >>> ((4 : Int32) &&& 0x3f).toInt64.toUInt64).toInt64) &&& (1 : Int64)))) ^^^ (((q2.toUInt64 >>> ((5 : Int32) &&& 0x3f).toInt64.toUInt64).toInt64) &&& (1 : Int64)))) ^^^ (((q2.toUInt64 >>> ((6 : Int32) &&& 0x3f).toInt64.toUInt64).toInt64) &&& (1 : Int64)))))])) _
    refine XS.lconst X8.here hx rfl (hb hby d14_106) ?_
    show Steps p.tables e below (T8.setTop (mkF m 107 #[.val (.long q1), .second, .val (.long q2), .second, .val (.long q3), .second, .val (.long (own_T q3 ((own_T q3 ((own_T q3 ((own_T q3 ((own_T q3 ((own_T q3 ((own_T q3 (q1 ^^^ (q2 &&& (1 : Int64)))) ^^^ (((q2.toUInt64 >>> ((1 : Int32) &&& 0x3f).toInt64.toUInt64).toInt64) &&& (1 : Int64)))) ^^^ (((q2.toUInt64 >>> ((2 : Int32) &&& 0x3f).toInt64.toUInt64).toInt64) &&& (1 : Int64)))) ^^^ (((q2.toUInt64 >>> ((3 : Int32) &&& 0x3f).toInt64.toUInt64).toInt64) &&& (1 : Int64)))) ^^^ (((q2.toUInt64 >>> ((4 : Int32) &&& 0x3f).toInt64.toUInt64).toInt64) &&& (1 : Int64)))) ^^^ (((q2.toUInt64 >>> ((5 : Int32) &&& 0x3f).toInt64.toUInt64).toInt64) &&& (1 : Int64)))) ^^^ (((q2.toUInt64 >>> ((6 : Int32) &&& 0x3f).toInt64.toUInt64).toInt64) &&& (1 : Int64))))), .second] [(.long (1 : Int64)), (.long ((q2.toUInt64 >>> ((7 : Int32) &&& 0x3f).toInt64.toUInt64).toInt64)), (.long (own_T q3 ((own_T q3 ((own_T q3 ((own_T q3 ((own_T q3 ((own_T q3 ((own_T q3 (q1 ^^^ (q2 &&& (1 : Int64)))) ^^^ (((q2.toUInt64 >>> ((1 : Int32) &&& 0x3f).toInt64.toUInt64).toInt64) &&& (1 : Int64)))) ^^^ (((q2.toUInt64 >>> ((2 : Int32) &&& 0x3f).toInt64.toUInt64).toInt64) &&& (1 : Int64)))) ^^^ (((q2.toUInt64 >>> ((3 : Int32) &&& 0x3f).toInt64.toUInt64).toInt64) &&& (1 : Int64)))) ^^^ (((q2.toUInt64 >>> ((4 : Int32) &&& 0x3f).toInt64.toUInt64).toInt64) &&& (1 : Int64)))) ^^^ (((q2.toUInt64 >>> ((5 : Int32) &&& 0x3f).toInt64.toUInt64).toInt64) &&& (1 : Int64)))) ^^^ (((q2.toUInt64 >>> ((6 : Int32) &&& 0x3f).toInt64.toUInt64).toInt64) &&& (1 : Int64)))))])) _
    refine XS.land X8.here hx rfl (hb hby d14_107) rfl ?_
    show Steps p.tables e below (T8.setTop (mkF m 108 #[.val (.long q1), .second, .val (.long q2), .second, .val (.long q3), .second, .val (.long (own_T q3 ((own_T q3 ((own_T q3 ((own_T q3 ((own_T q3 ((own_T q3 ((own_T q3 (q1 ^^^ (q2 &&& (1 : Int64)))) ^^^ (((q2.toUInt64 >>> ((1 : Int32) &&& 0x3f).toInt64.toUInt64).toInt64) &&& (1 : Int64)))) ^^^ (((q2.toUInt64 >>> ((2 : Int32) &&& 0x3f).toInt64.toUInt64).toInt64) &&& (1 : Int64)))) ^^^ (((q2.toUInt64 >>> ((3 : Int32) &&& 0x3f).toInt64.toUInt64).toInt64) &&& (1 : Int64)))) ^^^ (((q2.toUInt64 >>> ((4 : Int32) &&& 0x3f).toInt64.toUInt64).toInt64) &&& (1 : Int64)))) ^^^ (((q2.toUInt64 >>> ((5 : Int32) &&& 0x3f).toInt64.toUInt64).toInt64) &&& (1 : Int64)))) ^^^ (((q2.toUInt64 >>> ((6 : Int32) &&& 0x3f).toInt64.toUInt64).toInt64) &&& (1 : Int64))))), .second] [(.long (((q2.toUInt64 >>> ((7 : Int32) &&& 0x3f).toInt64.toUInt64).toInt64) &&& (1 : Int64))), (.long (own_T q3 ((own_T q3 ((own_T q3 ((own_T q3 ((own_T q3 ((own_T q3 ((own_T q3 (q1 ^^^ (q2 &&& (1 : Int64)))) ^^^ (((q2.toUInt64 >>> ((1 : Int32) &&& 0x3f).toInt64.toUInt64).toInt64) &&& (1 : Int64)))) ^^^ (((q2.toUInt64 >>> ((2 : Int32) &&& 0x3f).toInt64.toUInt64).toInt64) &&& (1 : Int64)))) ^^^ (((q2.toUInt64 >>> ((3 : Int32) &&& 0x3f).toInt64.toUInt64).toInt64) &&& (1 : Int64)))) ^^^ (((q2.toUInt64 >>> ((4 : Int32) &&& 0x3f).toInt64.toUInt64).toInt64) &&& (1 : Int64)))) ^^^ (((q2.toUInt64 >>> ((5 : Int32) &&& 0x3f).toInt64.toUInt64).toInt64) &&& (1 : Int64)))) ^^^ (((q2.toUInt64 >>> ((6 : Int32) &&& 0x3f).toInt64.toUInt64).toInt64) &&& (1 : Int64)))))])) _
    refine XS.lload X8.here hx rfl (hb hby d14_108) rfl ?_
    exact kS
  obtain ⟨_, _, ⟨T9, L9, k9, n9⟩, -, X9, ⟨Lc9, hQ9, l9, y9, z9⟩, st9⟩ := Jvm.LawKit.callS X8 hx (y := (⟨"com/example/latchkey/latchkey/server/gateway/CrcCombinationCombinePinLaw", "bit", "(JJJ)J"⟩ : MethodName)) hown (mvT hZ (hw _ (List.mem_of_getElem? (i := 68) rfl))) (mvT hZ (hw _ (List.mem_of_getElem? (i := 69) rfl))) (mvT hZ (hw _ (List.mem_of_getElem? (i := 2) rfl))) (mvT hZ (hw _ (List.mem_of_getElem? (i := 70) rfl))) (by decide) (backOf (W := 0) (rm15 l Z a0 hw [] (own_T q3 ((own_T q3 ((own_T q3 ((own_T q3 ((own_T q3 ((own_T q3 ((own_T q3 (q1 ^^^ (q2 &&& (1 : Int64)))) ^^^ (((q2.toUInt64 >>> ((1 : Int32) &&& 0x3f).toInt64.toUInt64).toInt64) &&& (1 : Int64)))) ^^^ (((q2.toUInt64 >>> ((2 : Int32) &&& 0x3f).toInt64.toUInt64).toInt64) &&& (1 : Int64)))) ^^^ (((q2.toUInt64 >>> ((3 : Int32) &&& 0x3f).toInt64.toUInt64).toInt64) &&& (1 : Int64)))) ^^^ (((q2.toUInt64 >>> ((4 : Int32) &&& 0x3f).toInt64.toUInt64).toInt64) &&& (1 : Int64)))) ^^^ (((q2.toUInt64 >>> ((5 : Int32) &&& 0x3f).toInt64.toUInt64).toInt64) &&& (1 : Int64)))) ^^^ (((q2.toUInt64 >>> ((6 : Int32) &&& 0x3f).toInt64.toUInt64).toInt64) &&& (1 : Int64)))) (((q2.toUInt64 >>> ((7 : Int32) &&& 0x3f).toInt64.toUInt64).toInt64) &&& (1 : Int64)) q3 h0 n0 Z0) hZ (hw _ (List.mem_of_getElem? (i := 70) rfl)) (hw _ (List.mem_of_getElem? (i := 2) rfl)) (by decide) (by decide)) (g := (mkF m 110 #[.val (.long q1), .second, .val (.long q2), .second, .val (.long q3), .second, .val (.long (own_T q3 ((own_T q3 ((own_T q3 ((own_T q3 ((own_T q3 ((own_T q3 ((own_T q3 (q1 ^^^ (q2 &&& (1 : Int64)))) ^^^ (((q2.toUInt64 >>> ((1 : Int32) &&& 0x3f).toInt64.toUInt64).toInt64) &&& (1 : Int64)))) ^^^ (((q2.toUInt64 >>> ((2 : Int32) &&& 0x3f).toInt64.toUInt64).toInt64) &&& (1 : Int64)))) ^^^ (((q2.toUInt64 >>> ((3 : Int32) &&& 0x3f).toInt64.toUInt64).toInt64) &&& (1 : Int64)))) ^^^ (((q2.toUInt64 >>> ((4 : Int32) &&& 0x3f).toInt64.toUInt64).toInt64) &&& (1 : Int64)))) ^^^ (((q2.toUInt64 >>> ((5 : Int32) &&& 0x3f).toInt64.toUInt64).toInt64) &&& (1 : Int64)))) ^^^ (((q2.toUInt64 >>> ((6 : Int32) &&& 0x3f).toInt64.toUInt64).toInt64) &&& (1 : Int64))))), .second] [(.long q3), (.long (((q2.toUInt64 >>> ((7 : Int32) &&& 0x3f).toInt64.toUInt64).toInt64) &&& (1 : Int64))), (.long (own_T q3 ((own_T q3 ((own_T q3 ((own_T q3 ((own_T q3 ((own_T q3 ((own_T q3 (q1 ^^^ (q2 &&& (1 : Int64)))) ^^^ (((q2.toUInt64 >>> ((1 : Int32) &&& 0x3f).toInt64.toUInt64).toInt64) &&& (1 : Int64)))) ^^^ (((q2.toUInt64 >>> ((2 : Int32) &&& 0x3f).toInt64.toUInt64).toInt64) &&& (1 : Int64)))) ^^^ (((q2.toUInt64 >>> ((3 : Int32) &&& 0x3f).toInt64.toUInt64).toInt64) &&& (1 : Int64)))) ^^^ (((q2.toUInt64 >>> ((4 : Int32) &&& 0x3f).toInt64.toUInt64).toInt64) &&& (1 : Int64)))) ^^^ (((q2.toUInt64 >>> ((5 : Int32) &&& 0x3f).toInt64.toUInt64).toInt64) &&& (1 : Int64)))) ^^^ (((q2.toUInt64 >>> ((6 : Int32) &&& 0x3f).toInt64.toUInt64).toInt64) &&& (1 : Int64)))))])) rfl (by rw [hml]; rfl) (argsL := [(.long (own_T q3 ((own_T q3 ((own_T q3 ((own_T q3 ((own_T q3 ((own_T q3 ((own_T q3 (q1 ^^^ (q2 &&& (1 : Int64)))) ^^^ (((q2.toUInt64 >>> ((1 : Int32) &&& 0x3f).toInt64.toUInt64).toInt64) &&& (1 : Int64)))) ^^^ (((q2.toUInt64 >>> ((2 : Int32) &&& 0x3f).toInt64.toUInt64).toInt64) &&& (1 : Int64)))) ^^^ (((q2.toUInt64 >>> ((3 : Int32) &&& 0x3f).toInt64.toUInt64).toInt64) &&& (1 : Int64)))) ^^^ (((q2.toUInt64 >>> ((4 : Int32) &&& 0x3f).toInt64.toUInt64).toInt64) &&& (1 : Int64)))) ^^^ (((q2.toUInt64 >>> ((5 : Int32) &&& 0x3f).toInt64.toUInt64).toInt64) &&& (1 : Int64)))) ^^^ (((q2.toUInt64 >>> ((6 : Int32) &&& 0x3f).toInt64.toUInt64).toInt64) &&& (1 : Int64))))), (.long (((q2.toUInt64 >>> ((7 : Int32) &&& 0x3f).toInt64.toUInt64).toInt64) &&& (1 : Int64))), (.long q3)]) (rest := []) (lenOf pd_0 rfl) rfl (by show 2 * 0 + _ ≤ _; exact Nat.le_of_eq rfl) (hb hby d14_110) (fun _ _ => ⟨rfl, hH8, (by decide : 0 + 0 ≤ _), (by decide : 0 + 0 ≤ _)⟩)
  dsimp only [Pt.U, Pt.locs, Pt.cells, Pt.slots] at X9 l9 y9 z9 st9 hQ9
  subst l9 y9 z9
  obtain ⟨rfl, N9q, hH9⟩ := hQ9
  have N9 := Fr.app N8 N9q
  obtain ⟨lo9, X9, N9⟩ := own_pack X9 N9
  replace X9 : Stand p l e _ s m _ below meth c T9 _ 0 0 := X9
  refine own_adv (B := (T9.setTop (mkF m 113 #[.val (.long q1), .second, .val (.long q2), .second, .val (.long q3), .second, .val (.long (own_T q3 ((own_T q3 ((own_T q3 ((own_T q3 ((own_T q3 ((own_T q3 ((own_T q3 (q1 ^^^ (q2 &&& (1 : Int64)))) ^^^ (((q2.toUInt64 >>> ((1 : Int32) &&& 0x3f).toInt64.toUInt64).toInt64) &&& (1 : Int64)))) ^^^ (((q2.toUInt64 >>> ((2 : Int32) &&& 0x3f).toInt64.toUInt64).toInt64) &&& (1 : Int64)))) ^^^ (((q2.toUInt64 >>> ((3 : Int32) &&& 0x3f).toInt64.toUInt64).toInt64) &&& (1 : Int64)))) ^^^ (((q2.toUInt64 >>> ((4 : Int32) &&& 0x3f).toInt64.toUInt64).toInt64) &&& (1 : Int64)))) ^^^ (((q2.toUInt64 >>> ((5 : Int32) &&& 0x3f).toInt64.toUInt64).toInt64) &&& (1 : Int64)))) ^^^ (((q2.toUInt64 >>> ((6 : Int32) &&& 0x3f).toInt64.toUInt64).toInt64) &&& (1 : Int64))))), .second] [(.long (own_T q3 ((own_T q3 ((own_T q3 ((own_T q3 ((own_T q3 ((own_T q3 ((own_T q3 ((own_T q3 (q1 ^^^ (q2 &&& (1 : Int64)))) ^^^ (((q2.toUInt64 >>> ((1 : Int32) &&& 0x3f).toInt64.toUInt64).toInt64) &&& (1 : Int64)))) ^^^ (((q2.toUInt64 >>> ((2 : Int32) &&& 0x3f).toInt64.toUInt64).toInt64) &&& (1 : Int64)))) ^^^ (((q2.toUInt64 >>> ((3 : Int32) &&& 0x3f).toInt64.toUInt64).toInt64) &&& (1 : Int64)))) ^^^ (((q2.toUInt64 >>> ((4 : Int32) &&& 0x3f).toInt64.toUInt64).toInt64) &&& (1 : Int64)))) ^^^ (((q2.toUInt64 >>> ((5 : Int32) &&& 0x3f).toInt64.toUInt64).toInt64) &&& (1 : Int64)))) ^^^ (((q2.toUInt64 >>> ((6 : Int32) &&& 0x3f).toInt64.toUInt64).toInt64) &&& (1 : Int64)))) ^^^ (((q2.toUInt64 >>> ((7 : Int32) &&& 0x3f).toInt64.toUInt64).toInt64) &&& (1 : Int64)))))]))) (fun t kS => st9 t kS) ?_
  refine own_adv (B := (T9.setTop (mkF m 117 #[.val (.long q1), .second, .val (.long q2), .second, .val (.long q3), .second, .val (.long (own_T q3 ((own_T q3 ((own_T q3 ((own_T q3 ((own_T q3 ((own_T q3 ((own_T q3 ((own_T q3 (q1 ^^^ (q2 &&& (1 : Int64)))) ^^^ (((q2.toUInt64 >>> ((1 : Int32) &&& 0x3f).toInt64.toUInt64).toInt64) &&& (1 : Int64)))) ^^^ (((q2.toUInt64 >>> ((2 : Int32) &&& 0x3f).toInt64.toUInt64).toInt64) &&& (1 : Int64)))) ^^^ (((q2.toUInt64 >>> ((3 : Int32) &&& 0x3f).toInt64.toUInt64).toInt64) &&& (1 : Int64)))) ^^^ (((q2.toUInt64 >>> ((4 : Int32) &&& 0x3f).toInt64.toUInt64).toInt64) &&& (1 : Int64)))) ^^^ (((q2.toUInt64 >>> ((5 : Int32) &&& 0x3f).toInt64.toUInt64).toInt64) &&& (1 : Int64)))) ^^^ (((q2.toUInt64 >>> ((6 : Int32) &&& 0x3f).toInt64.toUInt64).toInt64) &&& (1 : Int64)))) ^^^ (((q2.toUInt64 >>> ((7 : Int32) &&& 0x3f).toInt64.toUInt64).toInt64) &&& (1 : Int64))))), .second] [(.long (own_T q3 ((own_T q3 ((own_T q3 ((own_T q3 ((own_T q3 ((own_T q3 ((own_T q3 ((own_T q3 (q1 ^^^ (q2 &&& (1 : Int64)))) ^^^ (((q2.toUInt64 >>> ((1 : Int32) &&& 0x3f).toInt64.toUInt64).toInt64) &&& (1 : Int64)))) ^^^ (((q2.toUInt64 >>> ((2 : Int32) &&& 0x3f).toInt64.toUInt64).toInt64) &&& (1 : Int64)))) ^^^ (((q2.toUInt64 >>> ((3 : Int32) &&& 0x3f).toInt64.toUInt64).toInt64) &&& (1 : Int64)))) ^^^ (((q2.toUInt64 >>> ((4 : Int32) &&& 0x3f).toInt64.toUInt64).toInt64) &&& (1 : Int64)))) ^^^ (((q2.toUInt64 >>> ((5 : Int32) &&& 0x3f).toInt64.toUInt64).toInt64) &&& (1 : Int64)))) ^^^ (((q2.toUInt64 >>> ((6 : Int32) &&& 0x3f).toInt64.toUInt64).toInt64) &&& (1 : Int64)))) ^^^ (((q2.toUInt64 >>> ((7 : Int32) &&& 0x3f).toInt64.toUInt64).toInt64) &&& (1 : Int64)))))]))) (fun t kS => ?_) ?_
  · show Steps p.tables e below (T9.setTop (mkF m 113 #[.val (.long q1), .second, .val (.long q2), .second, .val (.long q3), .second, .val (.long (own_T q3 ((own_T q3 ((own_T q3 ((own_T q3 ((own_T q3 ((own_T q3 ((own_T q3 (q1 ^^^ (q2 &&& (1 : Int64)))) ^^^ (((q2.toUInt64 >>> ((1 : Int32) &&& 0x3f).toInt64.toUInt64).toInt64) &&& (1 : Int64)))) ^^^ (((q2.toUInt64 >>> ((2 : Int32) &&& 0x3f).toInt64.toUInt64).toInt64) &&& (1 : Int64)))) ^^^ (((q2.toUInt64 >>> ((3 : Int32) &&& 0x3f).toInt64.toUInt64).toInt64) &&& (1 : Int64)))) ^^^ (((q2.toUInt64 >>> ((4 : Int32) &&& 0x3f).toInt64.toUInt64).toInt64) &&& (1 : Int64)))) ^^^ (((q2.toUInt64 >>> ((5 : Int32) &&& 0x3f).toInt64.toUInt64).toInt64) &&& (1 : Int64)))) ^^^ (((q2.toUInt64 >>> ((6 : Int32) &&& 0x3f).toInt64.toUInt64).toInt64) &&& (1 : Int64))))), .second] [(.long (own_T q3 ((own_T q3 ((own_T q3 ((own_T q3 ((own_T q3 ((own_T q3 ((own_T q3 ((own_T q3 (q1 ^^^ (q2 &&& (1 : Int64)))) ^^^ (((q2.toUInt64 >>> ((1 : Int32) &&& 0x3f).toInt64.toUInt64).toInt64) &&& (1 : Int64)))) ^^^ (((q2.toUInt64 >>> ((2 : Int32) &&& 0x3f).toInt64.toUInt64).toInt64) &&& (1 : Int64)))) ^^^ (((q2.toUInt64 >>> ((3 : Int32) &&& 0x3f).toInt64.toUInt64).toInt64) &&& (1 : Int64)))) ^^^ (((q2.toUInt64 >>> ((4 : Int32) &&& 0x3f).toInt64.toUInt64).toInt64) &&& (1 : Int64)))) ^^^ (((q2.toUInt64 >>> ((5 : Int32) &&& 0x3f).toInt64.toUInt64).toInt64) &&& (1 : Int64)))) ^^^ (((q2.toUInt64 >>> ((6 : Int32) &&& 0x3f).toInt64.toUInt64).toInt64) &&& (1 : Int64)))) ^^^ (((q2.toUInt64 >>> ((7 : Int32) &&& 0x3f).toInt64.toUInt64).toInt64) &&& (1 : Int64)))))])) _
    refine XS.lstore X9.here hx rfl (hb hby d14_113) rfl (l' := #[.val (.long q1), .second, .val (.long q2), .second, .val (.long q3), .second, .val (.long (own_T q3 ((own_T q3 ((own_T q3 ((own_T q3 ((own_T q3 ((own_T q3 ((own_T q3 ((own_T q3 (q1 ^^^ (q2 &&& (1 : Int64)))) ^^^ (((q2.toUInt64 >>> ((1 : Int32) &&& 0x3f).toInt64.toUInt64).toInt64) &&& (1 : Int64)))) ^^^ (((q2.toUInt64 >>> ((2 : Int32) &&& 0x3f).toInt64.toUInt64).toInt64) &&& (1 : Int64)))) ^^^ (((q2.toUInt64 >>> ((3 : Int32) &&& 0x3f).toInt64.toUInt64).toInt64) &&& (1 : Int64)))) ^^^ (((q2.toUInt64 >>> ((4 : Int32) &&& 0x3f).toInt64.toUInt64).toInt64) &&& (1 : Int64)))) ^^^ (((q2.toUInt64 >>> ((5 : Int32) &&& 0x3f).toInt64.toUInt64).toInt64) &&& (1 : Int64)))) ^^^ (((q2.toUInt64 >>> ((6 : Int32) &&& 0x3f).toInt64.toUInt64).toInt64) &&& (1 : Int64)))) ^^^ (((q2.toUInt64 >>> ((7 : Int32) &&& 0x3f).toInt64.toUInt64).toInt64) &&& (1 : Int64))))), .second]) rfl ?_
    show Steps p.tables e below (T9.setTop (mkF m 115 #[.val (.long q1), .second, .val (.long q2), .second, .val (.long q3), .second, .val (.long (own_T q3 ((own_T q3 ((own_T q3 ((own_T q3 ((own_T q3 ((own_T q3 ((own_T q3 ((own_T q3 (q1 ^^^ (q2 &&& (1 : Int64)))) ^^^ (((q2.toUInt64 >>> ((1 : Int32) &&& 0x3f).toInt64.toUInt64).toInt64) &&& (1 : Int64)))) ^^^ (((q2.toUInt64 >>> ((2 : Int32) &&& 0x3f).toInt64.toUInt64).toInt64) &&& (1 : Int64)))) ^^^ (((q2.toUInt64 >>> ((3 : Int32) &&& 0x3f).toInt64.toUInt64).toInt64) &&& (1 : Int64)))) ^^^ (((q2.toUInt64 >>> ((4 : Int32) &&& 0x3f).toInt64.toUInt64).toInt64) &&& (1 : Int64)))) ^^^ (((q2.toUInt64 >>> ((5 : Int32) &&& 0x3f).toInt64.toUInt64).toInt64) &&& (1 : Int64)))) ^^^ (((q2.toUInt64 >>> ((6 : Int32) &&& 0x3f).toInt64.toUInt64).toInt64) &&& (1 : Int64)))) ^^^ (((q2.toUInt64 >>> ((7 : Int32) &&& 0x3f).toInt64.toUInt64).toInt64) &&& (1 : Int64))))), .second] [])) _
    refine XS.lload X9.here hx rfl (hb hby d14_115) rfl ?_
    exact kS
  obtain ⟨fs, hr, hrun, hended, hW, hsame⟩ := X9.leave (v := some (.long (own_T q3 ((own_T q3 ((own_T q3 ((own_T q3 ((own_T q3 ((own_T q3 ((own_T q3 ((own_T q3 (q1 ^^^ (q2 &&& (1 : Int64)))) ^^^ (((q2.toUInt64 >>> ((1 : Int32) &&& 0x3f).toInt64.toUInt64).toInt64) &&& (1 : Int64)))) ^^^ (((q2.toUInt64 >>> ((2 : Int32) &&& 0x3f).toInt64.toUInt64).toInt64) &&& (1 : Int64)))) ^^^ (((q2.toUInt64 >>> ((3 : Int32) &&& 0x3f).toInt64.toUInt64).toInt64) &&& (1 : Int64)))) ^^^ (((q2.toUInt64 >>> ((4 : Int32) &&& 0x3f).toInt64.toUInt64).toInt64) &&& (1 : Int64)))) ^^^ (((q2.toUInt64 >>> ((5 : Int32) &&& 0x3f).toInt64.toUInt64).toInt64) &&& (1 : Int64)))) ^^^ (((q2.toUInt64 >>> ((6 : Int32) &&& 0x3f).toInt64.toUInt64).toInt64) &&& (1 : Int64)))) ^^^ (((q2.toUInt64 >>> ((7 : Int32) &&& 0x3f).toInt64.toUInt64).toInt64) &&& (1 : Int64)))))) (fun h => by rw [Bd.returns] at h; cases h)
  refine ⟨_, _, ?_, hrun, hended, _, _, rfl, ?_, ⟨_, rfl⟩, hW, hsame.mono (by decide) (by decide)⟩
  · show Steps p.tables e below (T9.setTop (mkF m 117 #[.val (.long q1), .second, .val (.long q2), .second, .val (.long q3), .second, .val (.long (own_T q3 ((own_T q3 ((own_T q3 ((own_T q3 ((own_T q3 ((own_T q3 ((own_T q3 ((own_T q3 (q1 ^^^ (q2 &&& (1 : Int64)))) ^^^ (((q2.toUInt64 >>> ((1 : Int32) &&& 0x3f).toInt64.toUInt64).toInt64) &&& (1 : Int64)))) ^^^ (((q2.toUInt64 >>> ((2 : Int32) &&& 0x3f).toInt64.toUInt64).toInt64) &&& (1 : Int64)))) ^^^ (((q2.toUInt64 >>> ((3 : Int32) &&& 0x3f).toInt64.toUInt64).toInt64) &&& (1 : Int64)))) ^^^ (((q2.toUInt64 >>> ((4 : Int32) &&& 0x3f).toInt64.toUInt64).toInt64) &&& (1 : Int64)))) ^^^ (((q2.toUInt64 >>> ((5 : Int32) &&& 0x3f).toInt64.toUInt64).toInt64) &&& (1 : Int64)))) ^^^ (((q2.toUInt64 >>> ((6 : Int32) &&& 0x3f).toInt64.toUInt64).toInt64) &&& (1 : Int64)))) ^^^ (((q2.toUInt64 >>> ((7 : Int32) &&& 0x3f).toInt64.toUInt64).toInt64) &&& (1 : Int64))))), .second] [(.long (own_T q3 ((own_T q3 ((own_T q3 ((own_T q3 ((own_T q3 ((own_T q3 ((own_T q3 ((own_T q3 (q1 ^^^ (q2 &&& (1 : Int64)))) ^^^ (((q2.toUInt64 >>> ((1 : Int32) &&& 0x3f).toInt64.toUInt64).toInt64) &&& (1 : Int64)))) ^^^ (((q2.toUInt64 >>> ((2 : Int32) &&& 0x3f).toInt64.toUInt64).toInt64) &&& (1 : Int64)))) ^^^ (((q2.toUInt64 >>> ((3 : Int32) &&& 0x3f).toInt64.toUInt64).toInt64) &&& (1 : Int64)))) ^^^ (((q2.toUInt64 >>> ((4 : Int32) &&& 0x3f).toInt64.toUInt64).toInt64) &&& (1 : Int64)))) ^^^ (((q2.toUInt64 >>> ((5 : Int32) &&& 0x3f).toInt64.toUInt64).toInt64) &&& (1 : Int64)))) ^^^ (((q2.toUInt64 >>> ((6 : Int32) &&& 0x3f).toInt64.toUInt64).toInt64) &&& (1 : Int64)))) ^^^ (((q2.toUInt64 >>> ((7 : Int32) &&& 0x3f).toInt64.toUInt64).toInt64) &&& (1 : Int64)))))])) _
    exact retOut X9 hx (t := .long) Bd.returns rfl (Or.inr (Or.inl ⟨rfl, rfl, _, rfl⟩)) (hb hby d14_117) hr
  · show Q14 Z q1 q2 q3 h0 n0 _ T9.heap _
    rw [hH9]
    exact ⟨rfl, N9, rfl⟩
theorem ef_8 (m : MethodId) (x0 : Int64) (x1 : Int32) (x2 : Int64) (x3 : Int64) : entryFrame m #[(.long x0), (.int x1), (.long x2), (.long x3)] 9 = mkF m 0 #[.val (.long x0), .second, .val (.int x1), .val (.long x2), .second, .val (.long x3), .second, .unset, .unset] [] := by first | (simp [entryFrame, mkF, argsToLocals, Value.category]; done) | rfl
def Q8 (Z : State) (q1 : Int64) (p2 : Int32) (q3 : Int64) (q4 : Int64) (h0 : Heap) (n0 : Nat) (v : Option Value) (h : Heap) (L : List Loc) : Prop := v = some (.long (own_crc q1 p2 q3 q4)) ∧ Fr n0 L ∧ h = h0
set_option maxRecDepth 65536 in
set_option maxHeartbeats 40000000 in
theorem rm8 (l : Launch) (Z : State) (a0 : Array Value) (hw : ∀ d ∈ tables_1, d.before a0 Z = true) (ws : List Jvm.Cond) (q1 : Int64) (p2 : Int32) (q3 : Int64) (q4 : Int64) (h0 : Heap) (n0 : Nat) (Z0 : n0 ≤ h0.size) :
    MetFree l (⟨"com/example/latchkey/latchkey/server/gateway/CrcCombinationCombinePinLaw", "crc", "(JIJJ)J"⟩ : MethodName) (head1 (Jvm.Cond.code (⟨"com/example/latchkey/latchkey/server/gateway/CrcCombinationCombinePinLaw", "crc", "(JIJJ)J"⟩ : MethodName) method_9_code 9 (some .long) :: ws) ({ frames := 2, cells := 0, slots := 0, locals := 38 } : Room)) (fun a U => a = #[(.long q1), (.int p2), (.long q3), (.long q4)] ∧ Z.Warmed39 U.vm ∧ U.heap = h0) (fun _ _ _ _ _ => True) (fun _ U o U' => ∃ v L, o = .returned v ∧ Q8 Z q1 p2 q3 q4 h0 n0 v U'.heap L ∧ FrameEnd U o U' L ({ frames := 2, cells := 0, slots := 0, locals := 38 } : Room).cells ({ frames := 2, cells := 0, slots := 0, locals := 38 } : Room).slots) := by
  refine MetFree.of_bodySF (plainFor_of_name pn_8) hisR ?_
  intro p e s m args below meth c s₁ Bd hml0 hP hK
  obtain ⟨rfl, hZ, hh⟩ := hP
  have hx := Bd.exec
  have hby := Bd.bytes
  have hml : c.maxLocals = 9 := hml0
  have hown : s.vm.findClass "com/example/latchkey/latchkey/server/gateway/CrcCombinationCombinePinLaw" = some m.cls := findClass_of_methodNamed Bd.named
  have hnm := (name_of_methodNamed Bd.named Bd.method).1
  have X0 : Stand p l e ({ frames := 2, cells := 0, slots := 0, locals := 38 } : Room) s m #[(.long q1), (.int p2), (.long q3), (.long q4)] below meth c s₁ [] 0 0 := Stand.of_body Bd
  have e0 : s₁.heap = h0 := by rw [← hh, Bd.state]; rfl
  have N0 := Fr.nil n0
  refine own_adv (B := (s₁.setTop (mkF m 0 #[.val (.long q1), .second, .val (.int p2), .val (.long q3), .second, .val (.long q4), .second, .unset, .unset] []))) (fun t k => castTop (ef_8 m q1 p2 q3 q4) k) ?_
  refine own_adv (B := (s₁.setTop (mkF m 5 #[.val (.long q1), .second, .val (.int p2), .val (.long q3), .second, .val (.long q4), .second, .val (.long q4), .second] [(.int p2)]))) (fun t kS => ?_) ?_
  · show Steps p.tables e below (s₁.setTop (mkF m 0 #[.val (.long q1), .second, .val (.int p2), .val (.long q3), .second, .val (.long q4), .second, .unset, .unset] [])) _
    refine XS.lload X0.here hx rfl (hb hby d8_0) rfl ?_
    show Steps p.tables e below (s₁.setTop (mkF m 2 #[.val (.long q1), .second, .val (.int p2), .val (.long q3), .second, .val (.long q4), .second, .unset, .unset] [(.long q4)])) _
    refine XS.lstore X0.here hx rfl (hb hby d8_2) rfl (l' := #[.val (.long q1), .second, .val (.int p2), .val (.long q3), .second, .val (.long q4), .second, .val (.long q4), .second]) rfl ?_
    show Steps p.tables e below (s₁.setTop (mkF m 4 #[.val (.long q1), .second, .val (.int p2), .val (.long q3), .second, .val (.long q4), .second, .val (.long q4), .second] [])) _
    refine XS.iloadN X0.here hx rfl (hb hby d8_4) rfl ?_
    exact kS
  by_cases hl0 : (0 : Int32) < p2
  · refine own_adv (B := (s₁.setTop (mkF m 16 #[.val (.long q1), .second, .val (.int p2), .val (.long q3), .second, .val (.long q4), .second, .val (.long q4), .second] [(.long q3), (.long (q1 &&& (255 : Int64))), (.long q4)]))) (fun t kS => ?_) ?_
    · show Steps p.tables e below (s₁.setTop (mkF m 5 #[.val (.long q1), .second, .val (.int p2), .val (.long q3), .second, .val (.long q4), .second, .val (.long q4), .second] [(.int p2)])) _
      refine XS.ifNo X0.here hx rfl (hb hby d8_5) rfl ((if0 _ _).trans (tlt hl0).2.2.2) ?_
      show Steps p.tables e below (s₁.setTop (mkF m 8 #[.val (.long q1), .second, .val (.int p2), .val (.long q3), .second, .val (.long q4), .second, .val (.long q4), .second] [])) _
      refine XS.lload X0.here hx rfl (hb hby d8_8) rfl ?_
      show Steps p.tables e below (s₁.setTop (mkF m 10 #[.val (.long q1), .second, .val (.int p2), .val (.long q3), .second, .val (.long q4), .second, .val (.long q4), .second] [(.long q4)])) _
      refine XS.lloadN X0.here hx rfl (hb hby d8_10) rfl ?_
      show Steps p.tables e below (s₁.setTop (mkF m 11 #[.val (.long q1), .second, .val (.int p2), .val (.long q3), .second, .val (.long q4), .second, .val (.long q4), .second] [(.long q1), (.long q4)])) _
      refine X0.ldc2Long hx hown (mvT hZ (hw _ (List.mem_of_getElem? (i := 64) rfl))) (g := (mkF m 11 #[.val (.long q1), .second, .val (.int p2), .val (.long q3), .second, .val (.long q4), .second, .val (.long q4), .second] [(.long q1), (.long q4)])) rfl (hb hby d8_11) _ ?_
      show Steps p.tables e below (s₁.setTop (mkF m 14 #[.val (.long q1), .second, .val (.int p2), .val (.long q3), .second, .val (.long q4), .second, .val (.long q4), .second] [(.long (255 : Int64)), (.long q1), (.long q4)])) _
      refine XS.land X0.here hx rfl (hb hby d8_14) rfl ?_
      show Steps p.tables e below (s₁.setTop (mkF m 15 #[.val (.long q1), .second, .val (.int p2), .val (.long q3), .second, .val (.long q4), .second, .val (.long q4), .second] [(.long (q1 &&& (255 : Int64))), (.long q4)])) _
      refine XS.lloadN X0.here hx rfl (hb hby d8_15) rfl ?_
      exact kS
    obtain ⟨_, _, ⟨T10, L10, k10, n10⟩, -, X10, ⟨Lc10, hQ10, l10, y10, z10⟩, st10⟩ := Jvm.LawKit.callS X0 hx (y := (⟨"com/example/latchkey/latchkey/server/gateway/CrcCombinationCombinePinLaw", "byteStep", "(JJJ)J"⟩ : MethodName)) hown (mvT hZ (hw _ (List.mem_of_getElem? (i := 65) rfl))) (mvT hZ (hw _ (List.mem_of_getElem? (i := 66) rfl))) (mvT hZ (hw _ (List.mem_of_getElem? (i := 2) rfl))) (mvT hZ (hw _ (List.mem_of_getElem? (i := 67) rfl))) (by decide) (backOf (W := 0) (rm14 l Z a0 hw [] q4 (q1 &&& (255 : Int64)) q3 h0 n0 Z0) hZ (hw _ (List.mem_of_getElem? (i := 67) rfl)) (hw _ (List.mem_of_getElem? (i := 2) rfl)) (by decide) (by decide)) (g := (mkF m 16 #[.val (.long q1), .second, .val (.int p2), .val (.long q3), .second, .val (.long q4), .second, .val (.long q4), .second] [(.long q3), (.long (q1 &&& (255 : Int64))), (.long q4)])) rfl (by rw [hml]; rfl) (argsL := [(.long q4), (.long (q1 &&& (255 : Int64))), (.long q3)]) (rest := []) (lenOf pd_0 rfl) rfl (by show 2 * 0 + _ ≤ _; exact Nat.le_of_eq rfl) (hb hby d8_16) (fun _ _ => ⟨rfl, e0, (by decide : 0 + 0 ≤ _), (by decide : 0 + 0 ≤ _)⟩)
    dsimp only [Pt.U, Pt.locs, Pt.cells, Pt.slots] at X10 l10 y10 z10 st10 hQ10
    subst l10 y10 z10
    obtain ⟨rfl, N10q, hH10⟩ := hQ10
    have N10 := Fr.app N0 N10q
    obtain ⟨lo10, X10, N10⟩ := own_pack X10 N10
    replace X10 : Stand p l e _ s m _ below meth c T10 _ 0 0 := X10
    refine own_adv (B := (T10.setTop (mkF m 19 #[.val (.long q1), .second, .val (.int p2), .val (.long q3), .second, .val (.long q4), .second, .val (.long q4), .second] [(.long (own_c1 q1 q3 q4))]))) (fun t kS => st10 t kS) ?_
    refine own_adv (B := (T10.setTop (mkF m 23 #[.val (.long q1), .second, .val (.int p2), .val (.long q3), .second, .val (.long q4), .second, .val (.long (own_c1 q1 q3 q4)), .second] [(.int (1 : Int32)), (.int p2)]))) (fun t kS => ?_) ?_
    · show Steps p.tables e below (T10.setTop (mkF m 19 #[.val (.long q1), .second, .val (.int p2), .val (.long q3), .second, .val (.long q4), .second, .val (.long q4), .second] [(.long (own_c1 q1 q3 q4))])) _
      refine XS.lstore X10.here hx rfl (hb hby d8_19) rfl (l' := #[.val (.long q1), .second, .val (.int p2), .val (.long q3), .second, .val (.long q4), .second, .val (.long (own_c1 q1 q3 q4)), .second]) rfl ?_
      show Steps p.tables e below (T10.setTop (mkF m 21 #[.val (.long q1), .second, .val (.int p2), .val (.long q3), .second, .val (.long q4), .second, .val (.long (own_c1 q1 q3 q4)), .second] [])) _
      refine XS.iloadN X10.here hx rfl (hb hby d8_21) rfl ?_
      show Steps p.tables e below (T10.setTop (mkF m 22 #[.val (.long q1), .second, .val (.int p2), .val (.long q3), .second, .val (.long q4), .second, .val (.long (own_c1 q1 q3 q4)), .second] [(.int p2)])) _
      refine XS.iconst X10.here hx rfl (hb hby d8_22) ?_
      exact kS
    by_cases hl1 : (1 : Int32) < p2
    · refine own_adv (B := (T10.setTop (mkF m 37 #[.val (.long q1), .second, .val (.int p2), .val (.long q3), .second, .val (.long q4), .second, .val (.long (own_c1 q1 q3 q4)), .second] [(.long q3), (.long (((q1.toUInt64 >>> ((8 : Int32) &&& 0x3f).toInt64.toUInt64).toInt64) &&& (255 : Int64))), (.long (own_c1 q1 q3 q4))]))) (fun t kS => ?_) ?_
      · show Steps p.tables e below (T10.setTop (mkF m 23 #[.val (.long q1), .second, .val (.int p2), .val (.long q3), .second, .val (.long q4), .second, .val (.long (own_c1 q1 q3 q4)), .second] [(.int (1 : Int32)), (.int p2)])) _
        refine XS.icmpNo X10.here hx rfl (hb hby d8_23) rfl (tlt hl1).2.2.2 ?_
        show Steps p.tables e below (T10.setTop (mkF m 26 #[.val (.long q1), .second, .val (.int p2), .val (.long q3), .second, .val (.long q4), .second, .val (.long (own_c1 q1 q3 q4)), .second] [])) _
        refine XS.lload X10.here hx rfl (hb hby d8_26) rfl ?_
        show Steps p.tables e below (T10.setTop (mkF m 28 #[.val (.long q1), .second, .val (.int p2), .val (.long q3), .second, .val (.long q4), .second, .val (.long (own_c1 q1 q3 q4)), .second] [(.long (own_c1 q1 q3 q4))])) _
        refine XS.lloadN X10.here hx rfl (hb hby d8_28) rfl ?_
        show Steps p.tables e below (T10.setTop (mkF m 29 #[.val (.long q1), .second, .val (.int p2), .val (.long q3), .second, .val (.long q4), .second, .val (.long (own_c1 q1 q3 q4)), .second] [(.long q1), (.long (own_c1 q1 q3 q4))])) _
        refine XS.bipush X10.here hx rfl (hb hby d8_29) ?_
        show Steps p.tables e below (T10.setTop (mkF m 31 #[.val (.long q1), .second, .val (.int p2), .val (.long q3), .second, .val (.long q4), .second, .val (.long (own_c1 q1 q3 q4)), .second] [(.int (8 : Int32)), (.long q1), (.long (own_c1 q1 q3 q4))])) _
        refine XS.lushr X10.here hx rfl (hb hby d8_31) rfl ?_
        show Steps p.tables e below (T10.setTop (mkF m 32 #[.val (.long q1), .second, .val (.int p2), .val (.long q3), .second, .val (.long q4), .second, .val (.long (own_c1 q1 q3 q4)), .second] [(.long ((q1.toUInt64 >>> ((8 : Int32) &&& 0x3f).toInt64.toUInt64).toInt64)), (.long (own_c1 q1 q3 q4))])) _
        refine X10.ldc2Long hx hown (mvT hZ (hw _ (List.mem_of_getElem? (i := 64) rfl))) (g := (mkF m 32 #[.val (.long q1), .second, .val (.int p2), .val (.long q3), .second, .val (.long q4), .second, .val (.long (own_c1 q1 q3 q4)), .second] [(.long ((q1.toUInt64 >>> ((8 : Int32) &&& 0x3f).toInt64.toUInt64).toInt64)), (.long (own_c1 q1 q3 q4))])) rfl (hb hby d8_32) _ ?_
        show Steps p.tables e below (T10.setTop (mkF m 35 #[.val (.long q1), .second, .val (.int p2), .val (.long q3), .second, .val (.long q4), .second, .val (.long (own_c1 q1 q3 q4)), .second] [(.long (255 : Int64)), (.long ((q1.toUInt64 >>> ((8 : Int32) &&& 0x3f).toInt64.toUInt64).toInt64)), (.long (own_c1 q1 q3 q4))])) _
        refine XS.land X10.here hx rfl (hb hby d8_35) rfl ?_
        show Steps p.tables e below (T10.setTop (mkF m 36 #[.val (.long q1), .second, .val (.int p2), .val (.long q3), .second, .val (.long q4), .second, .val (.long (own_c1 q1 q3 q4)), .second] [(.long (((q1.toUInt64 >>> ((8 : Int32) &&& 0x3f).toInt64.toUInt64).toInt64) &&& (255 : Int64))), (.long (own_c1 q1 q3 q4))])) _
        refine XS.lloadN X10.here hx rfl (hb hby d8_36) rfl ?_
        exact kS
      obtain ⟨_, _, ⟨T11, L11, k11, n11⟩, -, X11, ⟨Lc11, hQ11, l11, y11, z11⟩, st11⟩ := Jvm.LawKit.callS X10 hx (y := (⟨"com/example/latchkey/latchkey/server/gateway/CrcCombinationCombinePinLaw", "byteStep", "(JJJ)J"⟩ : MethodName)) hown (mvT hZ (hw _ (List.mem_of_getElem? (i := 65) rfl))) (mvT hZ (hw _ (List.mem_of_getElem? (i := 66) rfl))) (mvT hZ (hw _ (List.mem_of_getElem? (i := 2) rfl))) (mvT hZ (hw _ (List.mem_of_getElem? (i := 67) rfl))) (by decide) (backOf (W := 0) (rm14 l Z a0 hw [] (own_c1 q1 q3 q4) (((q1.toUInt64 >>> ((8 : Int32) &&& 0x3f).toInt64.toUInt64).toInt64) &&& (255 : Int64)) q3 h0 n0 Z0) hZ (hw _ (List.mem_of_getElem? (i := 67) rfl)) (hw _ (List.mem_of_getElem? (i := 2) rfl)) (by decide) (by decide)) (g := (mkF m 37 #[.val (.long q1), .second, .val (.int p2), .val (.long q3), .second, .val (.long q4), .second, .val (.long (own_c1 q1 q3 q4)), .second] [(.long q3), (.long (((q1.toUInt64 >>> ((8 : Int32) &&& 0x3f).toInt64.toUInt64).toInt64) &&& (255 : Int64))), (.long (own_c1 q1 q3 q4))])) rfl (by rw [hml]; rfl) (argsL := [(.long (own_c1 q1 q3 q4)), (.long (((q1.toUInt64 >>> ((8 : Int32) &&& 0x3f).toInt64.toUInt64).toInt64) &&& (255 : Int64))), (.long q3)]) (rest := []) (lenOf pd_0 rfl) rfl (by show 2 * 0 + _ ≤ _; exact Nat.le_of_eq rfl) (hb hby d8_37) (fun _ _ => ⟨rfl, hH10, (by decide : 0 + 0 ≤ _), (by decide : 0 + 0 ≤ _)⟩)
      dsimp only [Pt.U, Pt.locs, Pt.cells, Pt.slots] at X11 l11 y11 z11 st11 hQ11
      subst l11 y11 z11
      obtain ⟨rfl, N11q, hH11⟩ := hQ11
      have N11 := Fr.app N10 N11q
      obtain ⟨lo11, X11, N11⟩ := own_pack X11 N11
      replace X11 : Stand p l e _ s m _ below meth c T11 _ 0 0 := X11
      refine own_adv (B := (T11.setTop (mkF m 40 #[.val (.long q1), .second, .val (.int p2), .val (.long q3), .second, .val (.long q4), .second, .val (.long (own_c1 q1 q3 q4)), .second] [(.long (own_c2 q1 q3 q4))]))) (fun t kS => st11 t kS) ?_
      refine own_adv (B := (T11.setTop (mkF m 44 #[.val (.long q1), .second, .val (.int p2), .val (.long q3), .second, .val (.long q4), .second, .val (.long (own_c2 q1 q3 q4)), .second] [(.int (2 : Int32)), (.int p2)]))) (fun t kS => ?_) ?_
      · show Steps p.tables e below (T11.setTop (mkF m 40 #[.val (.long q1), .second, .val (.int p2), .val (.long q3), .second, .val (.long q4), .second, .val (.long (own_c1 q1 q3 q4)), .second] [(.long (own_c2 q1 q3 q4))])) _
        refine XS.lstore X11.here hx rfl (hb hby d8_40) rfl (l' := #[.val (.long q1), .second, .val (.int p2), .val (.long q3), .second, .val (.long q4), .second, .val (.long (own_c2 q1 q3 q4)), .second]) rfl ?_
        show Steps p.tables e below (T11.setTop (mkF m 42 #[.val (.long q1), .second, .val (.int p2), .val (.long q3), .second, .val (.long q4), .second, .val (.long (own_c2 q1 q3 q4)), .second] [])) _
        refine XS.iloadN X11.here hx rfl (hb hby d8_42) rfl ?_
        show Steps p.tables e below (T11.setTop (mkF m 43 #[.val (.long q1), .second, .val (.int p2), .val (.long q3), .second, .val (.long q4), .second, .val (.long (own_c2 q1 q3 q4)), .second] [(.int p2)])) _
        refine XS.iconst X11.here hx rfl (hb hby d8_43) ?_
        exact kS
      by_cases hl2 : (2 : Int32) < p2
      · refine own_adv (B := (T11.setTop (mkF m 58 #[.val (.long q1), .second, .val (.int p2), .val (.long q3), .second, .val (.long q4), .second, .val (.long (own_c2 q1 q3 q4)), .second] [(.long q3), (.long (((q1.toUInt64 >>> ((16 : Int32) &&& 0x3f).toInt64.toUInt64).toInt64) &&& (255 : Int64))), (.long (own_c2 q1 q3 q4))]))) (fun t kS => ?_) ?_
        · show Steps p.tables e below (T11.setTop (mkF m 44 #[.val (.long q1), .second, .val (.int p2), .val (.long q3), .second, .val (.long q4), .second, .val (.long (own_c2 q1 q3 q4)), .second] [(.int (2 : Int32)), (.int p2)])) _
          refine XS.icmpNo X11.here hx rfl (hb hby d8_44) rfl (tlt hl2).2.2.2 ?_
          show Steps p.tables e below (T11.setTop (mkF m 47 #[.val (.long q1), .second, .val (.int p2), .val (.long q3), .second, .val (.long q4), .second, .val (.long (own_c2 q1 q3 q4)), .second] [])) _
          refine XS.lload X11.here hx rfl (hb hby d8_47) rfl ?_
          show Steps p.tables e below (T11.setTop (mkF m 49 #[.val (.long q1), .second, .val (.int p2), .val (.long q3), .second, .val (.long q4), .second, .val (.long (own_c2 q1 q3 q4)), .second] [(.long (own_c2 q1 q3 q4))])) _
          refine XS.lloadN X11.here hx rfl (hb hby d8_49) rfl ?_
          show Steps p.tables e below (T11.setTop (mkF m 50 #[.val (.long q1), .second, .val (.int p2), .val (.long q3), .second, .val (.long q4), .second, .val (.long (own_c2 q1 q3 q4)), .second] [(.long q1), (.long (own_c2 q1 q3 q4))])) _
          refine XS.bipush X11.here hx rfl (hb hby d8_50) ?_
          show Steps p.tables e below (T11.setTop (mkF m 52 #[.val (.long q1), .second, .val (.int p2), .val (.long q3), .second, .val (.long q4), .second, .val (.long (own_c2 q1 q3 q4)), .second] [(.int (16 : Int32)), (.long q1), (.long (own_c2 q1 q3 q4))])) _
          refine XS.lushr X11.here hx rfl (hb hby d8_52) rfl ?_
          show Steps p.tables e below (T11.setTop (mkF m 53 #[.val (.long q1), .second, .val (.int p2), .val (.long q3), .second, .val (.long q4), .second, .val (.long (own_c2 q1 q3 q4)), .second] [(.long ((q1.toUInt64 >>> ((16 : Int32) &&& 0x3f).toInt64.toUInt64).toInt64)), (.long (own_c2 q1 q3 q4))])) _
          refine X11.ldc2Long hx hown (mvT hZ (hw _ (List.mem_of_getElem? (i := 64) rfl))) (g := (mkF m 53 #[.val (.long q1), .second, .val (.int p2), .val (.long q3), .second, .val (.long q4), .second, .val (.long (own_c2 q1 q3 q4)), .second] [(.long ((q1.toUInt64 >>> ((16 : Int32) &&& 0x3f).toInt64.toUInt64).toInt64)), (.long (own_c2 q1 q3 q4))])) rfl (hb hby d8_53) _ ?_
          show Steps p.tables e below (T11.setTop (mkF m 56 #[.val (.long q1), .second, .val (.int p2), .val (.long q3), .second, .val (.long q4), .second, .val (.long (own_c2 q1 q3 q4)), .second] [(.long (255 : Int64)), (.long ((q1.toUInt64 >>> ((16 : Int32) &&& 0x3f).toInt64.toUInt64).toInt64)), (.long (own_c2 q1 q3 q4))])) _
          refine XS.land X11.here hx rfl (hb hby d8_56) rfl ?_
          show Steps p.tables e below (T11.setTop (mkF m 57 #[.val (.long q1), .second, .val (.int p2), .val (.long q3), .second, .val (.long q4), .second, .val (.long (own_c2 q1 q3 q4)), .second] [(.long (((q1.toUInt64 >>> ((16 : Int32) &&& 0x3f).toInt64.toUInt64).toInt64) &&& (255 : Int64))), (.long (own_c2 q1 q3 q4))])) _
          refine XS.lloadN X11.here hx rfl (hb hby d8_57) rfl ?_
          exact kS
        obtain ⟨_, _, ⟨T12, L12, k12, n12⟩, -, X12, ⟨Lc12, hQ12, l12, y12, z12⟩, st12⟩ := Jvm.LawKit.callS X11 hx (y := (⟨"com/example/latchkey/latchkey/server/gateway/CrcCombinationCombinePinLaw", "byteStep", "(JJJ)J"⟩ : MethodName)) hown (mvT hZ (hw _ (List.mem_of_getElem? (i := 65) rfl))) (mvT hZ (hw _ (List.mem_of_getElem? (i := 66) rfl))) (mvT hZ (hw _ (List.mem_of_getElem? (i := 2) rfl))) (mvT hZ (hw _ (List.mem_of_getElem? (i := 67) rfl))) (by decide) (backOf (W := 0) (rm14 l Z a0 hw [] (own_c2 q1 q3 q4) (((q1.toUInt64 >>> ((16 : Int32) &&& 0x3f).toInt64.toUInt64).toInt64) &&& (255 : Int64)) q3 h0 n0 Z0) hZ (hw _ (List.mem_of_getElem? (i := 67) rfl)) (hw _ (List.mem_of_getElem? (i := 2) rfl)) (by decide) (by decide)) (g := (mkF m 58 #[.val (.long q1), .second, .val (.int p2), .val (.long q3), .second, .val (.long q4), .second, .val (.long (own_c2 q1 q3 q4)), .second] [(.long q3), (.long (((q1.toUInt64 >>> ((16 : Int32) &&& 0x3f).toInt64.toUInt64).toInt64) &&& (255 : Int64))), (.long (own_c2 q1 q3 q4))])) rfl (by rw [hml]; rfl) (argsL := [(.long (own_c2 q1 q3 q4)), (.long (((q1.toUInt64 >>> ((16 : Int32) &&& 0x3f).toInt64.toUInt64).toInt64) &&& (255 : Int64))), (.long q3)]) (rest := []) (lenOf pd_0 rfl) rfl (by show 2 * 0 + _ ≤ _; exact Nat.le_of_eq rfl) (hb hby d8_58) (fun _ _ => ⟨rfl, hH11, (by decide : 0 + 0 ≤ _), (by decide : 0 + 0 ≤ _)⟩)
        dsimp only [Pt.U, Pt.locs, Pt.cells, Pt.slots] at X12 l12 y12 z12 st12 hQ12
        subst l12 y12 z12
        obtain ⟨rfl, N12q, hH12⟩ := hQ12
        have N12 := Fr.app N11 N12q
        obtain ⟨lo12, X12, N12⟩ := own_pack X12 N12
        replace X12 : Stand p l e _ s m _ below meth c T12 _ 0 0 := X12
        refine own_adv (B := (T12.setTop (mkF m 61 #[.val (.long q1), .second, .val (.int p2), .val (.long q3), .second, .val (.long q4), .second, .val (.long (own_c2 q1 q3 q4)), .second] [(.long (own_c3 q1 q3 q4))]))) (fun t kS => st12 t kS) ?_
        refine own_adv (B := (T12.setTop (mkF m 65 #[.val (.long q1), .second, .val (.int p2), .val (.long q3), .second, .val (.long q4), .second, .val (.long (own_c3 q1 q3 q4)), .second] [(.int (3 : Int32)), (.int p2)]))) (fun t kS => ?_) ?_
        · show Steps p.tables e below (T12.setTop (mkF m 61 #[.val (.long q1), .second, .val (.int p2), .val (.long q3), .second, .val (.long q4), .second, .val (.long (own_c2 q1 q3 q4)), .second] [(.long (own_c3 q1 q3 q4))])) _
          refine XS.lstore X12.here hx rfl (hb hby d8_61) rfl (l' := #[.val (.long q1), .second, .val (.int p2), .val (.long q3), .second, .val (.long q4), .second, .val (.long (own_c3 q1 q3 q4)), .second]) rfl ?_
          show Steps p.tables e below (T12.setTop (mkF m 63 #[.val (.long q1), .second, .val (.int p2), .val (.long q3), .second, .val (.long q4), .second, .val (.long (own_c3 q1 q3 q4)), .second] [])) _
          refine XS.iloadN X12.here hx rfl (hb hby d8_63) rfl ?_
          show Steps p.tables e below (T12.setTop (mkF m 64 #[.val (.long q1), .second, .val (.int p2), .val (.long q3), .second, .val (.long q4), .second, .val (.long (own_c3 q1 q3 q4)), .second] [(.int p2)])) _
          refine XS.iconst X12.here hx rfl (hb hby d8_64) ?_
          exact kS
        by_cases hl3 : (3 : Int32) < p2
        · refine own_adv (B := (T12.setTop (mkF m 79 #[.val (.long q1), .second, .val (.int p2), .val (.long q3), .second, .val (.long q4), .second, .val (.long (own_c3 q1 q3 q4)), .second] [(.long q3), (.long (((q1.toUInt64 >>> ((24 : Int32) &&& 0x3f).toInt64.toUInt64).toInt64) &&& (255 : Int64))), (.long (own_c3 q1 q3 q4))]))) (fun t kS => ?_) ?_
          · show Steps p.tables e below (T12.setTop (mkF m 65 #[.val (.long q1), .second, .val (.int p2), .val (.long q3), .second, .val (.long q4), .second, .val (.long (own_c3 q1 q3 q4)), .second] [(.int (3 : Int32)), (.int p2)])) _
            refine XS.icmpNo X12.here hx rfl (hb hby d8_65) rfl (tlt hl3).2.2.2 ?_
            show Steps p.tables e below (T12.setTop (mkF m 68 #[.val (.long q1), .second, .val (.int p2), .val (.long q3), .second, .val (.long q4), .second, .val (.long (own_c3 q1 q3 q4)), .second] [])) _
            refine XS.lload X12.here hx rfl (hb hby d8_68) rfl ?_
            show Steps p.tables e below (T12.setTop (mkF m 70 #[.val (.long q1), .second, .val (.int p2), .val (.long q3), .second, .val (.long q4), .second, .val (.long (own_c3 q1 q3 q4)), .second] [(.long (own_c3 q1 q3 q4))])) _
            refine XS.lloadN X12.here hx rfl (hb hby d8_70) rfl ?_
            show Steps p.tables e below (T12.setTop (mkF m 71 #[.val (.long q1), .second, .val (.int p2), .val (.long q3), .second, .val (.long q4), .second, .val (.long (own_c3 q1 q3 q4)), .second] [(.long q1), (.long (own_c3 q1 q3 q4))])) _
            refine XS.bipush X12.here hx rfl (hb hby d8_71) ?_
            show Steps p.tables e below (T12.setTop (mkF m 73 #[.val (.long q1), .second, .val (.int p2), .val (.long q3), .second, .val (.long q4), .second, .val (.long (own_c3 q1 q3 q4)), .second] [(.int (24 : Int32)), (.long q1), (.long (own_c3 q1 q3 q4))])) _
            refine XS.lushr X12.here hx rfl (hb hby d8_73) rfl ?_
            show Steps p.tables e below (T12.setTop (mkF m 74 #[.val (.long q1), .second, .val (.int p2), .val (.long q3), .second, .val (.long q4), .second, .val (.long (own_c3 q1 q3 q4)), .second] [(.long ((q1.toUInt64 >>> ((24 : Int32) &&& 0x3f).toInt64.toUInt64).toInt64)), (.long (own_c3 q1 q3 q4))])) _
            refine X12.ldc2Long hx hown (mvT hZ (hw _ (List.mem_of_getElem? (i := 64) rfl))) (g := (mkF m 74 #[.val (.long q1), .second, .val (.int p2), .val (.long q3), .second, .val (.long q4), .second, .val (.long (own_c3 q1 q3 q4)), .second] [(.long ((q1.toUInt64 >>> ((24 : Int32) &&& 0x3f).toInt64.toUInt64).toInt64)), (.long (own_c3 q1 q3 q4))])) rfl (hb hby d8_74) _ ?_
            show Steps p.tables e below (T12.setTop (mkF m 77 #[.val (.long q1), .second, .val (.int p2), .val (.long q3), .second, .val (.long q4), .second, .val (.long (own_c3 q1 q3 q4)), .second] [(.long (255 : Int64)), (.long ((q1.toUInt64 >>> ((24 : Int32) &&& 0x3f).toInt64.toUInt64).toInt64)), (.long (own_c3 q1 q3 q4))])) _
            refine XS.land X12.here hx rfl (hb hby d8_77) rfl ?_
            show Steps p.tables e below (T12.setTop (mkF m 78 #[.val (.long q1), .second, .val (.int p2), .val (.long q3), .second, .val (.long q4), .second, .val (.long (own_c3 q1 q3 q4)), .second] [(.long (((q1.toUInt64 >>> ((24 : Int32) &&& 0x3f).toInt64.toUInt64).toInt64) &&& (255 : Int64))), (.long (own_c3 q1 q3 q4))])) _
            refine XS.lloadN X12.here hx rfl (hb hby d8_78) rfl ?_
            exact kS
          obtain ⟨_, _, ⟨T13, L13, k13, n13⟩, -, X13, ⟨Lc13, hQ13, l13, y13, z13⟩, st13⟩ := Jvm.LawKit.callS X12 hx (y := (⟨"com/example/latchkey/latchkey/server/gateway/CrcCombinationCombinePinLaw", "byteStep", "(JJJ)J"⟩ : MethodName)) hown (mvT hZ (hw _ (List.mem_of_getElem? (i := 65) rfl))) (mvT hZ (hw _ (List.mem_of_getElem? (i := 66) rfl))) (mvT hZ (hw _ (List.mem_of_getElem? (i := 2) rfl))) (mvT hZ (hw _ (List.mem_of_getElem? (i := 67) rfl))) (by decide) (backOf (W := 0) (rm14 l Z a0 hw [] (own_c3 q1 q3 q4) (((q1.toUInt64 >>> ((24 : Int32) &&& 0x3f).toInt64.toUInt64).toInt64) &&& (255 : Int64)) q3 h0 n0 Z0) hZ (hw _ (List.mem_of_getElem? (i := 67) rfl)) (hw _ (List.mem_of_getElem? (i := 2) rfl)) (by decide) (by decide)) (g := (mkF m 79 #[.val (.long q1), .second, .val (.int p2), .val (.long q3), .second, .val (.long q4), .second, .val (.long (own_c3 q1 q3 q4)), .second] [(.long q3), (.long (((q1.toUInt64 >>> ((24 : Int32) &&& 0x3f).toInt64.toUInt64).toInt64) &&& (255 : Int64))), (.long (own_c3 q1 q3 q4))])) rfl (by rw [hml]; rfl) (argsL := [(.long (own_c3 q1 q3 q4)), (.long (((q1.toUInt64 >>> ((24 : Int32) &&& 0x3f).toInt64.toUInt64).toInt64) &&& (255 : Int64))), (.long q3)]) (rest := []) (lenOf pd_0 rfl) rfl (by show 2 * 0 + _ ≤ _; exact Nat.le_of_eq rfl) (hb hby d8_79) (fun _ _ => ⟨rfl, hH12, (by decide : 0 + 0 ≤ _), (by decide : 0 + 0 ≤ _)⟩)
          dsimp only [Pt.U, Pt.locs, Pt.cells, Pt.slots] at X13 l13 y13 z13 st13 hQ13
          subst l13 y13 z13
          obtain ⟨rfl, N13q, hH13⟩ := hQ13
          have N13 := Fr.app N12 N13q
          obtain ⟨lo13, X13, N13⟩ := own_pack X13 N13
          replace X13 : Stand p l e _ s m _ below meth c T13 _ 0 0 := X13
          refine own_adv (B := (T13.setTop (mkF m 82 #[.val (.long q1), .second, .val (.int p2), .val (.long q3), .second, .val (.long q4), .second, .val (.long (own_c3 q1 q3 q4)), .second] [(.long (own_c4 q1 q3 q4))]))) (fun t kS => st13 t kS) ?_
          refine own_adv (B := (T13.setTop (mkF m 86 #[.val (.long q1), .second, .val (.int p2), .val (.long q3), .second, .val (.long q4), .second, .val (.long (own_c4 q1 q3 q4)), .second] [(.int (4 : Int32)), (.int p2)]))) (fun t kS => ?_) ?_
          · show Steps p.tables e below (T13.setTop (mkF m 82 #[.val (.long q1), .second, .val (.int p2), .val (.long q3), .second, .val (.long q4), .second, .val (.long (own_c3 q1 q3 q4)), .second] [(.long (own_c4 q1 q3 q4))])) _
            refine XS.lstore X13.here hx rfl (hb hby d8_82) rfl (l' := #[.val (.long q1), .second, .val (.int p2), .val (.long q3), .second, .val (.long q4), .second, .val (.long (own_c4 q1 q3 q4)), .second]) rfl ?_
            show Steps p.tables e below (T13.setTop (mkF m 84 #[.val (.long q1), .second, .val (.int p2), .val (.long q3), .second, .val (.long q4), .second, .val (.long (own_c4 q1 q3 q4)), .second] [])) _
            refine XS.iloadN X13.here hx rfl (hb hby d8_84) rfl ?_
            show Steps p.tables e below (T13.setTop (mkF m 85 #[.val (.long q1), .second, .val (.int p2), .val (.long q3), .second, .val (.long q4), .second, .val (.long (own_c4 q1 q3 q4)), .second] [(.int p2)])) _
            refine XS.iconst X13.here hx rfl (hb hby d8_85) ?_
            exact kS
          by_cases hl4 : (4 : Int32) < p2
          · refine own_adv (B := (T13.setTop (mkF m 100 #[.val (.long q1), .second, .val (.int p2), .val (.long q3), .second, .val (.long q4), .second, .val (.long (own_c4 q1 q3 q4)), .second] [(.long q3), (.long (((q1.toUInt64 >>> ((32 : Int32) &&& 0x3f).toInt64.toUInt64).toInt64) &&& (255 : Int64))), (.long (own_c4 q1 q3 q4))]))) (fun t kS => ?_) ?_
            · show Steps p.tables e below (T13.setTop (mkF m 86 #[.val (.long q1), .second, .val (.int p2), .val (.long q3), .second, .val (.long q4), .second, .val (.long (own_c4 q1 q3 q4)), .second] [(.int (4 : Int32)), (.int p2)])) _
              refine XS.icmpNo X13.here hx rfl (hb hby d8_86) rfl (tlt hl4).2.2.2 ?_
              show Steps p.tables e below (T13.setTop (mkF m 89 #[.val (.long q1), .second, .val (.int p2), .val (.long q3), .second, .val (.long q4), .second, .val (.long (own_c4 q1 q3 q4)), .second] [])) _
              refine XS.lload X13.here hx rfl (hb hby d8_89) rfl ?_
              show Steps p.tables e below (T13.setTop (mkF m 91 #[.val (.long q1), .second, .val (.int p2), .val (.long q3), .second, .val (.long q4), .second, .val (.long (own_c4 q1 q3 q4)), .second] [(.long (own_c4 q1 q3 q4))])) _
              refine XS.lloadN X13.here hx rfl (hb hby d8_91) rfl ?_
              show Steps p.tables e below (T13.setTop (mkF m 92 #[.val (.long q1), .second, .val (.int p2), .val (.long q3), .second, .val (.long q4), .second, .val (.long (own_c4 q1 q3 q4)), .second] [(.long q1), (.long (own_c4 q1 q3 q4))])) _
              refine XS.bipush X13.here hx rfl (hb hby d8_92) ?_
              show Steps p.tables e below (T13.setTop (mkF m 94 #[.val (.long q1), .second, .val (.int p2), .val (.long q3), .second, .val (.long q4), .second, .val (.long (own_c4 q1 q3 q4)), .second] [(.int (32 : Int32)), (.long q1), (.long (own_c4 q1 q3 q4))])) _
              refine XS.lushr X13.here hx rfl (hb hby d8_94) rfl ?_
              show Steps p.tables e below (T13.setTop (mkF m 95 #[.val (.long q1), .second, .val (.int p2), .val (.long q3), .second, .val (.long q4), .second, .val (.long (own_c4 q1 q3 q4)), .second] [(.long ((q1.toUInt64 >>> ((32 : Int32) &&& 0x3f).toInt64.toUInt64).toInt64)), (.long (own_c4 q1 q3 q4))])) _
              refine X13.ldc2Long hx hown (mvT hZ (hw _ (List.mem_of_getElem? (i := 64) rfl))) (g := (mkF m 95 #[.val (.long q1), .second, .val (.int p2), .val (.long q3), .second, .val (.long q4), .second, .val (.long (own_c4 q1 q3 q4)), .second] [(.long ((q1.toUInt64 >>> ((32 : Int32) &&& 0x3f).toInt64.toUInt64).toInt64)), (.long (own_c4 q1 q3 q4))])) rfl (hb hby d8_95) _ ?_
              show Steps p.tables e below (T13.setTop (mkF m 98 #[.val (.long q1), .second, .val (.int p2), .val (.long q3), .second, .val (.long q4), .second, .val (.long (own_c4 q1 q3 q4)), .second] [(.long (255 : Int64)), (.long ((q1.toUInt64 >>> ((32 : Int32) &&& 0x3f).toInt64.toUInt64).toInt64)), (.long (own_c4 q1 q3 q4))])) _
              refine XS.land X13.here hx rfl (hb hby d8_98) rfl ?_
              show Steps p.tables e below (T13.setTop (mkF m 99 #[.val (.long q1), .second, .val (.int p2), .val (.long q3), .second, .val (.long q4), .second, .val (.long (own_c4 q1 q3 q4)), .second] [(.long (((q1.toUInt64 >>> ((32 : Int32) &&& 0x3f).toInt64.toUInt64).toInt64) &&& (255 : Int64))), (.long (own_c4 q1 q3 q4))])) _
              refine XS.lloadN X13.here hx rfl (hb hby d8_99) rfl ?_
              exact kS
            obtain ⟨_, _, ⟨T14, L14, k14, n14⟩, -, X14, ⟨Lc14, hQ14, l14, y14, z14⟩, st14⟩ := Jvm.LawKit.callS X13 hx (y := (⟨"com/example/latchkey/latchkey/server/gateway/CrcCombinationCombinePinLaw", "byteStep", "(JJJ)J"⟩ : MethodName)) hown (mvT hZ (hw _ (List.mem_of_getElem? (i := 65) rfl))) (mvT hZ (hw _ (List.mem_of_getElem? (i := 66) rfl))) (mvT hZ (hw _ (List.mem_of_getElem? (i := 2) rfl))) (mvT hZ (hw _ (List.mem_of_getElem? (i := 67) rfl))) (by decide) (backOf (W := 0) (rm14 l Z a0 hw [] (own_c4 q1 q3 q4) (((q1.toUInt64 >>> ((32 : Int32) &&& 0x3f).toInt64.toUInt64).toInt64) &&& (255 : Int64)) q3 h0 n0 Z0) hZ (hw _ (List.mem_of_getElem? (i := 67) rfl)) (hw _ (List.mem_of_getElem? (i := 2) rfl)) (by decide) (by decide)) (g := (mkF m 100 #[.val (.long q1), .second, .val (.int p2), .val (.long q3), .second, .val (.long q4), .second, .val (.long (own_c4 q1 q3 q4)), .second] [(.long q3), (.long (((q1.toUInt64 >>> ((32 : Int32) &&& 0x3f).toInt64.toUInt64).toInt64) &&& (255 : Int64))), (.long (own_c4 q1 q3 q4))])) rfl (by rw [hml]; rfl) (argsL := [(.long (own_c4 q1 q3 q4)), (.long (((q1.toUInt64 >>> ((32 : Int32) &&& 0x3f).toInt64.toUInt64).toInt64) &&& (255 : Int64))), (.long q3)]) (rest := []) (lenOf pd_0 rfl) rfl (by show 2 * 0 + _ ≤ _; exact Nat.le_of_eq rfl) (hb hby d8_100) (fun _ _ => ⟨rfl, hH13, (by decide : 0 + 0 ≤ _), (by decide : 0 + 0 ≤ _)⟩)
            dsimp only [Pt.U, Pt.locs, Pt.cells, Pt.slots] at X14 l14 y14 z14 st14 hQ14
            subst l14 y14 z14
            obtain ⟨rfl, N14q, hH14⟩ := hQ14
            have N14 := Fr.app N13 N14q
            obtain ⟨lo14, X14, N14⟩ := own_pack X14 N14
            replace X14 : Stand p l e _ s m _ below meth c T14 _ 0 0 := X14
            refine own_adv (B := (T14.setTop (mkF m 103 #[.val (.long q1), .second, .val (.int p2), .val (.long q3), .second, .val (.long q4), .second, .val (.long (own_c4 q1 q3 q4)), .second] [(.long (own_c5 q1 q3 q4))]))) (fun t kS => st14 t kS) ?_
            refine own_adv (B := (T14.setTop (mkF m 107 #[.val (.long q1), .second, .val (.int p2), .val (.long q3), .second, .val (.long q4), .second, .val (.long (own_c5 q1 q3 q4)), .second] [(.int (5 : Int32)), (.int p2)]))) (fun t kS => ?_) ?_
            · show Steps p.tables e below (T14.setTop (mkF m 103 #[.val (.long q1), .second, .val (.int p2), .val (.long q3), .second, .val (.long q4), .second, .val (.long (own_c4 q1 q3 q4)), .second] [(.long (own_c5 q1 q3 q4))])) _
              refine XS.lstore X14.here hx rfl (hb hby d8_103) rfl (l' := #[.val (.long q1), .second, .val (.int p2), .val (.long q3), .second, .val (.long q4), .second, .val (.long (own_c5 q1 q3 q4)), .second]) rfl ?_
              show Steps p.tables e below (T14.setTop (mkF m 105 #[.val (.long q1), .second, .val (.int p2), .val (.long q3), .second, .val (.long q4), .second, .val (.long (own_c5 q1 q3 q4)), .second] [])) _
              refine XS.iloadN X14.here hx rfl (hb hby d8_105) rfl ?_
              show Steps p.tables e below (T14.setTop (mkF m 106 #[.val (.long q1), .second, .val (.int p2), .val (.long q3), .second, .val (.long q4), .second, .val (.long (own_c5 q1 q3 q4)), .second] [(.int p2)])) _
              refine XS.iconst X14.here hx rfl (hb hby d8_106) ?_
              exact kS
            by_cases hl5 : (5 : Int32) < p2
            · refine own_adv (B := (T14.setTop (mkF m 121 #[.val (.long q1), .second, .val (.int p2), .val (.long q3), .second, .val (.long q4), .second, .val (.long (own_c5 q1 q3 q4)), .second] [(.long q3), (.long (((q1.toUInt64 >>> ((40 : Int32) &&& 0x3f).toInt64.toUInt64).toInt64) &&& (255 : Int64))), (.long (own_c5 q1 q3 q4))]))) (fun t kS => ?_) ?_
              · show Steps p.tables e below (T14.setTop (mkF m 107 #[.val (.long q1), .second, .val (.int p2), .val (.long q3), .second, .val (.long q4), .second, .val (.long (own_c5 q1 q3 q4)), .second] [(.int (5 : Int32)), (.int p2)])) _
                refine XS.icmpNo X14.here hx rfl (hb hby d8_107) rfl (tlt hl5).2.2.2 ?_
                show Steps p.tables e below (T14.setTop (mkF m 110 #[.val (.long q1), .second, .val (.int p2), .val (.long q3), .second, .val (.long q4), .second, .val (.long (own_c5 q1 q3 q4)), .second] [])) _
                refine XS.lload X14.here hx rfl (hb hby d8_110) rfl ?_
                show Steps p.tables e below (T14.setTop (mkF m 112 #[.val (.long q1), .second, .val (.int p2), .val (.long q3), .second, .val (.long q4), .second, .val (.long (own_c5 q1 q3 q4)), .second] [(.long (own_c5 q1 q3 q4))])) _
                refine XS.lloadN X14.here hx rfl (hb hby d8_112) rfl ?_
                show Steps p.tables e below (T14.setTop (mkF m 113 #[.val (.long q1), .second, .val (.int p2), .val (.long q3), .second, .val (.long q4), .second, .val (.long (own_c5 q1 q3 q4)), .second] [(.long q1), (.long (own_c5 q1 q3 q4))])) _
                refine XS.bipush X14.here hx rfl (hb hby d8_113) ?_
                show Steps p.tables e below (T14.setTop (mkF m 115 #[.val (.long q1), .second, .val (.int p2), .val (.long q3), .second, .val (.long q4), .second, .val (.long (own_c5 q1 q3 q4)), .second] [(.int (40 : Int32)), (.long q1), (.long (own_c5 q1 q3 q4))])) _
                refine XS.lushr X14.here hx rfl (hb hby d8_115) rfl ?_
                show Steps p.tables e below (T14.setTop (mkF m 116 #[.val (.long q1), .second, .val (.int p2), .val (.long q3), .second, .val (.long q4), .second, .val (.long (own_c5 q1 q3 q4)), .second] [(.long ((q1.toUInt64 >>> ((40 : Int32) &&& 0x3f).toInt64.toUInt64).toInt64)), (.long (own_c5 q1 q3 q4))])) _
                refine X14.ldc2Long hx hown (mvT hZ (hw _ (List.mem_of_getElem? (i := 64) rfl))) (g := (mkF m 116 #[.val (.long q1), .second, .val (.int p2), .val (.long q3), .second, .val (.long q4), .second, .val (.long (own_c5 q1 q3 q4)), .second] [(.long ((q1.toUInt64 >>> ((40 : Int32) &&& 0x3f).toInt64.toUInt64).toInt64)), (.long (own_c5 q1 q3 q4))])) rfl (hb hby d8_116) _ ?_
                show Steps p.tables e below (T14.setTop (mkF m 119 #[.val (.long q1), .second, .val (.int p2), .val (.long q3), .second, .val (.long q4), .second, .val (.long (own_c5 q1 q3 q4)), .second] [(.long (255 : Int64)), (.long ((q1.toUInt64 >>> ((40 : Int32) &&& 0x3f).toInt64.toUInt64).toInt64)), (.long (own_c5 q1 q3 q4))])) _
                refine XS.land X14.here hx rfl (hb hby d8_119) rfl ?_
                show Steps p.tables e below (T14.setTop (mkF m 120 #[.val (.long q1), .second, .val (.int p2), .val (.long q3), .second, .val (.long q4), .second, .val (.long (own_c5 q1 q3 q4)), .second] [(.long (((q1.toUInt64 >>> ((40 : Int32) &&& 0x3f).toInt64.toUInt64).toInt64) &&& (255 : Int64))), (.long (own_c5 q1 q3 q4))])) _
                refine XS.lloadN X14.here hx rfl (hb hby d8_120) rfl ?_
                exact kS
              obtain ⟨_, _, ⟨T15, L15, k15, n15⟩, -, X15, ⟨Lc15, hQ15, l15, y15, z15⟩, st15⟩ := Jvm.LawKit.callS X14 hx (y := (⟨"com/example/latchkey/latchkey/server/gateway/CrcCombinationCombinePinLaw", "byteStep", "(JJJ)J"⟩ : MethodName)) hown (mvT hZ (hw _ (List.mem_of_getElem? (i := 65) rfl))) (mvT hZ (hw _ (List.mem_of_getElem? (i := 66) rfl))) (mvT hZ (hw _ (List.mem_of_getElem? (i := 2) rfl))) (mvT hZ (hw _ (List.mem_of_getElem? (i := 67) rfl))) (by decide) (backOf (W := 0) (rm14 l Z a0 hw [] (own_c5 q1 q3 q4) (((q1.toUInt64 >>> ((40 : Int32) &&& 0x3f).toInt64.toUInt64).toInt64) &&& (255 : Int64)) q3 h0 n0 Z0) hZ (hw _ (List.mem_of_getElem? (i := 67) rfl)) (hw _ (List.mem_of_getElem? (i := 2) rfl)) (by decide) (by decide)) (g := (mkF m 121 #[.val (.long q1), .second, .val (.int p2), .val (.long q3), .second, .val (.long q4), .second, .val (.long (own_c5 q1 q3 q4)), .second] [(.long q3), (.long (((q1.toUInt64 >>> ((40 : Int32) &&& 0x3f).toInt64.toUInt64).toInt64) &&& (255 : Int64))), (.long (own_c5 q1 q3 q4))])) rfl (by rw [hml]; rfl) (argsL := [(.long (own_c5 q1 q3 q4)), (.long (((q1.toUInt64 >>> ((40 : Int32) &&& 0x3f).toInt64.toUInt64).toInt64) &&& (255 : Int64))), (.long q3)]) (rest := []) (lenOf pd_0 rfl) rfl (by show 2 * 0 + _ ≤ _; exact Nat.le_of_eq rfl) (hb hby d8_121) (fun _ _ => ⟨rfl, hH14, (by decide : 0 + 0 ≤ _), (by decide : 0 + 0 ≤ _)⟩)
              dsimp only [Pt.U, Pt.locs, Pt.cells, Pt.slots] at X15 l15 y15 z15 st15 hQ15
              subst l15 y15 z15
              obtain ⟨rfl, N15q, hH15⟩ := hQ15
              have N15 := Fr.app N14 N15q
              obtain ⟨lo15, X15, N15⟩ := own_pack X15 N15
              replace X15 : Stand p l e _ s m _ below meth c T15 _ 0 0 := X15
              refine own_adv (B := (T15.setTop (mkF m 124 #[.val (.long q1), .second, .val (.int p2), .val (.long q3), .second, .val (.long q4), .second, .val (.long (own_c5 q1 q3 q4)), .second] [(.long (own_c6 q1 q3 q4))]))) (fun t kS => st15 t kS) ?_
              refine own_adv (B := (T15.setTop (mkF m 131 #[.val (.long q1), .second, .val (.int p2), .val (.long q3), .second, .val (.long q4), .second, .val (.long (own_c6 q1 q3 q4)), .second] [(.long ((own_c6 q1 q3 q4) ^^^ q4))]))) (fun t kS => ?_) ?_
              · show Steps p.tables e below (T15.setTop (mkF m 124 #[.val (.long q1), .second, .val (.int p2), .val (.long q3), .second, .val (.long q4), .second, .val (.long (own_c5 q1 q3 q4)), .second] [(.long (own_c6 q1 q3 q4))])) _
                refine XS.lstore X15.here hx rfl (hb hby d8_124) rfl (l' := #[.val (.long q1), .second, .val (.int p2), .val (.long q3), .second, .val (.long q4), .second, .val (.long (own_c6 q1 q3 q4)), .second]) rfl ?_
                show Steps p.tables e below (T15.setTop (mkF m 126 #[.val (.long q1), .second, .val (.int p2), .val (.long q3), .second, .val (.long q4), .second, .val (.long (own_c6 q1 q3 q4)), .second] [])) _
                refine XS.lload X15.here hx rfl (hb hby d8_126) rfl ?_
                show Steps p.tables e below (T15.setTop (mkF m 128 #[.val (.long q1), .second, .val (.int p2), .val (.long q3), .second, .val (.long q4), .second, .val (.long (own_c6 q1 q3 q4)), .second] [(.long (own_c6 q1 q3 q4))])) _
                refine XS.lload X15.here hx rfl (hb hby d8_128) rfl ?_
                show Steps p.tables e below (T15.setTop (mkF m 130 #[.val (.long q1), .second, .val (.int p2), .val (.long q3), .second, .val (.long q4), .second, .val (.long (own_c6 q1 q3 q4)), .second] [(.long q4), (.long (own_c6 q1 q3 q4))])) _
                refine XS.lxor X15.here hx rfl (hb hby d8_130) rfl ?_
                exact kS
              have hv : own_crc q1 p2 q3 q4 = (own_c6 q1 q3 q4) ^^^ q4 := by rw [own_crc, if_pos hl0, if_pos hl1, if_pos hl2, if_pos hl3, if_pos hl4, if_pos hl5]
              obtain ⟨fs, hr, hrun, hended, hW, hsame⟩ := X15.leave (v := some (.long ((own_c6 q1 q3 q4) ^^^ q4))) (fun h => by rw [Bd.returns] at h; cases h)
              refine ⟨_, _, ?_, hrun, hended, _, _, rfl, ?_, ⟨_, rfl⟩, hW, hsame.mono (by decide) (by decide)⟩
              · show Steps p.tables e below (T15.setTop (mkF m 131 #[.val (.long q1), .second, .val (.int p2), .val (.long q3), .second, .val (.long q4), .second, .val (.long (own_c6 q1 q3 q4)), .second] [(.long ((own_c6 q1 q3 q4) ^^^ q4))])) _
                exact retOut X15 hx (t := .long) Bd.returns rfl (Or.inr (Or.inl ⟨rfl, rfl, _, rfl⟩)) (hb hby d8_131) hr
              · show Q8 Z q1 p2 q3 q4 h0 n0 _ T15.heap _
                rw [hH15]
                exact ⟨by rw [hv], N15, rfl⟩
            · refine own_adv (B := (T14.setTop (mkF m 131 #[.val (.long q1), .second, .val (.int p2), .val (.long q3), .second, .val (.long q4), .second, .val (.long (own_c5 q1 q3 q4)), .second] [(.long ((own_c5 q1 q3 q4) ^^^ q4))]))) (fun t kS => ?_) ?_
              · show Steps p.tables e below (T14.setTop (mkF m 107 #[.val (.long q1), .second, .val (.int p2), .val (.long q3), .second, .val (.long q4), .second, .val (.long (own_c5 q1 q3 q4)), .second] [(.int (5 : Int32)), (.int p2)])) _
                refine XS.icmpYes X14.here hx rfl (pc0 := 107) (pc' := 126) rfl (hb hby d8_107) rfl (flt hl5).2.2.2 (by decide) (by decide) ?_
                show Steps p.tables e below (T14.setTop (mkF m 126 #[.val (.long q1), .second, .val (.int p2), .val (.long q3), .second, .val (.long q4), .second, .val (.long (own_c5 q1 q3 q4)), .second] [])) _
                refine XS.lload X14.here hx rfl (hb hby d8_126) rfl ?_
                show Steps p.tables e below (T14.setTop (mkF m 128 #[.val (.long q1), .second, .val (.int p2), .val (.long q3), .second, .val (.long q4), .second, .val (.long (own_c5 q1 q3 q4)), .second] [(.long (own_c5 q1 q3 q4))])) _
                refine XS.lload X14.here hx rfl (hb hby d8_128) rfl ?_
                show Steps p.tables e below (T14.setTop (mkF m 130 #[.val (.long q1), .second, .val (.int p2), .val (.long q3), .second, .val (.long q4), .second, .val (.long (own_c5 q1 q3 q4)), .second] [(.long q4), (.long (own_c5 q1 q3 q4))])) _
                refine XS.lxor X14.here hx rfl (hb hby d8_130) rfl ?_
                exact kS
              have hv : own_crc q1 p2 q3 q4 = (own_c5 q1 q3 q4) ^^^ q4 := by rw [own_crc, if_pos hl0, if_pos hl1, if_pos hl2, if_pos hl3, if_pos hl4, if_neg hl5]
              obtain ⟨fs, hr, hrun, hended, hW, hsame⟩ := X14.leave (v := some (.long ((own_c5 q1 q3 q4) ^^^ q4))) (fun h => by rw [Bd.returns] at h; cases h)
              refine ⟨_, _, ?_, hrun, hended, _, _, rfl, ?_, ⟨_, rfl⟩, hW, hsame.mono (by decide) (by decide)⟩
              · show Steps p.tables e below (T14.setTop (mkF m 131 #[.val (.long q1), .second, .val (.int p2), .val (.long q3), .second, .val (.long q4), .second, .val (.long (own_c5 q1 q3 q4)), .second] [(.long ((own_c5 q1 q3 q4) ^^^ q4))])) _
                exact retOut X14 hx (t := .long) Bd.returns rfl (Or.inr (Or.inl ⟨rfl, rfl, _, rfl⟩)) (hb hby d8_131) hr
              · show Q8 Z q1 p2 q3 q4 h0 n0 _ T14.heap _
                rw [hH14]
                exact ⟨by rw [hv], N14, rfl⟩
          · refine own_adv (B := (T13.setTop (mkF m 131 #[.val (.long q1), .second, .val (.int p2), .val (.long q3), .second, .val (.long q4), .second, .val (.long (own_c4 q1 q3 q4)), .second] [(.long ((own_c4 q1 q3 q4) ^^^ q4))]))) (fun t kS => ?_) ?_
            · show Steps p.tables e below (T13.setTop (mkF m 86 #[.val (.long q1), .second, .val (.int p2), .val (.long q3), .second, .val (.long q4), .second, .val (.long (own_c4 q1 q3 q4)), .second] [(.int (4 : Int32)), (.int p2)])) _
              refine XS.icmpYes X13.here hx rfl (pc0 := 86) (pc' := 105) rfl (hb hby d8_86) rfl (flt hl4).2.2.2 (by decide) (by decide) ?_
              show Steps p.tables e below (T13.setTop (mkF m 105 #[.val (.long q1), .second, .val (.int p2), .val (.long q3), .second, .val (.long q4), .second, .val (.long (own_c4 q1 q3 q4)), .second] [])) _
              refine XS.iloadN X13.here hx rfl (hb hby d8_105) rfl ?_
              show Steps p.tables e below (T13.setTop (mkF m 106 #[.val (.long q1), .second, .val (.int p2), .val (.long q3), .second, .val (.long q4), .second, .val (.long (own_c4 q1 q3 q4)), .second] [(.int p2)])) _
              refine XS.iconst X13.here hx rfl (hb hby d8_106) ?_
              show Steps p.tables e below (T13.setTop (mkF m 107 #[.val (.long q1), .second, .val (.int p2), .val (.long q3), .second, .val (.long q4), .second, .val (.long (own_c4 q1 q3 q4)), .second] [(.int (5 : Int32)), (.int p2)])) _
              refine XS.icmpYes X13.here hx rfl (pc0 := 107) (pc' := 126) rfl (hb hby d8_107) rfl (flt (own_nlt (by decide) hl4)).2.2.2 (by decide) (by decide) ?_
              show Steps p.tables e below (T13.setTop (mkF m 126 #[.val (.long q1), .second, .val (.int p2), .val (.long q3), .second, .val (.long q4), .second, .val (.long (own_c4 q1 q3 q4)), .second] [])) _
              refine XS.lload X13.here hx rfl (hb hby d8_126) rfl ?_
              show Steps p.tables e below (T13.setTop (mkF m 128 #[.val (.long q1), .second, .val (.int p2), .val (.long q3), .second, .val (.long q4), .second, .val (.long (own_c4 q1 q3 q4)), .second] [(.long (own_c4 q1 q3 q4))])) _
              refine XS.lload X13.here hx rfl (hb hby d8_128) rfl ?_
              show Steps p.tables e below (T13.setTop (mkF m 130 #[.val (.long q1), .second, .val (.int p2), .val (.long q3), .second, .val (.long q4), .second, .val (.long (own_c4 q1 q3 q4)), .second] [(.long q4), (.long (own_c4 q1 q3 q4))])) _
              refine XS.lxor X13.here hx rfl (hb hby d8_130) rfl ?_
              exact kS
            have hv : own_crc q1 p2 q3 q4 = (own_c4 q1 q3 q4) ^^^ q4 := by rw [own_crc, if_pos hl0, if_pos hl1, if_pos hl2, if_pos hl3, if_neg hl4]
            obtain ⟨fs, hr, hrun, hended, hW, hsame⟩ := X13.leave (v := some (.long ((own_c4 q1 q3 q4) ^^^ q4))) (fun h => by rw [Bd.returns] at h; cases h)
            refine ⟨_, _, ?_, hrun, hended, _, _, rfl, ?_, ⟨_, rfl⟩, hW, hsame.mono (by decide) (by decide)⟩
            · show Steps p.tables e below (T13.setTop (mkF m 131 #[.val (.long q1), .second, .val (.int p2), .val (.long q3), .second, .val (.long q4), .second, .val (.long (own_c4 q1 q3 q4)), .second] [(.long ((own_c4 q1 q3 q4) ^^^ q4))])) _
              exact retOut X13 hx (t := .long) Bd.returns rfl (Or.inr (Or.inl ⟨rfl, rfl, _, rfl⟩)) (hb hby d8_131) hr
            · show Q8 Z q1 p2 q3 q4 h0 n0 _ T13.heap _
              rw [hH13]
              exact ⟨by rw [hv], N13, rfl⟩
        · refine own_adv (B := (T12.setTop (mkF m 131 #[.val (.long q1), .second, .val (.int p2), .val (.long q3), .second, .val (.long q4), .second, .val (.long (own_c3 q1 q3 q4)), .second] [(.long ((own_c3 q1 q3 q4) ^^^ q4))]))) (fun t kS => ?_) ?_
          · show Steps p.tables e below (T12.setTop (mkF m 65 #[.val (.long q1), .second, .val (.int p2), .val (.long q3), .second, .val (.long q4), .second, .val (.long (own_c3 q1 q3 q4)), .second] [(.int (3 : Int32)), (.int p2)])) _
            refine XS.icmpYes X12.here hx rfl (pc0 := 65) (pc' := 84) rfl (hb hby d8_65) rfl (flt hl3).2.2.2 (by decide) (by decide) ?_
            show Steps p.tables e below (T12.setTop (mkF m 84 #[.val (.long q1), .second, .val (.int p2), .val (.long q3), .second, .val (.long q4), .second, .val (.long (own_c3 q1 q3 q4)), .second] [])) _
            refine XS.iloadN X12.here hx rfl (hb hby d8_84) rfl ?_
            show Steps p.tables e below (T12.setTop (mkF m 85 #[.val (.long q1), .second, .val (.int p2), .val (.long q3), .second, .val (.long q4), .second, .val (.long (own_c3 q1 q3 q4)), .second] [(.int p2)])) _
            refine XS.iconst X12.here hx rfl (hb hby d8_85) ?_
            show Steps p.tables e below (T12.setTop (mkF m 86 #[.val (.long q1), .second, .val (.int p2), .val (.long q3), .second, .val (.long q4), .second, .val (.long (own_c3 q1 q3 q4)), .second] [(.int (4 : Int32)), (.int p2)])) _
            refine XS.icmpYes X12.here hx rfl (pc0 := 86) (pc' := 105) rfl (hb hby d8_86) rfl (flt (own_nlt (by decide) hl3)).2.2.2 (by decide) (by decide) ?_
            show Steps p.tables e below (T12.setTop (mkF m 105 #[.val (.long q1), .second, .val (.int p2), .val (.long q3), .second, .val (.long q4), .second, .val (.long (own_c3 q1 q3 q4)), .second] [])) _
            refine XS.iloadN X12.here hx rfl (hb hby d8_105) rfl ?_
            show Steps p.tables e below (T12.setTop (mkF m 106 #[.val (.long q1), .second, .val (.int p2), .val (.long q3), .second, .val (.long q4), .second, .val (.long (own_c3 q1 q3 q4)), .second] [(.int p2)])) _
            refine XS.iconst X12.here hx rfl (hb hby d8_106) ?_
            show Steps p.tables e below (T12.setTop (mkF m 107 #[.val (.long q1), .second, .val (.int p2), .val (.long q3), .second, .val (.long q4), .second, .val (.long (own_c3 q1 q3 q4)), .second] [(.int (5 : Int32)), (.int p2)])) _
            refine XS.icmpYes X12.here hx rfl (pc0 := 107) (pc' := 126) rfl (hb hby d8_107) rfl (flt (own_nlt (by decide) hl3)).2.2.2 (by decide) (by decide) ?_
            show Steps p.tables e below (T12.setTop (mkF m 126 #[.val (.long q1), .second, .val (.int p2), .val (.long q3), .second, .val (.long q4), .second, .val (.long (own_c3 q1 q3 q4)), .second] [])) _
            refine XS.lload X12.here hx rfl (hb hby d8_126) rfl ?_
            show Steps p.tables e below (T12.setTop (mkF m 128 #[.val (.long q1), .second, .val (.int p2), .val (.long q3), .second, .val (.long q4), .second, .val (.long (own_c3 q1 q3 q4)), .second] [(.long (own_c3 q1 q3 q4))])) _
            refine XS.lload X12.here hx rfl (hb hby d8_128) rfl ?_
            show Steps p.tables e below (T12.setTop (mkF m 130 #[.val (.long q1), .second, .val (.int p2), .val (.long q3), .second, .val (.long q4), .second, .val (.long (own_c3 q1 q3 q4)), .second] [(.long q4), (.long (own_c3 q1 q3 q4))])) _
            refine XS.lxor X12.here hx rfl (hb hby d8_130) rfl ?_
            exact kS
          have hv : own_crc q1 p2 q3 q4 = (own_c3 q1 q3 q4) ^^^ q4 := by rw [own_crc, if_pos hl0, if_pos hl1, if_pos hl2, if_neg hl3]
          obtain ⟨fs, hr, hrun, hended, hW, hsame⟩ := X12.leave (v := some (.long ((own_c3 q1 q3 q4) ^^^ q4))) (fun h => by rw [Bd.returns] at h; cases h)
          refine ⟨_, _, ?_, hrun, hended, _, _, rfl, ?_, ⟨_, rfl⟩, hW, hsame.mono (by decide) (by decide)⟩
          · show Steps p.tables e below (T12.setTop (mkF m 131 #[.val (.long q1), .second, .val (.int p2), .val (.long q3), .second, .val (.long q4), .second, .val (.long (own_c3 q1 q3 q4)), .second] [(.long ((own_c3 q1 q3 q4) ^^^ q4))])) _
            exact retOut X12 hx (t := .long) Bd.returns rfl (Or.inr (Or.inl ⟨rfl, rfl, _, rfl⟩)) (hb hby d8_131) hr
          · show Q8 Z q1 p2 q3 q4 h0 n0 _ T12.heap _
            rw [hH12]
            exact ⟨by rw [hv], N12, rfl⟩
      · refine own_adv (B := (T11.setTop (mkF m 131 #[.val (.long q1), .second, .val (.int p2), .val (.long q3), .second, .val (.long q4), .second, .val (.long (own_c2 q1 q3 q4)), .second] [(.long ((own_c2 q1 q3 q4) ^^^ q4))]))) (fun t kS => ?_) ?_
        · show Steps p.tables e below (T11.setTop (mkF m 44 #[.val (.long q1), .second, .val (.int p2), .val (.long q3), .second, .val (.long q4), .second, .val (.long (own_c2 q1 q3 q4)), .second] [(.int (2 : Int32)), (.int p2)])) _
          refine XS.icmpYes X11.here hx rfl (pc0 := 44) (pc' := 63) rfl (hb hby d8_44) rfl (flt hl2).2.2.2 (by decide) (by decide) ?_
          show Steps p.tables e below (T11.setTop (mkF m 63 #[.val (.long q1), .second, .val (.int p2), .val (.long q3), .second, .val (.long q4), .second, .val (.long (own_c2 q1 q3 q4)), .second] [])) _
          refine XS.iloadN X11.here hx rfl (hb hby d8_63) rfl ?_
          show Steps p.tables e below (T11.setTop (mkF m 64 #[.val (.long q1), .second, .val (.int p2), .val (.long q3), .second, .val (.long q4), .second, .val (.long (own_c2 q1 q3 q4)), .second] [(.int p2)])) _
          refine XS.iconst X11.here hx rfl (hb hby d8_64) ?_
          show Steps p.tables e below (T11.setTop (mkF m 65 #[.val (.long q1), .second, .val (.int p2), .val (.long q3), .second, .val (.long q4), .second, .val (.long (own_c2 q1 q3 q4)), .second] [(.int (3 : Int32)), (.int p2)])) _
          refine XS.icmpYes X11.here hx rfl (pc0 := 65) (pc' := 84) rfl (hb hby d8_65) rfl (flt (own_nlt (by decide) hl2)).2.2.2 (by decide) (by decide) ?_
          show Steps p.tables e below (T11.setTop (mkF m 84 #[.val (.long q1), .second, .val (.int p2), .val (.long q3), .second, .val (.long q4), .second, .val (.long (own_c2 q1 q3 q4)), .second] [])) _
          refine XS.iloadN X11.here hx rfl (hb hby d8_84) rfl ?_
          show Steps p.tables e below (T11.setTop (mkF m 85 #[.val (.long q1), .second, .val (.int p2), .val (.long q3), .second, .val (.long q4), .second, .val (.long (own_c2 q1 q3 q4)), .second] [(.int p2)])) _
          refine XS.iconst X11.here hx rfl (hb hby d8_85) ?_
          show Steps p.tables e below (T11.setTop (mkF m 86 #[.val (.long q1), .second, .val (.int p2), .val (.long q3), .second, .val (.long q4), .second, .val (.long (own_c2 q1 q3 q4)), .second] [(.int (4 : Int32)), (.int p2)])) _
          refine XS.icmpYes X11.here hx rfl (pc0 := 86) (pc' := 105) rfl (hb hby d8_86) rfl (flt (own_nlt (by decide) hl2)).2.2.2 (by decide) (by decide) ?_
          show Steps p.tables e below (T11.setTop (mkF m 105 #[.val (.long q1), .second, .val (.int p2), .val (.long q3), .second, .val (.long q4), .second, .val (.long (own_c2 q1 q3 q4)), .second] [])) _
          refine XS.iloadN X11.here hx rfl (hb hby d8_105) rfl ?_
          show Steps p.tables e below (T11.setTop (mkF m 106 #[.val (.long q1), .second, .val (.int p2), .val (.long q3), .second, .val (.long q4), .second, .val (.long (own_c2 q1 q3 q4)), .second] [(.int p2)])) _
          refine XS.iconst X11.here hx rfl (hb hby d8_106) ?_
          show Steps p.tables e below (T11.setTop (mkF m 107 #[.val (.long q1), .second, .val (.int p2), .val (.long q3), .second, .val (.long q4), .second, .val (.long (own_c2 q1 q3 q4)), .second] [(.int (5 : Int32)), (.int p2)])) _
          refine XS.icmpYes X11.here hx rfl (pc0 := 107) (pc' := 126) rfl (hb hby d8_107) rfl (flt (own_nlt (by decide) hl2)).2.2.2 (by decide) (by decide) ?_
          show Steps p.tables e below (T11.setTop (mkF m 126 #[.val (.long q1), .second, .val (.int p2), .val (.long q3), .second, .val (.long q4), .second, .val (.long (own_c2 q1 q3 q4)), .second] [])) _
          refine XS.lload X11.here hx rfl (hb hby d8_126) rfl ?_
          show Steps p.tables e below (T11.setTop (mkF m 128 #[.val (.long q1), .second, .val (.int p2), .val (.long q3), .second, .val (.long q4), .second, .val (.long (own_c2 q1 q3 q4)), .second] [(.long (own_c2 q1 q3 q4))])) _
          refine XS.lload X11.here hx rfl (hb hby d8_128) rfl ?_
          show Steps p.tables e below (T11.setTop (mkF m 130 #[.val (.long q1), .second, .val (.int p2), .val (.long q3), .second, .val (.long q4), .second, .val (.long (own_c2 q1 q3 q4)), .second] [(.long q4), (.long (own_c2 q1 q3 q4))])) _
          refine XS.lxor X11.here hx rfl (hb hby d8_130) rfl ?_
          exact kS
        have hv : own_crc q1 p2 q3 q4 = (own_c2 q1 q3 q4) ^^^ q4 := by rw [own_crc, if_pos hl0, if_pos hl1, if_neg hl2]
        obtain ⟨fs, hr, hrun, hended, hW, hsame⟩ := X11.leave (v := some (.long ((own_c2 q1 q3 q4) ^^^ q4))) (fun h => by rw [Bd.returns] at h; cases h)
        refine ⟨_, _, ?_, hrun, hended, _, _, rfl, ?_, ⟨_, rfl⟩, hW, hsame.mono (by decide) (by decide)⟩
        · show Steps p.tables e below (T11.setTop (mkF m 131 #[.val (.long q1), .second, .val (.int p2), .val (.long q3), .second, .val (.long q4), .second, .val (.long (own_c2 q1 q3 q4)), .second] [(.long ((own_c2 q1 q3 q4) ^^^ q4))])) _
          exact retOut X11 hx (t := .long) Bd.returns rfl (Or.inr (Or.inl ⟨rfl, rfl, _, rfl⟩)) (hb hby d8_131) hr
        · show Q8 Z q1 p2 q3 q4 h0 n0 _ T11.heap _
          rw [hH11]
          exact ⟨by rw [hv], N11, rfl⟩
    · refine own_adv (B := (T10.setTop (mkF m 131 #[.val (.long q1), .second, .val (.int p2), .val (.long q3), .second, .val (.long q4), .second, .val (.long (own_c1 q1 q3 q4)), .second] [(.long ((own_c1 q1 q3 q4) ^^^ q4))]))) (fun t kS => ?_) ?_
      · show Steps p.tables e below (T10.setTop (mkF m 23 #[.val (.long q1), .second, .val (.int p2), .val (.long q3), .second, .val (.long q4), .second, .val (.long (own_c1 q1 q3 q4)), .second] [(.int (1 : Int32)), (.int p2)])) _
        refine XS.icmpYes X10.here hx rfl (pc0 := 23) (pc' := 42) rfl (hb hby d8_23) rfl (flt hl1).2.2.2 (by decide) (by decide) ?_
        show Steps p.tables e below (T10.setTop (mkF m 42 #[.val (.long q1), .second, .val (.int p2), .val (.long q3), .second, .val (.long q4), .second, .val (.long (own_c1 q1 q3 q4)), .second] [])) _
        refine XS.iloadN X10.here hx rfl (hb hby d8_42) rfl ?_
        show Steps p.tables e below (T10.setTop (mkF m 43 #[.val (.long q1), .second, .val (.int p2), .val (.long q3), .second, .val (.long q4), .second, .val (.long (own_c1 q1 q3 q4)), .second] [(.int p2)])) _
        refine XS.iconst X10.here hx rfl (hb hby d8_43) ?_
        show Steps p.tables e below (T10.setTop (mkF m 44 #[.val (.long q1), .second, .val (.int p2), .val (.long q3), .second, .val (.long q4), .second, .val (.long (own_c1 q1 q3 q4)), .second] [(.int (2 : Int32)), (.int p2)])) _
        refine XS.icmpYes X10.here hx rfl (pc0 := 44) (pc' := 63) rfl (hb hby d8_44) rfl (flt (own_nlt (by decide) hl1)).2.2.2 (by decide) (by decide) ?_
        show Steps p.tables e below (T10.setTop (mkF m 63 #[.val (.long q1), .second, .val (.int p2), .val (.long q3), .second, .val (.long q4), .second, .val (.long (own_c1 q1 q3 q4)), .second] [])) _
        refine XS.iloadN X10.here hx rfl (hb hby d8_63) rfl ?_
        show Steps p.tables e below (T10.setTop (mkF m 64 #[.val (.long q1), .second, .val (.int p2), .val (.long q3), .second, .val (.long q4), .second, .val (.long (own_c1 q1 q3 q4)), .second] [(.int p2)])) _
        refine XS.iconst X10.here hx rfl (hb hby d8_64) ?_
        show Steps p.tables e below (T10.setTop (mkF m 65 #[.val (.long q1), .second, .val (.int p2), .val (.long q3), .second, .val (.long q4), .second, .val (.long (own_c1 q1 q3 q4)), .second] [(.int (3 : Int32)), (.int p2)])) _
        refine XS.icmpYes X10.here hx rfl (pc0 := 65) (pc' := 84) rfl (hb hby d8_65) rfl (flt (own_nlt (by decide) hl1)).2.2.2 (by decide) (by decide) ?_
        show Steps p.tables e below (T10.setTop (mkF m 84 #[.val (.long q1), .second, .val (.int p2), .val (.long q3), .second, .val (.long q4), .second, .val (.long (own_c1 q1 q3 q4)), .second] [])) _
        refine XS.iloadN X10.here hx rfl (hb hby d8_84) rfl ?_
        show Steps p.tables e below (T10.setTop (mkF m 85 #[.val (.long q1), .second, .val (.int p2), .val (.long q3), .second, .val (.long q4), .second, .val (.long (own_c1 q1 q3 q4)), .second] [(.int p2)])) _
        refine XS.iconst X10.here hx rfl (hb hby d8_85) ?_
        show Steps p.tables e below (T10.setTop (mkF m 86 #[.val (.long q1), .second, .val (.int p2), .val (.long q3), .second, .val (.long q4), .second, .val (.long (own_c1 q1 q3 q4)), .second] [(.int (4 : Int32)), (.int p2)])) _
        refine XS.icmpYes X10.here hx rfl (pc0 := 86) (pc' := 105) rfl (hb hby d8_86) rfl (flt (own_nlt (by decide) hl1)).2.2.2 (by decide) (by decide) ?_
        show Steps p.tables e below (T10.setTop (mkF m 105 #[.val (.long q1), .second, .val (.int p2), .val (.long q3), .second, .val (.long q4), .second, .val (.long (own_c1 q1 q3 q4)), .second] [])) _
        refine XS.iloadN X10.here hx rfl (hb hby d8_105) rfl ?_
        show Steps p.tables e below (T10.setTop (mkF m 106 #[.val (.long q1), .second, .val (.int p2), .val (.long q3), .second, .val (.long q4), .second, .val (.long (own_c1 q1 q3 q4)), .second] [(.int p2)])) _
        refine XS.iconst X10.here hx rfl (hb hby d8_106) ?_
        show Steps p.tables e below (T10.setTop (mkF m 107 #[.val (.long q1), .second, .val (.int p2), .val (.long q3), .second, .val (.long q4), .second, .val (.long (own_c1 q1 q3 q4)), .second] [(.int (5 : Int32)), (.int p2)])) _
        refine XS.icmpYes X10.here hx rfl (pc0 := 107) (pc' := 126) rfl (hb hby d8_107) rfl (flt (own_nlt (by decide) hl1)).2.2.2 (by decide) (by decide) ?_
        show Steps p.tables e below (T10.setTop (mkF m 126 #[.val (.long q1), .second, .val (.int p2), .val (.long q3), .second, .val (.long q4), .second, .val (.long (own_c1 q1 q3 q4)), .second] [])) _
        refine XS.lload X10.here hx rfl (hb hby d8_126) rfl ?_
        show Steps p.tables e below (T10.setTop (mkF m 128 #[.val (.long q1), .second, .val (.int p2), .val (.long q3), .second, .val (.long q4), .second, .val (.long (own_c1 q1 q3 q4)), .second] [(.long (own_c1 q1 q3 q4))])) _
        refine XS.lload X10.here hx rfl (hb hby d8_128) rfl ?_
        show Steps p.tables e below (T10.setTop (mkF m 130 #[.val (.long q1), .second, .val (.int p2), .val (.long q3), .second, .val (.long q4), .second, .val (.long (own_c1 q1 q3 q4)), .second] [(.long q4), (.long (own_c1 q1 q3 q4))])) _
        refine XS.lxor X10.here hx rfl (hb hby d8_130) rfl ?_
        exact kS
      have hv : own_crc q1 p2 q3 q4 = (own_c1 q1 q3 q4) ^^^ q4 := by rw [own_crc, if_pos hl0, if_neg hl1]
      obtain ⟨fs, hr, hrun, hended, hW, hsame⟩ := X10.leave (v := some (.long ((own_c1 q1 q3 q4) ^^^ q4))) (fun h => by rw [Bd.returns] at h; cases h)
      refine ⟨_, _, ?_, hrun, hended, _, _, rfl, ?_, ⟨_, rfl⟩, hW, hsame.mono (by decide) (by decide)⟩
      · show Steps p.tables e below (T10.setTop (mkF m 131 #[.val (.long q1), .second, .val (.int p2), .val (.long q3), .second, .val (.long q4), .second, .val (.long (own_c1 q1 q3 q4)), .second] [(.long ((own_c1 q1 q3 q4) ^^^ q4))])) _
        exact retOut X10 hx (t := .long) Bd.returns rfl (Or.inr (Or.inl ⟨rfl, rfl, _, rfl⟩)) (hb hby d8_131) hr
      · show Q8 Z q1 p2 q3 q4 h0 n0 _ T10.heap _
        rw [hH10]
        exact ⟨by rw [hv], N10, rfl⟩
  · refine own_adv (B := (s₁.setTop (mkF m 131 #[.val (.long q1), .second, .val (.int p2), .val (.long q3), .second, .val (.long q4), .second, .val (.long q4), .second] [(.long (q4 ^^^ q4))]))) (fun t kS => ?_) ?_
    · show Steps p.tables e below (s₁.setTop (mkF m 5 #[.val (.long q1), .second, .val (.int p2), .val (.long q3), .second, .val (.long q4), .second, .val (.long q4), .second] [(.int p2)])) _
      refine XS.ifYes X0.here hx rfl (pc0 := 5) (pc' := 21) rfl (hb hby d8_5) rfl ((if0 _ _).trans (flt hl0).2.2.2) (by decide) (by decide) ?_
      show Steps p.tables e below (s₁.setTop (mkF m 21 #[.val (.long q1), .second, .val (.int p2), .val (.long q3), .second, .val (.long q4), .second, .val (.long q4), .second] [])) _
      refine XS.iloadN X0.here hx rfl (hb hby d8_21) rfl ?_
      show Steps p.tables e below (s₁.setTop (mkF m 22 #[.val (.long q1), .second, .val (.int p2), .val (.long q3), .second, .val (.long q4), .second, .val (.long q4), .second] [(.int p2)])) _
      refine XS.iconst X0.here hx rfl (hb hby d8_22) ?_
      show Steps p.tables e below (s₁.setTop (mkF m 23 #[.val (.long q1), .second, .val (.int p2), .val (.long q3), .second, .val (.long q4), .second, .val (.long q4), .second] [(.int (1 : Int32)), (.int p2)])) _
      refine XS.icmpYes X0.here hx rfl (pc0 := 23) (pc' := 42) rfl (hb hby d8_23) rfl (flt (own_nlt (by decide) hl0)).2.2.2 (by decide) (by decide) ?_
      show Steps p.tables e below (s₁.setTop (mkF m 42 #[.val (.long q1), .second, .val (.int p2), .val (.long q3), .second, .val (.long q4), .second, .val (.long q4), .second] [])) _
      refine XS.iloadN X0.here hx rfl (hb hby d8_42) rfl ?_
      show Steps p.tables e below (s₁.setTop (mkF m 43 #[.val (.long q1), .second, .val (.int p2), .val (.long q3), .second, .val (.long q4), .second, .val (.long q4), .second] [(.int p2)])) _
      refine XS.iconst X0.here hx rfl (hb hby d8_43) ?_
      show Steps p.tables e below (s₁.setTop (mkF m 44 #[.val (.long q1), .second, .val (.int p2), .val (.long q3), .second, .val (.long q4), .second, .val (.long q4), .second] [(.int (2 : Int32)), (.int p2)])) _
      refine XS.icmpYes X0.here hx rfl (pc0 := 44) (pc' := 63) rfl (hb hby d8_44) rfl (flt (own_nlt (by decide) hl0)).2.2.2 (by decide) (by decide) ?_
      show Steps p.tables e below (s₁.setTop (mkF m 63 #[.val (.long q1), .second, .val (.int p2), .val (.long q3), .second, .val (.long q4), .second, .val (.long q4), .second] [])) _
      refine XS.iloadN X0.here hx rfl (hb hby d8_63) rfl ?_
      show Steps p.tables e below (s₁.setTop (mkF m 64 #[.val (.long q1), .second, .val (.int p2), .val (.long q3), .second, .val (.long q4), .second, .val (.long q4), .second] [(.int p2)])) _
      refine XS.iconst X0.here hx rfl (hb hby d8_64) ?_
      show Steps p.tables e below (s₁.setTop (mkF m 65 #[.val (.long q1), .second, .val (.int p2), .val (.long q3), .second, .val (.long q4), .second, .val (.long q4), .second] [(.int (3 : Int32)), (.int p2)])) _
      refine XS.icmpYes X0.here hx rfl (pc0 := 65) (pc' := 84) rfl (hb hby d8_65) rfl (flt (own_nlt (by decide) hl0)).2.2.2 (by decide) (by decide) ?_
      show Steps p.tables e below (s₁.setTop (mkF m 84 #[.val (.long q1), .second, .val (.int p2), .val (.long q3), .second, .val (.long q4), .second, .val (.long q4), .second] [])) _
      refine XS.iloadN X0.here hx rfl (hb hby d8_84) rfl ?_
      show Steps p.tables e below (s₁.setTop (mkF m 85 #[.val (.long q1), .second, .val (.int p2), .val (.long q3), .second, .val (.long q4), .second, .val (.long q4), .second] [(.int p2)])) _
      refine XS.iconst X0.here hx rfl (hb hby d8_85) ?_
      show Steps p.tables e below (s₁.setTop (mkF m 86 #[.val (.long q1), .second, .val (.int p2), .val (.long q3), .second, .val (.long q4), .second, .val (.long q4), .second] [(.int (4 : Int32)), (.int p2)])) _
      refine XS.icmpYes X0.here hx rfl (pc0 := 86) (pc' := 105) rfl (hb hby d8_86) rfl (flt (own_nlt (by decide) hl0)).2.2.2 (by decide) (by decide) ?_
      show Steps p.tables e below (s₁.setTop (mkF m 105 #[.val (.long q1), .second, .val (.int p2), .val (.long q3), .second, .val (.long q4), .second, .val (.long q4), .second] [])) _
      refine XS.iloadN X0.here hx rfl (hb hby d8_105) rfl ?_
      show Steps p.tables e below (s₁.setTop (mkF m 106 #[.val (.long q1), .second, .val (.int p2), .val (.long q3), .second, .val (.long q4), .second, .val (.long q4), .second] [(.int p2)])) _
      refine XS.iconst X0.here hx rfl (hb hby d8_106) ?_
      show Steps p.tables e below (s₁.setTop (mkF m 107 #[.val (.long q1), .second, .val (.int p2), .val (.long q3), .second, .val (.long q4), .second, .val (.long q4), .second] [(.int (5 : Int32)), (.int p2)])) _
      refine XS.icmpYes X0.here hx rfl (pc0 := 107) (pc' := 126) rfl (hb hby d8_107) rfl (flt (own_nlt (by decide) hl0)).2.2.2 (by decide) (by decide) ?_
      show Steps p.tables e below (s₁.setTop (mkF m 126 #[.val (.long q1), .second, .val (.int p2), .val (.long q3), .second, .val (.long q4), .second, .val (.long q4), .second] [])) _
      refine XS.lload X0.here hx rfl (hb hby d8_126) rfl ?_
      show Steps p.tables e below (s₁.setTop (mkF m 128 #[.val (.long q1), .second, .val (.int p2), .val (.long q3), .second, .val (.long q4), .second, .val (.long q4), .second] [(.long q4)])) _
      refine XS.lload X0.here hx rfl (hb hby d8_128) rfl ?_
      show Steps p.tables e below (s₁.setTop (mkF m 130 #[.val (.long q1), .second, .val (.int p2), .val (.long q3), .second, .val (.long q4), .second, .val (.long q4), .second] [(.long q4), (.long q4)])) _
      refine XS.lxor X0.here hx rfl (hb hby d8_130) rfl ?_
      exact kS
    have hv : own_crc q1 p2 q3 q4 = q4 ^^^ q4 := by rw [own_crc, if_neg hl0]
    obtain ⟨fs, hr, hrun, hended, hW, hsame⟩ := X0.leave (v := some (.long (q4 ^^^ q4))) (fun h => by rw [Bd.returns] at h; cases h)
    refine ⟨_, _, ?_, hrun, hended, _, _, rfl, ?_, ⟨_, rfl⟩, hW, hsame.mono (by decide) (by decide)⟩
    · show Steps p.tables e below (s₁.setTop (mkF m 131 #[.val (.long q1), .second, .val (.int p2), .val (.long q3), .second, .val (.long q4), .second, .val (.long q4), .second] [(.long (q4 ^^^ q4))])) _
      exact retOut X0 hx (t := .long) Bd.returns rfl (Or.inr (Or.inl ⟨rfl, rfl, _, rfl⟩)) (hb hby d8_131) hr
    · show Q8 Z q1 p2 q3 q4 h0 n0 _ s₁.heap _
      rw [e0]
      exact ⟨by rw [hv], N0, rfl⟩
theorem ef_7 (m : MethodId) (x0 : Int64) : entryFrame m #[(.long x0)] 2 = mkF m 0 #[.val (.long x0), .second] [] := by first | (simp [entryFrame, mkF, argsToLocals, Value.category]; done) | rfl
def Q7 (Z : State) (q1 : Int64) (h0 : Heap) (n0 : Nat) (v : Option Value) (h : Heap) (L : List Loc) : Prop := v = some (.long (own_rb q1)) ∧ Fr n0 L ∧ h = h0
set_option maxRecDepth 65536 in
set_option maxHeartbeats 40000000 in
theorem rm7 (l : Launch) (Z : State) (a0 : Array Value) (hw : ∀ d ∈ tables_1, d.before a0 Z = true) (ws : List Jvm.Cond) (q1 : Int64) (h0 : Heap) (n0 : Nat) (Z0 : n0 ≤ h0.size) :
    MetFree l (⟨"java/lang/Long", "reverseBytes", "(J)J"⟩ : MethodName) (head1 (Jvm.Cond.code (⟨"java/lang/Long", "reverseBytes", "(J)J"⟩ : MethodName) jdk_35_method_58_code 2 (some .long) :: ws) ({ frames := 0, cells := 0, slots := 0, locals := 0 } : Room)) (fun a U => a = #[(.long q1)] ∧ Z.Warmed39 U.vm ∧ U.heap = h0) (fun _ _ _ _ _ => True) (fun _ U o U' => ∃ v L, o = .returned v ∧ Q7 Z q1 h0 n0 v U'.heap L ∧ FrameEnd U o U' L ({ frames := 0, cells := 0, slots := 0, locals := 0 } : Room).cells ({ frames := 0, cells := 0, slots := 0, locals := 0 } : Room).slots) := by
  refine MetFree.of_bodySF (plainFor_of_name pn_7) hisR ?_
  intro p e s m args below meth c s₁ Bd hml0 hP hK
  obtain ⟨rfl, hZ, hh⟩ := hP
  have hx := Bd.exec
  have hby := Bd.bytes
  have hml : c.maxLocals = 2 := hml0
  have hown : s.vm.findClass "java/lang/Long" = some m.cls := findClass_of_methodNamed Bd.named
  have hnm := (name_of_methodNamed Bd.named Bd.method).1
  have X0 : Stand p l e ({ frames := 0, cells := 0, slots := 0, locals := 0 } : Room) s m #[(.long q1)] below meth c s₁ [] 0 0 := Stand.of_body Bd
  have e0 : s₁.heap = h0 := by rw [← hh, Bd.state]; rfl
  have N0 := Fr.nil n0
  refine own_adv (B := (s₁.setTop (mkF m 0 #[.val (.long q1), .second] []))) (fun t k => castTop (ef_7 m q1) k) ?_
  refine own_adv (B := (s₁.setTop (mkF m 18 #[.val (.long (((q1 &&& (71777214294589695 : Int64)) <<< ((8 : Int32) &&& 0x3f).toInt64) ||| (((q1.toUInt64 >>> ((8 : Int32) &&& 0x3f).toInt64.toUInt64).toInt64) &&& (71777214294589695 : Int64)))), .second] []))) (fun t kS => ?_) ?_
  · show Steps p.tables e below (s₁.setTop (mkF m 0 #[.val (.long q1), .second] [])) _
    refine XS.lloadN X0.here hx rfl (hb hby d7_0) rfl ?_
    show Steps p.tables e below (s₁.setTop (mkF m 1 #[.val (.long q1), .second] [(.long q1)])) _
    refine X0.ldc2Long hx hown (mvT hZ (hw _ (List.mem_of_getElem? (i := 31) rfl))) (g := (mkF m 1 #[.val (.long q1), .second] [(.long q1)])) rfl (hb hby d7_1) _ ?_
    show Steps p.tables e below (s₁.setTop (mkF m 4 #[.val (.long q1), .second] [(.long (71777214294589695 : Int64)), (.long q1)])) _
    refine XS.land X0.here hx rfl (hb hby d7_4) rfl ?_
    show Steps p.tables e below (s₁.setTop (mkF m 5 #[.val (.long q1), .second] [(.long (q1 &&& (71777214294589695 : Int64)))])) _
    refine XS.bipush X0.here hx rfl (hb hby d7_5) ?_
    show Steps p.tables e below (s₁.setTop (mkF m 7 #[.val (.long q1), .second] [(.int (8 : Int32)), (.long (q1 &&& (71777214294589695 : Int64)))])) _
    refine XS.lshl X0.here hx rfl (hb hby d7_7) rfl ?_
    show Steps p.tables e below (s₁.setTop (mkF m 8 #[.val (.long q1), .second] [(.long ((q1 &&& (71777214294589695 : Int64)) <<< ((8 : Int32) &&& 0x3f).toInt64))])) _
    refine XS.lloadN X0.here hx rfl (hb hby d7_8) rfl ?_
    show Steps p.tables e below (s₁.setTop (mkF m 9 #[.val (.long q1), .second] [(.long q1), (.long ((q1 &&& (71777214294589695 : Int64)) <<< ((8 : Int32) &&& 0x3f).toInt64))])) _
    refine XS.bipush X0.here hx rfl (hb hby d7_9) ?_
    show Steps p.tables e below (s₁.setTop (mkF m 11 #[.val (.long q1), .second] [(.int (8 : Int32)), (.long q1), (.long ((q1 &&& (71777214294589695 : Int64)) <<< ((8 : Int32) &&& 0x3f).toInt64))])) _
    refine XS.lushr X0.here hx rfl (hb hby d7_11) rfl ?_
    show Steps p.tables e below (s₁.setTop (mkF m 12 #[.val (.long q1), .second] [(.long ((q1.toUInt64 >>> ((8 : Int32) &&& 0x3f).toInt64.toUInt64).toInt64)), (.long ((q1 &&& (71777214294589695 : Int64)) <<< ((8 : Int32) &&& 0x3f).toInt64))])) _
    refine X0.ldc2Long hx hown (mvT hZ (hw _ (List.mem_of_getElem? (i := 31) rfl))) (g := (mkF m 12 #[.val (.long q1), .second] [(.long ((q1.toUInt64 >>> ((8 : Int32) &&& 0x3f).toInt64.toUInt64).toInt64)), (.long ((q1 &&& (71777214294589695 : Int64)) <<< ((8 : Int32) &&& 0x3f).toInt64))])) rfl (hb hby d7_12) _ ?_
    show Steps p.tables e below (s₁.setTop (mkF m 15 #[.val (.long q1), .second] [(.long (71777214294589695 : Int64)), (.long ((q1.toUInt64 >>> ((8 : Int32) &&& 0x3f).toInt64.toUInt64).toInt64)), (.long ((q1 &&& (71777214294589695 : Int64)) <<< ((8 : Int32) &&& 0x3f).toInt64))])) _
    refine XS.land X0.here hx rfl (hb hby d7_15) rfl ?_
    show Steps p.tables e below (s₁.setTop (mkF m 16 #[.val (.long q1), .second] [(.long (((q1.toUInt64 >>> ((8 : Int32) &&& 0x3f).toInt64.toUInt64).toInt64) &&& (71777214294589695 : Int64))), (.long ((q1 &&& (71777214294589695 : Int64)) <<< ((8 : Int32) &&& 0x3f).toInt64))])) _
    refine XS.lor X0.here hx rfl (hb hby d7_16) rfl ?_
    show Steps p.tables e below (s₁.setTop (mkF m 17 #[.val (.long q1), .second] [(.long (((q1 &&& (71777214294589695 : Int64)) <<< ((8 : Int32) &&& 0x3f).toInt64) ||| (((q1.toUInt64 >>> ((8 : Int32) &&& 0x3f).toInt64.toUInt64).toInt64) &&& (71777214294589695 : Int64))))])) _
    refine XS.lstoreN X0.here hx rfl (hb hby d7_17) rfl (l' := #[.val (.long (((q1 &&& (71777214294589695 : Int64)) <<< ((8 : Int32) &&& 0x3f).toInt64) ||| (((q1.toUInt64 >>> ((8 : Int32) &&& 0x3f).toInt64.toUInt64).toInt64) &&& (71777214294589695 : Int64)))), .second]) rfl ?_
    exact kS
  generalize hx1 : (((q1 &&& (71777214294589695 : Int64)) <<< ((8 : Int32) &&& 0x3f).toInt64) ||| (((q1.toUInt64 >>> ((8 : Int32) &&& 0x3f).toInt64.toUInt64).toInt64) &&& (71777214294589695 : Int64))) = x1
  refine own_adv (B := (s₁.setTop (mkF m 45 #[.val (.long x1), .second] [(.long ((((x1 <<< ((48 : Int32) &&& 0x3f).toInt64) ||| ((x1 &&& (4294901760 : Int64)) <<< ((16 : Int32) &&& 0x3f).toInt64)) ||| (((x1.toUInt64 >>> ((16 : Int32) &&& 0x3f).toInt64.toUInt64).toInt64) &&& (4294901760 : Int64))) ||| ((x1.toUInt64 >>> ((48 : Int32) &&& 0x3f).toInt64.toUInt64).toInt64)))]))) (fun t kS => ?_) ?_
  · show Steps p.tables e below (s₁.setTop (mkF m 18 #[.val (.long x1), .second] [])) _
    refine XS.lloadN X0.here hx rfl (hb hby d7_18) rfl ?_
    show Steps p.tables e below (s₁.setTop (mkF m 19 #[.val (.long x1), .second] [(.long x1)])) _
    refine XS.bipush X0.here hx rfl (hb hby d7_19) ?_
    show Steps p.tables e below (s₁.setTop (mkF m 21 #[.val (.long x1), .second] [(.int (48 : Int32)), (.long x1)])) _
    refine XS.lshl X0.here hx rfl (hb hby d7_21) rfl ?_
    show Steps p.tables e below (s₁.setTop (mkF m 22 #[.val (.long x1), .second] [(.long (x1 <<< ((48 : Int32) &&& 0x3f).toInt64))])) _
    refine XS.lloadN X0.here hx rfl (hb hby d7_22) rfl ?_
    show Steps p.tables e below (s₁.setTop (mkF m 23 #[.val (.long x1), .second] [(.long x1), (.long (x1 <<< ((48 : Int32) &&& 0x3f).toInt64))])) _
    refine X0.ldc2Long hx hown (mvT hZ (hw _ (List.mem_of_getElem? (i := 32) rfl))) (g := (mkF m 23 #[.val (.long x1), .second] [(.long x1), (.long (x1 <<< ((48 : Int32) &&& 0x3f).toInt64))])) rfl (hb hby d7_23) _ ?_
    show Steps p.tables e below (s₁.setTop (mkF m 26 #[.val (.long x1), .second] [(.long (4294901760 : Int64)), (.long x1), (.long (x1 <<< ((48 : Int32) &&& 0x3f).toInt64))])) _
    refine XS.land X0.here hx rfl (hb hby d7_26) rfl ?_
    show Steps p.tables e below (s₁.setTop (mkF m 27 #[.val (.long x1), .second] [(.long (x1 &&& (4294901760 : Int64))), (.long (x1 <<< ((48 : Int32) &&& 0x3f).toInt64))])) _
    refine XS.bipush X0.here hx rfl (hb hby d7_27) ?_
    show Steps p.tables e below (s₁.setTop (mkF m 29 #[.val (.long x1), .second] [(.int (16 : Int32)), (.long (x1 &&& (4294901760 : Int64))), (.long (x1 <<< ((48 : Int32) &&& 0x3f).toInt64))])) _
    refine XS.lshl X0.here hx rfl (hb hby d7_29) rfl ?_
    show Steps p.tables e below (s₁.setTop (mkF m 30 #[.val (.long x1), .second] [(.long ((x1 &&& (4294901760 : Int64)) <<< ((16 : Int32) &&& 0x3f).toInt64)), (.long (x1 <<< ((48 : Int32) &&& 0x3f).toInt64))])) _
    refine XS.lor X0.here hx rfl (hb hby d7_30) rfl ?_
    show Steps p.tables e below (s₁.setTop (mkF m 31 #[.val (.long x1), .second] [(.long ((x1 <<< ((48 : Int32) &&& 0x3f).toInt64) ||| ((x1 &&& (4294901760 : Int64)) <<< ((16 : Int32) &&& 0x3f).toInt64)))])) _
    refine XS.lloadN X0.here hx rfl (hb hby d7_31) rfl ?_
    show Steps p.tables e below (s₁.setTop (mkF m 32 #[.val (.long x1), .second] [(.long x1), (.long ((x1 <<< ((48 : Int32) &&& 0x3f).toInt64) ||| ((x1 &&& (4294901760 : Int64)) <<< ((16 : Int32) &&& 0x3f).toInt64)))])) _
    refine XS.bipush X0.here hx rfl (hb hby d7_32) ?_
    show Steps p.tables e below (s₁.setTop (mkF m 34 #[.val (.long x1), .second] [(.int (16 : Int32)), (.long x1), (.long ((x1 <<< ((48 : Int32) &&& 0x3f).toInt64) ||| ((x1 &&& (4294901760 : Int64)) <<< ((16 : Int32) &&& 0x3f).toInt64)))])) _
    refine XS.lushr X0.here hx rfl (hb hby d7_34) rfl ?_
    show Steps p.tables e below (s₁.setTop (mkF m 35 #[.val (.long x1), .second] [(.long ((x1.toUInt64 >>> ((16 : Int32) &&& 0x3f).toInt64.toUInt64).toInt64)), (.long ((x1 <<< ((48 : Int32) &&& 0x3f).toInt64) ||| ((x1 &&& (4294901760 : Int64)) <<< ((16 : Int32) &&& 0x3f).toInt64)))])) _
    refine X0.ldc2Long hx hown (mvT hZ (hw _ (List.mem_of_getElem? (i := 32) rfl))) (g := (mkF m 35 #[.val (.long x1), .second] [(.long ((x1.toUInt64 >>> ((16 : Int32) &&& 0x3f).toInt64.toUInt64).toInt64)), (.long ((x1 <<< ((48 : Int32) &&& 0x3f).toInt64) ||| ((x1 &&& (4294901760 : Int64)) <<< ((16 : Int32) &&& 0x3f).toInt64)))])) rfl (hb hby d7_35) _ ?_
    show Steps p.tables e below (s₁.setTop (mkF m 38 #[.val (.long x1), .second] [(.long (4294901760 : Int64)), (.long ((x1.toUInt64 >>> ((16 : Int32) &&& 0x3f).toInt64.toUInt64).toInt64)), (.long ((x1 <<< ((48 : Int32) &&& 0x3f).toInt64) ||| ((x1 &&& (4294901760 : Int64)) <<< ((16 : Int32) &&& 0x3f).toInt64)))])) _
    refine XS.land X0.here hx rfl (hb hby d7_38) rfl ?_
    show Steps p.tables e below (s₁.setTop (mkF m 39 #[.val (.long x1), .second] [(.long (((x1.toUInt64 >>> ((16 : Int32) &&& 0x3f).toInt64.toUInt64).toInt64) &&& (4294901760 : Int64))), (.long ((x1 <<< ((48 : Int32) &&& 0x3f).toInt64) ||| ((x1 &&& (4294901760 : Int64)) <<< ((16 : Int32) &&& 0x3f).toInt64)))])) _
    refine XS.lor X0.here hx rfl (hb hby d7_39) rfl ?_
    show Steps p.tables e below (s₁.setTop (mkF m 40 #[.val (.long x1), .second] [(.long (((x1 <<< ((48 : Int32) &&& 0x3f).toInt64) ||| ((x1 &&& (4294901760 : Int64)) <<< ((16 : Int32) &&& 0x3f).toInt64)) ||| (((x1.toUInt64 >>> ((16 : Int32) &&& 0x3f).toInt64.toUInt64).toInt64) &&& (4294901760 : Int64))))])) _
    refine XS.lloadN X0.here hx rfl (hb hby d7_40) rfl ?_
    show Steps p.tables e below (s₁.setTop (mkF m 41 #[.val (.long x1), .second] [(.long x1), (.long (((x1 <<< ((48 : Int32) &&& 0x3f).toInt64) ||| ((x1 &&& (4294901760 : Int64)) <<< ((16 : Int32) &&& 0x3f).toInt64)) ||| (((x1.toUInt64 >>> ((16 : Int32) &&& 0x3f).toInt64.toUInt64).toInt64) &&& (4294901760 : Int64))))])) _
    refine XS.bipush X0.here hx rfl (hb hby d7_41) ?_
    show Steps p.tables e below (s₁.setTop (mkF m 43 #[.val (.long x1), .second] [(.int (48 : Int32)), (.long x1), (.long (((x1 <<< ((48 : Int32) &&& 0x3f).toInt64) ||| ((x1 &&& (4294901760 : Int64)) <<< ((16 : Int32) &&& 0x3f).toInt64)) ||| (((x1.toUInt64 >>> ((16 : Int32) &&& 0x3f).toInt64.toUInt64).toInt64) &&& (4294901760 : Int64))))])) _
    refine XS.lushr X0.here hx rfl (hb hby d7_43) rfl ?_
    show Steps p.tables e below (s₁.setTop (mkF m 44 #[.val (.long x1), .second] [(.long ((x1.toUInt64 >>> ((48 : Int32) &&& 0x3f).toInt64.toUInt64).toInt64)), (.long (((x1 <<< ((48 : Int32) &&& 0x3f).toInt64) ||| ((x1 &&& (4294901760 : Int64)) <<< ((16 : Int32) &&& 0x3f).toInt64)) ||| (((x1.toUInt64 >>> ((16 : Int32) &&& 0x3f).toInt64.toUInt64).toInt64) &&& (4294901760 : Int64))))])) _
    refine XS.lor X0.here hx rfl (hb hby d7_44) rfl ?_
    exact kS
  obtain ⟨fs, hr, hrun, hended, hW, hsame⟩ := X0.leave (v := some (.long ((((x1 <<< ((48 : Int32) &&& 0x3f).toInt64) ||| ((x1 &&& (4294901760 : Int64)) <<< ((16 : Int32) &&& 0x3f).toInt64)) ||| (((x1.toUInt64 >>> ((16 : Int32) &&& 0x3f).toInt64.toUInt64).toInt64) &&& (4294901760 : Int64))) ||| ((x1.toUInt64 >>> ((48 : Int32) &&& 0x3f).toInt64.toUInt64).toInt64)))) (fun h => by rw [Bd.returns] at h; cases h)
  refine ⟨_, _, ?_, hrun, hended, _, _, rfl, ?_, ⟨_, rfl⟩, hW, hsame.mono (by decide) (by decide)⟩
  · show Steps p.tables e below (s₁.setTop (mkF m 45 #[.val (.long x1), .second] [(.long ((((x1 <<< ((48 : Int32) &&& 0x3f).toInt64) ||| ((x1 &&& (4294901760 : Int64)) <<< ((16 : Int32) &&& 0x3f).toInt64)) ||| (((x1.toUInt64 >>> ((16 : Int32) &&& 0x3f).toInt64.toUInt64).toInt64) &&& (4294901760 : Int64))) ||| ((x1.toUInt64 >>> ((48 : Int32) &&& 0x3f).toInt64.toUInt64).toInt64)))])) _
    exact retOut X0 hx (t := .long) Bd.returns rfl (Or.inr (Or.inl ⟨rfl, rfl, _, rfl⟩)) (hb hby d7_45) hr
  · show Q7 Z q1 h0 n0 _ s₁.heap _
    rw [e0]
    exact ⟨by rw [← hx1]; rfl, N0, rfl⟩
theorem ef_6 (m : MethodId) (x0 : Int64) : entryFrame m #[(.long x0)] 2 = mkF m 0 #[.val (.long x0), .second] [] := by first | (simp [entryFrame, mkF, argsToLocals, Value.category]; done) | rfl
def Q6 (Z : State) (q1 : Int64) (h0 : Heap) (n0 : Nat) (v : Option Value) (h : Heap) (L : List Loc) : Prop := v = some (.long (own_rev q1)) ∧ Fr n0 L ∧ h = h0
set_option maxRecDepth 65536 in
set_option maxHeartbeats 40000000 in
theorem rm6 (l : Launch) (Z : State) (a0 : Array Value) (hw : ∀ d ∈ tables_1, d.before a0 Z = true) (ws : List Jvm.Cond) (q1 : Int64) (h0 : Heap) (n0 : Nat) (Z0 : n0 ≤ h0.size) :
    MetFree l (⟨"java/lang/Long", "reverse", "(J)J"⟩ : MethodName) (head1 (Jvm.Cond.code (⟨"java/lang/Long", "reverse", "(J)J"⟩ : MethodName) jdk_35_method_53_code 2 (some .long) :: ws) ({ frames := 1, cells := 0, slots := 0, locals := 13 } : Room)) (fun a U => a = #[(.long q1)] ∧ Z.Warmed39 U.vm ∧ U.heap = h0) (fun _ _ _ _ _ => True) (fun _ U o U' => ∃ v L, o = .returned v ∧ Q6 Z q1 h0 n0 v U'.heap L ∧ FrameEnd U o U' L ({ frames := 1, cells := 0, slots := 0, locals := 13 } : Room).cells ({ frames := 1, cells := 0, slots := 0, locals := 13 } : Room).slots) := by
  refine MetFree.of_bodySF (plainFor_of_name pn_6) hisR ?_
  intro p e s m args below meth c s₁ Bd hml0 hP hK
  obtain ⟨rfl, hZ, hh⟩ := hP
  have hx := Bd.exec
  have hby := Bd.bytes
  have hml : c.maxLocals = 2 := hml0
  have hown : s.vm.findClass "java/lang/Long" = some m.cls := findClass_of_methodNamed Bd.named
  have hnm := (name_of_methodNamed Bd.named Bd.method).1
  have X0 : Stand p l e ({ frames := 1, cells := 0, slots := 0, locals := 13 } : Room) s m #[(.long q1)] below meth c s₁ [] 0 0 := Stand.of_body Bd
  have e0 : s₁.heap = h0 := by rw [← hh, Bd.state]; rfl
  have N0 := Fr.nil n0
  refine own_adv (B := (s₁.setTop (mkF m 0 #[.val (.long q1), .second] []))) (fun t k => castTop (ef_6 m q1) k) ?_
  refine own_adv (B := (s₁.setTop (mkF m 16 #[.val (.long (((q1 &&& (6148914691236517205 : Int64)) <<< ((1 : Int32) &&& 0x3f).toInt64) ||| (((q1.toUInt64 >>> ((1 : Int32) &&& 0x3f).toInt64.toUInt64).toInt64) &&& (6148914691236517205 : Int64)))), .second] []))) (fun t kS => ?_) ?_
  · show Steps p.tables e below (s₁.setTop (mkF m 0 #[.val (.long q1), .second] [])) _
    refine XS.lloadN X0.here hx rfl (hb hby d6_0) rfl ?_
    show Steps p.tables e below (s₁.setTop (mkF m 1 #[.val (.long q1), .second] [(.long q1)])) _
    refine X0.ldc2Long hx hown (mvT hZ (hw _ (List.mem_of_getElem? (i := 25) rfl))) (g := (mkF m 1 #[.val (.long q1), .second] [(.long q1)])) rfl (hb hby d6_1) _ ?_
    show Steps p.tables e below (s₁.setTop (mkF m 4 #[.val (.long q1), .second] [(.long (6148914691236517205 : Int64)), (.long q1)])) _
    refine XS.land X0.here hx rfl (hb hby d6_4) rfl ?_
    show Steps p.tables e below (s₁.setTop (mkF m 5 #[.val (.long q1), .second] [(.long (q1 &&& (6148914691236517205 : Int64)))])) _
    refine XS.iconst X0.here hx rfl (hb hby d6_5) ?_
    show Steps p.tables e below (s₁.setTop (mkF m 6 #[.val (.long q1), .second] [(.int (1 : Int32)), (.long (q1 &&& (6148914691236517205 : Int64)))])) _
    refine XS.lshl X0.here hx rfl (hb hby d6_6) rfl ?_
    show Steps p.tables e below (s₁.setTop (mkF m 7 #[.val (.long q1), .second] [(.long ((q1 &&& (6148914691236517205 : Int64)) <<< ((1 : Int32) &&& 0x3f).toInt64))])) _
    refine XS.lloadN X0.here hx rfl (hb hby d6_7) rfl ?_
    show Steps p.tables e below (s₁.setTop (mkF m 8 #[.val (.long q1), .second] [(.long q1), (.long ((q1 &&& (6148914691236517205 : Int64)) <<< ((1 : Int32) &&& 0x3f).toInt64))])) _
    refine XS.iconst X0.here hx rfl (hb hby d6_8) ?_
    show Steps p.tables e below (s₁.setTop (mkF m 9 #[.val (.long q1), .second] [(.int (1 : Int32)), (.long q1), (.long ((q1 &&& (6148914691236517205 : Int64)) <<< ((1 : Int32) &&& 0x3f).toInt64))])) _
    refine XS.lushr X0.here hx rfl (hb hby d6_9) rfl ?_
    show Steps p.tables e below (s₁.setTop (mkF m 10 #[.val (.long q1), .second] [(.long ((q1.toUInt64 >>> ((1 : Int32) &&& 0x3f).toInt64.toUInt64).toInt64)), (.long ((q1 &&& (6148914691236517205 : Int64)) <<< ((1 : Int32) &&& 0x3f).toInt64))])) _
    refine X0.ldc2Long hx hown (mvT hZ (hw _ (List.mem_of_getElem? (i := 25) rfl))) (g := (mkF m 10 #[.val (.long q1), .second] [(.long ((q1.toUInt64 >>> ((1 : Int32) &&& 0x3f).toInt64.toUInt64).toInt64)), (.long ((q1 &&& (6148914691236517205 : Int64)) <<< ((1 : Int32) &&& 0x3f).toInt64))])) rfl (hb hby d6_10) _ ?_
    show Steps p.tables e below (s₁.setTop (mkF m 13 #[.val (.long q1), .second] [(.long (6148914691236517205 : Int64)), (.long ((q1.toUInt64 >>> ((1 : Int32) &&& 0x3f).toInt64.toUInt64).toInt64)), (.long ((q1 &&& (6148914691236517205 : Int64)) <<< ((1 : Int32) &&& 0x3f).toInt64))])) _
    refine XS.land X0.here hx rfl (hb hby d6_13) rfl ?_
    show Steps p.tables e below (s₁.setTop (mkF m 14 #[.val (.long q1), .second] [(.long (((q1.toUInt64 >>> ((1 : Int32) &&& 0x3f).toInt64.toUInt64).toInt64) &&& (6148914691236517205 : Int64))), (.long ((q1 &&& (6148914691236517205 : Int64)) <<< ((1 : Int32) &&& 0x3f).toInt64))])) _
    refine XS.lor X0.here hx rfl (hb hby d6_14) rfl ?_
    show Steps p.tables e below (s₁.setTop (mkF m 15 #[.val (.long q1), .second] [(.long (((q1 &&& (6148914691236517205 : Int64)) <<< ((1 : Int32) &&& 0x3f).toInt64) ||| (((q1.toUInt64 >>> ((1 : Int32) &&& 0x3f).toInt64.toUInt64).toInt64) &&& (6148914691236517205 : Int64))))])) _
    refine XS.lstoreN X0.here hx rfl (hb hby d6_15) rfl (l' := #[.val (.long (((q1 &&& (6148914691236517205 : Int64)) <<< ((1 : Int32) &&& 0x3f).toInt64) ||| (((q1.toUInt64 >>> ((1 : Int32) &&& 0x3f).toInt64.toUInt64).toInt64) &&& (6148914691236517205 : Int64)))), .second]) rfl ?_
    exact kS
  generalize hx1 : (((q1 &&& (6148914691236517205 : Int64)) <<< ((1 : Int32) &&& 0x3f).toInt64) ||| (((q1.toUInt64 >>> ((1 : Int32) &&& 0x3f).toInt64.toUInt64).toInt64) &&& (6148914691236517205 : Int64))) = x1
  refine own_adv (B := (s₁.setTop (mkF m 32 #[.val (.long (((x1 &&& (3689348814741910323 : Int64)) <<< ((2 : Int32) &&& 0x3f).toInt64) ||| (((x1.toUInt64 >>> ((2 : Int32) &&& 0x3f).toInt64.toUInt64).toInt64) &&& (3689348814741910323 : Int64)))), .second] []))) (fun t kS => ?_) ?_
  · show Steps p.tables e below (s₁.setTop (mkF m 16 #[.val (.long x1), .second] [])) _
    refine XS.lloadN X0.here hx rfl (hb hby d6_16) rfl ?_
    show Steps p.tables e below (s₁.setTop (mkF m 17 #[.val (.long x1), .second] [(.long x1)])) _
    refine X0.ldc2Long hx hown (mvT hZ (hw _ (List.mem_of_getElem? (i := 26) rfl))) (g := (mkF m 17 #[.val (.long x1), .second] [(.long x1)])) rfl (hb hby d6_17) _ ?_
    show Steps p.tables e below (s₁.setTop (mkF m 20 #[.val (.long x1), .second] [(.long (3689348814741910323 : Int64)), (.long x1)])) _
    refine XS.land X0.here hx rfl (hb hby d6_20) rfl ?_
    show Steps p.tables e below (s₁.setTop (mkF m 21 #[.val (.long x1), .second] [(.long (x1 &&& (3689348814741910323 : Int64)))])) _
    refine XS.iconst X0.here hx rfl (hb hby d6_21) ?_
    show Steps p.tables e below (s₁.setTop (mkF m 22 #[.val (.long x1), .second] [(.int (2 : Int32)), (.long (x1 &&& (3689348814741910323 : Int64)))])) _
    refine XS.lshl X0.here hx rfl (hb hby d6_22) rfl ?_
    show Steps p.tables e below (s₁.setTop (mkF m 23 #[.val (.long x1), .second] [(.long ((x1 &&& (3689348814741910323 : Int64)) <<< ((2 : Int32) &&& 0x3f).toInt64))])) _
    refine XS.lloadN X0.here hx rfl (hb hby d6_23) rfl ?_
    show Steps p.tables e below (s₁.setTop (mkF m 24 #[.val (.long x1), .second] [(.long x1), (.long ((x1 &&& (3689348814741910323 : Int64)) <<< ((2 : Int32) &&& 0x3f).toInt64))])) _
    refine XS.iconst X0.here hx rfl (hb hby d6_24) ?_
    show Steps p.tables e below (s₁.setTop (mkF m 25 #[.val (.long x1), .second] [(.int (2 : Int32)), (.long x1), (.long ((x1 &&& (3689348814741910323 : Int64)) <<< ((2 : Int32) &&& 0x3f).toInt64))])) _
    refine XS.lushr X0.here hx rfl (hb hby d6_25) rfl ?_
    show Steps p.tables e below (s₁.setTop (mkF m 26 #[.val (.long x1), .second] [(.long ((x1.toUInt64 >>> ((2 : Int32) &&& 0x3f).toInt64.toUInt64).toInt64)), (.long ((x1 &&& (3689348814741910323 : Int64)) <<< ((2 : Int32) &&& 0x3f).toInt64))])) _
    refine X0.ldc2Long hx hown (mvT hZ (hw _ (List.mem_of_getElem? (i := 26) rfl))) (g := (mkF m 26 #[.val (.long x1), .second] [(.long ((x1.toUInt64 >>> ((2 : Int32) &&& 0x3f).toInt64.toUInt64).toInt64)), (.long ((x1 &&& (3689348814741910323 : Int64)) <<< ((2 : Int32) &&& 0x3f).toInt64))])) rfl (hb hby d6_26) _ ?_
    show Steps p.tables e below (s₁.setTop (mkF m 29 #[.val (.long x1), .second] [(.long (3689348814741910323 : Int64)), (.long ((x1.toUInt64 >>> ((2 : Int32) &&& 0x3f).toInt64.toUInt64).toInt64)), (.long ((x1 &&& (3689348814741910323 : Int64)) <<< ((2 : Int32) &&& 0x3f).toInt64))])) _
    refine XS.land X0.here hx rfl (hb hby d6_29) rfl ?_
    show Steps p.tables e below (s₁.setTop (mkF m 30 #[.val (.long x1), .second] [(.long (((x1.toUInt64 >>> ((2 : Int32) &&& 0x3f).toInt64.toUInt64).toInt64) &&& (3689348814741910323 : Int64))), (.long ((x1 &&& (3689348814741910323 : Int64)) <<< ((2 : Int32) &&& 0x3f).toInt64))])) _
    refine XS.lor X0.here hx rfl (hb hby d6_30) rfl ?_
    show Steps p.tables e below (s₁.setTop (mkF m 31 #[.val (.long x1), .second] [(.long (((x1 &&& (3689348814741910323 : Int64)) <<< ((2 : Int32) &&& 0x3f).toInt64) ||| (((x1.toUInt64 >>> ((2 : Int32) &&& 0x3f).toInt64.toUInt64).toInt64) &&& (3689348814741910323 : Int64))))])) _
    refine XS.lstoreN X0.here hx rfl (hb hby d6_31) rfl (l' := #[.val (.long (((x1 &&& (3689348814741910323 : Int64)) <<< ((2 : Int32) &&& 0x3f).toInt64) ||| (((x1.toUInt64 >>> ((2 : Int32) &&& 0x3f).toInt64.toUInt64).toInt64) &&& (3689348814741910323 : Int64)))), .second]) rfl ?_
    exact kS
  generalize hx2 : (((x1 &&& (3689348814741910323 : Int64)) <<< ((2 : Int32) &&& 0x3f).toInt64) ||| (((x1.toUInt64 >>> ((2 : Int32) &&& 0x3f).toInt64.toUInt64).toInt64) &&& (3689348814741910323 : Int64))) = x2
  refine own_adv (B := (s₁.setTop (mkF m 48 #[.val (.long (((x2 &&& (1085102592571150095 : Int64)) <<< ((4 : Int32) &&& 0x3f).toInt64) ||| (((x2.toUInt64 >>> ((4 : Int32) &&& 0x3f).toInt64.toUInt64).toInt64) &&& (1085102592571150095 : Int64)))), .second] []))) (fun t kS => ?_) ?_
  · show Steps p.tables e below (s₁.setTop (mkF m 32 #[.val (.long x2), .second] [])) _
    refine XS.lloadN X0.here hx rfl (hb hby d6_32) rfl ?_
    show Steps p.tables e below (s₁.setTop (mkF m 33 #[.val (.long x2), .second] [(.long x2)])) _
    refine X0.ldc2Long hx hown (mvT hZ (hw _ (List.mem_of_getElem? (i := 27) rfl))) (g := (mkF m 33 #[.val (.long x2), .second] [(.long x2)])) rfl (hb hby d6_33) _ ?_
    show Steps p.tables e below (s₁.setTop (mkF m 36 #[.val (.long x2), .second] [(.long (1085102592571150095 : Int64)), (.long x2)])) _
    refine XS.land X0.here hx rfl (hb hby d6_36) rfl ?_
    show Steps p.tables e below (s₁.setTop (mkF m 37 #[.val (.long x2), .second] [(.long (x2 &&& (1085102592571150095 : Int64)))])) _
    refine XS.iconst X0.here hx rfl (hb hby d6_37) ?_
    show Steps p.tables e below (s₁.setTop (mkF m 38 #[.val (.long x2), .second] [(.int (4 : Int32)), (.long (x2 &&& (1085102592571150095 : Int64)))])) _
    refine XS.lshl X0.here hx rfl (hb hby d6_38) rfl ?_
    show Steps p.tables e below (s₁.setTop (mkF m 39 #[.val (.long x2), .second] [(.long ((x2 &&& (1085102592571150095 : Int64)) <<< ((4 : Int32) &&& 0x3f).toInt64))])) _
    refine XS.lloadN X0.here hx rfl (hb hby d6_39) rfl ?_
    show Steps p.tables e below (s₁.setTop (mkF m 40 #[.val (.long x2), .second] [(.long x2), (.long ((x2 &&& (1085102592571150095 : Int64)) <<< ((4 : Int32) &&& 0x3f).toInt64))])) _
    refine XS.iconst X0.here hx rfl (hb hby d6_40) ?_
    show Steps p.tables e below (s₁.setTop (mkF m 41 #[.val (.long x2), .second] [(.int (4 : Int32)), (.long x2), (.long ((x2 &&& (1085102592571150095 : Int64)) <<< ((4 : Int32) &&& 0x3f).toInt64))])) _
    refine XS.lushr X0.here hx rfl (hb hby d6_41) rfl ?_
    show Steps p.tables e below (s₁.setTop (mkF m 42 #[.val (.long x2), .second] [(.long ((x2.toUInt64 >>> ((4 : Int32) &&& 0x3f).toInt64.toUInt64).toInt64)), (.long ((x2 &&& (1085102592571150095 : Int64)) <<< ((4 : Int32) &&& 0x3f).toInt64))])) _
    refine X0.ldc2Long hx hown (mvT hZ (hw _ (List.mem_of_getElem? (i := 27) rfl))) (g := (mkF m 42 #[.val (.long x2), .second] [(.long ((x2.toUInt64 >>> ((4 : Int32) &&& 0x3f).toInt64.toUInt64).toInt64)), (.long ((x2 &&& (1085102592571150095 : Int64)) <<< ((4 : Int32) &&& 0x3f).toInt64))])) rfl (hb hby d6_42) _ ?_
    show Steps p.tables e below (s₁.setTop (mkF m 45 #[.val (.long x2), .second] [(.long (1085102592571150095 : Int64)), (.long ((x2.toUInt64 >>> ((4 : Int32) &&& 0x3f).toInt64.toUInt64).toInt64)), (.long ((x2 &&& (1085102592571150095 : Int64)) <<< ((4 : Int32) &&& 0x3f).toInt64))])) _
    refine XS.land X0.here hx rfl (hb hby d6_45) rfl ?_
    show Steps p.tables e below (s₁.setTop (mkF m 46 #[.val (.long x2), .second] [(.long (((x2.toUInt64 >>> ((4 : Int32) &&& 0x3f).toInt64.toUInt64).toInt64) &&& (1085102592571150095 : Int64))), (.long ((x2 &&& (1085102592571150095 : Int64)) <<< ((4 : Int32) &&& 0x3f).toInt64))])) _
    refine XS.lor X0.here hx rfl (hb hby d6_46) rfl ?_
    show Steps p.tables e below (s₁.setTop (mkF m 47 #[.val (.long x2), .second] [(.long (((x2 &&& (1085102592571150095 : Int64)) <<< ((4 : Int32) &&& 0x3f).toInt64) ||| (((x2.toUInt64 >>> ((4 : Int32) &&& 0x3f).toInt64.toUInt64).toInt64) &&& (1085102592571150095 : Int64))))])) _
    refine XS.lstoreN X0.here hx rfl (hb hby d6_47) rfl (l' := #[.val (.long (((x2 &&& (1085102592571150095 : Int64)) <<< ((4 : Int32) &&& 0x3f).toInt64) ||| (((x2.toUInt64 >>> ((4 : Int32) &&& 0x3f).toInt64.toUInt64).toInt64) &&& (1085102592571150095 : Int64)))), .second]) rfl ?_
    exact kS
  generalize hx3 : (((x2 &&& (1085102592571150095 : Int64)) <<< ((4 : Int32) &&& 0x3f).toInt64) ||| (((x2.toUInt64 >>> ((4 : Int32) &&& 0x3f).toInt64.toUInt64).toInt64) &&& (1085102592571150095 : Int64))) = x3
  refine own_adv (B := (s₁.setTop (mkF m 49 #[.val (.long x3), .second] [(.long x3)]))) (fun t kS => ?_) ?_
  · show Steps p.tables e below (s₁.setTop (mkF m 48 #[.val (.long x3), .second] [])) _
    refine XS.lloadN X0.here hx rfl (hb hby d6_48) rfl ?_
    exact kS
  obtain ⟨_, _, ⟨T16, L16, k16, n16⟩, -, X16, ⟨Lc16, hQ16, l16, y16, z16⟩, st16⟩ := Jvm.LawKit.callS X0 hx (y := (⟨"java/lang/Long", "reverseBytes", "(J)J"⟩ : MethodName)) hown (mvT hZ (hw _ (List.mem_of_getElem? (i := 28) rfl))) (mvT hZ (hw _ (List.mem_of_getElem? (i := 29) rfl))) (mvT hZ (hw _ (List.mem_of_getElem? (i := 23) rfl))) (mvT hZ (hw _ (List.mem_of_getElem? (i := 30) rfl))) (by decide) (backOf (W := 0) (rm7 l Z a0 hw [] x3 h0 n0 Z0) hZ (hw _ (List.mem_of_getElem? (i := 30) rfl)) (hw _ (List.mem_of_getElem? (i := 23) rfl)) (by decide) (by decide)) (g := (mkF m 49 #[.val (.long x3), .second] [(.long x3)])) rfl (by rw [hml]; rfl) (argsL := [(.long x3)]) (rest := []) (lenOf pd_1 rfl) rfl (by show 2 * 0 + _ ≤ _; exact Nat.le_of_eq rfl) (hb hby d6_49) (fun _ _ => ⟨rfl, e0, (by decide : 0 + 0 ≤ _), (by decide : 0 + 0 ≤ _)⟩)
  dsimp only [Pt.U, Pt.locs, Pt.cells, Pt.slots] at X16 l16 y16 z16 st16 hQ16
  subst l16 y16 z16
  obtain ⟨rfl, N16q, hH16⟩ := hQ16
  have N16 := Fr.app N0 N16q
  obtain ⟨lo16, X16, N16⟩ := own_pack X16 N16
  replace X16 : Stand p l e _ s m _ below meth c T16 _ 0 0 := X16
  refine own_adv (B := (T16.setTop (mkF m 52 #[.val (.long x3), .second] [(.long (own_rb x3))]))) (fun t kS => st16 t kS) ?_
  obtain ⟨fs, hr, hrun, hended, hW, hsame⟩ := X16.leave (v := some (.long (own_rb x3))) (fun h => by rw [Bd.returns] at h; cases h)
  refine ⟨_, _, ?_, hrun, hended, _, _, rfl, ?_, ⟨_, rfl⟩, hW, hsame.mono (by decide) (by decide)⟩
  · show Steps p.tables e below (T16.setTop (mkF m 52 #[.val (.long x3), .second] [(.long (own_rb x3))])) _
    exact retOut X16 hx (t := .long) Bd.returns rfl (Or.inr (Or.inl ⟨rfl, rfl, _, rfl⟩)) (hb hby d6_52) hr
  · show Q6 Z q1 h0 n0 _ T16.heap _
    rw [hH16]
    exact ⟨by rw [← hx3, ← hx2, ← hx1]; rfl, N16, rfl⟩
theorem ef_4 (m : MethodId) (x0 : Addr) (x1 : Int64) (x2 : Int32) : entryFrame m #[(.ref x0), (.long x1), (.int x2)] 4 = mkF m 0 #[.val (.ref x0), .val (.long x1), .second, .val (.int x2)] [] := by first | (simp [entryFrame, mkF, argsToLocals, Value.category]; done) | rfl
def Q4 (Z : State) (a1 : Addr) (q2 : Int64) (p3 : Int32) (up uo : Value) (h0 : Heap) (n0 : Nat) (v : Option Value) (h : Heap) (L : List Loc) : Prop := v = none ∧ Fr n0 L ∧ Keep h0 h [a1] ∧ Exa Z h a1 "com/example/latchkey/latchkey/server/gateway/CrcCombination" ∧ Fld Z h a1 "com/example/latchkey/latchkey/server/gateway/CrcCombination" "reflectedPolynomial" "J" (.long (((own_rev q2).toUInt64 >>> (((64 : Int32) - p3) &&& 0x3f).toInt64.toUInt64).toInt64)) ∧ Fld Z h a1 "com/example/latchkey/latchkey/server/gateway/CrcCombination" "one" "J" (.long ((1 : Int64) <<< ((p3 - (1 : Int32)) &&& 0x3f).toInt64))
set_option maxRecDepth 65536 in
set_option maxHeartbeats 40000000 in
theorem rm4 (l : Launch) (Z : State) (a0 : Array Value) (hw : ∀ d ∈ tables_1, d.before a0 Z = true) (ws : List Jvm.Cond) (a1 : Addr) (q2 : Int64) (p3 : Int32) (up uo : Value) (h0 : Heap) (n0 : Nat) (Z0 : n0 ≤ h0.size) (Ea : Exa Z h0 a1 "com/example/latchkey/latchkey/server/gateway/CrcCombination") (Fp : Fld Z h0 a1 "com/example/latchkey/latchkey/server/gateway/CrcCombination" "reflectedPolynomial" "J" up) (Fo : Fld Z h0 a1 "com/example/latchkey/latchkey/server/gateway/CrcCombination" "one" "J" uo) (ga : n0 ≤ a1) :
    MetFree l (⟨"com/example/latchkey/latchkey/server/gateway/CrcCombination", "<init>", "(JI)V"⟩ : MethodName) (head1 (Jvm.Cond.code (⟨"com/example/latchkey/latchkey/server/gateway/CrcCombination", "<init>", "(JI)V"⟩ : MethodName) prog_13_method_1_code 4 none :: ws) ({ frames := 2, cells := 0, slots := 0, locals := 27 } : Room)) (fun a U => a = #[(.ref a1), (.long q2), (.int p3)] ∧ Z.Warmed39 U.vm ∧ U.heap = h0) (fun _ _ _ _ _ => True) (fun _ U o U' => ∃ v L, o = .returned v ∧ Q4 Z a1 q2 p3 up uo h0 n0 v U'.heap L ∧ FrameEnd U o U' L ({ frames := 2, cells := 0, slots := 0, locals := 27 } : Room).cells ({ frames := 2, cells := 0, slots := 0, locals := 27 } : Room).slots) := by
  refine MetFree.of_bodySF (plainFor_of_name pn_4) hisR ?_
  intro p e s m args below meth c s₁ Bd hml0 hP hK
  obtain ⟨rfl, hZ, hh⟩ := hP
  have hx := Bd.exec
  have hby := Bd.bytes
  have hml : c.maxLocals = 4 := hml0
  have hown : s.vm.findClass "com/example/latchkey/latchkey/server/gateway/CrcCombination" = some m.cls := findClass_of_methodNamed Bd.named
  have hnm := (name_of_methodNamed Bd.named Bd.method).1
  have X0 : Stand p l e ({ frames := 2, cells := 0, slots := 0, locals := 27 } : Room) s m #[(.ref a1), (.long q2), (.int p3)] below meth c s₁ [] 0 0 := Stand.of_body Bd
  have e0 : s₁.heap = h0 := by rw [← hh, Bd.state]; rfl
  have N0 := Fr.nil n0
  refine own_adv (B := (s₁.setTop (mkF m 0 #[.val (.ref a1), .val (.long q2), .second, .val (.int p3)] []))) (fun t k => castTop (ef_4 m a1 q2 p3) k) ?_
  refine own_adv (B := (s₁.setTop (mkF m 1 #[.val (.ref a1), .val (.long q2), .second, .val (.int p3)] [(.ref a1)]))) (fun t kS => ?_) ?_
  · show Steps p.tables e below (s₁.setTop (mkF m 0 #[.val (.ref a1), .val (.long q2), .second, .val (.int p3)] [])) _
    refine XS.aloadN X0.here hx rfl (hb hby d4_0) rfl rfl ?_
    exact kS
  obtain ⟨T17, X17, e17, st17⟩ := initO X0 hx hZ hown (hw _ (List.mem_of_getElem? (i := 18) rfl)) (hw _ (List.mem_of_getElem? (i := 19) rfl)) (hw _ (List.mem_of_getElem? (i := 20) rfl)) e0 (g := (mkF m 1 #[.val (.ref a1), .val (.long q2), .second, .val (.int p3)] [(.ref a1)])) rfl (by rw [hml]; rfl) rfl (hb hby d4_1) (by decide) (W := 0) (by show 2 * 0 + _ ≤ _; exact Nat.le_of_eq rfl) (by decide)
  refine own_adv (B := (T17.setTop (mkF m 4 #[.val (.ref a1), .val (.long q2), .second, .val (.int p3)] []))) st17 ?_
  refine own_adv (B := (T17.setTop (mkF m 6 #[.val (.ref a1), .val (.long q2), .second, .val (.int p3)] [(.long q2), (.ref a1)]))) (fun t kS => ?_) ?_
  · show Steps p.tables e below (T17.setTop (mkF m 4 #[.val (.ref a1), .val (.long q2), .second, .val (.int p3)] [])) _
    refine XS.aloadN X17.here hx rfl (hb hby d4_4) rfl rfl ?_
    show Steps p.tables e below (T17.setTop (mkF m 5 #[.val (.ref a1), .val (.long q2), .second, .val (.int p3)] [(.ref a1)])) _
    refine XS.lloadN X17.here hx rfl (hb hby d4_5) rfl ?_
    exact kS
  obtain ⟨_, _, ⟨T18, L18, k18, n18⟩, -, X18, ⟨Lc18, hQ18, l18, y18, z18⟩, st18⟩ := Jvm.LawKit.callS X17 hx (y := (⟨"java/lang/Long", "reverse", "(J)J"⟩ : MethodName)) hown (mvT hZ (hw _ (List.mem_of_getElem? (i := 21) rfl))) (mvT hZ (hw _ (List.mem_of_getElem? (i := 22) rfl))) (mvT hZ (hw _ (List.mem_of_getElem? (i := 23) rfl))) (mvT hZ (hw _ (List.mem_of_getElem? (i := 24) rfl))) (by decide) (backOf (W := 1) (rm6 l Z a0 hw [] q2 h0 n0 Z0) hZ (hw _ (List.mem_of_getElem? (i := 24) rfl)) (hw _ (List.mem_of_getElem? (i := 23) rfl)) (by decide) (by decide)) (g := (mkF m 6 #[.val (.ref a1), .val (.long q2), .second, .val (.int p3)] [(.long q2), (.ref a1)])) rfl (by rw [hml]; rfl) (argsL := [(.long q2)]) (rest := [(.ref a1)]) (lenOf pd_1 rfl) rfl (by show 2 * 0 + _ ≤ _; exact Nat.le_of_eq rfl) (hb hby d4_6) (fun _ _ => ⟨rfl, e17, (by decide : 0 + 0 ≤ _), (by decide : 0 + 0 ≤ _)⟩)
  dsimp only [Pt.U, Pt.locs, Pt.cells, Pt.slots] at X18 l18 y18 z18 st18 hQ18
  subst l18 y18 z18
  obtain ⟨rfl, N18q, hH18⟩ := hQ18
  have N18 := Fr.app N0 N18q
  obtain ⟨lo18, X18, N18⟩ := own_pack X18 N18
  replace X18 : Stand p l e _ s m _ below meth c T18 _ 0 0 := X18
  refine own_adv (B := (T18.setTop (mkF m 9 #[.val (.ref a1), .val (.long q2), .second, .val (.int p3)] [(.long (own_rev q2)), (.ref a1)]))) (fun t kS => st18 t kS) ?_
  refine own_adv (B := (T18.setTop (mkF m 14 #[.val (.ref a1), .val (.long q2), .second, .val (.int p3)] [(.long (((own_rev q2).toUInt64 >>> (((64 : Int32) - p3) &&& 0x3f).toInt64.toUInt64).toInt64)), (.ref a1)]))) (fun t kS => ?_) ?_
  · show Steps p.tables e below (T18.setTop (mkF m 9 #[.val (.ref a1), .val (.long q2), .second, .val (.int p3)] [(.long (own_rev q2)), (.ref a1)])) _
    refine XS.bipush X18.here hx rfl (hb hby d4_9) ?_
    show Steps p.tables e below (T18.setTop (mkF m 11 #[.val (.ref a1), .val (.long q2), .second, .val (.int p3)] [(.int (64 : Int32)), (.long (own_rev q2)), (.ref a1)])) _
    refine XS.iloadN X18.here hx rfl (hb hby d4_11) rfl ?_
    show Steps p.tables e below (T18.setTop (mkF m 12 #[.val (.ref a1), .val (.long q2), .second, .val (.int p3)] [(.int p3), (.int (64 : Int32)), (.long (own_rev q2)), (.ref a1)])) _
    refine XS.isub X18.here hx rfl (hb hby d4_12) rfl ?_
    show Steps p.tables e below (T18.setTop (mkF m 13 #[.val (.ref a1), .val (.long q2), .second, .val (.int p3)] [(.int ((64 : Int32) - p3)), (.long (own_rev q2)), (.ref a1)])) _
    refine XS.lushr X18.here hx rfl (hb hby d4_13) rfl ?_
    exact kS
  obtain ⟨T19, h19, X19, e19, W19, st19⟩ := putF X18 hx hZ hown (host := "") (Or.inl (hw _ (List.mem_of_getElem? (i := 33) rfl))) Via.refl hH18 Fp Ea (Or.inr ⟨(hw _ (List.mem_of_getElem? (i := 34) rfl)), rfl, hnm⟩) (hw _ (List.mem_of_getElem? (i := 13) rfl)) (ty := .long) (by decide) rfl rfl (g := (mkF m 14 #[.val (.ref a1), .val (.long q2), .second, .val (.int p3)] [(.long (((own_rev q2).toUInt64 >>> (((64 : Int32) - p3) &&& 0x3f).toInt64.toUInt64).toInt64)), (.ref a1)])) rfl rfl (hb hby d4_14)
  have N19 := Fr.snoc X19 N18 ga
  obtain ⟨lo19, X19, N19⟩ := own_pack X19 N19
  refine own_adv (B := (T19.setTop (mkF m 17 #[.val (.ref a1), .val (.long q2), .second, .val (.int p3)] []))) st19 ?_
  have Fp1 := Fp.same W19
  have Fo1 := Fo.other W19 (Or.inr (slot_ne (Or.inr (hw _ (List.mem_of_getElem? (i := 36) rfl))) (Or.inr (hw _ (List.mem_of_getElem? (i := 34) rfl))) (by decide) (t := .long) (t' := .long) (by decide) (by decide)))
  have Ea1 := Ea.wr W19
  have K1 : Keep h0 h19 [a1] := (Keep.refl h0 [a1]).wr W19 (Or.inl (List.mem_singleton.mpr rfl))
  refine own_adv (B := (T19.setTop (mkF m 23 #[.val (.ref a1), .val (.long q2), .second, .val (.int p3)] [(.long ((1 : Int64) <<< ((p3 - (1 : Int32)) &&& 0x3f).toInt64)), (.ref a1)]))) (fun t kS => ?_) ?_
  · show Steps p.tables e below (T19.setTop (mkF m 17 #[.val (.ref a1), .val (.long q2), .second, .val (.int p3)] [])) _
    refine XS.aloadN X19.here hx rfl (hb hby d4_17) rfl rfl ?_
    show Steps p.tables e below (T19.setTop (mkF m 18 #[.val (.ref a1), .val (.long q2), .second, .val (.int p3)] [(.ref a1)])) _
    refine XS.lconst X19.here hx rfl (hb hby d4_18) ?_
    show Steps p.tables e below (T19.setTop (mkF m 19 #[.val (.ref a1), .val (.long q2), .second, .val (.int p3)] [(.long (1 : Int64)), (.ref a1)])) _
    refine XS.iloadN X19.here hx rfl (hb hby d4_19) rfl ?_
    show Steps p.tables e below (T19.setTop (mkF m 20 #[.val (.ref a1), .val (.long q2), .second, .val (.int p3)] [(.int p3), (.long (1 : Int64)), (.ref a1)])) _
    refine XS.iconst X19.here hx rfl (hb hby d4_20) ?_
    show Steps p.tables e below (T19.setTop (mkF m 21 #[.val (.ref a1), .val (.long q2), .second, .val (.int p3)] [(.int (1 : Int32)), (.int p3), (.long (1 : Int64)), (.ref a1)])) _
    refine XS.isub X19.here hx rfl (hb hby d4_21) rfl ?_
    show Steps p.tables e below (T19.setTop (mkF m 22 #[.val (.ref a1), .val (.long q2), .second, .val (.int p3)] [(.int (p3 - (1 : Int32))), (.long (1 : Int64)), (.ref a1)])) _
    refine XS.lshl X19.here hx rfl (hb hby d4_22) rfl ?_
    exact kS
  obtain ⟨T20, h20, X20, e20, W20, st20⟩ := putF X19 hx hZ hown (host := "") (Or.inl (hw _ (List.mem_of_getElem? (i := 35) rfl))) Via.refl e19 Fo1 Ea1 (Or.inr ⟨(hw _ (List.mem_of_getElem? (i := 36) rfl)), rfl, hnm⟩) (hw _ (List.mem_of_getElem? (i := 13) rfl)) (ty := .long) (by decide) rfl rfl (g := (mkF m 23 #[.val (.ref a1), .val (.long q2), .second, .val (.int p3)] [(.long ((1 : Int64) <<< ((p3 - (1 : Int32)) &&& 0x3f).toInt64)), (.ref a1)])) rfl rfl (hb hby d4_23)
  have N20 := Fr.snoc X20 N19 ga
  obtain ⟨lo20, X20, N20⟩ := own_pack X20 N20
  refine own_adv (B := (T20.setTop (mkF m 26 #[.val (.ref a1), .val (.long q2), .second, .val (.int p3)] []))) st20 ?_
  have Fo2 := Fo1.same W20
  have Fp2 := Fp1.other W20 (Or.inr (slot_ne (Or.inr (hw _ (List.mem_of_getElem? (i := 34) rfl))) (Or.inr (hw _ (List.mem_of_getElem? (i := 36) rfl))) (by decide) (t := .long) (t' := .long) (by decide) (by decide)))
  have Ea2 := Ea1.wr W20
  have K2 : Keep h0 h20 [a1] := K1.wr W20 (Or.inl (List.mem_singleton.mpr rfl))
  obtain ⟨fs, hr, hrun, hended, hW, hsame⟩ := X20.leave (v := none) (fun _ => rfl)
  refine ⟨_, _, ?_, hrun, hended, _, _, rfl, ?_, ⟨_, rfl⟩, hW, hsame.mono (by decide) (by decide)⟩
  · show Steps p.tables e below (T20.setTop (mkF m 26 #[.val (.ref a1), .val (.long q2), .second, .val (.int p3)] [])) _
    exact X20.returnOut hx Bd.returns (hb hby d4_26) hr
  · show Q4 Z a1 q2 p3 up uo h0 n0 _ T20.heap _
    rw [e20]
    exact ⟨rfl, N20, K2, Ea2, Fp2, Fo2⟩
theorem ef_13 (m : MethodId) (x0 : Addr) (x1 : Int64) : entryFrame m #[(.ref x0), (.long x1)] 3 = mkF m 0 #[.val (.ref x0), .val (.long x1), .second] [] := by first | (simp [entryFrame, mkF, argsToLocals, Value.category]; done) | rfl
def Q13 (Z : State) (a1 : Addr) (q2 : Int64) (rp : Int64) (h0 : Heap) (n0 : Nat) (v : Option Value) (h : Heap) (L : List Loc) : Prop := v = some (.long (own_T rp q2)) ∧ Fr n0 L ∧ h = h0
set_option maxRecDepth 65536 in
set_option maxHeartbeats 40000000 in
theorem rm13 (l : Launch) (Z : State) (a0 : Array Value) (hw : ∀ d ∈ tables_1, d.before a0 Z = true) (ws : List Jvm.Cond) (a1 : Addr) (q2 : Int64) (rp : Int64) (h0 : Heap) (n0 : Nat) (Z0 : n0 ≤ h0.size) (Fp : Fld Z h0 a1 "com/example/latchkey/latchkey/server/gateway/CrcCombination" "reflectedPolynomial" "J" (.long rp)) :
    MetFree l (⟨"com/example/latchkey/latchkey/server/gateway/CrcCombination", "timesX", "(J)J"⟩ : MethodName) (head1 (Jvm.Cond.code (⟨"com/example/latchkey/latchkey/server/gateway/CrcCombination", "timesX", "(J)J"⟩ : MethodName) prog_13_method_5_code 3 (some .long) :: ws) ({ frames := 0, cells := 0, slots := 0, locals := 0 } : Room)) (fun a U => a = #[(.ref a1), (.long q2)] ∧ Z.Warmed39 U.vm ∧ U.heap = h0) (fun _ _ _ _ _ => True) (fun _ U o U' => ∃ v L, o = .returned v ∧ Q13 Z a1 q2 rp h0 n0 v U'.heap L ∧ FrameEnd U o U' L ({ frames := 0, cells := 0, slots := 0, locals := 0 } : Room).cells ({ frames := 0, cells := 0, slots := 0, locals := 0 } : Room).slots) := by
  refine MetFree.of_bodySF (plainFor_of_name pn_13) hisR ?_
  intro p e s m args below meth c s₁ Bd hml0 hP hK
  obtain ⟨rfl, hZ, hh⟩ := hP
  have hx := Bd.exec
  have hby := Bd.bytes
  have hml : c.maxLocals = 3 := hml0
  have hown : s.vm.findClass "com/example/latchkey/latchkey/server/gateway/CrcCombination" = some m.cls := findClass_of_methodNamed Bd.named
  have hnm := (name_of_methodNamed Bd.named Bd.method).1
  have X0 : Stand p l e ({ frames := 0, cells := 0, slots := 0, locals := 0 } : Room) s m #[(.ref a1), (.long q2)] below meth c s₁ [] 0 0 := Stand.of_body Bd
  have e0 : s₁.heap = h0 := by rw [← hh, Bd.state]; rfl
  have N0 := Fr.nil n0
  refine own_adv (B := (s₁.setTop (mkF m 0 #[.val (.ref a1), .val (.long q2), .second] []))) (fun t k => castTop (ef_13 m a1 q2) k) ?_
  refine own_adv (B := (s₁.setTop (mkF m 5 #[.val (.ref a1), .val (.long q2), .second] [(.int (lcmpW (q2 &&& (1 : Int64)) (0 : Int64)))]))) (fun t kS => ?_) ?_
  · show Steps p.tables e below (s₁.setTop (mkF m 0 #[.val (.ref a1), .val (.long q2), .second] [])) _
    refine XS.lloadN X0.here hx rfl (hb hby d13_0) rfl ?_
    show Steps p.tables e below (s₁.setTop (mkF m 1 #[.val (.ref a1), .val (.long q2), .second] [(.long q2)])) _
    refine XS.lconst X0.here hx rfl (hb hby d13_1) ?_
    show Steps p.tables e below (s₁.setTop (mkF m 2 #[.val (.ref a1), .val (.long q2), .second] [(.long (1 : Int64)), (.long q2)])) _
    refine XS.land X0.here hx rfl (hb hby d13_2) rfl ?_
    show Steps p.tables e below (s₁.setTop (mkF m 3 #[.val (.ref a1), .val (.long q2), .second] [(.long (q2 &&& (1 : Int64)))])) _
    refine XS.lconst X0.here hx rfl (hb hby d13_3) ?_
    show Steps p.tables e below (s₁.setTop (mkF m 4 #[.val (.ref a1), .val (.long q2), .second] [(.long (0 : Int64)), (.long (q2 &&& (1 : Int64)))])) _
    refine XS.lcmp X0.here hx rfl (hb hby d13_4) rfl ?_
    exact kS
  by_cases hbt : (lcmpW (q2 &&& (1 : Int64)) (0 : Int64)) = (0 : Int32)
  · refine own_adv (B := (s₁.setTop (mkF m 22 #[.val (.ref a1), .val (.long q2), .second] [(.long ((q2.toUInt64 >>> ((1 : Int32) &&& 0x3f).toInt64.toUInt64).toInt64))]))) (fun t kS => ?_) ?_
    · show Steps p.tables e below (s₁.setTop (mkF m 5 #[.val (.ref a1), .val (.long q2), .second] [(.int (lcmpW (q2 &&& (1 : Int64)) (0 : Int64)))])) _
      refine XS.ifYes X0.here hx rfl (pc0 := 5) (pc' := 19) rfl (hb hby d13_5) rfl ((if0 _ _).trans (teq hbt).1) (by decide) (by decide) ?_
      show Steps p.tables e below (s₁.setTop (mkF m 19 #[.val (.ref a1), .val (.long q2), .second] [])) _
      refine XS.lloadN X0.here hx rfl (hb hby d13_19) rfl ?_
      show Steps p.tables e below (s₁.setTop (mkF m 20 #[.val (.ref a1), .val (.long q2), .second] [(.long q2)])) _
      refine XS.iconst X0.here hx rfl (hb hby d13_20) ?_
      show Steps p.tables e below (s₁.setTop (mkF m 21 #[.val (.ref a1), .val (.long q2), .second] [(.int (1 : Int32)), (.long q2)])) _
      refine XS.lushr X0.here hx rfl (hb hby d13_21) rfl ?_
      exact kS
    obtain ⟨fs, hr, hrun, hended, hW, hsame⟩ := X0.leave (v := some (.long ((q2.toUInt64 >>> ((1 : Int32) &&& 0x3f).toInt64.toUInt64).toInt64))) (fun h => by rw [Bd.returns] at h; cases h)
    refine ⟨_, _, ?_, hrun, hended, _, _, rfl, ?_, ⟨_, rfl⟩, hW, hsame.mono (by decide) (by decide)⟩
    · show Steps p.tables e below (s₁.setTop (mkF m 22 #[.val (.ref a1), .val (.long q2), .second] [(.long ((q2.toUInt64 >>> ((1 : Int32) &&& 0x3f).toInt64.toUInt64).toInt64))])) _
      exact retOut X0 hx (t := .long) Bd.returns rfl (Or.inr (Or.inl ⟨rfl, rfl, _, rfl⟩)) (hb hby d13_22) hr
    · show Q13 Z a1 q2 rp h0 n0 _ s₁.heap _
      rw [e0]
      exact ⟨by rw [← own_T_even rp q2 hbt], N0, rfl⟩
  · refine own_adv (B := (s₁.setTop (mkF m 12 #[.val (.ref a1), .val (.long q2), .second] [(.ref a1), (.long ((q2.toUInt64 >>> ((1 : Int32) &&& 0x3f).toInt64.toUInt64).toInt64))]))) (fun t kS => ?_) ?_
    · show Steps p.tables e below (s₁.setTop (mkF m 5 #[.val (.ref a1), .val (.long q2), .second] [(.int (lcmpW (q2 &&& (1 : Int64)) (0 : Int64)))])) _
      refine XS.ifNo X0.here hx rfl (hb hby d13_5) rfl ((if0 _ _).trans (feq hbt).1) ?_
      show Steps p.tables e below (s₁.setTop (mkF m 8 #[.val (.ref a1), .val (.long q2), .second] [])) _
      refine XS.lloadN X0.here hx rfl (hb hby d13_8) rfl ?_
      show Steps p.tables e below (s₁.setTop (mkF m 9 #[.val (.ref a1), .val (.long q2), .second] [(.long q2)])) _
      refine XS.iconst X0.here hx rfl (hb hby d13_9) ?_
      show Steps p.tables e below (s₁.setTop (mkF m 10 #[.val (.ref a1), .val (.long q2), .second] [(.int (1 : Int32)), (.long q2)])) _
      refine XS.lushr X0.here hx rfl (hb hby d13_10) rfl ?_
      show Steps p.tables e below (s₁.setTop (mkF m 11 #[.val (.ref a1), .val (.long q2), .second] [(.long ((q2.toUInt64 >>> ((1 : Int32) &&& 0x3f).toInt64.toUInt64).toInt64))])) _
      refine XS.aloadN X0.here hx rfl (hb hby d13_11) rfl rfl ?_
      exact kS
    obtain ⟨T21, X21, e21, st21⟩ := getF X0 hx hZ hown (host := "") (Or.inl (hw _ (List.mem_of_getElem? (i := 33) rfl))) Via.refl e0 Fp (g := (mkF m 12 #[.val (.ref a1), .val (.long q2), .second] [(.ref a1), (.long ((q2.toUInt64 >>> ((1 : Int32) &&& 0x3f).toInt64.toUInt64).toInt64))])) rfl rfl (hb hby d13_12)
    refine own_adv (B := (T21.setTop (mkF m 15 #[.val (.ref a1), .val (.long q2), .second] [(.long rp), (.long ((q2.toUInt64 >>> ((1 : Int32) &&& 0x3f).toInt64.toUInt64).toInt64))]))) st21 ?_
    refine own_adv (B := (T21.setTop (mkF m 22 #[.val (.ref a1), .val (.long q2), .second] [(.long (((q2.toUInt64 >>> ((1 : Int32) &&& 0x3f).toInt64.toUInt64).toInt64) ^^^ rp))]))) (fun t kS => ?_) ?_
    · show Steps p.tables e below (T21.setTop (mkF m 15 #[.val (.ref a1), .val (.long q2), .second] [(.long rp), (.long ((q2.toUInt64 >>> ((1 : Int32) &&& 0x3f).toInt64.toUInt64).toInt64))])) _
      refine XS.lxor X21.here hx rfl (hb hby d13_15) rfl ?_
      show Steps p.tables e below (T21.setTop (mkF m 16 #[.val (.ref a1), .val (.long q2), .second] [(.long (((q2.toUInt64 >>> ((1 : Int32) &&& 0x3f).toInt64.toUInt64).toInt64) ^^^ rp))])) _
      refine XS.goto X21.here hx rfl (pc0 := 16) (pc' := 22) rfl (hb hby d13_16) (by decide) (by decide) ?_
      exact kS
    obtain ⟨fs, hr, hrun, hended, hW, hsame⟩ := X21.leave (v := some (.long (((q2.toUInt64 >>> ((1 : Int32) &&& 0x3f).toInt64.toUInt64).toInt64) ^^^ rp))) (fun h => by rw [Bd.returns] at h; cases h)
    refine ⟨_, _, ?_, hrun, hended, _, _, rfl, ?_, ⟨_, rfl⟩, hW, hsame.mono (by decide) (by decide)⟩
    · show Steps p.tables e below (T21.setTop (mkF m 22 #[.val (.ref a1), .val (.long q2), .second] [(.long (((q2.toUInt64 >>> ((1 : Int32) &&& 0x3f).toInt64.toUInt64).toInt64) ^^^ rp))])) _
      exact retOut X21 hx (t := .long) Bd.returns rfl (Or.inr (Or.inl ⟨rfl, rfl, _, rfl⟩)) (hb hby d13_22) hr
    · show Q13 Z a1 q2 rp h0 n0 _ T21.heap _
      rw [e21]
      exact ⟨by rw [← own_T_odd rp q2 hbt], N0, rfl⟩
set_option maxRecDepth 65536 in
set_option maxHeartbeats 40000000 in
theorem own_mloop {p : Program} {l : Launch} {e : Env} {s : State} {m : MethodId} {args : Array Value} {below : List Frame} {meth : Method} {c : Code} {Z : State} {a0 : Array Value} {h0 : Heap} {n0 : Nat} {P : State → Outcome → Prop} (hx : p.tables.exec = Jvm.exec) (hZ : Z.Warmed39 s.vm) (hw : ∀ d ∈ tables_1, d.before a0 Z = true) (hby : c.code = prog_13_method_4_code) (hml : c.maxLocals = 11) (hown : s.vm.findClass "com/example/latchkey/latchkey/server/gateway/CrcCombination" = some m.cls) (Z0 : n0 ≤ h0.size) (a1 : Addr) (q2 q3 rp : Int64) (Ea : Exa Z h0 a1 "com/example/latchkey/latchkey/server/gateway/CrcCombination") (Fp : Fld Z h0 a1 "com/example/latchkey/latchkey/server/gateway/CrcCombination" "reflectedPolynomial" "J" (.long rp)) :
    ∀ (k : Nat), k ≤ 64 → ∀ (T0 : State) (locs : List Loc) (pr sh : Int64), Stand p l e ({ frames := 1, cells := 0, slots := 0, locals := 14 } : Room) s m args below meth c T0 locs 0 0 → T0.heap = h0 → Fr n0 locs →
      (∀ (T' : State) (locs' : List Loc) (sh' : Int64), Stand p l e ({ frames := 1, cells := 0, slots := 0, locals := 14 } : Room) s m args below meth c T' locs' 0 0 → T'.heap = h0 → Fr n0 locs' → ∃ t o, Steps p.tables e below (T'.setTop (mkF m 52 #[.val (.ref a1), .val (.long q2), .second, .val (.long q3), .second, .val (.long (own_Mf rp q2 k sh pr)), .second, .val (.long sh'), .second, .val (.long (own_tm 0)), .second] [])) t ∧ P t o) →
      ∃ t o, Steps p.tables e below (T0.setTop (mkF m 12 #[.val (.ref a1), .val (.long q2), .second, .val (.long q3), .second, .val (.long pr), .second, .val (.long sh), .second, .val (.long (own_tm k)), .second] [])) t ∧ P t o := by
  intro k
  induction k with
  | zero =>
    intro _ T0 locs pr sh X0 e0 N0 cont
    refine own_adv (B := (T0.setTop (mkF m 52 #[.val (.ref a1), .val (.long q2), .second, .val (.long q3), .second, .val (.long pr), .second, .val (.long sh), .second, .val (.long (own_tm 0)), .second] []))) (fun t kS => ?_) ?_
    · show Steps p.tables e below (T0.setTop (mkF m 12 #[.val (.ref a1), .val (.long q2), .second, .val (.long q3), .second, .val (.long pr), .second, .val (.long sh), .second, .val (.long (own_tm 0)), .second] [])) _
      refine XS.lload X0.here hx rfl (hb hby d12_12) rfl ?_
      show Steps p.tables e below (T0.setTop (mkF m 14 #[.val (.ref a1), .val (.long q2), .second, .val (.long q3), .second, .val (.long pr), .second, .val (.long sh), .second, .val (.long (own_tm 0)), .second] [(.long (own_tm 0))])) _
      refine XS.lconst X0.here hx rfl (hb hby d12_14) ?_
      show Steps p.tables e below (T0.setTop (mkF m 15 #[.val (.ref a1), .val (.long q2), .second, .val (.long q3), .second, .val (.long pr), .second, .val (.long sh), .second, .val (.long (own_tm 0)), .second] [(.long (0 : Int64)), (.long (own_tm 0))])) _
      refine XS.lcmp X0.here hx rfl (hb hby d12_15) rfl ?_
      show Steps p.tables e below (T0.setTop (mkF m 16 #[.val (.ref a1), .val (.long q2), .second, .val (.long q3), .second, .val (.long pr), .second, .val (.long sh), .second, .val (.long (own_tm 0)), .second] [(.int (lcmpW (own_tm 0) (0 : Int64)))])) _
      refine XS.ifYes X0.here hx rfl (pc0 := 16) (pc' := 52) rfl (hb hby d12_16) rfl ((if0 _ _).trans (teq own_tm_zero).1) (by decide) (by decide) ?_
      exact kS
    have hc := cont T0 locs sh X0 e0 N0
    rw [own_Mf_zero] at hc
    exact hc
  | succ k ih =>
    intro hk T0 locs pr sh X0 e0 N0 cont
    refine own_adv (B := (T0.setTop (mkF m 19 #[.val (.ref a1), .val (.long q2), .second, .val (.long q3), .second, .val (.long pr), .second, .val (.long sh), .second, .val (.long (own_tm (k + 1))), .second] []))) (fun t kS => ?_) ?_
    · show Steps p.tables e below (T0.setTop (mkF m 12 #[.val (.ref a1), .val (.long q2), .second, .val (.long q3), .second, .val (.long pr), .second, .val (.long sh), .second, .val (.long (own_tm (k + 1))), .second] [])) _
      refine XS.lload X0.here hx rfl (hb hby d12_12) rfl ?_
      show Steps p.tables e below (T0.setTop (mkF m 14 #[.val (.ref a1), .val (.long q2), .second, .val (.long q3), .second, .val (.long pr), .second, .val (.long sh), .second, .val (.long (own_tm (k + 1))), .second] [(.long (own_tm (k + 1)))])) _
      refine XS.lconst X0.here hx rfl (hb hby d12_14) ?_
      show Steps p.tables e below (T0.setTop (mkF m 15 #[.val (.ref a1), .val (.long q2), .second, .val (.long q3), .second, .val (.long pr), .second, .val (.long sh), .second, .val (.long (own_tm (k + 1))), .second] [(.long (0 : Int64)), (.long (own_tm (k + 1)))])) _
      refine XS.lcmp X0.here hx rfl (hb hby d12_15) rfl ?_
      show Steps p.tables e below (T0.setTop (mkF m 16 #[.val (.ref a1), .val (.long q2), .second, .val (.long q3), .second, .val (.long pr), .second, .val (.long sh), .second, .val (.long (own_tm (k + 1))), .second] [(.int (lcmpW (own_tm (k + 1)) (0 : Int64)))])) _
      refine XS.ifNo X0.here hx rfl (hb hby d12_16) rfl ((if0 _ _).trans (feq (own_tm_ne k hk)).1) ?_
      exact kS
    obtain ⟨pr2, hpr2, st22⟩ : ∃ (pr2 : Int64), (pr2 = own_step q2 k pr sh) ∧ ∀ t, Steps p.tables e below (T0.setTop (mkF m 35 #[.val (.ref a1), .val (.long q2), .second, .val (.long q3), .second, .val (.long pr2), .second, .val (.long sh), .second, .val (.long (own_tm (k + 1))), .second] [])) t → Steps p.tables e below (T0.setTop (mkF m 19 #[.val (.ref a1), .val (.long q2), .second, .val (.long q3), .second, .val (.long pr), .second, .val (.long sh), .second, .val (.long (own_tm (k + 1))), .second] [])) t := by
      by_cases hb22_25 : (lcmpW (q2 &&& (own_tm (k + 1))) (0 : Int64)) = (0 : Int32)
      · refine ⟨pr, own_step_no q2 pr sh k hk hb22_25, fun t kS => ?_⟩
        show Steps p.tables e below (T0.setTop (mkF m 19 #[.val (.ref a1), .val (.long q2), .second, .val (.long q3), .second, .val (.long pr), .second, .val (.long sh), .second, .val (.long (own_tm (k + 1))), .second] [])) _
        refine XS.lloadN X0.here hx rfl (hb hby d12_19) rfl ?_
        show Steps p.tables e below (T0.setTop (mkF m 20 #[.val (.ref a1), .val (.long q2), .second, .val (.long q3), .second, .val (.long pr), .second, .val (.long sh), .second, .val (.long (own_tm (k + 1))), .second] [(.long q2)])) _
        refine XS.lload X0.here hx rfl (hb hby d12_20) rfl ?_
        show Steps p.tables e below (T0.setTop (mkF m 22 #[.val (.ref a1), .val (.long q2), .second, .val (.long q3), .second, .val (.long pr), .second, .val (.long sh), .second, .val (.long (own_tm (k + 1))), .second] [(.long (own_tm (k + 1))), (.long q2)])) _
        refine XS.land X0.here hx rfl (hb hby d12_22) rfl ?_
        show Steps p.tables e below (T0.setTop (mkF m 23 #[.val (.ref a1), .val (.long q2), .second, .val (.long q3), .second, .val (.long pr), .second, .val (.long sh), .second, .val (.long (own_tm (k + 1))), .second] [(.long (q2 &&& (own_tm (k + 1))))])) _
        refine XS.lconst X0.here hx rfl (hb hby d12_23) ?_
        show Steps p.tables e below (T0.setTop (mkF m 24 #[.val (.ref a1), .val (.long q2), .second, .val (.long q3), .second, .val (.long pr), .second, .val (.long sh), .second, .val (.long (own_tm (k + 1))), .second] [(.long (0 : Int64)), (.long (q2 &&& (own_tm (k + 1))))])) _
        refine XS.lcmp X0.here hx rfl (hb hby d12_24) rfl ?_
        show Steps p.tables e below (T0.setTop (mkF m 25 #[.val (.ref a1), .val (.long q2), .second, .val (.long q3), .second, .val (.long pr), .second, .val (.long sh), .second, .val (.long (own_tm (k + 1))), .second] [(.int (lcmpW (q2 &&& (own_tm (k + 1))) (0 : Int64)))])) _
        refine XS.ifYes X0.here hx rfl (pc0 := 25) (pc' := 35) rfl (hb hby d12_25) rfl ((if0 _ _).trans (teq hb22_25).1) (by decide) (by decide) ?_
        exact kS
      · refine ⟨(pr ^^^ sh), own_step_yes q2 pr sh k hk hb22_25, fun t kS => ?_⟩
        show Steps p.tables e below (T0.setTop (mkF m 19 #[.val (.ref a1), .val (.long q2), .second, .val (.long q3), .second, .val (.long pr), .second, .val (.long sh), .second, .val (.long (own_tm (k + 1))), .second] [])) _
        refine XS.lloadN X0.here hx rfl (hb hby d12_19) rfl ?_
        show Steps p.tables e below (T0.setTop (mkF m 20 #[.val (.ref a1), .val (.long q2), .second, .val (.long q3), .second, .val (.long pr), .second, .val (.long sh), .second, .val (.long (own_tm (k + 1))), .second] [(.long q2)])) _
        refine XS.lload X0.here hx rfl (hb hby d12_20) rfl ?_
        show Steps p.tables e below (T0.setTop (mkF m 22 #[.val (.ref a1), .val (.long q2), .second, .val (.long q3), .second, .val (.long pr), .second, .val (.long sh), .second, .val (.long (own_tm (k + 1))), .second] [(.long (own_tm (k + 1))), (.long q2)])) _
        refine XS.land X0.here hx rfl (hb hby d12_22) rfl ?_
        show Steps p.tables e below (T0.setTop (mkF m 23 #[.val (.ref a1), .val (.long q2), .second, .val (.long q3), .second, .val (.long pr), .second, .val (.long sh), .second, .val (.long (own_tm (k + 1))), .second] [(.long (q2 &&& (own_tm (k + 1))))])) _
        refine XS.lconst X0.here hx rfl (hb hby d12_23) ?_
        show Steps p.tables e below (T0.setTop (mkF m 24 #[.val (.ref a1), .val (.long q2), .second, .val (.long q3), .second, .val (.long pr), .second, .val (.long sh), .second, .val (.long (own_tm (k + 1))), .second] [(.long (0 : Int64)), (.long (q2 &&& (own_tm (k + 1))))])) _
        refine XS.lcmp X0.here hx rfl (hb hby d12_24) rfl ?_
        show Steps p.tables e below (T0.setTop (mkF m 25 #[.val (.ref a1), .val (.long q2), .second, .val (.long q3), .second, .val (.long pr), .second, .val (.long sh), .second, .val (.long (own_tm (k + 1))), .second] [(.int (lcmpW (q2 &&& (own_tm (k + 1))) (0 : Int64)))])) _
        refine XS.ifNo X0.here hx rfl (hb hby d12_25) rfl ((if0 _ _).trans (feq hb22_25).1) ?_
        show Steps p.tables e below (T0.setTop (mkF m 28 #[.val (.ref a1), .val (.long q2), .second, .val (.long q3), .second, .val (.long pr), .second, .val (.long sh), .second, .val (.long (own_tm (k + 1))), .second] [])) _
        refine XS.lload X0.here hx rfl (hb hby d12_28) rfl ?_
        show Steps p.tables e below (T0.setTop (mkF m 30 #[.val (.ref a1), .val (.long q2), .second, .val (.long q3), .second, .val (.long pr), .second, .val (.long sh), .second, .val (.long (own_tm (k + 1))), .second] [(.long pr)])) _
        refine XS.lload X0.here hx rfl (hb hby d12_30) rfl ?_
        show Steps p.tables e below (T0.setTop (mkF m 32 #[.val (.ref a1), .val (.long q2), .second, .val (.long q3), .second, .val (.long pr), .second, .val (.long sh), .second, .val (.long (own_tm (k + 1))), .second] [(.long sh), (.long pr)])) _
        refine XS.lxor X0.here hx rfl (hb hby d12_32) rfl ?_
        show Steps p.tables e below (T0.setTop (mkF m 33 #[.val (.ref a1), .val (.long q2), .second, .val (.long q3), .second, .val (.long pr), .second, .val (.long sh), .second, .val (.long (own_tm (k + 1))), .second] [(.long (pr ^^^ sh))])) _
        refine XS.lstore X0.here hx rfl (hb hby d12_33) rfl (l' := #[.val (.ref a1), .val (.long q2), .second, .val (.long q3), .second, .val (.long (pr ^^^ sh)), .second, .val (.long sh), .second, .val (.long (own_tm (k + 1))), .second]) rfl ?_
        exact kS
    refine own_adv st22 ?_
    subst hpr2
    refine own_adv (B := (T0.setTop (mkF m 38 #[.val (.ref a1), .val (.long q2), .second, .val (.long q3), .second, .val (.long (own_step q2 k pr sh)), .second, .val (.long sh), .second, .val (.long (own_tm (k + 1))), .second] [(.long sh), (.ref a1)]))) (fun t kS => ?_) ?_
    · show Steps p.tables e below (T0.setTop (mkF m 35 #[.val (.ref a1), .val (.long q2), .second, .val (.long q3), .second, .val (.long (own_step q2 k pr sh)), .second, .val (.long sh), .second, .val (.long (own_tm (k + 1))), .second] [])) _
      refine XS.aloadN X0.here hx rfl (hb hby d12_35) rfl rfl ?_
      show Steps p.tables e below (T0.setTop (mkF m 36 #[.val (.ref a1), .val (.long q2), .second, .val (.long q3), .second, .val (.long (own_step q2 k pr sh)), .second, .val (.long sh), .second, .val (.long (own_tm (k + 1))), .second] [(.ref a1)])) _
      refine XS.lload X0.here hx rfl (hb hby d12_36) rfl ?_
      exact kS
    obtain ⟨cq23, q23, q23'⟩ := Ea.cell
    obtain ⟨_, _, ⟨T23, L23, k23, n23⟩, -, X23, ⟨Lc23, hQ23, l23, y23, z23⟩, st23⟩ := X0.privateBack hx (y := (⟨"com/example/latchkey/latchkey/server/gateway/CrcCombination", "timesX", "(J)J"⟩ : MethodName)) hown (mvT hZ (hw _ (List.mem_of_getElem? (i := 57) rfl))) (mvT hZ (hw _ (List.mem_of_getElem? (i := 58) rfl))) (own_sel hZ (hw _ (List.mem_of_getElem? (i := 13) rfl)) (hw _ (List.mem_of_getElem? (i := 59) rfl)) (hw _ (List.mem_of_getElem? (i := 58) rfl)) (by decide)) (Cond.privateMethod_at (mvP hZ (hw _ (List.mem_of_getElem? (i := 59) rfl)) (args := #[]))) (mvT hZ (hw _ (List.mem_of_getElem? (i := 60) rfl))) (by decide) (backOf (W := 0) (rm13 l Z a0 hw [] a1 sh rp h0 n0 Z0 Fp) hZ (hw _ (List.mem_of_getElem? (i := 60) rfl)) (hw _ (List.mem_of_getElem? (i := 14) rfl)) (by decide) (by decide)) (g := (mkF m 38 #[.val (.ref a1), .val (.long q2), .second, .val (.long q3), .second, .val (.long (own_step q2 k pr sh)), .second, .val (.long sh), .second, .val (.long (own_tm (k + 1))), .second] [(.long sh), (.ref a1)])) rfl (by rw [hml]; rfl) (Steps.refl _) (a := a1) (by rw [e0]; exact q23) q23' (argsL := [(.long sh)]) (rest := []) (lenOf pd_1 rfl) rfl (by show 2 * 0 + _ ≤ _; exact Nat.le_of_eq rfl) (hb hby d12_38) (fun _ _ => ⟨rfl, e0, (by decide : 0 + 0 ≤ _), (by decide : 0 + 0 ≤ _)⟩)
    dsimp only [Pt.U, Pt.locs, Pt.cells, Pt.slots] at X23 l23 y23 z23 st23 hQ23
    subst l23 y23 z23
    obtain ⟨rfl, N23q, hH23⟩ := hQ23
    have N23 := Fr.app N0 N23q
    obtain ⟨lo23, X23, N23⟩ := own_pack X23 N23
    replace X23 : Stand p l e _ s m _ below meth c T23 _ 0 0 := X23
    refine own_adv (B := (T23.setTop (mkF m 41 #[.val (.ref a1), .val (.long q2), .second, .val (.long q3), .second, .val (.long (own_step q2 k pr sh)), .second, .val (.long sh), .second, .val (.long (own_tm (k + 1))), .second] [(.long (own_T rp sh))]))) (fun t kS => st23.trans kS) ?_
    refine own_adv (B := (T23.setTop (mkF m 12 #[.val (.ref a1), .val (.long q2), .second, .val (.long q3), .second, .val (.long (own_step q2 k pr sh)), .second, .val (.long (own_T rp sh)), .second, .val (.long (((own_tm (k + 1)).toUInt64 >>> ((1 : Int32) &&& 0x3f).toInt64.toUInt64).toInt64)), .second] []))) (fun t kS => ?_) ?_
    · show Steps p.tables e below (T23.setTop (mkF m 41 #[.val (.ref a1), .val (.long q2), .second, .val (.long q3), .second, .val (.long (own_step q2 k pr sh)), .second, .val (.long sh), .second, .val (.long (own_tm (k + 1))), .second] [(.long (own_T rp sh))])) _
      refine XS.lstore X23.here hx rfl (hb hby d12_41) rfl (l' := #[.val (.ref a1), .val (.long q2), .second, .val (.long q3), .second, .val (.long (own_step q2 k pr sh)), .second, .val (.long (own_T rp sh)), .second, .val (.long (own_tm (k + 1))), .second]) rfl ?_
      show Steps p.tables e below (T23.setTop (mkF m 43 #[.val (.ref a1), .val (.long q2), .second, .val (.long q3), .second, .val (.long (own_step q2 k pr sh)), .second, .val (.long (own_T rp sh)), .second, .val (.long (own_tm (k + 1))), .second] [])) _
      refine XS.lload X23.here hx rfl (hb hby d12_43) rfl ?_
      show Steps p.tables e below (T23.setTop (mkF m 45 #[.val (.ref a1), .val (.long q2), .second, .val (.long q3), .second, .val (.long (own_step q2 k pr sh)), .second, .val (.long (own_T rp sh)), .second, .val (.long (own_tm (k + 1))), .second] [(.long (own_tm (k + 1)))])) _
      refine XS.iconst X23.here hx rfl (hb hby d12_45) ?_
      show Steps p.tables e below (T23.setTop (mkF m 46 #[.val (.ref a1), .val (.long q2), .second, .val (.long q3), .second, .val (.long (own_step q2 k pr sh)), .second, .val (.long (own_T rp sh)), .second, .val (.long (own_tm (k + 1))), .second] [(.int (1 : Int32)), (.long (own_tm (k + 1)))])) _
      refine XS.lushr X23.here hx rfl (hb hby d12_46) rfl ?_
      show Steps p.tables e below (T23.setTop (mkF m 47 #[.val (.ref a1), .val (.long q2), .second, .val (.long q3), .second, .val (.long (own_step q2 k pr sh)), .second, .val (.long (own_T rp sh)), .second, .val (.long (own_tm (k + 1))), .second] [(.long (((own_tm (k + 1)).toUInt64 >>> ((1 : Int32) &&& 0x3f).toInt64.toUInt64).toInt64))])) _
      refine XS.lstore X23.here hx rfl (hb hby d12_47) rfl (l' := #[.val (.ref a1), .val (.long q2), .second, .val (.long q3), .second, .val (.long (own_step q2 k pr sh)), .second, .val (.long (own_T rp sh)), .second, .val (.long (((own_tm (k + 1)).toUInt64 >>> ((1 : Int32) &&& 0x3f).toInt64.toUInt64).toInt64)), .second]) rfl ?_
      show Steps p.tables e below (T23.setTop (mkF m 49 #[.val (.ref a1), .val (.long q2), .second, .val (.long q3), .second, .val (.long (own_step q2 k pr sh)), .second, .val (.long (own_T rp sh)), .second, .val (.long (((own_tm (k + 1)).toUInt64 >>> ((1 : Int32) &&& 0x3f).toInt64.toUInt64).toInt64)), .second] [])) _
      refine XS.goto X23.here hx rfl (pc0 := 49) (pc' := 12) rfl (hb hby d12_49) (by decide) (by decide) ?_
      exact kS
    rw [own_tm_shr k hk]
    rw [own_Mf_succ] at cont
    exact ih (by omega) _ _ _ _ X23 hH23 N23 cont
theorem ef_12 (m : MethodId) (x0 : Addr) (x1 : Int64) (x2 : Int64) : entryFrame m #[(.ref x0), (.long x1), (.long x2)] 11 = mkF m 0 #[.val (.ref x0), .val (.long x1), .second, .val (.long x2), .second, .unset, .unset, .unset, .unset, .unset, .unset] [] := by first | (simp [entryFrame, mkF, argsToLocals, Value.category]; done) | rfl
def Q12 (Z : State) (a1 : Addr) (q2 : Int64) (q3 : Int64) (rp : Int64) (w : Nat) (h0 : Heap) (n0 : Nat) (v : Option Value) (h : Heap) (L : List Loc) : Prop := v = some (.long (own_Mul rp w q2 q3)) ∧ Fr n0 L ∧ h = h0
set_option maxRecDepth 65536 in
set_option maxHeartbeats 40000000 in
theorem rm12 (l : Launch) (Z : State) (a0 : Array Value) (hw : ∀ d ∈ tables_1, d.before a0 Z = true) (ws : List Jvm.Cond) (a1 : Addr) (q2 : Int64) (q3 : Int64) (rp : Int64) (w : Nat) (h0 : Heap) (n0 : Nat) (Z0 : n0 ≤ h0.size) (Ea : Exa Z h0 a1 "com/example/latchkey/latchkey/server/gateway/CrcCombination") (Fp : Fld Z h0 a1 "com/example/latchkey/latchkey/server/gateway/CrcCombination" "reflectedPolynomial" "J" (.long rp)) (Fo : Fld Z h0 a1 "com/example/latchkey/latchkey/server/gateway/CrcCombination" "one" "J" (.long (own_tm w))) (h64 : w ≤ 64) :
    MetFree l (⟨"com/example/latchkey/latchkey/server/gateway/CrcCombination", "multiply", "(JJ)J"⟩ : MethodName) (head1 (Jvm.Cond.code (⟨"com/example/latchkey/latchkey/server/gateway/CrcCombination", "multiply", "(JJ)J"⟩ : MethodName) prog_13_method_4_code 11 (some .long) :: ws) ({ frames := 1, cells := 0, slots := 0, locals := 14 } : Room)) (fun a U => a = #[(.ref a1), (.long q2), (.long q3)] ∧ Z.Warmed39 U.vm ∧ U.heap = h0) (fun _ _ _ _ _ => True) (fun _ U o U' => ∃ v L, o = .returned v ∧ Q12 Z a1 q2 q3 rp w h0 n0 v U'.heap L ∧ FrameEnd U o U' L ({ frames := 1, cells := 0, slots := 0, locals := 14 } : Room).cells ({ frames := 1, cells := 0, slots := 0, locals := 14 } : Room).slots) := by
  refine MetFree.of_bodySF (plainFor_of_name pn_12) hisR ?_
  intro p e s m args below meth c s₁ Bd hml0 hP hK
  obtain ⟨rfl, hZ, hh⟩ := hP
  have hx := Bd.exec
  have hby := Bd.bytes
  have hml : c.maxLocals = 11 := hml0
  have hown : s.vm.findClass "com/example/latchkey/latchkey/server/gateway/CrcCombination" = some m.cls := findClass_of_methodNamed Bd.named
  have hnm := (name_of_methodNamed Bd.named Bd.method).1
  have X0 : Stand p l e ({ frames := 1, cells := 0, slots := 0, locals := 14 } : Room) s m #[(.ref a1), (.long q2), (.long q3)] below meth c s₁ [] 0 0 := Stand.of_body Bd
  have e0 : s₁.heap = h0 := by rw [← hh, Bd.state]; rfl
  have N0 := Fr.nil n0
  refine own_adv (B := (s₁.setTop (mkF m 0 #[.val (.ref a1), .val (.long q2), .second, .val (.long q3), .second, .unset, .unset, .unset, .unset, .unset, .unset] []))) (fun t k => castTop (ef_12 m a1 q2 q3) k) ?_
  refine own_adv (B := (s₁.setTop (mkF m 7 #[.val (.ref a1), .val (.long q2), .second, .val (.long q3), .second, .val (.long (0 : Int64)), .second, .val (.long q3), .second, .unset, .unset] [(.ref a1)]))) (fun t kS => ?_) ?_
  · show Steps p.tables e below (s₁.setTop (mkF m 0 #[.val (.ref a1), .val (.long q2), .second, .val (.long q3), .second, .unset, .unset, .unset, .unset, .unset, .unset] [])) _
    refine XS.lconst X0.here hx rfl (hb hby d12_0) ?_
    show Steps p.tables e below (s₁.setTop (mkF m 1 #[.val (.ref a1), .val (.long q2), .second, .val (.long q3), .second, .unset, .unset, .unset, .unset, .unset, .unset] [(.long (0 : Int64))])) _
    refine XS.lstore X0.here hx rfl (hb hby d12_1) rfl (l' := #[.val (.ref a1), .val (.long q2), .second, .val (.long q3), .second, .val (.long (0 : Int64)), .second, .unset, .unset, .unset, .unset]) rfl ?_
    show Steps p.tables e below (s₁.setTop (mkF m 3 #[.val (.ref a1), .val (.long q2), .second, .val (.long q3), .second, .val (.long (0 : Int64)), .second, .unset, .unset, .unset, .unset] [])) _
    refine XS.lloadN X0.here hx rfl (hb hby d12_3) rfl ?_
    show Steps p.tables e below (s₁.setTop (mkF m 4 #[.val (.ref a1), .val (.long q2), .second, .val (.long q3), .second, .val (.long (0 : Int64)), .second, .unset, .unset, .unset, .unset] [(.long q3)])) _
    refine XS.lstore X0.here hx rfl (hb hby d12_4) rfl (l' := #[.val (.ref a1), .val (.long q2), .second, .val (.long q3), .second, .val (.long (0 : Int64)), .second, .val (.long q3), .second, .unset, .unset]) rfl ?_
    show Steps p.tables e below (s₁.setTop (mkF m 6 #[.val (.ref a1), .val (.long q2), .second, .val (.long q3), .second, .val (.long (0 : Int64)), .second, .val (.long q3), .second, .unset, .unset] [])) _
    refine XS.aloadN X0.here hx rfl (hb hby d12_6) rfl rfl ?_
    exact kS
  obtain ⟨T24, X24, e24, st24⟩ := getF X0 hx hZ hown (host := "") (Or.inl (hw _ (List.mem_of_getElem? (i := 35) rfl))) Via.refl e0 Fo (g := (mkF m 7 #[.val (.ref a1), .val (.long q2), .second, .val (.long q3), .second, .val (.long (0 : Int64)), .second, .val (.long q3), .second, .unset, .unset] [(.ref a1)])) rfl rfl (hb hby d12_7)
  refine own_adv (B := (T24.setTop (mkF m 10 #[.val (.ref a1), .val (.long q2), .second, .val (.long q3), .second, .val (.long (0 : Int64)), .second, .val (.long q3), .second, .unset, .unset] [(.long (own_tm w))]))) st24 ?_
  refine own_adv (B := (T24.setTop (mkF m 12 #[.val (.ref a1), .val (.long q2), .second, .val (.long q3), .second, .val (.long (0 : Int64)), .second, .val (.long q3), .second, .val (.long (own_tm w)), .second] []))) (fun t kS => ?_) ?_
  · show Steps p.tables e below (T24.setTop (mkF m 10 #[.val (.ref a1), .val (.long q2), .second, .val (.long q3), .second, .val (.long (0 : Int64)), .second, .val (.long q3), .second, .unset, .unset] [(.long (own_tm w))])) _
    refine XS.lstore X24.here hx rfl (hb hby d12_10) rfl (l' := #[.val (.ref a1), .val (.long q2), .second, .val (.long q3), .second, .val (.long (0 : Int64)), .second, .val (.long q3), .second, .val (.long (own_tm w)), .second]) rfl ?_
    exact kS
  refine own_mloop hx hZ hw hby hml hown Z0 a1 q2 q3 rp Ea Fp w h64 _ _ _ _ X24 e24 N0 (fun T' locs' sh' X' e' N' => ?_)
  refine own_adv (B := (T'.setTop (mkF m 54 #[.val (.ref a1), .val (.long q2), .second, .val (.long q3), .second, .val (.long (own_Mf rp q2 w q3 (0 : Int64))), .second, .val (.long sh'), .second, .val (.long (own_tm 0)), .second] [(.long (own_Mf rp q2 w q3 (0 : Int64)))]))) (fun t kS => ?_) ?_
  · show Steps p.tables e below (T'.setTop (mkF m 52 #[.val (.ref a1), .val (.long q2), .second, .val (.long q3), .second, .val (.long (own_Mf rp q2 w q3 (0 : Int64))), .second, .val (.long sh'), .second, .val (.long (own_tm 0)), .second] [])) _
    refine XS.lload X'.here hx rfl (hb hby d12_52) rfl ?_
    exact kS
  obtain ⟨fs, hr, hrun, hended, hW, hsame⟩ := X'.leave (v := some (.long (own_Mf rp q2 w q3 (0 : Int64)))) (fun h => by rw [Bd.returns] at h; cases h)
  refine ⟨_, _, ?_, hrun, hended, _, _, rfl, ?_, ⟨_, rfl⟩, hW, hsame.mono (by decide) (by decide)⟩
  · show Steps p.tables e below (T'.setTop (mkF m 54 #[.val (.ref a1), .val (.long q2), .second, .val (.long q3), .second, .val (.long (own_Mf rp q2 w q3 (0 : Int64))), .second, .val (.long sh'), .second, .val (.long (own_tm 0)), .second] [(.long (own_Mf rp q2 w q3 (0 : Int64)))])) _
    exact retOut X' hx (t := .long) Bd.returns rfl (Or.inr (Or.inl ⟨rfl, rfl, _, rfl⟩)) (hb hby d12_54) hr
  · show Q12 Z a1 q2 q3 rp w h0 n0 _ T'.heap _
    rw [e']
    exact ⟨rfl, N', rfl⟩
set_option maxRecDepth 65536 in
set_option maxHeartbeats 40000000 in
theorem own_ploop {p : Program} {l : Launch} {e : Env} {s : State} {m : MethodId} {args : Array Value} {below : List Frame} {meth : Method} {c : Code} {Z : State} {a0 : Array Value} {h0 : Heap} {n0 : Nat} {P : State → Outcome → Prop} (hx : p.tables.exec = Jvm.exec) (hZ : Z.Warmed39 s.vm) (hw : ∀ d ∈ tables_1, d.before a0 Z = true) (hby : c.code = prog_13_method_3_code) (hml : c.maxLocals = 9) (hown : s.vm.findClass "com/example/latchkey/latchkey/server/gateway/CrcCombination" = some m.cls) (Z0 : n0 ≤ h0.size) (a1 : Addr) (q2 rp : Int64) (w : Nat) (Ea : Exa Z h0 a1 "com/example/latchkey/latchkey/server/gateway/CrcCombination") (Fp : Fld Z h0 a1 "com/example/latchkey/latchkey/server/gateway/CrcCombination" "reflectedPolynomial" "J" (.long rp)) (Fo : Fld Z h0 a1 "com/example/latchkey/latchkey/server/gateway/CrcCombination" "one" "J" (.long (own_tm w))) (h64 : w ≤ 64) :
    ∀ (k : Nat) (T0 : State) (locs : List Loc) (rs sq bt : Int64), bt.toBitVec.toNat < 2 ^ k → Stand p l e ({ frames := 2, cells := 0, slots := 0, locals := 36 } : Room) s m args below meth c T0 locs 0 0 → T0.heap = h0 → Fr n0 locs →
      (∀ (T' : State) (locs' : List Loc) (sq' bt' : Int64), Stand p l e ({ frames := 2, cells := 0, slots := 0, locals := 36 } : Room) s m args below meth c T' locs' 0 0 → T'.heap = h0 → Fr n0 locs' → ∃ t o, Steps p.tables e below (T'.setTop (mkF m 59 #[.val (.ref a1), .val (.long q2), .second, .val (.long (own_Pf rp w k bt rs sq)), .second, .val (.long sq'), .second, .val (.long bt'), .second] [])) t ∧ P t o) →
      ∃ t o, Steps p.tables e below (T0.setTop (mkF m 16 #[.val (.ref a1), .val (.long q2), .second, .val (.long rs), .second, .val (.long sq), .second, .val (.long bt), .second] [])) t ∧ P t o := by
  intro k
  induction k with
  | zero =>
    intro T0 locs rs sq bt hbt X0 e0 N0 cont
    refine own_adv (B := (T0.setTop (mkF m 59 #[.val (.ref a1), .val (.long q2), .second, .val (.long rs), .second, .val (.long sq), .second, .val (.long bt), .second] []))) (fun t kS => ?_) ?_
    · show Steps p.tables e below (T0.setTop (mkF m 16 #[.val (.ref a1), .val (.long q2), .second, .val (.long rs), .second, .val (.long sq), .second, .val (.long bt), .second] [])) _
      refine XS.lload X0.here hx rfl (hb hby d11_16) rfl ?_
      show Steps p.tables e below (T0.setTop (mkF m 18 #[.val (.ref a1), .val (.long q2), .second, .val (.long rs), .second, .val (.long sq), .second, .val (.long bt), .second] [(.long bt)])) _
      refine XS.lconst X0.here hx rfl (hb hby d11_18) ?_
      show Steps p.tables e below (T0.setTop (mkF m 19 #[.val (.ref a1), .val (.long q2), .second, .val (.long rs), .second, .val (.long sq), .second, .val (.long bt), .second] [(.long (0 : Int64)), (.long bt)])) _
      refine XS.lcmp X0.here hx rfl (hb hby d11_19) rfl ?_
      show Steps p.tables e below (T0.setTop (mkF m 20 #[.val (.ref a1), .val (.long q2), .second, .val (.long rs), .second, .val (.long sq), .second, .val (.long bt), .second] [(.int (lcmpW bt (0 : Int64)))])) _
      refine XS.ifYes X0.here hx rfl (pc0 := 20) (pc' := 59) rfl (hb hby d11_20) rfl ((if0 _ _).trans (teq (own_none hbt)).1) (by decide) (by decide) ?_
      exact kS
    have hc := cont T0 locs sq bt X0 e0 N0
    rw [own_Pf_zero] at hc
    exact hc
  | succ k ih =>
    intro T0 locs rs sq bt hbt X0 e0 N0 cont
    refine own_adv (B := (T0.setTop (mkF m 20 #[.val (.ref a1), .val (.long q2), .second, .val (.long rs), .second, .val (.long sq), .second, .val (.long bt), .second] [(.int (lcmpW bt (0 : Int64)))]))) (fun t kS => ?_) ?_
    · show Steps p.tables e below (T0.setTop (mkF m 16 #[.val (.ref a1), .val (.long q2), .second, .val (.long rs), .second, .val (.long sq), .second, .val (.long bt), .second] [])) _
      refine XS.lload X0.here hx rfl (hb hby d11_16) rfl ?_
      show Steps p.tables e below (T0.setTop (mkF m 18 #[.val (.ref a1), .val (.long q2), .second, .val (.long rs), .second, .val (.long sq), .second, .val (.long bt), .second] [(.long bt)])) _
      refine XS.lconst X0.here hx rfl (hb hby d11_18) ?_
      show Steps p.tables e below (T0.setTop (mkF m 19 #[.val (.ref a1), .val (.long q2), .second, .val (.long rs), .second, .val (.long sq), .second, .val (.long bt), .second] [(.long (0 : Int64)), (.long bt)])) _
      refine XS.lcmp X0.here hx rfl (hb hby d11_19) rfl ?_
      exact kS
    by_cases hz : (lcmpW bt (0 : Int64)) = (0 : Int32)
    · refine own_adv (B := (T0.setTop (mkF m 59 #[.val (.ref a1), .val (.long q2), .second, .val (.long rs), .second, .val (.long sq), .second, .val (.long bt), .second] []))) (fun t kS => ?_) ?_
      · show Steps p.tables e below (T0.setTop (mkF m 20 #[.val (.ref a1), .val (.long q2), .second, .val (.long rs), .second, .val (.long sq), .second, .val (.long bt), .second] [(.int (lcmpW bt (0 : Int64)))])) _
        refine XS.ifYes X0.here hx rfl (pc0 := 20) (pc' := 59) rfl (hb hby d11_20) rfl ((if0 _ _).trans (teq hz).1) (by decide) (by decide) ?_
        exact kS
      have hc := cont T0 locs sq bt X0 e0 N0
      rw [own_Pf_stop rp w k bt rs sq hz] at hc
      exact hc
    · refine own_adv (B := (T0.setTop (mkF m 29 #[.val (.ref a1), .val (.long q2), .second, .val (.long rs), .second, .val (.long sq), .second, .val (.long bt), .second] [(.int (lcmpW (bt &&& (1 : Int64)) (0 : Int64)))]))) (fun t kS => ?_) ?_
      · show Steps p.tables e below (T0.setTop (mkF m 20 #[.val (.ref a1), .val (.long q2), .second, .val (.long rs), .second, .val (.long sq), .second, .val (.long bt), .second] [(.int (lcmpW bt (0 : Int64)))])) _
        refine XS.ifNo X0.here hx rfl (hb hby d11_20) rfl ((if0 _ _).trans (feq hz).1) ?_
        show Steps p.tables e below (T0.setTop (mkF m 23 #[.val (.ref a1), .val (.long q2), .second, .val (.long rs), .second, .val (.long sq), .second, .val (.long bt), .second] [])) _
        refine XS.lload X0.here hx rfl (hb hby d11_23) rfl ?_
        show Steps p.tables e below (T0.setTop (mkF m 25 #[.val (.ref a1), .val (.long q2), .second, .val (.long rs), .second, .val (.long sq), .second, .val (.long bt), .second] [(.long bt)])) _
        refine XS.lconst X0.here hx rfl (hb hby d11_25) ?_
        show Steps p.tables e below (T0.setTop (mkF m 26 #[.val (.ref a1), .val (.long q2), .second, .val (.long rs), .second, .val (.long sq), .second, .val (.long bt), .second] [(.long (1 : Int64)), (.long bt)])) _
        refine XS.land X0.here hx rfl (hb hby d11_26) rfl ?_
        show Steps p.tables e below (T0.setTop (mkF m 27 #[.val (.ref a1), .val (.long q2), .second, .val (.long rs), .second, .val (.long sq), .second, .val (.long bt), .second] [(.long (bt &&& (1 : Int64)))])) _
        refine XS.lconst X0.here hx rfl (hb hby d11_27) ?_
        show Steps p.tables e below (T0.setTop (mkF m 28 #[.val (.ref a1), .val (.long q2), .second, .val (.long rs), .second, .val (.long sq), .second, .val (.long bt), .second] [(.long (0 : Int64)), (.long (bt &&& (1 : Int64)))])) _
        refine XS.lcmp X0.here hx rfl (hb hby d11_28) rfl ?_
        exact kS
      by_cases he : (lcmpW (bt &&& (1 : Int64)) (0 : Int64)) = (0 : Int32)
      · refine own_adv (B := (T0.setTop (mkF m 40 #[.val (.ref a1), .val (.long q2), .second, .val (.long rs), .second, .val (.long sq), .second, .val (.long bt), .second] []))) (fun t kS => ?_) ?_
        · show Steps p.tables e below (T0.setTop (mkF m 29 #[.val (.ref a1), .val (.long q2), .second, .val (.long rs), .second, .val (.long sq), .second, .val (.long bt), .second] [(.int (lcmpW (bt &&& (1 : Int64)) (0 : Int64)))])) _
          refine XS.ifYes X0.here hx rfl (pc0 := 29) (pc' := 40) rfl (hb hby d11_29) rfl ((if0 _ _).trans (teq he).1) (by decide) (by decide) ?_
          exact kS
        refine own_adv (B := (T0.setTop (mkF m 45 #[.val (.ref a1), .val (.long q2), .second, .val (.long rs), .second, .val (.long sq), .second, .val (.long bt), .second] [(.long sq), (.long sq), (.ref a1)]))) (fun t kS => ?_) ?_
        · show Steps p.tables e below (T0.setTop (mkF m 40 #[.val (.ref a1), .val (.long q2), .second, .val (.long rs), .second, .val (.long sq), .second, .val (.long bt), .second] [])) _
          refine XS.aloadN X0.here hx rfl (hb hby d11_40) rfl rfl ?_
          show Steps p.tables e below (T0.setTop (mkF m 41 #[.val (.ref a1), .val (.long q2), .second, .val (.long rs), .second, .val (.long sq), .second, .val (.long bt), .second] [(.ref a1)])) _
          refine XS.lload X0.here hx rfl (hb hby d11_41) rfl ?_
          show Steps p.tables e below (T0.setTop (mkF m 43 #[.val (.ref a1), .val (.long q2), .second, .val (.long rs), .second, .val (.long sq), .second, .val (.long bt), .second] [(.long sq), (.ref a1)])) _
          refine XS.lload X0.here hx rfl (hb hby d11_43) rfl ?_
          exact kS
        obtain ⟨cq27, q27, q27'⟩ := Ea.cell
        obtain ⟨_, _, ⟨T27, L27, k27, n27⟩, -, X27, ⟨Lc27, hQ27, l27, y27, z27⟩, st27⟩ := X0.privateBack hx (y := (⟨"com/example/latchkey/latchkey/server/gateway/CrcCombination", "multiply", "(JJ)J"⟩ : MethodName)) hown (mvT hZ (hw _ (List.mem_of_getElem? (i := 53) rfl))) (mvT hZ (hw _ (List.mem_of_getElem? (i := 54) rfl))) (own_sel hZ (hw _ (List.mem_of_getElem? (i := 13) rfl)) (hw _ (List.mem_of_getElem? (i := 55) rfl)) (hw _ (List.mem_of_getElem? (i := 54) rfl)) (by decide)) (Cond.privateMethod_at (mvP hZ (hw _ (List.mem_of_getElem? (i := 55) rfl)) (args := #[]))) (mvT hZ (hw _ (List.mem_of_getElem? (i := 56) rfl))) (by decide) (backOf (W := 0) (rm12 l Z a0 hw [] a1 sq sq rp w h0 n0 Z0 Ea Fp Fo h64) hZ (hw _ (List.mem_of_getElem? (i := 56) rfl)) (hw _ (List.mem_of_getElem? (i := 14) rfl)) (by decide) (by decide)) (g := (mkF m 45 #[.val (.ref a1), .val (.long q2), .second, .val (.long rs), .second, .val (.long sq), .second, .val (.long bt), .second] [(.long sq), (.long sq), (.ref a1)])) rfl (by rw [hml]; rfl) (Steps.refl _) (a := a1) (by rw [e0]; exact q27) q27' (argsL := [(.long sq), (.long sq)]) (rest := []) (lenOf pd_2 rfl) rfl (by show 2 * 0 + _ ≤ _; exact Nat.le_of_eq rfl) (hb hby d11_45) (fun _ _ => ⟨rfl, e0, (by decide : 0 + 0 ≤ _), (by decide : 0 + 0 ≤ _)⟩)
        dsimp only [Pt.U, Pt.locs, Pt.cells, Pt.slots] at X27 l27 y27 z27 st27 hQ27
        subst l27 y27 z27
        obtain ⟨rfl, N27q, hH27⟩ := hQ27
        have N27 := Fr.app N0 N27q
        obtain ⟨lo27, X27, N27⟩ := own_pack X27 N27
        replace X27 : Stand p l e _ s m _ below meth c T27 _ 0 0 := X27
        refine own_adv (B := (T27.setTop (mkF m 48 #[.val (.ref a1), .val (.long q2), .second, .val (.long rs), .second, .val (.long sq), .second, .val (.long bt), .second] [(.long (own_Mul rp w sq sq))]))) (fun t kS => st27.trans kS) ?_
        refine own_adv (B := (T27.setTop (mkF m 16 #[.val (.ref a1), .val (.long q2), .second, .val (.long rs), .second, .val (.long (own_Mul rp w sq sq)), .second, .val (.long ((bt.toUInt64 >>> ((1 : Int32) &&& 0x3f).toInt64.toUInt64).toInt64)), .second] []))) (fun t kS => ?_) ?_
        · show Steps p.tables e below (T27.setTop (mkF m 48 #[.val (.ref a1), .val (.long q2), .second, .val (.long rs), .second, .val (.long sq), .second, .val (.long bt), .second] [(.long (own_Mul rp w sq sq))])) _
          refine XS.lstore X27.here hx rfl (hb hby d11_48) rfl (l' := #[.val (.ref a1), .val (.long q2), .second, .val (.long rs), .second, .val (.long (own_Mul rp w sq sq)), .second, .val (.long bt), .second]) rfl ?_
          show Steps p.tables e below (T27.setTop (mkF m 50 #[.val (.ref a1), .val (.long q2), .second, .val (.long rs), .second, .val (.long (own_Mul rp w sq sq)), .second, .val (.long bt), .second] [])) _
          refine XS.lload X27.here hx rfl (hb hby d11_50) rfl ?_
          show Steps p.tables e below (T27.setTop (mkF m 52 #[.val (.ref a1), .val (.long q2), .second, .val (.long rs), .second, .val (.long (own_Mul rp w sq sq)), .second, .val (.long bt), .second] [(.long bt)])) _
          refine XS.iconst X27.here hx rfl (hb hby d11_52) ?_
          show Steps p.tables e below (T27.setTop (mkF m 53 #[.val (.ref a1), .val (.long q2), .second, .val (.long rs), .second, .val (.long (own_Mul rp w sq sq)), .second, .val (.long bt), .second] [(.int (1 : Int32)), (.long bt)])) _
          refine XS.lushr X27.here hx rfl (hb hby d11_53) rfl ?_
          show Steps p.tables e below (T27.setTop (mkF m 54 #[.val (.ref a1), .val (.long q2), .second, .val (.long rs), .second, .val (.long (own_Mul rp w sq sq)), .second, .val (.long bt), .second] [(.long ((bt.toUInt64 >>> ((1 : Int32) &&& 0x3f).toInt64.toUInt64).toInt64))])) _
          refine XS.lstore X27.here hx rfl (hb hby d11_54) rfl (l' := #[.val (.ref a1), .val (.long q2), .second, .val (.long rs), .second, .val (.long (own_Mul rp w sq sq)), .second, .val (.long ((bt.toUInt64 >>> ((1 : Int32) &&& 0x3f).toInt64.toUInt64).toInt64)), .second]) rfl ?_
          show Steps p.tables e below (T27.setTop (mkF m 56 #[.val (.ref a1), .val (.long q2), .second, .val (.long rs), .second, .val (.long (own_Mul rp w sq sq)), .second, .val (.long ((bt.toUInt64 >>> ((1 : Int32) &&& 0x3f).toInt64.toUInt64).toInt64)), .second] [])) _
          refine XS.goto X27.here hx rfl (pc0 := 56) (pc' := 16) rfl (hb hby d11_56) (by decide) (by decide) ?_
          exact kS
        rw [own_Pf_even rp w k bt rs sq hz he] at cont
        exact ih _ _ _ _ _ (own_half bt k hbt) X27 hH27 N27 cont
      · refine own_adv (B := (T0.setTop (mkF m 36 #[.val (.ref a1), .val (.long q2), .second, .val (.long rs), .second, .val (.long sq), .second, .val (.long bt), .second] [(.long sq), (.long rs), (.ref a1)]))) (fun t kS => ?_) ?_
        · show Steps p.tables e below (T0.setTop (mkF m 29 #[.val (.ref a1), .val (.long q2), .second, .val (.long rs), .second, .val (.long sq), .second, .val (.long bt), .second] [(.int (lcmpW (bt &&& (1 : Int64)) (0 : Int64)))])) _
          refine XS.ifNo X0.here hx rfl (hb hby d11_29) rfl ((if0 _ _).trans (feq he).1) ?_
          show Steps p.tables e below (T0.setTop (mkF m 32 #[.val (.ref a1), .val (.long q2), .second, .val (.long rs), .second, .val (.long sq), .second, .val (.long bt), .second] [])) _
          refine XS.aloadN X0.here hx rfl (hb hby d11_32) rfl rfl ?_
          show Steps p.tables e below (T0.setTop (mkF m 33 #[.val (.ref a1), .val (.long q2), .second, .val (.long rs), .second, .val (.long sq), .second, .val (.long bt), .second] [(.ref a1)])) _
          refine XS.lloadN X0.here hx rfl (hb hby d11_33) rfl ?_
          show Steps p.tables e below (T0.setTop (mkF m 34 #[.val (.ref a1), .val (.long q2), .second, .val (.long rs), .second, .val (.long sq), .second, .val (.long bt), .second] [(.long rs), (.ref a1)])) _
          refine XS.lload X0.here hx rfl (hb hby d11_34) rfl ?_
          exact kS
        obtain ⟨cq25, q25, q25'⟩ := Ea.cell
        obtain ⟨_, _, ⟨T25, L25, k25, n25⟩, -, X25, ⟨Lc25, hQ25, l25, y25, z25⟩, st25⟩ := X0.privateBack hx (y := (⟨"com/example/latchkey/latchkey/server/gateway/CrcCombination", "multiply", "(JJ)J"⟩ : MethodName)) hown (mvT hZ (hw _ (List.mem_of_getElem? (i := 53) rfl))) (mvT hZ (hw _ (List.mem_of_getElem? (i := 54) rfl))) (own_sel hZ (hw _ (List.mem_of_getElem? (i := 13) rfl)) (hw _ (List.mem_of_getElem? (i := 55) rfl)) (hw _ (List.mem_of_getElem? (i := 54) rfl)) (by decide)) (Cond.privateMethod_at (mvP hZ (hw _ (List.mem_of_getElem? (i := 55) rfl)) (args := #[]))) (mvT hZ (hw _ (List.mem_of_getElem? (i := 56) rfl))) (by decide) (backOf (W := 0) (rm12 l Z a0 hw [] a1 rs sq rp w h0 n0 Z0 Ea Fp Fo h64) hZ (hw _ (List.mem_of_getElem? (i := 56) rfl)) (hw _ (List.mem_of_getElem? (i := 14) rfl)) (by decide) (by decide)) (g := (mkF m 36 #[.val (.ref a1), .val (.long q2), .second, .val (.long rs), .second, .val (.long sq), .second, .val (.long bt), .second] [(.long sq), (.long rs), (.ref a1)])) rfl (by rw [hml]; rfl) (Steps.refl _) (a := a1) (by rw [e0]; exact q25) q25' (argsL := [(.long rs), (.long sq)]) (rest := []) (lenOf pd_2 rfl) rfl (by show 2 * 0 + _ ≤ _; exact Nat.le_of_eq rfl) (hb hby d11_36) (fun _ _ => ⟨rfl, e0, (by decide : 0 + 0 ≤ _), (by decide : 0 + 0 ≤ _)⟩)
        dsimp only [Pt.U, Pt.locs, Pt.cells, Pt.slots] at X25 l25 y25 z25 st25 hQ25
        subst l25 y25 z25
        obtain ⟨rfl, N25q, hH25⟩ := hQ25
        have N25 := Fr.app N0 N25q
        obtain ⟨lo25, X25, N25⟩ := own_pack X25 N25
        replace X25 : Stand p l e _ s m _ below meth c T25 _ 0 0 := X25
        refine own_adv (B := (T25.setTop (mkF m 39 #[.val (.ref a1), .val (.long q2), .second, .val (.long rs), .second, .val (.long sq), .second, .val (.long bt), .second] [(.long (own_Mul rp w rs sq))]))) (fun t kS => st25.trans kS) ?_
        refine own_adv (B := (T25.setTop (mkF m 40 #[.val (.ref a1), .val (.long q2), .second, .val (.long (own_Mul rp w rs sq)), .second, .val (.long sq), .second, .val (.long bt), .second] []))) (fun t kS => ?_) ?_
        · show Steps p.tables e below (T25.setTop (mkF m 39 #[.val (.ref a1), .val (.long q2), .second, .val (.long rs), .second, .val (.long sq), .second, .val (.long bt), .second] [(.long (own_Mul rp w rs sq))])) _
          refine XS.lstoreN X25.here hx rfl (hb hby d11_39) rfl (l' := #[.val (.ref a1), .val (.long q2), .second, .val (.long (own_Mul rp w rs sq)), .second, .val (.long sq), .second, .val (.long bt), .second]) rfl ?_
          exact kS
        refine own_adv (B := (T25.setTop (mkF m 45 #[.val (.ref a1), .val (.long q2), .second, .val (.long (own_Mul rp w rs sq)), .second, .val (.long sq), .second, .val (.long bt), .second] [(.long sq), (.long sq), (.ref a1)]))) (fun t kS => ?_) ?_
        · show Steps p.tables e below (T25.setTop (mkF m 40 #[.val (.ref a1), .val (.long q2), .second, .val (.long (own_Mul rp w rs sq)), .second, .val (.long sq), .second, .val (.long bt), .second] [])) _
          refine XS.aloadN X25.here hx rfl (hb hby d11_40) rfl rfl ?_
          show Steps p.tables e below (T25.setTop (mkF m 41 #[.val (.ref a1), .val (.long q2), .second, .val (.long (own_Mul rp w rs sq)), .second, .val (.long sq), .second, .val (.long bt), .second] [(.ref a1)])) _
          refine XS.lload X25.here hx rfl (hb hby d11_41) rfl ?_
          show Steps p.tables e below (T25.setTop (mkF m 43 #[.val (.ref a1), .val (.long q2), .second, .val (.long (own_Mul rp w rs sq)), .second, .val (.long sq), .second, .val (.long bt), .second] [(.long sq), (.ref a1)])) _
          refine XS.lload X25.here hx rfl (hb hby d11_43) rfl ?_
          exact kS
        obtain ⟨cq26, q26, q26'⟩ := Ea.cell
        obtain ⟨_, _, ⟨T26, L26, k26, n26⟩, -, X26, ⟨Lc26, hQ26, l26, y26, z26⟩, st26⟩ := X25.privateBack hx (y := (⟨"com/example/latchkey/latchkey/server/gateway/CrcCombination", "multiply", "(JJ)J"⟩ : MethodName)) hown (mvT hZ (hw _ (List.mem_of_getElem? (i := 53) rfl))) (mvT hZ (hw _ (List.mem_of_getElem? (i := 54) rfl))) (own_sel hZ (hw _ (List.mem_of_getElem? (i := 13) rfl)) (hw _ (List.mem_of_getElem? (i := 55) rfl)) (hw _ (List.mem_of_getElem? (i := 54) rfl)) (by decide)) (Cond.privateMethod_at (mvP hZ (hw _ (List.mem_of_getElem? (i := 55) rfl)) (args := #[]))) (mvT hZ (hw _ (List.mem_of_getElem? (i := 56) rfl))) (by decide) (backOf (W := 0) (rm12 l Z a0 hw [] a1 sq sq rp w h0 n0 Z0 Ea Fp Fo h64) hZ (hw _ (List.mem_of_getElem? (i := 56) rfl)) (hw _ (List.mem_of_getElem? (i := 14) rfl)) (by decide) (by decide)) (g := (mkF m 45 #[.val (.ref a1), .val (.long q2), .second, .val (.long (own_Mul rp w rs sq)), .second, .val (.long sq), .second, .val (.long bt), .second] [(.long sq), (.long sq), (.ref a1)])) rfl (by rw [hml]; rfl) (Steps.refl _) (a := a1) (by rw [hH25]; exact q26) q26' (argsL := [(.long sq), (.long sq)]) (rest := []) (lenOf pd_2 rfl) rfl (by show 2 * 0 + _ ≤ _; exact Nat.le_of_eq rfl) (hb hby d11_45) (fun _ _ => ⟨rfl, hH25, (by decide : 0 + 0 ≤ _), (by decide : 0 + 0 ≤ _)⟩)
        dsimp only [Pt.U, Pt.locs, Pt.cells, Pt.slots] at X26 l26 y26 z26 st26 hQ26
        subst l26 y26 z26
        obtain ⟨rfl, N26q, hH26⟩ := hQ26
        have N26 := Fr.app N25 N26q
        obtain ⟨lo26, X26, N26⟩ := own_pack X26 N26
        replace X26 : Stand p l e _ s m _ below meth c T26 _ 0 0 := X26
        refine own_adv (B := (T26.setTop (mkF m 48 #[.val (.ref a1), .val (.long q2), .second, .val (.long (own_Mul rp w rs sq)), .second, .val (.long sq), .second, .val (.long bt), .second] [(.long (own_Mul rp w sq sq))]))) (fun t kS => st26.trans kS) ?_
        refine own_adv (B := (T26.setTop (mkF m 16 #[.val (.ref a1), .val (.long q2), .second, .val (.long (own_Mul rp w rs sq)), .second, .val (.long (own_Mul rp w sq sq)), .second, .val (.long ((bt.toUInt64 >>> ((1 : Int32) &&& 0x3f).toInt64.toUInt64).toInt64)), .second] []))) (fun t kS => ?_) ?_
        · show Steps p.tables e below (T26.setTop (mkF m 48 #[.val (.ref a1), .val (.long q2), .second, .val (.long (own_Mul rp w rs sq)), .second, .val (.long sq), .second, .val (.long bt), .second] [(.long (own_Mul rp w sq sq))])) _
          refine XS.lstore X26.here hx rfl (hb hby d11_48) rfl (l' := #[.val (.ref a1), .val (.long q2), .second, .val (.long (own_Mul rp w rs sq)), .second, .val (.long (own_Mul rp w sq sq)), .second, .val (.long bt), .second]) rfl ?_
          show Steps p.tables e below (T26.setTop (mkF m 50 #[.val (.ref a1), .val (.long q2), .second, .val (.long (own_Mul rp w rs sq)), .second, .val (.long (own_Mul rp w sq sq)), .second, .val (.long bt), .second] [])) _
          refine XS.lload X26.here hx rfl (hb hby d11_50) rfl ?_
          show Steps p.tables e below (T26.setTop (mkF m 52 #[.val (.ref a1), .val (.long q2), .second, .val (.long (own_Mul rp w rs sq)), .second, .val (.long (own_Mul rp w sq sq)), .second, .val (.long bt), .second] [(.long bt)])) _
          refine XS.iconst X26.here hx rfl (hb hby d11_52) ?_
          show Steps p.tables e below (T26.setTop (mkF m 53 #[.val (.ref a1), .val (.long q2), .second, .val (.long (own_Mul rp w rs sq)), .second, .val (.long (own_Mul rp w sq sq)), .second, .val (.long bt), .second] [(.int (1 : Int32)), (.long bt)])) _
          refine XS.lushr X26.here hx rfl (hb hby d11_53) rfl ?_
          show Steps p.tables e below (T26.setTop (mkF m 54 #[.val (.ref a1), .val (.long q2), .second, .val (.long (own_Mul rp w rs sq)), .second, .val (.long (own_Mul rp w sq sq)), .second, .val (.long bt), .second] [(.long ((bt.toUInt64 >>> ((1 : Int32) &&& 0x3f).toInt64.toUInt64).toInt64))])) _
          refine XS.lstore X26.here hx rfl (hb hby d11_54) rfl (l' := #[.val (.ref a1), .val (.long q2), .second, .val (.long (own_Mul rp w rs sq)), .second, .val (.long (own_Mul rp w sq sq)), .second, .val (.long ((bt.toUInt64 >>> ((1 : Int32) &&& 0x3f).toInt64.toUInt64).toInt64)), .second]) rfl ?_
          show Steps p.tables e below (T26.setTop (mkF m 56 #[.val (.ref a1), .val (.long q2), .second, .val (.long (own_Mul rp w rs sq)), .second, .val (.long (own_Mul rp w sq sq)), .second, .val (.long ((bt.toUInt64 >>> ((1 : Int32) &&& 0x3f).toInt64.toUInt64).toInt64)), .second] [])) _
          refine XS.goto X26.here hx rfl (pc0 := 56) (pc' := 16) rfl (hb hby d11_56) (by decide) (by decide) ?_
          exact kS
        rw [own_Pf_odd rp w k bt rs sq hz he] at cont
        exact ih _ _ _ _ _ (own_half bt k hbt) X26 hH26 N26 cont
theorem ef_11 (m : MethodId) (x0 : Addr) (x1 : Int64) : entryFrame m #[(.ref x0), (.long x1)] 9 = mkF m 0 #[.val (.ref x0), .val (.long x1), .second, .unset, .unset, .unset, .unset, .unset, .unset] [] := by first | (simp [entryFrame, mkF, argsToLocals, Value.category]; done) | rfl
def Q11 (Z : State) (a1 : Addr) (q2 : Int64) (rp : Int64) (w : Nat) (h0 : Heap) (n0 : Nat) (v : Option Value) (h : Heap) (L : List Loc) : Prop := v = some (.long (own_Pf rp w 64 q2 (own_tm w) (((own_tm w).toUInt64 >>> ((1 : Int32) &&& 0x3f).toInt64.toUInt64).toInt64))) ∧ Fr n0 L ∧ h = h0
set_option maxRecDepth 65536 in
set_option maxHeartbeats 40000000 in
theorem rm11 (l : Launch) (Z : State) (a0 : Array Value) (hw : ∀ d ∈ tables_1, d.before a0 Z = true) (ws : List Jvm.Cond) (a1 : Addr) (q2 : Int64) (rp : Int64) (w : Nat) (h0 : Heap) (n0 : Nat) (Z0 : n0 ≤ h0.size) (Ea : Exa Z h0 a1 "com/example/latchkey/latchkey/server/gateway/CrcCombination") (Fp : Fld Z h0 a1 "com/example/latchkey/latchkey/server/gateway/CrcCombination" "reflectedPolynomial" "J" (.long rp)) (Fo : Fld Z h0 a1 "com/example/latchkey/latchkey/server/gateway/CrcCombination" "one" "J" (.long (own_tm w))) (h64 : w ≤ 64) :
    MetFree l (⟨"com/example/latchkey/latchkey/server/gateway/CrcCombination", "power", "(J)J"⟩ : MethodName) (head1 (Jvm.Cond.code (⟨"com/example/latchkey/latchkey/server/gateway/CrcCombination", "power", "(J)J"⟩ : MethodName) prog_13_method_3_code 9 (some .long) :: ws) ({ frames := 2, cells := 0, slots := 0, locals := 36 } : Room)) (fun a U => a = #[(.ref a1), (.long q2)] ∧ Z.Warmed39 U.vm ∧ U.heap = h0) (fun _ _ _ _ _ => True) (fun _ U o U' => ∃ v L, o = .returned v ∧ Q11 Z a1 q2 rp w h0 n0 v U'.heap L ∧ FrameEnd U o U' L ({ frames := 2, cells := 0, slots := 0, locals := 36 } : Room).cells ({ frames := 2, cells := 0, slots := 0, locals := 36 } : Room).slots) := by
  refine MetFree.of_bodySF (plainFor_of_name pn_11) hisR ?_
  intro p e s m args below meth c s₁ Bd hml0 hP hK
  obtain ⟨rfl, hZ, hh⟩ := hP
  have hx := Bd.exec
  have hby := Bd.bytes
  have hml : c.maxLocals = 9 := hml0
  have hown : s.vm.findClass "com/example/latchkey/latchkey/server/gateway/CrcCombination" = some m.cls := findClass_of_methodNamed Bd.named
  have hnm := (name_of_methodNamed Bd.named Bd.method).1
  have X0 : Stand p l e ({ frames := 2, cells := 0, slots := 0, locals := 36 } : Room) s m #[(.ref a1), (.long q2)] below meth c s₁ [] 0 0 := Stand.of_body Bd
  have e0 : s₁.heap = h0 := by rw [← hh, Bd.state]; rfl
  have N0 := Fr.nil n0
  refine own_adv (B := (s₁.setTop (mkF m 0 #[.val (.ref a1), .val (.long q2), .second, .unset, .unset, .unset, .unset, .unset, .unset] []))) (fun t k => castTop (ef_11 m a1 q2) k) ?_
  refine own_adv (B := (s₁.setTop (mkF m 1 #[.val (.ref a1), .val (.long q2), .second, .unset, .unset, .unset, .unset, .unset, .unset] [(.ref a1)]))) (fun t kS => ?_) ?_
  · show Steps p.tables e below (s₁.setTop (mkF m 0 #[.val (.ref a1), .val (.long q2), .second, .unset, .unset, .unset, .unset, .unset, .unset] [])) _
    refine XS.aloadN X0.here hx rfl (hb hby d11_0) rfl rfl ?_
    exact kS
  obtain ⟨T28, X28, e28, st28⟩ := getF X0 hx hZ hown (host := "") (Or.inl (hw _ (List.mem_of_getElem? (i := 35) rfl))) Via.refl e0 Fo (g := (mkF m 1 #[.val (.ref a1), .val (.long q2), .second, .unset, .unset, .unset, .unset, .unset, .unset] [(.ref a1)])) rfl rfl (hb hby d11_1)
  refine own_adv (B := (T28.setTop (mkF m 4 #[.val (.ref a1), .val (.long q2), .second, .unset, .unset, .unset, .unset, .unset, .unset] [(.long (own_tm w))]))) st28 ?_
  refine own_adv (B := (T28.setTop (mkF m 6 #[.val (.ref a1), .val (.long q2), .second, .val (.long (own_tm w)), .second, .unset, .unset, .unset, .unset] [(.ref a1)]))) (fun t kS => ?_) ?_
  · show Steps p.tables e below (T28.setTop (mkF m 4 #[.val (.ref a1), .val (.long q2), .second, .unset, .unset, .unset, .unset, .unset, .unset] [(.long (own_tm w))])) _
    refine XS.lstoreN X28.here hx rfl (hb hby d11_4) rfl (l' := #[.val (.ref a1), .val (.long q2), .second, .val (.long (own_tm w)), .second, .unset, .unset, .unset, .unset]) rfl ?_
    show Steps p.tables e below (T28.setTop (mkF m 5 #[.val (.ref a1), .val (.long q2), .second, .val (.long (own_tm w)), .second, .unset, .unset, .unset, .unset] [])) _
    refine XS.aloadN X28.here hx rfl (hb hby d11_5) rfl rfl ?_
    exact kS
  obtain ⟨T29, X29, e29, st29⟩ := getF X28 hx hZ hown (host := "") (Or.inl (hw _ (List.mem_of_getElem? (i := 35) rfl))) Via.refl e28 Fo (g := (mkF m 6 #[.val (.ref a1), .val (.long q2), .second, .val (.long (own_tm w)), .second, .unset, .unset, .unset, .unset] [(.ref a1)])) rfl rfl (hb hby d11_6)
  refine own_adv (B := (T29.setTop (mkF m 9 #[.val (.ref a1), .val (.long q2), .second, .val (.long (own_tm w)), .second, .unset, .unset, .unset, .unset] [(.long (own_tm w))]))) st29 ?_
  refine own_adv (B := (T29.setTop (mkF m 16 #[.val (.ref a1), .val (.long q2), .second, .val (.long (own_tm w)), .second, .val (.long (((own_tm w).toUInt64 >>> ((1 : Int32) &&& 0x3f).toInt64.toUInt64).toInt64)), .second, .val (.long q2), .second] []))) (fun t kS => ?_) ?_
  · show Steps p.tables e below (T29.setTop (mkF m 9 #[.val (.ref a1), .val (.long q2), .second, .val (.long (own_tm w)), .second, .unset, .unset, .unset, .unset] [(.long (own_tm w))])) _
    refine XS.iconst X29.here hx rfl (hb hby d11_9) ?_
    show Steps p.tables e below (T29.setTop (mkF m 10 #[.val (.ref a1), .val (.long q2), .second, .val (.long (own_tm w)), .second, .unset, .unset, .unset, .unset] [(.int (1 : Int32)), (.long (own_tm w))])) _
    refine XS.lushr X29.here hx rfl (hb hby d11_10) rfl ?_
    show Steps p.tables e below (T29.setTop (mkF m 11 #[.val (.ref a1), .val (.long q2), .second, .val (.long (own_tm w)), .second, .unset, .unset, .unset, .unset] [(.long (((own_tm w).toUInt64 >>> ((1 : Int32) &&& 0x3f).toInt64.toUInt64).toInt64))])) _
    refine XS.lstore X29.here hx rfl (hb hby d11_11) rfl (l' := #[.val (.ref a1), .val (.long q2), .second, .val (.long (own_tm w)), .second, .val (.long (((own_tm w).toUInt64 >>> ((1 : Int32) &&& 0x3f).toInt64.toUInt64).toInt64)), .second, .unset, .unset]) rfl ?_
    show Steps p.tables e below (T29.setTop (mkF m 13 #[.val (.ref a1), .val (.long q2), .second, .val (.long (own_tm w)), .second, .val (.long (((own_tm w).toUInt64 >>> ((1 : Int32) &&& 0x3f).toInt64.toUInt64).toInt64)), .second, .unset, .unset] [])) _
    refine XS.lloadN X29.here hx rfl (hb hby d11_13) rfl ?_
    show Steps p.tables e below (T29.setTop (mkF m 14 #[.val (.ref a1), .val (.long q2), .second, .val (.long (own_tm w)), .second, .val (.long (((own_tm w).toUInt64 >>> ((1 : Int32) &&& 0x3f).toInt64.toUInt64).toInt64)), .second, .unset, .unset] [(.long q2)])) _
    refine XS.lstore X29.here hx rfl (hb hby d11_14) rfl (l' := #[.val (.ref a1), .val (.long q2), .second, .val (.long (own_tm w)), .second, .val (.long (((own_tm w).toUInt64 >>> ((1 : Int32) &&& 0x3f).toInt64.toUInt64).toInt64)), .second, .val (.long q2), .second]) rfl ?_
    exact kS
  refine own_ploop hx hZ hw hby hml hown Z0 a1 q2 rp w Ea Fp Fo h64 64 _ _ _ _ _ q2.toBitVec.isLt X29 e29 N0 (fun T' locs' sq' bt' X' e' N' => ?_)
  refine own_adv (B := (T'.setTop (mkF m 60 #[.val (.ref a1), .val (.long q2), .second, .val (.long (own_Pf rp w 64 q2 (own_tm w) (((own_tm w).toUInt64 >>> ((1 : Int32) &&& 0x3f).toInt64.toUInt64).toInt64))), .second, .val (.long sq'), .second, .val (.long bt'), .second] [(.long (own_Pf rp w 64 q2 (own_tm w) (((own_tm w).toUInt64 >>> ((1 : Int32) &&& 0x3f).toInt64.toUInt64).toInt64)))]))) (fun t kS => ?_) ?_
  · show Steps p.tables e below (T'.setTop (mkF m 59 #[.val (.ref a1), .val (.long q2), .second, .val (.long (own_Pf rp w 64 q2 (own_tm w) (((own_tm w).toUInt64 >>> ((1 : Int32) &&& 0x3f).toInt64.toUInt64).toInt64))), .second, .val (.long sq'), .second, .val (.long bt'), .second] [])) _
    refine XS.lloadN X'.here hx rfl (hb hby d11_59) rfl ?_
    exact kS
  obtain ⟨fs, hr, hrun, hended, hW, hsame⟩ := X'.leave (v := some (.long (own_Pf rp w 64 q2 (own_tm w) (((own_tm w).toUInt64 >>> ((1 : Int32) &&& 0x3f).toInt64.toUInt64).toInt64)))) (fun h => by rw [Bd.returns] at h; cases h)
  refine ⟨_, _, ?_, hrun, hended, _, _, rfl, ?_, ⟨_, rfl⟩, hW, hsame.mono (by decide) (by decide)⟩
  · show Steps p.tables e below (T'.setTop (mkF m 60 #[.val (.ref a1), .val (.long q2), .second, .val (.long (own_Pf rp w 64 q2 (own_tm w) (((own_tm w).toUInt64 >>> ((1 : Int32) &&& 0x3f).toInt64.toUInt64).toInt64))), .second, .val (.long sq'), .second, .val (.long bt'), .second] [(.long (own_Pf rp w 64 q2 (own_tm w) (((own_tm w).toUInt64 >>> ((1 : Int32) &&& 0x3f).toInt64.toUInt64).toInt64)))])) _
    exact retOut X' hx (t := .long) Bd.returns rfl (Or.inr (Or.inl ⟨rfl, rfl, _, rfl⟩)) (hb hby d11_60) hr
  · show Q11 Z a1 q2 rp w h0 n0 _ T'.heap _
    rw [e']
    exact ⟨rfl, N', rfl⟩
theorem ef_10 (m : MethodId) (x0 : Addr) (x1 : Int64) (x2 : Int64) (x3 : Int64) : entryFrame m #[(.ref x0), (.long x1), (.long x2), (.long x3)] 7 = mkF m 0 #[.val (.ref x0), .val (.long x1), .second, .val (.long x2), .second, .val (.long x3), .second] [] := by first | (simp [entryFrame, mkF, argsToLocals, Value.category]; done) | rfl
def Q10 (Z : State) (a1 : Addr) (q2 : Int64) (q3 : Int64) (q4 : Int64) (rp : Int64) (w : Nat) (h0 : Heap) (n0 : Nat) (v : Option Value) (h : Heap) (L : List Loc) : Prop := v = some (.long (own_Comb rp w q2 q3 q4)) ∧ Fr n0 L ∧ h = h0
set_option maxRecDepth 65536 in
set_option maxHeartbeats 40000000 in
theorem rm10 (l : Launch) (Z : State) (a0 : Array Value) (hw : ∀ d ∈ tables_1, d.before a0 Z = true) (ws : List Jvm.Cond) (a1 : Addr) (q2 : Int64) (q3 : Int64) (q4 : Int64) (rp : Int64) (w : Nat) (h0 : Heap) (n0 : Nat) (Z0 : n0 ≤ h0.size) (Ea : Exa Z h0 a1 "com/example/latchkey/latchkey/server/gateway/CrcCombination") (Fp : Fld Z h0 a1 "com/example/latchkey/latchkey/server/gateway/CrcCombination" "reflectedPolynomial" "J" (.long rp)) (Fo : Fld Z h0 a1 "com/example/latchkey/latchkey/server/gateway/CrcCombination" "one" "J" (.long (own_tm w))) (h64 : w ≤ 64) :
    MetFree l (⟨"com/example/latchkey/latchkey/server/gateway/CrcCombination", "combine", "(JJJ)J"⟩ : MethodName) (head1 (Jvm.Cond.code (⟨"com/example/latchkey/latchkey/server/gateway/CrcCombination", "combine", "(JJJ)J"⟩ : MethodName) prog_13_method_2_code 7 (some .long) :: ws) ({ frames := 3, cells := 0, slots := 0, locals := 59 } : Room)) (fun a U => a = #[(.ref a1), (.long q2), (.long q3), (.long q4)] ∧ Z.Warmed39 U.vm ∧ U.heap = h0) (fun _ _ _ _ _ => True) (fun _ U o U' => ∃ v L, o = .returned v ∧ Q10 Z a1 q2 q3 q4 rp w h0 n0 v U'.heap L ∧ FrameEnd U o U' L ({ frames := 3, cells := 0, slots := 0, locals := 59 } : Room).cells ({ frames := 3, cells := 0, slots := 0, locals := 59 } : Room).slots) := by
  refine MetFree.of_bodySF (plainFor_of_name pn_10) hisR ?_
  intro p e s m args below meth c s₁ Bd hml0 hP hK
  obtain ⟨rfl, hZ, hh⟩ := hP
  have hx := Bd.exec
  have hby := Bd.bytes
  have hml : c.maxLocals = 7 := hml0
  have hown : s.vm.findClass "com/example/latchkey/latchkey/server/gateway/CrcCombination" = some m.cls := findClass_of_methodNamed Bd.named
  have hnm := (name_of_methodNamed Bd.named Bd.method).1
  have X0 : Stand p l e ({ frames := 3, cells := 0, slots := 0, locals := 59 } : Room) s m #[(.ref a1), (.long q2), (.long q3), (.long q4)] below meth c s₁ [] 0 0 := Stand.of_body Bd
  have e0 : s₁.heap = h0 := by rw [← hh, Bd.state]; rfl
  have N0 := Fr.nil n0
  refine own_adv (B := (s₁.setTop (mkF m 0 #[.val (.ref a1), .val (.long q2), .second, .val (.long q3), .second, .val (.long q4), .second] []))) (fun t k => castTop (ef_10 m a1 q2 q3 q4) k) ?_
  refine own_adv (B := (s₁.setTop (mkF m 9 #[.val (.ref a1), .val (.long q2), .second, .val (.long q3), .second, .val (.long q4), .second] [(.long ((8 : Int64) * q4)), (.ref a1), (.long q2), (.ref a1)]))) (fun t kS => ?_) ?_
  · show Steps p.tables e below (s₁.setTop (mkF m 0 #[.val (.ref a1), .val (.long q2), .second, .val (.long q3), .second, .val (.long q4), .second] [])) _
    refine XS.aloadN X0.here hx rfl (hb hby d10_0) rfl rfl ?_
    show Steps p.tables e below (s₁.setTop (mkF m 1 #[.val (.ref a1), .val (.long q2), .second, .val (.long q3), .second, .val (.long q4), .second] [(.ref a1)])) _
    refine XS.lloadN X0.here hx rfl (hb hby d10_1) rfl ?_
    show Steps p.tables e below (s₁.setTop (mkF m 2 #[.val (.ref a1), .val (.long q2), .second, .val (.long q3), .second, .val (.long q4), .second] [(.long q2), (.ref a1)])) _
    refine XS.aloadN X0.here hx rfl (hb hby d10_2) rfl rfl ?_
    show Steps p.tables e below (s₁.setTop (mkF m 3 #[.val (.ref a1), .val (.long q2), .second, .val (.long q3), .second, .val (.long q4), .second] [(.ref a1), (.long q2), (.ref a1)])) _
    refine X0.ldc2Long hx hown (mvT hZ (hw _ (List.mem_of_getElem? (i := 48) rfl))) (g := (mkF m 3 #[.val (.ref a1), .val (.long q2), .second, .val (.long q3), .second, .val (.long q4), .second] [(.ref a1), (.long q2), (.ref a1)])) rfl (hb hby d10_3) _ ?_
    show Steps p.tables e below (s₁.setTop (mkF m 6 #[.val (.ref a1), .val (.long q2), .second, .val (.long q3), .second, .val (.long q4), .second] [(.long (8 : Int64)), (.ref a1), (.long q2), (.ref a1)])) _
    refine XS.lload X0.here hx rfl (hb hby d10_6) rfl ?_
    show Steps p.tables e below (s₁.setTop (mkF m 8 #[.val (.ref a1), .val (.long q2), .second, .val (.long q3), .second, .val (.long q4), .second] [(.long q4), (.long (8 : Int64)), (.ref a1), (.long q2), (.ref a1)])) _
    refine XS.lmul X0.here hx rfl (hb hby d10_8) rfl ?_
    exact kS
  obtain ⟨cq30, q30, q30'⟩ := Ea.cell
  obtain ⟨_, _, ⟨T30, L30, k30, n30⟩, -, X30, ⟨Lc30, hQ30, l30, y30, z30⟩, st30⟩ := X0.privateBack hx (y := (⟨"com/example/latchkey/latchkey/server/gateway/CrcCombination", "power", "(J)J"⟩ : MethodName)) hown (mvT hZ (hw _ (List.mem_of_getElem? (i := 49) rfl))) (mvT hZ (hw _ (List.mem_of_getElem? (i := 50) rfl))) (own_sel hZ (hw _ (List.mem_of_getElem? (i := 13) rfl)) (hw _ (List.mem_of_getElem? (i := 51) rfl)) (hw _ (List.mem_of_getElem? (i := 50) rfl)) (by decide)) (Cond.privateMethod_at (mvP hZ (hw _ (List.mem_of_getElem? (i := 51) rfl)) (args := #[]))) (mvT hZ (hw _ (List.mem_of_getElem? (i := 52) rfl))) (by decide) (backOf (W := 3) (rm11 l Z a0 hw [] a1 ((8 : Int64) * q4) rp w h0 n0 Z0 Ea Fp Fo h64) hZ (hw _ (List.mem_of_getElem? (i := 52) rfl)) (hw _ (List.mem_of_getElem? (i := 14) rfl)) (by decide) (by decide)) (g := (mkF m 9 #[.val (.ref a1), .val (.long q2), .second, .val (.long q3), .second, .val (.long q4), .second] [(.long ((8 : Int64) * q4)), (.ref a1), (.long q2), (.ref a1)])) rfl (by rw [hml]; rfl) (Steps.refl _) (a := a1) (by rw [e0]; exact q30) q30' (argsL := [(.long ((8 : Int64) * q4))]) (rest := [(.long q2), (.ref a1)]) (lenOf pd_1 rfl) rfl (by show 2 * 0 + _ ≤ _; exact Nat.le_of_eq rfl) (hb hby d10_9) (fun _ _ => ⟨rfl, e0, (by decide : 0 + 0 ≤ _), (by decide : 0 + 0 ≤ _)⟩)
  dsimp only [Pt.U, Pt.locs, Pt.cells, Pt.slots] at X30 l30 y30 z30 st30 hQ30
  subst l30 y30 z30
  obtain ⟨rfl, N30q, hH30⟩ := hQ30
  have N30 := Fr.app N0 N30q
  obtain ⟨lo30, X30, N30⟩ := own_pack X30 N30
  replace X30 : Stand p l e _ s m _ below meth c T30 _ 0 0 := X30
  refine own_adv (B := (T30.setTop (mkF m 12 #[.val (.ref a1), .val (.long q2), .second, .val (.long q3), .second, .val (.long q4), .second] [(.long (own_Pf rp w 64 ((8 : Int64) * q4) (own_tm w) (((own_tm w).toUInt64 >>> ((1 : Int32) &&& 0x3f).toInt64.toUInt64).toInt64))), (.long q2), (.ref a1)]))) (fun t kS => st30.trans kS) ?_
  obtain ⟨cq31, q31, q31'⟩ := Ea.cell
  obtain ⟨_, _, ⟨T31, L31, k31, n31⟩, -, X31, ⟨Lc31, hQ31, l31, y31, z31⟩, st31⟩ := X30.privateBack hx (y := (⟨"com/example/latchkey/latchkey/server/gateway/CrcCombination", "multiply", "(JJ)J"⟩ : MethodName)) hown (mvT hZ (hw _ (List.mem_of_getElem? (i := 53) rfl))) (mvT hZ (hw _ (List.mem_of_getElem? (i := 54) rfl))) (own_sel hZ (hw _ (List.mem_of_getElem? (i := 13) rfl)) (hw _ (List.mem_of_getElem? (i := 55) rfl)) (hw _ (List.mem_of_getElem? (i := 54) rfl)) (by decide)) (Cond.privateMethod_at (mvP hZ (hw _ (List.mem_of_getElem? (i := 55) rfl)) (args := #[]))) (mvT hZ (hw _ (List.mem_of_getElem? (i := 56) rfl))) (by decide) (backOf (W := 0) (rm12 l Z a0 hw [] a1 q2 (own_Pf rp w 64 ((8 : Int64) * q4) (own_tm w) (((own_tm w).toUInt64 >>> ((1 : Int32) &&& 0x3f).toInt64.toUInt64).toInt64)) rp w h0 n0 Z0 Ea Fp Fo h64) hZ (hw _ (List.mem_of_getElem? (i := 56) rfl)) (hw _ (List.mem_of_getElem? (i := 14) rfl)) (by decide) (by decide)) (g := (mkF m 12 #[.val (.ref a1), .val (.long q2), .second, .val (.long q3), .second, .val (.long q4), .second] [(.long (own_Pf rp w 64 ((8 : Int64) * q4) (own_tm w) (((own_tm w).toUInt64 >>> ((1 : Int32) &&& 0x3f).toInt64.toUInt64).toInt64))), (.long q2), (.ref a1)])) rfl (by rw [hml]; rfl) (Steps.refl _) (a := a1) (by rw [hH30]; exact q31) q31' (argsL := [(.long q2), (.long (own_Pf rp w 64 ((8 : Int64) * q4) (own_tm w) (((own_tm w).toUInt64 >>> ((1 : Int32) &&& 0x3f).toInt64.toUInt64).toInt64)))]) (rest := []) (lenOf pd_2 rfl) rfl (by show 2 * 0 + _ ≤ _; exact Nat.le_of_eq rfl) (hb hby d10_12) (fun _ _ => ⟨rfl, hH30, (by decide : 0 + 0 ≤ _), (by decide : 0 + 0 ≤ _)⟩)
  dsimp only [Pt.U, Pt.locs, Pt.cells, Pt.slots] at X31 l31 y31 z31 st31 hQ31
  subst l31 y31 z31
  obtain ⟨rfl, N31q, hH31⟩ := hQ31
  have N31 := Fr.app N30 N31q
  obtain ⟨lo31, X31, N31⟩ := own_pack X31 N31
  replace X31 : Stand p l e _ s m _ below meth c T31 _ 0 0 := X31
  refine own_adv (B := (T31.setTop (mkF m 15 #[.val (.ref a1), .val (.long q2), .second, .val (.long q3), .second, .val (.long q4), .second] [(.long (own_Mul rp w q2 (own_Pf rp w 64 ((8 : Int64) * q4) (own_tm w) (((own_tm w).toUInt64 >>> ((1 : Int32) &&& 0x3f).toInt64.toUInt64).toInt64))))]))) (fun t kS => st31.trans kS) ?_
  refine own_adv (B := (T31.setTop (mkF m 17 #[.val (.ref a1), .val (.long q2), .second, .val (.long q3), .second, .val (.long q4), .second] [(.long ((own_Mul rp w q2 (own_Pf rp w 64 ((8 : Int64) * q4) (own_tm w) (((own_tm w).toUInt64 >>> ((1 : Int32) &&& 0x3f).toInt64.toUInt64).toInt64))) ^^^ q3))]))) (fun t kS => ?_) ?_
  · show Steps p.tables e below (T31.setTop (mkF m 15 #[.val (.ref a1), .val (.long q2), .second, .val (.long q3), .second, .val (.long q4), .second] [(.long (own_Mul rp w q2 (own_Pf rp w 64 ((8 : Int64) * q4) (own_tm w) (((own_tm w).toUInt64 >>> ((1 : Int32) &&& 0x3f).toInt64.toUInt64).toInt64))))])) _
    refine XS.lloadN X31.here hx rfl (hb hby d10_15) rfl ?_
    show Steps p.tables e below (T31.setTop (mkF m 16 #[.val (.ref a1), .val (.long q2), .second, .val (.long q3), .second, .val (.long q4), .second] [(.long q3), (.long (own_Mul rp w q2 (own_Pf rp w 64 ((8 : Int64) * q4) (own_tm w) (((own_tm w).toUInt64 >>> ((1 : Int32) &&& 0x3f).toInt64.toUInt64).toInt64))))])) _
    refine XS.lxor X31.here hx rfl (hb hby d10_16) rfl ?_
    exact kS
  obtain ⟨fs, hr, hrun, hended, hW, hsame⟩ := X31.leave (v := some (.long ((own_Mul rp w q2 (own_Pf rp w 64 ((8 : Int64) * q4) (own_tm w) (((own_tm w).toUInt64 >>> ((1 : Int32) &&& 0x3f).toInt64.toUInt64).toInt64))) ^^^ q3))) (fun h => by rw [Bd.returns] at h; cases h)
  refine ⟨_, _, ?_, hrun, hended, _, _, rfl, ?_, ⟨_, rfl⟩, hW, hsame.mono (by decide) (by decide)⟩
  · show Steps p.tables e below (T31.setTop (mkF m 17 #[.val (.ref a1), .val (.long q2), .second, .val (.long q3), .second, .val (.long q4), .second] [(.long ((own_Mul rp w q2 (own_Pf rp w 64 ((8 : Int64) * q4) (own_tm w) (((own_tm w).toUInt64 >>> ((1 : Int32) &&& 0x3f).toInt64.toUInt64).toInt64))) ^^^ q3))])) _
    exact retOut X31 hx (t := .long) Bd.returns rfl (Or.inr (Or.inl ⟨rfl, rfl, _, rfl⟩)) (hb hby d10_17) hr
  · show Q10 Z a1 q2 q3 q4 rp w h0 n0 _ T31.heap _
    rw [hH31]
    exact ⟨rfl, N31, rfl⟩
theorem ef_0 (m : MethodId) (x0 : Int32) (x1 : Int64) (x2 : Int64) (x3 : Int64) (x4 : Int64) (x5 : Int64) : entryFrame m #[(.int x0), (.long x1), (.long x2), (.long x3), (.long x4), (.long x5)] maxLocals = mkF m 0 #[.val (.int x0), .val (.long x1), .second, .val (.long x2), .second, .val (.long x3), .second, .val (.long x4), .second, .val (.long x5), .second, .unset, .unset, .unset, .unset, .unset, .unset, .unset, .unset, .unset, .unset, .unset, .unset, .unset, .unset, .unset, .unset, .unset, .unset, .unset, .unset, .unset, .unset, .unset, .unset, .unset, .unset, .unset, .unset, .unset, .unset, .unset, .unset, .unset, .unset] [] := by first | (simp [entryFrame, mkF, argsToLocals, Value.category, maxLocals]; done) | rfl
def Q0 (Z : State) (p1 : Int32) (q2 : Int64) (q3 : Int64) (q4 : Int64) (q5 : Int64) (q6 : Int64) (h0 : Heap) (n0 : Nat) (v : Option Value) (h : Heap) (L : List Loc) : Prop := v = some (.int (1 : Int32)) ∧ Fr n0 L
set_option maxRecDepth 65536 in
set_option maxHeartbeats 40000000 in
theorem rm0 (l : Launch) (Z : State) (a0 : Array Value) (hw : ∀ d ∈ tables_1, d.before a0 Z = true) (ws : List Jvm.Cond) (p1 : Int32) (q2 : Int64) (q3 : Int64) (q4 : Int64) (q5 : Int64) (q6 : Int64) (h0 : Heap) (n0 : Nat) (Z0 : n0 ≤ h0.size) :
    MetFree l x (head1 (Jvm.Cond.code x code maxLocals ret :: ws) room_1) (fun a U => a = #[(.int p1), (.long q2), (.long q3), (.long q4), (.long q5), (.long q6)] ∧ Z.Warmed39 U.vm ∧ U.heap = h0) (fun _ _ _ _ _ => True) (fun _ U o U' => ∃ v L, o = .returned v ∧ Q0 Z p1 q2 q3 q4 q5 q6 h0 n0 v U'.heap L ∧ FrameEnd U o U' L room_1.cells room_1.slots) := by
  refine MetFree.of_bodySF (plainFor_of_name pn_0) hisR ?_
  intro p e s m args below meth c s₁ Bd hml0 hP hK
  obtain ⟨rfl, hZ, hh⟩ := hP
  have hx := Bd.exec
  have hby := Bd.bytes
  have hml : c.maxLocals = 45 := hml0
  have hown : s.vm.findClass "com/example/latchkey/latchkey/server/gateway/CrcCombinationCombinePinLaw" = some m.cls := findClass_of_methodNamed Bd.named
  have hnm := (name_of_methodNamed Bd.named Bd.method).1
  have X0 : Stand p l e room_1 s m #[(.int p1), (.long q2), (.long q3), (.long q4), (.long q5), (.long q6)] below meth c s₁ [] 0 0 := Stand.of_body Bd
  have e0 : s₁.heap = h0 := by rw [← hh, Bd.state]; rfl
  have N0 := Fr.nil n0
  refine own_adv (B := (s₁.setTop (mkF m 0 #[.val (.int p1), .val (.long q2), .second, .val (.long q3), .second, .val (.long q4), .second, .val (.long q5), .second, .val (.long q6), .second, .unset, .unset, .unset, .unset, .unset, .unset, .unset, .unset, .unset, .unset, .unset, .unset, .unset, .unset, .unset, .unset, .unset, .unset, .unset, .unset, .unset, .unset, .unset, .unset, .unset, .unset, .unset, .unset, .unset, .unset, .unset, .unset, .unset, .unset] []))) (fun t k => castTop (ef_0 m p1 q2 q3 q4 q5 q6) k) ?_
  refine own_adv (B := (s₁.setTop (mkF m 6 #[.val (.int p1), .val (.long q2), .second, .val (.long q3), .second, .val (.long q4), .second, .val (.long q5), .second, .val (.long q6), .second, .val (.int (p1 &&& (7 : Int32))), .unset, .unset, .unset, .unset, .unset, .unset, .unset, .unset, .unset, .unset, .unset, .unset, .unset, .unset, .unset, .unset, .unset, .unset, .unset, .unset, .unset, .unset, .unset, .unset, .unset, .unset, .unset, .unset, .unset, .unset, .unset, .unset, .unset] []))) (fun t kS => ?_) ?_
  · show Steps p.tables e below (s₁.setTop (mkF m 0 #[.val (.int p1), .val (.long q2), .second, .val (.long q3), .second, .val (.long q4), .second, .val (.long q5), .second, .val (.long q6), .second, .unset, .unset, .unset, .unset, .unset, .unset, .unset, .unset, .unset, .unset, .unset, .unset, .unset, .unset, .unset, .unset, .unset, .unset, .unset, .unset, .unset, .unset, .unset, .unset, .unset, .unset, .unset, .unset, .unset, .unset, .unset, .unset, .unset, .unset] [])) _
    refine XS.iloadN X0.here hx rfl (hb hby at_0) rfl ?_
    show Steps p.tables e below (s₁.setTop (mkF m 1 #[.val (.int p1), .val (.long q2), .second, .val (.long q3), .second, .val (.long q4), .second, .val (.long q5), .second, .val (.long q6), .second, .unset, .unset, .unset, .unset, .unset, .unset, .unset, .unset, .unset, .unset, .unset, .unset, .unset, .unset, .unset, .unset, .unset, .unset, .unset, .unset, .unset, .unset, .unset, .unset, .unset, .unset, .unset, .unset, .unset, .unset, .unset, .unset, .unset, .unset] [(.int p1)])) _
    refine XS.bipush X0.here hx rfl (hb hby at_1) ?_
    show Steps p.tables e below (s₁.setTop (mkF m 3 #[.val (.int p1), .val (.long q2), .second, .val (.long q3), .second, .val (.long q4), .second, .val (.long q5), .second, .val (.long q6), .second, .unset, .unset, .unset, .unset, .unset, .unset, .unset, .unset, .unset, .unset, .unset, .unset, .unset, .unset, .unset, .unset, .unset, .unset, .unset, .unset, .unset, .unset, .unset, .unset, .unset, .unset, .unset, .unset, .unset, .unset, .unset, .unset, .unset, .unset] [(.int (7 : Int32)), (.int p1)])) _
    refine XS.iand X0.here hx rfl (hb hby at_3) rfl ?_
    show Steps p.tables e below (s₁.setTop (mkF m 4 #[.val (.int p1), .val (.long q2), .second, .val (.long q3), .second, .val (.long q4), .second, .val (.long q5), .second, .val (.long q6), .second, .unset, .unset, .unset, .unset, .unset, .unset, .unset, .unset, .unset, .unset, .unset, .unset, .unset, .unset, .unset, .unset, .unset, .unset, .unset, .unset, .unset, .unset, .unset, .unset, .unset, .unset, .unset, .unset, .unset, .unset, .unset, .unset, .unset, .unset] [(.int (p1 &&& (7 : Int32)))])) _
    refine XS.istore X0.here hx rfl (hb hby at_4) rfl (l' := #[.val (.int p1), .val (.long q2), .second, .val (.long q3), .second, .val (.long q4), .second, .val (.long q5), .second, .val (.long q6), .second, .val (.int (p1 &&& (7 : Int32))), .unset, .unset, .unset, .unset, .unset, .unset, .unset, .unset, .unset, .unset, .unset, .unset, .unset, .unset, .unset, .unset, .unset, .unset, .unset, .unset, .unset, .unset, .unset, .unset, .unset, .unset, .unset, .unset, .unset, .unset, .unset, .unset, .unset]) rfl ?_
    exact kS
  generalize hkk : (p1 &&& (7 : Int32)) = kk
  refine own_adv (B := (s₁.setTop (mkF m 13 #[.val (.int p1), .val (.long q2), .second, .val (.long q3), .second, .val (.long q4), .second, .val (.long q5), .second, .val (.long q6), .second, .val (.int kk), .val (.int (((p1.toUInt32 >>> ((3 : Int32) &&& 31).toUInt32).toInt32) &&& (3 : Int32))), .unset, .unset, .unset, .unset, .unset, .unset, .unset, .unset, .unset, .unset, .unset, .unset, .unset, .unset, .unset, .unset, .unset, .unset, .unset, .unset, .unset, .unset, .unset, .unset, .unset, .unset, .unset, .unset, .unset, .unset, .unset, .unset] []))) (fun t kS => ?_) ?_
  · show Steps p.tables e below (s₁.setTop (mkF m 6 #[.val (.int p1), .val (.long q2), .second, .val (.long q3), .second, .val (.long q4), .second, .val (.long q5), .second, .val (.long q6), .second, .val (.int kk), .unset, .unset, .unset, .unset, .unset, .unset, .unset, .unset, .unset, .unset, .unset, .unset, .unset, .unset, .unset, .unset, .unset, .unset, .unset, .unset, .unset, .unset, .unset, .unset, .unset, .unset, .unset, .unset, .unset, .unset, .unset, .unset, .unset] [])) _
    refine XS.iloadN X0.here hx rfl (hb hby at_6) rfl ?_
    show Steps p.tables e below (s₁.setTop (mkF m 7 #[.val (.int p1), .val (.long q2), .second, .val (.long q3), .second, .val (.long q4), .second, .val (.long q5), .second, .val (.long q6), .second, .val (.int kk), .unset, .unset, .unset, .unset, .unset, .unset, .unset, .unset, .unset, .unset, .unset, .unset, .unset, .unset, .unset, .unset, .unset, .unset, .unset, .unset, .unset, .unset, .unset, .unset, .unset, .unset, .unset, .unset, .unset, .unset, .unset, .unset, .unset] [(.int p1)])) _
    refine XS.iconst X0.here hx rfl (hb hby at_7) ?_
    show Steps p.tables e below (s₁.setTop (mkF m 8 #[.val (.int p1), .val (.long q2), .second, .val (.long q3), .second, .val (.long q4), .second, .val (.long q5), .second, .val (.long q6), .second, .val (.int kk), .unset, .unset, .unset, .unset, .unset, .unset, .unset, .unset, .unset, .unset, .unset, .unset, .unset, .unset, .unset, .unset, .unset, .unset, .unset, .unset, .unset, .unset, .unset, .unset, .unset, .unset, .unset, .unset, .unset, .unset, .unset, .unset, .unset] [(.int (3 : Int32)), (.int p1)])) _
    refine XS.iushr X0.here hx rfl (hb hby at_8) rfl ?_
    show Steps p.tables e below (s₁.setTop (mkF m 9 #[.val (.int p1), .val (.long q2), .second, .val (.long q3), .second, .val (.long q4), .second, .val (.long q5), .second, .val (.long q6), .second, .val (.int kk), .unset, .unset, .unset, .unset, .unset, .unset, .unset, .unset, .unset, .unset, .unset, .unset, .unset, .unset, .unset, .unset, .unset, .unset, .unset, .unset, .unset, .unset, .unset, .unset, .unset, .unset, .unset, .unset, .unset, .unset, .unset, .unset, .unset] [(.int ((p1.toUInt32 >>> ((3 : Int32) &&& 31).toUInt32).toInt32))])) _
    refine XS.iconst X0.here hx rfl (hb hby at_9) ?_
    show Steps p.tables e below (s₁.setTop (mkF m 10 #[.val (.int p1), .val (.long q2), .second, .val (.long q3), .second, .val (.long q4), .second, .val (.long q5), .second, .val (.long q6), .second, .val (.int kk), .unset, .unset, .unset, .unset, .unset, .unset, .unset, .unset, .unset, .unset, .unset, .unset, .unset, .unset, .unset, .unset, .unset, .unset, .unset, .unset, .unset, .unset, .unset, .unset, .unset, .unset, .unset, .unset, .unset, .unset, .unset, .unset, .unset] [(.int (3 : Int32)), (.int ((p1.toUInt32 >>> ((3 : Int32) &&& 31).toUInt32).toInt32))])) _
    refine XS.iand X0.here hx rfl (hb hby at_10) rfl ?_
    show Steps p.tables e below (s₁.setTop (mkF m 11 #[.val (.int p1), .val (.long q2), .second, .val (.long q3), .second, .val (.long q4), .second, .val (.long q5), .second, .val (.long q6), .second, .val (.int kk), .unset, .unset, .unset, .unset, .unset, .unset, .unset, .unset, .unset, .unset, .unset, .unset, .unset, .unset, .unset, .unset, .unset, .unset, .unset, .unset, .unset, .unset, .unset, .unset, .unset, .unset, .unset, .unset, .unset, .unset, .unset, .unset, .unset] [(.int (((p1.toUInt32 >>> ((3 : Int32) &&& 31).toUInt32).toInt32) &&& (3 : Int32)))])) _
    refine XS.istore X0.here hx rfl (hb hby at_11) rfl (l' := #[.val (.int p1), .val (.long q2), .second, .val (.long q3), .second, .val (.long q4), .second, .val (.long q5), .second, .val (.long q6), .second, .val (.int kk), .val (.int (((p1.toUInt32 >>> ((3 : Int32) &&& 31).toUInt32).toInt32) &&& (3 : Int32))), .unset, .unset, .unset, .unset, .unset, .unset, .unset, .unset, .unset, .unset, .unset, .unset, .unset, .unset, .unset, .unset, .unset, .unset, .unset, .unset, .unset, .unset, .unset, .unset, .unset, .unset, .unset, .unset, .unset, .unset, .unset, .unset]) rfl ?_
    exact kS
  obtain ⟨ka, hka, ea⟩ := own_len ((p1.toUInt32 >>> ((3 : Int32) &&& 31).toUInt32).toInt32)
  generalize (((p1.toUInt32 >>> ((3 : Int32) &&& 31).toUInt32).toInt32) &&& (3 : Int32)) = la at ea ⊢
  refine own_adv (B := (s₁.setTop (mkF m 20 #[.val (.int p1), .val (.long q2), .second, .val (.long q3), .second, .val (.long q4), .second, .val (.long q5), .second, .val (.long q6), .second, .val (.int kk), .val (.int la), .val (.int (((p1.toUInt32 >>> ((5 : Int32) &&& 31).toUInt32).toInt32) &&& (3 : Int32))), .unset, .unset, .unset, .unset, .unset, .unset, .unset, .unset, .unset, .unset, .unset, .unset, .unset, .unset, .unset, .unset, .unset, .unset, .unset, .unset, .unset, .unset, .unset, .unset, .unset, .unset, .unset, .unset, .unset, .unset, .unset] []))) (fun t kS => ?_) ?_
  · show Steps p.tables e below (s₁.setTop (mkF m 13 #[.val (.int p1), .val (.long q2), .second, .val (.long q3), .second, .val (.long q4), .second, .val (.long q5), .second, .val (.long q6), .second, .val (.int kk), .val (.int la), .unset, .unset, .unset, .unset, .unset, .unset, .unset, .unset, .unset, .unset, .unset, .unset, .unset, .unset, .unset, .unset, .unset, .unset, .unset, .unset, .unset, .unset, .unset, .unset, .unset, .unset, .unset, .unset, .unset, .unset, .unset, .unset] [])) _
    refine XS.iloadN X0.here hx rfl (hb hby at_13) rfl ?_
    show Steps p.tables e below (s₁.setTop (mkF m 14 #[.val (.int p1), .val (.long q2), .second, .val (.long q3), .second, .val (.long q4), .second, .val (.long q5), .second, .val (.long q6), .second, .val (.int kk), .val (.int la), .unset, .unset, .unset, .unset, .unset, .unset, .unset, .unset, .unset, .unset, .unset, .unset, .unset, .unset, .unset, .unset, .unset, .unset, .unset, .unset, .unset, .unset, .unset, .unset, .unset, .unset, .unset, .unset, .unset, .unset, .unset, .unset] [(.int p1)])) _
    refine XS.iconst X0.here hx rfl (hb hby at_14) ?_
    show Steps p.tables e below (s₁.setTop (mkF m 15 #[.val (.int p1), .val (.long q2), .second, .val (.long q3), .second, .val (.long q4), .second, .val (.long q5), .second, .val (.long q6), .second, .val (.int kk), .val (.int la), .unset, .unset, .unset, .unset, .unset, .unset, .unset, .unset, .unset, .unset, .unset, .unset, .unset, .unset, .unset, .unset, .unset, .unset, .unset, .unset, .unset, .unset, .unset, .unset, .unset, .unset, .unset, .unset, .unset, .unset, .unset, .unset] [(.int (5 : Int32)), (.int p1)])) _
    refine XS.iushr X0.here hx rfl (hb hby at_15) rfl ?_
    show Steps p.tables e below (s₁.setTop (mkF m 16 #[.val (.int p1), .val (.long q2), .second, .val (.long q3), .second, .val (.long q4), .second, .val (.long q5), .second, .val (.long q6), .second, .val (.int kk), .val (.int la), .unset, .unset, .unset, .unset, .unset, .unset, .unset, .unset, .unset, .unset, .unset, .unset, .unset, .unset, .unset, .unset, .unset, .unset, .unset, .unset, .unset, .unset, .unset, .unset, .unset, .unset, .unset, .unset, .unset, .unset, .unset, .unset] [(.int ((p1.toUInt32 >>> ((5 : Int32) &&& 31).toUInt32).toInt32))])) _
    refine XS.iconst X0.here hx rfl (hb hby at_16) ?_
    show Steps p.tables e below (s₁.setTop (mkF m 17 #[.val (.int p1), .val (.long q2), .second, .val (.long q3), .second, .val (.long q4), .second, .val (.long q5), .second, .val (.long q6), .second, .val (.int kk), .val (.int la), .unset, .unset, .unset, .unset, .unset, .unset, .unset, .unset, .unset, .unset, .unset, .unset, .unset, .unset, .unset, .unset, .unset, .unset, .unset, .unset, .unset, .unset, .unset, .unset, .unset, .unset, .unset, .unset, .unset, .unset, .unset, .unset] [(.int (3 : Int32)), (.int ((p1.toUInt32 >>> ((5 : Int32) &&& 31).toUInt32).toInt32))])) _
    refine XS.iand X0.here hx rfl (hb hby at_17) rfl ?_
    show Steps p.tables e below (s₁.setTop (mkF m 18 #[.val (.int p1), .val (.long q2), .second, .val (.long q3), .second, .val (.long q4), .second, .val (.long q5), .second, .val (.long q6), .second, .val (.int kk), .val (.int la), .unset, .unset, .unset, .unset, .unset, .unset, .unset, .unset, .unset, .unset, .unset, .unset, .unset, .unset, .unset, .unset, .unset, .unset, .unset, .unset, .unset, .unset, .unset, .unset, .unset, .unset, .unset, .unset, .unset, .unset, .unset, .unset] [(.int (((p1.toUInt32 >>> ((5 : Int32) &&& 31).toUInt32).toInt32) &&& (3 : Int32)))])) _
    refine XS.istore X0.here hx rfl (hb hby at_18) rfl (l' := #[.val (.int p1), .val (.long q2), .second, .val (.long q3), .second, .val (.long q4), .second, .val (.long q5), .second, .val (.long q6), .second, .val (.int kk), .val (.int la), .val (.int (((p1.toUInt32 >>> ((5 : Int32) &&& 31).toUInt32).toInt32) &&& (3 : Int32))), .unset, .unset, .unset, .unset, .unset, .unset, .unset, .unset, .unset, .unset, .unset, .unset, .unset, .unset, .unset, .unset, .unset, .unset, .unset, .unset, .unset, .unset, .unset, .unset, .unset, .unset, .unset, .unset, .unset, .unset, .unset]) rfl ?_
    exact kS
  obtain ⟨kb, hkb, eb⟩ := own_len ((p1.toUInt32 >>> ((5 : Int32) &&& 31).toUInt32).toInt32)
  generalize (((p1.toUInt32 >>> ((5 : Int32) &&& 31).toUInt32).toInt32) &&& (3 : Int32)) = lb at eb ⊢
  refine own_adv (B := (s₁.setTop (mkF m 22 #[.val (.int p1), .val (.long q2), .second, .val (.long q3), .second, .val (.long q4), .second, .val (.long q5), .second, .val (.long q6), .second, .val (.int kk), .val (.int la), .val (.int lb), .unset, .unset, .unset, .unset, .unset, .unset, .unset, .unset, .unset, .unset, .unset, .unset, .unset, .unset, .unset, .unset, .unset, .unset, .unset, .unset, .unset, .unset, .unset, .unset, .unset, .unset, .unset, .unset, .unset, .unset, .unset] [(.int kk)]))) (fun t kS => ?_) ?_
  · show Steps p.tables e below (s₁.setTop (mkF m 20 #[.val (.int p1), .val (.long q2), .second, .val (.long q3), .second, .val (.long q4), .second, .val (.long q5), .second, .val (.long q6), .second, .val (.int kk), .val (.int la), .val (.int lb), .unset, .unset, .unset, .unset, .unset, .unset, .unset, .unset, .unset, .unset, .unset, .unset, .unset, .unset, .unset, .unset, .unset, .unset, .unset, .unset, .unset, .unset, .unset, .unset, .unset, .unset, .unset, .unset, .unset, .unset, .unset] [])) _
    refine XS.iload X0.here hx rfl (hb hby at_20) rfl ?_
    exact kS
  obtain ⟨_, _, ⟨T32, L32, k32, n32⟩, -, X32, ⟨Lc32, hQ32, l32, y32, z32⟩, st32⟩ := Jvm.LawKit.callS X0 hx (y := (⟨"com/example/latchkey/latchkey/server/gateway/CrcCombinationCombinePinLaw", "polynomial", "(I)J"⟩ : MethodName)) hown (mvT hZ (hw _ (List.mem_of_getElem? (i := 0) rfl))) (mvT hZ (hw _ (List.mem_of_getElem? (i := 1) rfl))) (mvT hZ (hw _ (List.mem_of_getElem? (i := 2) rfl))) (mvT hZ (hw _ (List.mem_of_getElem? (i := 3) rfl))) (by decide) (backOf (W := 0) (rm1 l Z a0 hw [] kk h0 n0 Z0) hZ (hw _ (List.mem_of_getElem? (i := 3) rfl)) (hw _ (List.mem_of_getElem? (i := 2) rfl)) (by decide) (by decide)) (g := (mkF m 22 #[.val (.int p1), .val (.long q2), .second, .val (.long q3), .second, .val (.long q4), .second, .val (.long q5), .second, .val (.long q6), .second, .val (.int kk), .val (.int la), .val (.int lb), .unset, .unset, .unset, .unset, .unset, .unset, .unset, .unset, .unset, .unset, .unset, .unset, .unset, .unset, .unset, .unset, .unset, .unset, .unset, .unset, .unset, .unset, .unset, .unset, .unset, .unset, .unset, .unset, .unset, .unset, .unset] [(.int kk)])) rfl (by rw [hml]; rfl) (argsL := [(.int kk)]) (rest := []) (lenOf pd_3 rfl) rfl (by show 2 * 0 + _ ≤ _; exact Nat.le_of_eq rfl) (hb hby at_22) (fun _ _ => ⟨rfl, e0, (by decide : 0 + 0 ≤ _), (by decide : 0 + 0 ≤ _)⟩)
  dsimp only [Pt.U, Pt.locs, Pt.cells, Pt.slots] at X32 l32 y32 z32 st32 hQ32
  subst l32 y32 z32
  obtain ⟨rfl, N32q, hH32⟩ := hQ32
  have N32 := Fr.app N0 N32q
  obtain ⟨lo32, X32, N32⟩ := own_pack X32 N32
  replace X32 : Stand p l e _ s m _ below meth c T32 _ 0 0 := X32
  refine own_adv (B := (T32.setTop (mkF m 25 #[.val (.int p1), .val (.long q2), .second, .val (.long q3), .second, .val (.long q4), .second, .val (.long q5), .second, .val (.long q6), .second, .val (.int kk), .val (.int la), .val (.int lb), .unset, .unset, .unset, .unset, .unset, .unset, .unset, .unset, .unset, .unset, .unset, .unset, .unset, .unset, .unset, .unset, .unset, .unset, .unset, .unset, .unset, .unset, .unset, .unset, .unset, .unset, .unset, .unset, .unset, .unset, .unset] [(.long (own_poly kk))]))) (fun t kS => st32 t kS) ?_
  refine own_adv (B := (T32.setTop (mkF m 29 #[.val (.int p1), .val (.long q2), .second, .val (.long q3), .second, .val (.long q4), .second, .val (.long q5), .second, .val (.long q6), .second, .val (.int kk), .val (.int la), .val (.int lb), .val (.long (own_poly kk)), .second, .unset, .unset, .unset, .unset, .unset, .unset, .unset, .unset, .unset, .unset, .unset, .unset, .unset, .unset, .unset, .unset, .unset, .unset, .unset, .unset, .unset, .unset, .unset, .unset, .unset, .unset, .unset, .unset, .unset] [(.int kk)]))) (fun t kS => ?_) ?_
  · show Steps p.tables e below (T32.setTop (mkF m 25 #[.val (.int p1), .val (.long q2), .second, .val (.long q3), .second, .val (.long q4), .second, .val (.long q5), .second, .val (.long q6), .second, .val (.int kk), .val (.int la), .val (.int lb), .unset, .unset, .unset, .unset, .unset, .unset, .unset, .unset, .unset, .unset, .unset, .unset, .unset, .unset, .unset, .unset, .unset, .unset, .unset, .unset, .unset, .unset, .unset, .unset, .unset, .unset, .unset, .unset, .unset, .unset, .unset] [(.long (own_poly kk))])) _
    refine XS.lstore X32.here hx rfl (hb hby at_25) rfl (l' := #[.val (.int p1), .val (.long q2), .second, .val (.long q3), .second, .val (.long q4), .second, .val (.long q5), .second, .val (.long q6), .second, .val (.int kk), .val (.int la), .val (.int lb), .val (.long (own_poly kk)), .second, .unset, .unset, .unset, .unset, .unset, .unset, .unset, .unset, .unset, .unset, .unset, .unset, .unset, .unset, .unset, .unset, .unset, .unset, .unset, .unset, .unset, .unset, .unset, .unset, .unset, .unset, .unset, .unset, .unset]) rfl ?_
    show Steps p.tables e below (T32.setTop (mkF m 27 #[.val (.int p1), .val (.long q2), .second, .val (.long q3), .second, .val (.long q4), .second, .val (.long q5), .second, .val (.long q6), .second, .val (.int kk), .val (.int la), .val (.int lb), .val (.long (own_poly kk)), .second, .unset, .unset, .unset, .unset, .unset, .unset, .unset, .unset, .unset, .unset, .unset, .unset, .unset, .unset, .unset, .unset, .unset, .unset, .unset, .unset, .unset, .unset, .unset, .unset, .unset, .unset, .unset, .unset, .unset] [])) _
    refine XS.iload X32.here hx rfl (hb hby at_27) rfl ?_
    exact kS
  obtain ⟨_, _, ⟨T33, L33, k33, n33⟩, -, X33, ⟨Lc33, hQ33, l33, y33, z33⟩, st33⟩ := Jvm.LawKit.callS X32 hx (y := (⟨"com/example/latchkey/latchkey/server/gateway/CrcCombinationCombinePinLaw", "width", "(I)I"⟩ : MethodName)) hown (mvT hZ (hw _ (List.mem_of_getElem? (i := 5) rfl))) (mvT hZ (hw _ (List.mem_of_getElem? (i := 6) rfl))) (mvT hZ (hw _ (List.mem_of_getElem? (i := 2) rfl))) (mvT hZ (hw _ (List.mem_of_getElem? (i := 7) rfl))) (by decide) (backOf (W := 0) (rm2 l Z a0 hw [] kk h0 n0 Z0) hZ (hw _ (List.mem_of_getElem? (i := 7) rfl)) (hw _ (List.mem_of_getElem? (i := 2) rfl)) (by decide) (by decide)) (g := (mkF m 29 #[.val (.int p1), .val (.long q2), .second, .val (.long q3), .second, .val (.long q4), .second, .val (.long q5), .second, .val (.long q6), .second, .val (.int kk), .val (.int la), .val (.int lb), .val (.long (own_poly kk)), .second, .unset, .unset, .unset, .unset, .unset, .unset, .unset, .unset, .unset, .unset, .unset, .unset, .unset, .unset, .unset, .unset, .unset, .unset, .unset, .unset, .unset, .unset, .unset, .unset, .unset, .unset, .unset, .unset, .unset] [(.int kk)])) rfl (by rw [hml]; rfl) (argsL := [(.int kk)]) (rest := []) (lenOf pd_4 rfl) rfl (by show 2 * 0 + _ ≤ _; exact Nat.le_of_eq rfl) (hb hby at_29) (fun _ _ => ⟨rfl, hH32, (by decide : 0 + 0 ≤ _), (by decide : 0 + 0 ≤ _)⟩)
  dsimp only [Pt.U, Pt.locs, Pt.cells, Pt.slots] at X33 l33 y33 z33 st33 hQ33
  subst l33 y33 z33
  obtain ⟨rfl, N33q, hH33⟩ := hQ33
  have N33 := Fr.app N32 N33q
  obtain ⟨lo33, X33, N33⟩ := own_pack X33 N33
  replace X33 : Stand p l e _ s m _ below meth c T33 _ 0 0 := X33
  refine own_adv (B := (T33.setTop (mkF m 32 #[.val (.int p1), .val (.long q2), .second, .val (.long q3), .second, .val (.long q4), .second, .val (.long q5), .second, .val (.long q6), .second, .val (.int kk), .val (.int la), .val (.int lb), .val (.long (own_poly kk)), .second, .unset, .unset, .unset, .unset, .unset, .unset, .unset, .unset, .unset, .unset, .unset, .unset, .unset, .unset, .unset, .unset, .unset, .unset, .unset, .unset, .unset, .unset, .unset, .unset, .unset, .unset, .unset, .unset, .unset] [(.int (own_wid kk))]))) (fun t kS => st33 t kS) ?_
  refine own_adv (B := (T33.setTop (mkF m 36 #[.val (.int p1), .val (.long q2), .second, .val (.long q3), .second, .val (.long q4), .second, .val (.long q5), .second, .val (.long q6), .second, .val (.int kk), .val (.int la), .val (.int lb), .val (.long (own_poly kk)), .second, .val (.int (own_wid kk)), .unset, .unset, .unset, .unset, .unset, .unset, .unset, .unset, .unset, .unset, .unset, .unset, .unset, .unset, .unset, .unset, .unset, .unset, .unset, .unset, .unset, .unset, .unset, .unset, .unset, .unset, .unset, .unset] [(.int kk)]))) (fun t kS => ?_) ?_
  · show Steps p.tables e below (T33.setTop (mkF m 32 #[.val (.int p1), .val (.long q2), .second, .val (.long q3), .second, .val (.long q4), .second, .val (.long q5), .second, .val (.long q6), .second, .val (.int kk), .val (.int la), .val (.int lb), .val (.long (own_poly kk)), .second, .unset, .unset, .unset, .unset, .unset, .unset, .unset, .unset, .unset, .unset, .unset, .unset, .unset, .unset, .unset, .unset, .unset, .unset, .unset, .unset, .unset, .unset, .unset, .unset, .unset, .unset, .unset, .unset, .unset] [(.int (own_wid kk))])) _
    refine XS.istore X33.here hx rfl (hb hby at_32) rfl (l' := #[.val (.int p1), .val (.long q2), .second, .val (.long q3), .second, .val (.long q4), .second, .val (.long q5), .second, .val (.long q6), .second, .val (.int kk), .val (.int la), .val (.int lb), .val (.long (own_poly kk)), .second, .val (.int (own_wid kk)), .unset, .unset, .unset, .unset, .unset, .unset, .unset, .unset, .unset, .unset, .unset, .unset, .unset, .unset, .unset, .unset, .unset, .unset, .unset, .unset, .unset, .unset, .unset, .unset, .unset, .unset, .unset, .unset]) rfl ?_
    show Steps p.tables e below (T33.setTop (mkF m 34 #[.val (.int p1), .val (.long q2), .second, .val (.long q3), .second, .val (.long q4), .second, .val (.long q5), .second, .val (.long q6), .second, .val (.int kk), .val (.int la), .val (.int lb), .val (.long (own_poly kk)), .second, .val (.int (own_wid kk)), .unset, .unset, .unset, .unset, .unset, .unset, .unset, .unset, .unset, .unset, .unset, .unset, .unset, .unset, .unset, .unset, .unset, .unset, .unset, .unset, .unset, .unset, .unset, .unset, .unset, .unset, .unset, .unset] [])) _
    refine XS.iload X33.here hx rfl (hb hby at_34) rfl ?_
    exact kS
  obtain ⟨_, _, ⟨T34, L34, k34, n34⟩, -, X34, ⟨Lc34, hQ34, l34, y34, z34⟩, st34⟩ := Jvm.LawKit.callS X33 hx (y := (⟨"com/example/latchkey/latchkey/server/gateway/CrcCombinationCombinePinLaw", "reflected", "(I)J"⟩ : MethodName)) hown (mvT hZ (hw _ (List.mem_of_getElem? (i := 8) rfl))) (mvT hZ (hw _ (List.mem_of_getElem? (i := 9) rfl))) (mvT hZ (hw _ (List.mem_of_getElem? (i := 2) rfl))) (mvT hZ (hw _ (List.mem_of_getElem? (i := 10) rfl))) (by decide) (backOf (W := 0) (rm3 l Z a0 hw [] kk h0 n0 Z0) hZ (hw _ (List.mem_of_getElem? (i := 10) rfl)) (hw _ (List.mem_of_getElem? (i := 2) rfl)) (by decide) (by decide)) (g := (mkF m 36 #[.val (.int p1), .val (.long q2), .second, .val (.long q3), .second, .val (.long q4), .second, .val (.long q5), .second, .val (.long q6), .second, .val (.int kk), .val (.int la), .val (.int lb), .val (.long (own_poly kk)), .second, .val (.int (own_wid kk)), .unset, .unset, .unset, .unset, .unset, .unset, .unset, .unset, .unset, .unset, .unset, .unset, .unset, .unset, .unset, .unset, .unset, .unset, .unset, .unset, .unset, .unset, .unset, .unset, .unset, .unset, .unset, .unset] [(.int kk)])) rfl (by rw [hml]; rfl) (argsL := [(.int kk)]) (rest := []) (lenOf pd_3 rfl) rfl (by show 2 * 0 + _ ≤ _; exact Nat.le_of_eq rfl) (hb hby at_36) (fun _ _ => ⟨rfl, hH33, (by decide : 0 + 0 ≤ _), (by decide : 0 + 0 ≤ _)⟩)
  dsimp only [Pt.U, Pt.locs, Pt.cells, Pt.slots] at X34 l34 y34 z34 st34 hQ34
  subst l34 y34 z34
  obtain ⟨rfl, N34q, hH34⟩ := hQ34
  have N34 := Fr.app N33 N34q
  obtain ⟨lo34, X34, N34⟩ := own_pack X34 N34
  replace X34 : Stand p l e _ s m _ below meth c T34 _ 0 0 := X34
  refine own_adv (B := (T34.setTop (mkF m 39 #[.val (.int p1), .val (.long q2), .second, .val (.long q3), .second, .val (.long q4), .second, .val (.long q5), .second, .val (.long q6), .second, .val (.int kk), .val (.int la), .val (.int lb), .val (.long (own_poly kk)), .second, .val (.int (own_wid kk)), .unset, .unset, .unset, .unset, .unset, .unset, .unset, .unset, .unset, .unset, .unset, .unset, .unset, .unset, .unset, .unset, .unset, .unset, .unset, .unset, .unset, .unset, .unset, .unset, .unset, .unset, .unset, .unset] [(.long (own_ref kk))]))) (fun t kS => st34 t kS) ?_
  refine own_adv (B := (T34.setTop (mkF m 41 #[.val (.int p1), .val (.long q2), .second, .val (.long q3), .second, .val (.long q4), .second, .val (.long q5), .second, .val (.long q6), .second, .val (.int kk), .val (.int la), .val (.int lb), .val (.long (own_poly kk)), .second, .val (.int (own_wid kk)), .val (.long (own_ref kk)), .second, .unset, .unset, .unset, .unset, .unset, .unset, .unset, .unset, .unset, .unset, .unset, .unset, .unset, .unset, .unset, .unset, .unset, .unset, .unset, .unset, .unset, .unset, .unset, .unset, .unset, .unset] []))) (fun t kS => ?_) ?_
  · show Steps p.tables e below (T34.setTop (mkF m 39 #[.val (.int p1), .val (.long q2), .second, .val (.long q3), .second, .val (.long q4), .second, .val (.long q5), .second, .val (.long q6), .second, .val (.int kk), .val (.int la), .val (.int lb), .val (.long (own_poly kk)), .second, .val (.int (own_wid kk)), .unset, .unset, .unset, .unset, .unset, .unset, .unset, .unset, .unset, .unset, .unset, .unset, .unset, .unset, .unset, .unset, .unset, .unset, .unset, .unset, .unset, .unset, .unset, .unset, .unset, .unset, .unset, .unset] [(.long (own_ref kk))])) _
    refine XS.lstore X34.here hx rfl (hb hby at_39) rfl (l' := #[.val (.int p1), .val (.long q2), .second, .val (.long q3), .second, .val (.long q4), .second, .val (.long q5), .second, .val (.long q6), .second, .val (.int kk), .val (.int la), .val (.int lb), .val (.long (own_poly kk)), .second, .val (.int (own_wid kk)), .val (.long (own_ref kk)), .second, .unset, .unset, .unset, .unset, .unset, .unset, .unset, .unset, .unset, .unset, .unset, .unset, .unset, .unset, .unset, .unset, .unset, .unset, .unset, .unset, .unset, .unset, .unset, .unset, .unset, .unset]) rfl ?_
    exact kS
  obtain ⟨on, hon, st35⟩ : ∃ (on : Int64), (on = own_ones kk) ∧ ∀ t, Steps p.tables e below (T34.setTop (mkF m 60 #[.val (.int p1), .val (.long q2), .second, .val (.long q3), .second, .val (.long q4), .second, .val (.long q5), .second, .val (.long q6), .second, .val (.int kk), .val (.int la), .val (.int lb), .val (.long (own_poly kk)), .second, .val (.int (own_wid kk)), .val (.long (own_ref kk)), .second, .unset, .unset, .unset, .unset, .unset, .unset, .unset, .unset, .unset, .unset, .unset, .unset, .unset, .unset, .unset, .unset, .unset, .unset, .unset, .unset, .unset, .unset, .unset, .unset, .unset, .unset] [(.long on)])) t → Steps p.tables e below (T34.setTop (mkF m 41 #[.val (.int p1), .val (.long q2), .second, .val (.long q3), .second, .val (.long q4), .second, .val (.long q5), .second, .val (.long q6), .second, .val (.int kk), .val (.int la), .val (.int lb), .val (.long (own_poly kk)), .second, .val (.int (own_wid kk)), .val (.long (own_ref kk)), .second, .unset, .unset, .unset, .unset, .unset, .unset, .unset, .unset, .unset, .unset, .unset, .unset, .unset, .unset, .unset, .unset, .unset, .unset, .unset, .unset, .unset, .unset, .unset, .unset, .unset, .unset] [])) t := by
    by_cases hb35_45 : (own_wid kk) = (64 : Int32)
    · refine ⟨(-1 : Int64), by rw [own_ones, if_pos hb35_45], fun t kS => ?_⟩
      show Steps p.tables e below (T34.setTop (mkF m 41 #[.val (.int p1), .val (.long q2), .second, .val (.long q3), .second, .val (.long q4), .second, .val (.long q5), .second, .val (.long q6), .second, .val (.int kk), .val (.int la), .val (.int lb), .val (.long (own_poly kk)), .second, .val (.int (own_wid kk)), .val (.long (own_ref kk)), .second, .unset, .unset, .unset, .unset, .unset, .unset, .unset, .unset, .unset, .unset, .unset, .unset, .unset, .unset, .unset, .unset, .unset, .unset, .unset, .unset, .unset, .unset, .unset, .unset, .unset, .unset] [])) _
      refine XS.iload X34.here hx rfl (hb hby at_41) rfl ?_
      show Steps p.tables e below (T34.setTop (mkF m 43 #[.val (.int p1), .val (.long q2), .second, .val (.long q3), .second, .val (.long q4), .second, .val (.long q5), .second, .val (.long q6), .second, .val (.int kk), .val (.int la), .val (.int lb), .val (.long (own_poly kk)), .second, .val (.int (own_wid kk)), .val (.long (own_ref kk)), .second, .unset, .unset, .unset, .unset, .unset, .unset, .unset, .unset, .unset, .unset, .unset, .unset, .unset, .unset, .unset, .unset, .unset, .unset, .unset, .unset, .unset, .unset, .unset, .unset, .unset, .unset] [(.int (own_wid kk))])) _
      refine XS.bipush X34.here hx rfl (hb hby at_43) ?_
      show Steps p.tables e below (T34.setTop (mkF m 45 #[.val (.int p1), .val (.long q2), .second, .val (.long q3), .second, .val (.long q4), .second, .val (.long q5), .second, .val (.long q6), .second, .val (.int kk), .val (.int la), .val (.int lb), .val (.long (own_poly kk)), .second, .val (.int (own_wid kk)), .val (.long (own_ref kk)), .second, .unset, .unset, .unset, .unset, .unset, .unset, .unset, .unset, .unset, .unset, .unset, .unset, .unset, .unset, .unset, .unset, .unset, .unset, .unset, .unset, .unset, .unset, .unset, .unset, .unset, .unset] [(.int (64 : Int32)), (.int (own_wid kk))])) _
      refine XS.icmpNo X34.here hx rfl (hb hby at_45) rfl (teq hb35_45).2 ?_
      show Steps p.tables e below (T34.setTop (mkF m 48 #[.val (.int p1), .val (.long q2), .second, .val (.long q3), .second, .val (.long q4), .second, .val (.long q5), .second, .val (.long q6), .second, .val (.int kk), .val (.int la), .val (.int lb), .val (.long (own_poly kk)), .second, .val (.int (own_wid kk)), .val (.long (own_ref kk)), .second, .unset, .unset, .unset, .unset, .unset, .unset, .unset, .unset, .unset, .unset, .unset, .unset, .unset, .unset, .unset, .unset, .unset, .unset, .unset, .unset, .unset, .unset, .unset, .unset, .unset, .unset] [])) _
      refine X34.ldc2Long hx hown (mvT hZ (hw _ (List.mem_of_getElem? (i := 77) rfl))) (g := (mkF m 48 #[.val (.int p1), .val (.long q2), .second, .val (.long q3), .second, .val (.long q4), .second, .val (.long q5), .second, .val (.long q6), .second, .val (.int kk), .val (.int la), .val (.int lb), .val (.long (own_poly kk)), .second, .val (.int (own_wid kk)), .val (.long (own_ref kk)), .second, .unset, .unset, .unset, .unset, .unset, .unset, .unset, .unset, .unset, .unset, .unset, .unset, .unset, .unset, .unset, .unset, .unset, .unset, .unset, .unset, .unset, .unset, .unset, .unset, .unset, .unset] [])) rfl (hb hby at_48) _ ?_
      show Steps p.tables e below (T34.setTop (mkF m 51 #[.val (.int p1), .val (.long q2), .second, .val (.long q3), .second, .val (.long q4), .second, .val (.long q5), .second, .val (.long q6), .second, .val (.int kk), .val (.int la), .val (.int lb), .val (.long (own_poly kk)), .second, .val (.int (own_wid kk)), .val (.long (own_ref kk)), .second, .unset, .unset, .unset, .unset, .unset, .unset, .unset, .unset, .unset, .unset, .unset, .unset, .unset, .unset, .unset, .unset, .unset, .unset, .unset, .unset, .unset, .unset, .unset, .unset, .unset, .unset] [(.long (-1 : Int64))])) _
      refine XS.goto X34.here hx rfl (pc0 := 51) (pc' := 60) rfl (hb hby at_51) (by decide) (by decide) ?_
      exact kS
    · refine ⟨(((1 : Int64) <<< ((own_wid kk) &&& 0x3f).toInt64) - (1 : Int64)), by rw [own_ones, if_neg hb35_45], fun t kS => ?_⟩
      show Steps p.tables e below (T34.setTop (mkF m 41 #[.val (.int p1), .val (.long q2), .second, .val (.long q3), .second, .val (.long q4), .second, .val (.long q5), .second, .val (.long q6), .second, .val (.int kk), .val (.int la), .val (.int lb), .val (.long (own_poly kk)), .second, .val (.int (own_wid kk)), .val (.long (own_ref kk)), .second, .unset, .unset, .unset, .unset, .unset, .unset, .unset, .unset, .unset, .unset, .unset, .unset, .unset, .unset, .unset, .unset, .unset, .unset, .unset, .unset, .unset, .unset, .unset, .unset, .unset, .unset] [])) _
      refine XS.iload X34.here hx rfl (hb hby at_41) rfl ?_
      show Steps p.tables e below (T34.setTop (mkF m 43 #[.val (.int p1), .val (.long q2), .second, .val (.long q3), .second, .val (.long q4), .second, .val (.long q5), .second, .val (.long q6), .second, .val (.int kk), .val (.int la), .val (.int lb), .val (.long (own_poly kk)), .second, .val (.int (own_wid kk)), .val (.long (own_ref kk)), .second, .unset, .unset, .unset, .unset, .unset, .unset, .unset, .unset, .unset, .unset, .unset, .unset, .unset, .unset, .unset, .unset, .unset, .unset, .unset, .unset, .unset, .unset, .unset, .unset, .unset, .unset] [(.int (own_wid kk))])) _
      refine XS.bipush X34.here hx rfl (hb hby at_43) ?_
      show Steps p.tables e below (T34.setTop (mkF m 45 #[.val (.int p1), .val (.long q2), .second, .val (.long q3), .second, .val (.long q4), .second, .val (.long q5), .second, .val (.long q6), .second, .val (.int kk), .val (.int la), .val (.int lb), .val (.long (own_poly kk)), .second, .val (.int (own_wid kk)), .val (.long (own_ref kk)), .second, .unset, .unset, .unset, .unset, .unset, .unset, .unset, .unset, .unset, .unset, .unset, .unset, .unset, .unset, .unset, .unset, .unset, .unset, .unset, .unset, .unset, .unset, .unset, .unset, .unset, .unset] [(.int (64 : Int32)), (.int (own_wid kk))])) _
      refine XS.icmpYes X34.here hx rfl (pc0 := 45) (pc' := 54) rfl (hb hby at_45) rfl (feq hb35_45).2 (by decide) (by decide) ?_
      show Steps p.tables e below (T34.setTop (mkF m 54 #[.val (.int p1), .val (.long q2), .second, .val (.long q3), .second, .val (.long q4), .second, .val (.long q5), .second, .val (.long q6), .second, .val (.int kk), .val (.int la), .val (.int lb), .val (.long (own_poly kk)), .second, .val (.int (own_wid kk)), .val (.long (own_ref kk)), .second, .unset, .unset, .unset, .unset, .unset, .unset, .unset, .unset, .unset, .unset, .unset, .unset, .unset, .unset, .unset, .unset, .unset, .unset, .unset, .unset, .unset, .unset, .unset, .unset, .unset, .unset] [])) _
      refine XS.lconst X34.here hx rfl (hb hby at_54) ?_
      show Steps p.tables e below (T34.setTop (mkF m 55 #[.val (.int p1), .val (.long q2), .second, .val (.long q3), .second, .val (.long q4), .second, .val (.long q5), .second, .val (.long q6), .second, .val (.int kk), .val (.int la), .val (.int lb), .val (.long (own_poly kk)), .second, .val (.int (own_wid kk)), .val (.long (own_ref kk)), .second, .unset, .unset, .unset, .unset, .unset, .unset, .unset, .unset, .unset, .unset, .unset, .unset, .unset, .unset, .unset, .unset, .unset, .unset, .unset, .unset, .unset, .unset, .unset, .unset, .unset, .unset] [(.long (1 : Int64))])) _
      refine XS.iload X34.here hx rfl (hb hby at_55) rfl ?_
      show Steps p.tables e below (T34.setTop (mkF m 57 #[.val (.int p1), .val (.long q2), .second, .val (.long q3), .second, .val (.long q4), .second, .val (.long q5), .second, .val (.long q6), .second, .val (.int kk), .val (.int la), .val (.int lb), .val (.long (own_poly kk)), .second, .val (.int (own_wid kk)), .val (.long (own_ref kk)), .second, .unset, .unset, .unset, .unset, .unset, .unset, .unset, .unset, .unset, .unset, .unset, .unset, .unset, .unset, .unset, .unset, .unset, .unset, .unset, .unset, .unset, .unset, .unset, .unset, .unset, .unset] [(.int (own_wid kk)), (.long (1 : Int64))])) _
      refine XS.lshl X34.here hx rfl (hb hby at_57) rfl ?_
      show Steps p.tables e below (T34.setTop (mkF m 58 #[.val (.int p1), .val (.long q2), .second, .val (.long q3), .second, .val (.long q4), .second, .val (.long q5), .second, .val (.long q6), .second, .val (.int kk), .val (.int la), .val (.int lb), .val (.long (own_poly kk)), .second, .val (.int (own_wid kk)), .val (.long (own_ref kk)), .second, .unset, .unset, .unset, .unset, .unset, .unset, .unset, .unset, .unset, .unset, .unset, .unset, .unset, .unset, .unset, .unset, .unset, .unset, .unset, .unset, .unset, .unset, .unset, .unset, .unset, .unset] [(.long ((1 : Int64) <<< ((own_wid kk) &&& 0x3f).toInt64))])) _
      refine XS.lconst X34.here hx rfl (hb hby at_58) ?_
      show Steps p.tables e below (T34.setTop (mkF m 59 #[.val (.int p1), .val (.long q2), .second, .val (.long q3), .second, .val (.long q4), .second, .val (.long q5), .second, .val (.long q6), .second, .val (.int kk), .val (.int la), .val (.int lb), .val (.long (own_poly kk)), .second, .val (.int (own_wid kk)), .val (.long (own_ref kk)), .second, .unset, .unset, .unset, .unset, .unset, .unset, .unset, .unset, .unset, .unset, .unset, .unset, .unset, .unset, .unset, .unset, .unset, .unset, .unset, .unset, .unset, .unset, .unset, .unset, .unset, .unset] [(.long (1 : Int64)), (.long ((1 : Int64) <<< ((own_wid kk) &&& 0x3f).toInt64))])) _
      refine XS.lsub X34.here hx rfl (hb hby at_59) rfl ?_
      exact kS
  refine own_adv st35 ?_
  refine own_adv (B := (T34.setTop (mkF m 62 #[.val (.int p1), .val (.long q2), .second, .val (.long q3), .second, .val (.long q4), .second, .val (.long q5), .second, .val (.long q6), .second, .val (.int kk), .val (.int la), .val (.int lb), .val (.long (own_poly kk)), .second, .val (.int (own_wid kk)), .val (.long (own_ref kk)), .second, .val (.long on), .second, .unset, .unset, .unset, .unset, .unset, .unset, .unset, .unset, .unset, .unset, .unset, .unset, .unset, .unset, .unset, .unset, .unset, .unset, .unset, .unset, .unset, .unset, .unset, .unset] []))) (fun t kS => ?_) ?_
  · show Steps p.tables e below (T34.setTop (mkF m 60 #[.val (.int p1), .val (.long q2), .second, .val (.long q3), .second, .val (.long q4), .second, .val (.long q5), .second, .val (.long q6), .second, .val (.int kk), .val (.int la), .val (.int lb), .val (.long (own_poly kk)), .second, .val (.int (own_wid kk)), .val (.long (own_ref kk)), .second, .unset, .unset, .unset, .unset, .unset, .unset, .unset, .unset, .unset, .unset, .unset, .unset, .unset, .unset, .unset, .unset, .unset, .unset, .unset, .unset, .unset, .unset, .unset, .unset, .unset, .unset] [(.long on)])) _
    refine XS.lstore X34.here hx rfl (hb hby at_60) rfl (l' := #[.val (.int p1), .val (.long q2), .second, .val (.long q3), .second, .val (.long q4), .second, .val (.long q5), .second, .val (.long q6), .second, .val (.int kk), .val (.int la), .val (.int lb), .val (.long (own_poly kk)), .second, .val (.int (own_wid kk)), .val (.long (own_ref kk)), .second, .val (.long on), .second, .unset, .unset, .unset, .unset, .unset, .unset, .unset, .unset, .unset, .unset, .unset, .unset, .unset, .unset, .unset, .unset, .unset, .unset, .unset, .unset, .unset, .unset, .unset, .unset]) rfl ?_
    exact kS
  obtain ⟨T36, h36, X36, e36, E36, A36, D36, -, st36⟩ := newO X34 hx hZ hown (hw _ (List.mem_of_getElem? (i := 12) rfl)) (hw _ (List.mem_of_getElem? (i := 13) rfl)) (hw _ (List.mem_of_getElem? (i := 14) rfl)) hH34 (g := (mkF m 62 #[.val (.int p1), .val (.long q2), .second, .val (.long q3), .second, .val (.long q4), .second, .val (.long q5), .second, .val (.long q6), .second, .val (.int kk), .val (.int la), .val (.int lb), .val (.long (own_poly kk)), .second, .val (.int (own_wid kk)), .val (.long (own_ref kk)), .second, .val (.long on), .second, .unset, .unset, .unset, .unset, .unset, .unset, .unset, .unset, .unset, .unset, .unset, .unset, .unset, .unset, .unset, .unset, .unset, .unset, .unset, .unset, .unset, .unset, .unset, .unset] [])) rfl (hb hby at_62) (by decide) (by decide)
  obtain ⟨cb, g36⟩ : ∃ z, z = h0.size := ⟨_, rfl⟩
  rw [← g36] at A36 D36 st36
  have F_reflectedPolynomial_cb : Fld Z h36 cb "com/example/latchkey/latchkey/server/gateway/CrcCombination" "reflectedPolynomial" "J" (.long (0 : Int64)) := D36 (Or.inr (hw _ (List.mem_of_getElem? (i := 34) rfl))) (ty := .long) (by decide)
  have F_one_cb : Fld Z h36 cb "com/example/latchkey/latchkey/server/gateway/CrcCombination" "one" "J" (.long (0 : Int64)) := D36 (Or.inr (hw _ (List.mem_of_getElem? (i := 36) rfl))) (ty := .long) (by decide)
  replace X36 : Stand p l e _ s m _ below meth c T36 _ 1 2 := X36
  refine own_adv (B := (T36.setTop (mkF m 65 #[.val (.int p1), .val (.long q2), .second, .val (.long q3), .second, .val (.long q4), .second, .val (.long q5), .second, .val (.long q6), .second, .val (.int kk), .val (.int la), .val (.int lb), .val (.long (own_poly kk)), .second, .val (.int (own_wid kk)), .val (.long (own_ref kk)), .second, .val (.long on), .second, .unset, .unset, .unset, .unset, .unset, .unset, .unset, .unset, .unset, .unset, .unset, .unset, .unset, .unset, .unset, .unset, .unset, .unset, .unset, .unset, .unset, .unset, .unset, .unset] [(.ref cb)]))) st36 ?_
  have g_cb : n0 ≤ cb := by rw [g36]; exact Z0
  refine own_adv (B := (T36.setTop (mkF m 70 #[.val (.int p1), .val (.long q2), .second, .val (.long q3), .second, .val (.long q4), .second, .val (.long q5), .second, .val (.long q6), .second, .val (.int kk), .val (.int la), .val (.int lb), .val (.long (own_poly kk)), .second, .val (.int (own_wid kk)), .val (.long (own_ref kk)), .second, .val (.long on), .second, .unset, .unset, .unset, .unset, .unset, .unset, .unset, .unset, .unset, .unset, .unset, .unset, .unset, .unset, .unset, .unset, .unset, .unset, .unset, .unset, .unset, .unset, .unset, .unset] [(.int (own_wid kk)), (.long (own_poly kk)), (.ref cb), (.ref cb)]))) (fun t kS => ?_) ?_
  · show Steps p.tables e below (T36.setTop (mkF m 65 #[.val (.int p1), .val (.long q2), .second, .val (.long q3), .second, .val (.long q4), .second, .val (.long q5), .second, .val (.long q6), .second, .val (.int kk), .val (.int la), .val (.int lb), .val (.long (own_poly kk)), .second, .val (.int (own_wid kk)), .val (.long (own_ref kk)), .second, .val (.long on), .second, .unset, .unset, .unset, .unset, .unset, .unset, .unset, .unset, .unset, .unset, .unset, .unset, .unset, .unset, .unset, .unset, .unset, .unset, .unset, .unset, .unset, .unset, .unset, .unset] [(.ref cb)])) _
    refine XS.dup X36.here hx rfl (hb hby at_65) rfl rfl ?_
    show Steps p.tables e below (T36.setTop (mkF m 66 #[.val (.int p1), .val (.long q2), .second, .val (.long q3), .second, .val (.long q4), .second, .val (.long q5), .second, .val (.long q6), .second, .val (.int kk), .val (.int la), .val (.int lb), .val (.long (own_poly kk)), .second, .val (.int (own_wid kk)), .val (.long (own_ref kk)), .second, .val (.long on), .second, .unset, .unset, .unset, .unset, .unset, .unset, .unset, .unset, .unset, .unset, .unset, .unset, .unset, .unset, .unset, .unset, .unset, .unset, .unset, .unset, .unset, .unset, .unset, .unset] [(.ref cb), (.ref cb)])) _
    refine XS.lload X36.here hx rfl (hb hby at_66) rfl ?_
    show Steps p.tables e below (T36.setTop (mkF m 68 #[.val (.int p1), .val (.long q2), .second, .val (.long q3), .second, .val (.long q4), .second, .val (.long q5), .second, .val (.long q6), .second, .val (.int kk), .val (.int la), .val (.int lb), .val (.long (own_poly kk)), .second, .val (.int (own_wid kk)), .val (.long (own_ref kk)), .second, .val (.long on), .second, .unset, .unset, .unset, .unset, .unset, .unset, .unset, .unset, .unset, .unset, .unset, .unset, .unset, .unset, .unset, .unset, .unset, .unset, .unset, .unset, .unset, .unset, .unset, .unset] [(.long (own_poly kk)), (.ref cb), (.ref cb)])) _
    refine XS.iload X36.here hx rfl (hb hby at_68) rfl ?_
    exact kS
  obtain ⟨_, _, ⟨T37, L37, k37, n37⟩, -, X37, ⟨Lc37, hQ37, l37, y37, z37⟩, st37⟩ := X36.specialBack hx (y := (⟨"com/example/latchkey/latchkey/server/gateway/CrcCombination", "<init>", "(JI)V"⟩ : MethodName)) rfl hown (mvT hZ (hw _ (List.mem_of_getElem? (i := 15) rfl))) (mvT hZ (hw _ (List.mem_of_getElem? (i := 16) rfl))) (mvT hZ (hw _ (List.mem_of_getElem? (i := 17) rfl))) (by decide) (backOf (W := 1) (rm4 l Z a0 hw [] cb (own_poly kk) (own_wid kk) _ _ h36 n0 (Nat.le_trans Z0 E36.1) A36 F_reflectedPolynomial_cb F_one_cb g_cb) hZ (hw _ (List.mem_of_getElem? (i := 17) rfl)) (hw _ (List.mem_of_getElem? (i := 14) rfl)) (by decide) (by decide)) (g := (mkF m 70 #[.val (.int p1), .val (.long q2), .second, .val (.long q3), .second, .val (.long q4), .second, .val (.long q5), .second, .val (.long q6), .second, .val (.int kk), .val (.int la), .val (.int lb), .val (.long (own_poly kk)), .second, .val (.int (own_wid kk)), .val (.long (own_ref kk)), .second, .val (.long on), .second, .unset, .unset, .unset, .unset, .unset, .unset, .unset, .unset, .unset, .unset, .unset, .unset, .unset, .unset, .unset, .unset, .unset, .unset, .unset, .unset, .unset, .unset, .unset, .unset] [(.int (own_wid kk)), (.long (own_poly kk)), (.ref cb), (.ref cb)])) rfl (by rw [hml]; rfl) (Steps.refl _) (a := cb) (argsL := [(.long (own_poly kk)), (.int (own_wid kk))]) (rest := [(.ref cb)]) (lenOf pd_5 rfl) rfl (by show 2 * 0 + _ ≤ _; exact Nat.le_of_eq rfl) (hb hby at_70) (fun _ _ => ⟨rfl, e36, (by decide : 1 + 0 ≤ _), (by decide : 2 + 0 ≤ _)⟩)
  dsimp only [Pt.U, Pt.locs, Pt.cells, Pt.slots] at X37 l37 y37 z37 st37 hQ37
  subst l37 y37 z37
  obtain ⟨rfl, N37q, K37, Ea, Fp, Fo⟩ := hQ37
  have N37 := Fr.app N34 N37q
  obtain ⟨lo37, X37, N37⟩ := own_pack X37 N37
  replace X37 : Stand p l e _ s m _ below meth c T37 _ 1 2 := X37
  refine own_adv (B := (T37.setTop (mkF m 73 #[.val (.int p1), .val (.long q2), .second, .val (.long q3), .second, .val (.long q4), .second, .val (.long q5), .second, .val (.long q6), .second, .val (.int kk), .val (.int la), .val (.int lb), .val (.long (own_poly kk)), .second, .val (.int (own_wid kk)), .val (.long (own_ref kk)), .second, .val (.long on), .second, .unset, .unset, .unset, .unset, .unset, .unset, .unset, .unset, .unset, .unset, .unset, .unset, .unset, .unset, .unset, .unset, .unset, .unset, .unset, .unset, .unset, .unset, .unset, .unset] [(.ref cb)]))) (fun t kS => st37.trans kS) ?_
  have ZZ : n0 ≤ T37.heap.size := Nat.le_trans (Nat.le_trans Z0 E36.1) K37.1
  obtain ⟨w, h2, h64, hR, hIn, hone, hon1⟩ := own_k kk
  rw [← hon] at hon1
  rw [hR] at Fp
  rw [hone] at Fo
  generalize hrp : own_ref kk = rp at hIn Fp ⊢
  refine own_adv (B := (T37.setTop (mkF m 82 #[.val (.int p1), .val (.long q2), .second, .val (.long q3), .second, .val (.long q4), .second, .val (.long q5), .second, .val (.long q6), .second, .val (.int kk), .val (.int la), .val (.int lb), .val (.long (own_poly kk)), .second, .val (.int (own_wid kk)), .val (.long rp), .second, .val (.long on), .second, .val (.ref cb), .unset, .unset, .unset, .unset, .unset, .unset, .unset, .unset, .unset, .unset, .unset, .unset, .unset, .unset, .unset, .unset, .unset, .unset, .unset, .unset, .unset, .unset, .unset] [(.long on), (.long rp), (.int la), (.long q2)]))) (fun t kS => ?_) ?_
  · show Steps p.tables e below (T37.setTop (mkF m 73 #[.val (.int p1), .val (.long q2), .second, .val (.long q3), .second, .val (.long q4), .second, .val (.long q5), .second, .val (.long q6), .second, .val (.int kk), .val (.int la), .val (.int lb), .val (.long (own_poly kk)), .second, .val (.int (own_wid kk)), .val (.long rp), .second, .val (.long on), .second, .unset, .unset, .unset, .unset, .unset, .unset, .unset, .unset, .unset, .unset, .unset, .unset, .unset, .unset, .unset, .unset, .unset, .unset, .unset, .unset, .unset, .unset, .unset, .unset] [(.ref cb)])) _
    refine XS.astore X37.here hx rfl (hb hby at_73) rfl rfl (l' := #[.val (.int p1), .val (.long q2), .second, .val (.long q3), .second, .val (.long q4), .second, .val (.long q5), .second, .val (.long q6), .second, .val (.int kk), .val (.int la), .val (.int lb), .val (.long (own_poly kk)), .second, .val (.int (own_wid kk)), .val (.long rp), .second, .val (.long on), .second, .val (.ref cb), .unset, .unset, .unset, .unset, .unset, .unset, .unset, .unset, .unset, .unset, .unset, .unset, .unset, .unset, .unset, .unset, .unset, .unset, .unset, .unset, .unset, .unset, .unset]) rfl ?_
    show Steps p.tables e below (T37.setTop (mkF m 75 #[.val (.int p1), .val (.long q2), .second, .val (.long q3), .second, .val (.long q4), .second, .val (.long q5), .second, .val (.long q6), .second, .val (.int kk), .val (.int la), .val (.int lb), .val (.long (own_poly kk)), .second, .val (.int (own_wid kk)), .val (.long rp), .second, .val (.long on), .second, .val (.ref cb), .unset, .unset, .unset, .unset, .unset, .unset, .unset, .unset, .unset, .unset, .unset, .unset, .unset, .unset, .unset, .unset, .unset, .unset, .unset, .unset, .unset, .unset, .unset] [])) _
    refine XS.lloadN X37.here hx rfl (hb hby at_75) rfl ?_
    show Steps p.tables e below (T37.setTop (mkF m 76 #[.val (.int p1), .val (.long q2), .second, .val (.long q3), .second, .val (.long q4), .second, .val (.long q5), .second, .val (.long q6), .second, .val (.int kk), .val (.int la), .val (.int lb), .val (.long (own_poly kk)), .second, .val (.int (own_wid kk)), .val (.long rp), .second, .val (.long on), .second, .val (.ref cb), .unset, .unset, .unset, .unset, .unset, .unset, .unset, .unset, .unset, .unset, .unset, .unset, .unset, .unset, .unset, .unset, .unset, .unset, .unset, .unset, .unset, .unset, .unset] [(.long q2)])) _
    refine XS.iload X37.here hx rfl (hb hby at_76) rfl ?_
    show Steps p.tables e below (T37.setTop (mkF m 78 #[.val (.int p1), .val (.long q2), .second, .val (.long q3), .second, .val (.long q4), .second, .val (.long q5), .second, .val (.long q6), .second, .val (.int kk), .val (.int la), .val (.int lb), .val (.long (own_poly kk)), .second, .val (.int (own_wid kk)), .val (.long rp), .second, .val (.long on), .second, .val (.ref cb), .unset, .unset, .unset, .unset, .unset, .unset, .unset, .unset, .unset, .unset, .unset, .unset, .unset, .unset, .unset, .unset, .unset, .unset, .unset, .unset, .unset, .unset, .unset] [(.int la), (.long q2)])) _
    refine XS.lload X37.here hx rfl (hb hby at_78) rfl ?_
    show Steps p.tables e below (T37.setTop (mkF m 80 #[.val (.int p1), .val (.long q2), .second, .val (.long q3), .second, .val (.long q4), .second, .val (.long q5), .second, .val (.long q6), .second, .val (.int kk), .val (.int la), .val (.int lb), .val (.long (own_poly kk)), .second, .val (.int (own_wid kk)), .val (.long rp), .second, .val (.long on), .second, .val (.ref cb), .unset, .unset, .unset, .unset, .unset, .unset, .unset, .unset, .unset, .unset, .unset, .unset, .unset, .unset, .unset, .unset, .unset, .unset, .unset, .unset, .unset, .unset, .unset] [(.long rp), (.int la), (.long q2)])) _
    refine XS.lload X37.here hx rfl (hb hby at_80) rfl ?_
    exact kS
  obtain ⟨_, _, ⟨T38, L38, k38, n38⟩, -, X38, ⟨Lc38, hQ38, l38, y38, z38⟩, st38⟩ := Jvm.LawKit.callS X37 hx (y := (⟨"com/example/latchkey/latchkey/server/gateway/CrcCombinationCombinePinLaw", "crc", "(JIJJ)J"⟩ : MethodName)) hown (mvT hZ (hw _ (List.mem_of_getElem? (i := 37) rfl))) (mvT hZ (hw _ (List.mem_of_getElem? (i := 38) rfl))) (mvT hZ (hw _ (List.mem_of_getElem? (i := 2) rfl))) (mvT hZ (hw _ (List.mem_of_getElem? (i := 39) rfl))) (by decide) (backOf (W := 0) (rm8 l Z a0 hw [] q2 la rp on T37.heap n0 ZZ) hZ (hw _ (List.mem_of_getElem? (i := 39) rfl)) (hw _ (List.mem_of_getElem? (i := 2) rfl)) (by decide) (by decide)) (g := (mkF m 82 #[.val (.int p1), .val (.long q2), .second, .val (.long q3), .second, .val (.long q4), .second, .val (.long q5), .second, .val (.long q6), .second, .val (.int kk), .val (.int la), .val (.int lb), .val (.long (own_poly kk)), .second, .val (.int (own_wid kk)), .val (.long rp), .second, .val (.long on), .second, .val (.ref cb), .unset, .unset, .unset, .unset, .unset, .unset, .unset, .unset, .unset, .unset, .unset, .unset, .unset, .unset, .unset, .unset, .unset, .unset, .unset, .unset, .unset, .unset, .unset] [(.long on), (.long rp), (.int la), (.long q2)])) rfl (by rw [hml]; rfl) (argsL := [(.long q2), (.int la), (.long rp), (.long on)]) (rest := []) (lenOf pd_6 rfl) rfl (by show 2 * 0 + _ ≤ _; exact Nat.le_of_eq rfl) (hb hby at_82) (fun _ _ => ⟨rfl, rfl, (by decide : 1 + 0 ≤ _), (by decide : 2 + 0 ≤ _)⟩)
  dsimp only [Pt.U, Pt.locs, Pt.cells, Pt.slots] at X38 l38 y38 z38 st38 hQ38
  subst l38 y38 z38
  obtain ⟨rfl, N38q, hH38⟩ := hQ38
  have N38 := Fr.app N37 N38q
  obtain ⟨lo38, X38, N38⟩ := own_pack X38 N38
  replace X38 : Stand p l e _ s m _ below meth c T38 _ 1 2 := X38
  refine own_adv (B := (T38.setTop (mkF m 85 #[.val (.int p1), .val (.long q2), .second, .val (.long q3), .second, .val (.long q4), .second, .val (.long q5), .second, .val (.long q6), .second, .val (.int kk), .val (.int la), .val (.int lb), .val (.long (own_poly kk)), .second, .val (.int (own_wid kk)), .val (.long rp), .second, .val (.long on), .second, .val (.ref cb), .unset, .unset, .unset, .unset, .unset, .unset, .unset, .unset, .unset, .unset, .unset, .unset, .unset, .unset, .unset, .unset, .unset, .unset, .unset, .unset, .unset, .unset, .unset] [(.long (own_crc q2 la rp on))]))) (fun t kS => st38 t kS) ?_
  refine own_adv (B := (T38.setTop (mkF m 94 #[.val (.int p1), .val (.long q2), .second, .val (.long q3), .second, .val (.long q4), .second, .val (.long q5), .second, .val (.long q6), .second, .val (.int kk), .val (.int la), .val (.int lb), .val (.long (own_poly kk)), .second, .val (.int (own_wid kk)), .val (.long rp), .second, .val (.long on), .second, .val (.ref cb), .val (.long (own_crc q2 la rp on)), .second, .unset, .unset, .unset, .unset, .unset, .unset, .unset, .unset, .unset, .unset, .unset, .unset, .unset, .unset, .unset, .unset, .unset, .unset, .unset, .unset, .unset] [(.long on), (.long rp), (.int lb), (.long q3)]))) (fun t kS => ?_) ?_
  · show Steps p.tables e below (T38.setTop (mkF m 85 #[.val (.int p1), .val (.long q2), .second, .val (.long q3), .second, .val (.long q4), .second, .val (.long q5), .second, .val (.long q6), .second, .val (.int kk), .val (.int la), .val (.int lb), .val (.long (own_poly kk)), .second, .val (.int (own_wid kk)), .val (.long rp), .second, .val (.long on), .second, .val (.ref cb), .unset, .unset, .unset, .unset, .unset, .unset, .unset, .unset, .unset, .unset, .unset, .unset, .unset, .unset, .unset, .unset, .unset, .unset, .unset, .unset, .unset, .unset, .unset] [(.long (own_crc q2 la rp on))])) _
    refine XS.lstore X38.here hx rfl (hb hby at_85) rfl (l' := #[.val (.int p1), .val (.long q2), .second, .val (.long q3), .second, .val (.long q4), .second, .val (.long q5), .second, .val (.long q6), .second, .val (.int kk), .val (.int la), .val (.int lb), .val (.long (own_poly kk)), .second, .val (.int (own_wid kk)), .val (.long rp), .second, .val (.long on), .second, .val (.ref cb), .val (.long (own_crc q2 la rp on)), .second, .unset, .unset, .unset, .unset, .unset, .unset, .unset, .unset, .unset, .unset, .unset, .unset, .unset, .unset, .unset, .unset, .unset, .unset, .unset, .unset, .unset]) rfl ?_
    show Steps p.tables e below (T38.setTop (mkF m 87 #[.val (.int p1), .val (.long q2), .second, .val (.long q3), .second, .val (.long q4), .second, .val (.long q5), .second, .val (.long q6), .second, .val (.int kk), .val (.int la), .val (.int lb), .val (.long (own_poly kk)), .second, .val (.int (own_wid kk)), .val (.long rp), .second, .val (.long on), .second, .val (.ref cb), .val (.long (own_crc q2 la rp on)), .second, .unset, .unset, .unset, .unset, .unset, .unset, .unset, .unset, .unset, .unset, .unset, .unset, .unset, .unset, .unset, .unset, .unset, .unset, .unset, .unset, .unset] [])) _
    refine XS.lloadN X38.here hx rfl (hb hby at_87) rfl ?_
    show Steps p.tables e below (T38.setTop (mkF m 88 #[.val (.int p1), .val (.long q2), .second, .val (.long q3), .second, .val (.long q4), .second, .val (.long q5), .second, .val (.long q6), .second, .val (.int kk), .val (.int la), .val (.int lb), .val (.long (own_poly kk)), .second, .val (.int (own_wid kk)), .val (.long rp), .second, .val (.long on), .second, .val (.ref cb), .val (.long (own_crc q2 la rp on)), .second, .unset, .unset, .unset, .unset, .unset, .unset, .unset, .unset, .unset, .unset, .unset, .unset, .unset, .unset, .unset, .unset, .unset, .unset, .unset, .unset, .unset] [(.long q3)])) _
    refine XS.iload X38.here hx rfl (hb hby at_88) rfl ?_
    show Steps p.tables e below (T38.setTop (mkF m 90 #[.val (.int p1), .val (.long q2), .second, .val (.long q3), .second, .val (.long q4), .second, .val (.long q5), .second, .val (.long q6), .second, .val (.int kk), .val (.int la), .val (.int lb), .val (.long (own_poly kk)), .second, .val (.int (own_wid kk)), .val (.long rp), .second, .val (.long on), .second, .val (.ref cb), .val (.long (own_crc q2 la rp on)), .second, .unset, .unset, .unset, .unset, .unset, .unset, .unset, .unset, .unset, .unset, .unset, .unset, .unset, .unset, .unset, .unset, .unset, .unset, .unset, .unset, .unset] [(.int lb), (.long q3)])) _
    refine XS.lload X38.here hx rfl (hb hby at_90) rfl ?_
    show Steps p.tables e below (T38.setTop (mkF m 92 #[.val (.int p1), .val (.long q2), .second, .val (.long q3), .second, .val (.long q4), .second, .val (.long q5), .second, .val (.long q6), .second, .val (.int kk), .val (.int la), .val (.int lb), .val (.long (own_poly kk)), .second, .val (.int (own_wid kk)), .val (.long rp), .second, .val (.long on), .second, .val (.ref cb), .val (.long (own_crc q2 la rp on)), .second, .unset, .unset, .unset, .unset, .unset, .unset, .unset, .unset, .unset, .unset, .unset, .unset, .unset, .unset, .unset, .unset, .unset, .unset, .unset, .unset, .unset] [(.long rp), (.int lb), (.long q3)])) _
    refine XS.lload X38.here hx rfl (hb hby at_92) rfl ?_
    exact kS
  obtain ⟨_, _, ⟨T39, L39, k39, n39⟩, -, X39, ⟨Lc39, hQ39, l39, y39, z39⟩, st39⟩ := Jvm.LawKit.callS X38 hx (y := (⟨"com/example/latchkey/latchkey/server/gateway/CrcCombinationCombinePinLaw", "crc", "(JIJJ)J"⟩ : MethodName)) hown (mvT hZ (hw _ (List.mem_of_getElem? (i := 37) rfl))) (mvT hZ (hw _ (List.mem_of_getElem? (i := 38) rfl))) (mvT hZ (hw _ (List.mem_of_getElem? (i := 2) rfl))) (mvT hZ (hw _ (List.mem_of_getElem? (i := 39) rfl))) (by decide) (backOf (W := 0) (rm8 l Z a0 hw [] q3 lb rp on T37.heap n0 ZZ) hZ (hw _ (List.mem_of_getElem? (i := 39) rfl)) (hw _ (List.mem_of_getElem? (i := 2) rfl)) (by decide) (by decide)) (g := (mkF m 94 #[.val (.int p1), .val (.long q2), .second, .val (.long q3), .second, .val (.long q4), .second, .val (.long q5), .second, .val (.long q6), .second, .val (.int kk), .val (.int la), .val (.int lb), .val (.long (own_poly kk)), .second, .val (.int (own_wid kk)), .val (.long rp), .second, .val (.long on), .second, .val (.ref cb), .val (.long (own_crc q2 la rp on)), .second, .unset, .unset, .unset, .unset, .unset, .unset, .unset, .unset, .unset, .unset, .unset, .unset, .unset, .unset, .unset, .unset, .unset, .unset, .unset, .unset, .unset] [(.long on), (.long rp), (.int lb), (.long q3)])) rfl (by rw [hml]; rfl) (argsL := [(.long q3), (.int lb), (.long rp), (.long on)]) (rest := []) (lenOf pd_6 rfl) rfl (by show 2 * 0 + _ ≤ _; exact Nat.le_of_eq rfl) (hb hby at_94) (fun _ _ => ⟨rfl, hH38, (by decide : 1 + 0 ≤ _), (by decide : 2 + 0 ≤ _)⟩)
  dsimp only [Pt.U, Pt.locs, Pt.cells, Pt.slots] at X39 l39 y39 z39 st39 hQ39
  subst l39 y39 z39
  obtain ⟨rfl, N39q, hH39⟩ := hQ39
  have N39 := Fr.app N38 N39q
  obtain ⟨lo39, X39, N39⟩ := own_pack X39 N39
  replace X39 : Stand p l e _ s m _ below meth c T39 _ 1 2 := X39
  refine own_adv (B := (T39.setTop (mkF m 97 #[.val (.int p1), .val (.long q2), .second, .val (.long q3), .second, .val (.long q4), .second, .val (.long q5), .second, .val (.long q6), .second, .val (.int kk), .val (.int la), .val (.int lb), .val (.long (own_poly kk)), .second, .val (.int (own_wid kk)), .val (.long rp), .second, .val (.long on), .second, .val (.ref cb), .val (.long (own_crc q2 la rp on)), .second, .unset, .unset, .unset, .unset, .unset, .unset, .unset, .unset, .unset, .unset, .unset, .unset, .unset, .unset, .unset, .unset, .unset, .unset, .unset, .unset, .unset] [(.long (own_crc q3 lb rp on))]))) (fun t kS => st39 t kS) ?_
  refine own_adv (B := (T39.setTop (mkF m 102 #[.val (.int p1), .val (.long q2), .second, .val (.long q3), .second, .val (.long q4), .second, .val (.long q5), .second, .val (.long q6), .second, .val (.int kk), .val (.int la), .val (.int lb), .val (.long (own_poly kk)), .second, .val (.int (own_wid kk)), .val (.long rp), .second, .val (.long on), .second, .val (.ref cb), .val (.long (own_crc q2 la rp on)), .second, .val (.long (own_crc q3 lb rp on)), .second, .unset, .unset, .unset, .unset, .unset, .unset, .unset, .unset, .unset, .unset, .unset, .unset, .unset, .unset, .unset, .unset, .unset, .unset, .unset] [(.int la), (.long q2)]))) (fun t kS => ?_) ?_
  · show Steps p.tables e below (T39.setTop (mkF m 97 #[.val (.int p1), .val (.long q2), .second, .val (.long q3), .second, .val (.long q4), .second, .val (.long q5), .second, .val (.long q6), .second, .val (.int kk), .val (.int la), .val (.int lb), .val (.long (own_poly kk)), .second, .val (.int (own_wid kk)), .val (.long rp), .second, .val (.long on), .second, .val (.ref cb), .val (.long (own_crc q2 la rp on)), .second, .unset, .unset, .unset, .unset, .unset, .unset, .unset, .unset, .unset, .unset, .unset, .unset, .unset, .unset, .unset, .unset, .unset, .unset, .unset, .unset, .unset] [(.long (own_crc q3 lb rp on))])) _
    refine XS.lstore X39.here hx rfl (hb hby at_97) rfl (l' := #[.val (.int p1), .val (.long q2), .second, .val (.long q3), .second, .val (.long q4), .second, .val (.long q5), .second, .val (.long q6), .second, .val (.int kk), .val (.int la), .val (.int lb), .val (.long (own_poly kk)), .second, .val (.int (own_wid kk)), .val (.long rp), .second, .val (.long on), .second, .val (.ref cb), .val (.long (own_crc q2 la rp on)), .second, .val (.long (own_crc q3 lb rp on)), .second, .unset, .unset, .unset, .unset, .unset, .unset, .unset, .unset, .unset, .unset, .unset, .unset, .unset, .unset, .unset, .unset, .unset, .unset, .unset]) rfl ?_
    show Steps p.tables e below (T39.setTop (mkF m 99 #[.val (.int p1), .val (.long q2), .second, .val (.long q3), .second, .val (.long q4), .second, .val (.long q5), .second, .val (.long q6), .second, .val (.int kk), .val (.int la), .val (.int lb), .val (.long (own_poly kk)), .second, .val (.int (own_wid kk)), .val (.long rp), .second, .val (.long on), .second, .val (.ref cb), .val (.long (own_crc q2 la rp on)), .second, .val (.long (own_crc q3 lb rp on)), .second, .unset, .unset, .unset, .unset, .unset, .unset, .unset, .unset, .unset, .unset, .unset, .unset, .unset, .unset, .unset, .unset, .unset, .unset, .unset] [])) _
    refine XS.lloadN X39.here hx rfl (hb hby at_99) rfl ?_
    show Steps p.tables e below (T39.setTop (mkF m 100 #[.val (.int p1), .val (.long q2), .second, .val (.long q3), .second, .val (.long q4), .second, .val (.long q5), .second, .val (.long q6), .second, .val (.int kk), .val (.int la), .val (.int lb), .val (.long (own_poly kk)), .second, .val (.int (own_wid kk)), .val (.long rp), .second, .val (.long on), .second, .val (.ref cb), .val (.long (own_crc q2 la rp on)), .second, .val (.long (own_crc q3 lb rp on)), .second, .unset, .unset, .unset, .unset, .unset, .unset, .unset, .unset, .unset, .unset, .unset, .unset, .unset, .unset, .unset, .unset, .unset, .unset, .unset] [(.long q2)])) _
    refine XS.iload X39.here hx rfl (hb hby at_100) rfl ?_
    exact kS
  obtain ⟨_, _, ⟨T40, L40, k40, n40⟩, -, X40, ⟨Lc40, hQ40, l40, y40, z40⟩, st40⟩ := Jvm.LawKit.callS X39 hx (y := (⟨"com/example/latchkey/latchkey/server/gateway/CrcCombinationCombinePinLaw", "byteMask", "(I)J"⟩ : MethodName)) hown (mvT hZ (hw _ (List.mem_of_getElem? (i := 40) rfl))) (mvT hZ (hw _ (List.mem_of_getElem? (i := 41) rfl))) (mvT hZ (hw _ (List.mem_of_getElem? (i := 2) rfl))) (mvT hZ (hw _ (List.mem_of_getElem? (i := 42) rfl))) (by decide) (backOf (W := 2) (rm9 l Z a0 hw [] la T37.heap n0 ZZ) hZ (hw _ (List.mem_of_getElem? (i := 42) rfl)) (hw _ (List.mem_of_getElem? (i := 2) rfl)) (by decide) (by decide)) (g := (mkF m 102 #[.val (.int p1), .val (.long q2), .second, .val (.long q3), .second, .val (.long q4), .second, .val (.long q5), .second, .val (.long q6), .second, .val (.int kk), .val (.int la), .val (.int lb), .val (.long (own_poly kk)), .second, .val (.int (own_wid kk)), .val (.long rp), .second, .val (.long on), .second, .val (.ref cb), .val (.long (own_crc q2 la rp on)), .second, .val (.long (own_crc q3 lb rp on)), .second, .unset, .unset, .unset, .unset, .unset, .unset, .unset, .unset, .unset, .unset, .unset, .unset, .unset, .unset, .unset, .unset, .unset, .unset, .unset] [(.int la), (.long q2)])) rfl (by rw [hml]; rfl) (argsL := [(.int la)]) (rest := [(.long q2)]) (lenOf pd_3 rfl) rfl (by show 2 * 0 + _ ≤ _; exact Nat.le_of_eq rfl) (hb hby at_102) (fun _ _ => ⟨rfl, hH39, (by decide : 1 + 0 ≤ _), (by decide : 2 + 0 ≤ _)⟩)
  dsimp only [Pt.U, Pt.locs, Pt.cells, Pt.slots] at X40 l40 y40 z40 st40 hQ40
  subst l40 y40 z40
  obtain ⟨rfl, N40q, hH40⟩ := hQ40
  have N40 := Fr.app N39 N40q
  obtain ⟨lo40, X40, N40⟩ := own_pack X40 N40
  replace X40 : Stand p l e _ s m _ below meth c T40 _ 1 2 := X40
  refine own_adv (B := (T40.setTop (mkF m 105 #[.val (.int p1), .val (.long q2), .second, .val (.long q3), .second, .val (.long q4), .second, .val (.long q5), .second, .val (.long q6), .second, .val (.int kk), .val (.int la), .val (.int lb), .val (.long (own_poly kk)), .second, .val (.int (own_wid kk)), .val (.long rp), .second, .val (.long on), .second, .val (.ref cb), .val (.long (own_crc q2 la rp on)), .second, .val (.long (own_crc q3 lb rp on)), .second, .unset, .unset, .unset, .unset, .unset, .unset, .unset, .unset, .unset, .unset, .unset, .unset, .unset, .unset, .unset, .unset, .unset, .unset, .unset] [(.long (own_bm la)), (.long q2)]))) (fun t kS => st40 t kS) ?_
  refine own_adv (B := (T40.setTop (mkF m 116 #[.val (.int p1), .val (.long q2), .second, .val (.long q3), .second, .val (.long q4), .second, .val (.long q5), .second, .val (.long q6), .second, .val (.int kk), .val (.int la), .val (.int lb), .val (.long (own_poly kk)), .second, .val (.int (own_wid kk)), .val (.long rp), .second, .val (.long on), .second, .val (.ref cb), .val (.long (own_crc q2 la rp on)), .second, .val (.long (own_crc q3 lb rp on)), .second, .val (.long ((q2 &&& (own_bm la)) ||| (q3 <<< (((8 : Int32) * la) &&& 0x3f).toInt64))), .second, .unset, .unset, .unset, .unset, .unset, .unset, .unset, .unset, .unset, .unset, .unset, .unset, .unset, .unset, .unset, .unset, .unset] []))) (fun t kS => ?_) ?_
  · show Steps p.tables e below (T40.setTop (mkF m 105 #[.val (.int p1), .val (.long q2), .second, .val (.long q3), .second, .val (.long q4), .second, .val (.long q5), .second, .val (.long q6), .second, .val (.int kk), .val (.int la), .val (.int lb), .val (.long (own_poly kk)), .second, .val (.int (own_wid kk)), .val (.long rp), .second, .val (.long on), .second, .val (.ref cb), .val (.long (own_crc q2 la rp on)), .second, .val (.long (own_crc q3 lb rp on)), .second, .unset, .unset, .unset, .unset, .unset, .unset, .unset, .unset, .unset, .unset, .unset, .unset, .unset, .unset, .unset, .unset, .unset, .unset, .unset] [(.long (own_bm la)), (.long q2)])) _
    refine XS.land X40.here hx rfl (hb hby at_105) rfl ?_
    show Steps p.tables e below (T40.setTop (mkF m 106 #[.val (.int p1), .val (.long q2), .second, .val (.long q3), .second, .val (.long q4), .second, .val (.long q5), .second, .val (.long q6), .second, .val (.int kk), .val (.int la), .val (.int lb), .val (.long (own_poly kk)), .second, .val (.int (own_wid kk)), .val (.long rp), .second, .val (.long on), .second, .val (.ref cb), .val (.long (own_crc q2 la rp on)), .second, .val (.long (own_crc q3 lb rp on)), .second, .unset, .unset, .unset, .unset, .unset, .unset, .unset, .unset, .unset, .unset, .unset, .unset, .unset, .unset, .unset, .unset, .unset, .unset, .unset] [(.long (q2 &&& (own_bm la)))])) _
    refine XS.lloadN X40.here hx rfl (hb hby at_106) rfl ?_
    show Steps p.tables e below (T40.setTop (mkF m 107 #[.val (.int p1), .val (.long q2), .second, .val (.long q3), .second, .val (.long q4), .second, .val (.long q5), .second, .val (.long q6), .second, .val (.int kk), .val (.int la), .val (.int lb), .val (.long (own_poly kk)), .second, .val (.int (own_wid kk)), .val (.long rp), .second, .val (.long on), .second, .val (.ref cb), .val (.long (own_crc q2 la rp on)), .second, .val (.long (own_crc q3 lb rp on)), .second, .unset, .unset, .unset, .unset, .unset, .unset, .unset, .unset, .unset, .unset, .unset, .unset, .unset, .unset, .unset, .unset, .unset, .unset, .unset] [(.long q3), (.long (q2 &&& (own_bm la)))])) _
    refine XS.bipush X40.here hx rfl (hb hby at_107) ?_
    show Steps p.tables e below (T40.setTop (mkF m 109 #[.val (.int p1), .val (.long q2), .second, .val (.long q3), .second, .val (.long q4), .second, .val (.long q5), .second, .val (.long q6), .second, .val (.int kk), .val (.int la), .val (.int lb), .val (.long (own_poly kk)), .second, .val (.int (own_wid kk)), .val (.long rp), .second, .val (.long on), .second, .val (.ref cb), .val (.long (own_crc q2 la rp on)), .second, .val (.long (own_crc q3 lb rp on)), .second, .unset, .unset, .unset, .unset, .unset, .unset, .unset, .unset, .unset, .unset, .unset, .unset, .unset, .unset, .unset, .unset, .unset, .unset, .unset] [(.int (8 : Int32)), (.long q3), (.long (q2 &&& (own_bm la)))])) _
    refine XS.iload X40.here hx rfl (hb hby at_109) rfl ?_
    show Steps p.tables e below (T40.setTop (mkF m 111 #[.val (.int p1), .val (.long q2), .second, .val (.long q3), .second, .val (.long q4), .second, .val (.long q5), .second, .val (.long q6), .second, .val (.int kk), .val (.int la), .val (.int lb), .val (.long (own_poly kk)), .second, .val (.int (own_wid kk)), .val (.long rp), .second, .val (.long on), .second, .val (.ref cb), .val (.long (own_crc q2 la rp on)), .second, .val (.long (own_crc q3 lb rp on)), .second, .unset, .unset, .unset, .unset, .unset, .unset, .unset, .unset, .unset, .unset, .unset, .unset, .unset, .unset, .unset, .unset, .unset, .unset, .unset] [(.int la), (.int (8 : Int32)), (.long q3), (.long (q2 &&& (own_bm la)))])) _
    refine XS.imul X40.here hx rfl (hb hby at_111) rfl ?_
    show Steps p.tables e below (T40.setTop (mkF m 112 #[.val (.int p1), .val (.long q2), .second, .val (.long q3), .second, .val (.long q4), .second, .val (.long q5), .second, .val (.long q6), .second, .val (.int kk), .val (.int la), .val (.int lb), .val (.long (own_poly kk)), .second, .val (.int (own_wid kk)), .val (.long rp), .second, .val (.long on), .second, .val (.ref cb), .val (.long (own_crc q2 la rp on)), .second, .val (.long (own_crc q3 lb rp on)), .second, .unset, .unset, .unset, .unset, .unset, .unset, .unset, .unset, .unset, .unset, .unset, .unset, .unset, .unset, .unset, .unset, .unset, .unset, .unset] [(.int ((8 : Int32) * la)), (.long q3), (.long (q2 &&& (own_bm la)))])) _
    refine XS.lshl X40.here hx rfl (hb hby at_112) rfl ?_
    show Steps p.tables e below (T40.setTop (mkF m 113 #[.val (.int p1), .val (.long q2), .second, .val (.long q3), .second, .val (.long q4), .second, .val (.long q5), .second, .val (.long q6), .second, .val (.int kk), .val (.int la), .val (.int lb), .val (.long (own_poly kk)), .second, .val (.int (own_wid kk)), .val (.long rp), .second, .val (.long on), .second, .val (.ref cb), .val (.long (own_crc q2 la rp on)), .second, .val (.long (own_crc q3 lb rp on)), .second, .unset, .unset, .unset, .unset, .unset, .unset, .unset, .unset, .unset, .unset, .unset, .unset, .unset, .unset, .unset, .unset, .unset, .unset, .unset] [(.long (q3 <<< (((8 : Int32) * la) &&& 0x3f).toInt64)), (.long (q2 &&& (own_bm la)))])) _
    refine XS.lor X40.here hx rfl (hb hby at_113) rfl ?_
    show Steps p.tables e below (T40.setTop (mkF m 114 #[.val (.int p1), .val (.long q2), .second, .val (.long q3), .second, .val (.long q4), .second, .val (.long q5), .second, .val (.long q6), .second, .val (.int kk), .val (.int la), .val (.int lb), .val (.long (own_poly kk)), .second, .val (.int (own_wid kk)), .val (.long rp), .second, .val (.long on), .second, .val (.ref cb), .val (.long (own_crc q2 la rp on)), .second, .val (.long (own_crc q3 lb rp on)), .second, .unset, .unset, .unset, .unset, .unset, .unset, .unset, .unset, .unset, .unset, .unset, .unset, .unset, .unset, .unset, .unset, .unset, .unset, .unset] [(.long ((q2 &&& (own_bm la)) ||| (q3 <<< (((8 : Int32) * la) &&& 0x3f).toInt64)))])) _
    refine XS.lstore X40.here hx rfl (hb hby at_114) rfl (l' := #[.val (.int p1), .val (.long q2), .second, .val (.long q3), .second, .val (.long q4), .second, .val (.long q5), .second, .val (.long q6), .second, .val (.int kk), .val (.int la), .val (.int lb), .val (.long (own_poly kk)), .second, .val (.int (own_wid kk)), .val (.long rp), .second, .val (.long on), .second, .val (.ref cb), .val (.long (own_crc q2 la rp on)), .second, .val (.long (own_crc q3 lb rp on)), .second, .val (.long ((q2 &&& (own_bm la)) ||| (q3 <<< (((8 : Int32) * la) &&& 0x3f).toInt64))), .second, .unset, .unset, .unset, .unset, .unset, .unset, .unset, .unset, .unset, .unset, .unset, .unset, .unset, .unset, .unset, .unset, .unset]) rfl ?_
    exact kS
  refine own_adv (B := (T40.setTop (mkF m 116 #[.val (.int p1), .val (.long q2), .second, .val (.long q3), .second, .val (.long q4), .second, .val (.long q5), .second, .val (.long q6), .second, .val (.int kk), .val (.int la), .val (.int lb), .val (.long (own_poly kk)), .second, .val (.int (own_wid kk)), .val (.long rp), .second, .val (.long on), .second, .val (.ref cb), .val (.long (own_crc q2 la rp on)), .second, .val (.long (own_crc q3 lb rp on)), .second, .val (.long (own_jn q2 q3 la)), .second, .unset, .unset, .unset, .unset, .unset, .unset, .unset, .unset, .unset, .unset, .unset, .unset, .unset, .unset, .unset, .unset, .unset] []))) (fun t kS => kS) ?_
  refine own_adv (B := (T40.setTop (mkF m 127 #[.val (.int p1), .val (.long q2), .second, .val (.long q3), .second, .val (.long q4), .second, .val (.long q5), .second, .val (.long q6), .second, .val (.int kk), .val (.int la), .val (.int lb), .val (.long (own_poly kk)), .second, .val (.int (own_wid kk)), .val (.long rp), .second, .val (.long on), .second, .val (.ref cb), .val (.long (own_crc q2 la rp on)), .second, .val (.long (own_crc q3 lb rp on)), .second, .val (.long (own_jn q2 q3 la)), .second, .unset, .unset, .unset, .unset, .unset, .unset, .unset, .unset, .unset, .unset, .unset, .unset, .unset, .unset, .unset, .unset, .unset] [(.long on), (.long rp), (.int (la + lb)), (.long (own_jn q2 q3 la))]))) (fun t kS => ?_) ?_
  · show Steps p.tables e below (T40.setTop (mkF m 116 #[.val (.int p1), .val (.long q2), .second, .val (.long q3), .second, .val (.long q4), .second, .val (.long q5), .second, .val (.long q6), .second, .val (.int kk), .val (.int la), .val (.int lb), .val (.long (own_poly kk)), .second, .val (.int (own_wid kk)), .val (.long rp), .second, .val (.long on), .second, .val (.ref cb), .val (.long (own_crc q2 la rp on)), .second, .val (.long (own_crc q3 lb rp on)), .second, .val (.long (own_jn q2 q3 la)), .second, .unset, .unset, .unset, .unset, .unset, .unset, .unset, .unset, .unset, .unset, .unset, .unset, .unset, .unset, .unset, .unset, .unset] [])) _
    refine XS.lload X40.here hx rfl (hb hby at_116) rfl ?_
    show Steps p.tables e below (T40.setTop (mkF m 118 #[.val (.int p1), .val (.long q2), .second, .val (.long q3), .second, .val (.long q4), .second, .val (.long q5), .second, .val (.long q6), .second, .val (.int kk), .val (.int la), .val (.int lb), .val (.long (own_poly kk)), .second, .val (.int (own_wid kk)), .val (.long rp), .second, .val (.long on), .second, .val (.ref cb), .val (.long (own_crc q2 la rp on)), .second, .val (.long (own_crc q3 lb rp on)), .second, .val (.long (own_jn q2 q3 la)), .second, .unset, .unset, .unset, .unset, .unset, .unset, .unset, .unset, .unset, .unset, .unset, .unset, .unset, .unset, .unset, .unset, .unset] [(.long (own_jn q2 q3 la))])) _
    refine XS.iload X40.here hx rfl (hb hby at_118) rfl ?_
    show Steps p.tables e below (T40.setTop (mkF m 120 #[.val (.int p1), .val (.long q2), .second, .val (.long q3), .second, .val (.long q4), .second, .val (.long q5), .second, .val (.long q6), .second, .val (.int kk), .val (.int la), .val (.int lb), .val (.long (own_poly kk)), .second, .val (.int (own_wid kk)), .val (.long rp), .second, .val (.long on), .second, .val (.ref cb), .val (.long (own_crc q2 la rp on)), .second, .val (.long (own_crc q3 lb rp on)), .second, .val (.long (own_jn q2 q3 la)), .second, .unset, .unset, .unset, .unset, .unset, .unset, .unset, .unset, .unset, .unset, .unset, .unset, .unset, .unset, .unset, .unset, .unset] [(.int la), (.long (own_jn q2 q3 la))])) _
    refine XS.iload X40.here hx rfl (hb hby at_120) rfl ?_
    show Steps p.tables e below (T40.setTop (mkF m 122 #[.val (.int p1), .val (.long q2), .second, .val (.long q3), .second, .val (.long q4), .second, .val (.long q5), .second, .val (.long q6), .second, .val (.int kk), .val (.int la), .val (.int lb), .val (.long (own_poly kk)), .second, .val (.int (own_wid kk)), .val (.long rp), .second, .val (.long on), .second, .val (.ref cb), .val (.long (own_crc q2 la rp on)), .second, .val (.long (own_crc q3 lb rp on)), .second, .val (.long (own_jn q2 q3 la)), .second, .unset, .unset, .unset, .unset, .unset, .unset, .unset, .unset, .unset, .unset, .unset, .unset, .unset, .unset, .unset, .unset, .unset] [(.int lb), (.int la), (.long (own_jn q2 q3 la))])) _
    refine XS.iadd X40.here hx rfl (hb hby at_122) rfl ?_
    show Steps p.tables e below (T40.setTop (mkF m 123 #[.val (.int p1), .val (.long q2), .second, .val (.long q3), .second, .val (.long q4), .second, .val (.long q5), .second, .val (.long q6), .second, .val (.int kk), .val (.int la), .val (.int lb), .val (.long (own_poly kk)), .second, .val (.int (own_wid kk)), .val (.long rp), .second, .val (.long on), .second, .val (.ref cb), .val (.long (own_crc q2 la rp on)), .second, .val (.long (own_crc q3 lb rp on)), .second, .val (.long (own_jn q2 q3 la)), .second, .unset, .unset, .unset, .unset, .unset, .unset, .unset, .unset, .unset, .unset, .unset, .unset, .unset, .unset, .unset, .unset, .unset] [(.int (la + lb)), (.long (own_jn q2 q3 la))])) _
    refine XS.lload X40.here hx rfl (hb hby at_123) rfl ?_
    show Steps p.tables e below (T40.setTop (mkF m 125 #[.val (.int p1), .val (.long q2), .second, .val (.long q3), .second, .val (.long q4), .second, .val (.long q5), .second, .val (.long q6), .second, .val (.int kk), .val (.int la), .val (.int lb), .val (.long (own_poly kk)), .second, .val (.int (own_wid kk)), .val (.long rp), .second, .val (.long on), .second, .val (.ref cb), .val (.long (own_crc q2 la rp on)), .second, .val (.long (own_crc q3 lb rp on)), .second, .val (.long (own_jn q2 q3 la)), .second, .unset, .unset, .unset, .unset, .unset, .unset, .unset, .unset, .unset, .unset, .unset, .unset, .unset, .unset, .unset, .unset, .unset] [(.long rp), (.int (la + lb)), (.long (own_jn q2 q3 la))])) _
    refine XS.lload X40.here hx rfl (hb hby at_125) rfl ?_
    exact kS
  obtain ⟨_, _, ⟨T41, L41, k41, n41⟩, -, X41, ⟨Lc41, hQ41, l41, y41, z41⟩, st41⟩ := Jvm.LawKit.callS X40 hx (y := (⟨"com/example/latchkey/latchkey/server/gateway/CrcCombinationCombinePinLaw", "crc", "(JIJJ)J"⟩ : MethodName)) hown (mvT hZ (hw _ (List.mem_of_getElem? (i := 37) rfl))) (mvT hZ (hw _ (List.mem_of_getElem? (i := 38) rfl))) (mvT hZ (hw _ (List.mem_of_getElem? (i := 2) rfl))) (mvT hZ (hw _ (List.mem_of_getElem? (i := 39) rfl))) (by decide) (backOf (W := 0) (rm8 l Z a0 hw [] (own_jn q2 q3 la) (la + lb) rp on T37.heap n0 ZZ) hZ (hw _ (List.mem_of_getElem? (i := 39) rfl)) (hw _ (List.mem_of_getElem? (i := 2) rfl)) (by decide) (by decide)) (g := (mkF m 127 #[.val (.int p1), .val (.long q2), .second, .val (.long q3), .second, .val (.long q4), .second, .val (.long q5), .second, .val (.long q6), .second, .val (.int kk), .val (.int la), .val (.int lb), .val (.long (own_poly kk)), .second, .val (.int (own_wid kk)), .val (.long rp), .second, .val (.long on), .second, .val (.ref cb), .val (.long (own_crc q2 la rp on)), .second, .val (.long (own_crc q3 lb rp on)), .second, .val (.long (own_jn q2 q3 la)), .second, .unset, .unset, .unset, .unset, .unset, .unset, .unset, .unset, .unset, .unset, .unset, .unset, .unset, .unset, .unset, .unset, .unset] [(.long on), (.long rp), (.int (la + lb)), (.long (own_jn q2 q3 la))])) rfl (by rw [hml]; rfl) (argsL := [(.long (own_jn q2 q3 la)), (.int (la + lb)), (.long rp), (.long on)]) (rest := []) (lenOf pd_6 rfl) rfl (by show 2 * 0 + _ ≤ _; exact Nat.le_of_eq rfl) (hb hby at_127) (fun _ _ => ⟨rfl, hH40, (by decide : 1 + 0 ≤ _), (by decide : 2 + 0 ≤ _)⟩)
  dsimp only [Pt.U, Pt.locs, Pt.cells, Pt.slots] at X41 l41 y41 z41 st41 hQ41
  subst l41 y41 z41
  obtain ⟨rfl, N41q, hH41⟩ := hQ41
  have N41 := Fr.app N40 N41q
  obtain ⟨lo41, X41, N41⟩ := own_pack X41 N41
  replace X41 : Stand p l e _ s m _ below meth c T41 _ 1 2 := X41
  refine own_adv (B := (T41.setTop (mkF m 130 #[.val (.int p1), .val (.long q2), .second, .val (.long q3), .second, .val (.long q4), .second, .val (.long q5), .second, .val (.long q6), .second, .val (.int kk), .val (.int la), .val (.int lb), .val (.long (own_poly kk)), .second, .val (.int (own_wid kk)), .val (.long rp), .second, .val (.long on), .second, .val (.ref cb), .val (.long (own_crc q2 la rp on)), .second, .val (.long (own_crc q3 lb rp on)), .second, .val (.long (own_jn q2 q3 la)), .second, .unset, .unset, .unset, .unset, .unset, .unset, .unset, .unset, .unset, .unset, .unset, .unset, .unset, .unset, .unset, .unset, .unset] [(.long (own_crc (own_jn q2 q3 la) (la + lb) rp on))]))) (fun t kS => st41 t kS) ?_
  refine own_adv (B := (T41.setTop (mkF m 141 #[.val (.int p1), .val (.long q2), .second, .val (.long q3), .second, .val (.long q4), .second, .val (.long q5), .second, .val (.long q6), .second, .val (.int kk), .val (.int la), .val (.int lb), .val (.long (own_poly kk)), .second, .val (.int (own_wid kk)), .val (.long rp), .second, .val (.long on), .second, .val (.ref cb), .val (.long (own_crc q2 la rp on)), .second, .val (.long (own_crc q3 lb rp on)), .second, .val (.long (own_jn q2 q3 la)), .second, .val (.long (own_crc (own_jn q2 q3 la) (la + lb) rp on)), .second, .unset, .unset, .unset, .unset, .unset, .unset, .unset, .unset, .unset, .unset, .unset, .unset, .unset, .unset, .unset] [(.long (lb.toInt64)), (.long (own_crc q3 lb rp on)), (.long (own_crc q2 la rp on)), (.ref cb)]))) (fun t kS => ?_) ?_
  · show Steps p.tables e below (T41.setTop (mkF m 130 #[.val (.int p1), .val (.long q2), .second, .val (.long q3), .second, .val (.long q4), .second, .val (.long q5), .second, .val (.long q6), .second, .val (.int kk), .val (.int la), .val (.int lb), .val (.long (own_poly kk)), .second, .val (.int (own_wid kk)), .val (.long rp), .second, .val (.long on), .second, .val (.ref cb), .val (.long (own_crc q2 la rp on)), .second, .val (.long (own_crc q3 lb rp on)), .second, .val (.long (own_jn q2 q3 la)), .second, .unset, .unset, .unset, .unset, .unset, .unset, .unset, .unset, .unset, .unset, .unset, .unset, .unset, .unset, .unset, .unset, .unset] [(.long (own_crc (own_jn q2 q3 la) (la + lb) rp on))])) _
    refine XS.lstore X41.here hx rfl (hb hby at_130) rfl (l' := #[.val (.int p1), .val (.long q2), .second, .val (.long q3), .second, .val (.long q4), .second, .val (.long q5), .second, .val (.long q6), .second, .val (.int kk), .val (.int la), .val (.int lb), .val (.long (own_poly kk)), .second, .val (.int (own_wid kk)), .val (.long rp), .second, .val (.long on), .second, .val (.ref cb), .val (.long (own_crc q2 la rp on)), .second, .val (.long (own_crc q3 lb rp on)), .second, .val (.long (own_jn q2 q3 la)), .second, .val (.long (own_crc (own_jn q2 q3 la) (la + lb) rp on)), .second, .unset, .unset, .unset, .unset, .unset, .unset, .unset, .unset, .unset, .unset, .unset, .unset, .unset, .unset, .unset]) rfl ?_
    show Steps p.tables e below (T41.setTop (mkF m 132 #[.val (.int p1), .val (.long q2), .second, .val (.long q3), .second, .val (.long q4), .second, .val (.long q5), .second, .val (.long q6), .second, .val (.int kk), .val (.int la), .val (.int lb), .val (.long (own_poly kk)), .second, .val (.int (own_wid kk)), .val (.long rp), .second, .val (.long on), .second, .val (.ref cb), .val (.long (own_crc q2 la rp on)), .second, .val (.long (own_crc q3 lb rp on)), .second, .val (.long (own_jn q2 q3 la)), .second, .val (.long (own_crc (own_jn q2 q3 la) (la + lb) rp on)), .second, .unset, .unset, .unset, .unset, .unset, .unset, .unset, .unset, .unset, .unset, .unset, .unset, .unset, .unset, .unset] [])) _
    refine XS.aload X41.here hx rfl (hb hby at_132) rfl rfl ?_
    show Steps p.tables e below (T41.setTop (mkF m 134 #[.val (.int p1), .val (.long q2), .second, .val (.long q3), .second, .val (.long q4), .second, .val (.long q5), .second, .val (.long q6), .second, .val (.int kk), .val (.int la), .val (.int lb), .val (.long (own_poly kk)), .second, .val (.int (own_wid kk)), .val (.long rp), .second, .val (.long on), .second, .val (.ref cb), .val (.long (own_crc q2 la rp on)), .second, .val (.long (own_crc q3 lb rp on)), .second, .val (.long (own_jn q2 q3 la)), .second, .val (.long (own_crc (own_jn q2 q3 la) (la + lb) rp on)), .second, .unset, .unset, .unset, .unset, .unset, .unset, .unset, .unset, .unset, .unset, .unset, .unset, .unset, .unset, .unset] [(.ref cb)])) _
    refine XS.lload X41.here hx rfl (hb hby at_134) rfl ?_
    show Steps p.tables e below (T41.setTop (mkF m 136 #[.val (.int p1), .val (.long q2), .second, .val (.long q3), .second, .val (.long q4), .second, .val (.long q5), .second, .val (.long q6), .second, .val (.int kk), .val (.int la), .val (.int lb), .val (.long (own_poly kk)), .second, .val (.int (own_wid kk)), .val (.long rp), .second, .val (.long on), .second, .val (.ref cb), .val (.long (own_crc q2 la rp on)), .second, .val (.long (own_crc q3 lb rp on)), .second, .val (.long (own_jn q2 q3 la)), .second, .val (.long (own_crc (own_jn q2 q3 la) (la + lb) rp on)), .second, .unset, .unset, .unset, .unset, .unset, .unset, .unset, .unset, .unset, .unset, .unset, .unset, .unset, .unset, .unset] [(.long (own_crc q2 la rp on)), (.ref cb)])) _
    refine XS.lload X41.here hx rfl (hb hby at_136) rfl ?_
    show Steps p.tables e below (T41.setTop (mkF m 138 #[.val (.int p1), .val (.long q2), .second, .val (.long q3), .second, .val (.long q4), .second, .val (.long q5), .second, .val (.long q6), .second, .val (.int kk), .val (.int la), .val (.int lb), .val (.long (own_poly kk)), .second, .val (.int (own_wid kk)), .val (.long rp), .second, .val (.long on), .second, .val (.ref cb), .val (.long (own_crc q2 la rp on)), .second, .val (.long (own_crc q3 lb rp on)), .second, .val (.long (own_jn q2 q3 la)), .second, .val (.long (own_crc (own_jn q2 q3 la) (la + lb) rp on)), .second, .unset, .unset, .unset, .unset, .unset, .unset, .unset, .unset, .unset, .unset, .unset, .unset, .unset, .unset, .unset] [(.long (own_crc q3 lb rp on)), (.long (own_crc q2 la rp on)), (.ref cb)])) _
    refine XS.iload X41.here hx rfl (hb hby at_138) rfl ?_
    show Steps p.tables e below (T41.setTop (mkF m 140 #[.val (.int p1), .val (.long q2), .second, .val (.long q3), .second, .val (.long q4), .second, .val (.long q5), .second, .val (.long q6), .second, .val (.int kk), .val (.int la), .val (.int lb), .val (.long (own_poly kk)), .second, .val (.int (own_wid kk)), .val (.long rp), .second, .val (.long on), .second, .val (.ref cb), .val (.long (own_crc q2 la rp on)), .second, .val (.long (own_crc q3 lb rp on)), .second, .val (.long (own_jn q2 q3 la)), .second, .val (.long (own_crc (own_jn q2 q3 la) (la + lb) rp on)), .second, .unset, .unset, .unset, .unset, .unset, .unset, .unset, .unset, .unset, .unset, .unset, .unset, .unset, .unset, .unset] [(.int lb), (.long (own_crc q3 lb rp on)), (.long (own_crc q2 la rp on)), (.ref cb)])) _
    refine XS.i2l X41.here hx rfl (hb hby at_140) rfl ?_
    exact kS
  have hdir := own_dirJ rp w h2 h64 hIn on q2 q3 hon1 la lb ka kb hka hkb ea eb
  obtain ⟨cq42, kq42, q42a, q42b, q42c⟩ := isOf hZ hH41 Ea
  obtain ⟨_, _, ⟨T42, L42, k42, n42⟩, -, X42, ⟨Lc42, hQ42, l42, y42, z42⟩, st42⟩ := X41.virtualBack hx (y := (⟨"com/example/latchkey/latchkey/server/gateway/CrcCombination", "combine", "(JJJ)J"⟩ : MethodName)) (z := (⟨"com/example/latchkey/latchkey/server/gateway/CrcCombination", "combine", "(JJJ)J"⟩ : MethodName)) hown (mvT hZ (hw _ (List.mem_of_getElem? (i := 43) rfl))) (mvT hZ (hw _ (List.mem_of_getElem? (i := 44) rfl))) (notFace_of_selects (args := #[]) (mvT hZ (hw _ (List.mem_of_getElem? (i := 46) rfl)))) (mvT hZ (hw _ (List.mem_of_getElem? (i := 46) rfl))) (mvT hZ (hw _ (List.mem_of_getElem? (i := 45) rfl))) (by decide) (backOf (W := 0) (rm10 l Z a0 hw [] cb (own_crc q2 la rp on) (own_crc q3 lb rp on) lb.toInt64 rp w T37.heap n0 ZZ Ea Fp Fo h64) hZ (hw _ (List.mem_of_getElem? (i := 47) rfl)) (hw _ (List.mem_of_getElem? (i := 14) rfl)) (by decide) (by decide)) q42a q42c (g := (mkF m 141 #[.val (.int p1), .val (.long q2), .second, .val (.long q3), .second, .val (.long q4), .second, .val (.long q5), .second, .val (.long q6), .second, .val (.int kk), .val (.int la), .val (.int lb), .val (.long (own_poly kk)), .second, .val (.int (own_wid kk)), .val (.long rp), .second, .val (.long on), .second, .val (.ref cb), .val (.long (own_crc q2 la rp on)), .second, .val (.long (own_crc q3 lb rp on)), .second, .val (.long (own_jn q2 q3 la)), .second, .val (.long (own_crc (own_jn q2 q3 la) (la + lb) rp on)), .second, .unset, .unset, .unset, .unset, .unset, .unset, .unset, .unset, .unset, .unset, .unset, .unset, .unset, .unset, .unset] [(.long (lb.toInt64)), (.long (own_crc q3 lb rp on)), (.long (own_crc q2 la rp on)), (.ref cb)])) rfl (by rw [hml]; rfl) (Steps.refl _) (argsL := [(.long (own_crc q2 la rp on)), (.long (own_crc q3 lb rp on)), (.long (lb.toInt64))]) (rest := []) (lenOf pd_0 rfl) rfl (by show 2 * 0 + _ ≤ _; exact Nat.le_of_eq rfl) (hb hby at_141) (fun _ _ => ⟨rfl, hH41, (by decide : 1 + 0 ≤ _), (by decide : 2 + 0 ≤ _)⟩)
  dsimp only [Pt.U, Pt.locs, Pt.cells, Pt.slots] at X42 l42 y42 z42 st42 hQ42
  subst l42 y42 z42
  obtain ⟨rfl, N42q, hH42⟩ := hQ42
  have N42 := Fr.app N41 N42q
  obtain ⟨lo42, X42, N42⟩ := own_pack X42 N42
  replace X42 : Stand p l e _ s m _ below meth c T42 _ 1 2 := X42
  refine own_adv (B := (T42.setTop (mkF m 144 #[.val (.int p1), .val (.long q2), .second, .val (.long q3), .second, .val (.long q4), .second, .val (.long q5), .second, .val (.long q6), .second, .val (.int kk), .val (.int la), .val (.int lb), .val (.long (own_poly kk)), .second, .val (.int (own_wid kk)), .val (.long rp), .second, .val (.long on), .second, .val (.ref cb), .val (.long (own_crc q2 la rp on)), .second, .val (.long (own_crc q3 lb rp on)), .second, .val (.long (own_jn q2 q3 la)), .second, .val (.long (own_crc (own_jn q2 q3 la) (la + lb) rp on)), .second, .unset, .unset, .unset, .unset, .unset, .unset, .unset, .unset, .unset, .unset, .unset, .unset, .unset, .unset, .unset] [(.long (own_Comb rp w (own_crc q2 la rp on) (own_crc q3 lb rp on) lb.toInt64))]))) (fun t kS => st42.trans kS) ?_
  refine own_adv (B := (T42.setTop (mkF m 157 #[.val (.int p1), .val (.long q2), .second, .val (.long q3), .second, .val (.long q4), .second, .val (.long q5), .second, .val (.long q6), .second, .val (.int kk), .val (.int la), .val (.int lb), .val (.long (own_poly kk)), .second, .val (.int (own_wid kk)), .val (.long rp), .second, .val (.long on), .second, .val (.ref cb), .val (.long (own_crc q2 la rp on)), .second, .val (.long (own_crc q3 lb rp on)), .second, .val (.long (own_jn q2 q3 la)), .second, .val (.long (own_crc (own_jn q2 q3 la) (la + lb) rp on)), .second, .val (.int (1 : Int32)), .unset, .unset, .unset, .unset, .unset, .unset, .unset, .unset, .unset, .unset, .unset, .unset, .unset, .unset] []))) (fun t kS => ?_) ?_
  · show Steps p.tables e below (T42.setTop (mkF m 144 #[.val (.int p1), .val (.long q2), .second, .val (.long q3), .second, .val (.long q4), .second, .val (.long q5), .second, .val (.long q6), .second, .val (.int kk), .val (.int la), .val (.int lb), .val (.long (own_poly kk)), .second, .val (.int (own_wid kk)), .val (.long rp), .second, .val (.long on), .second, .val (.ref cb), .val (.long (own_crc q2 la rp on)), .second, .val (.long (own_crc q3 lb rp on)), .second, .val (.long (own_jn q2 q3 la)), .second, .val (.long (own_crc (own_jn q2 q3 la) (la + lb) rp on)), .second, .unset, .unset, .unset, .unset, .unset, .unset, .unset, .unset, .unset, .unset, .unset, .unset, .unset, .unset, .unset] [(.long (own_Comb rp w (own_crc q2 la rp on) (own_crc q3 lb rp on) lb.toInt64))])) _
    refine XS.lload X42.here hx rfl (hb hby at_144) rfl ?_
    show Steps p.tables e below (T42.setTop (mkF m 146 #[.val (.int p1), .val (.long q2), .second, .val (.long q3), .second, .val (.long q4), .second, .val (.long q5), .second, .val (.long q6), .second, .val (.int kk), .val (.int la), .val (.int lb), .val (.long (own_poly kk)), .second, .val (.int (own_wid kk)), .val (.long rp), .second, .val (.long on), .second, .val (.ref cb), .val (.long (own_crc q2 la rp on)), .second, .val (.long (own_crc q3 lb rp on)), .second, .val (.long (own_jn q2 q3 la)), .second, .val (.long (own_crc (own_jn q2 q3 la) (la + lb) rp on)), .second, .unset, .unset, .unset, .unset, .unset, .unset, .unset, .unset, .unset, .unset, .unset, .unset, .unset, .unset, .unset] [(.long (own_crc (own_jn q2 q3 la) (la + lb) rp on)), (.long (own_Comb rp w (own_crc q2 la rp on) (own_crc q3 lb rp on) lb.toInt64))])) _
    refine XS.lcmp X42.here hx rfl (hb hby at_146) rfl ?_
    show Steps p.tables e below (T42.setTop (mkF m 147 #[.val (.int p1), .val (.long q2), .second, .val (.long q3), .second, .val (.long q4), .second, .val (.long q5), .second, .val (.long q6), .second, .val (.int kk), .val (.int la), .val (.int lb), .val (.long (own_poly kk)), .second, .val (.int (own_wid kk)), .val (.long rp), .second, .val (.long on), .second, .val (.ref cb), .val (.long (own_crc q2 la rp on)), .second, .val (.long (own_crc q3 lb rp on)), .second, .val (.long (own_jn q2 q3 la)), .second, .val (.long (own_crc (own_jn q2 q3 la) (la + lb) rp on)), .second, .unset, .unset, .unset, .unset, .unset, .unset, .unset, .unset, .unset, .unset, .unset, .unset, .unset, .unset, .unset] [(.int (lcmpW (own_Comb rp w (own_crc q2 la rp on) (own_crc q3 lb rp on) lb.toInt64) (own_crc (own_jn q2 q3 la) (la + lb) rp on)))])) _
    refine XS.ifNo X42.here hx rfl (hb hby at_147) rfl ((if0 _ _).trans (teq ((lw_eq _ _).mpr hdir)).2) ?_
    show Steps p.tables e below (T42.setTop (mkF m 150 #[.val (.int p1), .val (.long q2), .second, .val (.long q3), .second, .val (.long q4), .second, .val (.long q5), .second, .val (.long q6), .second, .val (.int kk), .val (.int la), .val (.int lb), .val (.long (own_poly kk)), .second, .val (.int (own_wid kk)), .val (.long rp), .second, .val (.long on), .second, .val (.ref cb), .val (.long (own_crc q2 la rp on)), .second, .val (.long (own_crc q3 lb rp on)), .second, .val (.long (own_jn q2 q3 la)), .second, .val (.long (own_crc (own_jn q2 q3 la) (la + lb) rp on)), .second, .unset, .unset, .unset, .unset, .unset, .unset, .unset, .unset, .unset, .unset, .unset, .unset, .unset, .unset, .unset] [])) _
    refine XS.iconst X42.here hx rfl (hb hby at_150) ?_
    show Steps p.tables e below (T42.setTop (mkF m 151 #[.val (.int p1), .val (.long q2), .second, .val (.long q3), .second, .val (.long q4), .second, .val (.long q5), .second, .val (.long q6), .second, .val (.int kk), .val (.int la), .val (.int lb), .val (.long (own_poly kk)), .second, .val (.int (own_wid kk)), .val (.long rp), .second, .val (.long on), .second, .val (.ref cb), .val (.long (own_crc q2 la rp on)), .second, .val (.long (own_crc q3 lb rp on)), .second, .val (.long (own_jn q2 q3 la)), .second, .val (.long (own_crc (own_jn q2 q3 la) (la + lb) rp on)), .second, .unset, .unset, .unset, .unset, .unset, .unset, .unset, .unset, .unset, .unset, .unset, .unset, .unset, .unset, .unset] [(.int (1 : Int32))])) _
    refine XS.goto X42.here hx rfl (pc0 := 151) (pc' := 155) rfl (hb hby at_151) (by decide) (by decide) ?_
    show Steps p.tables e below (T42.setTop (mkF m 155 #[.val (.int p1), .val (.long q2), .second, .val (.long q3), .second, .val (.long q4), .second, .val (.long q5), .second, .val (.long q6), .second, .val (.int kk), .val (.int la), .val (.int lb), .val (.long (own_poly kk)), .second, .val (.int (own_wid kk)), .val (.long rp), .second, .val (.long on), .second, .val (.ref cb), .val (.long (own_crc q2 la rp on)), .second, .val (.long (own_crc q3 lb rp on)), .second, .val (.long (own_jn q2 q3 la)), .second, .val (.long (own_crc (own_jn q2 q3 la) (la + lb) rp on)), .second, .unset, .unset, .unset, .unset, .unset, .unset, .unset, .unset, .unset, .unset, .unset, .unset, .unset, .unset, .unset] [(.int (1 : Int32))])) _
    refine XS.istore X42.here hx rfl (hb hby at_155) rfl (l' := #[.val (.int p1), .val (.long q2), .second, .val (.long q3), .second, .val (.long q4), .second, .val (.long q5), .second, .val (.long q6), .second, .val (.int kk), .val (.int la), .val (.int lb), .val (.long (own_poly kk)), .second, .val (.int (own_wid kk)), .val (.long rp), .second, .val (.long on), .second, .val (.ref cb), .val (.long (own_crc q2 la rp on)), .second, .val (.long (own_crc q3 lb rp on)), .second, .val (.long (own_jn q2 q3 la)), .second, .val (.long (own_crc (own_jn q2 q3 la) (la + lb) rp on)), .second, .val (.int (1 : Int32)), .unset, .unset, .unset, .unset, .unset, .unset, .unset, .unset, .unset, .unset, .unset, .unset, .unset, .unset]) rfl ?_
    exact kS
  refine own_adv (B := (T42.setTop (mkF m 202 #[.val (.int p1), .val (.long q2), .second, .val (.long q3), .second, .val (.long q4), .second, .val (.long q5), .second, .val (.long q6), .second, .val (.int kk), .val (.int la), .val (.int lb), .val (.long (own_poly kk)), .second, .val (.int (own_wid kk)), .val (.long rp), .second, .val (.long on), .second, .val (.ref cb), .val (.long (own_crc q2 la rp on)), .second, .val (.long (own_crc q3 lb rp on)), .second, .val (.long (own_jn q2 q3 la)), .second, .val (.long (own_crc (own_jn q2 q3 la) (la + lb) rp on)), .second, .val (.int (1 : Int32)), .val (.long (q2 &&& on)), .second, .val (.long (q3 &&& on)), .second, .val (.long (q4 &&& on)), .second, .val (.long (q5 &&& (288230376151711743 : Int64))), .second, .val (.long (q6 &&& (288230376151711743 : Int64))), .second, .unset, .unset, .unset, .unset] [(.long (q5 &&& (288230376151711743 : Int64))), (.long (q3 &&& on)), (.long (q2 &&& on)), (.ref cb), (.ref cb)]))) (fun t kS => ?_) ?_
  · show Steps p.tables e below (T42.setTop (mkF m 157 #[.val (.int p1), .val (.long q2), .second, .val (.long q3), .second, .val (.long q4), .second, .val (.long q5), .second, .val (.long q6), .second, .val (.int kk), .val (.int la), .val (.int lb), .val (.long (own_poly kk)), .second, .val (.int (own_wid kk)), .val (.long rp), .second, .val (.long on), .second, .val (.ref cb), .val (.long (own_crc q2 la rp on)), .second, .val (.long (own_crc q3 lb rp on)), .second, .val (.long (own_jn q2 q3 la)), .second, .val (.long (own_crc (own_jn q2 q3 la) (la + lb) rp on)), .second, .val (.int (1 : Int32)), .unset, .unset, .unset, .unset, .unset, .unset, .unset, .unset, .unset, .unset, .unset, .unset, .unset, .unset] [])) _
    refine XS.lloadN X42.here hx rfl (hb hby at_157) rfl ?_
    show Steps p.tables e below (T42.setTop (mkF m 158 #[.val (.int p1), .val (.long q2), .second, .val (.long q3), .second, .val (.long q4), .second, .val (.long q5), .second, .val (.long q6), .second, .val (.int kk), .val (.int la), .val (.int lb), .val (.long (own_poly kk)), .second, .val (.int (own_wid kk)), .val (.long rp), .second, .val (.long on), .second, .val (.ref cb), .val (.long (own_crc q2 la rp on)), .second, .val (.long (own_crc q3 lb rp on)), .second, .val (.long (own_jn q2 q3 la)), .second, .val (.long (own_crc (own_jn q2 q3 la) (la + lb) rp on)), .second, .val (.int (1 : Int32)), .unset, .unset, .unset, .unset, .unset, .unset, .unset, .unset, .unset, .unset, .unset, .unset, .unset, .unset] [(.long q2)])) _
    refine XS.lload X42.here hx rfl (hb hby at_158) rfl ?_
    show Steps p.tables e below (T42.setTop (mkF m 160 #[.val (.int p1), .val (.long q2), .second, .val (.long q3), .second, .val (.long q4), .second, .val (.long q5), .second, .val (.long q6), .second, .val (.int kk), .val (.int la), .val (.int lb), .val (.long (own_poly kk)), .second, .val (.int (own_wid kk)), .val (.long rp), .second, .val (.long on), .second, .val (.ref cb), .val (.long (own_crc q2 la rp on)), .second, .val (.long (own_crc q3 lb rp on)), .second, .val (.long (own_jn q2 q3 la)), .second, .val (.long (own_crc (own_jn q2 q3 la) (la + lb) rp on)), .second, .val (.int (1 : Int32)), .unset, .unset, .unset, .unset, .unset, .unset, .unset, .unset, .unset, .unset, .unset, .unset, .unset, .unset] [(.long on), (.long q2)])) _
    refine XS.land X42.here hx rfl (hb hby at_160) rfl ?_
    show Steps p.tables e below (T42.setTop (mkF m 161 #[.val (.int p1), .val (.long q2), .second, .val (.long q3), .second, .val (.long q4), .second, .val (.long q5), .second, .val (.long q6), .second, .val (.int kk), .val (.int la), .val (.int lb), .val (.long (own_poly kk)), .second, .val (.int (own_wid kk)), .val (.long rp), .second, .val (.long on), .second, .val (.ref cb), .val (.long (own_crc q2 la rp on)), .second, .val (.long (own_crc q3 lb rp on)), .second, .val (.long (own_jn q2 q3 la)), .second, .val (.long (own_crc (own_jn q2 q3 la) (la + lb) rp on)), .second, .val (.int (1 : Int32)), .unset, .unset, .unset, .unset, .unset, .unset, .unset, .unset, .unset, .unset, .unset, .unset, .unset, .unset] [(.long (q2 &&& on))])) _
    refine XS.lstore X42.here hx rfl (hb hby at_161) rfl (l' := #[.val (.int p1), .val (.long q2), .second, .val (.long q3), .second, .val (.long q4), .second, .val (.long q5), .second, .val (.long q6), .second, .val (.int kk), .val (.int la), .val (.int lb), .val (.long (own_poly kk)), .second, .val (.int (own_wid kk)), .val (.long rp), .second, .val (.long on), .second, .val (.ref cb), .val (.long (own_crc q2 la rp on)), .second, .val (.long (own_crc q3 lb rp on)), .second, .val (.long (own_jn q2 q3 la)), .second, .val (.long (own_crc (own_jn q2 q3 la) (la + lb) rp on)), .second, .val (.int (1 : Int32)), .val (.long (q2 &&& on)), .second, .unset, .unset, .unset, .unset, .unset, .unset, .unset, .unset, .unset, .unset, .unset, .unset]) rfl ?_
    show Steps p.tables e below (T42.setTop (mkF m 163 #[.val (.int p1), .val (.long q2), .second, .val (.long q3), .second, .val (.long q4), .second, .val (.long q5), .second, .val (.long q6), .second, .val (.int kk), .val (.int la), .val (.int lb), .val (.long (own_poly kk)), .second, .val (.int (own_wid kk)), .val (.long rp), .second, .val (.long on), .second, .val (.ref cb), .val (.long (own_crc q2 la rp on)), .second, .val (.long (own_crc q3 lb rp on)), .second, .val (.long (own_jn q2 q3 la)), .second, .val (.long (own_crc (own_jn q2 q3 la) (la + lb) rp on)), .second, .val (.int (1 : Int32)), .val (.long (q2 &&& on)), .second, .unset, .unset, .unset, .unset, .unset, .unset, .unset, .unset, .unset, .unset, .unset, .unset] [])) _
    refine XS.lloadN X42.here hx rfl (hb hby at_163) rfl ?_
    show Steps p.tables e below (T42.setTop (mkF m 164 #[.val (.int p1), .val (.long q2), .second, .val (.long q3), .second, .val (.long q4), .second, .val (.long q5), .second, .val (.long q6), .second, .val (.int kk), .val (.int la), .val (.int lb), .val (.long (own_poly kk)), .second, .val (.int (own_wid kk)), .val (.long rp), .second, .val (.long on), .second, .val (.ref cb), .val (.long (own_crc q2 la rp on)), .second, .val (.long (own_crc q3 lb rp on)), .second, .val (.long (own_jn q2 q3 la)), .second, .val (.long (own_crc (own_jn q2 q3 la) (la + lb) rp on)), .second, .val (.int (1 : Int32)), .val (.long (q2 &&& on)), .second, .unset, .unset, .unset, .unset, .unset, .unset, .unset, .unset, .unset, .unset, .unset, .unset] [(.long q3)])) _
    refine XS.lload X42.here hx rfl (hb hby at_164) rfl ?_
    show Steps p.tables e below (T42.setTop (mkF m 166 #[.val (.int p1), .val (.long q2), .second, .val (.long q3), .second, .val (.long q4), .second, .val (.long q5), .second, .val (.long q6), .second, .val (.int kk), .val (.int la), .val (.int lb), .val (.long (own_poly kk)), .second, .val (.int (own_wid kk)), .val (.long rp), .second, .val (.long on), .second, .val (.ref cb), .val (.long (own_crc q2 la rp on)), .second, .val (.long (own_crc q3 lb rp on)), .second, .val (.long (own_jn q2 q3 la)), .second, .val (.long (own_crc (own_jn q2 q3 la) (la + lb) rp on)), .second, .val (.int (1 : Int32)), .val (.long (q2 &&& on)), .second, .unset, .unset, .unset, .unset, .unset, .unset, .unset, .unset, .unset, .unset, .unset, .unset] [(.long on), (.long q3)])) _
    refine XS.land X42.here hx rfl (hb hby at_166) rfl ?_
    show Steps p.tables e below (T42.setTop (mkF m 167 #[.val (.int p1), .val (.long q2), .second, .val (.long q3), .second, .val (.long q4), .second, .val (.long q5), .second, .val (.long q6), .second, .val (.int kk), .val (.int la), .val (.int lb), .val (.long (own_poly kk)), .second, .val (.int (own_wid kk)), .val (.long rp), .second, .val (.long on), .second, .val (.ref cb), .val (.long (own_crc q2 la rp on)), .second, .val (.long (own_crc q3 lb rp on)), .second, .val (.long (own_jn q2 q3 la)), .second, .val (.long (own_crc (own_jn q2 q3 la) (la + lb) rp on)), .second, .val (.int (1 : Int32)), .val (.long (q2 &&& on)), .second, .unset, .unset, .unset, .unset, .unset, .unset, .unset, .unset, .unset, .unset, .unset, .unset] [(.long (q3 &&& on))])) _
    refine XS.lstore X42.here hx rfl (hb hby at_167) rfl (l' := #[.val (.int p1), .val (.long q2), .second, .val (.long q3), .second, .val (.long q4), .second, .val (.long q5), .second, .val (.long q6), .second, .val (.int kk), .val (.int la), .val (.int lb), .val (.long (own_poly kk)), .second, .val (.int (own_wid kk)), .val (.long rp), .second, .val (.long on), .second, .val (.ref cb), .val (.long (own_crc q2 la rp on)), .second, .val (.long (own_crc q3 lb rp on)), .second, .val (.long (own_jn q2 q3 la)), .second, .val (.long (own_crc (own_jn q2 q3 la) (la + lb) rp on)), .second, .val (.int (1 : Int32)), .val (.long (q2 &&& on)), .second, .val (.long (q3 &&& on)), .second, .unset, .unset, .unset, .unset, .unset, .unset, .unset, .unset, .unset, .unset]) rfl ?_
    show Steps p.tables e below (T42.setTop (mkF m 169 #[.val (.int p1), .val (.long q2), .second, .val (.long q3), .second, .val (.long q4), .second, .val (.long q5), .second, .val (.long q6), .second, .val (.int kk), .val (.int la), .val (.int lb), .val (.long (own_poly kk)), .second, .val (.int (own_wid kk)), .val (.long rp), .second, .val (.long on), .second, .val (.ref cb), .val (.long (own_crc q2 la rp on)), .second, .val (.long (own_crc q3 lb rp on)), .second, .val (.long (own_jn q2 q3 la)), .second, .val (.long (own_crc (own_jn q2 q3 la) (la + lb) rp on)), .second, .val (.int (1 : Int32)), .val (.long (q2 &&& on)), .second, .val (.long (q3 &&& on)), .second, .unset, .unset, .unset, .unset, .unset, .unset, .unset, .unset, .unset, .unset] [])) _
    refine XS.lload X42.here hx rfl (hb hby at_169) rfl ?_
    show Steps p.tables e below (T42.setTop (mkF m 171 #[.val (.int p1), .val (.long q2), .second, .val (.long q3), .second, .val (.long q4), .second, .val (.long q5), .second, .val (.long q6), .second, .val (.int kk), .val (.int la), .val (.int lb), .val (.long (own_poly kk)), .second, .val (.int (own_wid kk)), .val (.long rp), .second, .val (.long on), .second, .val (.ref cb), .val (.long (own_crc q2 la rp on)), .second, .val (.long (own_crc q3 lb rp on)), .second, .val (.long (own_jn q2 q3 la)), .second, .val (.long (own_crc (own_jn q2 q3 la) (la + lb) rp on)), .second, .val (.int (1 : Int32)), .val (.long (q2 &&& on)), .second, .val (.long (q3 &&& on)), .second, .unset, .unset, .unset, .unset, .unset, .unset, .unset, .unset, .unset, .unset] [(.long q4)])) _
    refine XS.lload X42.here hx rfl (hb hby at_171) rfl ?_
    show Steps p.tables e below (T42.setTop (mkF m 173 #[.val (.int p1), .val (.long q2), .second, .val (.long q3), .second, .val (.long q4), .second, .val (.long q5), .second, .val (.long q6), .second, .val (.int kk), .val (.int la), .val (.int lb), .val (.long (own_poly kk)), .second, .val (.int (own_wid kk)), .val (.long rp), .second, .val (.long on), .second, .val (.ref cb), .val (.long (own_crc q2 la rp on)), .second, .val (.long (own_crc q3 lb rp on)), .second, .val (.long (own_jn q2 q3 la)), .second, .val (.long (own_crc (own_jn q2 q3 la) (la + lb) rp on)), .second, .val (.int (1 : Int32)), .val (.long (q2 &&& on)), .second, .val (.long (q3 &&& on)), .second, .unset, .unset, .unset, .unset, .unset, .unset, .unset, .unset, .unset, .unset] [(.long on), (.long q4)])) _
    refine XS.land X42.here hx rfl (hb hby at_173) rfl ?_
    show Steps p.tables e below (T42.setTop (mkF m 174 #[.val (.int p1), .val (.long q2), .second, .val (.long q3), .second, .val (.long q4), .second, .val (.long q5), .second, .val (.long q6), .second, .val (.int kk), .val (.int la), .val (.int lb), .val (.long (own_poly kk)), .second, .val (.int (own_wid kk)), .val (.long rp), .second, .val (.long on), .second, .val (.ref cb), .val (.long (own_crc q2 la rp on)), .second, .val (.long (own_crc q3 lb rp on)), .second, .val (.long (own_jn q2 q3 la)), .second, .val (.long (own_crc (own_jn q2 q3 la) (la + lb) rp on)), .second, .val (.int (1 : Int32)), .val (.long (q2 &&& on)), .second, .val (.long (q3 &&& on)), .second, .unset, .unset, .unset, .unset, .unset, .unset, .unset, .unset, .unset, .unset] [(.long (q4 &&& on))])) _
    refine XS.lstore X42.here hx rfl (hb hby at_174) rfl (l' := #[.val (.int p1), .val (.long q2), .second, .val (.long q3), .second, .val (.long q4), .second, .val (.long q5), .second, .val (.long q6), .second, .val (.int kk), .val (.int la), .val (.int lb), .val (.long (own_poly kk)), .second, .val (.int (own_wid kk)), .val (.long rp), .second, .val (.long on), .second, .val (.ref cb), .val (.long (own_crc q2 la rp on)), .second, .val (.long (own_crc q3 lb rp on)), .second, .val (.long (own_jn q2 q3 la)), .second, .val (.long (own_crc (own_jn q2 q3 la) (la + lb) rp on)), .second, .val (.int (1 : Int32)), .val (.long (q2 &&& on)), .second, .val (.long (q3 &&& on)), .second, .val (.long (q4 &&& on)), .second, .unset, .unset, .unset, .unset, .unset, .unset, .unset, .unset]) rfl ?_
    show Steps p.tables e below (T42.setTop (mkF m 176 #[.val (.int p1), .val (.long q2), .second, .val (.long q3), .second, .val (.long q4), .second, .val (.long q5), .second, .val (.long q6), .second, .val (.int kk), .val (.int la), .val (.int lb), .val (.long (own_poly kk)), .second, .val (.int (own_wid kk)), .val (.long rp), .second, .val (.long on), .second, .val (.ref cb), .val (.long (own_crc q2 la rp on)), .second, .val (.long (own_crc q3 lb rp on)), .second, .val (.long (own_jn q2 q3 la)), .second, .val (.long (own_crc (own_jn q2 q3 la) (la + lb) rp on)), .second, .val (.int (1 : Int32)), .val (.long (q2 &&& on)), .second, .val (.long (q3 &&& on)), .second, .val (.long (q4 &&& on)), .second, .unset, .unset, .unset, .unset, .unset, .unset, .unset, .unset] [])) _
    refine XS.lload X42.here hx rfl (hb hby at_176) rfl ?_
    show Steps p.tables e below (T42.setTop (mkF m 178 #[.val (.int p1), .val (.long q2), .second, .val (.long q3), .second, .val (.long q4), .second, .val (.long q5), .second, .val (.long q6), .second, .val (.int kk), .val (.int la), .val (.int lb), .val (.long (own_poly kk)), .second, .val (.int (own_wid kk)), .val (.long rp), .second, .val (.long on), .second, .val (.ref cb), .val (.long (own_crc q2 la rp on)), .second, .val (.long (own_crc q3 lb rp on)), .second, .val (.long (own_jn q2 q3 la)), .second, .val (.long (own_crc (own_jn q2 q3 la) (la + lb) rp on)), .second, .val (.int (1 : Int32)), .val (.long (q2 &&& on)), .second, .val (.long (q3 &&& on)), .second, .val (.long (q4 &&& on)), .second, .unset, .unset, .unset, .unset, .unset, .unset, .unset, .unset] [(.long q5)])) _
    refine X42.ldc2Long hx hown (mvT hZ (hw _ (List.mem_of_getElem? (i := 61) rfl))) (g := (mkF m 178 #[.val (.int p1), .val (.long q2), .second, .val (.long q3), .second, .val (.long q4), .second, .val (.long q5), .second, .val (.long q6), .second, .val (.int kk), .val (.int la), .val (.int lb), .val (.long (own_poly kk)), .second, .val (.int (own_wid kk)), .val (.long rp), .second, .val (.long on), .second, .val (.ref cb), .val (.long (own_crc q2 la rp on)), .second, .val (.long (own_crc q3 lb rp on)), .second, .val (.long (own_jn q2 q3 la)), .second, .val (.long (own_crc (own_jn q2 q3 la) (la + lb) rp on)), .second, .val (.int (1 : Int32)), .val (.long (q2 &&& on)), .second, .val (.long (q3 &&& on)), .second, .val (.long (q4 &&& on)), .second, .unset, .unset, .unset, .unset, .unset, .unset, .unset, .unset] [(.long q5)])) rfl (hb hby at_178) _ ?_
    show Steps p.tables e below (T42.setTop (mkF m 181 #[.val (.int p1), .val (.long q2), .second, .val (.long q3), .second, .val (.long q4), .second, .val (.long q5), .second, .val (.long q6), .second, .val (.int kk), .val (.int la), .val (.int lb), .val (.long (own_poly kk)), .second, .val (.int (own_wid kk)), .val (.long rp), .second, .val (.long on), .second, .val (.ref cb), .val (.long (own_crc q2 la rp on)), .second, .val (.long (own_crc q3 lb rp on)), .second, .val (.long (own_jn q2 q3 la)), .second, .val (.long (own_crc (own_jn q2 q3 la) (la + lb) rp on)), .second, .val (.int (1 : Int32)), .val (.long (q2 &&& on)), .second, .val (.long (q3 &&& on)), .second, .val (.long (q4 &&& on)), .second, .unset, .unset, .unset, .unset, .unset, .unset, .unset, .unset] [(.long (288230376151711743 : Int64)), (.long q5)])) _
    refine XS.land X42.here hx rfl (hb hby at_181) rfl ?_
    show Steps p.tables e below (T42.setTop (mkF m 182 #[.val (.int p1), .val (.long q2), .second, .val (.long q3), .second, .val (.long q4), .second, .val (.long q5), .second, .val (.long q6), .second, .val (.int kk), .val (.int la), .val (.int lb), .val (.long (own_poly kk)), .second, .val (.int (own_wid kk)), .val (.long rp), .second, .val (.long on), .second, .val (.ref cb), .val (.long (own_crc q2 la rp on)), .second, .val (.long (own_crc q3 lb rp on)), .second, .val (.long (own_jn q2 q3 la)), .second, .val (.long (own_crc (own_jn q2 q3 la) (la + lb) rp on)), .second, .val (.int (1 : Int32)), .val (.long (q2 &&& on)), .second, .val (.long (q3 &&& on)), .second, .val (.long (q4 &&& on)), .second, .unset, .unset, .unset, .unset, .unset, .unset, .unset, .unset] [(.long (q5 &&& (288230376151711743 : Int64)))])) _
    refine XS.lstore X42.here hx rfl (hb hby at_182) rfl (l' := #[.val (.int p1), .val (.long q2), .second, .val (.long q3), .second, .val (.long q4), .second, .val (.long q5), .second, .val (.long q6), .second, .val (.int kk), .val (.int la), .val (.int lb), .val (.long (own_poly kk)), .second, .val (.int (own_wid kk)), .val (.long rp), .second, .val (.long on), .second, .val (.ref cb), .val (.long (own_crc q2 la rp on)), .second, .val (.long (own_crc q3 lb rp on)), .second, .val (.long (own_jn q2 q3 la)), .second, .val (.long (own_crc (own_jn q2 q3 la) (la + lb) rp on)), .second, .val (.int (1 : Int32)), .val (.long (q2 &&& on)), .second, .val (.long (q3 &&& on)), .second, .val (.long (q4 &&& on)), .second, .val (.long (q5 &&& (288230376151711743 : Int64))), .second, .unset, .unset, .unset, .unset, .unset, .unset]) rfl ?_
    show Steps p.tables e below (T42.setTop (mkF m 184 #[.val (.int p1), .val (.long q2), .second, .val (.long q3), .second, .val (.long q4), .second, .val (.long q5), .second, .val (.long q6), .second, .val (.int kk), .val (.int la), .val (.int lb), .val (.long (own_poly kk)), .second, .val (.int (own_wid kk)), .val (.long rp), .second, .val (.long on), .second, .val (.ref cb), .val (.long (own_crc q2 la rp on)), .second, .val (.long (own_crc q3 lb rp on)), .second, .val (.long (own_jn q2 q3 la)), .second, .val (.long (own_crc (own_jn q2 q3 la) (la + lb) rp on)), .second, .val (.int (1 : Int32)), .val (.long (q2 &&& on)), .second, .val (.long (q3 &&& on)), .second, .val (.long (q4 &&& on)), .second, .val (.long (q5 &&& (288230376151711743 : Int64))), .second, .unset, .unset, .unset, .unset, .unset, .unset] [])) _
    refine XS.lload X42.here hx rfl (hb hby at_184) rfl ?_
    show Steps p.tables e below (T42.setTop (mkF m 186 #[.val (.int p1), .val (.long q2), .second, .val (.long q3), .second, .val (.long q4), .second, .val (.long q5), .second, .val (.long q6), .second, .val (.int kk), .val (.int la), .val (.int lb), .val (.long (own_poly kk)), .second, .val (.int (own_wid kk)), .val (.long rp), .second, .val (.long on), .second, .val (.ref cb), .val (.long (own_crc q2 la rp on)), .second, .val (.long (own_crc q3 lb rp on)), .second, .val (.long (own_jn q2 q3 la)), .second, .val (.long (own_crc (own_jn q2 q3 la) (la + lb) rp on)), .second, .val (.int (1 : Int32)), .val (.long (q2 &&& on)), .second, .val (.long (q3 &&& on)), .second, .val (.long (q4 &&& on)), .second, .val (.long (q5 &&& (288230376151711743 : Int64))), .second, .unset, .unset, .unset, .unset, .unset, .unset] [(.long q6)])) _
    refine X42.ldc2Long hx hown (mvT hZ (hw _ (List.mem_of_getElem? (i := 61) rfl))) (g := (mkF m 186 #[.val (.int p1), .val (.long q2), .second, .val (.long q3), .second, .val (.long q4), .second, .val (.long q5), .second, .val (.long q6), .second, .val (.int kk), .val (.int la), .val (.int lb), .val (.long (own_poly kk)), .second, .val (.int (own_wid kk)), .val (.long rp), .second, .val (.long on), .second, .val (.ref cb), .val (.long (own_crc q2 la rp on)), .second, .val (.long (own_crc q3 lb rp on)), .second, .val (.long (own_jn q2 q3 la)), .second, .val (.long (own_crc (own_jn q2 q3 la) (la + lb) rp on)), .second, .val (.int (1 : Int32)), .val (.long (q2 &&& on)), .second, .val (.long (q3 &&& on)), .second, .val (.long (q4 &&& on)), .second, .val (.long (q5 &&& (288230376151711743 : Int64))), .second, .unset, .unset, .unset, .unset, .unset, .unset] [(.long q6)])) rfl (hb hby at_186) _ ?_
    show Steps p.tables e below (T42.setTop (mkF m 189 #[.val (.int p1), .val (.long q2), .second, .val (.long q3), .second, .val (.long q4), .second, .val (.long q5), .second, .val (.long q6), .second, .val (.int kk), .val (.int la), .val (.int lb), .val (.long (own_poly kk)), .second, .val (.int (own_wid kk)), .val (.long rp), .second, .val (.long on), .second, .val (.ref cb), .val (.long (own_crc q2 la rp on)), .second, .val (.long (own_crc q3 lb rp on)), .second, .val (.long (own_jn q2 q3 la)), .second, .val (.long (own_crc (own_jn q2 q3 la) (la + lb) rp on)), .second, .val (.int (1 : Int32)), .val (.long (q2 &&& on)), .second, .val (.long (q3 &&& on)), .second, .val (.long (q4 &&& on)), .second, .val (.long (q5 &&& (288230376151711743 : Int64))), .second, .unset, .unset, .unset, .unset, .unset, .unset] [(.long (288230376151711743 : Int64)), (.long q6)])) _
    refine XS.land X42.here hx rfl (hb hby at_189) rfl ?_
    show Steps p.tables e below (T42.setTop (mkF m 190 #[.val (.int p1), .val (.long q2), .second, .val (.long q3), .second, .val (.long q4), .second, .val (.long q5), .second, .val (.long q6), .second, .val (.int kk), .val (.int la), .val (.int lb), .val (.long (own_poly kk)), .second, .val (.int (own_wid kk)), .val (.long rp), .second, .val (.long on), .second, .val (.ref cb), .val (.long (own_crc q2 la rp on)), .second, .val (.long (own_crc q3 lb rp on)), .second, .val (.long (own_jn q2 q3 la)), .second, .val (.long (own_crc (own_jn q2 q3 la) (la + lb) rp on)), .second, .val (.int (1 : Int32)), .val (.long (q2 &&& on)), .second, .val (.long (q3 &&& on)), .second, .val (.long (q4 &&& on)), .second, .val (.long (q5 &&& (288230376151711743 : Int64))), .second, .unset, .unset, .unset, .unset, .unset, .unset] [(.long (q6 &&& (288230376151711743 : Int64)))])) _
    refine XS.lstore X42.here hx rfl (hb hby at_190) rfl (l' := #[.val (.int p1), .val (.long q2), .second, .val (.long q3), .second, .val (.long q4), .second, .val (.long q5), .second, .val (.long q6), .second, .val (.int kk), .val (.int la), .val (.int lb), .val (.long (own_poly kk)), .second, .val (.int (own_wid kk)), .val (.long rp), .second, .val (.long on), .second, .val (.ref cb), .val (.long (own_crc q2 la rp on)), .second, .val (.long (own_crc q3 lb rp on)), .second, .val (.long (own_jn q2 q3 la)), .second, .val (.long (own_crc (own_jn q2 q3 la) (la + lb) rp on)), .second, .val (.int (1 : Int32)), .val (.long (q2 &&& on)), .second, .val (.long (q3 &&& on)), .second, .val (.long (q4 &&& on)), .second, .val (.long (q5 &&& (288230376151711743 : Int64))), .second, .val (.long (q6 &&& (288230376151711743 : Int64))), .second, .unset, .unset, .unset, .unset]) rfl ?_
    show Steps p.tables e below (T42.setTop (mkF m 192 #[.val (.int p1), .val (.long q2), .second, .val (.long q3), .second, .val (.long q4), .second, .val (.long q5), .second, .val (.long q6), .second, .val (.int kk), .val (.int la), .val (.int lb), .val (.long (own_poly kk)), .second, .val (.int (own_wid kk)), .val (.long rp), .second, .val (.long on), .second, .val (.ref cb), .val (.long (own_crc q2 la rp on)), .second, .val (.long (own_crc q3 lb rp on)), .second, .val (.long (own_jn q2 q3 la)), .second, .val (.long (own_crc (own_jn q2 q3 la) (la + lb) rp on)), .second, .val (.int (1 : Int32)), .val (.long (q2 &&& on)), .second, .val (.long (q3 &&& on)), .second, .val (.long (q4 &&& on)), .second, .val (.long (q5 &&& (288230376151711743 : Int64))), .second, .val (.long (q6 &&& (288230376151711743 : Int64))), .second, .unset, .unset, .unset, .unset] [])) _
    refine XS.aload X42.here hx rfl (hb hby at_192) rfl rfl ?_
    show Steps p.tables e below (T42.setTop (mkF m 194 #[.val (.int p1), .val (.long q2), .second, .val (.long q3), .second, .val (.long q4), .second, .val (.long q5), .second, .val (.long q6), .second, .val (.int kk), .val (.int la), .val (.int lb), .val (.long (own_poly kk)), .second, .val (.int (own_wid kk)), .val (.long rp), .second, .val (.long on), .second, .val (.ref cb), .val (.long (own_crc q2 la rp on)), .second, .val (.long (own_crc q3 lb rp on)), .second, .val (.long (own_jn q2 q3 la)), .second, .val (.long (own_crc (own_jn q2 q3 la) (la + lb) rp on)), .second, .val (.int (1 : Int32)), .val (.long (q2 &&& on)), .second, .val (.long (q3 &&& on)), .second, .val (.long (q4 &&& on)), .second, .val (.long (q5 &&& (288230376151711743 : Int64))), .second, .val (.long (q6 &&& (288230376151711743 : Int64))), .second, .unset, .unset, .unset, .unset] [(.ref cb)])) _
    refine XS.aload X42.here hx rfl (hb hby at_194) rfl rfl ?_
    show Steps p.tables e below (T42.setTop (mkF m 196 #[.val (.int p1), .val (.long q2), .second, .val (.long q3), .second, .val (.long q4), .second, .val (.long q5), .second, .val (.long q6), .second, .val (.int kk), .val (.int la), .val (.int lb), .val (.long (own_poly kk)), .second, .val (.int (own_wid kk)), .val (.long rp), .second, .val (.long on), .second, .val (.ref cb), .val (.long (own_crc q2 la rp on)), .second, .val (.long (own_crc q3 lb rp on)), .second, .val (.long (own_jn q2 q3 la)), .second, .val (.long (own_crc (own_jn q2 q3 la) (la + lb) rp on)), .second, .val (.int (1 : Int32)), .val (.long (q2 &&& on)), .second, .val (.long (q3 &&& on)), .second, .val (.long (q4 &&& on)), .second, .val (.long (q5 &&& (288230376151711743 : Int64))), .second, .val (.long (q6 &&& (288230376151711743 : Int64))), .second, .unset, .unset, .unset, .unset] [(.ref cb), (.ref cb)])) _
    refine XS.lload X42.here hx rfl (hb hby at_196) rfl ?_
    show Steps p.tables e below (T42.setTop (mkF m 198 #[.val (.int p1), .val (.long q2), .second, .val (.long q3), .second, .val (.long q4), .second, .val (.long q5), .second, .val (.long q6), .second, .val (.int kk), .val (.int la), .val (.int lb), .val (.long (own_poly kk)), .second, .val (.int (own_wid kk)), .val (.long rp), .second, .val (.long on), .second, .val (.ref cb), .val (.long (own_crc q2 la rp on)), .second, .val (.long (own_crc q3 lb rp on)), .second, .val (.long (own_jn q2 q3 la)), .second, .val (.long (own_crc (own_jn q2 q3 la) (la + lb) rp on)), .second, .val (.int (1 : Int32)), .val (.long (q2 &&& on)), .second, .val (.long (q3 &&& on)), .second, .val (.long (q4 &&& on)), .second, .val (.long (q5 &&& (288230376151711743 : Int64))), .second, .val (.long (q6 &&& (288230376151711743 : Int64))), .second, .unset, .unset, .unset, .unset] [(.long (q2 &&& on)), (.ref cb), (.ref cb)])) _
    refine XS.lload X42.here hx rfl (hb hby at_198) rfl ?_
    show Steps p.tables e below (T42.setTop (mkF m 200 #[.val (.int p1), .val (.long q2), .second, .val (.long q3), .second, .val (.long q4), .second, .val (.long q5), .second, .val (.long q6), .second, .val (.int kk), .val (.int la), .val (.int lb), .val (.long (own_poly kk)), .second, .val (.int (own_wid kk)), .val (.long rp), .second, .val (.long on), .second, .val (.ref cb), .val (.long (own_crc q2 la rp on)), .second, .val (.long (own_crc q3 lb rp on)), .second, .val (.long (own_jn q2 q3 la)), .second, .val (.long (own_crc (own_jn q2 q3 la) (la + lb) rp on)), .second, .val (.int (1 : Int32)), .val (.long (q2 &&& on)), .second, .val (.long (q3 &&& on)), .second, .val (.long (q4 &&& on)), .second, .val (.long (q5 &&& (288230376151711743 : Int64))), .second, .val (.long (q6 &&& (288230376151711743 : Int64))), .second, .unset, .unset, .unset, .unset] [(.long (q3 &&& on)), (.long (q2 &&& on)), (.ref cb), (.ref cb)])) _
    refine XS.lload X42.here hx rfl (hb hby at_200) rfl ?_
    exact kS
  obtain ⟨cq43, kq43, q43a, q43b, q43c⟩ := isOf hZ hH42 Ea
  obtain ⟨_, _, ⟨T43, L43, k43, n43⟩, -, X43, ⟨Lc43, hQ43, l43, y43, z43⟩, st43⟩ := X42.virtualBack hx (y := (⟨"com/example/latchkey/latchkey/server/gateway/CrcCombination", "combine", "(JJJ)J"⟩ : MethodName)) (z := (⟨"com/example/latchkey/latchkey/server/gateway/CrcCombination", "combine", "(JJJ)J"⟩ : MethodName)) hown (mvT hZ (hw _ (List.mem_of_getElem? (i := 43) rfl))) (mvT hZ (hw _ (List.mem_of_getElem? (i := 44) rfl))) (notFace_of_selects (args := #[]) (mvT hZ (hw _ (List.mem_of_getElem? (i := 46) rfl)))) (mvT hZ (hw _ (List.mem_of_getElem? (i := 46) rfl))) (mvT hZ (hw _ (List.mem_of_getElem? (i := 45) rfl))) (by decide) (backOf (W := 1) (rm10 l Z a0 hw [] cb (q2 &&& on) (q3 &&& on) (q5 &&& (288230376151711743 : Int64)) rp w T37.heap n0 ZZ Ea Fp Fo h64) hZ (hw _ (List.mem_of_getElem? (i := 47) rfl)) (hw _ (List.mem_of_getElem? (i := 14) rfl)) (by decide) (by decide)) q43a q43c (g := (mkF m 202 #[.val (.int p1), .val (.long q2), .second, .val (.long q3), .second, .val (.long q4), .second, .val (.long q5), .second, .val (.long q6), .second, .val (.int kk), .val (.int la), .val (.int lb), .val (.long (own_poly kk)), .second, .val (.int (own_wid kk)), .val (.long rp), .second, .val (.long on), .second, .val (.ref cb), .val (.long (own_crc q2 la rp on)), .second, .val (.long (own_crc q3 lb rp on)), .second, .val (.long (own_jn q2 q3 la)), .second, .val (.long (own_crc (own_jn q2 q3 la) (la + lb) rp on)), .second, .val (.int (1 : Int32)), .val (.long (q2 &&& on)), .second, .val (.long (q3 &&& on)), .second, .val (.long (q4 &&& on)), .second, .val (.long (q5 &&& (288230376151711743 : Int64))), .second, .val (.long (q6 &&& (288230376151711743 : Int64))), .second, .unset, .unset, .unset, .unset] [(.long (q5 &&& (288230376151711743 : Int64))), (.long (q3 &&& on)), (.long (q2 &&& on)), (.ref cb), (.ref cb)])) rfl (by rw [hml]; rfl) (Steps.refl _) (argsL := [(.long (q2 &&& on)), (.long (q3 &&& on)), (.long (q5 &&& (288230376151711743 : Int64)))]) (rest := [(.ref cb)]) (lenOf pd_0 rfl) rfl (by show 2 * 0 + _ ≤ _; exact Nat.le_of_eq rfl) (hb hby at_202) (fun _ _ => ⟨rfl, hH42, (by decide : 1 + 0 ≤ _), (by decide : 2 + 0 ≤ _)⟩)
  dsimp only [Pt.U, Pt.locs, Pt.cells, Pt.slots] at X43 l43 y43 z43 st43 hQ43
  subst l43 y43 z43
  obtain ⟨rfl, N43q, hH43⟩ := hQ43
  have N43 := Fr.app N42 N43q
  obtain ⟨lo43, X43, N43⟩ := own_pack X43 N43
  replace X43 : Stand p l e _ s m _ below meth c T43 _ 1 2 := X43
  refine own_adv (B := (T43.setTop (mkF m 205 #[.val (.int p1), .val (.long q2), .second, .val (.long q3), .second, .val (.long q4), .second, .val (.long q5), .second, .val (.long q6), .second, .val (.int kk), .val (.int la), .val (.int lb), .val (.long (own_poly kk)), .second, .val (.int (own_wid kk)), .val (.long rp), .second, .val (.long on), .second, .val (.ref cb), .val (.long (own_crc q2 la rp on)), .second, .val (.long (own_crc q3 lb rp on)), .second, .val (.long (own_jn q2 q3 la)), .second, .val (.long (own_crc (own_jn q2 q3 la) (la + lb) rp on)), .second, .val (.int (1 : Int32)), .val (.long (q2 &&& on)), .second, .val (.long (q3 &&& on)), .second, .val (.long (q4 &&& on)), .second, .val (.long (q5 &&& (288230376151711743 : Int64))), .second, .val (.long (q6 &&& (288230376151711743 : Int64))), .second, .unset, .unset, .unset, .unset] [(.long (own_Comb rp w (q2 &&& on) (q3 &&& on) (q5 &&& (288230376151711743 : Int64)))), (.ref cb)]))) (fun t kS => st43.trans kS) ?_
  refine own_adv (B := (T43.setTop (mkF m 209 #[.val (.int p1), .val (.long q2), .second, .val (.long q3), .second, .val (.long q4), .second, .val (.long q5), .second, .val (.long q6), .second, .val (.int kk), .val (.int la), .val (.int lb), .val (.long (own_poly kk)), .second, .val (.int (own_wid kk)), .val (.long rp), .second, .val (.long on), .second, .val (.ref cb), .val (.long (own_crc q2 la rp on)), .second, .val (.long (own_crc q3 lb rp on)), .second, .val (.long (own_jn q2 q3 la)), .second, .val (.long (own_crc (own_jn q2 q3 la) (la + lb) rp on)), .second, .val (.int (1 : Int32)), .val (.long (q2 &&& on)), .second, .val (.long (q3 &&& on)), .second, .val (.long (q4 &&& on)), .second, .val (.long (q5 &&& (288230376151711743 : Int64))), .second, .val (.long (q6 &&& (288230376151711743 : Int64))), .second, .unset, .unset, .unset, .unset] [(.long (q6 &&& (288230376151711743 : Int64))), (.long (q4 &&& on)), (.long (own_Comb rp w (q2 &&& on) (q3 &&& on) (q5 &&& (288230376151711743 : Int64)))), (.ref cb)]))) (fun t kS => ?_) ?_
  · show Steps p.tables e below (T43.setTop (mkF m 205 #[.val (.int p1), .val (.long q2), .second, .val (.long q3), .second, .val (.long q4), .second, .val (.long q5), .second, .val (.long q6), .second, .val (.int kk), .val (.int la), .val (.int lb), .val (.long (own_poly kk)), .second, .val (.int (own_wid kk)), .val (.long rp), .second, .val (.long on), .second, .val (.ref cb), .val (.long (own_crc q2 la rp on)), .second, .val (.long (own_crc q3 lb rp on)), .second, .val (.long (own_jn q2 q3 la)), .second, .val (.long (own_crc (own_jn q2 q3 la) (la + lb) rp on)), .second, .val (.int (1 : Int32)), .val (.long (q2 &&& on)), .second, .val (.long (q3 &&& on)), .second, .val (.long (q4 &&& on)), .second, .val (.long (q5 &&& (288230376151711743 : Int64))), .second, .val (.long (q6 &&& (288230376151711743 : Int64))), .second, .unset, .unset, .unset, .unset] [(.long (own_Comb rp w (q2 &&& on) (q3 &&& on) (q5 &&& (288230376151711743 : Int64)))), (.ref cb)])) _
    refine XS.lload X43.here hx rfl (hb hby at_205) rfl ?_
    show Steps p.tables e below (T43.setTop (mkF m 207 #[.val (.int p1), .val (.long q2), .second, .val (.long q3), .second, .val (.long q4), .second, .val (.long q5), .second, .val (.long q6), .second, .val (.int kk), .val (.int la), .val (.int lb), .val (.long (own_poly kk)), .second, .val (.int (own_wid kk)), .val (.long rp), .second, .val (.long on), .second, .val (.ref cb), .val (.long (own_crc q2 la rp on)), .second, .val (.long (own_crc q3 lb rp on)), .second, .val (.long (own_jn q2 q3 la)), .second, .val (.long (own_crc (own_jn q2 q3 la) (la + lb) rp on)), .second, .val (.int (1 : Int32)), .val (.long (q2 &&& on)), .second, .val (.long (q3 &&& on)), .second, .val (.long (q4 &&& on)), .second, .val (.long (q5 &&& (288230376151711743 : Int64))), .second, .val (.long (q6 &&& (288230376151711743 : Int64))), .second, .unset, .unset, .unset, .unset] [(.long (q4 &&& on)), (.long (own_Comb rp w (q2 &&& on) (q3 &&& on) (q5 &&& (288230376151711743 : Int64)))), (.ref cb)])) _
    refine XS.lload X43.here hx rfl (hb hby at_207) rfl ?_
    exact kS
  obtain ⟨cq44, kq44, q44a, q44b, q44c⟩ := isOf hZ hH43 Ea
  obtain ⟨_, _, ⟨T44, L44, k44, n44⟩, -, X44, ⟨Lc44, hQ44, l44, y44, z44⟩, st44⟩ := X43.virtualBack hx (y := (⟨"com/example/latchkey/latchkey/server/gateway/CrcCombination", "combine", "(JJJ)J"⟩ : MethodName)) (z := (⟨"com/example/latchkey/latchkey/server/gateway/CrcCombination", "combine", "(JJJ)J"⟩ : MethodName)) hown (mvT hZ (hw _ (List.mem_of_getElem? (i := 43) rfl))) (mvT hZ (hw _ (List.mem_of_getElem? (i := 44) rfl))) (notFace_of_selects (args := #[]) (mvT hZ (hw _ (List.mem_of_getElem? (i := 46) rfl)))) (mvT hZ (hw _ (List.mem_of_getElem? (i := 46) rfl))) (mvT hZ (hw _ (List.mem_of_getElem? (i := 45) rfl))) (by decide) (backOf (W := 0) (rm10 l Z a0 hw [] cb (own_Comb rp w (q2 &&& on) (q3 &&& on) (q5 &&& (288230376151711743 : Int64))) (q4 &&& on) (q6 &&& (288230376151711743 : Int64)) rp w T37.heap n0 ZZ Ea Fp Fo h64) hZ (hw _ (List.mem_of_getElem? (i := 47) rfl)) (hw _ (List.mem_of_getElem? (i := 14) rfl)) (by decide) (by decide)) q44a q44c (g := (mkF m 209 #[.val (.int p1), .val (.long q2), .second, .val (.long q3), .second, .val (.long q4), .second, .val (.long q5), .second, .val (.long q6), .second, .val (.int kk), .val (.int la), .val (.int lb), .val (.long (own_poly kk)), .second, .val (.int (own_wid kk)), .val (.long rp), .second, .val (.long on), .second, .val (.ref cb), .val (.long (own_crc q2 la rp on)), .second, .val (.long (own_crc q3 lb rp on)), .second, .val (.long (own_jn q2 q3 la)), .second, .val (.long (own_crc (own_jn q2 q3 la) (la + lb) rp on)), .second, .val (.int (1 : Int32)), .val (.long (q2 &&& on)), .second, .val (.long (q3 &&& on)), .second, .val (.long (q4 &&& on)), .second, .val (.long (q5 &&& (288230376151711743 : Int64))), .second, .val (.long (q6 &&& (288230376151711743 : Int64))), .second, .unset, .unset, .unset, .unset] [(.long (q6 &&& (288230376151711743 : Int64))), (.long (q4 &&& on)), (.long (own_Comb rp w (q2 &&& on) (q3 &&& on) (q5 &&& (288230376151711743 : Int64)))), (.ref cb)])) rfl (by rw [hml]; rfl) (Steps.refl _) (argsL := [(.long (own_Comb rp w (q2 &&& on) (q3 &&& on) (q5 &&& (288230376151711743 : Int64)))), (.long (q4 &&& on)), (.long (q6 &&& (288230376151711743 : Int64)))]) (rest := []) (lenOf pd_0 rfl) rfl (by show 2 * 0 + _ ≤ _; exact Nat.le_of_eq rfl) (hb hby at_209) (fun _ _ => ⟨rfl, hH43, (by decide : 1 + 0 ≤ _), (by decide : 2 + 0 ≤ _)⟩)
  dsimp only [Pt.U, Pt.locs, Pt.cells, Pt.slots] at X44 l44 y44 z44 st44 hQ44
  subst l44 y44 z44
  obtain ⟨rfl, N44q, hH44⟩ := hQ44
  have N44 := Fr.app N43 N44q
  obtain ⟨lo44, X44, N44⟩ := own_pack X44 N44
  replace X44 : Stand p l e _ s m _ below meth c T44 _ 1 2 := X44
  refine own_adv (B := (T44.setTop (mkF m 212 #[.val (.int p1), .val (.long q2), .second, .val (.long q3), .second, .val (.long q4), .second, .val (.long q5), .second, .val (.long q6), .second, .val (.int kk), .val (.int la), .val (.int lb), .val (.long (own_poly kk)), .second, .val (.int (own_wid kk)), .val (.long rp), .second, .val (.long on), .second, .val (.ref cb), .val (.long (own_crc q2 la rp on)), .second, .val (.long (own_crc q3 lb rp on)), .second, .val (.long (own_jn q2 q3 la)), .second, .val (.long (own_crc (own_jn q2 q3 la) (la + lb) rp on)), .second, .val (.int (1 : Int32)), .val (.long (q2 &&& on)), .second, .val (.long (q3 &&& on)), .second, .val (.long (q4 &&& on)), .second, .val (.long (q5 &&& (288230376151711743 : Int64))), .second, .val (.long (q6 &&& (288230376151711743 : Int64))), .second, .unset, .unset, .unset, .unset] [(.long (own_Comb rp w (own_Comb rp w (q2 &&& on) (q3 &&& on) (q5 &&& (288230376151711743 : Int64))) (q4 &&& on) (q6 &&& (288230376151711743 : Int64))))]))) (fun t kS => st44.trans kS) ?_
  refine own_adv (B := (T44.setTop (mkF m 226 #[.val (.int p1), .val (.long q2), .second, .val (.long q3), .second, .val (.long q4), .second, .val (.long q5), .second, .val (.long q6), .second, .val (.int kk), .val (.int la), .val (.int lb), .val (.long (own_poly kk)), .second, .val (.int (own_wid kk)), .val (.long rp), .second, .val (.long on), .second, .val (.ref cb), .val (.long (own_crc q2 la rp on)), .second, .val (.long (own_crc q3 lb rp on)), .second, .val (.long (own_jn q2 q3 la)), .second, .val (.long (own_crc (own_jn q2 q3 la) (la + lb) rp on)), .second, .val (.int (1 : Int32)), .val (.long (q2 &&& on)), .second, .val (.long (q3 &&& on)), .second, .val (.long (q4 &&& on)), .second, .val (.long (q5 &&& (288230376151711743 : Int64))), .second, .val (.long (q6 &&& (288230376151711743 : Int64))), .second, .val (.long (own_Comb rp w (own_Comb rp w (q2 &&& on) (q3 &&& on) (q5 &&& (288230376151711743 : Int64))) (q4 &&& on) (q6 &&& (288230376151711743 : Int64)))), .second, .unset, .unset] [(.long (q6 &&& (288230376151711743 : Int64))), (.long (q4 &&& on)), (.long (q3 &&& on)), (.ref cb), (.long (q2 &&& on)), (.ref cb)]))) (fun t kS => ?_) ?_
  · show Steps p.tables e below (T44.setTop (mkF m 212 #[.val (.int p1), .val (.long q2), .second, .val (.long q3), .second, .val (.long q4), .second, .val (.long q5), .second, .val (.long q6), .second, .val (.int kk), .val (.int la), .val (.int lb), .val (.long (own_poly kk)), .second, .val (.int (own_wid kk)), .val (.long rp), .second, .val (.long on), .second, .val (.ref cb), .val (.long (own_crc q2 la rp on)), .second, .val (.long (own_crc q3 lb rp on)), .second, .val (.long (own_jn q2 q3 la)), .second, .val (.long (own_crc (own_jn q2 q3 la) (la + lb) rp on)), .second, .val (.int (1 : Int32)), .val (.long (q2 &&& on)), .second, .val (.long (q3 &&& on)), .second, .val (.long (q4 &&& on)), .second, .val (.long (q5 &&& (288230376151711743 : Int64))), .second, .val (.long (q6 &&& (288230376151711743 : Int64))), .second, .unset, .unset, .unset, .unset] [(.long (own_Comb rp w (own_Comb rp w (q2 &&& on) (q3 &&& on) (q5 &&& (288230376151711743 : Int64))) (q4 &&& on) (q6 &&& (288230376151711743 : Int64))))])) _
    refine XS.lstore X44.here hx rfl (hb hby at_212) rfl (l' := #[.val (.int p1), .val (.long q2), .second, .val (.long q3), .second, .val (.long q4), .second, .val (.long q5), .second, .val (.long q6), .second, .val (.int kk), .val (.int la), .val (.int lb), .val (.long (own_poly kk)), .second, .val (.int (own_wid kk)), .val (.long rp), .second, .val (.long on), .second, .val (.ref cb), .val (.long (own_crc q2 la rp on)), .second, .val (.long (own_crc q3 lb rp on)), .second, .val (.long (own_jn q2 q3 la)), .second, .val (.long (own_crc (own_jn q2 q3 la) (la + lb) rp on)), .second, .val (.int (1 : Int32)), .val (.long (q2 &&& on)), .second, .val (.long (q3 &&& on)), .second, .val (.long (q4 &&& on)), .second, .val (.long (q5 &&& (288230376151711743 : Int64))), .second, .val (.long (q6 &&& (288230376151711743 : Int64))), .second, .val (.long (own_Comb rp w (own_Comb rp w (q2 &&& on) (q3 &&& on) (q5 &&& (288230376151711743 : Int64))) (q4 &&& on) (q6 &&& (288230376151711743 : Int64)))), .second, .unset, .unset]) rfl ?_
    show Steps p.tables e below (T44.setTop (mkF m 214 #[.val (.int p1), .val (.long q2), .second, .val (.long q3), .second, .val (.long q4), .second, .val (.long q5), .second, .val (.long q6), .second, .val (.int kk), .val (.int la), .val (.int lb), .val (.long (own_poly kk)), .second, .val (.int (own_wid kk)), .val (.long rp), .second, .val (.long on), .second, .val (.ref cb), .val (.long (own_crc q2 la rp on)), .second, .val (.long (own_crc q3 lb rp on)), .second, .val (.long (own_jn q2 q3 la)), .second, .val (.long (own_crc (own_jn q2 q3 la) (la + lb) rp on)), .second, .val (.int (1 : Int32)), .val (.long (q2 &&& on)), .second, .val (.long (q3 &&& on)), .second, .val (.long (q4 &&& on)), .second, .val (.long (q5 &&& (288230376151711743 : Int64))), .second, .val (.long (q6 &&& (288230376151711743 : Int64))), .second, .val (.long (own_Comb rp w (own_Comb rp w (q2 &&& on) (q3 &&& on) (q5 &&& (288230376151711743 : Int64))) (q4 &&& on) (q6 &&& (288230376151711743 : Int64)))), .second, .unset, .unset] [])) _
    refine XS.aload X44.here hx rfl (hb hby at_214) rfl rfl ?_
    show Steps p.tables e below (T44.setTop (mkF m 216 #[.val (.int p1), .val (.long q2), .second, .val (.long q3), .second, .val (.long q4), .second, .val (.long q5), .second, .val (.long q6), .second, .val (.int kk), .val (.int la), .val (.int lb), .val (.long (own_poly kk)), .second, .val (.int (own_wid kk)), .val (.long rp), .second, .val (.long on), .second, .val (.ref cb), .val (.long (own_crc q2 la rp on)), .second, .val (.long (own_crc q3 lb rp on)), .second, .val (.long (own_jn q2 q3 la)), .second, .val (.long (own_crc (own_jn q2 q3 la) (la + lb) rp on)), .second, .val (.int (1 : Int32)), .val (.long (q2 &&& on)), .second, .val (.long (q3 &&& on)), .second, .val (.long (q4 &&& on)), .second, .val (.long (q5 &&& (288230376151711743 : Int64))), .second, .val (.long (q6 &&& (288230376151711743 : Int64))), .second, .val (.long (own_Comb rp w (own_Comb rp w (q2 &&& on) (q3 &&& on) (q5 &&& (288230376151711743 : Int64))) (q4 &&& on) (q6 &&& (288230376151711743 : Int64)))), .second, .unset, .unset] [(.ref cb)])) _
    refine XS.lload X44.here hx rfl (hb hby at_216) rfl ?_
    show Steps p.tables e below (T44.setTop (mkF m 218 #[.val (.int p1), .val (.long q2), .second, .val (.long q3), .second, .val (.long q4), .second, .val (.long q5), .second, .val (.long q6), .second, .val (.int kk), .val (.int la), .val (.int lb), .val (.long (own_poly kk)), .second, .val (.int (own_wid kk)), .val (.long rp), .second, .val (.long on), .second, .val (.ref cb), .val (.long (own_crc q2 la rp on)), .second, .val (.long (own_crc q3 lb rp on)), .second, .val (.long (own_jn q2 q3 la)), .second, .val (.long (own_crc (own_jn q2 q3 la) (la + lb) rp on)), .second, .val (.int (1 : Int32)), .val (.long (q2 &&& on)), .second, .val (.long (q3 &&& on)), .second, .val (.long (q4 &&& on)), .second, .val (.long (q5 &&& (288230376151711743 : Int64))), .second, .val (.long (q6 &&& (288230376151711743 : Int64))), .second, .val (.long (own_Comb rp w (own_Comb rp w (q2 &&& on) (q3 &&& on) (q5 &&& (288230376151711743 : Int64))) (q4 &&& on) (q6 &&& (288230376151711743 : Int64)))), .second, .unset, .unset] [(.long (q2 &&& on)), (.ref cb)])) _
    refine XS.aload X44.here hx rfl (hb hby at_218) rfl rfl ?_
    show Steps p.tables e below (T44.setTop (mkF m 220 #[.val (.int p1), .val (.long q2), .second, .val (.long q3), .second, .val (.long q4), .second, .val (.long q5), .second, .val (.long q6), .second, .val (.int kk), .val (.int la), .val (.int lb), .val (.long (own_poly kk)), .second, .val (.int (own_wid kk)), .val (.long rp), .second, .val (.long on), .second, .val (.ref cb), .val (.long (own_crc q2 la rp on)), .second, .val (.long (own_crc q3 lb rp on)), .second, .val (.long (own_jn q2 q3 la)), .second, .val (.long (own_crc (own_jn q2 q3 la) (la + lb) rp on)), .second, .val (.int (1 : Int32)), .val (.long (q2 &&& on)), .second, .val (.long (q3 &&& on)), .second, .val (.long (q4 &&& on)), .second, .val (.long (q5 &&& (288230376151711743 : Int64))), .second, .val (.long (q6 &&& (288230376151711743 : Int64))), .second, .val (.long (own_Comb rp w (own_Comb rp w (q2 &&& on) (q3 &&& on) (q5 &&& (288230376151711743 : Int64))) (q4 &&& on) (q6 &&& (288230376151711743 : Int64)))), .second, .unset, .unset] [(.ref cb), (.long (q2 &&& on)), (.ref cb)])) _
    refine XS.lload X44.here hx rfl (hb hby at_220) rfl ?_
    show Steps p.tables e below (T44.setTop (mkF m 222 #[.val (.int p1), .val (.long q2), .second, .val (.long q3), .second, .val (.long q4), .second, .val (.long q5), .second, .val (.long q6), .second, .val (.int kk), .val (.int la), .val (.int lb), .val (.long (own_poly kk)), .second, .val (.int (own_wid kk)), .val (.long rp), .second, .val (.long on), .second, .val (.ref cb), .val (.long (own_crc q2 la rp on)), .second, .val (.long (own_crc q3 lb rp on)), .second, .val (.long (own_jn q2 q3 la)), .second, .val (.long (own_crc (own_jn q2 q3 la) (la + lb) rp on)), .second, .val (.int (1 : Int32)), .val (.long (q2 &&& on)), .second, .val (.long (q3 &&& on)), .second, .val (.long (q4 &&& on)), .second, .val (.long (q5 &&& (288230376151711743 : Int64))), .second, .val (.long (q6 &&& (288230376151711743 : Int64))), .second, .val (.long (own_Comb rp w (own_Comb rp w (q2 &&& on) (q3 &&& on) (q5 &&& (288230376151711743 : Int64))) (q4 &&& on) (q6 &&& (288230376151711743 : Int64)))), .second, .unset, .unset] [(.long (q3 &&& on)), (.ref cb), (.long (q2 &&& on)), (.ref cb)])) _
    refine XS.lload X44.here hx rfl (hb hby at_222) rfl ?_
    show Steps p.tables e below (T44.setTop (mkF m 224 #[.val (.int p1), .val (.long q2), .second, .val (.long q3), .second, .val (.long q4), .second, .val (.long q5), .second, .val (.long q6), .second, .val (.int kk), .val (.int la), .val (.int lb), .val (.long (own_poly kk)), .second, .val (.int (own_wid kk)), .val (.long rp), .second, .val (.long on), .second, .val (.ref cb), .val (.long (own_crc q2 la rp on)), .second, .val (.long (own_crc q3 lb rp on)), .second, .val (.long (own_jn q2 q3 la)), .second, .val (.long (own_crc (own_jn q2 q3 la) (la + lb) rp on)), .second, .val (.int (1 : Int32)), .val (.long (q2 &&& on)), .second, .val (.long (q3 &&& on)), .second, .val (.long (q4 &&& on)), .second, .val (.long (q5 &&& (288230376151711743 : Int64))), .second, .val (.long (q6 &&& (288230376151711743 : Int64))), .second, .val (.long (own_Comb rp w (own_Comb rp w (q2 &&& on) (q3 &&& on) (q5 &&& (288230376151711743 : Int64))) (q4 &&& on) (q6 &&& (288230376151711743 : Int64)))), .second, .unset, .unset] [(.long (q4 &&& on)), (.long (q3 &&& on)), (.ref cb), (.long (q2 &&& on)), (.ref cb)])) _
    refine XS.lload X44.here hx rfl (hb hby at_224) rfl ?_
    exact kS
  obtain ⟨cq45, kq45, q45a, q45b, q45c⟩ := isOf hZ hH44 Ea
  obtain ⟨_, _, ⟨T45, L45, k45, n45⟩, -, X45, ⟨Lc45, hQ45, l45, y45, z45⟩, st45⟩ := X44.virtualBack hx (y := (⟨"com/example/latchkey/latchkey/server/gateway/CrcCombination", "combine", "(JJJ)J"⟩ : MethodName)) (z := (⟨"com/example/latchkey/latchkey/server/gateway/CrcCombination", "combine", "(JJJ)J"⟩ : MethodName)) hown (mvT hZ (hw _ (List.mem_of_getElem? (i := 43) rfl))) (mvT hZ (hw _ (List.mem_of_getElem? (i := 44) rfl))) (notFace_of_selects (args := #[]) (mvT hZ (hw _ (List.mem_of_getElem? (i := 46) rfl)))) (mvT hZ (hw _ (List.mem_of_getElem? (i := 46) rfl))) (mvT hZ (hw _ (List.mem_of_getElem? (i := 45) rfl))) (by decide) (backOf (W := 3) (rm10 l Z a0 hw [] cb (q3 &&& on) (q4 &&& on) (q6 &&& (288230376151711743 : Int64)) rp w T37.heap n0 ZZ Ea Fp Fo h64) hZ (hw _ (List.mem_of_getElem? (i := 47) rfl)) (hw _ (List.mem_of_getElem? (i := 14) rfl)) (by decide) (by decide)) q45a q45c (g := (mkF m 226 #[.val (.int p1), .val (.long q2), .second, .val (.long q3), .second, .val (.long q4), .second, .val (.long q5), .second, .val (.long q6), .second, .val (.int kk), .val (.int la), .val (.int lb), .val (.long (own_poly kk)), .second, .val (.int (own_wid kk)), .val (.long rp), .second, .val (.long on), .second, .val (.ref cb), .val (.long (own_crc q2 la rp on)), .second, .val (.long (own_crc q3 lb rp on)), .second, .val (.long (own_jn q2 q3 la)), .second, .val (.long (own_crc (own_jn q2 q3 la) (la + lb) rp on)), .second, .val (.int (1 : Int32)), .val (.long (q2 &&& on)), .second, .val (.long (q3 &&& on)), .second, .val (.long (q4 &&& on)), .second, .val (.long (q5 &&& (288230376151711743 : Int64))), .second, .val (.long (q6 &&& (288230376151711743 : Int64))), .second, .val (.long (own_Comb rp w (own_Comb rp w (q2 &&& on) (q3 &&& on) (q5 &&& (288230376151711743 : Int64))) (q4 &&& on) (q6 &&& (288230376151711743 : Int64)))), .second, .unset, .unset] [(.long (q6 &&& (288230376151711743 : Int64))), (.long (q4 &&& on)), (.long (q3 &&& on)), (.ref cb), (.long (q2 &&& on)), (.ref cb)])) rfl (by rw [hml]; rfl) (Steps.refl _) (argsL := [(.long (q3 &&& on)), (.long (q4 &&& on)), (.long (q6 &&& (288230376151711743 : Int64)))]) (rest := [(.long (q2 &&& on)), (.ref cb)]) (lenOf pd_0 rfl) rfl (by show 2 * 0 + _ ≤ _; exact Nat.le_of_eq rfl) (hb hby at_226) (fun _ _ => ⟨rfl, hH44, (by decide : 1 + 0 ≤ _), (by decide : 2 + 0 ≤ _)⟩)
  dsimp only [Pt.U, Pt.locs, Pt.cells, Pt.slots] at X45 l45 y45 z45 st45 hQ45
  subst l45 y45 z45
  obtain ⟨rfl, N45q, hH45⟩ := hQ45
  have N45 := Fr.app N44 N45q
  obtain ⟨lo45, X45, N45⟩ := own_pack X45 N45
  replace X45 : Stand p l e _ s m _ below meth c T45 _ 1 2 := X45
  refine own_adv (B := (T45.setTop (mkF m 229 #[.val (.int p1), .val (.long q2), .second, .val (.long q3), .second, .val (.long q4), .second, .val (.long q5), .second, .val (.long q6), .second, .val (.int kk), .val (.int la), .val (.int lb), .val (.long (own_poly kk)), .second, .val (.int (own_wid kk)), .val (.long rp), .second, .val (.long on), .second, .val (.ref cb), .val (.long (own_crc q2 la rp on)), .second, .val (.long (own_crc q3 lb rp on)), .second, .val (.long (own_jn q2 q3 la)), .second, .val (.long (own_crc (own_jn q2 q3 la) (la + lb) rp on)), .second, .val (.int (1 : Int32)), .val (.long (q2 &&& on)), .second, .val (.long (q3 &&& on)), .second, .val (.long (q4 &&& on)), .second, .val (.long (q5 &&& (288230376151711743 : Int64))), .second, .val (.long (q6 &&& (288230376151711743 : Int64))), .second, .val (.long (own_Comb rp w (own_Comb rp w (q2 &&& on) (q3 &&& on) (q5 &&& (288230376151711743 : Int64))) (q4 &&& on) (q6 &&& (288230376151711743 : Int64)))), .second, .unset, .unset] [(.long (own_Comb rp w (q3 &&& on) (q4 &&& on) (q6 &&& (288230376151711743 : Int64)))), (.long (q2 &&& on)), (.ref cb)]))) (fun t kS => st45.trans kS) ?_
  refine own_adv (B := (T45.setTop (mkF m 234 #[.val (.int p1), .val (.long q2), .second, .val (.long q3), .second, .val (.long q4), .second, .val (.long q5), .second, .val (.long q6), .second, .val (.int kk), .val (.int la), .val (.int lb), .val (.long (own_poly kk)), .second, .val (.int (own_wid kk)), .val (.long rp), .second, .val (.long on), .second, .val (.ref cb), .val (.long (own_crc q2 la rp on)), .second, .val (.long (own_crc q3 lb rp on)), .second, .val (.long (own_jn q2 q3 la)), .second, .val (.long (own_crc (own_jn q2 q3 la) (la + lb) rp on)), .second, .val (.int (1 : Int32)), .val (.long (q2 &&& on)), .second, .val (.long (q3 &&& on)), .second, .val (.long (q4 &&& on)), .second, .val (.long (q5 &&& (288230376151711743 : Int64))), .second, .val (.long (q6 &&& (288230376151711743 : Int64))), .second, .val (.long (own_Comb rp w (own_Comb rp w (q2 &&& on) (q3 &&& on) (q5 &&& (288230376151711743 : Int64))) (q4 &&& on) (q6 &&& (288230376151711743 : Int64)))), .second, .unset, .unset] [(.long ((q5 &&& (288230376151711743 : Int64)) + (q6 &&& (288230376151711743 : Int64)))), (.long (own_Comb rp w (q3 &&& on) (q4 &&& on) (q6 &&& (288230376151711743 : Int64)))), (.long (q2 &&& on)), (.ref cb)]))) (fun t kS => ?_) ?_
  · show Steps p.tables e below (T45.setTop (mkF m 229 #[.val (.int p1), .val (.long q2), .second, .val (.long q3), .second, .val (.long q4), .second, .val (.long q5), .second, .val (.long q6), .second, .val (.int kk), .val (.int la), .val (.int lb), .val (.long (own_poly kk)), .second, .val (.int (own_wid kk)), .val (.long rp), .second, .val (.long on), .second, .val (.ref cb), .val (.long (own_crc q2 la rp on)), .second, .val (.long (own_crc q3 lb rp on)), .second, .val (.long (own_jn q2 q3 la)), .second, .val (.long (own_crc (own_jn q2 q3 la) (la + lb) rp on)), .second, .val (.int (1 : Int32)), .val (.long (q2 &&& on)), .second, .val (.long (q3 &&& on)), .second, .val (.long (q4 &&& on)), .second, .val (.long (q5 &&& (288230376151711743 : Int64))), .second, .val (.long (q6 &&& (288230376151711743 : Int64))), .second, .val (.long (own_Comb rp w (own_Comb rp w (q2 &&& on) (q3 &&& on) (q5 &&& (288230376151711743 : Int64))) (q4 &&& on) (q6 &&& (288230376151711743 : Int64)))), .second, .unset, .unset] [(.long (own_Comb rp w (q3 &&& on) (q4 &&& on) (q6 &&& (288230376151711743 : Int64)))), (.long (q2 &&& on)), (.ref cb)])) _
    refine XS.lload X45.here hx rfl (hb hby at_229) rfl ?_
    show Steps p.tables e below (T45.setTop (mkF m 231 #[.val (.int p1), .val (.long q2), .second, .val (.long q3), .second, .val (.long q4), .second, .val (.long q5), .second, .val (.long q6), .second, .val (.int kk), .val (.int la), .val (.int lb), .val (.long (own_poly kk)), .second, .val (.int (own_wid kk)), .val (.long rp), .second, .val (.long on), .second, .val (.ref cb), .val (.long (own_crc q2 la rp on)), .second, .val (.long (own_crc q3 lb rp on)), .second, .val (.long (own_jn q2 q3 la)), .second, .val (.long (own_crc (own_jn q2 q3 la) (la + lb) rp on)), .second, .val (.int (1 : Int32)), .val (.long (q2 &&& on)), .second, .val (.long (q3 &&& on)), .second, .val (.long (q4 &&& on)), .second, .val (.long (q5 &&& (288230376151711743 : Int64))), .second, .val (.long (q6 &&& (288230376151711743 : Int64))), .second, .val (.long (own_Comb rp w (own_Comb rp w (q2 &&& on) (q3 &&& on) (q5 &&& (288230376151711743 : Int64))) (q4 &&& on) (q6 &&& (288230376151711743 : Int64)))), .second, .unset, .unset] [(.long (q5 &&& (288230376151711743 : Int64))), (.long (own_Comb rp w (q3 &&& on) (q4 &&& on) (q6 &&& (288230376151711743 : Int64)))), (.long (q2 &&& on)), (.ref cb)])) _
    refine XS.lload X45.here hx rfl (hb hby at_231) rfl ?_
    show Steps p.tables e below (T45.setTop (mkF m 233 #[.val (.int p1), .val (.long q2), .second, .val (.long q3), .second, .val (.long q4), .second, .val (.long q5), .second, .val (.long q6), .second, .val (.int kk), .val (.int la), .val (.int lb), .val (.long (own_poly kk)), .second, .val (.int (own_wid kk)), .val (.long rp), .second, .val (.long on), .second, .val (.ref cb), .val (.long (own_crc q2 la rp on)), .second, .val (.long (own_crc q3 lb rp on)), .second, .val (.long (own_jn q2 q3 la)), .second, .val (.long (own_crc (own_jn q2 q3 la) (la + lb) rp on)), .second, .val (.int (1 : Int32)), .val (.long (q2 &&& on)), .second, .val (.long (q3 &&& on)), .second, .val (.long (q4 &&& on)), .second, .val (.long (q5 &&& (288230376151711743 : Int64))), .second, .val (.long (q6 &&& (288230376151711743 : Int64))), .second, .val (.long (own_Comb rp w (own_Comb rp w (q2 &&& on) (q3 &&& on) (q5 &&& (288230376151711743 : Int64))) (q4 &&& on) (q6 &&& (288230376151711743 : Int64)))), .second, .unset, .unset] [(.long (q6 &&& (288230376151711743 : Int64))), (.long (q5 &&& (288230376151711743 : Int64))), (.long (own_Comb rp w (q3 &&& on) (q4 &&& on) (q6 &&& (288230376151711743 : Int64)))), (.long (q2 &&& on)), (.ref cb)])) _
    refine XS.ladd X45.here hx rfl (hb hby at_233) rfl ?_
    exact kS
  obtain ⟨cq46, kq46, q46a, q46b, q46c⟩ := isOf hZ hH45 Ea
  obtain ⟨_, _, ⟨T46, L46, k46, n46⟩, -, X46, ⟨Lc46, hQ46, l46, y46, z46⟩, st46⟩ := X45.virtualBack hx (y := (⟨"com/example/latchkey/latchkey/server/gateway/CrcCombination", "combine", "(JJJ)J"⟩ : MethodName)) (z := (⟨"com/example/latchkey/latchkey/server/gateway/CrcCombination", "combine", "(JJJ)J"⟩ : MethodName)) hown (mvT hZ (hw _ (List.mem_of_getElem? (i := 43) rfl))) (mvT hZ (hw _ (List.mem_of_getElem? (i := 44) rfl))) (notFace_of_selects (args := #[]) (mvT hZ (hw _ (List.mem_of_getElem? (i := 46) rfl)))) (mvT hZ (hw _ (List.mem_of_getElem? (i := 46) rfl))) (mvT hZ (hw _ (List.mem_of_getElem? (i := 45) rfl))) (by decide) (backOf (W := 0) (rm10 l Z a0 hw [] cb (q2 &&& on) (own_Comb rp w (q3 &&& on) (q4 &&& on) (q6 &&& (288230376151711743 : Int64))) ((q5 &&& (288230376151711743 : Int64)) + (q6 &&& (288230376151711743 : Int64))) rp w T37.heap n0 ZZ Ea Fp Fo h64) hZ (hw _ (List.mem_of_getElem? (i := 47) rfl)) (hw _ (List.mem_of_getElem? (i := 14) rfl)) (by decide) (by decide)) q46a q46c (g := (mkF m 234 #[.val (.int p1), .val (.long q2), .second, .val (.long q3), .second, .val (.long q4), .second, .val (.long q5), .second, .val (.long q6), .second, .val (.int kk), .val (.int la), .val (.int lb), .val (.long (own_poly kk)), .second, .val (.int (own_wid kk)), .val (.long rp), .second, .val (.long on), .second, .val (.ref cb), .val (.long (own_crc q2 la rp on)), .second, .val (.long (own_crc q3 lb rp on)), .second, .val (.long (own_jn q2 q3 la)), .second, .val (.long (own_crc (own_jn q2 q3 la) (la + lb) rp on)), .second, .val (.int (1 : Int32)), .val (.long (q2 &&& on)), .second, .val (.long (q3 &&& on)), .second, .val (.long (q4 &&& on)), .second, .val (.long (q5 &&& (288230376151711743 : Int64))), .second, .val (.long (q6 &&& (288230376151711743 : Int64))), .second, .val (.long (own_Comb rp w (own_Comb rp w (q2 &&& on) (q3 &&& on) (q5 &&& (288230376151711743 : Int64))) (q4 &&& on) (q6 &&& (288230376151711743 : Int64)))), .second, .unset, .unset] [(.long ((q5 &&& (288230376151711743 : Int64)) + (q6 &&& (288230376151711743 : Int64)))), (.long (own_Comb rp w (q3 &&& on) (q4 &&& on) (q6 &&& (288230376151711743 : Int64)))), (.long (q2 &&& on)), (.ref cb)])) rfl (by rw [hml]; rfl) (Steps.refl _) (argsL := [(.long (q2 &&& on)), (.long (own_Comb rp w (q3 &&& on) (q4 &&& on) (q6 &&& (288230376151711743 : Int64)))), (.long ((q5 &&& (288230376151711743 : Int64)) + (q6 &&& (288230376151711743 : Int64))))]) (rest := []) (lenOf pd_0 rfl) rfl (by show 2 * 0 + _ ≤ _; exact Nat.le_of_eq rfl) (hb hby at_234) (fun _ _ => ⟨rfl, hH45, (by decide : 1 + 0 ≤ _), (by decide : 2 + 0 ≤ _)⟩)
  dsimp only [Pt.U, Pt.locs, Pt.cells, Pt.slots] at X46 l46 y46 z46 st46 hQ46
  subst l46 y46 z46
  obtain ⟨rfl, N46q, hH46⟩ := hQ46
  have N46 := Fr.app N45 N46q
  obtain ⟨lo46, X46, N46⟩ := own_pack X46 N46
  replace X46 : Stand p l e _ s m _ below meth c T46 _ 1 2 := X46
  refine own_adv (B := (T46.setTop (mkF m 237 #[.val (.int p1), .val (.long q2), .second, .val (.long q3), .second, .val (.long q4), .second, .val (.long q5), .second, .val (.long q6), .second, .val (.int kk), .val (.int la), .val (.int lb), .val (.long (own_poly kk)), .second, .val (.int (own_wid kk)), .val (.long rp), .second, .val (.long on), .second, .val (.ref cb), .val (.long (own_crc q2 la rp on)), .second, .val (.long (own_crc q3 lb rp on)), .second, .val (.long (own_jn q2 q3 la)), .second, .val (.long (own_crc (own_jn q2 q3 la) (la + lb) rp on)), .second, .val (.int (1 : Int32)), .val (.long (q2 &&& on)), .second, .val (.long (q3 &&& on)), .second, .val (.long (q4 &&& on)), .second, .val (.long (q5 &&& (288230376151711743 : Int64))), .second, .val (.long (q6 &&& (288230376151711743 : Int64))), .second, .val (.long (own_Comb rp w (own_Comb rp w (q2 &&& on) (q3 &&& on) (q5 &&& (288230376151711743 : Int64))) (q4 &&& on) (q6 &&& (288230376151711743 : Int64)))), .second, .unset, .unset] [(.long (own_Comb rp w (q2 &&& on) (own_Comb rp w (q3 &&& on) (q4 &&& on) (q6 &&& (288230376151711743 : Int64))) ((q5 &&& (288230376151711743 : Int64)) + (q6 &&& (288230376151711743 : Int64)))))]))) (fun t kS => st46.trans kS) ?_
  refine own_adv (B := (T46.setTop (mkF m 241 #[.val (.int p1), .val (.long q2), .second, .val (.long q3), .second, .val (.long q4), .second, .val (.long q5), .second, .val (.long q6), .second, .val (.int kk), .val (.int la), .val (.int lb), .val (.long (own_poly kk)), .second, .val (.int (own_wid kk)), .val (.long rp), .second, .val (.long on), .second, .val (.ref cb), .val (.long (own_crc q2 la rp on)), .second, .val (.long (own_crc q3 lb rp on)), .second, .val (.long (own_jn q2 q3 la)), .second, .val (.long (own_crc (own_jn q2 q3 la) (la + lb) rp on)), .second, .val (.int (1 : Int32)), .val (.long (q2 &&& on)), .second, .val (.long (q3 &&& on)), .second, .val (.long (q4 &&& on)), .second, .val (.long (q5 &&& (288230376151711743 : Int64))), .second, .val (.long (q6 &&& (288230376151711743 : Int64))), .second, .val (.long (own_Comb rp w (own_Comb rp w (q2 &&& on) (q3 &&& on) (q5 &&& (288230376151711743 : Int64))) (q4 &&& on) (q6 &&& (288230376151711743 : Int64)))), .second, .val (.long (own_Comb rp w (q2 &&& on) (own_Comb rp w (q3 &&& on) (q4 &&& on) (q6 &&& (288230376151711743 : Int64))) ((q5 &&& (288230376151711743 : Int64)) + (q6 &&& (288230376151711743 : Int64))))), .second] [(.int (1 : Int32))]))) (fun t kS => ?_) ?_
  · show Steps p.tables e below (T46.setTop (mkF m 237 #[.val (.int p1), .val (.long q2), .second, .val (.long q3), .second, .val (.long q4), .second, .val (.long q5), .second, .val (.long q6), .second, .val (.int kk), .val (.int la), .val (.int lb), .val (.long (own_poly kk)), .second, .val (.int (own_wid kk)), .val (.long rp), .second, .val (.long on), .second, .val (.ref cb), .val (.long (own_crc q2 la rp on)), .second, .val (.long (own_crc q3 lb rp on)), .second, .val (.long (own_jn q2 q3 la)), .second, .val (.long (own_crc (own_jn q2 q3 la) (la + lb) rp on)), .second, .val (.int (1 : Int32)), .val (.long (q2 &&& on)), .second, .val (.long (q3 &&& on)), .second, .val (.long (q4 &&& on)), .second, .val (.long (q5 &&& (288230376151711743 : Int64))), .second, .val (.long (q6 &&& (288230376151711743 : Int64))), .second, .val (.long (own_Comb rp w (own_Comb rp w (q2 &&& on) (q3 &&& on) (q5 &&& (288230376151711743 : Int64))) (q4 &&& on) (q6 &&& (288230376151711743 : Int64)))), .second, .unset, .unset] [(.long (own_Comb rp w (q2 &&& on) (own_Comb rp w (q3 &&& on) (q4 &&& on) (q6 &&& (288230376151711743 : Int64))) ((q5 &&& (288230376151711743 : Int64)) + (q6 &&& (288230376151711743 : Int64)))))])) _
    refine XS.lstore X46.here hx rfl (hb hby at_237) rfl (l' := #[.val (.int p1), .val (.long q2), .second, .val (.long q3), .second, .val (.long q4), .second, .val (.long q5), .second, .val (.long q6), .second, .val (.int kk), .val (.int la), .val (.int lb), .val (.long (own_poly kk)), .second, .val (.int (own_wid kk)), .val (.long rp), .second, .val (.long on), .second, .val (.ref cb), .val (.long (own_crc q2 la rp on)), .second, .val (.long (own_crc q3 lb rp on)), .second, .val (.long (own_jn q2 q3 la)), .second, .val (.long (own_crc (own_jn q2 q3 la) (la + lb) rp on)), .second, .val (.int (1 : Int32)), .val (.long (q2 &&& on)), .second, .val (.long (q3 &&& on)), .second, .val (.long (q4 &&& on)), .second, .val (.long (q5 &&& (288230376151711743 : Int64))), .second, .val (.long (q6 &&& (288230376151711743 : Int64))), .second, .val (.long (own_Comb rp w (own_Comb rp w (q2 &&& on) (q3 &&& on) (q5 &&& (288230376151711743 : Int64))) (q4 &&& on) (q6 &&& (288230376151711743 : Int64)))), .second, .val (.long (own_Comb rp w (q2 &&& on) (own_Comb rp w (q3 &&& on) (q4 &&& on) (q6 &&& (288230376151711743 : Int64))) ((q5 &&& (288230376151711743 : Int64)) + (q6 &&& (288230376151711743 : Int64))))), .second]) rfl ?_
    show Steps p.tables e below (T46.setTop (mkF m 239 #[.val (.int p1), .val (.long q2), .second, .val (.long q3), .second, .val (.long q4), .second, .val (.long q5), .second, .val (.long q6), .second, .val (.int kk), .val (.int la), .val (.int lb), .val (.long (own_poly kk)), .second, .val (.int (own_wid kk)), .val (.long rp), .second, .val (.long on), .second, .val (.ref cb), .val (.long (own_crc q2 la rp on)), .second, .val (.long (own_crc q3 lb rp on)), .second, .val (.long (own_jn q2 q3 la)), .second, .val (.long (own_crc (own_jn q2 q3 la) (la + lb) rp on)), .second, .val (.int (1 : Int32)), .val (.long (q2 &&& on)), .second, .val (.long (q3 &&& on)), .second, .val (.long (q4 &&& on)), .second, .val (.long (q5 &&& (288230376151711743 : Int64))), .second, .val (.long (q6 &&& (288230376151711743 : Int64))), .second, .val (.long (own_Comb rp w (own_Comb rp w (q2 &&& on) (q3 &&& on) (q5 &&& (288230376151711743 : Int64))) (q4 &&& on) (q6 &&& (288230376151711743 : Int64)))), .second, .val (.long (own_Comb rp w (q2 &&& on) (own_Comb rp w (q3 &&& on) (q4 &&& on) (q6 &&& (288230376151711743 : Int64))) ((q5 &&& (288230376151711743 : Int64)) + (q6 &&& (288230376151711743 : Int64))))), .second] [])) _
    refine XS.iload X46.here hx rfl (hb hby at_239) rfl ?_
    exact kS
  refine own_adv (B := (T46.setTop (mkF m 257 #[.val (.int p1), .val (.long q2), .second, .val (.long q3), .second, .val (.long q4), .second, .val (.long q5), .second, .val (.long q6), .second, .val (.int kk), .val (.int la), .val (.int lb), .val (.long (own_poly kk)), .second, .val (.int (own_wid kk)), .val (.long rp), .second, .val (.long on), .second, .val (.ref cb), .val (.long (own_crc q2 la rp on)), .second, .val (.long (own_crc q3 lb rp on)), .second, .val (.long (own_jn q2 q3 la)), .second, .val (.long (own_crc (own_jn q2 q3 la) (la + lb) rp on)), .second, .val (.int (1 : Int32)), .val (.long (q2 &&& on)), .second, .val (.long (q3 &&& on)), .second, .val (.long (q4 &&& on)), .second, .val (.long (q5 &&& (288230376151711743 : Int64))), .second, .val (.long (q6 &&& (288230376151711743 : Int64))), .second, .val (.long (own_Comb rp w (own_Comb rp w (q2 &&& on) (q3 &&& on) (q5 &&& (288230376151711743 : Int64))) (q4 &&& on) (q6 &&& (288230376151711743 : Int64)))), .second, .val (.long (own_Comb rp w (q2 &&& on) (own_Comb rp w (q3 &&& on) (q4 &&& on) (q6 &&& (288230376151711743 : Int64))) ((q5 &&& (288230376151711743 : Int64)) + (q6 &&& (288230376151711743 : Int64))))), .second] [(.int (1 : Int32))]))) (fun t kS => ?_) ?_
  · show Steps p.tables e below (T46.setTop (mkF m 241 #[.val (.int p1), .val (.long q2), .second, .val (.long q3), .second, .val (.long q4), .second, .val (.long q5), .second, .val (.long q6), .second, .val (.int kk), .val (.int la), .val (.int lb), .val (.long (own_poly kk)), .second, .val (.int (own_wid kk)), .val (.long rp), .second, .val (.long on), .second, .val (.ref cb), .val (.long (own_crc q2 la rp on)), .second, .val (.long (own_crc q3 lb rp on)), .second, .val (.long (own_jn q2 q3 la)), .second, .val (.long (own_crc (own_jn q2 q3 la) (la + lb) rp on)), .second, .val (.int (1 : Int32)), .val (.long (q2 &&& on)), .second, .val (.long (q3 &&& on)), .second, .val (.long (q4 &&& on)), .second, .val (.long (q5 &&& (288230376151711743 : Int64))), .second, .val (.long (q6 &&& (288230376151711743 : Int64))), .second, .val (.long (own_Comb rp w (own_Comb rp w (q2 &&& on) (q3 &&& on) (q5 &&& (288230376151711743 : Int64))) (q4 &&& on) (q6 &&& (288230376151711743 : Int64)))), .second, .val (.long (own_Comb rp w (q2 &&& on) (own_Comb rp w (q3 &&& on) (q4 &&& on) (q6 &&& (288230376151711743 : Int64))) ((q5 &&& (288230376151711743 : Int64)) + (q6 &&& (288230376151711743 : Int64))))), .second] [(.int (1 : Int32))])) _
    refine XS.ifNo X46.here hx rfl (hb hby at_241) rfl ((if0 _ _).trans (feq (by decide)).1) ?_
    show Steps p.tables e below (T46.setTop (mkF m 244 #[.val (.int p1), .val (.long q2), .second, .val (.long q3), .second, .val (.long q4), .second, .val (.long q5), .second, .val (.long q6), .second, .val (.int kk), .val (.int la), .val (.int lb), .val (.long (own_poly kk)), .second, .val (.int (own_wid kk)), .val (.long rp), .second, .val (.long on), .second, .val (.ref cb), .val (.long (own_crc q2 la rp on)), .second, .val (.long (own_crc q3 lb rp on)), .second, .val (.long (own_jn q2 q3 la)), .second, .val (.long (own_crc (own_jn q2 q3 la) (la + lb) rp on)), .second, .val (.int (1 : Int32)), .val (.long (q2 &&& on)), .second, .val (.long (q3 &&& on)), .second, .val (.long (q4 &&& on)), .second, .val (.long (q5 &&& (288230376151711743 : Int64))), .second, .val (.long (q6 &&& (288230376151711743 : Int64))), .second, .val (.long (own_Comb rp w (own_Comb rp w (q2 &&& on) (q3 &&& on) (q5 &&& (288230376151711743 : Int64))) (q4 &&& on) (q6 &&& (288230376151711743 : Int64)))), .second, .val (.long (own_Comb rp w (q2 &&& on) (own_Comb rp w (q3 &&& on) (q4 &&& on) (q6 &&& (288230376151711743 : Int64))) ((q5 &&& (288230376151711743 : Int64)) + (q6 &&& (288230376151711743 : Int64))))), .second] [])) _
    refine XS.lload X46.here hx rfl (hb hby at_244) rfl ?_
    show Steps p.tables e below (T46.setTop (mkF m 246 #[.val (.int p1), .val (.long q2), .second, .val (.long q3), .second, .val (.long q4), .second, .val (.long q5), .second, .val (.long q6), .second, .val (.int kk), .val (.int la), .val (.int lb), .val (.long (own_poly kk)), .second, .val (.int (own_wid kk)), .val (.long rp), .second, .val (.long on), .second, .val (.ref cb), .val (.long (own_crc q2 la rp on)), .second, .val (.long (own_crc q3 lb rp on)), .second, .val (.long (own_jn q2 q3 la)), .second, .val (.long (own_crc (own_jn q2 q3 la) (la + lb) rp on)), .second, .val (.int (1 : Int32)), .val (.long (q2 &&& on)), .second, .val (.long (q3 &&& on)), .second, .val (.long (q4 &&& on)), .second, .val (.long (q5 &&& (288230376151711743 : Int64))), .second, .val (.long (q6 &&& (288230376151711743 : Int64))), .second, .val (.long (own_Comb rp w (own_Comb rp w (q2 &&& on) (q3 &&& on) (q5 &&& (288230376151711743 : Int64))) (q4 &&& on) (q6 &&& (288230376151711743 : Int64)))), .second, .val (.long (own_Comb rp w (q2 &&& on) (own_Comb rp w (q3 &&& on) (q4 &&& on) (q6 &&& (288230376151711743 : Int64))) ((q5 &&& (288230376151711743 : Int64)) + (q6 &&& (288230376151711743 : Int64))))), .second] [(.long (own_Comb rp w (own_Comb rp w (q2 &&& on) (q3 &&& on) (q5 &&& (288230376151711743 : Int64))) (q4 &&& on) (q6 &&& (288230376151711743 : Int64))))])) _
    refine XS.lload X46.here hx rfl (hb hby at_246) rfl ?_
    show Steps p.tables e below (T46.setTop (mkF m 248 #[.val (.int p1), .val (.long q2), .second, .val (.long q3), .second, .val (.long q4), .second, .val (.long q5), .second, .val (.long q6), .second, .val (.int kk), .val (.int la), .val (.int lb), .val (.long (own_poly kk)), .second, .val (.int (own_wid kk)), .val (.long rp), .second, .val (.long on), .second, .val (.ref cb), .val (.long (own_crc q2 la rp on)), .second, .val (.long (own_crc q3 lb rp on)), .second, .val (.long (own_jn q2 q3 la)), .second, .val (.long (own_crc (own_jn q2 q3 la) (la + lb) rp on)), .second, .val (.int (1 : Int32)), .val (.long (q2 &&& on)), .second, .val (.long (q3 &&& on)), .second, .val (.long (q4 &&& on)), .second, .val (.long (q5 &&& (288230376151711743 : Int64))), .second, .val (.long (q6 &&& (288230376151711743 : Int64))), .second, .val (.long (own_Comb rp w (own_Comb rp w (q2 &&& on) (q3 &&& on) (q5 &&& (288230376151711743 : Int64))) (q4 &&& on) (q6 &&& (288230376151711743 : Int64)))), .second, .val (.long (own_Comb rp w (q2 &&& on) (own_Comb rp w (q3 &&& on) (q4 &&& on) (q6 &&& (288230376151711743 : Int64))) ((q5 &&& (288230376151711743 : Int64)) + (q6 &&& (288230376151711743 : Int64))))), .second] [(.long (own_Comb rp w (q2 &&& on) (own_Comb rp w (q3 &&& on) (q4 &&& on) (q6 &&& (288230376151711743 : Int64))) ((q5 &&& (288230376151711743 : Int64)) + (q6 &&& (288230376151711743 : Int64))))), (.long (own_Comb rp w (own_Comb rp w (q2 &&& on) (q3 &&& on) (q5 &&& (288230376151711743 : Int64))) (q4 &&& on) (q6 &&& (288230376151711743 : Int64))))])) _
    refine XS.lcmp X46.here hx rfl (hb hby at_248) rfl ?_
    show Steps p.tables e below (T46.setTop (mkF m 249 #[.val (.int p1), .val (.long q2), .second, .val (.long q3), .second, .val (.long q4), .second, .val (.long q5), .second, .val (.long q6), .second, .val (.int kk), .val (.int la), .val (.int lb), .val (.long (own_poly kk)), .second, .val (.int (own_wid kk)), .val (.long rp), .second, .val (.long on), .second, .val (.ref cb), .val (.long (own_crc q2 la rp on)), .second, .val (.long (own_crc q3 lb rp on)), .second, .val (.long (own_jn q2 q3 la)), .second, .val (.long (own_crc (own_jn q2 q3 la) (la + lb) rp on)), .second, .val (.int (1 : Int32)), .val (.long (q2 &&& on)), .second, .val (.long (q3 &&& on)), .second, .val (.long (q4 &&& on)), .second, .val (.long (q5 &&& (288230376151711743 : Int64))), .second, .val (.long (q6 &&& (288230376151711743 : Int64))), .second, .val (.long (own_Comb rp w (own_Comb rp w (q2 &&& on) (q3 &&& on) (q5 &&& (288230376151711743 : Int64))) (q4 &&& on) (q6 &&& (288230376151711743 : Int64)))), .second, .val (.long (own_Comb rp w (q2 &&& on) (own_Comb rp w (q3 &&& on) (q4 &&& on) (q6 &&& (288230376151711743 : Int64))) ((q5 &&& (288230376151711743 : Int64)) + (q6 &&& (288230376151711743 : Int64))))), .second] [(.int (lcmpW (own_Comb rp w (own_Comb rp w (q2 &&& on) (q3 &&& on) (q5 &&& (288230376151711743 : Int64))) (q4 &&& on) (q6 &&& (288230376151711743 : Int64))) (own_Comb rp w (q2 &&& on) (own_Comb rp w (q3 &&& on) (q4 &&& on) (q6 &&& (288230376151711743 : Int64))) ((q5 &&& (288230376151711743 : Int64)) + (q6 &&& (288230376151711743 : Int64))))))])) _
    refine XS.ifNo X46.here hx rfl (hb hby at_249) rfl ((if0 _ _).trans (teq ((lw_eq _ _).mpr (own_assocJ rp w h2 h64 hIn on q2 q3 q4 q5 q6 hon1))).2) ?_
    show Steps p.tables e below (T46.setTop (mkF m 252 #[.val (.int p1), .val (.long q2), .second, .val (.long q3), .second, .val (.long q4), .second, .val (.long q5), .second, .val (.long q6), .second, .val (.int kk), .val (.int la), .val (.int lb), .val (.long (own_poly kk)), .second, .val (.int (own_wid kk)), .val (.long rp), .second, .val (.long on), .second, .val (.ref cb), .val (.long (own_crc q2 la rp on)), .second, .val (.long (own_crc q3 lb rp on)), .second, .val (.long (own_jn q2 q3 la)), .second, .val (.long (own_crc (own_jn q2 q3 la) (la + lb) rp on)), .second, .val (.int (1 : Int32)), .val (.long (q2 &&& on)), .second, .val (.long (q3 &&& on)), .second, .val (.long (q4 &&& on)), .second, .val (.long (q5 &&& (288230376151711743 : Int64))), .second, .val (.long (q6 &&& (288230376151711743 : Int64))), .second, .val (.long (own_Comb rp w (own_Comb rp w (q2 &&& on) (q3 &&& on) (q5 &&& (288230376151711743 : Int64))) (q4 &&& on) (q6 &&& (288230376151711743 : Int64)))), .second, .val (.long (own_Comb rp w (q2 &&& on) (own_Comb rp w (q3 &&& on) (q4 &&& on) (q6 &&& (288230376151711743 : Int64))) ((q5 &&& (288230376151711743 : Int64)) + (q6 &&& (288230376151711743 : Int64))))), .second] [])) _
    refine XS.iconst X46.here hx rfl (hb hby at_252) ?_
    show Steps p.tables e below (T46.setTop (mkF m 253 #[.val (.int p1), .val (.long q2), .second, .val (.long q3), .second, .val (.long q4), .second, .val (.long q5), .second, .val (.long q6), .second, .val (.int kk), .val (.int la), .val (.int lb), .val (.long (own_poly kk)), .second, .val (.int (own_wid kk)), .val (.long rp), .second, .val (.long on), .second, .val (.ref cb), .val (.long (own_crc q2 la rp on)), .second, .val (.long (own_crc q3 lb rp on)), .second, .val (.long (own_jn q2 q3 la)), .second, .val (.long (own_crc (own_jn q2 q3 la) (la + lb) rp on)), .second, .val (.int (1 : Int32)), .val (.long (q2 &&& on)), .second, .val (.long (q3 &&& on)), .second, .val (.long (q4 &&& on)), .second, .val (.long (q5 &&& (288230376151711743 : Int64))), .second, .val (.long (q6 &&& (288230376151711743 : Int64))), .second, .val (.long (own_Comb rp w (own_Comb rp w (q2 &&& on) (q3 &&& on) (q5 &&& (288230376151711743 : Int64))) (q4 &&& on) (q6 &&& (288230376151711743 : Int64)))), .second, .val (.long (own_Comb rp w (q2 &&& on) (own_Comb rp w (q3 &&& on) (q4 &&& on) (q6 &&& (288230376151711743 : Int64))) ((q5 &&& (288230376151711743 : Int64)) + (q6 &&& (288230376151711743 : Int64))))), .second] [(.int (1 : Int32))])) _
    refine XS.goto X46.here hx rfl (pc0 := 253) (pc' := 257) rfl (hb hby at_253) (by decide) (by decide) ?_
    exact kS
  obtain ⟨fs, hr, hrun, hended, hW, hsame⟩ := X46.leave (v := some (.int (1 : Int32))) (fun h => by rw [Bd.returns] at h; cases h)
  refine ⟨_, _, ?_, hrun, hended, _, _, rfl, ?_, ⟨_, rfl⟩, hW, hsame.mono (by decide) (by decide)⟩
  · show Steps p.tables e below (T46.setTop (mkF m 257 #[.val (.int p1), .val (.long q2), .second, .val (.long q3), .second, .val (.long q4), .second, .val (.long q5), .second, .val (.long q6), .second, .val (.int kk), .val (.int la), .val (.int lb), .val (.long (own_poly kk)), .second, .val (.int (own_wid kk)), .val (.long rp), .second, .val (.long on), .second, .val (.ref cb), .val (.long (own_crc q2 la rp on)), .second, .val (.long (own_crc q3 lb rp on)), .second, .val (.long (own_jn q2 q3 la)), .second, .val (.long (own_crc (own_jn q2 q3 la) (la + lb) rp on)), .second, .val (.int (1 : Int32)), .val (.long (q2 &&& on)), .second, .val (.long (q3 &&& on)), .second, .val (.long (q4 &&& on)), .second, .val (.long (q5 &&& (288230376151711743 : Int64))), .second, .val (.long (q6 &&& (288230376151711743 : Int64))), .second, .val (.long (own_Comb rp w (own_Comb rp w (q2 &&& on) (q3 &&& on) (q5 &&& (288230376151711743 : Int64))) (q4 &&& on) (q6 &&& (288230376151711743 : Int64)))), .second, .val (.long (own_Comb rp w (q2 &&& on) (own_Comb rp w (q3 &&& on) (q4 &&& on) (q6 &&& (288230376151711743 : Int64))) ((q5 &&& (288230376151711743 : Int64)) + (q6 &&& (288230376151711743 : Int64))))), .second] [(.int (1 : Int32))])) _
    exact retN X46 hx (t := .boolean) Bd.returns (by simp) (hb hby at_257) hr
  · show Q0 Z p1 q2 q3 q4 q5 q6 h0 n0 _ T46.heap _
    rw [hH46]
    exact ⟨rfl, N46⟩
set_option maxRecDepth 65536 in
set_option maxHeartbeats 40000000 in
theorem comes_1 {Post : Tables → Env → Array Value → State → Outcome → State → Prop} (hpost : ∀ tb e args s v u, (limb_1_1.after args s (.returned v) u = true ∧ limb_1_2.after args s (.returned v) u = true ∧ True) → FrameEnd s (.returned v) u (Jvm.fieldLocs frame_1_writes args s ++ Jvm.arrayLocs frame_1_arrays args s ++ Jvm.staticLocs frame_1_statics s) 16 128 → Post tb e args s (.returned v) u) :
    ArmFor flags0 classFile x code maxLocals ret World_1 tables_1 room_1 Calls_1 rest_1 Pre_1 Post := by
  intro l hfl _ _ p e ha hc hk s m args below hf hA hF happ hP
  obtain ⟨hcalls, hrest, hpre⟩ := hP
  obtain ⟨-, -, -, hnamed, -, -, -, hat⟩ := (Spec.applies_iff hf).mp happ
  obtain ⟨hg, hn⟩ := and_e (Cond.before_iff.mp (show (Jvm.Cond.and given_1 narrow_1).before args s = true from hpre))
  obtain ⟨gc, gr0⟩ := and_e hg
  obtain ⟨ga0, gr1⟩ := and_e gr0
  obtain ⟨ga1, gr2⟩ := and_e gr1
  obtain ⟨ga2, gr3⟩ := and_e gr2
  obtain ⟨ga3, gr4⟩ := and_e gr3
  obtain ⟨ga4, gr5⟩ := and_e gr4
  obtain ⟨w0, w1, w2, w3, w4, w5, rfl⟩ : ∃ w0 w1 w2 w3 w4 w5 : Value, args = #[w0, w1, w2, w3, w4, w5] := by
    have hs : args.size = 6 := by simpa [Cond.value, given_1] using gc
    obtain ⟨L⟩ := args
    match L, hs with
    | [w0, w1, w2, w3, w4, w5], _ => exact ⟨w0, w1, w2, w3, w4, w5, rfl⟩
  have hw := fun d (hd : d ∈ tables_1) => atoms_spec (ws := Jvm.Cond.code x code maxLocals ret :: tables_1) hat d (List.mem_cons_of_mem _ hd)
  obtain ⟨i0, ei0⟩ := is_v ga0
  obtain rfl : w0 = (.int i0) := Option.some.inj ei0
  obtain ⟨i1, ei1⟩ := isL_v ga1
  obtain rfl : w1 = (.long i1) := Option.some.inj ei1
  obtain ⟨i2, ei2⟩ := isL_v ga2
  obtain rfl : w2 = (.long i2) := Option.some.inj ei2
  obtain ⟨i3, ei3⟩ := isL_v ga3
  obtain rfl : w3 = (.long i3) := Option.some.inj ei3
  obtain ⟨i4, ei4⟩ := isL_v ga4
  obtain rfl : w4 = (.long i4) := Option.some.inj ei4
  obtain ⟨i5, ei5⟩ := isL_v gr5
  obtain rfl : w5 = (.long i5) := Option.some.inj ei5
  obtain ⟨n, o, h1, h2, h3, _, L, rfl, ⟨rfl, N⟩, hq⟩ := rm0 l s _ hw tables_1 i0 i1 i2 i3 i4 i5 s.heap s.heap.size (Nat.le_refl _) p e ha hc hk s m _ below hf ((Spec.applies_iff_loose hf).mp happ).1 ⟨rfl, State.Warmed39.refl s, rfl⟩ trivial
  refine ⟨n, _, h1, h2, h3, hpost _ _ _ _ _ _ ⟨Cond.after_iff.mpr rfl, Cond.after_iff.mpr (eq_i res_at (Term.int_eval (1)) rfl), trivial⟩ ⟨hq.1, hq.2.1, (hq.2.2.sift fun y hy => Or.inr (N y hy)).mono (by decide) (by decide)⟩⟩
theorem main_1_1 : Claimed_1_1 := comes_1 fun _ _ _ _ _ _ h hF => ⟨h.1, hF⟩
theorem main_1_2 : Claimed_1_2 := comes_1 fun _ _ _ _ _ _ h hF => ⟨h.2.1, hF⟩
end Jvm.Pilot.@@N@@
namespace Jvm.Pilot.@@N@@
open Jvm Jvm.ClassFile Sem Op Lib Jvm.Free Jvm.Stand Jvm.Pilot.@@N@@.Jvm.D
/-! MADE BY PROGRAM (witnessworld.py) out of the Statement's table words and the real class files: 14 classes; the members and pool entries that the words name. The judged class is class 1, her method 1. -/
namespace start1
open Jvm.ClassFile
def u (s : String) : CpInfo := .utf8 (stringToUtf16 s)
/-- a pool by its gaps: so many unusable entries, then the entry; so many at the end -/
def gap : Nat → List CpInfo → List CpInfo
  | 0, r => r
  | n + 1, r => .unusable :: gap n r
def poolList (es : List (Nat × CpInfo)) (last : Nat) : List CpInfo := es.foldr (fun e r => gap e.1 (e.2 :: r)) (gap last [])
def pool (es : List (Nat × CpInfo)) (last : Nat) : Array CpInfo := ⟨poolList es last⟩
def fileOf (pool : Array CpInfo) (this : Nat) (attrs : Array Attribute := #[]) (ms : Array MethodInfo := #[]) (fl : Nat := 33) (sup : Nat := 0) (ifs : Array Nat := #[]) (fds : Array FieldInfo := #[]) : ClassFile where
  minorVersion := 0
  majorVersion := 65
  constantPool := pool
  accessFlags := fl
  thisClass := this
  superClass := sup
  interfaces := ifs
  fields := fds
  methods := ms
  attributes := attrs
def plain (name : String) (sup : Option ClassId) : Class where
  name := name
  kind := .ordinary
  loader := none
  accessFlags := 33
  super := sup
  interfaces := #[]
  cf := none
  fields := #[]
  methods := #[]
  instanceTypes := #[]
  staticTypes := #[]
  resolved := #[]
  callSites := []
  init := .initialized
  statics := none
  mirror := none

def pool0 : Array CpInfo := pool [(5, u "<init>"), (0, u "()V"), (1, .class_ 10), (1, u "java/lang/Object")] 113

def k0c0 : Code := { maxStack := 0, maxLocals := 1, code := object_method_1_code, exceptionTable := #[], attributes := #[] }
def k0m0 : Method := { name := "<init>", desc := "()V", sig := { parameters := [], returnType := none }, accessFlags := 1, code := some k0c0 }
/-- java/lang/Object -/
def k0 : Class := { plain "java/lang/Object" none with
  accessFlags := 33
  interfaces := #[]
  cf := some (fileOf pool0 8 #[] #[{ accessFlags := 1, nameIndex := 5, descriptorIndex := 6, attributes := #[] }] 33 0 #[] #[])
  fields := #[]
  methods := #[k0m0]
  instanceTypes := #[]
  staticTypes := #[]
  resolved := Array.replicate 124 none
  statics := none }

def pool1 : Array CpInfo := pool [(2, .class_ 4), (1, u "java/lang/Object"), (0, u "<init>"), (0, u "()V"), (0, .methodref 8 9), (0, .class_ 10), (0, .nameAndType 11 12), (0, u "com/example/latchkey/latchkey/server/gateway/CrcCombinationCombinePinLaw"), (0, u "polynomial"), (0, u "(I)J"), (0, .methodref 8 14), (0, .nameAndType 15 16), (0, u "width"), (0, u "(I)I"), (0, .methodref 8 18), (0, .nameAndType 19 12), (0, u "reflected"), (0, .long 18446744073709551615), (1, .class_ 23), (0, u "com/example/latchkey/latchkey/server/gateway/CrcCombination"), (0, .methodref 22 25), (0, .nameAndType 5 26), (0, u "(JI)V"), (0, .methodref 8 28), (0, .nameAndType 29 30), (0, u "crc"), (0, u "(JIJJ)J"), (0, .methodref 8 32), (0, .nameAndType 33 12), (0, u "byteMask"), (0, .methodref 22 35), (0, .nameAndType 36 37), (0, u "combine"), (0, u "(JJJ)J"), (0, .long 288230376151711743), (1, .long 3), (1, .long 5), (1, .long 49), (1, .long 32773), (1, .long 79764919), (1, .long 517762881), (1, .long 12507571717709313625), (1, .long 4823603603198064275), (1, .long 6), (1, .long 20), (1, .long 140), (1, .long 40961), (1, .long 3988292384), (1, .long 2197175160), (1, .long 11127430586519243189), (1, .long 14514072000185962306), (1, .methodref 8 73), (0, .nameAndType 74 37), (0, u "bit"), (0, .long 255), (1, .methodref 8 78), (0, .nameAndType 79 37), (0, u "byteStep"), (2, u "law"), (0, u "(IJJJJJ)Z")] 3

def k1m0 : Method := { name := "<init>", desc := "()V", sig := { parameters := [], returnType := none }, accessFlags := 2, code := none }
def k1c1 : Code := { maxStack := 10, maxLocals := 45, code := code, exceptionTable := #[], attributes := #[] }
def k1m1 : Method := { name := "law", desc := "(IJJJJJ)Z", sig := { parameters := [.int, .long, .long, .long, .long, .long], returnType := some .boolean }, accessFlags := 9, code := some k1c1 }
def k1c2 : Code := { maxStack := 2, maxLocals := 1, code := method_3_code, exceptionTable := #[], attributes := #[] }
def k1m2 : Method := { name := "polynomial", desc := "(I)J", sig := { parameters := [.int], returnType := some .long }, accessFlags := 10, code := some k1c2 }
def k1c3 : Code := { maxStack := 2, maxLocals := 1, code := method_4_code, exceptionTable := #[], attributes := #[] }
def k1m3 : Method := { name := "width", desc := "(I)I", sig := { parameters := [.int], returnType := some .int }, accessFlags := 10, code := some k1c3 }
def k1c4 : Code := { maxStack := 2, maxLocals := 1, code := method_5_code, exceptionTable := #[], attributes := #[] }
def k1m4 : Method := { name := "reflected", desc := "(I)J", sig := { parameters := [.int], returnType := some .long }, accessFlags := 10, code := some k1c4 }
def k1c5 : Code := { maxStack := 4, maxLocals := 1, code := method_6_code, exceptionTable := #[], attributes := #[] }
def k1m5 : Method := { name := "byteMask", desc := "(I)J", sig := { parameters := [.int], returnType := some .long }, accessFlags := 10, code := some k1c5 }
def k1c6 : Code := { maxStack := 4, maxLocals := 8, code := method_7_code, exceptionTable := #[], attributes := #[] }
def k1m6 : Method := { name := "bit", desc := "(JJJ)J", sig := { parameters := [.long, .long, .long], returnType := some .long }, accessFlags := 10, code := some k1c6 }
def k1c7 : Code := { maxStack := 6, maxLocals := 8, code := method_8_code, exceptionTable := #[], attributes := #[] }
def k1m7 : Method := { name := "byteStep", desc := "(JJJ)J", sig := { parameters := [.long, .long, .long], returnType := some .long }, accessFlags := 10, code := some k1c7 }
def k1c8 : Code := { maxStack := 6, maxLocals := 9, code := method_9_code, exceptionTable := #[], attributes := #[] }
def k1m8 : Method := { name := "crc", desc := "(JIJJ)J", sig := { parameters := [.long, .int, .long, .long], returnType := some .long }, accessFlags := 10, code := some k1c8 }
/-- com/example/latchkey/latchkey/server/gateway/CrcCombinationCombinePinLaw -/
def k1 : Class := { plain "com/example/latchkey/latchkey/server/gateway/CrcCombinationCombinePinLaw" (some 0) with
  accessFlags := 49
  interfaces := #[]
  cf := some (fileOf pool1 8 #[] #[{ accessFlags := 2, nameIndex := 5, descriptorIndex := 6, attributes := #[] }, { accessFlags := 9, nameIndex := 82, descriptorIndex := 83, attributes := #[] }, { accessFlags := 10, nameIndex := 11, descriptorIndex := 12, attributes := #[] }, { accessFlags := 10, nameIndex := 15, descriptorIndex := 16, attributes := #[] }, { accessFlags := 10, nameIndex := 19, descriptorIndex := 12, attributes := #[] }, { accessFlags := 10, nameIndex := 33, descriptorIndex := 12, attributes := #[] }, { accessFlags := 10, nameIndex := 74, descriptorIndex := 37, attributes := #[] }, { accessFlags := 10, nameIndex := 79, descriptorIndex := 37, attributes := #[] }, { accessFlags := 10, nameIndex := 29, descriptorIndex := 30, attributes := #[] }] 49 2 #[] #[])
  fields := #[]
  methods := #[k1m0, k1m1, k1m2, k1m3, k1m4, k1m5, k1m6, k1m7, k1m8]
  instanceTypes := #[]
  staticTypes := #[]
  resolved := Array.replicate 87 none
  statics := none }

def pool2 : Array CpInfo := pool [(1, .methodref 2 3), (0, .class_ 4), (0, .nameAndType 5 6), (0, u "java/lang/Object"), (0, u "<init>"), (0, u "()V"), (0, .methodref 8 9), (0, .class_ 10), (0, .nameAndType 11 12), (0, u "java/lang/Long"), (0, u "reverse"), (0, u "(J)J"), (0, .fieldref 14 15), (0, .class_ 16), (0, .nameAndType 17 18), (0, u "com/example/latchkey/latchkey/server/gateway/CrcCombination"), (0, u "reflectedPolynomial"), (0, u "J"), (0, .fieldref 14 20), (0, .nameAndType 21 18), (0, u "one"), (2, .long 8), (1, .methodref 14 27), (0, .nameAndType 28 12), (0, u "power"), (0, .methodref 14 30), (0, .nameAndType 31 32), (0, u "multiply"), (0, u "(JJ)J"), (0, .methodref 14 34), (0, .nameAndType 35 12), (0, u "timesX"), (0, u "(JI)V"), (2, u "combine"), (0, u "(JJJ)J")] 3

def k2c0 : Code := { maxStack := 5, maxLocals := 4, code := prog_13_method_1_code, exceptionTable := #[], attributes := #[] }
def k2m0 : Method := { name := "<init>", desc := "(JI)V", sig := { parameters := [.long, .int], returnType := none }, accessFlags := 0, code := some k2c0 }
def k2c1 : Code := { maxStack := 8, maxLocals := 7, code := prog_13_method_2_code, exceptionTable := #[], attributes := #[] }
def k2m1 : Method := { name := "combine", desc := "(JJJ)J", sig := { parameters := [.long, .long, .long], returnType := some .long }, accessFlags := 0, code := some k2c1 }
def k2c2 : Code := { maxStack := 5, maxLocals := 9, code := prog_13_method_3_code, exceptionTable := #[], attributes := #[] }
def k2m2 : Method := { name := "power", desc := "(J)J", sig := { parameters := [.long], returnType := some .long }, accessFlags := 2, code := some k2c2 }
def k2c3 : Code := { maxStack := 4, maxLocals := 11, code := prog_13_method_4_code, exceptionTable := #[], attributes := #[] }
def k2m3 : Method := { name := "multiply", desc := "(JJ)J", sig := { parameters := [.long, .long], returnType := some .long }, accessFlags := 2, code := some k2c3 }
def k2c4 : Code := { maxStack := 4, maxLocals := 3, code := prog_13_method_5_code, exceptionTable := #[], attributes := #[] }
def k2m4 : Method := { name := "timesX", desc := "(J)J", sig := { parameters := [.long], returnType := some .long }, accessFlags := 2, code := some k2c4 }
/-- com/example/latchkey/latchkey/server/gateway/CrcCombination -/
def k2 : Class := { plain "com/example/latchkey/latchkey/server/gateway/CrcCombination" (some 0) with
  accessFlags := 48
  interfaces := #[]
  cf := some (fileOf pool2 14 #[] #[{ accessFlags := 0, nameIndex := 5, descriptorIndex := 36, attributes := #[] }, { accessFlags := 0, nameIndex := 39, descriptorIndex := 40, attributes := #[] }, { accessFlags := 2, nameIndex := 28, descriptorIndex := 12, attributes := #[] }, { accessFlags := 2, nameIndex := 31, descriptorIndex := 32, attributes := #[] }, { accessFlags := 2, nameIndex := 35, descriptorIndex := 12, attributes := #[] }] 48 2 #[] #[{ accessFlags := 18, nameIndex := 17, descriptorIndex := 18, attributes := #[] }, { accessFlags := 18, nameIndex := 21, descriptorIndex := 18, attributes := #[] }])
  fields := #[{ name := "reflectedPolynomial", type := .long, accessFlags := 18, slot := 0, constantValue := 0 }, { name := "one", type := .long, accessFlags := 18, slot := 1, constantValue := 0 }]
  methods := #[k2m0, k2m1, k2m2, k2m3, k2m4]
  instanceTypes := #[.long, .long]
  staticTypes := #[]
  resolved := Array.replicate 44 none
  statics := none }

def pool3 : Array CpInfo := pool [(1, .class_ 2), (0, u "java/io/Serializable"), (0, .class_ 4), (0, u "java/lang/Object")] 2

/-- java/io/Serializable -/
def k3 : Class := { plain "java/io/Serializable" (some 0) with
  accessFlags := 1537
  interfaces := #[]
  cf := some (fileOf pool3 1 #[] #[] 1537 3 #[] #[])
  fields := #[]
  methods := #[]
  instanceTypes := #[]
  staticTypes := #[]
  resolved := Array.replicate 7 none
  statics := none }

def pool4 : Array CpInfo := pool [(2, .class_ 4), (1, u "java/lang/Object"), (0, u "<init>"), (0, u "()V"), (1, .class_ 10), (1, u "java/lang/Number"), (2, .class_ 14), (0, u "java/io/Serializable"), (0, u "serialVersionUID"), (0, u "J")] 20

def k4m0 : Method := { name := "<init>", desc := "()V", sig := { parameters := [], returnType := none }, accessFlags := 1, code := none }
/-- java/lang/Number -/
def k4 : Class := { plain "java/lang/Number" (some 0) with
  accessFlags := 1057
  interfaces := #[3]
  cf := some (fileOf pool4 8 #[] #[{ accessFlags := 1, nameIndex := 5, descriptorIndex := 6, attributes := #[] }] 1057 2 #[13] #[{ accessFlags := 26, nameIndex := 15, descriptorIndex := 16, attributes := #[] }])
  fields := #[{ name := "serialVersionUID", type := .long, accessFlags := 26, slot := 0, constantValue := 0 }]
  methods := #[k4m0]
  instanceTypes := #[]
  staticTypes := #[.long]
  resolved := Array.replicate 37 none
  statics := none }

def pool5 : Array CpInfo := pool [(1, .class_ 2), (0, u "java/lang/Comparable"), (0, .class_ 4), (0, u "java/lang/Object")] 7

/-- java/lang/Comparable -/
def k5 : Class := { plain "java/lang/Comparable" (some 0) with
  accessFlags := 1537
  interfaces := #[]
  cf := some (fileOf pool5 1 #[] #[] 1537 3 #[] #[])
  fields := #[]
  methods := #[]
  instanceTypes := #[]
  staticTypes := #[]
  resolved := Array.replicate 12 none
  statics := none }

def pool6 : Array CpInfo := pool [(1, .class_ 2), (0, u "java/lang/constant/Constable"), (0, .class_ 4), (0, u "java/lang/Object")] 6

/-- java/lang/constant/Constable -/
def k6 : Class := { plain "java/lang/constant/Constable" (some 0) with
  accessFlags := 1537
  interfaces := #[]
  cf := some (fileOf pool6 1 #[] #[] 1537 3 #[] #[])
  fields := #[]
  methods := #[]
  instanceTypes := #[]
  staticTypes := #[]
  resolved := Array.replicate 11 none
  statics := none }

def pool7 : Array CpInfo := pool [(1, .class_ 2), (0, u "java/lang/constant/ConstantDesc"), (0, .class_ 4), (0, u "java/lang/Object")] 32

/-- java/lang/constant/ConstantDesc -/
def k7 : Class := { plain "java/lang/constant/ConstantDesc" (some 0) with
  accessFlags := 1537
  interfaces := #[]
  cf := some (fileOf pool7 1 #[] #[] 1537 3 #[] #[])
  fields := #[]
  methods := #[]
  instanceTypes := #[]
  staticTypes := #[]
  resolved := Array.replicate 37 none
  statics := none }

def pool8 : Array CpInfo := pool [(1, .class_ 2), (0, u "java/lang/Long"), (232, .class_ 237), (1, u "java/lang/Long$LongCache"), (33, .class_ 272), (0, u "java/lang/Number"), (2, u "value"), (0, u "J"), (37, .long 6148914691236517205), (1, .long 3689348814741910323), (1, .long 1085102592571150095), (1, .methodref 1 321), (0, .nameAndType 322 323), (0, u "reverseBytes"), (0, u "(J)J"), (3, .long 71777214294589695), (1, .long 4294901760), (31, u "TYPE"), (0, u "Ljava/lang/Class;"), (0, .class_ 364), (0, u "java/lang/Comparable"), (0, .class_ 366), (0, u "java/lang/constant/Constable"), (0, .class_ 368), (0, u "java/lang/constant/ConstantDesc"), (0, u "MIN_VALUE"), (1, u "MAX_VALUE"), (4, u "SIZE"), (0, u "I"), (1, u "BYTES"), (1, u "serialVersionUID"), (99, u "reverse")] 42

def k8c0 : Code := { maxStack := 6, maxLocals := 2, code := jdk_35_method_53_code, exceptionTable := #[], attributes := #[] }
def k8m0 : Method := { name := "reverse", desc := "(J)J", sig := { parameters := [.long], returnType := some .long }, accessFlags := 9, code := some k8c0 }
def k8c1 : Code := { maxStack := 6, maxLocals := 2, code := jdk_35_method_58_code, exceptionTable := #[], attributes := #[] }
def k8m1 : Method := { name := "reverseBytes", desc := "(J)J", sig := { parameters := [.long], returnType := some .long }, accessFlags := 9, code := some k8c1 }
/-- java/lang/Long -/
def k8 : Class := { plain "java/lang/Long" (some 4) with
  accessFlags := 49
  interfaces := #[5, 6, 7]
  cf := some (fileOf pool8 1 #[.nestMembers #[235]] #[{ accessFlags := 9, nameIndex := 481, descriptorIndex := 323, attributes := #[] }, { accessFlags := 9, nameIndex := 322, descriptorIndex := 323, attributes := #[] }] 49 271 #[363, 365, 367] #[{ accessFlags := 25, nameIndex := 369, descriptorIndex := 276, attributes := #[] }, { accessFlags := 25, nameIndex := 371, descriptorIndex := 276, attributes := #[] }, { accessFlags := 25, nameIndex := 361, descriptorIndex := 362, attributes := #[] }, { accessFlags := 18, nameIndex := 275, descriptorIndex := 276, attributes := #[] }, { accessFlags := 25, nameIndex := 376, descriptorIndex := 377, attributes := #[] }, { accessFlags := 25, nameIndex := 379, descriptorIndex := 377, attributes := #[] }, { accessFlags := 26, nameIndex := 381, descriptorIndex := 276, attributes := #[] }])
  fields := #[{ name := "MIN_VALUE", type := .long, accessFlags := 25, slot := 0, constantValue := 0 }, { name := "MAX_VALUE", type := .long, accessFlags := 25, slot := 1, constantValue := 0 }, { name := "TYPE", type := (.object "java/lang/Class"), accessFlags := 25, slot := 2, constantValue := 0 }, { name := "value", type := .long, accessFlags := 18, slot := 0, constantValue := 0 }, { name := "SIZE", type := .int, accessFlags := 25, slot := 3, constantValue := 0 }, { name := "BYTES", type := .int, accessFlags := 25, slot := 4, constantValue := 0 }, { name := "serialVersionUID", type := .long, accessFlags := 26, slot := 5, constantValue := 0 }]
  methods := #[k8m0, k8m1]
  instanceTypes := #[.long]
  staticTypes := #[.long, .long, (.object "java/lang/Class"), .int, .int, .long]
  resolved := Array.replicate 524 none
  statics := none }

def pool9 : Array CpInfo := pool [(1, u "java/lang/Cloneable"), (0, .class_ 1), (0, u "java/lang/Object"), (0, .class_ 3)] 3

/-- java/lang/Cloneable -/
def k9 : Class := { plain "java/lang/Cloneable" (some 0) with
  accessFlags := 1537
  interfaces := #[]
  cf := some (fileOf pool9 2 #[] #[] 1537 4 #[] #[])
  fields := #[]
  methods := #[]
  instanceTypes := #[]
  staticTypes := #[]
  resolved := Array.replicate 8 none
  statics := none }

/-- the primitive byte -/
def k10 : Class := { plain "byte" none with kind := .primitive 'B', accessFlags := 0x411 }
/-- [B -/
def k11 : Class := { plain "[B" (some 0) with kind := .array 10 .byte, interfaces := #[9, 3], accessFlags := 1041 }

/-- the primitive int -/
def k12 : Class := { plain "int" none with kind := .primitive 'I', accessFlags := 0x411 }
/-- [I -/
def k13 : Class := { plain "[I" (some 0) with kind := .array 12 .int, interfaces := #[9, 3], accessFlags := 1041 }

def heap : Heap := #[]
def classes : Array Class := #[k0, k1, k2, k3, k4, k5, k6, k7, k8, k9, k10, k11, k12, k13]
def interned : List (Array UInt16 × Addr) := []
def slotsUsed : Nat := 0
def theMethod : MethodId := ⟨1, 1⟩
def args0 : Array Value := #[.int 5, .long 7, .long 3, .long 4, .long 9, .long 1]
def aboutOver (below : List Frame) : State where
  vm := { classes := classes, interned := interned.toArray }
  heap := heap
  slotsUsed := slotsUsed
  threads := #[{ frames := .invoking theMethod args0 :: below }]
def below0 : List Frame := [.native { method := ⟨0, 0⟩, args := #[] }]
def about1 : State := aboutOver below0
def p0 : Program := .bare "" "" ""
def e0 : Env := launch0.env 0 0 0
theorem w_frames : about1.frames = Frame.invoking theMethod args0 :: below0 := rfl
set_option maxRecDepth 65536 in
theorem w_args : argsFit about1.vm theMethod args0 = true := by decide +kernel
set_option maxRecDepth 65536 in
theorem w_heap : heapFits about1 = true := by decide +kernel
set_option maxRecDepth 65536 in
theorem w_runnable : about1.curStatus? = some .runnable := by decide +kernel
set_option maxRecDepth 65536 in
theorem w_alone : about1.alone = true := by decide +kernel
set_option maxRecDepth 65536 in
theorem w_named : about1.methodNamed? x = some theMethod := by decide +kernel
set_option maxRecDepth 65536 in
theorem w_hears : about1.hears theMethod below0 = true := by decide +kernel
set_option maxRecDepth 65536 in
theorem w_ripe : about1.ripe theMethod args0 below0 = true := by decide +kernel
theorem w_running : about1.status = .running := rfl
set_option maxRecDepth 65536 in
theorem w_room : about1.hasRoom e0.platform room_1 = true :=
  launch0.hasRoom_least _ room_1 (by decide +kernel) (by decide +kernel) (by decide +kernel) (by decide +kernel) (by decide +kernel) (by decide +kernel)
theorem allAtoms_all (ts : List Jvm.Cond) (a : Array Jvm.Value) (st : Jvm.State) : (allAtoms ts).before a st = ts.all (fun c => c.before a st) := by
  induction ts with
  | nil => rfl
  | cons c t ih =>
    show (Jvm.Cond.and c (allAtoms t)).before a st = _
    rw [Jvm.Cond.before_and, ih, List.all_cons]
def words1 : List Jvm.Cond := Jvm.Cond.code x code maxLocals ret :: tables_1
/-- a 'code' word, met by the world's own term for the bytes: nothing is compared byte by byte -/
theorem code_word {y : MethodName} {bytes : ByteArray} {mx : Nat} {rt : Option FieldType} {a : Array Value} {s : State} {m : MethodId} {meth : Method} {c : Code} (h1 : s.methodNamed? y = some m) (h2 : s.vm.method? m = some meth) (h3 : meth.code = some c) (h4 : c.code = bytes)
    (h5 : (c.maxLocals == mx && c.exceptionTable.isEmpty && decide (c.maxStack ≤ mostOperands) && decide (meth.sig.returnType = rt) && !meth.locks && decide (parseMethodDescriptor y.desc = some meth.sig)) = true) : (Jvm.Cond.code y bytes mx rt).before a s = true := by
  simp only [Bool.and_eq_true, beq_iff_eq, Bool.not_eq_true', decide_eq_true_eq] at h5
  obtain ⟨⟨⟨⟨⟨g1, g2⟩, g3⟩, g4⟩, g5⟩, g6⟩ := h5
  simp [Cond.before, Cond.holds, Cond.value, h1, h2, h3, h4, g1, g2, g3, g4, g5, g6]
def isCode : Jvm.Cond → Bool
  | .code _ _ _ _ => true
  | _ => false
theorem all_split {L : List Jvm.Cond} {P : Jvm.Cond → Bool} (h1 : L.all (fun c => isCode c || P c) = true) (h2 : ∀ c ∈ L.filter isCode, P c = true) : L.all P = true := by
  refine List.all_eq_true.mpr fun c hc => ?_
  have h := List.all_eq_true.mp h1 c hc
  rcases Bool.eq_false_or_eq_true (isCode c) with hi | hi
  · exact h2 c (List.mem_filter.mpr ⟨hc, hi⟩)
  · simpa [hi] using h
set_option maxRecDepth 65536 in
theorem w_c0 : (Jvm.Cond.code x code maxLocals ret).before args0 about1 = true := code_word (m := ⟨1, 1⟩) (meth := k1m1) (c := k1c1) (by decide +kernel) rfl rfl rfl (by decide +kernel)
set_option maxRecDepth 65536 in
theorem w_c1 : (Jvm.Cond.code ({ cls := "com/example/latchkey/latchkey/server/gateway/CrcCombinationCombinePinLaw", name := "polynomial", desc := "(I)J" } : Jvm.MethodName) method_3_code (1 : Nat) (Option.some Jvm.ClassFile.FieldType.long)).before args0 about1 = true := code_word (m := ⟨1, 2⟩) (meth := k1m2) (c := k1c2) (by decide +kernel) rfl rfl rfl (by decide +kernel)
set_option maxRecDepth 65536 in
theorem w_c2 : (Jvm.Cond.code ({ cls := "com/example/latchkey/latchkey/server/gateway/CrcCombinationCombinePinLaw", name := "width", desc := "(I)I" } : Jvm.MethodName) method_4_code (1 : Nat) (Option.some Jvm.ClassFile.FieldType.int)).before args0 about1 = true := code_word (m := ⟨1, 3⟩) (meth := k1m3) (c := k1c3) (by decide +kernel) rfl rfl rfl (by decide +kernel)
set_option maxRecDepth 65536 in
theorem w_c3 : (Jvm.Cond.code ({ cls := "com/example/latchkey/latchkey/server/gateway/CrcCombinationCombinePinLaw", name := "reflected", desc := "(I)J" } : Jvm.MethodName) method_5_code (1 : Nat) (Option.some Jvm.ClassFile.FieldType.long)).before args0 about1 = true := code_word (m := ⟨1, 4⟩) (meth := k1m4) (c := k1c4) (by decide +kernel) rfl rfl rfl (by decide +kernel)
set_option maxRecDepth 65536 in
theorem w_c4 : (Jvm.Cond.code ({ cls := "com/example/latchkey/latchkey/server/gateway/CrcCombination", name := "<init>", desc := "(JI)V" } : Jvm.MethodName) prog_13_method_1_code (4 : Nat) (Option.none : Option Jvm.ClassFile.FieldType)).before args0 about1 = true := code_word (m := ⟨2, 0⟩) (meth := k2m0) (c := k2c0) (by decide +kernel) rfl rfl rfl (by decide +kernel)
set_option maxRecDepth 65536 in
theorem w_c5 : (Jvm.Cond.code ({ cls := "java/lang/Object", name := "<init>", desc := "()V" } : Jvm.MethodName) object_method_1_code (1 : Nat) (Option.none : Option Jvm.ClassFile.FieldType)).before args0 about1 = true := code_word (m := ⟨0, 0⟩) (meth := k0m0) (c := k0c0) (by decide +kernel) rfl rfl rfl (by decide +kernel)
set_option maxRecDepth 65536 in
theorem w_c6 : (Jvm.Cond.code ({ cls := "java/lang/Long", name := "reverse", desc := "(J)J" } : Jvm.MethodName) jdk_35_method_53_code (2 : Nat) (Option.some Jvm.ClassFile.FieldType.long)).before args0 about1 = true := code_word (m := ⟨8, 0⟩) (meth := k8m0) (c := k8c0) (by decide +kernel) rfl rfl rfl (by decide +kernel)
set_option maxRecDepth 65536 in
theorem w_c7 : (Jvm.Cond.code ({ cls := "java/lang/Long", name := "reverseBytes", desc := "(J)J" } : Jvm.MethodName) jdk_35_method_58_code (2 : Nat) (Option.some Jvm.ClassFile.FieldType.long)).before args0 about1 = true := code_word (m := ⟨8, 1⟩) (meth := k8m1) (c := k8c1) (by decide +kernel) rfl rfl rfl (by decide +kernel)
set_option maxRecDepth 65536 in
theorem w_c8 : (Jvm.Cond.code ({ cls := "com/example/latchkey/latchkey/server/gateway/CrcCombinationCombinePinLaw", name := "crc", desc := "(JIJJ)J" } : Jvm.MethodName) method_9_code (9 : Nat) (Option.some Jvm.ClassFile.FieldType.long)).before args0 about1 = true := code_word (m := ⟨1, 8⟩) (meth := k1m8) (c := k1c8) (by decide +kernel) rfl rfl rfl (by decide +kernel)
set_option maxRecDepth 65536 in
theorem w_c9 : (Jvm.Cond.code ({ cls := "com/example/latchkey/latchkey/server/gateway/CrcCombinationCombinePinLaw", name := "byteMask", desc := "(I)J" } : Jvm.MethodName) method_6_code (1 : Nat) (Option.some Jvm.ClassFile.FieldType.long)).before args0 about1 = true := code_word (m := ⟨1, 5⟩) (meth := k1m5) (c := k1c5) (by decide +kernel) rfl rfl rfl (by decide +kernel)
set_option maxRecDepth 65536 in
theorem w_c10 : (Jvm.Cond.code ({ cls := "com/example/latchkey/latchkey/server/gateway/CrcCombination", name := "combine", desc := "(JJJ)J" } : Jvm.MethodName) prog_13_method_2_code (7 : Nat) (Option.some Jvm.ClassFile.FieldType.long)).before args0 about1 = true := code_word (m := ⟨2, 1⟩) (meth := k2m1) (c := k2c1) (by decide +kernel) rfl rfl rfl (by decide +kernel)
set_option maxRecDepth 65536 in
theorem w_c11 : (Jvm.Cond.code ({ cls := "com/example/latchkey/latchkey/server/gateway/CrcCombination", name := "power", desc := "(J)J" } : Jvm.MethodName) prog_13_method_3_code (9 : Nat) (Option.some Jvm.ClassFile.FieldType.long)).before args0 about1 = true := code_word (m := ⟨2, 2⟩) (meth := k2m2) (c := k2c2) (by decide +kernel) rfl rfl rfl (by decide +kernel)
set_option maxRecDepth 65536 in
theorem w_c12 : (Jvm.Cond.code ({ cls := "com/example/latchkey/latchkey/server/gateway/CrcCombination", name := "multiply", desc := "(JJ)J" } : Jvm.MethodName) prog_13_method_4_code (11 : Nat) (Option.some Jvm.ClassFile.FieldType.long)).before args0 about1 = true := code_word (m := ⟨2, 3⟩) (meth := k2m3) (c := k2c3) (by decide +kernel) rfl rfl rfl (by decide +kernel)
set_option maxRecDepth 65536 in
theorem w_c13 : (Jvm.Cond.code ({ cls := "com/example/latchkey/latchkey/server/gateway/CrcCombination", name := "timesX", desc := "(J)J" } : Jvm.MethodName) prog_13_method_5_code (3 : Nat) (Option.some Jvm.ClassFile.FieldType.long)).before args0 about1 = true := code_word (m := ⟨2, 4⟩) (meth := k2m4) (c := k2c4) (by decide +kernel) rfl rfl rfl (by decide +kernel)
set_option maxRecDepth 65536 in
theorem w_c14 : (Jvm.Cond.code ({ cls := "com/example/latchkey/latchkey/server/gateway/CrcCombinationCombinePinLaw", name := "byteStep", desc := "(JJJ)J" } : Jvm.MethodName) method_8_code (8 : Nat) (Option.some Jvm.ClassFile.FieldType.long)).before args0 about1 = true := code_word (m := ⟨1, 7⟩) (meth := k1m7) (c := k1c7) (by decide +kernel) rfl rfl rfl (by decide +kernel)
set_option maxRecDepth 65536 in
theorem w_c15 : (Jvm.Cond.code ({ cls := "com/example/latchkey/latchkey/server/gateway/CrcCombinationCombinePinLaw", name := "bit", desc := "(JJJ)J" } : Jvm.MethodName) method_7_code (8 : Nat) (Option.some Jvm.ClassFile.FieldType.long)).before args0 about1 = true := code_word (m := ⟨1, 6⟩) (meth := k1m6) (c := k1c6) (by decide +kernel) rfl rfl rfl (by decide +kernel)
def codes1 : List Jvm.Cond := [Jvm.Cond.code x code maxLocals ret, Jvm.Cond.code ({ cls := "com/example/latchkey/latchkey/server/gateway/CrcCombinationCombinePinLaw", name := "polynomial", desc := "(I)J" } : Jvm.MethodName) method_3_code (1 : Nat) (Option.some Jvm.ClassFile.FieldType.long), Jvm.Cond.code ({ cls := "com/example/latchkey/latchkey/server/gateway/CrcCombinationCombinePinLaw", name := "width", desc := "(I)I" } : Jvm.MethodName) method_4_code (1 : Nat) (Option.some Jvm.ClassFile.FieldType.int), Jvm.Cond.code ({ cls := "com/example/latchkey/latchkey/server/gateway/CrcCombinationCombinePinLaw", name := "reflected", desc := "(I)J" } : Jvm.MethodName) method_5_code (1 : Nat) (Option.some Jvm.ClassFile.FieldType.long), Jvm.Cond.code ({ cls := "com/example/latchkey/latchkey/server/gateway/CrcCombination", name := "<init>", desc := "(JI)V" } : Jvm.MethodName) prog_13_method_1_code (4 : Nat) (Option.none : Option Jvm.ClassFile.FieldType), Jvm.Cond.code ({ cls := "java/lang/Object", name := "<init>", desc := "()V" } : Jvm.MethodName) object_method_1_code (1 : Nat) (Option.none : Option Jvm.ClassFile.FieldType), Jvm.Cond.code ({ cls := "java/lang/Long", name := "reverse", desc := "(J)J" } : Jvm.MethodName) jdk_35_method_53_code (2 : Nat) (Option.some Jvm.ClassFile.FieldType.long), Jvm.Cond.code ({ cls := "java/lang/Long", name := "reverseBytes", desc := "(J)J" } : Jvm.MethodName) jdk_35_method_58_code (2 : Nat) (Option.some Jvm.ClassFile.FieldType.long), Jvm.Cond.code ({ cls := "com/example/latchkey/latchkey/server/gateway/CrcCombinationCombinePinLaw", name := "crc", desc := "(JIJJ)J" } : Jvm.MethodName) method_9_code (9 : Nat) (Option.some Jvm.ClassFile.FieldType.long), Jvm.Cond.code ({ cls := "com/example/latchkey/latchkey/server/gateway/CrcCombinationCombinePinLaw", name := "byteMask", desc := "(I)J" } : Jvm.MethodName) method_6_code (1 : Nat) (Option.some Jvm.ClassFile.FieldType.long), Jvm.Cond.code ({ cls := "com/example/latchkey/latchkey/server/gateway/CrcCombination", name := "combine", desc := "(JJJ)J" } : Jvm.MethodName) prog_13_method_2_code (7 : Nat) (Option.some Jvm.ClassFile.FieldType.long), Jvm.Cond.code ({ cls := "com/example/latchkey/latchkey/server/gateway/CrcCombination", name := "power", desc := "(J)J" } : Jvm.MethodName) prog_13_method_3_code (9 : Nat) (Option.some Jvm.ClassFile.FieldType.long), Jvm.Cond.code ({ cls := "com/example/latchkey/latchkey/server/gateway/CrcCombination", name := "multiply", desc := "(JJ)J" } : Jvm.MethodName) prog_13_method_4_code (11 : Nat) (Option.some Jvm.ClassFile.FieldType.long), Jvm.Cond.code ({ cls := "com/example/latchkey/latchkey/server/gateway/CrcCombination", name := "timesX", desc := "(J)J" } : Jvm.MethodName) prog_13_method_5_code (3 : Nat) (Option.some Jvm.ClassFile.FieldType.long), Jvm.Cond.code ({ cls := "com/example/latchkey/latchkey/server/gateway/CrcCombinationCombinePinLaw", name := "byteStep", desc := "(JJJ)J" } : Jvm.MethodName) method_8_code (8 : Nat) (Option.some Jvm.ClassFile.FieldType.long), Jvm.Cond.code ({ cls := "com/example/latchkey/latchkey/server/gateway/CrcCombinationCombinePinLaw", name := "bit", desc := "(JJJ)J" } : Jvm.MethodName) method_7_code (8 : Nat) (Option.some Jvm.ClassFile.FieldType.long)]
set_option maxRecDepth 65536 in
theorem codes_eq : words1.filter isCode = codes1 := rfl
theorem w_codes : ∀ c ∈ words1.filter isCode, c.before args0 about1 = true := by
  rw [codes_eq]
  intro c hc
  simp only [codes1, List.mem_cons, List.not_mem_nil, or_false] at hc
  rcases hc with rfl | rfl | rfl | rfl | rfl | rfl | rfl | rfl | rfl | rfl | rfl | rfl | rfl | rfl | rfl | rfl
  · exact w_c0
  · exact w_c1
  · exact w_c2
  · exact w_c3
  · exact w_c4
  · exact w_c5
  · exact w_c6
  · exact w_c7
  · exact w_c8
  · exact w_c9
  · exact w_c10
  · exact w_c11
  · exact w_c12
  · exact w_c13
  · exact w_c14
  · exact w_c15
set_option maxRecDepth 65536 in
theorem w_t1 : (words1.take 24).all (fun c => isCode c || c.before args0 about1) = true := by decide +kernel
set_option maxRecDepth 65536 in
theorem w_t2 : ((words1.drop 24).take 24).all (fun c => isCode c || c.before args0 about1) = true := by decide +kernel
set_option maxRecDepth 65536 in
theorem w_t3 : (((words1.drop 24).drop 24).take 24).all (fun c => isCode c || c.before args0 about1) = true := by decide +kernel
set_option maxRecDepth 65536 in
theorem w_t4 : (((words1.drop 24).drop 24).drop 24).all (fun c => isCode c || c.before args0 about1) = true := by decide +kernel
theorem w_tables : (allAtoms (Jvm.Cond.code x code maxLocals ret :: tables_1)).before args0 about1 = true := by
  rw [allAtoms_all]
  show words1.all (fun c => c.before args0 about1) = true
  refine all_split ?_ w_codes
  rw [← List.take_append_drop 24 words1, List.all_append, w_t1, ← List.take_append_drop 24 (words1.drop 24), List.all_append, w_t2, ← List.take_append_drop 24 ((words1.drop 24).drop 24), List.all_append, w_t3, w_t4]
  rfl
set_option maxRecDepth 65536 in
theorem w_case : (Jvm.Cond.and given_1 narrow_1).before args0 about1 = true := by decide +kernel
theorem w_applies : (headSpec (Jvm.Cond.code x code maxLocals ret :: tables_1) room_1).applies x e0.platform about1 = true :=
  (Spec.applies_iff w_frames).mpr ⟨w_running, w_runnable, w_alone, w_named, w_hears, w_ripe, w_room, w_tables⟩
theorem atStart : AtStart classFile x code maxLocals ret World_1 tables_1 room_1 Calls_1 rest_1 Pre_1 launch0 p0 e0 about1 theMethod args0 below0 :=
  ⟨lists_1, trivial, launch0.admits_env _ _ _, launch0.least_env, fairChoices_fair.cas, fairChoices_fair.clock, w_frames, w_args, w_heap, w_applies, trivial, trivial, w_case⟩
end start1
theorem witness_1 : WitnessClaimed_1 := ⟨start1.p0, start1.e0, start1.about1, start1.theMethod, start1.args0, start1.below0, start1.atStart⟩
end Jvm.Pilot.@@N@@
