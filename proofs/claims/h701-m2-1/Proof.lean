import JvmDerived
import JvmDerived.Pilot.@@N@@Statement
import JvmDerived.Pilot.@@N@@Code
set_option linter.unusedVariables false
set_option linter.unusedSimpArgs false
namespace Jvm.RoadKit
open Sem ClassFile Op Lib Jvm.Stand Jvm.Free Jvm.LawKit
section New
variable {p : Program} {l : Launch} {e : Env} {R : Room} {s : State} {m : MethodId} {args : Array Value} {below : List Frame} {meth : Method} {c : Code} {T : State} {locs : List Loc} {cells slots : Nat}
theorem retI (X : Stand p l e R s m args below meth c T locs cells slots) (hx : p.tables.exec = Jvm.exec) {pc : Nat} {Ls : Array Slot} {z : Int32} {rest : List Value} (hret : meth.sig.returnType = some .int) (hd : decode c.code pc = .ok (.ireturn, 1)) {fs : List Frame}
    (hl : ∀ (f : JFrame) (acts : List Action), f.method = m → f.locked = none → f.entered = [] → (doReturn e (T.setTop f) acts (some (.int z))).1 = T.setFrames fs) : Steps p.tables e below (T.setTop (mkF m pc Ls (.int z :: rest))) (T.setFrames fs) :=
  retOut X hx hret rfl (Or.inl ⟨rfl, Or.inl rfl, _, rfl⟩) hd hl
theorem own_fwd {tb : Tables} {e : Env} {below : List Frame} {P : State → Outcome → Prop} {A B : State} (h : ∀ t, Steps tb e below B t → Steps tb e below A t) (k : ∃ t o, Steps tb e below B t ∧ P t o) : ∃ t o, Steps tb e below A t ∧ P t o := by
  obtain ⟨t, o, h1, h2⟩ := k
  exact ⟨t, o, h t h1, h2⟩
theorem own_cut {tb : Tables} {e : Env} {below : List Frame} {P : State → Outcome → Prop} {A : State} {α : Type} {B : α → State} {H : α → Prop} (h : ∀ n, H n → ∃ t o, Steps tb e below (B n) t ∧ P t o) (k : (∀ n, H n → ∃ t o, Steps tb e below (B n) t ∧ P t o) → ∃ t o, Steps tb e below A t ∧ P t o) : ∃ t o, Steps tb e below A t ∧ P t o := k h
theorem own_selfP {s : State} {args : Array Value} {C : String} {x z y : MethodName} (h : (Cond.selects C x z).before args s = true) (hc : z.cls = y.cls) (hp : s.PrivateAt y) (hi : (Cond.instanceMethod y).before args s = true) (hy : y.cls ≠ "java/lang/invoke/MethodHandle" ∧ y.cls ≠ "java/lang/invoke/VarHandle") : (Cond.selects y.cls y y).before args s = true := by
  obtain ⟨c2, r2, m2, -, -, q3, -, kP, hkP, hkPi⟩ := Cond.selects_spec h
  exact selects_self_of_private (hc ▸ findClass_of_methodNamed q3) hkP hkPi hp hi hy
end New
/-- which slots of the cells of h0 may hold something else in h: (x, none): any of x's -/
def KeepF (h0 h : Heap) (ws : List (Addr × Option Nat)) : Prop := ∀ (x : Addr) (c c' : Cell), h0[x]? = some c → h[x]? = some c' → ∀ j, (x, none) ∉ ws → (x, some j) ∉ ws → c'.slots[j]? = c.slots[j]?
section Kf
variable {Z : State} {h h' h0 : Heap} {a b x : Addr} {C n d : String} {v w : Value} {sl : Nat} {ws' : List Addr} {fs fs' : List (Addr × Option Nat)} {o o' : Option Nat}
theorem KeepF.refl (h : Heap) (fs : List (Addr × Option Nat)) : KeepF h h fs := fun x c c' q q' j _ _ => by cases q.symm.trans q'; rfl
theorem KeepF.ext {ws : List Addr} (K : KeepF h0 h fs) (Kp : Keep h0 h ws) (E : Ext h h') : KeepF h0 h' fs := fun x c c' q q' j r1 r2 => by
  obtain ⟨c1, q1, -⟩ := Kp.2.2 x c q
  rw [← Option.some.inj ((E.2 x c1 q1).symm.trans q')]
  exact K x c c1 q q1 j r1 r2
theorem KeepF.trans {ws : List Addr} (K : KeepF h0 h fs) (Kp : Keep h0 h ws) (K' : KeepF h h' fs') (q : ∀ y ∈ fs', y ∈ fs ∨ (y.1, none) ∈ fs ∨ h0.size ≤ y.1) : KeepF h0 h' fs := fun x c c' q0 q' j r1 r2 => by
  obtain ⟨c1, q1, -⟩ := Kp.2.2 x c q0
  have lt := (Array.getElem?_eq_some_iff.mp q0).1
  have a1 : (x, none) ∉ fs' := fun z => (q _ z).elim r1 fun u => u.elim r1 fun u => absurd lt (Nat.not_lt.mpr u)
  have a2 : (x, some j) ∉ fs' := fun z => (q _ z).elim r2 fun u => u.elim r1 fun u => absurd lt (Nat.not_lt.mpr u)
  rw [K' x c1 c' q1 q' j a1 a2, K x c c1 q0 q1 j r1 r2]
theorem KeepF.of_wr (W : Wr h h' a sl v) : KeepF h h' [(a, some sl)] := fun x c c' q q' j r1 r2 => by
  obtain ⟨cb, e1, -, -, -, e5, e6, -⟩ := wr_at W q
  cases e1.symm.trans q'
  by_cases z : x = a
  · subst z
    exact e6 j fun u => r2 (by simp [u])
  · rw [e5 z]
theorem KeepF.wr {ws : List Addr} (K : KeepF h0 h fs) (Kp : Keep h0 h ws) (W : Wr h h' a sl v) (q : (a, some sl) ∈ fs ∨ (a, none) ∈ fs ∨ h0.size ≤ a) : KeepF h0 h' fs := K.trans Kp (KeepF.of_wr W) fun y hy => by cases List.mem_singleton.mp hy; exact q
theorem KeepF.of_keep {ws : List Addr} (Kp : Keep h0 h ws) (q : ∀ y ∈ ws, (y, none) ∈ fs) : KeepF h0 h fs := fun x c c' e e' j r1 r2 => by
  by_cases z : x ∈ ws
  · exact absurd (q x z) r1
  · cases (Kp.2.1 x c e z).symm.trans e'; rfl
theorem Fld.keepF {ws : List Addr} (F : Fld Z h a C n d v) (Kp : Keep h h' ws) (K : KeepF h h' fs) (q1 : (a, none) ∉ fs) (q2 : (a, some (Jvm.RoadKit.slotOf Z C n d)) ∉ fs) : Fld Z h' a C n d v := by
  obtain ⟨cell, cf, k, i, f, h1, h2, h3, h4, h5, h6, h7⟩ := F
  obtain ⟨c', e1, e2, e3, e4⟩ := Kp.2.2 a cell h1
  have es : slotOf Z C n d = f.slot := by simp [slotOf, h2]
  rw [es] at q2
  exact ⟨c', cf, k, i, f, e1, h2, h3, by rw [e3]; exact h4, by rw [e3]; exact h5, by rw [e2]; exact h6, by rw [K a cell c' h1 e1 _ q1 q2]; exact h7⟩
theorem fnin0 {y : Addr × Option Nat} : y ∉ ([] : List (Addr × Option Nat)) := fun q => nomatch q
theorem fninA (q : x ≠ b) (r : (x, o) ∉ fs) : (x, o) ∉ (b, o') :: fs := fun z => (List.mem_cons.mp z).elim (fun u => q (congrArg Prod.fst u)) r
theorem fninB (q : o ≠ o') (r : (x, o) ∉ fs) : (x, o) ∉ (b, o') :: fs := fun z => (List.mem_cons.mp z).elim (fun u => q (congrArg Prod.snd u)) r
theorem fall0 {P : Addr × Option Nat → Prop} : ∀ y ∈ ([] : List (Addr × Option Nat)), P y := fun _ q => nomatch q
theorem fallS {P : Addr × Option Nat → Prop} {y : Addr × Option Nat} (q : P y) (r : ∀ x ∈ fs, P x) : ∀ x ∈ y :: fs, P x := fun x z => (List.mem_cons.mp z).elim (fun u => u ▸ q) (r x)
end Kf
end Jvm.RoadKit
namespace Jvm.RoadKit
open Jvm.FP.Core
/-- v is a double's value, in units of the least one -/
def own_rep (v : Nat) : Prop := ∃ c q, Jvm.FP.Core.fits b64 (.fin false c q) ∧ inUnits c q b64.qmin = v
/-- A / B of these units, rounded -/
def own_rnd (A B : Nat) : Nat := zmag b64 (roundRatio b64 false A B b64.qmin)
theorem own_iu (A : Nat) (e : Int) : inUnits A e e = A := by unfold inUnits; rw [Int.sub_self]; exact Nat.mul_one A
theorem own_pw (e : Int) : 2 ^ (e - e).toNat = 1 := by rw [Int.sub_self]; rfl
theorem own_rnd_le {A B v : Nat} (hB : 0 < B) (hv : own_rep v) (h : A ≤ v * B) : own_rnd A B ≤ v := by
  obtain ⟨c, q, hf, rfl⟩ := hv
  exact zmag_roundRatio_le good_b64 (V := .fin false c q) (e0 := b64.qmin) hB hf Datum.noConfusion (Int.le_refl _) (Int.le_refl _) (by rw [own_iu, own_pw, Nat.mul_one]; exact h)
theorem own_rnd_ge {A B v : Nat} (hB : 0 < B) (hv : own_rep v) (h : v * B ≤ A) : v ≤ own_rnd A B := by
  obtain ⟨c, q, hf, rfl⟩ := hv
  exact zmag_roundRatio_ge good_b64 (V := .fin false c q) (e0 := b64.qmin) hB hf (Int.le_refl _) (Int.le_refl _) (by rw [own_iu, own_pw, Nat.mul_one]; exact h)
theorem own_rnd_eq {A B v : Nat} (hB : 0 < B) (hv : own_rep v) (h : A = v * B) : own_rnd A B = v :=
  Nat.le_antisymm (own_rnd_le hB hv (Nat.le_of_eq h)) (own_rnd_ge hB hv (Nat.le_of_eq h.symm))
/-- what is at most a double rounds to a finite one -/
theorem own_rnd_fin {A B v : Nat} (hB : 0 < B) (hv : own_rep v) (h : A ≤ v * B) : ∃ c q, roundRatio b64 false A B b64.qmin = .fin false c q ∧ Jvm.FP.Core.fits b64 (.fin false c q) ∧ inUnits c q b64.qmin = own_rnd A B := by
  have h1 := own_rnd_le hB hv h
  have hfit := roundRatio_fits good_b64 false A hB b64.qmin
  unfold own_rnd at h1 ⊢
  rcases roundRatio_cases b64 false A B b64.qmin with ⟨c, q, e⟩ | e
  · rw [e] at h1 hfit ⊢
    exact ⟨c, q, rfl, hfit, rfl⟩
  · exfalso
    obtain ⟨c, q, hf, rfl⟩ := hv
    have h2 := zmag_lt_top good_b64 hf
    rw [e] at h1
    have h3 : b64.tails * 2 ^ (b64.exps - 2) ≤ inUnits c q b64.qmin := h1
    omega
theorem own_rnd_mono {A A' B v : Nat} (hB : 0 < B) (hv : own_rep v) (h : A' ≤ v * B) (hA : A ≤ A') : own_rnd A B ≤ own_rnd A' B := by
  by_cases hAA : A = A'
  · rw [hAA]; exact Nat.le_refl _
  obtain ⟨c, q, e1, f1, z1⟩ := own_rnd_fin hB hv (Nat.le_trans hA h)
  obtain ⟨c', q', e2, f2, z2⟩ := own_rnd_fin hB hv h
  have n1 := roundRatio_nearest good_b64 (e0 := b64.qmin) hB e1 f2.1 f2.2.1 (Int.le_refl _) (Int.le_refl _)
  have n2 := roundRatio_nearest good_b64 (e0 := b64.qmin) hB e2 f1.1 f1.2.1 (Int.le_refl _) (Int.le_refl _)
  have l1 := own_rnd_le hB (v := own_rnd A' B) ⟨c', q', f2, z2⟩ (A := A)
  have l2 := own_rnd_ge hB (v := own_rnd A B) ⟨c, q, f1, z1⟩ (A := A')
  unfold distance at n1 n2
  rw [own_iu, z1, z2] at n1 n2
  refine Nat.le_of_not_lt fun hlt => ?_
  have k1 : ¬ A ≤ own_rnd A' B * B := fun g => by have := l1 g; omega
  have k2 : ¬ own_rnd A B * B ≤ A' := fun g => by have := l2 g; omega
  rw [← Int.natCast_mul, ← Int.natCast_mul] at n1 n2
  generalize own_rnd A B * B = x at *
  generalize own_rnd A' B * B = y at *
  omega
theorem own_rep_of {n k : Nat} (hn : n < 2 ^ 53) (h1 : 52 ≤ k) (h2 : k ≤ 2044) : own_rep (n * 2 ^ k) := by
  by_cases h0 : n = 0
  · subst h0
    exact ⟨0, b64.qmin, zero_fits good_b64 false, by rw [own_iu, Nat.zero_mul]⟩
  · have l1 : 2 ^ n.log2 ≤ n := Nat.log2_self_le h0
    have l2 : n < 2 ^ (n.log2 + 1) := Nat.lt_log2_self
    have l3 : n.log2 < 53 := (Nat.pow_lt_pow_iff_right (by decide : 1 < 2)).mp (Nat.lt_of_le_of_lt l1 hn)
    generalize n.log2 = L at l1 l2 l3
    have hq : b64.qmin = -1074 := by decide
    have hq2 : b64.qmax = 971 := by decide
    refine ⟨n * 2 ^ (52 - L), (k : Int) + L - 52 - 1074, ⟨?_, by rw [hq]; omega, by rw [hq2]; omega, .inr ?_⟩, ?_⟩
    · show n * 2 ^ (52 - L) < 2 ^ 53
      calc n * 2 ^ (52 - L) < 2 ^ (L + 1) * 2 ^ (52 - L) := Nat.mul_lt_mul_of_pos_right l2 (Nat.two_pow_pos _)
        _ = 2 ^ 53 := by rw [← Nat.pow_add]; congr 1; omega
    · show 2 ^ 52 ≤ n * 2 ^ (52 - L)
      calc 2 ^ 52 = 2 ^ L * 2 ^ (52 - L) := by rw [← Nat.pow_add]; congr 1; omega
        _ ≤ n * 2 ^ (52 - L) := Nat.mul_le_mul_right _ l1
    · unfold inUnits
      rw [hq, Nat.mul_assoc, ← Nat.pow_add]
      congr 2; omega
/-- the rounding's error, for what is at most 2 ^ 52 of the units W -/
theorem own_rnd_err {A B k : Nat} (hB : 0 < B) (h1 : 52 ≤ k) (h2 : k ≤ 2044) (h : A ≤ 2 ^ 52 * 2 ^ k * B) : A ≤ (own_rnd A B + 2 ^ k) * B ∧ own_rnd A B * B ≤ A + 2 ^ k * B := by
  have hW : 0 < 2 ^ k := Nat.two_pow_pos k
  generalize hw : 2 ^ k = W at *
  have hWB : 0 < W * B := Nat.mul_pos hW hB
  have hn : A / (W * B) ≤ 2 ^ 52 := by
    refine Nat.div_le_of_le_mul ?_
    rw [Nat.mul_comm (W * B), ← Nat.mul_assoc]; exact h
  have d1 := Nat.div_add_mod A (W * B)
  have d2 := Nat.mod_lt A hWB
  have c1 : W * B * (A / (W * B)) = A / (W * B) * W * B := by rw [Nat.mul_comm (W * B), Nat.mul_assoc]
  generalize A / (W * B) = n at *
  have r1 : own_rep (n * W) := hw ▸ own_rep_of (by omega) h1 h2
  have r2 : own_rep ((n + 1) * W) := hw ▸ own_rep_of (by omega) h1 h2
  have g1 := own_rnd_ge hB r1 (A := A) (by omega)
  have e2 : (n + 1) * W * B = n * W * B + W * B := by rw [Nat.add_mul, Nat.add_mul, Nat.one_mul]
  have g2 := own_rnd_le hB r2 (A := A) (by omega)
  have g1' := Nat.mul_le_mul_right B g1
  have g2' := Nat.mul_le_mul_right B g2
  rw [Nat.add_mul]
  omega
/-- the double's value: not negative, finite -/
def own_P (a : UInt64) (z : Nat) : Prop := ∃ c q, val64 a = .fin false c q ∧ inUnits c q b64.qmin = z
theorem own_P.rep {a : UInt64} {z : Nat} (h : own_P a z) : own_rep z := by
  obtain ⟨c, q, e, h1⟩ := h
  exact ⟨c, q, e ▸ val64_fits a, h1⟩
theorem own_P.num {a : UInt64} {z : Nat} (h : own_P a z) : val64 a ≠ .nan := by
  obtain ⟨c, q, e, h1⟩ := h
  rw [e]; exact Datum.noConfusion
theorem own_P.zval {a : UInt64} {z : Nat} (h : own_P a z) : zval b64 (val64 a) = (z : Int) := by
  obtain ⟨c, q, e, rfl⟩ := h
  rw [e]; rfl
theorem own_P.fits {a : UInt64} {c : Nat} {q : Int} (e : val64 a = .fin false c q) : b64.qmin ≤ q := by
  have := val64_fits a
  rw [e] at this
  exact this.2.1
theorem own_P_ratio {r : UInt64} {A B A' B' v : Nat} {e : Int} (h : val64 r = roundRatio b64 false A B e) (hB : 0 < B) (hB' : 0 < B') (hc : A * B' * 2 ^ (e - b64.qmin).toNat = A' * B * 2 ^ (b64.qmin - e).toNat) (hv : own_rep v) (hA : A' ≤ v * B') : own_P r (own_rnd A' B') := by
  rw [roundRatio_congr hB hB' hc] at h
  obtain ⟨c, q, e1, f1, z1⟩ := own_rnd_fin hB' hv hA
  exact ⟨c, q, h.trans e1, z1⟩
theorem own_dadd {a b : UInt64} {x y v : Nat} (ha : own_P a x) (hb : own_P b y) (hv : own_rep v) (h : x + y ≤ v) : own_P (dadd a b) (own_rnd (x + y) 1) := by
  obtain ⟨c, q, ea, rfl⟩ := ha
  obtain ⟨d, r, eb, rfl⟩ := hb
  have fa := own_P.fits ea
  have fb := own_P.fits eb
  refine own_P_ratio (A := inUnits c q (min q r) + inUnits d r (min q r)) (B := 1) (e := min q r) ?_ (by decide) (by decide) ?_ hv (by omega)
  · rw [val64_dadd, ea, eb]
    have e1 : sumUnits false c q false d r (min q r) = ((inUnits c q (min q r) + inUnits d r (min q r) : Nat) : Int) := rfl
    show round b64 (.fin (sumSign false false (sumUnits false c q false d r (min q r))) (sumUnits false c q false d r (min q r)).natAbs (min q r)) = _
    rw [e1]
    generalize inUnits c q (min q r) + inUnits d r (min q r) = n
    have e2 : sumSign false false (n : Int) = false := by unfold sumSign; split <;> simp
    rw [e2]; rfl
  · rw [inUnits_move c (q := q) (e := b64.qmin) (r := min q r) (by omega) (by omega), inUnits_move d (q := r) (e := b64.qmin) (r := min q r) (by omega) (by omega), ← Nat.add_mul, show (b64.qmin - min q r).toNat = 0 by omega]
    simp
theorem own_dsub {a b : UInt64} {x y : Nat} (ha : own_P a x) (hb : own_P b y) (h : y ≤ x) : own_P (dsub a b) (own_rnd (x - y) 1) := by
  have hv := ha.rep
  obtain ⟨c, q, ea, rfl⟩ := ha
  obtain ⟨d, r, eb, rfl⟩ := hb
  have fa := own_P.fits ea
  have fb := own_P.fits eb
  have i1 := inUnits_move c (q := q) (e := b64.qmin) (r := min q r) (by omega) (by omega)
  have i2 := inUnits_move d (q := r) (e := b64.qmin) (r := min q r) (by omega) (by omega)
  have hle : inUnits d r (min q r) ≤ inUnits c q (min q r) := by
    rw [i1, i2] at h
    exact Nat.le_of_mul_le_mul_right h (Nat.two_pow_pos _)
  refine own_P_ratio (A := inUnits c q (min q r) - inUnits d r (min q r)) (B := 1) (e := min q r) ?_ (by decide) (by decide) ?_ hv (by omega)
  · rw [val64_dsub, ea, eb]
    have e1 : sumUnits false c q true d r (min q r) = ((inUnits c q (min q r) - inUnits d r (min q r) : Nat) : Int) := by
      show (inUnits c q (min q r) : Int) + -(inUnits d r (min q r) : Int) = _
      omega
    show round b64 (.fin (sumSign false true (sumUnits false c q true d r (min q r))) (sumUnits false c q true d r (min q r)).natAbs (min q r)) = _
    rw [e1]
    generalize inUnits c q (min q r) - inUnits d r (min q r) = n
    have e2 : sumSign false true (n : Int) = false := by unfold sumSign; split <;> simp
    rw [e2]; rfl
  · rw [i1, i2, ← Nat.sub_mul, show (b64.qmin - min q r).toNat = 0 by omega]
    simp
theorem own_dmul {a b : UInt64} {x y v : Nat} (ha : own_P a x) (hb : own_P b y) (hv : own_rep v) (h : x * y ≤ v * 2 ^ 1074) : own_P (dmul a b) (own_rnd (x * y) (2 ^ 1074)) := by
  obtain ⟨c, q, ea, rfl⟩ := ha
  obtain ⟨d, r, eb, rfl⟩ := hb
  have fa := own_P.fits ea
  have fb := own_P.fits eb
  have hq : b64.qmin = -1074 := by decide
  refine own_P_ratio (A := c * d) (B := 1) (e := q + r) ?_ (by decide) (Nat.two_pow_pos _) ?_ hv h
  · rw [val64_dmul, ea, eb]; rfl
  · unfold inUnits
    rw [hq] at fa fb ⊢
    rw [show c * 2 ^ (q - -1074).toNat * (d * 2 ^ (r - -1074).toNat) * 1 * 2 ^ (-1074 - (q + r)).toNat = c * d * (2 ^ (q - -1074).toNat * 2 ^ (r - -1074).toNat * 2 ^ (-1074 - (q + r)).toNat) by simp only [Nat.mul_one]; ac_rfl, Nat.mul_assoc (c * d), ← Nat.pow_add, ← Nat.pow_add, ← Nat.pow_add]
    congr 2; omega
theorem own_m5 (c p u d e : Nat) : c * p * u * d * e = c * d * (p * u * e) := by ac_rfl
theorem own_m4 (c d p e : Nat) : c * (d * p) * e = c * d * (p * e) := by ac_rfl
theorem own_ddiv {a b : UInt64} {x y v : Nat} (ha : own_P a x) (hb : own_P b y) (hy : 0 < y) (hv : own_rep v) (h : x * 2 ^ 1074 ≤ v * y) : own_P (ddiv a b) (own_rnd (x * 2 ^ 1074) y) := by
  obtain ⟨c, q, ea, rfl⟩ := ha
  obtain ⟨d, r, eb, rfl⟩ := hb
  have fa := own_P.fits ea
  have fb := own_P.fits eb
  have hq : b64.qmin = -1074 := by decide
  have hd : 0 < d := Nat.pos_of_ne_zero fun e => by rw [e] at hy; simp [inUnits] at hy
  refine own_P_ratio (A := c) (B := d) (e := q - r) ?_ hd hy ?_ hv h
  · rw [val64_ddiv, ea, eb]
    show (if d = 0 then (if c = 0 then Datum.nan else .inf (false != false)) else roundRatio b64 (false != false) c d (q - r)) = _
    rw [if_neg (by omega)]; rfl
  · unfold inUnits
    rw [hq] at fa fb ⊢
    rw [own_m5, own_m4, ← Nat.pow_add, ← Nat.pow_add, ← Nat.pow_add]
    congr 2; omega
theorem own_i2d {n : Int32} {k : Nat} (hk : n.toInt = k) : own_P (i2d n) (k * 2 ^ 1074) := by
  have hk2 : k < 2 ^ 53 := by have := n.toInt_lt; omega
  have hr : own_rep (k * 2 ^ 1074) := own_rep_of hk2 (by decide) (by decide)
  rw [← own_rnd_eq (B := 1) (by decide) hr (Nat.mul_one _).symm]
  refine own_P_ratio (A := k) (B := 1) (e := 0) ?_ (by decide) (by decide) ?_ hr (by omega)
  · rw [val64_i2d, hk]
    show round b64 (.fin (decide ((k : Int) < 0)) (k : Int).natAbs 0) = _
    rw [show decide ((k : Int) < 0) = false by simp]; rfl
  · rw [show b64.qmin = -1074 by decide]
    simp
theorem own_dcmp {a b : UInt64} {x y : Nat} (ha : own_P a x) (hb : own_P b y) : dcmp a b = some (compare (x : Int) (y : Int)) := by
  show order (val64 a) (val64 b) = _
  rw [order_zval good_b64 (val64_fits a) (val64_fits b) ha.num hb.num, ha.zval, hb.zval]
/-- a difference, between two doubles -/
theorem own_dsub_le {a b w : UInt64} {x y : Nat} (ha : own_P a x) (hb : own_P b y) (hw : val64 w ≠ .nan) (h : (x : Int) - y ≤ zval b64 (val64 w)) : zval b64 (val64 (dsub a b)) ≤ zval b64 (val64 w) := by
  have e1 := ha.zval
  have e2 := hb.zval
  obtain ⟨c, q, ea, -⟩ := ha
  obtain ⟨d, r, eb, -⟩ := hb
  rw [val64_dsub]
  refine sum_le good_b64 ⟨_, _, _, ea⟩ (by rw [eb]; exact ⟨_, _, _, rfl⟩) (val64_fits a) (negate_fits (val64_fits b)) (val64_fits w) hw ?_
  rw [zval_negate, e1, e2]; omega
theorem own_dsub_ge {a b w : UInt64} {x y : Nat} (ha : own_P a x) (hb : own_P b y) (hw : val64 w ≠ .nan) (h : zval b64 (val64 w) ≤ (x : Int) - y) : zval b64 (val64 w) ≤ zval b64 (val64 (dsub a b)) := by
  have e1 := ha.zval
  have e2 := hb.zval
  obtain ⟨c, q, ea, -⟩ := ha
  obtain ⟨d, r, eb, -⟩ := hb
  rw [val64_dsub]
  refine sum_ge good_b64 ⟨_, _, _, ea⟩ (by rw [eb]; exact ⟨_, _, _, rfl⟩) (val64_fits a) (negate_fits (val64_fits b)) (val64_fits w) hw ?_
  rw [zval_negate, e1, e2]; omega
theorem own_dsub_num {a b : UInt64} {x y : Nat} (ha : own_P a x) (hb : own_P b y) : val64 (dsub a b) ≠ .nan := by
  obtain ⟨c, q, ea, -⟩ := ha
  obtain ⟨d, r, eb, -⟩ := hb
  rw [val64_dsub, ea, eb]
  exact roundRatio_ne_nan _ _ _ _ _
end Jvm.RoadKit
namespace Jvm.RoadKit
open Jvm.FP.Core
theorem own_UT : (2 : Nat) ^ 1074 = 1024 * 2 ^ 1064 := by rw [show (1024 : Nat) = 2 ^ 10 by decide, ← Nat.pow_add]
theorem own_UW : (2 : Nat) ^ 1074 = 2 ^ 52 * 2 ^ 1022 := by rw [← Nat.pow_add]
theorem own_c1024 : own_P 4652218415073722368 (1024 * 2 ^ 1074) := ⟨2 ^ 52, -42, by decide +kernel, by decide +kernel⟩
theorem own_cone : own_P 4607182418800017408 (1024 * 2 ^ 1064) := ⟨2 ^ 52, -52, by decide +kernel, by decide +kernel⟩
theorem own_chalf : own_P 4602678819172646912 (512 * 2 ^ 1064) := ⟨2 ^ 52, -53, by decide +kernel, by decide +kernel⟩
theorem own_czero : own_P 0 0 := ⟨0, -1074, by decide +kernel, by decide +kernel⟩
theorem own_repT {n : Nat} (h : n < 2 ^ 53) : own_rep (n * 2 ^ 1064) := own_rep_of h (by decide) (by decide)
theorem own_id {a : UInt64} {v A B : Nat} (h : own_P a (own_rnd A B)) (hB : 0 < B) (hv : own_rep v) (e : A = v * B) : own_P a v := by rw [← own_rnd_eq hB hv e]; exact h
/-- k / 1024 -/
theorem own_frac {x : Int32} {k : Nat} (hx : x.toInt = k) (hk : k ≤ 1024) : own_P (Jvm.FP.ddiv (Jvm.FP.i2d x) 4652218415073722368) (k * 2 ^ 1064) := by
  have hr := own_repT (n := k) (by omega)
  have e : k * 2 ^ 1074 * 2 ^ 1074 = k * 2 ^ 1064 * (1024 * 2 ^ 1074) := by
    have := own_UT
    generalize (2 : Nat) ^ 1074 = U at *
    generalize (2 : Nat) ^ 1064 = T at *
    subst this; ac_rfl
  exact own_id (own_ddiv (own_i2d hx) own_c1024 (Nat.mul_pos (by decide) (Nat.two_pow_pos _)) hr (Nat.le_of_eq e)) (Nat.mul_pos (by decide) (Nat.two_pow_pos _)) hr e
theorem own_to {a : UInt64} {B : Nat} (h : own_P a (B * 2 ^ 1064)) (hB : B ≤ 512) : own_P (Jvm.FP.dsub 4607182418800017408 a) ((1024 - B) * 2 ^ 1064) :=
  own_id (own_dsub own_cone h (Nat.mul_le_mul_right _ (by omega))) (by decide) (own_repT (by omega)) (by rw [Nat.mul_one, Nat.sub_mul])
theorem own_wid {a b : UInt64} {B : Nat} (ha : own_P a (B * 2 ^ 1064)) (hb : own_P b ((1024 - B) * 2 ^ 1064)) (hB : B ≤ 512) : own_P (Jvm.FP.dsub b a) ((1024 - 2 * B) * 2 ^ 1064) :=
  own_id (own_dsub hb ha (Nat.mul_le_mul_right _ (by omega))) (by decide) (own_repT (by omega)) (by rw [Nat.mul_one, ← Nat.sub_mul]; congr 1; omega)
theorem own_small {x i : Nat} (hx : x ≤ 1024) (hi : i ≤ 256) : x * i < 2 ^ 53 := Nat.lt_of_le_of_lt (Nat.mul_le_mul hx hi) (by decide)
theorem own_mulv {a : UInt64} {x i : Nat} {y : Int32} (ha : own_P a (x * 2 ^ 1064)) (hx : x ≤ 1024) (hy : y.toInt = i) (hi : i ≤ 256) : own_P (Jvm.FP.dmul a (Jvm.FP.i2d y)) (x * i * 2 ^ 1064) := by
  have hr := own_repT (own_small hx hi)
  have e : x * 2 ^ 1064 * (i * 2 ^ 1074) = x * i * 2 ^ 1064 * 2 ^ 1074 := by
    generalize (2 : Nat) ^ 1074 = U
    generalize (2 : Nat) ^ 1064 = T
    ac_rfl
  exact own_id (own_dmul ha (own_i2d hy) hr (Nat.le_of_eq e)) (Nat.two_pow_pos _) hr e
/-- x / 1024 * i / n, rounded -/
def own_q (x i n : Nat) : Nat := own_rnd (x * i * 2 ^ 1064 * 2 ^ 1074) (n * 2 ^ 1074)
theorem own_npos {n : Nat} (h : 1 ≤ n) : 0 < n * 2 ^ 1074 := Nat.mul_pos (by omega) (Nat.two_pow_pos _)
theorem own_qa {x i n : Nat} (hi : i ≤ n) : x * i * 2 ^ 1064 * 2 ^ 1074 ≤ x * 2 ^ 1064 * (n * 2 ^ 1074) := by
  generalize (2 : Nat) ^ 1074 = U
  generalize (2 : Nat) ^ 1064 = T
  rw [show x * T * (n * U) = x * n * T * U by ac_rfl]
  exact Nat.mul_le_mul_right _ (Nat.mul_le_mul_right _ (Nat.mul_le_mul_left _ hi))
theorem own_divv {a : UInt64} {x i n : Nat} {y : Int32} (ha : own_P a (x * i * 2 ^ 1064)) (hx : x ≤ 1024) (hi : i ≤ n) (hy : y.toInt = n) (hn : 1 ≤ n) : own_P (Jvm.FP.ddiv a (Jvm.FP.i2d y)) (own_q x i n) :=
  own_ddiv ha (own_i2d hy) (own_npos hn) (own_repT (n := x) (by omega)) (own_qa hi)
theorem own_q_le {x i n : Nat} (hx : x ≤ 1024) (hi : i ≤ n) (hn : 1 ≤ n) : own_q x i n ≤ x * 2 ^ 1064 := own_rnd_le (own_npos hn) (own_repT (by omega)) (own_qa hi)
theorem own_q_mono {x i i' n : Nat} (hx : x ≤ 1024) (hi : i ≤ i') (hi' : i' ≤ n) (hn : 1 ≤ n) : own_q x i n ≤ own_q x i' n :=
  own_rnd_mono (own_npos hn) (own_repT (n := x) (by omega)) (own_qa hi') (Nat.mul_le_mul_right _ (Nat.mul_le_mul_right _ (Nat.mul_le_mul_left _ hi)))
theorem own_q_zero {x n : Nat} (hn : 1 ≤ n) : own_q x 0 n = 0 := own_rnd_eq (own_npos hn) (by have := own_repT (n := 0) (by decide); rwa [Nat.zero_mul] at this) (by rw [Nat.mul_zero, Nat.zero_mul, Nat.zero_mul, Nat.zero_mul])
/-- the level at i -/
def own_l (B i n : Nat) : Nat := own_rnd (B * 2 ^ 1064 + own_q (1024 - 2 * B) i n) 1
theorem own_la {B i n : Nat} (hB : B ≤ 512) (hi : i ≤ n) (hn : 1 ≤ n) : B * 2 ^ 1064 + own_q (1024 - 2 * B) i n ≤ (1024 - B) * 2 ^ 1064 := by
  have h := own_q_le (x := 1024 - 2 * B) (by omega) hi hn
  have e : (1024 - B) * 2 ^ 1064 = B * 2 ^ 1064 + (1024 - 2 * B) * 2 ^ 1064 := by rw [← Nat.add_mul]; congr 1; omega
  rw [e]
  exact Nat.add_le_add_left h _
theorem own_lev {a b : UInt64} {B i n : Nat} {x y : Int32} (ha : own_P a (B * 2 ^ 1064)) (hb : own_P b ((1024 - B) * 2 ^ 1064)) (hB : B ≤ 512) (hx : x.toInt = i) (hi : i ≤ n) (hy : y.toInt = n) (hn : 1 ≤ n) (hn2 : n ≤ 256) :
    own_P (Jvm.FP.dadd a (Jvm.FP.ddiv (Jvm.FP.dmul (Jvm.FP.dsub b a) (Jvm.FP.i2d x)) (Jvm.FP.i2d y))) (own_l B i n) :=
  own_dadd ha (own_divv (own_mulv (own_wid ha hb hB) (by omega) hx (by omega)) (by omega) hi hy hn) (own_repT (n := 1024 - B) (by omega)) (own_la hB hi hn)
theorem own_l_top {B i n : Nat} (hB : B ≤ 512) (hi : i ≤ n) (hn : 1 ≤ n) : own_l B i n ≤ (1024 - B) * 2 ^ 1064 := own_rnd_le (by decide) (own_repT (by omega)) (by rw [Nat.mul_one]; exact own_la hB hi hn)
theorem own_l_mono {B i i' n : Nat} (hB : B ≤ 512) (hi : i ≤ i') (hi' : i' ≤ n) (hn : 1 ≤ n) : own_l B i n ≤ own_l B i' n :=
  own_rnd_mono (by decide) (own_repT (n := 1024 - B) (by omega)) (by rw [Nat.mul_one]; exact own_la hB hi' hn) (Nat.add_le_add_left (own_q_mono (by omega) hi hi' hn) _)
theorem own_l_zero {B n : Nat} (hB : B ≤ 512) (hn : 1 ≤ n) : own_l B 0 n = B * 2 ^ 1064 := own_rnd_eq (by decide) (own_repT (by omega)) (by rw [own_q_zero hn, Nat.add_zero, Nat.mul_one])
/-- what it is held against -/
def own_r (B i n : Nat) : Nat := own_rnd ((B * n + (1024 - 2 * B) * i) * 2 ^ 1074 * 2 ^ 1074) (1024 * n * 2 ^ 1074)
theorem own_mle {B i n : Nat} (hB : B ≤ 512) (hi : i ≤ n) : B * n + (1024 - 2 * B) * i ≤ 1024 * n := by
  have h : (1024 - 2 * B) * i ≤ (1024 - 2 * B) * n := Nat.mul_le_mul_left _ hi
  have e : 1024 * n = (2 * B) * n + (1024 - 2 * B) * n := by rw [← Nat.add_mul]; congr 1; omega
  have e2 : (2 * B) * n = B * n + B * n := by rw [← Nat.add_mul]; congr 1; omega
  omega
theorem own_rpos {n : Nat} (h : 1 ≤ n) : 0 < 1024 * n * 2 ^ 1074 := Nat.mul_pos (by omega) (Nat.two_pow_pos _)
theorem own_ra {B i n : Nat} (hB : B ≤ 512) (hi : i ≤ n) : (B * n + (1024 - 2 * B) * i) * 2 ^ 1074 * 2 ^ 1074 ≤ 1 * 2 ^ 1074 * (1024 * n * 2 ^ 1074) := by
  have h := own_mle hB hi
  generalize B * n + (1024 - 2 * B) * i = m at *
  generalize (2 : Nat) ^ 1074 = U
  rw [show 1 * U * (1024 * n * U) = 1024 * n * U * U by rw [Nat.one_mul]; ac_rfl]
  exact Nat.mul_le_mul_right _ (Nat.mul_le_mul_right _ h)
theorem own_ref {B i n : Nat} {x y : Int32} (hB : B ≤ 512) (hx : x.toInt = (B * n + (1024 - 2 * B) * i : Nat)) (hi : i ≤ n) (hy : y.toInt = n) (hn : 1 ≤ n) (hn2 : n ≤ 256) :
    own_P (Jvm.FP.dmul 4652218415073722368 (Jvm.FP.i2d y)) (1024 * n * 2 ^ 1074) ∧ own_P (Jvm.FP.ddiv (Jvm.FP.i2d x) (Jvm.FP.dmul 4652218415073722368 (Jvm.FP.i2d y))) (own_r B i n) := by
  have hr : own_rep (1024 * n * 2 ^ 1074) := own_rep_of (own_small (Nat.le_refl _) hn2) (by decide) (by decide)
  have e : 1024 * 2 ^ 1074 * (n * 2 ^ 1074) = 1024 * n * 2 ^ 1074 * 2 ^ 1074 := by
    generalize (2 : Nat) ^ 1074 = U
    ac_rfl
  have h1 : own_P (Jvm.FP.dmul 4652218415073722368 (Jvm.FP.i2d y)) (1024 * n * 2 ^ 1074) := own_id (own_dmul own_c1024 (own_i2d hy) hr (Nat.le_of_eq e)) (Nat.two_pow_pos _) hr e
  exact ⟨h1, own_ddiv (own_i2d hx) h1 (own_rpos hn) (own_rep_of (n := 1) (by decide) (by decide) (by decide)) (own_ra hB hi)⟩
theorem own_cancel {a b c : Nat} (hc : 0 < c) (h : a * c ≤ b * c) : a ≤ b := Nat.le_of_mul_le_mul_right h hc
theorem own_dist {B i n : Nat} (hB : B ≤ 512) (hi : i ≤ n) (hn : 1 ≤ n) : own_l B i n ≤ own_r B i n + 3 * 2 ^ 1022 ∧ own_r B i n ≤ own_l B i n + 3 * 2 ^ 1022 := by
  have q1 := own_rnd_err (k := 1022) (own_npos hn) (by decide) (by decide) (A := (1024 - 2 * B) * i * 2 ^ 1064 * 2 ^ 1074) (by
    refine Nat.le_trans (own_qa hi) (Nat.mul_le_mul_right _ ?_)
    rw [← own_UW, own_UT]; exact Nat.mul_le_mul_right _ (by omega))
  have q2 := own_rnd_err (k := 1022) (B := 1) (by decide) (by decide) (by decide) (A := B * 2 ^ 1064 + own_q (1024 - 2 * B) i n) (by
    refine Nat.le_trans (own_la hB hi hn) ?_
    rw [← own_UW, own_UT, Nat.mul_one]; exact Nat.mul_le_mul_right _ (by omega))
  have q3 := own_rnd_err (k := 1022) (own_rpos hn) (by decide) (by decide) (A := (B * n + (1024 - 2 * B) * i) * 2 ^ 1074 * 2 ^ 1074) (by
    rw [← own_UW]; have := own_ra (B := B) hB hi; rwa [Nat.one_mul] at this)
  have hU := own_UT
  have hU0 : 0 < (2 : Nat) ^ 1074 := Nat.two_pow_pos _
  change _ ≤ (own_q (1024 - 2 * B) i n + _) * _ ∧ own_q (1024 - 2 * B) i n * _ ≤ _ at q1
  change _ ≤ (own_l B i n + _) * _ ∧ own_l B i n * _ ≤ _ at q2
  change _ ≤ (own_r B i n + _) * _ ∧ own_r B i n * _ ≤ _ at q3
  generalize own_q (1024 - 2 * B) i n = y at *
  generalize own_l B i n = z at *
  generalize own_r B i n = r at *
  generalize (1024 - 2 * B) = x at *
  generalize (2 : Nat) ^ 1022 = W at *
  generalize (2 : Nat) ^ 1064 = T at *
  generalize (2 : Nat) ^ 1074 = U at *
  obtain ⟨a1, a2⟩ := q1
  obtain ⟨b1, b2⟩ := q2
  obtain ⟨c1, c2⟩ := q3
  have a1' : x * i * T ≤ (y + W) * n := own_cancel hU0 (by rw [Nat.mul_assoc (y + W)]; exact a1)
  have a2' : y * n ≤ x * i * T + W * n := own_cancel hU0 (by rw [Nat.add_mul, Nat.mul_assoc y, Nat.mul_assoc W]; exact a2)
  have c1' : (B * n + x * i) * T ≤ (r + W) * n := by
    refine own_cancel (c := 1024 * U) (Nat.mul_pos (by decide) hU0) ?_
    rw [show (B * n + x * i) * T * (1024 * U) = (B * n + x * i) * (1024 * T) * U by ac_rfl, ← hU, show (r + W) * n * (1024 * U) = (r + W) * (1024 * n * U) by ac_rfl]
    exact c1
  have c2' : r * n ≤ (B * n + x * i) * T + W * n := by
    refine own_cancel (c := 1024 * U) (Nat.mul_pos (by decide) hU0) ?_
    rw [Nat.add_mul, show (B * n + x * i) * T * (1024 * U) = (B * n + x * i) * (1024 * T) * U by ac_rfl, ← hU, show r * n * (1024 * U) = r * (1024 * n * U) by ac_rfl, show W * n * (1024 * U) = W * (1024 * n * U) by ac_rfl]
    exact c2
  have em : (B * n + x * i) * T = B * T * n + x * i * T := by rw [Nat.add_mul]; congr 1; ac_rfl
  have b1' := Nat.mul_le_mul_right n b1
  have b2' := Nat.mul_le_mul_right n b2
  simp only [Nat.add_mul, Nat.mul_one] at a1' a2' b1' b2' c1' c2' em
  constructor
  · refine own_cancel (c := n) (by omega) ?_
    rw [Nat.add_mul, Nat.mul_assoc 3]
    omega
  · refine own_cancel (c := n) (by omega) ?_
    rw [Nat.add_mul, Nat.mul_assoc 3]
    omega
theorem own_eps : (3 * 2 ^ 1022 : Nat) ≤ zval b64 (val64 4382569440205035030) ∧ zval b64 (val64 13605941477059810838) ≤ -((3 * 2 ^ 1022 : Nat) : Int) ∧ val64 4382569440205035030 ≠ .nan ∧ val64 13605941477059810838 ≠ .nan := by decide +kernel
end Jvm.RoadKit
namespace Jvm.RoadKit
open Jvm.FP.Core
theorem own_q_n {x n : Nat} (hx : x ≤ 1024) (hn : 1 ≤ n) : own_q x n n = x * 2 ^ 1064 := own_rnd_eq (own_npos hn) (own_repT (by omega)) (by
  generalize (2 : Nat) ^ 1074 = U
  generalize (2 : Nat) ^ 1064 = T
  ac_rfl)
theorem own_l_n {B n : Nat} (hB : B ≤ 512) (hn : 1 ≤ n) : own_l B n n = (1024 - B) * 2 ^ 1064 := own_rnd_eq (by decide) (own_repT (by omega)) (by
  rw [own_q_n (by omega) hn, Nat.mul_one, ← Nat.add_mul]; congr 1; omega)
theorem own_nan {a : UInt64} (h1 : val64 a ≠ .nan) : Jvm.Free.Fl.NoNaN64 a := by
  have h2 : ¬ infBits b64 < mag b64 a.toNat := fun q => h1 ((decode_nan _).mpr q)
  have e1 : infBits b64 = 9218868437227405312 := by decide +kernel
  have e2 : half b64 = 2 ^ 63 := by decide +kernel
  unfold Jvm.Free.Fl.NoNaN64
  rw [UInt64.le_iff_toNat_le, mask_toNat]
  unfold mag at h2
  rw [e1, e2] at h2
  have e3 : (0x7ff0000000000000 : UInt64).toNat = 9218868437227405312 := rfl
  rw [e3]
  omega
theorem own_nn {a : UInt64} {z : Nat} (h : own_P a z) : Jvm.Free.Fl.NoNaN64 a := own_nan h.num
end Jvm.RoadKit
namespace Jvm.RoadKit
open Sem ClassFile Op Lib Jvm.Stand Jvm.Free Jvm.LawKit
theorem own_of {n : Nat} (h : n < 2147483648) : (Int32.ofNat n).toInt = n := Int32.toInt_ofNat_of_lt (by omega)
theorem own_cl {n : Nat} (h : n < 2147483648) : (Int32.ofNat n).toNatClampNeg = n := by rw [Int32.toNatClampNeg, own_of h]; rfl
theorem own_nneg {n : Nat} (h : n < 2147483648) : ¬ Int32.ofNat n < 0 := by
  rw [Int32.lt_iff_toInt_lt, own_of h, show (0 : Int32).toInt = 0 from rfl]; omega
theorem own_ltN {i n : Nat} (h : i < n) (hn : n < 2147483648) : Int32.ofNat i < Int32.ofNat n := by
  rw [Int32.lt_iff_toInt_lt, own_of hn, own_of (by omega)]; omega
theorem own_leN {i n : Nat} (h : i ≤ n) (hn : n < 2147483648) : ¬ Int32.ofNat n < Int32.ofNat i := by
  rw [Int32.lt_iff_toInt_lt, own_of hn, own_of (by omega)]; omega
theorem own_ltI {i n : Nat} (h : Int32.ofNat i < Int32.ofNat n) (hi : i < 2147483648) (hn : n < 2147483648) : i < n := by
  rw [Int32.lt_iff_toInt_lt, own_of hn, own_of hi] at h; omega
theorem own_one (i : Nat) : Int32.ofNat i + (1 : Int32) = Int32.ofNat (i + 1) := (Int32.ofNat_add i 1).symm
theorem own_back {x : Int32} (h : 0 ≤ x.toInt) : x = Int32.ofNat x.toInt.toNat := by
  have h2 := x.toInt_lt
  apply Int32.toInt_inj.mp
  rw [own_of (by omega)]; omega
theorem own_bb (p : Int32) : ∃ B : Nat, B ≤ 512 ∧ (p &&& (2147483647 : Int32)) % (513 : Int32) = Int32.ofNat B := by
  have h1 := c_mask p 2147483647 31 (by decide) (by decide)
  have h2 := (c_irem (p &&& (2147483647 : Int32)) 513 513 rfl).1 (by rw [h1]; omega)
  exact ⟨_, by omega, own_back (by omega)⟩
theorem own_ss (p : Int32) : ∃ n : Nat, 1 ≤ n ∧ n ≤ 256 ∧ (p &&& (255 : Int32)) + (1 : Int32) = Int32.ofNat n := by
  have h1 := c_mask p 255 8 (by decide) (by decide)
  have h2 : p &&& (255 : Int32) = Int32.ofNat _ := own_back (by omega)
  have h3 : (p &&& (255 : Int32)).toInt.toNat ≤ 255 := by omega
  generalize (p &&& (255 : Int32)).toInt.toNat = k at *
  exact ⟨k + 1, by omega, by omega, by rw [h2, own_one]⟩
theorem own_nz {n : Nat} (hn : n ≤ 256) : Int32.ofNat n + (1 : Int32) ≠ 0 := fun h => by
  rw [own_one, ← Int32.toInt_inj, own_of (by omega), show (0 : Int32).toInt = 0 from rfl] at h; omega
theorem own_jj (p : Int32) {n : Nat} (hn : n ≤ 256) : ∃ i : Nat, i ≤ n ∧ (p &&& (2147483647 : Int32)) % (Int32.ofNat n + (1 : Int32)) = Int32.ofNat i := by
  have h1 := c_mask p 2147483647 31 (by decide) (by decide)
  have h2 := (c_irem (p &&& (2147483647 : Int32)) (Int32.ofNat n + (1 : Int32)) ((n + 1 : Nat) : Int) (by rw [own_one]; exact own_of (by omega))).1 (by rw [h1]; omega)
  have h3 := Int.emod_nonneg (p &&& (2147483647 : Int32)).toInt (b := ((n + 1 : Nat) : Int)) (by omega)
  have h4 := Int.emod_lt_of_pos (p &&& (2147483647 : Int32)).toInt (b := ((n + 1 : Nat) : Int)) (by omega)
  exact ⟨_, by omega, own_back (by omega)⟩
theorem own_bmod {x : Int} (h1 : -2147483648 ≤ x) (h2 : x < 2147483648) : x.bmod (2 ^ 32) = x := by
  rw [Int.bmod_def]
  split <;> omega
theorem own_sub1 {a : Int32} {k B : Nat} (ha : a.toInt = k) (h : B ≤ k) : (a - Int32.ofNat B).toInt = ((k - B : Nat) : Int) := by
  have h1 := a.toInt_lt
  rw [Int32.toInt_sub, ha, own_of (by omega), own_bmod (by omega) (by omega)]; omega
theorem own_mulN {a b : Nat} : Int32.ofNat a * Int32.ofNat b = Int32.ofNat (a * b) := (Int32.ofNat_mul a b).symm
theorem own_m {B n i : Nat} (hB : B ≤ 512) (hn : n ≤ 256) (hi : i ≤ n) : ((Int32.ofNat B * Int32.ofNat n) + (((1024 : Int32) - ((2 : Int32) * Int32.ofNat B)) * Int32.ofNat i)).toInt = ((B * n + (1024 - 2 * B) * i : Nat) : Int) := by
  have e1 : (2 : Int32) * Int32.ofNat B = Int32.ofNat (2 * B) := own_mulN (a := 2)
  have e2 : (1024 : Int32) - Int32.ofNat (2 * B) = Int32.ofNat (1024 - 2 * B) := Int32.toInt_inj.mp (by
    rw [own_sub1 (a := 1024) (k := 1024) (B := 2 * B) rfl (by omega), own_of (by omega)])
  have b1 : B * n ≤ 512 * 256 := Nat.mul_le_mul hB hn
  have b2 : (1024 - 2 * B) * i ≤ 1024 * 256 := Nat.mul_le_mul (by omega) (by omega)
  rw [e1, e2, own_mulN, own_mulN, ← Int32.ofNat_add, own_of (by omega)]
/-- the array's values, i of them -/
def own_vals (f : Nat → UInt64) (i : Nat) : List Value := (List.range i).map fun j => .double (f j)
theorem own_len (f : Nat → UInt64) (i : Nat) : (own_vals f i).length = i := by simp [own_vals]
theorem own_at (f : Nat → UInt64) {i j : Nat} (h : j < i) (d : Value) : (own_vals f i).getD j d = .double (f j) := by simp [own_vals, List.getD_eq_getElem?_getD, h]
theorem own_upd (f : Nat → UInt64) (i : Nat) (x : Value) : (own_vals f i ++ [x]).set i (.double (f i)) = own_vals f (i + 1) := by
  have h := own_len f i
  have e : own_vals f (i + 1) = own_vals f i ++ [.double (f i)] := by simp [own_vals, List.range_succ]
  rw [e]
  generalize own_vals f i = vs at *
  subst h; simp
theorem own_fin (f : Nat → UInt64) (n : Nat) (x : UInt64) : (own_vals f (n + 1)).set n (.double x) = own_vals (fun i => if i = n then x else f i) (n + 1) := by
  apply List.ext_getElem?
  intro k
  simp only [own_vals, List.getElem?_set, List.length_map, List.length_range, List.getElem?_map]
  by_cases h : n = k
  · subst h
    simp
  · by_cases h2 : k < n + 1
    · simp [h, h2, Ne.symm h]
    · simp [h, h2]
def own_lvv (a b : UInt64) (n i : Nat) : UInt64 := FP.dadd a (FP.ddiv (FP.dmul (FP.dsub b a) (FP.i2d (Int32.ofNat i))) (FP.i2d (Int32.ofNat n)))
def own_g (a b : UInt64) (n i : Nat) : UInt64 := if i = n then b else own_lvv a b n i
theorem own_lvP {a b : UInt64} {B i n : Nat} (ha : own_P a (B * 2 ^ 1064)) (hb : own_P b ((1024 - B) * 2 ^ 1064)) (hB : B ≤ 512) (hi : i ≤ n) (hn : 1 ≤ n) (hn2 : n ≤ 256) : own_P (own_lvv a b n i) (own_l B i n) :=
  own_lev ha hb hB (own_of (by omega)) hi (own_of (by omega)) hn hn2
theorem own_gP {a b : UInt64} {B i n : Nat} (ha : own_P a (B * 2 ^ 1064)) (hb : own_P b ((1024 - B) * 2 ^ 1064)) (hB : B ≤ 512) (hn : 1 ≤ n) (hn2 : n ≤ 256) (hi : i ≤ n) : own_P (own_g a b n i) (own_l B i n) := by
  unfold own_g
  split
  · rename_i h; rw [h, own_l_n hB hn]; exact hb
  · exact own_lvP ha hb hB hi hn hn2
theorem own_ceq {a b : UInt64} {x : Nat} (ha : own_P a x) (hb : own_P b x) : cmpValue (FP.dcmp a b) .l = 0 := by
  rw [show FP.dcmp a b = _ from own_dcmp ha hb, (Jvm.FP.Core.compare_eq_iff _ _).mpr rfl]; rfl
theorem own_cge {o : Option Ordering} {x y : Int} (e : o = some (compare x y)) (h : y ≤ x) : ¬ cmpValue o .l < 0 := by
  subst e
  have h1 := Jvm.FP.Core.compare_lt_iff x y
  cases hc : compare x y with
  | lt => rw [hc] at h1; have := h1.mp rfl; omega
  | eq => decide
  | gt => decide
theorem own_cle {o : Option Ordering} {x y : Int} (e : o = some (compare x y)) (h : x ≤ y) : ¬ (0 : Int32) < cmpValue o .g := by
  subst e
  have h1 := Jvm.FP.Core.compare_gt_iff x y
  cases hc : compare x y with
  | gt => rw [hc] at h1; have := h1.mp rfl; omega
  | eq => decide
  | lt => decide
theorem own_cP {a b : UInt64} {x y : Nat} (ha : own_P a x) (hb : own_P b y) : FP.dcmp a b = some (compare (x : Int) (y : Int)) := own_dcmp ha hb
theorem own_cZ {a b : UInt64} (ha : Jvm.FP.Core.val64 a ≠ .nan) (hb : Jvm.FP.Core.val64 b ≠ .nan) : FP.dcmp a b = some (compare (Jvm.FP.Core.zval Jvm.FP.Core.b64 (Jvm.FP.Core.val64 a)) (Jvm.FP.Core.zval Jvm.FP.Core.b64 (Jvm.FP.Core.val64 b))) :=
  Jvm.FP.Core.order_zval Jvm.FP.Core.good_b64 (Jvm.FP.Core.val64_fits a) (Jvm.FP.Core.val64_fits b) ha hb
theorem own_hi {a b : UInt64} {x y : Nat} (ha : own_P a x) (hb : own_P b y) (h : x ≤ y + 3 * 2 ^ 1022) : ¬ (0 : Int32) < cmpValue (FP.dcmp (FP.dsub a b) 4382569440205035030) .g := by
  obtain ⟨e1, -, e3, -⟩ := own_eps
  exact own_cle (own_cZ (own_dsub_num ha hb) e3) (own_dsub_le ha hb e3 (by omega))
theorem own_lo {a b : UInt64} {x y : Nat} (ha : own_P a x) (hb : own_P b y) (h : y ≤ x + 3 * 2 ^ 1022) : ¬ cmpValue (FP.dcmp (FP.dsub a b) 13605941477059810838) .l < 0 := by
  obtain ⟨-, e2, -, e4⟩ := own_eps
  exact own_cge (own_cZ (own_dsub_num ha hb) e4) (own_dsub_ge ha hb e4 (by omega))
theorem own_loop {tb : Tables} {e : Env} {below : List Frame} {P : State → Outcome → Prop} {α : Type} {B : Nat → α → State} {H : Nat → α → Prop} {N : Nat} (h0 : ∀ a, H N a → ∃ t o, Steps tb e below (B N a) t ∧ P t o)
    (hs : ∀ i, i < N → (∀ a, H (i + 1) a → ∃ t o, Steps tb e below (B (i + 1) a) t ∧ P t o) → ∀ a, H i a → ∃ t o, Steps tb e below (B i a) t ∧ P t o) (a : α) (ha : H 0 a) : ∃ t o, Steps tb e below (B 0 a) t ∧ P t o := by
  have key : ∀ k i, i + k = N → ∀ a, H i a → ∃ t o, Steps tb e below (B i a) t ∧ P t o := by
    intro k
    induction k with
    | zero => intro i hi a ha; obtain rfl : i = N := by omega
              exact h0 a ha
    | succ k ih => intro i hi a ha; exact hs i (by omega) (ih (i + 1) (by omega)) a ha
  exact key N 0 (by omega) a ha
end Jvm.RoadKit
namespace Jvm.Pilot.@@N@@
open Jvm Jvm.ClassFile Sem Op Lib Jvm.Free Jvm.Stand Jvm.LawKit Jvm.RoadKit Bundle Jvm.Pilot.@@N@@.Jvm.D
theorem pd_0 : parseMethodDescriptor "(D)V" = some ⟨[.double], none⟩ := by decide +kernel
theorem pd_1 : parseMethodDescriptor "(I)[D" = some ⟨[.int], some (.array .double)⟩ := by decide +kernel
theorem pn_0 : plainName "com/example/hazeway/hazeway/QuantileBand" = true := by first | (simp [plainName, overriddenIn]; done) | decide +kernel
theorem pn_1 : plainName "com/example/hazeway/hazeway/QuantileBandLevelsPinLaw" = true := by first | (simp [plainName, overriddenIn]; done) | decide +kernel
theorem d1_0 : decode prog_81_method_1_code 0 = .ok (.aload_n 0, 1) := by decide +kernel
theorem d1_1 : decode prog_81_method_1_code 1 = .ok (.invokespecial 1, 3) := by decide +kernel
theorem d1_4 : decode prog_81_method_1_code 4 = .ok (.dload_n 1, 1) := by decide +kernel
theorem d1_5 : decode prog_81_method_1_code 5 = .ok (.dconst 0, 1) := by decide +kernel
theorem d1_6 : decode prog_81_method_1_code 6 = .ok (.dcmp .l, 1) := by decide +kernel
theorem d1_7 : decode prog_81_method_1_code 7 = .ok (.ifCond .lt 11, 3) := by decide +kernel
theorem d1_10 : decode prog_81_method_1_code 10 = .ok (.dload_n 1, 1) := by decide +kernel
theorem d1_11 : decode prog_81_method_1_code 11 = .ok (.ldc2_w 7, 3) := by decide +kernel
theorem d1_14 : decode prog_81_method_1_code 14 = .ok (.dcmp .g, 1) := by decide +kernel
theorem d1_15 : decode prog_81_method_1_code 15 = .ok (.ifCond .le 17, 3) := by decide +kernel
theorem d1_32 : decode prog_81_method_1_code 32 = .ok (.aload_n 0, 1) := by decide +kernel
theorem d1_33 : decode prog_81_method_1_code 33 = .ok (.dload_n 1, 1) := by decide +kernel
theorem d1_34 : decode prog_81_method_1_code 34 = .ok (.putfield 18, 3) := by decide +kernel
theorem d1_37 : decode prog_81_method_1_code 37 = .ok (.aload_n 0, 1) := by decide +kernel
theorem d1_38 : decode prog_81_method_1_code 38 = .ok (.dconst 1, 1) := by decide +kernel
theorem d1_39 : decode prog_81_method_1_code 39 = .ok (.dload_n 1, 1) := by decide +kernel
theorem d1_40 : decode prog_81_method_1_code 40 = .ok (.dsub, 1) := by decide +kernel
theorem d1_41 : decode prog_81_method_1_code 41 = .ok (.putfield 24, 3) := by decide +kernel
theorem d1_44 : decode prog_81_method_1_code 44 = .ok (.return_, 1) := by decide +kernel
theorem d3_0 : decode prog_81_method_3_code 0 = .ok (.iload_n 1, 1) := by decide +kernel
theorem d3_1 : decode prog_81_method_3_code 1 = .ok (.iconst 1, 1) := by decide +kernel
theorem d3_2 : decode prog_81_method_3_code 2 = .ok (.iadd, 1) := by decide +kernel
theorem d3_3 : decode prog_81_method_3_code 3 = .ok (.newarray .double, 2) := by decide +kernel
theorem d3_5 : decode prog_81_method_3_code 5 = .ok (.astore_n 2, 1) := by decide +kernel
theorem d3_6 : decode prog_81_method_3_code 6 = .ok (.iconst 0, 1) := by decide +kernel
theorem d3_7 : decode prog_81_method_3_code 7 = .ok (.istore_n 3, 1) := by decide +kernel
theorem d3_8 : decode prog_81_method_3_code 8 = .ok (.iload_n 3, 1) := by decide +kernel
theorem d3_9 : decode prog_81_method_3_code 9 = .ok (.iload_n 1, 1) := by decide +kernel
theorem d3_10 : decode prog_81_method_3_code 10 = .ok (.if_icmp .gt 32, 3) := by decide +kernel
theorem d3_13 : decode prog_81_method_3_code 13 = .ok (.aload_n 2, 1) := by decide +kernel
theorem d3_14 : decode prog_81_method_3_code 14 = .ok (.iload_n 3, 1) := by decide +kernel
theorem d3_15 : decode prog_81_method_3_code 15 = .ok (.aload_n 0, 1) := by decide +kernel
theorem d3_16 : decode prog_81_method_3_code 16 = .ok (.getfield 18, 3) := by decide +kernel
theorem d3_19 : decode prog_81_method_3_code 19 = .ok (.aload_n 0, 1) := by decide +kernel
theorem d3_20 : decode prog_81_method_3_code 20 = .ok (.getfield 24, 3) := by decide +kernel
theorem d3_23 : decode prog_81_method_3_code 23 = .ok (.aload_n 0, 1) := by decide +kernel
theorem d3_24 : decode prog_81_method_3_code 24 = .ok (.getfield 18, 3) := by decide +kernel
theorem d3_27 : decode prog_81_method_3_code 27 = .ok (.dsub, 1) := by decide +kernel
theorem d3_28 : decode prog_81_method_3_code 28 = .ok (.iload_n 3, 1) := by decide +kernel
theorem d3_29 : decode prog_81_method_3_code 29 = .ok (.i2d, 1) := by decide +kernel
theorem d3_30 : decode prog_81_method_3_code 30 = .ok (.dmul, 1) := by decide +kernel
theorem d3_31 : decode prog_81_method_3_code 31 = .ok (.iload_n 1, 1) := by decide +kernel
theorem d3_32 : decode prog_81_method_3_code 32 = .ok (.i2d, 1) := by decide +kernel
theorem d3_33 : decode prog_81_method_3_code 33 = .ok (.ddiv, 1) := by decide +kernel
theorem d3_34 : decode prog_81_method_3_code 34 = .ok (.dadd, 1) := by decide +kernel
theorem d3_35 : decode prog_81_method_3_code 35 = .ok (.dastore, 1) := by decide +kernel
theorem d3_36 : decode prog_81_method_3_code 36 = .ok (.iinc 3 1, 3) := by decide +kernel
theorem d3_39 : decode prog_81_method_3_code 39 = .ok (.goto (-31), 3) := by decide +kernel
theorem d3_42 : decode prog_81_method_3_code 42 = .ok (.aload_n 2, 1) := by decide +kernel
theorem d3_43 : decode prog_81_method_3_code 43 = .ok (.iload_n 1, 1) := by decide +kernel
theorem d3_44 : decode prog_81_method_3_code 44 = .ok (.aload_n 0, 1) := by decide +kernel
theorem d3_45 : decode prog_81_method_3_code 45 = .ok (.getfield 24, 3) := by decide +kernel
theorem d3_48 : decode prog_81_method_3_code 48 = .ok (.dastore, 1) := by decide +kernel
theorem d3_49 : decode prog_81_method_3_code 49 = .ok (.aload_n 2, 1) := by decide +kernel
theorem d3_50 : decode prog_81_method_3_code 50 = .ok (.areturn, 1) := by decide +kernel
def Q_rmC (Z : State) (a1 : Addr) (fr : UInt64) (B : Nat) (h0 : Heap) (n0 : Nat) (v : Option Value) (h : Heap) (L : List Loc) : Prop := v = none ∧ Fr n0 L ∧ Keep h0 h [a1] ∧ KeepF h0 h [(a1, some (Jvm.RoadKit.slotOf Z "com/example/hazeway/hazeway/QuantileBand" "from" "D")), (a1, some (Jvm.RoadKit.slotOf Z "com/example/hazeway/hazeway/QuantileBand" "to" "D"))] ∧ Fld Z h a1 "com/example/hazeway/hazeway/QuantileBand" "from" "D" (.double fr) ∧ Fld Z h a1 "com/example/hazeway/hazeway/QuantileBand" "to" "D" (.double (FP.dsub (4607182418800017408 : UInt64) fr))
set_option maxRecDepth 65536 in
set_option maxHeartbeats 40000000 in
theorem rmC (l : Launch) (Z : State) (a0 : Array Value) (hw : ∀ d ∈ tables_1, d.before a0 Z = true) (ws : List Jvm.Cond) (a1 : Addr) (fr : UInt64) (B : Nat) (h0 : Heap) (n0 : Nat) (Z0 : n0 ≤ h0.size) (P0 : Exa Z h0 a1 "com/example/hazeway/hazeway/QuantileBand") (P1 : Fld Z h0 a1 "com/example/hazeway/hazeway/QuantileBand" "from" "D" (.double (0 : UInt64))) (P2 : Fld Z h0 a1 "com/example/hazeway/hazeway/QuantileBand" "to" "D" (.double (0 : UInt64))) (P3 : n0 ≤ a1) (hfr : own_P fr (B * 2 ^ 1064)) (hB : B ≤ 512) :
    MetFree l (⟨"com/example/hazeway/hazeway/QuantileBand", "<init>", "(D)V"⟩ : MethodName) (head1 (Jvm.Cond.code (⟨"com/example/hazeway/hazeway/QuantileBand", "<init>", "(D)V"⟩ : MethodName) prog_81_method_1_code 3 none :: ws) ({ frames := 1, cells := 0, slots := 0, locals := 12 } : Room)) (fun a U => a = #[(.ref a1), (.double fr)] ∧ Z.Warmed39 U.vm ∧ U.heap = h0) (fun _ _ _ _ _ => True) (fun _ U o U' => ∃ v L, o = .returned v ∧ Q_rmC Z a1 fr B h0 n0 v U'.heap L ∧ FrameEnd U o U' L ({ frames := 1, cells := 0, slots := 0, locals := 12 } : Room).cells ({ frames := 1, cells := 0, slots := 0, locals := 12 } : Room).slots) := by
  refine MetFree.of_bodySF (plainFor_of_name pn_0) hisR ?_
  intro p e s m args below meth c s₁ Bd hml0 hP hK
  obtain ⟨rfl, hZ, hh⟩ := hP
  have hx := Bd.exec
  have hby := Bd.bytes
  have hml : c.maxLocals = 3 := hml0
  have hown : s.vm.findClass "com/example/hazeway/hazeway/QuantileBand" = some m.cls := findClass_of_methodNamed Bd.named
  have hnm := (name_of_methodNamed Bd.named Bd.method).1
  have X0 : Stand p l e ({ frames := 1, cells := 0, slots := 0, locals := 12 } : Room) s m #[(.ref a1), (.double fr)] below meth c s₁ [] 0 0 := Stand.of_body Bd
  have e0 : s₁.heap = h0 := by rw [← hh, Bd.state]; rfl
  have N0 := Fr.nil n0
  have ef0 : entryFrame m #[(.ref a1), (.double fr)] 3 = (mkF m 0 #[.val (.ref a1), .val (.double fr), .second] []) := by first | (simp [entryFrame, mkF, argsToLocals, Value.category]; done) | rfl
  refine own_fwd (B := s₁.setTop (mkF m 0 #[.val (.ref a1), .val (.double fr), .second] [])) (fun t k => castTop ef0 k) ?_
  refine own_fwd (B := s₁.setTop (mkF m 1 #[.val (.ref a1), .val (.double fr), .second] [(.ref a1)])) (fun t k => XS.aloadN X0.here hx rfl (hb hby d1_0) rfl rfl k) ?_
  obtain ⟨T1, X1, e1, st1⟩ := initO X0 hx hZ hown (hw _ (List.mem_of_getElem? (i := 8) rfl)) (hw _ (List.mem_of_getElem? (i := 9) rfl)) (hw _ (List.mem_of_getElem? (i := 10) rfl)) e0 (g := (mkF m 1 #[.val (.ref a1), .val (.double fr), .second] [(.ref a1)])) rfl (by rw [hml]; rfl) rfl (hb hby d1_1) (by decide) (W := 0) (by show 2 * 0 + _ ≤ _; exact Nat.le_of_eq rfl) (by decide)
  refine own_fwd (B := T1.setTop (mkF m 4 #[.val (.ref a1), .val (.double fr), .second] [])) (fun t k => st1 t k) ?_
  refine own_fwd (B := T1.setTop (mkF m 5 #[.val (.ref a1), .val (.double fr), .second] [(.double fr)])) (fun t k => XS.dloadN X1.here hx rfl (hb hby d1_4) rfl k) ?_
  refine own_fwd (B := T1.setTop (mkF m 6 #[.val (.ref a1), .val (.double fr), .second] [(.double (0 : UInt64)), (.double fr)])) (fun t k => XS.dconst0 X1.here hx rfl (hb hby d1_5) rfl k) ?_
  refine own_fwd (B := T1.setTop (mkF m 7 #[.val (.ref a1), .val (.double fr), .second] [(.int (cmpValue (FP.dcmp fr (0 : UInt64)) .l))])) (fun t k => XS.dcmpS X1.here hx rfl (hb hby d1_6) rfl rfl k) ?_
  refine own_fwd (B := T1.setTop (mkF m 10 #[.val (.ref a1), .val (.double fr), .second] [])) (fun t k => XS.ifNo X1.here hx rfl (hb hby d1_7) rfl ((if0 _ _).trans (flt (own_cge (own_cP hfr own_czero) (Int.ofNat_le.mpr (Nat.zero_le _)) : ¬ ((cmpValue (FP.dcmp fr (0 : UInt64)) .l) < (0 : Int32)))).1) k) ?_
  refine own_fwd (B := T1.setTop (mkF m 11 #[.val (.ref a1), .val (.double fr), .second] [(.double fr)])) (fun t k => XS.dloadN X1.here hx rfl (hb hby d1_10) rfl k) ?_
  refine own_fwd (B := T1.setTop (mkF m 14 #[.val (.ref a1), .val (.double fr), .second] [(.double (4602678819172646912 : UInt64)), (.double fr)])) (fun t k => X1.ldc2DoubleC hx hown (mvT hZ (hw _ (List.mem_of_getElem? (i := 11) rfl))) (g := (mkF m 11 #[.val (.ref a1), .val (.double fr), .second] [(.double fr)])) rfl (hb hby d1_11) t k) ?_
  refine own_fwd (B := T1.setTop (mkF m 15 #[.val (.ref a1), .val (.double fr), .second] [(.int (cmpValue (FP.dcmp fr (4602678819172646912 : UInt64)) .g))])) (fun t k => XS.dcmpS X1.here hx rfl (hb hby d1_14) rfl rfl k) ?_
  refine own_fwd (B := T1.setTop (mkF m 32 #[.val (.ref a1), .val (.double fr), .second] [])) (fun t k => XS.ifYes X1.here hx rfl (pc0 := 15) (pc' := 32) rfl (hb hby d1_15) rfl ((if0 _ _).trans (flt (own_cle (own_cP hfr own_chalf) (Int.ofNat_le.mpr (Nat.mul_le_mul_right _ hB)) : ¬ ((0 : Int32) < (cmpValue (FP.dcmp fr (4602678819172646912 : UInt64)) .g)))).2.2.2) (by decide) (by decide) k) ?_
  refine own_fwd (B := T1.setTop (mkF m 33 #[.val (.ref a1), .val (.double fr), .second] [(.ref a1)])) (fun t k => XS.aloadN X1.here hx rfl (hb hby d1_32) rfl rfl k) ?_
  refine own_fwd (B := T1.setTop (mkF m 34 #[.val (.ref a1), .val (.double fr), .second] [(.double fr), (.ref a1)])) (fun t k => XS.dloadN X1.here hx rfl (hb hby d1_33) rfl k) ?_
  obtain ⟨T2, h2, X2, e2, W2, st2⟩ := putF X1 hx hZ hown (host := "") (Or.inl (hw _ (List.mem_of_getElem? (i := 12) rfl))) Via.refl e1 P1 P0 (Or.inr ⟨(hw _ (List.mem_of_getElem? (i := 13) rfl)), rfl, hnm⟩) (hw _ (List.mem_of_getElem? (i := 3) rfl)) (ty := .double) (by decide) rfl rfl (g := (mkF m 34 #[.val (.ref a1), .val (.double fr), .second] [(.double fr), (.ref a1)])) rfl rfl (hb hby d1_34)
  have Fw2 := P1.same W2
  have Z3 : n0 ≤ h2.size := Nat.le_trans Z0 (Keep.of_wr W2).1
  have KF3 : KeepF h0 h2 [(a1, some (Jvm.RoadKit.slotOf Z "com/example/hazeway/hazeway/QuantileBand" "from" "D")), (a1, some (Jvm.RoadKit.slotOf Z "com/example/hazeway/hazeway/QuantileBand" "to" "D"))] := (KeepF.refl h0 [(a1, some (Jvm.RoadKit.slotOf Z "com/example/hazeway/hazeway/QuantileBand" "from" "D")), (a1, some (Jvm.RoadKit.slotOf Z "com/example/hazeway/hazeway/QuantileBand" "to" "D"))]).wr (Keep.refl h0 [a1]) W2 (Or.inl (List.mem_of_getElem? (i := 0) rfl))
  have K3 : Keep h0 h2 [a1] := (Keep.refl h0 [a1]).wr W2 (Or.inl (List.mem_of_getElem? (i := 0) rfl))
  have N2 := Fr.snoc X2 N0 P3
  refine own_fwd (B := T2.setTop (mkF m 37 #[.val (.ref a1), .val (.double fr), .second] [])) (fun t k => st2 t k) ?_
  refine own_fwd (B := T2.setTop (mkF m 38 #[.val (.ref a1), .val (.double fr), .second] [(.ref a1)])) (fun t k => XS.aloadN X2.here hx rfl (hb hby d1_37) rfl rfl k) ?_
  refine own_fwd (B := T2.setTop (mkF m 39 #[.val (.ref a1), .val (.double fr), .second] [(.double (4607182418800017408 : UInt64)), (.ref a1)])) (fun t k => XS.dconst1 X2.here hx rfl (hb hby d1_38) rfl k) ?_
  refine own_fwd (B := T2.setTop (mkF m 40 #[.val (.ref a1), .val (.double fr), .second] [(.double fr), (.double (4607182418800017408 : UInt64)), (.ref a1)])) (fun t k => XS.dloadN X2.here hx rfl (hb hby d1_39) rfl k) ?_
  refine own_fwd (B := T2.setTop (mkF m 41 #[.val (.ref a1), .val (.double fr), .second] [(.double (FP.dsub (4607182418800017408 : UInt64) fr)), (.ref a1)])) (fun t k => XS.dsubS X2.here hx rfl (hb hby d1_40) rfl (own_nn (own_to hfr hB)) rfl k) ?_
  have f5 := (P2.other W2 (Or.inr (slot_ne (Or.inr (hw _ (List.mem_of_getElem? (i := 15) rfl))) (Or.inr (hw _ (List.mem_of_getElem? (i := 13) rfl))) (by decide) (t := .double) (t' := .double) (by decide) (by decide))))
  obtain ⟨T4, h4, X4, e4, W4, st4⟩ := putF X2 hx hZ hown (host := "") (Or.inl (hw _ (List.mem_of_getElem? (i := 14) rfl))) Via.refl e2 f5 (P0.wr W2) (Or.inr ⟨(hw _ (List.mem_of_getElem? (i := 15) rfl)), rfl, hnm⟩) (hw _ (List.mem_of_getElem? (i := 3) rfl)) (ty := .double) (by decide) rfl rfl (g := (mkF m 41 #[.val (.ref a1), .val (.double fr), .second] [(.double (FP.dsub (4607182418800017408 : UInt64) fr)), (.ref a1)])) rfl rfl (hb hby d1_41)
  have Fw4 := f5.same W4
  have Z6 : n0 ≤ h4.size := Nat.le_trans Z3 (Keep.of_wr W4).1
  have KF6 : KeepF h0 h4 [(a1, some (Jvm.RoadKit.slotOf Z "com/example/hazeway/hazeway/QuantileBand" "from" "D")), (a1, some (Jvm.RoadKit.slotOf Z "com/example/hazeway/hazeway/QuantileBand" "to" "D"))] := KF3.wr K3 W4 (Or.inl (List.mem_of_getElem? (i := 1) rfl))
  have K6 : Keep h0 h4 [a1] := K3.wr W4 (Or.inl (List.mem_of_getElem? (i := 0) rfl))
  have N4 := Fr.snoc X4 N2 P3
  refine own_fwd (B := T4.setTop (mkF m 44 #[.val (.ref a1), .val (.double fr), .second] [])) (fun t k => st4 t k) ?_
  obtain ⟨fs, hr, hrun, hended, hW, hsame⟩ := X4.leave (v := none) (fun _ => rfl)
  have f7 := (Fw2.other W4 (Or.inr (slot_ne (Or.inr (hw _ (List.mem_of_getElem? (i := 13) rfl))) (Or.inr (hw _ (List.mem_of_getElem? (i := 15) rfl))) (by decide) (t := .double) (t' := .double) (by decide) (by decide))))
  refine ⟨_, _, X4.returnOut hx Bd.returns (hb hby d1_44) hr, hrun, hended, _, _, rfl, ?_, ⟨_, rfl⟩, hW, hsame.mono (by decide) (by decide)⟩
  show Q_rmC Z a1 fr B h0 n0 _ T4.heap _
  rw [e4]
  exact ⟨rfl, N4, K6, KF6, f7, Fw4⟩
def Q_rmL (Z : State) (a1 : Addr) (n : Nat) (B : Nat) (fr : UInt64) (tt : UInt64) (h0 : Heap) (n0 : Nat) (v : Option Value) (h : Heap) (L : List Loc) : Prop := ∃ ar : Addr, ∃ kk : ClassId, v = some (.ref ar) ∧ Fr n0 L ∧ Keep h0 h [] ∧ KeepF h0 h [] ∧ h0.size ≤ ar ∧ Arv Z h ar kk .double ((Int32.ofNat n) + (1 : Int32)) (own_vals (own_g fr tt n) (n + 1)) (.double (0 : UInt64))
set_option maxRecDepth 65536 in
set_option maxHeartbeats 40000000 in
theorem rmL (l : Launch) (Z : State) (a0 : Array Value) (hw : ∀ d ∈ tables_1, d.before a0 Z = true) (ws : List Jvm.Cond) (a1 : Addr) (n : Nat) (B : Nat) (fr : UInt64) (tt : UInt64) (h0 : Heap) (n0 : Nat) (Z0 : n0 ≤ h0.size) (P0 : Fld Z h0 a1 "com/example/hazeway/hazeway/QuantileBand" "from" "D" (.double fr)) (P1 : Fld Z h0 a1 "com/example/hazeway/hazeway/QuantileBand" "to" "D" (.double tt)) (hfr : own_P fr (B * 2 ^ 1064)) (htt : own_P tt ((1024 - B) * 2 ^ 1064)) (hB : B ≤ 512) (hn1 : 1 ≤ n) (hn2 : n ≤ 256) :
    MetFree l (⟨"com/example/hazeway/hazeway/QuantileBand", "levels", "(I)[D"⟩ : MethodName) (head1 (Jvm.Cond.code (⟨"com/example/hazeway/hazeway/QuantileBand", "levels", "(I)[D"⟩ : MethodName) prog_81_method_3_code 4 (some (.array .double)) :: ws) ({ frames := 0, cells := 1, slots := 257, locals := 0 } : Room)) (fun a U => a = #[(.ref a1), (.int (Int32.ofNat n))] ∧ Z.Warmed39 U.vm ∧ U.heap = h0) (fun _ _ _ _ _ => True) (fun _ U o U' => ∃ v L, o = .returned v ∧ Q_rmL Z a1 n B fr tt h0 n0 v U'.heap L ∧ FrameEnd U o U' L ({ frames := 0, cells := 1, slots := 257, locals := 0 } : Room).cells ({ frames := 0, cells := 1, slots := 257, locals := 0 } : Room).slots) := by
  refine MetFree.of_bodySF (plainFor_of_name pn_0) hisR ?_
  intro p e s m args below meth c s₁ Bd hml0 hP hK
  obtain ⟨rfl, hZ, hh⟩ := hP
  have hx := Bd.exec
  have hby := Bd.bytes
  have hml : c.maxLocals = 4 := hml0
  have hown : s.vm.findClass "com/example/hazeway/hazeway/QuantileBand" = some m.cls := findClass_of_methodNamed Bd.named
  have hnm := (name_of_methodNamed Bd.named Bd.method).1
  have X0 : Stand p l e ({ frames := 0, cells := 1, slots := 257, locals := 0 } : Room) s m #[(.ref a1), (.int (Int32.ofNat n))] below meth c s₁ [] 0 0 := Stand.of_body Bd
  have e0 : s₁.heap = h0 := by rw [← hh, Bd.state]; rfl
  have N0 := Fr.nil n0
  have ef0 : entryFrame m #[(.ref a1), (.int (Int32.ofNat n))] 4 = (mkF m 0 #[.val (.ref a1), .val (.int (Int32.ofNat n)), .unset, .unset] []) := by first | (simp [entryFrame, mkF, argsToLocals, Value.category]; done) | rfl
  refine own_fwd (B := s₁.setTop (mkF m 0 #[.val (.ref a1), .val (.int (Int32.ofNat n)), .unset, .unset] [])) (fun t k => castTop ef0 k) ?_
  refine own_fwd (B := s₁.setTop (mkF m 1 #[.val (.ref a1), .val (.int (Int32.ofNat n)), .unset, .unset] [(.int (Int32.ofNat n))])) (fun t k => XS.iloadN X0.here hx rfl (hb hby d3_0) rfl k) ?_
  refine own_fwd (B := s₁.setTop (mkF m 2 #[.val (.ref a1), .val (.int (Int32.ofNat n)), .unset, .unset] [(.int (1 : Int32)), (.int (Int32.ofNat n))])) (fun t k => XS.iconst X0.here hx rfl (hb hby d3_1) k) ?_
  refine own_fwd (B := s₁.setTop (mkF m 3 #[.val (.ref a1), .val (.int (Int32.ofNat n)), .unset, .unset] [(.int ((Int32.ofNat n) + (1 : Int32)))])) (fun t k => XS.iadd X0.here hx rfl (hb hby d3_2) rfl k) ?_
  have hzn : ¬ ((Int32.ofNat n) + (1 : Int32)) < 0 := by rw [own_one]; exact own_nneg (by omega)
  have hzc : (((Int32.ofNat n) + (1 : Int32))).toNatClampNeg ≤ 257 := by rw [own_one, own_cl (by omega)]; omega
  obtain ⟨T1, h1, k1, X1, e1, E1, A1, st1⟩ := newP X0 hx hZ (hw _ (List.mem_of_getElem? (i := 21) rfl)) e0 (g := (mkF m 3 #[.val (.ref a1), .val (.int (Int32.ofNat n)), .unset, .unset] [(.int ((Int32.ofNat n) + (1 : Int32)))])) rfl (hb hby d3_3) rfl hzn (cap := 257) hzc (by decide) (by decide) (by decide)
  obtain ⟨b1, g1⟩ : ∃ z, z = h0.size := ⟨_, rfl⟩
  rw [← g1] at A1 st1
  have ge_b1 : n0 ≤ b1 := Nat.le_trans Z0 (Nat.le_of_eq g1.symm)
  have sz_b1 : h0.size ≤ b1 := Nat.le_trans (Keep.refl h0 []).1 (Nat.le_of_eq g1.symm)
  have Z2 : n0 ≤ h1.size := Nat.le_trans Z0 E1.1
  have KF2 : KeepF h0 h1 [] := (KeepF.refl h0 []).ext (Keep.refl h0 []) E1
  have K2 : Keep h0 h1 [] := (Keep.refl h0 []).ext E1
  have V1 : Arv Z h1 b1 k1 .double ((Int32.ofNat n) + (1 : Int32)) (own_vals (own_lvv fr tt n) 0) (.double (0 : UInt64)) := Arv.new A1 hzn
  refine own_fwd (B := T1.setTop (mkF m 5 #[.val (.ref a1), .val (.int (Int32.ofNat n)), .unset, .unset] [(.ref b1)])) (fun t k => st1 t k) ?_
  refine own_fwd (B := T1.setTop (mkF m 6 #[.val (.ref a1), .val (.int (Int32.ofNat n)), .val (.ref b1), .unset] [])) (fun t k => XS.astoreN X1.here hx rfl (hb hby d3_5) rfl rfl (l' := #[.val (.ref a1), .val (.int (Int32.ofNat n)), .val (.ref b1), .unset]) rfl k) ?_
  refine own_fwd (B := T1.setTop (mkF m 7 #[.val (.ref a1), .val (.int (Int32.ofNat n)), .val (.ref b1), .unset] [(.int (0 : Int32))])) (fun t k => XS.iconst X1.here hx rfl (hb hby d3_6) k) ?_
  refine own_fwd (B := T1.setTop (mkF m 8 #[.val (.ref a1), .val (.int (Int32.ofNat n)), .val (.ref b1), .val (.int (0 : Int32))] [])) (fun t k => XS.istoreN X1.here hx rfl (hb hby d3_7) rfl (l' := #[.val (.ref a1), .val (.int (Int32.ofNat n)), .val (.ref b1), .val (.int (0 : Int32))]) rfl k) ?_
  refine own_loop (N := n + 1) (α := State × Heap × List Loc) (B := fun i y => y.1.setTop (mkF m 8 #[.val (.ref a1), .val (.int (Int32.ofNat n)), .val (.ref b1), .val (.int (Int32.ofNat i))] [])) (H := fun (i : Nat) (y : State × Heap × List Loc) => Stand p l e ({ frames := 0, cells := 1, slots := 257, locals := 0 } : Room) s m #[(.ref a1), (.int (Int32.ofNat n))] below meth c y.1 y.2.2 1 257 ∧ y.1.heap = y.2.1 ∧ Fr n0 y.2.2 ∧ n0 ≤ y.2.1.size ∧ Keep h0 y.2.1 [] ∧ KeepF h0 y.2.1 [] ∧ Arv Z y.2.1 b1 k1 .double ((Int32.ofNat n) + (1 : Int32)) (own_vals (own_lvv fr tt n) i) (.double (0 : UInt64)) ∧ Fld Z y.2.1 a1 "com/example/hazeway/hazeway/QuantileBand" "from" "D" (.double fr) ∧ Fld Z y.2.1 a1 "com/example/hazeway/hazeway/QuantileBand" "to" "D" (.double tt)) ?_ ?_ (T1, h1, _) ⟨X1, e1, N0, Z2, K2, KF2, V1, (P0.ext E1), (P1.ext E1)⟩
  · skip
    rintro ⟨TL, hL, LL⟩ ⟨XL, eL, NL, ZL, KL, KFL, VL, FAL, FBL⟩
    change Stand _ _ _ _ _ _ _ _ _ _ TL LL _ _ at XL
    dsimp only at eL NL ZL KL KFL VL FAL FBL
    show ∃ t o, Steps p.tables e below (TL.setTop (mkF m 8 #[.val (.ref a1), .val (.int (Int32.ofNat n)), .val (.ref b1), .val (.int (Int32.ofNat (n + 1)))] [])) t ∧ _
    refine own_fwd (B := TL.setTop (mkF m 9 #[.val (.ref a1), .val (.int (Int32.ofNat n)), .val (.ref b1), .val (.int (Int32.ofNat (n + 1)))] [(.int (Int32.ofNat (n + 1)))])) (fun t k => XS.iloadN XL.here hx rfl (hb hby d3_8) rfl k) ?_
    refine own_fwd (B := TL.setTop (mkF m 10 #[.val (.ref a1), .val (.int (Int32.ofNat n)), .val (.ref b1), .val (.int (Int32.ofNat (n + 1)))] [(.int (Int32.ofNat n)), (.int (Int32.ofNat (n + 1)))])) (fun t k => XS.iloadN XL.here hx rfl (hb hby d3_9) rfl k) ?_
    refine own_fwd (B := TL.setTop (mkF m 42 #[.val (.ref a1), .val (.int (Int32.ofNat n)), .val (.ref b1), .val (.int (Int32.ofNat (n + 1)))] [])) (fun t k => XS.icmpYes XL.here hx rfl (pc0 := 10) (pc' := 42) rfl (hb hby d3_10) rfl (tlt (own_ltN (by omega) (by omega) : (Int32.ofNat n) < (Int32.ofNat (n + 1)))).2.2.1 (by decide) (by decide) k) ?_
    refine own_fwd (B := TL.setTop (mkF m 43 #[.val (.ref a1), .val (.int (Int32.ofNat n)), .val (.ref b1), .val (.int (Int32.ofNat (n + 1)))] [(.ref b1)])) (fun t k => XS.aloadN XL.here hx rfl (hb hby d3_42) rfl rfl k) ?_
    refine own_fwd (B := TL.setTop (mkF m 44 #[.val (.ref a1), .val (.int (Int32.ofNat n)), .val (.ref b1), .val (.int (Int32.ofNat (n + 1)))] [(.int (Int32.ofNat n)), (.ref b1)])) (fun t k => XS.iloadN XL.here hx rfl (hb hby d3_43) rfl k) ?_
    refine own_fwd (B := TL.setTop (mkF m 45 #[.val (.ref a1), .val (.int (Int32.ofNat n)), .val (.ref b1), .val (.int (Int32.ofNat (n + 1)))] [(.ref a1), (.int (Int32.ofNat n)), (.ref b1)])) (fun t k => XS.aloadN XL.here hx rfl (hb hby d3_44) rfl rfl k) ?_
    obtain ⟨T3, X3, e3, st3⟩ := getF XL hx hZ hown (host := "") (Or.inl (hw _ (List.mem_of_getElem? (i := 14) rfl))) Via.refl eL FBL (g := (mkF m 45 #[.val (.ref a1), .val (.int (Int32.ofNat n)), .val (.ref b1), .val (.int (Int32.ofNat (n + 1)))] [(.ref a1), (.int (Int32.ofNat n)), (.ref b1)])) rfl rfl (hb hby d3_45)
    refine own_fwd (B := T3.setTop (mkF m 48 #[.val (.ref a1), .val (.int (Int32.ofNat n)), .val (.ref b1), .val (.int (Int32.ofNat (n + 1)))] [(.double tt), (.int (Int32.ofNat n)), (.ref b1)])) (fun t k => st3 t k) ?_
    obtain ⟨c4, Ar4, q4, S4, M4, H4, G4⟩ := id VL
    have hin4 : ¬ ((Int32.ofNat n) < 0 ∨ c4.slots.size ≤ ((Int32.ofNat n)).toNatClampNeg) := inb_of S4 ⟨own_nneg (by omega), by rw [own_one]; exact own_ltN (by omega) (by omega)⟩
    obtain ⟨T4, h4, X4, e4, W4, st4⟩ := stD X3 hx hZ e3 Ar4 (j := (Int32.ofNat n)) hin4 (g := (mkF m 48 #[.val (.ref a1), .val (.int (Int32.ofNat n)), .val (.ref b1), .val (.int (Int32.ofNat (n + 1)))] [(.double tt), (.int (Int32.ofNat n)), (.ref b1)])) rfl rfl (hb hby d3_48)
    have Vs4 := Arv.set Ar4 q4 S4 M4 H4 G4 rfl W4 n (own_cl (by omega)) (by simp [own_len])
    have V4' : Arv Z h4 b1 k1 .double ((Int32.ofNat n) + (1 : Int32)) (own_vals (own_g fr tt n) (n + 1)) (.double (0 : UInt64)) := by
      have q := Vs4
      rw [own_fin] at q
      exact q
    have Z5 : n0 ≤ h4.size := Nat.le_trans ZL (Keep.of_wr W4).1
    have KF5 : KeepF h0 h4 [] := KFL.wr KL W4 (Or.inr (Or.inr sz_b1))
    have K5 : Keep h0 h4 [] := KL.wr W4 (Or.inr sz_b1)
    have N4 := Fr.snoc X4 NL ge_b1
    refine own_fwd (B := T4.setTop (mkF m 49 #[.val (.ref a1), .val (.int (Int32.ofNat n)), .val (.ref b1), .val (.int (Int32.ofNat (n + 1)))] [])) (fun t k => st4 t k) ?_
    refine own_fwd (B := T4.setTop (mkF m 50 #[.val (.ref a1), .val (.int (Int32.ofNat n)), .val (.ref b1), .val (.int (Int32.ofNat (n + 1)))] [(.ref b1)])) (fun t k => XS.aloadN X4.here hx rfl (hb hby d3_49) rfl rfl k) ?_
    obtain ⟨fs, hr, hrun, hended, hW, hsame⟩ := X4.leave (v := some (.ref b1)) (fun h => by rw [Bd.returns] at h; cases h)
    refine ⟨_, _, retOut X4 hx Bd.returns rfl (Or.inr (Or.inr (Or.inr (Or.inr ⟨rfl, rfl, rfl⟩)))) (hb hby d3_50) hr, hrun, hended, _, _, rfl, ?_, ⟨_, rfl⟩, hW, hsame.mono (by decide) (by decide)⟩
    show Q_rmL Z a1 n B fr tt h0 n0 _ T4.heap _
    rw [e4]
    exact ⟨b1, k1, rfl, N4, K5, KF5, sz_b1, V4'⟩
  · skip
    rintro i hi ih ⟨TL, hL, LL⟩ ⟨XL, eL, NL, ZL, KL, KFL, VL, FAL, FBL⟩
    change Stand _ _ _ _ _ _ _ _ _ _ TL LL _ _ at XL
    dsimp only at eL NL ZL KL KFL VL FAL FBL
    show ∃ t o, Steps p.tables e below (TL.setTop (mkF m 8 #[.val (.ref a1), .val (.int (Int32.ofNat n)), .val (.ref b1), .val (.int (Int32.ofNat i))] [])) t ∧ _
    refine own_fwd (B := TL.setTop (mkF m 9 #[.val (.ref a1), .val (.int (Int32.ofNat n)), .val (.ref b1), .val (.int (Int32.ofNat i))] [(.int (Int32.ofNat i))])) (fun t k => XS.iloadN XL.here hx rfl (hb hby d3_8) rfl k) ?_
    refine own_fwd (B := TL.setTop (mkF m 10 #[.val (.ref a1), .val (.int (Int32.ofNat n)), .val (.ref b1), .val (.int (Int32.ofNat i))] [(.int (Int32.ofNat n)), (.int (Int32.ofNat i))])) (fun t k => XS.iloadN XL.here hx rfl (hb hby d3_9) rfl k) ?_
    refine own_fwd (B := TL.setTop (mkF m 13 #[.val (.ref a1), .val (.int (Int32.ofNat n)), .val (.ref b1), .val (.int (Int32.ofNat i))] [])) (fun t k => XS.icmpNo XL.here hx rfl (hb hby d3_10) rfl (flt (own_leN (by omega) (by omega) : ¬ ((Int32.ofNat n) < (Int32.ofNat i)))).2.2.1 k) ?_
    refine own_fwd (B := TL.setTop (mkF m 14 #[.val (.ref a1), .val (.int (Int32.ofNat n)), .val (.ref b1), .val (.int (Int32.ofNat i))] [(.ref b1)])) (fun t k => XS.aloadN XL.here hx rfl (hb hby d3_13) rfl rfl k) ?_
    refine own_fwd (B := TL.setTop (mkF m 15 #[.val (.ref a1), .val (.int (Int32.ofNat n)), .val (.ref b1), .val (.int (Int32.ofNat i))] [(.int (Int32.ofNat i)), (.ref b1)])) (fun t k => XS.iloadN XL.here hx rfl (hb hby d3_14) rfl k) ?_
    refine own_fwd (B := TL.setTop (mkF m 16 #[.val (.ref a1), .val (.int (Int32.ofNat n)), .val (.ref b1), .val (.int (Int32.ofNat i))] [(.ref a1), (.int (Int32.ofNat i)), (.ref b1)])) (fun t k => XS.aloadN XL.here hx rfl (hb hby d3_15) rfl rfl k) ?_
    obtain ⟨T6, X6, e6, st6⟩ := getF XL hx hZ hown (host := "") (Or.inl (hw _ (List.mem_of_getElem? (i := 12) rfl))) Via.refl eL FAL (g := (mkF m 16 #[.val (.ref a1), .val (.int (Int32.ofNat n)), .val (.ref b1), .val (.int (Int32.ofNat i))] [(.ref a1), (.int (Int32.ofNat i)), (.ref b1)])) rfl rfl (hb hby d3_16)
    refine own_fwd (B := T6.setTop (mkF m 19 #[.val (.ref a1), .val (.int (Int32.ofNat n)), .val (.ref b1), .val (.int (Int32.ofNat i))] [(.double fr), (.int (Int32.ofNat i)), (.ref b1)])) (fun t k => st6 t k) ?_
    refine own_fwd (B := T6.setTop (mkF m 20 #[.val (.ref a1), .val (.int (Int32.ofNat n)), .val (.ref b1), .val (.int (Int32.ofNat i))] [(.ref a1), (.double fr), (.int (Int32.ofNat i)), (.ref b1)])) (fun t k => XS.aloadN X6.here hx rfl (hb hby d3_19) rfl rfl k) ?_
    obtain ⟨T7, X7, e7, st7⟩ := getF X6 hx hZ hown (host := "") (Or.inl (hw _ (List.mem_of_getElem? (i := 14) rfl))) Via.refl e6 FBL (g := (mkF m 20 #[.val (.ref a1), .val (.int (Int32.ofNat n)), .val (.ref b1), .val (.int (Int32.ofNat i))] [(.ref a1), (.double fr), (.int (Int32.ofNat i)), (.ref b1)])) rfl rfl (hb hby d3_20)
    refine own_fwd (B := T7.setTop (mkF m 23 #[.val (.ref a1), .val (.int (Int32.ofNat n)), .val (.ref b1), .val (.int (Int32.ofNat i))] [(.double tt), (.double fr), (.int (Int32.ofNat i)), (.ref b1)])) (fun t k => st7 t k) ?_
    refine own_fwd (B := T7.setTop (mkF m 24 #[.val (.ref a1), .val (.int (Int32.ofNat n)), .val (.ref b1), .val (.int (Int32.ofNat i))] [(.ref a1), (.double tt), (.double fr), (.int (Int32.ofNat i)), (.ref b1)])) (fun t k => XS.aloadN X7.here hx rfl (hb hby d3_23) rfl rfl k) ?_
    obtain ⟨T8, X8, e8, st8⟩ := getF X7 hx hZ hown (host := "") (Or.inl (hw _ (List.mem_of_getElem? (i := 12) rfl))) Via.refl e7 FAL (g := (mkF m 24 #[.val (.ref a1), .val (.int (Int32.ofNat n)), .val (.ref b1), .val (.int (Int32.ofNat i))] [(.ref a1), (.double tt), (.double fr), (.int (Int32.ofNat i)), (.ref b1)])) rfl rfl (hb hby d3_24)
    refine own_fwd (B := T8.setTop (mkF m 27 #[.val (.ref a1), .val (.int (Int32.ofNat n)), .val (.ref b1), .val (.int (Int32.ofNat i))] [(.double fr), (.double tt), (.double fr), (.int (Int32.ofNat i)), (.ref b1)])) (fun t k => st8 t k) ?_
    refine own_fwd (B := T8.setTop (mkF m 28 #[.val (.ref a1), .val (.int (Int32.ofNat n)), .val (.ref b1), .val (.int (Int32.ofNat i))] [(.double (FP.dsub tt fr)), (.double fr), (.int (Int32.ofNat i)), (.ref b1)])) (fun t k => XS.dsubS X8.here hx rfl (hb hby d3_27) rfl (own_nn (own_wid hfr htt hB)) rfl k) ?_
    refine own_fwd (B := T8.setTop (mkF m 29 #[.val (.ref a1), .val (.int (Int32.ofNat n)), .val (.ref b1), .val (.int (Int32.ofNat i))] [(.int (Int32.ofNat i)), (.double (FP.dsub tt fr)), (.double fr), (.int (Int32.ofNat i)), (.ref b1)])) (fun t k => XS.iloadN X8.here hx rfl (hb hby d3_28) rfl k) ?_
    refine own_fwd (B := T8.setTop (mkF m 30 #[.val (.ref a1), .val (.int (Int32.ofNat n)), .val (.ref b1), .val (.int (Int32.ofNat i))] [(.double (FP.i2d (Int32.ofNat i))), (.double (FP.dsub tt fr)), (.double fr), (.int (Int32.ofNat i)), (.ref b1)])) (fun t k => XS.i2dS X8.here hx rfl (hb hby d3_29) rfl rfl k) ?_
    refine own_fwd (B := T8.setTop (mkF m 31 #[.val (.ref a1), .val (.int (Int32.ofNat n)), .val (.ref b1), .val (.int (Int32.ofNat i))] [(.double (FP.dmul (FP.dsub tt fr) (FP.i2d (Int32.ofNat i)))), (.double fr), (.int (Int32.ofNat i)), (.ref b1)])) (fun t k => XS.dmulS X8.here hx rfl (hb hby d3_30) rfl (own_nn (own_mulv (own_wid hfr htt hB) (by omega) (own_of (n := i) (by omega)) (by omega))) rfl k) ?_
    refine own_fwd (B := T8.setTop (mkF m 32 #[.val (.ref a1), .val (.int (Int32.ofNat n)), .val (.ref b1), .val (.int (Int32.ofNat i))] [(.int (Int32.ofNat n)), (.double (FP.dmul (FP.dsub tt fr) (FP.i2d (Int32.ofNat i)))), (.double fr), (.int (Int32.ofNat i)), (.ref b1)])) (fun t k => XS.iloadN X8.here hx rfl (hb hby d3_31) rfl k) ?_
    refine own_fwd (B := T8.setTop (mkF m 33 #[.val (.ref a1), .val (.int (Int32.ofNat n)), .val (.ref b1), .val (.int (Int32.ofNat i))] [(.double (FP.i2d (Int32.ofNat n))), (.double (FP.dmul (FP.dsub tt fr) (FP.i2d (Int32.ofNat i)))), (.double fr), (.int (Int32.ofNat i)), (.ref b1)])) (fun t k => XS.i2dS X8.here hx rfl (hb hby d3_32) rfl rfl k) ?_
    refine own_fwd (B := T8.setTop (mkF m 34 #[.val (.ref a1), .val (.int (Int32.ofNat n)), .val (.ref b1), .val (.int (Int32.ofNat i))] [(.double (FP.ddiv (FP.dmul (FP.dsub tt fr) (FP.i2d (Int32.ofNat i))) (FP.i2d (Int32.ofNat n)))), (.double fr), (.int (Int32.ofNat i)), (.ref b1)])) (fun t k => XS.ddivS X8.here hx rfl (hb hby d3_33) rfl (own_nn (own_divv (own_mulv (own_wid hfr htt hB) (by omega) (own_of (n := i) (by omega)) (by omega)) (by omega) (by omega) (own_of (n := n) (by omega)) hn1)) rfl k) ?_
    refine own_fwd (B := T8.setTop (mkF m 35 #[.val (.ref a1), .val (.int (Int32.ofNat n)), .val (.ref b1), .val (.int (Int32.ofNat i))] [(.double (FP.dadd fr (FP.ddiv (FP.dmul (FP.dsub tt fr) (FP.i2d (Int32.ofNat i))) (FP.i2d (Int32.ofNat n))))), (.int (Int32.ofNat i)), (.ref b1)])) (fun t k => XS.daddS X8.here hx rfl (hb hby d3_34) rfl (own_nn (own_lvP hfr htt hB (by omega) hn1 hn2)) rfl k) ?_
    have Vp9 := Arv.pad VL (pad_rep _ (.double (0 : UInt64)) 1)
    obtain ⟨c9, Ar9, q9, S9, M9, H9, G9⟩ := id Vp9
    have hin9 : ¬ ((Int32.ofNat i) < 0 ∨ c9.slots.size ≤ ((Int32.ofNat i)).toNatClampNeg) := inb_of S9 ⟨own_nneg (by omega), by rw [own_one]; exact own_ltN (by omega) (by omega)⟩
    obtain ⟨T9, h9, X9, e9, W9, st9⟩ := stD X8 hx hZ e8 Ar9 (j := (Int32.ofNat i)) hin9 (g := (mkF m 35 #[.val (.ref a1), .val (.int (Int32.ofNat n)), .val (.ref b1), .val (.int (Int32.ofNat i))] [(.double (FP.dadd fr (FP.ddiv (FP.dmul (FP.dsub tt fr) (FP.i2d (Int32.ofNat i))) (FP.i2d (Int32.ofNat n))))), (.int (Int32.ofNat i)), (.ref b1)])) rfl rfl (hb hby d3_35)
    have Vs9 := Arv.set Ar9 q9 S9 M9 H9 G9 rfl W9 i (own_cl (by omega)) (by simp [own_len])
    have V9' : Arv Z h9 b1 k1 .double ((Int32.ofNat n) + (1 : Int32)) (own_vals (own_lvv fr tt n) (i + 1)) (.double (0 : UInt64)) := by
      have q := Vs9
      rw [show (FP.dadd fr (FP.ddiv (FP.dmul (FP.dsub tt fr) (FP.i2d (Int32.ofNat i))) (FP.i2d (Int32.ofNat n)))) = own_lvv fr tt n i from rfl, show List.replicate 1 (Value.double 0) = [Value.double 0] from rfl, own_upd] at q
      exact q
    have Z10 : n0 ≤ h9.size := Nat.le_trans ZL (Keep.of_wr W9).1
    have KF10 : KeepF h0 h9 [] := KFL.wr KL W9 (Or.inr (Or.inr sz_b1))
    have K10 : Keep h0 h9 [] := KL.wr W9 (Or.inr sz_b1)
    have N9 := Fr.snoc X9 NL ge_b1
    refine own_fwd (B := T9.setTop (mkF m 36 #[.val (.ref a1), .val (.int (Int32.ofNat n)), .val (.ref b1), .val (.int (Int32.ofNat i))] [])) (fun t k => st9 t k) ?_
    refine own_fwd (B := T9.setTop (mkF m 39 #[.val (.ref a1), .val (.int (Int32.ofNat n)), .val (.ref b1), .val (.int ((Int32.ofNat i) + (1 : Int32)))] [])) (fun t k => XS.iinc X9.here hx rfl (hb hby d3_36) rfl (l' := #[.val (.ref a1), .val (.int (Int32.ofNat n)), .val (.ref b1), .val (.int ((Int32.ofNat i) + (1 : Int32)))]) rfl k) ?_
    refine own_fwd (B := T9.setTop (mkF m 8 #[.val (.ref a1), .val (.int (Int32.ofNat n)), .val (.ref b1), .val (.int ((Int32.ofNat i) + (1 : Int32)))] [])) (fun t k => XS.goto X9.here hx rfl (pc0 := 39) (pc' := 8) rfl (hb hby d3_39) (by decide) (by decide) k) ?_
    rw [own_one i]
    have f11 := (FAL.other W9 (Or.inl (Nat.ne_of_lt (Nat.lt_of_lt_of_le P0.lt (Nat.le_of_eq g1.symm)))))
    have f12 := (FBL.other W9 (Or.inl (Nat.ne_of_lt (Nat.lt_of_lt_of_le P0.lt (Nat.le_of_eq g1.symm)))))
    exact ih (T9, h9, _) ⟨X9, e9, N9, Z10, K10, KF10, V9', f11, f12⟩
def Q_rm0 (Z : State) (p1 : Int32) (p2 : Int32) (p3 : Int32) (h0 : Heap) (n0 : Nat) (v : Option Value) (h : Heap) (L : List Loc) : Prop := v = some (.int (1 : Int32)) ∧ Fr n0 L
set_option maxRecDepth 65536 in
set_option maxHeartbeats 40000000 in
theorem rm0 (l : Launch) (Z : State) (a0 : Array Value) (hw : ∀ d ∈ tables_1, d.before a0 Z = true) (ws : List Jvm.Cond) (p1 : Int32) (p2 : Int32) (p3 : Int32) (h0 : Heap) (n0 : Nat) (Z0 : n0 ≤ h0.size)  :
    MetFree l x (head1 (Jvm.Cond.code x code maxLocals ret :: ws) room_1) (fun a U => a = #[(.int p1), (.int p2), (.int p3)] ∧ Z.Warmed39 U.vm ∧ U.heap = h0) (fun _ _ _ _ _ => True) (fun _ U o U' => ∃ v L, o = .returned v ∧ Q_rm0 Z p1 p2 p3 h0 n0 v U'.heap L ∧ FrameEnd U o U' L room_1.cells room_1.slots) := by
  refine MetFree.of_bodySF (plainFor_of_name pn_1) hisR ?_
  intro p e s m args below meth c s₁ Bd hml0 hP hK
  obtain ⟨rfl, hZ, hh⟩ := hP
  have hx := Bd.exec
  have hby := Bd.bytes
  have hml : c.maxLocals = 18 := hml0
  have hown : s.vm.findClass "com/example/hazeway/hazeway/QuantileBandLevelsPinLaw" = some m.cls := findClass_of_methodNamed Bd.named
  have hnm := (name_of_methodNamed Bd.named Bd.method).1
  have X0 : Stand p l e room_1 s m #[(.int p1), (.int p2), (.int p3)] below meth c s₁ [] 0 0 := Stand.of_body Bd
  have e0 : s₁.heap = h0 := by rw [← hh, Bd.state]; rfl
  have N0 := Fr.nil n0
  have ef0 : entryFrame m #[(.int p1), (.int p2), (.int p3)] maxLocals = (mkF m 0 #[.val (.int p1), .val (.int p2), .val (.int p3), .unset, .unset, .unset, .unset, .unset, .unset, .unset, .unset, .unset, .unset, .unset, .unset, .unset, .unset, .unset] []) := by first | (simp [entryFrame, mkF, argsToLocals, Value.category, maxLocals]; done) | rfl
  refine own_fwd (B := s₁.setTop (mkF m 0 #[.val (.int p1), .val (.int p2), .val (.int p3), .unset, .unset, .unset, .unset, .unset, .unset, .unset, .unset, .unset, .unset, .unset, .unset, .unset, .unset, .unset] [])) (fun t k => castTop ef0 k) ?_
  refine own_fwd (B := s₁.setTop (mkF m 1 #[.val (.int p1), .val (.int p2), .val (.int p3), .unset, .unset, .unset, .unset, .unset, .unset, .unset, .unset, .unset, .unset, .unset, .unset, .unset, .unset, .unset] [(.int p1)])) (fun t k => XS.iloadN X0.here hx rfl (hb hby at_0) rfl k) ?_
  refine own_fwd (B := s₁.setTop (mkF m 3 #[.val (.int p1), .val (.int p2), .val (.int p3), .unset, .unset, .unset, .unset, .unset, .unset, .unset, .unset, .unset, .unset, .unset, .unset, .unset, .unset, .unset] [(.int (2147483647 : Int32)), (.int p1)])) (fun t k => X0.ldcInt hx hown (mvT hZ (hw _ (List.mem_of_getElem? (i := 0) rfl))) (g := (mkF m 1 #[.val (.int p1), .val (.int p2), .val (.int p3), .unset, .unset, .unset, .unset, .unset, .unset, .unset, .unset, .unset, .unset, .unset, .unset, .unset, .unset, .unset] [(.int p1)])) rfl (hb hby at_1) t k) ?_
  refine own_fwd (B := s₁.setTop (mkF m 4 #[.val (.int p1), .val (.int p2), .val (.int p3), .unset, .unset, .unset, .unset, .unset, .unset, .unset, .unset, .unset, .unset, .unset, .unset, .unset, .unset, .unset] [(.int (p1 &&& (2147483647 : Int32)))])) (fun t k => XS.iand X0.here hx rfl (hb hby at_3) rfl k) ?_
  refine own_fwd (B := s₁.setTop (mkF m 7 #[.val (.int p1), .val (.int p2), .val (.int p3), .unset, .unset, .unset, .unset, .unset, .unset, .unset, .unset, .unset, .unset, .unset, .unset, .unset, .unset, .unset] [(.int (513 : Int32)), (.int (p1 &&& (2147483647 : Int32)))])) (fun t k => XS.sipush X0.here hx rfl (hb hby at_4) k) ?_
  refine own_fwd (B := s₁.setTop (mkF m 8 #[.val (.int p1), .val (.int p2), .val (.int p3), .unset, .unset, .unset, .unset, .unset, .unset, .unset, .unset, .unset, .unset, .unset, .unset, .unset, .unset, .unset] [(.int ((p1 &&& (2147483647 : Int32)) % (513 : Int32)))])) (fun t k => iremM X0 hx rfl (hb hby at_7) rfl (by decide) k) ?_
  obtain ⟨B, hB, he_B⟩ := own_bb p1
  rw [he_B]
  refine own_fwd (B := s₁.setTop (mkF m 9 #[.val (.int p1), .val (.int p2), .val (.int p3), .val (.int (Int32.ofNat B)), .unset, .unset, .unset, .unset, .unset, .unset, .unset, .unset, .unset, .unset, .unset, .unset, .unset, .unset] [])) (fun t k => XS.istoreN X0.here hx rfl (hb hby at_8) rfl (l' := #[.val (.int p1), .val (.int p2), .val (.int p3), .val (.int (Int32.ofNat B)), .unset, .unset, .unset, .unset, .unset, .unset, .unset, .unset, .unset, .unset, .unset, .unset, .unset, .unset]) rfl k) ?_
  refine own_fwd (B := s₁.setTop (mkF m 10 #[.val (.int p1), .val (.int p2), .val (.int p3), .val (.int (Int32.ofNat B)), .unset, .unset, .unset, .unset, .unset, .unset, .unset, .unset, .unset, .unset, .unset, .unset, .unset, .unset] [(.int p2)])) (fun t k => XS.iloadN X0.here hx rfl (hb hby at_9) rfl k) ?_
  refine own_fwd (B := s₁.setTop (mkF m 13 #[.val (.int p1), .val (.int p2), .val (.int p3), .val (.int (Int32.ofNat B)), .unset, .unset, .unset, .unset, .unset, .unset, .unset, .unset, .unset, .unset, .unset, .unset, .unset, .unset] [(.int (255 : Int32)), (.int p2)])) (fun t k => XS.sipush X0.here hx rfl (hb hby at_10) k) ?_
  refine own_fwd (B := s₁.setTop (mkF m 14 #[.val (.int p1), .val (.int p2), .val (.int p3), .val (.int (Int32.ofNat B)), .unset, .unset, .unset, .unset, .unset, .unset, .unset, .unset, .unset, .unset, .unset, .unset, .unset, .unset] [(.int (p2 &&& (255 : Int32)))])) (fun t k => XS.iand X0.here hx rfl (hb hby at_13) rfl k) ?_
  refine own_fwd (B := s₁.setTop (mkF m 15 #[.val (.int p1), .val (.int p2), .val (.int p3), .val (.int (Int32.ofNat B)), .unset, .unset, .unset, .unset, .unset, .unset, .unset, .unset, .unset, .unset, .unset, .unset, .unset, .unset] [(.int (1 : Int32)), (.int (p2 &&& (255 : Int32)))])) (fun t k => XS.iconst X0.here hx rfl (hb hby at_14) k) ?_
  refine own_fwd (B := s₁.setTop (mkF m 16 #[.val (.int p1), .val (.int p2), .val (.int p3), .val (.int (Int32.ofNat B)), .unset, .unset, .unset, .unset, .unset, .unset, .unset, .unset, .unset, .unset, .unset, .unset, .unset, .unset] [(.int ((p2 &&& (255 : Int32)) + (1 : Int32)))])) (fun t k => XS.iadd X0.here hx rfl (hb hby at_15) rfl k) ?_
  obtain ⟨n, hn1, hn2, he_n⟩ := own_ss p2
  rw [he_n]
  refine own_fwd (B := s₁.setTop (mkF m 18 #[.val (.int p1), .val (.int p2), .val (.int p3), .val (.int (Int32.ofNat B)), .val (.int (Int32.ofNat n)), .unset, .unset, .unset, .unset, .unset, .unset, .unset, .unset, .unset, .unset, .unset, .unset, .unset] [])) (fun t k => XS.istore X0.here hx rfl (hb hby at_16) rfl (l' := #[.val (.int p1), .val (.int p2), .val (.int p3), .val (.int (Int32.ofNat B)), .val (.int (Int32.ofNat n)), .unset, .unset, .unset, .unset, .unset, .unset, .unset, .unset, .unset, .unset, .unset, .unset, .unset]) rfl k) ?_
  refine own_fwd (B := s₁.setTop (mkF m 19 #[.val (.int p1), .val (.int p2), .val (.int p3), .val (.int (Int32.ofNat B)), .val (.int (Int32.ofNat n)), .unset, .unset, .unset, .unset, .unset, .unset, .unset, .unset, .unset, .unset, .unset, .unset, .unset] [(.int p3)])) (fun t k => XS.iloadN X0.here hx rfl (hb hby at_18) rfl k) ?_
  refine own_fwd (B := s₁.setTop (mkF m 21 #[.val (.int p1), .val (.int p2), .val (.int p3), .val (.int (Int32.ofNat B)), .val (.int (Int32.ofNat n)), .unset, .unset, .unset, .unset, .unset, .unset, .unset, .unset, .unset, .unset, .unset, .unset, .unset] [(.int (2147483647 : Int32)), (.int p3)])) (fun t k => X0.ldcInt hx hown (mvT hZ (hw _ (List.mem_of_getElem? (i := 0) rfl))) (g := (mkF m 19 #[.val (.int p1), .val (.int p2), .val (.int p3), .val (.int (Int32.ofNat B)), .val (.int (Int32.ofNat n)), .unset, .unset, .unset, .unset, .unset, .unset, .unset, .unset, .unset, .unset, .unset, .unset, .unset] [(.int p3)])) rfl (hb hby at_19) t k) ?_
  refine own_fwd (B := s₁.setTop (mkF m 22 #[.val (.int p1), .val (.int p2), .val (.int p3), .val (.int (Int32.ofNat B)), .val (.int (Int32.ofNat n)), .unset, .unset, .unset, .unset, .unset, .unset, .unset, .unset, .unset, .unset, .unset, .unset, .unset] [(.int (p3 &&& (2147483647 : Int32)))])) (fun t k => XS.iand X0.here hx rfl (hb hby at_21) rfl k) ?_
  refine own_fwd (B := s₁.setTop (mkF m 24 #[.val (.int p1), .val (.int p2), .val (.int p3), .val (.int (Int32.ofNat B)), .val (.int (Int32.ofNat n)), .unset, .unset, .unset, .unset, .unset, .unset, .unset, .unset, .unset, .unset, .unset, .unset, .unset] [(.int (Int32.ofNat n)), (.int (p3 &&& (2147483647 : Int32)))])) (fun t k => XS.iload X0.here hx rfl (hb hby at_22) rfl k) ?_
  refine own_fwd (B := s₁.setTop (mkF m 25 #[.val (.int p1), .val (.int p2), .val (.int p3), .val (.int (Int32.ofNat B)), .val (.int (Int32.ofNat n)), .unset, .unset, .unset, .unset, .unset, .unset, .unset, .unset, .unset, .unset, .unset, .unset, .unset] [(.int (1 : Int32)), (.int (Int32.ofNat n)), (.int (p3 &&& (2147483647 : Int32)))])) (fun t k => XS.iconst X0.here hx rfl (hb hby at_24) k) ?_
  refine own_fwd (B := s₁.setTop (mkF m 26 #[.val (.int p1), .val (.int p2), .val (.int p3), .val (.int (Int32.ofNat B)), .val (.int (Int32.ofNat n)), .unset, .unset, .unset, .unset, .unset, .unset, .unset, .unset, .unset, .unset, .unset, .unset, .unset] [(.int ((Int32.ofNat n) + (1 : Int32))), (.int (p3 &&& (2147483647 : Int32)))])) (fun t k => XS.iadd X0.here hx rfl (hb hby at_25) rfl k) ?_
  refine own_fwd (B := s₁.setTop (mkF m 27 #[.val (.int p1), .val (.int p2), .val (.int p3), .val (.int (Int32.ofNat B)), .val (.int (Int32.ofNat n)), .unset, .unset, .unset, .unset, .unset, .unset, .unset, .unset, .unset, .unset, .unset, .unset, .unset] [(.int ((p3 &&& (2147483647 : Int32)) % ((Int32.ofNat n) + (1 : Int32))))])) (fun t k => iremM X0 hx rfl (hb hby at_26) rfl (own_nz hn2 : ((Int32.ofNat n) + (1 : Int32)) ≠ (0 : Int32)) k) ?_
  obtain ⟨i, hi, he_i⟩ := own_jj p3 hn2
  rw [he_i]
  refine own_fwd (B := s₁.setTop (mkF m 29 #[.val (.int p1), .val (.int p2), .val (.int p3), .val (.int (Int32.ofNat B)), .val (.int (Int32.ofNat n)), .val (.int (Int32.ofNat i)), .unset, .unset, .unset, .unset, .unset, .unset, .unset, .unset, .unset, .unset, .unset, .unset] [])) (fun t k => XS.istore X0.here hx rfl (hb hby at_27) rfl (l' := #[.val (.int p1), .val (.int p2), .val (.int p3), .val (.int (Int32.ofNat B)), .val (.int (Int32.ofNat n)), .val (.int (Int32.ofNat i)), .unset, .unset, .unset, .unset, .unset, .unset, .unset, .unset, .unset, .unset, .unset, .unset]) rfl k) ?_
  refine own_fwd (B := s₁.setTop (mkF m 30 #[.val (.int p1), .val (.int p2), .val (.int p3), .val (.int (Int32.ofNat B)), .val (.int (Int32.ofNat n)), .val (.int (Int32.ofNat i)), .unset, .unset, .unset, .unset, .unset, .unset, .unset, .unset, .unset, .unset, .unset, .unset] [(.int (Int32.ofNat B))])) (fun t k => XS.iloadN X0.here hx rfl (hb hby at_29) rfl k) ?_
  refine own_fwd (B := s₁.setTop (mkF m 31 #[.val (.int p1), .val (.int p2), .val (.int p3), .val (.int (Int32.ofNat B)), .val (.int (Int32.ofNat n)), .val (.int (Int32.ofNat i)), .unset, .unset, .unset, .unset, .unset, .unset, .unset, .unset, .unset, .unset, .unset, .unset] [(.double (FP.i2d (Int32.ofNat B)))])) (fun t k => XS.i2dS X0.here hx rfl (hb hby at_30) rfl rfl k) ?_
  refine own_fwd (B := s₁.setTop (mkF m 34 #[.val (.int p1), .val (.int p2), .val (.int p3), .val (.int (Int32.ofNat B)), .val (.int (Int32.ofNat n)), .val (.int (Int32.ofNat i)), .unset, .unset, .unset, .unset, .unset, .unset, .unset, .unset, .unset, .unset, .unset, .unset] [(.double (4652218415073722368 : UInt64)), (.double (FP.i2d (Int32.ofNat B)))])) (fun t k => X0.ldc2DoubleC hx hown (mvT hZ (hw _ (List.mem_of_getElem? (i := 1) rfl))) (g := (mkF m 31 #[.val (.int p1), .val (.int p2), .val (.int p3), .val (.int (Int32.ofNat B)), .val (.int (Int32.ofNat n)), .val (.int (Int32.ofNat i)), .unset, .unset, .unset, .unset, .unset, .unset, .unset, .unset, .unset, .unset, .unset, .unset] [(.double (FP.i2d (Int32.ofNat B)))])) rfl (hb hby at_31) t k) ?_
  refine own_fwd (B := s₁.setTop (mkF m 35 #[.val (.int p1), .val (.int p2), .val (.int p3), .val (.int (Int32.ofNat B)), .val (.int (Int32.ofNat n)), .val (.int (Int32.ofNat i)), .unset, .unset, .unset, .unset, .unset, .unset, .unset, .unset, .unset, .unset, .unset, .unset] [(.double (FP.ddiv (FP.i2d (Int32.ofNat B)) (4652218415073722368 : UInt64)))])) (fun t k => XS.ddivS X0.here hx rfl (hb hby at_34) rfl (own_nn (own_frac (own_of (by omega)) (by omega))) rfl k) ?_
  obtain ⟨fr, hfe⟩ : ∃ z, z = (FP.ddiv (FP.i2d (Int32.ofNat B)) (4652218415073722368 : UInt64)) := ⟨_, rfl⟩
  rw [← hfe]
  have hfr : own_P fr (B * 2 ^ 1064) := by rw [hfe]; exact own_frac (own_of (by omega)) (by omega)
  refine own_fwd (B := s₁.setTop (mkF m 37 #[.val (.int p1), .val (.int p2), .val (.int p3), .val (.int (Int32.ofNat B)), .val (.int (Int32.ofNat n)), .val (.int (Int32.ofNat i)), .val (.double fr), .second, .unset, .unset, .unset, .unset, .unset, .unset, .unset, .unset, .unset, .unset] [])) (fun t k => XS.dstore X0.here hx rfl (hb hby at_35) rfl (l' := #[.val (.int p1), .val (.int p2), .val (.int p3), .val (.int (Int32.ofNat B)), .val (.int (Int32.ofNat n)), .val (.int (Int32.ofNat i)), .val (.double fr), .second, .unset, .unset, .unset, .unset, .unset, .unset, .unset, .unset, .unset, .unset]) rfl k) ?_
  obtain ⟨T1, h1, X1, e1, E1, A1, D1, -, st1⟩ := newO X0 hx hZ hown (hw _ (List.mem_of_getElem? (i := 2) rfl)) (hw _ (List.mem_of_getElem? (i := 3) rfl)) (hw _ (List.mem_of_getElem? (i := 4) rfl)) e0 (g := (mkF m 37 #[.val (.int p1), .val (.int p2), .val (.int p3), .val (.int (Int32.ofNat B)), .val (.int (Int32.ofNat n)), .val (.int (Int32.ofNat i)), .val (.double fr), .second, .unset, .unset, .unset, .unset, .unset, .unset, .unset, .unset, .unset, .unset] [])) rfl (hb hby at_37) (by decide) (by decide)
  obtain ⟨b1, g1⟩ : ∃ z, z = h0.size := ⟨_, rfl⟩
  rw [← g1] at A1 D1 st1
  have ge_b1 : n0 ≤ b1 := Nat.le_trans Z0 (Nat.le_of_eq g1.symm)
  have sz_b1 : h0.size ≤ b1 := Nat.le_trans (Keep.refl h0 []).1 (Nat.le_of_eq g1.symm)
  have Z2 : n0 ≤ h1.size := Nat.le_trans Z0 E1.1
  have K2 : Keep h0 h1 [] := (Keep.refl h0 []).ext E1
  have F1_from : Fld Z h1 b1 "com/example/hazeway/hazeway/QuantileBand" "from" "D" (.double (0 : UInt64)) := D1 (Or.inr (hw _ (List.mem_of_getElem? (i := 13) rfl))) (ty := .double) (by decide)
  have F1_to : Fld Z h1 b1 "com/example/hazeway/hazeway/QuantileBand" "to" "D" (.double (0 : UInt64)) := D1 (Or.inr (hw _ (List.mem_of_getElem? (i := 15) rfl))) (ty := .double) (by decide)
  refine own_fwd (B := T1.setTop (mkF m 40 #[.val (.int p1), .val (.int p2), .val (.int p3), .val (.int (Int32.ofNat B)), .val (.int (Int32.ofNat n)), .val (.int (Int32.ofNat i)), .val (.double fr), .second, .unset, .unset, .unset, .unset, .unset, .unset, .unset, .unset, .unset, .unset] [(.ref b1)])) (fun t k => st1 t k) ?_
  refine own_fwd (B := T1.setTop (mkF m 41 #[.val (.int p1), .val (.int p2), .val (.int p3), .val (.int (Int32.ofNat B)), .val (.int (Int32.ofNat n)), .val (.int (Int32.ofNat i)), .val (.double fr), .second, .unset, .unset, .unset, .unset, .unset, .unset, .unset, .unset, .unset, .unset] [(.ref b1), (.ref b1)])) (fun t k => XS.dup X1.here hx rfl (hb hby at_40) rfl rfl k) ?_
  refine own_fwd (B := T1.setTop (mkF m 43 #[.val (.int p1), .val (.int p2), .val (.int p3), .val (.int (Int32.ofNat B)), .val (.int (Int32.ofNat n)), .val (.int (Int32.ofNat i)), .val (.double fr), .second, .unset, .unset, .unset, .unset, .unset, .unset, .unset, .unset, .unset, .unset] [(.double fr), (.ref b1), (.ref b1)])) (fun t k => XS.dload X1.here hx rfl (hb hby at_41) rfl k) ?_
  obtain ⟨_, _, ⟨T3, L3, k3, n3⟩, -, X3, ⟨Lc3, hQ3, l3, y3, z3⟩, st3⟩ := X1.specialBack hx (y := (⟨"com/example/hazeway/hazeway/QuantileBand", "<init>", "(D)V"⟩ : MethodName)) rfl hown (mvT hZ (hw _ (List.mem_of_getElem? (i := 5) rfl))) (mvT hZ (hw _ (List.mem_of_getElem? (i := 6) rfl))) (mvT hZ (hw _ (List.mem_of_getElem? (i := 7) rfl))) (by decide) (backOf (W := 1) (rmC l Z a0 hw [] b1 fr B h1 n0 Z2 A1 F1_from F1_to ge_b1 (hfr : own_P fr (B * 2 ^ 1064)) (hB : B ≤ 512)) hZ (hw _ (List.mem_of_getElem? (i := 7) rfl)) (hw _ (List.mem_of_getElem? (i := 4) rfl)) (by decide) (by decide)) (g := (mkF m 43 #[.val (.int p1), .val (.int p2), .val (.int p3), .val (.int (Int32.ofNat B)), .val (.int (Int32.ofNat n)), .val (.int (Int32.ofNat i)), .val (.double fr), .second, .unset, .unset, .unset, .unset, .unset, .unset, .unset, .unset, .unset, .unset] [(.double fr), (.ref b1), (.ref b1)])) rfl (by rw [hml]; rfl) (Steps.refl _) (a := b1) (argsL := [(.double fr)]) (rest := [(.ref b1)]) (lenOf pd_0 rfl) rfl (by show 2 * 0 + _ ≤ _; exact Nat.le_of_eq rfl) (hb hby at_43) (fun _ _ => ⟨rfl, e1, (by decide : 1 + 0 ≤ _), (by decide : 2 + 0 ≤ _)⟩)
  dsimp only [Pt.U, Pt.locs, Pt.cells, Pt.slots] at X3 l3 y3 z3 st3 hQ3
  subst l3 y3 z3
  obtain ⟨rfl, N3q, K3q, KF3q, R3_0, R3_1⟩ := hQ3
  have N3 := Fr.app N0 N3q
  have Z4 : n0 ≤ T3.heap.size := Nat.le_trans Z2 K3q.1
  have K4 : Keep h0 T3.heap [] := K2.trans K3q (allS (Or.inr sz_b1) all0)
  refine own_fwd (B := T3.setTop (mkF m 46 #[.val (.int p1), .val (.int p2), .val (.int p3), .val (.int (Int32.ofNat B)), .val (.int (Int32.ofNat n)), .val (.int (Int32.ofNat i)), .val (.double fr), .second, .unset, .unset, .unset, .unset, .unset, .unset, .unset, .unset, .unset, .unset] [(.ref b1)])) (fun t k => st3.trans k) ?_
  refine own_fwd (B := T3.setTop (mkF m 48 #[.val (.int p1), .val (.int p2), .val (.int p3), .val (.int (Int32.ofNat B)), .val (.int (Int32.ofNat n)), .val (.int (Int32.ofNat i)), .val (.double fr), .second, .val (.ref b1), .unset, .unset, .unset, .unset, .unset, .unset, .unset, .unset, .unset] [])) (fun t k => XS.astore X3.here hx rfl (hb hby at_46) rfl rfl (l' := #[.val (.int p1), .val (.int p2), .val (.int p3), .val (.int (Int32.ofNat B)), .val (.int (Int32.ofNat n)), .val (.int (Int32.ofNat i)), .val (.double fr), .second, .val (.ref b1), .unset, .unset, .unset, .unset, .unset, .unset, .unset, .unset, .unset]) rfl k) ?_
  refine own_fwd (B := T3.setTop (mkF m 50 #[.val (.int p1), .val (.int p2), .val (.int p3), .val (.int (Int32.ofNat B)), .val (.int (Int32.ofNat n)), .val (.int (Int32.ofNat i)), .val (.double fr), .second, .val (.ref b1), .unset, .unset, .unset, .unset, .unset, .unset, .unset, .unset, .unset] [(.ref b1)])) (fun t k => XS.aload X3.here hx rfl (hb hby at_48) rfl rfl k) ?_
  refine own_fwd (B := T3.setTop (mkF m 52 #[.val (.int p1), .val (.int p2), .val (.int p3), .val (.int (Int32.ofNat B)), .val (.int (Int32.ofNat n)), .val (.int (Int32.ofNat i)), .val (.double fr), .second, .val (.ref b1), .unset, .unset, .unset, .unset, .unset, .unset, .unset, .unset, .unset] [(.int (Int32.ofNat n)), (.ref b1)])) (fun t k => XS.iload X3.here hx rfl (hb hby at_50) rfl k) ?_
  obtain ⟨cq5, kq5, q5a, q5b, q5c⟩ := isOf hZ rfl (A1.keep K3q)
  obtain ⟨_, _, ⟨T5, L5, k5, n5⟩, -, X5, ⟨Lc5, hQ5, l5, y5, z5⟩, st5⟩ := X3.virtualBack hx (y := (⟨"com/example/hazeway/hazeway/QuantileBand", "levels", "(I)[D"⟩ : MethodName)) (z := (⟨"com/example/hazeway/hazeway/QuantileBand", "levels", "(I)[D"⟩ : MethodName)) hown (mvT hZ (hw _ (List.mem_of_getElem? (i := 16) rfl))) (mvT hZ (hw _ (List.mem_of_getElem? (i := 17) rfl))) (notFace_of_selects (args := #[]) (mvT hZ (hw _ (List.mem_of_getElem? (i := 19) rfl)))) (mvT hZ (hw _ (List.mem_of_getElem? (i := 19) rfl))) (mvT hZ (hw _ (List.mem_of_getElem? (i := 18) rfl))) (by decide) (backOf (W := 0) (rmL l Z a0 hw [] b1 n B fr (FP.dsub (4607182418800017408 : UInt64) fr) T3.heap n0 Z4 R3_0 R3_1 (hfr : own_P fr (B * 2 ^ 1064)) (own_to hfr hB : own_P (FP.dsub (4607182418800017408 : UInt64) fr) ((1024 - B) * 2 ^ 1064)) (hB : B ≤ 512) (hn1 : 1 ≤ n) (hn2 : n ≤ 256)) hZ (hw _ (List.mem_of_getElem? (i := 20) rfl)) (hw _ (List.mem_of_getElem? (i := 4) rfl)) (by decide) (by decide)) q5a q5c (g := (mkF m 52 #[.val (.int p1), .val (.int p2), .val (.int p3), .val (.int (Int32.ofNat B)), .val (.int (Int32.ofNat n)), .val (.int (Int32.ofNat i)), .val (.double fr), .second, .val (.ref b1), .unset, .unset, .unset, .unset, .unset, .unset, .unset, .unset, .unset] [(.int (Int32.ofNat n)), (.ref b1)])) rfl (by rw [hml]; rfl) (Steps.refl _) (argsL := [(.int (Int32.ofNat n))]) (rest := []) (lenOf pd_1 rfl) rfl (by show 2 * 0 + _ ≤ _; exact Nat.le_of_eq rfl) (hb hby at_52) (fun _ _ => ⟨rfl, rfl, (by decide : 1 + 1 ≤ _), (by decide : 2 + 257 ≤ _)⟩)
  dsimp only [Pt.U, Pt.locs, Pt.cells, Pt.slots] at X5 l5 y5 z5 st5 hQ5
  subst l5 y5 z5
  obtain ⟨ar_5, kk_5, rfl, N5q, K5q, KF5q, sz5_ar, R5_0⟩ := hQ5
  have N5 := Fr.app N3 N5q
  have ge_ar_5 : n0 ≤ ar_5 := Nat.le_trans Z4 sz5_ar
  have sz_ar_5 : h0.size ≤ ar_5 := Nat.le_trans K4.1 sz5_ar
  have Z6 : n0 ≤ T5.heap.size := Nat.le_trans Z4 K5q.1
  have K6 : Keep h0 T5.heap [] := K4.trans K5q all0
  refine own_fwd (B := T5.setTop (mkF m 55 #[.val (.int p1), .val (.int p2), .val (.int p3), .val (.int (Int32.ofNat B)), .val (.int (Int32.ofNat n)), .val (.int (Int32.ofNat i)), .val (.double fr), .second, .val (.ref b1), .unset, .unset, .unset, .unset, .unset, .unset, .unset, .unset, .unset] [(.ref ar_5)])) (fun t k => st5.trans k) ?_
  refine own_fwd (B := T5.setTop (mkF m 57 #[.val (.int p1), .val (.int p2), .val (.int p3), .val (.int (Int32.ofNat B)), .val (.int (Int32.ofNat n)), .val (.int (Int32.ofNat i)), .val (.double fr), .second, .val (.ref b1), .val (.ref ar_5), .unset, .unset, .unset, .unset, .unset, .unset, .unset, .unset] [])) (fun t k => XS.astore X5.here hx rfl (hb hby at_55) rfl rfl (l' := #[.val (.int p1), .val (.int p2), .val (.int p3), .val (.int (Int32.ofNat B)), .val (.int (Int32.ofNat n)), .val (.int (Int32.ofNat i)), .val (.double fr), .second, .val (.ref b1), .val (.ref ar_5), .unset, .unset, .unset, .unset, .unset, .unset, .unset, .unset]) rfl k) ?_
  refine own_fwd (B := T5.setTop (mkF m 59 #[.val (.int p1), .val (.int p2), .val (.int p3), .val (.int (Int32.ofNat B)), .val (.int (Int32.ofNat n)), .val (.int (Int32.ofNat i)), .val (.double fr), .second, .val (.ref b1), .val (.ref ar_5), .unset, .unset, .unset, .unset, .unset, .unset, .unset, .unset] [(.ref ar_5)])) (fun t k => XS.aload X5.here hx rfl (hb hby at_57) rfl rfl k) ?_
  obtain ⟨c7, Ar7, -, S7, M7, -, -⟩ := id R5_0
  have len7 := len_of S7 M7
  refine own_fwd (B := T5.setTop (mkF m 60 #[.val (.int p1), .val (.int p2), .val (.int p3), .val (.int (Int32.ofNat B)), .val (.int (Int32.ofNat n)), .val (.int (Int32.ofNat i)), .val (.double fr), .second, .val (.ref b1), .val (.ref ar_5), .unset, .unset, .unset, .unset, .unset, .unset, .unset, .unset] [(.int ((Int32.ofNat n) + (1 : Int32)))])) (fun t k => X5.arraylength hx (Ar7.1) (State.isArrayOf_alike hZ.alike Ar7.2.1) (g := (mkF m 59 #[.val (.int p1), .val (.int p2), .val (.int p3), .val (.int (Int32.ofNat B)), .val (.int (Int32.ofNat n)), .val (.int (Int32.ofNat i)), .val (.double fr), .second, .val (.ref b1), .val (.ref ar_5), .unset, .unset, .unset, .unset, .unset, .unset, .unset, .unset] [(.ref ar_5)])) rfl rfl (hb hby at_59) t (by rw [len7]; exact k)) ?_
  refine own_fwd (B := T5.setTop (mkF m 62 #[.val (.int p1), .val (.int p2), .val (.int p3), .val (.int (Int32.ofNat B)), .val (.int (Int32.ofNat n)), .val (.int (Int32.ofNat i)), .val (.double fr), .second, .val (.ref b1), .val (.ref ar_5), .unset, .unset, .unset, .unset, .unset, .unset, .unset, .unset] [(.int (Int32.ofNat n)), (.int ((Int32.ofNat n) + (1 : Int32)))])) (fun t k => XS.iload X5.here hx rfl (hb hby at_60) rfl k) ?_
  refine own_fwd (B := T5.setTop (mkF m 63 #[.val (.int p1), .val (.int p2), .val (.int p3), .val (.int (Int32.ofNat B)), .val (.int (Int32.ofNat n)), .val (.int (Int32.ofNat i)), .val (.double fr), .second, .val (.ref b1), .val (.ref ar_5), .unset, .unset, .unset, .unset, .unset, .unset, .unset, .unset] [(.int (1 : Int32)), (.int (Int32.ofNat n)), (.int ((Int32.ofNat n) + (1 : Int32)))])) (fun t k => XS.iconst X5.here hx rfl (hb hby at_62) k) ?_
  refine own_fwd (B := T5.setTop (mkF m 64 #[.val (.int p1), .val (.int p2), .val (.int p3), .val (.int (Int32.ofNat B)), .val (.int (Int32.ofNat n)), .val (.int (Int32.ofNat i)), .val (.double fr), .second, .val (.ref b1), .val (.ref ar_5), .unset, .unset, .unset, .unset, .unset, .unset, .unset, .unset] [(.int ((Int32.ofNat n) + (1 : Int32))), (.int ((Int32.ofNat n) + (1 : Int32)))])) (fun t k => XS.iadd X5.here hx rfl (hb hby at_63) rfl k) ?_
  refine own_fwd (B := T5.setTop (mkF m 69 #[.val (.int p1), .val (.int p2), .val (.int p3), .val (.int (Int32.ofNat B)), .val (.int (Int32.ofNat n)), .val (.int (Int32.ofNat i)), .val (.double fr), .second, .val (.ref b1), .val (.ref ar_5), .unset, .unset, .unset, .unset, .unset, .unset, .unset, .unset] [])) (fun t k => XS.icmpYes X5.here hx rfl (pc0 := 64) (pc' := 69) rfl (hb hby at_64) rfl (teq (rfl : ((Int32.ofNat n) + (1 : Int32)) = ((Int32.ofNat n) + (1 : Int32)))).1 (by decide) (by decide) k) ?_
  refine own_fwd (B := T5.setTop (mkF m 71 #[.val (.int p1), .val (.int p2), .val (.int p3), .val (.int (Int32.ofNat B)), .val (.int (Int32.ofNat n)), .val (.int (Int32.ofNat i)), .val (.double fr), .second, .val (.ref b1), .val (.ref ar_5), .unset, .unset, .unset, .unset, .unset, .unset, .unset, .unset] [(.double fr)])) (fun t k => XS.dload X5.here hx rfl (hb hby at_69) rfl k) ?_
  refine own_fwd (B := T5.setTop (mkF m 73 #[.val (.int p1), .val (.int p2), .val (.int p3), .val (.int (Int32.ofNat B)), .val (.int (Int32.ofNat n)), .val (.int (Int32.ofNat i)), .val (.double fr), .second, .val (.ref b1), .val (.ref ar_5), .val (.double fr), .second, .unset, .unset, .unset, .unset, .unset, .unset] [])) (fun t k => XS.dstore X5.here hx rfl (hb hby at_71) rfl (l' := #[.val (.int p1), .val (.int p2), .val (.int p3), .val (.int (Int32.ofNat B)), .val (.int (Int32.ofNat n)), .val (.int (Int32.ofNat i)), .val (.double fr), .second, .val (.ref b1), .val (.ref ar_5), .val (.double fr), .second, .unset, .unset, .unset, .unset, .unset, .unset]) rfl k) ?_
  refine own_fwd (B := T5.setTop (mkF m 76 #[.val (.int p1), .val (.int p2), .val (.int p3), .val (.int (Int32.ofNat B)), .val (.int (Int32.ofNat n)), .val (.int (Int32.ofNat i)), .val (.double fr), .second, .val (.ref b1), .val (.ref ar_5), .val (.double fr), .second, .unset, .unset, .unset, .unset, .unset, .unset] [(.int (1024 : Int32))])) (fun t k => XS.sipush X5.here hx rfl (hb hby at_73) k) ?_
  refine own_fwd (B := T5.setTop (mkF m 77 #[.val (.int p1), .val (.int p2), .val (.int p3), .val (.int (Int32.ofNat B)), .val (.int (Int32.ofNat n)), .val (.int (Int32.ofNat i)), .val (.double fr), .second, .val (.ref b1), .val (.ref ar_5), .val (.double fr), .second, .unset, .unset, .unset, .unset, .unset, .unset] [(.int (Int32.ofNat B)), (.int (1024 : Int32))])) (fun t k => XS.iloadN X5.here hx rfl (hb hby at_76) rfl k) ?_
  refine own_fwd (B := T5.setTop (mkF m 78 #[.val (.int p1), .val (.int p2), .val (.int p3), .val (.int (Int32.ofNat B)), .val (.int (Int32.ofNat n)), .val (.int (Int32.ofNat i)), .val (.double fr), .second, .val (.ref b1), .val (.ref ar_5), .val (.double fr), .second, .unset, .unset, .unset, .unset, .unset, .unset] [(.int ((1024 : Int32) - (Int32.ofNat B)))])) (fun t k => XS.isub X5.here hx rfl (hb hby at_77) rfl k) ?_
  refine own_fwd (B := T5.setTop (mkF m 79 #[.val (.int p1), .val (.int p2), .val (.int p3), .val (.int (Int32.ofNat B)), .val (.int (Int32.ofNat n)), .val (.int (Int32.ofNat i)), .val (.double fr), .second, .val (.ref b1), .val (.ref ar_5), .val (.double fr), .second, .unset, .unset, .unset, .unset, .unset, .unset] [(.double (FP.i2d ((1024 : Int32) - (Int32.ofNat B))))])) (fun t k => XS.i2dS X5.here hx rfl (hb hby at_78) rfl rfl k) ?_
  refine own_fwd (B := T5.setTop (mkF m 82 #[.val (.int p1), .val (.int p2), .val (.int p3), .val (.int (Int32.ofNat B)), .val (.int (Int32.ofNat n)), .val (.int (Int32.ofNat i)), .val (.double fr), .second, .val (.ref b1), .val (.ref ar_5), .val (.double fr), .second, .unset, .unset, .unset, .unset, .unset, .unset] [(.double (4652218415073722368 : UInt64)), (.double (FP.i2d ((1024 : Int32) - (Int32.ofNat B))))])) (fun t k => X5.ldc2DoubleC hx hown (mvT hZ (hw _ (List.mem_of_getElem? (i := 1) rfl))) (g := (mkF m 79 #[.val (.int p1), .val (.int p2), .val (.int p3), .val (.int (Int32.ofNat B)), .val (.int (Int32.ofNat n)), .val (.int (Int32.ofNat i)), .val (.double fr), .second, .val (.ref b1), .val (.ref ar_5), .val (.double fr), .second, .unset, .unset, .unset, .unset, .unset, .unset] [(.double (FP.i2d ((1024 : Int32) - (Int32.ofNat B))))])) rfl (hb hby at_79) t k) ?_
  refine own_fwd (B := T5.setTop (mkF m 83 #[.val (.int p1), .val (.int p2), .val (.int p3), .val (.int (Int32.ofNat B)), .val (.int (Int32.ofNat n)), .val (.int (Int32.ofNat i)), .val (.double fr), .second, .val (.ref b1), .val (.ref ar_5), .val (.double fr), .second, .unset, .unset, .unset, .unset, .unset, .unset] [(.double (FP.ddiv (FP.i2d ((1024 : Int32) - (Int32.ofNat B))) (4652218415073722368 : UInt64)))])) (fun t k => XS.ddivS X5.here hx rfl (hb hby at_82) rfl (own_nn (own_frac (own_sub1 (k := 1024) rfl (by omega)) (by omega))) rfl k) ?_
  refine own_fwd (B := T5.setTop (mkF m 85 #[.val (.int p1), .val (.int p2), .val (.int p3), .val (.int (Int32.ofNat B)), .val (.int (Int32.ofNat n)), .val (.int (Int32.ofNat i)), .val (.double fr), .second, .val (.ref b1), .val (.ref ar_5), .val (.double fr), .second, .val (.double (FP.ddiv (FP.i2d ((1024 : Int32) - (Int32.ofNat B))) (4652218415073722368 : UInt64))), .second, .unset, .unset, .unset, .unset] [])) (fun t k => XS.dstore X5.here hx rfl (hb hby at_83) rfl (l' := #[.val (.int p1), .val (.int p2), .val (.int p3), .val (.int (Int32.ofNat B)), .val (.int (Int32.ofNat n)), .val (.int (Int32.ofNat i)), .val (.double fr), .second, .val (.ref b1), .val (.ref ar_5), .val (.double fr), .second, .val (.double (FP.ddiv (FP.i2d ((1024 : Int32) - (Int32.ofNat B))) (4652218415073722368 : UInt64))), .second, .unset, .unset, .unset, .unset]) rfl k) ?_
  refine own_fwd (B := T5.setTop (mkF m 87 #[.val (.int p1), .val (.int p2), .val (.int p3), .val (.int (Int32.ofNat B)), .val (.int (Int32.ofNat n)), .val (.int (Int32.ofNat i)), .val (.double fr), .second, .val (.ref b1), .val (.ref ar_5), .val (.double fr), .second, .val (.double (FP.ddiv (FP.i2d ((1024 : Int32) - (Int32.ofNat B))) (4652218415073722368 : UInt64))), .second, .unset, .unset, .unset, .unset] [(.ref ar_5)])) (fun t k => XS.aload X5.here hx rfl (hb hby at_85) rfl rfl k) ?_
  refine own_fwd (B := T5.setTop (mkF m 88 #[.val (.int p1), .val (.int p2), .val (.int p3), .val (.int (Int32.ofNat B)), .val (.int (Int32.ofNat n)), .val (.int (Int32.ofNat i)), .val (.double fr), .second, .val (.ref b1), .val (.ref ar_5), .val (.double fr), .second, .val (.double (FP.ddiv (FP.i2d ((1024 : Int32) - (Int32.ofNat B))) (4652218415073722368 : UInt64))), .second, .unset, .unset, .unset, .unset] [(.int (0 : Int32)), (.ref ar_5)])) (fun t k => XS.iconst X5.here hx rfl (hb hby at_87) k) ?_
  obtain ⟨c8, Ar8, q8, S8, M8, H8, G8⟩ := id R5_0
  have hin8 : ¬ ((0 : Int32) < 0 ∨ c8.slots.size ≤ ((0 : Int32)).toNatClampNeg) := inb_of S8 ⟨by decide, by rw [own_one]; exact own_ltN (i := 0) (by omega) (by omega)⟩
  have hat8 : c8.slots[((0 : Int32)).toNatClampNeg]? = some (.double (own_g fr (FP.dsub (4607182418800017408 : UInt64) fr) n 0)) := H8.at hin8 (by rw [show (0 : Int32).toNatClampNeg = 0 from rfl]; exact own_at _ (by omega) _)
  refine own_fwd (B := T5.setTop (mkF m 89 #[.val (.int p1), .val (.int p2), .val (.int p3), .val (.int (Int32.ofNat B)), .val (.int (Int32.ofNat n)), .val (.int (Int32.ofNat i)), .val (.double fr), .second, .val (.ref b1), .val (.ref ar_5), .val (.double fr), .second, .val (.double (FP.ddiv (FP.i2d ((1024 : Int32) - (Int32.ofNat B))) (4652218415073722368 : UInt64))), .second, .unset, .unset, .unset, .unset] [(.double (own_g fr (FP.dsub (4607182418800017408 : UInt64) fr) n 0))])) (fun t k => X5.daload hx (j := (0 : Int32)) (v := (.double (own_g fr (FP.dsub (4607182418800017408 : UInt64) fr) n 0))) (Ar8.1) (State.isArrayOf_alike hZ.alike Ar8.2.1) Ar8.2.2 hin8 hat8 (g := (mkF m 88 #[.val (.int p1), .val (.int p2), .val (.int p3), .val (.int (Int32.ofNat B)), .val (.int (Int32.ofNat n)), .val (.int (Int32.ofNat i)), .val (.double fr), .second, .val (.ref b1), .val (.ref ar_5), .val (.double fr), .second, .val (.double (FP.ddiv (FP.i2d ((1024 : Int32) - (Int32.ofNat B))) (4652218415073722368 : UInt64))), .second, .unset, .unset, .unset, .unset] [(.int (0 : Int32)), (.ref ar_5)])) rfl rfl (hb hby at_88) t k) ?_
  refine own_fwd (B := T5.setTop (mkF m 91 #[.val (.int p1), .val (.int p2), .val (.int p3), .val (.int (Int32.ofNat B)), .val (.int (Int32.ofNat n)), .val (.int (Int32.ofNat i)), .val (.double fr), .second, .val (.ref b1), .val (.ref ar_5), .val (.double fr), .second, .val (.double (FP.ddiv (FP.i2d ((1024 : Int32) - (Int32.ofNat B))) (4652218415073722368 : UInt64))), .second, .unset, .unset, .unset, .unset] [(.double fr), (.double (own_g fr (FP.dsub (4607182418800017408 : UInt64) fr) n 0))])) (fun t k => XS.dload X5.here hx rfl (hb hby at_89) rfl k) ?_
  refine own_fwd (B := T5.setTop (mkF m 92 #[.val (.int p1), .val (.int p2), .val (.int p3), .val (.int (Int32.ofNat B)), .val (.int (Int32.ofNat n)), .val (.int (Int32.ofNat i)), .val (.double fr), .second, .val (.ref b1), .val (.ref ar_5), .val (.double fr), .second, .val (.double (FP.ddiv (FP.i2d ((1024 : Int32) - (Int32.ofNat B))) (4652218415073722368 : UInt64))), .second, .unset, .unset, .unset, .unset] [(.int (cmpValue (FP.dcmp (own_g fr (FP.dsub (4607182418800017408 : UInt64) fr) n 0) fr) .l))])) (fun t k => XS.dcmpS X5.here hx rfl (hb hby at_91) rfl rfl k) ?_
  refine own_fwd (B := T5.setTop (mkF m 97 #[.val (.int p1), .val (.int p2), .val (.int p3), .val (.int (Int32.ofNat B)), .val (.int (Int32.ofNat n)), .val (.int (Int32.ofNat i)), .val (.double fr), .second, .val (.ref b1), .val (.ref ar_5), .val (.double fr), .second, .val (.double (FP.ddiv (FP.i2d ((1024 : Int32) - (Int32.ofNat B))) (4652218415073722368 : UInt64))), .second, .unset, .unset, .unset, .unset] [])) (fun t k => XS.ifYes X5.here hx rfl (pc0 := 92) (pc' := 97) rfl (hb hby at_92) rfl ((if0 _ _).trans (teq (own_ceq (by rw [← own_l_zero hB hn1]; exact own_gP hfr (own_to hfr hB) hB hn1 hn2 (by omega)) hfr : (cmpValue (FP.dcmp (own_g fr (FP.dsub (4607182418800017408 : UInt64) fr) n 0) fr) .l) = (0 : Int32))).1) (by decide) (by decide) k) ?_
  refine own_fwd (B := T5.setTop (mkF m 99 #[.val (.int p1), .val (.int p2), .val (.int p3), .val (.int (Int32.ofNat B)), .val (.int (Int32.ofNat n)), .val (.int (Int32.ofNat i)), .val (.double fr), .second, .val (.ref b1), .val (.ref ar_5), .val (.double fr), .second, .val (.double (FP.ddiv (FP.i2d ((1024 : Int32) - (Int32.ofNat B))) (4652218415073722368 : UInt64))), .second, .unset, .unset, .unset, .unset] [(.ref ar_5)])) (fun t k => XS.aload X5.here hx rfl (hb hby at_97) rfl rfl k) ?_
  refine own_fwd (B := T5.setTop (mkF m 101 #[.val (.int p1), .val (.int p2), .val (.int p3), .val (.int (Int32.ofNat B)), .val (.int (Int32.ofNat n)), .val (.int (Int32.ofNat i)), .val (.double fr), .second, .val (.ref b1), .val (.ref ar_5), .val (.double fr), .second, .val (.double (FP.ddiv (FP.i2d ((1024 : Int32) - (Int32.ofNat B))) (4652218415073722368 : UInt64))), .second, .unset, .unset, .unset, .unset] [(.int (Int32.ofNat n)), (.ref ar_5)])) (fun t k => XS.iload X5.here hx rfl (hb hby at_99) rfl k) ?_
  obtain ⟨c9, Ar9, q9, S9, M9, H9, G9⟩ := id R5_0
  have hin9 : ¬ ((Int32.ofNat n) < 0 ∨ c9.slots.size ≤ ((Int32.ofNat n)).toNatClampNeg) := inb_of S9 ⟨own_nneg (by omega), by rw [own_one]; exact own_ltN (i := n) (by omega) (by omega)⟩
  have hat9 : c9.slots[((Int32.ofNat n)).toNatClampNeg]? = some (.double (own_g fr (FP.dsub (4607182418800017408 : UInt64) fr) n n)) := H9.at hin9 (by rw [own_cl (by omega)]; exact own_at _ (by omega) _)
  refine own_fwd (B := T5.setTop (mkF m 102 #[.val (.int p1), .val (.int p2), .val (.int p3), .val (.int (Int32.ofNat B)), .val (.int (Int32.ofNat n)), .val (.int (Int32.ofNat i)), .val (.double fr), .second, .val (.ref b1), .val (.ref ar_5), .val (.double fr), .second, .val (.double (FP.ddiv (FP.i2d ((1024 : Int32) - (Int32.ofNat B))) (4652218415073722368 : UInt64))), .second, .unset, .unset, .unset, .unset] [(.double (own_g fr (FP.dsub (4607182418800017408 : UInt64) fr) n n))])) (fun t k => X5.daload hx (j := (Int32.ofNat n)) (v := (.double (own_g fr (FP.dsub (4607182418800017408 : UInt64) fr) n n))) (Ar9.1) (State.isArrayOf_alike hZ.alike Ar9.2.1) Ar9.2.2 hin9 hat9 (g := (mkF m 101 #[.val (.int p1), .val (.int p2), .val (.int p3), .val (.int (Int32.ofNat B)), .val (.int (Int32.ofNat n)), .val (.int (Int32.ofNat i)), .val (.double fr), .second, .val (.ref b1), .val (.ref ar_5), .val (.double fr), .second, .val (.double (FP.ddiv (FP.i2d ((1024 : Int32) - (Int32.ofNat B))) (4652218415073722368 : UInt64))), .second, .unset, .unset, .unset, .unset] [(.int (Int32.ofNat n)), (.ref ar_5)])) rfl rfl (hb hby at_101) t k) ?_
  refine own_fwd (B := T5.setTop (mkF m 104 #[.val (.int p1), .val (.int p2), .val (.int p3), .val (.int (Int32.ofNat B)), .val (.int (Int32.ofNat n)), .val (.int (Int32.ofNat i)), .val (.double fr), .second, .val (.ref b1), .val (.ref ar_5), .val (.double fr), .second, .val (.double (FP.ddiv (FP.i2d ((1024 : Int32) - (Int32.ofNat B))) (4652218415073722368 : UInt64))), .second, .unset, .unset, .unset, .unset] [(.double (FP.ddiv (FP.i2d ((1024 : Int32) - (Int32.ofNat B))) (4652218415073722368 : UInt64))), (.double (own_g fr (FP.dsub (4607182418800017408 : UInt64) fr) n n))])) (fun t k => XS.dload X5.here hx rfl (hb hby at_102) rfl k) ?_
  refine own_fwd (B := T5.setTop (mkF m 105 #[.val (.int p1), .val (.int p2), .val (.int p3), .val (.int (Int32.ofNat B)), .val (.int (Int32.ofNat n)), .val (.int (Int32.ofNat i)), .val (.double fr), .second, .val (.ref b1), .val (.ref ar_5), .val (.double fr), .second, .val (.double (FP.ddiv (FP.i2d ((1024 : Int32) - (Int32.ofNat B))) (4652218415073722368 : UInt64))), .second, .unset, .unset, .unset, .unset] [(.int (cmpValue (FP.dcmp (own_g fr (FP.dsub (4607182418800017408 : UInt64) fr) n n) (FP.ddiv (FP.i2d ((1024 : Int32) - (Int32.ofNat B))) (4652218415073722368 : UInt64))) .l))])) (fun t k => XS.dcmpS X5.here hx rfl (hb hby at_104) rfl rfl k) ?_
  refine own_fwd (B := T5.setTop (mkF m 110 #[.val (.int p1), .val (.int p2), .val (.int p3), .val (.int (Int32.ofNat B)), .val (.int (Int32.ofNat n)), .val (.int (Int32.ofNat i)), .val (.double fr), .second, .val (.ref b1), .val (.ref ar_5), .val (.double fr), .second, .val (.double (FP.ddiv (FP.i2d ((1024 : Int32) - (Int32.ofNat B))) (4652218415073722368 : UInt64))), .second, .unset, .unset, .unset, .unset] [])) (fun t k => XS.ifYes X5.here hx rfl (pc0 := 105) (pc' := 110) rfl (hb hby at_105) rfl ((if0 _ _).trans (teq (own_ceq (by rw [← own_l_n hB hn1]; exact own_gP hfr (own_to hfr hB) hB hn1 hn2 (Nat.le_refl _)) (own_frac (own_sub1 (k := 1024) rfl (by omega)) (by omega)) : (cmpValue (FP.dcmp (own_g fr (FP.dsub (4607182418800017408 : UInt64) fr) n n) (FP.ddiv (FP.i2d ((1024 : Int32) - (Int32.ofNat B))) (4652218415073722368 : UInt64))) .l) = (0 : Int32))).1) (by decide) (by decide) k) ?_
  have href := own_ref hB (own_m hB hn2 hi) hi (own_of (n := n) (by omega)) hn1 hn2
  refine own_fwd (B := T5.setTop (mkF m 111 #[.val (.int p1), .val (.int p2), .val (.int p3), .val (.int (Int32.ofNat B)), .val (.int (Int32.ofNat n)), .val (.int (Int32.ofNat i)), .val (.double fr), .second, .val (.ref b1), .val (.ref ar_5), .val (.double fr), .second, .val (.double (FP.ddiv (FP.i2d ((1024 : Int32) - (Int32.ofNat B))) (4652218415073722368 : UInt64))), .second, .unset, .unset, .unset, .unset] [(.int (Int32.ofNat B))])) (fun t k => XS.iloadN X5.here hx rfl (hb hby at_110) rfl k) ?_
  refine own_fwd (B := T5.setTop (mkF m 113 #[.val (.int p1), .val (.int p2), .val (.int p3), .val (.int (Int32.ofNat B)), .val (.int (Int32.ofNat n)), .val (.int (Int32.ofNat i)), .val (.double fr), .second, .val (.ref b1), .val (.ref ar_5), .val (.double fr), .second, .val (.double (FP.ddiv (FP.i2d ((1024 : Int32) - (Int32.ofNat B))) (4652218415073722368 : UInt64))), .second, .unset, .unset, .unset, .unset] [(.int (Int32.ofNat n)), (.int (Int32.ofNat B))])) (fun t k => XS.iload X5.here hx rfl (hb hby at_111) rfl k) ?_
  refine own_fwd (B := T5.setTop (mkF m 114 #[.val (.int p1), .val (.int p2), .val (.int p3), .val (.int (Int32.ofNat B)), .val (.int (Int32.ofNat n)), .val (.int (Int32.ofNat i)), .val (.double fr), .second, .val (.ref b1), .val (.ref ar_5), .val (.double fr), .second, .val (.double (FP.ddiv (FP.i2d ((1024 : Int32) - (Int32.ofNat B))) (4652218415073722368 : UInt64))), .second, .unset, .unset, .unset, .unset] [(.int ((Int32.ofNat B) * (Int32.ofNat n)))])) (fun t k => XS.imul X5.here hx rfl (hb hby at_113) rfl k) ?_
  refine own_fwd (B := T5.setTop (mkF m 117 #[.val (.int p1), .val (.int p2), .val (.int p3), .val (.int (Int32.ofNat B)), .val (.int (Int32.ofNat n)), .val (.int (Int32.ofNat i)), .val (.double fr), .second, .val (.ref b1), .val (.ref ar_5), .val (.double fr), .second, .val (.double (FP.ddiv (FP.i2d ((1024 : Int32) - (Int32.ofNat B))) (4652218415073722368 : UInt64))), .second, .unset, .unset, .unset, .unset] [(.int (1024 : Int32)), (.int ((Int32.ofNat B) * (Int32.ofNat n)))])) (fun t k => XS.sipush X5.here hx rfl (hb hby at_114) k) ?_
  refine own_fwd (B := T5.setTop (mkF m 118 #[.val (.int p1), .val (.int p2), .val (.int p3), .val (.int (Int32.ofNat B)), .val (.int (Int32.ofNat n)), .val (.int (Int32.ofNat i)), .val (.double fr), .second, .val (.ref b1), .val (.ref ar_5), .val (.double fr), .second, .val (.double (FP.ddiv (FP.i2d ((1024 : Int32) - (Int32.ofNat B))) (4652218415073722368 : UInt64))), .second, .unset, .unset, .unset, .unset] [(.int (2 : Int32)), (.int (1024 : Int32)), (.int ((Int32.ofNat B) * (Int32.ofNat n)))])) (fun t k => XS.iconst X5.here hx rfl (hb hby at_117) k) ?_
  refine own_fwd (B := T5.setTop (mkF m 119 #[.val (.int p1), .val (.int p2), .val (.int p3), .val (.int (Int32.ofNat B)), .val (.int (Int32.ofNat n)), .val (.int (Int32.ofNat i)), .val (.double fr), .second, .val (.ref b1), .val (.ref ar_5), .val (.double fr), .second, .val (.double (FP.ddiv (FP.i2d ((1024 : Int32) - (Int32.ofNat B))) (4652218415073722368 : UInt64))), .second, .unset, .unset, .unset, .unset] [(.int (Int32.ofNat B)), (.int (2 : Int32)), (.int (1024 : Int32)), (.int ((Int32.ofNat B) * (Int32.ofNat n)))])) (fun t k => XS.iloadN X5.here hx rfl (hb hby at_118) rfl k) ?_
  refine own_fwd (B := T5.setTop (mkF m 120 #[.val (.int p1), .val (.int p2), .val (.int p3), .val (.int (Int32.ofNat B)), .val (.int (Int32.ofNat n)), .val (.int (Int32.ofNat i)), .val (.double fr), .second, .val (.ref b1), .val (.ref ar_5), .val (.double fr), .second, .val (.double (FP.ddiv (FP.i2d ((1024 : Int32) - (Int32.ofNat B))) (4652218415073722368 : UInt64))), .second, .unset, .unset, .unset, .unset] [(.int ((2 : Int32) * (Int32.ofNat B))), (.int (1024 : Int32)), (.int ((Int32.ofNat B) * (Int32.ofNat n)))])) (fun t k => XS.imul X5.here hx rfl (hb hby at_119) rfl k) ?_
  refine own_fwd (B := T5.setTop (mkF m 121 #[.val (.int p1), .val (.int p2), .val (.int p3), .val (.int (Int32.ofNat B)), .val (.int (Int32.ofNat n)), .val (.int (Int32.ofNat i)), .val (.double fr), .second, .val (.ref b1), .val (.ref ar_5), .val (.double fr), .second, .val (.double (FP.ddiv (FP.i2d ((1024 : Int32) - (Int32.ofNat B))) (4652218415073722368 : UInt64))), .second, .unset, .unset, .unset, .unset] [(.int ((1024 : Int32) - ((2 : Int32) * (Int32.ofNat B)))), (.int ((Int32.ofNat B) * (Int32.ofNat n)))])) (fun t k => XS.isub X5.here hx rfl (hb hby at_120) rfl k) ?_
  refine own_fwd (B := T5.setTop (mkF m 123 #[.val (.int p1), .val (.int p2), .val (.int p3), .val (.int (Int32.ofNat B)), .val (.int (Int32.ofNat n)), .val (.int (Int32.ofNat i)), .val (.double fr), .second, .val (.ref b1), .val (.ref ar_5), .val (.double fr), .second, .val (.double (FP.ddiv (FP.i2d ((1024 : Int32) - (Int32.ofNat B))) (4652218415073722368 : UInt64))), .second, .unset, .unset, .unset, .unset] [(.int (Int32.ofNat i)), (.int ((1024 : Int32) - ((2 : Int32) * (Int32.ofNat B)))), (.int ((Int32.ofNat B) * (Int32.ofNat n)))])) (fun t k => XS.iload X5.here hx rfl (hb hby at_121) rfl k) ?_
  refine own_fwd (B := T5.setTop (mkF m 124 #[.val (.int p1), .val (.int p2), .val (.int p3), .val (.int (Int32.ofNat B)), .val (.int (Int32.ofNat n)), .val (.int (Int32.ofNat i)), .val (.double fr), .second, .val (.ref b1), .val (.ref ar_5), .val (.double fr), .second, .val (.double (FP.ddiv (FP.i2d ((1024 : Int32) - (Int32.ofNat B))) (4652218415073722368 : UInt64))), .second, .unset, .unset, .unset, .unset] [(.int (((1024 : Int32) - ((2 : Int32) * (Int32.ofNat B))) * (Int32.ofNat i))), (.int ((Int32.ofNat B) * (Int32.ofNat n)))])) (fun t k => XS.imul X5.here hx rfl (hb hby at_123) rfl k) ?_
  refine own_fwd (B := T5.setTop (mkF m 125 #[.val (.int p1), .val (.int p2), .val (.int p3), .val (.int (Int32.ofNat B)), .val (.int (Int32.ofNat n)), .val (.int (Int32.ofNat i)), .val (.double fr), .second, .val (.ref b1), .val (.ref ar_5), .val (.double fr), .second, .val (.double (FP.ddiv (FP.i2d ((1024 : Int32) - (Int32.ofNat B))) (4652218415073722368 : UInt64))), .second, .unset, .unset, .unset, .unset] [(.int (((Int32.ofNat B) * (Int32.ofNat n)) + (((1024 : Int32) - ((2 : Int32) * (Int32.ofNat B))) * (Int32.ofNat i))))])) (fun t k => XS.iadd X5.here hx rfl (hb hby at_124) rfl k) ?_
  refine own_fwd (B := T5.setTop (mkF m 126 #[.val (.int p1), .val (.int p2), .val (.int p3), .val (.int (Int32.ofNat B)), .val (.int (Int32.ofNat n)), .val (.int (Int32.ofNat i)), .val (.double fr), .second, .val (.ref b1), .val (.ref ar_5), .val (.double fr), .second, .val (.double (FP.ddiv (FP.i2d ((1024 : Int32) - (Int32.ofNat B))) (4652218415073722368 : UInt64))), .second, .unset, .unset, .unset, .unset] [(.double (FP.i2d (((Int32.ofNat B) * (Int32.ofNat n)) + (((1024 : Int32) - ((2 : Int32) * (Int32.ofNat B))) * (Int32.ofNat i)))))])) (fun t k => XS.i2dS X5.here hx rfl (hb hby at_125) rfl rfl k) ?_
  refine own_fwd (B := T5.setTop (mkF m 129 #[.val (.int p1), .val (.int p2), .val (.int p3), .val (.int (Int32.ofNat B)), .val (.int (Int32.ofNat n)), .val (.int (Int32.ofNat i)), .val (.double fr), .second, .val (.ref b1), .val (.ref ar_5), .val (.double fr), .second, .val (.double (FP.ddiv (FP.i2d ((1024 : Int32) - (Int32.ofNat B))) (4652218415073722368 : UInt64))), .second, .unset, .unset, .unset, .unset] [(.double (4652218415073722368 : UInt64)), (.double (FP.i2d (((Int32.ofNat B) * (Int32.ofNat n)) + (((1024 : Int32) - ((2 : Int32) * (Int32.ofNat B))) * (Int32.ofNat i)))))])) (fun t k => X5.ldc2DoubleC hx hown (mvT hZ (hw _ (List.mem_of_getElem? (i := 1) rfl))) (g := (mkF m 126 #[.val (.int p1), .val (.int p2), .val (.int p3), .val (.int (Int32.ofNat B)), .val (.int (Int32.ofNat n)), .val (.int (Int32.ofNat i)), .val (.double fr), .second, .val (.ref b1), .val (.ref ar_5), .val (.double fr), .second, .val (.double (FP.ddiv (FP.i2d ((1024 : Int32) - (Int32.ofNat B))) (4652218415073722368 : UInt64))), .second, .unset, .unset, .unset, .unset] [(.double (FP.i2d (((Int32.ofNat B) * (Int32.ofNat n)) + (((1024 : Int32) - ((2 : Int32) * (Int32.ofNat B))) * (Int32.ofNat i)))))])) rfl (hb hby at_126) t k) ?_
  refine own_fwd (B := T5.setTop (mkF m 131 #[.val (.int p1), .val (.int p2), .val (.int p3), .val (.int (Int32.ofNat B)), .val (.int (Int32.ofNat n)), .val (.int (Int32.ofNat i)), .val (.double fr), .second, .val (.ref b1), .val (.ref ar_5), .val (.double fr), .second, .val (.double (FP.ddiv (FP.i2d ((1024 : Int32) - (Int32.ofNat B))) (4652218415073722368 : UInt64))), .second, .unset, .unset, .unset, .unset] [(.int (Int32.ofNat n)), (.double (4652218415073722368 : UInt64)), (.double (FP.i2d (((Int32.ofNat B) * (Int32.ofNat n)) + (((1024 : Int32) - ((2 : Int32) * (Int32.ofNat B))) * (Int32.ofNat i)))))])) (fun t k => XS.iload X5.here hx rfl (hb hby at_129) rfl k) ?_
  refine own_fwd (B := T5.setTop (mkF m 132 #[.val (.int p1), .val (.int p2), .val (.int p3), .val (.int (Int32.ofNat B)), .val (.int (Int32.ofNat n)), .val (.int (Int32.ofNat i)), .val (.double fr), .second, .val (.ref b1), .val (.ref ar_5), .val (.double fr), .second, .val (.double (FP.ddiv (FP.i2d ((1024 : Int32) - (Int32.ofNat B))) (4652218415073722368 : UInt64))), .second, .unset, .unset, .unset, .unset] [(.double (FP.i2d (Int32.ofNat n))), (.double (4652218415073722368 : UInt64)), (.double (FP.i2d (((Int32.ofNat B) * (Int32.ofNat n)) + (((1024 : Int32) - ((2 : Int32) * (Int32.ofNat B))) * (Int32.ofNat i)))))])) (fun t k => XS.i2dS X5.here hx rfl (hb hby at_131) rfl rfl k) ?_
  refine own_fwd (B := T5.setTop (mkF m 133 #[.val (.int p1), .val (.int p2), .val (.int p3), .val (.int (Int32.ofNat B)), .val (.int (Int32.ofNat n)), .val (.int (Int32.ofNat i)), .val (.double fr), .second, .val (.ref b1), .val (.ref ar_5), .val (.double fr), .second, .val (.double (FP.ddiv (FP.i2d ((1024 : Int32) - (Int32.ofNat B))) (4652218415073722368 : UInt64))), .second, .unset, .unset, .unset, .unset] [(.double (FP.dmul (4652218415073722368 : UInt64) (FP.i2d (Int32.ofNat n)))), (.double (FP.i2d (((Int32.ofNat B) * (Int32.ofNat n)) + (((1024 : Int32) - ((2 : Int32) * (Int32.ofNat B))) * (Int32.ofNat i)))))])) (fun t k => XS.dmulS X5.here hx rfl (hb hby at_132) rfl (own_nn href.1) rfl k) ?_
  refine own_fwd (B := T5.setTop (mkF m 134 #[.val (.int p1), .val (.int p2), .val (.int p3), .val (.int (Int32.ofNat B)), .val (.int (Int32.ofNat n)), .val (.int (Int32.ofNat i)), .val (.double fr), .second, .val (.ref b1), .val (.ref ar_5), .val (.double fr), .second, .val (.double (FP.ddiv (FP.i2d ((1024 : Int32) - (Int32.ofNat B))) (4652218415073722368 : UInt64))), .second, .unset, .unset, .unset, .unset] [(.double (FP.ddiv (FP.i2d (((Int32.ofNat B) * (Int32.ofNat n)) + (((1024 : Int32) - ((2 : Int32) * (Int32.ofNat B))) * (Int32.ofNat i)))) (FP.dmul (4652218415073722368 : UInt64) (FP.i2d (Int32.ofNat n)))))])) (fun t k => XS.ddivS X5.here hx rfl (hb hby at_133) rfl (own_nn href.2) rfl k) ?_
  refine own_fwd (B := T5.setTop (mkF m 136 #[.val (.int p1), .val (.int p2), .val (.int p3), .val (.int (Int32.ofNat B)), .val (.int (Int32.ofNat n)), .val (.int (Int32.ofNat i)), .val (.double fr), .second, .val (.ref b1), .val (.ref ar_5), .val (.double fr), .second, .val (.double (FP.ddiv (FP.i2d ((1024 : Int32) - (Int32.ofNat B))) (4652218415073722368 : UInt64))), .second, .val (.double (FP.ddiv (FP.i2d (((Int32.ofNat B) * (Int32.ofNat n)) + (((1024 : Int32) - ((2 : Int32) * (Int32.ofNat B))) * (Int32.ofNat i)))) (FP.dmul (4652218415073722368 : UInt64) (FP.i2d (Int32.ofNat n))))), .second, .unset, .unset] [])) (fun t k => XS.dstore X5.here hx rfl (hb hby at_134) rfl (l' := #[.val (.int p1), .val (.int p2), .val (.int p3), .val (.int (Int32.ofNat B)), .val (.int (Int32.ofNat n)), .val (.int (Int32.ofNat i)), .val (.double fr), .second, .val (.ref b1), .val (.ref ar_5), .val (.double fr), .second, .val (.double (FP.ddiv (FP.i2d ((1024 : Int32) - (Int32.ofNat B))) (4652218415073722368 : UInt64))), .second, .val (.double (FP.ddiv (FP.i2d (((Int32.ofNat B) * (Int32.ofNat n)) + (((1024 : Int32) - ((2 : Int32) * (Int32.ofNat B))) * (Int32.ofNat i)))) (FP.dmul (4652218415073722368 : UInt64) (FP.i2d (Int32.ofNat n))))), .second, .unset, .unset]) rfl k) ?_
  refine own_fwd (B := T5.setTop (mkF m 138 #[.val (.int p1), .val (.int p2), .val (.int p3), .val (.int (Int32.ofNat B)), .val (.int (Int32.ofNat n)), .val (.int (Int32.ofNat i)), .val (.double fr), .second, .val (.ref b1), .val (.ref ar_5), .val (.double fr), .second, .val (.double (FP.ddiv (FP.i2d ((1024 : Int32) - (Int32.ofNat B))) (4652218415073722368 : UInt64))), .second, .val (.double (FP.ddiv (FP.i2d (((Int32.ofNat B) * (Int32.ofNat n)) + (((1024 : Int32) - ((2 : Int32) * (Int32.ofNat B))) * (Int32.ofNat i)))) (FP.dmul (4652218415073722368 : UInt64) (FP.i2d (Int32.ofNat n))))), .second, .unset, .unset] [(.ref ar_5)])) (fun t k => XS.aload X5.here hx rfl (hb hby at_136) rfl rfl k) ?_
  refine own_fwd (B := T5.setTop (mkF m 140 #[.val (.int p1), .val (.int p2), .val (.int p3), .val (.int (Int32.ofNat B)), .val (.int (Int32.ofNat n)), .val (.int (Int32.ofNat i)), .val (.double fr), .second, .val (.ref b1), .val (.ref ar_5), .val (.double fr), .second, .val (.double (FP.ddiv (FP.i2d ((1024 : Int32) - (Int32.ofNat B))) (4652218415073722368 : UInt64))), .second, .val (.double (FP.ddiv (FP.i2d (((Int32.ofNat B) * (Int32.ofNat n)) + (((1024 : Int32) - ((2 : Int32) * (Int32.ofNat B))) * (Int32.ofNat i)))) (FP.dmul (4652218415073722368 : UInt64) (FP.i2d (Int32.ofNat n))))), .second, .unset, .unset] [(.int (Int32.ofNat i)), (.ref ar_5)])) (fun t k => XS.iload X5.here hx rfl (hb hby at_138) rfl k) ?_
  obtain ⟨c10, Ar10, q10, S10, M10, H10, G10⟩ := id R5_0
  have hin10 : ¬ ((Int32.ofNat i) < 0 ∨ c10.slots.size ≤ ((Int32.ofNat i)).toNatClampNeg) := inb_of S10 ⟨own_nneg (by omega), by rw [own_one]; exact own_ltN (i := i) (by omega) (by omega)⟩
  have hat10 : c10.slots[((Int32.ofNat i)).toNatClampNeg]? = some (.double (own_g fr (FP.dsub (4607182418800017408 : UInt64) fr) n i)) := H10.at hin10 (by rw [own_cl (by omega)]; exact own_at _ (by omega) _)
  refine own_fwd (B := T5.setTop (mkF m 141 #[.val (.int p1), .val (.int p2), .val (.int p3), .val (.int (Int32.ofNat B)), .val (.int (Int32.ofNat n)), .val (.int (Int32.ofNat i)), .val (.double fr), .second, .val (.ref b1), .val (.ref ar_5), .val (.double fr), .second, .val (.double (FP.ddiv (FP.i2d ((1024 : Int32) - (Int32.ofNat B))) (4652218415073722368 : UInt64))), .second, .val (.double (FP.ddiv (FP.i2d (((Int32.ofNat B) * (Int32.ofNat n)) + (((1024 : Int32) - ((2 : Int32) * (Int32.ofNat B))) * (Int32.ofNat i)))) (FP.dmul (4652218415073722368 : UInt64) (FP.i2d (Int32.ofNat n))))), .second, .unset, .unset] [(.double (own_g fr (FP.dsub (4607182418800017408 : UInt64) fr) n i))])) (fun t k => X5.daload hx (j := (Int32.ofNat i)) (v := (.double (own_g fr (FP.dsub (4607182418800017408 : UInt64) fr) n i))) (Ar10.1) (State.isArrayOf_alike hZ.alike Ar10.2.1) Ar10.2.2 hin10 hat10 (g := (mkF m 140 #[.val (.int p1), .val (.int p2), .val (.int p3), .val (.int (Int32.ofNat B)), .val (.int (Int32.ofNat n)), .val (.int (Int32.ofNat i)), .val (.double fr), .second, .val (.ref b1), .val (.ref ar_5), .val (.double fr), .second, .val (.double (FP.ddiv (FP.i2d ((1024 : Int32) - (Int32.ofNat B))) (4652218415073722368 : UInt64))), .second, .val (.double (FP.ddiv (FP.i2d (((Int32.ofNat B) * (Int32.ofNat n)) + (((1024 : Int32) - ((2 : Int32) * (Int32.ofNat B))) * (Int32.ofNat i)))) (FP.dmul (4652218415073722368 : UInt64) (FP.i2d (Int32.ofNat n))))), .second, .unset, .unset] [(.int (Int32.ofNat i)), (.ref ar_5)])) rfl rfl (hb hby at_140) t k) ?_
  refine own_fwd (B := T5.setTop (mkF m 143 #[.val (.int p1), .val (.int p2), .val (.int p3), .val (.int (Int32.ofNat B)), .val (.int (Int32.ofNat n)), .val (.int (Int32.ofNat i)), .val (.double fr), .second, .val (.ref b1), .val (.ref ar_5), .val (.double fr), .second, .val (.double (FP.ddiv (FP.i2d ((1024 : Int32) - (Int32.ofNat B))) (4652218415073722368 : UInt64))), .second, .val (.double (FP.ddiv (FP.i2d (((Int32.ofNat B) * (Int32.ofNat n)) + (((1024 : Int32) - ((2 : Int32) * (Int32.ofNat B))) * (Int32.ofNat i)))) (FP.dmul (4652218415073722368 : UInt64) (FP.i2d (Int32.ofNat n))))), .second, .unset, .unset] [(.double (FP.ddiv (FP.i2d (((Int32.ofNat B) * (Int32.ofNat n)) + (((1024 : Int32) - ((2 : Int32) * (Int32.ofNat B))) * (Int32.ofNat i)))) (FP.dmul (4652218415073722368 : UInt64) (FP.i2d (Int32.ofNat n))))), (.double (own_g fr (FP.dsub (4607182418800017408 : UInt64) fr) n i))])) (fun t k => XS.dload X5.here hx rfl (hb hby at_141) rfl k) ?_
  refine own_fwd (B := T5.setTop (mkF m 144 #[.val (.int p1), .val (.int p2), .val (.int p3), .val (.int (Int32.ofNat B)), .val (.int (Int32.ofNat n)), .val (.int (Int32.ofNat i)), .val (.double fr), .second, .val (.ref b1), .val (.ref ar_5), .val (.double fr), .second, .val (.double (FP.ddiv (FP.i2d ((1024 : Int32) - (Int32.ofNat B))) (4652218415073722368 : UInt64))), .second, .val (.double (FP.ddiv (FP.i2d (((Int32.ofNat B) * (Int32.ofNat n)) + (((1024 : Int32) - ((2 : Int32) * (Int32.ofNat B))) * (Int32.ofNat i)))) (FP.dmul (4652218415073722368 : UInt64) (FP.i2d (Int32.ofNat n))))), .second, .unset, .unset] [(.double (FP.dsub (own_g fr (FP.dsub (4607182418800017408 : UInt64) fr) n i) (FP.ddiv (FP.i2d (((Int32.ofNat B) * (Int32.ofNat n)) + (((1024 : Int32) - ((2 : Int32) * (Int32.ofNat B))) * (Int32.ofNat i)))) (FP.dmul (4652218415073722368 : UInt64) (FP.i2d (Int32.ofNat n))))))])) (fun t k => XS.dsubS X5.here hx rfl (hb hby at_143) rfl (own_nan (own_dsub_num (own_gP hfr (own_to hfr hB) hB hn1 hn2 (hi)) href.2)) rfl k) ?_
  refine own_fwd (B := T5.setTop (mkF m 146 #[.val (.int p1), .val (.int p2), .val (.int p3), .val (.int (Int32.ofNat B)), .val (.int (Int32.ofNat n)), .val (.int (Int32.ofNat i)), .val (.double fr), .second, .val (.ref b1), .val (.ref ar_5), .val (.double fr), .second, .val (.double (FP.ddiv (FP.i2d ((1024 : Int32) - (Int32.ofNat B))) (4652218415073722368 : UInt64))), .second, .val (.double (FP.ddiv (FP.i2d (((Int32.ofNat B) * (Int32.ofNat n)) + (((1024 : Int32) - ((2 : Int32) * (Int32.ofNat B))) * (Int32.ofNat i)))) (FP.dmul (4652218415073722368 : UInt64) (FP.i2d (Int32.ofNat n))))), .second, .val (.double (FP.dsub (own_g fr (FP.dsub (4607182418800017408 : UInt64) fr) n i) (FP.ddiv (FP.i2d (((Int32.ofNat B) * (Int32.ofNat n)) + (((1024 : Int32) - ((2 : Int32) * (Int32.ofNat B))) * (Int32.ofNat i)))) (FP.dmul (4652218415073722368 : UInt64) (FP.i2d (Int32.ofNat n)))))), .second] [])) (fun t k => XS.dstore X5.here hx rfl (hb hby at_144) rfl (l' := #[.val (.int p1), .val (.int p2), .val (.int p3), .val (.int (Int32.ofNat B)), .val (.int (Int32.ofNat n)), .val (.int (Int32.ofNat i)), .val (.double fr), .second, .val (.ref b1), .val (.ref ar_5), .val (.double fr), .second, .val (.double (FP.ddiv (FP.i2d ((1024 : Int32) - (Int32.ofNat B))) (4652218415073722368 : UInt64))), .second, .val (.double (FP.ddiv (FP.i2d (((Int32.ofNat B) * (Int32.ofNat n)) + (((1024 : Int32) - ((2 : Int32) * (Int32.ofNat B))) * (Int32.ofNat i)))) (FP.dmul (4652218415073722368 : UInt64) (FP.i2d (Int32.ofNat n))))), .second, .val (.double (FP.dsub (own_g fr (FP.dsub (4607182418800017408 : UInt64) fr) n i) (FP.ddiv (FP.i2d (((Int32.ofNat B) * (Int32.ofNat n)) + (((1024 : Int32) - ((2 : Int32) * (Int32.ofNat B))) * (Int32.ofNat i)))) (FP.dmul (4652218415073722368 : UInt64) (FP.i2d (Int32.ofNat n)))))), .second]) rfl k) ?_
  refine own_fwd (B := T5.setTop (mkF m 148 #[.val (.int p1), .val (.int p2), .val (.int p3), .val (.int (Int32.ofNat B)), .val (.int (Int32.ofNat n)), .val (.int (Int32.ofNat i)), .val (.double fr), .second, .val (.ref b1), .val (.ref ar_5), .val (.double fr), .second, .val (.double (FP.ddiv (FP.i2d ((1024 : Int32) - (Int32.ofNat B))) (4652218415073722368 : UInt64))), .second, .val (.double (FP.ddiv (FP.i2d (((Int32.ofNat B) * (Int32.ofNat n)) + (((1024 : Int32) - ((2 : Int32) * (Int32.ofNat B))) * (Int32.ofNat i)))) (FP.dmul (4652218415073722368 : UInt64) (FP.i2d (Int32.ofNat n))))), .second, .val (.double (FP.dsub (own_g fr (FP.dsub (4607182418800017408 : UInt64) fr) n i) (FP.ddiv (FP.i2d (((Int32.ofNat B) * (Int32.ofNat n)) + (((1024 : Int32) - ((2 : Int32) * (Int32.ofNat B))) * (Int32.ofNat i)))) (FP.dmul (4652218415073722368 : UInt64) (FP.i2d (Int32.ofNat n)))))), .second] [(.double (FP.dsub (own_g fr (FP.dsub (4607182418800017408 : UInt64) fr) n i) (FP.ddiv (FP.i2d (((Int32.ofNat B) * (Int32.ofNat n)) + (((1024 : Int32) - ((2 : Int32) * (Int32.ofNat B))) * (Int32.ofNat i)))) (FP.dmul (4652218415073722368 : UInt64) (FP.i2d (Int32.ofNat n))))))])) (fun t k => XS.dload X5.here hx rfl (hb hby at_146) rfl k) ?_
  refine own_fwd (B := T5.setTop (mkF m 151 #[.val (.int p1), .val (.int p2), .val (.int p3), .val (.int (Int32.ofNat B)), .val (.int (Int32.ofNat n)), .val (.int (Int32.ofNat i)), .val (.double fr), .second, .val (.ref b1), .val (.ref ar_5), .val (.double fr), .second, .val (.double (FP.ddiv (FP.i2d ((1024 : Int32) - (Int32.ofNat B))) (4652218415073722368 : UInt64))), .second, .val (.double (FP.ddiv (FP.i2d (((Int32.ofNat B) * (Int32.ofNat n)) + (((1024 : Int32) - ((2 : Int32) * (Int32.ofNat B))) * (Int32.ofNat i)))) (FP.dmul (4652218415073722368 : UInt64) (FP.i2d (Int32.ofNat n))))), .second, .val (.double (FP.dsub (own_g fr (FP.dsub (4607182418800017408 : UInt64) fr) n i) (FP.ddiv (FP.i2d (((Int32.ofNat B) * (Int32.ofNat n)) + (((1024 : Int32) - ((2 : Int32) * (Int32.ofNat B))) * (Int32.ofNat i)))) (FP.dmul (4652218415073722368 : UInt64) (FP.i2d (Int32.ofNat n)))))), .second] [(.double (4382569440205035030 : UInt64)), (.double (FP.dsub (own_g fr (FP.dsub (4607182418800017408 : UInt64) fr) n i) (FP.ddiv (FP.i2d (((Int32.ofNat B) * (Int32.ofNat n)) + (((1024 : Int32) - ((2 : Int32) * (Int32.ofNat B))) * (Int32.ofNat i)))) (FP.dmul (4652218415073722368 : UInt64) (FP.i2d (Int32.ofNat n))))))])) (fun t k => X5.ldc2DoubleC hx hown (mvT hZ (hw _ (List.mem_of_getElem? (i := 22) rfl))) (g := (mkF m 148 #[.val (.int p1), .val (.int p2), .val (.int p3), .val (.int (Int32.ofNat B)), .val (.int (Int32.ofNat n)), .val (.int (Int32.ofNat i)), .val (.double fr), .second, .val (.ref b1), .val (.ref ar_5), .val (.double fr), .second, .val (.double (FP.ddiv (FP.i2d ((1024 : Int32) - (Int32.ofNat B))) (4652218415073722368 : UInt64))), .second, .val (.double (FP.ddiv (FP.i2d (((Int32.ofNat B) * (Int32.ofNat n)) + (((1024 : Int32) - ((2 : Int32) * (Int32.ofNat B))) * (Int32.ofNat i)))) (FP.dmul (4652218415073722368 : UInt64) (FP.i2d (Int32.ofNat n))))), .second, .val (.double (FP.dsub (own_g fr (FP.dsub (4607182418800017408 : UInt64) fr) n i) (FP.ddiv (FP.i2d (((Int32.ofNat B) * (Int32.ofNat n)) + (((1024 : Int32) - ((2 : Int32) * (Int32.ofNat B))) * (Int32.ofNat i)))) (FP.dmul (4652218415073722368 : UInt64) (FP.i2d (Int32.ofNat n)))))), .second] [(.double (FP.dsub (own_g fr (FP.dsub (4607182418800017408 : UInt64) fr) n i) (FP.ddiv (FP.i2d (((Int32.ofNat B) * (Int32.ofNat n)) + (((1024 : Int32) - ((2 : Int32) * (Int32.ofNat B))) * (Int32.ofNat i)))) (FP.dmul (4652218415073722368 : UInt64) (FP.i2d (Int32.ofNat n))))))])) rfl (hb hby at_148) t k) ?_
  refine own_fwd (B := T5.setTop (mkF m 152 #[.val (.int p1), .val (.int p2), .val (.int p3), .val (.int (Int32.ofNat B)), .val (.int (Int32.ofNat n)), .val (.int (Int32.ofNat i)), .val (.double fr), .second, .val (.ref b1), .val (.ref ar_5), .val (.double fr), .second, .val (.double (FP.ddiv (FP.i2d ((1024 : Int32) - (Int32.ofNat B))) (4652218415073722368 : UInt64))), .second, .val (.double (FP.ddiv (FP.i2d (((Int32.ofNat B) * (Int32.ofNat n)) + (((1024 : Int32) - ((2 : Int32) * (Int32.ofNat B))) * (Int32.ofNat i)))) (FP.dmul (4652218415073722368 : UInt64) (FP.i2d (Int32.ofNat n))))), .second, .val (.double (FP.dsub (own_g fr (FP.dsub (4607182418800017408 : UInt64) fr) n i) (FP.ddiv (FP.i2d (((Int32.ofNat B) * (Int32.ofNat n)) + (((1024 : Int32) - ((2 : Int32) * (Int32.ofNat B))) * (Int32.ofNat i)))) (FP.dmul (4652218415073722368 : UInt64) (FP.i2d (Int32.ofNat n)))))), .second] [(.int (cmpValue (FP.dcmp (FP.dsub (own_g fr (FP.dsub (4607182418800017408 : UInt64) fr) n i) (FP.ddiv (FP.i2d (((Int32.ofNat B) * (Int32.ofNat n)) + (((1024 : Int32) - ((2 : Int32) * (Int32.ofNat B))) * (Int32.ofNat i)))) (FP.dmul (4652218415073722368 : UInt64) (FP.i2d (Int32.ofNat n))))) (4382569440205035030 : UInt64)) .g))])) (fun t k => XS.dcmpS X5.here hx rfl (hb hby at_151) rfl rfl k) ?_
  refine own_fwd (B := T5.setTop (mkF m 155 #[.val (.int p1), .val (.int p2), .val (.int p3), .val (.int (Int32.ofNat B)), .val (.int (Int32.ofNat n)), .val (.int (Int32.ofNat i)), .val (.double fr), .second, .val (.ref b1), .val (.ref ar_5), .val (.double fr), .second, .val (.double (FP.ddiv (FP.i2d ((1024 : Int32) - (Int32.ofNat B))) (4652218415073722368 : UInt64))), .second, .val (.double (FP.ddiv (FP.i2d (((Int32.ofNat B) * (Int32.ofNat n)) + (((1024 : Int32) - ((2 : Int32) * (Int32.ofNat B))) * (Int32.ofNat i)))) (FP.dmul (4652218415073722368 : UInt64) (FP.i2d (Int32.ofNat n))))), .second, .val (.double (FP.dsub (own_g fr (FP.dsub (4607182418800017408 : UInt64) fr) n i) (FP.ddiv (FP.i2d (((Int32.ofNat B) * (Int32.ofNat n)) + (((1024 : Int32) - ((2 : Int32) * (Int32.ofNat B))) * (Int32.ofNat i)))) (FP.dmul (4652218415073722368 : UInt64) (FP.i2d (Int32.ofNat n)))))), .second] [])) (fun t k => XS.ifNo X5.here hx rfl (hb hby at_152) rfl ((if0 _ _).trans (flt (own_hi (own_gP hfr (own_to hfr hB) hB hn1 hn2 (hi)) href.2 (own_dist hB hi hn1).1 : ¬ ((0 : Int32) < (cmpValue (FP.dcmp (FP.dsub (own_g fr (FP.dsub (4607182418800017408 : UInt64) fr) n i) (FP.ddiv (FP.i2d (((Int32.ofNat B) * (Int32.ofNat n)) + (((1024 : Int32) - ((2 : Int32) * (Int32.ofNat B))) * (Int32.ofNat i)))) (FP.dmul (4652218415073722368 : UInt64) (FP.i2d (Int32.ofNat n))))) (4382569440205035030 : UInt64)) .g)))).2.2.1) k) ?_
  refine own_fwd (B := T5.setTop (mkF m 157 #[.val (.int p1), .val (.int p2), .val (.int p3), .val (.int (Int32.ofNat B)), .val (.int (Int32.ofNat n)), .val (.int (Int32.ofNat i)), .val (.double fr), .second, .val (.ref b1), .val (.ref ar_5), .val (.double fr), .second, .val (.double (FP.ddiv (FP.i2d ((1024 : Int32) - (Int32.ofNat B))) (4652218415073722368 : UInt64))), .second, .val (.double (FP.ddiv (FP.i2d (((Int32.ofNat B) * (Int32.ofNat n)) + (((1024 : Int32) - ((2 : Int32) * (Int32.ofNat B))) * (Int32.ofNat i)))) (FP.dmul (4652218415073722368 : UInt64) (FP.i2d (Int32.ofNat n))))), .second, .val (.double (FP.dsub (own_g fr (FP.dsub (4607182418800017408 : UInt64) fr) n i) (FP.ddiv (FP.i2d (((Int32.ofNat B) * (Int32.ofNat n)) + (((1024 : Int32) - ((2 : Int32) * (Int32.ofNat B))) * (Int32.ofNat i)))) (FP.dmul (4652218415073722368 : UInt64) (FP.i2d (Int32.ofNat n)))))), .second] [(.double (FP.dsub (own_g fr (FP.dsub (4607182418800017408 : UInt64) fr) n i) (FP.ddiv (FP.i2d (((Int32.ofNat B) * (Int32.ofNat n)) + (((1024 : Int32) - ((2 : Int32) * (Int32.ofNat B))) * (Int32.ofNat i)))) (FP.dmul (4652218415073722368 : UInt64) (FP.i2d (Int32.ofNat n))))))])) (fun t k => XS.dload X5.here hx rfl (hb hby at_155) rfl k) ?_
  refine own_fwd (B := T5.setTop (mkF m 160 #[.val (.int p1), .val (.int p2), .val (.int p3), .val (.int (Int32.ofNat B)), .val (.int (Int32.ofNat n)), .val (.int (Int32.ofNat i)), .val (.double fr), .second, .val (.ref b1), .val (.ref ar_5), .val (.double fr), .second, .val (.double (FP.ddiv (FP.i2d ((1024 : Int32) - (Int32.ofNat B))) (4652218415073722368 : UInt64))), .second, .val (.double (FP.ddiv (FP.i2d (((Int32.ofNat B) * (Int32.ofNat n)) + (((1024 : Int32) - ((2 : Int32) * (Int32.ofNat B))) * (Int32.ofNat i)))) (FP.dmul (4652218415073722368 : UInt64) (FP.i2d (Int32.ofNat n))))), .second, .val (.double (FP.dsub (own_g fr (FP.dsub (4607182418800017408 : UInt64) fr) n i) (FP.ddiv (FP.i2d (((Int32.ofNat B) * (Int32.ofNat n)) + (((1024 : Int32) - ((2 : Int32) * (Int32.ofNat B))) * (Int32.ofNat i)))) (FP.dmul (4652218415073722368 : UInt64) (FP.i2d (Int32.ofNat n)))))), .second] [(.double (13605941477059810838 : UInt64)), (.double (FP.dsub (own_g fr (FP.dsub (4607182418800017408 : UInt64) fr) n i) (FP.ddiv (FP.i2d (((Int32.ofNat B) * (Int32.ofNat n)) + (((1024 : Int32) - ((2 : Int32) * (Int32.ofNat B))) * (Int32.ofNat i)))) (FP.dmul (4652218415073722368 : UInt64) (FP.i2d (Int32.ofNat n))))))])) (fun t k => X5.ldc2DoubleC hx hown (mvT hZ (hw _ (List.mem_of_getElem? (i := 23) rfl))) (g := (mkF m 157 #[.val (.int p1), .val (.int p2), .val (.int p3), .val (.int (Int32.ofNat B)), .val (.int (Int32.ofNat n)), .val (.int (Int32.ofNat i)), .val (.double fr), .second, .val (.ref b1), .val (.ref ar_5), .val (.double fr), .second, .val (.double (FP.ddiv (FP.i2d ((1024 : Int32) - (Int32.ofNat B))) (4652218415073722368 : UInt64))), .second, .val (.double (FP.ddiv (FP.i2d (((Int32.ofNat B) * (Int32.ofNat n)) + (((1024 : Int32) - ((2 : Int32) * (Int32.ofNat B))) * (Int32.ofNat i)))) (FP.dmul (4652218415073722368 : UInt64) (FP.i2d (Int32.ofNat n))))), .second, .val (.double (FP.dsub (own_g fr (FP.dsub (4607182418800017408 : UInt64) fr) n i) (FP.ddiv (FP.i2d (((Int32.ofNat B) * (Int32.ofNat n)) + (((1024 : Int32) - ((2 : Int32) * (Int32.ofNat B))) * (Int32.ofNat i)))) (FP.dmul (4652218415073722368 : UInt64) (FP.i2d (Int32.ofNat n)))))), .second] [(.double (FP.dsub (own_g fr (FP.dsub (4607182418800017408 : UInt64) fr) n i) (FP.ddiv (FP.i2d (((Int32.ofNat B) * (Int32.ofNat n)) + (((1024 : Int32) - ((2 : Int32) * (Int32.ofNat B))) * (Int32.ofNat i)))) (FP.dmul (4652218415073722368 : UInt64) (FP.i2d (Int32.ofNat n))))))])) rfl (hb hby at_157) t k) ?_
  refine own_fwd (B := T5.setTop (mkF m 161 #[.val (.int p1), .val (.int p2), .val (.int p3), .val (.int (Int32.ofNat B)), .val (.int (Int32.ofNat n)), .val (.int (Int32.ofNat i)), .val (.double fr), .second, .val (.ref b1), .val (.ref ar_5), .val (.double fr), .second, .val (.double (FP.ddiv (FP.i2d ((1024 : Int32) - (Int32.ofNat B))) (4652218415073722368 : UInt64))), .second, .val (.double (FP.ddiv (FP.i2d (((Int32.ofNat B) * (Int32.ofNat n)) + (((1024 : Int32) - ((2 : Int32) * (Int32.ofNat B))) * (Int32.ofNat i)))) (FP.dmul (4652218415073722368 : UInt64) (FP.i2d (Int32.ofNat n))))), .second, .val (.double (FP.dsub (own_g fr (FP.dsub (4607182418800017408 : UInt64) fr) n i) (FP.ddiv (FP.i2d (((Int32.ofNat B) * (Int32.ofNat n)) + (((1024 : Int32) - ((2 : Int32) * (Int32.ofNat B))) * (Int32.ofNat i)))) (FP.dmul (4652218415073722368 : UInt64) (FP.i2d (Int32.ofNat n)))))), .second] [(.int (cmpValue (FP.dcmp (FP.dsub (own_g fr (FP.dsub (4607182418800017408 : UInt64) fr) n i) (FP.ddiv (FP.i2d (((Int32.ofNat B) * (Int32.ofNat n)) + (((1024 : Int32) - ((2 : Int32) * (Int32.ofNat B))) * (Int32.ofNat i)))) (FP.dmul (4652218415073722368 : UInt64) (FP.i2d (Int32.ofNat n))))) (13605941477059810838 : UInt64)) .l))])) (fun t k => XS.dcmpS X5.here hx rfl (hb hby at_160) rfl rfl k) ?_
  refine own_fwd (B := T5.setTop (mkF m 166 #[.val (.int p1), .val (.int p2), .val (.int p3), .val (.int (Int32.ofNat B)), .val (.int (Int32.ofNat n)), .val (.int (Int32.ofNat i)), .val (.double fr), .second, .val (.ref b1), .val (.ref ar_5), .val (.double fr), .second, .val (.double (FP.ddiv (FP.i2d ((1024 : Int32) - (Int32.ofNat B))) (4652218415073722368 : UInt64))), .second, .val (.double (FP.ddiv (FP.i2d (((Int32.ofNat B) * (Int32.ofNat n)) + (((1024 : Int32) - ((2 : Int32) * (Int32.ofNat B))) * (Int32.ofNat i)))) (FP.dmul (4652218415073722368 : UInt64) (FP.i2d (Int32.ofNat n))))), .second, .val (.double (FP.dsub (own_g fr (FP.dsub (4607182418800017408 : UInt64) fr) n i) (FP.ddiv (FP.i2d (((Int32.ofNat B) * (Int32.ofNat n)) + (((1024 : Int32) - ((2 : Int32) * (Int32.ofNat B))) * (Int32.ofNat i)))) (FP.dmul (4652218415073722368 : UInt64) (FP.i2d (Int32.ofNat n)))))), .second] [])) (fun t k => XS.ifYes X5.here hx rfl (pc0 := 161) (pc' := 166) rfl (hb hby at_161) rfl ((if0 _ _).trans (flt (own_lo (own_gP hfr (own_to hfr hB) hB hn1 hn2 (hi)) href.2 (own_dist hB hi hn1).2 : ¬ ((cmpValue (FP.dcmp (FP.dsub (own_g fr (FP.dsub (4607182418800017408 : UInt64) fr) n i) (FP.ddiv (FP.i2d (((Int32.ofNat B) * (Int32.ofNat n)) + (((1024 : Int32) - ((2 : Int32) * (Int32.ofNat B))) * (Int32.ofNat i)))) (FP.dmul (4652218415073722368 : UInt64) (FP.i2d (Int32.ofNat n))))) (13605941477059810838 : UInt64)) .l) < (0 : Int32)))).2.1) (by decide) (by decide) k) ?_
  refine own_fwd (B := T5.setTop (mkF m 168 #[.val (.int p1), .val (.int p2), .val (.int p3), .val (.int (Int32.ofNat B)), .val (.int (Int32.ofNat n)), .val (.int (Int32.ofNat i)), .val (.double fr), .second, .val (.ref b1), .val (.ref ar_5), .val (.double fr), .second, .val (.double (FP.ddiv (FP.i2d ((1024 : Int32) - (Int32.ofNat B))) (4652218415073722368 : UInt64))), .second, .val (.double (FP.ddiv (FP.i2d (((Int32.ofNat B) * (Int32.ofNat n)) + (((1024 : Int32) - ((2 : Int32) * (Int32.ofNat B))) * (Int32.ofNat i)))) (FP.dmul (4652218415073722368 : UInt64) (FP.i2d (Int32.ofNat n))))), .second, .val (.double (FP.dsub (own_g fr (FP.dsub (4607182418800017408 : UInt64) fr) n i) (FP.ddiv (FP.i2d (((Int32.ofNat B) * (Int32.ofNat n)) + (((1024 : Int32) - ((2 : Int32) * (Int32.ofNat B))) * (Int32.ofNat i)))) (FP.dmul (4652218415073722368 : UInt64) (FP.i2d (Int32.ofNat n)))))), .second] [(.int (Int32.ofNat i))])) (fun t k => XS.iload X5.here hx rfl (hb hby at_166) rfl k) ?_
  refine own_fwd (B := T5.setTop (mkF m 170 #[.val (.int p1), .val (.int p2), .val (.int p3), .val (.int (Int32.ofNat B)), .val (.int (Int32.ofNat n)), .val (.int (Int32.ofNat i)), .val (.double fr), .second, .val (.ref b1), .val (.ref ar_5), .val (.double fr), .second, .val (.double (FP.ddiv (FP.i2d ((1024 : Int32) - (Int32.ofNat B))) (4652218415073722368 : UInt64))), .second, .val (.double (FP.ddiv (FP.i2d (((Int32.ofNat B) * (Int32.ofNat n)) + (((1024 : Int32) - ((2 : Int32) * (Int32.ofNat B))) * (Int32.ofNat i)))) (FP.dmul (4652218415073722368 : UInt64) (FP.i2d (Int32.ofNat n))))), .second, .val (.double (FP.dsub (own_g fr (FP.dsub (4607182418800017408 : UInt64) fr) n i) (FP.ddiv (FP.i2d (((Int32.ofNat B) * (Int32.ofNat n)) + (((1024 : Int32) - ((2 : Int32) * (Int32.ofNat B))) * (Int32.ofNat i)))) (FP.dmul (4652218415073722368 : UInt64) (FP.i2d (Int32.ofNat n)))))), .second] [(.int (Int32.ofNat n)), (.int (Int32.ofNat i))])) (fun t k => XS.iload X5.here hx rfl (hb hby at_168) rfl k) ?_
  by_cases hc170 : (Int32.ofNat i) < (Int32.ofNat n)
  · skip
    refine own_fwd (B := T5.setTop (mkF m 173 #[.val (.int p1), .val (.int p2), .val (.int p3), .val (.int (Int32.ofNat B)), .val (.int (Int32.ofNat n)), .val (.int (Int32.ofNat i)), .val (.double fr), .second, .val (.ref b1), .val (.ref ar_5), .val (.double fr), .second, .val (.double (FP.ddiv (FP.i2d ((1024 : Int32) - (Int32.ofNat B))) (4652218415073722368 : UInt64))), .second, .val (.double (FP.ddiv (FP.i2d (((Int32.ofNat B) * (Int32.ofNat n)) + (((1024 : Int32) - ((2 : Int32) * (Int32.ofNat B))) * (Int32.ofNat i)))) (FP.dmul (4652218415073722368 : UInt64) (FP.i2d (Int32.ofNat n))))), .second, .val (.double (FP.dsub (own_g fr (FP.dsub (4607182418800017408 : UInt64) fr) n i) (FP.ddiv (FP.i2d (((Int32.ofNat B) * (Int32.ofNat n)) + (((1024 : Int32) - ((2 : Int32) * (Int32.ofNat B))) * (Int32.ofNat i)))) (FP.dmul (4652218415073722368 : UInt64) (FP.i2d (Int32.ofNat n)))))), .second] [])) (fun t k => XS.icmpNo X5.here hx rfl (hb hby at_170) rfl (tlt hc170).2.1 k) ?_
    have hi1 : i + 1 ≤ n := own_ltI hc170 (by omega) (by omega)
    refine own_fwd (B := T5.setTop (mkF m 175 #[.val (.int p1), .val (.int p2), .val (.int p3), .val (.int (Int32.ofNat B)), .val (.int (Int32.ofNat n)), .val (.int (Int32.ofNat i)), .val (.double fr), .second, .val (.ref b1), .val (.ref ar_5), .val (.double fr), .second, .val (.double (FP.ddiv (FP.i2d ((1024 : Int32) - (Int32.ofNat B))) (4652218415073722368 : UInt64))), .second, .val (.double (FP.ddiv (FP.i2d (((Int32.ofNat B) * (Int32.ofNat n)) + (((1024 : Int32) - ((2 : Int32) * (Int32.ofNat B))) * (Int32.ofNat i)))) (FP.dmul (4652218415073722368 : UInt64) (FP.i2d (Int32.ofNat n))))), .second, .val (.double (FP.dsub (own_g fr (FP.dsub (4607182418800017408 : UInt64) fr) n i) (FP.ddiv (FP.i2d (((Int32.ofNat B) * (Int32.ofNat n)) + (((1024 : Int32) - ((2 : Int32) * (Int32.ofNat B))) * (Int32.ofNat i)))) (FP.dmul (4652218415073722368 : UInt64) (FP.i2d (Int32.ofNat n)))))), .second] [(.ref ar_5)])) (fun t k => XS.aload X5.here hx rfl (hb hby at_173) rfl rfl k) ?_
    refine own_fwd (B := T5.setTop (mkF m 177 #[.val (.int p1), .val (.int p2), .val (.int p3), .val (.int (Int32.ofNat B)), .val (.int (Int32.ofNat n)), .val (.int (Int32.ofNat i)), .val (.double fr), .second, .val (.ref b1), .val (.ref ar_5), .val (.double fr), .second, .val (.double (FP.ddiv (FP.i2d ((1024 : Int32) - (Int32.ofNat B))) (4652218415073722368 : UInt64))), .second, .val (.double (FP.ddiv (FP.i2d (((Int32.ofNat B) * (Int32.ofNat n)) + (((1024 : Int32) - ((2 : Int32) * (Int32.ofNat B))) * (Int32.ofNat i)))) (FP.dmul (4652218415073722368 : UInt64) (FP.i2d (Int32.ofNat n))))), .second, .val (.double (FP.dsub (own_g fr (FP.dsub (4607182418800017408 : UInt64) fr) n i) (FP.ddiv (FP.i2d (((Int32.ofNat B) * (Int32.ofNat n)) + (((1024 : Int32) - ((2 : Int32) * (Int32.ofNat B))) * (Int32.ofNat i)))) (FP.dmul (4652218415073722368 : UInt64) (FP.i2d (Int32.ofNat n)))))), .second] [(.int (Int32.ofNat i)), (.ref ar_5)])) (fun t k => XS.iload X5.here hx rfl (hb hby at_175) rfl k) ?_
    obtain ⟨c11, Ar11, q11, S11, M11, H11, G11⟩ := id R5_0
    have hin11 : ¬ ((Int32.ofNat i) < 0 ∨ c11.slots.size ≤ ((Int32.ofNat i)).toNatClampNeg) := inb_of S11 ⟨own_nneg (by omega), by rw [own_one]; exact own_ltN (i := i) (by omega) (by omega)⟩
    have hat11 : c11.slots[((Int32.ofNat i)).toNatClampNeg]? = some (.double (own_g fr (FP.dsub (4607182418800017408 : UInt64) fr) n i)) := H11.at hin11 (by rw [own_cl (by omega)]; exact own_at _ (by omega) _)
    refine own_fwd (B := T5.setTop (mkF m 178 #[.val (.int p1), .val (.int p2), .val (.int p3), .val (.int (Int32.ofNat B)), .val (.int (Int32.ofNat n)), .val (.int (Int32.ofNat i)), .val (.double fr), .second, .val (.ref b1), .val (.ref ar_5), .val (.double fr), .second, .val (.double (FP.ddiv (FP.i2d ((1024 : Int32) - (Int32.ofNat B))) (4652218415073722368 : UInt64))), .second, .val (.double (FP.ddiv (FP.i2d (((Int32.ofNat B) * (Int32.ofNat n)) + (((1024 : Int32) - ((2 : Int32) * (Int32.ofNat B))) * (Int32.ofNat i)))) (FP.dmul (4652218415073722368 : UInt64) (FP.i2d (Int32.ofNat n))))), .second, .val (.double (FP.dsub (own_g fr (FP.dsub (4607182418800017408 : UInt64) fr) n i) (FP.ddiv (FP.i2d (((Int32.ofNat B) * (Int32.ofNat n)) + (((1024 : Int32) - ((2 : Int32) * (Int32.ofNat B))) * (Int32.ofNat i)))) (FP.dmul (4652218415073722368 : UInt64) (FP.i2d (Int32.ofNat n)))))), .second] [(.double (own_g fr (FP.dsub (4607182418800017408 : UInt64) fr) n i))])) (fun t k => X5.daload hx (j := (Int32.ofNat i)) (v := (.double (own_g fr (FP.dsub (4607182418800017408 : UInt64) fr) n i))) (Ar11.1) (State.isArrayOf_alike hZ.alike Ar11.2.1) Ar11.2.2 hin11 hat11 (g := (mkF m 177 #[.val (.int p1), .val (.int p2), .val (.int p3), .val (.int (Int32.ofNat B)), .val (.int (Int32.ofNat n)), .val (.int (Int32.ofNat i)), .val (.double fr), .second, .val (.ref b1), .val (.ref ar_5), .val (.double fr), .second, .val (.double (FP.ddiv (FP.i2d ((1024 : Int32) - (Int32.ofNat B))) (4652218415073722368 : UInt64))), .second, .val (.double (FP.ddiv (FP.i2d (((Int32.ofNat B) * (Int32.ofNat n)) + (((1024 : Int32) - ((2 : Int32) * (Int32.ofNat B))) * (Int32.ofNat i)))) (FP.dmul (4652218415073722368 : UInt64) (FP.i2d (Int32.ofNat n))))), .second, .val (.double (FP.dsub (own_g fr (FP.dsub (4607182418800017408 : UInt64) fr) n i) (FP.ddiv (FP.i2d (((Int32.ofNat B) * (Int32.ofNat n)) + (((1024 : Int32) - ((2 : Int32) * (Int32.ofNat B))) * (Int32.ofNat i)))) (FP.dmul (4652218415073722368 : UInt64) (FP.i2d (Int32.ofNat n)))))), .second] [(.int (Int32.ofNat i)), (.ref ar_5)])) rfl rfl (hb hby at_177) t k) ?_
    refine own_fwd (B := T5.setTop (mkF m 180 #[.val (.int p1), .val (.int p2), .val (.int p3), .val (.int (Int32.ofNat B)), .val (.int (Int32.ofNat n)), .val (.int (Int32.ofNat i)), .val (.double fr), .second, .val (.ref b1), .val (.ref ar_5), .val (.double fr), .second, .val (.double (FP.ddiv (FP.i2d ((1024 : Int32) - (Int32.ofNat B))) (4652218415073722368 : UInt64))), .second, .val (.double (FP.ddiv (FP.i2d (((Int32.ofNat B) * (Int32.ofNat n)) + (((1024 : Int32) - ((2 : Int32) * (Int32.ofNat B))) * (Int32.ofNat i)))) (FP.dmul (4652218415073722368 : UInt64) (FP.i2d (Int32.ofNat n))))), .second, .val (.double (FP.dsub (own_g fr (FP.dsub (4607182418800017408 : UInt64) fr) n i) (FP.ddiv (FP.i2d (((Int32.ofNat B) * (Int32.ofNat n)) + (((1024 : Int32) - ((2 : Int32) * (Int32.ofNat B))) * (Int32.ofNat i)))) (FP.dmul (4652218415073722368 : UInt64) (FP.i2d (Int32.ofNat n)))))), .second] [(.ref ar_5), (.double (own_g fr (FP.dsub (4607182418800017408 : UInt64) fr) n i))])) (fun t k => XS.aload X5.here hx rfl (hb hby at_178) rfl rfl k) ?_
    refine own_fwd (B := T5.setTop (mkF m 182 #[.val (.int p1), .val (.int p2), .val (.int p3), .val (.int (Int32.ofNat B)), .val (.int (Int32.ofNat n)), .val (.int (Int32.ofNat i)), .val (.double fr), .second, .val (.ref b1), .val (.ref ar_5), .val (.double fr), .second, .val (.double (FP.ddiv (FP.i2d ((1024 : Int32) - (Int32.ofNat B))) (4652218415073722368 : UInt64))), .second, .val (.double (FP.ddiv (FP.i2d (((Int32.ofNat B) * (Int32.ofNat n)) + (((1024 : Int32) - ((2 : Int32) * (Int32.ofNat B))) * (Int32.ofNat i)))) (FP.dmul (4652218415073722368 : UInt64) (FP.i2d (Int32.ofNat n))))), .second, .val (.double (FP.dsub (own_g fr (FP.dsub (4607182418800017408 : UInt64) fr) n i) (FP.ddiv (FP.i2d (((Int32.ofNat B) * (Int32.ofNat n)) + (((1024 : Int32) - ((2 : Int32) * (Int32.ofNat B))) * (Int32.ofNat i)))) (FP.dmul (4652218415073722368 : UInt64) (FP.i2d (Int32.ofNat n)))))), .second] [(.int (Int32.ofNat i)), (.ref ar_5), (.double (own_g fr (FP.dsub (4607182418800017408 : UInt64) fr) n i))])) (fun t k => XS.iload X5.here hx rfl (hb hby at_180) rfl k) ?_
    refine own_fwd (B := T5.setTop (mkF m 183 #[.val (.int p1), .val (.int p2), .val (.int p3), .val (.int (Int32.ofNat B)), .val (.int (Int32.ofNat n)), .val (.int (Int32.ofNat i)), .val (.double fr), .second, .val (.ref b1), .val (.ref ar_5), .val (.double fr), .second, .val (.double (FP.ddiv (FP.i2d ((1024 : Int32) - (Int32.ofNat B))) (4652218415073722368 : UInt64))), .second, .val (.double (FP.ddiv (FP.i2d (((Int32.ofNat B) * (Int32.ofNat n)) + (((1024 : Int32) - ((2 : Int32) * (Int32.ofNat B))) * (Int32.ofNat i)))) (FP.dmul (4652218415073722368 : UInt64) (FP.i2d (Int32.ofNat n))))), .second, .val (.double (FP.dsub (own_g fr (FP.dsub (4607182418800017408 : UInt64) fr) n i) (FP.ddiv (FP.i2d (((Int32.ofNat B) * (Int32.ofNat n)) + (((1024 : Int32) - ((2 : Int32) * (Int32.ofNat B))) * (Int32.ofNat i)))) (FP.dmul (4652218415073722368 : UInt64) (FP.i2d (Int32.ofNat n)))))), .second] [(.int (1 : Int32)), (.int (Int32.ofNat i)), (.ref ar_5), (.double (own_g fr (FP.dsub (4607182418800017408 : UInt64) fr) n i))])) (fun t k => XS.iconst X5.here hx rfl (hb hby at_182) k) ?_
    refine own_fwd (B := T5.setTop (mkF m 184 #[.val (.int p1), .val (.int p2), .val (.int p3), .val (.int (Int32.ofNat B)), .val (.int (Int32.ofNat n)), .val (.int (Int32.ofNat i)), .val (.double fr), .second, .val (.ref b1), .val (.ref ar_5), .val (.double fr), .second, .val (.double (FP.ddiv (FP.i2d ((1024 : Int32) - (Int32.ofNat B))) (4652218415073722368 : UInt64))), .second, .val (.double (FP.ddiv (FP.i2d (((Int32.ofNat B) * (Int32.ofNat n)) + (((1024 : Int32) - ((2 : Int32) * (Int32.ofNat B))) * (Int32.ofNat i)))) (FP.dmul (4652218415073722368 : UInt64) (FP.i2d (Int32.ofNat n))))), .second, .val (.double (FP.dsub (own_g fr (FP.dsub (4607182418800017408 : UInt64) fr) n i) (FP.ddiv (FP.i2d (((Int32.ofNat B) * (Int32.ofNat n)) + (((1024 : Int32) - ((2 : Int32) * (Int32.ofNat B))) * (Int32.ofNat i)))) (FP.dmul (4652218415073722368 : UInt64) (FP.i2d (Int32.ofNat n)))))), .second] [(.int ((Int32.ofNat i) + (1 : Int32))), (.ref ar_5), (.double (own_g fr (FP.dsub (4607182418800017408 : UInt64) fr) n i))])) (fun t k => XS.iadd X5.here hx rfl (hb hby at_183) rfl k) ?_
    rw [own_one i]
    obtain ⟨c12, Ar12, q12, S12, M12, H12, G12⟩ := id R5_0
    have hin12 : ¬ ((Int32.ofNat (i + 1)) < 0 ∨ c12.slots.size ≤ ((Int32.ofNat (i + 1))).toNatClampNeg) := inb_of S12 ⟨own_nneg (by omega), by rw [own_one]; exact own_ltN (i := (i + 1)) (by omega) (by omega)⟩
    have hat12 : c12.slots[((Int32.ofNat (i + 1))).toNatClampNeg]? = some (.double (own_g fr (FP.dsub (4607182418800017408 : UInt64) fr) n (i + 1))) := H12.at hin12 (by rw [own_cl (by omega)]; exact own_at _ (by omega) _)
    refine own_fwd (B := T5.setTop (mkF m 185 #[.val (.int p1), .val (.int p2), .val (.int p3), .val (.int (Int32.ofNat B)), .val (.int (Int32.ofNat n)), .val (.int (Int32.ofNat i)), .val (.double fr), .second, .val (.ref b1), .val (.ref ar_5), .val (.double fr), .second, .val (.double (FP.ddiv (FP.i2d ((1024 : Int32) - (Int32.ofNat B))) (4652218415073722368 : UInt64))), .second, .val (.double (FP.ddiv (FP.i2d (((Int32.ofNat B) * (Int32.ofNat n)) + (((1024 : Int32) - ((2 : Int32) * (Int32.ofNat B))) * (Int32.ofNat i)))) (FP.dmul (4652218415073722368 : UInt64) (FP.i2d (Int32.ofNat n))))), .second, .val (.double (FP.dsub (own_g fr (FP.dsub (4607182418800017408 : UInt64) fr) n i) (FP.ddiv (FP.i2d (((Int32.ofNat B) * (Int32.ofNat n)) + (((1024 : Int32) - ((2 : Int32) * (Int32.ofNat B))) * (Int32.ofNat i)))) (FP.dmul (4652218415073722368 : UInt64) (FP.i2d (Int32.ofNat n)))))), .second] [(.double (own_g fr (FP.dsub (4607182418800017408 : UInt64) fr) n (i + 1))), (.double (own_g fr (FP.dsub (4607182418800017408 : UInt64) fr) n i))])) (fun t k => X5.daload hx (j := (Int32.ofNat (i + 1))) (v := (.double (own_g fr (FP.dsub (4607182418800017408 : UInt64) fr) n (i + 1)))) (Ar12.1) (State.isArrayOf_alike hZ.alike Ar12.2.1) Ar12.2.2 hin12 hat12 (g := (mkF m 184 #[.val (.int p1), .val (.int p2), .val (.int p3), .val (.int (Int32.ofNat B)), .val (.int (Int32.ofNat n)), .val (.int (Int32.ofNat i)), .val (.double fr), .second, .val (.ref b1), .val (.ref ar_5), .val (.double fr), .second, .val (.double (FP.ddiv (FP.i2d ((1024 : Int32) - (Int32.ofNat B))) (4652218415073722368 : UInt64))), .second, .val (.double (FP.ddiv (FP.i2d (((Int32.ofNat B) * (Int32.ofNat n)) + (((1024 : Int32) - ((2 : Int32) * (Int32.ofNat B))) * (Int32.ofNat i)))) (FP.dmul (4652218415073722368 : UInt64) (FP.i2d (Int32.ofNat n))))), .second, .val (.double (FP.dsub (own_g fr (FP.dsub (4607182418800017408 : UInt64) fr) n i) (FP.ddiv (FP.i2d (((Int32.ofNat B) * (Int32.ofNat n)) + (((1024 : Int32) - ((2 : Int32) * (Int32.ofNat B))) * (Int32.ofNat i)))) (FP.dmul (4652218415073722368 : UInt64) (FP.i2d (Int32.ofNat n)))))), .second] [(.int (Int32.ofNat (i + 1))), (.ref ar_5), (.double (own_g fr (FP.dsub (4607182418800017408 : UInt64) fr) n i))])) rfl rfl (hb hby at_184) t k) ?_
    refine own_fwd (B := T5.setTop (mkF m 186 #[.val (.int p1), .val (.int p2), .val (.int p3), .val (.int (Int32.ofNat B)), .val (.int (Int32.ofNat n)), .val (.int (Int32.ofNat i)), .val (.double fr), .second, .val (.ref b1), .val (.ref ar_5), .val (.double fr), .second, .val (.double (FP.ddiv (FP.i2d ((1024 : Int32) - (Int32.ofNat B))) (4652218415073722368 : UInt64))), .second, .val (.double (FP.ddiv (FP.i2d (((Int32.ofNat B) * (Int32.ofNat n)) + (((1024 : Int32) - ((2 : Int32) * (Int32.ofNat B))) * (Int32.ofNat i)))) (FP.dmul (4652218415073722368 : UInt64) (FP.i2d (Int32.ofNat n))))), .second, .val (.double (FP.dsub (own_g fr (FP.dsub (4607182418800017408 : UInt64) fr) n i) (FP.ddiv (FP.i2d (((Int32.ofNat B) * (Int32.ofNat n)) + (((1024 : Int32) - ((2 : Int32) * (Int32.ofNat B))) * (Int32.ofNat i)))) (FP.dmul (4652218415073722368 : UInt64) (FP.i2d (Int32.ofNat n)))))), .second] [(.int (cmpValue (FP.dcmp (own_g fr (FP.dsub (4607182418800017408 : UInt64) fr) n i) (own_g fr (FP.dsub (4607182418800017408 : UInt64) fr) n (i + 1))) .g))])) (fun t k => XS.dcmpS X5.here hx rfl (hb hby at_185) rfl rfl k) ?_
    refine own_fwd (B := T5.setTop (mkF m 191 #[.val (.int p1), .val (.int p2), .val (.int p3), .val (.int (Int32.ofNat B)), .val (.int (Int32.ofNat n)), .val (.int (Int32.ofNat i)), .val (.double fr), .second, .val (.ref b1), .val (.ref ar_5), .val (.double fr), .second, .val (.double (FP.ddiv (FP.i2d ((1024 : Int32) - (Int32.ofNat B))) (4652218415073722368 : UInt64))), .second, .val (.double (FP.ddiv (FP.i2d (((Int32.ofNat B) * (Int32.ofNat n)) + (((1024 : Int32) - ((2 : Int32) * (Int32.ofNat B))) * (Int32.ofNat i)))) (FP.dmul (4652218415073722368 : UInt64) (FP.i2d (Int32.ofNat n))))), .second, .val (.double (FP.dsub (own_g fr (FP.dsub (4607182418800017408 : UInt64) fr) n i) (FP.ddiv (FP.i2d (((Int32.ofNat B) * (Int32.ofNat n)) + (((1024 : Int32) - ((2 : Int32) * (Int32.ofNat B))) * (Int32.ofNat i)))) (FP.dmul (4652218415073722368 : UInt64) (FP.i2d (Int32.ofNat n)))))), .second] [])) (fun t k => XS.ifYes X5.here hx rfl (pc0 := 186) (pc' := 191) rfl (hb hby at_186) rfl ((if0 _ _).trans (flt (own_cle (own_cP (own_gP hfr (own_to hfr hB) hB hn1 hn2 (hi)) (own_gP hfr (own_to hfr hB) hB hn1 hn2 (hi1))) (Int.ofNat_le.mpr (own_l_mono hB (Nat.le_succ i) hi1 hn1)) : ¬ ((0 : Int32) < (cmpValue (FP.dcmp (own_g fr (FP.dsub (4607182418800017408 : UInt64) fr) n i) (own_g fr (FP.dsub (4607182418800017408 : UInt64) fr) n (i + 1))) .g)))).2.2.2) (by decide) (by decide) k) ?_
    refine own_fwd (B := T5.setTop (mkF m 192 #[.val (.int p1), .val (.int p2), .val (.int p3), .val (.int (Int32.ofNat B)), .val (.int (Int32.ofNat n)), .val (.int (Int32.ofNat i)), .val (.double fr), .second, .val (.ref b1), .val (.ref ar_5), .val (.double fr), .second, .val (.double (FP.ddiv (FP.i2d ((1024 : Int32) - (Int32.ofNat B))) (4652218415073722368 : UInt64))), .second, .val (.double (FP.ddiv (FP.i2d (((Int32.ofNat B) * (Int32.ofNat n)) + (((1024 : Int32) - ((2 : Int32) * (Int32.ofNat B))) * (Int32.ofNat i)))) (FP.dmul (4652218415073722368 : UInt64) (FP.i2d (Int32.ofNat n))))), .second, .val (.double (FP.dsub (own_g fr (FP.dsub (4607182418800017408 : UInt64) fr) n i) (FP.ddiv (FP.i2d (((Int32.ofNat B) * (Int32.ofNat n)) + (((1024 : Int32) - ((2 : Int32) * (Int32.ofNat B))) * (Int32.ofNat i)))) (FP.dmul (4652218415073722368 : UInt64) (FP.i2d (Int32.ofNat n)))))), .second] [(.int (1 : Int32))])) (fun t k => XS.iconst X5.here hx rfl (hb hby at_191) k) ?_
    obtain ⟨fs, hr, hrun, hended, hW, hsame⟩ := X5.leave (v := some (.int (1 : Int32))) (fun h => by rw [Bd.returns] at h; cases h)
    refine ⟨_, _, retN X5 hx (t := .boolean) Bd.returns (by simp) (hb hby at_192) hr, hrun, hended, _, _, rfl, ?_, ⟨_, rfl⟩, hW, hsame.mono (by decide) (by decide)⟩
    show Q_rm0 Z p1 p2 p3 h0 n0 _ T5.heap _
    exact ⟨rfl, N5⟩
  refine own_fwd (B := T5.setTop (mkF m 191 #[.val (.int p1), .val (.int p2), .val (.int p3), .val (.int (Int32.ofNat B)), .val (.int (Int32.ofNat n)), .val (.int (Int32.ofNat i)), .val (.double fr), .second, .val (.ref b1), .val (.ref ar_5), .val (.double fr), .second, .val (.double (FP.ddiv (FP.i2d ((1024 : Int32) - (Int32.ofNat B))) (4652218415073722368 : UInt64))), .second, .val (.double (FP.ddiv (FP.i2d (((Int32.ofNat B) * (Int32.ofNat n)) + (((1024 : Int32) - ((2 : Int32) * (Int32.ofNat B))) * (Int32.ofNat i)))) (FP.dmul (4652218415073722368 : UInt64) (FP.i2d (Int32.ofNat n))))), .second, .val (.double (FP.dsub (own_g fr (FP.dsub (4607182418800017408 : UInt64) fr) n i) (FP.ddiv (FP.i2d (((Int32.ofNat B) * (Int32.ofNat n)) + (((1024 : Int32) - ((2 : Int32) * (Int32.ofNat B))) * (Int32.ofNat i)))) (FP.dmul (4652218415073722368 : UInt64) (FP.i2d (Int32.ofNat n)))))), .second] [])) (fun t k => XS.icmpYes X5.here hx rfl (pc0 := 170) (pc' := 191) rfl (hb hby at_170) rfl (flt hc170).2.1 (by decide) (by decide) k) ?_
  refine own_fwd (B := T5.setTop (mkF m 192 #[.val (.int p1), .val (.int p2), .val (.int p3), .val (.int (Int32.ofNat B)), .val (.int (Int32.ofNat n)), .val (.int (Int32.ofNat i)), .val (.double fr), .second, .val (.ref b1), .val (.ref ar_5), .val (.double fr), .second, .val (.double (FP.ddiv (FP.i2d ((1024 : Int32) - (Int32.ofNat B))) (4652218415073722368 : UInt64))), .second, .val (.double (FP.ddiv (FP.i2d (((Int32.ofNat B) * (Int32.ofNat n)) + (((1024 : Int32) - ((2 : Int32) * (Int32.ofNat B))) * (Int32.ofNat i)))) (FP.dmul (4652218415073722368 : UInt64) (FP.i2d (Int32.ofNat n))))), .second, .val (.double (FP.dsub (own_g fr (FP.dsub (4607182418800017408 : UInt64) fr) n i) (FP.ddiv (FP.i2d (((Int32.ofNat B) * (Int32.ofNat n)) + (((1024 : Int32) - ((2 : Int32) * (Int32.ofNat B))) * (Int32.ofNat i)))) (FP.dmul (4652218415073722368 : UInt64) (FP.i2d (Int32.ofNat n)))))), .second] [(.int (1 : Int32))])) (fun t k => XS.iconst X5.here hx rfl (hb hby at_191) k) ?_
  obtain ⟨fs, hr, hrun, hended, hW, hsame⟩ := X5.leave (v := some (.int (1 : Int32))) (fun h => by rw [Bd.returns] at h; cases h)
  refine ⟨_, _, retN X5 hx (t := .boolean) Bd.returns (by simp) (hb hby at_192) hr, hrun, hended, _, _, rfl, ?_, ⟨_, rfl⟩, hW, hsame.mono (by decide) (by decide)⟩
  show Q_rm0 Z p1 p2 p3 h0 n0 _ T5.heap _
  exact ⟨rfl, N5⟩
set_option maxRecDepth 65536 in
set_option maxHeartbeats 40000000 in
theorem comes_1 {Post : Tables → Env → Array Value → State → Outcome → State → Prop} (hpost : ∀ tb e args s v u, (limb_1_1.after args s (.returned v) u = true ∧ limb_1_2.after args s (.returned v) u = true ∧ True) → FrameEnd s (.returned v) u (Jvm.fieldLocs frame_1_writes args s ++ Jvm.arrayLocs frame_1_arrays args s ++ Jvm.staticLocs frame_1_statics s) 16 640 → Post tb e args s (.returned v) u) :
    ArmFor flags0 classFile x code maxLocals ret World_1 tables_1 room_1 Calls_1 rest_1 Pre_1 Post := by
  intro l hfl _ _ p e ha hc hk s m args below hf hA hF happ hP
  obtain ⟨hcalls, hrest, hpre⟩ := hP
  obtain ⟨-, -, -, hnamed, -, -, -, hat⟩ := (Spec.applies_iff hf).mp happ
  obtain ⟨hg, hn⟩ := and_e (Cond.before_iff.mp (show (Jvm.Cond.and given_1 narrow_1).before args s = true from hpre))
  obtain ⟨hg0, hgr0⟩ := and_e hg
  obtain ⟨hga0, hgr1⟩ := and_e hgr0
  obtain ⟨hga1, hgr2⟩ := and_e hgr1
  have hga2 := hgr2
  obtain ⟨w0, w1, w2, rfl⟩ : ∃ w0 w1 w2 : Value, args = #[w0, w1, w2] := by
    have hs : args.size = 3 := by simpa [Cond.value, given_1] using hg0
    obtain ⟨L⟩ := args
    match L, hs with
    | [w0, w1, w2], _ => exact ⟨w0, w1, w2, rfl⟩
  have hw := fun d (hd : d ∈ tables_1) => atoms_spec (ws := Jvm.Cond.code x code maxLocals ret :: tables_1) hat d (List.mem_cons_of_mem _ hd)
  have hfit : Fit s := fun {y c} hc i hi => by
    obtain ⟨ha, rfl⟩ := Array.getElem?_eq_some_iff.mp hc
    have q := List.all_eq_true.mp ((Array.all_eq_true_iff_forall_mem.mp hF) _ (Array.getElem_mem ha)) i (List.mem_range.mpr hi)
    simpa [Array.getElem?_eq_getElem hi] using q
  obtain ⟨i0, ei0⟩ := is_v hga0
  obtain rfl : w0 = (.int i0) := Option.some.inj ei0
  obtain ⟨i1, ei1⟩ := is_v hga1
  obtain rfl : w1 = (.int i1) := Option.some.inj ei1
  obtain ⟨i2, ei2⟩ := is_v hga2
  obtain rfl : w2 = (.int i2) := Option.some.inj ei2
  obtain ⟨n, o, h1, h2, h3, _, L, rfl, ⟨rfl, N⟩, hq⟩ := rm0 l s _ hw tables_1 i0 i1 i2 s.heap s.heap.size (Nat.le_refl _)  p e ha hc hk s m _ below hf ((Spec.applies_iff_loose hf).mp happ).1 ⟨rfl, State.Warmed39.refl s, rfl⟩ trivial
  refine ⟨n, _, h1, h2, h3, hpost _ _ _ _ _ _ ⟨Cond.after_iff.mpr rfl, Cond.after_iff.mpr (eq_i res_at (Term.int_eval (1)) rfl), trivial⟩ ⟨hq.1, hq.2.1, (hq.2.2.sift fun y hy => Or.inr (N y hy)).mono (by decide) (by decide)⟩⟩
theorem main_1_1 : Claimed_1_1 := comes_1 fun _ _ _ _ _ _ h hF => ⟨h.1, hF⟩
theorem main_1_2 : Claimed_1_2 := comes_1 fun _ _ _ _ _ _ h hF => ⟨h.2.1, hF⟩
end Jvm.Pilot.@@N@@
namespace Jvm.Pilot.@@N@@
open Jvm Jvm.ClassFile Sem Op Lib Jvm.Free Jvm.Stand Jvm.Pilot.@@N@@.Jvm.D
/-! MADE BY PROGRAM (witnessworld.py) out of the Statement's table words and the real class files: 11 classes; the members and pool entries that the words name. The judged class is class 1, her method 1. -/
namespace start1
open Jvm.ClassFile
def u (s : String) : CpInfo := .utf8 (stringToUtf16 s)
/-- a pool by its gaps: so many unusable entries, then the entry; so many at the end -/
def gap : Nat → List CpInfo → List CpInfo
  | 0, r => r
  | n + 1, r => .unusable :: gap n r
def poolList (es : List (Nat × CpInfo)) (last : Nat) : List CpInfo := es.foldr (fun e r => gap e.1 (e.2 :: r)) (gap last [])
def pool (es : List (Nat × CpInfo)) (last : Nat) : Array CpInfo := ⟨poolList es last⟩
def fileOf (pool : Array CpInfo) (this : Nat) (attrs : Array Attribute := #[]) (ms : Array MethodInfo := #[]) (fl : Nat := 33) (sup : Nat := 0) (ifs : Array Nat := #[]) (fds : Array FieldInfo := #[]) : ClassFile where
  minorVersion := 0
  majorVersion := 65
  constantPool := pool
  accessFlags := fl
  thisClass := this
  superClass := sup
  interfaces := ifs
  fields := fds
  methods := ms
  attributes := attrs
def plain (name : String) (sup : Option ClassId) : Class where
  name := name
  kind := .ordinary
  loader := none
  accessFlags := 33
  super := sup
  interfaces := #[]
  cf := none
  fields := #[]
  methods := #[]
  instanceTypes := #[]
  staticTypes := #[]
  resolved := #[]
  callSites := []
  init := .initialized
  statics := none
  mirror := none

def pool0 : Array CpInfo := pool [(5, u "<init>"), (0, u "()V"), (1, .class_ 10), (1, u "java/lang/Object")] 113

def k0c0 : Code := { maxStack := 0, maxLocals := 1, code := object_method_1_code, exceptionTable := #[], attributes := #[] }
def k0m0 : Method := { name := "<init>", desc := "()V", sig := { parameters := [], returnType := none }, accessFlags := 1, code := some k0c0 }
/-- java/lang/Object -/
def k0 : Class := { plain "java/lang/Object" none with
  accessFlags := 33
  interfaces := #[]
  cf := some (fileOf pool0 8 #[] #[{ accessFlags := 1, nameIndex := 5, descriptorIndex := 6, attributes := #[] }] 33 0 #[] #[])
  fields := #[]
  methods := #[k0m0]
  instanceTypes := #[]
  staticTypes := #[]
  resolved := Array.replicate 124 none
  statics := none }

def pool1 : Array CpInfo := pool [(2, .class_ 4), (1, u "java/lang/Object"), (0, u "<init>"), (0, u "()V"), (0, .integer 2147483647), (0, .double 4652218415073722368), (1, .class_ 11), (0, u "com/example/hazeway/hazeway/QuantileBand"), (0, .methodref 10 13), (0, .nameAndType 5 14), (0, u "(D)V"), (0, .methodref 10 16), (0, .nameAndType 17 18), (0, u "levels"), (0, u "(I)[D"), (0, .double 4382569440205035030), (1, .double 13605941477059810838), (1, .class_ 24), (0, u "com/example/hazeway/hazeway/QuantileBandLevelsPinLaw"), (2, u "law"), (0, u "(III)Z")] 5

def k1m0 : Method := { name := "<init>", desc := "()V", sig := { parameters := [], returnType := none }, accessFlags := 1, code := none }
def k1c1 : Code := { maxStack := 6, maxLocals := 18, code := code, exceptionTable := #[], attributes := #[] }
def k1m1 : Method := { name := "law", desc := "(III)Z", sig := { parameters := [.int, .int, .int], returnType := some .boolean }, accessFlags := 9, code := some k1c1 }
/-- com/example/hazeway/hazeway/QuantileBandLevelsPinLaw -/
def k1 : Class := { plain "com/example/hazeway/hazeway/QuantileBandLevelsPinLaw" (some 0) with
  accessFlags := 49
  interfaces := #[]
  cf := some (fileOf pool1 23 #[] #[{ accessFlags := 1, nameIndex := 5, descriptorIndex := 6, attributes := #[] }, { accessFlags := 9, nameIndex := 27, descriptorIndex := 28, attributes := #[] }] 49 2 #[] #[])
  fields := #[]
  methods := #[k1m0, k1m1]
  instanceTypes := #[]
  staticTypes := #[]
  resolved := Array.replicate 34 none
  statics := none }

def pool2 : Array CpInfo := pool [(1, .methodref 2 3), (0, .class_ 4), (0, .nameAndType 5 6), (0, u "java/lang/Object"), (0, u "<init>"), (0, u "()V"), (0, .double 4602678819172646912), (10, .fieldref 19 20), (0, .class_ 21), (0, .nameAndType 22 23), (0, u "com/example/hazeway/hazeway/QuantileBand"), (0, u "from"), (0, u "D"), (0, .fieldref 19 25), (0, .nameAndType 26 23), (0, u "to"), (4, .class_ 32), (0, u "com/example/hazeway/hazeway/QuantileBand$Walker"), (6, u "(D)V"), (21, .class_ 63), (1, u "com/example/hazeway/hazeway/QuantileBand$Order"), (37, u "DEFAULT"), (7, u "levels"), (0, u "(I)[D")] 25

def k2c0 : Code := { maxStack := 5, maxLocals := 3, code := prog_81_method_1_code, exceptionTable := #[], attributes := #[] }
def k2m0 : Method := { name := "<init>", desc := "(D)V", sig := { parameters := [.double], returnType := none }, accessFlags := 1, code := some k2c0 }
def k2c1 : Code := { maxStack := 8, maxLocals := 4, code := prog_81_method_3_code, exceptionTable := #[], attributes := #[] }
def k2m1 : Method := { name := "levels", desc := "(I)[D", sig := { parameters := [.int], returnType := some (.array .double) }, accessFlags := 0, code := some k2c1 }
/-- com/example/hazeway/hazeway/QuantileBand -/
def k2 : Class := { plain "com/example/hazeway/hazeway/QuantileBand" (some 0) with
  accessFlags := 49
  interfaces := #[]
  cf := some (fileOf pool2 19 #[.nestMembers #[31, 61]] #[{ accessFlags := 1, nameIndex := 5, descriptorIndex := 39, attributes := #[] }, { accessFlags := 0, nameIndex := 109, descriptorIndex := 110, attributes := #[] }] 49 2 #[] #[{ accessFlags := 25, nameIndex := 101, descriptorIndex := 23, attributes := #[] }, { accessFlags := 18, nameIndex := 22, descriptorIndex := 23, attributes := #[] }, { accessFlags := 18, nameIndex := 26, descriptorIndex := 23, attributes := #[] }])
  fields := #[{ name := "DEFAULT", type := .double, accessFlags := 25, slot := 0, constantValue := 0 }, { name := "from", type := .double, accessFlags := 18, slot := 0, constantValue := 0 }, { name := "to", type := .double, accessFlags := 18, slot := 1, constantValue := 0 }]
  methods := #[k2m0, k2m1]
  instanceTypes := #[.double, .double]
  staticTypes := #[.double]
  resolved := Array.replicate 136 none
  statics := none }

def pool3 : Array CpInfo := pool [(1, u "java/lang/Cloneable"), (0, .class_ 1), (0, u "java/lang/Object"), (0, .class_ 3)] 3

/-- java/lang/Cloneable -/
def k3 : Class := { plain "java/lang/Cloneable" (some 0) with
  accessFlags := 1537
  interfaces := #[]
  cf := some (fileOf pool3 2 #[] #[] 1537 4 #[] #[])
  fields := #[]
  methods := #[]
  instanceTypes := #[]
  staticTypes := #[]
  resolved := Array.replicate 8 none
  statics := none }

def pool4 : Array CpInfo := pool [(1, u "java/io/Serializable"), (0, .class_ 1), (0, u "java/lang/Object"), (0, .class_ 3)] 3

/-- java/io/Serializable -/
def k4 : Class := { plain "java/io/Serializable" (some 0) with
  accessFlags := 1537
  interfaces := #[]
  cf := some (fileOf pool4 2 #[] #[] 1537 4 #[] #[])
  fields := #[]
  methods := #[]
  instanceTypes := #[]
  staticTypes := #[]
  resolved := Array.replicate 8 none
  statics := none }

/-- the primitive byte -/
def k5 : Class := { plain "byte" none with kind := .primitive 'B', accessFlags := 0x411 }
/-- [B -/
def k6 : Class := { plain "[B" (some 0) with kind := .array 5 .byte, interfaces := #[3, 4], accessFlags := 1041 }

/-- the primitive double -/
def k7 : Class := { plain "double" none with kind := .primitive 'D', accessFlags := 0x411 }
/-- [D -/
def k8 : Class := { plain "[D" (some 0) with kind := .array 7 .double, interfaces := #[3, 4], accessFlags := 1041 }

/-- the primitive int -/
def k9 : Class := { plain "int" none with kind := .primitive 'I', accessFlags := 0x411 }
/-- [I -/
def k10 : Class := { plain "[I" (some 0) with kind := .array 9 .int, interfaces := #[3, 4], accessFlags := 1041 }

def heap : Heap := #[]
def classes : Array Class := #[k0, k1, k2, k3, k4, k5, k6, k7, k8, k9, k10]
def interned : List (Array UInt16 × Addr) := []
def slotsUsed : Nat := 0
def theMethod : MethodId := ⟨1, 1⟩
def args0 : Array Value := #[.int 5, .int 7, .int 3]
def aboutOver (below : List Frame) : State where
  vm := { classes := classes, interned := interned.toArray }
  heap := heap
  slotsUsed := slotsUsed
  threads := #[{ frames := .invoking theMethod args0 :: below }]
def below0 : List Frame := [.native { method := ⟨0, 0⟩, args := #[] }]
def about1 : State := aboutOver below0
def p0 : Program := .bare "" "" ""
def e0 : Env := launch0.env 0 0 0
theorem w_frames : about1.frames = Frame.invoking theMethod args0 :: below0 := rfl
set_option maxRecDepth 65536 in
theorem w_args : argsFit about1.vm theMethod args0 = true := by decide +kernel
set_option maxRecDepth 65536 in
theorem w_heap : heapFits about1 = true := by decide +kernel
set_option maxRecDepth 65536 in
theorem w_runnable : about1.curStatus? = some .runnable := by decide +kernel
set_option maxRecDepth 65536 in
theorem w_alone : about1.alone = true := by decide +kernel
set_option maxRecDepth 65536 in
theorem w_named : about1.methodNamed? x = some theMethod := by decide +kernel
set_option maxRecDepth 65536 in
theorem w_hears : about1.hears theMethod below0 = true := by decide +kernel
set_option maxRecDepth 65536 in
theorem w_ripe : about1.ripe theMethod args0 below0 = true := by decide +kernel
theorem w_running : about1.status = .running := rfl
set_option maxRecDepth 65536 in
theorem w_room : about1.hasRoom e0.platform room_1 = true :=
  launch0.hasRoom_least _ room_1 (by decide +kernel) (by decide +kernel) (by decide +kernel) (by decide +kernel) (by decide +kernel) (by decide +kernel)
theorem allAtoms_all (ts : List Jvm.Cond) (a : Array Jvm.Value) (st : Jvm.State) : (allAtoms ts).before a st = ts.all (fun c => c.before a st) := by
  induction ts with
  | nil => rfl
  | cons c t ih =>
    show (Jvm.Cond.and c (allAtoms t)).before a st = _
    rw [Jvm.Cond.before_and, ih, List.all_cons]
def words1 : List Jvm.Cond := Jvm.Cond.code x code maxLocals ret :: tables_1
/-- a 'code' word, met by the world's own term for the bytes: nothing is compared byte by byte -/
theorem code_word {y : MethodName} {bytes : ByteArray} {mx : Nat} {rt : Option FieldType} {a : Array Value} {s : State} {m : MethodId} {meth : Method} {c : Code} (h1 : s.methodNamed? y = some m) (h2 : s.vm.method? m = some meth) (h3 : meth.code = some c) (h4 : c.code = bytes)
    (h5 : (c.maxLocals == mx && c.exceptionTable.isEmpty && decide (c.maxStack ≤ mostOperands) && decide (meth.sig.returnType = rt) && !meth.locks && decide (parseMethodDescriptor y.desc = some meth.sig)) = true) : (Jvm.Cond.code y bytes mx rt).before a s = true := by
  simp only [Bool.and_eq_true, beq_iff_eq, Bool.not_eq_true', decide_eq_true_eq] at h5
  obtain ⟨⟨⟨⟨⟨g1, g2⟩, g3⟩, g4⟩, g5⟩, g6⟩ := h5
  simp [Cond.before, Cond.holds, Cond.value, h1, h2, h3, h4, g1, g2, g3, g4, g5, g6]
def isCode : Jvm.Cond → Bool
  | .code _ _ _ _ => true
  | _ => false
theorem all_split {L : List Jvm.Cond} {P : Jvm.Cond → Bool} (h1 : L.all (fun c => isCode c || P c) = true) (h2 : ∀ c ∈ L.filter isCode, P c = true) : L.all P = true := by
  refine List.all_eq_true.mpr fun c hc => ?_
  have h := List.all_eq_true.mp h1 c hc
  rcases Bool.eq_false_or_eq_true (isCode c) with hi | hi
  · exact h2 c (List.mem_filter.mpr ⟨hc, hi⟩)
  · simpa [hi] using h
set_option maxRecDepth 65536 in
theorem w_c0 : (Jvm.Cond.code x code maxLocals ret).before args0 about1 = true := code_word (m := ⟨1, 1⟩) (meth := k1m1) (c := k1c1) (by decide +kernel) rfl rfl rfl (by decide +kernel)
set_option maxRecDepth 65536 in
theorem w_c1 : (Jvm.Cond.code ({ cls := "com/example/hazeway/hazeway/QuantileBand", name := "<init>", desc := "(D)V" } : Jvm.MethodName) prog_81_method_1_code (3 : Nat) (Option.none : Option Jvm.ClassFile.FieldType)).before args0 about1 = true := code_word (m := ⟨2, 0⟩) (meth := k2m0) (c := k2c0) (by decide +kernel) rfl rfl rfl (by decide +kernel)
set_option maxRecDepth 65536 in
theorem w_c2 : (Jvm.Cond.code ({ cls := "java/lang/Object", name := "<init>", desc := "()V" } : Jvm.MethodName) object_method_1_code (1 : Nat) (Option.none : Option Jvm.ClassFile.FieldType)).before args0 about1 = true := code_word (m := ⟨0, 0⟩) (meth := k0m0) (c := k0c0) (by decide +kernel) rfl rfl rfl (by decide +kernel)
set_option maxRecDepth 65536 in
theorem w_c3 : (Jvm.Cond.code ({ cls := "com/example/hazeway/hazeway/QuantileBand", name := "levels", desc := "(I)[D" } : Jvm.MethodName) prog_81_method_3_code (4 : Nat) (Option.some (Jvm.ClassFile.FieldType.array Jvm.ClassFile.FieldType.double))).before args0 about1 = true := code_word (m := ⟨2, 1⟩) (meth := k2m1) (c := k2c1) (by decide +kernel) rfl rfl rfl (by decide +kernel)
def codes1 : List Jvm.Cond := [Jvm.Cond.code x code maxLocals ret, Jvm.Cond.code ({ cls := "com/example/hazeway/hazeway/QuantileBand", name := "<init>", desc := "(D)V" } : Jvm.MethodName) prog_81_method_1_code (3 : Nat) (Option.none : Option Jvm.ClassFile.FieldType), Jvm.Cond.code ({ cls := "java/lang/Object", name := "<init>", desc := "()V" } : Jvm.MethodName) object_method_1_code (1 : Nat) (Option.none : Option Jvm.ClassFile.FieldType), Jvm.Cond.code ({ cls := "com/example/hazeway/hazeway/QuantileBand", name := "levels", desc := "(I)[D" } : Jvm.MethodName) prog_81_method_3_code (4 : Nat) (Option.some (Jvm.ClassFile.FieldType.array Jvm.ClassFile.FieldType.double))]
set_option maxRecDepth 65536 in
theorem codes_eq : words1.filter isCode = codes1 := rfl
theorem w_codes : ∀ c ∈ words1.filter isCode, c.before args0 about1 = true := by
  rw [codes_eq]
  intro c hc
  simp only [codes1, List.mem_cons, List.not_mem_nil, or_false] at hc
  rcases hc with rfl | rfl | rfl | rfl
  · exact w_c0
  · exact w_c1
  · exact w_c2
  · exact w_c3
set_option maxRecDepth 65536 in
theorem w_t1 : (words1.take 24).all (fun c => isCode c || c.before args0 about1) = true := by decide +kernel
set_option maxRecDepth 65536 in
theorem w_t2 : (words1.drop 24).all (fun c => isCode c || c.before args0 about1) = true := by decide +kernel
theorem w_tables : (allAtoms (Jvm.Cond.code x code maxLocals ret :: tables_1)).before args0 about1 = true := by
  rw [allAtoms_all]
  show words1.all (fun c => c.before args0 about1) = true
  refine all_split ?_ w_codes
  rw [← List.take_append_drop 24 words1, List.all_append, w_t1, w_t2]
  rfl
set_option maxRecDepth 65536 in
theorem w_case : (Jvm.Cond.and given_1 narrow_1).before args0 about1 = true := by decide +kernel
theorem w_applies : (headSpec (Jvm.Cond.code x code maxLocals ret :: tables_1) room_1).applies x e0.platform about1 = true :=
  (Spec.applies_iff w_frames).mpr ⟨w_running, w_runnable, w_alone, w_named, w_hears, w_ripe, w_room, w_tables⟩
theorem atStart : AtStart classFile x code maxLocals ret World_1 tables_1 room_1 Calls_1 rest_1 Pre_1 launch0 p0 e0 about1 theMethod args0 below0 :=
  ⟨lists_1, trivial, launch0.admits_env _ _ _, launch0.least_env, fairChoices_fair.cas, fairChoices_fair.clock, w_frames, w_args, w_heap, w_applies, trivial, trivial, w_case⟩
end start1
theorem witness_1 : WitnessClaimed_1 := ⟨start1.p0, start1.e0, start1.about1, start1.theMethod, start1.args0, start1.below0, start1.atStart⟩
end Jvm.Pilot.@@N@@
