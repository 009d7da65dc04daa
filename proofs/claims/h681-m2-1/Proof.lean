import JvmDerived
import JvmDerived.Pilot.@@N@@Statement
import JvmDerived.Pilot.@@N@@Code
set_option linter.unusedVariables false
set_option linter.unusedSimpArgs false
namespace Jvm.RoadKit
open Sem ClassFile Op Lib Jvm.Stand Jvm.Free Jvm.LawKit
section New
variable {p : Program} {l : Launch} {e : Env} {R : Room} {s : State} {m : MethodId} {args : Array Value} {below : List Frame} {meth : Method} {c : Code} {T : State} {locs : List Loc} {cells slots : Nat}
theorem retI (X : Stand p l e R s m args below meth c T locs cells slots) (hx : p.tables.exec = Jvm.exec) {pc : Nat} {Ls : Array Slot} {z : Int32} {rest : List Value} (hret : meth.sig.returnType = some .int) (hd : decode c.code pc = .ok (.ireturn, 1)) {fs : List Frame}
    (hl : ∀ (f : JFrame) (acts : List Action), f.method = m → f.locked = none → f.entered = [] → (doReturn e (T.setTop f) acts (some (.int z))).1 = T.setFrames fs) : Steps p.tables e below (T.setTop (mkF m pc Ls (.int z :: rest))) (T.setFrames fs) :=
  retOut X hx hret rfl (Or.inl ⟨rfl, Or.inl rfl, _, rfl⟩) hd hl
theorem own_fwd {tb : Tables} {e : Env} {below : List Frame} {P : State → Outcome → Prop} {A B : State} (h : ∀ t, Steps tb e below B t → Steps tb e below A t) (k : ∃ t o, Steps tb e below B t ∧ P t o) : ∃ t o, Steps tb e below A t ∧ P t o := by
  obtain ⟨t, o, h1, h2⟩ := k
  exact ⟨t, o, h t h1, h2⟩
theorem own_cut {tb : Tables} {e : Env} {below : List Frame} {P : State → Outcome → Prop} {A : State} {α : Type} {B : α → State} {H : α → Prop} (h : ∀ n, H n → ∃ t o, Steps tb e below (B n) t ∧ P t o) (k : (∀ n, H n → ∃ t o, Steps tb e below (B n) t ∧ P t o) → ∃ t o, Steps tb e below A t ∧ P t o) : ∃ t o, Steps tb e below A t ∧ P t o := k h
theorem own_selfP {s : State} {args : Array Value} {C : String} {x z y : MethodName} (h : (Cond.selects C x z).before args s = true) (hc : z.cls = y.cls) (hp : s.PrivateAt y) (hi : (Cond.instanceMethod y).before args s = true) (hy : y.cls ≠ "java/lang/invoke/MethodHandle" ∧ y.cls ≠ "java/lang/invoke/VarHandle") : (Cond.selects y.cls y y).before args s = true := by
  obtain ⟨c2, r2, m2, -, -, q3, -, kP, hkP, hkPi⟩ := Cond.selects_spec h
  exact selects_self_of_private (hc ▸ findClass_of_methodNamed q3) hkP hkPi hp hi hy
end New
/-- which slots of the cells of h0 may hold something else in h: (x, none): any of x's -/
def KeepF (h0 h : Heap) (ws : List (Addr × Option Nat)) : Prop := ∀ (x : Addr) (c c' : Cell), h0[x]? = some c → h[x]? = some c' → ∀ j, (x, none) ∉ ws → (x, some j) ∉ ws → c'.slots[j]? = c.slots[j]?
section Kf
variable {Z : State} {h h' h0 : Heap} {a b x : Addr} {C n d : String} {v w : Value} {sl : Nat} {ws' : List Addr} {fs fs' : List (Addr × Option Nat)} {o o' : Option Nat}
theorem KeepF.refl (h : Heap) (fs : List (Addr × Option Nat)) : KeepF h h fs := fun x c c' q q' j _ _ => by cases q.symm.trans q'; rfl
theorem KeepF.ext {ws : List Addr} (K : KeepF h0 h fs) (Kp : Keep h0 h ws) (E : Ext h h') : KeepF h0 h' fs := fun x c c' q q' j r1 r2 => by
  obtain ⟨c1, q1, -⟩ := Kp.2.2 x c q
  rw [← Option.some.inj ((E.2 x c1 q1).symm.trans q')]
  exact K x c c1 q q1 j r1 r2
theorem KeepF.trans {ws : List Addr} (K : KeepF h0 h fs) (Kp : Keep h0 h ws) (K' : KeepF h h' fs') (q : ∀ y ∈ fs', y ∈ fs ∨ (y.1, none) ∈ fs ∨ h0.size ≤ y.1) : KeepF h0 h' fs := fun x c c' q0 q' j r1 r2 => by
  obtain ⟨c1, q1, -⟩ := Kp.2.2 x c q0
  have lt := (Array.getElem?_eq_some_iff.mp q0).1
  have a1 : (x, none) ∉ fs' := fun z => (q _ z).elim r1 fun u => u.elim r1 fun u => absurd lt (Nat.not_lt.mpr u)
  have a2 : (x, some j) ∉ fs' := fun z => (q _ z).elim r2 fun u => u.elim r1 fun u => absurd lt (Nat.not_lt.mpr u)
  rw [K' x c1 c' q1 q' j a1 a2, K x c c1 q0 q1 j r1 r2]
theorem KeepF.of_wr (W : Wr h h' a sl v) : KeepF h h' [(a, some sl)] := fun x c c' q q' j r1 r2 => by
  obtain ⟨cb, e1, -, -, -, e5, e6, -⟩ := wr_at W q
  cases e1.symm.trans q'
  by_cases z : x = a
  · subst z
    exact e6 j fun u => r2 (by simp [u])
  · rw [e5 z]
theorem KeepF.wr {ws : List Addr} (K : KeepF h0 h fs) (Kp : Keep h0 h ws) (W : Wr h h' a sl v) (q : (a, some sl) ∈ fs ∨ (a, none) ∈ fs ∨ h0.size ≤ a) : KeepF h0 h' fs := K.trans Kp (KeepF.of_wr W) fun y hy => by cases List.mem_singleton.mp hy; exact q
theorem KeepF.of_keep {ws : List Addr} (Kp : Keep h0 h ws) (q : ∀ y ∈ ws, (y, none) ∈ fs) : KeepF h0 h fs := fun x c c' e e' j r1 r2 => by
  by_cases z : x ∈ ws
  · exact absurd (q x z) r1
  · cases (Kp.2.1 x c e z).symm.trans e'; rfl
theorem Fld.keepF {ws : List Addr} (F : Fld Z h a C n d v) (Kp : Keep h h' ws) (K : KeepF h h' fs) (q1 : (a, none) ∉ fs) (q2 : (a, some (Jvm.RoadKit.slotOf Z C n d)) ∉ fs) : Fld Z h' a C n d v := by
  obtain ⟨cell, cf, k, i, f, h1, h2, h3, h4, h5, h6, h7⟩ := F
  obtain ⟨c', e1, e2, e3, e4⟩ := Kp.2.2 a cell h1
  have es : slotOf Z C n d = f.slot := by simp [slotOf, h2]
  rw [es] at q2
  exact ⟨c', cf, k, i, f, e1, h2, h3, by rw [e3]; exact h4, by rw [e3]; exact h5, by rw [e2]; exact h6, by rw [K a cell c' h1 e1 _ q1 q2]; exact h7⟩
theorem fnin0 {y : Addr × Option Nat} : y ∉ ([] : List (Addr × Option Nat)) := fun q => nomatch q
theorem fninA (q : x ≠ b) (r : (x, o) ∉ fs) : (x, o) ∉ (b, o') :: fs := fun z => (List.mem_cons.mp z).elim (fun u => q (congrArg Prod.fst u)) r
theorem fninB (q : o ≠ o') (r : (x, o) ∉ fs) : (x, o) ∉ (b, o') :: fs := fun z => (List.mem_cons.mp z).elim (fun u => q (congrArg Prod.snd u)) r
theorem fall0 {P : Addr × Option Nat → Prop} : ∀ y ∈ ([] : List (Addr × Option Nat)), P y := fun _ q => nomatch q
theorem fallS {P : Addr × Option Nat → Prop} {y : Addr × Option Nat} (q : P y) (r : ∀ x ∈ fs, P x) : ∀ x ∈ y :: fs, P x := fun x z => (List.mem_cons.mp z).elim (fun u => u ▸ q) (r x)
end Kf
end Jvm.RoadKit
namespace Jvm.Pilot.@@N@@
open Jvm Jvm.ClassFile Sem Op Lib Jvm.Free Jvm.Stand Jvm.LawKit Jvm.RoadKit Bundle Jvm.Pilot.@@N@@.Jvm.D
theorem pd_0 : parseMethodDescriptor "(I)I" = some ⟨[.int], some .int⟩ := by decide +kernel
theorem pd_1 : parseMethodDescriptor "(I)Lcom/example/strict_conformance/strictconformance/DeviceType;" = some ⟨[.int], some (.object "com/example/strict_conformance/strictconformance/DeviceType")⟩ := by decide +kernel
theorem pd_2 : parseMethodDescriptor "(Lcom/example/strict_conformance/strictconformance/DeviceType;)Z" = some ⟨[(.object "com/example/strict_conformance/strictconformance/DeviceType")], some .boolean⟩ := by decide +kernel
theorem pn_0 : plainName "com/example/strict_conformance/strictconformance/DeviceTypeIsHeldToPinLaw" = true := by first | (simp [plainName, overriddenIn]; done) | decide +kernel
theorem pn_1 : plainName "com/example/strict_conformance/strictconformance/DeviceType" = true := by first | (simp [plainName, overriddenIn]; done) | decide +kernel
theorem d1_0 : decode method_2_code 0 = .ok (.iload_n 0, 1) := by decide +kernel
theorem d1_1 : decode method_2_code 1 = .ok (.ldc 7, 2) := by decide +kernel
theorem d1_3 : decode method_2_code 3 = .ok (.iand, 1) := by decide +kernel
theorem d1_4 : decode method_2_code 4 = .ok (.iconst 5, 1) := by decide +kernel
theorem d1_5 : decode method_2_code 5 = .ok (.irem, 1) := by decide +kernel
theorem d1_6 : decode method_2_code 6 = .ok (.ireturn, 1) := by decide +kernel
theorem d2_0 : decode method_3_code 0 = .ok (.iload_n 0, 1) := by decide +kernel
theorem d2_1 : decode method_3_code 1 = .ok (.ifCond .ne 7, 3) := by decide +kernel
theorem d2_4 : decode method_3_code 4 = .ok (.getstatic 8, 3) := by decide +kernel
theorem d2_7 : decode method_3_code 7 = .ok (.areturn, 1) := by decide +kernel
theorem d2_8 : decode method_3_code 8 = .ok (.iload_n 0, 1) := by decide +kernel
theorem d2_9 : decode method_3_code 9 = .ok (.iconst 1, 1) := by decide +kernel
theorem d2_10 : decode method_3_code 10 = .ok (.if_icmp .ne 7, 3) := by decide +kernel
theorem d2_13 : decode method_3_code 13 = .ok (.getstatic 14, 3) := by decide +kernel
theorem d2_16 : decode method_3_code 16 = .ok (.areturn, 1) := by decide +kernel
theorem d2_17 : decode method_3_code 17 = .ok (.iload_n 0, 1) := by decide +kernel
theorem d2_18 : decode method_3_code 18 = .ok (.iconst 2, 1) := by decide +kernel
theorem d2_19 : decode method_3_code 19 = .ok (.if_icmp .ne 7, 3) := by decide +kernel
theorem d2_22 : decode method_3_code 22 = .ok (.getstatic 17, 3) := by decide +kernel
theorem d2_25 : decode method_3_code 25 = .ok (.areturn, 1) := by decide +kernel
theorem d2_26 : decode method_3_code 26 = .ok (.iload_n 0, 1) := by decide +kernel
theorem d2_27 : decode method_3_code 27 = .ok (.iconst 3, 1) := by decide +kernel
theorem d2_28 : decode method_3_code 28 = .ok (.if_icmp .ne 7, 3) := by decide +kernel
theorem d2_31 : decode method_3_code 31 = .ok (.getstatic 20, 3) := by decide +kernel
theorem d2_34 : decode method_3_code 34 = .ok (.areturn, 1) := by decide +kernel
theorem d2_35 : decode method_3_code 35 = .ok (.getstatic 23, 3) := by decide +kernel
theorem d2_38 : decode method_3_code 38 = .ok (.areturn, 1) := by decide +kernel
theorem d3_0 : decode prog_20_method_7_code 0 = .ok (.aload_n 1, 1) := by decide +kernel
theorem d3_1 : decode prog_20_method_7_code 1 = .ok (.aload_n 0, 1) := by decide +kernel
theorem d3_2 : decode prog_20_method_7_code 2 = .ok (.if_acmp .eq 11, 3) := by decide +kernel
theorem d3_5 : decode prog_20_method_7_code 5 = .ok (.aload_n 1, 1) := by decide +kernel
theorem d3_6 : decode prog_20_method_7_code 6 = .ok (.aload_n 0, 1) := by decide +kernel
theorem d3_7 : decode prog_20_method_7_code 7 = .ok (.getfield 42, 3) := by decide +kernel
theorem d3_10 : decode prog_20_method_7_code 10 = .ok (.if_acmp .ne 7, 3) := by decide +kernel
theorem d3_13 : decode prog_20_method_7_code 13 = .ok (.iconst 1, 1) := by decide +kernel
theorem d3_14 : decode prog_20_method_7_code 14 = .ok (.goto 4, 3) := by decide +kernel
theorem d3_17 : decode prog_20_method_7_code 17 = .ok (.iconst 0, 1) := by decide +kernel
theorem d3_18 : decode prog_20_method_7_code 18 = .ok (.ireturn, 1) := by decide +kernel
theorem own_eqv {args : Array Value} {s : State} {a b : Term} {v : Value} (hb : b.eval args s none [] s = some v) (h : (Jvm.Cond.eq a b).value args s none s [] = some true) : a.eval args s none [] s = some v := by
  cases ha : a.eval args s none [] s with
  | none => simp [Cond.value, ha] at h
  | some x => cases x <;> cases v <;> simp [Cond.value, ha, hb] at h ⊢ <;> exact h
theorem own_fld {args : Array Value} {s : State} {t b : Term} {x : Addr} {C f d : String} {v : Value} (ea : t.eval args s none [] s = some (.ref x)) (hb : b.eval args s none [] s = some v) (h : (Jvm.Cond.eq (.field t C f d) b).value args s none s [] = some true) : Fld s s.heap x C f d v :=
  Fld.start ((fld_at ea).symm.trans (own_eqv hb h))
theorem own_enum {args : Array Value} {s : State} {C f d K : String} (hx : (Jvm.Cond.exactly (.static C f d) K).value args s none s [] = some true) (hi : (Jvm.Cond.initialized C).before args s = true) (hl : (Jvm.Cond.laysStatic C f d).before args s = true) :
    ∃ a, (Term.static C f d).eval args s none [] s = some (.ref a) ∧ Exa s s.heap a K ∧ Sta s s.heap C f d (.ref a) := by
  obtain ⟨a, ea⟩ := exa_v hx
  exact ⟨a, ea, Exa.start ea hx, Sta.start ea (Or.inr ⟨hi, hl⟩)⟩
def own_pick (i : Int32) (w0 w1 w2 w3 w4 : Addr) : Addr := if i = 0 then w0 else if i = 1 then w1 else if i = 2 then w2 else if i = 3 then w3 else w4
def own_in (i : Int32) : Prop := i = 0 ∨ i = 1 ∨ i = 2 ∨ i = 3 ∨ i = 4
theorem own_idx (p : Int32) : own_in ((p &&& (2147483647 : Int32)) % (5 : Int32)) := by
  have h1 := c_mask p 2147483647 31 (by decide) (by decide)
  have h2 := (c_irem (p &&& (2147483647 : Int32)) 5 5 rfl).1 (by rw [h1]; omega)
  generalize (p &&& (2147483647 : Int32)) % (5 : Int32) = z at h2
  have e0 : (0 : Int32).toInt = 0 := rfl
  have e1 : (1 : Int32).toInt = 1 := rfl
  have e2 : (2 : Int32).toInt = 2 := rfl
  have e3 : (3 : Int32).toInt = 3 := rfl
  have e4 : (4 : Int32).toInt = 4 := rfl
  simp only [own_in, ← Int32.toInt_inj, e0, e1, e2, e3, e4]
  omega
def Q_rm1 (Z : State) (p1 : Int32) (h0 : Heap) (n0 : Nat) (v : Option Value) (h : Heap) (L : List Loc) : Prop := v = some (.int ((p1 &&& (2147483647 : Int32)) % (5 : Int32))) ∧ Fr n0 L ∧ h = h0
set_option maxRecDepth 65536 in
set_option maxHeartbeats 40000000 in
theorem rm1 (l : Launch) (Z : State) (a0 : Array Value) (hw : ∀ d ∈ tables_1, d.before a0 Z = true) (ws : List Jvm.Cond) (p1 : Int32) (h0 : Heap) (n0 : Nat) (Z0 : n0 ≤ h0.size)  :
    MetFree l (⟨"com/example/strict_conformance/strictconformance/DeviceTypeIsHeldToPinLaw", "index", "(I)I"⟩ : MethodName) (head1 (Jvm.Cond.code (⟨"com/example/strict_conformance/strictconformance/DeviceTypeIsHeldToPinLaw", "index", "(I)I"⟩ : MethodName) method_2_code 1 (some .int) :: ws) ({ frames := 0, cells := 0, slots := 0, locals := 0 } : Room)) (fun a U => a = #[(.int p1)] ∧ Z.Warmed39 U.vm ∧ U.heap = h0) (fun _ _ _ _ _ => True) (fun _ U o U' => ∃ v L, o = .returned v ∧ Q_rm1 Z p1 h0 n0 v U'.heap L ∧ FrameEnd U o U' L ({ frames := 0, cells := 0, slots := 0, locals := 0 } : Room).cells ({ frames := 0, cells := 0, slots := 0, locals := 0 } : Room).slots) := by
  refine MetFree.of_bodySF (plainFor_of_name pn_0) hisR ?_
  intro p e s m args below meth c s₁ Bd hml0 hP hK
  obtain ⟨rfl, hZ, hh⟩ := hP
  have hx := Bd.exec
  have hby := Bd.bytes
  have hml : c.maxLocals = 1 := hml0
  have hown : s.vm.findClass "com/example/strict_conformance/strictconformance/DeviceTypeIsHeldToPinLaw" = some m.cls := findClass_of_methodNamed Bd.named
  have hnm := (name_of_methodNamed Bd.named Bd.method).1
  have X0 : Stand p l e ({ frames := 0, cells := 0, slots := 0, locals := 0 } : Room) s m #[(.int p1)] below meth c s₁ [] 0 0 := Stand.of_body Bd
  have e0 : s₁.heap = h0 := by rw [← hh, Bd.state]; rfl
  have N0 := Fr.nil n0
  have ef0 : entryFrame m #[(.int p1)] 1 = (mkF m 0 #[.val (.int p1)] []) := by first | (simp [entryFrame, mkF, argsToLocals, Value.category]; done) | rfl
  refine own_fwd (B := s₁.setTop (mkF m 0 #[.val (.int p1)] [])) (fun t k => castTop ef0 k) ?_
  refine own_fwd (B := s₁.setTop (mkF m 1 #[.val (.int p1)] [(.int p1)])) (fun t k => XS.iloadN X0.here hx rfl (hb hby d1_0) rfl k) ?_
  refine own_fwd (B := s₁.setTop (mkF m 3 #[.val (.int p1)] [(.int (2147483647 : Int32)), (.int p1)])) (fun t k => X0.ldcInt hx hown (mvT hZ (hw _ (List.mem_of_getElem? (i := 4) rfl))) (g := (mkF m 1 #[.val (.int p1)] [(.int p1)])) rfl (hb hby d1_1) t k) ?_
  refine own_fwd (B := s₁.setTop (mkF m 4 #[.val (.int p1)] [(.int (p1 &&& (2147483647 : Int32)))])) (fun t k => XS.iand X0.here hx rfl (hb hby d1_3) rfl k) ?_
  refine own_fwd (B := s₁.setTop (mkF m 5 #[.val (.int p1)] [(.int (5 : Int32)), (.int (p1 &&& (2147483647 : Int32)))])) (fun t k => XS.iconst X0.here hx rfl (hb hby d1_4) k) ?_
  refine own_fwd (B := s₁.setTop (mkF m 6 #[.val (.int p1)] [(.int ((p1 &&& (2147483647 : Int32)) % (5 : Int32)))])) (fun t k => iremM X0 hx rfl (hb hby d1_5) rfl (by decide) k) ?_
  obtain ⟨fs, hr, hrun, hended, hW, hsame⟩ := X0.leave (v := some (.int ((p1 &&& (2147483647 : Int32)) % (5 : Int32)))) (fun h => by rw [Bd.returns] at h; cases h)
  refine ⟨_, _, retI X0 hx Bd.returns (hb hby d1_6) hr, hrun, hended, _, _, rfl, ?_, ⟨_, rfl⟩, hW, hsame.mono (by decide) (by decide)⟩
  show Q_rm1 Z p1 h0 n0 _ s₁.heap _
  rw [e0]
  exact ⟨rfl, N0, rfl⟩
def Q_rm2 (Z : State) (p1 : Int32) (w0 : Addr) (w1 : Addr) (w2 : Addr) (w3 : Addr) (w4 : Addr) (h0 : Heap) (n0 : Nat) (v : Option Value) (h : Heap) (L : List Loc) : Prop := v = some (.ref (own_pick p1 w0 w1 w2 w3 w4)) ∧ Fr n0 L ∧ h = h0
set_option maxRecDepth 65536 in
set_option maxHeartbeats 40000000 in
theorem rm2 (l : Launch) (Z : State) (a0 : Array Value) (hw : ∀ d ∈ tables_1, d.before a0 Z = true) (ws : List Jvm.Cond) (p1 : Int32) (w0 : Addr) (w1 : Addr) (w2 : Addr) (w3 : Addr) (w4 : Addr) (h0 : Heap) (n0 : Nat) (Z0 : n0 ≤ h0.size) (O0 : Old Z n0 h0) (P0 : Sta Z Z.heap "com/example/strict_conformance/strictconformance/DeviceType" "HANDHELD" "Lcom/example/strict_conformance/strictconformance/DeviceType;" (.ref w0)) (P1 : Sta Z Z.heap "com/example/strict_conformance/strictconformance/DeviceType" "TELEVISION" "Lcom/example/strict_conformance/strictconformance/DeviceType;" (.ref w1)) (P2 : Sta Z Z.heap "com/example/strict_conformance/strictconformance/DeviceType" "WATCH" "Lcom/example/strict_conformance/strictconformance/DeviceType;" (.ref w2)) (P3 : Sta Z Z.heap "com/example/strict_conformance/strictconformance/DeviceType" "AUTOMOTIVE" "Lcom/example/strict_conformance/strictconformance/DeviceType;" (.ref w3)) (P4 : Sta Z Z.heap "com/example/strict_conformance/strictconformance/DeviceType" "TABLET" "Lcom/example/strict_conformance/strictconformance/DeviceType;" (.ref w4)) :
    MetFree l (⟨"com/example/strict_conformance/strictconformance/DeviceTypeIsHeldToPinLaw", "pick", "(I)Lcom/example/strict_conformance/strictconformance/DeviceType;"⟩ : MethodName) (head1 (Jvm.Cond.code (⟨"com/example/strict_conformance/strictconformance/DeviceTypeIsHeldToPinLaw", "pick", "(I)Lcom/example/strict_conformance/strictconformance/DeviceType;"⟩ : MethodName) method_3_code 1 (some (.object "com/example/strict_conformance/strictconformance/DeviceType")) :: ws) ({ frames := 0, cells := 0, slots := 0, locals := 0 } : Room)) (fun a U => a = #[(.int p1)] ∧ Z.Warmed39 U.vm ∧ U.heap = h0) (fun _ _ _ _ _ => True) (fun _ U o U' => ∃ v L, o = .returned v ∧ Q_rm2 Z p1 w0 w1 w2 w3 w4 h0 n0 v U'.heap L ∧ FrameEnd U o U' L ({ frames := 0, cells := 0, slots := 0, locals := 0 } : Room).cells ({ frames := 0, cells := 0, slots := 0, locals := 0 } : Room).slots) := by
  refine MetFree.of_bodySF (plainFor_of_name pn_0) hisR ?_
  intro p e s m args below meth c s₁ Bd hml0 hP hK
  obtain ⟨rfl, hZ, hh⟩ := hP
  have hx := Bd.exec
  have hby := Bd.bytes
  have hml : c.maxLocals = 1 := hml0
  have hown : s.vm.findClass "com/example/strict_conformance/strictconformance/DeviceTypeIsHeldToPinLaw" = some m.cls := findClass_of_methodNamed Bd.named
  have hnm := (name_of_methodNamed Bd.named Bd.method).1
  have X0 : Stand p l e ({ frames := 0, cells := 0, slots := 0, locals := 0 } : Room) s m #[(.int p1)] below meth c s₁ [] 0 0 := Stand.of_body Bd
  have e0 : s₁.heap = h0 := by rw [← hh, Bd.state]; rfl
  have N0 := Fr.nil n0
  have ef0 : entryFrame m #[(.int p1)] 1 = (mkF m 0 #[.val (.int p1)] []) := by first | (simp [entryFrame, mkF, argsToLocals, Value.category]; done) | rfl
  refine own_fwd (B := s₁.setTop (mkF m 0 #[.val (.int p1)] [])) (fun t k => castTop ef0 k) ?_
  refine own_fwd (B := s₁.setTop (mkF m 1 #[.val (.int p1)] [(.int p1)])) (fun t k => XS.iloadN X0.here hx rfl (hb hby d2_0) rfl k) ?_
  by_cases hc1 : p1 = (0 : Int32)
  · skip
    refine own_fwd (B := s₁.setTop (mkF m 4 #[.val (.int p1)] [])) (fun t k => XS.ifNo X0.here hx rfl (hb hby d2_1) rfl ((if0 _ _).trans (teq hc1).2) k) ?_
    obtain ⟨T1, X1, e1, st1⟩ := getS2 X0 hx hZ hown (host := "") (Or.inl (hw _ (List.mem_of_getElem? (i := 8) rfl))) Via.refl e0 (P0.ext O0.2) (g := (mkF m 4 #[.val (.int p1)] [])) rfl (hb hby d2_4)
    refine own_fwd (B := T1.setTop (mkF m 7 #[.val (.int p1)] [(.ref w0)])) (fun t k => st1 t k) ?_
    obtain ⟨fs, hr, hrun, hended, hW, hsame⟩ := X1.leave (v := some (.ref w0)) (fun h => by rw [Bd.returns] at h; cases h)
    refine ⟨_, _, retOut X1 hx Bd.returns rfl (Or.inr (Or.inr (Or.inr (Or.inr ⟨rfl, rfl, rfl⟩)))) (hb hby d2_7) hr, hrun, hended, _, _, rfl, ?_, ⟨_, rfl⟩, hW, hsame.mono (by decide) (by decide)⟩
    show Q_rm2 Z p1 w0 w1 w2 w3 w4 h0 n0 _ T1.heap _
    rw [e1]
    exact ⟨by simp only [own_pick, if_pos hc1], N0, rfl⟩
  refine own_fwd (B := s₁.setTop (mkF m 8 #[.val (.int p1)] [])) (fun t k => XS.ifYes X0.here hx rfl (pc0 := 1) (pc' := 8) rfl (hb hby d2_1) rfl ((if0 _ _).trans (feq hc1).2) (by decide) (by decide) k) ?_
  refine own_fwd (B := s₁.setTop (mkF m 9 #[.val (.int p1)] [(.int p1)])) (fun t k => XS.iloadN X0.here hx rfl (hb hby d2_8) rfl k) ?_
  refine own_fwd (B := s₁.setTop (mkF m 10 #[.val (.int p1)] [(.int (1 : Int32)), (.int p1)])) (fun t k => XS.iconst X0.here hx rfl (hb hby d2_9) k) ?_
  by_cases hc10 : p1 = (1 : Int32)
  · skip
    refine own_fwd (B := s₁.setTop (mkF m 13 #[.val (.int p1)] [])) (fun t k => XS.icmpNo X0.here hx rfl (hb hby d2_10) rfl (teq hc10).2 k) ?_
    obtain ⟨T2, X2, e2, st2⟩ := getS2 X0 hx hZ hown (host := "") (Or.inl (hw _ (List.mem_of_getElem? (i := 22) rfl))) Via.refl e0 (P1.ext O0.2) (g := (mkF m 13 #[.val (.int p1)] [])) rfl (hb hby d2_13)
    refine own_fwd (B := T2.setTop (mkF m 16 #[.val (.int p1)] [(.ref w1)])) (fun t k => st2 t k) ?_
    obtain ⟨fs, hr, hrun, hended, hW, hsame⟩ := X2.leave (v := some (.ref w1)) (fun h => by rw [Bd.returns] at h; cases h)
    refine ⟨_, _, retOut X2 hx Bd.returns rfl (Or.inr (Or.inr (Or.inr (Or.inr ⟨rfl, rfl, rfl⟩)))) (hb hby d2_16) hr, hrun, hended, _, _, rfl, ?_, ⟨_, rfl⟩, hW, hsame.mono (by decide) (by decide)⟩
    show Q_rm2 Z p1 w0 w1 w2 w3 w4 h0 n0 _ T2.heap _
    rw [e2]
    exact ⟨by simp only [own_pick, if_neg hc1, if_pos hc10], N0, rfl⟩
  refine own_fwd (B := s₁.setTop (mkF m 17 #[.val (.int p1)] [])) (fun t k => XS.icmpYes X0.here hx rfl (pc0 := 10) (pc' := 17) rfl (hb hby d2_10) rfl (feq hc10).2 (by decide) (by decide) k) ?_
  refine own_fwd (B := s₁.setTop (mkF m 18 #[.val (.int p1)] [(.int p1)])) (fun t k => XS.iloadN X0.here hx rfl (hb hby d2_17) rfl k) ?_
  refine own_fwd (B := s₁.setTop (mkF m 19 #[.val (.int p1)] [(.int (2 : Int32)), (.int p1)])) (fun t k => XS.iconst X0.here hx rfl (hb hby d2_18) k) ?_
  by_cases hc19 : p1 = (2 : Int32)
  · skip
    refine own_fwd (B := s₁.setTop (mkF m 22 #[.val (.int p1)] [])) (fun t k => XS.icmpNo X0.here hx rfl (hb hby d2_19) rfl (teq hc19).2 k) ?_
    obtain ⟨T3, X3, e3, st3⟩ := getS2 X0 hx hZ hown (host := "") (Or.inl (hw _ (List.mem_of_getElem? (i := 24) rfl))) Via.refl e0 (P2.ext O0.2) (g := (mkF m 22 #[.val (.int p1)] [])) rfl (hb hby d2_22)
    refine own_fwd (B := T3.setTop (mkF m 25 #[.val (.int p1)] [(.ref w2)])) (fun t k => st3 t k) ?_
    obtain ⟨fs, hr, hrun, hended, hW, hsame⟩ := X3.leave (v := some (.ref w2)) (fun h => by rw [Bd.returns] at h; cases h)
    refine ⟨_, _, retOut X3 hx Bd.returns rfl (Or.inr (Or.inr (Or.inr (Or.inr ⟨rfl, rfl, rfl⟩)))) (hb hby d2_25) hr, hrun, hended, _, _, rfl, ?_, ⟨_, rfl⟩, hW, hsame.mono (by decide) (by decide)⟩
    show Q_rm2 Z p1 w0 w1 w2 w3 w4 h0 n0 _ T3.heap _
    rw [e3]
    exact ⟨by simp only [own_pick, if_neg hc1, if_neg hc10, if_pos hc19], N0, rfl⟩
  refine own_fwd (B := s₁.setTop (mkF m 26 #[.val (.int p1)] [])) (fun t k => XS.icmpYes X0.here hx rfl (pc0 := 19) (pc' := 26) rfl (hb hby d2_19) rfl (feq hc19).2 (by decide) (by decide) k) ?_
  refine own_fwd (B := s₁.setTop (mkF m 27 #[.val (.int p1)] [(.int p1)])) (fun t k => XS.iloadN X0.here hx rfl (hb hby d2_26) rfl k) ?_
  refine own_fwd (B := s₁.setTop (mkF m 28 #[.val (.int p1)] [(.int (3 : Int32)), (.int p1)])) (fun t k => XS.iconst X0.here hx rfl (hb hby d2_27) k) ?_
  by_cases hc28 : p1 = (3 : Int32)
  · skip
    refine own_fwd (B := s₁.setTop (mkF m 31 #[.val (.int p1)] [])) (fun t k => XS.icmpNo X0.here hx rfl (hb hby d2_28) rfl (teq hc28).2 k) ?_
    obtain ⟨T4, X4, e4, st4⟩ := getS2 X0 hx hZ hown (host := "") (Or.inl (hw _ (List.mem_of_getElem? (i := 11) rfl))) Via.refl e0 (P3.ext O0.2) (g := (mkF m 31 #[.val (.int p1)] [])) rfl (hb hby d2_31)
    refine own_fwd (B := T4.setTop (mkF m 34 #[.val (.int p1)] [(.ref w3)])) (fun t k => st4 t k) ?_
    obtain ⟨fs, hr, hrun, hended, hW, hsame⟩ := X4.leave (v := some (.ref w3)) (fun h => by rw [Bd.returns] at h; cases h)
    refine ⟨_, _, retOut X4 hx Bd.returns rfl (Or.inr (Or.inr (Or.inr (Or.inr ⟨rfl, rfl, rfl⟩)))) (hb hby d2_34) hr, hrun, hended, _, _, rfl, ?_, ⟨_, rfl⟩, hW, hsame.mono (by decide) (by decide)⟩
    show Q_rm2 Z p1 w0 w1 w2 w3 w4 h0 n0 _ T4.heap _
    rw [e4]
    exact ⟨by simp only [own_pick, if_neg hc1, if_neg hc10, if_neg hc19, if_pos hc28], N0, rfl⟩
  refine own_fwd (B := s₁.setTop (mkF m 35 #[.val (.int p1)] [])) (fun t k => XS.icmpYes X0.here hx rfl (pc0 := 28) (pc' := 35) rfl (hb hby d2_28) rfl (feq hc28).2 (by decide) (by decide) k) ?_
  obtain ⟨T5, X5, e5, st5⟩ := getS2 X0 hx hZ hown (host := "") (Or.inl (hw _ (List.mem_of_getElem? (i := 20) rfl))) Via.refl e0 (P4.ext O0.2) (g := (mkF m 35 #[.val (.int p1)] [])) rfl (hb hby d2_35)
  refine own_fwd (B := T5.setTop (mkF m 38 #[.val (.int p1)] [(.ref w4)])) (fun t k => st5 t k) ?_
  obtain ⟨fs, hr, hrun, hended, hW, hsame⟩ := X5.leave (v := some (.ref w4)) (fun h => by rw [Bd.returns] at h; cases h)
  refine ⟨_, _, retOut X5 hx Bd.returns rfl (Or.inr (Or.inr (Or.inr (Or.inr ⟨rfl, rfl, rfl⟩)))) (hb hby d2_38) hr, hrun, hended, _, _, rfl, ?_, ⟨_, rfl⟩, hW, hsame.mono (by decide) (by decide)⟩
  show Q_rm2 Z p1 w0 w1 w2 w3 w4 h0 n0 _ T5.heap _
  rw [e5]
  exact ⟨by simp only [own_pick, if_neg hc1, if_neg hc10, if_neg hc19, if_neg hc28], N0, rfl⟩
def Q_rm3e (Z : State) (a1 : Addr) (a2 : Addr) (h0 : Heap) (n0 : Nat) (v : Option Value) (h : Heap) (L : List Loc) : Prop := v = some (.int (1 : Int32)) ∧ Fr n0 L ∧ h = h0
set_option maxRecDepth 65536 in
set_option maxHeartbeats 40000000 in
theorem rm3e (l : Launch) (Z : State) (a0 : Array Value) (hw : ∀ d ∈ tables_1, d.before a0 Z = true) (ws : List Jvm.Cond) (a1 : Addr) (a2 : Addr) (h0 : Heap) (n0 : Nat) (Z0 : n0 ≤ h0.size) (hq : a2 = a1) :
    MetFree l (⟨"com/example/strict_conformance/strictconformance/DeviceType", "isHeldTo", "(Lcom/example/strict_conformance/strictconformance/DeviceType;)Z"⟩ : MethodName) (head1 (Jvm.Cond.code (⟨"com/example/strict_conformance/strictconformance/DeviceType", "isHeldTo", "(Lcom/example/strict_conformance/strictconformance/DeviceType;)Z"⟩ : MethodName) prog_20_method_7_code 2 (some .boolean) :: ws) ({ frames := 0, cells := 0, slots := 0, locals := 0 } : Room)) (fun a U => a = #[(.ref a1), (.ref a2)] ∧ Z.Warmed39 U.vm ∧ U.heap = h0) (fun _ _ _ _ _ => True) (fun _ U o U' => ∃ v L, o = .returned v ∧ Q_rm3e Z a1 a2 h0 n0 v U'.heap L ∧ FrameEnd U o U' L ({ frames := 0, cells := 0, slots := 0, locals := 0 } : Room).cells ({ frames := 0, cells := 0, slots := 0, locals := 0 } : Room).slots) := by
  refine MetFree.of_bodySF (plainFor_of_name pn_1) hisR ?_
  intro p e s m args below meth c s₁ Bd hml0 hP hK
  obtain ⟨rfl, hZ, hh⟩ := hP
  have hx := Bd.exec
  have hby := Bd.bytes
  have hml : c.maxLocals = 2 := hml0
  have hown : s.vm.findClass "com/example/strict_conformance/strictconformance/DeviceType" = some m.cls := findClass_of_methodNamed Bd.named
  have hnm := (name_of_methodNamed Bd.named Bd.method).1
  have X0 : Stand p l e ({ frames := 0, cells := 0, slots := 0, locals := 0 } : Room) s m #[(.ref a1), (.ref a2)] below meth c s₁ [] 0 0 := Stand.of_body Bd
  have e0 : s₁.heap = h0 := by rw [← hh, Bd.state]; rfl
  have N0 := Fr.nil n0
  have ef0 : entryFrame m #[(.ref a1), (.ref a2)] 2 = (mkF m 0 #[.val (.ref a1), .val (.ref a2)] []) := by first | (simp [entryFrame, mkF, argsToLocals, Value.category]; done) | rfl
  refine own_fwd (B := s₁.setTop (mkF m 0 #[.val (.ref a1), .val (.ref a2)] [])) (fun t k => castTop ef0 k) ?_
  refine own_fwd (B := s₁.setTop (mkF m 1 #[.val (.ref a1), .val (.ref a2)] [(.ref a2)])) (fun t k => XS.aloadN X0.here hx rfl (hb hby d3_0) rfl rfl k) ?_
  refine own_fwd (B := s₁.setTop (mkF m 2 #[.val (.ref a1), .val (.ref a2)] [(.ref a1), (.ref a2)])) (fun t k => XS.aloadN X0.here hx rfl (hb hby d3_1) rfl rfl k) ?_
  refine own_fwd (B := s₁.setTop (mkF m 13 #[.val (.ref a1), .val (.ref a2)] [])) (fun t k => Jvm.RoadKit.acmp (g := (mkF m 2 #[.val (.ref a1), .val (.ref a2)] [(.ref a1), (.ref a2)])) X0 hx rfl rfl rfl (pc0 := 2) (pc' := 13) (same := true) rfl (hb hby d3_2) rfl (decide_eq_true (congrArg Value.ref (hq : a2 = a1))) (by decide) (by decide) k) ?_
  refine own_fwd (B := s₁.setTop (mkF m 14 #[.val (.ref a1), .val (.ref a2)] [(.int (1 : Int32))])) (fun t k => XS.iconst X0.here hx rfl (hb hby d3_13) k) ?_
  refine own_fwd (B := s₁.setTop (mkF m 18 #[.val (.ref a1), .val (.ref a2)] [(.int (1 : Int32))])) (fun t k => XS.goto X0.here hx rfl (pc0 := 14) (pc' := 18) rfl (hb hby d3_14) (by decide) (by decide) k) ?_
  obtain ⟨fs, hr, hrun, hended, hW, hsame⟩ := X0.leave (v := some (.int (1 : Int32))) (fun h => by rw [Bd.returns] at h; cases h)
  refine ⟨_, _, retN X0 hx (t := .boolean) Bd.returns (by simp) (hb hby d3_18) hr, hrun, hended, _, _, rfl, ?_, ⟨_, rfl⟩, hW, hsame.mono (by decide) (by decide)⟩
  show Q_rm3e Z a1 a2 h0 n0 _ s₁.heap _
  rw [e0]
  exact ⟨rfl, N0, rfl⟩
def Q_rm3n (Z : State) (a1 : Addr) (a2 : Addr) (h0 : Heap) (n0 : Nat) (v : Option Value) (h : Heap) (L : List Loc) : Prop := v = some (.int (0 : Int32)) ∧ Fr n0 L ∧ h = h0
set_option maxRecDepth 65536 in
set_option maxHeartbeats 40000000 in
theorem rm3n (l : Launch) (Z : State) (a0 : Array Value) (hw : ∀ d ∈ tables_1, d.before a0 Z = true) (ws : List Jvm.Cond) (a1 : Addr) (a2 : Addr) (h0 : Heap) (n0 : Nat) (Z0 : n0 ≤ h0.size) (P0 : Fld Z h0 a1 "com/example/strict_conformance/strictconformance/DeviceType" "alsoHeldTo" "Lcom/example/strict_conformance/strictconformance/DeviceType;" .null) (hq : ¬ a2 = a1) :
    MetFree l (⟨"com/example/strict_conformance/strictconformance/DeviceType", "isHeldTo", "(Lcom/example/strict_conformance/strictconformance/DeviceType;)Z"⟩ : MethodName) (head1 (Jvm.Cond.code (⟨"com/example/strict_conformance/strictconformance/DeviceType", "isHeldTo", "(Lcom/example/strict_conformance/strictconformance/DeviceType;)Z"⟩ : MethodName) prog_20_method_7_code 2 (some .boolean) :: ws) ({ frames := 0, cells := 0, slots := 0, locals := 0 } : Room)) (fun a U => a = #[(.ref a1), (.ref a2)] ∧ Z.Warmed39 U.vm ∧ U.heap = h0) (fun _ _ _ _ _ => True) (fun _ U o U' => ∃ v L, o = .returned v ∧ Q_rm3n Z a1 a2 h0 n0 v U'.heap L ∧ FrameEnd U o U' L ({ frames := 0, cells := 0, slots := 0, locals := 0 } : Room).cells ({ frames := 0, cells := 0, slots := 0, locals := 0 } : Room).slots) := by
  refine MetFree.of_bodySF (plainFor_of_name pn_1) hisR ?_
  intro p e s m args below meth c s₁ Bd hml0 hP hK
  obtain ⟨rfl, hZ, hh⟩ := hP
  have hx := Bd.exec
  have hby := Bd.bytes
  have hml : c.maxLocals = 2 := hml0
  have hown : s.vm.findClass "com/example/strict_conformance/strictconformance/DeviceType" = some m.cls := findClass_of_methodNamed Bd.named
  have hnm := (name_of_methodNamed Bd.named Bd.method).1
  have X0 : Stand p l e ({ frames := 0, cells := 0, slots := 0, locals := 0 } : Room) s m #[(.ref a1), (.ref a2)] below meth c s₁ [] 0 0 := Stand.of_body Bd
  have e0 : s₁.heap = h0 := by rw [← hh, Bd.state]; rfl
  have N0 := Fr.nil n0
  have ef0 : entryFrame m #[(.ref a1), (.ref a2)] 2 = (mkF m 0 #[.val (.ref a1), .val (.ref a2)] []) := by first | (simp [entryFrame, mkF, argsToLocals, Value.category]; done) | rfl
  refine own_fwd (B := s₁.setTop (mkF m 0 #[.val (.ref a1), .val (.ref a2)] [])) (fun t k => castTop ef0 k) ?_
  refine own_fwd (B := s₁.setTop (mkF m 1 #[.val (.ref a1), .val (.ref a2)] [(.ref a2)])) (fun t k => XS.aloadN X0.here hx rfl (hb hby d3_0) rfl rfl k) ?_
  refine own_fwd (B := s₁.setTop (mkF m 2 #[.val (.ref a1), .val (.ref a2)] [(.ref a1), (.ref a2)])) (fun t k => XS.aloadN X0.here hx rfl (hb hby d3_1) rfl rfl k) ?_
  refine own_fwd (B := s₁.setTop (mkF m 5 #[.val (.ref a1), .val (.ref a2)] [])) (fun t k => Jvm.RoadKit.acmp (g := (mkF m 2 #[.val (.ref a1), .val (.ref a2)] [(.ref a1), (.ref a2)])) X0 hx rfl rfl rfl (pc0 := 2) (pc' := 5) (same := false) rfl (hb hby d3_2) rfl (decide_eq_false fun q => (hq : ¬ (a2 = a1)) (Value.ref.inj q)) (by decide) (by decide) k) ?_
  refine own_fwd (B := s₁.setTop (mkF m 6 #[.val (.ref a1), .val (.ref a2)] [(.ref a2)])) (fun t k => XS.aloadN X0.here hx rfl (hb hby d3_5) rfl rfl k) ?_
  refine own_fwd (B := s₁.setTop (mkF m 7 #[.val (.ref a1), .val (.ref a2)] [(.ref a1), (.ref a2)])) (fun t k => XS.aloadN X0.here hx rfl (hb hby d3_6) rfl rfl k) ?_
  obtain ⟨T1, X1, e1, st1⟩ := getF X0 hx hZ hown (host := "") (Or.inl (hw _ (List.mem_of_getElem? (i := 18) rfl))) Via.refl e0 P0 (g := (mkF m 7 #[.val (.ref a1), .val (.ref a2)] [(.ref a1), (.ref a2)])) rfl rfl (hb hby d3_7)
  refine own_fwd (B := T1.setTop (mkF m 10 #[.val (.ref a1), .val (.ref a2)] [.null, (.ref a2)])) (fun t k => st1 t k) ?_
  refine own_fwd (B := T1.setTop (mkF m 17 #[.val (.ref a1), .val (.ref a2)] [])) (fun t k => Jvm.RoadKit.acmp (g := (mkF m 10 #[.val (.ref a1), .val (.ref a2)] [.null, (.ref a2)])) X1 hx rfl rfl rfl (pc0 := 10) (pc' := 17) (same := false) rfl (hb hby d3_10) rfl (decide_eq_false nofun) (by decide) (by decide) k) ?_
  refine own_fwd (B := T1.setTop (mkF m 18 #[.val (.ref a1), .val (.ref a2)] [(.int (0 : Int32))])) (fun t k => XS.iconst X1.here hx rfl (hb hby d3_17) k) ?_
  obtain ⟨fs, hr, hrun, hended, hW, hsame⟩ := X1.leave (v := some (.int (0 : Int32))) (fun h => by rw [Bd.returns] at h; cases h)
  refine ⟨_, _, retN X1 hx (t := .boolean) Bd.returns (by simp) (hb hby d3_18) hr, hrun, hended, _, _, rfl, ?_, ⟨_, rfl⟩, hW, hsame.mono (by decide) (by decide)⟩
  show Q_rm3n Z a1 a2 h0 n0 _ T1.heap _
  rw [e1]
  exact ⟨rfl, N0, rfl⟩
def Q_rm3f (Z : State) (a1 : Addr) (a2 : Addr) (w : Addr) (h0 : Heap) (n0 : Nat) (v : Option Value) (h : Heap) (L : List Loc) : Prop := v = some (.int (0 : Int32)) ∧ Fr n0 L ∧ h = h0
set_option maxRecDepth 65536 in
set_option maxHeartbeats 40000000 in
theorem rm3f (l : Launch) (Z : State) (a0 : Array Value) (hw : ∀ d ∈ tables_1, d.before a0 Z = true) (ws : List Jvm.Cond) (a1 : Addr) (a2 : Addr) (w : Addr) (h0 : Heap) (n0 : Nat) (Z0 : n0 ≤ h0.size) (P0 : Fld Z h0 a1 "com/example/strict_conformance/strictconformance/DeviceType" "alsoHeldTo" "Lcom/example/strict_conformance/strictconformance/DeviceType;" (.ref w)) (hq : ¬ a2 = a1) (hq2 : ¬ a2 = w) :
    MetFree l (⟨"com/example/strict_conformance/strictconformance/DeviceType", "isHeldTo", "(Lcom/example/strict_conformance/strictconformance/DeviceType;)Z"⟩ : MethodName) (head1 (Jvm.Cond.code (⟨"com/example/strict_conformance/strictconformance/DeviceType", "isHeldTo", "(Lcom/example/strict_conformance/strictconformance/DeviceType;)Z"⟩ : MethodName) prog_20_method_7_code 2 (some .boolean) :: ws) ({ frames := 0, cells := 0, slots := 0, locals := 0 } : Room)) (fun a U => a = #[(.ref a1), (.ref a2)] ∧ Z.Warmed39 U.vm ∧ U.heap = h0) (fun _ _ _ _ _ => True) (fun _ U o U' => ∃ v L, o = .returned v ∧ Q_rm3f Z a1 a2 w h0 n0 v U'.heap L ∧ FrameEnd U o U' L ({ frames := 0, cells := 0, slots := 0, locals := 0 } : Room).cells ({ frames := 0, cells := 0, slots := 0, locals := 0 } : Room).slots) := by
  refine MetFree.of_bodySF (plainFor_of_name pn_1) hisR ?_
  intro p e s m args below meth c s₁ Bd hml0 hP hK
  obtain ⟨rfl, hZ, hh⟩ := hP
  have hx := Bd.exec
  have hby := Bd.bytes
  have hml : c.maxLocals = 2 := hml0
  have hown : s.vm.findClass "com/example/strict_conformance/strictconformance/DeviceType" = some m.cls := findClass_of_methodNamed Bd.named
  have hnm := (name_of_methodNamed Bd.named Bd.method).1
  have X0 : Stand p l e ({ frames := 0, cells := 0, slots := 0, locals := 0 } : Room) s m #[(.ref a1), (.ref a2)] below meth c s₁ [] 0 0 := Stand.of_body Bd
  have e0 : s₁.heap = h0 := by rw [← hh, Bd.state]; rfl
  have N0 := Fr.nil n0
  have ef0 : entryFrame m #[(.ref a1), (.ref a2)] 2 = (mkF m 0 #[.val (.ref a1), .val (.ref a2)] []) := by first | (simp [entryFrame, mkF, argsToLocals, Value.category]; done) | rfl
  refine own_fwd (B := s₁.setTop (mkF m 0 #[.val (.ref a1), .val (.ref a2)] [])) (fun t k => castTop ef0 k) ?_
  refine own_fwd (B := s₁.setTop (mkF m 1 #[.val (.ref a1), .val (.ref a2)] [(.ref a2)])) (fun t k => XS.aloadN X0.here hx rfl (hb hby d3_0) rfl rfl k) ?_
  refine own_fwd (B := s₁.setTop (mkF m 2 #[.val (.ref a1), .val (.ref a2)] [(.ref a1), (.ref a2)])) (fun t k => XS.aloadN X0.here hx rfl (hb hby d3_1) rfl rfl k) ?_
  refine own_fwd (B := s₁.setTop (mkF m 5 #[.val (.ref a1), .val (.ref a2)] [])) (fun t k => Jvm.RoadKit.acmp (g := (mkF m 2 #[.val (.ref a1), .val (.ref a2)] [(.ref a1), (.ref a2)])) X0 hx rfl rfl rfl (pc0 := 2) (pc' := 5) (same := false) rfl (hb hby d3_2) rfl (decide_eq_false fun q => (hq : ¬ (a2 = a1)) (Value.ref.inj q)) (by decide) (by decide) k) ?_
  refine own_fwd (B := s₁.setTop (mkF m 6 #[.val (.ref a1), .val (.ref a2)] [(.ref a2)])) (fun t k => XS.aloadN X0.here hx rfl (hb hby d3_5) rfl rfl k) ?_
  refine own_fwd (B := s₁.setTop (mkF m 7 #[.val (.ref a1), .val (.ref a2)] [(.ref a1), (.ref a2)])) (fun t k => XS.aloadN X0.here hx rfl (hb hby d3_6) rfl rfl k) ?_
  obtain ⟨T1, X1, e1, st1⟩ := getF X0 hx hZ hown (host := "") (Or.inl (hw _ (List.mem_of_getElem? (i := 18) rfl))) Via.refl e0 P0 (g := (mkF m 7 #[.val (.ref a1), .val (.ref a2)] [(.ref a1), (.ref a2)])) rfl rfl (hb hby d3_7)
  refine own_fwd (B := T1.setTop (mkF m 10 #[.val (.ref a1), .val (.ref a2)] [(.ref w), (.ref a2)])) (fun t k => st1 t k) ?_
  refine own_fwd (B := T1.setTop (mkF m 17 #[.val (.ref a1), .val (.ref a2)] [])) (fun t k => Jvm.RoadKit.acmp (g := (mkF m 10 #[.val (.ref a1), .val (.ref a2)] [(.ref w), (.ref a2)])) X1 hx rfl rfl rfl (pc0 := 10) (pc' := 17) (same := false) rfl (hb hby d3_10) rfl (decide_eq_false fun q => (hq2 : ¬ (a2 = w)) (Value.ref.inj q)) (by decide) (by decide) k) ?_
  refine own_fwd (B := T1.setTop (mkF m 18 #[.val (.ref a1), .val (.ref a2)] [(.int (0 : Int32))])) (fun t k => XS.iconst X1.here hx rfl (hb hby d3_17) k) ?_
  obtain ⟨fs, hr, hrun, hended, hW, hsame⟩ := X1.leave (v := some (.int (0 : Int32))) (fun h => by rw [Bd.returns] at h; cases h)
  refine ⟨_, _, retN X1 hx (t := .boolean) Bd.returns (by simp) (hb hby d3_18) hr, hrun, hended, _, _, rfl, ?_, ⟨_, rfl⟩, hW, hsame.mono (by decide) (by decide)⟩
  show Q_rm3f Z a1 a2 w h0 n0 _ T1.heap _
  rw [e1]
  exact ⟨rfl, N0, rfl⟩
def Q_rm3t (Z : State) (a1 : Addr) (a2 : Addr) (w : Addr) (h0 : Heap) (n0 : Nat) (v : Option Value) (h : Heap) (L : List Loc) : Prop := v = some (.int (1 : Int32)) ∧ Fr n0 L ∧ h = h0
set_option maxRecDepth 65536 in
set_option maxHeartbeats 40000000 in
theorem rm3t (l : Launch) (Z : State) (a0 : Array Value) (hw : ∀ d ∈ tables_1, d.before a0 Z = true) (ws : List Jvm.Cond) (a1 : Addr) (a2 : Addr) (w : Addr) (h0 : Heap) (n0 : Nat) (Z0 : n0 ≤ h0.size) (P0 : Fld Z h0 a1 "com/example/strict_conformance/strictconformance/DeviceType" "alsoHeldTo" "Lcom/example/strict_conformance/strictconformance/DeviceType;" (.ref w)) (hq : ¬ a2 = a1) (hq2 : a2 = w) :
    MetFree l (⟨"com/example/strict_conformance/strictconformance/DeviceType", "isHeldTo", "(Lcom/example/strict_conformance/strictconformance/DeviceType;)Z"⟩ : MethodName) (head1 (Jvm.Cond.code (⟨"com/example/strict_conformance/strictconformance/DeviceType", "isHeldTo", "(Lcom/example/strict_conformance/strictconformance/DeviceType;)Z"⟩ : MethodName) prog_20_method_7_code 2 (some .boolean) :: ws) ({ frames := 0, cells := 0, slots := 0, locals := 0 } : Room)) (fun a U => a = #[(.ref a1), (.ref a2)] ∧ Z.Warmed39 U.vm ∧ U.heap = h0) (fun _ _ _ _ _ => True) (fun _ U o U' => ∃ v L, o = .returned v ∧ Q_rm3t Z a1 a2 w h0 n0 v U'.heap L ∧ FrameEnd U o U' L ({ frames := 0, cells := 0, slots := 0, locals := 0 } : Room).cells ({ frames := 0, cells := 0, slots := 0, locals := 0 } : Room).slots) := by
  refine MetFree.of_bodySF (plainFor_of_name pn_1) hisR ?_
  intro p e s m args below meth c s₁ Bd hml0 hP hK
  obtain ⟨rfl, hZ, hh⟩ := hP
  have hx := Bd.exec
  have hby := Bd.bytes
  have hml : c.maxLocals = 2 := hml0
  have hown : s.vm.findClass "com/example/strict_conformance/strictconformance/DeviceType" = some m.cls := findClass_of_methodNamed Bd.named
  have hnm := (name_of_methodNamed Bd.named Bd.method).1
  have X0 : Stand p l e ({ frames := 0, cells := 0, slots := 0, locals := 0 } : Room) s m #[(.ref a1), (.ref a2)] below meth c s₁ [] 0 0 := Stand.of_body Bd
  have e0 : s₁.heap = h0 := by rw [← hh, Bd.state]; rfl
  have N0 := Fr.nil n0
  have ef0 : entryFrame m #[(.ref a1), (.ref a2)] 2 = (mkF m 0 #[.val (.ref a1), .val (.ref a2)] []) := by first | (simp [entryFrame, mkF, argsToLocals, Value.category]; done) | rfl
  refine own_fwd (B := s₁.setTop (mkF m 0 #[.val (.ref a1), .val (.ref a2)] [])) (fun t k => castTop ef0 k) ?_
  refine own_fwd (B := s₁.setTop (mkF m 1 #[.val (.ref a1), .val (.ref a2)] [(.ref a2)])) (fun t k => XS.aloadN X0.here hx rfl (hb hby d3_0) rfl rfl k) ?_
  refine own_fwd (B := s₁.setTop (mkF m 2 #[.val (.ref a1), .val (.ref a2)] [(.ref a1), (.ref a2)])) (fun t k => XS.aloadN X0.here hx rfl (hb hby d3_1) rfl rfl k) ?_
  refine own_fwd (B := s₁.setTop (mkF m 5 #[.val (.ref a1), .val (.ref a2)] [])) (fun t k => Jvm.RoadKit.acmp (g := (mkF m 2 #[.val (.ref a1), .val (.ref a2)] [(.ref a1), (.ref a2)])) X0 hx rfl rfl rfl (pc0 := 2) (pc' := 5) (same := false) rfl (hb hby d3_2) rfl (decide_eq_false fun q => (hq : ¬ (a2 = a1)) (Value.ref.inj q)) (by decide) (by decide) k) ?_
  refine own_fwd (B := s₁.setTop (mkF m 6 #[.val (.ref a1), .val (.ref a2)] [(.ref a2)])) (fun t k => XS.aloadN X0.here hx rfl (hb hby d3_5) rfl rfl k) ?_
  refine own_fwd (B := s₁.setTop (mkF m 7 #[.val (.ref a1), .val (.ref a2)] [(.ref a1), (.ref a2)])) (fun t k => XS.aloadN X0.here hx rfl (hb hby d3_6) rfl rfl k) ?_
  obtain ⟨T1, X1, e1, st1⟩ := getF X0 hx hZ hown (host := "") (Or.inl (hw _ (List.mem_of_getElem? (i := 18) rfl))) Via.refl e0 P0 (g := (mkF m 7 #[.val (.ref a1), .val (.ref a2)] [(.ref a1), (.ref a2)])) rfl rfl (hb hby d3_7)
  refine own_fwd (B := T1.setTop (mkF m 10 #[.val (.ref a1), .val (.ref a2)] [(.ref w), (.ref a2)])) (fun t k => st1 t k) ?_
  refine own_fwd (B := T1.setTop (mkF m 13 #[.val (.ref a1), .val (.ref a2)] [])) (fun t k => Jvm.RoadKit.acmp (g := (mkF m 10 #[.val (.ref a1), .val (.ref a2)] [(.ref w), (.ref a2)])) X1 hx rfl rfl rfl (pc0 := 10) (pc' := 13) (same := true) rfl (hb hby d3_10) rfl (decide_eq_true (congrArg Value.ref (hq2 : a2 = w))) (by decide) (by decide) k) ?_
  refine own_fwd (B := T1.setTop (mkF m 14 #[.val (.ref a1), .val (.ref a2)] [(.int (1 : Int32))])) (fun t k => XS.iconst X1.here hx rfl (hb hby d3_13) k) ?_
  refine own_fwd (B := T1.setTop (mkF m 18 #[.val (.ref a1), .val (.ref a2)] [(.int (1 : Int32))])) (fun t k => XS.goto X1.here hx rfl (pc0 := 14) (pc' := 18) rfl (hb hby d3_14) (by decide) (by decide) k) ?_
  obtain ⟨fs, hr, hrun, hended, hW, hsame⟩ := X1.leave (v := some (.int (1 : Int32))) (fun h => by rw [Bd.returns] at h; cases h)
  refine ⟨_, _, retN X1 hx (t := .boolean) Bd.returns (by simp) (hb hby d3_18) hr, hrun, hended, _, _, rfl, ?_, ⟨_, rfl⟩, hW, hsame.mono (by decide) (by decide)⟩
  show Q_rm3t Z a1 a2 w h0 n0 _ T1.heap _
  rw [e1]
  exact ⟨rfl, N0, rfl⟩
def Q_rm0 (Z : State) (p1 : Int32) (p2 : Int32) (w0 : Addr) (w1 : Addr) (w2 : Addr) (w3 : Addr) (w4 : Addr) (h0 : Heap) (n0 : Nat) (v : Option Value) (h : Heap) (L : List Loc) : Prop := v = some (.int (1 : Int32)) ∧ Fr n0 L
set_option maxRecDepth 65536 in
set_option maxHeartbeats 40000000 in
theorem rm0 (l : Launch) (Z : State) (a0 : Array Value) (hw : ∀ d ∈ tables_1, d.before a0 Z = true) (ws : List Jvm.Cond) (p1 : Int32) (p2 : Int32) (w0 : Addr) (w1 : Addr) (w2 : Addr) (w3 : Addr) (w4 : Addr) (h0 : Heap) (n0 : Nat) (Z0 : n0 ≤ h0.size) (O0 : Old Z n0 h0) (P0 : Sta Z Z.heap "com/example/strict_conformance/strictconformance/DeviceType" "HANDHELD" "Lcom/example/strict_conformance/strictconformance/DeviceType;" (.ref w0)) (P1 : Sta Z Z.heap "com/example/strict_conformance/strictconformance/DeviceType" "TELEVISION" "Lcom/example/strict_conformance/strictconformance/DeviceType;" (.ref w1)) (P2 : Sta Z Z.heap "com/example/strict_conformance/strictconformance/DeviceType" "WATCH" "Lcom/example/strict_conformance/strictconformance/DeviceType;" (.ref w2)) (P3 : Sta Z Z.heap "com/example/strict_conformance/strictconformance/DeviceType" "AUTOMOTIVE" "Lcom/example/strict_conformance/strictconformance/DeviceType;" (.ref w3)) (P4 : Sta Z Z.heap "com/example/strict_conformance/strictconformance/DeviceType" "TABLET" "Lcom/example/strict_conformance/strictconformance/DeviceType;" (.ref w4)) (hE : ∀ i : Int32, Exa Z Z.heap (own_pick i w0 w1 w2 w3 w4) "com/example/strict_conformance/strictconformance/DeviceType") (hO : ∀ i : Int32, own_in i → Fld Z Z.heap (own_pick i w0 w1 w2 w3 w4) "java/lang/Enum" "ordinal" "I" (.int i)) (hN : ∀ i : Int32, own_in i → ¬ i = 4 → Fld Z Z.heap (own_pick i w0 w1 w2 w3 w4) "com/example/strict_conformance/strictconformance/DeviceType" "alsoHeldTo" "Lcom/example/strict_conformance/strictconformance/DeviceType;" .null) (hT : ∀ i : Int32, i = 4 → Fld Z Z.heap (own_pick i w0 w1 w2 w3 w4) "com/example/strict_conformance/strictconformance/DeviceType" "alsoHeldTo" "Lcom/example/strict_conformance/strictconformance/DeviceType;" (.ref w0)) :
    MetFree l x (head1 (Jvm.Cond.code x code maxLocals ret :: ws) room_1) (fun a U => a = #[(.int p1), (.int p2)] ∧ Z.Warmed39 U.vm ∧ U.heap = h0) (fun _ _ _ _ _ => True) (fun _ U o U' => ∃ v L, o = .returned v ∧ Q_rm0 Z p1 p2 w0 w1 w2 w3 w4 h0 n0 v U'.heap L ∧ FrameEnd U o U' L room_1.cells room_1.slots) := by
  refine MetFree.of_bodySF (plainFor_of_name pn_0) hisR ?_
  intro p e s m args below meth c s₁ Bd hml0 hP hK
  obtain ⟨rfl, hZ, hh⟩ := hP
  have hx := Bd.exec
  have hby := Bd.bytes
  have hml : c.maxLocals = 7 := hml0
  have hown : s.vm.findClass "com/example/strict_conformance/strictconformance/DeviceTypeIsHeldToPinLaw" = some m.cls := findClass_of_methodNamed Bd.named
  have hnm := (name_of_methodNamed Bd.named Bd.method).1
  have X0 : Stand p l e room_1 s m #[(.int p1), (.int p2)] below meth c s₁ [] 0 0 := Stand.of_body Bd
  have e0 : s₁.heap = h0 := by rw [← hh, Bd.state]; rfl
  have N0 := Fr.nil n0
  have ef0 : entryFrame m #[(.int p1), (.int p2)] maxLocals = (mkF m 0 #[.val (.int p1), .val (.int p2), .unset, .unset, .unset, .unset, .unset] []) := by first | (simp [entryFrame, mkF, argsToLocals, Value.category, maxLocals]; done) | rfl
  refine own_fwd (B := s₁.setTop (mkF m 0 #[.val (.int p1), .val (.int p2), .unset, .unset, .unset, .unset, .unset] [])) (fun t k => castTop ef0 k) ?_
  refine own_fwd (B := s₁.setTop (mkF m 1 #[.val (.int p1), .val (.int p2), .unset, .unset, .unset, .unset, .unset] [(.int p1)])) (fun t k => XS.iloadN X0.here hx rfl (hb hby at_0) rfl k) ?_
  obtain ⟨_, _, ⟨T1, L1, k1, n1⟩, -, X1, ⟨Lc1, hQ1, l1, y1, z1⟩, st1⟩ := Jvm.LawKit.callS X0 hx (y := (⟨"com/example/strict_conformance/strictconformance/DeviceTypeIsHeldToPinLaw", "index", "(I)I"⟩ : MethodName)) hown (mvT hZ (hw _ (List.mem_of_getElem? (i := 0) rfl))) (mvT hZ (hw _ (List.mem_of_getElem? (i := 1) rfl))) (mvT hZ (hw _ (List.mem_of_getElem? (i := 2) rfl))) (mvT hZ (hw _ (List.mem_of_getElem? (i := 3) rfl))) (by decide) (backOf (W := 0) (rm1 l Z a0 hw [] p1 h0 n0 Z0 ) hZ (hw _ (List.mem_of_getElem? (i := 3) rfl)) (hw _ (List.mem_of_getElem? (i := 2) rfl)) (by decide) (by decide)) (g := (mkF m 1 #[.val (.int p1), .val (.int p2), .unset, .unset, .unset, .unset, .unset] [(.int p1)])) rfl (by rw [hml]; rfl) (argsL := [(.int p1)]) (rest := []) (lenOf pd_0 rfl) rfl (by show 2 * 0 + _ ≤ _; exact Nat.le_of_eq rfl) (hb hby at_1) (fun _ _ => ⟨rfl, e0, (by decide : 0 + 0 ≤ _), (by decide : 0 + 0 ≤ _)⟩)
  dsimp only [Pt.U, Pt.locs, Pt.cells, Pt.slots] at X1 l1 y1 z1 st1 hQ1
  subst l1 y1 z1
  obtain ⟨rfl, N1q, e1⟩ := hQ1
  have N1 := Fr.app N0 N1q
  refine own_fwd (B := T1.setTop (mkF m 4 #[.val (.int p1), .val (.int p2), .unset, .unset, .unset, .unset, .unset] [(.int ((p1 &&& (2147483647 : Int32)) % (5 : Int32)))])) (fun t k => st1 t k) ?_
  refine own_fwd (B := T1.setTop (mkF m 5 #[.val (.int p1), .val (.int p2), .val (.int ((p1 &&& (2147483647 : Int32)) % (5 : Int32))), .unset, .unset, .unset, .unset] [])) (fun t k => XS.istoreN X1.here hx rfl (hb hby at_4) rfl (l' := #[.val (.int p1), .val (.int p2), .val (.int ((p1 &&& (2147483647 : Int32)) % (5 : Int32))), .unset, .unset, .unset, .unset]) rfl k) ?_
  refine own_fwd (B := T1.setTop (mkF m 6 #[.val (.int p1), .val (.int p2), .val (.int ((p1 &&& (2147483647 : Int32)) % (5 : Int32))), .unset, .unset, .unset, .unset] [(.int p2)])) (fun t k => XS.iloadN X1.here hx rfl (hb hby at_5) rfl k) ?_
  obtain ⟨_, _, ⟨T2, L2, k2, n2⟩, -, X2, ⟨Lc2, hQ2, l2, y2, z2⟩, st2⟩ := Jvm.LawKit.callS X1 hx (y := (⟨"com/example/strict_conformance/strictconformance/DeviceTypeIsHeldToPinLaw", "index", "(I)I"⟩ : MethodName)) hown (mvT hZ (hw _ (List.mem_of_getElem? (i := 0) rfl))) (mvT hZ (hw _ (List.mem_of_getElem? (i := 1) rfl))) (mvT hZ (hw _ (List.mem_of_getElem? (i := 2) rfl))) (mvT hZ (hw _ (List.mem_of_getElem? (i := 3) rfl))) (by decide) (backOf (W := 0) (rm1 l Z a0 hw [] p2 h0 n0 Z0 ) hZ (hw _ (List.mem_of_getElem? (i := 3) rfl)) (hw _ (List.mem_of_getElem? (i := 2) rfl)) (by decide) (by decide)) (g := (mkF m 6 #[.val (.int p1), .val (.int p2), .val (.int ((p1 &&& (2147483647 : Int32)) % (5 : Int32))), .unset, .unset, .unset, .unset] [(.int p2)])) rfl (by rw [hml]; rfl) (argsL := [(.int p2)]) (rest := []) (lenOf pd_0 rfl) rfl (by show 2 * 0 + _ ≤ _; exact Nat.le_of_eq rfl) (hb hby at_6) (fun _ _ => ⟨rfl, e1, (by decide : 0 + 0 ≤ _), (by decide : 0 + 0 ≤ _)⟩)
  dsimp only [Pt.U, Pt.locs, Pt.cells, Pt.slots] at X2 l2 y2 z2 st2 hQ2
  subst l2 y2 z2
  obtain ⟨rfl, N2q, e2⟩ := hQ2
  have N2 := Fr.app N1 N2q
  refine own_fwd (B := T2.setTop (mkF m 9 #[.val (.int p1), .val (.int p2), .val (.int ((p1 &&& (2147483647 : Int32)) % (5 : Int32))), .unset, .unset, .unset, .unset] [(.int ((p2 &&& (2147483647 : Int32)) % (5 : Int32)))])) (fun t k => st2 t k) ?_
  refine own_fwd (B := T2.setTop (mkF m 10 #[.val (.int p1), .val (.int p2), .val (.int ((p1 &&& (2147483647 : Int32)) % (5 : Int32))), .val (.int ((p2 &&& (2147483647 : Int32)) % (5 : Int32))), .unset, .unset, .unset] [])) (fun t k => XS.istoreN X2.here hx rfl (hb hby at_9) rfl (l' := #[.val (.int p1), .val (.int p2), .val (.int ((p1 &&& (2147483647 : Int32)) % (5 : Int32))), .val (.int ((p2 &&& (2147483647 : Int32)) % (5 : Int32))), .unset, .unset, .unset]) rfl k) ?_
  refine own_fwd (B := T2.setTop (mkF m 11 #[.val (.int p1), .val (.int p2), .val (.int ((p1 &&& (2147483647 : Int32)) % (5 : Int32))), .val (.int ((p2 &&& (2147483647 : Int32)) % (5 : Int32))), .unset, .unset, .unset] [(.int ((p1 &&& (2147483647 : Int32)) % (5 : Int32)))])) (fun t k => XS.iloadN X2.here hx rfl (hb hby at_10) rfl k) ?_
  obtain ⟨_, _, ⟨T3, L3, k3, n3⟩, -, X3, ⟨Lc3, hQ3, l3, y3, z3⟩, st3⟩ := Jvm.LawKit.callS X2 hx (y := (⟨"com/example/strict_conformance/strictconformance/DeviceTypeIsHeldToPinLaw", "pick", "(I)Lcom/example/strict_conformance/strictconformance/DeviceType;"⟩ : MethodName)) hown (mvT hZ (hw _ (List.mem_of_getElem? (i := 5) rfl))) (mvT hZ (hw _ (List.mem_of_getElem? (i := 6) rfl))) (mvT hZ (hw _ (List.mem_of_getElem? (i := 2) rfl))) (mvT hZ (hw _ (List.mem_of_getElem? (i := 7) rfl))) (by decide) (backOf (W := 0) (rm2 l Z a0 hw [] ((p1 &&& (2147483647 : Int32)) % (5 : Int32)) w0 w1 w2 w3 w4 h0 n0 Z0 O0 P0 P1 P2 P3 P4) hZ (hw _ (List.mem_of_getElem? (i := 7) rfl)) (hw _ (List.mem_of_getElem? (i := 2) rfl)) (by decide) (by decide)) (g := (mkF m 11 #[.val (.int p1), .val (.int p2), .val (.int ((p1 &&& (2147483647 : Int32)) % (5 : Int32))), .val (.int ((p2 &&& (2147483647 : Int32)) % (5 : Int32))), .unset, .unset, .unset] [(.int ((p1 &&& (2147483647 : Int32)) % (5 : Int32)))])) rfl (by rw [hml]; rfl) (argsL := [(.int ((p1 &&& (2147483647 : Int32)) % (5 : Int32)))]) (rest := []) (lenOf pd_1 rfl) rfl (by show 2 * 0 + _ ≤ _; exact Nat.le_of_eq rfl) (hb hby at_11) (fun _ _ => ⟨rfl, e2, (by decide : 0 + 0 ≤ _), (by decide : 0 + 0 ≤ _)⟩)
  dsimp only [Pt.U, Pt.locs, Pt.cells, Pt.slots] at X3 l3 y3 z3 st3 hQ3
  subst l3 y3 z3
  obtain ⟨rfl, N3q, e3⟩ := hQ3
  have N3 := Fr.app N2 N3q
  refine own_fwd (B := T3.setTop (mkF m 14 #[.val (.int p1), .val (.int p2), .val (.int ((p1 &&& (2147483647 : Int32)) % (5 : Int32))), .val (.int ((p2 &&& (2147483647 : Int32)) % (5 : Int32))), .unset, .unset, .unset] [(.ref (own_pick ((p1 &&& (2147483647 : Int32)) % (5 : Int32)) w0 w1 w2 w3 w4))])) (fun t k => st3 t k) ?_
  refine own_fwd (B := T3.setTop (mkF m 16 #[.val (.int p1), .val (.int p2), .val (.int ((p1 &&& (2147483647 : Int32)) % (5 : Int32))), .val (.int ((p2 &&& (2147483647 : Int32)) % (5 : Int32))), .val (.ref (own_pick ((p1 &&& (2147483647 : Int32)) % (5 : Int32)) w0 w1 w2 w3 w4)), .unset, .unset] [])) (fun t k => XS.astore X3.here hx rfl (hb hby at_14) rfl rfl (l' := #[.val (.int p1), .val (.int p2), .val (.int ((p1 &&& (2147483647 : Int32)) % (5 : Int32))), .val (.int ((p2 &&& (2147483647 : Int32)) % (5 : Int32))), .val (.ref (own_pick ((p1 &&& (2147483647 : Int32)) % (5 : Int32)) w0 w1 w2 w3 w4)), .unset, .unset]) rfl k) ?_
  refine own_fwd (B := T3.setTop (mkF m 17 #[.val (.int p1), .val (.int p2), .val (.int ((p1 &&& (2147483647 : Int32)) % (5 : Int32))), .val (.int ((p2 &&& (2147483647 : Int32)) % (5 : Int32))), .val (.ref (own_pick ((p1 &&& (2147483647 : Int32)) % (5 : Int32)) w0 w1 w2 w3 w4)), .unset, .unset] [(.int ((p2 &&& (2147483647 : Int32)) % (5 : Int32)))])) (fun t k => XS.iloadN X3.here hx rfl (hb hby at_16) rfl k) ?_
  obtain ⟨_, _, ⟨T4, L4, k4, n4⟩, -, X4, ⟨Lc4, hQ4, l4, y4, z4⟩, st4⟩ := Jvm.LawKit.callS X3 hx (y := (⟨"com/example/strict_conformance/strictconformance/DeviceTypeIsHeldToPinLaw", "pick", "(I)Lcom/example/strict_conformance/strictconformance/DeviceType;"⟩ : MethodName)) hown (mvT hZ (hw _ (List.mem_of_getElem? (i := 5) rfl))) (mvT hZ (hw _ (List.mem_of_getElem? (i := 6) rfl))) (mvT hZ (hw _ (List.mem_of_getElem? (i := 2) rfl))) (mvT hZ (hw _ (List.mem_of_getElem? (i := 7) rfl))) (by decide) (backOf (W := 0) (rm2 l Z a0 hw [] ((p2 &&& (2147483647 : Int32)) % (5 : Int32)) w0 w1 w2 w3 w4 h0 n0 Z0 O0 P0 P1 P2 P3 P4) hZ (hw _ (List.mem_of_getElem? (i := 7) rfl)) (hw _ (List.mem_of_getElem? (i := 2) rfl)) (by decide) (by decide)) (g := (mkF m 17 #[.val (.int p1), .val (.int p2), .val (.int ((p1 &&& (2147483647 : Int32)) % (5 : Int32))), .val (.int ((p2 &&& (2147483647 : Int32)) % (5 : Int32))), .val (.ref (own_pick ((p1 &&& (2147483647 : Int32)) % (5 : Int32)) w0 w1 w2 w3 w4)), .unset, .unset] [(.int ((p2 &&& (2147483647 : Int32)) % (5 : Int32)))])) rfl (by rw [hml]; rfl) (argsL := [(.int ((p2 &&& (2147483647 : Int32)) % (5 : Int32)))]) (rest := []) (lenOf pd_1 rfl) rfl (by show 2 * 0 + _ ≤ _; exact Nat.le_of_eq rfl) (hb hby at_17) (fun _ _ => ⟨rfl, e3, (by decide : 0 + 0 ≤ _), (by decide : 0 + 0 ≤ _)⟩)
  dsimp only [Pt.U, Pt.locs, Pt.cells, Pt.slots] at X4 l4 y4 z4 st4 hQ4
  subst l4 y4 z4
  obtain ⟨rfl, N4q, e4⟩ := hQ4
  have N4 := Fr.app N3 N4q
  refine own_fwd (B := T4.setTop (mkF m 20 #[.val (.int p1), .val (.int p2), .val (.int ((p1 &&& (2147483647 : Int32)) % (5 : Int32))), .val (.int ((p2 &&& (2147483647 : Int32)) % (5 : Int32))), .val (.ref (own_pick ((p1 &&& (2147483647 : Int32)) % (5 : Int32)) w0 w1 w2 w3 w4)), .unset, .unset] [(.ref (own_pick ((p2 &&& (2147483647 : Int32)) % (5 : Int32)) w0 w1 w2 w3 w4))])) (fun t k => st4 t k) ?_
  refine own_fwd (B := T4.setTop (mkF m 22 #[.val (.int p1), .val (.int p2), .val (.int ((p1 &&& (2147483647 : Int32)) % (5 : Int32))), .val (.int ((p2 &&& (2147483647 : Int32)) % (5 : Int32))), .val (.ref (own_pick ((p1 &&& (2147483647 : Int32)) % (5 : Int32)) w0 w1 w2 w3 w4)), .val (.ref (own_pick ((p2 &&& (2147483647 : Int32)) % (5 : Int32)) w0 w1 w2 w3 w4)), .unset] [])) (fun t k => XS.astore X4.here hx rfl (hb hby at_20) rfl rfl (l' := #[.val (.int p1), .val (.int p2), .val (.int ((p1 &&& (2147483647 : Int32)) % (5 : Int32))), .val (.int ((p2 &&& (2147483647 : Int32)) % (5 : Int32))), .val (.ref (own_pick ((p1 &&& (2147483647 : Int32)) % (5 : Int32)) w0 w1 w2 w3 w4)), .val (.ref (own_pick ((p2 &&& (2147483647 : Int32)) % (5 : Int32)) w0 w1 w2 w3 w4)), .unset]) rfl k) ?_
  refine own_fwd (B := T4.setTop (mkF m 23 #[.val (.int p1), .val (.int p2), .val (.int ((p1 &&& (2147483647 : Int32)) % (5 : Int32))), .val (.int ((p2 &&& (2147483647 : Int32)) % (5 : Int32))), .val (.ref (own_pick ((p1 &&& (2147483647 : Int32)) % (5 : Int32)) w0 w1 w2 w3 w4)), .val (.ref (own_pick ((p2 &&& (2147483647 : Int32)) % (5 : Int32)) w0 w1 w2 w3 w4)), .unset] [(.int ((p1 &&& (2147483647 : Int32)) % (5 : Int32)))])) (fun t k => XS.iloadN X4.here hx rfl (hb hby at_22) rfl k) ?_
  refine own_fwd (B := T4.setTop (mkF m 24 #[.val (.int p1), .val (.int p2), .val (.int ((p1 &&& (2147483647 : Int32)) % (5 : Int32))), .val (.int ((p2 &&& (2147483647 : Int32)) % (5 : Int32))), .val (.ref (own_pick ((p1 &&& (2147483647 : Int32)) % (5 : Int32)) w0 w1 w2 w3 w4)), .val (.ref (own_pick ((p2 &&& (2147483647 : Int32)) % (5 : Int32)) w0 w1 w2 w3 w4)), .unset] [(.int ((p2 &&& (2147483647 : Int32)) % (5 : Int32))), (.int ((p1 &&& (2147483647 : Int32)) % (5 : Int32)))])) (fun t k => XS.iloadN X4.here hx rfl (hb hby at_23) rfl k) ?_
  by_cases hc24 : ((p1 &&& (2147483647 : Int32)) % (5 : Int32)) = ((p2 &&& (2147483647 : Int32)) % (5 : Int32))
  · skip
    refine own_fwd (B := T4.setTop (mkF m 36 #[.val (.int p1), .val (.int p2), .val (.int ((p1 &&& (2147483647 : Int32)) % (5 : Int32))), .val (.int ((p2 &&& (2147483647 : Int32)) % (5 : Int32))), .val (.ref (own_pick ((p1 &&& (2147483647 : Int32)) % (5 : Int32)) w0 w1 w2 w3 w4)), .val (.ref (own_pick ((p2 &&& (2147483647 : Int32)) % (5 : Int32)) w0 w1 w2 w3 w4)), .unset] [])) (fun t k => XS.icmpYes X4.here hx rfl (pc0 := 24) (pc' := 36) rfl (hb hby at_24) rfl (teq hc24).1 (by decide) (by decide) k) ?_
    refine own_fwd (B := T4.setTop (mkF m 37 #[.val (.int p1), .val (.int p2), .val (.int ((p1 &&& (2147483647 : Int32)) % (5 : Int32))), .val (.int ((p2 &&& (2147483647 : Int32)) % (5 : Int32))), .val (.ref (own_pick ((p1 &&& (2147483647 : Int32)) % (5 : Int32)) w0 w1 w2 w3 w4)), .val (.ref (own_pick ((p2 &&& (2147483647 : Int32)) % (5 : Int32)) w0 w1 w2 w3 w4)), .unset] [(.int (1 : Int32))])) (fun t k => XS.iconst X4.here hx rfl (hb hby at_36) k) ?_
    refine own_fwd (B := T4.setTop (mkF m 41 #[.val (.int p1), .val (.int p2), .val (.int ((p1 &&& (2147483647 : Int32)) % (5 : Int32))), .val (.int ((p2 &&& (2147483647 : Int32)) % (5 : Int32))), .val (.ref (own_pick ((p1 &&& (2147483647 : Int32)) % (5 : Int32)) w0 w1 w2 w3 w4)), .val (.ref (own_pick ((p2 &&& (2147483647 : Int32)) % (5 : Int32)) w0 w1 w2 w3 w4)), .unset] [(.int (1 : Int32))])) (fun t k => XS.goto X4.here hx rfl (pc0 := 37) (pc' := 41) rfl (hb hby at_37) (by decide) (by decide) k) ?_
    refine own_fwd (B := T4.setTop (mkF m 43 #[.val (.int p1), .val (.int p2), .val (.int ((p1 &&& (2147483647 : Int32)) % (5 : Int32))), .val (.int ((p2 &&& (2147483647 : Int32)) % (5 : Int32))), .val (.ref (own_pick ((p1 &&& (2147483647 : Int32)) % (5 : Int32)) w0 w1 w2 w3 w4)), .val (.ref (own_pick ((p2 &&& (2147483647 : Int32)) % (5 : Int32)) w0 w1 w2 w3 w4)), .val (.int (1 : Int32))] [])) (fun t k => XS.istore X4.here hx rfl (hb hby at_41) rfl (l' := #[.val (.int p1), .val (.int p2), .val (.int ((p1 &&& (2147483647 : Int32)) % (5 : Int32))), .val (.int ((p2 &&& (2147483647 : Int32)) % (5 : Int32))), .val (.ref (own_pick ((p1 &&& (2147483647 : Int32)) % (5 : Int32)) w0 w1 w2 w3 w4)), .val (.ref (own_pick ((p2 &&& (2147483647 : Int32)) % (5 : Int32)) w0 w1 w2 w3 w4)), .val (.int (1 : Int32))]) rfl k) ?_
    refine own_fwd (B := T4.setTop (mkF m 45 #[.val (.int p1), .val (.int p2), .val (.int ((p1 &&& (2147483647 : Int32)) % (5 : Int32))), .val (.int ((p2 &&& (2147483647 : Int32)) % (5 : Int32))), .val (.ref (own_pick ((p1 &&& (2147483647 : Int32)) % (5 : Int32)) w0 w1 w2 w3 w4)), .val (.ref (own_pick ((p2 &&& (2147483647 : Int32)) % (5 : Int32)) w0 w1 w2 w3 w4)), .val (.int (1 : Int32))] [(.ref (own_pick ((p1 &&& (2147483647 : Int32)) % (5 : Int32)) w0 w1 w2 w3 w4))])) (fun t k => XS.aload X4.here hx rfl (hb hby at_43) rfl rfl k) ?_
    refine own_fwd (B := T4.setTop (mkF m 47 #[.val (.int p1), .val (.int p2), .val (.int ((p1 &&& (2147483647 : Int32)) % (5 : Int32))), .val (.int ((p2 &&& (2147483647 : Int32)) % (5 : Int32))), .val (.ref (own_pick ((p1 &&& (2147483647 : Int32)) % (5 : Int32)) w0 w1 w2 w3 w4)), .val (.ref (own_pick ((p2 &&& (2147483647 : Int32)) % (5 : Int32)) w0 w1 w2 w3 w4)), .val (.int (1 : Int32))] [(.ref (own_pick ((p2 &&& (2147483647 : Int32)) % (5 : Int32)) w0 w1 w2 w3 w4)), (.ref (own_pick ((p1 &&& (2147483647 : Int32)) % (5 : Int32)) w0 w1 w2 w3 w4))])) (fun t k => XS.aload X4.here hx rfl (hb hby at_45) rfl rfl k) ?_
    obtain ⟨cq5, kq5, q5a, q5b, q5c⟩ := isOf hZ e4 ((hE ((p1 &&& (2147483647 : Int32)) % (5 : Int32))).ext O0.2)
    obtain ⟨_, _, ⟨T5, L5, k5, n5⟩, -, X5, ⟨Lc5, hQ5, l5, y5, z5⟩, st5⟩ := X4.virtualBack hx (y := (⟨"com/example/strict_conformance/strictconformance/DeviceType", "isHeldTo", "(Lcom/example/strict_conformance/strictconformance/DeviceType;)Z"⟩ : MethodName)) (z := (⟨"com/example/strict_conformance/strictconformance/DeviceType", "isHeldTo", "(Lcom/example/strict_conformance/strictconformance/DeviceType;)Z"⟩ : MethodName)) hown (mvT hZ (hw _ (List.mem_of_getElem? (i := 13) rfl))) (mvT hZ (hw _ (List.mem_of_getElem? (i := 14) rfl))) (notFace_of_selects (args := #[]) (mvT hZ (hw _ (List.mem_of_getElem? (i := 16) rfl)))) (mvT hZ (hw _ (List.mem_of_getElem? (i := 16) rfl))) (mvT hZ (hw _ (List.mem_of_getElem? (i := 15) rfl))) (by decide) (backOf (W := 0) (rm3e l Z a0 hw [] (own_pick ((p1 &&& (2147483647 : Int32)) % (5 : Int32)) w0 w1 w2 w3 w4) (own_pick ((p2 &&& (2147483647 : Int32)) % (5 : Int32)) w0 w1 w2 w3 w4) h0 n0 Z0 (by rw [hc24] : (own_pick ((p2 &&& (2147483647 : Int32)) % (5 : Int32)) w0 w1 w2 w3 w4) = (own_pick ((p1 &&& (2147483647 : Int32)) % (5 : Int32)) w0 w1 w2 w3 w4))) hZ (hw _ (List.mem_of_getElem? (i := 17) rfl)) (hw _ (List.mem_of_getElem? (i := 9) rfl)) (by decide) (by decide)) q5a q5c (g := (mkF m 47 #[.val (.int p1), .val (.int p2), .val (.int ((p1 &&& (2147483647 : Int32)) % (5 : Int32))), .val (.int ((p2 &&& (2147483647 : Int32)) % (5 : Int32))), .val (.ref (own_pick ((p1 &&& (2147483647 : Int32)) % (5 : Int32)) w0 w1 w2 w3 w4)), .val (.ref (own_pick ((p2 &&& (2147483647 : Int32)) % (5 : Int32)) w0 w1 w2 w3 w4)), .val (.int (1 : Int32))] [(.ref (own_pick ((p2 &&& (2147483647 : Int32)) % (5 : Int32)) w0 w1 w2 w3 w4)), (.ref (own_pick ((p1 &&& (2147483647 : Int32)) % (5 : Int32)) w0 w1 w2 w3 w4))])) rfl (by rw [hml]; rfl) (Steps.refl _) (argsL := [(.ref (own_pick ((p2 &&& (2147483647 : Int32)) % (5 : Int32)) w0 w1 w2 w3 w4))]) (rest := []) (lenOf pd_2 rfl) rfl (by show 2 * 0 + _ ≤ _; exact Nat.le_of_eq rfl) (hb hby at_47) (fun _ _ => ⟨rfl, e4, (by decide : 0 + 0 ≤ _), (by decide : 0 + 0 ≤ _)⟩)
    dsimp only [Pt.U, Pt.locs, Pt.cells, Pt.slots] at X5 l5 y5 z5 st5 hQ5
    subst l5 y5 z5
    obtain ⟨rfl, N5q, e5⟩ := hQ5
    have N5 := Fr.app N4 N5q
    refine own_fwd (B := T5.setTop (mkF m 50 #[.val (.int p1), .val (.int p2), .val (.int ((p1 &&& (2147483647 : Int32)) % (5 : Int32))), .val (.int ((p2 &&& (2147483647 : Int32)) % (5 : Int32))), .val (.ref (own_pick ((p1 &&& (2147483647 : Int32)) % (5 : Int32)) w0 w1 w2 w3 w4)), .val (.ref (own_pick ((p2 &&& (2147483647 : Int32)) % (5 : Int32)) w0 w1 w2 w3 w4)), .val (.int (1 : Int32))] [(.int (1 : Int32))])) (fun t k => st5.trans k) ?_
    refine own_fwd (B := T5.setTop (mkF m 52 #[.val (.int p1), .val (.int p2), .val (.int ((p1 &&& (2147483647 : Int32)) % (5 : Int32))), .val (.int ((p2 &&& (2147483647 : Int32)) % (5 : Int32))), .val (.ref (own_pick ((p1 &&& (2147483647 : Int32)) % (5 : Int32)) w0 w1 w2 w3 w4)), .val (.ref (own_pick ((p2 &&& (2147483647 : Int32)) % (5 : Int32)) w0 w1 w2 w3 w4)), .val (.int (1 : Int32))] [(.int (1 : Int32)), (.int (1 : Int32))])) (fun t k => XS.iload X5.here hx rfl (hb hby at_50) rfl k) ?_
    refine own_fwd (B := T5.setTop (mkF m 55 #[.val (.int p1), .val (.int p2), .val (.int ((p1 &&& (2147483647 : Int32)) % (5 : Int32))), .val (.int ((p2 &&& (2147483647 : Int32)) % (5 : Int32))), .val (.ref (own_pick ((p1 &&& (2147483647 : Int32)) % (5 : Int32)) w0 w1 w2 w3 w4)), .val (.ref (own_pick ((p2 &&& (2147483647 : Int32)) % (5 : Int32)) w0 w1 w2 w3 w4)), .val (.int (1 : Int32))] [])) (fun t k => XS.icmpNo X5.here hx rfl (hb hby at_52) rfl (teq (by decide : (1 : Int32) = (1 : Int32))).2 k) ?_
    refine own_fwd (B := T5.setTop (mkF m 56 #[.val (.int p1), .val (.int p2), .val (.int ((p1 &&& (2147483647 : Int32)) % (5 : Int32))), .val (.int ((p2 &&& (2147483647 : Int32)) % (5 : Int32))), .val (.ref (own_pick ((p1 &&& (2147483647 : Int32)) % (5 : Int32)) w0 w1 w2 w3 w4)), .val (.ref (own_pick ((p2 &&& (2147483647 : Int32)) % (5 : Int32)) w0 w1 w2 w3 w4)), .val (.int (1 : Int32))] [(.int (1 : Int32))])) (fun t k => XS.iconst X5.here hx rfl (hb hby at_55) k) ?_
    refine own_fwd (B := T5.setTop (mkF m 60 #[.val (.int p1), .val (.int p2), .val (.int ((p1 &&& (2147483647 : Int32)) % (5 : Int32))), .val (.int ((p2 &&& (2147483647 : Int32)) % (5 : Int32))), .val (.ref (own_pick ((p1 &&& (2147483647 : Int32)) % (5 : Int32)) w0 w1 w2 w3 w4)), .val (.ref (own_pick ((p2 &&& (2147483647 : Int32)) % (5 : Int32)) w0 w1 w2 w3 w4)), .val (.int (1 : Int32))] [(.int (1 : Int32))])) (fun t k => XS.goto X5.here hx rfl (pc0 := 56) (pc' := 60) rfl (hb hby at_56) (by decide) (by decide) k) ?_
    obtain ⟨fs, hr, hrun, hended, hW, hsame⟩ := X5.leave (v := some (.int (1 : Int32))) (fun h => by rw [Bd.returns] at h; cases h)
    refine ⟨_, _, retN X5 hx (t := .boolean) Bd.returns (by simp) (hb hby at_60) hr, hrun, hended, _, _, rfl, ?_, ⟨_, rfl⟩, hW, hsame.mono (by decide) (by decide)⟩
    show Q_rm0 Z p1 p2 w0 w1 w2 w3 w4 h0 n0 _ T5.heap _
    rw [e5]
    exact ⟨rfl, N5⟩
  refine own_fwd (B := T4.setTop (mkF m 27 #[.val (.int p1), .val (.int p2), .val (.int ((p1 &&& (2147483647 : Int32)) % (5 : Int32))), .val (.int ((p2 &&& (2147483647 : Int32)) % (5 : Int32))), .val (.ref (own_pick ((p1 &&& (2147483647 : Int32)) % (5 : Int32)) w0 w1 w2 w3 w4)), .val (.ref (own_pick ((p2 &&& (2147483647 : Int32)) % (5 : Int32)) w0 w1 w2 w3 w4)), .unset] [])) (fun t k => XS.icmpNo X4.here hx rfl (hb hby at_24) rfl (feq hc24).1 k) ?_
  refine own_fwd (B := T4.setTop (mkF m 28 #[.val (.int p1), .val (.int p2), .val (.int ((p1 &&& (2147483647 : Int32)) % (5 : Int32))), .val (.int ((p2 &&& (2147483647 : Int32)) % (5 : Int32))), .val (.ref (own_pick ((p1 &&& (2147483647 : Int32)) % (5 : Int32)) w0 w1 w2 w3 w4)), .val (.ref (own_pick ((p2 &&& (2147483647 : Int32)) % (5 : Int32)) w0 w1 w2 w3 w4)), .unset] [(.int ((p1 &&& (2147483647 : Int32)) % (5 : Int32)))])) (fun t k => XS.iloadN X4.here hx rfl (hb hby at_27) rfl k) ?_
  refine own_fwd (B := T4.setTop (mkF m 29 #[.val (.int p1), .val (.int p2), .val (.int ((p1 &&& (2147483647 : Int32)) % (5 : Int32))), .val (.int ((p2 &&& (2147483647 : Int32)) % (5 : Int32))), .val (.ref (own_pick ((p1 &&& (2147483647 : Int32)) % (5 : Int32)) w0 w1 w2 w3 w4)), .val (.ref (own_pick ((p2 &&& (2147483647 : Int32)) % (5 : Int32)) w0 w1 w2 w3 w4)), .unset] [(.int (4 : Int32)), (.int ((p1 &&& (2147483647 : Int32)) % (5 : Int32)))])) (fun t k => XS.iconst X4.here hx rfl (hb hby at_28) k) ?_
  by_cases hc29 : ((p1 &&& (2147483647 : Int32)) % (5 : Int32)) = (4 : Int32)
  · skip
    refine own_fwd (B := T4.setTop (mkF m 32 #[.val (.int p1), .val (.int p2), .val (.int ((p1 &&& (2147483647 : Int32)) % (5 : Int32))), .val (.int ((p2 &&& (2147483647 : Int32)) % (5 : Int32))), .val (.ref (own_pick ((p1 &&& (2147483647 : Int32)) % (5 : Int32)) w0 w1 w2 w3 w4)), .val (.ref (own_pick ((p2 &&& (2147483647 : Int32)) % (5 : Int32)) w0 w1 w2 w3 w4)), .unset] [])) (fun t k => XS.icmpNo X4.here hx rfl (hb hby at_29) rfl (teq hc29).2 k) ?_
    refine own_fwd (B := T4.setTop (mkF m 33 #[.val (.int p1), .val (.int p2), .val (.int ((p1 &&& (2147483647 : Int32)) % (5 : Int32))), .val (.int ((p2 &&& (2147483647 : Int32)) % (5 : Int32))), .val (.ref (own_pick ((p1 &&& (2147483647 : Int32)) % (5 : Int32)) w0 w1 w2 w3 w4)), .val (.ref (own_pick ((p2 &&& (2147483647 : Int32)) % (5 : Int32)) w0 w1 w2 w3 w4)), .unset] [(.int ((p2 &&& (2147483647 : Int32)) % (5 : Int32)))])) (fun t k => XS.iloadN X4.here hx rfl (hb hby at_32) rfl k) ?_
    by_cases hc33 : ((p2 &&& (2147483647 : Int32)) % (5 : Int32)) = (0 : Int32)
    · skip
      refine own_fwd (B := T4.setTop (mkF m 36 #[.val (.int p1), .val (.int p2), .val (.int ((p1 &&& (2147483647 : Int32)) % (5 : Int32))), .val (.int ((p2 &&& (2147483647 : Int32)) % (5 : Int32))), .val (.ref (own_pick ((p1 &&& (2147483647 : Int32)) % (5 : Int32)) w0 w1 w2 w3 w4)), .val (.ref (own_pick ((p2 &&& (2147483647 : Int32)) % (5 : Int32)) w0 w1 w2 w3 w4)), .unset] [])) (fun t k => XS.ifNo X4.here hx rfl (hb hby at_33) rfl ((if0 _ _).trans (teq hc33).2) k) ?_
      refine own_fwd (B := T4.setTop (mkF m 37 #[.val (.int p1), .val (.int p2), .val (.int ((p1 &&& (2147483647 : Int32)) % (5 : Int32))), .val (.int ((p2 &&& (2147483647 : Int32)) % (5 : Int32))), .val (.ref (own_pick ((p1 &&& (2147483647 : Int32)) % (5 : Int32)) w0 w1 w2 w3 w4)), .val (.ref (own_pick ((p2 &&& (2147483647 : Int32)) % (5 : Int32)) w0 w1 w2 w3 w4)), .unset] [(.int (1 : Int32))])) (fun t k => XS.iconst X4.here hx rfl (hb hby at_36) k) ?_
      refine own_fwd (B := T4.setTop (mkF m 41 #[.val (.int p1), .val (.int p2), .val (.int ((p1 &&& (2147483647 : Int32)) % (5 : Int32))), .val (.int ((p2 &&& (2147483647 : Int32)) % (5 : Int32))), .val (.ref (own_pick ((p1 &&& (2147483647 : Int32)) % (5 : Int32)) w0 w1 w2 w3 w4)), .val (.ref (own_pick ((p2 &&& (2147483647 : Int32)) % (5 : Int32)) w0 w1 w2 w3 w4)), .unset] [(.int (1 : Int32))])) (fun t k => XS.goto X4.here hx rfl (pc0 := 37) (pc' := 41) rfl (hb hby at_37) (by decide) (by decide) k) ?_
      refine own_fwd (B := T4.setTop (mkF m 43 #[.val (.int p1), .val (.int p2), .val (.int ((p1 &&& (2147483647 : Int32)) % (5 : Int32))), .val (.int ((p2 &&& (2147483647 : Int32)) % (5 : Int32))), .val (.ref (own_pick ((p1 &&& (2147483647 : Int32)) % (5 : Int32)) w0 w1 w2 w3 w4)), .val (.ref (own_pick ((p2 &&& (2147483647 : Int32)) % (5 : Int32)) w0 w1 w2 w3 w4)), .val (.int (1 : Int32))] [])) (fun t k => XS.istore X4.here hx rfl (hb hby at_41) rfl (l' := #[.val (.int p1), .val (.int p2), .val (.int ((p1 &&& (2147483647 : Int32)) % (5 : Int32))), .val (.int ((p2 &&& (2147483647 : Int32)) % (5 : Int32))), .val (.ref (own_pick ((p1 &&& (2147483647 : Int32)) % (5 : Int32)) w0 w1 w2 w3 w4)), .val (.ref (own_pick ((p2 &&& (2147483647 : Int32)) % (5 : Int32)) w0 w1 w2 w3 w4)), .val (.int (1 : Int32))]) rfl k) ?_
      refine own_fwd (B := T4.setTop (mkF m 45 #[.val (.int p1), .val (.int p2), .val (.int ((p1 &&& (2147483647 : Int32)) % (5 : Int32))), .val (.int ((p2 &&& (2147483647 : Int32)) % (5 : Int32))), .val (.ref (own_pick ((p1 &&& (2147483647 : Int32)) % (5 : Int32)) w0 w1 w2 w3 w4)), .val (.ref (own_pick ((p2 &&& (2147483647 : Int32)) % (5 : Int32)) w0 w1 w2 w3 w4)), .val (.int (1 : Int32))] [(.ref (own_pick ((p1 &&& (2147483647 : Int32)) % (5 : Int32)) w0 w1 w2 w3 w4))])) (fun t k => XS.aload X4.here hx rfl (hb hby at_43) rfl rfl k) ?_
      refine own_fwd (B := T4.setTop (mkF m 47 #[.val (.int p1), .val (.int p2), .val (.int ((p1 &&& (2147483647 : Int32)) % (5 : Int32))), .val (.int ((p2 &&& (2147483647 : Int32)) % (5 : Int32))), .val (.ref (own_pick ((p1 &&& (2147483647 : Int32)) % (5 : Int32)) w0 w1 w2 w3 w4)), .val (.ref (own_pick ((p2 &&& (2147483647 : Int32)) % (5 : Int32)) w0 w1 w2 w3 w4)), .val (.int (1 : Int32))] [(.ref (own_pick ((p2 &&& (2147483647 : Int32)) % (5 : Int32)) w0 w1 w2 w3 w4)), (.ref (own_pick ((p1 &&& (2147483647 : Int32)) % (5 : Int32)) w0 w1 w2 w3 w4))])) (fun t k => XS.aload X4.here hx rfl (hb hby at_45) rfl rfl k) ?_
      obtain ⟨cq6, kq6, q6a, q6b, q6c⟩ := isOf hZ e4 ((hE ((p1 &&& (2147483647 : Int32)) % (5 : Int32))).ext O0.2)
      obtain ⟨_, _, ⟨T6, L6, k6, n6⟩, -, X6, ⟨Lc6, hQ6, l6, y6, z6⟩, st6⟩ := X4.virtualBack hx (y := (⟨"com/example/strict_conformance/strictconformance/DeviceType", "isHeldTo", "(Lcom/example/strict_conformance/strictconformance/DeviceType;)Z"⟩ : MethodName)) (z := (⟨"com/example/strict_conformance/strictconformance/DeviceType", "isHeldTo", "(Lcom/example/strict_conformance/strictconformance/DeviceType;)Z"⟩ : MethodName)) hown (mvT hZ (hw _ (List.mem_of_getElem? (i := 13) rfl))) (mvT hZ (hw _ (List.mem_of_getElem? (i := 14) rfl))) (notFace_of_selects (args := #[]) (mvT hZ (hw _ (List.mem_of_getElem? (i := 16) rfl)))) (mvT hZ (hw _ (List.mem_of_getElem? (i := 16) rfl))) (mvT hZ (hw _ (List.mem_of_getElem? (i := 15) rfl))) (by decide) (backOf (W := 0) (rm3t l Z a0 hw [] (own_pick ((p1 &&& (2147483647 : Int32)) % (5 : Int32)) w0 w1 w2 w3 w4) (own_pick ((p2 &&& (2147483647 : Int32)) % (5 : Int32)) w0 w1 w2 w3 w4) w0 h0 n0 Z0 ((hT _ hc29).ext O0.2) ((fun q => Fld.ne (hO _ (own_idx p2)) (hO _ (own_idx p1)) (fun z => hc24 (Value.int.inj z).symm) q) : ¬ (own_pick ((p2 &&& (2147483647 : Int32)) % (5 : Int32)) w0 w1 w2 w3 w4) = (own_pick ((p1 &&& (2147483647 : Int32)) % (5 : Int32)) w0 w1 w2 w3 w4)) (by rw [hc33]; rfl : (own_pick ((p2 &&& (2147483647 : Int32)) % (5 : Int32)) w0 w1 w2 w3 w4) = w0)) hZ (hw _ (List.mem_of_getElem? (i := 17) rfl)) (hw _ (List.mem_of_getElem? (i := 9) rfl)) (by decide) (by decide)) q6a q6c (g := (mkF m 47 #[.val (.int p1), .val (.int p2), .val (.int ((p1 &&& (2147483647 : Int32)) % (5 : Int32))), .val (.int ((p2 &&& (2147483647 : Int32)) % (5 : Int32))), .val (.ref (own_pick ((p1 &&& (2147483647 : Int32)) % (5 : Int32)) w0 w1 w2 w3 w4)), .val (.ref (own_pick ((p2 &&& (2147483647 : Int32)) % (5 : Int32)) w0 w1 w2 w3 w4)), .val (.int (1 : Int32))] [(.ref (own_pick ((p2 &&& (2147483647 : Int32)) % (5 : Int32)) w0 w1 w2 w3 w4)), (.ref (own_pick ((p1 &&& (2147483647 : Int32)) % (5 : Int32)) w0 w1 w2 w3 w4))])) rfl (by rw [hml]; rfl) (Steps.refl _) (argsL := [(.ref (own_pick ((p2 &&& (2147483647 : Int32)) % (5 : Int32)) w0 w1 w2 w3 w4))]) (rest := []) (lenOf pd_2 rfl) rfl (by show 2 * 0 + _ ≤ _; exact Nat.le_of_eq rfl) (hb hby at_47) (fun _ _ => ⟨rfl, e4, (by decide : 0 + 0 ≤ _), (by decide : 0 + 0 ≤ _)⟩)
      dsimp only [Pt.U, Pt.locs, Pt.cells, Pt.slots] at X6 l6 y6 z6 st6 hQ6
      subst l6 y6 z6
      obtain ⟨rfl, N6q, e6⟩ := hQ6
      have N6 := Fr.app N4 N6q
      refine own_fwd (B := T6.setTop (mkF m 50 #[.val (.int p1), .val (.int p2), .val (.int ((p1 &&& (2147483647 : Int32)) % (5 : Int32))), .val (.int ((p2 &&& (2147483647 : Int32)) % (5 : Int32))), .val (.ref (own_pick ((p1 &&& (2147483647 : Int32)) % (5 : Int32)) w0 w1 w2 w3 w4)), .val (.ref (own_pick ((p2 &&& (2147483647 : Int32)) % (5 : Int32)) w0 w1 w2 w3 w4)), .val (.int (1 : Int32))] [(.int (1 : Int32))])) (fun t k => st6.trans k) ?_
      refine own_fwd (B := T6.setTop (mkF m 52 #[.val (.int p1), .val (.int p2), .val (.int ((p1 &&& (2147483647 : Int32)) % (5 : Int32))), .val (.int ((p2 &&& (2147483647 : Int32)) % (5 : Int32))), .val (.ref (own_pick ((p1 &&& (2147483647 : Int32)) % (5 : Int32)) w0 w1 w2 w3 w4)), .val (.ref (own_pick ((p2 &&& (2147483647 : Int32)) % (5 : Int32)) w0 w1 w2 w3 w4)), .val (.int (1 : Int32))] [(.int (1 : Int32)), (.int (1 : Int32))])) (fun t k => XS.iload X6.here hx rfl (hb hby at_50) rfl k) ?_
      refine own_fwd (B := T6.setTop (mkF m 55 #[.val (.int p1), .val (.int p2), .val (.int ((p1 &&& (2147483647 : Int32)) % (5 : Int32))), .val (.int ((p2 &&& (2147483647 : Int32)) % (5 : Int32))), .val (.ref (own_pick ((p1 &&& (2147483647 : Int32)) % (5 : Int32)) w0 w1 w2 w3 w4)), .val (.ref (own_pick ((p2 &&& (2147483647 : Int32)) % (5 : Int32)) w0 w1 w2 w3 w4)), .val (.int (1 : Int32))] [])) (fun t k => XS.icmpNo X6.here hx rfl (hb hby at_52) rfl (teq (by decide : (1 : Int32) = (1 : Int32))).2 k) ?_
      refine own_fwd (B := T6.setTop (mkF m 56 #[.val (.int p1), .val (.int p2), .val (.int ((p1 &&& (2147483647 : Int32)) % (5 : Int32))), .val (.int ((p2 &&& (2147483647 : Int32)) % (5 : Int32))), .val (.ref (own_pick ((p1 &&& (2147483647 : Int32)) % (5 : Int32)) w0 w1 w2 w3 w4)), .val (.ref (own_pick ((p2 &&& (2147483647 : Int32)) % (5 : Int32)) w0 w1 w2 w3 w4)), .val (.int (1 : Int32))] [(.int (1 : Int32))])) (fun t k => XS.iconst X6.here hx rfl (hb hby at_55) k) ?_
      refine own_fwd (B := T6.setTop (mkF m 60 #[.val (.int p1), .val (.int p2), .val (.int ((p1 &&& (2147483647 : Int32)) % (5 : Int32))), .val (.int ((p2 &&& (2147483647 : Int32)) % (5 : Int32))), .val (.ref (own_pick ((p1 &&& (2147483647 : Int32)) % (5 : Int32)) w0 w1 w2 w3 w4)), .val (.ref (own_pick ((p2 &&& (2147483647 : Int32)) % (5 : Int32)) w0 w1 w2 w3 w4)), .val (.int (1 : Int32))] [(.int (1 : Int32))])) (fun t k => XS.goto X6.here hx rfl (pc0 := 56) (pc' := 60) rfl (hb hby at_56) (by decide) (by decide) k) ?_
      obtain ⟨fs, hr, hrun, hended, hW, hsame⟩ := X6.leave (v := some (.int (1 : Int32))) (fun h => by rw [Bd.returns] at h; cases h)
      refine ⟨_, _, retN X6 hx (t := .boolean) Bd.returns (by simp) (hb hby at_60) hr, hrun, hended, _, _, rfl, ?_, ⟨_, rfl⟩, hW, hsame.mono (by decide) (by decide)⟩
      show Q_rm0 Z p1 p2 w0 w1 w2 w3 w4 h0 n0 _ T6.heap _
      rw [e6]
      exact ⟨rfl, N6⟩
    refine own_fwd (B := T4.setTop (mkF m 40 #[.val (.int p1), .val (.int p2), .val (.int ((p1 &&& (2147483647 : Int32)) % (5 : Int32))), .val (.int ((p2 &&& (2147483647 : Int32)) % (5 : Int32))), .val (.ref (own_pick ((p1 &&& (2147483647 : Int32)) % (5 : Int32)) w0 w1 w2 w3 w4)), .val (.ref (own_pick ((p2 &&& (2147483647 : Int32)) % (5 : Int32)) w0 w1 w2 w3 w4)), .unset] [])) (fun t k => XS.ifYes X4.here hx rfl (pc0 := 33) (pc' := 40) rfl (hb hby at_33) rfl ((if0 _ _).trans (feq hc33).2) (by decide) (by decide) k) ?_
    refine own_fwd (B := T4.setTop (mkF m 41 #[.val (.int p1), .val (.int p2), .val (.int ((p1 &&& (2147483647 : Int32)) % (5 : Int32))), .val (.int ((p2 &&& (2147483647 : Int32)) % (5 : Int32))), .val (.ref (own_pick ((p1 &&& (2147483647 : Int32)) % (5 : Int32)) w0 w1 w2 w3 w4)), .val (.ref (own_pick ((p2 &&& (2147483647 : Int32)) % (5 : Int32)) w0 w1 w2 w3 w4)), .unset] [(.int (0 : Int32))])) (fun t k => XS.iconst X4.here hx rfl (hb hby at_40) k) ?_
    refine own_fwd (B := T4.setTop (mkF m 43 #[.val (.int p1), .val (.int p2), .val (.int ((p1 &&& (2147483647 : Int32)) % (5 : Int32))), .val (.int ((p2 &&& (2147483647 : Int32)) % (5 : Int32))), .val (.ref (own_pick ((p1 &&& (2147483647 : Int32)) % (5 : Int32)) w0 w1 w2 w3 w4)), .val (.ref (own_pick ((p2 &&& (2147483647 : Int32)) % (5 : Int32)) w0 w1 w2 w3 w4)), .val (.int (0 : Int32))] [])) (fun t k => XS.istore X4.here hx rfl (hb hby at_41) rfl (l' := #[.val (.int p1), .val (.int p2), .val (.int ((p1 &&& (2147483647 : Int32)) % (5 : Int32))), .val (.int ((p2 &&& (2147483647 : Int32)) % (5 : Int32))), .val (.ref (own_pick ((p1 &&& (2147483647 : Int32)) % (5 : Int32)) w0 w1 w2 w3 w4)), .val (.ref (own_pick ((p2 &&& (2147483647 : Int32)) % (5 : Int32)) w0 w1 w2 w3 w4)), .val (.int (0 : Int32))]) rfl k) ?_
    refine own_fwd (B := T4.setTop (mkF m 45 #[.val (.int p1), .val (.int p2), .val (.int ((p1 &&& (2147483647 : Int32)) % (5 : Int32))), .val (.int ((p2 &&& (2147483647 : Int32)) % (5 : Int32))), .val (.ref (own_pick ((p1 &&& (2147483647 : Int32)) % (5 : Int32)) w0 w1 w2 w3 w4)), .val (.ref (own_pick ((p2 &&& (2147483647 : Int32)) % (5 : Int32)) w0 w1 w2 w3 w4)), .val (.int (0 : Int32))] [(.ref (own_pick ((p1 &&& (2147483647 : Int32)) % (5 : Int32)) w0 w1 w2 w3 w4))])) (fun t k => XS.aload X4.here hx rfl (hb hby at_43) rfl rfl k) ?_
    refine own_fwd (B := T4.setTop (mkF m 47 #[.val (.int p1), .val (.int p2), .val (.int ((p1 &&& (2147483647 : Int32)) % (5 : Int32))), .val (.int ((p2 &&& (2147483647 : Int32)) % (5 : Int32))), .val (.ref (own_pick ((p1 &&& (2147483647 : Int32)) % (5 : Int32)) w0 w1 w2 w3 w4)), .val (.ref (own_pick ((p2 &&& (2147483647 : Int32)) % (5 : Int32)) w0 w1 w2 w3 w4)), .val (.int (0 : Int32))] [(.ref (own_pick ((p2 &&& (2147483647 : Int32)) % (5 : Int32)) w0 w1 w2 w3 w4)), (.ref (own_pick ((p1 &&& (2147483647 : Int32)) % (5 : Int32)) w0 w1 w2 w3 w4))])) (fun t k => XS.aload X4.here hx rfl (hb hby at_45) rfl rfl k) ?_
    obtain ⟨cq7, kq7, q7a, q7b, q7c⟩ := isOf hZ e4 ((hE ((p1 &&& (2147483647 : Int32)) % (5 : Int32))).ext O0.2)
    obtain ⟨_, _, ⟨T7, L7, k7, n7⟩, -, X7, ⟨Lc7, hQ7, l7, y7, z7⟩, st7⟩ := X4.virtualBack hx (y := (⟨"com/example/strict_conformance/strictconformance/DeviceType", "isHeldTo", "(Lcom/example/strict_conformance/strictconformance/DeviceType;)Z"⟩ : MethodName)) (z := (⟨"com/example/strict_conformance/strictconformance/DeviceType", "isHeldTo", "(Lcom/example/strict_conformance/strictconformance/DeviceType;)Z"⟩ : MethodName)) hown (mvT hZ (hw _ (List.mem_of_getElem? (i := 13) rfl))) (mvT hZ (hw _ (List.mem_of_getElem? (i := 14) rfl))) (notFace_of_selects (args := #[]) (mvT hZ (hw _ (List.mem_of_getElem? (i := 16) rfl)))) (mvT hZ (hw _ (List.mem_of_getElem? (i := 16) rfl))) (mvT hZ (hw _ (List.mem_of_getElem? (i := 15) rfl))) (by decide) (backOf (W := 0) (rm3f l Z a0 hw [] (own_pick ((p1 &&& (2147483647 : Int32)) % (5 : Int32)) w0 w1 w2 w3 w4) (own_pick ((p2 &&& (2147483647 : Int32)) % (5 : Int32)) w0 w1 w2 w3 w4) w0 h0 n0 Z0 ((hT _ hc29).ext O0.2) ((fun q => Fld.ne (hO _ (own_idx p2)) (hO _ (own_idx p1)) (fun z => hc24 (Value.int.inj z).symm) q) : ¬ (own_pick ((p2 &&& (2147483647 : Int32)) % (5 : Int32)) w0 w1 w2 w3 w4) = (own_pick ((p1 &&& (2147483647 : Int32)) % (5 : Int32)) w0 w1 w2 w3 w4)) (fun q => Fld.ne (hO _ (own_idx p2)) (hO 0 (Or.inl rfl)) (fun z => hc33 (Value.int.inj z)) q : ¬ (own_pick ((p2 &&& (2147483647 : Int32)) % (5 : Int32)) w0 w1 w2 w3 w4) = w0)) hZ (hw _ (List.mem_of_getElem? (i := 17) rfl)) (hw _ (List.mem_of_getElem? (i := 9) rfl)) (by decide) (by decide)) q7a q7c (g := (mkF m 47 #[.val (.int p1), .val (.int p2), .val (.int ((p1 &&& (2147483647 : Int32)) % (5 : Int32))), .val (.int ((p2 &&& (2147483647 : Int32)) % (5 : Int32))), .val (.ref (own_pick ((p1 &&& (2147483647 : Int32)) % (5 : Int32)) w0 w1 w2 w3 w4)), .val (.ref (own_pick ((p2 &&& (2147483647 : Int32)) % (5 : Int32)) w0 w1 w2 w3 w4)), .val (.int (0 : Int32))] [(.ref (own_pick ((p2 &&& (2147483647 : Int32)) % (5 : Int32)) w0 w1 w2 w3 w4)), (.ref (own_pick ((p1 &&& (2147483647 : Int32)) % (5 : Int32)) w0 w1 w2 w3 w4))])) rfl (by rw [hml]; rfl) (Steps.refl _) (argsL := [(.ref (own_pick ((p2 &&& (2147483647 : Int32)) % (5 : Int32)) w0 w1 w2 w3 w4))]) (rest := []) (lenOf pd_2 rfl) rfl (by show 2 * 0 + _ ≤ _; exact Nat.le_of_eq rfl) (hb hby at_47) (fun _ _ => ⟨rfl, e4, (by decide : 0 + 0 ≤ _), (by decide : 0 + 0 ≤ _)⟩)
    dsimp only [Pt.U, Pt.locs, Pt.cells, Pt.slots] at X7 l7 y7 z7 st7 hQ7
    subst l7 y7 z7
    obtain ⟨rfl, N7q, e7⟩ := hQ7
    have N7 := Fr.app N4 N7q
    refine own_fwd (B := T7.setTop (mkF m 50 #[.val (.int p1), .val (.int p2), .val (.int ((p1 &&& (2147483647 : Int32)) % (5 : Int32))), .val (.int ((p2 &&& (2147483647 : Int32)) % (5 : Int32))), .val (.ref (own_pick ((p1 &&& (2147483647 : Int32)) % (5 : Int32)) w0 w1 w2 w3 w4)), .val (.ref (own_pick ((p2 &&& (2147483647 : Int32)) % (5 : Int32)) w0 w1 w2 w3 w4)), .val (.int (0 : Int32))] [(.int (0 : Int32))])) (fun t k => st7.trans k) ?_
    refine own_fwd (B := T7.setTop (mkF m 52 #[.val (.int p1), .val (.int p2), .val (.int ((p1 &&& (2147483647 : Int32)) % (5 : Int32))), .val (.int ((p2 &&& (2147483647 : Int32)) % (5 : Int32))), .val (.ref (own_pick ((p1 &&& (2147483647 : Int32)) % (5 : Int32)) w0 w1 w2 w3 w4)), .val (.ref (own_pick ((p2 &&& (2147483647 : Int32)) % (5 : Int32)) w0 w1 w2 w3 w4)), .val (.int (0 : Int32))] [(.int (0 : Int32)), (.int (0 : Int32))])) (fun t k => XS.iload X7.here hx rfl (hb hby at_50) rfl k) ?_
    refine own_fwd (B := T7.setTop (mkF m 55 #[.val (.int p1), .val (.int p2), .val (.int ((p1 &&& (2147483647 : Int32)) % (5 : Int32))), .val (.int ((p2 &&& (2147483647 : Int32)) % (5 : Int32))), .val (.ref (own_pick ((p1 &&& (2147483647 : Int32)) % (5 : Int32)) w0 w1 w2 w3 w4)), .val (.ref (own_pick ((p2 &&& (2147483647 : Int32)) % (5 : Int32)) w0 w1 w2 w3 w4)), .val (.int (0 : Int32))] [])) (fun t k => XS.icmpNo X7.here hx rfl (hb hby at_52) rfl (teq (by decide : (0 : Int32) = (0 : Int32))).2 k) ?_
    refine own_fwd (B := T7.setTop (mkF m 56 #[.val (.int p1), .val (.int p2), .val (.int ((p1 &&& (2147483647 : Int32)) % (5 : Int32))), .val (.int ((p2 &&& (2147483647 : Int32)) % (5 : Int32))), .val (.ref (own_pick ((p1 &&& (2147483647 : Int32)) % (5 : Int32)) w0 w1 w2 w3 w4)), .val (.ref (own_pick ((p2 &&& (2147483647 : Int32)) % (5 : Int32)) w0 w1 w2 w3 w4)), .val (.int (0 : Int32))] [(.int (1 : Int32))])) (fun t k => XS.iconst X7.here hx rfl (hb hby at_55) k) ?_
    refine own_fwd (B := T7.setTop (mkF m 60 #[.val (.int p1), .val (.int p2), .val (.int ((p1 &&& (2147483647 : Int32)) % (5 : Int32))), .val (.int ((p2 &&& (2147483647 : Int32)) % (5 : Int32))), .val (.ref (own_pick ((p1 &&& (2147483647 : Int32)) % (5 : Int32)) w0 w1 w2 w3 w4)), .val (.ref (own_pick ((p2 &&& (2147483647 : Int32)) % (5 : Int32)) w0 w1 w2 w3 w4)), .val (.int (0 : Int32))] [(.int (1 : Int32))])) (fun t k => XS.goto X7.here hx rfl (pc0 := 56) (pc' := 60) rfl (hb hby at_56) (by decide) (by decide) k) ?_
    obtain ⟨fs, hr, hrun, hended, hW, hsame⟩ := X7.leave (v := some (.int (1 : Int32))) (fun h => by rw [Bd.returns] at h; cases h)
    refine ⟨_, _, retN X7 hx (t := .boolean) Bd.returns (by simp) (hb hby at_60) hr, hrun, hended, _, _, rfl, ?_, ⟨_, rfl⟩, hW, hsame.mono (by decide) (by decide)⟩
    show Q_rm0 Z p1 p2 w0 w1 w2 w3 w4 h0 n0 _ T7.heap _
    rw [e7]
    exact ⟨rfl, N7⟩
  refine own_fwd (B := T4.setTop (mkF m 40 #[.val (.int p1), .val (.int p2), .val (.int ((p1 &&& (2147483647 : Int32)) % (5 : Int32))), .val (.int ((p2 &&& (2147483647 : Int32)) % (5 : Int32))), .val (.ref (own_pick ((p1 &&& (2147483647 : Int32)) % (5 : Int32)) w0 w1 w2 w3 w4)), .val (.ref (own_pick ((p2 &&& (2147483647 : Int32)) % (5 : Int32)) w0 w1 w2 w3 w4)), .unset] [])) (fun t k => XS.icmpYes X4.here hx rfl (pc0 := 29) (pc' := 40) rfl (hb hby at_29) rfl (feq hc29).2 (by decide) (by decide) k) ?_
  refine own_fwd (B := T4.setTop (mkF m 41 #[.val (.int p1), .val (.int p2), .val (.int ((p1 &&& (2147483647 : Int32)) % (5 : Int32))), .val (.int ((p2 &&& (2147483647 : Int32)) % (5 : Int32))), .val (.ref (own_pick ((p1 &&& (2147483647 : Int32)) % (5 : Int32)) w0 w1 w2 w3 w4)), .val (.ref (own_pick ((p2 &&& (2147483647 : Int32)) % (5 : Int32)) w0 w1 w2 w3 w4)), .unset] [(.int (0 : Int32))])) (fun t k => XS.iconst X4.here hx rfl (hb hby at_40) k) ?_
  refine own_fwd (B := T4.setTop (mkF m 43 #[.val (.int p1), .val (.int p2), .val (.int ((p1 &&& (2147483647 : Int32)) % (5 : Int32))), .val (.int ((p2 &&& (2147483647 : Int32)) % (5 : Int32))), .val (.ref (own_pick ((p1 &&& (2147483647 : Int32)) % (5 : Int32)) w0 w1 w2 w3 w4)), .val (.ref (own_pick ((p2 &&& (2147483647 : Int32)) % (5 : Int32)) w0 w1 w2 w3 w4)), .val (.int (0 : Int32))] [])) (fun t k => XS.istore X4.here hx rfl (hb hby at_41) rfl (l' := #[.val (.int p1), .val (.int p2), .val (.int ((p1 &&& (2147483647 : Int32)) % (5 : Int32))), .val (.int ((p2 &&& (2147483647 : Int32)) % (5 : Int32))), .val (.ref (own_pick ((p1 &&& (2147483647 : Int32)) % (5 : Int32)) w0 w1 w2 w3 w4)), .val (.ref (own_pick ((p2 &&& (2147483647 : Int32)) % (5 : Int32)) w0 w1 w2 w3 w4)), .val (.int (0 : Int32))]) rfl k) ?_
  refine own_fwd (B := T4.setTop (mkF m 45 #[.val (.int p1), .val (.int p2), .val (.int ((p1 &&& (2147483647 : Int32)) % (5 : Int32))), .val (.int ((p2 &&& (2147483647 : Int32)) % (5 : Int32))), .val (.ref (own_pick ((p1 &&& (2147483647 : Int32)) % (5 : Int32)) w0 w1 w2 w3 w4)), .val (.ref (own_pick ((p2 &&& (2147483647 : Int32)) % (5 : Int32)) w0 w1 w2 w3 w4)), .val (.int (0 : Int32))] [(.ref (own_pick ((p1 &&& (2147483647 : Int32)) % (5 : Int32)) w0 w1 w2 w3 w4))])) (fun t k => XS.aload X4.here hx rfl (hb hby at_43) rfl rfl k) ?_
  refine own_fwd (B := T4.setTop (mkF m 47 #[.val (.int p1), .val (.int p2), .val (.int ((p1 &&& (2147483647 : Int32)) % (5 : Int32))), .val (.int ((p2 &&& (2147483647 : Int32)) % (5 : Int32))), .val (.ref (own_pick ((p1 &&& (2147483647 : Int32)) % (5 : Int32)) w0 w1 w2 w3 w4)), .val (.ref (own_pick ((p2 &&& (2147483647 : Int32)) % (5 : Int32)) w0 w1 w2 w3 w4)), .val (.int (0 : Int32))] [(.ref (own_pick ((p2 &&& (2147483647 : Int32)) % (5 : Int32)) w0 w1 w2 w3 w4)), (.ref (own_pick ((p1 &&& (2147483647 : Int32)) % (5 : Int32)) w0 w1 w2 w3 w4))])) (fun t k => XS.aload X4.here hx rfl (hb hby at_45) rfl rfl k) ?_
  obtain ⟨cq8, kq8, q8a, q8b, q8c⟩ := isOf hZ e4 ((hE ((p1 &&& (2147483647 : Int32)) % (5 : Int32))).ext O0.2)
  obtain ⟨_, _, ⟨T8, L8, k8, n8⟩, -, X8, ⟨Lc8, hQ8, l8, y8, z8⟩, st8⟩ := X4.virtualBack hx (y := (⟨"com/example/strict_conformance/strictconformance/DeviceType", "isHeldTo", "(Lcom/example/strict_conformance/strictconformance/DeviceType;)Z"⟩ : MethodName)) (z := (⟨"com/example/strict_conformance/strictconformance/DeviceType", "isHeldTo", "(Lcom/example/strict_conformance/strictconformance/DeviceType;)Z"⟩ : MethodName)) hown (mvT hZ (hw _ (List.mem_of_getElem? (i := 13) rfl))) (mvT hZ (hw _ (List.mem_of_getElem? (i := 14) rfl))) (notFace_of_selects (args := #[]) (mvT hZ (hw _ (List.mem_of_getElem? (i := 16) rfl)))) (mvT hZ (hw _ (List.mem_of_getElem? (i := 16) rfl))) (mvT hZ (hw _ (List.mem_of_getElem? (i := 15) rfl))) (by decide) (backOf (W := 0) (rm3n l Z a0 hw [] (own_pick ((p1 &&& (2147483647 : Int32)) % (5 : Int32)) w0 w1 w2 w3 w4) (own_pick ((p2 &&& (2147483647 : Int32)) % (5 : Int32)) w0 w1 w2 w3 w4) h0 n0 Z0 ((hN _ (own_idx p1) hc29).ext O0.2) ((fun q => Fld.ne (hO _ (own_idx p2)) (hO _ (own_idx p1)) (fun z => hc24 (Value.int.inj z).symm) q) : ¬ (own_pick ((p2 &&& (2147483647 : Int32)) % (5 : Int32)) w0 w1 w2 w3 w4) = (own_pick ((p1 &&& (2147483647 : Int32)) % (5 : Int32)) w0 w1 w2 w3 w4))) hZ (hw _ (List.mem_of_getElem? (i := 17) rfl)) (hw _ (List.mem_of_getElem? (i := 9) rfl)) (by decide) (by decide)) q8a q8c (g := (mkF m 47 #[.val (.int p1), .val (.int p2), .val (.int ((p1 &&& (2147483647 : Int32)) % (5 : Int32))), .val (.int ((p2 &&& (2147483647 : Int32)) % (5 : Int32))), .val (.ref (own_pick ((p1 &&& (2147483647 : Int32)) % (5 : Int32)) w0 w1 w2 w3 w4)), .val (.ref (own_pick ((p2 &&& (2147483647 : Int32)) % (5 : Int32)) w0 w1 w2 w3 w4)), .val (.int (0 : Int32))] [(.ref (own_pick ((p2 &&& (2147483647 : Int32)) % (5 : Int32)) w0 w1 w2 w3 w4)), (.ref (own_pick ((p1 &&& (2147483647 : Int32)) % (5 : Int32)) w0 w1 w2 w3 w4))])) rfl (by rw [hml]; rfl) (Steps.refl _) (argsL := [(.ref (own_pick ((p2 &&& (2147483647 : Int32)) % (5 : Int32)) w0 w1 w2 w3 w4))]) (rest := []) (lenOf pd_2 rfl) rfl (by show 2 * 0 + _ ≤ _; exact Nat.le_of_eq rfl) (hb hby at_47) (fun _ _ => ⟨rfl, e4, (by decide : 0 + 0 ≤ _), (by decide : 0 + 0 ≤ _)⟩)
  dsimp only [Pt.U, Pt.locs, Pt.cells, Pt.slots] at X8 l8 y8 z8 st8 hQ8
  subst l8 y8 z8
  obtain ⟨rfl, N8q, e8⟩ := hQ8
  have N8 := Fr.app N4 N8q
  refine own_fwd (B := T8.setTop (mkF m 50 #[.val (.int p1), .val (.int p2), .val (.int ((p1 &&& (2147483647 : Int32)) % (5 : Int32))), .val (.int ((p2 &&& (2147483647 : Int32)) % (5 : Int32))), .val (.ref (own_pick ((p1 &&& (2147483647 : Int32)) % (5 : Int32)) w0 w1 w2 w3 w4)), .val (.ref (own_pick ((p2 &&& (2147483647 : Int32)) % (5 : Int32)) w0 w1 w2 w3 w4)), .val (.int (0 : Int32))] [(.int (0 : Int32))])) (fun t k => st8.trans k) ?_
  refine own_fwd (B := T8.setTop (mkF m 52 #[.val (.int p1), .val (.int p2), .val (.int ((p1 &&& (2147483647 : Int32)) % (5 : Int32))), .val (.int ((p2 &&& (2147483647 : Int32)) % (5 : Int32))), .val (.ref (own_pick ((p1 &&& (2147483647 : Int32)) % (5 : Int32)) w0 w1 w2 w3 w4)), .val (.ref (own_pick ((p2 &&& (2147483647 : Int32)) % (5 : Int32)) w0 w1 w2 w3 w4)), .val (.int (0 : Int32))] [(.int (0 : Int32)), (.int (0 : Int32))])) (fun t k => XS.iload X8.here hx rfl (hb hby at_50) rfl k) ?_
  refine own_fwd (B := T8.setTop (mkF m 55 #[.val (.int p1), .val (.int p2), .val (.int ((p1 &&& (2147483647 : Int32)) % (5 : Int32))), .val (.int ((p2 &&& (2147483647 : Int32)) % (5 : Int32))), .val (.ref (own_pick ((p1 &&& (2147483647 : Int32)) % (5 : Int32)) w0 w1 w2 w3 w4)), .val (.ref (own_pick ((p2 &&& (2147483647 : Int32)) % (5 : Int32)) w0 w1 w2 w3 w4)), .val (.int (0 : Int32))] [])) (fun t k => XS.icmpNo X8.here hx rfl (hb hby at_52) rfl (teq (by decide : (0 : Int32) = (0 : Int32))).2 k) ?_
  refine own_fwd (B := T8.setTop (mkF m 56 #[.val (.int p1), .val (.int p2), .val (.int ((p1 &&& (2147483647 : Int32)) % (5 : Int32))), .val (.int ((p2 &&& (2147483647 : Int32)) % (5 : Int32))), .val (.ref (own_pick ((p1 &&& (2147483647 : Int32)) % (5 : Int32)) w0 w1 w2 w3 w4)), .val (.ref (own_pick ((p2 &&& (2147483647 : Int32)) % (5 : Int32)) w0 w1 w2 w3 w4)), .val (.int (0 : Int32))] [(.int (1 : Int32))])) (fun t k => XS.iconst X8.here hx rfl (hb hby at_55) k) ?_
  refine own_fwd (B := T8.setTop (mkF m 60 #[.val (.int p1), .val (.int p2), .val (.int ((p1 &&& (2147483647 : Int32)) % (5 : Int32))), .val (.int ((p2 &&& (2147483647 : Int32)) % (5 : Int32))), .val (.ref (own_pick ((p1 &&& (2147483647 : Int32)) % (5 : Int32)) w0 w1 w2 w3 w4)), .val (.ref (own_pick ((p2 &&& (2147483647 : Int32)) % (5 : Int32)) w0 w1 w2 w3 w4)), .val (.int (0 : Int32))] [(.int (1 : Int32))])) (fun t k => XS.goto X8.here hx rfl (pc0 := 56) (pc' := 60) rfl (hb hby at_56) (by decide) (by decide) k) ?_
  obtain ⟨fs, hr, hrun, hended, hW, hsame⟩ := X8.leave (v := some (.int (1 : Int32))) (fun h => by rw [Bd.returns] at h; cases h)
  refine ⟨_, _, retN X8 hx (t := .boolean) Bd.returns (by simp) (hb hby at_60) hr, hrun, hended, _, _, rfl, ?_, ⟨_, rfl⟩, hW, hsame.mono (by decide) (by decide)⟩
  show Q_rm0 Z p1 p2 w0 w1 w2 w3 w4 h0 n0 _ T8.heap _
  rw [e8]
  exact ⟨rfl, N8⟩
set_option maxRecDepth 65536 in
set_option maxHeartbeats 40000000 in
theorem comes_1 {Post : Tables → Env → Array Value → State → Outcome → State → Prop} (hpost : ∀ tb e args s v u, (limb_1_1.after args s (.returned v) u = true ∧ limb_1_2.after args s (.returned v) u = true ∧ True) → FrameEnd s (.returned v) u (Jvm.fieldLocs frame_1_writes args s ++ Jvm.arrayLocs frame_1_arrays args s ++ Jvm.staticLocs frame_1_statics s) 0 0 → Post tb e args s (.returned v) u) :
    ArmFor flags0 classFile x code maxLocals ret World_1 tables_1 room_1 Calls_1 rest_1 Pre_1 Post := by
  intro l hfl _ _ p e ha hc hk s m args below hf hA hF happ hP
  obtain ⟨hcalls, hrest, hpre⟩ := hP
  obtain ⟨-, -, -, hnamed, -, -, -, hat⟩ := (Spec.applies_iff hf).mp happ
  obtain ⟨hg, hn⟩ := and_e (Cond.before_iff.mp (show (Jvm.Cond.and given_1 narrow_1).before args s = true from hpre))
  obtain ⟨hg0, hgr0⟩ := and_e hg
  obtain ⟨hga0, hgr1⟩ := and_e hgr0
  have hga1 := hgr1
  obtain ⟨w0, w1, rfl⟩ : ∃ w0 w1 : Value, args = #[w0, w1] := by
    have hs : args.size = 2 := by simpa [Cond.value, given_1] using hg0
    obtain ⟨L⟩ := args
    match L, hs with
    | [w0, w1], _ => exact ⟨w0, w1, rfl⟩
  have hw := fun d (hd : d ∈ tables_1) => atoms_spec (ws := Jvm.Cond.code x code maxLocals ret :: tables_1) hat d (List.mem_cons_of_mem _ hd)
  have hfit : Fit s := fun {y c} hc i hi => by
    obtain ⟨ha, rfl⟩ := Array.getElem?_eq_some_iff.mp hc
    have q := List.all_eq_true.mp ((Array.all_eq_true_iff_forall_mem.mp hF) _ (Array.getElem_mem ha)) i (List.mem_range.mpr hi)
    simpa [Array.getElem?_eq_getElem hi] using q
  obtain ⟨i0, ei0⟩ := is_v hga0
  obtain rfl : w0 = (.int i0) := Option.some.inj ei0
  obtain ⟨i1, ei1⟩ := is_v hga1
  obtain rfl : w1 = (.int i1) := Option.some.inj ei1
  obtain ⟨na0, nar0⟩ := and_e hn
  obtain ⟨na1, nar1⟩ := and_e nar0
  obtain ⟨na2, nar2⟩ := and_e nar1
  obtain ⟨na3, nar3⟩ := and_e nar2
  obtain ⟨na4, nar4⟩ := and_e nar3
  obtain ⟨na5, nar5⟩ := and_e nar4
  obtain ⟨na6, nar6⟩ := and_e nar5
  obtain ⟨na7, nar7⟩ := and_e nar6
  obtain ⟨na8, nar8⟩ := and_e nar7
  obtain ⟨na9, nar9⟩ := and_e nar8
  obtain ⟨na10, nar10⟩ := and_e nar9
  obtain ⟨na11, nar11⟩ := and_e nar10
  obtain ⟨na12, nar12⟩ := and_e nar11
  obtain ⟨na13, nar13⟩ := and_e nar12
  have na14 := nar13
  obtain ⟨c0, ev0, ex0, sta0⟩ := own_enum na0 (hw _ (List.mem_of_getElem? (i := 9) rfl)) (hw _ (List.mem_of_getElem? (i := 10) rfl))
  obtain ⟨c1, ev1, ex1, sta1⟩ := own_enum na6 (hw _ (List.mem_of_getElem? (i := 9) rfl)) (hw _ (List.mem_of_getElem? (i := 23) rfl))
  obtain ⟨c2, ev2, ex2, sta2⟩ := own_enum na12 (hw _ (List.mem_of_getElem? (i := 9) rfl)) (hw _ (List.mem_of_getElem? (i := 25) rfl))
  obtain ⟨c3, ev3, ex3, sta3⟩ := own_enum na1 (hw _ (List.mem_of_getElem? (i := 9) rfl)) (hw _ (List.mem_of_getElem? (i := 12) rfl))
  obtain ⟨c4, ev4, ex4, sta4⟩ := own_enum na5 (hw _ (List.mem_of_getElem? (i := 9) rfl)) (hw _ (List.mem_of_getElem? (i := 21) rfl))
  have ord0 := own_fld ev0 (Term.int_eval 0) na3
  have als0 := own_fld ev0 null_at na4
  have ord1 := own_fld ev1 (Term.int_eval 1) na7
  have als1 := own_fld ev1 null_at na11
  have ord2 := own_fld ev2 (Term.int_eval 2) na13
  have als2 := own_fld ev2 null_at na14
  have ord3 := own_fld ev3 (Term.int_eval 3) na2
  have als3 := own_fld ev3 null_at na10
  have ord4 := own_fld ev4 (Term.int_eval 4) na8
  have als4 := own_fld ev4 ev0 na9
  have hE : ∀ i : Int32, Exa s s.heap (own_pick i c0 c1 c2 c3 c4) "com/example/strict_conformance/strictconformance/DeviceType" := fun i => by unfold own_pick; split; exact ex0; split; exact ex1; split; exact ex2; split; exact ex3; exact ex4
  have hO : ∀ i : Int32, own_in i → Fld s s.heap (own_pick i c0 c1 c2 c3 c4) "java/lang/Enum" "ordinal" "I" (.int i) := fun i h => by rcases h with rfl | rfl | rfl | rfl | rfl; exact ord0; exact ord1; exact ord2; exact ord3; exact ord4
  have hN : ∀ i : Int32, own_in i → ¬ i = 4 → Fld s s.heap (own_pick i c0 c1 c2 c3 c4) "com/example/strict_conformance/strictconformance/DeviceType" "alsoHeldTo" "Lcom/example/strict_conformance/strictconformance/DeviceType;" .null := fun i h q => by rcases h with rfl | rfl | rfl | rfl | rfl; exact als0; exact als1; exact als2; exact als3; exact absurd rfl q
  have hT : ∀ i : Int32, i = 4 → Fld s s.heap (own_pick i c0 c1 c2 c3 c4) "com/example/strict_conformance/strictconformance/DeviceType" "alsoHeldTo" "Lcom/example/strict_conformance/strictconformance/DeviceType;" (.ref c0) := fun i h => by subst h; exact als4
  obtain ⟨n, o, h1, h2, h3, _, L, rfl, ⟨rfl, N⟩, hq⟩ := rm0 l s _ hw tables_1 i0 i1 c0 c1 c2 c3 c4 s.heap s.heap.size (Nat.le_refl _) (Old.start s) sta0 sta1 sta2 sta3 sta4 hE hO hN hT p e ha hc hk s m _ below hf ((Spec.applies_iff_loose hf).mp happ).1 ⟨rfl, State.Warmed39.refl s, rfl⟩ trivial
  refine ⟨n, _, h1, h2, h3, hpost _ _ _ _ _ _ ⟨Cond.after_iff.mpr rfl, Cond.after_iff.mpr (eq_i res_at (Term.int_eval (1)) rfl), trivial⟩ ⟨hq.1, hq.2.1, (hq.2.2.sift fun y hy => Or.inr (N y hy)).mono (by decide) (by decide)⟩⟩
theorem main_1_1 : Claimed_1_1 := comes_1 fun _ _ _ _ _ _ h hF => ⟨h.1, hF⟩
theorem main_1_2 : Claimed_1_2 := comes_1 fun _ _ _ _ _ _ h hF => ⟨h.2.1, hF⟩
end Jvm.Pilot.@@N@@
namespace Jvm.Pilot.@@N@@
open Jvm Jvm.ClassFile Sem Op Lib Jvm.Free Jvm.Stand Jvm.Pilot.@@N@@.Jvm.D
/-! MADE BY PROGRAM (witnessworld.py) out of the Statement's table words and the real class files: 12 classes; the members and pool entries that the words name. The judged class is class 1, her method 3. -/
namespace start1
open Jvm.ClassFile
def u (s : String) : CpInfo := .utf8 (stringToUtf16 s)
/-- a pool by its gaps: so many unusable entries, then the entry; so many at the end -/
def gap : Nat → List CpInfo → List CpInfo
  | 0, r => r
  | n + 1, r => .unusable :: gap n r
def poolList (es : List (Nat × CpInfo)) (last : Nat) : List CpInfo := es.foldr (fun e r => gap e.1 (e.2 :: r)) (gap last [])
def pool (es : List (Nat × CpInfo)) (last : Nat) : Array CpInfo := ⟨poolList es last⟩
def fileOf (pool : Array CpInfo) (this : Nat) (attrs : Array Attribute := #[]) (ms : Array MethodInfo := #[]) (fl : Nat := 33) (sup : Nat := 0) (ifs : Array Nat := #[]) (fds : Array FieldInfo := #[]) : ClassFile where
  minorVersion := 0
  majorVersion := 65
  constantPool := pool
  accessFlags := fl
  thisClass := this
  superClass := sup
  interfaces := ifs
  fields := fds
  methods := ms
  attributes := attrs
def plain (name : String) (sup : Option ClassId) : Class where
  name := name
  kind := .ordinary
  loader := none
  accessFlags := 33
  super := sup
  interfaces := #[]
  cf := none
  fields := #[]
  methods := #[]
  instanceTypes := #[]
  staticTypes := #[]
  resolved := #[]
  callSites := []
  init := .initialized
  statics := none
  mirror := none

def pool0 : Array CpInfo := pool [(5, u "<init>"), (0, u "()V"), (1, .class_ 10), (1, u "java/lang/Object")] 113

def k0m0 : Method := { name := "<init>", desc := "()V", sig := { parameters := [], returnType := none }, accessFlags := 1, code := none }
/-- java/lang/Object -/
def k0 : Class := { plain "java/lang/Object" none with
  accessFlags := 33
  interfaces := #[]
  cf := some (fileOf pool0 8 #[] #[{ accessFlags := 1, nameIndex := 5, descriptorIndex := 6, attributes := #[] }] 33 0 #[] #[])
  fields := #[]
  methods := #[k0m0]
  instanceTypes := #[]
  staticTypes := #[]
  resolved := Array.replicate 124 none
  statics := none }

def pool1 : Array CpInfo := pool [(2, .class_ 4), (1, u "java/lang/Object"), (0, u "<init>"), (0, u "()V"), (0, .integer 2147483647), (0, .fieldref 9 10), (0, .class_ 11), (0, .nameAndType 12 13), (0, u "com/example/strict_conformance/strictconformance/DeviceType"), (0, u "HANDHELD"), (0, u "Lcom/example/strict_conformance/strictconformance/DeviceType;"), (0, .fieldref 9 15), (0, .nameAndType 16 13), (0, u "TELEVISION"), (0, .fieldref 9 18), (0, .nameAndType 19 13), (0, u "WATCH"), (0, .fieldref 9 21), (0, .nameAndType 22 13), (0, u "AUTOMOTIVE"), (0, .fieldref 9 24), (0, .nameAndType 25 13), (0, u "TABLET"), (0, .methodref 27 28), (0, .class_ 29), (0, .nameAndType 30 31), (0, u "com/example/strict_conformance/strictconformance/DeviceTypeIsHeldToPinLaw"), (0, u "index"), (0, u "(I)I"), (0, .methodref 27 33), (0, .nameAndType 34 35), (0, u "pick"), (0, u "(I)Lcom/example/strict_conformance/strictconformance/DeviceType;"), (0, .methodref 9 37), (0, .nameAndType 38 39), (0, u "isHeldTo"), (0, u "(Lcom/example/strict_conformance/strictconformance/DeviceType;)Z"), (3, u "law"), (0, u "(II)Z")] 2

def k1m0 : Method := { name := "<init>", desc := "()V", sig := { parameters := [], returnType := none }, accessFlags := 1, code := none }
def k1c1 : Code := { maxStack := 2, maxLocals := 1, code := method_2_code, exceptionTable := #[], attributes := #[] }
def k1m1 : Method := { name := "index", desc := "(I)I", sig := { parameters := [.int], returnType := some .int }, accessFlags := 10, code := some k1c1 }
def k1c2 : Code := { maxStack := 2, maxLocals := 1, code := method_3_code, exceptionTable := #[], attributes := #[] }
def k1m2 : Method := { name := "pick", desc := "(I)Lcom/example/strict_conformance/strictconformance/DeviceType;", sig := { parameters := [.int], returnType := some (.object "com/example/strict_conformance/strictconformance/DeviceType") }, accessFlags := 10, code := some k1c2 }
def k1c3 : Code := { maxStack := 2, maxLocals := 7, code := code, exceptionTable := #[], attributes := #[] }
def k1m3 : Method := { name := "law", desc := "(II)Z", sig := { parameters := [.int, .int], returnType := some .boolean }, accessFlags := 9, code := some k1c3 }
/-- com/example/strict_conformance/strictconformance/DeviceTypeIsHeldToPinLaw -/
def k1 : Class := { plain "com/example/strict_conformance/strictconformance/DeviceTypeIsHeldToPinLaw" (some 0) with
  accessFlags := 49
  interfaces := #[]
  cf := some (fileOf pool1 27 #[] #[{ accessFlags := 1, nameIndex := 5, descriptorIndex := 6, attributes := #[] }, { accessFlags := 10, nameIndex := 30, descriptorIndex := 31, attributes := #[] }, { accessFlags := 10, nameIndex := 34, descriptorIndex := 35, attributes := #[] }, { accessFlags := 9, nameIndex := 43, descriptorIndex := 44, attributes := #[] }] 49 2 #[] #[])
  fields := #[]
  methods := #[k1m0, k1m1, k1m2, k1m3]
  instanceTypes := #[]
  staticTypes := #[]
  resolved := Array.replicate 47 none
  statics := none }

def pool2 : Array CpInfo := pool [(1, .class_ 2), (0, u "java/lang/constant/Constable"), (0, .class_ 4), (0, u "java/lang/Object")] 6

/-- java/lang/constant/Constable -/
def k2 : Class := { plain "java/lang/constant/Constable" (some 0) with
  accessFlags := 1537
  interfaces := #[]
  cf := some (fileOf pool2 1 #[] #[] 1537 3 #[] #[])
  fields := #[]
  methods := #[]
  instanceTypes := #[]
  staticTypes := #[]
  resolved := Array.replicate 11 none
  statics := none }

def pool3 : Array CpInfo := pool [(1, .class_ 2), (0, u "java/lang/Comparable"), (0, .class_ 4), (0, u "java/lang/Object")] 7

/-- java/lang/Comparable -/
def k3 : Class := { plain "java/lang/Comparable" (some 0) with
  accessFlags := 1537
  interfaces := #[]
  cf := some (fileOf pool3 1 #[] #[] 1537 3 #[] #[])
  fields := #[]
  methods := #[]
  instanceTypes := #[]
  staticTypes := #[]
  resolved := Array.replicate 12 none
  statics := none }

def pool4 : Array CpInfo := pool [(1, .class_ 2), (0, u "java/io/Serializable"), (0, .class_ 4), (0, u "java/lang/Object")] 2

/-- java/io/Serializable -/
def k4 : Class := { plain "java/io/Serializable" (some 0) with
  accessFlags := 1537
  interfaces := #[]
  cf := some (fileOf pool4 1 #[] #[] 1537 3 #[] #[])
  fields := #[]
  methods := #[]
  instanceTypes := #[]
  staticTypes := #[]
  resolved := Array.replicate 7 none
  statics := none }

def pool5 : Array CpInfo := pool [(2, .class_ 4), (1, u "java/lang/Enum"), (0, u "name"), (0, u "Ljava/lang/String;"), (2, u "ordinal"), (0, u "I"), (1, .class_ 14), (1, u "java/lang/Object"), (4, u "hash"), (86, .class_ 108), (1, u "java/lang/Enum$EnumDesc"), (2, .class_ 112), (0, u "java/lang/constant/Constable"), (0, .class_ 114), (0, u "java/lang/Comparable"), (0, .class_ 116), (0, u "java/io/Serializable")] 87

/-- java/lang/Enum -/
def k5 : Class := { plain "java/lang/Enum" (some 0) with
  accessFlags := 1057
  interfaces := #[2, 3, 4]
  cf := some (fileOf pool5 2 #[.nestMembers #[106]] #[] 1057 12 #[111, 113, 115] #[{ accessFlags := 18, nameIndex := 5, descriptorIndex := 6, attributes := #[] }, { accessFlags := 18, nameIndex := 9, descriptorIndex := 10, attributes := #[] }, { accessFlags := 2, nameIndex := 19, descriptorIndex := 10, attributes := #[] }])
  fields := #[{ name := "name", type := (.object "java/lang/String"), accessFlags := 18, slot := 0, constantValue := 0 }, { name := "ordinal", type := .int, accessFlags := 18, slot := 1, constantValue := 0 }, { name := "hash", type := .int, accessFlags := 2, slot := 2, constantValue := 0 }]
  methods := #[]
  instanceTypes := #[(.object "java/lang/String"), .int, .int]
  staticTypes := #[]
  resolved := Array.replicate 204 none
  statics := none }

def pool6 : Array CpInfo := pool [(1, .class_ 2), (0, u "com/example/strict_conformance/strictconformance/DeviceType"), (2, u "HANDHELD"), (0, u "Lcom/example/strict_conformance/strictconformance/DeviceType;"), (2, u "TELEVISION"), (2, u "WATCH"), (2, u "AUTOMOTIVE"), (2, u "TABLET"), (2, u "$VALUES"), (0, u "[Lcom/example/strict_conformance/strictconformance/DeviceType;"), (6, .class_ 31), (1, u "java/lang/Enum"), (8, u "label"), (0, u "Ljava/lang/String;"), (0, .fieldref 1 43), (0, .nameAndType 44 6), (0, u "alsoHeldTo"), (82, u "isHeldTo"), (0, u "(Lcom/example/strict_conformance/strictconformance/DeviceType;)Z")] 34

def k6c0 : Code := { maxStack := 2, maxLocals := 2, code := prog_20_method_7_code, exceptionTable := #[], attributes := #[] }
def k6m0 : Method := { name := "isHeldTo", desc := "(Lcom/example/strict_conformance/strictconformance/DeviceType;)Z", sig := { parameters := [(.object "com/example/strict_conformance/strictconformance/DeviceType")], returnType := some .boolean }, accessFlags := 1, code := some k6c0 }
/-- com/example/strict_conformance/strictconformance/DeviceType -/
def k6 : Class := { plain "com/example/strict_conformance/strictconformance/DeviceType" (some 5) with
  accessFlags := 16433
  interfaces := #[]
  cf := some (fileOf pool6 1 #[] #[{ accessFlags := 1, nameIndex := 127, descriptorIndex := 128, attributes := #[] }] 16433 29 #[] #[{ accessFlags := 16409, nameIndex := 5, descriptorIndex := 6, attributes := #[] }, { accessFlags := 16409, nameIndex := 9, descriptorIndex := 6, attributes := #[] }, { accessFlags := 16409, nameIndex := 12, descriptorIndex := 6, attributes := #[] }, { accessFlags := 16409, nameIndex := 15, descriptorIndex := 6, attributes := #[] }, { accessFlags := 16409, nameIndex := 18, descriptorIndex := 6, attributes := #[] }, { accessFlags := 18, nameIndex := 40, descriptorIndex := 41, attributes := #[] }, { accessFlags := 18, nameIndex := 44, descriptorIndex := 6, attributes := #[] }, { accessFlags := 4122, nameIndex := 21, descriptorIndex := 22, attributes := #[] }])
  fields := #[{ name := "HANDHELD", type := (.object "com/example/strict_conformance/strictconformance/DeviceType"), accessFlags := 16409, slot := 0, constantValue := 0 }, { name := "TELEVISION", type := (.object "com/example/strict_conformance/strictconformance/DeviceType"), accessFlags := 16409, slot := 1, constantValue := 0 }, { name := "WATCH", type := (.object "com/example/strict_conformance/strictconformance/DeviceType"), accessFlags := 16409, slot := 2, constantValue := 0 }, { name := "AUTOMOTIVE", type := (.object "com/example/strict_conformance/strictconformance/DeviceType"), accessFlags := 16409, slot := 3, constantValue := 0 }, { name := "TABLET", type := (.object "com/example/strict_conformance/strictconformance/DeviceType"), accessFlags := 16409, slot := 4, constantValue := 0 }, { name := "label", type := (.object "java/lang/String"), accessFlags := 18, slot := 3, constantValue := 0 }, { name := "alsoHeldTo", type := (.object "com/example/strict_conformance/strictconformance/DeviceType"), accessFlags := 18, slot := 4, constantValue := 0 }, { name := "$VALUES", type := (.array (.object "com/example/strict_conformance/strictconformance/DeviceType")), accessFlags := 4122, slot := 5, constantValue := 0 }]
  methods := #[k6m0]
  instanceTypes := #[(.object "java/lang/String"), .int, .int, (.object "java/lang/String"), (.object "com/example/strict_conformance/strictconformance/DeviceType")]
  staticTypes := #[(.object "com/example/strict_conformance/strictconformance/DeviceType"), (.object "com/example/strict_conformance/strictconformance/DeviceType"), (.object "com/example/strict_conformance/strictconformance/DeviceType"), (.object "com/example/strict_conformance/strictconformance/DeviceType"), (.object "com/example/strict_conformance/strictconformance/DeviceType"), (.array (.object "com/example/strict_conformance/strictconformance/DeviceType"))]
  resolved := Array.replicate 163 none
  statics := some 0 }

def pool7 : Array CpInfo := pool [(1, u "java/lang/Cloneable"), (0, .class_ 1), (0, u "java/lang/Object"), (0, .class_ 3)] 3

/-- java/lang/Cloneable -/
def k7 : Class := { plain "java/lang/Cloneable" (some 0) with
  accessFlags := 1537
  interfaces := #[]
  cf := some (fileOf pool7 2 #[] #[] 1537 4 #[] #[])
  fields := #[]
  methods := #[]
  instanceTypes := #[]
  staticTypes := #[]
  resolved := Array.replicate 8 none
  statics := none }

/-- the primitive byte -/
def k8 : Class := { plain "byte" none with kind := .primitive 'B', accessFlags := 0x411 }
/-- [B -/
def k9 : Class := { plain "[B" (some 0) with kind := .array 8 .byte, interfaces := #[7, 4], accessFlags := 1041 }

/-- the primitive int -/
def k10 : Class := { plain "int" none with kind := .primitive 'I', accessFlags := 0x411 }
/-- [I -/
def k11 : Class := { plain "[I" (some 0) with kind := .array 10 .int, interfaces := #[7, 4], accessFlags := 1041 }

def heap : Heap := #[{ cls := 6, slots := #[.ref 1, .ref 2, .ref 3, .ref 4, .ref 5, .null], vm := .statics 6 },
  { cls := 6, slots := #[.null, .int 0, .int 0, .null, .null], vm := .none },
  { cls := 6, slots := #[.null, .int 1, .int 0, .null, .null], vm := .none },
  { cls := 6, slots := #[.null, .int 2, .int 0, .null, .null], vm := .none },
  { cls := 6, slots := #[.null, .int 3, .int 0, .null, .null], vm := .none },
  { cls := 6, slots := #[.null, .int 4, .int 0, .null, .ref 1], vm := .none }]
def classes : Array Class := #[k0, k1, k2, k3, k4, k5, k6, k7, k8, k9, k10, k11]
def interned : List (Array UInt16 × Addr) := []
def slotsUsed : Nat := 31
def theMethod : MethodId := ⟨1, 3⟩
def args0 : Array Value := #[.int 5, .int 7]
def aboutOver (below : List Frame) : State where
  vm := { classes := classes, interned := interned.toArray }
  heap := heap
  slotsUsed := slotsUsed
  threads := #[{ frames := .invoking theMethod args0 :: below }]
def below0 : List Frame := [.native { method := ⟨0, 0⟩, args := #[] }]
def about1 : State := aboutOver below0
def p0 : Program := .bare "" "" ""
def e0 : Env := launch0.env 0 0 0
theorem w_frames : about1.frames = Frame.invoking theMethod args0 :: below0 := rfl
set_option maxRecDepth 65536 in
theorem w_args : argsFit about1.vm theMethod args0 = true := by decide +kernel
set_option maxRecDepth 65536 in
theorem w_heap : heapFits about1 = true := by decide +kernel
set_option maxRecDepth 65536 in
theorem w_runnable : about1.curStatus? = some .runnable := by decide +kernel
set_option maxRecDepth 65536 in
theorem w_alone : about1.alone = true := by decide +kernel
set_option maxRecDepth 65536 in
theorem w_named : about1.methodNamed? x = some theMethod := by decide +kernel
set_option maxRecDepth 65536 in
theorem w_hears : about1.hears theMethod below0 = true := by decide +kernel
set_option maxRecDepth 65536 in
theorem w_ripe : about1.ripe theMethod args0 below0 = true := by decide +kernel
theorem w_running : about1.status = .running := rfl
set_option maxRecDepth 65536 in
theorem w_room : about1.hasRoom e0.platform room_1 = true :=
  launch0.hasRoom_least _ room_1 (by decide +kernel) (by decide +kernel) (by decide +kernel) (by decide +kernel) (by decide +kernel) (by decide +kernel)
theorem allAtoms_all (ts : List Jvm.Cond) (a : Array Jvm.Value) (st : Jvm.State) : (allAtoms ts).before a st = ts.all (fun c => c.before a st) := by
  induction ts with
  | nil => rfl
  | cons c t ih =>
    show (Jvm.Cond.and c (allAtoms t)).before a st = _
    rw [Jvm.Cond.before_and, ih, List.all_cons]
def words1 : List Jvm.Cond := Jvm.Cond.code x code maxLocals ret :: tables_1
/-- a 'code' word, met by the world's own term for the bytes: nothing is compared byte by byte -/
theorem code_word {y : MethodName} {bytes : ByteArray} {mx : Nat} {rt : Option FieldType} {a : Array Value} {s : State} {m : MethodId} {meth : Method} {c : Code} (h1 : s.methodNamed? y = some m) (h2 : s.vm.method? m = some meth) (h3 : meth.code = some c) (h4 : c.code = bytes)
    (h5 : (c.maxLocals == mx && c.exceptionTable.isEmpty && decide (c.maxStack ≤ mostOperands) && decide (meth.sig.returnType = rt) && !meth.locks && decide (parseMethodDescriptor y.desc = some meth.sig)) = true) : (Jvm.Cond.code y bytes mx rt).before a s = true := by
  simp only [Bool.and_eq_true, beq_iff_eq, Bool.not_eq_true', decide_eq_true_eq] at h5
  obtain ⟨⟨⟨⟨⟨g1, g2⟩, g3⟩, g4⟩, g5⟩, g6⟩ := h5
  simp [Cond.before, Cond.holds, Cond.value, h1, h2, h3, h4, g1, g2, g3, g4, g5, g6]
def isCode : Jvm.Cond → Bool
  | .code _ _ _ _ => true
  | _ => false
theorem all_split {L : List Jvm.Cond} {P : Jvm.Cond → Bool} (h1 : L.all (fun c => isCode c || P c) = true) (h2 : ∀ c ∈ L.filter isCode, P c = true) : L.all P = true := by
  refine List.all_eq_true.mpr fun c hc => ?_
  have h := List.all_eq_true.mp h1 c hc
  rcases Bool.eq_false_or_eq_true (isCode c) with hi | hi
  · exact h2 c (List.mem_filter.mpr ⟨hc, hi⟩)
  · simpa [hi] using h
set_option maxRecDepth 65536 in
theorem w_c0 : (Jvm.Cond.code x code maxLocals ret).before args0 about1 = true := code_word (m := ⟨1, 3⟩) (meth := k1m3) (c := k1c3) (by decide +kernel) rfl rfl rfl (by decide +kernel)
set_option maxRecDepth 65536 in
theorem w_c1 : (Jvm.Cond.code ({ cls := "com/example/strict_conformance/strictconformance/DeviceTypeIsHeldToPinLaw", name := "index", desc := "(I)I" } : Jvm.MethodName) method_2_code (1 : Nat) (Option.some Jvm.ClassFile.FieldType.int)).before args0 about1 = true := code_word (m := ⟨1, 1⟩) (meth := k1m1) (c := k1c1) (by decide +kernel) rfl rfl rfl (by decide +kernel)
set_option maxRecDepth 65536 in
theorem w_c2 : (Jvm.Cond.code ({ cls := "com/example/strict_conformance/strictconformance/DeviceTypeIsHeldToPinLaw", name := "pick", desc := "(I)Lcom/example/strict_conformance/strictconformance/DeviceType;" } : Jvm.MethodName) method_3_code (1 : Nat) (Option.some (Jvm.ClassFile.FieldType.object "com/example/strict_conformance/strictconformance/DeviceType"))).before args0 about1 = true := code_word (m := ⟨1, 2⟩) (meth := k1m2) (c := k1c2) (by decide +kernel) rfl rfl rfl (by decide +kernel)
set_option maxRecDepth 65536 in
theorem w_c3 : (Jvm.Cond.code ({ cls := "com/example/strict_conformance/strictconformance/DeviceType", name := "isHeldTo", desc := "(Lcom/example/strict_conformance/strictconformance/DeviceType;)Z" } : Jvm.MethodName) prog_20_method_7_code (2 : Nat) (Option.some Jvm.ClassFile.FieldType.boolean)).before args0 about1 = true := code_word (m := ⟨6, 0⟩) (meth := k6m0) (c := k6c0) (by decide +kernel) rfl rfl rfl (by decide +kernel)
def codes1 : List Jvm.Cond := [Jvm.Cond.code x code maxLocals ret, Jvm.Cond.code ({ cls := "com/example/strict_conformance/strictconformance/DeviceTypeIsHeldToPinLaw", name := "index", desc := "(I)I" } : Jvm.MethodName) method_2_code (1 : Nat) (Option.some Jvm.ClassFile.FieldType.int), Jvm.Cond.code ({ cls := "com/example/strict_conformance/strictconformance/DeviceTypeIsHeldToPinLaw", name := "pick", desc := "(I)Lcom/example/strict_conformance/strictconformance/DeviceType;" } : Jvm.MethodName) method_3_code (1 : Nat) (Option.some (Jvm.ClassFile.FieldType.object "com/example/strict_conformance/strictconformance/DeviceType")), Jvm.Cond.code ({ cls := "com/example/strict_conformance/strictconformance/DeviceType", name := "isHeldTo", desc := "(Lcom/example/strict_conformance/strictconformance/DeviceType;)Z" } : Jvm.MethodName) prog_20_method_7_code (2 : Nat) (Option.some Jvm.ClassFile.FieldType.boolean)]
set_option maxRecDepth 65536 in
theorem codes_eq : words1.filter isCode = codes1 := rfl
theorem w_codes : ∀ c ∈ words1.filter isCode, c.before args0 about1 = true := by
  rw [codes_eq]
  intro c hc
  simp only [codes1, List.mem_cons, List.not_mem_nil, or_false] at hc
  rcases hc with rfl | rfl | rfl | rfl
  · exact w_c0
  · exact w_c1
  · exact w_c2
  · exact w_c3
set_option maxRecDepth 65536 in
theorem w_t1 : (words1.take 24).all (fun c => isCode c || c.before args0 about1) = true := by decide +kernel
set_option maxRecDepth 65536 in
theorem w_t2 : (words1.drop 24).all (fun c => isCode c || c.before args0 about1) = true := by decide +kernel
theorem w_tables : (allAtoms (Jvm.Cond.code x code maxLocals ret :: tables_1)).before args0 about1 = true := by
  rw [allAtoms_all]
  show words1.all (fun c => c.before args0 about1) = true
  refine all_split ?_ w_codes
  rw [← List.take_append_drop 24 words1, List.all_append, w_t1, w_t2]
  rfl
set_option maxRecDepth 65536 in
theorem w_case : (Jvm.Cond.and given_1 narrow_1).before args0 about1 = true := by decide +kernel
theorem w_applies : (headSpec (Jvm.Cond.code x code maxLocals ret :: tables_1) room_1).applies x e0.platform about1 = true :=
  (Spec.applies_iff w_frames).mpr ⟨w_running, w_runnable, w_alone, w_named, w_hears, w_ripe, w_room, w_tables⟩
theorem atStart : AtStart classFile x code maxLocals ret World_1 tables_1 room_1 Calls_1 rest_1 Pre_1 launch0 p0 e0 about1 theMethod args0 below0 :=
  ⟨lists_1, trivial, launch0.admits_env _ _ _, launch0.least_env, fairChoices_fair.cas, fairChoices_fair.clock, w_frames, w_args, w_heap, w_applies, trivial, trivial, w_case⟩
end start1
theorem witness_1 : WitnessClaimed_1 := ⟨start1.p0, start1.e0, start1.about1, start1.theMethod, start1.args0, start1.below0, start1.atStart⟩
end Jvm.Pilot.@@N@@
