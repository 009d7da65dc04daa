import JvmDerived
import JvmDerived.Pilot.@@N@@Statement
import JvmDerived.Pilot.@@N@@Code
set_option linter.unusedVariables false
set_option linter.unusedSimpArgs false
namespace Jvm.RoadKit
open Sem ClassFile Op Lib Jvm.Stand Jvm.Free Jvm.LawKit
section New
variable {p : Program} {l : Launch} {e : Env} {R : Room} {s : State} {m : MethodId} {args : Array Value} {below : List Frame} {meth : Method} {c : Code} {T : State} {locs : List Loc} {cells slots : Nat}
theorem retI (X : Stand p l e R s m args below meth c T locs cells slots) (hx : p.tables.exec = Jvm.exec) {pc : Nat} {Ls : Array Slot} {z : Int32} {rest : List Value} (hret : meth.sig.returnType = some .int) (hd : decode c.code pc = .ok (.ireturn, 1)) {fs : List Frame}
    (hl : ∀ (f : JFrame) (acts : List Action), f.method = m → f.locked = none → f.entered = [] → (doReturn e (T.setTop f) acts (some (.int z))).1 = T.setFrames fs) : Steps p.tables e below (T.setTop (mkF m pc Ls (.int z :: rest))) (T.setFrames fs) :=
  retOut X hx hret rfl (Or.inl ⟨rfl, Or.inl rfl, _, rfl⟩) hd hl
theorem own_fwd {tb : Tables} {e : Env} {below : List Frame} {P : State → Outcome → Prop} {A B : State} (h : ∀ t, Steps tb e below B t → Steps tb e below A t) (k : ∃ t o, Steps tb e below B t ∧ P t o) : ∃ t o, Steps tb e below A t ∧ P t o := by
  obtain ⟨t, o, h1, h2⟩ := k
  exact ⟨t, o, h t h1, h2⟩
theorem own_cut {tb : Tables} {e : Env} {below : List Frame} {P : State → Outcome → Prop} {A : State} {α : Type} {B : α → State} {H : α → Prop} (h : ∀ n, H n → ∃ t o, Steps tb e below (B n) t ∧ P t o) (k : (∀ n, H n → ∃ t o, Steps tb e below (B n) t ∧ P t o) → ∃ t o, Steps tb e below A t ∧ P t o) : ∃ t o, Steps tb e below A t ∧ P t o := k h
theorem own_selfP {s : State} {args : Array Value} {C : String} {x z y : MethodName} (h : (Cond.selects C x z).before args s = true) (hc : z.cls = y.cls) (hp : s.PrivateAt y) (hi : (Cond.instanceMethod y).before args s = true) (hy : y.cls ≠ "java/lang/invoke/MethodHandle" ∧ y.cls ≠ "java/lang/invoke/VarHandle") : (Cond.selects y.cls y y).before args s = true := by
  obtain ⟨c2, r2, m2, -, -, q3, -, kP, hkP, hkPi⟩ := Cond.selects_spec h
  exact selects_self_of_private (hc ▸ findClass_of_methodNamed q3) hkP hkPi hp hi hy
end New
/-- which slots of the cells of h0 may hold something else in h: (x, none): any of x's -/
def KeepF (h0 h : Heap) (ws : List (Addr × Option Nat)) : Prop := ∀ (x : Addr) (c c' : Cell), h0[x]? = some c → h[x]? = some c' → ∀ j, (x, none) ∉ ws → (x, some j) ∉ ws → c'.slots[j]? = c.slots[j]?
section Kf
variable {Z : State} {h h' h0 : Heap} {a b x : Addr} {C n d : String} {v w : Value} {sl : Nat} {ws' : List Addr} {fs fs' : List (Addr × Option Nat)} {o o' : Option Nat}
theorem KeepF.refl (h : Heap) (fs : List (Addr × Option Nat)) : KeepF h h fs := fun x c c' q q' j _ _ => by cases q.symm.trans q'; rfl
theorem KeepF.ext {ws : List Addr} (K : KeepF h0 h fs) (Kp : Keep h0 h ws) (E : Ext h h') : KeepF h0 h' fs := fun x c c' q q' j r1 r2 => by
  obtain ⟨c1, q1, -⟩ := Kp.2.2 x c q
  rw [← Option.some.inj ((E.2 x c1 q1).symm.trans q')]
  exact K x c c1 q q1 j r1 r2
theorem KeepF.trans {ws : List Addr} (K : KeepF h0 h fs) (Kp : Keep h0 h ws) (K' : KeepF h h' fs') (q : ∀ y ∈ fs', y ∈ fs ∨ (y.1, none) ∈ fs ∨ h0.size ≤ y.1) : KeepF h0 h' fs := fun x c c' q0 q' j r1 r2 => by
  obtain ⟨c1, q1, -⟩ := Kp.2.2 x c q0
  have lt := (Array.getElem?_eq_some_iff.mp q0).1
  have a1 : (x, none) ∉ fs' := fun z => (q _ z).elim r1 fun u => u.elim r1 fun u => absurd lt (Nat.not_lt.mpr u)
  have a2 : (x, some j) ∉ fs' := fun z => (q _ z).elim r2 fun u => u.elim r1 fun u => absurd lt (Nat.not_lt.mpr u)
  rw [K' x c1 c' q1 q' j a1 a2, K x c c1 q0 q1 j r1 r2]
theorem KeepF.of_wr (W : Wr h h' a sl v) : KeepF h h' [(a, some sl)] := fun x c c' q q' j r1 r2 => by
  obtain ⟨cb, e1, -, -, -, e5, e6, -⟩ := wr_at W q
  cases e1.symm.trans q'
  by_cases z : x = a
  · subst z
    exact e6 j fun u => r2 (by simp [u])
  · rw [e5 z]
theorem KeepF.wr {ws : List Addr} (K : KeepF h0 h fs) (Kp : Keep h0 h ws) (W : Wr h h' a sl v) (q : (a, some sl) ∈ fs ∨ (a, none) ∈ fs ∨ h0.size ≤ a) : KeepF h0 h' fs := K.trans Kp (KeepF.of_wr W) fun y hy => by cases List.mem_singleton.mp hy; exact q
theorem KeepF.of_keep {ws : List Addr} (Kp : Keep h0 h ws) (q : ∀ y ∈ ws, (y, none) ∈ fs) : KeepF h0 h fs := fun x c c' e e' j r1 r2 => by
  by_cases z : x ∈ ws
  · exact absurd (q x z) r1
  · cases (Kp.2.1 x c e z).symm.trans e'; rfl
theorem Fld.keepF {ws : List Addr} (F : Fld Z h a C n d v) (Kp : Keep h h' ws) (K : KeepF h h' fs) (q1 : (a, none) ∉ fs) (q2 : (a, some (Jvm.RoadKit.slotOf Z C n d)) ∉ fs) : Fld Z h' a C n d v := by
  obtain ⟨cell, cf, k, i, f, h1, h2, h3, h4, h5, h6, h7⟩ := F
  obtain ⟨c', e1, e2, e3, e4⟩ := Kp.2.2 a cell h1
  have es : slotOf Z C n d = f.slot := by simp [slotOf, h2]
  rw [es] at q2
  exact ⟨c', cf, k, i, f, e1, h2, h3, by rw [e3]; exact h4, by rw [e3]; exact h5, by rw [e2]; exact h6, by rw [K a cell c' h1 e1 _ q1 q2]; exact h7⟩
theorem fnin0 {y : Addr × Option Nat} : y ∉ ([] : List (Addr × Option Nat)) := fun q => nomatch q
theorem fninA (q : x ≠ b) (r : (x, o) ∉ fs) : (x, o) ∉ (b, o') :: fs := fun z => (List.mem_cons.mp z).elim (fun u => q (congrArg Prod.fst u)) r
theorem fninB (q : o ≠ o') (r : (x, o) ∉ fs) : (x, o) ∉ (b, o') :: fs := fun z => (List.mem_cons.mp z).elim (fun u => q (congrArg Prod.snd u)) r
theorem fall0 {P : Addr × Option Nat → Prop} : ∀ y ∈ ([] : List (Addr × Option Nat)), P y := fun _ q => nomatch q
theorem fallS {P : Addr × Option Nat → Prop} {y : Addr × Option Nat} (q : P y) (r : ∀ x ∈ fs, P x) : ∀ x ∈ y :: fs, P x := fun x z => (List.mem_cons.mp z).elim (fun u => u ▸ q) (r x)
end Kf
end Jvm.RoadKit
namespace Jvm.Pilot.@@N@@
open Jvm Jvm.ClassFile Sem Op Lib Jvm.Free Jvm.Stand Jvm.LawKit Jvm.RoadKit Bundle Jvm.Pilot.@@N@@.Jvm.D
theorem pd_0 : parseMethodDescriptor "(I)Lcom/example/xml_grammar_check/xmlgrammarcheck/datatypes/ValueKind;" = some ⟨[.int], some (.object "com/example/xml_grammar_check/xmlgrammarcheck/datatypes/ValueKind")⟩ := by decide +kernel
theorem pd_1 : parseMethodDescriptor "()Z" = some ⟨[], some .boolean⟩ := by decide +kernel
theorem pn_0 : plainName "com/example/xml_grammar_check/xmlgrammarcheck/datatypes/ValueKindIsOrderedPinLaw" = true := by first | (simp [plainName, overriddenIn]; done) | decide +kernel
theorem pn_1 : plainName "com/example/xml_grammar_check/xmlgrammarcheck/datatypes/ValueKind" = true := by first | (simp [plainName, overriddenIn]; done) | decide +kernel
theorem d1_0 : decode method_3_code 0 = .ok (.iload_n 0, 1) := by decide +kernel
theorem d1_1 : decode method_3_code 1 = .ok (.ifCond .ne 7, 3) := by decide +kernel
theorem d1_4 : decode method_3_code 4 = .ok (.getstatic 23, 3) := by decide +kernel
theorem d1_7 : decode method_3_code 7 = .ok (.areturn, 1) := by decide +kernel
theorem d1_8 : decode method_3_code 8 = .ok (.iload_n 0, 1) := by decide +kernel
theorem d1_9 : decode method_3_code 9 = .ok (.iconst 1, 1) := by decide +kernel
theorem d1_10 : decode method_3_code 10 = .ok (.if_icmp .ne 7, 3) := by decide +kernel
theorem d1_13 : decode method_3_code 13 = .ok (.getstatic 27, 3) := by decide +kernel
theorem d1_16 : decode method_3_code 16 = .ok (.areturn, 1) := by decide +kernel
theorem d1_17 : decode method_3_code 17 = .ok (.iload_n 0, 1) := by decide +kernel
theorem d1_18 : decode method_3_code 18 = .ok (.iconst 2, 1) := by decide +kernel
theorem d1_19 : decode method_3_code 19 = .ok (.if_icmp .ne 7, 3) := by decide +kernel
theorem d1_22 : decode method_3_code 22 = .ok (.getstatic 30, 3) := by decide +kernel
theorem d1_25 : decode method_3_code 25 = .ok (.areturn, 1) := by decide +kernel
theorem d1_26 : decode method_3_code 26 = .ok (.iload_n 0, 1) := by decide +kernel
theorem d1_27 : decode method_3_code 27 = .ok (.iconst 3, 1) := by decide +kernel
theorem d1_28 : decode method_3_code 28 = .ok (.if_icmp .ne 7, 3) := by decide +kernel
theorem d1_31 : decode method_3_code 31 = .ok (.getstatic 33, 3) := by decide +kernel
theorem d1_34 : decode method_3_code 34 = .ok (.areturn, 1) := by decide +kernel
theorem d1_35 : decode method_3_code 35 = .ok (.iload_n 0, 1) := by decide +kernel
theorem d1_36 : decode method_3_code 36 = .ok (.iconst 4, 1) := by decide +kernel
theorem d1_37 : decode method_3_code 37 = .ok (.if_icmp .ne 7, 3) := by decide +kernel
theorem d1_40 : decode method_3_code 40 = .ok (.getstatic 36, 3) := by decide +kernel
theorem d1_43 : decode method_3_code 43 = .ok (.areturn, 1) := by decide +kernel
theorem d1_44 : decode method_3_code 44 = .ok (.iload_n 0, 1) := by decide +kernel
theorem d1_45 : decode method_3_code 45 = .ok (.iconst 5, 1) := by decide +kernel
theorem d1_46 : decode method_3_code 46 = .ok (.if_icmp .ne 7, 3) := by decide +kernel
theorem d1_49 : decode method_3_code 49 = .ok (.getstatic 39, 3) := by decide +kernel
theorem d1_52 : decode method_3_code 52 = .ok (.areturn, 1) := by decide +kernel
theorem d1_53 : decode method_3_code 53 = .ok (.iload_n 0, 1) := by decide +kernel
theorem d1_54 : decode method_3_code 54 = .ok (.bipush 6, 2) := by decide +kernel
theorem d1_56 : decode method_3_code 56 = .ok (.if_icmp .ne 7, 3) := by decide +kernel
theorem d1_59 : decode method_3_code 59 = .ok (.getstatic 42, 3) := by decide +kernel
theorem d1_62 : decode method_3_code 62 = .ok (.areturn, 1) := by decide +kernel
theorem d1_63 : decode method_3_code 63 = .ok (.iload_n 0, 1) := by decide +kernel
theorem d1_64 : decode method_3_code 64 = .ok (.bipush 7, 2) := by decide +kernel
theorem d1_66 : decode method_3_code 66 = .ok (.if_icmp .ne 7, 3) := by decide +kernel
theorem d1_69 : decode method_3_code 69 = .ok (.getstatic 45, 3) := by decide +kernel
theorem d1_72 : decode method_3_code 72 = .ok (.areturn, 1) := by decide +kernel
theorem d1_73 : decode method_3_code 73 = .ok (.getstatic 48, 3) := by decide +kernel
theorem d1_76 : decode method_3_code 76 = .ok (.areturn, 1) := by decide +kernel
theorem d2_0 : decode prog_184_method_5_code 0 = .ok (.aload_n 0, 1) := by decide +kernel
theorem d2_1 : decode prog_184_method_5_code 1 = .ok (.getstatic 19, 3) := by decide +kernel
theorem d2_4 : decode prog_184_method_5_code 4 = .ok (.if_acmp .eq 24, 3) := by decide +kernel
theorem d2_7 : decode prog_184_method_5_code 7 = .ok (.aload_n 0, 1) := by decide +kernel
theorem d2_8 : decode prog_184_method_5_code 8 = .ok (.getstatic 22, 3) := by decide +kernel
theorem d2_11 : decode prog_184_method_5_code 11 = .ok (.if_acmp .eq 17, 3) := by decide +kernel
theorem d2_14 : decode prog_184_method_5_code 14 = .ok (.aload_n 0, 1) := by decide +kernel
theorem d2_15 : decode prog_184_method_5_code 15 = .ok (.getstatic 25, 3) := by decide +kernel
theorem d2_18 : decode prog_184_method_5_code 18 = .ok (.if_acmp .eq 10, 3) := by decide +kernel
theorem d2_21 : decode prog_184_method_5_code 21 = .ok (.aload_n 0, 1) := by decide +kernel
theorem d2_22 : decode prog_184_method_5_code 22 = .ok (.getstatic 28, 3) := by decide +kernel
theorem d2_25 : decode prog_184_method_5_code 25 = .ok (.if_acmp .ne 7, 3) := by decide +kernel
theorem d2_28 : decode prog_184_method_5_code 28 = .ok (.iconst 1, 1) := by decide +kernel
theorem d2_29 : decode prog_184_method_5_code 29 = .ok (.goto 4, 3) := by decide +kernel
theorem d2_32 : decode prog_184_method_5_code 32 = .ok (.iconst 0, 1) := by decide +kernel
theorem d2_33 : decode prog_184_method_5_code 33 = .ok (.ireturn, 1) := by decide +kernel
theorem d3_0 : decode prog_184_method_4_code 0 = .ok (.aload_n 0, 1) := by decide +kernel
theorem d3_1 : decode prog_184_method_4_code 1 = .ok (.getstatic 3, 3) := by decide +kernel
theorem d3_4 : decode prog_184_method_4_code 4 = .ok (.if_acmp .eq 24, 3) := by decide +kernel
theorem d3_7 : decode prog_184_method_4_code 7 = .ok (.aload_n 0, 1) := by decide +kernel
theorem d3_8 : decode prog_184_method_4_code 8 = .ok (.getstatic 7, 3) := by decide +kernel
theorem d3_11 : decode prog_184_method_4_code 11 = .ok (.if_acmp .eq 17, 3) := by decide +kernel
theorem d3_14 : decode prog_184_method_4_code 14 = .ok (.aload_n 0, 1) := by decide +kernel
theorem d3_15 : decode prog_184_method_4_code 15 = .ok (.getstatic 10, 3) := by decide +kernel
theorem d3_18 : decode prog_184_method_4_code 18 = .ok (.if_acmp .eq 10, 3) := by decide +kernel
theorem d3_21 : decode prog_184_method_4_code 21 = .ok (.aload_n 0, 1) := by decide +kernel
theorem d3_22 : decode prog_184_method_4_code 22 = .ok (.getstatic 13, 3) := by decide +kernel
theorem d3_25 : decode prog_184_method_4_code 25 = .ok (.if_acmp .ne 7, 3) := by decide +kernel
theorem d3_28 : decode prog_184_method_4_code 28 = .ok (.iconst 1, 1) := by decide +kernel
theorem d3_29 : decode prog_184_method_4_code 29 = .ok (.goto 4, 3) := by decide +kernel
theorem d3_32 : decode prog_184_method_4_code 32 = .ok (.iconst 0, 1) := by decide +kernel
theorem d3_33 : decode prog_184_method_4_code 33 = .ok (.ireturn, 1) := by decide +kernel
theorem own_eqv {args : Array Value} {s : State} {a b : Term} {v : Value} (hb : b.eval args s none [] s = some v) (h : (Jvm.Cond.eq a b).value args s none s [] = some true) : a.eval args s none [] s = some v := by
  cases ha : a.eval args s none [] s with
  | none => simp [Cond.value, ha] at h
  | some x => cases x <;> cases v <;> simp [Cond.value, ha, hb] at h ⊢ <;> exact h
theorem own_fld {args : Array Value} {s : State} {t b : Term} {x : Addr} {C f d : String} {v : Value} (ea : t.eval args s none [] s = some (.ref x)) (hb : b.eval args s none [] s = some v) (h : (Jvm.Cond.eq (.field t C f d) b).value args s none s [] = some true) : Fld s s.heap x C f d v :=
  Fld.start ((fld_at ea).symm.trans (own_eqv hb h))
theorem own_enum {args : Array Value} {s : State} {C f d K : String} (hx : (Jvm.Cond.exactly (.static C f d) K).value args s none s [] = some true) (hi : (Jvm.Cond.initialized C).before args s = true) (hl : (Jvm.Cond.laysStatic C f d).before args s = true) :
    ∃ a, (Term.static C f d).eval args s none [] s = some (.ref a) ∧ Exa s s.heap a K ∧ Sta s s.heap C f d (.ref a) := by
  obtain ⟨a, ea⟩ := exa_v hx
  exact ⟨a, ea, Exa.start ea hx, Sta.start ea (Or.inr ⟨hi, hl⟩)⟩
def own_pick (i : Int32) (w0 w1 w2 w3 w4 w5 w6 w7 w8 : Addr) : Addr := if i = 0 then w0 else if i = 1 then w1 else if i = 2 then w2 else if i = 3 then w3 else if i = 4 then w4 else if i = 5 then w5 else if i = 6 then w6 else if i = 7 then w7 else w8
def own_in (i : Int32) : Prop := i = 0 ∨ i = 1 ∨ i = 2 ∨ i = 3 ∨ i = 4 ∨ i = 5 ∨ i = 6 ∨ i = 7 ∨ i = 8
theorem own_idx (p : Int32) : own_in ((p &&& (2147483647 : Int32)) % (9 : Int32)) := by
  have h1 := c_mask p 2147483647 31 (by decide) (by decide)
  have h2 := (c_irem (p &&& (2147483647 : Int32)) 9 9 rfl).1 (by rw [h1]; omega)
  generalize (p &&& (2147483647 : Int32)) % (9 : Int32) = z at h2
  have e0 : (0 : Int32).toInt = 0 := rfl
  have e1 : (1 : Int32).toInt = 1 := rfl
  have e2 : (2 : Int32).toInt = 2 := rfl
  have e3 : (3 : Int32).toInt = 3 := rfl
  have e4 : (4 : Int32).toInt = 4 := rfl
  have e5 : (5 : Int32).toInt = 5 := rfl
  have e6 : (6 : Int32).toInt = 6 := rfl
  have e7 : (7 : Int32).toInt = 7 := rfl
  have e8 : (8 : Int32).toInt = 8 := rfl
  simp only [own_in, ← Int32.toInt_inj, e0, e1, e2, e3, e4, e5, e6, e7, e8]
  omega
def own_has (a b0 b1 b2 b3 : Addr) : Int32 := if a = b0 then 1 else if a = b1 then 1 else if a = b2 then 1 else if a = b3 then 1 else 0
def own_exp (i : Int32) : Int32 := if i = 0 then 1 else if i = 1 then 1 else if i = 2 then 1 else if i = 3 then 1 else 0
def Q_rmP (Z : State) (p1 : Int32) (w0 : Addr) (w1 : Addr) (w2 : Addr) (w3 : Addr) (w4 : Addr) (w5 : Addr) (w6 : Addr) (w7 : Addr) (w8 : Addr) (h0 : Heap) (n0 : Nat) (v : Option Value) (h : Heap) (L : List Loc) : Prop := v = some (.ref (own_pick p1 w0 w1 w2 w3 w4 w5 w6 w7 w8)) ∧ Fr n0 L ∧ h = h0
set_option maxRecDepth 65536 in
set_option maxHeartbeats 40000000 in
theorem rmP (l : Launch) (Z : State) (a0 : Array Value) (hw : ∀ d ∈ tables_1, d.before a0 Z = true) (ws : List Jvm.Cond) (p1 : Int32) (w0 : Addr) (w1 : Addr) (w2 : Addr) (w3 : Addr) (w4 : Addr) (w5 : Addr) (w6 : Addr) (w7 : Addr) (w8 : Addr) (h0 : Heap) (n0 : Nat) (Z0 : n0 ≤ h0.size) (O0 : Old Z n0 h0) (P0 : Sta Z Z.heap "com/example/xml_grammar_check/xmlgrammarcheck/datatypes/ValueKind" "TEXT" "Lcom/example/xml_grammar_check/xmlgrammarcheck/datatypes/ValueKind;" (.ref w0)) (P1 : Sta Z Z.heap "com/example/xml_grammar_check/xmlgrammarcheck/datatypes/ValueKind" "LIST" "Lcom/example/xml_grammar_check/xmlgrammarcheck/datatypes/ValueKind;" (.ref w1)) (P2 : Sta Z Z.heap "com/example/xml_grammar_check/xmlgrammarcheck/datatypes/ValueKind" "QNAME" "Lcom/example/xml_grammar_check/xmlgrammarcheck/datatypes/ValueKind;" (.ref w2)) (P3 : Sta Z Z.heap "com/example/xml_grammar_check/xmlgrammarcheck/datatypes/ValueKind" "OCTETS" "Lcom/example/xml_grammar_check/xmlgrammarcheck/datatypes/ValueKind;" (.ref w3)) (P4 : Sta Z Z.heap "com/example/xml_grammar_check/xmlgrammarcheck/datatypes/ValueKind" "BOOLEAN" "Lcom/example/xml_grammar_check/xmlgrammarcheck/datatypes/ValueKind;" (.ref w4)) (P5 : Sta Z Z.heap "com/example/xml_grammar_check/xmlgrammarcheck/datatypes/ValueKind" "DECIMAL" "Lcom/example/xml_grammar_check/xmlgrammarcheck/datatypes/ValueKind;" (.ref w5)) (P6 : Sta Z Z.heap "com/example/xml_grammar_check/xmlgrammarcheck/datatypes/ValueKind" "FLOATING" "Lcom/example/xml_grammar_check/xmlgrammarcheck/datatypes/ValueKind;" (.ref w6)) (P7 : Sta Z Z.heap "com/example/xml_grammar_check/xmlgrammarcheck/datatypes/ValueKind" "DURATION" "Lcom/example/xml_grammar_check/xmlgrammarcheck/datatypes/ValueKind;" (.ref w7)) (P8 : Sta Z Z.heap "com/example/xml_grammar_check/xmlgrammarcheck/datatypes/ValueKind" "DATE_TIME" "Lcom/example/xml_grammar_check/xmlgrammarcheck/datatypes/ValueKind;" (.ref w8)) :
    MetFree l (⟨"com/example/xml_grammar_check/xmlgrammarcheck/datatypes/ValueKindIsOrderedPinLaw", "pick", "(I)Lcom/example/xml_grammar_check/xmlgrammarcheck/datatypes/ValueKind;"⟩ : MethodName) (head1 (Jvm.Cond.code (⟨"com/example/xml_grammar_check/xmlgrammarcheck/datatypes/ValueKindIsOrderedPinLaw", "pick", "(I)Lcom/example/xml_grammar_check/xmlgrammarcheck/datatypes/ValueKind;"⟩ : MethodName) method_3_code 1 (some (.object "com/example/xml_grammar_check/xmlgrammarcheck/datatypes/ValueKind")) :: ws) ({ frames := 0, cells := 0, slots := 0, locals := 0 } : Room)) (fun a U => a = #[(.int p1)] ∧ Z.Warmed39 U.vm ∧ U.heap = h0) (fun _ _ _ _ _ => True) (fun _ U o U' => ∃ v L, o = .returned v ∧ Q_rmP Z p1 w0 w1 w2 w3 w4 w5 w6 w7 w8 h0 n0 v U'.heap L ∧ FrameEnd U o U' L ({ frames := 0, cells := 0, slots := 0, locals := 0 } : Room).cells ({ frames := 0, cells := 0, slots := 0, locals := 0 } : Room).slots) := by
  refine MetFree.of_bodySF (plainFor_of_name pn_0) hisR ?_
  intro p e s m args below meth c s₁ Bd hml0 hP hK
  obtain ⟨rfl, hZ, hh⟩ := hP
  have hx := Bd.exec
  have hby := Bd.bytes
  have hml : c.maxLocals = 1 := hml0
  have hown : s.vm.findClass "com/example/xml_grammar_check/xmlgrammarcheck/datatypes/ValueKindIsOrderedPinLaw" = some m.cls := findClass_of_methodNamed Bd.named
  have hnm := (name_of_methodNamed Bd.named Bd.method).1
  have X0 : Stand p l e ({ frames := 0, cells := 0, slots := 0, locals := 0 } : Room) s m #[(.int p1)] below meth c s₁ [] 0 0 := Stand.of_body Bd
  have e0 : s₁.heap = h0 := by rw [← hh, Bd.state]; rfl
  have N0 := Fr.nil n0
  have ef0 : entryFrame m #[(.int p1)] 1 = (mkF m 0 #[.val (.int p1)] []) := by first | (simp [entryFrame, mkF, argsToLocals, Value.category]; done) | rfl
  refine own_fwd (B := s₁.setTop (mkF m 0 #[.val (.int p1)] [])) (fun t k => castTop ef0 k) ?_
  refine own_fwd (B := s₁.setTop (mkF m 1 #[.val (.int p1)] [(.int p1)])) (fun t k => XS.iloadN X0.here hx rfl (hb hby d1_0) rfl k) ?_
  by_cases hc1 : p1 = (0 : Int32)
  · skip
    refine own_fwd (B := s₁.setTop (mkF m 4 #[.val (.int p1)] [])) (fun t k => XS.ifNo X0.here hx rfl (hb hby d1_1) rfl ((if0 _ _).trans (teq hc1).2) k) ?_
    obtain ⟨T1, X1, e1, st1⟩ := getS2 X0 hx hZ hown (host := "") (Or.inl (hw _ (List.mem_of_getElem? (i := 5) rfl))) Via.refl e0 (P0.ext O0.2) (g := (mkF m 4 #[.val (.int p1)] [])) rfl (hb hby d1_4)
    refine own_fwd (B := T1.setTop (mkF m 7 #[.val (.int p1)] [(.ref w0)])) (fun t k => st1 t k) ?_
    obtain ⟨fs, hr, hrun, hended, hW, hsame⟩ := X1.leave (v := some (.ref w0)) (fun h => by rw [Bd.returns] at h; cases h)
    refine ⟨_, _, retOut X1 hx Bd.returns rfl (Or.inr (Or.inr (Or.inr (Or.inr ⟨rfl, rfl, rfl⟩)))) (hb hby d1_7) hr, hrun, hended, _, _, rfl, ?_, ⟨_, rfl⟩, hW, hsame.mono (by decide) (by decide)⟩
    show Q_rmP Z p1 w0 w1 w2 w3 w4 w5 w6 w7 w8 h0 n0 _ T1.heap _
    rw [e1]
    exact ⟨by simp only [own_pick, if_pos hc1], N0, rfl⟩
  refine own_fwd (B := s₁.setTop (mkF m 8 #[.val (.int p1)] [])) (fun t k => XS.ifYes X0.here hx rfl (pc0 := 1) (pc' := 8) rfl (hb hby d1_1) rfl ((if0 _ _).trans (feq hc1).2) (by decide) (by decide) k) ?_
  refine own_fwd (B := s₁.setTop (mkF m 9 #[.val (.int p1)] [(.int p1)])) (fun t k => XS.iloadN X0.here hx rfl (hb hby d1_8) rfl k) ?_
  refine own_fwd (B := s₁.setTop (mkF m 10 #[.val (.int p1)] [(.int (1 : Int32)), (.int p1)])) (fun t k => XS.iconst X0.here hx rfl (hb hby d1_9) k) ?_
  by_cases hc10 : p1 = (1 : Int32)
  · skip
    refine own_fwd (B := s₁.setTop (mkF m 13 #[.val (.int p1)] [])) (fun t k => XS.icmpNo X0.here hx rfl (hb hby d1_10) rfl (teq hc10).2 k) ?_
    obtain ⟨T2, X2, e2, st2⟩ := getS2 X0 hx hZ hown (host := "") (Or.inl (hw _ (List.mem_of_getElem? (i := 25) rfl))) Via.refl e0 (P1.ext O0.2) (g := (mkF m 13 #[.val (.int p1)] [])) rfl (hb hby d1_13)
    refine own_fwd (B := T2.setTop (mkF m 16 #[.val (.int p1)] [(.ref w1)])) (fun t k => st2 t k) ?_
    obtain ⟨fs, hr, hrun, hended, hW, hsame⟩ := X2.leave (v := some (.ref w1)) (fun h => by rw [Bd.returns] at h; cases h)
    refine ⟨_, _, retOut X2 hx Bd.returns rfl (Or.inr (Or.inr (Or.inr (Or.inr ⟨rfl, rfl, rfl⟩)))) (hb hby d1_16) hr, hrun, hended, _, _, rfl, ?_, ⟨_, rfl⟩, hW, hsame.mono (by decide) (by decide)⟩
    show Q_rmP Z p1 w0 w1 w2 w3 w4 w5 w6 w7 w8 h0 n0 _ T2.heap _
    rw [e2]
    exact ⟨by simp only [own_pick, if_neg hc1, if_pos hc10], N0, rfl⟩
  refine own_fwd (B := s₁.setTop (mkF m 17 #[.val (.int p1)] [])) (fun t k => XS.icmpYes X0.here hx rfl (pc0 := 10) (pc' := 17) rfl (hb hby d1_10) rfl (feq hc10).2 (by decide) (by decide) k) ?_
  refine own_fwd (B := s₁.setTop (mkF m 18 #[.val (.int p1)] [(.int p1)])) (fun t k => XS.iloadN X0.here hx rfl (hb hby d1_17) rfl k) ?_
  refine own_fwd (B := s₁.setTop (mkF m 19 #[.val (.int p1)] [(.int (2 : Int32)), (.int p1)])) (fun t k => XS.iconst X0.here hx rfl (hb hby d1_18) k) ?_
  by_cases hc19 : p1 = (2 : Int32)
  · skip
    refine own_fwd (B := s₁.setTop (mkF m 22 #[.val (.int p1)] [])) (fun t k => XS.icmpNo X0.here hx rfl (hb hby d1_19) rfl (teq hc19).2 k) ?_
    obtain ⟨T3, X3, e3, st3⟩ := getS2 X0 hx hZ hown (host := "") (Or.inl (hw _ (List.mem_of_getElem? (i := 23) rfl))) Via.refl e0 (P2.ext O0.2) (g := (mkF m 22 #[.val (.int p1)] [])) rfl (hb hby d1_22)
    refine own_fwd (B := T3.setTop (mkF m 25 #[.val (.int p1)] [(.ref w2)])) (fun t k => st3 t k) ?_
    obtain ⟨fs, hr, hrun, hended, hW, hsame⟩ := X3.leave (v := some (.ref w2)) (fun h => by rw [Bd.returns] at h; cases h)
    refine ⟨_, _, retOut X3 hx Bd.returns rfl (Or.inr (Or.inr (Or.inr (Or.inr ⟨rfl, rfl, rfl⟩)))) (hb hby d1_25) hr, hrun, hended, _, _, rfl, ?_, ⟨_, rfl⟩, hW, hsame.mono (by decide) (by decide)⟩
    show Q_rmP Z p1 w0 w1 w2 w3 w4 w5 w6 w7 w8 h0 n0 _ T3.heap _
    rw [e3]
    exact ⟨by simp only [own_pick, if_neg hc1, if_neg hc10, if_pos hc19], N0, rfl⟩
  refine own_fwd (B := s₁.setTop (mkF m 26 #[.val (.int p1)] [])) (fun t k => XS.icmpYes X0.here hx rfl (pc0 := 19) (pc' := 26) rfl (hb hby d1_19) rfl (feq hc19).2 (by decide) (by decide) k) ?_
  refine own_fwd (B := s₁.setTop (mkF m 27 #[.val (.int p1)] [(.int p1)])) (fun t k => XS.iloadN X0.here hx rfl (hb hby d1_26) rfl k) ?_
  refine own_fwd (B := s₁.setTop (mkF m 28 #[.val (.int p1)] [(.int (3 : Int32)), (.int p1)])) (fun t k => XS.iconst X0.here hx rfl (hb hby d1_27) k) ?_
  by_cases hc28 : p1 = (3 : Int32)
  · skip
    refine own_fwd (B := s₁.setTop (mkF m 31 #[.val (.int p1)] [])) (fun t k => XS.icmpNo X0.here hx rfl (hb hby d1_28) rfl (teq hc28).2 k) ?_
    obtain ⟨T4, X4, e4, st4⟩ := getS2 X0 hx hZ hown (host := "") (Or.inl (hw _ (List.mem_of_getElem? (i := 21) rfl))) Via.refl e0 (P3.ext O0.2) (g := (mkF m 31 #[.val (.int p1)] [])) rfl (hb hby d1_31)
    refine own_fwd (B := T4.setTop (mkF m 34 #[.val (.int p1)] [(.ref w3)])) (fun t k => st4 t k) ?_
    obtain ⟨fs, hr, hrun, hended, hW, hsame⟩ := X4.leave (v := some (.ref w3)) (fun h => by rw [Bd.returns] at h; cases h)
    refine ⟨_, _, retOut X4 hx Bd.returns rfl (Or.inr (Or.inr (Or.inr (Or.inr ⟨rfl, rfl, rfl⟩)))) (hb hby d1_34) hr, hrun, hended, _, _, rfl, ?_, ⟨_, rfl⟩, hW, hsame.mono (by decide) (by decide)⟩
    show Q_rmP Z p1 w0 w1 w2 w3 w4 w5 w6 w7 w8 h0 n0 _ T4.heap _
    rw [e4]
    exact ⟨by simp only [own_pick, if_neg hc1, if_neg hc10, if_neg hc19, if_pos hc28], N0, rfl⟩
  refine own_fwd (B := s₁.setTop (mkF m 35 #[.val (.int p1)] [])) (fun t k => XS.icmpYes X0.here hx rfl (pc0 := 28) (pc' := 35) rfl (hb hby d1_28) rfl (feq hc28).2 (by decide) (by decide) k) ?_
  refine own_fwd (B := s₁.setTop (mkF m 36 #[.val (.int p1)] [(.int p1)])) (fun t k => XS.iloadN X0.here hx rfl (hb hby d1_35) rfl k) ?_
  refine own_fwd (B := s₁.setTop (mkF m 37 #[.val (.int p1)] [(.int (4 : Int32)), (.int p1)])) (fun t k => XS.iconst X0.here hx rfl (hb hby d1_36) k) ?_
  by_cases hc37 : p1 = (4 : Int32)
  · skip
    refine own_fwd (B := s₁.setTop (mkF m 40 #[.val (.int p1)] [])) (fun t k => XS.icmpNo X0.here hx rfl (hb hby d1_37) rfl (teq hc37).2 k) ?_
    obtain ⟨T5, X5, e5, st5⟩ := getS2 X0 hx hZ hown (host := "") (Or.inl (hw _ (List.mem_of_getElem? (i := 37) rfl))) Via.refl e0 (P4.ext O0.2) (g := (mkF m 40 #[.val (.int p1)] [])) rfl (hb hby d1_40)
    refine own_fwd (B := T5.setTop (mkF m 43 #[.val (.int p1)] [(.ref w4)])) (fun t k => st5 t k) ?_
    obtain ⟨fs, hr, hrun, hended, hW, hsame⟩ := X5.leave (v := some (.ref w4)) (fun h => by rw [Bd.returns] at h; cases h)
    refine ⟨_, _, retOut X5 hx Bd.returns rfl (Or.inr (Or.inr (Or.inr (Or.inr ⟨rfl, rfl, rfl⟩)))) (hb hby d1_43) hr, hrun, hended, _, _, rfl, ?_, ⟨_, rfl⟩, hW, hsame.mono (by decide) (by decide)⟩
    show Q_rmP Z p1 w0 w1 w2 w3 w4 w5 w6 w7 w8 h0 n0 _ T5.heap _
    rw [e5]
    exact ⟨by simp only [own_pick, if_neg hc1, if_neg hc10, if_neg hc19, if_neg hc28, if_pos hc37], N0, rfl⟩
  refine own_fwd (B := s₁.setTop (mkF m 44 #[.val (.int p1)] [])) (fun t k => XS.icmpYes X0.here hx rfl (pc0 := 37) (pc' := 44) rfl (hb hby d1_37) rfl (feq hc37).2 (by decide) (by decide) k) ?_
  refine own_fwd (B := s₁.setTop (mkF m 45 #[.val (.int p1)] [(.int p1)])) (fun t k => XS.iloadN X0.here hx rfl (hb hby d1_44) rfl k) ?_
  refine own_fwd (B := s₁.setTop (mkF m 46 #[.val (.int p1)] [(.int (5 : Int32)), (.int p1)])) (fun t k => XS.iconst X0.here hx rfl (hb hby d1_45) k) ?_
  by_cases hc46 : p1 = (5 : Int32)
  · skip
    refine own_fwd (B := s₁.setTop (mkF m 49 #[.val (.int p1)] [])) (fun t k => XS.icmpNo X0.here hx rfl (hb hby d1_46) rfl (teq hc46).2 k) ?_
    obtain ⟨T6, X6, e6, st6⟩ := getS2 X0 hx hZ hown (host := "") (Or.inl (hw _ (List.mem_of_getElem? (i := 41) rfl))) Via.refl e0 (P5.ext O0.2) (g := (mkF m 49 #[.val (.int p1)] [])) rfl (hb hby d1_49)
    refine own_fwd (B := T6.setTop (mkF m 52 #[.val (.int p1)] [(.ref w5)])) (fun t k => st6 t k) ?_
    obtain ⟨fs, hr, hrun, hended, hW, hsame⟩ := X6.leave (v := some (.ref w5)) (fun h => by rw [Bd.returns] at h; cases h)
    refine ⟨_, _, retOut X6 hx Bd.returns rfl (Or.inr (Or.inr (Or.inr (Or.inr ⟨rfl, rfl, rfl⟩)))) (hb hby d1_52) hr, hrun, hended, _, _, rfl, ?_, ⟨_, rfl⟩, hW, hsame.mono (by decide) (by decide)⟩
    show Q_rmP Z p1 w0 w1 w2 w3 w4 w5 w6 w7 w8 h0 n0 _ T6.heap _
    rw [e6]
    exact ⟨by simp only [own_pick, if_neg hc1, if_neg hc10, if_neg hc19, if_neg hc28, if_neg hc37, if_pos hc46], N0, rfl⟩
  refine own_fwd (B := s₁.setTop (mkF m 53 #[.val (.int p1)] [])) (fun t k => XS.icmpYes X0.here hx rfl (pc0 := 46) (pc' := 53) rfl (hb hby d1_46) rfl (feq hc46).2 (by decide) (by decide) k) ?_
  refine own_fwd (B := s₁.setTop (mkF m 54 #[.val (.int p1)] [(.int p1)])) (fun t k => XS.iloadN X0.here hx rfl (hb hby d1_53) rfl k) ?_
  refine own_fwd (B := s₁.setTop (mkF m 56 #[.val (.int p1)] [(.int (6 : Int32)), (.int p1)])) (fun t k => XS.bipush X0.here hx rfl (hb hby d1_54) k) ?_
  by_cases hc56 : p1 = (6 : Int32)
  · skip
    refine own_fwd (B := s₁.setTop (mkF m 59 #[.val (.int p1)] [])) (fun t k => XS.icmpNo X0.here hx rfl (hb hby d1_56) rfl (teq hc56).2 k) ?_
    obtain ⟨T7, X7, e7, st7⟩ := getS2 X0 hx hZ hown (host := "") (Or.inl (hw _ (List.mem_of_getElem? (i := 40) rfl))) Via.refl e0 (P6.ext O0.2) (g := (mkF m 59 #[.val (.int p1)] [])) rfl (hb hby d1_59)
    refine own_fwd (B := T7.setTop (mkF m 62 #[.val (.int p1)] [(.ref w6)])) (fun t k => st7 t k) ?_
    obtain ⟨fs, hr, hrun, hended, hW, hsame⟩ := X7.leave (v := some (.ref w6)) (fun h => by rw [Bd.returns] at h; cases h)
    refine ⟨_, _, retOut X7 hx Bd.returns rfl (Or.inr (Or.inr (Or.inr (Or.inr ⟨rfl, rfl, rfl⟩)))) (hb hby d1_62) hr, hrun, hended, _, _, rfl, ?_, ⟨_, rfl⟩, hW, hsame.mono (by decide) (by decide)⟩
    show Q_rmP Z p1 w0 w1 w2 w3 w4 w5 w6 w7 w8 h0 n0 _ T7.heap _
    rw [e7]
    exact ⟨by simp only [own_pick, if_neg hc1, if_neg hc10, if_neg hc19, if_neg hc28, if_neg hc37, if_neg hc46, if_pos hc56], N0, rfl⟩
  refine own_fwd (B := s₁.setTop (mkF m 63 #[.val (.int p1)] [])) (fun t k => XS.icmpYes X0.here hx rfl (pc0 := 56) (pc' := 63) rfl (hb hby d1_56) rfl (feq hc56).2 (by decide) (by decide) k) ?_
  refine own_fwd (B := s₁.setTop (mkF m 64 #[.val (.int p1)] [(.int p1)])) (fun t k => XS.iloadN X0.here hx rfl (hb hby d1_63) rfl k) ?_
  refine own_fwd (B := s₁.setTop (mkF m 66 #[.val (.int p1)] [(.int (7 : Int32)), (.int p1)])) (fun t k => XS.bipush X0.here hx rfl (hb hby d1_64) k) ?_
  by_cases hc66 : p1 = (7 : Int32)
  · skip
    refine own_fwd (B := s₁.setTop (mkF m 69 #[.val (.int p1)] [])) (fun t k => XS.icmpNo X0.here hx rfl (hb hby d1_66) rfl (teq hc66).2 k) ?_
    obtain ⟨T8, X8, e8, st8⟩ := getS2 X0 hx hZ hown (host := "") (Or.inl (hw _ (List.mem_of_getElem? (i := 27) rfl))) Via.refl e0 (P7.ext O0.2) (g := (mkF m 69 #[.val (.int p1)] [])) rfl (hb hby d1_69)
    refine own_fwd (B := T8.setTop (mkF m 72 #[.val (.int p1)] [(.ref w7)])) (fun t k => st8 t k) ?_
    obtain ⟨fs, hr, hrun, hended, hW, hsame⟩ := X8.leave (v := some (.ref w7)) (fun h => by rw [Bd.returns] at h; cases h)
    refine ⟨_, _, retOut X8 hx Bd.returns rfl (Or.inr (Or.inr (Or.inr (Or.inr ⟨rfl, rfl, rfl⟩)))) (hb hby d1_72) hr, hrun, hended, _, _, rfl, ?_, ⟨_, rfl⟩, hW, hsame.mono (by decide) (by decide)⟩
    show Q_rmP Z p1 w0 w1 w2 w3 w4 w5 w6 w7 w8 h0 n0 _ T8.heap _
    rw [e8]
    exact ⟨by simp only [own_pick, if_neg hc1, if_neg hc10, if_neg hc19, if_neg hc28, if_neg hc37, if_neg hc46, if_neg hc56, if_pos hc66], N0, rfl⟩
  refine own_fwd (B := s₁.setTop (mkF m 73 #[.val (.int p1)] [])) (fun t k => XS.icmpYes X0.here hx rfl (pc0 := 66) (pc' := 73) rfl (hb hby d1_66) rfl (feq hc66).2 (by decide) (by decide) k) ?_
  obtain ⟨T9, X9, e9, st9⟩ := getS2 X0 hx hZ hown (host := "") (Or.inl (hw _ (List.mem_of_getElem? (i := 39) rfl))) Via.refl e0 (P8.ext O0.2) (g := (mkF m 73 #[.val (.int p1)] [])) rfl (hb hby d1_73)
  refine own_fwd (B := T9.setTop (mkF m 76 #[.val (.int p1)] [(.ref w8)])) (fun t k => st9 t k) ?_
  obtain ⟨fs, hr, hrun, hended, hW, hsame⟩ := X9.leave (v := some (.ref w8)) (fun h => by rw [Bd.returns] at h; cases h)
  refine ⟨_, _, retOut X9 hx Bd.returns rfl (Or.inr (Or.inr (Or.inr (Or.inr ⟨rfl, rfl, rfl⟩)))) (hb hby d1_76) hr, hrun, hended, _, _, rfl, ?_, ⟨_, rfl⟩, hW, hsame.mono (by decide) (by decide)⟩
  show Q_rmP Z p1 w0 w1 w2 w3 w4 w5 w6 w7 w8 h0 n0 _ T9.heap _
  rw [e9]
  exact ⟨by simp only [own_pick, if_neg hc1, if_neg hc10, if_neg hc19, if_neg hc28, if_neg hc37, if_neg hc46, if_neg hc56, if_neg hc66], N0, rfl⟩
def Q_rmL (Z : State) (a1 : Addr) (w0 : Addr) (w1 : Addr) (w2 : Addr) (w3 : Addr) (h0 : Heap) (n0 : Nat) (v : Option Value) (h : Heap) (L : List Loc) : Prop := v = some (.int (own_has a1 w0 w1 w2 w3)) ∧ Fr n0 L ∧ h = h0
set_option maxRecDepth 65536 in
set_option maxHeartbeats 40000000 in
theorem rmL (l : Launch) (Z : State) (a0 : Array Value) (hw : ∀ d ∈ tables_1, d.before a0 Z = true) (ws : List Jvm.Cond) (a1 : Addr) (w0 : Addr) (w1 : Addr) (w2 : Addr) (w3 : Addr) (h0 : Heap) (n0 : Nat) (Z0 : n0 ≤ h0.size) (O0 : Old Z n0 h0) (P0 : Sta Z Z.heap "com/example/xml_grammar_check/xmlgrammarcheck/datatypes/ValueKind" "TEXT" "Lcom/example/xml_grammar_check/xmlgrammarcheck/datatypes/ValueKind;" (.ref w0)) (P1 : Sta Z Z.heap "com/example/xml_grammar_check/xmlgrammarcheck/datatypes/ValueKind" "LIST" "Lcom/example/xml_grammar_check/xmlgrammarcheck/datatypes/ValueKind;" (.ref w1)) (P2 : Sta Z Z.heap "com/example/xml_grammar_check/xmlgrammarcheck/datatypes/ValueKind" "QNAME" "Lcom/example/xml_grammar_check/xmlgrammarcheck/datatypes/ValueKind;" (.ref w2)) (P3 : Sta Z Z.heap "com/example/xml_grammar_check/xmlgrammarcheck/datatypes/ValueKind" "OCTETS" "Lcom/example/xml_grammar_check/xmlgrammarcheck/datatypes/ValueKind;" (.ref w3)) :
    MetFree l (⟨"com/example/xml_grammar_check/xmlgrammarcheck/datatypes/ValueKind", "hasLength", "()Z"⟩ : MethodName) (head1 (Jvm.Cond.code (⟨"com/example/xml_grammar_check/xmlgrammarcheck/datatypes/ValueKind", "hasLength", "()Z"⟩ : MethodName) prog_184_method_4_code 1 (some .boolean) :: ws) ({ frames := 0, cells := 0, slots := 0, locals := 0 } : Room)) (fun a U => a = #[(.ref a1)] ∧ Z.Warmed39 U.vm ∧ U.heap = h0) (fun _ _ _ _ _ => True) (fun _ U o U' => ∃ v L, o = .returned v ∧ Q_rmL Z a1 w0 w1 w2 w3 h0 n0 v U'.heap L ∧ FrameEnd U o U' L ({ frames := 0, cells := 0, slots := 0, locals := 0 } : Room).cells ({ frames := 0, cells := 0, slots := 0, locals := 0 } : Room).slots) := by
  refine MetFree.of_bodySF (plainFor_of_name pn_1) hisR ?_
  intro p e s m args below meth c s₁ Bd hml0 hP hK
  obtain ⟨rfl, hZ, hh⟩ := hP
  have hx := Bd.exec
  have hby := Bd.bytes
  have hml : c.maxLocals = 1 := hml0
  have hown : s.vm.findClass "com/example/xml_grammar_check/xmlgrammarcheck/datatypes/ValueKind" = some m.cls := findClass_of_methodNamed Bd.named
  have hnm := (name_of_methodNamed Bd.named Bd.method).1
  have X0 : Stand p l e ({ frames := 0, cells := 0, slots := 0, locals := 0 } : Room) s m #[(.ref a1)] below meth c s₁ [] 0 0 := Stand.of_body Bd
  have e0 : s₁.heap = h0 := by rw [← hh, Bd.state]; rfl
  have N0 := Fr.nil n0
  have ef0 : entryFrame m #[(.ref a1)] 1 = (mkF m 0 #[.val (.ref a1)] []) := by first | (simp [entryFrame, mkF, argsToLocals, Value.category]; done) | rfl
  refine own_fwd (B := s₁.setTop (mkF m 0 #[.val (.ref a1)] [])) (fun t k => castTop ef0 k) ?_
  refine own_fwd (B := s₁.setTop (mkF m 1 #[.val (.ref a1)] [(.ref a1)])) (fun t k => XS.aloadN X0.here hx rfl (hb hby d3_0) rfl rfl k) ?_
  obtain ⟨T1, X1, e1, st1⟩ := getS2 X0 hx hZ hown (host := "") (Or.inl (hw _ (List.mem_of_getElem? (i := 33) rfl))) Via.refl e0 (P0.ext O0.2) (g := (mkF m 1 #[.val (.ref a1)] [(.ref a1)])) rfl (hb hby d3_1)
  refine own_fwd (B := T1.setTop (mkF m 4 #[.val (.ref a1)] [(.ref w0), (.ref a1)])) (fun t k => st1 t k) ?_
  by_cases hc4 : a1 = w0
  · skip
    refine own_fwd (B := T1.setTop (mkF m 28 #[.val (.ref a1)] [])) (fun t k => Jvm.RoadKit.acmp (g := (mkF m 4 #[.val (.ref a1)] [(.ref w0), (.ref a1)])) X1 hx rfl rfl rfl (pc0 := 4) (pc' := 28) (same := true) rfl (hb hby d3_4) rfl (decide_eq_true (congrArg Value.ref hc4)) (by decide) (by decide) k) ?_
    refine own_fwd (B := T1.setTop (mkF m 29 #[.val (.ref a1)] [(.int (1 : Int32))])) (fun t k => XS.iconst X1.here hx rfl (hb hby d3_28) k) ?_
    refine own_fwd (B := T1.setTop (mkF m 33 #[.val (.ref a1)] [(.int (1 : Int32))])) (fun t k => XS.goto X1.here hx rfl (pc0 := 29) (pc' := 33) rfl (hb hby d3_29) (by decide) (by decide) k) ?_
    obtain ⟨fs, hr, hrun, hended, hW, hsame⟩ := X1.leave (v := some (.int (1 : Int32))) (fun h => by rw [Bd.returns] at h; cases h)
    refine ⟨_, _, retN X1 hx (t := .boolean) Bd.returns (by simp) (hb hby d3_33) hr, hrun, hended, _, _, rfl, ?_, ⟨_, rfl⟩, hW, hsame.mono (by decide) (by decide)⟩
    show Q_rmL Z a1 w0 w1 w2 w3 h0 n0 _ T1.heap _
    rw [e1]
    exact ⟨by simp only [own_has, if_pos hc4], N0, rfl⟩
  refine own_fwd (B := T1.setTop (mkF m 7 #[.val (.ref a1)] [])) (fun t k => Jvm.RoadKit.acmp (g := (mkF m 4 #[.val (.ref a1)] [(.ref w0), (.ref a1)])) X1 hx rfl rfl rfl (pc0 := 4) (pc' := 7) (same := false) rfl (hb hby d3_4) rfl (decide_eq_false fun q => hc4 (Value.ref.inj q)) (by decide) (by decide) k) ?_
  refine own_fwd (B := T1.setTop (mkF m 8 #[.val (.ref a1)] [(.ref a1)])) (fun t k => XS.aloadN X1.here hx rfl (hb hby d3_7) rfl rfl k) ?_
  obtain ⟨T2, X2, e2, st2⟩ := getS2 X1 hx hZ hown (host := "") (Or.inl (hw _ (List.mem_of_getElem? (i := 34) rfl))) Via.refl e1 (P1.ext O0.2) (g := (mkF m 8 #[.val (.ref a1)] [(.ref a1)])) rfl (hb hby d3_8)
  refine own_fwd (B := T2.setTop (mkF m 11 #[.val (.ref a1)] [(.ref w1), (.ref a1)])) (fun t k => st2 t k) ?_
  by_cases hc11 : a1 = w1
  · skip
    refine own_fwd (B := T2.setTop (mkF m 28 #[.val (.ref a1)] [])) (fun t k => Jvm.RoadKit.acmp (g := (mkF m 11 #[.val (.ref a1)] [(.ref w1), (.ref a1)])) X2 hx rfl rfl rfl (pc0 := 11) (pc' := 28) (same := true) rfl (hb hby d3_11) rfl (decide_eq_true (congrArg Value.ref hc11)) (by decide) (by decide) k) ?_
    refine own_fwd (B := T2.setTop (mkF m 29 #[.val (.ref a1)] [(.int (1 : Int32))])) (fun t k => XS.iconst X2.here hx rfl (hb hby d3_28) k) ?_
    refine own_fwd (B := T2.setTop (mkF m 33 #[.val (.ref a1)] [(.int (1 : Int32))])) (fun t k => XS.goto X2.here hx rfl (pc0 := 29) (pc' := 33) rfl (hb hby d3_29) (by decide) (by decide) k) ?_
    obtain ⟨fs, hr, hrun, hended, hW, hsame⟩ := X2.leave (v := some (.int (1 : Int32))) (fun h => by rw [Bd.returns] at h; cases h)
    refine ⟨_, _, retN X2 hx (t := .boolean) Bd.returns (by simp) (hb hby d3_33) hr, hrun, hended, _, _, rfl, ?_, ⟨_, rfl⟩, hW, hsame.mono (by decide) (by decide)⟩
    show Q_rmL Z a1 w0 w1 w2 w3 h0 n0 _ T2.heap _
    rw [e2]
    exact ⟨by simp only [own_has, if_neg hc4, if_pos hc11], N0, rfl⟩
  refine own_fwd (B := T2.setTop (mkF m 14 #[.val (.ref a1)] [])) (fun t k => Jvm.RoadKit.acmp (g := (mkF m 11 #[.val (.ref a1)] [(.ref w1), (.ref a1)])) X2 hx rfl rfl rfl (pc0 := 11) (pc' := 14) (same := false) rfl (hb hby d3_11) rfl (decide_eq_false fun q => hc11 (Value.ref.inj q)) (by decide) (by decide) k) ?_
  refine own_fwd (B := T2.setTop (mkF m 15 #[.val (.ref a1)] [(.ref a1)])) (fun t k => XS.aloadN X2.here hx rfl (hb hby d3_14) rfl rfl k) ?_
  obtain ⟨T3, X3, e3, st3⟩ := getS2 X2 hx hZ hown (host := "") (Or.inl (hw _ (List.mem_of_getElem? (i := 35) rfl))) Via.refl e2 (P2.ext O0.2) (g := (mkF m 15 #[.val (.ref a1)] [(.ref a1)])) rfl (hb hby d3_15)
  refine own_fwd (B := T3.setTop (mkF m 18 #[.val (.ref a1)] [(.ref w2), (.ref a1)])) (fun t k => st3 t k) ?_
  by_cases hc18 : a1 = w2
  · skip
    refine own_fwd (B := T3.setTop (mkF m 28 #[.val (.ref a1)] [])) (fun t k => Jvm.RoadKit.acmp (g := (mkF m 18 #[.val (.ref a1)] [(.ref w2), (.ref a1)])) X3 hx rfl rfl rfl (pc0 := 18) (pc' := 28) (same := true) rfl (hb hby d3_18) rfl (decide_eq_true (congrArg Value.ref hc18)) (by decide) (by decide) k) ?_
    refine own_fwd (B := T3.setTop (mkF m 29 #[.val (.ref a1)] [(.int (1 : Int32))])) (fun t k => XS.iconst X3.here hx rfl (hb hby d3_28) k) ?_
    refine own_fwd (B := T3.setTop (mkF m 33 #[.val (.ref a1)] [(.int (1 : Int32))])) (fun t k => XS.goto X3.here hx rfl (pc0 := 29) (pc' := 33) rfl (hb hby d3_29) (by decide) (by decide) k) ?_
    obtain ⟨fs, hr, hrun, hended, hW, hsame⟩ := X3.leave (v := some (.int (1 : Int32))) (fun h => by rw [Bd.returns] at h; cases h)
    refine ⟨_, _, retN X3 hx (t := .boolean) Bd.returns (by simp) (hb hby d3_33) hr, hrun, hended, _, _, rfl, ?_, ⟨_, rfl⟩, hW, hsame.mono (by decide) (by decide)⟩
    show Q_rmL Z a1 w0 w1 w2 w3 h0 n0 _ T3.heap _
    rw [e3]
    exact ⟨by simp only [own_has, if_neg hc4, if_neg hc11, if_pos hc18], N0, rfl⟩
  refine own_fwd (B := T3.setTop (mkF m 21 #[.val (.ref a1)] [])) (fun t k => Jvm.RoadKit.acmp (g := (mkF m 18 #[.val (.ref a1)] [(.ref w2), (.ref a1)])) X3 hx rfl rfl rfl (pc0 := 18) (pc' := 21) (same := false) rfl (hb hby d3_18) rfl (decide_eq_false fun q => hc18 (Value.ref.inj q)) (by decide) (by decide) k) ?_
  refine own_fwd (B := T3.setTop (mkF m 22 #[.val (.ref a1)] [(.ref a1)])) (fun t k => XS.aloadN X3.here hx rfl (hb hby d3_21) rfl rfl k) ?_
  obtain ⟨T4, X4, e4, st4⟩ := getS2 X3 hx hZ hown (host := "") (Or.inl (hw _ (List.mem_of_getElem? (i := 36) rfl))) Via.refl e3 (P3.ext O0.2) (g := (mkF m 22 #[.val (.ref a1)] [(.ref a1)])) rfl (hb hby d3_22)
  refine own_fwd (B := T4.setTop (mkF m 25 #[.val (.ref a1)] [(.ref w3), (.ref a1)])) (fun t k => st4 t k) ?_
  by_cases hc25 : a1 = w3
  · skip
    refine own_fwd (B := T4.setTop (mkF m 28 #[.val (.ref a1)] [])) (fun t k => Jvm.RoadKit.acmp (g := (mkF m 25 #[.val (.ref a1)] [(.ref w3), (.ref a1)])) X4 hx rfl rfl rfl (pc0 := 25) (pc' := 28) (same := true) rfl (hb hby d3_25) rfl (decide_eq_true (congrArg Value.ref hc25)) (by decide) (by decide) k) ?_
    refine own_fwd (B := T4.setTop (mkF m 29 #[.val (.ref a1)] [(.int (1 : Int32))])) (fun t k => XS.iconst X4.here hx rfl (hb hby d3_28) k) ?_
    refine own_fwd (B := T4.setTop (mkF m 33 #[.val (.ref a1)] [(.int (1 : Int32))])) (fun t k => XS.goto X4.here hx rfl (pc0 := 29) (pc' := 33) rfl (hb hby d3_29) (by decide) (by decide) k) ?_
    obtain ⟨fs, hr, hrun, hended, hW, hsame⟩ := X4.leave (v := some (.int (1 : Int32))) (fun h => by rw [Bd.returns] at h; cases h)
    refine ⟨_, _, retN X4 hx (t := .boolean) Bd.returns (by simp) (hb hby d3_33) hr, hrun, hended, _, _, rfl, ?_, ⟨_, rfl⟩, hW, hsame.mono (by decide) (by decide)⟩
    show Q_rmL Z a1 w0 w1 w2 w3 h0 n0 _ T4.heap _
    rw [e4]
    exact ⟨by simp only [own_has, if_neg hc4, if_neg hc11, if_neg hc18, if_pos hc25], N0, rfl⟩
  refine own_fwd (B := T4.setTop (mkF m 32 #[.val (.ref a1)] [])) (fun t k => Jvm.RoadKit.acmp (g := (mkF m 25 #[.val (.ref a1)] [(.ref w3), (.ref a1)])) X4 hx rfl rfl rfl (pc0 := 25) (pc' := 32) (same := false) rfl (hb hby d3_25) rfl (decide_eq_false fun q => hc25 (Value.ref.inj q)) (by decide) (by decide) k) ?_
  refine own_fwd (B := T4.setTop (mkF m 33 #[.val (.ref a1)] [(.int (0 : Int32))])) (fun t k => XS.iconst X4.here hx rfl (hb hby d3_32) k) ?_
  obtain ⟨fs, hr, hrun, hended, hW, hsame⟩ := X4.leave (v := some (.int (0 : Int32))) (fun h => by rw [Bd.returns] at h; cases h)
  refine ⟨_, _, retN X4 hx (t := .boolean) Bd.returns (by simp) (hb hby d3_33) hr, hrun, hended, _, _, rfl, ?_, ⟨_, rfl⟩, hW, hsame.mono (by decide) (by decide)⟩
  show Q_rmL Z a1 w0 w1 w2 w3 h0 n0 _ T4.heap _
  rw [e4]
  exact ⟨by simp only [own_has, if_neg hc4, if_neg hc11, if_neg hc18, if_neg hc25], N0, rfl⟩
def Q_rmO (Z : State) (a1 : Addr) (w5 : Addr) (w6 : Addr) (w7 : Addr) (w8 : Addr) (h0 : Heap) (n0 : Nat) (v : Option Value) (h : Heap) (L : List Loc) : Prop := v = some (.int (own_has a1 w5 w6 w7 w8)) ∧ Fr n0 L ∧ h = h0
set_option maxRecDepth 65536 in
set_option maxHeartbeats 40000000 in
theorem rmO (l : Launch) (Z : State) (a0 : Array Value) (hw : ∀ d ∈ tables_1, d.before a0 Z = true) (ws : List Jvm.Cond) (a1 : Addr) (w5 : Addr) (w6 : Addr) (w7 : Addr) (w8 : Addr) (h0 : Heap) (n0 : Nat) (Z0 : n0 ≤ h0.size) (O0 : Old Z n0 h0) (P0 : Sta Z Z.heap "com/example/xml_grammar_check/xmlgrammarcheck/datatypes/ValueKind" "DECIMAL" "Lcom/example/xml_grammar_check/xmlgrammarcheck/datatypes/ValueKind;" (.ref w5)) (P1 : Sta Z Z.heap "com/example/xml_grammar_check/xmlgrammarcheck/datatypes/ValueKind" "FLOATING" "Lcom/example/xml_grammar_check/xmlgrammarcheck/datatypes/ValueKind;" (.ref w6)) (P2 : Sta Z Z.heap "com/example/xml_grammar_check/xmlgrammarcheck/datatypes/ValueKind" "DURATION" "Lcom/example/xml_grammar_check/xmlgrammarcheck/datatypes/ValueKind;" (.ref w7)) (P3 : Sta Z Z.heap "com/example/xml_grammar_check/xmlgrammarcheck/datatypes/ValueKind" "DATE_TIME" "Lcom/example/xml_grammar_check/xmlgrammarcheck/datatypes/ValueKind;" (.ref w8)) :
    MetFree l (⟨"com/example/xml_grammar_check/xmlgrammarcheck/datatypes/ValueKind", "isOrdered", "()Z"⟩ : MethodName) (head1 (Jvm.Cond.code (⟨"com/example/xml_grammar_check/xmlgrammarcheck/datatypes/ValueKind", "isOrdered", "()Z"⟩ : MethodName) prog_184_method_5_code 1 (some .boolean) :: ws) ({ frames := 0, cells := 0, slots := 0, locals := 0 } : Room)) (fun a U => a = #[(.ref a1)] ∧ Z.Warmed39 U.vm ∧ U.heap = h0) (fun _ _ _ _ _ => True) (fun _ U o U' => ∃ v L, o = .returned v ∧ Q_rmO Z a1 w5 w6 w7 w8 h0 n0 v U'.heap L ∧ FrameEnd U o U' L ({ frames := 0, cells := 0, slots := 0, locals := 0 } : Room).cells ({ frames := 0, cells := 0, slots := 0, locals := 0 } : Room).slots) := by
  refine MetFree.of_bodySF (plainFor_of_name pn_1) hisR ?_
  intro p e s m args below meth c s₁ Bd hml0 hP hK
  obtain ⟨rfl, hZ, hh⟩ := hP
  have hx := Bd.exec
  have hby := Bd.bytes
  have hml : c.maxLocals = 1 := hml0
  have hown : s.vm.findClass "com/example/xml_grammar_check/xmlgrammarcheck/datatypes/ValueKind" = some m.cls := findClass_of_methodNamed Bd.named
  have hnm := (name_of_methodNamed Bd.named Bd.method).1
  have X0 : Stand p l e ({ frames := 0, cells := 0, slots := 0, locals := 0 } : Room) s m #[(.ref a1)] below meth c s₁ [] 0 0 := Stand.of_body Bd
  have e0 : s₁.heap = h0 := by rw [← hh, Bd.state]; rfl
  have N0 := Fr.nil n0
  have ef0 : entryFrame m #[(.ref a1)] 1 = (mkF m 0 #[.val (.ref a1)] []) := by first | (simp [entryFrame, mkF, argsToLocals, Value.category]; done) | rfl
  refine own_fwd (B := s₁.setTop (mkF m 0 #[.val (.ref a1)] [])) (fun t k => castTop ef0 k) ?_
  refine own_fwd (B := s₁.setTop (mkF m 1 #[.val (.ref a1)] [(.ref a1)])) (fun t k => XS.aloadN X0.here hx rfl (hb hby d2_0) rfl rfl k) ?_
  obtain ⟨T1, X1, e1, st1⟩ := getS2 X0 hx hZ hown (host := "") (Or.inl (hw _ (List.mem_of_getElem? (i := 13) rfl))) Via.refl e0 (P0.ext O0.2) (g := (mkF m 1 #[.val (.ref a1)] [(.ref a1)])) rfl (hb hby d2_1)
  refine own_fwd (B := T1.setTop (mkF m 4 #[.val (.ref a1)] [(.ref w5), (.ref a1)])) (fun t k => st1 t k) ?_
  by_cases hc4 : a1 = w5
  · skip
    refine own_fwd (B := T1.setTop (mkF m 28 #[.val (.ref a1)] [])) (fun t k => Jvm.RoadKit.acmp (g := (mkF m 4 #[.val (.ref a1)] [(.ref w5), (.ref a1)])) X1 hx rfl rfl rfl (pc0 := 4) (pc' := 28) (same := true) rfl (hb hby d2_4) rfl (decide_eq_true (congrArg Value.ref hc4)) (by decide) (by decide) k) ?_
    refine own_fwd (B := T1.setTop (mkF m 29 #[.val (.ref a1)] [(.int (1 : Int32))])) (fun t k => XS.iconst X1.here hx rfl (hb hby d2_28) k) ?_
    refine own_fwd (B := T1.setTop (mkF m 33 #[.val (.ref a1)] [(.int (1 : Int32))])) (fun t k => XS.goto X1.here hx rfl (pc0 := 29) (pc' := 33) rfl (hb hby d2_29) (by decide) (by decide) k) ?_
    obtain ⟨fs, hr, hrun, hended, hW, hsame⟩ := X1.leave (v := some (.int (1 : Int32))) (fun h => by rw [Bd.returns] at h; cases h)
    refine ⟨_, _, retN X1 hx (t := .boolean) Bd.returns (by simp) (hb hby d2_33) hr, hrun, hended, _, _, rfl, ?_, ⟨_, rfl⟩, hW, hsame.mono (by decide) (by decide)⟩
    show Q_rmO Z a1 w5 w6 w7 w8 h0 n0 _ T1.heap _
    rw [e1]
    exact ⟨by simp only [own_has, if_pos hc4], N0, rfl⟩
  refine own_fwd (B := T1.setTop (mkF m 7 #[.val (.ref a1)] [])) (fun t k => Jvm.RoadKit.acmp (g := (mkF m 4 #[.val (.ref a1)] [(.ref w5), (.ref a1)])) X1 hx rfl rfl rfl (pc0 := 4) (pc' := 7) (same := false) rfl (hb hby d2_4) rfl (decide_eq_false fun q => hc4 (Value.ref.inj q)) (by decide) (by decide) k) ?_
  refine own_fwd (B := T1.setTop (mkF m 8 #[.val (.ref a1)] [(.ref a1)])) (fun t k => XS.aloadN X1.here hx rfl (hb hby d2_7) rfl rfl k) ?_
  obtain ⟨T2, X2, e2, st2⟩ := getS2 X1 hx hZ hown (host := "") (Or.inl (hw _ (List.mem_of_getElem? (i := 15) rfl))) Via.refl e1 (P1.ext O0.2) (g := (mkF m 8 #[.val (.ref a1)] [(.ref a1)])) rfl (hb hby d2_8)
  refine own_fwd (B := T2.setTop (mkF m 11 #[.val (.ref a1)] [(.ref w6), (.ref a1)])) (fun t k => st2 t k) ?_
  by_cases hc11 : a1 = w6
  · skip
    refine own_fwd (B := T2.setTop (mkF m 28 #[.val (.ref a1)] [])) (fun t k => Jvm.RoadKit.acmp (g := (mkF m 11 #[.val (.ref a1)] [(.ref w6), (.ref a1)])) X2 hx rfl rfl rfl (pc0 := 11) (pc' := 28) (same := true) rfl (hb hby d2_11) rfl (decide_eq_true (congrArg Value.ref hc11)) (by decide) (by decide) k) ?_
    refine own_fwd (B := T2.setTop (mkF m 29 #[.val (.ref a1)] [(.int (1 : Int32))])) (fun t k => XS.iconst X2.here hx rfl (hb hby d2_28) k) ?_
    refine own_fwd (B := T2.setTop (mkF m 33 #[.val (.ref a1)] [(.int (1 : Int32))])) (fun t k => XS.goto X2.here hx rfl (pc0 := 29) (pc' := 33) rfl (hb hby d2_29) (by decide) (by decide) k) ?_
    obtain ⟨fs, hr, hrun, hended, hW, hsame⟩ := X2.leave (v := some (.int (1 : Int32))) (fun h => by rw [Bd.returns] at h; cases h)
    refine ⟨_, _, retN X2 hx (t := .boolean) Bd.returns (by simp) (hb hby d2_33) hr, hrun, hended, _, _, rfl, ?_, ⟨_, rfl⟩, hW, hsame.mono (by decide) (by decide)⟩
    show Q_rmO Z a1 w5 w6 w7 w8 h0 n0 _ T2.heap _
    rw [e2]
    exact ⟨by simp only [own_has, if_neg hc4, if_pos hc11], N0, rfl⟩
  refine own_fwd (B := T2.setTop (mkF m 14 #[.val (.ref a1)] [])) (fun t k => Jvm.RoadKit.acmp (g := (mkF m 11 #[.val (.ref a1)] [(.ref w6), (.ref a1)])) X2 hx rfl rfl rfl (pc0 := 11) (pc' := 14) (same := false) rfl (hb hby d2_11) rfl (decide_eq_false fun q => hc11 (Value.ref.inj q)) (by decide) (by decide) k) ?_
  refine own_fwd (B := T2.setTop (mkF m 15 #[.val (.ref a1)] [(.ref a1)])) (fun t k => XS.aloadN X2.here hx rfl (hb hby d2_14) rfl rfl k) ?_
  obtain ⟨T3, X3, e3, st3⟩ := getS2 X2 hx hZ hown (host := "") (Or.inl (hw _ (List.mem_of_getElem? (i := 17) rfl))) Via.refl e2 (P2.ext O0.2) (g := (mkF m 15 #[.val (.ref a1)] [(.ref a1)])) rfl (hb hby d2_15)
  refine own_fwd (B := T3.setTop (mkF m 18 #[.val (.ref a1)] [(.ref w7), (.ref a1)])) (fun t k => st3 t k) ?_
  by_cases hc18 : a1 = w7
  · skip
    refine own_fwd (B := T3.setTop (mkF m 28 #[.val (.ref a1)] [])) (fun t k => Jvm.RoadKit.acmp (g := (mkF m 18 #[.val (.ref a1)] [(.ref w7), (.ref a1)])) X3 hx rfl rfl rfl (pc0 := 18) (pc' := 28) (same := true) rfl (hb hby d2_18) rfl (decide_eq_true (congrArg Value.ref hc18)) (by decide) (by decide) k) ?_
    refine own_fwd (B := T3.setTop (mkF m 29 #[.val (.ref a1)] [(.int (1 : Int32))])) (fun t k => XS.iconst X3.here hx rfl (hb hby d2_28) k) ?_
    refine own_fwd (B := T3.setTop (mkF m 33 #[.val (.ref a1)] [(.int (1 : Int32))])) (fun t k => XS.goto X3.here hx rfl (pc0 := 29) (pc' := 33) rfl (hb hby d2_29) (by decide) (by decide) k) ?_
    obtain ⟨fs, hr, hrun, hended, hW, hsame⟩ := X3.leave (v := some (.int (1 : Int32))) (fun h => by rw [Bd.returns] at h; cases h)
    refine ⟨_, _, retN X3 hx (t := .boolean) Bd.returns (by simp) (hb hby d2_33) hr, hrun, hended, _, _, rfl, ?_, ⟨_, rfl⟩, hW, hsame.mono (by decide) (by decide)⟩
    show Q_rmO Z a1 w5 w6 w7 w8 h0 n0 _ T3.heap _
    rw [e3]
    exact ⟨by simp only [own_has, if_neg hc4, if_neg hc11, if_pos hc18], N0, rfl⟩
  refine own_fwd (B := T3.setTop (mkF m 21 #[.val (.ref a1)] [])) (fun t k => Jvm.RoadKit.acmp (g := (mkF m 18 #[.val (.ref a1)] [(.ref w7), (.ref a1)])) X3 hx rfl rfl rfl (pc0 := 18) (pc' := 21) (same := false) rfl (hb hby d2_18) rfl (decide_eq_false fun q => hc18 (Value.ref.inj q)) (by decide) (by decide) k) ?_
  refine own_fwd (B := T3.setTop (mkF m 22 #[.val (.ref a1)] [(.ref a1)])) (fun t k => XS.aloadN X3.here hx rfl (hb hby d2_21) rfl rfl k) ?_
  obtain ⟨T4, X4, e4, st4⟩ := getS2 X3 hx hZ hown (host := "") (Or.inl (hw _ (List.mem_of_getElem? (i := 19) rfl))) Via.refl e3 (P3.ext O0.2) (g := (mkF m 22 #[.val (.ref a1)] [(.ref a1)])) rfl (hb hby d2_22)
  refine own_fwd (B := T4.setTop (mkF m 25 #[.val (.ref a1)] [(.ref w8), (.ref a1)])) (fun t k => st4 t k) ?_
  by_cases hc25 : a1 = w8
  · skip
    refine own_fwd (B := T4.setTop (mkF m 28 #[.val (.ref a1)] [])) (fun t k => Jvm.RoadKit.acmp (g := (mkF m 25 #[.val (.ref a1)] [(.ref w8), (.ref a1)])) X4 hx rfl rfl rfl (pc0 := 25) (pc' := 28) (same := true) rfl (hb hby d2_25) rfl (decide_eq_true (congrArg Value.ref hc25)) (by decide) (by decide) k) ?_
    refine own_fwd (B := T4.setTop (mkF m 29 #[.val (.ref a1)] [(.int (1 : Int32))])) (fun t k => XS.iconst X4.here hx rfl (hb hby d2_28) k) ?_
    refine own_fwd (B := T4.setTop (mkF m 33 #[.val (.ref a1)] [(.int (1 : Int32))])) (fun t k => XS.goto X4.here hx rfl (pc0 := 29) (pc' := 33) rfl (hb hby d2_29) (by decide) (by decide) k) ?_
    obtain ⟨fs, hr, hrun, hended, hW, hsame⟩ := X4.leave (v := some (.int (1 : Int32))) (fun h => by rw [Bd.returns] at h; cases h)
    refine ⟨_, _, retN X4 hx (t := .boolean) Bd.returns (by simp) (hb hby d2_33) hr, hrun, hended, _, _, rfl, ?_, ⟨_, rfl⟩, hW, hsame.mono (by decide) (by decide)⟩
    show Q_rmO Z a1 w5 w6 w7 w8 h0 n0 _ T4.heap _
    rw [e4]
    exact ⟨by simp only [own_has, if_neg hc4, if_neg hc11, if_neg hc18, if_pos hc25], N0, rfl⟩
  refine own_fwd (B := T4.setTop (mkF m 32 #[.val (.ref a1)] [])) (fun t k => Jvm.RoadKit.acmp (g := (mkF m 25 #[.val (.ref a1)] [(.ref w8), (.ref a1)])) X4 hx rfl rfl rfl (pc0 := 25) (pc' := 32) (same := false) rfl (hb hby d2_25) rfl (decide_eq_false fun q => hc25 (Value.ref.inj q)) (by decide) (by decide) k) ?_
  refine own_fwd (B := T4.setTop (mkF m 33 #[.val (.ref a1)] [(.int (0 : Int32))])) (fun t k => XS.iconst X4.here hx rfl (hb hby d2_32) k) ?_
  obtain ⟨fs, hr, hrun, hended, hW, hsame⟩ := X4.leave (v := some (.int (0 : Int32))) (fun h => by rw [Bd.returns] at h; cases h)
  refine ⟨_, _, retN X4 hx (t := .boolean) Bd.returns (by simp) (hb hby d2_33) hr, hrun, hended, _, _, rfl, ?_, ⟨_, rfl⟩, hW, hsame.mono (by decide) (by decide)⟩
  show Q_rmO Z a1 w5 w6 w7 w8 h0 n0 _ T4.heap _
  rw [e4]
  exact ⟨by simp only [own_has, if_neg hc4, if_neg hc11, if_neg hc18, if_neg hc25], N0, rfl⟩
def Q_rm0 (Z : State) (p1 : Int32) (w0 : Addr) (w1 : Addr) (w2 : Addr) (w3 : Addr) (w4 : Addr) (w5 : Addr) (w6 : Addr) (w7 : Addr) (w8 : Addr) (h0 : Heap) (n0 : Nat) (v : Option Value) (h : Heap) (L : List Loc) : Prop := v = some (.int (1 : Int32)) ∧ Fr n0 L
set_option maxRecDepth 65536 in
set_option maxHeartbeats 40000000 in
theorem rm0 (l : Launch) (Z : State) (a0 : Array Value) (hw : ∀ d ∈ tables_1, d.before a0 Z = true) (ws : List Jvm.Cond) (p1 : Int32) (w0 : Addr) (w1 : Addr) (w2 : Addr) (w3 : Addr) (w4 : Addr) (w5 : Addr) (w6 : Addr) (w7 : Addr) (w8 : Addr) (h0 : Heap) (n0 : Nat) (Z0 : n0 ≤ h0.size) (O0 : Old Z n0 h0) (P0 : Sta Z Z.heap "com/example/xml_grammar_check/xmlgrammarcheck/datatypes/ValueKind" "TEXT" "Lcom/example/xml_grammar_check/xmlgrammarcheck/datatypes/ValueKind;" (.ref w0)) (P1 : Sta Z Z.heap "com/example/xml_grammar_check/xmlgrammarcheck/datatypes/ValueKind" "LIST" "Lcom/example/xml_grammar_check/xmlgrammarcheck/datatypes/ValueKind;" (.ref w1)) (P2 : Sta Z Z.heap "com/example/xml_grammar_check/xmlgrammarcheck/datatypes/ValueKind" "QNAME" "Lcom/example/xml_grammar_check/xmlgrammarcheck/datatypes/ValueKind;" (.ref w2)) (P3 : Sta Z Z.heap "com/example/xml_grammar_check/xmlgrammarcheck/datatypes/ValueKind" "OCTETS" "Lcom/example/xml_grammar_check/xmlgrammarcheck/datatypes/ValueKind;" (.ref w3)) (P4 : Sta Z Z.heap "com/example/xml_grammar_check/xmlgrammarcheck/datatypes/ValueKind" "BOOLEAN" "Lcom/example/xml_grammar_check/xmlgrammarcheck/datatypes/ValueKind;" (.ref w4)) (P5 : Sta Z Z.heap "com/example/xml_grammar_check/xmlgrammarcheck/datatypes/ValueKind" "DECIMAL" "Lcom/example/xml_grammar_check/xmlgrammarcheck/datatypes/ValueKind;" (.ref w5)) (P6 : Sta Z Z.heap "com/example/xml_grammar_check/xmlgrammarcheck/datatypes/ValueKind" "FLOATING" "Lcom/example/xml_grammar_check/xmlgrammarcheck/datatypes/ValueKind;" (.ref w6)) (P7 : Sta Z Z.heap "com/example/xml_grammar_check/xmlgrammarcheck/datatypes/ValueKind" "DURATION" "Lcom/example/xml_grammar_check/xmlgrammarcheck/datatypes/ValueKind;" (.ref w7)) (P8 : Sta Z Z.heap "com/example/xml_grammar_check/xmlgrammarcheck/datatypes/ValueKind" "DATE_TIME" "Lcom/example/xml_grammar_check/xmlgrammarcheck/datatypes/ValueKind;" (.ref w8)) (hE : ∀ i : Int32, Exa Z Z.heap (own_pick i w0 w1 w2 w3 w4 w5 w6 w7 w8) "com/example/xml_grammar_check/xmlgrammarcheck/datatypes/ValueKind") (hG0 : ∀ i : Int32, own_in i → i < 5 → own_has (own_pick i w0 w1 w2 w3 w4 w5 w6 w7 w8) w5 w6 w7 w8 = 0) (hG1 : ∀ i : Int32, own_in i → ¬ i < 5 → own_has (own_pick i w0 w1 w2 w3 w4 w5 w6 w7 w8) w5 w6 w7 w8 = 1) (hL0 : ∀ i : Int32, own_in i → ¬ i < 5 → own_has (own_pick i w0 w1 w2 w3 w4 w5 w6 w7 w8) w0 w1 w2 w3 = 0) :
    MetFree l x (head1 (Jvm.Cond.code x code maxLocals ret :: ws) room_1) (fun a U => a = #[(.int p1)] ∧ Z.Warmed39 U.vm ∧ U.heap = h0) (fun _ _ _ _ _ => True) (fun _ U o U' => ∃ v L, o = .returned v ∧ Q_rm0 Z p1 w0 w1 w2 w3 w4 w5 w6 w7 w8 h0 n0 v U'.heap L ∧ FrameEnd U o U' L room_1.cells room_1.slots) := by
  refine MetFree.of_bodySF (plainFor_of_name pn_0) hisR ?_
  intro p e s m args below meth c s₁ Bd hml0 hP hK
  obtain ⟨rfl, hZ, hh⟩ := hP
  have hx := Bd.exec
  have hby := Bd.bytes
  have hml : c.maxLocals = 5 := hml0
  have hown : s.vm.findClass "com/example/xml_grammar_check/xmlgrammarcheck/datatypes/ValueKindIsOrderedPinLaw" = some m.cls := findClass_of_methodNamed Bd.named
  have hnm := (name_of_methodNamed Bd.named Bd.method).1
  have X0 : Stand p l e room_1 s m #[(.int p1)] below meth c s₁ [] 0 0 := Stand.of_body Bd
  have e0 : s₁.heap = h0 := by rw [← hh, Bd.state]; rfl
  have N0 := Fr.nil n0
  have ef0 : entryFrame m #[(.int p1)] maxLocals = (mkF m 0 #[.val (.int p1), .unset, .unset, .unset, .unset] []) := by first | (simp [entryFrame, mkF, argsToLocals, Value.category, maxLocals]; done) | rfl
  refine own_fwd (B := s₁.setTop (mkF m 0 #[.val (.int p1), .unset, .unset, .unset, .unset] [])) (fun t k => castTop ef0 k) ?_
  refine own_fwd (B := s₁.setTop (mkF m 1 #[.val (.int p1), .unset, .unset, .unset, .unset] [(.int p1)])) (fun t k => XS.iloadN X0.here hx rfl (hb hby at_0) rfl k) ?_
  refine own_fwd (B := s₁.setTop (mkF m 3 #[.val (.int p1), .unset, .unset, .unset, .unset] [(.int (2147483647 : Int32)), (.int p1)])) (fun t k => X0.ldcInt hx hown (mvT hZ (hw _ (List.mem_of_getElem? (i := 0) rfl))) (g := (mkF m 1 #[.val (.int p1), .unset, .unset, .unset, .unset] [(.int p1)])) rfl (hb hby at_1) t k) ?_
  refine own_fwd (B := s₁.setTop (mkF m 4 #[.val (.int p1), .unset, .unset, .unset, .unset] [(.int (p1 &&& (2147483647 : Int32)))])) (fun t k => XS.iand X0.here hx rfl (hb hby at_3) rfl k) ?_
  refine own_fwd (B := s₁.setTop (mkF m 6 #[.val (.int p1), .unset, .unset, .unset, .unset] [(.int (9 : Int32)), (.int (p1 &&& (2147483647 : Int32)))])) (fun t k => XS.bipush X0.here hx rfl (hb hby at_4) k) ?_
  refine own_fwd (B := s₁.setTop (mkF m 7 #[.val (.int p1), .unset, .unset, .unset, .unset] [(.int ((p1 &&& (2147483647 : Int32)) % (9 : Int32)))])) (fun t k => iremM X0 hx rfl (hb hby at_6) rfl (by decide) k) ?_
  refine own_fwd (B := s₁.setTop (mkF m 8 #[.val (.int p1), .val (.int ((p1 &&& (2147483647 : Int32)) % (9 : Int32))), .unset, .unset, .unset] [])) (fun t k => XS.istoreN X0.here hx rfl (hb hby at_7) rfl (l' := #[.val (.int p1), .val (.int ((p1 &&& (2147483647 : Int32)) % (9 : Int32))), .unset, .unset, .unset]) rfl k) ?_
  refine own_fwd (B := s₁.setTop (mkF m 9 #[.val (.int p1), .val (.int ((p1 &&& (2147483647 : Int32)) % (9 : Int32))), .unset, .unset, .unset] [(.int ((p1 &&& (2147483647 : Int32)) % (9 : Int32)))])) (fun t k => XS.iloadN X0.here hx rfl (hb hby at_8) rfl k) ?_
  obtain ⟨_, _, ⟨T1, L1, k1, n1⟩, -, X1, ⟨Lc1, hQ1, l1, y1, z1⟩, st1⟩ := Jvm.LawKit.callS X0 hx (y := (⟨"com/example/xml_grammar_check/xmlgrammarcheck/datatypes/ValueKindIsOrderedPinLaw", "pick", "(I)Lcom/example/xml_grammar_check/xmlgrammarcheck/datatypes/ValueKind;"⟩ : MethodName)) hown (mvT hZ (hw _ (List.mem_of_getElem? (i := 1) rfl))) (mvT hZ (hw _ (List.mem_of_getElem? (i := 2) rfl))) (mvT hZ (hw _ (List.mem_of_getElem? (i := 3) rfl))) (mvT hZ (hw _ (List.mem_of_getElem? (i := 4) rfl))) (by decide) (backOf (W := 0) (rmP l Z a0 hw [] ((p1 &&& (2147483647 : Int32)) % (9 : Int32)) w0 w1 w2 w3 w4 w5 w6 w7 w8 h0 n0 Z0 O0 P0 P1 P2 P3 P4 P5 P6 P7 P8) hZ (hw _ (List.mem_of_getElem? (i := 4) rfl)) (hw _ (List.mem_of_getElem? (i := 3) rfl)) (by decide) (by decide)) (g := (mkF m 9 #[.val (.int p1), .val (.int ((p1 &&& (2147483647 : Int32)) % (9 : Int32))), .unset, .unset, .unset] [(.int ((p1 &&& (2147483647 : Int32)) % (9 : Int32)))])) rfl (by rw [hml]; rfl) (argsL := [(.int ((p1 &&& (2147483647 : Int32)) % (9 : Int32)))]) (rest := []) (lenOf pd_0 rfl) rfl (by show 2 * 0 + _ ≤ _; exact Nat.le_of_eq rfl) (hb hby at_9) (fun _ _ => ⟨rfl, e0, (by decide : 0 + 0 ≤ _), (by decide : 0 + 0 ≤ _)⟩)
  dsimp only [Pt.U, Pt.locs, Pt.cells, Pt.slots] at X1 l1 y1 z1 st1 hQ1
  subst l1 y1 z1
  obtain ⟨rfl, N1q, e1⟩ := hQ1
  have N1 := Fr.app N0 N1q
  refine own_fwd (B := T1.setTop (mkF m 12 #[.val (.int p1), .val (.int ((p1 &&& (2147483647 : Int32)) % (9 : Int32))), .unset, .unset, .unset] [(.ref (own_pick ((p1 &&& (2147483647 : Int32)) % (9 : Int32)) w0 w1 w2 w3 w4 w5 w6 w7 w8))])) (fun t k => st1 t k) ?_
  refine own_fwd (B := T1.setTop (mkF m 13 #[.val (.int p1), .val (.int ((p1 &&& (2147483647 : Int32)) % (9 : Int32))), .val (.ref (own_pick ((p1 &&& (2147483647 : Int32)) % (9 : Int32)) w0 w1 w2 w3 w4 w5 w6 w7 w8)), .unset, .unset] [])) (fun t k => XS.astoreN X1.here hx rfl (hb hby at_12) rfl rfl (l' := #[.val (.int p1), .val (.int ((p1 &&& (2147483647 : Int32)) % (9 : Int32))), .val (.ref (own_pick ((p1 &&& (2147483647 : Int32)) % (9 : Int32)) w0 w1 w2 w3 w4 w5 w6 w7 w8)), .unset, .unset]) rfl k) ?_
  refine own_fwd (B := T1.setTop (mkF m 14 #[.val (.int p1), .val (.int ((p1 &&& (2147483647 : Int32)) % (9 : Int32))), .val (.ref (own_pick ((p1 &&& (2147483647 : Int32)) % (9 : Int32)) w0 w1 w2 w3 w4 w5 w6 w7 w8)), .unset, .unset] [(.int ((p1 &&& (2147483647 : Int32)) % (9 : Int32)))])) (fun t k => XS.iloadN X1.here hx rfl (hb hby at_13) rfl k) ?_
  refine own_fwd (B := T1.setTop (mkF m 15 #[.val (.int p1), .val (.int ((p1 &&& (2147483647 : Int32)) % (9 : Int32))), .val (.ref (own_pick ((p1 &&& (2147483647 : Int32)) % (9 : Int32)) w0 w1 w2 w3 w4 w5 w6 w7 w8)), .unset, .unset] [(.int (5 : Int32)), (.int ((p1 &&& (2147483647 : Int32)) % (9 : Int32)))])) (fun t k => XS.iconst X1.here hx rfl (hb hby at_14) k) ?_
  by_cases hc15 : ((p1 &&& (2147483647 : Int32)) % (9 : Int32)) < (5 : Int32)
  · skip
    refine own_fwd (B := T1.setTop (mkF m 22 #[.val (.int p1), .val (.int ((p1 &&& (2147483647 : Int32)) % (9 : Int32))), .val (.ref (own_pick ((p1 &&& (2147483647 : Int32)) % (9 : Int32)) w0 w1 w2 w3 w4 w5 w6 w7 w8)), .unset, .unset] [])) (fun t k => XS.icmpYes X1.here hx rfl (pc0 := 15) (pc' := 22) rfl (hb hby at_15) rfl (tlt hc15).1 (by decide) (by decide) k) ?_
    refine own_fwd (B := T1.setTop (mkF m 23 #[.val (.int p1), .val (.int ((p1 &&& (2147483647 : Int32)) % (9 : Int32))), .val (.ref (own_pick ((p1 &&& (2147483647 : Int32)) % (9 : Int32)) w0 w1 w2 w3 w4 w5 w6 w7 w8)), .unset, .unset] [(.int (0 : Int32))])) (fun t k => XS.iconst X1.here hx rfl (hb hby at_22) k) ?_
    refine own_fwd (B := T1.setTop (mkF m 24 #[.val (.int p1), .val (.int ((p1 &&& (2147483647 : Int32)) % (9 : Int32))), .val (.ref (own_pick ((p1 &&& (2147483647 : Int32)) % (9 : Int32)) w0 w1 w2 w3 w4 w5 w6 w7 w8)), .val (.int (0 : Int32)), .unset] [])) (fun t k => XS.istoreN X1.here hx rfl (hb hby at_23) rfl (l' := #[.val (.int p1), .val (.int ((p1 &&& (2147483647 : Int32)) % (9 : Int32))), .val (.ref (own_pick ((p1 &&& (2147483647 : Int32)) % (9 : Int32)) w0 w1 w2 w3 w4 w5 w6 w7 w8)), .val (.int (0 : Int32)), .unset]) rfl k) ?_
    refine own_fwd (B := T1.setTop (mkF m 25 #[.val (.int p1), .val (.int ((p1 &&& (2147483647 : Int32)) % (9 : Int32))), .val (.ref (own_pick ((p1 &&& (2147483647 : Int32)) % (9 : Int32)) w0 w1 w2 w3 w4 w5 w6 w7 w8)), .val (.int (0 : Int32)), .unset] [(.ref (own_pick ((p1 &&& (2147483647 : Int32)) % (9 : Int32)) w0 w1 w2 w3 w4 w5 w6 w7 w8))])) (fun t k => XS.aloadN X1.here hx rfl (hb hby at_24) rfl rfl k) ?_
    obtain ⟨cq2, kq2, q2a, q2b, q2c⟩ := isOf hZ e1 ((hE ((p1 &&& (2147483647 : Int32)) % (9 : Int32))).ext O0.2)
    obtain ⟨_, _, ⟨T2, L2, k2, n2⟩, -, X2, ⟨Lc2, hQ2, l2, y2, z2⟩, st2⟩ := X1.virtualBack hx (y := (⟨"com/example/xml_grammar_check/xmlgrammarcheck/datatypes/ValueKind", "isOrdered", "()Z"⟩ : MethodName)) (z := (⟨"com/example/xml_grammar_check/xmlgrammarcheck/datatypes/ValueKind", "isOrdered", "()Z"⟩ : MethodName)) hown (mvT hZ (hw _ (List.mem_of_getElem? (i := 8) rfl))) (mvT hZ (hw _ (List.mem_of_getElem? (i := 9) rfl))) (notFace_of_selects (args := #[]) (mvT hZ (hw _ (List.mem_of_getElem? (i := 11) rfl)))) (mvT hZ (hw _ (List.mem_of_getElem? (i := 11) rfl))) (mvT hZ (hw _ (List.mem_of_getElem? (i := 10) rfl))) (by decide) (backOf (W := 0) (rmO l Z a0 hw [] (own_pick ((p1 &&& (2147483647 : Int32)) % (9 : Int32)) w0 w1 w2 w3 w4 w5 w6 w7 w8) w5 w6 w7 w8 h0 n0 Z0 O0 P5 P6 P7 P8) hZ (hw _ (List.mem_of_getElem? (i := 12) rfl)) (hw _ (List.mem_of_getElem? (i := 6) rfl)) (by decide) (by decide)) q2a q2c (g := (mkF m 25 #[.val (.int p1), .val (.int ((p1 &&& (2147483647 : Int32)) % (9 : Int32))), .val (.ref (own_pick ((p1 &&& (2147483647 : Int32)) % (9 : Int32)) w0 w1 w2 w3 w4 w5 w6 w7 w8)), .val (.int (0 : Int32)), .unset] [(.ref (own_pick ((p1 &&& (2147483647 : Int32)) % (9 : Int32)) w0 w1 w2 w3 w4 w5 w6 w7 w8))])) rfl (by rw [hml]; rfl) (Steps.refl _) (argsL := []) (rest := []) (lenOf pd_1 rfl) rfl (by show 2 * 0 + _ ≤ _; exact Nat.le_of_eq rfl) (hb hby at_25) (fun _ _ => ⟨rfl, e1, (by decide : 0 + 0 ≤ _), (by decide : 0 + 0 ≤ _)⟩)
    dsimp only [Pt.U, Pt.locs, Pt.cells, Pt.slots] at X2 l2 y2 z2 st2 hQ2
    subst l2 y2 z2
    obtain ⟨rfl, N2q, e2⟩ := hQ2
    have N2 := Fr.app N1 N2q
    refine own_fwd (B := T2.setTop (mkF m 28 #[.val (.int p1), .val (.int ((p1 &&& (2147483647 : Int32)) % (9 : Int32))), .val (.ref (own_pick ((p1 &&& (2147483647 : Int32)) % (9 : Int32)) w0 w1 w2 w3 w4 w5 w6 w7 w8)), .val (.int (0 : Int32)), .unset] [(.int (own_has (own_pick ((p1 &&& (2147483647 : Int32)) % (9 : Int32)) w0 w1 w2 w3 w4 w5 w6 w7 w8) w5 w6 w7 w8))])) (fun t k => st2.trans k) ?_
    refine own_fwd (B := T2.setTop (mkF m 30 #[.val (.int p1), .val (.int ((p1 &&& (2147483647 : Int32)) % (9 : Int32))), .val (.ref (own_pick ((p1 &&& (2147483647 : Int32)) % (9 : Int32)) w0 w1 w2 w3 w4 w5 w6 w7 w8)), .val (.int (0 : Int32)), .val (.int (own_has (own_pick ((p1 &&& (2147483647 : Int32)) % (9 : Int32)) w0 w1 w2 w3 w4 w5 w6 w7 w8) w5 w6 w7 w8))] [])) (fun t k => XS.istore X2.here hx rfl (hb hby at_28) rfl (l' := #[.val (.int p1), .val (.int ((p1 &&& (2147483647 : Int32)) % (9 : Int32))), .val (.ref (own_pick ((p1 &&& (2147483647 : Int32)) % (9 : Int32)) w0 w1 w2 w3 w4 w5 w6 w7 w8)), .val (.int (0 : Int32)), .val (.int (own_has (own_pick ((p1 &&& (2147483647 : Int32)) % (9 : Int32)) w0 w1 w2 w3 w4 w5 w6 w7 w8) w5 w6 w7 w8))]) rfl k) ?_
    refine own_fwd (B := T2.setTop (mkF m 32 #[.val (.int p1), .val (.int ((p1 &&& (2147483647 : Int32)) % (9 : Int32))), .val (.ref (own_pick ((p1 &&& (2147483647 : Int32)) % (9 : Int32)) w0 w1 w2 w3 w4 w5 w6 w7 w8)), .val (.int (0 : Int32)), .val (.int (own_has (own_pick ((p1 &&& (2147483647 : Int32)) % (9 : Int32)) w0 w1 w2 w3 w4 w5 w6 w7 w8) w5 w6 w7 w8))] [(.int (own_has (own_pick ((p1 &&& (2147483647 : Int32)) % (9 : Int32)) w0 w1 w2 w3 w4 w5 w6 w7 w8) w5 w6 w7 w8))])) (fun t k => XS.iload X2.here hx rfl (hb hby at_30) rfl k) ?_
    refine own_fwd (B := T2.setTop (mkF m 33 #[.val (.int p1), .val (.int ((p1 &&& (2147483647 : Int32)) % (9 : Int32))), .val (.ref (own_pick ((p1 &&& (2147483647 : Int32)) % (9 : Int32)) w0 w1 w2 w3 w4 w5 w6 w7 w8)), .val (.int (0 : Int32)), .val (.int (own_has (own_pick ((p1 &&& (2147483647 : Int32)) % (9 : Int32)) w0 w1 w2 w3 w4 w5 w6 w7 w8) w5 w6 w7 w8))] [(.int (0 : Int32)), (.int (own_has (own_pick ((p1 &&& (2147483647 : Int32)) % (9 : Int32)) w0 w1 w2 w3 w4 w5 w6 w7 w8) w5 w6 w7 w8))])) (fun t k => XS.iloadN X2.here hx rfl (hb hby at_32) rfl k) ?_
    refine own_fwd (B := T2.setTop (mkF m 36 #[.val (.int p1), .val (.int ((p1 &&& (2147483647 : Int32)) % (9 : Int32))), .val (.ref (own_pick ((p1 &&& (2147483647 : Int32)) % (9 : Int32)) w0 w1 w2 w3 w4 w5 w6 w7 w8)), .val (.int (0 : Int32)), .val (.int (own_has (own_pick ((p1 &&& (2147483647 : Int32)) % (9 : Int32)) w0 w1 w2 w3 w4 w5 w6 w7 w8) w5 w6 w7 w8))] [])) (fun t k => XS.icmpNo X2.here hx rfl (hb hby at_33) rfl (teq (hG0 _ (own_idx p1) hc15 : (own_has (own_pick ((p1 &&& (2147483647 : Int32)) % (9 : Int32)) w0 w1 w2 w3 w4 w5 w6 w7 w8) w5 w6 w7 w8) = (0 : Int32))).2 k) ?_
    refine own_fwd (B := T2.setTop (mkF m 38 #[.val (.int p1), .val (.int ((p1 &&& (2147483647 : Int32)) % (9 : Int32))), .val (.ref (own_pick ((p1 &&& (2147483647 : Int32)) % (9 : Int32)) w0 w1 w2 w3 w4 w5 w6 w7 w8)), .val (.int (0 : Int32)), .val (.int (own_has (own_pick ((p1 &&& (2147483647 : Int32)) % (9 : Int32)) w0 w1 w2 w3 w4 w5 w6 w7 w8) w5 w6 w7 w8))] [(.int (own_has (own_pick ((p1 &&& (2147483647 : Int32)) % (9 : Int32)) w0 w1 w2 w3 w4 w5 w6 w7 w8) w5 w6 w7 w8))])) (fun t k => XS.iload X2.here hx rfl (hb hby at_36) rfl k) ?_
    refine own_fwd (B := T2.setTop (mkF m 48 #[.val (.int p1), .val (.int ((p1 &&& (2147483647 : Int32)) % (9 : Int32))), .val (.ref (own_pick ((p1 &&& (2147483647 : Int32)) % (9 : Int32)) w0 w1 w2 w3 w4 w5 w6 w7 w8)), .val (.int (0 : Int32)), .val (.int (own_has (own_pick ((p1 &&& (2147483647 : Int32)) % (9 : Int32)) w0 w1 w2 w3 w4 w5 w6 w7 w8) w5 w6 w7 w8))] [])) (fun t k => XS.ifYes X2.here hx rfl (pc0 := 38) (pc' := 48) rfl (hb hby at_38) rfl ((if0 _ _).trans (teq (hG0 _ (own_idx p1) hc15 : (own_has (own_pick ((p1 &&& (2147483647 : Int32)) % (9 : Int32)) w0 w1 w2 w3 w4 w5 w6 w7 w8) w5 w6 w7 w8) = (0 : Int32))).1) (by decide) (by decide) k) ?_
    refine own_fwd (B := T2.setTop (mkF m 49 #[.val (.int p1), .val (.int ((p1 &&& (2147483647 : Int32)) % (9 : Int32))), .val (.ref (own_pick ((p1 &&& (2147483647 : Int32)) % (9 : Int32)) w0 w1 w2 w3 w4 w5 w6 w7 w8)), .val (.int (0 : Int32)), .val (.int (own_has (own_pick ((p1 &&& (2147483647 : Int32)) % (9 : Int32)) w0 w1 w2 w3 w4 w5 w6 w7 w8) w5 w6 w7 w8))] [(.int (1 : Int32))])) (fun t k => XS.iconst X2.here hx rfl (hb hby at_48) k) ?_
    refine own_fwd (B := T2.setTop (mkF m 53 #[.val (.int p1), .val (.int ((p1 &&& (2147483647 : Int32)) % (9 : Int32))), .val (.ref (own_pick ((p1 &&& (2147483647 : Int32)) % (9 : Int32)) w0 w1 w2 w3 w4 w5 w6 w7 w8)), .val (.int (0 : Int32)), .val (.int (own_has (own_pick ((p1 &&& (2147483647 : Int32)) % (9 : Int32)) w0 w1 w2 w3 w4 w5 w6 w7 w8) w5 w6 w7 w8))] [(.int (1 : Int32))])) (fun t k => XS.goto X2.here hx rfl (pc0 := 49) (pc' := 53) rfl (hb hby at_49) (by decide) (by decide) k) ?_
    obtain ⟨fs, hr, hrun, hended, hW, hsame⟩ := X2.leave (v := some (.int (1 : Int32))) (fun h => by rw [Bd.returns] at h; cases h)
    refine ⟨_, _, retN X2 hx (t := .boolean) Bd.returns (by simp) (hb hby at_53) hr, hrun, hended, _, _, rfl, ?_, ⟨_, rfl⟩, hW, hsame.mono (by decide) (by decide)⟩
    show Q_rm0 Z p1 w0 w1 w2 w3 w4 w5 w6 w7 w8 h0 n0 _ T2.heap _
    rw [e2]
    exact ⟨rfl, N2⟩
  refine own_fwd (B := T1.setTop (mkF m 18 #[.val (.int p1), .val (.int ((p1 &&& (2147483647 : Int32)) % (9 : Int32))), .val (.ref (own_pick ((p1 &&& (2147483647 : Int32)) % (9 : Int32)) w0 w1 w2 w3 w4 w5 w6 w7 w8)), .unset, .unset] [])) (fun t k => XS.icmpNo X1.here hx rfl (hb hby at_15) rfl (flt hc15).1 k) ?_
  refine own_fwd (B := T1.setTop (mkF m 19 #[.val (.int p1), .val (.int ((p1 &&& (2147483647 : Int32)) % (9 : Int32))), .val (.ref (own_pick ((p1 &&& (2147483647 : Int32)) % (9 : Int32)) w0 w1 w2 w3 w4 w5 w6 w7 w8)), .unset, .unset] [(.int (1 : Int32))])) (fun t k => XS.iconst X1.here hx rfl (hb hby at_18) k) ?_
  refine own_fwd (B := T1.setTop (mkF m 23 #[.val (.int p1), .val (.int ((p1 &&& (2147483647 : Int32)) % (9 : Int32))), .val (.ref (own_pick ((p1 &&& (2147483647 : Int32)) % (9 : Int32)) w0 w1 w2 w3 w4 w5 w6 w7 w8)), .unset, .unset] [(.int (1 : Int32))])) (fun t k => XS.goto X1.here hx rfl (pc0 := 19) (pc' := 23) rfl (hb hby at_19) (by decide) (by decide) k) ?_
  refine own_fwd (B := T1.setTop (mkF m 24 #[.val (.int p1), .val (.int ((p1 &&& (2147483647 : Int32)) % (9 : Int32))), .val (.ref (own_pick ((p1 &&& (2147483647 : Int32)) % (9 : Int32)) w0 w1 w2 w3 w4 w5 w6 w7 w8)), .val (.int (1 : Int32)), .unset] [])) (fun t k => XS.istoreN X1.here hx rfl (hb hby at_23) rfl (l' := #[.val (.int p1), .val (.int ((p1 &&& (2147483647 : Int32)) % (9 : Int32))), .val (.ref (own_pick ((p1 &&& (2147483647 : Int32)) % (9 : Int32)) w0 w1 w2 w3 w4 w5 w6 w7 w8)), .val (.int (1 : Int32)), .unset]) rfl k) ?_
  refine own_fwd (B := T1.setTop (mkF m 25 #[.val (.int p1), .val (.int ((p1 &&& (2147483647 : Int32)) % (9 : Int32))), .val (.ref (own_pick ((p1 &&& (2147483647 : Int32)) % (9 : Int32)) w0 w1 w2 w3 w4 w5 w6 w7 w8)), .val (.int (1 : Int32)), .unset] [(.ref (own_pick ((p1 &&& (2147483647 : Int32)) % (9 : Int32)) w0 w1 w2 w3 w4 w5 w6 w7 w8))])) (fun t k => XS.aloadN X1.here hx rfl (hb hby at_24) rfl rfl k) ?_
  obtain ⟨cq3, kq3, q3a, q3b, q3c⟩ := isOf hZ e1 ((hE ((p1 &&& (2147483647 : Int32)) % (9 : Int32))).ext O0.2)
  obtain ⟨_, _, ⟨T3, L3, k3, n3⟩, -, X3, ⟨Lc3, hQ3, l3, y3, z3⟩, st3⟩ := X1.virtualBack hx (y := (⟨"com/example/xml_grammar_check/xmlgrammarcheck/datatypes/ValueKind", "isOrdered", "()Z"⟩ : MethodName)) (z := (⟨"com/example/xml_grammar_check/xmlgrammarcheck/datatypes/ValueKind", "isOrdered", "()Z"⟩ : MethodName)) hown (mvT hZ (hw _ (List.mem_of_getElem? (i := 8) rfl))) (mvT hZ (hw _ (List.mem_of_getElem? (i := 9) rfl))) (notFace_of_selects (args := #[]) (mvT hZ (hw _ (List.mem_of_getElem? (i := 11) rfl)))) (mvT hZ (hw _ (List.mem_of_getElem? (i := 11) rfl))) (mvT hZ (hw _ (List.mem_of_getElem? (i := 10) rfl))) (by decide) (backOf (W := 0) (rmO l Z a0 hw [] (own_pick ((p1 &&& (2147483647 : Int32)) % (9 : Int32)) w0 w1 w2 w3 w4 w5 w6 w7 w8) w5 w6 w7 w8 h0 n0 Z0 O0 P5 P6 P7 P8) hZ (hw _ (List.mem_of_getElem? (i := 12) rfl)) (hw _ (List.mem_of_getElem? (i := 6) rfl)) (by decide) (by decide)) q3a q3c (g := (mkF m 25 #[.val (.int p1), .val (.int ((p1 &&& (2147483647 : Int32)) % (9 : Int32))), .val (.ref (own_pick ((p1 &&& (2147483647 : Int32)) % (9 : Int32)) w0 w1 w2 w3 w4 w5 w6 w7 w8)), .val (.int (1 : Int32)), .unset] [(.ref (own_pick ((p1 &&& (2147483647 : Int32)) % (9 : Int32)) w0 w1 w2 w3 w4 w5 w6 w7 w8))])) rfl (by rw [hml]; rfl) (Steps.refl _) (argsL := []) (rest := []) (lenOf pd_1 rfl) rfl (by show 2 * 0 + _ ≤ _; exact Nat.le_of_eq rfl) (hb hby at_25) (fun _ _ => ⟨rfl, e1, (by decide : 0 + 0 ≤ _), (by decide : 0 + 0 ≤ _)⟩)
  dsimp only [Pt.U, Pt.locs, Pt.cells, Pt.slots] at X3 l3 y3 z3 st3 hQ3
  subst l3 y3 z3
  obtain ⟨rfl, N3q, e3⟩ := hQ3
  have N3 := Fr.app N1 N3q
  refine own_fwd (B := T3.setTop (mkF m 28 #[.val (.int p1), .val (.int ((p1 &&& (2147483647 : Int32)) % (9 : Int32))), .val (.ref (own_pick ((p1 &&& (2147483647 : Int32)) % (9 : Int32)) w0 w1 w2 w3 w4 w5 w6 w7 w8)), .val (.int (1 : Int32)), .unset] [(.int (own_has (own_pick ((p1 &&& (2147483647 : Int32)) % (9 : Int32)) w0 w1 w2 w3 w4 w5 w6 w7 w8) w5 w6 w7 w8))])) (fun t k => st3.trans k) ?_
  refine own_fwd (B := T3.setTop (mkF m 30 #[.val (.int p1), .val (.int ((p1 &&& (2147483647 : Int32)) % (9 : Int32))), .val (.ref (own_pick ((p1 &&& (2147483647 : Int32)) % (9 : Int32)) w0 w1 w2 w3 w4 w5 w6 w7 w8)), .val (.int (1 : Int32)), .val (.int (own_has (own_pick ((p1 &&& (2147483647 : Int32)) % (9 : Int32)) w0 w1 w2 w3 w4 w5 w6 w7 w8) w5 w6 w7 w8))] [])) (fun t k => XS.istore X3.here hx rfl (hb hby at_28) rfl (l' := #[.val (.int p1), .val (.int ((p1 &&& (2147483647 : Int32)) % (9 : Int32))), .val (.ref (own_pick ((p1 &&& (2147483647 : Int32)) % (9 : Int32)) w0 w1 w2 w3 w4 w5 w6 w7 w8)), .val (.int (1 : Int32)), .val (.int (own_has (own_pick ((p1 &&& (2147483647 : Int32)) % (9 : Int32)) w0 w1 w2 w3 w4 w5 w6 w7 w8) w5 w6 w7 w8))]) rfl k) ?_
  refine own_fwd (B := T3.setTop (mkF m 32 #[.val (.int p1), .val (.int ((p1 &&& (2147483647 : Int32)) % (9 : Int32))), .val (.ref (own_pick ((p1 &&& (2147483647 : Int32)) % (9 : Int32)) w0 w1 w2 w3 w4 w5 w6 w7 w8)), .val (.int (1 : Int32)), .val (.int (own_has (own_pick ((p1 &&& (2147483647 : Int32)) % (9 : Int32)) w0 w1 w2 w3 w4 w5 w6 w7 w8) w5 w6 w7 w8))] [(.int (own_has (own_pick ((p1 &&& (2147483647 : Int32)) % (9 : Int32)) w0 w1 w2 w3 w4 w5 w6 w7 w8) w5 w6 w7 w8))])) (fun t k => XS.iload X3.here hx rfl (hb hby at_30) rfl k) ?_
  refine own_fwd (B := T3.setTop (mkF m 33 #[.val (.int p1), .val (.int ((p1 &&& (2147483647 : Int32)) % (9 : Int32))), .val (.ref (own_pick ((p1 &&& (2147483647 : Int32)) % (9 : Int32)) w0 w1 w2 w3 w4 w5 w6 w7 w8)), .val (.int (1 : Int32)), .val (.int (own_has (own_pick ((p1 &&& (2147483647 : Int32)) % (9 : Int32)) w0 w1 w2 w3 w4 w5 w6 w7 w8) w5 w6 w7 w8))] [(.int (1 : Int32)), (.int (own_has (own_pick ((p1 &&& (2147483647 : Int32)) % (9 : Int32)) w0 w1 w2 w3 w4 w5 w6 w7 w8) w5 w6 w7 w8))])) (fun t k => XS.iloadN X3.here hx rfl (hb hby at_32) rfl k) ?_
  refine own_fwd (B := T3.setTop (mkF m 36 #[.val (.int p1), .val (.int ((p1 &&& (2147483647 : Int32)) % (9 : Int32))), .val (.ref (own_pick ((p1 &&& (2147483647 : Int32)) % (9 : Int32)) w0 w1 w2 w3 w4 w5 w6 w7 w8)), .val (.int (1 : Int32)), .val (.int (own_has (own_pick ((p1 &&& (2147483647 : Int32)) % (9 : Int32)) w0 w1 w2 w3 w4 w5 w6 w7 w8) w5 w6 w7 w8))] [])) (fun t k => XS.icmpNo X3.here hx rfl (hb hby at_33) rfl (teq (hG1 _ (own_idx p1) hc15 : (own_has (own_pick ((p1 &&& (2147483647 : Int32)) % (9 : Int32)) w0 w1 w2 w3 w4 w5 w6 w7 w8) w5 w6 w7 w8) = (1 : Int32))).2 k) ?_
  refine own_fwd (B := T3.setTop (mkF m 38 #[.val (.int p1), .val (.int ((p1 &&& (2147483647 : Int32)) % (9 : Int32))), .val (.ref (own_pick ((p1 &&& (2147483647 : Int32)) % (9 : Int32)) w0 w1 w2 w3 w4 w5 w6 w7 w8)), .val (.int (1 : Int32)), .val (.int (own_has (own_pick ((p1 &&& (2147483647 : Int32)) % (9 : Int32)) w0 w1 w2 w3 w4 w5 w6 w7 w8) w5 w6 w7 w8))] [(.int (own_has (own_pick ((p1 &&& (2147483647 : Int32)) % (9 : Int32)) w0 w1 w2 w3 w4 w5 w6 w7 w8) w5 w6 w7 w8))])) (fun t k => XS.iload X3.here hx rfl (hb hby at_36) rfl k) ?_
  refine own_fwd (B := T3.setTop (mkF m 41 #[.val (.int p1), .val (.int ((p1 &&& (2147483647 : Int32)) % (9 : Int32))), .val (.ref (own_pick ((p1 &&& (2147483647 : Int32)) % (9 : Int32)) w0 w1 w2 w3 w4 w5 w6 w7 w8)), .val (.int (1 : Int32)), .val (.int (own_has (own_pick ((p1 &&& (2147483647 : Int32)) % (9 : Int32)) w0 w1 w2 w3 w4 w5 w6 w7 w8) w5 w6 w7 w8))] [])) (fun t k => XS.ifNo X3.here hx rfl (hb hby at_38) rfl ((if0 _ _).trans (feq (by rw [hG1 _ (own_idx p1) hc15]; decide : ¬ ((own_has (own_pick ((p1 &&& (2147483647 : Int32)) % (9 : Int32)) w0 w1 w2 w3 w4 w5 w6 w7 w8) w5 w6 w7 w8) = (0 : Int32)))).1) k) ?_
  refine own_fwd (B := T3.setTop (mkF m 42 #[.val (.int p1), .val (.int ((p1 &&& (2147483647 : Int32)) % (9 : Int32))), .val (.ref (own_pick ((p1 &&& (2147483647 : Int32)) % (9 : Int32)) w0 w1 w2 w3 w4 w5 w6 w7 w8)), .val (.int (1 : Int32)), .val (.int (own_has (own_pick ((p1 &&& (2147483647 : Int32)) % (9 : Int32)) w0 w1 w2 w3 w4 w5 w6 w7 w8) w5 w6 w7 w8))] [(.ref (own_pick ((p1 &&& (2147483647 : Int32)) % (9 : Int32)) w0 w1 w2 w3 w4 w5 w6 w7 w8))])) (fun t k => XS.aloadN X3.here hx rfl (hb hby at_41) rfl rfl k) ?_
  obtain ⟨cq4, kq4, q4a, q4b, q4c⟩ := isOf hZ e3 ((hE ((p1 &&& (2147483647 : Int32)) % (9 : Int32))).ext O0.2)
  obtain ⟨_, _, ⟨T4, L4, k4, n4⟩, -, X4, ⟨Lc4, hQ4, l4, y4, z4⟩, st4⟩ := X3.virtualBack hx (y := (⟨"com/example/xml_grammar_check/xmlgrammarcheck/datatypes/ValueKind", "hasLength", "()Z"⟩ : MethodName)) (z := (⟨"com/example/xml_grammar_check/xmlgrammarcheck/datatypes/ValueKind", "hasLength", "()Z"⟩ : MethodName)) hown (mvT hZ (hw _ (List.mem_of_getElem? (i := 28) rfl))) (mvT hZ (hw _ (List.mem_of_getElem? (i := 29) rfl))) (notFace_of_selects (args := #[]) (mvT hZ (hw _ (List.mem_of_getElem? (i := 31) rfl)))) (mvT hZ (hw _ (List.mem_of_getElem? (i := 31) rfl))) (mvT hZ (hw _ (List.mem_of_getElem? (i := 30) rfl))) (by decide) (backOf (W := 0) (rmL l Z a0 hw [] (own_pick ((p1 &&& (2147483647 : Int32)) % (9 : Int32)) w0 w1 w2 w3 w4 w5 w6 w7 w8) w0 w1 w2 w3 h0 n0 Z0 O0 P0 P1 P2 P3) hZ (hw _ (List.mem_of_getElem? (i := 32) rfl)) (hw _ (List.mem_of_getElem? (i := 6) rfl)) (by decide) (by decide)) q4a q4c (g := (mkF m 42 #[.val (.int p1), .val (.int ((p1 &&& (2147483647 : Int32)) % (9 : Int32))), .val (.ref (own_pick ((p1 &&& (2147483647 : Int32)) % (9 : Int32)) w0 w1 w2 w3 w4 w5 w6 w7 w8)), .val (.int (1 : Int32)), .val (.int (own_has (own_pick ((p1 &&& (2147483647 : Int32)) % (9 : Int32)) w0 w1 w2 w3 w4 w5 w6 w7 w8) w5 w6 w7 w8))] [(.ref (own_pick ((p1 &&& (2147483647 : Int32)) % (9 : Int32)) w0 w1 w2 w3 w4 w5 w6 w7 w8))])) rfl (by rw [hml]; rfl) (Steps.refl _) (argsL := []) (rest := []) (lenOf pd_1 rfl) rfl (by show 2 * 0 + _ ≤ _; exact Nat.le_of_eq rfl) (hb hby at_42) (fun _ _ => ⟨rfl, e3, (by decide : 0 + 0 ≤ _), (by decide : 0 + 0 ≤ _)⟩)
  dsimp only [Pt.U, Pt.locs, Pt.cells, Pt.slots] at X4 l4 y4 z4 st4 hQ4
  subst l4 y4 z4
  obtain ⟨rfl, N4q, e4⟩ := hQ4
  have N4 := Fr.app N3 N4q
  refine own_fwd (B := T4.setTop (mkF m 45 #[.val (.int p1), .val (.int ((p1 &&& (2147483647 : Int32)) % (9 : Int32))), .val (.ref (own_pick ((p1 &&& (2147483647 : Int32)) % (9 : Int32)) w0 w1 w2 w3 w4 w5 w6 w7 w8)), .val (.int (1 : Int32)), .val (.int (own_has (own_pick ((p1 &&& (2147483647 : Int32)) % (9 : Int32)) w0 w1 w2 w3 w4 w5 w6 w7 w8) w5 w6 w7 w8))] [(.int (own_has (own_pick ((p1 &&& (2147483647 : Int32)) % (9 : Int32)) w0 w1 w2 w3 w4 w5 w6 w7 w8) w0 w1 w2 w3))])) (fun t k => st4.trans k) ?_
  refine own_fwd (B := T4.setTop (mkF m 48 #[.val (.int p1), .val (.int ((p1 &&& (2147483647 : Int32)) % (9 : Int32))), .val (.ref (own_pick ((p1 &&& (2147483647 : Int32)) % (9 : Int32)) w0 w1 w2 w3 w4 w5 w6 w7 w8)), .val (.int (1 : Int32)), .val (.int (own_has (own_pick ((p1 &&& (2147483647 : Int32)) % (9 : Int32)) w0 w1 w2 w3 w4 w5 w6 w7 w8) w5 w6 w7 w8))] [])) (fun t k => XS.ifNo X4.here hx rfl (hb hby at_45) rfl ((if0 _ _).trans (teq (hL0 _ (own_idx p1) hc15 : (own_has (own_pick ((p1 &&& (2147483647 : Int32)) % (9 : Int32)) w0 w1 w2 w3 w4 w5 w6 w7 w8) w0 w1 w2 w3) = (0 : Int32))).2) k) ?_
  refine own_fwd (B := T4.setTop (mkF m 49 #[.val (.int p1), .val (.int ((p1 &&& (2147483647 : Int32)) % (9 : Int32))), .val (.ref (own_pick ((p1 &&& (2147483647 : Int32)) % (9 : Int32)) w0 w1 w2 w3 w4 w5 w6 w7 w8)), .val (.int (1 : Int32)), .val (.int (own_has (own_pick ((p1 &&& (2147483647 : Int32)) % (9 : Int32)) w0 w1 w2 w3 w4 w5 w6 w7 w8) w5 w6 w7 w8))] [(.int (1 : Int32))])) (fun t k => XS.iconst X4.here hx rfl (hb hby at_48) k) ?_
  refine own_fwd (B := T4.setTop (mkF m 53 #[.val (.int p1), .val (.int ((p1 &&& (2147483647 : Int32)) % (9 : Int32))), .val (.ref (own_pick ((p1 &&& (2147483647 : Int32)) % (9 : Int32)) w0 w1 w2 w3 w4 w5 w6 w7 w8)), .val (.int (1 : Int32)), .val (.int (own_has (own_pick ((p1 &&& (2147483647 : Int32)) % (9 : Int32)) w0 w1 w2 w3 w4 w5 w6 w7 w8) w5 w6 w7 w8))] [(.int (1 : Int32))])) (fun t k => XS.goto X4.here hx rfl (pc0 := 49) (pc' := 53) rfl (hb hby at_49) (by decide) (by decide) k) ?_
  obtain ⟨fs, hr, hrun, hended, hW, hsame⟩ := X4.leave (v := some (.int (1 : Int32))) (fun h => by rw [Bd.returns] at h; cases h)
  refine ⟨_, _, retN X4 hx (t := .boolean) Bd.returns (by simp) (hb hby at_53) hr, hrun, hended, _, _, rfl, ?_, ⟨_, rfl⟩, hW, hsame.mono (by decide) (by decide)⟩
  show Q_rm0 Z p1 w0 w1 w2 w3 w4 w5 w6 w7 w8 h0 n0 _ T4.heap _
  rw [e4]
  exact ⟨rfl, N4⟩
set_option maxRecDepth 65536 in
set_option maxHeartbeats 40000000 in
theorem comes_1 {Post : Tables → Env → Array Value → State → Outcome → State → Prop} (hpost : ∀ tb e args s v u, (limb_1_1.after args s (.returned v) u = true ∧ limb_1_2.after args s (.returned v) u = true ∧ True) → FrameEnd s (.returned v) u (Jvm.fieldLocs frame_1_writes args s ++ Jvm.arrayLocs frame_1_arrays args s ++ Jvm.staticLocs frame_1_statics s) 0 0 → Post tb e args s (.returned v) u) :
    ArmFor flags0 classFile x code maxLocals ret World_1 tables_1 room_1 Calls_1 rest_1 Pre_1 Post := by
  intro l hfl _ _ p e ha hc hk s m args below hf hA hF happ hP
  obtain ⟨hcalls, hrest, hpre⟩ := hP
  obtain ⟨-, -, -, hnamed, -, -, -, hat⟩ := (Spec.applies_iff hf).mp happ
  obtain ⟨hg, hn⟩ := and_e (Cond.before_iff.mp (show (Jvm.Cond.and given_1 narrow_1).before args s = true from hpre))
  obtain ⟨hg0, hgr0⟩ := and_e hg
  have hga0 := hgr0
  obtain ⟨w0, rfl⟩ : ∃ w0 : Value, args = #[w0] := by
    have hs : args.size = 1 := by simpa [Cond.value, given_1] using hg0
    obtain ⟨L⟩ := args
    match L, hs with
    | [w0], _ => exact ⟨w0, rfl⟩
  have hw := fun d (hd : d ∈ tables_1) => atoms_spec (ws := Jvm.Cond.code x code maxLocals ret :: tables_1) hat d (List.mem_cons_of_mem _ hd)
  have hfit : Fit s := fun {y c} hc i hi => by
    obtain ⟨ha, rfl⟩ := Array.getElem?_eq_some_iff.mp hc
    have q := List.all_eq_true.mp ((Array.all_eq_true_iff_forall_mem.mp hF) _ (Array.getElem_mem ha)) i (List.mem_range.mpr hi)
    simpa [Array.getElem?_eq_getElem hi] using q
  obtain ⟨i0, ei0⟩ := is_v hga0
  obtain rfl : w0 = (.int i0) := Option.some.inj ei0
  obtain ⟨na0, nar0⟩ := and_e hn
  obtain ⟨na1, nar1⟩ := and_e nar0
  obtain ⟨na2, nar2⟩ := and_e nar1
  obtain ⟨na3, nar3⟩ := and_e nar2
  obtain ⟨na4, nar4⟩ := and_e nar3
  obtain ⟨na5, nar5⟩ := and_e nar4
  obtain ⟨na6, nar6⟩ := and_e nar5
  obtain ⟨na7, nar7⟩ := and_e nar6
  obtain ⟨na8, nar8⟩ := and_e nar7
  obtain ⟨na9, nar9⟩ := and_e nar8
  obtain ⟨na10, nar10⟩ := and_e nar9
  obtain ⟨na11, nar11⟩ := and_e nar10
  obtain ⟨na12, nar12⟩ := and_e nar11
  obtain ⟨na13, nar13⟩ := and_e nar12
  obtain ⟨na14, nar14⟩ := and_e nar13
  obtain ⟨na15, nar15⟩ := and_e nar14
  obtain ⟨na16, nar16⟩ := and_e nar15
  have na17 := nar16
  obtain ⟨c0, ev0, ex0, sta0⟩ := own_enum na0 (hw _ (List.mem_of_getElem? (i := 6) rfl)) (hw _ (List.mem_of_getElem? (i := 7) rfl))
  obtain ⟨c1, ev1, ex1, sta1⟩ := own_enum na14 (hw _ (List.mem_of_getElem? (i := 6) rfl)) (hw _ (List.mem_of_getElem? (i := 26) rfl))
  obtain ⟨c2, ev2, ex2, sta2⟩ := own_enum na12 (hw _ (List.mem_of_getElem? (i := 6) rfl)) (hw _ (List.mem_of_getElem? (i := 24) rfl))
  obtain ⟨c3, ev3, ex3, sta3⟩ := own_enum na10 (hw _ (List.mem_of_getElem? (i := 6) rfl)) (hw _ (List.mem_of_getElem? (i := 22) rfl))
  obtain ⟨c4, ev4, ex4, sta4⟩ := own_enum na16 (hw _ (List.mem_of_getElem? (i := 6) rfl)) (hw _ (List.mem_of_getElem? (i := 38) rfl))
  obtain ⟨c5, ev5, ex5, sta5⟩ := own_enum na1 (hw _ (List.mem_of_getElem? (i := 6) rfl)) (hw _ (List.mem_of_getElem? (i := 14) rfl))
  obtain ⟨c6, ev6, ex6, sta6⟩ := own_enum na4 (hw _ (List.mem_of_getElem? (i := 6) rfl)) (hw _ (List.mem_of_getElem? (i := 16) rfl))
  obtain ⟨c7, ev7, ex7, sta7⟩ := own_enum na6 (hw _ (List.mem_of_getElem? (i := 6) rfl)) (hw _ (List.mem_of_getElem? (i := 18) rfl))
  obtain ⟨c8, ev8, ex8, sta8⟩ := own_enum na8 (hw _ (List.mem_of_getElem? (i := 6) rfl)) (hw _ (List.mem_of_getElem? (i := 20) rfl))
  have ord0 := own_fld ev0 (Term.int_eval 0) na2
  have ord1 := own_fld ev1 (Term.int_eval 1) na15
  have ord2 := own_fld ev2 (Term.int_eval 2) na13
  have ord3 := own_fld ev3 (Term.int_eval 3) na11
  have ord4 := own_fld ev4 (Term.int_eval 4) na17
  have ord5 := own_fld ev5 (Term.int_eval 5) na3
  have ord6 := own_fld ev6 (Term.int_eval 6) na5
  have ord7 := own_fld ev7 (Term.int_eval 7) na7
  have ord8 := own_fld ev8 (Term.int_eval 8) na9
  have n0_1 : ¬ c0 = c1 := Fld.ne ord0 ord1 (fun q => absurd (Value.int.inj q) (by decide))
  have n0_2 : ¬ c0 = c2 := Fld.ne ord0 ord2 (fun q => absurd (Value.int.inj q) (by decide))
  have n0_3 : ¬ c0 = c3 := Fld.ne ord0 ord3 (fun q => absurd (Value.int.inj q) (by decide))
  have n0_5 : ¬ c0 = c5 := Fld.ne ord0 ord5 (fun q => absurd (Value.int.inj q) (by decide))
  have n0_6 : ¬ c0 = c6 := Fld.ne ord0 ord6 (fun q => absurd (Value.int.inj q) (by decide))
  have n0_7 : ¬ c0 = c7 := Fld.ne ord0 ord7 (fun q => absurd (Value.int.inj q) (by decide))
  have n0_8 : ¬ c0 = c8 := Fld.ne ord0 ord8 (fun q => absurd (Value.int.inj q) (by decide))
  have n1_0 : ¬ c1 = c0 := Fld.ne ord1 ord0 (fun q => absurd (Value.int.inj q) (by decide))
  have n1_2 : ¬ c1 = c2 := Fld.ne ord1 ord2 (fun q => absurd (Value.int.inj q) (by decide))
  have n1_3 : ¬ c1 = c3 := Fld.ne ord1 ord3 (fun q => absurd (Value.int.inj q) (by decide))
  have n1_5 : ¬ c1 = c5 := Fld.ne ord1 ord5 (fun q => absurd (Value.int.inj q) (by decide))
  have n1_6 : ¬ c1 = c6 := Fld.ne ord1 ord6 (fun q => absurd (Value.int.inj q) (by decide))
  have n1_7 : ¬ c1 = c7 := Fld.ne ord1 ord7 (fun q => absurd (Value.int.inj q) (by decide))
  have n1_8 : ¬ c1 = c8 := Fld.ne ord1 ord8 (fun q => absurd (Value.int.inj q) (by decide))
  have n2_0 : ¬ c2 = c0 := Fld.ne ord2 ord0 (fun q => absurd (Value.int.inj q) (by decide))
  have n2_1 : ¬ c2 = c1 := Fld.ne ord2 ord1 (fun q => absurd (Value.int.inj q) (by decide))
  have n2_3 : ¬ c2 = c3 := Fld.ne ord2 ord3 (fun q => absurd (Value.int.inj q) (by decide))
  have n2_5 : ¬ c2 = c5 := Fld.ne ord2 ord5 (fun q => absurd (Value.int.inj q) (by decide))
  have n2_6 : ¬ c2 = c6 := Fld.ne ord2 ord6 (fun q => absurd (Value.int.inj q) (by decide))
  have n2_7 : ¬ c2 = c7 := Fld.ne ord2 ord7 (fun q => absurd (Value.int.inj q) (by decide))
  have n2_8 : ¬ c2 = c8 := Fld.ne ord2 ord8 (fun q => absurd (Value.int.inj q) (by decide))
  have n3_0 : ¬ c3 = c0 := Fld.ne ord3 ord0 (fun q => absurd (Value.int.inj q) (by decide))
  have n3_1 : ¬ c3 = c1 := Fld.ne ord3 ord1 (fun q => absurd (Value.int.inj q) (by decide))
  have n3_2 : ¬ c3 = c2 := Fld.ne ord3 ord2 (fun q => absurd (Value.int.inj q) (by decide))
  have n3_5 : ¬ c3 = c5 := Fld.ne ord3 ord5 (fun q => absurd (Value.int.inj q) (by decide))
  have n3_6 : ¬ c3 = c6 := Fld.ne ord3 ord6 (fun q => absurd (Value.int.inj q) (by decide))
  have n3_7 : ¬ c3 = c7 := Fld.ne ord3 ord7 (fun q => absurd (Value.int.inj q) (by decide))
  have n3_8 : ¬ c3 = c8 := Fld.ne ord3 ord8 (fun q => absurd (Value.int.inj q) (by decide))
  have n4_0 : ¬ c4 = c0 := Fld.ne ord4 ord0 (fun q => absurd (Value.int.inj q) (by decide))
  have n4_1 : ¬ c4 = c1 := Fld.ne ord4 ord1 (fun q => absurd (Value.int.inj q) (by decide))
  have n4_2 : ¬ c4 = c2 := Fld.ne ord4 ord2 (fun q => absurd (Value.int.inj q) (by decide))
  have n4_3 : ¬ c4 = c3 := Fld.ne ord4 ord3 (fun q => absurd (Value.int.inj q) (by decide))
  have n4_5 : ¬ c4 = c5 := Fld.ne ord4 ord5 (fun q => absurd (Value.int.inj q) (by decide))
  have n4_6 : ¬ c4 = c6 := Fld.ne ord4 ord6 (fun q => absurd (Value.int.inj q) (by decide))
  have n4_7 : ¬ c4 = c7 := Fld.ne ord4 ord7 (fun q => absurd (Value.int.inj q) (by decide))
  have n4_8 : ¬ c4 = c8 := Fld.ne ord4 ord8 (fun q => absurd (Value.int.inj q) (by decide))
  have n5_0 : ¬ c5 = c0 := Fld.ne ord5 ord0 (fun q => absurd (Value.int.inj q) (by decide))
  have n5_1 : ¬ c5 = c1 := Fld.ne ord5 ord1 (fun q => absurd (Value.int.inj q) (by decide))
  have n5_2 : ¬ c5 = c2 := Fld.ne ord5 ord2 (fun q => absurd (Value.int.inj q) (by decide))
  have n5_3 : ¬ c5 = c3 := Fld.ne ord5 ord3 (fun q => absurd (Value.int.inj q) (by decide))
  have n5_6 : ¬ c5 = c6 := Fld.ne ord5 ord6 (fun q => absurd (Value.int.inj q) (by decide))
  have n5_7 : ¬ c5 = c7 := Fld.ne ord5 ord7 (fun q => absurd (Value.int.inj q) (by decide))
  have n5_8 : ¬ c5 = c8 := Fld.ne ord5 ord8 (fun q => absurd (Value.int.inj q) (by decide))
  have n6_0 : ¬ c6 = c0 := Fld.ne ord6 ord0 (fun q => absurd (Value.int.inj q) (by decide))
  have n6_1 : ¬ c6 = c1 := Fld.ne ord6 ord1 (fun q => absurd (Value.int.inj q) (by decide))
  have n6_2 : ¬ c6 = c2 := Fld.ne ord6 ord2 (fun q => absurd (Value.int.inj q) (by decide))
  have n6_3 : ¬ c6 = c3 := Fld.ne ord6 ord3 (fun q => absurd (Value.int.inj q) (by decide))
  have n6_5 : ¬ c6 = c5 := Fld.ne ord6 ord5 (fun q => absurd (Value.int.inj q) (by decide))
  have n6_7 : ¬ c6 = c7 := Fld.ne ord6 ord7 (fun q => absurd (Value.int.inj q) (by decide))
  have n6_8 : ¬ c6 = c8 := Fld.ne ord6 ord8 (fun q => absurd (Value.int.inj q) (by decide))
  have n7_0 : ¬ c7 = c0 := Fld.ne ord7 ord0 (fun q => absurd (Value.int.inj q) (by decide))
  have n7_1 : ¬ c7 = c1 := Fld.ne ord7 ord1 (fun q => absurd (Value.int.inj q) (by decide))
  have n7_2 : ¬ c7 = c2 := Fld.ne ord7 ord2 (fun q => absurd (Value.int.inj q) (by decide))
  have n7_3 : ¬ c7 = c3 := Fld.ne ord7 ord3 (fun q => absurd (Value.int.inj q) (by decide))
  have n7_5 : ¬ c7 = c5 := Fld.ne ord7 ord5 (fun q => absurd (Value.int.inj q) (by decide))
  have n7_6 : ¬ c7 = c6 := Fld.ne ord7 ord6 (fun q => absurd (Value.int.inj q) (by decide))
  have n7_8 : ¬ c7 = c8 := Fld.ne ord7 ord8 (fun q => absurd (Value.int.inj q) (by decide))
  have n8_0 : ¬ c8 = c0 := Fld.ne ord8 ord0 (fun q => absurd (Value.int.inj q) (by decide))
  have n8_1 : ¬ c8 = c1 := Fld.ne ord8 ord1 (fun q => absurd (Value.int.inj q) (by decide))
  have n8_2 : ¬ c8 = c2 := Fld.ne ord8 ord2 (fun q => absurd (Value.int.inj q) (by decide))
  have n8_3 : ¬ c8 = c3 := Fld.ne ord8 ord3 (fun q => absurd (Value.int.inj q) (by decide))
  have n8_5 : ¬ c8 = c5 := Fld.ne ord8 ord5 (fun q => absurd (Value.int.inj q) (by decide))
  have n8_6 : ¬ c8 = c6 := Fld.ne ord8 ord6 (fun q => absurd (Value.int.inj q) (by decide))
  have n8_7 : ¬ c8 = c7 := Fld.ne ord8 ord7 (fun q => absurd (Value.int.inj q) (by decide))
  have hE : ∀ i : Int32, Exa s s.heap (own_pick i c0 c1 c2 c3 c4 c5 c6 c7 c8) "com/example/xml_grammar_check/xmlgrammarcheck/datatypes/ValueKind" := fun i => by unfold own_pick; split; exact ex0; split; exact ex1; split; exact ex2; split; exact ex3; split; exact ex4; split; exact ex5; split; exact ex6; split; exact ex7; exact ex8
  have hG0 : ∀ i : Int32, own_in i → i < 5 → own_has (own_pick i c0 c1 c2 c3 c4 c5 c6 c7 c8) c5 c6 c7 c8 = 0 := fun i h q => by
    rcases h with rfl | rfl | rfl | rfl | rfl | rfl | rfl | rfl | rfl
    · exact (((if_neg n0_5).trans ((if_neg n0_6).trans ((if_neg n0_7).trans (if_neg n0_8)))) : own_has c0 c5 c6 c7 c8 = 0)
    · exact (((if_neg n1_5).trans ((if_neg n1_6).trans ((if_neg n1_7).trans (if_neg n1_8)))) : own_has c1 c5 c6 c7 c8 = 0)
    · exact (((if_neg n2_5).trans ((if_neg n2_6).trans ((if_neg n2_7).trans (if_neg n2_8)))) : own_has c2 c5 c6 c7 c8 = 0)
    · exact (((if_neg n3_5).trans ((if_neg n3_6).trans ((if_neg n3_7).trans (if_neg n3_8)))) : own_has c3 c5 c6 c7 c8 = 0)
    · exact (((if_neg n4_5).trans ((if_neg n4_6).trans ((if_neg n4_7).trans (if_neg n4_8)))) : own_has c4 c5 c6 c7 c8 = 0)
    · exact absurd q (by decide)
    · exact absurd q (by decide)
    · exact absurd q (by decide)
    · exact absurd q (by decide)
  have hG1 : ∀ i : Int32, own_in i → ¬ i < 5 → own_has (own_pick i c0 c1 c2 c3 c4 c5 c6 c7 c8) c5 c6 c7 c8 = 1 := fun i h q => by
    rcases h with rfl | rfl | rfl | rfl | rfl | rfl | rfl | rfl | rfl
    · exact absurd (by decide) q
    · exact absurd (by decide) q
    · exact absurd (by decide) q
    · exact absurd (by decide) q
    · exact absurd (by decide) q
    · exact ((if_pos rfl) : own_has c5 c5 c6 c7 c8 = 1)
    · exact (((if_neg n6_5).trans (if_pos rfl)) : own_has c6 c5 c6 c7 c8 = 1)
    · exact (((if_neg n7_5).trans ((if_neg n7_6).trans (if_pos rfl))) : own_has c7 c5 c6 c7 c8 = 1)
    · exact (((if_neg n8_5).trans ((if_neg n8_6).trans ((if_neg n8_7).trans (if_pos rfl)))) : own_has c8 c5 c6 c7 c8 = 1)
  have hL0 : ∀ i : Int32, own_in i → ¬ i < 5 → own_has (own_pick i c0 c1 c2 c3 c4 c5 c6 c7 c8) c0 c1 c2 c3 = 0 := fun i h q => by
    rcases h with rfl | rfl | rfl | rfl | rfl | rfl | rfl | rfl | rfl
    · exact absurd (by decide) q
    · exact absurd (by decide) q
    · exact absurd (by decide) q
    · exact absurd (by decide) q
    · exact absurd (by decide) q
    · exact (((if_neg n5_0).trans ((if_neg n5_1).trans ((if_neg n5_2).trans (if_neg n5_3)))) : own_has c5 c0 c1 c2 c3 = 0)
    · exact (((if_neg n6_0).trans ((if_neg n6_1).trans ((if_neg n6_2).trans (if_neg n6_3)))) : own_has c6 c0 c1 c2 c3 = 0)
    · exact (((if_neg n7_0).trans ((if_neg n7_1).trans ((if_neg n7_2).trans (if_neg n7_3)))) : own_has c7 c0 c1 c2 c3 = 0)
    · exact (((if_neg n8_0).trans ((if_neg n8_1).trans ((if_neg n8_2).trans (if_neg n8_3)))) : own_has c8 c0 c1 c2 c3 = 0)
  obtain ⟨n, o, h1, h2, h3, _, L, rfl, ⟨rfl, N⟩, hq⟩ := rm0 l s _ hw tables_1 i0 c0 c1 c2 c3 c4 c5 c6 c7 c8 s.heap s.heap.size (Nat.le_refl _) (Old.start s) sta0 sta1 sta2 sta3 sta4 sta5 sta6 sta7 sta8 hE hG0 hG1 hL0 p e ha hc hk s m _ below hf ((Spec.applies_iff_loose hf).mp happ).1 ⟨rfl, State.Warmed39.refl s, rfl⟩ trivial
  refine ⟨n, _, h1, h2, h3, hpost _ _ _ _ _ _ ⟨Cond.after_iff.mpr rfl, Cond.after_iff.mpr (eq_i res_at (Term.int_eval (1)) rfl), trivial⟩ ⟨hq.1, hq.2.1, (hq.2.2.sift fun y hy => Or.inr (N y hy)).mono (by decide) (by decide)⟩⟩
theorem main_1_1 : Claimed_1_1 := comes_1 fun _ _ _ _ _ _ h hF => ⟨h.1, hF⟩
theorem main_1_2 : Claimed_1_2 := comes_1 fun _ _ _ _ _ _ h hF => ⟨h.2.1, hF⟩
end Jvm.Pilot.@@N@@
namespace Jvm.Pilot.@@N@@
open Jvm Jvm.ClassFile Sem Op Lib Jvm.Free Jvm.Stand Jvm.Pilot.@@N@@.Jvm.D
/-! MADE BY PROGRAM (witnessworld.py) out of the Statement's table words and the real class files: 12 classes; the members and pool entries that the words name. The judged class is class 1, her method 1. -/
namespace start1
open Jvm.ClassFile
def u (s : String) : CpInfo := .utf8 (stringToUtf16 s)
/-- a pool by its gaps: so many unusable entries, then the entry; so many at the end -/
def gap : Nat → List CpInfo → List CpInfo
  | 0, r => r
  | n + 1, r => .unusable :: gap n r
def poolList (es : List (Nat × CpInfo)) (last : Nat) : List CpInfo := es.foldr (fun e r => gap e.1 (e.2 :: r)) (gap last [])
def pool (es : List (Nat × CpInfo)) (last : Nat) : Array CpInfo := ⟨poolList es last⟩
def fileOf (pool : Array CpInfo) (this : Nat) (attrs : Array Attribute := #[]) (ms : Array MethodInfo := #[]) (fl : Nat := 33) (sup : Nat := 0) (ifs : Array Nat := #[]) (fds : Array FieldInfo := #[]) : ClassFile where
  minorVersion := 0
  majorVersion := 65
  constantPool := pool
  accessFlags := fl
  thisClass := this
  superClass := sup
  interfaces := ifs
  fields := fds
  methods := ms
  attributes := attrs
def plain (name : String) (sup : Option ClassId) : Class where
  name := name
  kind := .ordinary
  loader := none
  accessFlags := 33
  super := sup
  interfaces := #[]
  cf := none
  fields := #[]
  methods := #[]
  instanceTypes := #[]
  staticTypes := #[]
  resolved := #[]
  callSites := []
  init := .initialized
  statics := none
  mirror := none

def pool0 : Array CpInfo := pool [(5, u "<init>"), (0, u "()V"), (1, .class_ 10), (1, u "java/lang/Object")] 113

def k0m0 : Method := { name := "<init>", desc := "()V", sig := { parameters := [], returnType := none }, accessFlags := 1, code := none }
/-- java/lang/Object -/
def k0 : Class := { plain "java/lang/Object" none with
  accessFlags := 33
  interfaces := #[]
  cf := some (fileOf pool0 8 #[] #[{ accessFlags := 1, nameIndex := 5, descriptorIndex := 6, attributes := #[] }] 33 0 #[] #[])
  fields := #[]
  methods := #[k0m0]
  instanceTypes := #[]
  staticTypes := #[]
  resolved := Array.replicate 124 none
  statics := none }

def pool1 : Array CpInfo := pool [(2, .class_ 4), (1, u "java/lang/Object"), (0, u "<init>"), (0, u "()V"), (0, .integer 2147483647), (0, .methodref 9 10), (0, .class_ 11), (0, .nameAndType 12 13), (0, u "com/example/xml_grammar_check/xmlgrammarcheck/datatypes/ValueKindIsOrderedPinLaw"), (0, u "pick"), (0, u "(I)Lcom/example/xml_grammar_check/xmlgrammarcheck/datatypes/ValueKind;"), (0, .methodref 15 16), (0, .class_ 17), (0, .nameAndType 18 19), (0, u "com/example/xml_grammar_check/xmlgrammarcheck/datatypes/ValueKind"), (0, u "isOrdered"), (0, u "()Z"), (0, .methodref 15 21), (0, .nameAndType 22 19), (0, u "hasLength"), (0, .fieldref 15 24), (0, .nameAndType 25 26), (0, u "TEXT"), (0, u "Lcom/example/xml_grammar_check/xmlgrammarcheck/datatypes/ValueKind;"), (0, .fieldref 15 28), (0, .nameAndType 29 26), (0, u "LIST"), (0, .fieldref 15 31), (0, .nameAndType 32 26), (0, u "QNAME"), (0, .fieldref 15 34), (0, .nameAndType 35 26), (0, u "OCTETS"), (0, .fieldref 15 37), (0, .nameAndType 38 26), (0, u "BOOLEAN"), (0, .fieldref 15 40), (0, .nameAndType 41 26), (0, u "DECIMAL"), (0, .fieldref 15 43), (0, .nameAndType 44 26), (0, u "FLOATING"), (0, .fieldref 15 46), (0, .nameAndType 47 26), (0, u "DURATION"), (0, .fieldref 15 49), (0, .nameAndType 50 26), (0, u "DATE_TIME"), (2, u "law"), (0, u "(I)Z")] 3

def k1m0 : Method := { name := "<init>", desc := "()V", sig := { parameters := [], returnType := none }, accessFlags := 1, code := none }
def k1c1 : Code := { maxStack := 2, maxLocals := 5, code := code, exceptionTable := #[], attributes := #[] }
def k1m1 : Method := { name := "law", desc := "(I)Z", sig := { parameters := [.int], returnType := some .boolean }, accessFlags := 9, code := some k1c1 }
def k1c2 : Code := { maxStack := 2, maxLocals := 1, code := method_3_code, exceptionTable := #[], attributes := #[] }
def k1m2 : Method := { name := "pick", desc := "(I)Lcom/example/xml_grammar_check/xmlgrammarcheck/datatypes/ValueKind;", sig := { parameters := [.int], returnType := some (.object "com/example/xml_grammar_check/xmlgrammarcheck/datatypes/ValueKind") }, accessFlags := 10, code := some k1c2 }
/-- com/example/xml_grammar_check/xmlgrammarcheck/datatypes/ValueKindIsOrderedPinLaw -/
def k1 : Class := { plain "com/example/xml_grammar_check/xmlgrammarcheck/datatypes/ValueKindIsOrderedPinLaw" (some 0) with
  accessFlags := 49
  interfaces := #[]
  cf := some (fileOf pool1 9 #[] #[{ accessFlags := 1, nameIndex := 5, descriptorIndex := 6, attributes := #[] }, { accessFlags := 9, nameIndex := 53, descriptorIndex := 54, attributes := #[] }, { accessFlags := 10, nameIndex := 12, descriptorIndex := 13, attributes := #[] }] 49 2 #[] #[])
  fields := #[]
  methods := #[k1m0, k1m1, k1m2]
  instanceTypes := #[]
  staticTypes := #[]
  resolved := Array.replicate 58 none
  statics := none }

def pool2 : Array CpInfo := pool [(1, .class_ 2), (0, u "java/lang/constant/Constable"), (0, .class_ 4), (0, u "java/lang/Object")] 6

/-- java/lang/constant/Constable -/
def k2 : Class := { plain "java/lang/constant/Constable" (some 0) with
  accessFlags := 1537
  interfaces := #[]
  cf := some (fileOf pool2 1 #[] #[] 1537 3 #[] #[])
  fields := #[]
  methods := #[]
  instanceTypes := #[]
  staticTypes := #[]
  resolved := Array.replicate 11 none
  statics := none }

def pool3 : Array CpInfo := pool [(1, .class_ 2), (0, u "java/lang/Comparable"), (0, .class_ 4), (0, u "java/lang/Object")] 7

/-- java/lang/Comparable -/
def k3 : Class := { plain "java/lang/Comparable" (some 0) with
  accessFlags := 1537
  interfaces := #[]
  cf := some (fileOf pool3 1 #[] #[] 1537 3 #[] #[])
  fields := #[]
  methods := #[]
  instanceTypes := #[]
  staticTypes := #[]
  resolved := Array.replicate 12 none
  statics := none }

def pool4 : Array CpInfo := pool [(1, .class_ 2), (0, u "java/io/Serializable"), (0, .class_ 4), (0, u "java/lang/Object")] 2

/-- java/io/Serializable -/
def k4 : Class := { plain "java/io/Serializable" (some 0) with
  accessFlags := 1537
  interfaces := #[]
  cf := some (fileOf pool4 1 #[] #[] 1537 3 #[] #[])
  fields := #[]
  methods := #[]
  instanceTypes := #[]
  staticTypes := #[]
  resolved := Array.replicate 7 none
  statics := none }

def pool5 : Array CpInfo := pool [(2, .class_ 4), (1, u "java/lang/Enum"), (0, u "name"), (0, u "Ljava/lang/String;"), (2, u "ordinal"), (0, u "I"), (1, .class_ 14), (1, u "java/lang/Object"), (4, u "hash"), (86, .class_ 108), (1, u "java/lang/Enum$EnumDesc"), (2, .class_ 112), (0, u "java/lang/constant/Constable"), (0, .class_ 114), (0, u "java/lang/Comparable"), (0, .class_ 116), (0, u "java/io/Serializable")] 87

/-- java/lang/Enum -/
def k5 : Class := { plain "java/lang/Enum" (some 0) with
  accessFlags := 1057
  interfaces := #[2, 3, 4]
  cf := some (fileOf pool5 2 #[.nestMembers #[106]] #[] 1057 12 #[111, 113, 115] #[{ accessFlags := 18, nameIndex := 5, descriptorIndex := 6, attributes := #[] }, { accessFlags := 18, nameIndex := 9, descriptorIndex := 10, attributes := #[] }, { accessFlags := 2, nameIndex := 19, descriptorIndex := 10, attributes := #[] }])
  fields := #[{ name := "name", type := (.object "java/lang/String"), accessFlags := 18, slot := 0, constantValue := 0 }, { name := "ordinal", type := .int, accessFlags := 18, slot := 1, constantValue := 0 }, { name := "hash", type := .int, accessFlags := 2, slot := 2, constantValue := 0 }]
  methods := #[]
  instanceTypes := #[(.object "java/lang/String"), .int, .int]
  staticTypes := #[]
  resolved := Array.replicate 204 none
  statics := none }

def pool6 : Array CpInfo := pool [(1, .class_ 2), (0, u "com/example/xml_grammar_check/xmlgrammarcheck/datatypes/ValueKind"), (0, .fieldref 1 4), (0, .nameAndType 5 6), (0, u "TEXT"), (0, u "Lcom/example/xml_grammar_check/xmlgrammarcheck/datatypes/ValueKind;"), (0, .fieldref 1 8), (0, .nameAndType 9 6), (0, u "LIST"), (0, .fieldref 1 11), (0, .nameAndType 12 6), (0, u "QNAME"), (0, .fieldref 1 14), (0, .nameAndType 15 6), (0, u "OCTETS"), (2, u "BOOLEAN"), (0, .fieldref 1 20), (0, .nameAndType 21 6), (0, u "DECIMAL"), (0, .fieldref 1 23), (0, .nameAndType 24 6), (0, u "FLOATING"), (0, .fieldref 1 26), (0, .nameAndType 27 6), (0, u "DURATION"), (0, .fieldref 1 29), (0, .nameAndType 30 6), (0, u "DATE_TIME"), (2, u "$VALUES"), (0, u "[Lcom/example/xml_grammar_check/xmlgrammarcheck/datatypes/ValueKind;"), (6, .class_ 43), (1, u "java/lang/Enum"), (98, u "hasLength"), (0, u "()Z"), (1, u "isOrdered")] 23

def k6c0 : Code := { maxStack := 2, maxLocals := 1, code := prog_184_method_4_code, exceptionTable := #[], attributes := #[] }
def k6m0 : Method := { name := "hasLength", desc := "()Z", sig := { parameters := [], returnType := some .boolean }, accessFlags := 0, code := some k6c0 }
def k6c1 : Code := { maxStack := 2, maxLocals := 1, code := prog_184_method_5_code, exceptionTable := #[], attributes := #[] }
def k6m1 : Method := { name := "isOrdered", desc := "()Z", sig := { parameters := [], returnType := some .boolean }, accessFlags := 0, code := some k6c1 }
/-- com/example/xml_grammar_check/xmlgrammarcheck/datatypes/ValueKind -/
def k6 : Class := { plain "com/example/xml_grammar_check/xmlgrammarcheck/datatypes/ValueKind" (some 5) with
  accessFlags := 16432
  interfaces := #[]
  cf := some (fileOf pool6 1 #[] #[{ accessFlags := 0, nameIndex := 142, descriptorIndex := 143, attributes := #[] }, { accessFlags := 0, nameIndex := 145, descriptorIndex := 143, attributes := #[] }] 16432 41 #[] #[{ accessFlags := 16409, nameIndex := 5, descriptorIndex := 6, attributes := #[] }, { accessFlags := 16409, nameIndex := 9, descriptorIndex := 6, attributes := #[] }, { accessFlags := 16409, nameIndex := 12, descriptorIndex := 6, attributes := #[] }, { accessFlags := 16409, nameIndex := 15, descriptorIndex := 6, attributes := #[] }, { accessFlags := 16409, nameIndex := 18, descriptorIndex := 6, attributes := #[] }, { accessFlags := 16409, nameIndex := 21, descriptorIndex := 6, attributes := #[] }, { accessFlags := 16409, nameIndex := 24, descriptorIndex := 6, attributes := #[] }, { accessFlags := 16409, nameIndex := 27, descriptorIndex := 6, attributes := #[] }, { accessFlags := 16409, nameIndex := 30, descriptorIndex := 6, attributes := #[] }, { accessFlags := 4122, nameIndex := 33, descriptorIndex := 34, attributes := #[] }])
  fields := #[{ name := "TEXT", type := (.object "com/example/xml_grammar_check/xmlgrammarcheck/datatypes/ValueKind"), accessFlags := 16409, slot := 0, constantValue := 0 }, { name := "LIST", type := (.object "com/example/xml_grammar_check/xmlgrammarcheck/datatypes/ValueKind"), accessFlags := 16409, slot := 1, constantValue := 0 }, { name := "QNAME", type := (.object "com/example/xml_grammar_check/xmlgrammarcheck/datatypes/ValueKind"), accessFlags := 16409, slot := 2, constantValue := 0 }, { name := "OCTETS", type := (.object "com/example/xml_grammar_check/xmlgrammarcheck/datatypes/ValueKind"), accessFlags := 16409, slot := 3, constantValue := 0 }, { name := "BOOLEAN", type := (.object "com/example/xml_grammar_check/xmlgrammarcheck/datatypes/ValueKind"), accessFlags := 16409, slot := 4, constantValue := 0 }, { name := "DECIMAL", type := (.object "com/example/xml_grammar_check/xmlgrammarcheck/datatypes/ValueKind"), accessFlags := 16409, slot := 5, constantValue := 0 }, { name := "FLOATING", type := (.object "com/example/xml_grammar_check/xmlgrammarcheck/datatypes/ValueKind"), accessFlags := 16409, slot := 6, constantValue := 0 }, { name := "DURATION", type := (.object "com/example/xml_grammar_check/xmlgrammarcheck/datatypes/ValueKind"), accessFlags := 16409, slot := 7, constantValue := 0 }, { name := "DATE_TIME", type := (.object "com/example/xml_grammar_check/xmlgrammarcheck/datatypes/ValueKind"), accessFlags := 16409, slot := 8, constantValue := 0 }, { name := "$VALUES", type := (.array (.object "com/example/xml_grammar_check/xmlgrammarcheck/datatypes/ValueKind")), accessFlags := 4122, slot := 9, constantValue := 0 }]
  methods := #[k6m0, k6m1]
  instanceTypes := #[(.object "java/lang/String"), .int, .int]
  staticTypes := #[(.object "com/example/xml_grammar_check/xmlgrammarcheck/datatypes/ValueKind"), (.object "com/example/xml_grammar_check/xmlgrammarcheck/datatypes/ValueKind"), (.object "com/example/xml_grammar_check/xmlgrammarcheck/datatypes/ValueKind"), (.object "com/example/xml_grammar_check/xmlgrammarcheck/datatypes/ValueKind"), (.object "com/example/xml_grammar_check/xmlgrammarcheck/datatypes/ValueKind"), (.object "com/example/xml_grammar_check/xmlgrammarcheck/datatypes/ValueKind"), (.object "com/example/xml_grammar_check/xmlgrammarcheck/datatypes/ValueKind"), (.object "com/example/xml_grammar_check/xmlgrammarcheck/datatypes/ValueKind"), (.object "com/example/xml_grammar_check/xmlgrammarcheck/datatypes/ValueKind"), (.array (.object "com/example/xml_grammar_check/xmlgrammarcheck/datatypes/ValueKind"))]
  resolved := Array.replicate 169 none
  statics := some 0 }

def pool7 : Array CpInfo := pool [(1, u "java/lang/Cloneable"), (0, .class_ 1), (0, u "java/lang/Object"), (0, .class_ 3)] 3

/-- java/lang/Cloneable -/
def k7 : Class := { plain "java/lang/Cloneable" (some 0) with
  accessFlags := 1537
  interfaces := #[]
  cf := some (fileOf pool7 2 #[] #[] 1537 4 #[] #[])
  fields := #[]
  methods := #[]
  instanceTypes := #[]
  staticTypes := #[]
  resolved := Array.replicate 8 none
  statics := none }

/-- the primitive byte -/
def k8 : Class := { plain "byte" none with kind := .primitive 'B', accessFlags := 0x411 }
/-- [B -/
def k9 : Class := { plain "[B" (some 0) with kind := .array 8 .byte, interfaces := #[7, 4], accessFlags := 1041 }

/-- the primitive int -/
def k10 : Class := { plain "int" none with kind := .primitive 'I', accessFlags := 0x411 }
/-- [I -/
def k11 : Class := { plain "[I" (some 0) with kind := .array 10 .int, interfaces := #[7, 4], accessFlags := 1041 }

def heap : Heap := #[{ cls := 6, slots := #[.ref 1, .ref 2, .ref 3, .ref 4, .ref 5, .ref 6, .ref 7, .ref 8, .ref 9, .null], vm := .statics 6 },
  { cls := 6, slots := #[.null, .int 0, .int 0], vm := .none },
  { cls := 6, slots := #[.null, .int 1, .int 0], vm := .none },
  { cls := 6, slots := #[.null, .int 2, .int 0], vm := .none },
  { cls := 6, slots := #[.null, .int 3, .int 0], vm := .none },
  { cls := 6, slots := #[.null, .int 4, .int 0], vm := .none },
  { cls := 6, slots := #[.null, .int 5, .int 0], vm := .none },
  { cls := 6, slots := #[.null, .int 6, .int 0], vm := .none },
  { cls := 6, slots := #[.null, .int 7, .int 0], vm := .none },
  { cls := 6, slots := #[.null, .int 8, .int 0], vm := .none }]
def classes : Array Class := #[k0, k1, k2, k3, k4, k5, k6, k7, k8, k9, k10, k11]
def interned : List (Array UInt16 × Addr) := []
def slotsUsed : Nat := 37
def theMethod : MethodId := ⟨1, 1⟩
def args0 : Array Value := #[.int 5]
def aboutOver (below : List Frame) : State where
  vm := { classes := classes, interned := interned.toArray }
  heap := heap
  slotsUsed := slotsUsed
  threads := #[{ frames := .invoking theMethod args0 :: below }]
def below0 : List Frame := [.native { method := ⟨0, 0⟩, args := #[] }]
def about1 : State := aboutOver below0
def p0 : Program := .bare "" "" ""
def e0 : Env := launch0.env 0 0 0
theorem w_frames : about1.frames = Frame.invoking theMethod args0 :: below0 := rfl
set_option maxRecDepth 65536 in
theorem w_args : argsFit about1.vm theMethod args0 = true := by decide +kernel
set_option maxRecDepth 65536 in
theorem w_heap : heapFits about1 = true := by decide +kernel
set_option maxRecDepth 65536 in
theorem w_runnable : about1.curStatus? = some .runnable := by decide +kernel
set_option maxRecDepth 65536 in
theorem w_alone : about1.alone = true := by decide +kernel
set_option maxRecDepth 65536 in
theorem w_named : about1.methodNamed? x = some theMethod := by decide +kernel
set_option maxRecDepth 65536 in
theorem w_hears : about1.hears theMethod below0 = true := by decide +kernel
set_option maxRecDepth 65536 in
theorem w_ripe : about1.ripe theMethod args0 below0 = true := by decide +kernel
theorem w_running : about1.status = .running := rfl
set_option maxRecDepth 65536 in
theorem w_room : about1.hasRoom e0.platform room_1 = true :=
  launch0.hasRoom_least _ room_1 (by decide +kernel) (by decide +kernel) (by decide +kernel) (by decide +kernel) (by decide +kernel) (by decide +kernel)
theorem allAtoms_all (ts : List Jvm.Cond) (a : Array Jvm.Value) (st : Jvm.State) : (allAtoms ts).before a st = ts.all (fun c => c.before a st) := by
  induction ts with
  | nil => rfl
  | cons c t ih =>
    show (Jvm.Cond.and c (allAtoms t)).before a st = _
    rw [Jvm.Cond.before_and, ih, List.all_cons]
def words1 : List Jvm.Cond := Jvm.Cond.code x code maxLocals ret :: tables_1
/-- a 'code' word, met by the world's own term for the bytes: nothing is compared byte by byte -/
theorem code_word {y : MethodName} {bytes : ByteArray} {mx : Nat} {rt : Option FieldType} {a : Array Value} {s : State} {m : MethodId} {meth : Method} {c : Code} (h1 : s.methodNamed? y = some m) (h2 : s.vm.method? m = some meth) (h3 : meth.code = some c) (h4 : c.code = bytes)
    (h5 : (c.maxLocals == mx && c.exceptionTable.isEmpty && decide (c.maxStack ≤ mostOperands) && decide (meth.sig.returnType = rt) && !meth.locks && decide (parseMethodDescriptor y.desc = some meth.sig)) = true) : (Jvm.Cond.code y bytes mx rt).before a s = true := by
  simp only [Bool.and_eq_true, beq_iff_eq, Bool.not_eq_true', decide_eq_true_eq] at h5
  obtain ⟨⟨⟨⟨⟨g1, g2⟩, g3⟩, g4⟩, g5⟩, g6⟩ := h5
  simp [Cond.before, Cond.holds, Cond.value, h1, h2, h3, h4, g1, g2, g3, g4, g5, g6]
def isCode : Jvm.Cond → Bool
  | .code _ _ _ _ => true
  | _ => false
theorem all_split {L : List Jvm.Cond} {P : Jvm.Cond → Bool} (h1 : L.all (fun c => isCode c || P c) = true) (h2 : ∀ c ∈ L.filter isCode, P c = true) : L.all P = true := by
  refine List.all_eq_true.mpr fun c hc => ?_
  have h := List.all_eq_true.mp h1 c hc
  rcases Bool.eq_false_or_eq_true (isCode c) with hi | hi
  · exact h2 c (List.mem_filter.mpr ⟨hc, hi⟩)
  · simpa [hi] using h
set_option maxRecDepth 65536 in
theorem w_c0 : (Jvm.Cond.code x code maxLocals ret).before args0 about1 = true := code_word (m := ⟨1, 1⟩) (meth := k1m1) (c := k1c1) (by decide +kernel) rfl rfl rfl (by decide +kernel)
set_option maxRecDepth 65536 in
theorem w_c1 : (Jvm.Cond.code ({ cls := "com/example/xml_grammar_check/xmlgrammarcheck/datatypes/ValueKindIsOrderedPinLaw", name := "pick", desc := "(I)Lcom/example/xml_grammar_check/xmlgrammarcheck/datatypes/ValueKind;" } : Jvm.MethodName) method_3_code (1 : Nat) (Option.some (Jvm.ClassFile.FieldType.object "com/example/xml_grammar_check/xmlgrammarcheck/datatypes/ValueKind"))).before args0 about1 = true := code_word (m := ⟨1, 2⟩) (meth := k1m2) (c := k1c2) (by decide +kernel) rfl rfl rfl (by decide +kernel)
set_option maxRecDepth 65536 in
theorem w_c2 : (Jvm.Cond.code ({ cls := "com/example/xml_grammar_check/xmlgrammarcheck/datatypes/ValueKind", name := "isOrdered", desc := "()Z" } : Jvm.MethodName) prog_184_method_5_code (1 : Nat) (Option.some Jvm.ClassFile.FieldType.boolean)).before args0 about1 = true := code_word (m := ⟨6, 1⟩) (meth := k6m1) (c := k6c1) (by decide +kernel) rfl rfl rfl (by decide +kernel)
set_option maxRecDepth 65536 in
theorem w_c3 : (Jvm.Cond.code ({ cls := "com/example/xml_grammar_check/xmlgrammarcheck/datatypes/ValueKind", name := "hasLength", desc := "()Z" } : Jvm.MethodName) prog_184_method_4_code (1 : Nat) (Option.some Jvm.ClassFile.FieldType.boolean)).before args0 about1 = true := code_word (m := ⟨6, 0⟩) (meth := k6m0) (c := k6c0) (by decide +kernel) rfl rfl rfl (by decide +kernel)
def codes1 : List Jvm.Cond := [Jvm.Cond.code x code maxLocals ret, Jvm.Cond.code ({ cls := "com/example/xml_grammar_check/xmlgrammarcheck/datatypes/ValueKindIsOrderedPinLaw", name := "pick", desc := "(I)Lcom/example/xml_grammar_check/xmlgrammarcheck/datatypes/ValueKind;" } : Jvm.MethodName) method_3_code (1 : Nat) (Option.some (Jvm.ClassFile.FieldType.object "com/example/xml_grammar_check/xmlgrammarcheck/datatypes/ValueKind")), Jvm.Cond.code ({ cls := "com/example/xml_grammar_check/xmlgrammarcheck/datatypes/ValueKind", name := "isOrdered", desc := "()Z" } : Jvm.MethodName) prog_184_method_5_code (1 : Nat) (Option.some Jvm.ClassFile.FieldType.boolean), Jvm.Cond.code ({ cls := "com/example/xml_grammar_check/xmlgrammarcheck/datatypes/ValueKind", name := "hasLength", desc := "()Z" } : Jvm.MethodName) prog_184_method_4_code (1 : Nat) (Option.some Jvm.ClassFile.FieldType.boolean)]
set_option maxRecDepth 65536 in
theorem codes_eq : words1.filter isCode = codes1 := rfl
theorem w_codes : ∀ c ∈ words1.filter isCode, c.before args0 about1 = true := by
  rw [codes_eq]
  intro c hc
  simp only [codes1, List.mem_cons, List.not_mem_nil, or_false] at hc
  rcases hc with rfl | rfl | rfl | rfl
  · exact w_c0
  · exact w_c1
  · exact w_c2
  · exact w_c3
set_option maxRecDepth 65536 in
theorem w_t1 : (words1.take 24).all (fun c => isCode c || c.before args0 about1) = true := by decide +kernel
set_option maxRecDepth 65536 in
theorem w_t2 : (words1.drop 24).all (fun c => isCode c || c.before args0 about1) = true := by decide +kernel
theorem w_tables : (allAtoms (Jvm.Cond.code x code maxLocals ret :: tables_1)).before args0 about1 = true := by
  rw [allAtoms_all]
  show words1.all (fun c => c.before args0 about1) = true
  refine all_split ?_ w_codes
  rw [← List.take_append_drop 24 words1, List.all_append, w_t1, w_t2]
  rfl
set_option maxRecDepth 65536 in
theorem w_case : (Jvm.Cond.and given_1 narrow_1).before args0 about1 = true := by decide +kernel
theorem w_applies : (headSpec (Jvm.Cond.code x code maxLocals ret :: tables_1) room_1).applies x e0.platform about1 = true :=
  (Spec.applies_iff w_frames).mpr ⟨w_running, w_runnable, w_alone, w_named, w_hears, w_ripe, w_room, w_tables⟩
theorem atStart : AtStart classFile x code maxLocals ret World_1 tables_1 room_1 Calls_1 rest_1 Pre_1 launch0 p0 e0 about1 theMethod args0 below0 :=
  ⟨lists_1, trivial, launch0.admits_env _ _ _, launch0.least_env, fairChoices_fair.cas, fairChoices_fair.clock, w_frames, w_args, w_heap, w_applies, trivial, trivial, w_case⟩
end start1
theorem witness_1 : WitnessClaimed_1 := ⟨start1.p0, start1.e0, start1.about1, start1.theMethod, start1.args0, start1.below0, start1.atStart⟩
end Jvm.Pilot.@@N@@
